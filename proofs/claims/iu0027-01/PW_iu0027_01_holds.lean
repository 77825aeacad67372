import PyProof.Rows.All
import OpenK.AllK
import Wide.All
import Wide.FinOn
import Lean
import PySem.Challenge.RW_iu0027_01
set_option Elab.async false
set_option linter.all false
section
open PySem PySem.W PyProof.Rows
set_option backward.match.sparseCases false
set_option genSizeOf false
set_option genInjectivity false
set_option maxRecDepth 100000
namespace Mine
theorem nn {α : Type} {a : α} {p : Prop} (h : none = some a) : p := nomatch h
theorem nf {p : Prop} (h : false = true) : p := nomatch h
theorem bd {α β : Type} {o : Option α} {f : α → Option β} {c : β} {P : Prop} (h : o.bind f = some c) (k : ∀ a, o = some a → f a = some c → P) : P := by cases o with | none => cases h | some a => exact k a rfl h
theorem md {α β : Type} {o : Option α} {f : α → β} {c : β} {P : β → Prop} (h : o.map f = some c) (k : ∀ a, o = some a → P (f a)) : P c := by cases o with | none => cases h | some a => cases h; exact k a rfl
theorem mdc {α β : Type} {o : Option α} {f : α → β} {c : β} {P : Prop} (h : o.map f = some c) (k : ∀ a, o = some a → f a = c → P) : P := by cases o with | none => cases h | some a => cases h; exact k a rfl rfl
theorem bd2 {α β γ : Type} {o : Option (α × β)} {f : α × β → Option γ} {c : γ} {P : Prop} (h : o.bind f = some c) (k : ∀ a b, o = some (a, b) → f (a, b) = some c → P) : P := by cases o with | none => cases h | some a => exact k a.1 a.2 rfl h
theorem bd3 {α β γ δ : Type} {o : Option (α × (β × δ))} {f : α × (β × δ) → Option γ} {c : γ} {P : Prop} (h : o.bind f = some c) (k : ∀ a b d, o = some (a, (b, d)) → f (a, (b, d)) = some c → P) : P := by cases o with | none => cases h | some a => exact k a.1 a.2.1 a.2.2 rfl h
@[elab_as_elim] theorem md2 {β γ : Type} {o : Option β} {v : β} {σ σ' : γ} {P : β → γ → Prop} (h : o.map (fun a => (a, σ)) = some (v, σ')) (k : ∀ a, o = some a → P a σ) : P v σ' := by cases o with | none => cases h | some a => cases h; exact k _ rfl
@[elab_as_elim] theorem mdE {α β : Type} {o : Option α} {f : α → β} {c : β} {P : β → Prop} (h : o.map f = some c) (k : ∀ a, o = some a → P (f a)) : P c := by cases o with | none => cases h | some a => cases h; exact k _ rfl
@[elab_as_elim] theorem s1' {β : Type} {a c : β} {P : β → Prop} (h : some a = some c) (k : P a) : P c := by cases h; exact k
theorem fold {G : Prop} (k : ∀ X : Prop, (G → X) → X) : G := k G id
@[elab_as_elim] theorem s2 {α β : Type} {a a' : α} {b b' : β} {P : α → β → Prop} (h : some (a, b) = some (a', b')) (k : P a b) : P a' b' := by cases h; exact k
@[elab_as_elim] theorem s3 {α β γ : Type} {a a' : α} {b b' : β} {c c' : γ} {P : α → β → γ → Prop} (h : some (a, (b, c)) = some (a', (b', c'))) (k : P a b c) : P a' b' c' := by cases h; exact k
theorem sd {β : Type} {a c : β} {P : β → Prop} (h : some a = some c) (k : P a) : P c := by cases h; exact k
theorem idb {β : Type} {b : Bool} {x : Option β} {c : β} {P : Prop} (h : (if (!b) = true then none else x) = some c) (k : b = true → x = some c → P) : P := by cases b with | false => cases h | true => exact k rfl h
theorem idt {β : Type} {p : Prop} [Decidable p] {x : Option β} {c : β} {P : Prop} (h : (if p then x else none) = some c) (k : p → x = some c → P) : P := by
  by_cases hp : p
  · rw [if_pos hp] at h; exact k hp h
  · rw [if_neg hp] at h; cases h
theorem idd {β : Type} {p : Prop} [Decidable p] {x y c : β} {P : Prop} (h : (if p then x else y) = c) (k : p → x = c → P) (k' : y = c → P) : P := by
  by_cases hp : p
  · rw [if_pos hp] at h; exact k hp h
  · rw [if_neg hp] at h; exact k' h
set_option genCtorIdx false in
inductive HT where
  | nil
  | node (v : Option Obj) (l r : HT)
namespace HT
noncomputable def get : HT → Nat → Option Obj
  | .nil, _ => none
  | .node v l r, i => match Nat.beq i 0 with
    | true => v
    | false => match Nat.beq (i % 2) 1 with
      | true => l.get (i / 2)
      | false => r.get (i / 2 - 1)
noncomputable def set : HT → Nat → Option Obj → HT
  | .nil, _, _ => .nil
  | .node v l r, i, o => match Nat.beq i 0 with
    | true => .node o l r
    | false => match Nat.beq (i % 2) 1 with
      | true => .node v (l.set (i / 2) o) r
      | false => .node v l (r.set (i / 2 - 1) o)
noncomputable def ins : HT → Nat → Option Obj → HT
  | .nil, _, o => .node o .nil .nil
  | .node v l r, i, o => match Nat.beq i 0 with
    | true => .node o l r
    | false => match Nat.beq (i % 2) 1 with
      | true => .node v (l.ins (i / 2) o) r
      | false => .node v l (r.ins (i / 2 - 1) o)
noncomputable def ofList : Nat → HT → List Obj → HT
  | _, t, [] => t
  | n, t, o :: r => ofList (n + 1) (t.ins n (some o)) r
end HT
structure ES where
  T : HT
  n : Nat
  toks : Nat
structure Fr where
  Γ : Ctx
  p : Pos
  k : Result → Sem Fin
noncomputable abbrev denQ : Code → Sem Fin := PySem.W.Fast.tw11892475500146522536 PySem.W.Fast.tw14364793385576792824
theorem denQ_eq : denote table = denQ := by
  rw [table_eq_tree, PySem.W.Fast.te11892475500146522536, PySem.W.Fast.te14364793385576792824]
noncomputable def pw := PySem.Challenge.pw_iu0027_01
noncomputable def c0 : Ctx := ⟨.builtin "claim.caller" {}, none, none, [], none⟩
noncomputable def boot0 (P : Params) : ES := ⟨HT.ofList 0 .nil (boot_heap P).objs.toList, 11, boot_toks⟩
end Mine
end
section
open PySem PySem.W PyProof.Rows
set_option backward.match.sparseCases false
set_option genSizeOf false
set_option genInjectivity false
set_option maxRecDepth 1000000
set_option maxHeartbeats 0
namespace Mine
theorem rd1 : readsOut PySem.Challenge.rw_iu0027_01.row.prog PySem.Challenge.rw_iu0027_01.row.prog.main.body "vars" = false := by kernel_rfl
theorem rd2 : readsOut PySem.Challenge.rw_iu0027_01.row.prog PySem.Challenge.rw_iu0027_01.row.prog.main.body "dir" = false := by kernel_rfl
theorem rd3 : readsOut PySem.Challenge.rw_iu0027_01.row.prog PySem.Challenge.rw_iu0027_01.row.prog.main.body "locals" = false := by kernel_rfl
theorem bare0 : (["vars", "dir", "locals"] : List Str).filter (readsOut PySem.Challenge.rw_iu0027_01.row.prog PySem.Challenge.rw_iu0027_01.row.prog.main.body) = [] := by
  rw [List.filter_cons_of_neg (by rw [rd1]; exact Bool.false_ne_true), List.filter_cons_of_neg (by rw [rd2]; exact Bool.false_ne_true), List.filter_cons_of_neg (by rw [rd3]; exact Bool.false_ne_true), List.filter_nil]
theorem str0 : (!(importedModules PySem.Challenge.rw_iu0027_01.row.prog.main.body).all cThrough.contains) = false := by kernel_rfl
theorem road0 : noRoadLSs { strict := false, foot := none, bare := [] } PySem.Challenge.rw_iu0027_01.row.prog.main.body = true := by kernel_rfl
theorem road : noRoadLSs { strict := !(importedModules PySem.Challenge.rw_iu0027_01.row.prog.main.body).all cThrough.contains, foot := none, bare := (["vars", "dir", "locals"] : List Str).filter (readsOut PySem.Challenge.rw_iu0027_01.row.prog PySem.Challenge.rw_iu0027_01.row.prog.main.body) } PySem.Challenge.rw_iu0027_01.row.prog.main.body = true := by
  rw [bare0, str0]; exact road0
theorem sd1 : namesResolve PySem.Challenge.rw_iu0027_01.row.prog = true := by kernel_rfl
theorem sd2 : namesMeet PySem.Challenge.rw_iu0027_01.row.prog PySem.Challenge.rw_iu0027_01.row.prog.main.body (fun _ n => attrL n) = true := by kernel_rfl
theorem sd3 : noRoadLSs { strict := true, foot := some PySem.Challenge.rw_iu0027_01.bound', writes := PySem.Challenge.rw_iu0027_01.writes, may := PySem.Challenge.rw_iu0027_01.may } PySem.Challenge.rw_iu0027_01.footing = true := by kernel_rfl
theorem sd4 : PySem.Challenge.rw_iu0027_01.namesIt = true := by kernel_rfl
theorem sd5 : PySem.Challenge.rw_iu0027_01.bound'.all (fun n => !builtinNamed n || PySem.Challenge.rw_iu0027_01.about == [n] || !PySem.Challenge.rw_iu0027_01.reads n) = true := by kernel_rfl
theorem sd6 : PySem.Challenge.rw_iu0027_01.own.all (fun n => !builtinNamed n) = true := by kernel_rfl
theorem sd7 : namesMeet PySem.Challenge.rw_iu0027_01.prog PySem.Challenge.rw_iu0027_01.above (fun _ n => !PySem.Challenge.rw_iu0027_01.own.contains n) = true := by kernel_rfl
theorem said : PySem.Challenge.rw_iu0027_01.wellSaid = true := by
  delta OpenLaw.wellSaid
  refine look_both (look_both (look_both (look_both (look_both (look_both (look_both (look_both (look_both (look_both (look_both (look_both (look_both (look_both (look_both (look_both (look_both (look_both ?_ ?_) ?_) ?_) ?_) ?_) ?_) ?_) ?_) ?_) ?_) ?_) ?_) ?_) ?_) ?_) ?_) ?_) ?_
  · delta OpenRow.wellSaid
    refine look_both (look_both ?_ ?_) ?_
    · delta OpenRow.partSaid
      refine look_both (look_both (look_both (look_both (look_both (look_both (look_both (look_both (look_both (look_both (look_both (look_both (look_both ?_ ?_) ?_) ?_) ?_) ?_) ?_) ?_) ?_) ?_) ?_) ?_) ?_) ?_
      · delta looksOpen
        refine look_both (look_both (look_both (look_both (look_both ?_ ?_) ?_) ?_) ?_) ?_
        · kernel_rfl
        · kernel_rfl
        · with_reducible exact sd1
        · kernel_rfl
        · with_reducible exact road
        · with_reducible exact sd2
      all_goals kernel_rfl
    all_goals kernel_rfl
  all_goals first | with_reducible exact sd3 | with_reducible exact sd4 | with_reducible exact sd5 | with_reducible exact sd6 | with_reducible exact sd7 | kernel_rfl
theorem bare_ : PySem.Challenge.pw_iu0027_01.bare := ⟨rfl, rfl, rfl, rfl, rfl, by decide +kernel⟩
theorem opensW : opensWell PySem.Challenge.pw_iu0027_01 = true := by kernel_rfl
end Mine
end
section
open PySem PySem.W PyProof.Rows
set_option backward.match.sparseCases false
set_option genSizeOf false
set_option genInjectivity false
set_option maxRecDepth 100000
namespace Mine
namespace HT
theorem beq_eq (a b : Nat) : Nat.beq a b = decide (a = b) := PySem.W.BT.beq_eq a b
theorem get_node (v : Option Obj) (l r : HT) (i : Nat) : (node v l r).get i = if i = 0 then v else if i % 2 = 1 then l.get (i / 2) else r.get (i / 2 - 1) := by
  show (match Nat.beq i 0 with | true => v | false => match Nat.beq (i % 2) 1 with | true => l.get (i / 2) | false => r.get (i / 2 - 1)) = _
  rw [beq_eq, beq_eq]
  by_cases h : i = 0
  · simp [h]
  · by_cases q : i % 2 = 1 <;> simp [h, q]
theorem set_node (v : Option Obj) (l r : HT) (i : Nat) (o : Option Obj) : (node v l r).set i o = if i = 0 then node o l r else if i % 2 = 1 then node v (l.set (i / 2) o) r else node v l (r.set (i / 2 - 1) o) := by
  show (match Nat.beq i 0 with | true => node o l r | false => match Nat.beq (i % 2) 1 with | true => node v (l.set (i / 2) o) r | false => node v l (r.set (i / 2 - 1) o)) = _
  rw [beq_eq, beq_eq]
  by_cases h : i = 0
  · simp [h]
  · by_cases q : i % 2 = 1 <;> simp [h, q]
theorem ins_node (v : Option Obj) (l r : HT) (i : Nat) (o : Option Obj) : (node v l r).ins i o = if i = 0 then node o l r else if i % 2 = 1 then node v (l.ins (i / 2) o) r else node v l (r.ins (i / 2 - 1) o) := by
  show (match Nat.beq i 0 with | true => node o l r | false => match Nat.beq (i % 2) 1 with | true => node v (l.ins (i / 2) o) r | false => node v l (r.ins (i / 2 - 1) o)) = _
  rw [beq_eq, beq_eq]
  by_cases h : i = 0
  · simp [h]
  · by_cases q : i % 2 = 1 <;> simp [h, q]
theorem odd_eq {i a : Nat} (hi : i % 2 = 1) (ha : a % 2 = 1) (h : i / 2 = a / 2) : i = a := by
  rw [← Nat.div_add_mod i 2, ← Nat.div_add_mod a 2, hi, ha, h]
theorem even_is {n : Nat} (n0 : n ≠ 0) (hn : ¬ n % 2 = 1) : n = 2 * (n / 2 - 1 + 1) := by
  have h1 := Nat.div_add_mod n 2
  rw [(Nat.mod_two_eq_zero_or_one n).resolve_right hn, Nat.add_zero] at h1
  have h2 : n / 2 ≠ 0 := fun q => n0 (by rw [← h1, q])
  rw [Nat.sub_add_cancel (Nat.pos_of_ne_zero h2), h1]
theorem even_eq {i a : Nat} (i0 : i ≠ 0) (hi : ¬ i % 2 = 1) (a0 : a ≠ 0) (ha : ¬ a % 2 = 1) (h : i / 2 - 1 = a / 2 - 1) : i = a :=
  (even_is i0 hi).trans ((congrArg (fun x => 2 * (x + 1)) h).trans (even_is a0 ha).symm)
theorem get_set (o : Option Obj) : ∀ (t : HT) (a i : Nat) (x : Obj), (t.set a o).get i = some x → (i = a ∧ o = some x) ∨ (i ≠ a ∧ t.get i = some x)
  | .nil, a, i, x, h => by simp [set, get] at h
  | .node v l r, a, i, x, h => by
    rw [set_node] at h
    rw [get_node]
    by_cases ha : a = 0
    · subst ha
      rw [if_pos rfl, get_node] at h
      by_cases hi : i = 0
      · subst hi; rw [if_pos rfl] at h; exact .inl ⟨rfl, h⟩
      · rw [if_neg hi] at h ⊢; exact .inr ⟨hi, h⟩
    · rw [if_neg ha] at h
      by_cases pa : a % 2 = 1
      · rw [if_pos pa, get_node] at h
        by_cases hi : i = 0
        · subst hi; rw [if_pos rfl] at h ⊢; exact .inr ⟨fun q => ha q.symm, h⟩
        · rw [if_neg hi] at h ⊢
          by_cases pi : i % 2 = 1
          · rw [if_pos pi] at h ⊢
            rcases get_set o l _ _ _ h with ⟨e, q⟩ | ⟨e, q⟩
            · exact .inl ⟨odd_eq pi pa e, q⟩
            · exact .inr ⟨fun z => e (by rw [z]), q⟩
          · rw [if_neg pi] at h ⊢
            exact .inr ⟨fun z => pi (z ▸ pa), h⟩
      · rw [if_neg pa, get_node] at h
        by_cases hi : i = 0
        · subst hi; rw [if_pos rfl] at h ⊢; exact .inr ⟨fun q => ha q.symm, h⟩
        · rw [if_neg hi] at h ⊢
          by_cases pi : i % 2 = 1
          · rw [if_pos pi] at h ⊢
            exact .inr ⟨fun z => pa (z ▸ pi), h⟩
          · rw [if_neg pi] at h ⊢
            rcases get_set o r _ _ _ h with ⟨e, q⟩ | ⟨e, q⟩
            · exact .inl ⟨even_eq hi pi ha pa e, q⟩
            · exact .inr ⟨fun z => e (by rw [z]), q⟩
theorem get_ins (o : Option Obj) : ∀ (t : HT) (a : Nat), ((t.ins a o).get a).isSome = true → ∀ i, (t.ins a o).get i = if i = a then o else t.get i
  | .nil, a, h, i => by
    have e : (HT.nil.ins a o) = node o nil nil := rfl
    rw [e, get_node] at h
    have ha : a = 0 := by
      by_cases q : a = 0
      · exact q
      · exfalso; revert h; by_cases p : a % 2 = 1 <;> simp [q, p, get]
    subst ha
    rw [e, get_node]
    by_cases hi : i = 0
    · simp [hi]
    · by_cases p : i % 2 = 1 <;> simp [hi, p, get]
  | .node v l r, a, h, i => by
    rw [ins_node] at h ⊢
    rw [get_node v l r i]
    by_cases ha : a = 0
    · subst ha
      rw [if_pos rfl, get_node]
      by_cases hi : i = 0 <;> simp [hi]
    · rw [if_neg ha] at h ⊢
      by_cases pa : a % 2 = 1
      · rw [if_pos pa] at h ⊢
        rw [get_node, if_neg ha, if_pos pa] at h
        rw [get_node]
        by_cases hi : i = 0
        · simp [hi, Ne.symm ha]
        · by_cases pi : i % 2 = 1
          · simp only [hi, pi, if_true, if_false, get_ins o l _ h]
            by_cases e : i = a
            · simp [e]
            · have : i / 2 ≠ a / 2 := fun z => e (odd_eq pi pa z)
              simp [e, this]
          · have : i ≠ a := fun q => pi (q ▸ pa)
            simp [hi, pi, this]
      · rw [if_neg pa] at h ⊢
        rw [get_node, if_neg ha, if_neg pa] at h
        rw [get_node]
        by_cases hi : i = 0
        · simp [hi, Ne.symm ha]
        · by_cases pi : i % 2 = 1
          · have : i ≠ a := fun q => pa (q ▸ pi)
            simp [hi, pi, this]
          · simp only [hi, pi, if_false, get_ins o r _ h]
            by_cases e : i = a
            · simp [e]
            · have : i / 2 - 1 ≠ a / 2 - 1 := fun z => e (even_eq hi pi ha pa z)
              simp [e, this]
end HT
structure Rep (S : Shared) (s : ES) : Prop where
  size : S.heap.objs.size = s.n
  toks : S.toks = s.toks
  at_ : ∀ a o, s.T.get a = some o → a < s.n ∧ S.heap.get? a = some o
theorem Rep.alloc {S : Shared} {s : ES} (D : Rep S s) {o : Obj} (hf : o.isFreed = false) (hg : ((s.T.ins s.n (some o)).get s.n).isSome = true) :
    Rep { S with heap := S.heap.push o } ⟨s.T.ins s.n (some o), s.n + 1, s.toks⟩ := by
  refine ⟨by show (S.heap.push o).objs.size = _; rw [Heap.size_push, D.size], D.toks, fun a x h => ?_⟩
  have h' : (s.T.ins s.n (some o)).get a = some x := h
  rw [HT.get_ins _ _ _ hg] at h'
  by_cases e : a = s.n
  · subst e
    rw [if_pos rfl] at h'
    obtain rfl := Option.some.inj h'
    refine ⟨Nat.lt_succ_self _, ?_⟩
    have := Heap.get?_push_size S.heap hf
    rw [D.size] at this
    exact this
  · rw [if_neg e] at h'
    exact ⟨Nat.lt_succ_of_lt (D.at_ _ _ h').1, Heap.get?_push_of_some _ (D.at_ _ _ h').2⟩
theorem Rep.update {S : Shared} {s : ES} (D : Rep S s) {a : Addr} {o : Obj} {g : Obj → Obj} (e : s.T.get a = some o) (hf : (g o).isFreed = false) :
    Rep { S with heap := S.heap.update a g } ⟨s.T.set a (some (g o)), s.n, s.toks⟩ := by
  have z := (D.at_ _ _ e).2
  refine ⟨by show (S.heap.update a g).objs.size = _; rw [Heap.size_after_update, D.size], D.toks, fun b x h => ?_⟩
  rcases HT.get_set _ _ _ _ _ h with ⟨rfl, q⟩ | ⟨q1, q2⟩
  · obtain rfl := Option.some.inj q
    exact ⟨(D.at_ _ _ e).1, Heap.get?_update_self g z hf⟩
  · exact ⟨(D.at_ _ _ q2).1, (Heap.get?_update_other _ _ (Ne.symm q1)).trans (D.at_ _ _ q2).2⟩
noncomputable def WpK (M : Model) (R : Result → Shared → Prop) : List Fr → Ctx → Pos → Sem Fin → Shared → Prop
  | [], Γ, p, t, S => Sem.wp M Γ t (Sem.finPost M Γ R) (fun e _ s' => R (.error e) s') p S
  | ⟨Γ', p', k⟩ :: K, Γ, p, t, S => Sem.wp M Γ t (Sem.finPost M Γ fun r s' => WpK M R K Γ' p' (k r) s') (fun e _ s' => WpK M R K Γ' p' (k (.error e)) s') p S
noncomputable def RetK (M : Model) (R : Result → Shared → Prop) : List Fr → Result → Shared → Prop
  | [] => R
  | ⟨Γ', p', k⟩ :: K => fun r s' => WpK M R K Γ' p' (k r) s'
theorem WpK_eq (M : Model) (R : Result → Shared → Prop) (K : List Fr) (Γ : Ctx) (p : Pos) (t : Sem Fin) (S : Shared) :
    WpK M R K Γ p t S = Sem.wp M Γ t (Sem.finPost M Γ (RetK M R K)) (fun e _ s' => RetK M R K (.error e) s') p S := by
  cases K with
  | nil => rfl
  | cons f K => rfl
structure Same (S S' : Shared) : Prop where
  gens : S'.gens = S.gens
  os : S'.os = S.os
  drawn : S'.drawn = S.drawn
theorem Same.refl (S : Shared) : Same S S := ⟨rfl, rfl, rfl⟩
theorem Same.trans {S₁ S₂ S₃ : Shared} (a : Same S₁ S₂) (b : Same S₂ S₃) : Same S₁ S₃ := ⟨b.1.trans a.1, b.2.trans a.2, b.3.trans a.3⟩
theorem os_ {α β : Type} {o : Option α} {b : α → Option β} {y : β} {p : Prop} (h : Option.casesOn (motive := fun _ => Option β) o none b = some y) (k : ∀ x, o = some x → b x = some y → p) : p := by
  cases o with
  | none => cases h
  | some x => exact k x rfl h
theorem bf_ {β : Type} {c : Bool} {x : Option β} {y : β} {p : Prop} (h : Bool.casesOn (motive := fun _ => Option β) c x none = some y) (k : c = false → x = some y → p) : p := by
  cases c with
  | false => exact k rfl h
  | true => cases h
theorem bt_ {β : Type} {c : Bool} {x : Option β} {y : β} {p : Prop} (h : Bool.casesOn (motive := fun _ => Option β) c none x = some y) (k : c = true → x = some y → p) : p := by
  cases c with
  | true => exact k rfl h
  | false => cases h
theorem an_ {a b : Bool} {p : Prop} (h : (a && b) = true) (k : a = true → b = true → p) : p := by
  cases a with
  | true => exact k rfl h
  | false => cases h
theorem opt_or {α β : Type} {o : Option α} {a : Option β} {b : α → Option β} {y : β} (h : Option.casesOn (motive := fun _ => Option β) o a b = some y) : (o = none ∧ a = some y) ∨ ∃ x, o = some x ∧ b x = some y := by
  cases o with
  | none => exact .inl ⟨rfl, h⟩
  | some x => exact .inr ⟨x, rfl, h⟩
theorem opt_some {α β : Type} {o : Option α} {b : α → Option β} {y : β} (h : Option.casesOn (motive := fun _ => Option β) o none b = some y) : ∃ x, o = some x ∧ b x = some y :=
  (opt_or h).elim (fun z => nomatch z.2) id
theorem bool_f {β : Type} {c : Bool} {x : Option β} {y : β} (h : Bool.casesOn (motive := fun _ => Option β) c x none = some y) : c = false ∧ x = some y := by
  cases c with
  | false => exact ⟨rfl, h⟩
  | true => cases h
theorem bool_t {β : Type} {c : Bool} {x : Option β} {y : β} (h : Bool.casesOn (motive := fun _ => Option β) c none x = some y) : c = true ∧ x = some y := by
  cases c with
  | true => exact ⟨rfl, h⟩
  | false => cases h
theorem run_last {den : Code → Sem Fin} {prog : Program} {w : World} : ∀ {n : Nat} {s : Shared} {t : Thread} {o : Outcome} {s' : Shared}, PySem.runN den prog w n s t = .halted o s' →
    ∃ k s₁ t₁, PySem.runN den prog w k s t = .running s₁ t₁ ∧ step den prog w s₁ t₁ = .halt o s'
  | 0, _, _, _, _, h => by cases h
  | n + 1, s, t, o, s', h => by
    simp only [PySem.runN] at h
    cases hs : step den prog w s t with
    | go s₂ t₂ =>
      rw [hs] at h
      obtain ⟨k, s₁, t₁, h1, h2⟩ := run_last h
      exact ⟨k + 1, s₁, t₁, by simp only [PySem.runN, hs]; exact h1, h2⟩
    | halt o₂ s₂ =>
      rw [hs] at h
      obtain ⟨rfl, rfl⟩ : o₂ = o ∧ s₂ = s' := by simpa using h
      exact ⟨0, s, t, rfl, hs⟩
section
variable {p : Prop} {f : Flow} {s' : Shared}
theorem go_nd {s : Shared} {t : Thread} (h : Step.go s t = .halt (.done f) s') : p := nomatch h
theorem halt_nd {s : Shared} {o : Outcome} (h : Step.halt o s = .halt (.done f) s') : o = .done f := by cases h; rfl
theorem nd_ite {c : Prop} [Decidable c] {a b r : Step} (h : (if c then a else b) = r) (ha : a = r → p) (hb : b = r → p) : p := by
  by_cases q : c
  · rw [if_pos q] at h; exact ha h
  · rw [if_neg q] at h; exact hb h
theorem nd_opt {α : Type} {o : Option α} {a r : Step} {b : α → Step} (h : Option.casesOn (motive := fun _ => Step) o a b = r) (ha : a = r → p) (hb : ∀ x, b x = r → p) : p := by
  cases o with
  | none => exact ha h
  | some x => exact hb x h
theorem nd_fin {s : Shared} {o : Outcome} (h : PySem.finish o s = .halt (.done f) s') (ho : o = .done f → p) : p :=
  nd_ite h (fun h => nomatch halt_nd h) fun h => ho (halt_nd h)
end
set_option smartUnfolding false in
theorem through_of_halt {den : Code → Sem Fin} {prog : Program} {w : World} {s s' : Shared} {t : Thread} {f : Flow} (h : step den prog w s t = .halt (.done f) s') : through t = true := by
  obtain ⟨heap, gens, drawn, toks, os⟩ := s
  obtain ⟨cur, code, pos, stack⟩ := t
  cases cur with
  | pure fin =>
    cases fin with
    | done f' =>
      cases stack with
      | nil => rfl
      | cons fr r => cases fr <;> exact go_nd h
    | again c => exact go_nd h
  | raise e =>
    cases stack with
    | nil => exact nd_fin h nofun
    | cons fr r => cases fr <;> exact go_nd h
  | finish e => exact nd_ite h (fun h => nomatch halt_nd h) fun h => nomatch halt_nd h
  | load a n k =>
    refine nd_opt (o := heap.get? a) (a := .halt _ _) (b := fun o => .go _ _) h ?_ ?_
    · exact fun h => nomatch halt_nd h
    · exact fun _ h => go_nd h
  | update a n g k => exact nd_ite h go_nd fun h => nomatch halt_nd h
  | choose src n k => exact nd_ite h (fun h => nomatch halt_nd h) go_nd
  | genState g k =>
    refine nd_opt (o := gens[g]?) (a := .halt _ _) (b := fun o => .go _ _) h ?_ ?_
    · exact fun h => nomatch halt_nd h
    · exact fun _ h => go_nd h
  | resume g r l k =>
    refine nd_opt h ?_ ?_
    · exact fun h => nomatch halt_nd h
    · intro x h
      cases x with
      | fresh c =>
        cases r with
        | send v => cases v <;> exact go_nd h
        | throw e => exact go_nd h
      | _ => exact go_nd h
  | yield v g0 l kk =>
    refine nd_opt h ?_ ?_
    · exact fun h => nomatch halt_nd h
    · exact fun _ h => go_nd h
  | _ => first | exact go_nd h | exact nomatch halt_nd h
theorem life_of_run {den : Code → Sem Fin} {prog : Program} {w : World} : ∀ {n : Nat} {s s' : Shared} {t t' : Thread}, PySem.runN den prog w n s t = .running s' t' → s'.heap.life = s.heap.life
  | 0, _, _, _, _, h => by cases h; rfl
  | n + 1, s, s', t, t', h => by
    simp only [PySem.runN] at h
    cases hs : step den prog w s t with
    | go s₂ t₂ => rw [hs] at h; rw [life_of_run h, step_life den prog w s s₂ t t₂ hs]
    | halt o₂ s₂ => rw [hs] at h; cases h
theorem top_runs {prog : Program} {w : World} {t : Sem Fin} {S : Shared} {P : Shared → Prop} {f : Flow} (hz : S.asleep)
    (h : Sem.wp (model prog w) c0 t (Sem.finPost (model prog w) c0 fun r s' => r = .ok f ∧ P s' ∧ s'.gens = #[]) (fun e _ s' => (.error e : Result) = .ok f ∧ P s' ∧ s'.gens = #[]) default S) :
    ∃ s₁, (∃ n t₁, schedN (denote table) prog w n (.single S ⟨t, .builtin "claim.caller" {}, default, []⟩) = .running (.single s₁ t₁) ∧ through t₁ = true) ∧ s₁.heap.life = S.heap.life ∧ P s₁ ∧ s₁.gens = #[] := by
  have h' : Sem.wp (model prog w) c0 t (Sem.finPost (model prog w) c0 fun r s' => (r = .ok f ∧ P s' ∧ s'.gens = #[]) ∧ leftWithCleanup s'.gens = false)
      (fun e _ s' => ((.error e : Result) = .ok f ∧ P s' ∧ s'.gens = #[]) ∧ leftWithCleanup s'.gens = false) default S :=
    Sem.wp_mono _ _ _ (fun fin p' s' x => finPost_mono (fun r s y => ⟨y, by rw [y.2.2]; simp [leftWithCleanup]⟩) x) (fun e p' s' y => ⟨y, by rw [y.2.2]; simp [leftWithCleanup]⟩) _ _ h
  obtain ⟨n, r, s₁, hn, rfl, hP, hg⟩ := (wp_iff_halts (M := model prog w) (c := .builtin "claim.caller" {}) (R := fun r s' => r = .ok f ∧ P s' ∧ s'.gens = #[]) ..).mp h'
  obtain ⟨s₂, hr, hf, hc⟩ := runNI_real _ _ _ hn (outcomeOf_ends _)
  obtain rfl : s₂ = s₁ := Shared.eq_of_forget_eq hf hg
  obtain ⟨k, s₃, t₃, h1, h2⟩ := run_last hr
  have e : s₂ = s₃ := step_halt_same _ _ _ _ _ _ _ h2
  subst e
  have hne : ∀ k s₂', PySem.runN (denote table) prog w k S ⟨t, .builtin "claim.caller" {}, default, []⟩ ≠ .halted (.unsupported "lifetime:generator-with-cleanup-left-suspended") s₂' := by
    intro k s₂' hk
    have a := runN_mono (denote table) prog w n k S _ _ _ hr
    have b := runN_mono (denote table) prog w k n S _ _ _ hk
    rw [Nat.add_comm, b] at a
    injection a with a1 _
    exact absurd (outcomeOf_ends (.ok f)) (by rw [← a1]; simp [Outcome.ends])
  refine ⟨s₂, ⟨k, t₃, ?_, through_of_halt h2⟩, life_of_run h1, hP, hg⟩
  rw [schedN_eq_runN (denote table) prog w S _ hz ⟨hc, hne⟩ k]
  exact congrArg Run.lift h1
namespace HT
noncomputable def gq (v : Option Obj) (l r : Nat → Option Obj) (i : Nat) : Option Obj := Bool.rec (Bool.rec (r (i / 2 - 1)) (l (i / 2)) (Nat.beq (i % 2) 1)) v (Nat.beq i 0)
noncomputable def getq (t : HT) : Nat → Option Obj := HT.rec (motive := fun _ => Nat → Option Obj) (fun _ => none) (fun v _ _ l r => gq v l r) t
noncomputable def sq (v : Option Obj) (l r : HT) (o : Option Obj) (fl fr : Nat → HT) (i : Nat) : HT := Bool.rec (Bool.rec (node v l (fr (i / 2 - 1))) (node v (fl (i / 2)) r) (Nat.beq (i % 2) 1)) (node o l r) (Nat.beq i 0)
noncomputable def setq (o : Option Obj) (t : HT) : Nat → HT := HT.rec (motive := fun _ => Nat → HT) (fun _ => .nil) (fun v l r fl fr => sq v l r o fl fr) t
noncomputable def insq (o : Option Obj) (t : HT) : Nat → HT := HT.rec (motive := fun _ => Nat → HT) (fun _ => .node o .nil .nil) (fun v l r fl fr => sq v l r o fl fr) t
theorem getq_eq : ∀ (t : HT) (i : Nat), t.getq i = t.get i
  | .nil, _ => rfl
  | .node v l r, i => by
    show gq v l.getq r.getq i = _
    rw [funext (getq_eq l), funext (getq_eq r)]
    show gq _ _ _ _ = (match Nat.beq i 0 with | true => v | false => match Nat.beq (i % 2) 1 with | true => l.get (i / 2) | false => r.get (i / 2 - 1))
    unfold gq
    cases Nat.beq i 0 <;> cases Nat.beq (i % 2) 1 <;> rfl
theorem setq_eq (o : Option Obj) : ∀ (t : HT) (i : Nat), setq o t i = t.set i o
  | .nil, _ => rfl
  | .node v l r, i => by
    show sq v l r o (setq o l) (setq o r) i = _
    rw [funext (setq_eq o l), funext (setq_eq o r)]
    show sq _ _ _ _ _ _ _ = (match Nat.beq i 0 with | true => node o l r | false => match Nat.beq (i % 2) 1 with | true => node v (l.set (i / 2) o) r | false => node v l (r.set (i / 2 - 1) o))
    unfold sq
    cases Nat.beq i 0 <;> cases Nat.beq (i % 2) 1 <;> rfl
theorem insq_eq (o : Option Obj) : ∀ (t : HT) (i : Nat), insq o t i = t.ins i o
  | .nil, _ => rfl
  | .node v l r, i => by
    show sq v l r o (insq o l) (insq o r) i = _
    rw [funext (insq_eq o l), funext (insq_eq o r)]
    show sq _ _ _ _ _ _ _ = (match Nat.beq i 0 with | true => node o l r | false => match Nat.beq (i % 2) 1 with | true => node v (l.ins (i / 2) o) r | false => node v l (r.ins (i / 2 - 1) o))
    unfold sq
    cases Nat.beq i 0 <;> cases Nat.beq (i % 2) 1 <;> rfl
end HT
section
variable {H : Type}
structure HI (H : Type) where
  ld : H → Addr → Option (Obj × H)
  al : H → Obj → Option (Addr × H)
  up : H → Addr → (Obj → Obj) → Option H
  fr : H → Tok × H
  oc : H → Code → Ctx → Option (Result × H)
noncomputable abbrev Rg (H : Type) := Ctx → Pos → List Fr → H → Sem Fin → Option (Result × H)
structure Mg (H : Type) where
  ih : Rg H
  Γ : Ctx
  p : Pos
  K : List Fr
  h : H
noncomputable def gRet (ih : Rg H) (K : List Fr) (h : H) (r : Result) : Option (Result × H) :=
  List.rec (motive := fun _ => Option (Result × H)) (some (r, h)) (fun f K _ => Fr.rec (motive := fun _ => Option (Result × H)) (fun Γ p g => ih Γ p K h (g r)) f) K
noncomputable def gAgain (den : Code → Sem Fin) (ih : Rg H) (Γ : Ctx) (p : Pos) (K : List Fr) (h : H) (c : Code) : Option (Result × H) := Bool.rec (motive := fun _ => Option (Result × H)) none (ih (Γ.goto c) p K h (den c)) c.quiet
noncomputable def gPure (den : Code → Sem Fin) (X : Mg H) (fin : Fin) : Option (Result × H) := Mg.rec (motive := fun _ => Option (Result × H)) (fun ih Γ p K h => PySem.Fin.rec (motive := fun _ => Option (Result × H)) (fun f => gRet ih K h (.ok f)) (fun c => gAgain den ih Γ p K h c) fin) X
noncomputable def gRaise (X : Mg H) (e : Value) : Option (Result × H) := Mg.rec (motive := fun _ => Option (Result × H)) (fun ih _ _ K h => gRet ih K h (.error e)) X
noncomputable def gRule (X : Mg H) (g : Unit → Sem Fin) : Option (Result × H) := Mg.rec (motive := fun _ => Option (Result × H)) (fun ih Γ p K h => ih Γ p K h (g ())) X
noncomputable def gAt (X : Mg H) (q : Pos) (g : Unit → Sem Fin) : Option (Result × H) := Mg.rec (motive := fun _ => Option (Result × H)) (fun ih Γ _ K h => ih Γ q K h (g ())) X
noncomputable def gAsk (S : Setting) (X : Mg H) (g : Setting → Sem Fin) : Option (Result × H) := Mg.rec (motive := fun _ => Option (Result × H)) (fun ih Γ p K h => ih Γ p K h (g S)) X
noncomputable def oP {α β : Type} (f : α → H → Option β) (o : Option (α × H)) : Option β := Option.rec (motive := fun _ => Option β) none (fun x => Prod.rec (motive := fun _ => Option β) f x) o
noncomputable def gLoad (I : HI H) (X : Mg H) (a : Addr) (g : Obj → Sem Fin) : Option (Result × H) := Mg.rec (motive := fun _ => Option (Result × H)) (fun ih Γ p K h => oP (fun o h => ih Γ p K h (g o)) (I.ld h a)) X
noncomputable def gAlive (I : HI H) (X : Mg H) (a : Addr) (g : Option Obj → Sem Fin) : Option (Result × H) := Mg.rec (motive := fun _ => Option (Result × H)) (fun ih Γ p K h => oP (fun o h => ih Γ p K h (g (some o))) (I.ld h a)) X
noncomputable def gAlloc (I : HI H) (X : Mg H) (o : Obj) (g : Addr → Sem Fin) : Option (Result × H) := Mg.rec (motive := fun _ => Option (Result × H)) (fun ih Γ p K h => oP (fun a h => ih Γ p K h (g a)) (I.al h o)) X
noncomputable def gUpd (I : HI H) (X : Mg H) (a : Addr) (f : Obj → Obj) (g : Unit → Sem Fin) : Option (Result × H) := Mg.rec (motive := fun _ => Option (Result × H)) (fun ih Γ p K h => Option.rec (motive := fun _ => Option (Result × H)) none (fun h => ih Γ p K h (g ())) (I.up h a f)) X
noncomputable def gFresh (I : HI H) (X : Mg H) (g : Tok → Sem Fin) : Option (Result × H) := Mg.rec (motive := fun _ => Option (Result × H)) (fun ih Γ p K h => oP (fun k h => ih Γ p K h (g k)) (some (I.fr h))) X
noncomputable def gHandled (X : Mg H) (own : Bool) (g : Option Value → Sem Fin) : Option (Result × H) := Mg.rec (motive := fun _ => Option (Result × H)) (fun ih Γ p K h => ih Γ p K h (g (Bool.rec (motive := fun _ => Option Value) Γ.handled Γ.own own))) X
noncomputable def gStack (X : Mg H) (g : List (Code × Pos) → Sem Fin) : Option (Result × H) := Mg.rec (motive := fun _ => Option (Result × H)) (fun ih Γ p K h => ih Γ p K h (g ((Γ.code, p) :: Γ.below))) X
noncomputable def gCall' (I : HI H) (den : Code → Sem Fin) (ih : Rg H) (Γ : Ctx) (p : Pos) (K : List Fr) (h : H) (g : Result → Sem Fin) (c : Code) (Γ' : Ctx) : Option (Result × H) :=
  Option.rec (motive := fun _ => Option (Result × H)) (ih Γ' p (⟨Γ, p, g⟩ :: K) h (den c)) (fun x => Prod.rec (motive := fun _ => Option (Result × H)) (fun r h => ih Γ p K h (g r)) x) (I.oc h c Γ')
noncomputable def gCall (I : HI H) (den : Code → Sem Fin) (X : Mg H) (c : Code) (hd : Option Value) (g : Result → Sem Fin) : Option (Result × H) := Mg.rec (motive := fun _ => Option (Result × H)) (fun ih Γ p K h => gCall' I den ih Γ p K h g c (Γ.enter c hd p)) X
noncomputable def gStep (I : HI H) (den : Code → Sem Fin) (S : Setting) (X : Mg H) (t : Sem Fin) : Option (Result × H) :=
  Sem.rec (motive := fun _ => Option (Result × H)) (gPure den X) (gRaise X) (fun _ => none) (fun _ => none) (fun _ g _ => gRule X g) (fun q g _ => gAt X q g) (fun a _ g _ => gLoad I X a g) (fun a _ f g _ => gUpd I X a f g) (fun o g _ => gAlloc I X o g) (fun a g _ => gAlive I X a g)
    (fun _ g _ => gRule X g) (fun _ _ _ => none) (fun g _ => gFresh I X g) (fun g _ => gAsk S X g) (fun _ _ _ _ => none) (fun _ _ _ _ => none) (fun c hd _ _ g _ => gCall I den X c hd g) (fun own g _ => gHandled X own g) (fun _ _ _ => none) (fun _ _ _ => none)
    (fun _ _ _ _ _ => none) (fun _ _ _ _ _ => none) (fun g _ => gStack X g) (fun _ _ _ => none) (fun _ _ => none) (fun _ _ _ _ _ _ => none) t
noncomputable def evg (I : HI H) (den : Code → Sem Fin) (S : Setting) (f : Nat) : Rg H := Nat.rec (motive := fun _ => Rg H) (fun _ _ _ _ _ => none) (fun _ ih Γ p K h t => gStep I den S ⟨ih, Γ, p, K, h⟩ t) f
structure HOk (M : Model) (I : HI H) (R : H → Shared → Prop) (G : H → Prop) : Prop where
  ld : ∀ {h a o h'}, I.ld h a = some (o, h') → G h' → G h ∧ ∀ S, R h S → S.heap.get? a = some o ∧ R h' S
  al : ∀ {h o a h'}, I.al h o = some (a, h') → G h' → G h ∧ ∀ S, R h S → S.heap.objs.size = a ∧ R h' { S with heap := S.heap.push o }
  up : ∀ {h a g h'}, I.up h a g = some h' → G h' → G h ∧ ∀ S, R h S → (S.heap.get? a).isSome = true ∧ R h' { S with heap := S.heap.update a g }
  fr : ∀ {h k h'}, I.fr h = (k, h') → G h' → G h ∧ ∀ S, R h S → S.toks = k ∧ R h' { S with toks := S.toks + 1 }
  oc : ∀ {h c Γ r h'}, I.oc h c Γ = some (r, h') → G h' → G h ∧ ∀ S, R h S → Γ.code = c → ∀ (p : Pos) (Q : Result → Shared → Prop), (∀ S', R h' S' → Same S S' → Q r S') → wpCode M Γ Q p S
theorem oP_some {α β : Type} {f : α → H → Option β} {o : Option (α × H)} {y : β} (e : oP f o = some y) {p : Prop} (k : ∀ a h, o = some (a, h) → f a h = some y → p) : p := by
  cases o with
  | none => cases e
  | some x => exact k x.1 x.2 rfl e
theorem sm_heap {S S' : Shared} {h : Heap} (s : Same { S with heap := h } S') : Same S S' := ⟨s.1, s.2, s.3⟩
theorem sm_toks {S S' : Shared} {k : Tok} (s : Same { S with toks := k } S') : Same S S' := ⟨s.1, s.2, s.3⟩
theorem evg_sound {M : Model} {den : Code → Sem Fin} {I : HI H} {R : H → Shared → Prop} {G : H → Prop} (hd : ∀ c, den c = M.den c) (O : HOk M I R G) : ∀ (n : Nat) (Γ : Ctx) (p : Pos) (K : List Fr) (h : H) (t : Sem Fin) (r : Result) (h' : H),
    evg I den ⟨M.prog, M.w.params⟩ n Γ p K h t = some (r, h') → G h' → G h ∧ ∀ (Q : Result → Shared → Prop) (S : Shared), R h S → (∀ S', R h' S' → Same S S' → Q r S') → Sem.wp M Γ t (Sem.finPost M Γ (RetK M Q K)) (fun e _ s' => RetK M Q K (.error e) s') p S := by
  intro n
  induction n with
  | zero => intro Γ p K h t r h' e; cases e
  | succ n ih =>
    intro Γ p K h t r h' e g
    have ih' := fun Γ p K h t e => ih Γ p K h t r h' e g
    have ret : ∀ r0, gRet (evg I den ⟨M.prog, M.w.params⟩ n) K h r0 = some (r, h') → G h ∧ ∀ (Q : Result → Shared → Prop) (S : Shared), R h S → (∀ S', R h' S' → Same S S' → Q r S') → RetK M Q K r0 S := fun r0 e => by
      cases K with
      | nil => cases e; exact ⟨g, fun Q S D hR => hR S D (.refl S)⟩
      | cons f K => obtain ⟨Γ', p', k⟩ := f; exact ⟨(ih' _ _ _ _ _ e).1, fun Q S D hR => (WpK_eq M Q K Γ' p' (k r0) S).mpr ((ih' _ _ _ _ _ e).2 Q S D hR)⟩
    cases t with
    | pure fin =>
      cases fin with
      | done f => exact ret _ e
      | again c =>
        obtain ⟨hq, e⟩ := bool_t (c := c.quiet) (x := evg I den ⟨M.prog, M.w.params⟩ n (Γ.goto c) p K h (den c)) e
        refine ⟨(ih' _ _ _ _ _ e).1, fun Q S D hR => ⟨hq, ?_⟩⟩
        have z := (ih' _ _ _ _ _ e).2 Q S D hR
        rw [hd] at z
        exact (wpCode_iff_wp ..).mpr z
    | raise x => exact ret _ e
    | rule tag k => exact ih' Γ p K h (k ()) e
    | «at» q k => exact ih' Γ q K h (k ()) e
    | point l k => exact ih' Γ p K h (k ()) e
    | ask k => exact ih' Γ p K h (k ⟨M.prog, M.w.params⟩) e
    | handled own k =>
      cases own with
      | true => exact ih' Γ p K h (k Γ.own) e
      | false => exact ih' Γ p K h (k Γ.handled) e
    | stack k => exact ih' Γ p K h (k ((Γ.code, p) :: Γ.below)) e
    | load a q k =>
      refine oP_some (show oP (fun o h => evg I den ⟨M.prog, M.w.params⟩ n Γ p K h (k o)) (I.ld h a) = some (r, h') from e) fun o h1 e1 e => ?_
      have z := ih' _ _ _ _ _ e
      have y := O.ld e1 z.1
      exact ⟨y.1, fun Q S D hR => ⟨o, (y.2 S D).1, z.2 Q S (y.2 S D).2 hR⟩⟩
    | loadIfAlive a k =>
      refine oP_some (show oP (fun o h => evg I den ⟨M.prog, M.w.params⟩ n Γ p K h (k (some o))) (I.ld h a) = some (r, h') from e) fun o h1 e1 e => ?_
      have z := ih' _ _ _ _ _ e
      have y := O.ld e1 z.1
      refine ⟨y.1, fun Q S D hR => ?_⟩
      show Sem.wp M Γ (k (S.heap.get? a)) _ _ _ _
      rw [(y.2 S D).1]
      exact z.2 Q S (y.2 S D).2 hR
    | alloc o k =>
      refine oP_some (show oP (fun a h => evg I den ⟨M.prog, M.w.params⟩ n Γ p K h (k a)) (I.al h o) = some (r, h') from e) fun a h1 e1 e => ?_
      have z := ih' _ _ _ _ _ e
      have y := O.al e1 z.1
      refine ⟨y.1, fun Q S D hR => ?_⟩
      show Sem.wp M Γ (k S.heap.objs.size) _ _ _ _
      rw [(y.2 S D).1]
      exact z.2 Q _ (y.2 S D).2 fun S' D' s => hR S' D' (sm_heap s)
    | update a q f k =>
      obtain ⟨h1, e1, e⟩ := opt_some (o := I.up h a f) (b := fun h => evg I den ⟨M.prog, M.w.params⟩ n Γ p K h (k ())) e
      have z := ih' _ _ _ _ _ e
      have y := O.up e1 z.1
      exact ⟨y.1, fun Q S D hR => ⟨(y.2 S D).1, z.2 Q _ (y.2 S D).2 fun S' D' s => hR S' D' (sm_heap s)⟩⟩
    | fresh k =>
      have z := ih' Γ p K (I.fr h).2 (k (I.fr h).1) e
      have y := O.fr (rfl : I.fr h = ((I.fr h).1, (I.fr h).2)) z.1
      refine ⟨y.1, fun Q S D hR => ?_⟩
      have w := z.2 Q _ (y.2 S D).2 fun S' D' s => hR S' D' (sm_toks s)
      rw [← (y.2 S D).1] at w
      exact w
    | call c hd' g0 l k =>
      rcases opt_or (o := I.oc h c (Γ.enter c hd' p)) (a := evg I den ⟨M.prog, M.w.params⟩ n (Γ.enter c hd' p) p (⟨Γ, p, k⟩ :: K) h (den c)) (b := fun x => evg I den ⟨M.prog, M.w.params⟩ n Γ p K x.2 (k x.1)) e with ⟨_, e⟩ | ⟨⟨r1, h1⟩, e1, e⟩
      · have z := ih' _ _ _ _ _ e
        refine ⟨z.1, fun Q S D hR => ?_⟩
        rw [Sem.wp_call, wpCode_iff_wp]
        have z := z.2 Q S D hR
        rw [hd] at z
        refine Sem.wp_mono M _ _ (fun fin p' s' x => ?_) (fun e p' s' x => (WpK_eq ..).mp x) p S z
        cases fin with
        | done f => exact (WpK_eq M Q K Γ p (k (.ok f)) s').mp x
        | again c' => exact ⟨x.1, wpCode_mono (fun r s' y => (WpK_eq M Q K Γ p (k r) s').mp y) x.2⟩
      · have z := ih' _ _ _ _ _ e
        have y := O.oc e1 z.1
        refine ⟨y.1, fun Q S D hR => ?_⟩
        rw [Sem.wp_call]
        exact y.2 S D rfl p _ fun S1 D1 sm => z.2 Q S1 D1 fun S' D' s => hR S' D' (sm.trans s)
    | unsupported | finish | register | choose | os | newGen | genState | resume | yield | fork | thread | await => cases e
end
end Mine
end
section
open PySem PySem.W PyProof.Rows
set_option genSizeOf false
set_option genInjectivity false
set_option maxRecDepth 1000000
set_option maxHeartbeats 0
namespace Mine
noncomputable abbrev de (P : Params) (name : Str) (tok : Tok) (v : Value) : DictEntry := ⟨PyData.keyHash P name, .str name tok, v⟩
noncomputable def topFn (i : Nat) : Arguments × List Stmt × Scope := match pw.main.body[i]? with
  | some (.FunctionDef _ a b _ _ _ sc _ _ _) => (a, b, sc)
  | _ => (⟨[], [], none, [], [], none, []⟩, [], ⟨.module, [], false, false, []⟩)
noncomputable def mthFn (i j : Nat) : Arguments × List Stmt × Scope := match pw.main.body[i]? with
  | some (.ClassDef _ _ _ b _ _ _ _ _ _ _) => (match b[j]? with
    | some (.FunctionDef _ a b _ _ _ sc _ _ _) => (a, b, sc)
    | _ => (⟨[], [], none, [], [], none, []⟩, [], ⟨.module, [], false, false, []⟩))
  | _ => (⟨[], [], none, [], [], none, []⟩, [], ⟨.module, [], false, false, []⟩)
noncomputable abbrev fnObj (name qual : Str) (pm : Value) (x : Arguments × List Stmt × Scope) (code : Addr) : Obj :=
  ⟨.type "function", none, .func (fnOf name qual x.1 x.2.1 x.2.2 .none .none .none pm none (.ref code) .none), #[]⟩
noncomputable def k_2 (P : Params) : Obj := ⟨.none, none, .dict #[de P "type.__subclasses__.Exception.0" 3848 (.int (1078) 0), de P "type.__subclasses__.Exception.n" 3849 (.int (5) 0), de P "type.__subclasses__.Exception.1" 3868 (.int (1091) 0), de P "type.__subclasses__.Exception.2" 3888 (.int (1104) 0), de P "type.__subclasses__.Exception.3" 3908 (.int (1117) 0), de P "type.__subclasses__.Exception.4" 3928 (.int (1130) 0)] 6, #[]⟩
noncomputable def k_3 (P : Params) : Obj := ⟨.type "dict", none, .dict #[de P "__name__" 165 (.str "law_iu0027_01" 3932), de P "__doc__" 166 (.none), de P "__package__" 167 (.none), de P "__loader__" 168 (.builtin "__main__.__loader__#opaque"), de P "__spec__" 169 (.none), de P "__annotations__" 170 (.ref 6), de P "__builtins__" 171 (.ref 4), de P "__file__" 173 (.str "/claim/cut.py" 172), de P "__cached__" 174 (.none), de P "_wall" 193 (.ref 21), de P "BaseStemmer" 437 (.ref 199), de P "Among" 472 (.ref 220), de P "ArabicStemmer" 3831 (.ref 1066), de P "lab0" 3851 (.ref 1078), de P "lab1" 3871 (.ref 1091), de P "lab2" 3891 (.ref 1104), de P "lab3" 3911 (.ref 1117), de P "lab4" 3931 (.ref 1130), de P "_law_letters" 3935 (.str ⟨#[1569, 1570, 1571, 1572, 1573, 1574, 1575, 1576, 1577, 1578, 1579, 1580, 1581, 1582, 1583, 1584, 1585, 1586, 1587, 1588, 1589, 1590, 1591, 1592, 1593, 1594, 1601, 1602, 1603, 1604, 1605, 1606, 1607, 1608, 1609, 1610]⟩ 3934), de P "_law_heads" 3941 (.ref 1140), de P "_law_owners" 3954 (.ref 1141), de P "_law_persons" 3966 (.ref 1142), de P "_law_others" 3974 (.ref 1143), de P "_law_fronts" 3980 (.ref 1150), de P "_law_part" 3989 (.ref 1157), de P "_law_unshaped" 3998 (.ref 1164), de P "_law_plain" 4008 (.ref 1171), de P "_law_less" 4018 (.ref 1178), de P "_law_ended" 4031 (.ref 1185), de P "_law_goes" 4041 (.ref 1192), de P "_law_begun" 4047 (.ref 1197), de P "_law_hamzas" 4053 (.ref 1202), de P "_law_stem" 4059 (.ref 1207), de P "law" 4065 (.ref 1212)] 34, #[]⟩
noncomputable def k_199 (P : Params) : Obj := ⟨.type "type", none, .cls { name := "BaseStemmer", bases := [.type "object"], mro := [.ref 199, .type "object"], ns := 198, qualname := "BaseStemmer", hasDict := true, slotNames := [], subclasses := [.ref 1066], abstract := false, collection := none, hasDel := false }, #[none, none, some (.str "BaseStemmer" 196), some (.str "BaseStemmer" 204), some (.builtin "object.__new__"), some (.bool true)]⟩
noncomputable def k_198 (P : Params) : Obj := ⟨.type "dict", none, .dict #[de P "__module__" 203 (.str "snowballstemmer.basestemmer" 194), de P "__firstlineno__" 207 (.int (5) 206), de P "__init__" 214 (.ref 35), de P "set_current" 222 (.ref 42), de P "get_current" 229 (.ref 49), de P "copy_from" 237 (.ref 56), de P "in_grouping" 245 (.ref 63), de P "go_in_grouping" 253 (.ref 70), de P "in_grouping_b" 261 (.ref 77), de P "go_in_grouping_b" 269 (.ref 84), de P "out_grouping" 277 (.ref 91), de P "go_out_grouping" 285 (.ref 98), de P "out_grouping_b" 293 (.ref 105), de P "go_out_grouping_b" 301 (.ref 112), de P "eq_s" 309 (.ref 119), de P "eq_s_b" 317 (.ref 126), de P "find_among" 337 (.ref 133), de P "find_among_b" 357 (.ref 140), de P "replace_s" 368 (.ref 147), de P "slice_from" 376 (.ref 154), de P "slice_del" 383 (.ref 161), de P "insert" 393 (.ref 168), de P "slice_to" 400 (.ref 175), de P "assign_to" 407 (.ref 182), de P "stemWord" 415 (.ref 189), de P "stemWords" 423 (.ref 196), de P "__static_attributes__" 430 (.ref 197), de P "__dict__" 432 (.ref 200), de P "__weakref__" 434 (.ref 201), de P "__doc__" 435 (.none)] 4, #[]⟩
noncomputable def k_220 (P : Params) : Obj := ⟨.type "type", none, .cls { name := "Among", bases := [.type "object"], mro := [.ref 220, .type "object"], ns := 219, qualname := "Among", hasDict := true, slotNames := [], subclasses := [], abstract := false, collection := none, hasDel := false }, #[none, none, some (.str "Among" 440), some (.str "Among" 448), some (.builtin "object.__new__"), some (.bool true)]⟩
noncomputable def k_219 (P : Params) : Obj := ⟨.type "dict", none, .dict #[de P "__module__" 447 (.str "snowballstemmer.among" 438), de P "__firstlineno__" 451 (.int (185) 450), de P "__init__" 461 (.ref 217), de P "__static_attributes__" 465 (.ref 218), de P "__dict__" 467 (.ref 221), de P "__weakref__" 469 (.ref 222), de P "__doc__" 470 (.none)] 4, #[]⟩
noncomputable def k_1066 (P : Params) : Obj := ⟨.type "type", none, .cls { name := "ArabicStemmer", bases := [.ref 199], mro := [.ref 1066, .ref 199, .type "object"], ns := 1065, qualname := "ArabicStemmer", hasDict := true, slotNames := [], subclasses := [], abstract := false, collection := none, hasDel := false }, #[some (.ref 225), none, some (.str "ArabicStemmer" 475), some (.str "ArabicStemmer" 483), some (.builtin "object.__new__"), some (.bool true)]⟩
noncomputable def k_1065 (P : Params) : Obj := ⟨.type "dict", none, .dict #[de P "__module__" 482 (.str "snowballstemmer.arabic_stemmer" 473), de P "__firstlineno__" 486 (.int (192) 485), de P "B_is_defined" 487 (.bool false), de P "B_is_verb" 488 (.bool false), de P "B_is_noun" 489 (.bool false), de P "r_Normalize_pre" 500 (.ref 238), de P "r_Normalize_post" 512 (.ref 245), de P "r_Checks1" 520 (.ref 252), de P "r_Prefix_Step1" 528 (.ref 259), de P "r_Prefix_Step2" 535 (.ref 266), de P "r_Prefix_Step3a_Noun" 543 (.ref 273), de P "r_Prefix_Step3b_Noun" 551 (.ref 280), de P "r_Prefix_Step3_Verb" 559 (.ref 287), de P "r_Prefix_Step4_Verb" 566 (.ref 294), de P "r_Suffix_Noun_Step1a" 574 (.ref 301), de P "r_Suffix_Noun_Step1b" 581 (.ref 308), de P "r_Suffix_Noun_Step2a" 588 (.ref 315), de P "r_Suffix_Noun_Step2b" 595 (.ref 322), de P "r_Suffix_Noun_Step2c1" 602 (.ref 329), de P "r_Suffix_Noun_Step2c2" 609 (.ref 336), de P "r_Suffix_Noun_Step3" 616 (.ref 343), de P "r_Suffix_Verb_Step1" 624 (.ref 350), de P "r_Suffix_Verb_Step2a" 632 (.ref 357), de P "r_Suffix_Verb_Step2b" 639 (.ref 364), de P "r_Suffix_Verb_Step2c" 647 (.ref 371), de P "r_Suffix_All_alef_maqsura" 654 (.ref 378), de P "_stem" 677 (.ref 385), de P "a_0" 2694 (.ref 818), de P "as_0" 2746 (.ref 819), de P "a_1" 2817 (.ref 835), de P "a_2" 2888 (.ref 851), de P "as_2" 2892 (.ref 852), de P "a_3" 2949 (.ref 865), de P "a_4" 3020 (.ref 881), de P "a_5" 3049 (.ref 888), de P "a_6" 3106 (.ref 901), de P "a_7" 3162 (.ref 914), de P "a_8" 3219 (.ref 927), de P "a_9" 3262 (.ref 937), de P "a_10" 3403 (.ref 968), de P "a_11" 3446 (.ref 978), de P "a_12" 3615 (.ref 1015), de P "a_13" 3763 (.ref 1049), de P "a_14" 3792 (.ref 1056), de P "a_15" 3820 (.ref 1063), de P "__static_attributes__" 3828 (.ref 1064), de P "__doc__" 3829 (.none)] 2, #[]⟩
noncomputable def k_1078 (P : Params) : Obj := ⟨.type "type", none, .cls { name := "lab0", bases := [.type "Exception"], mro := [.ref 1078, .type "Exception", .type "BaseException", .type "object"], ns := 1077, qualname := "lab0", hasDict := true, slotNames := [], subclasses := [], abstract := false, collection := none, hasDel := false }, #[some (.ref 1069), none, some (.str "lab0" 3832), some (.str "lab0" 3840), some (.builtin "Exception.__new__"), some (.bool true)]⟩
noncomputable def k_1077 (P : Params) : Obj := ⟨.type "dict", none, .dict #[de P "__module__" 3839 (.str "snowballstemmer.arabic_stemmer" 473), de P "__firstlineno__" 3843 (.int (817) 3842), de P "__static_attributes__" 3844 (.ref 1076), de P "__weakref__" 3846 (.ref 1079), de P "__doc__" 3847 (.none)] 3, #[]⟩
noncomputable def k_1091 (P : Params) : Obj := ⟨.type "type", none, .cls { name := "lab1", bases := [.type "Exception"], mro := [.ref 1091, .type "Exception", .type "BaseException", .type "object"], ns := 1090, qualname := "lab1", hasDict := true, slotNames := [], subclasses := [], abstract := false, collection := none, hasDel := false }, #[some (.ref 1082), none, some (.str "lab1" 3852), some (.str "lab1" 3860), some (.builtin "Exception.__new__"), some (.bool true)]⟩
noncomputable def k_1090 (P : Params) : Obj := ⟨.type "dict", none, .dict #[de P "__module__" 3859 (.str "snowballstemmer.arabic_stemmer" 473), de P "__firstlineno__" 3863 (.int (819) 3862), de P "__static_attributes__" 3864 (.ref 1089), de P "__weakref__" 3866 (.ref 1092), de P "__doc__" 3867 (.none)] 3, #[]⟩
noncomputable def k_1104 (P : Params) : Obj := ⟨.type "type", none, .cls { name := "lab2", bases := [.type "Exception"], mro := [.ref 1104, .type "Exception", .type "BaseException", .type "object"], ns := 1103, qualname := "lab2", hasDict := true, slotNames := [], subclasses := [], abstract := false, collection := none, hasDel := false }, #[some (.ref 1095), none, some (.str "lab2" 3872), some (.str "lab2" 3880), some (.builtin "Exception.__new__"), some (.bool true)]⟩
noncomputable def k_1103 (P : Params) : Obj := ⟨.type "dict", none, .dict #[de P "__module__" 3879 (.str "snowballstemmer.arabic_stemmer" 473), de P "__firstlineno__" 3883 (.int (821) 3882), de P "__static_attributes__" 3884 (.ref 1102), de P "__weakref__" 3886 (.ref 1105), de P "__doc__" 3887 (.none)] 3, #[]⟩
noncomputable def k_1117 (P : Params) : Obj := ⟨.type "type", none, .cls { name := "lab3", bases := [.type "Exception"], mro := [.ref 1117, .type "Exception", .type "BaseException", .type "object"], ns := 1116, qualname := "lab3", hasDict := true, slotNames := [], subclasses := [], abstract := false, collection := none, hasDel := false }, #[some (.ref 1108), none, some (.str "lab3" 3892), some (.str "lab3" 3900), some (.builtin "Exception.__new__"), some (.bool true)]⟩
noncomputable def k_1116 (P : Params) : Obj := ⟨.type "dict", none, .dict #[de P "__module__" 3899 (.str "snowballstemmer.arabic_stemmer" 473), de P "__firstlineno__" 3903 (.int (823) 3902), de P "__static_attributes__" 3904 (.ref 1115), de P "__weakref__" 3906 (.ref 1118), de P "__doc__" 3907 (.none)] 3, #[]⟩
noncomputable def k_1130 (P : Params) : Obj := ⟨.type "type", none, .cls { name := "lab4", bases := [.type "Exception"], mro := [.ref 1130, .type "Exception", .type "BaseException", .type "object"], ns := 1129, qualname := "lab4", hasDict := true, slotNames := [], subclasses := [], abstract := false, collection := none, hasDel := false }, #[some (.ref 1121), none, some (.str "lab4" 3912), some (.str "lab4" 3920), some (.builtin "Exception.__new__"), some (.bool true)]⟩
noncomputable def k_1129 (P : Params) : Obj := ⟨.type "dict", none, .dict #[de P "__module__" 3919 (.str "snowballstemmer.arabic_stemmer" 473), de P "__firstlineno__" 3923 (.int (825) 3922), de P "__static_attributes__" 3924 (.ref 1128), de P "__weakref__" 3926 (.ref 1131), de P "__doc__" 3927 (.none)] 3, #[]⟩
noncomputable def k_1140 (P : Params) : Obj := fnObj "_law_heads" "_law_heads" (.str "law_iu0027_01" 3932) (topFn 14) 1139
noncomputable def k_1139 (P : Params) : Obj := ⟨.type "code", none, .fields #[.str "_law_heads" 3936, .str "_law_heads" 3937, .str "/claim/cut.py" 3938, .int (829) 0, .int (0) 0, .int (0) 0, .int (0) 0, .int (3) 0, .ref 1134, .bool true, .int (181) 0, .ref 1135, .none, .ref 1136, .ref 1137, .ref 1138, .int (3939) 0, .int (829) 0, .str "/claim/cut.py" 3940], #[]⟩
noncomputable def k_1141 (P : Params) : Obj := ⟨.type "list", none, .seq #[.str ⟨#[1603, 1605, 1575]⟩ 3942, .str ⟨#[1607, 1605, 1575]⟩ 3943, .str ⟨#[1603, 1605, 1608]⟩ 3944, .str ⟨#[1606, 1575]⟩ 3945, .str ⟨#[1607, 1575]⟩ 3946, .str ⟨#[1603, 1605]⟩ 3947, .str ⟨#[1607, 1605]⟩ 3948, .str ⟨#[1603, 1606]⟩ 3949, .str ⟨#[1607, 1606]⟩ 3950, .str ⟨#[1606, 1610]⟩ 3951, .str ⟨#[1603]⟩ 3952, .str ⟨#[1607]⟩ 3953] 0, #[]⟩
noncomputable def k_1142 (P : Params) : Obj := ⟨.type "list", none, .seq #[.str ⟨#[1578, 1605, 1575]⟩ 3955, .str ⟨#[1578, 1575]⟩ 3956, .str ⟨#[1606, 1575]⟩ 3957, .str ⟨#[1578, 1606]⟩ 3958, .str ⟨#[1575, 1606]⟩ 3959, .str ⟨#[1608, 1606]⟩ 3960, .str ⟨#[1610, 1606]⟩ 3961, .str ⟨#[1575]⟩ 3962, .str ⟨#[1578]⟩ 3963, .str ⟨#[1606]⟩ 3964, .str ⟨#[1610]⟩ 3965] 0, #[]⟩
noncomputable def k_1143 (P : Params) : Obj := ⟨.type "list", none, .seq #[.str ⟨#[1578, 1605, 1608]⟩ 3967, .str ⟨#[1608, 1575]⟩ 3968, .str ⟨#[1578, 1605]⟩ 3969, .str ⟨#[1575, 1578]⟩ 3970, .str ⟨#[1608]⟩ 3971, .str ⟨#[1577]⟩ 3972, .str ⟨#[1609]⟩ 3973] 0, #[]⟩
noncomputable def k_1150 (P : Params) : Obj := fnObj "_law_fronts" "_law_fronts" (.str "law_iu0027_01" 3932) (topFn 18) 1149
noncomputable def k_1149 (P : Params) : Obj := ⟨.type "code", none, .fields #[.str "_law_fronts" 3975, .str "_law_fronts" 3976, .str "/claim/cut.py" 3977, .int (834) 0, .int (0) 0, .int (0) 0, .int (0) 0, .int (3) 0, .ref 1144, .bool true, .int (181) 0, .ref 1145, .none, .ref 1146, .ref 1147, .ref 1148, .int (3978) 0, .int (834) 0, .str "/claim/cut.py" 3979], #[]⟩
noncomputable def k_1157 (P : Params) : Obj := fnObj "_law_part" "_law_part" (.str "law_iu0027_01" 3932) (topFn 19) 1156
noncomputable def k_1156 (P : Params) : Obj := ⟨.type "code", none, .fields #[.str "_law_part" 3981, .str "_law_part" 3982, .str "/claim/cut.py" 3983, .int (836) 0, .int (1) 0, .int (0) 0, .int (0) 0, .int (3) 0, .ref 1151, .bool true, .int (181) 0, .ref 1152, .none, .ref 1153, .ref 1154, .ref 1155, .int (3987) 0, .int (836) 0, .str "/claim/cut.py" 3988], #[]⟩
noncomputable def k_1164 (P : Params) : Obj := fnObj "_law_unshaped" "_law_unshaped" (.str "law_iu0027_01" 3932) (topFn 20) 1163
noncomputable def k_1163 (P : Params) : Obj := ⟨.type "code", none, .fields #[.str "_law_unshaped" 3990, .str "_law_unshaped" 3991, .str "/claim/cut.py" 3992, .int (847) 0, .int (1) 0, .int (0) 0, .int (0) 0, .int (3) 0, .ref 1158, .bool true, .int (181) 0, .ref 1159, .none, .ref 1160, .ref 1161, .ref 1162, .int (3996) 0, .int (847) 0, .str "/claim/cut.py" 3997], #[]⟩
noncomputable def k_1171 (P : Params) : Obj := fnObj "_law_plain" "_law_plain" (.str "law_iu0027_01" 3932) (topFn 21) 1170
noncomputable def k_1170 (P : Params) : Obj := ⟨.type "code", none, .fields #[.str "_law_plain" 3999, .str "_law_plain" 4000, .str "/claim/cut.py" 4001, .int (854) 0, .int (1) 0, .int (0) 0, .int (0) 0, .int (3) 0, .ref 1165, .bool true, .int (181) 0, .ref 1166, .none, .ref 1167, .ref 1168, .ref 1169, .int (4006) 0, .int (854) 0, .str "/claim/cut.py" 4007], #[]⟩
noncomputable def k_1178 (P : Params) : Obj := fnObj "_law_less" "_law_less" (.str "law_iu0027_01" 3932) (topFn 22) 1177
noncomputable def k_1177 (P : Params) : Obj := ⟨.type "code", none, .fields #[.str "_law_less" 4009, .str "_law_less" 4010, .str "/claim/cut.py" 4011, .int (865) 0, .int (2) 0, .int (0) 0, .int (0) 0, .int (3) 0, .ref 1172, .bool true, .int (181) 0, .ref 1173, .none, .ref 1174, .ref 1175, .ref 1176, .int (4016) 0, .int (865) 0, .str "/claim/cut.py" 4017], #[]⟩
noncomputable def k_1185 (P : Params) : Obj := fnObj "_law_ended" "_law_ended" (.str "law_iu0027_01" 3932) (topFn 23) 1184
noncomputable def k_1184 (P : Params) : Obj := ⟨.type "code", none, .fields #[.str "_law_ended" 4019, .str "_law_ended" 4020, .str "/claim/cut.py" 4021, .int (871) 0, .int (2) 0, .int (0) 0, .int (0) 0, .int (3) 0, .ref 1179, .bool true, .int (181) 0, .ref 1180, .none, .ref 1181, .ref 1182, .ref 1183, .int (4029) 0, .int (871) 0, .str "/claim/cut.py" 4030], #[]⟩
noncomputable def k_1192 (P : Params) : Obj := fnObj "_law_goes" "_law_goes" (.str "law_iu0027_01" 3932) (topFn 24) 1191
noncomputable def k_1191 (P : Params) : Obj := ⟨.type "code", none, .fields #[.str "_law_goes" 4032, .str "_law_goes" 4033, .str "/claim/cut.py" 4034, .int (899) 0, .int (3) 0, .int (0) 0, .int (0) 0, .int (3) 0, .ref 1186, .bool true, .int (181) 0, .ref 1187, .none, .ref 1188, .ref 1189, .ref 1190, .int (4039) 0, .int (899) 0, .str "/claim/cut.py" 4040], #[]⟩
noncomputable def k_1197 (P : Params) : Obj := fnObj "_law_begun" "_law_begun" (.str "law_iu0027_01" 3932) (topFn 25) 1196
noncomputable def k_1196 (P : Params) : Obj := ⟨.type "code", none, .fields #[.str "_law_begun" 4042, .str "_law_begun" 4043, .str "/claim/cut.py" 4044, .int (906) 0, .int (1) 0, .int (0) 0, .int (0) 0, .int (3) 0, .ref 1193, .bool true, .int (181) 0, .ref 1194, .none, .none, .none, .ref 1195, .int (4045) 0, .int (906) 0, .str "/claim/cut.py" 4046], #[]⟩
noncomputable def k_1202 (P : Params) : Obj := fnObj "_law_hamzas" "_law_hamzas" (.str "law_iu0027_01" 3932) (topFn 26) 1201
noncomputable def k_1201 (P : Params) : Obj := ⟨.type "code", none, .fields #[.str "_law_hamzas" 4048, .str "_law_hamzas" 4049, .str "/claim/cut.py" 4050, .int (918) 0, .int (1) 0, .int (0) 0, .int (0) 0, .int (3) 0, .ref 1198, .bool true, .int (181) 0, .ref 1199, .none, .none, .none, .ref 1200, .int (4051) 0, .int (918) 0, .str "/claim/cut.py" 4052], #[]⟩
noncomputable def k_1207 (P : Params) : Obj := fnObj "_law_stem" "_law_stem" (.str "law_iu0027_01" 3932) (topFn 27) 1206
noncomputable def k_1206 (P : Params) : Obj := ⟨.type "code", none, .fields #[.str "_law_stem" 4054, .str "_law_stem" 4055, .str "/claim/cut.py" 4056, .int (923) 0, .int (1) 0, .int (0) 0, .int (0) 0, .int (3) 0, .ref 1203, .bool true, .int (181) 0, .ref 1204, .none, .none, .none, .ref 1205, .int (4057) 0, .int (923) 0, .str "/claim/cut.py" 4058], #[]⟩
noncomputable def k_1212 (P : Params) : Obj := fnObj "law" "law" (.str "law_iu0027_01" 3932) (topFn 28) 1211
noncomputable def k_1211 (P : Params) : Obj := ⟨.type "code", none, .fields #[.str "law" 4060, .str "law" 4061, .str "/claim/cut.py" 4062, .int (926) 0, .int (1) 0, .int (0) 0, .int (0) 0, .int (3) 0, .ref 1208, .bool true, .int (181) 0, .ref 1209, .none, .none, .none, .ref 1210, .int (4063) 0, .int (926) 0, .str "/claim/cut.py" 4064], #[]⟩
noncomputable def k_35 (P : Params) : Obj := fnObj "__init__" "BaseStemmer.__init__" (.str "snowballstemmer.basestemmer" 194) (mthFn 2 0) 34
noncomputable def k_34 (P : Params) : Obj := ⟨.type "code", none, .fields #[.str "__init__" 208, .str "BaseStemmer.__init__" 209, .str "/claim/cut.py" 210, .int (7) 0, .int (1) 0, .int (0) 0, .int (0) 0, .int (3) 0, .ref 29, .bool true, .int (181) 0, .ref 30, .none, .ref 31, .ref 32, .ref 33, .int (212) 0, .int (7) 0, .str "/claim/cut.py" 213], #[]⟩
noncomputable def k_42 (P : Params) : Obj := fnObj "set_current" "BaseStemmer.set_current" (.str "snowballstemmer.basestemmer" 194) (mthFn 2 1) 41
noncomputable def k_41 (P : Params) : Obj := ⟨.type "code", none, .fields #[.str "set_current" 215, .str "BaseStemmer.set_current" 216, .str "/claim/cut.py" 217, .int (10) 0, .int (2) 0, .int (0) 0, .int (0) 0, .int (3) 0, .ref 36, .bool true, .int (181) 0, .ref 37, .none, .ref 38, .ref 39, .ref 40, .int (220) 0, .int (10) 0, .str "/claim/cut.py" 221], #[]⟩
noncomputable def k_49 (P : Params) : Obj := fnObj "get_current" "BaseStemmer.get_current" (.str "snowballstemmer.basestemmer" 194) (mthFn 2 2) 48
noncomputable def k_48 (P : Params) : Obj := ⟨.type "code", none, .fields #[.str "get_current" 223, .str "BaseStemmer.get_current" 224, .str "/claim/cut.py" 225, .int (18) 0, .int (1) 0, .int (0) 0, .int (0) 0, .int (3) 0, .ref 43, .bool true, .int (181) 0, .ref 44, .none, .ref 45, .ref 46, .ref 47, .int (227) 0, .int (18) 0, .str "/claim/cut.py" 228], #[]⟩
noncomputable def k_126 (P : Params) : Obj := fnObj "eq_s_b" "BaseStemmer.eq_s_b" (.str "snowballstemmer.basestemmer" 194) (mthFn 2 13) 125
noncomputable def k_125 (P : Params) : Obj := ⟨.type "code", none, .fields #[.str "eq_s_b" 310, .str "BaseStemmer.eq_s_b" 311, .str "/claim/cut.py" 312, .int (51) 0, .int (2) 0, .int (0) 0, .int (0) 0, .int (3) 0, .ref 120, .bool true, .int (181) 0, .ref 121, .none, .ref 122, .ref 123, .ref 124, .int (315) 0, .int (51) 0, .str "/claim/cut.py" 316], #[]⟩
noncomputable def k_133 (P : Params) : Obj := fnObj "find_among" "BaseStemmer.find_among" (.str "snowballstemmer.basestemmer" 194) (mthFn 2 14) 132
noncomputable def k_132 (P : Params) : Obj := ⟨.type "code", none, .fields #[.str "find_among" 318, .str "BaseStemmer.find_among" 319, .str "/claim/cut.py" 320, .int (57) 0, .int (2) 0, .int (0) 0, .int (0) 0, .int (3) 0, .ref 127, .bool true, .int (181) 0, .ref 128, .none, .ref 129, .ref 130, .ref 131, .int (335) 0, .int (57) 0, .str "/claim/cut.py" 336], #[]⟩
noncomputable def k_140 (P : Params) : Obj := fnObj "find_among_b" "BaseStemmer.find_among_b" (.str "snowballstemmer.basestemmer" 194) (mthFn 2 15) 139
noncomputable def k_139 (P : Params) : Obj := ⟨.type "code", none, .fields #[.str "find_among_b" 338, .str "BaseStemmer.find_among_b" 339, .str "/claim/cut.py" 340, .int (102) 0, .int (2) 0, .int (0) 0, .int (0) 0, .int (3) 0, .ref 134, .bool true, .int (181) 0, .ref 135, .none, .ref 136, .ref 137, .ref 138, .int (355) 0, .int (102) 0, .str "/claim/cut.py" 356], #[]⟩
noncomputable def k_147 (P : Params) : Obj := fnObj "replace_s" "BaseStemmer.replace_s" (.str "snowballstemmer.basestemmer" 194) (mthFn 2 16) 146
noncomputable def k_146 (P : Params) : Obj := ⟨.type "code", none, .fields #[.str "replace_s" 358, .str "BaseStemmer.replace_s" 359, .str "/claim/cut.py" 360, .int (147) 0, .int (4) 0, .int (0) 0, .int (0) 0, .int (3) 0, .ref 141, .bool true, .int (181) 0, .ref 142, .none, .ref 143, .ref 144, .ref 145, .int (366) 0, .int (147) 0, .str "/claim/cut.py" 367], #[]⟩
noncomputable def k_154 (P : Params) : Obj := fnObj "slice_from" "BaseStemmer.slice_from" (.str "snowballstemmer.basestemmer" 194) (mthFn 2 17) 153
noncomputable def k_153 (P : Params) : Obj := ⟨.type "code", none, .fields #[.str "slice_from" 369, .str "BaseStemmer.slice_from" 370, .str "/claim/cut.py" 371, .int (157) 0, .int (2) 0, .int (0) 0, .int (0) 0, .int (3) 0, .ref 148, .bool true, .int (181) 0, .ref 149, .none, .ref 150, .ref 151, .ref 152, .int (374) 0, .int (157) 0, .str "/claim/cut.py" 375], #[]⟩
noncomputable def k_161 (P : Params) : Obj := fnObj "slice_del" "BaseStemmer.slice_del" (.str "snowballstemmer.basestemmer" 194) (mthFn 2 18) 160
noncomputable def k_160 (P : Params) : Obj := ⟨.type "code", none, .fields #[.str "slice_del" 377, .str "BaseStemmer.slice_del" 378, .str "/claim/cut.py" 379, .int (165) 0, .int (1) 0, .int (0) 0, .int (0) 0, .int (3) 0, .ref 155, .bool true, .int (181) 0, .ref 156, .none, .ref 157, .ref 158, .ref 159, .int (381) 0, .int (165) 0, .str "/claim/cut.py" 382], #[]⟩
noncomputable def k_189 (P : Params) : Obj := fnObj "stemWord" "BaseStemmer.stemWord" (.str "snowballstemmer.basestemmer" 194) (mthFn 2 22) 188
noncomputable def k_188 (P : Params) : Obj := ⟨.type "code", none, .fields #[.str "stemWord" 408, .str "BaseStemmer.stemWord" 409, .str "/claim/cut.py" 410, .int (177) 0, .int (2) 0, .int (0) 0, .int (0) 0, .int (3) 0, .ref 183, .bool true, .int (181) 0, .ref 184, .none, .ref 185, .ref 186, .ref 187, .int (413) 0, .int (177) 0, .str "/claim/cut.py" 414], #[]⟩
noncomputable def k_217 (P : Params) : Obj := fnObj "__init__" "Among.__init__" (.str "snowballstemmer.among" 438) (mthFn 4 0) 216
noncomputable def k_216 (P : Params) : Obj := ⟨.type "code", none, .fields #[.str "__init__" 452, .str "Among.__init__" 453, .str "/claim/cut.py" 454, .int (187) 0, .int (4) 0, .int (0) 0, .int (0) 0, .int (3) 0, .ref 211, .bool true, .int (181) 0, .ref 212, .none, .ref 213, .ref 214, .ref 215, .int (459) 0, .int (187) 0, .str "/claim/cut.py" 460], #[]⟩
noncomputable def k_238 (P : Params) : Obj := fnObj "r_Normalize_pre" "ArabicStemmer.r_Normalize_pre" (.str "snowballstemmer.arabic_stemmer" 473) (mthFn 6 3) 237
noncomputable def k_237 (P : Params) : Obj := ⟨.type "code", none, .fields #[.str "r_Normalize_pre" 490, .str "ArabicStemmer.r_Normalize_pre" 491, .str "/claim/cut.py" 492, .int (197) 0, .int (1) 0, .int (0) 0, .int (0) 0, .int (3) 0, .ref 232, .bool true, .int (181) 0, .ref 233, .none, .ref 234, .ref 235, .ref 236, .int (498) 0, .int (197) 0, .str "/claim/cut.py" 499], #[]⟩
noncomputable def k_245 (P : Params) : Obj := fnObj "r_Normalize_post" "ArabicStemmer.r_Normalize_post" (.str "snowballstemmer.arabic_stemmer" 473) (mthFn 6 4) 244
noncomputable def k_244 (P : Params) : Obj := ⟨.type "code", none, .fields #[.str "r_Normalize_post" 501, .str "ArabicStemmer.r_Normalize_post" 502, .str "/claim/cut.py" 503, .int (230) 0, .int (1) 0, .int (0) 0, .int (0) 0, .int (3) 0, .ref 239, .bool true, .int (181) 0, .ref 240, .none, .ref 241, .ref 242, .ref 243, .int (510) 0, .int (230) 0, .str "/claim/cut.py" 511], #[]⟩
noncomputable def k_252 (P : Params) : Obj := fnObj "r_Checks1" "ArabicStemmer.r_Checks1" (.str "snowballstemmer.arabic_stemmer" 473) (mthFn 6 5) 251
noncomputable def k_251 (P : Params) : Obj := ⟨.type "code", none, .fields #[.str "r_Checks1" 513, .str "ArabicStemmer.r_Checks1" 514, .str "/claim/cut.py" 515, .int (276) 0, .int (1) 0, .int (0) 0, .int (0) 0, .int (3) 0, .ref 246, .bool true, .int (181) 0, .ref 247, .none, .ref 248, .ref 249, .ref 250, .int (518) 0, .int (276) 0, .str "/claim/cut.py" 519], #[]⟩
noncomputable def k_259 (P : Params) : Obj := fnObj "r_Prefix_Step1" "ArabicStemmer.r_Prefix_Step1" (.str "snowballstemmer.arabic_stemmer" 473) (mthFn 6 6) 258
noncomputable def k_258 (P : Params) : Obj := ⟨.type "code", none, .fields #[.str "r_Prefix_Step1" 521, .str "ArabicStemmer.r_Prefix_Step1" 522, .str "/claim/cut.py" 523, .int (296) 0, .int (1) 0, .int (0) 0, .int (0) 0, .int (3) 0, .ref 253, .bool true, .int (181) 0, .ref 254, .none, .ref 255, .ref 256, .ref 257, .int (526) 0, .int (296) 0, .str "/claim/cut.py" 527], #[]⟩
noncomputable def k_266 (P : Params) : Obj := fnObj "r_Prefix_Step2" "ArabicStemmer.r_Prefix_Step2" (.str "snowballstemmer.arabic_stemmer" 473) (mthFn 6 7) 265
noncomputable def k_265 (P : Params) : Obj := ⟨.type "code", none, .fields #[.str "r_Prefix_Step2" 529, .str "ArabicStemmer.r_Prefix_Step2" 530, .str "/claim/cut.py" 531, .int (320) 0, .int (1) 0, .int (0) 0, .int (0) 0, .int (3) 0, .ref 260, .bool true, .int (181) 0, .ref 261, .none, .ref 262, .ref 263, .ref 264, .int (533) 0, .int (320) 0, .str "/claim/cut.py" 534], #[]⟩
noncomputable def k_273 (P : Params) : Obj := fnObj "r_Prefix_Step3a_Noun" "ArabicStemmer.r_Prefix_Step3a_Noun" (.str "snowballstemmer.arabic_stemmer" 473) (mthFn 6 8) 272
noncomputable def k_272 (P : Params) : Obj := ⟨.type "code", none, .fields #[.str "r_Prefix_Step3a_Noun" 536, .str "ArabicStemmer.r_Prefix_Step3a_Noun" 537, .str "/claim/cut.py" 538, .int (337) 0, .int (1) 0, .int (0) 0, .int (0) 0, .int (3) 0, .ref 267, .bool true, .int (181) 0, .ref 268, .none, .ref 269, .ref 270, .ref 271, .int (541) 0, .int (337) 0, .str "/claim/cut.py" 542], #[]⟩
noncomputable def k_280 (P : Params) : Obj := fnObj "r_Prefix_Step3b_Noun" "ArabicStemmer.r_Prefix_Step3b_Noun" (.str "snowballstemmer.arabic_stemmer" 473) (mthFn 6 9) 279
noncomputable def k_279 (P : Params) : Obj := ⟨.type "code", none, .fields #[.str "r_Prefix_Step3b_Noun" 544, .str "ArabicStemmer.r_Prefix_Step3b_Noun" 545, .str "/claim/cut.py" 546, .int (353) 0, .int (1) 0, .int (0) 0, .int (0) 0, .int (3) 0, .ref 274, .bool true, .int (181) 0, .ref 275, .none, .ref 276, .ref 277, .ref 278, .int (549) 0, .int (353) 0, .str "/claim/cut.py" 550], #[]⟩
noncomputable def k_287 (P : Params) : Obj := fnObj "r_Prefix_Step3_Verb" "ArabicStemmer.r_Prefix_Step3_Verb" (.str "snowballstemmer.arabic_stemmer" 473) (mthFn 6 10) 286
noncomputable def k_286 (P : Params) : Obj := ⟨.type "code", none, .fields #[.str "r_Prefix_Step3_Verb" 552, .str "ArabicStemmer.r_Prefix_Step3_Verb" 553, .str "/claim/cut.py" 554, .int (373) 0, .int (1) 0, .int (0) 0, .int (0) 0, .int (3) 0, .ref 281, .bool true, .int (181) 0, .ref 282, .none, .ref 283, .ref 284, .ref 285, .int (557) 0, .int (373) 0, .str "/claim/cut.py" 558], #[]⟩
noncomputable def k_294 (P : Params) : Obj := fnObj "r_Prefix_Step4_Verb" "ArabicStemmer.r_Prefix_Step4_Verb" (.str "snowballstemmer.arabic_stemmer" 473) (mthFn 6 11) 293
noncomputable def k_293 (P : Params) : Obj := ⟨.type "code", none, .fields #[.str "r_Prefix_Step4_Verb" 560, .str "ArabicStemmer.r_Prefix_Step4_Verb" 561, .str "/claim/cut.py" 562, .int (397) 0, .int (1) 0, .int (0) 0, .int (0) 0, .int (3) 0, .ref 288, .bool true, .int (181) 0, .ref 289, .none, .ref 290, .ref 291, .ref 292, .int (564) 0, .int (397) 0, .str "/claim/cut.py" 565], #[]⟩
noncomputable def k_301 (P : Params) : Obj := fnObj "r_Suffix_Noun_Step1a" "ArabicStemmer.r_Suffix_Noun_Step1a" (.str "snowballstemmer.arabic_stemmer" 473) (mthFn 6 12) 300
noncomputable def k_300 (P : Params) : Obj := ⟨.type "code", none, .fields #[.str "r_Suffix_Noun_Step1a" 567, .str "ArabicStemmer.r_Suffix_Noun_Step1a" 568, .str "/claim/cut.py" 569, .int (409) 0, .int (1) 0, .int (0) 0, .int (0) 0, .int (3) 0, .ref 295, .bool true, .int (181) 0, .ref 296, .none, .ref 297, .ref 298, .ref 299, .int (572) 0, .int (409) 0, .str "/claim/cut.py" 573], #[]⟩
noncomputable def k_308 (P : Params) : Obj := fnObj "r_Suffix_Noun_Step1b" "ArabicStemmer.r_Suffix_Noun_Step1b" (.str "snowballstemmer.arabic_stemmer" 473) (mthFn 6 13) 307
noncomputable def k_307 (P : Params) : Obj := ⟨.type "code", none, .fields #[.str "r_Suffix_Noun_Step1b" 575, .str "ArabicStemmer.r_Suffix_Noun_Step1b" 576, .str "/claim/cut.py" 577, .int (429) 0, .int (1) 0, .int (0) 0, .int (0) 0, .int (3) 0, .ref 302, .bool true, .int (181) 0, .ref 303, .none, .ref 304, .ref 305, .ref 306, .int (579) 0, .int (429) 0, .str "/claim/cut.py" 580], #[]⟩
noncomputable def k_315 (P : Params) : Obj := fnObj "r_Suffix_Noun_Step2a" "ArabicStemmer.r_Suffix_Noun_Step2a" (.str "snowballstemmer.arabic_stemmer" 473) (mthFn 6 14) 314
noncomputable def k_314 (P : Params) : Obj := ⟨.type "code", none, .fields #[.str "r_Suffix_Noun_Step2a" 582, .str "ArabicStemmer.r_Suffix_Noun_Step2a" 583, .str "/claim/cut.py" 584, .int (440) 0, .int (1) 0, .int (0) 0, .int (0) 0, .int (3) 0, .ref 309, .bool true, .int (181) 0, .ref 310, .none, .ref 311, .ref 312, .ref 313, .int (586) 0, .int (440) 0, .str "/claim/cut.py" 587], #[]⟩
noncomputable def k_322 (P : Params) : Obj := fnObj "r_Suffix_Noun_Step2b" "ArabicStemmer.r_Suffix_Noun_Step2b" (.str "snowballstemmer.arabic_stemmer" 473) (mthFn 6 15) 321
noncomputable def k_321 (P : Params) : Obj := ⟨.type "code", none, .fields #[.str "r_Suffix_Noun_Step2b" 589, .str "ArabicStemmer.r_Suffix_Noun_Step2b" 590, .str "/claim/cut.py" 591, .int (450) 0, .int (1) 0, .int (0) 0, .int (0) 0, .int (3) 0, .ref 316, .bool true, .int (181) 0, .ref 317, .none, .ref 318, .ref 319, .ref 320, .int (593) 0, .int (450) 0, .str "/claim/cut.py" 594], #[]⟩
noncomputable def k_329 (P : Params) : Obj := fnObj "r_Suffix_Noun_Step2c1" "ArabicStemmer.r_Suffix_Noun_Step2c1" (.str "snowballstemmer.arabic_stemmer" 473) (mthFn 6 16) 328
noncomputable def k_328 (P : Params) : Obj := ⟨.type "code", none, .fields #[.str "r_Suffix_Noun_Step2c1" 596, .str "ArabicStemmer.r_Suffix_Noun_Step2c1" 597, .str "/claim/cut.py" 598, .int (460) 0, .int (1) 0, .int (0) 0, .int (0) 0, .int (3) 0, .ref 323, .bool true, .int (181) 0, .ref 324, .none, .ref 325, .ref 326, .ref 327, .int (600) 0, .int (460) 0, .str "/claim/cut.py" 601], #[]⟩
noncomputable def k_336 (P : Params) : Obj := fnObj "r_Suffix_Noun_Step2c2" "ArabicStemmer.r_Suffix_Noun_Step2c2" (.str "snowballstemmer.arabic_stemmer" 473) (mthFn 6 17) 335
noncomputable def k_335 (P : Params) : Obj := ⟨.type "code", none, .fields #[.str "r_Suffix_Noun_Step2c2" 603, .str "ArabicStemmer.r_Suffix_Noun_Step2c2" 604, .str "/claim/cut.py" 605, .int (471) 0, .int (1) 0, .int (0) 0, .int (0) 0, .int (3) 0, .ref 330, .bool true, .int (181) 0, .ref 331, .none, .ref 332, .ref 333, .ref 334, .int (607) 0, .int (471) 0, .str "/claim/cut.py" 608], #[]⟩
noncomputable def k_343 (P : Params) : Obj := fnObj "r_Suffix_Noun_Step3" "ArabicStemmer.r_Suffix_Noun_Step3" (.str "snowballstemmer.arabic_stemmer" 473) (mthFn 6 18) 342
noncomputable def k_342 (P : Params) : Obj := ⟨.type "code", none, .fields #[.str "r_Suffix_Noun_Step3" 610, .str "ArabicStemmer.r_Suffix_Noun_Step3" 611, .str "/claim/cut.py" 612, .int (482) 0, .int (1) 0, .int (0) 0, .int (0) 0, .int (3) 0, .ref 337, .bool true, .int (181) 0, .ref 338, .none, .ref 339, .ref 340, .ref 341, .int (614) 0, .int (482) 0, .str "/claim/cut.py" 615], #[]⟩
noncomputable def k_350 (P : Params) : Obj := fnObj "r_Suffix_Verb_Step1" "ArabicStemmer.r_Suffix_Verb_Step1" (.str "snowballstemmer.arabic_stemmer" 473) (mthFn 6 19) 349
noncomputable def k_349 (P : Params) : Obj := ⟨.type "code", none, .fields #[.str "r_Suffix_Verb_Step1" 617, .str "ArabicStemmer.r_Suffix_Verb_Step1" 618, .str "/claim/cut.py" 619, .int (493) 0, .int (1) 0, .int (0) 0, .int (0) 0, .int (3) 0, .ref 344, .bool true, .int (181) 0, .ref 345, .none, .ref 346, .ref 347, .ref 348, .int (622) 0, .int (493) 0, .str "/claim/cut.py" 623], #[]⟩
noncomputable def k_357 (P : Params) : Obj := fnObj "r_Suffix_Verb_Step2a" "ArabicStemmer.r_Suffix_Verb_Step2a" (.str "snowballstemmer.arabic_stemmer" 473) (mthFn 6 20) 356
noncomputable def k_356 (P : Params) : Obj := ⟨.type "code", none, .fields #[.str "r_Suffix_Verb_Step2a" 625, .str "ArabicStemmer.r_Suffix_Verb_Step2a" 626, .str "/claim/cut.py" 627, .int (513) 0, .int (1) 0, .int (0) 0, .int (0) 0, .int (3) 0, .ref 351, .bool true, .int (181) 0, .ref 352, .none, .ref 353, .ref 354, .ref 355, .int (630) 0, .int (513) 0, .str "/claim/cut.py" 631], #[]⟩
noncomputable def k_364 (P : Params) : Obj := fnObj "r_Suffix_Verb_Step2b" "ArabicStemmer.r_Suffix_Verb_Step2b" (.str "snowballstemmer.arabic_stemmer" 473) (mthFn 6 21) 363
noncomputable def k_363 (P : Params) : Obj := ⟨.type "code", none, .fields #[.str "r_Suffix_Verb_Step2b" 633, .str "ArabicStemmer.r_Suffix_Verb_Step2b" 634, .str "/claim/cut.py" 635, .int (537) 0, .int (1) 0, .int (0) 0, .int (0) 0, .int (3) 0, .ref 358, .bool true, .int (181) 0, .ref 359, .none, .ref 360, .ref 361, .ref 362, .int (637) 0, .int (537) 0, .str "/claim/cut.py" 638], #[]⟩
noncomputable def k_371 (P : Params) : Obj := fnObj "r_Suffix_Verb_Step2c" "ArabicStemmer.r_Suffix_Verb_Step2c" (.str "snowballstemmer.arabic_stemmer" 473) (mthFn 6 22) 370
noncomputable def k_370 (P : Params) : Obj := ⟨.type "code", none, .fields #[.str "r_Suffix_Verb_Step2c" 640, .str "ArabicStemmer.r_Suffix_Verb_Step2c" 641, .str "/claim/cut.py" 642, .int (547) 0, .int (1) 0, .int (0) 0, .int (0) 0, .int (3) 0, .ref 365, .bool true, .int (181) 0, .ref 366, .none, .ref 367, .ref 368, .ref 369, .int (645) 0, .int (547) 0, .str "/claim/cut.py" 646], #[]⟩
noncomputable def k_378 (P : Params) : Obj := fnObj "r_Suffix_All_alef_maqsura" "ArabicStemmer.r_Suffix_All_alef_maqsura" (.str "snowballstemmer.arabic_stemmer" 473) (mthFn 6 23) 377
noncomputable def k_377 (P : Params) : Obj := ⟨.type "code", none, .fields #[.str "r_Suffix_All_alef_maqsura" 648, .str "ArabicStemmer.r_Suffix_All_alef_maqsura" 649, .str "/claim/cut.py" 650, .int (563) 0, .int (1) 0, .int (0) 0, .int (0) 0, .int (3) 0, .ref 372, .bool true, .int (181) 0, .ref 373, .none, .ref 374, .ref 375, .ref 376, .int (652) 0, .int (563) 0, .str "/claim/cut.py" 653], #[]⟩
noncomputable def k_385 (P : Params) : Obj := fnObj "_stem" "ArabicStemmer._stem" (.str "snowballstemmer.arabic_stemmer" 473) (mthFn 6 24) 384
noncomputable def k_384 (P : Params) : Obj := ⟨.type "code", none, .fields #[.str "_stem" 655, .str "ArabicStemmer._stem" 656, .str "/claim/cut.py" 657, .int (572) 0, .int (1) 0, .int (0) 0, .int (0) 0, .int (3) 0, .ref 379, .bool true, .int (181) 0, .ref 380, .none, .ref 381, .ref 382, .ref 383, .int (675) 0, .int (572) 0, .str "/claim/cut.py" 676], #[]⟩
noncomputable def k_818 (P : Params) : Obj := ⟨.type "list", none, .seq #[.ref 387, .ref 390, .ref 393, .ref 396, .ref 399, .ref 402, .ref 405, .ref 408, .ref 411, .ref 414, .ref 417, .ref 420, .ref 423, .ref 426, .ref 429, .ref 432, .ref 435, .ref 438, .ref 441, .ref 444, .ref 447, .ref 450, .ref 453, .ref 456, .ref 459, .ref 462, .ref 465, .ref 468, .ref 471, .ref 474, .ref 477, .ref 480, .ref 483, .ref 486, .ref 489, .ref 492, .ref 495, .ref 498, .ref 501, .ref 504, .ref 507, .ref 510, .ref 513, .ref 516, .ref 519, .ref 522, .ref 525, .ref 528, .ref 531, .ref 534, .ref 537, .ref 540, .ref 543, .ref 546, .ref 549, .ref 552, .ref 555, .ref 558, .ref 561, .ref 564, .ref 567, .ref 570, .ref 573, .ref 576, .ref 579, .ref 582, .ref 585, .ref 588, .ref 591, .ref 594, .ref 597, .ref 600, .ref 603, .ref 606, .ref 609, .ref 612, .ref 615, .ref 618, .ref 621, .ref 624, .ref 627, .ref 630, .ref 633, .ref 636, .ref 639, .ref 642, .ref 645, .ref 648, .ref 651, .ref 654, .ref 657, .ref 660, .ref 663, .ref 666, .ref 669, .ref 672, .ref 675, .ref 678, .ref 681, .ref 684, .ref 687, .ref 690, .ref 693, .ref 696, .ref 699, .ref 702, .ref 705, .ref 708, .ref 711, .ref 714, .ref 717, .ref 720, .ref 723, .ref 726, .ref 729, .ref 732, .ref 735, .ref 738, .ref 741, .ref 744, .ref 747, .ref 750, .ref 753, .ref 756, .ref 759, .ref 762, .ref 765, .ref 768, .ref 771, .ref 774, .ref 777, .ref 780, .ref 783, .ref 786, .ref 789, .ref 792, .ref 795, .ref 798, .ref 801, .ref 804, .ref 807, .ref 810, .ref 813, .ref 816] 0, #[]⟩
noncomputable def k_819 (P : Params) : Obj := ⟨.type "tuple", none, .seq #[.str "" 2695, .str "0" 2696, .str "1" 2697, .str "2" 2698, .str "3" 2699, .str "4" 2700, .str "5" 2701, .str "6" 2702, .str "7" 2703, .str "8" 2704, .str "9" 2705, .str ⟨#[1569]⟩ 2706, .str ⟨#[1571]⟩ 2707, .str ⟨#[1573]⟩ 2708, .str ⟨#[1574]⟩ 2709, .str ⟨#[1570]⟩ 2710, .str ⟨#[1572]⟩ 2711, .str ⟨#[1575]⟩ 2712, .str ⟨#[1576]⟩ 2713, .str ⟨#[1577]⟩ 2714, .str ⟨#[1578]⟩ 2715, .str ⟨#[1579]⟩ 2716, .str ⟨#[1580]⟩ 2717, .str ⟨#[1581]⟩ 2718, .str ⟨#[1582]⟩ 2719, .str ⟨#[1583]⟩ 2720, .str ⟨#[1584]⟩ 2721, .str ⟨#[1585]⟩ 2722, .str ⟨#[1586]⟩ 2723, .str ⟨#[1587]⟩ 2724, .str ⟨#[1588]⟩ 2725, .str ⟨#[1589]⟩ 2726, .str ⟨#[1590]⟩ 2727, .str ⟨#[1591]⟩ 2728, .str ⟨#[1592]⟩ 2729, .str ⟨#[1593]⟩ 2730, .str ⟨#[1594]⟩ 2731, .str ⟨#[1601]⟩ 2732, .str ⟨#[1602]⟩ 2733, .str ⟨#[1603]⟩ 2734, .str ⟨#[1604]⟩ 2735, .str ⟨#[1605]⟩ 2736, .str ⟨#[1606]⟩ 2737, .str ⟨#[1607]⟩ 2738, .str ⟨#[1608]⟩ 2739, .str ⟨#[1609]⟩ 2740, .str ⟨#[1610]⟩ 2741, .str ⟨#[1604, 1575]⟩ 2742, .str ⟨#[1604, 1571]⟩ 2743, .str ⟨#[1604, 1573]⟩ 2744, .str ⟨#[1604, 1570]⟩ 2745] 0, #[]⟩
noncomputable def k_835 (P : Params) : Obj := ⟨.type "list", none, .seq #[.ref 821, .ref 824, .ref 827, .ref 830, .ref 833] 0, #[]⟩
noncomputable def k_851 (P : Params) : Obj := ⟨.type "list", none, .seq #[.ref 837, .ref 840, .ref 843, .ref 846, .ref 849] 0, #[]⟩
noncomputable def k_852 (P : Params) : Obj := ⟨.type "tuple", none, .seq #[.str ⟨#[1575]⟩ 2889, .str ⟨#[1608]⟩ 2890, .str ⟨#[1610]⟩ 2891] 0, #[]⟩
noncomputable def k_865 (P : Params) : Obj := ⟨.type "list", none, .seq #[.ref 854, .ref 857, .ref 860, .ref 863] 0, #[]⟩
noncomputable def k_881 (P : Params) : Obj := ⟨.type "list", none, .seq #[.ref 867, .ref 870, .ref 873, .ref 876, .ref 879] 0, #[]⟩
noncomputable def k_888 (P : Params) : Obj := ⟨.type "list", none, .seq #[.ref 883, .ref 886] 0, #[]⟩
noncomputable def k_901 (P : Params) : Obj := ⟨.type "list", none, .seq #[.ref 890, .ref 893, .ref 896, .ref 899] 0, #[]⟩
noncomputable def k_914 (P : Params) : Obj := ⟨.type "list", none, .seq #[.ref 903, .ref 906, .ref 909, .ref 912] 0, #[]⟩
noncomputable def k_927 (P : Params) : Obj := ⟨.type "list", none, .seq #[.ref 916, .ref 919, .ref 922, .ref 925] 0, #[]⟩
noncomputable def k_937 (P : Params) : Obj := ⟨.type "list", none, .seq #[.ref 929, .ref 932, .ref 935] 0, #[]⟩
noncomputable def k_968 (P : Params) : Obj := ⟨.type "list", none, .seq #[.ref 939, .ref 942, .ref 945, .ref 948, .ref 951, .ref 954, .ref 957, .ref 960, .ref 963, .ref 966] 0, #[]⟩
noncomputable def k_978 (P : Params) : Obj := ⟨.type "list", none, .seq #[.ref 970, .ref 973, .ref 976] 0, #[]⟩
noncomputable def k_1015 (P : Params) : Obj := ⟨.type "list", none, .seq #[.ref 980, .ref 983, .ref 986, .ref 989, .ref 992, .ref 995, .ref 998, .ref 1001, .ref 1004, .ref 1007, .ref 1010, .ref 1013] 0, #[]⟩
noncomputable def k_1049 (P : Params) : Obj := ⟨.type "list", none, .seq #[.ref 1017, .ref 1020, .ref 1023, .ref 1026, .ref 1029, .ref 1032, .ref 1035, .ref 1038, .ref 1041, .ref 1044, .ref 1047] 0, #[]⟩
noncomputable def k_1056 (P : Params) : Obj := ⟨.type "list", none, .seq #[.ref 1051, .ref 1054] 0, #[]⟩
noncomputable def k_1063 (P : Params) : Obj := ⟨.type "list", none, .seq #[.ref 1058, .ref 1061] 0, #[]⟩
noncomputable def kAddrs : List Nat := [2, 3, 199, 198, 220, 219, 1066, 1065, 1078, 1077, 1091, 1090, 1104, 1103, 1117, 1116, 1130, 1129, 1140, 1139, 1141, 1142, 1143, 1150, 1149, 1157, 1156, 1164, 1163, 1171, 1170, 1178, 1177, 1185, 1184, 1192, 1191, 1197, 1196, 1202, 1201, 1207, 1206, 1212, 1211, 35, 34, 42, 41, 49, 48, 126, 125, 133, 132, 140, 139, 147, 146, 154, 153, 161, 160, 189, 188, 217, 216, 238, 237, 245, 244, 252, 251, 259, 258, 266, 265, 273, 272, 280, 279, 287, 286, 294, 293, 301, 300, 308, 307, 315, 314, 322, 321, 329, 328, 336, 335, 343, 342, 350, 349, 357, 356, 364, 363, 371, 370, 378, 377, 385, 384, 818, 819, 835, 851, 852, 865, 881, 888, 901, 914, 927, 937, 968, 978, 1015, 1049, 1056, 1063]
noncomputable def kObjs (P : Params) : List Obj := [k_2 P, k_3 P, k_199 P, k_198 P, k_220 P, k_219 P, k_1066 P, k_1065 P, k_1078 P, k_1077 P, k_1091 P, k_1090 P, k_1104 P, k_1103 P, k_1117 P, k_1116 P, k_1130 P, k_1129 P, k_1140 P, k_1139 P, k_1141 P, k_1142 P, k_1143 P, k_1150 P, k_1149 P, k_1157 P, k_1156 P, k_1164 P, k_1163 P, k_1171 P, k_1170 P, k_1178 P, k_1177 P, k_1185 P, k_1184 P, k_1192 P, k_1191 P, k_1197 P, k_1196 P, k_1202 P, k_1201 P, k_1207 P, k_1206 P, k_1212 P, k_1211 P, k_35 P, k_34 P, k_42 P, k_41 P, k_49 P, k_48 P, k_126 P, k_125 P, k_133 P, k_132 P, k_140 P, k_139 P, k_147 P, k_146 P, k_154 P, k_153 P, k_161 P, k_160 P, k_189 P, k_188 P, k_217 P, k_216 P, k_238 P, k_237 P, k_245 P, k_244 P, k_252 P, k_251 P, k_259 P, k_258 P, k_266 P, k_265 P, k_273 P, k_272 P, k_280 P, k_279 P, k_287 P, k_286 P, k_294 P, k_293 P, k_301 P, k_300 P, k_308 P, k_307 P, k_315 P, k_314 P, k_322 P, k_321 P, k_329 P, k_328 P, k_336 P, k_335 P, k_343 P, k_342 P, k_350 P, k_349 P, k_357 P, k_356 P, k_364 P, k_363 P, k_371 P, k_370 P, k_378 P, k_377 P, k_385 P, k_384 P, k_818 P, k_819 P, k_835 P, k_851 P, k_852 P, k_865 P, k_881 P, k_888 P, k_901 P, k_914 P, k_927 P, k_937 P, k_968 P, k_978 P, k_1015 P, k_1049 P, k_1056 P, k_1063 P]
noncomputable def ta_0 : List (List Nat × Int × Int) := [([1600], -1, 1), ([1611], -1, 1), ([1612], -1, 1), ([1613], -1, 1), ([1614], -1, 1), ([1615], -1, 1), ([1616], -1, 1), ([1617], -1, 1), ([1618], -1, 1), ([1632], -1, 2), ([1633], -1, 3), ([1634], -1, 4), ([1635], -1, 5), ([1636], -1, 6), ([1637], -1, 7), ([1638], -1, 8), ([1639], -1, 9), ([1640], -1, 10), ([1641], -1, 11), ([65152], -1, 12), ([65153], -1, 16), ([65154], -1, 16), ([65155], -1, 13), ([65156], -1, 13), ([65157], -1, 17), ([65158], -1, 17), ([65159], -1, 14), ([65160], -1, 14), ([65161], -1, 15), ([65162], -1, 15), ([65163], -1, 15), ([65164], -1, 15), ([65165], -1, 18), ([65166], -1, 18), ([65167], -1, 19), ([65168], -1, 19), ([65169], -1, 19), ([65170], -1, 19), ([65171], -1, 20), ([65172], -1, 20), ([65173], -1, 21), ([65174], -1, 21), ([65175], -1, 21), ([65176], -1, 21), ([65177], -1, 22), ([65178], -1, 22), ([65179], -1, 22), ([65180], -1, 22), ([65181], -1, 23), ([65182], -1, 23), ([65183], -1, 23), ([65184], -1, 23), ([65185], -1, 24), ([65186], -1, 24), ([65187], -1, 24), ([65188], -1, 24), ([65189], -1, 25), ([65190], -1, 25), ([65191], -1, 25), ([65192], -1, 25), ([65193], -1, 26), ([65194], -1, 26), ([65195], -1, 27), ([65196], -1, 27), ([65197], -1, 28), ([65198], -1, 28), ([65199], -1, 29), ([65200], -1, 29), ([65201], -1, 30), ([65202], -1, 30), ([65203], -1, 30), ([65204], -1, 30), ([65205], -1, 31), ([65206], -1, 31), ([65207], -1, 31), ([65208], -1, 31), ([65209], -1, 32), ([65210], -1, 32), ([65211], -1, 32), ([65212], -1, 32), ([65213], -1, 33), ([65214], -1, 33), ([65215], -1, 33), ([65216], -1, 33), ([65217], -1, 34), ([65218], -1, 34), ([65219], -1, 34), ([65220], -1, 34), ([65221], -1, 35), ([65222], -1, 35), ([65223], -1, 35), ([65224], -1, 35), ([65225], -1, 36), ([65226], -1, 36), ([65227], -1, 36), ([65228], -1, 36), ([65229], -1, 37), ([65230], -1, 37), ([65231], -1, 37), ([65232], -1, 37), ([65233], -1, 38), ([65234], -1, 38), ([65235], -1, 38), ([65236], -1, 38), ([65237], -1, 39), ([65238], -1, 39), ([65239], -1, 39), ([65240], -1, 39), ([65241], -1, 40), ([65242], -1, 40), ([65243], -1, 40), ([65244], -1, 40), ([65245], -1, 41), ([65246], -1, 41), ([65247], -1, 41), ([65248], -1, 41), ([65249], -1, 42), ([65250], -1, 42), ([65251], -1, 42), ([65252], -1, 42), ([65253], -1, 43), ([65254], -1, 43), ([65255], -1, 43), ([65256], -1, 43), ([65257], -1, 44), ([65258], -1, 44), ([65259], -1, 44), ([65260], -1, 44), ([65261], -1, 45), ([65262], -1, 45), ([65263], -1, 46), ([65264], -1, 46), ([65265], -1, 47), ([65266], -1, 47), ([65267], -1, 47), ([65268], -1, 47), ([65269], -1, 51), ([65270], -1, 51), ([65271], -1, 49), ([65272], -1, 49), ([65273], -1, 50), ([65274], -1, 50), ([65275], -1, 48), ([65276], -1, 48)]
noncomputable def ta_1 : List (List Nat × Int × Int) := [([1570], -1, 1), ([1571], -1, 1), ([1572], -1, 1), ([1573], -1, 1), ([1574], -1, 1)]
noncomputable def ta_2 : List (List Nat × Int × Int) := [([1570], -1, 1), ([1571], -1, 1), ([1572], -1, 2), ([1573], -1, 1), ([1574], -1, 3)]
noncomputable def ta_3 : List (List Nat × Int × Int) := [([1575, 1604], -1, 2), ([1576, 1575, 1604], -1, 1), ([1603, 1575, 1604], -1, 1), ([1604, 1604], -1, 2)]
noncomputable def ta_4 : List (List Nat × Int × Int) := [([1571, 1570], -1, 2), ([1571, 1571], -1, 1), ([1571, 1572], -1, 1), ([1571, 1573], -1, 4), ([1571, 1575], -1, 3)]
noncomputable def ta_5 : List (List Nat × Int × Int) := [([1601], -1, 1), ([1608], -1, 1)]
noncomputable def ta_6 : List (List Nat × Int × Int) := [([1575, 1604], -1, 2), ([1576, 1575, 1604], -1, 1), ([1603, 1575, 1604], -1, 1), ([1604, 1604], -1, 2)]
noncomputable def ta_7 : List (List Nat × Int × Int) := [([1576], -1, 1), ([1576, 1575], 0, -1), ([1576, 1576], 0, 2), ([1603, 1603], -1, 3)]
noncomputable def ta_8 : List (List Nat × Int × Int) := [([1587, 1571], -1, 4), ([1587, 1578], -1, 2), ([1587, 1606], -1, 3), ([1587, 1610], -1, 1)]
noncomputable def ta_9 : List (List Nat × Int × Int) := [([1578, 1587, 1578], -1, 1), ([1606, 1587, 1578], -1, 1), ([1610, 1587, 1578], -1, 1)]
noncomputable def ta_10 : List (List Nat × Int × Int) := [([1603, 1605, 1575], -1, 3), ([1607, 1605, 1575], -1, 3), ([1606, 1575], -1, 2), ([1607, 1575], -1, 2), ([1603], -1, 1), ([1603, 1605], -1, 2), ([1607, 1605], -1, 2), ([1607, 1606], -1, 2), ([1607], -1, 1), ([1610], -1, 1)]
noncomputable def ta_11 : List (List Nat × Int × Int) := [([1575], -1, 1), ([1608], -1, 1), ([1610], -1, 1)]
noncomputable def ta_12 : List (List Nat × Int × Int) := [([1603, 1605, 1575], -1, 3), ([1607, 1605, 1575], -1, 3), ([1606, 1575], -1, 2), ([1607, 1575], -1, 2), ([1603], -1, 1), ([1603, 1605], -1, 2), ([1607, 1605], -1, 2), ([1603, 1606], -1, 2), ([1607, 1606], -1, 2), ([1607], -1, 1), ([1603, 1605, 1608], -1, 3), ([1606, 1610], -1, 2)]
noncomputable def ta_13 : List (List Nat × Int × Int) := [([1575], -1, 1), ([1578, 1575], 0, 2), ([1578, 1605, 1575], 0, 4), ([1606, 1575], 0, 2), ([1578], -1, 1), ([1606], -1, 1), ([1575, 1606], 5, 3), ([1578, 1606], 5, 2), ([1608, 1606], 5, 3), ([1610, 1606], 5, 3), ([1610], -1, 1)]
noncomputable def ta_14 : List (List Nat × Int × Int) := [([1608, 1575], -1, 1), ([1578, 1605], -1, 1)]
noncomputable def ta_15 : List (List Nat × Int × Int) := [([1608], -1, 1), ([1578, 1605, 1608], 0, 2)]
noncomputable def tabs : List (Nat × List (List Nat × Int × Int)) := [(818, ta_0), (835, ta_1), (851, ta_2), (865, ta_3), (881, ta_4), (888, ta_5), (901, ta_6), (914, ta_7), (927, ta_8), (937, ta_9), (968, ta_10), (978, ta_11), (1015, ta_12), (1049, ta_13), (1056, ta_14), (1063, ta_15)]
noncomputable def pRef : Value → Option Addr | .ref x => some x | _ => none
noncomputable def pType : Value → Option String | .type x => some x | _ => none
noncomputable def pStr : Value → Option Str | .str s _ => some s | _ => none
noncomputable def pInt : Value → Option Int | .int i _ => some i | _ => none
noncomputable def pDict : Data → Option (List DictEntry) | .dict es _ => some es.toList | _ => none
noncomputable def pSeq : Data → Option (List Value) | .seq xs _ => some xs.toList | _ => none
noncomputable def pPlain : Data → Bool | .plain => true | _ => false
noncomputable def entsOk (row : List Nat × Int × Int) : List DictEntry → Bool
  | [a, b, c] => (pStr a.key == some "s" && pStr a.val == some ⟨row.1.toArray⟩) && (pStr b.key == some "substring_i" && pInt b.val == some row.2.1) && (pStr c.key == some "result" && pInt c.val == some row.2.2)
  | _ => false
noncomputable def rowAt (T : HT) (v : Value) (row : List Nat × Int × Int) : Bool :=
  ((((pRef v).bind T.get).bind fun o => if pPlain o.data && pRef o.cls == some 220 then o.dict else none).bind T.get).any fun d => (pType d.cls).isSome && d.dict.isNone && (pDict d.data).any (entsOk row)
noncomputable def rowsAt (T : HT) : List Value → List (List Nat × Int × Int) → Bool
  | [], [] => true
  | v :: vs, r :: rs => rowAt T v r && rowsAt T vs rs
  | _, _ => false
noncomputable def tabAt (T : HT) (x : Nat × List (List Nat × Int × Int)) : Bool := (T.get x.1).any fun o => pType o.cls == some "list" && o.dict.isNone && (pSeq o.data).any fun xs => rowsAt T xs x.2
noncomputable def bootAddrs : List Nat := [0, 1, 4, 5, 6, 7, 8, 9, 10]
noncomputable def bootObjs (P : Params) : List Obj := [boot_o_0 P, boot_o_1 P, boot_o_4 P, boot_o_5 P, boot_o_6 P, boot_o_7 P, boot_o_8 P, boot_o_9 P, boot_o_10 P]
end Mine
end
section
open PySem PySem.W PyProof.Rows
set_option backward.match.sparseCases false
set_option genSizeOf false
set_option genInjectivity false
set_option maxRecDepth 1000000
set_option maxHeartbeats 0
namespace Mine
inductive TA where
  | fix (a : Nat)
  | new (j : Nat)
structure TS where
  tape : List TA
  news : List Obj
  d : Nat
  obs : List (Nat × Nat)
noncomputable def fixs (P : Params) : List (Nat × Obj) := [(220, k_220 P), (219, k_219 P), (217, k_217 P), (216, k_216 P), (2, ⟨.none, none, .dict #[] 0, #[]⟩)]
noncomputable def tLd (P : Params) (n : Nat) (s : TS) (a : Addr) : Option (Obj × TS) := match s with
  | ⟨tape, news, d, obs⟩ => match tape with
    | [] => none
    | x :: tp => match x with
      | .fix b => ((fixs P).lookup b).map fun o => (o, ⟨tp, news, d, (a, b) :: obs⟩)
      | .new j => news[j]?.map fun o => (o, ⟨tp, news, d, (a, n + j) :: obs⟩)
noncomputable def tAl (n : Nat) (s : TS) (o : Obj) : Option (Addr × TS) := match s with
  | ⟨tape, news, d, obs⟩ => match o.isFreed with
    | false => some (n + news.length, ⟨tape, news ++ [o], d, obs⟩)
    | true => none
noncomputable def tUp (n : Nat) (s : TS) (a : Addr) (g : Obj → Obj) : Option TS := match s with
  | ⟨tape, news, d, obs⟩ => match tape with
    | [] => none
    | x :: tp => match x with
      | .fix _ => none
      | .new j => match news[j]? with
        | none => none
        | some o => match (g o).isFreed with
          | false => some ⟨tp, news.set j (g o), d, (a, n + j) :: obs⟩
          | true => none
noncomputable def tpI (P : Params) (n tk : Nat) : HI TS := ⟨tLd P n, tAl n, tUp n, fun s => (tk + s.d, ⟨s.tape, s.news, s.d + 1, s.obs⟩), fun _ _ _ => none⟩
noncomputable def amTape : List TA := [.fix 220, .fix 220, .fix 220, .fix 220, .fix 220, .fix 220, .fix 220, .fix 220, .fix 220, .fix 220, .fix 220, .fix 220, .fix 220, .fix 220, .fix 220, .fix 220, .fix 220, .fix 220, .fix 220, .fix 220, .fix 220, .fix 220, .fix 220, .fix 219, .fix 220, .fix 220, .new 1, .fix 220, .new 1, .fix 220, .fix 220, .fix 219, .fix 217, .fix 217, .fix 216, .new 2, .new 2, .new 2, .new 2, .new 2, .new 2, .new 2, .new 2, .fix 2, .new 2, .new 2, .new 1, .fix 220, .fix 220, .fix 219, .new 1, .fix 220, .new 1, .fix 220, .new 1, .fix 220, .fix 220, .fix 219, .new 1, .fix 220, .new 0, .new 0, .new 0, .new 2, .new 2, .new 1, .fix 220, .fix 220, .fix 219, .new 1, .fix 220, .new 1, .fix 220, .new 1, .fix 220, .fix 220, .fix 219, .new 1, .fix 220, .new 0, .new 0, .new 0, .new 2, .new 2, .new 1, .fix 220, .fix 220, .fix 219, .new 1, .fix 220, .new 1, .fix 220, .new 1, .fix 220, .fix 220, .fix 219, .new 1, .fix 220, .new 0, .new 0, .new 0]
noncomputable def o0 (P : Params) (tk : Nat) (x y z : Value) : Obj := ⟨.type "dict", none, .dict #[de P "s" (tk + 5) x, de P "substring_i" (tk + 7) y, de P "result" (tk + 9) z] 3, #[]⟩
noncomputable def o1 (n : Nat) : Obj := ⟨.ref 220, some n, .plain, #[]⟩
noncomputable def o2 (P : Params) (n tk : Nat) (x y z : Value) : Obj := ⟨.type "frame", none, .dict #[de P "self" tk (.ref (n + 1)), de P "s" (tk + 1) x, de P "substring_i" (tk + 2) y, de P "result" (tk + 3) z] 4, #[]⟩
noncomputable def adr (n : Nat) : TA → Nat
  | .fix a => a
  | .new j => n + j
noncomputable def amCall (x y z : Value) : Code := .call (.ref 220) ⟨[x, y, z], []⟩
theorem am_run (P : Params) (n tk : Nat) (s : Str) (i r : Int) (t1 t2 t3 : Nat) (hd own past : Option Value) (s0 s1 : List Stmt) (v0 v1 : Env) (q0 q1 q2 p : Pos) :
    evg (tpI P n tk) denQ ⟨pw, P⟩ 300 ⟨amCall (.str s t1) (.int i t2) (.int r t3), hd, own, [(.body s0 v0, q0), (.body s1 v1, q1), (.builtin "claim.caller" {}, q2)], past⟩ p [] ⟨amTape, [], 0, []⟩ (denQ (amCall (.str s t1) (.int i t2) (.int r t3))) =
      some (.ok (.ret (.ref (n + 1))), ⟨[], [o0 P tk (.str s t1) (.int i t2) (.int r t3), o1 n, o2 P n tk (.str s t1) (.int i t2) (.int r t3)], 10, amTape.reverse.map fun t => (adr n t, adr n t)⟩) := by kernel_rfl
structure TR (P : Params) (n tk : Nat) (S₀ : Shared) (s : TS) (S : Shared) : Prop where
  size : S.heap.objs.size = n + s.news.length
  toks : S.toks = tk + s.d
  old : ∀ b o, S₀.heap.get? b = some o → S.heap.get? b = some o
  new : ∀ j o, s.news[j]? = some o → S.heap.get? (n + j) = some o
noncomputable def TG (s : TS) : Prop := ∀ p ∈ s.obs, p.1 = p.2
noncomputable def Fixd (P : Params) (h : Heap) : Prop := ∀ a o, (fixs P).lookup a = some o → h.get? a = some o
set_option smartUnfolding false in
theorem tp_ok {M : Model} {P : Params} {n tk : Nat} {S₀ : Shared} (hn : S₀.heap.objs.size = n) (F : Fixd P S₀.heap) : HOk M (tpI P n tk) (TR P n tk S₀) TG where
  ld := by
    rintro ⟨tape, news, d, obs⟩ a o h' e
    cases tape with
    | nil => cases e
    | cons x tp =>
      cases x with
      | fix b =>
        refine mdc (show Option.map (fun o => (o, (⟨tp, news, d, (a, b) :: obs⟩ : TS))) ((fixs P).lookup b) = some (o, h') from e) fun o1 e1 e => s2 (congrArg some e) fun g => ?_
        refine ⟨fun p hp => g p (.tail _ hp), fun S D => ⟨?_, D.size, D.toks, D.old, D.new⟩⟩
        rw [show a = b from g _ (.head _)]
        exact D.old _ _ (F _ _ e1)
      | new j =>
        refine mdc (show Option.map (fun o => (o, (⟨tp, news, d, (a, n + j) :: obs⟩ : TS))) news[j]? = some (o, h') from e) fun o1 e1 e => s2 (congrArg some e) fun g => ?_
        refine ⟨fun p hp => g p (.tail _ hp), fun S D => ⟨?_, D.size, D.toks, D.old, D.new⟩⟩
        rw [show a = n + j from g _ (.head _)]
        exact D.new _ _ e1
  al := by
    rintro ⟨tape, news, d, obs⟩ o a h' e
    refine bf_ (show Bool.casesOn (motive := fun _ => Option (Addr × TS)) o.isFreed (some (n + news.length, (⟨tape, news ++ [o], d, obs⟩ : TS))) none = some (a, h') from e) fun hf e => s2 e fun g => ?_
    refine ⟨g, fun S D => ⟨D.size, ?_, D.toks, fun b o' e => Heap.get?_push_of_some _ (D.old b o' e), fun j o' e => ?_⟩⟩
    · show (S.heap.push o).objs.size = n + (news ++ [o]).length
      rw [Heap.size_push, D.size, List.length_append, Nat.add_assoc]; rfl
    · by_cases hj : j < news.length
      · exact Heap.get?_push_of_some _ (D.new j o' ((List.getElem?_append_left hj).symm.trans e))
      · have hj := Nat.le_of_not_lt hj
        have e : [o][j - news.length]? = some o' := (List.getElem?_append_right hj).symm.trans e
        have hz : j - news.length = 0 := by
          cases q : j - news.length with
          | zero => rfl
          | succ m => rw [q] at e; cases e
        rw [hz] at e; cases e
        have hj : j = news.length := Nat.le_antisymm (Nat.le_of_sub_eq_zero hz) hj
        have := Heap.get?_push_size S.heap hf
        rw [D.size] at this
        rw [hj]; exact this
  up := by
    rintro ⟨tape, news, d, obs⟩ a gf h' e
    cases tape with
    | nil => cases e
    | cons x tp =>
      cases x with
      | fix b => cases e
      | new j =>
        refine os_ (show Option.casesOn (motive := fun _ => Option TS) news[j]? none (fun o => Bool.casesOn (motive := fun _ => Option TS) (gf o).isFreed (some ⟨tp, news.set j (gf o), d, (a, n + j) :: obs⟩) none) = some h' from e) fun o e1 e => bf_ e fun hf e => s1' e fun g => ?_
        refine ⟨fun p hp => g p (.tail _ hp), fun S D => ?_⟩
        have ha : a = n + j := g _ (.head _)
        have h0 := D.new _ _ e1
        rw [← ha] at h0
        refine ⟨by rw [h0]; rfl, ?_, D.toks, fun b o' e => ?_, fun i o' e => ?_⟩
        · show (S.heap.update a gf).objs.size = n + (news.set j (gf o)).length
          rw [Heap.size_after_update, D.size, List.length_set]
        · refine (Heap.get?_update_other _ _ fun q => ?_).trans (D.old b o' e)
          have := Heap.lt_size e
          rw [hn, ← q, ha] at this
          exact Nat.not_lt.mpr (Nat.le_add_right n j) this
        · have e : (news.set j (gf o))[i]? = some o' := e
          by_cases q : j = i
          · subst q
            rw [List.getElem?_set_self (List.getElem?_eq_some_iff.mp e1).1] at e
            cases e
            rw [← ha]; exact Heap.get?_update_self gf h0 hf
          · rw [List.getElem?_set_ne q] at e
            exact (Heap.get?_update_other _ _ fun z => q (Nat.add_left_cancel (ha.symm.trans z))).trans (D.new i o' e)
  fr := by
    rintro ⟨tape, news, d, obs⟩ k h' e g
    cases e
    exact ⟨g, fun S D => ⟨D.toks, D.size, (congrArg (· + 1) D.toks).trans (Nat.add_assoc ..), D.old, D.new⟩⟩
  oc := fun e => nomatch e
structure HZ where
  T : HT
  n : Nat
  k : Nat
  Z : Option HT
  L : Bool
noncomputable def zLd (h : HZ) (a : Addr) : Option (Obj × HZ) := HZ.rec (motive := fun _ => Option (Obj × HZ)) (fun T n k Z L => Option.rec (motive := fun _ => Option (Obj × HZ)) none (fun o => some (o, ⟨T, n, k, Z, L⟩)) (T.getq a)) h
noncomputable def zAl' (n k : Nat) (Z : Option HT) (L : Bool) (T : HT) : Option (Addr × HZ) := Option.rec (motive := fun _ => Option (Addr × HZ)) none (fun _ => some (n, ⟨T, n + 1, k, Z, L⟩)) (T.getq n)
noncomputable def zAl (h : HZ) (o : Obj) : Option (Addr × HZ) := HZ.rec (motive := fun _ => Option (Addr × HZ)) (fun T n k Z L => Bool.rec (motive := fun _ => Option (Addr × HZ)) (zAl' n k Z L (HT.insq (some o) T n)) none o.isFreed) h
noncomputable def zUp' (P : Params) (T : HT) (n k : Nat) (Z : Option HT) (L : Bool) (a : Addr) (o : Obj) : Option HZ :=
  Bool.rec (motive := fun _ => Option HZ) (some ⟨HT.setq (some o) T a, n, k, Z, L && ((fixs P).lookup a).isNone⟩) none o.isFreed
noncomputable def zUp (P : Params) (h : HZ) (a : Addr) (g : Obj → Obj) : Option HZ := HZ.rec (motive := fun _ => Option HZ) (fun T n k Z L => Option.rec (motive := fun _ => Option HZ) none (fun o => zUp' P T n k Z L a (g o)) (T.getq a)) h
noncomputable def zFr (h : HZ) : Tok × HZ := HZ.rec (motive := fun _ => Tok × HZ) (fun T n k Z L => (k, ⟨T, n, k + 1, Z, L⟩)) h
noncomputable def isS : Value → Bool
  | .str _ _ => true
  | _ => false
noncomputable def isI : Value → Bool
  | .int _ _ => true
  | _ => false
noncomputable def args3 : List Value → Option (Value × Value × Value)
  | [x, y, z] => some (x, y, z)
  | _ => none
noncomputable def amIs : Code → Option (List Value)
  | .call (.ref a) ⟨l, []⟩ => match Nat.beq a 220 with
    | true => some l
    | false => none
  | _ => none
noncomputable def isBody : Code → Bool
  | .body _ _ => true
  | _ => false
noncomputable def isCaller : Code → Bool
  | .builtin id ⟨[], []⟩ => id == "claim.caller"
  | _ => false
noncomputable def belowOk : List (Code × Pos) → Bool
  | [a, b, c] => isBody a.1 && isBody b.1 && isCaller c.1
  | _ => false
noncomputable def z3 (n k : Nat) (Z : Option HT) (T T1 T2 T3 : HT) : Option (Result × HZ) :=
  Bool.rec (motive := fun _ => Option (Result × HZ)) none (some (.ok (.ret (.ref (n + 1))), ⟨T3, n + 3, k + 10, some (Z.getD T), true⟩)) ((T1.getq n).isSome && (T2.getq (n + 1)).isSome && (T3.getq (n + 2)).isSome)
noncomputable def z2 (P : Params) (n k : Nat) (Z : Option HT) (T T1 T2 : HT) (x y z : Value) : Option (Result × HZ) := z3 n k Z T T1 T2 (HT.insq (some (o2 P n k x y z)) T2 (n + 2))
noncomputable def z1 (P : Params) (n k : Nat) (Z : Option HT) (T T1 : HT) (x y z : Value) : Option (Result × HZ) := z2 P n k Z T T1 (HT.insq (some (o1 n)) T1 (n + 1)) x y z
noncomputable def z0 (P : Params) (h : HZ) (x y z : Value) : Option (Result × HZ) := HZ.rec (motive := fun _ => Option (Result × HZ)) (fun T n k Z L => Bool.rec (motive := fun _ => Option (Result × HZ)) none (z1 P n k Z T (HT.insq (some (o0 P k x y z)) T n) x y z) (Z.isNone || L)) h
noncomputable def zOc (P : Params) (h : HZ) (c : Code) (Γ : Ctx) : Option (Result × HZ) := (amIs c).bind fun l => (args3 l).bind fun x => Bool.rec (motive := fun _ => Option (Result × HZ)) none (z0 P h x.1 x.2.1 x.2.2) (belowOk Γ.below && isS x.1 && isI x.2.1 && isI x.2.2)
noncomputable def zI (P : Params) : HI HZ := ⟨zLd, zAl, zUp P, zFr, zOc P⟩
noncomputable def top0 (P : Params) : HZ := ⟨(boot0 P).T, 11, boot_toks, none, false⟩
set_option smartUnfolding false in
theorem amIs_eq {c : Code} {l : List Value} (h : amIs c = some l) : c = .call (.ref 220) ⟨l, []⟩ := by
  cases c with
  | call f as =>
    cases f with
    | ref a =>
      obtain ⟨pos, kw⟩ := as
      cases kw with
      | cons _ _ => exact nn h
      | nil =>
        obtain ⟨q, e⟩ := bool_t (show Bool.casesOn (motive := fun _ => Option (List Value)) (Nat.beq a 220) none (some pos) = some l from h)
        cases e
        rw [Nat.eq_of_beq_eq_true q]
    | _ => exact nn h
  | _ => exact nn h
theorem args3_eq {l : List Value} {x : Value × Value × Value} (h : args3 l = some x) : l = [x.1, x.2.1, x.2.2] := by
  cases l with
  | nil => exact nn h
  | cons a l => cases l with
    | nil => exact nn h
    | cons b l => cases l with
      | nil => exact nn h
      | cons c l => cases l with
        | nil => cases h; rfl
        | cons _ _ => exact nn h
theorem isS_eq {v : Value} (h : isS v = true) : ∃ s t, v = .str s t := by cases v <;> first | exact nf h | exact ⟨_, _, rfl⟩
theorem isI_eq {v : Value} (h : isI v = true) : ∃ s t, v = .int s t := by cases v <;> first | exact nf h | exact ⟨_, _, rfl⟩
theorem isBody_eq {c : Code} (h : isBody c = true) : ∃ s v, c = .body s v := by cases c <;> first | exact nf h | exact ⟨_, _, rfl⟩
theorem isCaller_eq {c : Code} (h : isCaller c = true) : c = .builtin "claim.caller" {} := by
  cases c with
  | builtin id as =>
    obtain ⟨pos, kw⟩ := as
    cases pos with
    | cons _ _ => exact nf h
    | nil => cases kw with
      | cons _ _ => exact nf h
      | nil => rw [eq_of_beq (show (id == "claim.caller") = true from h)]
  | _ => exact nf h
inductive BelowIs : List (Code × Pos) → Prop
  | mk (s0 s1 : List Stmt) (v0 v1 : Env) (q0 q1 q2 : Pos) : BelowIs [(.body s0 v0, q0), (.body s1 v1, q1), (.builtin "claim.caller" {}, q2)]
theorem below_eq {l : List (Code × Pos)} (h : belowOk l = true) : BelowIs l := by
  cases l with
  | nil => exact nf h
  | cons a l => cases l with
    | nil => exact nf h
    | cons b l => cases l with
      | nil => exact nf h
      | cons c l => cases l with
        | cons _ _ => exact nf h
        | nil =>
          obtain ⟨h, h3⟩ := Bool.and_eq_true_iff.mp (show (isBody a.1 && isBody b.1 && isCaller c.1) = true from h)
          obtain ⟨h1, h2⟩ := Bool.and_eq_true_iff.mp h
          obtain ⟨a1, a2⟩ := a
          obtain ⟨b1, b2⟩ := b
          obtain ⟨c1, c2⟩ := c
          obtain ⟨_, _, rfl⟩ := isBody_eq h1
          obtain ⟨_, _, rfl⟩ := isBody_eq h2
          cases isCaller_eq h3
          exact ⟨_, _, _, _, _, _, _⟩
structure ZR (P : Params) (h : HZ) (S : Shared) : Prop where
  rep : Rep S ⟨h.T, h.n, h.k⟩
  fix : h.L = true → Fixd P S.heap
noncomputable def ZG (P : Params) (h : HZ) : Prop := ∀ T, h.Z = some T → ∀ a o, (fixs P).lookup a = some o → T.getq a = some o
theorem am_ok (w : World) {S : Shared} (F : Fixd w.params S.heap) {Γ : Ctx} {x y z : Value} (hc : Γ.code = amCall x y z) (hb : belowOk Γ.below = true) (hx : isS x = true) (hy : isI y = true) (hz : isI z = true) (p : Pos) {Q : Result → Shared → Prop}
    (k : ∀ S', TR w.params S.heap.objs.size S.toks S ⟨[], [o0 w.params S.toks x y z, o1 S.heap.objs.size, o2 w.params S.heap.objs.size S.toks x y z], 10, []⟩ S' → Same S S' → Q (.ok (.ret (.ref (S.heap.objs.size + 1)))) S') : wpCode (model pw w) Γ Q p S := by
  obtain ⟨code, hd, own, below, past⟩ := Γ
  cases below_eq hb with | mk s0 s1 v0 v1 q0 q1 q2 =>
  cases hc
  obtain ⟨s, t1, rfl⟩ := isS_eq hx
  obtain ⟨i, t2, rfl⟩ := isI_eq hy
  obtain ⟨r, t3, rfl⟩ := isI_eq hz
  have z := (evg_sound (M := model pw w) (den := denQ) (fun c => by rw [← denQ_eq]; rfl) (tp_ok (tk := S.toks) rfl F) _ _ p [] _ _ _ _ (am_run w.params S.heap.objs.size S.toks s i r t1 t2 t3 hd own past s0 s1 v0 v1 q0 q1 q2 p)
    (fun q hq => by obtain ⟨t, _, rfl⟩ := List.mem_map.mp hq; rfl)).2 Q S ⟨rfl, rfl, fun _ _ e => e, fun j o e => nomatch e⟩ fun S' D sm => k S' ⟨D.size, D.toks, D.old, D.new⟩ sm
  rw [denQ_eq.symm] at z
  exact (wpCode_iff_wp ..).mpr z
theorem rep3 {S S' : Shared} {T : HT} {n k : Nat} (D : Rep S ⟨T, n, k⟩) {P : Params} {a b c : Obj} (X : TR P n k S ⟨[], [a, b, c], 10, []⟩ S') (h1 : ((HT.insq (some a) T n).getq n).isSome = true) (h2 : ((HT.insq (some b) (HT.insq (some a) T n) (n + 1)).getq (n + 1)).isSome = true)
    (h3 : ((HT.insq (some c) (HT.insq (some b) (HT.insq (some a) T n) (n + 1)) (n + 2)).getq (n + 2)).isSome = true) : Rep S' ⟨HT.insq (some c) (HT.insq (some b) (HT.insq (some a) T n) (n + 1)) (n + 2), n + 3, k + 10⟩ := by
  refine ⟨X.size, X.toks, fun i o e => ?_⟩
  have e : (HT.insq (some c) (HT.insq (some b) (HT.insq (some a) T n) (n + 1)) (n + 2)).get i = some o := e
  simp only [HT.insq_eq, HT.getq_eq] at h1 h2 h3 e
  rw [HT.get_ins _ _ _ h3] at e
  by_cases q : i = n + 2
  · rw [if_pos q] at e; cases e; subst q
    exact ⟨Nat.lt_succ_self _, X.new 2 _ rfl⟩
  rw [if_neg q, HT.get_ins _ _ _ h2] at e
  by_cases q : i = n + 1
  · rw [if_pos q] at e; cases e; subst q
    exact ⟨Nat.add_lt_add_left (by decide : 1 < 3) n, X.new 1 _ rfl⟩
  rw [if_neg q, HT.get_ins _ _ _ h1] at e
  by_cases q : i = n
  · rw [if_pos q] at e; cases e; subst q
    exact ⟨Nat.add_lt_add_left (by decide : 0 < 3) i, X.new 0 _ rfl⟩
  rw [if_neg q] at e
  exact ⟨Nat.lt_add_right 3 (D.at_ _ _ e).1, X.old _ _ (D.at_ _ _ e).2⟩
theorem repA {S : Shared} {T : HT} {n k : Nat} (D : Rep S ⟨T, n, k⟩) {o x : Obj} (hf : o.isFreed = false) (e : (HT.insq (some o) T n).getq n = some x) : Rep { S with heap := S.heap.push o } ⟨HT.insq (some o) T n, n + 1, k⟩ := by
  rw [HT.insq_eq] at e ⊢
  rw [HT.getq_eq] at e
  exact D.alloc hf (Option.isSome_of_eq_some e)
theorem fixU {P : Params} {h : Heap} {a b : Addr} {o : Obj} {f : Obj → Obj} (e1 : h.get? b = some o) (e : (fixs P).lookup b = some o) (hn : ((fixs P).lookup a).isNone = true) : (h.update a f).get? b = some o := by
  refine (Heap.get?_update_other _ _ fun q => ?_).trans e1
  rw [q, e] at hn; cases hn
theorem zget {P : Params} {Z : Option HT} {T T' : HT} (e : Z = some T') (gz : ∀ a o, (fixs P).lookup a = some o → (Z.getD T).getq a = some o) : ∀ a o, (fixs P).lookup a = some o → T'.getq a = some o := by cases e; exact gz
theorem fixZ {P : Params} {S : Shared} {T : HT} {n k : Nat} {Z : Option HT} {L : Bool} (D : ZR P ⟨T, n, k, Z, L⟩ S) (hL : (Z.isNone || L) = true) (gz : ∀ a o, (fixs P).lookup a = some o → (Z.getD T).getq a = some o) : Fixd P S.heap := by
  cases Z with
  | none => exact fun a o e => (D.rep.at_ _ _ ((HT.getq_eq T a).symm.trans (gz a o e))).2
  | some T' => exact D.fix hL
set_option smartUnfolding false in
theorem z_ok (w : World) : HOk (model pw w) (zI w.params) (ZR w.params) (ZG w.params) where
  ld := by
    rintro ⟨T, n, k, Z, L⟩ a o h' e
    refine os_ (show Option.casesOn (motive := fun _ => Option (Obj × HZ)) (T.getq a) none (fun o => some (o, ⟨T, n, k, Z, L⟩)) = some (o, h') from e) fun o1 e1 e => s2 e fun g => ?_
    exact ⟨g, fun S D => ⟨(D.rep.at_ _ _ ((HT.getq_eq T a).symm.trans e1)).2, D⟩⟩
  al := by
    rintro ⟨T, n, k, Z, L⟩ o a h' e
    refine bf_ (show Bool.casesOn (motive := fun _ => Option (Addr × HZ)) o.isFreed (zAl' n k Z L (HT.insq (some o) T n)) none = some (a, h') from e) fun hf e => ?_
    refine os_ (show Option.casesOn (motive := fun _ => Option (Addr × HZ)) ((HT.insq (some o) T n).getq n) none (fun _ => some (n, ⟨HT.insq (some o) T n, n + 1, k, Z, L⟩)) = some (a, h') from e) fun x e1 e => s2 e fun g => ?_
    exact ⟨g, fun S D => ⟨D.rep.size, repA D.rep hf e1, fun hL a o e => Heap.get?_push_of_some _ (D.fix hL a o e)⟩⟩
  up := by
    rintro ⟨T, n, k, Z, L⟩ a f h' e
    refine os_ (show Option.casesOn (motive := fun _ => Option HZ) (T.getq a) none (fun o => zUp' w.params T n k Z L a (f o)) = some h' from e) fun o e1 e => ?_
    refine bf_ (show Bool.casesOn (motive := fun _ => Option HZ) (f o).isFreed (some ⟨HT.setq (some (f o)) T a, n, k, Z, L && ((fixs w.params).lookup a).isNone⟩) none = some h' from e) fun hf e => s1' e fun g => ?_
    have e1 := (HT.getq_eq T a).symm.trans e1
    exact ⟨g, fun S D => ⟨Option.isSome_of_eq_some (D.rep.at_ _ _ e1).2, (HT.setq_eq (some (f o)) T a).symm ▸ D.rep.update e1 hf, fun hL b o' e => an_ hL fun hL hn => fixU (D.fix hL b o' e) e hn⟩⟩
  fr := by
    rintro ⟨T, n, k, Z, L⟩ t h' e
    have e1 : k = t := congrArg Prod.fst e
    have e2 : HZ.mk T n (k + 1) Z L = h' := congrArg Prod.snd e
    subst e1 e2
    exact fun g => ⟨g, fun S D => ⟨D.rep.toks, ⟨D.rep.size, congrArg (· + 1) D.rep.toks, D.rep.at_⟩, D.fix⟩⟩
  oc := by
    rintro ⟨T, n, k, Z, L⟩ c Γ r h' e
    refine bd (show (amIs c).bind _ = some (r, h') from e) fun l e1 e => bd e fun x e2 e => ?_
    refine bt_ (show Bool.casesOn (motive := fun _ => Option (Result × HZ)) (belowOk Γ.below && isS x.1 && isI x.2.1 && isI x.2.2) none (z0 w.params ⟨T, n, k, Z, L⟩ x.1 x.2.1 x.2.2) = some (r, h') from e) fun hb e => ?_
    refine bt_ (show Bool.casesOn (motive := fun _ => Option (Result × HZ)) (Z.isNone || L) none (z1 w.params n k Z T (HT.insq (some (o0 w.params k x.1 x.2.1 x.2.2)) T n) x.1 x.2.1 x.2.2) = some (r, h') from e) fun hL e => ?_
    refine bt_ (show Bool.casesOn (motive := fun _ => Option (Result × HZ)) _ none (some (.ok (.ret (.ref (n + 1))), ⟨_, n + 3, k + 10, some (Z.getD T), true⟩)) = some (r, h') from e) fun hs e => s2 e fun g => ?_
    have gz := g _ rfl
    refine ⟨fun T' e => zget e gz, fun S D hc p Q hQ => ?_⟩
    have F : Fixd w.params S.heap := fixZ D hL gz
    refine an_ hb fun hb hz => an_ hb fun hb hy => an_ hb fun hb hx => an_ hs fun hs h3 => an_ hs fun h1 h2 => ?_
    have hn : S.heap.objs.size = n := D.rep.size
    have hk : S.toks = k := D.rep.toks
    subst hn hk
    exact am_ok w F (hc.trans ((amIs_eq e1).trans (congrArg (fun l => Code.call (.ref 220) ⟨l, []⟩) (args3_eq e2)))) hb hx hy hz p fun S' X sm => hQ S' ⟨rep3 D.rep X h1 h2 h3, fun _ a o e => X.old _ _ (F a o e)⟩ sm
end Mine
end
section
open PySem PySem.W PyProof.Rows
set_option genSizeOf false
set_option genInjectivity false
set_option maxRecDepth 1000000
set_option maxHeartbeats 0
namespace Mine
theorem topEval (P : Params) : (evg (zI P) denQ ⟨pw, P⟩ 50000 c0 default [] (top0 P) (topStub pw).cur).map (fun x => (x.1, x.2.n, x.2.k, x.2.Z.map (fun T => (fixs P).map fun p => T.getq p.1), bootAddrs.map x.2.T.getq, kAddrs.map x.2.T.getq, tabs.all (tabAt x.2.T))) =
    some (.ok (.ret .none), 1213, 4066, some ((fixs P).map fun p => some p.2), (bootObjs P).map some, (kObjs P).map some, true) := by kernel_rfl
noncomputable def KAll (P : Params) : Frag := bootAddrs.zip (bootObjs P) ++ kAddrs.zip (kObjs P)
noncomputable def EntsAre (l : List DictEntry) (row : List Nat × Int × Int) : Prop := ∃ k1 k2 k3 t1 t2 t3 h1 h2 h3, l = [⟨h1, .str "s" k1, .str ⟨row.1.toArray⟩ t1⟩, ⟨h2, .str "substring_i" k2, .int row.2.1 t2⟩, ⟨h3, .str "result" k3, .int row.2.2 t3⟩]
noncomputable def RowIs (h : Heap) (v : Value) (row : List Nat × Int × Int) : Prop := ∃ x dx c sl sl' es n, v = .ref x ∧ h.get? x = some ⟨.ref 220, some dx, .plain, sl⟩ ∧ h.get? dx = some ⟨.type c, none, .dict es n, sl'⟩ ∧ EntsAre es.toList row
noncomputable def RowsAre (h : Heap) : List Value → List (List Nat × Int × Int) → Prop
  | [], [] => True
  | v :: vs, r :: rs => RowIs h v r ∧ RowsAre h vs rs
  | _, _ => False
noncomputable def TabIs (h : Heap) (a : Addr) (rows : List (List Nat × Int × Int)) : Prop := ∃ xs n sl, h.get? a = some ⟨.type "list", none, .seq xs n, sl⟩ ∧ RowsAre h xs.toList rows
theorem pRef_eq {v : Value} {a : Addr} (h : pRef v = some a) : v = .ref a := by cases v <;> first | exact nn h | exact congrArg _ (Option.some.inj h)
theorem pType_eq {v : Value} {a : String} (h : pType v = some a) : v = .type a := by cases v <;> first | exact nn h | exact congrArg _ (Option.some.inj h)
theorem pStr_eq {v : Value} {a : Str} (h : (pStr v == some a) = true) : ∃ t, v = .str a t := by
  have h := eq_of_beq h
  cases v <;> first | exact nn h | exact ⟨_, congrArg (fun x => _ x _) (Option.some.inj h)⟩ | (cases h; exact ⟨_, rfl⟩)
theorem pInt_eq {v : Value} {a : Int} (h : (pInt v == some a) = true) : ∃ t, v = .int a t := by
  have h := eq_of_beq h
  cases v <;> first | exact nn h | exact ⟨_, congrArg (fun x => _ x _) (Option.some.inj h)⟩ | (cases h; exact ⟨_, rfl⟩)
theorem pDict_eq {d : Data} {a : List DictEntry} (h : pDict d = some a) : ∃ es n, d = .dict es n ∧ es.toList = a := by
  cases d <;> first | exact nn h | exact ⟨_, _, rfl, Option.some.inj h⟩
theorem pSeq_eq {d : Data} {a : List Value} (h : pSeq d = some a) : ∃ es n, d = .seq es n ∧ es.toList = a := by
  cases d <;> first | exact nn h | exact ⟨_, _, rfl, Option.some.inj h⟩
theorem pPlain_eq {d : Data} (h : pPlain d = true) : d = .plain := by cases d <;> first | exact nf h | rfl
theorem and3_eq {a b c : Bool} (h : (a && b && c) = true) : a = true ∧ b = true ∧ c = true :=
  have ⟨h1, h2⟩ := Bool.and_eq_true_iff.mp h
  have ⟨h3, h4⟩ := Bool.and_eq_true_iff.mp h1
  ⟨h3, h4, h2⟩
theorem entsOk_eq {row : List Nat × Int × Int} {es : List DictEntry} (e : entsOk row es = true) : EntsAre es row := by
  cases es with
  | nil => cases e
  | cons a es => cases es with
    | nil => cases e
    | cons b es => cases es with
      | nil => cases e
      | cons c es => cases es with
        | cons _ _ => cases e
        | nil =>
          obtain ⟨e1, e2, e3⟩ := and3_eq e
          obtain ⟨h1, a1, b1⟩ := a
          obtain ⟨h2, a2, b2⟩ := b
          obtain ⟨h3, a3, b3⟩ := c
          obtain ⟨k1, q1⟩ := pStr_eq (Bool.and_eq_true_iff.mp e1).1
          obtain ⟨t1, q2⟩ := pStr_eq (Bool.and_eq_true_iff.mp e1).2
          obtain ⟨k2, q3⟩ := pStr_eq (Bool.and_eq_true_iff.mp e2).1
          obtain ⟨t2, q4⟩ := pInt_eq (Bool.and_eq_true_iff.mp e2).2
          obtain ⟨k3, q5⟩ := pStr_eq (Bool.and_eq_true_iff.mp e3).1
          obtain ⟨t3, q6⟩ := pInt_eq (Bool.and_eq_true_iff.mp e3).2
          refine ⟨k1, k2, k3, t1, t2, t3, h1, h2, h3, ?_⟩
          rw [show a1 = _ from q1, show b1 = _ from q2, show a2 = _ from q3, show b2 = _ from q4, show a3 = _ from q5, show b3 = _ from q6]
theorem rowIs_of {T : HT} {h : Heap} (k : ∀ a o, T.get a = some o → h.get? a = some o) {v : Value} {row : List Nat × Int × Int} (e : rowAt T v row = true) : RowIs h v row := by
  obtain ⟨d, hd, e1⟩ := (Option.any_eq_true _ _).mp e
  obtain ⟨dx, q1, hd1⟩ := Option.bind_eq_some_iff.mp hd
  obtain ⟨o, q2, q3⟩ := Option.bind_eq_some_iff.mp q1
  obtain ⟨x, q4, q5⟩ := Option.bind_eq_some_iff.mp q2
  obtain ⟨cls, dict, data, slots⟩ := o
  by_cases c : (pPlain data && pRef cls == some 220) = true
  · have c1 : dict = some dx := (if_pos c).symm.trans q3
    obtain ⟨c2, c3⟩ := Bool.and_eq_true_iff.mp c
    obtain ⟨cls2, dict2, data2, slots2⟩ := d
    obtain ⟨e2, e3, e4⟩ := and3_eq e1
    obtain ⟨ty, e5⟩ := Option.isSome_iff_exists.mp e2
    obtain ⟨l, e6, e7⟩ := (Option.any_eq_true _ _).mp e4
    obtain ⟨es, n, e8, e9⟩ := pDict_eq e6
    rw [pPlain_eq c2, pRef_eq (eq_of_beq c3), c1] at q5
    rw [show cls2 = _ from pType_eq e5, show dict2 = none from Option.isNone_iff_eq_none.mp e3, show data2 = _ from e8] at hd1
    exact ⟨x, dx, ty, slots, slots2, es, n, pRef_eq q4, k _ _ q5, k _ _ hd1, e9 ▸ entsOk_eq e7⟩
  · exact nomatch (if_neg c).symm.trans q3
theorem rowsAre_of {T : HT} {h : Heap} (k : ∀ a o, T.get a = some o → h.get? a = some o) : ∀ {vs : List Value} {rows : List (List Nat × Int × Int)}, rowsAt T vs rows = true → RowsAre h vs rows
  | [], [], _ => trivial
  | v :: vs, r :: rs, e => by
    obtain ⟨a, b⟩ := Bool.and_eq_true_iff.mp (show (rowAt T v r && rowsAt T vs rs) = true from e)
    exact ⟨rowIs_of k a, rowsAre_of k b⟩
  | [], _ :: _, e => by cases e
  | _ :: _, [], e => by cases e
theorem tabIs_of {T : HT} {h : Heap} (k : ∀ a o, T.get a = some o → h.get? a = some o) {x : Nat × List (List Nat × Int × Int)} (e : tabAt T x = true) : TabIs h x.1 x.2 := by
  obtain ⟨o, q, e1⟩ := (Option.any_eq_true _ _).mp e
  obtain ⟨cls, dict, data, slots⟩ := o
  obtain ⟨e2, e3, e4⟩ := and3_eq e1
  obtain ⟨l, e6, e7⟩ := (Option.any_eq_true _ _).mp e4
  obtain ⟨es, n, e8, e9⟩ := pSeq_eq e6
  rw [show cls = _ from pType_eq (eq_of_beq e2), show dict = none from Option.isNone_iff_eq_none.mp e3, show data = _ from e8] at q
  exact ⟨es, n, slots, k _ _ q, e9 ▸ rowsAre_of k e7⟩
theorem RowIs.keeps {h h' : Heap} {v : Value} {row : List Nat × Int × Int} (k : ∀ b o, h.get? b = some o → h'.get? b = some o) (x : RowIs h v row) : RowIs h' v row := by
  obtain ⟨x, dx, c, sl, sl', es, n, e, a, b, r⟩ := x
  exact ⟨x, dx, c, sl, sl', es, n, e, k _ _ a, k _ _ b, r⟩
theorem RowsAre.keeps {h h' : Heap} (k : ∀ b o, h.get? b = some o → h'.get? b = some o) : ∀ {vs : List Value} {rows : List (List Nat × Int × Int)}, RowsAre h vs rows → RowsAre h' vs rows
  | [], [], _ => trivial
  | _ :: _, _ :: _, x => ⟨x.1.keeps k, x.2.keeps k⟩
  | [], _ :: _, x => x.elim
  | _ :: _, [], x => x.elim
theorem TabIs.keeps {h h' : Heap} {a : Addr} {rows : List (List Nat × Int × Int)} (k : ∀ b o, h.get? b = some o → h'.get? b = some o) (x : TabIs h a rows) : TabIs h' a rows :=
  let ⟨xs, n, sl, e, r⟩ := x; ⟨xs, n, sl, k _ _ e, r.keeps k⟩
structure AtTop (P : Params) (h : Heap) : Prop where
  k : (KAll P).In h
  t : ∀ x ∈ tabs, TabIs h x.1 x.2
theorem AtTop.keeps {P : Params} {h h' : Heap} (x : AtTop P h) (k : ∀ b o, h.get? b = some o → h'.get? b = some o) : AtTop P h' := ⟨x.k.keeps k, fun y m => (x.t y m).keeps k⟩
theorem map_zip {α : Type} {f : Nat → Option α} : ∀ {as : List Nat} {os : List α}, as.map f = os.map some → ∀ p ∈ as.zip os, f p.1 = some p.2
  | [], _, _, p, hp => by simp at hp
  | a :: as, [], h, p, hp => by simp at hp
  | a :: as, o :: os, h, p, hp => by
    simp only [List.map_cons, List.cons.injEq] at h
    rw [List.zip_cons_cons] at hp
    rcases List.mem_cons.mp hp with rfl | hp
    · exact h.1
    · exact map_zip h.2 p hp
theorem mem_of_lookup {α β : Type} [BEq α] [LawfulBEq α] : ∀ {l : List (α × β)} {a : α} {b : β}, l.lookup a = some b → (a, b) ∈ l
  | [], _, _, h => by cases h
  | (x, y) :: l, a, b, h => by
    simp only [List.lookup] at h
    split at h
    · rename_i q; cases h; rw [beq_iff_eq.mp q]; exact .head _
    · exact .tail _ (mem_of_lookup h)
theorem topEnd (P : Params) : ∃ s : HZ, evg (zI P) denQ ⟨pw, P⟩ 50000 c0 default [] (top0 P) (topStub pw).cur = some (.ok (.ret .none), s) ∧ ZG P s ∧ bootAddrs.map s.T.get = (bootObjs P).map some ∧ kAddrs.map s.T.get = (kObjs P).map some ∧ tabs.all (tabAt s.T) = true := by
  obtain ⟨⟨r, s⟩, h1, h2⟩ := Option.map_eq_some_iff.mp (topEval P)
  simp only [Prod.mk.injEq] at h2
  obtain ⟨rfl, a, b, z, c, d, e⟩ := h2
  rw [funext (HT.getq_eq s.T)] at c d
  refine ⟨s, h1, fun T e a o q => ?_, c, d, e⟩
  rw [e] at z
  exact List.map_inj_left.mp (Option.some.inj z) _ (mem_of_lookup q)
theorem atTop_of {P : Params} {S : Shared} {s : ES} (D : Rep S s) (h1 : bootAddrs.map s.T.get = (bootObjs P).map some) (h2 : kAddrs.map s.T.get = (kObjs P).map some) (h3 : tabs.all (tabAt s.T) = true) : AtTop P S.heap := by
  have k : ∀ a o, s.T.get a = some o → S.heap.get? a = some o := fun a o e => (D.at_ a o e).2
  refine ⟨fun a o e => ?_, fun x hx => tabIs_of k (List.all_eq_true.mp h3 x hx)⟩
  rcases List.mem_append.mp (mem_of_lookup e) with q | q
  · exact k _ _ (map_zip h1 _ q)
  · exact k _ _ (map_zip h2 _ q)
noncomputable def hA (P : Params) : Heap := ⟨#[boot_o_0 P, boot_o_1 P, k_2 P, k_3 P, boot_o_4 P, boot_o_5 P, boot_o_6 P, boot_o_7 P, boot_o_8 P, boot_o_9 P, boot_o_10 P], {}⟩
theorem at_2 (P : Params) : (KAll P).lookup 2 = some (k_2 P) := rfl
theorem at_3 (P : Params) : (KAll P).lookup 3 = some (k_3 P) := rfl
theorem at_0 (P : Params) : (KAll P).lookup 0 = some (boot_o_0 P) := rfl
theorem at_4 (P : Params) : (KAll P).lookup 4 = some (boot_o_4 P) := rfl
section
variable {P : Params} {h : Heap} (X : AtTop P h)
include X
theorem AtTop.g2 : h.get? cStatics = (hA P).get? cStatics := (X.k _ _ (at_2 P)).trans rfl
theorem AtTop.g3 : h.get? mainGlobals = (hA P).get? mainGlobals := (X.k _ _ (at_3 P)).trans rfl
theorem AtTop.g3' : h.get? mainNs = (hA P).get? mainNs := (X.k _ _ (at_3 P)).trans rfl
theorem AtTop.g0 : h.get? builtinsNs = (hA P).get? builtinsNs := (X.k _ _ (at_0 P)).trans rfl
end
theorem isNs_congr {h h' : Heap} {a : Addr} (e : h.get? a = h'.get? a) : h.isNs a = h'.isNs a := by unfold Heap.isNs; rw [e]
theorem nsKeys_congr {h h' : Heap} {a : Addr} (e : h.get? a = h'.get? a) : h.nsKeys a = h'.nsKeys a := by unfold Heap.nsKeys; rw [e]
theorem nsMap_congr {h h' : Heap} {a : Addr} (e : h.get? a = h'.get? a) : h.nsMap a = h'.nsMap a := by funext x; unfold Heap.nsMap; rw [e]
theorem nsPairs_congr {h h' : Heap} {a : Addr} (e : h.get? a = h'.get? a) : h.nsPairs a = h'.nsPairs a := by unfold Heap.nsPairs; rw [e]
theorem mods_nil : importedModules PySem.Challenge.pw_iu0027_01.main.body = [] := by kernel_rfl
theorem looks1 (P : Params) : (hA P).accountedOkI [] = true := by kernel_rfl
theorem looks2 (P : Params) : staticsOk [] (boot_heap P) (hA P) = true := by kernel_rfl
theorem looks3 (P : Params) : namesBound PySem.Challenge.pw_iu0027_01 (hA P) = true := by kernel_rfl
theorem looks4 (P : Params) : laidKept (boot_heap P) (hA P) = true := by kernel_rfl
theorem looks5 (P : Params) : (hA P).isNs builtinsNs = true := by kernel_rfl
theorem looks6 (P : Params) : (hA P).bltView = bltViewBooted := by kernel_rfl
theorem looks7 (P : Params) : (hA P).nsMap mainGlobals "__builtins__" = some (.ref 4) := by kernel_rfl
theorem looks8 (P : Params) : (boot_o_4 P).cls = .type "module" ∧ (boot_o_4 P).dict = some builtinsNs := ⟨rfl, rfl⟩
theorem looks9 (P : Params) : (hA P).nsMap mainGlobals "law" = some (.ref 1212) := by kernel_rfl
end Mine
end
section
open PySem PySem.W PyProof.Rows
set_option backward.match.sparseCases false
set_option genSizeOf false
set_option genInjectivity false
set_option maxRecDepth 1000000
set_option maxHeartbeats 0
namespace Mine
noncomputable abbrev PW := PySem.Challenge.pw_iu0027_01
theorem open_is : opening PW = plainProg PW.main.scope.names := by kernel_rfl
theorem fence_is (s : Shared) : fenceModules? PW s = some s := rfl
namespace HT
noncomputable def Holds (p : Nat → Obj → Prop) : Nat → Nat → HT → Prop
  | _, _, .nil => True
  | s, b, .node v l r => (∀ o, v = some o → p b o) ∧ Holds p (2 * s) (s + b) l ∧ Holds p (2 * s) (2 * s + b) r
theorem Holds.get {p : Nat → Obj → Prop} : ∀ {t : HT} {s b : Nat}, Holds p s b t → ∀ {j : Nat} {o : Obj}, t.get j = some o → p (s * j + b) o
  | .nil, _, _, _, _, _, e => by cases e
  | .node v l r, s, b, H, j, o, e => by
    rw [get_node] at e
    by_cases h0 : j = 0
    · subst h0
      rw [if_pos rfl] at e
      rw [Nat.mul_zero, Nat.zero_add]
      exact H.1 o e
    · rw [if_neg h0] at e
      by_cases q : j % 2 = 1
      · rw [if_pos q] at e
        have z := Holds.get H.2.1 e
        have : 2 * s * (j / 2) + (s + b) = s * j + b := by
          have hj : 2 * (j / 2) + 1 = j := q ▸ Nat.div_add_mod j 2
          generalize j / 2 = q at hj
          rw [← hj, Nat.mul_add, Nat.mul_one, Nat.mul_comm 2 s, Nat.mul_assoc, Nat.add_assoc]
        rw [this] at z; exact z
      · rw [if_neg q] at e
        have z := Holds.get H.2.2 e
        have : 2 * s * (j / 2 - 1) + (2 * s + b) = s * j + b := by
          have hj := even_is h0 q
          generalize j / 2 - 1 = q at hj
          rw [hj, ← Nat.mul_assoc, Nat.mul_comm s 2, Nat.mul_add (2 * s), Nat.mul_one, Nat.add_assoc]
        rw [this] at z; exact z
end HT
theorem boot_rep {P : Params} {S : Shared} (e : S.heap = boot_heap P) (ht : S.toks = boot_toks) : Rep S (boot0 P) := by
  refine ⟨by rw [e]; rfl, ht, fun a o h => ?_⟩
  have H : HT.Holds (fun a o => a < 11 ∧ (boot_heap P).get? a = some o) 1 0 (boot0 P).T := by
    refine ⟨?_, ⟨?_, ⟨?_, ⟨?_, trivial, trivial⟩, trivial⟩, ⟨?_, ⟨?_, trivial, trivial⟩, trivial⟩⟩, ⟨?_, ⟨?_, ⟨?_, trivial, trivial⟩, trivial⟩, ⟨?_, ⟨?_, trivial, trivial⟩, trivial⟩⟩⟩
    all_goals (intro o h; cases h; exact ⟨by decide, rfl⟩)
  have z := H.get h
  rw [Nat.one_mul, Nat.add_zero] at z
  rw [e]; exact z
theorem top_ran (w : World) : (∃ s, AfterRun (opening PW) w s) ∧ ∀ s, AfterRun (opening PW) w s → ∃ s₀, fenceModules? PW s = some s₀ ∧ s₀.gens = #[] ∧ ∃ s₁, TopRan PW w s₀ s₁ ∧ s₁.asleep ∧ s₁.gens = #[] ∧ AtTop w.params s₁.heap := by
  obtain ⟨s, hs, hv⟩ := Option.map_eq_some_iff.mp (boot_plain w PW.main.scope.names)
  simp only [Prod.mk.injEq] at hv
  obtain ⟨e1, e2, e3, e4⟩ := hv
  rw [← open_is, ← table_eq_tree] at hs
  have A : AfterImport (opening PW) w s := AfterImport.of_importEnds hs
  refine ⟨⟨s, A⟩, fun s' hs' => ?_⟩
  obtain rfl : s' = s := AfterImport.unique hs' A
  refine ⟨s', fence_is s', e2, ?_⟩
  obtain ⟨sf, hrun, hG, hb, hk, ht⟩ := topEnd w.params
  have hwp := (evg_sound (M := model PW w) (den := denQ) (fun c => by rw [← denQ_eq]; rfl) (z_ok w) _ _ _ _ _ _ _ _ hrun hG).2
    (fun r s'' => r = .ok (.ret .none) ∧ ((AtTop w.params s''.heap ∧ (∀ p ∈ bootAddrs.zip (bootObjs w.params), s''.heap.get? p.1 = some p.2) ∧ s''.os = s'.os) ∧ s''.gens = #[])) s' ⟨boot_rep e1 e4, nofun⟩
    fun S' D' sm => ⟨rfl, ⟨atTop_of D'.rep hb hk ht, fun p hp => (D'.rep.at_ _ _ (map_zip hb p hp)).2, sm.os⟩, sm.gens.trans e2⟩
  obtain ⟨s₁, hsch, hlife, ⟨hT, hboot, hos⟩, hg⟩ := top_runs (prog := PW) (w := w) (f := .ret .none) (P := fun s'' => AtTop w.params s''.heap ∧ (∀ p ∈ bootAddrs.zip (bootObjs w.params), s''.heap.get? p.1 = some p.2) ∧ s''.os = s'.os) A.life hwp
  have z3 : s₁.heap.isNs mainGlobals = true := (isNs_congr hT.g3).trans (by exact (Bool.and_eq_true_iff.mp (looks3 w.params)).1)
  have z0 : s₁.heap.isNs builtinsNs = true := (isNs_congr hT.g0).trans (looks5 _)
  refine ⟨s₁, ⟨hsch, hlife, Shared.rest_eq hos, fun b o hb' hn => ?_, ?_, ?_, Pin.keysAreStrs_of z3, ?_, ?_, ?_, ?_, ?_⟩, Shared.asleep_of_life hlife A.life, hg, hT⟩
  · rw [e1] at hb'
    have h2 : b ≠ 2 := fun q => hn (.inr (.inl q))
    have h3 : b ≠ 3 := fun q => hn (.inl q)
    have key : ∀ p ∈ bootAddrs.zip (bootObjs w.params), s₁.heap.get? p.1 = some p.2 := hboot
    simp only [bootAddrs, bootObjs, List.zip_cons_cons, List.mem_cons, forall_eq_or_imp, List.zip_nil_right] at key
    obtain ⟨k0, k1, k4, k5, k6, k7, k8, k9, k10, _⟩ := key
    have hlt : b < 11 := Heap.lt_size hb'
    match b, hlt, h2, h3, hb' with
    | 0, _, _, _, q => cases q; exact k0
    | 1, _, _, _, q => cases q; exact k1
    | 2, _, z, _, _ => exact absurd rfl z
    | 3, _, _, z, _ => exact absurd rfl z
    | 4, _, _, _, q => cases q; exact k4
    | 5, _, _, _, q => cases q; exact k5
    | 6, _, _, _, q => cases q; exact k6
    | 7, _, _, _, q => cases q; exact k7
    | 8, _, _, _, q => cases q; exact k8
    | 9, _, _, _, q => cases q; exact k9
    | 10, _, _, _, q => cases q; exact k10
  · rw [mods_nil]
    refine Heap.accountedI_of_ok ?_
    have z := looks1 w.params
    unfold Heap.accountedOkI at z ⊢
    rw [isNs_congr hT.g2, nsKeys_congr hT.g2, nsMap_congr hT.g2]
    exact z
  · rw [mods_nil]
    refine statics_of_ok ?_
    have z := looks2 w.params
    unfold staticsOk at z ⊢
    rw [isNs_congr hT.g2, nsKeys_congr hT.g2, nsMap_congr hT.g2, e1]
    exact z
  · intro x hx
    rw [Pin.builtinOf_eq z0, Heap.of_bltView z0 (by unfold Heap.bltView; rw [nsPairs_congr hT.g0]; exact looks6 _) x hx]
    rfl
  · exact ⟨4, _, (Pin.globalOf_eq z3 _).trans ((congrFun (nsMap_congr hT.g3) _).trans (looks7 _)), hT.k _ _ (at_4 _), looks8 _⟩
  · intro g hg'
    rw [hg] at hg'
    simp at hg'
  · refine names_of_bound ?_
    have z := looks3 w.params
    unfold namesBound at z ⊢
    rw [isNs_congr hT.g3, nsKeys_congr hT.g3]
    exact z
  · refine laid_of_kept ?_
    have z := looks4 w.params
    unfold laidKept at z ⊢
    rw [isNs_congr hT.g3, nsMap_congr hT.g3, e1]
    exact z
noncomputable abbrev RW := PySem.Challenge.rw_iu0027_01.row
theorem law_def : PW.theDef "law" = some (topFn 28) := by kernel_rfl
theorem at_1212 (P : Params) : (KAll P).lookup 1212 = some (k_1212 P) := rfl
theorem law_pinned {P : Params} {h : Heap} (X : AtTop P h) : isTheDefsW PW h "law" := by
  have z3 : h.isNs mainGlobals = true := (isNs_congr X.g3).trans (by exact (Bool.and_eq_true_iff.mp (looks3 P)).1)
  refine ⟨1212, _, _, (topFn 28).1, (topFn 28).2.1, (topFn 28).2.2, (Pin.globalOf_eq z3 _).trans ((congrFun (nsMap_congr X.g3) _).trans (looks9 _)), X.k _ _ (at_1212 P), rfl, law_def, rfl, rfl, rfl, rfl, rfl, rfl, rfl, rfl, ?_⟩
  exact ⟨.inl ⟨by kernel_rfl, rfl⟩, [], by kernel_rfl, .inl ⟨rfl, rfl⟩⟩
theorem post_ok (args : List WData) : RW.toRowW.claim.post args (.bool true) args = true :=
  postW_of (r := RW.toRowW) (d := .bool true) (by kernel_rfl) (w_eq_bool (w_res rfl) w_lit) rfl
theorem args_open {w : World} {s s₁ : Shared} {args : List WData} {vs : List Value} {as : List Addr} (hpre : RW.toRowW.claim.pre args = true) (hlay : WData.layableAll args = true)
    (hrd : ReadsAllW RW.toRowW.records (classAt s.heap) s₁.heap vs args as) (hwl : WellAll w.params s₁.heap vs args) (hlo : ∀ a ∈ as, (a == sysModules) = false) :
    ∃ l ws ns, vs = [.ref l] ∧ s₁.heap.IsList l ws.toArray ∧ IntsAre ws ns ∧ ns.length ≤ 63 := by
  wrow_args hpre hlay hrd hwl hlo
  exact ⟨_, _, _, rfl, by assumption, by assumption, by omega⟩
theorem holds_of_walk
    (walk : ∀ (w : World) (S : Shared) (l : Addr) (vs : List Value) (ns : List Int), AtTop w.params S.heap → S.gens = #[] → S.heap.IsList l vs.toArray → IntsAre vs ns → ns.length ≤ 63 →
      wpAny (model PW w) callerA (PySem.call (.ref 1212) [.ref l])
        (fun v s' => v = .bool true ∧ (∀ b o, S.heap.get? b = some o → s'.heap.get? b = some o) ∧ s'.os = S.os ∧ s'.gens = #[]) (fun _ _ => False) S) :
    PySem.Challenge.rw_iu0027_01.Holds := by
  have hw : RW.toRowW.promised := ⟨[.list []], by decide +kernel, by decide +kernel⟩
  refine ⟨said, row_said said, hw, ⟨⟨bare_, opensW, rfl⟩, hw.witness, fun w => ⟨(top_ran w).1, fun s' hs' => ?_⟩⟩⟩
  obtain ⟨s₀, hf, hg0, s, hT, hz, hgens, X⟩ := (top_ran w).2 s' hs'
  refine ⟨s₀, hf, hg0, s, hT, fun n hn => ?_, fun x hx => (nomatch hx), fun x hx => (nomatch hx), ?_⟩
  · obtain rfl : n = "law" := by
      have : n ∈ (["law"] : List PySem.Str) := hn
      simpa using this
    exact law_pinned X
  refine ClaimW.callFrom_of_specG (c := RW.toRowW.claim) hz hgens fun args hpre hlay ord hord => ?_
  obtain ⟨⟨vs, s₁⟩, hlaid⟩ := Option.isSome_iff_exists.mp (layAllW_isSome (R := RW.toRowW.records) (cl := classAt s.heap) (P := w.params) (ord := ord) (fun c hc => (nomatch hc)) args RW.toRowW.args s (pre_splitW hpre).1)
  have keeps := layAllW_keeps _ _ _ hlaid
  have hal := layAllW_rest _ _ _ hlaid
  obtain ⟨as, hrd, hin, hold⟩ := reads_layAllW hord _ _ _ hlaid hlay s₁.heap (fun _ _ e => e)
  have L : Laid RW.toRowW.records w s s₁ args vs as := ⟨⟨ord, hord, hlaid⟩, hrd, hin, hold, keeps, hal.1.trans hgens, hal.2.2.1⟩
  have X₁ : AtTop w.params s₁.heap := X.keeps keeps
  have hwl := L.well
  have hos := L.os
  have key : wpAny (model PW w) callerA (do match ← nsGet mainNs (PySem.Str.ofString "law") with
      | some f => do ret (← PySem.call f vs)
      | none => unsupported "claim.caller:no-such-global")
      (fun fin s' => ∃ f, fin = .done f ∧ GoodWG RW.toRowW.claim (classAt s.heap) (ExcName.means s.heap) args s₁ (.ok f) s')
      (fun _ _ => False) s₁ := by
    have z3 : s₁.heap.isNs mainGlobals = true := (isNs_congr X₁.g3).trans (by exact (Bool.and_eq_true_iff.mp (looks3 w.params)).1)
    refine wpAny_bind (wpAny_nsGet (Heap.Ns.of_isNs z3) ?_)
    have e : s₁.heap.nsMap mainNs (PySem.Str.ofString "law") = some (.ref 1212) := (congrFun (nsMap_congr X₁.g3) _).trans (looks9 _)
    rw [e]
    have hlo : ∀ a ∈ as, (a == sysModules) = false := fun a ha => beq_eq_false_iff_ne.mpr fun q => by
      have h1 : s.heap.objs.size ≤ a := (hin.2.2 a ha).1
      have h2 : (1212 : Nat) < s.heap.objs.size := Heap.lt_size (X.k _ _ (at_1212 w.params))
      have h3 : a = (1 : Nat) := q
      rw [h3] at h1
      exact absurd (Nat.lt_of_lt_of_le h2 h1) (by decide)
    obtain ⟨l, ws, ns, rfl, hl, hi, hn⟩ := args_open hpre hlay hrd hwl hlo
    refine wpAny_bind (wpAny_mono (walk w s₁ l ws ns X₁ L.gens hl hi hn) (fun v s'' ⟨hv, hk, ho, hg⟩ => ?_) fun _ _ x => x.elim)
    subst hv
    exact wpAny_pure ⟨_, rfl, .inl ⟨_, .bool true, [], rfl, fun _ => rfl, .bool true, post_ok _, fun _ => ⟨.nil, fun _ h => (nomatch h)⟩⟩, .of_keep hk, ho, .of_eq (hg.trans L.gens.symm |>.trans L.gens)⟩
  refine ⟨vs, s₁, hlaid, wpAny_mono key (fun fin s'' ⟨f, e, g⟩ => ⟨f, e, ?_⟩) fun _ _ x => x.elim⟩
  have z := g.laid (c := RW.toRowW.claim) rfl rfl (ident_freeW (r := RW.toRowW) rfl rfl rfl) L
  exact ⟨z.1, z.2.1, z.2.2, fun q => (Bool.noConfusion (show false = true from q))⟩
end Mine
end
section
open PySem PySem.W
set_option backward.match.sparseCases false
set_option genSizeOf false
set_option genInjectivity false
set_option maxRecDepth 100000
namespace Mine
noncomputable abbrev T := List Nat
noncomputable abbrev Row := T × Int × Int
inductive V where
  | none
  | bool (b : Bool)
  | int (i : Int)
  | str (s : T)
  | ints (l : List Int)
  | intss (l : List (List Int))
  | strs (l : List T)
  | strss (l : List (List T))
  | menu (l : List T)
  | tab (rows : List Row)
  | row (r : Row)
  | me
  | adl (a : Nat) (l : List T)
@[simp] theorem V.bool_inj (a b : Bool) : (V.bool a = V.bool b) = (a = b) := propext ⟨fun h => by cases h; rfl, congrArg _⟩
@[simp] theorem V.int_inj (a b : Int) : (V.int a = V.int b) = (a = b) := propext ⟨fun h => by cases h; rfl, congrArg _⟩
@[simp] theorem V.str_inj (a b : T) : (V.str a = V.str b) = (a = b) := propext ⟨fun h => by cases h; rfl, congrArg _⟩
inductive Fld where
  | cur | cursor | limit | lb | bra | ket | bn | bv | bd
  deriving DecidableEq
noncomputable def Fld.name : Fld → Str
  | .cur => "current" | .cursor => "cursor" | .limit => "limit" | .lb => "limit_backward" | .bra => "bra" | .ket => "ket" | .bn => "B_is_noun" | .bv => "B_is_verb" | .bd => "B_is_defined"
structure St where
  cur : Option T := none
  cursor : Option Int := none
  limit : Option Int := none
  lb : Option Int := none
  bra : Option Int := none
  ket : Option Int := none
  bn : Option Bool := none
  bv : Option Bool := none
  bd : Option Bool := none
noncomputable def St.get (σ : St) : Fld → Option V
  | .cur => σ.cur.map .str
  | .cursor => σ.cursor.map .int
  | .limit => σ.limit.map .int
  | .lb => σ.lb.map .int
  | .bra => σ.bra.map .int
  | .ket => σ.ket.map .int
  | .bn => σ.bn.map .bool
  | .bv => σ.bv.map .bool
  | .bd => σ.bd.map .bool
inductive Op where
  | add | sub | shr | mod | fdiv
inductive Cm where
  | eq | ne | lt | le | gt | ge
inductive Bi where
  | len | ord | chr | min
inductive Sm where
  | ends | starts | join
set_option genCtorIdx false in
inductive E where
  | lit (v : V)
  | neg (i : Int)
  | var (i : Nat)
  | gl (v : V)
  | fld (o : Nat) (f : Fld)
  | cat (v : V)
  | rowS (e : E) | rowI (e : E) | rowR (e : E)
  | bin (o : Op) (a b : E)
  | cmp (o : Cm) (a b : E)
  | isIn (a b : E)
  | not (a : E)
  | and2 (a b : E) | and3 (a b c : E) | or2 (a b : E)
  | ife (c a b : E)
  | idx (a i : E)
  | slAll (a lo hi : E) | slLo (a lo : E) | slHi (a hi : E)
  | bi1 (f : Bi) (a : E)
  | min2 (a b : E)
  | sm (m : Sm) (a b : E)
  | strsD (l : List T)
  | pair (a b : E)
  | tup2 (a b : E)
  | call0 (o : Nat) (m : Nat)
  | call1 (o : Nat) (m : Nat) (a : E)
  | call3 (o : Nat) (m : Nat) (a b c : E)
  | fn0 (f : Nat)
  | fn1 (f : Nat) (a : E)
  | fn2 (f : Nat) (a b : E)
  | fn3 (f : Nat) (a b c : E)
  | compM (vis : List Nat) (i : Nat) (it body : E)
  | compF (vis : List Nat) (i : Nat) (it cond : E)
set_option genCtorIdx false in
mutual
inductive S where
  | asg (x : Nat) (e : E)
  | setF (o : Nat) (f : Fld) (e : E)
  | augV (x : Nat) (o : Op) (e : E)
  | augF (ob : Nat) (f : Fld) (o : Op) (e : E)
  | setL (x : Nat) (i e : E)
  | xpr (e : E)
  | ret (e : E)
  | brk | cont | pass
  | assert (e : E)
  | raise (k : Nat)
  | ite (c : E) (a b : Bk)
  | whl (b : Bk)
  | forE (x : Nat) (it : E) (b : Bk)
  | forR (x : Nat) (lo hi : E) (b : Bk)
  | forD (x : Nat) (hi : E) (b : Bk)
  | try_ (b : Bk) (k : Nat)
inductive Bk where
  | nil
  | cons (s : S) (b : Bk)
end
noncomputable abbrev Loc := List (Option V)
noncomputable def big : Nat := 1000000
noncomputable def okI (i : Int) : Bool := decide (-1000000000 < i) && decide (i < 1000000000)
noncomputable def okT (t : T) : Bool := decide (t.length ≤ big)
noncomputable def asI : V → Option Int | .int a => some a | _ => Option.none
noncomputable def asS : V → Option T | .str a => some a | _ => Option.none
noncomputable def asL : V → Option (List T) | .strs a => some a | _ => Option.none
noncomputable def asO : V → Option Bool | .bool a => some a | _ => Option.none
noncomputable def St.set (σ : St) (f : Fld) (v : V) : Option St := match f with
  | .cur => (asS v).map fun t => { σ with cur := some t }
  | .cursor => (asI v).map fun i => { σ with cursor := some i }
  | .limit => (asI v).map fun i => { σ with limit := some i }
  | .lb => (asI v).map fun i => { σ with lb := some i }
  | .bra => (asI v).map fun i => { σ with bra := some i }
  | .ket => (asI v).map fun i => { σ with ket := some i }
  | .bn => (asO v).map fun b => { σ with bn := some b }
  | .bv => (asO v).map fun b => { σ with bv := some b }
  | .bd => (asO v).map fun b => { σ with bd := some b }
noncomputable def one {α : Type} : List α → Option α | [a] => some a | _ => Option.none
noncomputable def two {α : Type} : List α → Option (α × α) | [a, b] => some (a, b) | _ => Option.none
noncomputable def opV (o : Op) (x y : V) : Option V := match o with
  | .add => (match x with
    | .int a => (asI y).map fun b => .int (a + b)
    | .str a => (asS y).bind fun b => if a.length + b.length ≤ big then some (.str (a ++ b)) else Option.none
    | .strs a => (asL y).bind fun b => if a.length + b.length ≤ big then some (.strs (a ++ b)) else Option.none
    | _ => Option.none)
  | .sub => (asI x).bind fun a => (asI y).map fun b => .int (a - b)
  | .shr => (asI x).bind fun a => (asI y).bind fun b => if b = 1 then some (.int (a.fdiv 2)) else Option.none
  | .mod => (asI x).bind fun a => (asI y).bind fun b => if 0 < b then some (.int (a.fmod b)) else Option.none
  | .fdiv => (asI x).bind fun a => (asI y).bind fun b => if 0 < b ∧ b < 1000 then some (.int (a.fdiv b)) else Option.none
noncomputable def auV (o : Op) (x y : V) : Option V := (asI x).bind fun a => (asI y).bind fun b => match o with
  | .add => some (.int (a + b))
  | .sub => some (.int (a - b))
  | _ => Option.none
noncomputable def cmI : Cm → Int → Int → Bool
  | .eq, a, b => decide (a = b)
  | .ne, a, b => !decide (a = b)
  | .lt, a, b => decide (a < b)
  | .le, a, b => decide (a ≤ b)
  | .gt, a, b => decide (b < a)
  | .ge, a, b => decide (b ≤ a)
noncomputable def cmT {α : Type} [DecidableEq α] (o : Cm) (a b : α) : Option V := match o with
  | .eq => some (.bool (decide (a = b)))
  | .ne => some (.bool (!decide (a = b)))
  | _ => Option.none
noncomputable def cmV (o : Cm) (x y : V) : Option V := match x with
  | .int a => (asI y).map fun b => .bool (cmI o a b)
  | .str a => (asS y).bind fun b => cmT o a b
  | .strs a => (asL y).bind fun b => cmT o a b
  | _ => Option.none
noncomputable def inV (x y : V) : Option V := (asS x).bind fun a => (asL y).map fun l => .bool (l.contains a)
noncomputable def idxV (x y : V) : Option V := (asI y).bind fun i => if 0 ≤ i ∧ i < 1000000 then (match x with
  | .str s => (s[i.toNat]?).map fun c => .str [c]
  | .strs l => (l[i.toNat]?).map .str
  | .menu l => (l[i.toNat]?).map .str
  | .tab l => (l[i.toNat]?).map .row
  | _ => Option.none) else Option.none
noncomputable def fitB (i : Int) (n : Nat) : Nat := if i < 0 then (i + n).toNat else min i.toNat n
noncomputable def cutT {α : Type} (s : List α) (lo hi : Nat) : List α := (s.take hi).drop lo
noncomputable def slV : V → Option Int → Option Int → Option V
  | .str s, lo, hi => if (okT s) then some (.str (cutT s ((lo.map fun i => fitB i s.length).getD 0) ((hi.map fun i => fitB i s.length).getD s.length))) else Option.none
  | .ints s, lo, hi => if s.length ≤ big then some (.ints (cutT s ((lo.map fun i => fitB i s.length).getD 0) ((hi.map fun i => fitB i s.length).getD s.length))) else Option.none
  | _, _, _ => Option.none
noncomputable def biV (f : Bi) (x : V) : Option V := match f with
  | .len => (match x with
    | .str s => if s.length ≤ big then some (.int s.length) else Option.none
    | .strs l => if l.length ≤ big then some (.int l.length) else Option.none
    | .tab l => if l.length ≤ big then some (.int l.length) else Option.none
    | .adl _ l => if l.length ≤ big then some (.int l.length) else Option.none
    | _ => Option.none)
  | .ord => (asS x).bind fun s => (one s).map fun (c : Nat) => V.int (c : Int)
  | .chr => (asI x).bind fun i => if 0 ≤ i ∧ i < 70000 then some (.str [i.toNat]) else Option.none
  | .min => Option.none
noncomputable def jnV (y : V) : Option (List T) := match y with | .strs l => some l | .adl _ l => some l | _ => Option.none
noncomputable def smV (m : Sm) (x y : V) : Option V := (asS x).bind fun a => match m with
  | .ends => (asS y).map fun b => .bool (b.isSuffixOf a)
  | .starts => (asS y).map fun b => .bool (b.isPrefixOf a)
  | .join => if a = [] then (jnV y).bind fun l => if (l.map List.length).sum + l.length ≤ big then some (.str l.flatten) else Option.none else Option.none
noncomputable abbrev Phi := Nat → List V → St → Option (V × St)
noncomputable abbrev Psi := Nat → List V → Option V
noncomputable def strsOf : List V → Option (List T)
  | [] => some []
  | .str t :: r => (strsOf r).map (t :: ·)
  | _ => Option.none
noncomputable def itemsRaw : V → Option (List V)
  | .str s => some (s.map fun c => .str [c])
  | .strs l => some (l.map .str)
  | .strss l => some (l.map .strs)
  | .ints l => some (l.map .int)
  | .intss l => some (l.map .ints)
  | _ => Option.none
noncomputable def itemsOf (v : V) : Option (List V) := (itemsRaw v).bind fun l => if l.length ≤ big then some l else Option.none
noncomputable def evEach (f : V → St → Option (V × St)) : List V → St → Option (List V × St)
  | [], σ => some ([], σ)
  | v :: r, σ => (f v σ).bind fun (y, σ) => (evEach f r σ).bind fun (ys, σ) => some (y :: ys, σ)
noncomputable def evKeep (f : V → St → Option (V × St)) : List V → St → Option (List V × St)
  | [], σ => some ([], σ)
  | v :: r, σ => (f v σ).bind fun (y, σ) => match y with
    | .bool b => (evKeep f r σ).bind fun (ys, σ) => some (if b then v :: ys else ys, σ)
    | _ => Option.none
noncomputable def seen (vis : List Nat) (ρ : Loc) : Loc := ρ.mapIdx fun j v => if vis.contains j then v else Option.none
noncomputable def ev' (Φ : Phi) (Ψ : Psi) : E → Loc → St → Option (V × St)
  | .lit v, _, σ => some (v, σ)
  | .neg i, _, σ => some (.int (-i), σ)
  | .var i, ρ, σ => (ρ.getD i Option.none).map (·, σ)
  | .gl v, _, σ => some (v, σ)
  | .cat v, _, σ => some (v, σ)
  | .fld o f, ρ, σ => match ρ.getD o Option.none with
    | some .me => (σ.get f).map (·, σ)
    | _ => Option.none
  | .rowS e, ρ, σ => (ev' Φ Ψ e ρ σ).bind fun (v, σ) => match v with | .row r => some (.str r.1, σ) | _ => Option.none
  | .rowI e, ρ, σ => (ev' Φ Ψ e ρ σ).bind fun (v, σ) => match v with | .row r => some (.int r.2.1, σ) | _ => Option.none
  | .rowR e, ρ, σ => (ev' Φ Ψ e ρ σ).bind fun (v, σ) => match v with | .row r => some (.int r.2.2, σ) | _ => Option.none
  | .bin o a b, ρ, σ => (ev' Φ Ψ a ρ σ).bind fun (x, σ) => (ev' Φ Ψ b ρ σ).bind fun (y, σ) => (opV o x y).map (·, σ)
  | .cmp o a b, ρ, σ => (ev' Φ Ψ a ρ σ).bind fun (x, σ) => (ev' Φ Ψ b ρ σ).bind fun (y, σ) => (cmV o x y).map (·, σ)
  | .isIn a b, ρ, σ => (ev' Φ Ψ a ρ σ).bind fun (x, σ) => (ev' Φ Ψ b ρ σ).bind fun (y, σ) => (inV x y).map (·, σ)
  | .not a, ρ, σ => (ev' Φ Ψ a ρ σ).bind fun (x, σ) => match x with | .bool b => some (.bool (!b), σ) | _ => Option.none
  | .and2 a b, ρ, σ => (ev' Φ Ψ a ρ σ).bind fun (x, σ) => match x with | .bool false => some (.bool false, σ) | .bool true => ev' Φ Ψ b ρ σ | _ => Option.none
  | .and3 a b c, ρ, σ => (ev' Φ Ψ a ρ σ).bind fun (x, σ) => match x with
    | .bool false => some (.bool false, σ)
    | .bool true => (ev' Φ Ψ b ρ σ).bind fun (y, σ) => match y with | .bool false => some (.bool false, σ) | .bool true => ev' Φ Ψ c ρ σ | _ => Option.none
    | _ => Option.none
  | .or2 a b, ρ, σ => (ev' Φ Ψ a ρ σ).bind fun (x, σ) => match x with | .bool true => some (.bool true, σ) | .bool false => ev' Φ Ψ b ρ σ | _ => Option.none
  | .ife c a b, ρ, σ => (ev' Φ Ψ c ρ σ).bind fun (x, σ) => match x with | .bool true => ev' Φ Ψ a ρ σ | .bool false => ev' Φ Ψ b ρ σ | _ => Option.none
  | .idx a i, ρ, σ => (ev' Φ Ψ a ρ σ).bind fun (x, σ) => (ev' Φ Ψ i ρ σ).bind fun (y, σ) => (idxV x y).map (·, σ)
  | .slAll a lo hi, ρ, σ => (ev' Φ Ψ a ρ σ).bind fun (x, σ) => (ev' Φ Ψ lo ρ σ).bind fun (y, σ) => (ev' Φ Ψ hi ρ σ).bind fun (z, σ) => match y, z with
    | .int i, .int j => (slV x (some i) (some j)).map (·, σ)
    | _, _ => Option.none
  | .slLo a lo, ρ, σ => (ev' Φ Ψ a ρ σ).bind fun (x, σ) => (ev' Φ Ψ lo ρ σ).bind fun (y, σ) => match y with
    | .int i => (slV x (some i) Option.none).map (·, σ)
    | _ => Option.none
  | .slHi a hi, ρ, σ => (ev' Φ Ψ a ρ σ).bind fun (x, σ) => (ev' Φ Ψ hi ρ σ).bind fun (y, σ) => match y with
    | .int i => (slV x Option.none (some i)).map (·, σ)
    | _ => Option.none
  | .bi1 f a, ρ, σ => (ev' Φ Ψ a ρ σ).bind fun (x, σ) => (biV f x).map (·, σ)
  | .min2 a b, ρ, σ => (ev' Φ Ψ a ρ σ).bind fun (x, σ) => (ev' Φ Ψ b ρ σ).bind fun (y, σ) => match x, y with
    | .int i, .int j => some (.int (if j < i then j else i), σ)
    | _, _ => Option.none
  | .sm m a b, ρ, σ => (ev' Φ Ψ a ρ σ).bind fun (x, σ) => (ev' Φ Ψ b ρ σ).bind fun (y, σ) => (smV m x y).map (·, σ)
  | .strsD l, _, σ => some (.strs l, σ)
  | .pair a b, ρ, σ => (ev' Φ Ψ a ρ σ).bind fun (x, σ) => (ev' Φ Ψ b ρ σ).bind fun (y, σ) => match x, y with
    | .strs i, .strs j => some (.strss [i, j], σ)
    | _, _ => Option.none
  | .tup2 a b, ρ, σ => (ev' Φ Ψ a ρ σ).bind fun (x, σ) => (ev' Φ Ψ b ρ σ).bind fun (y, σ) => match x, y with
    | .ints i, .ints j => some (.intss [i, j], σ)
    | _, _ => Option.none
  | .call0 o m, ρ, σ => match ρ.getD o Option.none with
    | some .me => Φ m [] σ
    | _ => Option.none
  | .call1 o m a, ρ, σ => match ρ.getD o Option.none with
    | some .me => (ev' Φ Ψ a ρ σ).bind fun (x, σ) => Φ m [x] σ
    | _ => Option.none
  | .call3 o m a b c, ρ, σ => match ρ.getD o Option.none with
    | some .me => (ev' Φ Ψ a ρ σ).bind fun (x, σ) => (ev' Φ Ψ b ρ σ).bind fun (y, σ) => (ev' Φ Ψ c ρ σ).bind fun (z, σ) => Φ m [x, y, z] σ
    | _ => Option.none
  | .fn0 f, _, σ => (Ψ f []).map (·, σ)
  | .fn1 f a, ρ, σ => (ev' Φ Ψ a ρ σ).bind fun (x, σ) => (Ψ f [x]).map (·, σ)
  | .fn2 f a b, ρ, σ => (ev' Φ Ψ a ρ σ).bind fun (x, σ) => (ev' Φ Ψ b ρ σ).bind fun (y, σ) => (Ψ f [x, y]).map (·, σ)
  | .fn3 f a b c, ρ, σ => (ev' Φ Ψ a ρ σ).bind fun (x, σ) => (ev' Φ Ψ b ρ σ).bind fun (y, σ) => (ev' Φ Ψ c ρ σ).bind fun (z, σ) => (Ψ f [x, y, z]).map (·, σ)
  | .compM vis i it body, ρ, σ => (ev' Φ Ψ it ρ σ).bind fun (x, σ) => (itemsOf x).bind fun l => (evEach (fun v σ => ev' Φ Ψ body ((seen vis ρ).set i (some v)) σ) l σ).bind fun (ys, σ) => (strsOf ys).map fun ts => (.strs ts, σ)
  | .compF vis i it cond, ρ, σ => if ρ.length ≤ i then Option.none else (ev' Φ Ψ it ρ σ).bind fun (x, σ) => (itemsOf x).bind fun l => (evKeep (fun v σ => ev' Φ Ψ cond ((seen vis ρ).set i (some v)) σ) l σ).bind fun (ys, σ) => (strsOf ys).map fun ts => (.strs ts, σ)
inductive Out where
  | next | brk | cont
  | ret (v : V)
  | exc (k : Nat)
noncomputable abbrev Sg := Loc × St
noncomputable abbrev Lp := (Sg → Option (Out × Sg)) → Sg → Option (Out × Sg)
noncomputable def evFor (f : V → Sg → Option (Out × Sg)) : List V → Sg → Option (Out × Sg)
  | [], x => some (.next, x)
  | v :: r, x => (f v x).bind fun (o, x) => match o with
    | .next => evFor f r x
    | .cont => evFor f r x
    | .brk => some (.next, x)
    | .ret v => some (.ret v, x)
    | .exc _ => Option.none
noncomputable def setV (ρ : Loc) (x : Nat) (v : V) : Loc := ρ.set x (some v)
set_option genCtorIdx false in
mutual
noncomputable def evS (lp : Lp) (Φ : Phi) (Ψ : Psi) : S → Sg → Option (Out × Sg)
  | .asg x e, (ρ, σ) => (ev' Φ Ψ e ρ σ).bind fun (v, σ) => some (.next, (setV ρ x v, σ))
  | .setF o f e, (ρ, σ) => (ev' Φ Ψ e ρ σ).bind fun (v, σ) => match ρ.getD o Option.none with
    | some .me => (σ.set f v).map fun σ => (.next, (ρ, σ))
    | _ => Option.none
  | .augV x o e, (ρ, σ) => (ρ.getD x Option.none).bind fun a => (ev' Φ Ψ e ρ σ).bind fun (b, σ) => (auV o a b).map fun v => (.next, (setV ρ x v, σ))
  | .augF ob f o e, (ρ, σ) => match ρ.getD ob Option.none with
    | some .me => (σ.get f).bind fun a => (ev' Φ Ψ e ρ σ).bind fun (b, σ) => (auV o a b).bind fun v => (σ.set f v).map fun σ => (.next, (ρ, σ))
    | _ => Option.none
  | .setL x i e, (ρ, σ) => (ev' Φ Ψ e ρ σ).bind fun (v, σ) => (ρ.getD x Option.none).bind fun a => (ev' Φ Ψ i ρ σ).bind fun (k, σ) => match a, k, v with
    | .strs l, .int k, .str t => if 0 ≤ k ∧ k < l.length then some (.next, (setV ρ x (.strs (l.set k.toNat t)), σ)) else Option.none
    | _, _, _ => Option.none
  | .xpr e, (ρ, σ) => (ev' Φ Ψ e ρ σ).bind fun (v, σ) => match v with
    | .none => some (.next, (ρ, σ))
    | .bool _ => some (.next, (ρ, σ))
    | .int _ => some (.next, (ρ, σ))
    | _ => Option.none
  | .ret e, (ρ, σ) => (ev' Φ Ψ e ρ σ).bind fun (v, σ) => some (.ret v, (ρ, σ))
  | .brk, x => some (.brk, x)
  | .cont, x => some (.cont, x)
  | .pass, x => some (.next, x)
  | .assert e, (ρ, σ) => (ev' Φ Ψ e ρ σ).bind fun (v, σ) => match v with
    | .bool true => some (.next, (ρ, σ))
    | _ => Option.none
  | .raise k, x => some (.exc k, x)
  | .ite c a b, (ρ, σ) => (ev' Φ Ψ c ρ σ).bind fun (v, σ) => match v with
    | .bool true => evB lp Φ Ψ a (ρ, σ)
    | .bool false => evB lp Φ Ψ b (ρ, σ)
    | _ => Option.none
  | .whl b, x => lp (fun y => evB lp Φ Ψ b y) x
  | .forE x it b, (ρ, σ) => (ev' Φ Ψ it ρ σ).bind fun (v, σ) => (itemsOf v).bind fun l => evFor (fun v y => evB lp Φ Ψ b (setV y.1 x v, y.2)) l (ρ, σ)
  | .forR x lo hi b, (ρ, σ) => (ev' Φ Ψ lo ρ σ).bind fun (v, σ) => (ev' Φ Ψ hi ρ σ).bind fun (w, σ) => match v, w with
    | .int i, .int j => if !(okI i && okI j) then Option.none else evFor (fun v y => evB lp Φ Ψ b (setV y.1 x v, y.2)) ((List.range (j - i).toNat).map fun (k : Nat) => V.int (i + (k : Int))) (ρ, σ)
    | _, _ => Option.none
  | .forD x hi b, (ρ, σ) => (ev' Φ Ψ hi ρ σ).bind fun (v, σ) => match v with
    | .int i => if !okI i then Option.none else evFor (fun v y => evB lp Φ Ψ b (setV y.1 x v, y.2)) ((List.range (i + 1).toNat).map fun (k : Nat) => V.int (i - (k : Int))) (ρ, σ)
    | _ => Option.none
  | .try_ b k, x => (evB lp Φ Ψ b x).bind fun (o, y) => match o with
    | .exc k' => if k' = k then some (.next, y) else Option.none
    | o => some (o, y)
noncomputable def evB (lp : Lp) (Φ : Phi) (Ψ : Psi) : Bk → Sg → Option (Out × Sg)
  | .nil, x => some (.next, x)
  | .cons s b, x => (evS lp Φ Ψ s x).bind fun (o, y) => match o with
    | .next => evB lp Φ Ψ b y
    | o => some (o, y)
end
noncomputable def iter (f : Sg → Option (Out × Sg)) : Nat → Sg → Option (Out × Sg)
  | 0, _ => Option.none
  | n + 1, x => (f x).bind fun (o, y) => match o with
    | .next => iter f n y
    | .cont => iter f n y
    | .brk => some (.next, y)
    | o => some (o, y)
noncomputable def callB (lp : Lp) (Φ : Phi) (Ψ : Psi) (n : Nat) (b : Bk) (args : List V) (σ : St) : Option (V × St) :=
  (evB lp Φ Ψ b (args.map some ++ List.replicate (n - args.length) Option.none, σ)).bind fun (o, (_, σ)) => match o with
    | .next => some (.none, σ)
    | .ret v => some (v, σ)
    | _ => Option.none
noncomputable def idx (nm : List Str) (x : Str) : Option Nat := nm.findIdx? (· == x)
noncomputable def okN (x : Str) : Bool := !(x == ("__debug__" : Str)) && !(x == ("__classdict__" : Str))
noncomputable def isG (sc : Scope) (x : Str) : Bool := sc.names.lookup x == some .globalImplicit && okN x
noncomputable def fldOf (a : Str) : Option Fld := [Fld.cur, .cursor, .limit, .lb, .bra, .ket, .bn, .bv, .bd].find? fun f => f.name == a
noncomputable def txt (s : Str) : T := s.cps.toList
noncomputable def cnst : Const → Option V
  | .none => some .none
  | .bool b => some (.bool b)
  | .int i => if okI i then some (.int i) else Option.none
  | .str s => if okT (txt s) then some (.str (txt s)) else Option.none
  | _ => Option.none
structure Names where
  mth : List (Str × Nat)
  fn : List (Str × Nat)
  cat : List (Str × V)
  gl : List (Str × V)
  labs : List (Str × Nat)
  sl : Bool
noncomputable def asName : Expr → Option Str | .Name x _ => some x | _ => Option.none
noncomputable def asConst : Expr → Option Const | .Constant c _ _ => some c | _ => Option.none
noncomputable def asCall : Expr → Option (Expr × List Expr × List Keyword) | .Call f as ks _ => some (f, as, ks) | _ => Option.none
noncomputable def asNeg : Expr → Option Expr | .UnaryOp o e _ => (match o with | .USub => some e | _ => Option.none) | _ => Option.none
noncomputable def kStr : Const → Option Str | .str s => some s | _ => Option.none
noncomputable def kInt : Const → Option Int | .int i => some i | _ => Option.none
noncomputable def kBool : Const → Option Bool | .bool i => some i | _ => Option.none
noncomputable def asInt (e : Expr) : Option Int := (asConst e).bind kInt
noncomputable def textsOf : List Expr → Option (List T)
  | [] => some []
  | e :: r => ((asConst e).bind kStr).bind fun s => if okT (txt s) then (textsOf r).map (txt s :: ·) else Option.none
noncomputable def opOf : Operator → Option Op
  | .Add => some .add | .Sub => some .sub | .RShift => some .shr | .Mod => some .mod | .FloorDiv => some .fdiv | _ => Option.none
noncomputable def cmOf : CmpOp → Option Cm
  | .Eq => some .eq | .NotEq => some .ne | .Lt => some .lt | .LtE => some .le | .Gt => some .gt | .GtE => some .ge | _ => Option.none
noncomputable def biOf (x : Str) : Option Bi := if x == "len" then some .len else if x == "ord" then some .ord else if x == "chr" then some .chr else Option.none
noncomputable def smOf (x : Str) : Option Sm := if x == "endswith" then some .ends else if x == "startswith" then some .starts else if x == "join" then some .join else Option.none
noncomputable def visOf (nm : List Str) (sc : Scope) : List Nat := (sc.names.filterMap fun (x, k) => if k == .free then idx nm x else Option.none)
noncomputable def compOk (sc sc' : Scope) (x : Str) : Bool :=
  sc'.names.all (fun y => !(y.2 == .cell)) && sc'.kind == .function && sc'.names.all (fun y => !(y.2 == .local) || sc'.names.lookup y.1 == some .local) && sc'.names.lookup x == some .local &&
  sc'.names.all (fun y => !(y.2 == .free) || (sc'.names.lookup y.1 == some .free && (sc.names.lookup y.1 == some .free || sc.names.lookup y.1 == some .cell)))
noncomputable def notSet : Expr → Bool
  | .Set .. => false | _ => true
noncomputable def plainBase : Expr → Bool
  | .Name .. => true | .Subscript .. => true | .Constant .. => true | _ => false
section
variable (N : Names) (nm : List Str) (r : Scope → Expr → Option E) (sc : Scope)
noncomputable def cUn (o : UnaryOp) (x : Expr) : Option E := match o with
  | .USub => (asInt x).bind fun i => if okI i then some (.neg i) else Option.none
  | .Not => (r sc x).map .not
  | _ => Option.none
noncomputable def cName (x : Str) : Option E := match idx nm x with
  | some i => if okN x then some (.var i) else Option.none
  | Option.none => if isG sc x then (N.gl.lookup x).map .gl else Option.none
noncomputable def cAttr (x a : Str) : Option E := match idx nm x with
  | some i => if !okN x then Option.none else match fldOf a with
    | some f => some (.fld i f)
    | Option.none => if a == "s" then some (.rowS (.var i)) else if a == "substring_i" then some (.rowI (.var i)) else if a == "result" then some (.rowR (.var i)) else Option.none
  | Option.none => if x == "ArabicStemmer" && isG sc x then (N.cat.lookup a).map .cat else Option.none
noncomputable def cCmp (a : Expr) (o : CmpOp) (b : Expr) : Option E := (r sc a).bind fun a => (r sc b).bind fun b => if o == .In then some (.isIn a b) else (cmOf o).map fun o => .cmp o a b
noncomputable def cBool (o : BoolOp) (l : List Expr) : Option E := match l with
  | [a, b] => (r sc a).bind fun a => (r sc b).bind fun b => some (match o with | .And => .and2 a b | .Or => .or2 a b)
  | [a, b, c] => match o with
    | .And => (r sc a).bind fun a => (r sc b).bind fun b => (r sc c).bind fun c => some (.and3 a b c)
    | .Or => Option.none
  | _ => Option.none
noncomputable def cSl (a : Expr) (lo hi st : Option Expr) : Option E := match st with
  | some _ => Option.none
  | Option.none => (r sc a).bind fun a => match lo, hi with
    | some l, some h => (r sc l).bind fun l => (r sc h).bind fun h => some (.slAll a l h)
    | some l, Option.none => (r sc l).bind fun l => some (.slLo a l)
    | Option.none, some h => (r sc h).bind fun h => some (.slHi a h)
    | Option.none, Option.none => Option.none
noncomputable def cSub (a i : Expr) : Option E := match i with
  | .Slice lo hi st _ => cSl r sc a lo hi st
  | i => (r sc a).bind fun a => (r sc i).bind fun i => some (.idx a i)
noncomputable def cFn (x : Str) (as : List Expr) : Option E := if !(idx nm x == Option.none && isG sc x) then Option.none else match as with
  | [] => (N.fn.lookup x).map .fn0
  | [a] => (r sc a).bind fun a => match biOf x with
    | some f => some (.bi1 f a)
    | Option.none => (N.fn.lookup x).map fun f => .fn1 f a
  | [a, b] => (r sc a).bind fun a => (r sc b).bind fun b => if x == "min" then some (.min2 a b) else (N.fn.lookup x).map fun f => .fn2 f a b
  | [a, b, c] => (r sc a).bind fun a => (r sc b).bind fun b => (r sc c).bind fun c => (N.fn.lookup x).map fun f => .fn3 f a b c
  | _ => Option.none
noncomputable def cMeth (x a : Str) (as : List Expr) : Option E := if !okN x then Option.none else (idx nm x).bind fun i => (N.mth.lookup a).bind fun m => match as with
  | [] => some (.call0 i m)
  | [a] => (r sc a).map fun a => .call1 i m a
  | [a, b, c] => (r sc a).bind fun a => (r sc b).bind fun b => (r sc c).bind fun c => some (.call3 i m a b c)
  | _ => Option.none
noncomputable def cSm (o : Expr) (m : Sm) (as : List Expr) : Option E := match as with
  | [b] => if !plainBase o then Option.none else (r sc o).bind fun o => (r sc b).bind fun b => some (.sm m o b)
  | _ => Option.none
noncomputable def cCall (f : Expr) (as : List Expr) (cp : Pos) : Option E := match f with
  | .Name x _ => cFn N nm r sc x as
  | .Attribute o a ap => if !(ap.endLine == cp.line) then Option.none else match smOf a with
    | some m => cSm r sc o m as
    | Option.none => (asName o).bind fun x => cMeth N nm r sc x a as
  | _ => Option.none
noncomputable def cList (es : List Expr) : Option E := match textsOf es with
  | some l => if l.length ≤ 1000 then some (.strsD l) else Option.none
  | Option.none => match es with
    | [a, b] => (r sc a).bind fun a => (r sc b).bind fun b => some (.pair a b)
    | _ => Option.none
noncomputable def cComp (elt : Expr) (x : Str) (it : Expr) (ifs : List Expr) (sc' : Scope) : Option E :=
  if !(compOk sc sc' x && notSet it) then Option.none else (idx nm x).bind fun i => (r sc it).bind fun it => match ifs with
  | [] => (r sc' elt).bind fun b => some (.compM (visOf nm sc') i it b)
  | [c] => if asName elt == some x && okN x then (r sc' c).bind fun b => some (.compF (visOf nm sc') i it b) else Option.none
  | _ => Option.none
noncomputable def cE1 (e : Expr) : Option E := match e with
  | .Constant c _ _ => (cnst c).map .lit
  | .UnaryOp o x _ => cUn r sc o x
  | .Name x _ => cName N nm sc x
  | .Attribute b a _ => (asName b).bind fun x => cAttr N nm sc x a
  | .BinOp a o b _ => (opOf o).bind fun o => (r sc a).bind fun a => (r sc b).bind fun b => some (.bin o a b)
  | .Compare a os bs _ => (one os).bind fun o => (one bs).bind fun b => cCmp r sc a o b
  | .BoolOp o l _ => cBool r sc o l
  | .IfExp c a b _ => (r sc c).bind fun c => (r sc a).bind fun a => (r sc b).bind fun b => some (.ife c a b)
  | .Subscript a i _ => cSub r sc a i
  | .Call f as kw cp => if kw.isEmpty then cCall N nm r sc f as cp else Option.none
  | .List es _ => cList r sc es
  | .Tuple es _ _ => (two es).bind fun p => (r sc p.1).bind fun a => (r sc p.2).bind fun b => some (.tup2 a b)
  | .ListComp elt gs sc' _ => (one gs).bind fun g => if g.is_async = 0 then (asName g.target).bind fun x => cComp nm r sc elt x g.iter g.ifs sc' else Option.none
  | _ => Option.none
end
noncomputable def cE (N : Names) (nm : List Str) : Nat → Scope → Expr → Option E
  | 0 => fun _ _ => Option.none
  | n + 1 => fun sc e => cE1 N nm (cE N nm n) sc e
noncomputable def notComp : Expr → Bool
  | .ListComp .. => false | .SetComp .. => false | .DictComp .. => false | _ => true
noncomputable def stores (sc : Scope) (x : Str) : Bool := okN x && (sc.names.lookup x == some .local || sc.names.lookup x == some .cell)
noncomputable def rngOf (sc : Scope) (e : Expr) : Option (List Expr) := (asCall e).bind fun (f, as, ks) => (asName f).bind fun r => if ks.isEmpty && (r == "range" && isG sc r) then some as else Option.none
section
variable (N : Names) (nm : List Str) (sc : Scope) (r : Expr → Option E) (rb : List Stmt → Option Bk)
noncomputable def cAsg (t v : Expr) : Option S := match t with
  | .Name x _ => if !stores sc x then Option.none else (idx nm x).bind fun i => (r v).map fun v => .asg i v
  | .Attribute b a _ => (asName b).bind fun x => if !(okN x && notComp v) then Option.none else (idx nm x).bind fun i => (fldOf a).bind fun f => (r v).map fun v => .setF i f v
  | _ => Option.none
noncomputable def cAug (t : Expr) (o : Operator) (v : Expr) : Option S := match t with
  | .Name x _ => if !stores sc x then Option.none else (idx nm x).bind fun i => (opOf o).bind fun o => (r v).map fun v => .augV i o v
  | .Attribute b a _ => (asName b).bind fun x => if !okN x then Option.none else (idx nm x).bind fun i => (fldOf a).bind fun f => (opOf o).bind fun o => (r v).map fun v => .augF i f o v
  | _ => Option.none
noncomputable def asBare (e : Expr) : Option Str := (asCall e).bind fun (f, as, ks) => if as.isEmpty && ks.isEmpty then asName f else Option.none
noncomputable def isTrue' (e : Expr) : Bool := (asConst e).bind kBool == some true
noncomputable def isM1 (e : Expr) : Bool := (asNeg e).bind asInt == some 1
noncomputable def cFor (x : Str) (it : Expr) (b : List Stmt) : Option S := if !(stores sc x && notSet it) then Option.none else (idx nm x).bind fun i => (rb b).bind fun b => match rngOf sc it with
  | some [lo, hi] => (r lo).bind fun lo => (r hi).map fun hi => .forR i lo hi b
  | some [hi, y, z] => if isM1 y && isM1 z then (r hi).map fun hi => .forD i hi b else Option.none
  | some _ => Option.none
  | Option.none => (r it).map fun it => .forE i it b
noncomputable def isPass : Stmt → Bool | .Pass _ => true | _ => false
noncomputable def hand : ExceptHandler → Option Str
  | .ExceptHandler t n b _ => if n.isNone then (one b).bind fun b => if isPass b then t.bind asName else Option.none else Option.none
noncomputable def cTry (b : List Stmt) (h : ExceptHandler) : Option S := (hand h).bind fun x => if isG sc x then (rb b).bind fun b => (N.labs.lookup x).map fun k => .try_ b k else Option.none
noncomputable def cS1 (st : Stmt) : Option S := match st with
  | .Assign ts v _ => (one ts).bind fun t => cAsg nm sc r t v
  | .AugAssign t o v _ => cAug nm sc r t o v
  | .Expr e _ => if !notComp e then Option.none else (r e).map .xpr
  | .Return e _ => e.bind fun e => (r e).map .ret
  | .Break _ => some .brk
  | .Continue _ => some .cont
  | .Pass _ => some .pass
  | .Assert e m _ => if !m.isNone then Option.none else (r e).map .assert
  | .Raise e c _ => if !c.isNone then Option.none else e.bind fun e => (asBare e).bind fun x => if isG sc x then (N.labs.lookup x).map .raise else Option.none
  | .If c a b _ => (r c).bind fun c => (rb a).bind fun a => (rb b).map fun b => .ite c a b
  | .While c b o _ => if !(isTrue' c && o.isEmpty) then Option.none else (rb b).map .whl
  | .For t it b o _ => if !o.isEmpty then Option.none else (asName t).bind fun x => cFor nm sc r rb x it b
  | .Try b hs o f _ => if !(o.isEmpty && f.isEmpty) then Option.none else (one hs).bind fun h => cTry N sc rb b h
  | _ => Option.none
end
noncomputable def cB (N : Names) (nm : List Str) (sc : Scope) : Nat → List Stmt → Option Bk
  | 0 => fun _ => Option.none
  | n + 1 => fun l => match l with
    | [] => some .nil
    | s :: t => (cS1 N nm sc (cE N nm 40 sc) (cB N nm sc n) s).bind fun s => (cB N nm sc n t).map fun t => .cons s t
noncomputable def cS (N : Names) (nm : List Str) (sc : Scope) (n : Nat) (st : Stmt) : Option S := cS1 N nm sc (cE N nm 40 sc) (cB N nm sc n) st
noncomputable def mths : List (Str × Nat) := [("set_current", 42), ("get_current", 49), ("eq_s_b", 126), ("find_among", 133), ("find_among_b", 140), ("replace_s", 147), ("slice_from", 154), ("slice_del", 161), ("stemWord", 189), ("r_Normalize_pre", 238), ("r_Normalize_post", 245), ("r_Checks1", 252), ("r_Prefix_Step1", 259), ("r_Prefix_Step2", 266), ("r_Prefix_Step3a_Noun", 273), ("r_Prefix_Step3b_Noun", 280), ("r_Prefix_Step3_Verb", 287), ("r_Prefix_Step4_Verb", 294), ("r_Suffix_Noun_Step1a", 301), ("r_Suffix_Noun_Step1b", 308), ("r_Suffix_Noun_Step2a", 315), ("r_Suffix_Noun_Step2b", 322), ("r_Suffix_Noun_Step2c1", 329), ("r_Suffix_Noun_Step2c2", 336), ("r_Suffix_Noun_Step3", 343), ("r_Suffix_Verb_Step1", 350), ("r_Suffix_Verb_Step2a", 357), ("r_Suffix_Verb_Step2b", 364), ("r_Suffix_Verb_Step2c", 371), ("r_Suffix_All_alef_maqsura", 378), ("_stem", 385)]
noncomputable def fns : List (Str × Nat) := [("_law_heads", 1140), ("_law_fronts", 1150), ("_law_part", 1157), ("_law_unshaped", 1164), ("_law_plain", 1171), ("_law_less", 1178), ("_law_ended", 1185), ("_law_goes", 1192), ("_law_begun", 1197), ("_law_hamzas", 1202), ("_law_stem", 1207), ("law", 1212)]
noncomputable def cats : List (Str × V) := [("a_0", .tab ta_0), ("as_0", .menu [[], [48], [49], [50], [51], [52], [53], [54], [55], [56], [57], [1569], [1571], [1573], [1574], [1570], [1572], [1575], [1576], [1577], [1578], [1579], [1580], [1581], [1582], [1583], [1584], [1585], [1586], [1587], [1588], [1589], [1590], [1591], [1592], [1593], [1594], [1601], [1602], [1603], [1604], [1605], [1606], [1607], [1608], [1609], [1610], [1604, 1575], [1604, 1571], [1604, 1573], [1604, 1570]]), ("a_1", .tab ta_1), ("a_2", .tab ta_2), ("as_2", .menu [[1575], [1608], [1610]]), ("a_3", .tab ta_3), ("a_4", .tab ta_4), ("a_5", .tab ta_5), ("a_6", .tab ta_6), ("a_7", .tab ta_7), ("a_8", .tab ta_8), ("a_9", .tab ta_9), ("a_10", .tab ta_10), ("a_11", .tab ta_11), ("a_12", .tab ta_12), ("a_13", .tab ta_13), ("a_14", .tab ta_14), ("a_15", .tab ta_15)]
noncomputable def gls : List (Str × V) := [("_law_letters", .str [1569, 1570, 1571, 1572, 1573, 1574, 1575, 1576, 1577, 1578, 1579, 1580, 1581, 1582, 1583, 1584, 1585, 1586, 1587, 1588, 1589, 1590, 1591, 1592, 1593, 1594, 1601, 1602, 1603, 1604, 1605, 1606, 1607, 1608, 1609, 1610]), ("_law_owners", .strs [[1603, 1605, 1575], [1607, 1605, 1575], [1603, 1605, 1608], [1606, 1575], [1607, 1575], [1603, 1605], [1607, 1605], [1603, 1606], [1607, 1606], [1606, 1610], [1603], [1607]]), ("_law_persons", .strs [[1578, 1605, 1575], [1578, 1575], [1606, 1575], [1578, 1606], [1575, 1606], [1608, 1606], [1610, 1606], [1575], [1578], [1606], [1610]]), ("_law_others", .strs [[1578, 1605, 1608], [1608, 1575], [1578, 1605], [1575, 1578], [1608], [1577], [1609]])]
noncomputable def labs : List (Str × Nat) := [("lab0", 1078), ("lab1", 1091), ("lab2", 1104), ("lab3", 1117), ("lab4", 1130)]
noncomputable def NM : Names := ⟨mths, fns, cats, gls, labs, false⟩
noncomputable def NM' : Names := ⟨mths, fns, cats, gls, labs, true⟩
noncomputable def nmOf (x : Arguments × List Stmt × Scope) (more : List Str) : List Str := (x.2.2.names.filterMap fun (n, k) => if k == .local || k == .cell then some n else Option.none) ++ more
noncomputable def codeOf (x : Arguments × List Stmt × Scope) (more : List Str) : Option Bk := cB NM (nmOf x more) x.2.2 200 x.2.1
noncomputable def codeOf' (x : Arguments × List Stmt × Scope) (more : List Str) : Option Bk := cB NM' (nmOf x more) x.2.2 200 x.2.1
structure Def where
  addr : Nat
  src : Arguments × List Stmt × Scope
  more : List Str
noncomputable def defs : List Def := [⟨42, mthFn 2 1, []⟩, ⟨49, mthFn 2 2, []⟩, ⟨126, mthFn 2 13, []⟩, ⟨133, mthFn 2 14, []⟩, ⟨140, mthFn 2 15, []⟩, ⟨147, mthFn 2 16, []⟩, ⟨154, mthFn 2 17, []⟩, ⟨161, mthFn 2 18, []⟩, ⟨189, mthFn 2 22, []⟩] ++
  ((List.range 22).map fun k => ⟨238 + 7 * k, mthFn 6 (3 + k), []⟩) ++
  [⟨1140, topFn 14, []⟩, ⟨1150, topFn 18, []⟩, ⟨1157, topFn 19, []⟩, ⟨1164, topFn 20, []⟩, ⟨1171, topFn 21, []⟩, ⟨1178, topFn 22, []⟩, ⟨1185, topFn 23, []⟩, ⟨1192, topFn 24, []⟩, ⟨1197, topFn 25, []⟩, ⟨1202, topFn 26, ["sign"]⟩, ⟨1207, topFn 27, ["head"]⟩, ⟨1212, topFn 28, ["number", "part", "word"]⟩]
end Mine
end
section
open PySem PySem.W PyProof.Rows PySem.Calls
set_option backward.match.sparseCases false
set_option genSizeOf false
set_option genInjectivity false
set_option maxRecDepth 100000
namespace Mine
theorem one_eq {α : Type} {l : List α} {a : α} (h : one l = some a) : l = [a] := by
  match l, h with
  | [_], h => cases h; rfl
  | [], h => exact nomatch h
  | _ :: _ :: _, h => exact nomatch h
theorem asI_eq {x : V} {i : Int} (h : asI x = some i) : x = .int i := by cases x <;> first | exact nn h | exact congrArg _ (Option.some.inj h)
theorem asO_eq {x : V} {i : Bool} (h : asO x = some i) : x = .bool i := by cases x <;> first | exact nn h | exact congrArg _ (Option.some.inj h)
theorem asS_eq {x : V} {i : T} (h : asS x = some i) : x = .str i := by cases x <;> first | exact nn h | exact congrArg _ (Option.some.inj h)
theorem asL_eq {x : V} {i : List T} (h : asL x = some i) : x = .strs i := by cases x <;> first | exact nn h | exact congrArg _ (Option.some.inj h)
noncomputable abbrev FrK (h₀ : Heap) (L : Addr) (h : Heap) (m : Str → Option Value) : Prop := PyProof.Rows.Fr h₀ L h m
inductive All2 {α β : Type} (P : α → β → Prop) : List α → List β → Prop
  | nil : All2 P [] []
  | cons {a b l r} : P a b → All2 P l r → All2 P (a :: l) (b :: r)
@[elab_as_elim] theorem al1 {α β : Type} {r : α → β → Prop} {y : β} {Q : List α → Prop} {us : List α} (h : All2 r us [y]) (k : ∀ u, r u y → Q [u]) : Q us := by
  cases h with | cons h1 h => cases h; exact k _ h1
@[elab_as_elim] theorem al2 {α β : Type} {r : α → β → Prop} {y z : β} {Q : List α → Prop} {us : List α} (h : All2 r us [y, z]) (k : ∀ u v, r u y → r v z → Q [u, v]) : Q us := by
  cases h with | cons h1 h => exact al1 h fun v h2 => k _ v h1 h2
@[elab_as_elim] theorem al3 {α β : Type} {r : α → β → Prop} {y z w : β} {Q : List α → Prop} {us : List α} (h : All2 r us [y, z, w]) (k : ∀ u v x, r u y → r v z → r x w → Q [u, v, x]) : Q us := by
  cases h with | cons h1 h => exact al2 h fun v x h2 h3 => k _ v x h1 h2 h3
theorem All2.mono {α β : Type} {P Q : α → β → Prop} (k : ∀ a b, P a b → Q a b) : ∀ {l r}, All2 P l r → All2 Q l r
  | _, _, .nil => .nil
  | _, _, .cons h t => .cons (k _ _ h) (t.mono k)
theorem All2.length {α β : Type} {P : α → β → Prop} : ∀ {l : List α} {r : List β}, All2 P l r → l.length = r.length
  | _, _, .nil => rfl
  | _, _, .cons _ t => by simp [t.length]
theorem All2.get {α β : Type} {P : α → β → Prop} : ∀ {l : List α} {r : List β}, All2 P l r → ∀ {i : Nat} {b : β}, r[i]? = some b → ∃ a, l[i]? = some a ∧ P a b
  | _, _, .nil, i, b, e => by simp at e
  | _, _, .cons (a := a) h t, 0, b, e => by simp at e; subst e; exact ⟨a, rfl, h⟩
  | _, _, .cons h t, i + 1, b, e => by simpa using t.get (i := i) (by simpa using e)
theorem All2.append {α β : Type} {P : α → β → Prop} : ∀ {l : List α} {r : List β} {l' r'}, All2 P l r → All2 P l' r' → All2 P (l ++ l') (r ++ r')
  | _, _, _, _, .nil, y => y
  | _, _, _, _, .cons h t, y => .cons h (t.append y)
theorem All2.take {α β : Type} {P : α → β → Prop} : ∀ (n : Nat) {l : List α} {r : List β}, All2 P l r → All2 P (l.take n) (r.take n)
  | 0, _, _, _ => by simp; exact .nil
  | n + 1, _, _, .nil => .nil
  | n + 1, _, _, .cons h t => .cons h (t.take n)
theorem All2.drop {α β : Type} {P : α → β → Prop} : ∀ (n : Nat) {l : List α} {r : List β}, All2 P l r → All2 P (l.drop n) (r.drop n)
  | 0, _, _, x => x
  | n + 1, _, _, .nil => .nil
  | n + 1, _, _, .cons h t => t.drop n
structure Cx where
  w : World
  B : Heap
  ob : Option (Addr × Addr)
noncomputable def isStr (u : Value) (s : T) : Prop := ∃ t, u = .str ⟨s.toArray⟩ t
noncomputable def isInt (u : Value) (i : Int) : Prop := ∃ t, u = .int i t
noncomputable def lstV {α : Type} (P : Value → α → Prop) (h : Heap) (u : Value) (l : List α) : Prop := ∃ a us, u = .ref a ∧ h.IsList a us.toArray ∧ All2 P us l
noncomputable def tupV {α : Type} (P : Value → α → Prop) (h : Heap) (u : Value) (l : List α) : Prop := ∃ a us, u = .ref a ∧ IsTup h a us.toArray ∧ All2 P us l
noncomputable def R (C : Cx) (h : Heap) (u : Value) : V → Prop
  | .none => u = .none
  | .bool b => u = .bool b
  | .int i => isInt u i
  | .str s => isStr u s
  | .ints l => lstV isInt h u l
  | .intss l => tupV (lstV isInt h) h u l
  | .strs l => lstV isStr h u l
  | .strss l => lstV (lstV isStr h) h u l
  | .menu l => tupV isStr h u l
  | .tab rows => ∃ a, u = .ref a ∧ TabIs C.B a rows
  | .row r => RowIs C.B u r
  | .me => ∃ x dx, C.ob = some (x, dx) ∧ u = .ref x
  | .adl a l => u = .ref a ∧ lstV isStr h u l
noncomputable def SeqKeep (h h' : Heap) : Prop := ∀ b o vs n, h.get? b = some o → o.data = .seq vs n → ∃ o', h'.get? b = some o' ∧ o'.cls = o.cls ∧ o'.data = o.data
theorem SeqKeep.list {h h' : Heap} (k : SeqKeep h h') {a : Addr} {us : Array Value} (x : h.IsList a us) : h'.IsList a us := by
  obtain ⟨o, ho, hc, n, hd⟩ := x
  obtain ⟨o', h1, h2, h3⟩ := k a o us n ho hd
  exact ⟨o', h1, h2.trans hc, n, h3.trans hd⟩
theorem SeqKeep.tup {h h' : Heap} (k : SeqKeep h h') {a : Addr} {us : Array Value} (x : IsTup h a us) : IsTup h' a us := by
  obtain ⟨o, ho, hc, n, hd⟩ := x
  obtain ⟨o', h1, h2, h3⟩ := k a o us n ho hd
  exact ⟨o', h1, h2.trans hc, n, h3.trans hd⟩
theorem lstV.keep {α : Type} {P P' : Value → α → Prop} {h h' : Heap} (k : SeqKeep h h') (hP : ∀ u a, P u a → P' u a) {u : Value} {l : List α} (x : lstV P h u l) : lstV P' h' u l :=
  let ⟨a, us, e, i, r⟩ := x; ⟨a, us, e, k.list i, r.mono hP⟩
theorem tupV.keep {α : Type} {P P' : Value → α → Prop} {h h' : Heap} (k : SeqKeep h h') (hP : ∀ u a, P u a → P' u a) {u : Value} {l : List α} (x : tupV P h u l) : tupV P' h' u l :=
  let ⟨a, us, e, i, r⟩ := x; ⟨a, us, e, k.tup i, r.mono hP⟩
theorem R.keep {C : Cx} {h h' : Heap} (k : SeqKeep h h') {u : Value} : ∀ {v : V}, R C h u v → R C h' u v
  | .none, x => x
  | .bool _, x => x
  | .int _, x => x
  | .str _, x => x
  | .ints _, x => lstV.keep k (fun _ _ y => y) x
  | .intss _, x => tupV.keep k (fun _ _ y => lstV.keep k (fun _ _ z => z) y) x
  | .strs _, x => lstV.keep k (fun _ _ y => y) x
  | .strss _, x => lstV.keep k (fun _ _ y => lstV.keep k (fun _ _ z => z) y) x
  | .menu _, x => tupV.keep k (fun _ _ y => y) x
  | .tab _, x => x
  | .row _, x => x
  | .me, x => x
  | .adl _ _, x => ⟨x.1, lstV.keep k (fun _ _ y => y) x.2⟩
structure Pl where
  nm : List Str
  env : Env
  outer : List Env
  L : Addr
  stack : List Env
  cs : List Addr
noncomputable def frs (l : List Env) : List Addr := l.filterMap (·.frame)
structure PlOk (C : Cx) (p : Pl) (nm : List Str) (sc : Scope) : Prop where
  top : AtTop C.w.params C.B
  nm : p.nm = nm
  uniq : p.nm.Nodup
  names : ∀ x k, sc.names.lookup x = some k → (k ≠ .free → p.env.kindOf x = some k) ∧ (k = .free → p.env.kindOf x = some .free ∨ p.env.kindOf x = some .cell)
  cells : ∀ x k, sc.names.lookup x = some k → k = .free ∨ k = .cell → ∃ c, p.env.cells.lookup x = some c
  kind : p.env.scope.kind = .function
  locals : p.env.locals = p.L
  stack : p.stack = p.outer ∨ (p.stack = p.env :: p.outer ∧ p.env.frame = some p.L)
  globals : p.env.globals = mainGlobals
  builtins : p.env.builtins = builtinsNs
  above : C.B.objs.size ≤ p.L
  ob : ∀ x dx, C.ob = some (x, dx) → x ≠ dx ∧ x ≠ p.L ∧ dx ≠ p.L ∧ x ∉ frs p.outer ∧ dx ∉ frs p.outer ∧ C.B.get? x = none ∧ C.B.get? dx = none
  nd : p.L ∉ frs p.outer
  cnew : ∀ c ∈ p.cs, C.B.get? c = none
noncomputable def FldsOk (es : List DictEntry) (σ : St) : Prop := ∃ ks : List Fld, ks.Nodup ∧ All2 (fun e f => ∃ t, e.key = .str f.name t) es ks ∧ ∀ f v, σ.get f = some v → ∃ u, getL f.name es = some (some u) ∧ ∀ C h, R C h u v
noncomputable def MeOk (C : Cx) (h : Heap) (σ : St) : Prop := ∀ x dx, C.ob = some (x, dx) → ∃ es n, h.get? x = some (instObj 1066 dx) ∧ h.get? dx = some (dictOf es n) ∧ FldsOk es σ
noncomputable def VarOk (C : Cx) (p : Pl) (h : Heap) (m : Str → Option Value) (x : Str) (v : V) : Prop :=
  ∃ u, R C h u v ∧ ((p.env.kindOf x = some .local ∧ m x = some u) ∨ ((p.env.kindOf x = some .cell ∨ p.env.kindOf x = some .free) ∧ ∃ c, p.env.cells.lookup x = some c ∧ h.IsCell c (some u)))
noncomputable def VarsOk (C : Cx) (p : Pl) (h : Heap) (m : Str → Option Value) (ρ : Loc) : Prop := ∀ i x v, p.nm[i]? = some x → ρ.getD i Option.none = some v → VarOk C p h m x v
structure At (C : Cx) (p : Pl) (h : Heap) (ρ : Loc) (σ : St) : Prop where
  base : C.B.StaysIn h
  ff : h.FunFrames C.B p.stack
  fd : ∀ b ∈ frs p.stack, ∃ o es k, h.get? b = some o ∧ o.data = .dict es k
  me : MeOk C h σ
  cells : ∀ c ∈ p.cs, ∃ v, h.IsCell c v
  env : ∃ m, h.Ns p.L m ∧ VarsOk C p h m ρ
structure Ext (C : Cx) (p : Pl) (h h' : Heap) : Prop where
  keep : ∀ b o, h.get? b = some o → b ≠ p.L → b ∉ p.cs → b ∉ frs p.outer → (∀ x dx, C.ob = some (x, dx) → b ≠ dx) → h'.get? b = some o
  soft : ∀ b ∈ frs p.outer, ∀ o, h.get? b = some o → ∃ sl, h'.get? b = some { o with slots := sl }
theorem Ext.refl {C : Cx} {p : Pl} (h : Heap) : Ext C p h h := ⟨fun _ _ e _ _ _ _ => e, fun _ _ o e => ⟨o.slots, e⟩⟩
theorem Ext.trans {C : Cx} {p : Pl} {h₁ h₂ h₃ : Heap} (x : Ext C p h₁ h₂) (y : Ext C p h₂ h₃) : Ext C p h₁ h₃ :=
  ⟨fun b o e n1 n0 n2 n3 => y.keep b o (x.keep b o e n1 n0 n2 n3) n1 n0 n2 n3, fun b m o e => let ⟨_, e1⟩ := x.soft b m o e; let ⟨sl, e2⟩ := y.soft b m _ e1; ⟨sl, e2⟩⟩
theorem funFrames_mono {base h h' : Heap} : ∀ {l : List Env}, (∀ b ∈ frs l, ∀ o, h.get? b = some o → (∀ vs, o.data ≠ .fields vs) → ∃ o', h'.get? b = some o' ∧ ∀ vs, o'.data ≠ .fields vs) → h.FunFrames base l → h'.FunFrames base l
  | [], _, _ => trivial
  | env :: r, k, ⟨hk, ⟨L, o, hf, hn, ho, hd⟩, hr⟩ => by
    have e : frs (env :: r) = L :: frs r := by simp [frs, hf]
    obtain ⟨o', h1, h2⟩ := k L (by rw [e]; exact .head _) o ho hd
    exact ⟨hk, ⟨L, o', hf, hn, h1, h2⟩, funFrames_mono (fun b hb => k b (by rw [e]; exact .tail _ hb)) hr⟩
theorem funFrames_at {base h : Heap} : ∀ {l : List Env}, h.FunFrames base l → ∀ b ∈ frs l, base.get? b = none ∧ ∃ o, h.get? b = some o ∧ ∀ vs, o.data ≠ .fields vs
  | [], _, b, hb => by simp [frs] at hb
  | env :: r, x, b, hb => x.mem hb
noncomputable def others (B : Heap) (L : Addr) (h : Heap) : List (Addr × Obj) := (List.range h.objs.size).filterMap fun b => if b = L then none else if (B.get? b).isSome then none else (h.get? b).map (b, ·)
theorem mem_others {B h : Heap} {L b : Addr} {o : Obj} : (b, o) ∈ others B L h ↔ h.get? b = some o ∧ b ≠ L ∧ B.get? b = none := by
  unfold others
  rw [List.mem_filterMap]
  constructor
  · rintro ⟨a, _, e⟩
    split at e
    · cases e
    · split at e
      · cases e
      · rename_i n1 n2
        obtain ⟨o', h1, h2⟩ := Option.map_eq_some_iff.mp e
        cases h2
        exact ⟨h1, n1, by simpa using n2⟩
  · rintro ⟨h1, h2, h3⟩
    exact ⟨b, List.mem_range.mpr (Heap.lt_size h1), by simp [h2, h3, h1]⟩
theorem others_news (B : Heap) (L : Addr) (h : Heap) : News B L h (others B L h) := fun p hp => let ⟨a, b, c⟩ := mem_others.mp (show (p.1, p.2) ∈ _ from hp); ⟨a, b, c⟩
theorem keep_of {B h h' : Heap} {L : Addr} {m m' : Str → Option Value} (hb : B.StaysIn h) (F : FrK B L h' m) (N : News B L h' (others B L h)) : ∀ b o, h.get? b = some o → b ≠ L → h'.get? b = some o := fun b o e n => by
  cases q : B.get? b with
  | none => exact (N (b, o) (mem_others.mpr ⟨e, n, q⟩)).1
  | some o' => have := hb b o' q; rw [e] at this; cases this; exact F.keep b o q
theorem At.ns {C : Cx} {p : Pl} {h : Heap} {ρ : Loc} {σ : St} (a : At C p h ρ σ) : ∃ m, h.Ns p.L m := let ⟨m, n, _⟩ := a.env; ⟨m, n⟩
theorem At.fr {C : Cx} {p : Pl} {nm : List Str} {sc : Scope} {h : Heap} {ρ : Loc} {σ : St} (P : PlOk C p nm sc) (a : At C p h ρ σ) : ∃ m, FrK C.B p.L h m ∧ VarsOk C p h m ρ :=
  let ⟨m, n, v⟩ := a.env; ⟨m, ⟨n, a.base, P.above⟩, v⟩
structure Kept (p : Pl) (h h' : Heap) : Prop where
  keep : ∀ b o, h.get? b = some o → b ≠ p.L → h'.get? b = some o
  ns : ∀ m, h.Ns p.L m → h'.Ns p.L m
theorem Kept.refl {p : Pl} (h : Heap) : Kept p h h := ⟨fun _ _ e _ => e, fun _ n => n⟩
theorem Kept.of_all {p : Pl} {h h' : Heap} (k : ∀ b o, h.get? b = some o → h'.get? b = some o) : Kept p h h' := ⟨fun b o e _ => k b o e, fun _ n => n.keeps k⟩
theorem Kept.trans {p : Pl} {h₁ h₂ h₃ : Heap} (x : Kept p h₁ h₂) (y : Kept p h₂ h₃) : Kept p h₁ h₃ := ⟨fun b o e n => y.keep b o (x.keep b o e n) n, fun m n => y.ns m (x.ns m n)⟩
theorem ns_isDict {h : Heap} {L : Addr} {m : Str → Option Value} (n : h.Ns L m) : ∃ o es k, h.get? L = some o ∧ o.data = .dict es k := let ⟨o, es, k, a, b, _⟩ := n; ⟨o, es, k, a, b⟩
theorem ns_fun {h : Heap} {L : Addr} {m m' : Str → Option Value} (x : h.Ns L m) (y : h.Ns L m') : m = m' := by
  obtain ⟨o, es, k, a, b, _, c⟩ := x
  obtain ⟨o', es', k', a', b', _, c'⟩ := y
  rw [a] at a'; cases a'; rw [b] at b'; cases b'
  funext z; rw [← c, ← c']
theorem Kept.seq {p : Pl} {h h' : Heap} {m : Str → Option Value} (k : Kept p h h') (n : h.Ns p.L m) : SeqKeep h h' := fun b o vs c e d => by
  refine ⟨o, k.keep b o e fun q => ?_, rfl, rfl⟩
  obtain ⟨o', es, n', a, b', _⟩ := n
  rw [q, a] at e; cases e; rw [d] at b'; cases b'
theorem Kept.cell {p : Pl} {h h' : Heap} {m : Str → Option Value} (k : Kept p h h') (n : h.Ns p.L m) {c : Addr} {v : Option Value} (x : h.IsCell c v) : h'.IsCell c v := by
  obtain ⟨o, e, d⟩ := x
  refine ⟨o, k.keep c o e fun q => ?_, d⟩
  obtain ⟨o', es, n', a, b', _⟩ := n
  rw [q, a] at e; cases e; rw [d] at b'; cases b'
theorem VarOk.keep {C : Cx} {p : Pl} {h h' : Heap} {m : Str → Option Value} (k : SeqKeep h h') (kc : ∀ c v, h.IsCell c v → h'.IsCell c v) {x : Str} {v : V} (y : VarOk C p h m x v) : VarOk C p h' m x v := by
  obtain ⟨u, r, z⟩ := y
  refine ⟨u, r.keep k, ?_⟩
  rcases z with z | ⟨z, c, e, i⟩
  · exact .inl z
  · exact .inr ⟨z, c, e, kc _ _ i⟩
theorem At.kept {C : Cx} {p : Pl} {nm : List Str} {sc : Scope} {h h' : Heap} {ρ : Loc} {σ : St} (P : PlOk C p nm sc) (a : At C p h ρ σ) (k : Kept p h h') : At C p h' ρ σ := by
  obtain ⟨m, n, vs⟩ := a.env
  have hL : ∀ b, C.B.get? b ≠ none → b ≠ p.L := fun b hb q => hb (by
    cases e : C.B.get? b with
    | none => rfl
    | some o => exact absurd (Nat.lt_of_lt_of_le (Heap.lt_size e) P.above) (by rw [q]; exact Nat.lt_irrefl _))
  refine ⟨fun b o e => k.keep b o (a.base b o e) (hL b (by rw [e]; simp)), funFrames_mono (fun b hb o e d => ?_) a.ff, fun b hb => ?_, fun x dx e => ?_, fun c hc => ?_, m, k.ns m n, fun i x v e1 e2 => (vs i x v e1 e2).keep (k.seq n) fun c v x => k.cell n x⟩
  · by_cases q : b = p.L
    · subst q
      obtain ⟨o', es, c, h1, h2⟩ := ns_isDict (k.ns m n)
      exact ⟨o', h1, fun vs z => by rw [h2] at z; cases z⟩
    · exact ⟨o, k.keep b o e q, d⟩
  · by_cases q : b = p.L
    · subst q; exact ns_isDict (k.ns m n)
    · obtain ⟨o, es, c, e, d⟩ := a.fd b hb
      exact ⟨o, es, c, k.keep b o e q, d⟩
  · obtain ⟨es, c, h1, h2, h3⟩ := a.me x dx e
    obtain ⟨_, n1, n2, _⟩ := P.ob x dx e
    exact ⟨es, c, k.keep _ _ h1 n1, k.keep _ _ h2 n2, h3⟩
  · obtain ⟨v, hv⟩ := a.cells c hc
    exact ⟨v, k.cell n hv⟩
theorem Kept.ext {C : Cx} {p : Pl} {nm : List Str} {sc : Scope} {h h' : Heap} (P : PlOk C p nm sc) (k : Kept p h h') : Ext C p h h' :=
  ⟨fun b o e n _ _ _ => k.keep b o e n, fun b hb o e => ⟨o.slots, k.keep b o e fun q => P.nd (q ▸ hb)⟩⟩
theorem Kept.of_fr {C : Cx} {p : Pl} {h h' : Heap} {m : Str → Option Value} (hb : C.B.StaysIn h) (n : h.Ns p.L m) (F : FrK C.B p.L h' m) (N : News C.B p.L h' (others C.B p.L h)) : Kept p h h' :=
  ⟨keep_of (m' := m) hb F N, fun m' n' => by rw [ns_fun n' n]; exact F.ns⟩
structure Went (C : Cx) (p : Pl) (s s' : Shared) (ρ : Loc) (σ : St) : Prop where
  at_ : At C p s'.heap ρ σ
  ext : Ext C p s.heap s'.heap
  os : s'.os = s.os
  gens : s'.gens = s.gens
theorem Went.refl {C : Cx} {p : Pl} {s : Shared} {ρ : Loc} {σ : St} (a : At C p s.heap ρ σ) : Went C p s s ρ σ := ⟨a, .refl _, rfl, rfl⟩
theorem Went.toks {C : Cx} {p : Pl} {s s' : Shared} {ρ : Loc} {σ : St} (x : Went C p s s' ρ σ) (t : Nat) : Went C p s { s' with toks := t } ρ σ := ⟨x.at_, x.ext, x.os, x.gens⟩
theorem Went.trans {C : Cx} {p : Pl} {s₁ s₂ s₃ : Shared} {ρ ρ' : Loc} {σ σ' : St} (x : Went C p s₁ s₂ ρ σ) (y : Went C p s₂ s₃ ρ' σ') : Went C p s₁ s₃ ρ' σ' := ⟨y.at_, x.ext.trans y.ext, y.os.trans x.os, y.gens.trans x.gens⟩
theorem Went.of_kept {C : Cx} {p : Pl} {nm : List Str} {sc : Scope} {s s' : Shared} {ρ : Loc} {σ : St} (P : PlOk C p nm sc) (a : At C p s.heap ρ σ) (k : Kept p s.heap s'.heap) (ho : s'.os = s.os := by rfl) (hg : s'.gens = s.gens := by rfl) : Went C p s s' ρ σ :=
  ⟨a.kept P k, k.ext P, ho, hg⟩
theorem Ext.seq {C : Cx} {p : Pl} {h h' : Heap} {ρ ρ' : Loc} {σ σ' : St} (x : Ext C p h h') (a : At C p h ρ σ) (a' : At C p h' ρ' σ') : SeqKeep h h' := fun b o vs c e d => by
  by_cases hf : b ∈ frs p.outer
  · obtain ⟨sl, q⟩ := x.soft b hf o e
    exact ⟨_, q, rfl, rfl⟩
  · refine ⟨o, x.keep b o e (fun q => ?_) (fun q => ?_) hf (fun y dy q z => ?_), rfl, rfl⟩
    · obtain ⟨m, n⟩ := a.ns
      obtain ⟨o', es, k, h1, h2⟩ := ns_isDict n
      rw [q, h1] at e; cases e; rw [d] at h2; cases h2
    · obtain ⟨v, o', h1, h2⟩ := a.cells b q
      rw [h1] at e; cases e; rw [d] at h2; cases h2
    · obtain ⟨es, k, _, h2, _⟩ := a.me y dy q
      rw [z, h2] at e; cases e; cases d
theorem Went.R {C : Cx} {p : Pl} {s s' : Shared} {ρ ρ' : Loc} {σ σ' : St} (x : Went C p s s' ρ' σ') (a : At C p s.heap ρ σ) {u : Value} {v : V} (r : R C s.heap u v) : Mine.R C s'.heap u v := r.keep (x.ext.seq a x.at_)
structure Rm (p : Pl) (A : Around) (n : Nat) : Prop where
  frames : A.frames = some p.stack
  handled : A.handled = none
  depth : A.depth + 4 * n ≤ 900
  units : A.units + 100 * n ≤ 8000
noncomputable def sT (s : T) : Str := ⟨s.toArray⟩
theorem sT_len (s : T) : (sT s).length = s.length := by simp [sT, Str.length]
theorem sT_add (a b : T) : sT a ++ sT b = sT (a ++ b) := by
  show Str.append (sT a) (sT b) = _
  simp [Str.append, sT]
theorem sT_inj {a b : T} (h : sT a = sT b) : a = b := by
  have := congrArg (fun x => x.cps.toList) h
  simpa [sT] using this
theorem sT_eq (a b : T) : (sT a == sT b) = decide (a = b) := by
  rw [Bool.eq_iff_iff]
  simp only [beq_iff_eq, decide_eq_true_eq]
  exact ⟨sT_inj, fun h => by rw [h]⟩
theorem sT_ne (a b : T) : (sT a != sT b) = !decide (a = b) := by
  show (!(sT a == sT b)) = _
  rw [sT_eq]
theorem sliceRange_nat (a b : Nat) : sliceRange (a : Int) (b : Int) 1 = (List.range (b - a)).map (a + ·) := by
  simp only [sliceRange, show ((1 : Int) > 0) = True from by simp, if_true]
  by_cases hlt : (a : Int) < b
  · have e3 : (((b : Int) - a + 1 - 1) / 1).toNat = b - a := by first | omega | (simp; done) | (simp; omega)
    simp only [hlt, if_true, e3]
    refine List.map_congr_left fun k _ => ?_
    omega
  · have : b - a = 0 := by omega
    simp [hlt, this]
theorem pick_cut {α : Type} (l : List α) (a b : Nat) (hb : b ≤ l.length) : ((List.range (b - a)).map (a + ·)).filterMap (l[·]?) = cutT l a b := by
  by_cases hab : a ≤ b
  · rw [PySem.StrLaws.picks l (b - a) a (by omega)]
    unfold cutT
    rw [List.drop_take]
  · have h0 : b - a = 0 := by omega
    rw [h0]; unfold cutT
    simp
    omega
theorem fitB_le (i : Int) (n : Nat) : fitB i n ≤ n := by
  unfold fitB; split <;> omega
theorem clip_eq (i : Int) (n : Nat) : (max 0 (min (if i < 0 then i + (n : Int) else i) (n : Int)) : Int) = (fitB i n : Int) := by
  unfold fitB; split <;> omega
noncomputable def loB (lo : Option Int) (n : Nat) : Nat := (lo.map fun i => fitB i n).getD 0
noncomputable def hiB (hi : Option Int) (n : Nat) : Nat := (hi.map fun i => fitB i n).getD n
theorem hiB_le (hi : Option Int) (n : Nat) : hiB hi n ≤ n := by
  cases hi with
  | none => exact Nat.le_refl _
  | some i => exact fitB_le i n
theorem indices_eq (lo hi : Option Int) (n : Nat) : Builtin.Str.strSliceIndices lo hi 1 n = (List.range (hiB hi n - loB lo n)).map (loB lo n + ·) := by
  rw [← sliceRange_nat]
  unfold Builtin.Str.strSliceIndices
  simp only [show ((1 : Int) > 0) = True from by simp, if_true]
  congr 1
  · cases lo with
    | none => rfl
    | some i => exact clip_eq i n
  · cases hi with
    | none => rfl
    | some i => exact clip_eq i n
theorem slice_eq (s : T) (lo hi : Option Int) : Txt.slice (sT s) lo hi = sT (cutT s (loB lo s.length) (hiB hi s.length)) := by
  have h1 := indices_eq lo hi s.length
  have h2 := pick_cut s (loB lo s.length) (hiB hi s.length) (hiB_le _ _)
  unfold Txt.slice
  rw [sT_len, h1]
  split
  · rename_i q
    have q' : hiB hi s.length - loB lo s.length = s.length := by simpa using q
    have h3 := hiB_le hi s.length
    unfold cutT
    have h4 : loB lo s.length = 0 ∨ s.length = 0 := by omega
    rcases h4 with h4 | h4
    · have h5 : hiB hi s.length = s.length := by omega
      rw [h4, h5]; simp
    · have h5 : s = [] := by cases s with | nil => rfl | cons _ _ => simp at h4
      subst h5; simp
  · show (⟨_⟩ : Str) = ⟨_⟩
    congr 2
    rw [← h2]
    congr 1
    funext k
    simp [sT]
theorem pick_eq (us : List Value) (lo hi : Option Int) : (slicePick us.toArray lo hi none) = (cutT us (loB lo us.length) (hiB hi us.length)).toArray := by
  unfold slicePick sliceBounds
  have e1 : ((none : Option Int).getD 1) = 1 := rfl
  simp only [e1, show ((1 : Int) > 0) = True from by simp, if_true, List.size_toArray]
  congr 1
  rw [← pick_cut us _ _ (hiB_le _ _), ← sliceRange_nat]
  have f1 : (match lo with | none => (0 : Int) | some i => max 0 (min (if i < 0 then i + (us.length : Int) else i) (us.length : Int))) = (loB lo us.length : Int) := by
    cases lo with
    | none => rfl
    | some i => exact clip_eq i _
  have f2 : (match hi with | none => (us.length : Int) | some i => max 0 (min (if i < 0 then i + (us.length : Int) else i) (us.length : Int))) = (hiB hi us.length : Int) := by
    cases hi with
    | none => rfl
    | some i => exact clip_eq i _
  refine (congr (congrArg (fun (a b : Int) => List.filterMap (fun x => us.toArray[x]?) (sliceRange a b 1)) f1) f2).trans ?_
  congr 1
  funext k
  simp
theorem ends_eq (x y : T) : Txt.endswith (sT x) (sT y) = y.isSuffixOf x := by
  unfold Txt.endswith
  rw [PySem.StrLaws.subAt_eq]
  simp only [sT_len]
  rw [Bool.eq_iff_iff]
  simp only [Bool.and_eq_true, decide_eq_true_eq, beq_iff_eq, List.isSuffixOf_iff_suffix]
  constructor
  · rintro ⟨h1, h2⟩
    have h2' : (x.drop (x.length - y.length)).take y.length = y := by simpa [sT] using h2
    have h3 : (x.drop (x.length - y.length)).take y.length = x.drop (x.length - y.length) := List.take_of_length_le (by simp; omega)
    rw [← h2', h3]
    exact List.drop_suffix _ _
  · rintro ⟨z, rfl⟩
    simp [sT]
theorem starts_eq (x y : T) : Txt.startswith (sT x) (sT y) = y.isPrefixOf x := by
  unfold Txt.startswith
  rw [PySem.StrLaws.subAt_eq]
  simp only [sT_len]
  rw [Bool.eq_iff_iff]
  simp only [Bool.and_eq_true, decide_eq_true_eq, beq_iff_eq, List.isPrefixOf_iff_prefix]
  constructor
  · rintro ⟨h1, h2⟩
    have h2' : x.take y.length = y := by simpa [sT] using h2
    rw [← h2']
    exact List.take_prefix _ _
  · rintro ⟨z, rfl⟩
    simp [sT]
theorem foldl_join : ∀ (l : List T) (a : Array Nat), (l.map sT).foldl (fun acc p => acc ++ (#[] : Array Nat) ++ p.cps) a = a ++ l.flatten.toArray
  | [], a => by simp
  | x :: r, a => by
    simp only [List.map_cons, List.foldl_cons]
    rw [foldl_join r]
    simp [sT]
theorem join_eq (l : List T) : Txt.join (sT []) (l.map sT) = sT l.flatten := by
  unfold Txt.join Builtin.Str.glued
  cases l with
  | nil => rfl
  | cons x r =>
    simp only [List.map_cons, List.drop_succ_cons, List.drop_zero, List.headD_cons]
    have := foldl_join r (sT x).cps
    show (⟨_⟩ : Str) = ⟨_⟩
    congr 1
    rw [show (sT []).cps = #[] from rfl, this]
    simp [sT]
theorem strs_are {us : List Value} {l : List T} (h : All2 isStr us l) : StrsAre us (l.map sT) := by
  induction h with
  | nil => exact .nil
  | cons a _ ih => obtain ⟨t, rfl⟩ := a; exact .cons _ t ih
theorem any_strs (l : List T) (a : T) : ((l.map sT).any fun x => x == sT a) = l.contains a := by
  induction l with
  | nil => rfl
  | cons x r ih => rw [List.map_cons, List.any_cons, ih, List.contains_cons, sT_eq, Bool.beq_eq_decide_eq]; congr 1; exact decide_eq_decide.mpr ⟨fun h => h.symm, fun h => h.symm⟩
noncomputable abbrev Post (C : Cx) (p : Pl) (s : Shared) (v : V) (ρ : Loc) (σ : St) : Value → Shared → Prop := fun u s' => R C s'.heap u v ∧ Went C p s s' ρ σ
noncomputable abbrev No : Value → Shared → Prop := fun _ _ => False
section
variable {C : Cx} {p : Pl} {nm : List Str} {sc : Scope} {A : Around} {n : Nat} {s : Shared} {ρ : Loc} {σ : St}
theorem post_int (P : PlOk C p nm sc) (a : At C p s.heap ρ σ) (i : Int) (t : Tok) (k : Nat) : Post C p s (.int i) ρ σ (.int i t) { s with toks := k } := ⟨⟨t, rfl⟩, .of_kept P a (.refl _)⟩
theorem post_bool (P : PlOk C p nm sc) (a : At C p s.heap ρ σ) (b : Bool) (k : Nat) : Post C p s (.bool b) ρ σ (.bool b) { s with toks := k } := ⟨rfl, .of_kept P a (.refl _)⟩
theorem post_bool' (P : PlOk C p nm sc) (a : At C p s.heap ρ σ) (b : Bool) : Post C p s (.bool b) ρ σ (.bool b) s := ⟨rfl, .of_kept P a (.refl _)⟩
theorem post_str (P : PlOk C p nm sc) (a : At C p s.heap ρ σ) (x : T) (t : Tok) (k : Nat) : Post C p s (.str x) ρ σ (.str (sT x) t) { s with toks := k } := ⟨⟨t, rfl⟩, .of_kept P a (.refl _)⟩
theorem post_made (P : PlOk C p nm sc) (a : At C p s.heap ρ σ) {m : Str → Option Value} (hm : s.heap.Ns p.L m) {h' : Heap} {b : Addr} {us : List Value} {l : List T} (r : All2 isStr us l) (F : FrK C.B p.L h' m)
    (N : News C.B p.L h' ((b, { cls := .type "list", data := .seq us.toArray }) :: others C.B p.L s.heap)) (k : Nat) : Post C p s (.strs l) ρ σ (.ref b) { s with heap := h', toks := k } :=
  ⟨⟨b, us, rfl, News.isList N (.head _), r⟩, .of_kept P a (.of_fr a.base hm F fun q hq => N q (.tail _ hq))⟩
theorem op_ok (P : PlOk C p nm sc) (a : At C p s.heap ρ σ) {O : Operator} {o : Op} (e : opOf O = some o) {x y v : V} (h : opV o x y = some v) {u u' : Value} (rx : R C s.heap u x) (ry : R C s.heap u' y) :
    wpAny (model PW C.w) A (binaryOp O u u') (Post C p s v ρ σ) No s := by
  cases O with
  | Add =>
    cases e
    cases x with
    | int i =>
      refine mdc h fun j hj e => ?_
      subst e
      cases asI_eq hj
      obtain ⟨t, rfl⟩ := rx; obtain ⟨t', rfl⟩ := ry
      exact add_int (post_int P a _ _ _)
    | str i =>
      refine bd h fun j hj h => idt h fun hb h => ?_
      cases h
      cases asS_eq hj
      obtain ⟨t, rfl⟩ := rx; obtain ⟨t', rfl⟩ := ry
      refine add_str (fun t k => ?_) ?_
      · have := post_str P a (i ++ j) t k
        rw [← sT_add] at this
        exact this
      · have e1 := sT_len i; have e2 := sT_len j
        show (sT i).length + (sT j).length ≤ sizeLine
        rw [e1, e2]; exact Nat.le_trans hb (by decide)
    | «strs» i =>
      refine bd h fun j hj h => idt h fun hb h => ?_
      cases h
      cases asL_eq hj
      obtain ⟨b1, us1, rfl, l1, r1⟩ := rx; obtain ⟨b2, us2, rfl, l2, r2⟩ := ry
      obtain ⟨m, F, _⟩ := a.fr P
      refine add_arrays F (others_news _ _ _) l1 l2 (fun h' F' N' => ?_) ?_
      · exact post_made P a F.ns (r1.append r2) F' N' _
      · rw [List.size_toArray, List.size_toArray, r1.length, r2.length]
        exact Nat.le_trans hb (by decide)
    | _ => first | exact nn h | exact nf h | exact nomatch h
  | Sub =>
    cases e
    refine bd h fun i hi h => mdc h fun j hj e => ?_
    subst e
    cases asI_eq hi; cases asI_eq hj
    obtain ⟨t, rfl⟩ := rx; obtain ⟨t', rfl⟩ := ry
    exact sub_int (post_int P a _ _ _)
  | Mod =>
    cases e
    refine bd h fun i hi h => bd h fun j hj h => idt h fun hb h => ?_
    cases h
    cases asI_eq hi; cases asI_eq hj
    obtain ⟨t, rfl⟩ := rx; obtain ⟨t', rfl⟩ := ry
    exact mod_int' (by omega) (post_int P a _ _ _)
  | RShift =>
    cases e
    refine bd h fun i hi h => bd h fun j hj h => idt h fun hb h => ?_
    cases h
    cases asI_eq hi; cases asI_eq hj
    obtain ⟨t, rfl⟩ := rx; obtain ⟨t', rfl⟩ := ry
    subst hb
    exact rshift_int (by decide) (post_int P a _ _ _)
  | FloorDiv =>
    cases e
    refine bd h fun i hi h => bd h fun j hj h => idt h fun hb h => ?_
    cases h
    cases asI_eq hi; cases asI_eq hj
    obtain ⟨t, rfl⟩ := rx; obtain ⟨t', rfl⟩ := ry
    refine floordiv_int (by omega) (post_int P a _ _ _) (.inl ?_)
    have e1 : j.natAbs.log2 < 10 := (Nat.log2_lt (by omega)).mpr (by omega)
    have e2 : ¬ ((if (j.natAbs == 0) = true then 0 else j.natAbs.log2 / 30 + 1) > 300) := by split <;> omega
    unfold Builtin.divisionGoesByPylong
    simp only [Bool.and_eq_false_iff]
    exact .inl (decide_eq_false (by simpa using e2))
  | _ => exact nomatch e
theorem eqAt_strs {us us' : List Value} {l l' : List T} (r : All2 isStr us l) (r' : All2 isStr us' l') : ∀ j (h1 : j < us.toArray.size) (h2 : j < us'.toArray.size), SeqAt.EqAt A.in1 s us.toArray[j] us'.toArray[j] (decide (l[j]? = l'[j]?)) := fun j h1 h2 => by
  have h1' : j < us.length := by simpa using h1
  have h2' : j < us'.length := by simpa using h2
  have h3 : j < l.length := r.length ▸ h1'
  have h4 : j < l'.length := r'.length ▸ h2'
  obtain ⟨x, ex, t, rx⟩ := r.get (List.getElem?_eq_getElem h3)
  obtain ⟨y, ey, t', ry⟩ := r'.get (List.getElem?_eq_getElem h4)
  have e1 : us.toArray[j] = .str (sT l[j]) t := by
    have := List.getElem?_eq_getElem h1'
    rw [ex] at this
    exact (by simpa using (Option.some.inj this).symm.trans rx : us[j] = .str ⟨l[j].toArray⟩ t)
  have e2 : us'.toArray[j] = .str (sT l'[j]) t' := by
    have := List.getElem?_eq_getElem h2'
    rw [ey] at this
    exact (by simpa using (Option.some.inj this).symm.trans ry : us'[j] = .str ⟨l'[j].toArray⟩ t')
  rw [e1, e2, List.getElem?_eq_getElem h3, List.getElem?_eq_getElem h4]
  have := SeqAt.EqAt.str_str (A := A.in1) (s := s) (sT l[j]) t (sT l'[j]) t'
  rw [sT_eq] at this
  have e3 : decide (some l[j] = some l'[j]) = decide (l[j] = l'[j]) := decide_eq_decide.mpr ⟨fun h => Option.some.inj h, fun h => by rw [h]⟩
  rw [e3]
  exact this
theorem all_same {l l' : List T} (h : l.length = l'.length) : ((List.range l.length).all fun j => decide (l[j]? = l'[j]?)) = decide (l = l') := by
  rw [Bool.eq_iff_iff]
  simp only [List.all_eq_true, List.mem_range, decide_eq_true_eq]
  constructor
  · intro k
    apply List.ext_getElem?
    intro i
    by_cases q : i < l.length
    · exact k i q
    · rw [List.getElem?_eq_none (by omega), List.getElem?_eq_none (by omega)]
  · rintro rfl j _
    rfl
theorem cm_ok (P : PlOk C p nm sc) (a : At C p s.heap ρ σ) (hu : A.units + 64 < cLine) {O : CmpOp} {o : Cm} (e : cmOf O = some o) {x y v : V} (h : cmV o x y = some v) {u u' : Value} (rx : R C s.heap u x) (ry : R C s.heap u' y) :
    wpAny (model PW C.w) A (compareOp O u u') (fun w s' => ∃ b, v = .bool b ∧ w = .bool b ∧ s' = s) No s := by
  cases x with
  | int i =>
    refine mdc h fun j hj e => ?_
    subst e
    cases asI_eq hj
    obtain ⟨t, rfl⟩ := rx; obtain ⟨t', rfl⟩ := ry
    cases O with
    | Eq => cases e; exact eq_int ⟨_, rfl, by rw [Bool.beq_eq_decide_eq]; rfl, rfl⟩
    | NotEq => cases e; exact ne_int ⟨_, rfl, by rw [bne, Bool.beq_eq_decide_eq]; rfl, rfl⟩
    | Lt => cases e; exact lt_int ⟨_, rfl, rfl, rfl⟩
    | LtE => cases e; exact le_int ⟨_, rfl, rfl, rfl⟩
    | Gt => cases e; exact gt_int ⟨_, rfl, rfl, rfl⟩
    | GtE => cases e; exact ge_int ⟨_, rfl, rfl, rfl⟩
    | _ => exact nomatch e
  | str i =>
    refine bd h fun j hj h => ?_
    cases asS_eq hj
    obtain ⟨t, rfl⟩ := rx; obtain ⟨t', rfl⟩ := ry
    cases O with
    | Eq => cases e; cases h; exact (eq_str ⟨_, rfl, congrArg Value.bool (sT_eq i j), rfl⟩)
    | NotEq => cases e; cases h; exact (PyProof.Rows.ne_str ⟨_, rfl, congrArg Value.bool (sT_ne i j), rfl⟩)
    | _ => cases e; try exact nomatch h
  | «strs» i =>
    refine bd h fun j hj h => ?_
    cases asL_eq hj
    obtain ⟨b1, us1, rfl, l1, r1⟩ := rx; obtain ⟨b2, us2, rfl, l2, r2⟩ := ry
    have hu' : A.units < cLine := Nat.lt_of_le_of_lt (Nat.le_add_right _ _) hu
    have hlen : us1.toArray.size = us2.toArray.size ∧ i.length = j.length ∨ (us1.toArray.size != us2.toArray.size) = true ∧ decide (i = j) = false := by
      rw [List.size_toArray, List.size_toArray, r1.length, r2.length]
      by_cases q : i.length = j.length
      · exact .inl ⟨q, q⟩
      · exact .inr ⟨bne_iff_ne.mpr q, decide_eq_false fun z => q (congrArg List.length z)⟩
    cases O with
    | Eq =>
      cases e
      cases h
      rcases hlen with ⟨q, q'⟩ | ⟨q, q'⟩
      · refine SeqAt.eq_listAt l1 l2 q hu' (eqAt_strs r1 r2) ⟨_, rfl, ?_, rfl⟩
        rw [List.size_toArray, r1.length, all_same q']
      · exact SeqAt.eq_list_lengthsAt l1 l2 q hu' ⟨_, rfl, by rw [q'], rfl⟩
    | NotEq =>
      cases e
      cases h
      rcases hlen with ⟨q, q'⟩ | ⟨q, q'⟩
      · refine SeqAt.RcNeAt.lists l1 l2 q hu' (eqAt_strs r1 r2) _ _ _ _ ⟨_, rfl, ?_, rfl⟩
        rw [List.size_toArray, r1.length, all_same q']
      · exact SeqAt.RcNeAt.lists_lengths l1 l2 q hu' _ _ _ _ ⟨_, rfl, by rw [q']; rfl, rfl⟩
    | _ => cases e; try exact nomatch h
  | _ => first | exact nn h | exact nf h | exact nomatch h
theorem in_ok (P : PlOk C p nm sc) (a : At C p s.heap ρ σ) {x y v : V} (h : inV x y = some v) {u u' : Value} (rx : R C s.heap u x) (ry : R C s.heap u' y) :
    wpAny (model PW C.w) A (compareOp .In u u') (fun w s' => ∃ b, v = .bool b ∧ w = .bool b ∧ s' = s) No s := by
  refine bd h fun i hi h => mdc h fun j hj e => ?_
  subst e
  cases asS_eq hi; cases asL_eq hj
  obtain ⟨t, rfl⟩ := rx; obtain ⟨b, us, rfl, l, r⟩ := ry
  refine in_list_strs l (strs_are r) ⟨_, rfl, ?_, rfl⟩
  rw [← any_strs]
  rfl
theorem rowsAre_get {h : Heap} : ∀ {vs : List Value} {rs : List (List Nat × Int × Int)}, RowsAre h vs rs → ∀ {i : Nat} {r}, rs[i]? = some r → ∃ u, vs[i]? = some u ∧ RowIs h u r
  | [], [], _, i, r, e => by simp at e
  | v :: vs, q :: rs, x, 0, r, e => by simp at e; subst e; exact ⟨v, rfl, x.1⟩
  | v :: vs, q :: rs, x, i + 1, r, e => by
    obtain ⟨u, h1, h2⟩ := rowsAre_get x.2 (i := i) (r := r) (by simpa using e)
    exact ⟨u, by simpa using h1, h2⟩
  | [], _ :: _, x, _, _, _ => x.elim
  | _ :: _, [], x, _, _, _ => x.elim
theorem seqIdx {k : Int} {n : Nat} (h0 : 0 ≤ k) (h1 : k.toNat < n) : seqIndex? k n = some k.toNat := by
  unfold seqIndex?
  have e1 : ¬ k < 0 := by omega
  have e2 : k < (n : Int) := by omega
  simp [e1, h0, e2]
theorem tail_gen {w : World} {A : Around} {E : Value → Shared → Prop} {s : Shared} {value slice : Expr} {o i : Value} {ops : List Value} {T id : String} {Q : Value → Shared → Prop} (hT : s.TypeIs o T)
    (hl : typeLookup (.type T) "__getitem__" = pure (some (.builtin id))) (h : wpAny (model PW w) A (getItem o i) Q E s)
    (hs : subscripted slice false o i = operate ops (getItem o i)) : wpAny (model PW w) A (subscriptTail value slice o i) Q E s := by
  unfold subscriptTail
  refine wpAny_bind ?_
  rw [getitemInPython_of_ne hT.not_modules]
  refine wpAny_bind (wpAny_specialOf hT hl ?_)
  have fin : wpAny (model PW w) A (subscripted slice false o i) (fun r s₃ => wpAny (model PW w) A (letTemporaryGo value o r >>= fun _ => pure r) Q E s₃) E s := by
    rw [hs]
    exact wpAny_operating (wpAny_mono h (fun r s₃ h₃ => wpAny_bind (wpAny_letTemporaryGo (wpAny_pure h₃))) fun _ _ x => x)
  first
    | exact wpAny_pure (wpAny_bind fin)
    | exact wpAny_bind (wpAny_pure (wpAny_bind fin))
    | exact wpAny_bind fin
theorem tail_on {w : World} {A : Around} {E : Value → Shared → Prop} {s : Shared} {value slice : Expr} {o i : Value} {ops : List Value} {Q : Value → Shared → Prop} (h : ItemOn (model PW w) A E o i Q s)
    (hs : subscripted slice false o i = operate ops (getItem o i)) : wpAny (model PW w) A (subscriptTail value slice o i) Q E s :=
  let ⟨_, _, hl, hT, hg⟩ := h; tail_gen hT hl hg hs
theorem idx_ok (P : PlOk C p nm sc) (a : At C p s.heap ρ σ) {x y v : V} (h : idxV x y = some v) {u u' : Value} (rx : R C s.heap u x) (ry : R C s.heap u' y) {value slice : Expr}
    (hs : ∀ b c, subscripted slice false b c = operate [b, c] (getItem b c)) :
    wpAny (model PW C.w) A (subscriptTail value slice u u') (Post C p s v ρ σ) No s := by
  refine bd h fun k hk h => idt h fun h01 g => ?_
  obtain ⟨h0, h1⟩ := h01
  cases asI_eq hk
  obtain ⟨t', rfl⟩ := ry
  cases x with
  | str z =>
    refine mdc g fun c hc e => ?_
    subst e
    obtain ⟨t, rfl⟩ := rx
    have hlt : k.toNat < z.length := (List.getElem?_eq_some_iff.mp hc).1
    refine tail_on ⟨"str", _, F.slot_str_getitem.lookup, typeIs_str _ _ _, PySem.P.getItem_str (c := c) ?_ ?_ ?_⟩ (hs _ _)
    · have e1 : ¬ k < -(2 ^ 63 : Int) := by omega
      have e2 : ¬ k ≥ (2 ^ 63 : Int) := by omega
      simp; omega
    · have e1 : (sT z).length = z.length := sT_len z
      show (seqIndex? k (sT z).length).bind _ = _
      rw [e1, seqIdx h0 hlt]
      simp [hc]
    · exact post_str P a [c] _ _
  | «strs» z =>
    refine mdc g fun c hc e => ?_
    subst e
    obtain ⟨b, us, rfl, l, r⟩ := rx
    obtain ⟨y, hy, ry⟩ := r.get hc
    exact tail_gen l.typeIs slot_list_getitem.lookup (wpAny_getItem_list l h0 (by omega) (by simpa using hy) ⟨ry, .refl a⟩) (hs _ _)
  | menu z =>
    refine mdc g fun c hc e => ?_
    subst e
    obtain ⟨b, us, rfl, l, r⟩ := rx
    obtain ⟨y, hy, ry⟩ := r.get hc
    exact tail_gen l.typeIs slot_tuple_getitem.lookup (getItem_tuple l (by omega) (by omega) (seqIdx h0 (by simpa using (List.getElem?_eq_some_iff.mp hy).1)) (by simpa using hy) ⟨ry, .refl a⟩) (hs _ _)
  | tab z =>
    refine mdc g fun c hc e => ?_
    subst e
    obtain ⟨b, rfl, xs, nn, sl, l, r⟩ := rx
    obtain ⟨y, hy, ry⟩ := rowsAre_get r hc
    have l' : s.heap.IsList b xs := ⟨_, a.base _ _ l, rfl, _, by rfl⟩
    exact tail_gen l'.typeIs slot_list_getitem.lookup (wpAny_getItem_list l' h0 (by omega) (by simpa using hy) ⟨ry, .refl a⟩) (hs _ _)
  | _ => exact nomatch g
theorem sl_ok (P : PlOk C p nm sc) (a : At C p s.heap ρ σ) {x v : V} {lo hi : Option Int} (h : slV x lo hi = some v) {u vl vu : Value} (rx : R C s.heap u x) (pl : IsPart vl lo) (pu : IsPart vu hi) {value slice : Expr}
    (hs : ∀ b c, subscripted slice false b c = operate [c, b] (getItem b c)) :
    wpAny (model PW C.w) A (newFields "slice" [vl, vu, .none]) (fun i s' => wpAny (model PW C.w) A (subscriptTail value slice u i) (Post C p s v ρ σ) No s') No s := by
  unfold newFields
  refine wpAny_newObj_type ?_ (show (#[vl, vu, Value.none] : Array Value).size ≤ _ from by simp [sizeLine])
  have kp : Kept p s.heap (s.heap.push { cls := .type "slice", data := .fields [vl, vu, .none].toArray }) := .of_all fun b o e => Heap.get?_push_of_some _ e
  cases x <;> simp [slV] at h
  case str z =>
    obtain ⟨hb, rfl⟩ := h
    obtain ⟨t, rfl⟩ := rx
    have key : ∀ h' t' k, (∀ b o, s.heap.get? b = some o → h'.get? b = some o) → Post C p s (.str (cutT z (loB lo z.length) (hiB hi z.length))) ρ σ (.str (Txt.slice (sT z) lo hi) t') { s with heap := h', toks := k } := fun h' t' k kk => by
      rw [slice_eq]
      exact ⟨⟨t', rfl⟩, .of_kept P a (.of_all kk)⟩
    have KH : KeptH fun h' => ∀ b o, s.heap.get? b = some o → h'.get? b = some o := fun h ob k b o e => Heap.get?_push_of_some _ (k b o e)
    have hz : (sT z).length ≤ sizeLine := by rw [sT_len]; exact Nat.le_trans (of_decide_eq_true hb) (by decide)
    cases pl <;> cases pu
    · exact tail_on (SBH.sliceItem_nn KH (fun _ _ e => e) (fun h' t' k kk => key h' t' k kk) hz) (hs _ _)
    · exact tail_on (SBH.sliceItem_ns KH (fun _ _ e => e) (fun h' t' k kk => key h' t' k kk) hz) (hs _ _)
    · exact tail_on (SBH.sliceItem_sn KH (fun _ _ e => e) (fun h' t' k kk => key h' t' k kk) hz) (hs _ _)
    · exact tail_on (SBH.sliceItem_ss KH (fun _ _ e => e) (fun h' t' k kk => key h' t' k kk) hz) (hs _ _)
  case «ints» z =>
    obtain ⟨hb, rfl⟩ := h
    obtain ⟨b, us, rfl, l, r⟩ := rx
    have l' := l.push { cls := .type "slice", data := .fields [vl, vu, .none].toArray }
    have hz : us.toArray.size ≤ sizeLine := by
      rw [List.size_toArray, r.length]; exact Nat.le_trans hb (by decide)
    refine tail_gen (Heap.IsList.typeIs (s := { s with heap := s.heap.push { cls := .type "slice", data := .fields [vl, vu, .none].toArray } }) l') list_getitem_lookup
      (wpAny_getItem_list_slice l' (Heap.IsSliceOf.new ..) pl pu .none (by simp) ?_ hz) (hs _ _)
    refine ⟨⟨_, cutT us (loB lo us.length) (hiB hi us.length), rfl, ?_, ?_⟩, .of_kept P a (kp.trans (.of_all fun b o e => Heap.get?_push_of_some _ e))⟩
    · rw [pick_eq]; exact ⟨_, Heap.get?_push_size _ rfl, rfl, _, rfl⟩
    · have := (r.take (hiB hi us.length)).drop (loB lo us.length)
      unfold cutT at this ⊢
      rw [r.length] at this ⊢
      exact this
end
noncomputable def EvOk (C : Cx) (nm : List Str) (sc : Scope) (n : Nat) (e : Expr) (f : Loc → St → Option (V × St)) : Prop :=
  ∀ (p : Pl) (A : Around) (s : Shared) (ρ : Loc) (σ : St) (v : V) (σ' : St), PlOk C p nm sc → Rm p A n → At C p s.heap ρ σ → f ρ σ = some (v, σ') →
    wpAny (model PW C.w) A (eval e p.env) (Post C p s v ρ σ') No s
noncomputable def TrOk (C : Cx) (nm : List Str) (sc : Scope) (n : Nat) (e : Expr) (f : Loc → St → Option (V × St)) : Prop :=
  ∀ (p : Pl) (A : Around) (s : Shared) (ρ : Loc) (σ : St) (b : Bool) (σ' : St), PlOk C p nm sc → Rm p A n → At C p s.heap ρ σ → f ρ σ = some (.bool b, σ') →
    wpAny (model PW C.w) A (isTrue e p.env (eval e p.env)) (fun b' s' => b' = b ∧ Went C p s s' ρ σ') No s
theorem tr_of_ev {C : Cx} {nm : List Str} {sc : Scope} {n : Nat} {e : Expr} {f : Loc → St → Option (V × St)} (h : EvOk C nm sc n e f)
    (he : ∀ env whole, isTrue e env whole = (do let v ← whole; standAt e.pos; holding [v] (truthy v)) := by intros; rfl) : TrOk C nm sc n e f := fun p A s ρ σ b σ' P M a q =>
  wpAny_isTrue_value (wpAny_mono (h p A s ρ σ _ σ' P M a q) (fun u s1 ⟨r, w⟩ => by
    obtain rfl : u = .bool b := r
    exact wpAny_truthy_bool ⟨rfl, w⟩) fun _ _ z => z) (he _ _)
section
variable {C : Cx} {nm : List Str} {sc : Scope} {n : Nat}
theorem ev_const {c : Const} {v : V} (h : cnst c = some v) (k : Nat) (pos : Pos) : EvOk C nm sc n (.Constant c k pos) (fun _ σ => some (v, σ)) := by
  intro p A s ρ σ w σ' P M a q
  cases q
  cases c <;> simp [cnst] at h
  · subst h; exact wpAny_Constant_none ⟨rfl, .refl a⟩
  · subst h; exact wpAny_Constant_bool ⟨rfl, .refl a⟩
  · obtain ⟨_, rfl⟩ := h; exact wpAny_Constant_int (post_int P a _ _ _)
  · obtain ⟨_, rfl⟩ := h
    exact wpAny_Constant_str ⟨⟨s.toks, rfl⟩, .of_kept P a (.refl _)⟩
theorem ev_neg {i : Int} (k : Nat) (pos pos' : Pos) : EvOk C nm sc n (.UnaryOp .USub (.Constant (.int i) k pos) pos') (fun _ σ => some (.int (-i), σ)) := by
  intro p A s ρ σ w σ' P M a q
  cases q
  exact wpAny_UnaryOp (wpAny_Constant_int (neg_int (post_int P a _ _ _)))
theorem idx_get {nm : List Str} {x : Str} {i : Nat} (h : idx nm x = some i) : nm[i]? = some x := by
  unfold idx at h
  obtain ⟨h1, h2, _⟩ := List.findIdx?_eq_some_iff_getElem.mp h
  rw [List.getElem?_eq_getElem h1]
  simpa using h2
theorem okN_1 {x : Str} (h : okN x = true) : (x == ("__debug__" : Str)) = false := by
  unfold okN at h; simp only [Bool.and_eq_true, Bool.not_eq_true'] at h; exact h.1
theorem okN_2 {x : Str} (h : okN x = true) : (x == ("__classdict__" : Str)) = false := by
  unfold okN at h; simp only [Bool.and_eq_true, Bool.not_eq_true'] at h; exact h.2
theorem load_var {p : Pl} {A : Around} {s : Shared} {ρ : Loc} {σ : St} {x : Str} {i : Nat} {v : V} {Q : Value → Shared → Prop} (P : PlOk C p nm sc) (a : At C p s.heap ρ σ) (hi : idx nm x = some i) (hx : okN x = true) (hv : ρ.getD i Option.none = some v)
    (h : ∀ u, R C s.heap u v → Q u s) : wpAny (model PW C.w) A (loadName p.env x) Q No s := by
  obtain ⟨m, n, vs⟩ := a.env
  obtain ⟨u, r, z⟩ := vs i x v (P.nm ▸ idx_get hi) hv
  have hk : p.env.scope.kind = .function := P.kind
  rcases z with ⟨z1, z2⟩ | ⟨z1 | z1, c, z2, z3⟩
  · exact wpAny_loadName_local hk z1 (by rw [P.locals]; exact n) z2 (h u r)
  · exact wpAny_loadName_cell hk z1 z2 z3 (h u r)
  · exact wpAny_loadName_free hk z1 z2 z3 (h u r) (okN_2 hx)
theorem ev_var {x : Str} {i : Nat} (hi : idx nm x = some i) (hx : okN x = true) (pos : Pos) : EvOk C nm sc n (.Name x pos) (fun ρ σ => (ρ.getD i Option.none).map (·, σ)) := by
  intro p A s ρ σ w σ' P M a q
  obtain ⟨v, hv, q⟩ := Option.map_eq_some_iff.mp q
  cases q
  exact wpAny_Name (load_var P a hi hx hv fun u r => ⟨r, .refl a⟩) (okN_1 hx)
theorem top_main {P : Params} {h : Heap} (X : AtTop P h) : ∃ mg, h.Ns mainGlobals mg := ⟨_, .of_isNs ((isNs_congr X.g3).trans (by exact (Bool.and_eq_true_iff.mp (looks3 P)).1))⟩
theorem top_blt {P : Params} {h : Heap} (X : AtTop P h) : ∃ mb, h.Ns builtinsNs mb ∧ ∀ x, x ≠ ("__name__" : Str) → mb x = bootBuiltins x := by
  have z : h.isNs builtinsNs = true := (isNs_congr X.g0).trans (looks5 P)
  refine ⟨_, .of_isNs z, fun x hx => Heap.of_bltView z ?_ x hx⟩
  rw [← looks6 P]
  unfold Heap.bltView
  rw [nsPairs_congr X.g0]
theorem isG_kind {p : Pl} {x : Str} (P : PlOk C p nm sc) (h : isG sc x = true) : p.env.kindOf x = some .globalImplicit := by
  unfold isG at h
  have h1 := (Bool.and_eq_true_iff.mp h).1
  exact (P.names x .globalImplicit (eq_of_beq h1)).1 (by decide)
theorem isG_ok {sc : Scope} {x : Str} (h : isG sc x = true) : okN x = true := (Bool.and_eq_true_iff.mp h).2
theorem load_gl {p : Pl} {A : Around} {s : Shared} {ρ : Loc} {σ : St} {x : Str} {pos : Pos} {u : Value} {E : Value → Shared → Prop} {Q : Value → Shared → Prop} (P : PlOk C p nm sc) (a : At C p s.heap ρ σ) (hx : isG sc x = true) (e : nsIn (KAll C.w.params) mainGlobals x = some (some u))
    (h : Q u s) : wpAny (model PW C.w) A (eval (.Name x pos) p.env) Q E s := by
  have X := P.top.keeps a.base
  obtain ⟨mg, G⟩ := top_main X
  exact Name_function_global P.kind (isG_kind P hx) (loadGlobal_global (by rw [P.globals]; exact G) (mg_of X.k G e) h) (okN_1 (isG_ok hx))
theorem load_blt {p : Pl} {A : Around} {s : Shared} {ρ : Loc} {σ : St} {x : Str} {pos : Pos} {u : Value} {E : Value → Shared → Prop} {Q : Value → Shared → Prop} (P : PlOk C p nm sc) (a : At C p s.heap ρ σ) (hx : isG sc x = true) (e : nsIn (KAll C.w.params) mainGlobals x = some none)
    (hv : bootBuiltins x = some u) (hn : x ≠ ("__name__" : Str)) (h : Q u s) : wpAny (model PW C.w) A (eval (.Name x pos) p.env) Q E s := by
  have X := P.top.keeps a.base
  obtain ⟨mg, G⟩ := top_main X
  obtain ⟨mb, B, hb⟩ := top_blt X
  exact Name_function_global P.kind (isG_kind P hx) (loadGlobal_builtin (by rw [P.globals]; exact G) (mg_none_of X.k G e) (by rw [P.builtins]; exact B) ((hb x hn).trans hv) h) (okN_1 (isG_ok hx))
theorem me_of {α : Type} {o : Option V} {k : Option α} {c : α} {Q : Prop} (q : (match o with | some .me => k | _ => Option.none) = some c) (K : o = some .me → k = some c → Q) : Q := by
  cases o with
  | none => exact nn q
  | some v => cases v <;> first | exact nn q | exact K rfl q
theorem bx {α : Type} {v : V} {k : Bool → Option α} {c : α} {Q : Prop} (q : (match v with | .bool b => k b | _ => Option.none) = some c) (K : ∀ b, v = .bool b → k b = some c → Q) : Q := by
  cases v <;> first | exact nn q | exact K _ rfl q
theorem bxA {α : Type} {v : V} {k k' : Option α} {c : α} {Q : Prop} (q : (match v with | .bool false => k | .bool true => k' | _ => Option.none) = some c) (K : ∀ b, v = .bool b → Bool.rec k k' b = some c → Q) : Q := by
  cases v with
  | bool b => cases b <;> exact K _ rfl q
  | _ => exact nn q
theorem bxO {α : Type} {v : V} {k k' : Option α} {c : α} {Q : Prop} (q : (match v with | .bool true => k | .bool false => k' | _ => Option.none) = some c) (K : ∀ b, v = .bool b → Bool.rec k' k b = some c → Q) : Q := by
  cases v with
  | bool b => cases b <;> exact K _ rfl q
  | _ => exact nn q
theorem R.of_bool {C : Cx} {h : Heap} {u : Value} {y : V} {b : Bool} (e : y = .bool b) (r : R C h u y) : u = .bool b := by cases e; exact r
@[elab_as_elim] theorem sB {γ : Type} {a b : Bool} {x y : γ} {P : Bool → γ → Prop} (h : some (V.bool a, x) = some (V.bool b, y)) (k : P a x) : P b y := by cases h; exact k
theorem ev_bin {a b : Expr} {fa fb : Loc → St → Option (V × St)} {O : Operator} {o : Op} (ha : EvOk C nm sc n a fa) (hb : EvOk C nm sc n b fb) (e : opOf O = some o) (pos : Pos) :
    EvOk C nm sc n (.BinOp a O b pos) (fun ρ σ => (fa ρ σ).bind fun (x, σ) => (fb ρ σ).bind fun (y, σ) => (opV o x y).map (·, σ)) := by
  intro p A s ρ σ v σ' P M a0 h
  refine bd2 h fun x σ1 h1 h => ?_
  refine bd2 h fun y σ2 h2 h => ?_
  refine md2 h fun v' h3 => ?_
  refine wpAny_BinOp (wpAny_mono (ha p A s ρ σ x σ1 P M a0 h1) (fun u s1 ⟨r1, w1⟩ => wpAny_mono (hb p A s1 ρ σ1 y _ P M w1.at_ h2) (fun u' s2 ⟨r2, w2⟩ => ?_) fun _ _ z => z) fun _ _ z => z)
  exact wpAny_mono (op_ok P w2.at_ e h3 (w2.R w1.at_ r1) r2) (fun w s3 ⟨r3, w3⟩ => ⟨r3, (w1.trans w2).trans w3⟩) fun _ _ z => z
theorem Rm.units_ok {p : Pl} {A : Around} (M : Rm p A n) : A.units + 64 < cLine := by
  have := M.units
  have : cLine ≥ 9000 := by decide
  omega
theorem cmp_walk {a b : Expr} {fa fb : Loc → St → Option (V × St)} (ha : EvOk C nm sc n a fa) (hb : EvOk C nm sc n b fb) {O : CmpOp} {g : V → V → Option V}
    (hg : ∀ (p : Pl) (A : Around) (s : Shared) (ρ : Loc) (σ : St) (x y v : V) (u u' : Value), PlOk C p nm sc → Rm p A n → At C p s.heap ρ σ → g x y = some v → R C s.heap u x → R C s.heap u' y →
      wpAny (model PW C.w) A (compareOp O u u') (fun w s' => ∃ b, v = .bool b ∧ w = .bool b ∧ s' = s) No s) (hm : behindInMarks O b = false) (pos : Pos) :
    EvOk C nm sc n (.Compare a [O] [b] pos) (fun ρ σ => (fa ρ σ).bind fun (x, σ) => (fb ρ σ).bind fun (y, σ) => (g x y).map (·, σ)) ∧
    TrOk C nm sc n (.Compare a [O] [b] pos) (fun ρ σ => (fa ρ σ).bind fun (x, σ) => (fb ρ σ).bind fun (y, σ) => (g x y).map (·, σ)) := by
  constructor
  · intro p A s ρ σ v σ' P M a0 h
    refine bd2 h fun x σ1 h1 h => ?_
    refine bd2 h fun y σ2 h2 h => ?_
    refine md2 h fun v' h3 => ?_
    refine wpAny_Compare1 (wpAny_mono (ha p A s ρ σ x σ1 P M a0 h1) (fun u s1 ⟨r1, w1⟩ => wpAny_mono (hb p A s1 ρ σ1 y _ P M w1.at_ h2) (fun u' s2 ⟨r2, w2⟩ => ?_) fun _ _ z => z) fun _ _ z => z) hm
    refine wpAny_mono (hg p A s2 ρ _ x y _ u u' P M w2.at_ h3 (w2.R w1.at_ r1) r2) (fun w s3 h4 => ?_) fun _ _ z => z
    obtain ⟨b, rfl, rfl, rfl⟩ := h4
    exact ⟨rfl, w1.trans w2⟩
  · intro p A s ρ σ v σ' P M a0 h
    refine bd2 h fun x σ1 h1 h => ?_
    refine bd2 h fun y σ2 h2 h => ?_
    refine mdc h fun v' h3 e => ?_
    cases e
    refine wpAny_isTrue_Compare1 (wpAny_mono (ha p A s ρ σ x σ1 P M a0 h1) (fun u s1 ⟨r1, w1⟩ => wpAny_mono (hb p A s1 ρ σ1 y _ P M w1.at_ h2) (fun u' s2 ⟨r2, w2⟩ => ?_) fun _ _ z => z) fun _ _ z => z) hm
    refine wpAny_mono (hg p A s2 ρ _ x y _ u u' P M w2.at_ h3 (w2.R w1.at_ r1) r2) (fun w s3 h4 => ?_) fun _ _ z => z
    obtain ⟨b, e, rfl, rfl⟩ := h4
    cases e
    exact wpAny_truthy_bool ⟨rfl, w1.trans w2⟩
theorem ev_not {x : Expr} {f : Loc → St → Option (V × St)} (hx : EvOk C nm sc n x f) (tx : TrOk C nm sc n x f) (pos : Pos) :
    EvOk C nm sc n (.UnaryOp .Not x pos) (fun ρ σ => (f ρ σ).bind fun (x, σ) => match x with | .bool b => some (.bool (!b), σ) | _ => Option.none) ∧
    TrOk C nm sc n (.UnaryOp .Not x pos) (fun ρ σ => (f ρ σ).bind fun (x, σ) => match x with | .bool b => some (.bool (!b), σ) | _ => Option.none) := by
  constructor
  · intro p A s ρ σ v σ' P M a0 h
    refine bd2 h fun y σ1 h1 h => ?_
    refine bx h fun b hv h => s2 h ?_
    refine wpAny_UnaryOp (wpAny_mono (hx p A s ρ σ _ σ1 P M a0 h1) (fun u s1 w => ?_) fun _ _ z => z)
    rw [R.of_bool hv w.1]
    exact not_value (wpAny_truthy_bool ⟨rfl, w.2⟩)
  · intro p A s ρ σ v σ' P M a0 h
    refine bd2 h fun y σ1 h1 h => ?_
    refine bx h fun b hv h => sB h ?_
    exact wpAny_isTrue_Not (wpAny_mono (tx p A s ρ σ _ σ1 P M a0 (hv ▸ h1)) (fun u s1 w => ⟨by rw [w.1], w.2⟩) fun _ _ z => z)
theorem ev_and2 {x y : Expr} {f g : Loc → St → Option (V × St)} (hx : EvOk C nm sc n x f) (tx : TrOk C nm sc n x f) (hy : EvOk C nm sc n y g) (ty : TrOk C nm sc n y g) (pos : Pos) :
    EvOk C nm sc n (.BoolOp .And [x, y] pos) (fun ρ σ => (f ρ σ).bind fun (x, σ) => match x with | .bool false => some (.bool false, σ) | .bool true => g ρ σ | _ => Option.none) ∧
    TrOk C nm sc n (.BoolOp .And [x, y] pos) (fun ρ σ => (f ρ σ).bind fun (x, σ) => match x with | .bool false => some (.bool false, σ) | .bool true => g ρ σ | _ => Option.none) := by
  constructor
  · intro p A s ρ σ v σ' P M a0 h
    refine bd2 h fun z σ1 h1 h => ?_
    refine wpAny_And2 (wpAny_mono (hx p A s ρ σ _ σ1 P M a0 h1) (fun u s1 ⟨r1, w1⟩ => ?_) fun _ _ z => z)
    refine bxA h fun b hv h => ?_
    rw [R.of_bool hv r1]
    refine wpAny_truthy_bool ?_
    cases b
    · exact s2 h ⟨rfl, w1⟩
    · exact wpAny_mono (hy p A s1 ρ σ1 _ _ P M w1.at_ h) (fun u s2 ⟨r2, w2⟩ => ⟨r2, w1.trans w2⟩) fun _ _ z => z
  · intro p A s ρ σ v σ' P M a0 h
    refine bd2 h fun z σ1 h1 h => ?_
    refine bxA h fun b hv h => ?_
    refine wpAny_isTrue_BoolOp (wpAny_allTrue_And_cons (wpAny_mono (tx p A s ρ σ _ σ1 P M a0 (hv ▸ h1)) (fun u s1 ⟨r1, w1⟩ => ?_) fun _ _ z => z))
    rw [r1]
    cases b
    · exact sB h ⟨rfl, w1⟩
    · refine wpAny_allTrue_And_cons (wpAny_mono (ty p A s1 ρ σ1 _ _ P M w1.at_ h) (fun u s2 ⟨r2, w2⟩ => ?_) fun _ _ z => z)
      cases u
      · exact ⟨r2, w1.trans w2⟩
      · exact wpAny_allTrue_And_nil ⟨r2, w1.trans w2⟩
theorem ev_or2 {x y : Expr} {f g : Loc → St → Option (V × St)} (hx : EvOk C nm sc n x f) (tx : TrOk C nm sc n x f) (hy : EvOk C nm sc n y g) (ty : TrOk C nm sc n y g) (pos : Pos) :
    EvOk C nm sc n (.BoolOp .Or [x, y] pos) (fun ρ σ => (f ρ σ).bind fun (x, σ) => match x with | .bool true => some (.bool true, σ) | .bool false => g ρ σ | _ => Option.none) ∧
    TrOk C nm sc n (.BoolOp .Or [x, y] pos) (fun ρ σ => (f ρ σ).bind fun (x, σ) => match x with | .bool true => some (.bool true, σ) | .bool false => g ρ σ | _ => Option.none) := by
  constructor
  · intro p A s ρ σ v σ' P M a0 h
    refine bd2 h fun z σ1 h1 h => ?_
    refine wpAny_Or2 (wpAny_mono (hx p A s ρ σ _ σ1 P M a0 h1) (fun u s1 ⟨r1, w1⟩ => ?_) fun _ _ z => z)
    refine bxO h fun b hv h => ?_
    rw [R.of_bool hv r1]
    refine wpAny_truthy_bool ?_
    cases b
    · exact wpAny_mono (hy p A s1 ρ σ1 _ _ P M w1.at_ h) (fun u s2 ⟨r2, w2⟩ => ⟨r2, w1.trans w2⟩) fun _ _ z => z
    · exact s2 h ⟨rfl, w1⟩
  · intro p A s ρ σ v σ' P M a0 h
    refine bd2 h fun z σ1 h1 h => ?_
    refine bxO h fun b hv h => ?_
    refine wpAny_isTrue_BoolOp (wpAny_allTrue_Or_cons (wpAny_mono (tx p A s ρ σ _ σ1 P M a0 (hv ▸ h1)) (fun u s1 ⟨r1, w1⟩ => ?_) fun _ _ z => z))
    rw [r1]
    cases b
    · refine wpAny_allTrue_Or_cons (wpAny_mono (ty p A s1 ρ σ1 _ _ P M w1.at_ h) (fun u s2 ⟨r2, w2⟩ => ?_) fun _ _ z => z)
      cases u
      · exact wpAny_allTrue_Or_nil ⟨r2, w1.trans w2⟩
      · exact ⟨r2, w1.trans w2⟩
    · exact sB h ⟨rfl, w1⟩
theorem ev_ife {t x y : Expr} {ft f g : Loc → St → Option (V × St)} (tt : TrOk C nm sc n t ft) (hx : EvOk C nm sc n x f) (tx : TrOk C nm sc n x f) (hy : EvOk C nm sc n y g) (ty : TrOk C nm sc n y g) (pos : Pos) :
    EvOk C nm sc n (.IfExp t x y pos) (fun ρ σ => (ft ρ σ).bind fun (z, σ) => match z with | .bool true => f ρ σ | .bool false => g ρ σ | _ => Option.none) ∧
    TrOk C nm sc n (.IfExp t x y pos) (fun ρ σ => (ft ρ σ).bind fun (z, σ) => match z with | .bool true => f ρ σ | .bool false => g ρ σ | _ => Option.none) := by
  constructor
  · intro p A s ρ σ v σ' P M a0 h
    refine bd2 h fun z σ1 h1 h => ?_
    refine bxO h fun b hv h => ?_
    refine wpAny_IfExp (wpAny_mono (tt p A s ρ σ _ σ1 P M a0 (hv ▸ h1)) (fun u s1 ⟨r1, w1⟩ => ?_) fun _ _ z => z)
    rw [r1]
    cases b
    · exact wpAny_mono (hy p A s1 ρ σ1 _ _ P M w1.at_ h) (fun u s2 ⟨r2, w2⟩ => ⟨r2, w1.trans w2⟩) fun _ _ z => z
    · exact wpAny_mono (hx p A s1 ρ σ1 _ _ P M w1.at_ h) (fun u s2 ⟨r2, w2⟩ => ⟨r2, w1.trans w2⟩) fun _ _ z => z
  · intro p A s ρ σ v σ' P M a0 h
    refine bd2 h fun z σ1 h1 h => ?_
    refine bxO h fun b hv h => ?_
    refine isTrue_IfExp (wpAny_mono (tt p A s ρ σ _ σ1 P M a0 (hv ▸ h1)) (fun u s1 ⟨r1, w1⟩ => ?_) fun _ _ z => z)
    rw [r1]
    cases b
    · exact wpAny_mono (ty p A s1 ρ σ1 _ _ P M w1.at_ h) (fun u s2 ⟨r2, w2⟩ => ⟨r2, w1.trans w2⟩) fun _ _ z => z
    · exact wpAny_mono (tx p A s1 ρ σ1 _ _ P M w1.at_ h) (fun u s2 ⟨r2, w2⟩ => ⟨r2, w1.trans w2⟩) fun _ _ z => z
end
section
variable {C : Cx} {nm : List Str} {sc : Scope} {n : Nat}
noncomputable def notSlice : Expr → Bool
  | .Slice .. => false
  | _ => true
theorem subscripted_plain {i : Expr} (h : notSlice i = true) (b c : Value) : subscripted i false b c = operate [b, c] (getItem b c) := by
  cases i <;> first | rfl | exact nf h | cases h
theorem ev_idx {a b : Expr} {fa fb : Loc → St → Option (V × St)} (ha : EvOk C nm sc n a fa) (hb : EvOk C nm sc n b fb) (hn : notSlice b = true) (pos : Pos) :
    EvOk C nm sc n (.Subscript a b pos) (fun ρ σ => (fa ρ σ).bind fun (x, σ) => (fb ρ σ).bind fun (y, σ) => (idxV x y).map (·, σ)) := by
  intro p A s ρ σ v σ' P M a0 h
  refine bd2 h fun x σ1 h1 h => ?_
  refine bd2 h fun y σ2 h2 h => ?_
  refine md2 h fun v' h3 => ?_
  refine Subscript_ (wpAny_mono (ha p A s ρ σ x σ1 P M a0 h1) (fun u s1 ⟨r1, w1⟩ => wpAny_mono (hb p A s1 ρ σ1 y _ P M w1.at_ h2) (fun u' s2 ⟨r2, w2⟩ => ?_) fun _ _ z => z) fun _ _ z => z)
  exact wpAny_mono (idx_ok P w2.at_ h3 (w2.R w1.at_ r1) r2 (subscripted_plain hn)) (fun w s3 ⟨r3, w3⟩ => ⟨r3, (w1.trans w2).trans w3⟩) fun _ _ z => z
theorem part_int {C : Cx} {h : Heap} {u : Value} {y : V} {i : Int} (e : y = .int i) (r : R C h u y) : IsPart u (some i) := by
  cases e; obtain ⟨t, rfl⟩ := r; exact .int i t
theorem ii {α : Type} {y z : V} {k : Int → Int → Option α} {c : α} {Q : Prop} (q : (match y, z with | .int i, .int j => k i j | _, _ => Option.none) = some c) (K : ∀ i j, y = .int i → z = .int j → k i j = some c → Q) : Q := by
  cases y <;> first | exact nn q | skip
  cases z <;> first | exact nn q | exact K _ _ rfl rfl q
theorem ii1 {α : Type} {y : V} {k : Int → Option α} {c : α} {Q : Prop} (q : (match y with | .int i => k i | _ => Option.none) = some c) (K : ∀ i, y = .int i → k i = some c → Q) : Q := by
  cases y <;> first | exact nn q | exact K _ rfl q
theorem R.of_int {C : Cx} {h : Heap} {u : Value} {y : V} {i : Int} (e : y = .int i) (r : R C h u y) : ∃ t, u = .int i t := by cases e; exact r
theorem ev_cut2 {a l h : Expr} {fa fl fh : Loc → St → Option (V × St)} (ha : EvOk C nm sc n a fa) (hl : EvOk C nm sc n l fl) (hh : EvOk C nm sc n h fh) (pos pos' : Pos) :
    EvOk C nm sc n (.Subscript a (.Slice (some l) (some h) none pos') pos) (fun ρ σ => (fa ρ σ).bind fun (x, σ) => (fl ρ σ).bind fun (y, σ) => (fh ρ σ).bind fun (z, σ) => match y, z with
    | .int i, .int j => (slV x (some i) (some j)).map (·, σ)
    | _, _ => Option.none) := by
  intro p A s ρ σ v σ' P M a0 q
  refine bd2 q fun x σ1 h1 q => ?_
  refine bd2 q fun y σ2 h2 q => ?_
  refine bd2 q fun z σ3 h3 q => ?_
  refine ii q fun i j hy hz q => ?_
  refine md2 q fun v' h4 => ?_
  refine Subscript_ (wpAny_mono (ha p A s ρ σ x σ1 P M a0 h1) (fun u s1 ⟨r1, w1⟩ => ?_) fun _ _ z => z)
  rw [arm_eval_Slice]
  refine wpAny_bind (wpAny_mono (hl p A s1 ρ σ1 _ σ2 P M w1.at_ h2) (fun u' s2 ⟨r2, w2⟩ => ?_) fun _ _ z => z)
  refine wpAny_bind (wpAny_holding (wpAny_mono (hh p A s2 ρ σ2 _ _ P M w2.at_ h3) (fun u'' s3 ⟨r3, w3⟩ => ?_) fun _ _ z => z))
  refine wpAny_bind (wpAny_holding (wpAny_pure ?_))
  refine wpAny_mono (sl_ok P w3.at_ h4 (w3.R w2.at_ (w2.R w1.at_ r1)) (part_int hy r2) (part_int hz r3) (value := a) (slice := .Slice (some l) (some h) none pos') (fun _ _ => rfl)) (fun i s4 h5 => ?_) fun _ _ z => z
  exact wpAny_mono h5 (fun w s5 ⟨r5, w5⟩ => ⟨r5, ((w1.trans w2).trans w3).trans w5⟩) fun _ _ z => z
theorem ev_cutLo {a l : Expr} {fa fl : Loc → St → Option (V × St)} (ha : EvOk C nm sc n a fa) (hl : EvOk C nm sc n l fl) (pos pos' : Pos) :
    EvOk C nm sc n (.Subscript a (.Slice (some l) none none pos') pos) (fun ρ σ => (fa ρ σ).bind fun (x, σ) => (fl ρ σ).bind fun (y, σ) => match y with
    | .int i => (slV x (some i) Option.none).map (·, σ)
    | _ => Option.none) := by
  intro p A s ρ σ v σ' P M a0 q
  refine bd2 q fun x σ1 h1 q => ?_
  refine bd2 q fun y σ2 h2 q => ?_
  refine ii1 q fun i hy q => ?_
  refine md2 q fun v' h4 => ?_
  refine Subscript_ (wpAny_mono (ha p A s ρ σ x σ1 P M a0 h1) (fun u s1 ⟨r1, w1⟩ => ?_) fun _ _ z => z)
  rw [arm_eval_Slice]
  refine wpAny_bind (wpAny_mono (hl p A s1 ρ σ1 _ _ P M w1.at_ h2) (fun u' s2 ⟨r2, w2⟩ => ?_) fun _ _ z => z)
  refine wpAny_bind (wpAny_holding (wpAny_pure ?_))
  refine wpAny_bind (wpAny_holding (wpAny_pure ?_))
  refine wpAny_mono (sl_ok P w2.at_ h4 (w2.R w1.at_ r1) (part_int hy r2) .none (value := a) (slice := .Slice (some l) none none pos') (fun _ _ => rfl)) (fun i s4 h5 => ?_) fun _ _ z => z
  exact wpAny_mono h5 (fun w s5 ⟨r5, w5⟩ => ⟨r5, (w1.trans w2).trans w5⟩) fun _ _ z => z
theorem ev_cutHi {a l : Expr} {fa fl : Loc → St → Option (V × St)} (ha : EvOk C nm sc n a fa) (hl : EvOk C nm sc n l fl) (pos pos' : Pos) :
    EvOk C nm sc n (.Subscript a (.Slice none (some l) none pos') pos) (fun ρ σ => (fa ρ σ).bind fun (x, σ) => (fl ρ σ).bind fun (y, σ) => match y with
    | .int i => (slV x Option.none (some i)).map (·, σ)
    | _ => Option.none) := by
  intro p A s ρ σ v σ' P M a0 q
  refine bd2 q fun x σ1 h1 q => ?_
  refine bd2 q fun y σ2 h2 q => ?_
  refine ii1 q fun i hy q => ?_
  refine md2 q fun v' h4 => ?_
  refine Subscript_ (wpAny_mono (ha p A s ρ σ x σ1 P M a0 h1) (fun u s1 ⟨r1, w1⟩ => ?_) fun _ _ z => z)
  rw [arm_eval_Slice]
  refine wpAny_bind (wpAny_pure ?_)
  refine wpAny_bind (wpAny_holding (wpAny_mono (hl p A s1 ρ σ1 _ _ P M w1.at_ h2) (fun u' s2 ⟨r2, w2⟩ => ?_) fun _ _ z => z))
  refine wpAny_bind (wpAny_holding (wpAny_pure ?_))
  refine wpAny_mono (sl_ok P w2.at_ h4 (w2.R w1.at_ r1) .none (part_int hy r2) (value := a) (slice := .Slice none (some l) none pos') (fun _ _ => rfl)) (fun i s4 h5 => ?_) fun _ _ z => z
  exact wpAny_mono h5 (fun w s5 ⟨r5, w5⟩ => ⟨r5, (w1.trans w2).trans w5⟩) fun _ _ z => z
theorem blt_names (P : Params) : nsIn (KAll P) mainGlobals "len" = some none ∧ nsIn (KAll P) mainGlobals "ord" = some none ∧ nsIn (KAll P) mainGlobals "chr" = some none ∧ nsIn (KAll P) mainGlobals "min" = some none ∧ nsIn (KAll P) mainGlobals "range" = some none := by
  refine ⟨?_, ?_, ?_, ?_, ?_⟩ <;> kernel_rfl
theorem blt_vals : bootBuiltins "len" = some (.builtin "len") ∧ bootBuiltins "ord" = some (.builtin "ord") ∧ bootBuiltins "chr" = some (.builtin "chr") ∧ bootBuiltins "min" = some (.builtin "min") ∧ bootBuiltins "range" = some (.type "range") := by
  refine ⟨?_, ?_, ?_, ?_, ?_⟩ <;> kernel_rfl
noncomputable def Bi.id : Bi → String
  | .len => "len" | .ord => "ord" | .chr => "chr" | .min => "min"
theorem bi_facts {x : Str} {f : Bi} (h : biOf x = some f) (P : Params) : nsIn (KAll P) mainGlobals x = some none ∧ bootBuiltins x = some (.builtin f.id) ∧ x ≠ ("__name__" : Str) := by
  unfold biOf at h
  obtain ⟨n1, n2, n3, n4, n5⟩ := blt_names P
  obtain ⟨v1, v2, v3, v4, v5⟩ := blt_vals
  split at h
  · rename_i e; cases h; rw [eq_of_beq e]; exact ⟨n1, v1, by decide⟩
  · split at h
    · rename_i e; cases h; rw [eq_of_beq e]; exact ⟨n2, v2, by decide⟩
    · split at h
      · rename_i e; cases h; rw [eq_of_beq e]; exact ⟨n3, v3, by decide⟩
      · cases h
theorem rowsAre_len {h : Heap} : ∀ {vs : List Value} {rs : List (List Nat × Int × Int)}, RowsAre h vs rs → vs.length = rs.length
  | [], [], _ => rfl
  | v :: vs, q :: rs, x => by simp [rowsAre_len x.2]
  | [], _ :: _, x => x.elim
  | _ :: _, [], x => x.elim
theorem bi_ok {p : Pl} {A : Around} {s : Shared} {ρ : Loc} {σ : St} (P : PlOk C p nm sc) (a : At C p s.heap ρ σ) {f : Bi} {x v : V} (h : biV f x = some v) {u : Value} (rx : R C s.heap u x) :
    wpAny (model PW C.w) A (call (.builtin f.id) [u]) (Post C p s v ρ σ) No s := by
  cases f with
  | len =>
    cases x with
    | str x =>
      refine idt h fun hb h => ?_
      cases h
      obtain ⟨t, rfl⟩ := rx
      refine PyProof.Rows.len_str ?_ ?_
      · rw [show Str.length ⟨x.toArray⟩ = x.length from sT_len x]; unfold big at hb; omega
      · rw [show Str.length ⟨x.toArray⟩ = x.length from sT_len x]; exact post_int P a _ _ _
    | «strs» l =>
      refine idt h fun hb h => ?_
      cases h
      obtain ⟨b, us, rfl, i, r⟩ := rx
      refine PyProof.Rows.len_list i ?_ ?_
      · rw [List.size_toArray, r.length]; unfold big at hb; omega
      · rw [List.size_toArray, r.length]; exact post_int P a _ _ _
    | tab l =>
      refine idt h fun hb h => ?_
      cases h
      obtain ⟨b, rfl, xs, nn, sl, i, r⟩ := rx
      have i' : s.heap.IsList b xs := ⟨_, a.base _ _ i, rfl, _, by rfl⟩
      have e : xs.size = l.length := rowsAre_len r
      refine PyProof.Rows.len_list i' ?_ ?_
      · rw [e]; unfold big at hb; omega
      · rw [e]; exact post_int P a _ _ _
    | adl b l =>
      refine idt h fun hb h => ?_
      cases h
      obtain ⟨_, b, us, rfl, i, r⟩ := rx
      refine PyProof.Rows.len_list i ?_ ?_
      · rw [List.size_toArray, r.length]; unfold big at hb; omega
      · rw [List.size_toArray, r.length]; exact post_int P a _ _ _
    | _ => first | exact nn h | exact nf h | exact nomatch h
  | ord =>
    refine bd h fun z hz h => mdc h fun c hc e => ?_
    subst e
    cases asS_eq hz
    cases one_eq hc
    obtain ⟨t, rfl⟩ := rx
    exact PySem.P.ord_of_char (post_int P a _ _ _)
  | chr =>
    refine bd h fun i hi h => idt h fun h01 h => ?_
    obtain ⟨h0, h1⟩ := h01
    cases h
    cases asI_eq hi
    obtain ⟨t, rfl⟩ := rx
    exact chr_of_range h0 (by omega) (post_str P a [i.toNat] _ _)
  | min => exact nomatch h
noncomputable def notStar : Expr → Bool
  | .Starred .. => false
  | _ => true
theorem starEach_plain {e : Expr} {rest : List Expr} (h : notStar e = true) (env : Env) : starEach (e :: rest) env = (false, eval e env) :: starEach rest env := by
  cases e <;> first | rfl | exact nf h | cases h
theorem star_any : ∀ {es : List Expr}, es.all notStar = true → ∀ (pos : Pos) (env : Env), (backTo pos (starEach es env)).any (·.1) = false
  | [], _, _, _ => rfl
  | e :: r, h, pos, env => by
    rw [List.all_cons, Bool.and_eq_true] at h
    rw [starEach_plain h.1]
    show (false || (backTo pos (starEach r env)).any (·.1)) = false
    rw [star_any h.2]; rfl
noncomputable def evL : List (Loc → St → Option (V × St)) → Loc → St → Option (List V × St)
  | [], _, σ => some ([], σ)
  | f :: fs, ρ, σ => (f ρ σ).bind fun (x, σ) => (evL fs ρ σ).bind fun (xs, σ) => some (x :: xs, σ)
theorem args_ok {es : List Expr} {fs : List (Loc → St → Option (V × St))} (h : All2 (EvOk C nm sc n) es fs) : es.all notStar = true → ∀ {p : Pl} {A : Around} {s : Shared} {ρ : Loc} {σ σ' : St} {xs : List V} (pos : Pos), PlOk C p nm sc → Rm p A n → At C p s.heap ρ σ → evL fs ρ σ = some (xs, σ') →
    wpAny (model PW C.w) A (spliced (backTo pos (starEach es p.env))) (fun us s' => All2 (R C s'.heap) us xs ∧ Went C p s s' ρ σ') No s := by
  induction h with
  | nil =>
    intro _ p A s ρ σ σ' xs pos P M a q
    cases q
    exact wpAny_items_nil ⟨.nil, .refl a⟩
  | cons he _ ih =>
    intro hs p A s ρ σ σ' xs pos P M a q
    rw [List.all_cons, Bool.and_eq_true] at hs
    refine bd2 q fun x σ1 h1 q => ?_
    refine bd2 q fun ys σ2 h2 q => ?_
    cases q
    refine wpAny_items_cons (wpAny_mono (he p A s ρ σ x σ1 P M a h1) (fun u s1 ⟨r1, w1⟩ => ?_) fun _ _ z => z) (starEach_plain hs.1 _)
    exact wpAny_mono (ih hs.2 pos P M w1.at_ h2) (fun us s2 ⟨r2, w2⟩ => ⟨.cons (w2.R w1.at_ r1) r2, w1.trans w2⟩) fun _ _ z => z
theorem evL1 {fa : Loc → St → Option (V × St)} {ρ : Loc} {σ σ1 : St} {x : V} (h : fa ρ σ = some (x, σ1)) : evL [fa] ρ σ = some ([x], σ1) := by
  show Option.bind _ _ = _; rw [h]; rfl
theorem evL2 {fa fb : Loc → St → Option (V × St)} {ρ : Loc} {σ σ1 σ2 : St} {x y : V} (h : fa ρ σ = some (x, σ1)) (h' : fb ρ σ1 = some (y, σ2)) : evL [fa, fb] ρ σ = some ([x, y], σ2) := by
  show Option.bind _ _ = _; rw [h]; exact (congrArg (Option.bind · _) (evL1 h')).trans rfl
theorem ns1 {a : Expr} (h : notStar a = true) : [a].all notStar = true := by show (notStar a && true) = true; rw [h]; rfl
theorem ns2 {a b : Expr} (h : notStar a = true) (h' : notStar b = true) : [a, b].all notStar = true := by show (notStar a && [b].all notStar) = true; rw [h, ns1 h']; rfl
theorem evalArgs_nil_ {M : Model} {A : Around} {E : Value → Shared → Prop} {s : Shared} {f : Value} {Q : Args → Shared → Prop} (h : Q ⟨[], []⟩ s) : wpAny M A (evalArgs f true [] []) Q E s := evalArgs_nil3 h
theorem evalArgs_ok {es : List Expr} {fs : List (Loc → St → Option (V × St))} (h : All2 (EvOk C nm sc n) es fs) (hs : es.all notStar = true) {p : Pl} {A : Around} {s : Shared} {ρ : Loc} {σ σ' : St} {xs : List V} (pos : Pos) (P : PlOk C p nm sc) (M : Rm p A n) (a : At C p s.heap ρ σ) (q : evL fs ρ σ = some (xs, σ'))
    {f : Value} {Q : Args → Shared → Prop} (k : ∀ us s', All2 (R C s'.heap) us xs → Went C p s s' ρ σ' → Q ⟨us, []⟩ s') : wpAny (model PW C.w) A (evalArgs f true (backTo pos (starEach es p.env)) []) Q No s := by
  have key := args_ok h hs pos P M a q
  cases es with
  | nil =>
    refine evalArgs_nil_ ?_
    have e : spliced (backTo pos (starEach [] p.env)) = pure [] := rfl
    cases h
    cases q
    exact k [] s .nil (.refl a)
  | cons e r =>
    rw [List.all_cons, Bool.and_eq_true] at hs
    rw [starEach_plain hs.1] at key ⊢
    exact Calls.evalArgs_plain (wpAny_mono key (fun us s' ⟨r', w'⟩ => k us s' r' w') fun _ _ z => z)
theorem ev_bi1 {x : Str} {f : Bi} {a : Expr} {fa : Loc → St → Option (V × St)} (hx : isG sc x = true) (hf : biOf x = some f) (ha : EvOk C nm sc n a fa) (hs : notStar a = true) (np pos : Pos) :
    EvOk C nm sc n (.Call (.Name x np) [a] [] pos) (fun ρ σ => (fa ρ σ).bind fun (x, σ) => (biV f x).map (·, σ)) := by
  intro p A s ρ σ v σ' P M a0 q
  refine bd2 q fun y σ1 h1 q => ?_
  refine md2 q fun v' h2 => ?_
  obtain ⟨e1, e2, e3⟩ := bi_facts hf C.w.params
  refine wpAny_Call_ofName (load_blt P a0 hx e1 e2 e3 ?_)
  refine Calls.callWith_builtin (star_any (ns1 hs) _ _) (evalArgs_ok (.cons ha .nil) (ns1 hs) pos P M a0 (evL1 h1) fun us s1 r w => ?_)
  refine al1 r fun u r => ?_
  exact wpAny_mono (bi_ok P w.at_ h2 r) (fun u s2 ⟨r2, w2⟩ => ⟨r2, w.trans w2⟩) fun _ _ z => z
theorem ev_min {a b : Expr} {fa fb : Loc → St → Option (V × St)} (hx : isG sc "min" = true) (ha : EvOk C nm sc n a fa) (hb : EvOk C nm sc n b fb) (hs : notStar a = true) (hs' : notStar b = true) (np pos : Pos) :
    EvOk C nm sc n (.Call (.Name "min" np) [a, b] [] pos) (fun ρ σ => (fa ρ σ).bind fun (x, σ) => (fb ρ σ).bind fun (y, σ) => match x, y with
    | .int i, .int j => some (.int (if j < i then j else i), σ)
    | _, _ => Option.none) := by
  intro p A s ρ σ v σ' P M a0 q
  refine bd2 q fun y σ1 h1 q => ?_
  refine bd2 q fun z σ2 h2 q => ?_
  refine ii q fun i j hy hz q => ?_
  refine s2 q ?_
  refine wpAny_Call_ofName (load_blt P a0 hx (blt_names C.w.params).2.2.2.1 blt_vals.2.2.2.1 (by decide) ?_)
  refine Calls.callWith_builtin (star_any (ns2 hs hs') _ _) (evalArgs_ok (.cons ha (.cons hb .nil)) (ns2 hs hs') pos P M a0 (evL2 h1 h2) fun us s1 r w => ?_)
  refine al2 r fun u u' r r' => ?_
  obtain ⟨t, rfl⟩ := R.of_int hy r
  obtain ⟨t', rfl⟩ := R.of_int hz r'
  obtain ⟨m, F, _⟩ := w.at_.fr P
  refine min_two_N M.handled F (others_news _ _ _) fun h' tk F' N' => ?_
  exact ⟨⟨_, rfl⟩, w.trans (.of_kept P w.at_ (.of_fr w.at_.base F.ns F' N'))⟩
theorem plainBase_ok {o : Expr} (h : plainBase o = true) (name : Str) (env : Env) : attributeBase o name env (eval o env) = eval o env := by
  cases o <;> first | rfl | exact nf h | cases h
theorem strVals_of {us : List Value} {l : List T} (r : All2 isStr us l) : ∃ k : List (Str × Tok), us = strValues k ∧ k.map (·.1) = l.map sT := by
  induction r with
  | nil => exact ⟨[], rfl, rfl⟩
  | cons a _ ih =>
    obtain ⟨t, rfl⟩ := a
    obtain ⟨k, h1, h2⟩ := ih
    exact ⟨(sT _, t) :: k, by rw [h1]; rfl, by rw [List.map_cons, List.map_cons, h2]⟩
noncomputable def Sm.name : Sm → Str
  | .ends => "endswith" | .starts => "startswith" | .join => "join"
theorem smOf_name {x : Str} {m : Sm} (h : smOf x = some m) : x = m.name := by
  unfold smOf at h
  split at h
  · rename_i e; cases h; exact eq_of_beq e
  · split at h
    · rename_i e; cases h; exact eq_of_beq e
    · split at h
      · rename_i e; cases h; exact eq_of_beq e
      · cases h
theorem R.of_str {C : Cx} {h : Heap} {u : Value} {y : V} {i : T} (e : y = .str i) (r : R C h u y) : isStr u i := by cases e; exact r
theorem R.of_jn {C : Cx} {h : Heap} {u : Value} {y : V} {l : List T} (hl : jnV y = some l) (r : R C h u y) : lstV isStr h u l := by
  cases y with
  | «strs» => cases hl; exact r
  | adl => cases hl; exact r.2
  | _ => first | exact nn hl | exact nf hl | exact nomatch hl
theorem jn_w {l : List T} (hw : (l.map List.length).sum + l.length ≤ big) : ((l.map sT).map (·.length)).sum + (l.map sT).length ≤ 1048576 := by
  have e3 : (l.map sT).map (·.length) = l.map List.length := by simp [Function.comp_def, sT_len]
  rw [e3, List.length_map]
  exact Nat.le_trans hw (by decide)
theorem ev_sm {o b : Expr} {name : Str} {m : Sm} {fo fb : Loc → St → Option (V × St)} (hm : smOf name = some m) (ho : EvOk C nm sc n o fo) (hb : EvOk C nm sc n b fb) (hp : plainBase o = true) (hs : notStar b = true) (ap pos : Pos) (hl : (ap.endLine == pos.line) = true) :
    EvOk C nm sc n (.Call (.Attribute o name ap) [b] [] pos) (fun ρ σ => (fo ρ σ).bind fun (x, σ) => (fb ρ σ).bind fun (y, σ) => (smV m x y).map (·, σ)) := by
  obtain rfl := smOf_name hm
  intro p A s ρ σ v σ' P M a0 q
  refine bd2 q fun x σ1 h1 q => ?_
  refine bd2 q fun y σ2 h2 q => ?_
  refine md2 q fun v' h3 => ?_
  refine Call_method1 (plainBase_ok hp _ _) (starEach_plain hs _) hl (wpAny_mono (ho p A s ρ σ x σ1 P M a0 h1) (fun u s1 ⟨r1, w1⟩ => ?_) fun _ _ z => z)
  have kb := hb p A s1 ρ σ1 y _ P M w1.at_ h2
  refine bd h3 fun z hz h3 => ?_
  obtain ⟨t, rfl⟩ := R.of_str (asS_eq hz) r1
  cases m with
  | ends =>
    refine mdE h3 fun y' hy => ?_
    refine SB.endswith (wpAny_mono kb (fun u' s2 w => ?_) fun _ _ z => z)
    obtain ⟨t', rfl⟩ := R.of_str (asS_eq hy) w.1
    exact ⟨_, _, rfl, congrArg Value.bool (ends_eq _ _), w1.trans w.2⟩
  | starts =>
    refine mdE h3 fun y' hy => ?_
    refine SB.startswith (wpAny_mono kb (fun u' s2 w => ?_) fun _ _ z => z)
    obtain ⟨t', rfl⟩ := R.of_str (asS_eq hy) w.1
    exact ⟨_, _, rfl, congrArg Value.bool (starts_eq _ _), w1.trans w.2⟩
  | join =>
    refine idt h3 fun hz0 h3 => bd h3 fun l hl h3 => idt h3 fun hw h3 => ?_
    refine s1' h3 ?_
    subst hz0
    refine SB.join (wpAny_mono kb (fun u' s2 w => ?_) fun _ _ z => z)
    obtain ⟨d, us, rfl, i, r⟩ := R.of_jn hl w.1
    obtain ⟨k, rfl, e2⟩ := strVals_of r
    exact ⟨d, k, rfl, i, _, rfl, joinOk_of_weight (e2 ▸ jn_w hw) (Nat.zero_le _), fun t' k' => ⟨e2 ▸ ⟨t', congrArg (Value.str · t') (join_eq l)⟩, (w1.trans w.2).toks k'⟩⟩
end
noncomputable def strsB : List Value → List T → Bool
  | .str x _ :: r, t :: q => (x.cps.toList == t) && strsB r q
  | [], [] => true
  | _, _ => false
theorem strsB_ok : ∀ {vs : List Value} {l : List T}, strsB vs l = true → All2 isStr vs l
  | [], [], _ => .nil
  | .str x k :: r, t :: q, h => by
    obtain ⟨h1, h2⟩ := Bool.and_eq_true_iff.mp (show ((x.cps.toList == t) && strsB r q) = true from h)
    have e : x.cps.toList = t := by simpa using h1
    exact .cons ⟨k, by rw [← e]⟩ (strsB_ok h2)
noncomputable def seqB (ty : String) (o : Option Obj) (l : List T) : Bool := match o with
  | some ⟨.type t, none, .seq vs _, _⟩ => t == ty && strsB vs.toList l
  | _ => false
theorem seqB_ok {K : Frag} {h : Heap} (X : K.In h) {ty : String} {a : Addr} {l : List T} (e : seqB ty (K.lookup a) l = true) : ∃ us n sl, h.get? a = some ⟨.type ty, none, .seq us n, sl⟩ ∧ All2 isStr us.toList l := by
  unfold seqB at e
  split at e
  · rename_i t vs n sl q
    obtain ⟨h1, h2⟩ := Bool.and_eq_true_iff.mp e
    have : t = ty := by simpa using h1
    subst this
    exact ⟨vs, n, sl, X _ _ q, strsB_ok h2⟩
  · cases e
noncomputable def GlOk (P : Params) (x : Str × V) : Prop := ∃ u, nsIn (KAll P) mainGlobals x.1 = some (some u) ∧ ∀ (C : Cx) (h : Heap), AtTop P h → R C h u x.2
theorem gl_list {P : Params} {x : Str} {a : Addr} {l : List T} (h1 : nsIn (KAll P) mainGlobals x = some (some (.ref a))) (h2 : seqB "list" ((KAll P).lookup a) l = true) : GlOk P (x, .strs l) :=
  ⟨_, h1, fun C h X => by
    obtain ⟨us, n, sl, e, r⟩ := seqB_ok X.k h2
    exact ⟨a, us.toList, rfl, ⟨_, e, rfl, n, by simp⟩, r⟩⟩
theorem all_nil {α : Type} {p : α → Prop} : ∀ x ∈ ([] : List α), p x := fun _ h => nomatch h
theorem all_cons {α : Type} {p : α → Prop} {a : α} {l : List α} (h : p a) (t : ∀ x ∈ l, p x) : ∀ x ∈ a :: l, p x := fun x q => by cases q with | head => exact h | tail _ q => exact t x q
theorem gls_ok (P : Params) : ∀ x ∈ gls, GlOk P x := by
  exact all_cons ⟨.str ⟨#[1569, 1570, 1571, 1572, 1573, 1574, 1575, 1576, 1577, 1578, 1579, 1580, 1581, 1582, 1583, 1584, 1585, 1586, 1587, 1588, 1589, 1590, 1591, 1592, 1593, 1594, 1601, 1602, 1603, 1604, 1605, 1606, 1607, 1608, 1609, 1610]⟩ 3934, by kernel_rfl, fun C h X => ⟨3934, rfl⟩⟩ <| all_cons (gl_list (a := 1141) (by kernel_rfl) (by kernel_rfl)) <| all_cons (gl_list (a := 1142) (by kernel_rfl) (by kernel_rfl)) <| all_cons (gl_list (a := 1143) (by kernel_rfl) (by kernel_rfl)) <| all_nil
noncomputable def CatOk (P : Params) (x : Str × V) : Prop := ∃ a, findCls (KAll P) (.ref 1066) (.type "type") x.1 = some (.val (.ref a)) ∧ ∀ (C : Cx) (h : Heap), AtTop P C.B → AtTop P h → R C h (.ref a) x.2
theorem cat_menu {P : Params} {x : Str} {a : Addr} {l : List T} (h1 : findCls (KAll P) (.ref 1066) (.type "type") x = some (.val (.ref a))) (h2 : seqB "tuple" ((KAll P).lookup a) l = true) : CatOk P (x, .menu l) :=
  ⟨_, h1, fun C h _ X => by
    obtain ⟨us, n, sl, e, r⟩ := seqB_ok X.k h2
    exact ⟨a, us.toList, rfl, ⟨_, e, rfl, n, by simp⟩, r⟩⟩
theorem cat_tab {P : Params} {x : Str} {a : Addr} {l : List Row} (h1 : findCls (KAll P) (.ref 1066) (.type "type") x = some (.val (.ref a))) {k : Nat} (h2 : tabs[k]? = some (a, l)) : CatOk P (x, .tab l) :=
  ⟨_, h1, fun C h Y _ => ⟨a, rfl, Y.t _ (List.mem_of_getElem? h2)⟩⟩
theorem reads_1066 (P : Params) : readsIn (KAll P) 1066 (.type "type") = true := by kernel_rfl
theorem at_1066 (P : Params) : nsIn (KAll P) mainGlobals "ArabicStemmer" = some (some (.ref 1066)) := by kernel_rfl
set_option maxHeartbeats 0 in
theorem cats_ok (P : Params) : ∀ x ∈ cats, CatOk P x := by
  exact all_cons (cat_tab (a := 818) (by kernel_rfl) (k := 0) rfl) <| all_cons (cat_menu (a := 819) (by kernel_rfl) (by kernel_rfl)) <| all_cons (cat_tab (a := 835) (by kernel_rfl) (k := 1) rfl) <| all_cons (cat_tab (a := 851) (by kernel_rfl) (k := 2) rfl) <| all_cons (cat_menu (a := 852) (by kernel_rfl) (by kernel_rfl)) <| all_cons (cat_tab (a := 865) (by kernel_rfl) (k := 3) rfl) <| all_cons (cat_tab (a := 881) (by kernel_rfl) (k := 4) rfl) <| all_cons (cat_tab (a := 888) (by kernel_rfl) (k := 5) rfl) <| all_cons (cat_tab (a := 901) (by kernel_rfl) (k := 6) rfl) <| all_cons (cat_tab (a := 914) (by kernel_rfl) (k := 7) rfl) <| all_cons (cat_tab (a := 927) (by kernel_rfl) (k := 8) rfl) <| all_cons (cat_tab (a := 937) (by kernel_rfl) (k := 9) rfl) <| all_cons (cat_tab (a := 968) (by kernel_rfl) (k := 10) rfl) <| all_cons (cat_tab (a := 978) (by kernel_rfl) (k := 11) rfl) <| all_cons (cat_tab (a := 1015) (by kernel_rfl) (k := 12) rfl) <| all_cons (cat_tab (a := 1049) (by kernel_rfl) (k := 13) rfl) <| all_cons (cat_tab (a := 1056) (by kernel_rfl) (k := 14) rfl) <| all_cons (cat_tab (a := 1063) (by kernel_rfl) (k := 15) rfl) <| all_nil
section
variable {C : Cx} {nm : List Str} {sc : Scope} {n : Nat}
theorem ev_gl {x : Str} {v : V} (hx : isG sc x = true) (h : gls.lookup x = some v) (pos : Pos) : EvOk C nm sc n (.Name x pos) (fun _ σ => some (v, σ)) := by
  intro p A s ρ σ w σ' P M a q
  cases q
  obtain ⟨u, h1, h2⟩ := gls_ok C.w.params _ (mem_of_lookup h)
  exact load_gl P a hx h1 ⟨h2 C _ (P.top.keeps a.base), .refl a⟩
theorem ev_cat {x : Str} {v : V} (hx : isG sc "ArabicStemmer" = true) (h : cats.lookup x = some v) (np pos : Pos) : EvOk C nm sc n (.Attribute (.Name "ArabicStemmer" np) x pos) (fun _ σ => some (v, σ)) := by
  intro p A s ρ σ w σ' P M a q
  cases q
  obtain ⟨b, h1, h2⟩ := cats_ok C.w.params _ (mem_of_lookup h)
  refine Attribute_Name_ (load_gl P a hx (at_1066 _) ?_) ?_
  · exact cls_value (P.top.keeps a.base).k (reads_1066 _) h1 rfl ⟨h2 C _ P.top (P.top.keeps a.base), .of_kept P a (.refl _)⟩
  · rw [arm_eval_Attribute]; rfl
noncomputable def fldFind : Fld → Option Value
  | .bn | .bv | .bd => some (.bool false)
  | _ => none
theorem fld_facts (P : Params) (f : Fld) : findIn (KAll P) (.ref 1066) f.name = some (fldFind f) ∧ noGet (KAll P) (fldFind f) = true := by
  cases f <;> (constructor <;> kernel_rfl)
theorem inst_facts (P : Params) : plainGet (KAll P) 1066 "" = true ∧ hasDictIn (KAll P) 1066 = true ∧ findIn (KAll P) (.ref 1066) "__setattr__" = some (some (.builtin "object.__setattr__")) ∧ plainOver (KAll P) 1066 = true := by
  refine ⟨?_, ?_, ?_, ?_⟩ <;> kernel_rfl
theorem fld_handed {f : Fld} {σ : St} {v : V} (h : σ.get f = some v) {C : Cx} {hp : Heap} {u : Value} (r : R C hp u v) : handedIn u = true := by
  cases f <;> obtain ⟨z, _, rfl⟩ := Option.map_eq_some_iff.mp h <;> first | (obtain ⟨t, rfl⟩ := r; rfl) | (obtain rfl : u = .bool z := r; rfl)
theorem fld_indep {f : Fld} {σ : St} {v : V} (h : σ.get f = some v) {C C' : Cx} {hp hp' : Heap} {u : Value} (r : R C hp u v) : R C' hp' u v := by
  cases f <;> obtain ⟨z, _, rfl⟩ := Option.map_eq_some_iff.mp h <;> exact r
theorem get_fld {p : Pl} {A : Around} {s : Shared} {ρ : Loc} {σ : St} {f : Fld} {v : V} {u : Value} {Q : Value → Shared → Prop} (P : PlOk C p nm sc) (a : At C p s.heap ρ σ) (ru : R C s.heap u .me) (hv : σ.get f = some v)
    (h : ∀ w, R C s.heap w v → Q w { s with toks := s.toks + 1 }) : wpAny (model PW C.w) A (getAttr u f.name true) Q No s := by
  obtain ⟨x, dx, ho, rfl⟩ := ru
  obtain ⟨es, n, h1, h2, h3⟩ := a.me x dx ho
  obtain ⟨m, F, _⟩ := a.fr P
  obtain ⟨_, _, _, h4⟩ := h3
  obtain ⟨w, hw, hr⟩ := h4 f v hv
  obtain ⟨f1, f2⟩ := fld_facts C.w.params f
  obtain ⟨i1, i2, i3, i4⟩ := inst_facts C.w.params
  exact get_own F P.top.k ⟨h1, rfl, rfl, h2⟩ i1 i2 f1 f2 hw (fld_handed hv (hr C s.heap)) (h w (hr C s.heap))
theorem fldOf_name {a : Str} {f : Fld} (h : fldOf a = some f) : a = f.name := by
  unfold fldOf at h
  have := List.find?_some h
  exact (eq_of_beq this).symm
theorem ev_fld {x a : Str} {i : Nat} {f : Fld} (hi : idx nm x = some i) (hx : okN x = true) (hf : fldOf a = some f) (np pos : Pos) : EvOk C nm sc n (.Attribute (.Name x np) a pos) (fun ρ σ => match ρ.getD i Option.none with
    | some .me => (σ.get f).map (·, σ)
    | _ => Option.none) := by
  obtain rfl := fldOf_name hf
  intro p A s ρ σ v σ' P M a q
  dsimp only at q
  split at q
  · rename_i hm
    obtain ⟨v', hv, q⟩ := Option.map_eq_some_iff.mp q
    cases q
    refine Attribute_Name_ (wpAny_Name (load_var P a hi hx hm fun u r => ?_) (okN_1 hx)) ?_
    · exact get_fld P a r hv fun w r' => ⟨r', .of_kept P a (.refl _)⟩
    · rw [arm_eval_Attribute]; rfl
  · cases q
theorem row_facts (P : Params) : plainGet (KAll P) 220 "" = true ∧ hasDictIn (KAll P) 220 = true ∧ findIn (KAll P) (.ref 220) "s" = some none ∧ findIn (KAll P) (.ref 220) "substring_i" = some none ∧ findIn (KAll P) (.ref 220) "result" = some none := by
  refine ⟨?_, ?_, ?_, ?_, ?_⟩ <;> kernel_rfl
theorem get_row {p : Pl} {A : Around} {s : Shared} {ρ : Loc} {σ : St} {name : Str} {u w : Value} {r : Row} {Q : Value → Shared → Prop} (P : PlOk C p nm sc) (a : At C p s.heap ρ σ) (ru : R C s.heap u (.row r)) (hn : findIn (KAll C.w.params) (.ref 220) name = some none)
    (hl : ∀ es : List DictEntry, EntsAre es r → ∃ w, getL name es = some (some w) ∧ handedIn w = true ∧ Q w { s with toks := s.toks + 1 }) :
    wpAny (model PW C.w) A (getAttr u name true) Q No s := by
  obtain ⟨x, dx, c, sl, sl', es, n, rfl, e1, e2, e3⟩ := ru
  obtain ⟨w, hw, hh, hq⟩ := hl es.toList e3
  obtain ⟨i1, i2, _⟩ := row_facts C.w.params
  exact get_value (P.top.k.keeps a.base) (ox := ⟨.ref 220, some dx, .plain, sl⟩) (od := some ⟨.type c, none, .dict es n, sl'⟩) ⟨a.base _ _ e1, rfl, rfl, a.base _ _ e2⟩ (plainGet_of i1).1 (findObj_own i2 hn rfl hw) hh hq
theorem ev_row {x a : Str} {i : Nat} {g : Row → V} (hi : idx nm x = some i) (hx : okN x = true) (np pos : Pos) (hn : ∀ P, findIn (KAll P) (.ref 220) a = some none)
    (hl : ∀ (r : Row) (es : List DictEntry), EntsAre es r → ∃ w, getL a es = some (some w) ∧ handedIn w = true ∧ ∀ C h, R C h w (g r)) :
    EvOk C nm sc n (.Attribute (.Name x np) a pos) (fun ρ σ => ((ρ.getD i Option.none).map (·, σ)).bind fun (v, σ) => match v with | .row r => some (g r, σ) | _ => Option.none) := by
  intro p A s ρ σ v σ' P M a0 q
  obtain ⟨⟨y, σ1⟩, h1, q⟩ := Option.bind_eq_some_iff.mp q
  obtain ⟨y', h2, h1⟩ := Option.map_eq_some_iff.mp h1
  cases h1
  cases y <;> simp at q
  obtain ⟨rfl, rfl⟩ := q
  refine Attribute_Name_ (wpAny_Name (load_var P a0 hi hx h2 fun u r => ?_) (okN_1 hx)) ?_
  · refine get_row (w := .none) P a0 r (hn _) fun es he => ?_
    obtain ⟨w, k1, k2, k3⟩ := hl _ es he
    exact ⟨w, k1, k2, k3 _ _, .of_kept P a0 (.refl _)⟩
  · rw [arm_eval_Attribute]; rfl
theorem ev_rowS {x : Str} {i : Nat} (hi : idx nm x = some i) (hx : okN x = true) (np pos : Pos) : EvOk C nm sc n (.Attribute (.Name x np) "s" pos) (fun ρ σ => ((ρ.getD i Option.none).map (·, σ)).bind fun (v, σ) => match v with | .row r => some (.str r.1, σ) | _ => Option.none) :=
  ev_row hi hx np pos (fun P => (row_facts P).2.2.1) fun r es ⟨k1, k2, k3, t1, t2, t3, h1, h2, h3, e⟩ => ⟨.str ⟨r.1.toArray⟩ t1, by subst e; rfl, rfl, fun _ _ => ⟨t1, rfl⟩⟩
theorem ev_rowI {x : Str} {i : Nat} (hi : idx nm x = some i) (hx : okN x = true) (np pos : Pos) : EvOk C nm sc n (.Attribute (.Name x np) "substring_i" pos) (fun ρ σ => ((ρ.getD i Option.none).map (·, σ)).bind fun (v, σ) => match v with | .row r => some (.int r.2.1, σ) | _ => Option.none) :=
  ev_row hi hx np pos (fun P => (row_facts P).2.2.2.1) fun r es ⟨k1, k2, k3, t1, t2, t3, h1, h2, h3, e⟩ => ⟨.int r.2.1 t2, by subst e; rfl, rfl, fun _ _ => ⟨t2, rfl⟩⟩
theorem ev_rowR {x : Str} {i : Nat} (hi : idx nm x = some i) (hx : okN x = true) (np pos : Pos) : EvOk C nm sc n (.Attribute (.Name x np) "result" pos) (fun ρ σ => ((ρ.getD i Option.none).map (·, σ)).bind fun (v, σ) => match v with | .row r => some (.int r.2.2, σ) | _ => Option.none) :=
  ev_row hi hx np pos (fun P => (row_facts P).2.2.2.2) fun r es ⟨k1, k2, k3, t1, t2, t3, h1, h2, h3, e⟩ => ⟨.int r.2.2 t3, by subst e; rfl, rfl, fun _ _ => ⟨t3, rfl⟩⟩
end
noncomputable def CallOk (C : Cx) (n : Nat) (f : Addr) (g : List V → St → Option (V × St)) : Prop :=
  ∀ (p : Pl) (nm : List Str) (sc : Scope) (A : Around) (s : Shared) (ρ : Loc) (σ : St) (us : List Value) (xs : List V) (v : V) (σ' : St), PlOk C p nm sc → Rm p A n → At C p s.heap ρ σ → All2 (R C s.heap) us xs → g xs σ = some (v, σ') →
    wpAny (model PW C.w) A (call (.ref f) us) (Post C p s v ρ σ') No s
noncomputable def fnG (Ψ : Psi) (f : Nat) : List V → St → Option (V × St) := fun xs σ => (Ψ f xs).map (·, σ)
noncomputable def mtG (Φ : Phi) (m : Nat) : List V → St → Option (V × St) := fun xs σ => match xs with
  | .me :: r => Φ m r σ
  | _ => Option.none
section
variable {C : Cx} {nm : List Str} {sc : Scope} {n : Nat}
theorem star_all {es : List Expr} (h : es.all notStar = true) (pos : Pos) (env : Env) : (backTo pos (starEach es env)).all (fun x => !x.1) = true := by
  have := star_any h pos env
  rw [List.any_eq_false] at this
  rw [List.all_eq_true]
  intro x hx
  simpa using this x hx
theorem fn_facts (P : Params) : (fns.all fun x => nsIn (KAll P) mainGlobals x.1 == some (some (.ref x.2)) && keepIn (KAll P) (.ref x.2)) = true := by kernel_rfl
theorem fn_fact (P : Params) {x : Str} {f : Nat} (h : fns.lookup x = some f) : nsIn (KAll P) mainGlobals x = some (some (.ref f)) ∧ keepIn (KAll P) (.ref f) = true := by
  have := List.all_eq_true.mp (fn_facts P) _ (mem_of_lookup h)
  obtain ⟨h1, h2⟩ := Bool.and_eq_true_iff.mp this
  exact ⟨eq_of_beq h1, h2⟩
theorem mth_facts (P : Params) : (mths.all fun x => findIn (KAll P) (.ref 1066) x.1 == some (some (.ref x.2)) && isFn (KAll P) (.ref x.2) && keepIn (KAll P) (.ref x.2) && ([Fld.cur, .cursor, .limit, .lb, .bra, .ket, .bn, .bv, .bd].all fun f => !(f.name == x.1))) = true := by kernel_rfl
theorem mth_fact (P : Params) {x : Str} {m : Nat} (h : mths.lookup x = some m) : findIn (KAll P) (.ref 1066) x = some (some (.ref m)) ∧ isFn (KAll P) (.ref m) = true ∧ keepIn (KAll P) (.ref m) = true ∧ ∀ f : Fld, f.name ≠ x := by
  have := List.all_eq_true.mp (mth_facts P) _ (mem_of_lookup h)
  simp only [Bool.and_eq_true] at this
  obtain ⟨⟨⟨h1, h2⟩, h3⟩, h4⟩ := this
  refine ⟨eq_of_beq h1, h2, h3, fun f => ?_⟩
  have := List.all_eq_true.mp h4 f (by cases f <;> simp)
  simpa using this
theorem ev_call {x : Str} {f : Nat} {es : List Expr} {fs : List (Loc → St → Option (V × St))} (hx : isG sc x = true) (hf : fns.lookup x = some f) {g : List V → St → Option (V × St)} (hg : CallOk C n f g) (h : All2 (EvOk C nm sc n) es fs) (hs : es.all notStar = true) (np pos : Pos) :
    EvOk C nm sc n (.Call (.Name x np) es [] pos) (fun ρ σ => (evL fs ρ σ).bind fun (xs, σ) => g xs σ) := by
  intro p A s ρ σ v σ' P M a q
  refine bd2 q fun xs σ1 h1 q => ?_
  have e := fn_fact C.w.params hf
  refine wpAny_Call_ofName (load_gl P a hx e.1 ?_)
  refine callWith_of (P := (KAll C.w.params).In) (by rw [star_any hs]; rfl) (fun h X => keeps_K e.2 h X) (evalArgs_ok h hs pos P M a h1 fun us s1 r w => ⟨(P.top.keeps w.at_.base).k, ?_⟩)
  exact wpAny_mono (hg p nm sc A s1 ρ σ1 us xs v σ' P M w.at_ r q) (fun u s2 ⟨r2, w2⟩ => ⟨r2, w.trans w2⟩) fun _ _ z => z
theorem keys_str : ∀ {es : List DictEntry} {ks : List Fld}, All2 (fun e f => ∃ t, e.key = .str f.name t) es ks → es.any (·.refKey) = false
  | _, _, .nil => rfl
  | _, _, .cons h t => by
    obtain ⟨k, h⟩ := h
    rw [List.any_cons, keys_str t]
    simp [DictEntry.refKey, h]
theorem getL_of {es : List DictEntry} {ks : List Fld} (h : All2 (fun e f => ∃ t, e.key = .str f.name t) es ks) (x : Str) : getL x es = some ((es.find? (·.key.isStr x)).map (·.val)) := by
  unfold getL
  rw [keys_str h]
  cases es.find? (·.key.isStr x) <;> rfl
theorem no_key {x : Str} (hx : ∀ f : Fld, f.name ≠ x) : ∀ {es : List DictEntry} {ks : List Fld}, All2 (fun e f => ∃ t, e.key = .str f.name t) es ks → ∀ e ∈ es, ¬ e.key.isStr x = true
  | _, _, .nil, e, he, _ => nomatch he
  | _, _, .cons a t, e, he, q => by
    rcases List.mem_cons.mp he with rfl | he
    · obtain ⟨t, ht⟩ := a
      rw [ht] at q
      exact hx _ (by simpa [Value.isStr] using q)
    · exact no_key hx t e he q
theorem getL_method {es : List DictEntry} {σ : St} (h : FldsOk es σ) {x : Str} (hx : ∀ f : Fld, f.name ≠ x) : getL x es = some none := by
  obtain ⟨ks, _, h2, _⟩ := h
  rw [getL_of h2]
  have e1 : es.find? (·.key.isStr x) = none := by
    rw [List.find?_eq_none]
    exact fun e he q => no_key hx h2 e he q
  rw [e1]; rfl
theorem Call_own {w : World} {A : Around} {E : Value → Shared → Prop} {s : Shared} {env : Env} {o : Expr} {name : Str} {apos pos : Pos} {args : List Expr} {Q : Value → Shared → Prop}
    (hbase : attributeBase o name env (eval o env) = eval o env)
    (hfew : ((backTo pos (starEach args env)).all (fun x => !x.1) && (backToKw pos (keywordEach [] env)).all (fun x => x.1.isSome)
      && decide (args.length + ([] : List Keyword).length + (if ([] : List Keyword).isEmpty then 0 else 1) < 30)) = true)
    (hline : (apos.endLine == pos.line) = true)
    (h : wpAny (model PW w) A (eval o env) (fun ov s₁ => ∀ pl, wpAny (model PW w) A (getMethod ov name pl) (fun fr s₂ => wpAny (model PW w) A (callWith pos fr.1 fr.2 (backTo pos (starEach args env)) []) Q E s₂) E s₁) E s) :
    wpAny (model PW w) A (eval (.Call (.Attribute o name apos) args [] pos) env) Q E s := by
  rw [arm_eval_Call, hbase]
  refine wpAny_bind (wpAny_mono h (fun ov s₁ h₁ => ?_) fun _ _ e => e)
  refine wpAny_bind (wpAny_standAt ?_)
  have hform : methodCallForm (args.length + ([] : List Keyword).length) (backTo pos (starEach args env)) (backToKw pos (keywordEach [] env)) = true := hfew
  have hpos : methodCallPos true o env apos pos = pure pos := by unfold methodCallPos; simp [hline]
  unfold methodCall
  rw [hform]
  refine wpAny_bind (wpAny_holding (wpAny_mono (h₁ _) (fun fr s₂ h₂ => ?_) fun _ _ e => e))
  exact wpAny_bind (wpAny_of_eq hpos h₂)
theorem ev_meth {x a : Str} {i m : Nat} {es : List Expr} {fs : List (Loc → St → Option (V × St))} (hi : idx nm x = some i) (hx : okN x = true) (hm : mths.lookup a = some m) {g : List V → St → Option (V × St)} (hg : CallOk C n m g) (h : All2 (EvOk C nm sc n) es fs) (hs : es.all notStar = true) (hn : es.length < 20)
    (np ap pos : Pos) (hl : (ap.endLine == pos.line) = true) :
    EvOk C nm sc n (.Call (.Attribute (.Name x np) a ap) es [] pos) (fun ρ σ => match ρ.getD i Option.none with
    | some .me => (evL fs ρ σ).bind fun (xs, σ) => g (.me :: xs) σ
    | _ => Option.none) := by
  intro p A s ρ σ v σ' P M a0 q
  refine me_of q fun hv q => bd2 q fun xs σ1 h1 q => ?_
  · have ⟨e1, e2, e3, e4⟩ := mth_fact C.w.params hm
    have i1 := (inst_facts C.w.params).1
    refine Call_own rfl ?_ hl (wpAny_Name (load_var P a0 hi hx hv fun u r pl => ?_) (okN_1 hx))
    · rw [star_all hs]
      simp [backToKw, keywordEach]
      omega
    · obtain ⟨y, dy, ho, rfl⟩ := r
      obtain ⟨es', k, k1, k2, k3⟩ := a0.me y dy ho
      obtain ⟨m', F, _⟩ := a0.fr P
      refine method_inst F P.top.k ⟨k1, rfl, rfl, k2⟩ i1 e1 e2 (getL_method k3 e4) ?_
      refine callWith_of (P := (KAll C.w.params).In) (by rw [star_any hs]; rfl) (fun h X => keeps_K e3 h X) (evalArgs_ok h hs pos P M a0 h1 fun us s1 r w => ⟨(P.top.keeps w.at_.base).k, ?_⟩)
      exact wpAny_mono (hg p nm sc A s1 ρ σ1 (.ref y :: us) (.me :: xs) v σ' P M w.at_ (.cons ⟨y, dy, ho, rfl⟩ r) q) (fun u s2 ⟨r2, w2⟩ => ⟨r2, w.trans w2⟩) fun _ _ z => z
theorem asConst_eq {e : Expr} {c : Const} (h : asConst e = some c) : ∃ k p, e = .Constant c k p := by
  cases e <;> first | exact nn h | (cases h; exact ⟨_, _, rfl⟩)
theorem kStr_eq {c : Const} {s : Str} (h : kStr c = some s) : c = .str s := by cases c <;> first | exact nn h | exact congrArg _ (Option.some.inj h)
theorem texts_ok : ∀ {es : List Expr} {l : List T}, textsOf es = some l → All2 (EvOk C nm sc n) es (l.map fun t => fun _ σ => some (.str t, σ)) ∧ es.all notStar = true
  | [], l, h => by cases h; exact ⟨.nil, rfl⟩
  | e :: r, l, h => by
    obtain ⟨x, hx, h0⟩ := Option.bind_eq_some_iff.mp h
    obtain ⟨c, hc, hx⟩ := Option.bind_eq_some_iff.mp hx
    obtain ⟨k, pos, rfl⟩ := asConst_eq hc
    obtain rfl := kStr_eq hx
    split at h0
    · rename_i hx
      obtain ⟨q, h1, rfl⟩ := Option.map_eq_some_iff.mp h0
      obtain ⟨a, b⟩ := texts_ok h1
      exact ⟨.cons (ev_const (by simp [cnst, hx]) k pos) a, by rw [List.all_cons, b]; rfl⟩
    · cases h0
theorem evL_texts (ρ : Loc) (σ : St) : ∀ l : List T, evL (l.map fun t => fun _ σ => some (.str t, σ)) ρ σ = some (l.map .str, σ)
  | [] => rfl
  | t :: r => by simp [evL, evL_texts ρ σ r]
theorem all2_str {C : Cx} {h : Heap} : ∀ {us : List Value} {l : List T}, All2 (R C h) us (l.map .str) → All2 isStr us l
  | us, [], x => by cases x; exact .nil
  | us, t :: r, x => by cases x with | cons a b => exact .cons a (all2_str b)
theorem ev_strsD {es : List Expr} {l : List T} (h : textsOf es = some l) (hl : l.length ≤ 1000) (pos : Pos) : EvOk C nm sc n (.List es pos) (fun _ σ => some (.strs l, σ)) := by
  intro p A s ρ σ v σ' P M a q
  cases q
  obtain ⟨h1, h2⟩ := texts_ok (C := C) (nm := nm) (sc := sc) (n := n) h
  refine PySem.wpAny_List (wpAny_mono (args_ok h1 h2 pos P M a (evL_texts ρ σ l)) (fun us s1 ⟨r1, w1⟩ => ?_) fun _ _ z => z)
  have r2 := all2_str r1
  refine ⟨by rw [r2.length]; exact Nat.le_trans hl (by decide), ?_, ?_⟩
  · exact ⟨_, us, rfl, ⟨_, Heap.get?_push_size _ rfl, rfl, _, rfl⟩, r2⟩
  · exact w1.trans (.of_kept P w1.at_ (.of_all fun b o e => Heap.get?_push_of_some _ e))
theorem ss {α : Type} {y z : V} {k : List T → List T → Option α} {c : α} {Q : Prop} (q : (match y, z with | .strs i, .strs j => k i j | _, _ => Option.none) = some c) (K : ∀ i j, y = .strs i → z = .strs j → k i j = some c → Q) : Q := by
  cases y <;> first | exact nn q | skip
  cases z <;> first | exact nn q | exact K _ _ rfl rfl q
theorem si {α : Type} {y z : V} {k : List Int → List Int → Option α} {c : α} {Q : Prop} (q : (match y, z with | .ints i, .ints j => k i j | _, _ => Option.none) = some c) (K : ∀ i j, y = .ints i → z = .ints j → k i j = some c → Q) : Q := by
  cases y <;> first | exact nn q | skip
  cases z <;> first | exact nn q | exact K _ _ rfl rfl q
theorem ev_pair {a b : Expr} {fa fb : Loc → St → Option (V × St)} (ha : EvOk C nm sc n a fa) (hb : EvOk C nm sc n b fb) (hs : notStar a = true) (hs' : notStar b = true) (pos : Pos) :
    EvOk C nm sc n (.List [a, b] pos) (fun ρ σ => (fa ρ σ).bind fun (x, σ) => (fb ρ σ).bind fun (y, σ) => match x, y with
    | .strs i, .strs j => some (.strss [i, j], σ)
    | _, _ => Option.none) := by
  intro p A s ρ σ v σ' P M a0 q
  refine bd2 q fun y σ1 h1 q => bd2 q fun z σ2 h2 q => ss q fun i j hy hz q => s2 q ?_
  refine PySem.wpAny_List (wpAny_mono (args_ok (.cons ha (.cons hb .nil)) (ns2 hs hs') pos P M a0 (evL2 h1 h2)) (fun us s1 w => ?_) fun _ _ z => z)
  refine al2 w.1 fun u1 u2 ra rb => ?_
  have w2 : Went C p s1 { s1 with heap := s1.heap.push { cls := .type "list", data := .seq [u1, u2].toArray } } ρ σ2 := .of_kept P w.2.at_ (.of_all fun b o e => Heap.get?_push_of_some _ e)
  exact ⟨by show 2 ≤ sizeLine; decide, ⟨_, _, rfl, ⟨_, Heap.get?_push_size _ rfl, rfl, _, rfl⟩, .cons (w2.R w.2.at_ (v := .strs i) (hy ▸ ra)) (.cons (w2.R w.2.at_ (v := .strs j) (hz ▸ rb)) .nil)⟩, w.2.trans w2⟩
theorem ev_tup2 {a b : Expr} {fa fb : Loc → St → Option (V × St)} (ha : EvOk C nm sc n a fa) (hb : EvOk C nm sc n b fb) (hs : notStar a = true) (hs' : notStar b = true) (k : Nat) (pos : Pos) :
    EvOk C nm sc n (.Tuple [a, b] k pos) (fun ρ σ => (fa ρ σ).bind fun (x, σ) => (fb ρ σ).bind fun (y, σ) => match x, y with
    | .ints i, .ints j => some (.intss [i, j], σ)
    | _, _ => Option.none) := by
  intro p A s ρ σ v σ' P M a0 q
  refine bd2 q fun y σ1 h1 q => bd2 q fun z σ2 h2 q => si q fun i j hy hz q => s2 q ?_
  refine PySem.wpAny_Tuple (wpAny_mono (args_ok (.cons ha (.cons hb .nil)) (ns2 hs hs') pos P M a0 (evL2 h1 h2)) (fun us s1 w => ?_) fun _ _ z => z)
  refine al2 w.1 fun u1 u2 ra rb => ?_
  have w2 : Went C p s1 { s1 with heap := s1.heap.push { cls := .type "tuple", data := .seq [u1, u2].toArray } } ρ σ2 := .of_kept P w.2.at_ (.of_all fun b o e => Heap.get?_push_of_some _ e)
  exact ⟨by show 2 ≤ sizeLine; decide, ⟨_, _, rfl, ⟨_, Heap.get?_push_size _ rfl, rfl, _, rfl⟩, .cons (w2.R w.2.at_ (v := .ints i) (hy ▸ ra)) (.cons (w2.R w.2.at_ (v := .ints j) (hz ▸ rb)) .nil)⟩, w.2.trans w2⟩
end
section
variable {C : Cx} {nm : List Str} {sc : Scope} {n : Nat} {p : Pl}
theorem frs_stack (P : PlOk C p nm sc) {b : Addr} (h : b ∈ frs p.stack) : b = p.L ∨ b ∈ frs p.outer := by
  rcases P.stack with e | ⟨e, f⟩
  · rw [e] at h; exact .inr h
  · rw [e] at h
    have : frs (p.env :: p.outer) = p.L :: frs p.outer := by simp [frs, f]
    rw [this] at h
    exact List.mem_cons.mp h
theorem outer_stack (P : PlOk C p nm sc) {b : Addr} (h : b ∈ frs p.outer) : b ∈ frs p.stack := by
  rcases P.stack with e | ⟨e, f⟩
  · rw [e]; exact h
  · rw [e]
    have : frs (p.env :: p.outer) = p.L :: frs p.outer := by simp [frs, f]
    rw [this]
    exact .tail _ h
theorem not_B (P : PlOk C p nm sc) {a : Addr} (h : p.L ≤ a) : C.B.get? a = none := Heap.get?_none_of_le (Nat.le_trans P.above h)
theorem At.but (P : PlOk C p nm sc) {h h' : Heap} {ρ : Loc} {σ : St} {a : Addr} (x : At C p h ρ σ) (hk : ∀ b o, b ≠ a → h.get? b = some o → h'.get? b = some o) (hL : a ≠ p.L) (hf : a ∉ frs p.outer) (ho : ∀ x dx, C.ob = some (x, dx) → a ≠ x ∧ a ≠ dx) (hB : C.B.get? a = none)
    (hd : ∀ o, h.get? a = some o → (∀ vs n, o.data ≠ .seq vs n) ∧ (∀ v, o.data ≠ .cell v)) : At C p h' ρ σ := by
  obtain ⟨m, nn, vs⟩ := x.env
  refine ⟨fun b o e => hk b o (fun q => by rw [q, hB] at e; cases e) (x.base b o e), funFrames_mono (fun b hb o e d => ⟨o, hk b o (fun q => ?_) e, d⟩) x.ff, fun b hb => ?_, fun y dy e => ?_, fun c hc => ?_, m, ?_, fun i y v e1 e2 => (vs i y v e1 e2).keep (fun b o ws c e d => ⟨o, hk b o (fun q => ?_) e, rfl, rfl⟩) fun c v z => ?_⟩
  · rcases frs_stack P hb with z | z
    · exact hL (q ▸ z)
    · exact hf (q ▸ z)
  · obtain ⟨o, es, c, e, d⟩ := x.fd b hb
    refine ⟨o, es, c, hk _ _ (fun q => ?_) e, d⟩
    rcases frs_stack P hb with z | z
    · exact hL (q ▸ z)
    · exact hf (q ▸ z)
  · obtain ⟨es, c, h1, h2, h3⟩ := x.me y dy e
    exact ⟨es, c, hk _ _ (Ne.symm (ho y dy e).1) h1, hk _ _ (Ne.symm (ho y dy e).2) h2, h3⟩
  · obtain ⟨v, o, e, d⟩ := x.cells c hc
    exact ⟨v, o, hk _ _ (fun q => by rw [q] at e; exact (hd o e).2 _ d) e, d⟩
  · obtain ⟨o, es, c, e, d, r⟩ := nn
    exact ⟨o, es, c, hk _ _ (Ne.symm hL) e, d, r⟩
  · rw [q] at e; exact (hd o e).1 _ _ d
  · obtain ⟨o, e, d⟩ := z
    exact ⟨o, hk _ _ (fun q => by rw [q] at e; exact (hd o e).2 _ d) e, d⟩
theorem At.up (P : PlOk C p nm sc) {g h : Heap} {ρ : Loc} {σ : St} (x : At C p g ρ σ) (hk : ∀ b o, g.get? b = some o → h.get? b = some o) : At C p h ρ σ := x.kept P (.of_all hk)
theorem At.hide (P : PlOk C p nm sc) {h : Heap} {ρ : Loc} {σ : St} {a : Addr} (x : At C p h ρ σ) (hL : a ≠ p.L) (hf : a ∉ frs p.outer) (ho : ∀ x dx, C.ob = some (x, dx) → a ≠ x ∧ a ≠ dx) (hB : C.B.get? a = none)
    (hd : ∀ o, h.get? a = some o → (∀ vs n, o.data ≠ .seq vs n) ∧ (∀ v, o.data ≠ .cell v)) : At C p (h.hide a) ρ σ :=
  x.but P (fun b o e q => (Heap.hide_ne h e).trans q) hL hf ho hB hd
theorem Ext.but (P : PlOk C p nm sc) {h₀ h h' : Heap} {a : Addr} (x : Ext C p h₀ h) (hk : ∀ b o, b ≠ a → h.get? b = some o → h'.get? b = some o) (hn : h₀.get? a = none) : Ext C p h₀ h' :=
  ⟨fun b o e n1 n0 n2 n3 => hk b o (fun q => by rw [q, hn] at e; cases e) (x.keep b o e n1 n0 n2 n3), fun b hb o e => let ⟨sl, q⟩ := x.soft b hb o e; ⟨sl, hk b _ (fun q' => by rw [q', hn] at e; cases e) q⟩⟩
theorem all2_chars (C : Cx) (h : Heap) (z : T) : ∀ (i : Nat) (v : Value) (y : V), (∃ (c : Nat) (u : Tok), (sT z).cps[i]? = some c ∧ v = .str ⟨#[c]⟩ u) → (z.map fun c => V.str [c])[i]? = some y → R C h v y := by
  rintro i v y ⟨c, u, hc, rfl⟩ hy
  have e1 : z[i]? = some c := by simpa [sT] using hc
  rw [List.getElem?_map, e1] at hy
  cases hy
  exact ⟨u, rfl⟩
theorem iter_ok {A : Around} {s : Shared} {u : Value} {x : V} {l : List V} {E : Value → Shared → Prop} {Q : Value → Shared → Prop} (hh : A.handled = none) (r : R C s.heap u x) (hl : itemsRaw x = some l)
    (k : ∀ (o : Obj) (fp : List Addr) (Pz : Nat → Value → Prop) (St : Nat → Heap → Prop), (∃ vs, o.data = .fields vs) → (∀ b ∈ fp, b = s.heap.objs.size ∨ ∃ o vs n, s.heap.get? b = some o ∧ o.data = .seq vs n) →
      Walks PW C.w A s.heap.objs.size fp [s.heap.objs.size] l.length Pz St → St 0 (s.heap.push o) → (∀ i h, St i h → ∃ o vs, h.get? s.heap.objs.size = some o ∧ o.data = .fields vs) →
      (∀ i v h y, Pz i v → l[i]? = some y → SeqKeep s.heap h → R C h v y) → Q (.ref s.heap.objs.size) { s with heap := s.heap.push o }) : wpAny (model PW C.w) A (pyIter u) Q E s := by
  have listCase : ∀ {α : Type} {P : Heap → Value → α → Prop} {ls : List α} {g : α → V}, (∀ h h' u a, SeqKeep h h' → P h u a → P h' u a) → (∀ h u a, P h u a → R C h u (g a)) → lstV (P s.heap) s.heap u ls → l = ls.map g → wpAny (model PW C.w) A (pyIter u) Q E s := by
    intro α P ls g hk hg hr hl
    obtain ⟨a, us, rfl, i, rr⟩ := hr
    have hlt : a < s.heap.objs.size := by obtain ⟨_, e, _⟩ := i; exact Heap.lt_size e
    refine wpAny_pyIter_list i ?_
    have W := Walks.list (prog := PW) (w := C.w) hh s.heap.objs.size a (Nat.ne_of_lt hlt) us.toArray
    have e1 : us.toArray.size = l.length := by rw [List.size_toArray, rr.length, hl, List.length_map]
    rw [e1] at W
    refine k _ _ _ _ ⟨_, rfl⟩ (fun b hb => ?_) W ⟨⟨_, Heap.get?_push_size _ rfl, rfl, rfl⟩, i.push _⟩ (fun i h st => by obtain ⟨o, q1, _, q2⟩ := st.1; exact ⟨o, _, q1, q2⟩) fun i v h y hv hy ks => ?_
    · rcases List.mem_cons.mp hb with rfl | hb
      · exact .inl rfl
      · rw [List.mem_singleton.mp hb]
        obtain ⟨o, e, _, n, d⟩ := i
        exact .inr ⟨o, _, n, e, d⟩
    · rw [hl, List.getElem?_map] at hy
      obtain ⟨a', ha, rfl⟩ := Option.map_eq_some_iff.mp hy
      obtain ⟨v', hv', hp⟩ := rr.get ha
      have : v' = v := by
        have : us[i]? = some v := by simpa using hv
        rw [hv'] at this; cases this; rfl
      subst this
      exact hg _ _ _ (hk _ _ _ _ ks hp)
  cases x <;> simp [itemsRaw] at hl
  case str z =>
    obtain ⟨t, rfl⟩ := r
    have e1 : (sT z).cps.size = l.length := by rw [← hl]; simp [sT]
    cases ha : (sT z).cps.all (· < 128)
    · refine wpAny_pyIter_wide ha ?_
      have W := Walks.strWide (prog := PW) (w := C.w) hh s.heap.objs.size (sT z) t
      rw [e1] at W
      refine k _ _ _ _ ⟨_, rfl⟩ (fun b hb => .inl (List.mem_singleton.mp hb)) W ⟨_, Heap.get?_push_size _ rfl, rfl, rfl⟩ (fun i h st => by obtain ⟨o, q1, _, q2⟩ := st; exact ⟨o, _, q1, q2⟩) fun i v h y hv hy _ => ?_
      rw [← hl] at hy
      exact all2_chars C h z i v y hv hy
    · refine wpAny_pyIter_ascii ha ?_
      have W := Walks.strAscii (prog := PW) (w := C.w) hh s.heap.objs.size (sT z) t
      rw [e1] at W
      refine k _ _ _ _ ⟨_, rfl⟩ (fun b hb => .inl (List.mem_singleton.mp hb)) W ⟨_, Heap.get?_push_size _ rfl, rfl, rfl⟩ (fun i h st => by obtain ⟨o, q1, _, q2⟩ := st; exact ⟨o, _, q1, q2⟩) fun i v h y hv hy _ => ?_
      rw [← hl] at hy
      exact all2_chars C h z i v y hv hy
  case «ints» ls => exact listCase (P := fun _ => isInt) (g := V.int) (fun _ _ _ _ _ x => x) (fun _ _ _ x => x) r hl.symm
  case «strs» ls => exact listCase (P := fun _ => isStr) (g := V.str) (fun _ _ _ _ _ x => x) (fun _ _ _ x => x) r hl.symm
  case «strss» ls => exact listCase (P := fun h => lstV isStr h) (g := V.strs) (fun _ _ _ _ ks x => lstV.keep ks (fun _ _ z => z) x) (fun _ _ _ x => x) r hl.symm
  case «intss» ls =>
    obtain ⟨a, us, rfl, i, rr⟩ := r
    have hlt : a < s.heap.objs.size := by obtain ⟨_, e, _⟩ := i; exact Heap.lt_size e
    refine wpAny_pyIter_tuple i ?_
    have W := Walks.tuple (prog := PW) (w := C.w) hh s.heap.objs.size a (Nat.ne_of_lt hlt) us.toArray
    have e1 : us.toArray.size = l.length := by rw [List.size_toArray, rr.length, ← hl, List.length_map]
    rw [e1] at W
    refine k _ _ _ _ ⟨_, rfl⟩ (fun b hb => ?_) W ⟨⟨_, Heap.get?_push_size _ rfl, rfl, rfl⟩, Heap.IsTuple.push i _⟩ (fun i h st => by obtain ⟨o, q1, _, q2⟩ := st.1; exact ⟨o, _, q1, q2⟩) fun i v h y hv hy ks => ?_
    · rcases List.mem_cons.mp hb with rfl | hb
      · exact .inl rfl
      · rw [List.mem_singleton.mp hb]
        obtain ⟨o, e, _, n, d⟩ := i
        exact .inr ⟨o, _, n, e, d⟩
    · rw [← hl, List.getElem?_map] at hy
      obtain ⟨a', ha, rfl⟩ := Option.map_eq_some_iff.mp hy
      obtain ⟨v', hv', hp⟩ := rr.get ha
      have : v' = v := by
        have : us[i]? = some v := by simpa using hv
        rw [hv'] at this; cases this; rfl
      subst this
      exact lstV.keep ks (fun _ _ z => z) hp
end
theorem foldedSet {e : Expr} (h : notSet e = true) (env : Env) (x : Value) : foldedSetIterable e env x = pure x := by
  cases e <;> first | rfl | exact nf h | cases h
noncomputable def closeL (env : Env) : List (Str × NameKind) → List (Str × Addr) → List (Str × Addr)
  | [], acc => acc
  | (n, k) :: r, acc => closeL env r (if k == .free then (n, (env.cells.lookup n).getD 0) :: acc else acc)
theorem closure_eq {env : Env} : ∀ {l : List (Str × NameKind)}, (∀ y ∈ l, y.2 = .free → ∃ c, env.cells.lookup y.1 = some c) → ∀ acc, (forIn l acc fun (x : Str × NameKind) (r : List (Str × Addr)) => (do
      if (x.2 == .free) = true then do let a ← cellOf env x.1; pure (ForInStep.yield ((x.1, a) :: r)) else pure (ForInStep.yield r) : Sem (ForInStep (List (Str × Addr))))) = pure (closeL env l acc)
  | [], _, acc => by simp [closeL]
  | (n, k) :: r, h, acc => by
    rw [List.forIn_cons]
    by_cases hk : k = .free
    · subst hk
      obtain ⟨c, hc⟩ := h (n, .free) (.head _) rfl
      have e : cellOf env n = pure c := by unfold cellOf; rw [show env.cells.lookup n = some c from hc]
      simp only [beq_self_eq_true, if_true, e, pure_bind]
      rw [closure_eq fun y hy => h y (.tail _ hy)]
      rw [closeL, show env.cells.lookup n = some c from hc]; rfl
    · have hb : (k == NameKind.free) = false := by simpa using hk
      simp only [hb, Bool.false_eq_true, if_false, pure_bind]
      rw [closure_eq fun y hy => h y (.tail _ hy)]
      rw [closeL, hb]; rfl
theorem closeL_lookup {env : Env} {z : Str} : ∀ {l : List (Str × NameKind)} {acc : List (Str × Addr)}, (∀ q ∈ acc, q.2 = (env.cells.lookup q.1).getD 0) → ((z, NameKind.free) ∈ l ∨ ∃ c, (z, c) ∈ acc) → (closeL env l acc).lookup z = some ((env.cells.lookup z).getD 0)
  | [], acc, ha, h => by
    rcases h with h | ⟨c, h⟩
    · cases h
    · induction acc with
      | nil => cases h
      | cons q r ih =>
        obtain ⟨a, b⟩ := q
        rw [closeL, List.lookup_cons]
        by_cases e : z = a
        · subst e; simp; exact ha _ (.head _)
        · have e' : (z == a) = false := by simpa using e
          rw [e']
          refine ih (fun q hq => ha q (.tail _ hq)) ?_
          rcases List.mem_cons.mp h with h | h
          · cases h; exact absurd rfl e
          · exact h
  | (n, k) :: r, acc, ha, h => by
    rw [closeL]
    refine closeL_lookup (fun q hq => ?_) ?_
    · split at hq
      · rcases List.mem_cons.mp hq with rfl | hq
        · rfl
        · exact ha q hq
      · exact ha q hq
    · rcases h with h | ⟨c, h⟩
      · rcases List.mem_cons.mp h with h | h
        · cases h; exact .inr ⟨_, by simp; exact .inl rfl⟩
        · exact .inl h
      · refine .inr ⟨c, ?_⟩
        split
        · exact .tail _ h
        · exact h
structure CompOk (sc sc' : Scope) (x : Str) : Prop where
  nocell : ∀ y ∈ sc'.names, y.2 ≠ .cell
  kind : sc'.kind = .function
  locs : ∀ y ∈ sc'.names, y.2 = .local → sc'.names.lookup y.1 = some .local
  it : sc'.names.lookup x = some .local
  free : ∀ y ∈ sc'.names, y.2 = .free → sc'.names.lookup y.1 = some .free ∧ (sc.names.lookup y.1 = some .free ∨ sc.names.lookup y.1 = some .cell)
theorem compOk_of {sc sc' : Scope} {x : Str} (h : compOk sc sc' x = true) : CompOk sc sc' x := by
  unfold compOk at h
  simp only [Bool.and_eq_true, List.all_eq_true, Bool.not_eq_true', Bool.or_eq_true, beq_iff_eq, beq_eq_false_iff_ne] at h
  obtain ⟨⟨⟨⟨h1, h2⟩, h3⟩, h4⟩, h5⟩ := h
  refine ⟨h1, h2, fun y hy e => ?_, h4, fun y hy e => ?_⟩
  · rcases h3 y hy with z | z
    · exact absurd e (by simpa using z)
    · exact z
  · rcases h5 y hy with z | z
    · exact absurd e (by simpa using z)
    · exact z
theorem lookup_relabel {env : Env} {x : Str} : ∀ {l : List (Str × NameKind)}, (l.map fun (n, k) => if (k == NameKind.free && env.scope.kind == .function && env.kindOf n == some .cell) then (n, NameKind.cell) else (n, k)).lookup x =
    (l.lookup x).map fun k => if (k == NameKind.free && env.scope.kind == .function && env.kindOf x == some .cell) then NameKind.cell else k
  | [] => rfl
  | (n, k) :: r => by
    rw [List.map_cons]
    by_cases e : x = n
    · subst e
      dsimp only
      split <;> simp_all
    · have e' : (x == n) = false := by simpa using e
      have ih := @lookup_relabel env x r
      dsimp only
      split <;> (rw [List.lookup_cons, List.lookup_cons, e']; exact ih)
noncomputable def compPl (p : Pl) (sc' : Scope) (cl : List (Str × Addr)) (D : Addr) : Pl := ⟨p.nm, compEnvC sc' cl D p.env, p.stack, D, p.stack, []⟩
section
variable {C : Cx} {nm : List Str} {sc sc' : Scope} {n : Nat} {p : Pl} {x : Str}
theorem lookup_of_mem_free (hc : CompOk sc sc' x) {y : Str} (h : (y, NameKind.free) ∈ sc'.names) : sc'.names.lookup y = some .free := (hc.free _ h rfl).1
theorem closure_ok (P : PlOk C p nm sc) (hc : CompOk sc sc' x) : ∃ cl, closureFor sc' p.env = pure cl ∧ ∀ y, sc'.names.lookup y = some .free → ∃ c, p.env.cells.lookup y = some c ∧ cl.lookup y = some c := by
  have hcell : ∀ y ∈ sc'.names, y.2 = .free → ∃ c, p.env.cells.lookup y.1 = some c := fun y hy e => by
    rcases (hc.free y hy e).2 with z | z
    · exact P.cells _ _ z (.inl rfl)
    · exact P.cells _ _ z (.inr rfl)
  refine ⟨closeL p.env sc'.names [], ?_, fun y hy => ?_⟩
  · unfold closureFor
    have e := closure_eq hcell []
    show (forIn sc'.names [] (fun (x : Str × NameKind) (r : List (Str × Addr)) => (do
      if (x.2 == .free) = true then do let a ← cellOf p.env x.1; pure (ForInStep.yield ((x.1, a) :: r)) else pure (ForInStep.yield r) : Sem (ForInStep (List (Str × Addr))))) >>= fun cs => pure cs) = _
    rw [e]; rfl
  · have hm := mem_of_lookup hy
    obtain ⟨c, e⟩ := hcell _ hm rfl
    refine ⟨c, e, ?_⟩
    rw [closeL_lookup (fun q hq => by cases hq) (.inl hm)]
    show some ((p.env.cells.lookup y).getD 0) = _
    rw [show p.env.cells.lookup y = some c from e]; rfl
theorem compPl_ok (P : PlOk C p nm sc) (hc : CompOk sc sc' x) {cl : List (Str × Addr)} (hcl : ∀ y, sc'.names.lookup y = some .free → ∃ c, p.env.cells.lookup y = some c ∧ cl.lookup y = some c) {h : Heap} {ρ : Loc} {σ : St} (a : At C p h ρ σ) {D : Addr} (hD : h.objs.size ≤ D) :
    PlOk C (compPl p sc' cl D) nm sc' := by
  have hL : p.L < h.objs.size := by obtain ⟨m, o, es, k, e, _⟩ := a.ns; exact Heap.lt_size e
  have hne : ∀ b, b < h.objs.size → b ≠ D := fun b hb q => Nat.lt_irrefl _ (Nat.lt_of_lt_of_le hb (q ▸ hD))
  have hfr : ∀ b ∈ frs p.stack, b < h.objs.size := fun b hb => by obtain ⟨_, o, e, _⟩ := funFrames_at a.ff b hb; exact Heap.lt_size e
  have hk : ∀ y, (compPl p sc' cl D).env.kindOf y = (sc'.names.lookup y).map fun k => if (k == NameKind.free && p.env.scope.kind == .function && p.env.kindOf y == some .cell) then NameKind.cell else k := fun y => lookup_relabel
  refine ⟨P.top, P.nm, P.uniq, fun y k e => ⟨fun nf => ?_, fun ef => ?_⟩, fun y k e ef => ?_, hc.kind, rfl, .inl rfl, P.globals, P.builtins, ?_, fun y dy e => ?_, fun hm => ?_, fun _ q => (nomatch q)⟩
  · rw [hk, e]
    simp [nf]
  · subst ef
    rw [hk, e]
    simp only [Option.map_some, beq_self_eq_true, Bool.true_and]
    split
    · exact .inr rfl
    · exact .inl rfl
  · rcases ef with rfl | rfl
    · obtain ⟨c, _, h2⟩ := hcl y e; exact ⟨c, h2⟩
    · exact absurd rfl (hc.nocell _ (mem_of_lookup e))
  · exact Nat.le_trans P.above (Nat.le_trans (Nat.le_of_lt hL) hD)
  · obtain ⟨z1, z2, z3, z4, z5, z6, z7⟩ := P.ob y dy e
    obtain ⟨es, k, h1, h2, _⟩ := a.me y dy e
    refine ⟨z1, hne _ (Heap.lt_size h1), hne _ (Heap.lt_size h2), fun q => ?_, fun q => ?_, z6, z7⟩
    · rcases frs_stack P q with q | q
      · exact z2 q
      · exact z4 q
    · rcases frs_stack P q with q | q
      · exact z3 q
      · exact z5 q
  · exact hne _ (hfr _ hm) rfl
theorem visOf_mem {nm : List Str} {j : Nat} (h : (visOf nm sc').contains j = true) : ∃ y, (y, NameKind.free) ∈ sc'.names ∧ idx nm y = some j := by
  rw [List.contains_iff_mem] at h
  obtain ⟨⟨y, k⟩, h1, h2⟩ := List.mem_filterMap.mp h
  dsimp only at h2
  split at h2
  · rename_i e
    have : k = .free := by simpa using e
    subst this
    exact ⟨y, h1, h2⟩
  · cases h2
theorem seen_get {vis : List Nat} {ρ : Loc} {j : Nat} {v : V} (h : (seen vis ρ).getD j Option.none = some v) : vis.contains j = true ∧ ρ.getD j Option.none = some v := by
  unfold seen at h
  rw [List.getD_eq_getElem?_getD, List.getElem?_mapIdx] at h
  cases e : ρ[j]? with
  | none => rw [e] at h; simp at h
  | some w =>
    rw [e] at h
    simp at h
    obtain ⟨c, rfl⟩ := h
    exact ⟨by simpa using c, by rw [List.getD_eq_getElem?_getD, e]; rfl⟩
theorem comp_at (P : PlOk C p nm sc) (hc : CompOk sc sc' x) {cl : List (Str × Addr)} (hcl : ∀ y, sc'.names.lookup y = some .free → ∃ c, p.env.cells.lookup y = some c ∧ cl.lookup y = some c) {h : Heap} {ρ : Loc} {σ : St} (a : At C p h ρ σ) {D : Addr}
    {m' : Str → Option Value} (hn : h.Ns D m') {i : Nat} (hi : idx nm x = some i) {v : Value} {y : V} (hv : m' x = some v) (r : R C h v y) :
    At C (compPl p sc' cl D) h ((seen (visOf nm sc') ρ).set i (some y)) σ := by
  obtain ⟨m, nn, vs⟩ := a.env
  have hk : ∀ y, (compPl p sc' cl D).env.kindOf y = (sc'.names.lookup y).map fun k => if (k == NameKind.free && p.env.scope.kind == .function && p.env.kindOf y == some .cell) then NameKind.cell else k := fun y => lookup_relabel
  refine ⟨a.base, a.ff, a.fd, a.me, fun _ q => (nomatch q), m', hn, fun j z w e1 e2 => ?_⟩
  have e1' : nm[j]? = some z := P.nm ▸ e1
  by_cases q : j = i
  · subst q
    have : x = z := by
      have := idx_get hi
      rw [e1'] at this
      exact (Option.some.inj this).symm
    subst this
    have e3 : w = y := by
      rw [List.getD_eq_getElem?_getD, List.getElem?_set] at e2
      simp at e2
      split at e2
      · simpa using e2.symm
      · simp at e2
    subst e3
    refine ⟨v, r, .inl ⟨?_, hv⟩⟩
    rw [hk, hc.it]; rfl
  · have e3 : (seen (visOf nm sc') ρ).getD j Option.none = some w := by
      rw [List.getD_eq_getElem?_getD, List.getElem?_set_ne (Ne.symm q)] at e2
      rw [List.getD_eq_getElem?_getD]; exact e2
    obtain ⟨hvis, hρ⟩ := seen_get e3
    obtain ⟨y', hm, hy'⟩ := visOf_mem hvis
    have : y' = z := by
      have := idx_get hy'
      rw [e1'] at this
      exact (Option.some.inj this).symm
    subst this
    obtain ⟨hf, hfc⟩ := hc.free _ hm rfl
    obtain ⟨u, ru, hu⟩ := vs j y' w e1 hρ
    have hkk : p.env.kindOf y' = some .free ∨ p.env.kindOf y' = some .cell := by
      rcases hfc with z | z
      · exact (P.names _ _ z).2 rfl
      · exact .inr ((P.names _ _ z).1 (by decide))
    rcases hu with ⟨z, _⟩ | ⟨_, c, hc1, hc2⟩
    · rcases hkk with q | q <;> (rw [q] at z; cases z)
    · obtain ⟨c', d1, d2⟩ := hcl y' hf
      rw [hc1] at d1; cases d1
      refine ⟨u, ru, .inr ⟨?_, c, d2, hc2⟩⟩
      rw [hk, hf]
      simp only [Option.map_some, beq_self_eq_true, Bool.true_and]
      split
      · exact .inl rfl
      · exact .inr rfl
end
noncomputable def runT (g : V → St → Option (Option T × St)) : List V → St → Option (List T × St)
  | [], σ => some ([], σ)
  | y :: r, σ => (g y σ).bind fun (o, σ) => (runT g r σ).bind fun (ts, σ) => some (o.toList ++ ts, σ)
noncomputable def TurnOk (C : Cx) (nm : List Str) (sc' : Scope) (n : Nat) (ifs : List Expr) (elt : Expr) (g : Loc → V → St → Option (Option T × St)) (i : Nat) : Prop :=
  ∀ (p : Pl) (A : Around) (s : Shared) (ρ : Loc) (σ : St) (y : V) (o : Option T) (σ' : St), PlOk C p nm sc' → Rm p A n → At C p s.heap ρ σ → (i < ρ.length → ρ.getD i Option.none = some y) → g ρ y σ = some (o, σ') →
    wpAny (model PW C.w) A (forIn ifs true fun c r => if r = true then do let ok ← isTrue c p.env (eval c p.env); pure (ForInStep.yield ok) else pure (ForInStep.yield r)) (fun ok s₃ => match o with
      | none => ok = false ∧ Went C p s s₃ ρ σ'
      | some t => ok = true ∧ wpAny (model PW C.w) A (eval elt p.env) (fun u s₄ => isStr u t ∧ Went C p s s₄ ρ σ') No s₃) No s
noncomputable abbrev lstO (ys : List Value) : Obj := { cls := .type "list", data := .seq ys.toArray ys.length }
theorem lstO_snoc (ys : List Value) (y : Value) : ({ cls := .type "list", data := .seq (ys.toArray.push y) (ys.length + 1) } : Obj) = lstO (ys ++ [y]) := by
  show ({ cls := .type "list", data := .seq (ys.toArray.push y) (ys.length + 1) } : Obj) = { cls := .type "list", data := .seq (ys ++ [y]).toArray (ys ++ [y]).length }
  rw [List.length_append, List.length_singleton, List.push_toArray]
theorem hide_mono {h h' : Heap} {D a : Addr} (hk : ∀ b o, b ≠ a → h.get? b = some o → h'.get? b = some o) : ∀ b o, b ≠ a → (h.hide D).get? b = some o → (h'.hide D).get? b = some o := fun b o hb e => by
  by_cases q : b = D
  · rw [q, Heap.hide_self] at e; cases e
  · exact (Heap.hide_ne h' q).trans (hk b o hb (Heap.of_hide e))
theorem hide_drop {h h' : Heap} {D : Addr} (hk : ∀ b o, b ≠ D → h.get? b = some o → h'.get? b = some o) : ∀ b o, (h.hide D).get? b = some o → (h'.hide D).get? b = some o := fun b o e => by
  by_cases q : b = D
  · rw [q, Heap.hide_self] at e; cases e
  · exact (Heap.hide_ne h' q).trans (hk b o q (Heap.of_hide e))
section
variable {C : Cx} {nm : List Str} {sc sc' : Scope} {n : Nat} {p : Pl} {x : Str}
structure NewAt (C : Cx) (p : Pl) (D : Addr) : Prop where
  own : D ≠ p.L
  outer : D ∉ frs p.outer
  stack : D ∉ frs p.stack
  ob : ∀ x dx, C.ob = some (x, dx) → D ≠ x ∧ D ≠ dx
  base : C.B.get? D = none
theorem newAt (P : PlOk C p nm sc) {h : Heap} {ρ : Loc} {σ : St} (a : At C p h ρ σ) {D : Addr} (hD : h.objs.size ≤ D) : NewAt C p D := by
  have hL : p.L < h.objs.size := by obtain ⟨m, o, es, k, e, _⟩ := a.ns; exact Heap.lt_size e
  have hne : ∀ b, b < h.objs.size → D ≠ b := fun b hb q => Nat.lt_irrefl _ (Nat.lt_of_lt_of_le hb (q ▸ hD))
  have hfr : ∀ b ∈ frs p.stack, b < h.objs.size := fun b hb => by obtain ⟨_, o, e, _⟩ := funFrames_at a.ff b hb; exact Heap.lt_size e
  refine ⟨hne _ hL, fun q => hne _ (hfr _ (outer_stack P q)) rfl, fun q => hne _ (hfr _ q) rfl, fun y dy e => ?_, not_B P (Nat.le_of_lt (Nat.lt_of_lt_of_le hL hD))⟩
  obtain ⟨es, k, h1, h2, _⟩ := a.me y dy e
  exact ⟨hne _ (Heap.lt_size h1), hne _ (Heap.lt_size h2)⟩
theorem exact_of {cl : List (Str × Addr)} {Cd : Addr} {h h' : Heap} {ρ : Loc} {σ : St} (x : Ext C (compPl p sc' cl Cd) h h') (a : At C (compPl p sc' cl Cd) h ρ σ) {b : Addr} {o : Obj} (e : h.get? b = some o) (d : ∀ es k, o.data ≠ .dict es k) : h'.get? b = some o := by
  refine x.keep b o e (fun q => ?_) (fun q => nomatch q) (fun q => ?_) (fun y dy ho q => ?_)
  · obtain ⟨m, o', es, k, e', d', _⟩ := a.ns
    rw [q] at e; rw [e] at e'; cases e'; exact d _ _ d'
  · obtain ⟨o', es, k, e', d'⟩ := a.fd b q
    rw [e] at e'; cases e'; exact d _ _ d'
  · obtain ⟨es, k, _, h2, _⟩ := a.me y dy ho
    rw [q, h2] at e; cases e; exact d _ _ rfl
theorem comp_back (P : PlOk C p nm sc) {cl : List (Str × Addr)} {Cd D : Addr} (nC : NewAt C p Cd) (nD : NewAt C p D) {h h' : Heap} {ρ ρ' ρ'' : Loc} {σ σ₁ σ₂ : St} (a : At C p (h.hide D) ρ σ) (a₀ : At C (compPl p sc' cl Cd) h ρ' σ₁)
    (x : Ext C (compPl p sc' cl Cd) h h') (a' : At C (compPl p sc' cl Cd) h' ρ'' σ₂) : At C p (h'.hide D) ρ σ₂ := by
  obtain ⟨m, nn, vs⟩ := a.env
  refine ⟨fun b o e => ?_, funFrames_mono (fun b hb o e d => ⟨o, ?_, d⟩) a'.ff, fun b hb => ?_, fun y dy e => ?_, fun c hc => ?_, m, ?_, fun i y v e1 e2 => (vs i y v e1 e2).keep (fun b o ws c e d => ?_) fun c v z => ?_⟩
  · exact (Heap.hide_ne h' fun q => by have := nD.base; rw [← q, e] at this; cases this).trans (a'.base b o e)
  · exact (Heap.hide_ne h' fun (q : b = D) => nD.stack (q ▸ hb)).trans e
  · obtain ⟨o, es, k, e, d⟩ := a'.fd b hb
    exact ⟨o, es, k, (Heap.hide_ne h' fun (q : b = D) => nD.stack (q ▸ hb)).trans e, d⟩
  · obtain ⟨es, k, h1, h2, h3⟩ := a'.me y dy e
    exact ⟨es, k, (Heap.hide_ne h' fun q => (nD.ob y dy e).1 q.symm).trans h1, (Heap.hide_ne h' fun q => (nD.ob y dy e).2 q.symm).trans h2, h3⟩
  · obtain ⟨v, o, e, d⟩ := a.cells c hc
    have hb : c ≠ D := fun q => by rw [q, Heap.hide_self] at e; cases e
    exact ⟨v, o, (Heap.hide_ne h' hb).trans (exact_of x a₀ (Heap.of_hide e) fun _ _ q => by rw [d] at q; cases q), d⟩
  · obtain ⟨o, es, k, e, d, r⟩ := nn
    have e' := Heap.of_hide e
    by_cases q : p.L ∈ frs p.stack
    · obtain ⟨sl, e2⟩ := x.soft p.L q o e'
      exact ⟨_, es, k, (Heap.hide_ne h' (Ne.symm nD.own)).trans e2, d, r⟩
    · have e2 := x.keep p.L o e' (Ne.symm nC.own) (fun q => nomatch q) q fun y dy ho => Ne.symm (P.ob y dy ho).2.2.1
      exact ⟨o, es, k, (Heap.hide_ne h' (Ne.symm nD.own)).trans e2, d, r⟩
  · have hb : b ≠ D := fun q => by rw [q, Heap.hide_self] at e; cases e
    exact ⟨o, (Heap.hide_ne h' hb).trans (exact_of x a₀ (Heap.of_hide e) fun _ _ q => by rw [d] at q; cases q), rfl, rfl⟩
  · obtain ⟨o, e, d⟩ := z
    have hb : c ≠ D := fun q => by rw [q, Heap.hide_self] at e; cases e
    exact ⟨o, (Heap.hide_ne h' hb).trans (exact_of x a₀ (Heap.of_hide e) fun _ _ q => by rw [d] at q; cases q), d⟩
theorem ext_comp (P : PlOk C p nm sc) {cl : List (Str × Addr)} {Cd : Addr} {h₀ h h' : Heap} (hn : h₀.get? Cd = none) (x : Ext C p h₀ h) (y : Ext C (compPl p sc' cl Cd) h h') : Ext C p h₀ h' := by
  refine ⟨fun b o e n1 n0 n2 n3 => ?_, fun b hb o e => ?_⟩
  · refine y.keep b o (x.keep b o e n1 n0 n2 n3) (fun q => ?_) (fun q => nomatch q) (fun q => ?_) n3
    · rw [show b = Cd from q, hn] at e; cases e
    · rcases frs_stack P q with q | q
      · exact n1 q
      · exact n2 q
  · obtain ⟨sl, e1⟩ := x.soft b hb o e
    obtain ⟨sl', e2⟩ := y.soft b (outer_stack P hb) _ e1
    exact ⟨sl', e2⟩
structure CompFin (C : Cx) (p : Pl) (s₂ : Shared) (ρ : Loc) (σ' : St) (ts : List T) (D Cd : Addr) (s' : Shared) : Prop where
  at_ : At C p (s'.heap.hide D) ρ σ'
  ext : Ext C p s₂.heap s'.heap
  lst : ∃ us, s'.heap.get? D = some (lstO us) ∧ All2 isStr us ts
  ns : ∃ m', s'.heap.Ns Cd m'
  newD : NewAt C p D
  newC : NewAt C p Cd
  freshD : s₂.heap.get? D = none
  freshC : s₂.heap.get? Cd = none
  ne : Cd ≠ D
  os : s'.os = s₂.os
  gens : s'.gens = s₂.gens
theorem drop_at {α : Type} {l : List α} {i : Nat} {y : α} (hlt : i < l.length) (hy : l[i]? = some y) : l.drop i = y :: l.drop (i + 1) := by
  rw [List.drop_eq_getElem_cons hlt, Option.some.inj ((List.getElem?_eq_getElem hlt).symm.trans hy)]
theorem down {n i : Nat} (h : i < n) : n + 1 - (i + 1) < n + 1 - i := Nat.sub_lt_sub_left (Nat.lt_succ_of_lt h) (Nat.lt_succ_self i)
theorem flds_no {o : Obj} {vs : Array Value} (d : o.data = .fields vs) : (∀ ws c, o.data ≠ .seq ws c) ∧ ∀ v, o.data ≠ .cell v := ⟨fun _ _ q => (nomatch d.symm.trans q), fun _ q => (nomatch d.symm.trans q)⟩
theorem walk_no {I : Addr} {St' : Nat → Heap → Prop} (hI : ∀ i h, St' i h → ∃ o vs, h.get? I = some o ∧ o.data = .fields vs) {k : Nat} {h : Heap} (hst : St' k h) (o : Obj) (e : h.get? I = some o) :
    (∀ ws c, o.data ≠ .seq ws c) ∧ ∀ v, o.data ≠ .cell v := by
  obtain ⟨o', vs, e', d'⟩ := hI _ _ hst
  cases e'.symm.trans e
  exact flds_no d'
theorem walk_frame {A : Around} {I : Addr} {fp : List Addr} {l : Nat} {Pz : Nat → Value → Prop} {St' : Nat → Heap → Prop} (W : Walks PW C.w A I fp [I] l Pz St') {h₀ : Heap} (hfp : ∀ b ∈ fp, b = I ∨ ∃ o vs k, h₀.get? b = some o ∧ o.data = .seq vs k)
    (hI : ∀ i h, St' i h → ∃ o vs, h.get? I = some o ∧ o.data = .fields vs) {k : Nat} {h₂ h₃ : Heap} (sk : SeqKeep h₀ h₂) (hst : St' k h₂) (ex : ∀ b o, h₂.get? b = some o → (∀ es k, o.data ≠ .dict es k) → (∀ v, o.data ≠ .cell v) → h₃.get? b = some o) : St' k h₃ :=
  W.frame _ _ _ hst fun b hb o e => by
    rcases hfp b hb with z | ⟨o', vs, k, z, d⟩
    · obtain ⟨o', vs, e', d'⟩ := hI _ _ hst
      subst z
      cases e'.symm.trans e
      exact ex b _ e (fun _ _ q => nomatch (d'.symm.trans q)) fun _ q => nomatch (d'.symm.trans q)
    · obtain ⟨o'', q1, _, q2⟩ := sk b o' vs k z d
      cases q1.symm.trans e
      have q3 := q2.trans d
      exact ex b _ e (fun _ _ q => nomatch (q3.symm.trans q)) fun _ q => nomatch (q3.symm.trans q)
inductive TurnI (C : Cx) (p : Pl) (G : V → St → Option (Option T × St)) (l : List V) (ts : List T) (s₀ : Shared) (ρ : Loc) (σ' : St) (D Cd : Addr) (St' : Nat → Heap → Prop) (k : Nat) (s' : Shared) : Prop where
  | mk (i' : Nat) (us : List Value) (done : List T) (σi : St) (rest : List T) (m' : Str → Option Value) (hi' : i' ≤ l.length) (hk : k = l.length + 1 - i') (hul : us.length ≤ i') (hrun : runT G (l.drop i') σi = some (rest, σ'))
    (hts : done ++ rest = ts) (hus : All2 isStr us done) (hDs : s'.heap.get? D = some (lstO us)) (hat : At C p (s'.heap.hide D) ρ σi) (hext : Ext C p s₀.heap s'.heap) (hst : St' i' s'.heap) (hns : s'.heap.Ns Cd m') (hos : s'.os = s₀.os) (hgs : s'.gens = s₀.gens)
structure After (C : Cx) (p : Pl) (s₀ : Shared) (ρ : Loc) (σ₁ : St) (D Cd : Addr) (us : List Value) (Q : Heap → Prop) (s' : Shared) : Prop where
  k1 : At C p (s'.heap.hide D) ρ σ₁
  k2 : Ext C p s₀.heap s'.heap
  k3 : s'.heap.get? D = some (lstO us)
  k4 : Q s'.heap
  k5 : ∃ m', s'.heap.Ns Cd m'
  k6 : s'.os = s₀.os
  k7 : s'.gens = s₀.gens
theorem comp_turns {A : Around} {ifs : List Expr} {elt iter : Expr} {px : Pos} {pos : Pos} {g : Loc → V → St → Option (Option T × St)} {i : Nat} (P : PlOk C p nm sc) (hc : CompOk sc sc' x) {cl : List (Str × Addr)}
    (hcl : ∀ y, sc'.names.lookup y = some .free → ∃ c, p.env.cells.lookup y = some c ∧ cl.lookup y = some c) (hi : idx nm x = some i) (T : TurnOk C nm sc' n ifs elt g i)
    {s₀ : Shared} {ρ : Loc} {σ σ' : St} {l : List V} {ts : List Mine.T} (hg : runT (fun y σ => g ((seen (visOf nm sc') ρ).set i (some y)) y σ) l σ = some (ts, σ')) (hlen : l.length ≤ big)
    {I D Cd : Addr} {fp : List Addr} {Pz : Nat → Value → Prop} {St' : Nat → Heap → Prop} (W : Walks PW C.w A I fp [I] l.length Pz St') (hfp : ∀ b ∈ fp, b = I ∨ ∃ o vs k, s₀.heap.get? b = some o ∧ o.data = .seq vs k)
    (hI : ∀ i h, St' i h → ∃ o vs, h.get? I = some o ∧ o.data = .fields vs) (hP : ∀ i v h y, Pz i v → l[i]? = some y → SeqKeep s₀.heap h → R C h v y)
    (hDC : D ≠ Cd) (hIC : I ≠ Cd) (hID : I ≠ D) (nI : NewAt C p I) (nD : NewAt C p D) (nC : NewAt C p Cd) (fD : s₀.heap.get? D = none) (fC : s₀.heap.get? Cd = none) (fI : s₀.heap.get? I = none)
    (P' : PlOk C (compPl p sc' cl Cd) nm sc') (M' : Rm (compPl p sc' cl Cd) A n) (seqK : ∀ {h : Heap} {σ : St}, At C p (h.hide D) ρ σ → Ext C p s₀.heap h → SeqKeep s₀.heap h)
    {h₁ : Heap} (hst₁ : St' 0 h₁) (hacc : h₁.get? D = some (lstO [])) (a₁ : At C p (h₁.hide D) ρ σ) (e₁ : Ext C p s₀.heap h₁) {m₁ : Str → Option Value} (hns₁ : h₁.Ns Cd m₁)
    {RR : Result → Shared → Prop} (fin : ∀ s', CompFin C p s₀ ρ σ' ts D Cd s' → RR (.ok .next) s') {tk : Nat} :
    codeAny (model PW C.w) A (.compLoop (.ListComp elt [⟨.Name x px, iter, ifs, 0⟩] sc' pos) 0 (.ref I) (.ref D) (compEnvC sc' cl Cd p.env)) RR { s₀ with heap := h₁, toks := tk } := by
  refine codeAny_compLoop_tests
    (TurnI C p (fun y σ => g ((seen (visOf nm sc') ρ).set i (some y)) y σ) l ts s₀ ρ σ' D Cd St') ?_ (l.length + 1)
    ⟨0, [], [], σ, ts, _, Nat.zero_le _, rfl, Nat.le_refl _, hg, rfl, .nil, hacc, a₁, e₁, hst₁, hns₁, rfl, rfl⟩
  rintro k s' ⟨i', us, done, σi, rest, m', hi', rfl, hul, hrun, hts, hus, hDs, hat, hext, hst, hns, hos, hgs⟩
  by_cases hlt : i' < l.length
  · obtain ⟨y, hy⟩ : ∃ y, l[i']? = some y := ⟨_, List.getElem?_eq_getElem hlt⟩
    rw [drop_at hlt hy] at hrun
    obtain ⟨⟨o, σ1⟩, hgy, hrun⟩ := Option.bind_eq_some_iff.mp hrun
    obtain ⟨⟨rest', σ2⟩, hrun', hrr⟩ := Option.bind_eq_some_iff.mp hrun
    have hrr' : o.toList ++ rest' = rest ∧ σ2 = σ' := by simpa using hrr
    obtain ⟨hr1, rfl⟩ := hrr'
    refine W.item i' s' _ _ hlt hst fun v h₂ tk₂ hPv hst₂ hk₂ => ?_
    have hk₂' : ∀ b o, b ≠ I → s'.heap.get? b = some o → h₂.get? b = some o := fun b o hb e => hk₂ b o (fun q => hb (List.mem_singleton.mp q)) e
    have hns₂ : h₂.Ns Cd m' := hns.at' fun o e => hk₂' _ o (Ne.symm hIC) e
    refine wpAny_assign_Name (wpAny_storeName_local (lookup_relabel_local hc.it) hns₂ (fun h₃ hn₃ hs₃ => ?_) (by simp [compEnvC, relabel, hc.kind]))
    have hk₃ : ∀ b o, b ≠ Cd → h₂.get? b = some o → h₃.get? b = some o := fun b o hb e => hs₃.extBut b o hb e
    have at₂ : At C p (h₂.hide D) ρ σi := hat.but P (hide_mono hk₂') nI.own nI.outer nI.ob nI.base fun o e => walk_no hI hst o (Heap.of_hide e)
    have at₃ : At C p (h₃.hide D) ρ σi := at₂.but P (hide_mono hk₃) nC.own nC.outer nC.ob nC.base fun o e => by
      obtain ⟨o', es, c, e', d', _⟩ := hns₂
      cases e'.symm.trans (Heap.of_hide e)
      exact ⟨fun _ _ q => (nomatch d'.symm.trans q), fun _ q => (nomatch d'.symm.trans q)⟩
    have at₃u : At C p h₃ ρ σi := at₃.up P fun _ _ => Heap.of_hide
    have ext₃ : Ext C p s₀.heap h₃ := (hext.but P hk₂' fI).but P hk₃ fC
    have hD₃ : h₃.get? D = some (lstO us) := hk₃ _ _ hDC (hk₂' _ _ (Ne.symm hID) hDs)
    have hst₃ : St' (i' + 1) h₃ := W.frame _ _ _ hst₂ fun b hb o e => hk₃ b o (fun q => by
      rcases hfp b hb with z | ⟨o', _, _, z, _⟩
      · exact hIC (z.symm.trans q)
      · rw [q, fC] at z; cases z) e
    have atT : At C (compPl p sc' cl Cd) h₃ ((seen (visOf nm sc') ρ).set i (some y)) σi :=
      comp_at P hc hcl at₃u hn₃ hi (by simp) (hP i' v h₃ y hPv hy (seqK at₃ ext₃))
    refine wpAny_mono (T (compPl p sc' cl Cd) A _ _ σi y o σ1 P' M' atT (fun hlt' => ?_) hgy) (fun ok s₄ h₄ => ?_) fun _ _ z => z.elim
    · have : i < ((seen (visOf nm sc') ρ).set i (some y)).length := hlt'
      rw [List.getD_eq_getElem?_getD, List.getElem?_set_self (by simpa using this)]; rfl
    have after : ∀ s₅ : Shared, Went C (compPl p sc' cl Cd) { s' with heap := h₃, toks := tk₂ + 1 } s₅ ((seen (visOf nm sc') ρ).set i (some y)) σ1 → After C p s₀ ρ σ1 D Cd us (St' (i' + 1)) s₅ := fun s₅ w₅ =>
      ⟨comp_back P nC nD at₃ atT w₅.ext w₅.at_, ext_comp P fC ext₃ w₅.ext, exact_of w₅.ext atT hD₃ (fun _ _ q => nomatch q), walk_frame W hfp hI (seqK at₃ ext₃) hst₃ fun b o e d _ => exact_of w₅.ext atT e d, w₅.at_.ns, w₅.os.trans hos, w₅.gens.trans hgs⟩
    cases o with
    | none =>
      obtain ⟨rfl, w₄⟩ := h₄
      have ⟨k1, k2, k3, k4, ⟨m₄, k5⟩, k6, k7⟩ := after s₄ w₄
      exact ⟨l.length + 1 - (i' + 1), down hlt, ⟨i' + 1, us, done, σ1, rest', m₄, hlt, rfl, Nat.le_succ_of_le hul, hrun', (congrArg (done ++ ·) hr1).trans hts, hus, k3, k1, k2, k4, k5, k6, k7⟩⟩
    | some t =>
      obtain ⟨rfl, h₄⟩ := h₄
      refine wpAny_mono h₄ (fun u s₅ h₅ => ?_) fun _ _ z => z.elim
      obtain ⟨hu, w₅⟩ := h₅
      have ⟨k1, k2, k3, k4, ⟨m₄, k5⟩, k6, k7⟩ := after s₅ w₅
      refine append_at (hsz := by show us.toArray.size ≤ sizeLine; rw [List.size_toArray]; exact Nat.le_trans (Nat.le_trans (Nat.le_trans hul hi') hlen) (by decide)) k3 fun h₆ hs₆ hD₆ => ?_
      have hk₆ : ∀ b o, b ≠ D → s₅.heap.get? b = some o → h₆.get? b = some o := fun b o hb e => hs₆.extBut b o hb e
      refine ⟨l.length + 1 - (i' + 1), down hlt, ⟨i' + 1, us ++ [u], done ++ [t], σ1, rest', m₄, hlt, rfl, by rw [List.length_append]; exact Nat.succ_le_succ hul, hrun', (List.append_assoc ..).trans ((congrArg (done ++ ·) hr1).trans hts), hus.append (.cons hu .nil), hD₆.trans (congrArg some (lstO_snoc us u)), k1.up P (hide_drop hk₆), k2.but P hk₆ fD, ?_, k5.sameBut hs₆ (Ne.symm hDC), k6, k7⟩⟩
      refine W.frame _ _ _ k4 fun b hb o e => hk₆ b o (fun q => ?_) e
      rcases hfp b hb with z | ⟨o', vs, k, z, d⟩
      · exact hID (z.symm.trans q)
      · rw [q, fD] at z; cases z
  · obtain rfl : i' = l.length := Nat.le_antisymm hi' (Nat.not_lt.mp hlt)
    have hrun' : rest = [] ∧ σi = σ' := by
      rw [List.drop_length] at hrun
      cases hrun; exact ⟨rfl, rfl⟩
    obtain ⟨rfl, rfl⟩ := hrun'
    refine W.done s' _ _ hst fun h₂ tk₂ hk₂ => ?_
    have hk₂' : ∀ b o, b ≠ I → s'.heap.get? b = some o → h₂.get? b = some o := fun b o hb e => hk₂ b o (fun q => hb (List.mem_singleton.mp q)) e
    refine fin _ ⟨?_, hext.but P hk₂' fI, ⟨us, hk₂' _ _ (Ne.symm hID) hDs, by rw [← hts]; simpa using hus⟩, ⟨m', hns.at' fun o e => hk₂' _ o (Ne.symm hIC) e⟩, nD, nC, fD, fC, Ne.symm hDC, hos, hgs⟩
    exact hat.but P (hide_mono hk₂') nI.own nI.outer nI.ob nI.base fun o e => walk_no hI hst o (Heap.of_hide e)
theorem comp_mid {A : Around} {ifs : List Expr} {elt iter : Expr} {px : Pos} {pos : Pos} {g : Loc → V → St → Option (Option T × St)} {i : Nat} (P : PlOk C p nm sc) (M : Rm p A n) (hc : CompOk sc sc' x) {cl : List (Str × Addr)}
    (hcl : ∀ y, sc'.names.lookup y = some .free → ∃ c, p.env.cells.lookup y = some c ∧ cl.lookup y = some c) (hi : idx nm x = some i) (T : TurnOk C nm sc' n ifs elt g i)
    {s₀ : Shared} {ρ : Loc} {σ σ' : St} {l : List V} {ts : List Mine.T} (a₀ : At C p s₀.heap ρ σ) (hg : runT (fun y σ => g ((seen (visOf nm sc') ρ).set i (some y)) y σ) l σ = some (ts, σ')) (hlen : l.length ≤ big)
    {I D Cd : Addr} (hI0 : s₀.heap.objs.size = I) (hD : D = I + 1) (hC : Cd = I + 2) {H1 : Heap}
    {fp : List Addr} {Pz : Nat → Value → Prop} {St' : Nat → Heap → Prop} (W : Walks PW C.w A I fp [I] l.length Pz St') (st : St' 0 H1) (hfp : ∀ b ∈ fp, b = I ∨ ∃ o vs k, s₀.heap.get? b = some o ∧ o.data = .seq vs k)
    (hI : ∀ i h, St' i h → ∃ o vs, h.get? I = some o ∧ o.data = .fields vs) (hP : ∀ i v h y, Pz i v → l[i]? = some y → SeqKeep s₀.heap h → R C h v y)
    {h₁ : Heap} (old1 : ∀ b o, s₀.heap.get? b = some o → H1.get? b = some o) (oldH : ∀ b o, H1.get? b = some o → h₁.get? b = some o) (hacc : h₁.get? D = some (lstO [])) {m₁ : Str → Option Value} (hns₁ : h₁.Ns Cd m₁)
    {RR : Result → Shared → Prop} (fin : ∀ s', CompFin C p s₀ ρ σ' ts D Cd s' → RR (.ok .next) s') {tk : Nat} :
    codeAny (model PW C.w) A (.compStart (.ListComp elt [⟨.Name x px, iter, ifs, 0⟩] sc' pos) 0 (.ref I) (.ref D) (compEnvC sc' cl Cd p.env)) RR { s₀ with heap := h₁, toks := tk } := by
  have hID' : I ≤ D := hD ▸ Nat.le_succ I
  have hIC' : I ≤ Cd := hC ▸ Nat.le_add_right I 2
  have hDC : D ≠ Cd := by rw [hD, hC]; exact Nat.ne_of_lt (Nat.lt_succ_self _)
  have hIC : I ≠ Cd := by rw [hC]; exact Nat.ne_of_lt (Nat.lt_add_of_pos_right (by decide))
  have hID : I ≠ D := by rw [hD]; exact Nat.ne_of_lt (Nat.lt_succ_self _)
  have fresh : ∀ b, I ≤ b → s₀.heap.get? b = none := fun b hb => Heap.get?_none_of_le (hI0 ▸ hb)
  have fD := fresh D hID'
  have a₁ : At C p (h₁.hide D) ρ σ := a₀.up P fun b o e => (Heap.hide_ne h₁ (fun q => by rw [q, fD] at e; cases e)).trans (oldH b o (old1 b o e))
  have hst₁ : St' 0 h₁ := W.frame _ _ _ st fun b _ o e => oldH b o e
  have loop := comp_turns (iter := iter) (px := px) (pos := pos) (tk := tk) P hc hcl hi T hg hlen W hfp hI hP hDC hIC hID (newAt P a₀ (Nat.le_of_eq hI0)) (newAt P a₀ (hI0 ▸ hID')) (newAt P a₀ (hI0 ▸ hIC')) fD (fresh _ hIC') (fresh _ (Nat.le_refl _))
    (compPl_ok P hc hcl a₀ (hI0 ▸ hIC')) ⟨M.frames, M.handled, M.depth, M.units⟩ (fun a' e => e.seq a₀ (a'.up P fun _ _ => Heap.of_hide)) hst₁ hacc a₁ ((Kept.of_all fun b o e => oldH b o (old1 b o e)).ext P) hns₁ fin
  exact codeAny_compStart_list loop (W.self 0 _ _ _ hst₁ loop)
theorem comp_loop {A : Around} {ifs : List Expr} {elt iter : Expr} {px : Pos} {pos : Pos} {g : Loc → V → St → Option (Option T × St)} {i : Nat} (P : PlOk C p nm sc) (M : Rm p A n) (hc : CompOk sc sc' x) {cl : List (Str × Addr)}
    (hcl : ∀ y, sc'.names.lookup y = some .free → ∃ c, p.env.cells.lookup y = some c ∧ cl.lookup y = some c) (hi : idx nm x = some i) (T : TurnOk C nm sc' n ifs elt g i)
    {s₀ : Shared} {oI : Obj} {ρ : Loc} {σ σ' : St} {l : List V} {ts : List Mine.T} (a₀ : At C p s₀.heap ρ σ) (hg : runT (fun y σ => g ((seen (visOf nm sc') ρ).set i (some y)) y σ) l σ = some (ts, σ')) (hlen : l.length ≤ big)
    {fp : List Addr} {Pz : Nat → Value → Prop} {St' : Nat → Heap → Prop} (W : Walks PW C.w A s₀.heap.objs.size fp [s₀.heap.objs.size] l.length Pz St') (st : St' 0 (s₀.heap.push oI)) (hfp : ∀ b ∈ fp, b = s₀.heap.objs.size ∨ ∃ o vs k, s₀.heap.get? b = some o ∧ o.data = .seq vs k)
    (hI : ∀ i h, St' i h → ∃ o vs, h.get? s₀.heap.objs.size = some o ∧ o.data = .fields vs) (hP : ∀ i v h y, Pz i v → l[i]? = some y → SeqKeep s₀.heap h → R C h v y)
    {RR : Value → Addr → Result → Shared → Prop} (fin : ∀ D Cd s', CompFin C p s₀ ρ σ' ts D Cd s' → RR (.ref D) Cd (.ok .next) s') :
    wpAny (model PW C.w) A (newList []) (fun acc s₃ => wpAny (model PW C.w) A (newFunctionEnv sc' p.env.globals cl [] p.env.qual none .none (some p.env)) (fun cenv s₄ =>
      codeAny (model PW C.w) A (.compStart (.ListComp elt [⟨.Name x px, iter, ifs, 0⟩] sc' pos) 0 (.ref s₀.heap.objs.size) acc { cenv with scope := relabel sc' p.env }) (RR acc cenv.locals) s₄) No s₃) No { s₀ with heap := s₀.heap.push oI } := by
  refine wpAny_newObj_type (wpAny_newFunctionEnv hc.nocell (by intro y hy; simp at hy) (fun h₁ hns₁ hsb₁ => ?_) hc.kind)
  have hD : (s₀.heap.push oI).objs.size = s₀.heap.objs.size + 1 := Heap.size_push ..
  have hC : ((s₀.heap.push oI).push { cls := .type "list", dict := none, data := .seq ([] : List Value).toArray }).objs.size = s₀.heap.objs.size + 2 := (Heap.size_push ..).trans (congrArg (· + 1) hD)
  have oldP : ∀ b o, ((s₀.heap.push oI).push { cls := .type "list", dict := none, data := .seq ([] : List Value).toArray }).get? b = some o → h₁.get? b = some o := fun b o e => hsb₁.extBut b o (Nat.ne_of_lt (Heap.lt_size e)) (Heap.get?_push_of_some _ e)
  exact comp_mid P M hc hcl hi T a₀ hg hlen rfl hD hC W st hfp hI hP (fun b o e => Heap.get?_push_of_some _ e) (fun b o e => oldP b o (Heap.get?_push_of_some _ e)) (oldP _ _ (Heap.get?_push_size _ rfl)) hns₁ (fin _ _)
end
section
variable {C : Cx} {nm : List Str} {sc sc' : Scope} {n : Nat} {p : Pl} {x : Str}
theorem CompFin.post (P : PlOk C p nm sc) {s₂ s' : Shared} {ρ : Loc} {σ' : St} {ts : List T} {D Cd : Addr} (f : CompFin C p s₂ ρ σ' ts D Cd s') : ∀ h', Heap.SameBut Cd s'.heap h' → Post C p s₂ (.strs ts) ρ σ' (.ref D) { s' with heap := h' } := fun h' hs => by
  obtain ⟨us, k1, k2⟩ := f.lst
  have hk : ∀ b o, b ≠ Cd → s'.heap.get? b = some o → h'.get? b = some o := fun b o hb e => hs.extBut b o hb e
  refine ⟨⟨D, us, rfl, ⟨_, hk _ _ (Ne.symm f.ne) k1, rfl, _, rfl⟩, k2⟩, ?_, f.ext.but P hk f.freshC, f.os, f.gens⟩
  refine At.but P (a := Cd) (h := s'.heap) (f.at_.up P fun _ _ => Heap.of_hide) hk f.newC.own f.newC.outer f.newC.ob f.newC.base fun o e => ?_
  obtain ⟨m', o', es, c, e', d', _⟩ := f.ns
  rw [e] at e'; cases e'
  exact ⟨fun ws c q => (by rw [d'] at q; cases q), fun w q => (by rw [d'] at q; cases q)⟩
theorem items_raw {v : V} {l : List V} (h : itemsOf v = some l) : itemsRaw v = some l ∧ l.length ≤ big := bd (show (itemsRaw v).bind _ = some l from h) fun l' h1 h2 => idt h2 fun hb h2 => Option.some.inj h2 ▸ ⟨h1, hb⟩
theorem ev_comp {iter elt : Expr} {ifs : List Expr} {fit : Loc → St → Option (V × St)} {g : Loc → V → St → Option (Option T × St)} {i : Nat} (hc : CompOk sc sc' x) (hi : idx nm x = some i) (hit : EvOk C nm sc n iter fit) (hset : notSet iter = true) (T : TurnOk C nm sc' n ifs elt g i) (px pos : Pos) :
    EvOk C nm sc n (.ListComp elt [⟨.Name x px, iter, ifs, 0⟩] sc' pos) (fun ρ σ => (fit ρ σ).bind fun (y, σ) => (itemsOf y).bind fun l => (runT (fun y σ => g ((seen (visOf nm sc') ρ).set i (some y)) y σ) l σ).map fun (ts, σ) => (.strs ts, σ)) := by
  intro p A s ρ σ v σ' P M a q
  refine bd2 q fun y σ1 h1 q => bd q fun l h2 q => mdc q fun x h3 e => ?_
  refine s2 (show some (V.strs x.1, x.2) = some (v, σ') from congrArg some e) ?_
  obtain ⟨h4, h5⟩ := items_raw h2
  obtain ⟨cl, hclos, hcl⟩ := closure_ok P hc
  rw [eval_ListComp]
  refine wpAny_comprehension_free (use := none) rfl (foldedSet hset p.env) hclos hc.kind hc.locs (wpAny_mono (hit p A s ρ σ y σ1 P M a h1) (fun u s1 ⟨r1, w1⟩ => ?_) fun _ _ z => z)
  refine iter_ok M.handled r1 h4 fun o fp Pz St ho hfp W st hI hP => ?_
  refine comp_loop P M hc hcl hi T w1.at_ h3 h5 W st hfp hI hP fun D Cd s' f => ?_
  obtain ⟨m', hn⟩ := f.ns
  exact ⟨m', hn, fun h' hs => ⟨(f.post P h' hs).1, w1.trans (f.post P h' hs).2⟩⟩
theorem runT_cons {F : V → St → Option (Option T × St)} {y : V} {r : List V} {σ σ1 σ2 : St} {o : Option T} {ts : List T} (h1 : F y σ = some (o, σ1)) (h2 : runT F r σ1 = some (ts, σ2)) : runT F (y :: r) σ = some (o.toList ++ ts, σ2) := by
  show Option.bind _ _ = _; rw [h1]; exact (congrArg (Option.bind · _) h2).trans rfl
@[elab_as_elim] theorem strs_cons {w : V} {ws : List V} {P : List T → Prop} {ts : List T} (h : strsOf (w :: ws) = some ts) (k : ∀ t ts', w = .str t → strsOf ws = some ts' → P (t :: ts')) : P ts := by
  cases w with
  | str t => exact mdE (show (strsOf ws).map (t :: ·) = some ts from h) fun ts' e => k _ _ rfl e
  | _ => exact nn h
theorem st1 {α : Type} {y : V} {k : T → Option α} {c : α} {Q : Prop} (q : (match y with | .str t => k t | _ => Option.none) = some c) (K : ∀ t, y = .str t → k t = some c → Q) : Q := by
  cases y <;> first | exact nn q | exact K _ rfl q
theorem kp {w y : V} {σ : St} {c : Option T × St} {Q : Prop} (q : (match w, y with | .bool true, .str t => some (some t, σ) | .bool false, _ => some (Option.none, σ) | _, _ => Option.none) = some c) (K : ∀ t, w = .bool true → y = .str t → some (some t, σ) = some c → Q) (K' : w = .bool false → some (Option.none, σ) = some c → Q) : Q := by
  cases w with
  | bool b =>
    cases b with
    | true => cases y <;> first | exact nn q | exact K _ rfl rfl q
    | false => exact K' rfl q
  | _ => exact nn q
theorem runT_each {f : V → St → Option (V × St)} {l : List V} : ∀ {σ σ' : St} {ys : List V} {ts : List T}, evEach f l σ = some (ys, σ') → strsOf ys = some ts →
    runT (fun y σ => (f y σ).bind fun (w, σ) => match w with | .str t => some (some t, σ) | _ => Option.none) l σ = some (ts, σ') := by
  induction l with
  | nil => intro σ σ' ys ts h k; cases h; cases k; rfl
  | cons y r ih =>
    intro σ σ' ys ts h k
    refine bd2 h fun w σ1 h1 h => bd2 h fun ws σ2 h2 h => ?_
    revert k
    refine s2 h fun k => strs_cons k fun t ts' hw k1 => ?_
    exact runT_cons (o := some t) (by rw [h1, hw]; rfl) (ih h2 k1)
theorem runT_keep {f : V → St → Option (V × St)} {l : List V} : ∀ {σ σ' : St} {ys : List V} {ts : List T}, evKeep f l σ = some (ys, σ') → strsOf ys = some ts →
    runT (fun y σ => (f y σ).bind fun (w, σ) => match w, y with | .bool true, .str t => some (some t, σ) | .bool false, _ => some (Option.none, σ) | _, _ => Option.none) l σ = some (ts, σ') := by
  induction l with
  | nil => intro σ σ' ys ts h k; cases h; cases k; rfl
  | cons y r ih =>
    intro σ σ' ys ts h k
    refine bd2 h fun w σ1 h1 h => bx h fun b hw h => bd2 h fun ws σ2 h2 h => ?_
    revert k
    refine s2 h fun k => ?_
    cases b with
    | false => exact runT_cons (o := Option.none) (by rw [h1, hw]; rfl) (ih h2 k)
    | true => exact strs_cons (show strsOf (y :: ws) = some ts from k) fun t ts' hy k1 => runT_cons (o := some t) (by rw [h1, hw, hy]; rfl) (ih h2 k1)
theorem turn_map {elt : Expr} {f : Loc → St → Option (V × St)} (h : EvOk C nm sc' n elt f) (i : Nat) : TurnOk C nm sc' n [] elt (fun ρ _ σ => (f ρ σ).bind fun (w, σ) => match w with | .str t => some (some t, σ) | _ => Option.none) i := by
  intro p A s ρ σ y o σ' P M a _ q
  refine bd2 q fun w σ1 h1 q => st1 q fun t hw q => s2 q ?_
  exact wpAny_tests_nil ⟨rfl, wpAny_mono (h p A s ρ σ _ _ P M a h1) (fun u s1 w1 => ⟨R.of_str hw w1.1, w1.2⟩) fun _ _ z => z⟩
theorem turn_keep {c : Expr} {px : Pos} {f : Loc → St → Option (V × St)} {i : Nat} (h : TrOk C nm sc' n c f) (hi : idx nm x = some i) (hx : okN x = true) :
    TurnOk C nm sc' n [c] (.Name x px) (fun ρ y σ => if ρ.length ≤ i then Option.none else (f ρ σ).bind fun (w, σ) => match w, y with | .bool true, .str t => some (some t, σ) | .bool false, _ => some (Option.none, σ) | _, _ => Option.none) i := by
  intro p A s ρ σ y o σ' P M a hy q
  refine fold fun X hX => ?_
  by_cases hlen : ρ.length ≤ i
  · exact nn ((if_pos hlen).symm.trans q)
  refine hX ?_
  refine bd2 ((if_neg hlen).symm.trans q) fun w σ1 h1 q => kp q (fun t hw hy' q => s2 q ?_) fun hw q => s2 q ?_
  · refine wpAny_tests_one (wpAny_mono (h p A s ρ σ true σ1 P M a (hw ▸ h1)) (fun ok s1 w1 => ?_) fun _ _ z => z)
    rw [w1.1]
    exact ⟨rfl, wpAny_Name (load_var P w1.2.at_ hi hx (hy (Nat.lt_of_not_le hlen)) fun u r => ⟨R.of_str hy' r, w1.2⟩) (okN_1 hx)⟩
  · refine wpAny_tests_one (wpAny_mono (h p A s ρ σ false σ1 P M a (hw ▸ h1)) (fun ok s1 w1 => ?_) fun _ _ z => z)
    rw [w1.1]
    exact ⟨rfl, w1.2⟩
theorem run_bind {γ : Type} {f : Loc → St → Option (V × St)} {ρ : Loc} {σ σ1 : St} {u : V} {l : List V} {g : List V → St → Option γ} {r : γ} (h1 : f ρ σ = some (u, σ1)) (h2 : itemsOf u = some l) (h3 : g l σ1 = some r) : ((f ρ σ).bind fun (y, σ) => (itemsOf y).bind fun l => g l σ) = some r := by
  rw [h1]; show (itemsOf u).bind _ = _; rw [h2]; exact h3
theorem run_bindT {f : Loc → St → Option (V × St)} {F : V → St → Option (Option T × St)} {ρ : Loc} {σ σ1 σ2 : St} {u : V} {l : List V} {ts : List T} (h1 : f ρ σ = some (u, σ1)) (h2 : itemsOf u = some l) (h3 : runT F l σ1 = some (ts, σ2)) : ((f ρ σ).bind fun (y, σ) => (itemsOf y).bind fun l => (runT F l σ).map fun (ts, σ) => (V.strs ts, σ)) = some (.strs ts, σ2) := by
  rw [h1]; show (itemsOf u).bind _ = _; rw [h2]; show Option.map _ (runT F l σ1) = _; rw [h3]; rfl
theorem nlt {i : Nat} {vis : List Nat} {ρ : Loc} {y : V} (h : ¬ ρ.length ≤ i) : ¬ ((seen vis ρ).set i (some y)).length ≤ i := by
  rw [List.length_set]; unfold seen; rw [List.length_mapIdx]; exact h
theorem ev_compM {iter elt : Expr} {fit f : Loc → St → Option (V × St)} {i : Nat} (hc : CompOk sc sc' x) (hi : idx nm x = some i) (hit : EvOk C nm sc n iter fit) (hset : notSet iter = true) (he : EvOk C nm sc' n elt f) (px pos : Pos) :
    EvOk C nm sc n (.ListComp elt [⟨.Name x px, iter, [], 0⟩] sc' pos) (fun ρ σ => (fit ρ σ).bind fun (y, σ) => (itemsOf y).bind fun l => (evEach (fun v σ => f ((seen (visOf nm sc') ρ).set i (some v)) σ) l σ).bind fun (ys, σ) => (strsOf ys).map fun ts => (.strs ts, σ)) := by
  intro p A s ρ σ v σ' P M a q
  refine ev_comp hc hi hit hset (turn_map he i) px pos p A s ρ σ v σ' P M a ?_
  refine bd2 q fun y σ1 h1 q => bd q fun l h2 q => bd2 q fun ys σ2 h3 q => mdc q fun ts h4 e => s2 (congrArg some e) ?_
  exact run_bindT h1 h2 (runT_each h3 h4)
theorem ev_compF {iter c : Expr} {fit f : Loc → St → Option (V × St)} {i : Nat} (hc : CompOk sc sc' x) (hi : idx nm x = some i) (hx : okN x = true) (hit : EvOk C nm sc n iter fit) (hset : notSet iter = true) (he : TrOk C nm sc' n c f) (px px' pos : Pos) :
    EvOk C nm sc n (.ListComp (.Name x px') [⟨.Name x px, iter, [c], 0⟩] sc' pos) (fun ρ σ => if ρ.length ≤ i then Option.none else (fit ρ σ).bind fun (y, σ) => (itemsOf y).bind fun l => (evKeep (fun v σ => f ((seen (visOf nm sc') ρ).set i (some v)) σ) l σ).bind fun (ys, σ) => (strsOf ys).map fun ts => (.strs ts, σ)) := by
  intro p A s ρ σ v σ' P M a q
  refine fold fun X hX => ?_
  by_cases hlen : ρ.length ≤ i
  · exact nn ((if_pos hlen).symm.trans q)
  refine hX ?_
  refine ev_comp hc hi hit hset (turn_keep he hi hx) px pos p A s ρ σ v σ' P M a ?_
  refine bd2 ((if_neg hlen).symm.trans q) fun y σ1 h1 q => bd q fun l h2 q => bd2 q fun ys σ2 h3 q => mdc q fun ts h4 e => s2 (congrArg some e) ?_
  refine run_bindT h1 h2 ?_
  exact Eq.trans (congrArg (fun F => runT F l σ1) (funext fun y => funext fun σ => if_neg (nlt hlen))) (runT_keep h3 h4)
end
section
variable {C : Cx} {nm : List Str} {n : Nat} {Φ : Phi} {Ψ : Psi}
theorem nb {b : Bool} (h : ¬ (!b) = true) : b = true := by cases b <;> simp_all
theorem EvOk.of {sc : Scope} {e : Expr} {f f' : Loc → St → Option (V × St)} (h : EvOk C nm sc n e f) (k : ∀ ρ σ v σ', f' ρ σ = some (v, σ') → f ρ σ = some (v, σ')) : EvOk C nm sc n e f' :=
  fun p A s ρ σ v σ' P M a q => h p A s ρ σ v σ' P M a (k _ _ _ _ q)
set_option backward.match.sparseCases true in
theorem wpAny_And3 {M : Model} {A : Around} {E : Value → Shared → Prop} {s : Shared} {env : Env} {x y z : Expr} {pos : Pos} {Q : Value → Shared → Prop}
    (h : wpAny M A (eval x env) (fun v s₁ => wpAny M A (truthy v) (fun t s₂ => if t then wpAny M A (eval y env) (fun v s₁ => wpAny M A (truthy v) (fun t s₂ => if t then wpAny M A (eval z env) Q E s₂ else Q v s₂) E s₁) E s₂ else Q v s₂) E s₁) E s) :
    wpAny M A (eval (.BoolOp .And [x, y, z] pos) env) Q E s := by
  show wpAny M A (do
    let v ← eval x env
    standAt pos
    let t ← holding [v] (truthy v)
    match BoolOp.And, t with
    | .And, false | .Or, true => pure v
    | _, _ => do
      let v ← eval y env
      standAt pos
      let t ← holding [v] (truthy v)
      match BoolOp.And, t with
      | .And, false | .Or, true => pure v
      | _, _ => boolOp pos .And [eval z env]) Q E s
  refine wpAny_bind (wpAny_mono h (fun v s₁ h₁ => wpAny_bind (wpAny_standAt (wpAny_bind (wpAny_holding (wpAny_mono h₁ (fun t s₂ h₂ => ?_) fun _ _ x => x))))) fun _ _ x => x)
  cases t with
  | false => exact wpAny_pure h₂
  | true =>
    refine wpAny_bind (wpAny_mono h₂ (fun v s₁ h₁ => wpAny_bind (wpAny_standAt (wpAny_bind (wpAny_holding (wpAny_mono h₁ (fun t s₂ h₂ => ?_) fun _ _ x => x))))) fun _ _ x => x)
    cases t with
    | false => exact wpAny_pure h₂
    | true => exact h₂
theorem ev_and3 {sc : Scope} {x y z : Expr} {f g k : Loc → St → Option (V × St)} (hx : EvOk C nm sc n x f) (tx : TrOk C nm sc n x f) (hy : EvOk C nm sc n y g) (ty : TrOk C nm sc n y g) (hz : EvOk C nm sc n z k) (tz : TrOk C nm sc n z k) (pos : Pos) :
    EvOk C nm sc n (.BoolOp .And [x, y, z] pos) (fun ρ σ => (f ρ σ).bind fun (x, σ) => match x with
      | .bool false => some (.bool false, σ)
      | .bool true => (g ρ σ).bind fun (y, σ) => match y with | .bool false => some (.bool false, σ) | .bool true => k ρ σ | _ => Option.none
      | _ => Option.none) ∧
    TrOk C nm sc n (.BoolOp .And [x, y, z] pos) (fun ρ σ => (f ρ σ).bind fun (x, σ) => match x with
      | .bool false => some (.bool false, σ)
      | .bool true => (g ρ σ).bind fun (y, σ) => match y with | .bool false => some (.bool false, σ) | .bool true => k ρ σ | _ => Option.none
      | _ => Option.none) := by
  constructor
  · intro p A s ρ σ v σ' P M a0 h
    refine bd2 h fun w σ1 h1 h => bxA h fun b hv h => ?_
    refine wpAny_And3 (wpAny_mono (hx p A s ρ σ _ σ1 P M a0 h1) (fun u s1 w1 => ?_) fun _ _ z => z)
    rw [R.of_bool hv w1.1]
    refine wpAny_truthy_bool ?_
    cases b
    · exact s2 h ⟨rfl, w1.2⟩
    · refine bd2 h fun w' σ2 h2 h => bxA h fun b hv' h => ?_
      refine wpAny_mono (hy p A s1 ρ σ1 _ _ P M w1.2.at_ h2) (fun u s2' w2 => ?_) fun _ _ z => z
      rw [R.of_bool hv' w2.1]
      refine wpAny_truthy_bool ?_
      cases b
      · exact s2 h ⟨rfl, w1.2.trans w2.2⟩
      · exact wpAny_mono (hz p A s2' ρ σ2 _ _ P M w2.2.at_ h) (fun u s3 w3 => ⟨w3.1, (w1.2.trans w2.2).trans w3.2⟩) fun _ _ z => z
  · intro p A s ρ σ v σ' P M a0 h
    refine bd2 h fun w σ1 h1 h => bxA h fun b hv h => ?_
    refine wpAny_isTrue_BoolOp (wpAny_allTrue_And_cons (wpAny_mono (tx p A s ρ σ _ σ1 P M a0 (hv ▸ h1)) (fun u s1 w1 => ?_) fun _ _ z => z))
    rw [w1.1]
    cases b
    · exact sB h ⟨rfl, w1.2⟩
    · refine bd2 h fun w' σ2 h2 h => bxA h fun b hv' h => ?_
      refine wpAny_allTrue_And_cons (wpAny_mono (ty p A s1 ρ σ1 _ _ P M w1.2.at_ (hv' ▸ h2)) (fun u s2' w2 => ?_) fun _ _ z => z)
      rw [w2.1]
      cases b
      · exact sB h ⟨rfl, w1.2.trans w2.2⟩
      · refine wpAny_allTrue_And_cons (wpAny_mono (tz p A s2' ρ σ2 _ _ P M w2.2.at_ h) (fun u s3 w3 => ?_) fun _ _ z => z)
        cases u
        · exact ⟨w3.1, (w1.2.trans w2.2).trans w3.2⟩
        · exact wpAny_allTrue_And_nil ⟨w3.1, (w1.2.trans w2.2).trans w3.2⟩
theorem me_is {α : Type} {o : Option V} {k : Option α} {c : α} (q : k = some c) : o = some .me → (match o with | some .me => k | _ => Option.none) = some c := by intro h; cases h; exact q
theorem evL3 {fa fb fc : Loc → St → Option (V × St)} {ρ : Loc} {σ σ1 σ2 σ3 : St} {x y z : V} (h : fa ρ σ = some (x, σ1)) (h' : fb ρ σ1 = some (y, σ2)) (h'' : fc ρ σ2 = some (z, σ3)) : evL [fa, fb, fc] ρ σ = some ([x, y, z], σ3) := by
  show Option.bind _ _ = _; rw [h]; exact (congrArg (Option.bind · _) (evL2 h' h'')).trans rfl
theorem rn1 {β : Type} {F : List V × St → Option β} {c : β} {fa : Loc → St → Option (V × St)} {ρ : Loc} {σ σ1 : St} {x : V} (h : fa ρ σ = some (x, σ1)) (q : F ([x], σ1) = some c) : (evL [fa] ρ σ).bind F = some c := by rw [evL1 h]; exact q
theorem rn2 {β : Type} {F : List V × St → Option β} {c : β} {fa fb : Loc → St → Option (V × St)} {ρ : Loc} {σ σ1 σ2 : St} {x y : V} (h : fa ρ σ = some (x, σ1)) (h' : fb ρ σ1 = some (y, σ2)) (q : F ([x, y], σ2) = some c) : (evL [fa, fb] ρ σ).bind F = some c := by rw [evL2 h h']; exact q
theorem rn3 {β : Type} {F : List V × St → Option β} {c : β} {fa fb fc : Loc → St → Option (V × St)} {ρ : Loc} {σ σ1 σ2 σ3 : St} {x y z : V} (h : fa ρ σ = some (x, σ1)) (h' : fb ρ σ1 = some (y, σ2)) (h'' : fc ρ σ2 = some (z, σ3)) (q : F ([x, y, z], σ3) = some c) : (evL [fa, fb, fc] ρ σ).bind F = some c := by rw [evL3 h h' h'']; exact q
theorem ns3 {a b c : Expr} (h : notStar a = true) (h' : notStar b = true) (h'' : notStar c = true) : [a, b, c].all notStar = true := by show (notStar a && [b, c].all notStar) = true; rw [h, ns2 h' h'']; rfl
theorem behind_ok {b : Expr} (h : notSet b = true) (O : CmpOp) : behindInMarks O b = false := by
  cases b <;> first | rfl | exact nf h | cases h
theorem asName_eq {e : Expr} {x : Str} (h : asName e = some x) : ∃ p, e = .Name x p := by
  cases e <;> first | exact nn h | (cases h; exact ⟨_, rfl⟩)
theorem kInt_eq {c : Const} {s : Int} (h : kInt c = some s) : c = .int s := by cases c <;> first | exact nn h | exact congrArg _ (Option.some.inj h)
theorem asInt_eq {e : Expr} {i : Int} (h : asInt e = some i) : ∃ k p, e = .Constant (.int i) k p := by
  obtain ⟨c, hc, hx⟩ := Option.bind_eq_some_iff.mp h
  obtain ⟨k, pos, rfl⟩ := asConst_eq hc
  obtain rfl := kInt_eq hx
  exact ⟨_, _, rfl⟩
theorem two_eq {α : Type} {l : List α} {a : α × α} (h : two l = some a) : l = [a.1, a.2] := by
  match l, h with
  | [_, _], h => cases h; rfl
  | [], h => exact nomatch h
  | [_], h => exact nomatch h
  | _ :: _ :: _ :: _, h => exact nomatch h
theorem isE {α : Type} {l : List α} (h : l.isEmpty = true) : l = [] := by cases l with | nil => rfl | cons => cases h
variable (C nm n Φ Ψ) in
noncomputable abbrev Ok (sc : Scope) (e : Expr) (e' : E) : Prop := EvOk C nm sc n e (fun ρ σ => ev' Φ Ψ e' ρ σ) ∧ TrOk C nm sc n e (fun ρ σ => ev' Φ Ψ e' ρ σ)
theorem both {sc : Scope} {e : Expr} {f : Loc → St → Option (V × St)} (h : EvOk C nm sc n e f)
    (he : ∀ env whole, isTrue e env whole = (do let v ← whole; standAt e.pos; holding [v] (truthy v)) := by intros; rfl) : EvOk C nm sc n e f ∧ TrOk C nm sc n e f := ⟨h, tr_of_ev h he⟩
variable (C nm n Φ Ψ) in
noncomputable def RcOk (r : Scope → Expr → Option E) : Prop := ∀ sc e e', r sc e = some e' → Ok C nm n Φ Ψ sc e e' ∧ notStar e = true ∧ notSet e = true ∧ notSlice e = true
variable {r : Scope → Expr → Option E} {sc : Scope} {e' : E} (R : RcOk C nm n Φ Ψ r)
include R
theorem cUn_ok {o : UnaryOp} {x : Expr} (h : cUn r sc o x = some e') (pos : Pos) : Ok C nm n Φ Ψ sc (.UnaryOp o x pos) e' := by
  cases o with
  | USub => exact bd h fun i hi h => idt h fun _ h => sd h (by obtain ⟨k, p, rfl⟩ := asInt_eq hi; exact both (ev_neg _ _ _))
  | Not => exact md h fun v hv => ev_not (R _ _ _ hv).1.1 (R _ _ _ hv).1.2 _
  | _ => first | exact nn h | exact nf h | exact nomatch h
theorem cCmp_ok {a b : Expr} {o : CmpOp} (h : cCmp r sc a o b = some e') (pos : Pos) : Ok C nm n Φ Ψ sc (.Compare a [o] [b] pos) e' :=
  bd h fun _ ha h => bd h fun _ hb h => idd h (fun ho h => sd h (by
    rw [eq_of_beq ho]
    exact cmp_walk (R _ _ _ ha).1.1 (R _ _ _ hb).1.1 (fun p A s ρ σ x y v u u' P M a hg rx ry => in_ok P a hg rx ry) (behind_ok (R _ _ _ hb).2.2.1 _) _)) fun h => md h fun _ ho =>
    cmp_walk (R _ _ _ ha).1.1 (R _ _ _ hb).1.1 (fun p A s ρ σ x y v u u' P M a hg rx ry => cm_ok P a M.units_ok ho hg rx ry) (behind_ok (R _ _ _ hb).2.2.1 _) _
theorem cBool_ok {o : BoolOp} {l : List Expr} (h : cBool r sc o l = some e') (pos : Pos) : Ok C nm n Φ Ψ sc (.BoolOp o l pos) e' :=
  match l, h with
  | [a, b], h => bd h fun a ha h => bd h fun b hb h => sd h (match o with
    | .And => ev_and2 (R _ _ _ ha).1.1 (R _ _ _ ha).1.2 (R _ _ _ hb).1.1 (R _ _ _ hb).1.2 _
    | .Or => ev_or2 (R _ _ _ ha).1.1 (R _ _ _ ha).1.2 (R _ _ _ hb).1.1 (R _ _ _ hb).1.2 _)
  | [a, b, c], h => match o, h with
    | .And, h => bd h fun a ha h => bd h fun b hb h => bd h fun c hc h => sd h (ev_and3 (R _ _ _ ha).1.1 (R _ _ _ ha).1.2 (R _ _ _ hb).1.1 (R _ _ _ hb).1.2 (R _ _ _ hc).1.1 (R _ _ _ hc).1.2 _)
    | .Or, h => nomatch h
  | [], h => nomatch h
  | [_], h => nomatch h
  | _ :: _ :: _ :: _ :: _, h => nomatch h
theorem cSl_ok {a : Expr} {lo hi st : Option Expr} (h : cSl r sc a lo hi st = some e') (p pos : Pos) : Ok C nm n Φ Ψ sc (.Subscript a (.Slice lo hi st p) pos) e' :=
  match st, h with
  | some _, h => nomatch h
  | none, h => bd h fun a ha h => match lo, hi, h with
    | some l, some hh, h => bd h fun _ hb h => bd h fun _ hc h => sd h (both (ev_cut2 (R _ _ _ ha).1.1 (R _ _ _ hb).1.1 (R _ _ _ hc).1.1 _ _))
    | some l, none, h => bd h fun _ hb h => sd h (both (ev_cutLo (R _ _ _ ha).1.1 (R _ _ _ hb).1.1 _ _))
    | none, some l, h => bd h fun _ hb h => sd h (both (ev_cutHi (R _ _ _ ha).1.1 (R _ _ _ hb).1.1 _ _))
    | none, none, h => nomatch h
theorem cSub_ok {a i : Expr} (h : cSub r sc a i = some e') (pos : Pos) : Ok C nm n Φ Ψ sc (.Subscript a i pos) e' := by
  cases i with
  | Slice lo hi st p => exact cSl_ok R h _ _
  | _ => exact bd h fun _ ha h => bd h fun _ hb h => sd h (both (ev_idx (R _ _ _ ha).1.1 (R _ _ _ hb).1.1 (R _ _ _ hb).2.2.2 _))
variable (hΨ : ∀ x f, fns.lookup x = some f → CallOk C n f (fnG Ψ f)) (hΦ : ∀ a m, mths.lookup a = some m → CallOk C n m (mtG Φ m))
include hΨ in
theorem cFn_ok {x : Str} {as : List Expr} (h : cFn NM nm r sc x as = some e') (np pos : Pos) : Ok C nm n Φ Ψ sc (.Call (.Name x np) as [] pos) e' :=
  idb h fun hx h => by
    replace hx := (Bool.and_eq_true_iff.mp hx).2
    match as, h with
    | [], h => exact md h fun f hf => both ((ev_call (n := n) hx hf (hΨ _ _ hf) (.nil : All2 (EvOk C nm sc n) [] []) rfl np pos).of (f' := fun ρ σ => ev' Φ Ψ (.fn0 f) ρ σ) fun ρ σ v σ' q => q)
    | [a], h =>
      refine bd h fun a ha h => ?_
      split at h
      · rename_i f hf
        exact sd h (both (ev_bi1 hx hf (R _ _ _ ha).1.1 (R _ _ _ ha).2.1 _ _))
      · exact md h fun f hf => both ((ev_call (n := n) hx hf (hΨ _ _ hf) (.cons (R _ _ _ ha).1.1 .nil) (ns1 (R _ _ _ ha).2.1) np pos).of (f' := fun ρ σ => ev' Φ Ψ (.fn1 f a) ρ σ) fun ρ σ v σ' q =>
          bd2 q fun x σ1 h1 q => rn1 h1 q)
    | [a, b], h =>
      exact bd h fun a ha h => bd h fun b hb h => idd h (fun hm h => sd h (by
        have e1 := eq_of_beq hm
        subst e1
        exact both (ev_min hx (R _ _ _ ha).1.1 (R _ _ _ hb).1.1 (R _ _ _ ha).2.1 (R _ _ _ hb).2.1 _ _))) fun h =>
        md h fun f hf => both ((ev_call (n := n) hx hf (hΨ _ _ hf) (.cons (R _ _ _ ha).1.1 (.cons (R _ _ _ hb).1.1 .nil)) (ns2 (R _ _ _ ha).2.1 (R _ _ _ hb).2.1) np pos).of (f' := fun ρ σ => ev' Φ Ψ (.fn2 f a b) ρ σ) fun ρ σ v σ' q =>
          bd2 q fun x σ1 h1 q => bd2 q fun y σ2 h2 q => rn2 h1 h2 q)
    | [a, b, c], h =>
      exact bd h fun a ha h => bd h fun b hb h => bd h fun c hc h =>
        md h fun f hf => both ((ev_call (n := n) hx hf (hΨ _ _ hf) (.cons (R _ _ _ ha).1.1 (.cons (R _ _ _ hb).1.1 (.cons (R _ _ _ hc).1.1 .nil))) (ns3 (R _ _ _ ha).2.1 (R _ _ _ hb).2.1 (R _ _ _ hc).2.1) np pos).of (f' := fun ρ σ => ev' Φ Ψ (.fn3 f a b c) ρ σ) fun ρ σ v σ' q =>
          bd2 q fun x σ1 h1 q => bd2 q fun y σ2 h2 q => bd2 q fun z σ3 h3 q => rn3 h1 h2 h3 q)
    | _ :: _ :: _ :: _ :: _, h => exact nomatch h
include hΦ in
theorem cMeth_ok {x a : Str} {as : List Expr} (h : cMeth NM nm r sc x a as = some e') (np ap pos : Pos) (hl : (ap.endLine == pos.line) = true) : Ok C nm n Φ Ψ sc (.Call (.Attribute (.Name x np) a ap) as [] pos) e' :=
  idb h fun hx h => bd h fun i hi h => bd h fun m hm h => by
    match as, h with
    | [], h => exact sd h (both ((ev_meth (n := n) hi hx hm (hΦ _ _ hm) (.nil : All2 (EvOk C nm sc n) [] []) rfl (by simp) np ap pos hl).of (f' := fun ρ σ => ev' Φ Ψ (.call0 i m) ρ σ) fun ρ σ v σ' q => q))
    | [a], h => exact md h fun a ha => both ((ev_meth (n := n) hi hx hm (hΦ _ _ hm) (.cons (R _ _ _ ha).1.1 .nil) (ns1 (R _ _ _ ha).2.1) (by simp) np ap pos hl).of (f' := fun ρ σ => ev' Φ Ψ (.call1 i m a) ρ σ) fun ρ σ v σ' q =>
        me_of q fun hv q => bd2 q fun x σ1 h1 q => me_is (rn1 h1 q) hv)
    | [a, b, c], h => exact bd h fun a ha h => bd h fun b hb h => bd h fun c hc h => sd h (both ((ev_meth (n := n) hi hx hm (hΦ _ _ hm) (.cons (R _ _ _ ha).1.1 (.cons (R _ _ _ hb).1.1 (.cons (R _ _ _ hc).1.1 .nil))) (ns3 (R _ _ _ ha).2.1 (R _ _ _ hb).2.1 (R _ _ _ hc).2.1) (by simp) np ap pos hl).of (f' := fun ρ σ => ev' Φ Ψ (.call3 i m a b c) ρ σ) fun ρ σ v σ' q =>
        me_of q fun hv q => bd2 q fun x σ1 h1 q => bd2 q fun y σ2 h2 q => bd2 q fun z σ3 h3 q => me_is (rn3 h1 h2 h3 q) hv))
    | [_, _], h => exact nomatch h
    | _ :: _ :: _ :: _ :: _, h => exact nomatch h
theorem cSm_ok {o : Expr} {a : Str} {m : Sm} {as : List Expr} (hm : smOf a = some m) (h : cSm r sc o m as = some e') (ap pos : Pos) (hl : (ap.endLine == pos.line) = true) : Ok C nm n Φ Ψ sc (.Call (.Attribute o a ap) as [] pos) e' :=
  match as, h with
  | [b], h => idb h fun hp h => bd h fun _ ho h => bd h fun _ hb h => sd h (both (ev_sm hm (R _ _ _ ho).1.1 (R _ _ _ hb).1.1 hp (R _ _ _ hb).2.1 _ _ hl))
  | [], h => nomatch h
  | _ :: _ :: _, h => nomatch h
include hΨ hΦ in
theorem cCall_ok {f : Expr} {as : List Expr} {pos : Pos} (h : cCall NM nm r sc f as pos = some e') : Ok C nm n Φ Ψ sc (.Call f as [] pos) e' := by
  cases f with
  | Name x p => exact cFn_ok R hΨ h _ _
  | Attribute o a ap =>
    refine idb h fun hl h => ?_
    split at h
    · rename_i m hm
      exact cSm_ok R hm h _ _ hl
    · refine bd h fun x hx h => ?_
      obtain ⟨p, rfl⟩ := asName_eq hx
      exact cMeth_ok R hΦ h _ _ _ hl
  | _ => first | exact nn h | exact nf h | exact nomatch h
theorem cList_ok {es : List Expr} (h : cList r sc es = some e') (pos : Pos) : Ok C nm n Φ Ψ sc (.List es pos) e' := by
  unfold cList at h
  split at h
  · rename_i l hl
    exact idt h fun hz h => sd h (both (ev_strsD hl hz _))
  · match es, h with
    | [a, b], h => exact bd h fun _ ha h => bd h fun _ hb h => sd h (both (ev_pair (R _ _ _ ha).1.1 (R _ _ _ hb).1.1 (R _ _ _ ha).2.1 (R _ _ _ hb).2.1 _))
    | [], h => exact nomatch h
    | [_], h => exact nomatch h
    | _ :: _ :: _ :: _, h => exact nomatch h
theorem cComp_ok {elt : Expr} {x : Str} {it : Expr} {ifs : List Expr} {sc' : Scope} (h : cComp nm r sc elt x it ifs sc' = some e') (px pos : Pos) : Ok C nm n Φ Ψ sc (.ListComp elt [⟨.Name x px, it, ifs, 0⟩] sc' pos) e' :=
  idb h fun hc h => bd h fun i hi h => bd h fun _ ha h => by
    obtain ⟨hc, hset⟩ := Bool.and_eq_true_iff.mp hc
    match ifs, h with
    | [], h => exact bd h fun _ hb h => sd h (both (ev_compM (compOk_of hc) hi (R _ _ _ ha).1.1 hset (R _ _ _ hb).1.1 _ _))
    | [c], h => exact idt h fun hy h => bd h fun _ hb h => sd h (by
        obtain ⟨hy, hx⟩ := Bool.and_eq_true_iff.mp hy
        obtain ⟨p, rfl⟩ := asName_eq (eq_of_beq hy)
        exact both (ev_compF (compOk_of hc) hi hx (R _ _ _ ha).1.1 hset (R _ _ _ hb).1.2 _ _ _))
    | _ :: _ :: _, h => exact nomatch h
omit R in
theorem cName_ok {x : Str} (h : cName NM nm sc x = some e') (pos : Pos) : Ok C nm n Φ Ψ sc (.Name x pos) e' := by
  unfold cName at h
  split at h
  · rename_i i hi
    exact idt h fun hx h => sd h (both (ev_var hi hx _))
  · exact idt h fun hx h => md h fun v hv => both (ev_gl hx hv _)
omit R in
theorem cAttr_ok {x a : Str} (h : cAttr NM nm sc x a = some e') (np pos : Pos) : Ok C nm n Φ Ψ sc (.Attribute (.Name x np) a pos) e' := by
  unfold cAttr at h
  split at h
  · rename_i i hi
    refine idb h fun hx h => ?_
    split at h
    · rename_i f hf
      exact sd h (both (ev_fld hi hx hf _ _))
    · exact idd h (fun ha h => sd h (by rw [eq_of_beq ha]; exact both (ev_rowS hi hx _ _))) fun h => idd h (fun ha h => sd h (by rw [eq_of_beq ha]; exact both (ev_rowI hi hx _ _))) fun h => idt h (fun ha h => sd h (by rw [eq_of_beq ha]; exact both (ev_rowR hi hx _ _)))
  · exact idt h fun hx h => md h fun v hv => by
      obtain ⟨h1, h2⟩ := Bool.and_eq_true_iff.mp hx
      have e1 := eq_of_beq h1
      subst e1
      exact both (ev_cat h2 hv _ _)
include hΨ hΦ in
theorem cE1_ok {e : Expr} (h : cE1 NM nm r sc e = some e') : Ok C nm n Φ Ψ sc e e' := by
  cases e with
  | Constant c k p => exact md h fun v hv => both (ev_const hv _ _)
  | UnaryOp o x p => exact cUn_ok R h _
  | Name x p => exact cName_ok h _
  | Attribute b a p =>
    refine bd h fun x hx h => ?_
    obtain ⟨p, rfl⟩ := asName_eq hx
    exact cAttr_ok h _ _
  | BinOp a o b p => exact bd h fun _ ho h => bd h fun _ ha h => bd h fun _ hb h => sd h (both (ev_bin (R _ _ _ ha).1.1 (R _ _ _ hb).1.1 ho _))
  | Compare a os bs p => exact bd h fun o ho h => bd h fun b hb h => by rw [one_eq ho, one_eq hb]; exact cCmp_ok R h _
  | BoolOp o l p => exact cBool_ok R h _
  | IfExp c a b p => exact bd h fun _ hc h => bd h fun _ ha h => bd h fun _ hb h => sd h (ev_ife (R _ _ _ hc).1.2 (R _ _ _ ha).1.1 (R _ _ _ ha).1.2 (R _ _ _ hb).1.1 (R _ _ _ hb).1.2 _)
  | Subscript a i p => exact cSub_ok R h _
  | Call f as kw cp => exact idt h fun hk h => by rw [isE hk]; exact cCall_ok R hΨ hΦ h
  | List es p => exact cList_ok R h _
  | Tuple es k p => exact bd h fun q hq h => bd h fun _ ha h => bd h fun _ hb h => sd h (by rw [two_eq hq]; exact both (ev_tup2 (R _ _ _ ha).1.1 (R _ _ _ hb).1.1 (R _ _ _ ha).2.1 (R _ _ _ hb).2.1 _ _))
  | ListComp elt gs sc' p =>
    refine bd h fun g hg h => idt h fun h0 h => bd h fun x hx h => ?_
    rw [one_eq hg]
    cases g with | mk t it ifs z =>
    cases h0
    obtain ⟨p, rfl⟩ := asName_eq hx
    exact cComp_ok R h _ _
  | _ => first | exact nn h | exact nf h | exact nomatch h
omit R in
theorem cE1_star {e : Expr} (h : cE1 NM nm r sc e = some e') : notStar e = true ∧ notSet e = true ∧ notSlice e = true := by
  cases e <;> first | exact ⟨rfl, rfl, rfl⟩ | exact nn h
omit R in
include hΨ hΦ in
theorem cE_rc : ∀ k, RcOk C nm n Φ Ψ (cE NM nm k)
  | 0, _, _, _, h => nomatch h
  | k + 1, _, _, _, h => ⟨cE1_ok (cE_rc k) hΨ hΦ h, cE1_star h⟩
omit R in
theorem cE_star {k : Nat} {sc : Scope} {e : Expr} {e' : E} (h : cE NM nm k sc e = some e') : notStar e = true ∧ notSet e = true ∧ notSlice e = true :=
  match k, h with
  | 0, h => nomatch h
  | _ + 1, h => cE1_star h
omit R in
include hΨ hΦ in
theorem cE_ok (k : Nat) (sc : Scope) (e : Expr) (e' : E) (h : cE NM nm k sc e = some e') : EvOk C nm sc n e (fun ρ σ => ev' Φ Ψ e' ρ σ) ∧ TrOk C nm sc n e (fun ρ σ => ev' Φ Ψ e' ρ σ) :=
  (cE_rc hΨ hΦ k sc e e' h).1
end
structure PlFn (p : Pl) : Prop where
  stack : p.stack = p.env :: p.outer
  frame : p.env.frame = some p.L
  cells : ∀ x c, p.env.cells.lookup x = some c → c ∈ p.cs
  inj : ∀ x y c, p.env.cells.lookup x = some c → p.env.cells.lookup y = some c → x = y
section
variable {C : Cx} {nm : List Str} {sc : Scope} {n : Nat} {p : Pl}
theorem setV_get {ρ : Loc} {j i : Nat} {v : V} {w : V} (h : (setV ρ j v).getD i Option.none = some w) : (i = j ∧ w = v) ∨ (i ≠ j ∧ ρ.getD i Option.none = some w) := by
  unfold setV at h
  by_cases q : i = j
  · subst q
    rw [List.getD_eq_getElem?_getD, List.getElem?_set] at h
    simp at h
    split at h
    · exact .inl ⟨rfl, by simpa using h.symm⟩
    · simp at h
  · rw [List.getD_eq_getElem?_getD, List.getElem?_set_ne (Ne.symm q)] at h
    exact .inr ⟨q, by rw [List.getD_eq_getElem?_getD]; exact h⟩
theorem nm_inj (P : PlOk C p nm sc) {i j : Nat} {x : Str} (h : p.nm[i]? = some x) (k : p.nm[j]? = some x) : i = j := by
  have hi := (List.getElem?_eq_some_iff.mp h)
  have hj := (List.getElem?_eq_some_iff.mp k)
  obtain ⟨a, ha⟩ := hi
  obtain ⟨b, hb⟩ := hj
  exact (List.getElem_inj P.uniq).mp (ha.trans hb.symm)
theorem storesKind (P : PlOk C p nm sc) {x : Str} (h : stores sc x = true) : okN x = true ∧ (p.env.kindOf x = some .local ∨ (p.env.kindOf x = some .cell ∧ ∃ c, p.env.cells.lookup x = some c)) := by
  unfold stores at h
  simp only [Bool.and_eq_true, Bool.or_eq_true] at h
  obtain ⟨h1, h2 | h2⟩ := h
  · exact ⟨h1, .inl ((P.names _ _ (eq_of_beq h2)).1 (by decide))⟩
  · exact ⟨h1, .inr ⟨(P.names _ _ (eq_of_beq h2)).1 (by decide), P.cells _ _ (eq_of_beq h2) (.inr rfl)⟩⟩
theorem store_var {A : Around} {s : Shared} {ρ : Loc} {σ : St} {x : Str} {i : Nat} {u : Value} {v : V} {Q : Unit → Shared → Prop} (P : PlOk C p nm sc) (Fp : PlFn p) (a : At C p s.heap ρ σ) (hi : idx nm x = some i) (hx : stores sc x = true) (r : R C s.heap u v)
    (h : ∀ s', Went C p s s' (setV ρ i v) σ → Q () s') : wpAny (model PW C.w) A (storeName p.env x u) Q No s := by
  obtain ⟨m, nn, vs⟩ := a.env
  have hne : ∀ b o, s.heap.get? b = some o → (∀ es k, o.data ≠ .dict es k) → b ≠ p.L := fun b o e d q => by
    obtain ⟨o', es, k, e', d', _⟩ := nn
    rw [q, e'] at e; cases e; exact d _ _ d'
  rcases (storesKind P hx).2 with z | ⟨z, c, hc1⟩
  · refine wpAny_storeName_local z (by rw [P.locals]; exact nn) (fun h' hn hs => ?_) (by rw [P.kind]; rfl)
    rw [P.locals] at hn hs
    have hk : ∀ b o, b ≠ p.L → s.heap.get? b = some o → h'.get? b = some o := fun b o hb e => hs.extBut b o hb e
    have seqK : SeqKeep s.heap h' := fun b o ws k e d => ⟨o, hk b o (hne b o e fun _ _ q => by rw [d] at q; cases q) e, rfl, rfl⟩
    have cellK : ∀ c v, s.heap.IsCell c v → h'.IsCell c v := fun c v ⟨o, e, d⟩ => ⟨o, hk c o (hne c o e fun _ _ q => by rw [d] at q; cases q) e, d⟩
    have hB : ∀ b o, C.B.get? b = some o → b ≠ p.L := fun b o e q => absurd (Nat.lt_of_lt_of_le (Heap.lt_size e) P.above) (by rw [q]; exact Nat.lt_irrefl _)
    refine h _ ⟨⟨fun b o e => hk b o (hB b o e) (a.base b o e), funFrames_mono (fun b hb o e d => ?_) a.ff, fun b hb => ?_, fun y dy e => ?_, fun c hc => ?_, _, hn, fun j y w e1 e2 => ?_⟩, ⟨fun b o e n1 _ _ _ => hk b o n1 e, fun b hb o e => ⟨o.slots, hk b o (fun q => P.nd (q ▸ hb)) e⟩⟩, rfl, rfl⟩
    · by_cases q : b = p.L
      · subst q
        obtain ⟨o', es, k, e', d'⟩ := ns_isDict hn
        exact ⟨o', e', fun vs z => by rw [d'] at z; cases z⟩
      · exact ⟨o, hk b o q e, d⟩
    · by_cases q : b = p.L
      · subst q; exact ns_isDict hn
      · obtain ⟨o, es, k, e, d⟩ := a.fd b hb
        exact ⟨o, es, k, hk b o q e, d⟩
    · obtain ⟨es, k, h1, h2, h3⟩ := a.me y dy e
      obtain ⟨_, n1, n2, _⟩ := P.ob y dy e
      exact ⟨es, k, hk _ _ n1 h1, hk _ _ n2 h2, h3⟩
    · obtain ⟨w, hw⟩ := a.cells c hc
      exact ⟨w, cellK _ _ hw⟩
    · rcases setV_get e2 with ⟨rfl, rfl⟩ | ⟨q, e3⟩
      · have : x = y := by
          have := idx_get hi
          rw [← P.nm, e1] at this
          exact (Option.some.inj this).symm
        subst this
        exact ⟨u, r.keep seqK, .inl ⟨z, by simp⟩⟩
      · obtain ⟨u', r', hu⟩ := (vs j y w e1 e3).keep seqK cellK
        refine ⟨u', r', ?_⟩
        rcases hu with ⟨k1, k2⟩ | k
        · have hxy : y ≠ x := fun q' => q (nm_inj P e1 (q' ▸ P.nm ▸ idx_get hi))
          exact .inl ⟨k1, by simp [hxy, k2]⟩
        · exact .inr k
  · obtain ⟨v₀, hc2⟩ := a.cells c (Fp.cells x c hc1)
    refine wpAny_storeName_cell P.kind z hc1 hc2 fun h' hcell hs => ?_
    have hk : ∀ b o, b ≠ c → s.heap.get? b = some o → h'.get? b = some o := fun b o hb e => hs.extBut b o hb e
    obtain ⟨oc, ec, dc⟩ := hc2
    have hcne : ∀ b o, s.heap.get? b = some o → (∀ v, o.data ≠ .cell v) → b ≠ c := fun b o e d q => by rw [q, ec] at e; cases e; exact d _ dc
    have seqK : SeqKeep s.heap h' := fun b o ws k e d => ⟨o, hk b o (hcne b o e fun _ q => by rw [d] at q; cases q) e, rfl, rfl⟩
    have hL : p.L ≠ c := fun q => by
      obtain ⟨o', es, k, e', d', _⟩ := nn
      rw [q, ec] at e'; cases e'; rw [dc] at d'; cases d'
    have hfr : ∀ b ∈ frs p.stack, b ≠ c := fun b hb q => by
      obtain ⟨o, es, k, e, d⟩ := a.fd b hb
      rw [q, ec] at e; cases e; rw [dc] at d; cases d
    have hB : ∀ b o, C.B.get? b = some o → b ≠ c := fun b o e q => by
      have := P.cnew c (Fp.cells x c hc1)
      rw [← q, e] at this; cases this
    refine h _ ⟨⟨fun b o e => hk b o (hB b o e) (a.base b o e), funFrames_mono (fun b hb o e d => ⟨o, hk b o (hfr b hb) e, d⟩) a.ff, fun b hb => ?_, fun y dy e => ?_, fun c' hc' => ?_, m, ?_, fun j y w e1 e2 => ?_⟩, ⟨fun b o e n1 n0 _ _ => hk b o (fun q => n0 (q ▸ Fp.cells x c hc1)) e, fun b hb o e => ⟨o.slots, hk b o (hfr b (outer_stack P hb)) e⟩⟩, rfl, rfl⟩
    · obtain ⟨o, es, k, e, d⟩ := a.fd b hb
      exact ⟨o, es, k, hk b o (hfr b hb) e, d⟩
    · obtain ⟨es, k, h1, h2, h3⟩ := a.me y dy e
      exact ⟨es, k, hk _ _ (hcne _ _ h1 fun _ q => by cases q) h1, hk _ _ (hcne _ _ h2 fun _ q => by cases q) h2, h3⟩
    · by_cases q : c' = c
      · subst q; exact ⟨_, hcell⟩
      · obtain ⟨w, o, e, d⟩ := a.cells c' hc'
        exact ⟨w, o, hk _ _ q e, d⟩
    · obtain ⟨o, es, k, e, d, r⟩ := nn
      exact ⟨o, es, k, hk _ _ hL e, d, r⟩
    · rcases setV_get e2 with ⟨rfl, rfl⟩ | ⟨q, e3⟩
      · have : x = y := by
          have := idx_get hi
          rw [← P.nm, e1] at this
          exact (Option.some.inj this).symm
        subst this
        exact ⟨u, r.keep seqK, .inr ⟨.inl z, c, hc1, hcell⟩⟩
      · obtain ⟨u', r', hu⟩ := vs j y w e1 e3
        refine ⟨u', r'.keep seqK, ?_⟩
        rcases hu with k | ⟨k1, c', k2, o, e, d⟩
        · exact .inl k
        · have hxy : y ≠ x := fun q' => q (nm_inj P e1 (q' ▸ P.nm ▸ idx_get hi))
          have hcc : c' ≠ c := fun q' => hxy (Fp.inj y x c (q' ▸ k2) hc1)
          exact .inr ⟨k1, c', k2, o, hk _ _ hcc e, d⟩
theorem fld_name (f : Fld) : fldOf f.name = some f := by cases f <;> rfl
theorem fld_inj {f g : Fld} (h : f.name = g.name) : f = g := Option.some.inj ((fld_name f).symm.trans ((congrArg fldOf h).trans (fld_name g)))
theorem find_put {f : Fld} {hsh : Int} {t : Tok} {w : Value} : ∀ {es : List DictEntry} {ks : List Fld}, All2 (fun e f => ∃ t, e.key = .str f.name t) es ks → ∀ g : Fld,
    ((putL f.name hsh (.str f.name t) w es).find? (·.key.isStr g.name)).map (·.val) = if g = f then some w else (es.find? (·.key.isStr g.name)).map (·.val)
  | _, _, .nil, g => by
    unfold putL
    by_cases q : g = f
    · subst q; simp [Value.isStr]
    · have : ¬ f.name = g.name := fun z => q (fld_inj z.symm)
      simp [Value.isStr, q, this]
  | _, _, .cons (a := e) (b := b) h r, g => by
    obtain ⟨t', h⟩ := h
    have ih := find_put (f := f) (hsh := hsh) (t := t) (w := w) r g
    unfold putL
    by_cases q : b = f
    · subst q
      have e1 : e.key.isStr b.name = true := by rw [h]; simp [Value.isStr]
      rw [if_pos e1]
      by_cases q' : g = b
      · subst q'; simp [e1]
      · have e2 : e.key.isStr g.name = false := by
          rw [h]; simp [Value.isStr]; exact fun z => q' (fld_inj z.symm)
        simp [e2, q']
    · have e1 : e.key.isStr f.name = false := by
        rw [h]; simp [Value.isStr]; exact fun z => q (fld_inj z)
      rw [if_neg (by simp [e1])]
      by_cases q' : g = b
      · subst q'
        have e2 : e.key.isStr g.name = true := by rw [h]; simp [Value.isStr]
        simp [e2, q]
      · have e2 : e.key.isStr g.name = false := by
          rw [h]; simp [Value.isStr]; exact fun z => q' (fld_inj z.symm)
        simpa [e2] using ih
theorem keys_put {f : Fld} {hsh : Int} {t : Tok} {w : Value} : ∀ {es : List DictEntry} {ks : List Fld}, All2 (fun e f => ∃ t, e.key = .str f.name t) es ks → ks.Nodup →
    ∃ ks', ks'.Nodup ∧ (∀ g, g ∈ ks' → g ∈ ks ∨ g = f) ∧ All2 (fun e f => ∃ t, e.key = .str f.name t) (putL f.name hsh (.str f.name t) w es) ks'
  | _, _, .nil, _ => ⟨[f], by simp, fun g hg => .inr (by simpa using hg), .cons ⟨t, rfl⟩ .nil⟩
  | _, _, .cons (a := e) (b := b) (l := l) (r := r) h r', nd => by
    obtain ⟨t', h⟩ := h
    unfold putL
    have nd' := List.nodup_cons.mp nd
    by_cases q : b = f
    · subst q
      have e1 : e.key.isStr b.name = true := by rw [h]; simp [Value.isStr]
      rw [if_pos e1]
      exact ⟨b :: r, nd, fun g hg => .inl hg, .cons ⟨t', h⟩ r'⟩
    · have e1 : e.key.isStr f.name = false := by
        rw [h]; simp [Value.isStr]; exact fun z => q (fld_inj z)
      rw [if_neg (by simp [e1])]
      obtain ⟨ks', k1, k2, k3⟩ := keys_put (f := f) (hsh := hsh) (t := t) (w := w) r' nd'.2
      refine ⟨b :: ks', List.nodup_cons.mpr ⟨fun hb => ?_, k1⟩, fun g hg => ?_, .cons ⟨t', h⟩ k3⟩
      · rcases k2 b hb with z | z
        · exact nd'.1 z
        · exact q z
      · rcases List.mem_cons.mp hg with rfl | hg
        · exact .inl (.head _)
        · rcases k2 g hg with z | z
          · exact .inl (.tail _ z)
          · exact .inr z
theorem nodup_len {α : Type} [DecidableEq α] : ∀ {l m : List α}, l.Nodup → (∀ x ∈ l, x ∈ m) → l.length ≤ m.length
  | [], m, _, _ => Nat.zero_le _
  | a :: l, m, h, s => by
    have h1 := List.nodup_cons.mp h
    have h2 : l.length ≤ (m.erase a).length := nodup_len h1.2 fun x hx => (List.mem_erase_of_ne (fun e : x = a => h1.1 (e ▸ hx))).mpr (s x (.tail _ hx))
    have hm := s a (.head _)
    rw [List.length_erase_of_mem hm] at h2
    exact Nat.add_le_of_le_sub (List.length_pos_of_mem hm) h2
theorem flds_len {ks : List Fld} (h : ks.Nodup) : ks.length ≤ 9 :=
  nodup_len (m := [.cur, .cursor, .limit, .lb, .bra, .ket, .bn, .bv, .bd]) h fun x _ => by cases x <;> decide
theorem set_eq {σ σ' : St} {f : Fld} {v : V} (h : σ.set f v = some σ') : σ'.get f = some v ∧ (∀ g, g ≠ f → σ'.get g = σ.get g) ∧ ((∃ t, v = .str t) ∨ (∃ i, v = .int i) ∨ ∃ b, v = .bool b) := by
  cases f <;> (
    obtain ⟨x, hx, rfl⟩ := Option.map_eq_some_iff.mp h
    first
      | (cases asS_eq hx; refine ⟨rfl, fun g q => ?_, .inl ⟨_, rfl⟩⟩; cases g <;> first | rfl | exact absurd rfl q)
      | (cases asI_eq hx; refine ⟨rfl, fun g q => ?_, .inr (.inl ⟨_, rfl⟩)⟩; cases g <;> first | rfl | exact absurd rfl q)
      | (cases asO_eq hx; refine ⟨rfl, fun g q => ?_, .inr (.inr ⟨_, rfl⟩)⟩; cases g <;> first | rfl | exact absurd rfl q))
theorem set_get {σ σ' : St} {f : Fld} {v : V} (h : σ.set f v = some σ') (g : Fld) : σ'.get g = if g = f then some v else σ.get g := by
  obtain ⟨h1, h2, _⟩ := set_eq h
  by_cases q : g = f
  · rw [if_pos q, q]; exact h1
  · rw [if_neg q]; exact h2 g q
theorem set_simple {σ σ' : St} {f : Fld} {v : V} (h : σ.set f v = some σ') {C C' : Cx} {hp hp' : Heap} {u : Value} (r : R C hp u v) : R C' hp' u v := by
  obtain ⟨_, _, ⟨x, rfl⟩ | ⟨x, rfl⟩ | ⟨x, rfl⟩⟩ := set_eq h <;> exact r
theorem flds_put {es : List DictEntry} {σ σ' : St} (h : FldsOk es σ) {f : Fld} {v : V} (hs : σ.set f v = some σ') {hsh : Int} {t : Tok} {w : Value} {C : Cx} {hp : Heap} (r : R C hp w v) :
    FldsOk (putL f.name hsh (.str f.name t) w es) σ' ∧ (putL f.name hsh (.str f.name t) w es).length ≤ 1000 := by
  obtain ⟨ks, nd, al, gt⟩ := h
  obtain ⟨ks', k1, k2, k3⟩ := keys_put (f := f) (hsh := hsh) (t := t) (w := w) al nd
  refine ⟨⟨ks', k1, k3, fun g y hy => ?_⟩, by rw [k3.length]; exact Nat.le_trans (flds_len k1) (by decide)⟩
  rw [getL_of k3, find_put al]
  rw [set_get hs] at hy
  by_cases q : g = f
  · subst q
    simp at hy
    subst hy
    exact ⟨w, by simp, fun C' h' => set_simple hs r⟩
  · simp [q] at hy
    obtain ⟨u, hu, hr⟩ := gt g y hy
    rw [getL_of al] at hu
    exact ⟨u, by simp [q]; simpa using hu, hr⟩
theorem taker_facts (P : Params) (f : Fld) : takerIn (KAll P) 1066 f.name = some none := by cases f <;> kernel_rfl
end
section
variable {C : Cx} {nm : List Str} {sc : Scope} {n : Nat} {p : Pl}
theorem set_fld {A : Around} {s : Shared} {ρ : Loc} {σ σ' : St} {f : Fld} {v : V} {u w : Value} {Q : Unit → Shared → Prop} (P : PlOk C p nm sc) (a : At C p s.heap ρ σ) (ru : R C s.heap u .me) (hs : σ.set f v = some σ') (rv : R C s.heap w v)
    (h : ∀ s', Went C p s s' ρ σ' → Q () s') : wpAny (model PW C.w) A (setAttr u f.name w) Q No s := by
  obtain ⟨x, dx, ho, rfl⟩ := ru
  obtain ⟨es, k, h1, h2, h3⟩ := a.me x dx ho
  obtain ⟨m, F, vs⟩ := a.fr P
  obtain ⟨i1, i2, i3, i4⟩ := inst_facts C.w.params
  obtain ⟨q1, q2, q3, q4, q5, q6, q7⟩ := P.ob x dx ho
  have N : News C.B p.L s.heap ((dx, dictOf es k) :: (others C.B p.L s.heap).filter fun q => decide (q.1 ≠ dx)) := fun q hq => by
    rcases List.mem_cons.mp hq with rfl | hq
    · exact ⟨h2, q3, q7⟩
    · exact others_news _ _ _ q (List.mem_filter.mp hq).1
  have hl : (getL f.name es).isSome = true := by
    obtain ⟨ks, _, k2, _⟩ := h3
    rw [getL_of k2]; rfl
  obtain ⟨e1, e2⟩ := flds_put h3 hs rv (hsh := PyData.keyHash C.w.params f.name) (t := s.toks + 1)
  refine set_dict F P.top.k N ⟨h1, rfl, rfl, h2⟩ rfl i3 i4 (taker_facts _ f) i2 hl rfl (.head fun q hq => by simpa using (List.mem_filter.mp hq).2) e2 fun h' F' N' => ?_
  have hk : ∀ b o, b ≠ p.L → b ≠ dx → s.heap.get? b = some o → h'.get? b = some o := fun b o n1 n2 e => by
    cases q : C.B.get? b with
    | none => exact (N' (b, o) (.tail _ (List.mem_filter.mpr ⟨mem_others.mpr ⟨e, n1, q⟩, by simpa using n2⟩))).1
    | some o' => have := a.base b o' q; rw [e] at this; cases this; exact F'.keep b o q
  have hd := (N' _ (.head _)).1
  have notL : ∀ b o, s.heap.get? b = some o → (∀ es k, o.data ≠ .dict es k) → b ≠ p.L ∧ b ≠ dx := fun b o e d => by
    obtain ⟨o', es', k', e', d', _⟩ := F.ns
    exact ⟨fun q => by rw [q, e'] at e; cases e; exact d _ _ d', fun q => by rw [q, h2] at e; cases e; exact d _ _ rfl⟩
  have seqK : SeqKeep s.heap h' := fun b o ws c e d => by
    obtain ⟨n1, n2⟩ := notL b o e fun _ _ q => by rw [d] at q; cases q
    exact ⟨o, hk b o n1 n2 e, rfl, rfl⟩
  have cellK : ∀ c v, s.heap.IsCell c v → h'.IsCell c v := fun c v ⟨o, e, d⟩ => by
    obtain ⟨n1, n2⟩ := notL c o e fun _ _ q => by rw [d] at q; cases q
    exact ⟨o, hk c o n1 n2 e, d⟩
  have hB : ∀ b o, C.B.get? b = some o → h'.get? b = some o := F'.keep
  have frd : ∀ b ∈ frs p.stack, b ≠ dx := fun b hb q => by
    rcases frs_stack P hb with z | z
    · exact q3 (q ▸ z)
    · exact q5 (q ▸ z)
  refine h _ ⟨⟨hB, funFrames_mono (fun b hb o e d => ?_) a.ff, fun b hb => ?_, fun y dy e => ?_, fun c hc => ?_, m, F'.ns, fun i y v e1 e2 => (vs i y v e1 e2).keep seqK cellK⟩, ⟨fun b o e n1 _ _ n3 => hk b o n1 (n3 x dx ho) e, fun b hb o e => ⟨o.slots, hk b o (fun q => P.nd (q ▸ hb)) (frd b (outer_stack P hb)) e⟩⟩, rfl, rfl⟩
  · by_cases q : b = p.L
    · subst q
      obtain ⟨o', es', k', e', d'⟩ := ns_isDict F'.ns
      exact ⟨o', e', fun vs z => by rw [d'] at z; cases z⟩
    · exact ⟨o, hk b o q (frd b hb) e, d⟩
  · by_cases q : b = p.L
    · subst q; exact ns_isDict F'.ns
    · obtain ⟨o, es', k', e, d⟩ := a.fd b hb
      exact ⟨o, es', k', hk b o q (frd b hb) e, d⟩
  · rw [ho] at e; cases e
    exact ⟨_, _, hk x _ q2 q1 h1, hd, e1⟩
  · obtain ⟨v, hv⟩ := a.cells c hc
    exact ⟨v, cellK _ _ hv⟩
structure Aloft (C : Cx) (p : Pl) (base : Heap) (e : Addr) (k : Nat) (h : Heap) : Prop where
  stays : base.StaysIn h
  fresh : base.get? e = none
  ff : h.FunFrames base p.stack
  st : ∃ a0, (∃ oe vs, h.get? e = some oe ∧ oe.cls = .ref k ∧ oe.data = .fields vs ∧ vs[1]? = some .none ∧ vs[0]? = some a0) ∨ h.TracedAtW base e (.ref k) a0 (rawInt p.L)
structure ExcSt (C : Cx) (p : Pl) (s : Shared) (k : Nat) (ρ : Loc) (σ : St) (e : Value) (s' : Shared) : Prop where
  ex : ∃ ea base, e = .ref ea ∧ Aloft C p base ea k s'.heap ∧ MeOk C base σ ∧ C.B.StaysIn base ∧
    (∀ b o, s.heap.get? b = some o → b ≠ p.L → b ∉ p.cs → b ∉ frs p.outer → (∀ x dx, C.ob = some (x, dx) → b ≠ dx) → base.get? b = some o)
  went : Went C p s s' ρ σ
noncomputable def OutQ (C : Cx) (p : Pl) (s : Shared) (o : Out) (ρ : Loc) (σ : St) (fl : Flow) (s' : Shared) : Prop := match o with
  | .next => fl = .next ∧ Went C p s s' ρ σ
  | .brk => fl = .brk ∧ Went C p s s' ρ σ
  | .cont => fl = .cont ∧ Went C p s s' ρ σ
  | .ret v => ∃ u, fl = .ret u ∧ R C s'.heap u v ∧ Went C p s s' ρ σ
  | .exc _ => False
noncomputable def OutE (C : Cx) (p : Pl) (s : Shared) (o : Out) (ρ : Loc) (σ : St) (e : Value) (s' : Shared) : Prop := match o with
  | .exc k => ExcSt C p s k ρ σ e s'
  | _ => False
@[elab_as_elim] theorem fl1 {fl c : Flow} {W : Prop} {P : Flow → Prop} (h : fl = c ∧ W) (k : W → P c) : P fl := h.1 ▸ k h.2
@[elab_as_elim] theorem flR {fl : Flow} {Q : Value → Prop} {P : Flow → Prop} (h : ∃ u, fl = .ret u ∧ Q u) (k : ∀ u, Q u → P (.ret u)) : P fl := by
  obtain ⟨u, rfl, h⟩ := h; exact k u h
theorem ExcSt.after {s s₁ s' : Shared} {k : Nat} {ρ ρ₁ : Loc} {σ σ₁ : St} {e : Value} (w : Went C p s s₁ ρ₁ σ₁) (x : ExcSt C p s₁ k ρ σ e s') : ExcSt C p s k ρ σ e s' := by
  obtain ⟨⟨ea, base, h1, h2, h3, h4, h5⟩, h6⟩ := x
  exact ⟨⟨ea, base, h1, h2, h3, h4, fun b o q n1 n0 n2 n3 => h5 b o (w.ext.keep b o q n1 n0 n2 n3) n1 n0 n2 n3⟩, w.trans h6⟩
theorem OutQ.after {s s₁ s' : Shared} {o : Out} {ρ ρ₁ : Loc} {σ σ₁ : St} {fl : Flow} (w : Went C p s s₁ ρ₁ σ₁) (x : OutQ C p s₁ o ρ σ fl s') : OutQ C p s o ρ σ fl s' := by
  cases o with
  | ret v => obtain ⟨u, h1, h2, h3⟩ := x; exact ⟨u, h1, h2, w.trans h3⟩
  | exc k => exact x.elim
  | _ => exact ⟨x.1, w.trans x.2⟩
theorem OutE.after {s s₁ s' : Shared} {o : Out} {ρ ρ₁ : Loc} {σ σ₁ : St} {e : Value} (w : Went C p s s₁ ρ₁ σ₁) (x : OutE C p s₁ o ρ σ e s') : OutE C p s o ρ σ e s' := by
  cases o with
  | exc k => exact ExcSt.after w x
  | _ => exact x.elim
noncomputable def StOk (C : Cx) (nm : List Str) (sc : Scope) (n : Nat) (st : Stmt) (f : Sg → Option (Out × Sg)) : Prop :=
  ∀ (p : Pl) (A : Around) (s : Shared) (ρ : Loc) (σ : St) (o : Out) (ρ' : Loc) (σ' : St), PlOk C p nm sc → PlFn p → Rm p A n → At C p s.heap ρ σ → f (ρ, σ) = some (o, (ρ', σ')) →
    wpAny (model PW C.w) A (exec st p.env) (OutQ C p s o ρ' σ') (OutE C p s o ρ' σ') s
noncomputable def BlOk (C : Cx) (nm : List Str) (sc : Scope) (n : Nat) (b : List Stmt) (f : Sg → Option (Out × Sg)) : Prop :=
  ∀ (p : Pl) (A : Around) (s : Shared) (ρ : Loc) (σ : St) (o : Out) (ρ' : Loc) (σ' : St), PlOk C p nm sc → PlFn p → Rm p A n → At C p s.heap ρ σ → f (ρ, σ) = some (o, (ρ', σ')) →
    wpAny (model PW C.w) A (execs b p.env) (OutQ C p s o ρ' σ') (OutE C p s o ρ' σ') s
theorem bl_nil : BlOk C nm sc n [] (fun x => some (.next, x)) := by
  intro p A s ρ σ o ρ' σ' P Fp M a q
  exact s3 q (wpAny_execs_nil ⟨rfl, .refl a⟩)
theorem bl_cons {st : Stmt} {b : List Stmt} {f g : Sg → Option (Out × Sg)} (h : StOk C nm sc n st f) (hb : BlOk C nm sc n b g) : BlOk C nm sc n (st :: b) (fun x => (f x).bind fun (o, y) => match o with
    | .next => g y
    | o => some (o, y)) := by
  intro p A s ρ σ o ρ' σ' P Fp M a q
  refine bd3 q fun o1 ρ1 σ1 h1 q => ?_
  refine wpAny_execs_cons (wpAny_mono (h p A s ρ σ o1 ρ1 σ1 P Fp M a h1) (fun fl s1 h2 => ?_) fun e s1 h2 => ?_)
  · cases o1 with
    | next => exact fl1 h2 fun w => wpAny_mono (hb p A s1 ρ1 σ1 o ρ' σ' P Fp M w.at_ q) (fun fl s2 h3 => h3.after w) fun e s2 h3 => h3.after w
    | exc k => exact h2.elim
    | ret v => exact flR (fl := fl) h2 fun u w => s3 q ⟨u, rfl, w⟩
    | brk => exact fl1 h2 fun w => s3 q ⟨rfl, w⟩
    | cont => exact fl1 h2 fun w => s3 q ⟨rfl, w⟩
  · cases o1 with
    | exc k => exact s3 q h2
    | _ => exact h2.elim
theorem swaps_no {e : Expr} (h : notComp e = true) (t : Option Expr) (l : Nat) (env : Env) : swapsWith e t l env = pure false := by
  cases e <;> first | rfl | exact nf h | cases h
theorem st_asg {x : Str} {i : Nat} {e : Expr} {f : Loc → St → Option (V × St)} (hx : stores sc x = true) (hi : idx nm x = some i) (he : EvOk C nm sc n e f) (hc : notComp e = true) (px pos : Pos) :
    StOk C nm sc n (.Assign [.Name x px] e pos) (fun (ρ, σ) => (f ρ σ).bind fun (v, σ) => some (.next, (setV ρ i v, σ))) := by
  intro p A s ρ σ o ρ' σ' P Fp M a q
  refine bd2 q fun v σ1 h1 q => s3 q ?_
  refine wpAny_Assign_Name (wpAny_mono (he p A s ρ σ v _ P M a h1) (fun u s1 ⟨r1, w1⟩ => ?_) fun _ _ z => z.elim) (swaps_no hc _ _ _)
  exact wpAny_mono (store_var P Fp w1.at_ hi hx r1 fun s' w => (⟨rfl, w1.trans w⟩ : OutQ C p s .next _ _ .next s')) (fun _ _ z => z) fun _ _ z => z.elim
theorem st_setF {x a : Str} {i : Nat} {fl : Fld} {e : Expr} {f : Loc → St → Option (V × St)} (hx : okN x = true) (hi : idx nm x = some i) (ha : fldOf a = some fl) (he : EvOk C nm sc n e f) (hc : notComp e = true) (px ap pos : Pos) :
    StOk C nm sc n (.Assign [.Attribute (.Name x px) a ap] e pos) (fun (ρ, σ) => (f ρ σ).bind fun (v, σ) => match ρ.getD i Option.none with
    | some .me => (σ.set fl v).map fun σ => (.next, (ρ, σ))
    | _ => Option.none) := by
  obtain rfl := fldOf_name ha
  intro p A s ρ σ o ρ' σ' P Fp M a q
  refine bd2 q fun v σ1 h1 q => me_of q fun hv q => mdc q fun σ2 h2 q => s3 (congrArg some q) ?_
  refine plainObj_wpAny_Assign_Attribute (wpAny_mono (he p A s ρ σ v _ P M a h1) (fun u s1 ⟨r1, w1⟩ => ?_) fun _ _ z => z.elim) (swaps_no hc _ _ _)
  refine wpAny_mono (wpAny_Name (load_var P w1.at_ hi hx hv fun u' r' => ?_) (okN_1 hx)) (fun _ _ z => z) fun _ _ z => z.elim
  exact wpAny_mono (set_fld P w1.at_ r' h2 r1 fun s' w => (⟨rfl, w1.trans w⟩ : OutQ C p s .next _ _ .next s')) (fun _ _ z => z) fun _ _ z => z.elim
theorem au_ok {A : Around} {s : Shared} {ρ : Loc} {σ : St} (P : PlOk C p nm sc) (a : At C p s.heap ρ σ) {O : Operator} {o : Op} (e : opOf O = some o) {x y v : V} (h : auV o x y = some v) {u u' : Value} (rx : R C s.heap u x) (ry : R C s.heap u' y) :
    wpAny (model PW C.w) A (inplaceOp O u u') (Post C p s v ρ σ) No s := by
  refine bd h fun i hi h => bd h fun j hj h => ?_
  cases asI_eq hi; cases asI_eq hj
  obtain ⟨t, rfl⟩ := rx; obtain ⟨t', rfl⟩ := ry
  cases O with
  | Add => cases e; cases h; exact (iadd_int (post_int P a _ _ _))
  | Sub => cases e; cases h; exact (isub_int (post_int P a _ _ _))
  | _ => cases e; try exact nomatch h
theorem st_augV {x : Str} {i : Nat} {O : Operator} {o : Op} {e : Expr} {f : Loc → St → Option (V × St)} (hx : stores sc x = true) (hi : idx nm x = some i) (ho : opOf O = some o) (he : EvOk C nm sc n e f) (px pos : Pos) :
    StOk C nm sc n (.AugAssign (.Name x px) O e pos) (fun (ρ, σ) => (ρ.getD i Option.none).bind fun a => (f ρ σ).bind fun (b, σ) => (auV o a b).map fun v => (.next, (setV ρ i v, σ))) := by
  intro p A s ρ σ o ρ' σ' P Fp M a q
  refine bd q fun y hy q => bd2 q fun v σ1 h1 q => mdc q fun w h2 q => s3 (congrArg some q) ?_
  refine wpAny_AugAssign_Name (wpAny_mono (load_var P a hi (storesKind P hx).1 hy fun u r => ?_) (fun _ _ z => z) fun _ _ z => z.elim)
  refine wpAny_mono (he p A s ρ σ v _ P M a h1) (fun u' s1 ⟨r1, w1⟩ => ?_) fun _ _ z => z.elim
  refine wpAny_mono (au_ok P w1.at_ ho h2 (w1.R a r) r1) (fun u2 s2 ⟨r2, w2⟩ => ?_) fun _ _ z => z.elim
  exact wpAny_mono (store_var P Fp w2.at_ hi hx r2 fun s' w => (⟨rfl, (w1.trans w2).trans w⟩ : OutQ C p s .next _ _ .next s')) (fun _ _ z => z) fun _ _ z => z.elim
theorem st_augF {x a : Str} {i : Nat} {fl : Fld} {O : Operator} {o : Op} {e : Expr} {f : Loc → St → Option (V × St)} (hx : okN x = true) (hi : idx nm x = some i) (ha : fldOf a = some fl) (ho : opOf O = some o) (he : EvOk C nm sc n e f) (px ap pos : Pos) :
    StOk C nm sc n (.AugAssign (.Attribute (.Name x px) a ap) O e pos) (fun (ρ, σ) => match ρ.getD i Option.none with
    | some .me => (σ.get fl).bind fun a => (f ρ σ).bind fun (b, σ) => (auV o a b).bind fun v => (σ.set fl v).map fun σ => (.next, (ρ, σ))
    | _ => Option.none) := by
  obtain rfl := fldOf_name ha
  intro p A s ρ σ o ρ' σ' P Fp M a q
  refine me_of q fun hv q => bd q fun y hy q => bd2 q fun v σ1 h1 q => bd q fun w h2 q => mdc q fun σ2 h3 q => s3 (congrArg some q) ?_
  refine wpAny_AugAssign_AttributeAny (wpAny_mono (wpAny_Name (load_var P a hi hx hv fun u' r' => ?_) (okN_1 hx)) (fun _ _ z => z) fun _ _ z => z.elim)
  refine wpAny_mono (get_fld P a r' hy fun u r => ?_) (fun _ _ z => z) fun _ _ z => z.elim
  have w0 : Went C p s { s with toks := s.toks + 1 } ρ σ := .of_kept P a (.refl _)
  refine wpAny_mono (he p A _ ρ σ v _ P M w0.at_ h1) (fun u' s1 ⟨r1, w1⟩ => ?_) fun _ _ z => z.elim
  refine wpAny_mono (au_ok P w1.at_ ho h2 (w1.R w0.at_ r) r1) (fun u2 s2 ⟨r2, w2⟩ => ?_) fun _ _ z => z.elim
  exact wpAny_mono (set_fld P w2.at_ r' h3 r2 fun s' w => (⟨rfl, ((w0.trans w1).trans w2).trans w⟩ : OutQ C p s .next _ _ .next s')) (fun _ _ z => z) fun _ _ z => z.elim
theorem xpr_of {α : Type} {v : V} {k : Option α} {c : α} {Q : Prop} (q : (match v with | .none => k | .bool _ => k | .int _ => k | _ => Option.none) = some c) (K : (v = .none ∨ (∃ b, v = .bool b) ∨ ∃ i, v = .int i) → k = some c → Q) : Q := by
  cases v with
  | none => exact K (.inl rfl) q
  | bool b => exact K (.inr (.inl ⟨_, rfl⟩)) q
  | int i => exact K (.inr (.inr ⟨_, rfl⟩)) q
  | _ => exact nn q
theorem tr_of {α : Type} {v : V} {k : Option α} {c : α} {Q : Prop} (q : (match v with | .bool true => k | _ => Option.none) = some c) (K : v = .bool true → k = some c → Q) : Q := by
  cases v with
  | bool b => cases b with | true => exact K rfl q | false => exact nn q
  | _ => exact nn q
theorem ite_of {α : Type} {v : V} {k k' : Option α} {c : α} {Q : Prop} (q : (match v with | .bool true => k | .bool false => k' | _ => Option.none) = some c) (K : ∀ b, v = .bool b → (match b with | true => k | false => k') = some c → Q) : Q := by
  cases v with
  | bool b => cases b <;> exact K _ rfl q
  | _ => exact nn q
theorem st_xpr {e : Expr} {f : Loc → St → Option (V × St)} (he : EvOk C nm sc n e f) (hc : notComp e = true) (pos : Pos) :
    StOk C nm sc n (.Expr e pos) (fun (ρ, σ) => (f ρ σ).bind fun (v, σ) => match v with
    | .none => some (.next, (ρ, σ))
    | .bool _ => some (.next, (ρ, σ))
    | .int _ => some (.next, (ρ, σ))
    | _ => Option.none) := by
  intro p A s ρ σ o ρ' σ' P Fp M a q
  refine bd2 q fun v σ1 h1 q => xpr_of q fun hv q => s3 q ?_
  have hi : interactive p.env = false := by unfold interactive; rw [P.kind]; rfl
  refine wpAny_Expr (wpAny_mono (he p A s ρ σ v _ P M a h1) (fun u s1 ⟨r1, w1⟩ => ?_) fun _ _ z => z.elim) hi (swaps_no hc _ _ _)
  rcases hv with rfl | ⟨b, rfl⟩ | ⟨i, rfl⟩
  · obtain rfl : u = .none := r1
    exact ⟨rfl, w1⟩
  · obtain rfl : u = .bool _ := r1
    exact ⟨rfl, w1⟩
  · obtain ⟨t, rfl⟩ := r1
    exact ⟨rfl, w1⟩
theorem st_ret {e : Expr} {f : Loc → St → Option (V × St)} (he : EvOk C nm sc n e f) (pos : Pos) : StOk C nm sc n (.Return (some e) pos) (fun (ρ, σ) => (f ρ σ).bind fun (v, σ) => some (.ret v, (ρ, σ))) := by
  intro p A s ρ σ o ρ' σ' P Fp M a q
  refine bd2 q fun v σ1 h1 q => s3 q ?_
  exact wpAny_Return_some (wpAny_mono (he p A s ρ σ v _ P M a h1) (fun u s1 ⟨r1, w1⟩ => ⟨u, rfl, r1, w1⟩) fun _ _ z => z.elim)
theorem st_brk (pos : Pos) : StOk C nm sc n (.Break pos) (fun x => some (.brk, x)) := by
  intro p A s ρ σ o ρ' σ' P Fp M a q
  exact s3 q (wpAny_Break ⟨rfl, .refl a⟩)
theorem st_cont (pos : Pos) : StOk C nm sc n (.Continue pos) (fun x => some (.cont, x)) := by
  intro p A s ρ σ o ρ' σ' P Fp M a q
  exact s3 q (wpAny_Continue ⟨rfl, .refl a⟩)
theorem st_pass (pos : Pos) : StOk C nm sc n (.Pass pos) (fun x => some (.next, x)) := by
  intro p A s ρ σ o ρ' σ' P Fp M a q
  exact s3 q (wpAny_Pass ⟨rfl, .refl a⟩)
theorem st_assert {e : Expr} {f : Loc → St → Option (V × St)} (he : TrOk C nm sc n e f) (pos : Pos) : StOk C nm sc n (.Assert e none pos) (fun (ρ, σ) => (f ρ σ).bind fun (v, σ) => match v with
    | .bool true => some (.next, (ρ, σ))
    | _ => Option.none) := by
  intro p A s ρ σ o ρ' σ' P Fp M a q
  refine bd2 q fun v σ1 h1 q => tr_of q fun hv q => s3 q ?_
  cases hv
  exact wpAny_Assert_holds (wpAny_mono (he p A s ρ σ _ _ P M a h1) (fun u s1 ⟨r1, w1⟩ => ⟨r1, rfl, w1⟩) fun _ _ z => z.elim)
theorem st_ite {c : Expr} {a b : List Stmt} {f : Loc → St → Option (V × St)} {g k : Sg → Option (Out × Sg)} (hc : TrOk C nm sc n c f) (ha : BlOk C nm sc n a g) (hb : BlOk C nm sc n b k) (pos : Pos) :
    StOk C nm sc n (.If c a b pos) (fun (ρ, σ) => (f ρ σ).bind fun (v, σ) => match v with
    | .bool true => g (ρ, σ)
    | .bool false => k (ρ, σ)
    | _ => Option.none) := by
  intro p A s ρ σ o ρ' σ' P Fp M a0 q
  refine bd2 q fun v σ1 h1 q => ite_of q fun t hv q => ?_
  cases hv
  refine wpAny_If (wpAny_mono (hc p A s ρ σ _ _ P M a0 h1) (fun u s1 ⟨r1, w1⟩ => ?_) fun _ _ z => z.elim)
  subst r1
  cases u
  · exact wpAny_mono (hb p A s1 ρ σ1 o ρ' σ' P Fp M w1.at_ q) (fun fl s2 h3 => h3.after w1) fun e s2 h3 => h3.after w1
  · exact wpAny_mono (ha p A s1 ρ σ1 o ρ' σ' P Fp M w1.at_ q) (fun fl s2 h3 => h3.after w1) fun e s2 h3 => h3.after w1
end
theorem isNs_as {h h' : Heap} {a b : Addr} (e : h.get? a = h'.get? b) : h.isNs a = h'.isNs b := by unfold Heap.isNs; rw [e]
theorem nsMap_as {h h' : Heap} {a b : Addr} (e : h.get? a = h'.get? b) (x : Str) : h.nsMap a x = h'.nsMap b x := by unfold Heap.nsMap; rw [e]
noncomputable abbrev exMro : List Value := [.type "Exception", .type "BaseException", .type "object"]
noncomputable def LabOk (P : Params) (x : Str × Nat) : Prop := nsIn (KAll P) mainGlobals x.1 = some (some (.ref x.2)) ∧ ∃ nm q N bs hdct sn sub ab col dd k0 k1 k2 k3 k5 o,
  (KAll P).lookup x.2 = some (excClassObj nm q x.2 N bs exMro hdct sn sub ab col dd k0 k1 k2 k3 k5 "Exception.__new__") ∧ (KAll P).lookup N = some o ∧ (⟨#[o], {}⟩ : Heap).isNs 0 = true ∧ (⟨#[o], {}⟩ : Heap).nsMap 0 "__init__" = none
theorem labs_ok (P : Params) : ∀ x ∈ labs, LabOk P x := by
  intro x hx
  simp only [labs, List.mem_cons, List.not_mem_nil, or_false] at hx
  rcases hx with rfl | rfl | rfl | rfl | rfl
  · exact ⟨by kernel_rfl, _, _, 1077, _, _, _, _, _, _, _, _, _, _, _, _, k_1077 P, (rfl : (KAll P).lookup 1078 = some (k_1078 P)), rfl, by kernel_rfl, by kernel_rfl⟩
  · exact ⟨by kernel_rfl, _, _, 1090, _, _, _, _, _, _, _, _, _, _, _, _, k_1090 P, (rfl : (KAll P).lookup 1091 = some (k_1091 P)), rfl, by kernel_rfl, by kernel_rfl⟩
  · exact ⟨by kernel_rfl, _, _, 1103, _, _, _, _, _, _, _, _, _, _, _, _, k_1103 P, (rfl : (KAll P).lookup 1104 = some (k_1104 P)), rfl, by kernel_rfl, by kernel_rfl⟩
  · exact ⟨by kernel_rfl, _, _, 1116, _, _, _, _, _, _, _, _, _, _, _, _, k_1116 P, (rfl : (KAll P).lookup 1117 = some (k_1117 P)), rfl, by kernel_rfl, by kernel_rfl⟩
  · exact ⟨by kernel_rfl, _, _, 1129, _, _, _, _, _, _, _, _, _, _, _, _, k_1129 P, (rfl : (KAll P).lookup 1130 = some (k_1130 P)), rfl, by kernel_rfl, by kernel_rfl⟩
section
variable {C : Cx} {nm : List Str} {sc : Scope} {n : Nat} {p : Pl}
noncomputable def Held (p : Pl) (k : Nat) (base : Heap) (ea : Addr) (h : Heap) : Prop := ∃ a0, h.TracedAtW base ea (.ref k) a0 (rawInt p.L)
noncomputable def Fresh (k : Nat) (ea : Addr) (h : Heap) : Prop := ∃ a0 oe vs, h.get? ea = some oe ∧ oe.cls = .ref k ∧ oe.data = .fields vs ∧ vs[1]? = some .none ∧ vs[0]? = some a0
noncomputable def Landed (k : Nat) (base : Heap) (ea : Addr) (h : Heap) : Prop := ∃ a0, h.TracedW base ea (.ref k) a0
structure ExcX (H : Heap → Addr → Heap → Prop) (C : Cx) (p : Pl) (s : Shared) (ρ : Loc) (σ : St) (ea : Addr) (base : Heap) (s' : Shared) : Prop where
  stays : base.StaysIn s'.heap
  fresh : base.get? ea = none
  ff : s'.heap.FunFrames base p.stack
  st : H base ea s'.heap
  me : MeOk C base σ
  low : C.B.StaysIn base
  keep : ∀ b o, s.heap.get? b = some o → b ≠ p.L → b ∉ p.cs → b ∉ frs p.outer → (∀ x dx, C.ob = some (x, dx) → b ≠ dx) → base.get? b = some o
  went : Went C p s s' ρ σ
theorem ExcX.move {H H' : Heap → Addr → Heap → Prop} (P : PlOk C p nm sc) {s s' : Shared} {ρ : Loc} {σ : St} {ea : Addr} {base h' : Heap} (x : ExcX H C p s ρ σ ea base s') (k1 : base.StaysIn h') (k2 : h'.FunFrames base p.stack) (k3 : s'.heap.UpToSlots h') (k4 : H' base ea h') :
    ExcX H' C p s ρ σ ea base { s' with heap := h' } := by
  obtain ⟨m, nn, vs⟩ := x.went.at_.env
  have a := x.went.at_
  have seqK : SeqKeep s'.heap h' := fun b o ws c e d => by
    obtain ⟨sl, q⟩ := k3 b o e fun _ z => by rw [d] at z; cases z
    exact ⟨_, q, rfl, rfl⟩
  have cellK : ∀ c v, s'.heap.IsCell c v → h'.IsCell c v := fun c v ⟨o, e, d⟩ => by
    obtain ⟨sl, q⟩ := k3 c o e fun _ z => by rw [d] at z; cases z
    exact ⟨_, q, d⟩
  refine ⟨k1, x.fresh, k2, k4, x.me, x.low, x.keep, ⟨⟨fun b o e => k1 b o (x.low b o e), funFrames_mono (fun b hb o e d => ?_) a.ff, fun b hb => ?_, fun y dy e => ?_, fun c hc => ?_, m, k3.ns nn, fun i y v e1 e2 => (vs i y v e1 e2).keep seqK cellK⟩, ⟨fun b o e n1 n0 n2 n3 => k1 b o (x.keep b o e n1 n0 n2 n3), fun b hb o e => ?_⟩, x.went.os, x.went.gens⟩⟩
  · obtain ⟨sl, q⟩ := k3 b o e d
    exact ⟨_, q, d⟩
  · obtain ⟨o, es, k, e, d⟩ := a.fd b hb
    obtain ⟨sl, q⟩ := k3 b o e fun _ z => by rw [d] at z; cases z
    exact ⟨_, es, k, q, d⟩
  · obtain ⟨es, k, h1, h2, h3⟩ := x.me y dy e
    exact ⟨es, k, k1 _ _ h1, k1 _ _ h2, h3⟩
  · obtain ⟨v, hv⟩ := a.cells c hc
    exact ⟨v, cellK _ _ hv⟩
  · obtain ⟨sl, q⟩ := x.went.ext.soft b hb o e
    obtain ⟨o', es, k, q', d⟩ := a.fd b (outer_stack P hb)
    rw [q] at q'; cases q'
    obtain ⟨sl', q2⟩ := k3 b _ q fun _ z => by rw [d] at z; cases z
    exact ⟨sl', q2⟩
theorem excSt_iff {s s' : Shared} {k : Nat} {ρ : Loc} {σ : St} {e : Value} : ExcSt C p s k ρ σ e s' ↔ ∃ ea base, e = .ref ea ∧ ExcX (fun base ea h => Fresh k ea h ∨ Held p k base ea h) C p s ρ σ ea base s' := by
  constructor
  · rintro ⟨⟨ea, base, rfl, ⟨h1, h2, h3, a0, h4⟩, h5, h6, h7⟩, w⟩
    refine ⟨ea, base, rfl, h1, h2, h3, ?_, h5, h6, h7, w⟩
    rcases h4 with ⟨oe, vs, z⟩ | z
    · exact .inl ⟨a0, oe, vs, z⟩
    · exact .inr ⟨a0, z⟩
  · rintro ⟨ea, base, rfl, h1, h2, h3, h4, h5, h6, h7, w⟩
    refine ⟨⟨ea, base, rfl, ⟨h1, h2, h3, ?_⟩, h5, h6, h7⟩, w⟩
    rcases h4 with ⟨a0, oe, vs, z⟩ | ⟨a0, z⟩
    · exact ⟨a0, .inl ⟨oe, vs, z⟩⟩
    · exact ⟨a0, .inr z⟩
theorem note_ok {A : Around} {s s' : Shared} {k : Nat} {ρ : Loc} {σ : St} {ea : Addr} {base : Heap} {E : Value → Shared → Prop} {Q : Unit → Shared → Prop} (P : PlOk C p nm sc) (Fp : PlFn p) (hA : A.frames = some p.stack) (x : ExcX (fun base ea h => Fresh k ea h ∨ Held p k base ea h) C p s ρ σ ea base s')
    (h : ∀ s'', ExcX (Held p k) C p s ρ σ ea base s'' → Q () s'') : wpAny (model PW C.w) A (noteFrame (.ref ea) p.env) Q E s' := by
  rcases x.st with ⟨a0, oe, vs, he, hcls, hd, h1, h0⟩ | ⟨a0, ht⟩
  · unfold noteFrame
    simp only [Fp.frame]
    refine wpAny_bind (wpAny_field he hd h1 ?_)
    rw [if_neg (by decide)]
    have hff : s'.heap.FunFrames base (p.env :: p.outer) := Fp.stack ▸ x.ff
    refine wpAny_entryW (Fp.stack ▸ hA) hff Fp.frame he x.stays x.fresh hd (Array.getElem?_eq_some_iff.mp h1).1 h0 fun h' hN => ?_
    obtain ⟨k1, k2, k3, k4⟩ := hN
    exact h _ (x.move P k1 (Fp.stack.symm ▸ k2) k4 ⟨a0, hcls ▸ k3⟩)
  · exact wpAny_noteFrame_againW Fp.frame ht (h _ (x.move P (h' := s'.heap) x.stays x.ff (.refl _) ⟨a0, ht⟩))
theorem came_ok {A : Around} {s s' : Shared} {k : Nat} {ρ : Loc} {σ : St} {ea : Addr} {base : Heap} {E : Value → Shared → Prop} (P : PlOk C p nm sc) (Fp : PlFn p) (x : ExcX (Held p k) C p s ρ σ ea base s')
    (h : ∀ s'', ExcX (Held p k) C p s ρ σ ea base s'' → E (.ref ea) s'') : cameBackBy (model PW C.w) A p.env E (.ref ea) s' := by
  obtain ⟨a0, oe, vs, T, oT, ts, he, hcls, hd, h1, hnT, hTe, hT, hdT, h3⟩ := x.st
  have hsz3 : 3 < ts.size := (Array.getElem?_eq_some_iff.mp h3).1
  unfold cameBackBy
  refine wpAny_bind (wpAny_field he hd h1 ?_)
  rw [if_neg (by simp)]
  unfold setFlight
  refine wpAny_bind (wpAny_field he hd h1 ?_)
  rw [if_pos (show (Value.ref T != Value.none) = true from by simp)]
  refine wpAny_setField hT hdT hsz3 ?_
  have other : ∀ b, b ≠ T → (s'.heap.update T (Obj.mapFields (·.setIfInBounds 3 (p.env.frame.elim Value.none fun f => rawInt f)))).get? b = s'.heap.get? b := fun b hb => Heap.get?_update_other _ _ (Ne.symm hb)
  have noRecord : ∀ b o, s'.heap.get? b = some o → (∀ vs, o.data ≠ .fields vs) → b ≠ T := fun b o hb hnf q => by
    rw [q, hT] at hb; injection hb with hb; subst hb; exact hnf ts hdT
  refine h _ (x.move P (fun b o hbo => (other b fun q => by rw [q, hnT] at hbo; cases hbo).trans (x.stays b o hbo))
    (x.ff.of_keeps fun b o hb hnf => ⟨o, (other b (noRecord b o hb hnf)).trans hb, rfl⟩) (fun b o hb hn => ⟨o.slots, (other b (noRecord b o hb hn)).trans hb⟩) ?_)
  refine ⟨a0, oe, vs, T, _, _, (other ea (Ne.symm hTe)).trans he, hcls, hd, h1, hnT, hTe, Heap.get?_update_self _ hT (Obj.isFreed_of_fields (Obj.data_mapFields hdT _)), Obj.data_mapFields hdT _, ?_⟩
  rw [Fp.frame]; simp [hsz3]
theorem land_ok {A : Around} {s s' : Shared} {k : Nat} {ρ : Loc} {σ : St} {ea : Addr} {base : Heap} {E : Value → Shared → Prop} {Q : Unit → Shared → Prop} (P : PlOk C p nm sc) {fl a0 : Value} (ht : s'.heap.TracedAtW base ea (.ref k) a0 fl) {H : Heap → Addr → Heap → Prop} (x : ExcX H C p s ρ σ ea base s')
    (h : ∀ s'', ExcX (Landed k) C p s ρ σ ea base s'' → Q () s'') : wpAny (model PW C.w) A (setFlight (.ref ea) none) Q E s' :=
  wpAny_setFlight_noneW x.stays x.ff ht fun h' k1 k2 k3 k4 => h _ (x.move P k1 k2 (fun b o e d => ⟨o.slots, k4 b o e d⟩) ⟨a0, k3⟩)
open Classical in
noncomputable def loop : Lp := fun f x => if h : ∃ m, (iter f m x).isSome = true then iter f (Classical.choose h) x else Option.none
theorem loop_iter {f : Sg → Option (Out × Sg)} {x : Sg} {r : Out × Sg} (h : loop f x = some r) : ∃ m, iter f m x = some r := by
  unfold loop at h
  split at h
  · exact ⟨_, h⟩
  · cases h
theorem loop_turns {f : Sg → Option (Out × Sg)} : ∀ {n : Nat} {x : Sg} {r : Out × Sg}, iter f (n + 1) x = some r → ∃ o y, f x = some (o, y) ∧ (match o with
    | .next => iter f n y = some r
    | .cont => iter f n y = some r
    | .brk => r = (.next, y)
    | o => r = (o, y)) := by
  intro n x r h
  obtain ⟨⟨o, y⟩, h1, h2⟩ := Option.bind_eq_some_iff.mp (show (f x).bind _ = some r from h)
  refine ⟨o, y, h1, ?_⟩
  cases o <;> first | exact h2 | (cases h2; rfl)
theorem st_whl {b : List Stmt} {f : Sg → Option (Out × Sg)} (hb : BlOk C nm sc n b f) (k : Nat) (cp pos : Pos) : StOk C nm sc n (.While (.Constant (.bool true) k cp) b [] pos) (fun x => loop f x) := by
  intro p A s ρ σ o ρ' σ' P Fp M a q
  obtain ⟨m, q⟩ := loop_iter q
  refine wpAny_While (codeAny_whileLoop (fun m s' => ∃ ρ₁ σ₁, Went C p s s' ρ₁ σ₁ ∧ iter f m (ρ₁, σ₁) = some (o, (ρ', σ'))) ?_ m ⟨ρ, σ, .refl a, q⟩)
  intro m s' hm
  refine fold fun X hX => ?_
  obtain ⟨ρ₁, σ₁, w, hit⟩ := hm
  refine hX ?_
  refine wpAny_isTrue_value (wpAny_Constant_bool (wpAny_truthy_bool ?_)) rfl
  simp only [if_true]
  cases m with
  | zero => cases hit
  | succ m =>
    refine fold fun X hX => ?_
    obtain ⟨o1, ⟨ρ2, σ2⟩, h1, h2⟩ := loop_turns hit
    refine hX ?_
    refine wpAny_mono (hb p A s' ρ₁ σ₁ o1 ρ2 σ2 P Fp M w.at_ h1) (fun fl s2 h3 => ?_) fun e s2 h3 => ?_
    · cases o1 with
      | next => exact fl1 h3 fun w2 => ⟨m, Nat.lt_succ_self _, ρ2, σ2, w.trans w2, h2⟩
      | cont => exact fl1 h3 fun w2 => ⟨m, Nat.lt_succ_self _, ρ2, σ2, w.trans w2, h2⟩
      | brk => exact fl1 h3 fun w2 => s3 (congrArg some h2.symm) ⟨rfl, w.trans w2⟩
      | ret v => exact flR (fl := fl) h3 fun u w2 => s3 (congrArg some h2.symm) ⟨u, rfl, w2.1, w.trans w2.2⟩
      | exc k => exact h3.elim
    · cases o1 with
      | exc k =>
        refine s3 (congrArg some h2.symm) ?_
        obtain ⟨ea, base, rfl, x⟩ := excSt_iff.mp (ExcSt.after w h3)
        refine note_ok P Fp M.frames x fun s3 x3 => ?_
        refine came_ok P Fp x3 fun s4 x4 => ?_
        exact excSt_iff.mpr ⟨ea, base, rfl, x4.stays, x4.fresh, x4.ff, .inr x4.st, x4.me, x4.low, x4.keep, x4.went⟩
      | _ => exact h3.elim
end
section
variable {C : Cx} {nm : List Str} {sc : Scope} {n : Nat} {p : Pl}
inductive LabAt (C : Cx) (h : Heap) (x : Str) (k : Nat) : Prop
  | mk (h1 : nsIn (KAll C.w.params) mainGlobals x = some (some (.ref k))) (nm q N bs hdct sn sub ab col dd k0 k1 k2 k3 k5 mN)
    (h2 : h.get? k = some (excClassObj nm q k N bs exMro hdct sn sub ab col dd k0 k1 k2 k3 k5 "Exception.__new__")) (h3 : h.Ns N mN) (h4 : mN "__init__" = none)
theorem lab_at (P : PlOk C p nm sc) {s : Shared} {ρ : Loc} {σ : St} (a : At C p s.heap ρ σ) {x : Str} {k : Nat} (hk : labs.lookup x = some k) : LabAt C s.heap x k := by
  obtain ⟨h1, nm', q, N, bs, hdct, sn, sub, ab, col, dd, k0, k1, k2, k3, k5, o, h2, h3, h4, h5⟩ := labs_ok C.w.params _ (mem_of_lookup hk)
  have X := P.top.keeps a.base
  have e : s.heap.get? N = (⟨#[o], {}⟩ : Heap).get? 0 := by
    rw [X.k _ _ h3]
    exact (Heap.get?_some_iff.mpr ⟨rfl, (Heap.get?_some_iff.mp (X.k _ _ h3)).2⟩).symm
  exact ⟨h1, nm', q, N, bs, hdct, sn, sub, ab, col, dd, k0, k1, k2, k3, k5, _, X.k _ _ h2, .of_isNs ((isNs_as e).trans h4), (nsMap_as e _).trans h5⟩
theorem st_raise {x : Str} {k : Nat} (hx : isG sc x = true) (hk : labs.lookup x = some k) (np cp pos : Pos) : StOk C nm sc n (.Raise (some (.Call (.Name x np) [] [] cp)) none pos) (fun x => some (.exc k, x)) := by
  intro p A s ρ σ o ρ' σ' P Fp M a q
  refine s3 q ?_
  refine fold fun X hX => ?_
  cases lab_at P a hk with | mk h1 nm' q N bs hdct sn sub ab col dd k0 k1 k2 k3 k5 mN h2 h3 h4 =>
  refine hX ?_
  refine wpAny_Raise_call_sub (C := k) PySem.F.excBase_Exception M.handled rfl h4 (load_gl P a hx h1 ⟨rfl, evalArgs_nil_ ⟨rfl, Nat.zero_le _, h2, h3, fun h' e hm => ?_⟩⟩)
  have keepAll : ∀ b o, s.heap.get? b = some o → h'.get? b = some o := hm.keeps
  have Bfr : ∀ b o, C.B.get? b = some o → b ∉ frs p.stack := fun b o e' hb => by
    have := (funFrames_at a.ff b hb).1
    rw [e'] at this; cases this
  refine excSt_iff.mpr ⟨e, hideAll s.heap (frs p.stack), rfl, fun b o e' => keepAll b o (of_hideAll _ e'), ?_, ?_, .inl ?_, fun y dy ho => ?_, fun b o e' => hideAll_get _ (a.base b o e') (Bfr b o e'), fun b o e' n1 _ n2 _ => hideAll_get _ e' fun hb => ?_, .of_kept P a (.of_all keepAll)⟩
  · cases q : (hideAll s.heap (frs p.stack)).get? e with
    | none => rfl
    | some o => have := of_hideAll _ q; rw [hm.new] at this; cases this
  · have gen : ∀ {l : List Env} {as : List Addr}, (∀ b ∈ frs l, b ∈ as) → s.heap.FunFrames C.B l → h'.FunFrames (hideAll s.heap as) l := by
      intro l as
      induction l with
      | nil => intros; trivial
      | cons env r ih =>
        rintro hs ⟨z1, ⟨L, o, z2, z3, z4, z5⟩, z6⟩
        have e1 : frs (env :: r) = L :: frs r := by simp [frs, z2]
        exact ⟨z1, ⟨L, o, z2, hideAll_none _ (hs L (by rw [e1]; exact .head _)), keepAll _ _ z4, z5⟩, ih (fun b hb => hs b (by rw [e1]; exact .tail _ hb)) z6⟩
    exact gen (fun b hb => hb) a.ff
  · obtain ⟨t, ht, _⟩ := hm.there
    exact ⟨.ref t, _, _, ht, rfl, rfl, rfl, rfl⟩
  · obtain ⟨es, c, z1, z2, z3⟩ := a.me y dy ho
    obtain ⟨_, q2, q3, q4, q5, _⟩ := P.ob y dy ho
    refine ⟨es, c, hideAll_get _ z1 fun hb => ?_, hideAll_get _ z2 fun hb => ?_, z3⟩
    · rcases frs_stack P hb with z | z
      · exact q2 z
      · exact q4 z
    · rcases frs_stack P hb with z | z
      · exact q3 z
      · exact q5 z
  · rcases frs_stack P hb with z | z
    · exact n1 z
    · exact n2 z
theorem st_try {b : List Stmt} {f : Sg → Option (Out × Sg)} {x : Str} {k : Nat} (hb : BlOk C nm sc n b f) (hx : isG sc x = true) (hk : labs.lookup x = some k) (np pp hp pos : Pos) :
    StOk C nm sc n (.Try b [.ExceptHandler (some (.Name x np)) none [.Pass pp] hp] [] [] pos) (fun x => (f x).bind fun (o, y) => match o with
    | .exc k' => if k' = k then some (.next, y) else Option.none
    | o => some (o, y)) := by
  intro p A s ρ σ o ρ' σ' P Fp M a q0
  refine bd3 q0 fun o1 ρ1 σ1 h1 q => ?_
  clear q0
  refine wpAny_Try_except (wpAny_mono (hb p A s ρ σ o1 ρ1 σ1 P Fp M a h1) (fun fl s1 h2 => ?_) fun e s1 h2 => ?_)
  · cases o1 with
    | next => exact fl1 h2 fun w => s3 q (wpAny_execs_nil ⟨rfl, w⟩)
    | exc k => exact h2.elim
    | ret v => exact flR (fl := fl) h2 fun u w => s3 q ⟨u, rfl, w⟩
    | brk => exact fl1 h2 fun w => s3 q ⟨rfl, w⟩
    | cont => exact fl1 h2 fun w => s3 q ⟨rfl, w⟩
  · cases o1 with
    | exc k' =>
      · refine idt q fun hkk q => s3 q ?_
        subst hkk
        obtain ⟨ea, base, rfl, x1⟩ := excSt_iff.mp h2
        refine note_ok P Fp M.frames x1 fun s2 x2 => ?_
        obtain ⟨a0, ht⟩ := x2.st
        refine land_ok P ht x2 fun s3 x3 => ?_
        refine wpAny_handleBy_cons (codeAny_handlers_test ?_) (by intro q; cases q)
        have a3 := x3.went.at_
        refine fold fun X hX => ?_
        cases lab_at P a3 hk with | mk e1 nm' qn N bs hdct sn sub ab col dd k0 k1 k2 k3 k5 mN e2 e3 e4 =>
        refine hX ?_
        refine load_gl P a3 hx e1 ?_
        refine fold fun X hX => ?_
        obtain ⟨a0', oe, vs, T, oT, ts, he, ⟨hcls, h0⟩, hd, hrest⟩ := x3.st
        obtain ⟨hp3, g3, d3, t3, os3⟩ := s3
        refine hX ?_
        refine wpAny_excMatches_sub_self e2 he hcls (by decide) ?_
        simp only [if_true]
        refine codeAny_handlers_suite (land_ok P (x3.st.choose_spec) x3 fun s4 x4 => ?_)
        refine wpAny_execs_cons (wpAny_Pass ?_)
        refine wpAny_execs_nil ?_
        exact ⟨rfl, x4.went⟩
    | _ => exact h2.elim
end
section
variable {C : Cx} {nm : List Str} {sc : Scope} {n : Nat} {p : Pl}
theorem exact_fn {h h' : Heap} {ρ : Loc} {σ : St} (P : PlOk C p nm sc) (x : Ext C p h h') (a : At C p h ρ σ) {b : Addr} {o : Obj} (e : h.get? b = some o) (d : ∀ es k, o.data ≠ .dict es k) (dc : ∀ v, o.data ≠ .cell v) : h'.get? b = some o := by
  refine x.keep b o e (fun q => ?_) (fun q => ?_) (fun q => ?_) (fun y dy ho q => ?_)
  · obtain ⟨m, o', es, k, e', d', _⟩ := a.ns
    rw [q] at e; rw [e] at e'; cases e'; exact d _ _ d'
  · obtain ⟨v, o', e', d'⟩ := a.cells b q
    rw [e] at e'; cases e'; exact dc _ d'
  · obtain ⟨o', es, k, e', d'⟩ := a.fd b (outer_stack P q)
    rw [e] at e'; cases e'; exact d _ _ d'
  · obtain ⟨es, k, _, h2, _⟩ := a.me y dy ho
    rw [q, h2] at e; cases e; exact d _ _ rfl
inductive ForI (C : Cx) (p : Pl) (s₀ : Shared) (G : V → Sg → Option (Out × Sg)) (l : List V) (o : Out) (z : Sg) (St' : Nat → Heap → Prop) (k : Nat) (s' : Shared) : Prop where
  | mk (i' : Nat) (ρ₁ : Loc) (σ₁ : St) (hi' : i' ≤ l.length) (hk : k = l.length + 1 - i') (w : Went C p s₀ s' ρ₁ σ₁) (hrun : evFor G (l.drop i') (ρ₁, σ₁) = some (o, z)) (hst : St' i' s'.heap)
theorem for_core {A : Around} {b : List Stmt} {x : Str} {i : Nat} {px : Pos} {f : Sg → Option (Out × Sg)} (P : PlOk C p nm sc) (Fp : PlFn p) (M : Rm p A n) (hi : idx nm x = some i) (hx : stores sc x = true) (hb : BlOk C nm sc n b f)
    {s₀ : Shared} {oI : Obj} {ρ ρ' : Loc} {σ σ' : St} {l : List V} {o : Out} (a₀ : At C p s₀.heap ρ σ) (hg : evFor (fun v y => f (setV y.1 i v, y.2)) l (ρ, σ) = some (o, (ρ', σ')))
    {fp : List Addr} {Pz : Nat → Value → Prop} {St' : Nat → Heap → Prop} (W : Walks PW C.w A s₀.heap.objs.size fp [s₀.heap.objs.size] l.length Pz St') (st : St' 0 (s₀.heap.push oI)) (hfp : ∀ b ∈ fp, b = s₀.heap.objs.size ∨ ∃ o vs k, s₀.heap.get? b = some o ∧ o.data = .seq vs k)
    (hI : ∀ i h, St' i h → ∃ o vs, h.get? s₀.heap.objs.size = some o ∧ o.data = .fields vs) (hP : ∀ i v h y, Pz i v → l[i]? = some y → SeqKeep s₀.heap h → R C h v y) :
    codeAny (model PW C.w) A (.forLoop (.Name x px) (.ref s₀.heap.objs.size) b [] p.env) (fun r s' => match r with | .ok fl => OutQ C p s₀ o ρ' σ' fl s' | .error e => cameBackBy (model PW C.w) A p.env (OutE C p s₀ o ρ' σ') e s') { s₀ with heap := s₀.heap.push oI } := by
  have nI : NewAt C p s₀.heap.objs.size := newAt P a₀ (Nat.le_refl _)
  have fI : s₀.heap.get? s₀.heap.objs.size = none := Heap.get?_none_of_le (Nat.le_refl _)
  have old : ∀ b o, s₀.heap.get? b = some o → (s₀.heap.push oI).get? b = some o := fun b o e => Heap.get?_push_of_some _ e
  refine codeAny_forLoop_any (ForI C p s₀ (fun v y => f (setV y.1 i v, y.2)) l o (ρ', σ') St') ?_ (l.length + 1)
    ⟨0, ρ, σ, Nat.zero_le _, rfl, .of_kept P a₀ (.of_all old), hg, st⟩
  intro k s' hk
  refine fold fun X hX => ?_
  cases hk with | mk i' ρ₁ σ₁ hi' hk' w hrun hst =>
  have a := w.at_
  by_cases hlt : i' < l.length
  · obtain ⟨y, hy⟩ : ∃ y, l[i']? = some y := ⟨_, List.getElem?_eq_getElem hlt⟩
    rw [drop_at hlt hy] at hrun
    refine bd hrun fun ⟨o1, ⟨ρ2, σ2⟩⟩ hf hrun => ?_
    subst hk'
    refine hX ?_
    refine W.item i' s' _ _ hlt hst fun v h₂ tk₂ hPv hst₂ hk₂ => ?_
    have hk₂' : ∀ b o, b ≠ s₀.heap.objs.size → s'.heap.get? b = some o → h₂.get? b = some o := fun b o hb e => hk₂ b o (fun q => hb (List.mem_singleton.mp q)) e
    have at₂ : At C p h₂ ρ₁ σ₁ := a.but P hk₂' nI.own nI.outer nI.ob nI.base (walk_no hI hst)
    have w₂ : Went C p s₀ { s' with heap := h₂, toks := tk₂ } ρ₁ σ₁ := ⟨at₂, w.ext.but P hk₂' fI, w.os, w.gens⟩
    have keepSt : ∀ {s₃ : Shared} {ρ₃ σ₃}, Went C p { s' with heap := h₂, toks := tk₂ } s₃ ρ₃ σ₃ → St' (i' + 1) s₃.heap := fun w₃ => walk_frame W hfp hI (w₂.ext.seq a₀ at₂) hst₂ fun b o e => exact_fn P w₃.ext at₂ e
    refine wpAny_pure (M := model PW C.w) (A := A) (a := ()) ?_
    refine wpAny_assign_Name ?_
    refine wpAny_mono (store_var P Fp at₂ hi hx (hP i' v h₂ y hPv hy (w₂.ext.seq a₀ at₂)) fun s₃ w₃ => ?_) (fun _ _ z => z) fun _ _ z => z.elim
    refine wpAny_mono (hb p A s₃ _ σ₁ o1 ρ2 σ2 P Fp M w₃.at_ hf) (fun fl s₄ h₄ => ?_) fun e s₄ h₄ => ?_
    · have h₅ := OutQ.after w₃ h₄
      cases o1 with
      | next => refine fl1 (fl := fl) h₅ fun w₅ => ⟨l.length + 1 - (i' + 1), down hlt, ⟨i' + 1, ρ2, σ2, hlt, rfl, w₂.trans w₅, hrun, keepSt w₅⟩⟩
      | cont => refine fl1 (fl := fl) h₅ fun w₅ => ⟨l.length + 1 - (i' + 1), down hlt, ⟨i' + 1, ρ2, σ2, hlt, rfl, w₂.trans w₅, hrun, keepSt w₅⟩⟩
      | brk => refine fl1 (fl := fl) h₅ fun w₅ => ?_; refine s3 hrun ?_; exact ⟨rfl, w₂.trans w₅⟩
      | ret v => refine flR (fl := fl) h₅ fun u w₅ => ?_; refine s3 hrun ?_; exact ⟨u, rfl, w₅.1, w₂.trans w₅.2⟩
      | exc k => exact h₅.elim
    · cases o1 with
      | exc k => cases hrun
      | _ => exact h₄.elim
  · obtain rfl : i' = l.length := Nat.le_antisymm hi' (Nat.not_lt.mp hlt)
    rw [List.drop_length] at hrun
    subst hk'
    refine hX ?_
    refine s3 hrun ?_
    refine W.done s' _ _ hst fun h₂ tk₂ hk₂ => ?_
    have hk₂' : ∀ b o, b ≠ s₀.heap.objs.size → s'.heap.get? b = some o → h₂.get? b = some o := fun b o hb e => hk₂ b o (fun q => hb (List.mem_singleton.mp q)) e
    have at₂ : At C p h₂ ρ₁ σ₁ := a.but P hk₂' nI.own nI.outer nI.ob nI.base (walk_no hI hst)
    exact wpAny_execs_nil ⟨rfl, at₂, w.ext.but P hk₂' fI, w.os, w.gens⟩
theorem st_forE {it : Expr} {b : List Stmt} {x : Str} {i : Nat} {fit : Loc → St → Option (V × St)} {f : Sg → Option (Out × Sg)} (hi : idx nm x = some i) (hx : stores sc x = true) (hset : notSet it = true) (hit : EvOk C nm sc n it fit) (hb : BlOk C nm sc n b f) (px pos : Pos) :
    StOk C nm sc n (.For (.Name x px) it b [] pos) (fun (ρ, σ) => (fit ρ σ).bind fun (v, σ) => (itemsOf v).bind fun l => evFor (fun v y => f (setV y.1 i v, y.2)) l (ρ, σ)) := by
  intro p A s ρ σ o ρ' σ' P Fp M a q
  obtain ⟨⟨v, σ1⟩, h1, q⟩ := Option.bind_eq_some_iff.mp q
  obtain ⟨l, h2, q⟩ := Option.bind_eq_some_iff.mp q
  obtain ⟨h3, _⟩ := items_raw h2
  refine wpAny_For (wpAny_mono (hit p A s ρ σ v σ1 P M a h1) (fun u s1 ⟨r1, w1⟩ => ?_) fun _ _ z => z.elim) (foldedSet hset _)
  refine iter_ok M.handled r1 h3 fun oI fp Pz St ho hfp W st hI hP => ?_
  refine codeAny_mono (for_core P Fp M hi hx hb w1.at_ q W st hfp hI hP) fun r s2 h4 => ?_
  cases r with
  | ok fl => exact h4.after w1
  | error e => exact wpAny_mono h4 (fun _ _ z => z.after w1) fun _ _ z => z.after w1
theorem range_walk {A : Around} {b : List Stmt} {x : Str} {i : Nat} {px : Pos} {f : Sg → Option (Out × Sg)} (P : PlOk C p nm sc) (Fp : PlFn p) (M : Rm p A n) (hi : idx nm x = some i) (hx : stores sc x = true) (hb : BlOk C nm sc n b f)
    {s₀ : Shared} {ρ ρ' : Loc} {σ σ' : St} {o : Out} (a₀ : At C p s₀.heap ρ σ) {r : Addr} {lo hi' c : Int} {t u v : Tok} (hr : IsRange s₀.heap r lo hi' c t u v) (hsm : Builtin.Range.small lo hi' c = true) {N : Nat} (hn : Builtin.Range.rangeSize lo hi' c = (N : Int))
    (hg : evFor (fun v y => f (setV y.1 i v, y.2)) ((List.range N).map fun (k : Nat) => V.int (lo + (k : Int) * c)) (ρ, σ) = some (o, (ρ', σ'))) :
    wpAny (model PW C.w) A (pyIter (.ref r)) (fun it s₂ => codeAny (model PW C.w) A (.forLoop (.Name x px) it b [] p.env) (fun r s' => match r with | .ok fl => OutQ C p s₀ o ρ' σ' fl s' | .error e => cameBackBy (model PW C.w) A p.env (OutE C p s₀ o ρ' σ') e s') s₂) (OutE C p s₀ o ρ' σ') s₀ := by
  refine wpAny_pyIter_range hr hsm ?_
  have W := Walks.range (prog := PW) (w := C.w) M.handled s₀.heap.objs.size lo c N
  have e1 : ((List.range N).map fun (k : Nat) => V.int (lo + (k : Int) * c)).length = N := by simp
  rw [← e1] at W
  refine for_core P Fp M hi hx hb a₀ hg W ?_ (fun b hb => .inl (List.mem_singleton.mp hb)) (fun i h st => ⟨_, _, st, rfl⟩) fun i v h y hv hy _ => ?_
  · show IsRangeIter _ _ _ _ _
    rw [hn, e1]
    simpa using Heap.get?_push_size _ rfl
  · obtain ⟨t, rfl⟩ := hv
    rw [List.getElem?_map] at hy
    obtain ⟨k, hk, rfl⟩ := Option.map_eq_some_iff.mp hy
    have : k = i := by
      rw [List.getElem?_range] at hk
      · simpa using hk.symm
      · have := (List.getElem?_eq_some_iff.mp hk).1; simpa using this
    subst this
    exact ⟨t, rfl⟩
theorem okI_of {i : Int} (h : okI i = true) : -1000000000 < i ∧ i < 1000000000 := by
  unfold okI at h; simpa using h
theorem rng_size2 (l h : Int) : Builtin.Range.rangeSize l h 1 = ((h - l).toNat : Int) := by rw [PySem.rangeSize_one]; split <;> omega
theorem rng_size3 (h : Int) : Builtin.Range.rangeSize h (-1) (-1) = ((h + 1).toNat : Int) := by
  unfold Builtin.Range.rangeSize
  have e0 : ¬ ((-1 : Int) > 0) := by decide
  have e1 : (-(-1 : Int)) = 1 := rfl
  simp only [e0, if_false]
  rw [e1, Int.ediv_one]
  split <;> omega
theorem rng_small2 {l h : Int} (h1 : okI l = true) (h2 : okI h = true) : Builtin.Range.small l h 1 = true := by
  have := okI_of h1
  have := okI_of h2
  unfold Builtin.Range.small
  rw [rng_size2]
  simp [Builtin.Range.rangeFitsLong]
  omega
theorem rng_small3 {h : Int} (h1 : okI h = true) : Builtin.Range.small h (-1) (-1) = true := by
  have := okI_of h1
  unfold Builtin.Range.small
  rw [rng_size3]
  simp [Builtin.Range.rangeFitsLong]
  omega
theorem rng_map2 (l : Int) (N : Nat) : ((List.range N).map fun (k : Nat) => V.int (l + (k : Int))) = ((List.range N).map fun (k : Nat) => V.int (l + (k : Int) * 1)) := List.map_congr_left fun k _ => by rw [Int.mul_one]
theorem rng_map3 (h : Int) (N : Nat) : ((List.range N).map fun (k : Nat) => V.int (h - (k : Int))) = ((List.range N).map fun (k : Nat) => V.int (h + (k : Int) * (-1))) := List.map_congr_left fun k _ => by rw [Int.mul_neg, Int.mul_one]; rfl
theorem rng_after {A : Around} {b : List Stmt} {x : Str} {i : Nat} (px : Pos) {f : Sg → Option (Out × Sg)} (P : PlOk C p nm sc) (Fp : PlFn p) (M : Rm p A n) (hi : idx nm x = some i) (hx : stores sc x = true) (hb : BlOk C nm sc n b f)
    {s s1 : Shared} {ρ ρ' : Loc} {σ σ' : St} {o : Out} (w1 : Went C p s s1 ρ σ) {oR : Obj} {tk : Nat} (kp : Kept p s1.heap (s1.heap.push oR)) {r : Addr} {lo hi' c : Int} {t u v : Tok} (hr : IsRange (s1.heap.push oR) r lo hi' c t u v) (hsm : Builtin.Range.small lo hi' c = true) {N : Nat} (hn : Builtin.Range.rangeSize lo hi' c = (N : Int))
    (hg : evFor (fun v y => f (setV y.1 i v, y.2)) ((List.range N).map fun (k : Nat) => V.int (lo + (k : Int) * c)) (ρ, σ) = some (o, (ρ', σ'))) :
    wpAny (model PW C.w) A (pyIter (.ref r)) (fun it s₂ => codeAny (model PW C.w) A (.forLoop (.Name x px) it b [] p.env) (fun r s' => match r with | .ok fl => OutQ C p s o ρ' σ' fl s' | .error e => cameBackBy (model PW C.w) A p.env (OutE C p s o ρ' σ') e s') s₂) (OutE C p s o ρ' σ') { s1 with heap := s1.heap.push oR, toks := tk } := by
  have w2 : Went C p s { s1 with heap := s1.heap.push oR, toks := tk } ρ σ := w1.trans (.of_kept P w1.at_ kp)
  refine wpAny_mono (range_walk (px := px) P Fp M hi hx hb w2.at_ hr hsm hn hg) (fun it s3 h5 => ?_) fun _ _ z => z.after w2
  refine codeAny_mono h5 fun r s2 h4 => ?_
  cases r with
  | ok fl => exact h4.after w2
  | error e => exact wpAny_mono h4 (fun _ _ z => z.after w2) fun _ _ z => z.after w2
theorem st_forR {lo hi : Expr} {b : List Stmt} {x : Str} {i : Nat} {fl fh : Loc → St → Option (V × St)} {f : Sg → Option (Out × Sg)} (hi' : idx nm x = some i) (hx : stores sc x = true) (hr : isG sc "range" = true) (hlo : EvOk C nm sc n lo fl) (hhi : EvOk C nm sc n hi fh)
    (hs : notStar lo = true) (hs' : notStar hi = true) (hb : BlOk C nm sc n b f) (px rp cp pos : Pos) :
    StOk C nm sc n (.For (.Name x px) (.Call (.Name "range" rp) [lo, hi] [] cp) b [] pos) (fun (ρ, σ) => (fl ρ σ).bind fun (v, σ) => (fh ρ σ).bind fun (w, σ) => match v, w with
    | .int l, .int h => if !(okI l && okI h) then Option.none else evFor (fun v y => f (setV y.1 i v, y.2)) ((List.range (h - l).toNat).map fun (k : Nat) => V.int (l + (k : Int))) (ρ, σ)
    | _, _ => Option.none) := by
  intro p A s ρ σ o ρ' σ' P Fp M a q
  refine bd2 q fun v σ1 h1 q => bd2 q fun w σ2 h2 q => ii q fun l h hv hw q => idb q fun hok q => ?_
  have ho := Bool.and_eq_true_iff.mp hok
  refine wpAny_For (wpAny_Call_ofName (load_blt P a hr (blt_names C.w.params).2.2.2.2 blt_vals.2.2.2.2 (by decide) ?_))
  refine PySem.callWith_type (star_any (ns2 hs hs') _ _) (wpAny_mono (evalArgs_ok (.cons hlo (.cons hhi .nil)) (ns2 hs hs') cp P M a (evL2 h1 h2) fun us s1 r w1 => ?_) (fun _ _ z => z) fun _ _ z => z.elim)
  refine al2 r fun u u' r r' => ?_
  obtain ⟨t, rfl⟩ := R.of_int hv r
  obtain ⟨t', rfl⟩ := R.of_int hw r'
  refine call_range_2 ?_
  exact rng_after px P Fp M hi' hx hb w1 (.of_all fun b o e => Heap.get?_push_of_some _ e) (IsRange.new ..) (rng_small2 ho.1 ho.2) (rng_size2 _ _) (rng_map2 l _ ▸ q)
theorem st_forD {hi : Expr} {b : List Stmt} {x : Str} {i : Nat} {fh : Loc → St → Option (V × St)} {f : Sg → Option (Out × Sg)} {k1 k2 : Nat} {cp1 cp2 up1 up2 : Pos} (hi' : idx nm x = some i) (hx : stores sc x = true) (hr : isG sc "range" = true) (hhi : EvOk C nm sc n hi fh)
    (hs : notStar hi = true) (hb : BlOk C nm sc n b f) (px rp cp pos : Pos) :
    StOk C nm sc n (.For (.Name x px) (.Call (.Name "range" rp) [hi, .UnaryOp .USub (.Constant (.int 1) k1 cp1) up1, .UnaryOp .USub (.Constant (.int 1) k2 cp2) up2] [] cp) b [] pos) (fun (ρ, σ) => (fh ρ σ).bind fun (v, σ) => match v with
    | .int h => if !okI h then Option.none else evFor (fun v y => f (setV y.1 i v, y.2)) ((List.range (h + 1).toNat).map fun (k : Nat) => V.int (h - (k : Int))) (ρ, σ)
    | _ => Option.none) := by
  intro p A s ρ σ o ρ' σ' P Fp M a q
  refine bd2 q fun v σ1 h1 q => ii1 q fun h hv q => idb q fun hok q => ?_
  refine wpAny_For (wpAny_Call_ofName (load_blt P a hr (blt_names C.w.params).2.2.2.2 blt_vals.2.2.2.2 (by decide) ?_))
  have hss : [hi, .UnaryOp .USub (.Constant (.int 1) k1 cp1) up1, .UnaryOp .USub (.Constant (.int 1) k2 cp2) up2].all notStar = true := by rw [List.all_cons, hs]; rfl
  refine PySem.callWith_type (star_any hss _ _) (wpAny_mono (evalArgs_ok (.cons hhi (.cons (ev_neg _ _ _) (.cons (ev_neg _ _ _) .nil))) hss cp P M a (xs := [v, .int (-1), .int (-1)]) (σ' := σ1) ((congrArg (Option.bind · _) h1).trans rfl) fun us s1 r w1 => ?_) (fun _ _ z => z) fun _ _ z => z.elim)
  refine al3 r fun u u' u'' r r' r'' => ?_
  obtain ⟨t, rfl⟩ := R.of_int hv r
  obtain ⟨t', rfl⟩ := r'
  obtain ⟨t'', rfl⟩ := r''
  refine call_range_3 (by decide) ?_ (.inl (PyProof.noPylong_small (by decide)))
  exact rng_after px P Fp M hi' hx hb w1 (.of_all fun b o e => Heap.get?_push_of_some _ e) (IsRange.new ..) (rng_small3 hok) (rng_size3 _) (rng_map3 h _ ▸ q)
end
section
variable {C : Cx} {nm : List Str} {sc sc' : Scope} {n : Nat} {p : Pl} {x y : Str}
theorem asg_comp {iter elt : Expr} {ifs : List Expr} {fit : Loc → St → Option (V × St)} {g : Loc → V → St → Option (Option T × St)} {i j : Nat} (hy : stores sc y = true) (hj : idx nm y = some j) (hc : CompOk sc sc' x) (hi : idx nm x = some i) (hit : EvOk C nm sc n iter fit) (hset : notSet iter = true) (T : TurnOk C nm sc' n ifs elt g i) (px py pos spos : Pos)
    {A : Around} {s : Shared} {ρ : Loc} {σ σ' : St} {ts : List Mine.T} (P : PlOk C p nm sc) (Fp : PlFn p) (M : Rm p A n) (a : At C p s.heap ρ σ)
    (q : ((fit ρ σ).bind fun (y, σ) => (itemsOf y).bind fun l => runT (fun y σ => g ((seen (visOf nm sc') ρ).set i (some y)) y σ) l σ) = some (ts, σ')) {Q : Flow → Shared → Prop} {E : Value → Shared → Prop}
    (k : ∀ s', Went C p s s' (setV ρ j (.strs ts)) σ' → Q .next s') (hE : ∀ e s', No e s' → E e s') :
    wpAny (model PW C.w) A (exec (.Assign [.Name y py] (.ListComp elt [⟨.Name x px, iter, ifs, 0⟩] sc' pos) spos) p.env) Q E s := by
  refine wpAny_mono (E := No) (Q := Q) ?_ (fun _ _ z => z) hE
  obtain ⟨⟨v, σ1⟩, h1, q⟩ := Option.bind_eq_some_iff.mp q
  obtain ⟨l, h2, h3⟩ := Option.bind_eq_some_iff.mp q
  obtain ⟨h4, h5⟩ := items_raw h2
  have hsw : ∃ b, swapsWith (.ListComp elt [⟨.Name x px, iter, ifs, 0⟩] sc' pos) (some (.Name y py)) spos.line p.env = pure b := ⟨_, rfl⟩
  obtain ⟨b, hsw⟩ := hsw
  cases b with
  | false =>
    refine wpAny_Assign_Name (wpAny_mono (ev_comp hc hi hit hset T px pos p A s ρ σ (.strs ts) σ' P M a (by simp [h1, h2, h3])) (fun u s1 ⟨r1, w1⟩ => ?_) fun _ _ z => z) hsw
    exact wpAny_mono (store_var P Fp w1.at_ hj hy r1 fun s' w => k s' (w1.trans w)) (fun _ _ z => z) fun _ _ z => z
  | true =>
    obtain ⟨cl, hclos, hcl⟩ := closure_ok P hc
    rw [exec_Assign_Name_used _ _ _ _ hsw]
    refine wpAny_bind (wpAny_standAt (wpAny_bind ?_))
    show wpAny _ A (do let _ ← comprehension (.ListComp elt [⟨.Name x px, iter, ifs, 0⟩] sc' pos) sc' p.env _ (newList []) false (eval iter p.env) (some (assign (.Name y py) p.env))) _ _ s
    refine wpAny_bind (wpAny_mono (wpAny_comprehension_free (use := some (assign (.Name y py) p.env)) (Q := fun _ s' => Q .next s') rfl (foldedSet hset p.env) hclos hc.kind hc.locs
      (wpAny_mono (hit p A s ρ σ v σ1 P M a h1) (fun u s1 ⟨r1, w1⟩ => ?_) fun _ _ z => z)) (fun _ s' hq => wpAny_pure (wpAny_pure hq)) fun _ _ e => e)
    refine iter_ok M.handled r1 h4 fun o fp Pz St ho hfp W st hI hP => ?_
    refine comp_loop P M hc hcl hi T w1.at_ h3 h5 W st hfp hI hP fun D Cd s' f => ?_
    obtain ⟨us, k1, k2⟩ := f.lst
    obtain ⟨m', hn⟩ := f.ns
    have at1 : At C p s'.heap ρ σ' := f.at_.up P fun _ _ => Heap.of_hide
    have w2 : Went C p s1 s' ρ σ' := ⟨at1, f.ext, f.os, f.gens⟩
    show wpAny _ A (assign (.Name y py) p.env (.ref D)) _ _ _
    refine wpAny_assign_Name (store_var (v := .strs ts) P Fp at1 hj hy ⟨D, us, rfl, ⟨_, k1, rfl, _, rfl⟩, k2⟩ fun s2 w3 => ?_)
    obtain ⟨o', es, c, e', d', hr⟩ := hn
    have hC2 : s2.heap.get? Cd = some o' := w3.ext.keep Cd o' e' f.newC.own (fun q => by
      obtain ⟨v, o'', e2, d2⟩ := at1.cells Cd q
      rw [e'] at e2; cases e2; rw [d'] at d2; cases d2) f.newC.outer fun y dy ho => (f.newC.ob y dy ho).2
    refine ⟨m', ⟨o', es, c, hC2, d', hr⟩, fun h' hs => ?_⟩
    have hk : ∀ b o, b ≠ Cd → s2.heap.get? b = some o → h'.get? b = some o := fun b o hb e => hs.extBut b o hb e
    have w4 := (w1.trans w2).trans w3
    refine k _ ⟨At.but P w3.at_ hk f.newC.own f.newC.outer f.newC.ob f.newC.base fun o e => ?_, ?_, w4.os, w4.gens⟩
    · rw [hC2] at e; cases e
      exact ⟨fun ws c q => (by rw [d'] at q; cases q), fun w q => (by rw [d'] at q; cases q)⟩
    · exact w1.ext.trans (Ext.but P (w2.ext.trans w3.ext) hk f.freshC)
end
section
variable {C : Cx} {nm : List Str} {n : Nat} {Φ : Phi} {Ψ : Psi}
section
variable {sc sc' : Scope} {y x : Str} {i j : Nat} {it elt : Expr} {a b : E}
theorem asg_map (hy : stores sc y = true) (hj : idx nm y = some j) (hc : CompOk sc sc' x) (hi : idx nm x = some i) (ha : EvOk C nm sc n it (ev' Φ Ψ a)) (hset : notSet it = true) (hb : EvOk C nm sc' n elt (ev' Φ Ψ b)) (px pos py spos : Pos) :
    StOk C nm sc n (.Assign [.Name y py] (.ListComp elt [⟨.Name x px, it, [], 0⟩] sc' pos) spos) (fun (ρ, σ) => ((ev' Φ Ψ a ρ σ).bind fun (x, σ) => (itemsOf x).bind fun l => (evEach (fun v σ => ev' Φ Ψ b ((seen (visOf nm sc') ρ).set i (some v)) σ) l σ).bind fun (ys, σ) => (strsOf ys).map fun ts => (V.strs ts, σ)).bind fun (v, σ) => some (.next, (setV ρ j v, σ))) := by
  intro p A s ρ σ o ρ' σ' P Fp M a0 q
  refine bd2 q fun w σ1 h1 q => s3 q ?_
  refine bd2 h1 fun u σ2 h2 h1 => bd h1 fun l h3 h1 => bd2 h1 fun ys σ3 h4 h1 => mdc h1 fun ts h5 e => s2 (congrArg some e) ?_
  exact asg_comp hy hj hc hi ha hset (turn_map hb i) _ _ _ _ P Fp M a0 (run_bind h2 h3 (runT_each h4 h5)) (fun s' w => ⟨rfl, w⟩) fun _ _ z => z.elim
theorem asg_keep {c : Expr} (hy : stores sc y = true) (hj : idx nm y = some j) (hc : CompOk sc sc' x) (hi : idx nm x = some i) (ha : EvOk C nm sc n it (ev' Φ Ψ a)) (hset : notSet it = true) (hb : TrOk C nm sc' n c (ev' Φ Ψ b)) (hx : okN x = true) (px pe pos py spos : Pos) :
    StOk C nm sc n (.Assign [.Name y py] (.ListComp (.Name x pe) [⟨.Name x px, it, [c], 0⟩] sc' pos) spos) (fun (ρ, σ) => (if ρ.length ≤ i then Option.none else (ev' Φ Ψ a ρ σ).bind fun (x, σ) => (itemsOf x).bind fun l => (evKeep (fun v σ => ev' Φ Ψ b ((seen (visOf nm sc') ρ).set i (some v)) σ) l σ).bind fun (ys, σ) => (strsOf ys).map fun ts => (V.strs ts, σ)).bind fun (v, σ) => some (.next, (setV ρ j v, σ))) := by
  intro p A s ρ σ o ρ' σ' P Fp M a0 q
  refine bd2 q fun w σ1 h1 q => s3 q ?_
  refine fold fun X hX => ?_
  by_cases hlen : ρ.length ≤ i
  · exact nn ((if_pos hlen).symm.trans h1)
  refine hX ?_
  refine bd2 ((if_neg hlen).symm.trans h1) fun u σ2 h2 h1 => bd h1 fun l h3 h1 => bd2 h1 fun ys σ3 h4 h1 => mdc h1 fun ts h5 e => s2 (congrArg some e) ?_
  refine asg_comp hy hj hc hi ha hset (turn_keep hb hi hx) _ _ _ _ P Fp M a0 (run_bind h2 h3 ?_) (fun s' w => ⟨rfl, w⟩) fun _ _ z => z.elim
  refine Eq.trans (congrArg (fun F => runT F l σ2) (funext fun y => funext fun σ => if_neg (nlt hlen))) (runT_keep h4 h5)
end
theorem lc_of {k : Nat} {sc : Scope} {v : Expr} {e' : E} (h : cE NM nm (k + 1) sc v = some e') (hn : ¬ notComp v = true) : ∃ elt gs sc' p, v = .ListComp elt gs sc' p := by
  cases v <;> first | exact absurd rfl hn | exact ⟨_, _, _, _, rfl⟩ | exact nn h
theorem st_asg_any (hΨ : ∀ x f, fns.lookup x = some f → CallOk C n f (fnG Ψ f)) (hΦ : ∀ a m, mths.lookup a = some m → CallOk C n m (mtG Φ m)) {k : Nat} {sc : Scope} {v : Expr} {e' : E} (h : cE NM nm k sc v = some e') {y : Str} {j : Nat} (hy : stores sc y = true) (hj : idx nm y = some j) (py spos : Pos) :
    StOk C nm sc n (.Assign [.Name y py] v spos) (fun (ρ, σ) => (ev' Φ Ψ e' ρ σ).bind fun (v, σ) => some (.next, (setV ρ j v, σ))) := by
  by_cases hn : notComp v = true
  · exact st_asg hy hj (cE_ok hΨ hΦ k sc v e' h).1 hn _ _
  cases k with
  | zero => cases h
  | succ k =>
    have R := cE_rc (nm := nm) hΨ hΦ k
    obtain ⟨elt, gs, sc', p, rfl⟩ := lc_of h hn
    refine bd h fun g hg h => idt h fun h0 h => bd h fun x hx h => ?_
    rw [one_eq hg]
    cases g with | mk t it ifs z =>
    cases h0
    obtain ⟨px, rfl⟩ := asName_eq hx
    refine idb h fun hc h => bd h fun i hi h => bd h fun a ha h => ?_
    have hc := Bool.and_eq_true_iff.mp hc
    cases ifs with
    | nil =>
      refine bd h fun b hb h => s1' h ?_
      exact asg_map hy hj (compOk_of hc.1) hi (R _ _ _ ha).1.1 hc.2 (R _ _ _ hb).1.1 _ _ _ _
    | cons c r =>
      cases r with
      | cons _ _ => exact nn h
      | nil =>
        refine idt h fun hy' h => bd h fun b hb h => s1' h ?_
        have hy' := Bool.and_eq_true_iff.mp hy'
        obtain ⟨pe, rfl⟩ := asName_eq (eq_of_beq hy'.1)
        exact asg_keep hy hj (compOk_of hc.1) hi (R _ _ _ ha).1.1 hc.2 (R _ _ _ hb).1.2 hy'.2 _ _ _ _ _
end
section
variable {C : Cx} {nm : List Str} {sc : Scope} {n : Nat} {Φ : Phi} {Ψ : Psi}
theorem StOk.of {st : Stmt} {f f' : Sg → Option (Out × Sg)} (h : StOk C nm sc n st f) (k : ∀ ρ σ r, f' (ρ, σ) = some r → f (ρ, σ) = some r) : StOk C nm sc n st f' :=
  fun p A s ρ σ o ρ' σ' P Fp M a q => h p A s ρ σ o ρ' σ' P Fp M a (k _ _ _ q)
theorem BlOk.of {st : List Stmt} {f f' : Sg → Option (Out × Sg)} (h : BlOk C nm sc n st f) (k : ∀ ρ σ r, f' (ρ, σ) = some r → f (ρ, σ) = some r) : BlOk C nm sc n st f' :=
  fun p A s ρ σ o ρ' σ' P Fp M a q => h p A s ρ σ o ρ' σ' P Fp M a (k _ _ _ q)
theorem asCall_eq {e f : Expr} {as : List Expr} {ks : List Keyword} (h : asCall e = some (f, as, ks)) : ∃ p, e = .Call f as ks p := by
  cases e <;> first | exact nn h | (cases h; exact ⟨_, rfl⟩)
theorem asBare_eq {e : Expr} {x : Str} (h : asBare e = some x) : ∃ p q, e = .Call (.Name x p) [] [] q := by
  obtain ⟨⟨f, as, ks⟩, hc, h'⟩ := Option.bind_eq_some_iff.mp h
  obtain ⟨q, rfl⟩ := asCall_eq hc
  refine idt h' fun hr h'' => ?_
  obtain ⟨h1, h2⟩ := Bool.and_eq_true_iff.mp hr
  obtain ⟨p, rfl⟩ := asName_eq h''
  obtain rfl := isE h1
  obtain rfl := isE h2
  exact ⟨_, _, rfl⟩
theorem kBool_eq {c : Const} {s : Bool} (h : kBool c = some s) : c = .bool s := by cases c <;> first | exact nn h | exact congrArg _ (Option.some.inj h)
theorem isTrue_eq {e : Expr} (h : isTrue' e = true) : ∃ k p, e = .Constant (.bool true) k p := by
  obtain ⟨c, hc, hx⟩ := Option.bind_eq_some_iff.mp (eq_of_beq h)
  obtain ⟨k, pos, rfl⟩ := asConst_eq hc
  obtain rfl := kBool_eq hx
  exact ⟨_, _, rfl⟩
theorem asNeg_eq {e x : Expr} (h : asNeg e = some x) : ∃ q, e = .UnaryOp .USub x q := by
  cases e with
  | UnaryOp o y q => cases o <;> first | exact nn h | (cases h; exact ⟨_, rfl⟩)
  | _ => first | exact nn h | exact nf h | exact nomatch h
theorem isM1_eq {e : Expr} (h : isM1 e = true) : ∃ k p q, e = .UnaryOp .USub (.Constant (.int 1) k p) q := by
  obtain ⟨x, hx, h'⟩ := Option.bind_eq_some_iff.mp (eq_of_beq h)
  obtain ⟨q, rfl⟩ := asNeg_eq hx
  obtain ⟨k, p, rfl⟩ := asInt_eq h'
  exact ⟨_, _, _, rfl⟩
theorem isPass_eq {s : Stmt} (h : isPass s = true) : ∃ q, s = .Pass q := by
  cases s <;> first | exact nf h | exact ⟨_, rfl⟩
theorem isN {α : Type} {o : Option α} (h : o.isNone = true) : o = none := by cases o with | none => rfl | some => cases h
theorem hand_eq {e : ExceptHandler} {x : Str} (h : hand e = some x) : ∃ p q q', e = .ExceptHandler (some (.Name x p)) none [.Pass q] q' := by
  cases e with
  | ExceptHandler t n b q' =>
    refine idt h fun hn h1 => ?_
    obtain ⟨s, hs, h2⟩ := Option.bind_eq_some_iff.mp h1
    refine idt h2 fun hp h3 => ?_
    obtain ⟨y, rfl, h4⟩ := Option.bind_eq_some_iff.mp h3
    obtain ⟨p, rfl⟩ := asName_eq h4
    obtain ⟨q, rfl⟩ := isPass_eq hp
    rw [isN hn, one_eq hs]
    exact ⟨_, _, _, rfl⟩
theorem rngOf_eq {e : Expr} {as : List Expr} (h : rngOf sc e = some as) : isG sc "range" = true ∧ ∃ p q, e = .Call (.Name "range" p) as [] q := by
  obtain ⟨⟨f, as', ks⟩, hc, h'⟩ := Option.bind_eq_some_iff.mp h
  obtain ⟨q, rfl⟩ := asCall_eq hc
  obtain ⟨r, hr, h''⟩ := Option.bind_eq_some_iff.mp h'
  obtain ⟨p, rfl⟩ := asName_eq hr
  refine idt h'' fun hr2 h3 => ?_
  cases h3
  obtain ⟨h0, hr3⟩ := Bool.and_eq_true_iff.mp hr2
  obtain rfl := isE h0
  obtain ⟨h1, h2⟩ := Bool.and_eq_true_iff.mp hr3
  cases eq_of_beq h1
  exact ⟨h2, _, _, rfl⟩
section
variable (hΨ : ∀ x f, fns.lookup x = some f → CallOk C n f (fnG Ψ f)) (hΦ : ∀ a m, mths.lookup a = some m → CallOk C n m (mtG Φ m))
variable {rb : List Stmt → Option Bk} (hb : ∀ b b', rb b = some b' → BlOk C nm sc n b (fun x => evB loop Φ Ψ b' x)) {s' : S}
variable (C nm sc n Φ Ψ) in
noncomputable abbrev SOk (st : Stmt) (s' : S) : Prop := StOk C nm sc n st (fun x => evS loop Φ Ψ s' x)
include hΨ hΦ
theorem cAsg_ok {t v : Expr} (h : cAsg nm sc (cE NM nm 40 sc) t v = some s') (pos : Pos) : SOk C nm sc n Φ Ψ (.Assign [t] v pos) s' := by
  cases t with
  | Name x p => exact idb h fun hx h => bd h fun i hi h => md h fun v hv => (st_asg_any hΨ hΦ hv hx hi _ _).of fun ρ σ r q => q
  | Attribute b a p =>
    refine bd h fun x hx h => idb h fun hh h => bd h fun i hi h => bd h fun f hf h => md h fun v hv => ?_
    obtain ⟨hx1, hx2⟩ := Bool.and_eq_true_iff.mp hh
    obtain ⟨p, rfl⟩ := asName_eq hx
    exact (st_setF hx1 hi hf (cE_ok hΨ hΦ 40 sc _ _ hv).1 hx2 _ _ _).of fun ρ σ r q => q
  | _ => first | exact nn h | exact nf h | exact nomatch h
theorem cAug_ok {t v : Expr} {o : Operator} (h : cAug nm sc (cE NM nm 40 sc) t o v = some s') (pos : Pos) : SOk C nm sc n Φ Ψ (.AugAssign t o v pos) s' := by
  cases t with
  | Name x p => exact idb h fun hx h => bd h fun i hi h => bd h fun o ho h => md h fun v hv => (st_augV hx hi ho (cE_ok hΨ hΦ 40 sc _ _ hv).1 _ _).of fun ρ σ r q => q
  | Attribute b a p =>
    refine bd h fun x hx h => idb h fun hh h => bd h fun i hi h => bd h fun f hf h => bd h fun o ho h => md h fun v hv => ?_
    obtain ⟨p, rfl⟩ := asName_eq hx
    exact (st_augF hh hi hf ho (cE_ok hΨ hΦ 40 sc _ _ hv).1 _ _ _).of fun ρ σ r q => q
  | _ => first | exact nn h | exact nf h | exact nomatch h
include hb
theorem cFor_ok {x : Str} {it : Expr} {b : List Stmt} (h : cFor nm sc (cE NM nm 40 sc) rb x it b = some s') (p pos : Pos) : SOk C nm sc n Φ Ψ (.For (.Name x p) it b [] pos) s' := by
  have ihE := cE_ok (nm := nm) hΨ hΦ 40 sc
  refine idb h fun hx h => bd h fun i hi h => bd h fun b hbb h => ?_
  obtain ⟨hx1, hx2⟩ := Bool.and_eq_true_iff.mp hx
  cases hr : rngOf sc it with
  | none =>
    rw [hr] at h
    exact md h fun it hit => (st_forE hi hx1 hx2 (ihE _ _ hit).1 (hb _ _ hbb) _ _).of fun ρ σ r q => q
  | some as =>
    rw [hr] at h
    obtain ⟨hg, q1, q2, rfl⟩ := rngOf_eq hr
    match as, h with
    | [lo, hi'], h => exact bd h fun _ hlo h => md h fun _ hhi => (st_forR hi hx1 hg (ihE _ _ hlo).1 (ihE _ _ hhi).1 (cE_star hlo).1 (cE_star hhi).1 (hb _ _ hbb) _ _ _ _).of fun ρ σ r q => q
    | [hi', y, z], h =>
      refine idt h fun hm h => md h fun _ hhi => ?_
      obtain ⟨h1, h2⟩ := Bool.and_eq_true_iff.mp hm
      obtain ⟨_, _, _, rfl⟩ := isM1_eq h1
      obtain ⟨_, _, _, rfl⟩ := isM1_eq h2
      exact (st_forD hi hx1 hg (ihE _ _ hhi).1 (cE_star hhi).1 (hb _ _ hbb) _ _ _ _).of fun ρ σ r q => q
    | [], h => exact nomatch h
    | [_], h => exact nomatch h
    | _ :: _ :: _ :: _ :: _, h => exact nomatch h
theorem cS1_ok {st : Stmt} (h : cS1 NM nm sc (cE NM nm 40 sc) rb st = some s') : SOk C nm sc n Φ Ψ st s' := by
  have ihE := cE_ok (nm := nm) hΨ hΦ 40 sc
  cases st with
  | Assign ts v pos => exact bd h fun t ht h => by rw [one_eq ht]; exact cAsg_ok hΨ hΦ h _
  | AugAssign t o v pos => exact cAug_ok hΨ hΦ h _
  | Expr e pos => exact idb h fun hx h => md h fun v hv => (st_xpr (ihE _ _ hv).1 hx _).of fun ρ σ r q => q
  | Return e pos => exact bd h fun e he h => md h fun v hv => by cases he; exact (st_ret (ihE _ _ hv).1 _).of fun ρ σ r q => q
  | Break pos => exact sd h ((st_brk _).of fun ρ σ r q => q)
  | Continue pos => exact sd h ((st_cont _).of fun ρ σ r q => q)
  | Pass pos => exact sd h ((st_pass _).of fun ρ σ r q => q)
  | Assert e m pos => exact idb h fun hm h => md h fun v hv => by rw [isN hm]; exact (st_assert (ihE _ _ hv).2 _).of fun ρ σ r q => q
  | Raise e c pos =>
    refine idb h fun hm h => bd h fun e he h => bd h fun x hx h => idt h fun hg h => md h fun l hl => ?_
    subst he
    rw [isN hm]
    obtain ⟨p1, p2, rfl⟩ := asBare_eq hx
    exact (st_raise hg hl _ _ _).of fun ρ σ r q => q
  | If c a b pos => exact bd h fun _ hc h => bd h fun _ ha h => md h fun _ hbb => (st_ite (ihE _ _ hc).2 (hb _ _ ha) (hb _ _ hbb) _).of fun ρ σ r q => q
  | While c b o pos =>
    refine idb h fun hm h => md h fun _ hbb => ?_
    obtain ⟨h1, h2⟩ := Bool.and_eq_true_iff.mp hm
    obtain ⟨_, _, rfl⟩ := isTrue_eq h1
    rw [isE h2]
    exact (st_whl (hb _ _ hbb) _ _ _).of fun ρ σ r q => q
  | For t it b o pos =>
    refine idb h fun hm h => bd h fun x hx h => ?_
    rw [isE hm]
    obtain ⟨_, rfl⟩ := asName_eq hx
    exact cFor_ok hΨ hΦ hb h _ _
  | Try b hs o f pos =>
    refine idb h fun hm h => bd h fun y hy h => bd h fun x hx h => idt h fun hg h => bd h fun _ hbb h => md h fun _ hl => ?_
    obtain ⟨h1, h2⟩ := Bool.and_eq_true_iff.mp hm
    rw [isE h1, isE h2, one_eq hy]
    obtain ⟨_, _, _, rfl⟩ := hand_eq hx
    exact (st_try (hb _ _ hbb) hg hl _ _ _ _).of fun ρ σ r q => q
  | _ => first | exact nn h | exact nf h | exact nomatch h
end
variable (C nm sc n Φ Ψ) in
noncomputable abbrev BkOk (b : List Stmt) (b' : Bk) : Prop := BlOk C nm sc n b (fun x => evB loop Φ Ψ b' x)
theorem cB_ok (hΨ : ∀ x f, fns.lookup x = some f → CallOk C n f (fnG Ψ f)) (hΦ : ∀ a m, mths.lookup a = some m → CallOk C n m (mtG Φ m)) :
    ∀ k b b', cB NM nm sc k b = some b' → BkOk C nm sc n Φ Ψ b b'
  | 0, _, _, h => nomatch h
  | k + 1, [], b', h => by
    cases h
    exact bl_nil.of fun ρ σ r q => q
  | k + 1, s :: r, b', h => bd h fun s' hs h => md h fun r' hr =>
    (bl_cons (cS1_ok hΨ hΦ (cB_ok hΨ hΦ k) hs) (cB_ok hΨ hΦ k r r' hr)).of fun ρ σ r q => q
theorem cS_ok (hΨ : ∀ x f, fns.lookup x = some f → CallOk C n f (fnG Ψ f)) (hΦ : ∀ a m, mths.lookup a = some m → CallOk C n m (mtG Φ m))
    (k : Nat) (st : Stmt) (st' : S) (h : cS NM nm sc k st = some st') : StOk C nm sc n st (fun x => evS loop Φ Ψ st' x) := cS1_ok hΨ hΦ (cB_ok hΨ hΦ k) h
end
theorem looks10 (P : Params) : (hA P).noLimitOk = true := by kernel_rfl
theorem top_nolimit {P : Params} {h : Heap} (X : AtTop P h) : h.NoLimit := by
  refine Heap.NoLimit.of_ok ?_
  have := looks10 P
  unfold Heap.noLimitOk at this ⊢
  rw [isNs_congr X.g2, nsMap_congr X.g2]
  exact this
theorem bindL_other {kindOf : Str → Option NameKind} {x : Str} : ∀ {b : List (Str × Value)} {m : Str → Option Value}, (∀ q ∈ b, q.1 ≠ x) → bindL kindOf b m x = m x
  | [], _, _ => rfl
  | (n, v) :: r, m, h => by
    have h1 : n ≠ x := h (n, v) (.head _)
    rw [bindL, bindL_other fun q hq => h q (.tail _ hq)]
    split
    · simp [Ne.symm h1]
    · rfl
theorem bindC_other {kindOf : Str → Option NameKind} {x : Str} : ∀ {b : List (Str × Value)} {m : Str → Option Value}, (∀ q ∈ b, q.1 ≠ x) → bindC kindOf b m x = m x
  | [], _, _ => rfl
  | (n, v) :: r, m, h => by
    have h1 : n ≠ x := h (n, v) (.head _)
    rw [bindC, bindC_other fun q hq => h q (.tail _ hq)]
    split
    · rfl
    · simp [Ne.symm h1]
theorem bind_at {kindOf : Str → Option NameKind} : ∀ {ps : List Str} {us : List Value} {m c : Str → Option Value}, ps.Nodup → ∀ {i : Nat} {x : Str} {u : Value}, ps[i]? = some x → us[i]? = some u →
    (kindOf x = some .local → bindL kindOf (ps.zip us) m x = some u) ∧ (kindOf x ≠ some .local → bindC kindOf (ps.zip us) c x = some u)
  | [], _, _, _, _, i, x, u, h, _ => by simp at h
  | p :: ps, [], _, _, _, i, x, u, _, k => by simp at k
  | p :: ps, v :: us, m, c, nd, 0, x, u, h, k => by
    simp at h k
    subst h k
    obtain ⟨n1, n2⟩ := List.nodup_cons.mp nd
    have other : ∀ q ∈ ps.zip us, q.1 ≠ p := fun q hq z => n1 (z ▸ (List.of_mem_zip (show (q.1, q.2) ∈ ps.zip us from hq)).1)
    refine ⟨fun hk => ?_, fun hk => ?_⟩
    · rw [List.zip_cons_cons, bindL, bindL_other other, if_pos hk]; simp
    · rw [List.zip_cons_cons, bindC, bindC_other other, if_neg hk]; simp
  | p :: ps, v :: us, m, c, nd, i + 1, x, u, h, k => by
    obtain ⟨n1, n2⟩ := List.nodup_cons.mp nd
    rw [List.zip_cons_cons, bindL, bindC]
    exact bind_at n2 (by simpa using h) (by simpa using k)
section
variable {C : Cx} {nm nm' : List Str} {sc sc' : Scope} {n : Nat} {p p' : Pl}
theorem call_back (P : PlOk C p nm sc) {h h₁ h' : Heap} {ρ ρ₂ : Loc} {σ σ₂ : St} (a : At C p h ρ σ) (old : ∀ b o, h.get? b = some o → h₁.get? b = some o) (ho : p'.outer = p.stack) (hs : ∀ b ∈ frs p.stack, b ∈ frs p'.stack) (hsk : h'.FunFrames C.B p.stack) (fL : h.get? p'.L = none) (fc : ∀ c ∈ p'.cs, h.get? c = none)
    (x : Ext C p' h₁ h') (a' : At C p' h' ρ₂ σ₂) : At C p h' ρ σ₂ ∧ Ext C p h h' := by
  have ex : ∀ b o, h.get? b = some o → b ∉ frs p.stack → (∀ x dx, C.ob = some (x, dx) → b ≠ dx) → h'.get? b = some o := fun b o e n1 n2 =>
    x.keep b o (old b o e) (fun q => by rw [q, fL] at e; cases e) (fun q => by rw [fc b q] at e; cases e) (ho ▸ n1) n2
  have exact_ : ∀ b o, h.get? b = some o → (∀ es k, o.data ≠ .dict es k) → h'.get? b = some o := fun b o e d => by
    refine ex b o e (fun q => ?_) fun y dy hy q => ?_
    · obtain ⟨o', es, k, e', d'⟩ := a.fd b q
      rw [e] at e'; cases e'; exact d _ _ d'
    · obtain ⟨es, k, _, h2, _⟩ := a.me y dy hy
      rw [q, h2] at e; cases e; exact d _ _ rfl
  have soft : ∀ b ∈ frs p.stack, ∀ o, h.get? b = some o → ∃ sl, h'.get? b = some { o with slots := sl } := fun b hb o e => x.soft b (ho ▸ hb) o (old b o e)
  obtain ⟨m, nn, vs⟩ := a.env
  refine ⟨⟨a'.base, hsk, fun b hb => a'.fd b (hs b hb), a'.me, fun c hc => ?_, m, ?_, fun i y v e1 e2 => (vs i y v e1 e2).keep (fun b o ws c e d => ⟨o, exact_ b o e (fun _ _ q => by rw [d] at q; cases q), rfl, rfl⟩) fun c v ⟨o, e, d⟩ => ⟨o, exact_ c o e (fun _ _ q => by rw [d] at q; cases q), d⟩⟩, ⟨fun b o e n1 n0 n2 n3 => ex b o e (fun q => ?_) n3, fun b hb o e => soft b (outer_stack P hb) o e⟩⟩
  · obtain ⟨v, o, e, d⟩ := a.cells c hc
    exact ⟨v, o, exact_ c o e (fun _ _ q => by rw [d] at q; cases q), d⟩
  · obtain ⟨o, es, k, e, d, r⟩ := nn
    by_cases q : p.L ∈ frs p.stack
    · obtain ⟨sl, e2⟩ := soft p.L q o e
      exact ⟨_, es, k, e2, d, r⟩
    · exact ⟨o, es, k, ex p.L o e q fun y dy hy => Ne.symm (P.ob y dy hy).2.2.1, d, r⟩
  · rcases frs_stack P q with z | z
    · exact n1 z
    · exact n2 z
end
end Mine
end
section
open PySem PySem.W PyProof.Rows PySem.Calls
set_option genSizeOf false
set_option genInjectivity false
set_option maxRecDepth 100000
namespace Mine
theorem cellsFrom_mem {x : Str} : ∀ {l : List (Str × NameKind)} {n : Nat} {acc : List (Str × Addr)}, ((x, NameKind.cell) ∈ l ∨ ∃ c, acc.lookup x = some c) → ∃ c, (cellsFrom n l acc).lookup x = some c
  | [], n, acc, h => by
    rcases h with h | h
    · cases h
    · exact h
  | (y, k) :: r, n, acc, h => by
    unfold cellsFrom
    split
    · refine cellsFrom_mem ?_
      by_cases q : x = y
      · exact .inr ⟨n, by subst q; simp⟩
      · rcases h with h | ⟨c, h⟩
        · rcases List.mem_cons.mp h with h | h
          · cases h; exact absurd rfl q
          · exact .inl h
        · exact .inr ⟨c, by rw [List.lookup_cons]; have : (x == y) = false := by simpa using q
                            rw [this]; exact h⟩
    · rename_i hk
      refine cellsFrom_mem ?_
      rcases h with h | h
      · rcases List.mem_cons.mp h with h | h
        · cases h; exact absurd rfl hk
        · exact .inl h
      · exact .inr h
theorem inj_of_apart {l : List (Str × Addr)} (h : l.Pairwise fun x y => x.2 ≠ y.2) {x y : Str} {c : Addr} (hx : l.lookup x = some c) (hy : l.lookup y = some c) : x = y := by
  have mx := mem_of_lookup hx
  have my := mem_of_lookup hy
  clear hx hy
  induction h with
  | nil => cases mx
  | cons h1 _ ih =>
    rcases List.mem_cons.mp mx with mx' | mx'
    · rcases List.mem_cons.mp my with my' | my'
      · rw [← mx'] at my'; exact (Prod.ext_iff.mp my').1.symm
      · exact absurd rfl (by have := h1 _ my'; rw [← mx'] at this; exact this)
    · rcases List.mem_cons.mp my with my' | my'
      · exact absurd rfl (by have := h1 _ mx'; rw [← my'] at this; exact this)
      · exact ih mx' my'
noncomputable abbrev Src := Arguments × List Stmt × Scope
structure DefOk (f : Addr) (name qual : Str) (pm : Value) (src : Src) (code : Addr) (ps nm : List Str) : Prop where
  at_ : ∀ P, (KAll P).lookup f = some (fnObj name qual pm src code)
  cd : ∀ P, codeIn (KAll P) (.ref code) qual = true
  bind : ∀ us : List Value, us.length = ps.length → bindArgs (fnOf name qual src.1 src.2.1 src.2.2 .none .none .none pm none (.ref code) .none) ⟨us, []⟩ = pure (ps.zip us)
  kind : src.2.2.kind = .function
  co : src.2.2.isCoroutine = false
  gen : src.2.2.isGenerator = false
  nofree : ∀ y ∈ src.2.2.names, y.2 ≠ .free
  par : ∀ y ∈ ps, src.2.2.names.lookup y = some .local ∨ src.2.2.names.lookup y = some .cell
  take : nm.take ps.length = ps
  uniq : nm.Nodup
noncomputable def callG (nm : List Str) (m : Nat) (F : Sg → Option (Out × Sg)) (xs : List V) (σ : St) : Option (V × St) :=
  if xs.length = m then (F (xs.map some ++ List.replicate (nm.length - xs.length) Option.none, σ)).bind fun (o, (_, σ)) => match o with
    | .next => some (.none, σ)
    | .ret v => some (v, σ)
    | _ => Option.none
  else Option.none
theorem call_code {C : Cx} {n : Nat} {f : Addr} {name qual : Str} {pm : Value} {src : Src} {code : Addr} {ps nm : List Str} {F : Sg → Option (Out × Sg)} (D : DefOk f name qual pm src code ps nm) (hb : BlOk C nm src.2.2 n src.2.1 F)
    {p : Pl} {nm₀ : List Str} {sc₀ : Scope} {A : Around} {s : Shared} {ρ : Loc} {σ : St} {us : List Value} {xs : List V} {v : V} {σ' : St} (P : PlOk C p nm₀ sc₀) (M : Rm p A (n + 1)) (a : At C p s.heap ρ σ) (r : All2 (R C s.heap) us xs) (q : callG nm ps.length F xs σ = some (v, σ')) :
    codeAny (model PW C.w) A (.call (.ref f) ⟨us, []⟩) (fun r s' => match r with | .ok (.ret u) => Post C p s v ρ σ' u s' | .ok _ => False | .error e => No e s') s := by
  unfold callG at q
  split at q
  case isFalse => cases q
  rename_i hlen
  obtain ⟨⟨o, ⟨ρ₁, σ₁⟩⟩, h1, q⟩ := Option.bind_eq_some_iff.mp q
  have X := P.top.keeps a.base
  have hus : us.length = ps.length := r.length.trans hlen
  have par : ∀ y ∈ ps.zip us, src.2.2.names.lookup y.1 = some .local ∨ src.2.2.names.lookup y.1 = some .cell := fun y hy => D.par _ (List.of_mem_zip (show (y.1, y.2) ∈ ps.zip us from hy)).1
  have hM := M.depth
  have hU := M.units
  refine codeAny_call_cells (fd := fnOf name qual src.1 src.2.1 src.2.2 .none .none .none pm none (.ref code) .none) (body := src.2.1) (binds := ps.zip us) (by have : recursionLimit = 1000 := rfl; omega) (X.k _ _ (D.at_ _)) rfl (top_nolimit X) (codeRec_of X.k (D.cd _)) rfl (D.bind us hus) rfl
    (fun y hy => (par y hy).elim .inl fun z => .inr ⟨z, ?_⟩) (fun s₁ I => ?_) D.co D.gen D.kind
  · obtain ⟨c, hc⟩ := cellsFrom_mem (n := s.heap.objs.size + 1) (acc := []) (.inl (mem_of_lookup z))
    exact Option.isSome_iff_exists.mpr ⟨c, hc⟩
  generalize hfd : fnOf name qual src.1 src.2.1 src.2.2 .none .none .none pm none (.ref code) .none = fd at I ⊢
  obtain ⟨⟨⟨h₁, tk, rfl⟩, hns, hkeep, _⟩, hcell, hap, habove⟩ := I
  generalize henv : callEnvC fd s.heap.objs.size f = env' at *
  have eL : env'.locals = s.heap.objs.size := by rw [← henv]; rfl
  have eF : env'.frame = some s.heap.objs.size := by rw [← henv]; rfl
  have eS : env'.scope = src.2.2 := by rw [← henv, ← hfd]; rfl
  have eG : env'.globals = mainGlobals := by rw [← henv, ← hfd]; rfl
  have eB : env'.builtins = builtinsNs := by rw [← henv, ← hfd]; rfl
  have eC : env'.cells = cellsFrom (s.heap.objs.size + 1) src.2.2.names [] := by rw [← henv, ← hfd]; rfl
  have eK : ∀ x, env'.kindOf x = src.2.2.names.lookup x := fun x => by show env'.scope.names.lookup x = _; rw [eS]
  have nL : NewAt C p s.heap.objs.size := newAt P a (Nat.le_refl _)
  have fresh : ∀ b, s.heap.objs.size ≤ b → s.heap.get? b = none := fun b hb => Heap.get?_none_of_le hb
  let p' : Pl := ⟨nm, env', p.stack, s.heap.objs.size, env' :: p.stack, env'.cells.filterMap fun q => if env'.cells.lookup q.1 == some q.2 then some q.2 else none⟩
  have fst' : frs p'.stack = s.heap.objs.size :: frs p.stack := by show frs (env' :: p.stack) = _; simp [frs, eF]
  have ctx : ∀ c ∈ p'.cs, s.heap.objs.size < c := fun c hc => by
    obtain ⟨⟨y, c'⟩, h1, h2⟩ := List.mem_filterMap.mp hc
    have := habove y c' h1
    rw [eL] at this
    split at h2
    · exact (Option.some.inj h2) ▸ this
    · cases h2
  have hBL : C.B.objs.size ≤ s.heap.objs.size := Nat.le_trans P.above (by obtain ⟨m, o, es, k, e, _⟩ := a.ns; exact Nat.le_of_lt (Heap.lt_size e))
  have P' : PlOk C p' nm src.2.2 := by
    refine ⟨P.top, rfl, D.uniq, fun y k e => ⟨fun _ => (eK y).trans e, fun e' => absurd e' (D.nofree _ (mem_of_lookup e))⟩, fun y k e e' => ?_, by show env'.scope.kind = _; rw [eS]; exact D.kind, eL, .inr ⟨rfl, eF⟩, eG, eB, hBL, fun y dy e => ?_, nL.stack, fun c hc => Heap.get?_none_of_le (Nat.le_trans hBL (Nat.le_of_lt (ctx c hc)))⟩
    · rcases e' with rfl | rfl
      · exact absurd rfl (D.nofree _ (mem_of_lookup e))
      · show ∃ c, env'.cells.lookup y = some c
        rw [eC]; exact cellsFrom_mem (.inl (mem_of_lookup e))
    · obtain ⟨z1, z2, z3, z4, z5, z6, z7⟩ := P.ob y dy e
      refine ⟨z1, Ne.symm (nL.ob y dy e).1, Ne.symm (nL.ob y dy e).2, fun q => ?_, fun q => ?_, z6, z7⟩
      · rcases frs_stack P q with q | q
        · exact z2 q
        · exact z4 q
      · rcases frs_stack P q with q | q
        · exact z3 q
        · exact z5 q
  have Fp' : PlFn p' := ⟨rfl, eF, fun y c e => List.mem_filterMap.mpr ⟨(y, c), mem_of_lookup e, if_pos (beq_iff_eq.mpr e)⟩, fun y z c e e' => inj_of_apart hap e e'⟩
  have M' : Rm p' (A.deeper env') n := ⟨Around.frames_deeper M.frames, M.handled, by show A.depth + 1 + 4 * n ≤ 900; omega, by show A.units + 3 + 100 * n ≤ 8000; omega⟩
  have hns' : h₁.Ns s.heap.objs.size (bindL env'.kindOf (ps.zip us) fun _ => none) := eL ▸ hns
  have seqK : SeqKeep s.heap h₁ := fun b o ws c e d => ⟨o, hkeep b o e, rfl, rfl⟩
  have at₁ : At C p' h₁ (xs.map some ++ List.replicate (nm.length - xs.length) Option.none) σ := by
    refine ⟨fun b o e => hkeep b o (a.base b o e), ?_, fun b hb => ?_, fun y dy e => ?_, fun c hc => ?_, _, hns', fun i y w e1 e2 => ?_⟩
    · exact Heap.FunFrames.cons (by rw [eS, D.kind]; decide) eF hns' nL.base (a.ff.of_keeps fun b o e _ => ⟨o, hkeep b o e, rfl⟩)
    · rw [fst'] at hb
      rcases List.mem_cons.mp hb with rfl | hb
      · exact ns_isDict hns'
      · obtain ⟨o, es, k, e, d⟩ := a.fd b hb
        exact ⟨o, es, k, hkeep b o e, d⟩
    · obtain ⟨es, k, z1, z2, z3⟩ := a.me y dy e
      exact ⟨es, k, hkeep _ _ z1, hkeep _ _ z2, z3⟩
    · obtain ⟨⟨y, c'⟩, z1, z2⟩ := List.mem_filterMap.mp hc
      split at z2
      · rename_i z3
        have z4 : c' = c := Option.some.inj z2
        subst z4
        exact ⟨_, hcell y c' (eq_of_beq z3)⟩
      · cases z2
    · have hxi : xs[i]? = some w := by
        rw [List.getD_eq_getElem?_getD, List.getElem?_append] at e2
        split at e2
        · rw [List.getElem?_map] at e2
          cases hx : xs[i]? with
          | none => rw [hx] at e2; cases e2
          | some w' => rw [hx] at e2; simpa using e2
        · rw [List.getElem?_replicate] at e2
          split at e2 <;> cases e2
      obtain ⟨u, hu, ru⟩ := r.get hxi
      have hlt : i < ps.length := by have := (List.getElem?_eq_some_iff.mp hxi).1; omega
      have hps : ps[i]? = some y := by
        have e1' : nm[i]? = some y := e1
        rw [← D.take, List.getElem?_take, if_pos hlt]; exact e1'
      have ndp : ps.Nodup := by rw [← D.take]; exact D.uniq.sublist (List.take_sublist _ _)
      obtain ⟨b1, b2⟩ := bind_at (kindOf := env'.kindOf) (m := fun _ => none) (c := fun _ => none) ndp hps hu
      refine ⟨u, ru.keep seqK, ?_⟩
      rcases D.par y (List.mem_of_getElem? hps) with z | z
      · have z' : env'.kindOf y = some .local := (eK y).trans z
        exact .inl ⟨z', b1 z'⟩
      · have z' : env'.kindOf y = some .cell := (eK y).trans z
        obtain ⟨c, hc⟩ : ∃ c, env'.cells.lookup y = some c := by rw [eC]; exact cellsFrom_mem (.inl (mem_of_lookup z))
        refine .inr ⟨.inl z', c, hc, ?_⟩
        have := hcell y c hc
        rw [b2 (by rw [z']; decide)] at this
        exact this
  have wall := hb p' (A.deeper env') { s with heap := h₁, toks := tk } _ σ o ρ₁ σ₁ P' Fp' M' at₁ h1
  subst hfd
  refine wpAny_mono wall (fun fl s' hq => ?_) fun e s' hq => ?_
  · have fin : ∀ {ρ₂}, Went C p' { s with heap := h₁, toks := tk } s' ρ₂ σ₁ → Went C p s s' ρ σ₁ := fun w => by
      have hff : s'.heap.FunFrames C.B (env' :: p.stack) := w.at_.ff
      obtain ⟨_, _, hff⟩ := hff
      obtain ⟨z1, z2⟩ := call_back (p' := p') P a hkeep rfl (fun b hb => by rw [fst']; exact .tail _ hb) hff (fresh _ (Nat.le_refl _)) (fun c hc => fresh _ (Nat.le_of_lt (ctx c hc))) w.ext w.at_
      exact ⟨z1, z2, w.os, w.gens⟩
    cases o with
    | next =>
      obtain ⟨rfl, w⟩ := hq
      cases q
      exact ⟨rfl, fin w⟩
    | ret v' =>
      obtain ⟨u, rfl, r', w⟩ := hq
      cases q
      exact ⟨r', fin w⟩
    | _ => cases q
  · cases o with
    | exc k => cases q
    | _ => exact hq.elim
theorem call_ok {C : Cx} {n : Nat} {f : Addr} {name qual : Str} {pm : Value} {src : Src} {code : Addr} {ps nm : List Str} {F : Sg → Option (Out × Sg)} (D : DefOk f name qual pm src code ps nm) (hb : BlOk C nm src.2.2 n src.2.1 F) :
    CallOk C (n + 1) f (callG nm ps.length F) := fun p nm₀ sc₀ A s ρ σ us xs v σ' P M a r q => wpAny_call (call_code D hb P M a r q)
end Mine
end
section
open PySem PySem.W PyProof.Rows PySem.Calls
set_option backward.match.sparseCases false
set_option genSizeOf false
set_option genInjectivity false
set_option maxRecDepth 1000000
namespace Mine
theorem bind0 {F : FuncData} (k : bindArgs F ⟨[], []⟩ = pure []) : ∀ us : List Value, us.length = ([] : List Str).length → bindArgs F ⟨us, []⟩ = pure (([] : List Str).zip us) := fun us h => by
  rw [List.eq_nil_of_length_eq_zero h]; exact k
theorem bind1 {F : FuncData} {p : Str} (k : ∀ a, bindArgs F ⟨[a], []⟩ = pure [(p, a)]) : ∀ us : List Value, us.length = [p].length → bindArgs F ⟨us, []⟩ = pure ([p].zip us) := fun us h => by
  cases us with
  | nil => cases h
  | cons a us => rw [List.eq_nil_of_length_eq_zero (Nat.succ.inj h)]; exact k a
theorem bind2 {F : FuncData} {p q : Str} (k : ∀ a b, bindArgs F ⟨[a, b], []⟩ = pure [(p, a), (q, b)]) : ∀ us : List Value, us.length = [p, q].length → bindArgs F ⟨us, []⟩ = pure ([p, q].zip us) := fun us h => by
  cases us with
  | nil => cases h
  | cons a us => cases us with
    | nil => cases Nat.succ.inj h
    | cons b us => rw [List.eq_nil_of_length_eq_zero (Nat.succ.inj (Nat.succ.inj h))]; exact k a b
theorem bind3 {F : FuncData} {p q r : Str} (k : ∀ a b c, bindArgs F ⟨[a, b, c], []⟩ = pure [(p, a), (q, b), (r, c)]) : ∀ us : List Value, us.length = [p, q, r].length → bindArgs F ⟨us, []⟩ = pure ([p, q, r].zip us) := fun us h => by
  cases us with
  | nil => cases h
  | cons a us => cases us with
    | nil => cases Nat.succ.inj h
    | cons b us => cases us with
      | nil => cases Nat.succ.inj (Nat.succ.inj h)
      | cons c us => rw [List.eq_nil_of_length_eq_zero (Nat.succ.inj (Nat.succ.inj (Nat.succ.inj h)))]; exact k a b c
theorem bind4 {F : FuncData} {p q r t : Str} (k : ∀ a b c d, bindArgs F ⟨[a, b, c, d], []⟩ = pure [(p, a), (q, b), (r, c), (t, d)]) : ∀ us : List Value, us.length = [p, q, r, t].length → bindArgs F ⟨us, []⟩ = pure ([p, q, r, t].zip us) := fun us h => by
  cases us with
  | nil => cases h
  | cons a us => cases us with
    | nil => cases Nat.succ.inj h
    | cons b us => cases us with
      | nil => cases Nat.succ.inj (Nat.succ.inj h)
      | cons c us => cases us with
        | nil => cases Nat.succ.inj (Nat.succ.inj (Nat.succ.inj h))
        | cons d us => rw [List.eq_nil_of_length_eq_zero (Nat.succ.inj (Nat.succ.inj (Nat.succ.inj (Nat.succ.inj h))))]; exact k a b c d
theorem d_1140 : DefOk 1140 "_law_heads" "_law_heads" (.str "law_iu0027_01" 3932) (topFn 14) 1139 [] (nmOf (topFn 14) []) where
  at_ _ := rfl
  cd _ := by kernel_rfl
  bind := bind0 rfl
  kind := by kernel_rfl
  co := by kernel_rfl
  gen := by kernel_rfl
  nofree := by decide +kernel
  par := by decide +kernel
  take := by kernel_rfl
  uniq := by decide +kernel
theorem d_1150 : DefOk 1150 "_law_fronts" "_law_fronts" (.str "law_iu0027_01" 3932) (topFn 18) 1149 [] (nmOf (topFn 18) []) where
  at_ _ := rfl
  cd _ := by kernel_rfl
  bind := bind0 rfl
  kind := by kernel_rfl
  co := by kernel_rfl
  gen := by kernel_rfl
  nofree := by decide +kernel
  par := by decide +kernel
  take := by kernel_rfl
  uniq := by decide +kernel
theorem d_1157 : DefOk 1157 "_law_part" "_law_part" (.str "law_iu0027_01" 3932) (topFn 19) 1156 ["number"] (nmOf (topFn 19) []) where
  at_ _ := rfl
  cd _ := by kernel_rfl
  bind := bind1 fun _ => rfl
  kind := by kernel_rfl
  co := by kernel_rfl
  gen := by kernel_rfl
  nofree := by decide +kernel
  par := by decide +kernel
  take := by kernel_rfl
  uniq := by decide +kernel
theorem d_1164 : DefOk 1164 "_law_unshaped" "_law_unshaped" (.str "law_iu0027_01" 3932) (topFn 20) 1163 ["place"] (nmOf (topFn 20) []) where
  at_ _ := rfl
  cd _ := by kernel_rfl
  bind := bind1 fun _ => rfl
  kind := by kernel_rfl
  co := by kernel_rfl
  gen := by kernel_rfl
  nofree := by decide +kernel
  par := by decide +kernel
  take := by kernel_rfl
  uniq := by decide +kernel
theorem d_1171 : DefOk 1171 "_law_plain" "_law_plain" (.str "law_iu0027_01" 3932) (topFn 21) 1170 ["word"] (nmOf (topFn 21) []) where
  at_ _ := rfl
  cd _ := by kernel_rfl
  bind := bind1 fun _ => rfl
  kind := by kernel_rfl
  co := by kernel_rfl
  gen := by kernel_rfl
  nofree := by decide +kernel
  par := by decide +kernel
  take := by kernel_rfl
  uniq := by decide +kernel
theorem d_1178 : DefOk 1178 "_law_less" "_law_less" (.str "law_iu0027_01" 3932) (topFn 22) 1177 ["word", "ends"] (nmOf (topFn 22) []) where
  at_ _ := rfl
  cd _ := by kernel_rfl
  bind := bind2 fun _ _ => rfl
  kind := by kernel_rfl
  co := by kernel_rfl
  gen := by kernel_rfl
  nofree := by decide +kernel
  par := by decide +kernel
  take := by kernel_rfl
  uniq := by decide +kernel
theorem d_1185 : DefOk 1185 "_law_ended" "_law_ended" (.str "law_iu0027_01" 3932) (topFn 23) 1184 ["word", "noun"] (nmOf (topFn 23) []) where
  at_ _ := rfl
  cd _ := by kernel_rfl
  bind := bind2 fun _ _ => rfl
  kind := by kernel_rfl
  co := by kernel_rfl
  gen := by kernel_rfl
  nofree := by decide +kernel
  par := by decide +kernel
  take := by kernel_rfl
  uniq := by decide +kernel
theorem d_1192 : DefOk 1192 "_law_goes" "_law_goes" (.str "law_iu0027_01" 3932) (topFn 24) 1191 ["front", "head", "rest"] (nmOf (topFn 24) []) where
  at_ _ := rfl
  cd _ := by kernel_rfl
  bind := bind3 fun _ _ _ => rfl
  kind := by kernel_rfl
  co := by kernel_rfl
  gen := by kernel_rfl
  nofree := by decide +kernel
  par := by decide +kernel
  take := by kernel_rfl
  uniq := by decide +kernel
theorem d_1197 : DefOk 1197 "_law_begun" "_law_begun" (.str "law_iu0027_01" 3932) (topFn 25) 1196 ["word"] (nmOf (topFn 25) []) where
  at_ _ := rfl
  cd _ := by kernel_rfl
  bind := bind1 fun _ => rfl
  kind := by kernel_rfl
  co := by kernel_rfl
  gen := by kernel_rfl
  nofree := by decide +kernel
  par := by decide +kernel
  take := by kernel_rfl
  uniq := by decide +kernel
theorem d_1202 : DefOk 1202 "_law_hamzas" "_law_hamzas" (.str "law_iu0027_01" 3932) (topFn 26) 1201 ["word"] (nmOf (topFn 26) ["sign"]) where
  at_ _ := rfl
  cd _ := by kernel_rfl
  bind := bind1 fun _ => rfl
  kind := by kernel_rfl
  co := by kernel_rfl
  gen := by kernel_rfl
  nofree := by decide +kernel
  par := by decide +kernel
  take := by kernel_rfl
  uniq := by decide +kernel
theorem d_1207 : DefOk 1207 "_law_stem" "_law_stem" (.str "law_iu0027_01" 3932) (topFn 27) 1206 ["word"] (nmOf (topFn 27) ["head"]) where
  at_ _ := rfl
  cd _ := by kernel_rfl
  bind := bind1 fun _ => rfl
  kind := by kernel_rfl
  co := by kernel_rfl
  gen := by kernel_rfl
  nofree := by decide +kernel
  par := by decide +kernel
  take := by kernel_rfl
  uniq := by decide +kernel
theorem d_42 : DefOk 42 "set_current" "BaseStemmer.set_current" (.str "snowballstemmer.basestemmer" 194) (mthFn 2 1) 41 ["self", "value"] (nmOf (mthFn 2 1) []) where
  at_ _ := rfl
  cd _ := by kernel_rfl
  bind := bind2 fun _ _ => rfl
  kind := by kernel_rfl
  co := by kernel_rfl
  gen := by kernel_rfl
  nofree := by decide +kernel
  par := by decide +kernel
  take := by kernel_rfl
  uniq := by decide +kernel
theorem d_49 : DefOk 49 "get_current" "BaseStemmer.get_current" (.str "snowballstemmer.basestemmer" 194) (mthFn 2 2) 48 ["self"] (nmOf (mthFn 2 2) []) where
  at_ _ := rfl
  cd _ := by kernel_rfl
  bind := bind1 fun _ => rfl
  kind := by kernel_rfl
  co := by kernel_rfl
  gen := by kernel_rfl
  nofree := by decide +kernel
  par := by decide +kernel
  take := by kernel_rfl
  uniq := by decide +kernel
theorem d_126 : DefOk 126 "eq_s_b" "BaseStemmer.eq_s_b" (.str "snowballstemmer.basestemmer" 194) (mthFn 2 13) 125 ["self", "s"] (nmOf (mthFn 2 13) []) where
  at_ _ := rfl
  cd _ := by kernel_rfl
  bind := bind2 fun _ _ => rfl
  kind := by kernel_rfl
  co := by kernel_rfl
  gen := by kernel_rfl
  nofree := by decide +kernel
  par := by decide +kernel
  take := by kernel_rfl
  uniq := by decide +kernel
theorem d_133 : DefOk 133 "find_among" "BaseStemmer.find_among" (.str "snowballstemmer.basestemmer" 194) (mthFn 2 14) 132 ["self", "v"] (nmOf (mthFn 2 14) []) where
  at_ _ := rfl
  cd _ := by kernel_rfl
  bind := bind2 fun _ _ => rfl
  kind := by kernel_rfl
  co := by kernel_rfl
  gen := by kernel_rfl
  nofree := by decide +kernel
  par := by decide +kernel
  take := by kernel_rfl
  uniq := by decide +kernel
theorem d_140 : DefOk 140 "find_among_b" "BaseStemmer.find_among_b" (.str "snowballstemmer.basestemmer" 194) (mthFn 2 15) 139 ["self", "v"] (nmOf (mthFn 2 15) []) where
  at_ _ := rfl
  cd _ := by kernel_rfl
  bind := bind2 fun _ _ => rfl
  kind := by kernel_rfl
  co := by kernel_rfl
  gen := by kernel_rfl
  nofree := by decide +kernel
  par := by decide +kernel
  take := by kernel_rfl
  uniq := by decide +kernel
theorem d_147 : DefOk 147 "replace_s" "BaseStemmer.replace_s" (.str "snowballstemmer.basestemmer" 194) (mthFn 2 16) 146 ["self", "c_bra", "c_ket", "s"] (nmOf (mthFn 2 16) []) where
  at_ _ := rfl
  cd _ := by kernel_rfl
  bind := bind4 fun _ _ _ _ => rfl
  kind := by kernel_rfl
  co := by kernel_rfl
  gen := by kernel_rfl
  nofree := by decide +kernel
  par := by decide +kernel
  take := by kernel_rfl
  uniq := by decide +kernel
theorem d_154 : DefOk 154 "slice_from" "BaseStemmer.slice_from" (.str "snowballstemmer.basestemmer" 194) (mthFn 2 17) 153 ["self", "s"] (nmOf (mthFn 2 17) []) where
  at_ _ := rfl
  cd _ := by kernel_rfl
  bind := bind2 fun _ _ => rfl
  kind := by kernel_rfl
  co := by kernel_rfl
  gen := by kernel_rfl
  nofree := by decide +kernel
  par := by decide +kernel
  take := by kernel_rfl
  uniq := by decide +kernel
theorem d_161 : DefOk 161 "slice_del" "BaseStemmer.slice_del" (.str "snowballstemmer.basestemmer" 194) (mthFn 2 18) 160 ["self"] (nmOf (mthFn 2 18) []) where
  at_ _ := rfl
  cd _ := by kernel_rfl
  bind := bind1 fun _ => rfl
  kind := by kernel_rfl
  co := by kernel_rfl
  gen := by kernel_rfl
  nofree := by decide +kernel
  par := by decide +kernel
  take := by kernel_rfl
  uniq := by decide +kernel
theorem d_189 : DefOk 189 "stemWord" "BaseStemmer.stemWord" (.str "snowballstemmer.basestemmer" 194) (mthFn 2 22) 188 ["self", "word"] (nmOf (mthFn 2 22) []) where
  at_ _ := rfl
  cd _ := by kernel_rfl
  bind := bind2 fun _ _ => rfl
  kind := by kernel_rfl
  co := by kernel_rfl
  gen := by kernel_rfl
  nofree := by decide +kernel
  par := by decide +kernel
  take := by kernel_rfl
  uniq := by decide +kernel
theorem d_238 : DefOk 238 "r_Normalize_pre" "ArabicStemmer.r_Normalize_pre" (.str "snowballstemmer.arabic_stemmer" 473) (mthFn 6 3) 237 ["self"] (nmOf (mthFn 6 3) []) where
  at_ _ := rfl
  cd _ := by kernel_rfl
  bind := bind1 fun _ => rfl
  kind := by kernel_rfl
  co := by kernel_rfl
  gen := by kernel_rfl
  nofree := by decide +kernel
  par := by decide +kernel
  take := by kernel_rfl
  uniq := by decide +kernel
theorem d_245 : DefOk 245 "r_Normalize_post" "ArabicStemmer.r_Normalize_post" (.str "snowballstemmer.arabic_stemmer" 473) (mthFn 6 4) 244 ["self"] (nmOf (mthFn 6 4) []) where
  at_ _ := rfl
  cd _ := by kernel_rfl
  bind := bind1 fun _ => rfl
  kind := by kernel_rfl
  co := by kernel_rfl
  gen := by kernel_rfl
  nofree := by decide +kernel
  par := by decide +kernel
  take := by kernel_rfl
  uniq := by decide +kernel
theorem d_252 : DefOk 252 "r_Checks1" "ArabicStemmer.r_Checks1" (.str "snowballstemmer.arabic_stemmer" 473) (mthFn 6 5) 251 ["self"] (nmOf (mthFn 6 5) []) where
  at_ _ := rfl
  cd _ := by kernel_rfl
  bind := bind1 fun _ => rfl
  kind := by kernel_rfl
  co := by kernel_rfl
  gen := by kernel_rfl
  nofree := by decide +kernel
  par := by decide +kernel
  take := by kernel_rfl
  uniq := by decide +kernel
theorem d_259 : DefOk 259 "r_Prefix_Step1" "ArabicStemmer.r_Prefix_Step1" (.str "snowballstemmer.arabic_stemmer" 473) (mthFn 6 6) 258 ["self"] (nmOf (mthFn 6 6) []) where
  at_ _ := rfl
  cd _ := by kernel_rfl
  bind := bind1 fun _ => rfl
  kind := by kernel_rfl
  co := by kernel_rfl
  gen := by kernel_rfl
  nofree := by decide +kernel
  par := by decide +kernel
  take := by kernel_rfl
  uniq := by decide +kernel
theorem d_266 : DefOk 266 "r_Prefix_Step2" "ArabicStemmer.r_Prefix_Step2" (.str "snowballstemmer.arabic_stemmer" 473) (mthFn 6 7) 265 ["self"] (nmOf (mthFn 6 7) []) where
  at_ _ := rfl
  cd _ := by kernel_rfl
  bind := bind1 fun _ => rfl
  kind := by kernel_rfl
  co := by kernel_rfl
  gen := by kernel_rfl
  nofree := by decide +kernel
  par := by decide +kernel
  take := by kernel_rfl
  uniq := by decide +kernel
theorem d_273 : DefOk 273 "r_Prefix_Step3a_Noun" "ArabicStemmer.r_Prefix_Step3a_Noun" (.str "snowballstemmer.arabic_stemmer" 473) (mthFn 6 8) 272 ["self"] (nmOf (mthFn 6 8) []) where
  at_ _ := rfl
  cd _ := by kernel_rfl
  bind := bind1 fun _ => rfl
  kind := by kernel_rfl
  co := by kernel_rfl
  gen := by kernel_rfl
  nofree := by decide +kernel
  par := by decide +kernel
  take := by kernel_rfl
  uniq := by decide +kernel
theorem d_280 : DefOk 280 "r_Prefix_Step3b_Noun" "ArabicStemmer.r_Prefix_Step3b_Noun" (.str "snowballstemmer.arabic_stemmer" 473) (mthFn 6 9) 279 ["self"] (nmOf (mthFn 6 9) []) where
  at_ _ := rfl
  cd _ := by kernel_rfl
  bind := bind1 fun _ => rfl
  kind := by kernel_rfl
  co := by kernel_rfl
  gen := by kernel_rfl
  nofree := by decide +kernel
  par := by decide +kernel
  take := by kernel_rfl
  uniq := by decide +kernel
theorem d_287 : DefOk 287 "r_Prefix_Step3_Verb" "ArabicStemmer.r_Prefix_Step3_Verb" (.str "snowballstemmer.arabic_stemmer" 473) (mthFn 6 10) 286 ["self"] (nmOf (mthFn 6 10) []) where
  at_ _ := rfl
  cd _ := by kernel_rfl
  bind := bind1 fun _ => rfl
  kind := by kernel_rfl
  co := by kernel_rfl
  gen := by kernel_rfl
  nofree := by decide +kernel
  par := by decide +kernel
  take := by kernel_rfl
  uniq := by decide +kernel
theorem d_294 : DefOk 294 "r_Prefix_Step4_Verb" "ArabicStemmer.r_Prefix_Step4_Verb" (.str "snowballstemmer.arabic_stemmer" 473) (mthFn 6 11) 293 ["self"] (nmOf (mthFn 6 11) []) where
  at_ _ := rfl
  cd _ := by kernel_rfl
  bind := bind1 fun _ => rfl
  kind := by kernel_rfl
  co := by kernel_rfl
  gen := by kernel_rfl
  nofree := by decide +kernel
  par := by decide +kernel
  take := by kernel_rfl
  uniq := by decide +kernel
theorem d_301 : DefOk 301 "r_Suffix_Noun_Step1a" "ArabicStemmer.r_Suffix_Noun_Step1a" (.str "snowballstemmer.arabic_stemmer" 473) (mthFn 6 12) 300 ["self"] (nmOf (mthFn 6 12) []) where
  at_ _ := rfl
  cd _ := by kernel_rfl
  bind := bind1 fun _ => rfl
  kind := by kernel_rfl
  co := by kernel_rfl
  gen := by kernel_rfl
  nofree := by decide +kernel
  par := by decide +kernel
  take := by kernel_rfl
  uniq := by decide +kernel
theorem d_308 : DefOk 308 "r_Suffix_Noun_Step1b" "ArabicStemmer.r_Suffix_Noun_Step1b" (.str "snowballstemmer.arabic_stemmer" 473) (mthFn 6 13) 307 ["self"] (nmOf (mthFn 6 13) []) where
  at_ _ := rfl
  cd _ := by kernel_rfl
  bind := bind1 fun _ => rfl
  kind := by kernel_rfl
  co := by kernel_rfl
  gen := by kernel_rfl
  nofree := by decide +kernel
  par := by decide +kernel
  take := by kernel_rfl
  uniq := by decide +kernel
theorem d_315 : DefOk 315 "r_Suffix_Noun_Step2a" "ArabicStemmer.r_Suffix_Noun_Step2a" (.str "snowballstemmer.arabic_stemmer" 473) (mthFn 6 14) 314 ["self"] (nmOf (mthFn 6 14) []) where
  at_ _ := rfl
  cd _ := by kernel_rfl
  bind := bind1 fun _ => rfl
  kind := by kernel_rfl
  co := by kernel_rfl
  gen := by kernel_rfl
  nofree := by decide +kernel
  par := by decide +kernel
  take := by kernel_rfl
  uniq := by decide +kernel
theorem d_322 : DefOk 322 "r_Suffix_Noun_Step2b" "ArabicStemmer.r_Suffix_Noun_Step2b" (.str "snowballstemmer.arabic_stemmer" 473) (mthFn 6 15) 321 ["self"] (nmOf (mthFn 6 15) []) where
  at_ _ := rfl
  cd _ := by kernel_rfl
  bind := bind1 fun _ => rfl
  kind := by kernel_rfl
  co := by kernel_rfl
  gen := by kernel_rfl
  nofree := by decide +kernel
  par := by decide +kernel
  take := by kernel_rfl
  uniq := by decide +kernel
theorem d_329 : DefOk 329 "r_Suffix_Noun_Step2c1" "ArabicStemmer.r_Suffix_Noun_Step2c1" (.str "snowballstemmer.arabic_stemmer" 473) (mthFn 6 16) 328 ["self"] (nmOf (mthFn 6 16) []) where
  at_ _ := rfl
  cd _ := by kernel_rfl
  bind := bind1 fun _ => rfl
  kind := by kernel_rfl
  co := by kernel_rfl
  gen := by kernel_rfl
  nofree := by decide +kernel
  par := by decide +kernel
  take := by kernel_rfl
  uniq := by decide +kernel
theorem d_336 : DefOk 336 "r_Suffix_Noun_Step2c2" "ArabicStemmer.r_Suffix_Noun_Step2c2" (.str "snowballstemmer.arabic_stemmer" 473) (mthFn 6 17) 335 ["self"] (nmOf (mthFn 6 17) []) where
  at_ _ := rfl
  cd _ := by kernel_rfl
  bind := bind1 fun _ => rfl
  kind := by kernel_rfl
  co := by kernel_rfl
  gen := by kernel_rfl
  nofree := by decide +kernel
  par := by decide +kernel
  take := by kernel_rfl
  uniq := by decide +kernel
theorem d_343 : DefOk 343 "r_Suffix_Noun_Step3" "ArabicStemmer.r_Suffix_Noun_Step3" (.str "snowballstemmer.arabic_stemmer" 473) (mthFn 6 18) 342 ["self"] (nmOf (mthFn 6 18) []) where
  at_ _ := rfl
  cd _ := by kernel_rfl
  bind := bind1 fun _ => rfl
  kind := by kernel_rfl
  co := by kernel_rfl
  gen := by kernel_rfl
  nofree := by decide +kernel
  par := by decide +kernel
  take := by kernel_rfl
  uniq := by decide +kernel
theorem d_350 : DefOk 350 "r_Suffix_Verb_Step1" "ArabicStemmer.r_Suffix_Verb_Step1" (.str "snowballstemmer.arabic_stemmer" 473) (mthFn 6 19) 349 ["self"] (nmOf (mthFn 6 19) []) where
  at_ _ := rfl
  cd _ := by kernel_rfl
  bind := bind1 fun _ => rfl
  kind := by kernel_rfl
  co := by kernel_rfl
  gen := by kernel_rfl
  nofree := by decide +kernel
  par := by decide +kernel
  take := by kernel_rfl
  uniq := by decide +kernel
theorem d_357 : DefOk 357 "r_Suffix_Verb_Step2a" "ArabicStemmer.r_Suffix_Verb_Step2a" (.str "snowballstemmer.arabic_stemmer" 473) (mthFn 6 20) 356 ["self"] (nmOf (mthFn 6 20) []) where
  at_ _ := rfl
  cd _ := by kernel_rfl
  bind := bind1 fun _ => rfl
  kind := by kernel_rfl
  co := by kernel_rfl
  gen := by kernel_rfl
  nofree := by decide +kernel
  par := by decide +kernel
  take := by kernel_rfl
  uniq := by decide +kernel
theorem d_364 : DefOk 364 "r_Suffix_Verb_Step2b" "ArabicStemmer.r_Suffix_Verb_Step2b" (.str "snowballstemmer.arabic_stemmer" 473) (mthFn 6 21) 363 ["self"] (nmOf (mthFn 6 21) []) where
  at_ _ := rfl
  cd _ := by kernel_rfl
  bind := bind1 fun _ => rfl
  kind := by kernel_rfl
  co := by kernel_rfl
  gen := by kernel_rfl
  nofree := by decide +kernel
  par := by decide +kernel
  take := by kernel_rfl
  uniq := by decide +kernel
theorem d_371 : DefOk 371 "r_Suffix_Verb_Step2c" "ArabicStemmer.r_Suffix_Verb_Step2c" (.str "snowballstemmer.arabic_stemmer" 473) (mthFn 6 22) 370 ["self"] (nmOf (mthFn 6 22) []) where
  at_ _ := rfl
  cd _ := by kernel_rfl
  bind := bind1 fun _ => rfl
  kind := by kernel_rfl
  co := by kernel_rfl
  gen := by kernel_rfl
  nofree := by decide +kernel
  par := by decide +kernel
  take := by kernel_rfl
  uniq := by decide +kernel
theorem d_378 : DefOk 378 "r_Suffix_All_alef_maqsura" "ArabicStemmer.r_Suffix_All_alef_maqsura" (.str "snowballstemmer.arabic_stemmer" 473) (mthFn 6 23) 377 ["self"] (nmOf (mthFn 6 23) []) where
  at_ _ := rfl
  cd _ := by kernel_rfl
  bind := bind1 fun _ => rfl
  kind := by kernel_rfl
  co := by kernel_rfl
  gen := by kernel_rfl
  nofree := by decide +kernel
  par := by decide +kernel
  take := by kernel_rfl
  uniq := by decide +kernel
theorem d_385 : DefOk 385 "_stem" "ArabicStemmer._stem" (.str "snowballstemmer.arabic_stemmer" 473) (mthFn 6 24) 384 ["self"] (nmOf (mthFn 6 24) []) where
  at_ _ := rfl
  cd _ := by kernel_rfl
  bind := bind1 fun _ => rfl
  kind := by kernel_rfl
  co := by kernel_rfl
  gen := by kernel_rfl
  nofree := by decide +kernel
  par := by decide +kernel
  take := by kernel_rfl
  uniq := by decide +kernel
end Mine
end
section
open PySem PySem.W
set_option backward.match.sparseCases false
set_option genSizeOf false
set_option genInjectivity false
set_option maxRecDepth 1000000
namespace Mine
noncomputable def g_law_letters : T := [1569, 1570, 1571, 1572, 1573, 1574, 1575, 1576, 1577, 1578, 1579, 1580, 1581, 1582, 1583, 1584, 1585, 1586, 1587, 1588, 1589, 1590, 1591, 1592, 1593, 1594, 1601, 1602, 1603, 1604, 1605, 1606, 1607, 1608, 1609, 1610]
noncomputable def g_law_owners : List T := [[1603, 1605, 1575], [1607, 1605, 1575], [1603, 1605, 1608], [1606, 1575], [1607, 1575], [1603, 1605], [1607, 1605], [1603, 1606], [1607, 1606], [1606, 1610], [1603], [1607]]
noncomputable def g_law_persons : List T := [[1578, 1605, 1575], [1578, 1575], [1606, 1575], [1578, 1606], [1575, 1606], [1608, 1606], [1610, 1606], [1575], [1578], [1606], [1610]]
noncomputable def g_law_others : List T := [[1578, 1605, 1608], [1608, 1575], [1578, 1605], [1575, 1578], [1608], [1577], [1609]]
noncomputable def tas_0 : List T := [[], [48], [49], [50], [51], [52], [53], [54], [55], [56], [57], [1569], [1571], [1573], [1574], [1570], [1572], [1575], [1576], [1577], [1578], [1579], [1580], [1581], [1582], [1583], [1584], [1585], [1586], [1587], [1588], [1589], [1590], [1591], [1592], [1593], [1594], [1601], [1602], [1603], [1604], [1605], [1606], [1607], [1608], [1609], [1610], [1604, 1575], [1604, 1571], [1604, 1573], [1604, 1570]]
noncomputable def tas_2 : List T := [[1575], [1608], [1610]]
noncomputable def c42 : Bk := (.cons (.setF 0 .cur (.var 1)) (.cons (.setF 0 .cursor (.lit (.int 0))) (.cons (.setF 0 .limit (.bi1 .len (.fld 0 .cur))) (.cons (.setF 0 .lb (.lit (.int 0))) (.cons (.setF 0 .bra (.fld 0 .cursor)) (.cons (.setF 0 .ket (.fld 0 .limit)) .nil))))))
noncomputable def c49 : Bk := (.cons (.ret (.fld 0 .cur)) .nil)
noncomputable def c126 : Bk := (.cons (.ite (.sm .ends (.slAll (.fld 0 .cur) (.fld 0 .lb) (.fld 0 .cursor)) (.var 1)) (.cons (.augF 0 .cursor .sub (.bi1 .len (.var 1))) (.cons (.ret (.lit (.bool true))) .nil)) .nil) (.cons (.ret (.lit (.bool false))) .nil))
noncomputable def c133 : Bk := (.cons (.asg 2 (.lit (.int 0))) (.cons (.asg 3 (.bi1 .len (.var 1))) (.cons (.asg 4 (.fld 0 .cursor)) (.cons (.asg 5 (.fld 0 .limit)) (.cons (.asg 6 (.lit (.int 0))) (.cons (.asg 7 (.lit (.int 0))) (.cons (.asg 8 (.lit (.bool false))) (.cons (.whl (.cons (.asg 9 (.bin .add (.var 2) (.bin .shr (.bin .sub (.var 3) (.var 2)) (.lit (.int 1))))) (.cons (.asg 10 (.lit (.int 0))) (.cons (.asg 11 (.min2 (.var 6) (.var 7))) (.cons (.asg 12 (.idx (.var 1) (.var 9))) (.cons (.forR 13 (.var 11) (.bi1 .len (.rowS (.var 12))) (.cons (.ite (.cmp .eq (.bin .add (.var 4) (.var 11)) (.var 5)) (.cons (.asg 10 (.neg 1)) (.cons (.brk) .nil)) .nil) (.cons (.asg 10 (.bin .sub (.bi1 .ord (.idx (.fld 0 .cur) (.bin .add (.var 4) (.var 11)))) (.bi1 .ord (.idx (.rowS (.var 12)) (.var 13))))) (.cons (.ite (.cmp .ne (.var 10) (.lit (.int 0))) (.cons (.brk) .nil) .nil) (.cons (.augV 11 .add (.lit (.int 1))) .nil))))) (.cons (.ite (.cmp .lt (.var 10) (.lit (.int 0))) (.cons (.asg 3 (.var 9)) (.cons (.asg 7 (.var 11)) .nil)) (.cons (.asg 2 (.var 9)) (.cons (.asg 6 (.var 11)) .nil))) (.cons (.ite (.cmp .le (.bin .sub (.var 3) (.var 2)) (.lit (.int 1))) (.cons (.ite (.cmp .gt (.var 2) (.lit (.int 0))) (.cons (.brk) .nil) .nil) (.cons (.ite (.cmp .eq (.var 3) (.var 2)) (.cons (.brk) .nil) .nil) (.cons (.ite (.var 8) (.cons (.brk) .nil) .nil) (.cons (.asg 8 (.lit (.bool true))) .nil)))) .nil) .nil)))))))) (.cons (.whl (.cons (.asg 12 (.idx (.var 1) (.var 2))) (.cons (.ite (.cmp .ge (.var 6) (.bi1 .len (.rowS (.var 12)))) (.cons (.setF 0 .cursor (.bin .add (.var 4) (.bi1 .len (.rowS (.var 12))))) (.cons (.ret (.rowR (.var 12))) .nil)) .nil) (.cons (.asg 2 (.rowI (.var 12))) (.cons (.ite (.cmp .lt (.var 2) (.lit (.int 0))) (.cons (.ret (.lit (.int 0))) .nil) .nil) .nil))))) (.cons (.ret (.neg 1)) .nil))))))))))
noncomputable def c140 : Bk := (.cons (.asg 2 (.lit (.int 0))) (.cons (.asg 3 (.bi1 .len (.var 1))) (.cons (.asg 4 (.fld 0 .cursor)) (.cons (.asg 5 (.fld 0 .lb)) (.cons (.asg 6 (.lit (.int 0))) (.cons (.asg 7 (.lit (.int 0))) (.cons (.asg 8 (.lit (.bool false))) (.cons (.whl (.cons (.asg 9 (.bin .add (.var 2) (.bin .shr (.bin .sub (.var 3) (.var 2)) (.lit (.int 1))))) (.cons (.asg 10 (.lit (.int 0))) (.cons (.asg 11 (.min2 (.var 6) (.var 7))) (.cons (.asg 12 (.idx (.var 1) (.var 9))) (.cons (.forD 13 (.bin .sub (.bin .sub (.bi1 .len (.rowS (.var 12))) (.lit (.int 1))) (.var 11)) (.cons (.ite (.cmp .eq (.bin .sub (.var 4) (.var 11)) (.var 5)) (.cons (.asg 10 (.neg 1)) (.cons (.brk) .nil)) .nil) (.cons (.asg 10 (.bin .sub (.bi1 .ord (.idx (.fld 0 .cur) (.bin .sub (.bin .sub (.var 4) (.lit (.int 1))) (.var 11)))) (.bi1 .ord (.idx (.rowS (.var 12)) (.var 13))))) (.cons (.ite (.cmp .ne (.var 10) (.lit (.int 0))) (.cons (.brk) .nil) .nil) (.cons (.augV 11 .add (.lit (.int 1))) .nil))))) (.cons (.ite (.cmp .lt (.var 10) (.lit (.int 0))) (.cons (.asg 3 (.var 9)) (.cons (.asg 7 (.var 11)) .nil)) (.cons (.asg 2 (.var 9)) (.cons (.asg 6 (.var 11)) .nil))) (.cons (.ite (.cmp .le (.bin .sub (.var 3) (.var 2)) (.lit (.int 1))) (.cons (.ite (.cmp .gt (.var 2) (.lit (.int 0))) (.cons (.brk) .nil) .nil) (.cons (.ite (.cmp .eq (.var 3) (.var 2)) (.cons (.brk) .nil) .nil) (.cons (.ite (.var 8) (.cons (.brk) .nil) .nil) (.cons (.asg 8 (.lit (.bool true))) .nil)))) .nil) .nil)))))))) (.cons (.whl (.cons (.asg 12 (.idx (.var 1) (.var 2))) (.cons (.ite (.cmp .ge (.var 6) (.bi1 .len (.rowS (.var 12)))) (.cons (.setF 0 .cursor (.bin .sub (.var 4) (.bi1 .len (.rowS (.var 12))))) (.cons (.ret (.rowR (.var 12))) .nil)) .nil) (.cons (.asg 2 (.rowI (.var 12))) (.cons (.ite (.cmp .lt (.var 2) (.lit (.int 0))) (.cons (.ret (.lit (.int 0))) .nil) .nil) .nil))))) (.cons (.ret (.neg 1)) .nil))))))))))
noncomputable def c147 : Bk := (.cons (.asg 4 (.bin .sub (.bi1 .len (.var 3)) (.bin .sub (.var 2) (.var 1)))) (.cons (.setF 0 .cur (.bin .add (.bin .add (.slAll (.fld 0 .cur) (.lit (.int 0)) (.var 1)) (.var 3)) (.slLo (.fld 0 .cur) (.var 2)))) (.cons (.augF 0 .limit .add (.var 4)) (.cons (.ite (.cmp .ge (.fld 0 .cursor) (.var 2)) (.cons (.augF 0 .cursor .add (.var 4)) .nil) (.cons (.ite (.cmp .gt (.fld 0 .cursor) (.var 1)) (.cons (.setF 0 .cursor (.var 1)) .nil) .nil) .nil)) (.cons (.ret (.var 4)) .nil)))))
noncomputable def c154 : Bk := (.cons (.assert (.cmp .ge (.fld 0 .bra) (.lit (.int 0)))) (.cons (.assert (.cmp .le (.fld 0 .bra) (.fld 0 .ket))) (.cons (.assert (.cmp .le (.fld 0 .ket) (.fld 0 .limit))) (.cons (.assert (.cmp .le (.fld 0 .limit) (.bi1 .len (.fld 0 .cur)))) (.cons (.xpr (.call3 0 147 (.fld 0 .bra) (.fld 0 .ket) (.var 1))) (.cons (.setF 0 .ket (.bin .add (.fld 0 .bra) (.bi1 .len (.var 1)))) .nil))))))
noncomputable def c161 : Bk := (.cons (.ret (.call1 0 154 (.lit (.str [])))) .nil)
noncomputable def c189 : Bk := (.cons (.xpr (.call1 0 42 (.var 1))) (.cons (.xpr (.call0 0 385)) (.cons (.ret (.call0 0 49)) .nil)))
noncomputable def c238 : Bk := (.cons (.asg 1 (.fld 0 .cursor)) (.cons (.try_ (.cons (.whl (.cons (.asg 2 (.fld 0 .cursor)) (.cons (.try_ (.cons (.whl (.cons (.asg 3 (.fld 0 .cursor)) (.cons (.try_ (.cons (.setF 0 .bra (.fld 0 .cursor)) (.cons (.asg 4 (.call1 0 133 (.cat (.tab ta_0)))) (.cons (.ite (.cmp .eq (.var 4) (.lit (.int 0))) (.cons (.raise 1104) .nil) .nil) (.cons (.setF 0 .ket (.fld 0 .cursor)) (.cons (.xpr (.call1 0 154 (.idx (.cat (.menu tas_0)) (.bin .sub (.var 4) (.lit (.int 1)))))) (.cons (.brk) .nil)))))) 1104) (.cons (.setF 0 .cursor (.var 3)) (.cons (.ite (.cmp .ge (.fld 0 .cursor) (.fld 0 .limit)) (.cons (.raise 1091) .nil) .nil) (.cons (.augF 0 .cursor .add (.lit (.int 1))) (.cons (.brk) .nil))))))) (.cons (.cont) .nil)) 1091) (.cons (.setF 0 .cursor (.var 2)) (.cons (.brk) .nil))))) .nil) 1078) (.cons (.setF 0 .cursor (.var 1)) (.cons (.ret (.lit (.bool true))) .nil))))
noncomputable def c245 : Bk := (.cons (.asg 1 (.fld 0 .cursor)) (.cons (.try_ (.cons (.setF 0 .lb (.fld 0 .cursor)) (.cons (.setF 0 .cursor (.fld 0 .limit)) (.cons (.setF 0 .ket (.fld 0 .cursor)) (.cons (.ite (.cmp .eq (.call1 0 140 (.cat (.tab ta_1))) (.lit (.int 0))) (.cons (.raise 1078) .nil) .nil) (.cons (.setF 0 .bra (.fld 0 .cursor)) (.cons (.xpr (.call1 0 154 (.lit (.str [1569])))) (.cons (.setF 0 .cursor (.fld 0 .lb)) .nil))))))) 1078) (.cons (.setF 0 .cursor (.var 1)) (.cons (.asg 2 (.fld 0 .cursor)) (.cons (.try_ (.cons (.whl (.cons (.asg 3 (.fld 0 .cursor)) (.cons (.try_ (.cons (.whl (.cons (.asg 4 (.fld 0 .cursor)) (.cons (.try_ (.cons (.setF 0 .bra (.fld 0 .cursor)) (.cons (.asg 5 (.call1 0 133 (.cat (.tab ta_2)))) (.cons (.ite (.cmp .eq (.var 5) (.lit (.int 0))) (.cons (.raise 1104) .nil) .nil) (.cons (.setF 0 .ket (.fld 0 .cursor)) (.cons (.xpr (.call1 0 154 (.idx (.cat (.menu tas_2)) (.bin .sub (.var 5) (.lit (.int 1)))))) (.cons (.brk) .nil)))))) 1104) (.cons (.setF 0 .cursor (.var 4)) (.cons (.ite (.cmp .ge (.fld 0 .cursor) (.fld 0 .limit)) (.cons (.raise 1091) .nil) .nil) (.cons (.augF 0 .cursor .add (.lit (.int 1))) (.cons (.brk) .nil))))))) (.cons (.cont) .nil)) 1091) (.cons (.setF 0 .cursor (.var 3)) (.cons (.brk) .nil))))) .nil) 1078) (.cons (.setF 0 .cursor (.var 2)) (.cons (.ret (.lit (.bool true))) .nil)))))))
noncomputable def c252 : Bk := (.cons (.setF 0 .bra (.fld 0 .cursor)) (.cons (.asg 1 (.call1 0 133 (.cat (.tab ta_3)))) (.cons (.ite (.cmp .eq (.var 1) (.lit (.int 0))) (.cons (.ret (.lit (.bool false))) .nil) .nil) (.cons (.setF 0 .ket (.fld 0 .cursor)) (.cons (.ite (.cmp .eq (.var 1) (.lit (.int 1))) (.cons (.ite (.cmp .le (.bi1 .len (.fld 0 .cur)) (.lit (.int 4))) (.cons (.ret (.lit (.bool false))) .nil) .nil) (.cons (.setF 0 .bn (.lit (.bool true))) (.cons (.setF 0 .bv (.lit (.bool false))) (.cons (.setF 0 .bd (.lit (.bool true))) .nil)))) (.cons (.ite (.cmp .le (.bi1 .len (.fld 0 .cur)) (.lit (.int 3))) (.cons (.ret (.lit (.bool false))) .nil) .nil) (.cons (.setF 0 .bn (.lit (.bool true))) (.cons (.setF 0 .bv (.lit (.bool false))) (.cons (.setF 0 .bd (.lit (.bool true))) .nil))))) (.cons (.ret (.lit (.bool true))) .nil))))))
noncomputable def c259 : Bk := (.cons (.setF 0 .bra (.fld 0 .cursor)) (.cons (.asg 1 (.call1 0 133 (.cat (.tab ta_4)))) (.cons (.ite (.cmp .eq (.var 1) (.lit (.int 0))) (.cons (.ret (.lit (.bool false))) .nil) .nil) (.cons (.setF 0 .ket (.fld 0 .cursor)) (.cons (.ite (.cmp .eq (.var 1) (.lit (.int 1))) (.cons (.ite (.cmp .le (.bi1 .len (.fld 0 .cur)) (.lit (.int 3))) (.cons (.ret (.lit (.bool false))) .nil) .nil) (.cons (.xpr (.call1 0 154 (.lit (.str [1571])))) .nil)) (.cons (.ite (.cmp .eq (.var 1) (.lit (.int 2))) (.cons (.ite (.cmp .le (.bi1 .len (.fld 0 .cur)) (.lit (.int 3))) (.cons (.ret (.lit (.bool false))) .nil) .nil) (.cons (.xpr (.call1 0 154 (.lit (.str [1570])))) .nil)) (.cons (.ite (.cmp .eq (.var 1) (.lit (.int 3))) (.cons (.ite (.cmp .le (.bi1 .len (.fld 0 .cur)) (.lit (.int 3))) (.cons (.ret (.lit (.bool false))) .nil) .nil) (.cons (.xpr (.call1 0 154 (.lit (.str [1575])))) .nil)) (.cons (.ite (.cmp .le (.bi1 .len (.fld 0 .cur)) (.lit (.int 3))) (.cons (.ret (.lit (.bool false))) .nil) .nil) (.cons (.xpr (.call1 0 154 (.lit (.str [1573])))) .nil))) .nil)) .nil)) (.cons (.ret (.lit (.bool true))) .nil))))))
noncomputable def c266 : Bk := (.cons (.setF 0 .bra (.fld 0 .cursor)) (.cons (.ite (.cmp .eq (.call1 0 133 (.cat (.tab ta_5))) (.lit (.int 0))) (.cons (.ret (.lit (.bool false))) .nil) .nil) (.cons (.setF 0 .ket (.fld 0 .cursor)) (.cons (.ite (.cmp .le (.bi1 .len (.fld 0 .cur)) (.lit (.int 3))) (.cons (.ret (.lit (.bool false))) .nil) .nil) (.cons (.try_ (.cons (.ite (.or2 (.cmp .eq (.fld 0 .cursor) (.fld 0 .limit)) (.cmp .ne (.idx (.fld 0 .cur) (.fld 0 .cursor)) (.lit (.str [1575])))) (.cons (.raise 1078) .nil) .nil) (.cons (.augF 0 .cursor .add (.lit (.int 1))) (.cons (.ret (.lit (.bool false))) .nil))) 1078) (.cons (.xpr (.call0 0 161)) (.cons (.ret (.lit (.bool true))) .nil)))))))
noncomputable def c273 : Bk := (.cons (.setF 0 .bra (.fld 0 .cursor)) (.cons (.asg 1 (.call1 0 133 (.cat (.tab ta_3)))) (.cons (.ite (.cmp .eq (.var 1) (.lit (.int 0))) (.cons (.ret (.lit (.bool false))) .nil) .nil) (.cons (.setF 0 .ket (.fld 0 .cursor)) (.cons (.ite (.cmp .eq (.var 1) (.lit (.int 1))) (.cons (.ite (.cmp .le (.bi1 .len (.fld 0 .cur)) (.lit (.int 5))) (.cons (.ret (.lit (.bool false))) .nil) .nil) (.cons (.xpr (.call0 0 161)) .nil)) (.cons (.ite (.cmp .le (.bi1 .len (.fld 0 .cur)) (.lit (.int 4))) (.cons (.ret (.lit (.bool false))) .nil) .nil) (.cons (.xpr (.call0 0 161)) .nil))) (.cons (.ret (.lit (.bool true))) .nil))))))
noncomputable def c280 : Bk := (.cons (.setF 0 .bra (.fld 0 .cursor)) (.cons (.asg 1 (.call1 0 133 (.cat (.tab ta_7)))) (.cons (.ite (.cmp .eq (.var 1) (.lit (.int 0))) (.cons (.ret (.lit (.bool false))) .nil) .nil) (.cons (.setF 0 .ket (.fld 0 .cursor)) (.cons (.ite (.cmp .eq (.var 1) (.lit (.int 1))) (.cons (.ite (.cmp .le (.bi1 .len (.fld 0 .cur)) (.lit (.int 3))) (.cons (.ret (.lit (.bool false))) .nil) .nil) (.cons (.xpr (.call0 0 161)) .nil)) (.cons (.ite (.cmp .eq (.var 1) (.lit (.int 2))) (.cons (.ite (.cmp .le (.bi1 .len (.fld 0 .cur)) (.lit (.int 3))) (.cons (.ret (.lit (.bool false))) .nil) .nil) (.cons (.xpr (.call1 0 154 (.lit (.str [1576])))) .nil)) (.cons (.ite (.cmp .eq (.var 1) (.lit (.int 3))) (.cons (.ite (.cmp .le (.bi1 .len (.fld 0 .cur)) (.lit (.int 3))) (.cons (.ret (.lit (.bool false))) .nil) .nil) (.cons (.xpr (.call1 0 154 (.lit (.str [1603])))) .nil)) .nil) .nil)) .nil)) (.cons (.ret (.lit (.bool true))) .nil))))))
noncomputable def c287 : Bk := (.cons (.setF 0 .bra (.fld 0 .cursor)) (.cons (.asg 1 (.call1 0 133 (.cat (.tab ta_8)))) (.cons (.ite (.cmp .eq (.var 1) (.lit (.int 0))) (.cons (.ret (.lit (.bool false))) .nil) .nil) (.cons (.setF 0 .ket (.fld 0 .cursor)) (.cons (.ite (.cmp .eq (.var 1) (.lit (.int 1))) (.cons (.ite (.cmp .le (.bi1 .len (.fld 0 .cur)) (.lit (.int 4))) (.cons (.ret (.lit (.bool false))) .nil) .nil) (.cons (.xpr (.call1 0 154 (.lit (.str [1610])))) .nil)) (.cons (.ite (.cmp .eq (.var 1) (.lit (.int 2))) (.cons (.ite (.cmp .le (.bi1 .len (.fld 0 .cur)) (.lit (.int 4))) (.cons (.ret (.lit (.bool false))) .nil) .nil) (.cons (.xpr (.call1 0 154 (.lit (.str [1578])))) .nil)) (.cons (.ite (.cmp .eq (.var 1) (.lit (.int 3))) (.cons (.ite (.cmp .le (.bi1 .len (.fld 0 .cur)) (.lit (.int 4))) (.cons (.ret (.lit (.bool false))) .nil) .nil) (.cons (.xpr (.call1 0 154 (.lit (.str [1606])))) .nil)) (.cons (.ite (.cmp .le (.bi1 .len (.fld 0 .cur)) (.lit (.int 4))) (.cons (.ret (.lit (.bool false))) .nil) .nil) (.cons (.xpr (.call1 0 154 (.lit (.str [1571])))) .nil))) .nil)) .nil)) (.cons (.ret (.lit (.bool true))) .nil))))))
noncomputable def c294 : Bk := (.cons (.setF 0 .bra (.fld 0 .cursor)) (.cons (.ite (.cmp .eq (.call1 0 133 (.cat (.tab ta_9))) (.lit (.int 0))) (.cons (.ret (.lit (.bool false))) .nil) .nil) (.cons (.setF 0 .ket (.fld 0 .cursor)) (.cons (.ite (.cmp .le (.bi1 .len (.fld 0 .cur)) (.lit (.int 4))) (.cons (.ret (.lit (.bool false))) .nil) .nil) (.cons (.setF 0 .bv (.lit (.bool true))) (.cons (.setF 0 .bn (.lit (.bool false))) (.cons (.xpr (.call1 0 154 (.lit (.str [1575, 1587, 1578])))) (.cons (.ret (.lit (.bool true))) .nil))))))))
noncomputable def c301 : Bk := (.cons (.setF 0 .ket (.fld 0 .cursor)) (.cons (.asg 1 (.call1 0 140 (.cat (.tab ta_10)))) (.cons (.ite (.cmp .eq (.var 1) (.lit (.int 0))) (.cons (.ret (.lit (.bool false))) .nil) .nil) (.cons (.setF 0 .bra (.fld 0 .cursor)) (.cons (.ite (.cmp .eq (.var 1) (.lit (.int 1))) (.cons (.ite (.cmp .lt (.bi1 .len (.fld 0 .cur)) (.lit (.int 4))) (.cons (.ret (.lit (.bool false))) .nil) .nil) (.cons (.xpr (.call0 0 161)) .nil)) (.cons (.ite (.cmp .eq (.var 1) (.lit (.int 2))) (.cons (.ite (.cmp .lt (.bi1 .len (.fld 0 .cur)) (.lit (.int 5))) (.cons (.ret (.lit (.bool false))) .nil) .nil) (.cons (.xpr (.call0 0 161)) .nil)) (.cons (.ite (.cmp .lt (.bi1 .len (.fld 0 .cur)) (.lit (.int 6))) (.cons (.ret (.lit (.bool false))) .nil) .nil) (.cons (.xpr (.call0 0 161)) .nil))) .nil)) (.cons (.ret (.lit (.bool true))) .nil))))))
noncomputable def c308 : Bk := (.cons (.setF 0 .ket (.fld 0 .cursor)) (.cons (.ite (.or2 (.cmp .le (.fld 0 .cursor) (.fld 0 .lb)) (.cmp .ne (.idx (.fld 0 .cur) (.bin .sub (.fld 0 .cursor) (.lit (.int 1)))) (.lit (.str [1606])))) (.cons (.ret (.lit (.bool false))) .nil) .nil) (.cons (.augF 0 .cursor .sub (.lit (.int 1))) (.cons (.setF 0 .bra (.fld 0 .cursor)) (.cons (.ite (.cmp .le (.bi1 .len (.fld 0 .cur)) (.lit (.int 5))) (.cons (.ret (.lit (.bool false))) .nil) .nil) (.cons (.xpr (.call0 0 161)) (.cons (.ret (.lit (.bool true))) .nil)))))))
noncomputable def c315 : Bk := (.cons (.setF 0 .ket (.fld 0 .cursor)) (.cons (.ite (.cmp .eq (.call1 0 140 (.cat (.tab ta_11))) (.lit (.int 0))) (.cons (.ret (.lit (.bool false))) .nil) .nil) (.cons (.setF 0 .bra (.fld 0 .cursor)) (.cons (.ite (.cmp .le (.bi1 .len (.fld 0 .cur)) (.lit (.int 4))) (.cons (.ret (.lit (.bool false))) .nil) .nil) (.cons (.xpr (.call0 0 161)) (.cons (.ret (.lit (.bool true))) .nil))))))
noncomputable def c322 : Bk := (.cons (.setF 0 .ket (.fld 0 .cursor)) (.cons (.ite (.not (.call1 0 126 (.lit (.str [1575, 1578])))) (.cons (.ret (.lit (.bool false))) .nil) .nil) (.cons (.setF 0 .bra (.fld 0 .cursor)) (.cons (.ite (.cmp .lt (.bi1 .len (.fld 0 .cur)) (.lit (.int 5))) (.cons (.ret (.lit (.bool false))) .nil) .nil) (.cons (.xpr (.call0 0 161)) (.cons (.ret (.lit (.bool true))) .nil))))))
noncomputable def c329 : Bk := (.cons (.setF 0 .ket (.fld 0 .cursor)) (.cons (.ite (.or2 (.cmp .le (.fld 0 .cursor) (.fld 0 .lb)) (.cmp .ne (.idx (.fld 0 .cur) (.bin .sub (.fld 0 .cursor) (.lit (.int 1)))) (.lit (.str [1578])))) (.cons (.ret (.lit (.bool false))) .nil) .nil) (.cons (.augF 0 .cursor .sub (.lit (.int 1))) (.cons (.setF 0 .bra (.fld 0 .cursor)) (.cons (.ite (.cmp .lt (.bi1 .len (.fld 0 .cur)) (.lit (.int 4))) (.cons (.ret (.lit (.bool false))) .nil) .nil) (.cons (.xpr (.call0 0 161)) (.cons (.ret (.lit (.bool true))) .nil)))))))
noncomputable def c336 : Bk := (.cons (.setF 0 .ket (.fld 0 .cursor)) (.cons (.ite (.or2 (.cmp .le (.fld 0 .cursor) (.fld 0 .lb)) (.cmp .ne (.idx (.fld 0 .cur) (.bin .sub (.fld 0 .cursor) (.lit (.int 1)))) (.lit (.str [1577])))) (.cons (.ret (.lit (.bool false))) .nil) .nil) (.cons (.augF 0 .cursor .sub (.lit (.int 1))) (.cons (.setF 0 .bra (.fld 0 .cursor)) (.cons (.ite (.cmp .lt (.bi1 .len (.fld 0 .cur)) (.lit (.int 4))) (.cons (.ret (.lit (.bool false))) .nil) .nil) (.cons (.xpr (.call0 0 161)) (.cons (.ret (.lit (.bool true))) .nil)))))))
noncomputable def c343 : Bk := (.cons (.setF 0 .ket (.fld 0 .cursor)) (.cons (.ite (.or2 (.cmp .le (.fld 0 .cursor) (.fld 0 .lb)) (.cmp .ne (.idx (.fld 0 .cur) (.bin .sub (.fld 0 .cursor) (.lit (.int 1)))) (.lit (.str [1610])))) (.cons (.ret (.lit (.bool false))) .nil) .nil) (.cons (.augF 0 .cursor .sub (.lit (.int 1))) (.cons (.setF 0 .bra (.fld 0 .cursor)) (.cons (.ite (.cmp .lt (.bi1 .len (.fld 0 .cur)) (.lit (.int 3))) (.cons (.ret (.lit (.bool false))) .nil) .nil) (.cons (.xpr (.call0 0 161)) (.cons (.ret (.lit (.bool true))) .nil)))))))
noncomputable def c350 : Bk := (.cons (.setF 0 .ket (.fld 0 .cursor)) (.cons (.asg 1 (.call1 0 140 (.cat (.tab ta_12)))) (.cons (.ite (.cmp .eq (.var 1) (.lit (.int 0))) (.cons (.ret (.lit (.bool false))) .nil) .nil) (.cons (.setF 0 .bra (.fld 0 .cursor)) (.cons (.ite (.cmp .eq (.var 1) (.lit (.int 1))) (.cons (.ite (.cmp .lt (.bi1 .len (.fld 0 .cur)) (.lit (.int 4))) (.cons (.ret (.lit (.bool false))) .nil) .nil) (.cons (.xpr (.call0 0 161)) .nil)) (.cons (.ite (.cmp .eq (.var 1) (.lit (.int 2))) (.cons (.ite (.cmp .lt (.bi1 .len (.fld 0 .cur)) (.lit (.int 5))) (.cons (.ret (.lit (.bool false))) .nil) .nil) (.cons (.xpr (.call0 0 161)) .nil)) (.cons (.ite (.cmp .lt (.bi1 .len (.fld 0 .cur)) (.lit (.int 6))) (.cons (.ret (.lit (.bool false))) .nil) .nil) (.cons (.xpr (.call0 0 161)) .nil))) .nil)) (.cons (.ret (.lit (.bool true))) .nil))))))
noncomputable def c357 : Bk := (.cons (.setF 0 .ket (.fld 0 .cursor)) (.cons (.asg 1 (.call1 0 140 (.cat (.tab ta_13)))) (.cons (.ite (.cmp .eq (.var 1) (.lit (.int 0))) (.cons (.ret (.lit (.bool false))) .nil) .nil) (.cons (.setF 0 .bra (.fld 0 .cursor)) (.cons (.ite (.cmp .eq (.var 1) (.lit (.int 1))) (.cons (.ite (.cmp .lt (.bi1 .len (.fld 0 .cur)) (.lit (.int 4))) (.cons (.ret (.lit (.bool false))) .nil) .nil) (.cons (.xpr (.call0 0 161)) .nil)) (.cons (.ite (.cmp .eq (.var 1) (.lit (.int 2))) (.cons (.ite (.cmp .lt (.bi1 .len (.fld 0 .cur)) (.lit (.int 5))) (.cons (.ret (.lit (.bool false))) .nil) .nil) (.cons (.xpr (.call0 0 161)) .nil)) (.cons (.ite (.cmp .eq (.var 1) (.lit (.int 3))) (.cons (.ite (.cmp .le (.bi1 .len (.fld 0 .cur)) (.lit (.int 5))) (.cons (.ret (.lit (.bool false))) .nil) .nil) (.cons (.xpr (.call0 0 161)) .nil)) (.cons (.ite (.cmp .lt (.bi1 .len (.fld 0 .cur)) (.lit (.int 6))) (.cons (.ret (.lit (.bool false))) .nil) .nil) (.cons (.xpr (.call0 0 161)) .nil))) .nil)) .nil)) (.cons (.ret (.lit (.bool true))) .nil))))))
noncomputable def c364 : Bk := (.cons (.setF 0 .ket (.fld 0 .cursor)) (.cons (.ite (.cmp .eq (.call1 0 140 (.cat (.tab ta_14))) (.lit (.int 0))) (.cons (.ret (.lit (.bool false))) .nil) .nil) (.cons (.setF 0 .bra (.fld 0 .cursor)) (.cons (.ite (.cmp .lt (.bi1 .len (.fld 0 .cur)) (.lit (.int 5))) (.cons (.ret (.lit (.bool false))) .nil) .nil) (.cons (.xpr (.call0 0 161)) (.cons (.ret (.lit (.bool true))) .nil))))))
noncomputable def c371 : Bk := (.cons (.setF 0 .ket (.fld 0 .cursor)) (.cons (.asg 1 (.call1 0 140 (.cat (.tab ta_15)))) (.cons (.ite (.cmp .eq (.var 1) (.lit (.int 0))) (.cons (.ret (.lit (.bool false))) .nil) .nil) (.cons (.setF 0 .bra (.fld 0 .cursor)) (.cons (.ite (.cmp .eq (.var 1) (.lit (.int 1))) (.cons (.ite (.cmp .lt (.bi1 .len (.fld 0 .cur)) (.lit (.int 4))) (.cons (.ret (.lit (.bool false))) .nil) .nil) (.cons (.xpr (.call0 0 161)) .nil)) (.cons (.ite (.cmp .lt (.bi1 .len (.fld 0 .cur)) (.lit (.int 6))) (.cons (.ret (.lit (.bool false))) .nil) .nil) (.cons (.xpr (.call0 0 161)) .nil))) (.cons (.ret (.lit (.bool true))) .nil))))))
noncomputable def c378 : Bk := (.cons (.setF 0 .ket (.fld 0 .cursor)) (.cons (.ite (.or2 (.cmp .le (.fld 0 .cursor) (.fld 0 .lb)) (.cmp .ne (.idx (.fld 0 .cur) (.bin .sub (.fld 0 .cursor) (.lit (.int 1)))) (.lit (.str [1609])))) (.cons (.ret (.lit (.bool false))) .nil) .nil) (.cons (.augF 0 .cursor .sub (.lit (.int 1))) (.cons (.setF 0 .bra (.fld 0 .cursor)) (.cons (.xpr (.call1 0 154 (.lit (.str [1610])))) (.cons (.ret (.lit (.bool true))) .nil))))))
noncomputable def VW6 : Bk := (.cons (.asg 6 (.bin .sub (.fld 0 .limit) (.fld 0 .cursor))) (.cons (.try_ (.cons (.ite (.not (.call0 0 350)) (.cons (.raise 1117) .nil) .nil) (.cons (.augV 5 .sub (.lit (.int 1))) (.cons (.cont) .nil))) 1117) (.cons (.setF 0 .cursor (.bin .sub (.fld 0 .limit) (.var 6))) (.cons (.brk) .nil))))
noncomputable def VW7 : Bk := (.cons (.asg 7 (.bin .sub (.fld 0 .limit) (.fld 0 .cursor))) (.cons (.try_ (.cons (.ite (.not (.call0 0 357)) (.cons (.raise 1117) .nil) .nil) (.cons (.brk) .nil)) 1117) (.cons (.setF 0 .cursor (.bin .sub (.fld 0 .limit) (.var 7))) (.cons (.try_ (.cons (.ite (.not (.call0 0 371)) (.cons (.raise 1117) .nil) .nil) (.cons (.brk) .nil)) 1117) (.cons (.setF 0 .cursor (.bin .sub (.fld 0 .limit) (.var 7))) (.cons (.ite (.cmp .le (.fld 0 .cursor) (.fld 0 .lb)) (.cons (.raise 1104) .nil) .nil) (.cons (.augF 0 .cursor .sub (.lit (.int 1))) (.cons (.brk) .nil))))))))
noncomputable def V1 : Bk := (.cons (.asg 5 (.lit (.int 1))) (.cons (.whl VW6) (.cons (.ite (.cmp .gt (.var 5) (.lit (.int 0))) (.cons (.raise 1104) .nil) .nil) (.cons (.whl VW7) (.cons (.brk) .nil)))))
noncomputable def VW4 : Bk := (.cons (.asg 4 (.bin .sub (.fld 0 .limit) (.fld 0 .cursor))) (.cons (.try_ V1 1104) (.cons (.setF 0 .cursor (.bin .sub (.fld 0 .limit) (.var 4))) (.cons (.try_ (.cons (.ite (.not (.call0 0 364)) (.cons (.raise 1104) .nil) .nil) (.cons (.brk) .nil)) 1104) (.cons (.setF 0 .cursor (.bin .sub (.fld 0 .limit) (.var 4))) (.cons (.ite (.not (.call0 0 357)) (.cons (.raise 1091) .nil) .nil) (.cons (.brk) .nil)))))))
noncomputable def VERB : Bk := (.cons (.ite (.not (.fld 0 .bv)) (.cons (.raise 1091) .nil) .nil) (.cons (.whl VW4) (.cons (.brk) .nil)))
noncomputable def NW10 : Bk := (.cons (.asg 10 (.bin .sub (.fld 0 .limit) (.fld 0 .cursor))) (.cons (.try_ (.cons (.ite (.not (.call0 0 315)) (.cons (.raise 1130) .nil) .nil) (.cons (.brk) .nil)) 1130) (.cons (.setF 0 .cursor (.bin .sub (.fld 0 .limit) (.var 10))) (.cons (.try_ (.cons (.ite (.not (.call0 0 322)) (.cons (.raise 1130) .nil) .nil) (.cons (.brk) .nil)) 1130) (.cons (.setF 0 .cursor (.bin .sub (.fld 0 .limit) (.var 10))) (.cons (.try_ (.cons (.ite (.not (.call0 0 329)) (.cons (.raise 1130) .nil) .nil) (.cons (.brk) .nil)) 1130) (.cons (.setF 0 .cursor (.bin .sub (.fld 0 .limit) (.var 10))) (.cons (.ite (.cmp .le (.fld 0 .cursor) (.fld 0 .lb)) (.cons (.raise 1117) .nil) .nil) (.cons (.augF 0 .cursor .sub (.lit (.int 1))) (.cons (.brk) .nil))))))))))
noncomputable def N1a : Bk := (.cons (.ite (.fld 0 .bd) (.cons (.raise 1117) .nil) .nil) (.cons (.ite (.not (.call0 0 301)) (.cons (.raise 1117) .nil) .nil) (.cons (.whl NW10) (.cons (.brk) .nil))))
noncomputable def NW11 : Bk := (.cons (.asg 11 (.bin .sub (.fld 0 .limit) (.fld 0 .cursor))) (.cons (.try_ (.cons (.ite (.not (.call0 0 315)) (.cons (.raise 1130) .nil) .nil) (.cons (.brk) .nil)) 1130) (.cons (.setF 0 .cursor (.bin .sub (.fld 0 .limit) (.var 11))) (.cons (.try_ (.cons (.ite (.not (.call0 0 322)) (.cons (.raise 1130) .nil) .nil) (.cons (.brk) .nil)) 1130) (.cons (.setF 0 .cursor (.bin .sub (.fld 0 .limit) (.var 11))) (.cons (.ite (.not (.call0 0 329)) (.cons (.raise 1117) .nil) .nil) (.cons (.brk) .nil)))))))
noncomputable def N1b : Bk := (.cons (.ite (.not (.call0 0 308)) (.cons (.raise 1117) .nil) .nil) (.cons (.whl NW11) (.cons (.brk) .nil)))
noncomputable def NW9 : Bk := (.cons (.asg 9 (.bin .sub (.fld 0 .limit) (.fld 0 .cursor))) (.cons (.try_ (.cons (.ite (.not (.call0 0 336)) (.cons (.raise 1117) .nil) .nil) (.cons (.brk) .nil)) 1117) (.cons (.setF 0 .cursor (.bin .sub (.fld 0 .limit) (.var 9))) (.cons (.try_ N1a 1117) (.cons (.setF 0 .cursor (.bin .sub (.fld 0 .limit) (.var 9))) (.cons (.try_ N1b 1117) (.cons (.setF 0 .cursor (.bin .sub (.fld 0 .limit) (.var 9))) (.cons (.try_ (.cons (.ite (.fld 0 .bd) (.cons (.raise 1117) .nil) .nil) (.cons (.ite (.not (.call0 0 315)) (.cons (.raise 1117) .nil) .nil) (.cons (.brk) .nil))) 1117) (.cons (.setF 0 .cursor (.bin .sub (.fld 0 .limit) (.var 9))) (.cons (.ite (.not (.call0 0 322)) (.cons (.setF 0 .cursor (.bin .sub (.fld 0 .limit) (.var 8))) (.cons (.raise 1104) .nil)) .nil) (.cons (.brk) .nil)))))))))))
noncomputable def N8 : Bk := (.cons (.whl NW9) .nil)
noncomputable def NOUN : Bk := (.cons (.ite (.not (.fld 0 .bn)) (.cons (.raise 1091) .nil) .nil) (.cons (.asg 8 (.bin .sub (.fld 0 .limit) (.fld 0 .cursor))) (.cons (.try_ N8 1104) (.cons (.ite (.not (.call0 0 343)) (.cons (.raise 1091) .nil) .nil) (.cons (.brk) .nil)))))
noncomputable def W3 : Bk := (.cons (.asg 3 (.bin .sub (.fld 0 .limit) (.fld 0 .cursor))) (.cons (.try_ VERB 1091) (.cons (.setF 0 .cursor (.bin .sub (.fld 0 .limit) (.var 3))) (.cons (.try_ NOUN 1091) (.cons (.setF 0 .cursor (.bin .sub (.fld 0 .limit) (.var 3))) (.cons (.ite (.not (.call0 0 378)) (.cons (.raise 1078) .nil) .nil) (.cons (.brk) .nil)))))))
noncomputable def PW15 : Bk := (.cons (.asg 15 (.fld 0 .cursor)) (.cons (.try_ (.cons (.ite (.not (.call0 0 273)) (.cons (.raise 1091) .nil) .nil) (.cons (.brk) .nil)) 1091) (.cons (.setF 0 .cursor (.var 15)) (.cons (.try_ (.cons (.ite (.not (.fld 0 .bn)) (.cons (.raise 1091) .nil) .nil) (.cons (.ite (.not (.call0 0 280)) (.cons (.raise 1091) .nil) .nil) (.cons (.brk) .nil))) 1091) (.cons (.setF 0 .cursor (.var 15)) (.cons (.ite (.not (.fld 0 .bv)) (.cons (.raise 1078) .nil) .nil) (.cons (.asg 16 (.fld 0 .cursor)) (.cons (.try_ (.cons (.ite (.not (.call0 0 287)) (.cons (.setF 0 .cursor (.var 16)) (.cons (.raise 1091) .nil)) .nil) .nil) 1091) (.cons (.ite (.not (.call0 0 294)) (.cons (.raise 1078) .nil) .nil) (.cons (.brk) .nil))))))))))
noncomputable def PREB : Bk := (.cons (.asg 13 (.fld 0 .cursor)) (.cons (.try_ (.cons (.ite (.not (.call0 0 259)) (.cons (.setF 0 .cursor (.var 13)) (.cons (.raise 1091) .nil)) .nil) .nil) 1091) (.cons (.asg 14 (.fld 0 .cursor)) (.cons (.try_ (.cons (.ite (.not (.call0 0 266)) (.cons (.setF 0 .cursor (.var 14)) (.cons (.raise 1091) .nil)) .nil) .nil) 1091) (.cons (.whl PW15) .nil)))))
noncomputable def c385 : Bk := (.cons (.setF 0 .bn (.lit (.bool true))) (.cons (.setF 0 .bv (.lit (.bool true))) (.cons (.setF 0 .bd (.lit (.bool false))) (.cons (.asg 1 (.fld 0 .cursor)) (.cons (.xpr (.call0 0 252)) (.cons (.setF 0 .cursor (.var 1)) (.cons (.xpr (.call0 0 238)) (.cons (.setF 0 .lb (.fld 0 .cursor)) (.cons (.setF 0 .cursor (.fld 0 .limit)) (.cons (.asg 2 (.bin .sub (.fld 0 .limit) (.fld 0 .cursor))) (.cons (.try_ (.cons (.whl W3) .nil) 1078) (.cons (.setF 0 .cursor (.bin .sub (.fld 0 .limit) (.var 2))) (.cons (.setF 0 .cursor (.fld 0 .lb)) (.cons (.asg 12 (.fld 0 .cursor)) (.cons (.try_ PREB 1078) (.cons (.setF 0 .cursor (.var 12)) (.cons (.xpr (.call0 0 245)) (.cons (.ret (.lit (.bool true))) .nil))))))))))))))))))
noncomputable def c1140 : Bk := (.cons (.ret (.strsD [[1575, 1604], [1576, 1575, 1604], [1603, 1575, 1604], [1604, 1604], [1571, 1570], [1571, 1571], [1571, 1572], [1571, 1573], [1571, 1575], [1601], [1608], [1576], [1576, 1575], [1576, 1576], [1603, 1603], [1587, 1571], [1587, 1578], [1587, 1606], [1587, 1610], [1578, 1587, 1578], [1606, 1587, 1578], [1610, 1587, 1578]])) .nil)
noncomputable def c1150 : Bk := (.cons (.ret (.strsD [[1601, 1576, 1575, 1604], [1601, 1603, 1575, 1604], [1608, 1576, 1575, 1604], [1608, 1603, 1575, 1604], [1576, 1575, 1604], [1603, 1575, 1604], [1601, 1604, 1604], [1608, 1604, 1604], [1575, 1604], [1604, 1604], [1601, 1576], [1608, 1576], [1601, 1603], [1608, 1603], [1601, 1587], [1608, 1587], [1601], [1608], [1576], [1603], [1587]])) .nil)
noncomputable def c1157 : Bk := (.cons (.asg 1 (.bin .mod (.var 0) (.lit (.int 4)))) (.cons (.asg 2 (.bin .fdiv (.var 0) (.lit (.int 4)))) (.cons (.ite (.cmp .eq (.var 1) (.lit (.int 0))) (.cons (.ret (.idx (.gl (.str g_law_letters)) (.bin .mod (.var 2) (.lit (.int 36))))) .nil) .nil) (.cons (.ite (.cmp .eq (.var 1) (.lit (.int 1))) (.cons (.ret (.idx (.fn0 1140) (.bin .mod (.var 2) (.lit (.int 22))))) .nil) .nil) (.cons (.ite (.cmp .eq (.var 1) (.lit (.int 2))) (.cons (.ret (.idx (.bin .add (.bin .add (.gl (.strs g_law_owners)) (.gl (.strs g_law_persons))) (.gl (.strs g_law_others))) (.bin .mod (.var 2) (.lit (.int 30))))) .nil) .nil) (.cons (.asg 2 (.bin .mod (.var 2) (.lit (.int 160)))) (.cons (.ret (.bi1 .chr (.bin .add (.var 2) (.ife (.cmp .lt (.var 2) (.lit (.int 21))) (.lit (.int 1599)) (.ife (.cmp .lt (.var 2) (.lit (.int 33))) (.lit (.int 1610)) (.lit (.int 65118))))))) .nil)))))))
noncomputable def c1164 : Bk := (.cons (.forE 1 (.gl (.str g_law_letters)) (.cons (.asg 2 (.ife (.cmp .eq (.var 1) (.lit (.str [1569]))) (.lit (.int 1)) (.ife (.isIn (.var 1) (.strsD [[1570], [1571], [1572], [1573], [1575], [1577], [1583], [1584], [1585], [1586], [1608], [1609]])) (.lit (.int 2)) (.lit (.int 4))))) (.cons (.ite (.cmp .lt (.var 0) (.var 2)) (.cons (.ret (.var 1)) .nil) .nil) (.cons (.asg 0 (.bin .sub (.var 0) (.var 2))) .nil)))) (.cons (.ret (.bin .add (.lit (.str [1604])) (.idx (.lit (.str [1570, 1571, 1573, 1575])) (.bin .fdiv (.var 0) (.lit (.int 2)))))) .nil))
noncomputable def c1171 : Bk := (.cons (.asg 1 (.lit (.str []))) (.cons (.forE 2 (.var 0) (.cons (.asg 3 (.bi1 .ord (.var 2))) (.cons (.ite (.and2 (.cmp .le (.lit (.int 65152)) (.var 3)) (.cmp .le (.var 3) (.lit (.int 65276)))) (.cons (.asg 1 (.bin .add (.var 1) (.fn1 1164 (.bin .sub (.var 3) (.lit (.int 65152)))))) .nil) (.cons (.ite (.and2 (.cmp .le (.lit (.int 1632)) (.var 3)) (.cmp .le (.var 3) (.lit (.int 1641)))) (.cons (.asg 1 (.bin .add (.var 1) (.idx (.lit (.str [48, 49, 50, 51, 52, 53, 54, 55, 56, 57])) (.bin .sub (.var 3) (.lit (.int 1632)))))) .nil) (.cons (.ite (.and2 (.cmp .ne (.var 3) (.lit (.int 1600))) (.or2 (.cmp .lt (.var 3) (.lit (.int 1611))) (.cmp .gt (.var 3) (.lit (.int 1618))))) (.cons (.asg 1 (.bin .add (.var 1) (.var 2))) .nil) .nil) .nil)) .nil)) .nil))) (.cons (.ret (.var 1)) .nil)))
noncomputable def c1178 : Bk := (.cons (.forE 2 (.var 1) (.cons (.ite (.sm .ends (.var 0) (.var 2)) (.cons (.asg 3 (.slHi (.var 0) (.bin .sub (.bi1 .len (.var 0)) (.bi1 .len (.var 2))))) (.cons (.ret (.ife (.cmp .ge (.bi1 .len (.var 3)) (.ife (.isIn (.var 2) (.strsD [[1575, 1606], [1608, 1606], [1610, 1606]])) (.lit (.int 4)) (.lit (.int 3)))) (.var 3) (.var 0))) .nil)) .nil) .nil)) (.cons (.ret (.var 0)) .nil))
noncomputable def c1185 : Bk := (.cons (.ite (.not (.var 1)) (.cons (.asg 2 (.var 0)) (.cons (.forE 3 (.var 0) (.cons (.asg 4 (.fn2 1178 (.var 2) (.gl (.strs g_law_owners)))) (.cons (.ite (.cmp .eq (.var 4) (.var 2)) (.cons (.brk) .nil) .nil) (.cons (.asg 2 (.var 4)) .nil)))) (.cons (.asg 5 (.ife (.cmp .eq (.var 2) (.var 0)) (.pair (.strsD [[1608, 1575], [1578, 1605]]) (.gl (.strs g_law_persons))) (.pair (.gl (.strs g_law_persons)) (.strsD [[1578, 1605, 1608], [1608]])))) (.cons (.forE 6 (.var 5) (.cons (.asg 4 (.fn2 1178 (.var 2) (.var 6))) (.cons (.ite (.cmp .ne (.var 4) (.var 2)) (.cons (.ret (.var 4)) .nil) .nil) .nil))) (.cons (.ite (.cmp .ne (.var 2) (.var 0)) (.cons (.ret (.var 2)) .nil) .nil) .nil))))) .nil) (.cons (.ite (.sm .ends (.var 0) (.lit (.str [1577]))) (.cons (.asg 0 (.fn2 1178 (.var 0) (.strsD [[1577]]))) .nil) (.cons (.ite (.and3 (.var 1) (.sm .ends (.var 0) (.lit (.str [1606]))) (.cmp .gt (.bi1 .len (.var 0)) (.lit (.int 5)))) (.cons (.asg 0 (.fn2 1178 (.slHi (.var 0) (.bin .sub (.bi1 .len (.var 0)) (.lit (.int 1)))) (.strsD [[1575, 1578], [1575], [1608], [1610], [1578]]))) .nil) (.cons (.ite (.var 1) (.cons (.asg 0 (.fn2 1178 (.var 0) (.strsD [[1575, 1578]]))) .nil) (.cons (.ite (.and2 (.cmp .gt (.bi1 .len (.var 0)) (.lit (.int 4))) (.isIn (.idx (.var 0) (.bin .sub (.bi1 .len (.var 0)) (.lit (.int 1)))) (.strsD [[1575], [1608]]))) (.cons (.asg 0 (.slHi (.var 0) (.bin .sub (.bi1 .len (.var 0)) (.lit (.int 1))))) .nil) .nil) .nil)) .nil)) .nil)) (.cons (.ite (.and2 (.sm .ends (.var 0) (.lit (.str [1610]))) (.cmp .gt (.bi1 .len (.var 0)) (.lit (.int 2)))) (.cons (.ret (.slHi (.var 0) (.bin .sub (.bi1 .len (.var 0)) (.lit (.int 1))))) .nil) .nil) (.cons (.ite (.sm .ends (.var 0) (.lit (.str [1609]))) (.cons (.ret (.bin .add (.slHi (.var 0) (.bin .sub (.bi1 .len (.var 0)) (.lit (.int 1)))) (.lit (.str [1610])))) .nil) .nil) (.cons (.ret (.var 0)) .nil)))))
noncomputable def c1192 : Bk := (.cons (.asg 3 (.bi1 .len (.bin .add (.var 0) (.var 2)))) (.cons (.ite (.sm .ends (.var 1) (.lit (.str [1587]))) (.cons (.ret (.and2 (.cmp .gt (.var 3) (.lit (.int 3))) (.isIn (.slHi (.var 2) (.lit (.int 1))) (.strsD [[1571], [1578], [1606], [1610]])))) .nil) .nil) (.cons (.ite (.sm .ends (.var 1) (.lit (.str [1603]))) (.cons (.ret (.and2 (.cmp .gt (.var 3) (.lit (.int 2))) (.cmp .eq (.slHi (.var 2) (.lit (.int 1))) (.lit (.str [1603]))))) .nil) .nil) (.cons (.ret (.and2 (.cmp .gt (.var 3) (.lit (.int 2))) (.or2 (.sm .ends (.var 1) (.lit (.str [1604]))) (.cmp .ne (.slHi (.var 2) (.lit (.int 1))) (.lit (.str [1575])))))) .nil))))
noncomputable def c1197 : Bk := (.cons (.asg 1 (.lit (.str []))) (.cons (.ite (.and2 (.cmp .gt (.bi1 .len (.var 0)) (.lit (.int 3))) (.isIn (.slHi (.var 0) (.lit (.int 2))) (.strsD [[1571, 1570], [1571, 1571], [1571, 1572], [1571, 1573], [1571, 1575]]))) (.cons (.asg 1 (.lit (.str [1575]))) (.cons (.asg 0 (.slLo (.var 0) (.lit (.int 2)))) .nil)) .nil) (.cons (.asg 3 (.compF [1, 0] 2 (.fn0 1150) (.and2 (.sm .starts (.var 0) (.var 2)) (.fn3 1192 (.var 1) (.var 2) (.slLo (.var 0) (.bi1 .len (.var 2))))))) (.cons (.asg 2 (.ife (.cmp .ne (.var 3) (.strsD [])) (.idx (.var 3) (.lit (.int 0))) (.lit (.str [])))) (.cons (.asg 0 (.slLo (.var 0) (.bi1 .len (.var 2)))) (.cons (.asg 4 (.ife (.sm .ends (.var 2) (.lit (.str [1587]))) (.lit (.int 1)) (.lit (.int 0)))) (.cons (.ite (.and3 (.isIn (.var 2) (.strsD [[], [1601], [1608], [1587], [1601, 1587], [1608, 1587]])) (.cmp .gt (.bi1 .len (.bin .add (.var 1) (.var 0))) (.lit (.int 4))) (.isIn (.slAll (.var 0) (.var 4) (.bin .add (.var 4) (.lit (.int 3)))) (.strsD [[1578, 1587, 1578], [1606, 1587, 1578], [1610, 1587, 1578]]))) (.cons (.asg 0 (.bin .add (.bin .add (.slHi (.var 0) (.var 4)) (.lit (.str [1575]))) (.slLo (.var 0) (.bin .add (.var 4) (.lit (.int 1)))))) .nil) .nil) (.cons (.ret (.bin .add (.var 1) (.var 0))) .nil))))))))
noncomputable def c1207 : Bk := (.cons (.asg 1 (.compF [0] 2 (.strsD [[1575, 1604], [1604, 1604], [1576, 1575, 1604], [1603, 1575, 1604]]) (.and2 (.sm .starts (.var 0) (.var 2)) (.cmp .gt (.bi1 .len (.var 0)) (.bin .add (.bi1 .len (.var 2)) (.lit (.int 1))))))) (.cons (.ret (.fn1 1202 (.fn1 1197 (.fn2 1185 (.fn1 1171 (.var 0)) (.cmp .ne (.var 1) (.strsD [])))))) .nil))
theorem co_1140 : codeOf (topFn 14) [] = some c1140 := by kernel_rfl
theorem co_1150 : codeOf (topFn 18) [] = some c1150 := by kernel_rfl
theorem co_1157 : codeOf (topFn 19) [] = some c1157 := by kernel_rfl
theorem co_1164 : codeOf (topFn 20) [] = some c1164 := by kernel_rfl
theorem co_1171 : codeOf (topFn 21) [] = some c1171 := by kernel_rfl
theorem co_1178 : codeOf (topFn 22) [] = some c1178 := by kernel_rfl
theorem co_1185 : codeOf (topFn 23) [] = some c1185 := by kernel_rfl
theorem co_1192 : codeOf (topFn 24) [] = some c1192 := by kernel_rfl
theorem co_1197 : codeOf (topFn 25) [] = some c1197 := by kernel_rfl
theorem co_1207 : codeOf (topFn 27) ["head"] = some c1207 := by kernel_rfl
theorem co_42 : codeOf (mthFn 2 1) [] = some c42 := by kernel_rfl
theorem co_49 : codeOf (mthFn 2 2) [] = some c49 := by kernel_rfl
theorem co_126 : codeOf (mthFn 2 13) [] = some c126 := by kernel_rfl
theorem co_133 : codeOf (mthFn 2 14) [] = some c133 := by kernel_rfl
theorem co_140 : codeOf (mthFn 2 15) [] = some c140 := by kernel_rfl
theorem co_147 : codeOf (mthFn 2 16) [] = some c147 := by kernel_rfl
theorem co_154 : codeOf (mthFn 2 17) [] = some c154 := by kernel_rfl
theorem co_161 : codeOf (mthFn 2 18) [] = some c161 := by kernel_rfl
theorem co_189 : codeOf (mthFn 2 22) [] = some c189 := by kernel_rfl
theorem co_238 : codeOf (mthFn 6 3) [] = some c238 := by kernel_rfl
theorem co_245 : codeOf (mthFn 6 4) [] = some c245 := by kernel_rfl
theorem co_252 : codeOf (mthFn 6 5) [] = some c252 := by kernel_rfl
theorem co_259 : codeOf (mthFn 6 6) [] = some c259 := by kernel_rfl
theorem co_266 : codeOf (mthFn 6 7) [] = some c266 := by kernel_rfl
theorem co_273 : codeOf (mthFn 6 8) [] = some c273 := by kernel_rfl
theorem co_280 : codeOf (mthFn 6 9) [] = some c280 := by kernel_rfl
theorem co_287 : codeOf (mthFn 6 10) [] = some c287 := by kernel_rfl
theorem co_294 : codeOf (mthFn 6 11) [] = some c294 := by kernel_rfl
theorem co_301 : codeOf (mthFn 6 12) [] = some c301 := by kernel_rfl
theorem co_308 : codeOf (mthFn 6 13) [] = some c308 := by kernel_rfl
theorem co_315 : codeOf (mthFn 6 14) [] = some c315 := by kernel_rfl
theorem co_322 : codeOf (mthFn 6 15) [] = some c322 := by kernel_rfl
theorem co_329 : codeOf (mthFn 6 16) [] = some c329 := by kernel_rfl
theorem co_336 : codeOf (mthFn 6 17) [] = some c336 := by kernel_rfl
theorem co_343 : codeOf (mthFn 6 18) [] = some c343 := by kernel_rfl
theorem co_350 : codeOf (mthFn 6 19) [] = some c350 := by kernel_rfl
theorem co_357 : codeOf (mthFn 6 20) [] = some c357 := by kernel_rfl
theorem co_364 : codeOf (mthFn 6 21) [] = some c364 := by kernel_rfl
theorem co_371 : codeOf (mthFn 6 22) [] = some c371 := by kernel_rfl
theorem co_378 : codeOf (mthFn 6 23) [] = some c378 := by kernel_rfl
theorem co_385 : codeOf (mthFn 6 24) [] = some c385 := by kernel_rfl
end Mine
end
section
open PySem PySem.W PyProof.Rows PySem.Calls
set_option genSizeOf false
set_option genInjectivity false
set_option maxRecDepth 1000000
namespace Mine
noncomputable def look : Nat → Option (Nat × Nat × Bk)
  | 1140 => some (0, 0, c1140)
  | 1150 => some (0, 0, c1150)
  | 1157 => some (3, 1, c1157)
  | 1164 => some (3, 1, c1164)
  | 1171 => some (4, 1, c1171)
  | 1178 => some (4, 2, c1178)
  | 1185 => some (7, 2, c1185)
  | 1192 => some (4, 3, c1192)
  | 1197 => some (5, 1, c1197)
  | 1207 => some (3, 1, c1207)
  | 42 => some (2, 2, c42)
  | 49 => some (1, 1, c49)
  | 126 => some (2, 2, c126)
  | 133 => some (14, 2, c133)
  | 140 => some (14, 2, c140)
  | 147 => some (5, 4, c147)
  | 154 => some (2, 2, c154)
  | 161 => some (1, 1, c161)
  | 189 => some (2, 2, c189)
  | 238 => some (5, 1, c238)
  | 245 => some (6, 1, c245)
  | 252 => some (2, 1, c252)
  | 259 => some (2, 1, c259)
  | 266 => some (1, 1, c266)
  | 273 => some (2, 1, c273)
  | 280 => some (2, 1, c280)
  | 287 => some (2, 1, c287)
  | 294 => some (1, 1, c294)
  | 301 => some (2, 1, c301)
  | 308 => some (1, 1, c308)
  | 315 => some (1, 1, c315)
  | 322 => some (1, 1, c322)
  | 329 => some (1, 1, c329)
  | 336 => some (1, 1, c336)
  | 343 => some (1, 1, c343)
  | 350 => some (2, 1, c350)
  | 357 => some (2, 1, c357)
  | 364 => some (1, 1, c364)
  | 371 => some (2, 1, c371)
  | 378 => some (1, 1, c378)
  | 385 => some (17, 1, c385)
  | _ => Option.none
noncomputable def callN (n m : Nat) (F : Sg → Option (Out × Sg)) (xs : List V) (σ : St) : Option (V × St) :=
  if xs.length = m then (F (xs.map some ++ List.replicate (n - xs.length) Option.none, σ)).bind fun (o, (_, σ)) => match o with
    | .next => some (.none, σ)
    | .ret v => some (v, σ)
    | _ => Option.none
  else Option.none
theorem callG_N (nm : List Str) (m : Nat) (F : Sg → Option (Out × Sg)) : callG nm m F = callN nm.length m F := rfl
noncomputable def hamC (c : Nat) : Nat := if c = 1570 ∨ c = 1571 ∨ c = 1573 then 1575 else if c = 1572 then 1608 else if c = 1574 then 1610 else c
noncomputable def hamL (c : Nat) : Nat := if c = 1570 ∨ c = 1571 ∨ c = 1572 ∨ c = 1573 ∨ c = 1574 then 1569 else c
noncomputable def hamT (t : T) : T := match t.getLast? with
  | some c => t.dropLast.map hamC ++ [hamC (hamL c)]
  | Option.none => []
noncomputable def hamz : List V → Option V
  | [.str t] => if t.length ≤ 1000 then some (.str (hamT t)) else Option.none
  | _ => Option.none
open Classical in
noncomputable def Lvl : Nat → Phi × Psi
  | 0 => (fun _ _ _ => Option.none, fun _ _ => Option.none)
  | k + 1 => (fun m r σ => (look m).bind fun (n, np, b) => callN n np (fun x => evB loop (Lvl k).1 (Lvl k).2 b x) (.me :: r) σ,
    fun f xs => if f = 1202 then hamz xs else (look f).bind fun (n, np, b) =>
      if h : ∃ v, ∀ σ, callN n np (fun x => evB loop (Lvl k).1 (Lvl k).2 b x) xs σ = some (v, σ) then some h.choose else Option.none)
noncomputable def Phi_ (k : Nat) : Phi := (Lvl k).1
noncomputable def Psi_ (k : Nat) : Psi := (Lvl k).2
theorem Phi_0 (m : Nat) (xs : List V) (σ : St) : Phi_ 0 m xs σ = Option.none := rfl
theorem Psi_0 (m : Nat) (xs : List V) : Psi_ 0 m xs = Option.none := rfl
theorem Phi_s (k m : Nat) (r : List V) (σ : St) : Phi_ (k + 1) m r σ = (look m).bind fun (n, np, b) => callN n np (fun x => evB loop (Phi_ k) (Psi_ k) b x) (.me :: r) σ := rfl
open Classical in
theorem Psi_s (k f : Nat) (xs : List V) : Psi_ (k + 1) f xs = if f = 1202 then hamz xs else (look f).bind fun (n, np, b) =>
      if h : ∃ v, ∀ σ, callN n np (fun x => evB loop (Phi_ k) (Psi_ k) b x) xs σ = some (v, σ) then some h.choose else Option.none := rfl
theorem phi_at {m n np : Nat} {b : Bk} (h : look m = some (n, np, b)) (k : Nat) (r : List V) (σ : St) : Phi_ (k + 1) m r σ = callN n np (fun x => evB loop (Phi_ k) (Psi_ k) b x) (.me :: r) σ := by
  rw [Phi_s, h]; rfl
open Classical in
theorem psi_at {m n np : Nat} {b : Bk} (h : look m = some (n, np, b)) (hm : m ≠ 1202) {k : Nat} {xs : List V} {v : V} (hv : ∀ σ, callN n np (fun x => evB loop (Phi_ k) (Psi_ k) b x) xs σ = some (v, σ)) : Psi_ (k + 1) m xs = some v := by
  rw [Psi_s, if_neg hm, h]
  have h1 : ∃ v, ∀ σ, callN n np (fun x => evB loop (Phi_ k) (Psi_ k) b x) xs σ = some (v, σ) := ⟨v, hv⟩
  show (if h : _ then _ else _) = _
  rw [dif_pos h1]
  have := h1.choose_spec ({} : St)
  rw [hv] at this
  injection this with this
  injection this with this
  rw [← this]
open Classical in
theorem psi_of {m n np : Nat} {b : Bk} (h : look m = some (n, np, b)) (hm : m ≠ 1202) {k : Nat} {xs : List V} {v : V} (q : Psi_ (k + 1) m xs = some v) (σ : St) : callN n np (fun x => evB loop (Phi_ k) (Psi_ k) b x) xs σ = some (v, σ) := by
  rw [Psi_s, if_neg hm, h] at q
  change (if h : _ then _ else _) = _ at q
  split at q
  · rename_i h1
    cases q
    exact h1.choose_spec σ
  · cases q
theorem CallOk.of {C : Cx} {n : Nat} {f : Addr} {g g' : List V → St → Option (V × St)} (h : CallOk C n f g) (k : ∀ xs σ r, g' xs σ = some r → g xs σ = some r) : CallOk C n f g' :=
  fun p nm sc A s ρ σ us xs v σ' P M a r q => h p nm sc A s ρ σ us xs v σ' P M a r (k _ _ _ q)
noncomputable def LvOk (C : Cx) (k : Nat) : Prop := (∀ x f, fns.lookup x = some f → CallOk C k f (fnG (Psi_ k) f)) ∧ ∀ a m, mths.lookup a = some m → CallOk C k m (mtG (Phi_ k) m)
theorem lv_mth {C : Cx} {k : Nat} (I : LvOk C k) {f : Addr} {name qual : Str} {pm : Value} {src : Src} {code : Addr} {ps : List Str} {more : List Str} {n : Nat} {b : Bk} (D : DefOk f name qual pm src code ps (nmOf src more)) (hb : codeOf src more = some b) (hn : (nmOf src more).length = n) (hl : look f = some (n, ps.length, b)) :
    CallOk C (k + 1) f (mtG (Phi_ (k + 1)) f) := by
  refine (call_ok D (F := fun x => evB loop (Phi_ k) (Psi_ k) b x) (cB_ok I.1 I.2 200 _ _ hb)).of fun xs σ r q => ?_
  unfold mtG at q
  split at q
  · rw [phi_at hl] at q
    rw [callG_N, hn]; exact q
  · cases q
theorem lv_fn {C : Cx} {k : Nat} (I : LvOk C k) {f : Addr} {name qual : Str} {pm : Value} {src : Src} {code : Addr} {ps : List Str} {more : List Str} {n : Nat} {b : Bk} (D : DefOk f name qual pm src code ps (nmOf src more)) (hb : codeOf src more = some b) (hn : (nmOf src more).length = n) (hl : look f = some (n, ps.length, b)) (hm : f ≠ 1202) :
    CallOk C (k + 1) f (fnG (Psi_ (k + 1)) f) := by
  refine (call_ok D (F := fun x => evB loop (Phi_ k) (Psi_ k) b x) (cB_ok I.1 I.2 200 _ _ hb)).of fun xs σ r q => ?_
  obtain ⟨v, hv, rfl⟩ := Option.map_eq_some_iff.mp q
  rw [callG_N, hn]; exact psi_of hl hm hv σ
theorem callOk_zero {C : Cx} {n : Nat} {f : Addr} {g : List V → St → Option (V × St)} (h : ∀ xs σ, g xs σ = Option.none) : CallOk C n f g :=
  fun p nm sc A s ρ σ us xs v σ' P M a r q => by rw [h] at q; cases q
theorem lv_ok {C : Cx} (hz : ∀ k, CallOk C (k + 1) 1202 (fun xs σ => (hamz xs).map (·, σ))) : ∀ k, LvOk C k
  | 0 => ⟨fun x f _ => callOk_zero fun xs σ => by unfold fnG; rw [Psi_0]; rfl, fun a m _ => callOk_zero fun xs σ => by unfold mtG; split <;> first | (rw [Phi_0]) | rfl⟩
  | k + 1 => by
    have I := lv_ok hz k
    refine ⟨fun x f h => ?_, fun a m h => ?_⟩
    · have h := mem_of_lookup h
      simp only [fns, List.mem_cons, List.not_mem_nil, or_false, Prod.mk.injEq] at h
      rcases h with ⟨-, rfl⟩ | ⟨-, rfl⟩ | ⟨-, rfl⟩ | ⟨-, rfl⟩ | ⟨-, rfl⟩ | ⟨-, rfl⟩ | ⟨-, rfl⟩ | ⟨-, rfl⟩ | ⟨-, rfl⟩ | ⟨-, rfl⟩ | ⟨-, rfl⟩ | ⟨-, rfl⟩
      · exact lv_fn I d_1140 co_1140 (by kernel_rfl) rfl (by decide)
      · exact lv_fn I d_1150 co_1150 (by kernel_rfl) rfl (by decide)
      · exact lv_fn I d_1157 co_1157 (by kernel_rfl) rfl (by decide)
      · exact lv_fn I d_1164 co_1164 (by kernel_rfl) rfl (by decide)
      · exact lv_fn I d_1171 co_1171 (by kernel_rfl) rfl (by decide)
      · exact lv_fn I d_1178 co_1178 (by kernel_rfl) rfl (by decide)
      · exact lv_fn I d_1185 co_1185 (by kernel_rfl) rfl (by decide)
      · exact lv_fn I d_1192 co_1192 (by kernel_rfl) rfl (by decide)
      · exact lv_fn I d_1197 co_1197 (by kernel_rfl) rfl (by decide)
      · refine (hz k).of fun xs σ r q => ?_
        unfold fnG at q; rw [Psi_s, if_pos rfl] at q; exact q
      · exact lv_fn I d_1207 co_1207 (by kernel_rfl) rfl (by decide)
      · refine callOk_zero fun xs σ => ?_
        unfold fnG; rw [Psi_s, if_neg (by decide)]; rfl
    · have h := mem_of_lookup h
      simp only [mths, List.mem_cons, List.not_mem_nil, or_false, Prod.mk.injEq] at h
      rcases h with ⟨-, rfl⟩ | ⟨-, rfl⟩ | ⟨-, rfl⟩ | ⟨-, rfl⟩ | ⟨-, rfl⟩ | ⟨-, rfl⟩ | ⟨-, rfl⟩ | ⟨-, rfl⟩ | ⟨-, rfl⟩ | ⟨-, rfl⟩ | ⟨-, rfl⟩ | ⟨-, rfl⟩ | ⟨-, rfl⟩ | ⟨-, rfl⟩ | ⟨-, rfl⟩ | ⟨-, rfl⟩ | ⟨-, rfl⟩ | ⟨-, rfl⟩ | ⟨-, rfl⟩ | ⟨-, rfl⟩ | ⟨-, rfl⟩ | ⟨-, rfl⟩ | ⟨-, rfl⟩ | ⟨-, rfl⟩ | ⟨-, rfl⟩ | ⟨-, rfl⟩ | ⟨-, rfl⟩ | ⟨-, rfl⟩ | ⟨-, rfl⟩ | ⟨-, rfl⟩ | ⟨-, rfl⟩
      · exact lv_mth I d_42 co_42 (by kernel_rfl) rfl
      · exact lv_mth I d_49 co_49 (by kernel_rfl) rfl
      · exact lv_mth I d_126 co_126 (by kernel_rfl) rfl
      · exact lv_mth I d_133 co_133 (by kernel_rfl) rfl
      · exact lv_mth I d_140 co_140 (by kernel_rfl) rfl
      · exact lv_mth I d_147 co_147 (by kernel_rfl) rfl
      · exact lv_mth I d_154 co_154 (by kernel_rfl) rfl
      · exact lv_mth I d_161 co_161 (by kernel_rfl) rfl
      · exact lv_mth I d_189 co_189 (by kernel_rfl) rfl
      · exact lv_mth I d_238 co_238 (by kernel_rfl) rfl
      · exact lv_mth I d_245 co_245 (by kernel_rfl) rfl
      · exact lv_mth I d_252 co_252 (by kernel_rfl) rfl
      · exact lv_mth I d_259 co_259 (by kernel_rfl) rfl
      · exact lv_mth I d_266 co_266 (by kernel_rfl) rfl
      · exact lv_mth I d_273 co_273 (by kernel_rfl) rfl
      · exact lv_mth I d_280 co_280 (by kernel_rfl) rfl
      · exact lv_mth I d_287 co_287 (by kernel_rfl) rfl
      · exact lv_mth I d_294 co_294 (by kernel_rfl) rfl
      · exact lv_mth I d_301 co_301 (by kernel_rfl) rfl
      · exact lv_mth I d_308 co_308 (by kernel_rfl) rfl
      · exact lv_mth I d_315 co_315 (by kernel_rfl) rfl
      · exact lv_mth I d_322 co_322 (by kernel_rfl) rfl
      · exact lv_mth I d_329 co_329 (by kernel_rfl) rfl
      · exact lv_mth I d_336 co_336 (by kernel_rfl) rfl
      · exact lv_mth I d_343 co_343 (by kernel_rfl) rfl
      · exact lv_mth I d_350 co_350 (by kernel_rfl) rfl
      · exact lv_mth I d_357 co_357 (by kernel_rfl) rfl
      · exact lv_mth I d_364 co_364 (by kernel_rfl) rfl
      · exact lv_mth I d_371 co_371 (by kernel_rfl) rfl
      · exact lv_mth I d_378 co_378 (by kernel_rfl) rfl
      · exact lv_mth I d_385 co_385 (by kernel_rfl) rfl
end Mine
end
section
open PySem PySem.W
set_option backward.match.sparseCases false
set_option genSizeOf false
set_option genInjectivity false
set_option maxRecDepth 100000
namespace Mine
noncomputable def minV : V → V → Option V
  | .int i, .int j => some (.int (if j < i then j else i))
  | _, _ => Option.none
noncomputable def slLoV : V → V → Option V
  | x, .int i => slV x (some i) Option.none
  | _, _ => Option.none
noncomputable def slHiV : V → V → Option V
  | x, .int i => slV x Option.none (some i)
  | _, _ => Option.none
noncomputable def slAllV : V → V → V → Option V
  | x, .int i, .int j => slV x (some i) (some j)
  | _, _, _ => Option.none
noncomputable def tup2V : V → V → Option V
  | .ints i, .ints j => some (.intss [i, j])
  | _, _ => Option.none
noncomputable def notV : V → Option V
  | .bool b => some (.bool (!b))
  | _ => Option.none
noncomputable def rowSV : V → Option V
  | .row r => some (.str r.1)
  | _ => Option.none
noncomputable def rowIV : V → Option V
  | .row r => some (.int r.2.1)
  | _ => Option.none
noncomputable def rowRV : V → Option V
  | .row r => some (.int r.2.2)
  | _ => Option.none
noncomputable def nth (ρ : Loc) (i : Nat) : Option V := ρ.getD i Option.none
@[simp] theorem nth_0 (a : Option V) (r : Loc) : nth (a :: r) 0 = a := rfl
@[simp] theorem nth_1 (a b : Option V) (r : Loc) : nth (a :: b :: r) 1 = b := rfl
@[simp] theorem nth_2 (a b c : Option V) (r : Loc) : nth (a :: b :: c :: r) 2 = c := rfl
noncomputable def rt (σ : St) (r : Option V) : Option (V × St) := r.map (·, σ)
noncomputable def k1 (g : V → Option V) (r : Option (V × St)) : Option (V × St) := r.bind fun (x, σ) => rt σ (g x)
noncomputable def k2 (Φ : Phi) (Ψ : Psi) (g : V → V → Option V) (b : E) (ρ : Loc) (r : Option (V × St)) : Option (V × St) := r.bind fun (x, σ) => k1 (g x) (ev' Φ Ψ b ρ σ)
noncomputable def k3 (Φ : Phi) (Ψ : Psi) (g : V → V → V → Option V) (b c : E) (ρ : Loc) (r : Option (V × St)) : Option (V × St) := r.bind fun (x, σ) => k2 Φ Ψ (g x) c ρ (ev' Φ Ψ b ρ σ)
noncomputable def kAnd (Φ : Phi) (Ψ : Psi) (b : E) (ρ : Loc) (r : Option (V × St)) : Option (V × St) := r.bind fun (x, σ) => match x with | .bool false => some (.bool false, σ) | .bool true => ev' Φ Ψ b ρ σ | _ => Option.none
noncomputable def kAnd3 (Φ : Phi) (Ψ : Psi) (b c : E) (ρ : Loc) (r : Option (V × St)) : Option (V × St) := r.bind fun (x, σ) => match x with | .bool false => some (.bool false, σ) | .bool true => kAnd Φ Ψ c ρ (ev' Φ Ψ b ρ σ) | _ => Option.none
noncomputable def kOr (Φ : Phi) (Ψ : Psi) (b : E) (ρ : Loc) (r : Option (V × St)) : Option (V × St) := r.bind fun (x, σ) => match x with | .bool true => some (.bool true, σ) | .bool false => ev' Φ Ψ b ρ σ | _ => Option.none
noncomputable def kIf (Φ : Phi) (Ψ : Psi) (a b : E) (ρ : Loc) (r : Option (V × St)) : Option (V × St) := r.bind fun (x, σ) => match x with | .bool true => ev' Φ Ψ a ρ σ | .bool false => ev' Φ Ψ b ρ σ | _ => Option.none
noncomputable def kFld (f : Fld) (σ : St) (o : Option V) : Option (V × St) := match o with
  | some .me => rt σ (σ.get f)
  | _ => Option.none
noncomputable def kC0 (Φ : Phi) (m : Nat) (σ : St) (o : Option V) : Option (V × St) := match o with
  | some .me => Φ m [] σ
  | _ => Option.none
noncomputable def kC1 (Φ : Phi) (m : Nat) (o : Option V) (r : Option (V × St)) : Option (V × St) := match o with
  | some .me => r.bind fun (x, σ) => Φ m [x] σ
  | _ => Option.none
noncomputable def fn1V (Ψ : Psi) (f : Nat) (x : V) : Option V := Ψ f [x]
noncomputable def fn2V (Ψ : Psi) (f : Nat) (x y : V) : Option V := Ψ f [x, y]
noncomputable def fn3V (Ψ : Psi) (f : Nat) (x y z : V) : Option V := Ψ f [x, y, z]
section
variable (Φ : Phi) (Ψ : Psi) (ρ : Loc) (σ : St)
@[simp] theorem e_lit (v : V) : ev' Φ Ψ (.lit v) ρ σ = some (v, σ) := rfl
@[simp] theorem e_strsD (l : List T) : ev' Φ Ψ (.strsD l) ρ σ = some (.strs l, σ) := rfl
@[simp] theorem e_var (i : Nat) : ev' Φ Ψ (.var i) ρ σ = rt σ (nth ρ i) := rfl
@[simp] theorem e_fld (o : Nat) (f : Fld) : ev' Φ Ψ (.fld o f) ρ σ = kFld f σ (nth ρ o) := rfl
@[simp] theorem e_rowS (e : E) : ev' Φ Ψ (.rowS e) ρ σ = k1 rowSV (ev' Φ Ψ e ρ σ) := by
  show Option.bind (ev' Φ Ψ _ ρ σ) _ = _; unfold k1; congr 1; funext ⟨x, σ⟩; cases x <;> rfl
@[simp] theorem e_rowI (e : E) : ev' Φ Ψ (.rowI e) ρ σ = k1 rowIV (ev' Φ Ψ e ρ σ) := by
  show Option.bind (ev' Φ Ψ _ ρ σ) _ = _; unfold k1; congr 1; funext ⟨x, σ⟩; cases x <;> rfl
@[simp] theorem e_rowR (e : E) : ev' Φ Ψ (.rowR e) ρ σ = k1 rowRV (ev' Φ Ψ e ρ σ) := by
  show Option.bind (ev' Φ Ψ _ ρ σ) _ = _; unfold k1; congr 1; funext ⟨x, σ⟩; cases x <;> rfl
@[simp] theorem e_bin (o : Op) (a b : E) : ev' Φ Ψ (.bin o a b) ρ σ = k2 Φ Ψ (opV o) b ρ (ev' Φ Ψ a ρ σ) := rfl
@[simp] theorem e_cmp (o : Cm) (a b : E) : ev' Φ Ψ (.cmp o a b) ρ σ = k2 Φ Ψ (cmV o) b ρ (ev' Φ Ψ a ρ σ) := rfl
@[simp] theorem e_isIn (a b : E) : ev' Φ Ψ (.isIn a b) ρ σ = k2 Φ Ψ inV b ρ (ev' Φ Ψ a ρ σ) := rfl
@[simp] theorem e_idx (a b : E) : ev' Φ Ψ (.idx a b) ρ σ = k2 Φ Ψ idxV b ρ (ev' Φ Ψ a ρ σ) := rfl
@[simp] theorem e_sm (m : Sm) (a b : E) : ev' Φ Ψ (.sm m a b) ρ σ = k2 Φ Ψ (smV m) b ρ (ev' Φ Ψ a ρ σ) := rfl
@[simp] theorem e_bi1 (f : Bi) (a : E) : ev' Φ Ψ (.bi1 f a) ρ σ = k1 (biV f) (ev' Φ Ψ a ρ σ) := rfl
@[simp] theorem e_not (a : E) : ev' Φ Ψ (.not a) ρ σ = k1 notV (ev' Φ Ψ a ρ σ) := by
  show Option.bind (ev' Φ Ψ _ ρ σ) _ = _; unfold k1; congr 1; funext ⟨x, σ⟩; cases x <;> rfl
@[simp] theorem e_min2 (a b : E) : ev' Φ Ψ (.min2 a b) ρ σ = k2 Φ Ψ minV b ρ (ev' Φ Ψ a ρ σ) := by
  show Option.bind (ev' Φ Ψ _ ρ σ) _ = _; unfold k2 k1; congr 1; funext ⟨x, σ⟩; dsimp only; congr 1; funext ⟨y, σ⟩; cases x <;> cases y <;> rfl
@[simp] theorem e_tup2 (a b : E) : ev' Φ Ψ (.tup2 a b) ρ σ = k2 Φ Ψ tup2V b ρ (ev' Φ Ψ a ρ σ) := by
  show Option.bind (ev' Φ Ψ _ ρ σ) _ = _; unfold k2 k1; congr 1; funext ⟨x, σ⟩; dsimp only; congr 1; funext ⟨y, σ⟩; cases x <;> cases y <;> rfl
@[simp] theorem e_slLo (a b : E) : ev' Φ Ψ (.slLo a b) ρ σ = k2 Φ Ψ slLoV b ρ (ev' Φ Ψ a ρ σ) := by
  show Option.bind (ev' Φ Ψ _ ρ σ) _ = _; unfold k2 k1; congr 1; funext ⟨x, σ⟩; dsimp only; congr 1; funext ⟨y, σ⟩; cases y <;> rfl
@[simp] theorem e_slHi (a b : E) : ev' Φ Ψ (.slHi a b) ρ σ = k2 Φ Ψ slHiV b ρ (ev' Φ Ψ a ρ σ) := by
  show Option.bind (ev' Φ Ψ _ ρ σ) _ = _; unfold k2 k1; congr 1; funext ⟨x, σ⟩; dsimp only; congr 1; funext ⟨y, σ⟩; cases y <;> rfl
@[simp] theorem e_slAll (a b c : E) : ev' Φ Ψ (.slAll a b c) ρ σ = k3 Φ Ψ slAllV b c ρ (ev' Φ Ψ a ρ σ) := by
  show Option.bind (ev' Φ Ψ _ ρ σ) _ = _; unfold k3 k2 k1; congr 1; funext ⟨x, σ⟩; dsimp only; congr 1; funext ⟨y, σ⟩; dsimp only; congr 1; funext ⟨z, σ⟩; cases y <;> cases z <;> rfl
@[simp] theorem e_and2 (a b : E) : ev' Φ Ψ (.and2 a b) ρ σ = kAnd Φ Ψ b ρ (ev' Φ Ψ a ρ σ) := rfl
@[simp] theorem e_and3 (a b c : E) : ev' Φ Ψ (.and3 a b c) ρ σ = kAnd3 Φ Ψ b c ρ (ev' Φ Ψ a ρ σ) := rfl
@[simp] theorem e_or2 (a b : E) : ev' Φ Ψ (.or2 a b) ρ σ = kOr Φ Ψ b ρ (ev' Φ Ψ a ρ σ) := rfl
@[simp] theorem e_ife (c a b : E) : ev' Φ Ψ (.ife c a b) ρ σ = kIf Φ Ψ a b ρ (ev' Φ Ψ c ρ σ) := rfl
@[simp] theorem e_call0 (o m : Nat) : ev' Φ Ψ (.call0 o m) ρ σ = kC0 Φ m σ (nth ρ o) := rfl
@[simp] theorem e_call1 (o m : Nat) (a : E) : ev' Φ Ψ (.call1 o m a) ρ σ = kC1 Φ m (nth ρ o) (ev' Φ Ψ a ρ σ) := rfl
@[simp] theorem e_fn1 (f : Nat) (a : E) : ev' Φ Ψ (.fn1 f a) ρ σ = k1 (fn1V Ψ f) (ev' Φ Ψ a ρ σ) := rfl
@[simp] theorem e_fn2 (f : Nat) (a b : E) : ev' Φ Ψ (.fn2 f a b) ρ σ = k2 Φ Ψ (fn2V Ψ f) b ρ (ev' Φ Ψ a ρ σ) := rfl
@[simp] theorem e_fn3 (f : Nat) (a b c : E) : ev' Φ Ψ (.fn3 f a b c) ρ σ = k3 Φ Ψ (fn3V Ψ f) b c ρ (ev' Φ Ψ a ρ σ) := rfl
@[simp] theorem rt_some (v : V) : rt σ (some v) = some (v, σ) := rfl
@[simp] theorem k1_some (g : V → Option V) (v : V) : k1 g (some (v, σ)) = rt σ (g v) := rfl
@[simp] theorem k2_some (g : V → V → Option V) (b : E) (v : V) : k2 Φ Ψ g b ρ (some (v, σ)) = k1 (g v) (ev' Φ Ψ b ρ σ) := rfl
@[simp] theorem k3_some (g : V → V → V → Option V) (b c : E) (v : V) : k3 Φ Ψ g b c ρ (some (v, σ)) = k2 Φ Ψ (g v) c ρ (ev' Φ Ψ b ρ σ) := rfl
@[simp] theorem kAnd_some (b : E) (x : Bool) : kAnd Φ Ψ b ρ (some (.bool x, σ)) = if x = true then ev' Φ Ψ b ρ σ else some (.bool false, σ) := by cases x <;> rfl
@[simp] theorem kIf_some (a b : E) (x : Bool) : kIf Φ Ψ a b ρ (some (.bool x, σ)) = if x = true then ev' Φ Ψ a ρ σ else ev' Φ Ψ b ρ σ := by cases x <;> rfl
@[simp] theorem kC0_some (m : Nat) : kC0 Φ m σ (some .me) = Φ m [] σ := rfl
@[simp] theorem kC1_some (m : Nat) (x : V) : kC1 Φ m (some .me) (some (x, σ)) = Φ m [x] σ := rfl
end
@[simp] theorem o_sub (a b : Int) : opV .sub (.int a) (.int b) = some (.int (a - b)) := rfl
@[simp] theorem o_cat {a b : T} (h : a.length + b.length ≤ 1000000) : opV .add (.str a) (.str b) = some (.str (a ++ b)) := if_pos h
@[simp] theorem o_cats {a b : List T} (h : a.length + b.length ≤ 1000000) : opV .add (.strs a) (.strs b) = some (.strs (a ++ b)) := if_pos h
@[simp] theorem c_int (o : Cm) (a b : Int) : cmV o (.int a) (.int b) = some (.bool (cmI o a b)) := by cases o <;> rfl
@[simp] theorem ci_eq (a b : Int) : cmI .eq a b = decide (a = b) := rfl
@[simp] theorem ci_ne (a b : Int) : cmI .ne a b = !decide (a = b) := rfl
@[simp] theorem ci_lt (a b : Int) : cmI .lt a b = decide (a < b) := rfl
@[simp] theorem ci_gt (a b : Int) : cmI .gt a b = decide (b < a) := rfl
@[simp] theorem ci_ge (a b : Int) : cmI .ge a b = decide (b ≤ a) := rfl
@[simp] theorem c_seq (a b : T) : cmV .eq (.str a) (.str b) = some (.bool (decide (a = b))) := rfl
@[simp] theorem c_sne (a b : T) : cmV .ne (.str a) (.str b) = some (.bool (!decide (a = b))) := rfl
@[simp] theorem c_leq (a b : List T) : cmV .eq (.strs a) (.strs b) = some (.bool (decide (a = b))) := rfl
@[simp] theorem i_in (a : T) (l : List T) : inV (.str a) (.strs l) = some (.bool (l.contains a)) := rfl
@[simp] theorem b_len {s : T} (h : s.length ≤ 1000000) : biV .len (.str s) = some (.int s.length) := if_pos h
@[simp] theorem b_lent {s : List Row} (h : s.length ≤ 1000000) : biV .len (.tab s) = some (.int s.length) := if_pos h
@[simp] theorem b_chr {i : Int} (h : 0 ≤ i ∧ i < 70000) : biV .chr (.int i) = some (.str [i.toNat]) := if_pos h
@[simp] theorem x_str {s : T} {i : Int} (h : 0 ≤ i ∧ i < 1000000) : idxV (.str s) (.int i) = (s[i.toNat]?).map fun c => .str [c] := if_pos h
@[simp] theorem x_menu {s : List T} {i : Int} (h : 0 ≤ i ∧ i < 1000000) : idxV (.menu s) (.int i) = (s[i.toNat]?).map .str := if_pos h
@[simp] theorem x_strs {s : List T} {i : Int} (h : 0 ≤ i ∧ i < 1000000) : idxV (.strs s) (.int i) = (s[i.toNat]?).map .str := if_pos h
@[simp] theorem x_tab {s : List Row} {i : Int} (h : 0 ≤ i ∧ i < 1000000) : idxV (.tab s) (.int i) = (s[i.toNat]?).map .row := if_pos h
theorem s_all {s : T} {i j : Nat} (h : s.length ≤ 1000000) (hj : j ≤ s.length) : slAllV (.str s) (.int i) (.int j) = some (.str ((s.take j).drop i)) := by
  show slV (.str s) (some (i : Int)) (some (j : Int)) = _
  unfold slV
  dsimp only
  rw [if_pos (by show decide _ = true; exact decide_eq_true h)]
  simp only [Option.map_some, Option.getD_some, fitB, cutT]
  have e1 : ¬ (i : Int) < 0 := by omega
  have e2 : ¬ (j : Int) < 0 := by omega
  rw [if_neg e1, if_neg e2]
  congr 2
  have : (j : Int).toNat = j := by omega
  rw [this, Nat.min_eq_left hj]
  have : (i : Int).toNat = i := by omega
  rw [this]
  rcases Nat.le_total i s.length with z | z
  · rw [Nat.min_eq_left z]
  · rw [Nat.min_eq_right z]
    rw [List.drop_eq_nil_of_le (by rw [List.length_take]; omega), List.drop_eq_nil_of_le (by rw [List.length_take]; omega)]
theorem s_lo {s : T} {i : Nat} (h : s.length ≤ 1000000) : slLoV (.str s) (.int i) = some (.str (s.drop i)) := by
  show slV (.str s) (some (i : Int)) Option.none = _
  unfold slV
  dsimp only
  rw [if_pos (by show decide _ = true; exact decide_eq_true h)]
  simp only [Option.map_some, Option.map_none, Option.getD_some, Option.getD_none, fitB, cutT]
  have e1 : ¬ (i : Int) < 0 := by omega
  rw [if_neg e1, List.take_length]
  congr 2
  have : (i : Int).toNat = i := by omega
  rw [this]
  rcases Nat.le_total i s.length with z | z
  · rw [Nat.min_eq_left z]
  · rw [Nat.min_eq_right z, List.drop_length, List.drop_eq_nil_of_le z]
theorem s_hi {s : T} {i : Nat} (h : s.length ≤ 1000000) : slHiV (.str s) (.int i) = some (.str (s.take i)) := by
  show slV (.str s) Option.none (some (i : Int)) = _
  unfold slV
  dsimp only
  rw [if_pos (by show decide _ = true; exact decide_eq_true h)]
  simp only [Option.map_some, Option.map_none, Option.getD_some, Option.getD_none, fitB, cutT]
  have e1 : ¬ (i : Int) < 0 := by omega
  rw [if_neg e1, List.drop_zero]
  congr 2
  have : (i : Int).toNat = i := by omega
  rw [this]
  rcases Nat.le_total i s.length with z | z
  · rw [Nat.min_eq_left z]
  · rw [Nat.min_eq_right z, List.take_length, List.take_of_length_le z]
theorem s_allN {s : T} {i j : Nat} (h : s.length ≤ 1000000) : slAllV (.str s) (.int i) (.int j) = some (.str ((s.take j).drop i)) := by
  show slV (.str s) (some (i : Int)) (some (j : Int)) = _
  unfold slV
  dsimp only
  rw [if_pos (by show decide _ = true; exact decide_eq_true h)]
  simp only [Option.map_some, Option.getD_some, fitB, cutT]
  have e1 : ¬ (i : Int) < 0 := by omega
  have e2 : ¬ (j : Int) < 0 := by omega
  rw [if_neg e1, if_neg e2]
  congr 2
  have e3 : (j : Int).toNat = j := by omega
  have e4 : (i : Int).toNat = i := by omega
  rw [e3, e4]
  have e5 : s.take (min j s.length) = s.take j := by
    rcases Nat.le_total j s.length with z | z
    · rw [Nat.min_eq_left z]
    · rw [Nat.min_eq_right z, List.take_length, List.take_of_length_le z]
  rw [e5]
  rcases Nat.le_total i s.length with z | z
  · rw [Nat.min_eq_left z]
  · rw [Nat.min_eq_right z]
    rw [List.drop_eq_nil_of_le (by rw [List.length_take]; omega), List.drop_eq_nil_of_le (by rw [List.length_take]; omega)]
section
variable (c : Option T) (k l b br ke : Option Int) (n v d : Option Bool)
end
noncomputable def nx (ρ : Loc) (r : Option St) : Option (Out × Sg) := r.map fun σ => (.next, (ρ, σ))
noncomputable def tB (lp : Lp) (Φ : Phi) (Ψ : Psi) (b : Bk) (r : Option (Out × Sg)) : Option (Out × Sg) := r.bind fun (o, y) => match o with
  | .next => evB lp Φ Ψ b y
  | o => some (o, y)
noncomputable def sAsg (x : Nat) (ρ : Loc) (r : Option (V × St)) : Option (Out × Sg) := r.bind fun (v, σ) => some (.next, (setV ρ x v, σ))
noncomputable def sFld (f : Fld) (ρ : Loc) (o : Option V) (r : Option (V × St)) : Option (Out × Sg) := r.bind fun (v, σ) => match o with
  | some .me => nx ρ (σ.set f v)
  | _ => Option.none
noncomputable def sAugF' (f : Fld) (ρ : Loc) (σ : St) (r : Option V) : Option (Out × Sg) := r.bind fun v => nx ρ (σ.set f v)
noncomputable def sAugF (f : Fld) (o : Op) (ρ : Loc) (m a : Option V) (r : Option (V × St)) : Option (Out × Sg) := match m with
  | some .me => a.bind fun a => r.bind fun (b, σ) => sAugF' f ρ σ (auV o a b)
  | _ => Option.none
noncomputable def sXpr (ρ : Loc) (r : Option (V × St)) : Option (Out × Sg) := r.bind fun (v, σ) => match v with
    | .none => some (.next, (ρ, σ))
    | .bool _ => some (.next, (ρ, σ))
    | .int _ => some (.next, (ρ, σ))
    | _ => Option.none
noncomputable def sRet (ρ : Loc) (r : Option (V × St)) : Option (Out × Sg) := r.bind fun (v, σ) => some (.ret v, (ρ, σ))
noncomputable def sAss (ρ : Loc) (r : Option (V × St)) : Option (Out × Sg) := r.bind fun (v, σ) => match v with
    | .bool true => some (.next, (ρ, σ))
    | _ => Option.none
noncomputable def sIte (lp : Lp) (Φ : Phi) (Ψ : Psi) (a b : Bk) (ρ : Loc) (r : Option (V × St)) : Option (Out × Sg) := r.bind fun (v, σ) => match v with
    | .bool true => evB lp Φ Ψ a (ρ, σ)
    | .bool false => evB lp Φ Ψ b (ρ, σ)
    | _ => Option.none
noncomputable def sTry (k : Nat) (r : Option (Out × Sg)) : Option (Out × Sg) := r.bind fun (o, y) => match o with
    | .exc k' => if k' = k then some (.next, y) else Option.none
    | o => some (o, y)
noncomputable def turn (lp : Lp) (Φ : Phi) (Ψ : Psi) (b : Bk) (y : Sg) : Option (Out × Sg) := evB lp Φ Ψ b y
noncomputable def turnX (lp : Lp) (Φ : Phi) (Ψ : Psi) (x : Nat) (b : Bk) (v : V) (y : Sg) : Option (Out × Sg) := evB lp Φ Ψ b (setV y.1 x v, y.2)
noncomputable def sForE (lp : Lp) (Φ : Phi) (Ψ : Psi) (x : Nat) (b : Bk) (ρ : Loc) (r : Option (V × St)) : Option (Out × Sg) := r.bind fun (v, σ) => (itemsOf v).bind fun l => evFor (turnX lp Φ Ψ x b) l (ρ, σ)
noncomputable def sForR' (lp : Lp) (Φ : Phi) (Ψ : Psi) (x : Nat) (b : Bk) (ρ : Loc) (v : V) (r : Option (V × St)) : Option (Out × Sg) := r.bind fun (w, σ) => match v, w with
    | .int i, .int j => if !(okI i && okI j) then Option.none else evFor (turnX lp Φ Ψ x b) ((List.range (j - i).toNat).map fun (k : Nat) => V.int (i + (k : Int))) (ρ, σ)
    | _, _ => Option.none
noncomputable def sForR (lp : Lp) (Φ : Phi) (Ψ : Psi) (x : Nat) (hi : E) (b : Bk) (ρ : Loc) (r : Option (V × St)) : Option (Out × Sg) := r.bind fun (v, σ) => sForR' lp Φ Ψ x b ρ v (ev' Φ Ψ hi ρ σ)
noncomputable def sForD (lp : Lp) (Φ : Phi) (Ψ : Psi) (x : Nat) (b : Bk) (ρ : Loc) (r : Option (V × St)) : Option (Out × Sg) := r.bind fun (v, σ) => match v with
    | .int i => if !okI i then Option.none else evFor (turnX lp Φ Ψ x b) ((List.range (i + 1).toNat).map fun (k : Nat) => V.int (i - (k : Int))) (ρ, σ)
    | _ => Option.none
section
variable (lp : Lp) (Φ : Phi) (Ψ : Psi) (ρ : Loc) (σ : St)
@[simp] theorem b_nil (x : Sg) : evB lp Φ Ψ .nil x = some (.next, x) := rfl
@[simp] theorem b_cons (s : S) (b : Bk) (x : Sg) : evB lp Φ Ψ (.cons s b) x = tB lp Φ Ψ b (evS lp Φ Ψ s x) := rfl
@[simp] theorem tB_next (b : Bk) (y : Sg) : tB lp Φ Ψ b (some (.next, y)) = evB lp Φ Ψ b y := rfl
@[simp] theorem t_asg (x : Nat) (e : E) : evS lp Φ Ψ (.asg x e) (ρ, σ) = sAsg x ρ (ev' Φ Ψ e ρ σ) := rfl
@[simp] theorem t_setF (o : Nat) (f : Fld) (e : E) : evS lp Φ Ψ (.setF o f e) (ρ, σ) = sFld f ρ (nth ρ o) (ev' Φ Ψ e ρ σ) := by
  show Option.bind (ev' Φ Ψ e ρ σ) _ = _; unfold sFld; congr 1
@[simp] theorem t_augF (ob : Nat) (f : Fld) (o : Op) (e : E) : evS lp Φ Ψ (.augF ob f o e) (ρ, σ) = sAugF f o ρ (nth ρ ob) (σ.get f) (ev' Φ Ψ e ρ σ) := rfl
@[simp] theorem t_xpr (e : E) : evS lp Φ Ψ (.xpr e) (ρ, σ) = sXpr ρ (ev' Φ Ψ e ρ σ) := rfl
@[simp] theorem t_ret (e : E) : evS lp Φ Ψ (.ret e) (ρ, σ) = sRet ρ (ev' Φ Ψ e ρ σ) := rfl
@[simp] theorem t_brk (x : Sg) : evS lp Φ Ψ .brk x = some (.brk, x) := rfl
@[simp] theorem t_ass (e : E) : evS lp Φ Ψ (.assert e) (ρ, σ) = sAss ρ (ev' Φ Ψ e ρ σ) := rfl
@[simp] theorem t_raise (k : Nat) (x : Sg) : evS lp Φ Ψ (.raise k) x = some (.exc k, x) := rfl
@[simp] theorem t_ite (c : E) (a b : Bk) : evS lp Φ Ψ (.ite c a b) (ρ, σ) = sIte lp Φ Ψ a b ρ (ev' Φ Ψ c ρ σ) := rfl
@[simp] theorem t_whl (b : Bk) (x : Sg) : evS lp Φ Ψ (.whl b) x = lp (turn lp Φ Ψ b) x := rfl
@[simp] theorem t_try (b : Bk) (k : Nat) (x : Sg) : evS lp Φ Ψ (.try_ b k) x = sTry k (evB lp Φ Ψ b x) := rfl
@[simp] theorem t_forE (x : Nat) (it : E) (b : Bk) : evS lp Φ Ψ (.forE x it b) (ρ, σ) = sForE lp Φ Ψ x b ρ (ev' Φ Ψ it ρ σ) := rfl
@[simp] theorem t_forR (x : Nat) (lo hi : E) (b : Bk) : evS lp Φ Ψ (.forR x lo hi b) (ρ, σ) = sForR lp Φ Ψ x hi b ρ (ev' Φ Ψ lo ρ σ) := by
  show Option.bind (ev' Φ Ψ _ ρ σ) _ = _; unfold sForR sForR'; congr 1
@[simp] theorem t_forD (x : Nat) (hi : E) (b : Bk) : evS lp Φ Ψ (.forD x hi b) (ρ, σ) = sForD lp Φ Ψ x b ρ (ev' Φ Ψ hi ρ σ) := by
  show Option.bind (ev' Φ Ψ _ ρ σ) _ = _; unfold sForD; congr 1
@[simp] theorem sXpr_none : sXpr ρ (some (.none, σ)) = some (.next, (ρ, σ)) := rfl
@[simp] theorem sIte_some (a b : Bk) (c : Bool) : sIte lp Φ Ψ a b ρ (some (.bool c, σ)) = if c = true then evB lp Φ Ψ a (ρ, σ) else evB lp Φ Ψ b (ρ, σ) := by cases c <;> rfl
@[simp] theorem sTry_exc (k : Nat) (x : Sg) : sTry k (some (.exc k, x)) = some (.next, x) := if_pos rfl
@[simp] theorem sForE_some (x : Nat) (b : Bk) (v : V) {l : List V} (h : itemsOf v = some l) : sForE lp Φ Ψ x b ρ (some (v, σ)) = evFor (turnX lp Φ Ψ x b) l (ρ, σ) := by
  show (itemsOf v).bind _ = _; rw [h]; rfl
@[simp] theorem sForR_some (x : Nat) (hi : E) (b : Bk) (v : V) : sForR lp Φ Ψ x hi b ρ (some (v, σ)) = sForR' lp Φ Ψ x b ρ v (ev' Φ Ψ hi ρ σ) := rfl
@[simp] theorem sForR'_some (x : Nat) (b : Bk) {i j : Int} (h : -1000000000 < i ∧ i < 1000000000 ∧ -1000000000 < j ∧ j < 1000000000) : sForR' lp Φ Ψ x b ρ (.int i) (some (.int j, σ)) = evFor (turnX lp Φ Ψ x b) ((List.range (j - i).toNat).map fun (k : Nat) => V.int (i + (k : Int))) (ρ, σ) := by
  show (if _ then _ else _) = _
  rw [if_neg (by simp [okI, h])]
@[simp] theorem sForD_some (x : Nat) (b : Bk) {i : Int} (h : -1000000000 < i ∧ i < 1000000000) : sForD lp Φ Ψ x b ρ (some (.int i, σ)) = evFor (turnX lp Φ Ψ x b) ((List.range (i + 1).toNat).map fun (k : Nat) => V.int (i - (k : Int))) (ρ, σ) := by
  show (if _ then _ else _) = _
  rw [if_neg (by simp [okI, h])]
end
set_option backward.match.sparseCases true in
noncomputable def out (r : Option (Out × Sg)) : Option (V × St) := r.bind fun (o, (_, σ)) => match o with
    | .next => some (.none, σ)
    | .ret v => some (v, σ)
    | _ => Option.none
theorem callN_eq {n m : Nat} {F : Sg → Option (Out × Sg)} {xs : List V} {σ : St} (h : xs.length = m) : callN n m F xs σ = out (F (xs.map some ++ List.replicate (n - xs.length) Option.none, σ)) := if_pos h
@[simp] theorem out_next (ρ : Loc) (σ : St) : out (some (.next, (ρ, σ))) = some (.none, σ) := rfl
theorem phi_out {m n np : Nat} {b : Bk} {k : Nat} {r : List V} {σ : St} (h : look m = some (n, np, b)) (hx : r.length + 1 = np) : Phi_ (k + 1) m r σ = out (evB loop (Phi_ k) (Psi_ k) b (some .me :: (r.map some ++ List.replicate (n - np) Option.none), σ)) := by
  rw [phi_at h, callN_eq (by exact hx)]
  subst hx
  rfl
theorem psi_out {m n np : Nat} {b : Bk} {k : Nat} {xs : List V} {v : V} (h : look m = some (n, np, b)) (hm : m ≠ 1202) (hx : xs.length = np) (hv : ∀ σ, out (evB loop (Phi_ k) (Psi_ k) b (xs.map some ++ List.replicate (n - np) Option.none, σ)) = some (v, σ)) : Psi_ (k + 1) m xs = some v := by
  refine psi_at h hm fun σ => ?_
  rw [callN_eq hx, ← hv σ]
  subst hx
  rfl
theorem iter_det {f : Sg → Option (Out × Sg)} : ∀ {m n : Nat} {x : Sg} {r r' : Out × Sg}, iter f m x = some r → iter f n x = some r' → r = r'
  | 0, _, _, _, _, h, _ => by cases h
  | _ + 1, 0, _, _, _, _, h => by cases h
  | m + 1, n + 1, x, r, r', h, h' => by
    obtain ⟨o, y, e, q⟩ := loop_turns h
    obtain ⟨o', y', e', q'⟩ := loop_turns h'
    rw [e] at e'; cases e'
    cases o with
    | next => exact iter_det q q'
    | cont => exact iter_det q q'
    | _ => exact q.trans q'.symm
theorem loop_of {f : Sg → Option (Out × Sg)} {m : Nat} {x : Sg} {r : Out × Sg} (h : iter f m x = some r) : loop f x = some r := by
  unfold loop
  have h1 : ∃ m, (iter f m x).isSome = true := ⟨m, by rw [h]; rfl⟩
  rw [dif_pos h1]
  obtain ⟨r', h2⟩ := Option.isSome_iff_exists.mp (Classical.choose_spec h1)
  rw [h2, iter_det h2 h]
theorem loop_next {f : Sg → Option (Out × Sg)} {x y : Sg} (h : f x = some (.next, y)) : loop f x = loop f y := by
  by_cases q : ∃ r, loop f y = some r
  · obtain ⟨r, q⟩ := q
    obtain ⟨m, hm⟩ := loop_iter q
    rw [q]
    refine loop_of (m := m + 1) ?_
    show (f x).bind _ = _
    rw [h]; exact hm
  · cases e : loop f x with
    | none => cases e' : loop f y with
      | none => rfl
      | some r => exact absurd ⟨r, e'⟩ q
    | some r =>
      obtain ⟨m, hm⟩ := loop_iter e
      cases m with
      | zero => cases hm
      | succ m =>
        obtain ⟨o, y', e1, q1⟩ := loop_turns hm
        rw [h] at e1; cases e1
        exact absurd ⟨r, loop_of q1⟩ q
theorem loop_cont {f : Sg → Option (Out × Sg)} {x y : Sg} (h : f x = some (.cont, y)) : loop f x = loop f y := by
  by_cases q : ∃ r, loop f y = some r
  · obtain ⟨r, q⟩ := q
    obtain ⟨m, hm⟩ := loop_iter q
    rw [q]
    refine loop_of (m := m + 1) ?_
    show (f x).bind _ = _
    rw [h]; exact hm
  · cases e : loop f x with
    | none => cases e' : loop f y with
      | none => rfl
      | some r => exact absurd ⟨r, e'⟩ q
    | some r =>
      obtain ⟨m, hm⟩ := loop_iter e
      cases m with
      | zero => cases hm
      | succ m =>
        obtain ⟨o, y', e1, q1⟩ := loop_turns hm
        rw [h] at e1; cases e1
        exact absurd ⟨r, loop_of q1⟩ q
theorem loop_brk {f : Sg → Option (Out × Sg)} {x y : Sg} (h : f x = some (.brk, y)) : loop f x = some (.next, y) := by
  refine loop_of (m := 1) ?_
  show (f x).bind _ = _
  rw [h]; rfl
theorem loop_ret {f : Sg → Option (Out × Sg)} {x y : Sg} {v : V} (h : f x = some (.ret v, y)) : loop f x = some (.ret v, y) := by
  refine loop_of (m := 1) ?_
  show (f x).bind _ = _
  rw [h]; rfl
theorem loop_exc {f : Sg → Option (Out × Sg)} {x y : Sg} {k : Nat} (h : f x = some (.exc k, y)) : loop f x = some (.exc k, y) := by
  refine loop_of (m := 1) ?_
  show (f x).bind _ = _
  rw [h]; rfl
noncomputable abbrev M (t : T) (c l lb : Int) (bra ket : Option Int) (bn bv bd : Option Bool) : St := ⟨some t, some c, some l, some lb, bra, ket, bn, bv, bd⟩
noncomputable def lpK (f : Sg → Option (Out × Sg)) (r : Option (Out × Sg)) : Option (Out × Sg) := r.bind fun (o, y) => match o with
  | .next => loop f y
  | .cont => loop f y
  | .brk => some (.next, y)
  | o => some (o, y)
theorem loop_step {f : Sg → Option (Out × Sg)} {x : Sg} {r : Option (Out × Sg)} (h : f x = r) (hr : r ≠ Option.none) : loop f x = lpK f r := by
  subst h
  cases h : f x with
  | none => exact absurd h hr
  | some r =>
    obtain ⟨o, y⟩ := r
    cases o with
    | next => exact loop_next h
    | brk => exact loop_brk h
    | cont => exact loop_cont h
    | ret v => exact loop_ret h
    | exc k => exact loop_exc h
theorem loop_none {f : Sg → Option (Out × Sg)} {x : Sg} (h : f x = Option.none) : loop f x = Option.none := by
  cases e : loop f x with
  | none => rfl
  | some r =>
    obtain ⟨m, hm⟩ := loop_iter e
    cases m with
    | zero => cases hm
    | succ m =>
      obtain ⟨o, y, e1, _⟩ := loop_turns hm
      rw [h] at e1; cases e1
theorem loop_turn (lp : Lp) (Φ : Phi) (Ψ : Psi) (b : Bk) (x : Sg) : loop (turn lp Φ Ψ b) x = lpK (turn lp Φ Ψ b) (evB lp Φ Ψ b x) := by
  cases h : evB lp Φ Ψ b x with
  | none => exact loop_none h
  | some r => exact loop_step h (fun z => nomatch z)
@[simp] theorem lpK_next (f : Sg → Option (Out × Sg)) (y : Sg) : lpK f (some (.next, y)) = loop f y := rfl
@[simp] theorem lpK_cont (f : Sg → Option (Out × Sg)) (y : Sg) : lpK f (some (.cont, y)) = loop f y := rfl
@[simp] theorem lpK_brk (f : Sg → Option (Out × Sg)) (y : Sg) : lpK f (some (.brk, y)) = some (.next, y) := rfl
@[simp] theorem lpK_ret (f : Sg → Option (Out × Sg)) (v : V) (y : Sg) : lpK f (some (.ret v, y)) = some (.ret v, y) := rfl
@[simp] theorem lpK_exc (f : Sg → Option (Out × Sg)) (k : Nat) (y : Sg) : lpK f (some (.exc k, y)) = some (.exc k, y) := rfl
noncomputable def Res (P : Out → Loc → St → Prop) : Option (Out × Sg) → Prop
  | some (o, (ρ, σ)) => P o ρ σ
  | Option.none => False
theorem Res_some (P : Out → Loc → St → Prop) (o : Out) (ρ : Loc) (σ : St) : Res P (some (o, (ρ, σ))) = P o ρ σ := rfl
theorem Res.out {P : Out → Loc → St → Prop} {r : Option (Out × Sg)} (h : Res P r) : ∃ o ρ σ, r = some (o, (ρ, σ)) ∧ P o ρ σ := by
  match r, h with
  | some (o, (ρ, σ)), h => exact ⟨o, ρ, σ, rfl, h⟩
theorem Res.mono {P Q : Out → Loc → St → Prop} {r : Option (Out × Sg)} (h : Res P r) (k : ∀ o ρ σ, P o ρ σ → Q o ρ σ) : Res Q r := by
  match r, h with
  | some (o, (ρ, σ)), h => exact k _ _ _ h
section
variable {k : Nat} {lp : Lp} {Φ : Phi} {Ψ : Psi} {P : Out → Loc → St → Prop} {b : Bk} {ρ : Loc} {σ : St} {t : T} {c l lb : Int} {bra ket : Option Int} {bn bv bd : Option Bool} {i : Nat}
theorem ev_c2 {o : Cm} {a c : E} {x y : V} {v : V} {σ1 σ2 : St} (h1 : ev' Φ Ψ a ρ σ = some (x, σ1)) (h2 : ev' Φ Ψ c ρ σ1 = some (y, σ2)) (h : cmV o x y = some v) : ev' Φ Ψ (.cmp o a c) ρ σ = some (v, σ2) := by
  rw [e_cmp, h1, k2_some, h2, k1_some, h]; rfl
theorem ev_b2 {o : Op} {a c : E} {x y : V} {v : V} {σ1 σ2 : St} (h1 : ev' Φ Ψ a ρ σ = some (x, σ1)) (h2 : ev' Φ Ψ c ρ σ1 = some (y, σ2)) (h : opV o x y = some v) : ev' Φ Ψ (.bin o a c) ρ σ = some (v, σ2) := by
  rw [e_bin, h1, k2_some, h2, k1_some, h]; rfl
theorem ev_x2 {a c : E} {x y : V} {v : V} {σ1 σ2 : St} (h1 : ev' Φ Ψ a ρ σ = some (x, σ1)) (h2 : ev' Φ Ψ c ρ σ1 = some (y, σ2)) (h : idxV x y = some v) : ev' Φ Ψ (.idx a c) ρ σ = some (v, σ2) := by
  rw [e_idx, h1, k2_some, h2, k1_some, h]; rfl
theorem ev_f (h0 : nth ρ 0 = some .me) (f : Fld) : ev' Φ Ψ (.fld 0 f) ρ σ = rt σ (σ.get f) := by rw [e_fld, h0]; rfl
theorem ev_v {v : V} (h : nth ρ i = some v) : ev' Φ Ψ (.var i) ρ σ = some (v, σ) := by rw [e_var, h]; rfl
theorem evr_not {a : E} {x : Bool} {σ1 : St} (h : ev' Φ Ψ a ρ σ = some (.bool x, σ1)) : ev' Φ Ψ (.not a) ρ σ = some (.bool (!x), σ1) := by
  rw [e_not, h]; rfl
theorem r_s {s : S} {ρ' : Loc} {σ' : St} (h : evS lp Φ Ψ s (ρ, σ) = some (.next, (ρ', σ'))) (k : Res P (evB lp Φ Ψ b (ρ', σ'))) : Res P (evB lp Φ Ψ (.cons s b) (ρ, σ)) := by
  rw [b_cons, h]; exact k
theorem r_cur {e : E} {c' : Int} (h0 : nth ρ 0 = some .me) (h : ev' Φ Ψ e ρ (M t c l lb bra ket bn bv bd) = some (.int c', M t c l lb bra ket bn bv bd)) (k : Res P (evB lp Φ Ψ b (ρ, M t c' l lb bra ket bn bv bd))) : Res P (evB lp Φ Ψ (.cons (.setF 0 .cursor e) b) (ρ, M t c l lb bra ket bn bv bd)) :=
  r_s (by rw [t_setF, h, h0]; rfl) k
theorem r_nil (h : P .next ρ σ) : Res P (evB lp Φ Ψ .nil (ρ, σ)) := by rw [b_nil]; exact h
theorem r_brk (h : P .brk ρ σ) : Res P (evB lp Φ Ψ (.cons .brk b) (ρ, σ)) := by rw [b_cons, t_brk]; exact h
theorem r_cont (h : P .cont ρ σ) : Res P (evB lp Φ Ψ (.cons .cont b) (ρ, σ)) := h
theorem r_raise {e : Nat} (h : P (.exc e) ρ σ) : Res P (evB lp Φ Ψ (.cons (.raise e) b) (ρ, σ)) := by rw [b_cons, t_raise]; exact h
theorem r_save (h0 : nth ρ 0 = some .me) (h : Res P (evB lp Φ Ψ b (setV ρ i (.int 0), M t c c 0 bra ket bn bv bd))) :
    Res P (evB lp Φ Ψ (.cons (.asg i (.bin .sub (.fld 0 .limit) (.fld 0 .cursor))) b) (ρ, M t c c 0 bra ket bn bv bd)) := by
  rw [b_cons, t_asg, ev_b2 (o := .sub) (x := .int c) (y := .int c) (v := .int 0) (ev_f h0 .limit) (ev_f h0 .cursor) (congrArg (fun i => some (V.int i)) (Int.sub_self c))]
  exact h
theorem r_reset (h0 : nth ρ 0 = some .me) (hi : nth ρ i = some (.int 0)) (h : Res P (evB lp Φ Ψ b (ρ, M t l l 0 bra ket bn bv bd))) :
    Res P (evB lp Φ Ψ (.cons (.setF 0 .cursor (.bin .sub (.fld 0 .limit) (.var i))) b) (ρ, M t c l 0 bra ket bn bv bd)) :=
  r_cur h0 (ev_b2 (o := .sub) (x := .int l) (y := .int 0) (ev_f h0 .limit) (ev_v hi) (congrArg (fun i => some (V.int i)) (Int.sub_zero l))) h
noncomputable def TryQ (lp : Lp) (Φ : Phi) (Ψ : Psi) (e : Nat) (b : Bk) (P : Out → Loc → St → Prop) (o : Out) (ρ : Loc) (σ : St) : Prop := match o with
  | .next => Res P (evB lp Φ Ψ b (ρ, σ))
  | .exc k => k = e ∧ Res P (evB lp Φ Ψ b (ρ, σ))
  | o => P o ρ σ
theorem tryQ_exc {e : Nat} (h : Res P (evB lp Φ Ψ b (ρ, σ))) : TryQ lp Φ Ψ e b P (.exc e) ρ σ := ⟨rfl, h⟩
noncomputable def TryE (e : Nat) (P : Out → Loc → St → Prop) (o : Out) (ρ : Loc) (σ : St) : Prop := match o with
  | .exc k => k = e ∧ P .next ρ σ
  | o => P o ρ σ
theorem r_sTry {e : Nat} {r : Option (Out × Sg)} (h : Res (TryE e P) r) : Res P (sTry e r) := by
  obtain ⟨o, ρ, σ, rfl, h2⟩ := h.out
  cases o with
  | exc k => obtain ⟨rfl, h2⟩ := h2; rw [sTry_exc]; exact h2
  | _ => exact h2
theorem r_try {e : Nat} {d : Bk} {x : Sg} (h : Res (TryQ lp Φ Ψ e b P) (evB lp Φ Ψ d x)) : Res P (evB lp Φ Ψ (.cons (.try_ d e) b) x) := by
  obtain ⟨o, ρ, σ, h1, h2⟩ := h.out
  rw [b_cons, t_try, h1]
  cases o with
  | exc k => obtain ⟨rfl, h2⟩ := h2; rw [sTry_exc]; exact h2
  | _ => exact h2
noncomputable def LoopQ (Φ : Phi) (Ψ : Psi) (b : Bk) (P : Out → Loc → St → Prop) (o : Out) (ρ : Loc) (σ : St) : Prop := match o with
  | .brk => Res P (evB loop Φ Ψ b (ρ, σ))
  | .ret v => P (.ret v) ρ σ
  | .exc k => P (.exc k) ρ σ
  | _ => False
theorem tn {e : Nat} {b : Bk} {ρ : Loc} {σ : St} (h : Res P (evB lp Φ Ψ b (ρ, σ))) : TryQ lp Φ Ψ e b P .next ρ σ := h
theorem tq {e : Nat} {b : Bk} {ρ : Loc} {σ : St} (h : P .brk ρ σ) : TryQ lp Φ Ψ e b P .brk ρ σ := h
theorem lq {b : Bk} {ρ : Loc} {σ : St} (h : Res P (evB loop Φ Ψ b (ρ, σ))) : LoopQ Φ Ψ b P .brk ρ σ := h
theorem r_loop {d : Bk} {x : Sg} (h : Res (LoopQ Φ Ψ b P) (evB loop Φ Ψ d x)) : Res P (evB loop Φ Ψ (.cons (.whl d) b) x) := by
  obtain ⟨o, ρ, σ, h1, h2⟩ := h.out
  rw [b_cons, t_whl, loop_turn, h1]
  cases o with
  | brk => exact h2
  | ret v => exact h2
  | exc k => exact h2
  | _ => exact h2.elim
theorem sIte_t (a b : Bk) : sIte lp Φ Ψ a b ρ (some (.bool true, σ)) = evB lp Φ Ψ a (ρ, σ) := rfl
theorem sIte_f (a b : Bk) : sIte lp Φ Ψ a b ρ (some (.bool false, σ)) = evB lp Φ Ψ b (ρ, σ) := rfl
noncomputable def SeqQ (lp : Lp) (Φ : Phi) (Ψ : Psi) (b : Bk) (P : Out → Loc → St → Prop) (o : Out) (ρ : Loc) (σ : St) : Prop := match o with
  | .next => Res P (evB lp Φ Ψ b (ρ, σ))
  | o => P o ρ σ
theorem r_seq {s : S} {x : Sg} (h : Res (SeqQ lp Φ Ψ b P) (evS lp Φ Ψ s x)) : Res P (evB lp Φ Ψ (.cons s b) x) := by
  obtain ⟨o, ρ, σ, h1, h2⟩ := h.out
  rw [b_cons, h1]
  cases o <;> exact h2
theorem r_bd {a : Bk} {d : Bool} (h0 : nth ρ 0 = some .me) (yes : d = true → Res (SeqQ lp Φ Ψ b P) (evB lp Φ Ψ a (ρ, M t c l 0 bra ket bn bv (some d)))) (no : d = false → Res P (evB lp Φ Ψ b (ρ, M t c l 0 bra ket bn bv (some d)))) :
    Res P (evB lp Φ Ψ (.cons (.ite (.fld 0 .bd) a .nil) b) (ρ, M t c l 0 bra ket bn bv (some d))) := by
  refine r_seq ?_
  have e : ev' Φ Ψ (.fld 0 .bd) ρ (M t c l 0 bra ket bn bv (some d)) = some (.bool d, M t c l 0 bra ket bn bv (some d)) := ev_f h0 .bd
  rw [t_ite, e]
  cases d with
  | true => rw [sIte_t]; exact yes rfl
  | false => rw [sIte_f]; exact r_nil (no rfl)
theorem sq {ρ : Loc} {σ : St} (h : Res P (evB lp Φ Ψ b (ρ, σ))) : SeqQ lp Φ Ψ b P .next ρ σ := h
theorem r_tryS {e : Nat} {d : Bk} {x : Sg} (h : Res (SeqQ lp Φ Ψ b P) (sTry e (evB lp Φ Ψ d x))) : Res P (evB lp Φ Ψ (.cons (.try_ d e) b) x) := r_seq (by rw [t_try]; exact h)
theorem r_bn {a : Bk} (h0 : nth ρ 0 = some .me) (h : Res P (evB lp Φ Ψ b (ρ, M t c l 0 bra ket (some true) bv bd))) : Res P (evB lp Φ Ψ (.cons (.ite (.not (.fld 0 .bn)) a .nil) b) (ρ, M t c l 0 bra ket (some true) bv bd)) := by
  refine r_seq ?_
  have e : ev' Φ Ψ (.not (.fld 0 .bn)) ρ (M t c l 0 bra ket (some true) bv bd) = some (.bool false, M t c l 0 bra ket (some true) bv bd) := evr_not (x := true) (ev_f h0 .bn)
  rw [t_ite, e, sIte_f]
  exact r_nil h
theorem r_bv {a : Bk} {v : Bool} (h0 : nth ρ 0 = some .me) (yes : v = true → Res P (evB lp Φ Ψ b (ρ, M t c l 0 bra ket bn (some v) bd))) (no : v = false → Res (SeqQ lp Φ Ψ b P) (evB lp Φ Ψ a (ρ, M t c l 0 bra ket bn (some v) bd))) : Res P (evB lp Φ Ψ (.cons (.ite (.not (.fld 0 .bv)) a .nil) b) (ρ, M t c l 0 bra ket bn (some v) bd)) := by
  refine r_seq ?_
  have e : ev' Φ Ψ (.not (.fld 0 .bv)) ρ (M t c l 0 bra ket bn (some v) bd) = some (.bool (!v), M t c l 0 bra ket bn (some v) bd) := evr_not (ev_f h0 .bv)
  rw [t_ite, e]
  cases v with
  | true => rw [show (!true) = false from rfl, sIte_f]; exact r_nil (yes rfl)
  | false => rw [show (!false) = true from rfl, sIte_t]; exact no rfl
theorem r_ifG {m : Nat} {a : Bk} {x : Bool} {σ' : St} (h0 : nth ρ 0 = some .me) (q : Φ m [] σ = some (.bool x, σ')) (yes : x = true → Res P (evB lp Φ Ψ b (ρ, σ'))) (no : x = false → Res (SeqQ lp Φ Ψ b P) (evB lp Φ Ψ a (ρ, σ'))) : Res P (evB lp Φ Ψ (.cons (.ite (.not (.call0 0 m)) a .nil) b) (ρ, σ)) := by
  refine r_seq ?_
  have e : ev' Φ Ψ (.not (.call0 0 m)) ρ σ = some (.bool (!x), σ') := evr_not (by rw [e_call0, h0]; exact q)
  rw [t_ite, e]
  cases x with
  | true => rw [show (!true) = false from rfl, sIte_f]; exact r_nil (yes rfl)
  | false => rw [show (!false) = true from rfl, sIte_t]; exact no rfl
theorem r_asg {e : E} {v : V} {σ' : St} (h : ev' Φ Ψ e ρ σ = some (v, σ')) (k : Res P (evB lp Φ Ψ b (setV ρ i v, σ'))) : Res P (evB lp Φ Ψ (.cons (.asg i e) b) (ρ, σ)) := by
  rw [b_cons, t_asg, h]
  exact k
theorem r_whlE {d : Bk} {x y : Sg} (q : loop (turn loop Φ Ψ d) x = some (.next, y)) (h : Res P (evB loop Φ Ψ b y)) : Res P (evB loop Φ Ψ (.cons (.whl d) b) x) := by
  rw [b_cons, t_whl, q]
  exact h
theorem r_pos {n : Int} {a : Bk} (hi : nth ρ i = some (.int n)) (yes : 0 < n → Res (SeqQ lp Φ Ψ b P) (evB lp Φ Ψ a (ρ, σ))) (no : n ≤ 0 → Res P (evB lp Φ Ψ b (ρ, σ))) : Res P (evB lp Φ Ψ (.cons (.ite (.cmp .gt (.var i) (.lit (.int 0))) a .nil) b) (ρ, σ)) := by
  refine r_seq ?_
  have e : ev' Φ Ψ (.cmp .gt (.var i) (.lit (.int 0))) ρ σ = some (.bool (decide (0 < n)), σ) := ev_c2 (ev_v hi) rfl (c_int _ _ _)
  rw [t_ite, e]
  by_cases q : 0 < n
  · rw [decide_eq_true q, sIte_t]; exact yes q
  · rw [decide_eq_false q, sIte_f]; exact r_nil (no (Int.not_lt.mp q))
theorem r_back {a : Bk} (h0 : nth ρ 0 = some .me) (hc : 0 < c) (h : Res P (evB lp Φ Ψ b (ρ, M t (c - 1) l 0 bra ket bn bv bd))) :
    Res P (evB lp Φ Ψ (.cons (.ite (.cmp .le (.fld 0 .cursor) (.fld 0 .lb)) a .nil) (.cons (.augF 0 .cursor .sub (.lit (.int 1))) b)) (ρ, M t c l 0 bra ket bn bv bd)) := by
  refine r_seq ?_
  rw [t_ite, ev_c2 (o := .le) (x := .int c) (y := .int 0) (v := .bool false) (ev_f h0 .cursor) (ev_f h0 .lb) (congrArg (fun b => some (V.bool b)) (decide_eq_false (Int.not_le.mpr hc)))]
  exact r_s (by rw [t_augF, h0]; rfl) h
theorem r_putC (h0 : nth ρ 0 = some .me) (hi : nth ρ i = some (.int l)) {l' : Int} (h : Res P (evB lp Φ Ψ b (ρ, M t l l' 0 bra ket bn bv bd))) :
    Res P (evB lp Φ Ψ (.cons (.setF 0 .cursor (.var i)) b) (ρ, M t c l' 0 bra ket bn bv bd)) := r_cur h0 (ev_v hi) h
theorem r_ret {e : E} {v : V} {σ' : St} (h : ev' Φ Ψ e ρ σ = some (v, σ')) (k : P (.ret v) ρ σ') : Res P (evB lp Φ Ψ (.cons (.ret e) b) (ρ, σ)) := by
  rw [b_cons, t_ret, h]; exact k
theorem r_iteP {p : Prop} [Decidable p] {c : E} {a : Bk} {σ' : St} (h : ev' Φ Ψ c ρ σ = some (.bool (decide p), σ')) (yes : p → Res (SeqQ lp Φ Ψ b P) (evB lp Φ Ψ a (ρ, σ'))) (no : ¬ p → Res P (evB lp Φ Ψ b (ρ, σ'))) :
    Res P (evB lp Φ Ψ (.cons (.ite c a .nil) b) (ρ, σ)) := by
  refine r_seq ?_
  rw [t_ite, h]
  by_cases q : p
  · rw [decide_eq_true q]; exact yes q
  · rw [decide_eq_false q]; exact no q
theorem r_iteB {x : Bool} {c : E} {a a' : Bk} {σ' : St} (h : ev' Φ Ψ c ρ σ = some (.bool x, σ')) (yes : x = true → Res (SeqQ lp Φ Ψ b P) (evB lp Φ Ψ a (ρ, σ'))) (no : x = false → Res (SeqQ lp Φ Ψ b P) (evB lp Φ Ψ a' (ρ, σ'))) :
    Res P (evB lp Φ Ψ (.cons (.ite c a a') b) (ρ, σ)) := by
  refine r_seq ?_
  rw [t_ite, h]
  cases x with
  | true => exact yes rfl
  | false => exact no rfl
theorem r_y {c : E} {a a' : Bk} {σ' : St} (h : ev' Φ Ψ c ρ σ = some (.bool true, σ')) (k : Res (SeqQ lp Φ Ψ b P) (evB lp Φ Ψ a (ρ, σ'))) : Res P (evB lp Φ Ψ (.cons (.ite c a a') b) (ρ, σ)) := r_iteB h (fun _ => k) (fun q => nomatch q)
theorem r_n {c : E} {a : Bk} {σ' : St} (h : ev' Φ Ψ c ρ σ = some (.bool false, σ')) (k : Res P (evB lp Φ Ψ b (ρ, σ'))) : Res P (evB lp Φ Ψ (.cons (.ite c a .nil) b) (ρ, σ)) := r_iteB h (fun q => nomatch q) (fun _ => k)
theorem r_xpr0 {e : E} {σ' : St} (h : ev' Φ Ψ e ρ σ = some (.none, σ')) (k : Res P (evB lp Φ Ψ b (ρ, σ'))) : Res P (evB lp Φ Ψ (.cons (.xpr e) b) (ρ, σ)) := by
  rw [b_cons, t_xpr, h]; exact k
theorem ev_len (h0 : nth ρ 0 = some .me) (hl : t.length ≤ 5000) : ev' Φ Ψ (.bi1 .len (.fld 0 .cur)) ρ (M t c l lb bra ket bn bv bd) = some (.int t.length, M t c l lb bra ket bn bv bd) := by
  rw [e_bi1, e_fld, h0]
  exact congrArg (rt _) (b_len (Nat.le_trans hl (by decide)))
theorem ev_short {o : Cm} {n : Int} (h0 : nth ρ 0 = some .me) (hl : t.length ≤ 5000) : ev' Φ Ψ (.cmp o (.bi1 .len (.fld 0 .cur)) (.lit (.int n))) ρ (M t c l lb bra ket bn bv bd) = some (.bool (cmI o t.length n), M t c l lb bra ket bn bv bd) :=
  ev_c2 (ev_len h0 hl) rfl (c_int _ _ _)
theorem r_short {n : Nat} {a : Bk} (h0 : nth ρ 0 = some .me) (hl : t.length ≤ 5000) (yes : t.length ≤ n → Res (SeqQ lp Φ Ψ b P) (evB lp Φ Ψ a (ρ, M t c l lb bra ket bn bv bd))) (no : n < t.length → Res P (evB lp Φ Ψ b (ρ, M t c l lb bra ket bn bv bd))) :
    Res P (evB lp Φ Ψ (.cons (.ite (.cmp .le (.bi1 .len (.fld 0 .cur)) (.lit (.int n))) a .nil) b) (ρ, M t c l lb bra ket bn bv bd)) :=
  r_iteP (ev_short h0 hl) (fun q => yes (Int.ofNat_le.mp q)) fun q => no (Int.ofNat_lt.mp (Int.not_le.mp q))
theorem r_do {m : Nat} {σ' : St} (h0 : nth ρ 0 = some .me) (q : Φ m [] σ = some (.none, σ')) (k : Res P (evB lp Φ Ψ b (ρ, σ'))) : Res P (evB lp Φ Ψ (.cons (.xpr (.call0 0 m)) b) (ρ, σ)) :=
  r_xpr0 (by rw [e_call0, h0]; exact q) k
theorem r_do1 {m : Nat} {v : V} {σ' : St} (h0 : nth ρ 0 = some .me) (q : Φ m [v] σ = some (.none, σ')) (k : Res P (evB lp Φ Ψ b (ρ, σ'))) : Res P (evB lp Φ Ψ (.cons (.xpr (.call1 0 m (.lit v))) b) (ρ, σ)) :=
  r_xpr0 (by rw [e_call1, h0]; exact q) k
theorem r_bra (h0 : nth ρ 0 = some .me) (k : Res P (evB lp Φ Ψ b (ρ, M t c l lb (some c) ket bn bv bd))) : Res P (evB lp Φ Ψ (.cons (.setF 0 .bra (.fld 0 .cursor)) b) (ρ, M t c l lb bra ket bn bv bd)) :=
  r_s (by rw [t_setF, e_fld, h0]; rfl) k
theorem r_ket (h0 : nth ρ 0 = some .me) (k : Res P (evB lp Φ Ψ b (ρ, M t c l lb bra (some c) bn bv bd))) : Res P (evB lp Φ Ψ (.cons (.setF 0 .ket (.fld 0 .cursor)) b) (ρ, M t c l lb bra ket bn bv bd)) :=
  r_s (by rw [t_setF, e_fld, h0]; rfl) k
theorem r_seqN {s : S} {x : Sg} (h : Res (SeqQ lp Φ Ψ b P) (evB lp Φ Ψ (.cons s .nil) x)) : Res P (evB lp Φ Ψ (.cons s b) x) := by
  refine r_seq ?_
  rw [b_cons] at h
  obtain ⟨o, ρ, σ, h1, h2⟩ := h.out
  match e : evS lp Φ Ψ s x, h1 with
  | some (o', y), h1 => cases o' <;> (cases h1; exact h2)
theorem sqn {r : Option (Out × Sg)} (h : Res P r) : Res (SeqQ lp Φ Ψ .nil P) r := h.mono fun o _ _ h => by cases o <;> exact h
theorem r_nT {e : E} {a : Bk} {σ1 : St} (h : ev' Φ Ψ e ρ σ = some (.bool true, σ1)) (k : Res P (evB lp Φ Ψ b (ρ, σ1))) : Res P (evB lp Φ Ψ (.cons (.ite (.not e) a .nil) b) (ρ, σ)) := r_n (evr_not h) k
theorem r_nF {e : E} {a a' : Bk} {σ1 : St} (h : ev' Φ Ψ e ρ σ = some (.bool false, σ1)) (k : Res (SeqQ lp Φ Ψ b P) (evB lp Φ Ψ a (ρ, σ1))) : Res P (evB lp Φ Ψ (.cons (.ite (.not e) a a') b) (ρ, σ)) := r_y (evr_not h) k
theorem ev_or_f {e f : E} {σ1 : St} {r : Option (V × St)} (h : ev' Φ Ψ e ρ σ = some (.bool false, σ1)) (h2 : ev' Φ Ψ f ρ σ1 = r) : ev' Φ Ψ (.or2 e f) ρ σ = r := by
  rw [e_or2, h]; exact h2
theorem ev_or_t {e f : E} {σ1 : St} (h : ev' Φ Ψ e ρ σ = some (.bool true, σ1)) : ev' Φ Ψ (.or2 e f) ρ σ = some (.bool true, σ1) := by
  rw [e_or2, h]; rfl
noncomputable def LpQ (Φ : Phi) (Ψ : Psi) (d : Bk) (P : Out → Loc → St → Prop) (o : Out) (ρ : Loc) (σ : St) : Prop := match o with
  | .next => Res P (loop (turn loop Φ Ψ d) (ρ, σ))
  | .cont => Res P (loop (turn loop Φ Ψ d) (ρ, σ))
  | .brk => P .next ρ σ
  | o => P o ρ σ
theorem r_lp {d : Bk} {x : Sg} (h : Res (LpQ Φ Ψ d P) (evB loop Φ Ψ d x)) : Res P (loop (turn loop Φ Ψ d) x) := by
  obtain ⟨o, ρ, σ, h1, h2⟩ := h.out
  rw [loop_turn, h1]
  cases o <;> exact h2
theorem r_whl {d : Bk} {x : Sg} (h : Res (SeqQ loop Φ Ψ b P) (loop (turn loop Φ Ψ d) x)) : Res P (evB loop Φ Ψ (.cons (.whl d) b) x) := r_seq h
theorem r_do1e {m : Nat} {a : E} {v : V} {σ' : St} (h0 : nth ρ 0 = some .me) (h : ev' Φ Ψ a ρ σ = some (v, σ)) (q : Φ m [v] σ = some (.none, σ')) (k : Res P (evB lp Φ Ψ b (ρ, σ'))) : Res P (evB lp Φ Ψ (.cons (.xpr (.call1 0 m a)) b) (ρ, σ)) :=
  r_xpr0 (by rw [e_call1, h0, h]; exact q) k
theorem ev_call1 {m : Nat} {v : V} (h0 : nth ρ 0 = some .me) : ev' Φ Ψ (.call1 0 m (.cat v)) ρ σ = Φ m [v] σ := by rw [e_call1, h0]; rfl
theorem nth_ne {j i : Nat} {v : V} (h : j ≠ i) : nth (setV ρ j v) i = nth ρ i := by
  unfold nth setV
  rw [List.getD_eq_getElem?_getD, List.getElem?_set_ne h, ← List.getD_eq_getElem?_getD]
theorem nth_eq {j : Nat} {v : V} (h : j < ρ.length) : nth (setV ρ j v) j = some v := by
  unfold nth setV
  rw [List.getD_eq_getElem?_getD, List.getElem?_set_self h]; rfl
noncomputable def Up (n : Nat) (ρ ρ' : Loc) : Prop := ρ'.length = ρ.length ∧ ∀ i, i < n → nth ρ' i = nth ρ i
theorem Up.refl (n : Nat) (ρ : Loc) : Up n ρ ρ := ⟨rfl, fun _ _ => rfl⟩
theorem Up.set {n j : Nat} {ρ ρ' : Loc} {v : V} (u : Up n ρ ρ') (h : n ≤ j) : Up n ρ (setV ρ' j v) := ⟨List.length_set.trans u.1, fun i hi => (nth_ne (Nat.ne_of_gt (Nat.lt_of_lt_of_le hi h))).trans (u.2 i hi)⟩
theorem r_keep {n j : Nat} {ρ0 : Loc} {m : Nat} (u : Up n ρ0 ρ) (h : n ≤ j) (hj : j < m) (hn : 0 < n) (h0 : nth ρ0 0 = some .me) (hl : ρ0.length = m)
    (k : ∀ ρ', Up n ρ0 ρ' → nth ρ' 0 = some .me → nth ρ' j = some (.int c) → Res P (evB lp Φ Ψ b (ρ', M t c l lb bra ket bn bv bd))) :
    Res P (evB lp Φ Ψ (.cons (.asg j (.fld 0 .cursor)) b) (ρ, M t c l lb bra ket bn bv bd)) :=
  r_asg (v := .int c) (ev_f ((u.2 0 hn).trans h0) .cursor) (k _ (u.set h) (((u.set h).2 0 hn).trans h0) (nth_eq (by rw [u.1, hl]; exact hj)))
theorem r_doB {m : Nat} {x : Bool} {σ' : St} (h0 : nth ρ 0 = some .me) (q : Φ m [] σ = some (.bool x, σ')) (k : Res P (evB lp Φ Ψ b (ρ, σ'))) : Res P (evB lp Φ Ψ (.cons (.xpr (.call0 0 m)) b) (ρ, σ)) := by
  rw [b_cons, t_xpr, e_call0, h0, kC0_some, q]; exact k
theorem vl_sm {m : Sm} {a c : E} {x y v : V} (h1 : ev' Φ Ψ a ρ σ = some (x, σ)) (h2 : ev' Φ Ψ c ρ σ = some (y, σ)) (h : smV m x y = some v) : ev' Φ Ψ (.sm m a c) ρ σ = some (v, σ) := by
  rw [e_sm, h1, k2_some, h2, k1_some, h]; rfl
theorem ev_bi {f : Bi} {a : E} {x v : V} (h1 : ev' Φ Ψ a ρ σ = some (x, σ)) (h : biV f x = some v) : ev' Φ Ψ (.bi1 f a) ρ σ = some (v, σ) := by
  rw [e_bi1, h1, k1_some, h]; rfl
theorem ev_lenS {a : E} {s : T} (h1 : ev' Φ Ψ a ρ σ = some (.str s, σ)) (h : s.length ≤ 100000) : ev' Φ Ψ (.bi1 .len a) ρ σ = some (.int s.length, σ) := ev_bi h1 (b_len (Nat.le_trans h (by decide)))
theorem ev_hi {a c : E} {s : T} {n : Nat} (h1 : ev' Φ Ψ a ρ σ = some (.str s, σ)) (h2 : ev' Φ Ψ c ρ σ = some (.int n, σ)) (h : s.length ≤ 100000) : ev' Φ Ψ (.slHi a c) ρ σ = some (.str (s.take n), σ) := by
  rw [e_slHi, h1, k2_some, h2, k1_some, s_hi (Nat.le_trans h (by decide))]; rfl
theorem ev_lo {a c : E} {s : T} {n : Nat} (h1 : ev' Φ Ψ a ρ σ = some (.str s, σ)) (h2 : ev' Φ Ψ c ρ σ = some (.int n, σ)) (h : s.length ≤ 100000) : ev' Φ Ψ (.slLo a c) ρ σ = some (.str (s.drop n), σ) := by
  rw [e_slLo, h1, k2_some, h2, k1_some, s_lo (Nat.le_trans h (by decide))]; rfl
theorem vl_cat {a c : E} {s s' : T} (h1 : ev' Φ Ψ a ρ σ = some (.str s, σ)) (h2 : ev' Φ Ψ c ρ σ = some (.str s', σ)) (h : s.length + s'.length ≤ 100000) : ev' Φ Ψ (.bin .add a c) ρ σ = some (.str (s ++ s'), σ) := ev_b2 h1 h2 (o_cat (Nat.le_trans h (by decide)))
theorem ev_in {a c : E} {s : T} {l : List T} (h1 : ev' Φ Ψ a ρ σ = some (.str s, σ)) (h2 : ev' Φ Ψ c ρ σ = some (.strs l, σ)) : ev' Φ Ψ (.isIn a c) ρ σ = some (.bool (l.contains s), σ) := by
  rw [e_isIn, h1, k2_some, h2, k1_some]; rfl
theorem ev_and {a c : E} {x y : Bool} (h1 : ev' Φ Ψ a ρ σ = some (.bool x, σ)) (h2 : ev' Φ Ψ c ρ σ = some (.bool y, σ)) : ev' Φ Ψ (.and2 a c) ρ σ = some (.bool (x && y), σ) := by
  rw [e_and2, h1]
  cases x with
  | true => exact h2
  | false => rfl
theorem ev_andL {a c : E} {x y : Bool} (h1 : ev' Φ Ψ a ρ σ = some (.bool x, σ)) (h2 : x = true → ev' Φ Ψ c ρ σ = some (.bool y, σ)) : ev' Φ Ψ (.and2 a c) ρ σ = some (.bool (x && y), σ) := by
  rw [e_and2, h1]
  cases x with
  | true => exact h2 rfl
  | false => rfl
theorem vl_and3 {a c d : E} {x y z : Bool} (h1 : ev' Φ Ψ a ρ σ = some (.bool x, σ)) (h2 : ev' Φ Ψ c ρ σ = some (.bool y, σ)) (h3 : ev' Φ Ψ d ρ σ = some (.bool z, σ)) : ev' Φ Ψ (.and3 a c d) ρ σ = some (.bool (x && (y && z)), σ) := by
  rw [e_and3, h1]
  cases x with
  | true => exact (ev_and h2 h3 : _ = some (V.bool (y && z), σ))
  | false => rfl
theorem ev_or {a c : E} {x y : Bool} (h1 : ev' Φ Ψ a ρ σ = some (.bool x, σ)) (h2 : ev' Φ Ψ c ρ σ = some (.bool y, σ)) : ev' Φ Ψ (.or2 a c) ρ σ = some (.bool (x || y), σ) := by
  rw [e_or2, h1]
  cases x with
  | true => rfl
  | false => exact h2
theorem vl_ife {a c d : E} {x : Bool} {u v : V} (h1 : ev' Φ Ψ a ρ σ = some (.bool x, σ)) (h2 : ev' Φ Ψ c ρ σ = some (u, σ)) (h3 : ev' Φ Ψ d ρ σ = some (v, σ)) : ev' Φ Ψ (.ife a c d) ρ σ = some (cond x u v, σ) := by
  rw [e_ife, h1]
  cases x with
  | true => exact h2
  | false => exact h3
theorem ev_fn1 {f : Nat} {a : E} {x v : V} (h1 : ev' Φ Ψ a ρ σ = some (x, σ)) (h : Ψ f [x] = some v) : ev' Φ Ψ (.fn1 f a) ρ σ = some (v, σ) := by
  rw [e_fn1, h1, k1_some]; exact congrArg (rt σ) h
theorem ev_fn2 {f : Nat} {a c : E} {x y v : V} (h1 : ev' Φ Ψ a ρ σ = some (x, σ)) (h2 : ev' Φ Ψ c ρ σ = some (y, σ)) (h : Ψ f [x, y] = some v) : ev' Φ Ψ (.fn2 f a c) ρ σ = some (v, σ) := by
  rw [e_fn2, h1, k2_some, h2, k1_some]; exact congrArg (rt σ) h
theorem ev_fn3 {f : Nat} {a c d : E} {x y z v : V} (h1 : ev' Φ Ψ a ρ σ = some (x, σ)) (h2 : ev' Φ Ψ c ρ σ = some (y, σ)) (h3 : ev' Φ Ψ d ρ σ = some (z, σ)) (h : Ψ f [x, y, z] = some v) : ev' Φ Ψ (.fn3 f a c d) ρ σ = some (v, σ) := by
  rw [e_fn3, h1, k3_some, h2, k2_some, h3, k1_some]; exact congrArg (rt σ) h
noncomputable def ForQ (Φ : Phi) (Ψ : Psi) (x : Nat) (d : Bk) (l : List V) (P : Out → Loc → St → Prop) (o : Out) (ρ : Loc) (σ : St) : Prop := match o with
  | .next => Res P (evFor (turnX loop Φ Ψ x d) l (ρ, σ))
  | .cont => Res P (evFor (turnX loop Φ Ψ x d) l (ρ, σ))
  | .brk => P .next ρ σ
  | .ret v => P (.ret v) ρ σ
  | .exc _ => False
theorem r_for {x : Nat} {d : Bk} {v : V} {l : List V} (h : Res (ForQ Φ Ψ x d l P) (evB loop Φ Ψ d (setV ρ x v, σ))) : Res P (evFor (turnX loop Φ Ψ x d) (v :: l) (ρ, σ)) := by
  obtain ⟨o, ρ', σ', h1, h2⟩ := h.out
  show Res P (Option.bind (evB loop Φ Ψ d (setV ρ x v, σ)) _)
  rw [h1]
  cases o with
  | exc _ => exact h2.elim
  | _ => exact h2
theorem r_forE {x : Nat} {it : E} {d : Bk} {v : V} {l : List V} (h : ev' Φ Ψ it ρ σ = some (v, σ)) (hi : itemsOf v = some l) (k : Res (SeqQ loop Φ Ψ b P) (evFor (turnX loop Φ Ψ x d) l (ρ, σ))) : Res P (evB loop Φ Ψ (.cons (.forE x it d) b) (ρ, σ)) := by
  refine r_seq ?_
  rw [t_forE, h, sForE_some (h := hi)]
  exact k
noncomputable def RetQ (v : V) (σ0 : St) (o : Out) (ρ : Loc) (σ : St) : Prop := out (some (o, (ρ, σ))) = some (v, σ0)
theorem psi_end {m n np k : Nat} {d : Bk} {xs : List V} {v : V} (h : look m = some (n, np, d)) (hm : m ≠ 1202) (hx : xs.length = np) (w : ∀ σ, Res (RetQ v σ) (evB loop (Phi_ k) (Psi_ k) d (xs.map some ++ List.replicate (n - np) Option.none, σ))) : Psi_ (k + 1) m xs = some v :=
  psi_out h hm hx fun σ => by
    obtain ⟨o, ρ, σ', q, z⟩ := (w σ).out
    rw [q]; exact z
theorem ret_is {v v' : V} (h : v' = v) : RetQ v σ (.ret v') ρ σ := by rw [h]; rfl
theorem r_iteD {p : Prop} [Decidable p] {c : E} {a a' : Bk} (h : ev' Φ Ψ c ρ σ = some (.bool (decide p), σ)) (yes : p → Res P (evB lp Φ Ψ a (ρ, σ))) (no : ¬ p → Res P (evB lp Φ Ψ a' (ρ, σ))) : Res P (evB lp Φ Ψ (.cons (.ite c a a') .nil) (ρ, σ)) :=
  r_iteB h (fun q => sqn (yes (of_decide_eq_true q))) fun q => sqn (no (of_decide_eq_false q))
theorem vl_all {a c d : E} {s : T} {i j : Nat} (h1 : ev' Φ Ψ a ρ σ = some (.str s, σ)) (h2 : ev' Φ Ψ c ρ σ = some (.int i, σ)) (h3 : ev' Φ Ψ d ρ σ = some (.int j, σ)) (h : s.length ≤ 100000) : ev' Φ Ψ (.slAll a c d) ρ σ = some (.str ((s.take j).drop i), σ) := by
  rw [e_slAll, h1, k3_some, h2, k2_some, h3, k1_some, s_allN (Nat.le_trans h (by decide))]; rfl
theorem r_setcur {e : E} {t' : T} (h0 : nth ρ 0 = some .me) (h : ev' Φ Ψ e ρ (M t c l lb bra ket bn bv bd) = some (.str t', M t c l lb bra ket bn bv bd)) (k : Res P (evB lp Φ Ψ b (ρ, M t' c l lb bra ket bn bv bd))) : Res P (evB lp Φ Ψ (.cons (.setF 0 .cur e) b) (ρ, M t c l lb bra ket bn bv bd)) :=
  r_s (by rw [t_setF, h, h0]; rfl) k
theorem r_ass {p : Prop} [Decidable p] {e : E} (hp : p) (h : ev' Φ Ψ e ρ σ = some (.bool (decide p), σ)) (k : Res P (evB lp Φ Ψ b (ρ, σ))) : Res P (evB lp Φ Ψ (.cons (.assert e) b) (ρ, σ)) := by
  rw [b_cons, t_ass, h, decide_eq_true hp]; exact k
theorem r_xprI {e : E} {i : Int} {σ' : St} (h : ev' Φ Ψ e ρ σ = some (.int i, σ')) (k : Res P (evB lp Φ Ψ b (ρ, σ'))) : Res P (evB lp Φ Ψ (.cons (.xpr e) b) (ρ, σ)) := by
  rw [b_cons, t_xpr, h]; exact k
end
theorem phi_res {m n np k : Nat} {b : Bk} {r : List V} {σ : St} {Q : Option (V × St) → Prop} (h : look m = some (n, np, b)) (hx : r.length + 1 = np) (w : Res (fun o ρ σ => Q (out (some (o, (ρ, σ))))) (evB loop (Phi_ k) (Psi_ k) b (some .me :: (r.map some ++ List.replicate (n - np) Option.none), σ))) : Q (Phi_ (k + 1) m r σ) := by
  rw [phi_out h hx]
  obtain ⟨o, ρ, σ', q, z⟩ := w.out
  rw [q]; exact z
theorem len3 {p m q : T} : (p ++ (m ++ q)).length = p.length + m.length + q.length := by rw [List.length_append, List.length_append, Nat.add_assoc]
theorem ai {a b : Int} : a - (b + a - b) = 0 := by rw [Int.add_comm, Int.add_sub_cancel, Int.sub_self]
theorem adj (p m q s : Int) : s - (p + m - p) = s - m ∧ p + m + q + (s - m) = p + s + q := by omega
theorem rep_ev {Φ : Phi} {Ψ : Psi} {ρ : Loc} {p m q s : T} {c l lb : Int} {bra ket : Option Int} {bn bv bd : Option Bool} (h0 : nth ρ 0 = some .me) (h1 : nth ρ 1 = some (.int p.length)) (h2 : nth ρ 2 = some (.int (p.length + m.length : Nat))) (h3 : nth ρ 3 = some (.str s)) (hn : p.length + m.length + q.length ≤ 5000) (hs : s.length ≤ 5) :
    ev' Φ Ψ (.bin .add (.bin .add (.slAll (.fld 0 .cur) (.lit (.int 0)) (.var 1)) (.var 3)) (.slLo (.fld 0 .cur) (.var 2))) ρ (M (p ++ (m ++ q)) c l lb bra ket bn bv bd) = some (.str (p ++ (s ++ q)), M (p ++ (m ++ q)) c l lb bra ket bn bv bd) := by
  have hl : (p ++ (m ++ q)).length ≤ 100000 := len3 ▸ Nat.le_trans hn (by decide)
  have hp : p.length + s.length ≤ 5005 := Nat.add_le_add (Nat.le_trans (Nat.le_trans (Nat.le_add_right _ _) (Nat.le_add_right _ _)) hn) hs
  have a1 := vl_all (Φ := Φ) (Ψ := Ψ) (σ := M (p ++ (m ++ q)) c l lb bra ket bn bv bd) (c := .lit (.int 0)) (i := 0) (ev_f h0 .cur) rfl (ev_v h1) hl
  have a2 := ev_lo (Φ := Φ) (Ψ := Ψ) (σ := M (p ++ (m ++ q)) c l lb bra ket bn bv bd) (ev_f h0 .cur) (ev_v h2) hl
  rw [List.take_left, List.drop_zero] at a1
  rw [← List.append_assoc, ← List.length_append, List.drop_left, List.append_assoc] at a2
  rw [← List.append_assoc p s]
  exact vl_cat (vl_cat a1 (ev_v h3) (Nat.le_trans hp (by decide))) a2 (by rw [List.length_append]; exact Nat.le_trans (Nat.add_le_add hp (Nat.le_trans (Nat.le_add_left _ _) hn)) (by decide))
section
variable {k : Nat} {p m q s : T} {b e c l : Int} {lb : Int} {bra ket : Option Int} {bn bv bd : Option Bool} (hn : p.length + m.length + q.length ≤ 5000) (hs : s.length ≤ 5)
    (hb : b = p.length) (he : e = p.length + m.length) (hl : l = p.length + m.length + q.length)
include hn hs hb he hl
theorem replace_s :
    Phi_ (k + 1) 147 [.int b, .int e, .str s] (M (p ++ (m ++ q)) c l lb bra ket bn bv bd) =
     some (.int (s.length - m.length), M (p ++ (s ++ q)) (if e ≤ c then c + (s.length - m.length) else if b < c then b else c) (p.length + s.length + q.length) lb bra ket bn bv bd) := by
  obtain ⟨a1, a2⟩ := adj p.length m.length q.length s.length
  subst hb he hl
  refine phi_res (n := 5) (np := 4) (b := c147) (Q := fun r => r = some (.int (s.length - m.length), M (p ++ (s ++ q)) (if (p.length : Int) + m.length ≤ c then c + (s.length - m.length) else if (p.length : Int) < c then p.length else c) (p.length + s.length + q.length) lb bra ket bn bv bd)) rfl rfl ?_
  refine r_asg (v := .int (s.length - (p.length + m.length - p.length))) (ev_b2 (ev_lenS rfl (Nat.le_trans hs (by decide))) rfl rfl) ?_
  rw [a1]
  refine r_setcur (ρ := [some .me, some (.int p.length), some (.int (p.length + m.length)), some (.str s), some (.int (s.length - m.length))]) rfl (rep_ev rfl rfl rfl rfl hn hs) ?_
  refine r_s (σ' := M (p ++ (s ++ q)) c (p.length + m.length + q.length + (s.length - m.length)) lb bra ket bn bv bd) rfl ?_
  rw [a2]
  refine r_seqN (r_iteD (p := (p.length : Int) + m.length ≤ c) (ev_c2 rfl rfl (c_int _ _ _)) (fun h => ?_) fun h => ?_)
  · rw [if_pos h]
    exact r_s (σ' := M (p ++ (s ++ q)) (c + (s.length - m.length)) (p.length + s.length + q.length) lb bra ket bn bv bd) rfl (r_nil (sq (r_ret rfl rfl)))
  · rw [if_neg h]
    refine r_iteD (p := (p.length : Int) < c) (ev_c2 rfl rfl (c_int _ _ _)) (fun h => ?_) fun h => ?_
    · rw [if_pos h]
      exact r_cur rfl (ev_v rfl) (r_nil (sq (r_ret rfl rfl)))
    · rw [if_neg h]
      exact r_nil (sq (r_ret rfl rfl))
theorem slice_s (hbe : b ≤ e) (hel : e ≤ l) :
    Phi_ (k + 2) 154 [.str s] (M (p ++ (m ++ q)) c l lb (some b) (some e) bn bv bd) =
     some (.none, M (p ++ (s ++ q)) (if e ≤ c then c + (s.length - m.length) else if b < c then b else c) (p.length + s.length + q.length) lb (some b) (some (b + s.length)) bn bv bd) := by
  have z := replace_s (k := k) (c := c) (lb := lb) (bra := some b) (ket := some e) (bn := bn) (bv := bv) (bd := bd) hn hs hb he hl
  have h3 : (p ++ (m ++ q)).length ≤ 5000 := len3 ▸ hn
  have hl' : l ≤ ((p ++ (m ++ q)).length : Nat) := Int.le_of_eq (by rw [hl, len3]; rfl)
  refine phi_res (n := 2) (np := 2) (b := c154) (Q := fun r => r = some (.none, M (p ++ (s ++ q)) (if e ≤ c then c + (s.length - m.length) else if b < c then b else c) (p.length + s.length + q.length) lb (some b) (some (b + s.length)) bn bv bd)) rfl rfl ?_
  refine r_ass (p := 0 ≤ b) (by rw [hb]; exact Int.natCast_nonneg _) (ev_c2 rfl rfl (c_int _ _ _)) (r_ass hbe (ev_c2 rfl rfl (c_int _ _ _)) (r_ass hel (ev_c2 rfl rfl (c_int _ _ _)) (r_ass hl' (ev_c2 rfl (ev_len rfl h3) (c_int _ _ _)) (r_xprI (i := s.length - m.length) z ?_))))
  exact r_s (σ' := M (p ++ (s ++ q)) (if e ≤ c then c + (s.length - m.length) else if b < c then b else c) (p.length + s.length + q.length) lb (some b) (some (b + s.length)) bn bv bd) (by rw [t_setF, ev_b2 rfl (ev_lenS rfl (Nat.le_trans hs (by decide))) rfl]; rfl) rfl
theorem lel : e ≤ l := by rw [he, hl]; exact Int.le_add_of_nonneg_right (Int.natCast_nonneg _)
theorem leb : b ≤ e := by rw [hb, he]; exact Int.le_add_of_nonneg_right (Int.natCast_nonneg _)
theorem slice_A (hc : c = e) :
    Phi_ (k + 2) 154 [.str s] (M (p ++ (m ++ q)) c l lb (some b) (some e) bn bv bd) =
     some (.none, M (p ++ (s ++ q)) (p.length + s.length) (p.length + s.length + q.length) lb (some b) (some (b + s.length)) bn bv bd) := by
  rw [slice_s hn hs hb he hl (leb hn hs hb he hl) (lel hn hs hb he hl), if_pos (Int.le_of_eq hc.symm), hc, he, (show (p.length : Int) + m.length + (s.length - m.length) = p.length + s.length by have := (adj p.length m.length 0 s.length).2; rwa [Int.add_zero, Int.add_zero] at this)]
theorem slice_B (hc : c = b) (hm : 0 < m.length) :
    Phi_ (k + 2) 154 [.str s] (M (p ++ (m ++ q)) c l lb (some b) (some e) bn bv bd) =
     some (.none, M (p ++ (s ++ q)) b (p.length + s.length + q.length) lb (some b) (some (b + s.length)) bn bv bd) := by
  rw [slice_s hn hs hb he hl (leb hn hs hb he hl) (lel hn hs hb he hl), if_neg (by rw [hc, hb, he]; exact Int.not_le.mpr (Int.lt_add_of_pos_right _ (Int.ofNat_lt.mpr hm))), if_neg (by rw [hc]; exact Int.lt_irrefl _), hc]
end
section
variable {k : Nat} {p m q : T} {b e c l : Int} {lb : Int} {bn bv bd : Option Bool} (hn : p.length + m.length + q.length ≤ 5000) (hb : b = p.length) (he : e = p.length + m.length) (hl : l = p.length + m.length + q.length)
include hn hb he hl
theorem del_A (hc : c = e) :
    Phi_ (k + 3) 161 [] (M (p ++ (m ++ q)) c l lb (some b) (some e) bn bv bd) =
     some (.none, M (p ++ q) p.length (p.length + q.length) lb (some b) (some b) bn bv bd) := by
  have z := slice_A (k := k) (s := []) (lb := lb) (bn := bn) (bv := bv) (bd := bd) hn (Nat.zero_le _) hb he hl hc
  rw [List.nil_append, List.length_nil, Int.natCast_zero, Int.add_zero, Int.add_zero] at z
  exact phi_res (n := 1) (np := 1) (b := c161) (Q := fun r => r = some (.none, M (p ++ q) p.length (p.length + q.length) lb (some b) (some b) bn bv bd)) rfl rfl (r_ret z rfl)
theorem del_B (hc : c = b) (hm : 0 < m.length) :
    Phi_ (k + 3) 161 [] (M (p ++ (m ++ q)) c l lb (some b) (some e) bn bv bd) =
     some (.none, M (p ++ q) b (p.length + q.length) lb (some b) (some b) bn bv bd) := by
  have z := slice_B (k := k) (s := []) (lb := lb) (bn := bn) (bv := bv) (bd := bd) hn (Nat.zero_le _) hb he hl hc hm
  rw [List.nil_append, List.length_nil, Int.natCast_zero, Int.add_zero, Int.add_zero] at z
  exact phi_res (n := 1) (np := 1) (b := c161) (Q := fun r => r = some (.none, M (p ++ q) b (p.length + q.length) lb (some b) (some b) bn bv bd)) rfl rfl (r_ret z rfl)
end
noncomputable def ltb : T → T → Bool
  | _, [] => false
  | [], _ :: _ => true
  | x :: a, y :: b => decide (x < y) || (decide (x = y) && ltb a b)
noncomputable def agN : Nat → T → T → Prop
  | 0, _, _ => True
  | m + 1, y :: s, x :: a => y = x ∧ agN m s a
  | _ + 1, _, _ => False
noncomputable def hle : T → T → Prop
  | [], _ => True
  | y :: _, x :: _ => y < x
  | _ :: _, [] => False
noncomputable def hgt : T → T → Prop
  | _ :: _, [] => True
  | y :: _, x :: _ => x < y
  | [], _ => False
noncomputable abbrev ag (s a : T) (m : Nat) : Prop := agN m s a
noncomputable def le (s a : T) (m : Nat) : Prop := agN m s a ∧ hle (s.drop m) (a.drop m)
noncomputable def gt (s a : T) (m : Nat) : Prop := agN m s a ∧ hgt (s.drop m) (a.drop m)
theorem ltb_c {x y : Nat} {a b : T} (h : ltb (x :: a) (y :: b) = true) : x < y ∨ (x = y ∧ ltb a b = true) := by
  rcases Bool.or_eq_true_iff.mp h with h | h
  · exact .inl (of_decide_eq_true h)
  · exact .inr ⟨of_decide_eq_true (Bool.and_eq_true_iff.mp h).1, (Bool.and_eq_true_iff.mp h).2⟩
theorem ag_ind {Q : Nat → T → T → Prop} (h0 : ∀ s a, Q 0 s a) (hs : ∀ m x s a, agN m s a → Q m s a → Q (m + 1) (x :: s) (x :: a)) : ∀ {m : Nat} {s a : T}, agN m s a → Q m s a := by
  intro m
  induction m with
  | zero => exact fun _ => h0 _ _
  | succ m ih =>
    intro s a q
    cases s with
    | nil => exact q.elim
    | cons y s => cases a with
      | nil => exact q.elim
      | cons x a =>
        obtain ⟨rfl, q⟩ := q
        exact hs m _ s a q (ih q)
theorem ag_mono {s a : T} {m n : Nat} (h : n ≤ m) (q : ag s a m) : ag s a n :=
  ag_ind (Q := fun m s a => ∀ n, n ≤ m → agN n s a) (fun _ _ n h => by cases Nat.le_zero.mp h; trivial) (fun m x s a _ ih n h => match n, h with | 0, _ => trivial | n + 1, h => ⟨rfl, ih n (Nat.le_of_succ_le_succ h)⟩) q n h
theorem ag_len {s a : T} {m : Nat} (q : ag s a m) : m ≤ s.length ∧ m ≤ a.length :=
  ag_ind (Q := fun m s a => m ≤ s.length ∧ m ≤ a.length) (fun _ _ => ⟨Nat.zero_le _, Nat.zero_le _⟩) (fun _ _ _ _ _ ih => ⟨Nat.succ_le_succ ih.1, Nat.succ_le_succ ih.2⟩) q
theorem ag_between {s k u a : T} {m : Nat} (q : ag s a m) (q' : ag u a m) (h : ltb s k = true) (h' : ltb k u = true) : ag k a m := by
  refine ag_ind (Q := fun m s a => ∀ k u, agN m u a → ltb s k = true → ltb k u = true → agN m k a) (fun _ _ _ _ _ _ _ => trivial) (fun m x s a _ ih k u q' h h' => ?_) q k u q' h h'
  cases u with
  | nil => exact q'.elim
  | cons z u =>
    obtain ⟨rfl, q2⟩ := q'
    cases k with
    | nil => exact nomatch h
    | cons w k =>
      rcases ltb_c h with e | ⟨rfl, h2⟩
      · rcases ltb_c h' with e' | ⟨rfl, _⟩
        · exact absurd (Nat.lt_trans e e') (Nat.lt_irrefl _)
        · exact absurd e (Nat.lt_irrefl _)
      · rcases ltb_c h' with e' | ⟨_, h3⟩
        · exact absurd e' (Nat.lt_irrefl _)
        · exact ⟨rfl, ih k u q2 h2 h3⟩
theorem gt_none {s r a : T} {m : Nat} (g : gt s a m) (h : s = r ∨ ltb s r = true) : ¬ r <+: a := by
  refine ag_ind (Q := fun m s a => hgt (s.drop m) (a.drop m) → ∀ r, (s = r ∨ ltb s r = true) → ¬ r <+: a) (fun s a g r h p => ?_) (fun m x s a _ ih g r h p => ?_) g.1 g.2 r h
  · cases s with
    | nil => exact g.elim
    | cons y s => cases r with
      | nil => exact h.elim (fun e => nomatch e) fun e => nomatch e
      | cons w r => cases a with
        | nil => exact absurd (List.prefix_nil.mp p) (fun e => nomatch e)
        | cons x a =>
          obtain ⟨rfl, _⟩ := List.cons_prefix_cons.mp p
          have g : w < y := g
          rcases h with h | h
          · cases h; exact absurd g (Nat.lt_irrefl _)
          · rcases ltb_c h with e | ⟨rfl, _⟩
            · exact absurd (Nat.lt_trans e g) (Nat.lt_irrefl _)
            · exact absurd g (Nat.lt_irrefl _)
  · cases r with
    | nil => exact h.elim (fun e => nomatch e) fun e => nomatch e
    | cons w r =>
      obtain ⟨rfl, p2⟩ := List.cons_prefix_cons.mp p
      refine ih g r ?_ p2
      rcases h with h | h
      · cases h; exact .inl rfl
      · exact .inr ((ltb_c h).resolve_left (Nat.lt_irrefl _)).2
theorem le_fits {s r a : T} {m : Nat} (g : le s a m) (h : r = s ∨ ltb r s = true) (p : r <+: a) : r <+: s ∧ r.length ≤ m := by
  refine ag_ind (Q := fun m s a => hle (s.drop m) (a.drop m) → ∀ r, (r = s ∨ ltb r s = true) → r <+: a → r <+: s ∧ r.length ≤ m) (fun s a g r h p => ?_) (fun m x s a _ ih g r h p => ?_) g.1 g.2 r h p
  · cases r with
    | nil => exact ⟨List.nil_prefix, Nat.le_refl _⟩
    | cons w r => cases s with
      | nil => exact h.elim (fun e => nomatch e) fun e => nomatch e
      | cons y s => cases a with
        | nil => exact g.elim
        | cons x a =>
          obtain ⟨rfl, _⟩ := List.cons_prefix_cons.mp p
          have g : y < w := g
          rcases h with h | h
          · cases h; exact absurd g (Nat.lt_irrefl _)
          · rcases ltb_c h with e | ⟨rfl, _⟩
            · exact absurd (Nat.lt_trans e g) (Nat.lt_irrefl _)
            · exact absurd g (Nat.lt_irrefl _)
  · cases r with
    | nil => exact ⟨List.nil_prefix, Nat.zero_le _⟩
    | cons w r =>
      obtain ⟨rfl, p2⟩ := List.cons_prefix_cons.mp p
      obtain ⟨q1, q2⟩ := ih g r (h.imp (fun e => (List.cons.inj e).2) fun e => ((ltb_c e).resolve_left (Nat.lt_irrefl _)).2) p2
      exact ⟨List.cons_prefix_cons.mpr ⟨rfl, q1⟩, Nat.succ_le_succ q2⟩
theorem ag_fits {s r a : T} {m : Nat} (g : ag s a m) (p : r <+: s) (h : r.length ≤ m) : r <+: a := by
  refine ag_ind (Q := fun m s a => ∀ r, r <+: s → r.length ≤ m → r <+: a) (fun s a r _ h => ?_) (fun m x s a _ ih r p h => ?_) g r p h
  · rw [List.eq_nil_of_length_eq_zero (Nat.le_zero.mp h)]; exact List.nil_prefix
  · cases r with
    | nil => exact List.nil_prefix
    | cons w r =>
      obtain ⟨rfl, p2⟩ := List.cons_prefix_cons.mp p
      exact List.cons_prefix_cons.mpr ⟨rfl, ih r p2 (Nat.le_of_succ_le_succ h)⟩
theorem ag_add {s a : T} {m n : Nat} (g : ag s a m) (h : ag (s.drop m) (a.drop m) n) : ag s a (m + n) := by
  refine ag_ind (Q := fun m s a => agN n (s.drop m) (a.drop m) → agN (m + n) s a) (fun s a h => by rw [Nat.zero_add]; exact h) (fun m x s a _ ih h => ?_) g h
  rw [Nat.add_right_comm]
  exact ⟨rfl, ih h⟩
theorem le_drop {s a : T} {m n : Nat} (g : ag s a m) (h : le (s.drop m) (a.drop m) n) : le s a (m + n) := by
  refine ⟨ag_add g h.1, ?_⟩
  rw [← List.drop_drop, ← List.drop_drop]; exact h.2
theorem gt_drop {s a : T} {m n : Nat} (g : ag s a m) (h : gt (s.drop m) (a.drop m) n) : gt s a (m + n) := by
  refine ⟨ag_add g h.1, ?_⟩
  rw [← List.drop_drop, ← List.drop_drop]; exact h.2
noncomputable def scan : T → T → Int × Nat
  | _, [] => (0, 0)
  | [], _ :: _ => (-1, 0)
  | x :: a, y :: s => if x = y then ((scan a s).1, (scan a s).2 + 1) else ((x : Int) - y, 0)
theorem scan_nil (a : T) : scan a [] = (0, 0) := by cases a <;> rfl
theorem scan_eq (x : Nat) (a s : T) : scan (x :: a) (x :: s) = ((scan a s).1, (scan a s).2 + 1) := if_pos rfl
theorem scan_ne {x y : Nat} (a s : T) (h : x ≠ y) : scan (x :: a) (y :: s) = ((x : Int) - y, 0) := if_neg h
theorem scan_ok : ∀ (s a : T), (0 ≤ (scan a s).1 → le s a (scan a s).2) ∧ ((scan a s).1 < 0 → gt s a (scan a s).2)
  | [], a => by rw [scan_nil]; exact ⟨fun _ => ⟨trivial, trivial⟩, fun h => absurd h (by decide)⟩
  | y :: s, [] => ⟨fun h => absurd (show (0 : Int) ≤ -1 from h) (by decide), fun _ => ⟨trivial, trivial⟩⟩
  | y :: s, x :: a => by
    by_cases e : x = y
    · subst e
      rw [scan_eq]
      obtain ⟨h1, h2⟩ := scan_ok s a
      exact ⟨fun h => ⟨⟨rfl, (h1 h).1⟩, (h1 h).2⟩, fun h => ⟨⟨rfl, (h2 h).1⟩, (h2 h).2⟩⟩
    · rw [scan_ne a s e]
      exact ⟨fun h => ⟨trivial, Nat.lt_of_le_of_ne (Int.ofNat_le.mp (Int.sub_nonneg.mp h)) (Ne.symm e)⟩, fun h => ⟨trivial, Int.ofNat_lt.mp (Int.lt_of_sub_neg h)⟩⟩
theorem hle_gt {s a : T} (h : hle s a) (g : hgt s a) : False := by
  cases s with
  | nil => exact g
  | cons y s => cases a with
    | nil => exact h
    | cons x a => exact absurd (Nat.lt_trans h g) (Nat.lt_irrefl _)
theorem le_gt_false {s a : T} {m n : Nat} (h : le s a m) (g : gt s a n) : False := by
  rcases Nat.lt_trichotomy m n with q | q | q
  · obtain ⟨d, rfl⟩ := Nat.exists_eq_add_of_lt q
    have : ∀ {m : Nat} {s a : T}, agN (m + d + 1) s a → hle (s.drop m) (a.drop m) → False := fun {m s a} q => by
      intro h
      induction m generalizing s a with
      | zero =>
        rw [Nat.zero_add] at q
        cases s with
        | nil => exact q
        | cons y s => cases a with
          | nil => exact q
          | cons x a => obtain ⟨rfl, _⟩ := q; exact Nat.lt_irrefl _ h
      | succ m ih =>
        rw [Nat.succ_add] at q
        cases s with
        | nil => exact q
        | cons y s => cases a with
          | nil => exact q
          | cons x a => exact ih q.2 h
    exact this g.1 h.2
  · subst q; exact hle_gt h.2 g.2
  · obtain ⟨d, rfl⟩ := Nat.exists_eq_add_of_lt q
    have : ∀ {m : Nat} {s a : T}, agN (m + d + 1) s a → hgt (s.drop m) (a.drop m) → False := fun {m s a} q => by
      intro h
      induction m generalizing s a with
      | zero =>
        rw [Nat.zero_add] at q
        cases s with
        | nil => exact q
        | cons y s => cases a with
          | nil => exact q
          | cons x a => obtain ⟨rfl, _⟩ := q; exact Nat.lt_irrefl _ h
      | succ m ih =>
        rw [Nat.succ_add] at q
        cases s with
        | nil => exact q
        | cons y s => cases a with
          | nil => exact q
          | cons x a => exact ih q.2 h
    exact this h.1 g.2
noncomputable def inX (cE e : E) : Bk := (.cons (.ite (.cmp .eq cE (.var 5)) (.cons (.asg 10 (.neg 1)) (.cons (.brk) .nil)) .nil) (.cons (.asg 10 (.bin .sub (.bi1 .ord (.idx (.fld 0 .cur) e)) (.bi1 .ord (.idx (.rowS (.var 12)) (.var 13))))) (.cons (.ite (.cmp .ne (.var 10) (.lit (.int 0))) (.cons (.brk) .nil) .nil) (.cons (.augV 11 .add (.lit (.int 1))) .nil))))
noncomputable def fE : E := .bin .add (.var 4) (.var 11)
noncomputable def bE : E := .bin .sub (.var 4) (.var 11)
noncomputable def bE1 : E := .bin .sub (.bin .sub (.var 4) (.lit (.int 1))) (.var 11)
noncomputable def tl2 : Bk := (.cons (.ite (.cmp .le (.bin .sub (.var 3) (.var 2)) (.lit (.int 1))) (.cons (.ite (.cmp .gt (.var 2) (.lit (.int 0))) (.cons (.brk) .nil) .nil) (.cons (.ite (.cmp .eq (.var 3) (.var 2)) (.cons (.brk) .nil) .nil) (.cons (.ite (.var 8) (.cons (.brk) .nil) .nil) (.cons (.asg 8 (.lit (.bool true))) .nil)))) .nil) .nil)
noncomputable def tlX : Bk := (.cons (.ite (.cmp .lt (.var 10) (.lit (.int 0))) (.cons (.asg 3 (.var 9)) (.cons (.asg 7 (.var 11)) .nil)) (.cons (.asg 2 (.var 9)) (.cons (.asg 6 (.var 11)) .nil))) tl2)
noncomputable def hd4 (b : Bk) : Bk := (.cons (.asg 9 (.bin .add (.var 2) (.bin .shr (.bin .sub (.var 3) (.var 2)) (.lit (.int 1))))) (.cons (.asg 10 (.lit (.int 0))) (.cons (.asg 11 (.min2 (.var 6) (.var 7))) (.cons (.asg 12 (.idx (.var 1) (.var 9))) b))))
noncomputable def faB : Bk := hd4 (.cons (.forR 13 (.var 11) (.bi1 .len (.rowS (.var 12))) (inX fE fE)) tlX)
noncomputable def fbB : Bk := hd4 (.cons (.forD 13 (.bin .sub (.bin .sub (.bi1 .len (.rowS (.var 12))) (.lit (.int 1))) (.var 11)) (inX bE bE1)) tlX)
noncomputable def seX (o : Op) : Bk := (.cons (.asg 12 (.idx (.var 1) (.var 2))) (.cons (.ite (.cmp .ge (.var 6) (.bi1 .len (.rowS (.var 12)))) (.cons (.setF 0 .cursor (.bin o (.var 4) (.bi1 .len (.rowS (.var 12))))) (.cons (.ret (.rowR (.var 12))) .nil)) .nil) (.cons (.asg 2 (.rowI (.var 12))) (.cons (.ite (.cmp .lt (.var 2) (.lit (.int 0))) (.cons (.ret (.lit (.int 0))) .nil) .nil) .nil))))
noncomputable def fab (f : Fld) (b : Bk) (o : Op) : Bk := (.cons (.asg 2 (.lit (.int 0))) (.cons (.asg 3 (.bi1 .len (.var 1))) (.cons (.asg 4 (.fld 0 .cursor)) (.cons (.asg 5 (.fld 0 f)) (.cons (.asg 6 (.lit (.int 0))) (.cons (.asg 7 (.lit (.int 0))) (.cons (.asg 8 (.lit (.bool false))) (.cons (.whl b) (.cons (.whl (seX o)) (.cons (.ret (.neg 1)) .nil))))))))))
theorem c133_eq : c133 = fab .limit faB .add := rfl
theorem c140_eq : c140 = fab .lb fbB .sub := rfl
noncomputable abbrev R14 (vt vi vj vc vl vci vcj vfk vk vd vm vw v2 : Option V) : Loc := [some .me, vt, vi, vj, vc, vl, vci, vcj, vfk, vk, vd, vm, vw, v2]
section
variable {Φ : Phi} {Ψ : Psi} {P : Out → Loc → St → Prop} {σ : St} {cE e : E} {vt vi vj vc vl vci vcj vfk vk : Option V} {row : Row} {A K : T} {pos : Nat → T → Int}
theorem in_run {It : T → Nat → List V} (hIt : ∀ y ys m, It (y :: ys) m = .int (pos m ys) :: It ys (m + 1)) (hI0 : ∀ m, It [] m = [])
    (hc : ∀ m ρ, nth ρ 4 = vc → nth ρ 5 = vl → nth ρ 11 = some (.int (m : Nat)) → m ≤ A.length → ev' Φ Ψ (.cmp .eq cE (.var 5)) ρ σ = some (.bool (A.drop m).isEmpty, σ))
    (hx : ∀ m ρ x r, nth ρ 0 = some .me → nth ρ 4 = vc → nth ρ 11 = some (.int (m : Nat)) → A.drop m = x :: r → ev' Φ Ψ (.idx (.fld 0 .cur) e) ρ σ = some (.str [x], σ))
    (hy : ∀ m ρ y ys, nth ρ 12 = some (.row row) → nth ρ 13 = some (.int (pos m ys)) → K.drop m = y :: ys → ev' Φ Ψ (.idx (.rowS (.var 12)) (.var 13)) ρ σ = some (.str [y], σ)) :
    ∀ (ys : T) (m : Nat) (v2 : Option V), K.drop m = ys → m ≤ A.length →
      (∀ v2, P .next (R14 vt vi vj vc vl vci vcj vfk vk (some (.int (scan (A.drop m) ys).1)) (some (.int (m + (scan (A.drop m) ys).2 : Nat))) (some (.row row)) v2) σ) →
      Res P (evFor (turnX loop Φ Ψ 13 (inX cE e)) (It ys m) (R14 vt vi vj vc vl vci vcj vfk vk (some (.int 0)) (some (.int (m : Nat))) (some (.row row)) v2, σ))
  | [], m, v2, hk, hm, h => by
    rw [hI0]
    rw [scan_nil] at h
    exact h v2
  | y :: ys, m, v2, hk, hm, h => by
    rw [hIt]
    have c := hc m (R14 vt vi vj vc vl vci vcj vfk vk (some (.int 0)) (some (.int (m : Nat))) (some (.row row)) (some (.int (pos m ys)))) rfl rfl rfl hm
    refine r_for ?_
    cases ha : A.drop m with
    | nil =>
      rw [ha] at h c
      exact r_y c (r_asg (v := .int (-1)) rfl (r_brk (h _)))
    | cons x a =>
      rw [ha] at h c
      refine r_n c (r_asg (v := .int ((x : Int) - y)) (ev_b2 (x := .int x) (y := .int y) (ev_bi (hx m _ x a rfl rfl rfl ha) rfl) (ev_bi (hy m _ y ys rfl rfl hk) rfl) rfl) ?_)
      by_cases q : x = y
      · subst q
        rw [scan_eq] at h
        have ha' : A.drop (m + 1) = a := by rw [← List.drop_drop, ha]; rfl
        have hm' : m + 1 ≤ A.length := Nat.lt_of_not_le fun z => by rw [List.drop_eq_nil_of_le z] at ha; cases ha
        rw [Int.sub_self]
        refine r_n rfl (r_s (ρ' := R14 vt vi vj vc vl vci vcj vfk vk (some (.int 0)) (some (.int (m + 1 : Nat))) (some (.row row)) (some (.int (pos m ys)))) (σ' := σ) rfl (in_run hIt hI0 hc hx hy ys (m + 1) _ (by rw [← List.drop_drop, hk]; rfl) hm' ?_))
        rw [ha', Nat.add_assoc, Nat.add_comm 1]
        exact h
      · rw [scan_ne a ys q] at h
        exact r_y ((ev_c2 rfl rfl (c_int _ _ _)).trans (by rw [ci_ne, decide_eq_false (fun z : (x : Int) - y = 0 => q (Int.ofNat_inj.mp (Int.sub_eq_zero.mp z)))]; rfl)) (r_brk (h _))
theorem tl2_run {i j ci cj : Int} {fk : Bool} {vd vm vw v2 : Option V} (on : 1 < j - i → P .next (R14 vt (some (.int i)) (some (.int j)) vc vl (some (.int ci)) (some (.int cj)) (some (.bool fk)) vk vd vm vw v2) σ)
    (off : j - i ≤ 1 → (0 < i ∨ j = i ∨ fk = true) → P .brk (R14 vt (some (.int i)) (some (.int j)) vc vl (some (.int ci)) (some (.int cj)) (some (.bool fk)) vk vd vm vw v2) σ)
    (once : j - i ≤ 1 → i ≤ 0 → j ≠ i → fk = false → P .next (R14 vt (some (.int i)) (some (.int j)) vc vl (some (.int ci)) (some (.int cj)) (some (.bool true)) vk vd vm vw v2) σ) :
    Res P (evB loop Φ Ψ tl2 (R14 vt (some (.int i)) (some (.int j)) vc vl (some (.int ci)) (some (.int cj)) (some (.bool fk)) vk vd vm vw v2, σ)) :=
  r_iteP (p := j - i ≤ 1) (ev_c2 (ev_b2 rfl rfl rfl) rfl (c_int _ _ _)) (fun q => r_iteP (p := 0 < i) (ev_c2 rfl rfl (c_int _ _ _)) (fun q2 => r_brk (off q (.inl q2))) fun q2 => r_iteP (p := j = i) (ev_c2 rfl rfl (c_int _ _ _)) (fun q3 => r_brk (off q (.inr (.inl q3)))) fun q3 =>
    r_iteB (x := fk) rfl (fun q4 => r_brk (off q (.inr (.inr q4)))) fun q4 => r_nil (sq (r_asg (v := .bool true) rfl (once q (Int.not_lt.mp q2) q3 q4)))) fun q => on (Int.not_le.mp q)
theorem tlX_run {i j ci cj k d m : Int} {fk : Bool} {vw v2 : Option V}
    (lt : d < 0 → Res P (evB loop Φ Ψ tl2 (R14 vt (some (.int i)) (some (.int k)) vc vl (some (.int ci)) (some (.int m)) (some (.bool fk)) (some (.int k)) (some (.int d)) (some (.int m)) vw v2, σ)))
    (ge : 0 ≤ d → Res P (evB loop Φ Ψ tl2 (R14 vt (some (.int k)) (some (.int j)) vc vl (some (.int m)) (some (.int cj)) (some (.bool fk)) (some (.int k)) (some (.int d)) (some (.int m)) vw v2, σ))) :
    Res P (evB loop Φ Ψ tlX (R14 vt (some (.int i)) (some (.int j)) vc vl (some (.int ci)) (some (.int cj)) (some (.bool fk)) (some (.int k)) (some (.int d)) (some (.int m)) vw v2, σ)) :=
  r_iteB (ev_c2 rfl rfl (c_int _ _ _)) (fun q => r_asg (v := .int k) rfl (r_asg (v := .int m) rfl (sq (lt (of_decide_eq_true q))))) fun q => r_asg (v := .int k) rfl (r_asg (v := .int m) rfl (sq (ge (Int.not_lt.mp (of_decide_eq_false q)))))
end
section
variable {Φ : Phi} {Ψ : Psi} {P : Out → Loc → St → Prop}
noncomputable def Turns (Φ : Phi) (Ψ : Psi) (B : Bk) (key : T → T) (a : T) (rows : List Row) (vc vl : Option V) (σ : St) (P : Out → Loc → St → Prop) : Prop :=
  ∀ (i j ci cj : Nat) (fk : Bool) (vk vd vm vw v2 : Option V) (r : Row), i ≤ j → i + (j - i) / 2 ≤ 1000 → rows[i + (j - i) / 2]? = some r → r.1.length ≤ 100 → min ci cj ≤ (key r.1).length → min ci cj ≤ a.length →
    (∀ v2, Res P (evB loop Φ Ψ tlX (R14 (some (.tab rows)) (some (.int i)) (some (.int j)) vc vl (some (.int ci)) (some (.int cj)) (some (.bool fk)) (some (.int (i + (j - i) / 2 : Nat)))
        (some (.int (scan (a.drop (min ci cj)) ((key r.1).drop (min ci cj))).1)) (some (.int (min ci cj + (scan (a.drop (min ci cj)) ((key r.1).drop (min ci cj))).2 : Nat))) (some (.row r)) v2, σ))) →
    Res P (evB loop Φ Ψ B (R14 (some (.tab rows)) (some (.int i)) (some (.int j)) vc vl (some (.int ci)) (some (.int cj)) (some (.bool fk)) vk vd vm vw v2, σ))
theorem half (i j : Nat) (h : i ≤ j) : ((i : Int) + ((j : Int) - i).fdiv 2) = ((i + (j - i) / 2 : Nat) : Int) := by
  rw [← Int.ofNat_sub h, Int.fdiv_eq_ediv_of_nonneg _ (by decide)]
  rfl
theorem minc (a b : Nat) : (if (b : Int) < a then (b : Int) else a) = ((min a b : Nat) : Int) := by
  by_cases h : b < a
  · rw [if_pos (Int.ofNat_lt.mpr h), Nat.min_eq_right (Nat.le_of_lt h)]
  · rw [if_neg fun z => h (Int.ofNat_lt.mp z), Nat.min_eq_left (Nat.not_lt.mp h)]
theorem asg_eq {lp : Lp} {x : Nat} {e : E} {b : Bk} {ρ : Loc} {σ : St} {v : V} (h : ev' Φ Ψ e ρ σ = some (v, σ)) : evB lp Φ Ψ (.cons (.asg x e) b) (ρ, σ) = evB lp Φ Ψ b (setV ρ x v, σ) := by
  rw [b_cons, t_asg, h]; rfl
theorem hd4_eq {b : Bk} {ρ : Loc} {rows : List Row} {i j ci cj : Nat} {r : Row} {σ : St} (g1 : nth ρ 1 = some (.tab rows)) (g2 : nth ρ 2 = some (.int i)) (g3 : nth ρ 3 = some (.int j)) (g6 : nth ρ 6 = some (.int ci)) (g7 : nth ρ 7 = some (.int cj)) (hρ : ρ.length = 14)
    (hij : i ≤ j) (hk : i + (j - i) / 2 ≤ 1000) (hr : rows[i + (j - i) / 2]? = some r) :
    evB loop Φ Ψ (hd4 b) (ρ, σ) = evB loop Φ Ψ b (setV (setV (setV (setV ρ 9 (.int (i + (j - i) / 2 : Nat))) 10 (.int 0)) 11 (.int (min ci cj : Nat))) 12 (.row r), σ) := by
  have a1 : ev' Φ Ψ (.bin .add (.var 2) (.bin .shr (.bin .sub (.var 3) (.var 2)) (.lit (.int 1)))) ρ σ = some (.int (i + (j - i) / 2 : Nat), σ) := by
    rw [← half i j hij]
    exact ev_b2 (ev_v g2) (ev_b2 (ev_b2 (ev_v g3) (ev_v g2) rfl) rfl rfl) rfl
  have n {x y : Nat} {v : V} {ρ : Loc} {u : Option V} (h : x ≠ y) (g : nth ρ y = u) : nth (setV ρ x v) y = u := (nth_ne h).trans g
  generalize i + (j - i) / 2 = kk at hk hr a1 ⊢
  have a3 : ev' Φ Ψ (.min2 (.var 6) (.var 7)) (setV (setV ρ 9 (.int kk)) 10 (.int 0)) σ = some (.int (min ci cj : Nat), σ) := by
    rw [e_min2, ev_v (n (by decide) (n (by decide) g6)), k2_some, ev_v (n (by decide) (n (by decide) g7)), ← minc]; rfl
  have e : idxV (.tab rows) (.int kk) = some (.row r) := by
    rw [x_tab ⟨Int.natCast_nonneg _, Int.ofNat_lt.mpr (Nat.lt_of_le_of_lt hk (by decide))⟩, Int.toNat_natCast, hr]; rfl
  unfold hd4
  rw [asg_eq a1, asg_eq (v := .int 0) rfl, asg_eq a3, asg_eq (ev_x2 (ev_v (n (by decide) (n (by decide) (n (by decide) g1)))) (ev_v (n (by decide) (n (by decide) (nth_eq (by rw [hρ]; decide))))) e)]
theorem hd4_run {b : Bk} {rows : List Row} {vc vl vk vd vm vw v2 : Option V} {i j ci cj : Nat} {fk : Bool} {r : Row} {σ : St} (hij : i ≤ j) (hk : i + (j - i) / 2 ≤ 1000) (hr : rows[i + (j - i) / 2]? = some r)
    (h : Res P (evB loop Φ Ψ b (R14 (some (.tab rows)) (some (.int i)) (some (.int j)) vc vl (some (.int ci)) (some (.int cj)) (some (.bool fk)) (some (.int (i + (j - i) / 2 : Nat))) (some (.int 0)) (some (.int (min ci cj : Nat))) (some (.row r)) v2, σ))) :
    Res P (evB loop Φ Ψ (hd4 b) (R14 (some (.tab rows)) (some (.int i)) (some (.int j)) vc vl (some (.int ci)) (some (.int cj)) (some (.bool fk)) vk vd vm vw v2, σ)) := by
  rw [hd4_eq (ρ := R14 (some (.tab rows)) (some (.int i)) (some (.int j)) vc vl (some (.int ci)) (some (.int cj)) (some (.bool fk)) vk vd vm vw v2) rfl rfl rfl rfl rfl rfl hij hk hr]
  exact h
theorem range_up (n : Nat) (m : Int) : (List.range (n + 1)).map (fun (q : Nat) => V.int (m + q)) = V.int m :: (List.range n).map (fun (q : Nat) => V.int ((m + 1) + q)) := by
  rw [List.range_succ_eq_map, List.map_cons, List.map_map, Int.natCast_zero, Int.add_zero]
  refine congrArg (V.int m :: ·) (List.map_congr_left fun q _ => congrArg V.int ?_)
  show m + ((q + 1 : Nat) : Int) = m + 1 + q
  rw [Int.natCast_add, Int.add_assoc, Int.add_comm (q : Int)]; rfl
theorem range_down (n : Nat) : (List.range (n + 1)).map (fun (q : Nat) => V.int ((n : Int) - q)) = V.int n :: (List.range n).map (fun (q : Nat) => V.int ((n : Int) - 1 - q)) := by
  rw [List.range_succ_eq_map, List.map_cons, List.map_map, Int.natCast_zero, Int.sub_zero]
  refine congrArg (V.int n :: ·) (List.map_congr_left fun q _ => congrArg V.int ?_)
  show (n : Int) - ((q + 1 : Nat) : Int) = n - 1 - q
  rw [Int.natCast_add, Int.add_comm, ← Int.sub_sub]; rfl
theorem at_cur {t : T} {cc ll lb : Int} {bra ket : Option Int} {bn bv bd : Option Bool} (ht : t.length ≤ 5000) {ρ : Loc} {n : Nat} {x : Nat} {e : E} (h0 : nth ρ 0 = some .me) (he : ev' Φ Ψ e ρ (M t cc ll lb bra ket bn bv bd) = some (.int n, M t cc ll lb bra ket bn bv bd)) (hx : t[n]? = some x) : ev' Φ Ψ (.idx (.fld 0 .cur) e) ρ (M t cc ll lb bra ket bn bv bd) = some (.str [x], M t cc ll lb bra ket bn bv bd) :=
  ev_x2 (x := .str t) (ev_f h0 .cur) he ((x_str ⟨Int.natCast_nonneg _, Int.ofNat_lt.mpr (Nat.lt_of_lt_of_le (List.getElem?_eq_some_iff.mp hx).1 (Nat.le_trans ht (by decide)))⟩).trans (by rw [Int.toNat_natCast, hx]; rfl))
theorem at_row {ρ : Loc} {r : Row} {σ : St} {n : Nat} {y : Nat} (hl : r.1.length ≤ 100) (h12 : nth ρ 12 = some (.row r)) (h13 : nth ρ 13 = some (.int n)) (hy : r.1[n]? = some y) : ev' Φ Ψ (.idx (.rowS (.var 12)) (.var 13)) ρ σ = some (.str [y], σ) :=
  ev_x2 (x := .str r.1) (by rw [e_rowS, ev_v h12]; rfl) (ev_v h13) ((x_str ⟨Int.natCast_nonneg _, Int.ofNat_lt.mpr (Nat.lt_of_lt_of_le (List.getElem?_eq_some_iff.mp hy).1 (Nat.le_trans hl (by decide)))⟩).trans (by rw [Int.toNat_natCast, hy]; rfl))
theorem row_len {ρ : Loc} {r : Row} {σ : St} (hl : r.1.length ≤ 100) (h12 : nth ρ 12 = some (.row r)) : ev' Φ Ψ (.bi1 .len (.rowS (.var 12))) ρ σ = some (.int r.1.length, σ) :=
  ev_lenS (by rw [e_rowS, ev_v h12]; rfl) (Nat.le_trans hl (by decide))
theorem hd_drop {l : T} {m x : Nat} {r : T} (h : l.drop m = x :: r) : l[m]? = some x := by
  have := congrArg (fun l => l[0]?) h
  rwa [List.getElem?_drop, Nat.add_zero] at this
theorem r_forR {x : Nat} {lo hi : E} {d b : Bk} {i j : Nat} {ρ : Loc} {σ : St} (h1 : ev' Φ Ψ lo ρ σ = some (.int i, σ)) (h2 : ev' Φ Ψ hi ρ σ = some (.int j, σ)) (hj : i ≤ j ∧ j ≤ 1000) (k : Res (SeqQ loop Φ Ψ b P) (evFor (turnX loop Φ Ψ x d) ((List.range (j - i)).map fun (q : Nat) => V.int ((i : Int) + q)) (ρ, σ))) : Res P (evB loop Φ Ψ (.cons (.forR x lo hi d) b) (ρ, σ)) := by
  have g : ∀ n : Nat, n ≤ 1000 → (-1000000000 : Int) < n ∧ (n : Int) < 1000000000 := fun n h => ⟨Int.lt_of_lt_of_le (by decide) (Int.natCast_nonneg n), Int.ofNat_lt.mpr (Nat.lt_of_le_of_lt h (by decide))⟩
  refine r_seq ?_
  rw [t_forR, h1, sForR_some, h2, sForR'_some (h := ⟨(g i (Nat.le_trans hj.1 hj.2)).1, (g i (Nat.le_trans hj.1 hj.2)).2, g j hj.2⟩), ← Int.ofNat_sub hj.1, Int.toNat_natCast]
  exact k
variable {t : T} {c : Nat} {rows : List Row} {cc ll lb : Int} {bra ket : Option Int} {bn bv bd : Option Bool} (ht : t.length ≤ 5000) (hc : c ≤ t.length)
include ht hc
theorem faB_turns : Turns Φ Ψ faB id (t.drop c) rows (some (.int c)) (some (.int t.length)) (M t cc ll lb bra ket bn bv bd) P := by
  intro i j ci cj fk vk vd vm vw v2 r hij hk hr hl h1 h2 h
  refine hd4_run hij hk hr (r_forR rfl (row_len hl rfl) ⟨h1, Nat.le_trans hl (by decide)⟩ ?_)
  have e : (List.range (r.1.length - min ci cj)).map (fun (q : Nat) => V.int (((min ci cj : Nat) : Int) + q)) = (fun (ys : T) (m : Nat) => (List.range ys.length).map fun (q : Nat) => V.int ((m : Int) + q)) (r.1.drop (min ci cj)) (min ci cj) := by
    show _ = List.map _ (List.range (List.length _))
    rw [List.length_drop]
  rw [e]
  refine in_run (It := fun (ys : T) (m : Nat) => (List.range ys.length).map fun (q : Nat) => V.int ((m : Int) + q)) (pos := fun m _ => m) (A := t.drop c) (K := r.1) (fun y ys m => range_up ys.length m) (fun _ => rfl) (fun m ρ g4 g5 g11 hm => ?_) (fun m ρ x a g0 g4 g11 ha => at_cur ht g0 (ev_b2 (o := .add) (ev_v g4) (ev_v g11) rfl) (n := c + m) ?_) (fun m ρ y ys g12 g13 hy => at_row hl g12 g13 (hd_drop hy)) _ _ _ rfl h2 fun v2 => sq (h v2)
  · refine (ev_c2 (ev_b2 (ev_v g4) (ev_v g11) rfl) (ev_v g5) (c_int _ _ _)).trans (congrArg (fun b => some (V.bool b, _)) ?_)
    rw [List.length_drop] at hm
    rw [ci_eq, Bool.eq_iff_iff, decide_eq_true_iff, List.isEmpty_iff, List.drop_drop, List.drop_eq_nil_iff]
    show ((c + m : Nat) : Int) = t.length ↔ _
    rw [Int.ofNat_inj]
    exact ⟨fun z => Nat.le_of_eq z.symm, fun z => Nat.le_antisymm (Nat.add_le_of_le_sub' hc hm) z⟩
  · rw [List.drop_drop] at ha
    exact hd_drop ha
theorem fbB_turns : Turns Φ Ψ fbB List.reverse (t.take c).reverse rows (some (.int c)) (some (.int 0)) (M t cc ll lb bra ket bn bv bd) P := by
  intro i j ci cj fk vk vd vm vw v2 r hij hk hr hl h1 h2 h
  rw [List.length_reverse] at h1
  refine hd4_run hij hk hr (r_seq ?_)
  have e : (List.range (((r.1.length : Int) - 1 - (min ci cj : Nat)) + 1).toNat).map (fun (q : Nat) => V.int ((r.1.length : Int) - 1 - (min ci cj : Nat) - q)) = (fun (ys : T) (m : Nat) => (List.range ys.length).map fun (q : Nat) => V.int ((ys.length : Int) - 1 - q)) (r.1.reverse.drop (min ci cj)) (min ci cj) := by
    show _ = List.map (fun (q : Nat) => V.int (((r.1.reverse.drop (min ci cj)).length : Int) - 1 - q)) (List.range (List.length _))
    rw [List.length_drop, List.length_reverse, Int.sub_sub, Int.add_comm 1, ← Int.sub_sub, Int.sub_add_cancel, ← Int.ofNat_sub h1, Int.toNat_natCast]
  have g : -1000000000 < (r.1.length : Int) - 1 - (min ci cj : Nat) ∧ (r.1.length : Int) - 1 - (min ci cj : Nat) < 1000000000 := by omega
  rw [t_forD, ev_b2 (ev_b2 (row_len hl rfl) rfl rfl) rfl rfl, sForD_some (h := g), e]
  refine in_run (It := fun (ys : T) (_ : Nat) => (List.range ys.length).map fun (q : Nat) => V.int ((ys.length : Int) - 1 - q)) (pos := fun _ ys => ys.length) (A := (t.take c).reverse) (K := r.1.reverse) (fun y ys m => ?_) (fun _ => rfl) (fun m ρ g4 g5 g11 hm => ?_) (fun m ρ x a g0 g4 g11 ha => ?_) (fun m ρ y ys g12 g13 hy => at_row hl g12 g13 ?_) _ _ _ rfl h2 fun v2 => sq (h v2)
  · show (List.range (ys.length + 1)).map (fun (q : Nat) => V.int (((ys.length + 1 : Nat) : Int) - 1 - q)) = _
    rw [show ((ys.length + 1 : Nat) : Int) - 1 = ys.length from Int.add_sub_cancel (ys.length : Int) 1]
    exact range_down ys.length
  · refine (ev_c2 (ev_b2 (ev_v g4) (ev_v g11) rfl) (ev_v g5) (c_int _ _ _)).trans (congrArg (fun b => some (V.bool b, _)) ?_)
    rw [List.length_reverse, List.length_take, Nat.min_eq_left hc] at hm
    rw [ci_eq, Bool.eq_iff_iff, decide_eq_true_iff, List.isEmpty_iff, List.drop_eq_nil_iff, List.length_reverse, List.length_take, Nat.min_eq_left hc]
    show (c : Int) - m = 0 ↔ _
    rw [Int.sub_eq_zero, Int.ofNat_inj]
    exact ⟨fun z => Nat.le_of_eq z, fun z => Nat.le_antisymm z hm⟩
  · have hx := hd_drop ha
    obtain ⟨hm, _⟩ := List.getElem?_eq_some_iff.mp hx
    rw [List.getElem?_reverse (by rw [List.length_reverse] at hm; exact hm), List.length_take, Nat.min_eq_left hc] at hx
    rw [List.length_reverse, List.length_take, Nat.min_eq_left hc] at hm
    rw [List.getElem?_take] at hx
    split at hx
    · refine at_cur ht g0 (ev_b2 (ev_b2 (ev_v g4) rfl rfl) (ev_v g11) ?_) hx
      show some (V.int ((c : Int) - 1 - m)) = _
      rw [Int.ofNat_sub (Nat.le_sub_one_of_lt hm), Int.ofNat_sub (Nat.le_trans (Nat.succ_le_succ (Nat.zero_le m)) hm)]; rfl
    · cases hx
  · have hx := hd_drop hy
    obtain ⟨hm, _⟩ := List.getElem?_eq_some_iff.mp hx
    have l := congrArg List.length hy
    rw [List.length_reverse] at hm
    rw [List.length_drop, List.length_reverse, List.length_cons] at l
    rw [List.getElem?_reverse hm, Nat.sub_sub, Nat.add_comm 1, ← Nat.sub_sub, l] at hx
    exact hx
end
noncomputable def Good (ks : List T) (a : T) (i ci : Nat) : Prop := ∃ s, ks[i]? = some s ∧ (∀ r ∈ ks, r <+: a → r <+: s ∧ r.length ≤ ci) ∧ ∀ p, p <+: s → p.length ≤ ci → p <+: a
structure Inv (ks : List T) (a : T) (i j ci cj : Nat) (fk : Bool) : Prop where
  lt : i < j
  top : j ≤ ks.length
  lo : (i = 0 ∧ ci = 0) ∨ ∃ s, ks[i]? = some s ∧ le s a ci
  hi : (j = ks.length ∧ cj = 0) ∨ ∃ s, ks[j]? = some s ∧ gt s a cj
  fk : fk = true → i = 0 ∧ j = 1
section
variable {ks : List T} {a : T}
theorem srt {ks : List T} (h : ks.Pairwise (fun x y => ltb x y = true)) {i j : Nat} {x y : T} (hi : ks[i]? = some x) (hj : ks[j]? = some y) (l : i < j) : ltb x y = true := by
  obtain ⟨h1, rfl⟩ := List.getElem?_eq_some_iff.mp hi
  obtain ⟨h2, rfl⟩ := List.getElem?_eq_some_iff.mp hj
  exact List.pairwise_iff_getElem.mp h i j h1 h2 l
theorem Inv.mid {i j ci cj : Nat} {fk : Bool} (I : Inv ks a i j ci cj fk) (h : ks.Pairwise (fun x y => ltb x y = true)) {k : Nat} {s : T} (hk : ks[k]? = some s) (h1 : i ≤ k) (h2 : k < j) : ag s a (min ci cj) := by
  rcases I.lo with ⟨_, e⟩ | ⟨si, e1, l1⟩
  · rw [e, Nat.zero_min]; trivial
  rcases I.hi with ⟨_, e⟩ | ⟨sj, e2, l2⟩
  · rw [e, Nat.min_zero]; trivial
  have a1 := ag_mono (Nat.min_le_left ci cj) l1.1
  have a2 := ag_mono (Nat.min_le_right ci cj) l2.1
  rcases Nat.eq_or_lt_of_le h1 with q | q
  · subst q; rw [e1] at hk; cases hk; exact a1
  · exact ag_between a1 a2 (srt h e1 hk q) (srt h hk e2 h2)
theorem good_of {i j ci cj : Nat} (h : ks.Pairwise (fun x y => ltb x y = true)) {s : T} (hs : ks[i]? = some s) (hl : le s a ci) (hj : j ≤ i + 1) (hi : (j = ks.length ∧ cj = 0) ∨ ∃ u, ks[j]? = some u ∧ gt u a cj) : Good ks a i ci := by
  refine ⟨s, hs, fun r hr p => ?_, fun p p1 p2 => ag_fits hl.1 p1 p2⟩
  obtain ⟨m, hm, rfl⟩ := List.getElem_of_mem hr
  have em : ks[m]? = some ks[m] := List.getElem?_eq_getElem hm
  refine le_fits hl ?_ p
  rcases Nat.lt_trichotomy m i with q | q | q
  · exact .inr (srt h em hs q)
  · subst q; rw [em] at hs; cases hs; exact .inl rfl
  · rcases hi with ⟨e, _⟩ | ⟨u, e1, e2⟩
    · exact absurd (Nat.lt_of_lt_of_le hm (e ▸ hj)) (Nat.not_lt.mpr q)
    · refine absurd p (gt_none e2 ?_)
      rcases Nat.eq_or_lt_of_le (Nat.le_trans hj q) with z | z
      · subst z; rw [em] at e1; cases e1; exact .inl rfl
      · exact .inr (srt h e1 em z)
theorem good_first (h : ks.Pairwise (fun x y => ltb x y = true)) {s : T} {cj : Nat} (hs : ks[0]? = some s) (hg : gt s a cj) {ci : Nat} (hc : ci = 0) : Good ks a 0 ci := by
  subst hc
  refine ⟨s, hs, fun r hr p => ?_, fun p _ p2 => by rw [List.eq_nil_of_length_eq_zero (Nat.le_zero.mp p2)]; exact List.nil_prefix⟩
  obtain ⟨m, hm, rfl⟩ := List.getElem_of_mem hr
  have em : ks[m]? = some ks[m] := List.getElem?_eq_getElem hm
  refine absurd p (gt_none hg ?_)
  rcases Nat.eq_or_lt_of_le (Nat.zero_le m) with z | z
  · subst z; rw [em] at hs; cases hs; exact .inl rfl
  · exact .inr (srt h hs em z)
variable {Φ : Phi} {Ψ : Psi} {B : Bk} {key : T → T} {rows : List Row} {vc vl : Option V} {σ : St} {P : Out → Loc → St → Prop}
theorem i_lt {a b : Nat} (h : (1 : Int) < (b : Int) - a) : a + 1 < b := by omega
theorem i_le {a b : Nat} (h : (b : Int) - a ≤ 1) : b ≤ a + 1 := by omega
theorem mid2 {i j : Nat} (h : i < j) : i ≤ i + (j - i) / 2 ∧ i + (j - i) / 2 < j ∧ (i + 1 < j → i < i + (j - i) / 2) := by omega
theorem dec2 {a b c n : Nat} (h : a < b) (hm : 2 * b + c ≤ n + 1) : 2 * a + c ≤ n := by omega
theorem fa_loop (H : Turns Φ Ψ B key a rows vc vl σ (LpQ Φ Ψ B P)) (hs : (rows.map fun r => key r.1).Pairwise (fun x y => ltb x y = true)) (hn : rows.length ≤ 1000) (hk : ∀ r ∈ rows, r.1.length ≤ 100)
    (done : ∀ (i ci : Nat) (vj vcj vfk vk vd vm vw v2 : Option V), Good (rows.map fun r => key r.1) a i ci → P .next (R14 (some (.tab rows)) (some (.int i)) vj vc vl (some (.int ci)) vcj vfk vk vd vm vw v2) σ) :
    ∀ (n i j ci cj : Nat) (fk : Bool) (vk vd vm vw v2 : Option V), 2 * (j - i) + cond fk 0 1 ≤ n → Inv (rows.map fun r => key r.1) a i j ci cj fk →
      Res P (loop (turn loop Φ Ψ B) (R14 (some (.tab rows)) (some (.int i)) (some (.int j)) vc vl (some (.int ci)) (some (.int cj)) (some (.bool fk)) vk vd vm vw v2, σ)) := by
  intro n
  induction n with
  | zero => exact fun i j ci cj fk vk vd vm vw v2 hm I => absurd (Nat.le_trans (Nat.mul_le_mul_left 2 (Nat.sub_pos_of_lt I.lt)) (Nat.le_trans (Nat.le_add_right _ _) hm)) (by decide)
  | succ n ih =>
    intro i j ci cj fk vk vd vm vw v2 hm I
    have hlt := I.lt
    have htop := I.top
    rw [List.length_map] at htop
    obtain ⟨k1, k2, k3⟩ := mid2 hlt
    have hki : i + (j - i) / 2 < rows.length := Nat.lt_of_lt_of_le k2 htop
    have hr : rows[i + (j - i) / 2]? = some rows[i + (j - i) / 2] := List.getElem?_eq_getElem hki
    generalize hrr : rows[i + (j - i) / 2] = r at hr
    have hrm : r ∈ rows := hrr ▸ List.getElem_mem hki
    have hks : (rows.map fun r => key r.1)[i + (j - i) / 2]? = some (key r.1) := by rw [List.getElem?_map, hr]; rfl
    have A := I.mid hs hks k1 k2
    obtain ⟨A1, A2⟩ := ag_len A
    refine r_lp (H i j ci cj fk vk vd vm vw v2 r (Nat.le_of_lt hlt) (Nat.le_of_lt (Nat.lt_of_lt_of_le hki hn)) hr (hk r hrm) A1 A2 fun v2 => ?_)
    clear hr hrr hki
    generalize i + (j - i) / 2 = k at k1 k2 k3 hks ⊢
    obtain ⟨S1, S2⟩ := scan_ok ((key r.1).drop (min ci cj)) (a.drop (min ci cj))
    have hf : fk = true → i = 0 ∧ k = 0 ∧ j = 1 := fun q => by
      obtain ⟨e1, e2⟩ := I.fk q
      exact ⟨e1, Nat.lt_one_iff.mp (e2 ▸ k2), e2⟩
    refine tlX_run (fun hd => ?_) fun hd => ?_
    · have G : gt (key r.1) a (min ci cj + _) := gt_drop A (S2 hd)
      generalize min ci cj + (scan (a.drop (min ci cj)) ((key r.1).drop (min ci cj))).2 = m at G ⊢
      refine tl2_run (fun on => ?_) (fun off st => ?_) fun off z1 z2 z3 => ?_
      · have on := i_lt on
        exact ih _ _ _ _ _ _ _ _ _ _ (dec2 (Nat.sub_lt_sub_right k1 k2) hm) ⟨Nat.lt_trans (Nat.lt_succ_self i) on, by rw [List.length_map]; exact Nat.le_trans (Nat.le_of_lt k2) htop, I.lo, .inr ⟨_, hks, G⟩, fun q => by
          rw [(hf q).1, (hf q).2.1] at on; exact absurd on (Nat.not_lt_zero _)⟩
      · refine done i ci _ _ _ _ _ _ _ _ ?_
        rcases I.lo with ⟨q1, q2⟩ | ⟨s, q1, q2⟩
        · have k0 : k = 0 := st.elim (fun h => absurd h (by rw [q1]; decide)) fun st => st.elim (fun h => (Int.ofNat_inj.mp h).trans q1) fun h => (hf h).2.1
          rw [k0] at hks
          rw [q1]
          exact good_first hs hks G q2
        · rcases Nat.eq_or_lt_of_le k1 with w | w
          · rw [← w, q1] at hks
            cases hks
            exact (le_gt_false q2 G).elim
          · exact good_of hs q1 q2 (i_le off) (.inr ⟨_, hks, G⟩)
      · have i0 : i = 0 := Nat.le_zero.mp (Int.ofNat_le.mp z1)
        subst z3 i0
        have lt : 0 < k := Nat.lt_of_le_of_ne k1 fun h => z2 (Int.ofNat_inj.mpr h.symm)
        exact ih _ _ _ _ _ _ _ _ _ _ (Nat.le_trans (Nat.mul_le_mul_left 2 (Nat.sub_le_sub_right (Nat.le_of_lt k2) 0)) (Nat.le_of_succ_le_succ hm)) ⟨lt, by rw [List.length_map]; exact Nat.le_trans (Nat.le_of_lt k2) htop, I.lo, .inr ⟨_, hks, G⟩, fun _ => ⟨rfl, Nat.le_antisymm (i_le off) lt⟩⟩
    · have G : le (key r.1) a (min ci cj + _) := le_drop A (S1 hd)
      generalize min ci cj + (scan (a.drop (min ci cj)) ((key r.1).drop (min ci cj))).2 = m at G ⊢
      have sub : j - k ≤ j - i := Nat.sub_le_sub_left k1 j
      refine tl2_run (fun on => ?_) (fun off st => ?_) fun off z1 z2 z3 => ?_
      · have on := i_lt on
        cases hb : fk with
        | true => rw [(hf hb).2.1, (hf hb).2.2] at on; exact absurd on (by decide)
        | false =>
          subst hb
          have lt := k3 (Nat.lt_of_le_of_lt (Nat.succ_le_succ k1) on)
          exact ih _ _ _ _ _ _ _ _ _ _ (dec2 (Nat.sub_lt_sub_left (Nat.lt_trans lt k2) lt) hm) ⟨k2, by rw [List.length_map]; exact htop, .inr ⟨_, hks, G⟩, I.hi, fun q => nomatch q⟩
      · exact done k m _ _ _ _ _ _ _ _ (good_of hs hks G (i_le off) I.hi)
      · have e0 : k = 0 := Nat.le_zero.mp (Int.ofNat_le.mp z1)
        subst z3 e0
        exact ih _ _ _ _ _ _ _ _ _ _ (Nat.le_trans (Nat.mul_le_mul_left 2 sub) (Nat.le_of_succ_le_succ hm)) ⟨k2, by rw [List.length_map]; exact htop, .inr ⟨_, hks, G⟩, I.hi, fun _ => ⟨rfl, Nat.le_antisymm (i_le off) k2⟩⟩
end
noncomputable def linkOk (ks : List T) (i : Nat) (r : Row) (s : T) : Bool :=
  if r.2.1 < 0 then ks.all (fun q => !(q.isPrefixOf s) || q == s)
  else match ks[r.2.1.toNat]? with
    | some u => decide (r.2.1.toNat < i) && u.isPrefixOf s && ks.all (fun q => !(q.isPrefixOf s) || q == s || q.isPrefixOf u)
    | Option.none => false
noncomputable def linksOk (ks : List T) : Nat → List Row → List T → Bool
  | i, r :: rs, s :: ss => linkOk ks i r s && linksOk ks (i + 1) rs ss
  | _, _, _ => true
theorem links_at {ks : List T} : ∀ {rs : List Row} {ss : List T} {i0 : Nat}, linksOk ks i0 rs ss = true → ∀ {i : Nat} {r : Row} {s : T}, rs[i]? = some r → ss[i]? = some s → linkOk ks (i0 + i) r s = true
  | r :: rs, s :: ss, i0, h, 0, _, _, e1, e2 => by
    cases e1; cases e2
    exact (Bool.and_eq_true_iff.mp h).1
  | r :: rs, s :: ss, i0, h, i + 1, _, _, e1, e2 => by
    have := links_at (Bool.and_eq_true_iff.mp h).2 (i := i) e1 e2
    rw [Nat.add_assoc, Nat.add_comm 1] at this
    exact this
  | [], _, _, _, i, _, _, e1, _ => nomatch e1
  | _ :: _, [], _, _, i, _, _, _, e2 => nomatch e2
structure TabOk (key : T → T) (rows : List Row) (D : List (T × Int)) : Prop where
  pos : 0 < rows.length
  few : rows.length ≤ 1000
  short : ∀ r ∈ rows, r.1.length ≤ 100
  sorted : (rows.map fun r => key r.1).Pairwise (fun x y => ltb x y = true)
  links : linksOk (rows.map fun r => key r.1) 0 rows (rows.map fun r => key r.1) = true
  all : ∀ r ∈ rows, (r.1, r.2.2) ∈ D
  only : ∀ e ∈ D, e.1 ∈ rows.map (·.1)
  first : D.Pairwise fun e e' => (key e.1).isPrefixOf (key e'.1) = false
noncomputable def pick (key : T → T) (D : List (T × Int)) (a : T) : Option (T × Int) := D.find? fun e => (key e.1).isPrefixOf a
theorem find_first {p : T × Int → Bool} {q : T × Int → T × Int → Prop} : ∀ {D : List (T × Int)} {x : T × Int}, D.Pairwise (fun e e' => ¬ q e e') → x ∈ D → p x = true → (∀ e ∈ D, p e = true → e = x ∨ q e x) → D.find? p = some x
  | e :: D, x, hp, hx, px, h => by
    rw [List.find?_cons]
    cases pe : p e with
    | true =>
      rcases h e (.head _) pe with r | r
      · subst r; rfl
      · rcases List.mem_cons.mp hx with z | z
        · subst z; rfl
        · exact absurd r ((List.pairwise_cons.mp hp).1 x z)
    | false =>
      refine find_first (List.pairwise_cons.mp hp).2 ?_ px fun e' he' => h e' (.tail _ he')
      rcases List.mem_cons.mp hx with z | z
      · subst z; rw [px] at pe; cases pe
      · exact z
section
variable {Φ : Phi} {Ψ : Psi} {key : T → T} {rows : List Row} {D : List (T × Int)} {a t : T} {c : Int} {cc ll lb : Int} {bra ket : Option Int} {bn bv bd : Option Bool}
theorem pick_some (K : TabOk key rows D) {r : Row} (hr : r ∈ rows) (h1 : key r.1 <+: a) (h2 : ∀ q ∈ rows.map (fun r => key r.1), q <+: a → q <+: key r.1) : pick key D a = some (r.1, r.2.2) := by
  refine find_first (q := fun e e' => (key e.1).isPrefixOf (key e'.1) = true) (K.first.imp fun h => by rw [h]; decide) (K.all r hr) (List.isPrefixOf_iff_prefix.mpr h1) fun e he pe => .inr ?_
  obtain ⟨r', hr', e1⟩ := List.mem_map.mp (K.only e he)
  exact List.isPrefixOf_iff_prefix.mpr (h2 (key e.1) (List.mem_map.mpr ⟨r', hr', by rw [e1]⟩) (List.isPrefixOf_iff_prefix.mp pe))
theorem pick_none (K : TabOk key rows D) (h : ∀ q ∈ rows.map (fun r => key r.1), ¬ q <+: a) : pick key D a = Option.none := by
  refine List.find?_eq_none.mpr fun e he pe => ?_
  obtain ⟨r', hr', e1⟩ := List.mem_map.mp (K.only e he)
  exact h (key e.1) (List.mem_map.mpr ⟨r', hr', by rw [e1]⟩) (List.isPrefixOf_iff_prefix.mp pe)
noncomputable def told (key : T → T) (D : List (T × Int)) (a : T) (f : Nat → Int) (cc : Int) : Int × Int := match pick key D a with
  | some e => (e.2, f e.1.length)
  | Option.none => (0, cc)
theorem told_some (K : TabOk key rows D) {r : Row} (hr : r ∈ rows) (h1 : key r.1 <+: a) (h2 : ∀ q ∈ rows.map (fun r => key r.1), q <+: a → q <+: key r.1) (f : Nat → Int) : told key D a f cc = (r.2.2, f r.1.length) := by
  unfold told
  rw [pick_some K hr h1 h2]
theorem told_none (K : TabOk key rows D) (h : ∀ q ∈ rows.map (fun r => key r.1), ¬ q <+: a) (f : Nat → Int) : told key D a f cc = (0, cc) := by
  unfold told
  rw [pick_none K h]
structure SeR (ρ : Loc) (rows : List Row) (c : Int) (i : Int) (ci : Nat) : Prop where
  l : ρ.length = 14
  g0 : nth ρ 0 = some .me
  g1 : nth ρ 1 = some (.tab rows)
  g2 : nth ρ 2 = some (.int i)
  g4 : nth ρ 4 = some (.int c)
  g6 : nth ρ 6 = some (.int ci)
theorem SeR.s12 {ρ : Loc} {i : Int} {ci : Nat} {v : V} (s : SeR ρ rows c i ci) : SeR (setV ρ 12 v) rows c i ci ∧ nth (setV ρ 12 v) 12 = some v :=
  have n {y : Nat} {u : Option V} (h : 12 ≠ y) (g : nth ρ y = u) : nth (setV ρ 12 v) y = u := (nth_ne h).trans g
  ⟨⟨List.length_set.trans s.l, n (by decide) s.g0, n (by decide) s.g1, n (by decide) s.g2, n (by decide) s.g4, n (by decide) s.g6⟩, nth_eq (by rw [s.l]; decide)⟩
theorem SeR.s2 {ρ : Loc} {i j : Int} {ci : Nat} (s : SeR ρ rows c i ci) : SeR (setV ρ 2 (.int j)) rows c j ci :=
  have n {y : Nat} {u : Option V} (h : 2 ≠ y) (g : nth ρ y = u) : nth (setV ρ 2 (.int j)) y = u := (nth_ne h).trans g
  ⟨List.length_set.trans s.l, n (by decide) s.g0, n (by decide) s.g1, nth_eq (by rw [s.l]; decide), n (by decide) s.g4, n (by decide) s.g6⟩
variable {P : Out → Loc → St → Prop}
theorem se_turn (hk : ∀ s, (key s).length = s.length) {o : Op} {f : Nat → Int} (ho : ∀ n : Nat, opV o (.int c) (.int n) = some (.int (f n))) {ρ : Loc} {i ci : Nat} {r : Row} (s : SeR ρ rows c i ci) (hi : i ≤ 1000) (hr : rows[i]? = some r) (hl : r.1.length ≤ 100)
    (hit : r.1.length ≤ ci → ∀ ρ, P (.ret (.int r.2.2)) ρ (M t (f r.1.length) ll lb bra ket bn bv bd)) (miss : ¬ r.1.length ≤ ci → r.2.1 < 0 → ∀ ρ, P (.ret (.int 0)) ρ (M t cc ll lb bra ket bn bv bd))
    (next : ¬ r.1.length ≤ ci → ¬ r.2.1 < 0 → ∀ ρ, SeR ρ rows c r.2.1 ci → P .next ρ (M t cc ll lb bra ket bn bv bd)) : Res P (evB loop Φ Ψ (seX o) (ρ, M t cc ll lb bra ket bn bv bd)) := by
  have e : idxV (.tab rows) (.int i) = some (.row r) := by
    rw [x_tab ⟨Int.natCast_nonneg _, Int.ofNat_lt.mpr (Nat.lt_of_le_of_lt hi (by decide))⟩, Int.toNat_natCast, hr]; rfl
  unfold seX
  rw [asg_eq (ev_x2 (ev_v s.g1) (ev_v s.g2) e)]
  obtain ⟨s1, g12⟩ := s.s12 (v := .row r)
  generalize setV ρ 12 (.row r) = ρ1 at s1 g12 ⊢
  have hlen := fun σ => row_len (Φ := Φ) (Ψ := Ψ) (σ := σ) hl g12
  refine r_iteP (p := r.1.length ≤ ci) ((ev_c2 (ev_v s1.g6) (hlen _) (c_int _ _ _)).trans (by rw [ci_ge, decide_eq_decide.mpr Int.ofNat_le])) (fun q => ?_) fun q => ?_
  · exact r_cur s1.g0 (ev_b2 (ev_v s1.g4) (hlen _) (ho _)) (r_ret (v := .int r.2.2) (by rw [e_rowR, ev_v g12]; rfl) (hit q _))
  · refine r_asg (v := .int r.2.1) (by rw [e_rowI, ev_v g12]; rfl) (r_iteP (p := r.2.1 < 0) (ev_c2 (ev_v s1.s2.g2) rfl (c_int _ _ _)) (fun q2 => r_ret rfl (miss q q2 _)) fun q2 => next q q2 _ s1.s2)
theorem se_loop (K : TabOk key rows D) (hk : ∀ s, (key s).length = s.length) {o : Op} {f : Nat → Int} (ho : ∀ n : Nat, opV o (.int c) (.int n) = some (.int (f n)))
    (done : ∀ ρ, P (.ret (.int (told key D a f cc).1)) ρ (M t (told key D a f cc).2 ll lb bra ket bn bv bd)) :
    ∀ (n i ci : Nat) (ρ : Loc), i ≤ n → SeR ρ rows c i ci → Good (rows.map fun r => key r.1) a i ci → Res P (loop (turn loop Φ Ψ (seX o)) (ρ, M t cc ll lb bra ket bn bv bd)) := by
  intro n
  induction n using Nat.strongRecOn with
  | ind n ih =>
    rintro i ci ρ hi s ⟨u, hs, g1, g2⟩
    rw [List.getElem?_map] at hs
    obtain ⟨r, hr, rfl⟩ := Option.map_eq_some_iff.mp hs
    have hrm : r ∈ rows := List.mem_of_getElem? hr
    have hilt : i < rows.length := (List.getElem?_eq_some_iff.mp hr).1
    have hks : (rows.map fun r => key r.1)[i]? = some (key r.1) := by rw [List.getElem?_map, hr]; rfl
    have L := links_at K.links (i := i) hr hks
    rw [Nat.zero_add] at L
    unfold linkOk at L
    refine r_lp (se_turn hk ho s (Nat.le_trans (Nat.le_of_lt hilt) K.few) hr (K.short r hrm) (fun q ρ => ?_) (fun q q2 ρ => ?_) fun q q2 ρ s2 => ?_)
    · have := done ρ
      rw [told_some K hrm (g2 _ (List.prefix_refl _) (by rw [hk]; exact q)) fun q hq p => (g1 q hq p).1] at this
      exact this
    · rw [if_pos q2] at L
      have := done ρ
      rw [told_none K fun v hv p => ?_] at this
      · exact this
      obtain ⟨z1, z2⟩ := g1 v hv p
      rcases Bool.or_eq_true_iff.mp (List.all_eq_true.mp L v hv) with w | w
      · rw [List.isPrefixOf_iff_prefix.mpr z1] at w; cases w
      · rw [eq_of_beq w, hk] at z2; exact q z2
    · rw [if_neg q2] at L
      split at L
      · rename_i u hu
        obtain ⟨L, L3⟩ := Bool.and_eq_true_iff.mp L
        obtain ⟨L1, L2⟩ := Bool.and_eq_true_iff.mp L
        have L1 := of_decide_eq_true L1
        rw [← Int.toNat_of_nonneg (Int.not_lt.mp q2)] at s2
        refine ih r.2.1.toNat (Nat.lt_of_lt_of_le L1 hi) r.2.1.toNat ci ρ (Nat.le_refl _) s2 ⟨u, hu, fun v hv p => ?_, fun p p1 p2 => g2 p (p1.trans (List.isPrefixOf_iff_prefix.mp L2)) p2⟩
        obtain ⟨z1, z2⟩ := g1 v hv p
        refine ⟨?_, z2⟩
        rcases Bool.or_eq_true_iff.mp (List.all_eq_true.mp L3 v hv) with w | w
        · rcases Bool.or_eq_true_iff.mp w with w | w
          · rw [List.isPrefixOf_iff_prefix.mpr z1] at w; cases w
          · rw [eq_of_beq w, hk] at z2; exact absurd z2 q
        · exact List.isPrefixOf_iff_prefix.mp w
      · cases L
theorem fab_run (K : TabOk key rows D) (hk : ∀ s, (key s).length = s.length) {fl : Fld} {B : Bk} {o : Op} {f : Nat → Int} {l : Int} (ho : ∀ n : Nat, opV o (.int c) (.int n) = some (.int (f n))) (hf : (M t c ll lb bra ket bn bv bd).get fl = some (.int l))
    (H : ∀ P, Turns Φ Ψ B key a rows (some (.int c)) (some (.int l)) (M t c ll lb bra ket bn bv bd) P) :
    Res (fun o _ σ => o = .ret (.int (told key D a f c).1) ∧ σ = M t (told key D a f c).2 ll lb bra ket bn bv bd) (evB loop Φ Ψ (fab fl B o) (some .me :: some (.tab rows) :: List.replicate 12 Option.none, M t c ll lb bra ket bn bv bd)) := by
  have e : ev' Φ Ψ (.bi1 .len (.var 1)) (setV (some .me :: some (.tab rows) :: List.replicate 12 Option.none) 2 (.int 0)) (M t c ll lb bra ket bn bv bd) = some (.int rows.length, M t c ll lb bra ket bn bv bd) := ev_bi rfl (b_lent (Nat.le_trans K.few (by decide)))
  have e5 : ev' Φ Ψ (.fld 0 fl) (setV (setV (setV (some .me :: some (.tab rows) :: List.replicate 12 Option.none) 2 (.int 0)) 3 (.int rows.length)) 4 (.int c)) (M t c ll lb bra ket bn bv bd) = some (.int l, M t c ll lb bra ket bn bv bd) := (ev_f rfl fl).trans (congrArg (rt _) hf)
  unfold fab
  rw [asg_eq (v := .int 0) rfl, asg_eq e, asg_eq (v := .int c) rfl, asg_eq e5, asg_eq (v := .int 0) rfl, asg_eq (v := .int 0) rfl, asg_eq (v := .bool false) rfl]
  refine r_whl (fa_loop (H _) K.sorted K.few K.short (fun i ci vj vcj vfk vk vd vm vw v2 G => ?_) _ 0 rows.length 0 0 false Option.none Option.none Option.none Option.none Option.none (Nat.le_refl _) ⟨K.pos, by rw [List.length_map]; exact Nat.le_refl _, .inl ⟨rfl, rfl⟩, .inl ⟨by rw [List.length_map], rfl⟩, fun q => nomatch q⟩)
  exact sq (r_whl (se_loop K hk ho (fun ρ => ⟨rfl, rfl⟩) i i ci _ (Nat.le_refl _) ⟨rfl, rfl, rfl, rfl, rfl, rfl⟩ G))
end
theorem told_out {x : Int × Int} {r : Option (Out × Sg)} {t : T} {ll lb : Int} {bra ket : Option Int} {bn bv bd : Option Bool} (h : Res (fun o _ σ => o = .ret (.int x.1) ∧ σ = M t x.2 ll lb bra ket bn bv bd) r) : out r = some (.int x.1, M t x.2 ll lb bra ket bn bv bd) := by
  obtain ⟨o, ρ, σ, rfl, rfl, rfl⟩ := h.out
  rfl
theorem find_among {k : Nat} {rows : List Row} {D : List (T × Int)} {t : T} {c l lb : Int} {bra ket : Option Int} {bn bv bd : Option Bool} (K : TabOk id rows D) (ht : t.length ≤ 5000) (n : Nat) (hc : c = n) (hn : n ≤ t.length) (hl : l = t.length) :
    Phi_ (k + 1) 133 [.tab rows] (M t c l lb bra ket bn bv bd) = some (.int (told id D (t.drop n) (fun m => c + m) c).1, M t (told id D (t.drop n) (fun m => c + m) c).2 l lb bra ket bn bv bd) := by
  subst hc hl
  rw [phi_out (n := 14) (np := 2) (b := c133) rfl rfl, c133_eq]
  exact told_out (fab_run K (fun _ => rfl) (fun _ => rfl) rfl fun _ => faB_turns ht hn)
theorem find_among_b {k : Nat} {rows : List Row} {D : List (T × Int)} {t : T} {c l lb : Int} {bra ket : Option Int} {bn bv bd : Option Bool} (K : TabOk List.reverse rows D) (ht : t.length ≤ 5000) (n : Nat) (hc : c = n) (hn : n ≤ t.length) (hb : lb = 0) :
    Phi_ (k + 1) 140 [.tab rows] (M t c l lb bra ket bn bv bd) = some (.int (told List.reverse D (t.take n).reverse (fun m => c - m) c).1, M t (told List.reverse D (t.take n).reverse (fun m => c - m) c).2 l lb bra ket bn bv bd) := by
  subst hc hb
  rw [phi_out (n := 14) (np := 2) (b := c140) rfl rfl, c140_eq]
  exact told_out (fab_run K (fun _ => List.length_reverse) (fun _ => rfl) rfl fun _ => fbB_turns ht hn)
noncomputable def D_0 : List (T × Int) := [([1600], 1), ([1611], 1), ([1612], 1), ([1613], 1), ([1614], 1), ([1615], 1), ([1616], 1), ([1617], 1), ([1618], 1), ([1632], 2), ([1633], 3), ([1634], 4), ([1635], 5), ([1636], 6), ([1637], 7), ([1638], 8), ([1639], 9), ([1640], 10), ([1641], 11), ([65152], 12), ([65153], 16), ([65154], 16), ([65155], 13), ([65156], 13), ([65157], 17), ([65158], 17), ([65159], 14), ([65160], 14), ([65161], 15), ([65162], 15), ([65163], 15), ([65164], 15), ([65165], 18), ([65166], 18), ([65167], 19), ([65168], 19), ([65169], 19), ([65170], 19), ([65171], 20), ([65172], 20), ([65173], 21), ([65174], 21), ([65175], 21), ([65176], 21), ([65177], 22), ([65178], 22), ([65179], 22), ([65180], 22), ([65181], 23), ([65182], 23), ([65183], 23), ([65184], 23), ([65185], 24), ([65186], 24), ([65187], 24), ([65188], 24), ([65189], 25), ([65190], 25), ([65191], 25), ([65192], 25), ([65193], 26), ([65194], 26), ([65195], 27), ([65196], 27), ([65197], 28), ([65198], 28), ([65199], 29), ([65200], 29), ([65201], 30), ([65202], 30), ([65203], 30), ([65204], 30), ([65205], 31), ([65206], 31), ([65207], 31), ([65208], 31), ([65209], 32), ([65210], 32), ([65211], 32), ([65212], 32), ([65213], 33), ([65214], 33), ([65215], 33), ([65216], 33), ([65217], 34), ([65218], 34), ([65219], 34), ([65220], 34), ([65221], 35), ([65222], 35), ([65223], 35), ([65224], 35), ([65225], 36), ([65226], 36), ([65227], 36), ([65228], 36), ([65229], 37), ([65230], 37), ([65231], 37), ([65232], 37), ([65233], 38), ([65234], 38), ([65235], 38), ([65236], 38), ([65237], 39), ([65238], 39), ([65239], 39), ([65240], 39), ([65241], 40), ([65242], 40), ([65243], 40), ([65244], 40), ([65245], 41), ([65246], 41), ([65247], 41), ([65248], 41), ([65249], 42), ([65250], 42), ([65251], 42), ([65252], 42), ([65253], 43), ([65254], 43), ([65255], 43), ([65256], 43), ([65257], 44), ([65258], 44), ([65259], 44), ([65260], 44), ([65261], 45), ([65262], 45), ([65263], 46), ([65264], 46), ([65265], 47), ([65266], 47), ([65267], 47), ([65268], 47), ([65269], 51), ([65270], 51), ([65271], 49), ([65272], 49), ([65273], 50), ([65274], 50), ([65275], 48), ([65276], 48)]
theorem tab_0 : TabOk id ta_0 D_0 := ⟨by decide +kernel, by decide +kernel, by decide +kernel, by decide +kernel, by decide +kernel, by decide +kernel, by decide +kernel, by decide +kernel⟩
noncomputable def D_1 : List (T × Int) := [([1570], 1), ([1571], 1), ([1572], 1), ([1573], 1), ([1574], 1)]
theorem tab_1 : TabOk List.reverse ta_1 D_1 := ⟨by decide +kernel, by decide +kernel, by decide +kernel, by decide +kernel, by decide +kernel, by decide +kernel, by decide +kernel, by decide +kernel⟩
noncomputable def D_2 : List (T × Int) := [([1570], 1), ([1571], 1), ([1572], 2), ([1573], 1), ([1574], 3)]
theorem tab_2 : TabOk id ta_2 D_2 := ⟨by decide +kernel, by decide +kernel, by decide +kernel, by decide +kernel, by decide +kernel, by decide +kernel, by decide +kernel, by decide +kernel⟩
noncomputable def D_3 : List (T × Int) := [([1576, 1575, 1604], 1), ([1603, 1575, 1604], 1), ([1575, 1604], 2), ([1604, 1604], 2)]
theorem tab_3 : TabOk id ta_3 D_3 := ⟨by decide +kernel, by decide +kernel, by decide +kernel, by decide +kernel, by decide +kernel, by decide +kernel, by decide +kernel, by decide +kernel⟩
noncomputable def D_4 : List (T × Int) := [([1571, 1570], 2), ([1571, 1571], 1), ([1571, 1572], 1), ([1571, 1573], 4), ([1571, 1575], 3)]
theorem tab_4 : TabOk id ta_4 D_4 := ⟨by decide +kernel, by decide +kernel, by decide +kernel, by decide +kernel, by decide +kernel, by decide +kernel, by decide +kernel, by decide +kernel⟩
noncomputable def D_5 : List (T × Int) := [([1601], 1), ([1608], 1)]
theorem tab_5 : TabOk id ta_5 D_5 := ⟨by decide +kernel, by decide +kernel, by decide +kernel, by decide +kernel, by decide +kernel, by decide +kernel, by decide +kernel, by decide +kernel⟩
noncomputable def D_7 : List (T × Int) := [([1576, 1575], (-1)), ([1576, 1576], 2), ([1603, 1603], 3), ([1576], 1)]
theorem tab_7 : TabOk id ta_7 D_7 := ⟨by decide +kernel, by decide +kernel, by decide +kernel, by decide +kernel, by decide +kernel, by decide +kernel, by decide +kernel, by decide +kernel⟩
noncomputable def D_8 : List (T × Int) := [([1587, 1571], 4), ([1587, 1578], 2), ([1587, 1606], 3), ([1587, 1610], 1)]
theorem tab_8 : TabOk id ta_8 D_8 := ⟨by decide +kernel, by decide +kernel, by decide +kernel, by decide +kernel, by decide +kernel, by decide +kernel, by decide +kernel, by decide +kernel⟩
noncomputable def D_9 : List (T × Int) := [([1578, 1587, 1578], 1), ([1606, 1587, 1578], 1), ([1610, 1587, 1578], 1)]
theorem tab_9 : TabOk id ta_9 D_9 := ⟨by decide +kernel, by decide +kernel, by decide +kernel, by decide +kernel, by decide +kernel, by decide +kernel, by decide +kernel, by decide +kernel⟩
noncomputable def D_10 : List (T × Int) := [([1603, 1605, 1575], 3), ([1607, 1605, 1575], 3), ([1606, 1575], 2), ([1607, 1575], 2), ([1603, 1605], 2), ([1607, 1605], 2), ([1607, 1606], 2), ([1603], 1), ([1607], 1), ([1610], 1)]
theorem tab_10 : TabOk List.reverse ta_10 D_10 := ⟨by decide +kernel, by decide +kernel, by decide +kernel, by decide +kernel, by decide +kernel, by decide +kernel, by decide +kernel, by decide +kernel⟩
noncomputable def D_11 : List (T × Int) := [([1575], 1), ([1608], 1), ([1610], 1)]
theorem tab_11 : TabOk List.reverse ta_11 D_11 := ⟨by decide +kernel, by decide +kernel, by decide +kernel, by decide +kernel, by decide +kernel, by decide +kernel, by decide +kernel, by decide +kernel⟩
noncomputable def D_12 : List (T × Int) := [([1603, 1605, 1575], 3), ([1607, 1605, 1575], 3), ([1603, 1605, 1608], 3), ([1606, 1575], 2), ([1607, 1575], 2), ([1603, 1605], 2), ([1607, 1605], 2), ([1603, 1606], 2), ([1607, 1606], 2), ([1606, 1610], 2), ([1603], 1), ([1607], 1)]
theorem tab_12 : TabOk List.reverse ta_12 D_12 := ⟨by decide +kernel, by decide +kernel, by decide +kernel, by decide +kernel, by decide +kernel, by decide +kernel, by decide +kernel, by decide +kernel⟩
noncomputable def D_13 : List (T × Int) := [([1578, 1605, 1575], 4), ([1578, 1575], 2), ([1606, 1575], 2), ([1578, 1606], 2), ([1575, 1606], 3), ([1608, 1606], 3), ([1610, 1606], 3), ([1575], 1), ([1578], 1), ([1606], 1), ([1610], 1)]
theorem tab_13 : TabOk List.reverse ta_13 D_13 := ⟨by decide +kernel, by decide +kernel, by decide +kernel, by decide +kernel, by decide +kernel, by decide +kernel, by decide +kernel, by decide +kernel⟩
noncomputable def D_14 : List (T × Int) := [([1608, 1575], 1), ([1578, 1605], 1)]
theorem tab_14 : TabOk List.reverse ta_14 D_14 := ⟨by decide +kernel, by decide +kernel, by decide +kernel, by decide +kernel, by decide +kernel, by decide +kernel, by decide +kernel, by decide +kernel⟩
noncomputable def D_15 : List (T × Int) := [([1578, 1605, 1608], 2), ([1608], 1)]
theorem tab_15 : TabOk List.reverse ta_15 D_15 := ⟨by decide +kernel, by decide +kernel, by decide +kernel, by decide +kernel, by decide +kernel, by decide +kernel, by decide +kernel, by decide +kernel⟩
theorem del_S {k : Nat} {p m : T} {b e c l : Int} {lb : Int} {bn bv bd : Option Bool} (hn : p.length + m.length ≤ 5000)
    (hb : b = p.length) (he : e = p.length + m.length) (hl : l = p.length + m.length) (hc : c = b) (hm : 0 < m.length) :
    Phi_ (k + 3) 161 [] (M (p ++ m) c l lb (some b) (some e) bn bv bd) =
     some (.none, M p p.length p.length lb (some b) (some b) bn bv bd) := by
  have := del_B (k := k) (p := p) (m := m) (q := []) (b := b) (e := e) (c := c) (l := l) (lb := lb) (bn := bn) (bv := bv) (bd := bd) hn hb he (hl.trans (Int.add_zero _).symm) hc hm
  rw [List.append_nil, List.append_nil] at this
  subst hb
  exact this.trans (by rw [show ((([] : T).length : Nat) : Int) = 0 from rfl, Int.add_zero])
noncomputable def lim (e : T) : Nat := if e = [1575, 1606] ∨ e = [1608, 1606] ∨ e = [1610, 1606] then 4 else 3
noncomputable def cutL (L : T → Nat) (ends : List T) (t : T) : Option T := (ends.find? (·.isSuffixOf t)).bind fun e => if L e ≤ t.length - e.length then some (t.take (t.length - e.length)) else Option.none
noncomputable abbrev cut := cutL lim
theorem cut_pick {L : T → Nat} {ends : List T} {D : List (T × Int)} (h : D.map (·.1) = ends) (t : T) : cutL L ends t = (pick List.reverse D t.reverse).bind fun e => if L e.1 ≤ t.length - e.1.length then some (t.take (t.length - e.1.length)) else Option.none := by
  subst h
  unfold cutL pick
  rw [List.find?_map, Option.bind_map]
  rfl
noncomputable def SufOk (m : Nat) (F : T → Option T) : Prop := ∀ (k : Nat) (t : T) (c : Int) (bra ket : Option Int) (bn bv bd : Option Bool), t.length ≤ 5000 → c = t.length →
  ∃ (c' : Int) (b' k' : Option Int), Phi_ (k + 4) m [] (M t c c 0 bra ket bn bv bd) = match F t with
    | some t' => some (.bool true, M t' t'.length t'.length 0 b' k' bn bv bd)
    | Option.none => some (.bool false, M t c' c 0 b' k' bn bv bd)
theorem pick_mem {D : List (T × Int)} {t : T} {e : T × Int} (h : pick List.reverse D t.reverse = some e) : e ∈ D ∧ ∃ p, t = p ++ e.1 := by
  refine ⟨List.mem_of_find?_eq_some h, ?_⟩
  have q := List.find?_some h
  obtain ⟨p, hp⟩ := (List.isSuffixOf_iff_suffix (l₁ := e.1) (l₂ := t)).mp q
  exact ⟨p, hp.symm⟩
theorem fab_some {k : Nat} {rows : List Row} {D : List (T × Int)} {t m : T} {r l : Int} {bra ket : Option Int} {bn bv bd : Option Bool} (K : TabOk List.reverse rows D) (ht : t.length ≤ 5000) (hp : pick List.reverse D t.reverse = some (m, r)) :
    Phi_ (k + 1) 140 [.tab rows] (M t t.length l 0 bra ket bn bv bd) = some (.int r, M t (t.length - m.length) l 0 bra ket bn bv bd) := by
  rw [find_among_b K ht t.length rfl (Nat.le_refl _) rfl, List.take_length, told, hp]
theorem fab_none {k : Nat} {rows : List Row} {D : List (T × Int)} {t : T} {l : Int} {bra ket : Option Int} {bn bv bd : Option Bool} (K : TabOk List.reverse rows D) (ht : t.length ≤ 5000) (hp : pick List.reverse D t.reverse = Option.none) :
    Phi_ (k + 1) 140 [.tab rows] (M t t.length l 0 bra ket bn bv bd) = some (.int 0, M t t.length l 0 bra ket bn bv bd) := by
  rw [find_among_b K ht t.length rfl (Nat.le_refl _) rfl, List.take_length, told, hp]
theorem lenI (p m : T) : ((p ++ m).length : Int) - m.length = p.length := by
  rw [List.length_append, Int.natCast_add, Int.add_sub_cancel]
theorem cut_at {L : T → Nat} {ends : List T} {D : List (T × Int)} (h : D.map (·.1) = ends) {p : T} {e : T × Int} (hp : pick List.reverse D (p ++ e.1).reverse = some e) : cutL L ends (p ++ e.1) = if L e.1 ≤ p.length then some p else Option.none := by
  rw [cut_pick h, hp, Option.bind_some, List.length_append, Nat.add_sub_cancel, List.take_left]
theorem cut_no {L : T → Nat} {ends : List T} {D : List (T × Int)} (h : D.map (·.1) = ends) {t : T} (hp : pick List.reverse D t.reverse = Option.none) : cutL L ends t = Option.none := by
  rw [cut_pick h, hp, Option.bind_none]
theorem cut_s {L : T → Nat} (e p : T) : cutL L [e] (p ++ e) = if L e ≤ p.length then some p else Option.none := by
  unfold cutL
  rw [List.find?_cons_of_pos (p := fun x => List.isSuffixOf x (p ++ e)) (List.isSuffixOf_iff_suffix.mpr ⟨p, rfl⟩)]
  show (if L e ≤ (p ++ e).length - e.length then some ((p ++ e).take ((p ++ e).length - e.length)) else Option.none) = _
  rw [List.length_append, Nat.add_sub_cancel, List.take_left]
theorem cut_off {L : T → Nat} {e t : T} (h : ¬ e.isSuffixOf t = true) : cutL L [e] t = Option.none := by
  unfold cutL
  rw [List.find?_cons_of_neg (p := fun x => List.isSuffixOf x t) h]; rfl
theorem suf_x (X x : Nat) (p : T) : ([X] : T).isSuffixOf (p ++ [x]) = decide (x = X) := by
  rw [Bool.eq_iff_iff, decide_eq_true_iff, List.isSuffixOf_iff_suffix]
  exact ⟨fun ⟨q, h⟩ => by have := (List.append_inj' h rfl).2; cases this; rfl, fun h => h ▸ ⟨p, rfl⟩⟩
theorem cut_one {L : T → Nat} (X x : Nat) (p : T) : cutL L [[X]] (p ++ [x]) = if x = X ∧ L [X] ≤ p.length then some p else Option.none := by
  by_cases h : x = X
  · subst h
    rw [cut_s]
    by_cases q : L [x] ≤ p.length
    · rw [if_pos q, if_pos ⟨rfl, q⟩]
    · rw [if_neg q, if_neg fun z => q z.2]
  · rw [cut_off (by rw [suf_x]; exact fun z => h (of_decide_eq_true z)), if_neg fun z => h z.1]
theorem eq_s_b {k : Nat} {t s : T} {c l : Int} {bra ket : Option Int} {bn bv bd : Option Bool} (ht : t.length ≤ 5000) (hs : s.length ≤ 100) (hc : c = t.length) :
    Phi_ (k + 1) 126 [.str s] (M t c l 0 bra ket bn bv bd) = if s.isSuffixOf t = true then some (.bool true, M t (c - s.length) l 0 bra ket bn bv bd) else some (.bool false, M t c l 0 bra ket bn bv bd) := by
  subst hc
  rw [phi_out (n := 2) (np := 2) (b := c126) rfl rfl]
  have e : ev' (Phi_ k) (Psi_ k) (.sm .ends (.slAll (.fld 0 .cur) (.fld 0 .lb) (.fld 0 .cursor)) (.var 1)) [some .me, some (.str s)] (M t t.length l 0 bra ket bn bv bd) = some (.bool (s.isSuffixOf t), M t t.length l 0 bra ket bn bv bd) := by
    have := s_all (s := t) (i := 0) (j := t.length) (Nat.le_trans ht (by decide)) (Nat.le_refl _)
    rw [List.take_length] at this
    rw [e_sm, e_slAll]
    exact congrArg (fun o => k2 _ _ (smV .ends) (.var 1) [some .me, some (.str s)] (rt _ o)) this
  have e2 : ev' (Phi_ k) (Psi_ k) (.bi1 .len (.var 1)) [some .me, some (.str s)] (M t t.length l 0 bra ket bn bv bd) = some (.int s.length, M t t.length l 0 bra ket bn bv bd) := congrArg (rt _) (b_len (Nat.le_trans hs (by decide)))
  show out (evB _ _ _ (.cons (.ite _ (.cons (.augF 0 .cursor .sub (.bi1 .len (.var 1))) _) _) _) ([some .me, some (.str s)], _)) = _
  rw [b_cons, t_ite, e]
  cases s.isSuffixOf t with
  | true =>
    rw [if_pos rfl, sIte_some, if_pos rfl, b_cons, t_augF, e2]
    rfl
  | false => rfl
noncomputable def A10 : List T := D_10.map (·.1)
noncomputable def rtF : Bk := .cons (.ret (.lit (.bool false))) .nil
noncomputable def rtT : Bk := .cons (.ret (.lit (.bool true))) .nil
theorem r_rtF {lp : Lp} {Φ : Phi} {Ψ : Psi} {P : Out → Loc → St → Prop} {b : Bk} {ρ : Loc} {σ : St} (h : P (.ret (.bool false)) ρ σ) : Res (SeqQ lp Φ Ψ b P) (evB lp Φ Ψ rtF (ρ, σ)) := h
noncomputable def blkD (o : Cm) (n : Int) (r : Bk) : Bk := .cons (.ite (.cmp o (.bi1 .len (.fld 0 .cur)) (.lit (.int n))) rtF .nil) (.cons (.xpr (.call0 0 161)) r)
noncomputable def brsD : List (Int × Cm × Int) → Cm × Int → Bk
  | [], z => blkD z.1 z.2 .nil
  | (r, o, n) :: l, z => .cons (.ite (.cmp .eq (.var 1) (.lit (.int r))) (blkD o n .nil) (brsD l z)) .nil
noncomputable def mkSuf (rows : List Row) (r : Int) (o : Cm) (n : Int) (l : List (Int × Cm × Int)) (z : Cm × Int) : Bk := .cons (.setF 0 .ket (.fld 0 .cursor)) (.cons (.asg 1 (.call1 0 140 (.cat (.tab rows)))) (.cons (.ite (.cmp .eq (.var 1) (.lit (.int 0))) rtF .nil) (.cons (.setF 0 .bra (.fld 0 .cursor)) (.cons (.ite (.cmp .eq (.var 1) (.lit (.int r))) (blkD o n .nil) (brsD l z)) rtT))))
noncomputable def mkSuf1 (rows : List Row) (o : Cm) (n : Int) : Bk := .cons (.setF 0 .ket (.fld 0 .cursor)) (.cons (.ite (.cmp .eq (.call1 0 140 (.cat (.tab rows))) (.lit (.int 0))) rtF .nil) (.cons (.setF 0 .bra (.fld 0 .cursor)) (blkD o n rtT)))
noncomputable def noX (X : Nat) (b : Bk) : Bk := .cons (.setF 0 .ket (.fld 0 .cursor)) (.cons (.ite (.or2 (.cmp .le (.fld 0 .cursor) (.fld 0 .lb)) (.cmp .ne (.idx (.fld 0 .cur) (.bin .sub (.fld 0 .cursor) (.lit (.int 1)))) (.lit (.str [X])))) rtF .nil) (.cons (.augF 0 .cursor .sub (.lit (.int 1))) (.cons (.setF 0 .bra (.fld 0 .cursor)) b)))
noncomputable def mkOne (X : Nat) (o : Cm) (n : Int) : Bk := noX X (blkD o n rtT)
noncomputable def lookR : List (Int × Cm × Int) → Cm × Int → Int → Cm × Int
  | [], z, _ => z
  | (r', o, n) :: l, z, r => if r = r' then (o, n) else lookR l z r
noncomputable def thr (x : Cm × Int) : Option Int := match x.1 with
  | .lt => some x.2
  | .le => some (x.2 + 1)
  | _ => Option.none
theorem thr_ev {x : Cm × Int} {t a : Int} (h : thr x = some t) : cmI x.1 a x.2 = decide (a < t) := by
  obtain ⟨o, n⟩ := x
  cases o with
  | lt => cases h; rfl
  | le => cases h; exact decide_eq_decide.mpr Int.lt_add_one_iff.symm
  | _ => cases h
section
variable {k : Nat} {p m t : T} {c l : Int} {bra ket : Option Int} {bn bv bd : Option Bool} {Ψ : Psi} {Φ : Phi} {P : Out → Loc → St → Prop} {ρ : Loc} {b : Bk} {L : Nat}
theorem r_blkD (ht : p.length + m.length ≤ 5000) (hm : 0 < m.length) (h0 : nth ρ 0 = some .me) {x : Cm × Int} (hx : thr x = some ((L + m.length : Nat) : Int)) (hc : c = p.length + m.length)
    (short : ¬ L ≤ p.length → P (.ret (.bool false)) ρ (M (p ++ m) p.length c 0 (some p.length) (some c) bn bv bd))
    (go : L ≤ p.length → Res P (evB loop (Phi_ (k + 3)) Ψ b (ρ, M p p.length p.length 0 (some p.length) (some p.length) bn bv bd))) :
    Res P (evB loop (Phi_ (k + 3)) Ψ (blkD x.1 x.2 b) (ρ, M (p ++ m) p.length c 0 (some p.length) (some c) bn bv bd)) := by
  have e : cmI x.1 ((p ++ m).length : Nat) x.2 = decide (¬ L ≤ p.length) := by
    rw [thr_ev hx, List.length_append]
    exact decide_eq_decide.mpr (Int.ofNat_lt.trans (Nat.add_lt_add_iff_right.trans Nat.not_le.symm))
  exact r_iteP ((ev_short h0 (by rw [List.length_append]; exact ht)).trans (by rw [e])) short fun q => r_do h0 (del_S ht rfl hc hc rfl hm) (go (Classical.not_not.mp q))
theorem r_eq1 {r r' : Int} {A B : Bk} {σ : St} (h1 : nth ρ 1 = some (.int r)) (yes : r = r' → Res (SeqQ loop Φ Ψ b P) (evB loop Φ Ψ A (ρ, σ))) (no : r ≠ r' → Res (SeqQ loop Φ Ψ b P) (evB loop Φ Ψ B (ρ, σ))) :
    Res P (evB loop Φ Ψ (.cons (.ite (.cmp .eq (.var 1) (.lit (.int r'))) A B) b) (ρ, σ)) :=
  r_iteB (ev_c2 (by rw [e_var, h1]; rfl) rfl (c_int _ _ _)) (fun q => yes (of_decide_eq_true q)) fun q => no (of_decide_eq_false q)
theorem r_brsD (ht : p.length + m.length ≤ 5000) (hm : 0 < m.length) (h0 : nth ρ 0 = some .me) {r : Int} (h1 : nth ρ 1 = some (.int r)) (hc : c = p.length + m.length)
    (short : ¬ L ≤ p.length → P (.ret (.bool false)) ρ (M (p ++ m) p.length c 0 (some p.length) (some c) bn bv bd))
    (go : L ≤ p.length → P .next ρ (M p p.length p.length 0 (some p.length) (some p.length) bn bv bd)) :
    ∀ (l : List (Int × Cm × Int)) (z : Cm × Int), thr (lookR l z r) = some ((L + m.length : Nat) : Int) → Res P (evB loop (Phi_ (k + 3)) Ψ (brsD l z) (ρ, M (p ++ m) p.length c 0 (some p.length) (some c) bn bv bd))
  | [], z, h => r_blkD ht hm h0 h hc short go
  | (r', o, n) :: l, z, h => r_eq1 h1 (fun q => r_blkD (x := (o, n)) ht hm h0 ((congrArg thr (if_pos q)).symm.trans h) hc short go) fun q => sqn (r_brsD ht hm h0 h1 hc short go l z ((congrArg thr (if_neg q)).symm.trans h))
noncomputable def SufQ (F : Option T) (t : T) (bn bv bd : Option Bool) (o : Out) (_ : Loc) (σ : St) : Prop := ∃ (c' : Int) (b' k' : Option Int), match F with
  | some t' => o = .ret (.bool true) ∧ σ = M t' t'.length t'.length 0 b' k' bn bv bd
  | Option.none => o = .ret (.bool false) ∧ σ = M t c' t.length 0 b' k' bn bv bd
theorem suf_end {mm n : Nat} {F : T → Option T} {b : Bk} (hl : look mm = some (n, 1, b)) (h : ∀ (k : Nat) (t : T) (bra ket : Option Int) (bn bv bd : Option Bool), t.length ≤ 5000 →
    Res (SufQ (F t) t bn bv bd) (evB loop (Phi_ (k + 3)) (Psi_ (k + 3)) b (some .me :: List.replicate (n - 1) Option.none, M t t.length t.length 0 bra ket bn bv bd))) : SufOk mm F := by
  intro k t c bra ket bn bv bd ht hc
  subst hc
  rw [phi_out hl rfl]
  obtain ⟨o, ρ, σ, q, c', b', k', z⟩ := (h k t bra ket bn bv bd ht).out
  refine ⟨c', b', k', (congrArg out q).trans ?_⟩
  cases hF : F t with
  | some t' => rw [hF] at z; obtain ⟨rfl, rfl⟩ := z; rfl
  | none => rw [hF] at z; obtain ⟨rfl, rfl⟩ := z; rfl
theorem sq_yes {F : Option T} {L : Nat} (h : F = if L ≤ p.length then some p else Option.none) (q : L ≤ p.length) : SufQ F t bn bv bd (.ret (.bool true)) [] (M p p.length p.length 0 bra ket bn bv bd) := by
  rw [h, if_pos q]; exact ⟨0, _, _, rfl, rfl⟩
theorem sq_no {F : Option T} (h : F = Option.none) (hl : l = t.length) : SufQ F t bn bv bd (.ret (.bool false)) [] (M t c l 0 bra ket bn bv bd) := by
  subst h hl; exact ⟨_, _, _, rfl, rfl⟩
end
noncomputable def SufTab (L : T → Nat) (D : List (T × Int)) (ths : Int → Option Int) : Bool := D.all fun e => decide (e.2 ≠ 0) && decide (0 < e.1.length) && decide (ths e.2 = some ((L e.1 + e.1.length : Nat) : Int))
theorem suf_tab {L : T → Nat} {D : List (T × Int)} {ths : Int → Option Int} (h : SufTab L D ths = true) {e : T × Int} (he : e ∈ D) : e.2 ≠ 0 ∧ 0 < e.1.length ∧ ths e.2 = some ((L e.1 + e.1.length : Nat) : Int) := by
  obtain ⟨h1, h2⟩ := Bool.and_eq_true_iff.mp (List.all_eq_true.mp h e he)
  obtain ⟨h1, h3⟩ := Bool.and_eq_true_iff.mp h1
  exact ⟨of_decide_eq_true h1, of_decide_eq_true h3, of_decide_eq_true h2⟩
theorem suf_gen {mm : Nat} {rows : List Row} {D : List (T × Int)} {L : T → Nat} {ends : List T} {r : Int} {o : Cm} {n : Int} {l : List (Int × Cm × Int)} {z : Cm × Int} (hl : look mm = some (2, 1, mkSuf rows r o n l z)) (K : TabOk List.reverse rows D) (hD : D.map (·.1) = ends) (hT : SufTab L D (fun x => thr (lookR ((r, o, n) :: l) z x)) = true) : SufOk mm (cutL L ends) :=
  suf_end hl fun k t bra ket bn bv bd ht => by
    refine r_ket rfl ?_
    cases hp : pick List.reverse D t.reverse with
    | none => exact r_asg (fab_none (k := k + 2) K ht hp) (r_y rfl (r_rtF (sq_no (cut_no hD hp) rfl)))
    | some e =>
      obtain ⟨he, p, rfl⟩ := pick_mem hp
      obtain ⟨h1, h2, h3⟩ := suf_tab hT he
      have hq : (((p ++ e.1).length : Nat) : Int) = p.length + e.1.length := by rw [List.length_append]; rfl
      have ht' := ht
      rw [List.length_append] at ht'
      refine r_asg (fab_some (k := k + 2) (r := e.2) K ht hp) (r_eq1 rfl (fun q => absurd q h1) fun _ => r_bra rfl ?_)
      rw [lenI]
      refine r_seqN (b := rtT) ?_
      exact r_brsD (P := SeqQ _ _ _ rtT (SufQ _ _ bn bv bd)) (L := L e.1) ht' h2 rfl rfl hq (fun q => sq_no ((cut_at hD hp).trans (if_neg q)) rfl) (fun q => sq_yes (cut_at hD hp) q) ((r, o, n) :: l) z h3
theorem suf_gen1 {mm : Nat} {rows : List Row} {D : List (T × Int)} {L : T → Nat} {ends : List T} {o : Cm} {n : Int} (hl : look mm = some (1, 1, mkSuf1 rows o n)) (K : TabOk List.reverse rows D) (hD : D.map (·.1) = ends) (hT : SufTab L D (fun _ => thr (o, n)) = true) : SufOk mm (cutL L ends) :=
  suf_end hl fun k t bra ket bn bv bd ht => by
    refine r_ket rfl ?_
    cases hp : pick List.reverse D t.reverse with
    | none => exact r_y (ev_c2 (fab_none (k := k + 2) K ht hp) rfl rfl) (r_rtF (sq_no (cut_no hD hp) rfl))
    | some e =>
      obtain ⟨he, p, rfl⟩ := pick_mem hp
      obtain ⟨h1, h2, h3⟩ := suf_tab hT he
      have hq : (((p ++ e.1).length : Nat) : Int) = p.length + e.1.length := by rw [List.length_append]; rfl
      have ht' := ht
      rw [List.length_append] at ht'
      refine r_iteP (ev_c2 (fab_some (k := k + 2) (r := e.2) K ht hp) rfl rfl) (fun q => absurd q h1) fun _ => r_bra rfl ?_
      rw [lenI]
      exact r_blkD (x := (o, n)) (L := L e.1) ht' h2 rfl h3 hq (fun q => sq_no ((cut_at hD hp).trans (if_neg q)) rfl) (fun q => sq_yes (cut_at hD hp) q)
theorem idx_last (p : T) (x : Nat) (ht : (p ++ [x]).length ≤ 5000) : idxV (.str (p ++ [x])) (.int ((p ++ [x]).length - 1)) = some (.str [x]) := by
  rw [List.length_append] at ht
  rw [show (((p ++ [x]).length : Nat) : Int) = p.length + 1 by rw [List.length_append]; rfl, Int.add_sub_cancel, x_str ⟨Int.natCast_nonneg _, Int.ofNat_lt.mpr (Nat.lt_of_succ_le (Nat.le_trans ht (by decide)))⟩, Int.toNat_natCast, List.getElem?_concat_length]
  rfl
theorem r_noX {k : Nat} {X : Nat} {t : T} {b : Bk} {bra ket : Option Int} {bn bv bd : Option Bool} {P : Out → Loc → St → Prop} {ρ : Loc} (ht : t.length ≤ 5000) (h0 : nth ρ 0 = some .me)
    (no : ¬ ([X] : T).isSuffixOf t = true → P (.ret (.bool false)) ρ (M t t.length t.length 0 bra (some t.length) bn bv bd))
    (yes : ∀ p, t = p ++ [X] → p.length + 1 ≤ 5000 → Res P (evB loop (Phi_ k) (Psi_ k) b (ρ, M (p ++ [X]) p.length (p.length + 1) 0 (some p.length) (some (p.length + 1)) bn bv bd))) :
    Res P (evB loop (Phi_ k) (Psi_ k) (noX X b) (ρ, M t t.length t.length 0 bra ket bn bv bd)) := by
  refine r_ket h0 ?_
  rcases List.eq_nil_or_concat t with rfl | ⟨p, x, rfl⟩
  · refine r_y (σ' := M [] ((([] : T).length : Nat) : Int) ((([] : T).length : Nat) : Int) 0 bra (some ((([] : T).length : Nat) : Int)) bn bv bd) ?_ (no (fun h : false = true => nomatch h))
    exact ev_or_t (ev_c2 (ev_f h0 _) (ev_f h0 _) rfl)
  · rw [List.concat_eq_append] at ht no yes ⊢
    have hn : (((p ++ [x]).length : Nat) : Int) = p.length + 1 := by rw [List.length_append]; rfl
    have e0 := idx_last p x ht
    rw [List.length_append] at ht
    have e1 : cmV .le (.int (p ++ [x]).length) (.int 0) = some (.bool false) := congrArg (fun b => some (V.bool b)) (decide_eq_false (by rw [hn]; exact Int.not_le.mpr (Int.ofNat_lt.mpr (Nat.succ_pos _))))
    have e3 : ev' (Phi_ k) (Psi_ k) (.or2 (.cmp .le (.fld 0 .cursor) (.fld 0 .lb)) (.cmp .ne (.idx (.fld 0 .cur) (.bin .sub (.fld 0 .cursor) (.lit (.int 1)))) (.lit (.str [X])))) ρ (M (p ++ [x]) (p ++ [x]).length (p ++ [x]).length 0 bra (some (p ++ [x]).length) bn bv bd) = some (.bool (!decide (([x] : T) = [X])), M (p ++ [x]) (p ++ [x]).length (p ++ [x]).length 0 bra (some (p ++ [x]).length) bn bv bd) :=
      ev_or_f (ev_c2 (ev_f h0 _) (ev_f h0 _) e1) (ev_c2 (ev_x2 (ev_f h0 _) (ev_b2 (ev_f h0 _) rfl rfl) e0) rfl rfl)
    by_cases h : x = X
    · subst h
      rw [decide_eq_true rfl] at e3
      refine r_n e3 (r_s (σ' := M (p ++ [x]) ((p ++ [x]).length - 1) (p ++ [x]).length 0 bra (some (p ++ [x]).length) bn bv bd) (by rw [t_augF, h0]; rfl) (r_bra h0 ?_))
      rw [hn, Int.add_sub_cancel]
      exact yes p rfl ht
    · rw [decide_eq_false fun q => h (List.cons.inj q).1] at e3
      exact r_y e3 (no (by rw [suf_x]; exact fun z => h (of_decide_eq_true z)))
theorem suf_one {mm : Nat} {L : T → Nat} {X : Nat} {o : Cm} {n : Int} (hl : look mm = some (1, 1, mkOne X o n)) (hT : thr (o, n) = some ((L [X] + 1 : Nat) : Int)) : SufOk mm (cutL L [[X]]) :=
  suf_end hl fun k t bra ket bn bv bd ht => r_noX ht rfl (fun q => sq_no (cut_off q) rfl) fun p e hp => by
    subst e
    have hn : ((p.length : Int) + 1) = ((p ++ [X]).length : Nat) := by rw [List.length_append]; rfl
    exact r_blkD (x := (o, n)) (m := [X]) (L := L [X]) hp (Nat.zero_lt_one) rfl hT rfl (fun q => sq_no ((cut_s _ _).trans (if_neg q)) hn) (fun q => sq_yes (cut_s _ _) q)
theorem m_350 : SufOk 350 (cutL lim g_law_owners) := suf_gen (r := 1) (o := .lt) (n := 4) (l := [(2, .lt, 5)]) (z := (.lt, 6)) rfl tab_12 rfl (by decide +kernel)
theorem m_357 : SufOk 357 (cutL lim g_law_persons) := suf_gen (r := 1) (o := .lt) (n := 4) (l := [(2, .lt, 5), (3, .le, 5)]) (z := (.lt, 6)) rfl tab_13 rfl (by decide +kernel)
theorem m_364 : SufOk 364 (cutL lim [[1608, 1575], [1578, 1605]]) := suf_gen1 (o := .lt) (n := 5) rfl tab_14 rfl (by decide +kernel)
theorem m_371 : SufOk 371 (cutL lim [[1578, 1605, 1608], [1608]]) := suf_gen (r := 1) (o := .lt) (n := 4) (l := []) (z := (.lt, 6)) rfl tab_15 rfl (by decide +kernel)
theorem m_301 : SufOk 301 (cutL lim A10) := suf_gen (r := 1) (o := .lt) (n := 4) (l := [(2, .lt, 5)]) (z := (.lt, 6)) rfl tab_10 rfl (by decide +kernel)
theorem m_315 : SufOk 315 (cutL (fun _ => 4) [[1575], [1608], [1610]]) := suf_gen1 (o := .le) (n := 4) rfl tab_11 rfl (by decide +kernel)
theorem m_329 : SufOk 329 (cutL lim [[1578]]) := suf_one (o := .lt) (n := 4) rfl (by decide +kernel)
theorem m_336 : SufOk 336 (cutL lim [[1577]]) := suf_one (o := .lt) (n := 4) rfl (by decide +kernel)
theorem m_308 : SufOk 308 (cutL (fun _ => 5) [[1606]]) := suf_one (o := .le) (n := 5) rfl (by decide +kernel)
theorem m_343 : SufOk 343 (cutL (fun _ => 2) [[1610]]) := suf_one (o := .lt) (n := 3) rfl (by decide +kernel)
theorem m_322 : SufOk 322 (cutL lim [[1575, 1578]]) := suf_end (b := c322) rfl fun k t bra ket bn bv bd ht => by
  refine r_ket rfl ?_
  have z := eq_s_b (k := k + 2) (s := [1575, 1578]) (l := t.length) (bra := bra) (ket := some t.length) (bn := bn) (bv := bv) (bd := bd) ht (by decide) rfl
  by_cases h : ([1575, 1578] : T).isSuffixOf t = true
  · obtain ⟨p, rfl⟩ := List.isSuffixOf_iff_suffix.mp h
    rw [if_pos h, lenI] at z
    have hq : (((p ++ [1575, 1578]).length : Nat) : Int) = p.length + 2 := by rw [List.length_append]; rfl
    rw [List.length_append] at ht
    exact r_nT z (r_bra rfl (r_blkD (x := (.lt, 5)) (m := [1575, 1578]) (L := 3) ht (by decide) rfl rfl hq (fun q => sq_no ((cut_s _ _).trans (if_neg q)) rfl) (fun q => sq_yes (cut_s _ _) q)))
  · rw [if_neg h] at z
    exact r_nF z (r_rtF (sq_no (cut_off h) rfl))
noncomputable def maq (t : T) : Option T := if ([1609] : T).isSuffixOf t = true then some (t.take (t.length - 1) ++ [1610]) else Option.none
theorem m_378 (k : Nat) (t : T) (c : Int) (bra ket : Option Int) (bn bv bd : Option Bool) (ht : t.length ≤ 5000) (hc : c = t.length) :
  ∃ (c' : Int) (b' k' : Option Int), Phi_ (k + 4) 378 [] (M t c c 0 bra ket bn bv bd) = match maq t with
    | some t' => some (.bool true, M t' c' t'.length 0 b' k' bn bv bd)
    | Option.none => some (.bool false, M t c' c 0 b' k' bn bv bd) := by
  subst hc
  rw [phi_out (n := 1) (np := 1) (b := c378) rfl rfl]
  have A : Res (fun o ρ σ => ∃ (c' : Int) (b' k' : Option Int), out (some (o, (ρ, σ))) = match maq t with
    | some t' => some (.bool true, M t' c' t'.length 0 b' k' bn bv bd)
    | Option.none => some (.bool false, M t c' t.length 0 b' k' bn bv bd)) (evB loop (Phi_ (k + 3)) (Psi_ (k + 3)) c378 ([some .me], M t t.length t.length 0 bra ket bn bv bd)) := by
    refine r_noX ht rfl (fun q => ⟨_, _, _, by unfold maq; rw [if_neg q]; rfl⟩) fun p e hp => ?_
    subst e
    have z := slice_B (k := k + 1) (p := p) (m := [1609]) (q := []) (s := [1610]) (b := p.length) (e := p.length + 1) (c := p.length) (l := p.length + 1) (lb := 0) (bn := bn) (bv := bv) (bd := bd) hp (by decide) rfl rfl rfl rfl (by decide)
    refine r_do1 rfl z (r_ret rfl ⟨p.length, some p.length, some (p.length + (([1610] : T).length : Nat)), ?_⟩)
    unfold maq
    rw [if_pos (List.isSuffixOf_iff_suffix.mpr ⟨p, rfl⟩), List.take_left' (l₁ := p) (by rw [List.length_append]; rfl), List.append_nil]
    show some (_, M _ _ (_ + _ + _) _ _ _ _ _ _) = some (_, M _ _ ((p ++ [1610]).length : Nat) _ _ _ _ _ _)
    rw [List.length_append]
    rfl
  obtain ⟨o, ρ, σ, q, h⟩ := A.out
  rw [← q] at h
  exact h
theorem cut_mem {L : T → Nat} {ends : List T} {t x : T} (h : cutL L ends t = some x) : ∃ e, e ∈ ends ∧ t = x ++ e ∧ L e ≤ x.length := by
  unfold cutL at h
  obtain ⟨e, he, h⟩ := Option.bind_eq_some_iff.mp h
  have h2 := List.find?_some he
  obtain ⟨p, rfl⟩ := List.isSuffixOf_iff_suffix.mp h2
  split at h
  · rename_i q
    rw [List.length_append, Nat.add_sub_cancel] at q h
    cases h
    rw [List.take_left]
    exact ⟨e, List.mem_of_find?_eq_some he, rfl, q⟩
  · cases h
section
variable {L : T → Nat} {l : List T} {t B : T} {n : Nat} (ht : t.length ≤ n)
theorem cut_le {x : T} (h : cutL L l t = some x) : x.length ≤ t.length := by
  obtain ⟨e, _, rfl, _⟩ := cut_mem h
  rw [List.length_append]; exact Nat.le_add_right _ _
include ht
theorem or_le (hB : B.length ≤ n) : (match cutL L l t with | some x => x | Option.none => B).length ≤ n := by
  cases h : cutL L l t with
  | none => exact hB
  | some x => exact Nat.le_trans (cut_le h) ht
theorem getD_le : ((cutL L l t).getD t).length ≤ n := by
  cases h : cutL L l t with
  | none => exact ht
  | some x => exact Nat.le_trans (cut_le h) ht
end
theorem fa_some {k : Nat} {rows : List Row} {D : List (T × Int)} {p m q : T} {r l lb : Int} {bra ket : Option Int} {bn bv bd : Option Bool} (K : TabOk id rows D) (ht : p.length + m.length + q.length ≤ 5000) (hp : pick id D (m ++ q) = some (m, r)) (hl : l = p.length + m.length + q.length) :
    Phi_ (k + 1) 133 [.tab rows] (M (p ++ (m ++ q)) p.length l lb bra ket bn bv bd) = some (.int r, M (p ++ (m ++ q)) (p.length + m.length) l lb bra ket bn bv bd) := by
  rw [find_among K (len3 ▸ ht) p.length rfl (len3 ▸ Nat.le_trans (Nat.le_add_right _ _) (Nat.le_add_right _ _)) (by rw [hl, len3]; rfl), List.drop_left, told, hp]
theorem fa_none {k : Nat} {rows : List Row} {D : List (T × Int)} {p a : T} {l lb : Int} {bra ket : Option Int} {bn bv bd : Option Bool} (K : TabOk id rows D) (ht : p.length + a.length ≤ 5000) (hp : pick id D a = Option.none) (hl : l = p.length + a.length) :
    Phi_ (k + 1) 133 [.tab rows] (M (p ++ a) p.length l lb bra ket bn bv bd) = some (.int 0, M (p ++ a) p.length l lb bra ket bn bv bd) := by
  rw [find_among K (List.length_append ▸ ht) p.length rfl (List.length_append ▸ Nat.le_add_right _ _) (by rw [hl, List.length_append]; rfl), List.drop_left, told, hp]
theorem pick_memF {D : List (T × Int)} {a : T} {e : T × Int} (h : pick id D a = some e) : e ∈ D ∧ ∃ q, a = e.1 ++ q := by
  refine ⟨List.mem_of_find?_eq_some h, ?_⟩
  have hh := List.find?_some h
  obtain ⟨q, hq⟩ := List.isPrefixOf_iff_prefix.mp hh
  exact ⟨q, hq.symm⟩
noncomputable def nIn (v3 am : Nat) (rows : List Row) (menu : List T) : Bk := (.cons (.asg v3 (.fld 0 .cursor)) (.cons (.try_ (.cons (.setF 0 .bra (.fld 0 .cursor)) (.cons (.asg am (.call1 0 133 (.cat (.tab rows)))) (.cons (.ite (.cmp .eq (.var am) (.lit (.int 0))) (.cons (.raise 1104) .nil) .nil) (.cons (.setF 0 .ket (.fld 0 .cursor)) (.cons (.xpr (.call1 0 154 (.idx (.cat (.menu menu)) (.bin .sub (.var am) (.lit (.int 1)))))) (.cons (.brk) .nil)))))) 1104) (.cons (.setF 0 .cursor (.var v3)) (.cons (.ite (.cmp .ge (.fld 0 .cursor) (.fld 0 .limit)) (.cons (.raise 1091) .nil) .nil) (.cons (.augF 0 .cursor .add (.lit (.int 1))) (.cons (.brk) .nil))))))
noncomputable def nOut (v2 v3 am : Nat) (rows : List Row) (menu : List T) : Bk := (.cons (.asg v2 (.fld 0 .cursor)) (.cons (.try_ (.cons (.whl (nIn v3 am rows menu)) (.cons (.cont) .nil)) 1091) (.cons (.setF 0 .cursor (.var v2)) (.cons (.brk) .nil))))
theorem c238_eq : c238 = (.cons (.asg 1 (.fld 0 .cursor)) (.cons (.try_ (.cons (.whl (nOut 2 3 4 ta_0 tas_0)) .nil) 1078) (.cons (.setF 0 .cursor (.var 1)) (.cons (.ret (.lit (.bool true))) .nil)))) := rfl
structure Ones (rows : List Row) (menu : List T) (D : List (T × Int)) : Prop where
  ok : TabOk id rows D
  one : D.all (fun e => e.1.length == 1) = true
  res : D.all (fun e => decide (0 < e.2) && decide (e.2 ≤ 100) && (match menu[(e.2 - 1).toNat]? with | some s => decide (s.length ≤ 2) | Option.none => false)) = true
noncomputable def hit (D : List (T × Int)) (x : Nat) : Option (T × Int) := D.find? fun e => e.1 == [x]
noncomputable def put (menu : List T) (D : List (T × Int)) (x : Nat) : T := match hit D x with
  | some e => (menu[(e.2 - 1).toNat]?).getD []
  | Option.none => [x]
theorem pick_hit (x : Nat) (a : T) : ∀ {D : List (T × Int)}, D.all (fun e => e.1.length == 1) = true → pick id D (x :: a) = hit D x
  | [], _ => rfl
  | e :: D, h => by
    obtain ⟨h1, h2⟩ := Bool.and_eq_true_iff.mp h
    have ih := pick_hit x a h2
    unfold pick hit at ih ⊢
    rw [List.find?_cons, List.find?_cons, ih]
    obtain ⟨y, hy⟩ := List.length_eq_one_iff.mp (eq_of_beq h1)
    have : (id e.1 : T).isPrefixOf (x :: a) = (e.1 == [x]) := by rw [hy]; rfl
    rw [this]
theorem pick_nil {D : List (T × Int)} (h : D.all (fun e => e.1.length == 1) = true) : pick id D [] = Option.none := by
  refine List.find?_eq_none.mpr fun e he pe => ?_
  obtain ⟨y, hy⟩ := List.length_eq_one_iff.mp (eq_of_beq (List.all_eq_true.mp h e he))
  rw [show id e.1 = [y] from hy] at pe
  cases pe
theorem put_at {rows : List Row} {menu : List T} {D : List (T × Int)} (O : Ones rows menu D) {x : Nat} {e : T × Int} (h : hit D x = some e) : e.1 = [x] ∧ (0 ≤ e.2 - 1 ∧ e.2 - 1 < 1000000) ∧ e.2 ≠ 0 ∧ menu[(e.2 - 1).toNat]? = some (put menu D x) ∧ (put menu D x).length ≤ 2 := by
  obtain ⟨h1, h2⟩ := Bool.and_eq_true_iff.mp (List.all_eq_true.mp O.res e (List.mem_of_find?_eq_some h))
  obtain ⟨h1, h3⟩ := Bool.and_eq_true_iff.mp h1
  have h1 := of_decide_eq_true h1
  have e1 : put menu D x = (menu[(e.2 - 1).toNat]?).getD [] := by unfold put; rw [h]
  refine ⟨eq_of_beq (a := e.1) (b := [x]) (List.find?_some (p := fun e : T × Int => e.1 == [x]) h), ⟨Int.sub_nonneg.mpr h1, Int.lt_of_le_of_lt (Int.sub_le_self _ (by decide)) (Int.lt_of_le_of_lt (of_decide_eq_true h3) (by decide))⟩, Int.ne_of_gt h1, ?_⟩
  rw [e1]
  cases h4 : menu[(e.2 - 1).toNat]? with
  | none => rw [h4] at h2; cases h2
  | some s => rw [h4] at h2; exact ⟨rfl, of_decide_eq_true h2⟩
structure Slots (R : Option V → Option V → Option V → Loc) (v2 v3 am : Nat) : Prop where
  h0 : ∀ a b c, nth (R a b c) 0 = some .me
  s2 : ∀ a b c v, setV (R a b c) v2 v = R (some v) b c
  s3 : ∀ a b c v, setV (R a b c) v3 v = R a (some v) c
  sa : ∀ a b c v, setV (R a b c) am v = R a b (some v)
  g2 : ∀ a b c, nth (R a b c) v2 = a
  g3 : ∀ a b c, nth (R a b c) v3 = b
  ga : ∀ a b c, nth (R a b c) am = c
section
variable {rows : List Row} {menu : List T} {D : List (T × Int)} (O : Ones rows menu D) {R : Option V → Option V → Option V → Loc} {v2 v3 am k : Nat} (S : Slots R v2 v3 am) {P : Out → Loc → St → Prop} {dn rest : T} {l lb : Int} {a b c : Option V} {bra ket : Option Int} {bn bv bd : Option Bool}
include S
theorem n_miss {t : T} {c0 : Int} (z : Phi_ (k + 2) 133 [.tab rows] (M t c0 l lb (some c0) ket bn bv bd) = some (.int 0, M t c0 l lb (some c0) ket bn bv bd))
    (more : c0 < l → P .cont (R (some (.int c0)) (some (.int c0)) (some (.int 0))) (M t (c0 + 1) l lb (some c0) ket bn bv bd)) (done : l ≤ c0 → P .brk (R (some (.int c0)) (some (.int c0)) (some (.int 0))) (M t c0 l lb (some c0) ket bn bv bd)) :
    Res P (evB loop (Phi_ (k + 2)) (Psi_ (k + 2)) (nOut v2 v3 am rows menu) (R a b c, M t c0 l lb bra ket bn bv bd)) := by
  refine r_asg (v := .int c0) (ev_f (S.h0 ..) .cursor) ?_
  rw [S.s2]
  refine r_try (r_loop (r_asg (v := .int c0) (ev_f (S.h0 ..) .cursor) ?_))
  rw [S.s3]
  refine r_try (r_bra (S.h0 ..) (r_asg ((ev_call1 (S.h0 ..)).trans z) ?_))
  rw [S.sa]
  refine r_y (ev_c2 (ev_v (S.ga ..)) rfl rfl) (r_raise (tryQ_exc (r_cur (S.h0 ..) (ev_v (S.g3 ..)) ?_)))
  refine r_iteP (ev_c2 (x := .int c0) (y := .int l) (ev_f (S.h0 ..) .cursor) (ev_f (S.h0 ..) .limit) (c_int _ _ _)) (fun h => r_raise (tryQ_exc (r_cur (S.h0 ..) (ev_v (S.g2 ..)) (r_brk (done h))))) fun h => ?_
  exact r_s (ρ' := R (some (.int c0)) (some (.int c0)) (some (.int 0))) (σ' := M t (c0 + 1) l lb (some c0) ket bn bv bd) (by rw [t_augF, S.h0]; rfl) (r_brk (more (Int.not_le.mp h)))
include O
theorem n_hit {x : Nat} {e : T × Int} (he : hit D x = some e) (hl : l = dn.length + ((x :: rest).length : Nat)) (hn : dn.length + (x :: rest).length ≤ 5000)
    (yes : P .cont (R (some (.int dn.length)) (some (.int dn.length)) (some (.int e.2))) (M (dn ++ (put menu D x ++ rest)) (dn.length + (put menu D x).length) (dn.length + (put menu D x).length + rest.length) lb (some dn.length) (some (dn.length + (put menu D x).length)) bn bv bd)) :
    Res P (evB loop (Phi_ (k + 2)) (Psi_ (k + 2)) (nOut v2 v3 am rows menu) (R a b c, M (dn ++ (x :: rest)) dn.length l lb bra ket bn bv bd)) := by
  obtain ⟨h1, h2, h3, h4, h5⟩ := put_at O he
  obtain ⟨e1, r⟩ := e
  obtain rfl : e1 = [x] := h1
  have hn' : dn.length + ([x] : T).length + rest.length ≤ 5000 := by rw [Nat.add_assoc, Nat.add_comm ([x] : T).length]; exact hn
  have hl' : l = dn.length + (([x] : T).length : Nat) + rest.length := by rw [hl, List.length_cons, Int.natCast_add, Int.add_comm (rest.length : Int), ← Int.add_assoc]; rfl
  refine r_asg (v := .int dn.length) (ev_f (S.h0 ..) .cursor) ?_
  rw [S.s2]
  refine r_try (r_loop (r_asg (v := .int dn.length) (ev_f (S.h0 ..) .cursor) ?_))
  rw [S.s3]
  refine r_try (r_bra (S.h0 ..) (r_asg ((ev_call1 (S.h0 ..)).trans (fa_some (k := k + 1) (m := [x]) (r := r) O.ok hn' ((pick_hit x rest O.one).trans he) hl')) ?_))
  rw [S.sa]
  refine r_n (ev_c2 (ev_v (S.ga ..)) rfl (congrArg (fun b => some (V.bool b)) (decide_eq_false h3))) (r_ket (S.h0 ..) ?_)
  refine r_do1e (S.h0 ..) (ev_x2 (x := .menu menu) rfl (ev_b2 (ev_v (S.ga ..)) rfl rfl) ((x_menu h2).trans (by rw [h4]; rfl))) (slice_A (k := k) hn' (Nat.le_trans h5 (by decide)) rfl rfl hl' rfl) ?_
  exact r_brk yes
theorem n_loop : ∀ (rest dn : T) (l : Int) (a b c : Option V) (bra ket : Option Int), l = dn.length + rest.length → dn.length + 2 * rest.length ≤ 5000 →
    (∀ a b c bra ket, P .next (R a b c) (M (dn ++ rest.flatMap (put menu D)) (dn ++ rest.flatMap (put menu D)).length (dn ++ rest.flatMap (put menu D)).length lb bra ket bn bv bd)) →
    Res P (loop (turn loop (Phi_ (k + 2)) (Psi_ (k + 2)) (nOut v2 v3 am rows menu)) (R a b c, M (dn ++ rest) dn.length l lb bra ket bn bv bd))
  | [], dn, l, a, b, c, bra, ket, hl, hn, h => r_lp (n_miss S (fa_none (k := k + 1) O.ok (Nat.le_trans (Nat.add_le_add_left (Nat.zero_le _) _) hn) (pick_nil O.one) hl) (fun q => absurd q (Int.not_lt.mpr (by rw [hl]; exact Int.le_of_eq (Int.add_zero _)))) fun _ => by
      have := h (some (.int dn.length)) (some (.int dn.length)) (some (.int 0)) (some dn.length) ket
      rw [List.flatMap_nil, List.append_nil] at this
      rw [List.append_nil, hl, show (([] : T).length : Int) = 0 from rfl, Int.add_zero]
      exact this)
  | x :: rest, dn, l, a, b, c, bra, ket, hl, hn, h => by
    rw [List.length_cons, Nat.mul_add] at hn
    have hn2 : dn.length + (x :: rest).length ≤ 5000 := Nat.le_trans (Nat.add_le_add_left (by rw [List.length_cons, Nat.two_mul, Nat.two_mul]; exact Nat.add_le_add (Nat.le_add_left _ _) (by decide)) _) hn
    have keep : ∀ s : T, s.length ≤ 2 → put menu D x = s → ∀ (a b c : Option V) (bra ket : Option Int), Res P (loop (turn loop (Phi_ (k + 2)) (Psi_ (k + 2)) (nOut v2 v3 am rows menu)) (R a b c, M (dn ++ (s ++ rest)) (dn.length + s.length) (dn.length + s.length + rest.length) lb bra ket bn bv bd)) := by
      intro s hs e a b c bra ket
      have := n_loop rest (dn ++ s) (dn.length + s.length + rest.length) a b c bra ket (by rw [List.length_append]; rfl) (by rw [List.length_append, Nat.add_assoc]; exact Nat.le_trans (Nat.add_le_add_left (by rw [Nat.add_comm]; exact Nat.add_le_add_left hs _) _) hn) (by rw [List.append_assoc, ← e, ← List.flatMap_cons]; exact h)
      rw [List.append_assoc, List.length_append] at this
      exact this
    refine r_lp ?_
    cases he : hit D x with
    | some e => exact n_hit O S he hl hn2 (keep _ (put_at O he).2.2.2.2 rfl _ _ _ _ _)
    | none =>
      refine n_miss S (fa_none (k := k + 1) O.ok hn2 ((pick_hit x rest O.one).trans he) hl) (fun _ => ?_) fun q => absurd q (Int.not_le.mpr (by rw [hl]; exact Int.lt_add_of_pos_right _ (Int.ofNat_lt.mpr (Nat.succ_pos _))))
      have := keep [x] (by decide : 1 ≤ 2) (by unfold put; rw [he]) (some (.int dn.length)) (some (.int dn.length)) (some (.int 0)) (some dn.length) ket
      rw [hl, List.length_cons, Int.natCast_add, Int.add_comm (rest.length : Int), ← Int.add_assoc]
      exact this
end
theorem ones_0 : Ones ta_0 tas_0 D_0 := ⟨tab_0, by decide +kernel, by decide +kernel⟩
theorem ones_2 : Ones ta_2 tas_2 D_2 := ⟨tab_2, by decide +kernel, by decide +kernel⟩
noncomputable def pre (t : T) : T := t.flatMap (put tas_0 D_0)
theorem m_238 {k : Nat} {t : T} {c l lb : Int} {bra ket : Option Int} {bn bv bd : Option Bool} (hc : c = 0) (hl : l = t.length) (hn : 2 * t.length ≤ 5000) :
    ∃ bra' ket', Phi_ (k + 3) 238 [] (M t c l lb bra ket bn bv bd) = some (.bool true, M (pre t) 0 (pre t).length lb bra' ket' bn bv bd) := by
  subst hc
  refine phi_res (n := 5) (np := 1) (b := c238) (Q := fun r => ∃ bra' ket', r = some (.bool true, M (pre t) 0 (pre t).length lb bra' ket' bn bv bd)) rfl rfl ?_
  rw [c238_eq]
  refine r_asg (v := .int 0) rfl (r_try (r_whl ?_))
  refine n_loop ones_0 (R := fun a b c => [some .me, some (.int 0), a, b, c]) (dn := []) ⟨fun _ _ _ => rfl, fun _ _ _ _ => rfl, fun _ _ _ _ => rfl, fun _ _ _ _ => rfl, fun _ _ _ => rfl, fun _ _ _ => rfl, fun _ _ _ => rfl⟩ t l _ _ _ _ _ (by rw [hl]; exact (Int.zero_add _).symm) (by rw [List.length_nil, Nat.zero_add]; exact hn) fun a b c bra ket => ?_
  exact sq (r_nil (tn (r_cur rfl (ev_v rfl) (r_ret rfl ⟨bra, ket, rfl⟩))))
theorem c245_eq : c245 = (.cons (.asg 1 (.fld 0 .cursor)) (.cons (.try_ (.cons (.setF 0 .lb (.fld 0 .cursor)) (.cons (.setF 0 .cursor (.fld 0 .limit)) (.cons (.setF 0 .ket (.fld 0 .cursor)) (.cons (.ite (.cmp .eq (.call1 0 140 (.cat (.tab ta_1))) (.lit (.int 0))) (.cons (.raise 1078) .nil) .nil) (.cons (.setF 0 .bra (.fld 0 .cursor)) (.cons (.xpr (.call1 0 154 (.lit (.str [1569])))) (.cons (.setF 0 .cursor (.fld 0 .lb)) .nil))))))) 1078) (.cons (.setF 0 .cursor (.var 1)) (.cons (.asg 2 (.fld 0 .cursor)) (.cons (.try_ (.cons (.whl (nOut 3 4 5 ta_2 tas_2)) .nil) 1078) (.cons (.setF 0 .cursor (.var 2)) (.cons (.ret (.lit (.bool true))) .nil))))))) := rfl
noncomputable def post1 (t : T) : T := match pick List.reverse D_1 t.reverse with
  | some _ => t.dropLast ++ [1569]
  | Option.none => t
noncomputable def post (t : T) : T := (post1 t).flatMap (put tas_2 D_2)
theorem m_245 {k : Nat} {t : T} {c l lb : Int} {bra ket : Option Int} {bn bv bd : Option Bool} (hc : c = 0) (hl : l = t.length) (hn : 2 * t.length ≤ 4000) :
    ∃ l' lb' bra' ket', Phi_ (k + 3) 245 [] (M t c l lb bra ket bn bv bd) = some (.bool true, M (post t) 0 l' lb' bra' ket' bn bv bd) := by
  subst hc hl
  have ht : t.length ≤ 5000 := Nat.le_trans (Nat.le_trans (Nat.le_mul_of_pos_left _ (by decide)) hn) (by decide)
  refine phi_res (n := 6) (np := 1) (b := c245) (Q := fun r => ∃ l' lb' bra' ket', r = some (.bool true, M (post t) 0 l' lb' bra' ket' bn bv bd)) rfl rfl ?_
  rw [c245_eq]
  have fin : ∀ (c : Int) (bra ket : Option Int), (post1 t).length ≤ t.length → Res (fun o ρ σ => ∃ l' lb' bra' ket', out (some (o, (ρ, σ))) = some (.bool true, M (post t) 0 l' lb' bra' ket' bn bv bd))
      (evB loop (Phi_ (k + 2)) (Psi_ (k + 2)) (.cons (.setF 0 .cursor (.var 1)) (.cons (.asg 2 (.fld 0 .cursor)) (.cons (.try_ (.cons (.whl (nOut 3 4 5 ta_2 tas_2)) .nil) 1078) (.cons (.setF 0 .cursor (.var 2)) (.cons (.ret (.lit (.bool true))) .nil)))))
        ([some .me, some (.int 0), Option.none, Option.none, Option.none, Option.none], M (post1 t) c (post1 t).length 0 bra ket bn bv bd)) := fun c bra ket h => by
    refine r_cur rfl (ev_v rfl) (r_asg (v := .int 0) rfl (r_try (r_whl ?_)))
    refine n_loop ones_2 (R := fun a b c => [some .me, some (.int 0), some (.int 0), a, b, c]) (dn := []) ⟨fun _ _ _ => rfl, fun _ _ _ _ => rfl, fun _ _ _ _ => rfl, fun _ _ _ _ => rfl, fun _ _ _ => rfl, fun _ _ _ => rfl, fun _ _ _ => rfl⟩ (post1 t) _ _ _ _ _ _ (Int.zero_add _).symm (by rw [List.length_nil, Nat.zero_add]; exact Nat.le_trans (Nat.mul_le_mul_left 2 h) (Nat.le_trans hn (by decide))) fun a b c bra ket => ?_
    exact sq (r_nil (tn (r_cur rfl (ev_v rfl) (r_ret rfl ⟨_, 0, bra, ket, rfl⟩))))
  refine r_asg (v := .int 0) rfl (r_try (r_s (σ' := M t 0 t.length 0 bra ket bn bv bd) rfl (r_s (σ' := M t t.length t.length 0 bra ket bn bv bd) rfl (r_ket rfl ?_))))
  cases hp : pick List.reverse D_1 t.reverse with
  | none =>
    have e : post1 t = t := by unfold post1; rw [hp]
    refine r_y (ev_c2 (fab_none (k := k + 1) tab_1 ht hp) rfl rfl) (r_raise (tryQ_exc ?_))
    rw [e] at fin
    exact fin _ _ _ (Nat.le_refl _)
  | some e =>
    obtain ⟨he, p, rfl⟩ := pick_mem hp
    obtain ⟨x, hx⟩ := List.length_eq_one_iff.mp ((by decide : ∀ e ∈ D_1, e.1.length = 1) e he)
    have e2 : post1 (p ++ e.1) = p ++ [1569] := by
      unfold post1; rw [hp, hx]
      exact congrArg (· ++ [1569]) List.dropLast_concat
    rw [e2, hx] at fin
    refine r_n (ev_c2 (fab_some (k := k + 1) (r := e.2) tab_1 ht hp) rfl (congrArg (fun b => some (V.bool b)) (decide_eq_false ((by decide : ∀ e ∈ D_1, e.2 ≠ 0) e he)))) (r_bra rfl ?_)
    rw [lenI, hx]
    have z := slice_B (k := k) (p := p) (m := [x]) (q := []) (s := [1569]) (b := p.length) (e := (p ++ [x]).length) (c := p.length) (l := (p ++ [x]).length) (lb := 0) (bn := bn) (bv := bv) (bd := bd) (by rw [hx, List.length_append] at ht; exact ht) (by decide) rfl (by rw [List.length_append]; rfl) (by rw [List.length_append]; rfl) rfl Nat.zero_lt_one
    refine r_do1 rfl z (r_s (σ' := M (p ++ [1569]) 0 (p ++ [1569]).length 0 (some p.length) (some (p.length + 1)) bn bv bd) (by rw [List.length_append]; rfl) (r_nil (tn (fin _ _ _ ?_))))
    rw [List.length_append, List.length_append]; exact Nat.le_refl _
noncomputable def preF (D : List (T × Int)) (g : T → Int → Nat → T → Option T) (n : Nat) (a : T) : Option (T × T) := (pick id D a).bind fun e => (g e.1 e.2 n (a.drop e.1.length)).map fun s => (s, a.drop e.1.length)
noncomputable def PreE (F : Option (T × T)) (p a : T) (l : Int) (bn bv bd bn' bv' : Option Bool) (r : Option (V × St)) : Prop :=
  ∃ (c' : Int) (b' k' : Option Int), r = match F with
    | some (s, q) => some (.bool true, M (p ++ (s ++ q)) (p.length + s.length) (p.length + s.length + q.length) 0 b' k' bn' bv' bd)
    | Option.none => some (.bool false, M (p ++ a) c' l 0 b' k' bn bv bd)
noncomputable def PreOk (m : Nat) (F : Nat → T → Option (T × T)) : Prop := ∀ (k : Nat) (p a : T) (c l : Int) (bra ket : Option Int) (bn bv bd : Option Bool), p.length + a.length ≤ 4000 → c = p.length → l = p.length + a.length →
  PreE (F (p.length + a.length) a) p a l bn bv bd bn bv (Phi_ (k + 4) m [] (M (p ++ a) c l 0 bra ket bn bv bd))
theorem preF_none {D : List (T × Int)} {g : T → Int → Nat → T → Option T} {n : Nat} {a : T} (h : pick id D a = Option.none) : preF D g n a = Option.none := by
  unfold preF; rw [h]; rfl
theorem preF_some {D : List (T × Int)} {g : T → Int → Nat → T → Option T} {n : Nat} {q : T} {e : T × Int} (h : pick id D (e.1 ++ q) = some e) : preF D g n (e.1 ++ q) = (g e.1 e.2 n q).map fun s => (s, q) := by
  unfold preF; rw [h, Option.bind_some, List.drop_left]
noncomputable def lookP : List (Int × Nat × Option T) → Option (Nat × Option T) → Int → Option (Nat × Option T)
  | [], z, _ => z
  | (r', n, a) :: l, z, r => if r = r' then some (n, a) else lookP l z r
noncomputable def gP (l : List (Int × Nat × Option T)) (z : Option (Nat × Option T)) : T → Int → Nat → T → Option T := fun m r n _ => match lookP l z r with
  | Option.none => some m
  | some (t, a) => if t < n then some (a.getD []) else Option.none
noncomputable def g_259 := gP [(1, 3, some [1571]), (2, 3, some [1570]), (3, 3, some [1575])] (some (3, some [1573]))
noncomputable def g_273 := gP [(1, 5, Option.none)] (some (4, Option.none))
noncomputable def g_280 := gP [(1, 3, Option.none), (2, 3, some [1576]), (3, 3, some [1603])] Option.none
noncomputable def g_287 := gP [(1, 4, some [1610]), (2, 4, some [1578]), (3, 4, some [1606])] (some (4, some [1571]))
noncomputable def actE : Option T → E
  | Option.none => .call0 0 161
  | some s => .call1 0 154 (.lit (.str s))
noncomputable def blkP (n : Nat) (a : Option T) (r : Bk) : Bk := .cons (.ite (.cmp .le (.bi1 .len (.fld 0 .cur)) (.lit (.int n))) rtF .nil) (.cons (.xpr (actE a)) r)
noncomputable def brsP : List (Int × Nat × Option T) → Option (Nat × Option T) → Bk
  | [], Option.none => .nil
  | [], some (n, a) => blkP n a .nil
  | (r, n, a) :: l, z => .cons (.ite (.cmp .eq (.var 1) (.lit (.int r))) (blkP n a .nil) (brsP l z)) .nil
noncomputable def amB (rows : List Row) (b : Bk) : Bk := .cons (.setF 0 .bra (.fld 0 .cursor)) (.cons (.asg 1 (.call1 0 133 (.cat (.tab rows)))) (.cons (.ite (.cmp .eq (.var 1) (.lit (.int 0))) rtF .nil) (.cons (.setF 0 .ket (.fld 0 .cursor)) b)))
noncomputable def amI (rows : List Row) (b : Bk) : Bk := .cons (.setF 0 .bra (.fld 0 .cursor)) (.cons (.ite (.cmp .eq (.call1 0 133 (.cat (.tab rows))) (.lit (.int 0))) rtF .nil) (.cons (.setF 0 .ket (.fld 0 .cursor)) b))
noncomputable def mkPre (rows : List Row) (r : Int) (n : Nat) (a : Option T) (l : List (Int × Nat × Option T)) (z : Option (Nat × Option T)) : Bk := amB rows (.cons (.ite (.cmp .eq (.var 1) (.lit (.int r))) (blkP n a .nil) (brsP l z)) rtT)
section
variable {k : Nat} {p a m q : T} {l : Int} {bra ket : Option Int} {bn bv bd : Option Bool} {Ψ : Psi} {P : Out → Loc → St → Prop} {ρ : Loc} {b : Bk} {rows : List Row} {D : List (T × Int)}
section
variable (K : TabOk id rows D) (hD : D.all (fun e => decide (e.2 ≠ 0)) = true) (ht : p.length + a.length ≤ 5000) (hl : l = p.length + a.length)
include K hD ht hl
theorem r_amB (no : pick id D a = Option.none → P (.ret (.bool false)) [some .me, some (.int 0)] (M (p ++ a) p.length l 0 (some p.length) ket bn bv bd))
    (yes : ∀ e q, e ∈ D → pick id D a = some e → a = e.1 ++ q → Res P (evB loop (Phi_ (k + 3)) Ψ b ([some .me, some (.int e.2)], M (p ++ (e.1 ++ q)) (p.length + e.1.length) l 0 (some p.length) (some (p.length + e.1.length)) bn bv bd))) :
    Res P (evB loop (Phi_ (k + 3)) Ψ (amB rows b) ([some .me, Option.none], M (p ++ a) p.length l 0 bra ket bn bv bd)) := by
  refine r_bra rfl ?_
  cases hp : pick id D a with
  | none => exact r_asg (fa_none (k := k + 2) K ht hp hl) (r_y rfl (r_rtF (no hp)))
  | some e =>
    obtain ⟨he, q, rfl⟩ := pick_memF hp
    rw [List.length_append] at ht hl
    rw [← Nat.add_assoc] at ht
    exact r_asg (fa_some (k := k + 2) (r := e.2) K ht hp (by rw [hl, Int.natCast_add, ← Int.add_assoc])) (r_eq1 rfl (fun q => absurd q (of_decide_eq_true (List.all_eq_true.mp hD e he))) fun _ => r_ket rfl (yes e q he hp rfl))
theorem r_amI (no : pick id D a = Option.none → P (.ret (.bool false)) [some .me] (M (p ++ a) p.length l 0 (some p.length) ket bn bv bd))
    (yes : ∀ e q, e ∈ D → pick id D a = some e → a = e.1 ++ q → Res P (evB loop (Phi_ (k + 3)) Ψ b ([some .me], M (p ++ (e.1 ++ q)) (p.length + e.1.length) l 0 (some p.length) (some (p.length + e.1.length)) bn bv bd))) :
    Res P (evB loop (Phi_ (k + 3)) Ψ (amI rows b) ([some .me], M (p ++ a) p.length l 0 bra ket bn bv bd)) := by
  refine r_bra rfl ?_
  cases hp : pick id D a with
  | none => exact r_y (ev_c2 (fa_none (k := k + 2) K ht hp hl) rfl rfl) (r_rtF (no hp))
  | some e =>
    obtain ⟨he, q, rfl⟩ := pick_memF hp
    rw [List.length_append] at ht hl
    rw [← Nat.add_assoc] at ht
    exact r_iteP (ev_c2 (fa_some (k := k + 2) (r := e.2) K ht hp (by rw [hl, Int.natCast_add, ← Int.add_assoc])) rfl rfl) (fun q => absurd q (of_decide_eq_true (List.all_eq_true.mp hD e he))) fun _ => r_ket rfl (yes e q he hp rfl)
end
theorem r_act {s : Option T} (ht : p.length + m.length + q.length ≤ 5000) (h0 : nth ρ 0 = some .me) (hs : (s.getD []).length ≤ 5) (hl : l = p.length + m.length + q.length)
    (h : Res P (evB loop (Phi_ (k + 3)) Ψ b (ρ, M (p ++ (s.getD [] ++ q)) (p.length + (s.getD []).length) (p.length + (s.getD []).length + q.length) 0 (some p.length) (some (p.length + (s.getD []).length)) bn bv bd))) :
    Res P (evB loop (Phi_ (k + 3)) Ψ (.cons (.xpr (actE s)) b) (ρ, M (p ++ (m ++ q)) (p.length + m.length) l 0 (some p.length) (some (p.length + m.length)) bn bv bd)) := by
  cases s with
  | none =>
    refine r_do h0 (del_A (k := k) ht rfl rfl hl rfl) ?_
    rw [show (Option.getD (Option.none : Option T) []) = [] from rfl, show ((([] : T).length : Nat) : Int) = 0 from rfl, Int.add_zero] at h
    exact h
  | some s => exact r_do1 h0 (slice_A (k := k + 1) ht hs rfl rfl hl rfl) h
theorem r_blkP (ht : p.length + m.length + q.length ≤ 5000) (h0 : nth ρ 0 = some .me) {s : Option T} (hs : (s.getD []).length ≤ 5) (hl : l = p.length + m.length + q.length) {n : Nat}
    (no : ¬ n < p.length + m.length + q.length → P (.ret (.bool false)) ρ (M (p ++ (m ++ q)) (p.length + m.length) l 0 (some p.length) (some (p.length + m.length)) bn bv bd))
    (yes : n < p.length + m.length + q.length → Res P (evB loop (Phi_ (k + 3)) Ψ b (ρ, M (p ++ (s.getD [] ++ q)) (p.length + (s.getD []).length) (p.length + (s.getD []).length + q.length) 0 (some p.length) (some (p.length + (s.getD []).length)) bn bv bd))) :
    Res P (evB loop (Phi_ (k + 3)) Ψ (blkP n s b) (ρ, M (p ++ (m ++ q)) (p.length + m.length) l 0 (some p.length) (some (p.length + m.length)) bn bv bd)) :=
  r_short h0 (len3 ▸ ht) (fun z => no (Nat.not_lt.mpr (len3 ▸ z))) fun z => r_act ht h0 hs hl (yes (len3 ▸ z))
noncomputable def doneP (P : Out → Loc → St → Prop) (ρ : Loc) (p m q : T) (l : Int) (bn bv bd : Option Bool) : Option (Nat × Option T) → Prop
  | Option.none => P .next ρ (M (p ++ (m ++ q)) (p.length + m.length) l 0 (some p.length) (some (p.length + m.length)) bn bv bd)
  | some (n, s) => (s.getD []).length ≤ 5 ∧ (¬ n < p.length + m.length + q.length → P (.ret (.bool false)) ρ (M (p ++ (m ++ q)) (p.length + m.length) l 0 (some p.length) (some (p.length + m.length)) bn bv bd)) ∧
    (n < p.length + m.length + q.length → P .next ρ (M (p ++ (s.getD [] ++ q)) (p.length + (s.getD []).length) (p.length + (s.getD []).length + q.length) 0 (some p.length) (some (p.length + (s.getD []).length)) bn bv bd))
theorem r_brsP (ht : p.length + m.length + q.length ≤ 5000) (h0 : nth ρ 0 = some .me) {r : Int} (h1 : nth ρ 1 = some (.int r)) (hl : l = p.length + m.length + q.length) :
    ∀ (L : List (Int × Nat × Option T)) (z : Option (Nat × Option T)), doneP P ρ p m q l bn bv bd (lookP L z r) → Res P (evB loop (Phi_ (k + 3)) Ψ (brsP L z) (ρ, M (p ++ (m ++ q)) (p.length + m.length) l 0 (some p.length) (some (p.length + m.length)) bn bv bd))
  | [], Option.none, h => h
  | [], some (n, s), h => r_blkP ht h0 h.1 hl h.2.1 h.2.2
  | (r', n, s) :: L, z, h => r_eq1 h1 (fun e => by rw [show lookP ((r', n, s) :: L) z r = _ from if_pos e] at h; exact r_blkP ht h0 h.1 hl h.2.1 h.2.2)
      fun e => by rw [show lookP ((r', n, s) :: L) z r = _ from if_neg e] at h; exact sqn (r_brsP ht h0 h1 hl L z h)
end
noncomputable def PreQ (F : Option (T × T)) (p a : T) (l : Int) (bn bv bd bn' bv' : Option Bool) (o : Out) (ρ : Loc) (σ : St) : Prop := PreE F p a l bn bv bd bn' bv' (out (some (o, (ρ, σ))))
theorem pre_end {mm n k : Nat} {F : Option (T × T)} {b : Bk} {p a : T} {l : Int} {bn bv bd bn' bv' : Option Bool} {σ : St} (hl : look mm = some (n, 1, b)) (h : Res (PreQ F p a l bn bv bd bn' bv') (evB loop (Phi_ (k + 3)) (Psi_ (k + 3)) b (some .me :: List.replicate (n - 1) Option.none, σ))) :
    PreE F p a l bn bv bd bn' bv' (Phi_ (k + 4) mm [] σ) := by
  obtain ⟨o, ρ, σ', q, z⟩ := h.out
  rw [phi_out hl rfl]
  exact (congrArg (PreE F p a l bn bv bd bn' bv') (congrArg out q)).mpr z
section
variable {p a s q : T} {F : Option (T × T)} {c l : Int} {bra ket : Option Int} {bn bv bd bn' bv' : Option Bool}
theorem pq_no (h : F = Option.none) (ρ : Loc) : PreQ F p a l bn bv bd bn' bv' (.ret (.bool false)) ρ (M (p ++ a) c l 0 bra ket bn bv bd) := by
  rw [h]; exact ⟨c, bra, ket, rfl⟩
theorem pq_yes (h : F = some (s, q)) (ρ : Loc) : PreQ F p a l bn bv bd bn' bv' (.ret (.bool true)) ρ (M (p ++ (s ++ q)) (p.length + s.length) (p.length + s.length + q.length) 0 bra ket bn' bv' bd) := by
  rw [h]; exact ⟨0, bra, ket, rfl⟩
end
theorem pre_gen {mm : Nat} {rows : List Row} {D : List (T × Int)} {r : Int} {n : Nat} {a : Option T} {L : List (Int × Nat × Option T)} {z : Option (Nat × Option T)} (hl : look mm = some (2, 1, mkPre rows r n a L z)) (K : TabOk id rows D)
    (hD : D.all (fun e => decide (e.2 ≠ 0)) = true) (hA : D.all (fun e => match lookP ((r, n, a) :: L) z e.2 with | some (_, s) => decide ((s.getD []).length ≤ 5) | Option.none => true) = true) : PreOk mm (preF D (gP ((r, n, a) :: L) z)) := by
  intro k p a0 c l bra ket bn bv bd ht hc hl0
  subst hc
  have ht := Nat.le_trans ht (by decide : 4000 ≤ 5000)
  refine pre_end hl (r_amB K hD ht hl0 (fun hp => pq_no (preF_none hp) _) fun e q he hp ha => ?_)
  subst ha
  rw [List.length_append, ← Nat.add_assoc] at ht
  have hl1 : l = p.length + e.1.length + q.length := by rw [hl0, List.length_append, Int.natCast_add, ← Int.add_assoc]
  have hF := preF_some (g := gP ((r, n, a) :: L) z) (n := p.length + (e.1 ++ q).length) hp
  have hA := List.all_eq_true.mp hA e he
  refine r_seqN (b := rtT) (r_brsP ht rfl rfl hl1 ((r, n, a) :: L) z ?_)
  unfold gP at hF
  cases h : lookP ((r, n, a) :: L) z e.2 with
  | none =>
    rw [h] at hF
    subst hl1
    exact pq_yes hF _
  | some x =>
    rw [h, List.length_append, ← Nat.add_assoc] at hF
    rw [h] at hA
    refine ⟨of_decide_eq_true hA, fun y => pq_no ?_ _, fun y => pq_yes ?_ _⟩
    · rw [List.length_append, ← Nat.add_assoc]; exact hF.trans (congrArg (Option.map _) (if_neg y))
    · rw [List.length_append, ← Nat.add_assoc]; exact hF.trans (congrArg (Option.map _) (if_pos y))
theorem m_259 : PreOk 259 (preF D_4 g_259) := pre_gen rfl tab_4 (by decide +kernel) (by decide +kernel)
theorem m_273 : PreOk 273 (preF D_3 g_273) := pre_gen rfl tab_3 (by decide +kernel) (by decide +kernel)
theorem m_280 : PreOk 280 (preF D_7 g_280) := pre_gen rfl tab_7 (by decide +kernel) (by decide +kernel)
theorem m_287 : PreOk 287 (preF D_8 g_287) := pre_gen rfl tab_8 (by decide +kernel) (by decide +kernel)
noncomputable def g_266 : T → Int → Nat → T → Option T := fun _ _ n q => if 3 < n ∧ q.head? ≠ some 1575 then some [] else Option.none
theorem m_266 : PreOk 266 (preF D_5 g_266) := by
  intro k p a c l bra ket bn bv bd ht hc hl
  subst hc
  have ht := Nat.le_trans ht (by decide : 4000 ≤ 5000)
  refine pre_end (b := c266) rfl (r_amI tab_5 (by decide +kernel) ht hl (fun hp => pq_no (preF_none hp) _) fun e q he hp ha => ?_)
  subst ha
  rw [List.length_append, ← Nat.add_assoc] at ht
  have hl1 : l = p.length + e.1.length + q.length := by rw [hl, List.length_append, Int.natCast_add, ← Int.add_assoc]
  have hF := preF_some (g := g_266) (n := p.length + (e.1 ++ q).length) hp
  unfold g_266 at hF
  refine r_short rfl (len3 ▸ ht) (fun z => r_rtF (pq_no (hF.trans ?_) _)) fun z => r_try ?_
  · rw [if_neg fun y => Nat.not_lt.mpr z (by rw [len3, Nat.add_assoc, ← List.length_append]; exact y.1)]; rfl
  have h0 : nth [some V.me] 0 = some V.me := rfl
  have z' : 3 < p.length + (e.1 ++ q).length := by rw [List.length_append, ← Nat.add_assoc, ← len3]; exact z
  have del := fun {P : Out → Loc → St → Prop} (h : Res P _) => r_act (k := k) (s := Option.none) (Ψ := Psi_ (k + 3)) (ρ := [some .me]) (b := rtT) (P := P) (bn := bn) (bv := bv) (bd := bd) ht rfl (Nat.zero_le 5) hl1 h
  cases q with
  | nil =>
    have hF := hF.trans (congrArg (Option.map _) (if_pos ⟨z', (fun h => nomatch h)⟩))
    have e1 : cmV .eq (.int (p.length + e.1.length)) (.int l) = some (.bool true) := congrArg (fun b => some (V.bool b)) (decide_eq_true (by rw [hl1]; exact (Int.add_zero _).symm))
    refine r_y (σ' := M (p ++ (e.1 ++ [])) (p.length + e.1.length) l 0 (some p.length) (some (p.length + e.1.length)) bn bv bd) ?_ (r_raise (tryQ_exc (del (pq_yes hF _))))
    exact ev_or_t (ev_c2 (ev_f h0 _) (ev_f h0 _) e1)
  | cons y q =>
    have e1 : cmV .eq (.int (p.length + e.1.length)) (.int l) = some (.bool false) := congrArg (fun b => some (V.bool b)) (decide_eq_false (by rw [hl1]; exact Int.ne_of_lt (Int.lt_add_of_pos_right _ (Int.ofNat_lt.mpr (Nat.succ_pos _)))))
    have e2 : idxV (.str (p ++ (e.1 ++ y :: q))) (.int (p.length + e.1.length)) = some (.str [y]) := by
      have := ht
      rw [← List.append_assoc, ← Int.natCast_add, ← List.length_append, x_str ⟨Int.natCast_nonneg _, Int.ofNat_lt.mpr (Nat.lt_of_le_of_lt (Nat.le_trans (Nat.le_of_eq List.length_append) (Nat.le_trans (Nat.le_add_right _ _) ht)) (by decide))⟩, Int.toNat_natCast, List.getElem?_append_right (Nat.le_refl _), Nat.sub_self]
      rfl
    have e3 : ev' (Phi_ (k + 3)) (Psi_ (k + 3)) (.or2 (.cmp .eq (.fld 0 .cursor) (.fld 0 .limit)) (.cmp .ne (.idx (.fld 0 .cur) (.fld 0 .cursor)) (.lit (.str [1575])))) [some .me] (M (p ++ (e.1 ++ y :: q)) (p.length + e.1.length) l 0 (some p.length) (some (p.length + e.1.length)) bn bv bd) = some (.bool (!decide (([y] : T) = [1575])), M (p ++ (e.1 ++ y :: q)) (p.length + e.1.length) l 0 (some p.length) (some (p.length + e.1.length)) bn bv bd) :=
      ev_or_f (ev_c2 (ev_f h0 _) (ev_f h0 _) e1) (ev_c2 (x := .str [y]) (y := .str [1575]) (ev_x2 (x := .str (p ++ (e.1 ++ y :: q))) (y := .int (p.length + e.1.length)) (ev_f h0 .cur) (ev_f h0 .cursor) e2) rfl (c_sne _ _))
    by_cases h : y = 1575
    · rw [decide_eq_true (congrArg (fun x => [x]) h)] at e3
      subst h
      exact r_n e3 (r_s (σ' := M (p ++ (e.1 ++ 1575 :: q)) (p.length + e.1.length + 1) l 0 (some p.length) (some (p.length + e.1.length)) bn bv bd) rfl (r_ret rfl (pq_no (hF.trans (congrArg (Option.map _) (if_neg fun x => x.2 rfl))) _)))
    · rw [decide_eq_false fun q => h (List.cons.inj q).1] at e3
      have hF := hF.trans (congrArg (Option.map _) (if_pos ⟨z', fun x => h (Option.some.inj x)⟩))
      exact r_y e3 (r_raise (tryQ_exc (del (pq_yes hF _))))
noncomputable def g_294 : T → Int → Nat → T → Option T := fun _ _ n _ => if 4 < n then some [1575, 1587, 1578] else Option.none
theorem m_294 (k : Nat) (p a : T) (c l : Int) (bra ket : Option Int) (bn bv bd : Option Bool) (ht : p.length + a.length ≤ 4000) (hc : c = p.length) (hl : l = p.length + a.length) :
    PreE (preF D_9 g_294 (p.length + a.length) a) p a l bn bv bd (some false) (some true) (Phi_ (k + 4) 294 [] (M (p ++ a) c l 0 bra ket bn bv bd)) := by
  subst hc
  have ht := Nat.le_trans ht (by decide : 4000 ≤ 5000)
  refine pre_end (b := c294) rfl (r_amI tab_9 (by decide +kernel) ht hl (fun hp => pq_no (preF_none hp) _) fun e q he hp ha => ?_)
  subst ha
  rw [List.length_append, ← Nat.add_assoc] at ht
  have hl1 : l = p.length + e.1.length + q.length := by rw [hl, List.length_append, Int.natCast_add, ← Int.add_assoc]
  have hF := preF_some (g := g_294) (n := p.length + (e.1 ++ q).length) hp
  unfold g_294 at hF
  rw [List.length_append, ← Nat.add_assoc] at hF ⊢
  refine r_short rfl (len3 ▸ ht) (fun z => r_rtF (pq_no (hF.trans (congrArg (Option.map _) (if_neg (Nat.not_lt.mpr (len3 ▸ z))))) _)) fun z => ?_
  refine r_s (σ' := M (p ++ (e.1 ++ q)) (p.length + e.1.length) l 0 (some p.length) (some (p.length + e.1.length)) bn (some true) bd) rfl (r_s (σ' := M (p ++ (e.1 ++ q)) (p.length + e.1.length) l 0 (some p.length) (some (p.length + e.1.length)) (some false) (some true) bd) rfl ?_)
  exact r_act (s := some [1575, 1587, 1578]) ht rfl (by decide) hl1 (r_ret rfl (pq_yes (hF.trans (congrArg (Option.map _) (if_pos (len3 ▸ z)))) _))
noncomputable def chk (a : T) : Bool := match pick id D_3 a with
  | some e => if e.2 = 1 then decide (4 < a.length) else decide (3 < a.length)
  | Option.none => false
noncomputable def flagB (n : Nat) (b : Bk) : Bk := .cons (.ite (.cmp .le (.bi1 .len (.fld 0 .cur)) (.lit (.int n))) rtF .nil) (.cons (.setF 0 .bn (.lit (.bool true))) (.cons (.setF 0 .bv (.lit (.bool false))) (.cons (.setF 0 .bd (.lit (.bool true))) b)))
noncomputable def ChkQ (x : Bool) (a : T) (l : Int) (bn bv bd : Option Bool) (o : Out) (ρ : Loc) (σ : St) : Prop :=
  ∃ (c' : Int) (b' k' : Option Int) (r : Bool), out (some (o, (ρ, σ))) = some (.bool r, if x = true then M a c' l 0 b' k' (some true) (some false) (some true) else M a c' l 0 b' k' bn bv bd)
theorem r_flag {k n : Nat} {a : T} {c l : Int} {b' k' : Option Int} {bn bv bd : Option Bool} {x : Bool} {ρ : Loc} (ht : a.length ≤ 5000) (hx : x = decide (n < a.length)) :
    Res (SeqQ loop (Phi_ k) (Psi_ k) rtT (ChkQ x a l bn bv bd)) (evB loop (Phi_ k) (Psi_ k) (flagB n .nil) (some .me :: ρ, M a c l 0 b' k' bn bv bd)) := by
  refine r_short rfl ht (fun z => r_rtF ⟨c, b', k', false, ?_⟩) fun z => ?_
  · rw [hx, decide_eq_false (Nat.not_lt.mpr z)]; rfl
  · refine r_s (σ' := M a c l 0 b' k' (some true) bv bd) rfl (r_s (σ' := M a c l 0 b' k' (some true) (some false) bd) rfl (r_s (σ' := M a c l 0 b' k' (some true) (some false) (some true)) rfl ?_))
    exact ⟨c, b', k', true, by rw [hx, decide_eq_true z]; rfl⟩
theorem m_252 (k : Nat) (a : T) (c l : Int) (bra ket : Option Int) (bn bv bd : Option Bool) (ht : a.length ≤ 4000) (hc : c = 0) (hl : l = a.length) :
  ∃ (c' : Int) (b' k' : Option Int) (r : Bool), Phi_ (k + 4) 252 [] (M a c l 0 bra ket bn bv bd) = some (.bool r, if chk a = true then M a c' l 0 b' k' (some true) (some false) (some true) else M a c' l 0 b' k' bn bv bd) := by
  subst hc
  have ht := Nat.le_trans ht (by decide : 4000 ≤ 5000)
  have A : Res (ChkQ (chk a) a l bn bv bd) (evB loop (Phi_ (k + 3)) (Psi_ (k + 3)) c252 ([some .me, Option.none], M ([] ++ a) (([] : T).length : Nat) l 0 bra ket bn bv bd)) := by
    refine r_amB (p := []) tab_3 (by decide +kernel) (by rw [List.length_nil, Nat.zero_add]; exact ht) (by rw [hl]; exact (Int.zero_add _).symm) (fun hp => ⟨0, some 0, ket, false, ?_⟩) fun e q he hp ha => ?_
    · unfold chk; rw [hp]; rfl
    · have hc : chk a = if e.2 = 1 then decide (4 < a.length) else decide (3 < a.length) := by unfold chk; rw [hp]
      rw [← ha]
      exact r_eq1 rfl (fun y => r_flag (n := 4) ht (hc.trans (if_pos y))) fun y => r_flag (n := 3) ht (hc.trans (if_neg y))
  obtain ⟨o, ρ, σ, q, z⟩ := A.out
  rw [phi_out (n := 2) (np := 1) (b := c252) rfl rfl]
  obtain ⟨c', b', k', r, z⟩ := z
  exact ⟨c', b', k', r, (congrArg out q).trans z⟩
section
variable {k : Nat} {lp : Lp} {Φ : Phi} {Ψ : Psi} {P : Out → Loc → St → Prop} {b : Bk} {ρ : Loc} {σ : St} {t : T} {c l : Int} {bra ket : Option Int} {bn bv bd : Option Bool} {i : Nat}
theorem r_if {m : Nat} {F : T → Option T} (z : SufOk m F) {a : Bk} (ht : t.length ≤ 5000) (h0 : nth ρ 0 = some .me)
    (yes : ∀ t' b' k', F t = some t' → Res P (evB loop (Phi_ (k + 4)) Ψ b (ρ, M t' t'.length t'.length 0 b' k' bn bv bd)))
    (no : F t = Option.none → ∀ c' b' k', Res (SeqQ loop (Phi_ (k + 4)) Ψ b P) (evB loop (Phi_ (k + 4)) Ψ a (ρ, M t c' t.length 0 b' k' bn bv bd))) :
    Res P (evB loop (Phi_ (k + 4)) Ψ (.cons (.ite (.not (.call0 0 m)) a .nil) b) (ρ, M t t.length t.length 0 bra ket bn bv bd)) := by
  obtain ⟨c', b', k', q⟩ := z k t t.length bra ket bn bv bd ht rfl
  have e : ev' (Phi_ (k + 4)) Ψ (.call0 0 m) ρ (M t t.length t.length 0 bra ket bn bv bd) = Phi_ (k + 4) m [] (M t t.length t.length 0 bra ket bn bv bd) := by rw [e_call0, h0]; rfl
  cases hF : F t with
  | some t' => rw [hF] at q; exact r_nT (e.trans q) (yes t' b' k' hF)
  | none => rw [hF] at q; exact r_nF (e.trans q) (no hF c' b' k')
theorem r_step {m e : Nat} {F : T → Option T} (z : SufOk m F) (ht : t.length ≤ 5000) (h0 : nth ρ 0 = some .me)
    (yes : ∀ t' b' k', F t = some t' → P .brk ρ (M t' t'.length t'.length 0 b' k' bn bv bd))
    (no : F t = Option.none → ∀ c' b' k', Res P (evB loop (Phi_ (k + 4)) Ψ b (ρ, M t c' t.length 0 b' k' bn bv bd))) :
    Res P (evB loop (Phi_ (k + 4)) Ψ (.cons (.try_ (.cons (.ite (.not (.call0 0 m)) (.cons (.raise e) .nil) .nil) (.cons .brk .nil)) e) b) (ρ, M t t.length t.length 0 bra ket bn bv bd)) :=
  r_try (r_if z ht h0 (fun t' b' k' h => r_brk (yes t' b' k' h)) fun h c' b' k' => r_raise (tryQ_exc (no h c' b' k')))
theorem r_stepR {m e : Nat} {F : T → Option T} (z : SufOk m F) (ht : t.length ≤ 5000) (h0 : nth ρ 0 = some .me) (hi : nth ρ i = some (.int 0))
    (yes : ∀ t' b' k', F t = some t' → P .brk ρ (M t' t'.length t'.length 0 b' k' bn bv bd))
    (no : F t = Option.none → ∀ b' k', Res P (evB loop (Phi_ (k + 4)) Ψ b (ρ, M t t.length t.length 0 b' k' bn bv bd))) :
    Res P (evB loop (Phi_ (k + 4)) Ψ (.cons (.try_ (.cons (.ite (.not (.call0 0 m)) (.cons (.raise e) .nil) .nil) (.cons .brk .nil)) e) (.cons (.setF 0 .cursor (.bin .sub (.fld 0 .limit) (.var i))) b)) (ρ, M t t.length t.length 0 bra ket bn bv bd)) :=
  r_step z ht h0 yes fun h c' b' k' => r_reset h0 hi (no h b' k')
theorem r_ifP {m : Nat} {F : Option (T × T)} {p q0 : T} {bn' bv' : Option Bool} {a : Bk} (h0 : nth ρ 0 = some .me)
    (z : ∃ (c' : Int) (b' k' : Option Int), Φ m [] (M (p ++ q0) c l 0 bra ket bn bv bd) = match F with
      | some (s, q) => some (.bool true, M (p ++ (s ++ q)) (p.length + s.length) (p.length + s.length + q.length) 0 b' k' bn' bv' bd)
      | Option.none => some (.bool false, M (p ++ q0) c' l 0 b' k' bn bv bd))
    (yes : ∀ s q b' k', F = some (s, q) → Res P (evB lp Φ Ψ b (ρ, M (p ++ (s ++ q)) (p.length + s.length) (p.length + s.length + q.length) 0 b' k' bn' bv' bd)))
    (no : F = Option.none → ∀ c' b' k', Res (SeqQ lp Φ Ψ b P) (evB lp Φ Ψ a (ρ, M (p ++ q0) c' l 0 b' k' bn bv bd))) :
    Res P (evB lp Φ Ψ (.cons (.ite (.not (.call0 0 m)) a .nil) b) (ρ, M (p ++ q0) c l 0 bra ket bn bv bd)) := by
  obtain ⟨c', b', k', e⟩ := z
  match F, e, yes, no with
  | some (s, q), e, yes, _ => exact r_ifG h0 e (fun _ => yes s q b' k' rfl) fun h => nomatch h
  | Option.none, e, _, no => exact r_ifG h0 e (fun h => nomatch h) fun _ => no rfl c' b' k'
end
theorem c385_eq : c385 = (.cons (.setF 0 .bn (.lit (.bool true))) (.cons (.setF 0 .bv (.lit (.bool true))) (.cons (.setF 0 .bd (.lit (.bool false))) (.cons (.asg 1 (.fld 0 .cursor)) (.cons (.xpr (.call0 0 252)) (.cons (.setF 0 .cursor (.var 1)) (.cons (.xpr (.call0 0 238)) (.cons (.setF 0 .lb (.fld 0 .cursor)) (.cons (.setF 0 .cursor (.fld 0 .limit)) (.cons (.asg 2 (.bin .sub (.fld 0 .limit) (.fld 0 .cursor))) (.cons (.try_ (.cons (.whl W3) .nil) 1078) (.cons (.setF 0 .cursor (.bin .sub (.fld 0 .limit) (.var 2))) (.cons (.setF 0 .cursor (.fld 0 .lb)) (.cons (.asg 12 (.fld 0 .cursor)) (.cons (.try_ PREB 1078) (.cons (.setF 0 .cursor (.var 12)) (.cons (.xpr (.call0 0 245)) (.cons (.ret (.lit (.bool true))) .nil)))))))))))))))))) := rfl
noncomputable abbrev R17 (x1 x2 x3 x4 x5 x6 x7 x8 x9 x10 x11 x12 x13 x14 x15 x16 : Option V) : Loc := [some .me, x1, x2, x3, x4, x5, x6, x7, x8, x9, x10, x11, x12, x13, x14, x15, x16]
theorem cut_len {L : T → Nat} {ends : List T} (h : ∀ e ∈ ends, e ≠ []) {t t' : T} (q : cutL L ends t = some t') : t'.length < t.length := by
  obtain ⟨e, he, q⟩ := Option.bind_eq_some_iff.mp (show (ends.find? fun e => e.isSuffixOf t).bind _ = some t' from q)
  have h3 := List.find?_some he
  have h4 := (List.isSuffixOf_iff_suffix.mp h3).length_le
  have h5 : 0 < e.length := List.length_pos_iff.mpr (h e (List.mem_of_find?_eq_some he))
  split at q
  · cases q
    rw [List.length_take]
    exact Nat.lt_of_le_of_lt (Nat.min_le_left _ _) (Nat.sub_lt (Nat.lt_of_lt_of_le h5 h4) h5)
  · cases q
theorem lim_ge (e : T) : 3 ≤ lim e := by
  unfold lim; split <;> decide
theorem cut_stay {ends : List T} {t t' : T} (q : cutL lim ends t = some t') : 3 ≤ t'.length := by
  obtain ⟨e, he, q⟩ := Option.bind_eq_some_iff.mp (show (ends.find? fun e => e.isSuffixOf t).bind _ = some t' from q)
  split at q
  · rename_i h
    cases q
    rw [List.length_take]
    exact Nat.le_min.mpr ⟨Nat.le_trans (lim_ge e) h, Nat.le_trans (lim_ge e) (Nat.le_trans h (Nat.sub_le _ _))⟩
  · cases q
noncomputable def strip : Nat → T → T
  | 0, t => t
  | n + 1, t => match cutL lim g_law_owners t with
    | some t' => strip n t'
    | Option.none => t
theorem owners_ne : ∀ e ∈ g_law_owners, e ≠ [] := by decide +kernel
theorem strip_len : ∀ (n : Nat) (t : T), (strip n t).length ≤ t.length ∧ (3 ≤ t.length → 3 ≤ (strip n t).length)
  | 0, t => ⟨Nat.le_refl _, id⟩
  | n + 1, t => by
    unfold strip
    split
    · rename_i t' h
      have h2 := strip_len n t'
      exact ⟨Nat.le_trans h2.1 (Nat.le_of_lt (cut_len owners_ne h)), fun _ => h2.2 (cut_stay h)⟩
    · exact ⟨Nat.le_refl _, id⟩
section
variable {k : Nat} {Ψ : Psi}
theorem VW6_run {x1 x2 x3 x4 x7 x8 x9 x10 x11 x12 x13 x14 x15 x16 : Option V} {bn bv bd : Option Bool} {P : Out → Loc → St → Prop} : ∀ (N : Nat) (t : T) (n : Int) (x6 : Option V) (bra ket : Option Int), t.length ≤ N → t.length ≤ 5000 →
    (∀ n' x6' b' k', n' ≤ n → (cutL lim g_law_owners t = Option.none → n' = n) → (cutL lim g_law_owners t ≠ Option.none → n' < n) → P .next (R17 x1 x2 x3 x4 (some (.int n')) x6' x7 x8 x9 x10 x11 x12 x13 x14 x15 x16) (M (strip N t) (strip N t).length (strip N t).length 0 b' k' bn bv bd)) →
    Res P (loop (turn loop (Phi_ (k + 4)) Ψ VW6) (R17 x1 x2 x3 x4 (some (.int n)) x6 x7 x8 x9 x10 x11 x12 x13 x14 x15 x16, M t t.length t.length 0 bra ket bn bv bd)) := by
  intro N
  induction N with
  | zero =>
    intro t n x6 bra ket hN ht h
    have e : t = [] := List.eq_nil_of_length_eq_zero (Nat.le_zero.mp hN)
    subst e
    exact r_lp (r_save rfl (r_try (r_if m_350 ht rfl (fun t' b' k' q => absurd ((by decide +kernel : cutL lim g_law_owners [] = Option.none).symm.trans q) nofun) fun hc c' b' k' => r_raise (tryQ_exc (r_reset rfl rfl (r_brk (h n _ b' k' (Int.le_refl _) (fun _ => rfl) fun z => absurd hc z)))))))
  | succ N ih =>
    intro t n x6 bra ket hN ht h
    refine r_lp (r_save rfl (r_try (r_if m_350 ht rfl (fun t' b' k' hc => ?_) fun hc c' b' k' => r_raise (tryQ_exc (r_reset rfl rfl (r_brk ?_))))))
    · have h1 := cut_len owners_ne hc
      have es : strip (N + 1) t = strip N t' := by rw [strip, hc]
      rw [es] at h
      exact r_s rfl (r_cont (ih t' (n - 1) _ _ _ (Nat.le_of_lt_succ (Nat.lt_of_lt_of_le h1 hN)) (Nat.le_trans (Nat.le_of_lt h1) ht) fun n' x6' b' k' q _ _ =>
        h n' x6' b' k' (Int.le_trans q (Int.sub_le_self _ (by decide))) (fun z => nomatch z.symm.trans hc) fun _ => Int.lt_of_le_sub_one q))
    · have h' := h n (some (.int 0)) b' k' (Int.le_refl _) (fun _ => rfl) fun z => absurd hc z
      have es : strip (N + 1) t = t := by rw [strip, hc]
      rw [es] at h'
      exact h'
end
noncomputable abbrev e1 : List T := [[1608, 1575], [1578, 1605]]
noncomputable abbrev e2 : List T := [[1578, 1605, 1608], [1608]]
noncomputable def verb (t : T) : Option T := match cutL lim g_law_owners t with
  | some _ => some ((cutL lim g_law_persons (strip t.length t)).getD ((cutL lim e2 (strip t.length t)).getD (strip t.length t)))
  | Option.none => match cutL lim e1 t with
    | some x => some x
    | Option.none => cutL lim g_law_persons t
noncomputable def VerbP (t : T) (x1 x2 x3 x8 x9 x10 x11 x12 x13 x14 x15 x16 : Option V) (bn bv bd : Option Bool) (o : Out) (ρ : Loc) (σ : St) : Prop :=
  ∃ (x4 x5 x6 x7 : Option V) (c : Int) (b' k' : Option Int), ρ = R17 x1 x2 x3 x4 x5 x6 x7 x8 x9 x10 x11 x12 x13 x14 x15 x16 ∧ match verb t with
    | some t' => o = .brk ∧ σ = M t' c t'.length 0 b' k' bn bv bd
    | Option.none => o = .exc 1091 ∧ σ = M t c t.length 0 b' k' bn bv bd
theorem strip_no (N : Nat) (t : T) (h : cutL lim g_law_owners t = Option.none) : strip N t = t := by
  cases N with
  | zero => rfl
  | succ n => rw [strip, h]
section
variable {k : Nat} {Ψ : Psi}
theorem VERB_run (t : T) (x1 x2 x3 x4 x5 x6 x7 x8 x9 x10 x11 x12 x13 x14 x15 x16 : Option V) (bra ket : Option Int) (bn bd : Option Bool) (ht : t.length ≤ 5000) :
    Res (VerbP t x1 x2 x3 x8 x9 x10 x11 x12 x13 x14 x15 x16 bn (some true) bd) (evB loop (Phi_ (k + 4)) Ψ VERB (R17 x1 x2 x3 x4 x5 x6 x7 x8 x9 x10 x11 x12 x13 x14 x15 x16, M t t.length t.length 0 bra ket bn (some true) bd)) := by
  refine r_bv rfl (fun _ => r_loop (r_save rfl (r_try (r_asg rfl (r_whl (VW6_run t.length t 1 _ _ _ (Nat.le_refl _) ht fun n' x6' bra' ket' q4 q2 q3 => sq (r_pos rfl (fun hn => r_raise ⟨rfl, ?_⟩) fun hn => ?_))))))) fun h => nomatch h
  · have hc : cutL lim g_law_owners t = Option.none := by
      cases hc : cutL lim g_law_owners t with
      | none => rfl
      | some x => exact absurd (q3 fun z => nomatch z.symm.trans hc) (Int.not_lt.mpr hn)
    rw [strip_no _ _ hc]
    refine r_reset rfl rfl (r_stepR m_364 ht rfl rfl (fun x b' k' h1 => lq (r_brk ?_)) fun h1 b' k' => r_if m_357 ht rfl (fun x b' k' h2 => r_brk (lq (r_brk ?_))) fun h2 c' b' k' => r_raise ?_)
    · have hv : verb t = some x := by unfold verb; rw [hc, h1]
      exact ⟨_, _, _, _, _, b', k', rfl, by rw [hv]; exact ⟨rfl, rfl⟩⟩
    · have hv : verb t = some x := by unfold verb; rw [hc, h1, h2]
      exact ⟨_, _, _, _, _, b', k', rfl, by rw [hv]; exact ⟨rfl, rfl⟩⟩
    · have hv : verb t = Option.none := by unfold verb; rw [hc, h1, h2]
      exact ⟨_, _, _, _, c', b', k', rfl, by rw [hv]; exact ⟨rfl, rfl⟩⟩
  · cases hc : cutL lim g_law_owners t with
    | none => rw [q2 hc] at hn; exact absurd hn (by decide)
    | some t0 =>
      obtain ⟨l1, l2⟩ := strip_len t.length t
      have l3 := cut_len owners_ne hc
      have l4 := cut_stay hc
      have l5 := l2 (Nat.le_trans l4 (Nat.le_of_lt l3))
      have hv0 : verb t = some ((cutL lim g_law_persons (strip t.length t)).getD ((cutL lim e2 (strip t.length t)).getD (strip t.length t))) := by unfold verb; rw [hc]
      generalize strip t.length t = b at l1 l2 l5 hv0
      have hl : b.length ≤ 5000 := Nat.le_trans l1 ht
      refine r_loop (r_save rfl (r_stepR m_357 hl rfl rfl (fun x b' k' h1 => lq (r_brk (tq (lq (r_brk ?_))))) fun h1 b' k' => r_stepR m_371 hl rfl rfl (fun x b' k' h2 => lq (r_brk (tq (lq (r_brk ?_))))) fun h2 b' k' => r_back rfl (Int.natCast_pos.mpr (Nat.lt_of_lt_of_le (by decide) l5)) (r_brk (lq (r_brk (tq (lq (r_brk ?_))))))))
      · rw [h1] at hv0
        exact ⟨_, _, _, _, _, b', k', rfl, by rw [hv0]; exact ⟨rfl, rfl⟩⟩
      · rw [h1, h2] at hv0
        exact ⟨_, _, _, _, _, b', k', rfl, by rw [hv0]; exact ⟨rfl, rfl⟩⟩
      · rw [h1, h2] at hv0
        exact ⟨_, _, _, _, _, b', k', rfl, by rw [hv0]; exact ⟨rfl, rfl⟩⟩
end
noncomputable abbrev L4 : T → Nat := fun _ => 4
noncomputable abbrev L5 : T → Nat := fun _ => 5
noncomputable abbrev L2 : T → Nat := fun _ => 2
noncomputable abbrev AWY : List T := [[1575], [1608], [1610]]
noncomputable abbrev AT : List T := [[1575, 1578]]
noncomputable def nounB (t : T) (d : Bool) : T := match d with
  | true => (cutL lim AT t).getD t
  | false => match cutL L4 AWY t with
    | some x => x
    | Option.none => (cutL lim AT t).getD t
noncomputable def nounA (t : T) (d : Bool) : T := match cutL lim [[1577]] t with
  | some x => x
  | Option.none => match cutL L5 [[1606]] t with
    | Option.none => nounB t d
    | some t1 => match cutL L4 AWY t1 with
      | some x => x
      | Option.none => match cutL lim AT t1 with
        | some x => x
        | Option.none => (cutL lim [[1578]] t1).getD t1
noncomputable def N8P (t : T) (x1 x2 x3 x4 x5 x6 x7 x8 x12 x13 x14 x15 x16 : Option V) (d : Bool) (bn bv : Option Bool) (o : Out) (ρ : Loc) (σ : St) : Prop :=
  ∃ (x9 x10 x11 : Option V) (b' k' : Option Int), ρ = R17 x1 x2 x3 x4 x5 x6 x7 x8 x9 x10 x11 x12 x13 x14 x15 x16 ∧ o = .next ∧ σ = M (nounA t d) (nounA t d).length (nounA t d).length 0 b' k' bn bv (some d)
theorem nounA_len (t : T) (d : Bool) : (nounA t d).length ≤ t.length := by
  have ht := Nat.le_refl t.length
  refine or_le ht ?_
  cases h : cutL L5 [[1606]] t with
  | none => cases d with
    | true => exact getD_le ht
    | false => exact or_le ht (getD_le ht)
  | some t1 =>
    have h1 := cut_le h
    exact or_le h1 (or_le h1 (getD_le h1))
section
variable {k : Nat} {Ψ : Psi}
noncomputable def NFin (X : T) (ρ0 : Loc) (bn bv bd : Option Bool) (o : Out) (ρ : Loc) (σ : St) : Prop := (o = .brk ∨ o = .exc 1104) ∧ ρ = ρ0 ∧ ∃ b' k', σ = M X X.length X.length 0 b' k' bn bv bd
theorem NT_run {ρ : Loc} (t : T) {c : Int} {bra ket : Option Int} {d : Bool} {bn bv : Option Bool} (ht : t.length ≤ 5000) (h0 : nth ρ 0 = some .me) (h8 : nth ρ 8 = some (.int 0)) (h9 : nth ρ 9 = some (.int 0)) :
    Res (NFin (nounB t d) ρ bn bv (some d)) (evB loop (Phi_ (k + 4)) Ψ (.cons (.setF 0 .cursor (.bin .sub (.fld 0 .limit) (.var 9))) (.cons (.try_ (.cons (.ite (.fld 0 .bd) (.cons (.raise 1117) .nil) .nil) (.cons (.ite (.not (.call0 0 315)) (.cons (.raise 1117) .nil) .nil) (.cons (.brk) .nil))) 1117) (.cons (.setF 0 .cursor (.bin .sub (.fld 0 .limit) (.var 9))) (.cons (.ite (.not (.call0 0 322)) (.cons (.setF 0 .cursor (.bin .sub (.fld 0 .limit) (.var 8))) (.cons (.raise 1104) .nil)) .nil) (.cons (.brk) .nil))))) (ρ, M t c t.length 0 bra ket bn bv (some d))) := by
  have last : ∀ c bra ket, (d = true ∨ cutL L4 AWY t = Option.none) → Res (NFin (nounB t d) ρ bn bv (some d)) (evB loop (Phi_ (k + 4)) Ψ (.cons (.setF 0 .cursor (.bin .sub (.fld 0 .limit) (.var 9))) (.cons (.ite (.not (.call0 0 322)) (.cons (.setF 0 .cursor (.bin .sub (.fld 0 .limit) (.var 8))) (.cons (.raise 1104) .nil)) .nil) (.cons (.brk) .nil))) (ρ, M t c t.length 0 bra ket bn bv (some d))) := fun c bra ket hd => by
    have e : nounB t d = (cutL lim AT t).getD t := by
      cases d with
      | true => rfl
      | false => unfold nounB; rw [hd.resolve_left (by decide)]
    refine r_reset h0 h9 (r_if m_322 ht h0 (fun x b' k' h => r_brk ⟨.inl rfl, rfl, b', k', ?_⟩) fun h c' b' k' => r_reset h0 h8 (r_raise ⟨.inr rfl, rfl, b', k', ?_⟩))
    · rw [e, h]; rfl
    · rw [e, h]; rfl
  refine r_reset h0 h9 (r_try (r_bd h0 (fun hd => r_raise ⟨rfl, last _ _ _ (.inl hd)⟩) fun hd => r_if m_315 ht h0 (fun x b' k' h => r_brk ⟨.inl rfl, rfl, b', k', ?_⟩) fun h c' b' k' => r_raise ⟨rfl, last _ _ _ (.inr h)⟩))
  subst hd
  unfold nounB; rw [h]
theorem N8_run (t : T) (x1 x2 x3 x4 x5 x6 x7 x9 x10 x11 x12 x13 x14 x15 x16 : Option V) (bra ket : Option Int) (d : Bool) (bn bv : Option Bool) (ht : t.length ≤ 5000) (hd : d = true ∨ cutL lim A10 t = Option.none) :
    Res (N8P t x1 x2 x3 x4 x5 x6 x7 (some (.int 0)) x12 x13 x14 x15 x16 d bn bv) (sTry 1104 (evB loop (Phi_ (k + 4)) Ψ N8 (R17 x1 x2 x3 x4 x5 x6 x7 (some (.int 0)) x9 x10 x11 x12 x13 x14 x15 x16, M t t.length t.length 0 bra ket bn bv (some d)))) := by
  refine r_sTry (r_loop (r_save rfl (r_stepR m_336 ht rfl rfl (fun x b' k' h1 => ?_) fun h1 b' k' => r_try ?_)))
  · have e : nounA t d = x := by unfold nounA; rw [h1]
    exact lq (r_nil ⟨_, _, _, b', k', rfl, rfl, by rw [e]⟩)
  · have n1b : ∀ c bra ket, Res (TryE 1104 (N8P t x1 x2 x3 x4 x5 x6 x7 (some (.int 0)) x12 x13 x14 x15 x16 d bn bv) |> LoopQ (Phi_ (k + 4)) Ψ .nil) (evB loop (Phi_ (k + 4)) Ψ (.cons (.setF 0 .cursor (.bin .sub (.fld 0 .limit) (.var 9))) (.cons (.try_ N1b 1117) (.cons (.setF 0 .cursor (.bin .sub (.fld 0 .limit) (.var 9))) (.cons (.try_ (.cons (.ite (.fld 0 .bd) (.cons (.raise 1117) .nil) .nil) (.cons (.ite (.not (.call0 0 315)) (.cons (.raise 1117) .nil) .nil) (.cons (.brk) .nil))) 1117) (.cons (.setF 0 .cursor (.bin .sub (.fld 0 .limit) (.var 9))) (.cons (.ite (.not (.call0 0 322)) (.cons (.setF 0 .cursor (.bin .sub (.fld 0 .limit) (.var 8))) (.cons (.raise 1104) .nil)) .nil) (.cons (.brk) .nil))))))) (R17 x1 x2 x3 x4 x5 x6 x7 (some (.int 0)) (some (.int 0)) x10 x11 x12 x13 x14 x15 x16, M t c t.length 0 bra ket bn bv (some d))) := fun c bra ket => by
      refine r_reset rfl rfl (r_try (r_if m_308 ht rfl (fun t1 b' k' h2 => ?_) fun h2 c' b' k' => ?_))
      · have hl : t1.length ≤ 5000 := Nat.le_trans (cut_le h2) ht
        refine r_loop (r_save rfl (r_stepR m_315 hl rfl rfl (fun x b' k' h3 => lq (r_brk ?_)) fun h3 b' k' => r_stepR m_322 hl rfl rfl (fun x b' k' h4 => lq (r_brk ?_)) fun h4 b' k' => r_if m_329 hl rfl (fun x b' k' h5 => r_brk (lq (r_brk ?_))) fun h5 c' b' k' => r_raise ⟨rfl, ?_⟩))
        · have e : nounA t d = x := by unfold nounA; rw [h1, h2]; simp only; rw [h3]
          exact tq (lq (r_nil ⟨_, _, _, b', k', rfl, rfl, by rw [e]⟩))
        · have e : nounA t d = x := by unfold nounA; rw [h1, h2]; simp only; rw [h3, h4]
          exact tq (lq (r_nil ⟨_, _, _, b', k', rfl, rfl, by rw [e]⟩))
        · have e : nounA t d = x := by unfold nounA; rw [h1, h2]; simp only; rw [h3, h4, h5]; rfl
          exact tq (lq (r_nil ⟨_, _, _, b', k', rfl, rfl, by rw [e]⟩))
        · have e : nounA t d = nounB t1 d := by
            unfold nounA nounB; rw [h1, h2]; simp only; rw [h3, h4, h5]; cases d <;> rfl
          refine (NT_run t1 hl rfl rfl rfl).mono fun o ρ σ q => ?_
          obtain ⟨q | q, rfl, b', k', rfl⟩ := q <;> subst q
          · exact lq (r_nil ⟨_, _, _, b', k', rfl, rfl, by rw [e]⟩)
          · exact ⟨rfl, _, _, _, b', k', rfl, rfl, by rw [e]⟩
      · have e : nounA t d = nounB t d := by unfold nounA; rw [h1, h2]
        refine r_raise ⟨rfl, (NT_run t ht rfl rfl rfl).mono fun o ρ σ q => ?_⟩
        obtain ⟨q | q, rfl, b', k', rfl⟩ := q <;> subst q
        · exact lq (r_nil ⟨_, _, _, b', k', rfl, rfl, by rw [e]⟩)
        · exact ⟨rfl, _, _, _, b', k', rfl, rfl, by rw [e]⟩
    refine r_bd rfl (fun _ => r_raise ⟨rfl, n1b _ _ _⟩) fun hd' => r_if m_301 ht rfl (fun x b' k' h => ?_) fun h c' b' k' => r_raise ⟨rfl, n1b _ _ _⟩
    subst hd'
    rw [hd.resolve_left (by decide)] at h
    exact nomatch h
end
section
variable {k : Nat} {Ψ : Psi}
noncomputable def NounP (t : T) (x1 x2 x3 x4 x5 x6 x7 x12 x13 x14 x15 x16 : Option V) (d : Bool) (bv : Option Bool) (o : Out) (ρ : Loc) (σ : St) : Prop :=
  ∃ (x8 x9 x10 x11 : Option V) (c : Int) (b' k' : Option Int), ρ = R17 x1 x2 x3 x4 x5 x6 x7 x8 x9 x10 x11 x12 x13 x14 x15 x16 ∧ match cutL L2 [[1610]] (nounA t d) with
    | some x => o = .brk ∧ σ = M x c x.length 0 b' k' (some true) bv (some d)
    | Option.none => o = .exc 1091 ∧ σ = M (nounA t d) c (nounA t d).length 0 b' k' (some true) bv (some d)
theorem NOUN_run (t : T) (x1 x2 x3 x4 x5 x6 x7 x8 x9 x10 x11 x12 x13 x14 x15 x16 : Option V) (bra ket : Option Int) (d : Bool) (bv : Option Bool) (ht : t.length ≤ 5000) (hd : d = true ∨ cutL lim A10 t = Option.none) :
    Res (NounP t x1 x2 x3 x4 x5 x6 x7 x12 x13 x14 x15 x16 d bv) (evB loop (Phi_ (k + 4)) Ψ NOUN (R17 x1 x2 x3 x4 x5 x6 x7 x8 x9 x10 x11 x12 x13 x14 x15 x16, M t t.length t.length 0 bra ket (some true) bv (some d))) := by
  refine r_bn rfl (r_save rfl (r_tryS ((N8_run (k := k) (Ψ := Ψ) t x1 x2 x3 x4 x5 x6 x7 x9 x10 x11 x12 x13 x14 x15 x16 bra ket d (some true) bv ht hd).mono fun o ρ σ q => ?_)))
  obtain ⟨x9', x10', x11', b', k', rfl, rfl, rfl⟩ := q
  exact sq (r_if m_343 (Nat.le_trans (nounA_len t d) ht) rfl (fun x b' k' h => r_brk ⟨_, _, _, _, _, b', k', rfl, by rw [h]; exact ⟨rfl, rfl⟩⟩) fun h c' b' k' => r_raise ⟨_, _, _, _, c', b', k', rfl, by rw [h]; exact ⟨rfl, rfl⟩⟩)
noncomputable def finN (t : T) (d : Bool) : T := match cutL L2 [[1610]] (nounA t d) with
  | some x => x
  | Option.none => (maq (nounA t d)).getD (nounA t d)
noncomputable def suf (t : T) (d : Bool) : T := match d with
  | true => finN t true
  | false => match verb t with
    | some x => x
    | Option.none => finN t false
noncomputable def W3P (t : T) (x1 x2 x12 x13 x14 x15 x16 : Option V) (d : Bool) (o : Out) (ρ : Loc) (σ : St) : Prop :=
  ∃ (x3 x4 x5 x6 x7 x8 x9 x10 x11 : Option V) (c : Int) (b' k' : Option Int), ρ = R17 x1 x2 x3 x4 x5 x6 x7 x8 x9 x10 x11 x12 x13 x14 x15 x16 ∧ o = .next ∧ σ = M (suf t d) c (suf t d).length 0 b' k' (some true) (some (!d)) (some d)
theorem W3_run (t : T) (x1 x2 x3 x4 x5 x6 x7 x8 x9 x10 x11 x12 x13 x14 x15 x16 : Option V) (bra ket : Option Int) (d : Bool) (ht : t.length ≤ 5000) (hd : d = false → verb t = Option.none → cutL lim A10 t = Option.none) :
    Res (W3P t x1 x2 x12 x13 x14 x15 x16 d) (sTry 1078 (evB loop (Phi_ (k + 4)) Ψ (.cons (.whl W3) .nil) (R17 x1 x2 x3 x4 x5 x6 x7 x8 x9 x10 x11 x12 x13 x14 x15 x16, M t t.length t.length 0 bra ket (some true) (some (!d)) (some d)))) := by
  have n2 : ∀ (c : Int) (x4 x5 x6 x7 : Option V) (bra ket : Option Int), (d = true ∨ verb t = Option.none) → Res (LoopQ (Phi_ (k + 4)) Ψ .nil (TryE 1078 (W3P t x1 x2 x12 x13 x14 x15 x16 d))) (evB loop (Phi_ (k + 4)) Ψ (.cons (.setF 0 .cursor (.bin .sub (.fld 0 .limit) (.var 3))) (.cons (.try_ NOUN 1091) (.cons (.setF 0 .cursor (.bin .sub (.fld 0 .limit) (.var 3))) (.cons (.ite (.not (.call0 0 378)) (.cons (.raise 1078) .nil) .nil) (.cons (.brk) .nil))))) (R17 x1 x2 (some (.int 0)) x4 x5 x6 x7 x8 x9 x10 x11 x12 x13 x14 x15 x16, M t c t.length 0 bra ket (some true) (some (!d)) (some d))) := fun c x4 x5 x6 x7 bra ket h => by
    have e : suf t d = finN t d := by
      cases d with
      | true => rfl
      | false => unfold suf; simp only; rw [h.resolve_left (by decide)]
    have hd' : d = true ∨ cutL lim A10 t = Option.none := by
      cases d with
      | true => exact .inl rfl
      | false => exact .inr (hd rfl (h.resolve_left (by decide)))
    refine r_reset rfl rfl (r_try ((NOUN_run t x1 x2 _ x4 x5 x6 x7 x8 x9 x10 x11 x12 x13 x14 x15 x16 bra ket d _ ht hd').mono fun o ρ σ q => ?_))
    obtain ⟨x8', x9', x10', x11', c2, b2, k2, rfl, q⟩ := q
    unfold finN at e
    cases h2 : cutL L2 [[1610]] (nounA t d) with
    | some x =>
      rw [h2] at q e
      obtain ⟨rfl, rfl⟩ := q
      exact tq (lq (r_nil ⟨_, _, _, _, _, _, _, _, _, c2, b2, k2, rfl, rfl, by rw [e]⟩))
    | none =>
      rw [h2] at q e
      obtain ⟨rfl, rfl⟩ := q
      refine ⟨rfl, r_reset rfl rfl ?_⟩
      obtain ⟨c3, b3, k3, z3⟩ := m_378 k (nounA t d) _ b2 k2 (some true) (some (!d)) (some d) (Nat.le_trans (nounA_len t d) ht) rfl
      cases h3 : maq (nounA t d) with
      | some x =>
        rw [h3] at z3 e
        exact r_ifG rfl z3 (fun _ => r_brk (lq (r_nil ⟨_, _, _, _, _, _, _, _, _, c3, b3, k3, rfl, rfl, by rw [e]; rfl⟩))) fun h => nomatch h
      | none =>
        rw [h3] at z3 e
        exact r_ifG rfl z3 (fun h => nomatch h) fun _ => r_raise ⟨rfl, _, _, _, _, _, _, _, _, _, c3, b3, k3, rfl, rfl, by rw [e]; rfl⟩
  cases d with
  | false =>
    refine r_sTry (r_loop (r_save rfl (r_try ((VERB_run (k := k) (Ψ := Ψ) t x1 x2 (some (.int 0)) x4 x5 x6 x7 x8 x9 x10 x11 x12 x13 x14 x15 x16 bra ket (some true) (some false) ht).mono fun o ρ σ q => ?_))))
    obtain ⟨x4', x5', x6', x7', c', b', k', rfl, q⟩ := q
    cases hv : verb t with
    | some x =>
      rw [hv] at q
      obtain ⟨rfl, rfl⟩ := q
      have e : suf t false = x := by unfold suf; simp only; rw [hv]
      exact tq (lq (r_nil ⟨_, _, _, _, _, _, _, _, _, c', b', k', rfl, rfl, by rw [e]; rfl⟩))
    | none =>
      rw [hv] at q
      obtain ⟨rfl, rfl⟩ := q
      exact ⟨rfl, n2 c' x4' x5' x6' x7' b' k' (.inr hv)⟩
  | true => exact r_sTry (r_loop (r_save rfl (r_try (r_bv rfl (fun h => nomatch h) fun _ => r_raise ⟨rfl, n2 _ x4 x5 x6 x7 _ _ (.inl rfl)⟩))))
end
noncomputable def pref4 (p a : T) : T := match preF D_9 g_294 (p.length + a.length) a with
  | some (s, q) => p ++ (s ++ q)
  | Option.none => p ++ a
noncomputable def pref3 (p a : T) (d : Bool) : T := match preF D_3 g_273 (p.length + a.length) a with
  | some (s, q) => p ++ (s ++ q)
  | Option.none => match preF D_7 g_280 (p.length + a.length) a with
    | some (s, q) => p ++ (s ++ q)
    | Option.none => match d with
      | true => p ++ a
      | false => match preF D_8 g_287 (p.length + a.length) a with
        | some (s, q) => pref4 (p ++ s) q
        | Option.none => pref4 p a
noncomputable def pref2 (p a : T) (d : Bool) : T := match preF D_5 g_266 (p.length + a.length) a with
  | some (_, q) => pref3 p q d
  | Option.none => pref3 p a d
noncomputable def pref (t : T) (d : Bool) : T := match preF D_4 g_259 t.length t with
  | some (s, q) => pref2 s q d
  | Option.none => pref2 [] t d
theorem preF_len {D : List (T × Int)} {g : T → Int → Nat → T → Option T} {n : Nat} {a s q : T} (h : preF D g n a = some (s, q)) : ∃ e, e ∈ D ∧ a = e.1 ++ q ∧ g e.1 e.2 n q = some s := by
  unfold preF at h
  obtain ⟨e, he, h⟩ := Option.bind_eq_some_iff.mp h
  obtain ⟨hm, q', hq⟩ := pick_memF he
  subst hq
  rw [List.drop_left] at h
  obtain ⟨s', hs, h⟩ := Option.map_eq_some_iff.mp h
  cases h
  exact ⟨e, hm, rfl, hs⟩
theorem gP_len {L : List (Int × Nat × Option T)} {z : Option (Nat × Option T)} {D : List (T × Int)} {m : Nat} (hD : D.all (fun e => match lookP L z e.2 with | Option.none => decide (e.1.length ≤ m) | some (_, a) => decide ((a.getD []).length ≤ m)) = true) {n : Nat} {a s q : T} (h : preF D (gP L z) n a = some (s, q)) : s.length ≤ m ∧ q.length ≤ a.length := by
  obtain ⟨e, he, rfl, hg⟩ := preF_len h
  have c := List.all_eq_true.mp hD e he
  refine ⟨?_, by rw [List.length_append]; exact Nat.le_add_left _ _⟩
  unfold gP at hg
  cases hl : lookP L z e.2 with
  | none => rw [hl] at c hg; cases hg; exact of_decide_eq_true c
  | some x =>
    rw [hl] at c hg
    replace hg : ite _ _ _ = some s := hg
    split at hg
    · cases hg; exact of_decide_eq_true c
    · cases hg
theorem len_259 {n : Nat} {a s q : T} (h : preF D_4 g_259 n a = some (s, q)) : s.length ≤ 3 ∧ q.length ≤ a.length := gP_len (by decide) h
theorem len_273 {n : Nat} {a s q : T} (h : preF D_3 g_273 n a = some (s, q)) : s.length ≤ 3 ∧ q.length ≤ a.length := gP_len (by decide) h
theorem len_280 {n : Nat} {a s q : T} (h : preF D_7 g_280 n a = some (s, q)) : s.length ≤ 3 ∧ q.length ≤ a.length := gP_len (by decide) h
theorem len_287 {n : Nat} {a s q : T} (h : preF D_8 g_287 n a = some (s, q)) : s.length ≤ 1 ∧ q.length ≤ a.length := gP_len (by decide) h
theorem dec_287 {n : Nat} {a s q : T} (h : preF D_8 g_287 n a = some (s, q)) : s.length + q.length ≤ a.length := by
  have hs := (len_287 h).1
  obtain ⟨e, he, rfl, hg⟩ := preF_len h
  rw [List.length_append]
  exact Nat.add_le_add_right (Nat.le_trans hs ((by decide : ∀ e ∈ D_8, 1 ≤ e.1.length) e he)) _
theorem nil_266 {n : Nat} {a s q : T} (hp : preF D_5 g_266 n a = some (s, q)) : s = [] ∧ q.length ≤ a.length := by
  obtain ⟨e, he, rfl, h⟩ := preF_len hp
  unfold g_266 at h
  split at h
  · cases h; exact ⟨rfl, by rw [List.length_append]; exact Nat.le_add_left _ _⟩
  · cases h
theorem len_294 {n : Nat} {a s q : T} (hp : preF D_9 g_294 n a = some (s, q)) : s.length ≤ 3 ∧ q.length ≤ a.length := by
  obtain ⟨e, he, rfl, h⟩ := preF_len hp
  unfold g_294 at h
  split at h
  · cases h; exact ⟨by decide, by rw [List.length_append]; exact Nat.le_add_left _ _⟩
  · cases h
theorem add3 {p s q a m : Nat} (h : s ≤ m ∧ q ≤ a) : p + s + q ≤ p + a + m := by
  rw [Nat.add_assoc, Nat.add_assoc, Nat.add_comm a]
  exact Nat.add_le_add_left (Nat.add_le_add h.1 h.2) p
theorem pref4_len (p a : T) : (pref4 p a).length ≤ p.length + a.length + 3 := by
  unfold pref4
  split
  · rename_i s q h; rw [len3]; exact add3 (len_294 h)
  · rw [List.length_append]; exact Nat.le_add_right _ _
theorem pref3_len (p a : T) (d : Bool) : (pref3 p a d).length ≤ p.length + a.length + 3 := by
  unfold pref3
  split
  · rename_i s q h; rw [len3]; exact add3 (len_273 h)
  · split
    · rename_i s q h; rw [len3]; exact add3 (len_280 h)
    · split
      · rw [List.length_append]; exact Nat.le_add_right _ _
      · split
        · rename_i s q h
          refine Nat.le_trans (pref4_len (p ++ s) q) (Nat.add_le_add_right ?_ 3)
          rw [List.length_append, Nat.add_assoc]
          exact Nat.add_le_add_left (dec_287 h) _
        · exact pref4_len p a
theorem pref2_len (p a : T) (d : Bool) : (pref2 p a d).length ≤ p.length + a.length + 3 := by
  unfold pref2
  split
  · rename_i s q h
    exact Nat.le_trans (pref3_len p q d) (Nat.add_le_add_right (Nat.add_le_add_left (nil_266 h).2 _) 3)
  · exact pref3_len p a d
theorem pref_len (t : T) (d : Bool) : (pref t d).length ≤ t.length + 6 := by
  unfold pref
  split
  · rename_i s q h
    refine Nat.le_trans (pref2_len s q d) (Nat.add_le_add_right (m := t.length + 3) ?_ 3)
    rw [Nat.add_comm]
    exact Nat.add_le_add (len_259 h).2 (len_259 h).1
  · refine Nat.le_trans (pref2_len [] t d) ?_
    rw [List.length_nil, Nat.zero_add]
    exact Nat.add_le_add_left (by decide) _
theorem len3I (p s q : T) : (p.length : Int) + s.length + q.length = ((p ++ (s ++ q)).length : Nat) := by rw [len3]; rfl
theorem len2I (p q : T) : (p.length : Int) + q.length = ((p ++ q).length : Nat) := by rw [List.length_append]; rfl
section
variable {k : Nat} {Ψ : Psi} {Q : Out → Loc → St → Prop} {ρ ρ0 : Loc}
noncomputable def Lvs (n : Nat) (ρ0 : Loc) (t : T) (d : Bool) (o : Out) (Q : Out → Loc → St → Prop) : Prop := ∀ (ρ : Loc) (c : Int) (b' k' : Option Int) (bn bv : Option Bool), Up n ρ0 ρ → Q o ρ (M t c t.length 0 b' k' bn bv (some d))
theorem PW15_run (p0 a0 : T) (d : Bool) (h0 : nth ρ0 0 = some .me) (hl : ρ0.length = 17) (bra ket : Option Int) (hn : p0.length + a0.length ≤ 4000) (hb : Lvs 13 ρ0 (pref3 p0 a0 d) d .brk Q) (he : Lvs 13 ρ0 (pref3 p0 a0 d) d (.exc 1078) Q) (u : Up 13 ρ0 ρ) :
    Res Q (evB loop (Phi_ (k + 4)) Ψ PW15 (ρ, M (p0 ++ a0) p0.length (p0.length + a0.length) 0 bra ket (some true) (some (!d)) (some d))) := by
  have last : ∀ (p a : T) (bra ket : Option Int) (ρ : Loc), Up 13 ρ0 ρ → nth ρ 0 = some .me → p.length + a.length ≤ 4000 → pref3 p0 a0 d = pref4 p a → Res Q (evB loop (Phi_ (k + 4)) Ψ (.cons (.ite (.not (.call0 0 294)) (.cons (.raise 1078) .nil) .nil) (.cons (.brk) .nil)) (ρ, M (p ++ a) p.length (p.length + a.length) 0 bra ket (some true) (some (!d)) (some d))) := by
    intro p a bra ket ρ u h hl e
    unfold pref4 at e
    refine r_ifP h (m_294 k p a _ _ bra ket _ _ _ hl rfl rfl) (fun s q b' k' h => ?_) fun h c' b' k' => ?_
    · rw [h] at e
      replace e : pref3 p0 a0 d = p ++ (s ++ q) := e
      rw [len3I, ← e]
      exact r_brk (hb _ _ _ _ _ _ u)
    · rw [h] at e
      replace e : pref3 p0 a0 d = p ++ a := e
      rw [len2I, ← e]
      exact r_raise (he _ _ _ _ _ _ u)
  refine r_keep u (j := 15) (by decide) (by decide) (by decide) h0 hl fun ρ1 u1 m1 v1 => ?_
  have out : ∀ (s q : T) (c : Int) (b' k' : Option Int), pref3 p0 a0 d = p0 ++ (s ++ q) → Q .brk ρ1 (M (p0 ++ (s ++ q)) c (p0.length + s.length + q.length) 0 b' k' (some true) (some (!d)) (some d)) := fun s q c b' k' e => by
    rw [len3I, ← e]; exact hb _ _ _ _ _ _ u1
  unfold pref3 at out last
  refine r_try (r_ifP m1 (m_273 k p0 a0 _ _ _ _ _ _ _ hn rfl rfl) (fun s q b' k' h1 => r_brk (tq (out _ _ _ _ _ (by rw [h1])))) fun h1 c' b' k' => r_raise (tryQ_exc (r_putC m1 v1 ?_)))
  rw [h1] at out last
  refine r_try (r_bn m1 (r_ifP m1 (m_280 k p0 a0 _ _ _ _ _ _ _ hn rfl rfl) (fun s q b' k' h2 => r_brk (tq (out _ _ _ _ _ (by rw [h2])))) fun h2 c' b' k' => r_raise (tryQ_exc (r_putC m1 v1 ?_))))
  rw [h2] at last
  cases d with
  | true =>
    refine r_bv m1 (fun h => nomatch h) fun _ => r_raise ?_
    have e : pref3 p0 a0 true = p0 ++ a0 := by unfold pref3; rw [h1, h2]
    rw [len2I, ← e]
    exact he _ _ _ _ _ _ u1
  | false =>
    refine r_bv m1 (fun _ => r_keep u1 (j := 16) (by decide) (by decide) (by decide) h0 hl fun ρ2 u2 m2 v2 => r_try (r_ifP m2 (m_287 k p0 a0 _ _ _ _ _ _ _ hn rfl rfl) (fun s q b' k' h3 => r_nil (tn ?_)) fun h3 c' b' k' => r_putC m2 v2 (r_raise (tryQ_exc (last p0 a0 _ _ _ u2 m2 hn (by rw [h3])))))) fun h => nomatch h
    have z := last (p0 ++ s) q b' k' ρ2 u2 m2 (by rw [List.length_append, Nat.add_assoc]; exact Nat.le_trans (Nat.add_le_add_left (dec_287 h3) _) hn) (by rw [h3])
    rw [List.append_assoc, List.length_append, Int.natCast_add] at z
    exact z
theorem PREB_run (t : T) (d : Bool) (h0 : nth ρ0 0 = some .me) (hl : ρ0.length = 17) (bra ket : Option Int) (hn : t.length ≤ 3900) (hb : Lvs 13 ρ0 (pref t d) d .next Q) (he : Lvs 13 ρ0 (pref t d) d (.exc 1078) Q) (u : Up 13 ρ0 ρ) :
    Res Q (evB loop (Phi_ (k + 4)) Ψ PREB (ρ, M t 0 t.length 0 bra ket (some true) (some (!d)) (some d))) := by
  have fin : ∀ (p a : T) (bra ket : Option Int) (ρ : Loc), Up 13 ρ0 ρ → nth ρ 0 = some .me → p.length + a.length ≤ 4000 → pref t d = pref3 p a d → Res Q (evB loop (Phi_ (k + 4)) Ψ (.cons (.whl PW15) .nil) (ρ, M (p ++ a) p.length (p.length + a.length) 0 bra ket (some true) (some (!d)) (some d))) := by
    intro p a bra ket ρ u h hn e
    rw [e] at hb he
    have up {ρ'} (u' : Up 13 ρ ρ') : Up 13 ρ0 ρ' := ⟨u'.1.trans u.1, fun i hi => (u'.2 i hi).trans (u.2 i hi)⟩
    exact r_loop (PW15_run p a d h (u.1.trans hl) bra ket hn (fun _ _ _ _ _ _ u' => lq (r_nil (hb _ _ _ _ _ _ (up u')))) (fun _ _ _ _ _ _ u' => he _ _ _ _ _ _ (up u')) (Up.refl _ _))
  have two : ∀ (p a : T) (bra ket : Option Int) (ρ : Loc), Up 13 ρ0 ρ → p.length + a.length ≤ 4000 → pref t d = pref2 p a d → Res Q (evB loop (Phi_ (k + 4)) Ψ (.cons (.asg 14 (.fld 0 .cursor)) (.cons (.try_ (.cons (.ite (.not (.call0 0 266)) (.cons (.setF 0 .cursor (.var 14)) (.cons (.raise 1091) .nil)) .nil) .nil) 1091) (.cons (.whl PW15) .nil))) (ρ, M (p ++ a) p.length (p.length + a.length) 0 bra ket (some true) (some (!d)) (some d))) := by
    intro p a bra ket ρ u hn e
    unfold pref2 at e
    refine r_keep u (j := 14) (by decide) (by decide) (by decide) h0 hl fun ρ1 u1 m1 v1 => r_try (r_ifP m1 (m_266 k p a _ _ bra ket _ _ _ hn rfl rfl) (fun s q b' k' h => r_nil (tn ?_)) fun h c' b' k' => r_putC m1 v1 (r_raise (tryQ_exc (fin p a _ _ _ u1 m1 hn (by rw [e, h])))))
    obtain ⟨rfl, l2⟩ := nil_266 h
    exact cast (by rw [List.length_nil, List.nil_append, Int.natCast_zero, Int.add_zero]) (fin p q b' k' ρ1 u1 m1 (Nat.le_trans (Nat.add_le_add_left l2 _) hn) (by rw [e, h]))
  have z := m_259 k [] t 0 t.length bra ket (some true) (some (!d)) (some d) (by rw [List.length_nil, Nat.zero_add]; exact Nat.le_trans hn (by decide)) rfl (Int.zero_add _).symm
  have hp : pref t d = match preF D_4 g_259 (([] : T).length + t.length) t with | some (s, q) => pref2 s q d | Option.none => pref2 [] t d := by rw [List.length_nil, Nat.zero_add]; rfl
  refine r_keep u (j := 13) (by decide) (by decide) (by decide) h0 hl fun ρ1 u1 m1 v1 => r_try (r_ifP m1 z (fun s q b' k' h => r_nil (tn ?_)) fun h c' b' k' => r_putC m1 v1 (r_raise (tryQ_exc ?_)))
  · rw [h] at hp
    obtain ⟨l1, l2⟩ := len_259 h
    exact cast (by rw [List.nil_append, List.length_nil, Int.natCast_zero, Int.zero_add]) (two s q b' k' ρ1 u1 (Nat.le_trans (Nat.add_le_add l1 (Nat.le_trans l2 hn)) (by decide)) hp)
  · rw [h] at hp
    exact cast (by rw [List.length_nil, Int.natCast_zero, Int.zero_add]) (two [] t b' k' ρ1 u1 (by rw [List.length_nil, Nat.zero_add]; exact Nat.le_trans hn (by decide)) hp)
end
set_option genCtorIdx false in
inductive DT (α : Type) where
  | leaf (x : α)
  | tst (o : Nat) (h : T) (y z : DT α)
  | len (m : Nat) (y z : DT α)
namespace DT
variable {α β : Type}
noncomputable def ev (n : Nat) (a : T) : DT α → α
  | leaf x => x
  | tst o h y z => if h.isPrefixOf (a.drop o) = true then y.ev n a else z.ev n a
  | len m y z => if m < n + a.length then y.ev n a else z.ev n a
noncomputable def bind : DT α → (α → DT β) → DT β
  | leaf x, f => f x
  | tst o h y z, f => tst o h (bind y f) (bind z f)
  | len m y z, f => len m (bind y f) (bind z f)
theorem bind_ev {n : Nat} {a : T} (f : α → DT β) : ∀ t : DT α, (t.bind f).ev n a = (f (t.ev n a)).ev n a
  | leaf _ => rfl
  | tst o h y z => by
    show ite _ _ _ = (f (ite _ _ _)).ev n a
    split
    · exact bind_ev f y
    · exact bind_ev f z
  | len m y z => by
    show ite _ _ _ = (f (ite _ _ _)).ev n a
    split
    · exact bind_ev f y
    · exact bind_ev f z
noncomputable def ok (P : T → α → Bool) : DT α → T → List T → Nat → Nat → Bool
  | leaf x, p, _, _, hi => P p x || (Nat.blt 0 hi && Nat.ble hi p.length)
  | tst o h y z, p, ex, lo, hi => Nat.ble o p.length && cond ((p.take o ++ h).isPrefixOf p) (ok P y p ex lo hi)
      (cond (!(p.isPrefixOf (p.take o ++ h)) || ex.any (·.isPrefixOf (p.take o ++ h))) (ok P z p ex lo hi) (ok P y (p.take o ++ h) ex lo hi && ok P z p ((p.take o ++ h) :: ex) lo hi))
  | len m y z, p, ex, lo, hi => cond (Nat.blt m lo) (ok P y p ex lo hi) (cond (Nat.blt 0 hi && Nat.ble hi (m + 1)) (ok P z p ex lo hi) (ok P y p ex (m + 1) hi && ok P z p ex lo (m + 1)))
theorem at_o {p a h : T} {o : Nat} (hp : p <+: a) (ho : o ≤ p.length) : h.isPrefixOf (a.drop o) = true ↔ p.take o ++ h <+: a := by
  obtain ⟨r, rfl⟩ := hp
  rw [List.isPrefixOf_iff_prefix, List.drop_append_of_le_length ho]
  have e : p ++ r = p.take o ++ (p.drop o ++ r) := by rw [← List.append_assoc, List.take_append_drop]
  rw [e, List.prefix_append_right_inj]
structure Fits (n : Nat) (a p : T) (ex : List T) (lo hi : Nat) : Prop where
  p : p <+: a
  ex : ∀ x ∈ ex, ¬ x <+: a
  lo : lo ≤ n + a.length
  hi : hi = 0 ∨ n + a.length < hi
theorem ok_ev {P : T → α → Bool} {n : Nat} {a : T} : ∀ (t : DT α) {p : T} {ex : List T} {lo hi : Nat}, ok P t p ex lo hi = true → Fits n a p ex lo hi → ∃ p', p' <+: a ∧ P p' (t.ev n a) = true
  | leaf x, p, ex, lo, hi, h, F => by
    rcases Bool.or_eq_true_iff.mp h with h | h
    · exact ⟨p, F.p, h⟩
    · obtain ⟨h1, h2⟩ := Bool.and_eq_true_iff.mp h
      have h1 := Nat.blt_eq.mp h1
      rcases F.hi with q | q
      · exact absurd q (Nat.ne_of_gt h1)
      · exact absurd (Nat.le_trans (Nat.le_of_ble_eq_true h2) (Nat.le_trans F.p.length_le (Nat.le_add_left _ n))) (Nat.not_le.mpr q)
  | tst o w y z, p, ex, lo, hi, h, F => by
    obtain ⟨ho, h⟩ := Bool.and_eq_true_iff.mp h
    have A := at_o (h := w) F.p (Nat.le_of_ble_eq_true ho)
    have yes (q : p.take o ++ w <+: a) : (tst o w y z).ev n a = y.ev n a := if_pos (A.mpr q)
    have no (q : ¬ p.take o ++ w <+: a) : (tst o w y z).ev n a = z.ev n a := if_neg (fun x => q (A.mp x))
    generalize p.take o ++ w = v at yes no h
    cases h1 : v.isPrefixOf p with
    | true =>
      rw [h1] at h
      rw [yes ((List.isPrefixOf_iff_prefix.mp h1).trans F.p)]
      exact ok_ev y h F
    | false =>
      rw [h1] at h
      cases h2 : (!(p.isPrefixOf v) || ex.any (·.isPrefixOf v)) with
      | true =>
        rw [h2] at h
        rw [no fun q => ?_]
        · exact ok_ev z h F
        rcases Bool.or_eq_true_iff.mp h2 with h2 | h2
        · rcases List.prefix_or_prefix_of_prefix q F.p with x | x
          · rw [List.isPrefixOf_iff_prefix.mpr x] at h1; cases h1
          · rw [List.isPrefixOf_iff_prefix.mpr x] at h2; cases h2
        · obtain ⟨x, hx, h3⟩ := List.any_eq_true.mp h2
          exact F.ex x hx ((List.isPrefixOf_iff_prefix.mp h3).trans q)
      | false =>
        rw [h2] at h
        obtain ⟨h3, h4⟩ := Bool.and_eq_true_iff.mp h
        by_cases q : v <+: a
        · rw [yes q]; exact ok_ev y h3 ⟨q, F.ex, F.lo, F.hi⟩
        · rw [no q]; exact ok_ev z h4 ⟨F.p, fun x hx => (List.mem_cons.mp hx).elim (fun e => e ▸ q) (F.ex x), F.lo, F.hi⟩
  | len m y z, p, ex, lo, hi, h, F => by
    have yes (q : m < n + a.length) : (len m y z).ev n a = y.ev n a := if_pos q
    have no (q : ¬ m < n + a.length) : (len m y z).ev n a = z.ev n a := if_neg q
    replace h : cond (Nat.blt m lo) _ _ = true := h
    cases h1 : Nat.blt m lo with
    | true =>
      rw [h1] at h
      rw [yes (Nat.lt_of_lt_of_le (Nat.blt_eq.mp h1) F.lo)]
      exact ok_ev y h F
    | false =>
      rw [h1] at h
      cases h2 : (Nat.blt 0 hi && Nat.ble hi (m + 1)) with
      | true =>
        rw [h2] at h
        rw [no fun q => ?_]
        · exact ok_ev z h F
        obtain ⟨h3, h4⟩ := Bool.and_eq_true_iff.mp h2
        rcases F.hi with e | e
        · exact absurd e (Nat.ne_of_gt (Nat.blt_eq.mp h3))
        · exact absurd (Nat.lt_of_lt_of_le e (Nat.le_of_ble_eq_true h4)) (Nat.not_lt.mpr q)
      | false =>
        rw [h2] at h
        obtain ⟨h3, h4⟩ := Bool.and_eq_true_iff.mp h
        by_cases q : m < n + a.length
        · rw [yes q]; exact ok_ev y h3 ⟨F.p, F.ex, q, F.hi⟩
        · rw [no q]; exact ok_ev z h4 ⟨F.p, F.ex, F.lo, .inr (Nat.lt_succ_of_le (Nat.not_lt.mp q))⟩
theorem ok_all {P : T → α → Bool} {n : Nat} {a : T} {t : DT α} (h : ok P t [] [] 0 0 = true) : ∃ p', p' <+: a ∧ P p' (t.ev n a) = true :=
  ok_ev t h ⟨List.nil_prefix, (fun _ h => nomatch h), Nat.zero_le _, .inl rfl⟩
noncomputable def both (t : DT α) (u : DT β) : DT (α × β) := t.bind fun x => u.bind fun y => leaf (x, y)
theorem both_ev {n : Nat} {a : T} (t : DT α) (u : DT β) : (both t u).ev n a = (t.ev n a, u.ev n a) := by
  unfold both
  rw [bind_ev, bind_ev]
  rfl
noncomputable def ap (x : Nat × T) (a : T) : T := x.2 ++ a.drop x.1
noncomputable def shift (k : Nat) (s : T) : DT (Nat × T) → DT (Nat × T)
  | leaf x => leaf (k + x.1, s ++ x.2)
  | tst o h y z => tst (k + o) h (shift k s y) (shift k s z)
  | len m y z => len (m + (k - s.length)) (shift k s y) (shift k s z)
theorem lt_sh {m n s k l : Nat} (hk : k ≤ l) (hs : s ≤ k) : m < n + s + (l - k) ↔ m + (k - s) < n + l := by
  obtain ⟨x, rfl⟩ := Nat.exists_eq_add_of_le hk
  obtain ⟨y, rfl⟩ := Nat.exists_eq_add_of_le hs
  rw [Nat.add_sub_cancel_left, Nat.add_sub_cancel_left, ← Nat.add_assoc, ← Nat.add_assoc, Nat.add_right_comm (n + s), Nat.add_lt_add_iff_right]
theorem shift_ev {n k : Nat} {s a : T} (hk : k ≤ a.length) (hs : s.length ≤ k) : ∀ t : DT (Nat × T), ap ((shift k s t).ev n a) a = s ++ ap (t.ev (n + s.length) (a.drop k)) (a.drop k)
  | leaf x => by
    show (s ++ x.2) ++ a.drop (k + x.1) = s ++ (x.2 ++ (a.drop k).drop x.1)
    rw [List.append_assoc, List.drop_drop]
  | tst o h y z => by
    show ap (ite _ _ _) a = s ++ ap (ite _ _ _) _
    rw [List.drop_drop]
    split
    · exact shift_ev hk hs y
    · exact shift_ev hk hs z
  | len m y z => by
    show ap (ite _ _ _) a = s ++ ap (ite _ _ _) _
    rw [List.length_drop]
    by_cases q : m < n + s.length + (a.length - k)
    · rw [if_pos q, if_pos ((lt_sh hk hs).mp q)]; exact shift_ev hk hs y
    · rw [if_neg q, if_neg (fun z => q ((lt_sh hk hs).mpr z))]; exact shift_ev hk hs z
noncomputable def eqv (p : T) (x y : Nat × T) : Bool := Nat.ble x.1 p.length && Nat.ble y.1 p.length && (ap x p == ap y p)
theorem ap_at {p a : T} {x : Nat × T} (h : p <+: a) (hx : x.1 ≤ p.length) : ap x a = ap x p ++ a.drop p.length := by
  obtain ⟨r, rfl⟩ := h
  show x.2 ++ _ = (x.2 ++ _) ++ _
  rw [List.drop_append_of_le_length hx, List.drop_left, List.append_assoc]
theorem eqv_ap {p a : T} {x y : Nat × T} (h : p <+: a) (e : eqv p x y = true) : ap x a = ap y a := by
  obtain ⟨e1, e3⟩ := Bool.and_eq_true_iff.mp e
  obtain ⟨e1, e2⟩ := Bool.and_eq_true_iff.mp e1
  rw [ap_at h (Nat.le_of_ble_eq_true e1), ap_at h (Nat.le_of_ble_eq_true e2), eq_of_beq e3]
noncomputable def any (o : Nat) : List T → DT Bool
  | [] => leaf false
  | w :: r => tst o w (leaf true) (any o r)
theorem any_ev {n o m : Nat} {a : T} : ∀ {l : List T}, (∀ w ∈ l, w.length = m) → (any o l).ev n a = l.contains ((a.drop o).take m)
  | [], _ => rfl
  | w :: r, h => by
    have e : w.isPrefixOf (a.drop o) = ((a.drop o).take m == w) := by
      rw [Bool.eq_iff_iff, List.isPrefixOf_iff_prefix, List.prefix_iff_eq_take, h w (.head _), beq_iff_eq]
      exact eq_comm
    show ite _ true _ = (_ == w || r.contains _)
    rw [any_ev fun w hw => h w (.tail _ hw), e]
    cases (a.drop o).take m == w <;> rfl
end DT
section
open DT
noncomputable abbrev OT := DT (Option (Nat × T))
section
variable {n : Nat} {a : T}
noncomputable def cO (m : Nat) (x : Nat × T) : OT := len m (leaf (some x)) (leaf Option.none)
theorem c_ev {m : Nat} {k : Nat} {s : T} : (cO m (k, s)).ev n a = (if m < n + a.length then some s else Option.none).map fun s => (k, s) := by
  show ite _ _ _ = Option.map _ (ite _ _ _)
  split <;> rfl
noncomputable def orT (t : OT) (f : Nat × T → DT (Nat × T)) (u : DT (Nat × T)) : DT (Nat × T) := t.bind fun | some x => f x | Option.none => u
theorem orT_ev {t : OT} {f : Nat × T → DT (Nat × T)} {u : DT (Nat × T)} : (orT t f u).ev n a = match t.ev n a with | some x => (f x).ev n a | Option.none => u.ev n a := by
  unfold orT
  rw [bind_ev]
  cases t.ev n a <;> rfl
end
end
section
open DT
noncomputable def apR (x : Nat × T) (t : T) : T := (ap x t.reverse).reverse
noncomputable def cu (L : T → Nat) : List T → OT
  | [] => leaf Option.none
  | e :: r => tst 0 e.reverse (cO (L e + e.length) (e.length, [])) (cu L r)
noncomputable abbrev selfT : DT (Nat × T) := leaf (0, [])
theorem apR_self (t : T) : apR (0, []) t = t := List.reverse_reverse t
theorem apR_take (k : Nat) (s t : T) : apR (k, s) t = t.take (t.length - k) ++ s.reverse := by
  show (s ++ t.reverse.drop k).reverse = _
  rw [List.reverse_append, List.reverse_drop, List.reverse_reverse, List.length_reverse]
theorem cut_cons (L : T → Nat) (e : T) (r : List T) (t : T) : cutL L (e :: r) t = if e.reverse.isPrefixOf t.reverse = true then (if L e ≤ t.length - e.length then some (t.take (t.length - e.length)) else Option.none) else cutL L r t := by
  unfold cutL
  rw [List.find?_cons]
  show Option.bind (match e.reverse.isPrefixOf t.reverse with | true => _ | false => _) _ = _
  cases e.reverse.isPrefixOf t.reverse <;> rfl
theorem le_c {L k l : Nat} (h : k ≤ l) : L ≤ l - k ↔ L + k < 1 + l := by
  rw [Nat.le_sub_iff_add_le h, Nat.add_comm 1]
  exact Nat.lt_succ_iff.symm
section
variable {L : T → Nat} {t : T}
theorem rev_le {e : T} (q : e.reverse.isPrefixOf t.reverse = true) : e.length ≤ t.length := by
  have := (List.isPrefixOf_iff_prefix.mp q).length_le
  rwa [List.length_reverse, List.length_reverse] at this
theorem cu_ev : ∀ l : List T, cutL L l t = ((cu L l).ev 1 t.reverse).map fun x => apR x t
  | [] => rfl
  | e :: l => by
    rw [cut_cons, cu_ev l]
    show _ = Option.map _ (ite _ (ite _ _ _) _)
    rw [List.drop_zero, List.length_reverse]
    by_cases q : e.reverse.isPrefixOf t.reverse = true
    · rw [if_pos q, if_pos q]
      by_cases z : L e ≤ t.length - e.length
      · rw [if_pos z, if_pos ((le_c (rev_le q)).mp z)]
        show some _ = some (apR (e.length, []) t)
        rw [apR_take, List.reverse_nil, List.append_nil]
      · rw [if_neg z, if_neg fun y => z ((le_c (rev_le q)).mpr y)]; rfl
    · rw [if_neg q, if_neg q]
theorem cu_le {x : Nat × T} : ∀ {l : List T}, (cu L l).ev 1 t.reverse = some x → x.1 ≤ t.length ∧ x.2 = []
  | [], q => nomatch q
  | e :: l, q => by
    replace q : ite _ (ite _ _ _) _ = some x := q
    split at q
    · rename_i z
      split at q
      · cases q; exact ⟨rev_le z, rfl⟩
      · cases q
    · exact cu_le q
theorem or_cu {l : List T} {u : DT (Nat × T)} {B : T} (h : B = apR (u.ev 1 t.reverse) t) : (match cutL L l t with | some x => x | Option.none => B) = apR ((orT (cu L l) leaf u).ev 1 t.reverse) t := by
  rw [cu_ev, orT_ev]
  cases (cu L l).ev 1 t.reverse with
  | some x => rfl
  | none => exact h
theorem getD_cu {l : List T} : (cutL L l t).getD t = apR ((orT (cu L l) leaf selfT).ev 1 t.reverse) t := by
  rw [cu_ev, orT_ev]
  cases (cu L l).ev 1 t.reverse with
  | some x => rfl
  | none => exact (apR_self t).symm
theorem shR {k : Nat} (hk : k ≤ t.length) (u : DT (Nat × T)) : apR ((shift k [] u).ev 1 t.reverse) t = apR (u.ev 1 (apR (k, []) t).reverse) (apR (k, []) t) := by
  unfold apR
  rw [shift_ev (by rw [List.length_reverse]; exact hk) (Nat.zero_le _), List.reverse_reverse]
  rfl
end
theorem verb_none {t : T} (h : verb t = Option.none) : cutL lim g_law_owners t = Option.none ∧ cutL lim e1 t = Option.none ∧ cutL lim g_law_persons t = Option.none := by
  unfold verb at h
  cases h1 : cutL lim g_law_owners t with
  | some y => rw [h1] at h; cases h
  | none =>
    rw [h1] at h
    cases h2 : cutL lim e1 t with
    | some y => simp only at h; rw [h2] at h; cases h
    | none => simp only at h; rw [h2] at h; exact ⟨rfl, rfl, h⟩
noncomputable def noT (t : OT) (u : DT Bool) : DT Bool := t.bind fun x => cond x.isSome (leaf true) u
theorem noT_ev {l : List T} {t : T} (h : cutL lim l t = Option.none) (u : DT Bool) : (noT (cu lim l) u).ev 1 t.reverse = u.ev 1 t.reverse := by
  rw [cu_ev, Option.map_eq_none_iff] at h
  unfold noT
  rw [bind_ev, h]
  rfl
theorem n1 {t : T} (h : verb t = Option.none) : cutL lim A10 t = Option.none := by
  obtain ⟨h1, h2, h3⟩ := verb_none h
  obtain ⟨p, hp, e⟩ := ok_all (P := fun _ b => b) (n := 1) (a := t.reverse) (t := noT (cu lim g_law_owners) (noT (cu lim e1) (noT (cu lim g_law_persons) ((cu lim A10).bind fun x => leaf x.isNone)))) (by decide +kernel)
  rw [noT_ev h1, noT_ev h2, noT_ev h3, bind_ev] at e
  rw [cu_ev, Option.map_eq_none_iff]
  exact Option.isNone_iff_eq_none.mp e
end
noncomputable def stemT (w : T) : T := post (pref (suf (pre w) (chk w)) (chk w))
theorem flat_len {f : Nat → T} {m : Nat} (h : ∀ x, (f x).length ≤ m) : ∀ t : T, (t.flatMap f).length ≤ m * t.length
  | [] => by simp
  | x :: t => by
    have h1 := h x
    have h2 := flat_len h t
    rw [List.flatMap_cons, List.length_append, List.length_cons, Nat.mul_add, Nat.mul_one]
    omega
theorem put_len {rows : List Row} {menu : List T} {D : List (T × Int)} (O : Ones rows menu D) (x : Nat) : (put menu D x).length ≤ 2 := by
  cases h : hit D x with
  | none => unfold put; rw [h]; exact (by decide : 1 ≤ 2)
  | some e => exact (put_at O h).2.2.2.2
theorem pre_len (t : T) : (pre t).length ≤ 2 * t.length := flat_len (put_len ones_0) t
theorem maq_len (t : T) : ((maq t).getD t).length ≤ t.length := by
  unfold maq
  split
  · rename_i q
    obtain ⟨p, rfl⟩ := List.isSuffixOf_iff_suffix.mp q
    show (List.take _ (p ++ [1609]) ++ [1610]).length ≤ _
    rw [List.take_left' (l₁ := p) (by rw [List.length_append]; rfl), List.length_append, List.length_append]
    exact Nat.le_refl _
  · exact Nat.le_refl _
theorem finN_len (t : T) (d : Bool) : (finN t d).length ≤ t.length := or_le (nounA_len t d) (Nat.le_trans (maq_len _) (nounA_len t d))
theorem verb_len {t x : T} (h : verb t = some x) : x.length ≤ t.length := by
  unfold verb at h
  split at h
  · cases h
    have h1 := (strip_len t.length t).1
    cases q : cutL lim g_law_persons (strip t.length t) with
    | some x => exact Nat.le_trans (cut_le q) h1
    | none => exact getD_le h1
  · split at h
    · rename_i x q; cases h; exact cut_le q
    · exact cut_le h
theorem suf_len (t : T) (d : Bool) : (suf t d).length ≤ t.length := by
  unfold suf
  split
  · exact finN_len t true
  · split
    · rename_i x q; exact verb_len q
    · exact finN_len t false
theorem m_385 {k : Nat} {w : T} {bra ket : Option Int} {bn bv bd : Option Bool} (hw : w.length ≤ 800) :
    ∃ (l lb : Int) (b' k' : Option Int) (bn' bv' bd' : Option Bool), Phi_ (k + 5) 385 [] (M w 0 w.length 0 bra ket bn bv bd) = some (.bool true, M (stemT w) 0 l lb b' k' bn' bv' bd') := by
  obtain ⟨c1, b1, k1, r1, z1⟩ := m_252 k w 0 w.length bra ket (some true) (some true) (some false) (Nat.le_trans hw (by decide)) rfl rfl
  have z1' : Phi_ (k + 4) 252 [] (M w 0 w.length 0 bra ket (some true) (some true) (some false)) = some (.bool r1, M w c1 w.length 0 b1 k1 (some true) (some (!(chk w))) (some (chk w))) := by
    rw [z1]; cases chk w <;> rfl
  have l0 : 2 * w.length ≤ 1600 := Nat.mul_le_mul_left 2 hw
  obtain ⟨b2, k2, z2⟩ := m_238 (k := k + 1) (t := w) (c := 0) (l := w.length) (lb := 0) (bra := b1) (ket := k1) (bn := some true) (bv := some (!(chk w))) (bd := some (chk w)) rfl rfl (Nat.le_trans l0 (by decide))
  have l1 := Nat.le_trans (pre_len w) l0
  have hst : stemT w = post (pref (suf (pre w) (chk w)) (chk w)) := rfl
  generalize chk w = d at z1' z2 hst
  generalize pre w = t at z2 l1 hst
  have l2 := Nat.le_trans (suf_len t d) l1
  have l3 := Nat.le_trans (pref_len (suf t d) d) (Nat.add_le_add_right l2 6)
  refine phi_res (n := 17) (np := 1) (b := c385) (Q := fun r => ∃ (l lb : Int) (b' k' : Option Int) (bn' bv' bd' : Option Bool), r = some (.bool true, M (stemT w) 0 l lb b' k' bn' bv' bd')) rfl rfl ?_
  rw [c385_eq, hst]
  refine r_s (σ' := M w 0 w.length 0 bra ket (some true) bv bd) rfl (r_s (σ' := M w 0 w.length 0 bra ket (some true) (some true) bd) rfl (r_s (σ' := M w 0 w.length 0 bra ket (some true) (some true) (some false)) rfl (r_asg (v := .int 0) rfl (r_doB rfl z1' (r_cur rfl (ev_v rfl) (r_doB rfl z2 ?_))))))
  refine r_s (σ' := M t 0 t.length 0 b2 k2 (some true) (some (!d)) (some d)) rfl (r_s (σ' := M t t.length t.length 0 b2 k2 (some true) (some (!d)) (some d)) rfl (r_save rfl (r_tryS ?_)))
  refine (W3_run t _ _ _ _ _ _ _ _ _ _ _ _ _ _ _ _ b2 k2 d (Nat.le_trans l1 (by decide)) (fun _ => n1)).mono ?_
  rintro o ρ σ ⟨x3, x4, x5, x6, x7, x8, x9, x10, x11, c3, b3, k3, rfl, rfl, rfl⟩
  refine sq (r_reset rfl rfl (r_cur rfl (ev_f rfl .lb) (r_asg (v := .int 0) rfl ?_)))
  generalize suf t d = u at l2 l3 ⊢
  have fin : ∀ (ρ : Loc) (c : Int) (b' k' : Option Int) (bn bv : Option Bool), Up 13 (R17 (some (.int 0)) (some (.int 0)) x3 x4 x5 x6 x7 x8 x9 x10 x11 (some (.int 0)) Option.none Option.none Option.none Option.none) ρ →
      Res (fun o ρ σ => ∃ (l lb : Int) (b' k' : Option Int) (bn' bv' bd' : Option Bool), out (some (o, (ρ, σ))) = some (.bool true, M (post (pref u d)) 0 l lb b' k' bn' bv' bd')) (evB loop (Phi_ (k + 4)) (Psi_ (k + 4)) (.cons (.setF 0 .cursor (.var 12)) (.cons (.xpr (.call0 0 245)) (.cons (.ret (.lit (.bool true))) .nil))) (ρ, M (pref u d) c (pref u d).length 0 b' k' bn bv (some d))) := by
    intro ρ c b' k' bn bv up
    obtain ⟨l5, lb5, b5, k5, z5⟩ := m_245 (k := k + 1) (t := pref u d) (c := 0) (l := (pref u d).length) (lb := 0) (bra := b') (ket := k') (bn := bn) (bv := bv) (bd := some d) rfl rfl (Nat.le_trans (Nat.mul_le_mul_left 2 l3) (by decide))
    have h0 : nth ρ 0 = some .me := up.2 0 (by decide)
    exact r_cur h0 (ev_v (up.2 12 (by decide))) (r_doB h0 z5 (r_ret rfl ⟨l5, lb5, b5, k5, bn, bv, some d, rfl⟩))
  exact r_try (PREB_run u d rfl rfl b3 k3 (Nat.le_trans l2 (by decide)) (fun ρ c b' k' bn bv up => tn (fin ρ c b' k' bn bv up)) (fun ρ c b' k' bn bv up => tryQ_exc (fin ρ c b' k' bn bv up)) (Up.refl _ _))
theorem m_42 {k : Nat} {w : T} {σ : St} (hw : w.length ≤ 5000) : Phi_ (k + 1) 42 [.str w] σ = some (.none, M w 0 w.length 0 (some 0) (some w.length) σ.bn σ.bv σ.bd) := by
  refine phi_res (n := 2) (np := 2) (b := c42) (Q := fun r => r = some (.none, M w 0 w.length 0 (some 0) (some w.length) σ.bn σ.bv σ.bd)) rfl rfl ?_
  refine r_s (σ' := { σ with cur := some w }) rfl (r_s (σ' := { σ with cur := some w, cursor := some 0 }) rfl (r_s (ρ' := [some .me, some (.str w)]) (σ' := { σ with cur := some w, cursor := some 0, limit := some w.length }) ?_ (rfl : out (some (.next, ([some .me, some (.str w)], M w 0 w.length 0 (some 0) (some w.length) σ.bn σ.bv σ.bd))) = _)))
  have e : ev' (Phi_ k) (Psi_ k) (.bi1 .len (.fld 0 .cur)) [some .me, some (.str w)] { σ with cur := some w, cursor := some 0 } = some (.int w.length, { σ with cur := some w, cursor := some 0 }) := congrArg (rt _) (b_len (Nat.le_trans hw (by decide)))
  exact (congrArg (sFld .limit [some .me, some (.str w)] (some .me)) e).trans rfl
theorem m_49 {k : Nat} {w : T} {c l lb : Int} {bra ket : Option Int} {bn bv bd : Option Bool} : Phi_ (k + 1) 49 [] (M w c l lb bra ket bn bv bd) = some (.str w, M w c l lb bra ket bn bv bd) :=
  (phi_out (n := 1) (np := 1) (b := c49) rfl rfl).trans rfl
theorem stemWord {k : Nat} {w : T} {σ : St} (hw : w.length ≤ 800) : ∃ σ', Phi_ (k + 6) 189 [.str w] σ = some (.str (stemT w), σ') := by
  obtain ⟨l, lb, b', k', bn', bv', bd', z2⟩ := m_385 (k := k) (w := w) (bra := some 0) (ket := some w.length) (bn := σ.bn) (bv := σ.bv) (bd := σ.bd) hw
  refine phi_res (n := 2) (np := 2) (b := c189) (Q := fun r => ∃ σ', r = some (.str (stemT w), σ')) rfl rfl ?_
  exact r_do1e rfl rfl (m_42 (k := k + 4) (σ := σ) (Nat.le_trans hw (by decide))) (r_doB rfl z2 (r_ret (m_49 (k := k + 4)) ⟨_, rfl⟩))
theorem asS_some {o : Option V} {t : T} (h : o.bind asS = some t) : o = some (.str t) := by
  obtain ⟨v, rfl, hv⟩ := Option.bind_eq_some_iff.mp h
  rw [asS_eq hv]
theorem items_str {t : T} (h : t.length ≤ 5000) : itemsOf (.str t) = some (t.map fun c => .str [c]) :=
  if_pos (by rw [List.length_map]; exact Nat.le_trans h (by decide))
theorem items_strs {t : List T} (h : t.length ≤ 5000) : itemsOf (.strs t) = some (t.map .str) :=
  if_pos (by rw [List.length_map]; exact Nat.le_trans h (by decide))
theorem o_fdiv {a b : Int} (h : 0 < b ∧ b < 1000) : opV .fdiv (.int a) (.int b) = some (.int (a.fdiv b)) := if_pos h
theorem o_mod {a b : Int} (h : 0 < b) : opV .mod (.int a) (.int b) = some (.int (a.fmod b)) := if_pos h
noncomputable abbrev two_ : List T := [[1570], [1571], [1572], [1573], [1575], [1577], [1583], [1584], [1585], [1586], [1608], [1609]]
noncomputable def sh (x : Nat) : Nat := cond (decide (([x] : T) = [1569])) 1 (cond (two_.contains [x]) 2 4)
noncomputable def unshG : T → Nat → Sum Nat Nat
  | [], p => .inr p
  | x :: ls, p => if p < sh x then .inl x else unshG ls (p - sh x)
noncomputable def uB : Bk := (.cons (.asg 2 (.ife (.cmp .eq (.var 1) (.lit (.str [1569]))) (.lit (.int 1)) (.ife (.isIn (.var 1) (.strsD [[1570], [1571], [1572], [1573], [1575], [1577], [1583], [1584], [1585], [1586], [1608], [1609]])) (.lit (.int 2)) (.lit (.int 4))))) (.cons (.ite (.cmp .lt (.var 0) (.var 2)) (.cons (.ret (.var 1)) .nil) .nil) (.cons (.asg 0 (.bin .sub (.var 0) (.var 2))) .nil)))
theorem c1164_eq : c1164 = (.cons (.forE 1 (.gl (.str g_law_letters)) uB) (.cons (.ret (.bin .add (.lit (.str [1604])) (.idx (.lit (.str [1570, 1571, 1573, 1575])) (.bin .fdiv (.var 0) (.lit (.int 2)))))) .nil)) := rfl
section
variable {Φ : Phi} {Ψ : Psi} {P : Out → Loc → St → Prop} {σ : St}
theorem sh_ev {ρ : Loc} {x : Nat} (h : nth ρ 1 = some (.str [x])) : ev' Φ Ψ (.ife (.cmp .eq (.var 1) (.lit (.str [1569]))) (.lit (.int 1)) (.ife (.isIn (.var 1) (.strsD [[1570], [1571], [1572], [1573], [1575], [1577], [1583], [1584], [1585], [1586], [1608], [1609]])) (.lit (.int 2)) (.lit (.int 4)))) ρ σ = some (.int (sh x : Nat), σ) := by
  rw [vl_ife (ev_c2 (ev_v h) rfl (c_seq _ _)) rfl (vl_ife (ev_in (ev_v h) rfl) rfl rfl)]
  unfold sh
  cases decide (([x] : T) = [1569]) with
  | true => rfl
  | false => cases two_.contains [x] <;> rfl
theorem uB_run : ∀ (ls : T) (p : Nat) (v1 v2 : Option V), (match unshG ls p with | .inl x => ∀ ρ, P (.ret (.str [x])) ρ σ | .inr q => ∀ v1 v2, P .next [some (.int q), v1, v2] σ) →
    Res P (evFor (turnX loop Φ Ψ 1 uB) (ls.map fun c => .str [c]) ([some (.int p), v1, v2], σ))
  | [], p, v1, v2, h => h v1 v2
  | x :: ls, p, v1, v2, h => by
    refine r_for (r_asg (ρ := [some (.int p), some (.str [x]), v2]) (sh_ev rfl) (r_iteP (p := p < sh x) ((ev_c2 rfl rfl (c_int _ _ _)).trans (by rw [ci_lt, decide_eq_decide.mpr Int.ofNat_lt])) (fun q => ?_) fun q => ?_))
    · rw [show unshG (x :: ls) p = .inl x from if_pos q] at h
      exact h _
    · rw [show unshG (x :: ls) p = unshG ls (p - sh x) from if_neg q] at h
      refine r_asg (v := .int ((p : Int) - (sh x : Nat))) rfl ?_
      rw [← Int.ofNat_sub (Nat.not_lt.mp q)]
      exact uB_run ls _ _ _ h
end
noncomputable def unshT (p : Nat) : T := match unshG g_law_letters p with
  | .inl x => [x]
  | .inr q => [1604, ([1570, 1571, 1573, 1575] : T).getD (q / 2) 0]
theorem unsh_all : (List.range 125).all (fun p => decide (unshT p = put tas_0 D_0 (65152 + p)) && (match unshG g_law_letters p with | .inl _ => true | .inr q => decide (q < 8))) = true := by decide +kernel
theorem m_1164 {k p : Nat} (h : p < 125) : Psi_ (k + 1) 1164 [.int p] = some (.str (put tas_0 D_0 (65152 + p))) := by
  obtain ⟨h1, h2⟩ := Bool.and_eq_true_iff.mp (List.all_eq_true.mp unsh_all p (List.mem_range.mpr h))
  rw [← of_decide_eq_true h1]
  refine psi_end (n := 3) (np := 1) (d := c1164) rfl (by decide) rfl fun σ => ?_
  rw [c1164_eq]
  refine r_forE rfl (items_str (t := g_law_letters) (by decide)) (uB_run _ _ _ _ ?_)
  unfold unshT
  cases hg : unshG g_law_letters p with
  | inl x => exact fun _ => rfl
  | inr q =>
    rw [hg] at h2
    have h2 : q < 8 := of_decide_eq_true h2
    refine fun v1 v2 => sq (r_ret (vl_cat (s := [1604]) (s' := [([1570, 1571, 1573, 1575] : T).getD (q / 2) 0]) rfl (ev_x2 (x := .str [1570, 1571, 1573, 1575]) (y := .int (q / 2 : Nat)) rfl (ev_b2 (x := .int q) (y := .int 2) rfl rfl ((o_fdiv (by decide)).trans (by rw [Int.fdiv_eq_ediv_of_nonneg _ (by decide)]; rfl))) ?_) (by decide : 1 + 1 ≤ 100000)) rfl)
    exact asS_some ((by decide : ∀ q < 8, (idxV (.str [1570, 1571, 1573, 1575]) (.int (q / 2 : Nat))).bind asS = some [([1570, 1571, 1573, 1575] : T).getD (q / 2) 0]) q h2)
theorem at_ {a x : Nat} {Q : Nat → Prop} {b : Nat} (h : ∀ i < b, Q (a + i)) (h1 : a ≤ x) (h2 : x < a + b) : Q x := by
  obtain ⟨i, rfl⟩ := Nat.exists_eq_add_of_le h1
  exact h i (Nat.lt_of_add_lt_add_left h2)
theorem put_other {x : Nat} (h1 : ¬ (65152 ≤ x ∧ x ≤ 65276)) (h2 : ¬ (1632 ≤ x ∧ x ≤ 1641)) (h3 : ¬ (x = 1600 ∨ (1611 ≤ x ∧ x ≤ 1618))) : put tas_0 D_0 x = [x] := by
  have h : D_0.all (fun e => match e.1 with | [y] => decide ((65152 ≤ y ∧ y ≤ 65276) ∨ (1632 ≤ y ∧ y ≤ 1641) ∨ y = 1600 ∨ (1611 ≤ y ∧ y ≤ 1618)) | _ => false) = true := by decide +kernel
  have e : hit D_0 x = Option.none := List.find?_eq_none.mpr fun e he q => by
    have := List.all_eq_true.mp h e he
    rw [eq_of_beq q] at this
    exact (of_decide_eq_true this).elim h1 fun q => q.elim h2 h3
  unfold put
  rw [e]
noncomputable def pB : Bk := (.cons (.asg 3 (.bi1 .ord (.var 2))) (.cons (.ite (.and2 (.cmp .le (.lit (.int 65152)) (.var 3)) (.cmp .le (.var 3) (.lit (.int 65276)))) (.cons (.asg 1 (.bin .add (.var 1) (.fn1 1164 (.bin .sub (.var 3) (.lit (.int 65152)))))) .nil) (.cons (.ite (.and2 (.cmp .le (.lit (.int 1632)) (.var 3)) (.cmp .le (.var 3) (.lit (.int 1641)))) (.cons (.asg 1 (.bin .add (.var 1) (.idx (.lit (.str [48, 49, 50, 51, 52, 53, 54, 55, 56, 57])) (.bin .sub (.var 3) (.lit (.int 1632)))))) .nil) (.cons (.ite (.and2 (.cmp .ne (.var 3) (.lit (.int 1600))) (.or2 (.cmp .lt (.var 3) (.lit (.int 1611))) (.cmp .gt (.var 3) (.lit (.int 1618))))) (.cons (.asg 1 (.bin .add (.var 1) (.var 2))) .nil) .nil) .nil)) .nil)) .nil))
theorem c1171_eq : c1171 = (.cons (.asg 1 (.lit (.str []))) (.cons (.forE 2 (.var 0) pB) (.cons (.ret (.var 1)) .nil))) := rfl
section
variable {Φ : Phi} {Ψ : Psi} {ρ : Loc} {σ : St} {x : Nat} (h : nth ρ 3 = some (.int x))
include h
theorem ev_btw (a b : Nat) : ev' Φ Ψ (.and2 (.cmp .le (.lit (.int a)) (.var 3)) (.cmp .le (.var 3) (.lit (.int b)))) ρ σ = some (.bool (decide (a ≤ x ∧ x ≤ b)), σ) := by
  have e : (decide ((a : Int) ≤ x) && decide ((x : Int) ≤ b)) = decide (a ≤ x ∧ x ≤ b) := by
    rw [Bool.decide_and, decide_eq_decide.mpr Int.ofNat_le, decide_eq_decide.mpr Int.ofNat_le]
  rw [← e]
  exact ev_and (ev_c2 rfl (ev_v h) (c_int _ _ _)) (ev_c2 (ev_v h) rfl (c_int _ _ _))
theorem ev_out : ev' Φ Ψ (.and2 (.cmp .ne (.var 3) (.lit (.int 1600))) (.or2 (.cmp .lt (.var 3) (.lit (.int 1611))) (.cmp .gt (.var 3) (.lit (.int 1618))))) ρ σ = some (.bool (decide (¬ (x = 1600 ∨ (1611 ≤ x ∧ x ≤ 1618)))), σ) := by
  have e : (!decide ((x : Int) = 1600) && (decide ((x : Int) < 1611) || decide ((1618 : Int) < x))) = decide (¬ (x = 1600 ∨ (1611 ≤ x ∧ x ≤ 1618))) := by
    rw [Bool.eq_iff_iff, decide_eq_true_iff, Bool.and_eq_true_iff, Bool.or_eq_true_iff, Bool.not_eq_true', decide_eq_false_iff_not, decide_eq_true_iff, decide_eq_true_iff]
    omega
  rw [← e]
  exact ev_and (ev_c2 (ev_v h) rfl (c_int _ _ _)) (ev_or (ev_c2 (ev_v h) rfl (c_int _ _ _)) (ev_c2 (ev_v h) rfl (c_int _ _ _)))
end
theorem pB_turn {k : Nat} {x : Nat} {acc : T} {w v3 : Option V} {σ : St} {P : Out → Loc → St → Prop} (ha : acc.length ≤ 5000) (h : P .next [w, some (.str (acc ++ put tas_0 D_0 x)), some (.str [x]), some (.int x)] σ) :
    Res P (evB loop (Phi_ (k + 1)) (Psi_ (k + 1)) pB ([w, some (.str acc), some (.str [x]), v3], σ)) := by
  have hp : acc.length + (put tas_0 D_0 x).length ≤ 100000 := Nat.le_trans (Nat.add_le_add ha (put_len ones_0 x)) (by decide)
  have a1 : nth [w, some (.str acc), some (.str [x]), some (.int x)] 1 = some (.str acc) := rfl
  have a3 : nth [w, some (.str acc), some (.str [x]), some (.int x)] 3 = some (.int x) := rfl
  refine r_asg (ρ := [w, some (.str acc), some (.str [x]), v3]) (v := .int x) rfl (r_iteD (ev_btw a3 65152 65276) (fun q => ?_) fun h1 => ?_)
  · have z := m_1164 (k := k) (p := x - 65152) (Nat.sub_lt_left_of_lt_add q.1 (Nat.lt_succ_of_le q.2))
    rw [Nat.add_sub_cancel' q.1, Int.ofNat_sub q.1] at z
    exact r_asg (vl_cat (ev_v a1) (ev_fn1 (ev_b2 (ev_v a3) rfl rfl) z) hp) h
  · refine r_iteD (ev_btw a3 1632 1641) (fun q => ?_) fun h2 => ?_
    · refine r_asg (vl_cat (s' := put tas_0 D_0 x) (ev_v a1) (ev_x2 (x := .str [48, 49, 50, 51, 52, 53, 54, 55, 56, 57]) rfl (ev_b2 (x := .int x) (y := .int 1632) (ev_v a3) rfl rfl) ?_) hp) h
      exact asS_some (at_ (Q := fun x => (idxV (.str [48, 49, 50, 51, 52, 53, 54, 55, 56, 57]) (.int ((x : Int) - 1632))).bind asS = some (put tas_0 D_0 x)) (by decide +kernel : ∀ i < 10, _) q.1 (Nat.lt_succ_of_le q.2))
    · refine r_iteD (ev_out a3) (fun q => ?_) fun q => ?_
      · rw [put_other h1 h2 q] at h hp
        exact r_asg (vl_cat (ev_v a1) rfl hp) h
      · have e : put tas_0 D_0 x = [] := (Classical.not_not.mp q).elim (fun e => e ▸ (by decide +kernel)) fun q => at_ (Q := fun x => put tas_0 D_0 x = []) (by decide +kernel : ∀ i < 8, _) q.1 (Nat.lt_succ_of_le q.2)
        rw [e, List.append_nil] at h
        exact h
theorem pre_cons (x : Nat) (t acc : T) : acc ++ pre (x :: t) = (acc ++ put tas_0 D_0 x) ++ pre t := by
  unfold pre
  rw [List.flatMap_cons, List.append_assoc]
theorem pB_run {k : Nat} {w : Option V} {σ : St} {P : Out → Loc → St → Prop} : ∀ (t acc : T) (v2 v3 : Option V), acc.length + 2 * t.length ≤ 5000 → (∀ v2 v3, P .next [w, some (.str (acc ++ pre t)), v2, v3] σ) →
    Res P (evFor (turnX loop (Phi_ (k + 1)) (Psi_ (k + 1)) 2 pB) (t.map fun c => .str [c]) ([w, some (.str acc), v2, v3], σ))
  | [], acc, v2, v3, _, h => by
    have := h v2 v3
    rw [show acc ++ pre [] = acc from List.append_nil acc] at this
    exact this
  | x :: t, acc, v2, v3, hn, h => by
    rw [List.length_cons, Nat.mul_add] at hn
    refine r_for (pB_turn (Nat.le_trans (Nat.le_add_right _ _) hn) (pB_run t _ _ _ ?_ fun v2 v3 => pre_cons x t acc ▸ h v2 v3))
    rw [List.length_append, Nat.add_assoc]
    refine Nat.le_trans (Nat.add_le_add_left ?_ _) hn
    rw [Nat.add_comm]
    exact Nat.add_le_add_left (put_len ones_0 x) _
theorem m_1171 {k : Nat} {t : T} (h : t.length ≤ 2000) : Psi_ (k + 2) 1171 [.str t] = some (.str (pre t)) := by
  refine psi_end (n := 4) (np := 1) (d := c1171) rfl (by decide) rfl fun σ => ?_
  rw [c1171_eq]
  refine r_asg (v := .str []) rfl (r_forE rfl (items_str (Nat.le_trans h (by decide))) (pB_run t [] _ _ ?_ fun v2 v3 => sq (r_ret rfl rfl)))
  rw [List.length_nil, Nat.zero_add]
  exact Nat.le_trans (Nat.mul_le_mul_left 2 h) (by decide)
noncomputable def lB : Bk := (.cons (.ite (.sm .ends (.var 0) (.var 2)) (.cons (.asg 3 (.slHi (.var 0) (.bin .sub (.bi1 .len (.var 0)) (.bi1 .len (.var 2))))) (.cons (.ret (.ife (.cmp .ge (.bi1 .len (.var 3)) (.ife (.isIn (.var 2) (.strsD [[1575, 1606], [1608, 1606], [1610, 1606]])) (.lit (.int 4)) (.lit (.int 3)))) (.var 3) (.var 0))) .nil)) .nil) .nil)
theorem c1178_eq : c1178 = (.cons (.forE 2 (.var 1) lB) (.cons (.ret (.var 0)) .nil)) := rfl
noncomputable def less (ends : List T) (w : T) : T := (cutL lim ends w).getD w
theorem less_no {e : T} {r : List T} {w : T} (h : e.isSuffixOf w = false) : less (e :: r) w = less r w := by
  unfold less cutL
  rw [List.find?_cons, h]
theorem less_yes {e : T} {r : List T} {w : T} (h : e.isSuffixOf w = true) : less (e :: r) w = if lim e ≤ w.length - e.length then w.take (w.length - e.length) else w := by
  unfold less cutL
  rw [List.find?_cons, h]
  show Option.getD (ite _ _ _) w = _
  split <;> rfl
theorem lim_ev (e : T) : cond (([[1575, 1606], [1608, 1606], [1610, 1606]] : List T).contains e) (V.int 4) (V.int 3) = .int (lim e : Nat) := by
  have hc : ([[1575, 1606], [1608, 1606], [1610, 1606]] : List T).contains e = true ↔ (e = [1575, 1606] ∨ e = [1608, 1606] ∨ e = [1610, 1606]) := by
    rw [List.contains_iff_mem, List.mem_cons, List.mem_cons, List.mem_singleton]
  unfold lim
  cases h : ([[1575, 1606], [1608, 1606], [1610, 1606]] : List T).contains e with
  | true => rw [if_pos (hc.mp h)]; rfl
  | false => rw [if_neg fun q => by rw [hc.mpr q] at h; cases h]; rfl
section
variable {Φ : Phi} {Ψ : Psi} {w : T} {ve : Option V} {σ : St} {P : Out → Loc → St → Prop} (hw : w.length ≤ 5000)
include hw
theorem lB_run : ∀ (ends : List T) (v2 v3 : Option V), (∀ e ∈ ends, e.length ≤ 100) → (less ends w = w → ∀ v2 v3, P .next [some (.str w), ve, v2, v3] σ) → (∀ ρ, P (.ret (.str (less ends w))) ρ σ) →
    Res P (evFor (turnX loop Φ Ψ 2 lB) (ends.map .str) ([some (.str w), ve, v2, v3], σ))
  | [], v2, v3, _, h1, _ => h1 rfl v2 v3
  | e :: r, v2, v3, h, h1, h2 => by
    refine r_for (r_iteB (ρ := [some (.str w), ve, some (.str e), v3]) (x := e.isSuffixOf w) (vl_sm rfl rfl rfl) (fun hs => ?_) fun hs => ?_)
    · have hl := (List.isSuffixOf_iff_suffix.mp hs).length_le
      have hw' : w.length ≤ 100000 := Nat.le_trans hw (by decide)
      have ht : (w.take (w.length - e.length)).length = w.length - e.length := by rw [List.length_take, Nat.min_eq_left (Nat.sub_le _ _)]
      rw [less_yes hs] at h2
      refine r_asg (ev_hi (n := w.length - e.length) rfl (ev_b2 (ev_lenS rfl hw') (ev_lenS rfl (Nat.le_trans hl hw')) (by rw [o_sub, Int.ofNat_sub hl])) hw') ?_
      refine r_ret (vl_ife (x := decide (((lim e : Nat) : Int) ≤ ((w.take (w.length - e.length)).length : Nat))) (ev_c2 (ev_lenS rfl (by rw [ht]; exact Nat.le_trans (Nat.sub_le _ _) hw')) ((vl_ife (ev_in rfl rfl) rfl rfl).trans (by rw [lim_ev])) (c_int _ _ _)) rfl rfl) ?_
      rw [ht, decide_eq_decide.mpr Int.ofNat_le]
      by_cases q : lim e ≤ w.length - e.length
      · rw [if_pos q] at h2; rw [decide_eq_true q]; exact h2 _
      · rw [if_neg q] at h2; rw [decide_eq_false q]; exact h2 _
    · rw [less_no hs] at h1 h2
      exact lB_run r _ _ (fun e he => h e (.tail _ he)) h1 h2
theorem m_1178 {k : Nat} {ends : List T} (h1 : ends.length ≤ 100) (h2 : ∀ e ∈ ends, e.length ≤ 100) : Psi_ (k + 1) 1178 [.str w, .strs ends] = some (.str (less ends w)) := by
  refine psi_end (n := 4) (np := 2) (d := c1178) rfl (by decide) rfl fun σ => ?_
  rw [c1178_eq]
  exact r_forE rfl (items_strs (Nat.le_trans h1 (by decide))) (lB_run hw _ _ _ h2 (fun e _ _ => sq (r_ret rfl (ret_is (by rw [e])))) fun _ => rfl)
end
noncomputable def oB : Bk := (.cons (.asg 4 (.fn2 1178 (.var 2) (.gl (.strs g_law_owners)))) (.cons (.ite (.cmp .eq (.var 4) (.var 2)) (.cons (.brk) .nil) .nil) (.cons (.asg 2 (.var 4)) .nil)))
noncomputable def rB : Bk := (.cons (.asg 4 (.fn2 1178 (.var 2) (.var 6))) (.cons (.ite (.cmp .ne (.var 4) (.var 2)) (.cons (.ret (.var 4)) .nil) .nil) .nil))
noncomputable def vB : Bk := (.cons (.asg 2 (.var 0)) (.cons (.forE 3 (.var 0) oB) (.cons (.asg 5 (.ife (.cmp .eq (.var 2) (.var 0)) (.pair (.strsD [[1608, 1575], [1578, 1605]]) (.gl (.strs g_law_persons))) (.pair (.gl (.strs g_law_persons)) (.strsD [[1578, 1605, 1608], [1608]])))) (.cons (.forE 6 (.var 5) rB) (.cons (.ite (.cmp .ne (.var 2) (.var 0)) (.cons (.ret (.var 2)) .nil) .nil) .nil)))))
noncomputable def less1 : E := .slHi (.var 0) (.bin .sub (.bi1 .len (.var 0)) (.lit (.int 1)))
noncomputable def q1B : S := (.ite (.sm .ends (.var 0) (.lit (.str [1577]))) (.cons (.asg 0 (.fn2 1178 (.var 0) (.strsD [[1577]]))) .nil) (.cons (.ite (.and3 (.var 1) (.sm .ends (.var 0) (.lit (.str [1606]))) (.cmp .gt (.bi1 .len (.var 0)) (.lit (.int 5)))) (.cons (.asg 0 (.fn2 1178 less1 (.strsD [[1575, 1578], [1575], [1608], [1610], [1578]]))) .nil) (.cons (.ite (.var 1) (.cons (.asg 0 (.fn2 1178 (.var 0) (.strsD [[1575, 1578]]))) .nil) (.cons (.ite (.and2 (.cmp .gt (.bi1 .len (.var 0)) (.lit (.int 4))) (.isIn (.idx (.var 0) (.bin .sub (.bi1 .len (.var 0)) (.lit (.int 1)))) (.strsD [[1575], [1608]]))) (.cons (.asg 0 less1) .nil) .nil) .nil)) .nil)) .nil))
noncomputable def q2B : Bk := (.cons (.ite (.and2 (.sm .ends (.var 0) (.lit (.str [1610]))) (.cmp .gt (.bi1 .len (.var 0)) (.lit (.int 2)))) (.cons (.ret less1) .nil) .nil) (.cons (.ite (.sm .ends (.var 0) (.lit (.str [1609]))) (.cons (.ret (.bin .add less1 (.lit (.str [1610])))) .nil) .nil) (.cons (.ret (.var 0)) .nil)))
theorem c1185_eq : c1185 = (.cons (.ite (.not (.var 1)) vB .nil) (.cons q1B q2B)) := rfl
noncomputable def tail2 (w : T) : T := if ([1610] : T).isSuffixOf w = true ∧ 2 < w.length then w.take (w.length - 1) else if ([1609] : T).isSuffixOf w = true then w.take (w.length - 1) ++ [1610] else w
noncomputable def tail1 (w : T) (n : Bool) : T := if ([1577] : T).isSuffixOf w = true then less [[1577]] w else if n = true ∧ ([1606] : T).isSuffixOf w = true ∧ 5 < w.length then less [[1575, 1578], [1575], [1608], [1610], [1578]] (w.take (w.length - 1)) else if n = true then less [[1575, 1578]] w
  else if 4 < w.length ∧ (([1575] : T).isSuffixOf w = true ∨ ([1608] : T).isSuffixOf w = true) then w.take (w.length - 1) else w
section
variable {k : Nat} {σ : St} {w : T} {ρ : Loc} {Φ : Phi} {Ψ : Psi} {P : Out → Loc → St → Prop} {b : Bk} (hw : w.length ≤ 5000) (h0 : nth ρ 0 = some (.str w))
include hw h0
theorem less1_ev (h : 1 ≤ w.length) : ev' Φ Ψ less1 ρ σ = some (.str (w.take (w.length - 1)), σ) :=
  have hw' : w.length ≤ 100000 := Nat.le_trans hw (by decide)
  ev_hi (ev_v h0) (ev_b2 (ev_lenS (ev_v h0) hw') rfl (by rw [o_sub, Int.ofNat_sub h]; rfl)) hw'
theorem ends_ev (X : Nat) : ev' Φ Ψ (.sm .ends (.var 0) (.lit (.str [X]))) ρ σ = some (.bool (([X] : T).isSuffixOf w), σ) := vl_sm (ev_v h0) rfl rfl
theorem gt_ev (n : Nat) : ev' Φ Ψ (.cmp .gt (.bi1 .len (.var 0)) (.lit (.int n))) ρ σ = some (.bool (decide (n < w.length)), σ) :=
  (ev_c2 (ev_lenS (ev_v h0) (Nat.le_trans hw (by decide))) rfl (c_int _ _ _)).trans (by rw [ci_gt, decide_eq_decide.mpr Int.ofNat_lt])
theorem suf_pos {X : Nat} (h : ([X] : T).isSuffixOf w = true) : 1 ≤ w.length := (List.isSuffixOf_iff_suffix.mp h).length_le
theorem q2_run : Res (RetQ (.str (tail2 w)) σ) (evB loop Φ Ψ q2B (ρ, σ)) := by
  unfold tail2
  refine r_iteB (ev_and (ends_ev hw h0 1610) (gt_ev hw h0 2)) (fun q => ?_) fun q => r_nil (r_iteB (ends_ev hw h0 1609) (fun q2 => ?_) fun q2 => r_nil (r_ret (ev_v h0) (ret_is ?_)))
  · obtain ⟨q1, q2⟩ := Bool.and_eq_true_iff.mp q
    rw [if_pos ⟨q1, of_decide_eq_true q2⟩]
    exact r_ret (less1_ev hw h0 (suf_pos hw h0 q1)) rfl
  · rw [if_neg fun z => ?_, if_pos q2]
    · exact r_ret (vl_cat (less1_ev hw h0 (suf_pos hw h0 q2)) rfl (Nat.le_trans (Nat.add_le_add_right (Nat.le_trans (List.length_take_le _ _) (Nat.le_trans (Nat.sub_le _ _) hw)) _) (by decide))) rfl
    · rw [z.1, decide_eq_true z.2] at q; cases q
  · rw [if_neg fun z => ?_, if_neg fun z => ?_]
    · rw [z] at q2; cases q2
    · rw [z.1, decide_eq_true z.2] at q; cases q
end
section
variable {k : Nat} {σ : St} {w : T} {r : Loc} {P : Out → Loc → St → Prop} {b : Bk} (hw : w.length ≤ 5000)
include hw
theorem q1_run {n : Bool} (h : Res P (evB loop (Phi_ (k + 1)) (Psi_ (k + 1)) b (some (.str (tail1 w n)) :: some (.bool n) :: r, σ))) : Res P (evB loop (Phi_ (k + 1)) (Psi_ (k + 1)) (.cons q1B b) (some (.str w) :: some (.bool n) :: r, σ)) := by
  have h0 : nth (some (.str w) :: some (.bool n) :: r) 0 = some (.str w) := rfl
  have ht : (w.take (w.length - 1)).length ≤ 5000 := Nat.le_trans (List.length_take_le _ _) (Nat.le_trans (Nat.sub_le _ _) hw)
  unfold tail1 at h
  refine r_iteB (ends_ev hw h0 1577) (fun q => ?_) fun q0 => ?_
  · rw [if_pos q] at h
    exact r_asg (ev_fn2 rfl rfl (m_1178 hw (by decide) (by decide))) h
  rw [if_neg fun z => by rw [z] at q0; cases q0] at h
  refine r_iteB (vl_and3 (x := n) rfl (ends_ev hw h0 1606) (gt_ev hw h0 5)) (fun q => ?_) fun q1 => ?_
  · obtain ⟨q1, q2⟩ := Bool.and_eq_true_iff.mp q
    obtain ⟨q2, q3⟩ := Bool.and_eq_true_iff.mp q2
    rw [if_pos ⟨q1, q2, of_decide_eq_true q3⟩] at h
    exact r_asg (ev_fn2 (less1_ev hw h0 (suf_pos hw h0 q2)) rfl (m_1178 ht (by decide) (by decide))) h
  rw [if_neg fun z => by rw [z.1, z.2.1, decide_eq_true z.2.2] at q1; cases q1] at h
  refine r_iteB (x := n) rfl (fun q => ?_) fun q2 => ?_
  · rw [if_pos q] at h
    exact r_asg (ev_fn2 rfl rfl (m_1178 hw (by decide) (by decide))) h
  rw [if_neg fun z => by rw [z] at q2; cases q2] at h
  by_cases h4 : 4 < w.length
  · rcases List.eq_nil_or_concat w with rfl | ⟨p, x, rfl⟩
    · exact absurd h4 (by decide)
    rw [List.concat_eq_append] at hw h0 h4 h ht ⊢
    have hc : ([[1575], [1608]] : List T).contains [x] = decide (([1575] : T).isSuffixOf (p ++ [x]) = true ∨ ([1608] : T).isSuffixOf (p ++ [x]) = true) := by
      rw [suf_x, suf_x, Bool.eq_iff_iff, List.contains_iff_mem, decide_eq_true_iff, decide_eq_true_iff, decide_eq_true_iff, List.mem_cons, List.mem_singleton, List.cons_eq_cons, List.cons_eq_cons, and_iff_left rfl, and_iff_left rfl]
    have hw' : (p ++ [x]).length ≤ 100000 := Nat.le_trans hw (by decide)
    refine r_iteP (p := ([1575] : T).isSuffixOf (p ++ [x]) = true ∨ ([1608] : T).isSuffixOf (p ++ [x]) = true) ((ev_and (gt_ev hw h0 4) (ev_in (ev_x2 (ev_v h0) (ev_b2 (ev_lenS (ev_v h0) hw') rfl rfl) (idx_last p x hw)) rfl)).trans (by rw [decide_eq_true h4, hc]; rfl)) (fun q => ?_) fun q => ?_
    · rw [if_pos ⟨h4, q⟩] at h
      exact r_asg (less1_ev hw h0 (Nat.le_trans (by decide) h4)) h
    · rw [if_neg fun z => q z.2] at h
      exact h
  · rw [if_neg fun z => h4 z.1] at h
    exact r_n (ev_andL (x := false) (y := false) ((gt_ev hw h0 4).trans (by rw [decide_eq_false h4])) fun z => nomatch z) h
end
noncomputable def endedT (w : T) (n : Bool) : T := match n with
  | true => tail2 (tail1 w true)
  | false => match verb w with
    | some x => x
    | Option.none => tail2 (tail1 w false)
theorem less_none {ends : List T} {w : T} (h : cutL lim ends w = Option.none) : less ends w = w := by unfold less; rw [h]; rfl
theorem less_some {ends : List T} {w x : T} (h : cutL lim ends w = some x) : less ends w = x := by unfold less; rw [h]; rfl
theorem less_ne {ends : List T} {w x : T} (hn : ∀ e ∈ ends, e ≠ []) (h : cutL lim ends w = some x) : x ≠ w := fun q =>
  absurd (cut_len hn h) (by rw [q]; exact Nat.lt_irrefl _)
theorem less_len (ends : List T) (t : T) : (less ends t).length ≤ t.length := getD_le (Nat.le_refl _)
theorem tail1_len (w : T) (n : Bool) : (tail1 w n).length ≤ w.length := by
  have l4 : (w.take (w.length - 1)).length ≤ w.length := Nat.le_trans (List.length_take_le _ _) (Nat.sub_le _ _)
  unfold tail1
  split
  · exact less_len _ _
  · split
    · exact Nat.le_trans (less_len _ _) l4
    · split
      · exact less_len _ _
      · split
        · exact l4
        · exact Nat.le_refl _
section
variable {k : Nat} {σ : St} {P : Out → Loc → St → Prop} {b : T}
theorem oB_run {v0 v1 v5 v6 : Option V} : ∀ (cs b : T) (v3 v4 : Option V), b.length ≤ 5000 → (∀ v3 v4, P .next [v0, v1, some (.str (strip cs.length b)), v3, v4, v5, v6] σ) →
    Res P (evFor (turnX loop (Phi_ (k + 1)) (Psi_ (k + 1)) 3 oB) (cs.map fun c => .str [c]) ([v0, v1, some (.str b), v3, v4, v5, v6], σ))
  | [], b, v3, v4, _, h => h v3 v4
  | c :: cs, b, v3, v4, hb, h => by
    refine r_for (r_asg (ρ := [v0, v1, some (.str b), some (.str [c]), v4, v5, v6]) (ev_fn2 rfl rfl (m_1178 hb (by decide) (by decide))) ?_)
    cases hc : cutL lim g_law_owners b with
    | none =>
      rw [less_none hc]
      rw [strip_no _ _ hc] at h
      exact r_y (ev_c2 rfl rfl ((c_seq _ _).trans (by rw [decide_eq_true rfl]))) (h _ _)
    | some x =>
      rw [less_some hc]
      rw [List.length_cons, strip, hc] at h
      exact r_n (ev_c2 rfl rfl ((c_seq _ _).trans (by rw [decide_eq_false (less_ne owners_ne hc)]))) (r_asg (v := .str x) rfl (oB_run cs x _ _ (Nat.le_trans (cut_le hc) hb) h))
variable (hb : b.length ≤ 5000) {v0 v1 v3 v4 v5 v6 : Option V}
include hb
theorem rB_turn {ends : List T} {l : List V} (h1 : ends.length ≤ 100) (h2 : ∀ e ∈ ends, e.length ≤ 100) (hn : ∀ e ∈ ends, e ≠ []) (yes : ∀ x, cutL lim ends b = some x → ∀ ρ, P (.ret (.str x)) ρ σ)
    (no : cutL lim ends b = Option.none → ∀ v4 v6, Res P (evFor (turnX loop (Phi_ (k + 1)) (Psi_ (k + 1)) 6 rB) l ([v0, v1, some (.str b), v3, v4, v5, v6], σ))) :
    Res P (evFor (turnX loop (Phi_ (k + 1)) (Psi_ (k + 1)) 6 rB) (.strs ends :: l) ([v0, v1, some (.str b), v3, v4, v5, v6], σ)) := by
  refine r_for (r_asg (ρ := [v0, v1, some (.str b), v3, v4, v5, some (.strs ends)]) (ev_fn2 rfl rfl (m_1178 hb h1 h2)) ?_)
  cases hc : cutL lim ends b with
  | none =>
    rw [less_none hc]
    exact r_n (ev_c2 rfl rfl ((c_sne _ _).trans (by rw [decide_eq_true rfl]; rfl))) (no hc _ _)
  | some x =>
    rw [less_some hc]
    exact r_y (ev_c2 rfl rfl ((c_sne _ _).trans (by rw [decide_eq_false (less_ne hn hc)]; rfl))) (r_ret rfl (yes x hc _))
end
theorem m_1185 {k : Nat} {w : T} {n : Bool} (hw : w.length ≤ 5000) : Psi_ (k + 2) 1185 [.str w, .bool n] = some (.str (endedT w n)) := by
  refine psi_end (n := 7) (np := 2) (d := c1185) rfl (by decide) rfl fun σ => ?_
  rw [c1185_eq]
  have hrest : ∀ r, Res (RetQ (.str (tail2 (tail1 w n))) σ) (evB loop (Phi_ (k + 1)) (Psi_ (k + 1)) (.cons q1B q2B) (some (.str w) :: some (.bool n) :: r, σ)) := fun r =>
    q1_run hw (q2_run (Nat.le_trans (tail1_len w n) hw) rfl)
  cases n with
  | true => exact r_nT rfl (hrest _)
  | false =>
    refine r_nF rfl (r_asg (v := .str w) rfl (r_forE rfl (items_str hw) (oB_run w w _ _ hw fun v3 v4 => sq ?_)))
    have done : ∀ {x : T} {ρ : Loc}, verb w = some x → SeqQ loop (Phi_ (k + 1)) (Psi_ (k + 1)) (.cons q1B q2B) (RetQ (.str (endedT w false)) σ) (.ret (.str x)) ρ σ := fun h => ret_is (by unfold endedT; rw [h])
    cases hc : cutL lim g_law_owners w with
    | none =>
      have hv : verb w = match cutL lim e1 w with | some x => some x | Option.none => cutL lim g_law_persons w := by unfold verb; rw [hc] <;> rfl
      rw [strip_no _ _ hc]
      refine r_asg (v := .strss [[[1608, 1575], [1578, 1605]], g_law_persons]) ((vl_ife (x := true) (ev_c2 rfl rfl ((c_seq _ _).trans (by rw [decide_eq_true rfl]))) rfl rfl).trans rfl) (r_forE rfl rfl ?_)
      refine rB_turn hw (by decide) (by decide) (by decide) (fun x c1 ρ => done (by rw [hv, c1])) fun c1 v4 v6 => ?_
      refine rB_turn hw (by decide) (by decide) (by decide) (fun x c2 ρ => done (by rw [hv, c1]; exact c2)) fun c2 v4 v6 => ?_
      have e : endedT w false = tail2 (tail1 w false) := by unfold endedT; rw [hv, c1, c2]
      rw [e]
      exact sq (r_n (ev_c2 rfl rfl ((c_sne _ _).trans (by rw [decide_eq_true rfl]; rfl))) (hrest _))
    | some t0 =>
      have hb : (strip w.length w).length < w.length := by
        rcases w with _ | ⟨x, w⟩
        · exact absurd (cut_len owners_ne hc) (Nat.not_lt_zero _)
        · rw [List.length_cons, strip, hc]
          exact Nat.lt_of_le_of_lt (strip_len w.length t0).1 (cut_len owners_ne hc)
      have hv : verb w = some ((cutL lim g_law_persons (strip w.length w)).getD ((cutL lim e2 (strip w.length w)).getD (strip w.length w))) := by unfold verb; rw [hc]
      generalize strip w.length w = b at hb hv ⊢
      have hne : b ≠ w := fun q => absurd hb (by rw [q]; exact Nat.lt_irrefl _)
      have hb' : b.length ≤ 5000 := Nat.le_trans (Nat.le_of_lt hb) hw
      refine r_asg (v := .strss [g_law_persons, [[1578, 1605, 1608], [1608]]]) ((vl_ife (x := false) (ev_c2 rfl rfl ((c_seq _ _).trans (by rw [decide_eq_false hne]))) rfl rfl).trans rfl) (r_forE rfl rfl ?_)
      refine rB_turn hb' (by decide) (by decide) (by decide) (fun x c1 ρ => done (by rw [hv, c1]; rfl)) fun c1 v4 v6 => ?_
      refine rB_turn hb' (by decide) (by decide) (by decide) (fun x c2 ρ => done (by rw [hv, c1, show cutL lim e2 b = some x from c2]; rfl)) fun c2 v4 v6 => ?_
      exact sq (r_y (ev_c2 rfl rfl ((c_sne _ _).trans (by rw [decide_eq_false hne]; rfl))) (r_ret rfl (done (by rw [hv, c1, show cutL lim e2 b = Option.none from c2]; rfl))))
noncomputable def frontsL : List T := [[1601, 1576, 1575, 1604], [1601, 1603, 1575, 1604], [1608, 1576, 1575, 1604], [1608, 1603, 1575, 1604], [1576, 1575, 1604], [1603, 1575, 1604], [1601, 1604, 1604], [1608, 1604, 1604], [1575, 1604], [1604, 1604], [1601, 1576], [1608, 1576], [1601, 1603], [1608, 1603], [1601, 1587], [1608, 1587], [1601], [1608], [1576], [1603], [1587]]
theorem m_1150 {k : Nat} : Psi_ (k + 1) 1150 [] = some (.strs frontsL) := psi_end (n := 0) (np := 0) (d := c1150) rfl (by decide) rfl fun σ => r_ret rfl rfl
noncomputable def goesB (front head rest : T) : Bool :=
  if ([1587] : T).isSuffixOf head = true then decide (3 < front.length + rest.length) && ([[1571], [1578], [1606], [1610]] : List T).contains (rest.take 1)
  else if ([1603] : T).isSuffixOf head = true then decide (2 < front.length + rest.length) && decide (rest.take 1 = [1603])
  else decide (2 < front.length + rest.length) && (([1604] : T).isSuffixOf head || !decide (rest.take 1 = [1575]))
theorem m_1192 {k : Nat} {front head rest : T} (h1 : front.length ≤ 100) (h3 : rest.length ≤ 5000) : Psi_ (k + 1) 1192 [.str front, .str head, .str rest] = some (.bool (goesB front head rest)) := by
  refine psi_end (n := 4) (np := 3) (d := c1192) rfl (by decide) rfl fun σ => ?_
  have hl : front.length + rest.length ≤ 100000 := Nat.le_trans (Nat.add_le_add h1 h3) (by decide)
  have h3' : rest.length ≤ 100000 := Nat.le_trans h3 (by decide)
  refine r_asg (ρ := [some (.str front), some (.str head), some (.str rest), Option.none]) (ev_lenS (vl_cat rfl rfl hl) (by rw [List.length_append]; exact hl)) ?_
  rw [List.length_append]
  generalize hρ : setV [some (.str front), some (.str head), some (.str rest), Option.none] 3 (.int (front.length + rest.length : Nat)) = ρ
  have g1 : nth ρ 1 = some (.str head) := by rw [← hρ]; rfl
  have g2 : nth ρ 2 = some (.str rest) := by rw [← hρ]; rfl
  have g3 : nth ρ 3 = some (.int (front.length + rest.length : Nat)) := by rw [← hρ]; rfl
  have gt : ∀ n : Nat, ev' (Phi_ k) (Psi_ k) (.cmp .gt (.var 3) (.lit (.int n))) ρ σ = some (.bool (decide (n < front.length + rest.length)), σ) := fun n =>
    (ev_c2 (ev_v g3) rfl (c_int _ _ _)).trans (by rw [ci_gt, decide_eq_decide.mpr Int.ofNat_lt])
  have hd : ev' (Phi_ k) (Psi_ k) (.slHi (.var 2) (.lit (.int 1))) ρ σ = some (.str (rest.take 1), σ) := ev_hi (n := 1) (ev_v g2) rfl h3'
  unfold goesB
  refine r_iteB (x := ([1587] : T).isSuffixOf head) (vl_sm (ev_v g1) rfl rfl) (fun q => ?_) fun q1 => r_nil (r_iteB (x := ([1603] : T).isSuffixOf head) (vl_sm (ev_v g1) rfl rfl) (fun q => ?_) fun q2 => r_nil ?_)
  · rw [if_pos q]
    exact r_ret (ev_and (gt 3) (ev_in hd rfl)) rfl
  · rw [if_neg (fun z => by rw [z] at q1; cases q1), if_pos q]
    exact r_ret (ev_and (gt 2) (ev_c2 hd rfl (c_seq _ _))) rfl
  · rw [if_neg (fun z => by rw [z] at q1; cases q1), if_neg (fun z => by rw [z] at q2; cases q2)]
    exact r_ret (ev_and (gt 2) (ev_or (vl_sm (ev_v g1) rfl rfl) (ev_c2 hd rfl (c_sne _ _)))) rfl
theorem strsOf_map : ∀ l : List T, strsOf (l.map .str) = some l
  | [] => rfl
  | t :: l => (congrArg (Option.map (t :: ·)) (strsOf_map l)).trans rfl
theorem keep_filter {f : V → St → Option (V × St)} {g : T → Bool} {σ : St} : ∀ {l : List T}, (∀ e ∈ l, f (.str e) σ = some (.bool (g e), σ)) → evKeep f (l.map .str) σ = some ((l.filter g).map .str, σ)
  | [], _ => rfl
  | e :: l, h => by
    show Option.bind (f (.str e) σ) _ = _
    rw [h e (.head _)]
    show Option.bind (evKeep f (l.map .str) σ) _ = _
    rw [keep_filter fun e he => h e (.tail _ he), List.filter_cons]
    cases g e <;> rfl
theorem e_compF {Φ : Phi} {Ψ : Psi} {vis : List Nat} {i : Nat} {it cond : E} {ρ : Loc} {σ : St} {l : List T} {g : T → Bool} (hi : i < ρ.length) (h1 : ev' Φ Ψ it ρ σ = some (.strs l, σ)) (hl : l.length ≤ 5000) (h2 : ∀ e ∈ l, ev' Φ Ψ cond ((seen vis ρ).set i (some (.str e))) σ = some (.bool (g e), σ)) :
    ev' Φ Ψ (.compF vis i it cond) ρ σ = some (.strs (l.filter g), σ) := by
  show ite _ _ (Option.bind (ev' Φ Ψ it ρ σ) _) = _
  rw [if_neg (Nat.not_le.mpr hi), h1]
  show Option.bind (itemsOf (.strs l)) _ = _
  rw [items_strs hl]
  show Option.bind (evKeep _ _ _) _ = _
  rw [keep_filter (f := fun v σ => ev' Φ Ψ cond ((seen vis ρ).set i (some v)) σ) h2]
  show Option.map _ (strsOf _) = _
  rw [strsOf_map]
  rfl
noncomputable def hB : E := (.compF [1, 0] 2 (.fn0 1150) (.and2 (.sm .starts (.var 0) (.var 2)) (.fn3 1192 (.var 1) (.var 2) (.slLo (.var 0) (.bi1 .len (.var 2))))))
noncomputable def gB : Bk := (.cons (.asg 3 hB) (.cons (.asg 2 (.ife (.cmp .ne (.var 3) (.strsD [])) (.idx (.var 3) (.lit (.int 0))) (.lit (.str [])))) (.cons (.asg 0 (.slLo (.var 0) (.bi1 .len (.var 2)))) (.cons (.asg 4 (.ife (.sm .ends (.var 2) (.lit (.str [1587]))) (.lit (.int 1)) (.lit (.int 0)))) (.cons (.ite (.and3 (.isIn (.var 2) (.strsD [[], [1601], [1608], [1587], [1601, 1587], [1608, 1587]])) (.cmp .gt (.bi1 .len (.bin .add (.var 1) (.var 0))) (.lit (.int 4))) (.isIn (.slAll (.var 0) (.var 4) (.bin .add (.var 4) (.lit (.int 3)))) (.strsD [[1578, 1587, 1578], [1606, 1587, 1578], [1610, 1587, 1578]]))) (.cons (.asg 0 (.bin .add (.bin .add (.slHi (.var 0) (.var 4)) (.lit (.str [1575]))) (.slLo (.var 0) (.bin .add (.var 4) (.lit (.int 1)))))) .nil) .nil) (.cons (.ret (.bin .add (.var 1) (.var 0))) .nil))))))
theorem c1197_eq : c1197 = (.cons (.asg 1 (.lit (.str []))) (.cons (.ite (.and2 (.cmp .gt (.bi1 .len (.var 0)) (.lit (.int 3))) (.isIn (.slHi (.var 0) (.lit (.int 2))) (.strsD [[1571, 1570], [1571, 1571], [1571, 1572], [1571, 1573], [1571, 1575]]))) (.cons (.asg 1 (.lit (.str [1575]))) (.cons (.asg 0 (.slLo (.var 0) (.lit (.int 2)))) .nil)) .nil) gB)) := rfl
noncomputable def headsB (front w : T) : List T := frontsL.filter fun h => h.isPrefixOf w && goesB front h (w.drop h.length)
noncomputable def plc (head : T) : Nat := if ([1587] : T).isSuffixOf head = true then 1 else 0
noncomputable def lastB (front head w : T) : T := if ([[], [1601], [1608], [1587], [1601, 1587], [1608, 1587]] : List T).contains head = true ∧ 4 < front.length + w.length ∧ ([[1578, 1587, 1578], [1606, 1587, 1578], [1610, 1587, 1578]] : List T).contains ((w.take (plc head + 3)).drop (plc head)) = true then w.take (plc head) ++ [1575] ++ w.drop (plc head + 1) else w
noncomputable def coreB (front w : T) : T := front ++ lastB front ((headsB front w).headD []) (w.drop ((headsB front w).headD []).length)
noncomputable def begunT (w : T) : T := if 3 < w.length ∧ ([[1571, 1570], [1571, 1571], [1571, 1572], [1571, 1573], [1571, 1575]] : List T).contains (w.take 2) = true then coreB [1575] (w.drop 2) else coreB [] w
theorem lastB_len (front head w : T) : (lastB front head w).length ≤ w.length + 1 := by
  unfold lastB
  split
  · rw [List.length_append, List.length_append, List.length_drop, List.length_take]
    show min (plc head) w.length + 1 + _ ≤ _
    omega
  · exact Nat.le_succ _
theorem core_len (front w : T) : (coreB front w).length ≤ front.length + w.length + 1 := by
  unfold coreB
  rw [List.length_append, Nat.add_assoc]
  exact Nat.add_le_add_left (Nat.le_trans (lastB_len _ _ _) (Nat.add_le_add_right (by rw [List.length_drop]; exact Nat.sub_le _ _) 1)) _
section
variable {k : Nat} {σ : St}
theorem hB_run {front w : T} {v2 v3 v4 : Option V} (hf : front.length ≤ 1) (hw : w.length ≤ 4000) : ev' (Phi_ (k + 1)) (Psi_ (k + 1)) hB [some (.str w), some (.str front), v2, v3, v4] σ = some (.strs (headsB front w), σ) := by
  refine e_compF (l := frontsL) (by decide : 2 < 5) (congrArg (rt σ) m_1150) (by decide) fun e he => ?_
  have hw' : w.length ≤ 100000 := Nat.le_trans hw (by decide)
  show ev' _ _ _ [some (.str w), some (.str front), some (.str e), Option.none, Option.none] σ = _
  exact ev_and (vl_sm rfl rfl rfl) (ev_fn3 rfl rfl (ev_lo rfl (ev_lenS rfl (Nat.le_trans ((by decide : ∀ e ∈ frontsL, e.length ≤ 4) e he) (by decide))) hw') (m_1192 (Nat.le_trans hf (by decide)) (Nat.le_trans (by rw [List.length_drop]; exact Nat.sub_le _ _) (Nat.le_trans hw (by decide)))))
theorem heads_short (front w : T) : ((headsB front w).headD []).length ≤ 4 := by
  cases q : headsB front w with
  | nil => exact Nat.zero_le _
  | cons a l => exact (by decide : ∀ e ∈ frontsL, e.length ≤ 4) a (List.mem_filter.mp (show a ∈ headsB front w by rw [q]; exact .head _)).1
theorem gB_run {front w : T} {v2 v3 v4 : Option V} (hf : front.length ≤ 1) (hw : w.length ≤ 4000) : Res (RetQ (.str (coreB front w)) σ) (evB loop (Phi_ (k + 1)) (Psi_ (k + 1)) gB ([some (.str w), some (.str front), v2, v3, v4], σ)) := by
  refine r_asg (hB_run hf hw) (r_asg (v := .str ((headsB front w).headD [])) (σ' := σ) ?_ ?_)
  · cases headsB front w with
    | nil => rfl
    | cons a l => rfl
  have hs := heads_short front w
  unfold coreB
  generalize headsB front w = hds at hs ⊢
  generalize hds.headD [] = head at hs ⊢
  have hw' : w.length ≤ 100000 := Nat.le_trans hw (by decide)
  refine r_asg (ρ := [some (.str w), some (.str front), some (.str head), some (.strs hds), v4]) (ev_lo rfl (ev_lenS rfl (Nat.le_trans hs (by decide))) hw') (r_asg (v := .int (plc head : Nat)) (σ' := σ) ?_ ?_)
  · refine (vl_ife (x := ([1587] : T).isSuffixOf head) (vl_sm rfl rfl rfl) rfl rfl).trans ?_
    unfold plc
    cases ([1587] : T).isSuffixOf head <;> rfl
  have hl : (w.drop head.length).length ≤ 4000 := Nat.le_trans (by rw [List.length_drop]; exact Nat.sub_le _ _) hw
  have hfl : front.length + (lastB front head (w.drop head.length)).length ≤ 100000 := Nat.le_trans (Nat.add_le_add hf (Nat.le_trans (lastB_len _ _ _) (Nat.succ_le_succ hl))) (by decide)
  generalize w.drop head.length = w2 at hl hfl ⊢
  have hp : plc head ≤ 1 := by unfold plc; split <;> decide
  unfold lastB at hfl ⊢
  generalize plc head = p at hp hfl ⊢
  have hw2 : w2.length ≤ 100000 := Nat.le_trans hl (by decide)
  have hfw : front.length + w2.length ≤ 100000 := Nat.le_trans (Nat.add_le_add hf hl) (by decide)
  have hc : ev' (Phi_ (k + 1)) (Psi_ (k + 1)) (.and3 (.isIn (.var 2) (.strsD [[], [1601], [1608], [1587], [1601, 1587], [1608, 1587]])) (.cmp .gt (.bi1 .len (.bin .add (.var 1) (.var 0))) (.lit (.int 4))) (.isIn (.slAll (.var 0) (.var 4) (.bin .add (.var 4) (.lit (.int 3)))) (.strsD [[1578, 1587, 1578], [1606, 1587, 1578], [1610, 1587, 1578]]))) [some (.str w2), some (.str front), some (.str head), some (.strs hds), some (.int p)] σ =
      some (.bool (decide (([[], [1601], [1608], [1587], [1601, 1587], [1608, 1587]] : List T).contains head = true ∧ 4 < front.length + w2.length ∧ ([[1578, 1587, 1578], [1606, 1587, 1578], [1610, 1587, 1578]] : List T).contains ((w2.take (p + 3)).drop p) = true)), σ) := by
    refine (vl_and3 (ev_in rfl rfl) (ev_c2 (ev_lenS (vl_cat rfl rfl hfw) (by rw [List.length_append]; exact hfw)) rfl (c_int _ _ _)) (ev_in (vl_all (j := p + 3) rfl rfl rfl hw2) rfl)).trans ?_
    rw [Bool.decide_and, Bool.decide_and, Bool.decide_eq_true, Bool.decide_eq_true, ci_gt, List.length_append]
    exact congrArg (fun b => some (V.bool (_ && (b && _)), σ)) (decide_eq_decide.mpr (Int.ofNat_lt (n := 4)))
  refine r_iteP hc (fun q => ?_) fun q => ?_
  · rw [if_pos q] at hfl ⊢
    have l1 : (w2.take p ++ [1575]).length ≤ 5000 := by
      rw [List.length_append]
      exact Nat.le_trans (Nat.add_le_add_right (Nat.le_trans (List.length_take_le _ _) hp) _) (by decide)
    have l2 : (w2.drop (p + 1)).length ≤ 4000 := Nat.le_trans (by rw [List.length_drop]; exact Nat.sub_le _ _) hl
    exact r_asg (vl_cat (vl_cat (ev_hi rfl rfl hw2) rfl (by rw [← List.length_append]; exact Nat.le_trans l1 (by decide))) (ev_lo (n := p + 1) rfl rfl hw2) (Nat.le_trans (Nat.add_le_add l1 l2) (by decide))) (r_ret (vl_cat rfl rfl hfl) rfl)
  · rw [if_neg q] at hfl ⊢
    exact r_ret (vl_cat rfl rfl hfl) rfl
theorem m_1197 {w : T} (hw : w.length ≤ 4000) : Psi_ (k + 2) 1197 [.str w] = some (.str (begunT w)) := by
  refine psi_end (n := 5) (np := 1) (d := c1197) rfl (by decide) rfl fun σ => ?_
  rw [c1197_eq]
  unfold begunT
  have hw' : w.length ≤ 100000 := Nat.le_trans hw (by decide)
  refine r_asg (v := .str []) rfl (r_iteP (p := 3 < w.length ∧ ([[1571, 1570], [1571, 1571], [1571, 1572], [1571, 1573], [1571, 1575]] : List T).contains (w.take 2) = true) (σ' := σ) ?_ (fun q => ?_) fun q => ?_)
  · refine (ev_and (x := decide ((3 : Int) < w.length)) (ev_c2 (ev_lenS rfl hw') rfl (c_int _ _ _)) (ev_in (ev_hi (n := 2) rfl rfl hw') rfl)).trans ?_
    rw [Bool.decide_and, Bool.decide_eq_true]
    exact congrArg (fun b => some (V.bool (b && _), σ)) (decide_eq_decide.mpr (Int.ofNat_lt (n := 3)))
  · rw [if_pos q]
    exact r_asg (v := .str [1575]) rfl (r_asg (ev_lo (n := 2) rfl rfl hw') (sq (gB_run (by decide) (Nat.le_trans (by rw [List.length_drop]; exact Nat.sub_le _ _) hw))))
  · rw [if_neg q]
    exact gB_run (by decide) hw
end
noncomputable abbrev artL : List T := [[1575, 1604], [1604, 1604], [1576, 1575, 1604], [1603, 1575, 1604]]
noncomputable def artF (w : T) : List T := artL.filter fun h => h.isPrefixOf w && decide (h.length + 1 < w.length)
noncomputable def artN (w : T) : Bool := !decide (artF w = [])
noncomputable def specT (w : T) : T := hamT (begunT (endedT (pre w) (artN w)))
theorem tail2_len (w : T) : (tail2 w).length ≤ w.length := by
  unfold tail2
  split
  · exact Nat.le_trans (List.length_take_le _ _) (Nat.sub_le _ _)
  · split
    · rename_i h
      have := (List.isSuffixOf_iff_suffix.mp h).length_le
      rw [List.length_append, List.length_take, Nat.min_eq_left (Nat.sub_le _ _)]
      exact Nat.le_of_eq (Nat.sub_add_cancel this)
    · exact Nat.le_refl _
theorem ended_len (w : T) (n : Bool) : (endedT w n).length ≤ w.length := by
  have h := fun n => Nat.le_trans (tail2_len (tail1 w n)) (tail1_len w n)
  unfold endedT
  split
  · exact h true
  · split
    · rename_i x q; exact verb_len q
    · exact h false
theorem begun_len (w : T) : (begunT w).length ≤ w.length + 2 := by
  unfold begunT
  split
  · refine Nat.le_trans (core_len [1575] (w.drop 2)) ?_
    rw [List.length_singleton, Nat.add_comm 1, Nat.add_assoc]
    exact Nat.add_le_add_right (by rw [List.length_drop]; exact Nat.sub_le _ _) _
  · refine Nat.le_trans (core_len [] w) ?_
    rw [List.length_nil, Nat.zero_add]
    exact Nat.le_succ _
theorem m_1207 {k : Nat} {w : T} (hw : w.length ≤ 400) : Psi_ (k + 3) 1207 [.str w] = some (.str (specT w)) := by
  refine psi_end (n := 3) (np := 1) (d := c1207) rfl (by decide) rfl fun σ => ?_
  have l1 : (pre w).length ≤ 800 := Nat.le_trans (pre_len w) (Nat.mul_le_mul_left 2 hw)
  have l2 := Nat.le_trans (ended_len (pre w) (artN w)) l1
  have l3 := Nat.le_trans (begun_len (endedT (pre w) (artN w))) (Nat.add_le_add_right l2 2)
  have z4 : Psi_ (k + 2) 1202 [.str (begunT (endedT (pre w) (artN w)))] = some (.str (specT w)) := by
    rw [Psi_s, if_pos rfl]
    exact if_pos (Nat.le_trans l3 (by decide))
  have zc : ev' (Phi_ (k + 2)) (Psi_ (k + 2)) (.compF [0] 2 (.strsD [[1575, 1604], [1604, 1604], [1576, 1575, 1604], [1603, 1575, 1604]]) (.and2 (.sm .starts (.var 0) (.var 2)) (.cmp .gt (.bi1 .len (.var 0)) (.bin .add (.bi1 .len (.var 2)) (.lit (.int 1)))))) [some (.str w), Option.none, Option.none] σ = some (.strs (artF w), σ) := by
    refine e_compF (l := artL) (by decide : 2 < 3) rfl (by decide) fun e he => ?_
    show ev' _ _ _ [some (.str w), Option.none, some (.str e)] σ = _
    refine (ev_and (vl_sm rfl rfl rfl) (ev_c2 (ev_lenS rfl (Nat.le_trans hw (by decide))) (ev_b2 (ev_lenS rfl (Nat.le_trans ((by decide : ∀ e ∈ artL, e.length ≤ 4) e he) (by decide))) rfl rfl) (c_int _ _ _))).trans ?_
    exact congrArg (fun b => some (V.bool (_ && b), σ)) (decide_eq_decide.mpr (Int.ofNat_lt (n := e.length + 1)))
  refine r_asg zc (r_ret (ev_fn1 (ev_fn1 (ev_fn2 (y := .bool (artN w)) (ev_fn1 rfl (m_1171 (k := k) (Nat.le_trans hw (by decide)))) rfl (m_1185 (k := k) (Nat.le_trans l1 (by decide)))) (m_1197 (k := k) (Nat.le_trans l2 (by decide)))) z4) rfl)
section
open DT
noncomputable def goesN (n : Nat) (head rest : T) : Bool :=
  if ([1587] : T).isSuffixOf head = true then decide (3 < n + rest.length) && ([[1571], [1578], [1606], [1610]] : List T).contains (rest.take 1)
  else if ([1603] : T).isSuffixOf head = true then decide (2 < n + rest.length) && decide (rest.take 1 = [1603])
  else decide (2 < n + rest.length) && (([1604] : T).isSuffixOf head || !decide (rest.take 1 = [1575]))
noncomputable def lastN (n : Nat) (head w : T) : T := if ([[], [1601], [1608], [1587], [1601, 1587], [1608, 1587]] : List T).contains head = true ∧ 4 < n + w.length ∧ ([[1578, 1587, 1578], [1606, 1587, 1578], [1610, 1587, 1578]] : List T).contains ((w.take (plc head + 3)).drop (plc head)) = true then w.take (plc head) ++ [1575] ++ w.drop (plc head + 1) else w
noncomputable def x4 (n : Nat) (a : T) : T := match preF D_9 g_294 (n + a.length) a with
  | some (s, q) => s ++ q
  | Option.none => a
noncomputable def X3 (n : Nat) (a : T) : T := match preF D_3 g_273 (n + a.length) a with
  | some (s, q) => s ++ q
  | Option.none => match preF D_7 g_280 (n + a.length) a with
    | some (s, q) => s ++ q
    | Option.none => match preF D_8 g_287 (n + a.length) a with
      | some (s, q) => s ++ x4 (n + s.length) q
      | Option.none => x4 n a
noncomputable def hF (n : Nat) (a : T) : T := (frontsL.find? fun h => h.isPrefixOf a && goesN n h (a.drop h.length)).getD []
noncomputable def stp (n : Nat) (a : T) : T := match preF D_5 g_266 (n + a.length) a with
  | some (_, q) => q
  | Option.none => a
noncomputable def preT (tr : T × Int → OT) : List (T × Int) → OT
  | [] => leaf Option.none
  | e :: r => tst 0 e.1 (tr e) (preT tr r)
section
variable {g : T → Int → Nat → T → Option T} {tr : T × Int → OT} {n : Nat} {a : T}
theorem preF_cons (e : T × Int) (D : List (T × Int)) (m : Nat) : preF (e :: D) g m a = if e.1.isPrefixOf a = true then (g e.1 e.2 m (a.drop e.1.length)).map fun s => (s, a.drop e.1.length) else preF D g m a := by
  unfold preF pick
  rw [List.find?_cons]
  show Option.bind (match e.1.isPrefixOf a with | true => _ | false => _) _ = _
  cases e.1.isPrefixOf a <;> rfl
noncomputable def RowT (g : T → Int → Nat → T → Option T) (tr : T × Int → OT) (n : Nat) (a : T) : Prop := ∀ e : T × Int, e.1.length ≤ a.length → (tr e).ev n a = (g e.1 e.2 (n + a.length) (a.drop e.1.length)).map fun s => (e.1.length, s)
theorem preT_ev (h : RowT g tr n a) : ∀ D : List (T × Int), preF D g (n + a.length) a = ((preT tr D).ev n a).map fun x => (x.2, a.drop x.1)
  | [] => rfl
  | e :: D => by
    rw [preF_cons, preT_ev h D]
    show _ = Option.map _ (ite _ _ _)
    rw [List.drop_zero]
    by_cases q : e.1.isPrefixOf a = true
    · rw [if_pos q, if_pos q, h e (List.isPrefixOf_iff_prefix.mp q).length_le, Option.map_map]; rfl
    · rw [if_neg q, if_neg q]
theorem preT_le (h : RowT g tr n a) {x : Nat × T} {k : Nat} : ∀ {D : List (T × Int)}, (∀ e ∈ D, k ≤ e.1.length) → (preT tr D).ev n a = some x → x.1 ≤ a.length ∧ k ≤ x.1
  | [], _, q => nomatch q
  | e :: D, hk, q => by
    replace q : ite _ _ _ = some x := q
    split at q
    · rename_i z
      have l := (List.isPrefixOf_iff_prefix.mp z).length_le
      rw [List.drop_zero] at l
      rw [h e l] at q
      obtain ⟨s, _, rfl⟩ := Option.map_eq_some_iff.mp q
      exact ⟨l, hk e (.head _)⟩
    · exact preT_le h (fun e he => hk e (.tail _ he)) q
noncomputable def tP (L : List (Int × Nat × Option T)) (z : Option (Nat × Option T)) (e : T × Int) : OT := match lookP L z e.2 with
  | Option.none => leaf (some (e.1.length, e.1))
  | some (t, s) => cO t (e.1.length, s.getD [])
theorem rP {L : List (Int × Nat × Option T)} {z : Option (Nat × Option T)} : RowT (gP L z) (tP L z) n a := fun e _ => by
  unfold tP gP
  cases lookP L z e.2 with
  | none => rfl
  | some x => exact c_ev
noncomputable def t273 := tP [(1, 5, Option.none)] (some (4, Option.none))
noncomputable def t280 := tP [(1, 3, Option.none), (2, 3, some [1576]), (3, 3, some [1603])] Option.none
noncomputable def t287 := tP [(1, 4, some [1610]), (2, 4, some [1578]), (3, 4, some [1606])] (some (4, some [1571]))
noncomputable def t294 (e : T × Int) : OT := cO 4 (e.1.length, [1575, 1587, 1578])
noncomputable def t266 (e : T × Int) : OT := tst e.1.length [1575] (leaf Option.none) (cO 3 (e.1.length, []))
theorem r273 : RowT g_273 t273 n a := rP
theorem r280 : RowT g_280 t280 n a := rP
theorem r287 : RowT g_287 t287 n a := rP
theorem r294 : RowT g_294 t294 n a := fun e _ => c_ev
theorem r266 : RowT g_266 t266 n a := fun e _ => by
  unfold t266 g_266
  have q : ([1575] : T).isPrefixOf (a.drop e.1.length) = true ↔ (a.drop e.1.length).head? = some 1575 := by
    cases a.drop e.1.length with
    | nil => exact ⟨(fun h => nomatch h), (fun h => nomatch h)⟩
    | cons x r => rw [List.isPrefixOf_cons_cons, List.isPrefixOf_nil_left, Bool.and_true, beq_iff_eq, List.head?_cons, Option.some_inj]; exact eq_comm
  show ite _ _ ((cO _ _).ev n a) = _
  rw [c_ev]
  by_cases z : (a.drop e.1.length).head? = some 1575
  · rw [if_pos (q.mpr z), if_neg fun h => h.2 z]; rfl
  · rw [if_neg fun h => z (q.mp h)]
    by_cases y : 3 < n + a.length
    · rw [if_pos y, if_pos ⟨y, z⟩]
    · rw [if_neg y, if_neg fun h => y h.1]
noncomputable def x4T : DT (Nat × T) := orT (preT t294 D_9) leaf (leaf (0, []))
noncomputable def X3T : DT (Nat × T) := orT (preT t273 D_3) leaf (orT (preT t280 D_7) leaf (orT (preT t287 D_8) (fun x => shift x.1 x.2 x4T) x4T))
noncomputable def stpT : DT (Nat × T) := orT (preT t266 D_5) (fun x => shift x.1 [] X3T) X3T
theorem x4_ev : x4 n a = ap (x4T.ev n a) a := by
  unfold x4 x4T
  rw [preT_ev r294, orT_ev]
  cases (preT t294 D_9).ev n a <;> rfl
end
theorem X3_ev {n : Nat} {a : T} : X3 n a = ap (X3T.ev n a) a := by
  unfold X3 X3T
  rw [preT_ev r273, preT_ev r280, preT_ev r287, orT_ev, orT_ev, orT_ev]
  cases (preT t273 D_3).ev n a with
  | some x => rfl
  | none => cases (preT t280 D_7).ev n a with
    | some x => rfl
    | none => cases h : (preT t287 D_8).ev n a with
      | none => exact x4_ev
      | some x =>
        have l := preT_le (k := 1) r287 (by decide) h
        have e := preT_ev (n := n) (a := a) r287 D_8
        rw [h] at e
        have ls := (len_287 e).1
        show x.2 ++ x4 (n + x.2.length) (a.drop x.1) = _
        rw [x4_ev]
        exact (shift_ev l.1 (Nat.le_trans ls l.2) x4T).symm
theorem stp_ev {n : Nat} {a : T} : X3 n (stp n a) = ap (stpT.ev n a) a := by
  unfold stp stpT
  rw [preT_ev r266, orT_ev]
  cases h : (preT t266 D_5).ev n a with
  | none => exact X3_ev
  | some x =>
    show X3 n (a.drop x.1) = _
    rw [X3_ev]
    exact (shift_ev (n := n) (s := []) (preT_le (k := 0) r266 (fun _ _ => Nat.zero_le _) h).1 (Nat.zero_le _) X3T).symm
noncomputable def goT (h : T) : DT Bool :=
  if ([1587] : T).isSuffixOf h = true then len (3 + h.length) (any h.length [[1571], [1578], [1606], [1610]]) (leaf false)
  else if ([1603] : T).isSuffixOf h = true then len (2 + h.length) (any h.length [[1603]]) (leaf false)
  else len (2 + h.length) ((any h.length [[1575]]).bind fun b => leaf (([1604] : T).isSuffixOf h || !b)) (leaf false)
noncomputable def headT : List T → DT T
  | [] => leaf []
  | h :: r => tst 0 h ((goT h).bind fun b => cond b (leaf h) (headT r)) (headT r)
noncomputable abbrev Ed := Nat × Nat × T × Nat
noncomputable def apE (x : Ed) (a : T) : T := (a.drop x.1).take x.2.1 ++ x.2.2.1 ++ a.drop x.2.2.2
noncomputable def laT (h : T) : DT Ed :=
  if ([[], [1601], [1608], [1587], [1601, 1587], [1608, 1587]] : List T).contains h = true then
    len (4 + h.length) ((any (h.length + plc h) [[1578, 1587, 1578], [1606, 1587, 1578], [1610, 1587, 1578]]).bind fun b => leaf (cond b (h.length, plc h, [1575], h.length + (plc h + 1)) (0, 0, [], h.length))) (leaf (0, 0, [], h.length))
  else leaf (0, 0, [], h.length)
theorem lt_c {m n k l : Nat} (h : k ≤ l) : m < n + (l - k) ↔ m + k < n + l := by
  obtain ⟨x, rfl⟩ := Nat.exists_eq_add_of_le h
  rw [Nat.add_sub_cancel_left, Nat.add_comm k, ← Nat.add_assoc, Nat.add_lt_add_iff_right]
theorem len_ev {α : Type} {n m k : Nat} {a : T} (hk : k ≤ a.length) (y z : DT α) : (len (m + k) y z).ev n a = if m < n + (a.drop k).length then y.ev n a else z.ev n a := by
  rw [List.length_drop]
  by_cases q : m < n + (a.length - k)
  · rw [if_pos q]; exact if_pos ((lt_c hk).mp q)
  · rw [if_neg q]; exact if_neg fun z => q ((lt_c hk).mpr z)
theorem one_c (t x : T) : ([x] : List T).contains t = decide (t = x) := by
  rw [Bool.eq_iff_iff, List.contains_iff_mem, List.mem_singleton, decide_eq_true_iff]
theorem goT_ev {n : Nat} {h a : T} (hk : h.length ≤ a.length) : (goT h).ev n a = goesN n h (a.drop h.length) := by
  have fin (p : Prop) [Decidable p] (b : Bool) : (if p then b else false) = (decide p && b) := by
    by_cases q : p
    · rw [if_pos q, decide_eq_true q]; rfl
    · rw [if_neg q, decide_eq_false q]; rfl
  unfold goT goesN
  split
  · rw [len_ev hk, any_ev (m := 1) (by decide)]; exact fin _ _
  · split
    · rw [len_ev hk, any_ev (m := 1) (by decide), one_c]; exact fin _ _
    · rw [len_ev hk, bind_ev, any_ev (m := 1) (by decide), one_c]; exact fin _ _
theorem headT_ev {n : Nat} {a : T} : ∀ l : List T, (headT l).ev n a = (l.find? fun h => h.isPrefixOf a && goesN n h (a.drop h.length)).getD []
  | [] => rfl
  | h :: r => by
    rw [List.find?_cons]
    show ite _ _ ((headT r).ev n a) = _
    rw [bind_ev, List.drop_zero]
    by_cases q : h.isPrefixOf a = true
    · rw [if_pos q, q, goT_ev (List.isPrefixOf_iff_prefix.mp q).length_le, Bool.true_and]
      cases goesN n h (a.drop h.length) with
      | true => rfl
      | false => exact headT_ev r
    · rw [if_neg q, Bool.eq_false_iff.mpr q]; exact headT_ev r
theorem laT_ev {n : Nat} {h a : T} (hk : h.length ≤ a.length) : apE ((laT h).ev n a) a = lastN n h (a.drop h.length) := by
  unfold laT lastN
  by_cases q : ([[], [1601], [1608], [1587], [1601, 1587], [1608, 1587]] : List T).contains h = true
  · rw [if_pos q, len_ev hk, bind_ev, any_ev (m := 3) (by decide), ← List.drop_drop, List.take_drop, Nat.add_comm (plc h) 3, Nat.add_comm 3 (plc h)]
    generalize ([[1578, 1587, 1578], [1606, 1587, 1578], [1610, 1587, 1578]] : List T).contains _ = b
    by_cases z : 4 < n + (a.drop h.length).length
    · rw [if_pos z]
      cases b with
      | true => rw [if_pos ⟨q, z, rfl⟩, List.drop_drop]; rfl
      | false => rw [if_neg fun x => nomatch x.2.2]; rfl
    · rw [if_neg z, if_neg fun x => z x.2.1]; rfl
  · rw [if_neg q, if_neg fun x => q x.1]; rfl
noncomputable def coT : DT Ed := (headT frontsL).bind laT
theorem find_pre {p : T → Bool} {a : T} (hp : ∀ h, p h = true → h.isPrefixOf a = true) (l : List T) : ((l.find? p).getD []).length ≤ a.length := by
  cases h : l.find? p with
  | none => exact Nat.zero_le _
  | some x => exact (List.isPrefixOf_iff_prefix.mp (hp x (List.find?_some h))).length_le
theorem co_ev {n : Nat} {a : T} : lastN n (hF n a) (a.drop (hF n a).length) = apE (coT.ev n a) a := by
  unfold coT
  rw [bind_ev, headT_ev]
  exact (laT_ev (find_pre (fun h q => (Bool.and_eq_true_iff.mp q).1) _)).symm
noncomputable def eqE (p : T) (x : Ed × (Nat × T)) : Bool := Nat.ble (x.1.1 + x.1.2.1) p.length && Nat.ble x.1.2.2.2 p.length && Nat.ble x.2.1 p.length && (apE x.1 p == ap x.2 p)
theorem eqE_ap {p a : T} {x : Ed × (Nat × T)} (h : p <+: a) (e : eqE p x = true) : apE x.1 a = ap x.2 a := by
  obtain ⟨e, e4⟩ := Bool.and_eq_true_iff.mp e
  obtain ⟨e, e3⟩ := Bool.and_eq_true_iff.mp e
  obtain ⟨e1, e2⟩ := Bool.and_eq_true_iff.mp e
  have e1 := Nat.le_of_ble_eq_true e1
  rw [ap_at h (Nat.le_of_ble_eq_true e3), ← eq_of_beq e4]
  obtain ⟨r, rfl⟩ := h
  show ((p ++ r).drop x.1.1).take x.1.2.1 ++ _ ++ _ = (_ ++ _ ++ _) ++ _
  rw [List.drop_append_of_le_length (Nat.le_trans (Nat.le_add_right _ _) e1), List.take_append_of_le_length (by rw [List.length_drop]; exact Nat.le_sub_of_add_le' e1), List.drop_append_of_le_length (Nat.le_of_ble_eq_true e2), List.drop_left, List.append_assoc _ _ r]
set_option maxRecDepth 1000000 in
theorem same : ok eqE (DT.both coT stpT) [] [] 0 0 = true := by decide +kernel
theorem core_all (n : Nat) (a : T) : lastN n (hF n a) (a.drop (hF n a).length) = X3 n (stp n a) := by
  rw [co_ev, stp_ev]
  obtain ⟨p, hp, e⟩ := ok_all (n := n) (a := a) same
  rw [both_ev] at e
  exact eqE_ap hp e
end
section
open DT
noncomputable def atT : DT (Nat × T) := orT (cu lim AT) leaf selfT
noncomputable def nBT (d : Bool) : DT (Nat × T) := cond d atT (orT (cu L4 AWY) leaf atT)
noncomputable def nAT (d : Bool) : DT (Nat × T) := orT (cu lim [[1577]]) leaf (orT (cu L5 [[1606]]) (fun x => shift x.1 [] (orT (cu L4 AWY) leaf (orT (cu lim AT) leaf (orT (cu lim [[1578]]) leaf selfT)))) (nBT d))
theorem nB_ev (t : T) (d : Bool) : nounB t d = apR ((nBT d).ev 1 t.reverse) t := by
  cases d with
  | true => exact getD_cu
  | false => exact or_cu getD_cu
theorem nA_ev (t : T) (d : Bool) : nounA t d = apR ((nAT d).ev 1 t.reverse) t := by
  refine or_cu ?_
  rw [cu_ev, orT_ev]
  cases h : (cu L5 [[1606]]).ev 1 t.reverse with
  | none => exact nB_ev t d
  | some x =>
    obtain ⟨h1, h2⟩ := cu_le h
    obtain ⟨k, s⟩ := x
    obtain rfl : s = [] := h2
    exact (or_cu (or_cu getD_cu)).trans (shR h1 _).symm
noncomputable def t2T : DT (Nat × T) := tst 0 [1610] (len 3 (leaf (1, [])) (tst 0 [1609] (leaf (1, [1610])) selfT)) (tst 0 [1609] (leaf (1, [1610])) selfT)
noncomputable def m2T : DT (Nat × T) := orT (cu L2 [[1610]]) leaf (tst 0 [1609] (leaf (1, [1610])) selfT)
noncomputable def t1T (n : Bool) : DT (Nat × T) := tst 0 [1577] (orT (cu lim [[1577]]) leaf selfT) (cond n (tst 0 [1606] (len 6 (shift 1 [] (orT (cu lim [[1575, 1578], [1575], [1608], [1610], [1578]]) leaf selfT)) atT) atT)
  (len 5 (tst 0 [1575] (leaf (1, [])) (tst 0 [1608] (leaf (1, [])) selfT)) selfT))
theorem one_len (m : Nat) (t : T) : m + 1 < 1 + t.reverse.length ↔ m < t.length := by rw [List.length_reverse, Nat.add_comm 1]; exact Nat.add_lt_add_iff_right
theorem tstR {α : Type} {n x : Nat} {t : T} (y z : DT α) : (tst 0 [x] y z).ev n t.reverse = if ([x] : T).isSuffixOf t = true then y.ev n t.reverse else z.ev n t.reverse := rfl
theorem lenR {α : Type} {m : Nat} {t : T} (y z : DT α) : (len (m + 1) y z).ev 1 t.reverse = if m < t.length then y.ev 1 t.reverse else z.ev 1 t.reverse := by
  by_cases h : m < t.length
  · rw [if_pos h]; exact if_pos ((one_len m t).mpr h)
  · rw [if_neg h]; exact if_neg fun q => h ((one_len m t).mp q)
theorem take1 (t : T) : t.take (t.length - 1) = apR (1, []) t := by rw [apR_take]; exact (List.append_nil _).symm
theorem maq_ev (t : T) : (maq t).getD t = apR ((tst 0 [1609] (leaf (1, [1610])) selfT).ev 1 t.reverse) t := by
  unfold maq
  rw [tstR]
  split
  · exact (apR_take 1 [1610] t).symm
  · exact (apR_self t).symm
theorem m2_ev (t : T) : (match cutL L2 [[1610]] t with | some x => x | Option.none => (maq t).getD t) = apR (m2T.ev 1 t.reverse) t := or_cu (maq_ev t)
theorem t2_ev (t : T) : tail2 t = apR (t2T.ev 1 t.reverse) t := by
  have e : (if ([1609] : T).isSuffixOf t = true then t.take (t.length - 1) ++ [1610] else t) = apR ((tst 0 [1609] (leaf (1, [1610])) selfT).ev 1 t.reverse) t := by
    rw [← maq_ev]; unfold maq; split <;> rfl
  unfold tail2 t2T
  rw [e, tstR (x := 1610), lenR]
  by_cases h1 : ([1610] : T).isSuffixOf t = true
  · rw [if_pos h1]
    by_cases h2 : 2 < t.length
    · rw [if_pos ⟨h1, h2⟩, if_pos h2]; exact take1 t
    · rw [if_neg fun q => h2 q.2, if_neg h2]
  · rw [if_neg fun q => h1 q.1, if_neg h1]
theorem t1_ev (t : T) (n : Bool) : tail1 t n = apR ((t1T n).ev 1 t.reverse) t := by
  unfold tail1 t1T
  rw [tstR]
  by_cases h0 : ([1577] : T).isSuffixOf t = true
  · rw [if_pos h0, if_pos h0]; exact getD_cu
  · rw [if_neg h0, if_neg h0]
    cases n with
    | true =>
      show _ = apR (DT.ev 1 _ (tst 0 [1606] _ _)) t
      rw [tstR, lenR, if_pos rfl]
      by_cases h1 : ([1606] : T).isSuffixOf t = true
      · rw [if_pos h1]
        by_cases h2 : 5 < t.length
        · rw [if_pos ⟨rfl, h1, h2⟩, if_pos h2, shR (Nat.le_trans (by decide) h2), take1]; exact getD_cu
        · rw [if_neg fun q => h2 q.2.2, if_neg h2]; exact getD_cu
      · rw [if_neg fun q => h1 q.2.1, if_neg h1]; exact getD_cu
    | false =>
      show _ = apR (DT.ev 1 _ (len 5 _ _)) t
      rw [lenR, if_neg (c := false = true ∧ _) (fun q => nomatch q.1), if_neg (c := false = true) (fun q => nomatch q)]
      by_cases h2 : 4 < t.length
      · rw [if_pos h2, tstR, tstR]
        by_cases h3 : ([1575] : T).isSuffixOf t = true
        · rw [if_pos ⟨h2, .inl h3⟩, if_pos h3]; exact take1 t
        · rw [if_neg h3]
          by_cases h4 : ([1608] : T).isSuffixOf t = true
          · rw [if_pos ⟨h2, .inr h4⟩, if_pos h4]; exact take1 t
          · rw [if_neg fun q => q.2.elim h3 h4, if_neg h4]; exact (apR_self t).symm
      · rw [if_neg fun q => h2 q.1, if_neg h2]; exact (apR_self t).symm
noncomputable def eq2 (p : T) (x : (Nat × T) × (Nat × T)) : Bool := eqv p x.1 x.2
theorem both_R {t u : DT (Nat × T)} (h : ok eq2 (DT.both t u) [] [] 0 0 = true) (w : T) : apR (t.ev 1 w.reverse) w = apR (u.ev 1 w.reverse) w := by
  obtain ⟨p, hp, e⟩ := ok_all (n := 1) (a := w.reverse) h
  rw [both_ev] at e
  exact congrArg List.reverse (eqv_ap hp e)
theorem tail2_eq (u : T) : tail2 u = match cutL L2 [[1610]] u with
    | some x => x
    | Option.none => (maq u).getD u := by
  rw [t2_ev, m2_ev]
  exact both_R (by decide +kernel) u
theorem tail1_noun (t : T) : tail1 t true = nounA t true := by
  rw [t1_ev, nA_ev]
  exact both_R (by decide +kernel) t
noncomputable def vT : DT (Option ((Nat × T) × (Nat × T))) := (cu lim g_law_persons).bind fun | some _ => leaf Option.none | Option.none => (DT.both (t1T false) (nAT false)).bind fun x => leaf (some x)
noncomputable def eqo (p : T) : Option ((Nat × T) × (Nat × T)) → Bool
  | some x => eqv p x.1 x.2
  | Option.none => true
theorem v_ok : ok eqo vT [] [] 0 0 = true := by decide +kernel
theorem tail1_verb {t : T} (h : verb t = Option.none) : tail1 t false = nounA t false := by
  have hv := (verb_none h).2.2
  rw [cu_ev, Option.map_eq_none_iff] at hv
  rw [t1_ev, nA_ev]
  obtain ⟨p, hp, e⟩ := ok_all (n := 1) (a := t.reverse) v_ok
  unfold vT at e
  rw [bind_ev, hv] at e
  replace e : eqo p (((DT.both (t1T false) (nAT false)).bind fun x => leaf (some x)).ev 1 t.reverse) = true := e
  rw [bind_ev, both_ev] at e
  exact congrArg List.reverse (eqv_ap hp e)
theorem ended_suf (t : T) (d : Bool) : endedT t d = suf t d := by
  cases d with
  | true => exact (congrArg tail2 (tail1_noun t)).trans (tail2_eq _)
  | false =>
    unfold endedT suf
    simp only
    cases h : verb t with
    | some x => rfl
    | none => exact (congrArg tail2 (tail1_verb h)).trans (tail2_eq _)
noncomputable def chT : List (T × Int) → DT Bool
  | [] => leaf false
  | e :: r => tst 0 e.1 (len (if e.2 = 1 then 4 else 3) (leaf true) (leaf false)) (chT r)
noncomputable def arT : List T → DT Bool
  | [] => leaf false
  | h :: r => tst 0 h (len (h.length + 1) (leaf true) (arT r)) (arT r)
theorem chT_ev (w : T) : ∀ D : List (T × Int), (match pick id D w with | some e => if e.2 = 1 then decide (4 < w.length) else decide (3 < w.length) | Option.none => false) = (chT D).ev 0 w
  | [] => rfl
  | e :: D => by
    show _ = ite (e.1.isPrefixOf w = true) (ite _ true false) ((chT D).ev 0 w)
    rw [← chT_ev w D, Nat.zero_add]
    unfold pick
    by_cases q : e.1.isPrefixOf w = true
    · rw [if_pos q, List.find?_cons_of_pos (p := fun e : T × Int => (id e.1).isPrefixOf w) q]
      by_cases h : e.2 = 1
      · rw [if_pos h]; exact (if_pos h).trans rfl
      · rw [if_neg h]; exact (if_neg h).trans rfl
    · rw [if_neg q, List.find?_cons_of_neg (p := fun e : T × Int => (id e.1).isPrefixOf w) q]
theorem arT_ev (w : T) : ∀ l : List T, (!decide ((l.filter fun h => h.isPrefixOf w && decide (h.length + 1 < w.length)) = [])) = (arT l).ev 0 w
  | [] => rfl
  | h :: l => by
    rw [List.filter_cons]
    show _ = ite (h.isPrefixOf w = true) (ite _ true ((arT l).ev 0 w)) ((arT l).ev 0 w)
    rw [← arT_ev w l, Nat.zero_add]
    cases h.isPrefixOf w with
    | true =>
      by_cases q : h.length + 1 < w.length
      · rw [if_pos q, decide_eq_true q]; rfl
      · rw [if_neg q, decide_eq_false q]; rfl
    | false => rfl
theorem chk_art (w : T) : chk w = artN w := by
  refine (chT_ev w D_3).trans (Eq.trans ?_ (arT_ev w artL).symm)
  obtain ⟨p, hp, e⟩ := ok_all (P := fun _ x => x.1 == x.2) (n := 0) (a := w) (t := DT.both (chT D_3) (arT artL)) (by decide +kernel)
  rw [both_ev] at e
  exact eq_of_beq e
end
section
open DT
theorem hput (x : Nat) : put tas_2 D_2 x = [hamC x] := by
  by_cases h : 1570 ≤ x ∧ x < 1575
  · obtain ⟨i, rfl⟩ := Nat.exists_eq_add_of_le h.1
    exact (by decide : ∀ i < 5, put tas_2 D_2 (1570 + i) = [hamC (1570 + i)]) i (Nat.lt_of_add_lt_add_left h.2)
  · have e : hit D_2 x = Option.none := List.find?_eq_none.mpr fun e he q => h ((by decide : ∀ e ∈ D_2, ∀ y ∈ e.1, 1570 ≤ y ∧ y < 1575) e he x (eq_of_beq q ▸ .head _))
    have n (c : Nat) (hc : 1570 ≤ c ∧ c < 1575) : x ≠ c := fun q => h (q ▸ hc)
    unfold put hamC
    rw [e, if_neg fun q => q.elim (n _ (by decide)) fun q => q.elim (n _ (by decide)) (n _ (by decide)), if_neg (n _ (by decide)), if_neg (n _ (by decide))]
theorem hamT_c (p : T) (x : Nat) : hamT (p ++ [x]) = p.map hamC ++ [hamC (hamL x)] := by
  unfold hamT
  rw [List.getLast?_concat, List.dropLast_concat]
theorem post_ham (t : T) : post t = hamT t := by
  have hflat : ∀ t : T, t.flatMap (put tas_2 D_2) = t.map hamC := fun t => by
    rw [funext hput]
    exact List.map_eq_flatMap.symm
  unfold post
  rw [hflat]
  rcases List.eq_nil_or_concat t with rfl | ⟨p, x, rfl⟩
  · rfl
  rw [List.concat_eq_append, hamT_c]
  unfold post1 pick
  rw [List.reverse_append]
  show List.map hamC (match D_1.find? (fun e => e.1.reverse.isPrefixOf (x :: p.reverse)) with | some _ => _ | Option.none => _) = _
  rw [List.dropLast_concat]
  by_cases h : 1570 ≤ x ∧ x < 1575
  · obtain ⟨i, rfl⟩ := Nat.exists_eq_add_of_le h.1
    obtain ⟨e, he, e1⟩ := (by decide : ∀ i < 5, ∃ e ∈ D_1, e.1 = [1570 + i]) i (Nat.lt_of_add_lt_add_left h.2)
    have e2 := (by decide : ∀ i < 5, hamL (1570 + i) = 1569) i (Nat.lt_of_add_lt_add_left h.2)
    cases q : D_1.find? (fun e => e.1.reverse.isPrefixOf ((1570 + i) :: p.reverse)) with
    | none =>
      refine absurd ?_ (List.find?_eq_none.mp q e he)
      rw [e1]
      exact List.isPrefixOf_iff_prefix.mpr ⟨_, rfl⟩
    | some _ => rw [e2]; exact List.map_append
  · rw [List.find?_eq_none.mpr fun e he q => h ?_]
    · have : hamL x = x := if_neg fun q => h (by rcases q with rfl | rfl | rfl | rfl | rfl <;> decide)
      rw [this]; exact List.map_append
    · obtain ⟨y, e1, e2⟩ := (by decide : ∀ e ∈ D_1, ∃ y ∈ List.range 1575, e.1 = [y] ∧ 1570 ≤ y) e he
      rw [e2.1] at q
      have := (List.cons_prefix_cons.mp (List.isPrefixOf_iff_prefix.mp q)).1
      exact this ▸ ⟨e2.2, List.mem_range.mp e1⟩
theorem ham_app {s X : T} (h : X ≠ []) : hamT (s ++ X) = s.map hamC ++ hamT X := by
  rcases List.eq_nil_or_concat X with rfl | ⟨p, x, rfl⟩
  · exact absurd rfl h
  rw [List.concat_eq_append, ← List.append_assoc, hamT_c, hamT_c, List.map_append, List.append_assoc]
theorem pref4_x (p a : T) : pref4 p a = p ++ x4 p.length a := by
  unfold pref4 x4
  cases preF D_9 g_294 (p.length + a.length) a <;> rfl
theorem pref3_X (p a : T) : pref3 p a false = p ++ X3 p.length a := by
  unfold pref3 X3
  cases preF D_3 g_273 (p.length + a.length) a with
  | some sq => rfl
  | none => cases preF D_7 g_280 (p.length + a.length) a with
    | some sq => rfl
    | none => cases preF D_8 g_287 (p.length + a.length) a with
      | some sq => exact (pref4_x _ _).trans (by rw [List.length_append, List.append_assoc])
      | none => exact pref4_x p a
theorem pref2_X (p a : T) : pref2 p a false = p ++ X3 p.length (stp p.length a) := by
  unfold pref2 stp
  cases preF D_5 g_266 (p.length + a.length) a with
  | some sq => exact pref3_X p sq.2
  | none => exact pref3_X p a
theorem core_X (front a : T) : coreB front a = front ++ X3 front.length (stp front.length a) := by
  rw [← core_all]
  unfold coreB
  have : (headsB front a).headD [] = hF front.length a := by
    unfold headsB hF
    rw [List.headD_eq_head?_getD, List.head?_filter]
    rfl
  rw [this]
  rfl
theorem X_ne {q : T} (h : 2 ≤ q.length) : X3 1 (stp 1 q) ≠ [] := by
  rw [stp_ev]
  obtain ⟨p, hp, e⟩ := ok_ev (P := fun _ b => b) (n := 1) (a := q) (p := []) (ex := []) (lo := 3) (hi := 0) (stpT.bind fun x => len (x.1 + 1) (leaf true) (leaf (!x.2.isEmpty))) (by decide +kernel) ⟨List.nil_prefix, (fun _ h => nomatch h), Nat.succ_le_of_lt (by rw [Nat.add_comm]; exact Nat.lt_succ_of_le h), .inl rfl⟩
  rw [bind_ev] at e
  intro z
  obtain ⟨z1, z2⟩ := List.append_eq_nil_iff.mp z
  replace e : ite _ true (!(List.isEmpty _)) = true := e
  rw [z1] at e
  split at e
  · rename_i z3
    have := List.drop_eq_nil_iff.mp z2
    rw [Nat.add_comm 1] at z3
    exact absurd this (Nat.not_le.mpr (Nat.lt_of_add_lt_add_right z3))
  · cases e
noncomputable def t259 := tP [(1, 3, some [1571]), (2, 3, some [1570]), (3, 3, some [1575])] (some (3, some [1573]))
noncomputable def alT : DT Bool := len 3 (any 0 [[1571, 1570], [1571, 1571], [1571, 1572], [1571, 1573], [1571, 1575]]) (leaf false)
noncomputable def alP (_ : T) (x : Option (Nat × T) × Bool) : Bool := match x.1 with
  | some y => x.2 && (y.1 == 2) && (y.2.map hamC == [1575]) && (y.2.length == 1)
  | Option.none => !x.2
theorem ham_pref (u : T) : hamT (pref u false) = hamT (begunT u) := by
  obtain ⟨p, hp, e⟩ := ok_all (P := alP) (n := 0) (a := u) (t := DT.both (preT t259 D_4) alT) (by decide +kernel)
  have e1 := preT_ev (n := 0) (a := u) (g := g_259) (tr := t259) rP D_4
  rw [Nat.zero_add] at e1
  have e2 : alT.ev 0 u = (decide (3 < u.length) && ([[1571, 1570], [1571, 1571], [1571, 1572], [1571, 1573], [1571, 1575]] : List T).contains (u.take 2)) := by
    show ite _ ((any 0 _).ev 0 u) false = _
    rw [any_ev (m := 2) (by decide), Nat.zero_add, List.drop_zero]
    split
    · rename_i h; rw [decide_eq_true h]; rfl
    · rename_i h; rw [decide_eq_false h]; rfl
  rw [both_ev, e2] at e
  unfold pref begunT
  rw [e1]
  cases h : (preT t259 D_4).ev 0 u with
  | none =>
    rw [h] at e
    rw [if_neg fun q => ?_]
    · exact congrArg hamT ((pref2_X [] u).trans (core_X [] u).symm)
    · rw [decide_eq_true q.1, q.2] at e; cases e
  | some y =>
    rw [h] at e
    obtain ⟨⟨⟨h1, h2⟩, h3⟩, h4⟩ : ((_ = true ∧ _ = true) ∧ _ = true) ∧ _ = true := (Bool.and_eq_true_iff.mp e).imp_left fun z => (Bool.and_eq_true_iff.mp z).imp_left Bool.and_eq_true_iff.mp
    obtain ⟨h5, h6⟩ := Bool.and_eq_true_iff.mp h1
    rw [if_pos ⟨of_decide_eq_true h5, h6⟩]
    show hamT (pref2 y.2 (u.drop y.1) false) = _
    have hl := eq_of_beq h4
    rw [pref2_X, core_X, eq_of_beq h2, hl]
    have ne := X_ne (q := u.drop 2) (by rw [List.length_drop]; exact Nat.le_sub_of_add_le (of_decide_eq_true h5))
    rw [ham_app ne, eq_of_beq h3]
    exact (ham_app (s := [1575]) ne).symm
noncomputable def arts : List T := [[1575, 1604], [1604, 1604], [1576, 1575], [1603, 1575]]
noncomputable def Art2 (u : T) : Prop := ∃ p ∈ arts, p <+: u
theorem arts_2 : ∀ p ∈ arts, p.length = 2 := by decide
noncomputable def apart (D : List (T × Int)) : Bool := arts.all fun p => D.all fun e => !(e.1.isPrefixOf p) && !(p.isPrefixOf e.1)
theorem no_pre {D : List (T × Int)} (h : apart D = true) {g : T → Int → Nat → T → Option T} {u : T} (a : Art2 u) (m : Nat) : preF D g m u = Option.none := by
  obtain ⟨p, hp, hu⟩ := a
  refine preF_none (List.find?_eq_none.mpr fun e he q => ?_)
  obtain ⟨h1, h2⟩ := Bool.and_eq_true_iff.mp (List.all_eq_true.mp (List.all_eq_true.mp h p hp) e he)
  rcases List.prefix_or_prefix_of_prefix (List.isPrefixOf_iff_prefix.mp q) hu with x | x
  · rw [show e.1.isPrefixOf p = true from List.isPrefixOf_iff_prefix.mpr x] at h1; cases h1
  · rw [show p.isPrefixOf e.1 = true from List.isPrefixOf_iff_prefix.mpr x] at h2; cases h2
theorem pref_art {u : T} (h : Art2 u) : pref u true = pref u false := by
  unfold pref pref2 pref3 pref4
  rw [no_pre (D := D_4) (by decide) h, no_pre (D := D_5) (by decide) h, no_pre (D := D_8) (by decide) h, no_pre (D := D_9) (by decide) h]
theorem cut_keep {L : T → Nat} {ends : List T} {t x p : T} (hL : ∀ e, 2 ≤ L e) (h : cutL L ends t = some x) (hp : p <+: t) (l : p.length = 2) : p <+: x := by
  obtain ⟨e, _, rfl, hl⟩ := cut_mem h
  exact List.prefix_of_prefix_length_le hp ⟨e, rfl⟩ (l ▸ Nat.le_trans (hL e) hl)
theorem L4_2 (e : T) : 2 ≤ L4 e := (by decide : 2 ≤ 4)
theorem L5_2 (e : T) : 2 ≤ L5 e := (by decide : 2 ≤ 5)
theorem L2_2 (e : T) : 2 ≤ L2 e := (by decide : 2 ≤ 2)
theorem lim_2 (e : T) : 2 ≤ lim e := by unfold lim; split <;> decide
section
variable {t p : T} (hp : p <+: t) (l : p.length = 2)
include hp l
theorem or_keep {L : T → Nat} {ends : List T} {B : T} (hL : ∀ e, 2 ≤ L e) (hB : p <+: B) : p <+: (match cutL L ends t with | some x => x | Option.none => B) := by
  cases h : cutL L ends t with
  | none => exact hB
  | some x => exact cut_keep hL h hp l
theorem getD_keep {L : T → Nat} {ends : List T} (hL : ∀ e, 2 ≤ L e) : p <+: (cutL L ends t).getD t := by
  cases h : cutL L ends t with
  | none => exact hp
  | some x => exact cut_keep hL h hp l
theorem nounA_keep (d : Bool) : p <+: nounA t d := by
  refine or_keep hp l lim_2 ?_
  cases h : cutL L5 [[1606]] t with
  | none => cases d with
    | true => exact getD_keep hp l lim_2
    | false => exact or_keep hp l L4_2 (getD_keep hp l lim_2)
  | some x =>
    have hx := cut_keep L5_2 h hp l
    exact or_keep hx l L4_2 (or_keep hx l lim_2 (getD_keep hx l lim_2))
theorem fin_keep (m : p ∈ arts) (d : Bool) : p <+: finN t d := by
  have hv := nounA_keep hp l d
  refine or_keep hv l L2_2 ?_
  unfold maq
  split
  · rename_i hs
    obtain ⟨r, hr⟩ := List.isSuffixOf_iff_suffix.mp hs
    rw [← hr] at hv ⊢
    show p <+: (r ++ [1609]).take _ ++ [1610]
    rw [List.length_append, List.length_singleton, Nat.add_sub_cancel, List.take_left]
    rcases List.prefix_concat_iff.mp hv with z | z
    · exact absurd (z ▸ List.getLast?_concat) ((by decide : ∀ p ∈ arts, p.getLast? ≠ some 1609) p m)
    · exact z.trans ⟨_, rfl⟩
  · exact hv
end
theorem pre_art {w : T} (h : chk w = true) : Art2 (pre w) := by
  unfold chk at h
  cases hp : pick id D_3 w with
  | none => rw [hp] at h; cases h
  | some e =>
    obtain ⟨he, q, rfl⟩ := pick_memF hp
    have e1 := (by decide +kernel : ∀ e ∈ D_3, e.1.flatMap (put tas_0 D_0) = e.1 ∧ e.1.take 2 ∈ arts) e he
    refine ⟨_, e1.2, ?_⟩
    unfold pre
    rw [List.flatMap_append, e1.1]
    exact (List.take_prefix 2 e.1).trans ⟨_, rfl⟩
theorem plain_law (w : T) : stemT w = specT w := by
  unfold stemT specT
  rw [post_ham, ended_suf, ← chk_art]
  cases hd : chk w with
  | false => exact ham_pref _
  | true =>
    obtain ⟨p, h1, h2⟩ := pre_art hd
    rw [pref_art (u := suf (pre w) true) ⟨p, h1, fin_keep h2 (arts_2 p h1) h1 true⟩]
    exact ham_pref _
end
end Mine
end
section
open PySem PySem.W PyProof.Rows PySem.Calls
set_option backward.match.sparseCases false
set_option genSizeOf false
set_option genInjectivity false
set_option maxRecDepth 1000000
namespace Mine
section
variable {C : Cx} {nm : List Str} {sc sc' : Scope} {n : Nat} {p : Pl} {x y : Str}
theorem none_before (P : PlOk C p nm sc) {s s1 : Shared} {ρ : Loc} {σ : St} (w : Went C p s s1 ρ σ) {D : Addr} (nD : NewAt C p D) (h : s1.heap.get? D = none) : s.heap.get? D = none := by
  cases e : s.heap.get? D with
  | none => rfl
  | some o =>
    have := w.ext.keep D o e nD.own (fun q => by
      obtain ⟨v, o', e2, d2⟩ := w.at_.cells D q
      rw [h] at e2; cases e2) nD.outer fun x dx ho => (nD.ob x dx ho).2
    rw [h] at this; cases this
theorem not_cell (P : PlOk C p nm sc) {h : Heap} {ρ : Loc} {σ : St} (a : At C p h ρ σ) {D : Addr} {o : Obj} (e : h.get? D = some o) (d : ∀ v, o.data ≠ .cell v) : D ∉ p.cs := fun q => by
  obtain ⟨v, o', e2, d2⟩ := a.cells D q
  rw [e] at e2; cases e2; exact d v d2
theorem asg_compF {iter elt : Expr} {ifs : List Expr} {fit : Loc → St → Option (V × St)} {g : Loc → V → St → Option (Option T × St)} {i j : Nat} (hy : stores sc y = true) (hj : idx nm y = some j) (hc : CompOk sc sc' x) (hi : idx nm x = some i) (hit : EvOk C nm sc n iter fit) (hset : notSet iter = true) (T : TurnOk C nm sc' n ifs elt g i) (px py pos spos : Pos)
    {A : Around} {s : Shared} {ρ : Loc} {σ σ' : St} {ts : List Mine.T} (P : PlOk C p nm sc) (Fp : PlFn p) (M : Rm p A n) (a : At C p s.heap ρ σ)
    (q : ((fit ρ σ).bind fun (y, σ) => (itemsOf y).bind fun l => runT (fun y σ => g ((seen (visOf nm sc') ρ).set i (some y)) y σ) l σ) = some (ts, σ')) {Q : Flow → Shared → Prop} {E : Value → Shared → Prop}
    (k : ∀ s' D us, Went C p s s' (setV ρ j (.adl D ts)) σ' → NewAt C p D → s.heap.get? D = none → s'.heap.get? D = some (lstO us) → All2 isStr us ts → Q .next s') (hE : ∀ e s', No e s' → E e s') :
    wpAny (model PW C.w) A (exec (.Assign [.Name y py] (.ListComp elt [⟨.Name x px, iter, ifs, 0⟩] sc' pos) spos) p.env) Q E s := by
  refine wpAny_mono (E := No) (Q := Q) ?_ (fun _ _ z => z) hE
  obtain ⟨⟨v, σ1⟩, h1, q⟩ := Option.bind_eq_some_iff.mp q
  obtain ⟨l, h2, h3⟩ := Option.bind_eq_some_iff.mp q
  obtain ⟨h4, h5⟩ := items_raw h2
  have hsw : ∃ b, swapsWith (.ListComp elt [⟨.Name x px, iter, ifs, 0⟩] sc' pos) (some (.Name y py)) spos.line p.env = pure b := ⟨_, rfl⟩
  obtain ⟨b, hsw⟩ := hsw
  obtain ⟨cl, hclos, hcl⟩ := closure_ok P hc
  cases b with
  | false =>
    have EV : wpAny (model PW C.w) A (eval (.ListComp elt [⟨.Name x px, iter, ifs, 0⟩] sc' pos) p.env) (fun u s1 => ∃ D us, u = .ref D ∧ Went C p s s1 ρ σ' ∧ NewAt C p D ∧ s.heap.get? D = none ∧ s1.heap.get? D = some (lstO us) ∧ All2 isStr us ts) No s := by
      rw [eval_ListComp]
      refine wpAny_comprehension_free (use := none) rfl (foldedSet hset p.env) hclos hc.kind hc.locs (wpAny_mono (hit p A s ρ σ v σ1 P M a h1) (fun u s1 ⟨r1, w1⟩ => ?_) fun _ _ z => z)
      refine iter_ok M.handled r1 h4 fun o fp Pz St ho hfp W st hI hP => ?_
      refine comp_loop P M hc hcl hi T w1.at_ h3 h5 W st hfp hI hP fun D Cd s' f => ?_
      obtain ⟨m', hn⟩ := f.ns
      obtain ⟨us, k1, k2⟩ := f.lst
      exact ⟨m', hn, fun h' hs => ⟨D, us, rfl, w1.trans (f.post P h' hs).2, f.newD, none_before P w1 f.newD f.freshD, hs.extBut D _ (Ne.symm f.ne) k1, k2⟩⟩
    refine wpAny_Assign_Name (wpAny_mono EV (fun u s1 z => ?_) fun _ _ z => z) hsw
    obtain ⟨D, us, rfl, w1, nD, fr, k1, k2⟩ := z
    refine wpAny_mono (store_var (v := .adl D ts) P Fp w1.at_ hj hy ⟨rfl, D, us, rfl, ⟨_, k1, rfl, _, rfl⟩, k2⟩ fun s' w => k s' D us (w1.trans w) nD fr ?_ k2) (fun _ _ z => z) fun _ _ z => z
    exact w.ext.keep D _ k1 nD.own (not_cell P w1.at_ k1 fun _ q => by cases q) nD.outer fun x dx ho => (nD.ob x dx ho).2
  | true =>
    rw [exec_Assign_Name_used _ _ _ _ hsw]
    refine wpAny_bind (wpAny_standAt (wpAny_bind ?_))
    show wpAny _ A (do let _ ← comprehension (.ListComp elt [⟨.Name x px, iter, ifs, 0⟩] sc' pos) sc' p.env _ (newList []) false (eval iter p.env) (some (assign (.Name y py) p.env))) _ _ s
    refine wpAny_bind (wpAny_mono (wpAny_comprehension_free (use := some (assign (.Name y py) p.env)) (Q := fun _ s' => Q .next s') rfl (foldedSet hset p.env) hclos hc.kind hc.locs
      (wpAny_mono (hit p A s ρ σ v σ1 P M a h1) (fun u s1 ⟨r1, w1⟩ => ?_) fun _ _ z => z)) (fun _ s' hq => wpAny_pure (wpAny_pure hq)) fun _ _ e => e)
    refine iter_ok M.handled r1 h4 fun o fp Pz St ho hfp W st hI hP => ?_
    refine comp_loop P M hc hcl hi T w1.at_ h3 h5 W st hfp hI hP fun D Cd s' f => ?_
    obtain ⟨us, k1, k2⟩ := f.lst
    obtain ⟨m', hn⟩ := f.ns
    have at1 : At C p s'.heap ρ σ' := f.at_.up P fun _ _ => Heap.of_hide
    have w2 : Went C p s1 s' ρ σ' := ⟨at1, f.ext, f.os, f.gens⟩
    show wpAny _ A (assign (.Name y py) p.env (.ref D)) _ _ _
    refine wpAny_assign_Name (store_var (v := .adl D ts) P Fp at1 hj hy ⟨rfl, D, us, rfl, ⟨_, k1, rfl, _, rfl⟩, k2⟩ fun s2 w3 => ?_)
    obtain ⟨o', es, c, e', d', hr⟩ := hn
    have hC2 : s2.heap.get? Cd = some o' := w3.ext.keep Cd o' e' f.newC.own (fun q => by
      obtain ⟨v, o'', e2, d2⟩ := at1.cells Cd q
      rw [e'] at e2; cases e2; rw [d'] at d2; cases d2) f.newC.outer fun y dy ho => (f.newC.ob y dy ho).2
    have hD2 : s2.heap.get? D = some (lstO us) := w3.ext.keep D _ k1 f.newD.own (not_cell P at1 k1 fun _ q => by cases q) f.newD.outer fun x dx ho => (f.newD.ob x dx ho).2
    refine ⟨m', ⟨o', es, c, hC2, d', hr⟩, fun h' hs => ?_⟩
    have hk : ∀ b o, b ≠ Cd → s2.heap.get? b = some o → h'.get? b = some o := fun b o hb e => hs.extBut b o hb e
    have w4 := (w1.trans w2).trans w3
    refine k _ D us ⟨At.but P w3.at_ hk f.newC.own f.newC.outer f.newC.ob f.newC.base fun o e => ?_, ?_, w4.os, w4.gens⟩ f.newD (none_before P w1 f.newD f.freshD) (hk D _ (Ne.symm f.ne) hD2) k2
    · rw [hC2] at e; cases e
      exact ⟨fun ws c q => (by rw [d'] at q; cases q), fun w q => (by rw [d'] at q; cases q)⟩
    · exact w1.ext.trans (Ext.but P (w2.ext.trans w3.ext) hk f.freshC)
end
noncomputable def hst (i : Nat) : Stmt := (topFn 26).2.1.getD i default
noncomputable def h0py : Pos := match hst 0 with | .Assign [.Name _ p] _ _ => p | _ => default
noncomputable def h0sp : Pos := match hst 0 with | .Assign _ _ p => p | _ => default
noncomputable def h0v : Expr := match hst 0 with | .Assign _ v _ => v | _ => default
noncomputable def h0elt : Expr := match h0v with | .ListComp e _ _ _ => e | _ => default
noncomputable def h0px : Pos := match h0v with | .ListComp _ [⟨.Name _ p, _, _, _⟩] _ _ => p | _ => default
noncomputable def h0it : Expr := match h0v with | .ListComp _ [⟨_, i, _, _⟩] _ _ => i | _ => default
noncomputable def h0sc : Scope := match h0v with | .ListComp _ _ s _ => s | _ => default
noncomputable def h0pos : Pos := match h0v with | .ListComp _ _ _ p => p | _ => default
noncomputable def h1c : Expr := match hst 1 with | .If c _ _ _ => c | _ => default
noncomputable def h1pp : Pos := match hst 1 with | .If _ _ _ p => p | _ => default
noncomputable def h1s : Stmt := match hst 1 with | .If _ [s] _ _ => s | _ => default
noncomputable def h1p : Pos := match h1s with | .Assign [.Subscript (.Name _ p) _ _] _ _ => p | _ => default
noncomputable def h1i : Expr := match h1s with | .Assign [.Subscript _ i _] _ _ => i | _ => default
noncomputable def h1sp : Pos := match h1s with | .Assign [.Subscript _ _ p] _ _ => p | _ => default
noncomputable def h1v : Expr := match h1s with | .Assign _ v _ => v | _ => default
noncomputable def h1ap : Pos := match h1s with | .Assign _ _ p => p | _ => default
noncomputable def h2e : Expr := match hst 2 with | .Return (some e) _ => e | _ => default
noncomputable def h2p : Pos := match hst 2 with | .Return _ p => p | _ => default
noncomputable abbrev nmH : List Str := nmOf (topFn 26) ["sign"]
noncomputable abbrev scH : Scope := (topFn 26).2.2
theorem h_body : (topFn 26).2.1 = [.Assign [.Name "told" h0py] (.ListComp h0elt [⟨.Name "sign" h0px, h0it, [], 0⟩] h0sc h0pos) h0sp, .If h1c [.Assign [.Subscript (.Name "told" h1p) h1i h1sp] h1v h1ap] [] h1pp, .Return (some h2e) h2p] := by kernel_rfl
noncomputable def eltE : E := (.ife (.isIn (.var 2) (.strsD [[1570], [1571], [1573]])) (.lit (.str [1575])) (.ife (.cmp .eq (.var 2) (.lit (.str [1572]))) (.lit (.str [1608])) (.ife (.cmp .eq (.var 2) (.lit (.str [1574]))) (.lit (.str [1610])) (.var 2))))
noncomputable def conE : E := (.and2 (.cmp .ne (.var 0) (.lit (.str []))) (.isIn (.idx (.var 0) (.bin .sub (.bi1 .len (.var 0)) (.lit (.int 1)))) (.strsD [[1570], [1571], [1572], [1573], [1574]])))
theorem k_it : cE NM nmH 40 scH h0it = some (.var 0) := by kernel_rfl
theorem k_elt : cE NM nmH 40 h0sc h0elt = some eltE := by kernel_rfl
theorem k_con : cE NM nmH 40 scH h1c = some conE := by kernel_rfl
theorem k_i : cE NM nmH 40 scH h1i = some (.bin .sub (.bi1 .len (.var 1)) (.lit (.int 1))) := by kernel_rfl
theorem k_v : cE NM nmH 40 scH h1v = some (.lit (.str [1569])) := by kernel_rfl
theorem k_r : cE NM nmH 40 scH h2e = some (.sm .join (.lit (.str [])) (.var 1)) := by kernel_rfl
theorem k_co : compOk scH h0sc "sign" = true := by kernel_rfl
theorem k_st : stores scH "told" = true := by kernel_rfl
theorem k_told : idx nmH "told" = some 1 := by kernel_rfl
theorem k_sign : idx nmH "sign" = some 2 := by kernel_rfl
theorem k_vis : visOf nmH h0sc = [] := by kernel_rfl
theorem k_set : notSet h0it = true := by kernel_rfl
theorem k_ok : okN "told" = true := by decide +kernel
noncomputable abbrev Φ0 : Phi := fun _ _ _ => Option.none
noncomputable abbrev Ψ0 : Psi := fun _ _ => Option.none
theorem elt_ev {c : Nat} {σ : St} : ev' Φ0 Ψ0 eltE [Option.none, Option.none, some (.str [c])] σ = some (.str [hamC c], σ) := by
  unfold eltE hamC
  have hc : ([[1570], [1571], [1573]] : List T).contains [c] = decide (c = 1570 ∨ c = 1571 ∨ c = 1573) := by
    rw [Bool.eq_iff_iff, List.contains_iff_mem, decide_eq_true_iff]; simp
  by_cases h1 : c = 1570 ∨ c = 1571 ∨ c = 1573
  · simp only [e_ife, e_isIn, e_var, nth_2, rt_some, k2_some, e_strsD, k1_some, i_in, hc, h1, decide_true, kIf_some, if_true, e_lit]
  · by_cases h2 : c = 1572
    · subst h2
      simp [h1]
    · by_cases h3 : c = 1574
      · subst h3
        simp [h1]
      · have e1 : ([c] : T) ≠ [1572] := by simpa using h2
        have e2 : ([c] : T) ≠ [1574] := by simpa using h3
        rw [if_neg h1, if_neg h2, if_neg h3]
        simp only [e_ife, e_isIn, e_var, nth_2, rt_some, k2_some, e_strsD, k1_some, i_in, hc, h1, decide_false, kIf_some, Bool.false_eq_true, if_false, e_lit, e_cmp, c_seq, e1, e2]
theorem elt_each {σ : St} : ∀ t : T, evEach (fun v σ => ev' Φ0 Ψ0 eltE ((seen [] [w0, w1, w2]).set 2 (some v)) σ) (t.map fun c => .str [c]) σ = some (t.map fun c => .str [hamC c], σ)
  | [] => rfl
  | c :: t => by
    rw [List.map_cons, evEach]
    have : ev' Φ0 Ψ0 eltE ((seen [] [w0, w1, w2]).set 2 (some (.str [c]))) σ = some (.str [hamC c], σ) := elt_ev
    rw [this, Option.bind_some]
    simp only
    rw [elt_each t]
    rfl
noncomputable def lastH (t : T) : Bool := match t.getLast? with
  | some c => decide (c = 1570 ∨ c = 1571 ∨ c = 1572 ∨ c = 1573 ∨ c = 1574)
  | Option.none => false
theorem con_ev {t : T} {v1 v2 : Option V} {σ : St} (ht : t.length ≤ 1000) : ev' Φ0 Ψ0 conE [some (.str t), v1, v2] σ = some (.bool (lastH t), σ) := by
  unfold conE lastH
  rcases List.eq_nil_or_concat t with rfl | ⟨p, x, rfl⟩
  · simp (implicitDefEqProofs := false)
  · rw [List.concat_eq_append] at ht ⊢
    have e0 : (p ++ [x]).getLast? = some x := by simp
    have e1 : (((p ++ [x]).length : Int) - 1).toNat = p.length := by simp
    have e2 : (p ++ [x])[p.length]? = some x := by simp
    have e3 : p ++ [x] ≠ [] := by simp
    have hc : ([[1570], [1571], [1572], [1573], [1574]] : List T).contains [x] = decide (x = 1570 ∨ x = 1571 ∨ x = 1572 ∨ x = 1573 ∨ x = 1574) := by
      rw [Bool.eq_iff_iff, List.contains_iff_mem, decide_eq_true_iff]; simp
    rw [e0]
    have hl : (p ++ [x]).length = p.length + 1 := by simp
    simp (disch := first | assumption | omega | (simp; done) | (simp; omega)) only [e_and2, e_cmp, e_var, nth_0, rt_some, k2_some, e_lit, k1_some, c_sne, e3, decide_false, Bool.not_false, kAnd_some, if_true, e_isIn, e_idx, e_bin, e_bi1, b_len, o_sub, x_str, e1, e2, Option.map_some, e_strsD, i_in, hc]
theorem join_ev {t : T} {D : Nat} {ts : List T} {v2 : Option V} {σ : St} (h : (ts.map List.length).sum + ts.length ≤ 1000000) : ev' Φ0 Ψ0 (.sm .join (.lit (.str [])) (.var 1)) [some (.str t), some (.adl D ts), v2] σ = some (.str ts.flatten, σ) := by
  have : smV .join (.str []) (.adl D ts) = some (.str ts.flatten) := if_pos h
  simp only [e_sm, e_lit, k2_some, e_var, nth_1, rt_some, k1_some, this]
theorem idx_ev {t : T} {D : Nat} {ts : List T} {v2 : Option V} {σ : St} (h : ts.length ≤ 1000000) : ev' Φ0 Ψ0 (.bin .sub (.bi1 .len (.var 1)) (.lit (.int 1))) [some (.str t), some (.adl D ts), v2] σ = some (.int ((ts.length : Int) - 1), σ) := by
  have : biV .len (.adl D ts) = some (.int ts.length) := if_pos h
  simp only [e_bin, e_bi1, e_var, nth_1, rt_some, k1_some, this, k2_some, e_lit, o_sub]
theorem ham_flat (t : T) (h : lastH t = false) : (t.map fun c => [hamC c]).flatten = hamT t := by
  have e : ∀ t : T, (t.map fun c => [hamC c]).flatten = t.map hamC := fun t => by
    induction t with
    | nil => rfl
    | cons c t ih => simp [ih]
  rw [e]
  unfold hamT
  rcases List.eq_nil_or_concat t with rfl | ⟨p, x, rfl⟩
  · rfl
  · rw [List.concat_eq_append] at h ⊢
    have e0 : (p ++ [x]).getLast? = some x := by simp
    unfold lastH at h
    rw [e0] at h ⊢
    simp only [decide_eq_false_iff_not] at h
    simp [hamL, h]
theorem ham_flat' (t : T) (h : lastH t = true) : ((t.map fun c => [hamC c]).set (t.length - 1) [1569]).flatten = hamT t := by
  have e : ∀ t : T, (t.map fun c => [hamC c]).flatten = t.map hamC := fun t => by
    induction t with
    | nil => rfl
    | cons c t ih => simp [ih]
  unfold hamT
  rcases List.eq_nil_or_concat t with rfl | ⟨p, x, rfl⟩
  · simp [lastH] at h
  · rw [List.concat_eq_append] at h ⊢
    have e0 : (p ++ [x]).getLast? = some x := by simp
    unfold lastH at h
    rw [e0] at h ⊢
    simp only [decide_eq_true_eq] at h
    have e3 : hamC 1569 = 1569 := by decide
    simp [hamL, h, e, e3]
section
variable {C : Cx} {nm : List Str} {sc : Scope} {n : Nat} {p : Pl}
theorem at_told (P : PlOk C p nm sc) {h h' : Heap} {t : T} {ts ts' : List T} {σ : St} {D : Addr} {us us' : List Value} (x : At C p h [some (.str t), some (.adl D ts), Option.none] σ) (hk : ∀ b o, b ≠ D → h.get? b = some o → h'.get? b = some o) (nD : NewAt C p D) (hD : h.get? D = some (lstO us)) (hl : h'.IsList D us'.toArray) (r : All2 isStr us' ts') :
    At C p h' [some (.str t), some (.adl D ts'), Option.none] σ := by
  obtain ⟨m, nn, vs⟩ := x.env
  have hd : ∀ o, h.get? D = some o → ∀ v, o.data ≠ .cell v := fun o e v q => by rw [hD] at e; cases e; cases q
  have cellK : ∀ c v, h.IsCell c v → h'.IsCell c v := fun c v ⟨o, e, d⟩ => ⟨o, hk _ _ (fun q => by rw [q] at e; exact hd o e _ d) e, d⟩
  refine ⟨fun b o e => hk b o (fun q => by rw [q, nD.base] at e; cases e) (x.base b o e), funFrames_mono (fun b hb o e d => ⟨o, hk b o (fun q => ?_) e, d⟩) x.ff, fun b hb => ?_, fun y dy e => ?_, fun c hc => ?_, m, ?_, fun i y v e1 e2 => ?_⟩
  · exact nD.stack (q ▸ hb)
  · obtain ⟨o, es, c, e, d⟩ := x.fd b hb
    exact ⟨o, es, c, hk _ _ (fun q => nD.stack (q ▸ hb)) e, d⟩
  · obtain ⟨es, c, h1, h2, h3⟩ := x.me y dy e
    exact ⟨es, c, hk _ _ (Ne.symm (nD.ob y dy e).1) h1, hk _ _ (Ne.symm (nD.ob y dy e).2) h2, h3⟩
  · obtain ⟨v, z⟩ := x.cells c hc
    exact ⟨v, cellK c v z⟩
  · obtain ⟨o, es, c, e, d, r⟩ := nn
    exact ⟨o, es, c, hk _ _ (Ne.symm nD.own) e, d, r⟩
  · match i, e2 with
    | 0, e2 =>
      have e2 : some (V.str t) = some v := e2
      cases e2
      obtain ⟨u, ru, z⟩ := vs 0 y (.str t) e1 rfl
      refine ⟨u, ru, ?_⟩
      rcases z with z | ⟨z1, c, z2, z3⟩
      · exact .inl z
      · exact .inr ⟨z1, c, z2, cellK c _ z3⟩
    | 1, e2 =>
      have e2 : some (V.adl D ts') = some v := e2
      cases e2
      obtain ⟨u, ru, z⟩ := vs 1 y (.adl D ts) e1 rfl
      obtain ⟨rfl, _⟩ := ru
      refine ⟨.ref D, ⟨rfl, D, us', rfl, hl, r⟩, ?_⟩
      rcases z with z | ⟨z1, c, z2, z3⟩
      · exact .inl z
      · exact .inr ⟨z1, c, z2, cellK c _ z3⟩
    | 2, e2 => cases e2
    | i + 3, e2 => cases e2
theorem At.none3 {h : Heap} {ρ : Loc} {σ : St} (x : At C p h ρ σ) : At C p h [Option.none, Option.none, Option.none] σ := by
  obtain ⟨m, nn, vs⟩ := x.env
  refine ⟨x.base, x.ff, x.fd, x.me, x.cells, m, nn, fun i y v e1 e2 => ?_⟩
  match i, e2 with
  | 0, e2 => cases e2
  | 1, e2 => cases e2
  | 2, e2 => cases e2
  | i + 3, e2 => cases e2
theorem all2_set {us : List Value} {ts : List T} (h : All2 isStr us ts) {u : Value} {t : T} (hu : isStr u t) : ∀ i, All2 isStr (us.set i u) (ts.set i t) := by
  induction h with
  | nil => intro i; exact .nil
  | cons a r ih =>
    intro i
    cases i with
    | zero => exact .cons hu r
    | succ i => exact .cons a (ih i)
end
noncomputable def FH : Sg → Option (Out × Sg)
  | ([some (.str t), Option.none, Option.none], σ) => if t.length ≤ 1000 then some (.ret (.str (hamT t)), ([Option.none, Option.none, Option.none], σ)) else Option.none
  | _ => Option.none
theorem k_nc : notComp h1v = true := by kernel_rfl
theorem items_ev {t : T} {σ : St} (ht : t.length ≤ 1000) :
    ((ev' Φ0 Ψ0 (.var 0) [some (.str t), Option.none, Option.none] σ).bind fun (y, σ) => (itemsOf y).bind fun l => runT (fun y σ => (fun (ρ : Loc) (_ : V) σ => (ev' Φ0 Ψ0 eltE ρ σ).bind fun (w, σ) => match w with | .str t => some (some t, σ) | _ => Option.none) ((seen (visOf nmH h0sc) [some (.str t), Option.none, Option.none]).set 2 (some y)) y σ) l σ) = some (t.map fun c => [hamC c], σ) := by
  rw [k_vis, e_var]
  show (itemsOf (.str t)).bind _ = _
  rw [items_str (by omega)]
  show runT _ _ _ = _
  refine runT_each (f := fun v σ => ev' Φ0 Ψ0 eltE ((seen [] [some (.str t), Option.none, Option.none]).set 2 (some v)) σ) (elt_each t) ?_
  have := strsOf_map (t.map fun c => [hamC c])
  rw [List.map_map] at this
  exact this
theorem ham_block {C : Cx} {n : Nat} : BlOk C nmH scH n (topFn 26).2.1 FH := by
  intro p A s ρ σ o ρ' σ' P Fp M a q
  unfold FH at q
  split at q
  case h_2 => cases q
  rename_i x t σ0 hx
  cases hx
  split at q
  case isFalse => cases q
  rename_i ht
  cases q
  rw [h_body]
  have hΨ : ∀ x f, fns.lookup x = some f → CallOk C n f (fnG Ψ0 f) := fun _ _ _ => callOk_zero fun _ _ => rfl
  have hΦ : ∀ a m, mths.lookup a = some m → CallOk C n m (mtG Φ0 m) := fun _ _ _ => callOk_zero fun xs σ => by unfold mtG; split <;> rfl
  have back : ∀ (s2 : Shared) (D : Addr) (ts : List T), Went C p s s2 [some (.str t), some (.adl D ts), Option.none] σ → (ts.map List.length).sum + ts.length ≤ 1000000 → ts.flatten = hamT t →
      wpAny (model PW C.w) A (execs [.Return (some h2e) h2p] p.env) (OutQ C p s (.ret (.str (hamT t))) [Option.none, Option.none, Option.none] σ) (OutE C p s (.ret (.str (hamT t))) [Option.none, Option.none, Option.none] σ) s2 := by
    intro s2 D ts w hs hf
    have hb := bl_cons (st_ret (cE_ok (nm := nmH) hΨ hΦ 40 scH _ _ k_r).1 h2p) (bl_nil (C := C) (nm := nmH) (sc := scH) (n := n))
    refine wpAny_mono (hb p A s2 [some (.str t), some (.adl D ts), Option.none] σ (.ret (.str ts.flatten)) [some (.str t), some (.adl D ts), Option.none] σ P Fp M w.at_ ?_) (fun fl s3 h3 => ?_) fun e s3 h3 => h3.elim
    · simp only [join_ev hs, Option.bind_some]
    · obtain ⟨u, h1, h2, h3⟩ := h3
      rw [hf] at h2
      have w' := w.trans h3
      exact ⟨u, h1, h2, w'.at_.none3, w'.ext, w'.os, w'.gens⟩
  refine wpAny_execs_cons (asg_compF (y := "told") (x := "sign") k_st k_told (compOk_of k_co) k_sign (cE_ok (nm := nmH) hΨ hΦ 40 scH _ _ k_it).1 k_set (turn_map (cE_ok (nm := nmH) hΨ hΦ 40 h0sc _ _ k_elt).1 2) _ _ _ _ P Fp M a (ts := t.map fun c => [hamC c]) (σ' := σ) (items_ev ht) (fun s1 D us w1 nD fr hD r => ?_) fun e s' z => z.elim)
  have w1 : Went C p s s1 [some (.str t), some (.adl D (t.map fun c => [hamC c])), Option.none] σ := w1
  have hsum : ∀ l : T, ((l.map fun c => [hamC c]).map List.length).sum = l.length := fun l => by
    induction l with
    | nil => rfl
    | cons c l ih => rw [List.map_cons, List.map_cons, List.sum_cons, ih]; simp; omega
  refine wpAny_execs_cons (wpAny_If (wpAny_mono ((cE_ok (nm := nmH) hΨ hΦ 40 scH _ _ k_con).2 p A s1 _ σ (lastH t) σ P M w1.at_ (con_ev ht)) (fun b s2 hb => ?_) fun _ _ z => z.elim))
  obtain ⟨rfl, w2⟩ := hb
  cases hl : lastH t with
  | false =>
    refine wpAny_execs_nil ?_
    exact back s2 D _ (w1.trans w2) (by rw [hsum, List.length_map]; omega) (ham_flat t hl)
  | true =>
    have hne : 0 < t.length := by
      rcases t with _ | ⟨c, t⟩
      · cases hl
      · simp
    refine wpAny_execs_cons (wpAny_Assign_Subscript ?_ (swaps_no k_nc _ _ _))
    refine wpAny_mono ((cE_ok (nm := nmH) hΨ hΦ 40 scH _ _ k_v).1 p A s2 _ σ (.str [1569]) σ P M w2.at_ (e_lit ..)) (fun w s3 hw => ?_) fun _ _ z => z.elim
    obtain ⟨rw3, w3⟩ := hw
    refine wpAny_mono ((ev_var k_told k_ok h1p) p A s3 _ σ (.adl D (t.map fun c => [hamC c])) σ P M w3.at_ rfl) (fun u s4 hu => ?_) fun _ _ z => z.elim
    obtain ⟨ru, w4⟩ := hu
    obtain ⟨rfl, _⟩ := ru
    refine wpAny_mono ((cE_ok (nm := nmH) hΨ hΦ 40 scH _ _ k_i).1 p A s4 _ σ _ σ P M w4.at_ (idx_ev (by rw [List.length_map]; omega))) (fun iv s5 hi => ?_) fun _ _ z => z.elim
    obtain ⟨ri, w5⟩ := hi
    obtain ⟨tk, rfl⟩ := ri
    have w15 := w2.trans (w3.trans (w4.trans w5))
    have hD5 : s5.heap.get? D = some (lstO us) := w15.ext.keep D _ hD nD.own (not_cell P w1.at_ hD fun _ q => by cases q) nD.outer fun x dx ho => (nD.ob x dx ho).2
    have hlen : us.length = t.length := by rw [r.length, List.length_map]
    refine wpAny_setItem_list (items := us.toArray) ⟨_, hD5, rfl, _, rfl⟩ (by rw [List.length_map]; omega) (by rw [List.length_map]; omega) (by rw [List.length_map, List.size_toArray]; omega) fun h' hl' hs' => ?_
    have ek : ((((t.map fun c => [hamC c]).length : Nat) : Int) - 1).toNat = t.length - 1 := by rw [List.length_map]; omega
    rw [ek, List.setIfInBounds_toArray] at hl'
    have hk : ∀ b o, b ≠ D → s5.heap.get? b = some o → h'.get? b = some o := fun b o hb e => hs'.extBut b o hb e
    have a5 := at_told (ts' := (t.map fun c => [hamC c]).set (t.length - 1) [1569]) P w5.at_ hk nD hD5 hl' (all2_set r rw3 _)
    have wA := w1.trans w15
    refine wpAny_execs_nil ?_
    refine back _ D _ ⟨a5, Ext.but P wA.ext hk fr, wA.os, wA.gens⟩ ?_ (ham_flat' t hl)
    have e1 : (((t.map fun c => [hamC c]).set (t.length - 1) [1569]).map List.length).sum ≤ t.length := by
      have e2 : ∀ (l : List T) (i : Nat), (∀ x ∈ l, x.length = 1) → ((l.set i [1569]).map List.length).sum = (l.map List.length).sum := by
        intro l
        induction l with
        | nil => intro i _; rfl
        | cons x l ih =>
          intro i h
          cases i with
          | zero => simp [h x (.head _)]
          | succ i => rw [List.set_cons_succ, List.map_cons, List.map_cons, List.sum_cons, List.sum_cons, ih i fun x hx => h x (.tail _ hx)]
      rw [e2 _ _ (fun x hx => by obtain ⟨c, _, rfl⟩ := List.mem_map.mp hx; rfl), hsum]
      omega
    rw [List.length_set, List.length_map]
    omega
theorem ham_ok {C : Cx} (k : Nat) : CallOk C (k + 1) 1202 (fun xs σ => (hamz xs).map (·, σ)) := by
  refine (call_ok (n := k) d_1202 (F := FH) ham_block).of fun xs σ r q => ?_
  obtain ⟨v, hv, rfl⟩ := Option.map_eq_some_iff.mp q
  unfold hamz at hv
  split at hv
  · rename_i t
    split at hv
    · rename_i ht
      cases hv
      have hn : (nmOf (topFn 26) ["sign"]).length = 3 := by kernel_rfl
      rw [callG_N, hn, callN_eq (by rfl)]
      have e : FH ([some (.str t), Option.none, Option.none], σ) = some (.ret (.str (hamT t)), ([Option.none, Option.none, Option.none], σ)) := if_pos ht
      show out (FH ([some (.str t), Option.none, Option.none], σ)) = _
      rw [e]
      rfl
    · cases hv
  · cases hv
theorem levels {C : Cx} (k : Nat) : LvOk C k := lv_ok ham_ok k
end Mine
end
section
open PySem PySem.W
set_option backward.match.sparseCases false
set_option genSizeOf false
set_option genInjectivity false
set_option maxRecDepth 100000
namespace Mine
noncomputable def headsL : List T := [[1575, 1604], [1576, 1575, 1604], [1603, 1575, 1604], [1604, 1604], [1571, 1570], [1571, 1571], [1571, 1572], [1571, 1573], [1571, 1575], [1601], [1608], [1576], [1576, 1575], [1576, 1576], [1603, 1603], [1587, 1571], [1587, 1578], [1587, 1606], [1587, 1610], [1578, 1587, 1578], [1606, 1587, 1578], [1610, 1587, 1578]]
theorem m_1140 {k : Nat} : Psi_ (k + 1) 1140 [] = some (.strs headsL) := psi_end (n := 0) (np := 0) (d := c1140) rfl (by decide) rfl fun σ => r_ret rfl rfl
theorem fm (a : Int) {b : Nat} (hb : 0 < b) : ∃ q : Nat, q < b ∧ a.fmod b = q := by
  have hb' : (0 : Int) < b := Int.ofNat_lt.mpr hb
  rw [Int.fmod_eq_emod_of_nonneg _ (Int.le_of_lt hb')]
  obtain ⟨q, h⟩ := Int.eq_ofNat_of_zero_le (Int.emod_nonneg a (Int.ne_of_gt hb'))
  exact ⟨q, Int.ofNat_lt.mp (h ▸ Int.emod_lt_of_pos a hb'), h⟩
section
variable {Φ : Phi} {Ψ : Psi} {ρ : Loc} {σ : St} {pl : Int} (g : nth ρ 2 = some (.int pl))
include g
theorem mod_ev {b q : Nat} (hb : 0 < b) (h : pl.fmod b = q) : ev' Φ Ψ (.bin .mod (.var 2) (.lit (.int b))) ρ σ = some (.int q, σ) :=
  ev_b2 (ev_v g) rfl ((o_mod (Int.ofNat_lt.mpr hb)).trans (by rw [h]))
theorem pick_ev {e : E} {l : List T} {b q : Nat} (he : ev' Φ Ψ e ρ σ = some (.strs l, σ)) (hl : l.length = b) (hb : b ≤ 1000) (hq : q < b) (h : pl.fmod b = q) : ev' Φ Ψ (.idx e (.bin .mod (.var 2) (.lit (.int b)))) ρ σ = some (.str (l.getD q []), σ) := by
  refine ev_x2 he (mod_ev g (Nat.lt_of_le_of_lt (Nat.zero_le q) hq) h) ((x_strs ⟨Int.natCast_nonneg _, Int.ofNat_lt.mpr (Nat.lt_of_lt_of_le hq (Nat.le_trans hb (by decide)))⟩).trans ?_)
  rw [Int.toNat_natCast, List.getD_eq_getElem?_getD, List.getElem?_eq_getElem (hl ▸ hq)]
  rfl
end
theorem getD_small {l : List T} {q : Nat} (h : ∀ e ∈ l, e.length ≤ 4) : (l.getD q []).length ≤ 4 := by
  rw [List.getD_eq_getElem?_getD]
  cases e : l[q]? with
  | none => exact Nat.zero_le _
  | some x => exact h x (List.mem_of_getElem? e)
noncomputable def chE : E := .bi1 .chr (.bin .add (.var 2) (.ife (.cmp .lt (.var 2) (.lit (.int 21))) (.lit (.int 1599)) (.ife (.cmp .lt (.var 2) (.lit (.int 33))) (.lit (.int 1610)) (.lit (.int 65118)))))
noncomputable def pt1 : Bk := .cons (.ite (.cmp .eq (.var 1) (.lit (.int 1))) (.cons (.ret (.idx (.fn0 1140) (.bin .mod (.var 2) (.lit (.int 22))))) .nil) .nil) (.cons (.ite (.cmp .eq (.var 1) (.lit (.int 2))) (.cons (.ret (.idx (.bin .add (.bin .add (.gl (.strs g_law_owners)) (.gl (.strs g_law_persons))) (.gl (.strs g_law_others))) (.bin .mod (.var 2) (.lit (.int 30))))) .nil) .nil) (.cons (.asg 2 (.bin .mod (.var 2) (.lit (.int 160)))) (.cons (.ret chE) .nil)))
theorem c1157_eq : c1157 = (.cons (.asg 1 (.bin .mod (.var 0) (.lit (.int 4)))) (.cons (.asg 2 (.bin .fdiv (.var 0) (.lit (.int 4)))) (.cons (.ite (.cmp .eq (.var 1) (.lit (.int 0))) (.cons (.ret (.idx (.gl (.str g_law_letters)) (.bin .mod (.var 2) (.lit (.int 36))))) .nil) .nil) pt1))) := rfl
theorem ch_ev {Φ : Phi} {Ψ : Psi} {ρ : Loc} {σ : St} {d : Nat} (hd : d < 160) (g : nth ρ 2 = some (.int d)) : ev' Φ Ψ chE ρ σ = some (.str [((d : Int) + cond (decide ((d : Int) < 21)) 1599 (cond (decide ((d : Int) < 33)) 1610 65118)).toNat], σ) := by
  have c (x y : Bool) : ∃ n : Nat, n ≤ 65118 ∧ cond x (1599 : Int) (cond y 1610 65118) = n ∧ cond x (V.int 1599) (cond y (V.int 1610) (V.int 65118)) = .int n := by
    cases x with
    | true => exact ⟨1599, by decide, rfl, rfl⟩
    | false => cases y with
      | true => exact ⟨1610, by decide, rfl, rfl⟩
      | false => exact ⟨65118, by decide, rfl, rfl⟩
  obtain ⟨n, h1, h2, h3⟩ := c (decide ((d : Int) < 21)) (decide ((d : Int) < 33))
  rw [h2]
  exact ev_bi (ev_b2 (ev_v g) ((vl_ife (ev_c2 (ev_v g) rfl (c_int _ _ _)) rfl (vl_ife (ev_c2 (ev_v g) rfl (c_int _ _ _)) rfl rfl)).trans (congrArg (fun v => some (v, σ)) h3)) rfl) (b_chr ⟨Int.natCast_nonneg (d + n), Int.ofNat_lt.mpr (Nat.lt_of_le_of_lt (Nat.add_le_add (Nat.le_of_lt hd) h1) (by decide))⟩)
theorem m_1157 {k : Nat} (n : Int) : ∃ t : T, Psi_ (k + 2) 1157 [.int n] = some (.str t) ∧ t.length ≤ 4 := by
  obtain ⟨kd, hk, ek⟩ := fm n (b := 4) (by decide)
  obtain ⟨pa, ha, ea⟩ := fm (n.fdiv 4) (b := 36) (by decide)
  obtain ⟨pb, hb, eb⟩ := fm (n.fdiv 4) (b := 22) (by decide)
  obtain ⟨pc, hc, ec⟩ := fm (n.fdiv 4) (b := 30) (by decide)
  obtain ⟨pd, hd, ed⟩ := fm (n.fdiv 4) (b := 160) (by decide)
  have mk : ∀ t : T, t.length ≤ 4 → (∀ σ, Res (RetQ (.str t) σ) (evB loop (Phi_ (k + 1)) (Psi_ (k + 1)) (.cons (.ite (.cmp .eq (.var 1) (.lit (.int 0))) (.cons (.ret (.idx (.gl (.str g_law_letters)) (.bin .mod (.var 2) (.lit (.int 36))))) .nil) .nil) pt1) ([some (.int n), some (.int kd), some (.int (n.fdiv 4))], σ))) → ∃ t : T, Psi_ (k + 2) 1157 [.int n] = some (.str t) ∧ t.length ≤ 4 := fun t h1 h2 =>
    ⟨t, psi_end (n := 3) (np := 1) (d := c1157) rfl (by decide) rfl fun σ => c1157_eq ▸ r_asg (v := .int kd) (σ' := σ) (ev_b2 rfl rfl ((o_mod (by decide)).trans (congrArg (fun x => some (V.int x)) ek))) (r_asg (v := .int (n.fdiv 4)) (ev_b2 rfl rfl (o_fdiv (by decide))) (h2 σ)), h1⟩
  have g : nth [some (.int n), some (.int kd), some (.int (n.fdiv 4))] 2 = some (.int (n.fdiv 4)) := rfl
  rcases (by decide : ∀ i < 4, i = 0 ∨ i = 1 ∨ i = 2 ∨ i = 3) kd hk with rfl | rfl | rfl | rfl
  · refine mk [g_law_letters.getD pa 0] (by decide : 1 ≤ 4) fun σ => r_y rfl (r_ret (ev_x2 rfl (mod_ev g (by decide) ea) ((x_str ⟨Int.natCast_nonneg _, Int.ofNat_lt.mpr (Nat.lt_of_lt_of_le ha (by decide))⟩).trans ?_)) rfl)
    rw [Int.toNat_natCast, List.getD_eq_getElem?_getD, List.getElem?_eq_getElem (show pa < g_law_letters.length from ha)]
    rfl
  · exact mk _ (getD_small (by decide)) fun σ => r_n rfl (r_y rfl (r_ret (pick_ev g (l := headsL) (congrArg (rt σ) m_1140) rfl (by decide) hb eb) rfl))
  · exact mk _ (getD_small (by decide)) fun σ => r_n rfl (r_n rfl (r_y rfl (r_ret (pick_ev g (l := g_law_owners ++ g_law_persons ++ g_law_others) (ev_b2 (ev_b2 rfl rfl (o_cats (by decide))) rfl (o_cats (by decide))) (by decide) (by decide) hc ec) rfl)))
  · exact mk [((pd : Int) + cond (decide ((pd : Int) < 21)) 1599 (cond (decide ((pd : Int) < 33)) 1610 65118)).toNat] (by decide : 1 ≤ 4) fun σ => r_n rfl (r_n rfl (r_n rfl (r_asg (v := .int pd) (mod_ev g (by decide) ed) (r_ret (ch_ev hd rfl) rfl))))
noncomputable def lE0 : E := .compM [] 4 (.tup2 (.slHi (.var 0) (.lit (.int 8))) (.slAll (.var 0) (.lit (.int 8)) (.lit (.int 16)))) (.sm .join (.lit (.str [])) (.compM [] 3 (.var 4) (.fn1 1157 (.var 3))))
noncomputable def lE2 : E := .cmp .eq (.compM [2] 5 (.var 1) (.call1 2 189 (.var 5))) (.compM [] 5 (.var 1) (.fn1 1207 (.var 5)))
theorem e_compM {Φ : Phi} {Ψ : Psi} {vis : List Nat} {i : Nat} {it body : E} {ρ : Loc} {σ σ1 σ' : St} {v : V} {l : List V} {ts : List T} (h1 : ev' Φ Ψ it ρ σ = some (v, σ1)) (h2 : itemsOf v = some l) (h3 : evEach (fun v σ => ev' Φ Ψ body ((seen vis ρ).set i (some v)) σ) l σ1 = some (ts.map .str, σ')) :
    ev' Φ Ψ (.compM vis i it body) ρ σ = some (.strs ts, σ') := by
  show Option.bind (ev' Φ Ψ it ρ σ) _ = _
  rw [h1]
  show Option.bind (itemsOf v) _ = _
  rw [h2]
  show Option.bind (evEach _ _ _) _ = _
  rw [h3]
  show Option.map _ (strsOf _) = _
  rw [strsOf_map]
  rfl
theorem each_cons {f : V → St → Option (V × St)} {v : V} {l : List V} {t : T} {ts : List T} {σ σ1 σ2 : St} (h1 : f v σ = some (.str t, σ1)) (h2 : evEach f l σ1 = some (ts.map .str, σ2)) : evEach f (v :: l) σ = some ((t :: ts).map .str, σ2) := by
  show Option.bind (f v σ) _ = _
  rw [h1]
  show Option.bind (evEach f l σ1) _ = _
  rw [h2]
  rfl
theorem sl1 {ns : List Int} (h : ns.length ≤ 63) : ∃ l, slHiV (.ints ns) (.int 8) = some (.ints l) ∧ l.length ≤ 8 := by
  refine ⟨cutT ns 0 (fitB 8 ns.length), (if_pos (Nat.le_trans h (by decide))).trans rfl, ?_⟩
  unfold cutT
  rw [List.drop_zero]
  exact Nat.le_trans (List.length_take_le _ _) (Nat.min_le_left 8 _)
theorem sl2 {ns : List Int} (h : ns.length ≤ 63) : ∃ l, slAllV (.ints ns) (.int 8) (.int 16) = some (.ints l) ∧ l.length ≤ 8 := by
  refine ⟨cutT ns (fitB 8 ns.length) (fitB 16 ns.length), (if_pos (Nat.le_trans h (by decide))).trans rfl, ?_⟩
  unfold cutT
  rw [List.length_drop, List.length_take]
  show min (min 16 ns.length) ns.length - min 8 ns.length ≤ 8
  omega
theorem parts_each {k : Nat} {w0 w1 w2 w4 w5 : Option V} {σ : St} : ∀ l : List Int, ∃ ts : List T, evEach (fun v σ => ev' (Phi_ (k + 2)) (Psi_ (k + 2)) (.fn1 1157 (.var 3)) ((seen [] [w0, w1, w2, Option.none, w4, w5]).set 3 (some v)) σ) (l.map .int) σ = some (ts.map .str, σ) ∧ ts.length = l.length ∧ ∀ t ∈ ts, t.length ≤ 4
  | [] => ⟨[], rfl, rfl, fun _ h => nomatch h⟩
  | n :: l => by
    obtain ⟨t, z, hl⟩ := m_1157 (k := k) n
    obtain ⟨ts, z2, h2, h3⟩ := parts_each (k := k) (w0 := w0) (w1 := w1) (w2 := w2) (w4 := w4) (w5 := w5) (σ := σ) l
    refine ⟨t :: ts, each_cons (ev_fn1 rfl z) z2, by rw [List.length_cons, List.length_cons, h2], fun x hx => ?_⟩
    · rcases List.mem_cons.mp hx with rfl | hx
      · exact hl
      · exact h3 x hx
theorem flat_le {m : Nat} : ∀ {ts : List T}, (∀ t ∈ ts, t.length ≤ m) → ts.flatten.length ≤ m * ts.length
  | [], _ => Nat.zero_le _
  | t :: ts, h => by
    rw [List.flatten_cons, List.length_append, List.length_cons, Nat.mul_add, Nat.mul_one, Nat.add_comm]
    exact Nat.add_le_add (flat_le fun t ht => h t (.tail _ ht)) (h t (.head _))
theorem word_ev {k : Nat} {σ : St} {l : List Int} (hl : l.length ≤ 8) : ∃ w : T, w.length ≤ 32 ∧ ev' (Phi_ (k + 2)) (Psi_ (k + 2)) (.sm .join (.lit (.str [])) (.compM [] 3 (.var 4) (.fn1 1157 (.var 3)))) [Option.none, Option.none, Option.none, Option.none, some (.ints l), Option.none] σ = some (.str w, σ) := by
  obtain ⟨ts, z, h2, h3⟩ := parts_each (k := k) (w0 := Option.none) (w1 := Option.none) (w2 := Option.none) (w4 := some (.ints l)) (w5 := Option.none) (σ := σ) l
  have f1 : ts.flatten.length ≤ 32 := Nat.le_trans (flat_le h3) (by rw [h2]; exact Nat.mul_le_mul_left 4 hl)
  refine ⟨ts.flatten, f1, ?_⟩
  have hi : itemsOf (.ints l) = some (l.map .int) := if_pos (by rw [List.length_map]; exact Nat.le_trans hl (by decide))
  have hj : smV .join (.str []) (.strs ts) = some (.str ts.flatten) := if_pos (by rw [← List.length_flatten, h2]; exact Nat.le_trans (Nat.add_le_add f1 hl) (by decide))
  exact vl_sm rfl (e_compM (ρ := [Option.none, Option.none, Option.none, Option.none, some (.ints l), Option.none]) rfl hi z) hj
theorem words_ev {k : Nat} {ns : List Int} (hn : ns.length ≤ 63) (σ : St) : ∃ w1 w2 : T, w1.length ≤ 32 ∧ w2.length ≤ 32 ∧ ev' (Phi_ (k + 2)) (Psi_ (k + 2)) lE0 [some (.ints ns), Option.none, Option.none, Option.none, Option.none, Option.none] σ = some (.strs [w1, w2], σ) := by
  obtain ⟨l1, s1, n1⟩ := sl1 hn
  obtain ⟨l2, s2, n2⟩ := sl2 hn
  obtain ⟨w1, h1, z1⟩ := word_ev (k := k) (σ := σ) n1
  obtain ⟨w2, h2, z2⟩ := word_ev (k := k) (σ := σ) n2
  refine ⟨w1, w2, h1, h2, ?_⟩
  unfold lE0
  refine e_compM (v := .intss [l1, l2]) (l := [.ints l1, .ints l2]) (σ1 := σ) ?_ rfl ?_
  · rw [e_tup2, e_slHi]
    show k2 _ _ tup2V _ _ (rt _ (slHiV (.ints ns) (.int 8))) = _
    rw [s1, rt_some, k2_some, e_slAll]
    show k1 _ (rt _ (slAllV (.ints ns) (.int 8) (.int 16))) = _
    rw [s2]
    rfl
  · exact each_cons (ts := [w2]) z1 (each_cons (ts := []) z2 rfl)
theorem last_ev {w1 w2 : T} (h1 : w1.length ≤ 32) (h2 : w2.length ≤ 32) (v0 : Option V) (σ : St) : ∃ σ', ev' (Phi_ 10) (Psi_ 10) lE2 [v0, some (.strs [w1, w2]), some .me, Option.none, Option.none, Option.none] σ = some (.bool true, σ') := by
  obtain ⟨σ1, y1⟩ := stemWord (k := 4) (w := w1) (σ := σ) (Nat.le_trans h1 (by decide))
  obtain ⟨σ2, y2⟩ := stemWord (k := 4) (w := w2) (σ := σ1) (Nat.le_trans h2 (by decide))
  have x1 := m_1207 (k := 7) (w := w1) (Nat.le_trans h1 (by decide))
  have x2 := m_1207 (k := 7) (w := w2) (Nat.le_trans h2 (by decide))
  refine ⟨σ2, ?_⟩
  have A : ev' (Phi_ 10) (Psi_ 10) (.compM [2] 5 (.var 1) (.call1 2 189 (.var 5))) [v0, some (.strs [w1, w2]), some .me, Option.none, Option.none, Option.none] σ = some (.strs [stemT w1, stemT w2], σ2) := by
    refine e_compM (v := .strs [w1, w2]) (l := [.str w1, .str w2]) (σ1 := σ) rfl rfl ?_
    exact each_cons (ts := [stemT w2]) y1 (each_cons (ts := []) y2 rfl)
  have B : ev' (Phi_ 10) (Psi_ 10) (.compM [] 5 (.var 1) (.fn1 1207 (.var 5))) [v0, some (.strs [w1, w2]), some .me, Option.none, Option.none, Option.none] σ2 = some (.strs [specT w1, specT w2], σ2) := by
    refine e_compM (v := .strs [w1, w2]) (l := [.str w1, .str w2]) (σ1 := σ2) rfl rfl ?_
    exact each_cons (ts := [specT w2]) (ev_fn1 rfl x1) (each_cons (ts := []) (ev_fn1 rfl x2) rfl)
  rw [plain_law, plain_law] at A
  exact ev_c2 A B ((c_leq _ _).trans (by rw [decide_eq_true rfl]))
end Mine
end
section
open PySem PySem.W PyProof.Rows PySem.Calls
set_option backward.match.sparseCases false
set_option genSizeOf false
set_option genInjectivity false
set_option maxRecDepth 1000000
namespace Mine
theorem d_35 : DefOk 35 "__init__" "BaseStemmer.__init__" (.str "snowballstemmer.basestemmer" 194) (mthFn 2 0) 34 ["self"] (nmOf (mthFn 2 0) []) where
  at_ _ := rfl
  cd _ := by kernel_rfl
  bind us h := by
    match us, h with
    | [a], _ => rfl
  kind := by kernel_rfl
  co := by kernel_rfl
  gen := by kernel_rfl
  nofree := by decide +kernel
  par := by decide +kernel
  take := by kernel_rfl
  uniq := by decide +kernel
noncomputable def c35 : Bk := (.cons (.xpr (.call1 0 42 (.lit (.str [])))) .nil)
theorem co_35 : codeOf (mthFn 2 0) [] = some c35 := by kernel_rfl
theorem d_1212 : DefOk 1212 "law" "law" (.str "law_iu0027_01" 3932) (topFn 28) 1211 ["script"] (nmOf (topFn 28) ["number", "part", "word"]) where
  at_ _ := rfl
  cd _ := by kernel_rfl
  bind us h := by
    match us, h with
    | [a], _ => rfl
  kind := by kernel_rfl
  co := by kernel_rfl
  gen := by kernel_rfl
  nofree := by decide +kernel
  par := by decide +kernel
  take := by kernel_rfl
  uniq := by decide +kernel
noncomputable def lst (i : Nat) : Stmt := (topFn 28).2.1.getD i default
noncomputable def l1p : Pos := match lst 1 with | .Assign [.Name _ p] _ _ => p | _ => default
noncomputable def l1n : Pos := match lst 1 with | .Assign _ (.Call (.Name _ p) _ _ _) _ => p | _ => default
noncomputable def l1c : Pos := match lst 1 with | .Assign _ (.Call _ _ _ p) _ => p | _ => default
noncomputable def l1s : Pos := match lst 1 with | .Assign _ _ p => p | _ => default
noncomputable abbrev nmL : List Str := nmOf (topFn 28) ["number", "part", "word"]
noncomputable abbrev scL : Scope := (topFn 28).2.2
theorem l_body : (topFn 28).2.1 = [lst 0, .Assign [.Name "stemmer" l1p] (.Call (.Name "ArabicStemmer" l1n) [] [] l1c) l1s, lst 2] := by kernel_rfl
theorem l_0 : cS NM nmL scL 200 (lst 0) = some (.asg 1 lE0) := by kernel_rfl
theorem l_2 : cS NM nmL scL 200 (lst 2) = some (.ret lE2) := by kernel_rfl
theorem l_st : stores scL "stemmer" = true := by kernel_rfl
theorem l_ix : idx nmL "stemmer" = some 2 := by kernel_rfl
theorem l_g : isG scL "ArabicStemmer" = true := by kernel_rfl
theorem l_cls (P : Params) : nsIn (KAll P) mainGlobals "ArabicStemmer" = some (some (.ref 1066)) := by kernel_rfl
theorem l_keep (P : Params) : keepIn (KAll P) (.ref 1066) = true := by kernel_rfl
theorem l_makes (P : Params) : makesIn (KAll P) 1066 = true := by kernel_rfl
theorem l_init (P : Params) : findIn (KAll P) (.ref 1066) "__init__" = some (some (.ref 35)) := by kernel_rfl
theorem l_fn (P : Params) : typeIn (KAll P) (.ref 35) = some (.type "function") := by kernel_rfl
theorem init_ev {k : Nat} {σ : St} : callG (nmOf (mthFn 2 0) []) 1 (fun x => evB loop (Phi_ (k + 1)) (Psi_ (k + 1)) c35 x) [.me] σ = some (.none, M [] 0 0 0 (some 0) (some 0) σ.bn σ.bv σ.bd) := by
  have hn : (nmOf (mthFn 2 0) []).length = 1 := by kernel_rfl
  have z := m_42 (k := k) (w := []) (σ := σ) (by decide)
  rw [callG_N, hn, callN_eq (by rfl)]
  unfold c35
  simp only [List.length_nil, Int.natCast_zero] at z
  simp only [List.map_cons, List.map_nil, List.length_cons, List.length_nil, Nat.zero_add, Nat.sub_self, List.replicate, List.append_nil, b_cons, t_xpr, e_call1, nth_0, e_lit, kC1_some, z, sXpr_none, tB_next, b_nil, out_next]
theorem init_codeB {C : Cx} (k : Nat) : BlOk C (nmOf (mthFn 2 0) []) (mthFn 2 0).2.2 k (mthFn 2 0).2.1 (fun x => evB loop (Phi_ k) (Psi_ k) c35 x) := cB_ok (levels k).1 (levels k).2 200 _ _ co_35
section
variable {w : World} {B : Heap} {nm : List Str} {sc : Scope} {p : Pl}
theorem At.with_me {h : Heap} {ns : List Int} {ws : List T} {x dx : Addr} (hx : x = h.objs.size + 1) (hd : dx = h.objs.size) (P : PlOk ⟨w, B, Option.none⟩ p nm sc) {σ : St} (a : At ⟨w, B, Option.none⟩ p h [some (.ints ns), some (.strs ws), Option.none, Option.none, Option.none, Option.none] σ) :
    At ⟨w, B, some (x, dx)⟩ p ((h.push emptyDict).push (instObj 1066 h.objs.size)) [some (.ints ns), some (.strs ws), Option.none, Option.none, Option.none, Option.none] {} := by
  subst hx hd
  have k : ∀ b o, h.get? b = some o → ((h.push emptyDict).push (instObj 1066 h.objs.size)).get? b = some o := fun b o e => Heap.get?_push_of_some _ (Heap.get?_push_of_some _ e)
  obtain ⟨m, nn, vs⟩ := a.env
  have seqK : SeqKeep h ((h.push emptyDict).push (instObj 1066 h.objs.size)) := fun b o ws c e d => ⟨o, k b o e, rfl, rfl⟩
  have cellK : ∀ c v, h.IsCell c v → ((h.push emptyDict).push (instObj 1066 h.objs.size)).IsCell c v := fun c v ⟨o, e, d⟩ => ⟨o, k c o e, d⟩
  refine ⟨fun b o e => k b o (a.base b o e), funFrames_mono (fun b hb o e d => ⟨o, k b o e, d⟩) a.ff, fun b hb => ?_, fun y dy e => ?_, fun c hc => ?_, m, ?_, fun i y v e1 e2 => ?_⟩
  · obtain ⟨o, es, c, e, d⟩ := a.fd b hb
    exact ⟨o, es, c, k _ _ e, d⟩
  · cases e
    refine ⟨[], 0, ?_, ?_, ⟨[], .nil, .nil, fun f v q => ?_⟩⟩
    · have := Heap.get?_push_size (h.push emptyDict) (o := instObj 1066 h.objs.size) rfl
      rw [Heap.size_push] at this
      exact this
    · exact Heap.get?_push_of_some _ (Heap.get?_push_size _ rfl)
    · cases f <;> cases q
  · obtain ⟨v, z⟩ := a.cells c hc
    exact ⟨v, cellK c v z⟩
  · obtain ⟨o, es, c, e, d, r⟩ := nn
    exact ⟨o, es, c, k _ _ e, d, r⟩
  · have key : ∀ v : V, (∀ hp u, R ⟨w, B, Option.none⟩ hp u v → R ⟨w, B, some (h.objs.size + 1, h.objs.size)⟩ hp u v) → VarOk ⟨w, B, Option.none⟩ p h m y v → VarOk ⟨w, B, some (h.objs.size + 1, h.objs.size)⟩ p ((h.push emptyDict).push (instObj 1066 h.objs.size)) m y v := fun v hR ⟨u, ru, z⟩ => by
      refine ⟨u, (hR _ _ ru).keep seqK, ?_⟩
      rcases z with z | ⟨z1, c, z2, z3⟩
      · exact .inl z
      · exact .inr ⟨z1, c, z2, cellK c _ z3⟩
    match i, e2 with
    | 0, e2 =>
      have e2 : some (V.ints ns) = some v := e2
      cases e2
      exact key _ (fun _ _ z => z) (vs 0 y (.ints ns) e1 rfl)
    | 1, e2 =>
      have e2 : some (V.strs ws) = some v := e2
      cases e2
      exact key _ (fun _ _ z => z) (vs 1 y (.strs ws) e1 rfl)
    | 2, e2 => cases e2
    | 3, e2 => cases e2
    | 4, e2 => cases e2
    | 5, e2 => cases e2
    | i + 6, e2 => cases e2
theorem PlOk.with_me {h : Heap} {x dx : Addr} (hx : x = h.objs.size + 1) (hd : dx = h.objs.size) (P : PlOk ⟨w, B, Option.none⟩ p nm sc) (ho : p.outer = []) (hL : p.L < h.objs.size) : PlOk ⟨w, B, some (x, dx)⟩ p nm sc := by
  subst hx hd
  have hB := P.above
  refine ⟨P.top, P.nm, P.uniq, P.names, P.cells, P.kind, P.locals, P.stack, P.globals, P.builtins, P.above, fun y dy e => ?_, P.nd, P.cnew⟩
  cases e
  rw [ho]
  exact ⟨Nat.succ_ne_self _, Nat.ne_of_gt (Nat.lt_succ_of_lt hL), Nat.ne_of_gt hL, by simp [frs], by simp [frs], Heap.get?_none_of_le (Nat.le_trans hB (Nat.le_of_lt (Nat.lt_succ_of_lt hL))), Heap.get?_none_of_le (Nat.le_trans hB (Nat.le_of_lt hL))⟩
theorem make_stemmer {A : Around} {s : Shared} {ns : List Int} {ws : List T} {σ : St} {Q : Value → Shared → Prop} (P : PlOk ⟨w, B, Option.none⟩ p nm sc) (ho : p.outer = []) (M : Rm p A 10) (a : At ⟨w, B, Option.none⟩ p s.heap [some (.ints ns), some (.strs ws), Option.none, Option.none, Option.none, Option.none] σ)
    (h : ∀ x dx s' σ', PlOk ⟨w, B, some (x, dx)⟩ p nm sc → At ⟨w, B, some (x, dx)⟩ p s'.heap [some (.ints ns), some (.strs ws), Option.none, Option.none, Option.none, Option.none] σ' → s'.os = s.os → s'.gens = s.gens → Q (.ref x) s') :
    wpAny (model PW w) A (call (.ref 1066) []) Q No s := by
  have X := (P.top.keeps a.base).k
  have hL : p.L < s.heap.objs.size := by obtain ⟨m, o, es, k, e, _⟩ := a.ns; exact Heap.lt_size e
  have P1 := PlOk.with_me (h := s.heap) rfl rfl P ho hL
  have a1 := At.with_me rfl rfl P a
  obtain ⟨hh, g, d, t, os⟩ := s
  refine wpAny_call (make_core (makes_of X (l_makes _)) (looks_findIn X (l_init _)) (fun self => bind_fn X self (l_fn _)) (.inl rfl) ?_)
  have M1 : Rm p (A.under (.builtin "type.__call__" ⟨[.ref 1066], []⟩)) (8 + 1) := by
    have e1 : (Code.builtin "type.__call__" ⟨[.ref 1066], []⟩).weight = 1 := by kernel_rfl
    have e2 : (Code.builtin "type.__call__" ⟨[.ref 1066], []⟩).cUnits = 1 := by kernel_rfl
    have e3 : (Code.builtin "type.__call__" ⟨[.ref 1066], []⟩).envs = [] := by kernel_rfl
    have h1 := M.depth
    have h2 := M.units
    refine ⟨?_, M.handled, ?_, ?_⟩
    · unfold Around.under
      simp only [e3, pushEnvs]
      exact M.frames
    · unfold Around.under
      simp only [e1]
      omega
    · unfold Around.under
      simp only [e2]
      omega
  refine codeAny_mono (call_code (C := ⟨w, B, some (hh.objs.size + 1, hh.objs.size)⟩) (n := 8) d_35 (init_codeB 8) (s := ⟨(hh.push emptyDict).push (instObj 1066 hh.objs.size), g, d, t, os⟩) (xs := [.me]) P1 M1 a1 (.cons ⟨_, _, rfl, rfl⟩ .nil) init_ev) fun r s' z => ?_
  rcases r with e | (v | _ | _ | _)
  all_goals first | exact z.elim | (obtain ⟨rv, wt⟩ := z; exact ⟨rv, h _ _ _ _ P1 wt.at_ wt.os wt.gens⟩)
end
theorem all2_ints {vs : List Value} {ns : List Int} (h : IntsAre vs ns) : All2 isInt vs ns := by
  induction h with
  | nil => exact .nil
  | cons n t _ ih => exact .cons ⟨t, rfl⟩ ih
theorem law_walk (w : World) (S : Shared) (l : Addr) (vs : List Value) (ns : List Int) (X : AtTop w.params S.heap) (hg : S.gens = #[]) (hl : S.heap.IsList l vs.toArray) (hi : IntsAre vs ns) (hn : ns.length ≤ 63) :
    wpAny (model PW w) callerA (PySem.call (.ref 1212) [.ref l]) (fun v s' => v = .bool true ∧ (∀ b o, S.heap.get? b = some o → s'.heap.get? b = some o) ∧ s'.os = S.os ∧ s'.gens = #[]) (fun _ _ => False) S := by
  have D := d_1212
  have par : ∀ y ∈ ((["script"] : List Str).zip [Value.ref l]), scL.names.lookup y.1 = some .local ∨ scL.names.lookup y.1 = some .cell := fun y hy => D.par _ (List.of_mem_zip (show (y.1, y.2) ∈ (["script"] : List Str).zip [Value.ref l] from hy)).1
  refine wpAny_call (codeAny_call_cells (fd := fnOf "law" "law" (topFn 28).1 (topFn 28).2.1 (topFn 28).2.2 .none .none .none (.str "law_iu0027_01" 3932) none (.ref 1211) .none) (body := (topFn 28).2.1) (binds := (["script"] : List Str).zip [Value.ref l]) (by decide) (X.k _ _ (D.at_ _)) rfl (top_nolimit X) (codeRec_of X.k (D.cd _)) rfl (D.bind [Value.ref l] rfl) rfl
    (fun y hy => (par y hy).elim .inl fun z => .inr ⟨z, ?_⟩) (fun s₁ I => ?_) D.co D.gen D.kind)
  · obtain ⟨c, hc⟩ := cellsFrom_mem (n := S.heap.objs.size + 1) (acc := []) (.inl (mem_of_lookup z))
    exact Option.isSome_iff_exists.mpr ⟨c, hc⟩
  generalize hfd : fnOf "law" "law" (topFn 28).1 (topFn 28).2.1 (topFn 28).2.2 .none .none .none (.str "law_iu0027_01" 3932) none (.ref 1211) .none = fd at I ⊢
  obtain ⟨⟨⟨h₁, tk, rfl⟩, hns, hkeep, _⟩, hcell, hap, habove⟩ := I
  generalize henv : callEnvC fd S.heap.objs.size 1212 = env' at *
  have eL : env'.locals = S.heap.objs.size := by rw [← henv]; rfl
  have eF : env'.frame = some S.heap.objs.size := by rw [← henv]; rfl
  have eS : env'.scope = scL := by rw [← henv, ← hfd]; rfl
  have eG : env'.globals = mainGlobals := by rw [← henv, ← hfd]; rfl
  have eB : env'.builtins = builtinsNs := by rw [← henv, ← hfd]; rfl
  have eC : env'.cells = cellsFrom (S.heap.objs.size + 1) scL.names [] := by rw [← henv, ← hfd]; rfl
  have eK : ∀ x, env'.kindOf x = scL.names.lookup x := fun x => by show env'.scope.names.lookup x = _; rw [eS]
  have fresh : ∀ b, S.heap.objs.size ≤ b → S.heap.get? b = none := fun b hb => Heap.get?_none_of_le hb
  let p' : Pl := ⟨nmL, env', [], S.heap.objs.size, [env'], env'.cells.filterMap fun q => if env'.cells.lookup q.1 == some q.2 then some q.2 else none⟩
  have fst' : frs p'.stack = [S.heap.objs.size] := by show frs [env'] = _; simp [frs, eF]
  have ctx : ∀ c ∈ p'.cs, S.heap.objs.size < c := fun c hc => by
    obtain ⟨⟨y, c'⟩, h1, h2⟩ := List.mem_filterMap.mp hc
    have := habove y c' h1
    rw [eL] at this
    split at h2
    · exact (Option.some.inj h2) ▸ this
    · cases h2
  have P' : PlOk ⟨w, S.heap, Option.none⟩ p' nmL scL := by
    refine ⟨X, rfl, D.uniq, fun y k e => ⟨fun _ => (eK y).trans e, fun e' => absurd e' (D.nofree _ (mem_of_lookup e))⟩, fun y k e e' => ?_, by show env'.scope.kind = _; rw [eS]; exact D.kind, eL, .inr ⟨rfl, eF⟩, eG, eB, Nat.le_refl _, (fun y dy e => nomatch e), by show _ ∉ frs []; simp [frs], fun c hc => fresh _ (Nat.le_of_lt (ctx c hc))⟩
    rcases e' with rfl | rfl
    · exact absurd rfl (D.nofree _ (mem_of_lookup e))
    · show ∃ c, env'.cells.lookup y = some c
      rw [eC]; exact cellsFrom_mem (.inl (mem_of_lookup e))
  have Fp' : PlFn p' := ⟨rfl, eF, fun y c e => List.mem_filterMap.mpr ⟨(y, c), mem_of_lookup e, if_pos (beq_iff_eq.mpr e)⟩, fun y z c e e' => inj_of_apart hap e e'⟩
  have M' : Rm p' (callerA.deeper env') 10 := ⟨Around.frames_deeper rfl, rfl, by show 1 + claimMargin + 1 + 40 ≤ 900; decide, by show 4 + 3 + 1000 ≤ 8000; decide⟩
  have hns' : h₁.Ns S.heap.objs.size (bindL env'.kindOf ((["script"] : List Str).zip [Value.ref l]) fun _ => none) := eL ▸ hns
  have hl1 : h₁.IsList l vs.toArray := by
    obtain ⟨o, e, r⟩ := hl
    exact ⟨o, hkeep _ _ e, r⟩
  have at₁ : At ⟨w, S.heap, Option.none⟩ p' h₁ [some (.ints ns), Option.none, Option.none, Option.none, Option.none, Option.none] {} := by
    refine ⟨fun b o e => hkeep b o e, ?_, fun b hb => ?_, (fun y dy e => nomatch e), fun c hc => ?_, _, hns', fun i y v e1 e2 => ?_⟩
    · exact Heap.FunFrames.cons (by rw [eS, D.kind]; decide) eF hns' (fresh _ (Nat.le_refl _)) trivial
    · rw [fst'] at hb
      rcases List.mem_cons.mp hb with rfl | hb
      · exact ns_isDict hns'
      · cases hb
    · obtain ⟨⟨y, c'⟩, z1, z2⟩ := List.mem_filterMap.mp hc
      split at z2
      · rename_i z3
        have z4 : c' = c := Option.some.inj z2
        subst z4
        exact ⟨_, hcell y c' (eq_of_beq z3)⟩
      · cases z2
    · match i, e2 with
      | 0, e2 =>
        have e2 : some (V.ints ns) = some v := e2
        cases e2
        have hps : (["script"] : List Str)[0]? = some y := by
          have e1' : nmL[0]? = some y := e1
          have := D.take
          rw [← this, List.getElem?_take, if_pos (by decide)]; exact e1'
        have ndp : (["script"] : List Str).Nodup := by decide
        obtain ⟨b1, b2⟩ := bind_at (kindOf := env'.kindOf) (us := [Value.ref l]) (m := fun _ => none) (c := fun _ => none) ndp hps rfl
        refine ⟨.ref l, ⟨l, vs, rfl, hl1, all2_ints hi⟩, ?_⟩
        have hk : scL.names.lookup y = some .local := by
          have : y = "script" := by simpa using hps.symm
          rw [this]; kernel_rfl
        exact .inl ⟨(eK y).trans hk, b1 ((eK y).trans hk)⟩
      | 1, e2 => cases e2
      | 2, e2 => cases e2
      | 3, e2 => cases e2
      | 4, e2 => cases e2
      | 5, e2 => cases e2
      | i + 6, e2 => cases e2
  obtain ⟨w1, w2, n1, n2, ew⟩ := words_ev (k := 8) hn ({} : St)
  have lv0 := levels (C := ⟨w, S.heap, Option.none⟩) 10
  rw [l_body]
  refine wpAny_execs_cons (wpAny_mono (cS_ok lv0.1 lv0.2 200 _ _ l_0 p' (callerA.deeper env') { S with heap := h₁, toks := tk } _ {} .next [some (.ints ns), some (.strs [w1, w2]), Option.none, Option.none, Option.none, Option.none] {} P' Fp' M' at₁ (by
    show evS loop (Phi_ 10) (Psi_ 10) (.asg 1 lE0) ([some (.ints ns), Option.none, Option.none, Option.none, Option.none, Option.none], {}) = _
    rw [t_asg, ew]; rfl)) (fun fl s2 hq => ?_) fun e s2 hq => hq.elim)
  obtain ⟨rfl, g2⟩ := hq
  have a2 : At ⟨w, S.heap, Option.none⟩ p' s2.heap [some (.ints ns), some (.strs [w1, w2]), Option.none, Option.none, Option.none, Option.none] {} := g2.at_
  refine wpAny_execs_cons (wpAny_Assign_Name (E := fun e s' => _) ?_ (swaps_no rfl _ _ _))
  refine wpAny_mono (E := No) ?_ (fun _ _ z => z) fun _ _ z => z.elim
  refine wpAny_Call_ofName (load_gl P' a2 l_g (l_cls _) ?_)
  refine callWith_of (P := (KAll w.params).In) rfl (fun h X => keeps_K (l_keep _) h X) (evalArgs_ok (fs := []) .nil rfl _ P' M' a2 rfl fun us s3 r w3 => ⟨(P'.top.keeps w3.at_.base).k, ?_⟩)
  cases r
  refine make_stemmer P' rfl M' w3.at_ fun x dx s4 σ4 P4 a4 o4 q4 => ?_
  refine wpAny_mono (store_var (v := .me) P4 Fp' a4 l_ix l_st ⟨x, dx, rfl, rfl⟩ fun s5 w5 => ?_) (fun _ _ z => z) fun _ _ z => z.elim
  have lv1 := levels (C := ⟨w, S.heap, some (x, dx)⟩) 10
  obtain ⟨σ6, e6⟩ := last_ev n1 n2 (some (.ints ns)) σ4
  refine wpAny_execs_cons (wpAny_mono (cS_ok lv1.1 lv1.2 200 _ _ l_2 p' (callerA.deeper env') s5 _ σ4 (.ret (.bool true)) [some (.ints ns), some (.strs [w1, w2]), some .me, Option.none, Option.none, Option.none] σ6 P4 Fp' M' w5.at_ (by
    show evS loop (Phi_ 10) (Psi_ 10) (.ret lE2) ([some (.ints ns), some (.strs [w1, w2]), some .me, Option.none, Option.none, Option.none], σ4) = _
    rw [t_ret, e6]; rfl)) (fun fl s6 hq => ?_) fun e s6 hq => hq.elim)
  obtain ⟨u, rfl, ru, w6⟩ := hq
  have ru : u = .bool true := ru
  subst ru
  refine ⟨rfl, w6.at_.base, ?_, ?_⟩
  · rw [w6.os, w5.os, o4, w3.os, g2.os]
  · rw [w6.gens, w5.gens, q4, w3.gens, g2.gens]; exact hg
end Mine
end
set_option maxRecDepth 100000 in
set_option maxHeartbeats 8000000 in
theorem PySem.Challenge.cw_iu0027_01_holds : PySem.Challenge.rw_iu0027_01.Holds :=
  Mine.holds_of_walk Mine.law_walk
