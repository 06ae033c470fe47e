import PyProof.Rows.All
import Wide.All
import OpenK.AllK
import Wide.FinOn
import PySem.Challenge.RW_rs0193_01
open PySem PySem.W PyProof.Rows PySem.Calls
set_option Elab.async false
set_option linter.unusedVariables false
set_option linter.unusedSimpArgs false
set_option maxRecDepth 10000
namespace Mine
-- part Core
abbrev Base := Addr → Option Obj
abbrev Res := Obj → Prop
abbrev Vol := List (Addr × Res)

def BLe (B B' : Base) : Prop := ∀ b o, B b = some o → B' b = some o
theorem BLe.refl (B : Base) : BLe B B := fun _ _ e => e
theorem BLe.trans {B B' B'' : Base} (x : BLe B B') (y : BLe B' B'') : BLe B B'' := fun b o e => y b o (x b o e)

/-- holds in every heap that bears what B bears -/
def Stb (B : Base) (P : Heap → Prop) : Prop := ∀ h : Heap, (∀ b o, B b = some o → h.get? b = some o) → P h
theorem Stb.mono {B B' : Base} {P : Heap → Prop} (x : Stb B P) (y : BLe B B') : Stb B' P := fun h k => x h fun b o e => k b o (y b o e)

def Base.add (B : Base) (a : Addr) (o : Obj) : Base := fun b => if b = a then some o else B b
theorem Base.add_self (B : Base) (a : Addr) (o : Obj) : B.add a o a = some o := by simp [Base.add]
theorem Base.add_le {B : Base} {a : Addr} {o : Obj} (h : B a = none) : BLe B (B.add a o) := fun b o' e => by
  unfold Base.add
  split
  · rename_i q; rw [q, h] at e; cases e
  · exact e

structure St (O : OsState) (B : Base) (G : Array GenState) (v : Vol) (s : Shared) : Prop where
  keep : ∀ b o, B b = some o → s.heap.get? b = some o
  res : ∀ p ∈ v, ∃ o, s.heap.get? p.1 = some o ∧ p.2 o
  off : ∀ p ∈ v, B p.1 = none
  nd : (v.map (·.1)).Nodup
  gens : s.gens = G
  os : s.os = O

section
variable {O : OsState} {B : Base} {G : Array GenState} {v : Vol} {s : Shared} {h' : Heap} {a : Addr} {r r' : Res} {i : Nat} {o : Obj}

theorem St.toks (S : St O B G v s) (t : Nat) : St O B G v { s with toks := t } := ⟨S.keep, S.res, S.off, S.nd, S.gens, S.os⟩

theorem St.get (S : St O B G v s) (hi : v[i]? = some (a, r)) : ∃ o, s.heap.get? a = some o ∧ r o := S.res (a, r) (List.mem_of_getElem? hi)

theorem nodup_ne {v : Vol} (nd : (v.map (·.1)).Nodup) {i j : Nat} {p q : Addr × Res} (hi : v[i]? = some p) (hj : v[j]? = some q) (hne : i ≠ j) : p.1 ≠ q.1 := by
  intro e
  have h1 : (v.map (·.1))[i]? = some p.1 := by simp [hi]
  have h2 : (v.map (·.1))[j]? = some q.1 := by simp [hj]
  rw [e, ← h2] at h1
  have hlt : i < (v.map (·.1)).length := by
    rw [List.length_map]; exact (List.getElem?_eq_some_iff.mp hi).1
  exact hne ((List.getElem?_inj hlt nd).mp h1)

theorem St.upd (S : St O B G v s) (hi : v[i]? = some (a, r)) (hs : Heap.SameBut a s.heap h') (ho : ∃ o, h'.get? a = some o ∧ r' o) (t : Nat) :
    St O B G (v.set i (a, r')) { s with heap := h', toks := t } := by
  have hlt := (List.getElem?_eq_some_iff.mp hi).1
  refine ⟨fun b o e => ?_, fun p hp => ?_, fun p hp => ?_, ?_, S.gens, S.os⟩
  · have hb : b ≠ a := by
      rintro rfl
      have := S.off _ (List.mem_of_getElem? hi)
      rw [e] at this; cases this
    exact (hs.2 b hb).trans (S.keep b o e)
  · obtain ⟨j, hj⟩ := List.getElem?_of_mem hp
    rw [List.getElem?_set] at hj
    split at hj
    · cases hj; exact ho
    · rename_i hne
      obtain ⟨o, h1, h2⟩ := S.res p (List.mem_of_getElem? hj)
      have : p.1 ≠ a := nodup_ne S.nd hj hi (Ne.symm hne)
      exact ⟨o, (hs.2 _ this).trans h1, h2⟩
  · obtain ⟨j, hj⟩ := List.getElem?_of_mem hp
    rw [List.getElem?_set] at hj
    split at hj
    · cases hj; exact S.off (a, r) (List.mem_of_getElem? hi)
    · exact S.off p (List.mem_of_getElem? hj)
  · have : (v.set i (a, r')).map (·.1) = v.map (·.1) := by
      rw [List.map_set]
      refine List.ext_getElem? fun j => ?_
      rw [List.getElem?_set]
      split
      · rename_i q; subst q
        rw [List.getElem?_map, hi]
        simp [hlt]
      · rfl
    rw [this]; exact S.nd

theorem St.fresh (S : St O B G v s) : B s.heap.objs.size = none ∧ ∀ p ∈ v, p.1 ≠ s.heap.objs.size := by
  constructor
  · cases e : B s.heap.objs.size with
    | none => rfl
    | some o => exact absurd (Heap.lt_size (S.keep _ _ e)) (Nat.lt_irrefl _)
  · intro p hp e
    obtain ⟨o, h, _⟩ := S.res p hp
    rw [e] at h
    exact absurd (Heap.lt_size h) (Nat.lt_irrefl _)

theorem St.push (S : St O B G v s) (o : Obj) (hf : o.isFreed = false) (hr : r o) (t : Nat) :
    St O B G ((s.heap.objs.size, r) :: v) { s with heap := s.heap.push o, toks := t } := by
  obtain ⟨h1, h2⟩ := S.fresh
  refine ⟨fun b o' e => Heap.get?_push_of_some _ (S.keep b o' e), fun p hp => ?_, fun p hp => ?_, ?_, S.gens, S.os⟩
  · rcases List.mem_cons.mp hp with rfl | hp
    · exact ⟨o, Heap.get?_push_size _ hf, hr⟩
    · obtain ⟨o', e, k⟩ := S.res p hp; exact ⟨o', Heap.get?_push_of_some _ e, k⟩
  · rcases List.mem_cons.mp hp with rfl | hp
    · exact h1
    · exact S.off p hp
  · rw [List.map_cons, List.nodup_cons]
    refine ⟨fun hm => ?_, S.nd⟩
    obtain ⟨p, hp, e⟩ := List.mem_map.mp hm
    exact h2 p hp e

theorem St.pushDrop (S : St O B G v s) (o : Obj) (t : Nat) : St O B G v { s with heap := s.heap.push o, toks := t } :=
  ⟨fun b o' e => Heap.get?_push_of_some _ (S.keep b o' e), fun p hp => let ⟨o', e, k⟩ := S.res p hp; ⟨o', Heap.get?_push_of_some _ e, k⟩, S.off, S.nd, S.gens, S.os⟩

theorem St.pushB (S : St O B G v s) (o : Obj) (hf : o.isFreed = false) (t : Nat) :
    BLe B (B.add s.heap.objs.size o) ∧ St O (B.add s.heap.objs.size o) G v { s with heap := s.heap.push o, toks := t } := by
  obtain ⟨h1, h2⟩ := S.fresh
  refine ⟨Base.add_le h1, fun b o' e => ?_, fun p hp => ?_, fun p hp => ?_, S.nd, S.gens, S.os⟩
  · unfold Base.add at e
    split at e
    · rename_i q; cases e; subst q; exact Heap.get?_push_size _ hf
    · exact Heap.get?_push_of_some _ (S.keep b o' e)
  · obtain ⟨o', e, k⟩ := S.res p hp; exact ⟨o', Heap.get?_push_of_some _ e, k⟩
  · unfold Base.add; rw [if_neg (h2 p hp)]; exact S.off p hp

/-- a volatile object is laid down for good -/
theorem St.frz (S : St O B G v s) (hi : v[i]? = some (a, r)) : ∃ o, r o ∧ BLe B (B.add a o) ∧ St O (B.add a o) G (v.eraseIdx i) s := by
  obtain ⟨o, h1, h2⟩ := S.get hi
  have hoff := S.off _ (List.mem_of_getElem? hi)
  have hlt := (List.getElem?_eq_some_iff.mp hi).1
  have hnd : ((v.eraseIdx i).map (·.1)).Nodup := (List.Sublist.map _ (List.eraseIdx_sublist v i)).nodup S.nd
  refine ⟨o, h2, Base.add_le hoff, fun b o' e => ?_, fun p hp => S.res p ((List.eraseIdx_sublist v i).mem hp), fun p hp => ?_, hnd, S.gens, S.os⟩
  · unfold Base.add at e
    split at e
    · rename_i q; cases e; subst q; exact h1
    · exact S.keep b o' e
  · have hp' := (List.eraseIdx_sublist v i).mem hp
    have : p.1 ≠ a := by
      obtain ⟨j, hj⟩ := List.getElem?_of_mem hp
      rw [List.getElem?_eraseIdx] at hj
      split at hj
      · exact nodup_ne S.nd hj hi (by first | lia | omega)
      · exact nodup_ne S.nd hj hi (by first | lia | omega)
    unfold Base.add; rw [if_neg this]; exact S.off p hp'

theorem St.sub {v' : Vol} (S : St O B G v s) (h : v'.Sublist v) : St O B G v' s :=
  ⟨S.keep, fun p hp => S.res p (h.mem hp), fun p hp => S.off p (h.mem hp), (h.map _).nodup S.nd, S.gens, S.os⟩

theorem St.ext (S : St O B G v s) (hi : v[i]? = some (a, r)) (hs : Heap.ExtBut a s.heap h') (t : Nat) :
    St O B G (v.eraseIdx i) { s with heap := h', toks := t } := by
  have hoff := S.off _ (List.mem_of_getElem? hi)
  have hnd : ((v.eraseIdx i).map (·.1)).Nodup := (List.Sublist.map _ (List.eraseIdx_sublist v i)).nodup S.nd
  refine ⟨fun b o e => hs b o (by rintro rfl; rw [hoff] at e; cases e) (S.keep b o e), fun p hp => ?_, fun p hp => S.off p ((List.eraseIdx_sublist v i).mem hp), hnd, S.gens, S.os⟩
  obtain ⟨o, h1, h2⟩ := S.res p ((List.eraseIdx_sublist v i).mem hp)
  refine ⟨o, hs _ _ ?_ h1, h2⟩
  obtain ⟨j, hj⟩ := List.getElem?_of_mem hp
  rw [List.getElem?_eraseIdx] at hj
  split at hj
  · exact nodup_ne S.nd hj hi (by first | lia | omega)
  · exact nodup_ne S.nd hj hi (by first | lia | omega)

theorem St.extAll (S : St O B G v s) (hs : ∀ b o, s.heap.get? b = some o → h'.get? b = some o) (t : Nat) :
    St O B G v { s with heap := h', toks := t } :=
  ⟨fun b o e => hs _ _ (S.keep b o e), fun p hp => let ⟨o, h1, h2⟩ := S.res p hp; ⟨o, hs _ _ h1, h2⟩, S.off, S.nd, S.gens, S.os⟩
end

/-- room left above for n more frames -/
def Room (n : Nat) (A : Around) : Prop := A.handled = none ∧ A.depth + 4 * n < recursionLimit ∧ A.units + 40 * n < cLine
theorem Room.le {n m : Nat} {A : Around} (h : Room m A) (hn : n ≤ m) : Room n A := ⟨h.1, by have := h.2.1; (first | lia | omega), by have := h.2.2; (first | lia | omega)⟩
theorem Room.in1 {n : Nat} {A : Around} (h : Room (n + 1) A) : Room n A.in1 := ⟨h.1, by have := h.2.1; show A.depth + 4 * n < _; (first | lia | omega), by have := h.2.2; show A.units + 1 + 40 * n < _; (first | lia | omega)⟩
theorem Room.deeper {n : Nat} {A : Around} {env : Env} (h : Room (n + 1) A) : Room n (A.deeper env) :=
  ⟨h.1, by have := h.2.1; show A.depth + 1 + 4 * n < _; (first | lia | omega), by have := h.2.2; simp only [Around.deeper_units]; (first | lia | omega)⟩
theorem Room.mark {n : Nat} {A : Around} (h : Room n A) : Room n (A.mark none) := by
  have : A.mark none = A := by cases A; rfl
  rw [this]; exact h
theorem Room.handled {n : Nat} {A : Around} (h : Room n A) : A.handled = none := h.1
theorem Room.room {n : Nat} {A : Around} (h : Room (n + 1) A) : A.depth < recursionLimit := by have := h.2.1; (first | lia | omega)
theorem Room.units {n : Nat} {A : Around} (h : Room n A) : A.units < cLine := by have := h.2.2; (first | lia | omega)

section
variable (prog : Program) (w : World) (O : OsState)
def Ok {α : Type} (n : Nat) (B : Base) (G : Array GenState) (v : Vol) (t : Sem α) (Q : α → Base → Array GenState → Vol → Prop) : Prop :=
  ∀ A s, Room n A → St O B G v s → wpAny (model prog w) A t (fun a s' => ∃ B' G' v', St O B' G' v' s' ∧ Q a B' G' v') (fun _ _ => False) s
def OkC (n : Nat) (B : Base) (G : Array GenState) (v : Vol) (c : Code) (R : Flow → Base → Array GenState → Vol → Prop) : Prop :=
  ∀ A s, Room n A → St O B G v s → codeAny (model prog w) A c (fun r s' => match r with | .ok f => ∃ B' G' v', St O B' G' v' s' ∧ R f B' G' v' | .error _ => False) s
end

section
variable {prog : Program} {w : World} {O : OsState} {n : Nat} {B : Base} {G : Array GenState} {v : Vol} {α β : Type}

theorem Ok.done {a : α} {Q : α → Base → Array GenState → Vol → Prop} (h : Q a B G v) : Ok prog w O n B G v (Pure.pure a) Q :=
  fun _ _ _ S => wpAny_pure ⟨B, G, v, S, h⟩
theorem Ok.mono {t : Sem α} {Q Q' : α → Base → Array GenState → Vol → Prop} (h : Ok prog w O n B G v t Q) (hq : ∀ a B' G' v', Q a B' G' v' → Q' a B' G' v') : Ok prog w O n B G v t Q' :=
  fun A s R S => wpAny_mono (h A s R S) (fun a s' ⟨B', G', v', S', q⟩ => ⟨B', G', v', S', hq _ _ _ _ q⟩) fun _ _ x => x
theorem Ok.room {m : Nat} {t : Sem α} {Q : α → Base → Array GenState → Vol → Prop} (h : Ok prog w O n B G v t Q) (hn : n ≤ m) : Ok prog w O m B G v t Q :=
  fun A s R S => h A s (R.le hn) S
theorem OkC.room {m : Nat} {c : Code} {R : Flow → Base → Array GenState → Vol → Prop} (h : OkC prog w O n B G v c R) (hn : n ≤ m) : OkC prog w O m B G v c R :=
  fun A s Rm S => h A s (Rm.le hn) S
theorem OkC.mono {c : Code} {R R' : Flow → Base → Array GenState → Vol → Prop} (h : OkC prog w O n B G v c R) (hq : ∀ f B' G' v', R f B' G' v' → R' f B' G' v') : OkC prog w O n B G v c R' :=
  fun A s Rm S => codeAny_mono (h A s Rm S) fun r s' x => by
    cases r with
    | ok f => obtain ⟨B', G', v', S', q⟩ := x; exact ⟨B', G', v', S', hq _ _ _ _ q⟩
    | error e => exact x
theorem Ok.seq {m : Sem α} {f : α → Sem β} {Q : β → Base → Array GenState → Vol → Prop} (h : Ok prog w O n B G v m (fun a B' G' v' => Ok prog w O n B' G' v' (f a) Q)) : Ok prog w O n B G v (m >>= f) Q :=
  fun A s R S => wpAny_bind (wpAny_mono (h A s R S) (fun a s' ⟨_, _, _, S', q⟩ => q A s' R S') fun _ _ x => x)
theorem Ok.go {t : Sem α} {Q : α → Base → Array GenState → Vol → Prop} {A : Around} {s : Shared} {P : α → Shared → Prop} {E : Value → Shared → Prop} (h : Ok prog w O n B G v t Q) (R : Room n A) (S : St O B G v s)
    (k : ∀ a s1 B1 G1 v1, St O B1 G1 v1 s1 → Q a B1 G1 v1 → P a s1) : wpAny (model prog w) A t P E s :=
  wpAny_mono (h A s R S) (fun a s1 ⟨B1, G1, v1, S1, q⟩ => k a s1 B1 G1 v1 S1 q) fun _ _ x => x.elim
theorem Ok.sub {v' : Vol} {t : Sem α} {Q : α → Base → Array GenState → Vol → Prop} (hs : v'.Sublist v) (h : Ok prog w O n B G v' t Q) : Ok prog w O n B G v t Q :=
  fun A s R S => h A s R (S.sub hs)
/-- the volatile object at i is laid down -/
theorem Ok.frz {i : Nat} {a : Addr} {r : Res} {t : Sem α} {Q : α → Base → Array GenState → Vol → Prop} (hi : v[i]? = some (a, r))
    (h : ∀ o B', r o → B' a = some o → BLe B B' → Ok prog w O n B' G (v.eraseIdx i) t Q) : Ok prog w O n B G v t Q :=
  fun A s R S => let ⟨o, h1, h2, S'⟩ := S.frz hi; h o _ h1 (Base.add_self ..) h2 A s R S'
end
-- part Rules1
abbrev Post (α : Type) := α → Base → Array GenState → Vol → Prop

/-- an entry of the volatile list turned -/
inductive Upd : Vol → Addr → Res → Res → Vol → Prop
  | here {a r r' v} : Upd ((a, r) :: v) a r r' ((a, r') :: v)
  | there {p v a r r' v'} : Upd v a r r' v' → Upd (p :: v) a r r' (p :: v')
inductive Has : Vol → Addr → Res → Prop
  | here {a r v} : Has ((a, r) :: v) a r
  | there {p v a r} : Has v a r → Has (p :: v) a r
inductive Del : Vol → Addr → Res → Vol → Prop
  | here {a r v} : Del ((a, r) :: v) a r v
  | there {p v a r v'} : Del v a r v' → Del (p :: v) a r (p :: v')

theorem Upd.idx {v a r r' v'} (h : Upd v a r r' v') : ∃ i : Nat, v[i]? = some (a, r) ∧ v' = v.set i (a, r') := by
  induction h with
  | here => exact ⟨0, rfl, rfl⟩
  | there _ ih => obtain ⟨i, h1, h2⟩ := ih; exact ⟨i + 1, by simpa using h1, by simp [h2]⟩
theorem Has.idx {v a r} (h : Has v a r) : ∃ i : Nat, v[i]? = some (a, r) := by
  induction h with
  | here => exact ⟨0, rfl⟩
  | there _ ih => obtain ⟨i, h1⟩ := ih; exact ⟨i + 1, by simpa using h1⟩
theorem Del.idx {v a r v'} (h : Del v a r v') : ∃ i : Nat, v[i]? = some (a, r) ∧ v' = v.eraseIdx i := by
  induction h with
  | here => exact ⟨0, rfl, rfl⟩
  | there _ ih => obtain ⟨i, h1, h2⟩ := ih; exact ⟨i + 1, by simpa using h1, by simp [h2]⟩
theorem Has.mem {v a r} (h : Has v a r) : (a, r) ∈ v := by
  obtain ⟨i, h⟩ := h.idx; exact List.mem_of_getElem? h
theorem Has.of_mem {v : Vol} {a r} (h : (a, r) ∈ v) : Has v a r := by
  induction v with
  | nil => cases h
  | cons p v ih => rcases List.mem_cons.mp h with rfl | h
                   · exact .here
                   · exact .there (ih h)
theorem Upd.has {v a r r' v'} (h : Upd v a r r' v') : Has v a r := by
  induction h with
  | here => exact .here
  | there _ ih => exact .there ih
theorem Upd.has' {v a r r' v'} (h : Upd v a r r' v') : Has v' a r' := by
  induction h with
  | here => exact .here
  | there _ ih => exact .there ih

section
variable {O : OsState} {B : Base} {G : Array GenState} {v v' : Vol} {s : Shared} {h' : Heap} {a : Addr} {r r' : Res}
theorem St.has (S : St O B G v s) (h : Has v a r) : ∃ o, s.heap.get? a = some o ∧ r o := S.res _ h.mem
theorem St.turn (S : St O B G v s) (h : Upd v a r r' v') (hs : Heap.SameBut a s.heap h') (ho : ∃ o, h'.get? a = some o ∧ r' o) (t : Nat) : St O B G v' { s with heap := h', toks := t } := by
  obtain ⟨i, h1, rfl⟩ := h.idx
  exact S.upd h1 hs ho t
theorem St.gone (S : St O B G v s) (h : Del v a r v') (hs : Heap.ExtBut a s.heap h') (t : Nat) : St O B G v' { s with heap := h', toks := t } := by
  obtain ⟨i, h1, rfl⟩ := h.idx
  exact S.ext h1 hs t
theorem St.pull (S : St O B G v s) (h : Del v a r v') : St O B G ((a, r) :: v') s := by
  obtain ⟨i, h1, rfl⟩ := h.idx
  have hm := List.mem_of_getElem? h1
  have hsub := List.eraseIdx_sublist v i
  refine ⟨S.keep, fun p hp => ?_, fun p hp => ?_, ?_, S.gens, S.os⟩
  · rcases List.mem_cons.mp hp with rfl | hp
    · exact S.res _ hm
    · exact S.res _ (hsub.mem hp)
  · rcases List.mem_cons.mp hp with rfl | hp
    · exact S.off _ hm
    · exact S.off _ (hsub.mem hp)
  · rw [List.map_cons, List.nodup_cons]
    refine ⟨fun q => ?_, (hsub.map _).nodup S.nd⟩
    obtain ⟨p, hp, e⟩ := List.mem_map.mp q
    obtain ⟨j, hj⟩ := List.getElem?_of_mem hp
    rw [List.getElem?_eraseIdx] at hj
    split at hj
    · exact nodup_ne S.nd hj h1 (by first | lia | omega) e
    · exact nodup_ne S.nd hj h1 (by first | lia | omega) e
end

/-! what an object may be -/
def rNs (m : Str → Option Value) : Res := fun o => ∃ es ep, o.data = .dict es ep ∧ StrKeys es ∧ ∀ name, nsFind es name = m name
def rCell (x : Option Value) : Res := fun o => o.data = .cell x
def rSeq (T : String) (xs : List Value) : Res := fun o => ∃ n, o = { cls := .type T, data := .seq xs.toArray n }
abbrev rList := rSeq "list"
def rFields (T : String) (xs : List Value) : Res := fun o => o.cls = .type T ∧ o.data = .fields xs.toArray

def fget : List Str → List (Option Value) → Str → Option Value
  | n :: ns, v :: vs, x => if x = n then v else fget ns vs x
  | _, _, _ => none
/-- the locals: names and what they hold -/
def rFr (ns : List Str) (vs : List (Option Value)) : Res := fun o => (ns.Nodup ∧ vs.length = ns.length) ∧ rNs (fget ns vs) o

inductive Idx : List Str → List (Option Value) → Str → Option Value → Prop
  | here {x ns u vs} : Idx (x :: ns) (u :: vs) x u
  | there {y ns w vs x u} : Idx ns vs x u → Idx (y :: ns) (w :: vs) x u
inductive Put : List Str → List (Option Value) → Str → Value → List (Option Value) → Prop
  | here {x ns u vs w} : Put (x :: ns) (u :: vs) x w (some w :: vs)
  | there {y ns u vs x w vs'} : Put ns vs x w vs' → Put (y :: ns) (u :: vs) x w (u :: vs')

theorem Idx.mem {ns vs x u} (h : Idx ns vs x u) : x ∈ ns := by
  induction h with
  | here => exact List.mem_cons_self
  | there _ ih => exact List.mem_cons_of_mem _ ih
theorem Put.mem {ns vs x w vs'} (h : Put ns vs x w vs') : x ∈ ns := by
  induction h with
  | here => exact List.mem_cons_self
  | there _ ih => exact List.mem_cons_of_mem _ ih
theorem Idx.get {ns vs x u} (h : Idx ns vs x u) (hn : ns.Nodup) : fget ns vs x = u := by
  induction h with
  | here => simp [fget]
  | there h ih =>
    rw [List.nodup_cons] at hn
    rw [fget, if_neg (by rintro rfl; exact hn.1 h.mem)]
    exact ih hn.2
theorem Put.get {ns vs x w vs'} (h : Put ns vs x w vs') (hn : ns.Nodup) : (fun y => if y = x then some w else fget ns vs y) = fget ns vs' := by
  induction h with
  | here => funext y; simp only [fget]; split <;> rfl
  | @there y ns u vs x w vs' h ih =>
    rw [List.nodup_cons] at hn
    have ih := ih hn.2
    funext z
    have := congrFun ih z
    simp only [fget]
    by_cases hz : z = y
    · have : z ≠ x := fun q => hn.1 (by rw [← hz, q]; exact h.mem)
      simp [hz, this]
      intro e; exact absurd (hz ▸ e : z = x) this
    · simp only [hz, if_false]; exact this
theorem Put.len {ns vs x w vs'} (h : Put ns vs x w vs') : vs'.length = vs.length := by
  induction h with
  | here => rfl
  | there _ ih => simp [ih]

theorem ns_of {h : Heap} {L : Addr} {m : Str → Option Value} (x : ∃ o, h.get? L = some o ∧ rNs m o) : h.Ns L m :=
  let ⟨o, e, es, ep, r⟩ := x; ⟨o, es, ep, e, r⟩
theorem of_ns {h : Heap} {L : Addr} {m : Str → Option Value} (x : h.Ns L m) : ∃ o, h.get? L = some o ∧ rNs m o :=
  let ⟨o, es, ep, e, r⟩ := x; ⟨o, e, es, ep, r⟩

/-- a name of the top: what it gives -/
def GlobIs (x : Str) (u : Value) (h : Heap) : Prop := ∃ mg mb, h.Ns mainGlobals mg ∧ h.Ns builtinsNs mb ∧ (mg x = some u ∨ (mg x = none ∧ mb x = some u))

structure EnvIs (env : Env) (L : Addr) (ns gl : List Str) (cs fs : List (Str × Addr)) : Prop where
  kind : env.scope.kind = .function
  loc : env.locals = L
  glob : env.globals = mainGlobals
  blt : env.builtins = builtinsNs
  isLoc : ∀ x ∈ ns, env.kindOf x = some .local ∧ (x == ("__debug__" : Str)) = false
  isGl : ∀ x ∈ gl, env.kindOf x = some .globalImplicit ∧ (x == ("__debug__" : Str)) = false
  isCell : ∀ p ∈ cs, env.kindOf p.1 = some .cell ∧ env.cells.lookup p.1 = some p.2 ∧ (p.1 == ("__debug__" : Str)) = false
  isFree : ∀ p ∈ fs, env.kindOf p.1 = some .free ∧ env.cells.lookup p.1 = some p.2 ∧ (p.1 == ("__debug__" : Str)) = false ∧ (p.1 == ("__classdict__" : Str)) = false

inductive HasC : List (Str × Addr) → Str → Addr → Prop
  | here {x a r} : HasC ((x, a) :: r) x a
  | there {p r x a} : HasC r x a → HasC (p :: r) x a
theorem HasC.mem {cs x a} (h : HasC cs x a) : (x, a) ∈ cs := by
  induction h with
  | here => exact List.mem_cons_self
  | there _ ih => exact List.mem_cons_of_mem _ ih
inductive HasN : List Str → Str → Prop
  | here {x r} : HasN (x :: r) x
  | there {y r x} : HasN r x → HasN (y :: r) x
theorem HasN.mem {cs x} (h : HasN cs x) : x ∈ cs := by
  induction h with
  | here => exact List.mem_cons_self
  | there _ ih => exact List.mem_cons_of_mem _ ih

/-! what stands behind a step, by name: short terms -/
section
variable (prog : Program) (w : World) (O : OsState) (n : Nat)
abbrev QTru (Q : Post Bool) : Post Value := fun c B G v => Ok prog w O n B G v (truthy c) Q
abbrev QBin2 (op : Operator) (a : Value) (Q : Post Value) : Post Value := fun b B G v => Ok prog w O n B G v (binaryOp op a b) Q
abbrev QBin (r : Expr) (op : Operator) (env : Env) (Q : Post Value) : Post Value := fun a B G v => Ok prog w O n B G v (eval r env) (QBin2 prog w O n op a Q)
abbrev QUn (op : UnaryOp) (Q : Post Value) : Post Value := fun a B G v => Ok prog w O n B G v (unaryOp op a) Q
abbrev QCmp2 (op : CmpOp) (a : Value) (Q : Post Value) : Post Value := fun b B G v => Ok prog w O n B G v (compareOp op a b) Q
abbrev QCmp (r : Expr) (op : CmpOp) (env : Env) (Q : Post Value) : Post Value := fun a B G v => Ok prog w O n B G v (eval r env) (QCmp2 prog w O n op a Q)
abbrev QNot (Q : Post Bool) : Post Bool := fun b B G v => Q (!b) B G v
abbrev QIfE (b e : Expr) (env : Env) (Q : Post Value) : Post Bool := fun c B G v => if c then Ok prog w O n B G v (eval b env) Q else Ok prog w O n B G v (eval e env) Q
abbrev QIf (b e : List Stmt) (env : Env) (Q : Post Flow) : Post Bool := fun c B G v => if c then Ok prog w O n B G v (execs b env) Q else Ok prog w O n B G v (execs e env) Q
abbrev QAnd2 (y : Expr) (env : Env) (a : Value) (Q : Post Value) : Post Bool := fun t B G v => if t then Ok prog w O n B G v (eval y env) Q else Q a B G v
abbrev QAnd (y : Expr) (env : Env) (Q : Post Value) : Post Value := fun a B G v => Ok prog w O n B G v (truthy a) (QAnd2 prog w O n y env a Q)
abbrev QIt2 (a : Value) (Q : Post (List Value)) : Post (List Value) := fun as B G v => Q (a :: as) B G v
abbrev QIt (p : Pos) (rest : List Expr) (env : Env) (Q : Post (List Value)) : Post Value := fun a B G v => Ok prog w O n B G v (spliced (backTo p (starEach rest env))) (QIt2 a Q)
abbrev QTup (Q : Post Value) : Post (List Value) := fun vs B1 G1 v1 => vs.length ≤ sizeLine ∧ ∀ a B2, BLe B1 B2 → B2 a = some { cls := .type "tuple", data := .seq vs.toArray } → Q (.ref a) B2 G1 v1
abbrev QLst (Q : Post Value) : Post (List Value) := fun vs B1 G1 v1 => vs.length ≤ sizeLine ∧ ∀ a, Q (.ref a) B1 G1 ((a, rList vs) :: v1)
abbrev QThen (rest : List Stmt) (env : Env) (Q : Post Flow) : Post Flow := fun f B1 G1 v1 => match f with | .next => Ok prog w O n B1 G1 v1 (execs rest env) Q | f => Q f B1 G1 v1
abbrev QNext (Q : Post Flow) : Post Unit := fun _ B G v => Q .next B G v
abbrev QAsg (x : Str) (env : Env) (Q : Post Flow) : Post Value := fun a B G v => Ok prog w O n B G v (storeName env x a) (QNext Q)
abbrev QAug3 (op : Operator) (a : Value) (x : Str) (env : Env) (Q : Post Flow) : Post Value := fun b B G v => Ok prog w O n B G v (inplaceOp op a b) (QAsg prog w O n x env Q)
abbrev QAug (e : Expr) (op : Operator) (x : Str) (env : Env) (Q : Post Flow) : Post Value := fun a B G v => Ok prog w O n B G v (eval e env) (QAug3 prog w O n op a x env Q)
abbrev QRet (Q : Post Flow) : Post Value := fun a B G v => Q (.ret a) B G v
abbrev QExpr (Q : Post Flow) : Post Value := fun a B G v => (∀ b, a ≠ .ref b) ∧ Q .next B G v
end

section
variable {prog : Program} {w : World} {O : OsState} {n : Nat} {B : Base} {G : Array GenState} {v v' : Vol} {env : Env} {L : Addr} {ns gl : List Str} {cs fs : List (Str × Addr)} {α β : Type}

theorem Ok.wp {t : Sem α} {Q : Post α} {A : Around} {s : Shared} {E : Value → Shared → Prop} (h : Ok prog w O n B G v t Q) (R : Room n A) (S : St O B G v s) :
    wpAny (model prog w) A t (fun a s' => ∃ B' G' v', St O B' G' v' s' ∧ Q a B' G' v') E s := wpAny_mono (h A s R S) (fun _ _ x => x) fun _ _ x => x.elim
/-- walk on: the tree's post is a tree behind -/
theorem Ok.wpT {t : Sem α} {f : α → Sem β} {Q : Post β} {A : Around} {s : Shared} {E : Value → Shared → Prop} (h : Ok prog w O n B G v t (fun a B' G' v' => Ok prog w O n B' G' v' (f a) Q)) (R : Room n A) (S : St O B G v s) :
    wpAny (model prog w) A t (fun a s' => wpAny (model prog w) A (f a) (fun a s' => ∃ B' G' v', St O B' G' v' s' ∧ Q a B' G' v') E s') E s :=
  wpAny_mono (h A s R S) (fun _ _ ⟨_, _, _, S', q⟩ => q.wp R S') fun _ _ x => x.elim

theorem Ok.pull {a : Addr} {r : Res} {t : Sem α} {Q : Post α} (hd : Del v a r v') (h : Ok prog w O n B G ((a, r) :: v') t Q) : Ok prog w O n B G v t Q :=
  fun A s R S => h A s R (S.pull hd)
theorem Ok.drop {a : Addr} {r : Res} {t : Sem α} {Q : Post α} (hd : Del v a r v') (h : Ok prog w O n B G v' t Q) : Ok prog w O n B G v t Q := by
  obtain ⟨i, _, rfl⟩ := hd.idx
  exact Ok.sub (List.eraseIdx_sublist v i) h
theorem Ok.freeze {a : Addr} {r : Res} {t : Sem α} {Q : Post α} (hd : Del v a r v') (h : ∀ o B', r o → B' a = some o → BLe B B' → Ok prog w O n B' G v' t Q) : Ok prog w O n B G v t Q := by
  obtain ⟨i, h1, rfl⟩ := hd.idx
  exact Ok.frz h1 h

/-! ### names -/
theorem Ok.name_loc {x : Str} {p : Pos} {u : Value} {vs : List (Option Value)} {Q : Post Value} (hE : EnvIs env L ns gl cs fs) (hv : Has v L (rFr ns vs)) (hx : Idx ns vs x (some u)) (h : Q u B G v) :
    Ok prog w O n B G v (eval (.Name x p) env) Q := fun A s R S => by
  obtain ⟨o, ho, ⟨hnd, hl⟩, hns⟩ := S.has hv
  obtain ⟨k1, k2⟩ := hE.isLoc x hx.mem
  exact wpAny_Name (wpAny_loadName_local hE.kind k1 (by rw [hE.loc]; exact ns_of ⟨o, ho, hns⟩) (hx.get hnd) ⟨B, G, v, S, h⟩) k2
theorem Ok.load_loc {x : Str} {u : Value} {vs : List (Option Value)} {Q : Post Value} (hE : EnvIs env L ns gl cs fs) (hv : Has v L (rFr ns vs)) (hx : Idx ns vs x (some u)) (h : Q u B G v) :
    Ok prog w O n B G v (loadName env x) Q := fun A s R S => by
  obtain ⟨o, ho, ⟨hnd, hl⟩, hns⟩ := S.has hv
  obtain ⟨k1, k2⟩ := hE.isLoc x hx.mem
  exact wpAny_loadName_local hE.kind k1 (by rw [hE.loc]; exact ns_of ⟨o, ho, hns⟩) (hx.get hnd) ⟨B, G, v, S, h⟩
theorem Ok.name_cell {x : Str} {p : Pos} {u : Value} {c : Addr} {Q : Post Value} (hE : EnvIs env L ns gl cs fs) (hc : HasC cs x c) (hv : Has v c (rCell (some u))) (h : Q u B G v) :
    Ok prog w O n B G v (eval (.Name x p) env) Q := fun A s R S => by
  obtain ⟨k1, k2, k3⟩ := hE.isCell _ hc.mem
  exact wpAny_Name (wpAny_loadName_cell hE.kind k1 k2 (S.has hv) ⟨B, G, v, S, h⟩) k3
theorem Ok.load_cell {x : Str} {u : Value} {c : Addr} {Q : Post Value} (hE : EnvIs env L ns gl cs fs) (hc : HasC cs x c) (hv : Has v c (rCell (some u))) (h : Q u B G v) :
    Ok prog w O n B G v (loadName env x) Q := fun A s R S => by
  obtain ⟨k1, k2, k3⟩ := hE.isCell _ hc.mem
  exact wpAny_loadName_cell hE.kind k1 k2 (S.has hv) ⟨B, G, v, S, h⟩
theorem Ok.name_free {x : Str} {p : Pos} {u : Value} {c : Addr} {Q : Post Value} (hE : EnvIs env L ns gl cs fs) (hc : HasC fs x c) (hv : Has v c (rCell (some u))) (h : Q u B G v) :
    Ok prog w O n B G v (eval (.Name x p) env) Q := fun A s R S => by
  obtain ⟨k1, k2, k3, k4⟩ := hE.isFree _ hc.mem
  exact wpAny_Name (wpAny_loadName_free hE.kind k1 k2 (S.has hv) ⟨B, G, v, S, h⟩ k4) k3
theorem Ok.name_glob {x : Str} {p : Pos} {u : Value} {Q : Post Value} (hE : EnvIs env L ns gl cs fs) (hg : HasN gl x) (hT : Stb B (GlobIs x u)) (h : Q u B G v) :
    Ok prog w O n B G v (eval (.Name x p) env) Q := fun A s R S => by
  obtain ⟨k1, k2⟩ := hE.isGl _ hg.mem
  obtain ⟨mg, mb, h1, h2, h3⟩ := hT s.heap S.keep
  rcases h3 with h3 | ⟨h3, h4⟩
  · exact Name_function_global hE.kind k1 (loadGlobal_global (by rw [hE.glob]; exact h1) h3 ⟨B, G, v, S, h⟩) k2
  · exact Name_function_global hE.kind k1 (loadGlobal_builtin (by rw [hE.glob]; exact h1) h3 (by rw [hE.blt]; exact h2) h4 ⟨B, G, v, S, h⟩) k2

theorem Ok.store_loc {x : Str} {u : Value} {vs vs' : List (Option Value)} {v' : Vol} {Q : Post Unit} (hE : EnvIs env L ns gl cs fs) (hu : Upd v L (rFr ns vs) (rFr ns vs') v') (hx : Put ns vs x u vs') (h : Q () B G v') :
    Ok prog w O n B G v (storeName env x u) Q := fun A s R S => by
  obtain ⟨o, ho, ⟨hnd, hl⟩, hns⟩ := S.has hu.has
  obtain ⟨k1, k2⟩ := hE.isLoc x hx.mem
  refine wpAny_storeName_local k1 (by rw [hE.loc]; exact ns_of ⟨o, ho, hns⟩) (fun h' hn hs => ⟨B, G, v', ?_, h⟩) (by rw [hE.kind]; rfl)
  rw [hE.loc] at hn hs
  rw [hx.get hnd] at hn
  obtain ⟨o', ho', hns'⟩ := of_ns hn
  exact S.turn hu hs ⟨o', ho', ⟨hnd, hx.len.trans hl⟩, hns'⟩ _
theorem Ok.store_cell {x : Str} {u : Value} {u₀ : Option Value} {c : Addr} {v' : Vol} {Q : Post Unit} (hE : EnvIs env L ns gl cs fs) (hc : HasC cs x c) (hu : Upd v c (rCell u₀) (rCell (some u)) v') (h : Q () B G v') :
    Ok prog w O n B G v (storeName env x u) Q := fun A s R S => by
  obtain ⟨k1, k2, k3⟩ := hE.isCell _ hc.mem
  exact wpAny_storeName_cell hE.kind k1 k2 (S.has hu.has) fun h' hv hs => ⟨B, G, v', S.turn hu hs hv _, h⟩

/-! ### constants -/
theorem Ok.const_int {i : Int} {k : Nat} {p : Pos} {Q : Post Value} (h : ∀ t, Q (.int i t) B G v) : Ok prog w O n B G v (eval (.Constant (.int i) k p) env) Q :=
  fun A s R S => wpAny_Constant_int ⟨B, G, v, S.toks _, h _⟩
theorem Ok.const_str {x : Str} {k : Nat} {p : Pos} {Q : Post Value} (h : ∀ t, Q (.str x t) B G v) : Ok prog w O n B G v (eval (.Constant (.str x) k p) env) Q :=
  fun A s R S => wpAny_Constant_str ⟨B, G, v, S.toks _, h _⟩
theorem Ok.const_none {k : Nat} {p : Pos} {Q : Post Value} (h : Q .none B G v) : Ok prog w O n B G v (eval (.Constant .none k p) env) Q :=
  fun A s R S => wpAny_Constant_none ⟨B, G, v, S, h⟩
theorem Ok.const_bool {b : Bool} {k : Nat} {p : Pos} {Q : Post Value} (h : Q (.bool b) B G v) : Ok prog w O n B G v (eval (.Constant (.bool b) k p) env) Q :=
  fun A s R S => wpAny_Constant_bool ⟨B, G, v, S, h⟩

/-! ### operators -/
theorem Ok.binop {l r : Expr} {op : Operator} {p : Pos} {Q : Post Value}
    (h : Ok prog w O n B G v (eval l env) (QBin prog w O n r op env Q)) : Ok prog w O n B G v (eval (.BinOp l op r p) env) Q :=
  fun A s R S => wpAny_BinOp (Ok.go h R S (fun _ s1 _ _ _ S1 h1 => Ok.go h1 R S1 (fun _ s2 _ _ _ S2 h2 => h2 A s2 R S2)))
theorem Ok.unop {x : Expr} {op : UnaryOp} {p : Pos} {Q : Post Value}
    (h : Ok prog w O n B G v (eval x env) (QUn prog w O n op Q)) : Ok prog w O n B G v (eval (.UnaryOp op x p) env) Q :=
  fun A s R S => wpAny_UnaryOp (Ok.go h R S (fun _ s1 _ _ _ S1 h1 => h1 A s1 R S1))
theorem Ok.cmp {l r : Expr} {op : CmpOp} {p : Pos} {Q : Post Value}
    (h : Ok prog w O n B G v (eval l env) (QCmp prog w O n r op env Q))
    (hm : behindInMarks op r = false := by with_unfolding_all rfl) : Ok prog w O n B G v (eval (.Compare l [op] [r] p) env) Q :=
  fun A s R S => wpAny_Compare1 (Ok.go h R S (fun _ s1 _ _ _ S1 h1 => Ok.go h1 R S1 (fun _ s2 _ _ _ S2 h2 => h2 A s2 R S2))) hm
theorem Ok.true_cmp {l r : Expr} {op : CmpOp} {p : Pos} {whole : Sem Value} {Q : Post Bool}
    (h : Ok prog w O n B G v (eval l env) (QCmp prog w O n r op env (QTru prog w O n Q)))
    (hm : behindInMarks op r = false := by with_unfolding_all rfl) : Ok prog w O n B G v (isTrue (.Compare l [op] [r] p) env whole) Q :=
  fun A s R S => wpAny_isTrue_Compare1 (Ok.go h R S (fun _ s1 _ _ _ S1 h1 => Ok.go h1 R S1 (fun _ s2 _ _ _ S2 h2 => Ok.go h2 R S2 (fun _ s3 _ _ _ S3 h3 => h3 A s3 R S3)))) hm
theorem Ok.true_val {e : Expr} {whole : Sem Value} {Q : Post Bool} (h : Ok prog w O n B G v whole (QTru prog w O n Q))
    (he : isTrue e env whole = (do let v ← whole; standAt e.pos; holding [v] (truthy v)) := by rfl) : Ok prog w O n B G v (isTrue e env whole) Q :=
  fun A s R S => wpAny_isTrue_value (Ok.go h R S (fun _ s1 _ _ _ S1 h1 => h1 A s1 R S1)) he
theorem Ok.true_not {x : Expr} {p : Pos} {whole : Sem Value} {Q : Post Bool} (h : Ok prog w O n B G v (isTrue x env (eval x env)) (QNot Q)) : Ok prog w O n B G v (isTrue (.UnaryOp .Not x p) env whole) Q :=
  fun A s R S => wpAny_isTrue_Not (h A s R S)
theorem Ok.ifexp {t b e : Expr} {p : Pos} {Q : Post Value}
    (h : Ok prog w O n B G v (isTrue t env (eval t env)) (QIfE prog w O n b e env Q)) : Ok prog w O n B G v (eval (.IfExp t b e p) env) Q :=
  fun A s R S => wpAny_IfExp (Ok.go h R S (fun c s1 _ _ _ S1 h1 => by cases c <;> exact h1 A s1 R S1))
theorem Ok.and2 {x y : Expr} {p : Pos} {Q : Post Value}
    (h : Ok prog w O n B G v (eval x env) (QAnd prog w O n y env Q)) : Ok prog w O n B G v (eval (.BoolOp .And [x, y] p) env) Q :=
  fun A s R S => wpAny_And2 (Ok.go h R S (fun _ s1 _ _ _ S1 h1 => Ok.go h1 R S1 (fun t s2 _ _ _ S2 h2 => by
    cases t with
    | false => exact ⟨_, _, _, S2, h2⟩
    | true => exact h2 A s2 R S2)))

/-! ### displays -/
theorem Ok.items_nil {p : Pos} {Q : Post (List Value)} (h : Q [] B G v) : Ok prog w O n B G v (spliced (backTo p (starEach [] env))) Q := fun A s R S => wpAny_items_nil ⟨B, G, v, S, h⟩
theorem Ok.items_cons {p : Pos} {e : Expr} {rest : List Expr} {Q : Post (List Value)}
    (h : Ok prog w O n B G v (eval e env) (QIt prog w O n p rest env Q))
    (he : starEach (e :: rest) env = (false, eval e env) :: starEach rest env := by rfl) : Ok prog w O n B G v (spliced (backTo p (starEach (e :: rest) env))) Q :=
  fun A s R S => wpAny_items_cons (Ok.go h R S (fun _ s1 _ _ _ S1 h1 => h1 A s1 R S1)) he
theorem Ok.tuple {es : List Expr} {k : Nat} {p : Pos} {Q : Post Value}
    (h : Ok prog w O n B G v (spliced (backTo p (starEach es env))) (QTup Q)) :
    Ok prog w O n B G v (eval (.Tuple es k p) env) Q :=
  fun A s R S => wpAny_Tuple (wpAny_mono (h A s R S) (fun vs s1 ⟨B1, G1, v1, S1, hl, h1⟩ => ⟨hl, by
    obtain ⟨h2, S2⟩ := S1.pushB ({ cls := .type "tuple", data := .seq vs.toArray } : Obj) rfl s1.toks
    exact ⟨_, _, _, S2, h1 _ _ h2 (Base.add_self ..)⟩⟩) fun _ _ x => x)
theorem Ok.listd {es : List Expr} {p : Pos} {Q : Post Value}
    (h : Ok prog w O n B G v (spliced (backTo p (starEach es env))) (QLst Q)) :
    Ok prog w O n B G v (eval (.List es p) env) Q :=
  fun A s R S => wpAny_List (wpAny_mono (h A s R S) (fun vs s1 ⟨B1, G1, v1, S1, hl, h1⟩ => ⟨hl, _, _, _, S1.push ({ cls := .type "list", data := .seq vs.toArray } : Obj) rfl ⟨0, rfl⟩ s1.toks, h1 _⟩) fun _ _ x => x)

/-! ### statements -/
theorem Ok.execs_nil {Q : Post Flow} (h : Q .next B G v) : Ok prog w O n B G v (execs [] env) Q := fun A s R S => wpAny_execs_nil ⟨B, G, v, S, h⟩
theorem Ok.execs_cons {st : Stmt} {rest : List Stmt} {Q : Post Flow}
    (h : Ok prog w O n B G v (exec st env) (QThen prog w O n rest env Q)) : Ok prog w O n B G v (execs (st :: rest) env) Q :=
  fun A s R S => wpAny_execs_cons (Ok.go h R S (fun f s1 _ _ _ S1 h1 => by
    cases f with
    | next => exact h1 A s1 R S1
    | brk => exact ⟨_, _, _, S1, h1⟩
    | cont => exact ⟨_, _, _, S1, h1⟩
    | ret r => exact ⟨_, _, _, S1, h1⟩))
theorem Ok.assign1 {x : Str} {p' p : Pos} {e : Expr} {Q : Post Flow}
    (h : Ok prog w O n B G v (eval e env) (QAsg prog w O n x env Q))
    (hs : swapsWith e (some (.Name x p')) p.line env = pure false := by rfl) : Ok prog w O n B G v (exec (.Assign [.Name x p'] e p) env) Q :=
  fun A s R S => wpAny_Assign_Name (Ok.go h R S (fun _ s1 _ _ _ S1 h1 => h1 A s1 R S1)) hs
theorem Ok.aug {x : Str} {p' p : Pos} {op : Operator} {e : Expr} {Q : Post Flow}
    (h : Ok prog w O n B G v (loadName env x) (QAug prog w O n e op x env Q)) :
    Ok prog w O n B G v (exec (.AugAssign (.Name x p') op e p) env) Q :=
  fun A s R S => wpAny_AugAssign_Name (Ok.go h R S (fun _ s1 _ _ _ S1 h1 => Ok.go h1 R S1 (fun _ s2 _ _ _ S2 h2 => Ok.go h2 R S2 (fun _ s3 _ _ _ S3 h3 => h3 A s3 R S3))))
theorem Ok.if_ {t : Expr} {b e : List Stmt} {p : Pos} {Q : Post Flow}
    (h : Ok prog w O n B G v (isTrue t env (eval t env)) (QIf prog w O n b e env Q)) : Ok prog w O n B G v (exec (.If t b e p) env) Q :=
  fun A s R S => wpAny_If (Ok.go h R S (fun c s1 _ _ _ S1 h1 => by cases c <;> exact h1 A s1 R S1))
theorem Ok.ret {e : Expr} {p : Pos} {Q : Post Flow} (h : Ok prog w O n B G v (eval e env) (QRet Q)) : Ok prog w O n B G v (exec (.Return (some e) p) env) Q :=
  fun A s R S => wpAny_Return_some (h A s R S)
theorem Ok.ret_none {p : Pos} {Q : Post Flow} (h : Q (.ret .none) B G v) : Ok prog w O n B G v (exec (.Return none p) env) Q := fun A s R S => wpAny_Return_none ⟨B, G, v, S, h⟩
theorem Ok.expr {e : Expr} {p : Pos} {Q : Post Flow} (h : Ok prog w O n B G v (eval e env) (QExpr Q))
    (hi : interactive env = false := by rfl) (hs : swapsWith e none p.line env = pure false := by rfl) : Ok prog w O n B G v (exec (.Expr e p) env) Q :=
  fun A s R S => wpAny_Expr (wpAny_mono (h A s R S) (fun a s1 ⟨_, _, _, S1, hn, h1⟩ => by
    cases a with
    | ref b => exact (hn b rfl).elim
    | _ => exact ⟨_, _, _, S1, h1⟩) fun _ _ x => x) hi hs
end
-- part Rules2
def seqB (T : String) (B : Base) (a : Addr) (xs : List Value) : Prop := ∃ n, B a = some { cls := .type T, data := .seq xs.toArray n }
abbrev tupB := seqB "tuple"
abbrev lstB := seqB "list"
theorem seqB.mono {T B B' a xs} (h : seqB T B a xs) (k : BLe B B') : seqB T B' a xs := let ⟨n, e⟩ := h; ⟨n, k _ _ e⟩
/-- a sequence that stands somewhere -/
def SeqAt (T : String) (B : Base) (v : Vol) (a : Addr) (xs : List Value) : Prop := Has v a (rSeq T xs) ∨ seqB T B a xs
abbrev LstAt := SeqAt "list"
theorem SeqAt.at {T B v a xs} {O : OsState} {G : Array GenState} {s : Shared} (h : SeqAt T B v a xs) (S : St O B G v s) : ∃ n, s.heap.get? a = some { cls := .type T, data := .seq xs.toArray n } := by
  rcases h with h | ⟨n, h⟩
  · obtain ⟨o, h1, n, rfl⟩ := S.has h; exact ⟨n, h1⟩
  · exact ⟨n, S.keep _ _ h⟩
theorem isList_of {h : Heap} {a : Addr} {xs : List Value} (x : ∃ n, h.get? a = some { cls := .type "list", data := .seq xs.toArray n }) : h.IsList a xs.toArray :=
  let ⟨n, e⟩ := x; ⟨_, e, rfl, n, rfl⟩
theorem isTup_of {h : Heap} {a : Addr} {xs : List Value} (x : ∃ n, h.get? a = some { cls := .type "tuple", data := .seq xs.toArray n }) : IsTup h a xs.toArray :=
  let ⟨n, e⟩ := x; ⟨_, e, rfl, n, rfl⟩
theorem isTuple_of {h : Heap} {a : Addr} {xs : List Value} (x : ∃ n, h.get? a = some { cls := .type "tuple", data := .seq xs.toArray n }) : h.IsTuple a xs.toArray :=
  let ⟨n, e⟩ := x; ⟨_, e, rfl, n, rfl⟩

def fnB (B : Base) (a : Addr) : Prop := ∃ o fd, B a = some o ∧ o.data = .func fd
theorem fnB.mono {B B' a} (h : fnB B a) (k : BLe B B') : fnB B' a := let ⟨o, fd, e, r⟩ := h; ⟨o, fd, k _ _ e, r⟩

section
variable (prog : Program) (w : World) (O : OsState) (n : Nat)
abbrev QNotV (Q : Post Value) : Post Bool := fun b B G v => Q (.bool (!b)) B G v
abbrev QCallV2 (f : Value) (Q : Post Value) : Post (List Value) := fun vs B G v => Ok prog w O n B G v (call f vs) Q
abbrev QCallV (f : Value) (pos : Pos) (args : List Expr) (env : Env) (Q : Post Value) : Post Value := fun f' B G v => f' = f ∧ Ok prog w O n B G v (spliced (backTo pos (starEach args env))) (QCallV2 prog w O n f Q)
abbrev QCallF2 (f : Addr) (Q : Post Value) : Post (List Value) := fun vs B G v => fnB B f ∧ Ok prog w O n B G v (call (.ref f) vs) Q
abbrev QCallF (f : Addr) (pos : Pos) (args : List Expr) (env : Env) (Q : Post Value) : Post Value := fun f' B G v => f' = .ref f ∧ Ok prog w O n B G v (spliced (backTo pos (starEach args env))) (QCallF2 prog w O n f Q)
abbrev QSub2 (value slice : Expr) (o : Value) (Q : Post Value) : Post Value := fun i B G v => Ok prog w O n B G v (subscriptTail value slice o i) Q
abbrev QSub (value slice : Expr) (env : Env) (Q : Post Value) : Post Value := fun o B G v => Ok prog w O n B G v (eval slice env) (QSub2 prog w O n value slice o Q)
end
section
variable {prog : Program} {w : World} {O : OsState} {n : Nat} {B : Base} {G : Array GenState} {v : Vol} {env : Env} {a b : Int} {t u : Tok} {Q : Post Value}

/-! ### ints -/
theorem Ok.add_int (h : ∀ k, Q (.int (a + b) k) B G v) : Ok prog w O n B G v (binaryOp .Add (.int a t) (.int b u)) Q := fun A s R S => PyProof.Rows.add_int ⟨B, G, v, S.toks _, h _⟩
theorem Ok.sub_int (h : ∀ k, Q (.int (a - b) k) B G v) : Ok prog w O n B G v (binaryOp .Sub (.int a t) (.int b u)) Q := fun A s R S => PyProof.Rows.sub_int ⟨B, G, v, S.toks _, h _⟩
theorem Ok.mul_int (hm : IntMulOk a b) (h : ∀ k, Q (.int (a * b) k) B G v) : Ok prog w O n B G v (binaryOp .Mult (.int a t) (.int b u)) Q := fun A s R S => PyProof.Rows.mul_int ⟨B, G, v, S.toks _, h _⟩ hm
theorem Ok.fdiv_int (hb : 0 < b) (hs : b < 1073741824) (h : ∀ k, Q (.int (a / b) k) B G v) : Ok prog w O n B G v (binaryOp .FloorDiv (.int a t) (.int b u)) Q := fun A s R S =>
  PyProof.Rows.floordiv_int (by first | lia | omega) ⟨B, G, v, S.toks _, by rw [Int.fdiv_eq_ediv_of_nonneg _ (by first | lia | omega)]; exact h _⟩ (.inl (PyProof.noPylong_small (by first | lia | omega)))
theorem Ok.mod_int (hb : 0 < b) (h : ∀ k, Q (.int (a % b) k) B G v) : Ok prog w O n B G v (binaryOp .Mod (.int a t) (.int b u)) Q := fun A s R S =>
  PyProof.Rows.mod_int (by first | lia | omega) ⟨B, G, v, S.toks _, by rw [Int.fmod_eq_emod_of_nonneg _ (by first | lia | omega)]; exact h _⟩
theorem Ok.pow_int (hn : 0 ≤ b) (hsz : (Builtin.Int.intBits a : Int) * b ≤ 2 ^ 27) (h : ∀ k, Q (.int (a ^ b.toNat) k) B G v) : Ok prog w O n B G v (binaryOp .Pow (.int a t) (.int b u)) Q := fun A s R S =>
  PyProof.Rows.pow_int hn hsz ⟨B, G, v, S.toks _, h _⟩
theorem Ok.shl_int (hn : 0 ≤ b) (hsz : (Builtin.Int.intBits a : Int) + b ≤ 2 ^ 27) (h : ∀ k, Q (.int (a * 2 ^ b.toNat) k) B G v) : Ok prog w O n B G v (binaryOp .LShift (.int a t) (.int b u)) Q := fun A s R S =>
  PyProof.Rows.lshift_int hn hsz ⟨B, G, v, S.toks _, h _⟩
theorem Ok.shr_int (hn : 0 ≤ b) (h : ∀ k, Q (.int (a / 2 ^ b.toNat) k) B G v) : Ok prog w O n B G v (binaryOp .RShift (.int a t) (.int b u)) Q := fun A s R S =>
  PyProof.Rows.rshift_int hn ⟨B, G, v, S.toks _, by rw [Int.fdiv_eq_ediv_of_nonneg _ (Int.pow_nonneg (by first | lia | omega))]; exact h _⟩
theorem Ok.xor_int (h : ∀ k, Q (.int (Builtin.bitXor a b) k) B G v) : Ok prog w O n B G v (binaryOp .BitXor (.int a t) (.int b u)) Q := fun A s R S => PyProof.Rows.xor_int ⟨B, G, v, S.toks _, h _⟩
theorem Ok.iadd_int (h : ∀ k, Q (.int (a + b) k) B G v) : Ok prog w O n B G v (inplaceOp .Add (.int a t) (.int b u)) Q := fun A s R S => PyProof.Rows.iadd_int ⟨B, G, v, S.toks _, h _⟩
theorem Ok.isub_int (h : ∀ k, Q (.int (a - b) k) B G v) : Ok prog w O n B G v (inplaceOp .Sub (.int a t) (.int b u)) Q := fun A s R S => PyProof.Rows.isub_int ⟨B, G, v, S.toks _, h _⟩
theorem Ok.neg_int (h : ∀ k, Q (.int (-a) k) B G v) : Ok prog w O n B G v (unaryOp .USub (.int a t)) Q := fun A s R S => PyProof.Rows.neg_int ⟨B, G, v, S.toks _, h _⟩
theorem Ok.inv_int (h : ∀ k, Q (.int (Builtin.bitNot a) k) B G v) : Ok prog w O n B G v (unaryOp .Invert (.int a t)) Q := fun A s R S => PyProof.Rows.invert_int ⟨B, G, v, S.toks _, h _⟩
theorem Ok.lt_int (h : Q (.bool (decide (a < b))) B G v) : Ok prog w O n B G v (compareOp .Lt (.int a t) (.int b u)) Q := fun A s R S => PyProof.Rows.lt_int ⟨B, G, v, S, h⟩
theorem Ok.gt_int (h : Q (.bool (decide (b < a))) B G v) : Ok prog w O n B G v (compareOp .Gt (.int a t) (.int b u)) Q := fun A s R S => PyProof.Rows.gt_int ⟨B, G, v, S, h⟩
theorem Ok.le_int (h : Q (.bool (decide (a ≤ b))) B G v) : Ok prog w O n B G v (compareOp .LtE (.int a t) (.int b u)) Q := fun A s R S => PyProof.Rows.le_int ⟨B, G, v, S, h⟩
theorem Ok.ge_int (h : Q (.bool (decide (b ≤ a))) B G v) : Ok prog w O n B G v (compareOp .GtE (.int a t) (.int b u)) Q := fun A s R S => PyProof.Rows.ge_int ⟨B, G, v, S, h⟩
theorem Ok.eq_int (h : Q (.bool (decide (a = b))) B G v) : Ok prog w O n B G v (compareOp .Eq (.int a t) (.int b u)) Q := fun A s R S => PyProof.Rows.eq_int ⟨B, G, v, S, by rw [show (a == b) = decide (a = b) from rfl]; exact h⟩
theorem Ok.ne_int (h : Q (.bool (decide (a ≠ b))) B G v) : Ok prog w O n B G v (compareOp .NotEq (.int a t) (.int b u)) Q := fun A s R S => PyProof.Rows.ne_int ⟨B, G, v, S, by rw [show (a != b) = decide (a ≠ b) by by_cases q : a = b <;> simp [q]]; exact h⟩
theorem Ok.is_none {x : Value} (h : Q (.bool (x == .none)) B G v) : Ok prog w O n B G v (compareOp .Is x .none) Q := fun A s R S => is_none_gen ⟨B, G, v, S, h⟩
theorem Ok.is_bool {c d : Bool} (h : Q (.bool (c == d)) B G v) : Ok prog w O n B G v (compareOp .Is (.bool c) (.bool d)) Q := fun A s R S => PyProof.Rows.is_bool ⟨B, G, v, S, h⟩
theorem Ok.not_val {x : Value} (h : Ok prog w O n B G v (truthy x) (QNotV Q)) : Ok prog w O n B G v (unaryOp .Not x) Q := fun A s R S => PySem.not_value (h A s R S)
end
section
variable {prog : Program} {w : World} {O : OsState} {n : Nat} {B : Base} {G : Array GenState} {v : Vol} {env : Env} {a b : Int} {t u : Tok} {Q : Post Bool}
theorem Ok.truthy_bool {c : Bool} (h : Q c B G v) : Ok prog w O n B G v (truthy (.bool c)) Q := fun A s R S => wpAny_truthy_bool ⟨B, G, v, S, h⟩
theorem Ok.truthy_int (h : Q (decide (a ≠ 0)) B G v) : Ok prog w O n B G v (truthy (.int a t)) Q := fun A s R S => PyProof.Rows.truthy_int ⟨B, G, v, S, by rw [show (a != 0) = decide (a ≠ 0) by by_cases q : a = 0 <;> simp [q]]; exact h⟩
theorem Ok.truthy_list {l : Addr} {xs : List Value} (hl : LstAt B v l xs) (hf : xs.length < 2 ^ 62) (h : Q (decide (xs ≠ [])) B G v) : Ok prog w O n B G v (truthy (.ref l)) Q := fun A s R S =>
  wpAny_truthy_list (isList_of (hl.at S)) (by rw [List.size_toArray]; (first | lia | omega)) ⟨B, G, v, S.toks _, by
    have e : (!xs.toArray.isEmpty) = decide (xs ≠ []) := by cases xs <;> simp
    first | (rw [e]; exact h) | (simpa using h) | skip⟩
end

/-! ### calls -/
section
variable {prog : Program} {w : World} {O : OsState} {n : Nat} {B : Base} {G : Array GenState} {v : Vol} {env : Env} {Q : Post Value}

theorem evalArgs_list {M : Model} {A : Around} {E : Value → Shared → Prop} {s : Shared} {f : Value} {trees : List (Bool × Sem Value)} {P : Args → Shared → Prop} (hp : trees.any (·.1) = false)
    (h : wpAny M A (spliced trees) (fun vs s' => P ⟨vs, []⟩ s') E s) : wpAny M A (evalArgs f true trees []) P E s := by
  cases trees with
  | nil => unfold evalArgs; exact wpAny_bind (wpAny_mono h (fun vs s' h' => wpAny_bind (wpAny_pure (wpAny_holding (wpAny_bind (wpAny_pure (wpAny_bind (wpAny_pure (wpAny_pure h'))))))) ) fun _ _ x => x)
  | cons x r =>
    obtain ⟨c, x⟩ := x
    have : c = false := by simp only [List.any_cons, Bool.or_eq_false_iff] at hp; exact hp.1
    subst this
    exact evalArgs_plain h

theorem callWith_val {M : Model} {A : Around} {E : Value → Shared → Prop} {s : Shared} {pos : Pos} {f : Value} {first : List Value} {args : List (Bool × Sem Value)} {P : Value → Shared → Prop} (hf : keeperOf f = pure .machine) (hplain : args.any (·.1) = false)
    (h : wpAny M A (evalArgs f true args []) (fun a s₁ => wpAny M A (call f (first ++ a.pos) a.kw) P E s₁) E s) :
    wpAny M A (callWith pos f first args []) P E s := by
  unfold callWith
  refine wpAny_bind (wpAny_holding (wpAny_mono h (fun a s₁ h₁ => wpAny_bind (wpAny_standAt ?_)) fun _ _ x => x))
  simp only [hplain, List.any_nil, Bool.or_false]
  refine wpAny_bind (wpAny_of_eq hf ?_)
  exact wpAny_bind (wpAny_mono h₁ (fun r s₂ hr => wpAny_bind (wpAny_holding (wpAny_point (wpAny_pure hr)))) fun _ _ x => x)

/-- a call by name, what is called no object of the heap -/
theorem Ok.call_val {id : Str} {p pos : Pos} {args : List Expr} {f : Value} (hf : keeperOf f = pure .machine)
    (h : Ok prog w O n B G v (eval (.Name id p) env) (QCallV prog w O n f pos args env Q))
    (hp : (backTo pos (starEach args env)).any (·.1) = false := by rfl) : Ok prog w O n B G v (eval (.Call (.Name id p) args [] pos) env) Q := fun A s R S => by
  refine wpAny_Call_Name_kw (wpAny_mono (h A s R S) (fun f' s1 ⟨_, _, _, S1, e, h1⟩ => ?_) fun _ _ x => x)
  subst e
  refine callWith_val hf hp (evalArgs_list hp ?_)
  exact Ok.go h1 R S1 (fun vs s2 _ _ _ S2 h2 => h2 A s2 R S2)

/-- a call by name of a def -/
theorem Ok.call_fn {id : Str} {p pos : Pos} {args : List Expr} {f : Addr}
    (h : Ok prog w O n B G v (eval (.Name id p) env) (QCallF prog w O n f pos args env Q))
    (hp : (backTo pos (starEach args env)).any (·.1) = false := by rfl) : Ok prog w O n B G v (eval (.Call (.Name id p) args [] pos) env) Q := fun A s R S => by
  refine wpAny_Call_Name_kw (wpAny_mono (h A s R S) (fun f' s1 ⟨_, _, _, S1, e, h1⟩ => ?_) fun _ _ x => x)
  subst e
  refine callWith_of (P := fun h => ∃ o fd, h.get? f = some o ∧ o.data = .func fd) (by rw [hp]; rfl)
    (fun h x => let ⟨o, fd, e1, e2⟩ := x; ⟨.frame, .inl rfl, (Looks.ld (part := none) e1).andThen (by rw [e2]; exact .now)⟩) (evalArgs_list hp ?_)
  exact wpAny_mono (h1 A s1 R S1) (fun vs s2 ⟨_, _, _, S2, ⟨o, fd, e1, e2⟩, h2⟩ => ⟨⟨o, fd, S2.keep _ _ e1, e2⟩, h2 A s2 R S2⟩) fun _ _ x => x
end

/-! ### subscripts -/
section
variable {prog : Program} {w : World} {O : OsState} {n : Nat} {B : Base} {G : Array GenState} {v : Vol} {env : Env} {Q : Post Value}
theorem Ok.sub_ {value slice : Expr} {p : Pos} (h : Ok prog w O n B G v (eval value env) (QSub prog w O n value slice env Q)) :
    Ok prog w O n B G v (eval (.Subscript value slice p) env) Q :=
  fun A s R S => Subscript_ (Ok.go h R S (fun _ s1 _ _ _ S1 h1 => Ok.go h1 R S1 (fun _ s2 _ _ _ S2 h2 => h2 A s2 R S2)))
theorem Ok.item_list {value slice : Expr} {l : Addr} {xs : List Value} {k : Int} {u : Tok} {x : Value} (hl : LstAt B v l xs) (h0 : 0 ≤ k) (hk : k < 2 ^ 63) (hx : xs[k.toNat]? = some x) (h : Q x B G v)
    (hs : subscripted slice false (.ref l) (.int k u) = operate [.ref l, .int k u] (getItem (.ref l) (.int k u)) := by with_unfolding_all rfl) : Ok prog w O n B G v (subscriptTail value slice (.ref l) (.int k u)) Q := fun A s R S =>
  have hL := isList_of (hl.at S)
  tail_any hL.typeIs slot_list_getitem.lookup (wpAny_getItem_list hL h0 hk (by simpa using hx) ⟨B, G, v, S, h⟩) hs
theorem seqIx {k : Int} {m : Nat} (h0 : 0 ≤ k) (h1 : k.toNat < m) : seqIndex? k m = some k.toNat := by
  unfold seqIndex?
  have e : (if k < 0 then k + (m : Int) else k) = k := if_neg (by first | lia | omega)
  simp only [e]
  rw [if_pos]
  simp only [Bool.and_eq_true, decide_eq_true_eq]; (first | lia | omega)
theorem Ok.item_tup {value slice : Expr} {l : Addr} {xs : List Value} {k : Int} {u : Tok} {x : Value} (hl : SeqAt "tuple" B v l xs) (h0 : 0 ≤ k) (hk : k < 2 ^ 63) (hx : xs[k.toNat]? = some x) (h : Q x B G v)
    (hs : subscripted slice false (.ref l) (.int k u) = operate [.ref l, .int k u] (getItem (.ref l) (.int k u)) := by with_unfolding_all rfl) : Ok prog w O n B G v (subscriptTail value slice (.ref l) (.int k u)) Q := fun A s R S =>
  have hlt := (List.getElem?_eq_some_iff.mp hx).1
  item_tupleT (isTup_of (hl.at S)) (by first | lia | omega) hk (seqIx h0 (by first | lia | omega)) hx ⟨B, G, v, S, h⟩ hs
end
-- part Fns
def stmtAt (i : Nat) : Stmt := (PySem.Challenge.pw_rs0193_01.main.body[i]?).getD (.Pass default)
def bodyAt (i : Nat) : List Stmt := match stmtAt i with | .FunctionDef _ _ b _ _ _ _ _ _ _ => b | _ => []
def parsAt (i : Nat) : Arguments := match stmtAt i with | .FunctionDef _ a _ _ _ _ _ _ _ _ => a | _ => default
def scopeAt (i : Nat) : Scope := match stmtAt i with | .FunctionDef _ _ _ _ _ _ s _ _ _ => s | _ => default
def nameAt (i : Nat) : Str := match stmtAt i with | .FunctionDef m _ _ _ _ _ _ _ _ _ => m | _ => default

/-- what is told of a def of the top, but for its parts of the text -/
structure FnRest where
  doc : Value
  pm : Value
  an : Option Addr
  cd : Value
  ct : Value
def fdOf (i : Nat) (df kw : Value) (r : FnRest) : FuncData :=
  { name := nameAt i, qualname := nameAt i, params := parsAt i, body := .stmts (bodyAt i), scope := scopeAt i, globals := mainGlobals, closure := [], defaults := df, kwdefaults := kw,
    doc := r.doc, pyModule := r.pm, annotations := r.an, code := r.cd, closureTuple := r.ct, builtins := builtinsNs }

/-- the def number i of the top stands at f -/
structure Fn (B : Base) (f : Addr) (i : Nat) (df kw : Value) (r : FnRest) : Prop where
  obj : ∃ o, B f = some o ∧ o.data = .func (fdOf i df kw r)
  code : Stb B fun h => h.CodeRec r.cd (nameAt i)
  lim : Stb B fun h => h.NoLimit
theorem Fn.mono {B B' f i df kw r} (h : Fn B f i df kw r) (k : BLe B B') : Fn B' f i df kw r := ⟨let ⟨o, e, d⟩ := h.obj; ⟨o, k _ _ e, d⟩, h.code.mono k, h.lim.mono k⟩
theorem Fn.fnB {B f i df kw r} (h : Fn B f i df kw r) : fnB B f := let ⟨o, e, d⟩ := h.obj; ⟨o, _, e, d⟩

def retOf : Flow → Value
  | .ret v => v
  | _ => .none

abbrev QCall (L : Addr) (Q : Post Value) : Post Flow := fun fl B' G' v' => ∃ r' v'', Del v' L r' v'' ∧ Q (retOf fl) B' G' v''
/-- the binds of a call are its first locals -/
def fromBinds (binds : List (Str × Value)) (ns : List Str) : List (Option Value) := ns.map fun x => binds.lookup x
theorem fromBinds_get (binds : List (Str × Value)) (hb : (binds.map (·.1)).Nodup) : ∀ (ns : List Str), (∀ x ∈ binds.map (·.1), x ∈ ns) → (fun x => binds.reverse.lookup x) = fget ns (fromBinds binds ns) := by
  have rev : ∀ (l : List (Str × Value)), (l.map (·.1)).Nodup → ∀ x, l.reverse.lookup x = l.lookup x := by
    intro l
    induction l with
    | nil => intro _ x; rfl
    | cons p l ih =>
      intro hn x
      obtain ⟨y, u⟩ := p
      rw [List.map_cons, List.nodup_cons] at hn
      rw [List.reverse_cons, List.lookup_append, ih hn.2 x, List.lookup_cons]
      by_cases hx : x = y
      · subst hx
        have : l.lookup x = none := by
          rw [List.lookup_eq_none_iff]
          intro p hp
          have : x ≠ p.1 := fun q => hn.1 (by rw [q]; exact List.mem_map.mpr ⟨p, hp, rfl⟩)
          simpa using this
        simp [this]
      · have hb : (x == y) = false := beq_eq_false_iff_ne.mpr hx
        simp [hb, List.lookup_cons]
  intro ns hin
  funext x
  rw [rev binds hb x]
  have key : ∀ ns : List Str, fget ns (fromBinds binds ns) x = if x ∈ ns then binds.lookup x else none := by
    intro ns
    induction ns with
    | nil => rfl
    | cons y ns ih =>
      show (if x = y then binds.lookup y else fget ns (fromBinds binds ns) x) = _
      by_cases hx : x = y
      · subst hx; simp
      · simp only [hx, if_false, ih, List.mem_cons, false_or]
  rw [key]
  split
  · rfl
  · rename_i hx
    rw [List.lookup_eq_none_iff]
    intro p hp
    have : x ≠ p.1 := fun q => hx (hin x (by rw [q]; exact List.mem_map.mpr ⟨p, hp, rfl⟩))
    simpa using this

/-- the frame of the def number i -/
structure EnvAt (i : Nat) (env : Env) (L : Addr) (cd : Value) (cells : List (Str × Addr)) : Prop where
  scope : env.scope = scopeAt i
  loc : env.locals = L
  glob : env.globals = mainGlobals
  blt : env.builtins = builtinsNs
  code : env.code = cd
  cells : env.cells = cells
  qual : env.qual = nameAt i ++ ".<locals>."

/-- a scope's names are told right -/
def chk (sc : Scope) (ns gl cs fs : List Str) : Bool :=
  sc.kind == .function && ns.all (fun x => sc.names.lookup x == some .local && !(x == ("__debug__" : Str))) && gl.all (fun x => sc.names.lookup x == some .globalImplicit && !(x == ("__debug__" : Str))) &&
  cs.all (fun x => sc.names.lookup x == some .cell && !(x == ("__debug__" : Str))) && fs.all (fun x => sc.names.lookup x == some .free && !(x == ("__debug__" : Str)) && !(x == ("__classdict__" : Str)))

theorem EnvIs.of {env : Env} {L : Addr} {ns gl : List Str} {cs fs : List (Str × Addr)} {sc : Scope} (hs : env.scope = sc) (hL : env.locals = L) (hg : env.globals = mainGlobals) (hb : env.builtins = builtinsNs)
    (hc : chk sc ns gl (cs.map (·.1)) (fs.map (·.1)) = true) (h1 : ∀ p ∈ cs, env.cells.lookup p.1 = some p.2) (h2 : ∀ p ∈ fs, env.cells.lookup p.1 = some p.2) : EnvIs env L ns gl cs fs := by
  simp only [chk, Bool.and_eq_true, List.all_eq_true, beq_iff_eq, Bool.not_eq_true'] at hc
  obtain ⟨⟨⟨⟨k1, k2⟩, k3⟩, k4⟩, k5⟩ := hc
  refine ⟨by rw [hs]; exact k1, hL, hg, hb, fun x hx => ?_, fun x hx => ?_, fun p hp => ?_, fun p hp => ?_⟩
  · unfold Env.kindOf; rw [hs]; exact k2 x hx
  · unfold Env.kindOf; rw [hs]; exact k3 x hx
  · have := k4 p.1 (List.mem_map_of_mem hp)
    unfold Env.kindOf; rw [hs]; exact ⟨this.1, h1 p hp, this.2⟩
  · have := k5 p.1 (List.mem_map_of_mem hp)
    unfold Env.kindOf; rw [hs]; exact ⟨this.1.1, h2 p hp, this.1.2, this.2⟩

theorem EnvAt.is {i : Nat} {env : Env} {L : Addr} {cd : Value} {cells : List (Str × Addr)} (h : EnvAt i env L cd cells) (ns gl : List Str) (hc : chk (scopeAt i) ns gl (cells.map (·.1)) [] = true) (hn : (cells.map (·.1)).Nodup) : EnvIs env L ns gl cells [] := by
  refine EnvIs.of h.scope h.loc h.glob h.blt (by simpa using hc) (fun p hp => ?_) fun p hp => by cases hp
  rw [h.cells]
  exact lookup_of_mem_nodup hn hp

section
variable {w : World} {O : OsState} {n : Nat} {B : Base} {G : Array GenState} {v : Vol} {Q : Post Value}
abbrev prg := PySem.Challenge.pw_rs0193_01

/-- the head of a def's call: what must be so of its scope and names -/
def okDef (i : Nat) (ns : List Str) (bs : List Str) : Bool :=
  !(scopeAt i).isCoroutine && !(scopeAt i).isGenerator && (scopeAt i).kind == .function && (scopeAt i).names.all (fun x => x.2 != .cell) && bs.all (fun x => (scopeAt i).names.lookup x == some .local && ns.contains x) && decide ns.Nodup && decide bs.Nodup

theorem fromBinds_zip : ∀ (ps rest : List Str) (vals : List Value), (ps ++ rest).Nodup → ps.length = vals.length → fromBinds (ps.zip vals) (ps ++ rest) = vals.map some ++ rest.map fun _ => none := by
  intro ps rest vals hn hl
  have key : ∀ (ps : List Str) (vals : List Value), ps.Nodup → ps.length = vals.length → (ps.map fun x => (ps.zip vals).lookup x) = vals.map some := by
    intro ps
    induction ps with
    | nil => intro vals _ hl; cases vals with | nil => rfl | cons _ _ => cases hl
    | cons p ps ih =>
      intro vals hn hl
      cases vals with
      | nil => cases hl
      | cons u vals =>
        rw [List.nodup_cons] at hn
        rw [List.map_cons, List.map_cons, List.zip_cons_cons]
        congr 1
        · simp [List.lookup_cons]
        · rw [← ih vals hn.2 (by simpa using hl)]
          refine List.map_congr_left fun x hx => ?_
          have hb : (x == p) = false := beq_eq_false_iff_ne.mpr fun q => hn.1 (q ▸ hx)
          rw [List.lookup_cons, hb]
  unfold fromBinds
  rw [List.map_append, key ps vals (List.nodup_append.mp hn).1 hl]
  congr 1
  refine List.map_congr_left fun x hx => ?_
  rw [List.lookup_eq_none_iff]
  intro p hp
  have h1 : p.1 ∈ ps := (List.of_mem_zip hp).1
  have : x ≠ p.1 := fun q => (List.nodup_append.mp hn).2.2 p.1 h1 x hx q.symm
  simpa using this

theorem Ok.call_def {f : Addr} {i : Nat} {df kwd : Value} {r : FnRest} {pos : List Value} {kw : List (Str × Value)} (hF : Fn B f i df kwd r) (ps rest : List Str) (vals : List Value) {ns : List Str} {vs : List (Option Value)}
    (hbind : ∀ s, St O B G v s → BindsTo s (fdOf i df kwd r) ⟨pos, kw⟩ (ps.zip vals)) (hok : okDef i ns ps = true) (hns : ns = ps ++ rest) (hlen : ps.length = vals.length) (hvs : vs = vals.map some ++ rest.map fun _ => none)
    (h : ∀ L env, EnvAt i env L r.cd [] → Ok prg w O n B G ((L, rFr ns vs) :: v) (execs (bodyAt i) env) (QCall L Q)) :
    Ok prg w O (n + 1) B G v (call (.ref f) pos kw) Q := fun A s R S => by
  subst hns
  simp only [okDef, Bool.and_eq_true, List.all_eq_true, beq_iff_eq, Bool.not_eq_true', decide_eq_true_eq, bne_iff_ne] at hok
  obtain ⟨⟨⟨⟨⟨⟨k1, k2⟩, k3⟩, k4⟩, k5⟩, k6⟩, k7⟩ := hok
  obtain ⟨o, ho, hd⟩ := hF.obj
  have hfst : (ps.zip vals).map (·.1) = ps := by
    rw [← List.unzip_fst, List.unzip_zip_left (by first | lia | omega)]
  have mem : ∀ x ∈ ps.zip vals, x.1 ∈ ps := fun x hx => (List.of_mem_zip hx).1
  refine wpAny_call (codeAny_call_def (fd := fdOf i df kwd r) (body := bodyAt i) R.room (S.keep _ _ ho) hd (hF.lim _ S.keep) (hF.code _ S.keep) rfl (hbind s S)
    (fun x hx => by simpa using k4 x hx) (fun x hx => (k5 x.1 (mem x hx)).1) (fun h₀ hn hk => ?_) k1 k2 k3)
  obtain ⟨f1, f2⟩ := S.fresh
  have S1 : St O B G ((s.heap.objs.size, rFr (ps ++ rest) vs) :: v) { s with heap := h₀, toks := s.toks + (ps.zip vals).length } := by
    have S0 := S.extAll hk (s.toks + (ps.zip vals).length)
    refine ⟨S0.keep, fun p hp => ?_, fun p hp => ?_, ?_, S0.gens, S0.os⟩
    · rcases List.mem_cons.mp hp with rfl | hp
      · rw [fromBinds_get (ps.zip vals) (by rw [hfst]; exact k7) (ps ++ rest) (fun x hx => by rw [hfst] at hx; exact List.mem_append_left _ hx), fromBinds_zip ps rest vals k6 hlen, ← hvs] at hn
        obtain ⟨o, e, q⟩ := of_ns hn
        exact ⟨o, e, ⟨k6, by rw [hvs]; simp [hlen]⟩, q⟩
      · exact S0.res p hp
    · rcases List.mem_cons.mp hp with rfl | hp
      · exact f1
      · exact S0.off p hp
    · rw [List.map_cons, List.nodup_cons]
      refine ⟨fun hm => ?_, S0.nd⟩
      obtain ⟨p, hp, e⟩ := List.mem_map.mp hm
      exact f2 p hp e
  refine wpAny_mono (h s.heap.objs.size _ ⟨rfl, rfl, rfl, rfl, rfl, rfl, rfl⟩ _ _ R.deeper S1) (fun fl s' ⟨B', G', v', S', r', v'', hdel, hq⟩ => ?_) fun _ _ x => x.elim
  obtain ⟨j, hj, rfl⟩ := hdel.idx
  have S'' := S'.sub (List.eraseIdx_sublist v' j)
  cases fl <;> exact ⟨_, _, _, S'', hq⟩
end
-- part Rules3
section
variable {prog : Program} {w : World} {O : OsState} {n : Nat} {B : Base} {G : Array GenState} {v : Vol} {env : Env} {α : Type}

/-- what a turn's end does -/
def Turn (prog : Program) (w : World) (O : OsState) (n : Nat) (c : Code) (R : Flow → Base → Array GenState → Vol → Prop) (f : Flow) (B : Base) (G : Array GenState) (v : Vol) : Prop :=
  match f with
  | .next | .cont => OkC prog w O n B G v c R
  | .brk => R .next B G v
  | .ret x => R (.ret x) B G v

end
section
variable (prog : Program) (w : World) (O : OsState) (n : Nat)
abbrev QWh (t : Expr) (b o : List Stmt) (env : Env) (R : Post Flow) : Post Bool := fun c B G v => if c then Ok prog w O n B G v (execs b env) (Turn prog w O n (.whileLoop t b o env) R) else Ok prog w O n B G v (execs o env) R
abbrev QFs2 (t : Expr) (b o : List Stmt) (env : Env) (Q : Post Flow) : Post Value := fun it B G v => OkC prog w O n B G v (.forLoop t it b o env) Q
abbrev QFs (t : Expr) (b o : List Stmt) (env : Env) (Q : Post Flow) : Post Value := fun x B G v => Ok prog w O n B G v (pyIter x) (QFs2 prog w O n t b o env Q)
abbrev QFt3 (t : Expr) (it : Value) (b o : List Stmt) (env : Env) (R : Post Flow) : Post Unit := fun _ B G v => Ok prog w O n B G v (execs b env) (Turn prog w O n (.forLoop t it b o env) R)
abbrev QFt2 (t : Expr) (it x : Value) (b o : List Stmt) (env : Env) (R : Post Flow) : Post Unit := fun _ B G v => Ok prog w O n B G v (assign t env x) (QFt3 prog w O n t it b o env R)
abbrev QFt (t : Expr) (it : Value) (b o : List Stmt) (env : Env) (R : Post Flow) : Post (Option Value) := fun r B G v => match r with
  | none => Ok prog w O n B G v (execs o env) R
  | some x => Ok prog w O n B G v (letOwnedTupleGo t it x) (QFt2 prog w O n t it x b o env R)
abbrev QMeth2 (id : String) (ov : Value) (Q : Post Value) : Post (List Value) := fun vs B G v => Ok prog w O n B G v (call (.builtin id) (ov :: vs)) Q
abbrev QMeth (T id : String) (pos : Pos) (args : List Expr) (env : Env) (Q : Post Value) : Post Value := fun ov B G v => (∀ s, St O B G v s → s.TypeIs ov T ∧ ∀ a, ov = .ref a → ∃ ob, s.heap.get? a = some ob ∧ ob.dict = none) ∧
  Ok prog w O n B G v (spliced (backTo pos (starEach args env))) (QMeth2 prog w O n id ov Q)
end
section
variable {prog : Program} {w : World} {O : OsState} {n : Nat} {B : Base} {G : Array GenState} {v : Vol} {env : Env} {α : Type}

theorem Ok.while_ {t : Expr} {b o : List Stmt} {p : Pos} {Q : Post Flow} (h : OkC prog w O n B G v (.whileLoop t b o env) Q) : Ok prog w O n B G v (exec (.While t b o p) env) Q := fun A s R S =>
  wpAny_While (codeAny_mono (h A s R S) fun r s' x => by
    cases r with
    | ok f => exact x
    | error e => exact x.elim)

theorem OkC.while_turn {t : Expr} {b o : List Stmt} {R : Post Flow}
    (h : Ok prog w O n B G v (isTrue t env (eval t env)) (QWh prog w O n t b o env R)) :
    OkC prog w O n B G v (.whileLoop t b o env) R := fun A s Rm S => by
  refine codeAny_of_tree ?_
  rw [Around.under_of_weight (by rfl) (by rfl)]
  show wpAny _ _ ((whileTurn t b o env).onRaise (fun x => do noteFrame x env; theTreesLotGoes x)) _ _ s
  refine wpAny_noted ?_
  unfold whileTurn
  refine wpAny_bind (Ok.go h Rm S (fun c s1 B1 G1 v1 S1 h1 => ?_))
  cases c with
  | true =>
    show wpAny _ _ (if true = true then _ else _) _ _ s1
    rw [if_pos rfl]
    refine wpAny_bind (Ok.go h1 Rm S1 (fun f s2 B2 G2 v2 S2 h2 => ?_))
    cases f with
    | next => exact wpAny_pure ⟨rfl, h2 A s2 Rm S2⟩
    | cont => exact wpAny_pure ⟨rfl, h2 A s2 Rm S2⟩
    | brk => exact wpAny_pure ⟨_, _, _, S2, h2⟩
    | ret x => exact wpAny_pure ⟨_, _, _, S2, h2⟩
  | false =>
    show wpAny _ _ (if false = true then _ else _) _ _ s1
    rw [if_neg Bool.false_ne_true]
    exact wpAny_bind (Ok.go h1 Rm S1 (fun f s2 B2 G2 v2 S2 h2 => wpAny_pure ⟨_, _, _, S2, h2⟩))

theorem Ok.for_ {t iter : Expr} {b o : List Stmt} {p : Pos} {Q : Post Flow}
    (h : Ok prog w O n B G v (eval iter env) (QFs prog w O n t b o env Q))
    (hs : ∀ x, foldedSetIterable iter env x = pure x := by intro _; rfl) : Ok prog w O n B G v (exec (.For t iter b o p) env) Q := fun A s R S =>
  wpAny_For (Ok.go h R S (fun _ s1 _ _ _ S1 h1 => Ok.go h1 R S1 (fun _ s2 _ _ _ S2 h2 => codeAny_mono (h2 A s2 R S2) fun r s' x => by
    cases r with
    | ok f => exact x
    | error e => exact x.elim))) hs

theorem OkC.for_turn {t : Expr} {it : Value} {b o : List Stmt} {R : Post Flow}
    (h : Ok prog w O n B G v (pyNext it) (QFt prog w O n t it b o env R)) :
    OkC prog w O n B G v (.forLoop t it b o env) R := fun A s Rm S => by
  refine codeAny_of_tree ?_
  rw [Around.under_of_weight (by rfl) (by rfl)]
  show wpAny _ _ ((forTurn t it b o env).onRaise (fun x => do noteFrame x env; theTreesLotGoes x)) _ _ s
  refine wpAny_noted ?_
  simp only [forTurn]
  refine wpAny_bind (wpAny_standAt (wpAny_bind (wpAny_onRaise (Ok.go h Rm S (fun r s1 B1 G1 v1 S1 h1 => ?_)))))
  cases r with
  | none => exact wpAny_pure ⟨rfl, codeAny_block (wpAny_mono (h1 A s1 Rm S1) (fun f s2 x => x) fun _ _ x => x.elim)⟩
  | some x =>
    refine wpAny_bind (Ok.go h1 Rm S1 (fun _ s2 B2 G2 v2 S2 h2 => ?_))
    refine wpAny_bind (Ok.go h2 Rm S2 (fun _ s3 B3 G3 v3 S3 h3 => ?_))
    refine wpAny_bind (Ok.go h3 Rm S3 (fun f s4 B4 G4 v4 S4 h4 => ?_))
    cases f with
    | next => exact wpAny_pure ⟨rfl, h4 A s4 Rm S4⟩
    | cont => exact wpAny_pure ⟨rfl, h4 A s4 Rm S4⟩
    | brk => exact wpAny_pure ⟨_, _, _, S4, h4⟩
    | ret x => exact wpAny_pure ⟨_, _, _, S4, h4⟩

/-- the target is a name: nothing to let go -/
theorem Ok.own_name {x : Str} {p : Pos} {it u : Value} {Q : Post Unit} (h : Q () B G v) : Ok prog w O n B G v (letOwnedTupleGo (.Name x p) it u) Q := fun A s R S => wpAny_pure ⟨B, G, v, S, h⟩
theorem Ok.assign_name {x : Str} {p : Pos} {u : Value} {Q : Post Unit} (h : Ok prog w O n B G v (storeName env x u) Q) : Ok prog w O n B G v (assign (.Name x p) env u) Q := fun A s R S => wpAny_assign_Name (h A s R S)

/-! ### a list's and a tuple's iterator -/
abbrev rLit (l : Addr) (i : Nat) : Res := rFields "list_iterator" [.ref l, .int i 0]
abbrev rTit (l : Addr) (i : Nat) : Res := rFields "tuple_iterator" [.ref l, .int i 0]
theorem Ok.iter_list {l : Addr} {xs : List Value} {Q : Post Value} (hl : LstAt B v l xs) (h : ∀ I, Q (.ref I) B G ((I, rLit l 0) :: v)) : Ok prog w O n B G v (pyIter (.ref l)) Q := fun A s R S =>
  wpAny_pyIter_list (isList_of (hl.at S)) ⟨B, G, _, S.push ({ cls := .type "list_iterator", data := .fields #[.ref l, .int 0 0] } : Obj) rfl ⟨rfl, rfl⟩ _, h _⟩
theorem Ok.next_list {I l : Addr} {i : Nat} {xs : List Value} {x : Value} {v' : Vol} {Q : Post (Option Value)} (hu : Upd v I (rLit l i) (rLit l (i + 1)) v') (hl : LstAt B v l xs) (hx : xs[i]? = some x) (h : Q (some x) B G v') :
    Ok prog w O n B G v (pyNext (.ref I)) Q := fun A s R S => by
  obtain ⟨o, e1, e2, e3⟩ := S.has hu.has
  exact wpAny_pyNext_list_item (i := i) ⟨o, e1, e2, e3⟩ (isList_of (hl.at S)) (by simpa using hx) fun h' ⟨o', f1, f2, f3⟩ hs => ⟨B, G, v', S.turn hu hs ⟨o', f1, f2, f3⟩ _, h⟩
theorem Ok.next_list_end {I l : Addr} {i : Nat} {xs : List Value} {v' : Vol} {Q : Post (Option Value)} (hu : Del v I (rLit l i) v') (hl : LstAt B v l xs) (hx : xs[i]? = none) (h : Q none B G v') :
    Ok prog w O n B G v (pyNext (.ref I)) Q := fun A s R S => by
  obtain ⟨j, hj, _⟩ := hu.idx
  obtain ⟨o, e1, e2, e3⟩ := S.get hj
  exact wpAny_pyNext_list_end (i := i) R.handled ⟨o, e1, e2, e3⟩ (isList_of (hl.at S)) (by simpa using hx) fun h' hs => ⟨B, G, v', S.gone hu hs _, h⟩
theorem Ok.iter_tup {l : Addr} {xs : List Value} {Q : Post Value} (hl : tupB B l xs) (h : ∀ I, Q (.ref I) B G ((I, rTit l 0) :: v)) : Ok prog w O n B G v (pyIter (.ref l)) Q := fun A s R S =>
  wpAny_pyIter_tuple (isTuple_of (SeqAt.at (v := v) (.inr hl) S)) ⟨B, G, _, S.push ({ cls := .type "tuple_iterator", data := .fields #[.ref l, .int 0 0] } : Obj) rfl ⟨rfl, rfl⟩ _, h _⟩
theorem Ok.next_tup {I l : Addr} {i : Nat} {xs : List Value} {x : Value} {v' : Vol} {Q : Post (Option Value)} (hu : Upd v I (rTit l i) (rTit l (i + 1)) v') (hl : tupB B l xs) (hx : xs[i]? = some x) (h : Q (some x) B G v') :
    Ok prog w O n B G v (pyNext (.ref I)) Q := fun A s R S => by
  obtain ⟨o, e1, e2, e3⟩ := S.has hu.has
  exact wpAny_pyNext_tuple_item (i := i) ⟨o, e1, e2, e3⟩ (isTuple_of (SeqAt.at (v := v) (.inr hl) S)) (by simpa using hx) fun h' ⟨o', f1, f2, f3⟩ hs => ⟨B, G, v', S.turn hu hs ⟨o', f1, f2, f3⟩ _, h⟩
theorem Ok.next_tup_end {I l : Addr} {i : Nat} {xs : List Value} {v' : Vol} {Q : Post (Option Value)} (hu : Del v I (rTit l i) v') (hl : tupB B l xs) (hx : xs[i]? = none) (h : Q none B G v') :
    Ok prog w O n B G v (pyNext (.ref I)) Q := fun A s R S => by
  obtain ⟨j, hj, _⟩ := hu.idx
  obtain ⟨o, e1, e2, e3⟩ := S.get hj
  exact wpAny_pyNext_tuple_end (i := i) R.handled ⟨o, e1, e2, e3⟩ (isTuple_of (SeqAt.at (v := v) (.inr hl) S)) (by simpa using hx) fun h' hs => ⟨B, G, v', S.gone hu hs _, h⟩

/-! ### methods -/
theorem Ok.method {o : Expr} {name : Str} {apos pos : Pos} {args : List Expr} {T id : String} {Q : Post Value} (pa : PlainAttrs T) (slot : Slot T name id) (hty : typeOf (.builtin id) = pure (.type "method_descriptor"))
    (hbase : attributeBase o name env (eval o env) = eval o env)
    (hfew : ((backTo pos (starEach args env)).all (fun x => !x.1) && (backToKw pos (keywordEach [] env)).all (fun x => x.1.isSome)
      && decide (args.length + ([] : List Keyword).length + (if ([] : List Keyword).isEmpty then 0 else 1) < 30)) = true)
    (hline : (apos.endLine == pos.line) = true) (hp : (backTo pos (starEach args env)).any (·.1) = false)
    (h : Ok prog w O n B G v (eval o env) (QMeth prog w O n T id pos args env Q)) :
    Ok prog w O n B G v (eval (.Call (.Attribute o name apos) args [] pos) env) Q := fun A s R S =>
  wpAny_Call_method_late hbase hfew hline rfl (wpAny_mono (h A s R S) (fun ov s1 ⟨_, _, _, S1, ht, h1⟩ => by
    obtain ⟨t1, t2⟩ := ht s1 S1
    refine ⟨T, id, pa, slot, hty, t1, t2, callWith_val (first := [ov]) rfl hp (evalArgs_list hp ?_)⟩
    exact Ok.go h1 R S1 (fun vs s2 _ _ _ S2 h2 => h2 A s2 R S2)) fun _ _ x => x)

theorem upd_seq {h : Heap} {a : Addr} {xs : List Value} {k : Nat} {T : String} (f : Array Value → Array Value) (ys : List Value) (e : h.get? a = some { cls := .type T, data := .seq xs.toArray k }) (hy : f xs.toArray = ys.toArray) :
    ∃ o, (h.update a (Obj.mapSeq f)).get? a = some o ∧ rSeq T ys o := by
  refine ⟨_, Heap.get?_update_self _ e ?_, ?_⟩
  · exact Obj.isFreed_of_seq (xs := f xs.toArray) (n := if (f xs.toArray).size == xs.toArray.size then k else k + 1) rfl
  · refine ⟨if (f xs.toArray).size == xs.toArray.size then k else k + 1, ?_⟩
    show ({ cls := .type T, data := .seq (f xs.toArray) _ } : Obj) = _
    rw [hy]

theorem Ok.list_append {l : Addr} {xs : List Value} {x : Value} {v' : Vol} {Q : Post Value} (hu : Upd v l (rList xs) (rList (xs ++ [x])) v') (hz : xs.length ≤ sizeLine) (h : Q .none B G v') :
    Ok prog w O n B G v (call (.builtin "list.append") [.ref l, x]) Q := fun A s R S => by
  obtain ⟨o, e1, k, rfl⟩ := S.has hu.has
  refine call_meets slot_list_append ⟨_, e1, rfl⟩ entry_list_append (args_list_append _ _) (PySem.AutoListH.list_append_list_val_0 l xs.toArray k x (by simpa using hz)) ⟨e1, ?_⟩
  exact ⟨B, G, v', S.turn hu (Heap.SameBut.update ..) (upd_seq _ _ e1 (by simp)) _, h⟩
theorem Ok.list_insert {l : Addr} {xs : List Value} {x : Value} {k : Int} {u : Tok} {v' : Vol} {Q : Post Value} (hk : 0 ≤ k) (hl : k.toNat ≤ xs.length) (hu : Upd v l (rList xs) (rList (xs.take k.toNat ++ x :: xs.drop k.toNat)) v') (hz : xs.length ≤ sizeLine) (h : Q .none B G v') :
    Ok prog w O n B G v (call (.builtin "list.insert") [.ref l, .int k u, x]) Q := fun A s R S => by
  obtain ⟨o, e1, m, rfl⟩ := S.has hu.has
  have hfit : ¬ (!Builtin.List.listFitsIndex k) = true := by
    have : k < 2 ^ 63 := by
      have : (2 : Nat) ^ 24 < 2 ^ 63 := by decide
      have h2 : sizeLine = 2 ^ 24 := rfl
      (first | lia | omega)
    unfold Builtin.List.listFitsIndex
    simp only [Bool.not_eq_true', Bool.not_eq_false, Bool.and_eq_true, decide_eq_true_eq]
    (first | lia | omega)
  refine call_meets PySem.F.slot_list_insert ⟨_, e1, rfl⟩ PySem.F.entry_list_insert (PySem.F.args_list_insert_3 _ _ _) (PySem.AutoListH.list_insert_list_int_val_1 l xs.toArray m k u x hfit (by simpa using hz)) ⟨e1, ?_⟩
  refine ⟨B, G, v', S.turn hu (Heap.SameBut.update ..) (upd_seq _ _ e1 ?_) _, h⟩
  have e : (if k < 0 then (k + ((xs.toArray.size : Nat) : Int)).toNat else min k.toNat xs.toArray.size) = k.toNat := by
    rw [if_neg (by first | lia | omega), List.size_toArray]; (first | lia | omega)
  show (xs.toArray.extract 0 (if k < 0 then (k + ((xs.toArray.size : Nat) : Int)).toNat else min k.toNat xs.toArray.size)).push x ++ xs.toArray.extract (if k < 0 then (k + ((xs.toArray.size : Nat) : Int)).toNat else min k.toNat xs.toArray.size) = _
  rw [e]
  apply Array.toList_inj.mp
  simp
  exact List.take_of_length_le (by simp)
theorem Ok.list_reverse {l : Addr} {xs : List Value} {v' : Vol} {Q : Post Value} (hu : Upd v l (rList xs) (rList xs.reverse) v') (hz : xs.length ≤ sizeLine) (h : Q .none B G v') :
    Ok prog w O n B G v (call (.builtin "list.reverse") [.ref l]) Q := fun A s R S => by
  obtain ⟨o, e1, m, rfl⟩ := S.has hu.has
  refine call_meets PySem.F.slot_list_reverse ⟨_, e1, rfl⟩ PySem.F.entry_list_reverse (PySem.F.args_list_reverse_1 _) (PySem.AutoListH.list_reverse_list_0 l xs.toArray m (by simpa using hz)) ⟨e1, ?_⟩
  exact ⟨B, G, v', S.turn hu (Heap.SameBut.update ..) (upd_seq _ _ e1 (by simp)) _, h⟩
end
-- part Tacs
/-- two lists, item by item -/
inductive All2 {α β : Type} (R : α → β → Prop) : List α → List β → Prop
  | nil : All2 R [] []
  | cons {a b as bs} : R a b → All2 R as bs → All2 R (a :: as) (b :: bs)
namespace All2
variable {α β : Type} {R R' : α → β → Prop} {as as' : List α} {bs bs' : List β}
theorem length (h : All2 R as bs) : as.length = bs.length := by
  induction h with
  | nil => rfl
  | cons _ _ ih => simp [ih]
theorem imp (h : All2 R as bs) (k : ∀ a b, R a b → R' a b) : All2 R' as bs := by
  induction h with
  | nil => exact .nil
  | cons h _ ih => exact .cons (k _ _ h) ih
theorem app (h : All2 R as bs) (h' : All2 R as' bs') : All2 R (as ++ as') (bs ++ bs') := by
  induction h with
  | nil => exact h'
  | cons h _ ih => exact .cons h ih
theorem get (h : All2 R as bs) {i : Nat} {b : β} (hb : bs[i]? = some b) : ∃ a, as[i]? = some a ∧ R a b := by
  induction h generalizing i with
  | nil => simp at hb
  | cons h _ ih =>
    cases i with
    | zero => exact ⟨_, rfl, by simp at hb; exact hb ▸ h⟩
    | succ i => simpa using ih (i := i) (by simpa using hb)
theorem get' (h : All2 R as bs) {i : Nat} {a : α} (ha : as[i]? = some a) : ∃ b, bs[i]? = some b ∧ R a b := by
  induction h generalizing i with
  | nil => simp at ha
  | cons h _ ih =>
    cases i with
    | zero => exact ⟨_, rfl, by simp at ha; exact ha ▸ h⟩
    | succ i => simpa using ih (i := i) (by simpa using ha)
theorem take (h : All2 R as bs) (k : Nat) : All2 R (as.take k) (bs.take k) := by
  induction h generalizing k with
  | nil => simp; exact .nil
  | cons h _ ih =>
    cases k with
    | zero => exact .nil
    | succ k => exact .cons h (ih k)
theorem drop (h : All2 R as bs) (k : Nat) : All2 R (as.drop k) (bs.drop k) := by
  induction h generalizing k with
  | nil => simp; exact .nil
  | cons h t ih =>
    cases k with
    | zero => exact .cons h t
    | succ k => exact ih k
theorem snoc {a : α} {b : β} (h : All2 R as bs) (r : R a b) : All2 R (as ++ [a]) (bs ++ [b]) := h.app (.cons r .nil)
theorem rev (h : All2 R as bs) : All2 R as.reverse bs.reverse := by
  induction h with
  | nil => exact .nil
  | cons h _ ih => rw [List.reverse_cons, List.reverse_cons]; exact ih.snoc h
end All2
-- part TopF
abbrev topTab : List (Str × Value) := [("len", .builtin "len"), ("sum", .builtin "sum"), ("range", .type "range"), ("enumerate", .type "enumerate"), ("zip", .type "zip"), ("sorted", .builtin "sorted"), ("list", .type "list"),
  ("tuple", .type "tuple"), ("reversed", .type "reversed"), ("divmod", .builtin "divmod"), ("insort_right", .ref 23), ("bisect_right", .ref 32), ("insort_left", .ref 41), ("bisect_left", .ref 50), ("_div2n1n", .ref 57),
  ("_int2digits", .ref 71), ("_digits2int", .ref 78), ("_divmod_pos", .ref 85), ("int_divmod", .ref 92), ("_iter_escaped_chars", .ref 99), ("_strip_quoted_realnames", .ref 106), ("_check_parenthesis", .ref 113),
  ("_law_first", .ref 120), ("_law_orders", .ref 125), ("_law_swept", .ref 132)]

inductive HasT : List (Str × Value) → Str → Value → Prop
  | here {x u r} : HasT ((x, u) :: r) x u
  | there {p r x u} : HasT r x u → HasT (p :: r) x u
theorem HasT.mem {l x u} (h : HasT l x u) : (x, u) ∈ l := by
  induction h with
  | here => exact List.mem_cons_self
  | there _ ih => exact List.mem_cons_of_mem _ ih

/-- the defaults of the four that have some: 0 and None; key=None -/
structure Dfl (B : Base) (d k : Addr) : Prop where
  pos : ∃ o t m, B d = some o ∧ o.data = .seq #[.int 0 t, .none] m
  kw : Stb B fun h => ∃ m, h.Ns k m ∧ m "key" = some .none
theorem Dfl.mono {B B' d k} (h : Dfl B d k) (x : BLe B B') : Dfl B' d k := ⟨let ⟨o, t, m, e, r⟩ := h.pos; ⟨o, t, m, x _ _ e, r⟩, h.kw.mono x⟩

structure TopB (B : Base) : Prop where
  glob : ∀ p ∈ topTab, Stb B (GlobIs p.1 p.2)
  divLim : ∃ t, Stb B (GlobIs "_DIV_LIMIT" (.int 4000 t))
  dfl1 : Dfl B 15 16
  dfl2 : Dfl B 24 25
  dfl3 : Dfl B 33 34
  dfl4 : Dfl B 42 43
  f1 : ∃ r, Fn B 23 1 (.ref 15) (.ref 16) r
  f2 : ∃ r, Fn B 32 2 (.ref 24) (.ref 25) r
  f3 : ∃ r, Fn B 41 3 (.ref 33) (.ref 34) r
  f4 : ∃ r, Fn B 50 4 (.ref 42) (.ref 43) r
  f7 : ∃ r, Fn B 57 7 .none .none r
  f9 : ∃ r, Fn B 71 9 .none .none r ∧ r.cd = .ref 70
  f10 : ∃ r, Fn B 78 10 .none .none r ∧ r.cd = .ref 77
  f11 : ∃ r, Fn B 85 11 .none .none r
  f12 : ∃ r, Fn B 92 12 .none .none r
  f14 : ∃ r, Fn B 99 14 .none .none r
  f15 : ∃ r, Fn B 106 15 .none .none r
  f16 : ∃ r, Fn B 113 16 .none .none r
  f18 : ∃ r, Fn B 120 18 .none .none r
  f19 : ∃ r, Fn B 125 19 .none .none r
  f20 : ∃ r, Fn B 132 20 .none .none r
theorem TopB.mono {B B'} (h : TopB B) (x : BLe B B') : TopB B' where
  glob := fun p hp => (h.glob p hp).mono x
  divLim := let ⟨t, e⟩ := h.divLim; ⟨t, e.mono x⟩
  dfl1 := h.dfl1.mono x
  dfl2 := h.dfl2.mono x
  dfl3 := h.dfl3.mono x
  dfl4 := h.dfl4.mono x
  f1 := let ⟨r, e⟩ := h.f1; ⟨r, e.mono x⟩
  f2 := let ⟨r, e⟩ := h.f2; ⟨r, e.mono x⟩
  f3 := let ⟨r, e⟩ := h.f3; ⟨r, e.mono x⟩
  f4 := let ⟨r, e⟩ := h.f4; ⟨r, e.mono x⟩
  f7 := let ⟨r, e⟩ := h.f7; ⟨r, e.mono x⟩
  f9 := let ⟨r, e, q⟩ := h.f9; ⟨r, e.mono x, q⟩
  f10 := let ⟨r, e, q⟩ := h.f10; ⟨r, e.mono x, q⟩
  f11 := let ⟨r, e⟩ := h.f11; ⟨r, e.mono x⟩
  f12 := let ⟨r, e⟩ := h.f12; ⟨r, e.mono x⟩
  f14 := let ⟨r, e⟩ := h.f14; ⟨r, e.mono x⟩
  f15 := let ⟨r, e⟩ := h.f15; ⟨r, e.mono x⟩
  f16 := let ⟨r, e⟩ := h.f16; ⟨r, e.mono x⟩
  f18 := let ⟨r, e⟩ := h.f18; ⟨r, e.mono x⟩
  f19 := let ⟨r, e⟩ := h.f19; ⟨r, e.mono x⟩
  f20 := let ⟨r, e⟩ := h.f20; ⟨r, e.mono x⟩

section
variable {prog : Program} {w : World} {O : OsState} {n : Nat} {B : Base} {G : Array GenState} {v : Vol} {env : Env} {L : Addr} {ns gl : List Str} {cs fs : List (Str × Addr)}
theorem Ok.name_top {x : Str} {p : Pos} {u : Value} {Q : Post Value} (hE : EnvIs env L ns gl cs fs) (hg : HasN gl x) (hT : TopB B) (ht : HasT topTab x u) (h : Q u B G v) :
    Ok prog w O n B G v (eval (.Name x p) env) Q := Ok.name_glob hE hg (hT.glob _ ht.mem) h
end

section
variable {prog : Program} {w : World} {O : OsState} {n : Nat} {B : Base} {G : Array GenState} {v : Vol}
theorem OkC.ind {c : Code} {R : Post Flow} (I : Nat → Base → Array GenState → Vol → Prop)
    (step : ∀ k B G v, I k B G v → (∀ j B' G' v', j < k → I j B' G' v' → OkC prog w O n B' G' v' c R) → OkC prog w O n B G v c R) (k : Nat) (h : I k B G v) : OkC prog w O n B G v c R := by
  induction k using Nat.strongRecOn generalizing B G v with
  | ind k ih => exact step k B G v h fun j B' G' v' hj hi => ih j hj hi
theorem OkC.lpG {α : Type} {c : Code} {R : Post Flow} (m : α → Nat) (st : α → Vol) (P : α → Base → Prop)
    (step : ∀ a B, P a B → (∀ b B', m b < m a → P b B' → OkC prog w O n B' G (st b) c R) → OkC prog w O n B G (st a) c R) : ∀ (k : Nat) (a : α) (B : Base), m a = k → P a B → OkC prog w O n B G (st a) c R := fun k => by
  induction k using Nat.strongRecOn with
  | ind k ih => exact fun a B e p => step a B p fun b B' hj hp => ih (m b) (e ▸ hj) b B' rfl hp
theorem OkC.lpB3 {α0 α1 α2 : Type} {c : Code} {R : Post Flow} (m : α0 → α1 → α2 → Nat) (st : α0 → α1 → α2 → Vol) (P : α0 → α1 → α2 → Prop)
    (step : ∀ a0 a1 a2, P a0 a1 a2 → (∀ b0 b1 b2, m b0 b1 b2 < m a0 a1 a2 → P b0 b1 b2 → OkC prog w O n B G (st b0 b1 b2) c R) → OkC prog w O n B G (st a0 a1 a2) c R) (a0 : α0) (a1 : α1) (a2 : α2) (h : P a0 a1 a2) : OkC prog w O n B G (st a0 a1 a2) c R :=
  OkC.lpG (α := α0 × α1 × α2) (fun x => m x.1 x.2.1 x.2.2) (fun x => st x.1 x.2.1 x.2.2) (fun x B' => B' = B ∧ P x.1 x.2.1 x.2.2) (fun x B' p ih => by
    obtain ⟨e, p⟩ := p
    rw [e]
    exact step x.1 x.2.1 x.2.2 p fun b0 b1 b2 hj hp => ih (b0, b1, b2) B hj ⟨rfl, hp⟩) _ (a0, a1, a2) B rfl ⟨rfl, h⟩
theorem OkC.lpB4 {α0 α1 α2 α3 : Type} {c : Code} {R : Post Flow} (m : α0 → α1 → α2 → α3 → Nat) (st : α0 → α1 → α2 → α3 → Vol) (P : α0 → α1 → α2 → α3 → Prop)
    (step : ∀ a0 a1 a2 a3, P a0 a1 a2 a3 → (∀ b0 b1 b2 b3, m b0 b1 b2 b3 < m a0 a1 a2 a3 → P b0 b1 b2 b3 → OkC prog w O n B G (st b0 b1 b2 b3) c R) → OkC prog w O n B G (st a0 a1 a2 a3) c R) (a0 : α0) (a1 : α1) (a2 : α2) (a3 : α3) (h : P a0 a1 a2 a3) : OkC prog w O n B G (st a0 a1 a2 a3) c R :=
  OkC.lpG (α := α0 × α1 × α2 × α3) (fun x => m x.1 x.2.1 x.2.2.1 x.2.2.2) (fun x => st x.1 x.2.1 x.2.2.1 x.2.2.2) (fun x B' => B' = B ∧ P x.1 x.2.1 x.2.2.1 x.2.2.2) (fun x B' p ih => by
    obtain ⟨e, p⟩ := p
    rw [e]
    exact step x.1 x.2.1 x.2.2.1 x.2.2.2 p fun b0 b1 b2 b3 hj hp => ih (b0, b1, b2, b3) B hj ⟨rfl, hp⟩) _ (a0, a1, a2, a3) B rfl ⟨rfl, h⟩
theorem OkC.lpB5 {α0 α1 α2 α3 α4 : Type} {c : Code} {R : Post Flow} (m : α0 → α1 → α2 → α3 → α4 → Nat) (st : α0 → α1 → α2 → α3 → α4 → Vol) (P : α0 → α1 → α2 → α3 → α4 → Prop)
    (step : ∀ a0 a1 a2 a3 a4, P a0 a1 a2 a3 a4 → (∀ b0 b1 b2 b3 b4, m b0 b1 b2 b3 b4 < m a0 a1 a2 a3 a4 → P b0 b1 b2 b3 b4 → OkC prog w O n B G (st b0 b1 b2 b3 b4) c R) → OkC prog w O n B G (st a0 a1 a2 a3 a4) c R) (a0 : α0) (a1 : α1) (a2 : α2) (a3 : α3) (a4 : α4) (h : P a0 a1 a2 a3 a4) : OkC prog w O n B G (st a0 a1 a2 a3 a4) c R :=
  OkC.lpG (α := α0 × α1 × α2 × α3 × α4) (fun x => m x.1 x.2.1 x.2.2.1 x.2.2.2.1 x.2.2.2.2) (fun x => st x.1 x.2.1 x.2.2.1 x.2.2.2.1 x.2.2.2.2) (fun x B' => B' = B ∧ P x.1 x.2.1 x.2.2.1 x.2.2.2.1 x.2.2.2.2) (fun x B' p ih => by
    obtain ⟨e, p⟩ := p
    rw [e]
    exact step x.1 x.2.1 x.2.2.1 x.2.2.2.1 x.2.2.2.2 p fun b0 b1 b2 b3 b4 hj hp => ih (b0, b1, b2, b3, b4) B hj ⟨rfl, hp⟩) _ (a0, a1, a2, a3, a4) B rfl ⟨rfl, h⟩
theorem OkC.lpG2 {α0 α1 : Type} {c : Code} {R : Post Flow} (m : α0 → α1 → Nat) (st : α0 → α1 → Vol) (P : α0 → α1 → Base → Prop)
    (step : ∀ a0 a1 B, P a0 a1 B → (∀ b0 b1 B', m b0 b1 < m a0 a1 → P b0 b1 B' → OkC prog w O n B' G (st b0 b1) c R) → OkC prog w O n B G (st a0 a1) c R) (a0 : α0) (a1 : α1) (h : P a0 a1 B) : OkC prog w O n B G (st a0 a1) c R :=
  OkC.lpG (α := α0 × α1) (fun x => m x.1 x.2) (fun x => st x.1 x.2) (fun x => P x.1 x.2) (fun x B p ih => step x.1 x.2 B p fun b0 b1 B' hj hp => ih (b0, b1) B' hj hp) _ (a0, a1) B rfl h
theorem OkC.lpG3 {α0 α1 α2 : Type} {c : Code} {R : Post Flow} (m : α0 → α1 → α2 → Nat) (st : α0 → α1 → α2 → Vol) (P : α0 → α1 → α2 → Base → Prop)
    (step : ∀ a0 a1 a2 B, P a0 a1 a2 B → (∀ b0 b1 b2 B', m b0 b1 b2 < m a0 a1 a2 → P b0 b1 b2 B' → OkC prog w O n B' G (st b0 b1 b2) c R) → OkC prog w O n B G (st a0 a1 a2) c R) (a0 : α0) (a1 : α1) (a2 : α2) (h : P a0 a1 a2 B) : OkC prog w O n B G (st a0 a1 a2) c R :=
  OkC.lpG (α := α0 × α1 × α2) (fun x => m x.1 x.2.1 x.2.2) (fun x => st x.1 x.2.1 x.2.2) (fun x => P x.1 x.2.1 x.2.2) (fun x B p ih => step x.1 x.2.1 x.2.2 B p fun b0 b1 b2 B' hj hp => ih (b0, b1, b2) B' hj hp) _ (a0, a1, a2) B rfl h
theorem OkC.lpG4 {α0 α1 α2 α3 : Type} {c : Code} {R : Post Flow} (m : α0 → α1 → α2 → α3 → Nat) (st : α0 → α1 → α2 → α3 → Vol) (P : α0 → α1 → α2 → α3 → Base → Prop)
    (step : ∀ a0 a1 a2 a3 B, P a0 a1 a2 a3 B → (∀ b0 b1 b2 b3 B', m b0 b1 b2 b3 < m a0 a1 a2 a3 → P b0 b1 b2 b3 B' → OkC prog w O n B' G (st b0 b1 b2 b3) c R) → OkC prog w O n B G (st a0 a1 a2 a3) c R) (a0 : α0) (a1 : α1) (a2 : α2) (a3 : α3) (h : P a0 a1 a2 a3 B) : OkC prog w O n B G (st a0 a1 a2 a3) c R :=
  OkC.lpG (α := α0 × α1 × α2 × α3) (fun x => m x.1 x.2.1 x.2.2.1 x.2.2.2) (fun x => st x.1 x.2.1 x.2.2.1 x.2.2.2) (fun x => P x.1 x.2.1 x.2.2.1 x.2.2.2) (fun x B p ih => step x.1 x.2.1 x.2.2.1 x.2.2.2 B p fun b0 b1 b2 b3 B' hj hp => ih (b0, b1, b2, b3) B' hj hp) _ (a0, a1, a2, a3) B rfl h
theorem OkC.lpG5 {α0 α1 α2 α3 α4 : Type} {c : Code} {R : Post Flow} (m : α0 → α1 → α2 → α3 → α4 → Nat) (st : α0 → α1 → α2 → α3 → α4 → Vol) (P : α0 → α1 → α2 → α3 → α4 → Base → Prop)
    (step : ∀ a0 a1 a2 a3 a4 B, P a0 a1 a2 a3 a4 B → (∀ b0 b1 b2 b3 b4 B', m b0 b1 b2 b3 b4 < m a0 a1 a2 a3 a4 → P b0 b1 b2 b3 b4 B' → OkC prog w O n B' G (st b0 b1 b2 b3 b4) c R) → OkC prog w O n B G (st a0 a1 a2 a3 a4) c R) (a0 : α0) (a1 : α1) (a2 : α2) (a3 : α3) (a4 : α4) (h : P a0 a1 a2 a3 a4 B) : OkC prog w O n B G (st a0 a1 a2 a3 a4) c R :=
  OkC.lpG (α := α0 × α1 × α2 × α3 × α4) (fun x => m x.1 x.2.1 x.2.2.1 x.2.2.2.1 x.2.2.2.2) (fun x => st x.1 x.2.1 x.2.2.1 x.2.2.2.1 x.2.2.2.2) (fun x => P x.1 x.2.1 x.2.2.1 x.2.2.2.1 x.2.2.2.2) (fun x B p ih => step x.1 x.2.1 x.2.2.1 x.2.2.2.1 x.2.2.2.2 B p fun b0 b1 b2 b3 b4 B' hj hp => ih (b0, b1, b2, b3, b4) B' hj hp) _ (a0, a1, a2, a3, a4) B rfl h
theorem OkC.lpG6 {α0 α1 α2 α3 α4 α5 : Type} {c : Code} {R : Post Flow} (m : α0 → α1 → α2 → α3 → α4 → α5 → Nat) (st : α0 → α1 → α2 → α3 → α4 → α5 → Vol) (P : α0 → α1 → α2 → α3 → α4 → α5 → Base → Prop)
    (step : ∀ a0 a1 a2 a3 a4 a5 B, P a0 a1 a2 a3 a4 a5 B → (∀ b0 b1 b2 b3 b4 b5 B', m b0 b1 b2 b3 b4 b5 < m a0 a1 a2 a3 a4 a5 → P b0 b1 b2 b3 b4 b5 B' → OkC prog w O n B' G (st b0 b1 b2 b3 b4 b5) c R) → OkC prog w O n B G (st a0 a1 a2 a3 a4 a5) c R) (a0 : α0) (a1 : α1) (a2 : α2) (a3 : α3) (a4 : α4) (a5 : α5) (h : P a0 a1 a2 a3 a4 a5 B) : OkC prog w O n B G (st a0 a1 a2 a3 a4 a5) c R :=
  OkC.lpG (α := α0 × α1 × α2 × α3 × α4 × α5) (fun x => m x.1 x.2.1 x.2.2.1 x.2.2.2.1 x.2.2.2.2.1 x.2.2.2.2.2) (fun x => st x.1 x.2.1 x.2.2.1 x.2.2.2.1 x.2.2.2.2.1 x.2.2.2.2.2) (fun x => P x.1 x.2.1 x.2.2.1 x.2.2.2.1 x.2.2.2.2.1 x.2.2.2.2.2) (fun x B p ih => step x.1 x.2.1 x.2.2.1 x.2.2.2.1 x.2.2.2.2.1 x.2.2.2.2.2 B p fun b0 b1 b2 b3 b4 b5 B' hj hp => ih (b0, b1, b2, b3, b4, b5) B' hj hp) _ (a0, a1, a2, a3, a4, a5) B rfl h
theorem OkC.lpG7 {α0 α1 α2 α3 α4 α5 α6 : Type} {c : Code} {R : Post Flow} (m : α0 → α1 → α2 → α3 → α4 → α5 → α6 → Nat) (st : α0 → α1 → α2 → α3 → α4 → α5 → α6 → Vol) (P : α0 → α1 → α2 → α3 → α4 → α5 → α6 → Base → Prop)
    (step : ∀ a0 a1 a2 a3 a4 a5 a6 B, P a0 a1 a2 a3 a4 a5 a6 B → (∀ b0 b1 b2 b3 b4 b5 b6 B', m b0 b1 b2 b3 b4 b5 b6 < m a0 a1 a2 a3 a4 a5 a6 → P b0 b1 b2 b3 b4 b5 b6 B' → OkC prog w O n B' G (st b0 b1 b2 b3 b4 b5 b6) c R) → OkC prog w O n B G (st a0 a1 a2 a3 a4 a5 a6) c R) (a0 : α0) (a1 : α1) (a2 : α2) (a3 : α3) (a4 : α4) (a5 : α5) (a6 : α6) (h : P a0 a1 a2 a3 a4 a5 a6 B) : OkC prog w O n B G (st a0 a1 a2 a3 a4 a5 a6) c R :=
  OkC.lpG (α := α0 × α1 × α2 × α3 × α4 × α5 × α6) (fun x => m x.1 x.2.1 x.2.2.1 x.2.2.2.1 x.2.2.2.2.1 x.2.2.2.2.2.1 x.2.2.2.2.2.2) (fun x => st x.1 x.2.1 x.2.2.1 x.2.2.2.1 x.2.2.2.2.1 x.2.2.2.2.2.1 x.2.2.2.2.2.2) (fun x => P x.1 x.2.1 x.2.2.1 x.2.2.2.1 x.2.2.2.2.1 x.2.2.2.2.2.1 x.2.2.2.2.2.2) (fun x B p ih => step x.1 x.2.1 x.2.2.1 x.2.2.2.1 x.2.2.2.2.1 x.2.2.2.2.2.1 x.2.2.2.2.2.2 B p fun b0 b1 b2 b3 b4 b5 b6 B' hj hp => ih (b0, b1, b2, b3, b4, b5, b6) B' hj hp) _ (a0, a1, a2, a3, a4, a5, a6) B rfl h
theorem Turn.next {c : Code} {R : Post Flow} (h : OkC prog w O n B G v c R) : Turn prog w O n c R .next B G v := h
theorem Turn.ret {c : Code} {R : Post Flow} {x : Value} (h : R (.ret x) B G v) : Turn prog w O n c R (.ret x) B G v := h
end
theorem lt_sub {i n : Nat} (h : i < n) : n - (i + 1) < n - i := by (first | lia | omega)
theorem s63 {k m : Nat} (h : k < m) (hm : Nat.ble m 1000000 = true) : (k : Int) < 2 ^ 63 := by have := Nat.le_of_ble_eq_true hm; (first | lia | omega)
theorem lt_len {a n b : Nat} (e : b = n) (h : a < n) : a < b := e ▸ h
theorem if_t {c : Bool} {P Q : Prop} (h : c = true) (p : P) : if c = true then P else Q := by rw [if_pos h]; exact p
theorem if_f {c : Bool} {P Q : Prop} (h : c = false) (q : Q) : if c = true then P else Q := by rw [if_neg (by rw [h]; exact Bool.false_ne_true)]; exact q
theorem if_dt {p : Prop} [Decidable p] {P Q : Prop} (h : p) (x : P) : if decide p = true then P else Q := if_t (decide_eq_true h) x
theorem if_df {p : Prop} [Decidable p] {P Q : Prop} (h : ¬ p) (x : Q) : if decide p = true then P else Q := if_f (decide_eq_false h) x

theorem if_sp {p : Prop} [Decidable p] {P Q : Prop} (a : p → P) (b : ¬ p → Q) : if decide p = true then P else Q := by
  by_cases h : p
  · exact if_dt h (a h)
  · exact if_df h (b h)

theorem if_spb {c : Bool} {P Q : Prop} (a : c = true → P) (b : c = false → Q) : if c = true then P else Q := by
  cases c with
  | true => exact if_t rfl (a rfl)
  | false => exact if_f rfl (b rfl)

theorem BindsTo.of_dk {s : Shared} {fd : FuncData} {args : Args} {binds : List (Str × Value)} {T D : Addr} {o : Obj} {items : Array Value} {n : Nat} {m : Str → Option Value} {name : Str} {u : Value} {α β : Type}
    {k : Option (Array Value) → Sem (List (Str × Value))} {f1 : Option Value → Sem α} {f2 : α → Sem β} {f3 : β → Sem (List (Str × Value))} (hd : fd.defaults = .ref T) (ho : s.heap.get? T = some o) (hs : o.data = .seq items n) (hn : s.heap.Ns D m) (hm : m name = some u)
    (h₁ : bindArgs fd args = seqItems? fd.defaults >>= k) (h₂ : k (some items) = ((nsGet D name >>= f1) >>= f2) >>= f3) (h₃ : ((f1 (some u) >>= f2) >>= f3) = pure binds) : BindsTo s fd args binds := fun M A E Q hq => by
  rw [h₁, hd]
  refine wpAny_bind (wpAny_seqItems ho hs ?_)
  rw [h₂]
  have e : ((nsGet D name >>= f1) >>= f2) >>= f3 = nsGet D name >>= fun x => (f1 x >>= f2) >>= f3 := by rw [bind_assoc, bind_assoc]; simp only [bind_assoc]
  rw [e]
  refine wpAny_bind (wpAny_nsGet hn ?_)
  rw [hm, h₃]
  exact wpAny_pure hq
local macro_rules | `(tactic| tbr_iter "has") => `(tactic| first | with_reducible exact Has.here | ((with_reducible apply Has.there); tbr_iter "has") | with_reducible assumption | fail "has")
local macro_rules | `(tactic| tbr_iter "idx") => `(tactic| first | with_reducible exact Idx.here | ((with_reducible apply Idx.there); tbr_iter "idx") | fail "idx")
local macro_rules | `(tactic| tbr_iter "put") => `(tactic| first | with_reducible exact Put.here | ((with_reducible apply Put.there); tbr_iter "put") | fail "put")
local macro_rules | `(tactic| tbr_iter "upd") => `(tactic| first | with_reducible exact Upd.here | ((with_reducible apply Upd.there); tbr_iter "upd") | with_reducible assumption | fail "upd")
local macro_rules | `(tactic| tbr_iter "del") => `(tactic| first | with_reducible exact Del.here | ((with_reducible apply Del.there); tbr_iter "del") | with_reducible assumption | fail "del")
local macro_rules | `(tactic| tbr_iter "hasn") => `(tactic| first | with_reducible exact HasN.here | ((with_reducible apply HasN.there); tbr_iter "hasn") | fail "hasn")
local macro_rules | `(tactic| tbr_iter "hasc") => `(tactic| first | with_reducible exact HasC.here | ((with_reducible apply HasC.there); tbr_iter "hasc") | fail "hasc")
local macro_rules | `(tactic| tbr_iter "lst") => `(tactic| first | exact Or.inr (by with_reducible assumption) | exact Or.inl (by tbr_iter "has") | fail "lst")
local macro_rules | `(tactic| tbr_iter "name") => `(tactic| first
  | ((with_reducible refine' Ok.name_loc ?zze ?zza ?zzb ?zzk); (case zze => with_reducible assumption); (case zza => tbr_iter "has"); (case zzb => tbr_iter "idx"))
  | ((with_reducible refine' Ok.name_cell ?zze ?zza ?zzb ?zzk); (case zze => with_reducible assumption); (case zza => tbr_iter "hasc"); (case zzb => tbr_iter "has"))
  | ((with_reducible refine' Ok.name_free ?zze ?zza ?zzb ?zzk); (case zze => with_reducible assumption); (case zza => tbr_iter "hasc"); (case zzb => tbr_iter "has"))
  | ((with_reducible refine' Ok.name_top ?zze ?zza ?zzt ?zzb ?zzk); (case zze => with_reducible assumption); (case zza => tbr_iter "hasn"); (case zzt => with_reducible assumption); (case zzb => tbr_iter "hast")))
local macro_rules | `(tactic| tbr_iter "store") => `(tactic| first
  | ((with_reducible refine' Ok.store_loc ?zze ?zza ?zzb ?zzk); (case zze => with_reducible assumption); (case zza => tbr_iter "upd"); (case zzb => tbr_iter "put"))
  | ((with_reducible refine' Ok.store_cell ?zze ?zza ?zzb ?zzk); (case zze => with_reducible assumption); (case zza => tbr_iter "hasc"); (case zzb => tbr_iter "upd")))
local macro_rules | `(tactic| tbr_iter "go") => `(tactic| first
  | tbr_iter "name"
  | with_reducible refine Ok.const_int fun _ => ?_
  | with_reducible refine Ok.binop ?_
  | with_reducible refine Ok.add_int fun _ => ?_
  | with_reducible refine Ok.sub_int fun _ => ?_
  | ((with_reducible refine Ok.fdiv_int ?zza ?zzb fun _ => ?zzk); (case zza => tbr_iter "om"); (case zzb => tbr_iter "om"))
  | ((with_reducible refine Ok.mod_int ?zza fun _ => ?zzk); (case zza => tbr_iter "om"))
  | tbr_iter "store"
  | with_reducible refine Ok.execs_cons ?_
  | with_reducible refine Ok.execs_nil ?_
  | ((with_reducible refine Ok.assign1 ?zzk ?zzhs); (case zzhs => exact rfl))
  | with_reducible refine Ok.aug ?_
  | with_reducible refine Ok.iadd_int fun _ => ?_
  | with_reducible refine Ok.isub_int fun _ => ?_
  | ((with_reducible refine' Ok.load_loc ?zze ?zza ?zzb ?zzk); (case zze => with_reducible assumption); (case zza => tbr_iter "has"); (case zzb => tbr_iter "idx"))
  | ((with_reducible refine' Ok.load_cell ?zze ?zza ?zzb ?zzk); (case zze => with_reducible assumption); (case zza => tbr_iter "hasc"); (case zzb => tbr_iter "has"))
  | with_reducible refine Ok.if_ ?_
  | with_reducible refine Ok.true_cmp ?_
  | with_reducible refine Ok.true_not ?_
  | with_reducible refine Ok.lt_int ?_
  | with_reducible refine Ok.gt_int ?_
  | with_reducible refine Ok.le_int ?_
  | with_reducible refine Ok.ge_int ?_
  | with_reducible refine Ok.eq_int ?_
  | with_reducible refine Ok.ne_int ?_
  | with_reducible refine Ok.is_none ?_
  | with_reducible refine Ok.truthy_bool ?_
  | with_reducible refine Ok.truthy_int ?_
  | with_reducible refine Ok.ret ?_
  | with_reducible refine Ok.ret_none ?_
  | with_reducible refine Ok.cmp ?_
  | with_reducible refine Ok.unop ?_
  | with_reducible refine Ok.neg_int fun _ => ?_
  | with_reducible refine Ok.inv_int fun _ => ?_
  | with_reducible refine Ok.const_none ?_
  | with_reducible refine Ok.const_bool ?_
  | with_reducible refine Ok.const_str fun _ => ?_
  | with_reducible refine Ok.sub_ ?_
  | ((with_reducible refine Ok.items_cons ?zzk ?zzhs); (case zzhs => exact rfl))
  | with_reducible refine Ok.items_nil ?_
  | with_reducible refine Ok.ifexp ?_
  | with_reducible refine Ok.and2 ?_
  | ((with_reducible refine Ok.true_val ?zzk ?zzhs); (case zzhs => exact rfl))
  | with_reducible refine Turn.next ?_
  | with_reducible refine Ok.own_name ?_
  | with_reducible refine Ok.assign_name ?_
  | ((with_reducible refine Ok.for_ ?zzk ?zzhs); (case zzhs => intro _; exact rfl))
  | tbr_iter "if")
local macro_rules | `(tactic| tbr_iter "hast") => `(tactic| first | with_reducible exact HasT.here | ((with_reducible apply HasT.there); tbr_iter "hast") | fail "hast")
local macro_rules | `(tactic| tbr_iter "if") => `(tactic| first
  | ((with_reducible refine if_dt ?zza ?zzk); (case zza => tbr_iter "om"))
  | ((with_reducible refine if_df ?zza ?zzk); (case zza => tbr_iter "om"))
  | ((with_reducible refine if_t ?zza ?zzk); (case zza => first | rfl | decide))
  | ((with_reducible refine if_f ?zza ?zzk); (case zza => first | rfl | decide)))
local macro_rules | `(tactic| tbr_iter "go*") => `(tactic| repeat (tbr_iter "go"))
local macro_rules | `(tactic| tbr_iter "sub") => `(tactic| first | with_reducible exact List.Sublist.refl _ | ((with_reducible apply List.Sublist.cons_cons); tbr_iter "sub") | ((with_reducible apply List.Sublist.cons); tbr_iter "sub") | fail "sub")
local macro_rules | `(tactic| tbr_iter "om") => `(tactic| first
  | with_reducible assumption
  | decide +kernel
  | with_reducible exact Int.natCast_nonneg _
  | with_reducible exact Nat.zero_le _
  | with_reducible exact lt_sub (by assumption)
  | with_reducible exact s63 (by assumption) (by decide +kernel)
  | with_reducible exact lt_len (by assumption) (by assumption)
  | lia
  | omega)
-- part TupLt
/-- the order of tuples of ints -/
def lexLt : List Int → List Int → Bool
  | a :: as, b :: bs => if a = b then lexLt as bs else decide (a < b)
  | as, bs => decide (as.length < bs.length)

def IntV (v : Value) (i : Int) : Prop := ∃ t, v = .int i t
abbrev IntsV := All2 IntV

section
variable {prog : Program} {w : World} {A : Around} {s : Shared} {E : Value → Shared → Prop}

theorem tup_lt_body {a b : Addr} {xs ys : List Value} {is js : List Int} {k m : Nat} {Q : Fin → Shared → Prop} (hx : s.heap.get? a = some { cls := .type "tuple", data := .seq xs.toArray k }) (hy : s.heap.get? b = some { cls := .type "tuple", data := .seq ys.toArray m })
    (ix : IntsV xs is) (iy : IntsV ys js) (h : Q (.done (.ret (.bool (lexLt is js)))) s) : wpAny (model prog w) A (Builtin.«tuple.__lt__» ⟨[.ref a, .ref b], []⟩) Q E s := by
  show wpAny (model prog w) A (do
    if !(← isInstance (.ref b) (.type "tuple")) then return ← ret .notImplemented
    let xs ← Builtin.Tuple.tupleItemsOf (.ref a)
    let ys ← Builtin.Tuple.tupleItemsOf (.ref b)
    for (x, y) in xs.toList.zip ys.toList do
      if !(← eqBool x y) then
        match CmpOp.Lt with
        | .Eq => return ← ret (.bool false)
        | .NotEq => return ← ret (.bool true)
        | _ => rule "tuple.compare.by-the-first-pair-that-differs"; return ← ret (← richCompare CmpOp.Lt x y)
    ret (Builtin.Tuple.tupleCompareSizes CmpOp.Lt xs.size ys.size)) Q E s
  refine wpAny_bind (wpAny_isInstance (T := "tuple") (U := "tuple") (b := true) ⟨_, hy, rfl⟩ PySem.AutoSeq1.sub_tuple_tuple ?_)
  simp only [Bool.not_true, Bool.false_eq_true, if_false]
  refine wpAny_bind (wpAny_tupleItemsOf hx rfl ?_)
  refine wpAny_bind (wpAny_tupleItemsOf hy rfl ?_)
  refine wpAny_bind ?_
  have key : ∀ (xs' ys' : List Value) (is' js' : List Int), IntsV xs' is' → IntsV ys' js' → lexLt is' js' = lexLt is js → xs.length + ys'.length = ys.length + xs'.length →
      wpAny (model prog w) A (forIn (xs'.zip ys') ((none : Option PySem.Fin), ()) fun x r => do
        let e ← eqBool x.1 x.2
        if (!e) = true then do
          rule "tuple.compare.by-the-first-pair-that-differs"
          let c ← richCompare CmpOp.Lt x.1 x.2
          let f ← ret c
          pure (ForInStep.done (some f, ()))
        else pure (ForInStep.yield (none, ()))) (fun a s' => wpAny (model prog w) A (match a.1 with
        | some r => pure r
        | none => ret (Builtin.Tuple.tupleCompareSizes CmpOp.Lt xs.toArray.size ys.toArray.size)) Q E s') E s := by
    intro xs'
    induction xs' with
    | nil =>
      intro ys' is' js' hi hj he hl
      cases hi
      rw [List.zip_nil_left, List.forIn_nil]
      refine wpAny_pure ?_
      show wpAny (model prog w) A (ret (.bool (decide (xs.toArray.size < ys.toArray.size)))) Q E s
      have e : decide (xs.toArray.size < ys.toArray.size) = lexLt is js := by
        rw [← he]
        cases hj with
        | nil => simp only [lexLt, List.length_nil] at *; simp; (first | lia | omega)
        | cons _ t => simp only [lexLt, List.length_nil, List.length_cons] at *; simp; (first | lia | omega)
      rw [e]
      exact wpAny_pure h
    | cons x xs' ih =>
      intro ys' is' js' hi hj he hl
      cases hi with
      | @cons _ i _ is' hx' hi =>
        cases hj with
        | nil =>
          rw [List.zip_nil_right, List.forIn_nil]
          refine wpAny_pure ?_
          show wpAny (model prog w) A (ret (.bool (decide (xs.toArray.size < ys.toArray.size)))) Q E s
          have e : decide (xs.toArray.size < ys.toArray.size) = lexLt is js := by
            rw [← he]
            simp only [lexLt, List.length_nil, List.length_cons] at *; simp; (first | lia | omega)
          rw [e]
          exact wpAny_pure h
        | @cons y j ys' js' hy' hj =>
          obtain ⟨t, rfl⟩ := hx'
          obtain ⟨u, rfl⟩ := hy'
          rw [List.zip_cons_cons, List.forIn_cons]
          refine wpAny_bind (wpAny_bind (wpAny_eqBool_int ?_))
          by_cases q : i = j
          · subst q
            simp only [beq_self_eq_true, Bool.not_true, Bool.false_eq_true, if_false]
            refine wpAny_pure ?_
            refine ih ys' is' js' hi hj ?_ ?_
            · rw [← he]; simp [lexLt]
            · simp only [List.length_cons] at hl; (first | lia | omega)
          · have e : (i == j) = false := by simpa using q
            simp only [e, Bool.not_false, if_true]
            refine wpAny_bind (m := rule _) (wpAny_rule (wpAny_bind ?_))
            refine PyProof.Rows.lt_int (a := i) (b := j) ?_
            refine wpAny_bind (wpAny_pure (wpAny_pure ?_))
            have e2 : decide (i < j) = lexLt is js := by rw [← he]; simp [lexLt, q]
            rw [e2]
            exact wpAny_pure (wpAny_pure h)
  have := key xs ys is js ix iy rfl (by first | lia | omega)
  refine Eq.mp ?_ this
  congr 1
  congr 1
  funext x r
  obtain ⟨x1, x2⟩ := x
  cases x1 <;> rfl
theorem compareLt_tup {a b : Addr} {xs ys : List Value} {is js : List Int} {k m : Nat} {Q : Value → Shared → Prop} (hu : A.units < cLine) (hx : s.heap.get? a = some { cls := .type "tuple", data := .seq xs.toArray k }) (hy : s.heap.get? b = some { cls := .type "tuple", data := .seq ys.toArray m })
    (ix : IntsV xs is) (iy : IntsV ys js) (h : Q (.bool (lexLt is js)) s) : wpAny (model prog w) A (compareOp .Lt (.ref a) (.ref b)) Q E s := by
  show wpAny _ _ (richCompare .Lt (.ref a) (.ref b)) Q E s
  exact wpAny_richCompare_same_room (op := .Lt) (T := "tuple") ⟨_, hx, rfl⟩ ⟨_, hy, rfl⟩ PySem.F.slot_tuple_lt
    (wpAny_call_entry PySem.F.slot_tuple_lt ⟨_, hx, rfl⟩ PySem.F.entry_tuple_lt (tup_lt_body hx hy ix iy ⟨_, rfl, by simp, h⟩) (PySem.F.args_tuple_lt_2 _ _)) hu
end
section
variable {prog : Program} {w : World} {O : OsState} {n : Nat} {B : Base} {G : Array GenState} {v : Vol} {Q : Post Value}
/-- a tuple of ints -/
def TupI (B : Base) (v : Value) (is : List Int) : Prop := ∃ a xs, v = .ref a ∧ tupB B a xs ∧ IntsV xs is
theorem TupI.mono {B B' : Base} {v : Value} {p : List Int} (h : TupI B v p) (k : BLe B B') : TupI B' v p := let ⟨a, t, e, x, y⟩ := h; ⟨a, t, e, x.mono k, y⟩
theorem Ok.lt_tup {a b : Value} {is js : List Int} (ha : TupI B a is) (hb : TupI B b js) (h : Q (.bool (lexLt is js)) B G v) : Ok prog w O n B G v (compareOp .Lt a b) Q := fun A s R S => by
  obtain ⟨a, xs, rfl, ⟨k, e1⟩, i1⟩ := ha
  obtain ⟨b, ys, rfl, ⟨m, e2⟩, i2⟩ := hb
  exact compareLt_tup R.units (S.keep _ _ e1) (S.keep _ _ e2) i1 i2 ⟨B, G, v, S, h⟩
end
-- part Bis
section
variable {prog : Program} {w : World} {O : OsState} {n : Nat} {B : Base} {G : Array GenState} {v : Vol} {env : Env} {Q : Post Value}
theorem Ok.len_list {l : Addr} {xs : List Value} (hl : LstAt B v l xs) (hf : xs.length < 2 ^ 62) (h : ∀ t, Q (.int xs.length t) B G v) : Ok prog w O n B G v (call (.builtin "len") [.ref l]) Q := fun A s R S =>
  call_len_list (isList_of (hl.at S)) (by rw [List.size_toArray]; (first | lia | omega)) ⟨B, G, v, S.toks _, by rw [List.size_toArray]; exact h _⟩

end

section
variable {w : World} {O : OsState} {n : Nat} {B : Base} {G : Array GenState} {v : Vol} {Q : Post Value}
theorem law_first {a : Addr} {x : Value} {xs : List Value} (hT : TopB B) (ha : tupB B a (x :: xs)) (h : Q x B G v) : Ok prg w O (n + 1) B G v (call (.ref 120) [.ref a]) Q := by
  obtain ⟨r, hF⟩ := hT.f18
  refine Ok.call_def hF ["pair"] [] [.ref a] (ns := ["pair"]) (vs := [some (.ref a)]) (fun s S => .of_eq rfl) (by decide +kernel) rfl rfl rfl fun L env hA => ?_
  have hE := hA.is ["pair"] [] (by decide +kernel) (by decide +kernel)
  conv in (bodyAt 18) => whnf
  tbr_iter "go*"
  refine Ok.item_tup (.inr ha) (by decide) (by decide) rfl ?_
  exact ⟨_, _, .here, h⟩

/-- a pair of ints -/
def PairV (B : Base) (v : Value) (p : Int × Int) : Prop := ∃ a t u, v = .ref a ∧ tupB B a [.int p.1 t, .int p.2 u]
theorem PairV.mono {B B' : Base} {v : Value} {p : Int × Int} (h : PairV B v p) (k : BLe B B') : PairV B' v p := let ⟨a, t, u, e, x⟩ := h; ⟨a, t, u, e, x.mono k⟩

theorem bisect_left_key {row : Addr} {xs : List Value} {ps : List (Int × Int)} {x : Int} {t t0 : Tok} {c : Nat} (hT : TopB B) (hrow : LstAt B v row xs) (hp : All2 (PairV B) xs ps) (hlen : xs.length < 1000) (hc : c ≤ ps.length)
    (hlt : ∀ (i : Nat) p, ps[i]? = some p → (p.1 < x ↔ i < c)) (h : ∀ t', Q (.int c t') B G v) :
    Ok prg w O (n + 2) B G v (call (.ref 50) [.ref row, .int x t, .int 0 t0, .none] [("key", .ref 120)]) Q := by
  obtain ⟨r, hF⟩ := hT.f4
  obtain ⟨o, t1, m1, d1, d2⟩ := hT.dfl4.pos
  refine Ok.call_def hF ["a", "x", "lo", "hi", "key"] ["mid"] [.ref row, .int x t, .int 0 t0, .none, .ref 120] (ns := ["a", "x", "lo", "hi", "key", "mid"])
    (vs := [some (.ref row), some (.int x t), some (.int 0 t0), some .none, some (.ref 120), none]) (fun s S => BindsTo.of_defaults rfl (S.keep _ _ d1) d2 rfl rfl) (by decide +kernel) rfl rfl rfl fun L env hA => ?_
  have hE := hA.is ["a", "x", "lo", "hi", "key", "mid"] ["len"] (by decide +kernel) (by decide +kernel)
  conv in (bodyAt 4) => whnf
  tbr_iter "go*"
  refine Ok.call_val (f := .builtin "len") rfl ?_
  tbr_iter "go*"
  refine ⟨rfl, ?_⟩
  tbr_iter "go*"
  refine Ok.len_list (hrow.imp .there id) (by tbr_iter "om") fun t2 => ?_
  tbr_iter "go*"
  refine Ok.while_ ?_
  have hl := hp.length
  refine OkC.lpB5 (fun (lo : Nat) (hi : Nat) (t3 : Tok) (t4 : Tok) (m : Option Value) => hi - lo) (fun lo hi t3 t4 m =>
    (L, rFr ["a", "x", "lo", "hi", "key", "mid"] [some (.ref row), some (.int x t), some (.int lo t3), some (.int hi t4), some (.ref 120), m]) :: v) (fun lo hi t3 t4 m => lo ≤ c ∧ c ≤ hi ∧ hi ≤ xs.length) ?_ 0 xs.length t0 t2 none ⟨by tbr_iter "om", by tbr_iter "om", by tbr_iter "om"⟩
  rintro lo hi t3 t4 m ⟨h1, h2, h3⟩ ih
  refine OkC.while_turn ?_
  tbr_iter "go*"
  refine if_sp (fun h4 => ?_) fun h4 => ?_
  · tbr_iter "go*"
    refine Ok.call_fn (f := 120) ?_
    tbr_iter "go*"
    refine ⟨rfl, ?_⟩
    tbr_iter "go*"
    have hm : (((lo : Int) + hi) / 2).toNat = (lo + hi) / 2 := by tbr_iter "om"
    obtain ⟨p, hp1⟩ : ∃ p, ps[(lo + hi) / 2]? = some p := ⟨_, List.getElem?_eq_getElem (by tbr_iter "om")⟩
    obtain ⟨u, hu1, a, t5, t6, rfl, hu2⟩ := hp.get hp1
    refine Ok.item_list (x := .ref a) (hrow.imp .there id) (by tbr_iter "om") (by tbr_iter "om") (by rw [hm]; exact hu1) ?_
    tbr_iter "go*"
    refine ⟨let ⟨r, e⟩ := hT.f18; e.fnB, ?_⟩
    refine law_first hT hu2 ?_
    tbr_iter "go*"
    have hk := hlt _ p hp1
    refine if_sp (fun h5 => ?_) fun h5 => ?_
    · tbr_iter "go*"
      rw [show ((lo : Int) + hi) / 2 + 1 = (((lo + hi) / 2 + 1 : Nat) : Int) by tbr_iter "om"]
      exact ih ((lo + hi) / 2 + 1) hi _ _ _ (by tbr_iter "om") ⟨by tbr_iter "om", by tbr_iter "om", by tbr_iter "om"⟩
    · tbr_iter "go*"
      rw [show ((lo : Int) + hi) / 2 = (((lo + hi) / 2 : Nat) : Int) by tbr_iter "om"]
      exact ih lo ((lo + hi) / 2) _ _ _ (by tbr_iter "om") ⟨by tbr_iter "om", by tbr_iter "om", by tbr_iter "om"⟩
  · tbr_iter "go*"
    have : lo = c := by tbr_iter "om"
    subst this
    exact ⟨_, _, .here, h _⟩

theorem bisect_right_key {row : Addr} {xs : List Value} {ps : List (Int × Int)} {x : Int} {t t0 : Tok} {c : Nat} (hT : TopB B) (hrow : LstAt B v row xs) (hp : All2 (PairV B) xs ps) (hlen : xs.length < 1000) (hc : c ≤ ps.length)
    (hlt : ∀ (i : Nat) p, ps[i]? = some p → (p.1 ≤ x ↔ i < c)) (h : ∀ t', Q (.int c t') B G v) :
    Ok prg w O (n + 2) B G v (call (.ref 32) [.ref row, .int x t, .int 0 t0, .none] [("key", .ref 120)]) Q := by
  obtain ⟨r, hF⟩ := hT.f2
  obtain ⟨o, t1, m1, d1, d2⟩ := hT.dfl2.pos
  refine Ok.call_def hF ["a", "x", "lo", "hi", "key"] ["mid"] [.ref row, .int x t, .int 0 t0, .none, .ref 120] (ns := ["a", "x", "lo", "hi", "key", "mid"])
    (vs := [some (.ref row), some (.int x t), some (.int 0 t0), some .none, some (.ref 120), none]) (fun s S => BindsTo.of_defaults rfl (S.keep _ _ d1) d2 rfl rfl) (by decide +kernel) rfl rfl rfl fun L env hA => ?_
  have hE := hA.is ["a", "x", "lo", "hi", "key", "mid"] ["len"] (by decide +kernel) (by decide +kernel)
  conv in (bodyAt 2) => whnf
  tbr_iter "go*"
  refine Ok.call_val (f := .builtin "len") rfl ?_
  tbr_iter "go*"
  refine ⟨rfl, ?_⟩
  tbr_iter "go*"
  refine Ok.len_list (hrow.imp .there id) (by tbr_iter "om") fun t2 => ?_
  tbr_iter "go*"
  refine Ok.while_ ?_
  have hl := hp.length
  refine OkC.lpB5 (fun (lo : Nat) (hi : Nat) (t3 : Tok) (t4 : Tok) (m : Option Value) => hi - lo) (fun lo hi t3 t4 m =>
    (L, rFr ["a", "x", "lo", "hi", "key", "mid"] [some (.ref row), some (.int x t), some (.int lo t3), some (.int hi t4), some (.ref 120), m]) :: v) (fun lo hi t3 t4 m => lo ≤ c ∧ c ≤ hi ∧ hi ≤ xs.length) ?_ 0 xs.length t0 t2 none ⟨by tbr_iter "om", by tbr_iter "om", by tbr_iter "om"⟩
  rintro lo hi t3 t4 m ⟨h1, h2, h3⟩ ih
  refine OkC.while_turn ?_
  tbr_iter "go*"
  refine if_sp (fun h4 => ?_) fun h4 => ?_
  · tbr_iter "go*"
    refine Ok.call_fn (f := 120) ?_
    tbr_iter "go*"
    refine ⟨rfl, ?_⟩
    tbr_iter "go*"
    have hm : (((lo : Int) + hi) / 2).toNat = (lo + hi) / 2 := by tbr_iter "om"
    obtain ⟨p, hp1⟩ : ∃ p, ps[(lo + hi) / 2]? = some p := ⟨_, List.getElem?_eq_getElem (by tbr_iter "om")⟩
    obtain ⟨u, hu1, a, t5, t6, rfl, hu2⟩ := hp.get hp1
    refine Ok.item_list (x := .ref a) (hrow.imp .there id) (by tbr_iter "om") (by tbr_iter "om") (by rw [hm]; exact hu1) ?_
    tbr_iter "go*"
    refine ⟨let ⟨r, e⟩ := hT.f18; e.fnB, ?_⟩
    refine law_first hT hu2 ?_
    tbr_iter "go*"
    have hk := hlt _ p hp1
    refine if_sp (fun h5 => ?_) fun h5 => ?_
    · tbr_iter "go*"
      rw [show ((lo : Int) + hi) / 2 = (((lo + hi) / 2 : Nat) : Int) by tbr_iter "om"]
      exact ih lo ((lo + hi) / 2) _ _ _ (by tbr_iter "om") ⟨by tbr_iter "om", by tbr_iter "om", by tbr_iter "om"⟩
    · tbr_iter "go*"
      rw [show ((lo : Int) + hi) / 2 + 1 = (((lo + hi) / 2 + 1 : Nat) : Int) by tbr_iter "om"]
      exact ih ((lo + hi) / 2 + 1) hi _ _ _ (by tbr_iter "om") ⟨by tbr_iter "om", by tbr_iter "om", by tbr_iter "om"⟩
  · tbr_iter "go*"
    have : lo = c := by tbr_iter "om"
    subst this
    exact ⟨_, _, .here, h _⟩

theorem bisect_left_tup {row : Addr} {xv : Value} {xs : List Value} {ps : List (List Int)} {x : List Int} {c : Nat} (hT : TopB B) (hrow : LstAt B v row xs) (hp : All2 (TupI B) xs ps) (hx : TupI B xv x) (hlen : xs.length < 1000) (hc : c ≤ ps.length)
    (hlt : ∀ (i : Nat) p, ps[i]? = some p → (lexLt p x = true ↔ i < c)) (h : ∀ t', Q (.int c t') B G v) :
    Ok prg w O (n + 1) B G v (call (.ref 50) [.ref row, xv]) Q := by
  obtain ⟨r, hF⟩ := hT.f4
  obtain ⟨o, t1, m1, d1, d2⟩ := hT.dfl4.pos
  refine Ok.call_def hF ["a", "x", "lo", "hi", "key"] ["mid"] [.ref row, xv, .int 0 t1, .none, .none] (ns := ["a", "x", "lo", "hi", "key", "mid"])
    (vs := [some (.ref row), some xv, some (.int 0 t1), some .none, some .none, none])
    (fun s S => by obtain ⟨m, e1, e2⟩ := hT.dfl4.kw s.heap S.keep; exact BindsTo.of_dk rfl (S.keep _ _ d1) d2 e1 e2 rfl rfl rfl) (by decide +kernel) rfl rfl rfl fun L env hA => ?_
  have hE := hA.is ["a", "x", "lo", "hi", "key", "mid"] ["len"] (by decide +kernel) (by decide +kernel)
  conv in (bodyAt 4) => whnf
  tbr_iter "go*"
  refine Ok.call_val (f := .builtin "len") rfl ?_
  tbr_iter "go*"
  refine ⟨rfl, ?_⟩
  tbr_iter "go*"
  refine Ok.len_list (hrow.imp .there id) (by tbr_iter "om") fun t2 => ?_
  tbr_iter "go*"
  refine Ok.while_ ?_
  have hl := hp.length
  refine OkC.lpB5 (fun (lo : Nat) (hi : Nat) (t3 : Tok) (t4 : Tok) (m : Option Value) => hi - lo) (fun lo hi t3 t4 m =>
    (L, rFr ["a", "x", "lo", "hi", "key", "mid"] [some (.ref row), some xv, some (.int lo t3), some (.int hi t4), some .none, m]) :: v) (fun lo hi t3 t4 m => lo ≤ c ∧ c ≤ hi ∧ hi ≤ xs.length) ?_ 0 xs.length t1 t2 none ⟨by tbr_iter "om", by tbr_iter "om", by tbr_iter "om"⟩
  rintro lo hi t3 t4 m ⟨h1, h2, h3⟩ ih
  refine OkC.while_turn ?_
  tbr_iter "go*"
  refine if_sp (fun h4 => ?_) fun h4 => ?_
  · tbr_iter "go*"
    have hm : (((lo : Int) + hi) / 2).toNat = (lo + hi) / 2 := by tbr_iter "om"
    obtain ⟨p, hp1⟩ : ∃ p, ps[(lo + hi) / 2]? = some p := ⟨_, List.getElem?_eq_getElem (by tbr_iter "om")⟩
    obtain ⟨u, hu1, hu2⟩ := hp.get hp1
    refine Ok.item_list (x := u) (hrow.imp .there id) (by tbr_iter "om") (by tbr_iter "om") (by rw [hm]; exact hu1) ?_
    tbr_iter "go*"
    refine Ok.lt_tup hu2 hx ?_
    tbr_iter "go*"
    have hk := hlt _ p hp1
    refine if_spb (fun h5 => ?_) fun h5 => ?_
    · have h6 := hk.mp h5
      tbr_iter "go*"
      rw [show ((lo : Int) + hi) / 2 + 1 = (((lo + hi) / 2 + 1 : Nat) : Int) by tbr_iter "om"]
      exact ih ((lo + hi) / 2 + 1) hi _ _ _ (by tbr_iter "om") ⟨by tbr_iter "om", by tbr_iter "om", by tbr_iter "om"⟩
    · have h6 : ¬ (lo + hi) / 2 < c := fun q => by rw [hk.mpr q] at h5; cases h5
      tbr_iter "go*"
      rw [show ((lo : Int) + hi) / 2 = (((lo + hi) / 2 : Nat) : Int) by tbr_iter "om"]
      exact ih lo ((lo + hi) / 2) _ _ _ (by tbr_iter "om") ⟨by tbr_iter "om", by tbr_iter "om", by tbr_iter "om"⟩
  · tbr_iter "go*"
    have : lo = c := by tbr_iter "om"
    subst this
    exact ⟨_, _, .here, h _⟩

theorem bisect_right_tup {row : Addr} {xv : Value} {xs : List Value} {ps : List (List Int)} {x : List Int} {c : Nat} (hT : TopB B) (hrow : LstAt B v row xs) (hp : All2 (TupI B) xs ps) (hx : TupI B xv x) (hlen : xs.length < 1000) (hc : c ≤ ps.length)
    (hlt : ∀ (i : Nat) p, ps[i]? = some p → (lexLt x p = false ↔ i < c)) (h : ∀ t', Q (.int c t') B G v) :
    Ok prg w O (n + 1) B G v (call (.ref 32) [.ref row, xv]) Q := by
  obtain ⟨r, hF⟩ := hT.f2
  obtain ⟨o, t1, m1, d1, d2⟩ := hT.dfl2.pos
  refine Ok.call_def hF ["a", "x", "lo", "hi", "key"] ["mid"] [.ref row, xv, .int 0 t1, .none, .none] (ns := ["a", "x", "lo", "hi", "key", "mid"])
    (vs := [some (.ref row), some xv, some (.int 0 t1), some .none, some .none, none])
    (fun s S => by obtain ⟨m, e1, e2⟩ := hT.dfl2.kw s.heap S.keep; exact BindsTo.of_dk rfl (S.keep _ _ d1) d2 e1 e2 rfl rfl rfl) (by decide +kernel) rfl rfl rfl fun L env hA => ?_
  have hE := hA.is ["a", "x", "lo", "hi", "key", "mid"] ["len"] (by decide +kernel) (by decide +kernel)
  conv in (bodyAt 2) => whnf
  tbr_iter "go*"
  refine Ok.call_val (f := .builtin "len") rfl ?_
  tbr_iter "go*"
  refine ⟨rfl, ?_⟩
  tbr_iter "go*"
  refine Ok.len_list (hrow.imp .there id) (by tbr_iter "om") fun t2 => ?_
  tbr_iter "go*"
  refine Ok.while_ ?_
  have hl := hp.length
  refine OkC.lpB5 (fun (lo : Nat) (hi : Nat) (t3 : Tok) (t4 : Tok) (m : Option Value) => hi - lo) (fun lo hi t3 t4 m =>
    (L, rFr ["a", "x", "lo", "hi", "key", "mid"] [some (.ref row), some xv, some (.int lo t3), some (.int hi t4), some .none, m]) :: v) (fun lo hi t3 t4 m => lo ≤ c ∧ c ≤ hi ∧ hi ≤ xs.length) ?_ 0 xs.length t1 t2 none ⟨by tbr_iter "om", by tbr_iter "om", by tbr_iter "om"⟩
  rintro lo hi t3 t4 m ⟨h1, h2, h3⟩ ih
  refine OkC.while_turn ?_
  tbr_iter "go*"
  refine if_sp (fun h4 => ?_) fun h4 => ?_
  · tbr_iter "go*"
    have hm : (((lo : Int) + hi) / 2).toNat = (lo + hi) / 2 := by tbr_iter "om"
    obtain ⟨p, hp1⟩ : ∃ p, ps[(lo + hi) / 2]? = some p := ⟨_, List.getElem?_eq_getElem (by tbr_iter "om")⟩
    obtain ⟨u, hu1, hu2⟩ := hp.get hp1
    refine Ok.item_list (x := u) (hrow.imp .there id) (by tbr_iter "om") (by tbr_iter "om") (by rw [hm]; exact hu1) ?_
    tbr_iter "go*"
    refine Ok.lt_tup hx hu2 ?_
    tbr_iter "go*"
    have hk := hlt _ p hp1
    refine if_spb (fun h5 => ?_) fun h5 => ?_
    · have h6 : ¬ (lo + hi) / 2 < c := fun q => by rw [hk.mpr q] at h5; cases h5
      tbr_iter "go*"
      rw [show ((lo : Int) + hi) / 2 = (((lo + hi) / 2 : Nat) : Int) by tbr_iter "om"]
      exact ih lo ((lo + hi) / 2) _ _ _ (by tbr_iter "om") ⟨by tbr_iter "om", by tbr_iter "om", by tbr_iter "om"⟩
    · have h6 := hk.mp h5
      tbr_iter "go*"
      rw [show ((lo : Int) + hi) / 2 + 1 = (((lo + hi) / 2 + 1 : Nat) : Int) by tbr_iter "om"]
      exact ih ((lo + hi) / 2 + 1) hi _ _ _ (by tbr_iter "om") ⟨by tbr_iter "om", by tbr_iter "om", by tbr_iter "om"⟩
  · tbr_iter "go*"
    have : lo = c := by tbr_iter "om"
    subst this
    exact ⟨_, _, .here, h _⟩

end
-- part Ins
section
variable {prog : Program} {w : World} {O : OsState} {n : Nat} {B : Base} {G : Array GenState} {v : Vol} {env : Env} {Q : Post Value}
theorem Ok.call_fn_kw {id k : Str} {p pos kp : Pos} {e kv : Expr} {rest : List Expr} {f : Addr}
    (h : Ok prog w O n B G v (eval (.Name id p) env) fun f' B1 G1 v1 => f' = .ref f ∧ Ok prog w O n B1 G1 v1 (spliced (backTo pos (starEach (e :: rest) env))) fun vs B2 G2 v2 => Ok prog w O n B2 G2 v2 (eval kv env) fun u B3 G3 v3 =>
      fnB B3 f ∧ Ok prog w O n B3 G3 v3 (call (.ref f) vs [(k, u)]) Q)
    (he : starEach (e :: rest) env = (false, eval e env) :: starEach rest env) : Ok prog w O n B G v (eval (.Call (.Name id p) (e :: rest) [⟨some k, kv, kp⟩] pos) env) Q := fun A s R S => by
  refine wpAny_Call_Name_kw (wpAny_mono (h A s R S) (fun f' s1 ⟨_, _, _, S1, e1, h1⟩ => ?_) fun _ _ x => x)
  subst e1
  show wpAny _ _ (callWith pos (.ref f) [] (backTo pos (starEach (e :: rest) env)) [(some k, do let v ← eval kv env; standAt pos; pure v)]) _ _ _
  rw [he] at h1 ⊢
  unfold callWith
  refine wpAny_bind (wpAny_holding ?_)
  refine wpAny_mono (evalArgs_kw (Q := fun a s' => (∃ o fd, s'.heap.get? f = some o ∧ o.data = .func fd) ∧ wpAny (model prog w) A (call (.ref f) ([] ++ a.pos) a.kw) (fun a s' => ∃ B' G' v', St O B' G' v' s' ∧ Q a B' G' v') (fun _ _ => False) s')
    (x := eval e env) (rest := backTo pos (starEach rest env)) rfl ?_) (fun a s2 h2 => ?_) fun _ _ x => x
  · refine Ok.go h1 R S1 (fun vs s2 _ _ _ S2 h2 => ?_)
    show wpAny _ _ (evalAll [do let v ← eval kv env; standAt pos; pure v]) _ _ _
    refine wpAny_evalAll_cons (wpAny_bind (Ok.go h2 R S2 (fun u s3 _ _ _ S3 hgo => ?_)))
    obtain ⟨⟨o, fd, o1, o2⟩, h3⟩ := hgo
    refine wpAny_bind (wpAny_standAt (wpAny_pure (wpAny_evalAll_nil ?_)))
    exact ⟨⟨o, fd, S3.keep _ _ o1, o2⟩, h3 A s3 R S3⟩
  · obtain ⟨⟨o, fd, o1, o2⟩, h3⟩ := h2
    refine wpAny_bind (wpAny_standAt ?_)
    have tail : ∀ {t : Sem Value}, wpAny (model prog w) A t (fun a s' => ∃ B' G' v', St O B' G' v' s' ∧ Q a B' G' v') (fun _ _ => False) s2 → wpAny (model prog w) A (t >>= fun r => holding [r] point >>= fun _ => pure r) (fun a s' => ∃ B' G' v', St O B' G' v' s' ∧ Q a B' G' v') (fun _ _ => False) s2 :=
      fun ht => wpAny_bind (wpAny_mono ht (fun r s₂ hr => wpAny_bind (wpAny_holding (wpAny_point (wpAny_pure hr)))) fun _ _ x => x)
    refine wpAny_bind (m := keeperOf (.ref f)) ?_
    unfold keeperOf
    refine wpAny_bind (wpAny_load o1 ?_)
    rw [o2]
    refine wpAny_pure ?_
    generalize (List.any _ _ || List.any _ _ : Bool) = bb
    cases bb <;> dsimp only
    · split
      · exact tail h3
      · exact tail (by unfold callMarked; exact Calls.wpAny_keep h3)
    · exact tail (by unfold callMarked; exact Calls.wpAny_keep h3)
theorem LstAt.meth {l : Addr} {xs : List Value} (h : LstAt B v l xs) : ∀ s, St O B G v s → s.TypeIs (.ref l) "list" ∧ ∀ a, Value.ref l = .ref a → ∃ ob, s.heap.get? a = some ob ∧ ob.dict = none := fun s S => by
  obtain ⟨m, e⟩ := h.at S
  exact ⟨⟨_, e, rfl⟩, fun a q => by cases q; exact ⟨_, e, rfl⟩⟩
end

section
variable {w : World} {O : OsState} {n : Nat} {B : Base} {G : Array GenState} {v : Vol} {Q : Post Value}

theorem insort_left {row : Addr} {sv : Value} {xs : List Value} {ps : List (Int × Int)} {p : Int × Int} {c : Nat} (hT : TopB B) (hp : All2 (PairV B) xs ps) (hs : PairV B sv p) (hlen : xs.length < 1000) (hc : c ≤ ps.length)
    (hlt : ∀ (i : Nat) q, ps[i]? = some q → (q.1 < p.1 ↔ i < c)) (h : Q .none B G ((row, rList (xs.take c ++ sv :: xs.drop c)) :: v)) :
    Ok prg w O (n + 3) B G ((row, rList xs) :: v) (call (.ref 41) [.ref row, sv] [("key", .ref 120)]) Q := by
  obtain ⟨r, hF⟩ := hT.f3
  obtain ⟨o, t1, m1, d1, d2⟩ := hT.dfl3.pos
  obtain ⟨a, t5, t6, rfl, hs2⟩ := hs
  refine Ok.call_def hF ["a", "x", "lo", "hi", "key"] [] [.ref row, .ref a, .int 0 t1, .none, .ref 120] (ns := ["a", "x", "lo", "hi", "key"])
    (vs := [some (.ref row), some (.ref a), some (.int 0 t1), some .none, some (.ref 120)]) (fun s S => BindsTo.of_defaults rfl (S.keep _ _ d1) d2 rfl rfl) (by decide +kernel) rfl rfl rfl fun L env hA => ?_
  have hE := hA.is ["a", "x", "lo", "hi", "key"] ["bisect_left"] (by decide +kernel) (by decide +kernel)
  conv in (bodyAt 3) => whnf
  tbr_iter "go*"
  refine Ok.call_fn_kw (f := 50) ?_ rfl
  tbr_iter "go*"
  refine ⟨rfl, ?_⟩
  tbr_iter "go*"
  refine Ok.call_fn (f := 120) ?_
  tbr_iter "go*"
  refine ⟨rfl, ?_⟩
  tbr_iter "go*"
  refine ⟨let ⟨r, e⟩ := hT.f18; e.fnB, ?_⟩
  refine law_first (n := n + 1) hT hs2 ?_
  tbr_iter "go*"
  refine ⟨let ⟨r, e⟩ := hT.f4; e.fnB, ?_⟩
  refine bisect_left_key (n := n) hT (.inl (.there .here)) hp hlen hc hlt fun t7 => ?_
  tbr_iter "go*"
  refine Ok.expr ?_ (by rw [interactive, hA.scope]; rfl)
  refine Ok.method PySem.F.plainAttrs_list PySem.F.slot_list_insert PySem.F.type_list_insert rfl rfl rfl rfl ?_
  tbr_iter "go*"
  refine ⟨LstAt.meth (.inl (.there .here)), ?_⟩
  tbr_iter "go*"
  have hl := hp.length
  refine Ok.list_insert (by tbr_iter "om") (by rw [Int.toNat_natCast]; (first | lia | omega)) (.there .here) (by have : sizeLine = 2 ^ 24 := rfl; (first | lia | omega)) ?_
  refine ⟨nofun, ?_⟩
  tbr_iter "go*"
  rw [Int.toNat_natCast]
  exact ⟨_, _, .here, h⟩

theorem insort_right {row : Addr} {sv : Value} {xs : List Value} {ps : List (Int × Int)} {p : Int × Int} {c : Nat} (hT : TopB B) (hp : All2 (PairV B) xs ps) (hs : PairV B sv p) (hlen : xs.length < 1000) (hc : c ≤ ps.length)
    (hlt : ∀ (i : Nat) q, ps[i]? = some q → (q.1 ≤ p.1 ↔ i < c)) (h : Q .none B G ((row, rList (xs.take c ++ sv :: xs.drop c)) :: v)) :
    Ok prg w O (n + 3) B G ((row, rList xs) :: v) (call (.ref 23) [.ref row, sv] [("key", .ref 120)]) Q := by
  obtain ⟨r, hF⟩ := hT.f1
  obtain ⟨o, t1, m1, d1, d2⟩ := hT.dfl1.pos
  obtain ⟨a, t5, t6, rfl, hs2⟩ := hs
  refine Ok.call_def hF ["a", "x", "lo", "hi", "key"] [] [.ref row, .ref a, .int 0 t1, .none, .ref 120] (ns := ["a", "x", "lo", "hi", "key"])
    (vs := [some (.ref row), some (.ref a), some (.int 0 t1), some .none, some (.ref 120)]) (fun s S => BindsTo.of_defaults rfl (S.keep _ _ d1) d2 rfl rfl) (by decide +kernel) rfl rfl rfl fun L env hA => ?_
  have hE := hA.is ["a", "x", "lo", "hi", "key"] ["bisect_right"] (by decide +kernel) (by decide +kernel)
  conv in (bodyAt 1) => whnf
  tbr_iter "go*"
  refine Ok.call_fn_kw (f := 32) ?_ rfl
  tbr_iter "go*"
  refine ⟨rfl, ?_⟩
  tbr_iter "go*"
  refine Ok.call_fn (f := 120) ?_
  tbr_iter "go*"
  refine ⟨rfl, ?_⟩
  tbr_iter "go*"
  refine ⟨let ⟨r, e⟩ := hT.f18; e.fnB, ?_⟩
  refine law_first (n := n + 1) hT hs2 ?_
  tbr_iter "go*"
  refine ⟨let ⟨r, e⟩ := hT.f2; e.fnB, ?_⟩
  refine bisect_right_key (n := n) hT (.inl (.there .here)) hp hlen hc hlt fun t7 => ?_
  tbr_iter "go*"
  refine Ok.expr ?_ (by rw [interactive, hA.scope]; rfl)
  refine Ok.method PySem.F.plainAttrs_list PySem.F.slot_list_insert PySem.F.type_list_insert rfl rfl rfl rfl ?_
  tbr_iter "go*"
  refine ⟨LstAt.meth (.inl (.there .here)), ?_⟩
  tbr_iter "go*"
  have hl := hp.length
  refine Ok.list_insert (by tbr_iter "om") (by rw [Int.toNat_natCast]; (first | lia | omega)) (.there .here) (by have : sizeLine = 2 ^ 24 := rfl; (first | lia | omega)) ?_
  refine ⟨nofun, ?_⟩
  tbr_iter "go*"
  rw [Int.toNat_natCast]
  exact ⟨_, _, .here, h⟩

end
-- part Rules4
section
variable {prog : Program} {w : World} {O : OsState} {n : Nat} {B : Base} {G : Array GenState} {v : Vol} {env : Env} {L : Addr} {ns gl : List Str} {cs fs : List (Str × Addr)}

theorem Ok.expr_ {e : Expr} {p : Pos} {Q : Post Flow} (hE : EnvIs env L ns gl cs fs) (h : Ok prog w O n B G v (eval e env) fun a B1 G1 v1 => (∀ b, a ≠ .ref b) ∧ Q .next B1 G1 v1)
    (hs : swapsWith e none p.line env = pure false) : Ok prog w O n B G v (exec (.Expr e p) env) Q := Ok.expr h (by unfold interactive; rw [hE.kind]; rfl) hs

/-! ### several targets -/
theorem Ok.assign_tup {elts : List Expr} {k : Nat} {tp p : Pos} {value : Expr} {Q : Post Flow}
    (h : Ok prog w O n B G v (eval value env) fun a B1 G1 v1 => Ok prog w O n B1 G1 v1 (assign (.Tuple elts k tp) env a) fun _ B2 G2 v2 => Q .next B2 G2 v2)
    (hs : swapsWithSole [.Tuple elts k tp] value p.line env = pure false) (hw : swappedStores [.Tuple elts k tp] value env = pure none) : Ok prog w O n B G v (exec (.Assign [.Tuple elts k tp] value p) env) Q := fun A s R S =>
  Assign_Tuple (Ok.go h R S (fun _ s1 _ _ _ S1 h1 => h1 A s1 R S1)) hs hw
theorem Ok.unpack {elts : List Expr} {k : Nat} {p : Pos} {t : Addr} {xs : List Value} {Q : Post Unit} (ht : tupB B t xs) (hn : (assignEach elts env).length = xs.length) (hst : (assignEach elts env).findIdx? (·.1) = none)
    (h : Ok prog w O n B G v (assignInOrder ((assignEach elts env).map (·.2)) xs) Q) : Ok prog w O n B G v (assign (.Tuple elts k p) env (.ref t)) Q := fun A s R S =>
  wpAny_assign_Tuple R.handled (isTuple_of (SeqAt.at (v := v) (.inr ht) S)) (by rw [List.size_toArray]; exact hn) hst fun h' hx => by
    have := h A { s with heap := h', toks := s.toks } R (S.extAll (fun b o e => hx b o (Nat.ne_of_lt (Heap.lt_size e)) e) s.toks)
    exact this
theorem Ok.aio_nil {xs : List Value} {Q : Post Unit} (h : Q () B G v) : Ok prog w O n B G v (assignInOrder [] xs) Q := fun A s R S => by
  show wpAny _ _ (pure ()) _ _ _
  exact wpAny_pure ⟨_, _, _, S, h⟩
theorem Ok.aio_cons {t : Value → Sem Unit} {ts : List (Value → Sem Unit)} {x : Value} {xs : List Value} {Q : Post Unit} (h : Ok prog w O n B G v (t x) fun _ B1 G1 v1 => Ok prog w O n B1 G1 v1 (assignInOrder ts xs) Q) : Ok prog w O n B G v (assignInOrder (t :: ts) (x :: xs)) Q := fun A s R S => by
  show wpAny _ _ (holding xs (t x) >>= fun _ => assignInOrder ts xs) _ _ _
  exact wpAny_bind (wpAny_holding (Ok.go h R S (fun _ s1 _ _ _ S1 h1 => h1 A s1 R S1)))
theorem Ok.bind_name {x : Str} {u : Value} {Q : Post Unit} (h : Ok prog w O n B G v (storeName env x u) Q) : Ok prog w O n B G v (bindName env x u) Q := fun A s R S => wpAny_bindName (h A s R S)

/-- two names out of a tuple -/
theorem Ok.unpack2 {x y : Str} {px py p : Pos} {k : Nat} {t : Addr} {a b : Value} {Q : Post Unit} (ht : tupB B t [a, b])
    (h : Ok prog w O n B G v (storeName env x a) fun _ B1 G1 v1 => Ok prog w O n B1 G1 v1 (storeName env y b) Q) : Ok prog w O n B G v (assign (.Tuple [.Name x px, .Name y py] k p) env (.ref t)) Q :=
  Ok.unpack ht rfl rfl (by
    show Ok prog w O n B G v (assignInOrder [assign (.Name x px) env, assign (.Name y py) env] [a, b]) Q
    exact Ok.aio_cons (Ok.assign_name (h.mono fun _ _ _ _ q => Ok.aio_cons (Ok.assign_name (q.mono fun _ _ _ _ q => Ok.aio_nil q)))))

/-- three targets at once out of a written tuple: the last is stored first -/
theorem Ok.assign_swap3 {elts : List Expr} {k : Nat} {tp p : Pos} {value : Expr} {x y z : Str} {Q : Post Flow}
    (h : Ok prog w O n B G v (eval value env) fun a B1 G1 v1 => ∃ t i j l, a = .ref t ∧ tupB B1 t [i, j, l] ∧ Ok prog w O n B1 G1 v1 (storeName env z l) fun _ B2 G2 v2 => Ok prog w O n B2 G2 v2 (storeName env y j) fun _ B3 G3 v3 =>
      Ok prog w O n B3 G3 v3 (storeName env x i) fun _ B4 G4 v4 => Q .next B4 G4 v4)
    (hs : swapsWithSole [.Tuple elts k tp] value p.line env = pure false) (hw : swappedStores [.Tuple elts k tp] value env = pure (some [x, y, z])) : Ok prog w O n B G v (exec (.Assign [.Tuple elts k tp] value p) env) Q := fun A s R S =>
  Assign_Tuple_swapped (wpAny_mono (h A s R S) (fun a s1 ⟨B1, G1, v1, S1, t, i, j, l, e, ht, h1⟩ => by
    subst e
    refine wpAny_unpackItems_tuple (items := [i, j, l].toArray) R.handled (isTuple_of (SeqAt.at (v := v1) (.inr ht) S1)) fun h' hx => ?_
    have S2 := S1.extAll (fun b o e => hx b o (Nat.ne_of_lt (Heap.lt_size e)) e) s1.toks
    have h2 : Ok prog w O n B1 G1 v1 (assignInOrder [fun u => bindName env z u, fun u => bindName env y u, fun u => bindName env x u] [l, j, i]) fun _ B4 G4 v4 => Q .next B4 G4 v4 :=
      Ok.aio_cons (Ok.bind_name (h1.mono fun _ _ _ _ q => Ok.aio_cons (Ok.bind_name (q.mono fun _ _ _ _ q => Ok.aio_cons (Ok.bind_name (q.mono fun _ _ _ _ q => Ok.aio_nil q)))))) 
    exact h2 A _ R S2) fun _ _ x => x) hs hw

/-! ### slices -/
def slcB (B : Base) (a : Addr) (l u st : Value) : Prop := B a = some { cls := .type "slice", data := .fields #[l, u, st] }
theorem Ok.part_none {Q : Post Value} (h : Q .none B G v) : Ok prog w O n B G v (evalPart none env) Q := fun A s R S => by rw [evalPart_none]; exact wpAny_pure ⟨_, _, _, S, h⟩
theorem Ok.part_some {e : Expr} {Q : Post Value} (h : Ok prog w O n B G v (eval e env) Q) : Ok prog w O n B G v (evalPart (some e) env) Q := h
theorem Ok.slice {l u st : Option Expr} {p : Pos} {Q : Post Value}
    (h : Ok prog w O n B G v (evalPart l env) fun a B1 G1 v1 => Ok prog w O n B1 G1 v1 (evalPart u env) fun b B2 G2 v2 => Ok prog w O n B2 G2 v2 (evalPart st env) fun c B3 G3 v3 => ∀ sl B4, BLe B3 B4 → slcB B4 sl a b c → Q (.ref sl) B4 G3 v3) :
    Ok prog w O n B G v (eval (.Slice l u st p) env) Q := fun A s R S =>
  wpAny_Slice (Ok.go h R S (fun a s1 _ _ _ S1 h1 => Ok.go h1 R S1 (fun b s2 _ _ _ S2 h2 => Ok.go h2 R S2 (fun c s3 _ _ _ S3 h3 => by
    obtain ⟨k1, k2⟩ := S3.pushB ({ cls := .type "slice", data := .fields #[a, b, c] } : Obj) rfl s3.toks
    exact ⟨_, _, _, k2, h3 _ _ k1 (Base.add_self ..)⟩))))
theorem Ok.sub_slice {value slice : Expr} {l sl : Addr} {xs : List Value} {vl vu vs : Value} {lo hi st : Option Int} {ys : List Value} {ops : List Value} {Q : Post Value} (hl : LstAt B v l xs) (hs : slcB B sl vl vu vs) (pl : IsPart vl lo) (pu : IsPart vu hi) (ps : IsPart vs st) (h0 : st ≠ some 0)
    (hz : xs.length ≤ sizeLine) (hy : slicePick xs.toArray lo hi st = ys.toArray) (h : ∀ a, Q (.ref a) B G ((a, rList ys) :: v))
    (ho : subscripted slice false (.ref l) (.ref sl) = operate ops (getItem (.ref l) (.ref sl))) : Ok prog w O n B G v (subscriptTail value slice (.ref l) (.ref sl)) Q := fun A s R S => by
  have hL := isList_of (hl.at S)
  refine tail_any hL.typeIs slot_list_getitem.lookup (wpAny_getItem_list_slice hL ⟨_, S.keep _ _ hs, rfl, rfl⟩ pl pu ps h0 ?_ (by simpa using hz)) ho
  rw [hy]
  exact ⟨_, _, _, S.push ({ cls := .type "list", data := .seq ys.toArray } : Obj) rfl ⟨0, rfl⟩ s.toks, h _⟩
end

theorem pick_rev (xs : List Value) : slicePick xs.toArray none none (some (-1)) = xs.reverse.toArray := by
  have e : sliceBounds none none (some (-1)) xs.toArray.size = ((xs.length : Int) - 1, -1, -1) := by
    simp [sliceBounds]
  unfold slicePick
  rw [e]
  congr 1
  have e2 : sliceRange ((xs.length : Int) - 1) (-1) (-1) = (List.range xs.length).map fun k => xs.length - 1 - k := by
    unfold sliceRange
    rw [if_neg (by decide)]
    by_cases h : (xs.length : Int) - 1 > -1
    · rw [if_pos h]
      have : (((xs.length : Int) - 1 - -1 - -1 - 1) / - -1).toNat = xs.length := by
        have : ((xs.length : Int) - 1 - -1 - -1 - 1) / - -1 = xs.length := by
          rw [show (- -1 : Int) = 1 by decide, Int.ediv_one]; (first | lia | omega)
        rw [this]; (first | lia | omega)
      show List.map (fun k : Nat => ((xs.length : Int) - 1 + -1 * (k : Int)).toNat) (List.range (((xs.length : Int) - 1 - -1 - -1 - 1) / - -1).toNat) = _
      rw [this]
      refine List.map_congr_left fun k hk => ?_
      rw [List.mem_range] at hk
      (first | lia | omega)
    · have : xs.length = 0 := by (first | lia | omega)
      rw [if_neg h, this]; rfl
  rw [e2]
  refine List.ext_getElem? fun i => ?_
  rw [List.filterMap_map]
  have e3 : ((fun x => xs.toArray[x]?) ∘ fun k => xs.length - 1 - k) = fun k => xs[xs.length - 1 - k]? := by funext k; simp
  rw [e3]
  have key : ∀ m, m ≤ xs.length → (List.range m).filterMap (fun k => xs[xs.length - 1 - k]?) = (xs.reverse.take m) := by
    intro m
    induction m with
    | zero => intro _; simp
    | succ m ih =>
      intro hm
      rw [List.range_succ, List.filterMap_append, ih (by first | lia | omega), List.take_add_one]
      congr 1
      have : xs[xs.length - 1 - m]? = some (xs[xs.length - 1 - m]'(by first | lia | omega)) := List.getElem?_eq_getElem _
      rw [List.getElem?_reverse (by first | lia | omega), this]
      simp [this]
  rw [key _ (Nat.le_refl _), List.take_of_length_le (by simp)]
local macro_rules | `(tactic| tbr_iter "go") => `(tactic| first
  | with_reducible refine Ok.part_none ?_
  | with_reducible refine Ok.part_some ?_
  | with_reducible refine Ok.slice ?_
  | ((with_reducible refine' Ok.expr_ ?zze ?zzk ?zzhs); (case zze => with_reducible assumption); (case zzhs => exact rfl)))
-- part Swept
/-! ### the row by plain lists -/
def insL (row : List (Int × Int)) (p : Int × Int) : List (Int × Int) := row.takeWhile (fun q => decide (q.1 < p.1)) ++ p :: row.dropWhile (fun q => decide (q.1 < p.1))
def insR (row : List (Int × Int)) (p : Int × Int) : List (Int × Int) := row.takeWhile (fun q => decide (q.1 ≤ p.1)) ++ p :: row.dropWhile (fun q => decide (q.1 ≤ p.1))
def Srt (row : List (Int × Int)) : Prop := row.Pairwise fun a b => a.1 ≤ b.1
def stepsOf (rs : List Int) : Nat → List Nat → List (Int × Int)
  | _, [] => []
  | m, k :: ks => (rs.getD (m + 2 ^ k) 0, (k : Int)) :: stepsOf rs (m + 2 ^ k) ks
def maskOf (ks : List Nat) : Nat := (ks.map (2 ^ ·)).sum
def sweptOf (rs : List Int) (ks : List Nat) (turned : Bool) : List (Int × Int) :=
  if turned then (stepsOf rs 0 ks).reverse.foldl insR [] else (stepsOf rs 0 ks).foldl insL []

theorem thr (pr : Int × Int → Bool) (hd : ∀ a b : Int × Int, a.1 ≤ b.1 → pr b = true → pr a = true) : ∀ (row : List (Int × Int)), Srt row → (row.takeWhile pr).length ≤ row.length ∧
    (∀ (i : Nat) q, row[i]? = some q → (pr q = true ↔ i < (row.takeWhile pr).length)) ∧ row.take (row.takeWhile pr).length = row.takeWhile pr ∧ row.drop (row.takeWhile pr).length = row.dropWhile pr := by
  intro row
  induction row with
  | nil => intro _; simp
  | cons a row ih =>
    intro hs
    unfold Srt at hs
    rw [List.pairwise_cons] at hs
    obtain ⟨h1, h2, h3, h4⟩ := ih hs.2
    by_cases ha : pr a = true
    · rw [List.takeWhile_cons_of_pos ha, List.dropWhile_cons_of_pos ha]
      refine ⟨by simpa using h1, fun i q hq => ?_, by simpa using h3, by simpa using h4⟩
      cases i with
      | zero => simp at hq; subst hq; simp [ha]
      | succ i => simp only [List.length_cons]; rw [h2 i q (by simpa using hq)]; (first | lia | omega)
    · rw [List.takeWhile_cons_of_neg ha, List.dropWhile_cons_of_neg ha]
      refine ⟨by simp, fun i q hq => ?_, by simp, by simp⟩
      simp only [List.length_nil, Nat.not_lt_zero, iff_false]
      intro hpq
      cases i with
      | zero => simp at hq; subst hq; exact ha hpq
      | succ i =>
        have : q ∈ row := List.mem_of_getElem? (by simpa using hq)
        exact ha (hd a q (hs.1 q this) hpq)
theorem mem_takeWhile {α : Type} (p : α → Bool) {l : List α} {a : α} (h : a ∈ l.takeWhile p) : p a = true := by
  induction l with
  | nil => simp at h
  | cons b l ih =>
    by_cases hb : p b = true
    · rw [List.takeWhile_cons_of_pos hb, List.mem_cons] at h
      rcases h with rfl | h
      · exact hb
      · exact ih h
    · rw [List.takeWhile_cons_of_neg hb] at h; simp at h
theorem ins_srt (pr : Int × Int → Bool) (hd : ∀ a b : Int × Int, a.1 ≤ b.1 → pr b = true → pr a = true) (p : Int × Int) (h1 : ∀ q, pr q = true → q.1 ≤ p.1) (h2 : ∀ q, pr q = false → p.1 ≤ q.1) (row : List (Int × Int)) (hs : Srt row) :
    Srt (row.takeWhile pr ++ p :: row.dropWhile pr) := by
  obtain ⟨k1, k2, k3, k4⟩ := thr pr hd row hs
  unfold Srt at hs ⊢
  rw [← List.takeWhile_append_dropWhile (p := pr) (l := row), List.pairwise_append] at hs
  rw [List.pairwise_append, List.pairwise_cons]
  have hdrop : ∀ q ∈ row.dropWhile pr, pr q = false := by
    intro q hq
    rw [← k4] at hq
    obtain ⟨j, hj⟩ := List.getElem?_of_mem hq
    rw [List.getElem?_drop] at hj
    cases hp : pr q with
    | false => rfl
    | true => have := (k2 _ q hj).mp hp; (first | lia | omega)
  refine ⟨hs.1, ⟨fun q hq => h2 q (hdrop q hq), hs.2.1⟩, fun a ha b hb => ?_⟩
  rcases List.mem_cons.mp hb with rfl | hb
  · exact h1 a (mem_takeWhile pr ha)
  · exact hs.2.2 a ha b hb
theorem insL_srt (row : List (Int × Int)) (p : Int × Int) (hs : Srt row) : Srt (insL row p) :=
  ins_srt _ (fun a b h hb => by simp only [decide_eq_true_eq] at *; (first | lia | omega)) p (fun q h => by simp only [decide_eq_true_eq] at h; (first | lia | omega)) (fun q h => by simp only [decide_eq_false_iff_not] at h; (first | lia | omega)) row hs
theorem insR_srt (row : List (Int × Int)) (p : Int × Int) (hs : Srt row) : Srt (insR row p) :=
  ins_srt _ (fun a b h hb => by simp only [decide_eq_true_eq] at *; (first | lia | omega)) p (fun q h => by simp only [decide_eq_true_eq] at h; (first | lia | omega)) (fun q h => by simp only [decide_eq_false_iff_not] at h; (first | lia | omega)) row hs
theorem insL_len (row : List (Int × Int)) (p : Int × Int) : (insL row p).length = row.length + 1 := by
  have := congrArg List.length (List.takeWhile_append_dropWhile (p := fun q : Int × Int => decide (q.1 < p.1)) (l := row))
  simp only [insL, List.length_append, List.length_cons] at *; (first | lia | omega)
theorem insR_len (row : List (Int × Int)) (p : Int × Int) : (insR row p).length = row.length + 1 := by
  have := congrArg List.length (List.takeWhile_append_dropWhile (p := fun q : Int × Int => decide (q.1 ≤ p.1)) (l := row))
  simp only [insR, List.length_append, List.length_cons] at *; (first | lia | omega)
theorem maskOf_snoc (a : List Nat) (k : Nat) : maskOf (a ++ [k]) = maskOf a + 2 ^ k := by simp [maskOf]
theorem stepsOf_snoc (rs : List Int) (k : Nat) : ∀ (a : List Nat) (m : Nat), stepsOf rs m (a ++ [k]) = stepsOf rs m a ++ [(rs.getD (m + maskOf a + 2 ^ k) 0, (k : Int))]
  | [], m => by simp [stepsOf, maskOf]
  | b :: a, m => by
    rw [List.cons_append, stepsOf, stepsOf_snoc rs k a, stepsOf]
    simp [maskOf, Nat.add_assoc]
theorem stepsOf_len (rs : List Int) : ∀ (a : List Nat) (m : Nat), (stepsOf rs m a).length = a.length
  | [], _ => rfl
  | _ :: a, m => by simp [stepsOf, stepsOf_len rs a]
theorem maskOf_take (ks : List Nat) (i : Nat) : maskOf (ks.take i) ≤ maskOf ks := by
  have : maskOf ks = maskOf (ks.take i) + maskOf (ks.drop i) := by
    unfold maskOf; rw [← List.sum_append, ← List.map_append, List.take_append_drop]
  (first | lia | omega)

section
variable {w : World} {O : OsState} {n : Nat} {B : Base} {G : Array GenState} {v : Vol} {Q : Post Value}
theorem law_swept {ord rl : Addr} {ks rxs : List Value} {os : List Nat} {rs : List Int} {turned : Bool} (hT : TopB B) (ho : tupB B ord ks) (hk : IntsV ks (os.map Int.ofNat)) (hk4 : ∀ k ∈ os, k < 4) (hr : LstAt B v rl rxs) (hri : IntsV rxs rs)
    (hlen : os.length < 100) (hmask : maskOf os < rs.length) (hrl : rs.length < 1000)
    (h : ∀ a B' xs, BLe B B' → All2 (PairV B') xs (sweptOf rs os turned) → Q (.ref a) B' G ((a, rList xs) :: v)) :
    Ok prg w O (n + 4) B G v (call (.ref 132) [.ref ord, .ref rl, .bool turned]) Q := by
  obtain ⟨r, hF⟩ := hT.f20
  refine Ok.call_def hF ["order", "rests", "turned"] ["steps", "mask", "row", "k", "step"] [.ref ord, .ref rl, .bool turned] (ns := ["order", "rests", "turned", "steps", "mask", "row", "k", "step"])
    (vs := [some (.ref ord), some (.ref rl), some (.bool turned), none, none, none, none, none]) (fun s S => .of_eq rfl) (by decide +kernel) rfl rfl rfl fun L env hA => ?_
  have hE := hA.is ["order", "rests", "turned", "steps", "mask", "row", "k", "step"] ["insort_left", "insort_right", "_law_first"] (by decide +kernel) (by decide +kernel)
  conv in (bodyAt 20) => whnf
  tbr_iter "go*"
  refine Ok.assign_swap3 (x := "steps") (y := "mask") (z := "row") ?_ rfl (by unfold swappedStores Env.blockKind Env.kindOf; rw [hA.scope]; rfl)
  refine Ok.tuple ?_
  tbr_iter "go*"
  refine Ok.listd ?_
  tbr_iter "go*"
  refine ⟨by decide, fun sa => ?_⟩
  tbr_iter "go*"
  refine Ok.listd ?_
  tbr_iter "go*"
  refine ⟨by decide, fun ra => ?_⟩
  tbr_iter "go*"
  refine ⟨Nat.le_of_ble_eq_true rfl, fun ta B2 hle2 htup => ⟨_, _, _, _, rfl, ⟨0, htup⟩, ?_⟩⟩
  have hT2 := hT.mono hle2
  have ho2 := ho.mono hle2
  have hr2 : LstAt B2 v rl rxs := hr.imp id fun x => x.mono hle2
  tbr_iter "go*"
  refine Ok.iter_tup ho2 fun I => ?_
  have hkl := hk.length
  rw [List.length_map] at hkl
  refine OkC.lpG4 (fun (i : Nat) (t : Tok) (ko : Option Value) (sx : List Value) => os.length - i) (fun i t ko sx =>
    (I, rTit ord i) :: (ra, rList []) :: (sa, rList sx) :: (L, rFr ["order", "rests", "turned", "steps", "mask", "row", "k", "step"]
      [some (.ref ord), some (.ref rl), some (.bool turned), some (.ref sa), some (.int (maskOf (os.take i)) t), some (.ref ra), ko, none]) :: v) (fun i t ko sx B' => BLe B2 B' ∧ i ≤ os.length ∧ All2 (PairV B') sx (stepsOf rs 0 (os.take i))) ?_ 0 _ _ [] ⟨BLe.refl _, Nat.zero_le _, .nil⟩
  rintro i t ko sx B' ⟨hle, hi, hs⟩ ih
  have hT3 := hT2.mono hle
  have ho3 := ho2.mono hle
  have hr3 : LstAt B' v rl rxs := hr2.imp id fun x => x.mono hle
  refine OkC.for_turn ?_
  by_cases hlt : i < os.length
  · obtain ⟨kv, hkv, tk, rfl⟩ := hk.get (i := i) (b := Int.ofNat os[i]) (by simp [hlt])
    refine Ok.next_tup .here ho3 hkv ?_
    have hk5 := hk4 os[i] (List.getElem_mem hlt)
    have htake : os.take (i + 1) = os.take i ++ [os[i]] := by rw [List.take_add_one]; simp [hlt]
    have hm1 := maskOf_take os (i + 1)
    rw [htake, maskOf_snoc] at hm1
    have hsl := hs.length
    rw [stepsOf_len, List.length_take] at hsl
    tbr_iter "go*"
    refine Ok.pow_int (by exact Int.natCast_nonneg _) (by show ((2 : Nat) : Int) * ((os[i] : Nat) : Int) ≤ _; (first | lia | omega)) fun _ => ?_
    tbr_iter "go*"
    refine Ok.method PySem.F.plainAttrs_list slot_list_append PySem.F.type_list_append rfl rfl rfl rfl ?_
    tbr_iter "go*"
    refine ⟨LstAt.meth (.inl (by tbr_iter "has")), ?_⟩
    tbr_iter "go*"
    refine Ok.tuple ?_
    tbr_iter "go*"
    have hmi : (maskOf (os.take i) : Int) + 2 ^ (Int.ofNat os[i]).toNat = ((maskOf (os.take i) + 2 ^ os[i] : Nat) : Int) := by simp
    have hm3 : maskOf (os.take (i + 1)) = maskOf (os.take i) + 2 ^ os[i] := by rw [htake, maskOf_snoc]
    have hst : stepsOf rs 0 (os.take (i + 1)) = stepsOf rs 0 (os.take i) ++ [(rs.getD (maskOf (os.take (i + 1))) 0, (os[i] : Int))] := by rw [hm3, htake, stepsOf_snoc, Nat.zero_add]
    rw [← hm3] at hmi hm1
    rw [hmi]
    generalize hM : maskOf (os.take (i + 1)) = M at *
    obtain ⟨rv, hrv, tr, rfl⟩ := hri.get (i := M) (b := rs.getD M 0) (by
      rw [List.getD_eq_getElem?_getD, List.getElem?_eq_getElem (by tbr_iter "om")]; rfl)
    refine Ok.item_list (hr3.imp (fun x => .there (.there (.there (.there x)))) id) (by tbr_iter "om") (by tbr_iter "om") (by rw [Int.toNat_natCast]; exact hrv) ?_
    tbr_iter "go*"
    refine ⟨Nat.le_of_ble_eq_true rfl, fun pa B3 hle3 hpa => ?_⟩
    tbr_iter "go*"
    refine Ok.list_append (by tbr_iter "upd") (by have : sizeLine = 2 ^ 24 := rfl; (first | lia | omega)) ?_
    refine ⟨nofun, ?_⟩
    tbr_iter "go*"
    rw [← hM]
    refine' ih (i + 1) _ _ _ _ (by tbr_iter "om") ⟨hle.trans hle3, by tbr_iter "om", ?_⟩
    · rw [hst]
      exact (hs.imp fun a b x => x.mono hle3).snoc ⟨pa, tr, tk, rfl, 0, hpa⟩
  · have hie : i = os.length := by tbr_iter "om"
    subst hie
    refine Ok.next_tup_end .here ho3 (by rw [List.getElem?_eq_none]; (first | lia | omega)) ?_
    rw [List.take_length] at hs
    have hsl := hs.length
    rw [stepsOf_len] at hsl
    tbr_iter "go*"
    cases turned
    · -- left
      tbr_iter "go*"
      refine Ok.iter_list (.inl (by tbr_iter "has")) fun J => ?_
      refine OkC.ind (fun k Bx Gx vx => Gx = G ∧ BLe B' Bx ∧ ∃ (i : Nat) (so : Option Value) (rx : List Value) , i ≤ os.length ∧ k = os.length - i ∧ All2 (PairV Bx) rx (((stepsOf rs 0 os).take i).foldl insL []) ∧ Del vx ra (rList rx) ((J, rLit sa i) :: (sa, rList sx) :: (L, rFr ["order", "rests", "turned", "steps", "mask", "row", "k", "step"]
          [some (.ref ord), some (.ref rl), some (.bool false), some (.ref sa), some (.int (maskOf (os.take os.length)) t), some (.ref ra), ko, so]) :: v))
        ?_ os.length ⟨rfl, BLe.refl _, 0, _, [], Nat.zero_le _, rfl, .nil, by tbr_iter "del"⟩
      rintro k Bx Gx vx ⟨rfl, hle5, i, so, rx, hi, rfl, hrx, hd⟩ ih
      have hTx := hT3.mono hle5
      have hlx := hrx.length
      have hfl : ∀ (l : List (Int × Int)) (r : List (Int × Int)), (l.foldl insL r).length = r.length + l.length := by
        intro l; induction l with
        | nil => intro r; rfl
        | cons a l ih => intro r; rw [List.foldl_cons, ih, insL_len, List.length_cons]; (first | lia | omega)
      have hfs : ∀ (l : List (Int × Int)) (r : List (Int × Int)), Srt r → Srt (l.foldl insL r) := by
        intro l; induction l with
        | nil => intro r hr; exact hr
        | cons a l ih => intro r hr; exact ih _ (insL_srt r a hr)
      rw [hfl, List.length_nil, List.length_take] at hlx
      have hql : ((stepsOf rs 0 os)).length = os.length := by simp [stepsOf_len]
      refine OkC.for_turn ?_
      refine Ok.pull hd ?_
      by_cases hlt : i < os.length
      · obtain ⟨pv, hpv, hpp⟩ := hs.get (i := i) (b := ((stepsOf rs 0 os))[i]'(by tbr_iter "om")) (List.getElem?_eq_getElem _)
        have hpp := hpp.mono hle5
        refine Ok.next_list (.there .here) (.inl (by tbr_iter "has")) hpv ?_
        tbr_iter "go*"
        refine Ok.call_fn_kw (f := 41) ?_ rfl
        tbr_iter "go*"
        refine ⟨rfl, ?_⟩
        tbr_iter "go*"
        refine ⟨let ⟨r, e⟩ := hTx.f3; e.fnB, ?_⟩
        generalize hp : ((stepsOf rs 0 os))[i]'(by tbr_iter "om") = p at *
        obtain ⟨k1, k2, k3, k4⟩ := thr (fun q : Int × Int => decide (q.1 < p.1)) (fun a b h hb => by simp only [decide_eq_true_eq] at *; (first | lia | omega)) _ (hfs (((stepsOf rs 0 os)).take i) [] List.Pairwise.nil)
        refine insort_left (n := n) hTx hrx hpp (by tbr_iter "om") k1 (fun j q hq => by rw [← k2 j q hq, decide_eq_true_eq]) ?_
        refine ⟨nofun, ?_⟩
        tbr_iter "go*"
        refine ih (os.length - (i + 1)) _ _ _ (by tbr_iter "om") ⟨rfl, hle5, i + 1, _, _, by tbr_iter "om", rfl, ?_, .here⟩
        have ht : ((stepsOf rs 0 os)).take (i + 1) = ((stepsOf rs 0 os)).take i ++ [p] := by
          rw [List.take_add_one, List.getElem?_eq_getElem (by tbr_iter "om"), hp]; rfl
        rw [ht, List.foldl_append]
        have e : ∀ X : List (Int × Int), X.take (X.takeWhile (fun q : Int × Int => decide (q.1 < p.1))).length = X.takeWhile (fun q : Int × Int => decide (q.1 < p.1)) → X.drop (X.takeWhile (fun q : Int × Int => decide (q.1 < p.1))).length = X.dropWhile (fun q : Int × Int => decide (q.1 < p.1)) →
            insL X p = X.take (X.takeWhile (fun q : Int × Int => decide (q.1 < p.1))).length ++ p :: X.drop (X.takeWhile (fun q : Int × Int => decide (q.1 < p.1))).length := fun X a b => by rw [a, b]; rfl
        show All2 _ _ (insL _ p)
        rw [e _ k3 k4]
        refine (hrx.take _).app (.cons hpp ?_)
        exact hrx.drop _
      · have hie : i = os.length := by tbr_iter "om"
        subst hie
        rw [List.take_of_length_le (by tbr_iter "om")] at hrx
        refine Ok.next_list_end (.there .here) (.inl (by tbr_iter "has")) (by rw [List.getElem?_eq_none]; have := hs.length; (first | lia | omega)) ?_
        refine Ok.drop (.there .here) ?_
        tbr_iter "go*"
        exact ⟨_, _, .there .here, h _ _ _ (hle2.trans (hle.trans hle5)) (by simpa [sweptOf] using hrx)⟩
    · -- right
      tbr_iter "go*"
      intro slc B4 hle4 hsl
      refine Ok.sub_slice (.inl (by tbr_iter "has")) hsl .none .none (.int _ _) (by decide) (by have : sizeLine = 2 ^ 24 := rfl; (first | lia | omega)) (pick_rev sx) ?_ rfl
      intro sl
      have hT3 := hT3.mono hle4
      have hs := hs.imp fun a b (x : PairV _ a b) => x.mono hle4
      have hs := hs.rev
      have hle := hle.trans hle4
      tbr_iter "go*"
      refine Ok.iter_list (.inl (by tbr_iter "has")) fun J => ?_
      refine OkC.ind (fun k Bx Gx vx => Gx = G ∧ BLe B4 Bx ∧ ∃ (i : Nat) (so : Option Value) (rx : List Value) , i ≤ os.length ∧ k = os.length - i ∧ All2 (PairV Bx) rx (((stepsOf rs 0 os).reverse.take i).foldl insR []) ∧ Del vx ra (rList rx) ((J, rLit sl i) :: (sl, rList sx.reverse) :: (sa, rList sx) :: (L, rFr ["order", "rests", "turned", "steps", "mask", "row", "k", "step"]
          [some (.ref ord), some (.ref rl), some (.bool true), some (.ref sa), some (.int (maskOf (os.take os.length)) t), some (.ref ra), ko, so]) :: v))
        ?_ os.length ⟨rfl, BLe.refl _, 0, _, [], Nat.zero_le _, rfl, .nil, by tbr_iter "del"⟩
      rintro k Bx Gx vx ⟨rfl, hle5, i, so, rx, hi, rfl, hrx, hd⟩ ih
      have hTx := hT3.mono hle5
      have hlx := hrx.length
      have hfl : ∀ (l : List (Int × Int)) (r : List (Int × Int)), (l.foldl insR r).length = r.length + l.length := by
        intro l; induction l with
        | nil => intro r; rfl
        | cons a l ih => intro r; rw [List.foldl_cons, ih, insR_len, List.length_cons]; (first | lia | omega)
      have hfs : ∀ (l : List (Int × Int)) (r : List (Int × Int)), Srt r → Srt (l.foldl insR r) := by
        intro l; induction l with
        | nil => intro r hr; exact hr
        | cons a l ih => intro r hr; exact ih _ (insR_srt r a hr)
      rw [hfl, List.length_nil, List.length_take] at hlx
      have hql : ((stepsOf rs 0 os).reverse).length = os.length := by simp [stepsOf_len]
      refine OkC.for_turn ?_
      refine Ok.pull hd ?_
      by_cases hlt : i < os.length
      · obtain ⟨pv, hpv, hpp⟩ := hs.get (i := i) (b := ((stepsOf rs 0 os).reverse)[i]'(by tbr_iter "om")) (List.getElem?_eq_getElem _)
        have hpp := hpp.mono hle5
        refine Ok.next_list (.there .here) (.inl (by tbr_iter "has")) hpv ?_
        tbr_iter "go*"
        refine Ok.call_fn_kw (f := 23) ?_ rfl
        tbr_iter "go*"
        refine ⟨rfl, ?_⟩
        tbr_iter "go*"
        refine ⟨let ⟨r, e⟩ := hTx.f1; e.fnB, ?_⟩
        generalize hp : ((stepsOf rs 0 os).reverse)[i]'(by tbr_iter "om") = p at *
        obtain ⟨k1, k2, k3, k4⟩ := thr (fun q : Int × Int => decide (q.1 ≤ p.1)) (fun a b h hb => by simp only [decide_eq_true_eq] at *; (first | lia | omega)) _ (hfs (((stepsOf rs 0 os).reverse).take i) [] List.Pairwise.nil)
        refine insort_right (n := n) hTx hrx hpp (by tbr_iter "om") k1 (fun j q hq => by rw [← k2 j q hq, decide_eq_true_eq]) ?_
        refine ⟨nofun, ?_⟩
        tbr_iter "go*"
        refine ih (os.length - (i + 1)) _ _ _ (by tbr_iter "om") ⟨rfl, hle5, i + 1, _, _, by tbr_iter "om", rfl, ?_, .here⟩
        have ht : ((stepsOf rs 0 os).reverse).take (i + 1) = ((stepsOf rs 0 os).reverse).take i ++ [p] := by
          rw [List.take_add_one, List.getElem?_eq_getElem (by tbr_iter "om"), hp]; rfl
        rw [ht, List.foldl_append]
        have e : ∀ X : List (Int × Int), X.take (X.takeWhile (fun q : Int × Int => decide (q.1 ≤ p.1))).length = X.takeWhile (fun q : Int × Int => decide (q.1 ≤ p.1)) → X.drop (X.takeWhile (fun q : Int × Int => decide (q.1 ≤ p.1))).length = X.dropWhile (fun q : Int × Int => decide (q.1 ≤ p.1)) →
            insR X p = X.take (X.takeWhile (fun q : Int × Int => decide (q.1 ≤ p.1))).length ++ p :: X.drop (X.takeWhile (fun q : Int × Int => decide (q.1 ≤ p.1))).length := fun X a b => by rw [a, b]; rfl
        show All2 _ _ (insR _ p)
        rw [e _ k3 k4]
        refine (hrx.take _).app (.cons hpp ?_)
        exact hrx.drop _
      · have hie : i = os.length := by tbr_iter "om"
        subst hie
        rw [List.take_of_length_le (by tbr_iter "om")] at hrx
        refine Ok.next_list_end (.there .here) (.inl (by tbr_iter "has")) (by rw [List.getElem?_eq_none]; have := hs.length; (first | lia | omega)) ?_
        refine Ok.drop (.there .here) ?_
        refine Ok.drop (.there .here) ?_
        tbr_iter "go*"
        exact ⟨_, _, .there .here, h _ _ _ (hle2.trans (hle.trans hle5)) (by simpa [sweptOf] using hrx)⟩
end
-- part Comps
/-! ### the frame of a list comprehension -/
def closOf (names : List (Str × NameKind)) (cells : List (Str × Addr)) : List (Str × Addr) := (names.filterMap fun p => if p.2 == .free then some (p.1, (cells.lookup p.1).getD 0) else none).reverse

theorem forIn_yield {α β : Type} {f : α → β → Sem (ForInStep β)} (g : α → β → β) : ∀ (l : List α) (c : β), (∀ x ∈ l, ∀ c, f x c = pure (.yield (g x c))) → forIn l c f = pure (l.foldl (fun c x => g x c) c)
  | [], _, _ => rfl
  | x :: l, c, h => by
    rw [List.forIn_cons, h x List.mem_cons_self, pure_bind]
    exact forIn_yield g l _ fun y hy => h y (List.mem_cons_of_mem _ hy)

theorem closureFor_cells {scope : Scope} {env : Env} (h : ∀ p ∈ scope.names, p.2 = .free → ∃ a, env.cells.lookup p.1 = some a) : closureFor scope env = pure (closOf scope.names env.cells) := by
  simp only [closureFor]
  rw [forIn_yield (fun (p : Str × NameKind) (c : List (Str × Addr)) => if (p.2 == NameKind.free) = true then (p.1, (env.cells.lookup p.1).getD 0) :: c else c) _ _ (fun p hp c => by
    obtain ⟨n, k⟩ := p
    by_cases hk : k = .free
    · obtain ⟨a, ha⟩ := h _ hp hk
      dsimp only at ha
      have hb : (k == NameKind.free) = true := by rw [hk]; rfl
      have hc : cellOf env n = pure a := by unfold cellOf; rw [ha]
      simp only [hb, if_true, hc, pure_bind, ha]; rfl
    · have hb : (k == NameKind.free) = false := by simpa using hk
      simp only [hb, Bool.false_eq_true, if_false])]
  rw [pure_bind]
  congr 1
  unfold closOf
  have key : ∀ (l : List (Str × NameKind)) (cs : List (Str × Addr)), l.foldl (fun c p => if (p.2 == NameKind.free) = true then (p.1, (env.cells.lookup p.1).getD 0) :: c else c) cs =
      (l.filterMap fun p => if p.2 == .free then some (p.1, (env.cells.lookup p.1).getD 0) else none).reverse ++ cs := by
    intro l
    induction l with
    | nil => intro cs; rfl
    | cons p l ih =>
      intro cs
      rw [List.foldl_cons, ih]
      cases hp : p.2 == NameKind.free with
      | true => rw [List.filterMap_cons]; simp only [hp, if_true, List.reverse_cons, List.append_assoc]; rfl
      | false => rw [List.filterMap_cons]; simp only [hp, if_false, Bool.false_eq_true]
  rw [key, List.append_nil]

def chkC (sc : Scope) (ns gl cf : List Str) : Bool :=
  sc.kind == .function && decide (sc.names.map (·.1)).Nodup && sc.names.all (fun p => p.2 != .cell) && ns.all (fun x => sc.names.lookup x == some .local && !(x == ("__debug__" : Str))) &&
  gl.all (fun x => sc.names.lookup x == some .globalImplicit && !(x == ("__debug__" : Str))) && cf.all (fun x => sc.names.lookup x == some .free) && sc.names.all (fun p => p.2 != .free || cf.contains p.1)

theorem lookup_map {g : Str → NameKind → NameKind} : ∀ {names : List (Str × NameKind)} {x : Str}, (names.map fun p => (p.1, g p.1 p.2)).lookup x = (names.lookup x).map (g x)
  | [], _ => rfl
  | (n, k) :: r, x => by
    rw [List.map_cons, List.lookup_cons, List.lookup_cons, lookup_map]
    cases hx : x == n with
    | true => rw [beq_iff_eq.mp hx]; rfl
    | false => rfl
theorem relabel_names (scope : Scope) (env : Env) : (relabel scope env).names = scope.names.map fun p => (p.1, (fun n k => if (k == .free && env.scope.kind == .function && env.kindOf n == some .cell) then .cell else k) p.1 p.2) := by
  unfold relabel
  refine List.map_congr_left fun p _ => ?_
  obtain ⟨n, k⟩ := p
  show (if _ then (n, NameKind.cell) else (n, k)) = _
  split <;> rename_i h <;> simp only [h, if_true, if_false, Bool.false_eq_true]

theorem lookup_mem : ∀ {l : List (Str × NameKind)} {x : Str} {k : NameKind}, l.lookup x = some k → (x, k) ∈ l
  | [], _, _, h => by cases h
  | (n, k') :: r, x, k, h => by
    rw [List.lookup_cons] at h
    cases hx : x == n with
    | true => rw [hx] at h; cases h; rw [beq_iff_eq.mp hx]; exact List.mem_cons_self
    | false => rw [hx] at h; exact List.mem_cons_of_mem _ (lookup_mem h)

theorem EnvIs.comp {env : Env} {L : Addr} {ns0 gl0 : List Str} {cs0 fs0 : List (Str × Addr)} (hE : EnvIs env L ns0 gl0 cs0 fs0) {scope : Scope} (ns gl : List Str) (cs fs : List (Str × Addr)) (hc : chkC scope ns gl (cs.map (·.1) ++ fs.map (·.1)) = true)
    (h1 : ∀ p ∈ cs, p ∈ cs0) (h2 : ∀ p ∈ fs, p ∈ fs0) (C : Addr) : EnvIs (compEnvC scope (closOf scope.names env.cells) C env) C ns gl cs fs ∧ closureFor scope env = pure (closOf scope.names env.cells) := by
  simp only [chkC, Bool.and_eq_true, List.all_eq_true, beq_iff_eq, Bool.not_eq_true', decide_eq_true_eq, bne_iff_ne, Bool.or_eq_true, List.contains_iff_mem] at hc
  obtain ⟨⟨⟨⟨⟨⟨k1, k2⟩, k3⟩, k4⟩, k5⟩, k6⟩, k7⟩ := hc
  have hlk : ∀ x, x ∈ cs.map (·.1) ++ fs.map (·.1) → ∃ a, env.cells.lookup x = some a := by
    intro x hx
    rcases List.mem_append.mp hx with hx | hx
    · obtain ⟨p, hp, rfl⟩ := List.mem_map.mp hx; exact ⟨_, (hE.isCell p (h1 p hp)).2.1⟩
    · obtain ⟨p, hp, rfl⟩ := List.mem_map.mp hx; exact ⟨_, (hE.isFree p (h2 p hp)).2.1⟩
  have hfree : ∀ p ∈ scope.names, p.2 = .free → p.1 ∈ cs.map (·.1) ++ fs.map (·.1) := fun p hp hf => (k7 p hp).resolve_left fun q => q hf
  refine ⟨?_, closureFor_cells fun p hp hf => hlk _ (hfree p hp hf)⟩
  have hlc : ∀ p : Str × Addr, p.1 ∈ cs.map (·.1) ++ fs.map (·.1) → env.cells.lookup p.1 = some p.2 → (closOf scope.names env.cells).lookup p.1 = some p.2 := by
    intro p hp he
    refine lookup_of_mem_nodup ?_ ?_
    · unfold closOf
      rw [List.map_reverse]
      unfold List.Nodup
      rw [List.pairwise_reverse]
      have : ((scope.names.filterMap fun p => if p.2 == .free then some (p.1, (env.cells.lookup p.1).getD 0) else none).map (·.1)).Sublist (scope.names.map (·.1)) := by
        clear k2 k3 k4 k5 k6 k7 hfree
        induction scope.names with
        | nil => exact .slnil
        | cons q l ih =>
          rw [List.filterMap_cons]
          cases hq : q.2 == NameKind.free with
          | true => simp only [if_true, List.map_cons]; exact ih.cons₂ _
          | false => simp only [Bool.false_eq_true, if_false, List.map_cons]; exact ih.cons _
      exact (this.nodup k2).imp fun h => Ne.symm h
    · unfold closOf
      rw [List.mem_reverse, List.mem_filterMap]
      exact ⟨(p.1, .free), lookup_mem (k6 p.1 hp), by simp [he]⟩
  have hkind : ∀ x, (compEnvC scope (closOf scope.names env.cells) C env).kindOf x = (scope.names.lookup x).map fun k => if (k == .free && env.scope.kind == .function && env.kindOf x == some .cell) then .cell else k := by
    intro x
    show (relabel scope env).names.lookup x = _
    rw [relabel_names]
    exact lookup_map (g := fun n k => if (k == .free && env.scope.kind == .function && env.kindOf n == some .cell) then .cell else k)
  refine ⟨k1, rfl, hE.glob, hE.blt, fun x hx => ⟨?_, (k4 x hx).2⟩, fun x hx => ⟨?_, (k5 x hx).2⟩, fun p hp => ?_, fun p hp => ?_⟩
  · rw [hkind, (k4 x hx).1]; rfl
  · rw [hkind, (k5 x hx).1]; rfl
  · have hm : p.1 ∈ cs.map (·.1) ++ fs.map (·.1) := List.mem_append_left _ (List.mem_map_of_mem hp)
    obtain ⟨e1, e2, e3⟩ := hE.isCell p (h1 p hp)
    refine ⟨?_, hlc p hm e2, e3⟩
    rw [hkind, k6 p.1 hm, e1, hE.kind]; rfl
  · have hm : p.1 ∈ cs.map (·.1) ++ fs.map (·.1) := List.mem_append_right _ (List.mem_map_of_mem hp)
    obtain ⟨e1, e2, e3, e4⟩ := hE.isFree p (h2 p hp)
    refine ⟨?_, hlc p hm e2, e3, e4⟩
    rw [hkind, k6 p.1 hm, e1, hE.kind]; rfl

theorem fget_none : ∀ (ns : List Str) (x : Str), fget ns (ns.map fun _ => none) x = none
  | [], _ => rfl
  | n :: ns, x => by
    show (if x = n then none else fget ns (ns.map fun _ => none) x) = none
    rw [fget_none]; split <;> rfl

section
variable (prog : Program) (w : World) (O : OsState) (n : Nat)
abbrev QLc (C D : Addr) (ns : List Str) (Q : Post Value) : Post Flow := fun _ B3 G3 v3 => ∃ vs v4, Del v3 C (rFr ns vs) v4 ∧ Q (.ref D) B3 G3 v4
abbrev QCt6 (e : Expr) (k : Nat) (it acc : Value) (env : Env) (R : Post Flow) : Post Value := fun _ B G v => OkC prog w O n B G v (.compLoop e k it acc env) R
abbrev QCt5 (e : Expr) (k : Nat) (it acc : Value) (env : Env) (R : Post Flow) : Post Value := fun y B G v => Ok prog w O n B G v (call (.builtin "list.append") [acc, y]) (QCt6 prog w O n e k it acc env R)
abbrev QCt4 (elt e : Expr) (k : Nat) (it acc : Value) (env : Env) (R : Post Flow) : Post Bool := fun ok B G v => if ok = true then Ok prog w O n B G v (eval elt env) (QCt5 prog w O n e k it acc env R) else OkC prog w O n B G v (.compLoop e k it acc env) R
abbrev QCt3 (ifs : List Expr) (elt e : Expr) (k : Nat) (it acc : Value) (env : Env) (R : Post Flow) : Post Unit := fun _ B G v => Ok prog w O n B G v (forIn ifs true fun c r => if r = true then do let ok ← isTrue c env (eval c env); pure (ForInStep.yield ok) else pure (ForInStep.yield r)) (QCt4 prog w O n elt e k it acc env R)
abbrev QCt2 (t : Expr) (x : Value) (ifs : List Expr) (elt e : Expr) (k : Nat) (it acc : Value) (env : Env) (R : Post Flow) : Post Unit := fun _ B G v => Ok prog w O n B G v (assign t env x) (QCt3 prog w O n ifs elt e k it acc env R)
abbrev QCt (t : Expr) (ifs : List Expr) (elt e : Expr) (k : Nat) (it acc : Value) (env : Env) (R : Post Flow) : Post (Option Value) := fun r B G v => match r with
  | none => R .next B G v
  | some x => Ok prog w O n B G v (letOwnedTupleGo t it x) (QCt2 prog w O n t x ifs elt e k it acc env R)
end
section
variable {prog : Program} {w : World} {O : OsState} {n : Nat} {B : Base} {G : Array GenState} {v : Vol} {env : Env} {L : Addr} {ns0 gl0 : List Str} {cs0 fs0 : List (Str × Addr)}

/-- the body of a comprehension: what its block must do -/
theorem comp_core {A : Around} {e : Expr} {scope : Scope} {pos : Pos} {first : Sem Value} {g : Comprehension} {gs : List Comprehension} {cl : List (Str × Addr)} {use : Option (Value → Sem Unit)} {Q : Post Value} {s : Shared}
    (hcl : clausesOf e = g :: gs) (hs : ∀ x, foldedSetIterable g.iter env x = pure x) (hclos : closureFor scope env = pure cl) (hkind : scope.kind = .function) (hnd : (scope.names.map (·.1)).Nodup) (hcell : ∀ x ∈ scope.names, x.2 ≠ .cell)
    (ns : List Str) (hns : ns.Nodup) (R : Room n A) (S : St O B G v s)
    (h : Ok prog w O n B G v first fun x B1 G1 v1 => Ok prog w O n B1 G1 v1 (pyIter x) fun it B2 G2 v2 => ∀ D C, OkC prog w O n B2 G2 ((C, rFr ns (ns.map fun _ => none)) :: (D, rList []) :: v2) (.compStart e 0 it (.ref D) (compEnvC scope cl C env))
      fun _ B3 G3 v3 => match use with
        | none => ∃ vs v4, Del v3 C (rFr ns vs) v4 ∧ Q (.ref D) B3 G3 v4
        | some u => Ok prog w O n B3 G3 v3 (u (.ref D)) fun _ B4 G4 v4 => ∃ vs v5, Del v4 C (rFr ns vs) v5 ∧ Q .none B4 G4 v5) :
    wpAny (model prog w) A (comprehension e scope env pos (newList []) false first use) (fun a s' => ∃ B' G' v', St O B' G' v' s' ∧ Q a B' G' v') (fun _ _ => False) s := by
  refine wpAny_comprehension_free hcl hs hclos hkind (fun x hx hl => ?_) ?_
  · obtain ⟨x, k⟩ := x
    subst hl
    have key : ∀ l : List (Str × NameKind), (l.map (·.1)).Nodup → (x, NameKind.local) ∈ l → l.lookup x = some .local := by
      intro l
      induction l with
      | nil => intro _ h; cases h
      | cons p l ih =>
        intro hn hm
        rw [List.map_cons, List.nodup_cons] at hn
        rw [List.lookup_cons]
        rcases List.mem_cons.mp hm with rfl | hm
        · simp
        · have : (x == p.1) = false := beq_eq_false_iff_ne.mpr fun q => hn.1 (q ▸ List.mem_map_of_mem (f := (·.1)) hm)
          rw [this]; exact ih hn.2 hm
    exact key _ hnd hx
  refine wpAny_mono (h A s R S) (fun x s1 ⟨B1, G1, v1, S1, h1⟩ => Ok.go h1 R S1 (fun it s2 B2 G2 v2 S2 h2 => ?_)) fun _ _ x => x.elim
  refine wpAny_newObj_type (wpAny_newFunctionEnv hcell (by intro y hy; simp at hy) (fun h₁ hns₁ hsb₁ => ?_) hkind)
  dsimp only at hns₁ hsb₁ ⊢
  have S3 := S2.push ({ cls := .type "list", dict := none, data := .seq ([] : List Value).toArray } : Obj) rfl (r := rList []) ⟨0, rfl⟩ s2.toks
  generalize hH2 : s2.heap.push { cls := .type "list", dict := none, data := .seq ([] : List Value).toArray } = H2 at *
  obtain ⟨f1, f2⟩ := S3.fresh
  have S4 : St O B2 G2 ((H2.objs.size, rFr ns (ns.map fun _ => none)) :: (s2.heap.objs.size, rList []) :: v2) { s2 with heap := h₁, toks := s2.toks + ([] : List (Str × Value)).length } := by
    have S0 := S3.extAll (h' := h₁) (fun b o e => hsb₁.extBut b o (Nat.ne_of_lt (Heap.lt_size e)) (Heap.get?_push_of_some _ e)) (s2.toks + ([] : List (Str × Value)).length)
    refine ⟨S0.keep, fun p hp => ?_, fun p hp => ?_, ?_, S0.gens, S0.os⟩
    · rcases List.mem_cons.mp hp with rfl | hp
      · obtain ⟨o, e, q⟩ := of_ns hns₁
        refine ⟨o, e, ⟨hns, by simp⟩, ?_⟩
        have : (fun x => ([] : List (Str × Value)).reverse.lookup x) = fget ns (ns.map fun _ => none) := by funext x; rw [fget_none]; rfl
        rw [← this]; exact q
      · exact S0.res p hp
    · rcases List.mem_cons.mp hp with rfl | hp
      · exact f1
      · exact S0.off p hp
    · rw [List.map_cons, List.nodup_cons]
      refine ⟨fun hm => ?_, S0.nd⟩
      obtain ⟨p, hp, e⟩ := List.mem_map.mp hm
      exact f2 p hp e
  refine codeAny_mono (h2 s2.heap.objs.size H2.objs.size A _ R S4) fun r s' x => ?_
  cases r with
  | error y => exact x.elim
  | ok f =>
    obtain ⟨B3, G3, v3, S5, hq⟩ := x
    cases use with
    | none =>
      obtain ⟨vs, v4, hd, hq⟩ := hq
      have S6 := S5.pull hd
      obtain ⟨o, e, ⟨q1, q2⟩, q⟩ := S6.res _ List.mem_cons_self
      refine ⟨_, ns_of ⟨o, e, q⟩, fun h' hs' => ⟨B3, G3, v4, ?_, hq⟩⟩
      exact S5.gone hd hs'.extBut s'.toks
    | some u =>
      refine Ok.go hq R S5 (fun _ s'' B4 G4 v4 S6 hgo => ?_)
      obtain ⟨vs, v5, hd, hq⟩ := hgo
      have S7 := S6.pull hd
      obtain ⟨o, e, ⟨q1, q2⟩, q⟩ := S7.res _ List.mem_cons_self
      refine ⟨_, ns_of ⟨o, e, q⟩, fun h' hs' => ⟨B4, G4, v5, ?_, hq⟩⟩
      exact S6.gone hd hs'.extBut s''.toks

theorem chkC_parts {sc : Scope} {ns gl cf : List Str} (hc : chkC sc ns gl cf = true) : sc.kind = .function ∧ (sc.names.map (·.1)).Nodup ∧ ∀ x ∈ sc.names, x.2 ≠ .cell := by
  simp only [chkC, Bool.and_eq_true, List.all_eq_true, beq_iff_eq, decide_eq_true_eq, bne_iff_ne] at hc
  exact ⟨hc.1.1.1.1.1.1, hc.1.1.1.1.1.2, hc.1.1.1.1.2⟩

theorem Ok.listcomp {elt target iter : Expr} {ifs : List Expr} {rest : List Comprehension} {scope : Scope} {pos : Pos} {Q : Post Value} (hE : EnvIs env L ns0 gl0 cs0 fs0) (ns gl : List Str) (cs fs : List (Str × Addr))
    (hc : chkC scope ns gl (cs.map (·.1) ++ fs.map (·.1)) = true) (hns : ns.Nodup) (h1 : ∀ p ∈ cs, p ∈ cs0) (h2 : ∀ p ∈ fs, p ∈ fs0)
    (h : Ok prog w O n B G v (eval iter env) fun x B1 G1 v1 => Ok prog w O n B1 G1 v1 (pyIter x) fun it B2 G2 v2 => ∀ D C cenv, EnvIs cenv C ns gl cs fs →
      OkC prog w O n B2 G2 ((C, rFr ns (ns.map fun _ => none)) :: (D, rList []) :: v2) (.compStart (.ListComp elt (⟨target, iter, ifs, 0⟩ :: rest) scope pos) 0 it (.ref D) cenv) (QLc C D ns Q))
    (hs : ∀ x, foldedSetIterable iter env x = pure x) : Ok prog w O n B G v (eval (.ListComp elt (⟨target, iter, ifs, 0⟩ :: rest) scope pos) env) Q := fun A s R S => by
  obtain ⟨p1, p2, p3⟩ := chkC_parts hc
  have hcomp := fun C => EnvIs.comp hE (scope := scope) ns gl cs fs hc h1 h2 C
  rw [eval_ListComp]
  exact comp_core (use := none) rfl hs (hcomp 0).2 p1 p2 p3 ns hns R S (h.mono fun _ _ _ _ k => k.mono fun it B2 G2 v2 k D C => k D C _ (hcomp C).1)

theorem Ok.assign_comp {elt target iter : Expr} {ifs : List Expr} {rest : List Comprehension} {scope : Scope} {pos spos py : Pos} {y : Str} {Q : Post Flow} (hE : EnvIs env L ns0 gl0 cs0 fs0) (ns gl : List Str) (cs fs : List (Str × Addr))
    (hc : chkC scope ns gl (cs.map (·.1) ++ fs.map (·.1)) = true) (hns : ns.Nodup) (h1 : ∀ p ∈ cs, p ∈ cs0) (h2 : ∀ p ∈ fs, p ∈ fs0)
    (h : Ok prog w O n B G v (eval iter env) fun x B1 G1 v1 => Ok prog w O n B1 G1 v1 (pyIter x) fun it B2 G2 v2 => ∀ D C cenv, EnvIs cenv C ns gl cs fs →
      OkC prog w O n B2 G2 ((C, rFr ns (ns.map fun _ => none)) :: (D, rList []) :: v2) (.compStart (.ListComp elt (⟨target, iter, ifs, 0⟩ :: rest) scope pos) 0 it (.ref D) cenv)
        fun _ B3 G3 v3 => Ok prog w O n B3 G3 v3 (storeName env y (.ref D)) fun _ B4 G4 v4 => ∃ vs v5, Del v4 C (rFr ns vs) v5 ∧ Q .next B4 G4 v5)
    (hs : ∀ x, foldedSetIterable iter env x = pure x) (hsw : swapsWith (.ListComp elt (⟨target, iter, ifs, 0⟩ :: rest) scope pos) (some (.Name y py)) spos.line env = pure true) :
    Ok prog w O n B G v (exec (.Assign [.Name y py] (.ListComp elt (⟨target, iter, ifs, 0⟩ :: rest) scope pos) spos) env) Q := fun A s R S => by
  obtain ⟨p1, p2, p3⟩ := chkC_parts hc
  have hcomp := fun C => EnvIs.comp hE (scope := scope) ns gl cs fs hc h1 h2 C
  rw [exec_Assign_Name_used _ _ _ _ hsw]
  refine wpAny_bind (wpAny_standAt (wpAny_bind ?_))
  show wpAny _ A (do let _ ← comprehension (.ListComp elt (⟨target, iter, ifs, 0⟩ :: rest) scope pos) scope env _ (newList []) false (eval iter env) (some (assign (.Name y py) env))) _ _ s
  refine wpAny_bind (wpAny_mono (comp_core (use := some (assign (.Name y py) env)) (Q := fun _ => Q .next) rfl hs (hcomp 0).2 p1 p2 p3 ns hns R S
    (h.mono fun _ _ _ _ k => k.mono fun it B2 G2 v2 k D C => (k D C _ (hcomp C).1).mono fun _ _ _ _ k => Ok.assign_name k)) (fun _ s' ⟨B', G', v', S', q⟩ => wpAny_pure (wpAny_pure ⟨B', G', v', S', q⟩)) fun _ _ x => x)

theorem OkC.comp_start {elt target iter : Expr} {ifs : List Expr} {rest : List Comprehension} {scope : Scope} {pos : Pos} {it acc : Value} {R : Post Flow}
    (hself : Ok prog w O n B G v (pyIter it) fun it' B' G' v' => it' = it ∧ B' = B ∧ G' = G ∧ v' = v)
    (h : OkC prog w O n B G v (.compLoop (.ListComp elt (⟨target, iter, ifs, 0⟩ :: rest) scope pos) 0 it acc env) R) :
    OkC prog w O n B G v (.compStart (.ListComp elt (⟨target, iter, ifs, 0⟩ :: rest) scope pos) 0 it acc env) R := fun A s Rm S =>
  codeAny_compStart_list (h A s Rm S) (wpAny_mono (hself A s Rm S) (fun it' s' ⟨B', G', v', S', e1, e2, e3, e4⟩ => by subst e1 e2 e3 e4; exact h A s' Rm S') fun _ _ x => x.elim)

theorem OkC.comp_turn {elt target iter : Expr} {ifs : List Expr} {scope : Scope} {pos : Pos} {it acc : Value} {R : Post Flow}
    (h : Ok prog w O n B G v (pyNext it) (QCt prog w O n target ifs elt (.ListComp elt [⟨target, iter, ifs, 0⟩] scope pos) 0 it acc env R)) :
    OkC prog w O n B G v (.compLoop (.ListComp elt [⟨target, iter, ifs, 0⟩] scope pos) 0 it acc env) R := fun A s Rm S => by
  refine codeAny_of_tree ?_
  rw [Around.under_of_weight (by rfl) (by rfl)]
  show wpAny _ _ ((compTurn (.ListComp elt [⟨target, iter, ifs, 0⟩] scope pos) 0 it acc env).onRaise (fun x => do noteFrame x env; theTreesLotGoes x)) _ _ s
  refine wpAny_noted ?_
  rw [compTurn_list]
  refine wpAny_bind (wpAny_standAt (wpAny_bind (Ok.go h Rm S (fun r s1 B1 G1 v1 S1 h1 => ?_))))
  cases r with
  | none => exact wpAny_pure ⟨_, _, _, S1, h1⟩
  | some x =>
    refine wpAny_bind (Ok.go h1 Rm S1 (fun _ s2 B2 G2 v2 S2 h2 => ?_))
    refine wpAny_bind (Ok.go h2 Rm S2 (fun _ s3 B3 G3 v3 S3 h3 => ?_))
    refine wpAny_bind (Ok.go h3 Rm S3 (fun ok s4 B4 G4 v4 S4 h4 => ?_))
    cases ok with
    | false => exact wpAny_pure ⟨rfl, h4 A s4 Rm S4⟩
    | true =>
      refine wpAny_bind (wpAny_bind (Ok.go h4 Rm S4 (fun y s5 B5 G5 v5 S5 h5 => ?_)))
      exact wpAny_bind (Ok.go h5 Rm S5 (fun _ s6 B6 G6 v6 S6 h6 => wpAny_pure (wpAny_pure ⟨rfl, h6 A s6 Rm S6⟩)))

theorem Ok.tests_nil {Q : Post Bool} (h : Q true B G v) : Ok prog w O n B G v (forIn ([] : List Expr) true fun c r => if r = true then do let ok ← isTrue c env (eval c env); pure (ForInStep.yield ok) else pure (ForInStep.yield r)) Q := fun A s R S => wpAny_pure ⟨_, _, _, S, h⟩
theorem Ok.tests_one {c : Expr} {Q : Post Bool} (h : Ok prog w O n B G v (isTrue c env (eval c env)) Q) : Ok prog w O n B G v (forIn [c] true fun c r => if r = true then do let ok ← isTrue c env (eval c env); pure (ForInStep.yield ok) else pure (ForInStep.yield r)) Q := fun A s R S =>
  wpAny_tests_one (h A s R S)
theorem Ok.self_list {I l : Addr} {i : Nat} (hh : Has v I (rLit l i)) : Ok prog w O n B G v (pyIter (.ref I)) fun it' B' G' v' => it' = .ref I ∧ B' = B ∧ G' = G ∧ v' = v := fun A s R S => by
  obtain ⟨o, e1, e2, e3⟩ := S.has hh
  exact wpAny_pyIter_listiter ⟨o, e1, e2, e3⟩ ⟨_, _, _, S, rfl, rfl, rfl, rfl⟩
theorem Ok.self_tup {I l : Addr} {i : Nat} (hh : Has v I (rTit l i)) : Ok prog w O n B G v (pyIter (.ref I)) fun it' B' G' v' => it' = .ref I ∧ B' = B ∧ G' = G ∧ v' = v := fun A s R S => by
  obtain ⟨o, e1, e2, e3⟩ := S.has hh
  exact wpAny_pyIter_tupleiter ⟨o, e1, e2, e3⟩ ⟨_, _, _, S, rfl, rfl, rfl, rfl⟩
end
local macro_rules | `(tactic| tbr_iter "go") => `(tactic| first
  | with_reducible refine Ok.tests_nil ?_
  | with_reducible refine Ok.tests_one ?_)
-- part Orders
section
variable {prog : Program} {w : World} {O : OsState} {n : Nat} {B : Base} {G : Array GenState} {v : Vol} {env : Env}
/-! ### ranges -/
def rngB (B : Base) (r : Addr) (a b : Int) : Prop := ∃ t u k, B r = some { cls := .type "range", data := .fields #[.int a t, .int b u, .int 1 k] }
theorem rngB.mono {B B' : Base} {r : Addr} {a b : Int} (h : rngB B r a b) (k : BLe B B') : rngB B' r a b := let ⟨t, u, m, e⟩ := h; ⟨t, u, m, k _ _ e⟩
abbrev rRit (x left : Int) : Res := fun o => o = { cls := .type "range_iterator", data := .fields #[rawInt x, rawInt left, rawInt 1] }
theorem Ok.range1 {b : Int} {t : Tok} {Q : Post Value} (h : ∀ r B', BLe B B' → rngB B' r 0 b → Q (.ref r) B' G v) : Ok prog w O n B G v (call (.type "range") [.int b t]) Q := fun A s R S => by
  refine call_range_1 ?_
  obtain ⟨k1, k2⟩ := S.pushB ({ cls := .type "range", data := .fields #[.int 0 s.toks, .int b t, .int 1 (s.toks + 1)] } : Obj) rfl (s.toks + 1 + 1)
  exact ⟨_, _, _, k2, h _ _ k1 ⟨_, _, _, Base.add_self ..⟩⟩
theorem Ok.range2 {a b : Int} {t u : Tok} {Q : Post Value} (h : ∀ r B', BLe B B' → rngB B' r a b → Q (.ref r) B' G v) : Ok prog w O n B G v (call (.type "range") [.int a t, .int b u]) Q := fun A s R S => by
  refine call_range_2 ?_
  obtain ⟨k1, k2⟩ := S.pushB ({ cls := .type "range", data := .fields #[.int a t, .int b u, .int 1 s.toks] } : Obj) rfl (s.toks + 1)
  exact ⟨_, _, _, k2, h _ _ k1 ⟨_, _, _, Base.add_self ..⟩⟩
theorem Ok.iter_rng {r : Addr} {a b : Int} {Q : Post Value} (hr : rngB B r a b) (hab : a ≤ b) (ha : -1000000 ≤ a) (hb : b ≤ 1000000) (h : ∀ I, Q (.ref I) B G ((I, rRit a (b - a)) :: v)) : Ok prog w O n B G v (pyIter (.ref r)) Q := fun A s R S => by
  obtain ⟨t, u, k, e⟩ := hr
  refine wpAny_pyIter_range (S.keep _ _ e) (small_one (by tbr_iter "om") (by tbr_iter "om") (by tbr_iter "om") (by tbr_iter "om")) ?_
  have hz : Builtin.Range.rangeSize a b 1 = b - a := by rw [rangeSize_one]; split <;> (first | lia | omega)
  rw [hz]
  exact ⟨B, G, _, S.push (r := rRit a (b - a)) ({ cls := .type "range_iterator", data := .fields #[rawInt a, rawInt (b - a), rawInt 1] } : Obj) rfl rfl _, h _⟩
theorem Ok.next_rng {I : Addr} {x left : Int} {v' : Vol} {Q : Post (Option Value)} (hu : Upd v I (rRit x left) (rRit (x + 1) (left - 1)) v') (hl : 0 < left) (h : ∀ t, Q (some (.int x t)) B G v') : Ok prog w O n B G v (pyNext (.ref I)) Q := fun A s R S => by
  obtain ⟨o, e1, rfl⟩ := S.has hu.has
  exact wpAny_pyNext_range_item (x := x) (left := left) (step := 1) e1 hl fun h' e hs => ⟨B, G, v', S.turn hu hs ⟨_, e, rfl⟩ _, h _⟩
theorem Ok.next_rng_end {I : Addr} {x left : Int} {v' : Vol} {Q : Post (Option Value)} (hu : Del v I (rRit x left) v') (hl : left ≤ 0) (h : Q none B G v') : Ok prog w O n B G v (pyNext (.ref I)) Q := fun A s R S => by
  obtain ⟨j, hj, _⟩ := hu.idx
  obtain ⟨o, e1, rfl⟩ := S.get hj
  exact wpAny_pyNext_range_end (x := x) (left := left) (step := 1) R.handled e1 hl fun h' hs => ⟨B, G, v', S.gone hu hs _, h⟩
theorem Ok.self_rng {I : Addr} {x left : Int} (hh : Has v I (rRit x left)) : Ok prog w O n B G v (pyIter (.ref I)) fun it' B' G' v' => it' = .ref I ∧ B' = B ∧ G' = G ∧ v' = v := fun A s R S => by
  obtain ⟨o, e1, rfl⟩ := S.has hh
  exact wpAny_pyIter_rangeiter (x := x) (left := left) (step := 1) e1 ⟨_, _, _, S, rfl, rfl, rfl, rfl⟩

def rRn (k b : Nat) : Res := rRit (k : Int) ((b : Int) - k)
theorem Ok.iter_rngN {r : Addr} {a b : Nat} {Q : Post Value} (hr : rngB B r (a : Int) (b : Int)) (hab : a ≤ b) (hb : b ≤ 1000000) (h : ∀ I, Q (.ref I) B G ((I, rRn a b) :: v)) : Ok prog w O n B G v (pyIter (.ref r)) Q :=
  Ok.iter_rng hr (by tbr_iter "om") (by tbr_iter "om") (by tbr_iter "om") h
theorem Ok.next_rngN {I : Addr} {k b : Nat} {v' : Vol} {Q : Post (Option Value)} (hu : Upd v I (rRn k b) (rRn (k + 1) b) v') (hl : k < b) (h : ∀ t, Q (some (.int (k : Int) t)) B G v') : Ok prog w O n B G v (pyNext (.ref I)) Q := by
  refine Ok.next_rng (x := k) (left := (b : Int) - k) ?_ (by tbr_iter "om") h
  have e : rRit ((k : Int) + 1) ((b : Int) - k - 1) = rRn (k + 1) b := by
    unfold rRn
    have e1 : ((k + 1 : Nat) : Int) = (k : Int) + 1 := by tbr_iter "om"
    have e2 : (b : Int) - k - 1 = (b : Int) - ((k : Int) + 1) := by tbr_iter "om"
    rw [e1, e2]
  rw [e]; exact hu
theorem Ok.next_rngN_end {I : Addr} {k b : Nat} {v' : Vol} {Q : Post (Option Value)} (hu : Del v I (rRn k b) v') (hl : b ≤ k) (h : Q none B G v') : Ok prog w O n B G v (pyNext (.ref I)) Q :=
  Ok.next_rng_end (x := k) (left := (b : Int) - k) hu (by tbr_iter "om") h
theorem Ok.self_rngN {I : Addr} {k b : Nat} (hh : Has v I (rRn k b)) : Ok prog w O n B G v (pyIter (.ref I)) fun it' B' G' v' => it' = .ref I ∧ B' = B ∧ G' = G ∧ v' = v := Ok.self_rng (x := k) (left := (b : Int) - k) hh

/-! ### tuples: joined, searched -/
theorem Ok.add_tup {t b : Addr} {vs ws : List Value} {Q : Post Value} (ht : tupB B t vs) (hb : tupB B b ws) (hw : ws ≠ []) (hz : vs.length + ws.length ≤ sizeLine) (h : ∀ a B', BLe B B' → tupB B' a (vs ++ ws) → Q (.ref a) B' G v) :
    Ok prog w O n B G v (binaryOp .Add (.ref t) (.ref b)) Q := fun A s R S => by
  obtain ⟨n1, ho⟩ := SeqAt.at (T := "tuple") (v := v) (.inr ht) S
  obtain ⟨n2, ho2⟩ := SeqAt.at (T := "tuple") (v := v) (.inr hb) S
  by_cases hv : vs = []
  · refine concat_meets ⟨_, ho, rfl⟩ ⟨_, ho2, rfl⟩ noFill_tuple_add seq_tuple_add PySem.F.slot_tuple_add PySem.F.entry_tuple_add (PySem.F.args_tuple_add_2 _ _)
      (tuple_addW0 t b vs.toArray ws.toArray n1 n2 none none #[] #[] (by simp [hv])) ⟨ho, ho2, ?_⟩
    exact ⟨B, G, v, S, h b B (BLe.refl _) (by rw [hv]; exact hb)⟩
  · refine concat_meets ⟨_, ho, rfl⟩ ⟨_, ho2, rfl⟩ noFill_tuple_add seq_tuple_add PySem.F.slot_tuple_add PySem.F.entry_tuple_add (PySem.F.args_tuple_add_2 _ _)
      (tuple_addW2 t b vs.toArray ws.toArray n1 n2 none none #[] #[] (by simpa using hv) (by simpa using hw) (by rw [List.size_toArray, List.size_toArray]; exact hz)) ⟨ho, ho2, ?_⟩
    obtain ⟨k1, k2⟩ := S.pushB ({ cls := .type "tuple", data := .seq (vs.toArray ++ ws.toArray) } : Obj) rfl s.toks
    refine ⟨_, _, _, k2, h _ _ k1 ⟨0, ?_⟩⟩
    rw [Base.add_self]; simp
theorem Ok.notin_tup {t : Addr} {xs : List Value} {is : List Int} {k : Int} {u : Tok} {Q : Post Value} (ht : tupB B t xs) (hi : IntsV xs is) (h : Q (.bool (!is.contains k)) B G v) : Ok prog w O n B G v (compareOp .NotIn (.int k u) (.ref t)) Q := fun A s R S => by
  refine PySem.SeqAt.notIn_tupleAt (fun y => match y with | .int b _ => b == k | _ => false) (isTuple_of (SeqAt.at (T := "tuple") (v := v) (.inr ht) S)) (fun y hy => ?_) ⟨B, G, v, S, ?_⟩
  · obtain ⟨j, hj⟩ := List.getElem?_of_mem (l := xs) (by simpa using hy)
    obtain ⟨b, _, t', rfl⟩ := hi.get' hj
    exact PySem.SeqAt.EqAt.int_int b t' k u
  · have : (xs.toArray.any fun y => match y with | .int b _ => b == k | _ => false) = is.contains k := by
      rw [List.any_toArray]
      clear h ht
      induction hi with
      | nil => rfl
      | cons hx _ ih =>
        obtain ⟨t', rfl⟩ := hx
        rw [List.any_cons, List.contains_cons, ih, BEq.comm]
    rw [this]; exact h
end

/-! ### a comprehension of two loops -/
section
variable {prog : Program} {w : World} {O : OsState} {n : Nat} {B : Base} {G : Array GenState} {v : Vol} {env : Env}
theorem Ok.run_own {c : Code} {Q : Post Flow} (h : OkC prog w O n B G v c Q) : Ok prog w O n B G v (runOwn c env) Q := fun A s R S =>
  wpAny_runOwn (codeAny_mono (h _ s R.mark S) fun r s' x => by
    cases r with
    | ok f => exact x
    | error e => exact x.elim)

theorem OkC.comp2_outer {elt target iter t1 i1 : Expr} {ifs1 : List Expr} {scope : Scope} {pos : Pos} {it acc : Value} {R : Post Flow}
    (h : Ok prog w O n B G v (pyNext it) fun r B1 G1 v1 => match r with
      | none => R .next B1 G1 v1
      | some x => Ok prog w O n B1 G1 v1 (letOwnedTupleGo target it x) fun _ B2 G2 v2 => Ok prog w O n B2 G2 v2 (assign target env x) fun _ B3 G3 v3 => Ok prog w O n B3 G3 v3 (eval i1 env) fun y B4 G4 v4 =>
        Ok prog w O n B4 G4 v4 (pyIter y) fun it1 B5 G5 v5 => OkC prog w O n B5 G5 v5 (.compStart (.ListComp elt [⟨target, iter, [], 0⟩, ⟨t1, i1, ifs1, 0⟩] scope pos) 1 it1 acc env) fun _ B6 G6 v6 =>
          OkC prog w O n B6 G6 v6 (.compLoop (.ListComp elt [⟨target, iter, [], 0⟩, ⟨t1, i1, ifs1, 0⟩] scope pos) 0 it acc env) R)
    (hs : ∀ x, foldedSetIterable i1 env x = pure x) :
    OkC prog w O n B G v (.compLoop (.ListComp elt [⟨target, iter, [], 0⟩, ⟨t1, i1, ifs1, 0⟩] scope pos) 0 it acc env) R := fun A s Rm S => by
  refine codeAny_of_tree ?_
  rw [Around.under_of_weight (by rfl) (by rfl)]
  show wpAny _ _ ((compTurn (.ListComp elt [⟨target, iter, [], 0⟩, ⟨t1, i1, ifs1, 0⟩] scope pos) 0 it acc env).onRaise (fun x => do noteFrame x env; theTreesLotGoes x)) _ _ s
  refine wpAny_noted ?_
  have e : compTurn (.ListComp elt [⟨target, iter, [], 0⟩, ⟨t1, i1, ifs1, 0⟩] scope pos) 0 it acc env = (standAt iter.pos >>= fun _ => pyNext it >>= fun r => match r with
      | none => pure (.done .next)
      | some v => letOwnedTupleGo target it v >>= fun _ => assign target env v >>= fun _ =>
        eval i1 env >>= fun x => standAt i1.pos >>= fun _ => foldedSetIterable i1 env x >>= fun x => holding [x] (pyIter x) >>= fun it1 =>
          runOwn (.compStart (.ListComp elt [⟨target, iter, [], 0⟩, ⟨t1, i1, ifs1, 0⟩] scope pos) 1 it1 acc env) env >>= fun _ =>
          again (.compLoop (.ListComp elt [⟨target, iter, [], 0⟩, ⟨t1, i1, ifs1, 0⟩] scope pos) 0 it acc env)) := by rfl
  rw [e]
  refine wpAny_bind (wpAny_standAt (wpAny_bind (Ok.go h Rm S (fun r s1 B1 G1 v1 S1 h1 => ?_))))
  cases r with
  | none => exact wpAny_pure ⟨_, _, _, S1, h1⟩
  | some x =>
    refine wpAny_bind (Ok.go h1 Rm S1 (fun _ s2 B2 G2 v2 S2 h2 => ?_))
    refine wpAny_bind (Ok.go h2 Rm S2 (fun _ s3 B3 G3 v3 S3 h3 => ?_))
    refine wpAny_bind (Ok.go h3 Rm S3 (fun y s4 B4 G4 v4 S4 h4 => ?_))
    refine wpAny_bind (wpAny_standAt (wpAny_bind (wpAny_of_eq (hs y) (wpAny_bind (wpAny_holding (Ok.go h4 Rm S4 (fun it1 s5 B5 G5 v5 S5 h5 => ?_)))))))
    exact wpAny_bind (wpAny_mono (Ok.run_own h5 A s5 Rm S5) (fun _ s6 ⟨B6, G6, v6, S6, h6⟩ => wpAny_pure ⟨rfl, h6 A s6 Rm S6⟩) fun _ _ x => x.elim)

theorem OkC.comp2_inner {elt target iter t1 i1 : Expr} {ifs ifs1 : List Expr} {scope : Scope} {pos : Pos} {it acc : Value} {R : Post Flow}
    (h : Ok prog w O n B G v (pyNext it) (QCt prog w O n t1 ifs1 elt (.ListComp elt [⟨target, iter, ifs, 0⟩, ⟨t1, i1, ifs1, 0⟩] scope pos) 1 it acc env R)) :
    OkC prog w O n B G v (.compLoop (.ListComp elt [⟨target, iter, ifs, 0⟩, ⟨t1, i1, ifs1, 0⟩] scope pos) 1 it acc env) R := fun A s Rm S => by
  refine codeAny_of_tree ?_
  rw [Around.under_of_weight (by rfl) (by rfl)]
  show wpAny _ _ ((compTurn (.ListComp elt [⟨target, iter, ifs, 0⟩, ⟨t1, i1, ifs1, 0⟩] scope pos) 1 it acc env).onRaise (fun x => do noteFrame x env; theTreesLotGoes x)) _ _ s
  refine wpAny_noted ?_
  have e : compTurn (.ListComp elt [⟨target, iter, ifs, 0⟩, ⟨t1, i1, ifs1, 0⟩] scope pos) 1 it acc env = (do
      standAt i1.pos
      match ← pyNext it with
      | none => pure (.done .next)
      | some v =>
        letOwnedTupleGo t1 it v
        assign t1 env v
        let mut ok := true
        for c in ifs1 do
          if ok then ok ← isTrue c env (eval c env)
        if ok then
          (do let _ ← call (.builtin "list.append") [acc, ← eval elt env])
        again (.compLoop (.ListComp elt [⟨target, iter, ifs, 0⟩, ⟨t1, i1, ifs1, 0⟩] scope pos) 1 it acc env)) := by rfl
  rw [e]
  refine wpAny_bind (wpAny_standAt (wpAny_bind (Ok.go h Rm S (fun r s1 B1 G1 v1 S1 h1 => ?_))))
  cases r with
  | none => exact wpAny_pure ⟨_, _, _, S1, h1⟩
  | some x =>
    refine wpAny_bind (Ok.go h1 Rm S1 (fun _ s2 B2 G2 v2 S2 h2 => ?_))
    refine wpAny_bind (Ok.go h2 Rm S2 (fun _ s3 B3 G3 v3 S3 h3 => ?_))
    refine wpAny_bind (Ok.go h3 Rm S3 (fun ok s4 B4 G4 v4 S4 h4 => ?_))
    cases ok with
    | false => exact wpAny_pure ⟨rfl, h4 A s4 Rm S4⟩
    | true =>
      refine wpAny_bind (wpAny_bind (Ok.go h4 Rm S4 (fun y s5 B5 G5 v5 S5 h5 => ?_)))
      exact wpAny_bind (Ok.go h5 Rm S5 (fun _ s6 B6 G6 v6 S6 h6 => wpAny_pure (wpAny_pure ⟨rfl, h6 A s6 Rm S6⟩)))

theorem OkC.comp2_start {elt target iter t1 i1 : Expr} {ifs ifs1 : List Expr} {scope : Scope} {pos : Pos} {it acc : Value} {R : Post Flow}
    (hself : Ok prog w O n B G v (pyIter it) fun it' B' G' v' => it' = it ∧ B' = B ∧ G' = G ∧ v' = v)
    (h : OkC prog w O n B G v (.compLoop (.ListComp elt [⟨target, iter, ifs, 0⟩, ⟨t1, i1, ifs1, 0⟩] scope pos) 1 it acc env) R) :
    OkC prog w O n B G v (.compStart (.ListComp elt [⟨target, iter, ifs, 0⟩, ⟨t1, i1, ifs1, 0⟩] scope pos) 1 it acc env) R := fun A s Rm S => by
  refine codeAny_of_tree ?_
  rw [Around.under_of_weight (by rfl) (by rfl)]
  show wpAny _ _ ((compStart (.ListComp elt [⟨target, iter, ifs, 0⟩, ⟨t1, i1, ifs1, 0⟩] scope pos) 1 it acc env).onRaise (fun x => do noteFrame x env; standAt theWindowsPlace)) _ _ s
  refine wpAny_notedAt ?_
  unfold compStart
  show wpAny _ _ (ask >>= _) _ _ s
  refine wpAny_bind (wpAny_askSetting (wpAny_ite ?_))
  split
  · first
      | exact wpAny_bind (wpAny_pure (wpAny_pure (And.intro rfl (h A s Rm S))))
      | exact wpAny_pure (And.intro rfl (h A s Rm S))
  · refine wpAny_bind (wpAny_rule ?_)
    show wpAny _ _ (standAt i1.pos >>= _) _ _ s
    exact wpAny_bind (wpAny_standAt (wpAny_bind (wpAny_mono (hself A s Rm S) (fun it' s' ⟨B', G', v', S', e1, e2, e3, e4⟩ => by subst e1 e2 e3 e4; exact wpAny_pure ⟨rfl, h A s' Rm S'⟩) fun _ _ x => x.elim)))
end
-- part Ord2
abbrev TupN (B : Base) (u : Value) (os : List Nat) : Prop := TupI B u (os.map Int.ofNat)
def oneMore (o : List Nat) (j : Nat) : List (List Nat) := ((List.range j).filter fun k => !o.contains k).map fun k => o ++ [k]
def ordN : Nat → List (List Nat)
  | 0 => [[]]
  | i + 1 => (ordN i).flatMap fun o => oneMore o 4

theorem ordN_len : ∀ i, i < 5 → (ordN i).length ≤ 24 := by decide +kernel
theorem ordN_elt : ∀ i, i < 5 → ∀ o ∈ ordN i, o.length ≤ 4 := by decide +kernel
theorem oneMore_len (o : List Nat) (j : Nat) : (oneMore o j).length ≤ j := by
  unfold oneMore
  rw [List.length_map]
  exact Nat.le_trans (List.length_filter_le _ _) (by simp)
theorem fm_len : ∀ (l : List (List Nat)), (l.flatMap fun o => oneMore o 4).length ≤ 4 * l.length
  | [] => by simp
  | o :: l => by
    rw [List.flatMap_cons, List.length_append, List.length_cons]
    have := fm_len l
    have := oneMore_len o 4
    (first | lia | omega)

section
variable {w : World} {O : OsState} {n : Nat} {B : Base} {G : Array GenState} {v : Vol} {Q : Post Value}
theorem law_orders (hT : TopB B) (h : ∀ a B' xs, BLe B B' → All2 (TupN B') xs (ordN 4) → Q (.ref a) B' G ((a, rList xs) :: v)) : Ok prg w O (n + 1) B G v (call (.ref 125) []) Q := by
  obtain ⟨r, hF⟩ := hT.f19
  refine Ok.call_def hF [] ["orders", "step"] [] (ns := ["orders", "step"]) (vs := [none, none]) (fun s S => .of_eq rfl) (by decide +kernel) rfl rfl rfl fun L env hA => ?_
  have hE := hA.is ["orders", "step"] ["range"] (by decide +kernel) (by decide +kernel)
  conv in (bodyAt 19) => whnf
  tbr_iter "go*"
  refine Ok.listd ?_
  tbr_iter "go*"
  refine Ok.tuple ?_
  tbr_iter "go*"
  refine ⟨Nat.le_of_ble_eq_true rfl, fun ta B2 hle2 htup => ?_⟩
  tbr_iter "go*"
  refine ⟨Nat.le_of_ble_eq_true rfl, fun da => ?_⟩
  have hT2 := hT.mono hle2
  tbr_iter "go*"
  refine Ok.call_val (f := .type "range") rfl ?_
  tbr_iter "go*"
  refine ⟨rfl, ?_⟩
  tbr_iter "go*"
  refine Ok.range1 fun rg B3 hle3 hrg => ?_
  refine Ok.iter_rngN (a := 0) (b := 4) hrg (by decide) (by decide) fun I => ?_
  refine OkC.lpG4 (fun (i : Nat) (D : Addr) (xs : List Value) (so : Option Value) => 4 - i) (fun i D xs so =>
    (I, rRn i 4) :: (D, rList xs) :: (L, rFr ["orders", "step"] [some (.ref D), so]) :: v) (fun i D xs so B' => BLe B3 B' ∧ i ≤ 4 ∧ All2 (TupN B') xs (ordN i)) ?_ 0 da _ _ ⟨BLe.refl _, by tbr_iter "om", .cons ⟨ta, [], rfl, ⟨0, hle3 _ _ htup⟩, .nil⟩ .nil⟩
  rintro i D xs so B' ⟨hle, hi, hxs⟩ ih
  have hT3 := hT2.mono (hle3.trans hle)
  refine OkC.for_turn ?_
  by_cases hlt : i < 4
  · refine Ok.next_rngN (by tbr_iter "upd") (by tbr_iter "om") fun ti => ?_
    tbr_iter "go*"
    refine Ok.assign_comp hE ["order", "k"] ["range"] [] [] (by decide +kernel) (by decide) nofun nofun ?_ (fun _ => rfl) (by unfold swapsWith Env.blockKind Env.kindOf; rw [hA.scope]; rfl)
    tbr_iter "go*"
    refine Ok.iter_list (.inl (by tbr_iter "has")) fun J D2 C cenv hC => ?_
    refine OkC.comp_start (Ok.self_list (by tbr_iter "has")) ?_
    have hlx := hxs.length
    refine OkC.lpG4 (fun (j : Nat) (ys : List Value) (oo : Option Value) (ko : Option Value) => xs.length - j) (fun j ys oo ko =>
    (C, rFr ["order", "k"] [oo, ko]) :: (D2, rList ys) :: (J, rLit D j) :: (I, rRn (i + 1) 4) :: (D, rList xs) :: (L, rFr ["orders", "step"] [some (.ref D), some (.int i ti)]) :: v) (fun j ys oo ko B'' => BLe B' B'' ∧ j ≤ xs.length ∧ All2 (TupN B'') ys (((ordN i).take j).flatMap fun o => oneMore o 4)) ?_ 0 [] none none ⟨BLe.refl _, by tbr_iter "om", .nil⟩
    rintro j ys oo ko B'' ⟨hle4, hj, hys⟩ ih2
    have hT4 := hT3.mono hle4
    refine OkC.comp2_outer ?_ (fun _ => rfl)
    by_cases hjl : j < xs.length
    · obtain ⟨ov, hov, oa, os, rfl, hot, hoi⟩ := hxs.get (i := j) (b := (ordN i)[j]'(by tbr_iter "om")) (List.getElem?_eq_getElem _)
      refine Ok.next_list (by tbr_iter "upd") (.inl (by tbr_iter "has")) hov ?_
      tbr_iter "go*"
      refine Ok.call_val (f := .type "range") rfl ?_
      tbr_iter "go*"
      refine ⟨rfl, ?_⟩
      tbr_iter "go*"
      refine Ok.range1 fun rg B5 hle5 hrg => ?_
      refine Ok.iter_rngN (a := 0) (b := 4) hrg (by decide) (by decide) fun K => ?_
      refine OkC.comp2_start (Ok.self_rngN (by tbr_iter "has")) ?_
      refine OkC.lpG3 (fun (k : Nat) (zs : List Value) (ko : Option Value) => 4 - k) (fun k zs ko =>
    (K, rRn k 4) :: (C, rFr ["order", "k"] [some (.ref oa), ko]) :: (D2, rList zs) :: (J, rLit D (j + 1)) :: (I, rRn (i + 1) 4) :: (D, rList xs) :: (L, rFr ["orders", "step"] [some (.ref D), some (.int i ti)]) :: v) (fun k zs ko B6 => BLe B5 B6 ∧ k ≤ 4 ∧ All2 (TupN B6) zs ((((ordN i).take j).flatMap fun o => oneMore o 4) ++ oneMore ((ordN i)[j]'(by tbr_iter "om")) k)) ?_ 0 ys _ ⟨BLe.refl _, by tbr_iter "om", by simpa [oneMore] using hys.imp fun a b x => x.mono hle5⟩
      rintro k zs ko6 B6 ⟨hle6, hk, hzs⟩ ih3
      have hle46 := hle4.trans (hle5.trans hle6)
      have hot6 := hot.mono hle46
      refine OkC.comp2_inner ?_
      by_cases hkl : k < 4
      · refine Ok.next_rngN (by tbr_iter "upd") (by tbr_iter "om") fun tk => ?_
        tbr_iter "go*"
        refine Ok.notin_tup hot6 hoi ?_
        have hone : oneMore ((ordN i)[j]'(by tbr_iter "om")) (k + 1) = oneMore ((ordN i)[j]'(by tbr_iter "om")) k ++ (if ((ordN i)[j]'(by tbr_iter "om")).contains k then [] else [((ordN i)[j]'(by tbr_iter "om")) ++ [k]]) := by
          unfold oneMore
          rw [List.range_succ, List.filter_append, List.map_append]
          congr 1
          rw [List.filter_cons]
          cases hc : ((ordN i)[j]'(by tbr_iter "om")).contains k <;> simp only [hc, Bool.not_true, Bool.not_false, if_true, if_false, List.filter_nil, Bool.false_eq_true, List.map_cons, List.map_nil]
        have hcon : (((ordN i)[j]'(by tbr_iter "om")).map Int.ofNat).contains (k : Int) = ((ordN i)[j]'(by tbr_iter "om")).contains k := by
          rw [Bool.eq_iff_iff]; simp only [List.contains_iff_mem, List.mem_map]
          constructor
          · rintro ⟨a, ha, e⟩; have : a = k := by injection e
            exact this ▸ ha
          · intro ha; exact ⟨k, ha, rfl⟩
        rw [hcon]
        tbr_iter "go*"
        cases hc : ((ordN i)[j]'(by tbr_iter "om")).contains k with
        | true =>
          tbr_iter "go*"
          refine' ih3 (k + 1) _ _ _ (by tbr_iter "om") ⟨hle6, by tbr_iter "om", ?_⟩
          rw [hone, hc]; simpa using hzs
        | false =>
          tbr_iter "go*"
          refine Ok.tuple ?_
          tbr_iter "go*"
          refine ⟨Nat.le_of_ble_eq_true rfl, fun kt B7 hle7 hkt => ?_⟩
          refine Ok.add_tup (hot6.mono hle7) (ws := [.int k tk]) ⟨0, hkt⟩ (by simp) ?_ fun at' B8 hle8 hat => ?_
          · have h1 := hoi.length
            have h2 := ordN_elt i (by tbr_iter "om") ((ordN i)[j]'(by tbr_iter "om")) (List.getElem_mem _)
            rw [List.length_map] at h1
            have : sizeLine = 2 ^ 24 := rfl
            simp only [List.length_cons, List.length_nil]
            (first | lia | omega)
          have hle68 := hle7.trans hle8
          refine Ok.list_append (by tbr_iter "upd") ?_ ?_
          · have h1 := hzs.length
            have h2 := fm_len ((ordN i).take j)
            have h3 := oneMore_len ((ordN i)[j]'(by tbr_iter "om")) k
            have h4 := ordN_len i (by tbr_iter "om")
            rw [List.length_append] at h1
            rw [List.length_take] at h2
            have : sizeLine = 2 ^ 24 := rfl
            (first | lia | omega)
          refine' ih3 (k + 1) _ _ _ (by tbr_iter "om") ⟨hle6.trans hle68, by tbr_iter "om", ?_⟩
          rw [hone, hc, ← List.append_assoc]
          refine (hzs.imp fun a b x => x.mono hle68).snoc ⟨at', _, rfl, hat, ?_⟩
          rw [List.map_append]
          exact hoi.snoc ⟨tk, rfl⟩
      · have hk4 : k = 4 := by tbr_iter "om"
        subst hk4
        refine Ok.next_rngN_end (by tbr_iter "del") (by tbr_iter "om") ?_
        refine' ih2 (j + 1) _ _ _ _ (by tbr_iter "om") ⟨hle46, by tbr_iter "om", ?_⟩
        have : (ordN i).take (j + 1) = (ordN i).take j ++ [(ordN i)[j]'(by tbr_iter "om")] := by rw [List.take_add_one, List.getElem?_eq_getElem (by tbr_iter "om")]; rfl
        rw [this, List.flatMap_append]
        simpa using hzs
    · have hje : j = xs.length := by tbr_iter "om"
      subst hje
      refine Ok.next_list_end (by tbr_iter "del") (.inl (by tbr_iter "has")) (by simp) ?_
      tbr_iter "go*"
      refine ⟨_, _, .here, ?_⟩
      refine Ok.drop (.there (.there .here)) ?_
      refine Ok.pull (.there .here) ?_
      tbr_iter "go*"
      refine' ih (i + 1) D2 ys _ _ (by tbr_iter "om") ⟨hle.trans hle4, by tbr_iter "om", ?_⟩
      rw [List.take_of_length_le (by tbr_iter "om")] at hys
      exact hys
  · have hi4 : i = 4 := by tbr_iter "om"
    subst hi4
    refine Ok.next_rngN_end (by tbr_iter "del") (by tbr_iter "om") ?_
    tbr_iter "go*"
    exact ⟨_, _, .there .here, h _ _ _ (hle2.trans (hle3.trans hle)) hxs⟩
end
-- part Calls2
/-! ### the frame of a def with cells -/
theorem bindL_eq (k : Str → Option NameKind) : ∀ (bs : List (Str × Value)) (m : Str → Option Value), (bs.map (·.1)).Nodup → ∀ x, bindL k bs m x = if k x = some .local then (match bs.lookup x with | some u => some u | none => m x) else m x
  | [], m, _, x => by simp [bindL]
  | (y, u) :: r, m, hn, x => by
    rw [List.map_cons, List.nodup_cons] at hn
    rw [bindL, bindL_eq k r _ hn.2]
    have hr : x = y → r.lookup x = none := by
      rintro rfl
      rw [List.lookup_eq_none_iff]
      intro p hp
      have : x ≠ p.1 := fun q => hn.1 (by rw [q]; exact List.mem_map_of_mem (f := (·.1)) hp)
      simpa using this
    rw [List.lookup_cons]
    by_cases hx : x = y
    · subst hx
      rw [hr rfl]
      by_cases hk : k x = some .local <;> simp [hk]
    · have hb : (x == y) = false := beq_eq_false_iff_ne.mpr hx
      rw [hb]
      by_cases hy : k y = some .local <;> simp [hy, hx]
theorem bindC_eq (k : Str → Option NameKind) : ∀ (bs : List (Str × Value)) (m : Str → Option Value), (bs.map (·.1)).Nodup → ∀ x, bindC k bs m x = if k x = some .local then m x else (match bs.lookup x with | some u => some u | none => m x)
  | [], m, _, x => by simp [bindC]
  | (y, u) :: r, m, hn, x => by
    rw [List.map_cons, List.nodup_cons] at hn
    rw [bindC, bindC_eq k r _ hn.2]
    have hr : x = y → r.lookup x = none := by
      rintro rfl
      rw [List.lookup_eq_none_iff]
      intro p hp
      have : x ≠ p.1 := fun q => hn.1 (by rw [q]; exact List.mem_map_of_mem (f := (·.1)) hp)
      simpa using this
    rw [List.lookup_cons]
    by_cases hx : x = y
    · subst hx
      rw [hr rfl]
      by_cases hk : k x = some .local <;> simp [hk]
    · have hb : (x == y) = false := beq_eq_false_iff_ne.mpr hx
      rw [hb]
      by_cases hy : k y = some .local <;> simp [hy, hx]

theorem fget_map (f : Str → Option Value) : ∀ (ns : List Str) (x : Str), fget ns (ns.map f) x = if x ∈ ns then f x else none
  | [], x => rfl
  | n :: ns, x => by
    show (if x = n then f n else fget ns (ns.map f) x) = _
    rw [fget_map f ns x]
    by_cases hx : x = n
    · subst hx; simp
    · simp [hx]

def okDefC (sc : Scope) (ns cns : List Str) (bs : List Str) : Bool :=
  !sc.isCoroutine && !sc.isGenerator && sc.kind == .function && ns.all (fun x => sc.names.lookup x == some .local) && (sc.names.filterMap fun x => if x.2 == .cell then some x.1 else none).reverse == cns &&
  bs.all (fun x => (sc.names.lookup x == some .local && ns.contains x) || (sc.names.lookup x == some .cell && cns.contains x)) && cns.all (fun x => sc.names.lookup x == some .cell) && decide ns.Nodup && decide bs.Nodup && decide cns.Nodup

theorem cellsFrom_names : ∀ (names : List (Str × NameKind)) (n : Nat) (acc : List (Str × Addr)), (cellsFrom n names acc).map (·.1) = (names.filterMap fun x => if x.2 == .cell then some x.1 else none).reverse ++ acc.map (·.1)
  | [], _, acc => by simp [cellsFrom]
  | (x, k) :: r, n, acc => by
    unfold cellsFrom
    by_cases hk : (k == NameKind.cell) = true
    · rw [if_pos hk, cellsFrom_names r, List.filterMap_cons]
      simp only [hk, if_true, List.map_cons, List.reverse_cons, List.append_assoc, List.cons_append, List.nil_append]
    · rw [if_neg hk, cellsFrom_names r, List.filterMap_cons]
      simp only [hk, if_false, Bool.false_eq_true]

/-- the cells of a frame, as volatile objects -/
def cellVol (cs : List (Str × Addr)) (init : List (Option Value)) : Vol := List.zipWith (fun p o => (p.2, rCell o)) cs init

section
variable {prog : Program} {w : World} {O : OsState} {n : Nat} {B : Base} {G : Array GenState} {v : Vol} {Q : Post Value}

theorem Ok.call_defC {f : Addr} {i : Nat} {df kwd : Value} {r : FnRest} {pos : List Value} (hF : Fn B f i df kwd r) (ps : List Str) (vals : List Value) (ns cns : List Str) {vs init : List (Option Value)}
    (hbind : bindArgs (fdOf i df kwd r) ⟨pos, []⟩ = pure (ps.zip vals)) (hok : okDefC (scopeAt i) ns cns ps = true) (hlen : ps.length = vals.length) (hvs : vs = ns.map fun x => (ps.zip vals).lookup x) (hinit : init = cns.map fun x => (ps.zip vals).lookup x)
    (h : ∀ L env cs, cs.map (·.1) = cns → EnvAt i env L r.cd cs → Ok prog w O n B G ((L, rFr ns vs) :: (cellVol cs init ++ v)) (execs (bodyAt i) env) fun fl B' G' v' => ∃ v'' : Vol, v''.Sublist v' ∧ Q (retOf fl) B' G' v'') :
    Ok prog w O (n + 1) B G v (call (.ref f) pos) Q := fun A s R S => by
  subst hvs hinit
  simp only [okDefC, Bool.and_eq_true, List.all_eq_true, beq_iff_eq, Bool.not_eq_true', decide_eq_true_eq, Bool.or_eq_true, List.contains_iff_mem] at hok
  obtain ⟨⟨⟨⟨⟨⟨⟨⟨⟨k1, k2⟩, k3⟩, k4⟩, k5⟩, k6⟩, k7⟩, k8⟩, k9⟩, k10⟩ := hok
  obtain ⟨o, ho, hd⟩ := hF.obj
  have hfst : (ps.zip vals).map (·.1) = ps := by rw [← List.unzip_fst, List.unzip_zip_left (by first | lia | omega)]
  have mem : ∀ x ∈ ps.zip vals, x.1 ∈ ps := fun x hx => (List.of_mem_zip hx).1
  have hcn : ∀ m, (cellsFrom m (scopeAt i).names []).map (·.1) = cns := fun m => by rw [cellsFrom_names]; simpa using k5
  have hnd : ((ps.zip vals).map (·.1)).Nodup := by rw [hfst]; exact k9
  refine wpAny_call (codeAny_call_cells (fd := fdOf i df kwd r) (body := bodyAt i) (binds := ps.zip vals) R.room (S.keep _ _ ho) hd (hF.lim _ S.keep) (hF.code _ S.keep) rfl hbind rfl (fun x hx => ?_) (fun s₁ X => ?_) k1 k2 k3)
  · rcases k6 x.1 (mem x hx) with h1 | h1
    · exact .inl h1.1
    · refine .inr ⟨h1.1, ?_⟩
      have : x.1 ∈ (cellsFrom (s.heap.objs.size + 1) (scopeAt i).names []).map (·.1) := by rw [hcn]; exact h1.2
      obtain ⟨p, hp, e⟩ := List.mem_map.mp this
      have := lookup_of_mem_nodup (cs := cellsFrom (s.heap.objs.size + 1) (scopeAt i).names []) (n := p.1) (c := p.2) (by rw [hcn]; exact k10) hp
      rw [← e]
      show ((cellsFrom (s.heap.objs.size + 1) (scopeAt i).names []).lookup p.1).isSome = true
      rw [this]; rfl
  · obtain ⟨h', tk, rfl, hk⟩ := X.done
    have hkind : ∀ x, (callEnvC (fdOf i df kwd r) s.heap.objs.size f).kindOf x = (scopeAt i).names.lookup x := fun x => rfl
    generalize hcs : cellsFrom (s.heap.objs.size + 1) (scopeAt i).names [] = cs at *
    have hcs1 : cs.map (·.1) = cns := by rw [← hcs]; exact hcn _
    have hXc : (callEnvC (fdOf i df kwd r) s.heap.objs.size f).cells = cs := hcs
    have S0 := S.extAll (h' := h') hk tk
    obtain ⟨f1, f2⟩ := S.fresh
    have hL : (callEnvC (fdOf i df kwd r) s.heap.objs.size f).locals = s.heap.objs.size := rfl
    have hXa := X.above
    have hXp := X.apart
    have hXk := X.cell
    have hXn := X.toInCall.ns
    rw [hXc] at hXa hXp hXk
    rw [hL] at hXa hXn
    have old : ∀ a, s.heap.objs.size ≤ a → B a = none ∧ ∀ p ∈ v, p.1 ≠ a := fun a ha => by
      refine ⟨?_, fun p hp e => ?_⟩
      · cases q : B a with
        | none => rfl
        | some o => exact absurd (Heap.lt_size (S.keep a o q)) (Nat.not_lt.mpr ha)
      · obtain ⟨o, e1, _⟩ := S.res p hp
        rw [e] at e1
        exact absurd (Heap.lt_size e1) (Nat.not_lt.mpr ha)
    have hcv : ∀ p ∈ cellVol cs (cns.map fun x => (ps.zip vals).lookup x), ∃ q ∈ cs, p = (q.2, rCell ((ps.zip vals).lookup q.1)) := by
      rw [← hcs1]
      clear hcs hcs1 hXc hXa hXp hXk k5 k6 k7 k10 hcn h
      intro p hp
      induction cs with
      | nil => cases hp
      | cons c cs ih =>
        rw [List.map_cons, List.map_cons] at hp
        rcases List.mem_cons.mp hp with rfl | hp
        · exact ⟨c, List.mem_cons_self, rfl⟩
        · obtain ⟨q, hq, e⟩ := ih hp
          exact ⟨q, List.mem_cons_of_mem _ hq, e⟩
    have hcm : (cellVol cs (cns.map fun x => (ps.zip vals).lookup x)).map (·.1) = cs.map (·.2) := by
      rw [← hcs1]
      clear hcs hcs1 hXc hXa hXp hXk k5 k6 k7 k10 hcn h hcv
      induction cs with
      | nil => rfl
      | cons c cs ih => rw [List.map_cons, List.map_cons, List.map_cons, ← ih]; rfl
    have hcell : ∀ q ∈ cs, (scopeAt i).names.lookup q.1 = some .cell := fun q hq => k7 q.1 (by rw [← hcs1]; exact List.mem_map_of_mem hq)
    have S1 : St O B G ((s.heap.objs.size, rFr ns (ns.map fun x => (ps.zip vals).lookup x)) :: (cellVol cs (cns.map fun x => (ps.zip vals).lookup x) ++ v)) { s with heap := h', toks := tk } := by
      refine ⟨S0.keep, fun p hp => ?_, fun p hp => ?_, ?_, S0.gens, S0.os⟩
      · rcases List.mem_cons.mp hp with rfl | hp
        · obtain ⟨o', e, q⟩ := of_ns hXn
          refine ⟨o', e, ⟨k8, by simp⟩, ?_⟩
          have : bindL (callEnvC (fdOf i df kwd r) s.heap.objs.size f).kindOf (ps.zip vals) (fun _ => none) = fget ns (ns.map fun x => (ps.zip vals).lookup x) := by
            funext x
            rw [bindL_eq _ _ _ hnd, fget_map, hkind]
            by_cases hx : x ∈ ns
            · rw [if_pos (k4 x hx), if_pos hx]
              cases (ps.zip vals).lookup x <;> rfl
            · rw [if_neg hx]
              split
              · rename_i hl
                have : (ps.zip vals).lookup x = none := by
                  rw [List.lookup_eq_none_iff]
                  intro p hp
                  have : x ≠ p.1 := by
                    rintro rfl
                    rcases k6 p.1 (mem p hp) with h1 | h1
                    · exact hx h1.2
                    · rw [h1.1] at hl; cases hl
                  simpa using this
                rw [this]
              · rfl
          rw [← this]; exact q
        · rcases List.mem_append.mp hp with hp | hp
          · obtain ⟨q, hq, rfl⟩ := hcv p hp
            obtain ⟨o', e, hd'⟩ := hXk q.1 q.2 (lookup_of_mem_nodup (by rw [hcs1]; exact k10) hq)
            refine ⟨o', e, ?_⟩
            show o'.data = .cell ((ps.zip vals).lookup q.1)
            rw [hd', bindC_eq _ _ _ hnd, hkind, hcell q hq]
            simp only [reduceCtorEq, Option.some.injEq, if_false]
            cases (ps.zip vals).lookup q.1 <;> rfl
          · exact S0.res p hp
      · rcases List.mem_cons.mp hp with rfl | hp
        · exact f1
        · rcases List.mem_append.mp hp with hp | hp
          · obtain ⟨q, hq, rfl⟩ := hcv p hp
            exact (old q.2 (Nat.le_of_lt (hXa q.1 q.2 hq))).1
          · exact S0.off p hp
      · rw [List.map_cons, List.nodup_cons, List.map_append]
        refine ⟨fun hm => ?_, ?_⟩
        · rcases List.mem_append.mp hm with hm | hm
          · rw [hcm] at hm
            obtain ⟨q, hq, e⟩ := List.mem_map.mp hm
            exact absurd e (Nat.ne_of_gt (hXa q.1 q.2 hq))
          · obtain ⟨p, hp, e⟩ := List.mem_map.mp hm
            exact f2 p hp e
        · rw [List.nodup_append]
          refine ⟨?_, S0.nd, fun a ha b hb => ?_⟩
          · rw [hcm]; unfold List.Nodup; rw [List.pairwise_map]; exact hXp
          · rw [hcm] at ha
            obtain ⟨q, hq, rfl⟩ := List.mem_map.mp ha
            obtain ⟨p, hp, rfl⟩ := List.mem_map.mp hb
            exact Ne.symm ((old q.2 (Nat.le_of_lt (hXa q.1 q.2 hq))).2 p hp)
    refine wpAny_mono (h s.heap.objs.size _ cs hcs1 ⟨rfl, rfl, rfl, rfl, rfl, hXc, rfl⟩ _ _ R.deeper S1) (fun fl s' ⟨B', G', v', S', v'', hsub, hq⟩ => ?_) fun _ _ x => x.elim
    have S'' := S'.sub hsub
    cases fl <;> exact ⟨_, _, _, S'', hq⟩

theorem of_cons {cs : List (Str × Addr)} {x : Str} {r : List Str} (h : cs.map (·.1) = x :: r) : ∃ a cs', cs = (x, a) :: cs' ∧ cs'.map (·.1) = r := by
  cases cs with
  | nil => cases h
  | cons p cs =>
    rw [List.map_cons] at h
    injection h with h1 h2
    exact ⟨p.2, cs, by rw [← h1], h2⟩
theorem of_nil {cs : List (Str × Addr)} (h : cs.map (·.1) = []) : cs = [] := by
  cases cs with
  | nil => rfl
  | cons p cs => cases h

/-! ### a def within a def -/
structure NestFn (B : Base) (f : Addr) (name qual : Str) (params : Arguments) (body : List Stmt) (scope : Scope) (clos : List (Str × Addr)) (cd : Value) : Prop where
  obj : ∃ doc pm ct, B f = some { cls := .type "function", data := .func (fnX name qual params body scope clos .none .none doc pm none cd ct) }
  code : Stb B fun h => h.CodeRec cd qual
theorem NestFn.mono {B B' : Base} {f : Addr} {name qual : Str} {params : Arguments} {body : List Stmt} {scope : Scope} {clos : List (Str × Addr)} {cd : Value} (h : NestFn B f name qual params body scope clos cd) (k : BLe B B') : NestFn B' f name qual params body scope clos cd :=
  ⟨let ⟨a, b, c, e⟩ := h.obj; ⟨a, b, c, k _ _ e⟩, h.code.mono k⟩
theorem NestFn.fnB {B : Base} {f : Addr} {name qual : Str} {params : Arguments} {body : List Stmt} {scope : Scope} {clos : List (Str × Addr)} {cd : Value} (h : NestFn B f name qual params body scope clos cd) : fnB B f := let ⟨a, b, c, e⟩ := h.obj; ⟨_, _, e, rfl⟩

/-- the places of a code table: what stands there for the def at this place -/
abbrev rTb (ps : Array Value) : Res := fun o => o = tabObj ps
inductive Trip : List Value → Prop
  | nil : Trip []
  | cons {a b : Int} {t u : Tok} {c : Value} {r : List Value} : Trip r → Trip (.int a t :: .int b u :: c :: r)
theorem Trip.ok {l : List Value} (h : Trip l) : TriplesOk l := by
  induction h with
  | nil => trivial
  | cons _ ih => exact ih
theorem Trip.snoc {l : List Value} (h : Trip l) (a b : Int) (c : Value) : Trip (l ++ [rawInt a, rawInt b, c]) := by
  induction h with
  | nil => exact .cons .nil
  | cons _ ih => exact .cons ih
structure TabOk (B : Base) (pos : Pos) (qual : Str) (ps : Array Value) : Prop where
  ok : Trip ps.toList
  hit : codeAmong pos ps.toList = none ∨ ∃ cv, codeAmong pos ps.toList = some cv ∧ Stb B fun h => h.CodeRec cv qual
theorem TabOk.mono {B B' : Base} {pos : Pos} {qual : Str} {ps : Array Value} (h : TabOk B pos qual ps) (k : BLe B B') : TabOk B' pos qual ps := ⟨h.ok, h.hit.imp id fun ⟨cv, e, x⟩ => ⟨cv, e, x.mono k⟩⟩

structure TopC (B : Base) (c P : Addr) : Prop where
  head : Stb B fun h => CodeHd h c P
  bmain : Stb B fun h => ∃ mg, h.Ns mainGlobals mg ∧ h.BuiltinsAt mg P
  gP : mainGlobals ≠ P
theorem TopC.mono {B B' : Base} {c P : Addr} (h : TopC B c P) (k : BLe B B') : TopC B' c P := ⟨h.head.mono k, h.bmain.mono k, h.gP⟩

theorem Ok.make_nest {env : Env} {c P : Addr} {ps : Array Value} {name qual : Str} {params : Arguments} {body : List Stmt} {scope : Scope} {pos : Pos} {clos : List (Str × Addr)} {fl : Nat} {v' : Vol} (hC : TopC B c P) (hcl : closureFor scope env = pure clos) (hg : env.globals = mainGlobals) (hcode : env.code = .ref c)
    (ht : TabOk B pos qual ps) (hd : Del v P (rTb ps) v')
    (h : ∀ f B' ps' cd, BLe B B' → TabOk B' pos qual ps' → NestFn B' f name qual params body scope clos cd → Q (.ref f) B' G ((P, rTb ps') :: v')) :
    Ok prog w O n B G v (makeFunction name qual params (.stmts body) scope env [] [] [] pos fl) Q := fun A s R S => by
  have S0 := S.pull hd
  obtain ⟨o, hP, ho⟩ := S0.res _ List.mem_cons_self
  dsimp only at hP ho
  subst ho
  obtain ⟨mg, hmg, hbm⟩ := hC.bmain _ S0.keep
  have hoffP : B P = none := S0.off _ List.mem_cons_self
  rcases ht.hit with hn | ⟨cv, hcv, hrec⟩
  · refine makeFunction_K (mg := mg) hcl hg hmg hcode (hC.head _ S0.keep) hP ht.ok.ok hn hC.gP hbm fun c' ctv doc h' tk hx hge hlt hrec htb => ?_
    obtain ⟨c₂, oc, vs, t, e2, hoc, hdd, hvv⟩ := hrec
    cases e2
    -- the table has grown
    have hne : ∀ b o, B b = some o → b ≠ P := fun b o e q => by rw [q, hoffP] at e; cases e
    have S1 : St O B G ((P, rTb (ps ++ #[rawInt pos.line, rawInt pos.col, .ref c'])) :: v') { s with heap := h', toks := tk } := by
      refine ⟨fun b o e => hx b o (hne b o e) (S0.keep b o e), fun p hp => ?_, fun p hp => ?_, S0.nd, S0.gens, S0.os⟩
      rotate_left
      · rcases List.mem_cons.mp hp with rfl | hp
        · exact hoffP
        · exact S0.off p (List.mem_cons_of_mem _ hp)
      rcases List.mem_cons.mp hp with rfl | hp
      · exact ⟨_, htb, rfl⟩
      · obtain ⟨o, e1, e2⟩ := S0.res p (List.mem_cons_of_mem _ hp)
        have : p.1 ≠ P := by
          have nd := S0.nd
          rw [List.map_cons, List.nodup_cons] at nd
          exact fun q => nd.1 (q ▸ List.mem_map_of_mem (f := (·.1)) hp)
        exact ⟨o, hx _ _ this e1, e2⟩
    have oldB : ∀ a, s.heap.objs.size ≤ a → B a = none ∧ ∀ p ∈ ((P, rTb (ps ++ #[rawInt pos.line, rawInt pos.col, .ref c'])) :: v'), p.1 ≠ a := fun a ha => by
      refine ⟨?_, fun p hp e => ?_⟩
      · cases q : B a with
        | none => rfl
        | some o => exact absurd (Heap.lt_size (S0.keep a o q)) (Nat.not_lt.mpr ha)
      · rcases List.mem_cons.mp hp with rfl | hp
        · dsimp only at e; subst e; exact absurd (Heap.lt_size hP) (Nat.not_lt.mpr ha)
        · obtain ⟨o, e1, _⟩ := S0.res p (List.mem_cons_of_mem _ hp)
          rw [e] at e1
          exact absurd (Heap.lt_size e1) (Nat.not_lt.mpr ha)
    obtain ⟨b1, b2⟩ := oldB c' hge
    have hle1 : BLe B (B.add c' oc) := Base.add_le b1
    have S2 : St O (B.add c' oc) G ((P, rTb (ps ++ #[rawInt pos.line, rawInt pos.col, .ref c'])) :: v') { s with heap := h', toks := tk } := by
      refine ⟨fun b o e => ?_, S1.res, fun p hp => ?_, S1.nd, S1.gens, S1.os⟩
      · unfold Base.add at e
        split at e
        · rename_i q; cases e; subst q; exact hoc
        · exact S1.keep b o e
      · unfold Base.add
        rw [if_neg (b2 p hp)]
        exact S1.off p hp
    obtain ⟨k1, k2⟩ := S2.pushB (fnMade name qual params body scope clos doc ((mg "__name__").getD .none) c' ctv) rfl tk
    refine ⟨_, _, _, k2, h _ _ _ (.ref c') (hle1.trans k1) ⟨?_, .inr ⟨.ref c', ?_, ?_⟩⟩ ⟨⟨_, _, _, Base.add_self ..⟩, ?_⟩⟩
    · rw [Array.toList_append]; exact ht.ok.snoc _ _ _
    · rw [Array.toList_append]; exact codeAmong_snoc _ ht.ok.ok hn
    · exact fun hh kk => ⟨c', oc, vs, t, rfl, kk c' oc (k1 _ _ (Base.add_self ..)), hdd, hvv⟩
    · exact fun hh kk => ⟨c', oc, vs, t, rfl, kk c' oc (k1 _ _ (Base.add_self ..)), hdd, hvv⟩
  · refine makeFunction_hit (mg := mg) hcl hg hmg hcode (hC.head _ S0.keep) hP ht.ok.ok hcv hbm fun ctv doc h' tk hk hsz => ?_
    have S1 := S0.extAll (h' := h') hk tk
    obtain ⟨k1, k2⟩ := S1.pushB ({ cls := .type "function", data := .func (fnX name qual params body scope clos .none .none doc ((mg "__name__").getD .none) none cv ctv) } : Obj) rfl tk
    exact ⟨_, _, _, k2, h _ _ ps cv k1 ((ht.mono k1)) ⟨⟨_, _, _, Base.add_self ..⟩, hrec.mono k1⟩⟩

theorem Ok.nest_def {env : Env} {L c P : Addr} {ns0 gl0 : List Str} {cs0 fs0 : List (Str × Addr)} {ps : Array Value} {name : Str} {params : Arguments} {body : List Stmt} {scope : Scope} {pos : Pos} {clos : List (Str × Addr)} {v' : Vol} {Q : Post Flow} (hE : EnvIs env L ns0 gl0 cs0 fs0) (hC : TopC B c P)
    (hcl : closureFor scope env = pure clos) (hcode : env.code = .ref c) (ht : TabOk B pos (qualnameIn env name name) ps) (hd : Del v P (rTb ps) v') (hd0 : params.defaults = []) (hk0 : params.kw_defaults = []) (ha : annTrees params none env = [])
    (h : ∀ f B' ps' cd, BLe B B' → TabOk B' pos (qualnameIn env name name) ps' → NestFn B' f name (qualnameIn env name name) params body scope clos cd → Ok prog w O n B' G ((P, rTb ps') :: v') (storeName env name (.ref f)) fun _ B2 G2 v2 => Q .next B2 G2 v2) :
    Ok prog w O n B G v (exec (.FunctionDef name params body [] none [] scope none name pos) env) Q := fun A s R S =>
  nestDef_K hd0 hk0 ha (wpAny_mono (Ok.make_nest (Q := fun u B' G' v' => Ok prog w O n B' G' v' (storeName env name u) fun _ B2 G2 v2 => Q .next B2 G2 v2) hC hcl hE.glob hcode ht hd h A s R S) (fun _ s1 ⟨_, _, _, S1, h1⟩ => h1 A s1 R S1) fun _ _ x => x)

def okNest (sc : Scope) (ns fns : List Str) (ps : List Str) : Bool :=
  !sc.isCoroutine && !sc.isGenerator && sc.kind == .function && sc.names.all (fun x => x.2 != .cell) && ps.all (fun x => sc.names.lookup x == some .local && ns.contains x) && decide ns.Nodup && decide ps.Nodup

/-- a call of a def within a def -/
theorem Ok.call_nest {f : Addr} {name qual : Str} {params : Arguments} {body : List Stmt} {scope : Scope} {clos : List (Str × Addr)} {cd : Value} {pos : List Value} (hF : NestFn B f name qual params body scope clos cd) (hlim : Stb B fun h => h.NoLimit) (ps rest : List Str) (vals : List Value) {ns : List Str} {vs : List (Option Value)}
    (hbind : ∀ doc pm ct, bindArgs (fnX name qual params body scope clos .none .none doc pm none cd ct) ⟨pos, []⟩ = pure (ps.zip vals)) (hok : okNest scope ns [] ps = true) (hns : ns = ps ++ rest) (hlen : ps.length = vals.length) (hvs : vs = vals.map some ++ rest.map fun _ => none)
    (h : ∀ L env, env.scope = scope → env.locals = L → env.globals = mainGlobals → env.builtins = builtinsNs → env.cells = clos → Ok prog w O n B G ((L, rFr ns vs) :: v) (execs body env) fun fl B' G' v' => ∃ r' v'', Del v' L r' v'' ∧ Q (retOf fl) B' G' v'') :
    Ok prog w O (n + 1) B G v (call (.ref f) pos) Q := fun A s R S => by
  subst hns
  simp only [okNest, Bool.and_eq_true, List.all_eq_true, beq_iff_eq, Bool.not_eq_true', decide_eq_true_eq, bne_iff_ne] at hok
  obtain ⟨⟨⟨⟨⟨⟨k1, k2⟩, k3⟩, k4⟩, k5⟩, k6⟩, k7⟩ := hok
  obtain ⟨doc, pm, ct, ho⟩ := hF.obj
  have hfst : (ps.zip vals).map (·.1) = ps := by rw [← List.unzip_fst, List.unzip_zip_left (by first | lia | omega)]
  have mem : ∀ x ∈ ps.zip vals, x.1 ∈ ps := fun x hx => (List.of_mem_zip hx).1
  refine wpAny_call (codeAny_call_def (fd := fnX name qual params body scope clos .none .none doc pm none cd ct) (body := body) R.room (S.keep _ _ ho) rfl (hlim _ S.keep) (hF.code _ S.keep) rfl (.of_eq (hbind doc pm ct))
    (fun x hx => by simpa using k4 x hx) (fun x hx => (k5 x.1 (mem x hx)).1) (fun h₀ hn hk => ?_) k1 k2 k3)
  obtain ⟨f1, f2⟩ := S.fresh
  have S1 : St O B G ((s.heap.objs.size, rFr (ps ++ rest) vs) :: v) { s with heap := h₀, toks := s.toks + (ps.zip vals).length } := by
    have S0 := S.extAll hk (s.toks + (ps.zip vals).length)
    refine ⟨S0.keep, fun p hp => ?_, fun p hp => ?_, ?_, S0.gens, S0.os⟩
    · rcases List.mem_cons.mp hp with rfl | hp
      · rw [fromBinds_get (ps.zip vals) (by rw [hfst]; exact k7) (ps ++ rest) (fun x hx => by rw [hfst] at hx; exact List.mem_append_left _ hx), fromBinds_zip ps rest vals k6 hlen, ← hvs] at hn
        obtain ⟨o, e, q⟩ := of_ns hn
        exact ⟨o, e, ⟨k6, by rw [hvs]; simp [hlen]⟩, q⟩
      · exact S0.res p hp
    · rcases List.mem_cons.mp hp with rfl | hp
      · exact f1
      · exact S0.off p hp
    · rw [List.map_cons, List.nodup_cons]
      refine ⟨fun hm => ?_, S0.nd⟩
      obtain ⟨p, hp, e⟩ := List.mem_map.mp hm
      exact f2 p hp e
  refine wpAny_mono (h s.heap.objs.size _ rfl rfl rfl rfl rfl _ _ R.deeper S1) (fun fl s' ⟨B', G', v', S', r', v'', hdel, hq⟩ => ?_) fun _ _ x => x.elim
  obtain ⟨j, hj, rfl⟩ := hdel.idx
  have S'' := S'.sub (List.eraseIdx_sublist v' j)
  cases fl <;> exact ⟨_, _, _, S'', hq⟩

/-! ### more of ints and lists -/
theorem Ok.weak {a : Addr} {r r' : Res} {v' : Vol} {α : Type} {t : Sem α} {Q : Post α} (hu : Upd v a r r' v') (hr : ∀ o, r o → r' o) (h : Ok prog w O n B G v' t Q) : Ok prog w O n B G v t Q := fun A s R S => by
  refine h A s R ?_
  obtain ⟨o, e, k⟩ := S.has hu.has
  exact S.turn (h' := s.heap) hu (Heap.SameBut.refl ..) ⟨o, e, hr o k⟩ s.toks
def rListW (xs : List Value) : Res := fun o => o.cls = .type "list" ∧ ∃ n, o.data = .seq xs.toArray n
theorem rList.weak {xs : List Value} (o : Obj) (h : rList xs o) : rListW xs o := by
  obtain ⟨n, rfl⟩ := h; exact ⟨rfl, n, rfl⟩
theorem St.listW {s : Shared} (S : St O B G v s) {l : Addr} {xs : List Value} (h : Has v l (rListW xs)) : s.heap.IsList l xs.toArray := by
  obtain ⟨o, e, hc, n, hd⟩ := S.has h
  exact ⟨o, e, hc, n, hd⟩
theorem Ok.set_item {l : Addr} {xs : List Value} {k : Int} {t : Tok} {x : Value} {v' : Vol} {Q : Post Unit} (h0 : 0 ≤ k) (hk : k.toNat < xs.length) (hk2 : k < 2 ^ 63) (hu : Upd v l (rListW xs) (rListW (xs.set k.toNat x)) v') (h : Q () B G v') :
    Ok prog w O n B G v (setItem (.ref l) (.int k t) x) Q := fun A s R S => by
  refine wpAny_setItem_list (S.listW hu.has) h0 hk2 (by rw [List.size_toArray]; (first | lia | omega)) fun h' hl hs => ?_
  obtain ⟨o, e, hc, n, hd⟩ := hl
  exact ⟨B, G, v', S.turn hu hs ⟨o, e, hc, n, by rw [hd]; simp⟩ s.toks, h⟩
theorem Ok.assign_sub {env : Env} {o i value : Expr} {p' p : Pos} {Q : Post Flow}
    (h : Ok prog w O n B G v (eval value env) fun x B1 G1 v1 => Ok prog w O n B1 G1 v1 (eval o env) fun ov B2 G2 v2 => Ok prog w O n B2 G2 v2 (eval i env) fun iv B3 G3 v3 => Ok prog w O n B3 G3 v3 (setItem ov iv x) fun _ B4 G4 v4 => Q .next B4 G4 v4)
    (hs : swapsWith value (some (.Subscript o i p')) p.line env = pure false) : Ok prog w O n B G v (exec (.Assign [.Subscript o i p'] value p) env) Q := fun A s R S =>
  wpAny_Assign_Subscript (Ok.go h R S (fun _ s1 _ _ _ S1 h1 => Ok.go h1 R S1 (fun _ s2 _ _ _ S2 h2 => Ok.go h2 R S2 (fun _ s3 _ _ _ S3 h3 => h3 A s3 R S3)))) hs
theorem Ok.bit_length {a : Int} {t : Tok} (h : ∀ u, Q (.int (Builtin.Int.intBits a) u) B G v) : Ok prog w O n B G v (call (.builtin "int.bit_length") [.int a t]) Q := fun A s R S =>
  call_int_bit_length ⟨B, G, v, S.toks _, h _⟩
theorem Ok.divmod {a b : Int} {t u : Tok} (hb : b ≠ 0) (hs : b.natAbs < 1073741824) (h : ∀ x B' t' u', BLe B B' → tupB B' x [.int (a.fdiv b) t', .int (a.fmod b) u'] → Q (.ref x) B' G v) : Ok prog w O n B G v (call (.builtin "divmod") [.int a t, .int b u]) Q := fun A s R S => by
  refine divmod_int hb ?_ (.inl (PyProof.noPylong_small hs))
  obtain ⟨k1, k2⟩ := S.pushB ({ cls := .type "tuple", data := .seq #[.int (a.fdiv b) s.toks, .int (a.fmod b) (s.toks + 1)] } : Obj) rfl (s.toks + 1 + 1)
  exact ⟨_, _, _, k2, h _ _ _ _ k1 ⟨0, Base.add_self ..⟩⟩
theorem Ok.mul_list {l : Addr} {xs : List Value} {x : Int} {u : Tok} (hl : LstAt B v l xs) (hhi : x < 1000000) (h0 : 0 ≤ x) (hz : xs.length ≤ 10) (h : ∀ a, Q (.ref a) B G ((a, rList (List.replicate x.toNat xs).flatten) :: v)) :
    Ok prog w O n B G v (binaryOp .Mult (.ref l) (.int x u)) Q := fun A s R S => by
  obtain ⟨k, hl⟩ := hl.at S
  have hsz : xs.toArray.size * x.toNat ≤ 2 ^ 24 := by
    rw [List.size_toArray]
    calc xs.length * x.toNat ≤ 10 * x.toNat := Nat.mul_le_mul_right _ hz
      _ ≤ 2 ^ 24 := by (first | lia | omega)
  refine wpAny_binaryOp_repeat_ref (T := "list") (U := "int") (by decide) ⟨_, hl, rfl⟩ (fun s' => typeIs_int s' x u) noFill_list_mul PySem.F.fills_int_mul PySem.F.slot_int_rmul repeat_list PySem.F.slot_int_index.lookup
    (call_meets PySem.F.slot_int_rmul (typeIs_int s x u) PySem.F.entry_int_rmul (PySem.F.args_int_rmul_2 _ _) (int___rmul___int_list x u l xs.toArray k)
      ⟨hl, rfl, ⟨_, hl, rfl⟩, call_meets PySem.F.slot_list_mul ⟨_, hl, rfl⟩ PySem.F.entry_list_mul (PySem.F.args_list_mul_2 _ _)
        (AutoListH.list___mul___list_int_3 l xs.toArray k x u (by simp [Builtin.List.listFitsIndex]; (first | lia | omega)) (by first | lia | omega) (by simp [Builtin.List.listTooLong, sizeLine]; simp at hsz; (first | lia | omega)))
        ⟨hl, ?_⟩⟩)
  rw [listMul_foldl_if]
  exact ⟨B, G, _, S.push (r := rList (List.replicate x.toNat xs).flatten) ({ cls := .type "list", data := .seq (List.replicate x.toNat xs).flatten.toArray } : Obj) rfl ⟨0, rfl⟩ s.toks, h _⟩

abbrev rRev (l : Addr) (i : Int) : Res := rFields "list_reverseiterator" [.ref l, rawInt i]
theorem Ok.reversed {l : Addr} {xs : List Value} (hl : Has v l (rListW xs)) (h : ∀ a, Q (.ref a) B G ((a, rRev l ((xs.length : Int) - 1)) :: v)) : Ok prog w O n B G v (call (.type "reversed") [.ref l]) Q := fun A s R S => by
  refine call_reversed_list (S.listW hl) ?_
  rw [List.size_toArray]
  exact ⟨B, G, _, S.push (r := rRev l ((xs.length : Int) - 1)) (revObj l ((xs.length : Int) - 1)) rfl ⟨rfl, rfl⟩ s.toks, h _⟩
theorem Ok.next_rev {I l : Addr} {i : Nat} {xs : List Value} {x : Value} {v' : Vol} {Q : Post (Option Value)} (hu : Upd v I (rRev l (i : Int)) (rRev l ((i : Int) - 1)) v') (hl : Has v l (rListW xs)) (hx : xs[i]? = some x) (h : Q (some x) B G v') : Ok prog w O n B G v (pyNext (.ref I)) Q := fun A s R S => by
  obtain ⟨o, e1, e2, e3⟩ := S.has hu.has
  exact wpAny_pyNext_rev_item (i := i) ⟨o, e1, e2, e3⟩ (S.listW hl) (by simpa using hx) fun h' ⟨o', f1, f2, f3⟩ hs => ⟨B, G, v', S.turn hu hs ⟨o', f1, f2, f3⟩ _, h⟩
theorem Ok.next_rev_end {I l : Addr} {v' : Vol} {Q : Post (Option Value)} (hu : Del v I (rRev l (-1)) v') (h : Q none B G v') : Ok prog w O n B G v (pyNext (.ref I)) Q := fun A s R S => by
  obtain ⟨j, hj, _⟩ := hu.idx
  obtain ⟨o, e1, e2, e3⟩ := S.get hj
  exact wpAny_pyNext_rev_end R.handled ⟨o, e1, e2, e3⟩ fun h' hs => ⟨B, G, v', S.gone hu hs _, h⟩
theorem Ok.iter_rev {I l : Addr} {i : Int} {Q : Post Value} (hh : Has v I (rRev l i)) (h : Q (.ref I) B G v) : Ok prog w O n B G v (pyIter (.ref I)) Q := fun A s R S => by
  obtain ⟨o, e1, e2, e3⟩ := S.has hh
  exact wpAny_pyIter_revIter ⟨o, e1, e2, e3⟩ ⟨_, _, _, S, h⟩
end
-- part Digits
structure TopD (B : Base) : Prop where
  top : TopB B
  c66 : TopC B 70 66
  c73 : TopC B 77 73
theorem TopD.mono {B B' : Base} (h : TopD B) (k : BLe B B') : TopD B' := ⟨h.top.mono k, h.c66.mono k, h.c73.mono k⟩

def nBody : Stmt → List Stmt
  | .FunctionDef _ _ b _ _ _ _ _ _ _ => b
  | _ => []
def nPars : Stmt → Arguments
  | .FunctionDef _ a _ _ _ _ _ _ _ _ => a
  | _ => default
def nScope : Stmt → Scope
  | .FunctionDef _ _ _ _ _ _ s _ _ _ => s
  | _ => default
def nPos : Stmt → Pos
  | .FunctionDef _ _ _ _ _ _ _ _ _ p => p
  | _ => default
def nestAt (i j : Nat) : Stmt := ((bodyAt i)[j]?).getD (.Pass default)

abbrev NatsV (xs : List Value) (ds : List Nat) : Prop := IntsV xs (ds.map Int.ofNat)
def valN (n : Nat) : List Nat → Nat
  | [] => 0
  | d :: ds => d + 2 ^ n * valN n ds

theorem noLim {B : Base} (h : TopB B) : Stb B fun h => h.NoLimit := let ⟨r, e⟩ := h.f18; e.lim

theorem All2.set {α β : Type} {R : α → β → Prop} {as : List α} {bs : List β} (h : All2 R as bs) (k : Nat) {a : α} {b : β} (r : R a b) : All2 R (as.set k a) (bs.set k b) := by
  induction h generalizing k with
  | nil => exact .nil
  | cons x t ih =>
    cases k with
    | zero => exact .cons r t
    | succ k => exact .cons x (ih k)
theorem bits_le {x k : Nat} (h : x < 2 ^ k) : Builtin.Int.intBits (x : Int) ≤ k := by
  unfold Builtin.Int.intBits
  split
  · (first | lia | omega)
  · rename_i hx
    have hx0 : x ≠ 0 := by intro q; subst q; exact hx rfl
    rw [Int.natAbs_natCast]
    have := (Nat.log2_lt hx0).mpr h
    (first | lia | omega)
theorem xor_low (x s : Nat) : Builtin.bitXor (x : Int) ((x / 2 ^ s * 2 ^ s : Nat) : Int) = ((x % 2 ^ s : Nat) : Int) := by
  have hnot : ∀ a : Nat, Builtin.bitNot (a : Int) < 0 := fun a => by unfold Builtin.bitNot; (first | lia | omega)
  have hnn : ∀ a : Nat, Builtin.bitNot (Builtin.bitNot (a : Int)) = a := fun a => by unfold Builtin.bitNot; (first | lia | omega)
  have hor : ∀ a b : Nat, Builtin.bitOr (a : Int) (b : Int) = ((a ||| b : Nat) : Int) := fun a b => by
    unfold Builtin.bitOr Builtin.bitAnd
    rw [decide_eq_false (by have := hnot a; (first | lia | omega)), decide_eq_false (by have := hnot b; (first | lia | omega))]
    dsimp only
    rw [hnn, hnn, hnn]; simp
  have hand : ∀ a b : Nat, Builtin.bitAnd (a : Int) (b : Int) = ((a &&& b : Nat) : Int) := fun a b => by
    unfold Builtin.bitAnd
    rw [decide_eq_true (by tbr_iter "om"), decide_eq_true (by tbr_iter "om")]
    dsimp only
    simp
  unfold Builtin.bitXor
  rw [hor, hand]
  have tb : ∀ i, (x / 2 ^ s * 2 ^ s).testBit i = (decide (s ≤ i) && x.testBit i) := fun i => by
    rw [Nat.testBit_mul_two_pow, Nat.testBit_div_two_pow]
    by_cases h : s ≤ i
    · simp [h, Nat.sub_add_cancel h]
    · simp [h]
  have e1 : x ||| (x / 2 ^ s * 2 ^ s) = x := Nat.eq_of_testBit_eq fun i => by
    rw [Nat.testBit_or, tb]; cases x.testBit i <;> simp
  have e2 : x &&& (x / 2 ^ s * 2 ^ s) = x / 2 ^ s * 2 ^ s := Nat.eq_of_testBit_eq fun i => by
    rw [Nat.testBit_and, tb]; cases x.testBit i <;> simp
  rw [e1, e2]
  have := Nat.div_add_mod x (2 ^ s)
  have h2 := Nat.mul_comm (2 ^ s) (x / 2 ^ s)
  (first | lia | omega)
theorem valN_app (n : Nat) : ∀ (a b : List Nat), valN n (a ++ b) = valN n a + 2 ^ (n * a.length) * valN n b
  | [], b => by simp [valN]
  | d :: a, b => by
    rw [List.cons_append, valN, valN_app n a b, valN, List.length_cons, Nat.mul_add, Nat.mul_add, Nat.mul_one, Nat.pow_add, Nat.add_assoc]
    congr 2
    rw [Nat.mul_comm (2 ^ (n * a.length)) (2 ^ n), Nat.mul_assoc]

section
variable {w : World} {O : OsState} {n : Nat} {B : Base} {G : Array GenState} {v : Vol} {Q : Post Value}
theorem i2d_inner {f ca ci cn D : Addr} {qual : Str} {clos : List (Str × Addr)} {cd : Value} {nn : Nat} {tn : Tok} (hT : TopB B) (hF : NestFn B f "inner" qual (nPars (nestAt 9 1)) (nBody (nestAt 9 1)) (nScope (nestAt 9 1)) clos cd)
    (h1 : clos.lookup (Str.ofString "a_digits") = some ca) (h2 : clos.lookup (Str.ofString "inner") = some ci) (h3 : clos.lookup (Str.ofString "n") = some cn) :
    ∀ (m x Lo R : Nat) (xs : List Value) (ds : List Nat) (v : Vol) (Q : Post Value) (tx tl tr : Tok), Has v ca (rCell (some (.ref D))) → Has v ci (rCell (some (.ref f))) → Has v cn (rCell (some (.int (nn : Int) tn))) → m = R - Lo → Lo < R → R ≤ ds.length → nn * (R - Lo) ≤ 1000 → R ≤ 1000 → nn ≤ 1000 → x < 2 ^ (nn * (R - Lo)) → NatsV xs ds →
      (∀ xs' mid, NatsV xs' (ds.take Lo ++ mid ++ ds.drop R) → mid.length = R - Lo → valN nn mid = x → (∀ d ∈ mid, d < 2 ^ nn) → Q .none B G ((D, rListW xs') :: v)) →
      Ok prg w O (n + m) B G ((D, rListW xs) :: v) (call (.ref f) [.int (x : Int) tx, .int (Lo : Int) tl, .int (R : Int) tr]) Q := by
  intro m
  induction m using Nat.strongRecOn with
  | ind m ih =>
  intro x Lo R xs ds v Q tx tl tr v1 v2 v3 hm hlt hR hb hR2 hnn hx hxs h
  have hxl := hxs.length
  rw [List.length_map] at hxl
  obtain ⟨m', rfl⟩ : ∃ k, m = k + 1 := ⟨m - 1, by tbr_iter "om"⟩
  refine Ok.call_nest hF (noLim hT) ["x", "L", "R"] ["mid", "shift", "upper", "lower"] [.int (x : Int) tx, .int (Lo : Int) tl, .int (R : Int) tr] (ns := ["x", "L", "R", "mid", "shift", "upper", "lower"])
    (vs := [some (.int (x : Int) tx), some (.int (Lo : Int) tl), some (.int (R : Int) tr), none, none, none, none]) (fun _ _ _ => rfl) (by decide +kernel) rfl rfl rfl fun L env e1 e2 e3 e4 e5 => ?_
  have hE : EnvIs env L ["x", "L", "R", "mid", "shift", "upper", "lower"] [] [] [("a_digits", ca), ("inner", ci), ("n", cn)] := EnvIs.of e1 e2 e3 e4 (by
    show chk (nScope (nestAt 9 1)) ["x", "L", "R", "mid", "shift", "upper", "lower"] [] [] ["a_digits", "inner", "n"] = true
    decide +kernel) nofun (by
    intro p hp
    rw [e5]
    simp only [List.mem_cons, List.not_mem_nil, or_false] at hp
    rcases hp with rfl | rfl | rfl
    · exact h1
    · exact h2
    · exact h3)
  conv in (nBody _) => whnf
  tbr_iter "go*"
  refine if_sp (fun hb1 => ?_) (fun hb1 => ?_)
  · tbr_iter "go*"
    refine Ok.assign_sub ?_ rfl
    tbr_iter "go*"
    refine Ok.set_item (xs := xs) (by tbr_iter "om") (by rw [Int.toNat_natCast]; (first | lia | omega)) (by tbr_iter "om") (by tbr_iter "upd") ?_
    tbr_iter "go*"
    refine ⟨_, _, .here, h _ [x] ?_ (by simp only [List.length_cons, List.length_nil]; (first | lia | omega)) (by simp [valN]) ?_⟩
    · rw [Int.toNat_natCast]
      have e : (ds.take Lo ++ [x] ++ ds.drop R).map Int.ofNat = (ds.map Int.ofNat).set Lo (Int.ofNat x) := by
        rw [← List.map_set, List.set_eq_take_append_cons_drop, if_pos (by tbr_iter "om")]
        have : R = Lo + 1 := by tbr_iter "om"
        rw [this]; simp
      rw [NatsV, e]
      exact hxs.set Lo ⟨tx, rfl⟩
    · intro d hd
      simp only [List.mem_cons, List.not_mem_nil, or_false] at hd
      subst hd
      have : R - Lo = 1 := by tbr_iter "om"
      rw [this, Nat.mul_one] at hx
      exact hx
  · tbr_iter "go*"
    refine Ok.shr_int (by decide) fun _ => ?_
    have eM : ((Lo : Int) + R) / 2 ^ (1 : Int).toNat = (((Lo + R) / 2 : Nat) : Int) := by simp
    rw [eM]
    obtain ⟨M, hM⟩ : ∃ M, M = (Lo + R) / 2 := ⟨_, rfl⟩
    rw [← hM]
    tbr_iter "go*"
    refine Ok.mul_int (IntMulOk.of_left (Nat.le_trans (by rw [show ((M : Int) - Lo) = ((M - Lo : Nat) : Int) by tbr_iter "om"]; exact bits_le (k := 10) (by tbr_iter "om")) (by decide))) fun _ => ?_
    have eS : ((M : Int) - Lo) * nn = (((M - Lo) * nn : Nat) : Int) := by rw [show ((M : Int) - Lo) = ((M - Lo : Nat) : Int) by tbr_iter "om"]; simp
    rw [eS]
    obtain ⟨S, hS⟩ : ∃ S, S = (M - Lo) * nn := ⟨_, rfl⟩
    rw [← hS]
    have hS2 : S + nn * (R - M) = nn * (R - Lo) := by
      rw [hS, Nat.mul_comm, ← Nat.mul_add]
      congr 1; (first | lia | omega)
    tbr_iter "go*"
    refine Ok.shr_int (by tbr_iter "om") fun _ => ?_
    have eU : (x : Int) / 2 ^ (S : Int).toNat = ((x / 2 ^ S : Nat) : Int) := by rw [Int.toNat_natCast]; simp
    rw [eU]
    tbr_iter "go*"
    have hU : x / 2 ^ S < 2 ^ (nn * (R - M)) := by
      rw [Nat.div_lt_iff_lt_mul (Nat.two_pow_pos _), ← Nat.pow_add, Nat.add_comm, hS2]
      exact hx
    refine Ok.shl_int (by tbr_iter "om") (by have := bits_le hU; (first | lia | omega)) fun _ => ?_
    have eW : ((x / 2 ^ S : Nat) : Int) * 2 ^ (S : Int).toNat = ((x / 2 ^ S * 2 ^ S : Nat) : Int) := by rw [Int.toNat_natCast]; simp
    rw [eW]
    refine Ok.xor_int fun _ => ?_
    rw [xor_low]
    tbr_iter "go*"
    refine Ok.call_fn (f := f) ?_
    tbr_iter "go*"
    refine ⟨rfl, ?_⟩
    tbr_iter "go*"
    refine ⟨hF.fnB, ?_⟩
    refine Ok.pull (.there .here) ?_
    refine Ok.room (ih (M - Lo) (by tbr_iter "om") (x % 2 ^ S) Lo M xs ds _ _ _ _ _ (.there v1) (.there v2) (.there v3) rfl (by tbr_iter "om") (by tbr_iter "om") ?_ (by tbr_iter "om") hnn ?_ hxs fun xs1 lo g1 g2 g3 g4 => ?_) (by show n + (M - Lo) ≤ n + m'; (first | lia | omega))
    · exact Nat.le_trans (Nat.mul_le_mul_left _ (by tbr_iter "om")) hb
    · rw [Nat.mul_comm nn, ← hS]; exact Nat.mod_lt _ (Nat.two_pow_pos _)
    refine ⟨nofun, ?_⟩
    tbr_iter "go*"
    refine Ok.call_fn (f := f) ?_
    tbr_iter "go*"
    refine ⟨rfl, ?_⟩
    tbr_iter "go*"
    refine ⟨hF.fnB, ?_⟩
    refine Ok.room (ih (R - M) (by tbr_iter "om") (x / 2 ^ S) M R xs1 (ds.take Lo ++ lo ++ ds.drop M) _ _ _ _ _ (.there v1) (.there v2) (.there v3) rfl (by tbr_iter "om") ?_ ?_ (by tbr_iter "om") hnn hU g1 fun xs2 hi k1 k2 k3 k4 => ?_) (by show n + (R - M) ≤ n + m'; (first | lia | omega))
    · simp only [List.length_append, List.length_take, List.length_drop]; (first | lia | omega)
    · exact Nat.le_trans (Nat.mul_le_mul_left _ (by tbr_iter "om")) hb
    refine ⟨nofun, ?_⟩
    tbr_iter "go*"
    refine ⟨_, _, .there .here, h _ (lo ++ hi) ?_ (by rw [List.length_append]; (first | lia | omega)) ?_ ?_⟩
    · have e : (ds.take Lo ++ lo ++ ds.drop M).take M ++ hi ++ (ds.take Lo ++ lo ++ ds.drop M).drop R = ds.take Lo ++ (lo ++ hi) ++ ds.drop R := by
        have l1 : (ds.take Lo ++ lo).length = M := by simp only [List.length_append, List.length_take]; (first | lia | omega)
        rw [List.take_append_of_le_length (by tbr_iter "om"), List.take_of_length_le (by tbr_iter "om"), List.drop_append, List.drop_of_length_le (by tbr_iter "om"), List.nil_append, List.drop_drop, l1]
        rw [show M + (R - M) = R by tbr_iter "om"]
        simp
      rw [e] at k1; exact k1
    · rw [valN_app, g3, k3, g2, Nat.mul_comm nn, ← hS]
      have := Nat.div_add_mod x (2 ^ S)
      (first | lia | omega)
    · intro d hd
      rcases List.mem_append.mp hd with hd | hd
      · exact g4 d hd
      · exact k4 d hd
end
-- part Dig2
theorem lt_bits (x : Nat) : x < 2 ^ Builtin.Int.intBits (x : Int) := by
  unfold Builtin.Int.intBits
  split
  · rename_i h
    have : x = 0 := by simpa using h
    subst this; decide
  · rw [Int.natAbs_natCast]; exact Nat.lt_log2_self
def qn9 : Str := nameAt 9 ++ ".<locals>." ++ "inner"
def qn10 : Str := nameAt 10 ++ ".<locals>." ++ "inner"
abbrev Tab9 (B : Base) (ps : Array Value) : Prop := TabOk B (nPos (nestAt 9 1)) qn9 ps
abbrev Tab10 (B : Base) (ps : Array Value) : Prop := TabOk B (nPos (nestAt 10 0)) qn10 ps

section
variable {w : World} {O : OsState} {n : Nat} {B : Base} {G : Array GenState} {v : Vol} {Q : Post Value}
theorem int2digits {a nn : Nat} {ta tn : Tok} {ps : Array Value} (hT : TopD B) (ht : Tab9 B ps) (ha : a < 2 ^ 20) (hn1 : 1 ≤ nn) (hn2 : nn ≤ 20)
    (h : ∀ D B' ps' xs ds, BLe B B' → Tab9 B' ps' → NatsV xs ds → valN nn ds = a → (∀ d ∈ ds, d < 2 ^ nn) → ds.length ≤ 40 → Q (.ref D) B' G ((D, rListW xs) :: (66, rTb ps') :: v)) :
    Ok prg w O (n + 42) B G ((66, rTb ps) :: v) (call (.ref 71) [.int (a : Int) ta, .int (nn : Int) tn]) Q := by
  obtain ⟨r, hF, hcd⟩ := hT.top.f9
  refine Ok.call_defC (n := n + 41) hF ["a", "n"] [.int (a : Int) ta, .int (nn : Int) tn] ["a"] ["inner", "a_digits", "n"] (vs := [some (.int (a : Int) ta)]) (init := [none, none, some (.int (nn : Int) tn)]) rfl (by decide +kernel) rfl rfl rfl fun L env cs hcs hA => ?_
  obtain ⟨c1, cs1, rfl, hcs1⟩ := of_cons hcs
  obtain ⟨c2, cs2, rfl, hcs2⟩ := of_cons hcs1
  obtain ⟨c3, cs3, rfl, hcs3⟩ := of_cons hcs2
  obtain rfl := of_nil hcs3
  change Ok prg w O (n + 41) B G ((L, rFr ["a"] [some (.int (a : Int) ta)]) :: (c1, rCell none) :: (c2, rCell none) :: (c3, rCell (some (.int (nn : Int) tn))) :: (66, rTb ps) :: v) _ _
  have hE := hA.is ["a"] ["len"] (by show chk (scopeAt 9) ["a"] ["len"] ["inner", "a_digits", "n"] [] = true; decide +kernel) (by show (["inner", "a_digits", "n"] : List Str).Nodup; decide +kernel)
  have hcomp := EnvIs.comp hE (scope := nScope (nestAt 9 1)) [] [] [("a_digits", c2), ("inner", c1), ("n", c3)] [] (by show chkC (nScope (nestAt 9 1)) [] [] ["a_digits", "inner", "n"] = true; decide +kernel) (by
    intro p hp
    simp only [List.mem_cons, List.not_mem_nil, or_false] at hp ⊢
    rcases hp with rfl | rfl | rfl
    · exact .inr (.inl rfl)
    · exact .inl rfl
    · exact .inr (.inr rfl)) nofun 0
  have hT1 := hT.top
  conv in (bodyAt 9) => whnf
  tbr_iter "go*"
  refine Ok.listd ?_
  tbr_iter "go*"
  refine ⟨Nat.le_of_ble_eq_true rfl, fun za => ?_⟩
  tbr_iter "go*"
  refine Ok.method PySem.F.plainAttrs_int PySem.F.slot_int_bit_length PySem.F.type_int_bit_length rfl rfl rfl rfl ?_
  tbr_iter "go*"
  refine ⟨fun s _ => ⟨typeIs_int s _ _, nofun⟩, ?_⟩
  tbr_iter "go*"
  refine Ok.bit_length fun tb => ?_
  obtain ⟨bl, hbl⟩ : ∃ bl, bl = Builtin.Int.intBits (a : Int) := ⟨_, rfl⟩
  have hbl1 : a < 2 ^ bl := hbl ▸ lt_bits a
  have hbl2 : bl ≤ 20 := hbl ▸ bits_le ha
  rw [← hbl]
  tbr_iter "go*"
  obtain ⟨k, hk⟩ : ∃ k, k = (bl + nn - 1) / nn := ⟨_, rfl⟩
  have ek : ((bl : Int) + nn - 1) / nn = (k : Int) := by
    rw [hk, show (bl : Int) + nn - 1 = ((bl + nn - 1 : Nat) : Int) by tbr_iter "om"]; rfl
  rw [ek]
  have hk1 : bl ≤ nn * k := by
    have h1 := Nat.div_add_mod (bl + nn - 1) nn
    have h2 := Nat.mod_lt (bl + nn - 1) (show 0 < nn by tbr_iter "om")
    rw [← hk] at h1
    (first | lia | omega)
  have hk2 : nn * k ≤ bl + nn - 1 := by rw [hk]; exact Nat.mul_div_le _ _
  have hk3 : k ≤ 40 := by
    have : 1 * k ≤ nn * k := Nat.mul_le_mul_right _ hn1
    (first | lia | omega)
  refine Ok.mul_list (.inl .here) (by tbr_iter "om") (by tbr_iter "om") (by simp) fun D => ?_
  rw [Int.toNat_natCast]
  have hrep : ∀ t, (List.replicate k [Value.int 0 t]).flatten = List.replicate k (Value.int 0 t) := fun t => by
    induction k with
    | zero => rfl
    | succ k ih => rw [List.replicate_succ, List.flatten_cons]; simp [List.replicate_succ, List.flatten_replicate_singleton]
  rw [hrep]
  tbr_iter "go*"
  have hq : qualnameIn env "inner" "inner" = qn9 := by
    unfold qualnameIn
    rw [(hE.isCell ("inner", c1) (by simp)).1, if_neg (by decide), hA.qual]; rfl
  refine Ok.drop (.there .here) ?_
  refine Ok.nest_def (params := nPars (nestAt 9 1)) (body := nBody (nestAt 9 1)) (scope := nScope (nestAt 9 1)) hE hT.c66 hcomp.2 (by rw [hA.code, hcd]) (by rw [hq]; exact ht) (by tbr_iter "del") rfl rfl rfl fun f B2 ps2 cd hle ht2 hF2 => ?_
  rw [hq] at ht2 hF2
  have hT2 := hT.mono hle
  have hTt := hT2.top
  tbr_iter "go*"
  refine if_sp (fun hz => ?_) (fun hz => ?_)
  · tbr_iter "go*"
    refine Ok.call_fn (f := f) ?_
    tbr_iter "go*"
    refine ⟨rfl, ?_⟩
    tbr_iter "go*"
    refine Ok.call_val (f := .builtin "len") rfl ?_
    tbr_iter "go*"
    refine ⟨rfl, ?_⟩
    tbr_iter "go*"
    refine Ok.len_list (.inl (by tbr_iter "has")) (by rw [List.length_replicate]; (first | lia | omega)) fun tk => ?_
    rw [List.length_replicate]
    tbr_iter "go*"
    refine ⟨hF2.fnB, ?_⟩
    refine Ok.weak (a := D) (r' := rListW (List.replicate k (Value.int 0 _))) (by tbr_iter "upd") rList.weak ?_
    refine Ok.pull (a := D) (by tbr_iter "del") ?_
    have hk0 : 0 < k := by
      rcases Nat.eq_zero_or_pos k with h0 | h0
      · subst h0
        rw [Nat.mul_zero] at hk1
        have : bl = 0 := by tbr_iter "om"
        subst this
        (first | lia | omega)
      · exact h0
    refine Ok.room (i2d_inner (n := n) hTt hF2 (hcomp.1.isCell ("a_digits", c2) (by simp)).2.1 (hcomp.1.isCell ("inner", c1) (by simp)).2.1 (hcomp.1.isCell ("n", c3) (by simp)).2.1 k a 0 k _ (List.replicate k 0) _ _ _ _ _ (by tbr_iter "has") (by tbr_iter "has") (by tbr_iter "has") (by tbr_iter "om") hk0 (by simp) (by rw [Nat.sub_zero]; (first | lia | omega)) (by tbr_iter "om") (by tbr_iter "om")
      (by rw [Nat.sub_zero]; exact Nat.lt_of_lt_of_le hbl1 (Nat.pow_le_pow_right (by decide) hk1)) ?_ fun xs' mid g1 g2 g3 g4 => ?_) (by tbr_iter "om")
    · rw [NatsV, List.map_replicate]
      clear hrep ek hk1 hk2 hk3 hk hk0
      induction k with
      | zero => exact .nil
      | succ k ih => exact .cons ⟨_, rfl⟩ ih
    refine ⟨nofun, ?_⟩
    tbr_iter "go*"
    refine ⟨_, ?_, h D B2 ps2 xs' mid hle ht2 ?_ g3 g4 (by tbr_iter "om")⟩
    · tbr_iter "sub"
    · simpa using g1
  · have ha0 : a = 0 := by tbr_iter "om"
    subst ha0
    have hb0 : bl = 0 := by rw [hbl]; rfl
    have hk0 : k = 0 := by rw [hk, hb0]; exact Nat.div_eq_of_lt (by tbr_iter "om")
    subst hk0
    refine Ok.weak (a := D) (r := rList (List.replicate 0 (Value.int 0 _))) (r' := rListW []) (by tbr_iter "upd") rList.weak ?_
    refine Ok.pull (a := D) (by tbr_iter "del") ?_
    tbr_iter "go*"
    refine ⟨_, ?_, h D B2 ps2 [] [] hle ht2 .nil rfl (by simp) (by simp)⟩
    tbr_iter "sub"
end
-- part Dig3
theorem valN_lt (n : Nat) : ∀ (ds : List Nat), (∀ d ∈ ds, d < 2 ^ n) → valN n ds < 2 ^ (n * ds.length)
  | [], _ => by simp [valN]
  | d :: ds, h => by
    rw [valN, List.length_cons, Nat.mul_add, Nat.mul_one, Nat.pow_add]
    have h1 := h d List.mem_cons_self
    have h2 := valN_lt n ds fun e he => h e (List.mem_cons_of_mem _ he)
    calc d + 2 ^ n * valN n ds < 2 ^ n + 2 ^ n * valN n ds := by tbr_iter "om"
      _ = 2 ^ n * (valN n ds + 1) := by rw [Nat.mul_add, Nat.mul_one, Nat.add_comm]
      _ ≤ 2 ^ n * 2 ^ (n * ds.length) := Nat.mul_le_mul_left _ h2
      _ = 2 ^ (n * ds.length) * 2 ^ n := Nat.mul_comm _ _

section
variable {w : World} {O : OsState} {n : Nat} {B : Base} {G : Array GenState} {Q : Post Value}
theorem d2i_inner {f ca ci cn D : Addr} {qual : Str} {clos : List (Str × Addr)} {cd : Value} {nn : Nat} {tn : Tok} {xs : List Value} {ds : List Nat} (hT : TopB B) (hF : NestFn B f "inner" qual (nPars (nestAt 10 0)) (nBody (nestAt 10 0)) (nScope (nestAt 10 0)) clos cd)
    (h1 : clos.lookup (Str.ofString "digits") = some ca) (h2 : clos.lookup (Str.ofString "inner") = some ci) (h3 : clos.lookup (Str.ofString "n") = some cn) (hxs : NatsV xs ds) (hdb : ∀ d ∈ ds, d < 2 ^ nn) (hnn : nn ≤ 1000) (hlen : ds.length ≤ 1000) :
    ∀ (m Lo R : Nat) (v : Vol) (Q : Post Value) (tl tr : Tok), Has v ca (rCell (some (.ref D))) → Has v ci (rCell (some (.ref f))) → Has v cn (rCell (some (.int (nn : Int) tn))) → Has v D (rList xs) → m = R - Lo → Lo < R → R ≤ ds.length → nn * (R - Lo) ≤ 1000 →
      (∀ t, Q (.int ((valN nn ((ds.drop Lo).take (R - Lo)) : Nat) : Int) t) B G v) →
      Ok prg w O (n + m) B G v (call (.ref f) [.int (Lo : Int) tl, .int (R : Int) tr]) Q := by
  intro m
  induction m using Nat.strongRecOn with
  | ind m ih =>
  intro Lo R v Q tl tr v1 v2 v3 v4 hm hlt hR hb h
  have hxl := hxs.length
  rw [List.length_map] at hxl
  obtain ⟨m', rfl⟩ : ∃ k, m = k + 1 := ⟨m - 1, by tbr_iter "om"⟩
  refine Ok.call_nest hF (noLim hT) ["L", "R"] ["mid", "shift"] [.int (Lo : Int) tl, .int (R : Int) tr] (ns := ["L", "R", "mid", "shift"])
    (vs := [some (.int (Lo : Int) tl), some (.int (R : Int) tr), none, none]) (fun _ _ _ => rfl) (by decide +kernel) rfl rfl rfl fun L env e1 e2 e3 e4 e5 => ?_
  have hE : EnvIs env L ["L", "R", "mid", "shift"] [] [] [("digits", ca), ("inner", ci), ("n", cn)] := EnvIs.of e1 e2 e3 e4 (by
    show chk (nScope (nestAt 10 0)) ["L", "R", "mid", "shift"] [] [] ["digits", "inner", "n"] = true
    decide +kernel) nofun (by
    intro p hp
    rw [e5]
    simp only [List.mem_cons, List.not_mem_nil, or_false] at hp
    rcases hp with rfl | rfl | rfl
    · exact h1
    · exact h2
    · exact h3)
  conv in (nBody _) => whnf
  tbr_iter "go*"
  have split : ∀ M, Lo ≤ M → M ≤ R → valN nn ((ds.drop Lo).take (R - Lo)) = valN nn ((ds.drop Lo).take (M - Lo)) + 2 ^ (nn * (M - Lo)) * valN nn ((ds.drop M).take (R - M)) := by
    intro M a1 a2
    have : (ds.drop Lo).take (R - Lo) = (ds.drop Lo).take (M - Lo) ++ (ds.drop M).take (R - M) := by
      have e : R - Lo = (M - Lo) + (R - M) := by tbr_iter "om"
      rw [e, List.take_add, List.drop_drop]
      rw [show Lo + (M - Lo) = M by tbr_iter "om"]
    rw [this, valN_app, List.length_take, List.length_drop, Nat.min_eq_left (by tbr_iter "om")]
  refine if_sp (fun hb1 => ?_) (fun hb1 => ?_)
  · tbr_iter "go*"
    obtain ⟨u, hu, tu, rfl⟩ := hxs.get (i := Lo) (b := Int.ofNat (ds[Lo]'(by tbr_iter "om"))) (by simp [show Lo < ds.length by tbr_iter "om"])
    refine Ok.item_list (.inl (by tbr_iter "has")) (by tbr_iter "om") (by tbr_iter "om") (by rw [Int.toNat_natCast]; exact hu) ?_
    tbr_iter "go*"
    refine ⟨_, _, .here, ?_⟩
    have : valN nn ((ds.drop Lo).take (R - Lo)) = ds[Lo]'(by tbr_iter "om") := by
      have e : (ds.drop Lo).take 1 = [ds[Lo]'(by tbr_iter "om")] := by rw [List.drop_eq_getElem_cons (by tbr_iter "om")]; rfl
      rw [show R - Lo = 1 by tbr_iter "om", e]
      simp [valN]
    have h' := h tu
    rw [this] at h'
    exact h'
  · tbr_iter "go*"
    refine Ok.shr_int (by decide) fun _ => ?_
    have eM : ((Lo : Int) + R) / 2 ^ (1 : Int).toNat = (((Lo + R) / 2 : Nat) : Int) := by simp
    rw [eM]
    obtain ⟨M, hM⟩ : ∃ M, M = (Lo + R) / 2 := ⟨_, rfl⟩
    rw [← hM]
    tbr_iter "go*"
    refine Ok.mul_int (IntMulOk.of_left (Nat.le_trans (by rw [show ((M : Int) - Lo) = ((M - Lo : Nat) : Int) by tbr_iter "om"]; exact bits_le (k := 10) (by tbr_iter "om")) (by decide))) fun _ => ?_
    have eS : ((M : Int) - Lo) * nn = ((nn * (M - Lo) : Nat) : Int) := by rw [show ((M : Int) - Lo) = ((M - Lo : Nat) : Int) by tbr_iter "om", Nat.mul_comm]; simp
    rw [eS]
    obtain ⟨S, hS⟩ : ∃ S, S = nn * (M - Lo) := ⟨_, rfl⟩
    rw [← hS]
    have hS2 : S + nn * (R - M) = nn * (R - Lo) := by
      rw [hS, ← Nat.mul_add]
      congr 1; (first | lia | omega)
    tbr_iter "go*"
    refine Ok.call_fn (f := f) ?_
    tbr_iter "go*"
    refine ⟨rfl, ?_⟩
    tbr_iter "go*"
    refine ⟨hF.fnB, ?_⟩
    refine Ok.room (ih (R - M) (by tbr_iter "om") M R _ _ _ _ (.there v1) (.there v2) (.there v3) (.there v4) rfl (by tbr_iter "om") (by tbr_iter "om") ?_ fun t1 => ?_) (by show n + (R - M) ≤ n + m'; (first | lia | omega))
    · exact Nat.le_trans (Nat.mul_le_mul_left _ (by tbr_iter "om")) hb
    obtain ⟨U, hU⟩ : ∃ U, U = valN nn ((ds.drop M).take (R - M)) := ⟨_, rfl⟩
    have hU2 : U < 2 ^ (nn * (R - M)) := by
      have := valN_lt nn ((ds.drop M).take (R - M)) fun d hd => hdb d (List.mem_of_mem_drop (List.mem_of_mem_take hd))
      rw [List.length_take, List.length_drop, Nat.min_eq_left (by tbr_iter "om")] at this
      rw [hU]; exact this
    rw [← hU]
    tbr_iter "go*"
    refine Ok.shl_int (by tbr_iter "om") (by have := bits_le hU2; (first | lia | omega)) fun _ => ?_
    rw [Int.toNat_natCast]
    tbr_iter "go*"
    refine Ok.call_fn (f := f) ?_
    tbr_iter "go*"
    refine ⟨rfl, ?_⟩
    tbr_iter "go*"
    refine ⟨hF.fnB, ?_⟩
    refine Ok.room (ih (M - Lo) (by tbr_iter "om") Lo M _ _ _ _ (.there v1) (.there v2) (.there v3) (.there v4) rfl (by tbr_iter "om") (by tbr_iter "om") ?_ fun t2 => ?_) (by show n + (M - Lo) ≤ n + m'; (first | lia | omega))
    · exact Nat.le_trans (Nat.mul_le_mul_left _ (by tbr_iter "om")) hb
    tbr_iter "go*"
    refine ⟨_, _, .here, ?_⟩
    have h' := h ‹Tok›
    rw [split M (by tbr_iter "om") (by tbr_iter "om"), ← hS, ← hU] at h'
    have e : (U : Int) * 2 ^ S + ((valN nn ((ds.drop Lo).take (M - Lo)) : Nat) : Int) = ((valN nn ((ds.drop Lo).take (M - Lo)) + 2 ^ S * U : Nat) : Int) := by
      rw [Nat.mul_comm]; simp [Int.add_comm]
    rw [e]
    first | exact h' | (have h'' := h; rw [split M (by tbr_iter "om") (by tbr_iter "om"), ← hS, ← hU] at h''; exact h'' _)

theorem digits2int {nn : Nat} {tn : Tok} {ps : Array Value} {D : Addr} {xs : List Value} {ds : List Nat} {v : Vol} (hT : TopD B) (ht : Tab10 B ps) (hxs : NatsV xs ds) (hdb : ∀ d ∈ ds, d < 2 ^ nn) (hnn : nn ≤ 20) (hlen : ds.length ≤ 40) (hD : Has v D (rList xs))
    (h : ∀ B' ps' t, BLe B B' → Tab10 B' ps' → Q (.int ((valN nn ds : Nat) : Int) t) B' G ((73, rTb ps') :: v)) :
    Ok prg w O (n + 42) B G ((73, rTb ps) :: v) (call (.ref 78) [.ref D, .int (nn : Int) tn]) Q := by
  obtain ⟨r, hF, hcd⟩ := hT.top.f10
  have hxl := hxs.length
  rw [List.length_map] at hxl
  refine Ok.call_defC (n := n + 41) hF ["digits", "n"] [.ref D, .int (nn : Int) tn] [] ["inner", "n", "digits"] (vs := []) (init := [none, some (.int (nn : Int) tn), some (.ref D)]) rfl (by decide +kernel) rfl rfl rfl fun L env cs hcs hA => ?_
  obtain ⟨c1, cs1, rfl, hcs1⟩ := of_cons hcs
  obtain ⟨c3, cs2, rfl, hcs2⟩ := of_cons hcs1
  obtain ⟨c2, cs3, rfl, hcs3⟩ := of_cons hcs2
  obtain rfl := of_nil hcs3
  change Ok prg w O (n + 41) B G ((L, rFr [] []) :: (c1, rCell none) :: (c3, rCell (some (.int (nn : Int) tn))) :: (c2, rCell (some (.ref D))) :: (73, rTb ps) :: v) _ _
  have hE := hA.is [] ["len"] (by show chk (scopeAt 10) [] ["len"] ["inner", "n", "digits"] [] = true; decide +kernel) (by show (["inner", "n", "digits"] : List Str).Nodup; decide +kernel)
  have hcomp := EnvIs.comp hE (scope := nScope (nestAt 10 0)) [] [] [("digits", c2), ("inner", c1), ("n", c3)] [] (by show chkC (nScope (nestAt 10 0)) [] [] ["digits", "inner", "n"] = true; decide +kernel) (by
    intro p hp
    simp only [List.mem_cons, List.not_mem_nil, or_false] at hp ⊢
    rcases hp with rfl | rfl | rfl
    · exact .inr (.inr rfl)
    · exact .inl rfl
    · exact .inr (.inl rfl)) nofun 0
  have hq : qualnameIn env "inner" "inner" = qn10 := by
    unfold qualnameIn
    rw [(hE.isCell ("inner", c1) (by simp)).1, if_neg (by decide), hA.qual]; rfl
  conv in (bodyAt 10) => whnf
  tbr_iter "go*"
  refine Ok.nest_def (params := nPars (nestAt 10 0)) (body := nBody (nestAt 10 0)) (scope := nScope (nestAt 10 0)) hE hT.c73 hcomp.2 (by rw [hA.code, hcd]) (by rw [hq]; exact ht) (by tbr_iter "del") rfl rfl rfl fun f B2 ps2 cd hle ht2 hF2 => ?_
  rw [hq] at ht2 hF2
  have hT2 := hT.mono hle
  have hTt := hT2.top
  tbr_iter "go*"
  refine Ok.truthy_list (.inl (by tbr_iter "has")) (by tbr_iter "om") ?_
  refine if_sp (fun hz => ?_) (fun hz => ?_)
  · tbr_iter "go*"
    refine Ok.call_fn (f := f) ?_
    tbr_iter "go*"
    refine ⟨rfl, ?_⟩
    tbr_iter "go*"
    refine Ok.call_val (f := .builtin "len") rfl ?_
    tbr_iter "go*"
    refine ⟨rfl, ?_⟩
    tbr_iter "go*"
    refine Ok.len_list (.inl (by tbr_iter "has")) (by tbr_iter "om") fun tk => ?_
    rw [hxl]
    tbr_iter "go*"
    refine ⟨hF2.fnB, ?_⟩
    have hl0 : 0 < ds.length := by
      rw [← hxl]
      exact List.length_pos_iff.mpr hz
    refine Ok.room (d2i_inner (n := n) hTt hF2 (hcomp.1.isCell ("digits", c2) (by simp)).2.1 (hcomp.1.isCell ("inner", c1) (by simp)).2.1 (hcomp.1.isCell ("n", c3) (by simp)).2.1 hxs hdb (by tbr_iter "om") (by tbr_iter "om") ds.length 0 ds.length _ _ _ _ (by tbr_iter "has") (by tbr_iter "has") (by tbr_iter "has") (by tbr_iter "has") (by tbr_iter "om") hl0 (by tbr_iter "om")
      ?_ fun t => ?_) (by tbr_iter "om")
    · rw [Nat.sub_zero]
      calc nn * ds.length ≤ 20 * 40 := Nat.mul_le_mul hnn hlen
        _ ≤ 1000 := by decide
    tbr_iter "go*"
    refine ⟨(73, rTb ps2) :: v, ?_, ?_⟩
    rotate_left
    · have := h B2 ps2 t hle ht2
      rw [Nat.sub_zero, List.drop_zero, List.take_of_length_le (Nat.le_refl _)]
      exact this
    · tbr_iter "sub"
  · tbr_iter "go*"
    refine ⟨(73, rTb ps2) :: v, ?_, ?_⟩
    rotate_left
    · have hx0 : xs = [] := by simpa using hz
      have : ds = [] := by
        subst hx0
        exact List.length_eq_zero_iff.mp (by simpa using hxl.symm)
      subst this
      exact h B2 ps2 _ hle ht2
    · tbr_iter "sub"
end
-- part DivM
section
variable {w : World} {O : OsState} {n : Nat} {B : Base} {G : Array GenState} {v : Vol} {Q : Post Value}
theorem Ok.call_defS {f : Addr} {i : Nat} {df kwd : Value} {r : FnRest} {pos : List Value} {kw : List (Str × Value)} (hF : Fn B f i df kwd r) (ps rest : List Str) (vals : List Value) {ns : List Str} {vs : List (Option Value)}
    (hbind : ∀ s, St O B G v s → BindsTo s (fdOf i df kwd r) ⟨pos, kw⟩ (ps.zip vals)) (hok : okDef i ns ps = true) (hns : ns = ps ++ rest) (hlen : ps.length = vals.length) (hvs : vs = vals.map some ++ rest.map fun _ => none)
    (h : ∀ L env, EnvAt i env L r.cd [] → Ok prg w O n B G ((L, rFr ns vs) :: v) (execs (bodyAt i) env) fun fl B' G' v' => ∃ v'' : Vol, v''.Sublist v' ∧ Q (retOf fl) B' G' v'') :
    Ok prg w O (n + 1) B G v (call (.ref f) pos kw) Q := fun A s R S => by
  subst hns
  simp only [okDef, Bool.and_eq_true, List.all_eq_true, beq_iff_eq, Bool.not_eq_true', decide_eq_true_eq, bne_iff_ne] at hok
  obtain ⟨⟨⟨⟨⟨⟨k1, k2⟩, k3⟩, k4⟩, k5⟩, k6⟩, k7⟩ := hok
  obtain ⟨o, ho, hd⟩ := hF.obj
  have hfst : (ps.zip vals).map (·.1) = ps := by
    rw [← List.unzip_fst, List.unzip_zip_left (by tbr_iter "om")]
  have mem : ∀ x ∈ ps.zip vals, x.1 ∈ ps := fun x hx => (List.of_mem_zip hx).1
  refine wpAny_call (codeAny_call_def (fd := fdOf i df kwd r) (body := bodyAt i) R.room (S.keep _ _ ho) hd (hF.lim _ S.keep) (hF.code _ S.keep) rfl (hbind s S)
    (fun x hx => by simpa using k4 x hx) (fun x hx => (k5 x.1 (mem x hx)).1) (fun h₀ hn hk => ?_) k1 k2 k3)
  obtain ⟨f1, f2⟩ := S.fresh
  have S1 : St O B G ((s.heap.objs.size, rFr (ps ++ rest) vs) :: v) { s with heap := h₀, toks := s.toks + (ps.zip vals).length } := by
    have S0 := S.extAll hk (s.toks + (ps.zip vals).length)
    refine ⟨S0.keep, fun p hp => ?_, fun p hp => ?_, ?_, S0.gens, S0.os⟩
    · rcases List.mem_cons.mp hp with rfl | hp
      · rw [fromBinds_get (ps.zip vals) (by rw [hfst]; exact k7) (ps ++ rest) (fun x hx => by rw [hfst] at hx; exact List.mem_append_left _ hx), fromBinds_zip ps rest vals k6 hlen, ← hvs] at hn
        obtain ⟨o, e, q⟩ := of_ns hn
        exact ⟨o, e, ⟨k6, by rw [hvs]; simp [hlen]⟩, q⟩
      · exact S0.res p hp
    · rcases List.mem_cons.mp hp with rfl | hp
      · exact f1
      · exact S0.off p hp
    · rw [List.map_cons, List.nodup_cons]
      refine ⟨fun hm => ?_, S0.nd⟩
      obtain ⟨p, hp, e⟩ := List.mem_map.mp hm
      exact f2 p hp e
  refine wpAny_mono (h s.heap.objs.size _ ⟨rfl, rfl, rfl, rfl, rfl, rfl, rfl⟩ _ _ R.deeper S1) (fun fl s' ⟨B', G', v', S', v'', hdel, hq⟩ => ?_) fun _ _ x => x.elim
  have S'' := S'.sub hdel
  cases fl <;> exact ⟨_, _, _, S'', hq⟩

def rRvN (l : Addr) (i : Nat) : Res := rRev l ((i : Int) - 1)
theorem Ok.next_revN {I l : Addr} {i : Nat} {xs : List Value} {x : Value} {v' : Vol} {Q : Post (Option Value)} (hu : Upd v I (rRvN l (i + 1)) (rRvN l i) v') (hl : Has v l (rListW xs)) (hx : xs[i]? = some x) (h : Q (some x) B G v') : Ok prg w O n B G v (pyNext (.ref I)) Q := by
  refine Ok.next_rev (i := i) ?_ hl hx h
  have e : rRvN l (i + 1) = rRev l (i : Int) := by unfold rRvN; rw [show ((i + 1 : Nat) : Int) - 1 = (i : Int) by tbr_iter "om"]
  rw [← e]; exact hu
theorem Ok.next_revN_end {I l : Addr} {v' : Vol} {Q : Post (Option Value)} (hu : Del v I (rRvN l 0) v') (h : Q none B G v') : Ok prg w O n B G v (pyNext (.ref I)) Q := Ok.next_rev_end (l := l) hu h
theorem long_div {b r d A N : Nat} (hb : 0 < b) (hr : r = A % b) : (d + N * A) / b = (r * N + d) / b + N * (A / b) ∧ (d + N * A) % b = (r * N + d) % b := by
  have h1 := Nat.div_add_mod A b
  have e : d + N * A = (r * N + d) + b * (N * (A / b)) := by
    calc d + N * A = d + N * (b * (A / b) + A % b) := by rw [h1]
      _ = (r * N + d) + b * (N * (A / b)) := by rw [hr, Nat.mul_add, Nat.mul_left_comm, Nat.mul_comm (A % b) N]; (first | lia | omega)
  rw [e, Nat.add_mul_div_left _ _ hb, Nat.add_mul_mod_self_left]
  exact ⟨rfl, rfl⟩

theorem div2n1n {a b nn : Nat} {ta tb tn : Tok} (hT : TopB B) (hb : 0 < b) (hb2 : b < 2 ^ 20) (ha : a < 2 ^ 60)
    (h : ∀ x B' t u, BLe B B' → tupB B' x [.int ((a / b : Nat) : Int) t, .int ((a % b : Nat) : Int) u] → Q (.ref x) B' G v) : Ok prg w O (n + 1) B G v (call (.ref 57) [.int (a : Int) ta, .int (b : Int) tb, .int (nn : Int) tn]) Q := by
  obtain ⟨r, hF⟩ := hT.f7
  refine Ok.call_defS hF ["a", "b", "n"] ["pad", "half_n", "mask", "b1", "b2", "q1", "r", "q2"] [.int (a : Int) ta, .int (b : Int) tb, .int (nn : Int) tn] (ns := ["a", "b", "n", "pad", "half_n", "mask", "b1", "b2", "q1", "r", "q2"])
    (vs := [some (.int (a : Int) ta), some (.int (b : Int) tb), some (.int (nn : Int) tn), none, none, none, none, none, none, none, none]) (fun s S => .of_eq rfl) (by decide +kernel) rfl rfl rfl fun L env hA => ?_
  have hE := hA.is ["a", "b", "n", "pad", "half_n", "mask", "b1", "b2", "q1", "r", "q2"] ["_DIV_LIMIT", "divmod"] (by decide +kernel) (by decide +kernel)
  conv in (bodyAt 7) => whnf
  tbr_iter "go*"
  refine Ok.method PySem.F.plainAttrs_int PySem.F.slot_int_bit_length PySem.F.type_int_bit_length rfl rfl rfl rfl ?_
  tbr_iter "go*"
  refine ⟨fun s _ => ⟨typeIs_int s _ _, nofun⟩, ?_⟩
  tbr_iter "go*"
  refine Ok.bit_length fun tb => ?_
  have hbl := bits_le ha
  tbr_iter "go*"
  obtain ⟨t4, hlim⟩ := hT.divLim
  refine Ok.name_glob hE .here hlim ?_
  tbr_iter "go*"
  refine Ok.call_val (f := .builtin "divmod") rfl ?_
  tbr_iter "go*"
  refine ⟨rfl, ?_⟩
  tbr_iter "go*"
  refine Ok.divmod (by tbr_iter "om") (by tbr_iter "om") fun x B' t' u' hle hx => ?_
  have e1 : (a : Int).fdiv (b : Int) = ((a / b : Nat) : Int) := by rw [Int.fdiv_eq_ediv_of_nonneg _ (by tbr_iter "om")]; simp
  have e2 : (a : Int).fmod (b : Int) = ((a % b : Nat) : Int) := by rw [Int.fmod_eq_emod_of_nonneg _ (by tbr_iter "om")]; simp
  rw [e1, e2] at hx
  tbr_iter "go*"
  exact ⟨v, .cons _ (.refl _), h x B' t' u' hle hx⟩

theorem divmod_pos {a b : Nat} {ta tb : Tok} {p q : Array Value} (hT : TopD B) (h9 : Tab9 B p) (h10 : Tab10 B q) (ha : a < 2 ^ 20) (hb0 : 0 < b) (hb : b < 2 ^ 20)
    (h : ∀ x B' p' q' t u, BLe B B' → Tab9 B' p' → Tab10 B' q' → tupB B' x [.int ((a / b : Nat) : Int) t, .int ((a % b : Nat) : Int) u] → Q (.ref x) B' G ((66, rTb p') :: (73, rTb q') :: v)) :
    Ok prg w O (n + 43) B G ((66, rTb p) :: (73, rTb q) :: v) (call (.ref 85) [.int (a : Int) ta, .int (b : Int) tb]) Q := by
  obtain ⟨r, hF⟩ := hT.top.f11
  refine Ok.call_defS (n := n + 42) hF ["a", "b"] ["n", "a_digits", "r", "q_digits", "a_digit", "q_digit", "q"] [.int (a : Int) ta, .int (b : Int) tb] (ns := ["a", "b", "n", "a_digits", "r", "q_digits", "a_digit", "q_digit", "q"])
    (vs := [some (.int (a : Int) ta), some (.int (b : Int) tb), none, none, none, none, none, none, none]) (fun s S => .of_eq rfl) (by decide +kernel) rfl rfl rfl fun L env hA => ?_
  have hE := hA.is ["a", "b", "n", "a_digits", "r", "q_digits", "a_digit", "q_digit", "q"] ["_int2digits", "reversed", "_div2n1n", "_digits2int"] (by decide +kernel) (by decide +kernel)
  have hTt := hT.top
  conv in (bodyAt 11) => whnf
  tbr_iter "go*"
  refine Ok.method PySem.F.plainAttrs_int PySem.F.slot_int_bit_length PySem.F.type_int_bit_length rfl rfl rfl rfl ?_
  tbr_iter "go*"
  refine ⟨fun s _ => ⟨typeIs_int s _ _, nofun⟩, ?_⟩
  tbr_iter "go*"
  refine Ok.bit_length fun tbl => ?_
  obtain ⟨nn, hnn⟩ : ∃ nn, nn = Builtin.Int.intBits (b : Int) := ⟨_, rfl⟩
  have hn2 : nn ≤ 20 := hnn ▸ bits_le hb
  have hn3 : b < 2 ^ nn := hnn ▸ lt_bits b
  have hn1 : 1 ≤ nn := by
    rcases Nat.eq_zero_or_pos nn with h0 | h0
    · rw [h0] at hn3; (first | lia | omega)
    · exact h0
  rw [← hnn]
  tbr_iter "go*"
  refine Ok.call_fn (f := 71) ?_
  tbr_iter "go*"
  refine ⟨rfl, ?_⟩
  tbr_iter "go*"
  refine ⟨let ⟨r, e, _⟩ := hTt.f9; e.fnB, ?_⟩
  refine Ok.pull (a := 66) (by tbr_iter "del") ?_
  refine int2digits hT h9 ha hn1 hn2 fun D B1 p1 xs ds hle1 h91 hxs hval hdb hlen => ?_
  have hT1 := hT.mono hle1
  have hT1t := hT1.top
  tbr_iter "go*"
  refine Ok.listd ?_
  tbr_iter "go*"
  refine ⟨Nat.le_of_ble_eq_true rfl, fun qa => ?_⟩
  tbr_iter "go*"
  refine Ok.call_val (f := .type "reversed") rfl ?_
  tbr_iter "go*"
  refine ⟨rfl, ?_⟩
  tbr_iter "go*"
  refine Ok.reversed (xs := xs) (by tbr_iter "has") fun I => ?_
  refine Ok.iter_rev .here ?_
  have hxl := hxs.length
  rw [List.length_map] at hxl
  rw [hxl]
  have e0 : valN nn (ds.drop ds.length) % b = 0 := by rw [List.drop_length]; simp [valN]
  refine OkC.ind (fun m B' G' v' => G' = G ∧ BLe B1 B' ∧ ∃ (i : Nat) (qs : List Value) (ql : List Nat) (tr : Tok) (ado qdo : Option Value), i ≤ ds.length ∧ m = i ∧ NatsV qs ql ∧ ql.length = ds.length - i ∧ valN nn ql.reverse = valN nn (ds.drop i) / b ∧ (∀ d ∈ ql, d < 2 ^ nn) ∧
    v' = (I, rRvN D i) :: (qa, rList qs) :: (D, rListW xs) :: (66, rTb p1) :: (L, rFr ["a", "b", "n", "a_digits", "r", "q_digits", "a_digit", "q_digit", "q"]
      [some (.int (a : Int) ta), some (.int (b : Int) tb), some (.int (nn : Int) tbl), some (.ref D), some (.int ((valN nn (ds.drop i) % b : Nat) : Int) tr), some (.ref qa), ado, qdo, none]) :: (73, rTb q) :: v) ?_ ds.length
    ⟨rfl, BLe.refl _, ds.length, [], [], _, _, _, Nat.le_refl _, rfl, .nil, by simp, by simp [valN], by simp, by rw [e0]; rfl⟩
  rintro m B' G' v' ⟨rfl, hle2, i, qs, ql, tr, ado, qdo, hi, rfl, hqs, hql, hqv, hqb, rfl⟩ ih
  have hT2 := hT1t.mono hle2
  refine OkC.for_turn ?_
  rcases m with _ | j
  · refine Ok.next_revN_end .here ?_
    rw [List.drop_zero, hval] at hqv
    rw [List.drop_zero, hval]
    refine Ok.drop (a := D) (by tbr_iter "del") ?_
    tbr_iter "go*"
    refine Ok.method PySem.F.plainAttrs_list PySem.F.slot_list_reverse PySem.F.type_list_reverse rfl rfl rfl rfl ?_
    tbr_iter "go*"
    refine ⟨LstAt.meth (.inl (by tbr_iter "has")), ?_⟩
    tbr_iter "go*"
    have hqx := hqs.length
    rw [List.length_map] at hqx
    refine Ok.list_reverse (by tbr_iter "upd") (by have : sizeLine = 2 ^ 24 := rfl; (first | lia | omega)) ?_
    refine ⟨nofun, ?_⟩
    tbr_iter "go*"
    refine Ok.call_fn (f := 78) ?_
    tbr_iter "go*"
    refine ⟨rfl, ?_⟩
    tbr_iter "go*"
    refine ⟨let ⟨r, e, _⟩ := hT2.f10; e.fnB, ?_⟩
    refine Ok.pull (a := 73) (by tbr_iter "del") ?_
    refine digits2int (xs := qs.reverse) (ds := ql.reverse) (hT1.mono hle2) (h10.mono (hle1.trans hle2)) ?_ (fun d hd => hqb d (List.mem_reverse.mp hd)) hn2 (by rw [List.length_reverse]; (first | lia | omega)) (by tbr_iter "has") fun B3 q3 t3 hle3 h103 => ?_
    · rw [NatsV, List.map_reverse]; exact hqs.rev
    rw [hqv]
    refine Ok.pull (a := 66) (by tbr_iter "del") ?_
    tbr_iter "go*"
    refine Ok.tuple ?_
    tbr_iter "go*"
    refine ⟨Nat.le_of_ble_eq_true rfl, fun x B4 hle4 hx => ?_⟩
    tbr_iter "go*"
    refine' ⟨_, ?_, h x B4 p1 q3 _ _ (hle1.trans (hle2.trans (hle3.trans hle4))) (h91.mono (hle2.trans (hle3.trans hle4))) (h103.mono hle4) ⟨0, hx⟩⟩
    tbr_iter "sub"
  · have hj : j < ds.length := by tbr_iter "om"
    obtain ⟨dv, hdv, td, rfl⟩ := hxs.get (i := j) (b := Int.ofNat (ds[j]'hj)) (by simp [hj])
    refine Ok.next_revN (i := j) .here (by tbr_iter "has") hdv ?_
    tbr_iter "go*"
    refine Ok.assign_tup ?_ rfl rfl
    tbr_iter "go*"
    refine Ok.call_fn (f := 57) ?_
    tbr_iter "go*"
    refine ⟨rfl, ?_⟩
    tbr_iter "go*"
    have hrb : valN nn (ds.drop (j + 1)) % b < b := Nat.mod_lt _ hb0
    refine Ok.shl_int (by tbr_iter "om") (by have := bits_le (Nat.lt_trans hrb hb); (first | lia | omega)) fun _ => ?_
    rw [Int.toNat_natCast]
    tbr_iter "go*"
    refine ⟨let ⟨r, e⟩ := hT2.f7; e.fnB, ?_⟩
    obtain ⟨rr, hrr⟩ : ∃ rr, rr = valN nn (ds.drop (j + 1)) % b := ⟨_, rfl⟩
    have hdd := hdb (ds[j]'hj) (List.getElem_mem hj)
    have eN : ((valN nn (ds.drop (j + 1)) % b : Nat) : Int) * 2 ^ nn + Int.ofNat (ds[j]'hj) = ((rr * 2 ^ nn + ds[j]'hj : Nat) : Int) := by rw [hrr]; simp
    rw [eN]
    have hdrop : valN nn (ds.drop j) = ds[j]'hj + 2 ^ nn * valN nn (ds.drop (j + 1)) := by rw [List.drop_eq_getElem_cons hj]; rfl
    obtain ⟨l1, l2⟩ := long_div (d := ds[j]'hj) (N := 2 ^ nn) hb0 hrr
    have hN : (2 : Nat) ^ nn ≤ 2 ^ 20 := Nat.pow_le_pow_right (by decide) hn2
    rw [← hrr] at hrb
    have hbig : rr * 2 ^ nn + ds[j]'hj < b * 2 ^ nn := by
      calc rr * 2 ^ nn + ds[j]'hj < rr * 2 ^ nn + 2 ^ nn := by tbr_iter "om"
        _ = (rr + 1) * 2 ^ nn := by rw [Nat.add_mul, Nat.one_mul]
        _ ≤ b * 2 ^ nn := Nat.mul_le_mul_right _ hrb
    refine Ok.room (div2n1n (n := n) hT2 hb0 hb (Nat.lt_of_lt_of_le hbig (by
      calc b * 2 ^ nn ≤ 2 ^ 20 * 2 ^ 20 := Nat.mul_le_mul (Nat.le_of_lt hb) hN
        _ ≤ 2 ^ 60 := by decide)) fun x B3 t3 u3 hle3 hx => ?_) (by tbr_iter "om")
    refine Ok.unpack2 hx ?_
    tbr_iter "go*"
    refine Ok.method PySem.F.plainAttrs_list PySem.F.slot_list_append PySem.F.type_list_append rfl rfl rfl rfl ?_
    tbr_iter "go*"
    refine ⟨LstAt.meth (.inl (by tbr_iter "has")), ?_⟩
    tbr_iter "go*"
    have hqx := hqs.length
    rw [List.length_map] at hqx
    refine Ok.list_append (by tbr_iter "upd") (by have : sizeLine = 2 ^ 24 := rfl; (first | lia | omega)) ?_
    refine ⟨nofun, ?_⟩
    tbr_iter "go*"
    refine' ih j _ _ _ (by tbr_iter "om") ⟨rfl, hle2.trans hle3, j, _, ql ++ [(rr * 2 ^ nn + ds[j]'hj) / b], _, _, _, by tbr_iter "om", rfl, ?_, ?_, ?_, ?_, by rw [hdrop, l2]⟩
    · rw [NatsV, List.map_append]; exact hqs.snoc ⟨t3, rfl⟩
    · rw [List.length_append, hql]; simp only [List.length_cons, List.length_nil]; (first | lia | omega)
    · rw [hdrop, l1, List.reverse_append, ← hqv]; rfl
    · intro d hd
      rcases List.mem_append.mp hd with hd | hd
      · exact hqb d hd
      · simp only [List.mem_cons, List.not_mem_nil, or_false] at hd
        subst hd
        exact (Nat.div_lt_iff_lt_mul hb0).mpr (by rw [Nat.mul_comm (2 ^ nn) b]; exact hbig)
end
-- part IDiv
section
variable {w : World} {O : OsState} {n : Nat} {B : Base} {G : Array GenState} {v : Vol} {Q : Post Value}
/-- what int_divmod gives -/
abbrev DivPost (B : Base) (G : Array GenState) (v : Vol) (Q : Post Value) (x y : Int) : Prop :=
  ∀ t B' p' q' a b, BLe B B' → Tab9 B' p' → Tab10 B' q' → tupB B' t [.int x a, .int y b] → Q (.ref t) B' G ((66, rTb p') :: (73, rTb q') :: v)

theorem idiv_pos {a b : Int} {ta tb : Tok} {p q : Array Value} (hT : TopD B) (h9 : Tab9 B p) (h10 : Tab10 B q) (ha0 : 0 ≤ a) (ha : a < 2 ^ 20) (hb0 : 0 < b) (hb : b < 2 ^ 20) (h : DivPost B G v Q (a / b) (a % b)) :
    Ok prg w O (n + 44) B G ((66, rTb p) :: (73, rTb q) :: v) (call (.ref 92) [.int a ta, .int b tb]) Q := by
  obtain ⟨r, hF⟩ := hT.top.f12
  refine Ok.call_defS (n := n + 43) hF ["a", "b"] ["q", "r"] [.int a ta, .int b tb] (ns := ["a", "b", "q", "r"]) (vs := [some (.int a ta), some (.int b tb), none, none]) (fun s S => .of_eq rfl) (by decide +kernel) rfl rfl rfl fun L env hA => ?_
  have hE := hA.is ["a", "b", "q", "r"] ["_divmod_pos", "int_divmod"] (by decide +kernel) (by decide +kernel)
  have hTt := hT.top
  conv in (bodyAt 12) => whnf
  tbr_iter "go*"
  refine Ok.call_fn (f := 85) ?_
  tbr_iter "go*"
  refine ⟨rfl, ?_⟩
  tbr_iter "go*"
  refine ⟨let ⟨r, e⟩ := hTt.f11; e.fnB, ?_⟩
  refine Ok.pull (a := 73) (by tbr_iter "del") ?_
  refine Ok.pull (a := 66) (by tbr_iter "del") ?_
  obtain ⟨a, rfl⟩ := Int.eq_ofNat_of_zero_le ha0
  obtain ⟨b, rfl⟩ := Int.eq_ofNat_of_zero_le (Int.le_of_lt hb0)
  refine divmod_pos hT h9 h10 (by tbr_iter "om") (by tbr_iter "om") (by tbr_iter "om") fun x B' p' q' t u hle g9 g10 hx => ?_
  tbr_iter "go*"
  refine ⟨(66, rTb p') :: (73, rTb q') :: v, by tbr_iter "sub", h x B' p' q' t u hle g9 g10 ?_⟩
  simpa using hx

theorem idiv_any {a b : Int} {ta tb : Tok} {p q : Array Value} (hT : TopD B) (h9 : Tab9 B p) (h10 : Tab10 B q) (ha0 : -2 ^ 20 ≤ a) (ha : a < 2 ^ 20) (hb0 : 0 < b) (hb : b < 2 ^ 20) (h : DivPost B G v Q (a / b) (a % b)) :
    Ok prg w O (n + 45) B G ((66, rTb p) :: (73, rTb q) :: v) (call (.ref 92) [.int a ta, .int b tb]) Q := by
  by_cases hneg : 0 ≤ a
  · exact Ok.room (idiv_pos (n := n) hT h9 h10 hneg ha hb0 hb h) (by tbr_iter "om")
  obtain ⟨r, hF⟩ := hT.top.f12
  refine Ok.call_defS (n := n + 44) hF ["a", "b"] ["q", "r"] [.int a ta, .int b tb] (ns := ["a", "b", "q", "r"]) (vs := [some (.int a ta), some (.int b tb), none, none]) (fun s S => .of_eq rfl) (by decide +kernel) rfl rfl rfl fun L env hA => ?_
  have hE := hA.is ["a", "b", "q", "r"] ["_divmod_pos", "int_divmod"] (by decide +kernel) (by decide +kernel)
  have hTt := hT.top
  conv in (bodyAt 12) => whnf
  tbr_iter "go*"
  refine Ok.assign_tup ?_ rfl rfl
  tbr_iter "go*"
  refine Ok.call_fn (f := 92) ?_
  tbr_iter "go*"
  refine ⟨rfl, ?_⟩
  tbr_iter "go*"
  refine ⟨let ⟨r, e⟩ := hTt.f12; e.fnB, ?_⟩
  refine Ok.pull (a := 73) (by tbr_iter "del") ?_
  refine Ok.pull (a := 66) (by tbr_iter "del") ?_
  have hnot : Builtin.bitNot a = -a - 1 := rfl
  rw [hnot]
  refine idiv_pos hT h9 h10 (by tbr_iter "om") (by tbr_iter "om") hb0 hb fun x B1 p1 q1 t u hle g9 g10 hx => ?_
  refine Ok.unpack2 hx ?_
  tbr_iter "go*"
  refine Ok.tuple ?_
  tbr_iter "go*"
  refine ⟨Nat.le_of_ble_eq_true rfl, fun y B2 hle2 hy => ?_⟩
  tbr_iter "go*"
  have hu : a / b = Builtin.bitNot ((-a - 1) / b) ∧ a % b = b + Builtin.bitNot ((-a - 1) % b) := by
    rw [Int.ediv_emod_unique hb0]
    have h1 := Int.emod_add_mul_ediv (-a - 1) b
    have h2 := Int.emod_nonneg (-a - 1) (show b ≠ 0 by tbr_iter "om")
    have h3 := Int.emod_lt_of_pos (-a - 1) hb0
    unfold Builtin.bitNot
    refine ⟨?_, by tbr_iter "om", by tbr_iter "om"⟩
    rw [Int.mul_sub, Int.mul_neg]
    (first | lia | omega)
  rw [← hu.1, ← hu.2] at hy
  exact ⟨(66, rTb p1) :: (73, rTb q1) :: v, by tbr_iter "sub", h y B2 p1 q1 _ _ (hle.trans hle2) (g9.mono hle2) (g10.mono hle2) ⟨0, hy⟩⟩

theorem idiv_neg {a b : Int} {ta tb : Tok} {p q : Array Value} (hT : TopD B) (h9 : Tab9 B p) (h10 : Tab10 B q) (ha0 : -2 ^ 19 ≤ a) (ha : a < 2 ^ 19) (hb0 : 0 < b) (hb : b < 2 ^ 20) (h : DivPost B G v Q (a / b) (-(a % b))) :
    Ok prg w O (n + 46) B G ((66, rTb p) :: (73, rTb q) :: v) (call (.ref 92) [.int (-a) ta, .int (-b) tb]) Q := by
  obtain ⟨r, hF⟩ := hT.top.f12
  refine Ok.call_defS (n := n + 45) hF ["a", "b"] ["q", "r"] [.int (-a) ta, .int (-b) tb] (ns := ["a", "b", "q", "r"]) (vs := [some (.int (-a) ta), some (.int (-b) tb), none, none]) (fun s S => .of_eq rfl) (by decide +kernel) rfl rfl rfl fun L env hA => ?_
  have hE := hA.is ["a", "b", "q", "r"] ["_divmod_pos", "int_divmod"] (by decide +kernel) (by decide +kernel)
  have hTt := hT.top
  conv in (bodyAt 12) => whnf
  tbr_iter "go*"
  refine Ok.assign_tup ?_ rfl rfl
  tbr_iter "go*"
  refine Ok.call_fn (f := 92) ?_
  tbr_iter "go*"
  refine ⟨rfl, ?_⟩
  tbr_iter "go*"
  refine ⟨let ⟨r, e⟩ := hTt.f12; e.fnB, ?_⟩
  refine Ok.pull (a := 73) (by tbr_iter "del") ?_
  refine Ok.pull (a := 66) (by tbr_iter "del") ?_
  rw [Int.neg_neg, Int.neg_neg]
  refine idiv_any hT h9 h10 (by tbr_iter "om") (by tbr_iter "om") hb0 hb fun x B1 p1 q1 t u hle g9 g10 hx => ?_
  refine Ok.unpack2 hx ?_
  tbr_iter "go*"
  refine Ok.tuple ?_
  tbr_iter "go*"
  refine ⟨Nat.le_of_ble_eq_true rfl, fun y B2 hle2 hy => ?_⟩
  tbr_iter "go*"
  exact ⟨(66, rTb p1) :: (73, rTb q1) :: v, by tbr_iter "sub", h y B2 p1 q1 _ _ (hle.trans hle2) (g9.mono hle2) (g10.mono hle2) ⟨0, hy⟩⟩
end
-- part Gen1
/-! ### a generator that hands out pairs of a number and a text -/
def Kept (own : List Addr) (s₀ s₁ : Shared) : Prop := (∀ b o, b ∉ own → s₀.heap.get? b = some o → s₁.heap.get? b = some o) ∧ s₁.gens = s₀.gens ∧ s₁.os = s₀.os
def GR (own : List Addr) : GenEnd := fun n s₀ r s₁ => r = .ok (.ret .none) ∧ (n = 0 ∧ Kept own s₀ s₁)
def GY (own : List Addr) (its : List (Nat × Str)) : Protocol := fun n s₀ u s₁ kap =>
  (∃ a p c m t1 t2, its[its.length - 1 - n]? = some (p, c) ∧ u = .ref a ∧ a ∉ own ∧ s₀.heap.get? a = none ∧ s₁.heap.get? a = some { cls := .type "tuple", data := .seq #[.int (p : Nat) t1, .str c t2] m }) ∧
  Kept own s₀ s₁ ∧ (∀ a ∈ own, ∃ o, s₁.heap.get? a = some o) ∧ ∀ s'', (∀ a ∈ own, ∀ o, s₁.heap.get? a = some o → s''.heap.get? a = some o) → kap (.send .none) s''
def Bare (G : Array GenState) : Prop := ∀ x ∈ G, x.bare = true
abbrev rEq (o : Obj) : Res := fun o' => o' = o
def genB (B : Base) (a : Addr) (g : Nat) : Prop := ∃ o nm qn, B a = some o ∧ o.cls = .type "generator" ∧ o.data = .fields #[.int g 0, nm, qn] ∧ o.slots = #[]
theorem genB.mono {B B' : Base} {a : Addr} {g : Nat} (h : genB B a g) (k : BLe B B') : genB B' a g := let ⟨o, x, y, e, r⟩ := h; ⟨o, x, y, k _ _ e, r⟩

def GWill (prog : Program) (w : World) (A : Around) (its : List (Nat × Str)) (k g : Nat) (G : Array GenState) (B : Base) (vg : Vol) : Prop :=
  ∃ gs, G[g]? = some gs ∧ ∀ s : Shared, (∀ b o, B b = some o → s.heap.get? b = some o) → (∀ p ∈ vg, ∃ o, s.heap.get? p.1 = some o ∧ p.2 o) → ∃ own, gs.Goes (model prog w) A.in1 (GR own) (GY own its) (its.length - k) (.send .none) s ∧
    (∀ p ∈ vg, p.1 ∈ own) ∧ (∀ a ∈ own, a ∈ vg.map (·.1) ∨ s.heap.get? a = none) ∧ own.Nodup

theorem GWill.mono {prog : Program} {w : World} {A : Around} {its : List (Nat × Str)} {k g : Nat} {G : Array GenState} {B B' : Base} {vg : Vol} (h : GWill prog w A its k g G B vg) (x : BLe B B') : GWill prog w A its k g G B' vg :=
  let ⟨gs, e, h⟩ := h; ⟨gs, e, fun s hB hv => h s (fun b o q => hB b o (x b o q)) hv⟩

section
variable {prog : Program} {w : World} {A : Around} {E : Value → Shared → Prop} {s : Shared}
theorem wpAny_pyNext_genQ {a : Addr} {g n : Nat} {gs : GenState} {P : Nat → Shared → Shared → Prop} {Y : Protocol} {Q : Option Value → Shared → Prop} (hh : A.handled = none)
    (hl : s.heap.NoLimit) (hroom : A.depth < recursionLimit) (hg : s.heap.IsGen a g) (hgs : s.gens[g]? = some gs)
    (hgo : gs.Goes (model prog w) A.in1 (fun n s₀ r s₁ => r = .ok (.ret .none) ∧ P n s₀ s₁) Y n (.send .none) (s.setGen g .running))
    (hY : ∀ v s₁ gs', gs'.bare = true → Y (n - 1) (s.setGen g .running) v s₁ (fun r' s'' => match n with
        | 0 => False
        | m + 1 => gs'.Goes (model prog w) A.in1 (fun n s₀ r s₁ => r = .ok (.ret .none) ∧ P n s₀ s₁) Y m r' s'') → Q (some v) (s₁.setGen g gs'))
    (hP : ∀ s₁, P n (s.setGen g .running) s₁ → ∀ h', (∀ b o, s₁.heap.get? b = some o → h'.get? b = some o) → Q none { s₁.setGen g .finished with heap := h' }) :
    wpAny (model prog w) A (pyNext (.ref a)) Q E s := by
  unfold pyNext
  refine wpAny_bind (wpAny_attempt (wpAny_callSpecial?_slot (name := Str.ofString "__next__") hg.typeIs slot_gen_next
    (wpAny_call_entry slot_gen_next hg.typeIs entry_gen_next ?_ (args_gen_next _))))
  show wpAny _ A.in1 (Builtin.Generator.genWake (.ref a) (.send .none)) _ _ s
  unfold Builtin.Generator.genWake
  refine wpAny_bind (wpAny_holding (wpAny_genNumber hg (wpAny_bind (wpAny_genState hgs ?_))))
  cases gs with
  | running => exact hgo.elim
  | finished => exact hgo.elim
  | _ =>
    refine wpAny_bind (wpAny_roomToWake hl hroom ?_)
    show wpAny _ A.in1 (.resume g (.send .none) [] _) _ _ s
    refine wpAny_resumeQ hgs hgo (fun x s₁ hx => ?_) (fun v s₁ gs' hb hv => ?_)
    · obtain ⟨rfl, hp⟩ := hx
      show wpAny _ A.in1 (newExc (.type "StopIteration") [] >>= _) _ _ _
      refine wpAny_bind ?_
      simp only [newExc, newTuple]
      refine wpAny_bind (wpAny_newObj_type ?_ (by size_fits))
      refine wpAny_bind (m := firstArgMember _ _) (wpAny_of_eq (a := Value.none) (by first | rfl | (simp only [firstArgMember]; rfl)) ?_)
      refine wpAny_newObj_type ?_ (by size_fits)
      simp only [raiseNew]
      refine wpAny_bind (wpAny_bind (wpAny_handled ?_))
      first | rw [show A.in1.handled = none from hh] | rw [hh]
      refine wpAny_throw ?_
      refine wpAny_bind (wpAny_isInstance (T := "StopIteration") (b := true) ⟨_, Heap.get?_push_size _ rfl, rfl⟩ isSubtype_stop ?_)
      exact wpAny_pure (hP s₁ hp _ fun b o hb => Heap.get?_push_of_some _ (Heap.get?_push_of_some _ hb))
    · exact wpAny_pure ⟨v, rfl, wpAny_pure (hY v s₁ gs' hb hv)⟩
end

theorem Bare.set {G : Array GenState} {g : Nat} {x : GenState} (h : Bare G) (hx : x.bare = true) : Bare (G.setIfInBounds g x) := by
  intro y hy
  obtain ⟨i, hi, rfl⟩ := Array.mem_iff_getElem.mp hy
  rw [Array.getElem_setIfInBounds (by simpa using hi)]
  split
  · exact hx
  · exact h _ (Array.getElem_mem (by simpa using hi))

section
variable {prog : Program} {w : World} {O : OsState} {n : Nat} {B : Base} {G : Array GenState} {A : Around} {s : Shared}

/-- the next of a generator -/
theorem next_gen {its : List (Nat × Str)} {k g : Nat} {ga : Addr} {vg v0 : Vol} {E : Value → Shared → Prop} (Rm : Room (n + 1) A) (hlim : Stb B fun h => h.NoLimit) (S : St O B G (vg ++ v0) s) (hg : genB B ga g) (hw : GWill prog w A its k g G B vg) :
    wpAny (model prog w) A (pyNext (.ref ga)) (fun r s' =>
      (∃ a p c t1 t2 B' G' vg', r = some (.ref a) ∧ its[k]? = some (p, c) ∧ BLe B B' ∧ tupB B' a [.int (p : Nat) t1, .str c t2] ∧ GWill prog w A its (k + 1) g G' B' vg' ∧ (Bare G → Bare G') ∧ St O B' G' (vg' ++ v0) s') ∨
      (its.length ≤ k ∧ r = none ∧ ∃ G', (Bare G → Bare G') ∧ St O B G' v0 s')) E s := by
  obtain ⟨gs, hgs, hgo⟩ := hw
  obtain ⟨o, nm, qn, hga, hgr⟩ := hg
  have hgens := S.gens
  have hvg : ∀ p ∈ vg, ∃ o, s.heap.get? p.1 = some o ∧ p.2 o := fun p hp => S.res p (List.mem_append_left _ hp)
  obtain ⟨own, hgo, hown1, hown2, hown3⟩ := hgo (s.setGen g .running) S.keep hvg
  -- what is own stands apart
  have hoffB : ∀ a ∈ own, B a = none := fun a ha => by
    rcases hown2 a ha with h | h
    · obtain ⟨p, hp, rfl⟩ := List.mem_map.mp h
      exact S.off p (List.mem_append_left _ hp)
    · cases q : B a with
      | none => rfl
      | some o => have := S.keep a o q; rw [show s.heap.get? a = none from h] at this; cases this
  have hoffV : ∀ a ∈ own, ∀ p ∈ v0, p.1 ≠ a := fun a ha p hp e => by
    rcases hown2 a ha with h | h
    · have nd := S.nd
      rw [List.map_append, List.nodup_append] at nd
      exact nd.2.2 a h p.1 (List.mem_map_of_mem hp) e.symm
    · obtain ⟨o, e1, _⟩ := S.res p (List.mem_append_right _ hp)
      rw [e, show s.heap.get? a = none from h] at e1; cases e1
  have hnd0 : (v0.map (·.1)).Nodup := by
    have nd := S.nd
    rw [List.map_append, List.nodup_append] at nd
    exact nd.2.1
  have old : ∀ s₁, Kept own (s.setGen g .running) s₁ → (∀ b o, B b = some o → s₁.heap.get? b = some o) ∧ (∀ p ∈ v0, ∃ o, s₁.heap.get? p.1 = some o ∧ p.2 o) := fun s₁ hk => by
    refine ⟨fun b o e => hk.1 b o (fun hb => by rw [hoffB b hb] at e; cases e) (S.keep b o e), fun p hp => ?_⟩
    obtain ⟨o, e1, e2⟩ := S.res p (List.mem_append_right _ hp)
    exact ⟨o, hk.1 _ _ (fun hb => hoffV _ hb p hp rfl) e1, e2⟩
  have hgs' : s.gens[g]? = some gs := by rw [hgens]; exact hgs
  have hlt : g < G.size := by
    rcases Nat.lt_or_ge g G.size with h | h
    · exact h
    · rw [Array.getElem?_eq_none h] at hgs; cases hgs
  refine wpAny_pyNext_genQ (P := fun n s₀ s₁ => n = 0 ∧ Kept own s₀ s₁) (Y := GY own its) Rm.handled (hlim _ S.keep) Rm.room ⟨o, nm, qn, S.keep _ _ hga, hgr⟩ hgs' hgo (fun u s₁ gs' hb hv => ?_) fun s₁ hp h' hk => ?_
  · obtain ⟨⟨a, p, c, m, t1, t2, hi, rfl, hao, hfr, hta⟩, hk, hex, hkap⟩ := hv
    obtain ⟨o1, o2⟩ := old s₁ hk
    cases hn : its.length - k with
    | zero => rw [hn] at hkap; exact (hkap s₁ fun _ _ _ e => e).elim
    | succ m' =>
      rw [hn] at hi hkap
      have hki : its.length - 1 - (m' + 1 - 1) = k := by tbr_iter "om"
      rw [hki] at hi
      have haB : B a = none := by
        cases q : B a with
        | none => rfl
        | some o' => have := S.keep a o' q; rw [show s.heap.get? a = none from hfr] at this; cases this
      have haV : ∀ p ∈ v0, p.1 ≠ a := fun p hp e => by
        obtain ⟨o, e1, _⟩ := S.res p (List.mem_append_right _ hp)
        rw [e, show s.heap.get? a = none from hfr] at e1; cases e1
      have hob : ∀ a : Addr, ∃ o, a ∈ own → s₁.heap.get? a = some o := fun a => by
        by_cases h : a ∈ own
        · obtain ⟨o, e⟩ := hex a h; exact ⟨o, fun _ => e⟩
        · exact ⟨default, fun q => absurd q h⟩
      obtain ⟨ob, hob⟩ := Classical.axiomOfChoice hob
      have hG1 : s₁.gens = G.setIfInBounds g .running := by rw [hk.2.1]; show s.gens.setIfInBounds g .running = _; rw [hgens]
      refine .inl ⟨a, p, c, t1, t2, B.add a _, (G.setIfInBounds g .running).setIfInBounds g gs', own.map fun a => (a, rEq (ob a)), rfl, hi, Base.add_le haB, ⟨m, by rw [Base.add_self]⟩, ⟨gs', ?_, fun s2 _ h2 => ⟨own, ?_, ?_, ?_, hown3⟩⟩, fun hB => (hB.set rfl).set hb, ?_⟩
      · rw [Array.getElem?_setIfInBounds]; simp [hlt]
      · rw [show its.length - (k + 1) = m' by tbr_iter "om"]
        refine hkap s2 fun b hb' o e => ?_
        obtain ⟨o', e1, e2⟩ := h2 (b, rEq (ob b)) (List.mem_map_of_mem hb')
        have := hob b hb'
        rw [this] at e
        rw [e1, show o' = ob b from e2]; exact e
      · intro q hq
        obtain ⟨b, hb', rfl⟩ := List.mem_map.mp hq; exact hb'
      · intro b hb'
        exact .inl (by rw [List.map_map]; exact List.mem_map.mpr ⟨b, hb', rfl⟩)
      · refine ⟨fun b o' e => ?_, fun q hq => ?_, fun q hq => ?_, ?_, ?_, ?_⟩
        · unfold Base.add at e
          split at e
          · rename_i q; cases e; subst q; exact hta
          · exact o1 b o' e
        · rcases List.mem_append.mp hq with hq | hq
          · obtain ⟨b, hb', rfl⟩ := List.mem_map.mp hq
            exact ⟨ob b, hob b hb', rfl⟩
          · exact o2 q hq
        · unfold Base.add
          rcases List.mem_append.mp hq with hq | hq
          · obtain ⟨b, hb', rfl⟩ := List.mem_map.mp hq
            rw [if_neg (fun q => hao (by rw [← q]; exact hb'))]
            exact hoffB b hb'
          · rw [if_neg (haV q hq)]
            exact S.off q (List.mem_append_right _ hq)
        · rw [List.map_append, List.nodup_append]
          refine ⟨by rw [List.map_map]; simpa [Function.comp_def] using hown3, hnd0, fun x hx y hy => ?_⟩
          rw [List.map_map] at hx
          obtain ⟨b, hb', rfl⟩ := List.mem_map.mp hx
          obtain ⟨q, hq, rfl⟩ := List.mem_map.mp hy
          exact Ne.symm (hoffV b hb' q hq)
        · show s₁.gens.setIfInBounds g gs' = _; rw [hG1]
        · show s₁.os = O; rw [hk.2.2]; exact S.os
  · obtain ⟨hn, hk'⟩ := hp
    obtain ⟨o1, o2⟩ := old s₁ hk'
    refine .inr ⟨by tbr_iter "om", rfl, (G.setIfInBounds g .running).setIfInBounds g .finished, fun hB => (hB.set rfl).set rfl, ?_⟩
    refine ⟨fun b o e => hk _ _ (o1 b o e), fun q hq => let ⟨o, e1, e2⟩ := o2 q hq; ⟨o, hk _ _ e1, e2⟩, fun q hq => S.off q (List.mem_append_right _ hq), hnd0, ?_, ?_⟩
    · show s₁.gens.setIfInBounds g .finished = _
      rw [hk'.2.1]; show (s.gens.setIfInBounds g .running).setIfInBounds g .finished = _; rw [hgens]
    · show s₁.os = O; rw [hk'.2.2]; exact S.os
end
-- part Gen2
/-! ### enumerate -/
def rEn (it : Addr) (i : Nat) : Res := fun o => ∃ old, o = { cls := .type "enumerate", data := .fields #[.none, .bool false, .ref it, rawInt (i : Int), .none, old] }
def rEnOut (it : Addr) (i : Nat) (a : Addr) : Res := fun o => ∃ x, o = { cls := .type "enumerate", data := .fields #[rawInt a, .bool false, .ref it, rawInt (i : Int), .none, x] }
def rSit (x : Str) (t : Tok) (i : Nat) : Res := rFields "str_ascii_iterator" [.str x t, .int i 0]
def Ascii (x : Str) : Prop := x.cps.all (· < 128) = true

section
variable {prog : Program} {w : World} {O : OsState} {n : Nat} {B : Base} {G : Array GenState} {v : Vol} {env : Env}

theorem St.two {s : Shared} {e it : Addr} {r1 r2 r1' r2' : Res} {v0 : Vol} {h' : Heap} (S : St O B G ((e, r1) :: (it, r2) :: v0) s) (hk : ∀ b o, b ≠ e → b ≠ it → s.heap.get? b = some o → h'.get? b = some o)
    (h1 : ∃ o, h'.get? e = some o ∧ r1' o) (h2 : ∃ o, h'.get? it = some o ∧ r2' o) (t : Nat) : St O B G ((e, r1') :: (it, r2') :: v0) { s with heap := h', toks := t } := by
  have nd := S.nd
  simp only [List.map_cons, List.nodup_cons, List.mem_cons, not_or] at nd
  refine ⟨fun b o q => hk b o (fun x => ?_) (fun x => ?_) (S.keep b o q), fun p hp => ?_, fun p hp => ?_, S.nd, S.gens, S.os⟩
  · have := S.off (e, r1) List.mem_cons_self; rw [x] at q; rw [q] at this; cases this
  · have := S.off (it, r2) (List.mem_cons_of_mem _ List.mem_cons_self); rw [x] at q; rw [q] at this; cases this
  · rcases List.mem_cons.mp hp with rfl | hp
    · exact h1
    · rcases List.mem_cons.mp hp with rfl | hp
      · exact h2
      · obtain ⟨o, e1, e2⟩ := S.res p (List.mem_cons_of_mem _ (List.mem_cons_of_mem _ hp))
        have hm := List.mem_map_of_mem (f := (·.1)) hp
        exact ⟨o, hk _ _ (fun x => nd.1.2 (x ▸ hm)) (fun x => nd.2.1 (x ▸ hm)) e1, e2⟩
  · rcases List.mem_cons.mp hp with rfl | hp
    · exact S.off (e, r1) List.mem_cons_self
    · rcases List.mem_cons.mp hp with rfl | hp
      · exact S.off (it, r2) (List.mem_cons_of_mem _ List.mem_cons_self)
      · exact S.off p (List.mem_cons_of_mem _ (List.mem_cons_of_mem _ hp))
/-- a new object is laid down for good -/
theorem St.addB {s : Shared} {a : Addr} {o : Obj} (S : St O B G v s) (hB : B a = none) (hv : ∀ p ∈ v, p.1 ≠ a) (ho : s.heap.get? a = some o) : BLe B (B.add a o) ∧ St O (B.add a o) G v s := by
  refine ⟨Base.add_le hB, fun b o' e => ?_, S.res, fun p hp => ?_, S.nd, S.gens, S.os⟩
  · unfold Base.add at e
    split at e
    · rename_i q; cases e; subst q; exact ho
    · exact S.keep b o' e
  · unfold Base.add; rw [if_neg (hv p hp)]; exact S.off p hp

theorem Ok.next_enum_str {e it : Addr} {x : Str} {t : Tok} {i c : Nat} {v1 v0 : Vol} {Q : Post (Option Value)} (hd1 : Del v e (rEn it i) v1) (hd2 : Del v1 it (rSit x t i) v0) (hx : x.cps[i]? = some c)
    (h : ∀ a B' t1 t2, BLe B B' → tupB B' a [.int (i : Nat) t1, .str ⟨#[c]⟩ t2] → Q (some (.ref a)) B' G ((e, rEnOut it (i + 1) a) :: (it, rSit x t (i + 1)) :: v0)) :
    Ok prog w O n B G v (pyNext (.ref e)) Q := fun A s R S0 => by
  have S : St O B G ((e, rEn it i) :: (it, rSit x t i) :: v0) s := by
    have S1 := S0.pull hd1
    have S2 := St.pull S1 (v' := (e, rEn it i) :: v0) (a := it) (r := rSit x t i) (.there hd2)
    exact S2.pull (a := e) (r := rEn it i) (.there .here)
  obtain ⟨_, he, old, rfl⟩ := S.res _ List.mem_cons_self
  obtain ⟨oi, hi1, hi2, hi3⟩ := S.res _ (List.mem_cons_of_mem _ List.mem_cons_self)
  have nd := S.nd
  simp only [List.map_cons, List.nodup_cons, List.mem_cons, not_or] at nd
  refine wpAny_pyNext_enum_itemD (Draws.strAscii (A := A.in1) R.handled it x t) (i := i) (old := old) he ⟨oi, hi1, hi2, hi3⟩ (Array.getElem?_eq_some_iff.mp hx).1 nd.1.1 (by simpa using nd.1.1) fun y h' tk hP ho hs' hT hz hk => ?_
  obtain ⟨c', u, hc', rfl⟩ := hP
  rw [hx] at hc'; cases hc'
  obtain ⟨oi', k1, k2, k3⟩ := hs'
  obtain ⟨f1, f2⟩ := S.fresh
  have ST : St O B G ((e, rEnOut it (i + 1) s.heap.objs.size) :: (it, rSit x t (i + 1)) :: v0) { s with heap := h', toks := tk + 1 } :=
    S.two hk ⟨_, ho, _, rfl⟩ ⟨oi', k1, k2, k3⟩ (tk + 1)
  obtain ⟨b1, b2⟩ := ST.addB (a := s.heap.objs.size) f1 (fun p hp => by
    rcases List.mem_cons.mp hp with rfl | hp
    · exact f2 (e, rEn it i) List.mem_cons_self
    · rcases List.mem_cons.mp hp with rfl | hp
      · exact f2 (it, rSit x t i) (List.mem_cons_of_mem _ List.mem_cons_self)
      · exact f2 p (List.mem_cons_of_mem _ (List.mem_cons_of_mem _ hp))) hT
  exact ⟨_, _, _, b2, h _ _ tk u b1 ⟨0, Base.add_self ..⟩⟩
theorem Ok.next_enum_str_end {e it : Addr} {x : Str} {t : Tok} {i : Nat} {v1 v0 : Vol} {Q : Post (Option Value)} (hd1 : Del v e (rEn it i) v1) (hd2 : Del v1 it (rSit x t i) v0) (hx : i = x.cps.size) (h : Q none B G v0) :
    Ok prog w O n B G v (pyNext (.ref e)) Q := fun A s R S0 => by
  subst hx
  have S := S0.pull hd1
  obtain ⟨_, he, old, rfl⟩ := S.res _ List.mem_cons_self
  obtain ⟨oi, hi1, hi2, hi3⟩ := S.res (it, rSit x t x.cps.size) (List.mem_cons_of_mem _ (by
    obtain ⟨j, hj, _⟩ := hd2.idx
    exact List.mem_of_getElem? hj))
  refine wpAny_pyNext_enum_endD (Draws.strAscii (A := A.in1) R.handled it x t) he ⟨oi, hi1, hi2, hi3⟩ fun h' hx' => ?_
  have S1 : St O B G v1 s := by
    obtain ⟨j, hj, rfl⟩ := hd1.idx
    exact S0.sub (List.eraseIdx_sublist v j)
  exact ⟨B, G, v0, S1.gone hd2 hx' s.toks, h⟩
theorem Ok.own_enum {elts : List Expr} {k : Nat} {p : Pos} {e it a : Addr} {i : Nat} {v' : Vol} {Q : Post Unit} (hu : Upd v e (rEnOut it i a) (rEn it i) v') (h : Q () B G v') : Ok prog w O n B G v (letOwnedTupleGo (.Tuple elts k p) (.ref e) (.ref a)) Q := fun A s R S => by
  obtain ⟨_, he, x, rfl⟩ := S.has hu.has
  exact wpAny_letOwnedTupleGo_enum (i := (i : Int)) (item := x) he fun h' he' hs => ⟨B, G, v', S.turn hu hs ⟨_, he', x, rfl⟩ s.toks, h⟩
theorem Ok.own_gen {elts : List Expr} {k : Nat} {p : Pos} {a : Addr} {g : Nat} {u : Value} {Q : Post Unit} (hg : genB B a g) (h : Q () B G v) : Ok prog w O n B G v (letOwnedTupleGo (.Tuple elts k p) (.ref a) u) Q := fun A s R S => by
  obtain ⟨o, nm, qn, e, hc, hd, _⟩ := hg
  unfold letOwnedTupleGo
  cases u with
  | ref b =>
    refine wpAny_bind (wpAny_load (S.keep _ _ e) ?_)
    rw [hc, hd]
    show wpAny _ A (if (["enumerate", "zip", "dict_itemiterator", "dict_reverseitemiterator", "odict_iterator", "itertools.zip_longest", "itertools.pairwise"].contains "generator" && _) = true then _ else _) _ _ s
    rw [if_neg (by simp)]
    exact wpAny_pure ⟨_, _, _, S, h⟩
  | _ => exact wpAny_pure ⟨_, _, _, S, h⟩
/-- a written tuple, told new -/
theorem Ok.tuple_new {es : List Expr} {k : Nat} {p : Pos} {Q : Post Value}
    (h : Ok prog w O n B G v (spliced (backTo p (starEach es env))) fun vs B1 G1 v1 => vs.length ≤ sizeLine ∧ ∀ a B', BLe B1 B' → B1 a = none → (∀ q ∈ v1, q.1 ≠ a) → tupB B' a vs → Q (.ref a) B' G1 v1) :
    Ok prog w O n B G v (eval (.Tuple es k p) env) Q := fun A s R S => by
  refine wpAny_Tuple (wpAny_mono (h A s R S) (fun vs s1 ⟨B1, G1, v1, S1, hz, h1⟩ => ⟨hz, ?_⟩) fun _ _ x => x)
  obtain ⟨f1, f2⟩ := S1.fresh
  obtain ⟨k1, k2⟩ := S1.pushB ({ cls := .type "tuple", data := .seq vs.toArray } : Obj) rfl s1.toks
  exact ⟨_, _, _, k2, h1 _ _ k1 f1 f2 ⟨0, Base.add_self ..⟩⟩
end

/-! ### a generator's body, piece by piece -/
def SgT (prog : Program) (w : World) (A : Around) (own : List Addr) (its : List (Nat × Str)) (N : Nat) (c : Code) (fs : List Frame) (v : Vol) (t : Sem Fin) : Prop :=
  ∀ (s₀ s : Shared) (B : Base), (∀ b o, b ∉ own → s₀.heap.get? b = some o → B b = some o) → St s₀.os B s₀.gens v s → Seg (model prog w) A (GR own) (GY own its) N s₀ c t fs s

section
variable {prog : Program} {w : World} {A : Around} {own : List Addr} {its : List (Nat × Str)} {N n : Nat} {c : Code} {fs : List Frame} {v : Vol} {env : Env} {K : Flow → Sem Fin} {H : Value → Sem Fin} {gd : Bool → Bool} {lv : List Value → List Value}

theorem sg_wrap {α : Type} {m : Sem α} {K : α → Sem Fin} (R : Room n (A.over c fs)) (h : ∀ O B G, Ok prog w O n B G v m fun a B1 G1 v1 => BLe B B1 ∧ G1 = G ∧ SgT prog w A own its N c fs v1 (K a)) : SgT prog w A own its N c fs v (m.wrap K H gd lv) :=
  fun s₀ s B hB S => seg_wrap (wpAny_mono (h _ _ _ _ s R S) (fun a s' ⟨B1, G1, v1, S1, hle, e, h1⟩ => by subst e; exact h1 s₀ s' B1 (fun b o x y => hle b o (hB b o x y)) S1) fun _ _ x => x.elim)
theorem sg_cons {st : Stmt} {rest : List Stmt} (h : SgT prog w A own its N c fs v ((exec st env).wrap (fun f => match f with | .next => (execs rest env).wrap K H gd lv | f => K f) H gd lv)) : SgT prog w A own its N c fs v ((execs (st :: rest) env).wrap K H gd lv) :=
  fun s₀ s B hB S => seg_execs_cons (h s₀ s B hB S)
theorem sg_nil (h : SgT prog w A own its N c fs v (K .next)) : SgT prog w A own its N c fs v ((execs [] env).wrap K H gd lv) := fun s₀ s B hB S => seg_execs_nil (h s₀ s B hB S)
theorem sg_if {t : Expr} {b e : List Stmt} {p : Pos} (R : Room n (A.over c fs)) (h : ∀ O B G, Ok prog w O n B G v (isTrue t env (eval t env)) fun x B1 G1 v1 => BLe B B1 ∧ G1 = G ∧ if x = true then SgT prog w A own its N c fs v1 ((execs b env).wrap K H gd lv) else SgT prog w A own its N c fs v1 ((execs e env).wrap K H gd lv)) :
    SgT prog w A own its N c fs v ((exec (.If t b e p) env).wrap K H gd lv) := fun s₀ s B hB S => by
  rw [exec_If]
  refine seg_bind_wrap (wpAny_standAt (seg_bind_wrap (Ok.go (h _ _ _) R S (fun x s1 B1 G1 v1 S1 hgo => ?_))))
  obtain ⟨hle, e', h1⟩ := hgo
  subst e'
  cases x with
  | true => exact h1 s₀ s1 B1 (fun b o x y => hle b o (hB b o x y)) S1
  | false => exact h1 s₀ s1 B1 (fun b o x y => hle b o (hB b o x y)) S1
theorem sg_yield {e : Expr} {yp p : Pos} (R : Room n (A.over c fs)) (hfs : splitAtGen fs = none) (hgd : gd false = false) (hfg : fs.any Frame.guarded = false) (hco : env.scope.isCoroutine = false) (hi : interactive env = false)
    (h : ∀ O B G, Ok prog w O n B G v (eval e env) fun u B1 G1 v1 => BLe B B1 ∧ G1 = G ∧ (∃ a q t t1 t2, u = .ref a ∧ its[its.length - 1 - N]? = some (q, t) ∧ B a = none ∧ a ∉ own ∧ tupB B1 a [.int (q : Nat) t1, .str t t2]) ∧ (∀ a ∈ own, a ∈ v1.map (·.1)) ∧ (∀ q ∈ v1, q.1 ∈ own) ∧ SgT prog w A own its N c fs v1 (K .next)) :
    SgT prog w A own its (N + 1) c fs v ((exec (.Expr (.Yield (some e) yp) p) env).wrap K H gd lv) := fun s₀ s B hB S => by
  refine seg_Expr_Yield hfs hgd hfg (Ok.go (h _ _ _) R S (fun u s1 B1 G1 v1 S1 hgo kap hk => ?_)) hco hi
  obtain ⟨hle, e', ⟨a, q, t, t1, t2, hu, hit, ha, hao, m, hta⟩, ho1, ho2, h1⟩ := hgo
  subst e' hu
  refine ⟨⟨a, q, t, m, t1, t2, hit, rfl, hao, ?_, S1.keep _ _ hta⟩, ⟨fun b o x y => S1.keep _ _ (hle b o (hB b o x y)), S1.gens, S1.os⟩, fun b hb => ?_, fun s2 h2 => ?_⟩
  · cases q1 : s₀.heap.get? a with
    | none => rfl
    | some o => rw [hB a o hao q1] at ha; cases ha
  · obtain ⟨p', hp', rfl⟩ := List.mem_map.mp (ho1 b hb)
    obtain ⟨o, e1, _⟩ := S1.res p' hp'
    exact ⟨o, e1⟩
  · refine hk .none s2 (h1 s2 s2 (fun b => if b ∈ own then none else s2.heap.get? b) (fun b o x y => by rw [if_neg x]; exact y) ⟨fun b o x => ?_, fun p' hp' => ?_, fun p' hp' => ?_, S1.nd, rfl, rfl⟩)
    · split at x
      · cases x
      · exact x
    · obtain ⟨o, e1, e2⟩ := S1.res p' hp'
      exact ⟨o, h2 _ (ho2 p' hp') o e1, e2⟩
    · rw [if_pos (ho2 p' hp')]

def loopK (t : Expr) (it : Value) (b : List Stmt) (env : Env) : Flow → Sem Fin := fun f => match f with
  | .next | .cont => .pure (.again (.forLoop t it b [] env))
  | .brk => .pure (.done .next)
  | .ret u => .pure (.done (.ret u))
def loopH (env : Env) : Value → Sem Fin := fun e => (do noteFrame e env; theTreesLotGoes e : Sem Unit).wrap (fun _ => .raise e) .raise id id
/-- the frame left behind while a for loop runs -/
abbrev loopF (env : Env) (K : Flow → Sem Fin) (H : Value → Sem Fin) (gd : Bool → Bool) (lv : List Value → List Value) (c : Code) (p : Pos) : Frame :=
  .ret (fun r => ((match r with | .ok f => (.pure f : Sem Flow) | .error e => .raise e).onRaise fun (x : Value) => do
        if (← field x 1) == Value.none then unsupported "frame.own-activation:exception-without-traceback"
        setFlight x env.frame).wrap K H gd lv) none (gd false) (lv []) c p []

theorem sg_turn {t : Expr} {it : Value} {b : List Stmt} {F : Frame} (R : Room n (A.over (.forLoop t it b [] env) (F :: fs)))
    (h : ∀ O B G, Ok prog w O n B G v (pyNext it) fun r B1 G1 v1 => BLe B B1 ∧ G1 = G ∧ match r with
      | none => SgT prog w A own its N (.forLoop t it b [] env) (F :: fs) v1 (.pure (.again (.block [] env)))
      | some x => ∀ O1 B2 G2, BLe B1 B2 → Ok prog w O1 n B2 G2 v1 (letOwnedTupleGo t it x) fun _ B3 G3 v3 => Ok prog w O1 n B3 G3 v3 (assign t env x) fun _ B4 G4 v4 => BLe B2 B4 ∧ G4 = G2 ∧ SgT prog w A own its N (.forLoop t it b [] env) (F :: fs) v4 ((execs b env).wrap (loopK t it b env) (loopH env) id id)) :
    SgT prog w A own its N (.forLoop t it b [] env) (F :: fs) v ((model prog w).den (.forLoop t it b [] env)) := fun s₀ s B hB S => by
  show Seg _ A _ _ _ s₀ _ ((forTurn t it b [] env).onRaise (fun x => do noteFrame x env; theTreesLotGoes x)) (F :: fs) s
  unfold forTurn
  rw [Sem.onRaise_eq_wrap]
  refine seg_bind_wrap (wpAny_standAt (seg_bind_wrap (wpAny_onRaise (Ok.go (h _ _ _) R S (fun r s1 B1 G1 v1 S1 hgo => ?_)))))
  obtain ⟨hle, e, h1⟩ := hgo
  subst e
  cases r with
  | none => exact h1 s₀ s1 B1 (fun b o x y => hle b o (hB b o x y)) S1
  | some x =>
    refine seg_bind_wrap (Ok.go (h1 _ _ _ (BLe.refl _)) R S1 (fun _ s2 B2 G2 v2 S2 h2 => ?_))
    refine seg_bind_wrap (Ok.go h2 R S2 (fun _ s3 B3 G3 v3 S3 hgo => ?_))
    obtain ⟨hle3, e3, h3⟩ := hgo
    subst e3
    rw [Sem.bind_eq_wrap', Sem.wrap_wrap]
    rw [Sem.wrap_congr (execs b env) _ _ (K' := loopK t it b env) (H' := loopH env) (fun f => by cases f <;> rfl)
      (fun e => by first | exact Sem.bind_eq_wrap _ _ | (show (do noteFrame e env; theTreesLotGoes e : Sem Unit).bind (fun _ => .raise e) = _; rw [Sem.bind_eq_wrap]; rfl))]
    exact h3 s₀ s3 B3 (fun b o x y => hle3 b o (hle b o (hB b o x y))) S3

theorem sg_loop_end {t : Expr} {it : Value} {b : List Stmt} {p : Pos} {c' : Code} (h : SgT prog w A own its N c fs v (K .next)) :
    SgT prog w A own its N c' (loopF env K H gd lv c p :: fs) v (.pure (.again (.block [] env))) := fun s₀ s B hB S =>
  seg_again rfl (seg_leaf (.ok .next) (h s₀ s B hB S))
theorem sg_again {t : Expr} {it : Value} {b : List Stmt} {c' : Code} (h : SgT prog w A own its N (.forLoop t it b [] env) fs v ((model prog w).den (.forLoop t it b [] env))) :
    SgT prog w A own its N c' fs v (.pure (.again (.forLoop t it b [] env))) := fun s₀ s B hB S => seg_again rfl (h s₀ s B hB S)
theorem sg_end : SgT prog w A own its 0 c [] v (.pure (.done (.ret .none))) := fun s₀ s B hB S =>
  seg_end (.ok (.ret .none)) ⟨rfl, rfl, fun b o x y => S.keep _ _ (hB b o x y), S.gens, S.os⟩
end
-- part Gen3
def fTgt : Stmt → Expr
  | .For t _ _ _ _ => t
  | _ => default
def fBody : Stmt → List Stmt
  | .For _ _ b _ _ => b
  | _ => []
abbrev bsl : Str := Str.ofString "\\"
/-- does a text end on a mark that covers nothing -/
def finFl : Bool → List Nat → Bool
  | fl, [] => fl
  | true, _ :: r => finFl false r
  | false, c :: r => finFl ((⟨#[c]⟩ : Str) == bsl) r
def esc : Bool → Nat → Nat → List Nat → List (Nat × Str)
  | fl, pos, _, [] => if fl = true then [(pos, bsl)] else []
  | true, _, i, c :: r => (i, bsl ++ (⟨#[c]⟩ : Str)) :: esc false i (i + 1) r
  | false, _, i, c :: r => if ((⟨#[c]⟩ : Str) == bsl) = true then esc true i (i + 1) r else (i, (⟨#[c]⟩ : Str)) :: esc false i (i + 1) r

section
variable {prog : Program} {w : World} {O : OsState} {n : Nat} {B : Base} {G : Array GenState} {v : Vol} {env : Env} {x y : Str} {t u : Tok} {Q : Post Value}
theorem Ok.eq_str (h : Q (.bool (x == y)) B G v) : Ok prog w O n B G v (compareOp .Eq (.str x t) (.str y u)) Q := fun A s R S => PyProof.Rows.eq_str ⟨B, G, v, S, h⟩
theorem Ok.add_str (hx : x.length ≠ 0) (hy : y.length ≠ 0) (hz : (x ++ y).length ≤ sizeLine) (h : ∀ k, Q (.str (x ++ y) k) B G v) : Ok prog w O n B G v (binaryOp .Add (.str x t) (.str y u)) Q := fun A s R S => by
  refine PySem.P.add_str ?_
  rw [if_neg (by simpa using hx), if_neg (by simpa using hy)]
  exact ⟨hz, B, G, v, S.toks _, h _⟩

theorem room_over {A : Around} {t : Expr} {it : Value} {b fb : List Stmt} {env : Env} {K : Flow → Sem Fin} {H : Value → Sem Fin} {gd : Bool → Bool} {lv : List Value → List Value} {p : Pos} (R : Room (n + 1) A) : Room n (A.in1.over (.forLoop t it b [] env) [loopF env K H gd lv (.func fb env) p]) := by
  obtain ⟨h1, h2, h3⟩ := R
  refine ⟨?_, ?_, ?_⟩
  · show (marksOver _ (A.handled, A.handled)).1 = none
    rw [h1]; rfl
  · show A.depth + 1 + 0 + 4 * n < recursionLimit
    (first | lia | omega)
  · show A.units + 1 + 3 + 0 + 40 * n < cLine
    (first | lia | omega)
theorem room_over0 {A : Around} {fb : List Stmt} {env : Env} (R : Room (n + 1) A) : Room n (A.in1.over (.func fb env) []) := by
  obtain ⟨h1, h2, h3⟩ := R
  refine ⟨?_, ?_, ?_⟩
  · show (marksOver _ (A.handled, A.handled)).1 = none
    rw [h1]; rfl
  · show A.depth + 0 + 1 + 4 * n < recursionLimit
    (first | lia | omega)
  · show A.units + 1 + 0 + 3 + 40 * n < cLine
    (first | lia | omega)
end

abbrev gNs : List Str := ["addr", "pos", "escape", "ch"]
section
variable {w : World} {O : OsState} {n : Nat} {B : Base} {G : Array GenState} {v : Vol} {A : Around}

theorem drop_next {its r : List (Nat × Str)} {N : Nat} {q : Nat × Str} (h : its.drop (its.length - (N + 1)) = q :: r) (hr : r.length = N) : its[its.length - 1 - N]? = some q ∧ its.drop (its.length - N) = r := by
  have hl : its.length - (its.length - (N + 1)) = N + 1 := by
    have := congrArg List.length h
    rw [List.length_drop, List.length_cons, hr] at this; exact this
  have e1 : its.length - 1 - N = its.length - (N + 1) := by tbr_iter "om"
  have e2 : its.length - N = its.length - (N + 1) + 1 := by tbr_iter "om"
  refine ⟨?_, ?_⟩
  · have := congrArg (fun l => l[0]?) h
    simp only [List.getElem?_drop, Nat.add_zero] at this
    rw [e1]; simpa using this
  · rw [e2, ← List.drop_drop, h]; rfl

theorem esc_loop {e it L : Addr} {x : Str} {t : Tok} {its : List (Nat × Str)} {env : Env} {cells : List (Str × Addr)} {cd : Value} {K : Flow → Sem Fin} {H : Value → Sem Fin} {gd : Bool → Bool} {lv : List Value → List Value} {p0 : Pos} {fb : List Stmt} (Rm : Room (n + 1) A)
    (hE : EnvIs env L gNs ["enumerate"] [] []) (hco : env.scope.isCoroutine = false) (hi0 : interactive env = false) (hgd : gd false = false)
    (hend : ∀ p tp co, SgT prg w A.in1 [L, e, it] its 0 (.func fb env) [] [(L, rFr gNs [some (.str x t), some (.int (p : Nat) tp), some (.bool false), co])] (K .next)) :
    ∀ (rest : List Nat) (i : Nat) (fl : Bool) (p : Nat) (tp : Tok) (co : Option Value) (N : Nat), x.cps.toList.drop i = rest → finFl fl rest = false → i ≤ x.cps.size → N = (esc fl p i rest).length → its.drop (its.length - N) = esc fl p i rest →
      SgT prg w A.in1 [L, e, it] its N (.forLoop (fTgt (nestAt 14 2)) (.ref e) (fBody (nestAt 14 2)) [] env) [loopF env K H gd lv (.func fb env) p0]
        [(e, rEn it i), (it, rSit x t i), (L, rFr gNs [some (.str x t), some (.int (p : Nat) tp), some (.bool fl), co])] ((model prg w).den (.forLoop (fTgt (nestAt 14 2)) (.ref e) (fBody (nestAt 14 2)) [] env)) := by
  intro rest
  induction rest with
  | nil =>
    intro i fl p tp co N hr hf0 hi hN hits
    refine sg_turn (n := n) (room_over Rm) fun O B G => ?_
    refine Ok.next_enum_str_end .here .here ?_ ?_
    · have := List.drop_eq_nil_iff.mp hr
      rw [Array.length_toList] at this; (first | lia | omega)
    refine ⟨BLe.refl _, rfl, ?_⟩
    refine sg_loop_end (t := default) (it := .none) (b := []) ?_
    have hfl : fl = false := hf0
    subst hfl
    subst hN
    exact hend p tp co
  | cons c rest ih =>
    intro i fl p tp co N hr hf0 hi hN hits
    have hlt : i < x.cps.toList.length := by
      rcases Nat.lt_or_ge i x.cps.toList.length with h | h
      · exact h
      · rw [List.drop_of_length_le h] at hr; cases hr
    rw [List.drop_eq_getElem_cons hlt] at hr
    injection hr with hc hr
    have hci : x.cps[i]? = some c := by
      rw [Array.length_toList] at hlt
      rw [Array.getElem?_eq_getElem hlt, ← hc]; simp
    rw [Array.length_toList] at hlt
    refine sg_turn (n := n) (room_over Rm) fun O B G => ?_
    refine Ok.next_enum_str .here .here hci fun a B1 t1 t2 hle ha => ⟨hle, rfl, fun O1 B2 G2 hle2 => ?_⟩
    conv in (letOwnedTupleGo (fTgt _) _ _) => arg 1; whnf
    refine Ok.own_enum .here ?_
    conv in (assign (fTgt _) _ _) => arg 1; whnf
    refine Ok.unpack2 (ha.mono hle2) ?_
    tbr_iter "go*"
    refine ⟨BLe.refl _, rfl, ?_⟩
    conv in (execs (fBody _) _) => arg 1; whnf
    have hown : ∀ (r1 r2 r3 : Res) (a : Addr), (∀ q ∈ [(e, r1), (it, r2), (L, r3)], q.1 ≠ a) → a ∉ [L, e, it] := fun r1 r2 r3 a h hm => by
      simp only [List.mem_cons, List.not_mem_nil, or_false] at hm
      rcases hm with rfl | rfl | rfl
      · exact h (a, r3) (by simp) rfl
      · exact h (a, r1) (by simp) rfl
      · exact h (a, r2) (by simp) rfl
    have ho1 : ∀ (r1 r2 r3 : Res), ∀ a ∈ [L, e, it], a ∈ ([(e, r1), (it, r2), (L, r3)] : Vol).map (·.1) := fun r1 r2 r3 a hm => by
      simp only [List.mem_cons, List.not_mem_nil, or_false] at hm
      rcases hm with rfl | rfl | rfl <;> simp
    have ho2 : ∀ (r1 r2 r3 : Res), ∀ q ∈ ([(e, r1), (it, r2), (L, r3)] : Vol), q.1 ∈ [L, e, it] := fun r1 r2 r3 q hm => by
      simp only [List.mem_cons, List.not_mem_nil, or_false] at hm
      rcases hm with rfl | rfl | rfl <;> simp
    refine sg_cons ?_
    refine sg_if (n := n) (room_over Rm) fun O B G => ?_
    tbr_iter "go*"
    refine ⟨BLe.refl _, rfl, ?_⟩
    cases fl with
    | true =>
      rw [if_pos rfl]
      obtain ⟨N', rfl⟩ : ∃ N', N = N' + 1 := ⟨(esc false i (i + 1) rest).length, hN⟩
      have hN' : (esc false i (i + 1) rest).length = N' := by simpa [esc] using hN.symm
      obtain ⟨g1, g2⟩ := drop_next (N := N') (by rw [hits]; rfl) hN'
      refine sg_cons ?_
      refine sg_yield (n := n) (room_over Rm) rfl rfl (by simp [Frame.guarded, hgd]) hco hi0 fun O B G => ?_
      refine Ok.tuple_new ?_
      tbr_iter "go*"
      refine Ok.add_str (by decide) (show (1 : Nat) ≠ 0 by decide) (by rw [strLen_append]; exact Nat.le_of_ble_eq_true rfl) fun k => ?_
      tbr_iter "go*"
      refine ⟨Nat.le_of_ble_eq_true rfl, fun b B3 hle3 hf hfv hb => ⟨hle3, rfl, ⟨b, i, _, t1, k, rfl, g1, hf, hown _ _ _ b hfv, hb⟩, ho1 _ _ _, ho2 _ _ _, ?_⟩⟩
      refine sg_cons ?_
      refine sg_wrap (n := n) (room_over Rm) fun O B G => ?_
      tbr_iter "go*"
      refine ⟨BLe.refl _, rfl, ?_⟩
      refine sg_nil ?_
      refine sg_nil ?_
      refine sg_again ?_
      exact ih (i + 1) false i t1 _ N' hr (by simpa [finFl] using hf0) (by tbr_iter "om") hN'.symm g2
    | false =>
      rw [if_neg (by decide)]
      refine sg_cons ?_
      refine sg_if (n := n) (room_over Rm) fun O B G => ?_
      tbr_iter "go*"
      refine Ok.eq_str ?_
      tbr_iter "go*"
      refine ⟨BLe.refl _, rfl, ?_⟩
      by_cases hb : ((⟨#[c]⟩ : Str) == bsl) = true
      · rw [if_pos hb]
        have he : esc false p i (c :: rest) = esc true i (i + 1) rest := by rw [esc, if_pos hb]
        rw [he] at hN hits
        refine sg_cons ?_
        refine sg_wrap (n := n) (room_over Rm) fun O B G => ?_
        tbr_iter "go*"
        refine ⟨BLe.refl _, rfl, ?_⟩
        refine sg_nil ?_
        refine sg_nil ?_
        refine sg_nil ?_
        refine sg_again ?_
        exact ih (i + 1) true i t1 _ N hr (by simpa [finFl, hb] using hf0) (by tbr_iter "om") hN hits
      · rw [if_neg hb]
        have he : esc false p i (c :: rest) = (i, (⟨#[c]⟩ : Str)) :: esc false i (i + 1) rest := by rw [esc, if_neg hb]
        rw [he] at hN hits
        obtain ⟨N', rfl⟩ : ∃ N', N = N' + 1 := ⟨(esc false i (i + 1) rest).length, hN⟩
        have hN' : (esc false i (i + 1) rest).length = N' := by simpa using hN.symm
        obtain ⟨g1, g2⟩ := drop_next (N := N') hits hN'
        refine sg_cons ?_
        refine sg_yield (n := n) (room_over Rm) rfl rfl (by simp [Frame.guarded, hgd]) hco hi0 fun O B G => ?_
        refine Ok.tuple_new ?_
        tbr_iter "go*"
        refine ⟨Nat.le_of_ble_eq_true rfl, fun b B3 hle3 hf hfv hbt => ⟨hle3, rfl, ⟨b, i, _, t1, _, rfl, g1, hf, hown _ _ _ b hfv, hbt⟩, ho1 _ _ _, ho2 _ _ _, ?_⟩⟩
        refine sg_nil ?_
        refine sg_nil ?_
        refine sg_nil ?_
        refine sg_again ?_
        exact ih (i + 1) false i t1 _ N' hr (by simpa [finFl, hb] using hf0) (by tbr_iter "om") hN'.symm g2
end
-- part Gen4
section
variable {prog : Program} {w : World} {A : Around} {E : Value → Shared → Prop} {s : Shared} {env : Env} {L : Addr} {ns gl : List Str} {cs fs : List (Str × Addr)} {vs vs' : List (Option Value)}
/-- what a step that touches the frame alone leaves -/
structure FrameAt (L : Addr) (ns : List Str) (vs : List (Option Value)) (s₀ s : Shared) : Prop where
  size : s.heap.objs.size = s₀.heap.objs.size
  keep : ∀ b o, b ≠ L → s₀.heap.get? b = some o → s.heap.get? b = some o
  gens : s.gens = s₀.gens
  os : s.os = s₀.os
  fr : ∃ o, s.heap.get? L = some o ∧ rFr ns vs o
theorem FrameAt.toks {s₀ : Shared} (h : FrameAt L ns vs s₀ s) (t : Nat) : FrameAt L ns vs s₀ { s with toks := t } := ⟨h.size, h.keep, h.gens, h.os, h.fr⟩
theorem raw_store {x : Str} {u : Value} {s₀ : Shared} {Q : Unit → Shared → Prop} (hE : EnvIs env L ns gl cs fs) (F : FrameAt L ns vs s₀ s) (hx : Put ns vs x u vs') (h : ∀ s1, FrameAt L ns vs' s₀ s1 → Q () s1) : wpAny (model prog w) A (storeName env x u) Q E s := by
  obtain ⟨o, ho, ⟨hnd, hl⟩, hns⟩ := F.fr
  obtain ⟨k1, k2⟩ := hE.isLoc x hx.mem
  refine wpAny_storeName_local k1 (by rw [hE.loc]; exact ns_of ⟨o, ho, hns⟩) (fun h' hn hs => h _ ?_) (by rw [hE.kind]; rfl)
  rw [hE.loc] at hn hs
  rw [hx.get hnd] at hn
  obtain ⟨o', ho', hns'⟩ := of_ns hn
  exact ⟨hs.1.trans F.size, fun b o hb e => hs.extBut b o hb (F.keep b o hb e), F.gens, F.os, ⟨o', ho', ⟨hnd, hx.len.trans hl⟩, hns'⟩⟩
theorem raw_name {x : Str} {p : Pos} {u : Value} {Q : Value → Shared → Prop} (hE : EnvIs env L ns gl cs fs) (F : ∃ o, s.heap.get? L = some o ∧ rFr ns vs o) (hx : Idx ns vs x (some u)) (h : Q u s) : wpAny (model prog w) A (eval (.Name x p) env) Q E s := by
  obtain ⟨o, ho, ⟨hnd, hl⟩, hns⟩ := F
  obtain ⟨k1, k2⟩ := hE.isLoc x hx.mem
  exact wpAny_Name (wpAny_loadName_local hE.kind k1 (by rw [hE.loc]; exact ns_of ⟨o, ho, hns⟩) (hx.get hnd) h) k2
theorem raw_glob {x : Str} {p : Pos} {u : Value} {Q : Value → Shared → Prop} (hE : EnvIs env L ns gl cs fs) (hg : HasN gl x) (hT : GlobIs x u s.heap) (h : Q u s) : wpAny (model prog w) A (eval (.Name x p) env) Q E s := by
  obtain ⟨k1, k2⟩ := hE.isGl _ hg.mem
  obtain ⟨mg, mb, h1, h2, h3⟩ := hT
  rcases h3 with h3 | ⟨h3, h4⟩
  · exact Name_function_global hE.kind k1 (loadGlobal_global (by rw [hE.glob]; exact h1) h3 h) k2
  · exact Name_function_global hE.kind k1 (loadGlobal_builtin (by rw [hE.glob]; exact h1) h3 (by rw [hE.blt]; exact h2) h4 h) k2

theorem seg_for {A : Around} {R : GenEnd} {Y : Protocol} {N : Nat} {s₀ : Shared} {c : Code} {fr : List Frame} {t iter : Expr} {b : List Stmt} {p : Pos} {K : Flow → Sem Fin} {H : Value → Sem Fin} {gd : Bool → Bool} {lv : List Value → List Value}
    (h : wpAny (model prog w) (A.over c fr) (eval iter env) (fun x s1 => wpAny (model prog w) (A.over c fr) (pyIter x) (fun it s2 => ∀ p', Seg (model prog w) A R Y N s₀ (.forLoop t it b [] env) ((model prog w).den (.forLoop t it b [] env)) (loopF env K H gd lv c p' :: fr) s2) (fun _ _ => False) s1) (fun _ _ => False) s)
    (hs : ∀ x, foldedSetIterable iter env x = pure x) : Seg (model prog w) A R Y N s₀ c ((exec (.For t iter b [] p) env).wrap K H gd lv) fr s := by
  rw [exec_For]
  refine seg_bind_wrap (wpAny_standAt ?_)
  refine seg_bind_wrap (wpAny_mono h (fun x s1 h1 => ?_) fun _ _ x => x.elim)
  refine seg_bind_wrap (wpAny_of_eq (hs x) ?_)
  refine seg_bind_wrap (wpAny_standAt ?_)
  refine seg_bind_wrap (wpAny_holding (wpAny_mono h1 (fun it s2 h2 => ?_) fun _ _ x => x.elim))
  exact seg_call h2
end

section
variable {w : World} {n : Nat} {B : Base} {G : Array GenState} {A : Around}
theorem gen_fresh {L : Addr} {env : Env} {cd : Value} {x : Str} {t : Tok} {g : Nat} (Rm : Room (n + 1) A) (hT : TopB B) (hBL : B L = none) (hA : EnvAt 14 env L cd []) (hx : Ascii x) (hfin : finFl false x.cps.toList = false) (hg : G[g]? = some (.fresh (.func (bodyAt 14) env))) :
    GWill prg w A (esc false 0 0 x.cps.toList) 0 g G B [(L, rFr gNs [some (.str x t), none, none, none])] := by
  refine ⟨_, hg, fun s hB hv => ⟨[L, s.heap.objs.size + 1, s.heap.objs.size], ⟨rfl, ?_⟩, ?_, ?_, ?_⟩⟩
  · have hE := hA.is gNs ["enumerate"] (by decide +kernel) (by decide +kernel)
    have F0 : FrameAt L gNs [some (.str x t), none, none, none] s s := ⟨rfl, fun _ _ _ e => e, rfl, rfl, hv (L, _) (List.mem_cons_self ..)⟩
    have hLlt : L < s.heap.objs.size := by obtain ⟨o, e, _⟩ := hv _ (List.mem_cons_self ..); exact Heap.lt_size e
    refine seg_func ?_
    have hR := room_over0 (fb := bodyAt 14) (env := env) Rm
    generalize hfb : Code.func (bodyAt 14) env = fc at *
    conv in (bodyAt 14) => whnf
    refine seg_execs_cons (seg_wrap (wpAny_Assign_Name (wpAny_Constant_int ?_) rfl))
    refine raw_store (vs' := [some (.str x t), some (.int 0 s.toks), none, none]) hE (F0.toks _) (by tbr_iter "put") fun s1 F1 => ?_
    refine seg_execs_cons (seg_wrap (wpAny_Assign_Name (wpAny_Constant_bool ?_) rfl))
    refine raw_store (vs' := [some (.str x t), some (.int 0 s.toks), some (.bool false), none]) hE F1 (by tbr_iter "put") fun s2 F2 => ?_
    refine seg_execs_cons (seg_for ?_ (fun _ => rfl))
    have hglob : GlobIs "enumerate" (.type "enumerate") s2.heap := by
      refine hT.glob ("enumerate", .type "enumerate") (by simp) _ fun b o e => F2.keep b o (fun q => ?_) (hB b o e)
      rw [q, hBL] at e; cases e
    refine wpAny_Call_Name_kw (raw_glob hE .here hglob ?_)
    refine callWith_val rfl rfl (evalArgs_list rfl ?_)
    refine wpAny_items_cons (raw_name hE F2.fr (by tbr_iter "idx") ?_) rfl
    refine wpAny_items_nil ?_
    refine call_enumerate_str fun h' he hi hz hk => ?_
    refine wpAny_pyIter_enum he fun p' => ?_
    obtain ⟨z, hzz⟩ : ∃ z, z = s.heap.objs.size := ⟨_, rfl⟩
    have hz2 : s2.heap.objs.size = z := by rw [F2.size, hzz]
    rw [hz2] at he hi hz ⊢
    rw [← hzz] at hLlt ⊢
    rw [← hfb]
    refine esc_loop (n := n) (t := t) (cd := cd) (cells := []) (K := _) (H := _) (gd := id) (lv := id) Rm hE (by rw [hA.scope]; decide +kernel) (by unfold interactive; rw [hA.scope]; decide +kernel) rfl ?_ x.cps.toList 0 false 0 s.toks none _ rfl hfin (Nat.zero_le _) rfl (by rw [Nat.sub_self]; rfl) s { s2 with heap := h' }
      (fun b => if b ∈ [L, z + 1, z] then none else h'.get? b) (fun b o hb e => ?_) ⟨fun b o e => ?_, fun p hp => ?_, fun p hp => ?_, ?_, F2.gens, F2.os⟩
    · intro p tp co
      refine sg_cons ?_
      refine sg_if (n := n) (by rw [← hfb] at hR; exact hR) fun O B G => ?_
      tbr_iter "go*"
      refine ⟨BLe.refl _, rfl, ?_⟩
      rw [if_neg (by decide)]
      refine sg_nil ?_
      refine sg_nil ?_
      exact sg_end
    · rw [if_neg hb]
      exact hk b o (F2.keep b o (fun q => hb (by rw [q]; simp)) e)
    · split at e
      · cases e
      · exact e
    · simp only [List.mem_cons, List.not_mem_nil, or_false] at hp
      rcases hp with rfl | rfl | rfl
      · exact ⟨_, he, .none, rfl⟩
      · obtain ⟨o, e1, e2, e3⟩ := hi
        refine ⟨o, e1, ?_, e3⟩
        rw [e2]
        unfold strIterType
        rw [if_pos (show (x.cps.all fun x => decide (x < 128)) = true from hx)]
      · obtain ⟨o, e1, e2⟩ := F2.fr
        exact ⟨o, hk _ _ e1, e2⟩
    · simp only [List.mem_cons, List.not_mem_nil, or_false] at hp
      rcases hp with rfl | rfl | rfl <;> simp
    · simp only [List.map_cons, List.map_nil, List.nodup_cons, List.mem_cons, List.not_mem_nil, or_false, not_or, List.nodup_nil, and_true, not_false_eq_true]
      refine ⟨⟨Nat.succ_ne_self _, fun q => ?_⟩, fun q => ?_⟩
      · rw [← q] at hLlt; exact absurd hLlt (Nat.not_lt.mpr (Nat.le_succ _))
      · rw [← q] at hLlt; exact absurd hLlt (Nat.lt_irrefl _)
  · intro p hp
    simp only [List.mem_cons, List.not_mem_nil, or_false] at hp
    subst hp; simp
  · intro a ha
    simp only [List.mem_cons, List.not_mem_nil, or_false] at ha
    have none' : ∀ a, s.heap.objs.size ≤ a → s.heap.get? a = none := fun a h => Heap.get?_none_of_le h
    rcases ha with rfl | rfl | rfl
    · exact .inl (by simp)
    · exact .inr (none' _ (by tbr_iter "om"))
    · exact .inr (none' _ (by tbr_iter "om"))
  · have hLlt : L < s.heap.objs.size := by obtain ⟨o, e, _⟩ := hv _ (List.mem_cons_self ..); exact Heap.lt_size e
    simp only [List.nodup_cons, List.mem_cons, List.not_mem_nil, or_false, not_or, List.nodup_nil, and_true, not_false_eq_true]
    refine ⟨⟨?_, ?_⟩, ?_⟩
    · intro q; rw [q] at hLlt; exact absurd hLlt (Nat.not_lt.mpr (Nat.le_succ _))
    · intro q; rw [q] at hLlt; exact absurd hLlt (Nat.lt_irrefl _)
    · exact Nat.succ_ne_self _

/-- the generator is made -/
theorem iter_escaped {O : OsState} {v : Vol} {x : Str} {t : Tok} {Q : Post Value} (hT : TopB B) (hx : Ascii x) (hfin : finFl false x.cps.toList = false)
    (h : ∀ ga g G' B' vg, BLe B B' → genB B' ga g → (Bare G → Bare G') → (∀ n A, Room (n + 1) A → GWill prg w A (esc false 0 0 x.cps.toList) 0 g G' B' vg) → vg.length = 1 → Q (.ref ga) B' G' (vg ++ v)) :
    Ok prg w O (n + 1) B G v (call (.ref 99) [.str x t]) Q := fun A s R S => by
  obtain ⟨r, hF⟩ := hT.f14
  obtain ⟨o, ho, hd⟩ := hF.obj
  refine wpAny_call (codeAny_call_generator (fd := fdOf 14 .none .none r) (body := bodyAt 14) R.room (S.keep _ _ ho) hd (by show (scopeAt 14).isCoroutine = false; decide +kernel) (by show (scopeAt 14).isGenerator = true; decide +kernel) rfl (hF.code _ S.keep) ?_)
  refine wpAny_of_eq (a := [(Str.ofString "addr", Value.str x t)]) rfl ?_
  refine wpAny_newFunctionEnv (by show ∀ y ∈ (scopeAt 14).names, y.2 ≠ .cell; decide +kernel) (fun y hy => ?_) (fun h' hn hs => ?_) (by show (scopeAt 14).kind = .function; decide +kernel)
  · simp only [List.mem_cons, List.not_mem_nil, or_false] at hy
    subst hy
    show (scopeAt 14).names.lookup (Str.ofString "addr") = some .local
    decide +kernel
  have hk : ∀ b o, s.heap.get? b = some o → h'.get? b = some o := fun b o e => hs.extBut b o (Nat.ne_of_lt (Heap.lt_size e)) (Heap.get?_push_of_some _ e)
  obtain ⟨f1, f2⟩ := S.fresh
  have hsz : h'.objs.size = s.heap.objs.size + 1 := by rw [hs.1, Heap.size_push]
  refine ⟨(hF.lim.mono (BLe.refl _)) _ fun b o e => hk _ _ (S.keep b o e), ?_⟩
  -- the frame is new, the generator's object is laid down
  have S1 : St O B G ((s.heap.objs.size, rFr gNs [some (.str x t), none, none, none]) :: v) { s with heap := h' } := by
    have S0 := S.extAll hk s.toks
    refine ⟨S0.keep, fun p hp => ?_, fun p hp => ?_, ?_, S0.gens, S0.os⟩
    · rcases List.mem_cons.mp hp with rfl | hp
      · obtain ⟨o, e, q⟩ := of_ns hn
        refine ⟨o, e, ⟨by decide +kernel, rfl⟩, ?_⟩
        have : (fun y => ([(Str.ofString "addr", Value.str x t)] : List (Str × Value)).reverse.lookup y) = fget gNs [some (.str x t), none, none, none] := by
          rw [fromBinds_get [(Str.ofString "addr", Value.str x t)] (by show ([Str.ofString "addr"] : List Str).Nodup; decide +kernel) gNs (fun y hy => by simp at hy; subst hy; exact List.mem_cons_self ..)]
          congr 1
        rw [← this]; exact q
      · exact S0.res p hp
    · rcases List.mem_cons.mp hp with rfl | hp
      · exact f1
      · exact S0.off p hp
    · rw [List.map_cons, List.nodup_cons]
      refine ⟨fun hm => ?_, S0.nd⟩
      obtain ⟨p, hp, e⟩ := List.mem_map.mp hm
      exact f2 p hp e
  obtain ⟨g1, g2⟩ := S1.fresh
  obtain ⟨k1, k2⟩ := S1.pushB ({ cls := .type "generator", data := .fields #[.int s.gens.size 0, .str (nameAt 14) (s.toks + 1), .str (nameAt 14) (s.toks + 1 + 1)] } : Obj) rfl (s.toks + 1 + 1 + 1)
  have hgs := S.gens
  have hBare : Bare G → Bare (G.push (.fresh (.func (bodyAt 14) (newEnv (scopeAt 14) s.heap.objs.size mainGlobals [] (nameAt 14 ++ ".<locals>.") (some 99) r.cd none builtinsNs)))) := fun hB y hy => by
    rcases Array.mem_push.mp hy with hy | rfl
    · exact hB y hy
    · rfl
  have hoffL : (B.add h'.objs.size ({ cls := .type "generator", data := .fields #[.int s.gens.size 0, .str (nameAt 14) (s.toks + 1), .str (nameAt 14) (s.toks + 1 + 1)] } : Obj)) s.heap.objs.size = none := k2.off (s.heap.objs.size, rFr gNs [some (.str x t), none, none, none]) (List.mem_cons_self ..)
  refine ⟨_, _, _, ⟨k2.keep, k2.res, k2.off, k2.nd, rfl, k2.os⟩, h _ s.gens.size _ _ [(s.heap.objs.size, rFr gNs [some (.str x t), none, none, none])] k1 ⟨_, _, _, Base.add_self .., rfl, rfl, rfl⟩ ?_ (fun n A R => ?_) rfl⟩
  · show Bare G → Bare (s.gens.push _)
    rw [hgs]; exact hBare
  · refine gen_fresh (n := n) (cd := r.cd) (env := newEnv (scopeAt 14) s.heap.objs.size mainGlobals [] (nameAt 14 ++ ".<locals>.") (some 99) r.cd none builtinsNs) R (hT.mono k1) hoffL ⟨rfl, rfl, rfl, rfl, rfl, rfl, rfl⟩ hx hfin ?_
    show (s.gens.push _)[s.gens.size]? = _
    rw [Array.getElem?_push_size]
    rfl
end
-- part Gen5
theorem St.perm {O : OsState} {B : Base} {G : Array GenState} {v v' : Vol} {s : Shared} (S : St O B G v s) (h : v.Perm v') : St O B G v' s :=
  ⟨S.keep, fun p hp => S.res p (h.mem_iff.mpr hp), fun p hp => S.off p (h.mem_iff.mpr hp), (h.map _).nodup_iff.mp S.nd, S.gens, S.os⟩

section
variable (prog : Program) (w : World) (O : OsState) (A : Around)
def OkCA (n : Nat) (B : Base) (G : Array GenState) (v : Vol) (c : Code) (R : Post Flow) : Prop :=
  ∀ s, Room n A → St O B G v s → codeAny (model prog w) A c (fun r s' => match r with | .ok f => ∃ B' G' v', St O B' G' v' s' ∧ R f B' G' v' | .error _ => False) s
def TurnA (n : Nat) (c : Code) (R : Post Flow) (f : Flow) (B : Base) (G : Array GenState) (v : Vol) : Prop :=
  match f with
  | .next | .cont => OkCA prog w O A n B G v c R
  | .brk => R .next B G v
  | .ret x => R (.ret x) B G v
end
section
variable {prog : Program} {w : World} {O : OsState} {n : Nat} {B : Base} {G : Array GenState} {v : Vol} {env : Env} {A : Around}
theorem OkC.fix {c : Code} {R : Post Flow} (h : ∀ A, Room n A → OkCA prog w O A n B G v c R) : OkC prog w O n B G v c R := fun A s Rm S => h A Rm s Rm S
theorem OkCA.ind {c : Code} {R : Post Flow} (I : Nat → Base → Array GenState → Vol → Prop)
    (step : ∀ k B G v, I k B G v → (∀ j B' G' v', j < k → I j B' G' v' → OkCA prog w O A n B' G' v' c R) → OkCA prog w O A n B G v c R) : ∀ k {B G v}, I k B G v → OkCA prog w O A n B G v c R := by
  intro k
  induction k using Nat.strongRecOn with
  | ind k ih => intro B G v h; exact step k B G v h fun j B' G' v' hj h' => ih j hj h'
theorem TurnA.next {c : Code} {R : Post Flow} (h : OkCA prog w O A n B G v c R) : TurnA prog w O A n c R .next B G v := h

theorem OkCA.for_gen {elts : List Expr} {ke : Nat} {pe : Pos} {ga : Addr} {b o : List Stmt} {its : List (Nat × Str)} {k g : Nat} {vg : Vol} {R : Post Flow} (hlim : Stb B fun h => h.NoLimit) (hg : genB B ga g) (hw : GWill prog w A its k g G B vg)
    (hitem : ∀ a p c t1 t2 B' G' vg', its[k]? = some (p, c) → BLe B B' → tupB B' a [.int (p : Nat) t1, .str c t2] → GWill prog w A its (k + 1) g G' B' vg' → (Bare G → Bare G') →
      Ok prog w O (n + 1) B' G' (v ++ vg') (assign (.Tuple elts ke pe) env (.ref a)) fun _ B3 G3 v3 => Ok prog w O (n + 1) B3 G3 v3 (execs b env) (TurnA prog w O A (n + 1) (.forLoop (.Tuple elts ke pe) (.ref ga) b o env) R))
    (hdone : its.length ≤ k → ∀ G', (Bare G → Bare G') → Ok prog w O (n + 1) B G' v (execs o env) R) :
    OkCA prog w O A (n + 1) B G (v ++ vg) (.forLoop (.Tuple elts ke pe) (.ref ga) b o env) R := fun s Rm S => by
  have S := S.perm List.perm_append_comm
  refine codeAny_of_tree ?_
  rw [Around.under_of_weight (by rfl) (by rfl)]
  show wpAny _ _ ((forTurn (.Tuple elts ke pe) (.ref ga) b o env).onRaise (fun x => do noteFrame x env; theTreesLotGoes x)) _ _ s
  refine wpAny_noted ?_
  simp only [forTurn]
  refine wpAny_bind (wpAny_standAt (wpAny_bind (wpAny_onRaise (wpAny_mono (next_gen Rm hlim S hg hw) (fun r s1 h1 => ?_) fun _ _ x => x))))
  rcases h1 with ⟨a, p, c, t1, t2, B', G', vg', rfl, hi, hle, ha, hw', hB, S1⟩ | ⟨hk, rfl, G', hB, S1⟩
  · have S1 := S1.perm List.perm_append_comm
    refine wpAny_bind (wpAny_mono (Ok.own_gen (n := n) (Q := fun _ B2 G2 v2 => B2 = B' ∧ G2 = G' ∧ v2 = v ++ vg') (hg.mono hle) ⟨rfl, rfl, rfl⟩ A s1 (Rm.le (Nat.le_succ _)) S1) (fun _ s2 ⟨B2, G2, v2, S2, e1, e2, e3⟩ => ?_) fun _ _ x => x.elim)
    subst e1 e2 e3
    refine wpAny_bind (Ok.go (hitem a p c t1 t2 _ _ vg' hi hle ha hw' hB) Rm S2 (fun _ s3 B3 G3 v3 S3 h3 => ?_))
    refine wpAny_bind (Ok.go h3 Rm S3 (fun f s4 B4 G4 v4 S4 h4 => ?_))
    cases f with
    | next => exact wpAny_pure ⟨rfl, h4 s4 Rm S4⟩
    | cont => exact wpAny_pure ⟨rfl, h4 s4 Rm S4⟩
    | brk => exact wpAny_pure ⟨_, _, _, S4, h4⟩
    | ret x => exact wpAny_pure ⟨_, _, _, S4, h4⟩
  · exact wpAny_pure ⟨rfl, codeAny_block (wpAny_mono (hdone hk G' hB A s1 Rm S1) (fun f s2 x => x) fun _ _ x => x.elim)⟩
end

section
variable {prog : Program} {w : World} {O : OsState} {n : Nat} {B : Base} {G : Array GenState} {v : Vol}
theorem Ok.perm {α : Type} {v' : Vol} {t : Sem α} {Q : Post α} (hp : v.Perm v') (h : Ok prog w O n B G v' t Q) : Ok prog w O n B G v t Q := fun A s R S => h A s R (S.perm hp)
theorem Ok.iter_gen {ga : Addr} {g : Nat} {Q : Post Value} (hg : genB B ga g) (h : Q (.ref ga) B G v) : Ok prog w O n B G v (pyIter (.ref ga)) Q := fun A s R S => by
  obtain ⟨o, nm, qn, e, r⟩ := hg
  exact wpAny_pyIter_gen (g := g) ⟨o, nm, qn, S.keep _ _ e, r⟩ ⟨_, _, _, S, h⟩
end
/-! ### do the brackets close -/
def closeB : Int → List (Nat × Str) → Bool
  | o, [] => decide (o = 0)
  | o, (_, c) :: r => if (c == Str.ofString "(") = true then closeB (o + 1) r else if (c == Str.ofString ")") = true then (if o - 1 < 0 then false else closeB (o - 1) r) else closeB o r

section
variable {w : World} {O : OsState} {n : Nat} {B : Base} {G : Array GenState} {v : Vol} {Q : Post Value}
theorem check_parenthesis {x y : Str} {t : Tok} (hT : TopB B) (hy : Ascii y) (hfy : finFl false y.cps.toList = false)
    (hstrip : ∀ (n : Nat) (B : Base) (G : Array GenState) (v : Vol) (Q : Post Value) (t : Tok), TopB B → (∀ B' G' t', BLe B B' → (Bare G → Bare G') → Q (.str y t') B' G' v) → Ok prg w O (n + 3) B G v (call (.ref 106) [.str x t]) Q)
    (h : ∀ B' G', BLe B B' → (Bare G → Bare G') → Q (.bool (closeB 0 (esc false 0 0 y.cps.toList))) B' G' v) :
    Ok prg w O (n + 4) B G v (call (.ref 113) [.str x t]) Q := by
  obtain ⟨r, hF⟩ := hT.f16
  refine Ok.call_defS (n := n + 3) hF ["addr"] ["opens", "pos", "ch"] [.str x t] (ns := ["addr", "opens", "pos", "ch"]) (vs := [some (.str x t), none, none, none]) (fun s S => .of_eq rfl) (by decide +kernel) rfl rfl rfl fun L env hA => ?_
  have hE := hA.is ["addr", "opens", "pos", "ch"] ["_strip_quoted_realnames", "_iter_escaped_chars"] (by decide +kernel) (by decide +kernel)
  conv in (bodyAt 16) => whnf
  tbr_iter "go*"
  refine Ok.call_fn (f := 106) ?_
  tbr_iter "go*"
  refine ⟨rfl, ?_⟩
  tbr_iter "go*"
  refine ⟨let ⟨r, e⟩ := hT.f15; e.fnB, ?_⟩
  refine hstrip n _ _ _ _ _ hT fun B1 G1 t1 hle1 hB1 => ?_
  have hT1 := hT.mono hle1
  tbr_iter "go*"
  refine Ok.call_fn (f := 99) ?_
  tbr_iter "go*"
  refine ⟨rfl, ?_⟩
  tbr_iter "go*"
  refine ⟨let ⟨r, e⟩ := hT1.f14; e.fnB, ?_⟩
  refine Ok.room (m := n + 3) (iter_escaped (n := n + 2) hT1 hy hfy fun ga g G2 B2 vg hle2 hga hB2 hw hvg => ?_) (Nat.le_refl _)
  refine Ok.perm List.perm_append_comm ?_
  refine Ok.iter_gen hga ?_
  obtain ⟨its, hits⟩ : ∃ its, its = esc false 0 0 y.cps.toList := ⟨_, rfl⟩
  rw [← hits] at hw h
  refine OkC.fix fun A hA' => ?_
  have hT2 := hT1.mono hle2
  refine OkCA.ind (fun m B' G' v' => BLe B2 B' ∧ (Bare G2 → Bare G') ∧ ∃ (k : Nat) (op : Int) (tk : Tok) (po co : Option Value) (vg' : Vol), m = its.length - k ∧ k ≤ its.length ∧ GWill prg w A its k g G' B' vg' ∧ closeB op (its.drop k) = closeB 0 its ∧
    v' = (L, rFr ["addr", "opens", "pos", "ch"] [some (.str y t1), some (.int op tk), po, co]) :: v ++ vg') ?_ its.length ⟨BLe.refl _, id, 0, 0, _, _, _, vg, rfl, Nat.zero_le _, hw (n + 2) A hA', rfl, rfl⟩
  rintro m B' G' v' ⟨hle, hB, k, op, tk, po, co, vg', rfl, hk, hw', hcl, rfl⟩ ih
  have hle02 := hle1.trans hle2
  have hB02 : Bare G → Bare G' := fun x => hB (hB2 (hB1 x))
  refine OkCA.for_gen (n := n + 2) (noLim (hT2.mono hle)) (hga.mono hle) hw' (fun a p c u1 u2 B3 G3 vg3 hi hle3 ha hw3 hB3 => ?_) fun hkl G3 hB3 => ?_
  · have hkl : k < its.length := by
      rcases Nat.lt_or_ge k its.length with h | h
      · exact h
      · rw [List.getElem?_eq_none h] at hi; cases hi
    have hdrop : its.drop k = (p, c) :: its.drop (k + 1) := by
      rw [List.drop_eq_getElem_cons hkl]
      rw [List.getElem?_eq_getElem hkl] at hi
      injection hi with hi
      rw [hi]
    rw [hdrop, closeB] at hcl
    refine Ok.unpack2 ha ?_
    simp only [List.cons_append]
    tbr_iter "go*"
    refine Ok.eq_str ?_
    tbr_iter "go*"
    refine if_spb (fun hc => ?_) (fun hc => ?_)
    · rw [if_pos hc] at hcl
      tbr_iter "go*"
      exact ih (its.length - (k + 1)) _ _ _ (by tbr_iter "om") ⟨hle.trans hle3, fun x => hB3 (hB x), k + 1, _, _, _, _, vg3, rfl, by tbr_iter "om", hw3, hcl, rfl⟩
    · rw [if_neg (by rw [hc]; exact Bool.false_ne_true)] at hcl
      tbr_iter "go*"
      refine Ok.eq_str ?_
      tbr_iter "go*"
      refine if_spb (fun hc2 => ?_) (fun hc2 => ?_)
      · rw [if_pos hc2] at hcl
        tbr_iter "go*"
        refine if_sp (fun hneg => ?_) (fun hneg => ?_)
        · rw [if_pos hneg] at hcl
          tbr_iter "go*"
          refine ⟨v, .cons _ (List.sublist_append_left v vg3), ?_⟩
          have := h B3 G3 (hle02.trans (hle.trans hle3)) fun x => hB3 (hB02 x)
          rw [← hcl] at this
          exact this
        · rw [if_neg hneg] at hcl
          tbr_iter "go*"
          exact ih (its.length - (k + 1)) _ _ _ (by tbr_iter "om") ⟨hle.trans hle3, fun x => hB3 (hB x), k + 1, _, _, _, _, vg3, rfl, by tbr_iter "om", hw3, hcl, rfl⟩
      · rw [if_neg (by rw [hc2]; exact Bool.false_ne_true)] at hcl
        tbr_iter "go*"
        exact ih (its.length - (k + 1)) _ _ _ (by tbr_iter "om") ⟨hle.trans hle3, fun x => hB3 (hB x), k + 1, _, _, _, _, vg3, rfl, by tbr_iter "om", hw3, hcl, rfl⟩
  · rw [List.drop_of_length_le hkl, closeB] at hcl
    tbr_iter "go*"
    refine ⟨v, .cons _ (.refl _), ?_⟩
    have := h B' G3 (hle02.trans hle) fun x => hB3 (hB02 x)
    rw [← hcl] at this
    exact this
end
local macro_rules | `(tactic| tbr_iter "go") => `(tactic| first
  | with_reducible refine TurnA.next ?_)
-- part Gen6
section
variable {prog : Program} {w : World} {O : OsState} {n : Nat} {B : Base} {G : Array GenState} {v : Vol} {env : Env} {x y : Str} {t u : Tok} {Q : Post Value}
theorem Ok.notin_one {c : Nat} (h : Q (.bool (!decide (c ∈ x.cps.toList))) B G v) : Ok prog w O n B G v (compareOp .NotIn (.str ⟨#[c]⟩ u) (.str x t)) Q := fun A s R S =>
  PyProof.Rows.notIn_str ⟨B, G, v, S, by rw [PySem.StrLaws.found_one]; exact h⟩
theorem Ok.len_str (hz : x.length < 1000000) (h : ∀ k, Q (.int (x.length : Nat) k) B G v) : Ok prog w O n B G v (call (.builtin "len") [.str x t]) Q := fun A s R S =>
  PySem.P.len_str (by tbr_iter "om") ⟨B, G, v, S.toks _, h _⟩
abbrev oInt : Option (Int × Tok) → Option Int := fun o => o.map (·.1)
theorem Ok.sub_str {value slice : Expr} {sl : Addr} {vl vu : Value} {lo hi : Option (Int × Tok)} {ops : List Value} (lo' hi' : Option Int) (hs : slcB B sl vl vu .none) (e1 : vl = partValue lo) (e2 : vu = partValue hi) (f1 : lo.map (·.1) = lo') (f2 : hi.map (·.1) = hi') (hz : x.length ≤ sizeLine)
    (h : ∀ k, Q (.str (Txt.slice x lo' hi') k) B G v) (ho : subscripted slice false (.str x t) (.ref sl) = operate ops (getItem (.str x t) (.ref sl))) (hg : ∀ r, letTemporaryGo value (.str x t) r = pure ()) :
    Ok prog w O n B G v (subscriptTail value slice (.str x t) (.ref sl)) Q := fun A s R S => by
  refine tail_any (typeIs_str s x t) PySem.F.slot_str_getitem.lookup (wpAny_getItem_str_slice (l := lo) (u := hi) (st := none) ⟨_, S.keep _ _ hs, rfl, by rw [e1, e2]; rfl⟩ rfl ?_) ho
  refine post_val_or_str ⟨Nat.le_trans (Txt.slice_le x _ _) hz, fun t' k => ?_⟩
  subst f1 f2
  exact ⟨B, G, v, S.toks _, h _⟩
def StrV (v : Value) (x : Str) : Prop := ∃ t, v = .str x t
abbrev StrsV := All2 StrV
theorem StrsV.are {vs : List Value} {ys : List Str} (h : StrsV vs ys) : StrsAre vs ys := by
  induction h with
  | nil => exact .nil
  | cons hx _ ih => obtain ⟨t, rfl⟩ := hx; exact .cons _ t ih
theorem Ok.join_list {l : Addr} {xs : List Value} {ys : List Str} (hl : LstAt B v l xs) (hi : StrsV xs ys) (hok : (ys.map (·.length)).sum + ys.length * x.length ≤ 16777216) (h : ∀ k, Q (.str (Txt.join x ys) k) B G v) :
    Ok prog w O n B G v (call (.builtin "str.join") [.str x t, .ref l]) Q := fun A s R S =>
  PyProof.Rows.join_list (isList_of (hl.at S)) (by simpa using hi.are) hok fun t' k => ⟨B, G, v, S.toks _, h _⟩
end
theorem sum_le {ys : List Str} {M : Nat} (h : ∀ y ∈ ys, y.length ≤ M) : (ys.map (·.length)).sum ≤ ys.length * M := by
  induction ys with
  | nil => simp
  | cons y ys ih =>
    rw [List.map_cons, List.sum_cons, List.length_cons, Nat.add_mul, Nat.one_mul]
    have h1 := h y List.mem_cons_self
    have h2 := ih fun z hz => h z (List.mem_cons_of_mem _ hz)
    (first | lia | omega)

/-! ### what lies between marks is left out -/
abbrev quo : Str := Str.ofString "\""
def qs (x : Str) : Nat → Option Nat → List (Nat × Str) → List Str
  | st, _, [] => if st < x.length then [Txt.slice x (some (st : Int)) none] else []
  | st, op, (p, c) :: r => if (c == quo) = true then (match op with
      | none => qs x st (some p) r
      | some o => (if st ≠ o then [Txt.slice x (some (st : Int)) (some (o : Int))] else []) ++ qs x (p + 1) none r)
    else qs x st op r
theorem qs_cons (x : Str) (st : Nat) (op : Option Nat) (p : Nat) (c : Str) (r : List (Nat × Str)) : qs x st op ((p, c) :: r) = if (c == quo) = true then (match op with
      | none => qs x st (some p) r
      | some o => (if st ≠ o then [Txt.slice x (some (st : Int)) (some (o : Int))] else []) ++ qs x (p + 1) none r)
    else qs x st op r := by
  cases op <;> rfl
theorem qs_nil (x : Str) (st : Nat) (op : Option Nat) : qs x st op [] = if st < x.length then [Txt.slice x (some (st : Int)) none] else [] := by
  cases op <;> rfl
def stripOf (x : Str) : Str := if 34 ∈ x.cps.toList then Txt.join (Str.ofString "") (qs x 0 none (esc false 0 0 x.cps.toList)) else x
def opVal : Option Nat → Tok → Value
  | none, _ => .none
  | some o, t => .int (o : Nat) t

section
variable {w : World} {O : OsState} {n : Nat} {B : Base} {G : Array GenState} {v : Vol} {Q : Post Value}
theorem esc_len : ∀ (l : List Nat) (fl : Bool) (p i : Nat), (esc fl p i l).length ≤ l.length + 1
  | [], fl, p, i => by unfold esc; split <;> simp
  | c :: l, true, p, i => by have := esc_len l false i (i + 1); simp only [esc, List.length_cons]; (first | lia | omega)
  | c :: l, false, p, i => by
    unfold esc
    split
    · have := esc_len l true i (i + 1); simp only [List.length_cons]; (first | lia | omega)
    · have := esc_len l false i (i + 1); simp only [List.length_cons]; (first | lia | omega)
set_option maxHeartbeats 2000000 in
theorem strip_quoted {x : Str} {t : Tok} (hT : TopB B) (hx : Ascii x) (hfx : finFl false x.cps.toList = false) (hlen : x.length ≤ 1000)
    (h : ∀ B' G' t', BLe B B' → (Bare G → Bare G') → Q (.str (stripOf x) t') B' G' v) :
    Ok prg w O (n + 3) B G v (call (.ref 106) [.str x t]) Q := by
  obtain ⟨r, hF⟩ := hT.f15
  refine Ok.call_defS (n := n + 2) hF ["addr"] ["start", "open_pos", "result", "pos", "ch"] [.str x t] (ns := ["addr", "start", "open_pos", "result", "pos", "ch"]) (vs := [some (.str x t), none, none, none, none, none]) (fun s S => .of_eq rfl) (by decide +kernel) rfl rfl rfl fun L env hA => ?_
  have hE := hA.is ["addr", "start", "open_pos", "result", "pos", "ch"] ["_iter_escaped_chars", "len"] (by decide +kernel) (by decide +kernel)
  conv in (bodyAt 15) => whnf
  tbr_iter "go*"
  refine Ok.notin_one (c := 34) ?_
  tbr_iter "go*"
  by_cases hq : 34 ∈ x.cps.toList
  · rw [decide_eq_true hq]
    tbr_iter "go*"
    refine Ok.listd ?_
    tbr_iter "go*"
    refine ⟨Nat.le_of_ble_eq_true rfl, fun ra => ?_⟩
    tbr_iter "go*"
    refine Ok.call_fn (f := 99) ?_
    tbr_iter "go*"
    refine ⟨rfl, ?_⟩
    tbr_iter "go*"
    refine ⟨let ⟨r, e⟩ := hT.f14; e.fnB, ?_⟩
    refine Ok.room (m := n + 2) (iter_escaped (n := n + 1) hT hx hfx fun ga g G2 B2 vg hle2 hga hB2 hw hvg => ?_) (Nat.le_refl _)
    refine Ok.perm List.perm_append_comm ?_
    refine Ok.iter_gen hga ?_
    obtain ⟨its, hits⟩ : ∃ its, its = esc false 0 0 x.cps.toList := ⟨_, rfl⟩
    have hitl : its.length ≤ 1001 := by
      rw [hits]
      have := esc_len x.cps.toList false 0 0
      have h3 : x.cps.toList.length = x.length := Array.length_toList
      (first | lia | omega)
    have hst : stripOf x = Txt.join (Str.ofString "") (qs x 0 none its) := by unfold stripOf; rw [if_pos hq, hits]
    rw [← hits] at hw
    rw [hst] at h
    refine OkC.fix fun A hA' => ?_
    have hT2 := hT.mono hle2
    refine OkCA.ind (fun m B' G' v' => BLe B2 B' ∧ (Bare G2 → Bare G') ∧ ∃ (k st : Nat) (op : Option Nat) (ts to : Tok) (rs : List Value) (acc : List Str) (po co : Option Value) (vg' : Vol), m = its.length - k ∧ k ≤ its.length ∧ GWill prg w A its k g G' B' vg' ∧
      acc ++ qs x st op (its.drop k) = qs x 0 none its ∧ StrsV rs acc ∧ acc.length ≤ k ∧ (∀ y ∈ acc, y.length ≤ 1000) ∧
      v' = (ra, rList rs) :: (L, rFr ["addr", "start", "open_pos", "result", "pos", "ch"] [some (.str x t), some (.int (st : Nat) ts), some (opVal op to), some (.ref ra), po, co]) :: v ++ vg') ?_ its.length
      ⟨BLe.refl _, id, 0, 0, none, _, 0, [], [], _, _, vg, rfl, Nat.zero_le _, hw (n + 1) A hA', rfl, .nil, Nat.zero_le _, by simp, rfl⟩
    rintro m B' G' v' ⟨hle, hB, k, st, op, ts, to, rs, acc, po, co, vg', rfl, hk, hw', hcl, hrs, hac, hay, rfl⟩ ih
    have hB02 : Bare G → Bare G' := fun x => hB (hB2 x)
    have hrl := hrs.length
    have hTt := hT2.mono hle
    refine OkCA.for_gen (n := n + 1) (noLim hTt) (hga.mono hle) hw' (fun a p c u1 u2 B3 G3 vg3 hi hle3 ha hw3 hB3 => ?_) fun hkl G3 hB3 => ?_
    · have hkl : k < its.length := by
        rcases Nat.lt_or_ge k its.length with h | h
        · exact h
        · rw [List.getElem?_eq_none h] at hi; cases hi
      have hdrop : its.drop k = (p, c) :: its.drop (k + 1) := by
        rw [List.drop_eq_getElem_cons hkl]
        rw [List.getElem?_eq_getElem hkl] at hi
        injection hi with hi
        rw [hi]
      rw [hdrop, qs_cons] at hcl
      refine Ok.unpack2 ha ?_
      simp only [List.cons_append]
      tbr_iter "go*"
      refine Ok.eq_str ?_
      tbr_iter "go*"
      refine if_spb (fun hc => ?_) (fun hc => ?_)
      · rw [if_pos hc] at hcl
        rcases op with _ | o
        · dsimp only at hcl
          simp only [opVal]
          tbr_iter "go*"
          exact ih (its.length - (k + 1)) _ _ _ (by tbr_iter "om") ⟨hle.trans hle3, fun x => hB3 (hB x), k + 1, st, some p, _, _, _, acc, _, _, vg3, rfl, by tbr_iter "om", hw3, hcl, hrs, by tbr_iter "om", hay, rfl⟩
        · dsimp only at hcl
          simp only [opVal]
          tbr_iter "go*"
          refine if_sp (fun hne => ?_) (fun hne => ?_)
          · have hne' : st ≠ o := by tbr_iter "om"
            rw [if_pos hne', ← List.append_assoc] at hcl
            tbr_iter "go*"
            refine Ok.method PySem.F.plainAttrs_list PySem.F.slot_list_append PySem.F.type_list_append rfl rfl rfl rfl ?_
            tbr_iter "go*"
            refine ⟨LstAt.meth (.inl (by tbr_iter "has")), ?_⟩
            tbr_iter "go*"
            intro sl B4 hle4 hsl
            refine Ok.sub_str (lo := some (_, _)) (hi := some (_, _)) (some (st : Int)) (some (o : Int)) hsl rfl rfl rfl rfl (by have : sizeLine = 2 ^ 24 := rfl; (first | lia | omega)) (fun k4 => ?_) rfl (fun _ => rfl)
            tbr_iter "go*"
            refine Ok.list_append (by tbr_iter "upd") (by have : sizeLine = 2 ^ 24 := rfl; (first | lia | omega)) ?_
            refine ⟨nofun, ?_⟩
            tbr_iter "go*"
            refine ih (its.length - (k + 1)) _ _ _ (by tbr_iter "om") ⟨hle.trans (hle3.trans hle4), fun x => hB3 (hB x), k + 1, p + 1, none, _, 0, _, acc ++ [Txt.slice x (some (st : Int)) (some (o : Int))], _, _, vg3, rfl, by tbr_iter "om", hw3.mono hle4, hcl, hrs.snoc ⟨k4, rfl⟩, by rw [List.length_append]; simp only [List.length_cons, List.length_nil]; (first | lia | omega), ?_, rfl⟩
            intro y hy
            rcases List.mem_append.mp hy with hy | hy
            · exact hay y hy
            · simp only [List.mem_cons, List.not_mem_nil, or_false] at hy
              subst hy
              exact Nat.le_trans (Txt.slice_le x _ _) hlen
          · have hne' : ¬ st ≠ o := by tbr_iter "om"
            rw [if_neg hne', List.nil_append] at hcl
            tbr_iter "go*"
            exact ih (its.length - (k + 1)) _ _ _ (by tbr_iter "om") ⟨hle.trans hle3, fun x => hB3 (hB x), k + 1, p + 1, none, _, 0, _, acc, _, _, vg3, rfl, by tbr_iter "om", hw3, hcl, hrs, by tbr_iter "om", hay, rfl⟩
      · rw [if_neg (by rw [hc]; exact Bool.false_ne_true)] at hcl
        tbr_iter "go*"
        exact ih (its.length - (k + 1)) _ _ _ (by tbr_iter "om") ⟨hle.trans hle3, fun x => hB3 (hB x), k + 1, st, op, _, _, _, acc, _, _, vg3, rfl, by tbr_iter "om", hw3, hcl, hrs, by tbr_iter "om", hay, rfl⟩
    · rw [List.drop_of_length_le hkl, qs_nil] at hcl
      tbr_iter "go*"
      refine Ok.call_val (f := .builtin "len") rfl ?_
      tbr_iter "go*"
      refine ⟨rfl, ?_⟩
      tbr_iter "go*"
      refine Ok.len_str (by tbr_iter "om") fun tl => ?_
      tbr_iter "go*"
      refine if_sp (fun hne => ?_) (fun hne => ?_)
      · rw [if_pos (by tbr_iter "om")] at hcl
        tbr_iter "go*"
        refine Ok.method PySem.F.plainAttrs_list PySem.F.slot_list_append PySem.F.type_list_append rfl rfl rfl rfl ?_
        tbr_iter "go*"
        refine ⟨LstAt.meth (.inl (by tbr_iter "has")), ?_⟩
        tbr_iter "go*"
        intro sl B4 hle4 hsl
        refine Ok.sub_str (lo := some (_, _)) (hi := none) (some (st : Int)) none hsl rfl rfl rfl rfl (by have : sizeLine = 2 ^ 24 := rfl; (first | lia | omega)) (fun k4 => ?_) rfl (fun _ => rfl)
        tbr_iter "go*"
        refine Ok.list_append (by tbr_iter "upd") (by have : sizeLine = 2 ^ 24 := rfl; (first | lia | omega)) ?_
        refine ⟨nofun, ?_⟩
        tbr_iter "go*"
        refine Ok.method PySem.F.plainAttrs_str PySem.F.slot_str_join PySem.F.type_str_join rfl rfl rfl rfl ?_
        tbr_iter "go*"
        refine ⟨fun s _ => ⟨typeIs_str s _ _, nofun⟩, ?_⟩
        tbr_iter "go*"
        have hall : ∀ y ∈ acc ++ [Txt.slice x (some (st : Int)) none], y.length ≤ 1000 := fun y hy => by
          rcases List.mem_append.mp hy with hy | hy
          · exact hay y hy
          · simp only [List.mem_cons, List.not_mem_nil, or_false] at hy
            subst hy
            exact Nat.le_trans (Txt.slice_le x _ _) hlen
        refine Ok.join_list (.inl (by tbr_iter "has")) (hrs.snoc ⟨k4, rfl⟩) ?_ fun k5 => ?_
        · have h1 := sum_le hall
          rw [List.length_append] at h1 ⊢
          have h2 : (Str.ofString "").length = 0 := rfl
          rw [h2]
          simp only [List.length_cons, List.length_nil] at h1 ⊢
          (first | lia | omega)
        tbr_iter "go*"
        rw [hcl]
        exact ⟨v, .cons _ (.cons _ (.refl _)), h B4 G3 _ (hle2.trans (hle.trans hle4)) fun x => hB3 (hB02 x)⟩
      · rw [if_neg (by tbr_iter "om"), List.append_nil] at hcl
        tbr_iter "go*"
        refine Ok.method PySem.F.plainAttrs_str PySem.F.slot_str_join PySem.F.type_str_join rfl rfl rfl rfl ?_
        tbr_iter "go*"
        refine ⟨fun s _ => ⟨typeIs_str s _ _, nofun⟩, ?_⟩
        tbr_iter "go*"
        refine Ok.join_list (.inl (by tbr_iter "has")) hrs ?_ fun k5 => ?_
        · have h1 := sum_le hay
          have h2 : (Str.ofString "").length = 0 := rfl
          rw [h2]
          (first | lia | omega)
        tbr_iter "go*"
        rw [hcl]
        exact ⟨v, .cons _ (.cons _ (.refl _)), h B' G3 _ (hle2.trans hle) fun x => hB3 (hB02 x)⟩
  · rw [decide_eq_false hq]
    tbr_iter "go*"
    have : stripOf x = x := by unfold stripOf; rw [if_neg hq]
    rw [this] at h
    exact ⟨v, .cons _ (.refl _), h B G _ (BLe.refl _) id⟩
end
-- part Law0
section
variable {prog : Program} {w : World} {O : OsState} {n : Nat} {B : Base} {G : Array GenState} {v : Vol} {env : Env} {s : Shared} {h' : Heap}
theorem St.swap {v1 v1' v0 : Vol} (S : St O B G (v1 ++ v0) s) (hm : v1'.map (·.1) = v1.map (·.1)) (hk : ∀ b o, b ∉ v1.map (·.1) → s.heap.get? b = some o → h'.get? b = some o) (hr : ∀ p ∈ v1', ∃ o, h'.get? p.1 = some o ∧ p.2 o) (t : Nat) :
    St O B G (v1' ++ v0) { s with heap := h', toks := t } := by
  have nd := S.nd
  rw [List.map_append, List.nodup_append] at nd
  have hoff : ∀ a ∈ v1.map (·.1), B a = none := fun a ha => by obtain ⟨p, hp, rfl⟩ := List.mem_map.mp ha; exact S.off p (List.mem_append_left _ hp)
  refine ⟨fun b o e => hk b o (fun hb => by rw [hoff b hb] at e; cases e) (S.keep b o e), fun p hp => ?_, fun p hp => ?_, ?_, S.gens, S.os⟩
  · rcases List.mem_append.mp hp with hp | hp
    · exact hr p hp
    · obtain ⟨o, e1, e2⟩ := S.res p (List.mem_append_right _ hp)
      exact ⟨o, hk _ _ (fun hb => nd.2.2 _ hb _ (List.mem_map_of_mem hp) rfl) e1, e2⟩
  · rcases List.mem_append.mp hp with hp | hp
    · exact hoff p.1 (by rw [← hm]; exact List.mem_map_of_mem hp)
    · exact S.off p (List.mem_append_right _ hp)
  · rw [List.map_append, hm, ← List.map_append]; exact S.nd
theorem St.grow {v1 v0 : Vol} (S : St O B G v0 s) (hnd : (v1.map (·.1)).Nodup) (hf : ∀ p ∈ v1, s.heap.objs.size ≤ p.1) (hk : ∀ b o, s.heap.get? b = some o → h'.get? b = some o) (hr : ∀ p ∈ v1, ∃ o, h'.get? p.1 = some o ∧ p.2 o) (t : Nat) :
    St O B G (v1 ++ v0) { s with heap := h', toks := t } := by
  have S0 := S.extAll hk t
  have none' : ∀ p ∈ v1, s.heap.get? p.1 = none := fun p hp => Heap.get?_none_of_le (hf p hp)
  refine ⟨S0.keep, fun p hp => ?_, fun p hp => ?_, ?_, S0.gens, S0.os⟩
  · rcases List.mem_append.mp hp with hp | hp
    · exact hr p hp
    · exact S0.res p hp
  · rcases List.mem_append.mp hp with hp | hp
    · cases q : B p.1 with
      | none => rfl
      | some o => have := S.keep _ o q; rw [none' p hp] at this; cases this
    · exact S0.off p hp
  · rw [List.map_append, List.nodup_append]
    refine ⟨hnd, S0.nd, fun a ha b hb e => ?_⟩
    obtain ⟨p, hp, rfl⟩ := List.mem_map.mp ha
    obtain ⟨q, hq, rfl⟩ := List.mem_map.mp hb
    obtain ⟨o, e1, _⟩ := S.res q hq
    rw [← e, none' p hp] at e1; cases e1

/-! ### what a value carries -/
def Rd (O : OsState) (B : Base) (G : Array GenState) (v : Vol) (a : Value) (d : PyData) : Prop := ∀ s, St O B G v s → ∃ as, Reads s.heap a d as
theorem Rd.int {i : Int} {t : Tok} : Rd O B G v (.int i t) (.int i) := fun s _ => ⟨_, .int i t⟩
theorem Rd.bool {b : Bool} : Rd O B G v (.bool b) (.bool b) := fun s _ => ⟨_, .bool b⟩
theorem Rd.all {xs : List Value} {ds : List PyData} (h : All2 (Rd O B G v) xs ds) : ∀ s, St O B G v s → ∃ as, ReadsAll s.heap xs ds as := fun s S => by
  induction h with
  | nil => exact ⟨_, .nil⟩
  | cons hx _ ih =>
    obtain ⟨a, e⟩ := hx s S
    obtain ⟨as, es⟩ := ih
    exact ⟨_, .cons e es⟩
theorem Rd.list {l : Addr} {xs : List Value} {ds : List PyData} (hl : LstAt B v l xs) (h : All2 (Rd O B G v) xs ds) : Rd O B G v (.ref l) (.list ds) := fun s S => by
  obtain ⟨n, e⟩ := hl.at S
  obtain ⟨as, es⟩ := Rd.all h s S
  exact ⟨_, .list e rfl rfl es⟩
theorem Rd.tuple {l : Addr} {xs : List Value} {ds : List PyData} (hl : tupB B l xs) (h : All2 (Rd O B G v) xs ds) : Rd O B G v (.ref l) (.tuple ds) := fun s S => by
  obtain ⟨n, e⟩ := SeqAt.at (T := "tuple") (v := v) (.inr hl) S
  obtain ⟨as, es⟩ := Rd.all h s S
  exact ⟨_, .tuple e rfl rfl es⟩
theorem Rd.ints {xs : List Value} {is : List Int} (h : IntsV xs is) : All2 (Rd O B G v) xs (is.map .int) := by
  induction h with
  | nil => exact .nil
  | cons hx _ ih => obtain ⟨t, rfl⟩ := hx; exact .cons Rd.int ih
theorem Ok.ne_same {a b : Value} {d : PyData} {Q : Post Value} (ra : Rd O B G v a d) (rb : Rd O B G v b d) (hd : PySem.SeqAt.shaped d = true) (h : Q (.bool false) B G v) : Ok prog w O (n + 2) B G v (compareOp .NotEq a b) Q := fun A s R S => by
  obtain ⟨as, ea⟩ := ra s S
  obtain ⟨bs, eb⟩ := rb s S
  refine ne_dataH ea eb hd hd (by have := R.2.2; (first | lia | omega)) ?_
  rw [PySem.SeqAt.eqv_refl d (PySem.SeqAt.canLay_of_shaped hd)]
  exact ⟨B, G, v, S, h⟩

/-! ### sums -/
theorem Ok.sum_list {l : Addr} {xs : List Value} {is : List Int} {Q : Post Value} (hl : LstAt B v l xs) (hi : IntsV xs is) (h : ∀ t, Q (.int is.sum t) B G v) : Ok prog w O n B G v (call (.builtin "sum") [.ref l]) Q := fun A s R S => by
  have hx : ∃ ps : List (Int × Tok), xs = ps.map (fun p => Value.int p.1 p.2) ∧ ps.map (·.1) = is := by
    clear hl h
    induction hi with
    | nil => exact ⟨[], rfl, rfl⟩
    | cons hx _ ih =>
      obtain ⟨t, rfl⟩ := hx
      obtain ⟨ps, e1, e2⟩ := ih
      exact ⟨(_, t) :: ps, by rw [e1]; rfl, by rw [← e2]; rfl⟩
  obtain ⟨ps, rfl, rfl⟩ := hx
  have hL := isList_of (hl.at S)
  have e : (ps.map fun p => Value.int p.1 p.2).toArray = intItems ps.toArray := by simp [intItems]
  rw [e] at hL
  refine sum_intListG R.handled hL fun h' tk t' hk => ?_
  have hp : preSum (numAt ps.toArray) ps.toArray.size = (ps.map (·.1)).sum := by
    rw [preSum_eq, List.take_of_length_le (by simp)]
  rw [hp]
  exact ⟨B, G, v, S.extAll hk tk, h t'⟩

/-! ### enumerate of a list -/
theorem Ok.enum_list {l : Addr} {xs : List Value} {Q : Post Value} (hl : LstAt B v l xs) (h : ∀ e it, Q (.ref e) B G ((e, rEn it 0) :: (it, rLit l 0) :: v)) : Ok prog w O n B G v (call (.type "enumerate") [.ref l]) Q := fun A s R S => by
  refine call_enumerate_list (isList_of (hl.at S)) fun h' he hi hz hk => ?_
  have S1 := S.grow (v1 := [(s.heap.objs.size + 1, rEn s.heap.objs.size 0), (s.heap.objs.size, rLit l 0)]) (h' := h') (by simp) (fun p hp => by
    simp only [List.mem_cons, List.not_mem_nil, or_false] at hp
    rcases hp with rfl | rfl
    · exact Nat.le_succ _
    · exact Nat.le_refl _) hk (fun p hp => by
    simp only [List.mem_cons, List.not_mem_nil, or_false] at hp
    rcases hp with rfl | rfl
    · exact ⟨_, he, .none, rfl⟩
    · obtain ⟨o, e1, e2, e3⟩ := hi
      exact ⟨o, e1, e2, e3⟩) s.toks
  exact ⟨_, _, _, S1, h _ _⟩
theorem Ok.iter_enum {e it : Addr} {i : Nat} {Q : Post Value} (hh : Has v e (rEn it i)) (h : Q (.ref e) B G v) : Ok prog w O n B G v (pyIter (.ref e)) Q := fun A s R S => by
  obtain ⟨_, he, old, rfl⟩ := S.has hh
  exact wpAny_pyIter_enum (i := (i : Int)) (old := old) he ⟨_, _, _, S, h⟩
theorem Ok.next_enum_list {e it l : Addr} {xs : List Value} {x : Value} {i : Nat} {v1 v0 : Vol} {Q : Post (Option Value)} (hd1 : Del v e (rEn it i) v1) (hd2 : Del v1 it (rLit l i) v0) (hl : LstAt B v0 l xs) (hx : xs[i]? = some x)
    (h : ∀ a B' t1, BLe B B' → tupB B' a [.int (i : Nat) t1, x] → Q (some (.ref a)) B' G ((e, rEnOut it (i + 1) a) :: (it, rLit l (i + 1)) :: v0)) :
    Ok prog w O n B G v (pyNext (.ref e)) Q := fun A s R S0 => by
  have S : St O B G ([(e, rEn it i), (it, rLit l i)] ++ v0) s := by
    have S1 := S0.pull hd1
    have S2 := St.pull S1 (v' := (e, rEn it i) :: v0) (a := it) (r := rLit l i) (.there hd2)
    exact S2.pull (a := e) (r := rEn it i) (.there .here)
  obtain ⟨_, he, old, rfl⟩ := S.res (e, rEn it i) (by simp)
  obtain ⟨oi, hi1, hi2, hi3⟩ := S.res (it, rLit l i) (by simp)
  have nd := S.nd
  simp only [List.cons_append, List.nil_append, List.map_cons, List.nodup_cons, List.mem_cons, not_or] at nd
  have hL := isList_of (hl.at (S.sub (List.sublist_append_right _ v0)))
  refine wpAny_pyNext_enum_item (i := i) (old := old) he ⟨oi, hi1, hi2, hi3⟩ hL (by simpa using hx) nd.1.1 fun h' ho hs' hT hz hk => ?_
  obtain ⟨oi', k1, k2, k3⟩ := hs'
  obtain ⟨f1, f2⟩ := S.fresh
  have ST := S.swap (v1' := [(e, rEnOut it (i + 1) s.heap.objs.size), (it, rLit l (i + 1))]) (h' := h') rfl (fun b o hb x => hk b o (fun q => hb (by rw [q]; simp)) (fun q => hb (by rw [q]; simp)) x) (fun p hp => by
    simp only [List.mem_cons, List.not_mem_nil, or_false] at hp
    rcases hp with rfl | rfl
    · exact ⟨_, ho, x, rfl⟩
    · exact ⟨oi', k1, k2, k3⟩) (s.toks + 1)
  obtain ⟨b1, b2⟩ := ST.addB (a := s.heap.objs.size) f1 (fun p hp => by
    rcases List.mem_append.mp hp with hp | hp
    · simp only [List.mem_cons, List.not_mem_nil, or_false] at hp
      rcases hp with rfl | rfl
      · exact f2 (e, rEn it i) (by simp)
      · exact f2 (it, rLit l i) (by simp)
    · exact f2 p (List.mem_append_right _ hp)) hT
  exact ⟨_, _, _, b2, h _ _ s.toks b1 ⟨0, Base.add_self ..⟩⟩
theorem Ok.next_enum_list_end {e it l : Addr} {xs : List Value} {i : Nat} {v1 v0 : Vol} {Q : Post (Option Value)} (hd1 : Del v e (rEn it i) v1) (hd2 : Del v1 it (rLit l i) v0) (hl : LstAt B v0 l xs) (hx : xs[i]? = none) (h : Q none B G v0) :
    Ok prog w O n B G v (pyNext (.ref e)) Q := fun A s R S0 => by
  have S := S0.pull hd1
  obtain ⟨_, he, old, rfl⟩ := S.res _ List.mem_cons_self
  have S1 : St O B G v1 s := by
    obtain ⟨j, hj, rfl⟩ := hd1.idx
    exact S0.sub (List.eraseIdx_sublist v j)
  have S2 := S1.pull hd2
  obtain ⟨oi, hi1, hi2, hi3⟩ := S2.res _ List.mem_cons_self
  have hL := isList_of (hl.at (S2.sub (List.sublist_cons_self _ v0)))
  exact wpAny_pyNext_enum_end (i := i) R.handled he ⟨oi, hi1, hi2, hi3⟩ hL (by simpa using hx) fun h' hx' => ⟨B, G, v0, S1.gone hd2 hx' s.toks, h⟩

/-! ### zip of two lists -/
def rZip (TI TO : Addr) (f : Value) : Res := fun o => o = { cls := .type "zip", data := .fields #[f, .bool false, .bool false, .ref TI, .ref TO] }
def rPair (a b : Value) : Res := fun o => o = { cls := .type "tuple", data := .seq #[a, b] }
def rSomePair : Res := fun o => ∃ a b, o = { cls := .type "tuple", data := .seq #[a, b] }
/-- the five objects of a zip of two lists -/
def zipV (z TI TO i1 i2 l1 l2 : Addr) (f : Value) (k : Nat) : Vol := [(z, rZip TI TO f), (TO, rSomePair), (i1, rLit l1 k), (i2, rLit l2 k), (TI, rPair (.ref i1) (.ref i2))]
theorem Ok.zip_lists {l1 l2 : Addr} {xs ys : List Value} {Q : Post Value} (hl1 : LstAt B v l1 xs) (hl2 : LstAt B v l2 ys) (h : ∀ z TI TO i1 i2, Q (.ref z) B G (zipV z TI TO i1 i2 l1 l2 .none 0 ++ v)) : Ok prog w O n B G v (call (.type "zip") [.ref l1, .ref l2]) Q := fun A s R S => by
  refine call_zip_2 (isList_of (hl1.at S)) (isList_of (hl2.at S)) fun h' hz hTI hTO h1 h2 hsz hk => ?_
  have S1 := S.grow (v1 := zipV (s.heap.objs.size + 4) (s.heap.objs.size + 2) (s.heap.objs.size + 3) s.heap.objs.size (s.heap.objs.size + 1) l1 l2 .none 0) (h' := h') (by
    simp [zipV]) (fun p hp => by
    simp only [zipV, List.mem_cons, List.not_mem_nil, or_false] at hp
    rcases hp with rfl | rfl | rfl | rfl | rfl
    · exact Nat.le_add_right _ 4
    · exact Nat.le_add_right _ 3
    · exact Nat.le_refl _
    · exact Nat.le_add_right _ 1
    · exact Nat.le_add_right _ 2) hk (fun p hp => by
    simp only [zipV, List.mem_cons, List.not_mem_nil, or_false] at hp
    rcases hp with rfl | rfl | rfl | rfl | rfl
    · exact ⟨_, hz, rfl⟩
    · exact ⟨_, hTO, .none, .none, rfl⟩
    · obtain ⟨o, e1, e2, e3⟩ := h1; exact ⟨o, e1, e2, e3⟩
    · obtain ⟨o, e1, e2, e3⟩ := h2; exact ⟨o, e1, e2, e3⟩
    · exact ⟨_, hTI, rfl⟩) s.toks
  exact ⟨_, _, _, S1, h _ _ _ _ _⟩
theorem LstAt.apart {l : Addr} {xs : List Value} {v1 v0 : Vol} (hl : LstAt B v0 l xs) (S : St O B G (v1 ++ v0) s) : ∀ p ∈ v1, l ≠ p.1 := fun p hp e => by
  rcases hl with hl | ⟨m, hl⟩
  · have nd := S.nd
    rw [List.map_append, List.nodup_append] at nd
    exact nd.2.2 p.1 (List.mem_map_of_mem hp) l (List.mem_map_of_mem (f := (·.1)) hl.mem) e.symm
  · have := S.off p (List.mem_append_left _ hp)
    rw [← e, hl] at this; cases this
theorem zip_apart {z TI TO i1 i2 l1 l2 : Addr} {f : Value} {k : Nat} {xs ys : List Value} {v0 : Vol} (S : St O B G (zipV z TI TO i1 i2 l1 l2 f k ++ v0) s) (hl1 : LstAt B v0 l1 xs) (hl2 : LstAt B v0 l2 ys) : ZipApart z TI TO i1 i2 l1 l2 := by
  have nd := S.nd
  rw [List.map_append, List.nodup_append] at nd
  have nd := nd.1
  simp only [zipV, List.map_cons, List.map_nil, List.nodup_cons, List.mem_cons, List.not_mem_nil, or_false, not_or] at nd
  obtain ⟨⟨a1, a2, a3, a4⟩, ⟨b1, b2, b3⟩, ⟨c1, c2⟩, d1, _⟩ := nd
  have e1 := hl1.apart S
  have e2 := hl2.apart S
  exact ⟨Ne.symm a4, Ne.symm a1, Ne.symm a2, Ne.symm a3, Ne.symm b3, Ne.symm c2, Ne.symm d1, b1, b2, c1,
    e1 (z, _) (by simp [zipV]; exact .inl rfl), e1 (TO, rSomePair) (by simp [zipV]), e1 (i1, rLit l1 k) (by simp [zipV]), e1 (i2, rLit l2 k) (by simp [zipV]),
    e2 (z, _) (by simp [zipV]; exact .inl rfl), e2 (TO, rSomePair) (by simp [zipV]), e2 (i1, rLit l1 k) (by simp [zipV]), e2 (i2, rLit l2 k) (by simp [zipV])⟩
theorem zip_facts {z TI TO i1 i2 l1 l2 : Addr} {f : Value} {k : Nat} {v0 : Vol} (S : St O B G (zipV z TI TO i1 i2 l1 l2 f k ++ v0) s) :
    IsZip s.heap z TI TO f ∧ IsPair s.heap TI (.ref i1) (.ref i2) ∧ (∃ a b, IsPair s.heap TO a b) ∧ s.heap.IsListIter i1 l1 k ∧ s.heap.IsListIter i2 l2 k := by
  obtain ⟨_, h1, rfl⟩ := S.res (z, rZip TI TO f) (by simp [zipV])
  obtain ⟨_, h2, rfl⟩ := S.res (TI, rPair (.ref i1) (.ref i2)) (by simp [zipV])
  obtain ⟨_, h3, a, b, rfl⟩ := S.res (TO, rSomePair) (by simp [zipV])
  obtain ⟨o4, h4, e4, f4⟩ := S.res (i1, rLit l1 k) (by simp [zipV])
  obtain ⟨o5, h5, e5, f5⟩ := S.res (i2, rLit l2 k) (by simp [zipV])
  exact ⟨h1, h2, ⟨a, b, h3⟩, ⟨o4, h4, e4, f4⟩, ⟨o5, h5, e5, f5⟩⟩
theorem Ok.iter_zip {z TI TO i1 i2 l1 l2 : Addr} {f : Value} {k : Nat} {v0 : Vol} {Q : Post Value} (h : Q (.ref z) B G (zipV z TI TO i1 i2 l1 l2 f k ++ v0)) : Ok prog w O n B G (zipV z TI TO i1 i2 l1 l2 f k ++ v0) (pyIter (.ref z)) Q := fun A s R S =>
  wpAny_pyIter_zip (zip_facts S).1 ⟨_, _, _, S, h⟩
theorem Ok.next_zip {z TI TO i1 i2 l1 l2 : Addr} {k : Nat} {xs ys : List Value} {x y : Value} {v0 : Vol} {Q : Post (Option Value)} (hl1 : LstAt B v0 l1 xs) (hl2 : LstAt B v0 l2 ys) (hx : xs[k]? = some x) (hy : ys[k]? = some y)
    (h : ∀ a B', BLe B B' → tupB B' a [x, y] → Q (some (.ref a)) B' G (zipV z TI TO i1 i2 l1 l2 (rawInt a) (k + 1) ++ v0)) : Ok prog w O n B G (zipV z TI TO i1 i2 l1 l2 .none k ++ v0) (pyNext (.ref z)) Q := fun A s R S => by
  obtain ⟨g1, g2, ⟨a, b, g3⟩, g4, g5⟩ := zip_facts S
  have S0 := S.sub (List.sublist_append_right _ v0)
  refine wpAny_pyNext_zip_item (zip_apart S hl1 hl2) g1 g2 g3 g4 g5 (isList_of (hl1.at S0)) (isList_of (hl2.at S0)) (by simpa using hx) (by simpa using hy) fun h' a1 a2 a3 a4 a5 a6 hk => ?_
  obtain ⟨f1, f2⟩ := S.fresh
  have hTI' : IsPair h' TI (.ref i1) (.ref i2) := by
    have D := zip_apart S hl1 hl2
    exact hk _ _ D.TIz D.TITO D.TIi1 D.TIi2 g2
  have ST := S.swap (v1' := zipV z TI TO i1 i2 l1 l2 (rawInt s.heap.objs.size) (k + 1)) (h' := h') rfl (fun c o hc e => by
    simp only [zipV, List.map_cons, List.map_nil, List.mem_cons, List.not_mem_nil, or_false, not_or] at hc
    exact hk c o hc.1 hc.2.1 hc.2.2.1 hc.2.2.2.1 e) (fun p hp => by
    simp only [zipV, List.mem_cons, List.not_mem_nil, or_false] at hp
    rcases hp with rfl | rfl | rfl | rfl | rfl
    · exact ⟨_, a1, rfl⟩
    · exact ⟨_, a2, x, y, rfl⟩
    · obtain ⟨o, e1, e2, e3⟩ := a3; exact ⟨o, e1, e2, e3⟩
    · obtain ⟨o, e1, e2, e3⟩ := a4; exact ⟨o, e1, e2, e3⟩
    · exact ⟨_, hTI', rfl⟩) s.toks
  have hf : ∀ p ∈ zipV z TI TO i1 i2 l1 l2 (rawInt s.heap.objs.size) (k + 1) ++ v0, p.1 ≠ s.heap.objs.size := fun p hp => by
    have : p.1 ∈ (zipV z TI TO i1 i2 l1 l2 .none k ++ v0).map (·.1) := by
      have := List.mem_map_of_mem (f := (·.1)) hp
      simpa [zipV] using this
    obtain ⟨q, hq, e⟩ := List.mem_map.mp this
    rw [← e]; exact f2 q hq
  obtain ⟨b1, b2⟩ := ST.addB (a := s.heap.objs.size) f1 hf a5
  exact ⟨_, _, _, b2, h _ _ b1 ⟨0, Base.add_self ..⟩⟩
theorem Ok.next_zip_end {z TI TO i1 i2 l1 l2 : Addr} {k : Nat} {xs ys : List Value} {v0 : Vol} {Q : Post (Option Value)} (hl1 : LstAt B v0 l1 xs) (hl2 : LstAt B v0 l2 ys) (he : xs[k]? = none ∨ ys[k]? = none)
    (h : Q none B G v0) : Ok prog w O n B G (zipV z TI TO i1 i2 l1 l2 .none k ++ v0) (pyNext (.ref z)) Q := fun A s R S => by
  obtain ⟨g1, g2, ⟨a, b, g3⟩, g4, g5⟩ := zip_facts S
  have S0 := S.sub (List.sublist_append_right _ v0)
  refine wpAny_pyNext_zip_end R.handled (zip_apart S hl1 hl2) g1 g2 g3 g4 g5 (isList_of (hl1.at S0)) (isList_of (hl2.at S0)) (by simpa using he) fun h' hk => ?_
  have nd := S.nd
  rw [List.map_append, List.nodup_append] at nd
  have hne : ∀ p ∈ v0, p.1 ∉ (zipV z TI TO i1 i2 l1 l2 .none k).map (·.1) := fun p hp hm => nd.2.2 _ hm _ (List.mem_map_of_mem hp) rfl
  have hoff : ∀ c o, B c = some o → c ∉ (zipV z TI TO i1 i2 l1 l2 .none k).map (·.1) := fun c o e hm => by
    obtain ⟨p, hp, rfl⟩ := List.mem_map.mp hm
    have := S.off p (List.mem_append_left _ hp)
    rw [e] at this; cases this
  have hk' : ∀ c o, c ∉ (zipV z TI TO i1 i2 l1 l2 .none k).map (·.1) → s.heap.get? c = some o → h'.get? c = some o := fun c o hc e => by
    simp only [zipV, List.map_cons, List.map_nil, List.mem_cons, List.not_mem_nil, or_false, not_or] at hc
    exact hk c o hc.1 hc.2.1 hc.2.2.1 hc.2.2.2.1 e
  exact ⟨B, G, v0, ⟨fun c o e => hk' c o (hoff c o e) (S.keep c o e), fun p hp => let ⟨o, e1, e2⟩ := S0.res p hp; ⟨o, hk' _ _ (hne p hp) e1, e2⟩, S0.off, S0.nd, S0.gens, S0.os⟩, h⟩
theorem Ok.own_zip {elts : List Expr} {ke : Nat} {p : Pos} {z TI TO i1 i2 l1 l2 a : Addr} {k : Nat} {v0 : Vol} {Q : Post Unit} (h : Q () B G (zipV z TI TO i1 i2 l1 l2 .none k ++ v0)) :
    Ok prog w O n B G (zipV z TI TO i1 i2 l1 l2 (rawInt a) k ++ v0) (letOwnedTupleGo (.Tuple elts ke p) (.ref z) (.ref a)) Q := fun A s R S =>
  wpAny_letOwnedTupleGo_zip (zip_facts S).1 fun h' hz hs => ⟨B, G, _, S.swap (v1' := zipV z TI TO i1 i2 l1 l2 .none k) (h' := h') rfl (fun c o hc e => hs.extBut c o (fun q => hc (by rw [q]; simp [zipV])) e) (fun q hq => by
    simp only [zipV, List.mem_cons, List.not_mem_nil, or_false] at hq
    obtain ⟨g1, g2, ⟨a, b, g3⟩, g4, g5⟩ := zip_facts S
    have nd := S.nd
    rw [List.map_append, List.nodup_append] at nd
    have nd := nd.1
    simp only [zipV, List.map_cons, List.map_nil, List.nodup_cons, List.mem_cons, List.not_mem_nil, or_false, not_or] at nd
    rcases hq with rfl | rfl | rfl | rfl | rfl
    · exact ⟨_, hz, rfl⟩
    · exact ⟨_, hs.extBut _ _ (Ne.symm nd.1.1) g3, a, b, rfl⟩
    · obtain ⟨o, e1, e2, e3⟩ := g4; exact ⟨o, hs.extBut _ _ (Ne.symm nd.1.2.1) e1, e2, e3⟩
    · obtain ⟨o, e1, e2, e3⟩ := g5; exact ⟨o, hs.extBut _ _ (Ne.symm nd.1.2.2.1) e1, e2, e3⟩
    · exact ⟨_, hs.extBut _ _ (Ne.symm nd.1.2.2.2) g2, rfl⟩) s.toks, h⟩
end
-- part Law1
section
variable {prog : Program} {w : World} {O : OsState} {n : Nat} {B : Base} {G : Array GenState} {v : Vol} {env : Env} {x y : Str} {t u : Tok} {Q : Post Value}
/-- a text so many times -/
def rep (x : Str) (k : Int) : Str := ⟨(List.replicate k.toNat x.cps.toList).flatten.toArray⟩
theorem foldl_app (x : Array Nat) : ∀ (k : Nat) (acc : Array Nat), (List.replicate k x).foldl (· ++ ·) acc = (acc.toList ++ (List.replicate k x.toList).flatten).toArray
  | 0, acc => by simp
  | k + 1, acc => by simp [List.replicate_succ, foldl_app x k, List.append_assoc]
theorem Ok.mul_str {k : Int} (hk : k < 1000) (hk2 : -1000 < k) (hx : x.length ≤ 1000) (h : ∀ m, Q (.str (rep x k) m) B G v) : Ok prog w O n B G v (binaryOp .Mult (.str x t) (.int k u)) Q := fun A s R S => by
  refine PySem.P.mul_str ?_ ?_ ?_ ?_
  · rw [decide_eq_false (by tbr_iter "om"), decide_eq_false (by tbr_iter "om")]; rfl
  · intro h1 _ h2
    have : (2 ^ 63 - 1) / k ≥ 1000000 := by
      rw [ge_iff_le, Int.le_ediv_iff_mul_le (by tbr_iter "om")]
      (first | lia | omega)
    (first | lia | omega)
  · intro h1 _
    unfold Builtin.Str.tooLong
    have h2 : x.length * k.toNat ≤ 1000 * 1000 := Nat.mul_le_mul hx (by tbr_iter "om")
    have : sizeLine = 2 ^ 24 := rfl
    rw [decide_eq_false (by tbr_iter "om")]
  · by_cases h1 : k < 1
    · rw [if_pos h1]
      have e : rep x k = Str.empty := by unfold rep; rw [show k.toNat = 0 by tbr_iter "om"]; rfl
      have := h s.toks
      rw [e] at this
      exact ⟨by decide, B, G, v, S.toks _, this⟩
    · rw [if_neg h1]
      by_cases h2 : (k == 1 || x.length == 0) = true
      · rw [if_pos h2]
        have e : rep x k = x := by
          unfold rep
          simp only [Bool.or_eq_true, beq_iff_eq] at h2
          rcases h2 with rfl | h2
          · simp
          · have : x.cps = #[] := Array.eq_empty_of_size_eq_zero h2
            cases x with
            | mk c => subst this; simp
        have := h t
        rw [e] at this
        exact ⟨B, G, v, S, this⟩
      · rw [if_neg h2]
        have e : (⟨(List.replicate k.toNat x.cps).foldl (· ++ ·) #[]⟩ : Str) = rep x k := by unfold rep; rw [foldl_app]; simp
        rw [e]
        refine ⟨?_, B, G, v, S.toks _, h _⟩
        have h2 : x.length * k.toNat ≤ 1000 * 1000 := Nat.mul_le_mul hx (by tbr_iter "om")
        show (List.replicate k.toNat x.cps.toList).flatten.toArray.size ≤ sizeLine
        have : sizeLine = 2 ^ 24 := rfl
        rw [List.size_toArray]
        have h3 : x.cps.toList.length = x.length := Array.length_toList
        have h4 : (List.replicate k.toNat x.cps.toList).flatten.length = k.toNat * x.cps.toList.length := by simp
        rw [h4, h3, Nat.mul_comm]
        (first | lia | omega)
theorem Ok.cat_str (hz : (x ++ y).length ≤ sizeLine) (h : ∀ k, Q (.str (x ++ y) k) B G v) : Ok prog w O n B G v (binaryOp .Add (.str x t) (.str y u)) Q := fun A s R S => by
  refine PySem.P.add_str ?_
  by_cases hx : (x.length == 0) = true
  · rw [if_pos hx]
    have e : x ++ y = y := by
      have : x.cps = #[] := Array.eq_empty_of_size_eq_zero (show x.cps.size = 0 from eq_of_beq hx)
      cases x with
      | mk c => subst this; cases y with | mk d => show (⟨#[] ++ d⟩ : Str) = ⟨d⟩; simp
    have := h u
    rw [e] at this
    exact ⟨B, G, v, S, this⟩
  · rw [if_neg hx]
    by_cases hy : (y.length == 0) = true
    · rw [if_pos hy]
      have e : x ++ y = x := by
        have : y.cps = #[] := Array.eq_empty_of_size_eq_zero (show y.cps.size = 0 from eq_of_beq hy)
        cases y with
        | mk c => subst this; cases x with | mk d => show (⟨d ++ #[]⟩ : Str) = ⟨d⟩; simp
      have := h t
      rw [e] at this
      exact ⟨B, G, v, S, this⟩
    · rw [if_neg hy]
      exact ⟨hz, B, G, v, S.toks _, h _⟩
theorem Ok.add_list {l b : Addr} {xs ys : List Value} (hl : LstAt B v l xs) (hb : LstAt B v b ys) (hz : xs.length + ys.length ≤ sizeLine) (h : ∀ a, Q (.ref a) B G ((a, rList (xs ++ ys)) :: v)) : Ok prog w O n B G v (binaryOp .Add (.ref l) (.ref b)) Q := fun A s R S => by
  obtain ⟨n1, ho⟩ := hl.at S
  obtain ⟨n2, ho2⟩ := hb.at S
  refine concat_meets ⟨_, ho, rfl⟩ ⟨_, ho2, rfl⟩ noFill_list_add seq_list_add PySem.F.slot_list_add PySem.F.entry_list_add (PySem.F.args_list_add_2 _ _) (list_addW l b xs.toArray ys.toArray n1 n2 none none #[] #[] (by simpa using hz)) ⟨ho, ho2, ?_⟩
  exact ⟨B, G, _, S.push (r := rList (xs ++ ys)) ({ cls := .type "list", data := .seq (xs.toArray ++ ys.toArray) } : Obj) rfl ⟨0, by simp⟩ s.toks, h _⟩

/-! ### slices of lists -/
theorem pick_mem (xs : List Value) (lo hi st : Option Int) : ∃ ys : List Value, slicePick xs.toArray lo hi st = ys.toArray ∧ ∀ y ∈ ys, y ∈ xs := by
  refine ⟨_, rfl, fun y hy => ?_⟩
  obtain ⟨k, _, hk⟩ := List.mem_filterMap.mp hy
  have := Array.mem_of_getElem? hk
  simpa using this
theorem ints_of_mem {xs : List Value} {is : List Int} (h : IntsV xs is) : ∀ ys : List Value, (∀ y ∈ ys, y ∈ xs) → ∃ js, IntsV ys js
  | [], _ => ⟨[], .nil⟩
  | y :: ys, hy => by
    obtain ⟨js, e⟩ := ints_of_mem h ys fun z hz => hy z (List.mem_cons_of_mem _ hz)
    obtain ⟨j, hj⟩ := List.getElem?_of_mem (hy y List.mem_cons_self)
    obtain ⟨i, _, k⟩ := h.get' hj
    exact ⟨i :: js, .cons k e⟩
theorem range_pick (xs : List Value) (a b : Nat) (hab : a ≤ b) (hb : b ≤ xs.length) : (List.range (b - a)).filterMap (fun k => xs[a + k]?) = (xs.drop a).take (b - a) := by
  have key : ∀ m, a + m ≤ xs.length → (List.range m).filterMap (fun k => xs[a + k]?) = (xs.drop a).take m := by
    intro m
    induction m with
    | zero => intro _; simp
    | succ m ih =>
      intro hm
      rw [List.range_succ, List.filterMap_append, ih (by tbr_iter "om"), List.take_add_one]
      congr 1
      have : xs[a + m]? = some (xs[a + m]'(by tbr_iter "om")) := List.getElem?_eq_getElem _
      simp only [List.filterMap_cons, List.filterMap_nil, this, List.getElem?_drop]
      rfl
  exact key _ (by tbr_iter "om")
theorem clip_nn (a : Nat) (n : Nat) : (max 0 (min (if (a : Int) < 0 then (a : Int) + n else a) (n : Int)) : Int) = ((min a n : Nat) : Int) := by
  rw [if_neg (by tbr_iter "om")]; (first | lia | omega)
theorem bnd_ab (a b n : Nat) : sliceBounds (some (a : Int)) (some (b : Int)) none n = (((min a n : Nat) : Int), ((min b n : Nat) : Int), 1) := by
  rw [← clip_nn a n, ← clip_nn b n]; rfl
theorem bnd_to (b n : Nat) : sliceBounds none (some (b : Int)) none n = (((0 : Nat) : Int), ((min b n : Nat) : Int), 1) := by
  rw [← clip_nn b n]; rfl
theorem bnd_from (a n : Nat) : sliceBounds (some (a : Int)) none none n = (((min a n : Nat) : Int), (n : Int), 1) := by
  rw [← clip_nn a n]; rfl
theorem pick_core (xs : List Value) (a b : Nat) (hb : b ≤ xs.length) : ((sliceRange (a : Int) (b : Int) 1).filterMap (xs.toArray[·]?)).toArray = ((xs.drop a).take (b - a)).toArray := by
  congr 1
  have e2 : sliceRange (a : Int) (b : Int) 1 = (List.range (b - a)).map fun k => a + k := by
    unfold sliceRange
    dsimp only
    rw [if_pos (by decide)]
    by_cases h : (a : Int) < (b : Int)
    · rw [if_pos h, Int.ediv_one, show ((b : Int) - (a : Int) + 1 - 1).toNat = b - a by tbr_iter "om"]
      refine List.map_congr_left fun k _ => ?_
      (first | lia | omega)
    · rw [if_neg h, show b - a = 0 by tbr_iter "om"]; rfl
  rw [e2, List.filterMap_map]
  have e3 : ((fun i => xs.toArray[i]?) ∘ fun k => a + k) = fun k => xs[a + k]? := by funext k; simp
  rw [e3]
  by_cases hab : a ≤ b
  · exact range_pick xs a b hab hb
  · rw [show b - a = 0 by tbr_iter "om"]; simp
theorem pick_ab (xs : List Value) (a b : Nat) (ha : a ≤ xs.length) : slicePick xs.toArray (some (a : Int)) (some (b : Int)) none = ((xs.drop a).take (min b xs.length - a)).toArray := by
  unfold slicePick
  rw [bnd_ab, List.size_toArray, show min a xs.length = a by tbr_iter "om"]
  exact pick_core xs a _ (by tbr_iter "om")
theorem pick_to (xs : List Value) (b : Nat) : slicePick xs.toArray none (some (b : Int)) none = (xs.take b).toArray := by
  unfold slicePick
  rw [bnd_to, List.size_toArray]
  have := pick_core xs 0 (min b xs.length) (by tbr_iter "om")
  rw [List.drop_zero, Nat.sub_zero] at this
  rw [show xs.take b = xs.take (min b xs.length) by rw [List.take_eq_take_iff]; (first | lia | omega)]
  exact this
theorem pick_from (xs : List Value) (a : Nat) (ha : a ≤ xs.length) : slicePick xs.toArray (some (a : Int)) none none = (xs.drop a).toArray := by
  unfold slicePick
  rw [bnd_from, List.size_toArray, show min a xs.length = a by tbr_iter "om"]
  have := pick_core xs a xs.length (by tbr_iter "om")
  rw [List.take_of_length_le (by rw [List.length_drop]; (first | lia | omega))] at this
  exact this
theorem All2.of_get {α β : Type} {R : α → β → Prop} : ∀ {as : List α} {bs : List β}, as.length = bs.length → (∀ (i : Nat) a b, as[i]? = some a → bs[i]? = some b → R a b) → All2 R as bs
  | [], [], _, _ => .nil
  | a :: as, b :: bs, hl, h => .cons (h 0 a b rfl rfl) (All2.of_get (by simpa using hl) fun i x y hx hy => h (i + 1) x y (by simpa using hx) (by simpa using hy))
  | [], _ :: _, hl, _ => by cases hl
  | _ :: _, [], hl, _ => by cases hl
theorem Ok.sorted {l : Addr} {xs : List Value} {is : List Int} (hl : LstAt B v l xs) (hi : IntsV xs is) (h64 : xs.length < 64) (h : ∀ a ys js, IntsV ys js → js.Perm is → js.Pairwise (· ≤ ·) → Q (.ref a) B G ((a, rListW ys) :: v)) :
    Ok prog w O n B G v (call (.builtin "sorted") [.ref l]) Q := fun A s R S => by
  have hI : IntsAre xs is := by
    clear hl h h64
    induction hi with
    | nil => exact .nil
    | cons hx _ ih => obtain ⟨t, rfl⟩ := hx; exact .cons _ t ih
  refine sorted_ints (isList_of (hl.at S)) hI h64 fun out ns' h1 h2 h3 => ?_
  have hsz : s.heap.objs.size ≤ s.heap.objs.size + 1 := Nat.le_succ _
  have hO : IntsV out.toList ns' := by
    clear h2 h3
    generalize out.toList = os at h1
    induction h1 with
    | nil => exact .nil
    | cons i t _ ih => exact .cons ⟨t, rfl⟩ ih
  have up : ∀ (hp : Heap) (a : Addr) (f : Obj → Obj) b o, b ≠ a → hp.get? b = some o → (hp.update a f).get? b = some o := fun hp a f b o hb e => (Heap.get?_update_other hp f (Ne.symm hb)).trans e
  have S1 := S.grow (v1 := [(s.heap.objs.size + 1, rListW out.toList)]) (h' := sortedAll s.heap xs out) (by simp) (fun p hp => by
    simp only [List.mem_cons, List.not_mem_nil, or_false] at hp
    subst hp; exact hsz) (fun b o e => by
    have hb := Heap.lt_size e
    have n1 : b ≠ s.heap.objs.size := Nat.ne_of_lt hb
    have n2 : b ≠ s.heap.objs.size + 1 := Nat.ne_of_lt (Nat.lt_succ_of_lt hb)
    unfold sortedAll sortedHeap
    exact up _ _ _ _ _ n2 (Heap.get?_push_of_some _ (Heap.get?_push_of_some _ (up _ _ _ _ _ n2 (Heap.get?_push_of_some _ (up _ _ _ _ _ n1 (Heap.get?_push_of_some _ e))))))) (fun p hp => by
    simp only [List.mem_cons, List.not_mem_nil, or_false] at hp
    subst hp
    have hz : ((s.heap.push (seqObj "list" #[] 0)).update s.heap.objs.size (Obj.mapSeq (· ++ xs.toArray))).objs.size = s.heap.objs.size + 1 := by rw [Heap.size_update, Heap.size_push]
    have g1 : (((s.heap.push (seqObj "list" #[] 0)).update s.heap.objs.size (Obj.mapSeq (· ++ xs.toArray))).push (seqObj "list" xs.toArray 0)).get? (s.heap.objs.size + 1) = some (seqObj "list" xs.toArray 0) := by
      have := Heap.get?_push_size ((s.heap.push (seqObj "list" #[] 0)).update s.heap.objs.size (Obj.mapSeq (· ++ xs.toArray))) (o := seqObj "list" xs.toArray 0) rfl
      rw [hz] at this; exact this
    have g2 := Heap.get?_update_self (Obj.mapSeq fun _ => (#[] : Array Value)) g1 rfl
    have g3 := Heap.get?_update_self (Obj.mapSeq fun _ => out) (Heap.get?_push_of_some (seqObj "list" #[] 0) (Heap.get?_push_of_some (seqObj "tuple" xs.toArray 0) g2)) rfl
    exact ⟨_, g3, rfl, _, rfl⟩) s.toks
  exact ⟨_, _, _, S1, h _ _ _ hO h2 h3⟩
theorem Ok.list_range {r : Addr} {m : Nat} (hr : rngB B r 0 (m : Int)) (hb : m ≤ 1000) (h : ∀ a ys, IntsV ys ((List.range m).map Int.ofNat) → Q (.ref a) B G ((a, rList ys) :: v)) : Ok prog w O n B G v (call (.type "list") [.ref r]) Q := fun A s R S => by
  obtain ⟨t, u, k, e⟩ := hr
  refine call_list_range (n := m) R.handled (S.keep _ _ e) (small_one (by tbr_iter "om") (by tbr_iter "om") (by tbr_iter "om") (by tbr_iter "om")) (by rw [rangeSize_one]; split <;> (first | lia | omega)) (by tbr_iter "om") fun h' tk acc' c' hk hS hacc => ?_
  have S1 := S.grow (v1 := [(s.heap.objs.size, rList acc'.toList)]) (h' := h') (by simp) (fun p hp => by
    simp only [List.mem_cons, List.not_mem_nil, or_false] at hp
    subst hp; exact Nat.le_refl _) hk (fun p hp => by
    simp only [List.mem_cons, List.not_mem_nil, or_false] at hp
    subst hp
    exact ⟨_, hS, c', rfl⟩) tk
  refine ⟨_, _, _, S1, h _ _ (All2.of_get ?_ fun i a b ha hb => ?_)⟩
  · rw [Array.length_toList, hacc.1]; simp
  · obtain ⟨t, rfl⟩ := hacc.2 i a (by simpa using ha)
    rw [List.getElem?_map] at hb
    have hib : i < m := by
      rcases Nat.lt_or_ge i m with h | h
      · exact h
      · rw [List.getElem?_eq_none (by simpa using h)] at hb; cases hb
    rw [List.getElem?_range hib] at hb
    injection hb with hb
    exact ⟨t, by rw [← hb]; simp⟩
end
-- part Law2
abbrev lNs : List Str := ["script", "k", "near", "level", "got", "i", "rows", "swept", "led", "behind", "closed", "order", "least", "apart", "good", "answer"]
abbrev lCn : List Str := ["orders", "mask", "rests", "weights", "modulus", "letters", "pieces", "small", "cells", "told"]
abbrev lGl : List Str := ["enumerate", "sum", "range", "int_divmod", "_law_orders", "sorted", "list", "_check_parenthesis"]
def lawS (i : Nat) : Stmt := ((bodyAt 21)[i]?).getD (.Pass default)

section
variable {w : World} {O : OsState} {n : Nat} {B : Base} {G : Array GenState} {v : Vol} {Q : Post Flow} {L c0 c1 c2 c3 c4 c5 c6 c7 c8 c9 : Addr} {env : Env} {cd : Value}
abbrev EnvL (env : Env) (L : Addr) (cd : Value) (c0 c1 c2 c3 c4 c5 c6 c7 c8 c9 : Addr) : Prop := EnvAt 21 env L cd [("orders", c0), ("mask", c1), ("rests", c2), ("weights", c3), ("modulus", c4), ("letters", c5), ("pieces", c6), ("small", c7), ("cells", c8), ("told", c9)]
theorem Ok.lay {a : Addr} {xs : List Value} {v' : Vol} {α : Type} {t : Sem α} {Q : Post α} (hd : Del v a (rList xs) v') (h : ∀ B', BLe B B' → seqB "list" B' a xs → Ok prg w O n B' G v' t Q) : Ok prg w O n B G v t Q :=
  Ok.freeze hd fun o B' ⟨m, ho⟩ e hle => h B' hle ⟨m, by rw [e, ho]⟩
theorem OkC.pull {a : Addr} {r : Res} {v' : Vol} {c : Code} {R : Post Flow} (hd : Del v a r v') (h : OkC prg w O n B G ((a, r) :: v') c R) : OkC prg w O n B G v c R := fun A s Rm S => h A s Rm (S.pull hd)
theorem OkC.drop {a : Addr} {r : Res} {v' : Vol} {c : Code} {R : Post Flow} (hd : Del v a r v') (h : OkC prg w O n B G v' c R) : OkC prg w O n B G v c R := fun A s Rm S => by
  obtain ⟨j, hj, rfl⟩ := hd.idx
  exact h A s Rm (S.sub (List.eraseIdx_sublist v j))
theorem Ok.item_ints {value slice : Expr} {l : Addr} {xs : List Value} {is : List Int} {k : Int} {u : Tok} {Q : Post Value} (hl : LstAt B v l xs) (hi : IntsV xs is) (h0 : 0 ≤ k) (hk2 : k < 2 ^ 63) (hk : k.toNat < is.length) (h : ∀ t, Q (.int (is.getD k.toNat 0) t) B G v)
    (ho : subscripted slice false (.ref l) (.int k u) = operate [.ref l, .int k u] (getItem (.ref l) (.int k u)) := by rfl) : Ok prg w O n B G v (subscriptTail value slice (.ref l) (.int k u)) Q := by
  obtain ⟨x, hx, t, rfl⟩ := hi.get (i := k.toNat) (b := is.getD k.toNat 0) (by rw [List.getD_eq_getElem?_getD, List.getElem?_eq_getElem hk]; rfl)
  exact Ok.item_list hl h0 hk2 hx (h t) ho
theorem Ok.sub_sliceS {value slice : Expr} {l sl : Addr} {xs : List Value} {vl vu vs : Value} {lo hi st : Option Int} {ys : List Value} {ops : List Value} {Q : Post Value} (hl : Stb B fun h => h.IsList l xs.toArray) (hs : slcB B sl vl vu vs) (pl : IsPart vl lo) (pu : IsPart vu hi) (ps : IsPart vs st) (h0 : st ≠ some 0)
    (hz : xs.length ≤ sizeLine) (hy : slicePick xs.toArray lo hi st = ys.toArray) (h : ∀ a, Q (.ref a) B G ((a, rList ys) :: v))
    (ho : subscripted slice false (.ref l) (.ref sl) = operate ops (getItem (.ref l) (.ref sl))) : Ok prg w O n B G v (subscriptTail value slice (.ref l) (.ref sl)) Q := fun A s R S => by
  have hL := hl _ S.keep
  refine tail_any hL.typeIs slot_list_getitem.lookup (wpAny_getItem_list_slice hL ⟨_, S.keep _ _ hs, rfl, rfl⟩ pl pu ps h0 ?_ (by simpa using hz)) ho
  rw [hy]
  exact ⟨_, _, _, S.push ({ cls := .type "list", data := .seq ys.toArray } : Obj) rfl ⟨0, rfl⟩ s.toks, h _⟩
theorem law_s0 {sc : Addr} {xs : List Value} {is : List Int} (hT : TopD B) (hA : EnvL env L cd c0 c1 c2 c3 c4 c5 c6 c7 c8 c9) (hs : Stb B fun h => h.IsList sc xs.toArray) (hi : IntsV xs is) (hlen : xs.length ≤ 1000)
    (h : ∀ B' td ys js, BLe B B' → seqB "list" B' td ys → IntsV ys js → ys.length ≤ 1000 → Q .next B' G ((L, rFr lNs [some (.ref sc), none, none, none, none, none, none, none, none, none, none, none, none, none, none, none]) :: (c0, rCell none) :: (c1, rCell none) :: (c2, rCell none) :: (c3, rCell none) :: (c4, rCell none) :: (c5, rCell none) :: (c6, rCell none) :: (c7, rCell none) :: (c8, rCell none) :: (c9, rCell (some (.ref td))) :: v)) :
    Ok prg w O (n + 46) B G ((L, rFr lNs [some (.ref sc), none, none, none, none, none, none, none, none, none, none, none, none, none, none, none]) :: (c0, rCell none) :: (c1, rCell none) :: (c2, rCell none) :: (c3, rCell none) :: (c4, rCell none) :: (c5, rCell none) :: (c6, rCell none) :: (c7, rCell none) :: (c8, rCell none) :: (c9, rCell none) :: v) (exec (lawS 0) env) Q := by
  have hE := hA.is lNs lGl (by show chk (scopeAt 21) lNs lGl lCn [] = true; decide +kernel) (by show lCn.Nodup; decide +kernel)
  conv in (lawS 0) => whnf
  tbr_iter "go*"
  intro sl B1 hle1 hsl
  refine Ok.sub_sliceS (hs.mono hle1) hsl .none (.int 60 _) .none (by decide) (by have : sizeLine = 2 ^ 24 := rfl; (first | lia | omega)) (pick_to xs 60) (fun td => ?_) rfl
  refine Ok.lay .here fun B2 hle2 htd => ?_
  tbr_iter "go*"
  exact h _ _ _ _ (hle1.trans hle2) htd (hi.take 60) (by rw [List.length_take]; (first | lia | omega))

theorem law_s1 {sc td : Addr} {ys : List Value} {js : List Int} (hT : TopD B) (hA : EnvL env L cd c0 c1 c2 c3 c4 c5 c6 c7 c8 c9) (hs : seqB "list" B td ys) (hi : IntsV ys js) (hlen : ys.length ≤ 1000)
    (h : ∀ B' ce zs ks, BLe B B' → seqB "list" B' ce zs → IntsV zs ks → ks.length = 5 → Q .next B' G ((L, rFr lNs [some (.ref sc), none, none, none, none, none, none, none, none, none, none, none, none, none, none, none]) :: (c0, rCell none) :: (c1, rCell none) :: (c2, rCell none) :: (c3, rCell none) :: (c4, rCell none) :: (c5, rCell none) :: (c6, rCell none) :: (c7, rCell none) :: (c8, rCell (some (.ref ce))) :: (c9, rCell (some (.ref td))) :: v)) :
    Ok prg w O (n + 46) B G ((L, rFr lNs [some (.ref sc), none, none, none, none, none, none, none, none, none, none, none, none, none, none, none]) :: (c0, rCell none) :: (c1, rCell none) :: (c2, rCell none) :: (c3, rCell none) :: (c4, rCell none) :: (c5, rCell none) :: (c6, rCell none) :: (c7, rCell none) :: (c8, rCell none) :: (c9, rCell (some (.ref td))) :: v) (exec (lawS 1) env) Q := by
  have hE := hA.is lNs lGl (by show chk (scopeAt 21) lNs lGl lCn [] = true; decide +kernel) (by show lCn.Nodup; decide +kernel)
  have hTt := hT.top
  conv in (lawS 1) => whnf
  refine Ok.assign1 ?_ (by unfold swapsWith Env.blockKind Env.kindOf; rw [hA.scope]; rfl)
  refine Ok.listcomp hE ["k", "one"] ["sum"] [("told", c9)] [] (by show chkC _ ["k", "one"] ["sum"] ["told"] = true; decide +kernel) (by decide +kernel) (by simp) nofun ?_ (fun _ => rfl)
  refine Ok.call_val (f := .type "enumerate") rfl ?_
  tbr_iter "go*"
  refine ⟨rfl, ?_⟩
  tbr_iter "go*"
  refine Ok.listd ?_
  tbr_iter "go*"
  refine ⟨Nat.le_of_ble_eq_true rfl, fun nl => ?_⟩
  tbr_iter "go*"
  refine Ok.enum_list (.inl .here) fun e it => ?_
  refine Ok.iter_enum .here fun D C cenv hC => ?_
  refine OkC.comp_start ?_ ?_
  · exact Ok.iter_enum (by tbr_iter "has") ⟨rfl, rfl, rfl, rfl⟩
  obtain ⟨nlv, hnl, hnlv⟩ : ∃ nlv : List Value, nlv = [Value.int 9 _, Value.int 3 _, Value.int 12 _, Value.int 10 _, Value.int 30 _] ∧ IntsV nlv [9, 3, 12, 10, 30] := ⟨_, rfl, .cons ⟨_, rfl⟩ (.cons ⟨_, rfl⟩ (.cons ⟨_, rfl⟩ (.cons ⟨_, rfl⟩ (.cons ⟨_, rfl⟩ .nil))))⟩
  rw [← hnl]
  refine OkC.pull (a := it) (by tbr_iter "del") ?_
  refine OkC.pull (a := e) (by tbr_iter "del") ?_
  refine OkC.lpG5 (fun (i : Nat) (zs : List Value) (ks : List Int) (ko : Option Value) (oo : Option Value) => 5 - i) (fun i zs ks ko oo =>
    (e, rEn it i) :: (it, rLit nl i) :: (C, rFr ["k", "one"] [ko, oo]) :: (D, rList zs) :: (nl, rList nlv) :: (L, rFr lNs [some (.ref sc), none, none, none, none, none, none, none, none, none, none, none, none, none, none, none]) :: (c0, rCell none) :: (c1, rCell none) :: (c2, rCell none) :: (c3, rCell none) :: (c4, rCell none) :: (c5, rCell none) :: (c6, rCell none) :: (c7, rCell none) :: (c8, rCell none) :: (c9, rCell (some (.ref td))) :: v) (fun i zs ks ko oo B' => BLe B B' ∧ i ≤ 5 ∧ IntsV zs ks ∧ ks.length = i) ?_ 0 [] [] none none ⟨BLe.refl _, Nat.zero_le _, .nil, rfl⟩
  rintro i zs ks ko oo B' ⟨hle, hi5, hzs, hks⟩ ih
  have hT1 := hTt.mono hle
  have hzl := hzs.length
  have hnll := hnlv.length
  refine OkC.comp_turn ?_
  by_cases hlt : i < 5
  · obtain ⟨one, hone, to, rfl⟩ := hnlv.get (i := i) (b := ([9, 3, 12, 10, 30] : List Int)[i]'(by simpa using hlt)) (List.getElem?_eq_getElem _)
    refine Ok.next_enum_list .here .here (.inl (by tbr_iter "has")) hone fun a B1 t1 hle1 ha => ?_
    have hT2 := hT1.mono hle1
    refine Ok.own_enum .here ?_
    refine Ok.unpack2 ha ?_
    tbr_iter "go*"
    refine Ok.call_val (f := .builtin "sum") rfl ?_
    tbr_iter "go*"
    refine ⟨rfl, ?_⟩
    tbr_iter "go*"
    intro sl B2 hle2 hsl
    obtain ⟨ys', hy', hmem⟩ := pick_mem ys (some (i : Int)) none (some 5)
    obtain ⟨js', hjs'⟩ := ints_of_mem hi ys' hmem
    refine Ok.sub_slice (.inr (hs.mono ((hle.trans hle1).trans hle2))) hsl (.int _ _) .none (.int _ _) (by decide) (by have : sizeLine = 2 ^ 24 := rfl; (first | lia | omega)) hy' (fun tl => ?_) rfl
    tbr_iter "go*"
    refine Ok.sum_list (.inl .here) hjs' fun ts => ?_
    refine Ok.drop .here ?_
    tbr_iter "go*"
    refine Ok.list_append (by tbr_iter "upd") (by have : sizeLine = 2 ^ 24 := rfl; (first | lia | omega)) ?_
    refine' ih (i + 1) _ _ _ _ _ (by tbr_iter "om") ⟨(hle.trans hle1).trans hle2, by tbr_iter "om", hzs.snoc ⟨_, rfl⟩, by rw [List.length_append, hks]; rfl⟩
  · have hie : i = 5 := by tbr_iter "om"
    subst hie
    refine Ok.next_enum_list_end .here .here (.inl (by tbr_iter "has")) (by rw [List.getElem?_eq_none]; rw [hnll]; decide) ?_
    refine ⟨_, _, .here, ?_⟩
    refine Ok.drop (a := nl) (by tbr_iter "del") ?_
    refine Ok.lay .here fun B2 hle2 hce => ?_
    tbr_iter "go*"
    exact h _ _ _ _ (hle.trans hle2) hce hzs hks

theorem law_s2 {sc td ce : Addr} {zs : List Value} {ks : List Int} (hT : TopD B) (hA : EnvL env L cd c0 c1 c2 c3 c4 c5 c6 c7 c8 c9) (hs : seqB "list" B ce zs) (hi : IntsV zs ks) (hlen : ks.length = 5)
    (h : ∀ B' sm us, BLe B B' → seqB "list" B' sm us → IntsV us ((ks.take 3).map fun c => c % 5 - 2) → Q .next B' G ((L, rFr lNs [some (.ref sc), none, none, none, none, none, none, none, none, none, none, none, none, none, none, none]) :: (c0, rCell none) :: (c1, rCell none) :: (c2, rCell none) :: (c3, rCell none) :: (c4, rCell none) :: (c5, rCell none) :: (c6, rCell none) :: (c7, rCell (some (.ref sm))) :: (c8, rCell (some (.ref ce))) :: (c9, rCell (some (.ref td))) :: v)) :
    Ok prg w O (n + 46) B G ((L, rFr lNs [some (.ref sc), none, none, none, none, none, none, none, none, none, none, none, none, none, none, none]) :: (c0, rCell none) :: (c1, rCell none) :: (c2, rCell none) :: (c3, rCell none) :: (c4, rCell none) :: (c5, rCell none) :: (c6, rCell none) :: (c7, rCell none) :: (c8, rCell (some (.ref ce))) :: (c9, rCell (some (.ref td))) :: v) (exec (lawS 2) env) Q := by
  have hE := hA.is lNs lGl (by show chk (scopeAt 21) lNs lGl lCn [] = true; decide +kernel) (by show lCn.Nodup; decide +kernel)
  have hTt := hT.top
  have hzl := hi.length
  conv in (lawS 2) => whnf
  refine Ok.assign1 ?_ (by unfold swapsWith Env.blockKind Env.kindOf; rw [hA.scope]; rfl)
  refine Ok.listcomp hE ["cell"] [] [] [] (by show chkC _ ["cell"] [] [] = true; decide +kernel) (by decide +kernel) nofun nofun ?_ (fun _ => rfl)
  tbr_iter "go*"
  intro sl B1 hle1 hsl
  refine Ok.sub_slice (.inr (hs.mono hle1)) hsl .none (.int 3 _) .none (by decide) (by have : sizeLine = 2 ^ 24 := rfl; (first | lia | omega)) (pick_to zs 3) (fun t3 => ?_) rfl
  refine Ok.iter_list (.inl .here) fun J D C cenv hC => ?_
  refine OkC.comp_start (Ok.self_list (by tbr_iter "has")) ?_
  have h3 := hi.take 3
  have h3l := h3.length
  have h3k : (ks.take 3).length = 3 := by rw [List.length_take]; (first | lia | omega)
  refine OkC.lpG3 (fun (i : Nat) (us : List Value) (co : Option Value) => 3 - i) (fun i us co =>
    (C, rFr ["cell"] [co]) :: (D, rList us) :: (J, rLit t3 i) :: (t3, rList (zs.take 3)) :: (L, rFr lNs [some (.ref sc), none, none, none, none, none, none, none, none, none, none, none, none, none, none, none]) :: (c0, rCell none) :: (c1, rCell none) :: (c2, rCell none) :: (c3, rCell none) :: (c4, rCell none) :: (c5, rCell none) :: (c6, rCell none) :: (c7, rCell none) :: (c8, rCell (some (.ref ce))) :: (c9, rCell (some (.ref td))) :: v) (fun i us co B' => BLe B1 B' ∧ i ≤ 3 ∧ IntsV us (((ks.take 3).take i).map fun c => c % 5 - 2)) ?_ 0 [] none ⟨BLe.refl _, Nat.zero_le _, .nil⟩
  rintro i us co B' ⟨hle, hi3, hus⟩ ih
  have hul := hus.length
  rw [List.length_map, List.length_take] at hul
  refine OkC.comp_turn ?_
  by_cases hlt : i < 3
  · obtain ⟨cv, hcv, tc, rfl⟩ := h3.get (i := i) (b := (ks.take 3)[i]'(by tbr_iter "om")) (List.getElem?_eq_getElem _)
    refine Ok.next_list (by tbr_iter "upd") (.inl (by tbr_iter "has")) hcv ?_
    tbr_iter "go*"
    refine Ok.list_append (by tbr_iter "upd") (by have : sizeLine = 2 ^ 24 := rfl; (first | lia | omega)) ?_
    refine ih (i + 1) _ _ _ (by tbr_iter "om") ⟨hle, by tbr_iter "om", ?_⟩
    have ht : (ks.take 3).take (i + 1) = (ks.take 3).take i ++ [(ks.take 3)[i]'(by tbr_iter "om")] := by rw [List.take_add_one, List.getElem?_eq_getElem (by tbr_iter "om")]; rfl
    rw [ht, List.map_append]
    exact hus.snoc ⟨_, rfl⟩
  · have hie : i = 3 := by tbr_iter "om"
    subst hie
    refine Ok.next_list_end (by tbr_iter "del") (.inl (by tbr_iter "has")) (by rw [List.getElem?_eq_none]; (first | lia | omega)) ?_
    refine ⟨_, _, .here, ?_⟩
    refine Ok.drop (a := t3) (by tbr_iter "del") ?_
    refine Ok.lay .here fun B2 hle2 hsm => ?_
    tbr_iter "go*"
    rw [List.take_of_length_le (by tbr_iter "om")] at hus
    exact h _ _ _ ((hle1.trans hle).trans hle2) hsm hus

theorem law_s3 {sc td ce sm : Addr} {zs us : List Value} {ks : List Int} {a b c : Int} (hT : TopD B) (hA : EnvL env L cd c0 c1 c2 c3 c4 c5 c6 c7 c8 c9) (hs : seqB "list" B ce zs) (hi : IntsV zs ks) (hlen : ks.length = 5)
    (hm : seqB "list" B sm us) (hu : IntsV us [a, b, c])
    (h : ∀ B' sm' us' t, BLe B B' → seqB "list" B' sm' us' → (t = 0 ∨ t = 1) → IntsV us' [a, b, c, t - (a + b + c)] → Q .next B' G ((L, rFr lNs [some (.ref sc), none, none, none, none, none, none, none, none, none, none, none, none, none, none, none]) :: (c0, rCell none) :: (c1, rCell none) :: (c2, rCell none) :: (c3, rCell none) :: (c4, rCell none) :: (c5, rCell none) :: (c6, rCell none) :: (c7, rCell (some (.ref sm'))) :: (c8, rCell (some (.ref ce))) :: (c9, rCell (some (.ref td))) :: v)) :
    Ok prg w O (n + 46) B G ((L, rFr lNs [some (.ref sc), none, none, none, none, none, none, none, none, none, none, none, none, none, none, none]) :: (c0, rCell none) :: (c1, rCell none) :: (c2, rCell none) :: (c3, rCell none) :: (c4, rCell none) :: (c5, rCell none) :: (c6, rCell none) :: (c7, rCell (some (.ref sm))) :: (c8, rCell (some (.ref ce))) :: (c9, rCell (some (.ref td))) :: v) (exec (lawS 3) env) Q := by
  have hE := hA.is lNs lGl (by show chk (scopeAt 21) lNs lGl lCn [] = true; decide +kernel) (by show lCn.Nodup; decide +kernel)
  have hTt := hT.top
  have hzl := hi.length
  have hul := hu.length
  conv in (lawS 3) => whnf
  refine Ok.assign1 ?_ rfl
  tbr_iter "go*"
  refine Ok.listd ?_
  tbr_iter "go*"
  refine Ok.listd ?_
  tbr_iter "go*"
  refine ⟨Nat.le_of_ble_eq_true rfl, fun d1 => ?_⟩
  tbr_iter "go*"
  obtain ⟨c3v, hc3, t3, rfl⟩ := hi.get (i := 3) (b := ks[3]'(by tbr_iter "om")) (List.getElem?_eq_getElem _)
  refine Ok.item_list (.inr hs) (by decide) (by decide) hc3 ?_
  tbr_iter "go*"
  obtain ⟨r, hr⟩ : ∃ r : Nat, ks[3]'(by tbr_iter "om") % 4 = (r : Int) := ⟨(ks[3]'(by tbr_iter "om") % 4).toNat, by tbr_iter "om"⟩
  have hr4 : r < 4 := by tbr_iter "om"
  rw [hr]
  refine Ok.item_ints (is := [0, 0, 0, 1]) (.inl .here) (.cons ⟨_, rfl⟩ (.cons ⟨_, rfl⟩ (.cons ⟨_, rfl⟩ (.cons ⟨_, rfl⟩ .nil)))) (by tbr_iter "om") (by tbr_iter "om") (by rw [Int.toNat_natCast]; exact hr4) (fun tt => ?_)
  obtain ⟨t, ht0⟩ : ∃ t, t = ([0, 0, 0, 1] : List Int).getD (r : Int).toNat 0 := ⟨_, rfl⟩
  have ht : t = 0 ∨ t = 1 := by
    rw [ht0, Int.toNat_natCast]
    rcases r with _ | _ | _ | _ | r
    · exact .inl rfl
    · exact .inl rfl
    · exact .inl rfl
    · exact .inr rfl
    · (first | lia | omega)
  rw [← ht0]
  refine Ok.drop .here ?_
  tbr_iter "go*"
  refine Ok.call_val (f := .builtin "sum") rfl ?_
  tbr_iter "go*"
  refine ⟨rfl, ?_⟩
  tbr_iter "go*"
  refine Ok.sum_list (.inr hm) hu fun ts => ?_
  tbr_iter "go*"
  refine ⟨Nat.le_of_ble_eq_true rfl, fun d2 => ?_⟩
  tbr_iter "go*"
  refine Ok.add_list (.inr hm) (.inl .here) (by rw [hul]; exact Nat.le_of_ble_eq_true rfl) fun d3 => ?_
  refine Ok.drop (a := d2) (by tbr_iter "del") ?_
  refine Ok.lay .here fun B2 hle2 hsm => ?_
  tbr_iter "go*"
  refine h _ _ _ t hle2 hsm ht ?_
  have : ([a, b, c] : List Int).sum = a + b + c := by simp [Int.add_assoc]
  rw [this]
  exact hu.snoc ⟨_, rfl⟩
end
-- part Law3
def pcs : List Str := [Str.ofString "", Str.ofString "\\)", Str.ofString "\"(\"", Str.ofString "\\\""]
def letterOf (s : Int) (j : Nat) : Str := rep (Str.ofString "(") s ++ rep (Str.ofString ")") (-s) ++ pcs.getD j (Str.ofString "")
section
variable {w : World} {O : OsState} {n : Nat} {B : Base} {G : Array GenState} {v : Vol} {Q : Post Flow} {L c0 c1 c2 c3 c4 c5 c6 c7 c8 c9 : Addr} {env : Env} {cd : Value}
theorem law_s4 {sc td ce sm : Addr} (hT : TopD B) (hA : EnvL env L cd c0 c1 c2 c3 c4 c5 c6 c7 c8 c9)
    (h : ∀ B' pc pvs, BLe B B' → seqB "list" B' pc pvs → StrsV pvs pcs → Q .next B' G ((L, rFr lNs [some (.ref sc), none, none, none, none, none, none, none, none, none, none, none, none, none, none, none]) :: (c0, rCell none) :: (c1, rCell none) :: (c2, rCell none) :: (c3, rCell none) :: (c4, rCell none) :: (c5, rCell none) :: (c6, rCell (some (.ref pc))) :: (c7, rCell (some (.ref sm))) :: (c8, rCell (some (.ref ce))) :: (c9, rCell (some (.ref td))) :: v)) :
    Ok prg w O (n + 46) B G ((L, rFr lNs [some (.ref sc), none, none, none, none, none, none, none, none, none, none, none, none, none, none, none]) :: (c0, rCell none) :: (c1, rCell none) :: (c2, rCell none) :: (c3, rCell none) :: (c4, rCell none) :: (c5, rCell none) :: (c6, rCell none) :: (c7, rCell (some (.ref sm))) :: (c8, rCell (some (.ref ce))) :: (c9, rCell (some (.ref td))) :: v) (exec (lawS 4) env) Q := by
  have hE := hA.is lNs lGl (by show chk (scopeAt 21) lNs lGl lCn [] = true; decide +kernel) (by show lCn.Nodup; decide +kernel)
  conv in (lawS 4) => whnf
  refine Ok.assign1 ?_ rfl
  refine Ok.listd ?_
  tbr_iter "go*"
  refine ⟨Nat.le_of_ble_eq_true rfl, fun pc => ?_⟩
  refine Ok.lay .here fun B2 hle2 hpc => ?_
  tbr_iter "go*"
  exact h _ _ _ hle2 hpc (.cons ⟨_, rfl⟩ (.cons ⟨_, rfl⟩ (.cons ⟨_, rfl⟩ (.cons ⟨_, rfl⟩ .nil))))

theorem rep_len (x : Str) (k : Int) : (rep x k).length = k.toNat * x.length := by
  show (List.replicate k.toNat x.cps.toList).flatten.toArray.size = _
  have h3 : x.cps.toList.length = x.length := Array.length_toList
  rw [List.size_toArray, ← h3]; simp
theorem law_s5 {sc td ce sm pc : Addr} {zs us pvs : List Value} {ks ss : List Int} (hT : TopD B) (hA : EnvL env L cd c0 c1 c2 c3 c4 c5 c6 c7 c8 c9) (hs : seqB "list" B ce zs) (hi : IntsV zs ks) (hlen : ks.length = 5)
    (hm : seqB "list" B sm us) (hu : IntsV us ss) (hss : ss.length = 4) (hsb : ∀ s ∈ ss, -20 ≤ s ∧ s ≤ 20) (hp : seqB "list" B pc pvs) (hpv : StrsV pvs pcs)
    (h : ∀ B' lt lvs, BLe B B' → seqB "list" B' lt lvs → StrsV lvs ((List.range 4).map fun k => letterOf (ss.getD k 0) (ks.getD k 0 / 5 % 4).toNat) → Q .next B' G ((L, rFr lNs [some (.ref sc), none, none, none, none, none, none, none, none, none, none, none, none, none, none, none]) :: (c0, rCell none) :: (c1, rCell none) :: (c2, rCell none) :: (c3, rCell none) :: (c4, rCell none) :: (c5, rCell (some (.ref lt))) :: (c6, rCell (some (.ref pc))) :: (c7, rCell (some (.ref sm))) :: (c8, rCell (some (.ref ce))) :: (c9, rCell (some (.ref td))) :: v)) :
    Ok prg w O (n + 46) B G ((L, rFr lNs [some (.ref sc), none, none, none, none, none, none, none, none, none, none, none, none, none, none, none]) :: (c0, rCell none) :: (c1, rCell none) :: (c2, rCell none) :: (c3, rCell none) :: (c4, rCell none) :: (c5, rCell none) :: (c6, rCell (some (.ref pc))) :: (c7, rCell (some (.ref sm))) :: (c8, rCell (some (.ref ce))) :: (c9, rCell (some (.ref td))) :: v) (exec (lawS 5) env) Q := by
  have hE := hA.is lNs lGl (by show chk (scopeAt 21) lNs lGl lCn [] = true; decide +kernel) (by show lCn.Nodup; decide +kernel)
  have hTt := hT.top
  have hzl := hi.length
  have hul := hu.length
  conv in (lawS 5) => whnf
  refine Ok.assign1 ?_ (by unfold swapsWith Env.blockKind Env.kindOf; rw [hA.scope]; rfl)
  refine Ok.listcomp hE ["k"] [] [("small", c7), ("pieces", c6), ("cells", c8)] [] (by show chkC _ ["k"] [] ["small", "pieces", "cells"] = true; decide +kernel) (by decide +kernel) (by
    intro p hp
    simp only [List.mem_cons, List.not_mem_nil, or_false] at hp ⊢
    rcases hp with rfl | rfl | rfl <;> simp) nofun ?_ (fun _ => rfl)
  refine Ok.call_val (f := .type "range") rfl ?_
  tbr_iter "go*"
  refine ⟨rfl, ?_⟩
  tbr_iter "go*"
  refine Ok.range1 fun rg B1 hle1 hrg => ?_
  refine Ok.iter_rngN (a := 0) (b := 4) hrg (by decide) (by decide) fun J D C cenv hC => ?_
  refine OkC.comp_start (Ok.self_rngN (by tbr_iter "has")) ?_
  refine OkC.lpG3 (fun (i : Nat) (lvs : List Value) (ko : Option Value) => 4 - i) (fun i lvs ko =>
    (C, rFr ["k"] [ko]) :: (D, rList lvs) :: (J, rRn i 4) :: (L, rFr lNs [some (.ref sc), none, none, none, none, none, none, none, none, none, none, none, none, none, none, none]) :: (c0, rCell none) :: (c1, rCell none) :: (c2, rCell none) :: (c3, rCell none) :: (c4, rCell none) :: (c5, rCell none) :: (c6, rCell (some (.ref pc))) :: (c7, rCell (some (.ref sm))) :: (c8, rCell (some (.ref ce))) :: (c9, rCell (some (.ref td))) :: v) (fun i lvs ko B' => BLe B1 B' ∧ i ≤ 4 ∧ StrsV lvs ((List.range i).map fun k => letterOf (ss.getD k 0) (ks.getD k 0 / 5 % 4).toNat)) ?_ 0 [] none ⟨BLe.refl _, Nat.zero_le _, .nil⟩
  rintro i lvs ko B' ⟨hle, hi4, hlv⟩ ih
  have hll := hlv.length
  rw [List.length_map, List.length_range] at hll
  have hle01 := hle1.trans hle
  refine OkC.comp_turn ?_
  by_cases hlt : i < 4
  · refine Ok.next_rngN (by tbr_iter "upd") hlt fun ti => ?_
    tbr_iter "go*"
    refine Ok.item_ints (.inr (hm.mono hle01)) hu (by tbr_iter "om") (by tbr_iter "om") (by rw [Int.toNat_natCast]; (first | lia | omega)) fun t1 => ?_
    rw [Int.toNat_natCast]
    obtain ⟨s, hsv⟩ : ∃ s, s = ss.getD i 0 := ⟨_, rfl⟩
    have hsm : -20 ≤ s ∧ s ≤ 20 := by
      rw [hsv, List.getD_eq_getElem?_getD, List.getElem?_eq_getElem (by tbr_iter "om")]
      exact hsb _ (List.getElem_mem _)
    rw [← hsv]
    refine Ok.mul_str (by tbr_iter "om") (by tbr_iter "om") (by decide) fun t2 => ?_
    tbr_iter "go*"
    refine Ok.item_ints (.inr (hm.mono hle01)) hu (by tbr_iter "om") (by tbr_iter "om") (by rw [Int.toNat_natCast]; (first | lia | omega)) fun t3 => ?_
    rw [Int.toNat_natCast, ← hsv]
    tbr_iter "go*"
    refine Ok.mul_str (by tbr_iter "om") (by tbr_iter "om") (by decide) fun t4 => ?_
    have l1 : (rep (Str.ofString "(") s).length ≤ 20 := by
      rw [rep_len]
      show s.toNat * 1 ≤ 20
      (first | lia | omega)
    have l2 : (rep (Str.ofString ")") (-s)).length ≤ 20 := by
      rw [rep_len]
      show (-s).toNat * 1 ≤ 20
      (first | lia | omega)
    refine Ok.cat_str (by rw [strLen_append]; have : sizeLine = 2 ^ 24 := rfl; (first | lia | omega)) fun t5 => ?_
    tbr_iter "go*"
    refine Ok.item_ints (.inr (hs.mono hle01)) hi (by tbr_iter "om") (by tbr_iter "om") (by rw [Int.toNat_natCast]; (first | lia | omega)) fun t6 => ?_
    rw [Int.toNat_natCast]
    tbr_iter "go*"
    obtain ⟨j, hj⟩ : ∃ j : Nat, j = (ks.getD i 0 / 5 % 4).toNat := ⟨_, rfl⟩
    have hj2 : ks.getD i 0 / 5 % 4 = (j : Int) := by tbr_iter "om"
    have hj4 : j < 4 := by tbr_iter "om"
    rw [hj2]
    obtain ⟨pv, hpv1, tp, rfl⟩ := hpv.get (i := j) (b := pcs.getD j (Str.ofString "")) (by rw [List.getD_eq_getElem?_getD, List.getElem?_eq_getElem (show j < pcs.length from hj4)]; rfl)
    refine Ok.item_list (.inr (hp.mono hle01)) (by tbr_iter "om") (by tbr_iter "om") (by rw [Int.toNat_natCast]; exact hpv1) ?_
    have l3 : (pcs.getD j (Str.ofString "")).length ≤ 3 := by
      rcases j with _ | _ | _ | _ | j
      · decide
      · decide
      · decide
      · decide
      · (first | lia | omega)
    refine Ok.cat_str (by rw [strLen_append, strLen_append]; have : sizeLine = 2 ^ 24 := rfl; (first | lia | omega)) fun t7 => ?_
    refine Ok.list_append (by tbr_iter "upd") (by have : sizeLine = 2 ^ 24 := rfl; (first | lia | omega)) ?_
    refine ih (i + 1) _ _ _ (by tbr_iter "om") ⟨hle, by tbr_iter "om", ?_⟩
    rw [List.range_succ, List.map_append]
    refine hlv.snoc ⟨t7, ?_⟩
    show _ = Value.str (letterOf (ss.getD i 0) (ks.getD i 0 / 5 % 4).toNat) t7
    rw [← hj, ← hsv]; rfl
  · have hie : i = 4 := by tbr_iter "om"
    subst hie
    refine Ok.next_rngN_end (by tbr_iter "del") (by tbr_iter "om") ?_
    refine ⟨_, _, .here, ?_⟩
    refine Ok.lay .here fun B2 hle2 hsm => ?_
    tbr_iter "go*"
    exact h _ _ _ (hle01.trans hle2) hsm hlv

theorem law_s6 {sc td ce sm pc lt : Addr} {zs : List Value} {ks : List Int} (hT : TopD B) (hA : EnvL env L cd c0 c1 c2 c3 c4 c5 c6 c7 c8 c9) (hs : seqB "list" B ce zs) (hi : IntsV zs ks) (hlen : ks.length = 5)
    (h : ∀ nr : Bool, Q .next B G ((L, rFr lNs [some (.ref sc), none, some (.bool nr), none, none, none, none, none, none, none, none, none, none, none, none, none]) :: (c0, rCell none) :: (c1, rCell none) :: (c2, rCell none) :: (c3, rCell none) :: (c4, rCell none) :: (c5, rCell (some (.ref lt))) :: (c6, rCell (some (.ref pc))) :: (c7, rCell (some (.ref sm))) :: (c8, rCell (some (.ref ce))) :: (c9, rCell (some (.ref td))) :: v)) :
    Ok prg w O (n + 46) B G ((L, rFr lNs [some (.ref sc), none, none, none, none, none, none, none, none, none, none, none, none, none, none, none]) :: (c0, rCell none) :: (c1, rCell none) :: (c2, rCell none) :: (c3, rCell none) :: (c4, rCell none) :: (c5, rCell (some (.ref lt))) :: (c6, rCell (some (.ref pc))) :: (c7, rCell (some (.ref sm))) :: (c8, rCell (some (.ref ce))) :: (c9, rCell (some (.ref td))) :: v) (exec (lawS 6) env) Q := by
  have hE := hA.is lNs lGl (by show chk (scopeAt 21) lNs lGl lCn [] = true; decide +kernel) (by show lCn.Nodup; decide +kernel)
  conv in (lawS 6) => whnf
  tbr_iter "go*"
  refine Ok.item_ints (.inr hs) hi (by decide) (by decide) (by show 4 < ks.length; (first | lia | omega)) fun t6 => ?_
  tbr_iter "go*"
  exact h _

theorem law_s7 {sc td ce sm pc lt : Addr} {zs : List Value} {ks : List Int} {nr : Bool} (hT : TopD B) (hA : EnvL env L cd c0 c1 c2 c3 c4 c5 c6 c7 c8 c9) (hs : seqB "list" B ce zs) (hi : IntsV zs ks) (hlen : ks.length = 5)
    (h : ∀ (m : Int) tm, 2 ≤ m → m ≤ 1001 → (nr = true → m ≤ 30) → Q .next B G ((L, rFr lNs [some (.ref sc), none, some (.bool nr), none, none, none, none, none, none, none, none, none, none, none, none, none]) :: (c0, rCell none) :: (c1, rCell none) :: (c2, rCell none) :: (c3, rCell none) :: (c4, rCell (some (.int m tm))) :: (c5, rCell (some (.ref lt))) :: (c6, rCell (some (.ref pc))) :: (c7, rCell (some (.ref sm))) :: (c8, rCell (some (.ref ce))) :: (c9, rCell (some (.ref td))) :: v)) :
    Ok prg w O (n + 46) B G ((L, rFr lNs [some (.ref sc), none, some (.bool nr), none, none, none, none, none, none, none, none, none, none, none, none, none]) :: (c0, rCell none) :: (c1, rCell none) :: (c2, rCell none) :: (c3, rCell none) :: (c4, rCell none) :: (c5, rCell (some (.ref lt))) :: (c6, rCell (some (.ref pc))) :: (c7, rCell (some (.ref sm))) :: (c8, rCell (some (.ref ce))) :: (c9, rCell (some (.ref td))) :: v) (exec (lawS 7) env) Q := by
  have hE := hA.is lNs lGl (by show chk (scopeAt 21) lNs lGl lCn [] = true; decide +kernel) (by show lCn.Nodup; decide +kernel)
  conv in (lawS 7) => whnf
  tbr_iter "go*"
  refine Ok.item_ints (.inr hs) hi (by decide) (by decide) (by show 4 < ks.length; (first | lia | omega)) fun t6 => ?_
  tbr_iter "go*"
  cases nr with
  | true =>
    tbr_iter "go*"
    exact h _ _ (by tbr_iter "om") (by tbr_iter "om") (fun _ => by tbr_iter "om")
  | false =>
    tbr_iter "go*"
    exact h _ _ (by tbr_iter "om") (by tbr_iter "om") (fun q => by cases q)
end
-- part Law4
section
variable {w : World} {O : OsState} {n : Nat} {B : Base} {G : Array GenState} {v : Vol} {Q : Post Flow} {L c0 c1 c2 c3 c4 c5 c6 c7 c8 c9 : Addr} {env : Env} {cd : Value}
theorem mul_ok {a b : Int} (h1 : -100000 ≤ a) (h2 : a ≤ 100000) : IntMulOk a b := IntMulOk.of_left (intBits_le_64 (by tbr_iter "om") (by tbr_iter "om"))
theorem law_s8 {sc td ce sm pc lt : Addr} {zs us : List Value} {ks ss : List Int} {nr : Bool} {m : Int} {tm : Tok} (hT : TopD B) (hA : EnvL env L cd c0 c1 c2 c3 c4 c5 c6 c7 c8 c9) (hs : seqB "list" B ce zs) (hi : IntsV zs ks) (hlen : ks.length = 5)
    (hm : seqB "list" B sm us) (hu : IntsV us ss) (hss : ss.length = 4) (hsb : ∀ s ∈ ss, -20 ≤ s ∧ s ≤ 20) (hm1 : 2 ≤ m) (hm2 : m ≤ 1001) (hm3 : nr = true → m ≤ 30)
    (h : ∀ B' wt wvs (ws : List Int), BLe B B' → seqB "list" B' wt wvs → IntsV wvs ws → ws.length = 4 → (∀ x ∈ ws, -6000 ≤ x ∧ x ≤ 6000) → (nr = true → ∀ k, k < 4 → ∃ q, ws.getD k 0 = ss.getD k 0 + m * q) → Q .next B' G ((L, rFr lNs [some (.ref sc), none, some (.bool nr), none, none, none, none, none, none, none, none, none, none, none, none, none]) :: (c0, rCell none) :: (c1, rCell none) :: (c2, rCell none) :: (c3, rCell (some (.ref wt))) :: (c4, rCell (some (.int m tm))) :: (c5, rCell (some (.ref lt))) :: (c6, rCell (some (.ref pc))) :: (c7, rCell (some (.ref sm))) :: (c8, rCell (some (.ref ce))) :: (c9, rCell (some (.ref td))) :: v)) :
    Ok prg w O (n + 46) B G ((L, rFr lNs [some (.ref sc), none, some (.bool nr), none, none, none, none, none, none, none, none, none, none, none, none, none]) :: (c0, rCell none) :: (c1, rCell none) :: (c2, rCell none) :: (c3, rCell none) :: (c4, rCell (some (.int m tm))) :: (c5, rCell (some (.ref lt))) :: (c6, rCell (some (.ref pc))) :: (c7, rCell (some (.ref sm))) :: (c8, rCell (some (.ref ce))) :: (c9, rCell (some (.ref td))) :: v) (exec (lawS 8) env) Q := by
  have hE := hA.is lNs lGl (by show chk (scopeAt 21) lNs lGl lCn [] = true; decide +kernel) (by show lCn.Nodup; decide +kernel)
  have hTt := hT.top
  have hzl := hi.length
  have hul := hu.length
  conv in (lawS 8) => whnf
  tbr_iter "go*"
  cases nr with
  | true =>
    have hm30 := hm3 rfl
    tbr_iter "go*"
    refine Ok.assign1 ?_ (by unfold swapsWith Env.blockKind Env.kindOf; rw [hA.scope]; rfl)
    refine Ok.listcomp hE ["k"] [] [("small", c7), ("modulus", c4), ("cells", c8)] [] (by show chkC _ ["k"] [] ["small", "modulus", "cells"] = true; decide +kernel) (by decide +kernel) (by
      intro p hp
      simp only [List.mem_cons, List.not_mem_nil, or_false] at hp ⊢
      rcases hp with rfl | rfl | rfl <;> simp) nofun ?_ (fun _ => rfl)
    refine Ok.call_val (f := .type "range") rfl ?_
    tbr_iter "go*"
    refine ⟨rfl, ?_⟩
    tbr_iter "go*"
    refine Ok.range1 fun rg B1 hle1 hrg => ?_
    refine Ok.iter_rngN (a := 0) (b := 4) hrg (by decide) (by decide) fun J D C cenv hC => ?_
    refine OkC.comp_start (Ok.self_rngN (by tbr_iter "has")) ?_
    refine OkC.lpG4 (fun (i : Nat) (wvs : List Value) (ws : List Int) (ko : Option Value) => 4 - i) (fun i wvs ws ko =>
    (C, rFr ["k"] [ko]) :: (D, rList wvs) :: (J, rRn i 4) :: (L, rFr lNs [some (.ref sc), none, some (.bool true), none, none, none, none, none, none, none, none, none, none, none, none, none]) :: (c0, rCell none) :: (c1, rCell none) :: (c2, rCell none) :: (c3, rCell none) :: (c4, rCell (some (.int m tm))) :: (c5, rCell (some (.ref lt))) :: (c6, rCell (some (.ref pc))) :: (c7, rCell (some (.ref sm))) :: (c8, rCell (some (.ref ce))) :: (c9, rCell (some (.ref td))) :: v) (fun i wvs ws ko B' => BLe B1 B' ∧ i ≤ 4 ∧ IntsV wvs ws ∧ ws.length = i ∧ (∀ x ∈ ws, -6000 ≤ x ∧ x ≤ 6000) ∧ (∀ k, k < i → ∃ q, ws.getD k 0 = ss.getD k 0 + m * q)) ?_ 0 [] [] none ⟨BLe.refl _, Nat.zero_le _, .nil, rfl, by simp, fun k hk => by tbr_iter "om"⟩
    rintro i wvs ws ko B' ⟨hle, hi4, hwv, hwl, hwb, hwq⟩ ih
    have hwvl := hwv.length
    have hle01 := hle1.trans hle
    refine OkC.comp_turn ?_
    by_cases hlt : i < 4
    · refine Ok.next_rngN (by tbr_iter "upd") hlt fun ti => ?_
      tbr_iter "go*"
      refine Ok.item_ints (.inr (hm.mono hle01)) hu (by tbr_iter "om") (by tbr_iter "om") (by rw [Int.toNat_natCast]; (first | lia | omega)) fun t1 => ?_
      rw [Int.toNat_natCast]
      obtain ⟨s, hsv⟩ : ∃ s, s = ss.getD i 0 := ⟨_, rfl⟩
      have hsm : -20 ≤ s ∧ s ≤ 20 := by
        rw [hsv, List.getD_eq_getElem?_getD, List.getElem?_eq_getElem (by tbr_iter "om")]
        exact hsb _ (List.getElem_mem _)
      rw [← hsv]
      tbr_iter "go*"
      refine Ok.listd ?_
      tbr_iter "go*"
      refine ⟨Nat.le_of_ble_eq_true rfl, fun pm => ?_⟩
      tbr_iter "go*"
      refine Ok.item_ints (is := [1, -1]) (.inl .here) (.cons ⟨_, rfl⟩ (.cons ⟨_, rfl⟩ .nil)) (by tbr_iter "om") (by tbr_iter "om") (by show ((i : Int) % 2).toNat < 2; (first | lia | omega)) fun t2 => ?_
      obtain ⟨sg, hsg⟩ : ∃ sg, sg = ([1, -1] : List Int).getD ((i : Int) % 2).toNat 0 := ⟨_, rfl⟩
      have hsg2 : sg = 1 ∨ sg = -1 := by
        have : ((i : Int) % 2).toNat = 0 ∨ ((i : Int) % 2).toNat = 1 := by tbr_iter "om"
        rw [hsg]
        rcases this with q | q
        · rw [q]; exact .inl rfl
        · rw [q]; exact .inr rfl
      rw [← hsg]
      refine Ok.drop .here ?_
      refine Ok.mul_int (mul_ok (by tbr_iter "om") (by tbr_iter "om")) fun _ => ?_
      tbr_iter "go*"
      refine Ok.item_ints (.inr (hs.mono hle01)) hi (by tbr_iter "om") (by tbr_iter "om") (by rw [Int.toNat_natCast]; (first | lia | omega)) fun t6 => ?_
      rw [Int.toNat_natCast]
      tbr_iter "go*"
      have hms : -30 ≤ m * sg ∧ m * sg ≤ 30 := by rcases hsg2 with q | q <;> rw [q] <;> (first | lia | omega)
      refine Ok.mul_int (mul_ok (by tbr_iter "om") (by tbr_iter "om")) fun _ => ?_
      tbr_iter "go*"
      obtain ⟨cc, hcc⟩ : ∃ cc, cc = ks.getD i 0 / 5 % 100 := ⟨_, rfl⟩
      rw [← hcc]
      have hcb : 0 ≤ cc ∧ cc ≤ 99 := by tbr_iter "om"
      have hprod : -2970 ≤ m * sg * cc ∧ m * sg * cc ≤ 2970 := by
        have e1 : m * sg * cc ≤ 30 * cc := Int.mul_le_mul_of_nonneg_right hms.2 hcb.1
        have e2 : -30 * cc ≤ m * sg * cc := Int.mul_le_mul_of_nonneg_right hms.1 hcb.1
        (first | lia | omega)
      refine Ok.list_append (by tbr_iter "upd") (by have : sizeLine = 2 ^ 24 := rfl; (first | lia | omega)) ?_
      refine ih (i + 1) _ (ws ++ [s + m * sg * cc]) _ _ (by tbr_iter "om") ⟨hle, by tbr_iter "om", hwv.snoc ⟨_, rfl⟩, by rw [List.length_append, hwl]; rfl, ?_, ?_⟩
      · intro x hx
        rcases List.mem_append.mp hx with hx | hx
        · exact hwb x hx
        · simp only [List.mem_cons, List.not_mem_nil, or_false] at hx
          subst hx; (first | lia | omega)
      · intro k hk
        by_cases hki : k < i
        · obtain ⟨q, hq⟩ := hwq k hki
          refine ⟨q, ?_⟩
          rw [← hq, List.getD_eq_getElem?_getD, List.getElem?_append_left (by tbr_iter "om"), ← List.getD_eq_getElem?_getD]
        · have hki : k = i := by tbr_iter "om"
          subst hki
          refine ⟨sg * cc, ?_⟩
          rw [List.getD_eq_getElem?_getD, List.getElem?_append_right (by tbr_iter "om"), hwl, Nat.sub_self, ← hsv, ← Int.mul_assoc]; rfl
    · have hie : i = 4 := by tbr_iter "om"
      subst hie
      refine Ok.next_rngN_end (by tbr_iter "del") (by tbr_iter "om") ?_
      refine ⟨_, _, .here, ?_⟩
      refine Ok.lay .here fun B2 hle2 hsm => ?_
      tbr_iter "go*"
      exact h _ _ _ _ (hle01.trans hle2) hsm hwv hwl hwb fun _ => hwq
  | false =>
    tbr_iter "go*"
    refine Ok.assign1 ?_ (by unfold swapsWith Env.blockKind Env.kindOf; rw [hA.scope]; rfl)
    refine Ok.listcomp hE ["cell"] [] [] [] (by show chkC _ ["cell"] [] [] = true; decide +kernel) (by decide +kernel) nofun nofun ?_ (fun _ => rfl)
    tbr_iter "go*"
    intro sl B1 hle1 hsl
    refine Ok.sub_slice (.inr (hs.mono hle1)) hsl .none (.int 4 _) .none (by decide) (by have : sizeLine = 2 ^ 24 := rfl; (first | lia | omega)) (pick_to zs 4) (fun t3 => ?_) rfl
    refine Ok.iter_list (.inl .here) fun J D C cenv hC => ?_
    refine OkC.comp_start (Ok.self_list (by tbr_iter "has")) ?_
    have h3 := hi.take 4
    have h3l := h3.length
    have h3k : (ks.take 4).length = 4 := by rw [List.length_take]; (first | lia | omega)
    refine OkC.lpG4 (fun (i : Nat) (wvs : List Value) (ws : List Int) (co : Option Value) => 4 - i) (fun i wvs ws co =>
    (C, rFr ["cell"] [co]) :: (D, rList wvs) :: (J, rLit t3 i) :: (t3, rList (zs.take 4)) :: (L, rFr lNs [some (.ref sc), none, some (.bool false), none, none, none, none, none, none, none, none, none, none, none, none, none]) :: (c0, rCell none) :: (c1, rCell none) :: (c2, rCell none) :: (c3, rCell none) :: (c4, rCell (some (.int m tm))) :: (c5, rCell (some (.ref lt))) :: (c6, rCell (some (.ref pc))) :: (c7, rCell (some (.ref sm))) :: (c8, rCell (some (.ref ce))) :: (c9, rCell (some (.ref td))) :: v) (fun i wvs ws co B' => BLe B1 B' ∧ i ≤ 4 ∧ IntsV wvs ws ∧ ws.length = i ∧ (∀ x ∈ ws, -6000 ≤ x ∧ x ≤ 6000)) ?_ 0 [] [] none ⟨BLe.refl _, Nat.zero_le _, .nil, rfl, by simp⟩
    rintro i wvs ws co B' ⟨hle, hi4, hwv, hwl, hwb⟩ ih
    have hwvl := hwv.length
    refine OkC.comp_turn ?_
    by_cases hlt : i < 4
    · obtain ⟨cv, hcv, tc, rfl⟩ := h3.get (i := i) (b := (ks.take 4)[i]'(by tbr_iter "om")) (List.getElem?_eq_getElem _)
      refine Ok.next_list (by tbr_iter "upd") (.inl (by tbr_iter "has")) hcv ?_
      tbr_iter "go*"
      refine Ok.list_append (by tbr_iter "upd") (by have : sizeLine = 2 ^ 24 := rfl; (first | lia | omega)) ?_
      refine ih (i + 1) _ (ws ++ [(ks.take 4)[i]'(by tbr_iter "om") % 10001 - 5000]) _ _ (by tbr_iter "om") ⟨hle, by tbr_iter "om", hwv.snoc ⟨_, rfl⟩, by rw [List.length_append, hwl]; rfl, ?_⟩
      intro x hx
      rcases List.mem_append.mp hx with hx | hx
      · exact hwb x hx
      · simp only [List.mem_cons, List.not_mem_nil, or_false] at hx
        subst hx; (first | lia | omega)
    · have hie : i = 4 := by tbr_iter "om"
      subst hie
      refine Ok.next_list_end (by tbr_iter "del") (.inl (by tbr_iter "has")) (by rw [List.getElem?_eq_none]; (first | lia | omega)) ?_
      refine ⟨_, _, .here, ?_⟩
      refine Ok.drop (a := t3) (by tbr_iter "del") ?_
      refine Ok.lay .here fun B2 hle2 hsm => ?_
      tbr_iter "go*"
      exact h _ _ _ _ ((hle1.trans hle).trans hle2) hsm hwv hwl hwb (fun q => by cases q)

theorem law_s9 {sc td ce sm pc lt wt : Addr} {nr : Bool} {m : Int} {tm : Tok} (hT : TopD B) (hA : EnvL env L cd c0 c1 c2 c3 c4 c5 c6 c7 c8 c9)
    (h : ∀ rt, Q .next B G ((rt, rList []) :: (L, rFr lNs [some (.ref sc), none, some (.bool nr), none, none, none, none, none, none, none, none, none, none, none, none, none]) :: (c0, rCell none) :: (c1, rCell none) :: (c2, rCell (some (.ref rt))) :: (c3, rCell (some (.ref wt))) :: (c4, rCell (some (.int m tm))) :: (c5, rCell (some (.ref lt))) :: (c6, rCell (some (.ref pc))) :: (c7, rCell (some (.ref sm))) :: (c8, rCell (some (.ref ce))) :: (c9, rCell (some (.ref td))) :: v)) :
    Ok prg w O (n + 46) B G ((L, rFr lNs [some (.ref sc), none, some (.bool nr), none, none, none, none, none, none, none, none, none, none, none, none, none]) :: (c0, rCell none) :: (c1, rCell none) :: (c2, rCell none) :: (c3, rCell (some (.ref wt))) :: (c4, rCell (some (.int m tm))) :: (c5, rCell (some (.ref lt))) :: (c6, rCell (some (.ref pc))) :: (c7, rCell (some (.ref sm))) :: (c8, rCell (some (.ref ce))) :: (c9, rCell (some (.ref td))) :: v) (exec (lawS 9) env) Q := by
  have hE := hA.is lNs lGl (by show chk (scopeAt 21) lNs lGl lCn [] = true; decide +kernel) (by show lCn.Nodup; decide +kernel)
  conv in (lawS 9) => whnf
  refine Ok.assign1 ?_ rfl
  refine Ok.listd ?_
  tbr_iter "go*"
  refine ⟨Nat.le_of_ble_eq_true rfl, fun rt => ?_⟩
  tbr_iter "go*"
  exact h rt
end
-- part Law5
/-- the level of a set of letters -/
def levelTo (ws : List Int) (mask : Nat) (j : Nat) : List Int := ((List.range j).filter fun k => decide (mask / 2 ^ k % 2 = 1)).map fun k => ws.getD k 0
def lvlE : Expr := match lawS 10 with
  | .For _ _ (.Assign _ (.Call _ [x] _ _) _ :: _) _ _ => x
  | _ => default
def levelOf (ws : List Int) (mask : Nat) : Int := (levelTo ws mask 4).sum
section
variable {w : World} {O : OsState} {n : Nat} {B : Base} {G : Array GenState} {v : Vol} {L c0 c1 c2 c3 c4 c5 c6 c7 c8 c9 : Addr} {env : Env} {cd : Value}
theorem law_level {sc td ce sm pc lt wt rt : Addr} {wvs rv : List Value} {ws : List Int} {nr : Bool} {m : Int} {tm tk : Tok} {mask : Nat} {lo go : Option Value} {ps qs : Array Value} {Q : Post Value} (hT : TopD B) (hA : EnvL env L cd c0 c1 c2 c3 c4 c5 c6 c7 c8 c9) (hmask : mask < 16)
    (hw : seqB "list" B wt wvs) (hi : IntsV wvs ws) (hlen : ws.length = 4) (I : Addr)
    (h : ∀ B' a lv, BLe B B' → IntsV lv (levelTo ws mask 4) → Q (.ref a) B' G ((a, rList lv) :: (66, rTb ps) :: (73, rTb qs) :: (I, rRn (mask + 1) 16) :: (rt, rList rv) :: (L, rFr lNs [some (.ref sc), none, some (.bool nr), lo, go, none, none, none, none, none, none, none, none, none, none, none]) :: (c0, rCell none) :: (c1, rCell (some (.int (mask : Nat) tk))) :: (c2, rCell (some (.ref rt))) :: (c3, rCell (some (.ref wt))) :: (c4, rCell (some (.int m tm))) :: (c5, rCell (some (.ref lt))) :: (c6, rCell (some (.ref pc))) :: (c7, rCell (some (.ref sm))) :: (c8, rCell (some (.ref ce))) :: (c9, rCell (some (.ref td))) :: v)) :
    Ok prg w O (n + 46) B G ((66, rTb ps) :: (73, rTb qs) :: (I, rRn (mask + 1) 16) :: (rt, rList rv) :: (L, rFr lNs [some (.ref sc), none, some (.bool nr), lo, go, none, none, none, none, none, none, none, none, none, none, none]) :: (c0, rCell none) :: (c1, rCell (some (.int (mask : Nat) tk))) :: (c2, rCell (some (.ref rt))) :: (c3, rCell (some (.ref wt))) :: (c4, rCell (some (.int m tm))) :: (c5, rCell (some (.ref lt))) :: (c6, rCell (some (.ref pc))) :: (c7, rCell (some (.ref sm))) :: (c8, rCell (some (.ref ce))) :: (c9, rCell (some (.ref td))) :: v) (eval lvlE env) Q := by
  have hE := hA.is lNs lGl (by show chk (scopeAt 21) lNs lGl lCn [] = true; decide +kernel) (by show lCn.Nodup; decide +kernel)
  have hTt := hT.top
  have hwl := hi.length
  conv in lvlE => whnf
  refine Ok.listcomp hE ["k"] [] [("weights", c3), ("mask", c1)] [] (by show chkC _ ["k"] [] ["weights", "mask"] = true; decide +kernel) (by decide +kernel) (by
    intro p hp
    simp only [List.mem_cons, List.not_mem_nil, or_false] at hp ⊢
    rcases hp with rfl | rfl <;> simp) nofun ?_ (fun _ => rfl)
  refine Ok.call_val (f := .type "range") rfl ?_
  tbr_iter "go*"
  refine ⟨rfl, ?_⟩
  tbr_iter "go*"
  refine Ok.range1 fun rg B1 hle1 hrg => ?_
  refine Ok.iter_rngN (a := 0) (b := 4) hrg (by decide) (by decide) fun J D C cenv hC => ?_
  refine OkC.comp_start (Ok.self_rngN (by tbr_iter "has")) ?_
  refine OkC.lpG3 (fun (i : Nat) (lv : List Value) (ko : Option Value) => 4 - i) (fun i lv ko =>
    (C, rFr ["k"] [ko]) :: (D, rList lv) :: (J, rRn i 4) :: (66, rTb ps) :: (73, rTb qs) :: (I, rRn (mask + 1) 16) :: (rt, rList rv) :: (L, rFr lNs [some (.ref sc), none, some (.bool nr), lo, go, none, none, none, none, none, none, none, none, none, none, none]) :: (c0, rCell none) :: (c1, rCell (some (.int (mask : Nat) tk))) :: (c2, rCell (some (.ref rt))) :: (c3, rCell (some (.ref wt))) :: (c4, rCell (some (.int m tm))) :: (c5, rCell (some (.ref lt))) :: (c6, rCell (some (.ref pc))) :: (c7, rCell (some (.ref sm))) :: (c8, rCell (some (.ref ce))) :: (c9, rCell (some (.ref td))) :: v) (fun i lv ko B' => BLe B1 B' ∧ i ≤ 4 ∧ IntsV lv (levelTo ws mask i)) ?_ 0 [] none ⟨BLe.refl _, Nat.zero_le _, .nil⟩
  rintro i lv ko B' ⟨hle, hi4, hlv⟩ ih
  have hle01 := hle1.trans hle
  have hll := hlv.length
  have hll2 : (levelTo ws mask i).length ≤ i := by
    unfold levelTo
    rw [List.length_map]
    exact Nat.le_trans (List.length_filter_le _ _) (by simp)
  refine OkC.comp_turn ?_
  by_cases hlt : i < 4
  · refine Ok.next_rngN (by tbr_iter "upd") hlt fun ti => ?_
    tbr_iter "go*"
    refine Ok.pow_int (by tbr_iter "om") (by show ((2 : Nat) : Int) * (i : Int) ≤ _; (first | lia | omega)) fun _ => ?_
    rw [Int.toNat_natCast]
    have hp : (2 : Int) ^ i = ((2 ^ i : Nat) : Int) := by simp
    have hp2 : 2 ^ i ≤ 2 ^ 4 := Nat.pow_le_pow_right (by decide) hi4
    have hp3 : 0 < 2 ^ i := Nat.two_pow_pos _
    rw [hp]
    tbr_iter "go*"
    have hd : (mask : Int) / ((2 ^ i : Nat) : Int) % 2 = ((mask / 2 ^ i % 2 : Nat) : Int) := by simp
    rw [hd]
    have hlv1 : levelTo ws mask (i + 1) = levelTo ws mask i ++ (if mask / 2 ^ i % 2 = 1 then [ws.getD i 0] else []) := by
      unfold levelTo
      rw [List.range_succ, List.filter_append, List.map_append]
      congr 1
      rw [List.filter_cons]
      by_cases hb : mask / 2 ^ i % 2 = 1
      · rw [if_pos (decide_eq_true hb), if_pos hb]; rfl
      · rw [if_neg (by rw [decide_eq_false hb]; exact Bool.false_ne_true), if_neg hb]; rfl
    refine if_sp (fun hb => ?_) (fun hb => ?_)
    · have hb : mask / 2 ^ i % 2 = 1 := by tbr_iter "om"
      rw [if_pos hb] at hlv1
      tbr_iter "go*"
      refine Ok.item_ints (.inr (hw.mono hle01)) hi (by tbr_iter "om") (by tbr_iter "om") (by rw [Int.toNat_natCast]; (first | lia | omega)) fun t1 => ?_
      rw [Int.toNat_natCast]
      refine Ok.list_append (by tbr_iter "upd") (by have : sizeLine = 2 ^ 24 := rfl; (first | lia | omega)) ?_
      exact ih (i + 1) _ _ _ (by tbr_iter "om") ⟨hle, by tbr_iter "om", by rw [hlv1]; exact hlv.snoc ⟨_, rfl⟩⟩
    · have hb : ¬ mask / 2 ^ i % 2 = 1 := by tbr_iter "om"
      rw [if_neg hb, List.append_nil] at hlv1
      exact ih (i + 1) _ _ _ (by tbr_iter "om") ⟨hle, by tbr_iter "om", by rw [hlv1]; exact hlv⟩
  · have hie : i = 4 := by tbr_iter "om"
    subst hie
    refine Ok.next_rngN_end (by tbr_iter "del") (by tbr_iter "om") ?_
    exact ⟨_, _, .here, h _ _ _ hle01 hlv⟩

theorem sum_bound : ∀ (l : List Int), (∀ x ∈ l, -6000 ≤ x ∧ x ≤ 6000) → l.length ≤ 4 → -24000 ≤ l.sum ∧ l.sum ≤ 24000 := by
  intro l hl hn
  have key : ∀ (l : List Int), (∀ x ∈ l, -6000 ≤ x ∧ x ≤ 6000) → -6000 * (l.length : Int) ≤ l.sum ∧ l.sum ≤ 6000 * (l.length : Int) := by
    intro l
    induction l with
    | nil => intro _; simp
    | cons a l ih =>
      intro h
      have h1 := h a List.mem_cons_self
      have h2 := ih fun x hx => h x (List.mem_cons_of_mem _ hx)
      rw [List.sum_cons, List.length_cons]
      (first | lia | omega)
  have := key l hl
  (first | lia | omega)
theorem level_bound {ws : List Int} (hb : ∀ x ∈ ws, -6000 ≤ x ∧ x ≤ 6000) (mask : Nat) : -24000 ≤ levelOf ws mask ∧ levelOf ws mask ≤ 24000 := by
  refine sum_bound _ (fun x hx => ?_) ?_
  · unfold levelTo at hx
    obtain ⟨k, _, rfl⟩ := List.mem_map.mp hx
    rw [List.getD_eq_getElem?_getD]
    cases q : ws[k]? with
    | none => exact ⟨by decide, by decide⟩
    | some y => exact hb y (List.mem_of_getElem? q)
  · unfold levelTo
    rw [List.length_map]
    exact Nat.le_trans (List.length_filter_le _ _) (by simp)
def restsOf (ws : List Int) (m : Int) (i : Nat) : List Int := (List.range i).map fun mask => -(levelOf ws mask % m)
theorem law_s10 {sc td ce sm pc lt wt rt : Addr} {wvs : List Value} {ws : List Int} {nr : Bool} {m : Int} {tm : Tok} {ps qs : Array Value} {Q : Post Flow} (hT : TopD B) (h9 : Tab9 B ps) (h10 : Tab10 B qs) (hA : EnvL env L cd c0 c1 c2 c3 c4 c5 c6 c7 c8 c9)
    (hw : seqB "list" B wt wvs) (hi : IntsV wvs ws) (hlen : ws.length = 4) (hb : ∀ x ∈ ws, -6000 ≤ x ∧ x ≤ 6000) (hm1 : 2 ≤ m) (hm2 : m ≤ 1001)
    (h : ∀ B' ps' qs' rv lo go mo, BLe B B' → IntsV rv (restsOf ws m 16) → Q .next B' G ((66, rTb ps') :: (73, rTb qs') :: (rt, rList rv) :: (L, rFr lNs [some (.ref sc), none, some (.bool nr), lo, go, none, none, none, none, none, none, none, none, none, none, none]) :: (c0, rCell none) :: (c1, rCell mo) :: (c2, rCell (some (.ref rt))) :: (c3, rCell (some (.ref wt))) :: (c4, rCell (some (.int m tm))) :: (c5, rCell (some (.ref lt))) :: (c6, rCell (some (.ref pc))) :: (c7, rCell (some (.ref sm))) :: (c8, rCell (some (.ref ce))) :: (c9, rCell (some (.ref td))) :: v)) :
    Ok prg w O (n + 46) B G ((66, rTb ps) :: (73, rTb qs) :: (rt, rList []) :: (L, rFr lNs [some (.ref sc), none, some (.bool nr), none, none, none, none, none, none, none, none, none, none, none, none, none]) :: (c0, rCell none) :: (c1, rCell none) :: (c2, rCell (some (.ref rt))) :: (c3, rCell (some (.ref wt))) :: (c4, rCell (some (.int m tm))) :: (c5, rCell (some (.ref lt))) :: (c6, rCell (some (.ref pc))) :: (c7, rCell (some (.ref sm))) :: (c8, rCell (some (.ref ce))) :: (c9, rCell (some (.ref td))) :: v) (exec (lawS 10) env) Q := by
  have hE := hA.is lNs lGl (by show chk (scopeAt 21) lNs lGl lCn [] = true; decide +kernel) (by show lCn.Nodup; decide +kernel)
  have hTt := hT.top
  conv in (lawS 10) => whnf
  tbr_iter "go*"
  refine Ok.call_val (f := .type "range") rfl ?_
  tbr_iter "go*"
  refine ⟨rfl, ?_⟩
  tbr_iter "go*"
  refine Ok.range1 fun rg B1 hle1 hrg => ?_
  refine Ok.iter_rngN (a := 0) (b := 16) hrg (by decide) (by decide) fun I => ?_
  refine OkC.pull (a := 73) (by tbr_iter "del") ?_
  refine OkC.pull (a := 66) (by tbr_iter "del") ?_
  refine OkC.lpG7 (fun (i : Nat) (p' : Array Value) (q' : Array Value) (rv : List Value) (lo : Option Value) (go : Option Value) (mo : Option Value) => 16 - i) (fun i p' q' rv lo go mo =>
    (66, rTb p') :: (73, rTb q') :: (I, rRn i 16) :: (rt, rList rv) :: (L, rFr lNs [some (.ref sc), none, some (.bool nr), lo, go, none, none, none, none, none, none, none, none, none, none, none]) :: (c0, rCell none) :: (c1, rCell mo) :: (c2, rCell (some (.ref rt))) :: (c3, rCell (some (.ref wt))) :: (c4, rCell (some (.int m tm))) :: (c5, rCell (some (.ref lt))) :: (c6, rCell (some (.ref pc))) :: (c7, rCell (some (.ref sm))) :: (c8, rCell (some (.ref ce))) :: (c9, rCell (some (.ref td))) :: v) (fun i p' q' rv lo go mo B' => BLe B1 B' ∧ i ≤ 16 ∧ Tab9 B' p' ∧ Tab10 B' q' ∧ IntsV rv (restsOf ws m i)) ?_ 0 ps qs [] none none none ⟨BLe.refl _, by tbr_iter "om", h9.mono hle1, h10.mono hle1, .nil⟩
  rintro i p' q' rv lo go mo B' ⟨hle, hi16, g9, g10, hrv⟩ ih
  have hle01 := hle1.trans hle
  have hT1 := hT.mono hle01
  have hT1t := hT1.top
  have hrl := hrv.length
  unfold restsOf at hrl
  rw [List.length_map, List.length_range] at hrl
  refine OkC.for_turn ?_
  by_cases hlt : i < 16
  · refine Ok.next_rngN (by tbr_iter "upd") hlt fun ti => ?_
    tbr_iter "go*"
    refine Ok.call_val (f := .builtin "sum") rfl ?_
    tbr_iter "go*"
    refine ⟨rfl, ?_⟩
    refine Ok.items_cons ?_ rfl
    refine law_level (n := n) hT1 hA hlt (hw.mono hle01) hi hlen I fun B2 la lv hle2 hlv => ?_
    have hT2 := hT1.mono hle2
    have hT2t := hT2.top
    tbr_iter "go*"
    refine Ok.sum_list (.inl .here) hlv fun tl => ?_
    refine Ok.drop .here ?_
    have hlb := level_bound hb i
    have hle' : (levelTo ws i 4).sum = levelOf ws i := rfl
    rw [hle']
    tbr_iter "go*"
    refine Ok.call_fn (f := 92) ?_
    tbr_iter "go*"
    refine ⟨rfl, ?_⟩
    tbr_iter "go*"
    refine ⟨let ⟨r, e⟩ := hT2t.f12; e.fnB, ?_⟩
    refine idiv_neg hT2 (g9.mono hle2) (g10.mono hle2) (by tbr_iter "om") (by tbr_iter "om") (by tbr_iter "om") (by tbr_iter "om") fun x B3 p3 q3 tx ty hle3 k9 k10 hx => ?_
    have hT3 := hT2.mono hle3
    have hT3t := hT3.top
    tbr_iter "go*"
    refine Ok.tuple_new ?_
    tbr_iter "go*"
    refine ⟨Nat.le_of_ble_eq_true rfl, fun y B4 hle4 hf hfv hy => ?_⟩
    refine Ok.ne_same (n := n + 44) (d := .tuple [.int (levelOf ws i / m), .int (-(levelOf ws i % m))]) (Rd.tuple (hx.mono hle4) (.cons Rd.int (.cons Rd.int .nil))) (Rd.tuple hy (.cons Rd.int (.cons Rd.int .nil))) (by rfl) ?_
    tbr_iter "go*"
    refine Ok.method PySem.F.plainAttrs_list PySem.F.slot_list_append PySem.F.type_list_append rfl rfl rfl rfl ?_
    tbr_iter "go*"
    refine ⟨LstAt.meth (.inl (by tbr_iter "has")), ?_⟩
    tbr_iter "go*"
    refine Ok.item_tup (.inr (hx.mono hle4)) (by decide) (by decide) rfl ?_
    tbr_iter "go*"
    refine Ok.list_append (by tbr_iter "upd") (by have : sizeLine = 2 ^ 24 := rfl; (first | lia | omega)) ?_
    refine ⟨nofun, ?_⟩
    tbr_iter "go*"
    refine ih (i + 1) p3 q3 _ _ _ _ _ (by tbr_iter "om") ⟨hle.trans (hle2.trans (hle3.trans hle4)), by tbr_iter "om", k9.mono hle4, k10.mono hle4, ?_⟩
    unfold restsOf
    rw [List.range_succ, List.map_append]
    exact hrv.snoc ⟨_, rfl⟩
  · have hie : i = 16 := by tbr_iter "om"
    subst hie
    refine Ok.next_rngN_end (by tbr_iter "del") (by tbr_iter "om") ?_
    tbr_iter "go*"
    exact h _ _ _ _ _ _ _ hle01 hrv
end
-- part Law6
/-- a swept row: a list of pairs -/
def RowV (B : Base) (u : Value) (ps : List (Int × Int)) : Prop := ∃ a xs, u = .ref a ∧ seqB "list" B a xs ∧ All2 (PairV B) xs ps
theorem RowV.mono {B B' : Base} {u : Value} {ps : List (Int × Int)} (h : RowV B u ps) (k : BLe B B') : RowV B' u ps := let ⟨a, xs, e, x, y⟩ := h; ⟨a, xs, e, x.mono k, y.imp fun a b q => q.mono k⟩
section
variable {w : World} {O : OsState} {n : Nat} {B : Base} {G : Array GenState} {v : Vol} {Q : Post Flow} {L c0 c1 c2 c3 c4 c5 c6 c7 c8 c9 : Addr} {env : Env} {cd : Value}
theorem law_s11 {sc td ce sm pc lt wt rt : Addr} {rv : List Value} {nr : Bool} {m : Int} {tm : Tok} {ps qs : Array Value} {lo go mo : Option Value} (hT : TopD B) (hA : EnvL env L cd c0 c1 c2 c3 c4 c5 c6 c7 c8 c9)
    (h : ∀ B' od ov, BLe B B' → seqB "list" B' rt rv → seqB "list" B' od ov → All2 (TupN B') ov (ordN 4) → Q .next B' G ((66, rTb ps) :: (73, rTb qs) :: (L, rFr lNs [some (.ref sc), none, some (.bool nr), lo, go, none, none, none, none, none, none, none, none, none, none, none]) :: (c0, rCell (some (.ref od))) :: (c1, rCell mo) :: (c2, rCell (some (.ref rt))) :: (c3, rCell (some (.ref wt))) :: (c4, rCell (some (.int m tm))) :: (c5, rCell (some (.ref lt))) :: (c6, rCell (some (.ref pc))) :: (c7, rCell (some (.ref sm))) :: (c8, rCell (some (.ref ce))) :: (c9, rCell (some (.ref td))) :: v)) :
    Ok prg w O (n + 46) B G ((66, rTb ps) :: (73, rTb qs) :: (rt, rList rv) :: (L, rFr lNs [some (.ref sc), none, some (.bool nr), lo, go, none, none, none, none, none, none, none, none, none, none, none]) :: (c0, rCell none) :: (c1, rCell mo) :: (c2, rCell (some (.ref rt))) :: (c3, rCell (some (.ref wt))) :: (c4, rCell (some (.int m tm))) :: (c5, rCell (some (.ref lt))) :: (c6, rCell (some (.ref pc))) :: (c7, rCell (some (.ref sm))) :: (c8, rCell (some (.ref ce))) :: (c9, rCell (some (.ref td))) :: v) (exec (lawS 11) env) Q := by
  have hE := hA.is lNs lGl (by show chk (scopeAt 21) lNs lGl lCn [] = true; decide +kernel) (by show lCn.Nodup; decide +kernel)
  have hTt := hT.top
  conv in (lawS 11) => whnf
  refine Ok.lay (a := rt) (by tbr_iter "del") fun B1 hle1 hrt => ?_
  have hT1 := hTt.mono hle1
  tbr_iter "go*"
  refine Ok.call_fn (f := 125) ?_
  tbr_iter "go*"
  refine ⟨rfl, ?_⟩
  tbr_iter "go*"
  refine ⟨let ⟨r, e⟩ := hT1.f19; e.fnB, ?_⟩
  refine Ok.room (law_orders (n := n) hT1 fun od B2 ov hle2 hov => ?_) (by tbr_iter "om")
  refine Ok.lay .here fun B3 hle3 hod => ?_
  tbr_iter "go*"
  exact h _ _ _ ((hle1.trans hle2).trans hle3) (hrt.mono (hle2.trans hle3)) hod (hov.imp fun a b q => q.mono hle3)

theorem ord_ok : ∀ o ∈ ordN 4, o.length = 4 ∧ (∀ k ∈ o, k < 4) ∧ maskOf o < 16 := by decide +kernel
theorem ord_len : (ordN 4).length = 24 := by decide +kernel
def rowOf (rs : List Int) (i : Nat) : List (Int × Int) := sweptOf rs ((ordN 4).getD i []) (decide (i % 2 = 1))
theorem law_s12 {sc td ce sm pc lt wt rt od : Addr} {rv ov : List Value} {rs : List Int} {nr : Bool} {m : Int} {tm : Tok} {ps qs : Array Value} {lo go mo : Option Value} (hT : TopD B) (hA : EnvL env L cd c0 c1 c2 c3 c4 c5 c6 c7 c8 c9)
    (hr : seqB "list" B rt rv) (hri : IntsV rv rs) (hrl : rs.length = 16) (ho : seqB "list" B od ov) (hov : All2 (TupN B) ov (ordN 4))
    (h : ∀ B' rw ws, BLe B B' → seqB "list" B' rw ws → All2 (RowV B') ws ((List.range 24).map (rowOf rs)) → Q .next B' G ((66, rTb ps) :: (73, rTb qs) :: (L, rFr lNs [some (.ref sc), none, some (.bool nr), lo, go, none, some (.ref rw), none, none, none, none, none, none, none, none, none]) :: (c0, rCell (some (.ref od))) :: (c1, rCell mo) :: (c2, rCell (some (.ref rt))) :: (c3, rCell (some (.ref wt))) :: (c4, rCell (some (.int m tm))) :: (c5, rCell (some (.ref lt))) :: (c6, rCell (some (.ref pc))) :: (c7, rCell (some (.ref sm))) :: (c8, rCell (some (.ref ce))) :: (c9, rCell (some (.ref td))) :: v)) :
    Ok prg w O (n + 46) B G ((66, rTb ps) :: (73, rTb qs) :: (L, rFr lNs [some (.ref sc), none, some (.bool nr), lo, go, none, none, none, none, none, none, none, none, none, none, none]) :: (c0, rCell (some (.ref od))) :: (c1, rCell mo) :: (c2, rCell (some (.ref rt))) :: (c3, rCell (some (.ref wt))) :: (c4, rCell (some (.int m tm))) :: (c5, rCell (some (.ref lt))) :: (c6, rCell (some (.ref pc))) :: (c7, rCell (some (.ref sm))) :: (c8, rCell (some (.ref ce))) :: (c9, rCell (some (.ref td))) :: v) (exec (lawS 12) env) Q := by
  have hE := hA.is lNs lGl (by show chk (scopeAt 21) lNs lGl lCn [] = true; decide +kernel) (by show lCn.Nodup; decide +kernel)
  have hTt := hT.top
  have hol := hov.length
  rw [ord_len] at hol
  conv in (lawS 12) => whnf
  refine Ok.assign_comp hE ["i"] ["_law_swept"] [("orders", c0), ("rests", c2)] [] (by show chkC _ ["i"] ["_law_swept"] ["orders", "rests"] = true; decide +kernel) (by decide +kernel) (by
    intro p hp
    simp only [List.mem_cons, List.not_mem_nil, or_false] at hp ⊢
    rcases hp with rfl | rfl <;> simp) nofun ?_ (fun _ => rfl) (by unfold swapsWith Env.blockKind Env.kindOf; rw [hA.scope]; rfl)
  refine Ok.call_val (f := .type "range") rfl ?_
  tbr_iter "go*"
  refine ⟨rfl, ?_⟩
  tbr_iter "go*"
  refine Ok.range1 fun rg B1 hle1 hrg => ?_
  refine Ok.iter_rngN (a := 0) (b := 24) hrg (by decide) (by decide) fun J D C cenv hC => ?_
  refine OkC.comp_start (Ok.self_rngN (by tbr_iter "has")) ?_
  refine OkC.lpG3 (fun (i : Nat) (ws : List Value) (ko : Option Value) => 24 - i) (fun i ws ko =>
    (C, rFr ["i"] [ko]) :: (D, rList ws) :: (J, rRn i 24) :: (66, rTb ps) :: (73, rTb qs) :: (L, rFr lNs [some (.ref sc), none, some (.bool nr), lo, go, none, none, none, none, none, none, none, none, none, none, none]) :: (c0, rCell (some (.ref od))) :: (c1, rCell mo) :: (c2, rCell (some (.ref rt))) :: (c3, rCell (some (.ref wt))) :: (c4, rCell (some (.int m tm))) :: (c5, rCell (some (.ref lt))) :: (c6, rCell (some (.ref pc))) :: (c7, rCell (some (.ref sm))) :: (c8, rCell (some (.ref ce))) :: (c9, rCell (some (.ref td))) :: v) (fun i ws ko B' => BLe B1 B' ∧ i ≤ 24 ∧ All2 (RowV B') ws ((List.range i).map (rowOf rs))) ?_ 0 [] none ⟨BLe.refl _, Nat.zero_le _, .nil⟩
  rintro i ws ko B' ⟨hle, hi24, hws⟩ ih
  have hle01 := hle1.trans hle
  have hT1 := hTt.mono hle01
  have hwl := hws.length
  rw [List.length_map, List.length_range] at hwl
  refine OkC.comp_turn ?_
  by_cases hlt : i < 24
  · refine Ok.next_rngN (by tbr_iter "upd") hlt fun ti => ?_
    obtain ⟨ovi, hovi, oa, oks, rfl, hoa, hoi⟩ := hov.get (i := i) (b := (ordN 4)[i]'(by rw [ord_len]; exact hlt)) (List.getElem?_eq_getElem _)
    have hoe : (ordN 4).getD i [] = (ordN 4)[i]'(by rw [ord_len]; exact hlt) := by
      rw [List.getD_eq_getElem?_getD, List.getElem?_eq_getElem (by rw [ord_len]; exact hlt)]; rfl
    obtain ⟨k1, k2, k3⟩ := ord_ok _ (List.getElem_mem (l := ordN 4) (n := i) (by rw [ord_len]; exact hlt))
    tbr_iter "go*"
    refine Ok.call_fn (f := 132) ?_
    tbr_iter "go*"
    refine ⟨rfl, ?_⟩
    tbr_iter "go*"
    refine Ok.item_list (.inr (ho.mono hle01)) (by tbr_iter "om") (by tbr_iter "om") (by rw [Int.toNat_natCast]; exact hovi) ?_
    tbr_iter "go*"
    refine ⟨let ⟨r, e⟩ := hT1.f20; e.fnB, ?_⟩
    have hpar : decide ((i : Int) % 2 = 1) = decide (i % 2 = 1) := by
      by_cases q : i % 2 = 1
      · rw [decide_eq_true q, decide_eq_true (by tbr_iter "om")]
      · rw [decide_eq_false q, decide_eq_false (by tbr_iter "om")]
    rw [hpar]
    refine Ok.room (law_swept (n := n) hT1 (hoa.mono hle01) hoi (fun k hk => k2 k hk) (.inr (hr.mono hle01)) hri (by tbr_iter "om") (by tbr_iter "om") (by tbr_iter "om") fun a B2 xs hle2 hxs => ?_) (by tbr_iter "om")
    refine Ok.lay .here fun B3 hle3 ha => ?_
    refine Ok.list_append (by tbr_iter "upd") (by have : sizeLine = 2 ^ 24 := rfl; (first | lia | omega)) ?_
    refine ih (i + 1) _ _ _ (by tbr_iter "om") ⟨hle.trans (hle2.trans hle3), by tbr_iter "om", ?_⟩
    rw [List.range_succ, List.map_append]
    refine (hws.imp fun a b q => q.mono (hle2.trans hle3)).snoc ⟨a, xs, rfl, ha, ?_⟩
    show All2 (PairV B3) xs (rowOf rs i)
    unfold rowOf
    rw [hoe]
    exact hxs.imp fun a b q => q.mono hle3
  · have hie : i = 24 := by tbr_iter "om"
    subst hie
    refine Ok.next_rngN_end (by tbr_iter "del") (by tbr_iter "om") ?_
    refine Ok.lay (a := D) (by tbr_iter "del") fun B2 hle2 hrw => ?_
    tbr_iter "go*"
    exact ⟨_, _, .here, h _ _ _ (hle01.trans hle2) hrw (hws.imp fun a b q => q.mono hle2)⟩
end
-- part Law7
theorem perm2 (a b : Addr × Res) (Z X : Vol) : (a :: b :: (Z ++ X)).Perm (Z ++ (a :: b :: X)) := List.perm_append_comm_assoc [a, b] Z X
theorem OkC.perm {w : World} {O : OsState} {n : Nat} {B : Base} {G : Array GenState} {v v' : Vol} {c : Code} {R : Post Flow} (hp : v.Perm v') (h : OkC prg w O n B G v' c R) : OkC prg w O n B G v c R := fun A s Rm S => h A s Rm (S.perm hp)
section
variable {w : World} {O : OsState} {n : Nat} {B : Base} {G : Array GenState} {v : Vol} {Q : Post Flow} {L c0 c1 c2 c3 c4 c5 c6 c7 c8 c9 : Addr} {env : Env} {cd : Value}
set_option maxHeartbeats 1000000 in
theorem law_s13 {sc td ce sm pc lt wt rt od rw : Addr} {ws : List Value} {rows : List (List (Int × Int))} {nr : Bool} {m : Int} {tm : Tok} {ps qs : Array Value} {lo go mo : Option Value} (hT : TopD B) (hA : EnvL env L cd c0 c1 c2 c3 c4 c5 c6 c7 c8 c9)
    (hw : seqB "list" B rw ws) (hws : All2 (RowV B) ws rows) (hsrt : ∀ r ∈ rows, Srt r ∧ r.length = 4) (hlen : rows.length ≤ 24)
    (h : ∀ B', BLe B B' → Q .next B' G ((66, rTb ps) :: (73, rTb qs) :: (L, rFr lNs [some (.ref sc), none, some (.bool nr), lo, go, none, some (.ref rw), none, none, none, none, none, none, none, none, none]) :: (c0, rCell (some (.ref od))) :: (c1, rCell mo) :: (c2, rCell (some (.ref rt))) :: (c3, rCell (some (.ref wt))) :: (c4, rCell (some (.int m tm))) :: (c5, rCell (some (.ref lt))) :: (c6, rCell (some (.ref pc))) :: (c7, rCell (some (.ref sm))) :: (c8, rCell (some (.ref ce))) :: (c9, rCell (some (.ref td))) :: v)) :
    Ok prg w O (n + 46) B G ((66, rTb ps) :: (73, rTb qs) :: (L, rFr lNs [some (.ref sc), none, some (.bool nr), lo, go, none, some (.ref rw), none, none, none, none, none, none, none, none, none]) :: (c0, rCell (some (.ref od))) :: (c1, rCell mo) :: (c2, rCell (some (.ref rt))) :: (c3, rCell (some (.ref wt))) :: (c4, rCell (some (.int m tm))) :: (c5, rCell (some (.ref lt))) :: (c6, rCell (some (.ref pc))) :: (c7, rCell (some (.ref sm))) :: (c8, rCell (some (.ref ce))) :: (c9, rCell (some (.ref td))) :: v) (exec (lawS 13) env) Q := by
  have hE := hA.is lNs lGl (by show chk (scopeAt 21) lNs lGl lCn [] = true; decide +kernel) (by show lCn.Nodup; decide +kernel)
  have hTt := hT.top
  have hwl := hws.length
  conv in (lawS 13) => whnf
  tbr_iter "go*"
  refine Ok.listcomp hE ["row"] ["zip"] [] [] (by show chkC _ ["row"] ["zip"] [] = true; decide +kernel) (by decide +kernel) nofun nofun ?_ (fun _ => rfl)
  tbr_iter "go*"
  refine Ok.iter_list (.inr hw) fun J D C cenv hC => ?_
  refine OkC.comp_start (Ok.self_list (by tbr_iter "has")) ?_
  refine OkC.lpG2 (fun (i : Nat) (ro : Option Value) => rows.length - i) (fun i ro =>
    (C, rFr ["row"] [ro]) :: (D, rList []) :: (J, rLit rw i) :: (66, rTb ps) :: (73, rTb qs) :: (L, rFr lNs [some (.ref sc), none, some (.bool nr), lo, go, none, some (.ref rw), none, none, none, none, none, none, none, none, none]) :: (c0, rCell (some (.ref od))) :: (c1, rCell mo) :: (c2, rCell (some (.ref rt))) :: (c3, rCell (some (.ref wt))) :: (c4, rCell (some (.int m tm))) :: (c5, rCell (some (.ref lt))) :: (c6, rCell (some (.ref pc))) :: (c7, rCell (some (.ref sm))) :: (c8, rCell (some (.ref ce))) :: (c9, rCell (some (.ref td))) :: v) (fun i ro B' => BLe B B' ∧ i ≤ rows.length) ?_ 0 none ⟨BLe.refl _, Nat.zero_le _⟩
  rintro i ro B' ⟨hle, hi⟩ ih
  have hT1 := hTt.mono hle
  refine OkC.comp_turn ?_
  by_cases hlt : i < rows.length
  · obtain ⟨rv, hrv, ra, xs, rfl, hra, hxs⟩ := hws.get (i := i) (b := rows[i]'hlt) (List.getElem?_eq_getElem _)
    obtain ⟨hs1, hs2⟩ := hsrt _ (List.getElem_mem hlt)
    generalize hrow : rows[i]'hlt = row at *
    have hxl := hxs.length
    refine Ok.next_list (by tbr_iter "upd") (.inr (hw.mono hle)) hrv ?_
    tbr_iter "go*"
    refine Ok.listcomp hC ["one", "other"] [] [] [] (by show chkC _ ["one", "other"] [] [] = true; decide +kernel) (by decide +kernel) nofun nofun ?_ (fun _ => rfl)
    refine Ok.call_val (f := .type "zip") rfl ?_
    tbr_iter "go*"
    refine ⟨rfl, ?_⟩
    tbr_iter "go*"
    intro sl B1 hle1 hsl
    refine Ok.sub_slice (.inr ((hra.mono hle).mono hle1)) hsl (.int 1 _) .none .none (by decide) (by have : sizeLine = 2 ^ 24 := rfl; (first | lia | omega)) (pick_from xs 1 (by tbr_iter "om")) (fun t1 => ?_) rfl
    tbr_iter "go*"
    refine Ok.zip_lists (.inr ((hra.mono hle).mono hle1)) (.inl .here) fun z TI TO i1 i2 => ?_
    refine Ok.iter_zip fun D2 C2 cenv2 hC2 => ?_
    refine OkC.perm (perm2 _ _ _ _) ?_
    refine OkC.comp_start (Ok.iter_zip ⟨rfl, rfl, rfl, rfl⟩) ?_
    have hle01 := hle.trans hle1
    refine OkC.lpG3 (fun (k : Nat) (oo : Option Value) (to : Option Value) => 3 - k) (fun k oo to =>
    zipV z TI TO i1 i2 ra t1 .none k ++ ((C2, rFr ["one", "other"] [oo, to]) :: (D2, rList []) :: (t1, rList (xs.drop 1)) :: (C, rFr ["row"] [some (.ref ra)]) :: (D, rList []) :: (J, rLit rw (i + 1)) :: (66, rTb ps) :: (73, rTb qs) :: (L, rFr lNs [some (.ref sc), none, some (.bool nr), lo, go, none, some (.ref rw), none, none, none, none, none, none, none, none, none]) :: (c0, rCell (some (.ref od))) :: (c1, rCell mo) :: (c2, rCell (some (.ref rt))) :: (c3, rCell (some (.ref wt))) :: (c4, rCell (some (.int m tm))) :: (c5, rCell (some (.ref lt))) :: (c6, rCell (some (.ref pc))) :: (c7, rCell (some (.ref sm))) :: (c8, rCell (some (.ref ce))) :: (c9, rCell (some (.ref td))) :: v)) (fun k oo to B2 => BLe B1 B2 ∧ k ≤ 3) ?_ 0 none none ⟨BLe.refl _, Nat.zero_le _⟩
    rintro k oo to B2 ⟨hle2, hk3⟩ ih2
    have hra2 := hra.mono (hle01.trans hle2)
    refine OkC.comp_turn ?_
    by_cases hk : k < 3
    · obtain ⟨pv, hpv, pa, q1, q2, rfl, hpa⟩ := hxs.get (i := k) (b := row[k]'(by tbr_iter "om")) (List.getElem?_eq_getElem _)
      obtain ⟨pv', hpv', pa', q1', q2', rfl, hpa'⟩ := hxs.get (i := k + 1) (b := row[k + 1]'(by tbr_iter "om")) (List.getElem?_eq_getElem _)
      have hle02 := hle01.trans hle2
      refine Ok.next_zip (xs := xs) (ys := xs.drop 1) (.inr hra2) (.inl (by tbr_iter "has")) hpv (by rw [List.getElem?_drop, Nat.add_comm]; exact hpv') fun a B3 hle3 ha => ?_
      refine Ok.own_zip ?_
      simp only [zipV, List.cons_append, List.nil_append]
      refine Ok.unpack2 ha ?_
      tbr_iter "go*"
      refine Ok.item_tup (.inr (hpa.mono (hle02.trans hle3))) (by decide) (by decide) rfl ?_
      tbr_iter "go*"
      refine Ok.item_tup (.inr (hpa'.mono (hle02.trans hle3))) (by decide) (by decide) rfl ?_
      tbr_iter "go*"
      have hord : (row[k]'(by tbr_iter "om")).1 ≤ (row[k + 1]'(by tbr_iter "om")).1 := by
        have := List.pairwise_iff_getElem.mp hs1 k (k + 1) (by tbr_iter "om") (by tbr_iter "om") (by tbr_iter "om")
        exact this
      rw [decide_eq_false (by tbr_iter "om")]
      tbr_iter "go*"
      exact ih2 (k + 1) _ _ _ (by tbr_iter "om") ⟨hle2.trans hle3, by tbr_iter "om"⟩
    · have hk : k = 3 := by tbr_iter "om"
      subst hk
      refine Ok.next_zip_end (xs := xs) (ys := xs.drop 1) (.inr hra2) (.inl (by tbr_iter "has")) (.inr (by rw [List.getElem?_eq_none]; rw [List.length_drop]; (first | lia | omega))) ?_
      refine ⟨_, _, .here, ?_⟩
      tbr_iter "go*"
      refine Ok.listd ?_
      tbr_iter "go*"
      refine ⟨Nat.le_of_ble_eq_true rfl, fun el => ?_⟩
      refine Ok.ne_same (n := n + 44) (d := .list []) (Rd.list (.inl (.there .here)) .nil) (Rd.list (.inl .here) .nil) (by rfl) ?_
      refine Ok.drop .here ?_
      refine Ok.drop .here ?_
      refine Ok.drop .here ?_
      tbr_iter "go*"
      exact ih (i + 1) _ _ (by tbr_iter "om") ⟨hle01.trans hle2, by tbr_iter "om"⟩
  · have hie : i = rows.length := by tbr_iter "om"
    subst hie
    refine Ok.next_list_end (by tbr_iter "del") (.inr (hw.mono hle)) (by rw [List.getElem?_eq_none]; (first | lia | omega)) ?_
    refine ⟨_, _, .here, ?_⟩
    tbr_iter "go*"
    refine Ok.listd ?_
    tbr_iter "go*"
    refine ⟨Nat.le_of_ble_eq_true rfl, fun el => ?_⟩
    refine Ok.ne_same (n := n + 44) (d := .list []) (Rd.list (.inl (.there .here)) .nil) (Rd.list (.inl .here) .nil) (by rfl) ?_
    refine Ok.drop .here ?_
    refine Ok.drop .here ?_
    tbr_iter "go*"
    exact h _ hle
end
-- part Law8
section
variable {prog : Program} {w : World} {O : OsState} {n : Nat} {B : Base} {G : Array GenState} {v : Vol}
theorem Ok.own_lit {elts : List Expr} {k : Nat} {p : Pos} {I l : Addr} {i : Nat} {u : Value} {Q : Post Unit} (hh : Has v I (rLit l i)) (h : Q () B G v) : Ok prog w O n B G v (letOwnedTupleGo (.Tuple elts k p) (.ref I) u) Q := fun A s R S => by
  obtain ⟨o, e, hc, hd⟩ := S.has hh
  unfold letOwnedTupleGo
  cases u with
  | ref b =>
    refine wpAny_bind (wpAny_load e ?_)
    rw [hc, hd]
    show wpAny _ A (if (["enumerate", "zip", "dict_itemiterator", "dict_reverseitemiterator", "odict_iterator", "itertools.zip_longest", "itertools.pairwise"].contains "list_iterator" && _) = true then _ else _) _ _ s
    rw [if_neg (by simp)]
    exact wpAny_pure ⟨_, _, _, S, h⟩
  | _ => exact wpAny_pure ⟨_, _, _, S, h⟩
theorem Ok.tuple_list {l : Addr} {xs : List Value} {Q : Post Value} (hl : LstAt B v l xs) (hz : xs.length ≤ sizeLine) (h : ∀ a B', BLe B B' → tupB B' a xs → Q (.ref a) B' G v) : Ok prog w O n B G v (call (.type "tuple") [.ref l]) Q := fun A s R S => by
  refine call_tuple_list (isList_of (hl.at S)) (fun h' hk => ?_) (by rw [List.size_toArray]; exact hz)
  have S1 := S.extAll (h' := h') hk s.toks
  obtain ⟨k1, k2⟩ := S1.pushB ({ cls := .type "tuple", data := .seq xs.toArray } : Obj) rfl s.toks
  exact ⟨_, _, _, k2, h _ _ k1 ⟨0, Base.add_self ..⟩⟩
end
abbrev lettersOf (r : List (Int × Int)) : List Int := r.map (·.2)
section
variable {w : World} {O : OsState} {n : Nat} {B : Base} {G : Array GenState} {v : Vol} {Q : Post Flow} {L c0 c1 c2 c3 c4 c5 c6 c7 c8 c9 : Addr} {env : Env} {cd : Value}
theorem law_s14 {sc td ce sm pc lt wt rt od rw : Addr} {ws : List Value} {rows : List (List (Int × Int))} {nr : Bool} {m : Int} {tm : Tok} {ps qs : Array Value} {lo go mo : Option Value} (hT : TopD B) (hA : EnvL env L cd c0 c1 c2 c3 c4 c5 c6 c7 c8 c9)
    (hw : seqB "list" B rw ws) (hws : All2 (RowV B) ws rows) (hr4 : ∀ r ∈ rows, r.length = 4) (hlen : rows.length ≤ 24)
    (h : ∀ B' sv us, BLe B B' → seqB "list" B' sv us → All2 (TupI B') us (rows.map lettersOf) → Q .next B' G ((66, rTb ps) :: (73, rTb qs) :: (L, rFr lNs [some (.ref sc), none, some (.bool nr), lo, go, none, some (.ref rw), some (.ref sv), none, none, none, none, none, none, none, none]) :: (c0, rCell (some (.ref od))) :: (c1, rCell mo) :: (c2, rCell (some (.ref rt))) :: (c3, rCell (some (.ref wt))) :: (c4, rCell (some (.int m tm))) :: (c5, rCell (some (.ref lt))) :: (c6, rCell (some (.ref pc))) :: (c7, rCell (some (.ref sm))) :: (c8, rCell (some (.ref ce))) :: (c9, rCell (some (.ref td))) :: v)) :
    Ok prg w O (n + 46) B G ((66, rTb ps) :: (73, rTb qs) :: (L, rFr lNs [some (.ref sc), none, some (.bool nr), lo, go, none, some (.ref rw), none, none, none, none, none, none, none, none, none]) :: (c0, rCell (some (.ref od))) :: (c1, rCell mo) :: (c2, rCell (some (.ref rt))) :: (c3, rCell (some (.ref wt))) :: (c4, rCell (some (.int m tm))) :: (c5, rCell (some (.ref lt))) :: (c6, rCell (some (.ref pc))) :: (c7, rCell (some (.ref sm))) :: (c8, rCell (some (.ref ce))) :: (c9, rCell (some (.ref td))) :: v) (exec (lawS 14) env) Q := by
  have hE := hA.is lNs lGl (by show chk (scopeAt 21) lNs lGl lCn [] = true; decide +kernel) (by show lCn.Nodup; decide +kernel)
  have hTt := hT.top
  have hwl := hws.length
  conv in (lawS 14) => whnf
  refine Ok.assign_comp hE ["row"] ["tuple"] [] [] (by show chkC _ ["row"] ["tuple"] [] = true; decide +kernel) (by decide +kernel) nofun nofun ?_ (fun _ => rfl) (by unfold swapsWith Env.blockKind Env.kindOf; rw [hA.scope]; rfl)
  tbr_iter "go*"
  refine Ok.iter_list (.inr hw) fun J D C cenv hC => ?_
  refine OkC.comp_start (Ok.self_list (by tbr_iter "has")) ?_
  refine OkC.lpG3 (fun (i : Nat) (us : List Value) (ro : Option Value) => rows.length - i) (fun i us ro =>
    (C, rFr ["row"] [ro]) :: (D, rList us) :: (J, rLit rw i) :: (66, rTb ps) :: (73, rTb qs) :: (L, rFr lNs [some (.ref sc), none, some (.bool nr), lo, go, none, some (.ref rw), none, none, none, none, none, none, none, none, none]) :: (c0, rCell (some (.ref od))) :: (c1, rCell mo) :: (c2, rCell (some (.ref rt))) :: (c3, rCell (some (.ref wt))) :: (c4, rCell (some (.int m tm))) :: (c5, rCell (some (.ref lt))) :: (c6, rCell (some (.ref pc))) :: (c7, rCell (some (.ref sm))) :: (c8, rCell (some (.ref ce))) :: (c9, rCell (some (.ref td))) :: v) (fun i us ro B' => BLe B B' ∧ i ≤ rows.length ∧ All2 (TupI B') us ((rows.take i).map lettersOf)) ?_ 0 [] none ⟨BLe.refl _, Nat.zero_le _, .nil⟩
  rintro i us ro B' ⟨hle, hi, hus⟩ ih
  have hT1 := hTt.mono hle
  have hul := hus.length
  rw [List.length_map, List.length_take] at hul
  refine OkC.comp_turn ?_
  by_cases hlt : i < rows.length
  · obtain ⟨rv, hrv, ra, xs, rfl, hra, hxs⟩ := hws.get (i := i) (b := rows[i]'hlt) (List.getElem?_eq_getElem _)
    have hs2 := hr4 _ (List.getElem_mem hlt)
    have htk : rows.take (i + 1) = rows.take i ++ [rows[i]'hlt] := by rw [List.take_add_one, List.getElem?_eq_getElem hlt]; rfl
    generalize hrow : rows[i]'hlt = row at *
    have hxl := hxs.length
    refine Ok.next_list (by tbr_iter "upd") (.inr (hw.mono hle)) hrv ?_
    tbr_iter "go*"
    refine Ok.call_val (f := .type "tuple") rfl ?_
    tbr_iter "go*"
    refine ⟨rfl, ?_⟩
    refine Ok.items_cons ?_ rfl
    refine Ok.listcomp hC ["rest", "k"] [] [] [] (by show chkC _ ["rest", "k"] [] [] = true; decide +kernel) (by decide +kernel) nofun nofun ?_ (fun _ => rfl)
    tbr_iter "go*"
    refine Ok.iter_list (.inr (hra.mono hle)) fun J2 D2 C2 cenv2 hC2 => ?_
    refine OkC.comp_start (Ok.self_list (by tbr_iter "has")) ?_
    refine OkC.lpB4 (fun (k : Nat) (ls : List Value) (ro : Option Value) (ko : Option Value) => row.length - k) (fun k ls ro ko =>
    (C2, rFr ["rest", "k"] [ro, ko]) :: (D2, rList ls) :: (J2, rLit ra k) :: (C, rFr ["row"] [some (.ref ra)]) :: (D, rList us) :: (J, rLit rw (i + 1)) :: (66, rTb ps) :: (73, rTb qs) :: (L, rFr lNs [some (.ref sc), none, some (.bool nr), lo, go, none, some (.ref rw), none, none, none, none, none, none, none, none, none]) :: (c0, rCell (some (.ref od))) :: (c1, rCell mo) :: (c2, rCell (some (.ref rt))) :: (c3, rCell (some (.ref wt))) :: (c4, rCell (some (.int m tm))) :: (c5, rCell (some (.ref lt))) :: (c6, rCell (some (.ref pc))) :: (c7, rCell (some (.ref sm))) :: (c8, rCell (some (.ref ce))) :: (c9, rCell (some (.ref td))) :: v) (fun k ls ro ko => k ≤ row.length ∧ IntsV ls (lettersOf (row.take k))) ?_ 0 [] none none ⟨Nat.zero_le _, .nil⟩
    rintro k ls ro2 ko2 ⟨hk, hls⟩ ih2
    have hll := hls.length
    rw [List.length_map, List.length_take] at hll
    refine OkC.comp_turn ?_
    by_cases hkl : k < row.length
    · obtain ⟨pv, hpv, pa, q1, q2, rfl, hpa⟩ := hxs.get (i := k) (b := row[k]'hkl) (List.getElem?_eq_getElem _)
      refine Ok.next_list (by tbr_iter "upd") (.inr (hra.mono hle)) hpv ?_
      refine Ok.own_lit (by tbr_iter "has") ?_
      refine Ok.unpack2 (hpa.mono hle) ?_
      tbr_iter "go*"
      refine Ok.list_append (by tbr_iter "upd") (by have : sizeLine = 2 ^ 24 := rfl; (first | lia | omega)) ?_
      refine ih2 (k + 1) _ _ _ (by tbr_iter "om") ⟨by tbr_iter "om", ?_⟩
      have : row.take (k + 1) = row.take k ++ [row[k]'hkl] := by rw [List.take_add_one, List.getElem?_eq_getElem hkl]; rfl
      rw [this, lettersOf, List.map_append]
      exact hls.snoc ⟨_, rfl⟩
    · have hk : k = row.length := by tbr_iter "om"
      subst hk
      refine Ok.next_list_end (by tbr_iter "del") (.inr (hra.mono hle)) (by rw [List.getElem?_eq_none]; (first | lia | omega)) ?_
      rw [List.take_of_length_le (Nat.le_refl _)] at hls
      refine ⟨_, _, .here, ?_⟩
      tbr_iter "go*"
      refine Ok.tuple_list (.inl .here) (by have : sizeLine = 2 ^ 24 := rfl; (first | lia | omega)) fun ta B3 hle3 hta => ?_
      refine Ok.drop .here ?_
      refine Ok.list_append (by tbr_iter "upd") (by have : sizeLine = 2 ^ 24 := rfl; (first | lia | omega)) ?_
      refine ih (i + 1) _ _ _ (by tbr_iter "om") ⟨hle.trans hle3, by tbr_iter "om", ?_⟩
      rw [htk, List.map_append]
      exact (hus.imp fun a b q => q.mono hle3).snoc ⟨ta, ls, rfl, hta, hls⟩
  · have hie : i = rows.length := by tbr_iter "om"
    subst hie
    refine Ok.next_list_end (by tbr_iter "del") (.inr (hw.mono hle)) (by rw [List.getElem?_eq_none]; (first | lia | omega)) ?_
    rw [List.take_of_length_le (Nat.le_refl _)] at hus
    refine Ok.lay (a := D) (by tbr_iter "del") fun B' hle2 hsv => ?_
    tbr_iter "go*"
    exact ⟨_, _, .here, h _ _ _ (hle.trans hle2) hsv (hus.imp fun a b q => q.mono hle2)⟩
end
-- part Law9
/-- the j-th row, in ints -/
def ordI (j : Nat) : List Int := ((ordN 4).getD j []).map Int.ofNat
theorem ord_lt : ∀ i, i < 24 → ∀ j, j < 24 → lexLt (ordI i) (ordI j) = decide (i < j) := by decide +kernel
theorem ordI_get {i : Nat} {p : List Int} (h : ((ordN 4).map fun o => o.map Int.ofNat)[i]? = some p) : i < 24 ∧ p = ordI i := by
  have hi : i < 24 := by
    rcases Nat.lt_or_ge i 24 with h' | h'
    · exact h'
    · rw [List.getElem?_eq_none (by rw [List.length_map, ord_len]; exact h')] at h; cases h
  refine ⟨hi, ?_⟩
  rw [List.getElem?_map, List.getElem?_eq_getElem (by rw [ord_len]; exact hi)] at h
  injection h with h
  unfold ordI
  rw [List.getD_eq_getElem?_getD, List.getElem?_eq_getElem (by rw [ord_len]; exact hi), ← h]; rfl
section
variable {w : World} {O : OsState} {n : Nat} {B : Base} {G : Array GenState} {v : Vol} {Q : Post Flow} {L c0 c1 c2 c3 c4 c5 c6 c7 c8 c9 : Addr} {env : Env} {cd : Value}
theorem all2_map {B : Base} {xs : List Value} {os : List (List Nat)} (h : All2 (TupN B) xs os) : All2 (TupI B) xs (os.map fun o => o.map Int.ofNat) := by
  induction h with
  | nil => exact .nil
  | cons hx _ ih => exact .cons hx ih

theorem law_s15 {sc td ce sm pc lt wt rt od rw sv : Addr} {us ov : List Value} {js : List Nat} {nr : Bool} {m : Int} {tm : Tok} {ps qs : Array Value} {lo go mo : Option Value} (hT : TopD B) (hA : EnvL env L cd c0 c1 c2 c3 c4 c5 c6 c7 c8 c9)
    (ho : seqB "list" B od ov) (hov : All2 (TupN B) ov (ordN 4)) (hs : seqB "list" B sv us) (hus : All2 (TupI B) us (js.map ordI)) (hj : ∀ j ∈ js, j < 24) (hlen : js.length ≤ 24)
    (h : ∀ B' ld ls, BLe B B' → seqB "list" B' ld ls → IntsV ls (js.map fun j => Int.ofNat (j)) → Q .next B' G ((66, rTb ps) :: (73, rTb qs) :: (L, rFr lNs [some (.ref sc), none, some (.bool nr), lo, go, none, some (.ref rw), some (.ref sv), some (.ref ld), none, none, none, none, none, none, none]) :: (c0, rCell (some (.ref od))) :: (c1, rCell mo) :: (c2, rCell (some (.ref rt))) :: (c3, rCell (some (.ref wt))) :: (c4, rCell (some (.int m tm))) :: (c5, rCell (some (.ref lt))) :: (c6, rCell (some (.ref pc))) :: (c7, rCell (some (.ref sm))) :: (c8, rCell (some (.ref ce))) :: (c9, rCell (some (.ref td))) :: v)) :
    Ok prg w O (n + 46) B G ((66, rTb ps) :: (73, rTb qs) :: (L, rFr lNs [some (.ref sc), none, some (.bool nr), lo, go, none, some (.ref rw), some (.ref sv), none, none, none, none, none, none, none, none]) :: (c0, rCell (some (.ref od))) :: (c1, rCell mo) :: (c2, rCell (some (.ref rt))) :: (c3, rCell (some (.ref wt))) :: (c4, rCell (some (.int m tm))) :: (c5, rCell (some (.ref lt))) :: (c6, rCell (some (.ref pc))) :: (c7, rCell (some (.ref sm))) :: (c8, rCell (some (.ref ce))) :: (c9, rCell (some (.ref td))) :: v) (exec (lawS 15) env) Q := by
  have hE := hA.is lNs lGl (by show chk (scopeAt 21) lNs lGl lCn [] = true; decide +kernel) (by show lCn.Nodup; decide +kernel)
  have hTt := hT.top
  have hol := hov.length
  rw [ord_len] at hol
  have hul := hus.length
  rw [List.length_map] at hul
  conv in (lawS 15) => whnf
  refine Ok.assign_comp hE ["row"] ["bisect_left"] [("orders", c0)] [] (by show chkC _ ["row"] ["bisect_left"] ["orders"] = true; decide +kernel) (by decide +kernel) (by simp) nofun ?_ (fun _ => rfl) (by unfold swapsWith Env.blockKind Env.kindOf; rw [hA.scope]; rfl)
  tbr_iter "go*"
  refine Ok.iter_list (.inr hs) fun J D C cenv hC => ?_
  refine OkC.comp_start (Ok.self_list (by tbr_iter "has")) ?_
  refine OkC.lpB3 (fun (i : Nat) (ls : List Value) (ro : Option Value) => js.length - i) (fun i ls ro =>
    (C, rFr ["row"] [ro]) :: (D, rList ls) :: (J, rLit sv i) :: (66, rTb ps) :: (73, rTb qs) :: (L, rFr lNs [some (.ref sc), none, some (.bool nr), lo, go, none, some (.ref rw), some (.ref sv), none, none, none, none, none, none, none, none]) :: (c0, rCell (some (.ref od))) :: (c1, rCell mo) :: (c2, rCell (some (.ref rt))) :: (c3, rCell (some (.ref wt))) :: (c4, rCell (some (.int m tm))) :: (c5, rCell (some (.ref lt))) :: (c6, rCell (some (.ref pc))) :: (c7, rCell (some (.ref sm))) :: (c8, rCell (some (.ref ce))) :: (c9, rCell (some (.ref td))) :: v) (fun i ls ro => i ≤ js.length ∧ IntsV ls ((js.take i).map fun j => Int.ofNat (j))) ?_ 0 [] none ⟨Nat.zero_le _, .nil⟩
  rintro i ls ro ⟨hi, hls⟩ ih
  have hll := hls.length
  rw [List.length_map, List.length_take] at hll
  refine OkC.comp_turn ?_
  by_cases hlt : i < js.length
  · obtain ⟨uv, huv, huI⟩ := hus.get (i := i) (b := ordI (js[i]'hlt)) (by rw [List.getElem?_map, List.getElem?_eq_getElem hlt]; rfl)
    have hj4 := hj _ (List.getElem_mem hlt)
    have htk : js.take (i + 1) = js.take i ++ [js[i]'hlt] := by rw [List.take_add_one, List.getElem?_eq_getElem hlt]; rfl
    generalize hjj : js[i]'hlt = j at *
    have huI' := huI
    obtain ⟨ua, uk, rfl, hua, hui⟩ := huI'
    refine Ok.next_list (by tbr_iter "upd") (.inr hs) huv ?_
    tbr_iter "go*"
    refine Ok.call_fn (f := 50) ?_
    tbr_iter "go*"
    refine ⟨rfl, ?_⟩
    tbr_iter "go*"
    refine ⟨let ⟨r, e⟩ := hTt.f4; e.fnB, ?_⟩
    refine Ok.room (bisect_left_tup (n := n) (c := j) hTt (.inr ho) (all2_map hov) huI (by tbr_iter "om") (by rw [List.length_map, ord_len]; (first | lia | omega)) (fun k p hp => ?_) fun tt => ?_) (by tbr_iter "om")
    · obtain ⟨hk, rfl⟩ := ordI_get hp
      rw [ord_lt k hk j hj4, decide_eq_true_eq]
    refine Ok.list_append (by tbr_iter "upd") (by have : sizeLine = 2 ^ 24 := rfl; (first | lia | omega)) ?_
    refine ih (i + 1) _ _ (by tbr_iter "om") ⟨by tbr_iter "om", ?_⟩
    rw [htk, List.map_append]
    exact hls.snoc ⟨_, rfl⟩
  · have hie : i = js.length := by tbr_iter "om"
    subst hie
    refine Ok.next_list_end (by tbr_iter "del") (.inr hs) (by rw [List.getElem?_eq_none]; (first | lia | omega)) ?_
    rw [List.take_of_length_le (Nat.le_refl _)] at hls
    refine Ok.lay (a := D) (by tbr_iter "del") fun B2 hle2 hsv => ?_
    tbr_iter "go*"
    exact ⟨_, _, .here, h _ _ _ hle2 hsv hls⟩

theorem law_s17 {sc td ce sm pc lt wt rt od rw sv ld : Addr} {us ov : List Value} {js : List Nat} {nr : Bool} {m : Int} {tm : Tok} {ps qs : Array Value} {lo go mo : Option Value} (hT : TopD B) (hA : EnvL env L cd c0 c1 c2 c3 c4 c5 c6 c7 c8 c9)
    (ho : seqB "list" B od ov) (hov : All2 (TupN B) ov (ordN 4)) (hs : seqB "list" B sv us) (hus : All2 (TupI B) us (js.map ordI)) (hj : ∀ j ∈ js, j < 24) (hlen : js.length ≤ 24)
    (h : ∀ B' bh ls, BLe B B' → seqB "list" B' bh ls → IntsV ls (js.map fun j => Int.ofNat (j + 1)) → Q .next B' G ((66, rTb ps) :: (73, rTb qs) :: (L, rFr lNs [some (.ref sc), none, some (.bool nr), lo, go, none, some (.ref rw), some (.ref sv), some (.ref ld), some (.ref bh), none, none, none, none, none, none]) :: (c0, rCell (some (.ref od))) :: (c1, rCell mo) :: (c2, rCell (some (.ref rt))) :: (c3, rCell (some (.ref wt))) :: (c4, rCell (some (.int m tm))) :: (c5, rCell (some (.ref lt))) :: (c6, rCell (some (.ref pc))) :: (c7, rCell (some (.ref sm))) :: (c8, rCell (some (.ref ce))) :: (c9, rCell (some (.ref td))) :: v)) :
    Ok prg w O (n + 46) B G ((66, rTb ps) :: (73, rTb qs) :: (L, rFr lNs [some (.ref sc), none, some (.bool nr), lo, go, none, some (.ref rw), some (.ref sv), some (.ref ld), none, none, none, none, none, none, none]) :: (c0, rCell (some (.ref od))) :: (c1, rCell mo) :: (c2, rCell (some (.ref rt))) :: (c3, rCell (some (.ref wt))) :: (c4, rCell (some (.int m tm))) :: (c5, rCell (some (.ref lt))) :: (c6, rCell (some (.ref pc))) :: (c7, rCell (some (.ref sm))) :: (c8, rCell (some (.ref ce))) :: (c9, rCell (some (.ref td))) :: v) (exec (lawS 17) env) Q := by
  have hE := hA.is lNs lGl (by show chk (scopeAt 21) lNs lGl lCn [] = true; decide +kernel) (by show lCn.Nodup; decide +kernel)
  have hTt := hT.top
  have hol := hov.length
  rw [ord_len] at hol
  have hul := hus.length
  rw [List.length_map] at hul
  conv in (lawS 17) => whnf
  refine Ok.assign_comp hE ["row"] ["bisect_right"] [("orders", c0)] [] (by show chkC _ ["row"] ["bisect_right"] ["orders"] = true; decide +kernel) (by decide +kernel) (by simp) nofun ?_ (fun _ => rfl) (by unfold swapsWith Env.blockKind Env.kindOf; rw [hA.scope]; rfl)
  tbr_iter "go*"
  refine Ok.iter_list (.inr hs) fun J D C cenv hC => ?_
  refine OkC.comp_start (Ok.self_list (by tbr_iter "has")) ?_
  refine OkC.lpB3 (fun (i : Nat) (ls : List Value) (ro : Option Value) => js.length - i) (fun i ls ro =>
    (C, rFr ["row"] [ro]) :: (D, rList ls) :: (J, rLit sv i) :: (66, rTb ps) :: (73, rTb qs) :: (L, rFr lNs [some (.ref sc), none, some (.bool nr), lo, go, none, some (.ref rw), some (.ref sv), some (.ref ld), none, none, none, none, none, none, none]) :: (c0, rCell (some (.ref od))) :: (c1, rCell mo) :: (c2, rCell (some (.ref rt))) :: (c3, rCell (some (.ref wt))) :: (c4, rCell (some (.int m tm))) :: (c5, rCell (some (.ref lt))) :: (c6, rCell (some (.ref pc))) :: (c7, rCell (some (.ref sm))) :: (c8, rCell (some (.ref ce))) :: (c9, rCell (some (.ref td))) :: v) (fun i ls ro => i ≤ js.length ∧ IntsV ls ((js.take i).map fun j => Int.ofNat (j + 1))) ?_ 0 [] none ⟨Nat.zero_le _, .nil⟩
  rintro i ls ro ⟨hi, hls⟩ ih
  have hll := hls.length
  rw [List.length_map, List.length_take] at hll
  refine OkC.comp_turn ?_
  by_cases hlt : i < js.length
  · obtain ⟨uv, huv, huI⟩ := hus.get (i := i) (b := ordI (js[i]'hlt)) (by rw [List.getElem?_map, List.getElem?_eq_getElem hlt]; rfl)
    have hj4 := hj _ (List.getElem_mem hlt)
    have htk : js.take (i + 1) = js.take i ++ [js[i]'hlt] := by rw [List.take_add_one, List.getElem?_eq_getElem hlt]; rfl
    generalize hjj : js[i]'hlt = j at *
    have huI' := huI
    obtain ⟨ua, uk, rfl, hua, hui⟩ := huI'
    refine Ok.next_list (by tbr_iter "upd") (.inr hs) huv ?_
    tbr_iter "go*"
    refine Ok.call_fn (f := 32) ?_
    tbr_iter "go*"
    refine ⟨rfl, ?_⟩
    tbr_iter "go*"
    refine ⟨let ⟨r, e⟩ := hTt.f2; e.fnB, ?_⟩
    refine Ok.room (bisect_right_tup (n := n) (c := j + 1) hTt (.inr ho) (all2_map hov) huI (by tbr_iter "om") (by rw [List.length_map, ord_len]; (first | lia | omega)) (fun k p hp => ?_) fun tt => ?_) (by tbr_iter "om")
    · obtain ⟨hk, rfl⟩ := ordI_get hp
      rw [ord_lt j hj4 k hk, decide_eq_false_iff_not]; (first | lia | omega)
    refine Ok.list_append (by tbr_iter "upd") (by have : sizeLine = 2 ^ 24 := rfl; (first | lia | omega)) ?_
    refine ih (i + 1) _ _ (by tbr_iter "om") ⟨by tbr_iter "om", ?_⟩
    rw [htk, List.map_append]
    exact hls.snoc ⟨_, rfl⟩
  · have hie : i = js.length := by tbr_iter "om"
    subst hie
    refine Ok.next_list_end (by tbr_iter "del") (.inr hs) (by rw [List.getElem?_eq_none]; (first | lia | omega)) ?_
    rw [List.take_of_length_le (Nat.le_refl _)] at hls
    refine Ok.lay (a := D) (by tbr_iter "del") fun B2 hle2 hsv => ?_
    tbr_iter "go*"
    exact ⟨_, _, .here, h _ _ _ hle2 hsv hls⟩

end
-- part LawA
def oneD (j : Nat) : PyData := .list [.tuple ((ordI j).map .int)]
def allD (js : List Nat) : PyData := .list (js.map oneD)
theorem oneD_ok : ∀ j, j < 24 → (oneD j).canLay0 = true ∧ (oneD j).depth ≤ 10 := by decide +kernel
theorem allD_ok (js : List Nat) (h : ∀ j ∈ js, j < 24) : PySem.SeqAt.shaped (allD js) = true := by
  unfold PySem.SeqAt.shaped allD
  have key : ∀ js : List Nat, (∀ j ∈ js, j < 24) → PyData.canLayAll0 (js.map oneD) = true ∧ PyData.depthAll (js.map oneD) ≤ 10 := by
    intro js
    induction js with
    | nil => intro _; exact ⟨rfl, by decide⟩
    | cons j js ih =>
      intro h
      obtain ⟨h1, h2⟩ := oneD_ok j (h j List.mem_cons_self)
      obtain ⟨h3, h4⟩ := ih fun k hk => h k (List.mem_cons_of_mem _ hk)
      constructor
      · show ((oneD j).canLay0 && PyData.canLayAll0 (js.map oneD)) = true
        rw [h1, h3]; rfl
      · show max (oneD j).depth (PyData.depthAll (js.map oneD)) ≤ 10
        (first | lia | omega)
  obtain ⟨h1, h2⟩ := key js h
  rw [Bool.and_eq_true]
  refine ⟨h1, decide_eq_true ?_⟩
  show PyData.depthAll (js.map oneD) + 1 ≤ 64
  (first | lia | omega)
section
variable {w : World} {O : OsState} {n : Nat} {B : Base} {G : Array GenState} {v : Vol} {Q : Post Flow} {L c0 c1 c2 c3 c4 c5 c6 c7 c8 c9 : Addr} {env : Env} {cd : Value}

def OneV (B : Base) (u : Value) (j : Nat) : Prop := ∃ a x, u = .ref a ∧ seqB "list" B a [x] ∧ TupI B x (ordI j)
theorem OneV.mono {B B' : Base} {u : Value} {j : Nat} (h : OneV B u j) (k : BLe B B') : OneV B' u j := let ⟨a, x, e, y, z⟩ := h; ⟨a, x, e, y.mono k, z.mono k⟩
theorem OneV.rd {B : Base} {u : Value} {j : Nat} (h : OneV B u j) : Rd O B G v u (oneD j) := by
  obtain ⟨a, x, rfl, ha, b, ks, rfl, hb, hk⟩ := h
  exact Rd.list (.inr ha) (.cons (Rd.tuple hb (Rd.ints hk)) .nil)
theorem ones_rd {B : Base} {us : List Value} {js : List Nat} (h : All2 (OneV B) us js) : All2 (Rd O B G v) us (js.map oneD) := by
  induction h with
  | nil => exact .nil
  | cons hx _ ih => exact .cons hx.rd ih

set_option maxHeartbeats 1000000 in
theorem law_s16 {sc td ce sm pc lt wt rt od rw sv ld bh : Addr} {us ov ls : List Value} {js : List Nat} {nr : Bool} {m : Int} {tm : Tok} {ps qs : Array Value} {lo go mo : Option Value} (hT : TopD B) (hA : EnvL env L cd c0 c1 c2 c3 c4 c5 c6 c7 c8 c9)
    (ho : seqB "list" B od ov) (hov : All2 (TupN B) ov (ordN 4)) (hs : seqB "list" B sv us) (hus : All2 (TupI B) us (js.map ordI)) (hl : seqB "list" B ld ls) (hls : IntsV ls (js.map fun j => Int.ofNat (j))) (hj : ∀ j ∈ js, j < 24) (hlen : js.length ≤ 24)
    (h : ∀ B', BLe B B' → Q .next B' G ((66, rTb ps) :: (73, rTb qs) :: (L, rFr lNs [some (.ref sc), none, some (.bool nr), lo, go, none, some (.ref rw), some (.ref sv), some (.ref ld), none, none, none, none, none, none, none]) :: (c0, rCell (some (.ref od))) :: (c1, rCell mo) :: (c2, rCell (some (.ref rt))) :: (c3, rCell (some (.ref wt))) :: (c4, rCell (some (.int m tm))) :: (c5, rCell (some (.ref lt))) :: (c6, rCell (some (.ref pc))) :: (c7, rCell (some (.ref sm))) :: (c8, rCell (some (.ref ce))) :: (c9, rCell (some (.ref td))) :: v)) :
    Ok prg w O (n + 46) B G ((66, rTb ps) :: (73, rTb qs) :: (L, rFr lNs [some (.ref sc), none, some (.bool nr), lo, go, none, some (.ref rw), some (.ref sv), some (.ref ld), none, none, none, none, none, none, none]) :: (c0, rCell (some (.ref od))) :: (c1, rCell mo) :: (c2, rCell (some (.ref rt))) :: (c3, rCell (some (.ref wt))) :: (c4, rCell (some (.int m tm))) :: (c5, rCell (some (.ref lt))) :: (c6, rCell (some (.ref pc))) :: (c7, rCell (some (.ref sm))) :: (c8, rCell (some (.ref ce))) :: (c9, rCell (some (.ref td))) :: v) (exec (lawS 16) env) Q := by
  have hE := hA.is lNs lGl (by show chk (scopeAt 21) lNs lGl lCn [] = true; decide +kernel) (by show lCn.Nodup; decide +kernel)
  have hTt := hT.top
  have hol := hov.length
  rw [ord_len] at hol
  have hul := hus.length
  rw [List.length_map] at hul
  have hll := hls.length
  rw [List.length_map] at hll
  conv in (lawS 16) => whnf
  tbr_iter "go*"
  refine Ok.listcomp hE ["place"] [] [("orders", c0)] [] (by show chkC _ ["place"] [] ["orders"] = true; decide +kernel) (by decide +kernel) (by simp) nofun ?_ (fun _ => rfl)
  tbr_iter "go*"
  refine Ok.iter_list (.inr hl) fun J D C cenv hC => ?_
  refine OkC.comp_start (Ok.self_list (by tbr_iter "has")) ?_
  refine OkC.lpG3 (fun (i : Nat) (os : List Value) (ro : Option Value) => js.length - i) (fun i os ro =>
    (C, rFr ["place"] [ro]) :: (D, rList os) :: (J, rLit ld i) :: (66, rTb ps) :: (73, rTb qs) :: (L, rFr lNs [some (.ref sc), none, some (.bool nr), lo, go, none, some (.ref rw), some (.ref sv), some (.ref ld), none, none, none, none, none, none, none]) :: (c0, rCell (some (.ref od))) :: (c1, rCell mo) :: (c2, rCell (some (.ref rt))) :: (c3, rCell (some (.ref wt))) :: (c4, rCell (some (.int m tm))) :: (c5, rCell (some (.ref lt))) :: (c6, rCell (some (.ref pc))) :: (c7, rCell (some (.ref sm))) :: (c8, rCell (some (.ref ce))) :: (c9, rCell (some (.ref td))) :: v) (fun i os ro B' => BLe B B' ∧ i ≤ js.length ∧ All2 (OneV B') os (js.take i)) ?_ 0 [] none ⟨BLe.refl _, Nat.zero_le _, .nil⟩
  rintro i os ro B' ⟨hle, hi, hos⟩ ih
  have hosl := hos.length
  rw [List.length_take] at hosl
  refine OkC.comp_turn ?_
  by_cases hlt : i < js.length
  · obtain ⟨pv, hpv, tp, rfl⟩ := hls.get (i := i) (b := Int.ofNat ((fun j => j) (js[i]'hlt))) (by rw [List.getElem?_map, List.getElem?_eq_getElem hlt]; rfl)
    have hj4 := hj _ (List.getElem_mem hlt)
    have htk : js.take (i + 1) = js.take i ++ [js[i]'hlt] := by rw [List.take_add_one, List.getElem?_eq_getElem hlt]; rfl
    generalize hjj : js[i]'hlt = j at *
    obtain ⟨ovj, hovj, hoj⟩ := hov.get (i := j) (b := (ordN 4)[j]'(by rw [ord_len]; exact hj4)) (List.getElem?_eq_getElem _)
    have hojI : TupI B ovj (ordI j) := by
      unfold ordI
      rw [List.getD_eq_getElem?_getD, List.getElem?_eq_getElem (by rw [ord_len]; exact hj4)]
      exact hoj
    refine Ok.next_list (by tbr_iter "upd") (.inr (hl.mono hle)) hpv ?_
    tbr_iter "go*"
    intro sl B1 hle1 hsl
    have hpk : slicePick ov.toArray (some (j : Int)) (some ((j + 1 : Nat) : Int)) none = [ovj].toArray := by
      rw [pick_ab ov j (j + 1) (by tbr_iter "om"), show min (j + 1) ov.length - j = 1 by tbr_iter "om"]
      congr 1
      obtain ⟨hjl, e⟩ := List.getElem?_eq_some_iff.mp hovj
      rw [List.drop_eq_getElem_cons hjl, e]; rfl
    refine Ok.sub_slice (lo := some (j : Int)) (hi := some ((j + 1 : Nat) : Int)) (.inr ((ho.mono hle).mono hle1)) hsl (.int _ _) (by rw [show (((j + 1 : Nat)) : Int) = Int.ofNat j + 1 from rfl]; exact .int _ _) .none (by decide) (by have : sizeLine = 2 ^ 24 := rfl; (first | lia | omega)) hpk (fun ta => ?_) rfl
    refine Ok.lay .here fun B2 hle2 hta => ?_
    refine Ok.list_append (by tbr_iter "upd") (by have : sizeLine = 2 ^ 24 := rfl; (first | lia | omega)) ?_
    refine ih (i + 1) _ _ _ (by tbr_iter "om") ⟨(hle.trans hle1).trans hle2, by tbr_iter "om", ?_⟩
    rw [htk]
    exact (hos.imp fun a b q => q.mono (hle1.trans hle2)).snoc ⟨ta, ovj, rfl, hta, hojI.mono ((hle.trans hle1).trans hle2)⟩
  · have hie : i = js.length := by tbr_iter "om"
    subst hie
    refine Ok.next_list_end (by tbr_iter "del") (.inr (hl.mono hle)) (by rw [List.getElem?_eq_none]; (first | lia | omega)) ?_
    rw [List.take_of_length_le (Nat.le_refl _)] at hos
    refine ⟨_, _, .here, ?_⟩
    refine Ok.lay .here fun B2 hle2 hD => ?_
    refine Ok.listcomp hE ["row"] [] [] [] (by show chkC _ ["row"] [] [] = true; decide +kernel) (by decide +kernel) nofun nofun ?_ (fun _ => rfl)
    have hle02 := hle.trans hle2
    tbr_iter "go*"
    refine Ok.iter_list (.inr (hs.mono hle02)) fun J2 D2 C2 cenv2 hC2 => ?_
    refine OkC.comp_start (Ok.self_list (by tbr_iter "has")) ?_
    refine OkC.lpG3 (fun (i : Nat) (ts : List Value) (ro : Option Value) => js.length - i) (fun i ts ro =>
    (C2, rFr ["row"] [ro]) :: (D2, rList ts) :: (J2, rLit sv i) :: (66, rTb ps) :: (73, rTb qs) :: (L, rFr lNs [some (.ref sc), none, some (.bool nr), lo, go, none, some (.ref rw), some (.ref sv), some (.ref ld), none, none, none, none, none, none, none]) :: (c0, rCell (some (.ref od))) :: (c1, rCell mo) :: (c2, rCell (some (.ref rt))) :: (c3, rCell (some (.ref wt))) :: (c4, rCell (some (.int m tm))) :: (c5, rCell (some (.ref lt))) :: (c6, rCell (some (.ref pc))) :: (c7, rCell (some (.ref sm))) :: (c8, rCell (some (.ref ce))) :: (c9, rCell (some (.ref td))) :: v) (fun i ts ro B3 => BLe B2 B3 ∧ i ≤ js.length ∧ All2 (OneV B3) ts (js.take i)) ?_ 0 [] none ⟨BLe.refl _, Nat.zero_le _, .nil⟩
    rintro i ts ro B3 ⟨hle3, hi, hts⟩ ih2
    have htl := hts.length
    rw [List.length_take] at htl
    have hle03 := hle02.trans hle3
    refine OkC.comp_turn ?_
    by_cases hlt : i < js.length
    · obtain ⟨uv, huv, huI⟩ := hus.get (i := i) (b := ordI (js[i]'hlt)) (by rw [List.getElem?_map, List.getElem?_eq_getElem hlt]; rfl)
      have htk : js.take (i + 1) = js.take i ++ [js[i]'hlt] := by rw [List.take_add_one, List.getElem?_eq_getElem hlt]; rfl
      refine Ok.next_list (by tbr_iter "upd") (.inr (hs.mono hle03)) huv ?_
      tbr_iter "go*"
      refine Ok.listd ?_
      tbr_iter "go*"
      refine ⟨Nat.le_of_ble_eq_true rfl, fun ta => ?_⟩
      refine Ok.lay .here fun B4 hle4 hta => ?_
      refine Ok.list_append (by tbr_iter "upd") (by have : sizeLine = 2 ^ 24 := rfl; (first | lia | omega)) ?_
      refine ih2 (i + 1) _ _ _ (by tbr_iter "om") ⟨hle3.trans hle4, by tbr_iter "om", ?_⟩
      rw [htk]
      exact (hts.imp fun a b q => q.mono hle4).snoc ⟨ta, uv, rfl, hta, huI.mono (hle03.trans hle4)⟩
    · have hie : i = js.length := by tbr_iter "om"
      subst hie
      refine Ok.next_list_end (by tbr_iter "del") (.inr (hs.mono hle03)) (by rw [List.getElem?_eq_none]; (first | lia | omega)) ?_
      rw [List.take_of_length_le (Nat.le_refl _)] at hts
      refine ⟨_, _, .here, ?_⟩
      refine Ok.lay .here fun B4 hle4 hD2 => ?_
      refine Ok.ne_same (n := n + 44) (d := allD js) (Rd.list (.inr ((hD.mono hle3).mono hle4)) (ones_rd (hos.imp fun a b q => q.mono ((hle2.trans hle3).trans hle4)))) (Rd.list (.inr hD2) (ones_rd (hts.imp fun a b q => q.mono hle4))) (allD_ok js hj) ?_
      tbr_iter "go*"
      exact h _ (hle03.trans hle4)

set_option maxHeartbeats 1000000 in
theorem law_s18 {sc td ce sm pc lt wt rt od rw sv ld bh : Addr} {us ov ls : List Value} {js : List Nat} {nr : Bool} {m : Int} {tm : Tok} {ps qs : Array Value} {lo go mo : Option Value} (hT : TopD B) (hA : EnvL env L cd c0 c1 c2 c3 c4 c5 c6 c7 c8 c9)
    (ho : seqB "list" B od ov) (hov : All2 (TupN B) ov (ordN 4)) (hs : seqB "list" B sv us) (hus : All2 (TupI B) us (js.map ordI)) (hl : seqB "list" B bh ls) (hls : IntsV ls (js.map fun j => Int.ofNat (j + 1))) (hj : ∀ j ∈ js, j < 24) (hlen : js.length ≤ 24)
    (h : ∀ B', BLe B B' → Q .next B' G ((66, rTb ps) :: (73, rTb qs) :: (L, rFr lNs [some (.ref sc), none, some (.bool nr), lo, go, none, some (.ref rw), some (.ref sv), some (.ref ld), some (.ref bh), none, none, none, none, none, none]) :: (c0, rCell (some (.ref od))) :: (c1, rCell mo) :: (c2, rCell (some (.ref rt))) :: (c3, rCell (some (.ref wt))) :: (c4, rCell (some (.int m tm))) :: (c5, rCell (some (.ref lt))) :: (c6, rCell (some (.ref pc))) :: (c7, rCell (some (.ref sm))) :: (c8, rCell (some (.ref ce))) :: (c9, rCell (some (.ref td))) :: v)) :
    Ok prg w O (n + 46) B G ((66, rTb ps) :: (73, rTb qs) :: (L, rFr lNs [some (.ref sc), none, some (.bool nr), lo, go, none, some (.ref rw), some (.ref sv), some (.ref ld), some (.ref bh), none, none, none, none, none, none]) :: (c0, rCell (some (.ref od))) :: (c1, rCell mo) :: (c2, rCell (some (.ref rt))) :: (c3, rCell (some (.ref wt))) :: (c4, rCell (some (.int m tm))) :: (c5, rCell (some (.ref lt))) :: (c6, rCell (some (.ref pc))) :: (c7, rCell (some (.ref sm))) :: (c8, rCell (some (.ref ce))) :: (c9, rCell (some (.ref td))) :: v) (exec (lawS 18) env) Q := by
  have hE := hA.is lNs lGl (by show chk (scopeAt 21) lNs lGl lCn [] = true; decide +kernel) (by show lCn.Nodup; decide +kernel)
  have hTt := hT.top
  have hol := hov.length
  rw [ord_len] at hol
  have hul := hus.length
  rw [List.length_map] at hul
  have hll := hls.length
  rw [List.length_map] at hll
  conv in (lawS 18) => whnf
  tbr_iter "go*"
  refine Ok.listcomp hE ["place"] [] [("orders", c0)] [] (by show chkC _ ["place"] [] ["orders"] = true; decide +kernel) (by decide +kernel) (by simp) nofun ?_ (fun _ => rfl)
  tbr_iter "go*"
  refine Ok.iter_list (.inr hl) fun J D C cenv hC => ?_
  refine OkC.comp_start (Ok.self_list (by tbr_iter "has")) ?_
  refine OkC.lpG3 (fun (i : Nat) (os : List Value) (ro : Option Value) => js.length - i) (fun i os ro =>
    (C, rFr ["place"] [ro]) :: (D, rList os) :: (J, rLit bh i) :: (66, rTb ps) :: (73, rTb qs) :: (L, rFr lNs [some (.ref sc), none, some (.bool nr), lo, go, none, some (.ref rw), some (.ref sv), some (.ref ld), some (.ref bh), none, none, none, none, none, none]) :: (c0, rCell (some (.ref od))) :: (c1, rCell mo) :: (c2, rCell (some (.ref rt))) :: (c3, rCell (some (.ref wt))) :: (c4, rCell (some (.int m tm))) :: (c5, rCell (some (.ref lt))) :: (c6, rCell (some (.ref pc))) :: (c7, rCell (some (.ref sm))) :: (c8, rCell (some (.ref ce))) :: (c9, rCell (some (.ref td))) :: v) (fun i os ro B' => BLe B B' ∧ i ≤ js.length ∧ All2 (OneV B') os (js.take i)) ?_ 0 [] none ⟨BLe.refl _, Nat.zero_le _, .nil⟩
  rintro i os ro B' ⟨hle, hi, hos⟩ ih
  have hosl := hos.length
  rw [List.length_take] at hosl
  refine OkC.comp_turn ?_
  by_cases hlt : i < js.length
  · obtain ⟨pv, hpv, tp, rfl⟩ := hls.get (i := i) (b := Int.ofNat ((fun j => j + 1) (js[i]'hlt))) (by rw [List.getElem?_map, List.getElem?_eq_getElem hlt]; rfl)
    have hj4 := hj _ (List.getElem_mem hlt)
    have htk : js.take (i + 1) = js.take i ++ [js[i]'hlt] := by rw [List.take_add_one, List.getElem?_eq_getElem hlt]; rfl
    generalize hjj : js[i]'hlt = j at *
    obtain ⟨ovj, hovj, hoj⟩ := hov.get (i := j) (b := (ordN 4)[j]'(by rw [ord_len]; exact hj4)) (List.getElem?_eq_getElem _)
    have hojI : TupI B ovj (ordI j) := by
      unfold ordI
      rw [List.getD_eq_getElem?_getD, List.getElem?_eq_getElem (by rw [ord_len]; exact hj4)]
      exact hoj
    refine Ok.next_list (by tbr_iter "upd") (.inr (hl.mono hle)) hpv ?_
    tbr_iter "go*"
    intro sl B1 hle1 hsl
    have hpk : slicePick ov.toArray (some (j : Int)) (some ((j + 1 : Nat) : Int)) none = [ovj].toArray := by
      rw [pick_ab ov j (j + 1) (by tbr_iter "om"), show min (j + 1) ov.length - j = 1 by tbr_iter "om"]
      congr 1
      obtain ⟨hjl, e⟩ := List.getElem?_eq_some_iff.mp hovj
      rw [List.drop_eq_getElem_cons hjl, e]; rfl
    refine Ok.sub_slice (lo := some (j : Int)) (hi := some ((j + 1 : Nat) : Int)) (.inr ((ho.mono hle).mono hle1)) hsl (by rw [show ((j : Nat) : Int) = Int.ofNat (j + 1) - 1 by simp]; exact .int _ _) (.int _ _) .none (by decide) (by have : sizeLine = 2 ^ 24 := rfl; (first | lia | omega)) hpk (fun ta => ?_) rfl
    refine Ok.lay .here fun B2 hle2 hta => ?_
    refine Ok.list_append (by tbr_iter "upd") (by have : sizeLine = 2 ^ 24 := rfl; (first | lia | omega)) ?_
    refine ih (i + 1) _ _ _ (by tbr_iter "om") ⟨(hle.trans hle1).trans hle2, by tbr_iter "om", ?_⟩
    rw [htk]
    exact (hos.imp fun a b q => q.mono (hle1.trans hle2)).snoc ⟨ta, ovj, rfl, hta, hojI.mono ((hle.trans hle1).trans hle2)⟩
  · have hie : i = js.length := by tbr_iter "om"
    subst hie
    refine Ok.next_list_end (by tbr_iter "del") (.inr (hl.mono hle)) (by rw [List.getElem?_eq_none]; (first | lia | omega)) ?_
    rw [List.take_of_length_le (Nat.le_refl _)] at hos
    refine ⟨_, _, .here, ?_⟩
    refine Ok.lay .here fun B2 hle2 hD => ?_
    refine Ok.listcomp hE ["row"] [] [] [] (by show chkC _ ["row"] [] [] = true; decide +kernel) (by decide +kernel) nofun nofun ?_ (fun _ => rfl)
    have hle02 := hle.trans hle2
    tbr_iter "go*"
    refine Ok.iter_list (.inr (hs.mono hle02)) fun J2 D2 C2 cenv2 hC2 => ?_
    refine OkC.comp_start (Ok.self_list (by tbr_iter "has")) ?_
    refine OkC.lpG3 (fun (i : Nat) (ts : List Value) (ro : Option Value) => js.length - i) (fun i ts ro =>
    (C2, rFr ["row"] [ro]) :: (D2, rList ts) :: (J2, rLit sv i) :: (66, rTb ps) :: (73, rTb qs) :: (L, rFr lNs [some (.ref sc), none, some (.bool nr), lo, go, none, some (.ref rw), some (.ref sv), some (.ref ld), some (.ref bh), none, none, none, none, none, none]) :: (c0, rCell (some (.ref od))) :: (c1, rCell mo) :: (c2, rCell (some (.ref rt))) :: (c3, rCell (some (.ref wt))) :: (c4, rCell (some (.int m tm))) :: (c5, rCell (some (.ref lt))) :: (c6, rCell (some (.ref pc))) :: (c7, rCell (some (.ref sm))) :: (c8, rCell (some (.ref ce))) :: (c9, rCell (some (.ref td))) :: v) (fun i ts ro B3 => BLe B2 B3 ∧ i ≤ js.length ∧ All2 (OneV B3) ts (js.take i)) ?_ 0 [] none ⟨BLe.refl _, Nat.zero_le _, .nil⟩
    rintro i ts ro B3 ⟨hle3, hi, hts⟩ ih2
    have htl := hts.length
    rw [List.length_take] at htl
    have hle03 := hle02.trans hle3
    refine OkC.comp_turn ?_
    by_cases hlt : i < js.length
    · obtain ⟨uv, huv, huI⟩ := hus.get (i := i) (b := ordI (js[i]'hlt)) (by rw [List.getElem?_map, List.getElem?_eq_getElem hlt]; rfl)
      have htk : js.take (i + 1) = js.take i ++ [js[i]'hlt] := by rw [List.take_add_one, List.getElem?_eq_getElem hlt]; rfl
      refine Ok.next_list (by tbr_iter "upd") (.inr (hs.mono hle03)) huv ?_
      tbr_iter "go*"
      refine Ok.listd ?_
      tbr_iter "go*"
      refine ⟨Nat.le_of_ble_eq_true rfl, fun ta => ?_⟩
      refine Ok.lay .here fun B4 hle4 hta => ?_
      refine Ok.list_append (by tbr_iter "upd") (by have : sizeLine = 2 ^ 24 := rfl; (first | lia | omega)) ?_
      refine ih2 (i + 1) _ _ _ (by tbr_iter "om") ⟨hle3.trans hle4, by tbr_iter "om", ?_⟩
      rw [htk]
      exact (hts.imp fun a b q => q.mono hle4).snoc ⟨ta, uv, rfl, hta, huI.mono (hle03.trans hle4)⟩
    · have hie : i = js.length := by tbr_iter "om"
      subst hie
      refine Ok.next_list_end (by tbr_iter "del") (.inr (hs.mono hle03)) (by rw [List.getElem?_eq_none]; (first | lia | omega)) ?_
      rw [List.take_of_length_le (Nat.le_refl _)] at hts
      refine ⟨_, _, .here, ?_⟩
      refine Ok.lay .here fun B4 hle4 hD2 => ?_
      refine Ok.ne_same (n := n + 44) (d := allD js) (Rd.list (.inr ((hD.mono hle3).mono hle4)) (ones_rd (hos.imp fun a b q => q.mono ((hle2.trans hle3).trans hle4)))) (Rd.list (.inr hD2) (ones_rd (hts.imp fun a b q => q.mono hle4))) (allD_ok js hj) ?_
      tbr_iter "go*"
      exact h _ (hle03.trans hle4)

end
-- part LawB
section
variable {w : World} {O : OsState} {n : Nat} {B : Base} {G : Array GenState} {v : Vol} {Q : Post Flow} {L c0 c1 c2 c3 c4 c5 c6 c7 c8 c9 : Addr} {env : Env} {cd : Value}
theorem Rd.listW {l : Addr} {xs : List Value} {ds : List PyData} (hl : Has v l (rListW xs)) (h : All2 (Rd O B G v) xs ds) : Rd O B G v (.ref l) (.list ds) := fun s S => by
  obtain ⟨o, e, hc, n, hd⟩ := S.has hl
  obtain ⟨as, es⟩ := Rd.all h s S
  exact ⟨_, .list e hc hd (by simpa using es)⟩
theorem sorted_range {js' : List Int} {js : List Nat} (hp : js'.Perm (js.map fun j => Int.ofNat j)) (hs : js'.Pairwise (· ≤ ·)) (hr : js.Perm (List.range 24)) : js' = (List.range 24).map Int.ofNat := by
  have h1 : js'.Perm ((List.range 24).map Int.ofNat) := hp.trans (hr.map _)
  exact h1.eq_of_pairwise (fun a b _ _ h1 h2 => Int.le_antisymm h1 h2) hs (by decide)
theorem law_s19 {sc td ce sm pc lt wt rt od rw sv ld bh : Addr} {ls : List Value} {js : List Nat} {nr : Bool} {m : Int} {tm : Tok} {ps qs : Array Value} {lo go mo : Option Value} (hT : TopD B) (hA : EnvL env L cd c0 c1 c2 c3 c4 c5 c6 c7 c8 c9)
    (hl : seqB "list" B ld ls) (hls : IntsV ls (js.map fun j => Int.ofNat j)) (hj : js.Perm (List.range 24))
    (h : ∀ B', BLe B B' → Q .next B' G ((66, rTb ps) :: (73, rTb qs) :: (L, rFr lNs [some (.ref sc), none, some (.bool nr), lo, go, none, some (.ref rw), some (.ref sv), some (.ref ld), some (.ref bh), none, none, none, none, none, none]) :: (c0, rCell (some (.ref od))) :: (c1, rCell mo) :: (c2, rCell (some (.ref rt))) :: (c3, rCell (some (.ref wt))) :: (c4, rCell (some (.int m tm))) :: (c5, rCell (some (.ref lt))) :: (c6, rCell (some (.ref pc))) :: (c7, rCell (some (.ref sm))) :: (c8, rCell (some (.ref ce))) :: (c9, rCell (some (.ref td))) :: v)) :
    Ok prg w O (n + 46) B G ((66, rTb ps) :: (73, rTb qs) :: (L, rFr lNs [some (.ref sc), none, some (.bool nr), lo, go, none, some (.ref rw), some (.ref sv), some (.ref ld), some (.ref bh), none, none, none, none, none, none]) :: (c0, rCell (some (.ref od))) :: (c1, rCell mo) :: (c2, rCell (some (.ref rt))) :: (c3, rCell (some (.ref wt))) :: (c4, rCell (some (.int m tm))) :: (c5, rCell (some (.ref lt))) :: (c6, rCell (some (.ref pc))) :: (c7, rCell (some (.ref sm))) :: (c8, rCell (some (.ref ce))) :: (c9, rCell (some (.ref td))) :: v) (exec (lawS 19) env) Q := by
  have hE := hA.is lNs lGl (by show chk (scopeAt 21) lNs lGl lCn [] = true; decide +kernel) (by show lCn.Nodup; decide +kernel)
  have hTt := hT.top
  have hll := hls.length
  rw [List.length_map, hj.length_eq, List.length_range] at hll
  conv in (lawS 19) => whnf
  tbr_iter "go*"
  refine Ok.call_val (f := .builtin "sorted") rfl ?_
  tbr_iter "go*"
  refine ⟨rfl, ?_⟩
  tbr_iter "go*"
  refine Ok.sorted (.inr hl) hls (by tbr_iter "om") fun so ys js' hys hp hs => ?_
  have hjs := sorted_range hp hs hj
  subst hjs
  refine Ok.call_val (f := .type "list") rfl ?_
  tbr_iter "go*"
  refine ⟨rfl, ?_⟩
  refine Ok.items_cons ?_ rfl
  refine Ok.call_val (f := .type "range") rfl ?_
  tbr_iter "go*"
  refine ⟨rfl, ?_⟩
  tbr_iter "go*"
  refine Ok.range1 fun rg B1 hle1 hrg => ?_
  tbr_iter "go*"
  refine Ok.list_range (m := 24) hrg (by decide) fun lr zs hzs => ?_
  refine Ok.ne_same (n := n + 44) (d := .list (((List.range 24).map Int.ofNat).map .int)) (Rd.listW (.there .here) (Rd.ints hys)) (Rd.list (.inl .here) (Rd.ints hzs)) (by decide +kernel) ?_
  refine Ok.drop .here ?_
  refine Ok.drop .here ?_
  tbr_iter "go*"
  exact h _ hle1

theorem law_s20 {sc td ce sm pc lt wt rt od rw sv ld bh : Addr} {nr : Bool} {m : Int} {tm : Tok} {ps qs : Array Value} {lo go mo : Option Value} (hT : TopD B) (hA : EnvL env L cd c0 c1 c2 c3 c4 c5 c6 c7 c8 c9)
    (h : ∀ cl, Q .next B G ((cl, rList []) :: (66, rTb ps) :: (73, rTb qs) :: (L, rFr lNs [some (.ref sc), none, some (.bool nr), lo, go, none, some (.ref rw), some (.ref sv), some (.ref ld), some (.ref bh), some (.ref cl), none, none, none, none, none]) :: (c0, rCell (some (.ref od))) :: (c1, rCell mo) :: (c2, rCell (some (.ref rt))) :: (c3, rCell (some (.ref wt))) :: (c4, rCell (some (.int m tm))) :: (c5, rCell (some (.ref lt))) :: (c6, rCell (some (.ref pc))) :: (c7, rCell (some (.ref sm))) :: (c8, rCell (some (.ref ce))) :: (c9, rCell (some (.ref td))) :: v)) :
    Ok prg w O (n + 46) B G ((66, rTb ps) :: (73, rTb qs) :: (L, rFr lNs [some (.ref sc), none, some (.bool nr), lo, go, none, some (.ref rw), some (.ref sv), some (.ref ld), some (.ref bh), none, none, none, none, none, none]) :: (c0, rCell (some (.ref od))) :: (c1, rCell mo) :: (c2, rCell (some (.ref rt))) :: (c3, rCell (some (.ref wt))) :: (c4, rCell (some (.int m tm))) :: (c5, rCell (some (.ref lt))) :: (c6, rCell (some (.ref pc))) :: (c7, rCell (some (.ref sm))) :: (c8, rCell (some (.ref ce))) :: (c9, rCell (some (.ref td))) :: v) (exec (lawS 20) env) Q := by
  have hE := hA.is lNs lGl (by show chk (scopeAt 21) lNs lGl lCn [] = true; decide +kernel) (by show lCn.Nodup; decide +kernel)
  conv in (lawS 20) => whnf
  refine Ok.assign1 ?_ rfl
  refine Ok.listd ?_
  tbr_iter "go*"
  refine ⟨Nat.le_of_ble_eq_true rfl, fun cl => ?_⟩
  tbr_iter "go*"
  exact h cl
end
-- part LawC
def dyRun (ss : List Int) : List Nat → Int × Int → Int × Int
  | [], p => p
  | k :: ks, p => dyRun ss ks (p.1 + ss.getD k 0, if p.1 + ss.getD k 0 < p.2 then p.1 + ss.getD k 0 else p.2)
theorem dyRun_snoc (ss : List Int) (k : Nat) : ∀ (ks : List Nat) (p : Int × Int), dyRun ss (ks ++ [k]) p = ((dyRun ss ks p).1 + ss.getD k 0, if (dyRun ss ks p).1 + ss.getD k 0 < (dyRun ss ks p).2 then (dyRun ss ks p).1 + ss.getD k 0 else (dyRun ss ks p).2)
  | [], p => rfl
  | _ :: ks, p => dyRun_snoc ss k ks _
def closedOf (ss : List Int) (o : List Nat) : Bool := decide ((dyRun ss o (0, 0)).1 = 0) && decide ((dyRun ss o (0, 0)).2 = 0)
abbrev BoolsV := All2 (fun (u : Value) (b : Bool) => u = .bool b)
section
variable {w : World} {O : OsState} {n : Nat} {B : Base} {G : Array GenState} {v : Vol} {Q : Post Flow} {L c0 c1 c2 c3 c4 c5 c6 c7 c8 c9 : Addr} {env : Env} {cd : Value}
theorem law_s21 {sc td ce sm pc lt wt rt od rw sv ld bh cl : Addr} {ov us : List Value} {ss : List Int} {nr : Bool} {m : Int} {tm : Tok} {ps qs : Array Value} {lo go mo : Option Value} (hT : TopD B) (hA : EnvL env L cd c0 c1 c2 c3 c4 c5 c6 c7 c8 c9)
    (ho : seqB "list" B od ov) (hov : All2 (TupN B) ov (ordN 4)) (hm : seqB "list" B sm us) (hu : IntsV us ss) (hss : ss.length = 4)
    (h : ∀ B' cv lo go oo ko le, BLe B B' → BoolsV cv ((ordN 4).map (closedOf ss)) → Q .next B' G ((cl, rList cv) :: (66, rTb ps) :: (73, rTb qs) :: (L, rFr lNs [some (.ref sc), ko, some (.bool nr), lo, go, none, some (.ref rw), some (.ref sv), some (.ref ld), some (.ref bh), some (.ref cl), oo, le, none, none, none]) :: (c0, rCell (some (.ref od))) :: (c1, rCell mo) :: (c2, rCell (some (.ref rt))) :: (c3, rCell (some (.ref wt))) :: (c4, rCell (some (.int m tm))) :: (c5, rCell (some (.ref lt))) :: (c6, rCell (some (.ref pc))) :: (c7, rCell (some (.ref sm))) :: (c8, rCell (some (.ref ce))) :: (c9, rCell (some (.ref td))) :: v)) :
    Ok prg w O (n + 46) B G ((cl, rList []) :: (66, rTb ps) :: (73, rTb qs) :: (L, rFr lNs [some (.ref sc), none, some (.bool nr), lo, go, none, some (.ref rw), some (.ref sv), some (.ref ld), some (.ref bh), some (.ref cl), none, none, none, none, none]) :: (c0, rCell (some (.ref od))) :: (c1, rCell mo) :: (c2, rCell (some (.ref rt))) :: (c3, rCell (some (.ref wt))) :: (c4, rCell (some (.int m tm))) :: (c5, rCell (some (.ref lt))) :: (c6, rCell (some (.ref pc))) :: (c7, rCell (some (.ref sm))) :: (c8, rCell (some (.ref ce))) :: (c9, rCell (some (.ref td))) :: v) (exec (lawS 21) env) Q := by
  have hE := hA.is lNs lGl (by show chk (scopeAt 21) lNs lGl lCn [] = true; decide +kernel) (by show lCn.Nodup; decide +kernel)
  have hTt := hT.top
  have hol := hov.length
  rw [ord_len] at hol
  have hul := hu.length
  conv in (lawS 21) => whnf
  tbr_iter "go*"
  refine Ok.iter_list (.inr ho) fun I => ?_
  refine OkC.lpG6 (fun (i : Nat) (cv : List Value) (lo : Option Value) (oo : Option Value) (ko : Option Value) (le : Option Value) => 24 - i) (fun i cv lo oo ko le =>
    (I, rLit od i) :: (cl, rList cv) :: (66, rTb ps) :: (73, rTb qs) :: (L, rFr lNs [some (.ref sc), ko, some (.bool nr), lo, go, none, some (.ref rw), some (.ref sv), some (.ref ld), some (.ref bh), some (.ref cl), oo, le, none, none, none]) :: (c0, rCell (some (.ref od))) :: (c1, rCell mo) :: (c2, rCell (some (.ref rt))) :: (c3, rCell (some (.ref wt))) :: (c4, rCell (some (.int m tm))) :: (c5, rCell (some (.ref lt))) :: (c6, rCell (some (.ref pc))) :: (c7, rCell (some (.ref sm))) :: (c8, rCell (some (.ref ce))) :: (c9, rCell (some (.ref td))) :: v) (fun i cv lo oo ko le B' => BLe B B' ∧ i ≤ 24 ∧ BoolsV cv (((ordN 4).take i).map (closedOf ss))) ?_ 0 [] _ none none none ⟨BLe.refl _, Nat.zero_le _, .nil⟩
  rintro i cv lo oo ko le B' ⟨hle, hi, hcv⟩ ih
  have hcl := hcv.length
  rw [List.length_map, List.length_take, ord_len] at hcl
  refine OkC.for_turn ?_
  by_cases hlt : i < 24
  · obtain ⟨ovi, hovi, oa, oks, rfl, hoa, hoi⟩ := hov.get (i := i) (b := (ordN 4)[i]'(by rw [ord_len]; exact hlt)) (List.getElem?_eq_getElem _)
    have htk : (ordN 4).take (i + 1) = (ordN 4).take i ++ [(ordN 4)[i]'(by rw [ord_len]; exact hlt)] := by rw [List.take_add_one, List.getElem?_eq_getElem (by rw [ord_len]; exact hlt)]; rfl
    obtain ⟨k1, k2, k3⟩ := ord_ok _ (List.getElem_mem (l := ordN 4) (n := i) (by rw [ord_len]; exact hlt))
    generalize hoo : (ordN 4)[i]'(by rw [ord_len]; exact hlt) = ords at *
    refine Ok.next_list (by tbr_iter "upd") (.inr (ho.mono hle)) hovi ?_
    tbr_iter "go*"
    refine Ok.assign_tup ?_ rfl (by first | rfl | (unfold swappedStores Env.blockKind Env.kindOf; rw [hA.scope]; rfl))
    refine Ok.tuple ?_
    tbr_iter "go*"
    refine ⟨Nat.le_of_ble_eq_true rfl, fun ta B1 hle1 hta => ?_⟩
    refine Ok.unpack2 ⟨0, hta⟩ ?_
    tbr_iter "go*"
    refine Ok.iter_tup ((hoa.mono hle).mono hle1) fun I2 => ?_
    have hokl := hoi.length
    rw [List.length_map] at hokl
    refine OkC.ind (fun mm B2 G2 v2 => G2 = G ∧ B2 = B1 ∧ ∃ (k : Nat) (t1 t2 : Tok) (ko : Option Value), k ≤ ords.length ∧ mm = ords.length - k ∧
      v2 = (I2, rTit oa k) :: (I, rLit od (i + 1)) :: (cl, rList cv) :: (66, rTb ps) :: (73, rTb qs) :: (L, rFr lNs [some (.ref sc), ko, some (.bool nr), some (.int (dyRun ss (ords.take k) (0, 0)).1 t1), go, none, some (.ref rw), some (.ref sv), some (.ref ld), some (.ref bh), some (.ref cl), some (.ref oa), some (.int (dyRun ss (ords.take k) (0, 0)).2 t2), none, none, none]) :: (c0, rCell (some (.ref od))) :: (c1, rCell mo) :: (c2, rCell (some (.ref rt))) :: (c3, rCell (some (.ref wt))) :: (c4, rCell (some (.int m tm))) :: (c5, rCell (some (.ref lt))) :: (c6, rCell (some (.ref pc))) :: (c7, rCell (some (.ref sm))) :: (c8, rCell (some (.ref ce))) :: (c9, rCell (some (.ref td))) :: v) ?_ ords.length
      ⟨rfl, rfl, 0, _, _, _, Nat.zero_le _, rfl, rfl⟩
    rintro mm B2 G2 v2 ⟨rfl, rfl, k, t1, t2, ko2, hk, rfl, rfl⟩ ih2
    refine OkC.for_turn ?_
    by_cases hkl : k < ords.length
    · obtain ⟨kv, hkv, tk, rfl⟩ := hoi.get (i := k) (b := Int.ofNat (ords[k]'hkl)) (by rw [List.getElem?_map, List.getElem?_eq_getElem hkl]; rfl)
      have hk4 := k2 _ (List.getElem_mem hkl)
      have htk2 : ords.take (k + 1) = ords.take k ++ [ords[k]'hkl] := by rw [List.take_add_one, List.getElem?_eq_getElem hkl]; rfl
      generalize hkk : ords[k]'hkl = kk at *
      refine Ok.next_tup (by tbr_iter "upd") ((hoa.mono hle).mono hle1) hkv ?_
      tbr_iter "go*"
      refine Ok.item_ints (.inr ((hm.mono hle).mono hle1)) hu (Int.natCast_nonneg _) (by show (kk : Int) < _; (first | lia | omega)) (by show kk < ss.length; (first | lia | omega)) fun t3 => ?_
      tbr_iter "go*"
      have hsn := dyRun_snoc ss kk (ords.take k) (0, 0)
      rw [← htk2] at hsn
      have e1 : (dyRun ss (ords.take k) (0, 0)).1 + ss.getD (Int.ofNat kk).toNat 0 = (dyRun ss (ords.take (k + 1)) (0, 0)).1 := by rw [hsn]; rfl
      rw [e1]
      refine if_sp (fun hlt2 => ?_) (fun hlt2 => ?_)
      · tbr_iter "go*"
        have e2 : (dyRun ss (ords.take (k + 1)) (0, 0)).2 = (dyRun ss (ords.take (k + 1)) (0, 0)).1 := by
          rw [hsn] at hlt2 ⊢
          dsimp only at hlt2 ⊢
          rw [if_pos hlt2]
        refine ih2 (ords.length - (k + 1)) _ _ _ (by tbr_iter "om") ⟨rfl, rfl, k + 1, _, _, _, by tbr_iter "om", rfl, by rw [e2]⟩
      · tbr_iter "go*"
        have e2 : (dyRun ss (ords.take (k + 1)) (0, 0)).2 = (dyRun ss (ords.take k) (0, 0)).2 := by
          rw [hsn] at hlt2 ⊢
          dsimp only at hlt2 ⊢
          rw [if_neg hlt2]
        refine ih2 (ords.length - (k + 1)) _ _ _ (by tbr_iter "om") ⟨rfl, rfl, k + 1, _, _, _, by tbr_iter "om", rfl, by rw [e2]⟩
    · have hk : k = ords.length := by tbr_iter "om"
      subst hk
      refine Ok.next_tup_end (by tbr_iter "del") ((hoa.mono hle).mono hle1) (by rw [List.getElem?_eq_none]; (first | lia | omega)) ?_
      rw [List.take_of_length_le (Nat.le_refl _)]
      tbr_iter "go*"
      have hfin : ∀ b, b = closedOf ss ords → OkC prg w O (n + 46) B2 G2 ((I, rLit od (i + 1)) :: (cl, rList (cv ++ [.bool b])) :: (66, rTb ps) :: (73, rTb qs) :: (L, rFr lNs [some (.ref sc), ko2, some (.bool nr), some (.int (dyRun ss ords (0, 0)).1 t1), go, none, some (.ref rw), some (.ref sv), some (.ref ld), some (.ref bh), some (.ref cl), some (.ref oa), some (.int (dyRun ss ords (0, 0)).2 t2), none, none, none]) :: (c0, rCell (some (.ref od))) :: (c1, rCell mo) :: (c2, rCell (some (.ref rt))) :: (c3, rCell (some (.ref wt))) :: (c4, rCell (some (.int m tm))) :: (c5, rCell (some (.ref lt))) :: (c6, rCell (some (.ref pc))) :: (c7, rCell (some (.ref sm))) :: (c8, rCell (some (.ref ce))) :: (c9, rCell (some (.ref td))) :: v) _ _ := fun b hb =>
        ih (i + 1) _ _ _ _ _ _ (by tbr_iter "om") ⟨hle.trans hle1, by tbr_iter "om", by rw [htk, List.map_append]; exact hcv.snoc (by rw [hb])⟩
      refine Ok.method PySem.F.plainAttrs_list PySem.F.slot_list_append PySem.F.type_list_append rfl rfl rfl rfl ?_
      tbr_iter "go*"
      refine ⟨LstAt.meth (.inl (by tbr_iter "has")), ?_⟩
      tbr_iter "go*"
      refine if_sp (fun h0 => ?_) (fun h0 => ?_)
      · tbr_iter "go*"
        refine Ok.list_append (by tbr_iter "upd") (by have : sizeLine = 2 ^ 24 := rfl; (first | lia | omega)) ?_
        refine ⟨nofun, ?_⟩
        tbr_iter "go*"
        exact hfin _ (by unfold closedOf; rw [decide_eq_true h0]; rfl)
      · tbr_iter "go*"
        refine Ok.list_append (by tbr_iter "upd") (by have : sizeLine = 2 ^ 24 := rfl; (first | lia | omega)) ?_
        refine ⟨nofun, ?_⟩
        tbr_iter "go*"
        exact hfin _ (by unfold closedOf; rw [decide_eq_false h0]; rfl)
  · have hie : i = 24 := by tbr_iter "om"
    subst hie
    refine Ok.next_list_end (by tbr_iter "del") (.inr (ho.mono hle)) (by rw [List.getElem?_eq_none]; (first | lia | omega)) ?_
    rw [List.take_of_length_le (by rw [ord_len]; (first | lia | omega))] at hcv
    tbr_iter "go*"
    exact h _ _ _ _ _ _ _ hle hcv
end
-- part LawD
def posSum (ss : List Int) : Int := (ss.filter fun x => decide (0 < x)).sum
section
variable {w : World} {O : OsState} {n : Nat} {B : Base} {G : Array GenState} {v : Vol} {Q : Post Flow} {L c0 c1 c2 c3 c4 c5 c6 c7 c8 c9 : Addr} {env : Env} {cd : Value}
theorem law_s22 {sc td ce sm pc lt wt rt od rw sv ld bh cl : Addr} {cv us : List Value} {ss : List Int} {nr : Bool} {m : Int} {tm : Tok} {ps qs : Array Value} {lo go mo oo ko le : Option Value} (hT : TopD B) (hA : EnvL env L cd c0 c1 c2 c3 c4 c5 c6 c7 c8 c9)
    (hm : seqB "list" B sm us) (hu : IntsV us ss) (hss : ss.length = 4)
    (h : ∀ B' ap, BLe B B' → ap = (nr && decide (2 * posSum ss < m)) → seqB "list" B' cl cv → Q .next B' G ((66, rTb ps) :: (73, rTb qs) :: (L, rFr lNs [some (.ref sc), ko, some (.bool nr), lo, go, none, some (.ref rw), some (.ref sv), some (.ref ld), some (.ref bh), some (.ref cl), oo, le, some (.bool ap), none, none]) :: (c0, rCell (some (.ref od))) :: (c1, rCell mo) :: (c2, rCell (some (.ref rt))) :: (c3, rCell (some (.ref wt))) :: (c4, rCell (some (.int m tm))) :: (c5, rCell (some (.ref lt))) :: (c6, rCell (some (.ref pc))) :: (c7, rCell (some (.ref sm))) :: (c8, rCell (some (.ref ce))) :: (c9, rCell (some (.ref td))) :: v)) :
    Ok prg w O (n + 46) B G ((cl, rList cv) :: (66, rTb ps) :: (73, rTb qs) :: (L, rFr lNs [some (.ref sc), ko, some (.bool nr), lo, go, none, some (.ref rw), some (.ref sv), some (.ref ld), some (.ref bh), some (.ref cl), oo, le, none, none, none]) :: (c0, rCell (some (.ref od))) :: (c1, rCell mo) :: (c2, rCell (some (.ref rt))) :: (c3, rCell (some (.ref wt))) :: (c4, rCell (some (.int m tm))) :: (c5, rCell (some (.ref lt))) :: (c6, rCell (some (.ref pc))) :: (c7, rCell (some (.ref sm))) :: (c8, rCell (some (.ref ce))) :: (c9, rCell (some (.ref td))) :: v) (exec (lawS 22) env) Q := by
  have hE := hA.is lNs lGl (by show chk (scopeAt 21) lNs lGl lCn [] = true; decide +kernel) (by show lCn.Nodup; decide +kernel)
  have hTt := hT.top
  have hul := hu.length
  conv in (lawS 22) => whnf
  refine Ok.lay .here fun B1 hle1 hcl => ?_
  have hT1 := hTt.mono hle1
  tbr_iter "go*"
  cases nr with
  | false =>
    tbr_iter "go*"
    exact h _ _ hle1 rfl hcl
  | true =>
    tbr_iter "go*"
    refine Ok.call_val (f := .builtin "sum") rfl ?_
    tbr_iter "go*"
    refine ⟨rfl, ?_⟩
    refine Ok.items_cons ?_ rfl
    refine Ok.listcomp hE ["weight"] [] [] [] (by show chkC _ ["weight"] [] [] = true; decide +kernel) (by decide +kernel) nofun nofun ?_ (fun _ => rfl)
    tbr_iter "go*"
    refine Ok.iter_list (.inr (hm.mono hle1)) fun J D C cenv hC => ?_
    refine OkC.comp_start (Ok.self_list (by tbr_iter "has")) ?_
    refine OkC.lpB3 (fun (i : Nat) (ls : List Value) (ro : Option Value) => 4 - i) (fun i ls ro =>
    (C, rFr ["weight"] [ro]) :: (D, rList ls) :: (J, rLit sm i) :: (66, rTb ps) :: (73, rTb qs) :: (L, rFr lNs [some (.ref sc), ko, some (.bool true), lo, go, none, some (.ref rw), some (.ref sv), some (.ref ld), some (.ref bh), some (.ref cl), oo, le, none, none, none]) :: (c0, rCell (some (.ref od))) :: (c1, rCell mo) :: (c2, rCell (some (.ref rt))) :: (c3, rCell (some (.ref wt))) :: (c4, rCell (some (.int m tm))) :: (c5, rCell (some (.ref lt))) :: (c6, rCell (some (.ref pc))) :: (c7, rCell (some (.ref sm))) :: (c8, rCell (some (.ref ce))) :: (c9, rCell (some (.ref td))) :: v) (fun i ls ro => i ≤ 4 ∧ IntsV ls ((ss.take i).filter fun x => decide (0 < x))) ?_ 0 [] none ⟨Nat.zero_le _, .nil⟩
    rintro i ls ro ⟨hi, hls⟩ ih
    have hll := hls.length
    have hfl := List.length_filter_le (fun x : Int => decide (0 < x)) (ss.take i)
    rw [List.length_take] at hfl
    refine OkC.comp_turn ?_
    by_cases hlt : i < 4
    · obtain ⟨wv, hwv, tw, rfl⟩ := hu.get (i := i) (b := ss[i]'(by tbr_iter "om")) (List.getElem?_eq_getElem _)
      have htk : ss.take (i + 1) = ss.take i ++ [ss[i]'(by tbr_iter "om")] := by rw [List.take_add_one, List.getElem?_eq_getElem (by tbr_iter "om")]; rfl
      refine Ok.next_list (by tbr_iter "upd") (.inr (hm.mono hle1)) hwv ?_
      tbr_iter "go*"
      refine if_sp (fun hp => ?_) (fun hp => ?_)
      · tbr_iter "go*"
        refine Ok.list_append (by tbr_iter "upd") (by have : sizeLine = 2 ^ 24 := rfl; (first | lia | omega)) ?_
        refine ih (i + 1) _ _ (by tbr_iter "om") ⟨by tbr_iter "om", ?_⟩
        have e1 : [ss[i]'(by tbr_iter "om")].filter (fun x => decide (0 < x)) = [ss[i]'(by tbr_iter "om")] := by rw [List.filter_cons, if_pos (decide_eq_true hp)]; rfl
        rw [htk, List.filter_append, e1]
        exact hls.snoc ⟨_, rfl⟩
      · refine ih (i + 1) _ _ (by tbr_iter "om") ⟨by tbr_iter "om", ?_⟩
        have e1 : [ss[i]'(by tbr_iter "om")].filter (fun x => decide (0 < x)) = [] := by rw [List.filter_cons, if_neg (by rw [decide_eq_false hp]; exact Bool.false_ne_true)]; rfl
        rw [htk, List.filter_append, e1, List.append_nil]
        exact hls
    · have hie : i = 4 := by tbr_iter "om"
      subst hie
      refine Ok.next_list_end (by tbr_iter "del") (.inr (hm.mono hle1)) (by rw [List.getElem?_eq_none]; (first | lia | omega)) ?_
      rw [List.take_of_length_le (by tbr_iter "om")] at hls
      refine ⟨_, _, .here, ?_⟩
      tbr_iter "go*"
      refine Ok.sum_list (.inl .here) hls fun ts => ?_
      refine Ok.drop .here ?_
      tbr_iter "go*"
      refine Ok.mul_int (mul_ok (by decide) (by decide)) fun _ => ?_
      tbr_iter "go*"
      exact h _ _ hle1 rfl hcl
end
-- part LawE
section
variable {prog : Program} {w : World} {O : OsState} {n : Nat} {B : Base} {G : Array GenState} {v : Vol}
/-- a range by twos from a (0 or 1) to 24, k steps done -/
def rTwo (a k : Nat) : Res := fun o => o = { cls := .type "range_iterator", data := .fields #[rawInt ((a + 2 * k : Nat) : Int), rawInt (12 - (k : Int)), rawInt 2] }
theorem Ok.next_two {I : Addr} {a k : Nat} {v' : Vol} {Q : Post (Option Value)} (hu : Upd v I (rTwo a k) (rTwo a (k + 1)) v') (hl : k < 12) (h : ∀ t, Q (some (.int ((a + 2 * k : Nat) : Int) t)) B G v') : Ok prog w O n B G v (pyNext (.ref I)) Q := fun A s R S => by
  obtain ⟨o, e1, rfl⟩ := S.has hu.has
  refine wpAny_pyNext_range_item (x := ((a + 2 * k : Nat) : Int)) (left := 12 - (k : Int)) (step := 2) e1 (by first | lia | omega) fun h' e hs => ⟨B, G, v', S.turn hu hs ⟨_, e, ?_⟩ _, h _⟩
  unfold rTwo
  rw [show ((a + 2 * k : Nat) : Int) + 2 = ((a + 2 * (k + 1) : Nat) : Int) by first | lia | omega, show 12 - (k : Int) - 1 = 12 - ((k + 1 : Nat) : Int) by first | lia | omega]
theorem Ok.next_two_end {I : Addr} {a k : Nat} {v' : Vol} {Q : Post (Option Value)} (hu : Del v I (rTwo a k) v') (hl : 12 ≤ k) (h : Q none B G v') : Ok prog w O n B G v (pyNext (.ref I)) Q := fun A s R S => by
  obtain ⟨j, hj, _⟩ := hu.idx
  obtain ⟨o, e1, rfl⟩ := S.get hj
  exact wpAny_pyNext_range_end (x := ((a + 2 * k : Nat) : Int)) (left := 12 - (k : Int)) (step := 2) R.handled e1 (by first | lia | omega) fun h' hs => ⟨B, G, v', S.gone hu hs _, h⟩
def rngTwo (B : Base) (r : Addr) (a : Nat) : Prop := ∃ t u k, B r = some { cls := .type "range", data := .fields #[.int (a : Int) t, .int 24 u, .int 2 k] }
theorem Ok.range_two {a : Nat} {t u k : Tok} {Q : Post Value} (h : ∀ r B', BLe B B' → rngTwo B' r a → Q (.ref r) B' G v) : Ok prog w O n B G v (call (.type "range") [.int (a : Int) t, .int 24 u, .int 2 k]) Q := fun A s R S => by
  refine call_range_3 (by decide) ?_ (.inl (PyProof.noPylong_small (by decide)))
  obtain ⟨k1, k2⟩ := S.pushB ({ cls := .type "range", data := .fields #[.int (a : Int) t, .int 24 u, .int 2 k] } : Obj) rfl s.toks
  exact ⟨_, _, _, k2, h _ _ k1 ⟨_, _, _, Base.add_self ..⟩⟩
theorem Ok.iter_two {r : Addr} {a : Nat} {Q : Post Value} (hr : rngTwo B r a) (ha : a < 2) (h : ∀ I, Q (.ref I) B G ((I, rTwo a 0) :: v)) : Ok prog w O n B G v (pyIter (.ref r)) Q := fun A s R S => by
  obtain ⟨t, u, k, e⟩ := hr
  have hz : Builtin.Range.rangeSize (a : Int) 24 2 = 12 := by
    rcases a with _ | _ | a
    · decide
    · decide
    · (first | lia | omega)
  have hsm : Builtin.Range.small (a : Int) 24 2 = true := by
    rcases a with _ | _ | a
    · decide
    · decide
    · (first | lia | omega)
  refine wpAny_pyIter_range (S.keep _ _ e) hsm ?_
  rw [hz]
  exact ⟨B, G, _, S.push (r := rTwo a 0) ({ cls := .type "range_iterator", data := .fields #[rawInt (a : Int), rawInt 12, rawInt 2] } : Obj) rfl (by unfold rTwo; rfl) _, h _⟩
end
-- part LawF
def textOf (lets : List Str) (row : List Int) : Str := Txt.join (Str.ofString "") (row.map fun k => lets.getD k.toNat (Str.ofString ""))
structure TextOk (x : Str) (b : Bool) : Prop where
  a1 : Ascii x
  f1 : finFl false x.cps.toList = false
  a2 : Ascii (stripOf x)
  f2 : finFl false (stripOf x).cps.toList = false
  len : x.length ≤ 1000
  ans : closeB 0 (esc false 0 0 (stripOf x).cps.toList) = b
theorem ordI_ok : ∀ j, j < 24 → (ordI j).length = 4 ∧ ∀ k ∈ ordI j, 0 ≤ k ∧ k < 4 := by decide +kernel
section
variable {w : World} {O : OsState} {n : Nat} {B : Base} {G : Array GenState} {v : Vol} {Q : Post Flow} {L c0 c1 c2 c3 c4 c5 c6 c7 c8 c9 : Addr} {env : Env} {cd : Value}
theorem Ok.pick {α : Type} {t : Sem α} {Q : Post α} (u : α) (h1 : ∀ Q' : Post α, Q' u B G v → Ok prg w O n B G v t Q') (h2 : Q u B G v) : Ok prg w O n B G v t Q := h1 Q h2
theorem law_s24 {ls : Vol} (hA : EnvL env L cd c0 c1 c2 c3 c4 c5 c6 c7 c8 c9) (h : Q (.ret (.bool true)) B G v) : Ok prg w O (n + 46) B G v (exec (lawS 24) env) Q := by
  conv in (lawS 24) => whnf
  tbr_iter "go*"
  exact h
set_option maxHeartbeats 4000000 in
/-- the loop over every second row; txt: the text of the letters of a row; its answer is told by chk -/
theorem law_s23 {sc td ce sm pc lt wt rt od rw sv ld bh cl : Addr} {zs us ov cv lv lvs : List Value} {ks : List Int} {js : List Nat} {cb : List Bool} {lets : List Str} {rows : List (List Int)} {nr ap : Bool} {m : Int} {tm : Tok} {ps qs : Array Value} {lo go mo oo ko le io gd an : Option Value} (hT : TopD B) (hA : EnvL env L cd c0 c1 c2 c3 c4 c5 c6 c7 c8 c9)
    (hs : seqB "list" B ce zs) (hi : IntsV zs ks) (hlen : ks.length = 5) (hcl : seqB "list" B cl cv) (hcv : BoolsV cv cb) (hcb : cb.length = 24) (hld : seqB "list" B ld lv) (hlv : IntsV lv (js.map fun j => Int.ofNat j)) (hjl : js.length = 24) (hj : ∀ j ∈ js, j < 24)
    (hsv : seqB "list" B sv us) (hus : All2 (TupI B) us (js.map ordI)) (hlt : seqB "list" B lt lvs) (hlvs : StrsV lvs lets) (hll : lets.length = 4) (hlb : ∀ y ∈ lets, y.length ≤ 100)
    (htx : ∀ i, i < 24 → TextOk (textOf lets (ordI (js.getD i 0))) (if ap = true then cb.getD i false else cb.getD (js.getD i 0) false))
    (h : ∀ B' G' io gd an ko, BLe B B' → (Bare G → Bare G') → Q .next B' G' ((66, rTb ps) :: (73, rTb qs) :: (L, rFr lNs [some (.ref sc), ko, some (.bool nr), lo, go, io, some (.ref rw), some (.ref sv), some (.ref ld), some (.ref bh), some (.ref cl), oo, le, some (.bool ap), gd, an]) :: (c0, rCell (some (.ref od))) :: (c1, rCell mo) :: (c2, rCell (some (.ref rt))) :: (c3, rCell (some (.ref wt))) :: (c4, rCell (some (.int m tm))) :: (c5, rCell (some (.ref lt))) :: (c6, rCell (some (.ref pc))) :: (c7, rCell (some (.ref sm))) :: (c8, rCell (some (.ref ce))) :: (c9, rCell (some (.ref td))) :: v)) :
    Ok prg w O (n + 46) B G ((66, rTb ps) :: (73, rTb qs) :: (L, rFr lNs [some (.ref sc), ko, some (.bool nr), lo, go, none, some (.ref rw), some (.ref sv), some (.ref ld), some (.ref bh), some (.ref cl), oo, le, some (.bool ap), none, none]) :: (c0, rCell (some (.ref od))) :: (c1, rCell mo) :: (c2, rCell (some (.ref rt))) :: (c3, rCell (some (.ref wt))) :: (c4, rCell (some (.int m tm))) :: (c5, rCell (some (.ref lt))) :: (c6, rCell (some (.ref pc))) :: (c7, rCell (some (.ref sm))) :: (c8, rCell (some (.ref ce))) :: (c9, rCell (some (.ref td))) :: v) (exec (lawS 23) env) Q := by
  have hE := hA.is lNs lGl (by show chk (scopeAt 21) lNs lGl lCn [] = true; decide +kernel) (by show lCn.Nodup; decide +kernel)
  have hTt := hT.top
  conv in (lawS 23) => whnf
  tbr_iter "go*"
  refine Ok.call_val (f := .type "range") rfl ?_
  tbr_iter "go*"
  refine ⟨rfl, ?_⟩
  tbr_iter "go*"
  refine Ok.item_ints (.inr hs) hi (by decide) (by decide) (by show 1 < ks.length; (first | lia | omega)) fun t6 => ?_
  tbr_iter "go*"
  obtain ⟨a, ha⟩ : ∃ a : Nat, ks.getD (1 : Int).toNat 0 % 2 = (a : Int) := ⟨(ks.getD (1 : Int).toNat 0 % 2).toNat, by tbr_iter "om"⟩
  have ha2 : a < 2 := by tbr_iter "om"
  rw [ha]
  refine Ok.range_two fun rg B1 hle1 hrg => ?_
  refine Ok.iter_two hrg ha2 fun I => ?_
  refine OkC.ind (fun mm B' G' v' => BLe B1 B' ∧ (Bare G → Bare G') ∧ ∃ (k : Nat) (io gd an ko : Option Value), k ≤ 12 ∧ mm = 12 - k ∧ v' = (I, rTwo a k) :: (66, rTb ps) :: (73, rTb qs) :: (L, rFr lNs [some (.ref sc), ko, some (.bool nr), lo, go, io, some (.ref rw), some (.ref sv), some (.ref ld), some (.ref bh), some (.ref cl), oo, le, some (.bool ap), gd, an]) :: (c0, rCell (some (.ref od))) :: (c1, rCell mo) :: (c2, rCell (some (.ref rt))) :: (c3, rCell (some (.ref wt))) :: (c4, rCell (some (.int m tm))) :: (c5, rCell (some (.ref lt))) :: (c6, rCell (some (.ref pc))) :: (c7, rCell (some (.ref sm))) :: (c8, rCell (some (.ref ce))) :: (c9, rCell (some (.ref td))) :: v) ?_ 12
    ⟨BLe.refl _, id, 0, none, none, none, ko, Nat.zero_le _, rfl, rfl⟩
  rintro mm B' G' v' ⟨hle, hB, k, io, gd, an, ko, hk, rfl, rfl⟩ ih
  have hle01 := hle1.trans hle
  have hT1 := hTt.mono hle01
  refine OkC.for_turn ?_
  by_cases hkl : k < 12
  · refine Ok.next_two (by tbr_iter "upd") hkl fun ti => ?_
    obtain ⟨i, hi24⟩ : ∃ i, i = a + 2 * k := ⟨_, rfl⟩
    have hi24' : i < 24 := by tbr_iter "om"
    rw [← hi24]
    have T := htx i hi24'
    have hcvl := hcv.length
    have hlvl := hlv.length
    rw [List.length_map] at hlvl
    have hji : js.getD i 0 < 24 := by
      rw [List.getD_eq_getElem?_getD, List.getElem?_eq_getElem (by tbr_iter "om")]
      exact hj _ (List.getElem_mem _)
    have cget : ∀ q, q < 24 → cv[q]? = some (.bool (cb.getD q false)) := fun q hq => by
      obtain ⟨u, hu1, hu2⟩ := hcv.get (i := q) (b := cb.getD q false) (by rw [List.getD_eq_getElem?_getD, List.getElem?_eq_getElem (by tbr_iter "om")]; rfl)
      rw [hu1, hu2]
    generalize hg : (if ap = true then cb.getD i false else cb.getD (js.getD i 0) false) = g at T
    iterate 5 tbr_iter "go"
    refine Ok.pick (.bool g) (fun Q' hQ' => ?_) ?_
    · tbr_iter "go*"
      refine if_spb (fun hap => ?_) (fun hap => ?_)
      · rw [if_pos hap] at hg
        tbr_iter "go*"
        exact Ok.item_list (.inr (hcl.mono hle01)) (by tbr_iter "om") (by tbr_iter "om") (by rw [Int.toNat_natCast, cget _ hi24', hg]) hQ'
      · rw [if_neg (by rw [hap]; exact Bool.false_ne_true)] at hg
        tbr_iter "go*"
        refine Ok.item_ints (.inr (hld.mono hle01)) hlv (by tbr_iter "om") (by tbr_iter "om") (by rw [Int.toNat_natCast, List.length_map]; (first | lia | omega)) fun t1 => ?_
        have e1 : (js.map fun j => Int.ofNat j).getD ((i : Nat) : Int).toNat 0 = ((js.getD i 0 : Nat) : Int) := by
          rw [Int.toNat_natCast, List.getD_eq_getElem?_getD, List.getD_eq_getElem?_getD, List.getElem?_map, List.getElem?_eq_getElem (by tbr_iter "om")]; rfl
        exact Ok.item_list (.inr (hcl.mono hle01)) (by rw [e1]; (first | lia | omega)) (by rw [e1]; (first | lia | omega)) (by rw [e1, Int.toNat_natCast, cget _ hji, hg]) hQ'
    tbr_iter "go*"
    refine Ok.call_fn (f := 113) ?_
    tbr_iter "go*"
    refine ⟨rfl, ?_⟩
    refine Ok.items_cons ?_ rfl
    refine Ok.method PySem.F.plainAttrs_str PySem.F.slot_str_join PySem.F.type_str_join rfl rfl rfl rfl ?_
    tbr_iter "go*"
    refine ⟨fun s _ => ⟨typeIs_str s _ _, nofun⟩, ?_⟩
    refine Ok.items_cons ?_ rfl
    refine Ok.listcomp hE ["k"] [] [("letters", c5)] [] (by show chkC _ ["k"] [] ["letters"] = true; decide +kernel) (by decide +kernel) (by simp) nofun ?_ (fun _ => rfl)
    tbr_iter "go*"
    obtain ⟨uv, huv, ua, uk, rfl, hua, hui⟩ := hus.get (i := i) (b := ordI (js.getD i 0)) (by rw [List.getElem?_map, List.getD_eq_getElem?_getD, List.getElem?_eq_getElem (by tbr_iter "om")]; rfl)
    obtain ⟨o1, o2⟩ := ordI_ok _ hji
    generalize hrow : ordI (js.getD i 0) = row at *
    refine Ok.item_list (.inr (hsv.mono hle01)) (by tbr_iter "om") (by tbr_iter "om") (by rw [Int.toNat_natCast]; exact huv) ?_
    refine Ok.iter_tup (hua.mono hle01) fun J D C cenv hC => ?_
    refine OkC.comp_start (Ok.self_tup (by tbr_iter "has")) ?_
    refine OkC.lpB3 (fun (q : Nat) (ts : List Value) (ro : Option Value) => 4 - q) (fun q ts ro =>
  (C, rFr ["k"] [ro]) :: (D, rList ts) :: (J, rTit ua q) :: (I, rTwo a (k + 1)) :: (66, rTb ps) :: (73, rTb qs) :: (L, rFr lNs [some (.ref sc), ko, some (.bool nr), lo, go, some (.int (i : Int) ti), some (.ref rw), some (.ref sv), some (.ref ld), some (.ref bh), some (.ref cl), oo, le, some (.bool ap), some (.bool g), an]) :: (c0, rCell (some (.ref od))) :: (c1, rCell mo) :: (c2, rCell (some (.ref rt))) :: (c3, rCell (some (.ref wt))) :: (c4, rCell (some (.int m tm))) :: (c5, rCell (some (.ref lt))) :: (c6, rCell (some (.ref pc))) :: (c7, rCell (some (.ref sm))) :: (c8, rCell (some (.ref ce))) :: (c9, rCell (some (.ref td))) :: v) (fun q ts ro => q ≤ 4 ∧ StrsV ts ((row.take q).map fun k => lets.getD k.toNat (Str.ofString ""))) ?_ 0 [] none ⟨Nat.zero_le _, .nil⟩
    rintro q ts ro ⟨hq, hts⟩ ih2
    have htl := hts.length
    rw [List.length_map, List.length_take] at htl
    have hukl := hui.length
    have hlvl2 := hlvs.length
    refine OkC.comp_turn ?_
    by_cases hql : q < 4
    · obtain ⟨kv, hkv, tk, rfl⟩ := hui.get (i := q) (b := row[q]'(by tbr_iter "om")) (List.getElem?_eq_getElem _)
      obtain ⟨p1, p2⟩ := o2 _ (List.getElem_mem (l := row) (n := q) (by tbr_iter "om"))
      have htk : row.take (q + 1) = row.take q ++ [row[q]'(by tbr_iter "om")] := by rw [List.take_add_one, List.getElem?_eq_getElem (by tbr_iter "om")]; rfl
      refine Ok.next_tup (by tbr_iter "upd") (hua.mono hle01) hkv ?_
      tbr_iter "go*"
      obtain ⟨lv1, hlv1, tl, rfl⟩ := hlvs.get (i := (row[q]'(by tbr_iter "om")).toNat) (b := lets.getD (row[q]'(by tbr_iter "om")).toNat (Str.ofString "")) (by rw [List.getD_eq_getElem?_getD, List.getElem?_eq_getElem (by tbr_iter "om")]; rfl)
      refine Ok.item_list (.inr (hlt.mono hle01)) p1 (by tbr_iter "om") hlv1 ?_
      refine Ok.list_append (by tbr_iter "upd") (by have : sizeLine = 2 ^ 24 := rfl; (first | lia | omega)) ?_
      refine ih2 (q + 1) _ _ (by tbr_iter "om") ⟨by tbr_iter "om", ?_⟩
      rw [htk, List.map_append]
      exact hts.snoc ⟨tl, rfl⟩
    · have hq4 : q = 4 := by tbr_iter "om"
      subst hq4
      refine Ok.next_tup_end (by tbr_iter "del") (hua.mono hle01) (by rw [List.getElem?_eq_none]; (first | lia | omega)) ?_
      rw [List.take_of_length_le (by tbr_iter "om")] at hts
      refine ⟨_, _, .here, ?_⟩
      tbr_iter "go*"
      have hsum := sum_le (M := 100) (ys := row.map fun k => lets.getD k.toNat (Str.ofString "")) (fun y hy => by
        obtain ⟨k, hk, rfl⟩ := List.mem_map.mp hy
        obtain ⟨p1, p2⟩ := o2 k hk
        rw [List.getD_eq_getElem?_getD, List.getElem?_eq_getElem (by tbr_iter "om")]
        exact hlb _ (List.getElem_mem _))
      rw [List.length_map, o1] at hsum
      refine Ok.join_list (.inl .here) hts (by rw [List.length_map, o1]; have h2 : (Str.ofString "").length = 0 := rfl; rw [h2]; (first | lia | omega)) fun tj => ?_
      refine Ok.drop .here ?_
      tbr_iter "go*"
      refine ⟨let ⟨r, e⟩ := hT1.f16; e.fnB, ?_⟩
      refine Ok.room (m := n + 46) (check_parenthesis (n := n + 42) hT1 T.a2 T.f2 (fun n0 B0 G0 v0 Q0 t0 hT0 h0 => strip_quoted hT0 T.a1 T.f1 T.len h0) fun B3 G3 hle3 hB3 => ?_) (Nat.le_refl _)
      rw [T.ans]
      tbr_iter "go*"
      have q1 : (g == true) = g := by cases g <;> rfl
      have q2 : (g == false) = !g := by cases g <;> rfl
      refine Ok.listd ?_
      refine Ok.items_cons ?_ rfl
      tbr_iter "go*"
      refine Ok.is_bool ?_
      rw [q1]
      refine Ok.items_cons ?_ rfl
      tbr_iter "go*"
      refine Ok.is_bool ?_
      rw [q2]
      refine Ok.items_nil ?_
      refine ⟨by show 2 ≤ sizeLine; decide, fun a1 => ?_⟩
      refine Ok.listd ?_
      refine Ok.items_cons ?_ rfl
      tbr_iter "go*"
      refine Ok.not_val ?_
      tbr_iter "go*"
      refine ⟨by show 2 ≤ sizeLine; decide, fun a2 => ?_⟩
      refine Ok.ne_same (n := n + 44) (d := .list [.bool g, .bool (!g)]) (Rd.list (.inl (.there .here)) (.cons Rd.bool (.cons Rd.bool .nil))) (Rd.list (.inl .here) (.cons Rd.bool (.cons Rd.bool .nil))) (by cases g <;> decide) ?_
      refine Ok.drop .here (Ok.drop .here ?_)
      tbr_iter "go*"
      exact ih (12 - (k + 1)) _ _ _ (by tbr_iter "om") ⟨hle.trans hle3, fun x => hB3 (hB x), k + 1, _, _, _, _, by tbr_iter "om", rfl, rfl⟩
  · refine Ok.next_two_end (by tbr_iter "del") (by tbr_iter "om") ?_
    tbr_iter "go*"
    exact h _ _ _ _ _ _ hle01 hB
end
-- part Sw
/-! ### the sweep, by masks -/
def stepsN : Nat → List Nat → List (Nat × Nat)
  | _, [] => []
  | m, k :: ks => (m + 2 ^ k, k) :: stepsN (m + 2 ^ k) ks
def insG {α : Type} (p : α → Bool) (row : List α) (x : α) : List α := row.takeWhile p ++ x :: row.dropWhile p
def sweptC (C : Nat → Nat → Bool) (ks : List Nat) (turned : Bool) : List (Nat × Nat) :=
  if turned then (stepsN 0 ks).reverse.foldl (fun row p => insG (fun q => !C p.1 q.1) row p) [] else (stepsN 0 ks).foldl (fun row p => insG (fun q => C q.1 p.1) row p) []
def cmpOf (rs : List Int) (a b : Nat) : Bool := decide (rs.getD a 0 < rs.getD b 0)
def asPair (rs : List Int) (x : Nat × Nat) : Int × Int := (rs.getD x.1 0, (x.2 : Int))
theorem insG_map {α β : Type} (f : α → β) (p : β → Bool) (row : List α) (x : α) : insG p (row.map f) (f x) = (insG (fun q => p (f q)) row x).map f := by
  unfold insG
  rw [List.takeWhile_map, List.dropWhile_map, List.map_append, List.map_cons]; rfl
theorem stepsOf_map (rs : List Int) : ∀ (ks : List Nat) (m : Nat), stepsOf rs m ks = (stepsN m ks).map (asPair rs)
  | [], _ => rfl
  | k :: ks, m => by rw [stepsOf, stepsN, List.map_cons, stepsOf_map rs ks]; rfl
theorem fold_map {α β : Type} (f : α → β) (g : β → β → Bool) : ∀ (l row : List α),
    (l.map f).foldl (fun row p => insG (fun q => g q p) row p) (row.map f) = (l.foldl (fun row p => insG (fun q => g (f q) (f p)) row p) row).map f
  | [], row => rfl
  | x :: l, row => by
    rw [List.map_cons, List.foldl_cons, List.foldl_cons, insG_map, fold_map f g l]
theorem sweptOf_C (rs : List Int) (ks : List Nat) (turned : Bool) : sweptOf rs ks turned = (sweptC (cmpOf rs) ks turned).map (asPair rs) := by
  unfold sweptOf sweptC
  cases turned with
  | false =>
    rw [if_neg Bool.false_ne_true, if_neg Bool.false_ne_true, stepsOf_map]
    exact fold_map (asPair rs) (fun q p => decide (q.1 < p.1)) (stepsN 0 ks) []
  | true =>
    rw [if_pos rfl, if_pos rfl, stepsOf_map, ← List.map_reverse]
    have := fold_map (asPair rs) (fun q p => decide (q.1 ≤ p.1)) (stepsN 0 ks).reverse []
    refine Eq.trans this ?_
    congr 1
    congr 1
    funext row p
    congr 1
    funext q
    show decide ((asPair rs q).1 ≤ (asPair rs p).1) = !decide ((asPair rs p).1 < (asPair rs q).1)
    by_cases h : (asPair rs p).1 < (asPair rs q).1
    · rw [decide_eq_true h, decide_eq_false (by first | lia | omega)]; rfl
    · rw [decide_eq_false h, decide_eq_true (by first | lia | omega)]; rfl
theorem tw_congr {α : Type} {p p' : α → Bool} : ∀ {l : List α}, (∀ a ∈ l, p a = p' a) → l.takeWhile p = l.takeWhile p' ∧ l.dropWhile p = l.dropWhile p'
  | [], _ => ⟨rfl, rfl⟩
  | a :: l, h => by
    have := tw_congr (l := l) fun b hb => h b (List.mem_cons_of_mem _ hb)
    rw [List.takeWhile_cons, List.takeWhile_cons, List.dropWhile_cons, List.dropWhile_cons, ← h a List.mem_cons_self]
    cases p a with
    | true => exact ⟨by simp [this.1], by simp [this.2]⟩
    | false => exact ⟨rfl, rfl⟩
theorem insG_congr {α : Type} {p p' : α → Bool} {l : List α} (x : α) (h : ∀ a ∈ l, p a = p' a) : insG p l x = insG p' l x := by
  unfold insG; rw [(tw_congr h).1, (tw_congr h).2]
theorem insG_mem {α : Type} {p : α → Bool} {l : List α} {x y : α} (h : y ∈ insG p l x) : y = x ∨ y ∈ l := by
  unfold insG at h
  rcases List.mem_append.mp h with h | h
  · exact .inr ((List.takeWhile_sublist p).mem h)
  · rcases List.mem_cons.mp h with h | h
    · exact .inl h
    · exact .inr ((List.dropWhile_sublist p).mem h)
theorem fold_congr {α : Type} {g g' : α → α → Bool} : ∀ (l row : List α), (∀ q ∈ row, ∀ p ∈ l, g q p = g' q p) → l.Pairwise (fun a b => g a b = g' a b) →
    l.foldl (fun row p => insG (fun q => g q p) row p) row = l.foldl (fun row p => insG (fun q => g' q p) row p) row
  | [], _, _, _ => rfl
  | x :: l, row, h, hp => by
    rw [List.pairwise_cons] at hp
    rw [List.foldl_cons, List.foldl_cons, insG_congr x fun a ha => h a ha x List.mem_cons_self]
    refine fold_congr l _ (fun q hq p hp' => ?_) hp.2
    rcases insG_mem hq with rfl | hq
    · exact hp.1 p hp'
    · exact h q hq p (List.mem_cons_of_mem _ hp')
/-- a mask within another one -/
def subM (a b : Nat) : Bool := Nat.beq (Nat.land a b) a && Nat.blt 0 a && Nat.blt a b && Nat.blt b 16
theorem swept_congr {C C' : Nat → Nat → Bool} (h : ∀ a b, subM a b = true → C a b = C' a b) {ks : List Nat} (hk : (stepsN 0 ks).Pairwise fun a b => subM a.1 b.1 = true) (turned : Bool) : sweptC C ks turned = sweptC C' ks turned := by
  unfold sweptC
  cases turned with
  | false =>
    rw [if_neg Bool.false_ne_true, if_neg Bool.false_ne_true]
    exact fold_congr (g := fun (q p : Nat × Nat) => C q.1 p.1) (g' := fun (q p : Nat × Nat) => C' q.1 p.1) _ _ (fun q hq => by cases hq) (hk.imp fun e => h _ _ e)
  | true =>
    rw [if_pos rfl, if_pos rfl]
    refine fold_congr (g := fun (q p : Nat × Nat) => !C p.1 q.1) (g' := fun (q p : Nat × Nat) => !C' p.1 q.1) _ _ (fun q hq => by cases hq) ?_
    rw [List.pairwise_reverse]
    exact hk.imp fun e => by rw [h _ _ e]
theorem ord_pairs : ∀ o ∈ ordN 4, (stepsN 0 o).Pairwise fun a b => subM a.1 b.1 = true := by decide +kernel

/-! ### the rows by their places -/
def ord24 : List (List Nat) := [[0,1,2,3],[0,1,3,2],[0,2,1,3],[0,2,3,1],[0,3,1,2],[0,3,2,1],[1,0,2,3],[1,0,3,2],[1,2,0,3],[1,2,3,0],[1,3,0,2],[1,3,2,0],[2,0,1,3],[2,0,3,1],[2,1,0,3],[2,1,3,0],[2,3,0,1],[2,3,1,0],[3,0,1,2],[3,0,2,1],[3,1,0,2],[3,1,2,0],[3,2,0,1],[3,2,1,0]]
theorem ord24_eq : ordN 4 = ord24 := by decide +kernel
def codeN : List Nat → Nat := fun l => l.foldl (fun a k => a * 4 + k) 0
def lettersC (C : Nat → Nat → Bool) (o : List Nat) (turned : Bool) : List Nat := (sweptC C o turned).map (·.2)
def CK (t : List Nat) (a b : Nat) : Bool := !(Nat.beq (t.getD b 0) (t.getD a 0 + t.getD (b - a) 0))
def isIn (x : Nat) : List Nat → Bool
  | [] => false
  | y :: l => Nat.beq x y || isIn x l
def nd : List Nat → Bool
  | [] => true
  | x :: l => !isIn x l && nd l
/-- the codes of the swept rows -/
def codesC (C : Nat → Nat → Bool) : List (List Nat) → Bool → List Nat
  | [], _ => []
  | o :: os, tn => codeN (lettersC C o tn) :: codesC C os (!tn)
def goodK (t : List Nat) : Bool := nd (codesC (CK t) ord24 false)
structure Quad where
  a : Nat × Nat
  b : Nat × Nat
  c : Nat × Nat
  d : Nat × Nat
def insP (c : Nat × Nat → Bool) (x : Nat × Nat) : List (Nat × Nat) → List (Nat × Nat)
  | [] => [x]
  | q :: r => cond (c q) (q :: insP c x r) (x :: q :: r)
def rowQ (C : Nat → Nat → Bool) (tn : Bool) (q : Quad) : List (Nat × Nat) :=
  cond tn (insP (fun x => !C q.a.1 x.1) q.a (insP (fun x => !C q.b.1 x.1) q.b (insP (fun x => !C q.c.1 x.1) q.c [q.d])))
    (insP (fun x => C x.1 q.d.1) q.d (insP (fun x => C x.1 q.c.1) q.c (insP (fun x => C x.1 q.b.1) q.b [q.a])))
def codeP : List (Nat × Nat) → Nat
  | [a, b, c, d] => ((a.2 * 4 + b.2) * 4 + c.2) * 4 + d.2
  | _ => 0
def quads : List Quad := [⟨(1, 0), (3, 1), (7, 2), (15, 3)⟩, ⟨(1, 0), (3, 1), (11, 3), (15, 2)⟩, ⟨(1, 0), (5, 2), (7, 1), (15, 3)⟩, ⟨(1, 0), (5, 2), (13, 3), (15, 1)⟩, ⟨(1, 0), (9, 3), (11, 1), (15, 2)⟩, ⟨(1, 0), (9, 3), (13, 2), (15, 1)⟩, ⟨(2, 1), (3, 0), (7, 2), (15, 3)⟩, ⟨(2, 1), (3, 0), (11, 3), (15, 2)⟩, ⟨(2, 1), (6, 2), (7, 0), (15, 3)⟩, ⟨(2, 1), (6, 2), (14, 3), (15, 0)⟩, ⟨(2, 1), (10, 3), (11, 0), (15, 2)⟩, ⟨(2, 1), (10, 3), (14, 2), (15, 0)⟩, ⟨(4, 2), (5, 0), (7, 1), (15, 3)⟩, ⟨(4, 2), (5, 0), (13, 3), (15, 1)⟩, ⟨(4, 2), (6, 1), (7, 0), (15, 3)⟩, ⟨(4, 2), (6, 1), (14, 3), (15, 0)⟩, ⟨(4, 2), (12, 3), (13, 0), (15, 1)⟩, ⟨(4, 2), (12, 3), (14, 1), (15, 0)⟩, ⟨(8, 3), (9, 0), (11, 1), (15, 2)⟩, ⟨(8, 3), (9, 0), (13, 2), (15, 1)⟩, ⟨(8, 3), (10, 1), (11, 0), (15, 2)⟩, ⟨(8, 3), (10, 1), (14, 2), (15, 0)⟩, ⟨(8, 3), (12, 2), (13, 0), (15, 1)⟩, ⟨(8, 3), (12, 2), (14, 1), (15, 0)⟩]
theorem isIn_iff (x : Nat) : ∀ l : List Nat, isIn x l = true ↔ x ∈ l
  | [] => by simp [isIn]
  | y :: l => by
    rw [isIn, Bool.or_eq_true, Nat.beq_eq, isIn_iff x l, List.mem_cons]
theorem nd_iff : ∀ l : List Nat, nd l = true ↔ l.Nodup
  | [] => by simp [nd]
  | x :: l => by
    rw [nd, Bool.and_eq_true, nd_iff l, List.nodup_cons, Bool.not_eq_true', ← Bool.not_eq_true, isIn_iff]
def ndQ (C : Nat → Nat → Bool) : List Quad → Bool → Nat → Bool
  | [], _, _ => true
  | q :: qs, tn, acc => cond (Nat.testBit acc (codeP (rowQ C tn q))) false (ndQ C qs (!tn) (acc ||| 2 ^ codeP (rowQ C tn q)))
def goodQ (t : List Nat) : Bool := ndQ (CK t) quads false 0
theorem insP_eq (c : Nat × Nat → Bool) (x : Nat × Nat) : ∀ row : List (Nat × Nat), insP c x row = insG c row x
  | [] => rfl
  | q :: r => by
    unfold insG
    rw [insP, List.takeWhile_cons, List.dropWhile_cons]
    cases h : c q with
    | true => rw [insP_eq c x r]; simp [insG]
    | false => simp
def Quad.list (q : Quad) : List (Nat × Nat) := [q.a, q.b, q.c, q.d]
theorem rowQ_eq (C : Nat → Nat → Bool) (tn : Bool) (q : Quad) {o : List Nat} (h : stepsN 0 o = q.list) : rowQ C tn q = sweptC C o tn := by
  unfold sweptC rowQ
  rw [h]
  cases tn with
  | true => rw [if_pos rfl]; simp only [cond_true, insP_eq]; rfl
  | false => rw [if_neg Bool.false_ne_true]; simp only [cond_false, insP_eq]; rfl
theorem quads_eq : ord24.map (stepsN 0) = quads.map Quad.list := by decide +kernel
theorem code_eq {l : List (Nat × Nat)} (h : l.length = 4) : codeP l = codeN (l.map (·.2)) := by
  match l, h with
  | [a, b, c, d], _ => show _ = (((0 * 4 + a.2) * 4 + b.2) * 4 + c.2) * 4 + d.2; rw [codeP, Nat.zero_mul, Nat.zero_add]
theorem insP_len (c : Nat × Nat → Bool) (x : Nat × Nat) : ∀ row : List (Nat × Nat), (insP c x row).length = row.length + 1
  | [] => rfl
  | q :: r => by
    rw [insP]
    cases c q with
    | true => rw [cond_true, List.length_cons, insP_len c x r, List.length_cons]
    | false => rfl
theorem rowQ_len (C : Nat → Nat → Bool) (tn : Bool) (q : Quad) : (rowQ C tn q).length = 4 := by
  unfold rowQ
  cases tn with
  | true => rw [cond_true, insP_len, insP_len, insP_len]; rfl
  | false => rw [cond_false, insP_len, insP_len, insP_len]; rfl
theorem ndQ_ok (C : Nat → Nat → Bool) : ∀ (os : List (List Nat)) (qs : List Quad) (tn : Bool) (acc : Nat), os.map (stepsN 0) = qs.map Quad.list → ndQ C qs tn acc = true →
    (codesC C os tn).Nodup ∧ ∀ x ∈ codesC C os tn, acc.testBit x = false
  | [], _, _, _, _, _ => ⟨.nil, fun x hx => by cases hx⟩
  | o :: os, [], _, _, h, _ => by cases h
  | o :: os, q :: qs, tn, acc, h, hn => by
    rw [List.map_cons, List.map_cons, List.cons.injEq] at h
    have e : codeP (rowQ C tn q) = codeN (lettersC C o tn) := by
      rw [code_eq (rowQ_len C tn q), rowQ_eq C tn q h.1]; rfl
    rw [ndQ, e] at hn
    cases ht : acc.testBit (codeN (lettersC C o tn)) with
    | true => rw [ht] at hn; cases hn
    | false =>
      rw [ht, cond_false] at hn
      obtain ⟨i1, i2⟩ := ndQ_ok C os qs (!tn) _ h.2 hn
      have key : ∀ x ∈ codesC C os (!tn), acc.testBit x = false ∧ codeN (lettersC C o tn) ≠ x := fun x hx => by
        have := i2 x hx
        rw [Nat.testBit_or, Bool.or_eq_false_iff, Nat.testBit_two_pow] at this
        exact ⟨this.1, of_decide_eq_false this.2⟩
      rw [codesC]
      refine ⟨List.nodup_cons.mpr ⟨fun hx => (key _ hx).2 rfl, i1⟩, fun x hx => ?_⟩
      rcases List.mem_cons.mp hx with rfl | hx
      · exact ht
      · exact (key x hx).1
theorem goodK_of_Q {t : List Nat} (h : goodQ t = true) : goodK t = true := (nd_iff _).mpr (ndQ_ok (CK t) ord24 quads false 0 quads_eq h).1
def near1 (a b : Nat) : Bool := Nat.beq a b || Nat.beq a (b + 1)
def tK (k3 k5 k6 k7 k9 k10 k11 k12 k13 k14 k15 : Nat) : List Nat := [0, 0, 0, k3, 0, k5, k6, k7, 0, k9, k10, k11, k12, k13, k14, k15]
def lin (k3 k5 k6 k9 k10 k12 k7 k11 k13 k14 k15 : Nat) : Bool :=
  near1 k15 k7 && near1 k15 k11 && near1 k15 k13 && near1 k15 k14 && near1 k15 (k3 + k12) && near1 k15 (k5 + k10) && near1 k15 (k6 + k9)
def all15 (k3 k5 k6 k9 k10 k12 : Nat) : Bool :=
  [0, 1, 2].all fun k7 => !(near1 k7 k3 && near1 k7 k5 && near1 k7 k6) ||
  [0, 1, 2].all fun k11 => !(near1 k11 k3 && near1 k11 k9 && near1 k11 k10) ||
  [0, 1, 2].all fun k13 => !(near1 k13 k5 && near1 k13 k9 && near1 k13 k12) ||
  [0, 1, 2].all fun k14 => !(near1 k14 k6 && near1 k14 k10 && near1 k14 k12) ||
  [0, 1, 2, 3].all fun k15 => !lin k3 k5 k6 k9 k10 k12 k7 k11 k13 k14 k15 || goodQ (tK k3 k5 k6 k7 k9 k10 k11 k12 k13 k14 k15)
set_option maxHeartbeats 0 in
theorem all15_0 : ∀ k9 < 2, ∀ k10 < 2, ∀ k12 < 2, all15 0 0 0 k9 k10 k12 = true := by decide +kernel
theorem all15_1 : ∀ k9 < 2, ∀ k10 < 2, ∀ k12 < 2, all15 0 0 1 k9 k10 k12 = true := by decide +kernel
theorem all15_2 : ∀ k9 < 2, ∀ k10 < 2, ∀ k12 < 2, all15 0 1 0 k9 k10 k12 = true := by decide +kernel
theorem all15_3 : ∀ k9 < 2, ∀ k10 < 2, ∀ k12 < 2, all15 0 1 1 k9 k10 k12 = true := by decide +kernel
theorem all15_4 : ∀ k9 < 2, ∀ k10 < 2, ∀ k12 < 2, all15 1 0 0 k9 k10 k12 = true := by decide +kernel
theorem all15_5 : ∀ k9 < 2, ∀ k10 < 2, ∀ k12 < 2, all15 1 0 1 k9 k10 k12 = true := by decide +kernel
theorem all15_6 : ∀ k9 < 2, ∀ k10 < 2, ∀ k12 < 2, all15 1 1 0 k9 k10 k12 = true := by decide +kernel
theorem all15_7 : ∀ k9 < 2, ∀ k10 < 2, ∀ k12 < 2, all15 1 1 1 k9 k10 k12 = true := by decide +kernel
-- part Sw2
/-! ### levels by masks -/
def bit (S k : Nat) : Bool := decide (S / 2 ^ k % 2 = 1)
theorem levelOf_eq (ws : List Int) (S : Nat) : levelOf ws S = (if bit S 0 = true then ws.getD 0 0 else 0) + ((if bit S 1 = true then ws.getD 1 0 else 0) + ((if bit S 2 = true then ws.getD 2 0 else 0) + (if bit S 3 = true then ws.getD 3 0 else 0))) := by
  show ((([0, 1, 2, 3].filter fun k => bit S k).map fun k => ws.getD k 0).sum) = _
  simp only [List.filter_cons, List.filter_nil]
  cases bit S 0 <;> cases bit S 1 <;> cases bit S 2 <;> cases bit S 3 <;> simp
def bitsOk (p q r : Bool) : Bool := (p && ((q && !r) || (!q && r))) || (!p && !q && !r)
theorem bits_sub0 : ∀ k, k < 4 → ∀ a, a < 16 → ∀ b, b < 16 → subM a b = true → bitsOk (bit b k) (bit a k) (bit (b - a) k) = true := by decide +kernel
theorem subM_lt {a b : Nat} (h : subM a b = true) : 0 < a ∧ a < b ∧ b < 16 := by
  simp only [subM, Bool.and_eq_true, Nat.blt_eq] at h
  (first | lia | omega)
theorem ite_add {x : Int} {p q r : Bool} (h : bitsOk p q r = true) :
    (if p = true then x else 0) = (if q = true then x else 0) + (if r = true then x else 0) := by
  cases p <;> cases q <;> cases r <;> first | (cases h; done) | simp
theorem level_add (ws : List Int) {a b : Nat} (h : subM a b = true) : levelOf ws b = levelOf ws a + levelOf ws (b - a) := by
  obtain ⟨h0, h1, h2⟩ := subM_lt h
  have hb := fun k hk => bits_sub0 k hk a (by first | lia | omega) b h2 h
  rw [levelOf_eq, levelOf_eq, levelOf_eq, ite_add (hb 0 (by first | lia | omega)), ite_add (hb 1 (by first | lia | omega)), ite_add (hb 2 (by first | lia | omega)), ite_add (hb 3 (by first | lia | omega))]
  (first | lia | omega)
theorem rests_get (ws : List Int) (m : Int) {S : Nat} (h : S < 16) : (restsOf ws m 16).getD S 0 = -(levelOf ws S % m) := by
  unfold restsOf
  rw [List.getD_eq_getElem?_getD, List.getElem?_map, List.getElem?_range h]; rfl
theorem div_add {x y m : Int} (hm : 0 < m) : ((x + y) / m = x / m + y / m ∧ ¬ (x + y) % m < x % m) ∨ ((x + y) / m = x / m + y / m + 1 ∧ (x + y) % m < x % m) := by
  have ex := Int.emod_add_mul_ediv x m
  have ey := Int.emod_add_mul_ediv y m
  have x0 := Int.emod_nonneg x (by first | lia | omega : m ≠ 0)
  have x1 := Int.emod_lt_of_pos x hm
  have y0 := Int.emod_nonneg y (by first | lia | omega : m ≠ 0)
  have y1 := Int.emod_lt_of_pos y hm
  by_cases c : x % m + y % m < m
  · have := (Int.ediv_emod_unique (a := x + y) (r := x % m + y % m) (q := x / m + y / m) hm).mpr ⟨by rw [Int.mul_add]; (first | lia | omega), by first | lia | omega, c⟩
    left; rw [this.1, this.2]; (first | lia | omega)
  · have := (Int.ediv_emod_unique (a := x + y) (r := x % m + y % m - m) (q := x / m + y / m + 1) hm).mpr ⟨by rw [Int.mul_add, Int.mul_add]; (first | lia | omega), by first | lia | omega, by first | lia | omega⟩
    right; rw [this.1, this.2]; (first | lia | omega)
/-- how many whole moduli a mask has beyond its letters -/
def KI (ws : List Int) (m : Int) (S : Nat) : Int := levelOf ws S / m - levelOf [levelOf ws 1 / m, levelOf ws 2 / m, levelOf ws 4 / m, levelOf ws 8 / m] S
theorem KI_step (ws : List Int) {m : Int} (hm : 0 < m) {a b : Nat} (h : subM a b = true) :
    (KI ws m b = KI ws m a + KI ws m (b - a) ∧ ¬ levelOf ws b % m < levelOf ws a % m) ∨ (KI ws m b = KI ws m a + KI ws m (b - a) + 1 ∧ levelOf ws b % m < levelOf ws a % m) := by
  unfold KI
  rw [level_add ws h, level_add [levelOf ws 1 / m, levelOf ws 2 / m, levelOf ws 4 / m, levelOf ws 8 / m] h]
  rcases div_add (x := levelOf ws a) (y := levelOf ws (b - a)) hm with h | h
  · left; exact ⟨by first | lia | omega, h.2⟩
  · right; exact ⟨by first | lia | omega, h.2⟩
theorem lv1 (a b c d : Int) : levelOf [a, b, c, d] 1 = a ∧ levelOf [a, b, c, d] 2 = b ∧ levelOf [a, b, c, d] 4 = c ∧ levelOf [a, b, c, d] 8 = d := by
  refine ⟨?_, ?_, ?_, ?_⟩ <;> rw [levelOf_eq]
  · rw [show bit 1 0 = true by decide, show bit 1 1 = false by decide, show bit 1 2 = false by decide, show bit 1 3 = false by decide]; simp
  · rw [show bit 2 0 = false by decide, show bit 2 1 = true by decide, show bit 2 2 = false by decide, show bit 2 3 = false by decide]; simp
  · rw [show bit 4 0 = false by decide, show bit 4 1 = false by decide, show bit 4 2 = true by decide, show bit 4 3 = false by decide]; simp
  · rw [show bit 8 0 = false by decide, show bit 8 1 = false by decide, show bit 8 2 = false by decide, show bit 8 3 = true by decide]; simp
theorem KI_one (ws : List Int) (m : Int) : KI ws m 1 = 0 ∧ KI ws m 2 = 0 ∧ KI ws m 4 = 0 ∧ KI ws m 8 = 0 := by
  unfold KI
  obtain ⟨h1, h2, h4, h8⟩ := lv1 (levelOf ws 1 / m) (levelOf ws 2 / m) (levelOf ws 4 / m) (levelOf ws 8 / m)
  rw [h1, h2, h4, h8]; (first | lia | omega)
theorem KI_rel (ws : List Int) {m : Int} (hm : 0 < m) {a b : Nat} (h : subM a b = true) : KI ws m b = KI ws m a + KI ws m (b - a) ∨ KI ws m b = KI ws m a + KI ws m (b - a) + 1 := by
  rcases KI_step ws hm h with h | h
  · exact .inl h.1
  · exact .inr h.1
def tabOf (ws : List Int) (m : Int) : List Nat :=
  tK (KI ws m 3).toNat (KI ws m 5).toNat (KI ws m 6).toNat (KI ws m 7).toNat (KI ws m 9).toNat (KI ws m 10).toNat (KI ws m 11).toNat (KI ws m 12).toNat (KI ws m 13).toNat (KI ws m 14).toNat (KI ws m 15).toNat
theorem tab_get (ws : List Int) (m : Int) {S : Nat} (h : 0 < S) (h' : S < 16) : (tabOf ws m).getD S 0 = (KI ws m S).toNat := by
  obtain ⟨k1, k2, k4, k8⟩ := KI_one ws m
  match S, h, h' with
  | 1, _, _ => rw [k1]; rfl
  | 2, _, _ => rw [k2]; rfl
  | 3, _, _ => rfl
  | 4, _, _ => rw [k4]; rfl
  | 5, _, _ => rfl
  | 6, _, _ => rfl
  | 7, _, _ => rfl
  | 8, _, _ => rw [k8]; rfl
  | 9, _, _ => rfl
  | 10, _, _ => rfl
  | 11, _, _ => rfl
  | 12, _, _ => rfl
  | 13, _, _ => rfl
  | 14, _, _ => rfl
  | 15, _, _ => rfl
  | S + 16, _, h => exact absurd h (by first | lia | omega)
theorem near1_of {a b : Nat} (h : a = b ∨ a = b + 1) : near1 a b = true := by
  unfold near1
  rw [Bool.or_eq_true, Nat.beq_eq, Nat.beq_eq]; exact h
theorem mem3 {k : Nat} (h : k < 3) : k ∈ [0, 1, 2] := by
  simp only [List.mem_cons, List.not_mem_nil, or_false]; (first | lia | omega)
theorem mem4 {k : Nat} (h : k < 4) : k ∈ [0, 1, 2, 3] := by
  simp only [List.mem_cons, List.not_mem_nil, or_false]; (first | lia | omega)
theorem or_elim {a b : Bool} (h : (!a || b) = true) (ha : a = true) : b = true := by rw [ha] at h; exact h
theorem all15_any {k3 k5 k6 k9 k10 k12 : Nat} (h3 : k3 < 2) (h5 : k5 < 2) (h6 : k6 < 2) (h9 : k9 < 2) (h10 : k10 < 2) (h12 : k12 < 2) : all15 k3 k5 k6 k9 k10 k12 = true := by
  match k3, k5, k6, h3, h5, h6 with
  | 0, 0, 0, _, _, _ => exact all15_0 _ h9 _ h10 _ h12
  | 0, 0, 1, _, _, _ => exact all15_1 _ h9 _ h10 _ h12
  | 0, 1, 0, _, _, _ => exact all15_2 _ h9 _ h10 _ h12
  | 0, 1, 1, _, _, _ => exact all15_3 _ h9 _ h10 _ h12
  | 1, 0, 0, _, _, _ => exact all15_4 _ h9 _ h10 _ h12
  | 1, 0, 1, _, _, _ => exact all15_5 _ h9 _ h10 _ h12
  | 1, 1, 0, _, _, _ => exact all15_6 _ h9 _ h10 _ h12
  | 1, 1, 1, _, _, _ => exact all15_7 _ h9 _ h10 _ h12
theorem nn_of {x y : Int} (h : x = y ∨ x = y + 1) (hy : 0 ≤ y) : 0 ≤ x := by (first | lia | omega)
theorem up_of {x y : Int} {k : Nat} (h : x = y ∨ x = y + 1) (hy : y.toNat < k) : x.toNat < k + 1 := by (first | lia | omega)
theorem near_nat {x y : Int} (h : x = y ∨ x = y + 1) (hy : 0 ≤ y) : near1 x.toNat y.toNat = true := near1_of (by first | lia | omega)
theorem near_nat2 {x y z : Int} (h : x = y + z ∨ x = y + z + 1) (hy : 0 ≤ y) (hz : 0 ≤ z) : near1 x.toNat (y.toNat + z.toNat) = true := near1_of (by first | lia | omega)
theorem and3 {a b c : Bool} (ha : a = true) (hb : b = true) (hc : c = true) : (a && b && c) = true := by rw [ha, hb, hc]; rfl
theorem goodK_of (ws : List Int) {m : Int} (hm : 0 < m) : goodK (tabOf ws m) = true ∧ ∀ S, 0 < S → S < 16 → 0 ≤ KI ws m S := by
  obtain ⟨k1, k2, k4, k8⟩ := KI_one ws m
  have s3 := KI_rel ws hm (a := 1) (b := 3) (by decide)
  have s5 := KI_rel ws hm (a := 1) (b := 5) (by decide)
  have s6 := KI_rel ws hm (a := 2) (b := 6) (by decide)
  have s9 := KI_rel ws hm (a := 1) (b := 9) (by decide)
  have s10 := KI_rel ws hm (a := 2) (b := 10) (by decide)
  have s12 := KI_rel ws hm (a := 4) (b := 12) (by decide)
  have s7a := KI_rel ws hm (a := 3) (b := 7) (by decide)
  have s7b := KI_rel ws hm (a := 5) (b := 7) (by decide)
  have s7c := KI_rel ws hm (a := 6) (b := 7) (by decide)
  have s11a := KI_rel ws hm (a := 3) (b := 11) (by decide)
  have s11b := KI_rel ws hm (a := 9) (b := 11) (by decide)
  have s11c := KI_rel ws hm (a := 10) (b := 11) (by decide)
  have s13a := KI_rel ws hm (a := 5) (b := 13) (by decide)
  have s13b := KI_rel ws hm (a := 9) (b := 13) (by decide)
  have s13c := KI_rel ws hm (a := 12) (b := 13) (by decide)
  have s14a := KI_rel ws hm (a := 6) (b := 14) (by decide)
  have s14b := KI_rel ws hm (a := 10) (b := 14) (by decide)
  have s14c := KI_rel ws hm (a := 12) (b := 14) (by decide)
  have s15a := KI_rel ws hm (a := 7) (b := 15) (by decide)
  have s15b := KI_rel ws hm (a := 11) (b := 15) (by decide)
  have s15c := KI_rel ws hm (a := 13) (b := 15) (by decide)
  have s15d := KI_rel ws hm (a := 14) (b := 15) (by decide)
  have s15e := KI_rel ws hm (a := 3) (b := 15) (by decide)
  have s15f := KI_rel ws hm (a := 5) (b := 15) (by decide)
  have s15g := KI_rel ws hm (a := 6) (b := 15) (by decide)
  simp only [Nat.reduceSub, k1, k2, k4, k8, Int.add_zero] at s3 s5 s6 s9 s10 s12 s7a s7b s7c s11a s11b s11c s13a s13b s13c s14a s14b s14c s15a s15b s15c s15d s15e s15f s15g
  have n3 := nn_of s3 (Int.le_refl 0)
  have u3 := up_of (k := 1) s3 (by decide)
  have n5 := nn_of s5 (Int.le_refl 0)
  have u5 := up_of (k := 1) s5 (by decide)
  have n6 := nn_of s6 (Int.le_refl 0)
  have u6 := up_of (k := 1) s6 (by decide)
  have n9 := nn_of s9 (Int.le_refl 0)
  have u9 := up_of (k := 1) s9 (by decide)
  have n10 := nn_of s10 (Int.le_refl 0)
  have u10 := up_of (k := 1) s10 (by decide)
  have n12 := nn_of s12 (Int.le_refl 0)
  have u12 := up_of (k := 1) s12 (by decide)
  have n7 := nn_of s7a n3
  have u7 := up_of (k := 2) s7a u3
  have n11 := nn_of s11a n3
  have u11 := up_of (k := 2) s11a u3
  have n13 := nn_of s13a n5
  have u13 := up_of (k := 2) s13a u5
  have n14 := nn_of s14a n6
  have u14 := up_of (k := 2) s14a u6
  have n15 := nn_of s15a n7
  have u15 := up_of (k := 3) s15a u7
  refine ⟨?_, ?_⟩
  · have A := all15_any u3 u5 u6 u9 u10 u12
    unfold all15 at A
    have A := or_elim (List.all_eq_true.mp A (KI ws m 7).toNat (mem3 u7)) (and3 (near_nat s7a n3) (near_nat s7b n5) (near_nat s7c n6))
    have A := or_elim (List.all_eq_true.mp A (KI ws m 11).toNat (mem3 u11)) (and3 (near_nat s11a n3) (near_nat s11b n9) (near_nat s11c n10))
    have A := or_elim (List.all_eq_true.mp A (KI ws m 13).toNat (mem3 u13)) (and3 (near_nat s13a n5) (near_nat s13b n9) (near_nat s13c n12))
    have A := or_elim (List.all_eq_true.mp A (KI ws m 14).toNat (mem3 u14)) (and3 (near_nat s14a n6) (near_nat s14b n10) (near_nat s14c n12))
    have A := or_elim (List.all_eq_true.mp A (KI ws m 15).toNat (mem4 u15)) (by
      unfold lin
      rw [near_nat s15a n7, near_nat s15b n11, near_nat s15c n13, near_nat s15d n14, near_nat2 s15e n3 n12, near_nat2 s15f n5 n10, near_nat2 s15g n6 n9]; rfl)
    exact goodK_of_Q A
  · intro S h0 h1
    match S, h0, h1 with
    | 1, _, _ => rw [k1]; decide
    | 2, _, _ => rw [k2]; decide
    | 3, _, _ => exact n3
    | 4, _, _ => rw [k4]; decide
    | 5, _, _ => exact n5
    | 6, _, _ => exact n6
    | 7, _, _ => exact n7
    | 8, _, _ => rw [k8]; decide
    | 9, _, _ => exact n9
    | 10, _, _ => exact n10
    | 11, _, _ => exact n11
    | 12, _, _ => exact n12
    | 13, _, _ => exact n13
    | 14, _, _ => exact n14
    | 15, _, _ => exact n15
    | S + 16, _, h => exact absurd h (by first | lia | omega)
theorem cmp_tab (ws : List Int) {m : Int} (hm : 0 < m) (a b : Nat) (h : subM a b = true) : cmpOf (restsOf ws m 16) a b = CK (tabOf ws m) a b := by
  obtain ⟨h0, h1, h2⟩ := subM_lt h
  obtain ⟨_, N⟩ := goodK_of ws hm
  have na := N a h0 (by first | lia | omega)
  have nd := N (b - a) (by first | lia | omega) (by first | lia | omega)
  unfold cmpOf CK
  rw [rests_get ws m h2, rests_get ws m (by first | lia | omega), tab_get ws m h0 (by first | lia | omega), tab_get ws m (by first | lia | omega) h2, tab_get ws m (by first | lia | omega) (by first | lia | omega)]
  rcases KI_step ws hm h with ⟨e, c⟩ | ⟨e, c⟩
  · rw [decide_eq_false (by first | lia | omega), (Nat.beq_eq ..).mpr (by first | lia | omega)]; rfl
  · rw [decide_eq_true (by first | lia | omega), show Nat.beq (KI ws m b).toNat ((KI ws m a).toNat + (KI ws m (b - a)).toNat) = false from Bool.eq_false_iff.mpr fun q => by rw [Nat.beq_eq] at q; (first | lia | omega)]; rfl
-- part Sw3
theorem insG_perm {α : Type} (p : α → Bool) (row : List α) (x : α) : (insG p row x).Perm (x :: row) := by
  unfold insG
  refine List.perm_middle.trans ?_
  rw [List.takeWhile_append_dropWhile]
theorem fold_perm {α : Type} (g : α → α → Bool) : ∀ (l row : List α), (l.foldl (fun row p => insG (fun q => g q p) row p) row).Perm (l ++ row)
  | [], row => .refl _
  | x :: l, row => (fold_perm g l _).trans (((insG_perm _ row x).append_left l).trans List.perm_middle)
theorem swept_perm (C : Nat → Nat → Bool) (ks : List Nat) (tn : Bool) : (sweptC C ks tn).Perm (stepsN 0 ks) := by
  unfold sweptC
  cases tn with
  | false =>
    rw [if_neg Bool.false_ne_true]
    have := fold_perm (fun (q p : Nat × Nat) => C q.1 p.1) (stepsN 0 ks) []
    rwa [List.append_nil] at this
  | true =>
    rw [if_pos rfl]
    have := fold_perm (fun (q p : Nat × Nat) => !C p.1 q.1) (stepsN 0 ks).reverse []
    rw [List.append_nil] at this
    exact this.trans (List.reverse_perm _)
theorem stepsN_snd : ∀ (ks : List Nat) (m : Nat), (stepsN m ks).map (·.2) = ks
  | [], _ => rfl
  | k :: ks, m => by rw [stepsN, List.map_cons, stepsN_snd ks]
theorem letters_perm (C : Nat → Nat → Bool) (ks : List Nat) (tn : Bool) : (lettersC C ks tn).Perm ks := by
  have := (swept_perm C ks tn).map (·.2)
  rwa [stepsN_snd] at this
theorem ord_perm : ∀ o ∈ ord24, o.Perm [0, 1, 2, 3] := by decide +kernel
def inOrd (a b c d : Nat) : Bool := ord24.contains [a, b, c, d]
theorem ord_full0 : ∀ a, a < 4 → ∀ b, b < 4 → ∀ c, c < 4 → ∀ d, d < 4 → nd [a, b, c, d] = true → inOrd a b c d = true := by decide +kernel
theorem ord_full {l : List Nat} (h : l.Perm [0, 1, 2, 3]) : l ∈ ord24 := by
  have hl := h.length_eq
  have hn : l.Nodup := h.nodup_iff.mpr (by decide)
  have hm : ∀ k ∈ l, k < 4 := fun k hk => by
    have := h.mem_iff.mp hk
    simp only [List.mem_cons, List.not_mem_nil, or_false] at this
    (first | lia | omega)
  match l, hl, hn, hm with
  | [a, b, c, d], _, hn, hm =>
    have := ord_full0 a (hm a (by simp)) b (hm b (by simp)) c (hm c (by simp)) d (hm d (by simp)) ((nd_iff _).mpr hn)
    unfold inOrd at this
    exact List.contains_iff_mem.mp this
def oddB (i : Nat) : Bool := decide (i % 2 = 1)
def rowC (C : Nat → Nat → Bool) (i : Nat) : List Nat := lettersC C (ord24.getD i []) (oddB i)
def jC (C : Nat → Nat → Bool) (i : Nat) : Nat := ord24.idxOf (rowC C i)
theorem ord24_len : ord24.length = 24 := rfl
theorem ord24_mem {i : Nat} (h : i < 24) : ord24.getD i [] ∈ ord24 := by
  rw [List.getD_eq_getElem?_getD, List.getElem?_eq_getElem (by rw [ord24_len]; exact h)]
  exact List.getElem_mem _
theorem jC_ok (C : Nat → Nat → Bool) {i : Nat} (h : i < 24) : jC C i < 24 ∧ ord24.getD (jC C i) [] = rowC C i := by
  have hm : rowC C i ∈ ord24 := ord_full ((letters_perm C _ _).trans (ord_perm _ (ord24_mem h)))
  have hl := List.idxOf_lt_length_iff.mpr hm
  refine ⟨hl, ?_⟩
  unfold jC
  rw [List.getD_eq_getElem?_getD, List.getElem?_eq_getElem hl, List.getElem_idxOf hl]; rfl
theorem codes_eq (C : Nat → Nat → Bool) : codesC C ord24 false = (List.range 24).map fun i => codeN (rowC C i) := rfl
theorem perm_of {l r : List Nat} (hn : l.Nodup) (hm : ∀ x ∈ l, x ∈ r) (hl : r.length ≤ l.length) : l.Perm r := by
  induction l generalizing r with
  | nil =>
    have : r = [] := List.length_eq_zero_iff.mp (by simpa using hl)
    rw [this]
  | cons x l ih =>
    rw [List.nodup_cons] at hn
    have hx := hm x List.mem_cons_self
    refine List.Perm.trans (.cons x (ih hn.2 (fun y hy => ?_) ?_)) (List.perm_cons_erase hx).symm
    · have hne : y ≠ x := fun e => hn.1 (e ▸ hy)
      exact (List.mem_erase_of_ne hne).mpr (hm y (List.mem_cons_of_mem _ hy))
    · rw [List.length_erase_of_mem hx]
      simp only [List.length_cons] at hl
      (first | lia | omega)
theorem js_perm {C : Nat → Nat → Bool} (h : nd (codesC C ord24 false) = true) : ((List.range 24).map (jC C)).Perm (List.range 24) := by
  refine perm_of ?_ (fun x hx => ?_) (by simp)
  · rw [nd_iff, codes_eq] at h
    have e : (List.range 24).map (fun i => codeN (rowC C i)) = ((List.range 24).map (jC C)).map fun j => codeN (ord24.getD j []) := by
      rw [List.map_map]
      refine List.map_congr_left fun i hi => ?_
      rw [List.mem_range] at hi
      show _ = codeN (ord24.getD (jC C i) [])
      rw [(jC_ok C hi).2]
    rw [e] at h
    exact (List.pairwise_map.mp h).imp fun {a b} hab e => hab (by rw [e])
  · obtain ⟨i, hi, rfl⟩ := List.mem_map.mp hx
    rw [List.mem_range] at hi ⊢
    exact (jC_ok C hi).1
theorem rowOf_C (rs : List Int) (i : Nat) : rowOf rs i = (sweptC (cmpOf rs) (ord24.getD i []) (oddB i)).map (asPair rs) := by
  unfold rowOf
  rw [sweptOf_C, ord24_eq]; rfl
theorem ordI_24 (j : Nat) : ordI j = (ord24.getD j []).map Int.ofNat := by
  unfold ordI; rw [ord24_eq]
theorem lettersOf_row (rs : List Int) {i : Nat} (h : i < 24) : lettersOf (rowOf rs i) = ordI (jC (cmpOf rs) i) := by
  rw [ordI_24, (jC_ok _ h).2, rowOf_C]
  unfold lettersOf rowC lettersC
  rw [List.map_map, List.map_map]; rfl
theorem foldL_srt : ∀ (l row : List (Int × Int)), Srt row → Srt (l.foldl insL row)
  | [], row, h => h
  | x :: l, row, h => foldL_srt l _ (insL_srt row x h)
theorem foldR_srt : ∀ (l row : List (Int × Int)), Srt row → Srt (l.foldl insR row)
  | [], row, h => h
  | x :: l, row, h => foldR_srt l _ (insR_srt row x h)
theorem rowOf_srt (rs : List Int) (i : Nat) : Srt (rowOf rs i) := by
  unfold rowOf sweptOf
  split
  · exact foldR_srt _ _ .nil
  · exact foldL_srt _ _ .nil
theorem stepsN_len : ∀ (ks : List Nat) (m : Nat), (stepsN m ks).length = ks.length
  | [], _ => rfl
  | k :: ks, m => by rw [stepsN, List.length_cons, stepsN_len ks, List.length_cons]
theorem rowOf_len (rs : List Int) {i : Nat} (h : i < 24) : (rowOf rs i).length = 4 := by
  rw [rowOf_C, List.length_map, (swept_perm _ _ _).length_eq, stepsN_len, (ord_perm _ (ord24_mem h)).length_eq]; rfl
theorem rowC_congr {C C' : Nat → Nat → Bool} (h : ∀ a b, subM a b = true → C a b = C' a b) {i : Nat} (hi : i < 24) : rowC C i = rowC C' i := by
  unfold rowC lettersC
  rw [swept_congr h (ord_pairs _ (by rw [ord24_eq]; exact ord24_mem hi))]
theorem codes_congr {C C' : Nat → Nat → Bool} (h : ∀ a b, subM a b = true → C a b = C' a b) : codesC C ord24 false = codesC C' ord24 false := by
  rw [codes_eq, codes_eq]
  refine List.map_congr_left fun i hi => ?_
  rw [rowC_congr h (List.mem_range.mp hi)]
/-- the sweep map loses nothing -/
theorem sweep_perm (ws : List Int) {m : Int} (hm : 0 < m) : ((List.range 24).map (jC (cmpOf (restsOf ws m 16)))).Perm (List.range 24) := by
  refine js_perm ?_
  rw [codes_congr (cmp_tab ws hm)]
  exact (goodK_of ws hm).1

/-! ### apart -/
/-- a row closes: its levels never fall below nought, the last is nought -/
def dy (ss : List Int) : List Nat → Int → Bool
  | [], l => decide (l = 0)
  | k :: ks, l => decide (0 ≤ l + ss.getD k 0) && dy ss ks (l + ss.getD k 0)
theorem dyRun_low (ss : List Int) : ∀ (ks : List Nat) (p : Int × Int), p.2 < 0 → (dyRun ss ks p).2 < 0
  | [], p, h => h
  | k :: ks, p, h => by
    rw [dyRun]
    refine dyRun_low ss ks _ ?_
    show (if p.1 + ss.getD k 0 < p.2 then p.1 + ss.getD k 0 else p.2) < 0
    split <;> (first | lia | omega)
theorem dyRun_dy (ss : List Int) : ∀ (ks : List Nat) (l : Int), (decide ((dyRun ss ks (l, 0)).1 = 0) && decide ((dyRun ss ks (l, 0)).2 = 0)) = dy ss ks l
  | [], l => by rw [dyRun, dy]; exact Bool.and_true _
  | k :: ks, l => by
    rw [dyRun, dy]
    by_cases h : 0 ≤ l + ss.getD k 0
    · rw [decide_eq_true h, Bool.true_and, ← dyRun_dy ss ks]
      simp only [if_neg (show ¬ l + ss.getD k 0 < 0 by first | lia | omega)]
    · rw [decide_eq_false h, Bool.false_and]
      simp only [if_pos (show l + ss.getD k 0 < 0 by first | lia | omega)]
      have := dyRun_low ss ks (l + ss.getD k 0, l + ss.getD k 0) (by show l + ss.getD k 0 < 0; (first | lia | omega))
      rw [decide_eq_false (p := (dyRun ss ks (l + ss.getD k 0, l + ss.getD k 0)).2 = 0) (by first | lia | omega), Bool.and_false]
theorem closed_dy (ss : List Int) (o : List Nat) : closedOf ss o = dy ss o 0 := dyRun_dy ss o 0
def enc (s c : Nat) : Nat := cond (Nat.blt s c) (s + 132 - c) (s + 32 - c)
def tabU (x0 x1 x2 x3 : Nat) : List Nat :=
  [32, enc x0 8, enc x1 8, enc (x0 + x1) 16, enc x2 8, enc (x0 + x2) 16, enc (x1 + x2) 16, enc (x0 + x1 + x2) 24,
    enc x3 8, enc (x0 + x3) 16, enc (x1 + x3) 16, enc (x0 + x1 + x3) 24, enc (x2 + x3) 16, enc (x0 + x2 + x3) 24, enc (x1 + x2 + x3) 24, enc (x0 + x1 + x2 + x3) 32]
def cmpT (T : List Nat) (a b : Nat) : Bool := Nat.blt (T.getD b 0) (T.getD a 0)
def dyN (xs : List Nat) : List Nat → Nat → Bool
  | [], l => Nat.beq l 32
  | k :: ks, l => Nat.ble 32 (l + xs.getD k 0 - 8) && dyN xs ks (l + xs.getD k 0 - 8)
def chkN (T xs : List Nat) : List (List Nat) → Bool → Bool
  | [], _ => true
  | o :: os, tn => (dyN xs (lettersC (cmpT T) o tn) 32 == dyN xs o 32) && chkN T xs os (!tn)
def dyP (xs : List Nat) : List (Nat × Nat) → Nat → Bool
  | [], l => Nat.beq l 32
  | k :: ks, l => Nat.ble 32 (l + xs.getD k.2 0 - 8) && dyP xs ks (l + xs.getD k.2 0 - 8)
theorem dyP_eq (xs : List Nat) : ∀ (o : List (Nat × Nat)) (l : Nat), dyP xs o l = dyN xs (o.map (·.2)) l
  | [], _ => rfl
  | k :: ks, l => by rw [dyP, List.map_cons, dyN, dyP_eq xs ks]
def chkQ (T xs : List Nat) : List Quad → Bool → Bool
  | [], _ => true
  | q :: qs, tn => (dyP xs (rowQ (cmpT T) tn q) 32 == dyP xs q.list 32) && chkQ T xs qs (!tn)
theorem chkQ_eq (T xs : List Nat) : ∀ (os : List (List Nat)) (qs : List Quad) (tn : Bool), os.map (stepsN 0) = qs.map Quad.list → chkQ T xs qs tn = chkN T xs os tn
  | [], [], _, _ => rfl
  | [], _ :: _, _, h => by cases h
  | _ :: _, [], _, h => by cases h
  | o :: os, q :: qs, tn, h => by
    rw [List.map_cons, List.map_cons, List.cons.injEq] at h
    rw [chkQ, chkN, chkQ_eq T xs os qs (!tn) h.2, dyP_eq, dyP_eq, rowQ_eq _ tn q h.1, ← h.1, stepsN_snd]; rfl
def chkA (a b c t : Nat) : Bool := chkQ (tabU (a + 6) (b + 6) (c + 6) (14 + t - (a + b + c))) [a + 6, b + 6, c + 6, 14 + t - (a + b + c)] quads false
theorem chkA_0 : ∀ b < 5, ∀ c < 5, chkA 0 b c 0 = true := by decide +kernel
theorem chkA_1 : ∀ b < 5, ∀ c < 5, chkA 1 b c 0 = true := by decide +kernel
theorem chkA_2 : ∀ b < 5, ∀ c < 5, chkA 2 b c 0 = true := by decide +kernel
theorem chkA_3 : ∀ b < 5, ∀ c < 5, chkA 3 b c 0 = true := by decide +kernel
theorem chkA_4 : ∀ b < 5, ∀ c < 5, chkA 4 b c 0 = true := by decide +kernel
/-- what closes sums up to nought -/
theorem dy_sum (ss : List Int) : ∀ (ks : List Nat) (l : Int), dy ss ks l = true → l + (ks.map fun k => ss.getD k 0).sum = 0
  | [], l, h => by rw [dy, decide_eq_true_eq] at h; rw [h]; rfl
  | k :: ks, l, h => by
    rw [dy, Bool.and_eq_true] at h
    have := dy_sum ss ks _ h.2
    rw [List.map_cons, List.sum_cons, ← Int.add_assoc]; exact this
theorem perm_sum {l r : List Int} (h : l.Perm r) : l.sum = r.sum := by
  induction h with
  | nil => rfl
  | cons x _ ih => rw [List.sum_cons, List.sum_cons, ih]
  | swap x y l => simp only [List.sum_cons]; first | lia | omega
  | trans _ _ h1 h2 => exact h1.trans h2
theorem dy_no {ss : List Int} {o : List Nat} (h : o.Perm [0, 1, 2, 3]) (hs : ss.getD 0 0 + (ss.getD 1 0 + (ss.getD 2 0 + (ss.getD 3 0 + 0))) ≠ 0) : dy ss o 0 = false := by
  refine Bool.eq_false_iff.mpr fun q => hs ?_
  have := dy_sum ss o 0 q
  rw [Int.zero_add, perm_sum (h.map fun k => ss.getD k 0)] at this
  exact this
-- part Sw4
def uOf (v : Int) : Int := if v < 0 then v + 100 else v
def Cs (ss : List Int) (a b : Nat) : Bool := decide (uOf (levelOf ss b) < uOf (levelOf ss a))
theorem chkN_eq (T xs : List Nat) : chkN T xs ord24 false = (List.range 24).all fun i => dyN xs (rowC (cmpT T) i) 32 == dyN xs (ord24.getD i []) 32 := rfl
theorem chkA_any {a b c t : Nat} (ha : a < 5) (hb : b < 5) (hc : c < 5) (ht : t = 0) : chkA a b c t = true := by
  subst ht
  match a, ha with
  | 0, _ => exact chkA_0 b hb c hc
  | 1, _ => exact chkA_1 b hb c hc
  | 2, _ => exact chkA_2 b hb c hc
  | 3, _ => exact chkA_3 b hb c hc
  | 4, _ => exact chkA_4 b hb c hc
theorem dyN_dy {xs : List Nat} {ss : List Int} : ∀ (o : List Nat) (l : Nat), (∀ k ∈ o, ((xs.getD k 0 : Nat) : Int) = ss.getD k 0 + 8) → dyN xs o (l + 32) = dy ss o (l : Int)
  | [], l, _ => by
    rw [dyN, dy]
    by_cases h : l = 0
    · subst h; rfl
    · rw [decide_eq_false (by first | lia | omega)]
      exact Bool.eq_false_iff.mpr fun q => by rw [Nat.beq_eq] at q; (first | lia | omega)
  | k :: ks, l, h => by
    have hk := h k List.mem_cons_self
    rw [dyN, dy]
    generalize xs.getD k 0 = x at *
    generalize ss.getD k 0 = s at *
    by_cases c : 0 ≤ (l : Int) + s
    · obtain ⟨l', e⟩ := Int.eq_ofNat_of_zero_le c
      rw [decide_eq_true c, e, show l + 32 + x - 8 = l' + 32 by first | lia | omega, dyN_dy ks l' fun k' hk' => h k' (List.mem_cons_of_mem _ hk')]
      rw [show Nat.ble 32 (l' + 32) = true from Nat.ble_eq.mpr (by first | lia | omega)]
    · rw [decide_eq_false c, show Nat.ble 32 (l + 32 + x - 8) = false from Bool.eq_false_iff.mpr fun q => by rw [Nat.ble_eq] at q; (first | lia | omega)]; rfl
theorem enc_u {s c : Nat} {v : Int} (h : (s : Int) - c = v) (hv : -32 ≤ v) : ((enc s c : Nat) : Int) = uOf v + 32 := by
  unfold enc uOf
  by_cases q : s < c
  · rw [show Nat.blt s c = true from Nat.blt_eq.mpr q, if_pos (by first | lia | omega)]; show ((s + 132 - c : Nat) : Int) = _; (first | lia | omega)
  · rw [show Nat.blt s c = false from Bool.eq_false_iff.mpr fun r => q (Nat.blt_eq.mp r), if_neg (by first | lia | omega)]; show ((s + 32 - c : Nat) : Int) = _; (first | lia | omega)
theorem lv_bits {ss : List Int} {S : Nat} (p q r u : Bool) (h0 : bit S 0 = p) (h1 : bit S 1 = q) (h2 : bit S 2 = r) (h3 : bit S 3 = u) :
    levelOf ss S = (if p = true then ss.getD 0 0 else 0) + ((if q = true then ss.getD 1 0 else 0) + ((if r = true then ss.getD 2 0 else 0) + (if u = true then ss.getD 3 0 else 0))) := by
  rw [levelOf_eq, h0, h1, h2, h3]
structure Small (ss : List Int) (a b c t : Nat) : Prop where
  ha : a < 5
  hb : b < 5
  hc : c < 5
  ht : t < 2
  e0 : ss.getD 0 0 = (a : Int) - 2
  e1 : ss.getD 1 0 = (b : Int) - 2
  e2 : ss.getD 2 0 = (c : Int) - 2
  e3 : ss.getD 3 0 = (t : Int) + 6 - a - b - c
theorem tabU_get {ss : List Int} {a b c t : Nat} (h : Small ss a b c t) {S : Nat} (h0 : 0 < S) (h1 : S < 16) :
    (((tabU (a + 6) (b + 6) (c + 6) (14 + t - (a + b + c))).getD S 0 : Nat) : Int) = uOf (levelOf ss S) + 32 := by
  obtain ⟨ha, hb, hc, ht, e0, e1, e2, e3⟩ := h
  match S, h0, h1 with
  | 1, _, _ =>
    refine enc_u (v := levelOf ss 1) ?_ ?_ <;> rw [lv_bits true false false false (by decide) (by decide) (by decide) (by decide), e0, e1, e2, e3] <;> simp <;> (first | lia | omega)
  | 2, _, _ =>
    refine enc_u (v := levelOf ss 2) ?_ ?_ <;> rw [lv_bits false true false false (by decide) (by decide) (by decide) (by decide), e0, e1, e2, e3] <;> simp <;> (first | lia | omega)
  | 3, _, _ =>
    refine enc_u (v := levelOf ss 3) ?_ ?_ <;> rw [lv_bits true true false false (by decide) (by decide) (by decide) (by decide), e0, e1, e2, e3] <;> simp <;> (first | lia | omega)
  | 4, _, _ =>
    refine enc_u (v := levelOf ss 4) ?_ ?_ <;> rw [lv_bits false false true false (by decide) (by decide) (by decide) (by decide), e0, e1, e2, e3] <;> simp <;> (first | lia | omega)
  | 5, _, _ =>
    refine enc_u (v := levelOf ss 5) ?_ ?_ <;> rw [lv_bits true false true false (by decide) (by decide) (by decide) (by decide), e0, e1, e2, e3] <;> simp <;> (first | lia | omega)
  | 6, _, _ =>
    refine enc_u (v := levelOf ss 6) ?_ ?_ <;> rw [lv_bits false true true false (by decide) (by decide) (by decide) (by decide), e0, e1, e2, e3] <;> simp <;> (first | lia | omega)
  | 7, _, _ =>
    refine enc_u (v := levelOf ss 7) ?_ ?_ <;> rw [lv_bits true true true false (by decide) (by decide) (by decide) (by decide), e0, e1, e2, e3] <;> simp <;> (first | lia | omega)
  | 8, _, _ =>
    refine enc_u (v := levelOf ss 8) ?_ ?_ <;> rw [lv_bits false false false true (by decide) (by decide) (by decide) (by decide), e0, e1, e2, e3] <;> simp <;> (first | lia | omega)
  | 9, _, _ =>
    refine enc_u (v := levelOf ss 9) ?_ ?_ <;> rw [lv_bits true false false true (by decide) (by decide) (by decide) (by decide), e0, e1, e2, e3] <;> simp <;> (first | lia | omega)
  | 10, _, _ =>
    refine enc_u (v := levelOf ss 10) ?_ ?_ <;> rw [lv_bits false true false true (by decide) (by decide) (by decide) (by decide), e0, e1, e2, e3] <;> simp <;> (first | lia | omega)
  | 11, _, _ =>
    refine enc_u (v := levelOf ss 11) ?_ ?_ <;> rw [lv_bits true true false true (by decide) (by decide) (by decide) (by decide), e0, e1, e2, e3] <;> simp <;> (first | lia | omega)
  | 12, _, _ =>
    refine enc_u (v := levelOf ss 12) ?_ ?_ <;> rw [lv_bits false false true true (by decide) (by decide) (by decide) (by decide), e0, e1, e2, e3] <;> simp <;> (first | lia | omega)
  | 13, _, _ =>
    refine enc_u (v := levelOf ss 13) ?_ ?_ <;> rw [lv_bits true false true true (by decide) (by decide) (by decide) (by decide), e0, e1, e2, e3] <;> simp <;> (first | lia | omega)
  | 14, _, _ =>
    refine enc_u (v := levelOf ss 14) ?_ ?_ <;> rw [lv_bits false true true true (by decide) (by decide) (by decide) (by decide), e0, e1, e2, e3] <;> simp <;> (first | lia | omega)
  | 15, _, _ =>
    refine enc_u (v := levelOf ss 15) ?_ ?_ <;> rw [lv_bits true true true true (by decide) (by decide) (by decide) (by decide), e0, e1, e2, e3] <;> simp <;> (first | lia | omega)
  | S + 16, _, h => exact absurd h (by first | lia | omega)
theorem Cs_tab {ss : List Int} {a b c t : Nat} (h : Small ss a b c t) (x y : Nat) (hx : subM x y = true) : Cs ss x y = cmpT (tabU (a + 6) (b + 6) (c + 6) (14 + t - (a + b + c))) x y := by
  obtain ⟨h0, h1, h2⟩ := subM_lt hx
  have g1 := tabU_get h h0 (by first | lia | omega)
  have g2 := tabU_get h (S := y) (by first | lia | omega) h2
  unfold Cs cmpT
  by_cases q : uOf (levelOf ss y) < uOf (levelOf ss x)
  · rw [decide_eq_true q, Nat.blt_eq.mpr (by first | lia | omega)]
  · rw [decide_eq_false q]
    exact (Bool.eq_false_iff.mpr fun r => q (by rw [Nat.blt_eq] at r; (first | lia | omega))).symm
theorem row_lt4 (C : Nat → Nat → Bool) {i : Nat} (hi : i < 24) : ∀ k ∈ rowC C i, k < 4 := fun k hk => by
  have := ((letters_perm C _ _).trans (ord_perm _ (ord24_mem hi))).mem_iff.mp hk
  simp only [List.mem_cons, List.not_mem_nil, or_false] at this
  (first | lia | omega)
theorem ord_lt4 {i : Nat} (hi : i < 24) : ∀ k ∈ ord24.getD i [], k < 4 := fun k hk => by
  have := (ord_perm _ (ord24_mem hi)).mem_iff.mp hk
  simp only [List.mem_cons, List.not_mem_nil, or_false] at this
  (first | lia | omega)
/-- where the rests are the levels' own, the swept row closes just if the row does -/
theorem apart_closed {ss : List Int} {a b c t : Nat} (h : Small ss a b c t) {i : Nat} (hi : i < 24) : closedOf ss (rowC (Cs ss) i) = closedOf ss (ord24.getD i []) := by
  rw [closed_dy, closed_dy]
  rcases Nat.lt_or_ge 0 t with ht0 | ht0
  · have hs : ss.getD 0 0 + (ss.getD 1 0 + (ss.getD 2 0 + (ss.getD 3 0 + 0))) ≠ 0 := by
      rw [h.e0, h.e1, h.e2, h.e3]; (first | lia | omega)
    have hp : (rowC (Cs ss) i).Perm [0, 1, 2, 3] := (letters_perm _ _ _).trans (ord_perm _ (ord24_mem hi))
    rw [dy_no hp hs, dy_no (ord_perm _ (ord24_mem hi)) hs]
  have ht0 : t = 0 := Nat.le_zero.mp ht0
  have A := chkA_any h.ha h.hb h.hc ht0
  unfold chkA at A
  rw [chkQ_eq _ _ ord24 quads false quads_eq, chkN_eq, List.all_eq_true] at A
  have A := beq_iff_eq.mp (A i (List.mem_range.mpr hi))
  rw [← rowC_congr (Cs_tab h) hi] at A
  have hx : ∀ k, k < 4 → ((([a + 6, b + 6, c + 6, 14 + t - (a + b + c)].getD k 0 : Nat)) : Int) = ss.getD k 0 + 8 := fun k hk => by
    obtain ⟨ha, hb, hc, ht, e0, e1, e2, e3⟩ := h
    match k, hk with
    | 0, _ => rw [e0]; show ((a + 6 : Nat) : Int) = _; (first | lia | omega)
    | 1, _ => rw [e1]; show ((b + 6 : Nat) : Int) = _; (first | lia | omega)
    | 2, _ => rw [e2]; show ((c + 6 : Nat) : Int) = _; (first | lia | omega)
    | 3, _ => rw [e3]; show ((14 + t - (a + b + c) : Nat) : Int) = _; (first | lia | omega)
  have d1 := dyN_dy (xs := [a + 6, b + 6, c + 6, 14 + t - (a + b + c)]) (ss := ss) (rowC (Cs ss) i) 0 fun k hk => hx k (row_lt4 _ hi k hk)
  have d2 := dyN_dy (xs := [a + 6, b + 6, c + 6, 14 + t - (a + b + c)]) (ss := ss) (ord24.getD i []) 0 fun k hk => hx k (ord_lt4 hi k hk)
  rw [Nat.zero_add] at d1 d2
  exact d1.symm.trans (A.trans d2)
-- part Txt1
/-! ### texts by blocks -/
inductive Blk
  | op
  | cl
  | mk (c : Nat)
  | qt
def Blk.cps : Blk → List Nat
  | .op => [40]
  | .cl => [41]
  | .mk c => [92, c]
  | .qt => [34, 40, 34]
def Blk.kept : Blk → Bool
  | .qt => false
  | _ => true
def flat (bs : List Blk) : List Nat := bs.flatMap Blk.cps
theorem flat_cons (b : Blk) (bs : List Blk) : flat (b :: bs) = b.cps ++ flat bs := List.flatMap_cons
theorem flat_app (as bs : List Blk) : flat (as ++ bs) = flat as ++ flat bs := List.flatMap_append
def ch1 (c : Nat) : Str := ⟨#[c]⟩
theorem join_cps (ys : List Str) : (Txt.join (Str.ofString "") ys).cps.toList = (ys.map fun y => y.cps.toList).flatten := by
  show (Builtin.Str.glued (Str.ofString "") ys).cps.toList = _
  unfold Builtin.Str.glued
  have e : (Str.ofString "").cps = #[] := by decide +kernel
  rw [e]
  have key : ∀ (l : List Str) (acc : Array Nat), (l.foldl (fun acc p => acc ++ #[] ++ p.cps) acc).toList = acc.toList ++ (l.map fun y => y.cps.toList).flatten := by
    intro l
    induction l with
    | nil => intro acc; simp
    | cons p l ih => intro acc; rw [List.foldl_cons, ih]; simp
  refine (key (ys.drop 1) (ys.headD Str.empty).cps).trans ?_
  cases ys with
  | nil => rfl
  | cons y ys => simp
theorem finFl_flat : ∀ bs : List Blk, finFl false (flat bs) = false
  | [] => rfl
  | .op :: bs => by
    rw [flat_cons]
    show finFl ((⟨#[40]⟩ : Str) == bsl) (flat bs) = false
    rw [show ((⟨#[40]⟩ : Str) == bsl) = false by decide +kernel]; exact finFl_flat bs
  | .cl :: bs => by
    rw [flat_cons]
    show finFl ((⟨#[41]⟩ : Str) == bsl) (flat bs) = false
    rw [show ((⟨#[41]⟩ : Str) == bsl) = false by decide +kernel]; exact finFl_flat bs
  | .mk c :: bs => by
    rw [flat_cons]
    show finFl ((⟨#[92]⟩ : Str) == bsl) (c :: flat bs) = false
    rw [show ((⟨#[92]⟩ : Str) == bsl) = true by decide +kernel]; exact finFl_flat bs
  | .qt :: bs => by
    rw [flat_cons]
    show finFl ((⟨#[34]⟩ : Str) == bsl) (40 :: 34 :: flat bs) = false
    rw [show ((⟨#[34]⟩ : Str) == bsl) = false by decide +kernel]
    show finFl ((⟨#[40]⟩ : Str) == bsl) (34 :: flat bs) = false
    rw [show ((⟨#[40]⟩ : Str) == bsl) = false by decide +kernel]
    show finFl ((⟨#[34]⟩ : Str) == bsl) (flat bs) = false
    rw [show ((⟨#[34]⟩ : Str) == bsl) = false by decide +kernel]; exact finFl_flat bs
def escB : Nat → List Blk → List (Nat × Str)
  | _, [] => []
  | i, .op :: bs => (i, ch1 40) :: escB (i + 1) bs
  | i, .cl :: bs => (i, ch1 41) :: escB (i + 1) bs
  | i, .mk c :: bs => (i + 1, bsl ++ ch1 c) :: escB (i + 2) bs
  | i, .qt :: bs => (i, ch1 34) :: (i + 1, ch1 40) :: (i + 2, ch1 34) :: escB (i + 3) bs
theorem esc_plain (pos i c : Nat) (r : List Nat) (h : ((⟨#[c]⟩ : Str) == bsl) = false) : esc false pos i (c :: r) = (i, ch1 c) :: esc false i (i + 1) r := by
  rw [esc, if_neg (by rw [h]; exact Bool.false_ne_true)]; rfl
theorem esc_mark (pos i c : Nat) (r : List Nat) : esc false pos i (92 :: c :: r) = (i + 1, bsl ++ ch1 c) :: esc false (i + 1) (i + 2) r := by
  rw [esc, if_pos (by decide +kernel), esc]; rfl
theorem esc_flat : ∀ (bs : List Blk) (pos i : Nat), esc false pos i (flat bs) = escB i bs
  | [], pos, i => by show esc false pos i [] = []; rw [esc]; rfl
  | .op :: bs, pos, i => by
    rw [flat_cons]
    show esc false pos i (40 :: flat bs) = _
    rw [esc_plain _ _ _ _ (by decide +kernel), esc_flat bs]; rfl
  | .cl :: bs, pos, i => by
    rw [flat_cons]
    show esc false pos i (41 :: flat bs) = _
    rw [esc_plain _ _ _ _ (by decide +kernel), esc_flat bs]; rfl
  | .mk c :: bs, pos, i => by
    rw [flat_cons]
    show esc false pos i (92 :: c :: flat bs) = _
    rw [esc_mark, esc_flat bs]; rfl
  | .qt :: bs, pos, i => by
    rw [flat_cons]
    show esc false pos i (34 :: 40 :: 34 :: flat bs) = _
    rw [esc_plain _ _ _ _ (by decide +kernel), esc_plain _ _ _ _ (by decide +kernel), esc_plain _ _ _ _ (by decide +kernel), esc_flat bs]; rfl
theorem two_ne (c d : Nat) : ((bsl ++ ch1 c) == ch1 d) = false := by
  refine Bool.eq_false_iff.mpr fun q => ?_
  have q := beq_iff_eq.mp q
  have : (bsl ++ ch1 c).cps.size = (ch1 d).cps.size := by rw [q]
  have e : (bsl ++ ch1 c).cps = bsl.cps ++ #[c] := rfl
  rw [e, show bsl.cps = #[92] by decide +kernel] at this
  exact absurd this (by show ¬ 2 = 1; decide)
/-! ### what is stripped -/
theorem cut_range {α : Type} (xs : List α) (a b : Nat) (hab : a ≤ b) (hb : b ≤ xs.length) : (List.range (b - a)).filterMap (fun k => xs[a + k]?) = (xs.drop a).take (b - a) := by
  have key : ∀ m, a + m ≤ xs.length → (List.range m).filterMap (fun k => xs[a + k]?) = (xs.drop a).take m := by
    intro m
    induction m with
    | zero => intro _; simp
    | succ m ih =>
      intro hm
      rw [List.range_succ, List.filterMap_append, ih (by first | lia | omega), List.take_add_one]
      congr 1
      have : xs[a + m]? = some (xs[a + m]'(by first | lia | omega)) := List.getElem?_eq_getElem _
      simp only [List.filterMap_cons, List.filterMap_nil, this, List.getElem?_drop]
      rfl
  exact key _ (by first | lia | omega)
theorem idx_ab (a b n : Nat) (ha : a ≤ b) (hb : b ≤ n) : Builtin.Str.strSliceIndices (some (a : Int)) (some (b : Int)) 1 n = (List.range (b - a)).map fun k => a + k := by
  have e : Builtin.Str.strSliceIndices (some (a : Int)) (some (b : Int)) 1 n = sliceRange (max 0 (min (if (a : Int) < 0 then (a : Int) + n else a) (n : Int))) (max 0 (min (if (b : Int) < 0 then (b : Int) + n else b) (n : Int))) 1 := rfl
  rw [e, clip_nn, clip_nn, show min a n = a by first | lia | omega, show min b n = b by first | lia | omega]
  unfold sliceRange
  dsimp only
  rw [if_pos (by decide)]
  by_cases h : (a : Int) < (b : Int)
  · rw [if_pos h, Int.ediv_one, show ((b : Int) - (a : Int) + 1 - 1).toNat = b - a by first | lia | omega]
    refine List.map_congr_left fun k _ => ?_
    (first | lia | omega)
  · rw [if_neg h, show b - a = 0 by first | lia | omega]; rfl
theorem idx_a (a n : Nat) (ha : a ≤ n) : Builtin.Str.strSliceIndices (some (a : Int)) none 1 n = (List.range (n - a)).map fun k => a + k := by
  rw [← idx_ab a n n ha (Nat.le_refl _)]
  have e : Builtin.Str.strSliceIndices (some (a : Int)) none 1 n = sliceRange (max 0 (min (if (a : Int) < 0 then (a : Int) + n else a) (n : Int))) (n : Int) 1 := rfl
  have e2 : Builtin.Str.strSliceIndices (some (a : Int)) (some (n : Int)) 1 n = sliceRange (max 0 (min (if (a : Int) < 0 then (a : Int) + n else a) (n : Int))) (max 0 (min (if (n : Int) < 0 then (n : Int) + n else n) (n : Int))) 1 := rfl
  rw [e, e2, clip_nn n n, show min n n = n by first | lia | omega]
theorem slice_core (x : Str) (l u : Option Int) (a b : Nat) (hab : a ≤ b) (hb : b ≤ x.length) (he : Builtin.Str.strSliceIndices l u 1 x.length = (List.range (b - a)).map fun k => a + k) : (Txt.slice x l u).cps.toList = (x.cps.toList.drop a).take (b - a) := by
  have hx : x.length = x.cps.toList.length := rfl
  unfold Txt.slice
  rw [he]
  by_cases h : ((1 : Int) == 1 && ((List.range (b - a)).map fun k => a + k).length == x.length) = true
  · rw [if_pos h]
    simp only [beq_self_eq_true, Bool.true_and, List.length_map, List.length_range, beq_iff_eq] at h
    rw [h, show a = 0 by first | lia | omega, List.drop_zero, List.take_of_length_le (by first | lia | omega)]
  · rw [if_neg h]
    show (List.filterMap _ _).toArray.toList = _
    rw [List.filterMap_map, ← cut_range x.cps.toList a b hab (by first | lia | omega)]
    have e : ((fun i => x.cps[i]?) ∘ fun k => a + k) = fun k => x.cps.toList[a + k]? := by funext k; simp
    rw [e]
theorem slice_a (x : Str) (a : Nat) (ha : a ≤ x.length) : (Txt.slice x (some (a : Int)) none).cps.toList = x.cps.toList.drop a := by
  rw [slice_core x _ _ a x.length ha (Nat.le_refl _) (idx_a a _ ha), List.take_of_length_le (by rw [List.length_drop]; exact Nat.le_refl _)]
theorem slice_ab (x : Str) (a b : Nat) (hab : a ≤ b) (hb : b ≤ x.length) : (Txt.slice x (some (a : Int)) (some (b : Int))).cps.toList = (x.cps.toList.drop a).take (b - a) :=
  slice_core x _ _ a b hab hb (idx_ab a b _ hab hb)
abbrev catS (ys : List Str) : List Nat := (ys.map fun y => y.cps.toList).flatten
theorem ne_quo {c : Str} (h : (c == quo) = false) (x : Str) (st : Nat) (o : Option Nat) (p : Nat) (r : List (Nat × Str)) : qs x st o ((p, c) :: r) = qs x st o r := by
  rw [qs_cons, if_neg (by rw [h]; exact Bool.false_ne_true)]
theorem strip_run (x : Str) : ∀ (bs : List Blk) (A : List Nat) (st : Nat), x.cps.toList = A ++ flat bs → st ≤ A.length → catS (qs x st none (escB A.length bs)) = A.drop st ++ flat (bs.filter Blk.kept) := by
  intro bs
  induction bs with
  | nil =>
    intro A st hx hst
    have hA : x.cps.toList = A := by rw [hx]; exact List.append_nil A
    have hl : x.length = A.length := by rw [← hA]; rfl
    show catS (qs x st none []) = A.drop st ++ []
    rw [qs_nil, List.append_nil]
    split
    · show (Txt.slice x (some (st : Int)) none).cps.toList ++ [] = _
      rw [slice_a x st (by first | lia | omega), hA, List.append_nil]
    · rw [List.drop_of_length_le (by first | lia | omega)]; rfl
  | cons b bs ih =>
    intro A st hx hst
    have step : ∀ (c : List Nat), b.cps = c → b.kept = true → catS (qs x st none (escB (A ++ c).length bs)) = A.drop st ++ flat ((b :: bs).filter Blk.kept) := fun c hc hk => by
      rw [ih (A ++ c) st (by rw [hx, flat_cons, hc, List.append_assoc]) (by rw [List.length_append]; (first | lia | omega)), List.filter_cons, if_pos hk, flat_cons, hc, List.drop_append_of_le_length hst, List.append_assoc]
    cases b with
    | op =>
      show catS (qs x st none ((A.length, ch1 40) :: escB (A.length + 1) bs)) = _
      rw [ne_quo (by decide +kernel), show A.length + 1 = (A ++ [40]).length by simp]
      exact step [40] rfl rfl
    | cl =>
      show catS (qs x st none ((A.length, ch1 41) :: escB (A.length + 1) bs)) = _
      rw [ne_quo (by decide +kernel), show A.length + 1 = (A ++ [41]).length by simp]
      exact step [41] rfl rfl
    | mk c =>
      show catS (qs x st none ((A.length + 1, bsl ++ ch1 c) :: escB (A.length + 2) bs)) = _
      rw [ne_quo (by rw [show quo = ch1 34 by decide +kernel]; exact two_ne c 34), show A.length + 2 = (A ++ [92, c]).length by simp]
      exact step [92, c] rfl rfl
    | qt =>
      have hlen : A.length + 3 ≤ x.length := by
        show _ ≤ x.cps.toList.length
        rw [hx, flat_cons, List.length_append, List.length_append]
        show _ ≤ A.length + (3 + _)
        (first | lia | omega)
      show catS (qs x st none ((A.length, ch1 34) :: (A.length + 1, ch1 40) :: (A.length + 2, ch1 34) :: escB (A.length + 3) bs)) = _
      rw [qs_cons, if_pos (by decide +kernel)]
      show catS (qs x st (some A.length) ((A.length + 1, ch1 40) :: (A.length + 2, ch1 34) :: escB (A.length + 3) bs)) = _
      rw [ne_quo (by decide +kernel), qs_cons, if_pos (by decide +kernel)]
      show catS ((if st ≠ A.length then [Txt.slice x (some (st : Int)) (some (A.length : Int))] else []) ++ qs x (A.length + 2 + 1) none (escB (A.length + 3) bs)) = _
      have e3 : A.length + 3 = (A ++ [34, 40, 34]).length := by simp
      rw [show A.length + 2 + 1 = A.length + 3 from rfl]
      have := ih (A ++ [34, 40, 34]) (A.length + 3) (by rw [hx, flat_cons, List.append_assoc]; rfl) (by rw [← e3]; exact Nat.le_refl _)
      rw [← e3] at this
      have cat_app : ∀ ys zs : List Str, catS (ys ++ zs) = catS ys ++ catS zs := fun ys zs => by
        show ((ys ++ zs).map fun y => y.cps.toList).flatten = _
        rw [List.map_append, List.flatten_append]
      rw [cat_app, this, List.drop_of_length_le (by rw [← e3]; exact Nat.le_refl _), List.nil_append, show (Blk.qt :: bs).filter Blk.kept = bs.filter Blk.kept from rfl]
      congr 1
      by_cases h : st = A.length
      · rw [if_neg (by simpa using h), h, List.drop_of_length_le (Nat.le_refl _)]; rfl
      · rw [if_pos h]
        show (Txt.slice x (some (st : Int)) (some (A.length : Int))).cps.toList ++ [] = _
        rw [slice_ab x st A.length hst (by first | lia | omega), List.append_nil, hx, List.drop_append_of_le_length hst, List.take_append_of_le_length (by rw [List.length_drop]; exact Nat.le_refl _), List.take_of_length_le (by rw [List.length_drop]; exact Nat.le_refl _)]
theorem strip_flat {x : Str} {bs : List Blk} (hx : x.cps.toList = flat bs) : (stripOf x).cps.toList = flat (bs.filter Blk.kept) := by
  unfold stripOf
  split
  · rw [join_cps, hx, esc_flat]
    exact strip_run x bs [] 0 hx (Nat.le_refl _)
  · rename_i h
    rw [hx] at h ⊢
    congr 1
    refine (List.filter_eq_self.mpr fun b hb => ?_).symm
    cases b with
    | qt => exact absurd (List.mem_flatMap.mpr ⟨_, hb, by show 34 ∈ [34, 40, 34]; decide⟩) h
    | _ => rfl
/-! ### what closes -/
def runB : Int → List Blk → Bool
  | o, [] => decide (o = 0)
  | o, .op :: bs => runB (o + 1) bs
  | o, .cl :: bs => if o - 1 < 0 then false else runB (o - 1) bs
  | o, .mk _ :: bs => runB o bs
  | o, .qt :: bs => runB o bs
theorem closeB_cons (o : Int) (p : Nat) (c : Str) (r : List (Nat × Str)) : closeB o ((p, c) :: r) = if (c == Str.ofString "(") = true then closeB (o + 1) r else if (c == Str.ofString ")") = true then (if o - 1 < 0 then false else closeB (o - 1) r) else closeB o r := by
  rw [closeB]
theorem close_run : ∀ (bs : List Blk) (i : Nat) (o : Int), closeB o (escB i (bs.filter Blk.kept)) = runB o bs
  | [], i, o => by show closeB o [] = _; rw [closeB]; rfl
  | .op :: bs, i, o => by
    show closeB o ((i, ch1 40) :: escB (i + 1) (bs.filter Blk.kept)) = _
    rw [closeB_cons, if_pos (by decide +kernel), close_run bs, runB]
  | .cl :: bs, i, o => by
    show closeB o ((i, ch1 41) :: escB (i + 1) (bs.filter Blk.kept)) = _
    rw [closeB_cons, if_neg (by decide +kernel), if_pos (by decide +kernel), close_run bs, runB]
  | .mk c :: bs, i, o => by
    show closeB o ((i + 1, bsl ++ ch1 c) :: escB (i + 2) (bs.filter Blk.kept)) = _
    rw [closeB_cons, if_neg (by rw [show Str.ofString "(" = ch1 40 by decide +kernel, two_ne]; exact Bool.false_ne_true), if_neg (by rw [show Str.ofString ")" = ch1 41 by decide +kernel, two_ne]; exact Bool.false_ne_true), close_run bs, runB]
  | .qt :: bs, i, o => by
    show closeB o (escB i (bs.filter Blk.kept)) = _
    rw [close_run bs, runB]
-- part Txt2
def pieceB : Nat → List Blk
  | 1 => [.mk 41]
  | 2 => [.qt]
  | 3 => [.mk 34]
  | _ => []
def letB (s : Int) (j : Nat) : List Blk := List.replicate s.toNat .op ++ (List.replicate (-s).toNat .cl ++ pieceB j)
theorem flat_rep (n : Nat) (b : Blk) : flat (List.replicate n b) = (List.replicate n b.cps).flatten := by
  unfold flat
  rw [List.flatMap_def, List.map_replicate]
theorem piece_cps : ∀ j, j < 4 → (pcs.getD j (Str.ofString "")).cps.toList = flat (pieceB j) := by decide +kernel
theorem letter_flat (s : Int) {j : Nat} (hj : j < 4) : (letterOf s j).cps.toList = flat (letB s j) := by
  have e : (letterOf s j).cps = (rep (Str.ofString "(") s).cps ++ (rep (Str.ofString ")") (-s)).cps ++ (pcs.getD j (Str.ofString "")).cps := rfl
  rw [e, Array.toList_append, Array.toList_append, piece_cps j hj]
  unfold letB
  rw [flat_app, flat_app, flat_rep, flat_rep, ← List.append_assoc]
  have e1 : (Str.ofString "(").cps.toList = [40] := by decide +kernel
  have e2 : (Str.ofString ")").cps.toList = [41] := by decide +kernel
  unfold rep
  rw [e1, e2]; rfl
theorem run_op (bs : List Blk) : ∀ (n : Nat) (o : Int), runB o (List.replicate n .op ++ bs) = runB (o + n) bs
  | 0, o => by simp
  | n + 1, o => by
    rw [List.replicate_succ, List.cons_append, runB, run_op bs n, show o + 1 + (n : Int) = o + ((n + 1 : Nat) : Int) by first | lia | omega]
theorem run_cl (bs : List Blk) : ∀ (n : Nat) (o : Int), 0 ≤ o → runB o (List.replicate n .cl ++ bs) = (decide (0 ≤ o - n) && runB (o - n) bs)
  | 0, o, h => by
    rw [show o - ((0 : Nat) : Int) = o by first | lia | omega, decide_eq_true h]; rfl
  | n + 1, o, h => by
    rw [List.replicate_succ, List.cons_append, runB]
    by_cases c : o - 1 < 0
    · rw [if_pos c, decide_eq_false (by first | lia | omega)]; rfl
    · rw [if_neg c, run_cl bs n (o - 1) (by first | lia | omega), show o - 1 - (n : Int) = o - ((n + 1 : Nat) : Int) by first | lia | omega]
theorem run_piece (bs : List Blk) (j : Nat) (o : Int) : runB o (pieceB j ++ bs) = runB o bs := by
  match j with
  | 0 => rfl
  | 1 => rfl
  | 2 => rfl
  | 3 => rfl
  | j + 4 => rfl
theorem run_let (bs : List Blk) (s : Int) (j : Nat) {o : Int} (h : 0 ≤ o) : runB o (letB s j ++ bs) = (decide (0 ≤ o + s) && runB (o + s) bs) := by
  unfold letB
  rw [List.append_assoc, List.append_assoc, run_op, run_cl _ _ _ (by first | lia | omega), run_piece, show o + (s.toNat : Int) - ((-s).toNat : Int) = o + s by first | lia | omega]
theorem run_dy (ss : List Int) (pj : Nat → Nat) : ∀ (ks : List Nat) (o : Int), 0 ≤ o → runB o (ks.flatMap fun k => letB (ss.getD k 0) (pj k)) = dy ss ks o
  | [], o, _ => rfl
  | k :: ks, o, h => by
    rw [List.flatMap_cons, run_let _ _ _ h, dy]
    by_cases c : 0 ≤ o + ss.getD k 0
    · rw [run_dy ss pj ks _ c]
    · rw [decide_eq_false c]; rfl
def BlkOk (b : Blk) : Prop := ∀ c ∈ b.cps, c < 128
theorem letB_ok (s : Int) (j : Nat) : ∀ b ∈ letB s j, BlkOk b := by
  intro b hb
  unfold letB at hb
  rcases List.mem_append.mp hb with hb | hb
  · rw [(List.mem_replicate.mp hb).2]; unfold BlkOk; decide
  · rcases List.mem_append.mp hb with hb | hb
    · rw [(List.mem_replicate.mp hb).2]; unfold BlkOk; decide
    · match j, hb with
      | 0, hb => cases hb
      | 1, hb => rw [List.mem_singleton.mp hb]; unfold BlkOk; decide
      | 2, hb => rw [List.mem_singleton.mp hb]; unfold BlkOk; decide
      | 3, hb => rw [List.mem_singleton.mp hb]; unfold BlkOk; decide
      | j + 4, hb => cases hb
theorem ascii_flat {x : Str} {bs : List Blk} (hx : x.cps.toList = flat bs) (h : ∀ b ∈ bs, BlkOk b) : Ascii x := by
  unfold Ascii
  rw [← Array.all_toList, hx, List.all_eq_true]
  intro c hc
  obtain ⟨b, hb, hc⟩ := List.mem_flatMap.mp hc
  exact decide_eq_true (h b hb c hc)
theorem flat_len : ∀ bs : List Blk, (flat bs).length ≤ 3 * bs.length
  | [] => Nat.le_refl _
  | b :: bs => by
    rw [flat_cons, List.length_append, List.length_cons]
    have := flat_len bs
    have : b.cps.length ≤ 3 := by cases b <;> simp [Blk.cps]
    (first | lia | omega)
theorem letB_len {s : Int} (hs : -20 ≤ s ∧ s ≤ 20) (j : Nat) : (letB s j).length ≤ 21 := by
  unfold letB
  rw [List.length_append, List.length_append, List.length_replicate, List.length_replicate]
  have : (pieceB j).length ≤ 1 := by
    match j with
    | 0 => decide
    | 1 => decide
    | 2 => decide
    | 3 => decide
    | j + 4 => exact Nat.zero_le _
  (first | lia | omega)
theorem fm_le {f : Nat → List Blk} {M : Nat} : ∀ ks : List Nat, (∀ k ∈ ks, (f k).length ≤ M) → (ks.flatMap f).length ≤ ks.length * M
  | [], _ => by simp
  | k :: ks, h => by
    rw [List.flatMap_cons, List.length_append, List.length_cons, Nat.add_mul]
    have := fm_le ks fun k' hk' => h k' (List.mem_cons_of_mem _ hk')
    have := h k List.mem_cons_self
    (first | lia | omega)
def letsOf (ss : List Int) (pj : Nat → Nat) : List Str := (List.range 4).map fun k => letterOf (ss.getD k 0) (pj k)
theorem lets_get (ss : List Int) (pj : Nat → Nat) {k : Nat} (hk : k < 4) : (letsOf ss pj).getD k (Str.ofString "") = letterOf (ss.getD k 0) (pj k) := by
  unfold letsOf
  rw [List.getD_eq_getElem?_getD, List.getElem?_map, List.getElem?_range hk]; rfl
theorem text_flat (ss : List Int) {pj : Nat → Nat} (hp : ∀ k, pj k < 4) {o : List Nat} (ho : ∀ k ∈ o, k < 4) : (textOf (letsOf ss pj) (o.map Int.ofNat)).cps.toList = flat (o.flatMap fun k => letB (ss.getD k 0) (pj k)) := by
  unfold textOf
  rw [join_cps, List.map_map, List.map_map]
  induction o with
  | nil => rfl
  | cons k o ih =>
    rw [List.map_cons, List.flatten_cons, List.flatMap_cons, flat_app, ih fun k' hk' => ho k' (List.mem_cons_of_mem _ hk')]
    congr 1
    show ((letsOf ss pj).getD (Int.ofNat k).toNat (Str.ofString "")).cps.toList = _
    rw [show (Int.ofNat k).toNat = k from rfl, lets_get ss pj (ho k List.mem_cons_self), letter_flat _ (hp k)]
theorem text_ok {ss : List Int} (hss : ∀ k, k < 4 → -20 ≤ ss.getD k 0 ∧ ss.getD k 0 ≤ 20) {pj : Nat → Nat} (hp : ∀ k, pj k < 4) {o : List Nat} (ho : ∀ k ∈ o, k < 4) (hl : o.length = 4) :
    TextOk (textOf (letsOf ss pj) (o.map Int.ofNat)) (closedOf ss o) := by
  have hx := text_flat ss hp ho
  have hok : ∀ b ∈ o.flatMap (fun k => letB (ss.getD k 0) (pj k)), BlkOk b := fun b hb => by
    obtain ⟨k, hk, hb⟩ := List.mem_flatMap.mp hb
    exact letB_ok _ _ b hb
  have hs := strip_flat hx
  refine ⟨ascii_flat hx hok, by rw [hx]; exact finFl_flat _, ascii_flat hs fun b hb => hok b (List.mem_filter.mp hb).1, by rw [hs]; exact finFl_flat _, ?_, ?_⟩
  · show (textOf (letsOf ss pj) (o.map Int.ofNat)).cps.toList.length ≤ 1000
    rw [hx]
    have h1 := flat_len (o.flatMap fun k => letB (ss.getD k 0) (pj k))
    have h2 := fm_le (f := fun k => letB (ss.getD k 0) (pj k)) (M := 21) o fun k hk => letB_len (hss k (ho k hk)) _
    rw [hl] at h2
    (first | lia | omega)
  · rw [hs, esc_flat, close_run, run_dy _ _ _ _ (Int.le_refl 0), closed_dy]
theorem letter_len {s : Int} (hs : -20 ≤ s ∧ s ≤ 20) {j : Nat} (hj : j < 4) : (letterOf s j).length ≤ 100 := by
  show (letterOf s j).cps.toList.length ≤ 100
  rw [letter_flat s hj]
  have h1 := flat_len (letB s j)
  have h2 := letB_len hs j
  (first | lia | omega)

/-! ### apart: the rests are the small levels' -/
theorem ite_mul (p : Bool) (s m q : Int) : (if p = true then s + m * q else 0) = (if p = true then s else 0) + m * (if p = true then q else 0) := by cases p <;> simp
theorem near_level {ws ss : List Int} {m : Int} (h : ∀ k, k < 4 → ∃ q, ws.getD k 0 = ss.getD k 0 + m * q) (S : Nat) : ∃ q, levelOf ws S = levelOf ss S + m * q := by
  obtain ⟨q0, h0⟩ := h 0 (by decide)
  obtain ⟨q1, h1⟩ := h 1 (by decide)
  obtain ⟨q2, h2⟩ := h 2 (by decide)
  obtain ⟨q3, h3⟩ := h 3 (by decide)
  refine ⟨(if bit S 0 = true then q0 else 0) + ((if bit S 1 = true then q1 else 0) + ((if bit S 2 = true then q2 else 0) + (if bit S 3 = true then q3 else 0))), ?_⟩
  rw [levelOf_eq, levelOf_eq, h0, h1, h2, h3, ite_mul, ite_mul, ite_mul, ite_mul, Int.mul_add, Int.mul_add, Int.mul_add]
  generalize m * (if bit S 0 = true then q0 else 0) = y0
  generalize m * (if bit S 1 = true then q1 else 0) = y1
  generalize m * (if bit S 2 = true then q2 else 0) = y2
  generalize m * (if bit S 3 = true then q3 else 0) = y3
  first | lia | omega
theorem posSum_cons (x : Int) (l : List Int) : posSum (x :: l) = max x 0 + posSum l := by
  unfold posSum
  rw [List.filter_cons]
  by_cases h : 0 < x
  · rw [if_pos (decide_eq_true h), List.sum_cons]; (first | lia | omega)
  · rw [if_neg (by simpa using h)]; (first | lia | omega)
theorem ite_bd (p : Bool) (x : Int) : x - max x 0 ≤ (if p = true then x else 0) ∧ (if p = true then x else 0) ≤ max x 0 := by
  cases p <;> simp only [Bool.false_eq_true, if_false, if_true] <;> (first | lia | omega)
theorem pos_bound (x0 x1 x2 x3 : Int) (h : 0 ≤ x0 + x1 + x2 + x3) (S : Nat) : -posSum [x0, x1, x2, x3] ≤ levelOf [x0, x1, x2, x3] S ∧ levelOf [x0, x1, x2, x3] S ≤ posSum [x0, x1, x2, x3] := by
  rw [posSum_cons, posSum_cons, posSum_cons, posSum_cons, show posSum [] = 0 from rfl, levelOf_eq]
  have b0 := ite_bd (bit S 0) x0
  have b1 := ite_bd (bit S 1) x1
  have b2 := ite_bd (bit S 2) x2
  have b3 := ite_bd (bit S 3) x3
  show _ ∧ (if bit S 0 = true then x0 else 0) + ((if bit S 1 = true then x1 else 0) + ((if bit S 2 = true then x2 else 0) + (if bit S 3 = true then x3 else 0))) ≤ _
  show _ ≤ (if bit S 0 = true then x0 else 0) + ((if bit S 1 = true then x1 else 0) + ((if bit S 2 = true then x2 else 0) + (if bit S 3 = true then x3 else 0))) ∧ _
  generalize (if bit S 0 = true then x0 else 0) = y0 at *
  generalize (if bit S 1 = true then x1 else 0) = y1 at *
  generalize (if bit S 2 = true then x2 else 0) = y2 at *
  generalize (if bit S 3 = true then x3 else 0) = y3 at *
  generalize max x0 0 = m0 at *
  generalize max x1 0 = m1 at *
  generalize max x2 0 = m2 at *
  generalize max x3 0 = m3 at *
  constructor <;> (first | lia | omega)
theorem mod_small {v m q : Int} (h1 : -m < v) (h2 : v < m) : (v + m * q) % m = if v < 0 then v + m else v := by
  rw [Int.add_mul_emod_self_left]
  split
  · rw [← Int.add_emod_right, Int.emod_eq_of_lt (by first | lia | omega) (by first | lia | omega)]
  · rw [Int.emod_eq_of_lt (by first | lia | omega) h2]
theorem cmp_apart {ws ss : List Int} {m P : Int} (h : ∀ k, k < 4 → ∃ q, ws.getD k 0 = ss.getD k 0 + m * q) (hP : 2 * P < m) (hb : ∀ S, -P ≤ levelOf ss S ∧ levelOf ss S ≤ P) (h40 : P ≤ 40) (a b : Nat) (hab : subM a b = true) :
    cmpOf (restsOf ws m 16) a b = Cs ss a b := by
  obtain ⟨h0, h1, h2⟩ := subM_lt hab
  obtain ⟨qa, ea⟩ := near_level h a
  obtain ⟨qb, eb⟩ := near_level h b
  have ba := hb a
  have bb := hb b
  unfold cmpOf Cs uOf
  rw [rests_get ws m h2, rests_get ws m (by first | lia | omega), ea, eb, mod_small (by first | lia | omega) (by first | lia | omega), mod_small (by first | lia | omega) (by first | lia | omega)]
  generalize levelOf ss a = va at *
  generalize levelOf ss b = vb at *
  congr 1
  refine propext ?_
  split <;> split <;> constructor <;> intro _ <;> (first | lia | omega)
-- part LawG
theorem body21 : bodyAt 21 = [lawS 0, lawS 1, lawS 2, lawS 3, lawS 4, lawS 5, lawS 6, lawS 7, lawS 8, lawS 9, lawS 10, lawS 11, lawS 12, lawS 13, lawS 14, lawS 15, lawS 16, lawS 17, lawS 18, lawS 19, lawS 20, lawS 21, lawS 22, lawS 23, lawS 24] := rfl
theorem cons_of {l : List (Str × Addr)} {x : Str} {ns : List Str} (h : l.map (·.1) = x :: ns) : ∃ c l', l = (x, c) :: l' ∧ l'.map (·.1) = ns := by
  match l, h with
  | (y, c) :: l', h =>
    rw [List.map_cons] at h
    injection h with h1 h2
    exact ⟨c, l', by rw [← h1], h2⟩
theorem five {ks : List Int} (h : ks.length = 5) : ∃ a b c d e, ks = [a, b, c, d, e] := by
  match ks, h with
  | [a, b, c, d, e], _ => exact ⟨a, b, c, d, e, rfl⟩
theorem mod5 (x : Int) : -2 ≤ x % 5 - 2 ∧ x % 5 - 2 ≤ 2 := by first | lia | omega
theorem mod4 (x : Int) : (x % 4).toNat < 4 := by first | lia | omega
theorem small_bd {a b c t : Int} (ba : -2 ≤ a ∧ a ≤ 2) (bb : -2 ≤ b ∧ b ≤ 2) (bc : -2 ≤ c ∧ c ≤ 2) (ht : t = 0 ∨ t = 1) : ∀ s ∈ [a, b, c, t - (a + b + c)], -20 ≤ s ∧ s ≤ 20 := fun s hs => by
  have h1 : -20 ≤ t - (a + b + c) ∧ t - (a + b + c) ≤ 20 := by rcases ht with rfl | rfl <;> (first | lia | omega)
  have h2 : ∀ x : Int, -2 ≤ x ∧ x ≤ 2 → -20 ≤ x ∧ x ≤ 20 := fun x hx => by first | lia | omega
  simp only [List.mem_cons, List.not_mem_nil, or_false] at hs
  rcases hs with rfl | rfl | rfl | rfl
  · exact h2 _ ba
  · exact h2 _ bb
  · exact h2 _ bc
  · exact h1
theorem small_of {a b c t : Int} (ba : -2 ≤ a ∧ a ≤ 2) (bb : -2 ≤ b ∧ b ≤ 2) (bc : -2 ≤ c ∧ c ≤ 2) (ht : t = 0 ∨ t = 1) : Small [a, b, c, t - (a + b + c)] (a + 2).toNat (b + 2).toNat (c + 2).toNat t.toNat := by
  have h5 : ∀ x : Int, -2 ≤ x ∧ x ≤ 2 → (x + 2).toNat < 5 ∧ x = ((x + 2).toNat : Int) - 2 := fun x hx => by first | lia | omega
  obtain ⟨a1, a2⟩ := h5 a ba
  obtain ⟨b1, b2⟩ := h5 b bb
  obtain ⟨c1, c2⟩ := h5 c bc
  have t2 : t.toNat < 2 ∧ t = (t.toNat : Int) := by rcases ht with rfl | rfl <;> decide
  refine ⟨a1, b1, c1, t2.1, a2, b2, c2, ?_⟩
  show t - (a + b + c) = _
  generalize ((a + 2).toNat : Int) = x at *
  generalize ((b + 2).toNat : Int) = y at *
  generalize ((c + 2).toNat : Int) = z at *
  generalize ((t.toNat : Nat) : Int) = u at *
  rw [a2, b2, c2, t2.2]
  first | lia | omega
theorem small_pos {a b c t : Int} (ba : -2 ≤ a ∧ a ≤ 2) (bb : -2 ≤ b ∧ b ≤ 2) (bc : -2 ≤ c ∧ c ≤ 2) (ht : t = 0 ∨ t = 1) : posSum [a, b, c, t - (a + b + c)] ≤ 40 ∧ 0 ≤ a + b + c + (t - (a + b + c)) := by
  rw [posSum_cons, posSum_cons, posSum_cons, posSum_cons, show posSum [] = 0 from rfl]
  rcases ht with rfl | rfl <;> (first | lia | omega)
section
variable {w : World} {O : OsState} {n : Nat} {B : Base} {G : Array GenState} {v : Vol} {Q : Post Value}
set_option maxHeartbeats 4000000 in
/-- the law answers True -/
theorem law_all {f sc : Addr} {xs : List Value} {is : List Int} {ps qs : Array Value} (hT : TopD B) (hF : ∃ r, Fn B f 21 .none .none r) (h9 : Tab9 B ps) (h10 : Tab10 B qs) (hs : Stb B fun h => h.IsList sc xs.toArray) (hi : IntsV xs is) (hlen : xs.length ≤ 1000)
    (h : ∀ B' G' ps qs, BLe B B' → (Bare G → Bare G') → Q (.bool true) B' G' [(66, rTb ps), (73, rTb qs)]) : Ok prg w O (n + 47) B G ((66, rTb ps) :: (73, rTb qs) :: v) (call (.ref f) [.ref sc]) Q := by
  obtain ⟨r, hF⟩ := hF
  refine Ok.call_defC (n := n + 46) hF ["script"] [.ref sc] lNs lCn (vs := [some (.ref sc), none, none, none, none, none, none, none, none, none, none, none, none, none, none, none]) (init := [none, none, none, none, none, none, none, none, none, none]) rfl (by decide +kernel) rfl rfl rfl fun L env cs hcs hA => ?_
  obtain ⟨c0, l0, rfl, hcs0⟩ := cons_of hcs
  obtain ⟨c1, l1, rfl, hcs1⟩ := cons_of hcs0
  obtain ⟨c2, l2, rfl, hcs2⟩ := cons_of hcs1
  obtain ⟨c3, l3, rfl, hcs3⟩ := cons_of hcs2
  obtain ⟨c4, l4, rfl, hcs4⟩ := cons_of hcs3
  obtain ⟨c5, l5, rfl, hcs5⟩ := cons_of hcs4
  obtain ⟨c6, l6, rfl, hcs6⟩ := cons_of hcs5
  obtain ⟨c7, l7, rfl, hcs7⟩ := cons_of hcs6
  obtain ⟨c8, l8, rfl, hcs8⟩ := cons_of hcs7
  obtain ⟨c9, l9, rfl, hcs9⟩ := cons_of hcs8
  have e9 : l9 = [] := List.map_eq_nil_iff.mp hcs9
  subst e9
  show Ok prg w O (n + 46) B G ((L, rFr lNs [some (.ref sc), none, none, none, none, none, none, none, none, none, none, none, none, none, none, none]) :: (c0, rCell none) :: (c1, rCell none) :: (c2, rCell none) :: (c3, rCell none) :: (c4, rCell none) :: (c5, rCell none) :: (c6, rCell none) :: (c7, rCell none) :: (c8, rCell none) :: (c9, rCell none) :: (66, rTb ps) :: (73, rTb qs) :: v) (execs (bodyAt 21) env) _
  rw [body21]
  refine Ok.execs_cons (law_s0 hT hA hs hi hlen fun B1 td ys js0 hle1 htd hys hyl => ?_)
  have hT1 := hT.mono hle1
  refine Ok.execs_cons (law_s1 hT1 hA htd hys hyl fun B2 ce zs ks hle2 hce hzs hkl => ?_)
  have hT2 := hT1.mono hle2
  obtain ⟨k0, k1, k2, k3, k4, rfl⟩ := five hkl
  refine Ok.execs_cons (law_s2 hT2 hA hce hzs hkl fun B3 sm0 us0 hle3 hsm0 hus0 => ?_)
  have hT3 := hT2.mono hle3
  have hce := hce.mono hle3
  obtain ⟨a, ha⟩ : ∃ a, a = k0 % 5 - 2 := ⟨_, rfl⟩
  obtain ⟨b, hb⟩ : ∃ b, b = k1 % 5 - 2 := ⟨_, rfl⟩
  obtain ⟨c, hc⟩ : ∃ c, c = k2 % 5 - 2 := ⟨_, rfl⟩
  have hus0 : IntsV us0 [a, b, c] := by rw [ha, hb, hc]; exact hus0
  have ba : -2 ≤ a ∧ a ≤ 2 := by rw [ha]; exact mod5 _
  have bb : -2 ≤ b ∧ b ≤ 2 := by rw [hb]; exact mod5 _
  have bc : -2 ≤ c ∧ c ≤ 2 := by rw [hc]; exact mod5 _
  refine Ok.execs_cons (law_s3 hT3 hA hce hzs hkl hsm0 hus0 fun B4 sm us t hle4 hsm ht hus => ?_)
  have hT4 := hT3.mono hle4
  have hce := hce.mono hle4
  refine Ok.execs_cons (law_s4 hT4 hA fun B5 pc pvs hle5 hpc hpv => ?_)
  have hT5 := hT4.mono hle5
  have hce := hce.mono hle5
  have hsm := hsm.mono hle5
  have hsb := small_bd ba bb bc ht
  refine Ok.execs_cons (law_s5 hT5 hA hce hzs hkl hsm hus rfl hsb hpc hpv fun B6 lt lvs hle6 hlt hlvs => ?_)
  have hT6 := hT5.mono hle6
  have hce := hce.mono hle6
  have hsm := hsm.mono hle6
  refine Ok.execs_cons (law_s6 hT6 hA hce hzs hkl fun nr => ?_)
  refine Ok.execs_cons (law_s7 hT6 hA hce hzs hkl fun m tm hm1 hm2 hm3 => ?_)
  refine Ok.execs_cons (law_s8 hT6 hA hce hzs hkl hsm hus rfl hsb hm1 hm2 hm3 fun B7 wt wvs ws hle7 hwt hwvs hwl hwb hnear => ?_)
  have hT7 := hT6.mono hle7
  have hce := hce.mono hle7
  have hsm := hsm.mono hle7
  have hlt := hlt.mono hle7
  refine Ok.execs_cons (law_s9 hT7 hA fun rt => ?_)
  refine Ok.pull (a := 73) (r := rTb qs) (by tbr_iter "del") ?_
  refine Ok.pull (a := 66) (r := rTb ps) (by tbr_iter "del") ?_
  have hle07 : BLe B B7 := hle1.trans (hle2.trans (hle3.trans (hle4.trans (hle5.trans (hle6.trans hle7)))))
  refine Ok.execs_cons (law_s10 hT7 (h9.mono hle07) (h10.mono hle07) hA hwt hwvs hwl hwb hm1 hm2 fun B8 ps' qs' rv lo go mo hle8 hrv => ?_)
  have hT8 := hT7.mono hle8
  refine Ok.execs_cons (law_s11 hT8 hA fun B9 od ov hle9 hrt hod hov => ?_)
  have hT9 := hT8.mono hle9
  have hrl : (restsOf ws m 16).length = 16 := by unfold restsOf; rw [List.length_map, List.length_range]
  refine Ok.execs_cons (law_s12 hT9 hA hrt hrv hrl hod hov fun B10 rw' rws hle10 hrw hrows => ?_)
  have hT10 := hT9.mono hle10
  have hod := hod.mono hle10
  have hov := hov.imp fun _ _ x => x.mono hle10
  have hrfact : ∀ r ∈ (List.range 24).map (rowOf (restsOf ws m 16)), Srt r ∧ r.length = 4 := fun r hr => by
    obtain ⟨i, hi, rfl⟩ := List.mem_map.mp hr
    exact ⟨rowOf_srt _ _, rowOf_len _ (List.mem_range.mp hi)⟩
  refine Ok.execs_cons (law_s13 hT10 hA hrw hrows hrfact (by rw [List.length_map, List.length_range]; exact Nat.le_refl _) fun B11 hle11 => ?_)
  have hT11 := hT10.mono hle11
  have hod := hod.mono hle11
  have hov := hov.imp fun _ _ x => x.mono hle11
  have hrw := hrw.mono hle11
  have hrows := hrows.imp fun _ _ x => x.mono hle11
  refine Ok.execs_cons (law_s14 hT11 hA hrw hrows (fun r hr => (hrfact r hr).2) (by rw [List.length_map, List.length_range]; exact Nat.le_refl _) fun B12 sv us2 hle12 hsv hus2 => ?_)
  have hT12 := hT11.mono hle12
  have hod := hod.mono hle12
  have hov := hov.imp fun _ _ x => x.mono hle12
  obtain ⟨js, hjs⟩ : ∃ js, js = (List.range 24).map (jC (cmpOf (restsOf ws m 16))) := ⟨_, rfl⟩
  have hjl : js.length = 24 := by rw [hjs, List.length_map, List.length_range]
  have hperm : js.Perm (List.range 24) := by rw [hjs]; exact sweep_perm ws (Int.lt_of_lt_of_le (by decide) hm1)
  have hj : ∀ j ∈ js, j < 24 := fun j hj => List.mem_range.mp (hperm.mem_iff.mp hj)
  have hjget : ∀ i, i < 24 → js.getD i 0 = jC (cmpOf (restsOf ws m 16)) i := fun i hi => by
    rw [hjs, List.getD_eq_getElem?_getD, List.getElem?_map, List.getElem?_range hi]; rfl
  have hrj : ((List.range 24).map (rowOf (restsOf ws m 16))).map lettersOf = js.map ordI := by
    rw [hjs, List.map_map, List.map_map]
    exact List.map_congr_left fun i hi => lettersOf_row _ (List.mem_range.mp hi)
  rw [hrj] at hus2
  refine Ok.execs_cons (law_s15 hT12 hA hod hov hsv hus2 hj (Nat.le_of_eq hjl) fun B13 ld ls hle13 hld hls => ?_)
  have hT13 := hT12.mono hle13
  have hod := hod.mono hle13
  have hov := hov.imp fun _ _ x => x.mono hle13
  have hsv := hsv.mono hle13
  have hus2 := hus2.imp fun _ _ x => x.mono hle13
  refine Ok.execs_cons (law_s16 (bh := 0) hT13 hA hod hov hsv hus2 hld hls hj (Nat.le_of_eq hjl) fun B14 hle14 => ?_)
  have hT14 := hT13.mono hle14
  have hod := hod.mono hle14
  have hov := hov.imp fun _ _ x => x.mono hle14
  have hsv := hsv.mono hle14
  have hus2 := hus2.imp fun _ _ x => x.mono hle14
  have hld := hld.mono hle14
  refine Ok.execs_cons (law_s17 hT14 hA hod hov hsv hus2 hj (Nat.le_of_eq hjl) fun B15 bh ls2 hle15 hbh hls2 => ?_)
  have hT15 := hT14.mono hle15
  have hod := hod.mono hle15
  have hov := hov.imp fun _ _ x => x.mono hle15
  have hsv := hsv.mono hle15
  have hus2 := hus2.imp fun _ _ x => x.mono hle15
  have hld := hld.mono hle15
  refine Ok.execs_cons (law_s18 hT15 hA hod hov hsv hus2 hbh hls2 hj (Nat.le_of_eq hjl) fun B16 hle16 => ?_)
  have hT16 := hT15.mono hle16
  have hod := hod.mono hle16
  have hov := hov.imp fun _ _ x => x.mono hle16
  have hsv := hsv.mono hle16
  have hus2 := hus2.imp fun _ _ x => x.mono hle16
  have hld := hld.mono hle16
  refine Ok.execs_cons (law_s19 hT16 hA hld hls hperm fun B17 hle17 => ?_)
  have hT17 := hT16.mono hle17
  have hod := hod.mono hle17
  have hov := hov.imp fun _ _ x => x.mono hle17
  have hsv := hsv.mono hle17
  have hus2 := hus2.imp fun _ _ x => x.mono hle17
  have hld := hld.mono hle17
  refine Ok.execs_cons (law_s20 hT17 hA fun cl => ?_)
  have hle717 : BLe B7 B17 := hle8.trans (hle9.trans (hle10.trans (hle11.trans (hle12.trans (hle13.trans (hle14.trans (hle15.trans (hle16.trans hle17))))))))
  have hsm := hsm.mono hle717
  have hce := hce.mono hle717
  have hlt := hlt.mono hle717
  refine Ok.execs_cons (law_s21 hT17 hA hod hov hsm hus rfl fun B18 cv lo2 go2 oo ko le hle18 hcv => ?_)
  have hT18 := hT17.mono hle18
  refine Ok.execs_cons (law_s22 hT18 hA (hsm.mono hle18) hus rfl fun B19 ap hle19 hap hcl => ?_)
  have hT19 := hT18.mono hle19
  have hle1719 := hle18.trans hle19
  obtain ⟨ss, hss⟩ : ∃ ss, ss = [a, b, c, t - (a + b + c)] := ⟨_, rfl⟩
  obtain ⟨pj, hpj⟩ : ∃ pj : Nat → Nat, pj = fun k => ([k0, k1, k2, k3, k4].getD k 0 / 5 % 4).toNat := ⟨_, rfl⟩
  have hp4 : ∀ k, pj k < 4 := fun k => by rw [hpj]; exact mod4 _
  have hlets : StrsV lvs (letsOf ss pj) := by rw [hss, hpj]; exact hlvs
  have hss4 : ∀ k, k < 4 → -20 ≤ ss.getD k 0 ∧ ss.getD k 0 ≤ 20 := fun k hk => by
    rw [hss]
    refine hsb _ ?_
    rw [List.getD_eq_getElem?_getD, List.getElem?_eq_getElem (by simpa using hk)]
    exact List.getElem_mem _
  rw [← hss] at hcv hap hnear
  have hcbget : ∀ i, i < 24 → ((ordN 4).map (closedOf ss)).getD i false = closedOf ss (ord24.getD i []) := fun i hi => by
    rw [ord24_eq, List.getD_eq_getElem?_getD, List.getD_eq_getElem?_getD, List.getElem?_map, List.getElem?_eq_getElem (by rw [ord24_len]; exact hi)]; rfl
  have hsmall : Small ss (a + 2).toNat (b + 2).toNat (c + 2).toNat t.toNat := by rw [hss]; exact small_of ba bb bc ht
  have htx : ∀ i, i < 24 → TextOk (textOf (letsOf ss pj) (ordI (js.getD i 0))) (if ap = true then ((ordN 4).map (closedOf ss)).getD i false else ((ordN 4).map (closedOf ss)).getD (js.getD i 0) false) := fun i hi => by
    have hji : js.getD i 0 < 24 := by rw [hjget i hi]; exact (jC_ok _ hi).1
    have T := text_ok hss4 hp4 (ord_lt4 hji) (by rw [(ord_perm _ (ord24_mem hji)).length_eq]; rfl)
    rw [← ordI_24] at T
    have e : (if ap = true then ((ordN 4).map (closedOf ss)).getD i false else ((ordN 4).map (closedOf ss)).getD (js.getD i 0) false) = closedOf ss (ord24.getD (js.getD i 0) []) := by
      by_cases hp : ap = true
      · rw [if_pos hp, hcbget i hi, hjget i hi, (jC_ok _ hi).2]
        rw [hap, Bool.and_eq_true, decide_eq_true_eq] at hp
        have hq : ∀ S, -posSum ss ≤ levelOf ss S ∧ levelOf ss S ≤ posSum ss := fun S => by
          rw [hss]; exact pos_bound _ _ _ _ (small_pos ba bb bc ht).2 S
        have h40 : posSum ss ≤ 40 := by rw [hss]; exact (small_pos ba bb bc ht).1
        rw [rowC_congr (cmp_apart (hnear hp.1) hp.2 hq h40) hi]
        exact (apart_closed hsmall hi).symm
      · rw [if_neg hp, hcbget _ hji]
    rw [e]; exact T
  refine Ok.execs_cons (law_s23 (ov := []) (rows := []) (io := none) (gd := none) (an := none) hT19 hA (hce.mono hle1719) hzs hkl hcl hcv (by rw [List.length_map]; exact ord_len) (hld.mono hle1719) hls hjl hj (hsv.mono hle1719) (hus2.imp fun _ _ x => x.mono hle1719) (hlt.mono hle1719) hlets (by unfold letsOf; rw [List.length_map, List.length_range]) (fun y hy => by
    unfold letsOf at hy
    obtain ⟨k, hk, rfl⟩ := List.mem_map.mp hy
    exact letter_len (hss4 k (List.mem_range.mp hk)) (hp4 k)) htx fun B20 G20 io gd an ko2 hle20 hB20 => ?_)
  refine Ok.execs_cons (law_s24 (ls := []) hA ?_)
  exact ⟨[(66, rTb ps'), (73, rTb qs')], .cons_cons _ (.cons_cons _ (List.nil_sublist _)), h B20 G20 ps' qs' (hle07.trans (hle717.trans (hle1719.trans hle20))) hB20⟩
end
-- part Head
/-! ### the head: what the top leaves -/
def vw : Program := { PySem.Challenge.pw_rs0193_01 with main := { PySem.Challenge.pw_rs0193_01.main with body := [stmtAt 21] } }
def lsN : List Str := ["insort_right", "bisect_right", "insort_left", "bisect_left", "_DIV_LIMIT", "_div2n1n", "_div3n2n", "_int2digits", "_digits2int", "_divmod_pos", "int_divmod", "_iter_escaped_chars", "_strip_quoted_realnames", "_check_parenthesis", "_law_first", "_law_orders", "_law_swept"]
def heapK (P : Params) : Frag := [
  (3, { cls := .type "dict", data := .dict #[{ hash := PyData.keyHash P "__name__", key := .str "__name__" 165, val := .str "law_rs0193_01" 359 }, { hash := PyData.keyHash P "__doc__", key := .str "__doc__" 166, val := .none }, { hash := PyData.keyHash P "__package__", key := .str "__package__" 167, val := .none }, { hash := PyData.keyHash P "__loader__", key := .str "__loader__" 168, val := .builtin "__main__.__loader__#opaque" }, { hash := PyData.keyHash P "__spec__", key := .str "__spec__" 169, val := .none }, { hash := PyData.keyHash P "__annotations__", key := .str "__annotations__" 170, val := .ref 6 }, { hash := PyData.keyHash P "__builtins__", key := .str "__builtins__" 171, val := .ref 4 }, { hash := PyData.keyHash P "__file__", key := .str "__file__" 173, val := .str "/claim/cut.py" 172 }, { hash := PyData.keyHash P "__cached__", key := .str "__cached__" 174, val := .none }, { hash := PyData.keyHash P "insort_right", key := .str "insort_right" 201, val := .ref 23 }, { hash := PyData.keyHash P "bisect_right", key := .str "bisect_right" 215, val := .ref 32 }, { hash := PyData.keyHash P "insort_left", key := .str "insort_left" 228, val := .ref 41 }, { hash := PyData.keyHash P "bisect_left", key := .str "bisect_left" 242, val := .ref 50 }, { hash := PyData.keyHash P "_DIV_LIMIT", key := .str "_DIV_LIMIT" 246, val := .int 4000 245 }, { hash := PyData.keyHash P "_div2n1n", key := .str "_div2n1n" 263, val := .ref 57 }, { hash := PyData.keyHash P "_div3n2n", key := .str "_div3n2n" 277, val := .ref 64 }, { hash := PyData.keyHash P "_int2digits", key := .str "_int2digits" 288, val := .ref 71 }, { hash := PyData.keyHash P "_digits2int", key := .str "_digits2int" 299, val := .ref 78 }, { hash := PyData.keyHash P "_divmod_pos", key := .str "_divmod_pos" 314, val := .ref 85 }, { hash := PyData.keyHash P "int_divmod", key := .str "int_divmod" 324, val := .ref 92 }, { hash := PyData.keyHash P "_iter_escaped_chars", key := .str "_iter_escaped_chars" 336, val := .ref 99 }, { hash := PyData.keyHash P "_strip_quoted_realnames", key := .str "_strip_quoted_realnames" 348, val := .ref 106 }, { hash := PyData.keyHash P "_check_parenthesis", key := .str "_check_parenthesis" 358, val := .ref 113 }, { hash := PyData.keyHash P "_law_first", key := .str "_law_first" 367, val := .ref 120 }, { hash := PyData.keyHash P "_law_orders", key := .str "_law_orders" 373, val := .ref 125 }, { hash := PyData.keyHash P "_law_swept", key := .str "_law_swept" 387, val := .ref 132 }, { hash := PyData.keyHash P "law", key := .str "law" 393, val := .ref 137 }] 27 }),
  (15, { cls := .type "tuple", data := .seq #[.int 0 189, .none] }),
  (16, { cls := .type "dict", data := .dict #[{ hash := PyData.keyHash P "key", key := .str "key" 190, val := .none }] 1 }),
  (22, { cls := .type "code", data := .fields #[.str "insort_right" 191, .str "insort_right" 192, .str "/claim/cut.py" 193, .int 2 0, .int 4 0, .int 0 0, .int 1 0, .int 3 0, .ref 17, .bool true, .int 181 0, .ref 18, .none, .ref 19, .ref 20, .ref 21, .int 199 0, .int 2 0, .str "/claim/cut.py" 200] }),
  (23, { cls := .type "function", data := .func (fdOf 1 (.ref 15) (.ref 16) ⟨.none, .str "cpy313.bisect" 187, none, .ref 22, .none⟩) }),
  (24, { cls := .type "tuple", data := .seq #[.int 0 202, .none] }),
  (25, { cls := .type "dict", data := .dict #[{ hash := PyData.keyHash P "key", key := .str "key" 203, val := .none }] 1 }),
  (31, { cls := .type "code", data := .fields #[.str "bisect_right" 204, .str "bisect_right" 205, .str "/claim/cut.py" 206, .int 8 0, .int 4 0, .int 0 0, .int 1 0, .int 3 0, .ref 26, .bool true, .int 181 0, .ref 27, .none, .ref 28, .ref 29, .ref 30, .int 213 0, .int 8 0, .str "/claim/cut.py" 214] }),
  (32, { cls := .type "function", data := .func (fdOf 2 (.ref 24) (.ref 25) ⟨.none, .str "cpy313.bisect" 187, none, .ref 31, .none⟩) }),
  (33, { cls := .type "tuple", data := .seq #[.int 0 216, .none] }),
  (34, { cls := .type "dict", data := .dict #[{ hash := PyData.keyHash P "key", key := .str "key" 217, val := .none }] 1 }),
  (40, { cls := .type "code", data := .fields #[.str "insort_left" 218, .str "insort_left" 219, .str "/claim/cut.py" 220, .int 28 0, .int 4 0, .int 0 0, .int 1 0, .int 3 0, .ref 35, .bool true, .int 181 0, .ref 36, .none, .ref 37, .ref 38, .ref 39, .int 226 0, .int 28 0, .str "/claim/cut.py" 227] }),
  (41, { cls := .type "function", data := .func (fdOf 3 (.ref 33) (.ref 34) ⟨.none, .str "cpy313.bisect" 187, none, .ref 40, .none⟩) }),
  (42, { cls := .type "tuple", data := .seq #[.int 0 229, .none] }),
  (43, { cls := .type "dict", data := .dict #[{ hash := PyData.keyHash P "key", key := .str "key" 230, val := .none }] 1 }),
  (49, { cls := .type "code", data := .fields #[.str "bisect_left" 231, .str "bisect_left" 232, .str "/claim/cut.py" 233, .int 34 0, .int 4 0, .int 0 0, .int 1 0, .int 3 0, .ref 44, .bool true, .int 181 0, .ref 45, .none, .ref 46, .ref 47, .ref 48, .int 240 0, .int 34 0, .str "/claim/cut.py" 241] }),
  (50, { cls := .type "function", data := .func (fdOf 4 (.ref 42) (.ref 43) ⟨.none, .str "cpy313.bisect" 187, none, .ref 49, .none⟩) }),
  (56, { cls := .type "code", data := .fields #[.str "_div2n1n" 247, .str "_div2n1n" 248, .str "/claim/cut.py" 249, .int 56 0, .int 3 0, .int 0 0, .int 0 0, .int 3 0, .ref 51, .bool true, .int 181 0, .ref 52, .none, .ref 53, .ref 54, .ref 55, .int 261 0, .int 56 0, .str "/claim/cut.py" 262] }),
  (57, { cls := .type "function", data := .func (fdOf 7 .none .none ⟨.none, .str "cpy313._pylong" 243, none, .ref 56, .none⟩) }),
  (70, { cls := .type "code", data := .fields #[.str "_int2digits" 278, .str "_int2digits" 279, .str "/claim/cut.py" 280, .int 82 0, .int 2 0, .int 0 0, .int 0 0, .int 3 0, .ref 65, .bool true, .int 181 0, .ref 66, .none, .ref 67, .ref 68, .ref 69, .int 286 0, .int 82 0, .str "/claim/cut.py" 287] }),
  (71, { cls := .type "function", data := .func (fdOf 9 .none .none ⟨.none, .str "cpy313._pylong" 243, none, .ref 70, .none⟩) }),
  (77, { cls := .type "code", data := .fields #[.str "_digits2int" 289, .str "_digits2int" 290, .str "/claim/cut.py" 291, .int 98 0, .int 2 0, .int 0 0, .int 0 0, .int 3 0, .ref 72, .bool true, .int 181 0, .ref 73, .none, .ref 74, .ref 75, .ref 76, .int 297 0, .int 98 0, .str "/claim/cut.py" 298] }),
  (78, { cls := .type "function", data := .func (fdOf 10 .none .none ⟨.none, .str "cpy313._pylong" 243, none, .ref 77, .none⟩) }),
  (84, { cls := .type "code", data := .fields #[.str "_divmod_pos" 300, .str "_divmod_pos" 301, .str "/claim/cut.py" 302, .int 107 0, .int 2 0, .int 0 0, .int 0 0, .int 3 0, .ref 79, .bool true, .int 181 0, .ref 80, .none, .ref 81, .ref 82, .ref 83, .int 312 0, .int 107 0, .str "/claim/cut.py" 313] }),
  (85, { cls := .type "function", data := .func (fdOf 11 .none .none ⟨.none, .str "cpy313._pylong" 243, none, .ref 84, .none⟩) }),
  (91, { cls := .type "code", data := .fields #[.str "int_divmod" 315, .str "int_divmod" 316, .str "/claim/cut.py" 317, .int 118 0, .int 2 0, .int 0 0, .int 0 0, .int 3 0, .ref 86, .bool true, .int 181 0, .ref 87, .none, .ref 88, .ref 89, .ref 90, .int 322 0, .int 118 0, .str "/claim/cut.py" 323] }),
  (92, { cls := .type "function", data := .func (fdOf 12 .none .none ⟨.none, .str "cpy313._pylong" 243, none, .ref 91, .none⟩) }),
  (98, { cls := .type "code", data := .fields #[.str "_iter_escaped_chars" 327, .str "_iter_escaped_chars" 328, .str "/claim/cut.py" 329, .int 130 0, .int 1 0, .int 0 0, .int 0 0, .int 35 0, .ref 93, .bool true, .int 181 0, .ref 94, .none, .ref 95, .ref 96, .ref 97, .int 334 0, .int 130 0, .str "/claim/cut.py" 335] }),
  (99, { cls := .type "function", data := .func (fdOf 14 .none .none ⟨.none, .str "cpy313.email.utils" 325, none, .ref 98, .none⟩) }),
  (105, { cls := .type "code", data := .fields #[.str "_strip_quoted_realnames" 337, .str "_strip_quoted_realnames" 338, .str "/claim/cut.py" 339, .int 143 0, .int 1 0, .int 0 0, .int 0 0, .int 3 0, .ref 100, .bool true, .int 181 0, .ref 101, .none, .ref 102, .ref 103, .ref 104, .int 346 0, .int 143 0, .str "/claim/cut.py" 347] }),
  (106, { cls := .type "function", data := .func (fdOf 15 .none .none ⟨.none, .str "cpy313.email.utils" 325, none, .ref 105, .none⟩) }),
  (112, { cls := .type "code", data := .fields #[.str "_check_parenthesis" 349, .str "_check_parenthesis" 350, .str "/claim/cut.py" 351, .int 161 0, .int 1 0, .int 0 0, .int 0 0, .int 3 0, .ref 107, .bool true, .int 181 0, .ref 108, .none, .ref 109, .ref 110, .ref 111, .int 356 0, .int 161 0, .str "/claim/cut.py" 357] }),
  (113, { cls := .type "function", data := .func (fdOf 16 .none .none ⟨.none, .str "cpy313.email.utils" 325, none, .ref 112, .none⟩) }),
  (119, { cls := .type "code", data := .fields #[.str "_law_first" 361, .str "_law_first" 362, .str "/claim/cut.py" 363, .int 173 0, .int 1 0, .int 0 0, .int 0 0, .int 3 0, .ref 114, .bool true, .int 181 0, .ref 115, .none, .ref 116, .ref 117, .ref 118, .int 365 0, .int 173 0, .str "/claim/cut.py" 366] }),
  (120, { cls := .type "function", data := .func (fdOf 18 .none .none ⟨.none, .str "law_rs0193_01" 359, none, .ref 119, .none⟩) }),
  (124, { cls := .type "code", data := .fields #[.str "_law_orders" 368, .str "_law_orders" 369, .str "/claim/cut.py" 370, .int 175 0, .int 0 0, .int 0 0, .int 0 0, .int 3 0, .ref 121, .bool true, .int 181 0, .ref 122, .none, .none, .none, .ref 123, .int 371 0, .int 175 0, .str "/claim/cut.py" 372] }),
  (125, { cls := .type "function", data := .func (fdOf 19 .none .none ⟨.none, .str "law_rs0193_01" 359, none, .ref 124, .none⟩) }),
  (131, { cls := .type "code", data := .fields #[.str "_law_swept" 374, .str "_law_swept" 375, .str "/claim/cut.py" 376, .int 180 0, .int 3 0, .int 0 0, .int 0 0, .int 3 0, .ref 126, .bool true, .int 181 0, .ref 127, .none, .ref 128, .ref 129, .ref 130, .int 385 0, .int 180 0, .str "/claim/cut.py" 386] }),
  (132, { cls := .type "function", data := .func (fdOf 20 .none .none ⟨.none, .str "law_rs0193_01" 359, none, .ref 131, .none⟩) }),
  (136, { cls := .type "code", data := .fields #[.str "law" 388, .str "law" 389, .str "/claim/cut.py" 390, .int 192 0, .int 1 0, .int 0 0, .int 0 0, .int 3 0, .ref 133, .bool true, .int 181 0, .ref 134, .none, .none, .none, .ref 135, .int 391 0, .int 192 0, .str "/claim/cut.py" 392] }),
  (137, { cls := .type "function", data := .func (fdOf 21 .none .none ⟨.none, .str "law_rs0193_01" 359, none, .ref 136, .none⟩) })
]
def asK : List Addr := [3, 15, 16, 22, 23, 24, 25, 31, 32, 33, 34, 40, 41, 42, 43, 49, 50, 56, 57, 70, 71, 77, 78, 84, 85, 91, 92, 98, 99, 105, 106, 112, 113, 119, 120, 124, 125, 131, 132, 136, 137]
abbrev hookK : Hook := kmHook heapK asK (fun _ => rfl) [73, 66]
theorem left_all : LeftO PySem.Challenge.rw_rs0193_01.row.toRowW.prog vw lsN (fun s => xlAt vw [] s && recOk (RowW.records PySem.Challenge.rw_rs0193_01.row.toRowW) s) hookK.obs hookK.val 1390 := fun w => by kernel_rfl
/-- the looks at the text, one after the other -/
theorem said_row : PySem.Challenge.rw_rs0193_01.row.wellSaid = true := by kernel_rfl
theorem said : PySem.Challenge.rw_rs0193_01.wellSaid = true := by
  unfold OpenLaw.wellSaid
  refine look_both (look_both (look_both (look_both (look_both (look_both (look_both (look_both (look_both (look_both (look_both (look_both (look_both (look_both (look_both (look_both (look_both (look_both said_row ?_) ?_) ?_) ?_) ?_) ?_) ?_) ?_) ?_) ?_) ?_) ?_) ?_) ?_) ?_) ?_) ?_) ?_
  all_goals kernel_rfl
-- part Head2
set_option maxRecDepth 100000
/-! ### the objects of the top, but for the two code tables -/
def hB (h0 : Heap) : Base := fun b => if b = 66 ∨ b = 73 then none else h0.get? b
theorem hB_get {h0 : Heap} {b : Addr} {o : Obj} (n1 : b ≠ 66) (n2 : b ≠ 73) (e : h0.get? b = some o) : hB h0 b = some o := by
  unfold hB; rw [if_neg (fun h => h.elim n1 n2)]; exact e
theorem hB_of {h0 : Heap} {b : Addr} {o : Obj} (e : hB h0 b = some o) : h0.get? b = some o := by
  unfold hB at e
  split at e
  · cases e
  · exact e
abbrev KK (w : World) : Frag := heapK w.params
def esOf (x : Option Obj) : Array DictEntry := match x with
  | some o => (match o.data with | .dict es _ => es | _ => #[])
  | none => #[]
def isDict (x : Option Obj) : Bool := match x with
  | some o => (match o.data with | .dict _ _ => true | _ => false)
  | none => false
def strKeysB (es : Array DictEntry) : Bool := es.toList.all fun e => match e.key with | .str _ _ => true | _ => false
theorem strKeys_of {es : Array DictEntry} (h : strKeysB es = true) : StrKeys es := fun e he => by
  have := List.all_eq_true.mp h e (by simpa using he)
  split at this
  · rename_i n t q; exact ⟨n, t, q⟩
  · cases this
def restAt (x : Option Obj) : FnRest := match x with
  | some o => (match o.data with | .func fd => ⟨fd.doc, fd.pyModule, fd.annotations, fd.code, fd.closureTuple⟩ | _ => ⟨.none, .none, none, .none, .none⟩)
  | none => ⟨.none, .none, none, .none, .none⟩
def nameIn (x : Option Obj) : Option Str := match x with
  | some o => (match o.data with | .fields vs => (match (vs[1]? : Option Value) with | some (.str q _) => some q | _ => none) | _ => none)
  | none => none
def dTok (x : Option Obj) : Tok := match x with
  | some o => (match o.data with | .seq xs _ => (match (xs[0]? : Option Value) with | some (.int _ t) => t | _ => 0) | _ => 0)
  | none => 0
section
variable {w : World} {h0 : Heap} {mg mb : Str → Option Value}
theorem K_no66 : (KK w).lookup 66 = none := by kernel_rfl
theorem K_no73 : (KK w).lookup 73 = none := by kernel_rfl
theorem K_base (KX : (KK w).In h0) {a : Addr} {o : Obj} (e : (KK w).lookup a = some o) : hB h0 a = some o := by
  refine hB_get (fun q => ?_) (fun q => ?_) (KX a o e)
  · subst q; rw [K_no66] at e; cases e
  · subst q; rw [K_no73] at e; cases e
theorem K_in (KX : (KK w).In h0) : Stb (hB h0) fun h => (KK w).In h := fun h hk a o e => hk a o (K_base KX e)
theorem ns_stb {a : Addr} {m : Str → Option Value} (n1 : a ≠ 66) (n2 : a ≠ 73) (G : h0.Ns a m) : Stb (hB h0) fun h => h.Ns a m := fun h hk =>
  let ⟨o, es, ep, e, r⟩ := G; ⟨o, es, ep, hk _ _ (hB_get n1 n2 e), r⟩
theorem mg_eq (KX : (KK w).In h0) (G : h0.Ns mainGlobals mg) (x : Str) : mg x = nsFind (esOf ((KK w).lookup mainGlobals)) x := by
  obtain ⟨o, es, ep, e, d, k, f⟩ := G
  have hs : ((KK w).lookup mainGlobals).isSome = true := by kernel_rfl
  cases hl : (KK w).lookup mainGlobals with
  | none => rw [hl] at hs; cases hs
  | some o' =>
    have := KX _ _ hl
    rw [e] at this
    cases this
    show _ = nsFind (match o.data with | .dict es _ => es | _ => #[]) x
    rw [d]
    exact (f x).symm
theorem lim_stb (T : h0.NoLimit) : Stb (hB h0) fun h => h.NoLimit := fun h hk => by
  obtain ⟨mc, G, e⟩ := T
  exact ⟨mc, ns_stb (by decide) (by decide) G h hk, e⟩
theorem fn_of (KX : (KK w).In h0) (lim : h0.NoLimit) {f c : Addr} {i : Nat} {df kw : Value} (hd : ((KK w).lookup f).map (·.data) = some (.func (fdOf i df kw (restAt ((KK w).lookup f)))))
    (hc : (restAt ((KK w).lookup f)).cd = .ref c) (hq : nameIn ((KK w).lookup c) = some (nameAt i)) : Fn (hB h0) f i df kw (restAt ((KK w).lookup f)) := by
  refine ⟨?_, fun h hk => ?_, lim_stb lim⟩
  · cases hl : (KK w).lookup f with
    | none => rw [hl] at hd; cases hd
    | some o =>
      rw [hl] at hd
      exact ⟨o, K_base KX hl, Option.some.inj hd⟩
  · cases hl : (KK w).lookup c with
    | none => rw [hl] at hq; cases hq
    | some o =>
      rw [hl] at hq
      unfold nameIn at hq
      dsimp only at hq
      split at hq
      · rename_i vs hv
        split at hq
        · rename_i q t ht
          cases hq
          exact ⟨c, o, vs, t, hc, hk _ _ (K_base KX hl), hv, ht⟩
        · cases hq
      · cases hq
theorem dfl_of (KX : (KK w).In h0) {d k : Addr} (h1 : ((KK w).lookup d).map (·.data) = some (.seq #[.int 0 (dTok ((KK w).lookup d)), .none] 0))
    (h2 : isDict ((KK w).lookup k) = true) (h3 : strKeysB (esOf ((KK w).lookup k)) = true) (h4 : nsFind (esOf ((KK w).lookup k)) "key" = some .none) : Dfl (hB h0) d k := by
  refine ⟨?_, fun h hk => ?_⟩
  · cases hl : (KK w).lookup d with
    | none => rw [hl] at h1; cases h1
    | some o => exact ⟨o, _, _, K_base KX hl, by rw [hl] at h1; exact Option.some.inj h1⟩
  · cases hl : (KK w).lookup k with
    | none => rw [hl] at h2; cases h2
    | some o =>
      rw [hl] at h2 h3 h4
      unfold isDict at h2
      unfold esOf at h3 h4
      dsimp only at h2 h3 h4
      split at h2
      · rename_i es ep hd
        rw [hd] at h3 h4
        exact ⟨nsFind es, ⟨o, es, ep, hk _ _ (K_base KX hl), hd, strKeys_of h3, fun _ => rfl⟩, h4⟩
      · cases h2
theorem gi_of (KX : (KK w).In h0) (Gg : h0.Ns mainGlobals mg) (Gb : h0.Ns builtinsNs mb) {x : Str} {u : Value} (h : nsFind (esOf ((KK w).lookup mainGlobals)) x = some u) : Stb (hB h0) (GlobIs x u) := fun h' hk =>
  ⟨mg, mb, ns_stb (by decide) (by decide) Gg h' hk, ns_stb (by decide) (by decide) Gb h' hk, .inl ((mg_eq KX Gg x).trans h)⟩
theorem gb_of (KX : (KK w).In h0) (Gg : h0.Ns mainGlobals mg) (Gb : h0.Ns builtinsNs mb) (hb : ∀ x : Str, x ≠ "__name__" → mb x = bootBuiltins x) {x : Str} {u : Value} (h : nsFind (esOf ((KK w).lookup mainGlobals)) x = none) (hx : x ≠ "__name__") (h2 : bootBuiltins x = some u) : Stb (hB h0) (GlobIs x u) := fun h' hk =>
  ⟨mg, mb, ns_stb (by decide) (by decide) Gg h' hk, ns_stb (by decide) (by decide) Gb h' hk, .inr ⟨(mg_eq KX Gg x).trans h, (hb x hx).trans h2⟩⟩
set_option maxHeartbeats 4000000 in
theorem topB_of (KX : (KK w).In h0) (Gg : h0.Ns mainGlobals mg) (Gb : h0.Ns builtinsNs mb) (hb : ∀ x : Str, x ≠ "__name__" → mb x = bootBuiltins x) (lim : h0.NoLimit) : TopB (hB h0) where
  glob := by
    intro p hp
    simp only [topTab, List.mem_cons, List.not_mem_nil, or_false] at hp
    rcases hp with rfl | rfl | rfl | rfl | rfl | rfl | rfl | rfl | rfl | rfl | rfl | rfl | rfl | rfl | rfl | rfl | rfl | rfl | rfl | rfl | rfl | rfl | rfl | rfl | rfl
    iterate 10 (next => exact gb_of KX Gg Gb hb (by kernel_rfl) (by decide +kernel) (by first | kernel_rfl | boot_by_name))
    all_goals exact gi_of KX Gg Gb (by kernel_rfl)
  divLim := ⟨245, gi_of KX Gg Gb (by kernel_rfl)⟩
  dfl1 := dfl_of KX (by kernel_rfl) (by kernel_rfl) (by kernel_rfl) (by kernel_rfl)
  dfl2 := dfl_of KX (by kernel_rfl) (by kernel_rfl) (by kernel_rfl) (by kernel_rfl)
  dfl3 := dfl_of KX (by kernel_rfl) (by kernel_rfl) (by kernel_rfl) (by kernel_rfl)
  dfl4 := dfl_of KX (by kernel_rfl) (by kernel_rfl) (by kernel_rfl) (by kernel_rfl)
  f1 := ⟨_, fn_of (c := 22) KX lim (by kernel_rfl) (by kernel_rfl) (by kernel_rfl)⟩
  f2 := ⟨_, fn_of (c := 31) KX lim (by kernel_rfl) (by kernel_rfl) (by kernel_rfl)⟩
  f3 := ⟨_, fn_of (c := 40) KX lim (by kernel_rfl) (by kernel_rfl) (by kernel_rfl)⟩
  f4 := ⟨_, fn_of (c := 49) KX lim (by kernel_rfl) (by kernel_rfl) (by kernel_rfl)⟩
  f7 := ⟨_, fn_of (c := 56) KX lim (by kernel_rfl) (by kernel_rfl) (by kernel_rfl)⟩
  f9 := ⟨_, fn_of (c := 70) KX lim (by kernel_rfl) (by kernel_rfl) (by kernel_rfl), by kernel_rfl⟩
  f10 := ⟨_, fn_of (c := 77) KX lim (by kernel_rfl) (by kernel_rfl) (by kernel_rfl), by kernel_rfl⟩
  f11 := ⟨_, fn_of (c := 84) KX lim (by kernel_rfl) (by kernel_rfl) (by kernel_rfl)⟩
  f12 := ⟨_, fn_of (c := 91) KX lim (by kernel_rfl) (by kernel_rfl) (by kernel_rfl)⟩
  f14 := ⟨_, fn_of (c := 98) KX lim (by kernel_rfl) (by kernel_rfl) (by kernel_rfl)⟩
  f15 := ⟨_, fn_of (c := 105) KX lim (by kernel_rfl) (by kernel_rfl) (by kernel_rfl)⟩
  f16 := ⟨_, fn_of (c := 112) KX lim (by kernel_rfl) (by kernel_rfl) (by kernel_rfl)⟩
  f18 := ⟨_, fn_of (c := 119) KX lim (by kernel_rfl) (by kernel_rfl) (by kernel_rfl)⟩
  f19 := ⟨_, fn_of (c := 124) KX lim (by kernel_rfl) (by kernel_rfl) (by kernel_rfl)⟩
  f20 := ⟨_, fn_of (c := 131) KX lim (by kernel_rfl) (by kernel_rfl) (by kernel_rfl)⟩
theorem law_fn (KX : (KK w).In h0) (lim : h0.NoLimit) : ∃ r, Fn (hB h0) 137 21 .none .none r := ⟨_, fn_of (c := 136) KX lim (by kernel_rfl) (by kernel_rfl) (by kernel_rfl)⟩
theorem law_at (KX : (KK w).In h0) (Gg : h0.Ns mainGlobals mg) {fa : Addr} (h : mg "law" = some (.ref fa)) : fa = 137 := by
  have e : nsFind (esOf ((KK w).lookup mainGlobals)) "law" = some (.ref 137) := by kernel_rfl
  rw [mg_eq KX Gg, e] at h
  cases h; rfl
theorem bi_of {c P : Addr} (KX : (KK w).In h0) (Gg : h0.Ns mainGlobals mg) (hbm : ∃ bm ob, mg "__builtins__" = some (.ref bm) ∧ bm ≠ builtinsNs ∧ h0.get? bm = some ob ∧ ob.cls = .type "module" ∧ ob.dict = some builtinsNs ∧ ob.data = .plain)
    (hcd : codeHdIn (KK w) c P = true) (n1 : mainGlobals ≠ P) (n2 : 4 ≠ P) : TopC (hB h0) c P := by
  refine ⟨fun h hk => codeHd_of_K (K_in KX h hk) hcd, fun h hk => ?_, n1⟩
  obtain ⟨bm, ob, e1, e2, e3, e4, e5, e6⟩ := hbm
  have e : nsFind (esOf ((KK w).lookup mainGlobals)) "__builtins__" = some (.ref 4) := by kernel_rfl
  have e1' := e1
  rw [mg_eq KX Gg, e] at e1
  cases e1
  exact ⟨mg, ns_stb (by decide) (by decide) Gg h hk, 4, ob, e1', e2, by decide, n2, hk _ _ (hB_get (by decide) (by decide) e3), e4, e5, e6⟩
theorem topD_of (KX : (KK w).In h0) (Gg : h0.Ns mainGlobals mg) (Gb : h0.Ns builtinsNs mb) (hb : ∀ x : Str, x ≠ "__name__" → mb x = bootBuiltins x) (lim : h0.NoLimit)
    (hbm : ∃ bm ob, mg "__builtins__" = some (.ref bm) ∧ bm ≠ builtinsNs ∧ h0.get? bm = some ob ∧ ob.cls = .type "module" ∧ ob.dict = some builtinsNs ∧ ob.data = .plain) : TopD (hB h0) :=
  ⟨topB_of KX Gg Gb hb lim, bi_of KX Gg hbm (by kernel_rfl) (by decide) (by decide), bi_of KX Gg hbm (by kernel_rfl) (by decide) (by decide)⟩
end
-- part Fin
set_option maxRecDepth 100000
theorem intsV_of {xs : List Value} {is : List Int} (h : IntsAre xs is) : IntsV xs is := by
  induction h with
  | nil => exact .nil
  | cons n t _ ih => exact .cons ⟨t, rfl⟩ ih
theorem St_start {s : Shared} (hT : ∀ P ∈ [(73 : Addr), 66], s.heap.get? P = some (tabObj #[])) : St s.os (hB s.heap) s.gens [(66, rTb #[]), (73, rTb #[])] s := by
  refine ⟨fun b o e => hB_of e, fun p hp => ?_, fun p hp => ?_, by decide, rfl, rfl⟩
  · simp only [List.mem_cons, List.not_mem_nil, or_false] at hp
    rcases hp with rfl | rfl
    · exact ⟨_, hT 66 (by simp), rfl⟩
    · exact ⟨_, hT 73 (by simp), rfl⟩
  · simp only [List.mem_cons, List.not_mem_nil, or_false] at hp
    rcases hp with rfl | rfl
    · unfold hB; rw [if_pos (.inl rfl)]
    · unfold hB; rw [if_pos (.inr rfl)]
theorem old_of {w : World} {s₁ s' : Shared} {B' : Base} {G' : Array GenState} {ps qs : Array Value} (KX : (KK w).In s₁.heap) (hT : ∀ P ∈ [(73 : Addr), 66], s₁.heap.get? P = some (tabObj #[]))
    (hle : BLe (hB s₁.heap) B') (S : St s₁.os B' G' [(66, rTb ps), (73, rTb qs)] s') : OldK s₁.heap s'.heap := by
  have t66 : isCodeTable s₁.heap 66 := ((codeHd_of_K (c := 70) (P := 66) KX (by kernel_rfl)).tab (hT 66 (by simp))).isCodeTable
  have t73 : isCodeTable s₁.heap 73 := ((codeHd_of_K (c := 77) (P := 73) KX (by kernel_rfl)).tab (hT 73 (by simp))).isCodeTable
  obtain ⟨_, g66, rfl⟩ := S.has .here
  obtain ⟨_, g73, rfl⟩ := S.has (.there .here)
  have one : ∀ b o, s₁.heap.get? b = some o → (b = 66 ∧ o = tabObj #[]) ∨ (b = 73 ∧ o = tabObj #[]) ∨ s'.heap.get? b = some o := fun b o e => by
    by_cases n1 : b = 66
    · subst n1; rw [hT 66 (by simp)] at e; exact .inl ⟨rfl, (Option.some.inj e).symm⟩
    · by_cases n2 : b = 73
      · subst n2; rw [hT 73 (by simp)] at e; exact .inr (.inl ⟨rfl, (Option.some.inj e).symm⟩)
      · exact .inr (.inr (S.keep _ _ (hle _ _ (hB_get n1 n2 e))))
  refine ⟨fun b o e => ?_, fun b o e => ?_⟩
  · rcases one b o e with ⟨rfl, rfl⟩ | ⟨rfl, rfl⟩ | k
    · exact .inr (.inl ⟨t66, rfl, #[], ps, rfl, by rw [Array.empty_append]; exact g66⟩)
    · exact .inr (.inl ⟨t73, rfl, #[], qs, rfl, by rw [Array.empty_append]; exact g73⟩)
    · exact .inl k
  · rcases one b o e with ⟨rfl, rfl⟩ | ⟨rfl, rfl⟩ | k
    · exact ⟨_, g66⟩
    · exact ⟨_, g73⟩
    · exact ⟨_, k⟩
theorem list_stb {h0 : Heap} (hT : ∀ P ∈ [(73 : Addr), 66], h0.get? P = some (tabObj #[])) {l : Addr} {xs : List Value} (hL : h0.IsList l xs.toArray) : Stb (hB h0) fun h => h.IsList l xs.toArray := fun h hk => by
  obtain ⟨o, e, c, n, d⟩ := hL
  refine ⟨o, hk _ _ (hB_get (fun q => ?_) (fun q => ?_) e), c, n, d⟩
  · subst q; rw [hT 66 (by simp)] at e; cases e; cases c
  · subst q; rw [hT 73 (by simp)] at e; cases e; cases c
theorem room_caller : Room 47 callerA := ⟨rfl, by decide +kernel, by decide +kernel⟩
end Mine
open Mine
set_option maxHeartbeats 8000000 in
theorem PySem.Challenge.cw_rs0193_01_holds : PySem.Challenge.rw_rs0193_01.Holds := by
  w_on
  refine holds_law said fun said => ?_
  refine holds_open (q := vw) (loose := lsN) (Xt := fun s => xlAt vw [] s && recOk (RowW.records PySem.Challenge.rw_rs0193_01.row.toRowW) s) (XP := XL vw []) (Yf := hookK.obs) (Ya := hookK.val) (YP := hookK.says) (N := 1390) left_all hookK.of hookK.keeps (fun s e => xl_of s (Bool.and_eq_true_iff.mp e).1) XL.keeps (by rfl) (by rfl) (by rfl) (fun s e => recFacts_of (Bool.and_eq_true_iff.mp e).2) (by rfl) (by first | assumption | decide +kernel) (by decide +kernel) ⟨rfl, rfl, rfl, rfl, rfl, by decide +kernel⟩ ?hw ?hc
  (case hw => w_witness2)
  intro w s₀ s₁ mg mb G Y fa o pm cd doc dV kV ho hd hcd hD hmg hg args vals as hpre hlay hrd hwl hlo
  have KX : (KK w).In s₁.heap := km_in_of Y
  have hT8 := km_tabs_of Y
  refine Ground.open G ?_
  intro T B D TE TW
  have hfa := law_at KX T.g hmg
  have TD := topD_of KX T.g T.b T.builtins T.nolimit T.bmain
  have hF := law_fn KX T.nolimit
  clear hd hcd hD hmg ho B D TE TW T Y G
  wrow_args hpre hlay hrd hwl hlo
  subst hfa
  rename_i is _ _ _ _ _ _ _ sc xs _ hL _ _ _ hI _ hlen _
  have hi := intsV_of hI
  have hxl := hi.length
  have S := St_start (s := s₁) hT8
  have L := law_all (n := 0) (w := w) (O := s₁.os) (G := s₁.gens) (v := []) (ps := #[]) (qs := #[]) (Q := fun a B' G' v' => a = .bool true ∧ ∃ ps qs, v' = [(66, rTb ps), (73, rTb qs)] ∧ BLe (hB s₁.heap) B' ∧ (Bare s₁.gens → Bare G')) TD hF
    ⟨.nil, .inl rfl⟩ ⟨.nil, .inl rfl⟩ (list_stb hT8 hL) hi (by first | lia | omega) (fun B' G' ps qs hle hG => ⟨rfl, ps, qs, rfl, hle, hG⟩)
  refine wpAny_mono (L callerA s₁ room_caller S) (fun u s' ⟨B', G', v', S', hv, ps, qs, hv', hle, hG⟩ => ?_) fun _ _ x => x.elim
  subst hv hv'
  refine ⟨.inl ⟨_, .bool true, [], rfl, fun _ => rfl, .bool _, ?_, fun _ => ⟨.nil, fun a ha => by cases ha⟩⟩, old_of KX hT8 hle S', S'.os, ?_⟩
  · wrow_post
  · rw [S'.gens]
    exact hG (by rw [hg]; exact fun x hx => by simp at hx)
