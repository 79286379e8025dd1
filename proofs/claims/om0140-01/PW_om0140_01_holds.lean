import PyProof.Rows.All
import PyProof.NoPylong
import PyProof.SliceList
import PyProof.EqAt
import PyProof.NeKinds
import PyProof.SliceStr
import PyProof.Truth
import PyProof.StrLawsReplace
import Wide.FinOn
import OpenK.AllK
import Wide.All
import PySem.Challenge.RW_om0140_01
section -- Eng
open PySem PySem.W
set_option Elab.async false
namespace Mine

/-- the objects of the top that the call reads, by address -/
inductive TT where
  | nil
  | node (k : Nat) (o : Obj) (l r : TT)
noncomputable def TT.get : TT → Nat → Option Obj
  | .nil, _ => none
  | .node k o l r, a => match Nat.beq a k with
    | true => some o
    | false => match Nat.blt a k with
      | true => l.get a
      | false => r.get a

/-- values without their tokens -/
inductive PV where
  | none
  | bool (b : Bool)
  | int (i : Int)
  | str (s : Str)
  | ty (n : String)
  | bi (n : String)
  | ref (a : Nat)
  | odd
noncomputable def PV.of : Value → PV
  | .none => .none
  | .bool b => .bool b
  | .int i _ => .int i
  | .str s _ => .str s
  | .type n => .ty n
  | .builtin n => .bi n
  | .ref a => .ref a
  | _ => .odd
noncomputable def PV.val (t : Nat) : PV → Value
  | .none => .none
  | .bool b => .bool b
  | .int i => .int i t
  | .str s => .str s t
  | .ty n => .type n
  | .bi n => .builtin n
  | .ref a => .ref a
  | .odd => .ellipsis

inductive Ob where
  | n (a : Nat)
  | v (l : List PV)
  | id (s : String)
  | c (c : Code)
  | hd (v : Option Value)
  | o (o : Option Obj)
  | bl (l : List (Code × Pos))
  | t (t : Sem Fin)

/-- a call with effects, answered by a specification: objects ahead and behind by virtual place, new objects (at ν 0, ν 1 ..), fresh tokens θ -/
structure Use where
  code : Code
  below : Option (List (Code × Pos))
  pre : List (Nat × Obj)
  nn : Nat
  nt : Nat
  post : (Nat → Nat) → (Nat → Nat) → List (Nat × Obj)
  new : (Nat → Nat) → (Nat → Nat) → Nat → Obj
  res : (Nat → Nat) → (Nat → Nat) → Result
  /-- so many tokens just drawn, one behind the other -/
  fr : Nat := 0

/-- a tree that may stand for another, where these objects lie -/
structure Swap where
  bl : Option (List (Code × Pos))
  pre : List (Nat × Obj)
  t₀ : Sem Fin
  t₁ : Sem Fin

inductive Cut where
  | fn (id : String) (args : List PV) (r : PV)
  | use (m i : Nat) (u : Use)
  | swap (m i : Nat) (x : Swap)

inductive Kont where
  | base
  | ret (c : Code) (p : Pos) (hd : Option Value) (k : Result → Sem Fin) (κ : Kont)

noncomputable def ctxOf (Γ : Ctx) : Kont → Code → Ctx
  | .base, c => Γ.goto c
  | .ret c₀ p₀ hd _ κ, c => (ctxOf Γ κ c₀).enter c hd p₀

inductive Out where
  | fin (f : Fin) (p : Pos) (T : BT) (m : Nat)
  | exc (e : Value) (T : BT) (m : Nat)
  | stuck (n : Nat)

noncomputable abbrev Res := List (Ob × Ob) × Out

noncomputable def preObs (T : BT) : List (Nat × Obj) → List (Ob × Ob) → List (Ob × Ob)
  | [], acc => acc
  | q :: l, acc => preObs T l ((.o (T.get q.1), .o (some q.2)) :: acc)
noncomputable def putAll : List (Nat × Obj) → BT → BT
  | [], T => T
  | q :: l, T => putAll l (T.set q.1 fun _ => q.2)
/-- n new objects, f j, f (j + 1) .., at m, m + 1 .. -/
noncomputable def insN (f : Nat → Obj) : Nat → Nat → BT → Nat → Option (BT × Nat)
  | 0, _, T, m => some (T, m)
  | n + 1, j, T, m => match (T.ins m (f j)).get m with
    | some _ => insN f n (j + 1) (T.ins m (f j)) (m + 1)
    | none => none

/-- what is asked of the place of an answered call -/
noncomputable def ctxObs (Γ : Ctx) (c : Code) (p : Pos) (acc : List (Ob × Ob)) : Option (List (Code × Pos)) → List (Ob × Ob)
  | none => acc
  | some bl => (.hd Γ.handled, .hd none) :: (.hd Γ.own, .hd none) :: (.hd Γ.past, .hd none) :: (.bl ((c, p) :: Γ.below), .bl bl) :: acc

noncomputable def tr (n : Nat) (f : Nat → Nat) : Nat → Nat := fun j => match Nat.blt j n with
  | true => f j
  | false => 0

noncomputable abbrev B : Nat := 1024

/-- two trees that open with the same look at an object of the top -/
noncomputable def forkAt (kt : TT) (tT tF : Sem Fin) : Option ((Sem Fin × Sem Fin) × (Nat × Nat)) :=
  match tT with
  | .load a _ kT => match tF with
    | .load a' _ kF => match kt.get a with
      | some o => some ((kT o, kF o), (a, a'))
      | none => none
    | _ => none
  | _ => none

noncomputable abbrev StepTy := Nat → List Cut → Code → Pos → Kont → Sem Fin → BT → Nat → Nat → Nat → List (Ob × Ob) → Res

noncomputable def stepC (kt : TT) (st stT stF : Setting) (Γ : Ctx) (D : Code → Sem Fin) (ρ τ : Nat → Nat) (ih : StepTy) (s : Nat) (cs : List Cut) (c : Code) (p : Pos) (κ : Kont) (t : Sem Fin) (T : BT) (m i ez : Nat) (acc : List (Ob × Ob)) : Res :=
  match t with
  | .pure fin => match fin with
    | .done f => match κ with
      | .base => (acc, .fin (.done f) p T m)
      | .ret c₀ p₀ _ k κ' => ih s cs c₀ p₀ κ' (k (.ok f)) T m i ez acc
    | .again c' => match c'.quiet with
      | true => match κ with
        | .base => match Nat.beq (s % B) 1 with
          | true => (acc, .fin (.again c') p T m)
          | false => ih s cs c' p .base (D c') T m i ez acc
        | .ret c₀ p₀ hd k κ' => ih s cs c' p (.ret c₀ p₀ hd k κ') (D c') T m i ez acc
      | false => (acc, .stuck 5)
  | .raise e => match κ with
      | .base => (acc, .exc e T m)
      | .ret c₀ p₀ _ k κ' => ih s cs c₀ p₀ κ' (k (.error e)) T m i ez acc
  | .rule _ k => ih s cs c p κ (k ()) T m i ez acc
  | .at p' k => ih s cs c p' κ (k ()) T m i ez acc
  | .point _ k => ih s cs c p κ (k ()) T m i ez acc
  | .ask k => match Nat.beq (s % B) 0 with
    | true => ih (s / B) cs c p κ (k st) T m i ez acc
    | false => match Nat.beq (s % B) 2 with
      | true => ih (s / B) cs c p κ (k stT) T m i ez ((.t (k stT), .t (k stF)) :: acc)
      | false => match forkAt kt (k stT) (k stF) with
        | some q => ih (s / B) cs c p κ q.1.1 T m i ez ((.n q.2.1, .n q.2.2) :: (.t q.1.1, .t q.1.2) :: acc)
        | none => (acc, .stuck 11)
  | .load a al k => match Nat.beq (s % B) 0 with
    | true => match kt.get a with
      | some o => ih (s / B) cs c p κ (k o) T m i ez acc
      | none => (acc, .stuck 1)
    | false => match Nat.beq (s % B) 2 with
      | true => match cs with
        | [] => (acc, .stuck 7)
        | cut :: cs' => match cut with
          | .swap m₀ i₀ x => ih (s / B) cs' c p κ x.t₁ T m i ez ((.n m, .n m₀) :: (.n i, .n i₀) :: (.t (.load a al k), .t x.t₀) :: ctxObs (ctxOf Γ κ c) c p (preObs T x.pre acc) x.bl)
          | _ => (acc, .stuck 8)
      | false => match T.get (s % B - 3) with
        | some o => ih (s / B) cs c p κ (k o) T m i ez ((.n a, .n (ρ (s % B - 3))) :: acc)
        | none => (acc, .stuck 2)
  | .loadIfAlive a k => match Nat.beq (s % B) 0 with
    | true => match kt.get a with
      | some o => ih (s / B) cs c p κ (k (some o)) T m i ez acc
      | none => (acc, .stuck 1)
    | false => match T.get (s % B - 3) with
      | some o => ih (s / B) cs c p κ (k (some o)) T m i ez ((.n a, .n (ρ (s % B - 3))) :: acc)
      | none => (acc, .stuck 2)
  | .update a _ f k => match T.get (s % B - 3) with
      | some o => match (f o).isFreed with
        | false => ih (s / B) cs c p κ (k ()) (T.set (s % B - 3) f) m i ez ((.n a, .n (ρ (s % B - 3))) :: acc)
        | true => (acc, .stuck 3)
      | none => (acc, .stuck 2)
  | .alloc o k => match o.isFreed with
    | false => match (T.ins m o).get m with
      | some _ => ih s cs c p κ (k (ρ m)) (T.ins m o) (m + 1) i ez acc
      | none => (acc, .stuck 6)
    | true => (acc, .stuck 3)
  | .fresh k => ih s cs c p κ (k (τ i)) T m (i + 1) ez acc
  | .handled own k => ih s cs c p κ (k (if own then (ctxOf Γ κ c).own else (ctxOf Γ κ c).handled)) T m i ez acc
  | .stack k => ih s cs c p κ (k ((c, p) :: (ctxOf Γ κ c).below)) T m i ez acc
  | .call c' hd _ _ k => match Nat.beq (s % B) 0 with
    | true => ih (s / B) cs c' p (.ret c p hd k κ) (D c') T m i ez acc
    | false => match cs with
      | [] => (acc, .stuck 7)
      | cut :: cs' => match cut with
        | .fn id args r => match c' with
          | .call f a => match f with
            | .builtin id' => match a.kw with
              | [] => ih (s / B) cs' c p κ (k (.ok (.ret (r.val (τ i))))) T m (i + 1) (i + 1) ((.hd hd, .hd none) :: (.id id', .id id) :: (.v (a.pos.map PV.of), .v args) :: acc)
              | _ :: _ => (acc, .stuck 8)
            | _ => (acc, .stuck 8)
          | _ => (acc, .stuck 8)
        | .swap _ _ _ => (acc, .stuck 8)
        | .use m₀ i₀ u => match Nat.ble (ez + u.fr) i with
          | false => (acc, .stuck 12)
          | true => match insN (u.new (tr u.nn fun j => ρ (m + j)) (tr u.nt fun j => τ (i + j))) u.nn 0 (putAll (u.post (tr u.nn fun j => ρ (m + j)) (tr u.nt fun j => τ (i + j))) T) m with
            | some q => ih (s / B) cs' c p κ (k (u.res (tr u.nn fun j => ρ (m + j)) (tr u.nt fun j => τ (i + j)))) q.1 q.2 (i + u.nt) (i + u.nt)
              ((.n m, .n m₀) :: (.n i, .n i₀) :: (.hd hd, .hd none) :: (.c c', .c u.code) :: ctxObs (ctxOf Γ κ c) c p (preObs T u.pre acc) u.below)
            | none => (acc, .stuck 10)
  | _ => (acc, .stuck 9)

noncomputable def simC (kt : TT) (st stT stF : Setting) (Γ : Ctx) (D : Code → Sem Fin) (ρ τ : Nat → Nat) : Nat → StepTy
  | 0 => fun _ _ _ _ _ _ _ _ _ _ acc => (acc, .stuck 0)
  | n + 1 => stepC kt st stT stF Γ D ρ τ (simC kt st stT stF Γ D ρ τ n)

/-- the first n objects f 0, f 1 .. as a tree -/
noncomputable def btF : Nat → Nat → (Nat → Obj) → BT
  | 0, _, _ => .nil
  | k + 1, n, f => match n with
    | 0 => .nil
    | n + 1 => .node (f 0) (btF k ((n + 1) / 2) fun j => f (2 * j + 1)) (btF k (n / 2) fun j => f (2 * j + 2))
noncomputable def nth : List Obj → Nat → Obj
  | [], _ => ⟨.none, none, .plain, ⟨[]⟩⟩
  | x :: l, n => match n with
    | 0 => x
    | n + 1 => nth l n
noncomputable def btL (l : List Obj) : BT := btF 8 l.length (nth l)
/-- what is looked at behind a run: how it stopped, and the objects at these virtual places -/
noncomputable def viewAt (is : List Nat) : Out → Option ((Fin × Pos) ⊕ Value) × List (Option Obj)
  | .fin f p T _ => (some (.inl (f, p)), is.map T.get)
  | .exc e T _ => (some (.inr e), is.map T.get)
  | .stuck _ => (none, [])
noncomputable def lhsOf (is : List Nat) (r : Res) := (r.1.map Prod.fst, viewAt is r.2)
noncomputable def rhsOf (x : Option ((Fin × Pos) ⊕ Value) × List (Option Obj)) (r : Res) := (r.1.map Prod.snd, x)
noncomputable def upd (f : Nat → Nat) (i v : Nat) : Nat → Nat := fun j => match Nat.beq j i with | true => v | false => f j
end Mine
end
section -- Snd
open PySem PySem.W
set_option Elab.async false
set_option linter.unusedVariables false
namespace Mine
open Sem (wp finPost)

theorem mem_preObs (T : BT) : ∀ (l : List (Nat × Obj)) (acc : List (Ob × Ob)), (∀ q ∈ acc, q ∈ preObs T l acc) ∧ ∀ q ∈ l, ((.o (T.get q.1), .o (some q.2)) : Ob × Ob) ∈ preObs T l acc
  | [], acc => ⟨fun _ h => h, fun _ h => nomatch h⟩
  | x :: l, acc => by
    obtain ⟨a, b⟩ := mem_preObs T l ((.o (T.get x.1), .o (some x.2)) :: acc)
    refine ⟨fun q hq => a q (List.mem_cons_of_mem _ hq), fun q hq => ?_⟩
    rcases List.mem_cons.mp hq with rfl | hq
    · exact a _ (List.mem_cons_self ..)
    · exact b q hq

theorem mem_ctxObs (Γ : Ctx) (c : Code) (p : Pos) (acc : List (Ob × Ob)) (x : Option (List (Code × Pos))) : ∀ q ∈ acc, q ∈ ctxObs Γ c p acc x := by
  intro q hq
  cases x with
  | none => exact hq
  | some bl => exact List.mem_cons_of_mem _ (List.mem_cons_of_mem _ (List.mem_cons_of_mem _ (List.mem_cons_of_mem _ hq)))
theorem simC_acc (kt : TT) (st stT stF : Setting) (Γ : Ctx) (D : Code → Sem Fin) (ρ τ : Nat → Nat) :
    ∀ (n s : Nat) (cs : List Cut) (c : Code) (p : Pos) (κ : Kont) (t : Sem Fin) (T : BT) (m i ez : Nat) (acc : List (Ob × Ob)) (q : Ob × Ob), q ∈ acc → q ∈ (simC kt st stT stF Γ D ρ τ n s cs c p κ t T m i ez acc).1
  | 0, _, _, _, _, _, _, _, _, _, _, _, _, h => h
  | n + 1, s, cs, c, p, κ, t, T, m, i, ez, acc, q, h => by
    have IH := simC_acc kt st stT stF Γ D ρ τ n
    show q ∈ (stepC kt st stT stF Γ D ρ τ (simC kt st stT stF Γ D ρ τ n) s cs c p κ t T m i ez acc).1
    unfold stepC
    repeat' split
    all_goals first
      | exact h
      | (refine IH _ _ _ _ _ _ _ _ _ _ _ q ?_; first
          | exact h
          | exact List.mem_cons_of_mem _ h
          | exact List.mem_cons_of_mem _ (List.mem_cons_of_mem _ h)
          | exact List.mem_cons_of_mem _ (List.mem_cons_of_mem _ (List.mem_cons_of_mem _ h))
          | exact List.mem_cons_of_mem _ (List.mem_cons_of_mem _ (List.mem_cons_of_mem _ (List.mem_cons_of_mem _ (mem_ctxObs _ _ _ _ _ q ((mem_preObs _ _ _).1 q h)))))
          | exact List.mem_cons_of_mem _ (List.mem_cons_of_mem _ (List.mem_cons_of_mem _ (mem_ctxObs _ _ _ _ _ q ((mem_preObs _ _ _).1 q h)))))

noncomputable def TT.Holds (h : Heap) : TT → Prop
  | .nil => True
  | .node k o l r => h.get? k = some o ∧ TT.Holds h l ∧ TT.Holds h r
theorem TT.Holds.get {h : Heap} : ∀ {t : TT}, TT.Holds h t → ∀ {a : Nat} {o : Obj}, t.get a = some o → h.get? a = some o
  | .nil, _, _, _, e => nomatch e
  | .node k x l r, H, a, o, e => by
    unfold TT.get at e
    cases q : Nat.beq a k with
    | true =>
      rw [q] at e
      have := Nat.eq_of_beq_eq_true q
      cases e
      rw [this]; exact H.1
    | false =>
      rw [q] at e
      cases b : Nat.blt a k with
      | true => rw [b] at e; exact TT.Holds.get H.2.1 e
      | false => rw [b] at e; exact TT.Holds.get H.2.2 e
noncomputable def TT.Under (n : Nat) : TT → Prop
  | .nil => True
  | .node k _ l r => k < n ∧ TT.Under n l ∧ TT.Under n r
theorem TT.Under.lt {n : Nat} : ∀ {t : TT}, TT.Under n t → ∀ {a : Nat} {o : Obj}, t.get a = some o → a < n
  | .nil, _, _, _, e => nomatch e
  | .node k x l r, H, a, o, e => by
    unfold TT.get at e
    cases q : Nat.beq a k with
    | true => exact (Nat.eq_of_beq_eq_true q) ▸ H.1
    | false =>
      rw [q] at e
      cases b : Nat.blt a k with
      | true => rw [b] at e; exact TT.Under.lt H.2.1 e
      | false => rw [b] at e; exact TT.Under.lt H.2.2 e

/-- what stays fixed through a call -/
structure Wd where
  M : Model
  kt : TT
  n₀ : Nat
  S : Shared
  low : TT.Under n₀ kt

variable (W : Wd)
noncomputable def Wd.sh (h : Heap) (tk : Nat) : Shared := { W.S with heap := h, toks := tk + 1 }
noncomputable def Wd.Top (h : Heap) : Prop := ∀ a o, W.kt.get a = some o → h.get? a = some o

/-- the heap bears the virtual heap T (m places, at ρ 0, ρ 1 ..); g of them were given with the heap h₀, the rest is new; all else of h₀ stands -/
structure Rp (h₀ : Heap) (g : Nat) (ρ : Nat → Nat) (T : BT) (m : Nat) (h : Heap) : Prop where
  top : W.Top h
  gm : g ≤ m
  own : ∀ i o, T.get i = some o → i < m ∧ h.get? (ρ i) = some o
  lt : ∀ i, i < m → ρ i < h.objs.size
  ge : ∀ i, i < m → W.n₀ ≤ ρ i
  inj : ∀ i j, i < m → j < m → ρ i = ρ j → i = j
  size : h₀.objs.size ≤ h.objs.size
  keep : ∀ b o, h₀.get? b = some o → (∀ i, i < g → b ≠ ρ i) → h.get? b = some o
  fresh : ∀ i, g ≤ i → i < m → h₀.objs.size ≤ ρ i

section
variable {W} {h₀ h : Heap} {g m : Nat} {ρ : Nat → Nat} {T : BT}
theorem Rp.congr (D : Rp W h₀ g ρ T m h) {ρ' : Nat → Nat} (e : ∀ j, j < m → ρ' j = ρ j) : Rp W h₀ g ρ' T m h where
  top := D.top
  gm := D.gm
  own := fun i o hi => ⟨(D.own i o hi).1, by rw [e i (D.own i o hi).1]; exact (D.own i o hi).2⟩
  lt := fun i hi => by rw [e i hi]; exact D.lt i hi
  ge := fun i hi => by rw [e i hi]; exact D.ge i hi
  inj := fun i j hi hj q => by rw [e i hi, e j hj] at q; exact D.inj i j hi hj q
  size := D.size
  keep := fun b o hb q => D.keep b o hb fun i hi => by have := q i hi; rwa [e i (Nat.lt_of_lt_of_le hi D.gm)] at this
  fresh := fun i hg hi => by rw [e i hi]; exact D.fresh i hg hi

/-- one more place, at a -/
noncomputable def setAt (ρ : Nat → Nat) (m a : Nat) : Nat → Nat := fun j => if j = m then a else ρ j
theorem setAt_old {ρ : Nat → Nat} {m a j : Nat} (h : j < m) : setAt ρ m a j = ρ j := if_neg (Nat.ne_of_lt h)
theorem setAt_new {ρ : Nat → Nat} {m a : Nat} : setAt ρ m a m = a := if_pos rfl

theorem Rp.alloc (D : Rp W h₀ g ρ T m h) (hn : W.n₀ ≤ h.objs.size) {o : Obj} (hf : o.isFreed = false) (hg : ((T.ins m o).get m).isSome = true) : Rp W h₀ g (setAt ρ m h.objs.size) (T.ins m o) (m + 1) (h.push o) where
  top := fun a o' e => Heap.get?_push_of_some _ (D.top a o' e)
  gm := Nat.le_succ_of_le D.gm
  own := fun i o' e => by
    rw [BT.get_ins o T m hg] at e
    by_cases hi : i = m
    · subst hi
      rw [if_pos rfl] at e
      cases e
      exact ⟨Nat.lt_succ_self _, by rw [setAt_new]; exact Heap.get?_push_size _ hf⟩
    · rw [if_neg hi] at e
      obtain ⟨a, b⟩ := D.own i o' e
      exact ⟨Nat.lt_succ_of_lt a, by rw [setAt_old a]; exact Heap.get?_push_of_some _ b⟩
  lt := fun i hi => by
    rw [Heap.size_push]
    rcases Nat.lt_succ_iff_lt_or_eq.mp hi with hi | rfl
    · rw [setAt_old hi]; exact Nat.lt_succ_of_lt (D.lt i hi)
    · rw [setAt_new]; exact Nat.lt_succ_self _
  ge := fun i hi => by
    rcases Nat.lt_succ_iff_lt_or_eq.mp hi with hi | rfl
    · rw [setAt_old hi]; exact D.ge i hi
    · rw [setAt_new]; exact hn
  inj := fun i j hi hj q => by
    rcases Nat.lt_succ_iff_lt_or_eq.mp hi with hi | rfl <;> rcases Nat.lt_succ_iff_lt_or_eq.mp hj with hj | rfl
    · rw [setAt_old hi, setAt_old hj] at q; exact D.inj i j hi hj q
    · rw [setAt_old hi, setAt_new] at q; exact absurd (D.lt i hi) (q ▸ Nat.lt_irrefl _)
    · rw [setAt_old hj, setAt_new] at q; exact absurd (D.lt j hj) (q ▸ Nat.lt_irrefl _)
    · rfl
  size := by rw [Heap.size_push]; exact Nat.le_succ_of_le D.size
  keep := fun b o' e q => Heap.get?_push_of_some _ (D.keep b o' e fun i hi => by have := q i hi; rwa [setAt_old (Nat.lt_of_lt_of_le hi D.gm)] at this)
  fresh := fun i hg' hi => by
    rcases Nat.lt_succ_iff_lt_or_eq.mp hi with hi | rfl
    · rw [setAt_old hi]; exact D.fresh i hg' hi
    · rw [setAt_new]; exact D.size

theorem Rp.update (D : Rp W h₀ g ρ T m h) {j : Nat} {o : Obj} {f : Obj → Obj} (e : T.get j = some o) (hf : (f o).isFreed = false) : Rp W h₀ g ρ (T.set j f) m (h.update (ρ j) f) := by
  obtain ⟨hj, ho⟩ := D.own j o e
  have hs : Heap.SameBut (ρ j) h (h.update (ρ j) f) := Heap.SameBut.update ..
  refine ⟨fun a o' ea => ?_, D.gm, fun i o' ei => ?_, fun i hi => by rw [hs.1]; exact D.lt i hi, D.ge, D.inj, by rw [hs.1]; exact D.size, fun b o' hb q => ?_, D.fresh⟩
  · have := W.low.lt ea
    rw [hs.2 a (Nat.ne_of_lt (Nat.lt_of_lt_of_le this (D.ge j hj)))]
    exact D.top a o' ea
  · rw [BT.get_set] at ei
    by_cases hi : i = j
    · subst hi
      rw [if_pos rfl, e] at ei
      cases ei
      exact ⟨hj, Heap.get?_update_self f ho hf⟩
    · rw [if_neg hi] at ei
      obtain ⟨a, b⟩ := D.own i o' ei
      refine ⟨a, ?_⟩
      rw [hs.2 _ fun q => hi (D.inj i j a hj q)]
      exact b
  · have ne : b ≠ ρ j := by
      by_cases hg : j < g
      · exact q j hg
      · exact Nat.ne_of_lt (Nat.lt_of_lt_of_le (Heap.lt_size hb) (D.fresh j (Nat.le_of_not_lt hg) hj))
    rw [hs.2 b ne]
    exact D.keep b o' hb q

theorem Rp.adopt (D : Rp W h₀ g ρ T m h) {o : Obj} (ho : h.get? (ρ m) = some o) (hn : W.n₀ ≤ ρ m) (hf : h₀.objs.size ≤ ρ m) (hd : ∀ i, i < m → ρ i ≠ ρ m) (hg : ((T.ins m o).get m).isSome = true) : Rp W h₀ g ρ (T.ins m o) (m + 1) h where
  top := D.top
  gm := Nat.le_succ_of_le D.gm
  own := fun i o' e => by
    rw [BT.get_ins o T m hg] at e
    by_cases hi : i = m
    · subst hi
      rw [if_pos rfl] at e
      cases e
      exact ⟨Nat.lt_succ_self _, ho⟩
    · rw [if_neg hi] at e
      obtain ⟨a, b⟩ := D.own i o' e
      exact ⟨Nat.lt_succ_of_lt a, b⟩
  lt := fun i hi => by
    rcases Nat.lt_succ_iff_lt_or_eq.mp hi with hi | rfl
    · exact D.lt i hi
    · exact Heap.lt_size ho
  ge := fun i hi => by
    rcases Nat.lt_succ_iff_lt_or_eq.mp hi with hi | rfl
    · exact D.ge i hi
    · exact hn
  inj := fun i j hi hj q => by
    rcases Nat.lt_succ_iff_lt_or_eq.mp hi with hi | rfl <;> rcases Nat.lt_succ_iff_lt_or_eq.mp hj with hj | rfl
    · exact D.inj i j hi hj q
    · exact absurd q (hd i hi)
    · exact absurd q.symm (hd j hj)
    · rfl
  size := D.size
  keep := D.keep
  fresh := fun i hg' hi => by
    rcases Nat.lt_succ_iff_lt_or_eq.mp hi with hi | rfl
    · exact D.fresh i hg' hi
    · exact hf

theorem insN_le {f : Nat → Obj} : ∀ {n j : Nat} {T : BT} {m : Nat} {q : BT × Nat}, insN f n j T m = some q → q.2 = m + n
  | 0, _, _, _, _, e => by cases e; rfl
  | n + 1, j, T, m, q, e => by
    unfold insN at e
    split at e
    · rw [insN_le e]; omega
    · cases e
theorem Rp.adoptN {f : Nat → Obj} : ∀ {n j : Nat} {T : BT} {m : Nat} {q : BT × Nat}, Rp W h₀ g ρ T m h →
    (∀ k, k < n → h.get? (ρ (m + k)) = some (f (j + k)) ∧ W.n₀ ≤ ρ (m + k) ∧ h₀.objs.size ≤ ρ (m + k) ∧ ∀ i, i < m + k → ρ i ≠ ρ (m + k)) → insN f n j T m = some q → Rp W h₀ g ρ q.1 q.2 h
  | 0, _, _, _, _, D, _, e => by cases e; exact D
  | n + 1, j, T, m, q, D, H, e => by
    unfold insN at e
    split at e
    · rename_i x hx
      obtain ⟨a, b, c, d⟩ := H 0 (Nat.succ_pos _)
      have D' := D.adopt (o := f j) a b c d (by rw [hx]; rfl)
      refine Rp.adoptN D' (fun k hk => ?_) e
      have z := H (k + 1) (Nat.succ_lt_succ hk)
      rw [show m + (k + 1) = m + 1 + k by omega, show j + (k + 1) = j + 1 + k by omega] at z
      exact z
    · cases e

theorem get_putAll : ∀ (l : List (Nat × Obj)) (T : BT) (i : Nat) (o : Obj), (putAll l T).get i = some o → (i, o) ∈ l ∨ ((∀ q ∈ l, q.1 ≠ i) ∧ T.get i = some o)
  | [], _, _, _, e => .inr ⟨fun _ h => (nomatch h), e⟩
  | x :: l, T, i, o, e => by
    rcases get_putAll l _ i o e with h | ⟨h1, h2⟩
    · exact .inl (List.mem_cons_of_mem _ h)
    · rw [BT.get_set] at h2
      by_cases hi : i = x.1
      · rw [if_pos hi] at h2
        cases hx : T.get x.1 with
        | none => rw [hx] at h2; cases h2
        | some y =>
          rw [hx] at h2
          cases h2
          exact .inl (by rw [hi]; exact List.mem_cons_self ..)
      · rw [if_neg hi] at h2
        refine .inr ⟨fun q hq => ?_, h2⟩
        rcases List.mem_cons.mp hq with rfl | hq
        · exact fun z => hi z.symm
        · exact h1 q hq
theorem putAll_has : ∀ (l : List (Nat × Obj)) (T : BT) (i : Nat), ((putAll l T).get i).isSome = (T.get i).isSome
  | [], _, _ => rfl
  | x :: l, T, i => by
    show ((putAll l (T.set x.1 fun _ => x.2)).get i).isSome = _
    rw [putAll_has l, BT.get_set]
    by_cases hi : i = x.1
    · rw [if_pos hi, hi]; cases T.get x.1 <;> rfl
    · rw [if_neg hi]
theorem Rp.posted (D : Rp W h₀ g ρ T m h) {h' : Heap} {l : List (Nat × Obj)} (sz : h.objs.size ≤ h'.objs.size) (hl : ∀ q ∈ l, q.1 < m) (hp : ∀ q ∈ l, h'.get? (ρ q.1) = some q.2)
    (hk : ∀ b o, h.get? b = some o → (∀ q ∈ l, b ≠ ρ q.1) → h'.get? b = some o) : Rp W h₀ g ρ (putAll l T) m h' where
  top := fun a o e => hk a o (D.top a o e) fun q hq => Nat.ne_of_lt (Nat.lt_of_lt_of_le (W.low.lt e) (D.ge _ (hl q hq)))
  gm := D.gm
  own := fun i o e => by
    rcases get_putAll l T i o e with hm | ⟨h1, h2⟩
    · exact ⟨hl _ hm, hp _ hm⟩
    · obtain ⟨a, b⟩ := D.own i o h2
      exact ⟨a, hk _ _ b fun q hq z => h1 q hq (D.inj _ _ (hl q hq) a z.symm)⟩
  lt := fun i hi => Nat.lt_of_lt_of_le (D.lt i hi) sz
  ge := D.ge
  inj := D.inj
  size := Nat.le_trans D.size sz
  keep := fun b o e q => hk b o (D.keep b o e q) fun x hx => by
    by_cases hg : x.1 < g
    · exact q _ hg
    · exact Nat.ne_of_lt (Nat.lt_of_lt_of_le (Heap.lt_size e) (D.fresh _ (Nat.le_of_not_lt hg) (hl x hx)))
  fresh := D.fresh
end

/-- behind an answered call -/
structure UPost (ρ : Nat → Nat) (u : Use) (ν θ : Nat → Nat) (h h' : Heap) : Prop where
  size : h.objs.size ≤ h'.objs.size
  post : ∀ q ∈ u.post ν θ, h'.get? (ρ q.1) = some q.2
  keep : ∀ b o, h.get? b = some o → (∀ q ∈ u.post ν θ, b ≠ ρ q.1) → h'.get? b = some o
  new : ∀ j, j < u.nn → h'.get? (ν j) = some (u.new ν θ j) ∧ h.objs.size ≤ ν j
  inj : ∀ i j, i < u.nn → j < u.nn → ν i = ν j → i = j

noncomputable def SpecI (ρ : Nat → Nat) (u : Use) : Prop := ∀ (p : Pos) (h : Heap) (tk : Nat) (R : Result → Shared → Prop), W.Top h → W.n₀ ≤ h.objs.size → (∀ q ∈ u.pre, h.get? (ρ q.1) = some q.2 ∧ W.n₀ ≤ ρ q.1) →
  (∀ q ∈ u.pre, ∀ q' ∈ u.pre, ρ q.1 = ρ q'.1 → q.1 = q'.1) →
  (∀ ν θ h' tk', (∀ j, u.nn ≤ j → ν j = 0) → (∀ j, u.nt ≤ j → θ j = 0) → UPost ρ u ν θ h h' → R (u.res ν θ) (W.sh h' tk')) →
  ∀ Γ, Γ.code = u.code → (∀ bl, u.below = some bl → Γ = ⟨u.code, none, none, bl, none⟩) → wpCode W.M Γ R p (W.sh h tk)

noncomputable def FnOk (id : String) (args : List PV) (r : PV) : Prop := ∀ vals : List Value, vals.map PV.of = args → ∀ (Γ : Ctx) (p : Pos) (h : Heap) (tk : Nat) (R : Result → Shared → Prop), Γ.code = .call (.builtin id) ⟨vals, []⟩ → W.Top h → W.n₀ ≤ h.objs.size →
  (∀ t h' tk', h.objs.size ≤ h'.objs.size → (∀ b o, h.get? b = some o → h'.get? b = some o) → R (.ok (.ret (r.val t))) (W.sh h' tk')) → wpCode W.M Γ R p (W.sh h tk)

noncomputable def SwapI (ρ : Nat → Nat) (x : Swap) : Prop := ∀ (Γ : Ctx) (p : Pos) (h : Heap) (tk : Nat) (Q : Fin → Pos → Shared → Prop) (E : Value → Pos → Shared → Prop), W.Top h → (∀ q ∈ x.pre, h.get? (ρ q.1) = some q.2) →
  (∀ bl, x.bl = some bl → (Γ.code, p) :: Γ.below = bl ∧ Γ.handled = none ∧ Γ.own = none ∧ Γ.past = none) → wp W.M Γ x.t₁ Q E p (W.sh h tk) → wp W.M Γ x.t₀ Q E p (W.sh h tk)

inductive CutF where
  | fn (id : String) (args : List PV) (r : PV)
  | use (m i : Nat) (u : (Nat → Nat) → (Nat → Nat) → Use)
  | swap (m i : Nat) (x : (Nat → Nat) → (Nat → Nat) → Swap)
noncomputable def CutF.at (ρ τ : Nat → Nat) : CutF → Cut
  | .fn id args r => .fn id args r
  | .use m i u => .use m i (u (tr m ρ) (tr i τ))
  | .swap m i x => .swap m i (x (tr m ρ) (tr i τ))
/-- the last tokens are drawn: none is naught, no two are one -/
noncomputable def TokP (τ : Nat → Nat) (i fr : Nat) : Prop := (∀ j, i - fr ≤ j → j < i → 0 < τ j) ∧ (∀ j k, i - fr ≤ j → j < k → k < i → τ j ≠ τ k)
noncomputable def CutF.Ok : CutF → Prop
  | .fn id args r => FnOk W id args r
  | .use m i u => (∀ ρ τ, TokP τ i (u ρ τ).fr → SpecI W ρ (u ρ τ)) ∧ (∀ ρ τ ν θ, ∀ q ∈ (u ρ τ).post ν θ, ∃ q' ∈ (u ρ τ).pre, q'.1 = q.1)
  | .swap m i x => ∀ ρ τ, SwapI W ρ (x ρ τ)
end Mine
end
section -- Snd2
open PySem PySem.W
set_option Elab.async false
set_option linter.unusedVariables false
namespace Mine
open Sem (wp finPost)
variable (W : Wd) (Γ : Ctx) (R : Result → Shared → Prop) (h₀ : Heap) (g : Nat)

noncomputable def endR : Kont → Result → Shared → Prop
  | .base => R
  | .ret c₀ p₀ _ k κ => fun r s => wp W.M (ctxOf Γ κ c₀) (k r) (finPost W.M (ctxOf Γ κ c₀) (endR κ)) (fun e _ s' => endR κ (.error e) s') p₀ s
noncomputable def Means (κ : Kont) (c : Code) (p : Pos) (t : Sem Fin) (s : Shared) : Prop :=
  wp W.M (ctxOf Γ κ c) t (finPost W.M (ctxOf Γ κ c) (endR W Γ R κ)) (fun e _ s' => endR W Γ R κ (.error e) s') p s

/-- the end of a run is good -/
noncomputable def Fine (ρ : Nat → Nat) : Out → Prop
  | .fin (.done f) _ T m => ∀ h tk, Rp W h₀ g ρ T m h → R (.ok f) (W.sh h tk)
  | .fin (.again c) p T m => ∀ h tk, Rp W h₀ g ρ T m h → wpCode W.M (Γ.goto c) R p (W.sh h tk)
  | .exc e T m => ∀ h tk, Rp W h₀ g ρ T m h → R (.error e) (W.sh h tk)
  | .stuck _ => False
noncomputable def Good (ρ : Nat → Nat) (r : Res) : Prop := (∀ q ∈ r.1, q.1 = q.2) ∧ Fine W Γ R h₀ g ρ r.2

theorem ctx_goto (κ : Kont) (c c' : Code) : (ctxOf Γ κ c).goto c' = ctxOf Γ κ c' := by cases κ <;> rfl
theorem ctx_code (κ : Kont) (c : Code) : (ctxOf Γ κ c).code = c := by cases κ <;> rfl
theorem means_code {κ : Kont} {c : Code} {p : Pos} {s : Shared} (h : Means W Γ R κ c p (W.M.den c) s) : wpCode W.M (ctxOf Γ κ c) (endR W Γ R κ) p s := by
  rw [wpCode_iff_wp, ctx_code]; exact h
theorem tr_eq {n : Nat} {f f' : Nat → Nat} (h : ∀ j, j < n → f j = f' j) : tr n f = tr n f' := by
  funext j
  unfold tr
  cases q : Nat.blt j n with
  | true => exact h j (Nat.le_of_ble_eq_true q)
  | false => rfl
theorem tr_id {n : Nat} {f : Nat → Nat} (h : ∀ j, n ≤ j → f j = 0) : tr n f = f := by
  funext j
  unfold tr
  cases q : Nat.blt j n with
  | true => rfl
  | false =>
    refine (h j (Nat.le_of_not_lt fun z => ?_)).symm
    have : Nat.blt j n = true := Nat.ble_eq_true_of_le z
    rw [this] at q; cases q

/-- the tokens from ez on are drawn one behind the other -/
noncomputable def TokI (τ : Nat → Nat) (ez i tk : Nat) : Prop := ∀ j, ez ≤ j → j < i → 0 < τ j ∧ τ j + (i - j) = tk + 1
theorem TokI.none (τ : Nat → Nat) (i tk : Nat) : TokI τ i i tk := fun j a b => absurd b (Nat.not_lt.mpr a)
theorem TokI.draw {τ : Nat → Nat} {ez i tk : Nat} (h : TokI τ ez i tk) : TokI (setAt τ i (tk + 1)) ez (i + 1) (tk + 1) := fun j a b => by
  rcases Nat.lt_succ_iff_lt_or_eq.mp b with b | rfl
  · rw [setAt_old b]
    have := h j a b
    omega
  · rw [setAt_new]
    omega
theorem TokI.tokP {τ : Nat → Nat} {ez i tk fr : Nat} (h : TokI τ ez i tk) (hf : ez + fr ≤ i) : TokP (tr i τ) i fr := by
  have e : ∀ j, j < i → tr i τ j = τ j := fun j hj => by unfold tr; rw [show Nat.blt j i = true from Nat.ble_eq_true_of_le hj]
  refine ⟨fun j a b => ?_, fun j k a b c => ?_⟩
  · rw [e j b]
    exact (h j (by omega) b).1
  · rw [e j (by omega), e k c]
    have h1 := h j (by omega) (by omega)
    have h2 := h k (by omega) c
    omega
section
variable {W Γ R h₀ g} (pz : Bool) (hb : W.n₀ ≤ h₀.objs.size) {st stT stF : Setting} (hst : st = ⟨W.M.prog, W.M.w.params⟩) (hTF : st = stT ∨ st = stF) {D : Code → Sem Fin} (hD : D = W.M.den)
include hb hst hTF hD
omit hb hst hTF hD in
theorem forkAt_some {kt : TT} {tT tF : Sem Fin} {q : (Sem Fin × Sem Fin) × (Nat × Nat)} (h : forkAt kt tT tF = some q) :
    ∃ al kT al' kF o, tT = .load q.2.1 al kT ∧ tF = .load q.2.2 al' kF ∧ kt.get q.2.1 = some o ∧ kT o = q.1.1 ∧ kF o = q.1.2 := by
  unfold forkAt at h
  split at h
  · split at h
    · split at h
      · rename_i e
        cases h
        exact ⟨_, _, _, _, _, rfl, rfl, e, rfl, rfl⟩
      · cases h
    · cases h
  · cases h
theorem sound : ∀ (n s : Nat) (cs : List CutF) (c : Code) (p : Pos) (κ : Kont) (t : Sem Fin) (T : BT) (m i ez : Nat) (h : Heap) (tk : Nat) (ρ₀ τ₀ : Nat → Nat), (∀ f ∈ cs, CutF.Ok W f) → Rp W h₀ g ρ₀ T m h → TokI τ₀ ez i tk → (∀ j, W.n₀ ≤ ρ₀ j) → (pz = true → cs = [] ∧ ∀ j, 0 < τ₀ j) →
    (∀ ρ τ, (∀ j, W.n₀ ≤ ρ j) → (pz = true → ∀ j, 0 < τ j) → (∀ j, j < m → ρ j = ρ₀ j) → (∀ j, j < i → τ j = τ₀ j) → ∃ acc, Good W Γ R h₀ g ρ (simC W.kt st stT stF Γ D ρ τ n s (cs.map (CutF.at ρ τ)) c p κ t T m i ez acc)) →
    Means W Γ R κ c p t (W.sh h tk)
  | 0, s, cs, c, p, κ, t, T, m, i, ez, h, tk, ρ₀, τ₀, _, _, _, hN, hZ, H => by
    obtain ⟨acc, _, x⟩ := H ρ₀ τ₀ hN (fun z => (hZ z).2) (fun _ _ => rfl) (fun _ _ => rfl)
    exact x.elim
  | n + 1, s, cs, c, p, κ, t, T, m, i, ez, h, tk, ρ₀, τ₀, hcs, D0, hE, hN, hZ, H => by
    have IH := sound n
    have A := simC_acc W.kt st stT stF Γ D
    have H' : ∀ ρ τ, (∀ j, W.n₀ ≤ ρ j) → (pz = true → ∀ j, 0 < τ j) → (∀ j, j < m → ρ j = ρ₀ j) → (∀ j, j < i → τ j = τ₀ j) → ∃ acc, Good W Γ R h₀ g ρ (stepC W.kt st stT stF Γ D ρ τ (simC W.kt st stT stF Γ D ρ τ n) s (cs.map (CutF.at ρ τ)) c p κ t T m i ez acc) := H
    clear H
    have H₀ := H' ρ₀ τ₀ hN (fun z => (hZ z).2) (fun _ _ => rfl) (fun _ _ => rfl)
    cases t with
    | pure fin =>
      cases fin with
      | done f =>
        cases κ with
        | base =>
          obtain ⟨acc, _, x⟩ := H₀
          exact x h tk D0
        | ret c₀ p₀ hd k κ =>
          exact IH s cs c₀ p₀ κ (k (.ok f)) T m i ez h tk ρ₀ τ₀ hcs D0 hE hN hZ H'
      | again c' =>
        show (c'.quiet = true ∧ wpCode W.M ((ctxOf Γ κ c).goto c') (endR W Γ R κ) p (W.sh h tk))
        rw [ctx_goto]
        cases q : c'.quiet with
        | false =>
          obtain ⟨acc, _, x⟩ := H₀
          simp only [stepC, q] at x
          exact x.elim
        | true =>
          refine ⟨rfl, ?_⟩
          simp only [stepC, q] at H' H₀
          cases κ with
          | base =>
            cases b : Nat.beq (s % B) 1 with
            | true =>
              simp only [b] at H₀
              obtain ⟨acc, _, x⟩ := H₀
              exact x h tk D0
            | false =>
              simp only [b] at H'
              refine means_code W Γ R ?_
              rw [← hD]
              exact IH s cs c' p .base (D c') T m i ez h tk ρ₀ τ₀ hcs D0 hE hN hZ H'
          | ret c₀ p₀ hd k κ =>
            refine means_code W Γ R ?_
            rw [← hD]
            exact IH s cs c' p (.ret c₀ p₀ hd k κ) (D c') T m i ez h tk ρ₀ τ₀ hcs D0 hE hN hZ H'
    | raise e =>
      cases κ with
      | base =>
        obtain ⟨acc, _, x⟩ := H₀
        exact x h tk D0
      | ret c₀ p₀ hd k κ => exact IH s cs c₀ p₀ κ (k (.error e)) T m i ez h tk ρ₀ τ₀ hcs D0 hE hN hZ H'
    | rule tag k => exact IH s cs c p κ (k ()) T m i ez h tk ρ₀ τ₀ hcs D0 hE hN hZ H'
    | «at» p' k => exact IH s cs c p' κ (k ()) T m i ez h tk ρ₀ τ₀ hcs D0 hE hN hZ H'
    | point l k => exact IH s cs c p κ (k ()) T m i ez h tk ρ₀ τ₀ hcs D0 hE hN hZ H'
    | ask k =>
      show Means W Γ R κ c p (k ⟨W.M.prog, W.M.w.params⟩) (W.sh h tk)
      rw [← hst]
      cases b : Nat.beq (s % B) 0 with
      | true =>
        simp only [stepC, b] at H'
        exact IH (s / B) cs c p κ (k st) T m i ez h tk ρ₀ τ₀ hcs D0 hE hN hZ H'
      | false =>
        cases b2 : Nat.beq (s % B) 2 with
        | true =>
          simp only [stepC, b, b2] at H' H₀
          have e : k st = k stT := by
            rcases hTF with e | e
            · rw [e]
            · obtain ⟨acc, y, _⟩ := H₀
              have z := y _ (A ρ₀ τ₀ n _ _ _ _ _ _ _ _ _ _ _ _ (List.mem_cons_self ..))
              have z' : k stT = k stF := by simpa using z
              rw [e, z']
          rw [e]
          refine IH (s / B) cs c p κ (k stT) T m i ez h tk ρ₀ τ₀ hcs D0 hE hN hZ fun ρ τ hge hp hρ hτ => ?_
          obtain ⟨acc, y⟩ := H' ρ τ hge hp hρ hτ
          exact ⟨_, y⟩
        | false =>
          simp only [stepC, b, b2] at H' H₀
          cases e : forkAt W.kt (k stT) (k stF) with
          | none =>
            simp only [e] at H₀
            obtain ⟨acc, _, x⟩ := H₀
            exact x.elim
          | some q =>
            simp only [e] at H' H₀
            obtain ⟨⟨tT, tF⟩, a, a'⟩ := q
            obtain ⟨al, kT, al', kF, o, e1, e2, e3, e4, e5⟩ := forkAt_some e
            have zz : a = a' ∧ tT = tF := by
              obtain ⟨acc, y, _⟩ := H₀
              have z1 := y _ (A ρ₀ τ₀ n _ _ _ _ _ _ _ _ _ _ _ _ (List.mem_cons_self ..))
              have z2 := y _ (A ρ₀ τ₀ n _ _ _ _ _ _ _ _ _ _ _ _ (List.mem_cons_of_mem _ (List.mem_cons_self ..)))
              exact ⟨by simpa using z1, by simpa using z2⟩
            obtain ⟨rfl, rfl⟩ := zz
            have M : Means W Γ R κ c p tT (W.sh h tk) := by
              refine IH (s / B) cs c p κ tT T m i ez h tk ρ₀ τ₀ hcs D0 hE hN hZ fun ρ τ hge hp hρ hτ => ?_
              obtain ⟨acc, y⟩ := H' ρ τ hge hp hρ hτ
              exact ⟨_, y⟩
            rcases hTF with eT | eF
            · rw [eT, e1]
              show ∃ o, h.get? a = some o ∧ Means W Γ R κ c p (kT o) (W.sh h tk)
              exact ⟨o, D0.top a o e3, by rw [e4]; exact M⟩
            · rw [eF, e2]
              show ∃ o, h.get? a = some o ∧ Means W Γ R κ c p (kF o) (W.sh h tk)
              exact ⟨o, D0.top a o e3, by rw [e5]; exact M⟩
    | load a q k =>
      cases b : Nat.beq (s % B) 0 with
      | true =>
        simp only [stepC, b] at H' H₀
        cases e : W.kt.get a with
        | none =>
          simp only [e] at H₀
          obtain ⟨acc, _, x⟩ := H₀
          exact x.elim
        | some o =>
          simp only [e] at H'
          show ∃ o, h.get? a = some o ∧ Means W Γ R κ c p (k o) (W.sh h tk)
          exact ⟨o, D0.top a o e, IH (s / B) cs c p κ (k o) T m i ez h tk ρ₀ τ₀ hcs D0 hE hN hZ H'⟩
      | false =>
        cases b2 : Nat.beq (s % B) 2 with
        | true =>
          simp only [stepC, b, b2] at H' H₀
          cases cs with
          | nil =>
            simp only [List.map_nil] at H₀
            obtain ⟨acc, _, x⟩ := H₀
            exact x.elim
          | cons f cs =>
            have hcs' : ∀ f ∈ cs, CutF.Ok W f := fun f hf => hcs f (List.mem_cons_of_mem _ hf)
            have hc1 := hcs f (List.mem_cons_self ..)
            cases f with
            | fn id args r => obtain ⟨acc, _, x⟩ := H₀; exact x.elim
            | use m₀ i₀ u => obtain ⟨acc, _, x⟩ := H₀; exact x.elim
            | swap m₀ i₀ X =>
              simp only [List.map_cons, CutF.at] at H' H₀
              obtain ⟨acc, y, x⟩ := H₀
              have ob : ∀ z ∈ ((.n m, .n m₀) :: (.n i, .n i₀) :: (.t (.load a q k), .t (X (tr m₀ ρ₀) (tr i₀ τ₀)).t₀) :: ctxObs (ctxOf Γ κ c) c p (preObs T (X (tr m₀ ρ₀) (tr i₀ τ₀)).pre acc) (X (tr m₀ ρ₀) (tr i₀ τ₀)).bl : List (Ob × Ob)), z.1 = z.2 := fun z hz => y z (A ρ₀ τ₀ n _ _ _ _ _ _ _ _ _ _ _ z hz)
              simp only [List.forall_mem_cons, Ob.n.injEq, Ob.t.injEq] at ob
              obtain ⟨em, ei, et, octx⟩ := ob
              subst em ei
              have opre := fun z hz => octx z (mem_ctxObs _ _ _ _ _ z hz)
              have pre : ∀ q ∈ (X (tr m ρ₀) (tr i τ₀)).pre, T.get q.1 = some q.2 := fun q hq => by
                have := opre _ ((mem_preObs T _ acc).2 q hq)
                simpa using this
              have trm : ∀ j, j < m → tr m ρ₀ j = ρ₀ j := fun j hj => by unfold tr; rw [show Nat.blt j m = true from Nat.ble_eq_true_of_le hj]
              unfold Means
              rw [et]
              refine hc1 (tr m ρ₀) (tr i τ₀) (ctxOf Γ κ c) p h tk _ _ D0.top (fun q hq => ?_) (fun bl hbl => ?_) ?_
              · rw [trm _ (D0.own _ _ (pre q hq)).1]
                exact (D0.own _ _ (pre q hq)).2
              · rw [hbl] at octx
                have o4 := fun z hz => octx z hz
                simp only [ctxObs, List.forall_mem_cons, Ob.hd.injEq, Ob.bl.injEq] at o4
                obtain ⟨eh, eo, ep, ebl, _⟩ := o4
                rw [ctx_code]
                exact ⟨ebl, eh, eo, ep⟩
              · refine IH (s / B) cs c p κ (X (tr m ρ₀) (tr i τ₀)).t₁ T m i ez h tk ρ₀ τ₀ hcs' D0 hE hN (fun z => absurd (hZ z).1 (by simp)) fun ρ τ hge hp hρ hτ => ?_
                have H1 := H' ρ τ hge hp hρ hτ
                rw [tr_eq hρ, tr_eq hτ] at H1
                obtain ⟨acc', y'⟩ := H1
                exact ⟨_, y'⟩
        | false =>
          show ∃ o, h.get? a = some o ∧ Means W Γ R κ c p (k o) (W.sh h tk)
          simp only [stepC, b, b2] at H' H₀
          cases e : T.get (s % B - 3) with
          | none =>
            simp only [e] at H₀
            obtain ⟨acc, _, x⟩ := H₀
            exact x.elim
          | some o =>
            simp only [e] at H' H₀
            have z : a = ρ₀ (s % B - 3) := by
              obtain ⟨acc, y, _⟩ := H₀
              have z := y _ (A ρ₀ τ₀ n _ _ _ _ _ _ _ _ _ _ _ _ (List.mem_cons_self ..))
              simpa using z
            refine ⟨o, by rw [z]; exact (D0.own _ _ e).2, IH (s / B) cs c p κ (k o) T m i ez h tk ρ₀ τ₀ hcs D0 hE hN hZ fun ρ τ hge hp hρ hτ => ?_⟩
            obtain ⟨acc, y⟩ := H' ρ τ hge hp hρ hτ
            exact ⟨_, y⟩
    | loadIfAlive a k =>
      show Means W Γ R κ c p (k (h.get? a)) (W.sh h tk)
      cases b : Nat.beq (s % B) 0 with
      | true =>
        simp only [stepC, b] at H' H₀
        cases e : W.kt.get a with
        | none =>
          simp only [e] at H₀
          obtain ⟨acc, _, x⟩ := H₀
          exact x.elim
        | some o =>
          simp only [e] at H'
          rw [D0.top a o e]
          exact IH (s / B) cs c p κ (k (some o)) T m i ez h tk ρ₀ τ₀ hcs D0 hE hN hZ H'
      | false =>
        simp only [stepC, b] at H' H₀
        cases e : T.get (s % B - 3) with
        | none =>
          simp only [e] at H₀
          obtain ⟨acc, _, x⟩ := H₀
          exact x.elim
        | some o =>
          simp only [e] at H' H₀
          have z : a = ρ₀ (s % B - 3) := by
            obtain ⟨acc, y, _⟩ := H₀
            have z := y _ (A ρ₀ τ₀ n _ _ _ _ _ _ _ _ _ _ _ _ (List.mem_cons_self ..))
            simpa using z
          rw [z, (D0.own _ _ e).2]
          refine IH (s / B) cs c p κ (k (some o)) T m i ez h tk ρ₀ τ₀ hcs D0 hE hN hZ fun ρ τ hge hp hρ hτ => ?_
          obtain ⟨acc, y⟩ := H' ρ τ hge hp hρ hτ
          exact ⟨_, y⟩
    | update a q f k =>
      simp only [stepC] at H' H₀
      cases e : T.get (s % B - 3) with
      | none =>
        simp only [e] at H₀
        obtain ⟨acc, _, x⟩ := H₀
        exact x.elim
      | some o =>
        simp only [e] at H' H₀
        cases fr : (f o).isFreed with
        | true =>
          simp only [fr] at H₀
          obtain ⟨acc, _, x⟩ := H₀
          exact x.elim
        | false =>
          simp only [fr] at H' H₀
          have z : a = ρ₀ (s % B - 3) := by
            obtain ⟨acc, y, _⟩ := H₀
            have z := y _ (A ρ₀ τ₀ n _ _ _ _ _ _ _ _ _ _ _ _ (List.mem_cons_self ..))
            simpa using z
          show (h.get? a).isSome ∧ Means W Γ R κ c p (k ()) (W.sh (h.update a f) tk)
          refine ⟨by rw [z, (D0.own _ _ e).2]; rfl, ?_⟩
          rw [z]
          refine IH (s / B) cs c p κ (k ()) _ m i ez _ tk ρ₀ τ₀ hcs (D0.update e fr) hE hN hZ fun ρ τ hge hp hρ hτ => ?_
          obtain ⟨acc, y⟩ := H' ρ τ hge hp hρ hτ
          exact ⟨_, y⟩
    | alloc o k =>
      simp only [stepC] at H' H₀
      cases fr : o.isFreed with
      | true =>
        simp only [fr] at H₀
        obtain ⟨acc, _, x⟩ := H₀
        exact x.elim
      | false =>
        simp only [fr] at H' H₀
        cases e : (T.ins m o).get m with
        | none =>
          simp only [e] at H₀
          obtain ⟨acc, _, x⟩ := H₀
          exact x.elim
        | some x =>
          simp only [e] at H'
          show Means W Γ R κ c p (k h.objs.size) (W.sh (h.push o) tk)
          refine IH s cs c p κ (k h.objs.size) _ (m + 1) i ez _ tk (setAt ρ₀ m h.objs.size) τ₀ hcs (D0.alloc (Nat.le_trans hb D0.size) fr (by rw [e]; rfl)) hE (fun j => by unfold setAt; split; exact Nat.le_trans hb D0.size; exact hN j) hZ fun ρ τ hge hp hρ hτ => ?_
          obtain ⟨acc, y⟩ := H' ρ τ hge hp (fun j hj => by rw [hρ j (Nat.lt_succ_of_lt hj), setAt_old hj]) hτ
          rw [hρ m (Nat.lt_succ_self _), setAt_new] at y
          exact ⟨acc, y⟩
    | fresh k =>
      simp only [stepC] at H'
      show Means W Γ R κ c p (k (tk + 1)) (W.sh h (tk + 1))
      refine IH s cs c p κ (k (tk + 1)) T m (i + 1) ez h (tk + 1) ρ₀ (setAt τ₀ i (tk + 1)) hcs D0 hE.draw hN (fun z => ⟨(hZ z).1, fun j => by unfold setAt; split; exact Nat.succ_pos _; exact (hZ z).2 j⟩) fun ρ τ hge hp hρ hτ => ?_
      obtain ⟨acc, y⟩ := H' ρ τ hge hp hρ (fun j hj => by rw [hτ j (Nat.lt_succ_of_lt hj), setAt_old hj])
      rw [hτ i (Nat.lt_succ_self _), setAt_new] at y
      exact ⟨acc, y⟩
    | handled own k => exact IH s cs c p κ (k (if own then (ctxOf Γ κ c).own else (ctxOf Γ κ c).handled)) T m i ez h tk ρ₀ τ₀ hcs D0 hE hN hZ H'
    | stack k =>
      show Means W Γ R κ c p (k (((ctxOf Γ κ c).code, p) :: (ctxOf Γ κ c).below)) (W.sh h tk)
      rw [ctx_code]
      exact IH s cs c p κ (k ((c, p) :: (ctxOf Γ κ c).below)) T m i ez h tk ρ₀ τ₀ hcs D0 hE hN hZ H'
    | call c' hd gd l k =>
      show wpCode W.M ((ctxOf Γ κ c).enter c' hd p) (fun r s' => Means W Γ R κ c p (k r) s') p (W.sh h tk)
      cases b : Nat.beq (s % B) 0 with
      | true =>
        simp only [stepC, b] at H'
        have x := IH (s / B) cs c' p (.ret c p hd k κ) (D c') T m i ez h tk ρ₀ τ₀ hcs D0 hE hN hZ H'
        rw [hD] at x
        exact means_code W Γ R x
      | false =>
        cases cs with
        | nil =>
          simp only [stepC, b, List.map_nil] at H₀
          obtain ⟨acc, _, x⟩ := H₀
          exact x.elim
        | cons cf cs =>
          have hc1 := hcs cf (List.mem_cons_self ..)
          have hcs' : ∀ f ∈ cs, CutF.Ok W f := fun f hf => hcs f (List.mem_cons_of_mem _ hf)
          cases cf with
          | fn id args r =>
            simp only [stepC, b, List.map_cons, CutF.at] at H' H₀
            cases c' with
            | call f a =>
              cases f with
              | builtin id' =>
                obtain ⟨ps, kw⟩ := a
                cases kw with
                | nil =>
                  simp only at H' H₀
                  have e1 : id' = id := by
                    obtain ⟨acc, y, _⟩ := H₀
                    have z := y _ (A ρ₀ τ₀ n _ _ _ _ _ _ _ _ _ _ _ _ (List.mem_cons_of_mem _ (List.mem_cons_self ..)))
                    simpa using z
                  have e2 : ps.map PV.of = args := by
                    obtain ⟨acc, y, _⟩ := H₀
                    have z := y _ (A ρ₀ τ₀ n _ _ _ _ _ _ _ _ _ _ _ _ (List.mem_cons_of_mem _ (List.mem_cons_of_mem _ (List.mem_cons_self ..))))
                    simpa using z
                  subst e1
                  refine hc1 ps e2 _ p h tk _ rfl D0.top (Nat.le_trans hb D0.size) fun t h' tk' hs hk => ?_
                  have D' : Rp W h₀ g ρ₀ T m h' := D0.posted (l := []) hs (fun _ z => (nomatch z)) (fun _ z => (nomatch z)) fun b o e _ => hk b o e
                  refine IH (s / B) cs c p κ _ T m (i + 1) (i + 1) h' tk' ρ₀ (setAt τ₀ i t) hcs' D' (TokI.none _ _ _) hN (fun z => absurd (hZ z).1 (by simp)) fun ρ τ hge hp hρ hτ => ?_
                  obtain ⟨acc, y⟩ := H' ρ τ hge hp hρ (fun j hj => by rw [hτ j (Nat.lt_succ_of_lt hj), setAt_old hj])
                  rw [hτ i (Nat.lt_succ_self _), setAt_new] at y
                  exact ⟨_, y⟩
                | cons => simp only at H₀; obtain ⟨acc, _, x⟩ := H₀; exact x.elim
              | _ => simp only at H₀; obtain ⟨acc, _, x⟩ := H₀; exact x.elim
            | _ => simp only at H₀; obtain ⟨acc, _, x⟩ := H₀; exact x.elim
          | swap m₀ i₀ X => simp only [stepC, b, List.map_cons, CutF.at] at H₀; obtain ⟨acc, _, x⟩ := H₀; exact x.elim
          | use m₀ i₀ u =>
            obtain ⟨spec, sub⟩ := hc1
            simp only [stepC, b, List.map_cons, CutF.at] at H' H₀
            obtain ⟨acc, y, x⟩ := H₀
            cases efr : Nat.ble (ez + (u (tr m₀ ρ₀) (tr i₀ τ₀)).fr) i with
            | false => simp only [efr] at x; exact x.elim
            | true =>
            simp only [efr] at x y
            cases e0 : insN ((u (tr m₀ ρ₀) (tr i₀ τ₀)).new (tr (u (tr m₀ ρ₀) (tr i₀ τ₀)).nn fun j => ρ₀ (m + j)) (tr (u (tr m₀ ρ₀) (tr i₀ τ₀)).nt fun j => τ₀ (i + j))) (u (tr m₀ ρ₀) (tr i₀ τ₀)).nn 0 (putAll ((u (tr m₀ ρ₀) (tr i₀ τ₀)).post (tr (u (tr m₀ ρ₀) (tr i₀ τ₀)).nn fun j => ρ₀ (m + j)) (tr (u (tr m₀ ρ₀) (tr i₀ τ₀)).nt fun j => τ₀ (i + j))) T) m with
            | none => simp only [e0] at x; exact x.elim
            | some q₀ =>
              simp only [e0] at y
              have ob : ∀ z ∈ ((.n m, .n m₀) :: (.n i, .n i₀) :: (.hd hd, .hd none) :: (.c c', .c (u (tr m₀ ρ₀) (tr i₀ τ₀)).code) :: ctxObs (ctxOf Γ κ c) c p (preObs T (u (tr m₀ ρ₀) (tr i₀ τ₀)).pre acc) (u (tr m₀ ρ₀) (tr i₀ τ₀)).below : List (Ob × Ob)), z.1 = z.2 := fun z hz => y z (A ρ₀ τ₀ n _ _ _ _ _ _ _ _ _ _ _ z hz)
              simp only [List.forall_mem_cons, Ob.n.injEq, Ob.hd.injEq, Ob.c.injEq] at ob
              obtain ⟨em, ei, ehd, ec, octx⟩ := ob
              have opre := fun z hz => octx z (mem_ctxObs _ _ _ _ _ z hz)
              have pre : ∀ q ∈ (u (tr m₀ ρ₀) (tr i₀ τ₀)).pre, T.get q.1 = some q.2 := fun q hq => by
                have := opre _ ((mem_preObs T _ acc).2 q hq)
                simpa using this
              subst em ei ehd
              have trm : ∀ j, j < m → tr m ρ₀ j = ρ₀ j := fun j hj => by unfold tr; rw [show Nat.blt j m = true from Nat.ble_eq_true_of_le hj]
              have lt0 : ∀ q ∈ (u (tr m ρ₀) (tr i τ₀)).pre, q.1 < m := fun q hq => (D0.own _ _ (pre q hq)).1
              have eΓ : ∀ bl, (u (tr m ρ₀) (tr i τ₀)).below = some bl → (ctxOf Γ κ c).enter c' none p = ⟨(u (tr m ρ₀) (tr i τ₀)).code, none, none, bl, none⟩ := fun bl hbl => by
                rw [hbl] at octx
                have o4 := fun z hz => octx z hz
                simp only [ctxObs, List.forall_mem_cons, Ob.hd.injEq, Ob.bl.injEq] at o4
                obtain ⟨eh, eo, ep, ebl, _⟩ := o4
                show (⟨c', (ctxOf Γ κ c).handled, (ctxOf Γ κ c).own, ((ctxOf Γ κ c).code, p) :: (ctxOf Γ κ c).below, (ctxOf Γ κ c).past⟩ : Ctx) = _
                rw [eh, eo, ep, ec, ctx_code, ebl]
              have eT : TokP (tr i τ₀) i (u (tr m ρ₀) (tr i τ₀)).fr := hE.tokP (Nat.le_of_ble_eq_true efr)
              refine spec (tr m ρ₀) (tr i τ₀) eT p h tk _ D0.top (Nat.le_trans hb D0.size) (fun q hq => by rw [trm _ (lt0 q hq)]; exact ⟨(D0.own _ _ (pre q hq)).2, D0.ge _ (D0.own _ _ (pre q hq)).1⟩)
                (fun q hq q' hq' z => by rw [trm _ (lt0 q hq), trm _ (lt0 q' hq')] at z; exact D0.inj _ _ (D0.own _ _ (pre q hq)).1 (D0.own _ _ (pre q' hq')).1 z) (fun ν θ h' tk' hν hθ P₀ => ?_) _ ec eΓ
              have ltp : ∀ z ∈ (u (tr m ρ₀) (tr i τ₀)).post ν θ, z.1 < m := fun z hz => by
                obtain ⟨z', hz', e⟩ := sub (tr m ρ₀) (tr i τ₀) ν θ z hz
                rw [← e]
                exact lt0 z' hz'
              have P : UPost ρ₀ (u (tr m ρ₀) (tr i τ₀)) ν θ h h' := ⟨P₀.size, fun q hq => by have := P₀.post q hq; rwa [trm _ (ltp q hq)] at this, fun b o hb hq => P₀.keep b o hb fun q hq' => by rw [trm _ (ltp q hq')]; exact hq q hq', P₀.new, P₀.inj⟩
              have eu : ∀ ρ τ, (∀ j, j < m → ρ j = ρ₀ j) → (∀ j, j < i → τ j = τ₀ j) → u (tr m ρ) (tr i τ) = u (tr m ρ₀) (tr i τ₀) := fun ρ τ hρ hτ => by rw [tr_eq hρ, tr_eq hτ]
              let ρ₁ : Nat → Nat := fun j => if j < m then ρ₀ j else if j < m + (u (tr m ρ₀) (tr i τ₀)).nn then ν (j - m) else W.n₀
              let τ₁ : Nat → Nat := fun j => if j < i then τ₀ j else θ (j - i)
              have r1 : ∀ j, j < m → ρ₁ j = ρ₀ j := fun j hj => if_pos hj
              have t1 : ∀ j, j < i → τ₁ j = τ₀ j := fun j hj => if_pos hj
              have r2 : ∀ j, j < (u (tr m ρ₀) (tr i τ₀)).nn → ρ₁ (m + j) = ν j := fun j hj => by show (if m + j < m then _ else if m + j < m + _ then _ else _) = _; rw [if_neg (by omega), if_pos (by omega), Nat.add_sub_cancel_left]
              have hN1 : ∀ j, W.n₀ ≤ ρ₁ j := fun j => by
                show W.n₀ ≤ (if j < m then _ else if j < m + _ then _ else _)
                split
                · exact hN j
                · split
                  · exact Nat.le_trans (Nat.le_trans hb D0.size) (P.new (j - m) (by omega)).2
                  · exact Nat.le_refl _
              have t2 : ∀ j, τ₁ (i + j) = θ j := fun j => by show (if i + j < i then _ else _) = _; rw [if_neg (by omega), Nat.add_sub_cancel_left]
              have H1 := H' ρ₁ τ₁ hN1 (fun z => absurd (hZ z).1 (by simp)) r1 t1
              simp only [eu ρ₁ τ₁ r1 t1, efr] at H1
              rw [tr_eq (f' := ν) (fun j hj => r2 j hj), tr_eq (f' := θ) (fun j _ => t2 j), tr_id hν, tr_id hθ] at H1
              cases e1 : insN ((u (tr m ρ₀) (tr i τ₀)).new ν θ) (u (tr m ρ₀) (tr i τ₀)).nn 0 (putAll ((u (tr m ρ₀) (tr i τ₀)).post ν θ) T) m with
              | none =>
                simp only [e1] at H1
                obtain ⟨_, _, x⟩ := H1
                exact x.elim
              | some q =>
                have hq := insN_le e1
                have D1 := (D0.posted P.size ltp P.post P.keep).congr (ρ' := ρ₁) r1
                have D2 : Rp W h₀ g ρ₁ q.1 q.2 h' := by
                  refine Rp.adoptN D1 (fun k hk => ?_) e1
                  rw [r2 k hk, Nat.zero_add]
                  obtain ⟨a, b⟩ := P.new k hk
                  refine ⟨a, Nat.le_trans (Nat.le_trans hb D0.size) b, Nat.le_trans D0.size b, fun j hj => ?_⟩
                  by_cases hjm : j < m
                  · rw [r1 j hjm]
                    exact Nat.ne_of_lt (Nat.lt_of_lt_of_le (D0.lt j hjm) b)
                  · have : j = m + (j - m) := by omega
                    rw [this, r2 _ (by omega)]
                    intro z
                    have := P.inj _ _ (by omega) hk z
                    omega
                refine IH (s / B) cs c p κ (k ((u (tr m ρ₀) (tr i τ₀)).res ν θ)) q.1 q.2 (i + (u (tr m ρ₀) (tr i τ₀)).nt) (i + (u (tr m ρ₀) (tr i τ₀)).nt) h' tk' ρ₁ τ₁ hcs' D2 (TokI.none _ _ _) hN1 (fun z => absurd (hZ z).1 (by simp)) fun ρ τ hge hp hρ hτ => ?_
                have a1 : ∀ j, j < m → ρ j = ρ₀ j := fun j hj => (hρ j (by omega)).trans (r1 j hj)
                have a2 : ∀ j, j < i → τ j = τ₀ j := fun j hj => (hτ j (by omega)).trans (t1 j hj)
                have H2 := H' ρ τ hge hp a1 a2
                simp only [eu ρ τ a1 a2, efr] at H2
                rw [tr_eq (f' := ν) (fun j hj => (hρ (m + j) (by omega)).trans (r2 j hj)), tr_eq (f' := θ) (fun j hj => (hτ (i + j) (by omega)).trans (t2 j)), tr_id hν, tr_id hθ] at H2
                simp only [e1] at H2
                obtain ⟨acc', y'⟩ := H2
                exact ⟨_, y'⟩
    | unsupported | finish | register | choose | os | newGen | genState | resume | «yield» | fork | thread | await =>
      obtain ⟨acc, _, x⟩ := H₀
      exact x.elim
end
end Mine
end
section -- Frg
open PySem PySem.W
set_option Elab.async false
set_option linter.unusedVariables false
namespace Mine
open Sem (wp finPost)

theorem btF_get : ∀ (k n : Nat) (f : Nat → Obj) (i : Nat) (o : Obj), (btF k n f).get i = some o → i < n ∧ f i = o
  | 0, _, _, _, _, e => nomatch e
  | k + 1, 0, _, _, _, e => nomatch e
  | k + 1, n + 1, f, i, o, e => by
    unfold btF at e
    dsimp only at e
    rw [BT.get_node] at e
    by_cases h0 : i = 0
    · subst h0
      rw [if_pos rfl] at e
      cases e
      exact ⟨Nat.succ_pos _, rfl⟩
    · rw [if_neg h0] at e
      by_cases p : i % 2 = 1
      · rw [if_pos p] at e
        obtain ⟨a, b⟩ := btF_get k _ _ _ _ e
        rw [show 2 * (i / 2) + 1 = i by omega] at b
        exact ⟨by omega, b⟩
      · rw [if_neg p] at e
        obtain ⟨a, b⟩ := btF_get k _ _ _ _ e
        rw [show 2 * (i / 2 - 1) + 2 = i by omega] at b
        exact ⟨by omega, b⟩

variable {W : Wd}
/-- objects given with the heap: at ρ 0, ρ 1 .., apart, above the top -/
structure Given (W : Wd) (ρ : Nat → Nat) (l : List Obj) (h : Heap) : Prop where
  top : W.Top h
  big : W.n₀ ≤ h.objs.size
  at_ : ∀ i, i < l.length → h.get? (ρ i) = some (nth l i)
  ge : ∀ i, i < l.length → W.n₀ ≤ ρ i
  inj : ∀ i j, i < l.length → j < l.length → ρ i = ρ j → i = j
theorem Given.rp {ρ : Nat → Nat} {l : List Obj} {h : Heap} (G : Given W ρ l h) : Rp W h l.length ρ (btL l) l.length h where
  top := G.top
  gm := Nat.le_refl _
  own := fun i o e => by
    obtain ⟨a, b⟩ := btF_get _ _ _ _ _ e
    exact ⟨a, b ▸ G.at_ i a⟩
  lt := fun i hi => Heap.lt_size (G.at_ i hi)
  ge := G.ge
  inj := G.inj
  size := Nat.le_refl _
  keep := fun _ _ e _ => e
  fresh := fun i a b => absurd b (Nat.not_lt.mpr a)

/-- behind a fragment that was given g objects: what it shows of the places is -/
structure Back (W : Wd) (g : Nat) (ρ : Nat → Nat) (is : List Nat) (os : List (Option Obj)) (h h' : Heap) : Prop where
  top : W.Top h'
  size : h.objs.size ≤ h'.objs.size
  at_ : ∀ (n i : Nat) (o : Obj), is[n]? = some i → os[n]? = some (some o) → h'.get? (ρ i) = some o ∧ W.n₀ ≤ ρ i ∧ (g ≤ i → h.objs.size ≤ ρ i)
  inj : ∀ (n n' i i' : Nat) (o o' : Obj), is[n]? = some i → os[n]? = some (some o) → is[n']? = some i' → os[n']? = some (some o') → ρ i = ρ i' → i = i'
  keep : ∀ b o, h.get? b = some o → (∀ i, i < g → b ≠ ρ i) → h'.get? b = some o
noncomputable def EndR (W : Wd) (Γ : Ctx) (R : Result → Shared → Prop) (h : Heap) (tk : Nat) : Option ((Fin × Pos) ⊕ Value) → Prop
  | some (.inl (.done f, _)) => R (.ok f) (W.sh h tk)
  | some (.inl (.again c, p)) => wpCode W.M (Γ.goto c) R p (W.sh h tk)
  | some (.inr e) => R (.error e) (W.sh h tk)
  | none => True

theorem eqs_of {l : List (Ob × Ob)} (h : l.map Prod.fst = l.map Prod.snd) : ∀ q ∈ l, q.1 = q.2 := by
  induction l with
  | nil => exact fun _ h => nomatch h
  | cons x l ih =>
    simp only [List.map_cons, List.cons.injEq] at h
    intro q hq
    rcases List.mem_cons.mp hq with rfl | hq
    · exact h.1
    · exact ih h.2 q hq
theorem back_of {g m : Nat} {ρ : Nat → Nat} {T : BT} {h h' : Heap} (D : Rp W h g ρ T m h') (is : List Nat) : Back W g ρ is (is.map T.get) h h' where
  top := D.top
  size := D.size
  at_ := fun n i o hi ho => by
    rw [List.getElem?_map, hi] at ho
    have e : T.get i = some o := by simpa using ho
    obtain ⟨a, b⟩ := D.own i o e
    exact ⟨b, D.ge i a, fun hg => D.fresh i hg a⟩
  inj := fun n n' i i' o o' hi ho hi' ho' q => by
    rw [List.getElem?_map, hi] at ho
    rw [List.getElem?_map, hi'] at ho'
    have e : T.get i = some o := by simpa using ho
    have e' : T.get i' = some o' := by simpa using ho'
    exact D.inj i i' (D.own i o e).1 (D.own i' o' e').1 q
  keep := D.keep

/-- a tree run by the kernel -/
theorem fragT (t : Sem Fin) (pz : Bool) {Γ : Ctx} {R : Result → Shared → Prop} {st stT stF : Setting} (hst : st = ⟨W.M.prog, W.M.w.params⟩) (hTF : st = stT ∨ st = stF) {D : Code → Sem Fin} (hD : D = W.M.den)
    {ρ₀ : Nat → Nat} {l : List Obj} {h : Heap} (G : Given W ρ₀ l h) {n s : Nat} {cs : List CutF} (hcs : ∀ f ∈ cs, CutF.Ok W f) {c : Code} {p : Pos} {is : List Nat}
    {x : (Nat → Nat) → (Nat → Nat) → Option ((Fin × Pos) ⊕ Value) × List (Option Obj)}
    (hz : pz = true → cs = []) (run : ∀ ρ τ, (∀ j, W.n₀ ≤ ρ j) → (pz = true → ∀ j, 0 < τ j) → (∀ j, j < l.length → ρ j = ρ₀ j) → lhsOf is (simC W.kt st stT stF Γ D ρ τ n s (cs.map (CutF.at ρ τ)) c p .base t (btL l) l.length 0 0 []) =
      rhsOf (x ρ τ) (simC W.kt st stT stF Γ D ρ τ n s (cs.map (CutF.at ρ τ)) c p .base t (btL l) l.length 0 0 []))
    (some_ : ∀ ρ τ, (x ρ τ).1 ≠ none)
    (fin : ∀ ρ τ h' tk', (∀ j, j < l.length → ρ j = ρ₀ j) → Back W l.length ρ is (x ρ τ).2 h h' → EndR W Γ R h' tk' (x ρ τ).1) (tk : Nat) : Means W Γ R .base c p t (W.sh h tk) := by
  refine sound pz (h₀ := h) (g := l.length) G.big hst hTF hD n s cs c p .base t (btL l) l.length 0 0 h tk (fun j => if j < l.length then ρ₀ j else W.n₀) (fun _ => 1) hcs (G.rp.congr fun j hj => if_pos hj) (TokI.none _ _ _) (fun j => by
    split
    · exact G.ge j (by assumption)
    · exact Nat.le_refl _) (fun z => ⟨hz z, fun _ => Nat.one_pos⟩) fun ρ τ hge hp hρ' _ => ⟨[], ?_⟩
  have hρ : ∀ j, j < l.length → ρ j = ρ₀ j := fun j hj => (hρ' j hj).trans (if_pos hj)
  have e := run ρ τ hge hp hρ
  generalize simC W.kt st stT stF Γ D ρ τ n s (cs.map (CutF.at ρ τ)) c p .base t (btL l) l.length 0 0 [] = r at e
  obtain ⟨obs, out⟩ := r
  have e1 := congrArg Prod.fst e
  have e2 : viewAt is out = x ρ τ := congrArg Prod.snd e
  refine ⟨eqs_of e1, ?_⟩
  have ns := some_ ρ τ
  have F := fun h' tk' => fin ρ τ h' tk' hρ
  rw [← e2] at ns F
  cases out with
  | fin f q T m =>
    cases f with
    | done f => exact fun h' tk' D' => F h' tk' (back_of D' is)
    | again c' => exact fun h' tk' D' => F h' tk' (back_of D' is)
  | exc e T m => exact fun h' tk' D' => F h' tk' (back_of D' is)
  | stuck => exact absurd rfl ns
/-- a fragment run by the kernel -/
theorem frag (pz : Bool) {Γ : Ctx} {R : Result → Shared → Prop} {st stT stF : Setting} (hst : st = ⟨W.M.prog, W.M.w.params⟩) (hTF : st = stT ∨ st = stF) {D : Code → Sem Fin} (hD : D = W.M.den)
    {ρ₀ : Nat → Nat} {l : List Obj} {h : Heap} (G : Given W ρ₀ l h) {n s : Nat} {cs : List CutF} (hcs : ∀ f ∈ cs, CutF.Ok W f) {c : Code} {p : Pos} {is : List Nat}
    {x : (Nat → Nat) → (Nat → Nat) → Option ((Fin × Pos) ⊕ Value) × List (Option Obj)}
    (hz : pz = true → cs = []) (run : ∀ ρ τ, (∀ j, W.n₀ ≤ ρ j) → (pz = true → ∀ j, 0 < τ j) → (∀ j, j < l.length → ρ j = ρ₀ j) → lhsOf is (simC W.kt st stT stF Γ D ρ τ n s (cs.map (CutF.at ρ τ)) c p .base (D c) (btL l) l.length 0 0 []) =
      rhsOf (x ρ τ) (simC W.kt st stT stF Γ D ρ τ n s (cs.map (CutF.at ρ τ)) c p .base (D c) (btL l) l.length 0 0 []))
    (some_ : ∀ ρ τ, (x ρ τ).1 ≠ none)
    (fin : ∀ ρ τ h' tk', (∀ j, j < l.length → ρ j = ρ₀ j) → Back W l.length ρ is (x ρ τ).2 h h' → EndR W Γ R h' tk' (x ρ τ).1) (tk : Nat) : wpCode W.M (Γ.goto c) R p (W.sh h tk) := by
  refine means_code W Γ R (κ := .base) ?_
  rw [← hD]
  exact fragT (D c) pz hst hTF hD G hcs hz run some_ fin tk
end Mine
end
section -- Kt
open PySem PySem.W
set_option Elab.async false
set_option linter.unusedVariables false
namespace Mine

noncomputable abbrev pwR : Program := PySem.Challenge.pw_om0140_01
noncomputable def s (l : List Nat) : Str := ⟨⟨l⟩⟩
noncomputable def hsh (P : Params) (l : List Nat) : Int := reduceHash (P.strHash ⟨l⟩)
noncomputable def stIn : List Stmt → List Nat → Stmt
  | _, [] => .Pass ⟨0, 0, 0, 0⟩
  | l, i :: r => match l.drop i with
    | [] => .Pass ⟨0, 0, 0, 0⟩
    | x :: _ => match r with
      | [] => x
      | _ :: _ => match x with
        | .ClassDef _ _ _ b .. => stIn b r
        | _ => .Pass ⟨0, 0, 0, 0⟩
noncomputable def st (q : List Nat) : Stmt := stIn pwR.main.body q
noncomputable def fn (x : Stmt) (qual : Str) (gl : Nat) (dflt kwd doc pm : Value) (ann : Option Nat) (code ct : Value) (bi : Nat) : FuncData := match x with
  | .FunctionDef n a b _ _ _ sc _ _ _ => { name := n, qualname := qual, params := a, body := .stmts b, scope := sc, globals := gl, closure := [], defaults := dflt, kwdefaults := kwd, doc := doc, pyModule := pm, annotations := ann, code := code, closureTuple := ct, builtins := bi }
  | _ => default
noncomputable def o0 (P : Params) : Obj := ⟨(.type "dict"), none, (.dict ⟨[⟨(hsh P [95, 95, 110, 97, 109, 101, 95, 95]), (.str (s [95, 95, 110, 97, 109, 101, 95, 95]) 1), (.str (s [98, 117, 105, 108, 116, 105, 110, 115]) 160)⟩, ⟨(hsh P [95, 95, 100, 111, 99, 95, 95]), (.str (s [95, 95, 100, 111, 99, 95, 95]) 2), (.builtin "builtins.__doc__:str#opaque")⟩, ⟨(hsh P [95, 95, 112, 97, 99, 107, 97, 103, 101, 95, 95]), (.str (s [95, 95, 112, 97, 99, 107, 97, 103, 101, 95, 95]) 3), (.builtin "builtins.__package__:str#opaque")⟩, ⟨(hsh P [95, 95, 108, 111, 97, 100, 101, 114, 95, 95]), (.str (s [95, 95, 108, 111, 97, 100, 101, 114, 95, 95]) 4), (.builtin "builtins.__loader__:shared#opaque")⟩, ⟨(hsh P [95, 95, 115, 112, 101, 99, 95, 95]), (.str (s [95, 95, 115, 112, 101, 99, 95, 95]) 5), (.builtin "builtins.__spec__#opaque")⟩, ⟨(hsh P [95, 95, 98, 117, 105, 108, 100, 95, 99, 108, 97, 115, 115, 95, 95]), (.str (s [95, 95, 98, 117, 105, 108, 100, 95, 99, 108, 97, 115, 115, 95, 95]) 6), (.builtin "__build_class__")⟩, ⟨(hsh P [95, 95, 105, 109, 112, 111, 114, 116, 95, 95]), (.str (s [95, 95, 105, 109, 112, 111, 114, 116, 95, 95]) 7), (.builtin "__import__")⟩, ⟨(hsh P [97, 98, 115]), (.str (s [97, 98, 115]) 8), (.builtin "abs")⟩, ⟨(hsh P [97, 108, 108]), (.str (s [97, 108, 108]) 9), (.builtin "all")⟩, ⟨(hsh P [97, 110, 121]), (.str (s [97, 110, 121]) 10), (.builtin "any")⟩, ⟨(hsh P [97, 115, 99, 105, 105]), (.str (s [97, 115, 99, 105, 105]) 11), (.builtin "ascii")⟩, ⟨(hsh P [98, 105, 110]), (.str (s [98, 105, 110]) 12), (.builtin "bin")⟩, ⟨(hsh P [98, 114, 101, 97, 107, 112, 111, 105, 110, 116]), (.str (s [98, 114, 101, 97, 107, 112, 111, 105, 110, 116]) 13), (.builtin "breakpoint")⟩, ⟨(hsh P [99, 97, 108, 108, 97, 98, 108, 101]), (.str (s [99, 97, 108, 108, 97, 98, 108, 101]) 14), (.builtin "callable")⟩, ⟨(hsh P [99, 104, 114]), (.str (s [99, 104, 114]) 15), (.builtin "chr")⟩, ⟨(hsh P [99, 111, 109, 112, 105, 108, 101]), (.str (s [99, 111, 109, 112, 105, 108, 101]) 16), (.builtin "compile")⟩, ⟨(hsh P [100, 101, 108, 97, 116, 116, 114]), (.str (s [100, 101, 108, 97, 116, 116, 114]) 17), (.builtin "delattr")⟩, ⟨(hsh P [100, 105, 114]), (.str (s [100, 105, 114]) 18), (.builtin "dir")⟩, ⟨(hsh P [100, 105, 118, 109, 111, 100]), (.str (s [100, 105, 118, 109, 111, 100]) 19), (.builtin "divmod")⟩, ⟨(hsh P [101, 118, 97, 108]), (.str (s [101, 118, 97, 108]) 20), (.builtin "eval")⟩, ⟨(hsh P [101, 120, 101, 99]), (.str (s [101, 120, 101, 99]) 21), (.builtin "exec")⟩, ⟨(hsh P [102, 111, 114, 109, 97, 116]), (.str (s [102, 111, 114, 109, 97, 116]) 22), (.builtin "format")⟩, ⟨(hsh P [103, 101, 116, 97, 116, 116, 114]), (.str (s [103, 101, 116, 97, 116, 116, 114]) 23), (.builtin "getattr")⟩, ⟨(hsh P [103, 108, 111, 98, 97, 108, 115]), (.str (s [103, 108, 111, 98, 97, 108, 115]) 24), (.builtin "globals")⟩, ⟨(hsh P [104, 97, 115, 97, 116, 116, 114]), (.str (s [104, 97, 115, 97, 116, 116, 114]) 25), (.builtin "hasattr")⟩, ⟨(hsh P [104, 97, 115, 104]), (.str (s [104, 97, 115, 104]) 26), (.builtin "hash")⟩, ⟨(hsh P [104, 101, 120]), (.str (s [104, 101, 120]) 27), (.builtin "hex")⟩, ⟨(hsh P [105, 100]), (.str (s [105, 100]) 28), (.builtin "id")⟩, ⟨(hsh P [105, 110, 112, 117, 116]), (.str (s [105, 110, 112, 117, 116]) 29), (.builtin "input")⟩, ⟨(hsh P [105, 115, 105, 110, 115, 116, 97, 110, 99, 101]), (.str (s [105, 115, 105, 110, 115, 116, 97, 110, 99, 101]) 30), (.builtin "isinstance")⟩, ⟨(hsh P [105, 115, 115, 117, 98, 99, 108, 97, 115, 115]), (.str (s [105, 115, 115, 117, 98, 99, 108, 97, 115, 115]) 31), (.builtin "issubclass")⟩, ⟨(hsh P [105, 116, 101, 114]), (.str (s [105, 116, 101, 114]) 32), (.builtin "iter")⟩, ⟨(hsh P [97, 105, 116, 101, 114]), (.str (s [97, 105, 116, 101, 114]) 33), (.builtin "aiter")⟩, ⟨(hsh P [108, 101, 110]), (.str (s [108, 101, 110]) 34), (.builtin "len")⟩, ⟨(hsh P [108, 111, 99, 97, 108, 115]), (.str (s [108, 111, 99, 97, 108, 115]) 35), (.builtin "locals")⟩, ⟨(hsh P [109, 97, 120]), (.str (s [109, 97, 120]) 36), (.builtin "max")⟩, ⟨(hsh P [109, 105, 110]), (.str (s [109, 105, 110]) 37), (.builtin "min")⟩, ⟨(hsh P [110, 101, 120, 116]), (.str (s [110, 101, 120, 116]) 38), (.builtin "next")⟩, ⟨(hsh P [97, 110, 101, 120, 116]), (.str (s [97, 110, 101, 120, 116]) 39), (.builtin "anext")⟩, ⟨(hsh P [111, 99, 116]), (.str (s [111, 99, 116]) 40), (.builtin "oct")⟩, ⟨(hsh P [111, 114, 100]), (.str (s [111, 114, 100]) 41), (.builtin "ord")⟩, ⟨(hsh P [112, 111, 119]), (.str (s [112, 111, 119]) 42), (.builtin "pow")⟩, ⟨(hsh P [112, 114, 105, 110, 116]), (.str (s [112, 114, 105, 110, 116]) 43), (.builtin "print")⟩, ⟨(hsh P [114, 101, 112, 114]), (.str (s [114, 101, 112, 114]) 44), (.builtin "repr")⟩, ⟨(hsh P [114, 111, 117, 110, 100]), (.str (s [114, 111, 117, 110, 100]) 45), (.builtin "round")⟩, ⟨(hsh P [115, 101, 116, 97, 116, 116, 114]), (.str (s [115, 101, 116, 97, 116, 116, 114]) 46), (.builtin "setattr")⟩, ⟨(hsh P [115, 111, 114, 116, 101, 100]), (.str (s [115, 111, 114, 116, 101, 100]) 47), (.builtin "sorted")⟩, ⟨(hsh P [115, 117, 109]), (.str (s [115, 117, 109]) 48), (.builtin "sum")⟩, ⟨(hsh P [118, 97, 114, 115]), (.str (s [118, 97, 114, 115]) 49), (.builtin "vars")⟩, ⟨(hsh P [78, 111, 110, 101]), (.str (s [78, 111, 110, 101]) 50), .none⟩, ⟨(hsh P [69, 108, 108, 105, 112, 115, 105, 115]), (.str (s [69, 108, 108, 105, 112, 115, 105, 115]) 51), .ellipsis⟩, ⟨(hsh P [78, 111, 116, 73, 109, 112, 108, 101, 109, 101, 110, 116, 101, 100]), (.str (s [78, 111, 116, 73, 109, 112, 108, 101, 109, 101, 110, 116, 101, 100]) 52), .notImplemented⟩, ⟨(hsh P [70, 97, 108, 115, 101]), (.str (s [70, 97, 108, 115, 101]) 53), (.bool false)⟩, ⟨(hsh P [84, 114, 117, 101]), (.str (s [84, 114, 117, 101]) 54), (.bool true)⟩, ⟨(hsh P [98, 111, 111, 108]), (.str (s [98, 111, 111, 108]) 55), (.type "bool")⟩, ⟨(hsh P [109, 101, 109, 111, 114, 121, 118, 105, 101, 119]), (.str (s [109, 101, 109, 111, 114, 121, 118, 105, 101, 119]) 56), (.type "memoryview")⟩, ⟨(hsh P [98, 121, 116, 101, 97, 114, 114, 97, 121]), (.str (s [98, 121, 116, 101, 97, 114, 114, 97, 121]) 57), (.type "bytearray")⟩, ⟨(hsh P [98, 121, 116, 101, 115]), (.str (s [98, 121, 116, 101, 115]) 58), (.type "bytes")⟩, ⟨(hsh P [99, 108, 97, 115, 115, 109, 101, 116, 104, 111, 100]), (.str (s [99, 108, 97, 115, 115, 109, 101, 116, 104, 111, 100]) 59), (.type "classmethod")⟩, ⟨(hsh P [99, 111, 109, 112, 108, 101, 120]), (.str (s [99, 111, 109, 112, 108, 101, 120]) 60), (.type "complex")⟩, ⟨(hsh P [100, 105, 99, 116]), (.str (s [100, 105, 99, 116]) 61), (.type "dict")⟩, ⟨(hsh P [101, 110, 117, 109, 101, 114, 97, 116, 101]), (.str (s [101, 110, 117, 109, 101, 114, 97, 116, 101]) 62), (.type "enumerate")⟩, ⟨(hsh P [102, 105, 108, 116, 101, 114]), (.str (s [102, 105, 108, 116, 101, 114]) 63), (.type "filter")⟩, ⟨(hsh P [102, 108, 111, 97, 116]), (.str (s [102, 108, 111, 97, 116]) 64), (.type "float")⟩, ⟨(hsh P [102, 114, 111, 122, 101, 110, 115, 101, 116]), (.str (s [102, 114, 111, 122, 101, 110, 115, 101, 116]) 65), (.type "frozenset")⟩, ⟨(hsh P [112, 114, 111, 112, 101, 114, 116, 121]), (.str (s [112, 114, 111, 112, 101, 114, 116, 121]) 66), (.type "property")⟩, ⟨(hsh P [105, 110, 116]), (.str (s [105, 110, 116]) 67), (.type "int")⟩, ⟨(hsh P [108, 105, 115, 116]), (.str (s [108, 105, 115, 116]) 68), (.type "list")⟩, ⟨(hsh P [109, 97, 112]), (.str (s [109, 97, 112]) 69), (.type "map")⟩, ⟨(hsh P [111, 98, 106, 101, 99, 116]), (.str (s [111, 98, 106, 101, 99, 116]) 70), (.type "object")⟩, ⟨(hsh P [114, 97, 110, 103, 101]), (.str (s [114, 97, 110, 103, 101]) 71), (.type "range")⟩, ⟨(hsh P [114, 101, 118, 101, 114, 115, 101, 100]), (.str (s [114, 101, 118, 101, 114, 115, 101, 100]) 72), (.type "reversed")⟩, ⟨(hsh P [115, 101, 116]), (.str (s [115, 101, 116]) 73), (.type "set")⟩, ⟨(hsh P [115, 108, 105, 99, 101]), (.str (s [115, 108, 105, 99, 101]) 74), (.type "slice")⟩, ⟨(hsh P [115, 116, 97, 116, 105, 99, 109, 101, 116, 104, 111, 100]), (.str (s [115, 116, 97, 116, 105, 99, 109, 101, 116, 104, 111, 100]) 75), (.type "staticmethod")⟩, ⟨(hsh P [115, 116, 114]), (.str (s [115, 116, 114]) 76), (.type "str")⟩, ⟨(hsh P [115, 117, 112, 101, 114]), (.str (s [115, 117, 112, 101, 114]) 77), (.type "super")⟩, ⟨(hsh P [116, 117, 112, 108, 101]), (.str (s [116, 117, 112, 108, 101]) 78), (.type "tuple")⟩, ⟨(hsh P [116, 121, 112, 101]), (.str (s [116, 121, 112, 101]) 79), (.type "type")⟩, ⟨(hsh P [122, 105, 112]), (.str (s [122, 105, 112]) 80), (.type "zip")⟩, ⟨(hsh P [95, 95, 100, 101, 98, 117, 103, 95, 95]), (.str (s [95, 95, 100, 101, 98, 117, 103, 95, 95]) 81), (.bool true)⟩, ⟨(hsh P [66, 97, 115, 101, 69, 120, 99, 101, 112, 116, 105, 111, 110]), (.str (s [66, 97, 115, 101, 69, 120, 99, 101, 112, 116, 105, 111, 110]) 82), (.type "BaseException")⟩, ⟨(hsh P [66, 97, 115, 101, 69, 120, 99, 101, 112, 116, 105, 111, 110, 71, 114, 111, 117, 112]), (.str (s [66, 97, 115, 101, 69, 120, 99, 101, 112, 116, 105, 111, 110, 71, 114, 111, 117, 112]) 83), (.type "BaseExceptionGroup")⟩, ⟨(hsh P [69, 120, 99, 101, 112, 116, 105, 111, 110]), (.str (s [69, 120, 99, 101, 112, 116, 105, 111, 110]) 84), (.type "Exception")⟩, ⟨(hsh P [71, 101, 110, 101, 114, 97, 116, 111, 114, 69, 120, 105, 116]), (.str (s [71, 101, 110, 101, 114, 97, 116, 111, 114, 69, 120, 105, 116]) 85), (.type "GeneratorExit")⟩, ⟨(hsh P [75, 101, 121, 98, 111, 97, 114, 100, 73, 110, 116, 101, 114, 114, 117, 112, 116]), (.str (s [75, 101, 121, 98, 111, 97, 114, 100, 73, 110, 116, 101, 114, 114, 117, 112, 116]) 86), (.type "KeyboardInterrupt")⟩, ⟨(hsh P [83, 121, 115, 116, 101, 109, 69, 120, 105, 116]), (.str (s [83, 121, 115, 116, 101, 109, 69, 120, 105, 116]) 87), (.type "SystemExit")⟩, ⟨(hsh P [65, 114, 105, 116, 104, 109, 101, 116, 105, 99, 69, 114, 114, 111, 114]), (.str (s [65, 114, 105, 116, 104, 109, 101, 116, 105, 99, 69, 114, 114, 111, 114]) 88), (.type "ArithmeticError")⟩, ⟨(hsh P [65, 115, 115, 101, 114, 116, 105, 111, 110, 69, 114, 114, 111, 114]), (.str (s [65, 115, 115, 101, 114, 116, 105, 111, 110, 69, 114, 114, 111, 114]) 89), (.type "AssertionError")⟩, ⟨(hsh P [65, 116, 116, 114, 105, 98, 117, 116, 101, 69, 114, 114, 111, 114]), (.str (s [65, 116, 116, 114, 105, 98, 117, 116, 101, 69, 114, 114, 111, 114]) 90), (.type "AttributeError")⟩, ⟨(hsh P [66, 117, 102, 102, 101, 114, 69, 114, 114, 111, 114]), (.str (s [66, 117, 102, 102, 101, 114, 69, 114, 114, 111, 114]) 91), (.type "BufferError")⟩, ⟨(hsh P [69, 79, 70, 69, 114, 114, 111, 114]), (.str (s [69, 79, 70, 69, 114, 114, 111, 114]) 92), (.type "EOFError")⟩, ⟨(hsh P [73, 109, 112, 111, 114, 116, 69, 114, 114, 111, 114]), (.str (s [73, 109, 112, 111, 114, 116, 69, 114, 114, 111, 114]) 93), (.type "ImportError")⟩, ⟨(hsh P [76, 111, 111, 107, 117, 112, 69, 114, 114, 111, 114]), (.str (s [76, 111, 111, 107, 117, 112, 69, 114, 114, 111, 114]) 94), (.type "LookupError")⟩, ⟨(hsh P [77, 101, 109, 111, 114, 121, 69, 114, 114, 111, 114]), (.str (s [77, 101, 109, 111, 114, 121, 69, 114, 114, 111, 114]) 95), (.type "MemoryError")⟩, ⟨(hsh P [78, 97, 109, 101, 69, 114, 114, 111, 114]), (.str (s [78, 97, 109, 101, 69, 114, 114, 111, 114]) 96), (.type "NameError")⟩, ⟨(hsh P [79, 83, 69, 114, 114, 111, 114]), (.str (s [79, 83, 69, 114, 114, 111, 114]) 97), (.type "OSError")⟩, ⟨(hsh P [82, 101, 102, 101, 114, 101, 110, 99, 101, 69, 114, 114, 111, 114]), (.str (s [82, 101, 102, 101, 114, 101, 110, 99, 101, 69, 114, 114, 111, 114]) 98), (.type "ReferenceError")⟩, ⟨(hsh P [82, 117, 110, 116, 105, 109, 101, 69, 114, 114, 111, 114]), (.str (s [82, 117, 110, 116, 105, 109, 101, 69, 114, 114, 111, 114]) 99), (.type "RuntimeError")⟩, ⟨(hsh P [83, 116, 111, 112, 65, 115, 121, 110, 99, 73, 116, 101, 114, 97, 116, 105, 111, 110]), (.str (s [83, 116, 111, 112, 65, 115, 121, 110, 99, 73, 116, 101, 114, 97, 116, 105, 111, 110]) 100), (.type "StopAsyncIteration")⟩, ⟨(hsh P [83, 116, 111, 112, 73, 116, 101, 114, 97, 116, 105, 111, 110]), (.str (s [83, 116, 111, 112, 73, 116, 101, 114, 97, 116, 105, 111, 110]) 101), (.type "StopIteration")⟩, ⟨(hsh P [83, 121, 110, 116, 97, 120, 69, 114, 114, 111, 114]), (.str (s [83, 121, 110, 116, 97, 120, 69, 114, 114, 111, 114]) 102), (.type "SyntaxError")⟩, ⟨(hsh P [83, 121, 115, 116, 101, 109, 69, 114, 114, 111, 114]), (.str (s [83, 121, 115, 116, 101, 109, 69, 114, 114, 111, 114]) 103), (.type "SystemError")⟩, ⟨(hsh P [84, 121, 112, 101, 69, 114, 114, 111, 114]), (.str (s [84, 121, 112, 101, 69, 114, 114, 111, 114]) 104), (.type "TypeError")⟩, ⟨(hsh P [86, 97, 108, 117, 101, 69, 114, 114, 111, 114]), (.str (s [86, 97, 108, 117, 101, 69, 114, 114, 111, 114]) 105), (.type "ValueError")⟩, ⟨(hsh P [87, 97, 114, 110, 105, 110, 103]), (.str (s [87, 97, 114, 110, 105, 110, 103]) 106), (.type "Warning")⟩, ⟨(hsh P [70, 108, 111, 97, 116, 105, 110, 103, 80, 111, 105, 110, 116, 69, 114, 114, 111, 114]), (.str (s [70, 108, 111, 97, 116, 105, 110, 103, 80, 111, 105, 110, 116, 69, 114, 114, 111, 114]) 107), (.type "FloatingPointError")⟩, ⟨(hsh P [79, 118, 101, 114, 102, 108, 111, 119, 69, 114, 114, 111, 114]), (.str (s [79, 118, 101, 114, 102, 108, 111, 119, 69, 114, 114, 111, 114]) 108), (.type "OverflowError")⟩, ⟨(hsh P [90, 101, 114, 111, 68, 105, 118, 105, 115, 105, 111, 110, 69, 114, 114, 111, 114]), (.str (s [90, 101, 114, 111, 68, 105, 118, 105, 115, 105, 111, 110, 69, 114, 114, 111, 114]) 109), (.type "ZeroDivisionError")⟩, ⟨(hsh P [66, 121, 116, 101, 115, 87, 97, 114, 110, 105, 110, 103]), (.str (s [66, 121, 116, 101, 115, 87, 97, 114, 110, 105, 110, 103]) 110), (.type "BytesWarning")⟩, ⟨(hsh P [68, 101, 112, 114, 101, 99, 97, 116, 105, 111, 110, 87, 97, 114, 110, 105, 110, 103]), (.str (s [68, 101, 112, 114, 101, 99, 97, 116, 105, 111, 110, 87, 97, 114, 110, 105, 110, 103]) 111), (.type "DeprecationWarning")⟩, ⟨(hsh P [69, 110, 99, 111, 100, 105, 110, 103, 87, 97, 114, 110, 105, 110, 103]), (.str (s [69, 110, 99, 111, 100, 105, 110, 103, 87, 97, 114, 110, 105, 110, 103]) 112), (.type "EncodingWarning")⟩, ⟨(hsh P [70, 117, 116, 117, 114, 101, 87, 97, 114, 110, 105, 110, 103]), (.str (s [70, 117, 116, 117, 114, 101, 87, 97, 114, 110, 105, 110, 103]) 113), (.type "FutureWarning")⟩, ⟨(hsh P [73, 109, 112, 111, 114, 116, 87, 97, 114, 110, 105, 110, 103]), (.str (s [73, 109, 112, 111, 114, 116, 87, 97, 114, 110, 105, 110, 103]) 114), (.type "ImportWarning")⟩, ⟨(hsh P [80, 101, 110, 100, 105, 110, 103, 68, 101, 112, 114, 101, 99, 97, 116, 105, 111, 110, 87, 97, 114, 110, 105, 110, 103]), (.str (s [80, 101, 110, 100, 105, 110, 103, 68, 101, 112, 114, 101, 99, 97, 116, 105, 111, 110, 87, 97, 114, 110, 105, 110, 103]) 115), (.type "PendingDeprecationWarning")⟩, ⟨(hsh P [82, 101, 115, 111, 117, 114, 99, 101, 87, 97, 114, 110, 105, 110, 103]), (.str (s [82, 101, 115, 111, 117, 114, 99, 101, 87, 97, 114, 110, 105, 110, 103]) 116), (.type "ResourceWarning")⟩, ⟨(hsh P [82, 117, 110, 116, 105, 109, 101, 87, 97, 114, 110, 105, 110, 103]), (.str (s [82, 117, 110, 116, 105, 109, 101, 87, 97, 114, 110, 105, 110, 103]) 117), (.type "RuntimeWarning")⟩, ⟨(hsh P [83, 121, 110, 116, 97, 120, 87, 97, 114, 110, 105, 110, 103]), (.str (s [83, 121, 110, 116, 97, 120, 87, 97, 114, 110, 105, 110, 103]) 118), (.type "SyntaxWarning")⟩, ⟨(hsh P [85, 110, 105, 99, 111, 100, 101, 87, 97, 114, 110, 105, 110, 103]), (.str (s [85, 110, 105, 99, 111, 100, 101, 87, 97, 114, 110, 105, 110, 103]) 119), (.type "UnicodeWarning")⟩, ⟨(hsh P [85, 115, 101, 114, 87, 97, 114, 110, 105, 110, 103]), (.str (s [85, 115, 101, 114, 87, 97, 114, 110, 105, 110, 103]) 120), (.type "UserWarning")⟩, ⟨(hsh P [66, 108, 111, 99, 107, 105, 110, 103, 73, 79, 69, 114, 114, 111, 114]), (.str (s [66, 108, 111, 99, 107, 105, 110, 103, 73, 79, 69, 114, 114, 111, 114]) 121), (.type "BlockingIOError")⟩, ⟨(hsh P [67, 104, 105, 108, 100, 80, 114, 111, 99, 101, 115, 115, 69, 114, 114, 111, 114]), (.str (s [67, 104, 105, 108, 100, 80, 114, 111, 99, 101, 115, 115, 69, 114, 114, 111, 114]) 122), (.type "ChildProcessError")⟩, ⟨(hsh P [67, 111, 110, 110, 101, 99, 116, 105, 111, 110, 69, 114, 114, 111, 114]), (.str (s [67, 111, 110, 110, 101, 99, 116, 105, 111, 110, 69, 114, 114, 111, 114]) 123), (.type "ConnectionError")⟩, ⟨(hsh P [70, 105, 108, 101, 69, 120, 105, 115, 116, 115, 69, 114, 114, 111, 114]), (.str (s [70, 105, 108, 101, 69, 120, 105, 115, 116, 115, 69, 114, 114, 111, 114]) 124), (.type "FileExistsError")⟩, ⟨(hsh P [70, 105, 108, 101, 78, 111, 116, 70, 111, 117, 110, 100, 69, 114, 114, 111, 114]), (.str (s [70, 105, 108, 101, 78, 111, 116, 70, 111, 117, 110, 100, 69, 114, 114, 111, 114]) 125), (.type "FileNotFoundError")⟩, ⟨(hsh P [73, 110, 116, 101, 114, 114, 117, 112, 116, 101, 100, 69, 114, 114, 111, 114]), (.str (s [73, 110, 116, 101, 114, 114, 117, 112, 116, 101, 100, 69, 114, 114, 111, 114]) 126), (.type "InterruptedError")⟩, ⟨(hsh P [73, 115, 65, 68, 105, 114, 101, 99, 116, 111, 114, 121, 69, 114, 114, 111, 114]), (.str (s [73, 115, 65, 68, 105, 114, 101, 99, 116, 111, 114, 121, 69, 114, 114, 111, 114]) 127), (.type "IsADirectoryError")⟩, ⟨(hsh P [78, 111, 116, 65, 68, 105, 114, 101, 99, 116, 111, 114, 121, 69, 114, 114, 111, 114]), (.str (s [78, 111, 116, 65, 68, 105, 114, 101, 99, 116, 111, 114, 121, 69, 114, 114, 111, 114]) 128), (.type "NotADirectoryError")⟩, ⟨(hsh P [80, 101, 114, 109, 105, 115, 115, 105, 111, 110, 69, 114, 114, 111, 114]), (.str (s [80, 101, 114, 109, 105, 115, 115, 105, 111, 110, 69, 114, 114, 111, 114]) 129), (.type "PermissionError")⟩, ⟨(hsh P [80, 114, 111, 99, 101, 115, 115, 76, 111, 111, 107, 117, 112, 69, 114, 114, 111, 114]), (.str (s [80, 114, 111, 99, 101, 115, 115, 76, 111, 111, 107, 117, 112, 69, 114, 114, 111, 114]) 130), (.type "ProcessLookupError")⟩, ⟨(hsh P [84, 105, 109, 101, 111, 117, 116, 69, 114, 114, 111, 114]), (.str (s [84, 105, 109, 101, 111, 117, 116, 69, 114, 114, 111, 114]) 131), (.type "TimeoutError")⟩, ⟨(hsh P [73, 110, 100, 101, 110, 116, 97, 116, 105, 111, 110, 69, 114, 114, 111, 114]), (.str (s [73, 110, 100, 101, 110, 116, 97, 116, 105, 111, 110, 69, 114, 114, 111, 114]) 132), (.type "IndentationError")⟩, ⟨(hsh P [95, 73, 110, 99, 111, 109, 112, 108, 101, 116, 101, 73, 110, 112, 117, 116, 69, 114, 114, 111, 114]), (.str (s [95, 73, 110, 99, 111, 109, 112, 108, 101, 116, 101, 73, 110, 112, 117, 116, 69, 114, 114, 111, 114]) 133), (.type "_IncompleteInputError")⟩, ⟨(hsh P [73, 110, 100, 101, 120, 69, 114, 114, 111, 114]), (.str (s [73, 110, 100, 101, 120, 69, 114, 114, 111, 114]) 134), (.type "IndexError")⟩, ⟨(hsh P [75, 101, 121, 69, 114, 114, 111, 114]), (.str (s [75, 101, 121, 69, 114, 114, 111, 114]) 135), (.type "KeyError")⟩, ⟨(hsh P [77, 111, 100, 117, 108, 101, 78, 111, 116, 70, 111, 117, 110, 100, 69, 114, 114, 111, 114]), (.str (s [77, 111, 100, 117, 108, 101, 78, 111, 116, 70, 111, 117, 110, 100, 69, 114, 114, 111, 114]) 136), (.type "ModuleNotFoundError")⟩, ⟨(hsh P [78, 111, 116, 73, 109, 112, 108, 101, 109, 101, 110, 116, 101, 100, 69, 114, 114, 111, 114]), (.str (s [78, 111, 116, 73, 109, 112, 108, 101, 109, 101, 110, 116, 101, 100, 69, 114, 114, 111, 114]) 137), (.type "NotImplementedError")⟩, ⟨(hsh P [80, 121, 116, 104, 111, 110, 70, 105, 110, 97, 108, 105, 122, 97, 116, 105, 111, 110, 69, 114, 114, 111, 114]), (.str (s [80, 121, 116, 104, 111, 110, 70, 105, 110, 97, 108, 105, 122, 97, 116, 105, 111, 110, 69, 114, 114, 111, 114]) 138), (.type "PythonFinalizationError")⟩, ⟨(hsh P [82, 101, 99, 117, 114, 115, 105, 111, 110, 69, 114, 114, 111, 114]), (.str (s [82, 101, 99, 117, 114, 115, 105, 111, 110, 69, 114, 114, 111, 114]) 139), (.type "RecursionError")⟩, ⟨(hsh P [85, 110, 98, 111, 117, 110, 100, 76, 111, 99, 97, 108, 69, 114, 114, 111, 114]), (.str (s [85, 110, 98, 111, 117, 110, 100, 76, 111, 99, 97, 108, 69, 114, 114, 111, 114]) 140), (.type "UnboundLocalError")⟩, ⟨(hsh P [85, 110, 105, 99, 111, 100, 101, 69, 114, 114, 111, 114]), (.str (s [85, 110, 105, 99, 111, 100, 101, 69, 114, 114, 111, 114]) 141), (.type "UnicodeError")⟩, ⟨(hsh P [66, 114, 111, 107, 101, 110, 80, 105, 112, 101, 69, 114, 114, 111, 114]), (.str (s [66, 114, 111, 107, 101, 110, 80, 105, 112, 101, 69, 114, 114, 111, 114]) 142), (.type "BrokenPipeError")⟩, ⟨(hsh P [67, 111, 110, 110, 101, 99, 116, 105, 111, 110, 65, 98, 111, 114, 116, 101, 100, 69, 114, 114, 111, 114]), (.str (s [67, 111, 110, 110, 101, 99, 116, 105, 111, 110, 65, 98, 111, 114, 116, 101, 100, 69, 114, 114, 111, 114]) 143), (.type "ConnectionAbortedError")⟩, ⟨(hsh P [67, 111, 110, 110, 101, 99, 116, 105, 111, 110, 82, 101, 102, 117, 115, 101, 100, 69, 114, 114, 111, 114]), (.str (s [67, 111, 110, 110, 101, 99, 116, 105, 111, 110, 82, 101, 102, 117, 115, 101, 100, 69, 114, 114, 111, 114]) 144), (.type "ConnectionRefusedError")⟩, ⟨(hsh P [67, 111, 110, 110, 101, 99, 116, 105, 111, 110, 82, 101, 115, 101, 116, 69, 114, 114, 111, 114]), (.str (s [67, 111, 110, 110, 101, 99, 116, 105, 111, 110, 82, 101, 115, 101, 116, 69, 114, 114, 111, 114]) 145), (.type "ConnectionResetError")⟩, ⟨(hsh P [84, 97, 98, 69, 114, 114, 111, 114]), (.str (s [84, 97, 98, 69, 114, 114, 111, 114]) 146), (.type "TabError")⟩, ⟨(hsh P [85, 110, 105, 99, 111, 100, 101, 68, 101, 99, 111, 100, 101, 69, 114, 114, 111, 114]), (.str (s [85, 110, 105, 99, 111, 100, 101, 68, 101, 99, 111, 100, 101, 69, 114, 114, 111, 114]) 147), (.type "UnicodeDecodeError")⟩, ⟨(hsh P [85, 110, 105, 99, 111, 100, 101, 69, 110, 99, 111, 100, 101, 69, 114, 114, 111, 114]), (.str (s [85, 110, 105, 99, 111, 100, 101, 69, 110, 99, 111, 100, 101, 69, 114, 114, 111, 114]) 148), (.type "UnicodeEncodeError")⟩, ⟨(hsh P [85, 110, 105, 99, 111, 100, 101, 84, 114, 97, 110, 115, 108, 97, 116, 101, 69, 114, 114, 111, 114]), (.str (s [85, 110, 105, 99, 111, 100, 101, 84, 114, 97, 110, 115, 108, 97, 116, 101, 69, 114, 114, 111, 114]) 149), (.type "UnicodeTranslateError")⟩, ⟨(hsh P [69, 120, 99, 101, 112, 116, 105, 111, 110, 71, 114, 111, 117, 112]), (.str (s [69, 120, 99, 101, 112, 116, 105, 111, 110, 71, 114, 111, 117, 112]) 150), (.type "ExceptionGroup")⟩, ⟨(hsh P [69, 110, 118, 105, 114, 111, 110, 109, 101, 110, 116, 69, 114, 114, 111, 114]), (.str (s [69, 110, 118, 105, 114, 111, 110, 109, 101, 110, 116, 69, 114, 114, 111, 114]) 151), (.type "OSError")⟩, ⟨(hsh P [73, 79, 69, 114, 114, 111, 114]), (.str (s [73, 79, 69, 114, 114, 111, 114]) 152), (.type "OSError")⟩, ⟨(hsh P [111, 112, 101, 110]), (.str (s [111, 112, 101, 110]) 153), (.builtin "open")⟩, ⟨(hsh P [113, 117, 105, 116]), (.str (s [113, 117, 105, 116]) 154), (.builtin "builtins.quit#opaque")⟩, ⟨(hsh P [101, 120, 105, 116]), (.str (s [101, 120, 105, 116]) 155), (.builtin "builtins.exit#opaque")⟩, ⟨(hsh P [99, 111, 112, 121, 114, 105, 103, 104, 116]), (.str (s [99, 111, 112, 121, 114, 105, 103, 104, 116]) 156), (.builtin "builtins.copyright#opaque")⟩, ⟨(hsh P [99, 114, 101, 100, 105, 116, 115]), (.str (s [99, 114, 101, 100, 105, 116, 115]) 157), (.builtin "builtins.credits#opaque")⟩, ⟨(hsh P [108, 105, 99, 101, 110, 115, 101]), (.str (s [108, 105, 99, 101, 110, 115, 101]) 158), (.builtin "builtins.license#opaque")⟩, ⟨(hsh P [104, 101, 108, 112]), (.str (s [104, 101, 108, 112]) 159), (.builtin "builtins.help#opaque")⟩]⟩ 159), ⟨[]⟩⟩
noncomputable def o2 (P : Params) : Obj := ⟨.none, none, (.dict ⟨[⟨(hsh P [105, 109, 112, 111, 114, 116, 46, 108, 111, 97, 100, 101, 100, 46, 95, 115, 114, 101]), (.str (s [105, 109, 112, 111, 114, 116, 46, 108, 111, 97, 100, 101, 100, 46, 95, 115, 114, 101]) 183), (.bool true)⟩, ⟨(hsh P [99, 108, 97, 115, 115, 46, 95, 102, 114, 111, 122, 101, 110, 95, 105, 109, 112, 111, 114, 116, 108, 105, 98, 46, 66, 117, 105, 108, 116, 105, 110, 73, 109, 112, 111, 114, 116, 101, 114]), (.str (s [99, 108, 97, 115, 115, 46, 95, 102, 114, 111, 122, 101, 110, 95, 105, 109, 112, 111, 114, 116, 108, 105, 98, 46, 66, 117, 105, 108, 116, 105, 110, 73, 109, 112, 111, 114, 116, 101, 114]) 185), (.ref 14)⟩, ⟨(hsh P [119, 97, 116, 99, 104, 101, 100, 46, 105, 109, 112, 111, 114, 116]), (.str (s [119, 97, 116, 99, 104, 101, 100, 46, 105, 109, 112, 111, 114, 116]) 206), (.ref 18)⟩, ⟨(hsh P [99, 108, 97, 115, 115, 46, 95, 102, 114, 111, 122, 101, 110, 95, 105, 109, 112, 111, 114, 116, 108, 105, 98, 46, 77, 111, 100, 117, 108, 101, 83, 112, 101, 99]), (.str (s [99, 108, 97, 115, 115, 46, 95, 102, 114, 111, 122, 101, 110, 95, 105, 109, 112, 111, 114, 116, 108, 105, 98, 46, 77, 111, 100, 117, 108, 101, 83, 112, 101, 99]) 216), (.ref 22)⟩, ⟨(hsh P [115, 121, 115, 46, 109, 111, 100, 117, 108, 101, 115, 46, 98, 111, 111, 107, 101, 100, 45, 101, 112, 111, 99, 104]), (.str (s [115, 121, 115, 46, 109, 111, 100, 117, 108, 101, 115, 46, 98, 111, 111, 107, 101, 100, 45, 101, 112, 111, 99, 104]) 245), (.int 4 0)⟩, ⟨(hsh P [105, 109, 112, 111, 114, 116, 46, 108, 97, 116, 101, 114, 45, 108, 97, 105, 100, 46, 95, 115, 114, 101]), (.str (s [105, 109, 112, 111, 114, 116, 46, 108, 97, 116, 101, 114, 45, 108, 97, 105, 100, 46, 95, 115, 114, 101]) 270), (.bool true)⟩, ⟨(hsh P [119, 97, 116, 99, 104, 101, 100, 46, 108, 105, 98, 114, 97, 114, 121]), (.str (s [119, 97, 116, 99, 104, 101, 100, 46, 108, 105, 98, 114, 97, 114, 121]) 272), (.ref 27)⟩, ⟨(hsh P [119, 97, 116, 99, 104, 101, 100, 46, 108, 105, 98, 114, 97, 114, 121, 45, 111, 98, 106, 101, 99, 116, 115]), (.str (s [119, 97, 116, 99, 104, 101, 100, 46, 108, 105, 98, 114, 97, 114, 121, 45, 111, 98, 106, 101, 99, 116, 115]) 0), (.str (s [12, 30]) 0)⟩, ⟨(hsh P [119, 97, 116, 99, 104, 101, 100, 46, 108, 105, 98, 114, 97, 114, 121, 45, 100, 101, 101, 112, 46, 95, 115, 114, 101]), (.str (s [119, 97, 116, 99, 104, 101, 100, 46, 108, 105, 98, 114, 97, 114, 121, 45, 100, 101, 101, 112, 46, 95, 115, 114, 101]) 273), (.str (s [4, 0, 0, 11, 4, 0, 0, 11, 4, 0, 0, 3, 4, 0, 0, 11, 8, 4, 100, 105, 99, 116, 2]) 0)⟩, ⟨(hsh P [105, 109, 112, 111, 114, 116, 46, 108, 111, 97, 100, 101, 100, 46, 95, 99, 111, 108, 108, 101, 99, 116, 105, 111, 110, 115]), (.str (s [105, 109, 112, 111, 114, 116, 46, 108, 111, 97, 100, 101, 100, 46, 95, 99, 111, 108, 108, 101, 99, 116, 105, 111, 110, 115]) 280), (.bool true)⟩, ⟨(hsh P [115, 121, 115, 46, 109, 111, 100, 117, 108, 101, 115, 46, 108, 97, 110, 100, 101, 100, 46, 95, 99, 111, 108, 108, 101, 99, 116, 105, 111, 110, 115]), (.str (s [115, 121, 115, 46, 109, 111, 100, 117, 108, 101, 115, 46, 108, 97, 110, 100, 101, 100, 46, 95, 99, 111, 108, 108, 101, 99, 116, 105, 111, 110, 115]) 294), (.bool true)⟩, ⟨(hsh P [105, 109, 112, 111, 114, 116, 46, 108, 97, 116, 101, 114, 45, 108, 97, 105, 100, 46, 95, 99, 111, 108, 108, 101, 99, 116, 105, 111, 110, 115]), (.str (s [105, 109, 112, 111, 114, 116, 46, 108, 97, 116, 101, 114, 45, 108, 97, 105, 100, 46, 95, 99, 111, 108, 108, 101, 99, 116, 105, 111, 110, 115]) 309), (.bool true)⟩, ⟨(hsh P [119, 97, 116, 99, 104, 101, 100, 46, 108, 105, 98, 114, 97, 114, 121, 45, 100, 101, 101, 112, 46, 95, 99, 111, 108, 108, 101, 99, 116, 105, 111, 110, 115]), (.str (s [119, 97, 116, 99, 104, 101, 100, 46, 108, 105, 98, 114, 97, 114, 121, 45, 100, 101, 101, 112, 46, 95, 99, 111, 108, 108, 101, 99, 116, 105, 111, 110, 115]) 311), (.str (s [4, 0, 0, 29, 4, 0, 0, 29, 4, 0, 0, 3, 4, 0, 0, 29, 8, 4, 100, 105, 99, 116, 2]) 0)⟩, ⟨(hsh P [116, 121, 112, 101, 46, 95, 95, 115, 117, 98, 99, 108, 97, 115, 115, 101, 115, 95, 95, 46, 79, 83, 69, 114, 114, 111, 114, 46, 48]), (.str (s [116, 121, 112, 101, 46, 95, 95, 115, 117, 98, 99, 108, 97, 115, 115, 101, 115, 95, 95, 46, 79, 83, 69, 114, 114, 111, 114, 46, 48]) 413), (.int 81 0)⟩, ⟨(hsh P [116, 121, 112, 101, 46, 95, 95, 115, 117, 98, 99, 108, 97, 115, 115, 101, 115, 95, 95, 46, 79, 83, 69, 114, 114, 111, 114, 46, 110]), (.str (s [116, 121, 112, 101, 46, 95, 95, 115, 117, 98, 99, 108, 97, 115, 115, 101, 115, 95, 95, 46, 79, 83, 69, 114, 114, 111, 114, 46, 110]) 414), (.int 1 0)⟩]⟩ 15), ⟨[]⟩⟩
noncomputable def o3 (P : Params) : Obj := ⟨(.type "dict"), none, (.dict ⟨[⟨(hsh P [95, 95, 110, 97, 109, 101, 95, 95]), (.str (s [95, 95, 110, 97, 109, 101, 95, 95]) 165), (.str (s [108, 97, 119, 95, 111, 109, 48, 49, 52, 48, 95, 48, 49]) 1318)⟩, ⟨(hsh P [95, 95, 100, 111, 99, 95, 95]), (.str (s [95, 95, 100, 111, 99, 95, 95]) 166), .none⟩, ⟨(hsh P [95, 95, 112, 97, 99, 107, 97, 103, 101, 95, 95]), (.str (s [95, 95, 112, 97, 99, 107, 97, 103, 101, 95, 95]) 167), .none⟩, ⟨(hsh P [95, 95, 108, 111, 97, 100, 101, 114, 95, 95]), (.str (s [95, 95, 108, 111, 97, 100, 101, 114, 95, 95]) 168), (.builtin "__main__.__loader__#opaque")⟩, ⟨(hsh P [95, 95, 115, 112, 101, 99, 95, 95]), (.str (s [95, 95, 115, 112, 101, 99, 95, 95]) 169), .none⟩, ⟨(hsh P [95, 95, 97, 110, 110, 111, 116, 97, 116, 105, 111, 110, 115, 95, 95]), (.str (s [95, 95, 97, 110, 110, 111, 116, 97, 116, 105, 111, 110, 115, 95, 95]) 170), (.ref 6)⟩, ⟨(hsh P [95, 95, 98, 117, 105, 108, 116, 105, 110, 115, 95, 95]), (.str (s [95, 95, 98, 117, 105, 108, 116, 105, 110, 115, 95, 95]) 171), (.ref 4)⟩, ⟨(hsh P [95, 95, 102, 105, 108, 101, 95, 95]), (.str (s [95, 95, 102, 105, 108, 101, 95, 95]) 173), (.str (s [47, 99, 108, 97, 105, 109, 47, 99, 117, 116, 46, 112, 121]) 172)⟩, ⟨(hsh P [95, 95, 99, 97, 99, 104, 101, 100, 95, 95]), (.str (s [95, 95, 99, 97, 99, 104, 101, 100, 95, 95]) 174), .none⟩, ⟨(hsh P [95, 115, 114, 101]), (.str (s [95, 115, 114, 101]) 275), (.ref 12)⟩, ⟨(hsh P [100, 101, 113, 117, 101]), (.str (s [100, 101, 113, 117, 101]) 317), (.type "collections.deque")⟩, ⟨(hsh P [95, 119, 97, 108, 108]), (.str (s [95, 119, 97, 108, 108]) 330), (.ref 44)⟩, ⟨(hsh P [116, 115, 112, 101, 99, 105, 97, 108, 115]), (.str (s [116, 115, 112, 101, 99, 105, 97, 108, 115]) 366), (.ref 49)⟩, ⟨(hsh P [95, 102, 111, 114, 109, 97, 116, 112, 97, 114, 97, 109]), (.str (s [95, 102, 111, 114, 109, 97, 116, 112, 97, 114, 97, 109]) 376), (.ref 57)⟩, ⟨(hsh P [95, 119, 104, 101, 110, 99, 101]), (.str (s [95, 119, 104, 101, 110, 99, 101]) 386), (.ref 64)⟩, ⟨(hsh P [95, 105, 110, 100, 101, 120]), (.str (s [95, 105, 110, 100, 101, 120]) 394), (.ref 71)⟩, ⟨(hsh P [85, 110, 115, 117, 112, 112, 111, 114, 116, 101, 100, 79, 112, 101, 114, 97, 116, 105, 111, 110]), (.str (s [85, 110, 115, 117, 112, 112, 111, 114, 116, 101, 100, 79, 112, 101, 114, 97, 116, 105, 111, 110]) 416), (.ref 81)⟩, ⟨(hsh P [73, 79, 66, 97, 115, 101]), (.str (s [73, 79, 66, 97, 115, 101]) 448), (.ref 101)⟩, ⟨(hsh P [66, 117, 102, 102, 101, 114, 101, 100, 73, 79, 66, 97, 115, 101]), (.str (s [66, 117, 102, 102, 101, 114, 101, 100, 73, 79, 66, 97, 115, 101]) 466), (.ref 116)⟩, ⟨(hsh P [84, 101, 120, 116, 73, 79, 66, 97, 115, 101]), (.str (s [84, 101, 120, 116, 73, 79, 66, 97, 115, 101]) 484), (.ref 128)⟩, ⟨(hsh P [66, 121, 116, 101, 115, 73, 79]), (.str (s [66, 121, 116, 101, 115, 73, 79]) 746), (.ref 358)⟩, ⟨(hsh P [83, 116, 114, 105, 110, 103, 73, 79]), (.str (s [83, 116, 114, 105, 110, 103, 73, 79]) 1033), (.ref 605)⟩, ⟨(hsh P [95, 107, 105, 110, 100]), (.str (s [95, 107, 105, 110, 100]) 1044), (.ref 614)⟩, ⟨(hsh P [95, 102, 115, 112, 97, 116, 104]), (.str (s [95, 102, 115, 112, 97, 116, 104]) 1053), (.ref 621)⟩, ⟨(hsh P [95, 99, 104, 101, 99, 107, 95, 97, 114, 103, 95, 116, 121, 112, 101, 115]), (.str (s [95, 99, 104, 101, 99, 107, 95, 97, 114, 103, 95, 116, 121, 112, 101, 115]) 1063), (.ref 628)⟩, ⟨(hsh P [105, 115, 97, 98, 115]), (.str (s [105, 115, 97, 98, 115]) 1070), (.ref 635)⟩, ⟨(hsh P [106, 111, 105, 110]), (.str (s [106, 111, 105, 110]) 1081), (.ref 642)⟩, ⟨(hsh P [100, 105, 114, 110, 97, 109, 101]), (.str (s [100, 105, 114, 110, 97, 109, 101]) 1091), (.ref 649)⟩, ⟨(hsh P [115, 104, 108, 101, 120]), (.str (s [115, 104, 108, 101, 120]) 1232), (.ref 740)⟩, ⟨(hsh P [83, 95, 73, 70, 77, 84]), (.str (s [83, 95, 73, 70, 77, 84]) 1241), (.ref 751)⟩, ⟨(hsh P [83, 95, 73, 70, 68, 73, 82]), (.str (s [83, 95, 73, 70, 68, 73, 82]) 1243), (.int 16384 1242)⟩, ⟨(hsh P [83, 95, 73, 70, 67, 72, 82]), (.str (s [83, 95, 73, 70, 67, 72, 82]) 1245), (.int 8192 1244)⟩, ⟨(hsh P [83, 95, 73, 70, 66, 76, 75]), (.str (s [83, 95, 73, 70, 66, 76, 75]) 1247), (.int 24576 1246)⟩, ⟨(hsh P [83, 95, 73, 70, 82, 69, 71]), (.str (s [83, 95, 73, 70, 82, 69, 71]) 1249), (.int 32768 1248)⟩, ⟨(hsh P [83, 95, 73, 70, 73, 70, 79]), (.str (s [83, 95, 73, 70, 73, 70, 79]) 1251), (.int 4096 1250)⟩, ⟨(hsh P [83, 95, 73, 70, 76, 78, 75]), (.str (s [83, 95, 73, 70, 76, 78, 75]) 1253), (.int 40960 1252)⟩, ⟨(hsh P [83, 95, 73, 70, 83, 79, 67, 75]), (.str (s [83, 95, 73, 70, 83, 79, 67, 75]) 1255), (.int 49152 1254)⟩, ⟨(hsh P [83, 95, 73, 83, 85, 73, 68]), (.str (s [83, 95, 73, 83, 85, 73, 68]) 1257), (.int 2048 1256)⟩, ⟨(hsh P [83, 95, 73, 83, 71, 73, 68]), (.str (s [83, 95, 73, 83, 71, 73, 68]) 1259), (.int 1024 1258)⟩, ⟨(hsh P [83, 95, 73, 83, 86, 84, 88]), (.str (s [83, 95, 73, 83, 86, 84, 88]) 1261), (.int 512 1260)⟩, ⟨(hsh P [83, 95, 73, 82, 85, 83, 82]), (.str (s [83, 95, 73, 82, 85, 83, 82]) 1263), (.int 256 1262)⟩, ⟨(hsh P [83, 95, 73, 87, 85, 83, 82]), (.str (s [83, 95, 73, 87, 85, 83, 82]) 1265), (.int 128 1264)⟩, ⟨(hsh P [83, 95, 73, 88, 85, 83, 82]), (.str (s [83, 95, 73, 88, 85, 83, 82]) 1267), (.int 64 1266)⟩, ⟨(hsh P [83, 95, 73, 82, 71, 82, 80]), (.str (s [83, 95, 73, 82, 71, 82, 80]) 1269), (.int 32 1268)⟩, ⟨(hsh P [83, 95, 73, 87, 71, 82, 80]), (.str (s [83, 95, 73, 87, 71, 82, 80]) 1271), (.int 16 1270)⟩, ⟨(hsh P [83, 95, 73, 88, 71, 82, 80]), (.str (s [83, 95, 73, 88, 71, 82, 80]) 1273), (.int 8 1272)⟩, ⟨(hsh P [83, 95, 73, 82, 79, 84, 72]), (.str (s [83, 95, 73, 82, 79, 84, 72]) 1275), (.int 4 1274)⟩, ⟨(hsh P [83, 95, 73, 87, 79, 84, 72]), (.str (s [83, 95, 73, 87, 79, 84, 72]) 1277), (.int 2 1276)⟩, ⟨(hsh P [83, 95, 73, 88, 79, 84, 72]), (.str (s [83, 95, 73, 88, 79, 84, 72]) 1279), (.int 1 1278)⟩, ⟨(hsh P [95, 102, 105, 108, 101, 109, 111, 100, 101, 95, 116, 97, 98, 108, 101]), (.str (s [95, 102, 105, 108, 101, 109, 111, 100, 101, 95, 116, 97, 98, 108, 101]) 1305), (.ref 784)⟩, ⟨(hsh P [102, 105, 108, 101, 109, 111, 100, 101]), (.str (s [102, 105, 108, 101, 109, 111, 100, 101]) 1317), (.ref 791)⟩, ⟨(hsh P [95, 108, 97, 119, 95, 114, 111, 119]), (.str (s [95, 108, 97, 119, 95, 114, 111, 119]) 1330), (.ref 798)⟩, ⟨(hsh P [95, 108, 97, 119, 95, 116, 101, 120, 116]), (.str (s [95, 108, 97, 119, 95, 116, 101, 120, 116]) 1336), (.ref 803)⟩, ⟨(hsh P [95, 108, 97, 119, 95, 114, 117, 110, 115]), (.str (s [95, 108, 97, 119, 95, 114, 117, 110, 115]) 1342), (.ref 808)⟩, ⟨(hsh P [95, 108, 97, 119, 95, 119, 114, 97, 112, 112, 101, 100]), (.str (s [95, 108, 97, 119, 95, 119, 114, 97, 112, 112, 101, 100]) 1351), (.ref 815)⟩, ⟨(hsh P [95, 108, 97, 119, 95, 114, 101, 97, 100, 105, 110, 103, 115]), (.str (s [95, 108, 97, 119, 95, 114, 101, 97, 100, 105, 110, 103, 115]) 1362), (.ref 822)⟩, ⟨(hsh P [95, 108, 97, 119, 95, 100, 117, 101]), (.str (s [95, 108, 97, 119, 95, 100, 117, 101]) 1368), (.ref 827)⟩, ⟨(hsh P [108, 97, 119]), (.str (s [108, 97, 119]) 1381), (.ref 834)⟩]⟩ 58), ⟨[]⟩⟩
noncomputable def o48 (P : Params) : Obj := ⟨(.type "tuple"), none, (.seq ⟨[(.int 14 0), (.int 14 0), (.int 4 0), (.int 1 0), (.int 1 0), (.int 9 0), (.int 0 0), (.int 4227896069 0), (.int 939524097 0), (.int 0 0), (.int 0 0), (.int 0 0), (.int 0 0), (.int 0 0), (.int 0 0), (.int 13 0), (.int 11 0), (.int 9 0), (.int 0 0), (.int 4227896069 0), (.int 939524097 0), (.int 0 0), (.int 0 0), (.int 0 0), (.int 0 0), (.int 0 0), (.int 0 0), (.int 1 0)]⟩ 0), ⟨[]⟩⟩
noncomputable def o49 (P : Params) : Obj := ⟨(.type "re.Pattern"), none, (.fields ⟨[(.str (s [91, 32, 92, 40, 92, 41, 60, 62, 64, 44, 59, 58, 92, 92, 34, 47, 92, 91, 92, 93, 92, 63, 61, 93]) 334), (.int 32 365), (.int 0 0), .none, .none, (.ref 48), (.int 0 0)]⟩), ⟨[]⟩⟩
noncomputable def o50 (P : Params) : Obj := ⟨(.type "tuple"), none, (.seq ⟨[.none, (.int 1 367)]⟩ 0), ⟨[]⟩⟩
noncomputable def o56 (P : Params) : Obj := ⟨(.type "code"), none, (.fields ⟨[(.str (s [95, 102, 111, 114, 109, 97, 116, 112, 97, 114, 97, 109]) 368), (.str (s [95, 102, 111, 114, 109, 97, 116, 112, 97, 114, 97, 109]) 369), (.str (s [47, 99, 108, 97, 105, 109, 47, 99, 117, 116, 46, 112, 121]) 370), (.int 8 0), (.int 3 0), (.int 0 0), (.int 0 0), (.int 3 0), (.ref 51), (.bool true), (.int 318 0), (.ref 52), .none, (.ref 53), (.ref 54), (.ref 55), (.int 374 0), (.int 8 0), (.str (s [47, 99, 108, 97, 105, 109, 47, 99, 117, 116, 46, 112, 121]) 375)]⟩), ⟨[]⟩⟩
noncomputable def o57 (P : Params) : Obj := ⟨(.type "function"), none, (.func (fn (st [5]) (s [95, 102, 111, 114, 109, 97, 116, 112, 97, 114, 97, 109]) 3 (.ref 50) .none .none (.str (s [99, 112, 121, 51, 49, 51, 46, 119, 115, 103, 105, 114, 101, 102, 46, 104, 101, 97, 100, 101, 114, 115]) 331) none (.ref 56) .none 0)), ⟨[]⟩⟩
noncomputable def o70 (P : Params) : Obj := ⟨(.type "code"), none, (.fields ⟨[(.str (s [95, 105, 110, 100, 101, 120]) 387), (.str (s [95, 105, 110, 100, 101, 120]) 388), (.str (s [47, 99, 108, 97, 105, 109, 47, 99, 117, 116, 46, 112, 121]) 389), (.int 23 0), (.int 2 0), (.int 0 0), (.int 0 0), (.int 3 0), (.ref 65), (.bool true), (.int 318 0), (.ref 66), .none, (.ref 67), (.ref 68), (.ref 69), (.int 392 0), (.int 23 0), (.str (s [47, 99, 108, 97, 105, 109, 47, 99, 117, 116, 46, 112, 121]) 393)]⟩), ⟨[]⟩⟩
noncomputable def o71 (P : Params) : Obj := ⟨(.type "function"), none, (.func (fn (st [8]) (s [95, 105, 110, 100, 101, 120]) 3 .none .none .none (.str (s [105, 111]) 377) none (.ref 70) .none 0)), ⟨[]⟩⟩
noncomputable def o97 (P : Params) : Obj := ⟨(.type "code"), none, (.fields ⟨[(.str (s [95, 95, 110, 101, 119, 95, 95]) 431), (.str (s [73, 79, 66, 97, 115, 101, 46, 95, 95, 110, 101, 119, 95, 95]) 432), (.str (s [47, 99, 108, 97, 105, 109, 47, 99, 117, 116, 46, 112, 121]) 433), (.int 35 0), (.int 1 0), (.int 1 0), (.int 0 0), (.int 15 0), (.ref 92), (.bool true), (.int 318 0), (.ref 93), .none, (.ref 94), (.ref 95), (.ref 96), (.int 437 0), (.int 35 0), (.str (s [47, 99, 108, 97, 105, 109, 47, 99, 117, 116, 46, 112, 121]) 438)]⟩), ⟨[]⟩⟩
noncomputable def o98 (P : Params) : Obj := ⟨(.type "function"), none, (.func (fn (st [10, 1]) (s [73, 79, 66, 97, 115, 101, 46, 95, 95, 110, 101, 119, 95, 95]) 3 .none .none .none (.str (s [105, 111]) 377) none (.ref 97) .none 0)), ⟨[]⟩⟩
noncomputable def o100 (P : Params) : Obj := ⟨(.type "dict"), none, (.dict ⟨[⟨(hsh P [95, 95, 109, 111, 100, 117, 108, 101, 95, 95]), (.str (s [95, 95, 109, 111, 100, 117, 108, 101, 95, 95]) 424), (.str (s [105, 111]) 429)⟩, ⟨(hsh P [95, 95, 102, 105, 114, 115, 116, 108, 105, 110, 101, 110, 111, 95, 95]), (.str (s [95, 95, 102, 105, 114, 115, 116, 108, 105, 110, 101, 110, 111, 95, 95]) 428), (.int 32 427)⟩, ⟨(hsh P [95, 95, 110, 101, 119, 95, 95]), (.str (s [95, 95, 110, 101, 119, 95, 95]) 439), (.ref 102)⟩, ⟨(hsh P [95, 95, 115, 116, 97, 116, 105, 99, 95, 97, 116, 116, 114, 105, 98, 117, 116, 101, 115, 95, 95]), (.str (s [95, 95, 115, 116, 97, 116, 105, 99, 95, 97, 116, 116, 114, 105, 98, 117, 116, 101, 115, 95, 95]) 440), (.ref 99)⟩, ⟨(hsh P [95, 95, 100, 105, 99, 116, 95, 95]), (.str (s [95, 95, 100, 105, 99, 116, 95, 95]) 443), (.ref 103)⟩, ⟨(hsh P [95, 95, 119, 101, 97, 107, 114, 101, 102, 95, 95]), (.str (s [95, 95, 119, 101, 97, 107, 114, 101, 102, 95, 95]) 445), (.ref 104)⟩, ⟨(hsh P [95, 95, 100, 111, 99, 95, 95]), (.str (s [95, 95, 100, 111, 99, 95, 95]) 446), .none⟩]⟩ 4), ⟨[]⟩⟩
noncomputable def o101 (P : Params) : Obj := ⟨(.type "type"), none, (.cls { name := (s [73, 79, 66, 97, 115, 101]), bases := [(.type "object")], mro := [(.ref 101), (.type "object")], ns := 100, qualname := (s [73, 79, 66, 97, 115, 101]), hasDict := true, slotNames := [], subclasses := [(.ref 116), (.ref 128)], abstract := false, collection := none, hasDel := false }), ⟨[none, none, (some (.str (s [73, 79, 66, 97, 115, 101]) 417)), (some (.str (s [73, 79, 66, 97, 115, 101]) 425)), (some .none), (some (.bool true))]⟩⟩
noncomputable def o102 (P : Params) : Obj := ⟨(.type "staticmethod"), none, (.fields ⟨[(.ref 98)]⟩), ⟨[]⟩⟩
noncomputable def o127 (P : Params) : Obj := ⟨(.type "dict"), none, (.dict ⟨[⟨(hsh P [95, 95, 109, 111, 100, 117, 108, 101, 95, 95]), (.str (s [95, 95, 109, 111, 100, 117, 108, 101, 95, 95]) 474), (.str (s [105, 111]) 479)⟩, ⟨(hsh P [95, 95, 102, 105, 114, 115, 116, 108, 105, 110, 101, 110, 111, 95, 95]), (.str (s [95, 95, 102, 105, 114, 115, 116, 108, 105, 110, 101, 110, 111, 95, 95]) 478), (.int 41 477)⟩, ⟨(hsh P [95, 95, 115, 116, 97, 116, 105, 99, 95, 97, 116, 116, 114, 105, 98, 117, 116, 101, 115, 95, 95]), (.str (s [95, 95, 115, 116, 97, 116, 105, 99, 95, 97, 116, 116, 114, 105, 98, 117, 116, 101, 115, 95, 95]) 481), (.ref 126)⟩, ⟨(hsh P [95, 95, 100, 111, 99, 95, 95]), (.str (s [95, 95, 100, 111, 99, 95, 95]) 482), .none⟩]⟩ 2), ⟨[]⟩⟩
noncomputable def o128 (P : Params) : Obj := ⟨(.type "type"), none, (.cls { name := (s [84, 101, 120, 116, 73, 79, 66, 97, 115, 101]), bases := [(.ref 101)], mro := [(.ref 128), (.ref 101), (.type "object")], ns := 127, qualname := (s [84, 101, 120, 116, 73, 79, 66, 97, 115, 101]), hasDict := true, slotNames := [], subclasses := [(.ref 605)], abstract := false, collection := none, hasDel := false }), ⟨[(some (.ref 119)), none, (some (.str (s [84, 101, 120, 116, 73, 79, 66, 97, 115, 101]) 467)), (some (.str (s [84, 101, 120, 116, 73, 79, 66, 97, 115, 101]) 475)), (some .none), (some (.bool true))]⟩⟩
noncomputable def o358 (P : Params) : Obj := ⟨(.type "type"), none, (.cls { name := (s [66, 121, 116, 101, 115, 73, 79]), bases := [(.ref 116)], mro := [(.ref 358), (.ref 116), (.ref 101), (.type "object")], ns := 357, qualname := (s [66, 121, 116, 101, 115, 73, 79]), hasDict := true, slotNames := [], subclasses := [], abstract := false, collection := none, hasDel := false }), ⟨[(some (.ref 131)), none, (some (.str (s [66, 121, 116, 101, 115, 73, 79]) 485)), (some (.str (s [66, 121, 116, 101, 115, 73, 79]) 493)), (some .none), (some (.bool true))]⟩⟩
noncomputable def o368 (P : Params) : Obj := ⟨(.type "tuple"), none, (.seq ⟨[(.str (s []) 761), (.str (s [10]) 762)]⟩ 0), ⟨[]⟩⟩
noncomputable def o374 (P : Params) : Obj := ⟨(.type "code"), none, (.fields ⟨[(.str (s [95, 95, 105, 110, 105, 116, 95, 95]) 763), (.str (s [83, 116, 114, 105, 110, 103, 73, 79, 46, 95, 95, 105, 110, 105, 116, 95, 95]) 764), (.str (s [47, 99, 108, 97, 105, 109, 47, 99, 117, 116, 46, 112, 121]) 765), (.int 216 0), (.int 3 0), (.int 0 0), (.int 0 0), (.int 3 0), (.ref 369), (.bool true), (.int 318 0), (.ref 370), .none, (.ref 371), (.ref 372), (.ref 373), (.int 769 0), (.int 216 0), (.str (s [47, 99, 108, 97, 105, 109, 47, 99, 117, 116, 46, 112, 121]) 770)]⟩), ⟨[]⟩⟩
noncomputable def o375 (P : Params) : Obj := ⟨(.type "function"), none, (.func (fn (st [14, 1]) (s [83, 116, 114, 105, 110, 103, 73, 79, 46, 95, 95, 105, 110, 105, 116, 95, 95]) 3 (.ref 368) .none .none (.str (s [105, 111]) 377) none (.ref 374) .none 0)), ⟨[]⟩⟩
noncomputable def o381 (P : Params) : Obj := ⟨(.type "code"), none, (.fields ⟨[(.str (s [95, 95, 116, 114, 97, 110, 115, 108, 97, 116, 101, 100]) 772), (.str (s [83, 116, 114, 105, 110, 103, 73, 79, 46, 95, 95, 116, 114, 97, 110, 115, 108, 97, 116, 101, 100]) 773), (.str (s [47, 99, 108, 97, 105, 109, 47, 99, 117, 116, 46, 112, 121]) 774), (.int 229 0), (.int 2 0), (.int 0 0), (.int 0 0), (.int 3 0), (.ref 376), (.bool true), (.int 318 0), (.ref 377), .none, (.ref 378), (.ref 379), (.ref 380), (.int 778 0), (.int 229 0), (.str (s [47, 99, 108, 97, 105, 109, 47, 99, 117, 116, 46, 112, 121]) 779)]⟩), ⟨[]⟩⟩
noncomputable def o382 (P : Params) : Obj := ⟨(.type "function"), none, (.func (fn (st [14, 2]) (s [83, 116, 114, 105, 110, 103, 73, 79, 46, 95, 95, 116, 114, 97, 110, 115, 108, 97, 116, 101, 100]) 3 .none .none .none (.str (s [105, 111]) 377) none (.ref 381) .none 0)), ⟨[]⟩⟩
noncomputable def o388 (P : Params) : Obj := ⟨(.type "code"), none, (.fields ⟨[(.str (s [95, 95, 99, 104, 101, 99, 107]) 781), (.str (s [83, 116, 114, 105, 110, 103, 73, 79, 46, 95, 95, 99, 104, 101, 99, 107]) 782), (.str (s [47, 99, 108, 97, 105, 109, 47, 99, 117, 116, 46, 112, 121]) 783), (.int 237 0), (.int 1 0), (.int 0 0), (.int 0 0), (.int 3 0), (.ref 383), (.bool true), (.int 318 0), (.ref 384), .none, (.ref 385), (.ref 386), (.ref 387), (.int 785 0), (.int 237 0), (.str (s [47, 99, 108, 97, 105, 109, 47, 99, 117, 116, 46, 112, 121]) 786)]⟩), ⟨[]⟩⟩
noncomputable def o389 (P : Params) : Obj := ⟨(.type "function"), none, (.func (fn (st [14, 3]) (s [83, 116, 114, 105, 110, 103, 73, 79, 46, 95, 95, 99, 104, 101, 99, 107]) 3 .none .none .none (.str (s [105, 111]) 377) none (.ref 388) .none 0)), ⟨[]⟩⟩
noncomputable def o544 (P : Params) : Obj := ⟨(.type "tuple"), none, (.seq ⟨[(.int (-1) 954)]⟩ 0), ⟨[]⟩⟩
noncomputable def o550 (P : Params) : Obj := ⟨(.type "code"), none, (.fields ⟨[(.str (s [114, 101, 97, 100]) 955), (.str (s [83, 116, 114, 105, 110, 103, 73, 79, 46, 114, 101, 97, 100]) 956), (.str (s [47, 99, 108, 97, 105, 109, 47, 99, 117, 116, 46, 112, 121]) 957), (.int 359 0), (.int 2 0), (.int 2 0), (.int 0 0), (.int 3 0), (.ref 545), (.bool true), (.int 318 0), (.ref 546), .none, (.ref 547), (.ref 548), (.ref 549), (.int 962 0), (.int 359 0), (.str (s [47, 99, 108, 97, 105, 109, 47, 99, 117, 116, 46, 112, 121]) 963)]⟩), ⟨[]⟩⟩
noncomputable def o551 (P : Params) : Obj := ⟨(.type "function"), none, (.func (fn (st [14, 25]) (s [83, 116, 114, 105, 110, 103, 73, 79, 46, 114, 101, 97, 100]) 3 (.ref 544) .none .none (.str (s [105, 111]) 377) none (.ref 550) .none 0)), ⟨[]⟩⟩
noncomputable def o604 (P : Params) : Obj := ⟨(.type "dict"), none, (.dict ⟨[⟨(hsh P [95, 95, 109, 111, 100, 117, 108, 101, 95, 95]), (.str (s [95, 95, 109, 111, 100, 117, 108, 101, 95, 95]) 754), (.str (s [95, 105, 111]) 759)⟩, ⟨(hsh P [95, 95, 102, 105, 114, 115, 116, 108, 105, 110, 101, 110, 111, 95, 95]), (.str (s [95, 95, 102, 105, 114, 115, 116, 108, 105, 110, 101, 110, 111, 95, 95]) 758), (.int 213 757)⟩, ⟨(hsh P [95, 95, 105, 110, 105, 116, 95, 95]), (.str (s [95, 95, 105, 110, 105, 116, 95, 95]) 771), (.ref 375)⟩, ⟨(hsh P [95, 83, 116, 114, 105, 110, 103, 73, 79, 95, 95, 116, 114, 97, 110, 115, 108, 97, 116, 101, 100]), (.str (s [95, 83, 116, 114, 105, 110, 103, 73, 79, 95, 95, 116, 114, 97, 110, 115, 108, 97, 116, 101, 100]) 780), (.ref 382)⟩, ⟨(hsh P [95, 83, 116, 114, 105, 110, 103, 73, 79, 95, 95, 99, 104, 101, 99, 107]), (.str (s [95, 83, 116, 114, 105, 110, 103, 73, 79, 95, 95, 99, 104, 101, 99, 107]) 787), (.ref 389)⟩, ⟨(hsh P [95, 83, 116, 114, 105, 110, 103, 73, 79, 95, 95, 99, 104, 101, 99, 107, 95, 100, 111, 116]), (.str (s [95, 83, 116, 114, 105, 110, 103, 73, 79, 95, 95, 99, 104, 101, 99, 107, 95, 100, 111, 116]) 794), (.ref 396)⟩, ⟨(hsh P [95, 83, 116, 114, 105, 110, 103, 73, 79, 95, 95, 108, 105, 110, 101]), (.str (s [95, 83, 116, 114, 105, 110, 103, 73, 79, 95, 95, 108, 105, 110, 101]) 809), (.ref 403)⟩, ⟨(hsh P [99, 108, 111, 115, 101, 100]), (.str (s [99, 108, 111, 115, 101, 100]) 817), (.ref 411)⟩, ⟨(hsh P [108, 105, 110, 101, 95, 98, 117, 102, 102, 101, 114, 105, 110, 103]), (.str (s [108, 105, 110, 101, 95, 98, 117, 102, 102, 101, 114, 105, 110, 103]) 825), (.ref 419)⟩, ⟨(hsh P [110, 101, 119, 108, 105, 110, 101, 115]), (.str (s [110, 101, 119, 108, 105, 110, 101, 115]) 833), (.ref 427)⟩, ⟨(hsh P [101, 110, 99, 111, 100, 105, 110, 103]), (.str (s [101, 110, 99, 111, 100, 105, 110, 103]) 841), (.ref 435)⟩, ⟨(hsh P [101, 114, 114, 111, 114, 115]), (.str (s [101, 114, 114, 111, 114, 115]) 849), (.ref 443)⟩, ⟨(hsh P [99, 108, 111, 115, 101]), (.str (s [99, 108, 111, 115, 101]) 856), (.ref 450)⟩, ⟨(hsh P [95, 95, 101, 110, 116, 101, 114, 95, 95]), (.str (s [95, 95, 101, 110, 116, 101, 114, 95, 95]) 863), (.ref 457)⟩, ⟨(hsh P [95, 95, 101, 120, 105, 116, 95, 95]), (.str (s [95, 95, 101, 120, 105, 116, 95, 95]) 871), (.ref 464)⟩, ⟨(hsh P [114, 101, 97, 100, 97, 98, 108, 101]), (.str (s [114, 101, 97, 100, 97, 98, 108, 101]) 878), (.ref 471)⟩, ⟨(hsh P [119, 114, 105, 116, 97, 98, 108, 101]), (.str (s [119, 114, 105, 116, 97, 98, 108, 101]) 885), (.ref 478)⟩, ⟨(hsh P [115, 101, 101, 107, 97, 98, 108, 101]), (.str (s [115, 101, 101, 107, 97, 98, 108, 101]) 892), (.ref 485)⟩, ⟨(hsh P [105, 115, 97, 116, 116, 121]), (.str (s [105, 115, 97, 116, 116, 121]) 899), (.ref 492)⟩, ⟨(hsh P [102, 108, 117, 115, 104]), (.str (s [102, 108, 117, 115, 104]) 906), (.ref 499)⟩, ⟨(hsh P [102, 105, 108, 101, 110, 111]), (.str (s [102, 105, 108, 101, 110, 111]) 913), (.ref 506)⟩, ⟨(hsh P [100, 101, 116, 97, 99, 104]), (.str (s [100, 101, 116, 97, 99, 104]) 920), (.ref 513)⟩, ⟨(hsh P [103, 101, 116, 118, 97, 108, 117, 101]), (.str (s [103, 101, 116, 118, 97, 108, 117, 101]) 927), (.ref 520)⟩, ⟨(hsh P [116, 101, 108, 108]), (.str (s [116, 101, 108, 108]) 934), (.ref 527)⟩, ⟨(hsh P [115, 101, 101, 107]), (.str (s [115, 101, 101, 107]) 944), (.ref 535)⟩, ⟨(hsh P [116, 114, 117, 110, 99, 97, 116, 101]), (.str (s [116, 114, 117, 110, 99, 97, 116, 101]) 952), (.ref 543)⟩, ⟨(hsh P [114, 101, 97, 100]), (.str (s [114, 101, 97, 100]) 964), (.ref 551)⟩, ⟨(hsh P [114, 101, 97, 100, 108, 105, 110, 101]), (.str (s [114, 101, 97, 100, 108, 105, 110, 101]) 974), (.ref 559)⟩, ⟨(hsh P [114, 101, 97, 100, 108, 105, 110, 101, 115]), (.str (s [114, 101, 97, 100, 108, 105, 110, 101, 115]) 984), (.ref 567)⟩, ⟨(hsh P [95, 95, 105, 116, 101, 114, 95, 95]), (.str (s [95, 95, 105, 116, 101, 114, 95, 95]) 991), (.ref 574)⟩, ⟨(hsh P [95, 95, 110, 101, 120, 116, 95, 95]), (.str (s [95, 95, 110, 101, 120, 116, 95, 95]) 999), (.ref 581)⟩, ⟨(hsh P [119, 114, 105, 116, 101]), (.str (s [119, 114, 105, 116, 101]) 1011), (.ref 588)⟩, ⟨(hsh P [119, 114, 105, 116, 101, 108, 105, 110, 101, 115]), (.str (s [119, 114, 105, 116, 101, 108, 105, 110, 101, 115]) 1019), (.ref 595)⟩, ⟨(hsh P [95, 95, 114, 101, 112, 114, 95, 95]), (.str (s [95, 95, 114, 101, 112, 114, 95, 95]) 1026), (.ref 602)⟩, ⟨(hsh P [95, 95, 115, 116, 97, 116, 105, 99, 95, 97, 116, 116, 114, 105, 98, 117, 116, 101, 115, 95, 95]), (.str (s [95, 95, 115, 116, 97, 116, 105, 99, 95, 97, 116, 116, 114, 105, 98, 117, 116, 101, 115, 95, 95]) 1030), (.ref 603)⟩, ⟨(hsh P [95, 95, 100, 111, 99, 95, 95]), (.str (s [95, 95, 100, 111, 99, 95, 95]) 1031), .none⟩]⟩ 2), ⟨[]⟩⟩
noncomputable def o605 (P : Params) : Obj := ⟨(.type "type"), none, (.cls { name := (s [83, 116, 114, 105, 110, 103, 73, 79]), bases := [(.ref 128)], mro := [(.ref 605), (.ref 128), (.ref 101), (.type "object")], ns := 604, qualname := (s [83, 116, 114, 105, 110, 103, 73, 79]), hasDict := true, slotNames := [], subclasses := [], abstract := false, collection := none, hasDel := false }), ⟨[(some (.ref 361)), none, (some (.str (s [83, 116, 114, 105, 110, 103, 73, 79]) 747)), (some (.str (s [83, 116, 114, 105, 110, 103, 73, 79]) 755)), (some .none), (some (.bool true))]⟩⟩
noncomputable def o657 (P : Params) : Obj := ⟨(.type "tuple"), none, (.seq ⟨[.none, .none, (.bool false), (.bool false)]⟩ 0), ⟨[]⟩⟩
noncomputable def o663 (P : Params) : Obj := ⟨(.type "code"), none, (.fields ⟨[(.str (s [95, 95, 105, 110, 105, 116, 95, 95]) 1106), (.str (s [115, 104, 108, 101, 120, 46, 95, 95, 105, 110, 105, 116, 95, 95]) 1107), (.str (s [47, 99, 108, 97, 105, 109, 47, 99, 117, 116, 46, 112, 121]) 1108), (.int 484 0), (.int 5 0), (.int 0 0), (.int 0 0), (.int 3 0), (.ref 658), (.bool true), (.int 318 0), (.ref 659), .none, (.ref 660), (.ref 661), (.ref 662), (.int 1115 0), (.int 484 0), (.str (s [47, 99, 108, 97, 105, 109, 47, 99, 117, 116, 46, 112, 121]) 1116)]⟩), ⟨[]⟩⟩
noncomputable def o664 (P : Params) : Obj := ⟨(.type "function"), none, (.func (fn (st [23, 0]) (s [115, 104, 108, 101, 120, 46, 95, 95, 105, 110, 105, 116, 95, 95]) 3 (.ref 657) .none .none (.str (s [99, 112, 121, 51, 49, 51, 46, 115, 104, 108, 101, 120]) 1092) none (.ref 663) .none 0)), ⟨[]⟩⟩
noncomputable def o670 (P : Params) : Obj := ⟨(.type "code"), none, (.fields ⟨[(.str (s [112, 117, 110, 99, 116, 117, 97, 116, 105, 111, 110, 95, 99, 104, 97, 114, 115]) 1118), (.str (s [115, 104, 108, 101, 120, 46, 112, 117, 110, 99, 116, 117, 97, 116, 105, 111, 110, 95, 99, 104, 97, 114, 115]) 1119), (.str (s [47, 99, 108, 97, 105, 109, 47, 99, 117, 116, 46, 112, 121]) 1120), (.int 525 0), (.int 1 0), (.int 0 0), (.int 0 0), (.int 3 0), (.ref 665), (.bool true), (.int 318 0), (.ref 666), .none, (.ref 667), (.ref 668), (.ref 669), (.int 1122 0), (.int 525 0), (.str (s [47, 99, 108, 97, 105, 109, 47, 99, 117, 116, 46, 112, 121]) 1123)]⟩), ⟨[]⟩⟩
noncomputable def o671 (P : Params) : Obj := ⟨(.type "function"), none, (.func (fn (st [23, 1]) (s [115, 104, 108, 101, 120, 46, 112, 117, 110, 99, 116, 117, 97, 116, 105, 111, 110, 95, 99, 104, 97, 114, 115]) 3 .none .none .none (.str (s [99, 112, 121, 51, 49, 51, 46, 115, 104, 108, 101, 120]) 1092) none (.ref 670) .none 0)), ⟨[]⟩⟩
noncomputable def o672 (P : Params) : Obj := ⟨(.type "property"), none, (.fields ⟨[(.ref 671), .none, .none, .none, (.str (s [112, 117, 110, 99, 116, 117, 97, 116, 105, 111, 110, 95, 99, 104, 97, 114, 115]) 1125), (.bool false)]⟩), ⟨[]⟩⟩
noncomputable def o700 (P : Params) : Obj := ⟨(.type "code"), none, (.fields ⟨[(.str (s [103, 101, 116, 95, 116, 111, 107, 101, 110]) 1150), (.str (s [115, 104, 108, 101, 120, 46, 103, 101, 116, 95, 116, 111, 107, 101, 110]) 1151), (.str (s [47, 99, 108, 97, 105, 109, 47, 99, 117, 116, 46, 112, 121]) 1152), (.int 552 0), (.int 1 0), (.int 0 0), (.int 0 0), (.int 3 0), (.ref 695), (.bool true), (.int 318 0), (.ref 696), .none, (.ref 697), (.ref 698), (.ref 699), (.int 1159 0), (.int 552 0), (.str (s [47, 99, 108, 97, 105, 109, 47, 99, 117, 116, 46, 112, 121]) 1160)]⟩), ⟨[]⟩⟩
noncomputable def o701 (P : Params) : Obj := ⟨(.type "function"), none, (.func (fn (st [23, 5]) (s [115, 104, 108, 101, 120, 46, 103, 101, 116, 95, 116, 111, 107, 101, 110]) 3 .none .none .none (.str (s [99, 112, 121, 51, 49, 51, 46, 115, 104, 108, 101, 120]) 1092) none (.ref 700) .none 0)), ⟨[]⟩⟩
noncomputable def o707 (P : Params) : Obj := ⟨(.type "code"), none, (.fields ⟨[(.str (s [114, 101, 97, 100, 95, 116, 111, 107, 101, 110]) 1162), (.str (s [115, 104, 108, 101, 120, 46, 114, 101, 97, 100, 95, 116, 111, 107, 101, 110]) 1163), (.str (s [47, 99, 108, 97, 105, 109, 47, 99, 117, 116, 46, 112, 121]) 1164), (.int 579 0), (.int 1 0), (.int 0 0), (.int 0 0), (.int 3 0), (.ref 702), (.bool true), (.int 318 0), (.ref 703), .none, (.ref 704), (.ref 705), (.ref 706), (.int 1170 0), (.int 579 0), (.str (s [47, 99, 108, 97, 105, 109, 47, 99, 117, 116, 46, 112, 121]) 1171)]⟩), ⟨[]⟩⟩
noncomputable def o708 (P : Params) : Obj := ⟨(.type "function"), none, (.func (fn (st [23, 6]) (s [115, 104, 108, 101, 120, 46, 114, 101, 97, 100, 95, 116, 111, 107, 101, 110]) 3 .none .none .none (.str (s [99, 112, 121, 51, 49, 51, 46, 115, 104, 108, 101, 120]) 1092) none (.ref 707) .none 0)), ⟨[]⟩⟩
noncomputable def o729 (P : Params) : Obj := ⟨(.type "code"), none, (.fields ⟨[(.str (s [95, 95, 105, 116, 101, 114, 95, 95]) 1190), (.str (s [115, 104, 108, 101, 120, 46, 95, 95, 105, 116, 101, 114, 95, 95]) 1191), (.str (s [47, 99, 108, 97, 105, 109, 47, 99, 117, 116, 46, 112, 121]) 1192), (.int 726 0), (.int 1 0), (.int 0 0), (.int 0 0), (.int 3 0), (.ref 724), (.bool true), (.int 318 0), (.ref 725), .none, (.ref 726), (.ref 727), (.ref 728), (.int 1194 0), (.int 726 0), (.str (s [47, 99, 108, 97, 105, 109, 47, 99, 117, 116, 46, 112, 121]) 1195)]⟩), ⟨[]⟩⟩
noncomputable def o730 (P : Params) : Obj := ⟨(.type "function"), none, (.func (fn (st [23, 9]) (s [115, 104, 108, 101, 120, 46, 95, 95, 105, 116, 101, 114, 95, 95]) 3 .none .none .none (.str (s [99, 112, 121, 51, 49, 51, 46, 115, 104, 108, 101, 120]) 1092) none (.ref 729) .none 0)), ⟨[]⟩⟩
noncomputable def o736 (P : Params) : Obj := ⟨(.type "code"), none, (.fields ⟨[(.str (s [95, 95, 110, 101, 120, 116, 95, 95]) 1197), (.str (s [115, 104, 108, 101, 120, 46, 95, 95, 110, 101, 120, 116, 95, 95]) 1198), (.str (s [47, 99, 108, 97, 105, 109, 47, 99, 117, 116, 46, 112, 121]) 1199), (.int 729 0), (.int 1 0), (.int 0 0), (.int 0 0), (.int 3 0), (.ref 731), (.bool true), (.int 318 0), (.ref 732), .none, (.ref 733), (.ref 734), (.ref 735), (.int 1202 0), (.int 729 0), (.str (s [47, 99, 108, 97, 105, 109, 47, 99, 117, 116, 46, 112, 121]) 1203)]⟩), ⟨[]⟩⟩
noncomputable def o737 (P : Params) : Obj := ⟨(.type "function"), none, (.func (fn (st [23, 10]) (s [115, 104, 108, 101, 120, 46, 95, 95, 110, 101, 120, 116, 95, 95]) 3 .none .none .none (.str (s [99, 112, 121, 51, 49, 51, 46, 115, 104, 108, 101, 120]) 1092) none (.ref 736) .none 0)), ⟨[]⟩⟩
noncomputable def o739 (P : Params) : Obj := ⟨(.type "dict"), none, (.dict ⟨[⟨(hsh P [95, 95, 109, 111, 100, 117, 108, 101, 95, 95]), (.str (s [95, 95, 109, 111, 100, 117, 108, 101, 95, 95]) 1101), (.str (s [99, 112, 121, 51, 49, 51, 46, 115, 104, 108, 101, 120]) 1092)⟩, ⟨(hsh P [95, 95, 102, 105, 114, 115, 116, 108, 105, 110, 101, 110, 111, 95, 95]), (.str (s [95, 95, 102, 105, 114, 115, 116, 108, 105, 110, 101, 110, 111, 95, 95]) 1105), (.int 482 1104)⟩, ⟨(hsh P [95, 95, 105, 110, 105, 116, 95, 95]), (.str (s [95, 95, 105, 110, 105, 116, 95, 95]) 1117), (.ref 664)⟩, ⟨(hsh P [112, 117, 110, 99, 116, 117, 97, 116, 105, 111, 110, 95, 99, 104, 97, 114, 115]), (.str (s [112, 117, 110, 99, 116, 117, 97, 116, 105, 111, 110, 95, 99, 104, 97, 114, 115]) 1125), (.ref 672)⟩, ⟨(hsh P [112, 117, 115, 104, 95, 116, 111, 107, 101, 110]), (.str (s [112, 117, 115, 104, 95, 116, 111, 107, 101, 110]) 1133), (.ref 679)⟩, ⟨(hsh P [112, 117, 115, 104, 95, 115, 111, 117, 114, 99, 101]), (.str (s [112, 117, 115, 104, 95, 115, 111, 117, 114, 99, 101]) 1142), (.ref 687)⟩, ⟨(hsh P [112, 111, 112, 95, 115, 111, 117, 114, 99, 101]), (.str (s [112, 111, 112, 95, 115, 111, 117, 114, 99, 101]) 1149), (.ref 694)⟩, ⟨(hsh P [103, 101, 116, 95, 116, 111, 107, 101, 110]), (.str (s [103, 101, 116, 95, 116, 111, 107, 101, 110]) 1161), (.ref 701)⟩, ⟨(hsh P [114, 101, 97, 100, 95, 116, 111, 107, 101, 110]), (.str (s [114, 101, 97, 100, 95, 116, 111, 107, 101, 110]) 1172), (.ref 708)⟩, ⟨(hsh P [115, 111, 117, 114, 99, 101, 104, 111, 111, 107]), (.str (s [115, 111, 117, 114, 99, 101, 104, 111, 111, 107]) 1180), (.ref 715)⟩, ⟨(hsh P [101, 114, 114, 111, 114, 95, 108, 101, 97, 100, 101, 114]), (.str (s [101, 114, 114, 111, 114, 95, 108, 101, 97, 100, 101, 114]) 1189), (.ref 723)⟩, ⟨(hsh P [95, 95, 105, 116, 101, 114, 95, 95]), (.str (s [95, 95, 105, 116, 101, 114, 95, 95]) 1196), (.ref 730)⟩, ⟨(hsh P [95, 95, 110, 101, 120, 116, 95, 95]), (.str (s [95, 95, 110, 101, 120, 116, 95, 95]) 1204), (.ref 737)⟩, ⟨(hsh P [95, 95, 115, 116, 97, 116, 105, 99, 95, 97, 116, 116, 114, 105, 98, 117, 116, 101, 115, 95, 95]), (.str (s [95, 95, 115, 116, 97, 116, 105, 99, 95, 97, 116, 116, 114, 105, 98, 117, 116, 101, 115, 95, 95]) 1225), (.ref 738)⟩, ⟨(hsh P [95, 95, 100, 105, 99, 116, 95, 95]), (.str (s [95, 95, 100, 105, 99, 116, 95, 95]) 1227), (.ref 741)⟩, ⟨(hsh P [95, 95, 119, 101, 97, 107, 114, 101, 102, 95, 95]), (.str (s [95, 95, 119, 101, 97, 107, 114, 101, 102, 95, 95]) 1229), (.ref 742)⟩, ⟨(hsh P [95, 95, 100, 111, 99, 95, 95]), (.str (s [95, 95, 100, 111, 99, 95, 95]) 1230), .none⟩]⟩ 4), ⟨[]⟩⟩
noncomputable def o740 (P : Params) : Obj := ⟨(.type "type"), none, (.cls { name := (s [115, 104, 108, 101, 120]), bases := [(.type "object")], mro := [(.ref 740), (.type "object")], ns := 739, qualname := (s [115, 104, 108, 101, 120]), hasDict := true, slotNames := [], subclasses := [], abstract := false, collection := none, hasDel := false }), ⟨[none, none, (some (.str (s [115, 104, 108, 101, 120]) 1094)), (some (.str (s [115, 104, 108, 101, 120]) 1102)), (some (.builtin "object.__new__")), (some (.bool true))]⟩⟩
noncomputable def o750 (P : Params) : Obj := ⟨(.type "code"), none, (.fields ⟨[(.str (s [83, 95, 73, 70, 77, 84]) 1235), (.str (s [83, 95, 73, 70, 77, 84]) 1236), (.str (s [47, 99, 108, 97, 105, 109, 47, 99, 117, 116, 46, 112, 121]) 1237), (.int 735 0), (.int 1 0), (.int 0 0), (.int 0 0), (.int 3 0), (.ref 745), (.bool true), (.int 318 0), (.ref 746), .none, (.ref 747), (.ref 748), (.ref 749), (.int 1239 0), (.int 735 0), (.str (s [47, 99, 108, 97, 105, 109, 47, 99, 117, 116, 46, 112, 121]) 1240)]⟩), ⟨[]⟩⟩
noncomputable def o751 (P : Params) : Obj := ⟨(.type "function"), none, (.func (fn (st [25]) (s [83, 95, 73, 70, 77, 84]) 3 .none .none .none (.str (s [99, 112, 121, 51, 49, 51, 46, 115, 116, 97, 116]) 1233) none (.ref 750) .none 0)), ⟨[]⟩⟩
noncomputable def o752 (P : Params) : Obj := ⟨(.type "tuple"), none, (.seq ⟨[(.int 40960 1252), (.str (s [108]) 1280)]⟩ 0), ⟨[]⟩⟩
noncomputable def o753 (P : Params) : Obj := ⟨(.type "tuple"), none, (.seq ⟨[(.int 49152 1254), (.str (s [115]) 1281)]⟩ 0), ⟨[]⟩⟩
noncomputable def o754 (P : Params) : Obj := ⟨(.type "tuple"), none, (.seq ⟨[(.int 32768 1248), (.str (s [45]) 1282)]⟩ 0), ⟨[]⟩⟩
noncomputable def o755 (P : Params) : Obj := ⟨(.type "tuple"), none, (.seq ⟨[(.int 24576 1246), (.str (s [98]) 1283)]⟩ 0), ⟨[]⟩⟩
noncomputable def o756 (P : Params) : Obj := ⟨(.type "tuple"), none, (.seq ⟨[(.int 16384 1242), (.str (s [100]) 1284)]⟩ 0), ⟨[]⟩⟩
noncomputable def o757 (P : Params) : Obj := ⟨(.type "tuple"), none, (.seq ⟨[(.int 8192 1244), (.str (s [99]) 1285)]⟩ 0), ⟨[]⟩⟩
noncomputable def o758 (P : Params) : Obj := ⟨(.type "tuple"), none, (.seq ⟨[(.int 4096 1250), (.str (s [112]) 1286)]⟩ 0), ⟨[]⟩⟩
noncomputable def o759 (P : Params) : Obj := ⟨(.type "tuple"), none, (.seq ⟨[(.ref 752), (.ref 753), (.ref 754), (.ref 755), (.ref 756), (.ref 757), (.ref 758)]⟩ 0), ⟨[]⟩⟩
noncomputable def o760 (P : Params) : Obj := ⟨(.type "tuple"), none, (.seq ⟨[(.int 256 1262), (.str (s [114]) 1287)]⟩ 0), ⟨[]⟩⟩
noncomputable def o761 (P : Params) : Obj := ⟨(.type "tuple"), none, (.seq ⟨[(.ref 760)]⟩ 0), ⟨[]⟩⟩
noncomputable def o762 (P : Params) : Obj := ⟨(.type "tuple"), none, (.seq ⟨[(.int 128 1264), (.str (s [119]) 1288)]⟩ 0), ⟨[]⟩⟩
noncomputable def o763 (P : Params) : Obj := ⟨(.type "tuple"), none, (.seq ⟨[(.ref 762)]⟩ 0), ⟨[]⟩⟩
noncomputable def o764 (P : Params) : Obj := ⟨(.type "tuple"), none, (.seq ⟨[(.int 2112 1289), (.str (s [115]) 1290)]⟩ 0), ⟨[]⟩⟩
noncomputable def o765 (P : Params) : Obj := ⟨(.type "tuple"), none, (.seq ⟨[(.int 2048 1256), (.str (s [83]) 1291)]⟩ 0), ⟨[]⟩⟩
noncomputable def o766 (P : Params) : Obj := ⟨(.type "tuple"), none, (.seq ⟨[(.int 64 1266), (.str (s [120]) 1292)]⟩ 0), ⟨[]⟩⟩
noncomputable def o767 (P : Params) : Obj := ⟨(.type "tuple"), none, (.seq ⟨[(.ref 764), (.ref 765), (.ref 766)]⟩ 0), ⟨[]⟩⟩
noncomputable def o768 (P : Params) : Obj := ⟨(.type "tuple"), none, (.seq ⟨[(.int 32 1268), (.str (s [114]) 1293)]⟩ 0), ⟨[]⟩⟩
noncomputable def o769 (P : Params) : Obj := ⟨(.type "tuple"), none, (.seq ⟨[(.ref 768)]⟩ 0), ⟨[]⟩⟩
noncomputable def o770 (P : Params) : Obj := ⟨(.type "tuple"), none, (.seq ⟨[(.int 16 1270), (.str (s [119]) 1294)]⟩ 0), ⟨[]⟩⟩
noncomputable def o771 (P : Params) : Obj := ⟨(.type "tuple"), none, (.seq ⟨[(.ref 770)]⟩ 0), ⟨[]⟩⟩
noncomputable def o772 (P : Params) : Obj := ⟨(.type "tuple"), none, (.seq ⟨[(.int 1032 1295), (.str (s [115]) 1296)]⟩ 0), ⟨[]⟩⟩
noncomputable def o773 (P : Params) : Obj := ⟨(.type "tuple"), none, (.seq ⟨[(.int 1024 1258), (.str (s [83]) 1297)]⟩ 0), ⟨[]⟩⟩
noncomputable def o774 (P : Params) : Obj := ⟨(.type "tuple"), none, (.seq ⟨[(.int 8 1272), (.str (s [120]) 1298)]⟩ 0), ⟨[]⟩⟩
noncomputable def o775 (P : Params) : Obj := ⟨(.type "tuple"), none, (.seq ⟨[(.ref 772), (.ref 773), (.ref 774)]⟩ 0), ⟨[]⟩⟩
noncomputable def o776 (P : Params) : Obj := ⟨(.type "tuple"), none, (.seq ⟨[(.int 4 1274), (.str (s [114]) 1299)]⟩ 0), ⟨[]⟩⟩
noncomputable def o777 (P : Params) : Obj := ⟨(.type "tuple"), none, (.seq ⟨[(.ref 776)]⟩ 0), ⟨[]⟩⟩
noncomputable def o778 (P : Params) : Obj := ⟨(.type "tuple"), none, (.seq ⟨[(.int 2 1276), (.str (s [119]) 1300)]⟩ 0), ⟨[]⟩⟩
noncomputable def o779 (P : Params) : Obj := ⟨(.type "tuple"), none, (.seq ⟨[(.ref 778)]⟩ 0), ⟨[]⟩⟩
noncomputable def o780 (P : Params) : Obj := ⟨(.type "tuple"), none, (.seq ⟨[(.int 513 1301), (.str (s [116]) 1302)]⟩ 0), ⟨[]⟩⟩
noncomputable def o781 (P : Params) : Obj := ⟨(.type "tuple"), none, (.seq ⟨[(.int 512 1260), (.str (s [84]) 1303)]⟩ 0), ⟨[]⟩⟩
noncomputable def o782 (P : Params) : Obj := ⟨(.type "tuple"), none, (.seq ⟨[(.int 1 1278), (.str (s [120]) 1304)]⟩ 0), ⟨[]⟩⟩
noncomputable def o783 (P : Params) : Obj := ⟨(.type "tuple"), none, (.seq ⟨[(.ref 780), (.ref 781), (.ref 782)]⟩ 0), ⟨[]⟩⟩
noncomputable def o784 (P : Params) : Obj := ⟨(.type "tuple"), none, (.seq ⟨[(.ref 759), (.ref 761), (.ref 763), (.ref 767), (.ref 769), (.ref 771), (.ref 775), (.ref 777), (.ref 779), (.ref 783)]⟩ 0), ⟨[]⟩⟩
noncomputable def o790 (P : Params) : Obj := ⟨(.type "code"), none, (.fields ⟨[(.str (s [102, 105, 108, 101, 109, 111, 100, 101]) 1306), (.str (s [102, 105, 108, 101, 109, 111, 100, 101]) 1307), (.str (s [47, 99, 108, 97, 105, 109, 47, 99, 117, 116, 46, 112, 121]) 1308), (.int 757 0), (.int 1 0), (.int 0 0), (.int 0 0), (.int 3 0), (.ref 785), (.bool true), (.int 318 0), (.ref 786), .none, (.ref 787), (.ref 788), (.ref 789), (.int 1315 0), (.int 757 0), (.str (s [47, 99, 108, 97, 105, 109, 47, 99, 117, 116, 46, 112, 121]) 1316)]⟩), ⟨[]⟩⟩
noncomputable def o791 (P : Params) : Obj := ⟨(.type "function"), none, (.func (fn (st [46]) (s [102, 105, 108, 101, 109, 111, 100, 101]) 3 .none .none .none (.str (s [99, 112, 121, 51, 49, 51, 46, 115, 116, 97, 116]) 1233) none (.ref 790) .none 0)), ⟨[]⟩⟩
noncomputable def o797 (P : Params) : Obj := ⟨(.type "code"), none, (.fields ⟨[(.str (s [95, 108, 97, 119, 95, 114, 111, 119]) 1320), (.str (s [95, 108, 97, 119, 95, 114, 111, 119]) 1321), (.str (s [47, 99, 108, 97, 105, 109, 47, 99, 117, 116, 46, 112, 121]) 1322), (.int 775 0), (.int 1 0), (.int 0 0), (.int 0 0), (.int 3 0), (.ref 792), (.bool true), (.int 318 0), (.ref 793), .none, (.ref 794), (.ref 795), (.ref 796), (.int 1328 0), (.int 775 0), (.str (s [47, 99, 108, 97, 105, 109, 47, 99, 117, 116, 46, 112, 121]) 1329)]⟩), ⟨[]⟩⟩
noncomputable def o798 (P : Params) : Obj := ⟨(.type "function"), none, (.func (fn (st [48]) (s [95, 108, 97, 119, 95, 114, 111, 119]) 3 .none .none .none (.str (s [108, 97, 119, 95, 111, 109, 48, 49, 52, 48, 95, 48, 49]) 1318) none (.ref 797) .none 0)), ⟨[]⟩⟩
noncomputable def o802 (P : Params) : Obj := ⟨(.type "code"), none, (.fields ⟨[(.str (s [95, 108, 97, 119, 95, 116, 101, 120, 116]) 1331), (.str (s [95, 108, 97, 119, 95, 116, 101, 120, 116]) 1332), (.str (s [47, 99, 108, 97, 105, 109, 47, 99, 117, 116, 46, 112, 121]) 1333), (.int 780 0), (.int 4 0), (.int 0 0), (.int 0 0), (.int 3 0), (.ref 799), (.bool true), (.int 318 0), (.ref 800), .none, .none, .none, (.ref 801), (.int 1334 0), (.int 780 0), (.str (s [47, 99, 108, 97, 105, 109, 47, 99, 117, 116, 46, 112, 121]) 1335)]⟩), ⟨[]⟩⟩
noncomputable def o803 (P : Params) : Obj := ⟨(.type "function"), none, (.func (fn (st [49]) (s [95, 108, 97, 119, 95, 116, 101, 120, 116]) 3 .none .none .none (.str (s [108, 97, 119, 95, 111, 109, 48, 49, 52, 48, 95, 48, 49]) 1318) none (.ref 802) .none 0)), ⟨[]⟩⟩
noncomputable def o807 (P : Params) : Obj := ⟨(.type "code"), none, (.fields ⟨[(.str (s [95, 108, 97, 119, 95, 114, 117, 110, 115]) 1337), (.str (s [95, 108, 97, 119, 95, 114, 117, 110, 115]) 1338), (.str (s [47, 99, 108, 97, 105, 109, 47, 99, 117, 116, 46, 112, 121]) 1339), (.int 784 0), (.int 1 0), (.int 0 0), (.int 0 0), (.int 3 0), (.ref 804), (.bool true), (.int 318 0), (.ref 805), .none, .none, .none, (.ref 806), (.int 1340 0), (.int 784 0), (.str (s [47, 99, 108, 97, 105, 109, 47, 99, 117, 116, 46, 112, 121]) 1341)]⟩), ⟨[]⟩⟩
noncomputable def o808 (P : Params) : Obj := ⟨(.type "function"), none, (.func (fn (st [50]) (s [95, 108, 97, 119, 95, 114, 117, 110, 115]) 3 .none .none .none (.str (s [108, 97, 119, 95, 111, 109, 48, 49, 52, 48, 95, 48, 49]) 1318) none (.ref 807) .none 0)), ⟨[]⟩⟩
noncomputable def o814 (P : Params) : Obj := ⟨(.type "code"), none, (.fields ⟨[(.str (s [95, 108, 97, 119, 95, 119, 114, 97, 112, 112, 101, 100]) 1343), (.str (s [95, 108, 97, 119, 95, 119, 114, 97, 112, 112, 101, 100]) 1344), (.str (s [47, 99, 108, 97, 105, 109, 47, 99, 117, 116, 46, 112, 121]) 1345), (.int 787 0), (.int 2 0), (.int 0 0), (.int 0 0), (.int 3 0), (.ref 809), (.bool true), (.int 318 0), (.ref 810), .none, (.ref 811), (.ref 812), (.ref 813), (.int 1349 0), (.int 787 0), (.str (s [47, 99, 108, 97, 105, 109, 47, 99, 117, 116, 46, 112, 121]) 1350)]⟩), ⟨[]⟩⟩
noncomputable def o815 (P : Params) : Obj := ⟨(.type "function"), none, (.func (fn (st [51]) (s [95, 108, 97, 119, 95, 119, 114, 97, 112, 112, 101, 100]) 3 .none .none .none (.str (s [108, 97, 119, 95, 111, 109, 48, 49, 52, 48, 95, 48, 49]) 1318) none (.ref 814) .none 0)), ⟨[]⟩⟩
noncomputable def o821 (P : Params) : Obj := ⟨(.type "code"), none, (.fields ⟨[(.str (s [95, 108, 97, 119, 95, 114, 101, 97, 100, 105, 110, 103, 115]) 1352), (.str (s [95, 108, 97, 119, 95, 114, 101, 97, 100, 105, 110, 103, 115]) 1353), (.str (s [47, 99, 108, 97, 105, 109, 47, 99, 117, 116, 46, 112, 121]) 1354), (.int 791 0), (.int 2 0), (.int 0 0), (.int 0 0), (.int 3 0), (.ref 816), (.bool true), (.int 318 0), (.ref 817), .none, (.ref 818), (.ref 819), (.ref 820), (.int 1360 0), (.int 791 0), (.str (s [47, 99, 108, 97, 105, 109, 47, 99, 117, 116, 46, 112, 121]) 1361)]⟩), ⟨[]⟩⟩
noncomputable def o822 (P : Params) : Obj := ⟨(.type "function"), none, (.func (fn (st [52]) (s [95, 108, 97, 119, 95, 114, 101, 97, 100, 105, 110, 103, 115]) 3 .none .none .none (.str (s [108, 97, 119, 95, 111, 109, 48, 49, 52, 48, 95, 48, 49]) 1318) none (.ref 821) .none 0)), ⟨[]⟩⟩
noncomputable def o826 (P : Params) : Obj := ⟨(.type "code"), none, (.fields ⟨[(.str (s [95, 108, 97, 119, 95, 100, 117, 101]) 1363), (.str (s [95, 108, 97, 119, 95, 100, 117, 101]) 1364), (.str (s [47, 99, 108, 97, 105, 109, 47, 99, 117, 116, 46, 112, 121]) 1365), (.int 798 0), (.int 3 0), (.int 0 0), (.int 0 0), (.int 3 0), (.ref 823), (.bool true), (.int 318 0), (.ref 824), .none, .none, .none, (.ref 825), (.int 1366 0), (.int 798 0), (.str (s [47, 99, 108, 97, 105, 109, 47, 99, 117, 116, 46, 112, 121]) 1367)]⟩), ⟨[]⟩⟩
noncomputable def o827 (P : Params) : Obj := ⟨(.type "function"), none, (.func (fn (st [53]) (s [95, 108, 97, 119, 95, 100, 117, 101]) 3 .none .none .none (.str (s [108, 97, 119, 95, 111, 109, 48, 49, 52, 48, 95, 48, 49]) 1318) none (.ref 826) .none 0)), ⟨[]⟩⟩
noncomputable def o833 (P : Params) : Obj := ⟨(.type "code"), none, (.fields ⟨[(.str (s [108, 97, 119]) 1369), (.str (s [108, 97, 119]) 1370), (.str (s [47, 99, 108, 97, 105, 109, 47, 99, 117, 116, 46, 112, 121]) 1371), (.int 801 0), (.int 1 0), (.int 0 0), (.int 0 0), (.int 3 0), (.ref 828), (.bool true), (.int 318 0), (.ref 829), .none, (.ref 830), (.ref 831), (.ref 832), (.int 1379 0), (.int 801 0), (.str (s [47, 99, 108, 97, 105, 109, 47, 99, 117, 116, 46, 112, 121]) 1380)]⟩), ⟨[]⟩⟩
noncomputable def o834 (P : Params) : Obj := ⟨(.type "function"), none, (.func (fn (st [54]) (s [108, 97, 119]) 3 .none .none .none (.str (s [108, 97, 119, 95, 111, 109, 48, 49, 52, 48, 95, 48, 49]) 1318) none (.ref 833) .none 0)), ⟨[]⟩⟩
noncomputable def tops : List Nat := [0, 2, 3, 48, 49, 50, 56, 57, 70, 71, 97, 98, 100, 101, 102, 127, 128, 358, 368, 374, 375, 381, 382, 388, 389, 544, 550, 551, 604, 605, 657, 663, 664, 670, 671, 672, 700, 701, 707, 708, 729, 730, 736, 737, 739, 740, 750, 751, 752, 753, 754, 755, 756, 757, 758, 759, 760, 761, 762, 763, 764, 765, 766, 767, 768, 769, 770, 771, 772, 773, 774, 775, 776, 777, 778, 779, 780, 781, 782, 783, 784, 790, 791, 797, 798, 802, 803, 807, 808, 814, 815, 821, 822, 826, 827, 833, 834]
noncomputable def tt (P : Params) : TT := (.node 752 (o752 P) (.node 389 (o389 P) (.node 100 (o100 P) (.node 56 (o56 P) (.node 48 (o48 P) (.node 2 (o2 P) (.node 0 (o0 P) .nil .nil) (.node 3 (o3 P) .nil .nil)) (.node 50 (o50 P) (.node 49 (o49 P) .nil .nil) .nil)) (.node 71 (o71 P) (.node 70 (o70 P) (.node 57 (o57 P) .nil .nil) .nil) (.node 98 (o98 P) (.node 97 (o97 P) .nil .nil) .nil))) (.node 368 (o368 P) (.node 127 (o127 P) (.node 102 (o102 P) (.node 101 (o101 P) .nil .nil) .nil) (.node 358 (o358 P) (.node 128 (o128 P) .nil .nil) .nil)) (.node 381 (o381 P) (.node 375 (o375 P) (.node 374 (o374 P) .nil .nil) .nil) (.node 388 (o388 P) (.node 382 (o382 P) .nil .nil) .nil)))) (.node 700 (o700 P) (.node 657 (o657 P) (.node 551 (o551 P) (.node 550 (o550 P) (.node 544 (o544 P) .nil .nil) .nil) (.node 605 (o605 P) (.node 604 (o604 P) .nil .nil) .nil)) (.node 670 (o670 P) (.node 664 (o664 P) (.node 663 (o663 P) .nil .nil) .nil) (.node 672 (o672 P) (.node 671 (o671 P) .nil .nil) .nil))) (.node 736 (o736 P) (.node 708 (o708 P) (.node 707 (o707 P) (.node 701 (o701 P) .nil .nil) .nil) (.node 730 (o730 P) (.node 729 (o729 P) .nil .nil) .nil)) (.node 740 (o740 P) (.node 739 (o739 P) (.node 737 (o737 P) .nil .nil) .nil) (.node 751 (o751 P) (.node 750 (o750 P) .nil .nil) .nil))))) (.node 777 (o777 P) (.node 765 (o765 P) (.node 759 (o759 P) (.node 756 (o756 P) (.node 754 (o754 P) (.node 753 (o753 P) .nil .nil) (.node 755 (o755 P) .nil .nil)) (.node 758 (o758 P) (.node 757 (o757 P) .nil .nil) .nil)) (.node 762 (o762 P) (.node 761 (o761 P) (.node 760 (o760 P) .nil .nil) .nil) (.node 764 (o764 P) (.node 763 (o763 P) .nil .nil) .nil))) (.node 771 (o771 P) (.node 768 (o768 P) (.node 767 (o767 P) (.node 766 (o766 P) .nil .nil) .nil) (.node 770 (o770 P) (.node 769 (o769 P) .nil .nil) .nil)) (.node 774 (o774 P) (.node 773 (o773 P) (.node 772 (o772 P) .nil .nil) .nil) (.node 776 (o776 P) (.node 775 (o775 P) .nil .nil) .nil)))) (.node 802 (o802 P) (.node 783 (o783 P) (.node 780 (o780 P) (.node 779 (o779 P) (.node 778 (o778 P) .nil .nil) .nil) (.node 782 (o782 P) (.node 781 (o781 P) .nil .nil) .nil)) (.node 791 (o791 P) (.node 790 (o790 P) (.node 784 (o784 P) .nil .nil) .nil) (.node 798 (o798 P) (.node 797 (o797 P) .nil .nil) .nil))) (.node 821 (o821 P) (.node 808 (o808 P) (.node 807 (o807 P) (.node 803 (o803 P) .nil .nil) .nil) (.node 815 (o815 P) (.node 814 (o814 P) .nil .nil) .nil)) (.node 827 (o827 P) (.node 826 (o826 P) (.node 822 (o822 P) .nil .nil) .nil) (.node 834 (o834 P) (.node 833 (o833 P) .nil .nil) .nil))))))

end Mine
end
section -- Tp
open PySem PySem.W
set_option Elab.async false
set_option linter.unusedVariables false
namespace Mine
noncomputable def setR (PP : Program) (w : World) : Setting := ⟨PP, w.params⟩
noncomputable def setT (PP : Program) (w : World) : Setting := ⟨PP, (w.withFollow "special-get-raises" true).params⟩
noncomputable def setF (PP : Program) (w : World) : Setting := ⟨PP, (w.withFollow "special-get-raises" false).params⟩
/-- a dict's entries: names with values, the keys' tokens by place -/
noncomputable def ent (P : Params) (ks : Nat → Nat) : Nat → List (List Nat × Value) → List DictEntry
  | _, [] => []
  | i, x :: l => ⟨hsh P x.1, .str ⟨⟨x.1⟩⟩ (ks i), x.2⟩ :: ent P ks (i + 1) l
noncomputable def dct (P : Params) (ks : Nat → Nat) (l : List (List Nat × Value)) (n : Nat) : Obj := ⟨.type "dict", none, .dict ⟨ent P ks 0 l⟩ n, ⟨[]⟩⟩
noncomputable def frm (P : Params) (ks : Nat → Nat) (l : List (List Nat × Value)) (n : Nat) : Obj := ⟨.type "frame", none, .dict ⟨ent P ks 0 l⟩ n, ⟨[]⟩⟩
noncomputable def inst (c d : Nat) : Obj := ⟨.ref c, some d, .plain, ⟨[]⟩⟩
noncomputable def WORD : Str := (s [97, 98, 99, 100, 102, 101, 103, 104, 105, 106, 107, 108, 109, 110, 111, 112, 113, 117, 118, 121, 122, 65, 66, 67, 68, 69, 70, 71, 72, 73, 74, 75, 76, 77, 78, 79, 80, 81, 82, 85, 86, 87, 88, 89, 90, 48, 49, 50, 51, 52, 53, 54, 55, 56, 57, 95, 223, 224, 225, 226, 227, 228, 229, 230, 231, 232, 233, 234, 235, 236, 237, 238, 239, 240, 241, 242, 243, 244, 245, 246, 248, 249, 250, 251, 252, 253, 254, 255, 192, 193, 194, 195, 196, 197, 198, 199, 200, 201, 202, 203, 204, 205, 206, 207, 208, 209, 210, 211, 212, 213, 214, 216, 217, 218, 219, 220, 221, 222, 126, 45, 46, 47, 42, 63, 61])
noncomputable def PUNC : Str := (s [114, 119, 120, 115, 83, 116, 84])
noncomputable def SPACE : Str := (s [32, 9, 13, 10])
/-- the lexer's attributes -/
noncomputable def SH (P : Params) (ks vs : Nat → Nat) (io pb fs pc : Nat) (state token : Value) : Obj := dct P ks
  [([105, 110, 115, 116, 114, 101, 97, 109], .ref io), ([105, 110, 102, 105, 108, 101], .none), ([112, 111, 115, 105, 120], .bool true), ([101, 111, 102], .none), ([99, 111, 109, 109, 101, 110, 116, 101, 114, 115], .str (s [35]) (vs 0)), ([119, 111, 114, 100, 99, 104, 97, 114, 115], .str WORD (vs 1)), ([119, 104, 105, 116, 101, 115, 112, 97, 99, 101], .str SPACE (vs 2)), ([119, 104, 105, 116, 101, 115, 112, 97, 99, 101, 95, 115, 112, 108, 105, 116], .bool false),
   ([113, 117, 111, 116, 101, 115], .str (s [39, 34]) (vs 3)), ([101, 115, 99, 97, 112, 101], .str (s [92]) (vs 4)), ([101, 115, 99, 97, 112, 101, 100, 113, 117, 111, 116, 101, 115], .str (s [34]) (vs 5)), ([115, 116, 97, 116, 101], state), ([112, 117, 115, 104, 98, 97, 99, 107], .ref pb), ([108, 105, 110, 101, 110, 111], .int 1 (vs 6)), ([100, 101, 98, 117, 103], .int 0 (vs 7)), ([116, 111, 107, 101, 110], token),
   ([102, 105, 108, 101, 115, 116, 97, 99, 107], .ref fs), ([115, 111, 117, 114, 99, 101], .none), ([95, 112, 117, 110, 99, 116, 117, 97, 116, 105, 111, 110, 95, 99, 104, 97, 114, 115], .str PUNC (vs 8)), ([95, 112, 117, 115, 104, 98, 97, 99, 107, 95, 99, 104, 97, 114, 115], .ref pc)] 20
noncomputable def IOD (P : Params) (ks : Nat → Nat) (nl : Nat) (txt pos : Value) : Obj := dct P ks [([95, 83, 116, 114, 105, 110, 103, 73, 79, 95, 95, 110, 101, 119, 108, 105, 110, 101], .str (s [10]) nl), ([95, 83, 116, 114, 105, 110, 103, 73, 79, 95, 95, 98, 117, 102], txt), ([95, 83, 116, 114, 105, 110, 103, 73, 79, 95, 95, 112, 111, 115], pos)] 3
noncomputable def DQ (l : List Value) (n : Nat) : Obj := ⟨.type "collections.deque", none, .fields ⟨.none :: .int n 0 :: l⟩, ⟨[]⟩⟩
noncomputable def FR3 (P : Params) (ks : Nat → Nat) (self : Nat) (q e : Value) : Obj := frm P ks [([115, 101, 108, 102], .ref self), ([113, 117, 111, 116, 101, 100], q), ([101, 115, 99, 97, 112, 101, 100, 115, 116, 97, 116, 101], e)] 3
noncomputable def FR4 (P : Params) (ks : Nat → Nat) (self : Nat) (q e c : Value) : Obj := frm P ks [([115, 101, 108, 102], .ref self), ([113, 117, 111, 116, 101, 100], q), ([101, 115, 99, 97, 112, 101, 100, 115, 116, 97, 116, 101], e), ([110, 101, 120, 116, 99, 104, 97, 114], c)] 4
/-- parts of the text -/
noncomputable def fBody : Stmt → List Stmt
  | .FunctionDef _ _ b .. => b
  | _ => []
noncomputable def fScope : Stmt → Scope
  | .FunctionDef _ _ _ _ _ _ sc .. => sc
  | _ => default
noncomputable def envOf (x : Stmt) (qual : Str) (fu cd fr : Nat) : Env := { scope := fScope x, locals := fr, globals := 3, cells := [], qual := qual, func := some fu, code := .ref cd, frame := some fr, builtins := 0 }
noncomputable def nthS : List Stmt → Nat → Stmt
  | [], _ => .Pass ⟨0, 0, 0, 0⟩
  | x :: _, 0 => x
  | _ :: l, n + 1 => nthS l n
noncomputable def whileC (x : Stmt) (e : Env) : Code := match x with
  | .While t b o _ => .whileLoop t b o e
  | _ => .func [] e
noncomputable def forC (x : Stmt) (it : Nat) (e : Env) : Code := match x with
  | .For t _ b o _ => .forLoop t (.ref it) b o e
  | _ => .func [] e
noncomputable def xRT : Stmt := st [23, 6]
noncomputable def xGT : Stmt := st [23, 5]
noncomputable def xNX : Stmt := st [23, 10]
noncomputable def eRT (fr : Nat) : Env := envOf xRT (s [115, 104, 108, 101, 120, 46, 114, 101, 97, 100, 95, 116, 111, 107, 101, 110, 46, 60, 108, 111, 99, 97, 108, 115, 62, 46]) 708 707 fr
noncomputable def eGT (fr : Nat) : Env := envOf xGT (s [115, 104, 108, 101, 120, 46, 103, 101, 116, 95, 116, 111, 107, 101, 110, 46, 60, 108, 111, 99, 97, 108, 115, 62, 46]) 701 700 fr
noncomputable def eNX (fr : Nat) : Env := envOf xNX (s [115, 104, 108, 101, 120, 46, 95, 95, 110, 101, 120, 116, 95, 95, 46, 60, 108, 111, 99, 97, 108, 115, 62, 46]) 737 736 fr
noncomputable def xLR : Stmt := st [52]
noncomputable def xLW : Stmt := st [54]
noncomputable def eLR (fr : Nat) : Env := envOf xLR (s [95, 108, 97, 119, 95, 114, 101, 97, 100, 105, 110, 103, 115, 46, 60, 108, 111, 99, 97, 108, 115, 62, 46]) 822 821 fr
noncomputable def eLW (fr : Nat) : Env := envOf xLW (s [108, 97, 119, 46, 60, 108, 111, 99, 97, 108, 115, 62, 46]) 834 833 fr
noncomputable def cRTw (fr : Nat) : Code := whileC (nthS (fBody xRT) 2) (eRT fr)
noncomputable def cRT (fr : Nat) : Code := .func (fBody xRT) (eRT fr)
noncomputable def cGT (fr : Nat) : Code := .func (fBody xGT) (eGT fr)
noncomputable def cNX (fr : Nat) : Code := .func (fBody xNX) (eNX fr)
noncomputable def cEX (l it : Nat) : Code := .builtin "list.extend.loop" ⟨[.ref l, .ref it, .none], []⟩
noncomputable def cTL (it : Nat) : Code := .builtin "type.__call__" ⟨[.type "list", .ref it], []⟩
noncomputable def cLRf (it fr : Nat) : Code := forC (nthS (fBody xLR) 1) it (eLR fr)
noncomputable def cLR (fr : Nat) : Code := .func (fBody xLR) (eLR fr)
noncomputable def cLWf (it fr : Nat) : Code := forC (nthS (fBody xLW) 0) it (eLW fr)
noncomputable def cLW (fr : Nat) : Code := .func (fBody xLW) (eLW fr)
noncomputable def cCC : Code := .builtin "claim.caller" {}
/-- the stack under a turn of read_token's while: by addresses a (frames, the list, the lexer, the iterators) and places pp -/
noncomputable def blLaw (a : Nat → Nat) (pp : Nat → Pos) : List (Code × Pos) := [(cLWf (a 0) (a 1), pp 0), (cLW (a 1), pp 1), (cCC, pp 2)]
noncomputable def blLR (a : Nat → Nat) (pp : Nat → Pos) : List (Code × Pos) := (cLRf (a 2) (a 3), pp 3) :: (cLR (a 3), pp 4) :: blLaw a pp
noncomputable def blEX (a : Nat → Nat) (pp : Nat → Pos) (l it : Nat) : List (Code × Pos) := (cEX l it, pp 6) :: (cTL it, pp 5) :: blLR a pp
noncomputable def blRT (a : Nat → Nat) (pp : Nat → Pos) (l it fn fg fr : Nat) : List (Code × Pos) := (cRT fr, pp 9) :: (cGT fg, pp 8) :: (cNX fn, pp 7) :: blEX a pp l it
end Mine
end
section -- Base
open PySem PySem.W PyProof.Rows
set_option Elab.async false
set_option linter.unusedVariables false
set_option maxRecDepth 100000
namespace Mine
noncomputable abbrev Dq : Code → Sem Fin := denote treeTable
theorem den_is : Dq = denote table := by rw [table_eq_tree]
theorem tt_under (P : Params) : TT.Under 835 (tt P) := by
  unfold tt
  simp only [TT.Under]
  repeat' (first | exact trivial | exact Nat.le_of_ble_eq_true rfl | constructor)
/-- the law's own world, the objects of the top, what the call does not touch -/
noncomputable def WD (w : World) (S : Shared) : Wd := ⟨model pwR w, tt w.params, 835, S, tt_under _⟩
theorem setR_is (w : World) (S : Shared) : setR pwR w = ⟨(WD w S).M.prog, (WD w S).M.w.params⟩ := rfl
theorem setTF (PP : Program) (w : World) : setR PP w = setT PP w ∨ setR PP w = setF PP w := by
  have e := World.withFollow_self w "special-get-raises"
  unfold setR setT setF
  cases h : w.params.followText "special-get-raises" with
  | true => left; rw [h] at e; rw [e]
  | false => right; rw [h] at e; rw [e]
/-- given places, and the others: above the top -/
noncomputable def glue (g : Nat) (a ρ : Nat → Nat) : Nat → Nat := fun j => match Nat.blt j g with
  | true => a j
  | false => ρ j + 835
theorem glue_eq {g : Nat} {a ρ : Nat → Nat} (h : ∀ j, j < g → ρ j = a j) (hge : ∀ j, 835 ≤ ρ j) : glue g a (fun j => ρ j - 835) = ρ := by
  funext j
  unfold glue
  cases q : Nat.blt j g with
  | true => exact (h j (Nat.le_of_ble_eq_true q)).symm
  | false => exact Nat.sub_add_cancel (hge j)

/-- a run of the kernel: its two sides are to be one -/
noncomputable def runK (kt : TT) (PP : Program) (w : World) (Γ : Ctx) (a ρ τ : Nat → Nat) (n s : Nat) (cs : List CutF) (c : Code) (p : Pos) (l : List Obj) : Res :=
  simC kt (setR PP w) (setT PP w) (setF PP w) Γ Dq (glue l.length a ρ) τ n s (cs.map (CutF.at (glue l.length a ρ) τ)) c p .base (Dq c) (btL l) l.length 0 0 []
theorem runK_r : @runK = @runK := rfl
lay_quick Mine.runK
name_quick runKq for Mine.runK by Mine.runK_r
noncomputable abbrev rK (w : World) := PySem.W.Fast.runKq (tt w.params) pwR w
noncomputable abbrev Exp := Option ((Fin × Pos) ⊕ Value) × List (Option Obj)
theorem fragK {w : World} {S : Shared} {Γ : Ctx} {R : Result → Shared → Prop} {a : Nat → Nat} {l : List Obj} {h : Heap} (G : Given (WD w S) a l h) {n s : Nat} {cs : List CutF} (hcs : ∀ f ∈ cs, CutF.Ok (WD w S) f) {c : Code} {p : Pos} {is : List Nat}
    {x : (Nat → Nat) → (Nat → Nat) → Exp} (run : ∀ ρ τ, lhsOf is (rK w Γ a ρ τ n s cs c p l) = rhsOf (x (glue l.length a ρ) τ) (rK w Γ a ρ τ n s cs c p l))
    (some_ : ∀ ρ τ, (x ρ τ).1 ≠ none)
    (fin : ∀ ρ τ h' tk', (∀ j, j < l.length → ρ j = a j) → Back (WD w S) l.length ρ is (x ρ τ).2 h h' → EndR (WD w S) Γ R h' tk' (x ρ τ).1) (tk : Nat) : wpCode (model pwR w) (Γ.goto c) R p ((WD w S).sh h tk) := by
  refine frag false (W := WD w S) (setR_is w S) (setTF pwR w) den_is G hcs (n := n) (s := s) (is := is) (x := x) (fun z => by cases z) (fun ρ τ hge _ hρ => ?_) some_ fin tk
  have e := run (fun j => ρ j - 835) τ
  unfold rK at e
  rw [← PySem.W.Fast.runKq_eq] at e
  unfold runK at e
  rw [glue_eq hρ hge] at e
  exact e
/-- a run from a tree -/
noncomputable def runT (kt : TT) (PP : Program) (w : World) (Γ : Ctx) (a ρ τ : Nat → Nat) (n s : Nat) (cs : List CutF) (c : Code) (p : Pos) (t : Sem PySem.Fin) (l : List Obj) : Res :=
  simC kt (setR PP w) (setT PP w) (setF PP w) Γ Dq (glue l.length a ρ) τ n s (cs.map (CutF.at (glue l.length a ρ) τ)) c p .base t (btL l) l.length 0 0 []
theorem runT_r : @runT = @runT := rfl
lay_quick Mine.runT
name_quick runTq for Mine.runT by Mine.runT_r
theorem fragKT {w : World} {S : Shared} {Γ : Ctx} {R : Result → Shared → Prop} {a : Nat → Nat} {l : List Obj} {h : Heap} {t : Sem PySem.Fin} (G : Given (WD w S) a l h) {n s : Nat} {cs : List CutF} (hcs : ∀ f ∈ cs, CutF.Ok (WD w S) f) {c : Code} {p : Pos} {is : List Nat}
    {x : (Nat → Nat) → (Nat → Nat) → Exp} (run : ∀ ρ τ, lhsOf is (PySem.W.Fast.runTq (tt w.params) pwR w Γ a ρ τ n s cs c p t l) = rhsOf (x (glue l.length a ρ) τ) (PySem.W.Fast.runTq (tt w.params) pwR w Γ a ρ τ n s cs c p t l))
    (some_ : ∀ ρ τ, (x ρ τ).1 ≠ none)
    (fin : ∀ ρ τ h' tk', (∀ j, j < l.length → ρ j = a j) → Back (WD w S) l.length ρ is (x ρ τ).2 h h' → EndR (WD w S) Γ R h' tk' (x ρ τ).1) (tk : Nat) : Means (WD w S) Γ R .base c p t ((WD w S).sh h tk) := by
  refine fragT t false (W := WD w S) (setR_is w S) (setTF pwR w) den_is G hcs (n := n) (s := s) (is := is) (x := x) (fun z => by cases z) (fun ρ τ hge _ hρ => ?_) some_ fin tk
  have e := run (fun j => ρ j - 835) τ
  rw [← PySem.W.Fast.runTq_eq] at e
  unfold runT at e
  rw [glue_eq hρ hge] at e
  exact e
end Mine
end
section -- Base2
open PySem PySem.W PyProof.Rows
set_option Elab.async false
set_option linter.unusedVariables false
namespace Mine
variable {W : Wd}
/-- the g given objects (at a 0, a 1 ..) are now l'; all else stands -/
structure Nx (W : Wd) (g : Nat) (a : Nat → Nat) (l' : List Obj) (h h' : Heap) : Prop where
  given : Given W a l' h'
  len : l'.length = g
  size : h.objs.size ≤ h'.objs.size
  keep : ∀ b o, h.get? b = some o → (∀ i, i < g → b ≠ a i) → h'.get? b = some o
theorem Nx.trans {g : Nat} {a : Nat → Nat} {l l' : List Obj} {h h' h'' : Heap} (x : Nx W g a l h h') (y : Nx W g a l' h' h'') : Nx W g a l' h h'' :=
  ⟨y.given, y.len, Nat.le_trans x.size y.size, fun b o e q => y.keep b o (x.keep b o e q) q⟩
theorem Nx.refl {g : Nat} {a : Nat → Nat} {l : List Obj} {h : Heap} (G : Given W a l h) (e : l.length = g) : Nx W g a l h h := ⟨G, e, Nat.le_refl _, fun _ _ e _ => e⟩
theorem nth_get : ∀ (l : List Obj) (i : Nat), i < l.length → l[i]? = some (nth l i)
  | [], _, h => absurd h (Nat.not_lt_zero _)
  | x :: l, 0, _ => rfl
  | x :: l, i + 1, h => by
    show l[i]? = _
    exact nth_get l i (Nat.lt_of_succ_lt_succ h)
theorem nx_of {g : Nat} {a ρ : Nat → Nat} {l' : List Obj} {is : List Nat} {os : List (Option Obj)} {h h' : Heap} (B : Back W g ρ is os h h') (hb : W.n₀ ≤ h.objs.size) (hρ : ∀ j, j < g → ρ j = a j) (hl : l'.length = g)
    (his : ∀ i, i < g → is[i]? = some i) (hos : ∀ i, i < g → os[i]? = some (some (nth l' i))) : Nx W g a l' h h' := by
  refine ⟨⟨B.top, Nat.le_trans hb B.size, fun i hi => ?_, fun i hi => ?_, fun i j hi hj e => ?_⟩, hl, B.size, fun b o e q => B.keep b o e fun i hi => by rw [hρ i hi]; exact q i hi⟩
  · rw [hl] at hi
    have := (B.at_ i i _ (his i hi) (hos i hi)).1
    rwa [hρ i hi] at this
  · rw [hl] at hi
    have := (B.at_ i i _ (his i hi) (hos i hi)).2.1
    rwa [hρ i hi] at this
  · rw [hl] at hi hj
    exact B.inj i j i j _ _ (his i hi) (hos i hi) (his j hj) (hos j hj) (by rw [hρ i hi, hρ j hj]; exact e)

/-- an answered call: the objects at these virtual places go from l to l' -/
noncomputable def mkUse (code : Code) (below : Option (List (Code × Pos))) (keys : List Nat) (l : List Obj) (nt : Nat) (l' : (Nat → Nat) → List Obj) (res : (Nat → Nat) → Result) : Use :=
  { code := code, below := below, pre := keys.zip l, nn := 0, nt := nt, post := fun _ θ => keys.zip (l' θ), new := fun _ _ _ => inst 0 0, res := fun _ θ => res θ }
/-- an answered call that changes nothing -/
noncomputable def pureUse (code : Code) (below : Option (List (Code × Pos))) (pre : List (Nat × Obj)) (nt : Nat) (res : (Nat → Nat) → Result) : Use :=
  { code := code, below := below, pre := pre, nn := 0, nt := nt, post := fun _ _ => [], new := fun _ _ _ => inst 0 0, res := fun _ θ => res θ }
theorem zip_mem {α β : Type} {k : List α} {l : List β} {q : α × β} (h : q ∈ k.zip l) : ∃ i : Nat, k[i]? = some q.1 ∧ l[i]? = some q.2 := by
  obtain ⟨i, hi, e⟩ := List.mem_iff_getElem.mp h
  refine ⟨i, ?_⟩
  rw [List.length_zip] at hi
  rw [List.getElem_zip] at e
  subst e
  exact ⟨List.getElem?_eq_getElem (by omega), List.getElem?_eq_getElem (by omega)⟩
theorem mem_zip {α β : Type} {k : List α} {l : List β} {i : Nat} {x : α} {y : β} (hx : k[i]? = some x) (hy : l[i]? = some y) : (x, y) ∈ k.zip l := by
  have : (k.zip l)[i]? = some (x, y) := List.getElem?_zip_eq_some.mpr ⟨hx, hy⟩
  exact List.mem_of_getElem? this
noncomputable def nthN : List Nat → Nat → Nat
  | [], _ => 0
  | x :: l, n => match n with
    | 0 => x
    | n + 1 => nthN l n
theorem nthN_get : ∀ (l : List Nat) (i : Nat), i < l.length → l[i]? = some (nthN l i)
  | [], _, h => absurd h (Nat.not_lt_zero _)
  | x :: l, 0, _ => rfl
  | x :: l, i + 1, h => by
    show l[i]? = _
    exact nthN_get l i (Nat.lt_of_succ_lt_succ h)
theorem spec_mk {ρ : Nat → Nat} {code : Code} {below : Option (List (Code × Pos))} {keys : List Nat} {l : List Obj} {nt : Nat} {l' : (Nat → Nat) → List Obj} {res : (Nat → Nat) → Result} (nd : keys.Nodup) (hk : keys.length = l.length) (hl : ∀ θ, (l' θ).length = l.length)
    (H : ∀ (Γ : Ctx) (p : Pos) (h : Heap) (tk : Nat) (R : Result → Shared → Prop), Γ.code = code → (∀ bl, below = some bl → Γ = ⟨code, none, none, bl, none⟩) → Given W (fun i => ρ (nthN keys i)) l h →
      (∀ θ h' tk', (∀ j, nt ≤ j → θ j = 0) → Nx W l.length (fun i => ρ (nthN keys i)) (l' θ) h h' → R (res θ) (W.sh h' tk')) → wpCode W.M Γ R p (W.sh h tk)) : SpecI W ρ (mkUse code below keys l nt l' res) := by
  intro p h tk R top big pre inj fin Γ hc hbl
  refine H Γ p h tk R hc hbl ⟨top, big, fun i hi => ?_, fun i hi => ?_, fun i j hi hj e => ?_⟩ fun θ h' tk' hθ N => ?_
  · exact (pre _ (mem_zip (nthN_get keys i (hk ▸ hi)) (nth_get l i hi))).1
  · exact (pre _ (mem_zip (nthN_get keys i (hk ▸ hi)) (nth_get l i hi))).2
  · have e' := inj _ (mem_zip (nthN_get keys i (hk ▸ hi)) (nth_get l i hi)) _ (mem_zip (nthN_get keys j (hk ▸ hj)) (nth_get l j hj)) e
    have e2 : keys[i]? = keys[j]? := by rw [nthN_get keys i (hk ▸ hi), nthN_get keys j (hk ▸ hj)]; exact congrArg some e'
    exact (List.getElem?_inj (hk ▸ hi) nd).mp e2
  · refine fin (fun _ => 0) θ h' tk' (fun _ _ => rfl) hθ ⟨N.size, fun q hq => ?_, fun b o hb hq => N.keep b o hb fun i hi => ?_, fun j hj => absurd hj (Nat.not_lt_zero _), fun i j hi => absurd hi (Nat.not_lt_zero _)⟩
    · obtain ⟨i, hi, hi'⟩ := zip_mem hq
      have lt : i < (l' θ).length := (List.getElem?_eq_some_iff.mp hi').1
      have a1 := N.given.at_ i lt
      have lk : i < keys.length := by rw [hk, ← hl θ]; exact lt
      rw [nthN_get keys i lk] at hi
      rw [nth_get _ i lt] at hi'
      rw [Option.some.inj hi, Option.some.inj hi'] at a1
      exact a1
    · have lk : i < keys.length := by rw [hk]; exact hi
      exact hq _ (mem_zip (nthN_get keys i lk) (nth_get (l' θ) i (by rw [hl]; exact hi)))
theorem spec_pure {ρ : Nat → Nat} {code : Code} {below : Option (List (Code × Pos))} {pre : List (Nat × Obj)} {nt : Nat} {res : (Nat → Nat) → Result}
    (H : ∀ (Γ : Ctx) (p : Pos) (h : Heap) (tk : Nat) (R : Result → Shared → Prop), Γ.code = code → (∀ bl, below = some bl → Γ = ⟨code, none, none, bl, none⟩) → W.Top h → W.n₀ ≤ h.objs.size → (∀ q ∈ pre, h.get? (ρ q.1) = some q.2) →
      (∀ θ h' tk', (∀ j, nt ≤ j → θ j = 0) → h.objs.size ≤ h'.objs.size → (∀ b o, h.get? b = some o → h'.get? b = some o) → R (res θ) (W.sh h' tk')) → wpCode W.M Γ R p (W.sh h tk)) : SpecI W ρ (pureUse code below pre nt res) := by
  intro p h tk R top big hp inj fin Γ hc hbl
  refine H Γ p h tk R hc hbl top big (fun q hq => (hp q hq).1) fun θ h' tk' hθ sz kp => ?_
  exact fin (fun _ => 0) θ h' tk' (fun _ _ => rfl) hθ ⟨sz, fun q (hq : q ∈ []) => (nomatch hq), fun b o hb _ => kp b o hb, fun j hj => absurd hj (Nat.not_lt_zero _), fun i j hi => absurd hi (Nat.not_lt_zero _)⟩
/-- an answered call as a cut -/
theorem ok_mk {m i : Nat} {code : (Nat → Nat) → (Nat → Nat) → Code} {below : (Nat → Nat) → (Nat → Nat) → Option (List (Code × Pos))} {keys : List Nat} {l : (Nat → Nat) → (Nat → Nat) → List Obj} {nt : Nat} {l' : (Nat → Nat) → (Nat → Nat) → (Nat → Nat) → List Obj} {res : (Nat → Nat) → (Nat → Nat) → (Nat → Nat) → Result}
    (hk : ∀ ρ τ, keys.length = (l ρ τ).length) (H : ∀ ρ τ, SpecI W ρ (mkUse (code ρ τ) (below ρ τ) keys (l ρ τ) nt (l' ρ τ) (res ρ τ))) : CutF.Ok W (.use m i fun ρ τ => mkUse (code ρ τ) (below ρ τ) keys (l ρ τ) nt (l' ρ τ) (res ρ τ)) := by
  refine ⟨fun ρ τ _ => H ρ τ, fun ρ τ ν θ q hq => ?_⟩
  obtain ⟨j, hj, _⟩ := zip_mem hq
  have lk : j < keys.length := (List.getElem?_eq_some_iff.mp hj).1
  exact ⟨(q.1, nth (l ρ τ) j), mem_zip hj (nth_get _ j (by rw [← hk]; exact lk)), rfl⟩
theorem ok_pure {m i : Nat} {code : (Nat → Nat) → (Nat → Nat) → Code} {below : (Nat → Nat) → (Nat → Nat) → Option (List (Code × Pos))} {pre : (Nat → Nat) → (Nat → Nat) → List (Nat × Obj)} {nt : Nat} {res : (Nat → Nat) → (Nat → Nat) → (Nat → Nat) → Result}
    (H : ∀ ρ τ, SpecI W ρ (pureUse (code ρ τ) (below ρ τ) (pre ρ τ) nt (res ρ τ))) : CutF.Ok W (.use m i fun ρ τ => pureUse (code ρ τ) (below ρ τ) (pre ρ τ) nt (res ρ τ)) :=
  ⟨fun ρ τ _ => H ρ τ, fun ρ τ ν θ q hq => nomatch hq⟩
end Mine
end
section -- Fr
open PySem PySem.W PyProof.Rows
set_option Elab.async false
set_option linter.unusedVariables false
namespace Mine
variable {W : Wd}
/-- new objects, at ν 0, ν 1 .. -/
structure News (ν : Nat → Nat) (l : List Obj) (h h' : Heap) : Prop where
  at_ : ∀ j, j < l.length → h'.get? (ν j) = some (nth l j) ∧ h.objs.size ≤ ν j
  inj : ∀ i j, i < l.length → j < l.length → ν i = ν j → i = j
theorem nthN_map (f : Nat → Nat) : ∀ (l : List Nat) (j : Nat), j < l.length → nthN (l.map f) j = f (nthN l j)
  | [], _, h => absurd h (Nat.not_lt_zero _)
  | x :: l, 0, _ => rfl
  | x :: l, j + 1, h => nthN_map f l j (Nat.lt_of_succ_lt_succ h)
theorem back_split {g : Nat} {a ρ : Nat → Nat} {l' l : List Obj} {is js : List Nat} {os : List (Option Obj)} {h h' : Heap} (B : Back W g ρ is os h h') (hb : W.n₀ ≤ h.objs.size) (hρ : ∀ j, j < g → ρ j = a j)
    (his : is = List.range g ++ js) (hos : os = (l' ++ l).map some) (hl : l'.length = g) (hj : js.length = l.length) (hge : ∀ j ∈ js, g ≤ j) (nd : js.Nodup) : Nx W g a l' h h' ∧ News (nthN (js.map ρ)) l h h' := by
  have e1 : ∀ j, j < js.length → is[g + j]? = some (nthN js j) := fun j hj => by
    rw [his, List.getElem?_append_right (by simp), List.length_range, Nat.add_sub_cancel_left, nthN_get js j hj]
  have e2 : ∀ j, j < js.length → os[g + j]? = some (some (nth l j)) := fun j hj' => by
    rw [hos, List.map_append, List.getElem?_append_right (by simp [hl]), List.length_map, hl, Nat.add_sub_cancel_left, List.getElem?_map, nth_get l j (hj ▸ hj')]
    rfl
  refine ⟨nx_of B hb hρ hl (fun i hi => ?_) fun i hi => ?_, fun j hj' => ?_, fun i j hi hj' e => ?_⟩
  · rw [his, List.getElem?_append_left (by simp [hi]), List.getElem?_range hi]
  · rw [hos, List.map_append, List.getElem?_append_left (by simp [hl, hi]), List.getElem?_map, nth_get l' i (hl ▸ hi)]
    rfl
  · rw [← hj] at hj'
    rw [nthN_map ρ js j hj']
    have := B.at_ _ _ _ (e1 j hj') (e2 j hj')
    exact ⟨this.1, this.2.2 (hge _ (by
      have := nthN_get js j hj'
      exact List.mem_of_getElem? this))⟩
  · rw [← hj] at hi hj'
    rw [nthN_map ρ js i hi, nthN_map ρ js j hj'] at e
    have := B.inj _ _ _ _ _ _ (e1 i hi) (e2 i hi) (e1 j hj') (e2 j hj') e
    have e2 : js[i]? = js[j]? := by rw [nthN_get js i hi, nthN_get js j hj', this]
    exact (List.getElem?_inj hi nd).mp e2
/-- an answered call: the objects at these virtual places go from l to l', new ones are there -/
noncomputable def newUse (code : Code) (below : Option (List (Code × Pos))) (keys : List Nat) (l : List Obj) (nn nt : Nat) (l' new : (Nat → Nat) → (Nat → Nat) → List Obj) (res : (Nat → Nat) → (Nat → Nat) → Result) : Use :=
  { code := code, below := below, pre := keys.zip l, nn := nn, nt := nt, post := fun ν θ => keys.zip (l' ν θ), new := fun ν θ j => nth (new ν θ) j, res := fun ν θ => res ν θ }
theorem spec_new {ρ : Nat → Nat} {code : Code} {below : Option (List (Code × Pos))} {keys : List Nat} {l : List Obj} {nn nt : Nat} {l' new : (Nat → Nat) → (Nat → Nat) → List Obj} {res : (Nat → Nat) → (Nat → Nat) → Result} (nd : keys.Nodup) (hk : keys.length = l.length) (hl : ∀ ν θ, (l' ν θ).length = l.length) (hn : ∀ ν θ, (new ν θ).length = nn)
    (H : ∀ (Γ : Ctx) (p : Pos) (h : Heap) (tk : Nat) (R : Result → Shared → Prop), Γ.code = code → (∀ bl, below = some bl → Γ = ⟨code, none, none, bl, none⟩) → Given W (fun i => ρ (nthN keys i)) l h →
      (∀ ν θ h' tk', (∀ j, nn ≤ j → ν j = 0) → (∀ j, nt ≤ j → θ j = 0) → Nx W l.length (fun i => ρ (nthN keys i)) (l' ν θ) h h' → News ν (new ν θ) h h' → R (res ν θ) (W.sh h' tk')) → wpCode W.M Γ R p (W.sh h tk)) :
    SpecI W ρ (newUse code below keys l nn nt l' new res) := by
  intro p h tk R top big pre inj fin Γ hc hbl
  refine H Γ p h tk R hc hbl ⟨top, big, fun i hi => ?_, fun i hi => ?_, fun i j hi hj e => ?_⟩ fun ν θ h' tk' hν hθ N M => ?_
  · exact (pre _ (mem_zip (nthN_get keys i (hk ▸ hi)) (nth_get l i hi))).1
  · exact (pre _ (mem_zip (nthN_get keys i (hk ▸ hi)) (nth_get l i hi))).2
  · have e' := inj _ (mem_zip (nthN_get keys i (hk ▸ hi)) (nth_get l i hi)) _ (mem_zip (nthN_get keys j (hk ▸ hj)) (nth_get l j hj)) e
    have e2 : keys[i]? = keys[j]? := by rw [nthN_get keys i (hk ▸ hi), nthN_get keys j (hk ▸ hj)]; exact congrArg some e'
    exact (List.getElem?_inj (hk ▸ hi) nd).mp e2
  · refine fin ν θ h' tk' hν hθ ⟨N.size, fun q hq => ?_, fun b o hb hq => N.keep b o hb fun i hi => ?_, fun j hj => M.at_ j (by rw [hn]; exact hj), fun i j hi hj => M.inj i j (by rw [hn]; exact hi) (by rw [hn]; exact hj)⟩
    · obtain ⟨i, hi, hi'⟩ := zip_mem hq
      have lt : i < (l' ν θ).length := (List.getElem?_eq_some_iff.mp hi').1
      have a1 := N.given.at_ i lt
      have lk : i < keys.length := by rw [hk, ← hl ν θ]; exact lt
      rw [nthN_get keys i lk] at hi
      rw [nth_get _ i lt] at hi'
      rw [Option.some.inj hi, Option.some.inj hi'] at a1
      exact a1
    · have lk : i < keys.length := by rw [hk]; exact hi
      exact hq _ (mem_zip (nthN_get keys i lk) (nth_get (l' ν θ) i (by rw [hl]; exact hi)))
theorem ok_new {m i : Nat} {code : (Nat → Nat) → (Nat → Nat) → Code} {below : (Nat → Nat) → (Nat → Nat) → Option (List (Code × Pos))} {keys : List Nat} {l : (Nat → Nat) → (Nat → Nat) → List Obj} {nn nt : Nat} {l' new : (Nat → Nat) → (Nat → Nat) → (Nat → Nat) → (Nat → Nat) → List Obj} {res : (Nat → Nat) → (Nat → Nat) → (Nat → Nat) → (Nat → Nat) → Result}
    (hk : ∀ ρ τ, keys.length = (l ρ τ).length) (H : ∀ ρ τ, SpecI W ρ (newUse (code ρ τ) (below ρ τ) keys (l ρ τ) nn nt (l' ρ τ) (new ρ τ) (res ρ τ))) : CutF.Ok W (.use m i fun ρ τ => newUse (code ρ τ) (below ρ τ) keys (l ρ τ) nn nt (l' ρ τ) (new ρ τ) (res ρ τ)) := by
  refine ⟨fun ρ τ _ => H ρ τ, fun ρ τ ν θ q hq => ?_⟩
  obtain ⟨j, hj, _⟩ := zip_mem hq
  have lk : j < keys.length := (List.getElem?_eq_some_iff.mp hj).1
  exact ⟨(q.1, nth (l ρ τ) j), mem_zip hj (nth_get _ j (by rw [← hk]; exact lk)), rfl⟩
theorem nx_of' {W : Wd} {g : Nat} {a ρ : Nat → Nat} {l' : List Obj} {is : List Nat} {os : List (Option Obj)} {h h' : Heap} (B : Back W g ρ is os h h') (hb : W.n₀ ≤ h.objs.size) (hρ : ∀ j, j < g → ρ j = a j) (hl : l'.length = g)
    (his : is = List.range g) (hos : os = l'.map some) : Nx W g a l' h h' := by
  refine nx_of B hb hρ hl (fun i hi => ?_) fun i hi => ?_
  · rw [his, List.getElem?_range hi]
  · rw [hos, List.getElem?_map, nth_get l' i (hl ▸ hi)]; rfl
theorem ok0 {W : Wd} : ∀ f ∈ ([] : List CutF), CutF.Ok W f := fun _ h => nomatch h
theorem okc {W : Wd} {x : CutF} {l : List CutF} (h : CutF.Ok W x) (t : ∀ f ∈ l, CutF.Ok W f) : ∀ f ∈ x :: l, CutF.Ok W f := fun f hf => (List.mem_cons.mp hf).elim (fun e => e ▸ h) (t f)
/-- a fragment: its place, what is given, the answered calls, how it ends, what stands then -/
structure Fr where
  Γ : Ctx
  code : Code
  p : Pos
  g : Nat
  pre : List Obj
  cuts : List CutF
  js : List Nat
  fuel : Nat
  stream : Nat
  fin : (Nat → Nat) → (Nat → Nat) → (PySem.Fin × Pos) ⊕ Value
  post : (Nat → Nat) → (Nat → Nat) → List Obj
  new : (Nat → Nat) → (Nat → Nat) → List Obj
noncomputable abbrev frF (Γ : Ctx) (code : Code) := Fr.mk Γ code
noncomputable abbrev frC (bl : List (Code × Pos)) (code : Code) := Fr.mk ⟨code, none, none, bl, none⟩ code
noncomputable def Fr.run (w : World) (a : Nat → Nat) (F : Fr) (ρ τ : Nat → Nat) : Res :=
  rK w F.Γ a ρ τ F.fuel F.stream F.cuts F.code F.p F.pre
noncomputable def nodB : List Nat → Bool
  | [] => true
  | x :: l => !(l.any fun y => Nat.beq x y) && nodB l
theorem nodB_of : ∀ {l : List Nat}, nodB l = true → l.Nodup
  | [], _ => List.nodup_nil
  | x :: l, h => by
    unfold nodB at h
    obtain ⟨h1, h2⟩ := Bool.and_eq_true_iff.mp h
    refine List.nodup_cons.mpr ⟨fun m => ?_, nodB_of h2⟩
    have := Bool.not_eq_true' _ ▸ h1
    rw [List.any_eq_false] at this
    exact this x m (by simp [Nat.beq_refl])
/-- what the kernel is to see: the run, lengths -/
noncomputable abbrev FrOk (w : World) (a : Nat → Nat) (F : Fr) (ρ' ρ τ : Nat → Nat) : Prop :=
  (lhsOf (List.range F.g ++ F.js) (F.run w a ρ τ), F.pre.length, (F.post ρ τ).length, F.js.length, (F.js.all fun j => Nat.ble F.g j) && nodB F.js) =
    (rhsOf (some (F.fin ρ' τ), List.map some (F.post ρ' τ ++ F.new ρ' τ)) (F.run w a ρ τ), F.g, F.g, (F.new ρ τ).length, true)
/-- what a fragment says, new objects with it -/
noncomputable def Fr.Spec (w : World) (a : Nat → Nat) (F : Fr) : Prop :=
  ∀ {S : Shared} {R : Result → Shared → Prop} {h : Heap} {tk : Nat}, Given (WD w S) a F.pre h → (∀ f ∈ F.cuts, CutF.Ok (WD w S) f) →
    (∀ (ρ τ : Nat → Nat) (h' : Heap) (tk' : Nat), (∀ j, j < F.g → ρ j = a j) → Nx (WD w S) F.g a (F.post ρ τ) h h' → News (nthN (F.js.map ρ)) (F.new ρ τ) h h' → EndR (WD w S) F.Γ R h' tk' (some (F.fin ρ τ))) →
    wpCode (model pwR w) (F.Γ.goto F.code) R F.p ((WD w S).sh h tk)
/-- what a fragment says of the given objects alone -/
noncomputable def Fr.SpecN (w : World) (a : Nat → Nat) (F : Fr) : Prop :=
  ∀ {S : Shared} {R : Result → Shared → Prop} {h : Heap} {tk : Nat}, Given (WD w S) a F.pre h → (∀ f ∈ F.cuts, CutF.Ok (WD w S) f) →
    (∀ (τ : Nat → Nat) (h' : Heap) (tk' : Nat), Nx (WD w S) F.g a (F.post a τ) h h' → EndR (WD w S) F.Γ R h' tk' (some (F.fin a τ))) →
    wpCode (model pwR w) (F.Γ.goto F.code) R F.p ((WD w S).sh h tk)
theorem Fr.spec {w : World} {a : Nat → Nat} {F : Fr} (ok : ∀ ρ τ, FrOk w a F (glue F.g a ρ) ρ τ) : F.Spec w a := by
  intro S R h tk G hc fin
  have len : ∀ ρ τ, _ := fun ρ τ => congrArg Prod.snd (ok ρ τ)
  simp only [Prod.mk.injEq, Bool.and_eq_true] at len
  have hg := (len a a).1
  refine fragK (S := S) (Γ := F.Γ) (c := F.code) (is := List.range F.g ++ F.js) G hc (n := F.fuel) (s := F.stream) (x := fun ρ τ => (some (F.fin ρ τ), List.map some (F.post ρ τ ++ F.new ρ τ))) (fun ρ τ => hg ▸ congrArg Prod.fst (ok ρ τ)) (fun _ _ z => by cases z) (fun ρ τ h' tk' hρ B => ?_) tk
  rw [hg] at B hρ
  obtain ⟨_, l2, l3, l4, l5⟩ := len ρ τ
  exact (back_split B G.big hρ rfl rfl l2 l3 (fun j hj => Nat.le_of_ble_eq_true (List.all_eq_true.mp l4 j hj)) (nodB_of l5)).elim fun N M => fin ρ τ h' tk' hρ N M
noncomputable abbrev FrOkN (w : World) (a : Nat → Nat) (F : Fr) (ρ τ : Nat → Nat) : Prop :=
  (lhsOf (List.range F.g) (F.run w a ρ τ), F.pre.length, (F.post a τ).length) = (rhsOf (some (F.fin a τ), List.map some (F.post a τ)) (F.run w a ρ τ), F.g, F.g)
theorem Fr.specN {w : World} {a : Nat → Nat} {F : Fr} (ok : ∀ ρ τ, FrOkN w a F ρ τ) : F.SpecN w a := by
  intro S R h tk G hc fin
  have len : ∀ ρ τ, _ := fun ρ τ => congrArg Prod.snd (ok ρ τ)
  simp only [Prod.mk.injEq] at len
  have hg := (len a a).1
  refine fragK (S := S) (Γ := F.Γ) (c := F.code) (is := List.range F.g) G hc (n := F.fuel) (s := F.stream) (x := fun ρ τ => (some (F.fin a τ), List.map some (F.post a τ))) (fun ρ τ => congrArg Prod.fst (ok ρ τ)) (fun _ _ z => by cases z) (fun ρ τ h' tk' hρ B => ?_) tk
  rw [hg] at B hρ
  exact fin τ h' tk' (nx_of' B G.big hρ (len ρ τ).2 rfl rfl)
end Mine
end
section -- Fn
open PySem PySem.W PyProof.Rows PySem.Calls
set_option Elab.async false
set_option linter.unusedVariables false
set_option maxRecDepth 100000
set_option maxHeartbeats 0
namespace Mine
theorem pv_str {v : Value} {a : Str} (h : PV.of v = .str a) : ∃ t, v = .str a t := by
  cases v <;> simp [PV.of] at h
  exact ⟨_, by rw [h]⟩
theorem pv_int {v : Value} {a : Int} (h : PV.of v = .int a) : ∃ t, v = .int a t := by
  cases v <;> simp [PV.of] at h
  exact ⟨_, by rw [h]⟩
theorem two_of {vals : List Value} {x y : PV} (h : vals.map PV.of = [x, y]) : ∃ u v, vals = [u, v] ∧ PV.of u = x ∧ PV.of v = y := by
  match vals, h with
  | [u, v], h => simp at h; exact ⟨u, v, rfl, h.1, h.2⟩
/-- a pure builtin that the kernel runs -/
theorem fn_run {w : World} {S : Shared} {id : String} {vals : List Value} {n : Nat} {r : PV}
    (H : ∀ Γ p a ρ τ, lhsOf [] (rK w Γ a ρ τ n 0 [] (.call (.builtin id) ⟨vals, []⟩) p []) = rhsOf (some (.inl (.done (.ret (r.val (τ 0))), p)), []) (rK w Γ a ρ τ n 0 [] (.call (.builtin id) ⟨vals, []⟩) p []))
    (Γ : Ctx) (p : Pos) (h : Heap) (tk : Nat) (R : Result → Shared → Prop) (hc : Γ.code = .call (.builtin id) ⟨vals, []⟩) (ht : (WD w S).Top h) (hn : 835 ≤ h.objs.size)
    (hR : ∀ t h' tk', h.objs.size ≤ h'.objs.size → (∀ b o, h.get? b = some o → h'.get? b = some o) → R (.ok (.ret (r.val t))) ((WD w S).sh h' tk')) : wpCode (WD w S).M Γ R p ((WD w S).sh h tk) := by
  have G : Given (WD w S) (fun _ => 0) [] h := ⟨ht, hn, fun i hi => absurd hi (Nat.not_lt_zero _), fun i hi => absurd hi (Nat.not_lt_zero _), fun i j hi => absurd hi (Nat.not_lt_zero _)⟩
  have e : Γ = Γ.goto (.call (.builtin id) ⟨vals, []⟩) := by obtain ⟨c, _, _, _, _⟩ := Γ; cases hc; rfl
  rw [e]
  refine fragK (S := S) (a := fun _ => 0) (l := []) G (n := n) (s := 0) (cs := []) (fun f hf => nomatch hf) (is := []) (x := fun ρ τ => (some (.inl (.done (.ret (r.val (τ 0))), p)), [])) (fun ρ τ => ?_) (fun ρ τ q => by cases q) (fun ρ τ h' tk' _ B => ?_) tk
  · exact H Γ p _ ρ τ
  · exact hR _ h' tk' B.size fun b o hb => B.keep b o hb fun i hi => absurd hi (Nat.not_lt_zero _)

noncomputable def eqS (x y : Str) : Bool := x.cps.toList == y.cps.toList
noncomputable def inS (s sub : Str) : Bool := !(Builtin.Str.occurrences s sub 0 s.length 1).isEmpty
theorem inS_r : @inS = @inS := rfl
lay_quick Mine.inS
name_quick inSq for Mine.inS by Mine.inS_r
noncomputable def kEq (w : World) (Γ : Ctx) (p : Pos) (a ρ τ : Nat → Nat) (x y : Str) (t u : Nat) : Res :=
  rK w Γ a ρ τ 60 0 [] (.call (.builtin "str.__eq__") ⟨[.str x t, .str y u], []⟩) p []
noncomputable def kEqx (w : World) (Γ : Ctx) (p : Pos) (a ρ τ : Nat → Nat) (x y : Str) (t u : Nat) : Exp :=
  (some (.inl (.done (.ret (.bool (eqS x y))), p)), [])
theorem kEq_ok (w : World) (Γ : Ctx) (p : Pos) (a ρ τ : Nat → Nat) (x y : Str) (t u : Nat) : lhsOf [] (kEq w Γ p a ρ τ x y t u) = rhsOf (kEqx w Γ p a ρ τ x y t u) (kEq w Γ p a ρ τ x y t u) := by kernel_rfl

noncomputable def kIn (w : World) (Γ : Ctx) (p : Pos) (a ρ τ : Nat → Nat) (x y : Str) (t u : Nat) : Res :=
  rK w Γ a ρ τ 60 0 [] (.call (.builtin "str.__contains__") ⟨[.str x t, .str y u], []⟩) p []
noncomputable def kInx (w : World) (Γ : Ctx) (p : Pos) (a ρ τ : Nat → Nat) (x y : Str) (t u : Nat) : Exp :=
  (some (.inl (.done (.ret (.bool (PySem.W.Fast.inSq x y))), p)), [])
theorem kIn_ok (w : World) (Γ : Ctx) (p : Pos) (a ρ τ : Nat → Nat) (x y : Str) (t u : Nat) : lhsOf [] (kIn w Γ p a ρ τ x y t u) = rhsOf (kInx w Γ p a ρ τ x y t u) (kIn w Γ p a ρ τ x y t u) := by kernel_rfl

theorem fn_eq (w : World) (S : Shared) {x y : Str} {r : Bool} (h : eqS x y = r) : FnOk (WD w S) "str.__eq__" [.str x, .str y] (.bool r) := by
  intro vals hv
  obtain ⟨u, v, rfl, hu, hw⟩ := two_of hv
  obtain ⟨t, rfl⟩ := pv_str hu
  obtain ⟨t', rfl⟩ := pv_str hw
  subst h
  refine fn_run (n := 60) fun Γ p a ρ τ => ?_
  exact kEq_ok w Γ p a ρ τ x y t t'
theorem fn_in (w : World) (S : Shared) {x y : Str} {r : Bool} (h : inS x y = r) : FnOk (WD w S) "str.__contains__" [.str x, .str y] (.bool r) := by
  intro vals hv
  obtain ⟨u, v, rfl, hu, hw⟩ := two_of hv
  obtain ⟨t, rfl⟩ := pv_str hu
  obtain ⟨t', rfl⟩ := pv_str hw
  rw [PySem.W.Fast.inSq_eq] at h
  subst h
  refine fn_run (n := 60) fun Γ p a ρ τ => ?_
  exact kIn_ok w Γ p a ρ τ x y t t'

theorem code_at {M : Model} {c : Code} {R : Result → Shared → Prop} {s : Shared} (H : ∀ A, codeAny M A c R s) {Γ : Ctx} (hc : Γ.code = c) (p : Pos) : wpCode M Γ R p s :=
  H ⟨Γ.handled, frameCount Γ.below, none, none, unitsOf Γ.below⟩ Γ p hc ⟨rfl, Nat.le_refl _, fun _ h => (nomatch h), fun _ h => (nomatch h), Nat.le_refl _⟩
/-- a pure builtin by the library's word for it -/
theorem fn_gives {w : World} {S : Shared} {T : String} {name : Str} {id : String} {B : Builtin} {self : Value} {rest : List Value} {m : Made} {r : PV} (slot : Slot T name id) (hT : ∀ s : Shared, s.TypeIs self T)
    (entry : entryFor table id = some B) (args : argsOk id ⟨self :: rest, []⟩) (g : Gives (B ⟨self :: rest, []⟩) m) (hm : ∀ (Q : Value → Shared → Prop) (s : Shared), 0 < s.toks → (∀ t tk, 0 < tk → Q (r.val t) { s with toks := tk }) → m.post Q s)
    (Γ : Ctx) (p : Pos) (h : Heap) (tk : Nat) (R : Result → Shared → Prop) (hc : Γ.code = .call (.builtin id) ⟨self :: rest, []⟩) (ht : (WD w S).Top h) (hn : 835 ≤ h.objs.size)
    (hR : ∀ t h' tk', h.objs.size ≤ h'.objs.size → (∀ b o, h.get? b = some o → h'.get? b = some o) → R (.ok (.ret (r.val t))) ((WD w S).sh h' tk')) : wpCode (WD w S).M Γ R p ((WD w S).sh h tk) := by
  refine code_at (fun A => ?_) hc p
  exact codeAny_call_builtin slot.plain entry (slot.check _ _ _ _ _ _ _ _ (hT _) args (g pwR w A R _ (hm _ _ (Nat.succ_pos _) fun t tk' hp => by
    obtain ⟨k, rfl⟩ : ∃ k, tk' = k + 1 := ⟨tk' - 1, by omega⟩
    exact hR t h k (Nat.le_refl _) fun _ _ e => e)))
theorem fn_add (w : World) (S : Shared) {x y : Str} (hx : x.length ≠ 0) (hy : y.length ≠ 0) (hs : (x ++ y).length ≤ sizeLine) : FnOk (WD w S) "str.__add__" [.str x, .str y] (.str (x ++ y)) := by
  intro vals hv
  obtain ⟨u, v, rfl, hu, hw⟩ := two_of hv
  obtain ⟨t, rfl⟩ := pv_str hu
  obtain ⟨t', rfl⟩ := pv_str hw
  refine fn_gives F.slot_str_add (fun s => typeIs_str s x t) F.entry_str_add (F.args_str_add_2 _ _) (gives_str_add x y t t') fun Q s hp H => ?_
  rw [if_neg (by simpa using hx), if_neg (by simpa using hy)]
  exact ⟨hs, H _ _ (Nat.succ_pos _)⟩
end Mine
end
section -- Fn2
open PySem PySem.W PyProof.Rows PySem.Calls
set_option Elab.async false
set_option linter.unusedVariables false
set_option maxRecDepth 100000
set_option maxHeartbeats 0
namespace Mine
theorem one_of {vals : List Value} {x : PV} (h : vals.map PV.of = [x]) : ∃ u, vals = [u] ∧ PV.of u = x := by
  match vals, h with
  | [u], h => simp at h; exact ⟨u, rfl, h⟩
theorem len_code {M : Model} {prog : Program} {w : World} {A : Around} {R : Result → Shared → Prop} {s : Shared} {x : Str} {t : Nat} (hx : x.length < 2 ^ 62) (H : ∀ tk, R (.ok (.ret (.int x.length tk))) { s with toks := s.toks + 1 + 1 }) :
    codeAny (model prog w) A (.builtin "len" ⟨[.str x t], []⟩) R s := by
  refine codeAny_builtin entry_len ?_
  rw [Around.under_plainId plain_len _]
  exact wpAny_mono (wpAny_len_body (Q := fun r s' => R (.ok (.ret r)) s') (typeIs_str s x t) F.slot_str_len F.entry_str_len (F.args_str_len_1 _) (gives_str_len x t) (by omega) (by omega) (H _))
      (fun fin s' h' => by obtain ⟨r, rfl, hq⟩ := h'; exact hq) fun _ _ e => e
theorem fn_len (w : World) (S : Shared) {x : Str} (hx : x.length < 2 ^ 62) : FnOk (WD w S) "len" [.str x] (.int x.length) := by
  intro vals hv Γ p h tk R hc ht hn hR
  obtain ⟨u, rfl, hu⟩ := one_of hv
  obtain ⟨t, rfl⟩ := pv_str hu
  refine code_at (fun A => ?_) hc p
  refine codeAny_call_builtin plain_len entry_len ?_
  have hfin := wpAny_mono (wpAny_len_body (prog := pwR) (w := w) (A := A.in1) (E := fun e s' => R (.error e) s') (Q := fun r s' => R (.ok (.ret r)) s') (s := (WD w S).sh h tk) (typeIs_str _ x t) F.slot_str_len F.entry_str_len (F.args_str_len_1 _) (gives_str_len x t) (by omega) (by omega)
    (hR _ h _ (Nat.le_refl _) fun _ _ e => e)) (Q' := fun fin s' => match fin with
      | .done f => R (.ok f) s'
      | .again c' => c'.quiet = true ∧ codeAny (model pwR w) A c' R s')
    (fun fin s' h' => by obtain ⟨v, rfl, hv⟩ := h'; exact hv) fun _ _ h' => h'
  have ha := args_len1 (.str x t)
  simp only [checkBuiltinCall, kind_len]
  cases hsig : Manifest.signature? "len" with
  | none => exact wpAny_pure hfin
  | some sig =>
    simp only [argsOk, hsig] at ha
    have h2 : Bind.checkArgs "len" sig ⟨[.str x t], []⟩ = pure () := ha
    show wpAny _ A.in1 (Bind.checkArgs "len" sig ⟨[.str x t], []⟩) _ _ _
    rw [h2]; exact wpAny_pure hfin
theorem use_len (w : World) (S : Shared) {ρ : Nat → Nat} {x : Str} {t : Nat} {k : Nat} (hx : x.length < 2 ^ 62) (hk : x.length = k + 1) : SpecI (WD w S) ρ (pureUse (.builtin "len" ⟨[.str x t], []⟩) none [] 1 fun θ => .ok (.ret (.int (Int.ofNat (k + 1)) (θ 0)))) := by
  refine spec_pure fun Γ p h tk R hc _ top big _ fin => ?_
  refine code_at (fun A => ?_) hc p
  refine len_code (M := model pwR w) hx fun tk' => ?_
  have := fin (fun j => match j with | 0 => tk' | _ => 0) h (tk + 1 + 1) (fun j hj => by match j, hj with | j + 1, _ => rfl) (Nat.le_refl _) fun _ _ e => e
  rw [hk]
  exact this

noncomputable def kGe (w : World) (Γ : Ctx) (p : Pos) (a ρ τ : Nat → Nat) (x y : Int) (t u : Nat) : Res :=
  rK w Γ a ρ τ 60 0 [] (.call (.builtin "int.__ge__") ⟨[.int x t, .int y u], []⟩) p []
noncomputable def kGex (w : World) (Γ : Ctx) (p : Pos) (a ρ τ : Nat → Nat) (x y : Int) (t u : Nat) : Exp :=
  (some (.inl (.done (.ret (.bool (decide (x ≥ y)))), p)), [])
theorem kGe_ok (w : World) (Γ : Ctx) (p : Pos) (a ρ τ : Nat → Nat) (x y : Int) (t u : Nat) : lhsOf [] (kGe w Γ p a ρ τ x y t u) = rhsOf (kGex w Γ p a ρ τ x y t u) (kGe w Γ p a ρ τ x y t u) := by kernel_rfl

noncomputable def kLt (w : World) (Γ : Ctx) (p : Pos) (a ρ τ : Nat → Nat) (x y : Int) (t u : Nat) : Res :=
  rK w Γ a ρ τ 60 0 [] (.call (.builtin "int.__lt__") ⟨[.int x t, .int y u], []⟩) p []
noncomputable def kLtx (w : World) (Γ : Ctx) (p : Pos) (a ρ τ : Nat → Nat) (x y : Int) (t u : Nat) : Exp :=
  (some (.inl (.done (.ret (.bool (decide (x < y)))), p)), [])
theorem kLt_ok (w : World) (Γ : Ctx) (p : Pos) (a ρ τ : Nat → Nat) (x y : Int) (t u : Nat) : lhsOf [] (kLt w Γ p a ρ τ x y t u) = rhsOf (kLtx w Γ p a ρ τ x y t u) (kLt w Γ p a ρ τ x y t u) := by kernel_rfl

noncomputable def kEqI (w : World) (Γ : Ctx) (p : Pos) (a ρ τ : Nat → Nat) (x y : Int) (t u : Nat) : Res :=
  rK w Γ a ρ τ 60 0 [] (.call (.builtin "int.__eq__") ⟨[.int x t, .int y u], []⟩) p []
noncomputable def kEqIx (w : World) (Γ : Ctx) (p : Pos) (a ρ τ : Nat → Nat) (x y : Int) (t u : Nat) : Exp :=
  (some (.inl (.done (.ret (.bool (decide (x = y)))), p)), [])
theorem kEqI_ok (w : World) (Γ : Ctx) (p : Pos) (a ρ τ : Nat → Nat) (x y : Int) (t u : Nat) : lhsOf [] (kEqI w Γ p a ρ τ x y t u) = rhsOf (kEqIx w Γ p a ρ τ x y t u) (kEqI w Γ p a ρ τ x y t u) := by kernel_rfl

theorem fn_ge (w : World) (S : Shared) {x y : Int} {r : Bool} (h : decide (x ≥ y) = r) : FnOk (WD w S) "int.__ge__" [.int x, .int y] (.bool r) := by
  intro vals hv
  obtain ⟨u, v, rfl, hu, hw⟩ := two_of hv
  obtain ⟨t, rfl⟩ := pv_int hu
  obtain ⟨t', rfl⟩ := pv_int hw
  subst h
  exact fn_run (n := 60) fun Γ p a ρ τ => kGe_ok w Γ p a ρ τ x y t t'
theorem fn_lt (w : World) (S : Shared) {x y : Int} {r : Bool} (h : decide (x < y) = r) : FnOk (WD w S) "int.__lt__" [.int x, .int y] (.bool r) := by
  intro vals hv
  obtain ⟨u, v, rfl, hu, hw⟩ := two_of hv
  obtain ⟨t, rfl⟩ := pv_int hu
  obtain ⟨t', rfl⟩ := pv_int hw
  subst h
  exact fn_run (n := 60) fun Γ p a ρ τ => kLt_ok w Γ p a ρ τ x y t t'
theorem fn_eqI (w : World) (S : Shared) {x y : Int} {r : Bool} (h : decide (x = y) = r) : FnOk (WD w S) "int.__eq__" [.int x, .int y] (.bool r) := by
  intro vals hv
  obtain ⟨u, v, rfl, hu, hw⟩ := two_of hv
  obtain ⟨t, rfl⟩ := pv_int hu
  obtain ⟨t', rfl⟩ := pv_int hw
  subst h
  exact fn_run (n := 60) fun Γ p a ρ τ => kEqI_ok w Γ p a ρ τ x y t t'
noncomputable def SLC (x y : Value) : Obj := ⟨.type "slice", none, .fields ⟨[x, y, .none]⟩, ⟨[]⟩⟩
/-- x[i:j] -/
theorem use_slice (w : World) (S : Shared) {ρ : Nat → Nat} {X Y : List Nat} {t t1 t2 k : Nat} {i j : Nat} {I J : Int} (hI : I = i) (hJ : J = j) (hij : i ≤ j) (hj : j ≤ X.length) (hX : X.length ≤ sizeLine) (hY : (X.drop i).take (j - i) = Y) :
    SpecI (WD w S) ρ (pureUse (.call (.builtin "str.__getitem__") ⟨[.str ⟨⟨X⟩⟩ t, .ref (ρ k)], []⟩) none [(k, SLC (.int I t1) (.int J t2))] 1 fun θ => .ok (.ret (.str ⟨⟨Y⟩⟩ (θ 0)))) := by
  subst hI hJ
  refine spec_pure fun Γ p h tk R hc _ top big pre fin => ?_
  refine code_at (fun A => ?_) hc p
  refine codeAny_call_builtin F.slot_str_getitem.plain F.entry_str_getitem (F.slot_str_getitem.check _ _ _ _ _ _ _ _ (typeIs_str _ _ t) (F.args_str_getitem_2 _ _) ?_)
  refine meets_str_getitem_slice ⟨⟨X⟩⟩ t (ρ k) (some ((i : Int), t1)) (some ((j : Int), t2)) none rfl pwR w A R _ ⟨⟨_, pre (k, _) (List.mem_singleton.mpr rfl), rfl, rfl⟩, ?_⟩
  have F1 : ∀ z tk', R (.ok (.ret (.str ⟨⟨Y⟩⟩ z))) ((WD w S).sh h tk') := fun z tk' => fin (fun j => match j with | 0 => z | _ => 0) h tk' (fun j hj => by match j, hj with | j + 1, _ => rfl) (Nat.le_refl _) fun _ _ e => e
  have hlen : Str.length ⟨⟨X⟩⟩ = X.length := rfl
  have hs : (slicePicked ⟨⟨X⟩⟩ (some ((i : Int), t1)) (some ((j : Int), t2)) none).filterMap ((⟨X⟩ : Array Nat)[·]?) = Y := by
    rw [← hY]
    exact StrLaws.sliced_plain ⟨⟨X⟩⟩ hij hj
  have hl : (slicePicked ⟨⟨X⟩⟩ (some ((i : Int), t1)) (some ((j : Int), t2)) none).length = j - i := by
    unfold slicePicked
    show (Builtin.Str.strSliceIndices (some (i : Int)) (some (j : Int)) 1 X.length).length = _
    rw [StrLaws.strSliceIndices_plain hij hj]
    simp
  unfold sliceMade
  rw [hl, hs]
  split
  · rename_i hw
    have hw' : j - i = X.length := by
      rw [Bool.and_eq_true] at hw
      exact beq_iff_eq.mp hw.2
    have : X = Y := by
      rw [← hY]
      have h0 : i = 0 := by omega
      subst h0
      rw [List.drop_zero, hw', List.take_length]
    subst this
    exact F1 _ _
  · refine ⟨?_, F1 _ _⟩
    show Y.length ≤ sizeLine
    rw [← hY, List.length_take, List.length_drop]
    omega
/-- x[i] -/
theorem fn_at (w : World) (S : Shared) {X : List Nat} {c i : Nat} {I : Int} (hI : I = i) (hb : X.length < 2 ^ 62) (hc : X[i]? = some c) : FnOk (WD w S) "str.__getitem__" [.str ⟨⟨X⟩⟩, .int I] (.str ⟨⟨[c]⟩⟩) := by
  subst hI
  intro vals hv
  obtain ⟨u, v, rfl, hu, hw⟩ := two_of hv
  obtain ⟨t, rfl⟩ := pv_str hu
  obtain ⟨t', rfl⟩ := pv_int hw
  have hi : i < X.length := (List.getElem?_eq_some_iff.mp hc).1
  refine fn_gives F.slot_str_getitem (fun s => typeIs_str s _ t) F.entry_str_getitem (F.args_str_getitem_2 _ _) (gives_str_getitem ⟨⟨X⟩⟩ i t t' c (by simp; omega) ?_) fun Q s hp H => ⟨(by show 1 ≤ sizeLine; decide), H _ _ (Nat.succ_pos _)⟩
  have e : seqIndex? (i : Int) (Str.length ⟨⟨X⟩⟩) = some i := by
    show seqIndex? (i : Int) X.length = some i
    unfold seqIndex?
    simp
    omega
  rw [e]
  show (⟨X⟩ : Array Nat)[i]? = some c
  simpa using hc
theorem fn_addL (w : World) (S : Shared) {T U : List Nat} (hT : T ≠ []) (hU : U ≠ []) (hs : (T ++ U).length ≤ sizeLine) : FnOk (WD w S) "str.__add__" [.str ⟨⟨T⟩⟩, .str ⟨⟨U⟩⟩] (.str ⟨⟨T ++ U⟩⟩) := by
  have e : (⟨⟨T⟩⟩ : Str) ++ ⟨⟨U⟩⟩ = ⟨⟨T ++ U⟩⟩ := by
    show (⟨(⟨T⟩ : Array Nat) ++ ⟨U⟩⟩ : Str) = ⟨⟨T ++ U⟩⟩
    simp
  rw [← e]
  refine fn_add w S (by simpa [Str.length] using hT) (by simpa [Str.length] using hU) ?_
  rw [e]; exact hs
theorem fn_ne (w : World) (S : Shared) {x y : Str} {r : Bool} (h : (x.cps.toList != y.cps.toList) = r) : FnOk (WD w S) "str.__ne__" [.str x, .str y] (.bool r) := by
  intro vals hv
  obtain ⟨u, v, rfl, hu, hw⟩ := two_of hv
  obtain ⟨t, rfl⟩ := pv_str hu
  obtain ⟨t', rfl⟩ := pv_str hw
  subst h
  exact fn_gives F.slot_str_ne (fun s => typeIs_str s x t) F.entry_str_ne (F.args_str_ne_2 _ _) (gives_str_ne x y t t') fun Q s hp H => H 0 _ hp
noncomputable def TUP (l : List Value) : Obj := ⟨.type "tuple", none, .seq ⟨l⟩ 0, ⟨[]⟩⟩
/-- x in a tuple of texts -/
theorem use_tupS (w : World) (S : Shared) {ρ : Nat → Nat} {l : List Value} {ys : List Str} {x : Str} {t k : Nat} {r : Bool} (hl : StrsAre l ys) (hr : ys.any (· == x) = r) :
    SpecI (WD w S) ρ (pureUse (.call (.builtin "tuple.__contains__") ⟨[.ref (ρ k), .str x t], []⟩) none [(k, TUP l)] 0 fun θ => .ok (.ret (.bool r))) := by
  subst hr
  refine spec_pure fun Γ p h tk R hc _ top big pre fin => ?_
  refine code_at (fun A => ?_) hc p
  have ht : IsTup h (ρ k) ⟨l⟩ := ⟨_, pre (k, _) (List.mem_singleton.mpr rfl), rfl, 0, rfl⟩
  refine codeAny_call_builtin slot_tuple_contains.plain entry_tuple_contains (slot_tuple_contains.check _ _ _ _ _ _ _ _ ht.typeIs (args_tuple_contains _ _) ?_)
  exact tuple_contains_strs ht hl (fin (fun _ => 0) h tk (fun _ _ => rfl) (Nat.le_refl _) fun _ _ e => e)
/-- x in a tuple of numbers -/
theorem use_tupI (w : World) (S : Shared) {ρ : Nat → Nat} {l : List Value} {ys : List Int} {x : Int} {t k : Nat} {r : Bool} (hl : IntsAre l ys) (hr : ys.any (· == x) = r) :
    SpecI (WD w S) ρ (pureUse (.call (.builtin "tuple.__contains__") ⟨[.ref (ρ k), .int x t], []⟩) none [(k, TUP l)] 0 fun θ => .ok (.ret (.bool r))) := by
  subst hr
  refine spec_pure fun Γ p h tk R hc _ top big pre fin => ?_
  refine code_at (fun A => ?_) hc p
  have ht : IsTup h (ρ k) ⟨l⟩ := ⟨_, pre (k, _) (List.mem_singleton.mpr rfl), rfl, 0, rfl⟩
  refine codeAny_call_builtin slot_tuple_contains.plain entry_tuple_contains (slot_tuple_contains.check _ _ _ _ _ _ _ _ ht.typeIs (args_tuple_contains _ _) ?_)
  exact tuple_contains_tree ht hl (fin (fun _ => 0) h tk (fun _ _ => rfl) (Nat.le_refl _) fun _ _ e => e)
end Mine
end
section -- Rd
open PySem PySem.W PyProof.Rows PySem.Calls
set_option Elab.async false
set_option linter.unusedVariables false
set_option maxRecDepth 100000
set_option maxHeartbeats 0
namespace Mine
noncomputable def pRD : Pos := ⟨586, 27, 586, 48⟩
noncomputable def blRD (st : Nat → Nat) (pp : Nat → Pos) (l it fnx fg fr : Nat) : List (Code × Pos) := (cRTw fr, pRD) :: blRT st pp l it fnx fg fr
noncomputable def cRD (io t1 : Nat) : Code := .call (.ref 551) ⟨[.ref io, .int 1 t1], []⟩
noncomputable def rdUse (P : Params) (ks : Nat → Nat) (nl : Nat) (X : List Nat) (tx : Nat) (below : List (Code × Pos)) (io d t1 : Nat) (pos pos' : Int) (tp : Nat) (c : List Nat) : Use :=
  mkUse (cRD io t1) (some below) [2, 3] [IOD P ks nl (.str ⟨⟨X⟩⟩ tx) (.int pos tp), inst 605 d] 2 (fun θ => [IOD P ks nl (.str ⟨⟨X⟩⟩ tx) (.int pos' (θ 1)), inst 605 d]) (fun θ => .ok (.ret (.str ⟨⟨c⟩⟩ (θ 0))))
noncomputable def kRd1 (w : World) (a ρ τ st k2 : Nat → Nat) (pp : Nat → Pos) (p : Pos) (l it fnx fg fr nl tx tp t1 : Nat) (X : List Nat) (c : Nat) (pos n : Int) : Res :=
  rK w ⟨cRD (a 1) t1, none, none, blRD st pp l it fnx fg fr, none⟩ a ρ τ (389) (234336263147926551888067783937153721722111942589436880672507951521131708639175934078246105581232955858513932785259376347957510895469600137830243295786160713926022376066040292948851673226954419058138912489384417775485838389493001596989338160403441239840394468415683775258995371979416699807421301532957290160290237726459909641304197867396249547780081637283153264579039598923530071608881467935540321000713981184163342730462109318490528574611380280618147779084711158895332582112761919099893679227746684034275782018889288797943040001473530564092924952273342311021348546304110283128408847974937106692971428587805305430219755379324470745601034973505038736509752159748903838705937402332851236931371008)
    [.fn "len" [.str ⟨⟨X⟩⟩] (.int n), .fn "int.__ge__" [.int pos, .int n] (.bool false), .fn "int.__lt__" [.int (pos + 1), .int n] (.bool true),
     .use 6 26 fun ρ τ => pureUse (.call (.builtin "str.__getitem__") ⟨[.str ⟨⟨X⟩⟩ tx, .ref (ρ 5)], []⟩) none [(5, SLC (.int pos tp) (.int (pos + 1) (τ 21)))] 1 fun θ => .ok (.ret (.str ⟨⟨[c]⟩⟩ (θ 0)))]
    (cRD (a 1) t1) p [IOD w.params k2 nl (.str ⟨⟨X⟩⟩ tx) (.int pos tp), inst 605 (a 0)]
noncomputable def kRd1x (w : World) (a ρ τ st k2 : Nat → Nat) (pp : Nat → Pos) (p : Pos) (l it fnx fg fr nl tx tp t1 : Nat) (X : List Nat) (c : Nat) (pos n : Int) : Exp :=
  (some (.inl (.done (.ret (.str ⟨⟨[c]⟩⟩ (τ 26))), ⟨371, 15, 371, 37⟩)), [some (IOD w.params k2 nl (.str ⟨⟨X⟩⟩ tx) (.int (pos + 1) (τ 21))), some (inst 605 (a 0))])
theorem kRd1_ok (w : World) (a ρ τ st k2 : Nat → Nat) (pp : Nat → Pos) (p : Pos) (l it fnx fg fr nl tx tp t1 : Nat) (X : List Nat) (c : Nat) (pos n : Int) : lhsOf [0, 1] (kRd1 w a ρ τ st k2 pp p l it fnx fg fr nl tx tp t1 X c pos n) = rhsOf (kRd1x w a ρ τ st k2 pp p l it fnx fg fr nl tx tp t1 X c pos n) (kRd1 w a ρ τ st k2 pp p l it fnx fg fr nl tx tp t1 X c pos n) := by kernel_rfl

noncomputable def kRd2 (w : World) (a ρ τ st k2 : Nat → Nat) (pp : Nat → Pos) (p : Pos) (l it fnx fg fr nl tx tp t1 : Nat) (X : List Nat) (c : Nat) (pos n : Int) : Res :=
  rK w ⟨cRD (a 1) t1, none, none, blRD st pp l it fnx fg fr, none⟩ a ρ τ (372) (203254308477693455728455514065379611360784245674968099299336584813029546319591787660463222381743982630180067592822066049153890018403451187189864918051160966599671932223089250492576322183016163772489947769035212711111196557417103436198091502156610398176036541601983099793140199816095311059082699857413393313128504988419933962634446140501486863174633710715844330513596619670314192630975952226636444697563997387506570401302983388001381214564763129843007339418406290131043777187060460735660681423263940870063606066111014161769878974143451022133987933011469196383517440769567154069460440563129967610426807807732688281335731177722895652943673880664455340512602288517954262383198208)
    [.fn "len" [.str ⟨⟨X⟩⟩] (.int n), .fn "int.__ge__" [.int pos, .int n] (.bool false), .fn "int.__lt__" [.int (pos + 1), .int n] (.bool false),
     .use 6 24 fun ρ τ => pureUse (.call (.builtin "str.__getitem__") ⟨[.str ⟨⟨X⟩⟩ tx, .ref (ρ 5)], []⟩) none [(5, SLC (.int pos tp) (.int n (τ 15)))] 1 fun θ => .ok (.ret (.str ⟨⟨[c]⟩⟩ (θ 0)))]
    (cRD (a 1) t1) p [IOD w.params k2 nl (.str ⟨⟨X⟩⟩ tx) (.int pos tp), inst 605 (a 0)]
noncomputable def kRd2x (w : World) (a ρ τ st k2 : Nat → Nat) (pp : Nat → Pos) (p : Pos) (l it fnx fg fr nl tx tp t1 : Nat) (X : List Nat) (c : Nat) (pos n : Int) : Exp :=
  (some (.inl (.done (.ret (.str ⟨⟨[c]⟩⟩ (τ 24))), ⟨371, 15, 371, 37⟩)), [some (IOD w.params k2 nl (.str ⟨⟨X⟩⟩ tx) (.int n (τ 15))), some (inst 605 (a 0))])
theorem kRd2_ok (w : World) (a ρ τ st k2 : Nat → Nat) (pp : Nat → Pos) (p : Pos) (l it fnx fg fr nl tx tp t1 : Nat) (X : List Nat) (c : Nat) (pos n : Int) : lhsOf [0, 1] (kRd2 w a ρ τ st k2 pp p l it fnx fg fr nl tx tp t1 X c pos n) = rhsOf (kRd2x w a ρ τ st k2 pp p l it fnx fg fr nl tx tp t1 X c pos n) (kRd2 w a ρ τ st k2 pp p l it fnx fg fr nl tx tp t1 X c pos n) := by kernel_rfl

noncomputable def kRd3 (w : World) (a ρ τ st k2 : Nat → Nat) (pp : Nat → Pos) (p : Pos) (l it fnx fg fr nl tx tp t1 : Nat) (X : List Nat) (pos n : Int) : Res :=
  rK w ⟨cRD (a 1) t1, none, none, blRD st pp l it fnx fg fr, none⟩ a ρ τ (279) (45618526358376241452305700160711403730664144586494374803790633640015128479389431530942411761827719737729732406554354184128767656921390948044853848577485358184826778699818350961681656462825839248733023761912090797284355987194200426402041399392811509017638948987678019764140101202363442362235598671562324605934092707301926131954277340086469654547870258936291455261751721971750329310370287046736614122694569993160135097641753044833947902605405709903652690814472637472358932833707703140352)
    [.fn "len" [.str ⟨⟨X⟩⟩] (.int n), .fn "int.__ge__" [.int pos, .int n] (.bool true)]
    (cRD (a 1) t1) p [IOD w.params k2 nl (.str ⟨⟨X⟩⟩ tx) (.int pos tp), inst 605 (a 0)]
noncomputable def kRd3x (w : World) (a ρ τ st k2 : Nat → Nat) (pp : Nat → Pos) (p : Pos) (l it fnx fg fr nl tx tp t1 : Nat) (X : List Nat) (pos n : Int) : Exp :=
  (some (.inl (.done (.ret (.str ⟨⟨[]⟩⟩ (τ 18))), ⟨367, 12, 367, 21⟩)), [some (IOD w.params k2 nl (.str ⟨⟨X⟩⟩ tx) (.int pos tp)), some (inst 605 (a 0))])
theorem kRd3_ok (w : World) (a ρ τ st k2 : Nat → Nat) (pp : Nat → Pos) (p : Pos) (l it fnx fg fr nl tx tp t1 : Nat) (X : List Nat) (pos n : Int) : lhsOf [0, 1] (kRd3 w a ρ τ st k2 pp p l it fnx fg fr nl tx tp t1 X pos n) = rhsOf (kRd3x w a ρ τ st k2 pp p l it fnx fg fr nl tx tp t1 X pos n) (kRd3 w a ρ τ st k2 pp p l it fnx fg fr nl tx tp t1 X pos n) := by kernel_rfl

noncomputable def two (x y : Nat) : Nat → Nat := fun j => match j with | 0 => x | 1 => y | _ => 0
theorem two_ge {x y : Nat} : ∀ j, 2 ≤ j → two x y j = 0
  | j + 2, _ => rfl
theorem rd_char (w : World) (S : Shared) {ρ st k2 : Nat → Nat} {pp : Nat → Pos} {l it fnx fg fr nl tx tp t1 k c : Nat} {X Y : List Nat} (hX : X.length ≤ sizeLine) (hc : X.drop k = c :: Y) :
    SpecI (WD w S) ρ (rdUse w.params k2 nl X tx (blRD st pp l it fnx fg fr) (ρ 3) (ρ 2) t1 (k : Int) ((k : Int) + 1) tp [c]) := by
  have hlen : k + Y.length + 1 = X.length := by
    have := congrArg List.length hc
    rw [List.length_drop, List.length_cons] at this
    omega
  have hsz : sizeLine < 2 ^ 62 := by decide
  have hb : Str.length ⟨⟨X⟩⟩ < 2 ^ 62 := Nat.lt_of_le_of_lt hX hsz
  refine spec_mk (by decide) rfl (fun _ => rfl) fun Γ p h tk R hc' hbl G fin => ?_
  rw [hbl _ rfl]
  by_cases hlt : k + 1 < X.length
  · refine fragK (Γ := ⟨cRD (ρ 3) t1, none, none, blRD st pp l it fnx fg fr, none⟩) (c := cRD (ρ 3) t1) G (x := fun ρ' τ => kRd1x w (fun i => ρ (nthN [2, 3] i)) ρ' τ st k2 pp p l it fnx fg fr nl tx tp t1 X c k X.length) ?_ (fun ρ' τ => kRd1_ok w (fun i => ρ (nthN [2, 3] i)) ρ' τ st k2 pp p l it fnx fg fr nl tx tp t1 X c k X.length) (fun _ _ z => by cases z) (fun ρ' τ h' tk' hρ B => ?_) tk
    · refine okc ?_ (okc ?_ (okc ?_ (okc ?_ ok0)))
      · exact fn_len w S hb
      · exact fn_ge w S (by simp; omega)
      · exact fn_lt w S (by simp; omega)
      · exact ok_pure fun ρ τ => use_slice w S (i := k) (j := k + 1) rfl (by simp) (by omega) (by omega) hX (by rw [hc]; simp)
    · exact fin (two (τ 26) (τ 21)) h' tk' two_ge (nx_of' B G.big hρ rfl rfl rfl)
  · have hn : ((X.length : Nat) : Int) = (k : Int) + 1 := by omega
    refine fragK (Γ := ⟨cRD (ρ 3) t1, none, none, blRD st pp l it fnx fg fr, none⟩) (c := cRD (ρ 3) t1) G (x := fun ρ' τ => kRd2x w (fun i => ρ (nthN [2, 3] i)) ρ' τ st k2 pp p l it fnx fg fr nl tx tp t1 X c k ((k : Int) + 1)) ?_ (fun ρ' τ => kRd2_ok w (fun i => ρ (nthN [2, 3] i)) ρ' τ st k2 pp p l it fnx fg fr nl tx tp t1 X c k ((k : Int) + 1)) (fun _ _ z => by cases z) (fun ρ' τ h' tk' hρ B => ?_) tk
    · refine okc ?_ (okc ?_ (okc ?_ (okc ?_ ok0)))
      · rw [← hn]; exact fn_len w S hb
      · exact fn_ge w S (by simp; omega)
      · exact fn_lt w S (by simp)
      · exact ok_pure fun ρ τ => use_slice w S (i := k) (j := k + 1) rfl (by simp) (by omega) (by omega) hX (by rw [hc]; simp)
    · exact fin (two (τ 24) (τ 15)) h' tk' two_ge (nx_of' B G.big hρ rfl rfl rfl)
theorem rd_eof (w : World) (S : Shared) {ρ st k2 : Nat → Nat} {pp : Nat → Pos} {l it fnx fg fr nl tx tp t1 : Nat} {X : List Nat} (hX : X.length ≤ sizeLine) :
    SpecI (WD w S) ρ (rdUse w.params k2 nl X tx (blRD st pp l it fnx fg fr) (ρ 3) (ρ 2) t1 (X.length : Int) (X.length : Int) tp []) := by
  have hsz : sizeLine < 2 ^ 62 := by decide
  have hb : Str.length ⟨⟨X⟩⟩ < 2 ^ 62 := Nat.lt_of_le_of_lt hX hsz
  refine spec_mk (by decide) rfl (fun _ => rfl) fun Γ p h tk R hc' hbl G fin => ?_
  rw [hbl _ rfl]
  refine fragK (Γ := ⟨cRD (ρ 3) t1, none, none, blRD st pp l it fnx fg fr, none⟩) (c := cRD (ρ 3) t1) G (x := fun ρ' τ => kRd3x w (fun i => ρ (nthN [2, 3] i)) ρ' τ st k2 pp p l it fnx fg fr nl tx tp t1 X X.length X.length) ?_ (fun ρ' τ => kRd3_ok w (fun i => ρ (nthN [2, 3] i)) ρ' τ st k2 pp p l it fnx fg fr nl tx tp t1 X X.length X.length) (fun _ _ z => by cases z) (fun ρ' τ h' tk' hρ B => ?_) tk
  · refine okc ?_ (okc ?_ ok0)
    · exact fn_len w S hb
    · exact fn_ge w S (by simp)
  · exact fin (two (τ 18) tp) h' tk' two_ge (nx_of' B G.big hρ rfl rfl rfl)
end Mine
end
section -- Tn
open PySem PySem.W PyProof.Rows PySem.Calls
set_option Elab.async false
set_option linter.unusedVariables false
set_option maxRecDepth 100000
set_option maxHeartbeats 0
namespace Mine
structure Lx where
  ks : Nat → Nat
  vs : Nat → Nat
  k2 : Nat → Nat
  pb : Nat
  fs : Nat
  nl : Nat
  tx : Nat
  X : List Nat
/-- the objects of a lexer at work: its attributes, itself, its stream's attributes, the stream, the pushed back signs, the frame of read_token -/
noncomputable def LG (P : Params) (L : Lx) (a : Nat → Nat) (state token : Value) (pos : Int) (tp : Nat) (dq : List Value) (n : Nat) (fr : Obj) : List Obj :=
  [SH P L.ks L.vs (a 3) L.pb L.fs (a 4) state token, inst 740 (a 0), IOD P L.k2 L.nl (.str ⟨⟨L.X⟩⟩ L.tx) (.int pos tp), inst 605 (a 2), DQ dq n, fr]
/-- a sign of a word, a letter of rights, any other sign within marks -/
structure IsW (c : Nat) : Prop where
  nl : eqS ⟨⟨[c]⟩⟩ (s [10]) = false
  sp : inS SPACE ⟨⟨[c]⟩⟩ = false
  hs : inS (s [35]) ⟨⟨[c]⟩⟩ = false
  bs : inS (s [92]) ⟨⟨[c]⟩⟩ = false
  qs : inS (s [39, 34]) ⟨⟨[c]⟩⟩ = false
  w : inS WORD ⟨⟨[c]⟩⟩ = true
  p : inS PUNC ⟨⟨[c]⟩⟩ = false
structure IsP (c : Nat) : Prop where
  nl : eqS ⟨⟨[c]⟩⟩ (s [10]) = false
  sp : inS SPACE ⟨⟨[c]⟩⟩ = false
  hs : inS (s [35]) ⟨⟨[c]⟩⟩ = false
  bs : inS (s [92]) ⟨⟨[c]⟩⟩ = false
  qs : inS (s [39, 34]) ⟨⟨[c]⟩⟩ = false
  w : inS WORD ⟨⟨[c]⟩⟩ = false
  p : inS PUNC ⟨⟨[c]⟩⟩ = true
structure IsO (c : Nat) : Prop where
  nl : eqS ⟨⟨[c]⟩⟩ (s [10]) = false
  bs : inS (s [92]) ⟨⟨[c]⟩⟩ = false
  dq : eqS ⟨⟨[c]⟩⟩ (s [34]) = false
noncomputable def A1 (w : World) (a k3 st : Nat → Nat) (L : Lx) (pp : Nat → Pos) (p : Pos) (l fnx fg ts tt tp te tc n kk c : Nat) (pos : Int) (T : List Nat) (q e v nx : Value) : Fr :=
  frC (blRT st pp l (a 1) fnx fg (a 5)) (cRTw (a 5)) p 6 (LG w.params L a (.str (s [32]) (ts)) v pos tp [] n (FR3 w.params k3 (a 1) q e))
    [.use 7 10 fun ρ τ => rdUse w.params L.k2 L.nl L.X L.tx (blRD st pp l (ρ 1) fnx fg (ρ 5)) (ρ 3) (ρ 2) (τ 9) pos (pos + 1) tp [c],
     .fn "str.__eq__" [.str ⟨⟨[c]⟩⟩, .str (s [10])] (.bool false),
     .fn "str.__eq__" [.str (s [32]), .str (s [32])] (.bool true),
     .fn "str.__contains__" [.str SPACE, .str ⟨⟨[c]⟩⟩] (.bool false),
     .fn "str.__contains__" [.str (s [35]), .str ⟨⟨[c]⟩⟩] (.bool false),
     .fn "str.__contains__" [.str (s [92]), .str ⟨⟨[c]⟩⟩] (.bool false),
     .fn "str.__contains__" [.str WORD, .str ⟨⟨[c]⟩⟩] (.bool true)]
    [] (423) (665977944030683303189634259944962305727700163753217837963282259903203146796157149720262773119565677875585542326014403187674685135882061273477042945993368703752095722418072397820212942534107509744399787464641056541825886256875817615498268669192855232083836012670105066619719674330050361149577322321965761250824631312253939848235172019194738425686888021988103668563807066659440506618500848444929391564073816235142231642482133047108613886206466999914068463378354108514342591138472435882496905269646746111755480680219835642127370977312764053433423461656834423115919339496341668630870132690816661381474961719896787353526012046464713951880927003057164617501093205495562011485949628654856509853588030811499768295795986558695636824962777773982899630476137436427655370407993606866367760993874082040438351415272039182728867500045373448) (fun _ _ => .inl (.again (cRTw (a 5)), ⟨613, 20, 613, 30⟩)) (fun _ τ => (LG w.params L a (.str (s [97]) (τ 34)) (.str ⟨⟨[c]⟩⟩ (τ 10)) (pos + 1) (τ 11) [] n (FR4 w.params (upd k3 3 (τ 12)) (a 1) q e (.str ⟨⟨[c]⟩⟩ (τ 10))))) (fun _ _ => [])
theorem A1_n (w : World) (a k3 st : Nat → Nat) (L : Lx) (pp : Nat → Pos) (p : Pos) (l fnx fg ts tt tp te tc n kk c : Nat) (pos : Int) (T : List Nat) (q e v nx : Value) : (A1 w a k3 st L pp p l fnx fg ts tt tp te tc n kk c pos T q e v nx).SpecN w a := Fr.specN fun ρ τ => by kernel_rfl

theorem A1_w (w : World) (S : Shared) (a k3 st : Nat → Nat) (L : Lx) (pp : Nat → Pos) (p : Pos) (l fnx fg ts tt tp te tc n kk c : Nat) (k : Nat) (T : List Nat) (q e v nx : Value) {Y : List Nat} (hX : L.X.length ≤ sizeLine) (hk : L.X.drop k = c :: Y) (hC : IsW c) {R : Result → Shared → Prop} {h : Heap} {tk : Nat} (G : Given (WD w S) a (LG w.params L a (.str (s [32]) (ts)) v (k : Int) tp [] n (FR3 w.params k3 (a 1) q e)) h)
    (fin : ∀ (τ : Nat → Nat) (h' : Heap) (tk' : Nat), Nx (WD w S) 6 a (LG w.params L a (.str (s [97]) (τ 34)) (.str ⟨⟨[c]⟩⟩ (τ 10)) ((k : Int) + 1) (τ 11) [] n (FR4 w.params (upd k3 3 (τ 12)) (a 1) q e (.str ⟨⟨[c]⟩⟩ (τ 10)))) h h' → EndR (WD w S) ⟨cRTw (a 5), none, none, blRT st pp l (a 1) fnx fg (a 5), none⟩ R h' tk' (some (.inl (.again (cRTw (a 5)), ⟨613, 20, 613, 30⟩)))) :
    wpCode (model pwR w) ⟨cRTw (a 5), none, none, blRT st pp l (a 1) fnx fg (a 5), none⟩ R p ((WD w S).sh h tk) := by
  refine A1_n w a k3 st L pp p l fnx fg ts tt tp te tc n kk c k T q e v nx G ?_ fin
  refine okc ?_ (okc ?_ (okc ?_ (okc ?_ (okc ?_ (okc ?_ (okc ?_ ok0))))))
  · exact ok_mk (fun _ _ => rfl) fun ρ τ => rd_char w S hX hk
  · exact fn_eq w S hC.nl
  · exact fn_eq w S rfl
  · exact fn_in w S hC.sp
  · exact fn_in w S hC.hs
  · exact fn_in w S hC.bs
  · exact fn_in w S hC.w
noncomputable def A5 (w : World) (a k3 st : Nat → Nat) (L : Lx) (pp : Nat → Pos) (p : Pos) (l fnx fg ts tt tp te tc n kk c : Nat) (pos : Int) (T : List Nat) (q e v nx : Value) : Fr :=
  frC (blRT st pp l (a 1) fnx fg (a 5)) (cRTw (a 5)) p 6 (LG w.params L a .none v pos tp [] n (FR3 w.params k3 (a 1) q e))
    [.use 7 10 fun ρ τ => rdUse w.params L.k2 L.nl L.X L.tx (blRD st pp l (ρ 1) fnx fg (ρ 5)) (ρ 3) (ρ 2) (τ 9) pos pos tp [],
     .fn "str.__eq__" [.str (s []), .str (s [10])] (.bool false)]
    [] (243) (40556919698326288637227942373097242939730885634099282084835334750722529221909016576974437048481527296881684838219937012261475132023511477331730449694367080770163848794565568313363942474010333353327723497633167668134429132210238718347775822060515297296567756816338201082572079172829735440711660167122792663223119886807300473682279785711339243935567481366587739693857361432879478266224109735030422243780353445929070359973052309895921210905026865792981825530889366673559560) (fun _ _ => .inl (.done .next, ⟨593, 16, 593, 21⟩)) (fun _ τ => (LG w.params L a .none (.str (s []) (τ 18)) pos (τ 11) [] n (FR4 w.params (upd k3 3 (τ 12)) (a 1) q e (.str (s []) (τ 10))))) (fun _ _ => [])
theorem A5_n (w : World) (a k3 st : Nat → Nat) (L : Lx) (pp : Nat → Pos) (p : Pos) (l fnx fg ts tt tp te tc n kk c : Nat) (pos : Int) (T : List Nat) (q e v nx : Value) : (A5 w a k3 st L pp p l fnx fg ts tt tp te tc n kk c pos T q e v nx).SpecN w a := Fr.specN fun ρ τ => by kernel_rfl

theorem A5_w (w : World) (S : Shared) (a k3 st : Nat → Nat) (L : Lx) (pp : Nat → Pos) (p : Pos) (l fnx fg ts tt tp te tc n kk c : Nat) (k : Nat) (T : List Nat) (q e v nx : Value) {Y : List Nat} (hX : L.X.length ≤ sizeLine) {R : Result → Shared → Prop} {h : Heap} {tk : Nat} (G : Given (WD w S) a (LG w.params L a .none v (L.X.length : Int) tp [] n (FR3 w.params k3 (a 1) q e)) h)
    (fin : ∀ (τ : Nat → Nat) (h' : Heap) (tk' : Nat), Nx (WD w S) 6 a (LG w.params L a .none (.str (s []) (τ 18)) (L.X.length : Int) (τ 11) [] n (FR4 w.params (upd k3 3 (τ 12)) (a 1) q e (.str (s []) (τ 10)))) h h' → EndR (WD w S) ⟨cRTw (a 5), none, none, blRT st pp l (a 1) fnx fg (a 5), none⟩ R h' tk' (some (.inl (.done .next, ⟨593, 16, 593, 21⟩)))) :
    wpCode (model pwR w) ⟨cRTw (a 5), none, none, blRT st pp l (a 1) fnx fg (a 5), none⟩ R p ((WD w S).sh h tk) := by
  refine A5_n w a k3 st L pp p l fnx fg ts tt tp te tc n kk c L.X.length T q e v nx G ?_ fin
  refine okc ?_ (okc ?_ ok0)
  · exact ok_mk (fun _ _ => rfl) fun ρ τ => rd_eof w S hX
  · exact fn_eq w S rfl
noncomputable def B1 (w : World) (a k3 st : Nat → Nat) (L : Lx) (pp : Nat → Pos) (p : Pos) (l fnx fg ts tt tp te tc n kk c : Nat) (pos : Int) (T : List Nat) (q e v nx : Value) : Fr :=
  frC (blRT st pp l (a 1) fnx fg (a 5)) (cRTw (a 5)) p 6 (LG w.params L a (.str (s [97]) (ts)) (.str ⟨⟨T⟩⟩ tt) pos tp [] n (FR4 w.params k3 (a 1) q e nx))
    [.use 7 10 fun ρ τ => rdUse w.params L.k2 L.nl L.X L.tx (blRD st pp l (ρ 1) fnx fg (ρ 5)) (ρ 3) (ρ 2) (τ 9) pos pos tp [],
     .fn "str.__eq__" [.str (s []), .str (s [10])] (.bool false),
     .fn "str.__eq__" [.str (s [97]), .str (s [32])] (.bool false),
     .fn "str.__contains__" [.str (s [39, 34]), .str (s [97])] (.bool false),
     .fn "str.__contains__" [.str (s [92]), .str (s [97])] (.bool false),
     .use 8 30 fun ρ τ => pureUse (.call (.builtin "tuple.__contains__") ⟨[.ref (ρ 7), .str (s [97]) ts], []⟩) none [(7, TUP [.str (s [97]) (τ 28), .str (s [99]) (τ 29)])] 0 fun θ => .ok (.ret (.bool true))]
    [] (388) (376930158419917873847297722942168796171338735853904706546035601718041088059302068909155688875143504644538576325851183074849799712681332457979436793676052430450417438240858436458358915858893580236574265174689629692473917375731190985327344864783868697930064286332007546388149119439223555014657481390069692862785664011023502023752216996368256854506067933224045376108256976452963654374392973734421533914945197469924878827828863900218760123356885341152400919797015330742445605270691583514457738166603158284082333256710174051835184916076772498617707832493636796871842241233052546423193520780741064531307197177063742669743661632217640183487549159952860903153061979545021929576892785162842891086428842853162904762613736074010764624796380070387936159103881056264) (fun _ _ => .inl (.done .next, ⟨660, 20, 660, 25⟩)) (fun _ τ => (LG w.params L a .none (.str ⟨⟨T⟩⟩ tt) pos (τ 11) [] n (FR4 w.params k3 (a 1) q e (.str (s []) (τ 10))))) (fun _ _ => [])
theorem B1_n (w : World) (a k3 st : Nat → Nat) (L : Lx) (pp : Nat → Pos) (p : Pos) (l fnx fg ts tt tp te tc n kk c : Nat) (pos : Int) (T : List Nat) (q e v nx : Value) : (B1 w a k3 st L pp p l fnx fg ts tt tp te tc n kk c pos T q e v nx).SpecN w a := Fr.specN fun ρ τ => by kernel_rfl

theorem B1_w (w : World) (S : Shared) (a k3 st : Nat → Nat) (L : Lx) (pp : Nat → Pos) (p : Pos) (l fnx fg ts tt tp te tc n kk c : Nat) (k : Nat) (T : List Nat) (q e v nx : Value) {Y : List Nat} (hX : L.X.length ≤ sizeLine) {R : Result → Shared → Prop} {h : Heap} {tk : Nat} (G : Given (WD w S) a (LG w.params L a (.str (s [97]) (ts)) (.str ⟨⟨T⟩⟩ tt) (L.X.length : Int) tp [] n (FR4 w.params k3 (a 1) q e nx)) h)
    (fin : ∀ (τ : Nat → Nat) (h' : Heap) (tk' : Nat), Nx (WD w S) 6 a (LG w.params L a .none (.str ⟨⟨T⟩⟩ tt) (L.X.length : Int) (τ 11) [] n (FR4 w.params k3 (a 1) q e (.str (s []) (τ 10)))) h h' → EndR (WD w S) ⟨cRTw (a 5), none, none, blRT st pp l (a 1) fnx fg (a 5), none⟩ R h' tk' (some (.inl (.done .next, ⟨660, 20, 660, 25⟩)))) :
    wpCode (model pwR w) ⟨cRTw (a 5), none, none, blRT st pp l (a 1) fnx fg (a 5), none⟩ R p ((WD w S).sh h tk) := by
  refine B1_n w a k3 st L pp p l fnx fg ts tt tp te tc n kk c L.X.length T q e v nx G ?_ fin
  refine okc ?_ (okc ?_ (okc ?_ (okc ?_ (okc ?_ (okc ?_ ok0)))))
  · exact ok_mk (fun _ _ => rfl) fun ρ τ => rd_eof w S hX
  · exact fn_eq w S rfl
  · exact fn_eq w S rfl
  · exact fn_in w S (by kernel_rfl)
  · exact fn_in w S (by kernel_rfl)
  · exact ok_pure fun ρ τ => use_tupS w S (.cons _ _ (.cons _ _ .nil)) (by kernel_rfl)
noncomputable def B2 (w : World) (a k3 st : Nat → Nat) (L : Lx) (pp : Nat → Pos) (p : Pos) (l fnx fg ts tt tp te tc n kk c : Nat) (pos : Int) (T : List Nat) (q e v nx : Value) : Fr :=
  frC (blRT st pp l (a 1) fnx fg (a 5)) (cRTw (a 5)) p 6 (LG w.params L a (.str (s [97]) (ts)) (.str ⟨⟨T⟩⟩ tt) pos tp [] n (FR4 w.params k3 (a 1) q e nx))
    [.use 7 10 fun ρ τ => rdUse w.params L.k2 L.nl L.X L.tx (blRD st pp l (ρ 1) fnx fg (ρ 5)) (ρ 3) (ρ 2) (τ 9) pos (pos + 1) tp [34],
     .fn "str.__eq__" [.str (s [34]), .str (s [10])] (.bool false),
     .fn "str.__eq__" [.str (s [97]), .str (s [32])] (.bool false),
     .fn "str.__contains__" [.str (s [39, 34]), .str (s [97])] (.bool false),
     .fn "str.__contains__" [.str (s [92]), .str (s [97])] (.bool false),
     .use 8 30 fun ρ τ => pureUse (.call (.builtin "tuple.__contains__") ⟨[.ref (ρ 7), .str (s [97]) ts], []⟩) none [(7, TUP [.str (s [97]) (τ 28), .str (s [99]) (τ 29)])] 0 fun θ => .ok (.ret (.bool true)),
     .fn "str.__contains__" [.str SPACE, .str (s [34])] (.bool false),
     .fn "str.__contains__" [.str (s [35]), .str (s [34])] (.bool false),
     .fn "str.__eq__" [.str (s [97]), .str (s [99])] (.bool false),
     .fn "str.__contains__" [.str (s [39, 34]), .str (s [34])] (.bool true)]
    [] (505) (2454468492706740537093649372011068934326917733779568906731997780081625286471146831485707482365194560264144303714563372582082552051870611182286626838945095559010768745555794760006286207246283516590376948936792735174538002868416666887469495804780237477588616315807808469244796441451333748929910696815539835532671768266300495017688112056577084523006501912554337029166637415458188333522251735124535871769211260800015016790240542993307772936819346724845369703272358729552025906392226617944736401646237791794875591476933293024770339059252990549977360874344356560235769865188405495691960100227123381393152022290285843885836256602563440562738087781024381155804809568473676086419142861332521809989034870289181399473443114438598309290697398381675476447541402176951356755753522599940684661579969432918953809740061463618770025518352640736507557556343490142907143087672668363782337935237030394959743975486899381904480205798397790057829553404558674389871657510427455195568034793251578969386858316111548424) (fun _ _ => .inl (.again (cRTw (a 5)), ⟨687, 20, 687, 30⟩)) (fun _ τ => (LG w.params L a (.str (s [34]) (τ 10)) (.str ⟨⟨T⟩⟩ tt) (pos + 1) (τ 11) [] n (FR4 w.params k3 (a 1) q e (.str (s [34]) (τ 10))))) (fun _ _ => [])
theorem B2_n (w : World) (a k3 st : Nat → Nat) (L : Lx) (pp : Nat → Pos) (p : Pos) (l fnx fg ts tt tp te tc n kk c : Nat) (pos : Int) (T : List Nat) (q e v nx : Value) : (B2 w a k3 st L pp p l fnx fg ts tt tp te tc n kk c pos T q e v nx).SpecN w a := Fr.specN fun ρ τ => by kernel_rfl

theorem B2_w (w : World) (S : Shared) (a k3 st : Nat → Nat) (L : Lx) (pp : Nat → Pos) (p : Pos) (l fnx fg ts tt tp te tc n kk c : Nat) (k : Nat) (T : List Nat) (q e v nx : Value) {Y : List Nat} (hX : L.X.length ≤ sizeLine) (hk : L.X.drop k = [34] ++ Y) {R : Result → Shared → Prop} {h : Heap} {tk : Nat} (G : Given (WD w S) a (LG w.params L a (.str (s [97]) (ts)) (.str ⟨⟨T⟩⟩ tt) (k : Int) tp [] n (FR4 w.params k3 (a 1) q e nx)) h)
    (fin : ∀ (τ : Nat → Nat) (h' : Heap) (tk' : Nat), Nx (WD w S) 6 a (LG w.params L a (.str (s [34]) (τ 10)) (.str ⟨⟨T⟩⟩ tt) ((k : Int) + 1) (τ 11) [] n (FR4 w.params k3 (a 1) q e (.str (s [34]) (τ 10)))) h h' → EndR (WD w S) ⟨cRTw (a 5), none, none, blRT st pp l (a 1) fnx fg (a 5), none⟩ R h' tk' (some (.inl (.again (cRTw (a 5)), ⟨687, 20, 687, 30⟩)))) :
    wpCode (model pwR w) ⟨cRTw (a 5), none, none, blRT st pp l (a 1) fnx fg (a 5), none⟩ R p ((WD w S).sh h tk) := by
  refine B2_n w a k3 st L pp p l fnx fg ts tt tp te tc n kk c k T q e v nx G ?_ fin
  refine okc ?_ (okc ?_ (okc ?_ (okc ?_ (okc ?_ (okc ?_ (okc ?_ (okc ?_ (okc ?_ (okc ?_ ok0)))))))))
  · exact ok_mk (fun _ _ => rfl) fun ρ τ => rd_char w S hX hk
  · exact fn_eq w S rfl
  · exact fn_eq w S rfl
  · exact fn_in w S (by kernel_rfl)
  · exact fn_in w S (by kernel_rfl)
  · exact ok_pure fun ρ τ => use_tupS w S (.cons _ _ (.cons _ _ .nil)) (by kernel_rfl)
  · exact fn_in w S (by kernel_rfl)
  · exact fn_in w S (by kernel_rfl)
  · exact fn_eq w S rfl
  · exact fn_in w S (by kernel_rfl)
noncomputable def B3 (w : World) (a k3 st : Nat → Nat) (L : Lx) (pp : Nat → Pos) (p : Pos) (l fnx fg ts tt tp te tc n kk c : Nat) (pos : Int) (T : List Nat) (q e v nx : Value) : Fr :=
  frC (blRT st pp l (a 1) fnx fg (a 5)) (cRTw (a 5)) p 6 (LG w.params L a (.str (s [97]) (ts)) (.str ⟨⟨T⟩⟩ tt) pos tp [] n (FR4 w.params k3 (a 1) q e nx))
    [.use 7 10 fun ρ τ => rdUse w.params L.k2 L.nl L.X L.tx (blRD st pp l (ρ 1) fnx fg (ρ 5)) (ρ 3) (ρ 2) (τ 9) pos (pos + 1) tp [c],
     .fn "str.__eq__" [.str ⟨⟨[c]⟩⟩, .str (s [10])] (.bool false),
     .fn "str.__eq__" [.str (s [97]), .str (s [32])] (.bool false),
     .fn "str.__contains__" [.str (s [39, 34]), .str (s [97])] (.bool false),
     .fn "str.__contains__" [.str (s [92]), .str (s [97])] (.bool false),
     .use 8 30 fun ρ τ => pureUse (.call (.builtin "tuple.__contains__") ⟨[.ref (ρ 7), .str (s [97]) ts], []⟩) none [(7, TUP [.str (s [97]) (τ 28), .str (s [99]) (τ 29)])] 0 fun θ => .ok (.ret (.bool true)),
     .fn "str.__contains__" [.str SPACE, .str ⟨⟨[c]⟩⟩] (.bool false),
     .fn "str.__contains__" [.str (s [35]), .str ⟨⟨[c]⟩⟩] (.bool false),
     .fn "str.__eq__" [.str (s [97]), .str (s [99])] (.bool false),
     .fn "str.__contains__" [.str (s [39, 34]), .str ⟨⟨[c]⟩⟩] (.bool false),
     .fn "str.__contains__" [.str (s [92]), .str ⟨⟨[c]⟩⟩] (.bool false),
     .fn "str.__contains__" [.str WORD, .str ⟨⟨[c]⟩⟩] (.bool true),
     .fn "str.__add__" [.str ⟨⟨T⟩⟩, .str ⟨⟨[c]⟩⟩] (.str ⟨⟨T ++ [c]⟩⟩)]
    [] (593) (10184855223814483776171981272251122167424192652519640525049294658202927950086963985085267013118072717920805471740329424888197062215535782048159424867677438274145043478850286495558539334295408163593298678505145760924221885937544896242507805306556283523559707102119043044058221827887624256854240539528252662849428219205247100406256998245226951718723803777886685076183421876727306963800986125923036114306648709013414432635999124049290915428585079696331365633535612749739876510748534995569118337692763043336344514334165894113623205314815550336368736990752124855045996859160590021157717960377313727385181512029215643046649121699619522995988302874975063714890344276036124494939395627702324495423360046448004412103291301868520076696131604315120144848258822747548778489693498857252040968869741424345987395216687682643075840769447650823135808435441709639606656875596147240141199377084801568640693022132201163966847139200589343171157403993088894914507971605379610348465022417530057887366989284237022155715451190480170635424302003882774879844655709959069736950375850007745141812903849595683994621201729551537168622397738348275620532712872107835809344842322490767826272008282191171592) (fun _ _ => .inl (.again (cRTw (a 5)), ⟨692, 20, 692, 30⟩)) (fun _ τ => (LG w.params L a (.str (s [97]) (ts)) (.str ⟨⟨T ++ [c]⟩⟩ (τ 48)) (pos + 1) (τ 11) [] n (FR4 w.params k3 (a 1) q e (.str ⟨⟨[c]⟩⟩ (τ 10))))) (fun _ _ => [])
theorem B3_n (w : World) (a k3 st : Nat → Nat) (L : Lx) (pp : Nat → Pos) (p : Pos) (l fnx fg ts tt tp te tc n kk c : Nat) (pos : Int) (T : List Nat) (q e v nx : Value) : (B3 w a k3 st L pp p l fnx fg ts tt tp te tc n kk c pos T q e v nx).SpecN w a := Fr.specN fun ρ τ => by kernel_rfl

theorem B3_w (w : World) (S : Shared) (a k3 st : Nat → Nat) (L : Lx) (pp : Nat → Pos) (p : Pos) (l fnx fg ts tt tp te tc n kk c : Nat) (k : Nat) (T : List Nat) (q e v nx : Value) {Y : List Nat} (hX : L.X.length ≤ sizeLine) (hk : L.X.drop k = c :: Y) (hC : IsW c) (hT : T ≠ []) (hs : (T ++ [c]).length ≤ sizeLine) {R : Result → Shared → Prop} {h : Heap} {tk : Nat} (G : Given (WD w S) a (LG w.params L a (.str (s [97]) (ts)) (.str ⟨⟨T⟩⟩ tt) (k : Int) tp [] n (FR4 w.params k3 (a 1) q e nx)) h)
    (fin : ∀ (τ : Nat → Nat) (h' : Heap) (tk' : Nat), Nx (WD w S) 6 a (LG w.params L a (.str (s [97]) (ts)) (.str ⟨⟨T ++ [c]⟩⟩ (τ 48)) ((k : Int) + 1) (τ 11) [] n (FR4 w.params k3 (a 1) q e (.str ⟨⟨[c]⟩⟩ (τ 10)))) h h' → EndR (WD w S) ⟨cRTw (a 5), none, none, blRT st pp l (a 1) fnx fg (a 5), none⟩ R h' tk' (some (.inl (.again (cRTw (a 5)), ⟨692, 20, 692, 30⟩)))) :
    wpCode (model pwR w) ⟨cRTw (a 5), none, none, blRT st pp l (a 1) fnx fg (a 5), none⟩ R p ((WD w S).sh h tk) := by
  refine B3_n w a k3 st L pp p l fnx fg ts tt tp te tc n kk c k T q e v nx G ?_ fin
  refine okc ?_ (okc ?_ (okc ?_ (okc ?_ (okc ?_ (okc ?_ (okc ?_ (okc ?_ (okc ?_ (okc ?_ (okc ?_ (okc ?_ (okc ?_ ok0))))))))))))
  · exact ok_mk (fun _ _ => rfl) fun ρ τ => rd_char w S hX hk
  · exact fn_eq w S hC.nl
  · exact fn_eq w S rfl
  · exact fn_in w S (by kernel_rfl)
  · exact fn_in w S (by kernel_rfl)
  · exact ok_pure fun ρ τ => use_tupS w S (.cons _ _ (.cons _ _ .nil)) (by kernel_rfl)
  · exact fn_in w S hC.sp
  · exact fn_in w S hC.hs
  · exact fn_eq w S rfl
  · exact fn_in w S hC.qs
  · exact fn_in w S hC.bs
  · exact fn_in w S hC.w
  · exact fn_addL w S hT (by simp) hs
noncomputable def C1 (w : World) (a k3 st : Nat → Nat) (L : Lx) (pp : Nat → Pos) (p : Pos) (l fnx fg ts tt tp te tc n kk c : Nat) (pos : Int) (T : List Nat) (q e v nx : Value) : Fr :=
  frC (blRT st pp l (a 1) fnx fg (a 5)) (cRTw (a 5)) p 6 (LG w.params L a (.str (s [34]) (ts)) (.str ⟨⟨T⟩⟩ tt) pos tp [] n (FR4 w.params k3 (a 1) q e nx))
    [.use 7 10 fun ρ τ => rdUse w.params L.k2 L.nl L.X L.tx (blRD st pp l (ρ 1) fnx fg (ρ 5)) (ρ 3) (ρ 2) (τ 9) pos (pos + 1) tp [34],
     .fn "str.__eq__" [.str (s [34]), .str (s [10])] (.bool false),
     .fn "str.__eq__" [.str (s [34]), .str (s [32])] (.bool false),
     .fn "str.__contains__" [.str (s [39, 34]), .str (s [34])] (.bool true),
     .fn "str.__eq__" [.str (s [34]), .str (s [34])] (.bool true)]
    [] (373) (283570734001384543242807411301992621705067967747159826773315419775908243004110138486621536739164655947578688364147683736864885569905691009018229616309108752462497459054211506507078283611746202843238917779362569925396993693649618148909540775207582962060676244686538461271022103638630891413345707736390779941620386226704811822568624455026295176951691824033112789055185655695399128938781490539175195911061662586553843401547246717337633022937167087842153325142051029483264665340987863884541161107515287531727939664238116587768433286567672941097889442374567490233865727531198922263861909286075721550662373986673425880448886534342985655752904208703653557678666934122769917799957685647001401114113717218687793244215976136712) (fun _ _ => .inl (.again (cRTw (a 5)), ⟨642, 24, 642, 34⟩)) (fun _ τ => (LG w.params L a (.str (s [97]) (τ 30)) (.str ⟨⟨T⟩⟩ tt) (pos + 1) (τ 11) [] n (FR4 w.params k3 (a 1) (.bool true) e (.str (s [34]) (τ 10))))) (fun _ _ => [])
theorem C1_n (w : World) (a k3 st : Nat → Nat) (L : Lx) (pp : Nat → Pos) (p : Pos) (l fnx fg ts tt tp te tc n kk c : Nat) (pos : Int) (T : List Nat) (q e v nx : Value) : (C1 w a k3 st L pp p l fnx fg ts tt tp te tc n kk c pos T q e v nx).SpecN w a := Fr.specN fun ρ τ => by kernel_rfl

theorem C1_w (w : World) (S : Shared) (a k3 st : Nat → Nat) (L : Lx) (pp : Nat → Pos) (p : Pos) (l fnx fg ts tt tp te tc n kk c : Nat) (k : Nat) (T : List Nat) (q e v nx : Value) {Y : List Nat} (hX : L.X.length ≤ sizeLine) (hk : L.X.drop k = [34] ++ Y) {R : Result → Shared → Prop} {h : Heap} {tk : Nat} (G : Given (WD w S) a (LG w.params L a (.str (s [34]) (ts)) (.str ⟨⟨T⟩⟩ tt) (k : Int) tp [] n (FR4 w.params k3 (a 1) q e nx)) h)
    (fin : ∀ (τ : Nat → Nat) (h' : Heap) (tk' : Nat), Nx (WD w S) 6 a (LG w.params L a (.str (s [97]) (τ 30)) (.str ⟨⟨T⟩⟩ tt) ((k : Int) + 1) (τ 11) [] n (FR4 w.params k3 (a 1) (.bool true) e (.str (s [34]) (τ 10)))) h h' → EndR (WD w S) ⟨cRTw (a 5), none, none, blRT st pp l (a 1) fnx fg (a 5), none⟩ R h' tk' (some (.inl (.again (cRTw (a 5)), ⟨642, 24, 642, 34⟩)))) :
    wpCode (model pwR w) ⟨cRTw (a 5), none, none, blRT st pp l (a 1) fnx fg (a 5), none⟩ R p ((WD w S).sh h tk) := by
  refine C1_n w a k3 st L pp p l fnx fg ts tt tp te tc n kk c k T q e v nx G ?_ fin
  refine okc ?_ (okc ?_ (okc ?_ (okc ?_ (okc ?_ ok0))))
  · exact ok_mk (fun _ _ => rfl) fun ρ τ => rd_char w S hX hk
  · exact fn_eq w S rfl
  · exact fn_eq w S rfl
  · exact fn_in w S (by kernel_rfl)
  · exact fn_eq w S rfl
noncomputable def C2 (w : World) (a k3 st : Nat → Nat) (L : Lx) (pp : Nat → Pos) (p : Pos) (l fnx fg ts tt tp te tc n kk c : Nat) (pos : Int) (T : List Nat) (q e v nx : Value) : Fr :=
  frC (blRT st pp l (a 1) fnx fg (a 5)) (cRTw (a 5)) p 6 (LG w.params L a (.str (s [34]) (ts)) (.str ⟨⟨T⟩⟩ tt) pos tp [] n (FR4 w.params k3 (a 1) q e nx))
    [.use 7 10 fun ρ τ => rdUse w.params L.k2 L.nl L.X L.tx (blRD st pp l (ρ 1) fnx fg (ρ 5)) (ρ 3) (ρ 2) (τ 9) pos (pos + 1) tp [92],
     .fn "str.__eq__" [.str (s [92]), .str (s [10])] (.bool false),
     .fn "str.__eq__" [.str (s [34]), .str (s [32])] (.bool false),
     .fn "str.__contains__" [.str (s [39, 34]), .str (s [34])] (.bool true),
     .fn "str.__eq__" [.str (s [92]), .str (s [34])] (.bool false),
     .fn "str.__contains__" [.str (s [92]), .str (s [92])] (.bool true),
     .fn "str.__contains__" [.str (s [34]), .str (s [34])] (.bool true)]
    [] (464) (1263451791774273563641803122526272362633334423392513724515942635211611372522768967826669012923267575640555651749068291220946732542154610996930631744177971766840210997183726993016648930718498857801747648481053208021866340326832215380888383335596173905412618056797262024407161076339046750093109888885282530814040434812062941198303335156966630272644032796397503110486871918309238755508846407910569151788751922203242551292057700843247945439021820307028709021580711628580675349147036893118381265571467123075906618847949968328035252990495091526415573031471677395038991477499185294000926885711481761511262016743953397465784885803932208337226495624088255914844504163506066338194243252199344264475902885096561785680559245598930670409298363953642782383186088443494969764516024751052426308034303792025707959609279533760722506072152474148881528827442385364997092203531028067472708863762767786350218852544251843982659592) (fun _ _ => .inl (.again (cRTw (a 5)), ⟨645, 20, 645, 30⟩)) (fun _ τ => (LG w.params L a (.str (s [92]) (τ 10)) (.str ⟨⟨T⟩⟩ tt) (pos + 1) (τ 11) [] n (FR4 w.params k3 (a 1) (.bool true) (.str (s [34]) (ts)) (.str (s [92]) (τ 10))))) (fun _ _ => [])
theorem C2_n (w : World) (a k3 st : Nat → Nat) (L : Lx) (pp : Nat → Pos) (p : Pos) (l fnx fg ts tt tp te tc n kk c : Nat) (pos : Int) (T : List Nat) (q e v nx : Value) : (C2 w a k3 st L pp p l fnx fg ts tt tp te tc n kk c pos T q e v nx).SpecN w a := Fr.specN fun ρ τ => by kernel_rfl

theorem C2_w (w : World) (S : Shared) (a k3 st : Nat → Nat) (L : Lx) (pp : Nat → Pos) (p : Pos) (l fnx fg ts tt tp te tc n kk c : Nat) (k : Nat) (T : List Nat) (q e v nx : Value) {Y : List Nat} (hX : L.X.length ≤ sizeLine) (hk : L.X.drop k = [92] ++ Y) {R : Result → Shared → Prop} {h : Heap} {tk : Nat} (G : Given (WD w S) a (LG w.params L a (.str (s [34]) (ts)) (.str ⟨⟨T⟩⟩ tt) (k : Int) tp [] n (FR4 w.params k3 (a 1) q e nx)) h)
    (fin : ∀ (τ : Nat → Nat) (h' : Heap) (tk' : Nat), Nx (WD w S) 6 a (LG w.params L a (.str (s [92]) (τ 10)) (.str ⟨⟨T⟩⟩ tt) ((k : Int) + 1) (τ 11) [] n (FR4 w.params k3 (a 1) (.bool true) (.str (s [34]) (ts)) (.str (s [92]) (τ 10)))) h h' → EndR (WD w S) ⟨cRTw (a 5), none, none, blRT st pp l (a 1) fnx fg (a 5), none⟩ R h' tk' (some (.inl (.again (cRTw (a 5)), ⟨645, 20, 645, 30⟩)))) :
    wpCode (model pwR w) ⟨cRTw (a 5), none, none, blRT st pp l (a 1) fnx fg (a 5), none⟩ R p ((WD w S).sh h tk) := by
  refine C2_n w a k3 st L pp p l fnx fg ts tt tp te tc n kk c k T q e v nx G ?_ fin
  refine okc ?_ (okc ?_ (okc ?_ (okc ?_ (okc ?_ (okc ?_ (okc ?_ ok0))))))
  · exact ok_mk (fun _ _ => rfl) fun ρ τ => rd_char w S hX hk
  · exact fn_eq w S rfl
  · exact fn_eq w S rfl
  · exact fn_in w S (by kernel_rfl)
  · exact fn_eq w S rfl
  · exact fn_in w S (by kernel_rfl)
  · exact fn_in w S (by kernel_rfl)
noncomputable def C3 (w : World) (a k3 st : Nat → Nat) (L : Lx) (pp : Nat → Pos) (p : Pos) (l fnx fg ts tt tp te tc n kk c : Nat) (pos : Int) (T : List Nat) (q e v nx : Value) : Fr :=
  frC (blRT st pp l (a 1) fnx fg (a 5)) (cRTw (a 5)) p 6 (LG w.params L a (.str (s [34]) (ts)) (.str ⟨⟨T⟩⟩ tt) pos tp [] n (FR4 w.params k3 (a 1) q e nx))
    [.use 7 10 fun ρ τ => rdUse w.params L.k2 L.nl L.X L.tx (blRD st pp l (ρ 1) fnx fg (ρ 5)) (ρ 3) (ρ 2) (τ 9) pos (pos + 1) tp [c],
     .fn "str.__eq__" [.str ⟨⟨[c]⟩⟩, .str (s [10])] (.bool false),
     .fn "str.__eq__" [.str (s [34]), .str (s [32])] (.bool false),
     .fn "str.__contains__" [.str (s [39, 34]), .str (s [34])] (.bool true),
     .fn "str.__eq__" [.str ⟨⟨[c]⟩⟩, .str (s [34])] (.bool false),
     .fn "str.__contains__" [.str (s [92]), .str ⟨⟨[c]⟩⟩] (.bool false),
     .fn "str.__add__" [.str ⟨⟨T⟩⟩, .str ⟨⟨[c]⟩⟩] (.str ⟨⟨T ++ [c]⟩⟩)]
    [] (417) (591507237884310746513735654823451342678897336704950971476151073742164441319905082635399719451324419106856282711360037525408009013324702595509969053091885446560626913526427112830692806931173354185790509000310097404773192376908000599386399655754510911671816141706878108715496697811859019669797175274762275376373397289345969236229387442680544284302742451416833723705232212150760198290206469844851066614257063772408939062967937728734597556342846316316553714263475912026488426226565058189158801975691408897813581789447054154963923814969807525869990145018476892269310199457145448511159155097344683169488929347874382920707521100716146101715575142183290206819900419995563933544731733010767239665218144776136582423296901713052013550914639226427545434617409187064969900067246139446799555491131435295738086649461360037896) (fun _ _ => .inl (.again (cRTw (a 5)), ⟨647, 20, 647, 30⟩)) (fun _ τ => (LG w.params L a (.str (s [34]) (ts)) (.str ⟨⟨T ++ [c]⟩⟩ (τ 33)) (pos + 1) (τ 11) [] n (FR4 w.params k3 (a 1) (.bool true) e (.str ⟨⟨[c]⟩⟩ (τ 10))))) (fun _ _ => [])
theorem C3_n (w : World) (a k3 st : Nat → Nat) (L : Lx) (pp : Nat → Pos) (p : Pos) (l fnx fg ts tt tp te tc n kk c : Nat) (pos : Int) (T : List Nat) (q e v nx : Value) : (C3 w a k3 st L pp p l fnx fg ts tt tp te tc n kk c pos T q e v nx).SpecN w a := Fr.specN fun ρ τ => by kernel_rfl

theorem C3_w (w : World) (S : Shared) (a k3 st : Nat → Nat) (L : Lx) (pp : Nat → Pos) (p : Pos) (l fnx fg ts tt tp te tc n kk c : Nat) (k : Nat) (T : List Nat) (q e v nx : Value) {Y : List Nat} (hX : L.X.length ≤ sizeLine) (hk : L.X.drop k = c :: Y) (hC : IsO c) (hT : T ≠ []) (hs : (T ++ [c]).length ≤ sizeLine) {R : Result → Shared → Prop} {h : Heap} {tk : Nat} (G : Given (WD w S) a (LG w.params L a (.str (s [34]) (ts)) (.str ⟨⟨T⟩⟩ tt) (k : Int) tp [] n (FR4 w.params k3 (a 1) q e nx)) h)
    (fin : ∀ (τ : Nat → Nat) (h' : Heap) (tk' : Nat), Nx (WD w S) 6 a (LG w.params L a (.str (s [34]) (ts)) (.str ⟨⟨T ++ [c]⟩⟩ (τ 33)) ((k : Int) + 1) (τ 11) [] n (FR4 w.params k3 (a 1) (.bool true) e (.str ⟨⟨[c]⟩⟩ (τ 10)))) h h' → EndR (WD w S) ⟨cRTw (a 5), none, none, blRT st pp l (a 1) fnx fg (a 5), none⟩ R h' tk' (some (.inl (.again (cRTw (a 5)), ⟨647, 20, 647, 30⟩)))) :
    wpCode (model pwR w) ⟨cRTw (a 5), none, none, blRT st pp l (a 1) fnx fg (a 5), none⟩ R p ((WD w S).sh h tk) := by
  refine C3_n w a k3 st L pp p l fnx fg ts tt tp te tc n kk c k T q e v nx G ?_ fin
  refine okc ?_ (okc ?_ (okc ?_ (okc ?_ (okc ?_ (okc ?_ (okc ?_ ok0))))))
  · exact ok_mk (fun _ _ => rfl) fun ρ τ => rd_char w S hX hk
  · exact fn_eq w S hC.nl
  · exact fn_eq w S rfl
  · exact fn_in w S (by kernel_rfl)
  · exact fn_eq w S hC.dq
  · exact fn_in w S hC.bs
  · exact fn_addL w S hT (by simp) hs
noncomputable def D2 (w : World) (a k3 st : Nat → Nat) (L : Lx) (pp : Nat → Pos) (p : Pos) (l fnx fg ts tt tp te tc n kk c : Nat) (pos : Int) (T : List Nat) (q e v nx : Value) : Fr :=
  frC (blRT st pp l (a 1) fnx fg (a 5)) (cRTw (a 5)) p 6 (LG w.params L a (.str (s [92]) (ts)) (.str ⟨⟨T⟩⟩ tt) pos tp [] n (FR4 w.params k3 (a 1) q (.str (s [34]) te) nx))
    [.use 7 10 fun ρ τ => rdUse w.params L.k2 L.nl L.X L.tx (blRD st pp l (ρ 1) fnx fg (ρ 5)) (ρ 3) (ρ 2) (τ 9) pos (pos + 1) tp [34],
     .fn "str.__eq__" [.str (s [34]), .str (s [10])] (.bool false),
     .fn "str.__eq__" [.str (s [92]), .str (s [32])] (.bool false),
     .fn "str.__contains__" [.str (s [39, 34]), .str (s [92])] (.bool false),
     .fn "str.__contains__" [.str (s [92]), .str (s [92])] (.bool true),
     .fn "str.__contains__" [.str (s [39, 34]), .str (s [34])] (.bool true),
     .fn "str.__ne__" [.str (s [34]), .str (s [92])] (.bool true),
     .fn "str.__ne__" [.str (s [34]), .str (s [34])] (.bool false),
     .fn "str.__add__" [.str ⟨⟨T⟩⟩, .str ⟨⟨[34]⟩⟩] (.str ⟨⟨T ++ [34]⟩⟩)]
    [] (465) (1422520254658800981114596640612947249934846863055746188712903193088454279542341581588566339562940883220215307991431267592199211324391474627017075451248574422789264447123361126118942563052129433151312898994099770498869247870239490829180462509207210514189551512325265550877438208003280957057493458099772435912982403807192813482830872892805699747983931729981502474109964888854526980951270652961516914136286756572016847510021858100362692740437824075729405372573236961592477654476537133318983138789714786785216291059201966072176714749188671733833687587737903204209499045208373349564757656779474373975327536959905588476281317378477705246139474348559362059309418800864752130706378733473607871429595149946730535298367161852890754500953114400952192617776693003672531984386101006963442230819632076855368757401113852311519774503838617630000992054233084587662663011714543470780116717373622755239093778349694559066941062986148802990088) (fun _ _ => .inl (.again (cRTw (a 5)), ⟨656, 16, 656, 26⟩)) (fun _ τ => (LG w.params L a (.str (s [34]) (te)) (.str ⟨⟨T ++ [34]⟩⟩ (τ 35)) (pos + 1) (τ 11) [] n (FR4 w.params k3 (a 1) q (.str (s [34]) (te)) (.str (s [34]) (τ 10))))) (fun _ _ => [])
theorem D2_n (w : World) (a k3 st : Nat → Nat) (L : Lx) (pp : Nat → Pos) (p : Pos) (l fnx fg ts tt tp te tc n kk c : Nat) (pos : Int) (T : List Nat) (q e v nx : Value) : (D2 w a k3 st L pp p l fnx fg ts tt tp te tc n kk c pos T q e v nx).SpecN w a := Fr.specN fun ρ τ => by kernel_rfl

theorem D2_w (w : World) (S : Shared) (a k3 st : Nat → Nat) (L : Lx) (pp : Nat → Pos) (p : Pos) (l fnx fg ts tt tp te tc n kk c : Nat) (k : Nat) (T : List Nat) (q e v nx : Value) {Y : List Nat} (hX : L.X.length ≤ sizeLine) (hk : L.X.drop k = [34] ++ Y) (hT : T ≠ []) (hs : (T ++ [34]).length ≤ sizeLine) {R : Result → Shared → Prop} {h : Heap} {tk : Nat} (G : Given (WD w S) a (LG w.params L a (.str (s [92]) (ts)) (.str ⟨⟨T⟩⟩ tt) (k : Int) tp [] n (FR4 w.params k3 (a 1) q (.str (s [34]) te) nx)) h)
    (fin : ∀ (τ : Nat → Nat) (h' : Heap) (tk' : Nat), Nx (WD w S) 6 a (LG w.params L a (.str (s [34]) (te)) (.str ⟨⟨T ++ [34]⟩⟩ (τ 35)) ((k : Int) + 1) (τ 11) [] n (FR4 w.params k3 (a 1) q (.str (s [34]) (te)) (.str (s [34]) (τ 10)))) h h' → EndR (WD w S) ⟨cRTw (a 5), none, none, blRT st pp l (a 1) fnx fg (a 5), none⟩ R h' tk' (some (.inl (.again (cRTw (a 5)), ⟨656, 16, 656, 26⟩)))) :
    wpCode (model pwR w) ⟨cRTw (a 5), none, none, blRT st pp l (a 1) fnx fg (a 5), none⟩ R p ((WD w S).sh h tk) := by
  refine D2_n w a k3 st L pp p l fnx fg ts tt tp te tc n kk c k T q e v nx G ?_ fin
  refine okc ?_ (okc ?_ (okc ?_ (okc ?_ (okc ?_ (okc ?_ (okc ?_ (okc ?_ (okc ?_ ok0))))))))
  · exact ok_mk (fun _ _ => rfl) fun ρ τ => rd_char w S hX hk
  · exact fn_eq w S rfl
  · exact fn_eq w S rfl
  · exact fn_in w S (by kernel_rfl)
  · exact fn_in w S (by kernel_rfl)
  · exact fn_in w S (by kernel_rfl)
  · exact fn_ne w S rfl
  · exact fn_ne w S rfl
  · exact fn_addL w S hT (by simp) hs
noncomputable def D1 (w : World) (a k3 st : Nat → Nat) (L : Lx) (pp : Nat → Pos) (p : Pos) (l fnx fg ts tt tp te tc n kk c : Nat) (pos : Int) (T : List Nat) (q e v nx : Value) : Fr :=
  frC (blRT st pp l (a 1) fnx fg (a 5)) (cRTw (a 5)) p 6 (LG w.params L a (.str (s [92]) (ts)) (.str ⟨⟨T⟩⟩ tt) pos tp [] n (FR4 w.params k3 (a 1) q (.str (s [34]) te) nx))
    [.use 7 10 fun ρ τ => rdUse w.params L.k2 L.nl L.X L.tx (blRD st pp l (ρ 1) fnx fg (ρ 5)) (ρ 3) (ρ 2) (τ 9) pos (pos + 1) tp [92],
     .fn "str.__eq__" [.str (s [92]), .str (s [10])] (.bool false),
     .fn "str.__eq__" [.str (s [92]), .str (s [32])] (.bool false),
     .fn "str.__contains__" [.str (s [39, 34]), .str (s [92])] (.bool false),
     .fn "str.__contains__" [.str (s [92]), .str (s [92])] (.bool true),
     .fn "str.__contains__" [.str (s [39, 34]), .str (s [34])] (.bool true),
     .fn "str.__ne__" [.str (s [92]), .str (s [92])] (.bool false),
     .fn "str.__add__" [.str ⟨⟨T⟩⟩, .str ⟨⟨[92]⟩⟩] (.str ⟨⟨T ++ [92]⟩⟩)]
    [] (458) (1293774634776856129169206397466902899336534449553934053904325258452858433467864944385443177055040799332541890172643677571794988875255034715352917784228861294458751624118450423445383188299759582828284856371488898543052953222498522965705622689974983720257776979544118392613063655534695077066635061305375019669287680493799802745415524174910996275789406026561658760542470162793564642764370895299040929269705738843072049063778001013138746696082325272577819524894266270051218171652411856613917970275862685378221787570411678731380051267181757820622540598821479545200235129197611340297606225832855959056137472713047360751984056817789695534537191538583721238208937616522458286259505519269526276718651600421377810336042536549488827240574765650880795766255837252102061702367558899016701551372937997916064807891792425898413728079816174767600244750397774569442641347711716747879572502225382162284014551668807871169438945288) (fun _ _ => .inl (.again (cRTw (a 5)), ⟨656, 16, 656, 26⟩)) (fun _ τ => (LG w.params L a (.str (s [34]) (te)) (.str ⟨⟨T ++ [92]⟩⟩ (τ 34)) (pos + 1) (τ 11) [] n (FR4 w.params k3 (a 1) q (.str (s [34]) (te)) (.str (s [92]) (τ 10))))) (fun _ _ => [])
theorem D1_n (w : World) (a k3 st : Nat → Nat) (L : Lx) (pp : Nat → Pos) (p : Pos) (l fnx fg ts tt tp te tc n kk c : Nat) (pos : Int) (T : List Nat) (q e v nx : Value) : (D1 w a k3 st L pp p l fnx fg ts tt tp te tc n kk c pos T q e v nx).SpecN w a := Fr.specN fun ρ τ => by kernel_rfl

theorem D1_w (w : World) (S : Shared) (a k3 st : Nat → Nat) (L : Lx) (pp : Nat → Pos) (p : Pos) (l fnx fg ts tt tp te tc n kk c : Nat) (k : Nat) (T : List Nat) (q e v nx : Value) {Y : List Nat} (hX : L.X.length ≤ sizeLine) (hk : L.X.drop k = [92] ++ Y) (hT : T ≠ []) (hs : (T ++ [92]).length ≤ sizeLine) {R : Result → Shared → Prop} {h : Heap} {tk : Nat} (G : Given (WD w S) a (LG w.params L a (.str (s [92]) (ts)) (.str ⟨⟨T⟩⟩ tt) (k : Int) tp [] n (FR4 w.params k3 (a 1) q (.str (s [34]) te) nx)) h)
    (fin : ∀ (τ : Nat → Nat) (h' : Heap) (tk' : Nat), Nx (WD w S) 6 a (LG w.params L a (.str (s [34]) (te)) (.str ⟨⟨T ++ [92]⟩⟩ (τ 34)) ((k : Int) + 1) (τ 11) [] n (FR4 w.params k3 (a 1) q (.str (s [34]) (te)) (.str (s [92]) (τ 10)))) h h' → EndR (WD w S) ⟨cRTw (a 5), none, none, blRT st pp l (a 1) fnx fg (a 5), none⟩ R h' tk' (some (.inl (.again (cRTw (a 5)), ⟨656, 16, 656, 26⟩)))) :
    wpCode (model pwR w) ⟨cRTw (a 5), none, none, blRT st pp l (a 1) fnx fg (a 5), none⟩ R p ((WD w S).sh h tk) := by
  refine D1_n w a k3 st L pp p l fnx fg ts tt tp te tc n kk c k T q e v nx G ?_ fin
  refine okc ?_ (okc ?_ (okc ?_ (okc ?_ (okc ?_ (okc ?_ (okc ?_ (okc ?_ ok0)))))))
  · exact ok_mk (fun _ _ => rfl) fun ρ τ => rd_char w S hX hk
  · exact fn_eq w S rfl
  · exact fn_eq w S rfl
  · exact fn_in w S (by kernel_rfl)
  · exact fn_in w S (by kernel_rfl)
  · exact fn_in w S (by kernel_rfl)
  · exact fn_ne w S rfl
  · exact fn_addL w S hT (by simp) hs
noncomputable def A1p (w : World) (a k3 st : Nat → Nat) (L : Lx) (pp : Nat → Pos) (p : Pos) (l fnx fg ts tt tp te tc n kk c : Nat) (pos : Int) (T : List Nat) (q e v nx : Value) : Fr :=
  frC (blRT st pp l (a 1) fnx fg (a 5)) (cRTw (a 5)) p 6 (LG w.params L a (.str (s [32]) (ts)) v pos tp [.str ⟨⟨[c]⟩⟩ tc] n (FR3 w.params k3 (a 1) q e))
    [.fn "str.__eq__" [.str ⟨⟨[c]⟩⟩, .str (s [10])] (.bool false),
     .fn "str.__eq__" [.str (s [32]), .str (s [32])] (.bool true),
     .fn "str.__contains__" [.str SPACE, .str ⟨⟨[c]⟩⟩] (.bool false),
     .fn "str.__contains__" [.str (s [35]), .str ⟨⟨[c]⟩⟩] (.bool false),
     .fn "str.__contains__" [.str (s [92]), .str ⟨⟨[c]⟩⟩] (.bool false),
     .fn "str.__contains__" [.str WORD, .str ⟨⟨[c]⟩⟩] (.bool true)]
    [] (410) (477815741565130489195486647573693047886257973440680761183491000294453521392028586043354472046335601756110603813238739781076795029234825808797246278880136595332186648030143322486112223311995274076336870274662015235030818303128645920835832782114743302385174918949830783643400466079572105936831991633593698658868887546783120584266031555927368533362793541194341445555098561302610391986768378921205535347119562161935696810697520366908021697115362180014847744148059626455909661413036442671599073645934637235306864358008468601170310886430690053354771601590085949036446114410296875747798250951321840679101946694964992966807297243226705282343009444149250879962096271319166001122462276029154161300065486900871165270205485609138778487866808729158338342115815833704008634606278311910494739369992) (fun _ _ => .inl (.again (cRTw (a 5)), ⟨613, 20, 613, 30⟩)) (fun _ τ => (LG w.params L a (.str (s [97]) (τ 31)) (.str ⟨⟨[c]⟩⟩ (tc)) pos tp [] (n + 1) (FR4 w.params (upd k3 3 (τ 9)) (a 1) q e (.str ⟨⟨[c]⟩⟩ (tc))))) (fun _ _ => [])
theorem A1p_n (w : World) (a k3 st : Nat → Nat) (L : Lx) (pp : Nat → Pos) (p : Pos) (l fnx fg ts tt tp te tc n kk c : Nat) (pos : Int) (T : List Nat) (q e v nx : Value) : (A1p w a k3 st L pp p l fnx fg ts tt tp te tc n kk c pos T q e v nx).SpecN w a := Fr.specN fun ρ τ => by kernel_rfl

theorem A1p_w (w : World) (S : Shared) (a k3 st : Nat → Nat) (L : Lx) (pp : Nat → Pos) (p : Pos) (l fnx fg ts tt tp te tc n kk c : Nat) (k : Nat) (T : List Nat) (q e v nx : Value) {Y : List Nat} (hC : IsW c) {R : Result → Shared → Prop} {h : Heap} {tk : Nat} (G : Given (WD w S) a (LG w.params L a (.str (s [32]) (ts)) v (k : Int) tp [.str ⟨⟨[c]⟩⟩ tc] n (FR3 w.params k3 (a 1) q e)) h)
    (fin : ∀ (τ : Nat → Nat) (h' : Heap) (tk' : Nat), Nx (WD w S) 6 a (LG w.params L a (.str (s [97]) (τ 31)) (.str ⟨⟨[c]⟩⟩ (tc)) (k : Int) tp [] (n + 1) (FR4 w.params (upd k3 3 (τ 9)) (a 1) q e (.str ⟨⟨[c]⟩⟩ (tc)))) h h' → EndR (WD w S) ⟨cRTw (a 5), none, none, blRT st pp l (a 1) fnx fg (a 5), none⟩ R h' tk' (some (.inl (.again (cRTw (a 5)), ⟨613, 20, 613, 30⟩)))) :
    wpCode (model pwR w) ⟨cRTw (a 5), none, none, blRT st pp l (a 1) fnx fg (a 5), none⟩ R p ((WD w S).sh h tk) := by
  refine A1p_n w a k3 st L pp p l fnx fg ts tt tp te tc n kk c k T q e v nx G ?_ fin
  refine okc ?_ (okc ?_ (okc ?_ (okc ?_ (okc ?_ (okc ?_ ok0)))))
  · exact fn_eq w S hC.nl
  · exact fn_eq w S rfl
  · exact fn_in w S hC.sp
  · exact fn_in w S hC.hs
  · exact fn_in w S hC.bs
  · exact fn_in w S hC.w
noncomputable def A2p (w : World) (a k3 st : Nat → Nat) (L : Lx) (pp : Nat → Pos) (p : Pos) (l fnx fg ts tt tp te tc n kk c : Nat) (pos : Int) (T : List Nat) (q e v nx : Value) : Fr :=
  frC (blRT st pp l (a 1) fnx fg (a 5)) (cRTw (a 5)) p 6 (LG w.params L a (.str (s [32]) (ts)) v pos tp [.str ⟨⟨[c]⟩⟩ tc] n (FR3 w.params k3 (a 1) q e))
    [.fn "str.__eq__" [.str ⟨⟨[c]⟩⟩, .str (s [10])] (.bool false),
     .fn "str.__eq__" [.str (s [32]), .str (s [32])] (.bool true),
     .fn "str.__contains__" [.str SPACE, .str ⟨⟨[c]⟩⟩] (.bool false),
     .fn "str.__contains__" [.str (s [35]), .str ⟨⟨[c]⟩⟩] (.bool false),
     .fn "str.__contains__" [.str (s [92]), .str ⟨⟨[c]⟩⟩] (.bool false),
     .fn "str.__contains__" [.str WORD, .str ⟨⟨[c]⟩⟩] (.bool false),
     .fn "str.__contains__" [.str PUNC, .str ⟨⟨[c]⟩⟩] (.bool true)]
    [] (472) (1233839640404564026993948361842062854134115647844251684097600225957024939779215461274733279236501009624184946577012881071631197938974064420571646439239230998782139444675363165471587523803549454340498472473764754940582728044368629648060176764774422427473109186527867294160016643807025617265770169279071485631745018968494988061484566163713396060060479809351218948055711561238594177892187484394650601561362665995378610382826255640629944177219095068161987332120242438012262602760393547105028728808964869207421490268882614355711053618726198334032897526376300183881870626359144563406694747167425354806449002617922859045556234678402535614072309759659990697543776989435516842983227931961971753658891032584488954101776814723929555422672890744950106229824576591392864970373075273628295049532941025556272065666425009814609888199062059000365577399407646473649437309766009665123599419027213702742486925799913183776776) (fun _ _ => .inl (.again (cRTw (a 5)), ⟨616, 20, 616, 30⟩)) (fun _ τ => (LG w.params L a (.str (s [99]) (τ 35)) (.str ⟨⟨[c]⟩⟩ (tc)) pos tp [] (n + 1) (FR4 w.params (upd k3 3 (τ 9)) (a 1) q e (.str ⟨⟨[c]⟩⟩ (tc))))) (fun _ _ => [])
theorem A2p_n (w : World) (a k3 st : Nat → Nat) (L : Lx) (pp : Nat → Pos) (p : Pos) (l fnx fg ts tt tp te tc n kk c : Nat) (pos : Int) (T : List Nat) (q e v nx : Value) : (A2p w a k3 st L pp p l fnx fg ts tt tp te tc n kk c pos T q e v nx).SpecN w a := Fr.specN fun ρ τ => by kernel_rfl

theorem A2p_w (w : World) (S : Shared) (a k3 st : Nat → Nat) (L : Lx) (pp : Nat → Pos) (p : Pos) (l fnx fg ts tt tp te tc n kk c : Nat) (k : Nat) (T : List Nat) (q e v nx : Value) {Y : List Nat} (hC : IsP c) {R : Result → Shared → Prop} {h : Heap} {tk : Nat} (G : Given (WD w S) a (LG w.params L a (.str (s [32]) (ts)) v (k : Int) tp [.str ⟨⟨[c]⟩⟩ tc] n (FR3 w.params k3 (a 1) q e)) h)
    (fin : ∀ (τ : Nat → Nat) (h' : Heap) (tk' : Nat), Nx (WD w S) 6 a (LG w.params L a (.str (s [99]) (τ 35)) (.str ⟨⟨[c]⟩⟩ (tc)) (k : Int) tp [] (n + 1) (FR4 w.params (upd k3 3 (τ 9)) (a 1) q e (.str ⟨⟨[c]⟩⟩ (tc)))) h h' → EndR (WD w S) ⟨cRTw (a 5), none, none, blRT st pp l (a 1) fnx fg (a 5), none⟩ R h' tk' (some (.inl (.again (cRTw (a 5)), ⟨616, 20, 616, 30⟩)))) :
    wpCode (model pwR w) ⟨cRTw (a 5), none, none, blRT st pp l (a 1) fnx fg (a 5), none⟩ R p ((WD w S).sh h tk) := by
  refine A2p_n w a k3 st L pp p l fnx fg ts tt tp te tc n kk c k T q e v nx G ?_ fin
  refine okc ?_ (okc ?_ (okc ?_ (okc ?_ (okc ?_ (okc ?_ (okc ?_ ok0))))))
  · exact fn_eq w S hC.nl
  · exact fn_eq w S rfl
  · exact fn_in w S hC.sp
  · exact fn_in w S hC.hs
  · exact fn_in w S hC.bs
  · exact fn_in w S hC.w
  · exact fn_in w S hC.p
noncomputable def B4 (w : World) (a k3 st : Nat → Nat) (L : Lx) (pp : Nat → Pos) (p : Pos) (l fnx fg ts tt tp te tc n kk c : Nat) (pos : Int) (T : List Nat) (q e v nx : Value) : Fr :=
  frC (blRT st pp l (a 1) fnx fg (a 5)) (cRTw (a 5)) p 6 (LG w.params L a (.str (s [97]) (ts)) (.str ⟨⟨T⟩⟩ tt) pos tp [] n (FR4 w.params k3 (a 1) q e nx))
    [.use 7 10 fun ρ τ => rdUse w.params L.k2 L.nl L.X L.tx (blRD st pp l (ρ 1) fnx fg (ρ 5)) (ρ 3) (ρ 2) (τ 9) pos (pos + 1) tp [c],
     .fn "str.__eq__" [.str ⟨⟨[c]⟩⟩, .str (s [10])] (.bool false),
     .fn "str.__eq__" [.str (s [97]), .str (s [32])] (.bool false),
     .fn "str.__contains__" [.str (s [39, 34]), .str (s [97])] (.bool false),
     .fn "str.__contains__" [.str (s [92]), .str (s [97])] (.bool false),
     .use 8 30 fun ρ τ => pureUse (.call (.builtin "tuple.__contains__") ⟨[.ref (ρ 7), .str (s [97]) ts], []⟩) none [(7, TUP [.str (s [97]) (τ 28), .str (s [99]) (τ 29)])] 0 fun θ => .ok (.ret (.bool true)),
     .fn "str.__contains__" [.str SPACE, .str ⟨⟨[c]⟩⟩] (.bool false),
     .fn "str.__contains__" [.str (s [35]), .str ⟨⟨[c]⟩⟩] (.bool false),
     .fn "str.__eq__" [.str (s [97]), .str (s [99])] (.bool false),
     .fn "str.__contains__" [.str (s [39, 34]), .str ⟨⟨[c]⟩⟩] (.bool false),
     .fn "str.__contains__" [.str (s [92]), .str ⟨⟨[c]⟩⟩] (.bool false),
     .fn "str.__contains__" [.str WORD, .str ⟨⟨[c]⟩⟩] (.bool false),
     .fn "str.__contains__" [.str (s [39, 34]), .str ⟨⟨[c]⟩⟩] (.bool false),
     .use 9 62 fun ρ τ => pureUse (.builtin "len" ⟨[.str ⟨⟨T⟩⟩ tt], []⟩) none [] 1 fun θ => .ok (.ret (.int (Int.ofNat (kk + 1)) (θ 0)))]
    [] (770) (144919531306732632302449734902993530834371143825741890982593970832814945207544585904129025558241796183741991152835513000980048747107625627369760137584837488139319840088976640814015963189730038208766245746663845441287730384186361985458296278178567142556606851449625998313395057684112197706904903355945506060310965584074382288226937250775160441200124370371458073427504118174135462708194026054094518206562952811941951773099121234140488867111744593142256334884256707795780370113389984948735627317959535046581359900841085937243638923028001260167033489239276681361354643416657338164258925002677211183467258568271638595078302803938052684289445136211430388636441203820949946494548027167382397664058410960311830568079976896038634109954014859018753746884599517654559587315874476707575653228335520072158871451653367990901100081011326720445144692095869211433504514102602825962665684696131781478759764978120989124919822695986314141401807602659635431176077309509052093335537543026122319124198995066040594964389547049887638189477587142816643087133037335636760610222480403924078901943594784953124265312756129347935646560910637015105272735672669216025037032825886071788344054512868780952573099166821903459985179389427316075975131140229338721135285392835148057210593335999958597505244789108738138880053093162393183541699093878516978792856286859989461552597799527381386346084153420901654529258506409933248988341910668314246410357978437659797712713717563320523400352067722633548387026265780663835178460665955508294788635481346056) (fun _ _ => .inl (.done .next, ⟨702, 24, 702, 29⟩)) (fun _ τ => (LG w.params L a (.str (s [32]) (τ 58)) (.str ⟨⟨T⟩⟩ tt) (pos + 1) (τ 11) [.str ⟨⟨[c]⟩⟩ (τ 10)] (n + 1) (FR4 w.params k3 (a 1) q e (.str ⟨⟨[c]⟩⟩ (τ 10))))) (fun _ _ => [])
theorem B4_n (w : World) (a k3 st : Nat → Nat) (L : Lx) (pp : Nat → Pos) (p : Pos) (l fnx fg ts tt tp te tc n kk c : Nat) (pos : Int) (T : List Nat) (q e v nx : Value) : (B4 w a k3 st L pp p l fnx fg ts tt tp te tc n kk c pos T q e v nx).SpecN w a := Fr.specN fun ρ τ => by kernel_rfl

theorem B4_w (w : World) (S : Shared) (a k3 st : Nat → Nat) (L : Lx) (pp : Nat → Pos) (p : Pos) (l fnx fg ts tt tp te tc n kk c : Nat) (k : Nat) (T : List Nat) (q e v nx : Value) {Y : List Nat} (hX : L.X.length ≤ sizeLine) (hk : L.X.drop k = c :: Y) (hC : IsP c) (hb : Str.length ⟨⟨T⟩⟩ < 2 ^ 62) (hkk : Str.length ⟨⟨T⟩⟩ = kk + 1) {R : Result → Shared → Prop} {h : Heap} {tk : Nat} (G : Given (WD w S) a (LG w.params L a (.str (s [97]) (ts)) (.str ⟨⟨T⟩⟩ tt) (k : Int) tp [] n (FR4 w.params k3 (a 1) q e nx)) h)
    (fin : ∀ (τ : Nat → Nat) (h' : Heap) (tk' : Nat), Nx (WD w S) 6 a (LG w.params L a (.str (s [32]) (τ 58)) (.str ⟨⟨T⟩⟩ tt) ((k : Int) + 1) (τ 11) [.str ⟨⟨[c]⟩⟩ (τ 10)] (n + 1) (FR4 w.params k3 (a 1) q e (.str ⟨⟨[c]⟩⟩ (τ 10)))) h h' → EndR (WD w S) ⟨cRTw (a 5), none, none, blRT st pp l (a 1) fnx fg (a 5), none⟩ R h' tk' (some (.inl (.done .next, ⟨702, 24, 702, 29⟩)))) :
    wpCode (model pwR w) ⟨cRTw (a 5), none, none, blRT st pp l (a 1) fnx fg (a 5), none⟩ R p ((WD w S).sh h tk) := by
  refine B4_n w a k3 st L pp p l fnx fg ts tt tp te tc n kk c k T q e v nx G ?_ fin
  refine okc ?_ (okc ?_ (okc ?_ (okc ?_ (okc ?_ (okc ?_ (okc ?_ (okc ?_ (okc ?_ (okc ?_ (okc ?_ (okc ?_ (okc ?_ (okc ?_ ok0)))))))))))))
  · exact ok_mk (fun _ _ => rfl) fun ρ τ => rd_char w S hX hk
  · exact fn_eq w S hC.nl
  · exact fn_eq w S rfl
  · exact fn_in w S (by kernel_rfl)
  · exact fn_in w S (by kernel_rfl)
  · exact ok_pure fun ρ τ => use_tupS w S (.cons _ _ (.cons _ _ .nil)) (by kernel_rfl)
  · exact fn_in w S hC.sp
  · exact fn_in w S hC.hs
  · exact fn_eq w S rfl
  · exact fn_in w S hC.qs
  · exact fn_in w S hC.bs
  · exact fn_in w S hC.w
  · exact fn_in w S hC.qs
  · exact ok_pure fun ρ τ => use_len w S hb hkk
noncomputable def E1 (w : World) (a k3 st : Nat → Nat) (L : Lx) (pp : Nat → Pos) (p : Pos) (l fnx fg ts tt tp te tc n kk c : Nat) (pos : Int) (T : List Nat) (q e v nx : Value) : Fr :=
  frC (blRT st pp l (a 1) fnx fg (a 5)) (cRTw (a 5)) p 6 (LG w.params L a (.str (s [99]) (ts)) (.str ⟨⟨T⟩⟩ tt) pos tp [] n (FR4 w.params k3 (a 1) q e nx))
    [.use 7 10 fun ρ τ => rdUse w.params L.k2 L.nl L.X L.tx (blRD st pp l (ρ 1) fnx fg (ρ 5)) (ρ 3) (ρ 2) (τ 9) pos pos tp [],
     .fn "str.__eq__" [.str (s []), .str (s [10])] (.bool false),
     .fn "str.__eq__" [.str (s [99]), .str (s [32])] (.bool false),
     .fn "str.__contains__" [.str (s [39, 34]), .str (s [99])] (.bool false),
     .fn "str.__contains__" [.str (s [92]), .str (s [99])] (.bool false),
     .use 8 30 fun ρ τ => pureUse (.call (.builtin "tuple.__contains__") ⟨[.ref (ρ 7), .str (s [99]) ts], []⟩) none [(7, TUP [.str (s [97]) (τ 28), .str (s [99]) (τ 29)])] 0 fun θ => .ok (.ret (.bool true))]
    [] (388) (376930158419917873847297722942168796171338735853904706546035601718041088059302068909155688875143504644538576325851183074849799712681332457979436793676052430450417438240858436458358915858893580236574265174689629692473917375731190985327344864783868697930064286332007546388149119439223555014657481390069692862785664011023502023752216996368256854506067933224045376108256976452963654374392973734421533914945197469924878827828863900218760123356885341152400919797015330742445605270691583514457738166603158284082333256710174051835184916076772498617707832493636796871842241233052546423193520780741064531307197177063742669743661632217640183487549159952860903153061979545021929576892785162842891086428842853162904762613736074010764624796380070387936159103881056264) (fun _ _ => .inl (.done .next, ⟨660, 20, 660, 25⟩)) (fun _ τ => (LG w.params L a .none (.str ⟨⟨T⟩⟩ tt) pos (τ 11) [] n (FR4 w.params k3 (a 1) q e (.str (s []) (τ 10))))) (fun _ _ => [])
theorem E1_n (w : World) (a k3 st : Nat → Nat) (L : Lx) (pp : Nat → Pos) (p : Pos) (l fnx fg ts tt tp te tc n kk c : Nat) (pos : Int) (T : List Nat) (q e v nx : Value) : (E1 w a k3 st L pp p l fnx fg ts tt tp te tc n kk c pos T q e v nx).SpecN w a := Fr.specN fun ρ τ => by kernel_rfl

theorem E1_w (w : World) (S : Shared) (a k3 st : Nat → Nat) (L : Lx) (pp : Nat → Pos) (p : Pos) (l fnx fg ts tt tp te tc n kk c : Nat) (k : Nat) (T : List Nat) (q e v nx : Value) {Y : List Nat} (hX : L.X.length ≤ sizeLine) {R : Result → Shared → Prop} {h : Heap} {tk : Nat} (G : Given (WD w S) a (LG w.params L a (.str (s [99]) (ts)) (.str ⟨⟨T⟩⟩ tt) (L.X.length : Int) tp [] n (FR4 w.params k3 (a 1) q e nx)) h)
    (fin : ∀ (τ : Nat → Nat) (h' : Heap) (tk' : Nat), Nx (WD w S) 6 a (LG w.params L a .none (.str ⟨⟨T⟩⟩ tt) (L.X.length : Int) (τ 11) [] n (FR4 w.params k3 (a 1) q e (.str (s []) (τ 10)))) h h' → EndR (WD w S) ⟨cRTw (a 5), none, none, blRT st pp l (a 1) fnx fg (a 5), none⟩ R h' tk' (some (.inl (.done .next, ⟨660, 20, 660, 25⟩)))) :
    wpCode (model pwR w) ⟨cRTw (a 5), none, none, blRT st pp l (a 1) fnx fg (a 5), none⟩ R p ((WD w S).sh h tk) := by
  refine E1_n w a k3 st L pp p l fnx fg ts tt tp te tc n kk c L.X.length T q e v nx G ?_ fin
  refine okc ?_ (okc ?_ (okc ?_ (okc ?_ (okc ?_ (okc ?_ ok0)))))
  · exact ok_mk (fun _ _ => rfl) fun ρ τ => rd_eof w S hX
  · exact fn_eq w S rfl
  · exact fn_eq w S rfl
  · exact fn_in w S (by kernel_rfl)
  · exact fn_in w S (by kernel_rfl)
  · exact ok_pure fun ρ τ => use_tupS w S (.cons _ _ (.cons _ _ .nil)) (by kernel_rfl)
noncomputable def E2 (w : World) (a k3 st : Nat → Nat) (L : Lx) (pp : Nat → Pos) (p : Pos) (l fnx fg ts tt tp te tc n kk c : Nat) (pos : Int) (T : List Nat) (q e v nx : Value) : Fr :=
  frC (blRT st pp l (a 1) fnx fg (a 5)) (cRTw (a 5)) p 6 (LG w.params L a (.str (s [99]) (ts)) (.str ⟨⟨T⟩⟩ tt) pos tp [] n (FR4 w.params k3 (a 1) q e nx))
    [.use 7 10 fun ρ τ => rdUse w.params L.k2 L.nl L.X L.tx (blRD st pp l (ρ 1) fnx fg (ρ 5)) (ρ 3) (ρ 2) (τ 9) pos (pos + 1) tp [c],
     .fn "str.__eq__" [.str ⟨⟨[c]⟩⟩, .str (s [10])] (.bool false),
     .fn "str.__eq__" [.str (s [99]), .str (s [32])] (.bool false),
     .fn "str.__contains__" [.str (s [39, 34]), .str (s [99])] (.bool false),
     .fn "str.__contains__" [.str (s [92]), .str (s [99])] (.bool false),
     .use 8 30 fun ρ τ => pureUse (.call (.builtin "tuple.__contains__") ⟨[.ref (ρ 7), .str (s [99]) ts], []⟩) none [(7, TUP [.str (s [97]) (τ 28), .str (s [99]) (τ 29)])] 0 fun θ => .ok (.ret (.bool true)),
     .fn "str.__contains__" [.str SPACE, .str ⟨⟨[c]⟩⟩] (.bool false),
     .fn "str.__contains__" [.str (s [35]), .str ⟨⟨[c]⟩⟩] (.bool false),
     .fn "str.__eq__" [.str (s [99]), .str (s [99])] (.bool true),
     .fn "str.__contains__" [.str PUNC, .str ⟨⟨[c]⟩⟩] (.bool true),
     .fn "str.__add__" [.str ⟨⟨T⟩⟩, .str ⟨⟨[c]⟩⟩] (.str ⟨⟨T ++ [c]⟩⟩)]
    [] (543) (4336670451929929743152560450174020876893626795098711151418586375554702841517360026651701090323755516768764111219391155038893107480478405243615007751631996565746990165592438458183940107841250591044954862127075476811492140251110674335162891333656118956447401829288212882478071352724368077784589392185039919896155207079455950855260704285849174966874898734632518068527010567418557881784594720232920657882644872144943500662848398843284980394534360513870995970783040315335142068184592876676481977948127888952234627330387970175966743245866357962567730893454965823265797132530108999573022034236055309565178874385370679318063005210208476022904216460555623116004166976755658801521460497424015429585729577356966664411860726510522021985967188434576065086300850543759229319582293970534719402911549174720408688366753260916432929594203799063986164146102782480634518728153819165839820312957587416748368883152825472604925609104248209798588859428347351049438741487693884584136420978523384579028725952544419632844265994565420830269218872333508121916391683047898443012098781704359944) (fun _ _ => .inl (.again (cRTw (a 5)), ⟨680, 24, 680, 34⟩)) (fun _ τ => (LG w.params L a (.str (s [99]) (ts)) (.str ⟨⟨T ++ [c]⟩⟩ (τ 44)) (pos + 1) (τ 11) [] n (FR4 w.params k3 (a 1) q e (.str ⟨⟨[c]⟩⟩ (τ 10))))) (fun _ _ => [])
theorem E2_n (w : World) (a k3 st : Nat → Nat) (L : Lx) (pp : Nat → Pos) (p : Pos) (l fnx fg ts tt tp te tc n kk c : Nat) (pos : Int) (T : List Nat) (q e v nx : Value) : (E2 w a k3 st L pp p l fnx fg ts tt tp te tc n kk c pos T q e v nx).SpecN w a := Fr.specN fun ρ τ => by kernel_rfl

theorem E2_w (w : World) (S : Shared) (a k3 st : Nat → Nat) (L : Lx) (pp : Nat → Pos) (p : Pos) (l fnx fg ts tt tp te tc n kk c : Nat) (k : Nat) (T : List Nat) (q e v nx : Value) {Y : List Nat} (hX : L.X.length ≤ sizeLine) (hk : L.X.drop k = c :: Y) (hC : IsP c) (hT : T ≠ []) (hs : (T ++ [c]).length ≤ sizeLine) {R : Result → Shared → Prop} {h : Heap} {tk : Nat} (G : Given (WD w S) a (LG w.params L a (.str (s [99]) (ts)) (.str ⟨⟨T⟩⟩ tt) (k : Int) tp [] n (FR4 w.params k3 (a 1) q e nx)) h)
    (fin : ∀ (τ : Nat → Nat) (h' : Heap) (tk' : Nat), Nx (WD w S) 6 a (LG w.params L a (.str (s [99]) (ts)) (.str ⟨⟨T ++ [c]⟩⟩ (τ 44)) ((k : Int) + 1) (τ 11) [] n (FR4 w.params k3 (a 1) q e (.str ⟨⟨[c]⟩⟩ (τ 10)))) h h' → EndR (WD w S) ⟨cRTw (a 5), none, none, blRT st pp l (a 1) fnx fg (a 5), none⟩ R h' tk' (some (.inl (.again (cRTw (a 5)), ⟨680, 24, 680, 34⟩)))) :
    wpCode (model pwR w) ⟨cRTw (a 5), none, none, blRT st pp l (a 1) fnx fg (a 5), none⟩ R p ((WD w S).sh h tk) := by
  refine E2_n w a k3 st L pp p l fnx fg ts tt tp te tc n kk c k T q e v nx G ?_ fin
  refine okc ?_ (okc ?_ (okc ?_ (okc ?_ (okc ?_ (okc ?_ (okc ?_ (okc ?_ (okc ?_ (okc ?_ (okc ?_ ok0))))))))))
  · exact ok_mk (fun _ _ => rfl) fun ρ τ => rd_char w S hX hk
  · exact fn_eq w S hC.nl
  · exact fn_eq w S rfl
  · exact fn_in w S (by kernel_rfl)
  · exact fn_in w S (by kernel_rfl)
  · exact ok_pure fun ρ τ => use_tupS w S (.cons _ _ (.cons _ _ .nil)) (by kernel_rfl)
  · exact fn_in w S hC.sp
  · exact fn_in w S hC.hs
  · exact fn_eq w S rfl
  · exact fn_in w S hC.p
  · exact fn_addL w S hT (by simp) hs
noncomputable def E3 (w : World) (a k3 st : Nat → Nat) (L : Lx) (pp : Nat → Pos) (p : Pos) (l fnx fg ts tt tp te tc n kk c : Nat) (pos : Int) (T : List Nat) (q e v nx : Value) : Fr :=
  frC (blRT st pp l (a 1) fnx fg (a 5)) (cRTw (a 5)) p 6 (LG w.params L a (.str (s [99]) (ts)) (.str ⟨⟨T⟩⟩ tt) pos tp [] n (FR4 w.params k3 (a 1) q e nx))
    [.use 7 10 fun ρ τ => rdUse w.params L.k2 L.nl L.X L.tx (blRD st pp l (ρ 1) fnx fg (ρ 5)) (ρ 3) (ρ 2) (τ 9) pos (pos + 1) tp [c],
     .fn "str.__eq__" [.str ⟨⟨[c]⟩⟩, .str (s [10])] (.bool false),
     .fn "str.__eq__" [.str (s [99]), .str (s [32])] (.bool false),
     .fn "str.__contains__" [.str (s [39, 34]), .str (s [99])] (.bool false),
     .fn "str.__contains__" [.str (s [92]), .str (s [99])] (.bool false),
     .use 8 30 fun ρ τ => pureUse (.call (.builtin "tuple.__contains__") ⟨[.ref (ρ 7), .str (s [99]) ts], []⟩) none [(7, TUP [.str (s [97]) (τ 28), .str (s [99]) (τ 29)])] 0 fun θ => .ok (.ret (.bool true)),
     .fn "str.__contains__" [.str SPACE, .str ⟨⟨[c]⟩⟩] (.bool false),
     .fn "str.__contains__" [.str (s [35]), .str ⟨⟨[c]⟩⟩] (.bool false),
     .fn "str.__eq__" [.str (s [99]), .str (s [99])] (.bool true),
     .fn "str.__contains__" [.str PUNC, .str ⟨⟨[c]⟩⟩] (.bool false),
     .fn "str.__contains__" [.str SPACE, .str ⟨⟨[c]⟩⟩] (.bool false)]
    [] (586) (8227260530076922331802788306432087277112583209636628384471622846808123359117831921276142693289601820681195620301882230909099005390413882741170146708426516465002526190668416550133647791659299332980881547424061646040081114762367802147319035949133127648192459525923301090592207440626202783498010900743002246700051698275192217965255592476948649569904290963453290476502799551355531125031737394985362897471631248969993823089500548969366870875266154755681061081656965429145861241690402218828258019933463103530930808585387095941509660898932651555507345291765179719551811633357738999701188876073295380015875502957355997310552294006826049519130599313574912388911328350189456608156738811167175032211554987487716092017428912097659308054684618246065323378414385308049313499819843868473642117138700434054555573700652938297629867408487690348502307034539207905351773098462053226257692049856340088882877138734023752337731701983483650433569312165895975094872241072042488094681480521563539458768320630650833755838136517437493625742067949479580492349924487828107897796763337602655328712182062642683334757638954921476638536362757207823556292312450489633689877614600) (fun _ _ => .inl (.done .next, ⟨685, 24, 685, 29⟩)) (fun _ τ => (LG w.params L a (.str (s [32]) (τ 46)) (.str ⟨⟨T⟩⟩ tt) (pos + 1) (τ 11) [.str ⟨⟨[c]⟩⟩ (τ 10)] (n + 1) (FR4 w.params k3 (a 1) q e (.str ⟨⟨[c]⟩⟩ (τ 10))))) (fun _ _ => [])
theorem E3_n (w : World) (a k3 st : Nat → Nat) (L : Lx) (pp : Nat → Pos) (p : Pos) (l fnx fg ts tt tp te tc n kk c : Nat) (pos : Int) (T : List Nat) (q e v nx : Value) : (E3 w a k3 st L pp p l fnx fg ts tt tp te tc n kk c pos T q e v nx).SpecN w a := Fr.specN fun ρ τ => by kernel_rfl

theorem E3_w (w : World) (S : Shared) (a k3 st : Nat → Nat) (L : Lx) (pp : Nat → Pos) (p : Pos) (l fnx fg ts tt tp te tc n kk c : Nat) (k : Nat) (T : List Nat) (q e v nx : Value) {Y : List Nat} (hX : L.X.length ≤ sizeLine) (hk : L.X.drop k = c :: Y) (hC : IsW c) {R : Result → Shared → Prop} {h : Heap} {tk : Nat} (G : Given (WD w S) a (LG w.params L a (.str (s [99]) (ts)) (.str ⟨⟨T⟩⟩ tt) (k : Int) tp [] n (FR4 w.params k3 (a 1) q e nx)) h)
    (fin : ∀ (τ : Nat → Nat) (h' : Heap) (tk' : Nat), Nx (WD w S) 6 a (LG w.params L a (.str (s [32]) (τ 46)) (.str ⟨⟨T⟩⟩ tt) ((k : Int) + 1) (τ 11) [.str ⟨⟨[c]⟩⟩ (τ 10)] (n + 1) (FR4 w.params k3 (a 1) q e (.str ⟨⟨[c]⟩⟩ (τ 10)))) h h' → EndR (WD w S) ⟨cRTw (a 5), none, none, blRT st pp l (a 1) fnx fg (a 5), none⟩ R h' tk' (some (.inl (.done .next, ⟨685, 24, 685, 29⟩)))) :
    wpCode (model pwR w) ⟨cRTw (a 5), none, none, blRT st pp l (a 1) fnx fg (a 5), none⟩ R p ((WD w S).sh h tk) := by
  refine E3_n w a k3 st L pp p l fnx fg ts tt tp te tc n kk c k T q e v nx G ?_ fin
  refine okc ?_ (okc ?_ (okc ?_ (okc ?_ (okc ?_ (okc ?_ (okc ?_ (okc ?_ (okc ?_ (okc ?_ (okc ?_ ok0))))))))))
  · exact ok_mk (fun _ _ => rfl) fun ρ τ => rd_char w S hX hk
  · exact fn_eq w S hC.nl
  · exact fn_eq w S rfl
  · exact fn_in w S (by kernel_rfl)
  · exact fn_in w S (by kernel_rfl)
  · exact ok_pure fun ρ τ => use_tupS w S (.cons _ _ (.cons _ _ .nil)) (by kernel_rfl)
  · exact fn_in w S hC.sp
  · exact fn_in w S hC.hs
  · exact fn_eq w S rfl
  · exact fn_in w S hC.p
  · exact fn_in w S hC.sp
end Mine
end
section -- Lp
open PySem PySem.W PyProof.Rows PySem.Calls
set_option Elab.async false
set_option linter.unusedVariables false
set_option maxRecDepth 100000
set_option maxHeartbeats 0
namespace Mine
/-- the lexer's states within a word: in the word, within marks, behind a backslash, in a run of letters -/
inductive Md where
  | a
  | q
  | e
  | c
/-- how a word goes on: state, word so far, quoted, what is left; the word, quoted, the sign that is pushed back, what is left -/
inductive Lex : Md → List Nat → Bool → List Nat → List Nat × Bool × Option Nat × List Nat → Prop
  | eofA {T b} : Lex .a T b [] (T, b, none, [])
  | quoA {T b r o} : Lex .q T b r o → Lex .a T b (34 :: r) o
  | worA {T b x r o} : IsW x → Lex .a (T ++ [x]) b r o → Lex .a T b (x :: r) o
  | punA {T b x r} : IsP x → Lex .a T b (x :: r) (T, b, some x, r)
  | cloQ {T b r o} : Lex .a T true r o → Lex .q T b (34 :: r) o
  | escQ {T b r o} : Lex .e T true r o → Lex .q T b (92 :: r) o
  | othQ {T b x r o} : IsO x → Lex .q (T ++ [x]) true r o → Lex .q T b (x :: r) o
  | quoE {T b r o} : Lex .q (T ++ [34]) b r o → Lex .e T b (34 :: r) o
  | bacE {T b r o} : Lex .q (T ++ [92]) b r o → Lex .e T b (92 :: r) o
  | eofC {T b} : Lex .c T b [] (T, b, none, [])
  | punC {T b x r o} : IsP x → Lex .c (T ++ [x]) b r o → Lex .c T b (x :: r) o
  | worC {T b x r} : IsW x → Lex .c T b (x :: r) (T, b, some x, r)
noncomputable def stS : Md → Str
  | .a => (s [97])
  | .q => (s [34])
  | .e => (s [92])
  | .c => (s [99])
noncomputable def afterS (ts : Nat) : Option Nat → Value
  | none => .none
  | some _ => .str (s [32]) ts
noncomputable def pbL (tc : Nat) : Option Nat → List Value
  | none => []
  | some x => [.str ⟨⟨[x]⟩⟩ tc]
/-- escapedstate: a blank or a mark -/
noncomputable def sel : Nat → Str
  | 0 => (s [32])
  | _ => (s [34])
/-- behind the while: the word stands in token -/
noncomputable def Fin1 (w : World) (S : Shared) (a : Nat → Nat) (L : Lx) (o : List Nat × Bool × Option Nat × List Nat) (R : Result → Shared → Prop) (h : Heap) : Prop :=
  ∀ (ts tt tp tc n k e te tn : Nat) (k3 : Nat → Nat) (h' : Heap) (tk : Nat), L.X.drop k = o.2.2.2 → k ≤ L.X.length →
    Nx (WD w S) 6 a (LG w.params L a (afterS ts o.2.2.1) (.str ⟨⟨o.1⟩⟩ tt) (k : Int) tp (pbL tc o.2.2.1) n (FR4 w.params k3 (a 1) (.bool o.2.1) (.str (sel e) te) (.str ⟨⟨o.2.2.1.toList⟩⟩ tn))) h h' → R (.ok .next) ((WD w S).sh h' tk)
theorem Fin1.mono {w : World} {S : Shared} {a : Nat → Nat} {L : Lx} {o : List Nat × Bool × Option Nat × List Nat} {R : Result → Shared → Prop} {h h1 : Heap} {l : List Obj} (F : Fin1 w S a L o R h) (N : Nx (WD w S) 6 a l h h1) : Fin1 w S a L o R h1 :=
  fun ts tt tp tc n k e te tn k3 h' tk hk hk' N' => F ts tt tp tc n k e te tn k3 h' tk hk hk' (N.trans N')
theorem drop_cons {X Y : List Nat} {k c : Nat} (h : X.drop k = c :: Y) : X.drop (k + 1) = Y ∧ k + 1 ≤ X.length := by
  constructor
  · rw [show k + 1 = 1 + k from Nat.add_comm _ _, Nat.add_comm, ← List.drop_drop, h]; rfl
  · have := congrArg List.length h
    rw [List.length_drop, List.length_cons] at this
    omega
theorem drop_nil' {X : List Nat} {k : Nat} (h : X.drop k = []) (hk : k ≤ X.length) : k = X.length := by
  have := congrArg List.length h
  rw [List.length_drop, List.length_nil] at this
  omega
theorem loop {w : World} {S : Shared} {a st : Nat → Nat} {L : Lx} {pp : Nat → Pos} {l fnx fg : Nat} (hX : L.X.length ≤ sizeLine) {R : Result → Shared → Prop} {m : Md} {T : List Nat} {b : Bool} {r : List Nat} {o : List Nat × Bool × Option Nat × List Nat} (X : Lex m T b r o) :
    ∀ (ts tt tp n k e te : Nat) (k3 : Nat → Nat) (nx : Value) (p : Pos) (h : Heap) (tk : Nat), L.X.drop k = r → k ≤ L.X.length → T ≠ [] → T.length + r.length ≤ sizeLine → (m = .e → e = 1) →
      Given (WD w S) a (LG w.params L a (.str (stS m) ts) (.str ⟨⟨T⟩⟩ tt) (k : Int) tp [] n (FR4 w.params k3 (a 1) (.bool b) (.str (sel e) te) nx)) h → Fin1 w S a L o R h →
      wpCode (model pwR w) ⟨cRTw (a 5), none, none, blRT st pp l (a 1) fnx fg (a 5), none⟩ R p ((WD w S).sh h tk) := by
  have hsz : sizeLine < 2 ^ 62 := by decide
  induction X with
  | @eofA T b =>
    intro ts tt tp n k e te k3 nx p h tk hk hk' hT hs hE G F
    have ek := drop_nil' hk hk'
    subst ek
    exact B1_w w S a k3 st L pp p l fnx fg ts tt tp 0 0 n 0 0 0 T (.bool b) (.str (sel e) te) .none nx (Y := []) hX G fun τ h' tk' N => F 0 _ _ 0 _ _ _ _ _ _ h' tk' (by simp) (Nat.le_refl _) N
  | @quoA T b r o _ ih =>
    intro ts tt tp n k e te k3 nx p h tk hk hk' hT hs hE G F
    obtain ⟨d1, d2⟩ := drop_cons hk
    exact B2_w w S a k3 st L pp p l fnx fg ts tt tp 0 0 n 0 34 k T (.bool b) (.str (sel e) te) .none nx (Y := r) hX hk G fun τ h' tk' N => ih _ _ _ _ (k + 1) _ _ _ _ _ h' tk' d1 d2 hT (by simp at hs; omega) (fun z => nomatch z) N.given (F.mono N)
  | @worA T b x r o hx _ ih =>
    intro ts tt tp n k e te k3 nx p h tk hk hk' hT hs hE G F
    obtain ⟨d1, d2⟩ := drop_cons hk
    exact B3_w w S a k3 st L pp p l fnx fg ts tt tp 0 0 n 0 x k T (.bool b) (.str (sel e) te) .none nx (Y := r) hX hk hx hT (by simp at hs ⊢; omega) G fun τ h' tk' N => ih _ _ _ _ (k + 1) _ _ _ _ _ h' tk' d1 d2 (by simp) (by simp at hs ⊢; omega) (fun z => nomatch z) N.given (F.mono N)
  | @punA T b x r hx =>
    intro ts tt tp n k e te k3 nx p h tk hk hk' hT hs hE G F
    obtain ⟨d1, d2⟩ := drop_cons hk
    have hl : Str.length ⟨⟨T⟩⟩ = (T.length - 1) + 1 := by
      show T.length = _
      have : T.length ≠ 0 := by simpa using hT
      omega
    exact B4_w w S a k3 st L pp p l fnx fg ts tt tp 0 0 n (T.length - 1) x k T (.bool b) (.str (sel e) te) .none nx (Y := r) hX hk hx (by show T.length < _; omega) hl G fun τ h' tk' N => F _ _ _ _ _ (k + 1) _ _ _ _ h' tk' d1 d2 N
  | @cloQ T b r o _ ih =>
    intro ts tt tp n k e te k3 nx p h tk hk hk' hT hs hE G F
    obtain ⟨d1, d2⟩ := drop_cons hk
    exact C1_w w S a k3 st L pp p l fnx fg ts tt tp 0 0 n 0 34 k T (.bool b) (.str (sel e) te) .none nx (Y := r) hX hk G fun τ h' tk' N => ih _ _ _ _ (k + 1) _ _ _ _ _ h' tk' d1 d2 hT (by simp at hs; omega) (fun z => nomatch z) N.given (F.mono N)
  | @escQ T b r o _ ih =>
    intro ts tt tp n k e te k3 nx p h tk hk hk' hT hs hE G F
    obtain ⟨d1, d2⟩ := drop_cons hk
    exact C2_w w S a k3 st L pp p l fnx fg ts tt tp 0 0 n 0 92 k T (.bool b) (.str (sel e) te) .none nx (Y := r) hX hk G fun τ h' tk' N => ih _ _ _ _ (k + 1) 1 ts _ _ _ h' tk' d1 d2 hT (by simp at hs; omega) (fun _ => rfl) N.given (F.mono N)
  | @othQ T b x r o hx _ ih =>
    intro ts tt tp n k e te k3 nx p h tk hk hk' hT hs hE G F
    obtain ⟨d1, d2⟩ := drop_cons hk
    exact C3_w w S a k3 st L pp p l fnx fg ts tt tp 0 0 n 0 x k T (.bool b) (.str (sel e) te) .none nx (Y := r) hX hk hx hT (by simp at hs ⊢; omega) G fun τ h' tk' N => ih _ _ _ _ (k + 1) _ _ _ _ _ h' tk' d1 d2 (by simp) (by simp at hs ⊢; omega) (fun z => nomatch z) N.given (F.mono N)
  | @quoE T b r o _ ih =>
    intro ts tt tp n k e te k3 nx p h tk hk hk' hT hs hE G F
    obtain ⟨d1, d2⟩ := drop_cons hk
    have he := hE rfl
    subst he
    exact D2_w w S a k3 st L pp p l fnx fg ts tt tp te 0 n 0 34 k T (.bool b) .none .none nx (Y := r) hX hk hT (by simp at hs ⊢; omega) G fun τ h' tk' N => ih _ _ _ _ (k + 1) 1 te _ _ _ h' tk' d1 d2 (by simp) (by simp at hs ⊢; omega) (fun z => nomatch z) N.given (F.mono N)
  | @bacE T b r o _ ih =>
    intro ts tt tp n k e te k3 nx p h tk hk hk' hT hs hE G F
    obtain ⟨d1, d2⟩ := drop_cons hk
    have he := hE rfl
    subst he
    exact D1_w w S a k3 st L pp p l fnx fg ts tt tp te 0 n 0 92 k T (.bool b) .none .none nx (Y := r) hX hk hT (by simp at hs ⊢; omega) G fun τ h' tk' N => ih _ _ _ _ (k + 1) 1 te _ _ _ h' tk' d1 d2 (by simp) (by simp at hs ⊢; omega) (fun z => nomatch z) N.given (F.mono N)
  | @eofC T b =>
    intro ts tt tp n k e te k3 nx p h tk hk hk' hT hs hE G F
    have ek := drop_nil' hk hk'
    subst ek
    exact E1_w w S a k3 st L pp p l fnx fg ts tt tp 0 0 n 0 0 0 T (.bool b) (.str (sel e) te) .none nx (Y := []) hX G fun τ h' tk' N => F 0 _ _ 0 _ _ _ _ _ _ h' tk' (by simp) (Nat.le_refl _) N
  | @punC T b x r o hx _ ih =>
    intro ts tt tp n k e te k3 nx p h tk hk hk' hT hs hE G F
    obtain ⟨d1, d2⟩ := drop_cons hk
    exact E2_w w S a k3 st L pp p l fnx fg ts tt tp 0 0 n 0 x k T (.bool b) (.str (sel e) te) .none nx (Y := r) hX hk hx hT (by simp at hs ⊢; omega) G fun τ h' tk' N => ih _ _ _ _ (k + 1) _ _ _ _ _ h' tk' d1 d2 (by simp) (by simp at hs ⊢; omega) (fun z => nomatch z) N.given (F.mono N)
  | @worC T b x r hx =>
    intro ts tt tp n k e te k3 nx p h tk hk hk' hT hs hE G F
    obtain ⟨d1, d2⟩ := drop_cons hk
    exact E3_w w S a k3 st L pp p l fnx fg ts tt tp 0 0 n 0 x k T (.bool b) (.str (sel e) te) .none nx (Y := r) hX hk hx G fun τ h' tk' N => F _ _ _ _ _ (k + 1) _ _ _ _ h' tk' d1 d2 N
/-- one word: the sign that was pushed back, what is left -/
inductive Rtok : Option Nat → List Nat → List Nat × Bool × Option Nat × List Nat → Prop
  | read {x r o} : IsW x → Lex .a [x] false r o → Rtok none (x :: r) o
  | popW {x r o} : IsW x → Lex .a [x] false r o → Rtok (some x) r o
  | popP {x r o} : IsP x → Lex .c [x] false r o → Rtok (some x) r o
theorem word {w : World} {S : Shared} {a st : Nat → Nat} {L : Lx} {pp : Nat → Pos} {l fnx fg : Nat} (hX : L.X.length < sizeLine) {R : Result → Shared → Prop} {pb : Option Nat} {r : List Nat} {o : List Nat × Bool × Option Nat × List Nat} (X : Rtok pb r o)
    (ts tp tc n k te : Nat) (k3 : Nat → Nat) (v : Value) (p : Pos) (h : Heap) (tk : Nat) (hk : L.X.drop k = r) (hk' : k ≤ L.X.length)
    (G : Given (WD w S) a (LG w.params L a (.str (s [32]) ts) v (k : Int) tp (pbL tc pb) n (FR3 w.params k3 (a 1) (.bool false) (.str (sel 0) te))) h) (F : Fin1 w S a L o R h) :
    wpCode (model pwR w) ⟨cRTw (a 5), none, none, blRT st pp l (a 1) fnx fg (a 5), none⟩ R p ((WD w S).sh h tk) := by
  have hX' : L.X.length ≤ sizeLine := Nat.le_of_lt hX
  have hr : r.length ≤ L.X.length := by rw [← hk, List.length_drop]; omega
  cases X with
  | @read x r o hx X =>
    obtain ⟨d1, d2⟩ := drop_cons hk
    exact A1_w w S a k3 st L pp p l fnx fg ts 0 tp 0 0 n 0 x k [] (.bool false) (.str (sel 0) te) v .none (Y := r) hX' hk hx G fun τ h' tk' N => loop hX' X _ _ _ _ (k + 1) 0 te _ _ _ h' tk' d1 d2 (by simp) (by simp at hr ⊢; omega) (fun z => nomatch z) N.given (F.mono N)
  | @popW x r o hx X =>
    exact A1p_w w S a k3 st L pp p l fnx fg ts 0 tp 0 tc n 0 x k [] (.bool false) (.str (sel 0) te) v .none (Y := r) hx G fun τ h' tk' N => loop hX' X _ _ _ _ k 0 te _ _ _ h' tk' hk hk' (by simp) (by simp at hr ⊢; omega) (fun z => nomatch z) N.given (F.mono N)
  | @popP x r o hx X =>
    exact A2p_w w S a k3 st L pp p l fnx fg ts 0 tp 0 tc n 0 x k [] (.bool false) (.str (sel 0) te) v .none (Y := r) hx G fun τ h' tk' N => loop hX' X _ _ _ _ k 0 te _ _ _ h' tk' hk hk' (by simp) (by simp at hr ⊢; omega) (fun z => nomatch z) N.given (F.mono N)
theorem noword {w : World} {S : Shared} {a st : Nat → Nat} {L : Lx} {pp : Nat → Pos} {l fnx fg : Nat} (hX : L.X.length ≤ sizeLine) {R : Result → Shared → Prop} (tp n te : Nat) (k3 : Nat → Nat) (v : Value) (p : Pos) (h : Heap) (tk : Nat)
    (G : Given (WD w S) a (LG w.params L a .none v (L.X.length : Int) tp [] n (FR3 w.params k3 (a 1) (.bool false) (.str (sel 0) te))) h) (F : Fin1 w S a L ([], false, none, []) R h) :
    wpCode (model pwR w) ⟨cRTw (a 5), none, none, blRT st pp l (a 1) fnx fg (a 5), none⟩ R p ((WD w S).sh h tk) :=
  A5_w w S a k3 st L pp p l fnx fg 0 0 tp 0 0 n 0 0 0 [] (.bool false) (.str (sel 0) te) v .none (Y := []) hX G fun τ h' tk' N => F 0 _ _ 0 _ _ _ _ _ _ h' tk' (by simp) (Nat.le_refl _) N
end Mine
end
section -- Sw
open PySem PySem.W PyProof.Rows PySem.Calls
set_option Elab.async false
set_option linter.unusedVariables false
set_option maxRecDepth 100000
set_option maxHeartbeats 0
namespace Mine
open Sem (wp)
variable {W : Wd}
noncomputable def LST (l : List Value) (n : Nat) : Obj := ⟨.type "list", none, .seq ⟨l⟩ n, ⟨[]⟩⟩
/-- a list that is not too long: the look behind a write goes by -/
theorem swap_look {ρ : Nat → Nat} {k n : Nat} {items : List Value} {t : Sem Fin} (hs : items.length ≤ sizeLine) : SwapI W ρ ⟨none, [(k, LST items n)], lookBehind (ρ k) >>= fun _ => t, t⟩ := by
  intro Γ p h tk Q E top pre _ H
  have ho : (W.sh h tk).heap.get? (ρ k) = some (LST items n) := pre (k, LST items n) (List.mem_singleton.mpr rfl)
  show wp W.M Γ (lookBehind (ρ k) >>= fun _ => t) Q E p (W.sh h tk)
  have hp : (LST items n).data.pastItsLine = none := pastItsLine_seq (by have := hs; simp [LST]; omega)
  rw [Sem.wp_bind']
  unfold lookBehind
  rw [Sem.wp_bind', Sem.wp_loadPart_of _ _ _ _ _ _ ho, hp]
  exact H
noncomputable def swL0 (k a : Nat) (o : Obj) (t : Sem PySem.Fin) : Swap := ⟨none, [(k, o)], lookBehind a >>= fun _ => t, t⟩
theorem swL0_r : @swL0 = @swL0 := rfl
lay_quick Mine.swL0
name_quick swLq for Mine.swL0 by Mine.swL0_r
noncomputable abbrev swL (k a : Nat) (o : Obj) (t : Sem PySem.Fin) : Swap := PySem.W.Fast.swLq k a o t
theorem swL_ok {W : Wd} {ρ' : Nat → Nat} {k a : Nat} {o : Obj} {t : Sem PySem.Fin} (h : SwapI W ρ' (swL0 k a o t)) : SwapI W ρ' (swL k a o t) := by
  rw [PySem.W.Fast.swLq_eq] at h
  exact h

/-- a tree that does not change the place -/
noncomputable def Still (M : Model) (Γ : Ctx) {α : Type} (m : Sem α) : Prop := ∀ (Q : α → Pos → Shared → Prop) (E : Value → Pos → Shared → Prop) (p : Pos) (s : Shared), wp M Γ m Q E p s → wp M Γ m (fun a p' s' => p' = p ∧ Q a p' s') E p s
section
variable {M : Model} {Γ : Ctx} {α β : Type}
theorem Still.bind {m : Sem α} {f : α → Sem β} (hm : Still M Γ m) (hf : ∀ a, Still M Γ (f a)) : Still M Γ (m >>= f) := by
  intro Q E p s H
  rw [Sem.wp_bind'] at H ⊢
  refine Sem.wp_mono _ _ _ ?_ (fun _ _ _ h => h) _ _ (hm _ _ _ _ H)
  rintro a p' s' ⟨rfl, h⟩
  exact hf a _ _ _ _ h
theorem Still.pure (a : α) : Still M Γ (Pure.pure a : Sem α) := fun Q E p s H => by
  rw [Sem.wp_pure'] at H ⊢
  exact ⟨rfl, H⟩
theorem Still.unsupported (x : String) : Still M Γ (PySem.unsupported x : Sem α) := fun Q E p s (H : False) => H.elim
theorem Still.load (a : Addr) : Still M Γ (PySem.load a) := fun Q E p s H => by
  rw [Sem.wp_cmd_load] at H ⊢
  obtain ⟨o, ho, h⟩ := H
  exact ⟨o, ho, rfl, h⟩
theorem Still.update (a : Addr) (f : Obj → Obj) : Still M Γ (PySem.update a f) := fun Q E p s (H : (s.heap.get? a).isSome ∧ Q () p { s with heap := s.heap.update a f }) =>
  show (s.heap.get? a).isSome ∧ p = p ∧ Q () p { s with heap := s.heap.update a f } from ⟨H.1, rfl, H.2⟩
theorem Still.stack : Still M Γ PySem.stack := fun Q E p s (H : Q ((Γ.code, p) :: Γ.below) p s) => show p = p ∧ Q ((Γ.code, p) :: Γ.below) p s from ⟨rfl, H⟩
theorem Still.field (v : Value) (i : Nat) : Still M Γ (PySem.field v i) := by
  unfold PySem.field PySem.fieldsOf
  refine .bind ?_ fun vs => ?_
  · cases v with
    | ref a =>
      refine .bind (.load a) fun o => ?_
      split
      · exact .pure _
      · exact .unsupported _
    | _ => exact .unsupported _
  · split
    · exact .pure _
    · exact .unsupported _
theorem Still.ready : ∀ l : List Env, Still M Γ (readyFrames l)
  | [] => .pure ()
  | env :: outer => by
    unfold readyFrames
    split
    · refine .bind (.load _) fun o => ?_
      split
      · exact .pure ()
      · refine .bind ?_ fun imp => .bind ?_ fun back => .bind (.update _ _) fun _ => Still.ready outer
        · unfold behindIsImport
          split
          · exact .pure _
          · split
            · exact .pure _
            · exact .bind (.field _ _) fun _ => .pure _
        · cases outer with
          | nil =>
            simp only [keptBack]
            split
            · exact .pure _
            · refine .bind ?_ fun _ => .pure _
              unfold underTheClaimsCaller
              exact .bind .stack fun _ => .pure _
          | cons e l => exact .pure _
    · exact .unsupported _
end
/-- what a function does when it is left by an exception: without the looks at the stack -/
noncomputable def leave1 (f : Addr) (envs : List Env) (pl : List Value) (e : Addr) : Sem Fin := do
  let fr ← (do
    match ← frameObject envs with
    | some f => pure f
    | none => unsupported "internal:frame-not-on-the-stack")
  let t ← EntryCells.newEntry .none fr .none (rawInt f) .none pl
  setField (.ref e) 1 t
  setFlight (.ref e) none
  .raise (.ref e)
noncomputable def leave0 (env : Env) (e : Addr) : Sem Fin := Sem.bind (Sem.bind (leaving env (.ref e)) fun _ => .raise (.ref e)) fun (r : Flow) => (match r with
    | .ret v => ret v
    | _ => ret .none)
noncomputable def place1 (p : Pos) (under : List (Code × Pos)) : List Value := if p.line == 0 then [] else [rawInt p.line, rawInt p.endLine, rawInt p.col, rawInt p.endCol] ++
  [if (EntryCells.make (under.filterMap fun (c, _) => match c with | .builtin id _ => some id | _ => none).eraseDups).length > sizeLine then .none else .str (EntryCells.make (under.filterMap fun (c, _) => match c with | .builtin id _ => some id | _ => none).eraseDups) 0, .bool false]
theorem swap_leave {ρ : Nat → Nat} {k f : Nat} {env : Env} {body : List Stmt} {p0 : Pos} {below : List (Code × Pos)} {outer : List Env} {cls : Value} {dict : Option Addr} {vs : List Value} {sl : Array (Option Value)} (hf : env.frame = some f)
    (ho : (below.filter (·.1.isFrame)).filterMap (·.1.env?) = outer) (hv : vs[1]? = some .none) :
    SwapI W ρ ⟨some ((.func body env, p0) :: below), [(k, ⟨cls, dict, .fields ⟨vs⟩, sl⟩)], leave0 env (ρ k), leave1 f (env :: outer) (place1 p0 below) (ρ k)⟩ := by
  intro Γ p h tk Q E top pre hbl H
  obtain ⟨eb, _, _, _⟩ := hbl _ rfl
  have he : (W.sh h tk).heap.get? (ρ k) = some ⟨cls, dict, .fields ⟨vs⟩, sl⟩ := pre (k, _) (List.mem_singleton.mpr rfl)
  have hp : p = p0 := by injection eb with e1 _; injection e1
  subst hp
  show wp W.M Γ (leave0 env (ρ k)) Q E p (W.sh h tk)
  unfold leave0
  rw [Sem.wp_bind, Sem.wp_bind]
  show wp W.M Γ (leaving env (.ref (ρ k))) (fun _ p' s' => E (.ref (ρ k)) p' s') E p (W.sh h tk)
  have hfe : ((((Γ.code, p) :: Γ.below).filter (·.1.isFrame)).filterMap (·.1.env?)).dropWhile (fun x => x.frame != env.frame) = env :: outer := by
    rw [eb]
    have : ((Code.func body env, p) :: below).filter (·.1.isFrame) = (Code.func body env, p) :: below.filter (·.1.isFrame) := rfl
    rw [this]
    show (env :: (below.filter (·.1.isFrame)).filterMap (·.1.env?)).dropWhile _ = _
    rw [ho]
    simp [List.dropWhile]
  have hfld : ∀ (Q' : Value → Pos → Shared → Prop), wp W.M Γ (field (.ref (ρ k)) 1) Q' E p (W.sh h tk) = Q' .none p (W.sh h tk) := fun Q' => by
    unfold field fieldsOf
    simp only [Sem.wp_bind']
    rw [Sem.wp_load_of _ _ _ _ _ he]
    simp only [Sem.wp_pure']
    have hv' : (⟨vs⟩ : Array Value)[1]? = some .none := by simpa using hv
    rw [hv']
    rfl
  unfold leaving
  rw [Sem.wp_bind']
  unfold noteFrame
  simp only [hf]
  rw [Sem.wp_bind', hfld]
  rw [if_neg (by decide)]
  unfold leave1 at H
  rw [Sem.wp_bind'] at H
  unfold PySem.frameOf
  simp only [bind_assoc]
  rw [Sem.wp_bind']
  show wp W.M Γ (frameObject (List.dropWhile (fun x => x.frame != env.frame) ((((Γ.code, p) :: Γ.below).filter (·.1.isFrame)).filterMap (·.1.env?))) >>= _) _ E p (W.sh h tk)
  rw [hfe, ← bind_assoc, Sem.wp_bind']
  have S1 : Still W.M Γ (do
      match ← frameObject (env :: outer) with
      | some f => pure f
      | none => unsupported "internal:frame-not-on-the-stack" : Sem Value) := by
    refine .bind ?_ fun o => ?_
    · unfold frameObject
      exact .bind (.ready _) fun _ => .pure _
    · cases o with
      | none => exact .unsupported _
      | some f => exact .pure _
  have hpl : ∀ (Q' : List Value → Pos → Shared → Prop) (s' : Shared), Q' (place1 p below) p s' → wp W.M Γ (entryPlaceOf f (Value.none != Value.none)) Q' E p s' := fun Q' s' hq => by
    unfold entryPlaceOf
    rw [Sem.wp_bind']
    show wp W.M Γ (match List.find? (fun x => x.1.env?.bind (·.frame) == some f) ((Γ.code, p) :: Γ.below) with | some (_, pos) => _ | none => _) Q' E p s'
    have hfind : List.find? (fun (x : Code × Pos) => x.1.env?.bind (·.frame) == some f) ((Γ.code, p) :: Γ.below) = some (.func body env, p) := by
      rw [eb]
      refine List.find?_cons_of_pos ?_
      show ((some env).bind (·.frame) == some f) = true
      rw [Option.bind_some, hf]
      exact beq_self_eq_true _
    rw [hfind]
    have hcells : EntryCells.cells f (Value.none != Value.none) ((Γ.code, p) :: Γ.below) = [if (EntryCells.make (below.filterMap fun (c, _) => match c with | .builtin id _ => some id | _ => none).eraseDups).length > sizeLine then .none else .str (EntryCells.make (below.filterMap fun (c, _) => match c with | .builtin id _ => some id | _ => none).eraseDups) 0, .bool false] := by
      unfold EntryCells.cells EntryCells.beneath
      rw [eb]
      have hd : List.dropWhile (fun (x : Code × Pos) => !(x.1.isFrame && x.1.env?.bind (·.frame) == some f)) ((.func body env, p) :: below) = (.func body env, p) :: below := by
        refine List.dropWhile_cons_of_neg ?_
        show ¬ (!(true && (some env).bind (·.frame) == some f)) = true
        rw [Option.bind_some, hf]
        simp
      rw [show (List.dropWhile (fun (x : Code × Pos) => match x with | (c, _) => !(c.isFrame && c.env?.bind (·.frame) == some f)) ((.func body env, p) :: below)) = (.func body env, p) :: below from hd]
      rfl
    show Q' (if p.line == 0 then [] else [rawInt p.line, rawInt p.endLine, rawInt p.col, rawInt p.endCol] ++ EntryCells.cells f (Value.none != Value.none) ((Γ.code, p) :: Γ.below)) p s'
    rw [hcells]
    exact hq
  refine Sem.wp_mono _ _ _ ?_ (fun _ _ _ h => h) _ _ (S1 _ _ _ _ H)
  rintro fr p' s' ⟨rfl, hh⟩
  rw [Sem.wp_bind']
  refine hpl _ _ ?_
  simp only [Sem.wp_bind'] at hh ⊢
  exact hh
end Mine
end
section -- Ex
open PySem PySem.W PyProof.Rows PySem.Calls
set_option Elab.async false
set_option linter.unusedVariables false
set_option maxRecDepth 100000
set_option maxHeartbeats 0
namespace Mine
noncomputable def Lx.at (L : Lx) (a : Nat → Nat) : Lx := ⟨L.ks, L.vs, L.k2, a 6, a 7, L.nl, L.tx, L.X⟩
/-- a lexer between words, and the list that takes them -/
noncomputable def LE (P : Params) (L : Lx) (a : Nat → Nat) (state token : Value) (pos : Int) (tp : Nat) (dq : List Value) (n : Nat) (lo : Obj) : List Obj :=
  [SH P L.ks L.vs (a 3) (a 6) (a 7) (a 4) state token, inst 740 (a 0), IOD P L.k2 L.nl (.str ⟨⟨L.X⟩⟩ L.tx) (.int pos tp), inst 605 (a 2), DQ dq n, lo, DQ [] 0, DQ [] 0]
/-- the places of calls in __next__, get_token, read_token -/
noncomputable def ppX (pp : Nat → Pos) (p : Pos) : Nat → Pos := fun i => match i with
  | 6 => p
  | 7 => ⟨730, 16, 730, 32⟩
  | 8 => ⟨558, 14, 558, 31⟩
  | 9 => ⟨582, 8, 704, 32⟩
  | i => pp i
noncomputable def whUse (P : Params) (L : Lx) (a : Nat → Nat) (bl : List (Code × Pos)) (keys : List Nat) (state v : Value) (pos : Int) (tp : Nat) (D : List Value) (n : Nat) (k3 : Nat → Nat) (te : Nat) (T : List Nat) (b : Bool) (pb : Option Nat) (pos' : Int) : Use :=
  mkUse (cRTw (a 5)) (some bl) keys (LG P L a state v pos tp D n (FR3 P k3 (a 1) (.bool false) (.str (sel 0) te))) 12
    (fun θ => LG P L a (afterS (θ 0) pb) (.str ⟨⟨T⟩⟩ (θ 1)) pos' (θ 2) (pbL (θ 3) pb) (θ 4) (FR4 P (fun j => θ (5 + j)) (a 1) (.bool b) (.str (sel (θ 9)) (θ 10)) (.str ⟨⟨pb.toList⟩⟩ (θ 11))))
    (fun _ => .ok .next)
noncomputable def SLr (lw : Nat) : Array (Option Value) := ⟨[some (.ref 821), some (.ref 3), none, some (.ref lw), none, some (.ref 822), some (.ref 0)]⟩
noncomputable def SLl : Array (Option Value) := ⟨[some (.ref 833), some (.ref 3), none, some .notImplemented, none, some (.ref 834), some (.ref 0)]⟩
/-- the entries of a frame and their count -/
structure Ents where
  es : List DictEntry
  n : Nat
noncomputable def FRM (d : Ents) (sl : Array (Option Value)) : Obj := ⟨.type "frame", none, .dict ⟨d.es⟩ d.n, sl⟩
/-- a list with one more -/
noncomputable def LSTP0 (items : List Value) (m : Nat) (v : Value) : Obj := Obj.mapSeq (fun x => x.push v) (LST items m)
theorem LSTP0_r : @LSTP0 = @LSTP0 := rfl
lay_quick Mine.LSTP0
name_quick LSTPq for Mine.LSTP0 by Mine.LSTP0_r
noncomputable def LSTP (items : List Value) (m : Nat) (v : Value) : Obj := PySem.W.Fast.LSTPq items m v
theorem LSTP_is (items : List Value) (m : Nat) (v : Value) : LSTP items m v = LST (items ++ [v]) (m + 1) := by
  unfold LSTP
  rw [← PySem.W.Fast.LSTPq_eq]
  unfold LSTP0 LST Obj.mapSeq
  simp
noncomputable def pRS : Pos := ⟨732, 12, 732, 31⟩
noncomputable def blNX (st : Nat → Nat) (pp : Nat → Pos) (p : Pos) (l it : Nat) : List (Code × Pos) := (cEX l it, p) :: (cTL it, pp 5) :: blLR st pp
noncomputable def STOP (x : Nat) : Obj := ⟨.type "StopIteration", none, .fields ⟨[.ref x, .none, .none, .none, .bool false, .none]⟩, ⟨[]⟩⟩
noncomputable def swV0 (bl : List (Code × Pos)) (k : Nat) (x y z : Nat) (e : Env) (es : List Env) (pl : List Value) : Swap := ⟨some bl, [(k, STOP x)], leave0 e y, leave1 z es pl y⟩
theorem swV0_r : @swV0 = @swV0 := rfl
lay_quick Mine.swV0
name_quick swVq for Mine.swV0 by Mine.swV0_r
noncomputable abbrev swV (bl : List (Code × Pos)) (k : Nat) (x y z : Nat) (e : Env) (es : List Env) (pl : List Value) : Swap := PySem.W.Fast.swVq bl k x y z e es pl
theorem swV_ok {W : Wd} {ρ' : Nat → Nat} {bl : List (Code × Pos)} {k : Nat} {x y z : Nat} {e : Env} {es : List Env} {pl : List Value} (h : SwapI W ρ' (swV0 bl k x y z e es pl)) : SwapI W ρ' (swV bl k x y z e es pl) := by
  rw [PySem.W.Fast.swVq_eq] at h
  exact h

noncomputable def EXq (w : World) (a st : Nat → Nat) (L : Lx) (pp : Nat → Pos) (p : Pos) (ts tp n m : Nat) (pos pos' : Int) (T : List Nat) (pb : Option Nat) (D items : List Value) (v : Value) : Fr :=
  frC ((cTL (a 1), pp 5) :: blLR st pp) (cEX (a 5) (a 1)) p 8 (LE w.params L a (.str (s [32]) ts) v pos tp D n (LST items m))
    [.use 11 9 fun ρ τ => whUse w.params (L.at ρ) (fun i => ρ (nthN [0, 1, 2, 3, 4, 10] i)) (blRT st (ppX pp p) (ρ 5) (ρ 1) (ρ 8) (ρ 9) (ρ 10)) [0, 1, 2, 3, 4, 10] (.str (s [32]) ts) v pos tp D n (nthN [τ 5, τ 6, τ 8]) (τ 7) T true pb pos',
     .swap 11 36 fun ρ τ => swL 5 (ρ 5) (LSTP items m (.str ⟨⟨T⟩⟩ (τ 10))) (again (cEX (ρ 5) (ρ 1)))]
    [] (391) (276656219446985473383825246534860419519715311707590770642517870288648106850821410346176147748815975015777197282715704331848884094284396573231100058947177813546725747141335810252116706322094971882703527137029475049588588143474861089286337536647166172616339198289073202442317580243977929961816787090452994830483956383602858513852093107468135183775631534959226450260087832150532905110725577053074497951881771038709117649119834356118094521543820952499673244447951886983950315325671487483981644271257613424503387069870108222771515130628416891351459960679123575326627489170249378988146575894047827115688914534567217371807303082393244332616154791125189551482606984651249129366183093397216316595508223244589538780941123588) (fun _ _ => .inl (.again (cEX (a 5) (a 1)), p)) (fun _ τ => (LE w.params L a (afterS (τ 9) pb) (.str (s []) (τ 23)) pos' (τ 11) (pbL (τ 12) pb) (τ 13) (LSTP items m (.str ⟨⟨T⟩⟩ (τ 10))))) (fun _ _ => [])
theorem EXq_n (w : World) (a st : Nat → Nat) (L : Lx) (pp : Nat → Pos) (p : Pos) (ts tp n m : Nat) (pos pos' : Int) (T : List Nat) (pb : Option Nat) (D items : List Value) (v : Value) : (EXq w a st L pp p ts tp n m pos pos' T pb D items v).SpecN w a := Fr.specN fun ρ τ => by kernel_rfl

noncomputable def EXu (w : World) (a st : Nat → Nat) (L : Lx) (pp : Nat → Pos) (p : Pos) (ts tp n m : Nat) (pos pos' : Int) (T : List Nat) (pb : Option Nat) (D items : List Value) (v : Value) : Fr :=
  frC ((cTL (a 1), pp 5) :: blLR st pp) (cEX (a 5) (a 1)) p 8 (LE w.params L a (.str (s [32]) ts) v pos tp D n (LST items m))
    [.use 11 9 fun ρ τ => whUse w.params (L.at ρ) (fun i => ρ (nthN [0, 1, 2, 3, 4, 10] i)) (blRT st (ppX pp p) (ρ 5) (ρ 1) (ρ 8) (ρ 9) (ρ 10)) [0, 1, 2, 3, 4, 10] (.str (s [32]) ts) v pos tp D n (nthN [τ 5, τ 6, τ 8]) (τ 7) T false pb pos', .fn "str.__eq__" [.str ⟨⟨T⟩⟩, .str (s [])] (.bool false),
     .swap 11 38 fun ρ τ => swL 5 (ρ 5) (LSTP items m (.str ⟨⟨T⟩⟩ (τ 10))) (again (cEX (ρ 5) (ρ 1)))]
    [] (397) (297057353689950453492651972311590706440504322753637068715262789996328424744147877043355648309107158853779036587951004042724122099761515951280510950820450225169993212963300698696625692107158586610562799279347526481507741082759471044156938924879195050616166902973607139659935333398435227532945407005150793124083085402258477251401389025446228877435762343856796865217406431755343608181787459154245169766024157414448204989426269783474145290205531842664474069592116775249972023356906469731867653572373038217480835689038262507769471869271217250167708477215444810219737072962268932707236661735168998189064464413368444702450636924616663677135942531052844203507739169507749715604450055580470102743434372655875023558716448160064995332) (fun _ _ => .inl (.again (cEX (a 5) (a 1)), p)) (fun _ τ => (LE w.params L a (afterS (τ 9) pb) (.str (s []) (τ 23)) pos' (τ 11) (pbL (τ 12) pb) (τ 13) (LSTP items m (.str ⟨⟨T⟩⟩ (τ 10))))) (fun _ _ => [])
theorem EXu_n (w : World) (a st : Nat → Nat) (L : Lx) (pp : Nat → Pos) (p : Pos) (ts tp n m : Nat) (pos pos' : Int) (T : List Nat) (pb : Option Nat) (D items : List Value) (v : Value) : (EXu w a st L pp p ts tp n m pos pos' T pb D items v).SpecN w a := Fr.specN fun ρ τ => by kernel_rfl

noncomputable def EXa (w : World) (a st : Nat → Nat) (L : Lx) (pp : Nat → Pos) (p : Pos) (tp n m : Nat) (pos : Int) (items : List Value) (v : Value) (d8 d9 : Ents) : Fr :=
  frC ((cTL (a 1), pp 5) :: blLR (upd (upd st 3 (a 8)) 1 (a 9)) pp) (cEX (a 5) (a 1)) p 10 (LE w.params L a .none v pos tp [] n (LST items m) ++ [FRM d8 ⟨[]⟩, FRM d9 ⟨[]⟩])
    [.use 13 9 fun ρ τ => whUse w.params (L.at ρ) (fun i => ρ (nthN [0, 1, 2, 3, 4, 12] i)) (blRT (upd (upd st 3 (ρ 8)) 1 (ρ 9)) (ppX pp p) (ρ 5) (ρ 1) (ρ 10) (ρ 11) (ρ 12)) [0, 1, 2, 3, 4, 12] .none v pos tp [] n (nthN [τ 5, τ 6, τ 8]) (τ 7) [] false none pos,
     .swap 16 40 fun ρ τ => swV ((cNX (ρ 10), pRS) :: blNX (upd (upd st 3 (ρ 8)) 1 (ρ 9)) pp p (ρ 5) (ρ 1)) 14 (ρ 15) (ρ 14) (ρ 10) (eNX (ρ 10)) [eNX (ρ 10), eLR (ρ 8), eLW (ρ 9)] (place1 pRS (blNX (upd (upd st 3 (ρ 8)) 1 (ρ 9)) pp p (ρ 5) (ρ 1)))]
    [] (472) (940905556933557468414013241537797730699972670428904112622552895908746536142299282990529188749166506744385702008454462857843725775297993419061086590659750427173506343014880147668469385851964013618587486163182229236451189466594061595226246778484441525095461480392649728777614099813586849702688709900895037128217539052796831385760450230666995332341375122414792783298347805839113468032729606116147042865954391660801758391941535265614019060478400300564969171812028840700268423787326227828863332392730058723158257556459467799783517152332841158416815764358160277824668554930439079085754004687002029176918810939168323995086280795169381957276239679003508118485913929377188936797317374052590197630157736378156240818455360993751682364369213491324168573572851883464251544527587312569905671381098371780963824760164520836092684116204540148839023165980967855620423930244128460242948) (fun _ _ => .inl (.done (.ret .none), p)) (fun _ τ => (LE w.params L a .none (.str (s []) (τ 23)) pos (τ 11) [] (τ 13) (LST items m) ++ [FRM d8 (SLr (a 9)), FRM d9 SLl])) (fun _ _ => [])
theorem EXa_n (w : World) (a st : Nat → Nat) (L : Lx) (pp : Nat → Pos) (p : Pos) (tp n m : Nat) (pos : Int) (items : List Value) (v : Value) (d8 d9 : Ents) : (EXa w a st L pp p tp n m pos items v d8 d9).SpecN w a := Fr.specN fun ρ τ => by kernel_rfl

noncomputable def EXb (w : World) (a st : Nat → Nat) (L : Lx) (pp : Nat → Pos) (p : Pos) (tp n m : Nat) (pos : Int) (items : List Value) (v : Value) (d8 d9 : Ents) : Fr :=
  frC ((cTL (a 1), pp 5) :: blLR (upd (upd st 3 (a 8)) 1 (a 9)) pp) (cEX (a 5) (a 1)) p 10 (LE w.params L a .none v pos tp [] n (LST items m) ++ [FRM d8 (SLr (a 9)), FRM d9 SLl])
    [.use 13 9 fun ρ τ => whUse w.params (L.at ρ) (fun i => ρ (nthN [0, 1, 2, 3, 4, 12] i)) (blRT (upd (upd st 3 (ρ 8)) 1 (ρ 9)) (ppX pp p) (ρ 5) (ρ 1) (ρ 10) (ρ 11) (ρ 12)) [0, 1, 2, 3, 4, 12] .none v pos tp [] n (nthN [τ 5, τ 6, τ 8]) (τ 7) [] false none pos,
     .swap 16 40 fun ρ τ => swV ((cNX (ρ 10), pRS) :: blNX (upd (upd st 3 (ρ 8)) 1 (ρ 9)) pp p (ρ 5) (ρ 1)) 14 (ρ 15) (ρ 14) (ρ 10) (eNX (ρ 10)) [eNX (ρ 10), eLR (ρ 8), eLW (ρ 9)] (place1 pRS (blNX (upd (upd st 3 (ρ 8)) 1 (ρ 9)) pp p (ρ 5) (ρ 1)))]
    [] (468) (876286585753371443984312992163089691624717504383642876820164437768757377471074946993622368738039924858309544677555595668147117792308975158284165464359905068434012696886685700759175543872017604803170049688985355798750665969567474126825817214055889064291817911830068662059714934814799549968228732607868326234317893845182088207377676561593740781381737691826314835840715593470922410460035083525075893091899616324075998497485354702254151961887024568972008839618946720184187456983587986498334955505395652971357176171918146913978485637363522912898881732678162599428062171467436757103783789379288737354877445802788164784037244895207633002586129581648701726777730943949857205331233176521481160954164097501842860838616030414322770016797259846071186568178431734772580177815601948893728763811328200396040222718763535594830269296791302999766947463421144991249473027964932) (fun _ _ => .inl (.done (.ret .none), p)) (fun _ τ => (LE w.params L a .none (.str (s []) (τ 23)) pos (τ 11) [] (τ 13) (LST items m) ++ [FRM d8 (SLr (a 9)), FRM d9 SLl])) (fun _ _ => [])
theorem EXb_n (w : World) (a st : Nat → Nat) (L : Lx) (pp : Nat → Pos) (p : Pos) (tp n m : Nat) (pos : Int) (items : List Value) (v : Value) (d8 d9 : Ents) : (EXb w a st L pp p tp n m pos items v d8 d9).SpecN w a := Fr.specN fun ρ τ => by kernel_rfl

noncomputable def EXc (w : World) (a st : Nat → Nat) (L : Lx) (pp : Nat → Pos) (p : Pos) (tp n m : Nat) (pos : Int) (items : List Value) (v : Value) (d8 d9 : Ents) : Fr :=
  frC ((cTL (a 1), pp 5) :: blLR (upd (upd st 3 (a 8)) 1 (a 9)) pp) (cEX (a 5) (a 1)) p 10 (LE w.params L a .none v pos tp [] n (LST items m) ++ [FRM d8 ⟨[]⟩, FRM d9 SLl])
    [.use 13 9 fun ρ τ => whUse w.params (L.at ρ) (fun i => ρ (nthN [0, 1, 2, 3, 4, 12] i)) (blRT (upd (upd st 3 (ρ 8)) 1 (ρ 9)) (ppX pp p) (ρ 5) (ρ 1) (ρ 10) (ρ 11) (ρ 12)) [0, 1, 2, 3, 4, 12] .none v pos tp [] n (nthN [τ 5, τ 6, τ 8]) (τ 7) [] false none pos,
     .swap 16 40 fun ρ τ => swV ((cNX (ρ 10), pRS) :: blNX (upd (upd st 3 (ρ 8)) 1 (ρ 9)) pp p (ρ 5) (ρ 1)) 14 (ρ 15) (ρ 14) (ρ 10) (eNX (ρ 10)) [eNX (ρ 10), eLR (ρ 8), eLW (ρ 9)] (place1 pRS (blNX (upd (upd st 3 (ρ 8)) 1 (ρ 9)) pp p (ρ 5) (ρ 1)))]
    [] (470) (918853082942927215248059058558645751718639187270232105781785312641593993294580957353963680910306885569095654508068211613890704321896510276458476066269301849918221896934229474559908128882038905284368448626250645868470594018427772964465970450344911380431996272638374265077456487163749384214811952499928406050305076767308095889453247308666182530537368392243442428990773002440696021618062623326020490102602295937007874682719598737191836103674426514837882376671567392225276950672875913215058360572656863419825461349754320794587648824493206752230086062778705297415517745557236364711126448217626298746014235781463686777710452448281394503423456525875395806325163186789778528172629426487030118574102946892910263395593681570831560316342808382318903535257120850923625343911390289271182168197082967881754772209752664728477024156270345034585103134252559840622894256112957128708) (fun _ _ => .inl (.done (.ret .none), p)) (fun _ τ => (LE w.params L a .none (.str (s []) (τ 23)) pos (τ 11) [] (τ 13) (LST items m) ++ [FRM d8 (SLr (a 9)), FRM d9 SLl])) (fun _ _ => [])
theorem EXc_n (w : World) (a st : Nat → Nat) (L : Lx) (pp : Nat → Pos) (p : Pos) (tp n m : Nat) (pos : Int) (items : List Value) (v : Value) (d8 d9 : Ents) : (EXc w a st L pp p tp n m pos items v d8 d9).SpecN w a := Fr.specN fun ρ τ => by kernel_rfl

end Mine
end
section -- Ls
open PySem PySem.W PyProof.Rows PySem.Calls
set_option Elab.async false
set_option linter.unusedVariables false
set_option maxRecDepth 100000
set_option maxHeartbeats 0
namespace Mine
variable {W : Wd}
theorem nth_app_l : ∀ (l m : List Obj) (i : Nat), i < l.length → nth (l ++ m) i = nth l i
  | [], _, _, h => absurd h (Nat.not_lt_zero _)
  | x :: l, m, 0, _ => rfl
  | x :: l, m, i + 1, h => nth_app_l l m i (Nat.lt_of_succ_lt_succ h)
theorem nth_app_r : ∀ (l m : List Obj) (i : Nat), nth (l ++ m) (l.length + i) = nth m i
  | [], m, i => by simp
  | x :: l, m, i => by
    rw [List.length_cons, show l.length + 1 + i = (l.length + i) + 1 by omega]
    exact nth_app_r l m i
theorem Given.left {a : Nat → Nat} {l m : List Obj} {h : Heap} (G : Given W a (l ++ m) h) : Given W a l h := by
  have hl : ∀ i, i < l.length → i < (l ++ m).length := fun i hi => by rw [List.length_append]; omega
  exact ⟨G.top, G.big, fun i hi => by rw [G.at_ i (hl i hi), nth_app_l l m i hi], fun i hi => G.ge i (hl i hi), fun i j hi hj e => G.inj i j (hl i hi) (hl j hj) e⟩
/-- what is given beyond stays -/
theorem Nx.more {a : Nat → Nat} {l l' m : List Obj} {h h' : Heap} {g : Nat} (G : Given W a (l ++ m) h) (N : Nx W l.length a l' h h') (hg : g = l.length + m.length) : Nx W g a (l' ++ m) h h' := by
  have hl := N.len
  have hlt : ∀ i, l.length ≤ i → i < l.length + m.length → h'.get? (a i) = some (nth (l' ++ m) i) := fun i h1 h2 => by
    have e : nth (l' ++ m) i = nth (l ++ m) i := by
      obtain ⟨j, rfl⟩ : ∃ j, i = l.length + j := ⟨i - l.length, by omega⟩
      rw [nth_app_r l m j]
      rw [← hl]
      exact nth_app_r l' m j
    rw [e]
    refine N.keep _ _ (G.at_ i (by rw [List.length_append]; exact h2)) fun j hj z => ?_
    have := G.inj i j (by rw [List.length_append]; exact h2) (by rw [List.length_append]; omega) z
    omega
  refine ⟨⟨N.given.top, N.given.big, fun i hi => ?_, fun i hi => ?_, fun i j hi hj e => ?_⟩, by rw [List.length_append, hl, hg], N.size, fun b o e q => N.keep b o e fun i hi => q i (by omega)⟩
  · rw [List.length_append, hl] at hi
    by_cases c : i < l.length
    · rw [N.given.at_ i (by rw [hl]; exact c), nth_app_l l' m i (by rw [hl]; exact c)]
    · exact hlt i (by omega) hi
  · rw [List.length_append, hl] at hi
    exact G.ge i (by rw [List.length_append]; exact hi)
  · rw [List.length_append, hl] at hi hj
    exact G.inj i j (by rw [List.length_append]; exact hi) (by rw [List.length_append]; exact hj) e
theorem nthN_ge : ∀ (l : List Nat) (j : Nat), l.length ≤ j → nthN l j = 0
  | [], _, _ => rfl
  | x :: l, 0, h => absurd h (by simp)
  | x :: l, j + 1, h => nthN_ge l j (Nat.le_of_succ_le_succ h)
theorem drop_at {X r : List Nat} {k : Nat} (h : X.drop k = r) (hk : k ≤ X.length) : k = X.length - r.length := by
  have := congrArg List.length h
  rw [List.length_drop] at this
  omega
/-- the while of read_token, answered -/
theorem wh_spec (w : World) (S : Shared) {ρ st : Nat → Nat} {L : Lx} {pp : Nat → Pos} {keys : List Nat} {fnx fg l ts tp tc n k te : Nat} {k3 : Nat → Nat} {v : Value} {pb : Option Nat} {r : List Nat} {o : List Nat × Bool × Option Nat × List Nat} (hX : L.X.length < sizeLine) (X : Rtok pb r o)
    (hk : L.X.drop k = r) (hk' : k ≤ L.X.length) (nd : keys.Nodup) (hl : keys.length = 6) :
    SpecI (WD w S) ρ (whUse w.params L (fun i => ρ (nthN keys i)) (blRT st pp l (ρ (nthN keys 1)) fnx fg (ρ (nthN keys 5))) keys (.str (s [32]) ts) v (k : Int) tp (pbL tc pb) n k3 te o.1 o.2.1 o.2.2.1 ((L.X.length - o.2.2.2.length : Nat) : Int)) := by
  refine spec_mk nd hl (fun _ => rfl) fun Γ p h tk R hc hbl G fin => ?_
  rw [hbl _ rfl]
  refine word (a := fun i => ρ (nthN keys i)) hX X ts tp tc n k te k3 v p h tk hk hk' G fun ts' tt' tp' tc' n' k' e' te' tn' k3' h' tk' q q' N => ?_
  rw [drop_at q q'] at N
  exact fin (nthN [ts', tt', tp', tc', n', k3' 0, k3' 1, k3' 2, k3' 3, e', te', tn']) h' tk' (fun j hj => nthN_ge _ j hj) N
theorem wh_none (w : World) (S : Shared) {ρ st : Nat → Nat} {L : Lx} {pp : Nat → Pos} {keys : List Nat} {fnx fg l tp n te : Nat} {k3 : Nat → Nat} {v : Value} (hX : L.X.length ≤ sizeLine) (nd : keys.Nodup) (hl : keys.length = 6) :
    SpecI (WD w S) ρ (whUse w.params L (fun i => ρ (nthN keys i)) (blRT st pp l (ρ (nthN keys 1)) fnx fg (ρ (nthN keys 5))) keys .none v (L.X.length : Int) tp [] n k3 te [] false none (L.X.length : Int)) := by
  refine spec_mk nd hl (fun _ => rfl) fun Γ p h tk R hc hbl G fin => ?_
  rw [hbl _ rfl]
  refine noword (a := fun i => ρ (nthN keys i)) hX tp n te k3 v p h tk G fun ts' tt' tp' tc' n' k' e' te' tn' k3' h' tk' q q' N => ?_
  rw [drop_at q q'] at N
  exact fin (nthN [ts', tt', tp', tc', n', k3' 0, k3' 1, k3' 2, k3' 3, e', te', tn']) h' tk' (fun j hj => nthN_ge _ j hj) N
/-- the words of a text, to its end -/
inductive Words : Option Nat → List Nat → List (List Nat) → Prop
  | last {pb r T b} : Rtok pb r (T, b, none, []) → Words pb r [T]
  | more {pb r T b x r' l} : Rtok pb r (T, b, some x, r') → Words (some x) r' l → Words pb r (T :: l)
theorem Lex.ne {m : Md} {T : List Nat} {b : Bool} {r : List Nat} {o : List Nat × Bool × Option Nat × List Nat} (h : Lex m T b r o) (hT : T ≠ []) : o.1 ≠ [] := by
  induction h with
  | eofA | eofC | punA | worC => exact hT
  | quoA _ ih | cloQ _ ih | escQ _ ih => exact ih hT
  | worA _ _ ih | othQ _ _ ih | punC _ _ ih => exact ih (by simp)
  | quoE _ ih | bacE _ ih => exact ih (by simp)
theorem Rtok.ne {pb : Option Nat} {r : List Nat} {o : List Nat × Bool × Option Nat × List Nat} (h : Rtok pb r o) : o.1 ≠ [] := by
  cases h with
  | read _ h | popW _ h | popP _ h => exact h.ne (by simp)
theorem Lex.len {m : Md} {T : List Nat} {b : Bool} {r : List Nat} {o : List Nat × Bool × Option Nat × List Nat} (h : Lex m T b r o) : o.2.2.2.length ≤ r.length := by
  induction h with
  | eofA | eofC => exact Nat.le_refl _
  | punA | worC => exact Nat.le_succ _
  | quoA _ ih | cloQ _ ih | escQ _ ih | quoE _ ih | bacE _ ih | worA _ _ ih | othQ _ _ ih | punC _ _ ih => exact Nat.le_succ_of_le ih
theorem Lex.suf {m : Md} {T : List Nat} {b : Bool} {r : List Nat} {o : List Nat × Bool × Option Nat × List Nat} (h : Lex m T b r o) : o.2.2.2 = r.drop (r.length - o.2.2.2.length) := by
  have hl := h.len
  induction h with
  | eofA | eofC => rfl
  | punA | worC => simp
  | quoA h ih | cloQ h ih | escQ h ih | quoE h ih | bacE h ih | worA _ h ih | othQ _ h ih | punC _ h ih =>
    have := h.len
    rw [List.length_cons, Nat.succ_sub this]
    exact ih this
theorem Rtok.suf {X r : List Nat} {pb : Option Nat} {o : List Nat × Bool × Option Nat × List Nat} (h : Rtok pb r o) {k : Nat} (hk : X.drop k = r) (hk' : k ≤ X.length) : X.drop (X.length - o.2.2.2.length) = o.2.2.2 ∧ o.2.2.2.length ≤ r.length := by
  have key : o.2.2.2 = r.drop (r.length - o.2.2.2.length) ∧ o.2.2.2.length ≤ r.length := by
    cases h with
    | read _ h =>
      have := h.len
      refine ⟨?_, Nat.le_succ_of_le this⟩
      rw [List.length_cons, Nat.succ_sub this]
      exact h.suf
    | popW _ h | popP _ h => exact ⟨h.suf, h.len⟩
  refine ⟨?_, key.2⟩
  rw [key.1]
  have hl : r.length = X.length - k := by rw [← hk, List.length_drop]
  have h2 := key.2
  rw [← hk, List.drop_drop]
  congr 1
  rw [List.length_drop, List.length_drop]
  omega
noncomputable def mkS (l : List Nat) : Str := ⟨⟨l⟩⟩
noncomputable def SlotsOk (lw : Nat) (s8 s9 : Array (Option Value)) : Prop := (s8 = ⟨[]⟩ ∧ s9 = ⟨[]⟩) ∨ (s8 = SLr lw ∧ s9 = SLl) ∨ (s8 = ⟨[]⟩ ∧ s9 = SLl)
theorem eqS_nil {T : List Nat} (h : T ≠ []) : eqS ⟨⟨T⟩⟩ (s []) = false := by
  cases T with
  | nil => exact absurd rfl h
  | cons x l => rfl
/-- one word more -/
theorem ex_word {w : World} {S : Shared} {a st : Nat → Nat} {L : Lx} {pp : Nat → Pos} (hX : L.X.length < sizeLine) {R : Result → Shared → Prop} {pb : Option Nat} {r : List Nat} {o : List Nat × Bool × Option Nat × List Nat} (X : Rtok pb r o)
    (ts tp tc n k m : Nat) (items : List Value) (v : Value) (p : Pos) (h : Heap) (tk : Nat) (hk : L.X.drop k = r) (hk' : k ≤ L.X.length) (hi : items.length < sizeLine)
    (G : Given (WD w S) a (LE w.params L a (.str (s [32]) ts) v (k : Int) tp (pbL tc pb) n (LST items m)) h)
    (F : ∀ ts' tt' tp' tc' n' v' h' tk', Nx (WD w S) 8 a (LE w.params L a (afterS ts' o.2.2.1) v' ((L.X.length - o.2.2.2.length : Nat) : Int) tp' (pbL tc' o.2.2.1) n' (LST (items ++ [.str ⟨⟨o.1⟩⟩ tt']) (m + 1))) h h' →
      wpCode (model pwR w) ⟨cEX (a 5) (a 1), none, none, (cTL (a 1), pp 5) :: blLR st pp, none⟩ R p ((WD w S).sh h' tk')) :
    wpCode (model pwR w) ⟨cEX (a 5) (a 1), none, none, (cTL (a 1), pp 5) :: blLR st pp, none⟩ R p ((WD w S).sh h tk) := by
  have lk : ∀ (ρ τ : Nat → Nat) (t : Sem Fin), SwapI (WD w S) ρ (swL 5 (ρ 5) (LSTP items m (.str ⟨⟨o.1⟩⟩ (τ 10))) t) := fun ρ τ t => by
    rw [LSTP_is]
    exact swL_ok (swap_look (by simp; omega))
  obtain ⟨T, b, pb', r'⟩ := o
  cases b with
  | true =>
    refine EXq_n w a st L pp p ts tp n m k ((L.X.length - r'.length : Nat) : Int) T pb' (pbL tc pb) items v G ?_ fun τ h' tk' N => ?_
    · refine okc ?_ (okc ?_ ok0)
      · exact ok_mk (fun _ _ => rfl) fun ρ τ => wh_spec w S (L := L.at ρ) (st := st) (pp := ppX pp p) hX X hk hk' (by decide) rfl
      · exact fun ρ τ => lk ρ τ _
    · dsimp only [EXq, frC, frF] at N
      rw [LSTP_is] at N
      exact F _ _ _ _ _ _ h' tk' N
  | false =>
    refine EXu_n w a st L pp p ts tp n m k ((L.X.length - r'.length : Nat) : Int) T pb' (pbL tc pb) items v G ?_ fun τ h' tk' N => ?_
    · refine okc ?_ (okc ?_ (okc ?_ ok0))
      · exact ok_mk (fun _ _ => rfl) fun ρ τ => wh_spec w S (L := L.at ρ) (st := st) (pp := ppX pp p) hX X hk hk' (by decide) rfl
      · exact fn_eq w S (eqS_nil X.ne)
      · exact fun ρ τ => lk ρ τ _
    · dsimp only [EXu, frC, frF] at N
      rw [LSTP_is] at N
      exact F _ _ _ _ _ _ h' tk' N
theorem outer_is (st : Nat → Nat) (pp : Nat → Pos) (p : Pos) (l it : Nat) : ((blNX st pp p l it).filter (·.1.isFrame)).filterMap (·.1.env?) = [eLR (st 3), eLW (st 1)] := by kernel_rfl
noncomputable abbrev stX (a st : Nat → Nat) : Nat → Nat := upd (upd st 3 (a 8)) 1 (a 9)
/-- no word more -/
theorem ex_end {w : World} {S : Shared} {a st : Nat → Nat} {L : Lx} {pp : Nat → Pos} (hX : L.X.length ≤ sizeLine) {R : Result → Shared → Prop} (tp n m : Nat) (items : List Value) (v : Value) (d8 d9 : Ents) (s8 s9 : Array (Option Value)) (hs : SlotsOk (a 9) s8 s9) (p : Pos) (h : Heap) (tk : Nat)
    (G : Given (WD w S) a (LE w.params L a .none v (L.X.length : Int) tp [] n (LST items m) ++ [FRM d8 s8, FRM d9 s9]) h)
    (F : ∀ tp' n' tv' h' tk', Nx (WD w S) 10 a (LE w.params L a .none (.str (s []) tv') (L.X.length : Int) tp' [] n' (LST items m) ++ [FRM d8 (SLr (a 9)), FRM d9 SLl]) h h' → R (.ok (.ret .none)) ((WD w S).sh h' tk')) :
    wpCode (model pwR w) ⟨cEX (a 5) (a 1), none, none, (cTL (a 1), pp 5) :: blLR (stX a st) pp, none⟩ R p ((WD w S).sh h tk) := by
  rcases hs with ⟨rfl, rfl⟩ | ⟨rfl, rfl⟩ | ⟨rfl, rfl⟩
  · refine EXa_n w a st L pp p tp n m L.X.length items v d8 d9 G ?_ fun τ h' tk' N => F _ _ _ h' tk' N
    refine okc ?_ (okc ?_ ok0)
    · exact ok_mk (fun _ _ => rfl) fun ρ τ => wh_none w S (L := L.at ρ) hX (by decide) rfl
    · exact fun ρ τ => swV_ok <| swap_leave rfl (outer_is _ _ _ _ _) rfl
  · refine EXb_n w a st L pp p tp n m L.X.length items v d8 d9 G ?_ fun τ h' tk' N => F _ _ _ h' tk' N
    refine okc ?_ (okc ?_ ok0)
    · exact ok_mk (fun _ _ => rfl) fun ρ τ => wh_none w S (L := L.at ρ) hX (by decide) rfl
    · exact fun ρ τ => swV_ok <| swap_leave rfl (outer_is _ _ _ _ _) rfl
  · refine EXc_n w a st L pp p tp n m L.X.length items v d8 d9 G ?_ fun τ h' tk' N => F _ _ _ h' tk' N
    refine okc ?_ (okc ?_ ok0)
    · exact ok_mk (fun _ _ => rfl) fun ρ τ => wh_none w S (L := L.at ρ) hX (by decide) rfl
    · exact fun ρ τ => swV_ok <| swap_leave rfl (outer_is _ _ _ _ _) rfl
/-- all the words of what is left -/
theorem ex_all {w : World} {S : Shared} {a st : Nat → Nat} {L : Lx} {pp : Nat → Pos} (hX : L.X.length < sizeLine) {R : Result → Shared → Prop} (d8 d9 : Ents) (s8 s9 : Array (Option Value)) (hs : SlotsOk (a 9) s8 s9) (p : Pos) {pb : Option Nat} {r : List Nat} {ws : List (List Nat)} (X : Words pb r ws) :
    ∀ (ts tp tc n k m : Nat) (items : List Value) (v : Value) (h : Heap) (tk : Nat), L.X.drop k = r → k ≤ L.X.length → items.length + ws.length < sizeLine →
      Given (WD w S) a (LE w.params L a (.str (s [32]) ts) v (k : Int) tp (pbL tc pb) n (LST items m) ++ [FRM d8 s8, FRM d9 s9]) h →
      (∀ tp' n' m' tv' vals h' tk', StrsAre vals (ws.map mkS) → Nx (WD w S) 10 a (LE w.params L a .none (.str (s []) tv') (L.X.length : Int) tp' [] n' (LST (items ++ vals) m') ++ [FRM d8 (SLr (a 9)), FRM d9 SLl]) h h' → R (.ok (.ret .none)) ((WD w S).sh h' tk')) →
      wpCode (model pwR w) ⟨cEX (a 5) (a 1), none, none, (cTL (a 1), pp 5) :: blLR (stX a st) pp, none⟩ R p ((WD w S).sh h tk) := by
  induction X with
  | @last pb r T b X =>
    intro ts tp tc n k m items v h tk hk hk' hi G F
    refine ex_word hX X ts tp tc n k m items v p h tk hk hk' (by simp at hi; omega) G.left fun ts' tt' tp' tc' n' v' h' tk' N => ?_
    have N' := Nx.more (g := 10) G N rfl
    refine ex_end (Nat.le_of_lt hX) _ _ _ _ _ d8 d9 s8 s9 hs p h' tk' N'.given fun tp2 n2 v2 h2 tk2 N2 => ?_
    exact F _ _ _ _ [.str ⟨⟨T⟩⟩ tt'] h2 tk2 (.cons _ _ .nil) (N'.trans N2)
  | @more pb r T b x r' l X _ ih =>
    intro ts tp tc n k m items v h tk hk hk' hi G F
    obtain ⟨s1, s2⟩ := X.suf hk hk'
    refine ex_word hX X ts tp tc n k m items v p h tk hk hk' (by simp at hi; omega) G.left fun ts' tt' tp' tc' n' v' h' tk' N => ?_
    have N' := Nx.more (g := 10) G N rfl
    refine ih ts' tp' tc' n' (L.X.length - r'.length) (m + 1) (items ++ [Value.str (⟨⟨T⟩⟩ : Str) tt']) v' h' tk' s1 (Nat.sub_le _ _) (by simp at hi ⊢; omega) N'.given fun tp2 n2 m2 v2 vals h2 tk2 hv N2 => ?_
    rw [List.append_assoc] at N2
    exact F _ _ _ _ _ h2 tk2 (.cons _ _ hv) (N'.trans N2)
end Mine
end
section -- Ls2
open PySem PySem.W PyProof.Rows PySem.Calls
set_option Elab.async false
set_option linter.unusedVariables false
set_option maxRecDepth 100000
set_option maxHeartbeats 0
namespace Mine
/-- words as values, with their tokens -/
noncomputable def strsR : List (List Nat) → List Nat → List Value
  | [], _ => []
  | x :: l, ts => match ts with
    | [] => []
    | t :: ts => .str ⟨⟨x⟩⟩ t :: strsR l ts
noncomputable abbrev strsL (ts : List Nat) (ws : List (List Nat)) : List Value := strsR ws ts
/-- n tokens from i on -/
noncomputable def tkl (θ : Nat → Nat) : Nat → Nat → List Nat
  | _, 0 => []
  | i, n + 1 => θ i :: tkl θ (i + 1) n
noncomputable def strsT (θ : Nat → Nat) (ws : List (List Nat)) : List Value := strsL (tkl θ 4 60) ws
noncomputable def tokOf : Value → Nat
  | .str _ t => t
  | _ => 0
theorem strsL_of : ∀ {ws : List (List Nat)} {vals : List Value}, StrsAre vals (ws.map mkS) → ∀ (θ : Nat → Nat) (i n : Nat), vals.length ≤ n → (∀ j, j < vals.length → θ (i + j) = nthN (vals.map tokOf) j) → vals = strsL (tkl θ i n) ws
  | [], _, .nil, _, _, _, _, _ => rfl
  | x :: ws, _, .cons _ t h, θ, i, 0, hn, H => absurd hn (by simp)
  | x :: ws, _, .cons _ t h, θ, i, n + 1, hn, H => by
    have h0 : θ i = t := H 0 (Nat.succ_pos _)
    show _ = .str (mkS x) (θ i) :: strsL (tkl θ (i + 1) n) ws
    rw [h0, ← strsL_of h θ (i + 1) n (by simpa using hn) fun j hj => ?_]
    have := H (j + 1) (Nat.succ_lt_succ hj)
    rw [show i + (j + 1) = i + 1 + j by omega] at this
    exact this
theorem strs_len : ∀ {ws : List (List Nat)} {vals : List Value}, StrsAre vals (ws.map mkS) → vals.length = ws.length
  | [], _, .nil => rfl
  | x :: ws, _, .cons _ t h => congrArg Nat.succ (strs_len h)
noncomputable def ext1 (l it : Nat) : Sem Fin := do
  let iter ← pyIter (.ref it)
  let room ← holding [iter] (Builtin.List.listLengthHint (.ref it))
  if room then
    rule "list.extend.makes-room"
    Builtin.List.listTouch (.ref l)
  again (.builtin "list.extend.loop" ⟨[.ref l, iter, .none], []⟩)
theorem swap_ext {W : Wd} {ρ : Nat → Nat} {i j d n c : Nat} {items : List Value} : SwapI W ρ ⟨none, [(i, inst c d), (j, LST items n)], Builtin.List.listExtendWith (.ref (ρ j)) (.ref (ρ i)) .none, ext1 (ρ j) (ρ i)⟩ := by
  intro Γ p h tk Q E top pre _ H
  have h1 : (W.sh h tk).heap.get? (ρ i) = some (inst c d) := pre (i, inst c d) (by simp)
  have h2 : (W.sh h tk).heap.get? (ρ j) = some (LST items n) := pre (j, LST items n) (by simp)
  have ne : ρ j ≠ ρ i := fun e => by
    rw [e, h1] at h2
    have := congrArg (fun x => x.map (·.cls)) h2
    simp [inst, LST] at this
  show Sem.wp W.M Γ (Builtin.List.listExtendWith (.ref (ρ j)) (.ref (ρ i)) .none) Q E p (W.sh h tk)
  unfold Builtin.List.listExtendWith
  rw [Sem.wp_bind']
  have ht : ∀ Q', Sem.wp W.M Γ (typeOf (.ref (ρ i))) Q' E p (W.sh h tk) = Q' (.ref c) p (W.sh h tk) := fun Q' => by
    unfold typeOf
    simp only [Sem.wp_bind']
    rw [Sem.wp_loadPart_of _ _ _ _ _ _ h1]
    rfl
  rw [ht]
  have hs : Builtin.List.listSameRef (.ref (ρ j)) (.ref (ρ i)) = false := by
    show (ρ j == ρ i) = false
    simpa using ne
  rw [hs]
  rw [if_neg (by simp)]
  unfold ext1 at H
  rw [Sem.wp_bind'] at H ⊢
  refine Sem.wp_mono _ _ _ (fun it p' s' h' => ?_) (fun _ _ _ h => h) _ _ H
  rw [Sem.wp_bind'] at h' ⊢
  refine Sem.wp_mono _ _ _ (fun room p2 s2 h2 => ?_) (fun _ _ _ h => h) _ _ h'
  cases room with
  | true => exact h2
  | false => exact h2
noncomputable def swX0 (x y d : Nat) : Swap := ⟨none, [(0, inst 740 d), (1, LST [] 0)], Builtin.List.listExtendWith (.ref y) (.ref x) .none, ext1 y x⟩
theorem swX0_r : @swX0 = @swX0 := rfl
lay_quick Mine.swX0
name_quick swXq for Mine.swX0 by Mine.swX0_r
noncomputable abbrev swX (x y d : Nat) : Swap := PySem.W.Fast.swXq x y d
theorem swX_ok {W : Wd} {ρ' : Nat → Nat} {x y d : Nat} (h : SwapI W ρ' (swX0 x y d)) : SwapI W ρ' (swX x y d) := by
  rw [PySem.W.Fast.swXq_eq] at h
  exact h

noncomputable def LI (w : World) (a st : Nat → Nat) (pp : Nat → Pos) (p : Pos) (d : Nat) : Fr :=
  frC ((cTL (a 0), pp 5) :: blLR st pp) (.call (.builtin "list.__init__") ⟨[.ref (a 1), .ref (a 0)], []⟩) p 2 [inst 740 d, LST [] 0]
    [.swap 2 0 fun ρ τ => swX (ρ 0) (ρ 1) d]
    [] (54) (2654562971447058890014950235524012560021400202402004752502576368957744253242627740646854153212230953150847392755440215396356) (fun _ _ => .inl (.again (cEX (a 1) (a 0)), p)) (fun _ _ => [inst 740 d, LST [] 2]) (fun _ _ => [])
theorem LI_n (w : World) (a st : Nat → Nat) (pp : Nat → Pos) (p : Pos) (d : Nat) : (LI w a st pp p d).SpecN w a := Fr.specN fun ρ τ => by kernel_rfl

end Mine
end
section -- Cn
open PySem PySem.W PyProof.Rows PySem.Calls
set_option Elab.async false
set_option linter.unusedVariables false
set_option maxRecDepth 100000
set_option maxHeartbeats 0
namespace Mine
noncomputable def cSX (X : List Nat) (tx tp : Nat) : Code := .call (.ref 740) ⟨[.str ⟨⟨X⟩⟩ tx], [((s [112, 111, 115, 105, 120]), .bool true), ((s [112, 117, 110, 99, 116, 117, 97, 116, 105, 111, 110, 95, 99, 104, 97, 114, 115]), .str PUNC tp)]⟩
/-- a lexer's tokens, from thirty-four -/
noncomputable def Lθ (θ : Nat → Nat) (tx tp : Nat) (X : List Nat) : Lx := ⟨θ, nthN [θ 20, θ 21, θ 22, θ 23, θ 24, θ 25, θ 26, θ 27, tp], nthN [θ 28, θ 29, θ 30], 0, 0, 762, tx, X⟩
/-- a lexer's objects, without the list -/
noncomputable def LE7 (P : Params) (L : Lx) (a : Nat → Nat) (state token : Value) (pos : Int) (tp : Nat) (n : Nat) : List Obj :=
  [SH P L.ks L.vs (a 3) (a 5) (a 6) (a 4) state token, inst 740 (a 0), IOD P L.k2 L.nl (.str ⟨⟨L.X⟩⟩ L.tx) (.int pos tp), inst 605 (a 2), DQ [] n, DQ [] 0, DQ [] 0]
noncomputable def θSX (τ : Nat → Nat) : Nat → Nat := nthN [τ 33, τ 35, τ 37, τ 39, τ 42, τ 45, τ 54, τ 56, τ 59, τ 62, τ 65, τ 68, τ 70, τ 73, τ 76, τ 79, τ 81, τ 83, τ 87, τ 91, τ 40, τ 393, τ 52, τ 57, τ 60, τ 63, τ 71, τ 74, τ 16, τ 19, τ 22, τ 66, τ 77, τ 20]
/-- the table of the letters that go -/
noncomputable def TBL (ts : Nat → Nat) : Obj := ⟨.type "dict", none, .dict ⟨[⟨114, .int 114 (ts 0), .none⟩, ⟨119, .int 119 (ts 1), .none⟩, ⟨120, .int 120 (ts 2), .none⟩, ⟨115, .int 115 (ts 3), .none⟩, ⟨83, .int 83 (ts 4), .none⟩, ⟨116, .int 116 (ts 5), .none⟩, ⟨84, .int 84 (ts 6), .none⟩]⟩ 7, ⟨[]⟩⟩
theorem use_dget (w : World) (S : Shared) {ρ : Nat → Nat} {ts : Nat → Nat} {c t k : Nat} (hc : c = 114 ∨ c = 119 ∨ c = 120 ∨ c = 115 ∨ c = 83 ∨ c = 116 ∨ c = 84) :
    SpecI (WD w S) ρ (pureUse (.call (.builtin "dict.__getitem__") ⟨[.ref (ρ k), .int (c : Int) t], []⟩) none [(k, TBL ts)] 0 fun θ => .ok (.ret .none)) := by
  refine spec_pure fun Γ p h tk R hc' _ top big pre fin => ?_
  refine code_at (fun A => ?_) hc' p
  have ho : h.get? (ρ k) = some (TBL ts) := pre (k, _) (List.mem_singleton.mpr rfl)
  have hm : Heap.MapOf (intKind pwR w) h (ρ k) (findBy Value.isInt ⟨[⟨114, .int 114 (ts 0), .none⟩, ⟨119, .int 119 (ts 1), .none⟩, ⟨120, .int 120 (ts 2), .none⟩, ⟨115, .int 115 (ts 3), .none⟩, ⟨83, .int 83 (ts 4), .none⟩, ⟨116, .int 116 (ts 5), .none⟩, ⟨84, .int 84 (ts 6), .none⟩]⟩) := by
    refine ⟨_, _, _, ho, ⟨rfl, rfl, rfl⟩, rfl, fun e he => ?_, fun k => rfl⟩
    simp only [List.mem_toArray, List.mem_cons, List.not_mem_nil, or_false] at he
    rcases he with rfl | rfl | rfl | rfl | rfl | rfl | rfl
    · exact ⟨114, rfl, rfl⟩
    · exact ⟨119, rfl, rfl⟩
    · exact ⟨120, rfl, rfl⟩
    · exact ⟨115, rfl, rfl⟩
    · exact ⟨83, rfl, rfl⟩
    · exact ⟨116, rfl, rfl⟩
    · exact ⟨84, rfl, rfl⟩
  have hT : (Shared.TypeIs ((WD w S).sh h tk) (.ref (ρ k)) "dict") := (hm.typeIs)
  refine codeAny_call_builtin slot_dict_getitem.plain entry_dict_getitem (slot_dict_getitem.check _ _ _ _ _ _ _ _ hT (args_dict_getitem _ _) ?_)
  refine meets_dict_getitem (intKind pwR w) (k := (c : Int)) (ρ k) (by show Value.isInt (c : Int) (.int (c : Int) t) = true; simp [Value.isInt]) A R _ ⟨_, .none, hm, ?_, ?_⟩
  · rcases hc with rfl | rfl | rfl | rfl | rfl | rfl | rfl <;> rfl
  · exact fin (fun _ => 0) h (tk + 1) (fun _ _ => rfl) (Nat.le_refl _) fun _ _ e => e
noncomputable def SHX (w : World) (a st : Nat → Nat) (pp : Nat → Pos) (p : Pos) (X : List Nat) (tx tp : Nat) : Fr :=
  frC (blLR st pp) (cSX X tx tp) p 0 []
    [.use 53 165 fun ρ τ => pureUse (.call (.builtin "dict.__getitem__") ⟨[.ref (ρ 18), .int 114 (τ 164)], []⟩) none [(18, TBL (nthN [τ 114, τ 116, τ 118, τ 120, τ 122, τ 124, τ 126]))] 0 fun θ => .ok (.ret .none),
    .use 53 166 fun ρ τ => pureUse (.call (.builtin "dict.__getitem__") ⟨[.ref (ρ 18), .int 115 (τ 165)], []⟩) none [(18, TBL (nthN [τ 114, τ 116, τ 118, τ 120, τ 122, τ 124, τ 126]))] 0 fun θ => .ok (.ret .none),
    .use 53 167 fun ρ τ => pureUse (.call (.builtin "dict.__getitem__") ⟨[.ref (ρ 18), .int 116 (τ 166)], []⟩) none [(18, TBL (nthN [τ 114, τ 116, τ 118, τ 120, τ 122, τ 124, τ 126]))] 0 fun θ => .ok (.ret .none),
    .use 59 174 fun ρ τ => pureUse (.call (.builtin "dict.__getitem__") ⟨[.ref (ρ 18), .int 119 (τ 173)], []⟩) none [(18, TBL (nthN [τ 114, τ 116, τ 118, τ 120, τ 122, τ 124, τ 126]))] 0 fun θ => .ok (.ret .none),
    .use 59 175 fun ρ τ => pureUse (.call (.builtin "dict.__getitem__") ⟨[.ref (ρ 18), .int 120 (τ 174)], []⟩) none [(18, TBL (nthN [τ 114, τ 116, τ 118, τ 120, τ 122, τ 124, τ 126]))] 0 fun θ => .ok (.ret .none),
    .use 101 218 fun ρ τ => pureUse (.call (.builtin "dict.__getitem__") ⟨[.ref (ρ 18), .int 83 (τ 217)], []⟩) none [(18, TBL (nthN [τ 114, τ 116, τ 118, τ 120, τ 122, τ 124, τ 126]))] 0 fun θ => .ok (.ret .none),
    .use 101 219 fun ρ τ => pureUse (.call (.builtin "dict.__getitem__") ⟨[.ref (ρ 18), .int 84 (τ 218)], []⟩) none [(18, TBL (nthN [τ 114, τ 116, τ 118, τ 120, τ 122, τ 124, τ 126]))] 0 fun θ => .ok (.ret .none)]
    [0, 1, 6, 7, 12, 10, 11] (4343) (700924673853756469717161347963402553759256901840674259401509738802397436303899356262702288914187568911580966492285131074811598876990755719043470128106642793228400253803121262701145646330848882895873425546566333307893291291756276858988855298224051412265761536528204820501085156446848653906521201938686716369006885098698365247322548546154978881200079812150224034550562356498312912243755565442001508513187935558071391018257263783809127777509542929180956222769305545471157644408002581462352484954688857778936536830746784808221224227042887449733280165701782025070597099829748680946187933097855170869012615003498313576384799655202132508532822008286794096834236971182858347472721434120114279817440601380225913853065258780470696460940260145594469358611147915780599106126853110912562281389495770823829123068421217523184525159549796663298081439977042868197945539356637294118856310456077636584591672990675830902257525342424311514981970864007475824440168999324458260736036326490233694733587385044445588263116405125212958687393610901300002074187509318866441707614763695185885460828772376115476412775813100122307213547033511295025815618355295560344630458182967105814207335379238924824424689848604103753230164141696945570132272356343462223820135663501922959657371902533993712577124135203066324569515227264260074444168164097017664136822944103351701968531081132933287202994827696351615560388195843693606634972055537816728243155520970413592288621114544921208663965137004720957658845194967178287939005642430975039536041135350594035558446129549578600053226912572882833244612354140867543738035844365282838443277212414308157651641372677550120357186890453135636258791809433500629183027194119756181764592831482317567356997791087026680745754390059458211988237486423237269993912780542462762989851257078682032086085326126649636250725380532408824914877557646687351004609777102801483318885659551102408679119883684785278965077398731580691712932161507117493691797828275223032135864359492118582152733333162383328023622845248617167137517891063651692133578351109134746006339710270273229038738714761829191892010357656371028131966246640724539900839904706635331358180646065220105289443795888434595315767701411883361990788247141962709572765625601635136402262977559660742936641766918314065641054553231697990836593259062882215394552905965985012628310058244458266409205544502050821544577758731807188954404854269252425446049610064262307526061303612362587524014866189529785506159293892408562478668536550289941182729566181626632410680392443603319883493406168014304694960967205458323044581072098603425474422158824014711757454309233194336435110115412105471620227823609923542364474806348451757078656431451665936796942584008122691156973102203834462850866322015727814728050288056262129374149599909647334296457879148007425000069902744008524932895187476411212941221611361096343002335952420346028782821478833738072425318736109580754637353807301219705653889779573575191275438413955482018309296721795733884852891487547413260145431983129278388720473066419929399093700618961556269921230327062328981487231985916588322589294991351681338007454749765379229078317827543328512058653483980621344386797444776897644725492659768762306319481881002516320713470321015515251922503310507350009166934560034009250132670784900817719485954863547530573092915465137521164440922570059349980247041405548691119268495761288735309169580672296251847954141471695435907241868298369742559359999298225304923608519688338216871399990592966242371663703694824394854844786842187519220211117942645188207287922424707336352339721632739875120787446203640787543545113337798610280693553678654905973366719332190412871236610975300161468009679598939892465671018176307155744207527824239807333434689624089799452018268078801030373091490119268307952509026255798376303357736671574354644059192504676726332954305628180360330856979428174105417330605569566203007276584207799894589081995199007814857910585249003112360488188540496757028001952506004233134716800311693225647156127203328848447955904729594070587522673759142939752690695817671130347564687443392764491529868431161714396772262814131903823930252438465048863123738475226965827500620266478084796249250302468072685529721958763944171273459395032114641271702189933115190061510364781852410288276313675767541975331753719106823180939416868888929189783675249389749128056736269762327868028589674094583060331425116694405303697444411987698514817200494120073624731574163383317591963956755693176448126986232912700474385327165630727303128174955928702912409608547124342389078452032525196252687748350268454654497014624645914253548482494977606098217036744709755803282769604198979206774416427292573705412229790231472328448833749046077270387551663394643730564856954963571289971530120841072851219591941905011651189276176607762567535362475640463788434200713975298496568697762566167126687823862569882744652549311488532893466253920236496662426712334969927242989365292390114514294309901724340043604516184877259706622422291995829003127916966396862943375111515082295858662634198956739307239584275457042033345818912523579728798769722882621729734083567999404734910026196305683781455688210301780175101963638526692557716126309877704627968833779734521733127621935140520424405772746409303861102537766678638244242691301225503033735716321297714224536434295030928096559842884583741819972250964108908282838190079659553814022052331534479374868482397199916173833521171794713404326853905182787622561993363420050146178599471694962076472018235546130822027674774644060413939624504434614399003893335829273929926526348012767809698690536775735953607206194750882556073509211434799258911148484737766906857387463124390352172892384794912190720104024811079317196717789920230737548296693043646165465566436649333024446502696282677625649242294719258724290567422265125894912905852347850287496607066642724045136962640657552322827545702900791212721136749526522231687260678116120420708954184613222958441989714654559207334406777069663474550310740411189233304277192808417048103539595226003289844017830444070608356059096220884366344094407187724290415164255368518356451832580686855053401933919519269233570830449786489970376885216603756309578428894802310281456169839770620873075486069759846356727128055426245373696920552692677511421843487241639010992997866358928316233441233423515484791118400722529878878351274808078775516511234567725827008243796989926251066430799027467669762699838319014746074439018919515500899199810866597853584880885344029657008981922126032568530546196736255558771240851472956044003606336591639064661494412149168487944350811209742822382613284287641008117518565052798562699317620406227699205131872228113722917862788947742788020370853655198034165512792450177911930590923612973459531608433865014169304844167634191571746871880318819463599408038314928066716035326996055426841617621958044251948846417541117833719833200618340728563543018325045192229759800822667352068619846510441976321322286017722318993124697167623178567146170448890766749340443007275280418194638684291072) (fun ρ _ => .inl (.done (.ret (.ref (ρ 1))), p)) (fun _ _ => []) (fun ρ τ => (LE7 w.params (Lθ (θSX τ) tx tp X) (nthN [ρ 0, ρ 1, ρ 6, ρ 7, ρ 12, ρ 10, ρ 11]) (.str (s [32]) (θSX τ 31)) (.str (s []) (θSX τ 32)) 0 (θSX τ 33) 0))
theorem SHX_n (w : World) (a st : Nat → Nat) (pp : Nat → Pos) (p : Pos) (X : List Nat) (tx tp : Nat) : (SHX w a st pp p X tx tp).Spec w a := Fr.spec fun ρ τ => by kernel_rfl

end Mine
end
section -- Sb
open PySem PySem.W PyProof.Rows
set_option Elab.async false
set_option linter.unusedVariables false
namespace Mine
variable {W : Wd}
/-- put an object into a list -/
noncomputable def setN : List Obj → Nat → Obj → List Obj
  | [], _, _ => []
  | x :: l, n, o => match n with
    | 0 => o :: l
    | n + 1 => x :: setN l n o
theorem setN_len : ∀ (l : List Obj) (n : Nat) (o : Obj), (setN l n o).length = l.length
  | [], _, _ => rfl
  | x :: l, 0, o => rfl
  | x :: l, n + 1, o => congrArg Nat.succ (setN_len l n o)
theorem nth_setN : ∀ (l : List Obj) (n : Nat) (o : Obj) (i : Nat), n < l.length → nth (setN l n o) i = if i = n then o else nth l i
  | [], _, _, _, h => absurd h (Nat.not_lt_zero _)
  | x :: l, 0, o, 0, _ => rfl
  | x :: l, 0, o, i + 1, _ => rfl
  | x :: l, n + 1, o, 0, _ => rfl
  | x :: l, n + 1, o, i + 1, h => by
    show nth (setN l n o) i = _
    rw [nth_setN l n o i (Nat.lt_of_succ_lt_succ h)]
    by_cases e : i = n
    · rw [if_pos e, if_pos (by omega)]
    · rw [if_neg e, if_neg (by omega)]; rfl
noncomputable def putK : List Nat → List Obj → List Obj → List Obj
  | [], _, l => l
  | k :: ks, os, l => match os with
    | [] => l
    | o :: os => putK ks os (setN l k o)
theorem putK_len : ∀ (ks : List Nat) (os l : List Obj), (putK ks os l).length = l.length
  | [], _, _ => rfl
  | k :: ks, [], l => rfl
  | k :: ks, o :: os, l => (putK_len ks os _).trans (setN_len l k o)
theorem nth_putK_not : ∀ (ks : List Nat) (os l : List Obj) (i : Nat), (∀ k ∈ ks, k < l.length) → i ∉ ks → nth (putK ks os l) i = nth l i
  | [], _, _, _, _, _ => rfl
  | k :: ks, [], l, _, _, _ => rfl
  | k :: ks, o :: os, l, i, h, hi => by
    show nth (putK ks os (setN l k o)) i = _
    rw [nth_putK_not ks os _ i (fun k' hk => by rw [setN_len]; exact h k' (List.mem_cons_of_mem _ hk)) (fun z => hi (List.mem_cons_of_mem _ z)), nth_setN l k o i (h k (List.mem_cons_self ..)), if_neg fun e => hi (by rw [e]; exact List.mem_cons_self ..)]
theorem nth_putK_at : ∀ (ks : List Nat) (os l : List Obj) (j : Nat), ks.Nodup → (∀ k ∈ ks, k < l.length) → os.length = ks.length → j < ks.length → nth (putK ks os l) (nthN ks j) = nth os j
  | [], _, _, _, _, _, _, h => absurd h (Nat.not_lt_zero _)
  | k :: ks, [], l, _, _, _, e, _ => by simp at e
  | k :: ks, o :: os, l, 0, nd, h, e, _ => by
    show nth (putK ks os (setN l k o)) k = o
    rw [nth_putK_not ks os _ k (fun k' hk => by rw [setN_len]; exact h k' (List.mem_cons_of_mem _ hk)) (List.nodup_cons.mp nd).1, nth_setN l k o k (h k (List.mem_cons_self ..)), if_pos rfl]
  | k :: ks, o :: os, l, j + 1, nd, h, e, hj => by
    show nth (putK ks os (setN l k o)) (nthN ks j) = nth os j
    exact nth_putK_at ks os _ j (List.nodup_cons.mp nd).2 (fun k' hk => by rw [setN_len]; exact h k' (List.mem_cons_of_mem _ hk)) (by simpa using e) (Nat.lt_of_succ_lt_succ hj)
theorem nthN_mem (l : List Nat) (i : Nat) (h : i < l.length) : nthN l i ∈ l := List.mem_of_getElem? (nthN_get l i h)
theorem nth_mapK (f : Nat → Obj) : ∀ (l : List Nat) (i : Nat), i < l.length → nth (l.map f) i = f (nthN l i)
  | [], _, h => absurd h (Nat.not_lt_zero _)
  | x :: l, 0, _ => rfl
  | x :: l, i + 1, h => nth_mapK f l i (Nat.lt_of_succ_lt_succ h)
/-- some of the given objects -/
theorem Given.sub {a : Nat → Nat} {l : List Obj} {h : Heap} (G : Given W a l h) (ks : List Nat) (nd : ks.Nodup) (hk : ∀ k ∈ ks, k < l.length) : Given W (fun i => a (nthN ks i)) (ks.map (nth l)) h := by
  have hl : (ks.map (nth l)).length = ks.length := List.length_map ..
  refine ⟨G.top, G.big, fun i hi => ?_, fun i hi => ?_, fun i j hi hj e => ?_⟩
  · rw [hl] at hi
    rw [nth_mapK _ _ _ hi]
    exact G.at_ _ (hk _ (nthN_mem ks i hi))
  · rw [hl] at hi
    exact G.ge _ (hk _ (nthN_mem ks i hi))
  · rw [hl] at hi hj
    have e' := G.inj _ _ (hk _ (nthN_mem ks i hi)) (hk _ (nthN_mem ks j hj)) e
    have e2 : ks[i]? = ks[j]? := by rw [nthN_get ks i hi, nthN_get ks j hj, e']
    exact (List.getElem?_inj hi nd).mp e2
theorem Nx.sub {a : Nat → Nat} {l l' : List Obj} {h h' : Heap} {g : Nat} (G : Given W a l h) (ks : List Nat) (nd : ks.Nodup) (hk : ∀ k ∈ ks, k < l.length) (N : Nx W ks.length (fun i => a (nthN ks i)) l' h h') (hg : g = l.length) : Nx W g a (putK ks l' l) h h' := by
  subst hg
  have hl := putK_len ks l' l
  refine ⟨⟨N.given.top, N.given.big, fun i hi => ?_, fun i hi => by rw [hl] at hi; exact G.ge i hi, fun i j hi hj e => by rw [hl] at hi hj; exact G.inj i j hi hj e⟩, hl, N.size, fun b o e q => N.keep b o e fun i hi => q _ (hk _ (nthN_mem ks i hi))⟩
  rw [hl] at hi
  by_cases c : i ∈ ks
  · obtain ⟨j, hj, e⟩ := List.mem_iff_getElem.mp c
    have e' : nthN ks j = i := by
      have := nthN_get ks j hj
      rw [List.getElem?_eq_getElem hj, e] at this
      exact (Option.some.inj this).symm
    have := N.given.at_ j (by rw [N.len]; exact hj)
    rw [← e', nth_putK_at ks l' l j nd hk N.len hj]
    exact this
  · rw [nth_putK_not ks l' l i hk c]
    refine N.keep _ _ (G.at_ i hi) fun j hj z => c ?_
    rw [G.inj _ _ hi (hk _ (nthN_mem ks j hj)) z]
    exact nthN_mem ks j hj
/-- given objects and new ones -/
theorem Given.news {a ν : Nat → Nat} {l l' m : List Obj} {h h' : Heap} {g : Nat} (G : Given W a l h) (N : Nx W g a l' h h') (M : News ν m h h') (hg : g = l.length) : Given W (fun i => if i < g then a i else ν (i - g)) (l' ++ m) h' := by
  subst hg
  have hl := N.len
  have big := G.big
  have lt0 : ∀ i, i < l.length → a i < h.objs.size := fun i hi => Heap.lt_size (G.at_ i hi)
  have hm : ∀ i, l.length ≤ i → i < (l' ++ m).length → i - l.length < m.length := fun i h1 h2 => by rw [List.length_append, hl] at h2; omega
  refine ⟨N.given.top, N.given.big, fun i hi => ?_, fun i hi => ?_, fun i j hi hj e => ?_⟩
  · by_cases c : i < l.length
    · rw [if_pos c, nth_app_l _ _ _ (by rw [hl]; exact c)]
      exact N.given.at_ i (by rw [hl]; exact c)
    · rw [if_neg c]
      have e : nth (l' ++ m) i = nth m (i - l.length) := by
        have := nth_app_r l' m (i - l.length)
        rw [hl, show l.length + (i - l.length) = i by omega] at this
        exact this
      rw [e]
      exact (M.at_ _ (hm i (by omega) hi)).1
  · by_cases c : i < l.length
    · rw [if_pos c]; exact G.ge i c
    · rw [if_neg c]; exact Nat.le_trans big (M.at_ _ (hm i (by omega) hi)).2
  · by_cases c : i < l.length <;> by_cases d : j < l.length
    · rw [if_pos c, if_pos d] at e; exact G.inj i j c d e
    · rw [if_pos c, if_neg d] at e
      have := (M.at_ _ (hm j (by omega) hj)).2
      have := lt0 i c
      omega
    · rw [if_neg c, if_pos d] at e
      have := (M.at_ _ (hm i (by omega) hi)).2
      have := lt0 j d
      omega
    · rw [if_neg c, if_neg d] at e
      have := M.inj _ _ (hm i (by omega) hi) (hm j (by omega) hj) e
      omega
end Mine
end
section -- Lc
open PySem PySem.W PyProof.Rows PySem.Calls
set_option Elab.async false
set_option linter.unusedVariables false
set_option maxRecDepth 100000
set_option maxHeartbeats 0
namespace Mine
noncomputable def cLI (l it : Nat) : Code := .call (.builtin "list.__init__") ⟨[.ref l, .ref it], []⟩
noncomputable def LIpre (P : Params) (L : Lx) (a : Nat → Nat) (ts tv tp : Nat) (d8 d9 : Ents) (s8 s9 : Array (Option Value)) : List Obj :=
  LE P L a (.str (s [32]) ts) (.str (s []) tv) 0 tp [] 0 (LST [] 0) ++ [FRM d8 s8, FRM d9 s9]
noncomputable def LIpost (P : Params) (L : Lx) (a : Nat → Nat) (d8 d9 : Ents) (ws : List (List Nat)) (θ : Nat → Nat) : List Obj :=
  LE P L a .none (.str (s []) (θ 3)) (L.X.length : Int) (θ 0) [] (θ 1) (LST (strsT θ ws) (θ 2)) ++ [FRM d8 (SLr (a 9)), FRM d9 SLl]
theorem nthN_app (l m : List Nat) : ∀ j, nthN (l ++ m) (l.length + j) = nthN m j := by
  induction l with
  | nil => intro j; simp
  | cons x l ih =>
    intro j
    rw [List.length_cons, show l.length + 1 + j = (l.length + j) + 1 by omega]
    exact ih j
theorem li_spec (w : World) (S : Shared) {ρ st : Nat → Nat} {L : Lx} {pp : Nat → Pos} {keys : List Nat} (hl : keys.length = 10) (nd : keys.Nodup) {ts tv tp : Nat} {d8 d9 : Ents} {s8 s9 : Array (Option Value)} (hs : SlotsOk (ρ (nthN keys 9)) s8 s9)
    {ws : List (List Nat)} (hX : L.X.length < sizeLine) (X : Words none L.X ws) (hw : ws.length ≤ 60) :
    SpecI (WD w S) ρ (mkUse (cLI (ρ (nthN keys 5)) (ρ (nthN keys 1))) (some ((cTL (ρ (nthN keys 1)), pp 5) :: blLR (stX (fun i => ρ (nthN keys i)) st) pp)) keys (LIpre w.params L (fun i => ρ (nthN keys i)) ts tv tp d8 d9 s8 s9) 64
      (LIpost w.params L (fun i => ρ (nthN keys i)) d8 d9 ws) (fun _ => .ok (.ret .none))) := by
  refine spec_mk nd hl (fun _ => rfl) fun Γ p h tk R hc hbl G fin => ?_
  rw [hbl _ rfl]
  have G2 := G.sub [1, 5] (by decide) (by intro k hk; simp [LIpre, LE] at hk ⊢; omega)
  refine LI_n w (fun i => ρ (nthN keys (nthN [1, 5] i))) (stX (fun i => ρ (nthN keys i)) st) pp p (ρ (nthN keys 0)) G2 ?_ fun τ h' tk' N => ?_
  · refine okc ?_ ok0
    exact fun ρ τ => swX_ok swap_ext
  · have N' := Nx.sub (g := 10) G [1, 5] (by decide) (by intro k hk; simp [LIpre, LE] at hk ⊢; omega) N rfl
    refine ex_all (a := fun i => ρ (nthN keys i)) (st := st) (pp := pp) hX d8 d9 s8 s9 hs p X ts tp 0 0 0 2 [] (.str (s []) tv) h' tk' rfl (Nat.zero_le _) ?_ N'.given fun tp' n' m' tv' vals h2 tk2 hv N2 => ?_
    · have : sizeLine = 16777216 := rfl
      simp
      omega
    · have hlen := strs_len hv
      have e : vals = strsT (nthN ([tp', n', m', tv'] ++ vals.map tokOf)) ws := strsL_of hv _ 4 60 (by omega) fun j hj => nthN_app [tp', n', m', tv'] (vals.map tokOf) j
      have F := fin (nthN ([tp', n', m', tv'] ++ vals.map tokOf)) h2 tk2 (fun j hj => nthN_ge _ j (by simp; omega)) ?_
      · exact F
      · have N3 := N'.trans N2
        rw [List.nil_append] at N3
        show Nx _ _ _ (LE _ _ _ _ _ _ _ _ _ (LST (strsT _ ws) m') ++ _) _ _
        rw [← e]
        exact N3
noncomputable def cLC (it : Nat) : Code := .call (.type "list") ⟨[.ref it], []⟩
noncomputable def ppC (pp : Nat → Pos) (p : Pos) : Nat → Pos := fun i => match i with
  | 5 => p
  | i => pp i
noncomputable def LC (w : World) (a st : Nat → Nat) (L : Lx) (pp : Nat → Pos) (p : Pos) (ts tv tp : Nat) (d8 d9 : Ents) (s8 : Nat → Array (Option Value)) (s9 : Array (Option Value)) (ws : List (List Nat)) : Fr :=
  frC (blLR (upd (upd st 3 (a 7)) 1 (a 8)) pp) (cLC (a 1)) p 9 (LE7 w.params L a (.str (s [32]) ts) (.str (s []) tv) 0 tp 0 ++ [FRM d8 (s8 (a 8)), FRM d9 s9])
    [.use 10 0 fun ρ τ => mkUse (cLI (ρ 9) (ρ 1)) (some ((cTL (ρ 1), p) :: blLR (stX (fun i => ρ (nthN [0, 1, 2, 3, 4, 9, 5, 6, 7, 8] i)) st) (ppC pp p))) [0, 1, 2, 3, 4, 9, 5, 6, 7, 8] (LIpre w.params L (fun i => ρ (nthN [0, 1, 2, 3, 4, 9, 5, 6, 7, 8] i)) ts tv tp d8 d9 (s8 (ρ 8)) s9) 64
      (LIpost w.params L (fun i => ρ (nthN [0, 1, 2, 3, 4, 9, 5, 6, 7, 8] i)) d8 d9 ws) (fun _ => .ok (.ret .none))]
    [9] (11) (1101671706624) (fun ρ _ => .inl (.done (.ret (.ref (ρ 9))), p)) (fun _ τ => (LE7 w.params L a .none (.str (s []) (τ 3)) (L.X.length : Int) (τ 0) (τ 1) ++ [FRM d8 (SLr (a 8)), FRM d9 SLl])) (fun _ τ => [LST (strsT τ ws) (τ 2)])
theorem LC_n (w : World) (a st : Nat → Nat) (L : Lx) (pp : Nat → Pos) (p : Pos) (ts tv tp : Nat) (d8 d9 : Ents) (s8 : Nat → Array (Option Value)) (s9 : Array (Option Value)) (ws : List (List Nat)) : (LC w a st L pp p ts tv tp d8 d9 s8 s9 ws).Spec w a := Fr.spec fun ρ τ => by kernel_rfl

end Mine
end
section -- Rt
open PySem PySem.W PyProof.Rows PySem.Calls
set_option Elab.async false
set_option linter.unusedVariables false
set_option maxRecDepth 100000
set_option maxHeartbeats 0
namespace Mine
noncomputable def cIT (l k t : Nat) : Code := .call (.builtin "list.__getitem__") ⟨[.ref l, .int (k : Int) t], []⟩
theorem list_item {prog : Program} {w : World} {A : Around} {E : Value → Shared → Prop} {s : Shared} {l : Addr} {items : Array Value} {k : Int} {t : Tok} {x : Value} {Q : PySem.Fin → Shared → Prop} (hl : s.heap.IsList l items) (h0 : 0 ≤ k) (hfit : k < 2 ^ 63) (hx : items[k.toNat]? = some x)
    (h : Q (.done (.ret x)) s) : wpAny (model prog w) A (Builtin.«list.__getitem__» ⟨[.ref l, .int k t], []⟩) Q E s := by
  obtain ⟨o, ho, hc, ne, hd⟩ := id hl
  show wpAny _ _ (Builtin.List.listSubscript? (.int k t) >>= _) _ _ s
  refine wpAny_bind (wpAny_listSubscript_int (fitsIndex_of h0 hfit) ?_)
  clear hfit
  obtain ⟨j, rfl⟩ := Int.eq_ofNat_of_zero_le h0
  have hx' : items[j]? = some x := hx
  show wpAny _ _ ((seqItemAt l j >>= fun r => pure (r.map (j, ·))) >>= _) _ _ s
  refine wpAny_bind (wpAny_bind (wpAny_seqItemAt ho hd (wpAny_pure ?_)))
  rw [hx']
  first
    | exact wpAny_bind (wpAny_pure (wpAny_pure h))
    | exact wpAny_pure h
theorem use_item (w : World) (S : Shared) {ρ : Nat → Nat} {items : List Value} {v : Value} {m n k t : Nat} (hv : items[k]? = some v) (hk : (k : Int) < 2 ^ 63) : SpecI (WD w S) ρ (pureUse (cIT (ρ m) k t) none [(m, LST items n)] 0 fun θ => .ok (.ret v)) := by
  unfold cIT
  refine spec_pure fun Γ p h tk R hc' _ top big pre fin => ?_
  refine code_at (fun A => ?_) hc' p
  have ho : h.get? (ρ m) = some (LST items n) := pre (m, _) (List.mem_singleton.mpr rfl)
  have hl : Heap.IsList h (ρ m) ⟨items⟩ := ⟨_, ho, rfl, n, rfl⟩
  have hT : Shared.TypeIs ((WD w S).sh h tk) (.ref (ρ m)) "list" := Heap.IsList.typeIs (s := (WD w S).sh h tk) hl
  have hx : (⟨items⟩ : Array Value)[(k : Int).toNat]? = some v := by simpa using hv
  have F : R (.ok (.ret v)) ((WD w S).sh h tk) := fin (fun _ => 0) h tk (fun _ _ => rfl) (Nat.le_refl _) fun _ _ e => e
  have h0 := Int.natCast_nonneg k
  generalize (k : Int) = k' at *
  refine codeAny_call_builtin slot_list_getitem.plain entry_list_getitem (slot_list_getitem.check _ _ _ _ _ _ _ _ hT (args_list_getitem _ _) ?_)
  refine list_item (s := (WD w S).sh h tk) hl h0 hk hx ?_
  exact F
noncomputable def sxUse (P : Params) (bl : List (Code × Pos)) (X : List Nat) (tx tp : Nat) : Use :=
  newUse (cSX X tx tp) (some bl) [] [] 7 34 (fun _ _ => []) (fun ν θ => LE7 P (Lθ θ tx tp X) ν (.str (s [32]) (θ 31)) (.str (s []) (θ 32)) 0 (θ 33) 0) (fun ν _ => .ok (.ret (.ref (ν 1))))
theorem sx_spec (w : World) (S : Shared) {ρ st : Nat → Nat} {pp : Nat → Pos} {X : List Nat} {tx tp : Nat} : SpecI (WD w S) ρ (sxUse w.params (blLR st pp) X tx tp) := by
  refine spec_new (by decide) rfl (fun _ _ => rfl) (fun _ _ => rfl) fun Γ p h tk R hc hbl G fin => ?_
  rw [hbl _ rfl]
  refine SHX_n w (fun i => ρ (nthN [] i)) st pp p X tx tp G ?_ fun ρ τ h' tk' _ N M => ?_
  · refine okc ?_ (okc ?_ (okc ?_ (okc ?_ (okc ?_ (okc ?_ (okc ?_ ok0))))))
    · exact ok_pure fun ρ τ => use_dget w S (c := 114) (by decide)
    · exact ok_pure fun ρ τ => use_dget w S (c := 115) (by decide)
    · exact ok_pure fun ρ τ => use_dget w S (c := 116) (by decide)
    · exact ok_pure fun ρ τ => use_dget w S (c := 119) (by decide)
    · exact ok_pure fun ρ τ => use_dget w S (c := 120) (by decide)
    · exact ok_pure fun ρ τ => use_dget w S (c := 83) (by decide)
    · exact ok_pure fun ρ τ => use_dget w S (c := 84) (by decide)
  · exact fin (nthN [ρ 0, ρ 1, ρ 6, ρ 7, ρ 12, ρ 10, ρ 11]) (θSX τ) h' tk' (fun j hj => nthN_ge _ j hj) (fun j hj => nthN_ge _ j hj) N M
noncomputable def lcUse (P : Params) (L : Lx) (a st : Nat → Nat) (pp : Nat → Pos) (keys : List Nat) (ts tv tp : Nat) (d8 d9 : Ents) (s8 : Nat → Array (Option Value)) (s9 : Array (Option Value)) (ws : List (List Nat)) : Use :=
  newUse (cLC (a 1)) (some (blLR (upd (upd st 3 (a 7)) 1 (a 8)) pp)) keys (LE7 P L a (.str (s [32]) ts) (.str (s []) tv) 0 tp 0 ++ [FRM d8 (s8 (a 8)), FRM d9 s9]) 1 64
    (fun _ θ => LE7 P L a .none (.str (s []) (θ 3)) (L.X.length : Int) (θ 0) (θ 1) ++ [FRM d8 (SLr (a 8)), FRM d9 SLl]) (fun _ θ => [LST (strsT θ ws) (θ 2)]) (fun ν _ => .ok (.ret (.ref (ν 0))))
theorem lc_spec (w : World) (S : Shared) {ρ st : Nat → Nat} {L : Lx} {pp : Nat → Pos} {keys : List Nat} (hl : keys.length = 9) (nd : keys.Nodup) {ts tv tp : Nat} {d8 d9 : Ents} {s8 : Nat → Array (Option Value)} {s9 : Array (Option Value)} (hs : ∀ x, SlotsOk x (s8 x) s9)
    {ws : List (List Nat)} (hX : L.X.length < sizeLine) (X : Words none L.X ws) (hw : ws.length ≤ 60) : SpecI (WD w S) ρ (lcUse w.params L (fun i => ρ (nthN keys i)) st pp keys ts tv tp d8 d9 s8 s9 ws) := by
  refine spec_new nd hl (fun _ _ => rfl) (fun _ _ => rfl) fun Γ p h tk R hc hbl G fin => ?_
  rw [hbl _ rfl]
  refine LC_n w (fun i => ρ (nthN keys i)) st L pp p ts tv tp d8 d9 s8 s9 ws G ?_ fun ρ' τ h' tk' hρ N M => ?_
  · refine okc ?_ ok0
    exact ok_mk (fun _ _ => rfl) fun ρ2 τ2 => li_spec w S (keys := [0, 1, 2, 3, 4, 9, 5, 6, 7, 8]) (pp := ppC pp p) rfl (by decide) (hs (ρ2 8)) hX X hw
  · have e : strsT (tr 64 τ) ws = strsT τ ws := rfl
    exact fin (nthN [ρ' 9]) (tr 64 τ) h' tk' (fun j hj => nthN_ge _ j hj) (fun j hj => by unfold tr; rw [show Nat.blt j 64 = false from by cases e : Nat.blt j 64; rfl; exact absurd (Nat.le_of_ble_eq_true e) (by omega)]) N (e ▸ M)
end Mine
end
section -- Rt2
open PySem PySem.W PyProof.Rows PySem.Calls
set_option Elab.async false
set_option linter.unusedVariables false
set_option maxRecDepth 100000
set_option maxHeartbeats 0
namespace Mine
noncomputable def EN (P : Params) (ks : Nat → Nat) (l : List (List Nat × Value)) (n : Nat) : Ents := ⟨ent P ks 0 l, n⟩
noncomputable def RIT (k left : Int) : Obj := ⟨.type "range_iterator", none, .fields ⟨[.int k 0, .int left 0, .int 1 0]⟩, ⟨[]⟩⟩
noncomputable def ppR (pp : Nat → Pos) (p : Pos) : Nat → Pos := fun i => match i with
  | 3 => p
  | i => pp i
noncomputable def RTa (w : World) (a st ks : Nat → Nat) (pp : Nat → Pos) (p : Pos) (X x : List Nat) (tx m : Nat) (vc : Value) (k : Int) (n : Nat) (d9 : Ents) (s8 : Nat → Array (Option Value)) (s9 : Array (Option Value)) (items : List Value) (ws : List (List Nat)) : Fr :=
  frC ((cLR (a 0), pp 4) :: blLaw (upd st 1 (a 3)) pp) (cLRf (a 2) (a 0)) p 4 [FRM (EN w.params ks [([116, 101, 120, 116], .str ⟨⟨X⟩⟩ tx), ([99, 111, 117, 110, 116], vc), ([116, 111, 108, 100], .ref (a 1))] 3) (s8 (a 3)), LST items m, RIT k (Int.ofNat (n + 1)), FRM d9 s9]
    [.use 4 3 fun ρ τ => sxUse w.params (blLR (upd (upd (upd st 2 (ρ 2)) 3 (ρ 0)) 1 (ρ 3)) (ppR pp ⟨794, 21, 794, 73⟩)) X tx (τ 2),
     .use 11 37 fun ρ τ => lcUse w.params (Lθ (tr 34 fun j => τ (3 + j)) tx (τ 2) X) (fun i => ρ (nthN [4, 5, 6, 7, 8, 9, 10, 0, 3] i)) (upd st 2 (ρ 2)) (ppR pp ⟨794, 16, 794, 74⟩) [4, 5, 6, 7, 8, 9, 10, 0, 3] (τ 34) (τ 35) (τ 36)
       (EN w.params (upd ks 3 (τ 1)) [([116, 101, 120, 116], .str ⟨⟨X⟩⟩ tx), ([99, 111, 117, 110, 116], vc), ([116, 111, 108, 100], .ref (ρ 1)), ([107], .int k (τ 0))] 4) d9 s8 s9 (x :: ws),
     .swap 12 102 fun ρ τ => swL 1 (ρ 1) (LSTP items m (.ref (ρ 11))) (ret .none),
     .use 12 103 fun ρ τ => pureUse (cIT (ρ 11) 0 (τ 102)) none [(11, LST (strsL (tkl τ 41 60) (x :: ws)) (τ 39))] 0 fun θ => .ok (.ret (.str ⟨⟨x⟩⟩ (τ 41)))]
    [11] (85) (2780800682542012884595676028728971078494403344770946748794667611979123338271965102822272408874779343878791774914025222026306781189) (fun _ _ => .inl (.again (cLRf (a 2) (a 0)), ⟨796, 8, 796, 12⟩)) (fun ρ τ => [FRM (EN w.params (upd (upd ks 3 (τ 1)) 4 (τ 101)) [([116, 101, 120, 116], .str ⟨⟨x⟩⟩ (τ 41)), ([99, 111, 117, 110, 116], vc), ([116, 111, 108, 100], .ref (a 1)), ([107], .int k (τ 0)), ([119, 111, 114, 100, 115], .ref (ρ 11))] 5) (SLr (a 3)), LSTP items m (.ref (ρ 11)), RIT (k + 1) (Int.ofNat (n + 1) - 1), FRM d9 SLl]) (fun _ τ => [LST (strsL (tkl τ 41 60) (x :: ws)) (τ 39)])
theorem RTa_n (w : World) (a st ks : Nat → Nat) (pp : Nat → Pos) (p : Pos) (X x : List Nat) (tx m : Nat) (vc : Value) (k : Int) (n : Nat) (d9 : Ents) (s8 : Nat → Array (Option Value)) (s9 : Array (Option Value)) (items : List Value) (ws : List (List Nat)) : (RTa w a st ks pp p X x tx m vc k n d9 s8 s9 items ws).Spec w a := Fr.spec fun ρ τ => by kernel_rfl

noncomputable def RTb (w : World) (a st ks : Nat → Nat) (pp : Nat → Pos) (p : Pos) (X x : List Nat) (tx m : Nat) (vc vk vw : Value) (k : Int) (n : Nat) (d9 : Ents) (s8 : Nat → Array (Option Value)) (s9 : Array (Option Value)) (items : List Value) (ws : List (List Nat)) : Fr :=
  frC ((cLR (a 0), pp 4) :: blLaw (upd st 1 (a 3)) pp) (cLRf (a 2) (a 0)) p 4 [FRM (EN w.params ks [([116, 101, 120, 116], .str ⟨⟨X⟩⟩ tx), ([99, 111, 117, 110, 116], vc), ([116, 111, 108, 100], .ref (a 1)), ([107], vk), ([119, 111, 114, 100, 115], vw)] 5) (s8 (a 3)), LST items m, RIT k (Int.ofNat (n + 1)), FRM d9 s9]
    [.use 4 3 fun ρ τ => sxUse w.params (blLR (upd (upd (upd st 2 (ρ 2)) 3 (ρ 0)) 1 (ρ 3)) (ppR pp ⟨794, 21, 794, 73⟩)) X tx (τ 2),
     .use 11 37 fun ρ τ => lcUse w.params (Lθ (tr 34 fun j => τ (3 + j)) tx (τ 2) X) (fun i => ρ (nthN [4, 5, 6, 7, 8, 9, 10, 0, 3] i)) (upd st 2 (ρ 2)) (ppR pp ⟨794, 16, 794, 74⟩) [4, 5, 6, 7, 8, 9, 10, 0, 3] (τ 34) (τ 35) (τ 36)
       (EN w.params ks [([116, 101, 120, 116], .str ⟨⟨X⟩⟩ tx), ([99, 111, 117, 110, 116], vc), ([116, 111, 108, 100], .ref (ρ 1)), ([107], .int k (τ 0)), ([119, 111, 114, 100, 115], vw)] 5) d9 s8 s9 (x :: ws),
     .swap 12 102 fun ρ τ => swL 1 (ρ 1) (LSTP items m (.ref (ρ 11))) (ret .none),
     .use 12 103 fun ρ τ => pureUse (cIT (ρ 11) 0 (τ 102)) none [(11, LST (strsL (tkl τ 41 60) (x :: ws)) (τ 39))] 0 fun θ => .ok (.ret (.str ⟨⟨x⟩⟩ (τ 41)))]
    [11] (85) (2780800682542012884595676028728971078494403344770946748794667611979123338271965102822272408874779343878791774914025222026306781189) (fun _ _ => .inl (.again (cLRf (a 2) (a 0)), ⟨796, 8, 796, 12⟩)) (fun ρ τ => [FRM (EN w.params ks [([116, 101, 120, 116], .str ⟨⟨x⟩⟩ (τ 41)), ([99, 111, 117, 110, 116], vc), ([116, 111, 108, 100], .ref (a 1)), ([107], .int k (τ 0)), ([119, 111, 114, 100, 115], .ref (ρ 11))] 5) (SLr (a 3)), LSTP items m (.ref (ρ 11)), RIT (k + 1) (Int.ofNat (n + 1) - 1), FRM d9 SLl]) (fun _ τ => [LST (strsL (tkl τ 41 60) (x :: ws)) (τ 39)])
theorem RTb_n (w : World) (a st ks : Nat → Nat) (pp : Nat → Pos) (p : Pos) (X x : List Nat) (tx m : Nat) (vc vk vw : Value) (k : Int) (n : Nat) (d9 : Ents) (s8 : Nat → Array (Option Value)) (s9 : Array (Option Value)) (items : List Value) (ws : List (List Nat)) : (RTb w a st ks pp p X x tx m vc vk vw k n d9 s8 s9 items ws).Spec w a := Fr.spec fun ρ τ => by kernel_rfl

noncomputable def RTe (w : World) (a st : Nat → Nat) (pp : Nat → Pos) (p : Pos) (k : Int) (d8 d9 : Ents) (s8 s9 : Array (Option Value)) (lo : Obj) : Fr :=
  frC ((cLR (a 0), pp 4) :: blLaw (upd st 1 (a 3)) pp) (cLRf (a 2) (a 0)) p 4 [FRM d8 s8, lo, RIT k 0, FRM d9 s9]
    []
    [] (17) (9229007039321079813) (fun _ _ => .inl (.done .next, ⟨793, 8, 793, 9⟩)) (fun _ _ => [FRM d8 s8, lo, RIT k 0, FRM d9 s9]) (fun _ _ => [])
theorem RTe_n (w : World) (a st : Nat → Nat) (pp : Nat → Pos) (p : Pos) (k : Int) (d8 d9 : Ents) (s8 s9 : Array (Option Value)) (lo : Obj) : (RTe w a st pp p k d8 d9 s8 s9 lo).SpecN w a := Fr.specN fun ρ τ => by kernel_rfl

end Mine
end
section -- Rl
open PySem PySem.W PyProof.Rows PySem.Calls
set_option Elab.async false
set_option linter.unusedVariables false
set_option maxRecDepth 100000
set_option maxHeartbeats 0
namespace Mine
/-- readings, each of the first word that the one ahead gave -/
inductive Reads : List Nat → List (List (List Nat)) → Prop
  | nil {X} : Reads X []
  | cons {X x ws l} : Words none X (x :: ws) → (x :: ws).length ≤ 60 → X.length < sizeLine → Reads x l → Reads X ((x :: ws) :: l)
/-- lists of texts, from b on -/
inductive LstsAt (b : Nat) (h : Heap) : List Nat → List (List (List Nat)) → Prop
  | nil : LstsAt b h [] []
  | cons {x xs ws l} (ts : List Nat) (n : Nat) : h.get? x = some (LST (strsL ts ws) n) → ws.length ≤ ts.length → b ≤ x → x ∉ xs → LstsAt b h xs l → LstsAt b h (x :: xs) (ws :: l)
theorem LstsAt.ge {b : Nat} {h : Heap} {xs : List Nat} {l : List (List (List Nat))} (H : LstsAt b h xs l) : ∀ x ∈ xs, b ≤ x := by
  induction H with
  | nil => exact fun _ z => nomatch z
  | cons ts n h1 h2 h3 h4 _ ih =>
    intro x hx
    rcases List.mem_cons.mp hx with rfl | hx
    · exact h3
    · exact ih x hx
theorem LstsAt.mono {b b' : Nat} {h : Heap} {xs : List Nat} {l : List (List (List Nat))} (H : LstsAt b h xs l) (hb : b' ≤ b) : LstsAt b' h xs l := by
  induction H with
  | nil => exact .nil
  | cons ts n h1 h2 h3 h4 _ ih => exact .cons ts n h1 h2 (Nat.le_trans hb h3) h4 ih
noncomputable def endText (X : List Nat) : List (List (List Nat)) → List Nat
  | [] => X
  | ws :: l => endText (ws.headD []) l
noncomputable def endRef (v : Value) : List Nat → Value
  | [] => v
  | x :: xs => endRef (.ref x) xs
noncomputable def endK (vk : Value) (k : Int) : List (List (List Nat)) → Value → Prop
  | [], v => v = vk
  | _ :: l, v => ∃ t, endK (.int k t) (k + 1) l v
theorem tkl_len (θ : Nat → Nat) : ∀ n i, (tkl θ i n).length = n
  | 0, _ => rfl
  | n + 1, i => congrArg Nat.succ (tkl_len θ n (i + 1))
noncomputable def frLR (P : Params) (ks : Nat → Nat) (told : Nat) (vt vc vk vw : Value) : Ents := EN P ks [([116, 101, 120, 116], vt), ([99, 111, 117, 110, 116], vc), ([116, 111, 108, 100], .ref told), ([107], vk), ([119, 111, 114, 100, 115], vw)] 5
noncomputable abbrev RtFin (w : World) (S : Shared) (a : Nat → Nat) (vc : Value) (d9 : Ents) (R : Result → Shared → Prop) (X : List Nat) (vk vw : Value) (k : Int) (items : List Value) (l : List (List (List Nat))) (h : Heap) : Prop :=
  ∀ (xs : List Nat) (ks : Nat → Nat) (ty m : Nat) (vk' : Value) (h' : Heap) (tk : Nat), LstsAt h.objs.size h' xs l → endK vk k l vk' →
    Nx (WD w S) 4 a [FRM (frLR w.params ks (a 1) (.str ⟨⟨endText X l⟩⟩ ty) vc vk' (endRef vw xs)) (SLr (a 3)), LST (items ++ xs.map .ref) m, RIT (k + l.length) 0, FRM d9 SLl] h h' → R (.ok .next) ((WD w S).sh h' tk)
theorem cuts_ok (w : World) (S : Shared) {st : Nat → Nat} {pp : Nat → Pos} {X x : List Nat} {tx m : Nat} {D : (Nat → Nat) → (Nat → Nat) → Ents} {d9 : Ents} {s8 : Nat → Array (Option Value)} {s9 : Array (Option Value)} {items : List Value} {ws : List (List Nat)} (hs : ∀ x, SlotsOk x (s8 x) s9)
    (hw : Words none X (x :: ws)) (hl : (x :: ws).length ≤ 60) (hX : X.length < sizeLine) (hi : items.length < sizeLine) :
    ∀ f ∈ ([.use 4 3 fun ρ τ => sxUse w.params (blLR (upd (upd (upd st 2 (ρ 2)) 3 (ρ 0)) 1 (ρ 3)) (ppR pp ⟨794, 21, 794, 73⟩)) X tx (τ 2),
     .use 11 37 fun ρ τ => lcUse w.params (Lθ (tr 34 fun j => τ (3 + j)) tx (τ 2) X) (fun i => ρ (nthN [4, 5, 6, 7, 8, 9, 10, 0, 3] i)) (upd st 2 (ρ 2)) (ppR pp ⟨794, 16, 794, 74⟩) [4, 5, 6, 7, 8, 9, 10, 0, 3] (τ 34) (τ 35) (τ 36)
       (D ρ τ) d9 s8 s9 (x :: ws),
     .swap 12 102 fun ρ τ => swL 1 (ρ 1) (LSTP items m (.ref (ρ 11))) (ret .none),
     .use 12 103 fun ρ τ => pureUse (cIT (ρ 11) 0 (τ 102)) none [(11, LST (strsL (tkl τ 41 60) (x :: ws)) (τ 39))] 0 fun θ => .ok (.ret (.str ⟨⟨x⟩⟩ (τ 41)))] : List CutF), CutF.Ok (WD w S) f := by
  refine okc ?_ (okc ?_ (okc ?_ (okc ?_ ok0)))
  · exact ok_new (fun _ _ => rfl) fun ρ τ => sx_spec w S
  · exact ok_new (fun _ _ => rfl) fun ρ τ => lc_spec w S (keys := [4, 5, 6, 7, 8, 9, 10, 0, 3]) rfl (by decide) hs hX hw hl
  · intro ρ τ
    dsimp only
    rw [LSTP_is]
    exact swL_ok (swap_look (by simp; omega))
  · exact ok_pure fun ρ τ => use_item w S rfl (by decide)
theorem News.lst {ν : Nat → Nat} {o : Obj} {h h' : Heap} (M : News ν [o] h h') : h'.get? (ν 0) = some o ∧ h.objs.size ≤ ν 0 := M.at_ 0 (by simp)
/-- a turn that is not the first, and all behind it -/
theorem rt_later {w : World} {S : Shared} {a st : Nat → Nat} {pp : Nat → Pos} {vc : Value} {d9 : Ents} {R : Result → Shared → Prop} {X : List Nat} {l : List (List (List Nat))} (Rd : Reads X l) :
    ∀ (tx m : Nat) (ks : Nat → Nat) (vk vw : Value) (k : Int) (items : List Value) (p : Pos) (h : Heap) (tk : Nat), items.length + l.length < sizeLine →
      Given (WD w S) a [FRM (frLR w.params ks (a 1) (.str ⟨⟨X⟩⟩ tx) vc vk vw) (SLr (a 3)), LST items m, RIT k (Int.ofNat l.length), FRM d9 SLl] h → RtFin w S a vc d9 R X vk vw k items l h →
      wpCode (model pwR w) ⟨cLRf (a 2) (a 0), none, none, (cLR (a 0), pp 4) :: blLaw (upd st 1 (a 3)) pp, none⟩ R p ((WD w S).sh h tk) := by
  induction Rd with
  | @nil X =>
    intro tx m ks vk vw k items p h tk hi G F
    refine RTe_n w a st pp p k _ d9 _ _ _ G (fun _ z => nomatch z) fun τ h' tk' N => ?_
    refine F [] ks tx m vk h' tk' .nil rfl ?_
    dsimp only [RTe, frC, frF] at N
    simpa [endText, endRef] using N
  | @cons X x ws l hw hl hX Rd ih =>
    intro tx m ks vk vw k items p h tk hi G F
    refine RTb_n w a st ks pp p X x tx m vc vk vw k l.length d9 SLr SLl items ws G (cuts_ok w S (fun x => .inr (.inl ⟨rfl, rfl⟩)) hw hl hX (by simp at hi; omega)) fun ρ τ h1 tk1 hρ N M => ?_
    obtain ⟨m1, m2⟩ := M.lst
    dsimp only [RTb, frC, frF] at N
    rw [LSTP_is, show Int.ofNat (l.length + 1) - 1 = Int.ofNat l.length by simp] at N
    refine ih (τ 41) (m + 1) ks (Value.int k (τ 0)) (Value.ref (ρ 11)) (k + 1) (items ++ [Value.ref (ρ 11)]) _ h1 tk1 (by simp at hi ⊢; omega) N.given fun xs ks' ty m' vk' h2 tk2 L2 K2 N2 => ?_
    have lt : ∀ i, i < 4 → a i < h.objs.size := fun i hi => Heap.lt_size (G.at_ i hi)
    have x2 : h2.get? (ρ 11) = some (LST (strsL (tkl τ 41 60) (x :: ws)) (τ 39)) := N2.keep _ _ m1 fun i hi z => by
      have h1 := lt i hi
      have h2 : h.objs.size ≤ ρ 11 := m2
      have z' : ρ 11 = a i := z
      omega
    refine F (ρ 11 :: xs) ks' ty m' vk' h2 tk2 (.cons _ _ x2 (by rw [tkl_len]; exact hl) m2 (fun z => ?_) (L2.mono N.size)) ⟨_, K2⟩ ?_
    · have := L2.ge _ z
      have := Heap.lt_size m1
      exact absurd this (Nat.not_lt.mpr (by assumption))
    · have N3 := N.trans N2
      rw [List.append_assoc, show k + 1 + (l.length : Int) = k + ((l.length + 1 : Nat) : Int) by omega] at N3
      exact N3
theorem rt_first {w : World} {S : Shared} {a st : Nat → Nat} {pp : Nat → Pos} {vc : Value} {d9 : Ents} {s9 : Array (Option Value)} (h9 : s9 = ⟨[]⟩ ∨ s9 = SLl) {R : Result → Shared → Prop} {X x : List Nat} {ws : List (List Nat)} {l : List (List (List Nat))} (Rd : Reads X ((x :: ws) :: l))
    (tx m : Nat) (ks : Nat → Nat) (vk vw : Value) (k : Int) (items : List Value) (p : Pos) (h : Heap) (tk : Nat) (hi : items.length + l.length + 1 < sizeLine)
      (G : Given (WD w S) a [FRM (EN w.params ks [([116, 101, 120, 116], .str ⟨⟨X⟩⟩ tx), ([99, 111, 117, 110, 116], vc), ([116, 111, 108, 100], .ref (a 1))] 3) ⟨[]⟩, LST items m, RIT k (Int.ofNat (l.length + 1)), FRM d9 s9] h) (F : RtFin w S a vc d9 R X vk vw k items ((x :: ws) :: l) h) :
      wpCode (model pwR w) ⟨cLRf (a 2) (a 0), none, none, (cLR (a 0), pp 4) :: blLaw (upd st 1 (a 3)) pp, none⟩ R p ((WD w S).sh h tk) := by
  cases Rd with
  | cons hw hl hX Rd =>
    refine RTa_n w a st ks pp p X x tx m vc k l.length d9 (fun _ => ⟨[]⟩) s9 items ws G (cuts_ok w S (fun x => ?_) hw hl hX (by omega)) fun ρ τ h1 tk1 hρ N M => ?_
    · rcases h9 with rfl | rfl
      · exact .inl ⟨rfl, rfl⟩
      · exact .inr (.inr ⟨rfl, rfl⟩)
    obtain ⟨m1, m2⟩ := M.lst
    dsimp only [RTa, frC, frF] at N
    rw [LSTP_is, show Int.ofNat (l.length + 1) - 1 = Int.ofNat l.length by simp] at N
    refine rt_later Rd (τ 41) (m + 1) _ (Value.int k (τ 0)) (Value.ref (ρ 11)) (k + 1) (items ++ [Value.ref (ρ 11)]) _ h1 tk1 (by simp at hi ⊢; omega) N.given fun xs ks' ty m' vk' h2 tk2 L2 K2 N2 => ?_
    have lt : ∀ i, i < 4 → a i < h.objs.size := fun i hi => Heap.lt_size (G.at_ i hi)
    have x2 : h2.get? (ρ 11) = some (LST (strsL (tkl τ 41 60) (x :: ws)) (τ 39)) := N2.keep _ _ m1 fun i hi z => by
      have h1 := lt i hi
      have h2 : h.objs.size ≤ ρ 11 := m2
      have z' : ρ 11 = a i := z
      omega
    refine F (ρ 11 :: xs) ks' ty m' vk' h2 tk2 (.cons _ _ x2 (by rw [tkl_len]; exact hl) m2 (fun z => ?_) (L2.mono N.size)) ⟨_, K2⟩ ?_
    · have := L2.ge _ z
      have := Heap.lt_size m1
      exact absurd this (Nat.not_lt.mpr (by assumption))
    · have N3 := N.trans N2
      rw [List.append_assoc, show k + 1 + (l.length : Int) = k + ((l.length + 1 : Nat) : Int) by omega] at N3
      exact N3
end Mine
end
section -- Fi
open PySem PySem.W PyProof.Rows PySem.Calls
set_option Elab.async false
set_option linter.unusedVariables false
set_option maxRecDepth 100000
set_option maxHeartbeats 0
namespace Mine
theorem fn_int2 (w : World) (S : Shared) {name : Str} {id : String} {B : Builtin} {x y z : Int} (slot : Slot "int" name id) (entry : entryFor table id = some B) (args : ∀ a b, argsOk id ⟨[a, b], []⟩) (g : ∀ t u, Gives (B ⟨[.int x t, .int y u], []⟩) (.int z)) :
    FnOk (WD w S) id [.int x, .int y] (.int z) := by
  intro vals hv
  obtain ⟨u, v, rfl, hu, hw⟩ := two_of hv
  obtain ⟨t, rfl⟩ := pv_int hu
  obtain ⟨t', rfl⟩ := pv_int hw
  exact fn_gives slot (fun s => typeIs_int s x t) entry (args _ _) (g t t') fun Q s hp H => H _ _ (Nat.succ_pos _)
theorem fn_fdiv (w : World) (S : Shared) {x y z : Int} (hy : y ≠ 0) (hp : Builtin.divisionGoesByPylong x y = false) (hz : x.fdiv y = z) : FnOk (WD w S) "int.__floordiv__" [.int x, .int y] (.int z) := by
  subst hz
  exact fn_int2 w S F.slot_int_floordiv F.entry_int_floordiv F.args_int_floordiv_2 fun t u => AutoIntG4.int___floordiv___int_int_1 x t y u (by simpa using hy) (by rw [hp]; simp)
theorem fn_fmod (w : World) (S : Shared) {x y z : Int} (hy : y ≠ 0) (hz : x.fmod y = z) : FnOk (WD w S) "int.__mod__" [.int x, .int y] (.int z) := by
  subst hz
  exact fn_int2 w S F.slot_int_mod F.entry_int_mod F.args_int_mod_2 fun t u => AutoIntG6.int___mod___int_int_1 x t y u (by simpa using hy)
theorem fn_mulI (w : World) (S : Shared) {x y z : Int} (hm : IntMulOk x y) (hz : x * y = z) : FnOk (WD w S) "int.__mul__" [.int x, .int y] (.int z) := by
  subst hz
  exact fn_int2 w S F.slot_int_mul F.entry_int_mul F.args_int_mul_2 fun t u => gives_int_mul x y t u hm
theorem fn_addI (w : World) (S : Shared) {x y z : Int} (hz : x + y = z) : FnOk (WD w S) "int.__add__" [.int x, .int y] (.int z) := by
  subst hz
  exact fn_int2 w S F.slot_int_add F.entry_int_add F.args_int_add_2 fun t u => gives_int_add x y t u
theorem fn_subI (w : World) (S : Shared) {x y z : Int} (hz : x - y = z) : FnOk (WD w S) "int.__sub__" [.int x, .int y] (.int z) := by
  subst hz
  exact fn_int2 w S F.slot_int_sub F.entry_int_sub F.args_int_sub_2 fun t u => gives_int_sub x y t u
noncomputable def kAnd (w : World) (Γ : Ctx) (p : Pos) (a ρ τ : Nat → Nat) (x y : Int) (t u : Nat) : Res :=
  rK w Γ a ρ τ 60 0 [] (.call (.builtin "int.__and__") ⟨[.int x t, .int y u], []⟩) p []
noncomputable def kAndx (w : World) (Γ : Ctx) (p : Pos) (a ρ τ : Nat → Nat) (x y : Int) (t u : Nat) : Exp :=
  (some (.inl (.done (.ret (.int (Builtin.bitAnd x y) (τ 0))), p)), [])
theorem kAnd_ok (w : World) (Γ : Ctx) (p : Pos) (a ρ τ : Nat → Nat) (x y : Int) (t u : Nat) : lhsOf [] (kAnd w Γ p a ρ τ x y t u) = rhsOf (kAndx w Γ p a ρ τ x y t u) (kAnd w Γ p a ρ τ x y t u) := by kernel_rfl

theorem fn_andI (w : World) (S : Shared) {x y z : Int} (h : Builtin.bitAnd x y = z) : FnOk (WD w S) "int.__and__" [.int x, .int y] (.int z) := by
  intro vals hv
  obtain ⟨u, v, rfl, hu, hw⟩ := two_of hv
  obtain ⟨t, rfl⟩ := pv_int hu
  obtain ⟨t', rfl⟩ := pv_int hw
  subst h
  exact fn_run (r := .int (Builtin.bitAnd x y)) (n := 60) fun Γ p a ρ τ => kAnd_ok w Γ p a ρ τ x y t t'
end Mine
end
section -- Row
open PySem PySem.W PyProof.Rows PySem.Calls
set_option Elab.async false
set_option linter.unusedVariables false
set_option maxRecDepth 100000
set_option maxHeartbeats 0
namespace Mine
noncomputable def nthI : List Int → Nat → Int
  | [], _ => 0
  | x :: l, n => match n with
    | 0 => x
    | n + 1 => nthI l n
theorem fdiv_nat (x y : Nat) : Int.fdiv (Int.ofNat x) (y : Int) = Int.ofNat (x / y) := by
  show Int.fdiv (x : Int) (y : Int) = ((x / y : Nat) : Int)
  rw [Int.fdiv_eq_ediv_of_nonneg _ (Int.natCast_nonneg y)]; rfl
theorem fmod_nat (x y : Nat) : Int.fmod (Int.ofNat x) (y : Int) = Int.ofNat (x % y) := by
  show Int.fmod (x : Int) (y : Int) = ((x % y : Nat) : Int)
  rw [Int.fmod_eq_emod_of_nonneg _ (Int.natCast_nonneg y)]; rfl
theorem mul_nat (x y : Nat) : Int.ofNat x * (y : Int) = Int.ofNat (x * y) := rfl
theorem add_nat (x y : Nat) : Int.ofNat x + Int.ofNat y = Int.ofNat (x + y) := rfl
/-- the signs of a mode -/
noncomputable def rowOf (m : Nat) : Nat → Nat := nthN [nthN [63, 112, 99, 63, 100, 63, 98, 63, 45, 63, 108, 63, 115, 63, 63, 63] (m / 4096),
  nthN [45, 114] (((m / 64) / 4) % 2),
  nthN [45, 119] (((m / 64) / 2) % 2),
  nthN [45, 120, 83, 115] ((((m / 2048) % 2) * 2) + ((m / 64) % 2)),
  nthN [45, 114] (((m / 8) / 4) % 2),
  nthN [45, 119] (((m / 8) / 2) % 2),
  nthN [45, 120, 83, 115] ((((m / 1024) % 2) * 2) + ((m / 8) % 2)),
  nthN [45, 114] (((m / 1) / 4) % 2),
  nthN [45, 119] (((m / 1) / 2) % 2),
  nthN [45, 120, 84, 116] ((((m / 512) % 2) * 2) + ((m / 1) % 2))]
noncomputable def rowD (m : Nat) : Nat → Int := nthI [Int.ofNat (m / 4096),
  Int.ofNat (m / 64),
  Int.ofNat ((m / 64) / 4),
  Int.ofNat (((m / 64) / 4) % 2),
  Int.ofNat (m / 64),
  Int.ofNat ((m / 64) / 2),
  Int.ofNat (((m / 64) / 2) % 2),
  Int.ofNat (m / 2048),
  Int.ofNat ((m / 2048) % 2),
  Int.ofNat (((m / 2048) % 2) * 2),
  Int.ofNat (m / 64),
  Int.ofNat ((m / 64) % 2),
  Int.ofNat ((((m / 2048) % 2) * 2) + ((m / 64) % 2)),
  Int.ofNat (m / 8),
  Int.ofNat ((m / 8) / 4),
  Int.ofNat (((m / 8) / 4) % 2),
  Int.ofNat (m / 8),
  Int.ofNat ((m / 8) / 2),
  Int.ofNat (((m / 8) / 2) % 2),
  Int.ofNat (m / 1024),
  Int.ofNat ((m / 1024) % 2),
  Int.ofNat (((m / 1024) % 2) * 2),
  Int.ofNat (m / 8),
  Int.ofNat ((m / 8) % 2),
  Int.ofNat ((((m / 1024) % 2) * 2) + ((m / 8) % 2)),
  Int.ofNat (m / 1),
  Int.ofNat ((m / 1) / 4),
  Int.ofNat (((m / 1) / 4) % 2),
  Int.ofNat (m / 1),
  Int.ofNat ((m / 1) / 2),
  Int.ofNat (((m / 1) / 2) % 2),
  Int.ofNat (m / 512),
  Int.ofNat ((m / 512) % 2),
  Int.ofNat (((m / 512) % 2) * 2),
  Int.ofNat (m / 1),
  Int.ofNat ((m / 1) % 2),
  Int.ofNat ((((m / 512) % 2) * 2) + ((m / 1) % 2))]
noncomputable def ten (r : Nat → Nat) : List Nat := [r 0, r 1, r 2, r 3, r 4, r 5, r 6, r 7, r 8, r 9]
noncomputable def cROW (M : Int) (t : Nat) : Code := .call (.ref 798) ⟨[.int M t], []⟩
noncomputable def ROW (w : World) (a st : Nat → Nat) (pp : Nat → Pos) (p : Pos) (M : Int) (t : Nat) (d : Nat → Int) (r : Nat → Nat) : Fr :=
  frC (blLaw st pp) (cROW M t) p 0 []
    [.fn "int.__floordiv__" [.int M, .int 4096] (.int (d 0)),
    .fn "str.__getitem__" [.str (s [63, 112, 99, 63, 100, 63, 98, 63, 45, 63, 108, 63, 115, 63, 63, 63]), .int (d 0)] (.str ⟨⟨[r 0]⟩⟩),
    .fn "int.__floordiv__" [.int M, .int 64] (.int (d 1)),
    .fn "int.__floordiv__" [.int (d 1), .int 4] (.int (d 2)),
    .fn "int.__mod__" [.int (d 2), .int 2] (.int (d 3)),
    .fn "str.__getitem__" [.str (s [45, 114]), .int (d 3)] (.str ⟨⟨[r 1]⟩⟩),
    .fn "int.__floordiv__" [.int M, .int 64] (.int (d 4)),
    .fn "int.__floordiv__" [.int (d 4), .int 2] (.int (d 5)),
    .fn "int.__mod__" [.int (d 5), .int 2] (.int (d 6)),
    .fn "str.__getitem__" [.str (s [45, 119]), .int (d 6)] (.str ⟨⟨[r 2]⟩⟩),
    .fn "str.__add__" [.str ⟨⟨[r 1]⟩⟩, .str ⟨⟨[r 2]⟩⟩] (.str ⟨⟨[r 1, r 2]⟩⟩),
    .fn "int.__floordiv__" [.int M, .int 2048] (.int (d 7)),
    .fn "int.__mod__" [.int (d 7), .int 2] (.int (d 8)),
    .fn "int.__mul__" [.int (d 8), .int 2] (.int (d 9)),
    .fn "int.__floordiv__" [.int M, .int 64] (.int (d 10)),
    .fn "int.__mod__" [.int (d 10), .int 2] (.int (d 11)),
    .fn "int.__add__" [.int (d 9), .int (d 11)] (.int (d 12)),
    .fn "str.__getitem__" [.str (s [45, 120, 83, 115]), .int (d 12)] (.str ⟨⟨[r 3]⟩⟩),
    .fn "str.__add__" [.str ⟨⟨[r 1, r 2]⟩⟩, .str ⟨⟨[r 3]⟩⟩] (.str ⟨⟨[r 1, r 2, r 3]⟩⟩),
    .fn "str.__add__" [.str ⟨⟨[r 0]⟩⟩, .str ⟨⟨[r 1, r 2, r 3]⟩⟩] (.str ⟨⟨[r 0, r 1, r 2, r 3]⟩⟩),
    .fn "int.__floordiv__" [.int M, .int 8] (.int (d 13)),
    .fn "int.__floordiv__" [.int (d 13), .int 4] (.int (d 14)),
    .fn "int.__mod__" [.int (d 14), .int 2] (.int (d 15)),
    .fn "str.__getitem__" [.str (s [45, 114]), .int (d 15)] (.str ⟨⟨[r 4]⟩⟩),
    .fn "int.__floordiv__" [.int M, .int 8] (.int (d 16)),
    .fn "int.__floordiv__" [.int (d 16), .int 2] (.int (d 17)),
    .fn "int.__mod__" [.int (d 17), .int 2] (.int (d 18)),
    .fn "str.__getitem__" [.str (s [45, 119]), .int (d 18)] (.str ⟨⟨[r 5]⟩⟩),
    .fn "str.__add__" [.str ⟨⟨[r 4]⟩⟩, .str ⟨⟨[r 5]⟩⟩] (.str ⟨⟨[r 4, r 5]⟩⟩),
    .fn "int.__floordiv__" [.int M, .int 1024] (.int (d 19)),
    .fn "int.__mod__" [.int (d 19), .int 2] (.int (d 20)),
    .fn "int.__mul__" [.int (d 20), .int 2] (.int (d 21)),
    .fn "int.__floordiv__" [.int M, .int 8] (.int (d 22)),
    .fn "int.__mod__" [.int (d 22), .int 2] (.int (d 23)),
    .fn "int.__add__" [.int (d 21), .int (d 23)] (.int (d 24)),
    .fn "str.__getitem__" [.str (s [45, 120, 83, 115]), .int (d 24)] (.str ⟨⟨[r 6]⟩⟩),
    .fn "str.__add__" [.str ⟨⟨[r 4, r 5]⟩⟩, .str ⟨⟨[r 6]⟩⟩] (.str ⟨⟨[r 4, r 5, r 6]⟩⟩),
    .fn "str.__add__" [.str ⟨⟨[r 0, r 1, r 2, r 3]⟩⟩, .str ⟨⟨[r 4, r 5, r 6]⟩⟩] (.str ⟨⟨[r 0, r 1, r 2, r 3, r 4, r 5, r 6]⟩⟩),
    .fn "int.__floordiv__" [.int M, .int 1] (.int (d 25)),
    .fn "int.__floordiv__" [.int (d 25), .int 4] (.int (d 26)),
    .fn "int.__mod__" [.int (d 26), .int 2] (.int (d 27)),
    .fn "str.__getitem__" [.str (s [45, 114]), .int (d 27)] (.str ⟨⟨[r 7]⟩⟩),
    .fn "int.__floordiv__" [.int M, .int 1] (.int (d 28)),
    .fn "int.__floordiv__" [.int (d 28), .int 2] (.int (d 29)),
    .fn "int.__mod__" [.int (d 29), .int 2] (.int (d 30)),
    .fn "str.__getitem__" [.str (s [45, 119]), .int (d 30)] (.str ⟨⟨[r 8]⟩⟩),
    .fn "str.__add__" [.str ⟨⟨[r 7]⟩⟩, .str ⟨⟨[r 8]⟩⟩] (.str ⟨⟨[r 7, r 8]⟩⟩),
    .fn "int.__floordiv__" [.int M, .int 512] (.int (d 31)),
    .fn "int.__mod__" [.int (d 31), .int 2] (.int (d 32)),
    .fn "int.__mul__" [.int (d 32), .int 2] (.int (d 33)),
    .fn "int.__floordiv__" [.int M, .int 1] (.int (d 34)),
    .fn "int.__mod__" [.int (d 34), .int 2] (.int (d 35)),
    .fn "int.__add__" [.int (d 33), .int (d 35)] (.int (d 36)),
    .fn "str.__getitem__" [.str (s [45, 120, 84, 116]), .int (d 36)] (.str ⟨⟨[r 9]⟩⟩),
    .fn "str.__add__" [.str ⟨⟨[r 7, r 8]⟩⟩, .str ⟨⟨[r 9]⟩⟩] (.str ⟨⟨[r 7, r 8, r 9]⟩⟩),
    .fn "str.__add__" [.str ⟨⟨[r 0, r 1, r 2, r 3, r 4, r 5, r 6]⟩⟩, .str ⟨⟨[r 7, r 8, r 9]⟩⟩] (.str ⟨⟨[r 0, r 1, r 2, r 3, r 4, r 5, r 6, r 7, r 8, r 9]⟩⟩)]
    [] (574) (3298278743857403542892614987864331419279692740923672689983259056745648392521157568164637622580752898449610161156616695858364619724928976233148444509794755911874846585957228109470984619672322102343882209828778125130439216283133904607721886550758901316755405355918300497847785714047644492676365359827033295474505872125424172682996797578598220178998777109092790573669529194103287504591554920789695959037729259899950040138324424152736855757413312303684779598680692161866536364881916320393595973555150706049791298728865721705935065136714032019684676956974884063649145682975263654732936027929567951091827805447139856607729407896714512653428882359487975502383411127859016717664630905746019891777021304012630884004317831732512669243640655539575670494822240279875636131995897889302411710886072984637248905716849175246238114491702205367549442482919368644869533496459617437663546135600393651885178880) (fun _ τ => .inl (.done (.ret (.str ⟨⟨ten r⟩⟩ (τ 106))), ⟨779, 11, 779, 14⟩)) (fun _ _ => []) (fun _ _ => [])
theorem ROW_n (w : World) (a st : Nat → Nat) (pp : Nat → Pos) (p : Pos) (M : Int) (t : Nat) (d : Nat → Int) (r : Nat → Nat) : (ROW w a st pp p M t d r).SpecN w a := Fr.specN fun ρ τ => by kernel_rfl

theorem row_cuts (w : World) (S : Shared) (m : Nat) (hm : m < 65536) : ∀ f ∈ ([.fn "int.__floordiv__" [.int (Int.ofNat m), .int 4096] (.int (rowD m 0)),
    .fn "str.__getitem__" [.str (s [63, 112, 99, 63, 100, 63, 98, 63, 45, 63, 108, 63, 115, 63, 63, 63]), .int (rowD m 0)] (.str ⟨⟨[rowOf m 0]⟩⟩),
    .fn "int.__floordiv__" [.int (Int.ofNat m), .int 64] (.int (rowD m 1)),
    .fn "int.__floordiv__" [.int (rowD m 1), .int 4] (.int (rowD m 2)),
    .fn "int.__mod__" [.int (rowD m 2), .int 2] (.int (rowD m 3)),
    .fn "str.__getitem__" [.str (s [45, 114]), .int (rowD m 3)] (.str ⟨⟨[rowOf m 1]⟩⟩),
    .fn "int.__floordiv__" [.int (Int.ofNat m), .int 64] (.int (rowD m 4)),
    .fn "int.__floordiv__" [.int (rowD m 4), .int 2] (.int (rowD m 5)),
    .fn "int.__mod__" [.int (rowD m 5), .int 2] (.int (rowD m 6)),
    .fn "str.__getitem__" [.str (s [45, 119]), .int (rowD m 6)] (.str ⟨⟨[rowOf m 2]⟩⟩),
    .fn "str.__add__" [.str ⟨⟨[rowOf m 1]⟩⟩, .str ⟨⟨[rowOf m 2]⟩⟩] (.str ⟨⟨[rowOf m 1, rowOf m 2]⟩⟩),
    .fn "int.__floordiv__" [.int (Int.ofNat m), .int 2048] (.int (rowD m 7)),
    .fn "int.__mod__" [.int (rowD m 7), .int 2] (.int (rowD m 8)),
    .fn "int.__mul__" [.int (rowD m 8), .int 2] (.int (rowD m 9)),
    .fn "int.__floordiv__" [.int (Int.ofNat m), .int 64] (.int (rowD m 10)),
    .fn "int.__mod__" [.int (rowD m 10), .int 2] (.int (rowD m 11)),
    .fn "int.__add__" [.int (rowD m 9), .int (rowD m 11)] (.int (rowD m 12)),
    .fn "str.__getitem__" [.str (s [45, 120, 83, 115]), .int (rowD m 12)] (.str ⟨⟨[rowOf m 3]⟩⟩),
    .fn "str.__add__" [.str ⟨⟨[rowOf m 1, rowOf m 2]⟩⟩, .str ⟨⟨[rowOf m 3]⟩⟩] (.str ⟨⟨[rowOf m 1, rowOf m 2, rowOf m 3]⟩⟩),
    .fn "str.__add__" [.str ⟨⟨[rowOf m 0]⟩⟩, .str ⟨⟨[rowOf m 1, rowOf m 2, rowOf m 3]⟩⟩] (.str ⟨⟨[rowOf m 0, rowOf m 1, rowOf m 2, rowOf m 3]⟩⟩),
    .fn "int.__floordiv__" [.int (Int.ofNat m), .int 8] (.int (rowD m 13)),
    .fn "int.__floordiv__" [.int (rowD m 13), .int 4] (.int (rowD m 14)),
    .fn "int.__mod__" [.int (rowD m 14), .int 2] (.int (rowD m 15)),
    .fn "str.__getitem__" [.str (s [45, 114]), .int (rowD m 15)] (.str ⟨⟨[rowOf m 4]⟩⟩),
    .fn "int.__floordiv__" [.int (Int.ofNat m), .int 8] (.int (rowD m 16)),
    .fn "int.__floordiv__" [.int (rowD m 16), .int 2] (.int (rowD m 17)),
    .fn "int.__mod__" [.int (rowD m 17), .int 2] (.int (rowD m 18)),
    .fn "str.__getitem__" [.str (s [45, 119]), .int (rowD m 18)] (.str ⟨⟨[rowOf m 5]⟩⟩),
    .fn "str.__add__" [.str ⟨⟨[rowOf m 4]⟩⟩, .str ⟨⟨[rowOf m 5]⟩⟩] (.str ⟨⟨[rowOf m 4, rowOf m 5]⟩⟩),
    .fn "int.__floordiv__" [.int (Int.ofNat m), .int 1024] (.int (rowD m 19)),
    .fn "int.__mod__" [.int (rowD m 19), .int 2] (.int (rowD m 20)),
    .fn "int.__mul__" [.int (rowD m 20), .int 2] (.int (rowD m 21)),
    .fn "int.__floordiv__" [.int (Int.ofNat m), .int 8] (.int (rowD m 22)),
    .fn "int.__mod__" [.int (rowD m 22), .int 2] (.int (rowD m 23)),
    .fn "int.__add__" [.int (rowD m 21), .int (rowD m 23)] (.int (rowD m 24)),
    .fn "str.__getitem__" [.str (s [45, 120, 83, 115]), .int (rowD m 24)] (.str ⟨⟨[rowOf m 6]⟩⟩),
    .fn "str.__add__" [.str ⟨⟨[rowOf m 4, rowOf m 5]⟩⟩, .str ⟨⟨[rowOf m 6]⟩⟩] (.str ⟨⟨[rowOf m 4, rowOf m 5, rowOf m 6]⟩⟩),
    .fn "str.__add__" [.str ⟨⟨[rowOf m 0, rowOf m 1, rowOf m 2, rowOf m 3]⟩⟩, .str ⟨⟨[rowOf m 4, rowOf m 5, rowOf m 6]⟩⟩] (.str ⟨⟨[rowOf m 0, rowOf m 1, rowOf m 2, rowOf m 3, rowOf m 4, rowOf m 5, rowOf m 6]⟩⟩),
    .fn "int.__floordiv__" [.int (Int.ofNat m), .int 1] (.int (rowD m 25)),
    .fn "int.__floordiv__" [.int (rowD m 25), .int 4] (.int (rowD m 26)),
    .fn "int.__mod__" [.int (rowD m 26), .int 2] (.int (rowD m 27)),
    .fn "str.__getitem__" [.str (s [45, 114]), .int (rowD m 27)] (.str ⟨⟨[rowOf m 7]⟩⟩),
    .fn "int.__floordiv__" [.int (Int.ofNat m), .int 1] (.int (rowD m 28)),
    .fn "int.__floordiv__" [.int (rowD m 28), .int 2] (.int (rowD m 29)),
    .fn "int.__mod__" [.int (rowD m 29), .int 2] (.int (rowD m 30)),
    .fn "str.__getitem__" [.str (s [45, 119]), .int (rowD m 30)] (.str ⟨⟨[rowOf m 8]⟩⟩),
    .fn "str.__add__" [.str ⟨⟨[rowOf m 7]⟩⟩, .str ⟨⟨[rowOf m 8]⟩⟩] (.str ⟨⟨[rowOf m 7, rowOf m 8]⟩⟩),
    .fn "int.__floordiv__" [.int (Int.ofNat m), .int 512] (.int (rowD m 31)),
    .fn "int.__mod__" [.int (rowD m 31), .int 2] (.int (rowD m 32)),
    .fn "int.__mul__" [.int (rowD m 32), .int 2] (.int (rowD m 33)),
    .fn "int.__floordiv__" [.int (Int.ofNat m), .int 1] (.int (rowD m 34)),
    .fn "int.__mod__" [.int (rowD m 34), .int 2] (.int (rowD m 35)),
    .fn "int.__add__" [.int (rowD m 33), .int (rowD m 35)] (.int (rowD m 36)),
    .fn "str.__getitem__" [.str (s [45, 120, 84, 116]), .int (rowD m 36)] (.str ⟨⟨[rowOf m 9]⟩⟩),
    .fn "str.__add__" [.str ⟨⟨[rowOf m 7, rowOf m 8]⟩⟩, .str ⟨⟨[rowOf m 9]⟩⟩] (.str ⟨⟨[rowOf m 7, rowOf m 8, rowOf m 9]⟩⟩),
    .fn "str.__add__" [.str ⟨⟨[rowOf m 0, rowOf m 1, rowOf m 2, rowOf m 3, rowOf m 4, rowOf m 5, rowOf m 6]⟩⟩, .str ⟨⟨[rowOf m 7, rowOf m 8, rowOf m 9]⟩⟩] (.str ⟨⟨[rowOf m 0, rowOf m 1, rowOf m 2, rowOf m 3, rowOf m 4, rowOf m 5, rowOf m 6, rowOf m 7, rowOf m 8, rowOf m 9]⟩⟩)] : List CutF), CutF.Ok (WD w S) f := by
  refine okc ?_ (okc ?_ (okc ?_ (okc ?_ (okc ?_ (okc ?_ (okc ?_ (okc ?_ (okc ?_ (okc ?_ (okc ?_ (okc ?_ (okc ?_ (okc ?_ (okc ?_ (okc ?_ (okc ?_ (okc ?_ (okc ?_ (okc ?_ (okc ?_ (okc ?_ (okc ?_ (okc ?_ (okc ?_ (okc ?_ (okc ?_ (okc ?_ (okc ?_ (okc ?_ (okc ?_ (okc ?_ (okc ?_ (okc ?_ (okc ?_ (okc ?_ (okc ?_ (okc ?_ (okc ?_ (okc ?_ (okc ?_ (okc ?_ (okc ?_ (okc ?_ (okc ?_ (okc ?_ (okc ?_ (okc ?_ (okc ?_ (okc ?_ (okc ?_ (okc ?_ (okc ?_ (okc ?_ (okc ?_ (okc ?_ ok0)))))))))))))))))))))))))))))))))))))))))))))))))))))))
  · exact fn_fdiv w S (by decide) (PyProof.noPylong_small (by decide)) (fdiv_nat (m) 4096)
  · refine fn_at w S rfl (by decide) (nthN_get [63, 112, 99, 63, 100, 63, 98, 63, 45, 63, 108, 63, 115, 63, 63, 63] (m / 4096) ?_); show _ < 16; omega
  · exact fn_fdiv w S (by decide) (PyProof.noPylong_small (by decide)) (fdiv_nat (m) 64)
  · exact fn_fdiv w S (by decide) (PyProof.noPylong_small (by decide)) (fdiv_nat ((m / 64)) 4)
  · exact fn_fmod w S (by decide) (fmod_nat (((m / 64) / 4)) 2)
  · refine fn_at w S rfl (by decide) (nthN_get [45, 114] (((m / 64) / 4) % 2) ?_); show _ < 2; omega
  · exact fn_fdiv w S (by decide) (PyProof.noPylong_small (by decide)) (fdiv_nat (m) 64)
  · exact fn_fdiv w S (by decide) (PyProof.noPylong_small (by decide)) (fdiv_nat ((m / 64)) 2)
  · exact fn_fmod w S (by decide) (fmod_nat (((m / 64) / 2)) 2)
  · refine fn_at w S rfl (by decide) (nthN_get [45, 119] (((m / 64) / 2) % 2) ?_); show _ < 2; omega
  · exact fn_addL w S (by simp) (by simp) (by show _ ≤ 16777216; simp)
  · exact fn_fdiv w S (by decide) (PyProof.noPylong_small (by decide)) (fdiv_nat (m) 2048)
  · exact fn_fmod w S (by decide) (fmod_nat ((m / 2048)) 2)
  · exact fn_mulI w S (.of_right (by decide)) (mul_nat (((m / 2048) % 2)) 2)
  · exact fn_fdiv w S (by decide) (PyProof.noPylong_small (by decide)) (fdiv_nat (m) 64)
  · exact fn_fmod w S (by decide) (fmod_nat ((m / 64)) 2)
  · exact fn_addI w S (add_nat ((((m / 2048) % 2) * 2)) (((m / 64) % 2)))
  · refine fn_at w S rfl (by decide) (nthN_get [45, 120, 83, 115] ((((m / 2048) % 2) * 2) + ((m / 64) % 2)) ?_); show _ < 4; omega
  · exact fn_addL w S (by simp) (by simp) (by show _ ≤ 16777216; simp)
  · exact fn_addL w S (by simp) (by simp) (by show _ ≤ 16777216; simp)
  · exact fn_fdiv w S (by decide) (PyProof.noPylong_small (by decide)) (fdiv_nat (m) 8)
  · exact fn_fdiv w S (by decide) (PyProof.noPylong_small (by decide)) (fdiv_nat ((m / 8)) 4)
  · exact fn_fmod w S (by decide) (fmod_nat (((m / 8) / 4)) 2)
  · refine fn_at w S rfl (by decide) (nthN_get [45, 114] (((m / 8) / 4) % 2) ?_); show _ < 2; omega
  · exact fn_fdiv w S (by decide) (PyProof.noPylong_small (by decide)) (fdiv_nat (m) 8)
  · exact fn_fdiv w S (by decide) (PyProof.noPylong_small (by decide)) (fdiv_nat ((m / 8)) 2)
  · exact fn_fmod w S (by decide) (fmod_nat (((m / 8) / 2)) 2)
  · refine fn_at w S rfl (by decide) (nthN_get [45, 119] (((m / 8) / 2) % 2) ?_); show _ < 2; omega
  · exact fn_addL w S (by simp) (by simp) (by show _ ≤ 16777216; simp)
  · exact fn_fdiv w S (by decide) (PyProof.noPylong_small (by decide)) (fdiv_nat (m) 1024)
  · exact fn_fmod w S (by decide) (fmod_nat ((m / 1024)) 2)
  · exact fn_mulI w S (.of_right (by decide)) (mul_nat (((m / 1024) % 2)) 2)
  · exact fn_fdiv w S (by decide) (PyProof.noPylong_small (by decide)) (fdiv_nat (m) 8)
  · exact fn_fmod w S (by decide) (fmod_nat ((m / 8)) 2)
  · exact fn_addI w S (add_nat ((((m / 1024) % 2) * 2)) (((m / 8) % 2)))
  · refine fn_at w S rfl (by decide) (nthN_get [45, 120, 83, 115] ((((m / 1024) % 2) * 2) + ((m / 8) % 2)) ?_); show _ < 4; omega
  · exact fn_addL w S (by simp) (by simp) (by show _ ≤ 16777216; simp)
  · exact fn_addL w S (by simp) (by simp) (by show _ ≤ 16777216; simp)
  · exact fn_fdiv w S (by decide) (PyProof.noPylong_small (by decide)) (fdiv_nat (m) 1)
  · exact fn_fdiv w S (by decide) (PyProof.noPylong_small (by decide)) (fdiv_nat ((m / 1)) 4)
  · exact fn_fmod w S (by decide) (fmod_nat (((m / 1) / 4)) 2)
  · refine fn_at w S rfl (by decide) (nthN_get [45, 114] (((m / 1) / 4) % 2) ?_); show _ < 2; omega
  · exact fn_fdiv w S (by decide) (PyProof.noPylong_small (by decide)) (fdiv_nat (m) 1)
  · exact fn_fdiv w S (by decide) (PyProof.noPylong_small (by decide)) (fdiv_nat ((m / 1)) 2)
  · exact fn_fmod w S (by decide) (fmod_nat (((m / 1) / 2)) 2)
  · refine fn_at w S rfl (by decide) (nthN_get [45, 119] (((m / 1) / 2) % 2) ?_); show _ < 2; omega
  · exact fn_addL w S (by simp) (by simp) (by show _ ≤ 16777216; simp)
  · exact fn_fdiv w S (by decide) (PyProof.noPylong_small (by decide)) (fdiv_nat (m) 512)
  · exact fn_fmod w S (by decide) (fmod_nat ((m / 512)) 2)
  · exact fn_mulI w S (.of_right (by decide)) (mul_nat (((m / 512) % 2)) 2)
  · exact fn_fdiv w S (by decide) (PyProof.noPylong_small (by decide)) (fdiv_nat (m) 1)
  · exact fn_fmod w S (by decide) (fmod_nat ((m / 1)) 2)
  · exact fn_addI w S (add_nat ((((m / 512) % 2) * 2)) (((m / 1) % 2)))
  · refine fn_at w S rfl (by decide) (nthN_get [45, 120, 84, 116] ((((m / 512) % 2) * 2) + ((m / 1) % 2)) ?_); show _ < 4; omega
  · exact fn_addL w S (by simp) (by simp) (by show _ ≤ 16777216; simp)
  · exact fn_addL w S (by simp) (by simp) (by show _ ≤ 16777216; simp)
theorem given0 {W : Wd} {h : Heap} (top : W.Top h) (big : W.n₀ ≤ h.objs.size) : Given W (fun _ => 0) [] h := ⟨top, big, fun i hi => absurd hi (Nat.not_lt_zero _), fun i hi => absurd hi (Nat.not_lt_zero _), fun i j hi => absurd hi (Nat.not_lt_zero _)⟩
theorem Nx.all {W : Wd} {a : Nat → Nat} {h h' : Heap} (N : Nx W 0 a [] h h') : ∀ b o, h.get? b = some o → h'.get? b = some o := fun b o hb => N.keep b o hb fun i hi => absurd hi (Nat.not_lt_zero _)
noncomputable def rowUse (m t : Nat) (st : Nat → Nat) (pp : Nat → Pos) : Use := pureUse (cROW (Int.ofNat m) t) (some (blLaw st pp)) [] 1 fun θ => .ok (.ret (.str ⟨⟨ten (rowOf m)⟩⟩ (θ 0)))
theorem row_spec (w : World) (S : Shared) {ρ st : Nat → Nat} {pp : Nat → Pos} {m t : Nat} (hm : m < 65536) : SpecI (WD w S) ρ (rowUse m t st pp) := by
  refine spec_pure fun Γ p h tk R hc' hbl top big pre fin => ?_
  rw [hbl _ rfl]
  exact ROW_n w (fun _ => 0) st pp p (Int.ofNat m) t (rowD m) (rowOf m) (given0 top big) (row_cuts w S m hm) fun τ h' tk' N => fin (nthN [τ 106]) h' tk' (fun j hj => nthN_ge _ j hj) N.size N.all
end Mine
end
section -- Fm
open PySem PySem.W PyProof.Rows PySem.Calls
set_option Elab.async false
set_option linter.unusedVariables false
set_option maxRecDepth 100000
set_option maxHeartbeats 0
namespace Mine
noncomputable def xFM : Stmt := st [46]
noncomputable def eFM (fr : Nat) : Env := envOf xFM (s [102, 105, 108, 101, 109, 111, 100, 101, 46, 60, 108, 111, 99, 97, 108, 115, 62, 46]) 791 790 fr
noncomputable def cFMf (it fr : Nat) : Code := forC (nthS (fBody xFM) 1) it (eFM fr)
noncomputable def cFM (fr : Nat) : Code := .func (fBody xFM) (eFM fr)
noncomputable def ENUM (it i : Nat) (last : Value) : Obj := ⟨.type "enumerate", none, .fields ⟨[.none, .bool false, .ref it, .int (Int.ofNat i) 0, .none, last]⟩, ⟨[]⟩⟩
noncomputable def TIT (l : Value) (i : Nat) : Obj := ⟨.type "tuple_iterator", none, .fields ⟨[l, .int (Int.ofNat i) 0]⟩, ⟨[]⟩⟩
/-- filemode's frame, the list, the iterators -/
noncomputable def FMO (P : Params) (ks : Nat → Nat) (a : Nat → Nat) (M : Int) (t : Nat) (vi vt vb vc : Value) (vs : List Value) (i : Nat) (last tup : Value) : List Obj :=
  [FRM (EN P ks [([109, 111, 100, 101], .int M t), ([112, 101, 114, 109], .ref (a 1)), ([105, 110, 100, 101, 120], vi), ([116, 97, 98, 108, 101], vt), ([98, 105, 116], vb), ([99, 104, 97, 114], vc)] 6) ⟨[]⟩, LST vs i, ENUM (a 3) i last, TIT tup i]
/-- behind an owned tuple: what a turn of a for goes on with -/
noncomputable def restF (t : PySem.Expr) (it : Value) (b o : List Stmt) (e : Env) (v : Value) : Sem PySem.Fin := do
  assign t e v
  match ← execs b e with
  | .next | .cont => again (.forLoop t it b o e)
  | .brk => pure (.done .next)
  | .ret v => pure (.done (.ret v))
noncomputable def ownF (x : Stmt) (it : Nat) (e : Env) (v : Nat) (m : Sem Unit) : Sem PySem.Fin := match x with
  | .For (.Tuple es c q) _ b o _ => ((m >>= fun _ => restF (.Tuple es c q) (.ref it) b o e (.ref v)).onRaise (fun x => do noteFrame x e; theTreesLotGoes x))
  | _ => .unsupported ""
noncomputable def own0 (it v : Nat) : Sem Unit := letOwnedTupleGo (.Tuple [] 0 ⟨0, 0, 0, 0⟩) (.ref it) (.ref v)
noncomputable def own1 (it : Nat) : Sem Unit := updateField it 0 .none
theorem wp_own {M : Model} {Γ : Ctx} {Q : Unit → Pos → Shared → Prop} {E : Value → Pos → Shared → Prop} {p : Pos} {s : Shared} {it v : Nat} {n : String} {vs : List Value} {d : Option Addr} {sl : Array (Option Value)} (ho : s.heap.get? it = some ⟨.type n, d, .fields ⟨.int (Int.ofNat v) 0 :: vs⟩, sl⟩)
    (hn : ["enumerate", "zip", "dict_itemiterator", "dict_reverseitemiterator", "odict_iterator", "itertools.zip_longest", "itertools.pairwise"].contains n = true) (h : Sem.wp M Γ (own1 it) Q E p s) : Sem.wp M Γ (own0 it v) Q E p s := by
  unfold own0 letOwnedTupleGo
  simp only []
  rw [Sem.wp_bind', Sem.wp_load_of _ _ _ _ _ ho]
  simp only []
  have e : ((⟨Value.int (Int.ofNat v) 0 :: vs⟩ : Array Value)[0]? == some (rawInt v)) = true := by
    show (some (Value.int (Int.ofNat v) 0) == some (Value.int (Int.ofNat v) 0)) = true
    simp
  rw [if_pos (by rw [hn, e]; rfl)]
  exact h
theorem swap_own {W : Wd} {ρ : Nat → Nat} {x : Stmt} {e : Env} {k it v : Nat} {n : String} {vs : List Value} (hk : ρ k = it) (hn : ["enumerate", "zip", "dict_itemiterator", "dict_reverseitemiterator", "odict_iterator", "itertools.zip_longest", "itertools.pairwise"].contains n = true) :
    SwapI W ρ ⟨none, [(k, ⟨.type n, none, .fields ⟨.int (Int.ofNat v) 0 :: vs⟩, ⟨[]⟩⟩)], ownF x it e v (own0 it v), ownF x it e v (own1 it)⟩ := by
  intro Γ p h tk Q E top pre _ H
  have ho : (W.sh h tk).heap.get? it = some ⟨.type n, none, .fields ⟨.int (Int.ofNat v) 0 :: vs⟩, ⟨[]⟩⟩ := hk ▸ pre (k, _) (List.mem_singleton.mpr rfl)
  show Sem.wp W.M Γ (ownF x it e v (own0 it v)) Q E p (W.sh h tk)
  have H' : Sem.wp W.M Γ (ownF x it e v (own1 it)) Q E p (W.sh h tk) := H
  unfold ownF at H' ⊢
  split at H'
  · rw [Sem.wp_onRaise, Sem.wp_bind'] at H' ⊢
    exact wp_own ho hn H'
  · exact H'.elim
noncomputable def swE0 (x : Stmt) (e : Env) (ρ : Nat → Nat) (i : Int) (v : Nat) : Swap := ⟨none, [(2, ⟨.type "enumerate", none, .fields ⟨[.int (Int.ofNat (ρ 4)) 0, .bool false, .ref (ρ 3), .int i 0, .none, .ref v]⟩, ⟨[]⟩⟩)], ownF x (ρ 2) e (ρ 4) (own0 (ρ 2) (ρ 4)), ownF x (ρ 2) e (ρ 4) (own1 (ρ 2))⟩
theorem swE0_r : @swE0 = @swE0 := rfl
lay_quick Mine.swE0
name_quick swEq for Mine.swE0 by Mine.swE0_r
noncomputable abbrev swE (x : Stmt) (e : Env) (ρ : Nat → Nat) (i : Int) (v : Nat) : Swap := PySem.W.Fast.swEq x e ρ i v
theorem swE_ok {W : Wd} {ρ' : Nat → Nat} {x : Stmt} {e : Env} {ρ : Nat → Nat} {i : Int} {v : Nat} (h : SwapI W ρ' (swE0 x e ρ i v)) : SwapI W ρ' (swE x e ρ i v) := by
  rw [PySem.W.Fast.swEq_eq] at h
  exact h

noncomputable def FM0k10 (w : World) (a ks st : Nat → Nat) (pp : Nat → Pos) (p q : Pos) (M : Int) (t : Nat) (d : Nat → Int) : Fr :=
  frC ((cFM (a 0), q) :: blLaw st pp) (cFMf (a 2) (a 0)) p 4 [FRM (EN w.params ks [([109, 111, 100, 101], .int M t), ([112, 101, 114, 109], .ref (a 1))] 2) ⟨[]⟩, LST [] 0, ENUM (a 3) 0 .none, TIT (.ref 784) 0]
    [.swap 5 1 fun ρ τ => swE (nthS (fBody xFM) 1) (eFM (ρ 0)) ρ 1 759,
     .fn "int.__and__" [.int M, .int 61440] (.int (d 61440)),
     .fn "int.__eq__" [.int (d 61440), .int 40960] (.bool true)]
    [] (250) (36056889793854941752979849872292952400996124628936148992083551256863622935009506069803527626133043420539886650702060639379743025242974943270915882493771681603111699043538585045619021498457809695321003221012367132776027300528832437583150992622018857117582041763366637314289580286689607008519627086857423105234128655225903306220738763310088368272657283557547783355594452668750894790008899885414576848895117378000394258935428366574372497186022859288200871941) (fun _ _ => .inl (.again (cFMf (a 2) (a 0)), ⟨760, 25, 760, 30⟩)) (fun _ τ => (FMO w.params (nthN [ks 0, ks 1, τ 1, τ 2, τ 3, τ 4]) a M t (.int 0 (τ 0)) (.ref 759) (.int 40960 1252) (.str (s [108]) 1280) [.str (s [108]) 1280] 1 (.ref 759) (.ref 784))) (fun _ _ => [])
theorem FM0k10_n (w : World) (a ks st : Nat → Nat) (pp : Nat → Pos) (p q : Pos) (M : Int) (t : Nat) (d : Nat → Int) : (FM0k10 w a ks st pp p q M t d).SpecN w a := Fr.specN fun ρ τ => by kernel_rfl

noncomputable def FM0k12 (w : World) (a ks st : Nat → Nat) (pp : Nat → Pos) (p q : Pos) (M : Int) (t : Nat) (d : Nat → Int) : Fr :=
  frC ((cFM (a 0), q) :: blLaw st pp) (cFMf (a 2) (a 0)) p 4 [FRM (EN w.params ks [([109, 111, 100, 101], .int M t), ([112, 101, 114, 109], .ref (a 1))] 2) ⟨[]⟩, LST [] 0, ENUM (a 3) 0 .none, TIT (.ref 784) 0]
    [.swap 5 1 fun ρ τ => swE (nthS (fBody xFM) 1) (eFM (ρ 0)) ρ 1 759,
     .fn "int.__and__" [.int M, .int 61440] (.int (d 61440)),
     .fn "int.__eq__" [.int (d 61440), .int 40960] (.bool false),
     .fn "int.__and__" [.int M, .int 61440] (.int (d 61440)),
     .fn "int.__eq__" [.int (d 61440), .int 49152] (.bool true)]
    [] (364) (168455596585585630913303195965407895617800587153517955662690093361671929307873756501223744235852517211061050084625833780878155684933398193490878415502496157069005540666028714283692247331703961695906016155214200633274227986639410780416906694361764715200568480773267399023964215136655998705035894519616670940442959150489846487225710423193244850275551315944440305885694508019468415040068260369764884366959765854512441486294475338824395690577618956374096809761796756151654798627679215938679920094710783015485570037558768516703029802109134464878490918197043995731066474599677608064114792254256344297262371153148169125212900665990966084880192446308325261317) (fun _ _ => .inl (.again (cFMf (a 2) (a 0)), ⟨760, 25, 760, 30⟩)) (fun _ τ => (FMO w.params (nthN [ks 0, ks 1, τ 1, τ 2, τ 3, τ 4]) a M t (.int 0 (τ 0)) (.ref 759) (.int 49152 1254) (.str (s [115]) 1281) [.str (s [115]) 1281] 1 (.ref 759) (.ref 784))) (fun _ _ => [])
theorem FM0k12_n (w : World) (a ks st : Nat → Nat) (pp : Nat → Pos) (p q : Pos) (M : Int) (t : Nat) (d : Nat → Int) : (FM0k12 w a ks st pp p q M t d).SpecN w a := Fr.specN fun ρ τ => by kernel_rfl

noncomputable def FM0k8 (w : World) (a ks st : Nat → Nat) (pp : Nat → Pos) (p q : Pos) (M : Int) (t : Nat) (d : Nat → Int) : Fr :=
  frC ((cFM (a 0), q) :: blLaw st pp) (cFMf (a 2) (a 0)) p 4 [FRM (EN w.params ks [([109, 111, 100, 101], .int M t), ([112, 101, 114, 109], .ref (a 1))] 2) ⟨[]⟩, LST [] 0, ENUM (a 3) 0 .none, TIT (.ref 784) 0]
    [.swap 5 1 fun ρ τ => swE (nthS (fBody xFM) 1) (eFM (ρ 0)) ρ 1 759,
     .fn "int.__and__" [.int M, .int 61440] (.int (d 61440)),
     .fn "int.__eq__" [.int (d 61440), .int 40960] (.bool false),
     .fn "int.__and__" [.int M, .int 61440] (.int (d 61440)),
     .fn "int.__eq__" [.int (d 61440), .int 49152] (.bool false),
     .fn "int.__and__" [.int M, .int 61440] (.int (d 61440)),
     .fn "int.__eq__" [.int (d 61440), .int 32768] (.bool true)]
    [] (478) (787014303874923177942346505773299899196582503406411285554861880101470050068089959527724104084906180861677578190715257052763953138130213380474790780199569535916385902439685738912805842203861726732102509989236793893128379651505202605223848373476429274550467381815662708052492912747669901062454641314179213767748225910073671406103970071158487617532904651127075975217243290434337836319913875421045578620864119197151886430522572511812115988516385163238985072549922879356027198589800178161807437356395836399959104665365873493940053062624428029203140447115798391034833534171606234122992635205365361521051586733761099222704486485281570731485613090176041914565299716494937058694717795750162747728433002018754987561801140475412104458352822866861762467244433674864870817931989048310014690523760151991505662493759806873698807289099031007979658007280125739013) (fun _ _ => .inl (.again (cFMf (a 2) (a 0)), ⟨760, 25, 760, 30⟩)) (fun _ τ => (FMO w.params (nthN [ks 0, ks 1, τ 1, τ 2, τ 3, τ 4]) a M t (.int 0 (τ 0)) (.ref 759) (.int 32768 1248) (.str (s [45]) 1282) [.str (s [45]) 1282] 1 (.ref 759) (.ref 784))) (fun _ _ => [])
theorem FM0k8_n (w : World) (a ks st : Nat → Nat) (pp : Nat → Pos) (p q : Pos) (M : Int) (t : Nat) (d : Nat → Int) : (FM0k8 w a ks st pp p q M t d).SpecN w a := Fr.specN fun ρ τ => by kernel_rfl

noncomputable def FM0k6 (w : World) (a ks st : Nat → Nat) (pp : Nat → Pos) (p q : Pos) (M : Int) (t : Nat) (d : Nat → Int) : Fr :=
  frC ((cFM (a 0), q) :: blLaw st pp) (cFMf (a 2) (a 0)) p 4 [FRM (EN w.params ks [([109, 111, 100, 101], .int M t), ([112, 101, 114, 109], .ref (a 1))] 2) ⟨[]⟩, LST [] 0, ENUM (a 3) 0 .none, TIT (.ref 784) 0]
    [.swap 5 1 fun ρ τ => swE (nthS (fBody xFM) 1) (eFM (ρ 0)) ρ 1 759,
     .fn "int.__and__" [.int M, .int 61440] (.int (d 61440)),
     .fn "int.__eq__" [.int (d 61440), .int 40960] (.bool false),
     .fn "int.__and__" [.int M, .int 61440] (.int (d 61440)),
     .fn "int.__eq__" [.int (d 61440), .int 49152] (.bool false),
     .fn "int.__and__" [.int M, .int 61440] (.int (d 61440)),
     .fn "int.__eq__" [.int (d 61440), .int 32768] (.bool false),
     .fn "int.__and__" [.int M, .int 61440] (.int (d 61440)),
     .fn "int.__eq__" [.int (d 61440), .int 24576] (.bool true)]
    [] (592) (3676882971288173088432197098071860257414284361306665592304157053354331664094141929391719734913987955984757541697206985944465812674326742925608535717600674232005525884739438449479082857159126427228931227930161415403927359310239585821043192030928647441457482605451909949573035329999005510348546443537740040945804311832236110123557350215575324780593479448018052408884984960620692403663535292141415217592226303708990843285527107300583457408686828513388105868979318061952443010456983501107085087819865110989438268764579646119605013293791767027639047297140983028290509438764638733660895947596268532657649467439293320060742049815311908841452216044114410279979052254623241102973334280668743738144314484119058701696534179326466869256397155119613787681464080773929644069453433992395539179612922533609555281119428264011115462999382602857118185793891818423254077795794504119165773102571841889418060617408167964271554709797349165076340791559092557421674447961231693080002584184210420813098587668913085052590957341599606116390551943734400675250525558538245) (fun _ _ => .inl (.again (cFMf (a 2) (a 0)), ⟨760, 25, 760, 30⟩)) (fun _ τ => (FMO w.params (nthN [ks 0, ks 1, τ 1, τ 2, τ 3, τ 4]) a M t (.int 0 (τ 0)) (.ref 759) (.int 24576 1246) (.str (s [98]) 1283) [.str (s [98]) 1283] 1 (.ref 759) (.ref 784))) (fun _ _ => [])
theorem FM0k6_n (w : World) (a ks st : Nat → Nat) (pp : Nat → Pos) (p q : Pos) (M : Int) (t : Nat) (d : Nat → Int) : (FM0k6 w a ks st pp p q M t d).SpecN w a := Fr.specN fun ρ τ => by kernel_rfl

noncomputable def FM0k4 (w : World) (a ks st : Nat → Nat) (pp : Nat → Pos) (p q : Pos) (M : Int) (t : Nat) (d : Nat → Int) : Fr :=
  frC ((cFM (a 0), q) :: blLaw st pp) (cFMf (a 2) (a 0)) p 4 [FRM (EN w.params ks [([109, 111, 100, 101], .int M t), ([112, 101, 114, 109], .ref (a 1))] 2) ⟨[]⟩, LST [] 0, ENUM (a 3) 0 .none, TIT (.ref 784) 0]
    [.swap 5 1 fun ρ τ => swE (nthS (fBody xFM) 1) (eFM (ρ 0)) ρ 1 759,
     .fn "int.__and__" [.int M, .int 61440] (.int (d 61440)),
     .fn "int.__eq__" [.int (d 61440), .int 40960] (.bool false),
     .fn "int.__and__" [.int M, .int 61440] (.int (d 61440)),
     .fn "int.__eq__" [.int (d 61440), .int 49152] (.bool false),
     .fn "int.__and__" [.int M, .int 61440] (.int (d 61440)),
     .fn "int.__eq__" [.int (d 61440), .int 32768] (.bool false),
     .fn "int.__and__" [.int M, .int 61440] (.int (d 61440)),
     .fn "int.__eq__" [.int (d 61440), .int 24576] (.bool false),
     .fn "int.__and__" [.int M, .int 61440] (.int (d 61440)),
     .fn "int.__eq__" [.int (d 61440), .int 16384] (.bool true)]
    [] (706) (17178173659595309787779107271725350787990957046829465014588642021139713737273788564845014764997277695095589695933703942138879822046657170024439086904699531170013270187535093200343958846124179603411118751072197993356975482641738206692669633593081020605192192932686034674598536125304661700413300799513519674654767401922914818354012643036264475015529524065625143457408698893564359170901961700964739908692422163512825929147418428173509726169349257011555738272798774867635878576918292493528948381893081539576603866340975558499563094363356429456957377016077667466702464486518964431302193865092187578783631861723768318081222630411271213843425973622662295822772146552078632833740484279203244048641909085084875551994605453360507884002934575103127661049937702391187672786270463899562615275144449677407727811263751609934055061647205946092634692278134003908211712317256298550349133558112424430918723255947509926312335777687544805790624996461368129505676638462297223961306879223558425041747849254677522175369707778739153789315667495466630683006235281046450082569529983315195072819141951488608949573773277774563487977901105102400563308421738435741025203291608856649515896436069728301223658901510214603640983549326889809454251324593195702493102950318085) (fun _ _ => .inl (.again (cFMf (a 2) (a 0)), ⟨760, 25, 760, 30⟩)) (fun _ τ => (FMO w.params (nthN [ks 0, ks 1, τ 1, τ 2, τ 3, τ 4]) a M t (.int 0 (τ 0)) (.ref 759) (.int 16384 1242) (.str (s [100]) 1284) [.str (s [100]) 1284] 1 (.ref 759) (.ref 784))) (fun _ _ => [])
theorem FM0k4_n (w : World) (a ks st : Nat → Nat) (pp : Nat → Pos) (p q : Pos) (M : Int) (t : Nat) (d : Nat → Int) : (FM0k4 w a ks st pp p q M t d).SpecN w a := Fr.specN fun ρ τ => by kernel_rfl

noncomputable def FM0k2 (w : World) (a ks st : Nat → Nat) (pp : Nat → Pos) (p q : Pos) (M : Int) (t : Nat) (d : Nat → Int) : Fr :=
  frC ((cFM (a 0), q) :: blLaw st pp) (cFMf (a 2) (a 0)) p 4 [FRM (EN w.params ks [([109, 111, 100, 101], .int M t), ([112, 101, 114, 109], .ref (a 1))] 2) ⟨[]⟩, LST [] 0, ENUM (a 3) 0 .none, TIT (.ref 784) 0]
    [.swap 5 1 fun ρ τ => swE (nthS (fBody xFM) 1) (eFM (ρ 0)) ρ 1 759,
     .fn "int.__and__" [.int M, .int 61440] (.int (d 61440)),
     .fn "int.__eq__" [.int (d 61440), .int 40960] (.bool false),
     .fn "int.__and__" [.int M, .int 61440] (.int (d 61440)),
     .fn "int.__eq__" [.int (d 61440), .int 49152] (.bool false),
     .fn "int.__and__" [.int M, .int 61440] (.int (d 61440)),
     .fn "int.__eq__" [.int (d 61440), .int 32768] (.bool false),
     .fn "int.__and__" [.int M, .int 61440] (.int (d 61440)),
     .fn "int.__eq__" [.int (d 61440), .int 24576] (.bool false),
     .fn "int.__and__" [.int M, .int 61440] (.int (d 61440)),
     .fn "int.__eq__" [.int (d 61440), .int 16384] (.bool false),
     .fn "int.__and__" [.int M, .int 61440] (.int (d 61440)),
     .fn "int.__eq__" [.int (d 61440), .int 8192] (.bool true)]
    [] (820) (80255382774891879090635743225882343328671679421031885650870198283671718904904684299863786549556651024348677317301255040417305728360500528353212604951618080625811770546757626091377204149139157736776716784474254203124635491294236147514382010968209288318713168031118554967499469833839394367630886314840806169235122464525010579042947577546447783641973927191730872107853380803812466348608916343481799927847713788133179349235277987717407542411086016231681334688107956873904756243130932989963016238387164341426507933622195522666726320562369888386409278137092746095995718503014691310913626878190252093536866765474821673411902441103847880466331067178857372471085316013503600220330781914597379251284888729970282647082397810963524296765766891638627051286083120759986494806557292264965854531396868418339432885687038133524604604086111634346653608024243184625608896002482359050161635682236384895300924508986000414067209038386377773333669055315104964035563050163592823499095058330402402088490240742860274387319367366300562676316706695164906804963188335306280549483127831241331708307090691851484516779809010138615540163537125420073152830904257298792710162838100480015684153128429053657242003085989834713978232305757042368979644228749851527838903459018699175961621884617679470585215667986033422727881710267163111518444524224310492802592715859528079619281098756368261817531181054370590439009775801472382920013031612879752911224586108482372701460103173) (fun _ _ => .inl (.again (cFMf (a 2) (a 0)), ⟨760, 25, 760, 30⟩)) (fun _ τ => (FMO w.params (nthN [ks 0, ks 1, τ 1, τ 2, τ 3, τ 4]) a M t (.int 0 (τ 0)) (.ref 759) (.int 8192 1244) (.str (s [99]) 1285) [.str (s [99]) 1285] 1 (.ref 759) (.ref 784))) (fun _ _ => [])
theorem FM0k2_n (w : World) (a ks st : Nat → Nat) (pp : Nat → Pos) (p q : Pos) (M : Int) (t : Nat) (d : Nat → Int) : (FM0k2 w a ks st pp p q M t d).SpecN w a := Fr.specN fun ρ τ => by kernel_rfl

noncomputable def FM0k1 (w : World) (a ks st : Nat → Nat) (pp : Nat → Pos) (p q : Pos) (M : Int) (t : Nat) (d : Nat → Int) : Fr :=
  frC ((cFM (a 0), q) :: blLaw st pp) (cFMf (a 2) (a 0)) p 4 [FRM (EN w.params ks [([109, 111, 100, 101], .int M t), ([112, 101, 114, 109], .ref (a 1))] 2) ⟨[]⟩, LST [] 0, ENUM (a 3) 0 .none, TIT (.ref 784) 0]
    [.swap 5 1 fun ρ τ => swE (nthS (fBody xFM) 1) (eFM (ρ 0)) ρ 1 759,
     .fn "int.__and__" [.int M, .int 61440] (.int (d 61440)),
     .fn "int.__eq__" [.int (d 61440), .int 40960] (.bool false),
     .fn "int.__and__" [.int M, .int 61440] (.int (d 61440)),
     .fn "int.__eq__" [.int (d 61440), .int 49152] (.bool false),
     .fn "int.__and__" [.int M, .int 61440] (.int (d 61440)),
     .fn "int.__eq__" [.int (d 61440), .int 32768] (.bool false),
     .fn "int.__and__" [.int M, .int 61440] (.int (d 61440)),
     .fn "int.__eq__" [.int (d 61440), .int 24576] (.bool false),
     .fn "int.__and__" [.int M, .int 61440] (.int (d 61440)),
     .fn "int.__eq__" [.int (d 61440), .int 16384] (.bool false),
     .fn "int.__and__" [.int M, .int 61440] (.int (d 61440)),
     .fn "int.__eq__" [.int (d 61440), .int 8192] (.bool false),
     .fn "int.__and__" [.int M, .int 61440] (.int (d 61440)),
     .fn "int.__eq__" [.int (d 61440), .int 4096] (.bool true)]
    [] (934) (374948268190702993796428092951393162272913021310223799781946767895123715481926148737682750434500792773199464487629032774704074575178250348626943719350909153603710414071038447056235358608617034489673537133030204394416583184273904319555576609118633130292652930998857480647423140823807737792473860812414122891366435324183882768373094539286223299429462737181940702230515199308500073443303586228805675887403690711131409589617699441148120951148167961909720742689548966310138093371278877230331008305388233800000435325964883213097412146510771764490413835240612842332011193726073997594078366811577256105119287802494345931259962198645538524717348583443431009596836871692879960240074054220447865184367516436458887216464386994380884812110795749953193330702691793914279305997233573819831232741615847289930214740493528981394155566657409430605983958929624458203924804096837139650723942281411796575049349660036772485974292911943517294383174516739989035354167370214339514073860032574738946157365510634158763613437981573985706240317822683656633299598208245406922649640769091255306411235482308129898897648918708965514377538553918167442105603405498417337457040655010728410350184928473904333160103135362261315852485154634007296210079363420153999277194253049467640296155518214529050979298186433927557907922249603303725242877949449347866473496632636269402589078582637955932106909642608285064110475075296244884115246506525419758943179707834049428527618712934335240409834315296764604904358266579648779405590644387820631962933074771669904898243554968378765087304647364082393538551242268573697467224584527648504066418537960042499157355747472084601538609157) (fun _ _ => .inl (.again (cFMf (a 2) (a 0)), ⟨760, 25, 760, 30⟩)) (fun _ τ => (FMO w.params (nthN [ks 0, ks 1, τ 1, τ 2, τ 3, τ 4]) a M t (.int 0 (τ 0)) (.ref 759) (.int 4096 1250) (.str (s [112]) 1286) [.str (s [112]) 1286] 1 (.ref 759) (.ref 784))) (fun _ _ => [])
theorem FM0k1_n (w : World) (a ks st : Nat → Nat) (pp : Nat → Pos) (p q : Pos) (M : Int) (t : Nat) (d : Nat → Int) : (FM0k1 w a ks st pp p q M t d).SpecN w a := Fr.specN fun ρ τ => by kernel_rfl

noncomputable def FM0k0 (w : World) (a ks st : Nat → Nat) (pp : Nat → Pos) (p q : Pos) (M : Int) (t : Nat) (d : Nat → Int) : Fr :=
  frC ((cFM (a 0), q) :: blLaw st pp) (cFMf (a 2) (a 0)) p 4 [FRM (EN w.params ks [([109, 111, 100, 101], .int M t), ([112, 101, 114, 109], .ref (a 1))] 2) ⟨[]⟩, LST [] 0, ENUM (a 3) 0 .none, TIT (.ref 784) 0]
    [.swap 5 1 fun ρ τ => swE (nthS (fBody xFM) 1) (eFM (ρ 0)) ρ 1 759,
     .fn "int.__and__" [.int M, .int 61440] (.int (d 61440)),
     .fn "int.__eq__" [.int (d 61440), .int 40960] (.bool false),
     .fn "int.__and__" [.int M, .int 61440] (.int (d 61440)),
     .fn "int.__eq__" [.int (d 61440), .int 49152] (.bool false),
     .fn "int.__and__" [.int M, .int 61440] (.int (d 61440)),
     .fn "int.__eq__" [.int (d 61440), .int 32768] (.bool false),
     .fn "int.__and__" [.int M, .int 61440] (.int (d 61440)),
     .fn "int.__eq__" [.int (d 61440), .int 24576] (.bool false),
     .fn "int.__and__" [.int M, .int 61440] (.int (d 61440)),
     .fn "int.__eq__" [.int (d 61440), .int 16384] (.bool false),
     .fn "int.__and__" [.int M, .int 61440] (.int (d 61440)),
     .fn "int.__eq__" [.int (d 61440), .int 8192] (.bool false),
     .fn "int.__and__" [.int M, .int 61440] (.int (d 61440)),
     .fn "int.__eq__" [.int (d 61440), .int 4096] (.bool false)]
    [] (959) (486710678759915298570119320463166941973542042107294127379738533167560260436955533994005806492574335626782517084626667104060963734760331621305569462867402436744434229122048463099895677233683225939091625991727687985180648887024515613408550393380021593138365601347100486013393777197575392647551996361649398882475880067764888825723105199236779800558017114371275832775960958517846814463559629107856578007572261469316191282126703715869863289776762551428988425437784699909382864959545357402171317143814579930845406270421411759055738564062762152139233217481597272735081897606619342509808927928677980194926776161508399676530382334175393346768380775379766116959146764490170065769114935262028987798916857145899198159579685077775330447365537633129307674256797441732936376274781633944674268430473303853068281437796474312602870267176361464527281753611893420619172151625506817144097713209859017753211365997019294878030648239721196268861399139746352028128611474077273819303229529491985707719072380292539907288372323972151093142239179744194739924160516035301246283027030981416353990113789567425702747521357965586619253088445134843591456512284579588347862565994989545254565374249623624419687060661382023689769724060906078357650716776137590514733880820056421644311708981865620602125573785765596361929881313745753458640019599966016676961925786143598603845070141576291951361140392269846463215016771251366339880881521059935085315316172767301965535038659912257522822947455619063896800872696685127748719288726442490962252819697870756920416508047832664912588898364295761207384434642022885559798771580844995397523651587524613095997674152086188446087773818350725995781406539551591386578949) (fun _ _ => .inl (.again (cFMf (a 2) (a 0)), ⟨760, 25, 760, 30⟩)) (fun _ τ => (FMO w.params (nthN [ks 0, ks 1, τ 1, τ 2, τ 3, τ 4]) a M t (.int 0 (τ 0)) (.ref 759) (.int 4096 1250) (.str (s [112]) 1286) [.str (s [63]) (τ 53)] 1 (.ref 759) (.ref 784))) (fun _ _ => [])
theorem FM0k0_n (w : World) (a ks st : Nat → Nat) (pp : Nat → Pos) (p q : Pos) (M : Int) (t : Nat) (d : Nat → Int) : (FM0k0 w a ks st pp p q M t d).SpecN w a := Fr.specN fun ρ τ => by kernel_rfl

noncomputable def FM1n (w : World) (a ks st : Nat → Nat) (pp : Nat → Pos) (p q : Pos) (M : Int) (t : Nat) (d : Nat → Int) (v : Nat → Value) (vi vt vb vc last : Value) : Fr :=
  frC ((cFM (a 0), q) :: blLaw st pp) (cFMf (a 2) (a 0)) p 4 (FMO w.params ks a M t vi vt vb vc [v 0] 1 last (.ref 784))
    [.swap 5 1 fun ρ τ => swE (nthS (fBody xFM) 1) (eFM (ρ 0)) ρ 2 761,
     .fn "int.__and__" [.int M, .int 256] (.int (d 256)),
     .fn "int.__eq__" [.int (d 256), .int 256] (.bool false)]
    [] (255) (37808389272481239436238423680117060618626748038765932070960636214896772187254632766070767407827846332438053251845343953609412923848205653341113904427249901406222649917358753396792518430139285287573947450944811632229789822421439412674163620044092011944039198732645598737662375255462665584441001140559666161397858932443356139228648677921025523570021115479819517300393416968479442935684465574174388908019577920780795902272296699140881984783991417451525631256821765) (fun _ _ => .inl (.again (cFMf (a 2) (a 0)), ⟨760, 25, 760, 30⟩)) (fun _ τ => (FMO w.params ks a M t (.int 1 (τ 0)) (.ref 761) (.int 256 1262) (.str (s [114]) 1287) [v 0, .str (s [45]) (τ 9)] 2 (.ref 761) (.ref 784))) (fun _ _ => [])
theorem FM1n_n (w : World) (a ks st : Nat → Nat) (pp : Nat → Pos) (p q : Pos) (M : Int) (t : Nat) (d : Nat → Int) (v : Nat → Value) (vi vt vb vc last : Value) : (FM1n w a ks st pp p q M t d v vi vt vb vc last).SpecN w a := Fr.specN fun ρ τ => by kernel_rfl

noncomputable def FM1b (w : World) (a ks st : Nat → Nat) (pp : Nat → Pos) (p q : Pos) (M : Int) (t : Nat) (d : Nat → Int) (v : Nat → Value) (vi vt vb vc last : Value) : Fr :=
  frC ((cFM (a 0), q) :: blLaw st pp) (cFMf (a 2) (a 0)) p 4 (FMO w.params ks a M t vi vt vb vc [v 0] 1 last (.ref 784))
    [.swap 5 1 fun ρ τ => swE (nthS (fBody xFM) 1) (eFM (ρ 0)) ρ 2 761,
     .fn "int.__and__" [.int M, .int 256] (.int (d 256)),
     .fn "int.__eq__" [.int (d 256), .int 256] (.bool true)]
    [] (230) (29126523619568303207269970847130139145969403215237581425933133243352070058263614386861931714495126353571774990268427163812100707252356317530105649156457650002007772822607352741546713014084889076967075151847854391685941793447346229051007656928138885391755172323590174413799476755764629291900080553267445927412700008634480611209661480816452545099406915889182023587067540858950475275212500748417091488033897439816248696782273380357) (fun _ _ => .inl (.again (cFMf (a 2) (a 0)), ⟨760, 25, 760, 30⟩)) (fun _ τ => (FMO w.params ks a M t (.int 1 (τ 0)) (.ref 761) (.int 256 1262) (.str (s [114]) 1287) [v 0, .str (s [114]) 1287] 2 (.ref 761) (.ref 784))) (fun _ _ => [])
theorem FM1b_n (w : World) (a ks st : Nat → Nat) (pp : Nat → Pos) (p q : Pos) (M : Int) (t : Nat) (d : Nat → Int) (v : Nat → Value) (vi vt vb vc last : Value) : (FM1b w a ks st pp p q M t d v vi vt vb vc last).SpecN w a := Fr.specN fun ρ τ => by kernel_rfl

noncomputable def FM2n (w : World) (a ks st : Nat → Nat) (pp : Nat → Pos) (p q : Pos) (M : Int) (t : Nat) (d : Nat → Int) (v : Nat → Value) (vi vt vb vc last : Value) : Fr :=
  frC ((cFM (a 0), q) :: blLaw st pp) (cFMf (a 2) (a 0)) p 4 (FMO w.params ks a M t vi vt vb vc [v 0, v 1] 2 last (.ref 784))
    [.swap 5 1 fun ρ τ => swE (nthS (fBody xFM) 1) (eFM (ρ 0)) ρ 3 763,
     .fn "int.__and__" [.int M, .int 128] (.int (d 128)),
     .fn "int.__eq__" [.int (d 128), .int 128] (.bool false)]
    [] (255) (37808389272481239436238423680117060618626748038765932070960636214896772187254632766070767407827846332438053251845343953609412923848205653341113904427249901406222649917358753396792518430139285287573947450944811632229789822421439412674163620044092011944039198732645598737662375255462665584441001140559666161397858932443356139228648677921025523570021115479819517300393416968479442935684465574174388908019577920780795902272296699140881984783991417451525631256821765) (fun _ _ => .inl (.again (cFMf (a 2) (a 0)), ⟨760, 25, 760, 30⟩)) (fun _ τ => (FMO w.params ks a M t (.int 2 (τ 0)) (.ref 763) (.int 128 1264) (.str (s [119]) 1288) [v 0, v 1, .str (s [45]) (τ 9)] 3 (.ref 763) (.ref 784))) (fun _ _ => [])
theorem FM2n_n (w : World) (a ks st : Nat → Nat) (pp : Nat → Pos) (p q : Pos) (M : Int) (t : Nat) (d : Nat → Int) (v : Nat → Value) (vi vt vb vc last : Value) : (FM2n w a ks st pp p q M t d v vi vt vb vc last).SpecN w a := Fr.specN fun ρ τ => by kernel_rfl

noncomputable def FM2b (w : World) (a ks st : Nat → Nat) (pp : Nat → Pos) (p q : Pos) (M : Int) (t : Nat) (d : Nat → Int) (v : Nat → Value) (vi vt vb vc last : Value) : Fr :=
  frC ((cFM (a 0), q) :: blLaw st pp) (cFMf (a 2) (a 0)) p 4 (FMO w.params ks a M t vi vt vb vc [v 0, v 1] 2 last (.ref 784))
    [.swap 5 1 fun ρ τ => swE (nthS (fBody xFM) 1) (eFM (ρ 0)) ρ 3 763,
     .fn "int.__and__" [.int M, .int 128] (.int (d 128)),
     .fn "int.__eq__" [.int (d 128), .int 128] (.bool true)]
    [] (230) (29126523619568303207269970847130139145969403215237581425933133243352070058263614386861931714495126353571774990268427163812100707252356317530105649156457650002007772822607352741546713014084889076967075151847854391685941793447346229051007656928138885391755172323590174413799476755764629291900080553267445927412700008634480611209661480816452545099406915889182023587067540858950475275212500748417091488033897439816248696782273380357) (fun _ _ => .inl (.again (cFMf (a 2) (a 0)), ⟨760, 25, 760, 30⟩)) (fun _ τ => (FMO w.params ks a M t (.int 2 (τ 0)) (.ref 763) (.int 128 1264) (.str (s [119]) 1288) [v 0, v 1, .str (s [119]) 1288] 3 (.ref 763) (.ref 784))) (fun _ _ => [])
theorem FM2b_n (w : World) (a ks st : Nat → Nat) (pp : Nat → Pos) (p q : Pos) (M : Int) (t : Nat) (d : Nat → Int) (v : Nat → Value) (vi vt vb vc last : Value) : (FM2b w a ks st pp p q M t d v vi vt vb vc last).SpecN w a := Fr.specN fun ρ τ => by kernel_rfl

noncomputable def FM3n (w : World) (a ks st : Nat → Nat) (pp : Nat → Pos) (p q : Pos) (M : Int) (t : Nat) (d : Nat → Int) (v : Nat → Value) (vi vt vb vc last : Value) : Fr :=
  frC ((cFM (a 0), q) :: blLaw st pp) (cFMf (a 2) (a 0)) p 4 (FMO w.params ks a M t vi vt vb vc [v 0, v 1, v 2] 3 last (.ref 784))
    [.swap 5 1 fun ρ τ => swE (nthS (fBody xFM) 1) (eFM (ρ 0)) ρ 4 767,
     .fn "int.__and__" [.int M, .int 2112] (.int (d 2112)),
     .fn "int.__eq__" [.int (d 2112), .int 2112] (.bool false),
     .fn "int.__and__" [.int M, .int 2048] (.int (d 2048)),
     .fn "int.__eq__" [.int (d 2048), .int 2048] (.bool false),
     .fn "int.__and__" [.int M, .int 64] (.int (d 64)),
     .fn "int.__eq__" [.int (d 64), .int 64] (.bool false)]
    [] (443) (538497038780075575820887044053255187174899513117358092667888831347270095658699966591952675570792482200684399356054608423616418992981825940750636385171558557749263343561242353476809085652275230171821943489804030860512061027766912575457191524790460210701817445605968575594636284333793248805357661607761463997255974490492157416259542185538816080970783772641867164684962257945288650479711849377667183736483134117784807753640053961681261918324421632200879549390401573170363580433987251902125340001618793600254543354111757932124535269411570847992990232676840582718151091497592358484205572797491759831044679480159421119892660161152675595777685444088281569239297580345249153413812272271983761318410767145343526733683578311943856587668115843313499930135381627323313527988550722461596570752429028778926145541) (fun _ _ => .inl (.again (cFMf (a 2) (a 0)), ⟨760, 25, 760, 30⟩)) (fun _ τ => (FMO w.params ks a M t (.int 3 (τ 0)) (.ref 767) (.int 64 1266) (.str (s [120]) 1292) [v 0, v 1, v 2, .str (s [45]) (τ 19)] 4 (.ref 767) (.ref 784))) (fun _ _ => [])
theorem FM3n_n (w : World) (a ks st : Nat → Nat) (pp : Nat → Pos) (p q : Pos) (M : Int) (t : Nat) (d : Nat → Int) (v : Nat → Value) (vi vt vb vc last : Value) : (FM3n w a ks st pp p q M t d v vi vt vb vc last).SpecN w a := Fr.specN fun ρ τ => by kernel_rfl

noncomputable def FM3b (w : World) (a ks st : Nat → Nat) (pp : Nat → Pos) (p q : Pos) (M : Int) (t : Nat) (d : Nat → Int) (v : Nat → Value) (vi vt vb vc last : Value) : Fr :=
  frC ((cFM (a 0), q) :: blLaw st pp) (cFMf (a 2) (a 0)) p 4 (FMO w.params ks a M t vi vt vb vc [v 0, v 1, v 2] 3 last (.ref 784))
    [.swap 5 1 fun ρ τ => swE (nthS (fBody xFM) 1) (eFM (ρ 0)) ρ 4 767,
     .fn "int.__and__" [.int M, .int 2112] (.int (d 2112)),
     .fn "int.__eq__" [.int (d 2112), .int 2112] (.bool true)]
    [] (230) (29126523619568303207269970847130139145969403215237581425933133243352070058263614386861931714495126353571774990268427163812100707252356317530105649156457650002007772822607352741546713014084889076967075151847854391685941793447346229051007656928138885391755172323590174413799476755764629291900080553267445927412700008634480611209661480816452545099406915889182023587067540858950475275212500748417091488033897439816248696782273380357) (fun _ _ => .inl (.again (cFMf (a 2) (a 0)), ⟨760, 25, 760, 30⟩)) (fun _ τ => (FMO w.params ks a M t (.int 3 (τ 0)) (.ref 767) (.int 2112 1289) (.str (s [115]) 1290) [v 0, v 1, v 2, .str (s [115]) 1290] 4 (.ref 767) (.ref 784))) (fun _ _ => [])
theorem FM3b_n (w : World) (a ks st : Nat → Nat) (pp : Nat → Pos) (p q : Pos) (M : Int) (t : Nat) (d : Nat → Int) (v : Nat → Value) (vi vt vb vc last : Value) : (FM3b w a ks st pp p q M t d v vi vt vb vc last).SpecN w a := Fr.specN fun ρ τ => by kernel_rfl

noncomputable def FM3x (w : World) (a ks st : Nat → Nat) (pp : Nat → Pos) (p q : Pos) (M : Int) (t : Nat) (d : Nat → Int) (v : Nat → Value) (vi vt vb vc last : Value) : Fr :=
  frC ((cFM (a 0), q) :: blLaw st pp) (cFMf (a 2) (a 0)) p 4 (FMO w.params ks a M t vi vt vb vc [v 0, v 1, v 2] 3 last (.ref 784))
    [.swap 5 1 fun ρ τ => swE (nthS (fBody xFM) 1) (eFM (ρ 0)) ρ 4 767,
     .fn "int.__and__" [.int M, .int 2112] (.int (d 2112)),
     .fn "int.__eq__" [.int (d 2112), .int 2112] (.bool false),
     .fn "int.__and__" [.int M, .int 2048] (.int (d 2048)),
     .fn "int.__eq__" [.int (d 2048), .int 2048] (.bool false),
     .fn "int.__and__" [.int M, .int 64] (.int (d 64)),
     .fn "int.__eq__" [.int (d 64), .int 64] (.bool true)]
    [] (418) (414843028780160856536226202689862550755166273180232521733374025918154640294370795754863394930494404421717755894015747389984050837009713142190203964726397376741163549883199996583421148655295137032096060922066470484797685481799297542036635429225132869472868500483965304739923742343024154459022225458407657348275891649703534376755133442346194296525464114613258502841562424906587742874970842027068572957090242088032179370278363404950389088314283344838305097505042615113918799694871284179229459996971890874861516075976006624902104333170621888115074411019217608161125001081121251912649575769029625338844400407972570359017190036303312423723183770603017689003340350342345782948988727604535967996676589871712368784167570074903790846937688441543810461646695857641872906256389) (fun _ _ => .inl (.again (cFMf (a 2) (a 0)), ⟨760, 25, 760, 30⟩)) (fun _ τ => (FMO w.params ks a M t (.int 3 (τ 0)) (.ref 767) (.int 64 1266) (.str (s [120]) 1292) [v 0, v 1, v 2, .str (s [120]) 1292] 4 (.ref 767) (.ref 784))) (fun _ _ => [])
theorem FM3x_n (w : World) (a ks st : Nat → Nat) (pp : Nat → Pos) (p q : Pos) (M : Int) (t : Nat) (d : Nat → Int) (v : Nat → Value) (vi vt vb vc last : Value) : (FM3x w a ks st pp p q M t d v vi vt vb vc last).SpecN w a := Fr.specN fun ρ τ => by kernel_rfl

noncomputable def FM3s (w : World) (a ks st : Nat → Nat) (pp : Nat → Pos) (p q : Pos) (M : Int) (t : Nat) (d : Nat → Int) (v : Nat → Value) (vi vt vb vc last : Value) : Fr :=
  frC ((cFM (a 0), q) :: blLaw st pp) (cFMf (a 2) (a 0)) p 4 (FMO w.params ks a M t vi vt vb vc [v 0, v 1, v 2] 3 last (.ref 784))
    [.swap 5 1 fun ρ τ => swE (nthS (fBody xFM) 1) (eFM (ρ 0)) ρ 4 767,
     .fn "int.__and__" [.int M, .int 2112] (.int (d 2112)),
     .fn "int.__eq__" [.int (d 2112), .int 2112] (.bool false),
     .fn "int.__and__" [.int M, .int 2048] (.int (d 2048)),
     .fn "int.__eq__" [.int (d 2048), .int 2048] (.bool true)]
    [] (324) (109922405705927891006191276282460839909852886250104990811745883420026104989839524903858722180009636570635842194084847998691038988772788030352937048910651510035078764149953765885595757145069078704322857686628585246473507823675093158393609988525540456758613557823017774599907499866035395813189109614278560558166632035211591668521447613246811748998381833383208238165894970921035797425382304529405416602507844811564021316623321399731033578018594736897263645121910597667659758902393349835870877500288425132630941040134382844116069206460903911410670388976261575566012150481325703402576495174352137879557) (fun _ _ => .inl (.again (cFMf (a 2) (a 0)), ⟨760, 25, 760, 30⟩)) (fun _ τ => (FMO w.params ks a M t (.int 3 (τ 0)) (.ref 767) (.int 2048 1256) (.str (s [83]) 1291) [v 0, v 1, v 2, .str (s [83]) 1291] 4 (.ref 767) (.ref 784))) (fun _ _ => [])
theorem FM3s_n (w : World) (a ks st : Nat → Nat) (pp : Nat → Pos) (p q : Pos) (M : Int) (t : Nat) (d : Nat → Int) (v : Nat → Value) (vi vt vb vc last : Value) : (FM3s w a ks st pp p q M t d v vi vt vb vc last).SpecN w a := Fr.specN fun ρ τ => by kernel_rfl

noncomputable def FM4n (w : World) (a ks st : Nat → Nat) (pp : Nat → Pos) (p q : Pos) (M : Int) (t : Nat) (d : Nat → Int) (v : Nat → Value) (vi vt vb vc last : Value) : Fr :=
  frC ((cFM (a 0), q) :: blLaw st pp) (cFMf (a 2) (a 0)) p 4 (FMO w.params ks a M t vi vt vb vc [v 0, v 1, v 2, v 3] 4 last (.ref 784))
    [.swap 5 1 fun ρ τ => swE (nthS (fBody xFM) 1) (eFM (ρ 0)) ρ 5 769,
     .fn "int.__and__" [.int M, .int 32] (.int (d 32)),
     .fn "int.__eq__" [.int (d 32), .int 32] (.bool false)]
    [] (255) (37808389272481239436238423680117060618626748038765932070960636214896772187254632766070767407827846332438053251845343953609412923848205653341113904427249901406222649917358753396792518430139285287573947450944811632229789822421439412674163620044092011944039198732645598737662375255462665584441001140559666161397858932443356139228648677921025523570021115479819517300393416968479442935684465574174388908019577920780795902272296699140881984783991417451525631256821765) (fun _ _ => .inl (.again (cFMf (a 2) (a 0)), ⟨760, 25, 760, 30⟩)) (fun _ τ => (FMO w.params ks a M t (.int 4 (τ 0)) (.ref 769) (.int 32 1268) (.str (s [114]) 1293) [v 0, v 1, v 2, v 3, .str (s [45]) (τ 9)] 5 (.ref 769) (.ref 784))) (fun _ _ => [])
theorem FM4n_n (w : World) (a ks st : Nat → Nat) (pp : Nat → Pos) (p q : Pos) (M : Int) (t : Nat) (d : Nat → Int) (v : Nat → Value) (vi vt vb vc last : Value) : (FM4n w a ks st pp p q M t d v vi vt vb vc last).SpecN w a := Fr.specN fun ρ τ => by kernel_rfl

noncomputable def FM4b (w : World) (a ks st : Nat → Nat) (pp : Nat → Pos) (p q : Pos) (M : Int) (t : Nat) (d : Nat → Int) (v : Nat → Value) (vi vt vb vc last : Value) : Fr :=
  frC ((cFM (a 0), q) :: blLaw st pp) (cFMf (a 2) (a 0)) p 4 (FMO w.params ks a M t vi vt vb vc [v 0, v 1, v 2, v 3] 4 last (.ref 784))
    [.swap 5 1 fun ρ τ => swE (nthS (fBody xFM) 1) (eFM (ρ 0)) ρ 5 769,
     .fn "int.__and__" [.int M, .int 32] (.int (d 32)),
     .fn "int.__eq__" [.int (d 32), .int 32] (.bool true)]
    [] (230) (29126523619568303207269970847130139145969403215237581425933133243352070058263614386861931714495126353571774990268427163812100707252356317530105649156457650002007772822607352741546713014084889076967075151847854391685941793447346229051007656928138885391755172323590174413799476755764629291900080553267445927412700008634480611209661480816452545099406915889182023587067540858950475275212500748417091488033897439816248696782273380357) (fun _ _ => .inl (.again (cFMf (a 2) (a 0)), ⟨760, 25, 760, 30⟩)) (fun _ τ => (FMO w.params ks a M t (.int 4 (τ 0)) (.ref 769) (.int 32 1268) (.str (s [114]) 1293) [v 0, v 1, v 2, v 3, .str (s [114]) 1293] 5 (.ref 769) (.ref 784))) (fun _ _ => [])
theorem FM4b_n (w : World) (a ks st : Nat → Nat) (pp : Nat → Pos) (p q : Pos) (M : Int) (t : Nat) (d : Nat → Int) (v : Nat → Value) (vi vt vb vc last : Value) : (FM4b w a ks st pp p q M t d v vi vt vb vc last).SpecN w a := Fr.specN fun ρ τ => by kernel_rfl

noncomputable def FM5n (w : World) (a ks st : Nat → Nat) (pp : Nat → Pos) (p q : Pos) (M : Int) (t : Nat) (d : Nat → Int) (v : Nat → Value) (vi vt vb vc last : Value) : Fr :=
  frC ((cFM (a 0), q) :: blLaw st pp) (cFMf (a 2) (a 0)) p 4 (FMO w.params ks a M t vi vt vb vc [v 0, v 1, v 2, v 3, v 4] 5 last (.ref 784))
    [.swap 5 1 fun ρ τ => swE (nthS (fBody xFM) 1) (eFM (ρ 0)) ρ 6 771,
     .fn "int.__and__" [.int M, .int 16] (.int (d 16)),
     .fn "int.__eq__" [.int (d 16), .int 16] (.bool false)]
    [] (255) (37808389272481239436238423680117060618626748038765932070960636214896772187254632766070767407827846332438053251845343953609412923848205653341113904427249901406222649917358753396792518430139285287573947450944811632229789822421439412674163620044092011944039198732645598737662375255462665584441001140559666161397858932443356139228648677921025523570021115479819517300393416968479442935684465574174388908019577920780795902272296699140881984783991417451525631256821765) (fun _ _ => .inl (.again (cFMf (a 2) (a 0)), ⟨760, 25, 760, 30⟩)) (fun _ τ => (FMO w.params ks a M t (.int 5 (τ 0)) (.ref 771) (.int 16 1270) (.str (s [119]) 1294) [v 0, v 1, v 2, v 3, v 4, .str (s [45]) (τ 9)] 6 (.ref 771) (.ref 784))) (fun _ _ => [])
theorem FM5n_n (w : World) (a ks st : Nat → Nat) (pp : Nat → Pos) (p q : Pos) (M : Int) (t : Nat) (d : Nat → Int) (v : Nat → Value) (vi vt vb vc last : Value) : (FM5n w a ks st pp p q M t d v vi vt vb vc last).SpecN w a := Fr.specN fun ρ τ => by kernel_rfl

noncomputable def FM5b (w : World) (a ks st : Nat → Nat) (pp : Nat → Pos) (p q : Pos) (M : Int) (t : Nat) (d : Nat → Int) (v : Nat → Value) (vi vt vb vc last : Value) : Fr :=
  frC ((cFM (a 0), q) :: blLaw st pp) (cFMf (a 2) (a 0)) p 4 (FMO w.params ks a M t vi vt vb vc [v 0, v 1, v 2, v 3, v 4] 5 last (.ref 784))
    [.swap 5 1 fun ρ τ => swE (nthS (fBody xFM) 1) (eFM (ρ 0)) ρ 6 771,
     .fn "int.__and__" [.int M, .int 16] (.int (d 16)),
     .fn "int.__eq__" [.int (d 16), .int 16] (.bool true)]
    [] (230) (29126523619568303207269970847130139145969403215237581425933133243352070058263614386861931714495126353571774990268427163812100707252356317530105649156457650002007772822607352741546713014084889076967075151847854391685941793447346229051007656928138885391755172323590174413799476755764629291900080553267445927412700008634480611209661480816452545099406915889182023587067540858950475275212500748417091488033897439816248696782273380357) (fun _ _ => .inl (.again (cFMf (a 2) (a 0)), ⟨760, 25, 760, 30⟩)) (fun _ τ => (FMO w.params ks a M t (.int 5 (τ 0)) (.ref 771) (.int 16 1270) (.str (s [119]) 1294) [v 0, v 1, v 2, v 3, v 4, .str (s [119]) 1294] 6 (.ref 771) (.ref 784))) (fun _ _ => [])
theorem FM5b_n (w : World) (a ks st : Nat → Nat) (pp : Nat → Pos) (p q : Pos) (M : Int) (t : Nat) (d : Nat → Int) (v : Nat → Value) (vi vt vb vc last : Value) : (FM5b w a ks st pp p q M t d v vi vt vb vc last).SpecN w a := Fr.specN fun ρ τ => by kernel_rfl

noncomputable def FM6n (w : World) (a ks st : Nat → Nat) (pp : Nat → Pos) (p q : Pos) (M : Int) (t : Nat) (d : Nat → Int) (v : Nat → Value) (vi vt vb vc last : Value) : Fr :=
  frC ((cFM (a 0), q) :: blLaw st pp) (cFMf (a 2) (a 0)) p 4 (FMO w.params ks a M t vi vt vb vc [v 0, v 1, v 2, v 3, v 4, v 5] 6 last (.ref 784))
    [.swap 5 1 fun ρ τ => swE (nthS (fBody xFM) 1) (eFM (ρ 0)) ρ 7 775,
     .fn "int.__and__" [.int M, .int 1032] (.int (d 1032)),
     .fn "int.__eq__" [.int (d 1032), .int 1032] (.bool false),
     .fn "int.__and__" [.int M, .int 1024] (.int (d 1024)),
     .fn "int.__eq__" [.int (d 1024), .int 1024] (.bool false),
     .fn "int.__and__" [.int M, .int 8] (.int (d 8)),
     .fn "int.__eq__" [.int (d 8), .int 8] (.bool false)]
    [] (443) (538497038780075575820887044053255187174899513117358092667888831347270095658699966591952675570792482200684399356054608423616418992981825940750636385171558557749263343561242353476809085652275230171821943489804030860512061027766912575457191524790460210701817445605968575594636284333793248805357661607761463997255974490492157416259542185538816080970783772641867164684962257945288650479711849377667183736483134117784807753640053961681261918324421632200879549390401573170363580433987251902125340001618793600254543354111757932124535269411570847992990232676840582718151091497592358484205572797491759831044679480159421119892660161152675595777685444088281569239297580345249153413812272271983761318410767145343526733683578311943856587668115843313499930135381627323313527988550722461596570752429028778926145541) (fun _ _ => .inl (.again (cFMf (a 2) (a 0)), ⟨760, 25, 760, 30⟩)) (fun _ τ => (FMO w.params ks a M t (.int 6 (τ 0)) (.ref 775) (.int 8 1272) (.str (s [120]) 1298) [v 0, v 1, v 2, v 3, v 4, v 5, .str (s [45]) (τ 19)] 7 (.ref 775) (.ref 784))) (fun _ _ => [])
theorem FM6n_n (w : World) (a ks st : Nat → Nat) (pp : Nat → Pos) (p q : Pos) (M : Int) (t : Nat) (d : Nat → Int) (v : Nat → Value) (vi vt vb vc last : Value) : (FM6n w a ks st pp p q M t d v vi vt vb vc last).SpecN w a := Fr.specN fun ρ τ => by kernel_rfl

noncomputable def FM6b (w : World) (a ks st : Nat → Nat) (pp : Nat → Pos) (p q : Pos) (M : Int) (t : Nat) (d : Nat → Int) (v : Nat → Value) (vi vt vb vc last : Value) : Fr :=
  frC ((cFM (a 0), q) :: blLaw st pp) (cFMf (a 2) (a 0)) p 4 (FMO w.params ks a M t vi vt vb vc [v 0, v 1, v 2, v 3, v 4, v 5] 6 last (.ref 784))
    [.swap 5 1 fun ρ τ => swE (nthS (fBody xFM) 1) (eFM (ρ 0)) ρ 7 775,
     .fn "int.__and__" [.int M, .int 1032] (.int (d 1032)),
     .fn "int.__eq__" [.int (d 1032), .int 1032] (.bool true)]
    [] (230) (29126523619568303207269970847130139145969403215237581425933133243352070058263614386861931714495126353571774990268427163812100707252356317530105649156457650002007772822607352741546713014084889076967075151847854391685941793447346229051007656928138885391755172323590174413799476755764629291900080553267445927412700008634480611209661480816452545099406915889182023587067540858950475275212500748417091488033897439816248696782273380357) (fun _ _ => .inl (.again (cFMf (a 2) (a 0)), ⟨760, 25, 760, 30⟩)) (fun _ τ => (FMO w.params ks a M t (.int 6 (τ 0)) (.ref 775) (.int 1032 1295) (.str (s [115]) 1296) [v 0, v 1, v 2, v 3, v 4, v 5, .str (s [115]) 1296] 7 (.ref 775) (.ref 784))) (fun _ _ => [])
theorem FM6b_n (w : World) (a ks st : Nat → Nat) (pp : Nat → Pos) (p q : Pos) (M : Int) (t : Nat) (d : Nat → Int) (v : Nat → Value) (vi vt vb vc last : Value) : (FM6b w a ks st pp p q M t d v vi vt vb vc last).SpecN w a := Fr.specN fun ρ τ => by kernel_rfl

noncomputable def FM6x (w : World) (a ks st : Nat → Nat) (pp : Nat → Pos) (p q : Pos) (M : Int) (t : Nat) (d : Nat → Int) (v : Nat → Value) (vi vt vb vc last : Value) : Fr :=
  frC ((cFM (a 0), q) :: blLaw st pp) (cFMf (a 2) (a 0)) p 4 (FMO w.params ks a M t vi vt vb vc [v 0, v 1, v 2, v 3, v 4, v 5] 6 last (.ref 784))
    [.swap 5 1 fun ρ τ => swE (nthS (fBody xFM) 1) (eFM (ρ 0)) ρ 7 775,
     .fn "int.__and__" [.int M, .int 1032] (.int (d 1032)),
     .fn "int.__eq__" [.int (d 1032), .int 1032] (.bool false),
     .fn "int.__and__" [.int M, .int 1024] (.int (d 1024)),
     .fn "int.__eq__" [.int (d 1024), .int 1024] (.bool false),
     .fn "int.__and__" [.int M, .int 8] (.int (d 8)),
     .fn "int.__eq__" [.int (d 8), .int 8] (.bool true)]
    [] (418) (414843028780160856536226202689862550755166273180232521733374025918154640294370795754863394930494404421717755894015747389984050837009713142190203964726397376741163549883199996583421148655295137032096060922066470484797685481799297542036635429225132869472868500483965304739923742343024154459022225458407657348275891649703534376755133442346194296525464114613258502841562424906587742874970842027068572957090242088032179370278363404950389088314283344838305097505042615113918799694871284179229459996971890874861516075976006624902104333170621888115074411019217608161125001081121251912649575769029625338844400407972570359017190036303312423723183770603017689003340350342345782948988727604535967996676589871712368784167570074903790846937688441543810461646695857641872906256389) (fun _ _ => .inl (.again (cFMf (a 2) (a 0)), ⟨760, 25, 760, 30⟩)) (fun _ τ => (FMO w.params ks a M t (.int 6 (τ 0)) (.ref 775) (.int 8 1272) (.str (s [120]) 1298) [v 0, v 1, v 2, v 3, v 4, v 5, .str (s [120]) 1298] 7 (.ref 775) (.ref 784))) (fun _ _ => [])
theorem FM6x_n (w : World) (a ks st : Nat → Nat) (pp : Nat → Pos) (p q : Pos) (M : Int) (t : Nat) (d : Nat → Int) (v : Nat → Value) (vi vt vb vc last : Value) : (FM6x w a ks st pp p q M t d v vi vt vb vc last).SpecN w a := Fr.specN fun ρ τ => by kernel_rfl

noncomputable def FM6s (w : World) (a ks st : Nat → Nat) (pp : Nat → Pos) (p q : Pos) (M : Int) (t : Nat) (d : Nat → Int) (v : Nat → Value) (vi vt vb vc last : Value) : Fr :=
  frC ((cFM (a 0), q) :: blLaw st pp) (cFMf (a 2) (a 0)) p 4 (FMO w.params ks a M t vi vt vb vc [v 0, v 1, v 2, v 3, v 4, v 5] 6 last (.ref 784))
    [.swap 5 1 fun ρ τ => swE (nthS (fBody xFM) 1) (eFM (ρ 0)) ρ 7 775,
     .fn "int.__and__" [.int M, .int 1032] (.int (d 1032)),
     .fn "int.__eq__" [.int (d 1032), .int 1032] (.bool false),
     .fn "int.__and__" [.int M, .int 1024] (.int (d 1024)),
     .fn "int.__eq__" [.int (d 1024), .int 1024] (.bool true)]
    [] (324) (109922405705927891006191276282460839909852886250104990811745883420026104989839524903858722180009636570635842194084847998691038988772788030352937048910651510035078764149953765885595757145069078704322857686628585246473507823675093158393609988525540456758613557823017774599907499866035395813189109614278560558166632035211591668521447613246811748998381833383208238165894970921035797425382304529405416602507844811564021316623321399731033578018594736897263645121910597667659758902393349835870877500288425132630941040134382844116069206460903911410670388976261575566012150481325703402576495174352137879557) (fun _ _ => .inl (.again (cFMf (a 2) (a 0)), ⟨760, 25, 760, 30⟩)) (fun _ τ => (FMO w.params ks a M t (.int 6 (τ 0)) (.ref 775) (.int 1024 1258) (.str (s [83]) 1297) [v 0, v 1, v 2, v 3, v 4, v 5, .str (s [83]) 1297] 7 (.ref 775) (.ref 784))) (fun _ _ => [])
theorem FM6s_n (w : World) (a ks st : Nat → Nat) (pp : Nat → Pos) (p q : Pos) (M : Int) (t : Nat) (d : Nat → Int) (v : Nat → Value) (vi vt vb vc last : Value) : (FM6s w a ks st pp p q M t d v vi vt vb vc last).SpecN w a := Fr.specN fun ρ τ => by kernel_rfl

noncomputable def FM7n (w : World) (a ks st : Nat → Nat) (pp : Nat → Pos) (p q : Pos) (M : Int) (t : Nat) (d : Nat → Int) (v : Nat → Value) (vi vt vb vc last : Value) : Fr :=
  frC ((cFM (a 0), q) :: blLaw st pp) (cFMf (a 2) (a 0)) p 4 (FMO w.params ks a M t vi vt vb vc [v 0, v 1, v 2, v 3, v 4, v 5, v 6] 7 last (.ref 784))
    [.swap 5 1 fun ρ τ => swE (nthS (fBody xFM) 1) (eFM (ρ 0)) ρ 8 777,
     .fn "int.__and__" [.int M, .int 4] (.int (d 4)),
     .fn "int.__eq__" [.int (d 4), .int 4] (.bool false)]
    [] (255) (37808389272481239436238423680117060618626748038765932070960636214896772187254632766070767407827846332438053251845343953609412923848205653341113904427249901406222649917358753396792518430139285287573947450944811632229789822421439412674163620044092011944039198732645598737662375255462665584441001140559666161397858932443356139228648677921025523570021115479819517300393416968479442935684465574174388908019577920780795902272296699140881984783991417451525631256821765) (fun _ _ => .inl (.again (cFMf (a 2) (a 0)), ⟨760, 25, 760, 30⟩)) (fun _ τ => (FMO w.params ks a M t (.int 7 (τ 0)) (.ref 777) (.int 4 1274) (.str (s [114]) 1299) [v 0, v 1, v 2, v 3, v 4, v 5, v 6, .str (s [45]) (τ 9)] 8 (.ref 777) (.ref 784))) (fun _ _ => [])
theorem FM7n_n (w : World) (a ks st : Nat → Nat) (pp : Nat → Pos) (p q : Pos) (M : Int) (t : Nat) (d : Nat → Int) (v : Nat → Value) (vi vt vb vc last : Value) : (FM7n w a ks st pp p q M t d v vi vt vb vc last).SpecN w a := Fr.specN fun ρ τ => by kernel_rfl

noncomputable def FM7b (w : World) (a ks st : Nat → Nat) (pp : Nat → Pos) (p q : Pos) (M : Int) (t : Nat) (d : Nat → Int) (v : Nat → Value) (vi vt vb vc last : Value) : Fr :=
  frC ((cFM (a 0), q) :: blLaw st pp) (cFMf (a 2) (a 0)) p 4 (FMO w.params ks a M t vi vt vb vc [v 0, v 1, v 2, v 3, v 4, v 5, v 6] 7 last (.ref 784))
    [.swap 5 1 fun ρ τ => swE (nthS (fBody xFM) 1) (eFM (ρ 0)) ρ 8 777,
     .fn "int.__and__" [.int M, .int 4] (.int (d 4)),
     .fn "int.__eq__" [.int (d 4), .int 4] (.bool true)]
    [] (230) (29126523619568303207269970847130139145969403215237581425933133243352070058263614386861931714495126353571774990268427163812100707252356317530105649156457650002007772822607352741546713014084889076967075151847854391685941793447346229051007656928138885391755172323590174413799476755764629291900080553267445927412700008634480611209661480816452545099406915889182023587067540858950475275212500748417091488033897439816248696782273380357) (fun _ _ => .inl (.again (cFMf (a 2) (a 0)), ⟨760, 25, 760, 30⟩)) (fun _ τ => (FMO w.params ks a M t (.int 7 (τ 0)) (.ref 777) (.int 4 1274) (.str (s [114]) 1299) [v 0, v 1, v 2, v 3, v 4, v 5, v 6, .str (s [114]) 1299] 8 (.ref 777) (.ref 784))) (fun _ _ => [])
theorem FM7b_n (w : World) (a ks st : Nat → Nat) (pp : Nat → Pos) (p q : Pos) (M : Int) (t : Nat) (d : Nat → Int) (v : Nat → Value) (vi vt vb vc last : Value) : (FM7b w a ks st pp p q M t d v vi vt vb vc last).SpecN w a := Fr.specN fun ρ τ => by kernel_rfl

noncomputable def FM8n (w : World) (a ks st : Nat → Nat) (pp : Nat → Pos) (p q : Pos) (M : Int) (t : Nat) (d : Nat → Int) (v : Nat → Value) (vi vt vb vc last : Value) : Fr :=
  frC ((cFM (a 0), q) :: blLaw st pp) (cFMf (a 2) (a 0)) p 4 (FMO w.params ks a M t vi vt vb vc [v 0, v 1, v 2, v 3, v 4, v 5, v 6, v 7] 8 last (.ref 784))
    [.swap 5 1 fun ρ τ => swE (nthS (fBody xFM) 1) (eFM (ρ 0)) ρ 9 779,
     .fn "int.__and__" [.int M, .int 2] (.int (d 2)),
     .fn "int.__eq__" [.int (d 2), .int 2] (.bool false)]
    [] (255) (37808389272481239436238423680117060618626748038765932070960636214896772187254632766070767407827846332438053251845343953609412923848205653341113904427249901406222649917358753396792518430139285287573947450944811632229789822421439412674163620044092011944039198732645598737662375255462665584441001140559666161397858932443356139228648677921025523570021115479819517300393416968479442935684465574174388908019577920780795902272296699140881984783991417451525631256821765) (fun _ _ => .inl (.again (cFMf (a 2) (a 0)), ⟨760, 25, 760, 30⟩)) (fun _ τ => (FMO w.params ks a M t (.int 8 (τ 0)) (.ref 779) (.int 2 1276) (.str (s [119]) 1300) [v 0, v 1, v 2, v 3, v 4, v 5, v 6, v 7, .str (s [45]) (τ 9)] 9 (.ref 779) (.ref 784))) (fun _ _ => [])
theorem FM8n_n (w : World) (a ks st : Nat → Nat) (pp : Nat → Pos) (p q : Pos) (M : Int) (t : Nat) (d : Nat → Int) (v : Nat → Value) (vi vt vb vc last : Value) : (FM8n w a ks st pp p q M t d v vi vt vb vc last).SpecN w a := Fr.specN fun ρ τ => by kernel_rfl

noncomputable def FM8b (w : World) (a ks st : Nat → Nat) (pp : Nat → Pos) (p q : Pos) (M : Int) (t : Nat) (d : Nat → Int) (v : Nat → Value) (vi vt vb vc last : Value) : Fr :=
  frC ((cFM (a 0), q) :: blLaw st pp) (cFMf (a 2) (a 0)) p 4 (FMO w.params ks a M t vi vt vb vc [v 0, v 1, v 2, v 3, v 4, v 5, v 6, v 7] 8 last (.ref 784))
    [.swap 5 1 fun ρ τ => swE (nthS (fBody xFM) 1) (eFM (ρ 0)) ρ 9 779,
     .fn "int.__and__" [.int M, .int 2] (.int (d 2)),
     .fn "int.__eq__" [.int (d 2), .int 2] (.bool true)]
    [] (230) (29126523619568303207269970847130139145969403215237581425933133243352070058263614386861931714495126353571774990268427163812100707252356317530105649156457650002007772822607352741546713014084889076967075151847854391685941793447346229051007656928138885391755172323590174413799476755764629291900080553267445927412700008634480611209661480816452545099406915889182023587067540858950475275212500748417091488033897439816248696782273380357) (fun _ _ => .inl (.again (cFMf (a 2) (a 0)), ⟨760, 25, 760, 30⟩)) (fun _ τ => (FMO w.params ks a M t (.int 8 (τ 0)) (.ref 779) (.int 2 1276) (.str (s [119]) 1300) [v 0, v 1, v 2, v 3, v 4, v 5, v 6, v 7, .str (s [119]) 1300] 9 (.ref 779) (.ref 784))) (fun _ _ => [])
theorem FM8b_n (w : World) (a ks st : Nat → Nat) (pp : Nat → Pos) (p q : Pos) (M : Int) (t : Nat) (d : Nat → Int) (v : Nat → Value) (vi vt vb vc last : Value) : (FM8b w a ks st pp p q M t d v vi vt vb vc last).SpecN w a := Fr.specN fun ρ τ => by kernel_rfl

noncomputable def FM9n (w : World) (a ks st : Nat → Nat) (pp : Nat → Pos) (p q : Pos) (M : Int) (t : Nat) (d : Nat → Int) (v : Nat → Value) (vi vt vb vc last : Value) : Fr :=
  frC ((cFM (a 0), q) :: blLaw st pp) (cFMf (a 2) (a 0)) p 4 (FMO w.params ks a M t vi vt vb vc [v 0, v 1, v 2, v 3, v 4, v 5, v 6, v 7, v 8] 9 last (.ref 784))
    [.swap 5 1 fun ρ τ => swE (nthS (fBody xFM) 1) (eFM (ρ 0)) ρ 10 783,
     .fn "int.__and__" [.int M, .int 513] (.int (d 513)),
     .fn "int.__eq__" [.int (d 513), .int 513] (.bool false),
     .fn "int.__and__" [.int M, .int 512] (.int (d 512)),
     .fn "int.__eq__" [.int (d 512), .int 512] (.bool false),
     .fn "int.__and__" [.int M, .int 1] (.int (d 1)),
     .fn "int.__eq__" [.int (d 1), .int 1] (.bool false)]
    [] (443) (538497038780075575820887044053255187174899513117358092667888831347270095658699966591952675570792482200684399356054608423616418992981825940750636385171558557749263343561242353476809085652275230171821943489804030860512061027766912575457191524790460210701817445605968575594636284333793248805357661607761463997255974490492157416259542185538816080970783772641867164684962257945288650479711849377667183736483134117784807753640053961681261918324421632200879549390401573170363580433987251902125340001618793600254543354111757932124535269411570847992990232676840582718151091497592358484205572797491759831044679480159421119892660161152675595777685444088281569239297580345249153413812272271983761318410767145343526733683578311943856587668115843313499930135381627323313527988550722461596570752429028778926145541) (fun _ _ => .inl (.again (cFMf (a 2) (a 0)), ⟨760, 25, 760, 30⟩)) (fun _ τ => (FMO w.params ks a M t (.int 9 (τ 0)) (.ref 783) (.int 1 1278) (.str (s [120]) 1304) [v 0, v 1, v 2, v 3, v 4, v 5, v 6, v 7, v 8, .str (s [45]) (τ 19)] 10 (.ref 783) (.ref 784))) (fun _ _ => [])
theorem FM9n_n (w : World) (a ks st : Nat → Nat) (pp : Nat → Pos) (p q : Pos) (M : Int) (t : Nat) (d : Nat → Int) (v : Nat → Value) (vi vt vb vc last : Value) : (FM9n w a ks st pp p q M t d v vi vt vb vc last).SpecN w a := Fr.specN fun ρ τ => by kernel_rfl

noncomputable def FM9b (w : World) (a ks st : Nat → Nat) (pp : Nat → Pos) (p q : Pos) (M : Int) (t : Nat) (d : Nat → Int) (v : Nat → Value) (vi vt vb vc last : Value) : Fr :=
  frC ((cFM (a 0), q) :: blLaw st pp) (cFMf (a 2) (a 0)) p 4 (FMO w.params ks a M t vi vt vb vc [v 0, v 1, v 2, v 3, v 4, v 5, v 6, v 7, v 8] 9 last (.ref 784))
    [.swap 5 1 fun ρ τ => swE (nthS (fBody xFM) 1) (eFM (ρ 0)) ρ 10 783,
     .fn "int.__and__" [.int M, .int 513] (.int (d 513)),
     .fn "int.__eq__" [.int (d 513), .int 513] (.bool true)]
    [] (230) (29126523619568303207269970847130139145969403215237581425933133243352070058263614386861931714495126353571774990268427163812100707252356317530105649156457650002007772822607352741546713014084889076967075151847854391685941793447346229051007656928138885391755172323590174413799476755764629291900080553267445927412700008634480611209661480816452545099406915889182023587067540858950475275212500748417091488033897439816248696782273380357) (fun _ _ => .inl (.again (cFMf (a 2) (a 0)), ⟨760, 25, 760, 30⟩)) (fun _ τ => (FMO w.params ks a M t (.int 9 (τ 0)) (.ref 783) (.int 513 1301) (.str (s [116]) 1302) [v 0, v 1, v 2, v 3, v 4, v 5, v 6, v 7, v 8, .str (s [116]) 1302] 10 (.ref 783) (.ref 784))) (fun _ _ => [])
theorem FM9b_n (w : World) (a ks st : Nat → Nat) (pp : Nat → Pos) (p q : Pos) (M : Int) (t : Nat) (d : Nat → Int) (v : Nat → Value) (vi vt vb vc last : Value) : (FM9b w a ks st pp p q M t d v vi vt vb vc last).SpecN w a := Fr.specN fun ρ τ => by kernel_rfl

noncomputable def FM9x (w : World) (a ks st : Nat → Nat) (pp : Nat → Pos) (p q : Pos) (M : Int) (t : Nat) (d : Nat → Int) (v : Nat → Value) (vi vt vb vc last : Value) : Fr :=
  frC ((cFM (a 0), q) :: blLaw st pp) (cFMf (a 2) (a 0)) p 4 (FMO w.params ks a M t vi vt vb vc [v 0, v 1, v 2, v 3, v 4, v 5, v 6, v 7, v 8] 9 last (.ref 784))
    [.swap 5 1 fun ρ τ => swE (nthS (fBody xFM) 1) (eFM (ρ 0)) ρ 10 783,
     .fn "int.__and__" [.int M, .int 513] (.int (d 513)),
     .fn "int.__eq__" [.int (d 513), .int 513] (.bool false),
     .fn "int.__and__" [.int M, .int 512] (.int (d 512)),
     .fn "int.__eq__" [.int (d 512), .int 512] (.bool false),
     .fn "int.__and__" [.int M, .int 1] (.int (d 1)),
     .fn "int.__eq__" [.int (d 1), .int 1] (.bool true)]
    [] (418) (414843028780160856536226202689862550755166273180232521733374025918154640294370795754863394930494404421717755894015747389984050837009713142190203964726397376741163549883199996583421148655295137032096060922066470484797685481799297542036635429225132869472868500483965304739923742343024154459022225458407657348275891649703534376755133442346194296525464114613258502841562424906587742874970842027068572957090242088032179370278363404950389088314283344838305097505042615113918799694871284179229459996971890874861516075976006624902104333170621888115074411019217608161125001081121251912649575769029625338844400407972570359017190036303312423723183770603017689003340350342345782948988727604535967996676589871712368784167570074903790846937688441543810461646695857641872906256389) (fun _ _ => .inl (.again (cFMf (a 2) (a 0)), ⟨760, 25, 760, 30⟩)) (fun _ τ => (FMO w.params ks a M t (.int 9 (τ 0)) (.ref 783) (.int 1 1278) (.str (s [120]) 1304) [v 0, v 1, v 2, v 3, v 4, v 5, v 6, v 7, v 8, .str (s [120]) 1304] 10 (.ref 783) (.ref 784))) (fun _ _ => [])
theorem FM9x_n (w : World) (a ks st : Nat → Nat) (pp : Nat → Pos) (p q : Pos) (M : Int) (t : Nat) (d : Nat → Int) (v : Nat → Value) (vi vt vb vc last : Value) : (FM9x w a ks st pp p q M t d v vi vt vb vc last).SpecN w a := Fr.specN fun ρ τ => by kernel_rfl

noncomputable def FM9s (w : World) (a ks st : Nat → Nat) (pp : Nat → Pos) (p q : Pos) (M : Int) (t : Nat) (d : Nat → Int) (v : Nat → Value) (vi vt vb vc last : Value) : Fr :=
  frC ((cFM (a 0), q) :: blLaw st pp) (cFMf (a 2) (a 0)) p 4 (FMO w.params ks a M t vi vt vb vc [v 0, v 1, v 2, v 3, v 4, v 5, v 6, v 7, v 8] 9 last (.ref 784))
    [.swap 5 1 fun ρ τ => swE (nthS (fBody xFM) 1) (eFM (ρ 0)) ρ 10 783,
     .fn "int.__and__" [.int M, .int 513] (.int (d 513)),
     .fn "int.__eq__" [.int (d 513), .int 513] (.bool false),
     .fn "int.__and__" [.int M, .int 512] (.int (d 512)),
     .fn "int.__eq__" [.int (d 512), .int 512] (.bool true)]
    [] (324) (109922405705927891006191276282460839909852886250104990811745883420026104989839524903858722180009636570635842194084847998691038988772788030352937048910651510035078764149953765885595757145069078704322857686628585246473507823675093158393609988525540456758613557823017774599907499866035395813189109614278560558166632035211591668521447613246811748998381833383208238165894970921035797425382304529405416602507844811564021316623321399731033578018594736897263645121910597667659758902393349835870877500288425132630941040134382844116069206460903911410670388976261575566012150481325703402576495174352137879557) (fun _ _ => .inl (.again (cFMf (a 2) (a 0)), ⟨760, 25, 760, 30⟩)) (fun _ τ => (FMO w.params ks a M t (.int 9 (τ 0)) (.ref 783) (.int 512 1260) (.str (s [84]) 1303) [v 0, v 1, v 2, v 3, v 4, v 5, v 6, v 7, v 8, .str (s [84]) 1303] 10 (.ref 783) (.ref 784))) (fun _ _ => [])
theorem FM9s_n (w : World) (a ks st : Nat → Nat) (pp : Nat → Pos) (p q : Pos) (M : Int) (t : Nat) (d : Nat → Int) (v : Nat → Value) (vi vt vb vc last : Value) : (FM9s w a ks st pp p q M t d v vi vt vb vc last).SpecN w a := Fr.specN fun ρ τ => by kernel_rfl

noncomputable def FMe (w : World) (a st ks : Nat → Nat) (pp : Nat → Pos) (p q : Pos) (M : Int) (t : Nat) (v : Nat → Value) (vi vt vb vc last : Value) : Fr :=
  frC ((cFM (a 0), q) :: blLaw st pp) (cFMf (a 2) (a 0)) p 4 (FMO w.params ks a M t vi vt vb vc [v 0, v 1, v 2, v 3, v 4, v 5, v 6, v 7, v 8, v 9] 10 last (.ref 784))
    []
    [] (25) (10641620017477991239434608916556677125) (fun _ _ => .inl (.done .next, ⟨759, 8, 759, 20⟩)) (fun _ _ => (FMO w.params ks a M t vi vt vb vc [v 0, v 1, v 2, v 3, v 4, v 5, v 6, v 7, v 8, v 9] 10 last .none)) (fun _ _ => [])
theorem FMe_n (w : World) (a st ks : Nat → Nat) (pp : Nat → Pos) (p q : Pos) (M : Int) (t : Nat) (v : Nat → Value) (vi vt vb vc last : Value) : (FMe w a st ks pp p q M t v vi vt vb vc last).SpecN w a := Fr.specN fun ρ τ => by kernel_rfl

end Mine
end
section -- Fm2
open PySem PySem.W PyProof.Rows PySem.Calls
set_option Elab.async false
set_option linter.unusedVariables false
set_option maxRecDepth 100000
set_option maxHeartbeats 0
namespace Mine
theorem bitAnd_nat (m b : Nat) : Builtin.bitAnd (Int.ofNat m) (b : Int) = Int.ofNat (m &&& b) := by
  unfold Builtin.bitAnd
  rw [decide_eq_true (show (0 : Int) ≤ Int.ofNat m from Int.natCast_nonneg m), decide_eq_true (Int.natCast_nonneg b)]
  rfl
theorem eqN (x b : Nat) {r : Bool} (h : decide (x = b) = r) : decide (Int.ofNat x = (b : Int)) = r := by
  rw [← h]
  exact decide_eq_decide.mpr ⟨fun e => Int.ofNat.inj e, fun e => by rw [e]; rfl⟩
theorem and_pow (m k : Nat) : m &&& 2 ^ k = m / 2 ^ k % 2 * 2 ^ k := by
  apply Nat.eq_of_testBit_eq
  intro i
  rw [Nat.testBit_and, Nat.testBit_mul_two_pow, Nat.testBit_two_pow]
  by_cases hi : k ≤ i
  · rw [decide_eq_true hi, Bool.true_and]
    by_cases e : k = i
    · subst e
      rw [decide_eq_true rfl, Bool.and_true, Nat.sub_self, Nat.testBit_eq_decide_div_mod_eq, Nat.testBit_eq_decide_div_mod_eq]
      simp
    · rw [decide_eq_false e, Bool.and_false, Nat.testBit_eq_decide_div_mod_eq]
      have h1 : m / 2 ^ k % 2 / 2 ^ (i - k) = 0 := Nat.div_eq_of_lt (by
        have : 2 ^ 1 ≤ 2 ^ (i - k) := Nat.pow_le_pow_right (by decide) (by omega)
        have : m / 2 ^ k % 2 < 2 := Nat.mod_lt _ (by decide)
        omega)
      rw [h1]; rfl
  · rw [decide_eq_false hi, Bool.false_and, decide_eq_false (by omega), Bool.and_false]
theorem and_two {m x s xs : Nat} (h : xs = s ||| x) : m &&& xs = (m &&& s) ||| (m &&& x) := by rw [h, Nat.and_or_distrib_left]
theorem and_kind (m : Nat) (hm : m < 65536) : m &&& 61440 = m / 4096 * 4096 := by
  have e : (61440 : Nat) = 15 * 2 ^ 12 := rfl
  rw [e]
  apply Nat.eq_of_testBit_eq
  intro i
  rw [Nat.testBit_and, show m / 4096 * 4096 = m / 2 ^ 12 * 2 ^ 12 from rfl, Nat.testBit_mul_two_pow, Nat.testBit_mul_two_pow, Nat.testBit_div_two_pow]
  by_cases hi : 12 ≤ i
  · rw [decide_eq_true hi, Bool.true_and, Bool.true_and, show i - 12 + 12 = i by omega, show (15 : Nat) = 2 ^ 4 - 1 from rfl, Nat.testBit_two_pow_sub_one]
    by_cases h4 : i - 12 < 4
    · rw [decide_eq_true h4, Bool.and_true]
    · rw [decide_eq_false h4, Bool.and_false, Nat.testBit_lt_two_pow (Nat.lt_of_lt_of_le hm (by
        have : 2 ^ 16 ≤ 2 ^ i := Nat.pow_le_pow_right (by decide) (by omega)
        exact this))]
  · rw [decide_eq_false hi, Bool.false_and, Bool.false_and, Bool.and_false]
noncomputable abbrev dAnd (m : Nat) : Nat → Int := fun b => Int.ofNat (m &&& b)
noncomputable abbrev Gfm (a st : Nat → Nat) (pp : Nat → Pos) (q : Pos) : Ctx := ⟨cFMf (a 2) (a 0), none, none, (cFM (a 0), q) :: blLaw st pp, none⟩
theorem fm_0 (w : World) (S : Shared) (a st ks : Nat → Nat) (pp : Nat → Pos) (p q : Pos) (m t : Nat) (hm : m < 65536) {R : Result → Shared → Prop} {h : Heap} {tk : Nat}
    (G : Given (WD w S) a [FRM (EN w.params ks [([109, 111, 100, 101], .int (Int.ofNat m) t), ([112, 101, 114, 109], .ref (a 1))] 2) ⟨[]⟩, LST [] 0, ENUM (a 3) 0 .none, TIT (.ref 784) 0] h)
    (F : (∀ (ks vi_ vt_ vb_ vc_ last_ : _) (p : Pos) (tn : Nat) (h' : Heap) (tk : Nat), Nx (WD w S) 4 a (FMO w.params ks a (Int.ofNat m) t vi_ vt_ vb_ vc_ [.str ⟨⟨[rowOf m 0]⟩⟩ tn] 1 last_ (.ref 784)) h h' → wpCode (model pwR w) (Gfm a st pp q) R p ((WD w S).sh h' tk))) : wpCode (model pwR w) (Gfm a st pp q) R p ((WD w S).sh h tk) := by
  have hand := and_kind m hm
  have h0 : rowOf m 0 = nthN [63, 112, 99, 63, 100, 63, 98, 63, 45, 63, 108, 63, 115, 63, 63, 63] (m / 4096) := rfl
  have lt : m / 4096 = 0 ∨ m / 4096 = 1 ∨ m / 4096 = 2 ∨ m / 4096 = 3 ∨ m / 4096 = 4 ∨ m / 4096 = 5 ∨ m / 4096 = 6 ∨ m / 4096 = 7 ∨ m / 4096 = 8 ∨ m / 4096 = 9 ∨ m / 4096 = 10 ∨ m / 4096 = 11 ∨ m / 4096 = 12 ∨ m / 4096 = 13 ∨ m / 4096 = 14 ∨ m / 4096 = 15 := by omega
  rcases lt with e | e | e | e | e | e | e | e | e | e | e | e | e | e | e | e
  · rw [h0, e] at F
    rw [e] at hand
    refine FM0k0_n w a ks st pp p q (Int.ofNat m) t (dAnd m) G ?_ fun τ h' tk' N => F _ _ _ _ _ _ _ _ h' tk' N
    · refine okc ?_ (okc ?_ (okc ?_ (okc ?_ (okc ?_ (okc ?_ (okc ?_ (okc ?_ (okc ?_ (okc ?_ (okc ?_ (okc ?_ (okc ?_ (okc ?_ (okc ?_ ok0))))))))))))))
      · exact fun ρ τ => swE_ok (swap_own rfl (by decide))
      · exact fn_andI w S (bitAnd_nat m 61440)
      · exact fn_eqI w S (eqN (m &&& 61440) 40960 (by rw [hand]; decide))
      · exact fn_andI w S (bitAnd_nat m 61440)
      · exact fn_eqI w S (eqN (m &&& 61440) 49152 (by rw [hand]; decide))
      · exact fn_andI w S (bitAnd_nat m 61440)
      · exact fn_eqI w S (eqN (m &&& 61440) 32768 (by rw [hand]; decide))
      · exact fn_andI w S (bitAnd_nat m 61440)
      · exact fn_eqI w S (eqN (m &&& 61440) 24576 (by rw [hand]; decide))
      · exact fn_andI w S (bitAnd_nat m 61440)
      · exact fn_eqI w S (eqN (m &&& 61440) 16384 (by rw [hand]; decide))
      · exact fn_andI w S (bitAnd_nat m 61440)
      · exact fn_eqI w S (eqN (m &&& 61440) 8192 (by rw [hand]; decide))
      · exact fn_andI w S (bitAnd_nat m 61440)
      · exact fn_eqI w S (eqN (m &&& 61440) 4096 (by rw [hand]; decide))
  · rw [h0, e] at F
    rw [e] at hand
    refine FM0k1_n w a ks st pp p q (Int.ofNat m) t (dAnd m) G ?_ fun τ h' tk' N => F _ _ _ _ _ _ _ _ h' tk' N
    · refine okc ?_ (okc ?_ (okc ?_ (okc ?_ (okc ?_ (okc ?_ (okc ?_ (okc ?_ (okc ?_ (okc ?_ (okc ?_ (okc ?_ (okc ?_ (okc ?_ (okc ?_ ok0))))))))))))))
      · exact fun ρ τ => swE_ok (swap_own rfl (by decide))
      · exact fn_andI w S (bitAnd_nat m 61440)
      · exact fn_eqI w S (eqN (m &&& 61440) 40960 (by rw [hand]; decide))
      · exact fn_andI w S (bitAnd_nat m 61440)
      · exact fn_eqI w S (eqN (m &&& 61440) 49152 (by rw [hand]; decide))
      · exact fn_andI w S (bitAnd_nat m 61440)
      · exact fn_eqI w S (eqN (m &&& 61440) 32768 (by rw [hand]; decide))
      · exact fn_andI w S (bitAnd_nat m 61440)
      · exact fn_eqI w S (eqN (m &&& 61440) 24576 (by rw [hand]; decide))
      · exact fn_andI w S (bitAnd_nat m 61440)
      · exact fn_eqI w S (eqN (m &&& 61440) 16384 (by rw [hand]; decide))
      · exact fn_andI w S (bitAnd_nat m 61440)
      · exact fn_eqI w S (eqN (m &&& 61440) 8192 (by rw [hand]; decide))
      · exact fn_andI w S (bitAnd_nat m 61440)
      · exact fn_eqI w S (eqN (m &&& 61440) 4096 (by rw [hand]; decide))
  · rw [h0, e] at F
    rw [e] at hand
    refine FM0k2_n w a ks st pp p q (Int.ofNat m) t (dAnd m) G ?_ fun τ h' tk' N => F _ _ _ _ _ _ _ _ h' tk' N
    · refine okc ?_ (okc ?_ (okc ?_ (okc ?_ (okc ?_ (okc ?_ (okc ?_ (okc ?_ (okc ?_ (okc ?_ (okc ?_ (okc ?_ (okc ?_ ok0))))))))))))
      · exact fun ρ τ => swE_ok (swap_own rfl (by decide))
      · exact fn_andI w S (bitAnd_nat m 61440)
      · exact fn_eqI w S (eqN (m &&& 61440) 40960 (by rw [hand]; decide))
      · exact fn_andI w S (bitAnd_nat m 61440)
      · exact fn_eqI w S (eqN (m &&& 61440) 49152 (by rw [hand]; decide))
      · exact fn_andI w S (bitAnd_nat m 61440)
      · exact fn_eqI w S (eqN (m &&& 61440) 32768 (by rw [hand]; decide))
      · exact fn_andI w S (bitAnd_nat m 61440)
      · exact fn_eqI w S (eqN (m &&& 61440) 24576 (by rw [hand]; decide))
      · exact fn_andI w S (bitAnd_nat m 61440)
      · exact fn_eqI w S (eqN (m &&& 61440) 16384 (by rw [hand]; decide))
      · exact fn_andI w S (bitAnd_nat m 61440)
      · exact fn_eqI w S (eqN (m &&& 61440) 8192 (by rw [hand]; decide))
  · rw [h0, e] at F
    rw [e] at hand
    refine FM0k0_n w a ks st pp p q (Int.ofNat m) t (dAnd m) G ?_ fun τ h' tk' N => F _ _ _ _ _ _ _ _ h' tk' N
    · refine okc ?_ (okc ?_ (okc ?_ (okc ?_ (okc ?_ (okc ?_ (okc ?_ (okc ?_ (okc ?_ (okc ?_ (okc ?_ (okc ?_ (okc ?_ (okc ?_ (okc ?_ ok0))))))))))))))
      · exact fun ρ τ => swE_ok (swap_own rfl (by decide))
      · exact fn_andI w S (bitAnd_nat m 61440)
      · exact fn_eqI w S (eqN (m &&& 61440) 40960 (by rw [hand]; decide))
      · exact fn_andI w S (bitAnd_nat m 61440)
      · exact fn_eqI w S (eqN (m &&& 61440) 49152 (by rw [hand]; decide))
      · exact fn_andI w S (bitAnd_nat m 61440)
      · exact fn_eqI w S (eqN (m &&& 61440) 32768 (by rw [hand]; decide))
      · exact fn_andI w S (bitAnd_nat m 61440)
      · exact fn_eqI w S (eqN (m &&& 61440) 24576 (by rw [hand]; decide))
      · exact fn_andI w S (bitAnd_nat m 61440)
      · exact fn_eqI w S (eqN (m &&& 61440) 16384 (by rw [hand]; decide))
      · exact fn_andI w S (bitAnd_nat m 61440)
      · exact fn_eqI w S (eqN (m &&& 61440) 8192 (by rw [hand]; decide))
      · exact fn_andI w S (bitAnd_nat m 61440)
      · exact fn_eqI w S (eqN (m &&& 61440) 4096 (by rw [hand]; decide))
  · rw [h0, e] at F
    rw [e] at hand
    refine FM0k4_n w a ks st pp p q (Int.ofNat m) t (dAnd m) G ?_ fun τ h' tk' N => F _ _ _ _ _ _ _ _ h' tk' N
    · refine okc ?_ (okc ?_ (okc ?_ (okc ?_ (okc ?_ (okc ?_ (okc ?_ (okc ?_ (okc ?_ (okc ?_ (okc ?_ ok0))))))))))
      · exact fun ρ τ => swE_ok (swap_own rfl (by decide))
      · exact fn_andI w S (bitAnd_nat m 61440)
      · exact fn_eqI w S (eqN (m &&& 61440) 40960 (by rw [hand]; decide))
      · exact fn_andI w S (bitAnd_nat m 61440)
      · exact fn_eqI w S (eqN (m &&& 61440) 49152 (by rw [hand]; decide))
      · exact fn_andI w S (bitAnd_nat m 61440)
      · exact fn_eqI w S (eqN (m &&& 61440) 32768 (by rw [hand]; decide))
      · exact fn_andI w S (bitAnd_nat m 61440)
      · exact fn_eqI w S (eqN (m &&& 61440) 24576 (by rw [hand]; decide))
      · exact fn_andI w S (bitAnd_nat m 61440)
      · exact fn_eqI w S (eqN (m &&& 61440) 16384 (by rw [hand]; decide))
  · rw [h0, e] at F
    rw [e] at hand
    refine FM0k0_n w a ks st pp p q (Int.ofNat m) t (dAnd m) G ?_ fun τ h' tk' N => F _ _ _ _ _ _ _ _ h' tk' N
    · refine okc ?_ (okc ?_ (okc ?_ (okc ?_ (okc ?_ (okc ?_ (okc ?_ (okc ?_ (okc ?_ (okc ?_ (okc ?_ (okc ?_ (okc ?_ (okc ?_ (okc ?_ ok0))))))))))))))
      · exact fun ρ τ => swE_ok (swap_own rfl (by decide))
      · exact fn_andI w S (bitAnd_nat m 61440)
      · exact fn_eqI w S (eqN (m &&& 61440) 40960 (by rw [hand]; decide))
      · exact fn_andI w S (bitAnd_nat m 61440)
      · exact fn_eqI w S (eqN (m &&& 61440) 49152 (by rw [hand]; decide))
      · exact fn_andI w S (bitAnd_nat m 61440)
      · exact fn_eqI w S (eqN (m &&& 61440) 32768 (by rw [hand]; decide))
      · exact fn_andI w S (bitAnd_nat m 61440)
      · exact fn_eqI w S (eqN (m &&& 61440) 24576 (by rw [hand]; decide))
      · exact fn_andI w S (bitAnd_nat m 61440)
      · exact fn_eqI w S (eqN (m &&& 61440) 16384 (by rw [hand]; decide))
      · exact fn_andI w S (bitAnd_nat m 61440)
      · exact fn_eqI w S (eqN (m &&& 61440) 8192 (by rw [hand]; decide))
      · exact fn_andI w S (bitAnd_nat m 61440)
      · exact fn_eqI w S (eqN (m &&& 61440) 4096 (by rw [hand]; decide))
  · rw [h0, e] at F
    rw [e] at hand
    refine FM0k6_n w a ks st pp p q (Int.ofNat m) t (dAnd m) G ?_ fun τ h' tk' N => F _ _ _ _ _ _ _ _ h' tk' N
    · refine okc ?_ (okc ?_ (okc ?_ (okc ?_ (okc ?_ (okc ?_ (okc ?_ (okc ?_ (okc ?_ ok0))))))))
      · exact fun ρ τ => swE_ok (swap_own rfl (by decide))
      · exact fn_andI w S (bitAnd_nat m 61440)
      · exact fn_eqI w S (eqN (m &&& 61440) 40960 (by rw [hand]; decide))
      · exact fn_andI w S (bitAnd_nat m 61440)
      · exact fn_eqI w S (eqN (m &&& 61440) 49152 (by rw [hand]; decide))
      · exact fn_andI w S (bitAnd_nat m 61440)
      · exact fn_eqI w S (eqN (m &&& 61440) 32768 (by rw [hand]; decide))
      · exact fn_andI w S (bitAnd_nat m 61440)
      · exact fn_eqI w S (eqN (m &&& 61440) 24576 (by rw [hand]; decide))
  · rw [h0, e] at F
    rw [e] at hand
    refine FM0k0_n w a ks st pp p q (Int.ofNat m) t (dAnd m) G ?_ fun τ h' tk' N => F _ _ _ _ _ _ _ _ h' tk' N
    · refine okc ?_ (okc ?_ (okc ?_ (okc ?_ (okc ?_ (okc ?_ (okc ?_ (okc ?_ (okc ?_ (okc ?_ (okc ?_ (okc ?_ (okc ?_ (okc ?_ (okc ?_ ok0))))))))))))))
      · exact fun ρ τ => swE_ok (swap_own rfl (by decide))
      · exact fn_andI w S (bitAnd_nat m 61440)
      · exact fn_eqI w S (eqN (m &&& 61440) 40960 (by rw [hand]; decide))
      · exact fn_andI w S (bitAnd_nat m 61440)
      · exact fn_eqI w S (eqN (m &&& 61440) 49152 (by rw [hand]; decide))
      · exact fn_andI w S (bitAnd_nat m 61440)
      · exact fn_eqI w S (eqN (m &&& 61440) 32768 (by rw [hand]; decide))
      · exact fn_andI w S (bitAnd_nat m 61440)
      · exact fn_eqI w S (eqN (m &&& 61440) 24576 (by rw [hand]; decide))
      · exact fn_andI w S (bitAnd_nat m 61440)
      · exact fn_eqI w S (eqN (m &&& 61440) 16384 (by rw [hand]; decide))
      · exact fn_andI w S (bitAnd_nat m 61440)
      · exact fn_eqI w S (eqN (m &&& 61440) 8192 (by rw [hand]; decide))
      · exact fn_andI w S (bitAnd_nat m 61440)
      · exact fn_eqI w S (eqN (m &&& 61440) 4096 (by rw [hand]; decide))
  · rw [h0, e] at F
    rw [e] at hand
    refine FM0k8_n w a ks st pp p q (Int.ofNat m) t (dAnd m) G ?_ fun τ h' tk' N => F _ _ _ _ _ _ _ _ h' tk' N
    · refine okc ?_ (okc ?_ (okc ?_ (okc ?_ (okc ?_ (okc ?_ (okc ?_ ok0))))))
      · exact fun ρ τ => swE_ok (swap_own rfl (by decide))
      · exact fn_andI w S (bitAnd_nat m 61440)
      · exact fn_eqI w S (eqN (m &&& 61440) 40960 (by rw [hand]; decide))
      · exact fn_andI w S (bitAnd_nat m 61440)
      · exact fn_eqI w S (eqN (m &&& 61440) 49152 (by rw [hand]; decide))
      · exact fn_andI w S (bitAnd_nat m 61440)
      · exact fn_eqI w S (eqN (m &&& 61440) 32768 (by rw [hand]; decide))
  · rw [h0, e] at F
    rw [e] at hand
    refine FM0k0_n w a ks st pp p q (Int.ofNat m) t (dAnd m) G ?_ fun τ h' tk' N => F _ _ _ _ _ _ _ _ h' tk' N
    · refine okc ?_ (okc ?_ (okc ?_ (okc ?_ (okc ?_ (okc ?_ (okc ?_ (okc ?_ (okc ?_ (okc ?_ (okc ?_ (okc ?_ (okc ?_ (okc ?_ (okc ?_ ok0))))))))))))))
      · exact fun ρ τ => swE_ok (swap_own rfl (by decide))
      · exact fn_andI w S (bitAnd_nat m 61440)
      · exact fn_eqI w S (eqN (m &&& 61440) 40960 (by rw [hand]; decide))
      · exact fn_andI w S (bitAnd_nat m 61440)
      · exact fn_eqI w S (eqN (m &&& 61440) 49152 (by rw [hand]; decide))
      · exact fn_andI w S (bitAnd_nat m 61440)
      · exact fn_eqI w S (eqN (m &&& 61440) 32768 (by rw [hand]; decide))
      · exact fn_andI w S (bitAnd_nat m 61440)
      · exact fn_eqI w S (eqN (m &&& 61440) 24576 (by rw [hand]; decide))
      · exact fn_andI w S (bitAnd_nat m 61440)
      · exact fn_eqI w S (eqN (m &&& 61440) 16384 (by rw [hand]; decide))
      · exact fn_andI w S (bitAnd_nat m 61440)
      · exact fn_eqI w S (eqN (m &&& 61440) 8192 (by rw [hand]; decide))
      · exact fn_andI w S (bitAnd_nat m 61440)
      · exact fn_eqI w S (eqN (m &&& 61440) 4096 (by rw [hand]; decide))
  · rw [h0, e] at F
    rw [e] at hand
    refine FM0k10_n w a ks st pp p q (Int.ofNat m) t (dAnd m) G ?_ fun τ h' tk' N => F _ _ _ _ _ _ _ _ h' tk' N
    · refine okc ?_ (okc ?_ (okc ?_ ok0))
      · exact fun ρ τ => swE_ok (swap_own rfl (by decide))
      · exact fn_andI w S (bitAnd_nat m 61440)
      · exact fn_eqI w S (eqN (m &&& 61440) 40960 (by rw [hand]; decide))
  · rw [h0, e] at F
    rw [e] at hand
    refine FM0k0_n w a ks st pp p q (Int.ofNat m) t (dAnd m) G ?_ fun τ h' tk' N => F _ _ _ _ _ _ _ _ h' tk' N
    · refine okc ?_ (okc ?_ (okc ?_ (okc ?_ (okc ?_ (okc ?_ (okc ?_ (okc ?_ (okc ?_ (okc ?_ (okc ?_ (okc ?_ (okc ?_ (okc ?_ (okc ?_ ok0))))))))))))))
      · exact fun ρ τ => swE_ok (swap_own rfl (by decide))
      · exact fn_andI w S (bitAnd_nat m 61440)
      · exact fn_eqI w S (eqN (m &&& 61440) 40960 (by rw [hand]; decide))
      · exact fn_andI w S (bitAnd_nat m 61440)
      · exact fn_eqI w S (eqN (m &&& 61440) 49152 (by rw [hand]; decide))
      · exact fn_andI w S (bitAnd_nat m 61440)
      · exact fn_eqI w S (eqN (m &&& 61440) 32768 (by rw [hand]; decide))
      · exact fn_andI w S (bitAnd_nat m 61440)
      · exact fn_eqI w S (eqN (m &&& 61440) 24576 (by rw [hand]; decide))
      · exact fn_andI w S (bitAnd_nat m 61440)
      · exact fn_eqI w S (eqN (m &&& 61440) 16384 (by rw [hand]; decide))
      · exact fn_andI w S (bitAnd_nat m 61440)
      · exact fn_eqI w S (eqN (m &&& 61440) 8192 (by rw [hand]; decide))
      · exact fn_andI w S (bitAnd_nat m 61440)
      · exact fn_eqI w S (eqN (m &&& 61440) 4096 (by rw [hand]; decide))
  · rw [h0, e] at F
    rw [e] at hand
    refine FM0k12_n w a ks st pp p q (Int.ofNat m) t (dAnd m) G ?_ fun τ h' tk' N => F _ _ _ _ _ _ _ _ h' tk' N
    · refine okc ?_ (okc ?_ (okc ?_ (okc ?_ (okc ?_ ok0))))
      · exact fun ρ τ => swE_ok (swap_own rfl (by decide))
      · exact fn_andI w S (bitAnd_nat m 61440)
      · exact fn_eqI w S (eqN (m &&& 61440) 40960 (by rw [hand]; decide))
      · exact fn_andI w S (bitAnd_nat m 61440)
      · exact fn_eqI w S (eqN (m &&& 61440) 49152 (by rw [hand]; decide))
  · rw [h0, e] at F
    rw [e] at hand
    refine FM0k0_n w a ks st pp p q (Int.ofNat m) t (dAnd m) G ?_ fun τ h' tk' N => F _ _ _ _ _ _ _ _ h' tk' N
    · refine okc ?_ (okc ?_ (okc ?_ (okc ?_ (okc ?_ (okc ?_ (okc ?_ (okc ?_ (okc ?_ (okc ?_ (okc ?_ (okc ?_ (okc ?_ (okc ?_ (okc ?_ ok0))))))))))))))
      · exact fun ρ τ => swE_ok (swap_own rfl (by decide))
      · exact fn_andI w S (bitAnd_nat m 61440)
      · exact fn_eqI w S (eqN (m &&& 61440) 40960 (by rw [hand]; decide))
      · exact fn_andI w S (bitAnd_nat m 61440)
      · exact fn_eqI w S (eqN (m &&& 61440) 49152 (by rw [hand]; decide))
      · exact fn_andI w S (bitAnd_nat m 61440)
      · exact fn_eqI w S (eqN (m &&& 61440) 32768 (by rw [hand]; decide))
      · exact fn_andI w S (bitAnd_nat m 61440)
      · exact fn_eqI w S (eqN (m &&& 61440) 24576 (by rw [hand]; decide))
      · exact fn_andI w S (bitAnd_nat m 61440)
      · exact fn_eqI w S (eqN (m &&& 61440) 16384 (by rw [hand]; decide))
      · exact fn_andI w S (bitAnd_nat m 61440)
      · exact fn_eqI w S (eqN (m &&& 61440) 8192 (by rw [hand]; decide))
      · exact fn_andI w S (bitAnd_nat m 61440)
      · exact fn_eqI w S (eqN (m &&& 61440) 4096 (by rw [hand]; decide))
  · rw [h0, e] at F
    rw [e] at hand
    refine FM0k0_n w a ks st pp p q (Int.ofNat m) t (dAnd m) G ?_ fun τ h' tk' N => F _ _ _ _ _ _ _ _ h' tk' N
    · refine okc ?_ (okc ?_ (okc ?_ (okc ?_ (okc ?_ (okc ?_ (okc ?_ (okc ?_ (okc ?_ (okc ?_ (okc ?_ (okc ?_ (okc ?_ (okc ?_ (okc ?_ ok0))))))))))))))
      · exact fun ρ τ => swE_ok (swap_own rfl (by decide))
      · exact fn_andI w S (bitAnd_nat m 61440)
      · exact fn_eqI w S (eqN (m &&& 61440) 40960 (by rw [hand]; decide))
      · exact fn_andI w S (bitAnd_nat m 61440)
      · exact fn_eqI w S (eqN (m &&& 61440) 49152 (by rw [hand]; decide))
      · exact fn_andI w S (bitAnd_nat m 61440)
      · exact fn_eqI w S (eqN (m &&& 61440) 32768 (by rw [hand]; decide))
      · exact fn_andI w S (bitAnd_nat m 61440)
      · exact fn_eqI w S (eqN (m &&& 61440) 24576 (by rw [hand]; decide))
      · exact fn_andI w S (bitAnd_nat m 61440)
      · exact fn_eqI w S (eqN (m &&& 61440) 16384 (by rw [hand]; decide))
      · exact fn_andI w S (bitAnd_nat m 61440)
      · exact fn_eqI w S (eqN (m &&& 61440) 8192 (by rw [hand]; decide))
      · exact fn_andI w S (bitAnd_nat m 61440)
      · exact fn_eqI w S (eqN (m &&& 61440) 4096 (by rw [hand]; decide))
  · rw [h0, e] at F
    rw [e] at hand
    refine FM0k0_n w a ks st pp p q (Int.ofNat m) t (dAnd m) G ?_ fun τ h' tk' N => F _ _ _ _ _ _ _ _ h' tk' N
    · refine okc ?_ (okc ?_ (okc ?_ (okc ?_ (okc ?_ (okc ?_ (okc ?_ (okc ?_ (okc ?_ (okc ?_ (okc ?_ (okc ?_ (okc ?_ (okc ?_ (okc ?_ ok0))))))))))))))
      · exact fun ρ τ => swE_ok (swap_own rfl (by decide))
      · exact fn_andI w S (bitAnd_nat m 61440)
      · exact fn_eqI w S (eqN (m &&& 61440) 40960 (by rw [hand]; decide))
      · exact fn_andI w S (bitAnd_nat m 61440)
      · exact fn_eqI w S (eqN (m &&& 61440) 49152 (by rw [hand]; decide))
      · exact fn_andI w S (bitAnd_nat m 61440)
      · exact fn_eqI w S (eqN (m &&& 61440) 32768 (by rw [hand]; decide))
      · exact fn_andI w S (bitAnd_nat m 61440)
      · exact fn_eqI w S (eqN (m &&& 61440) 24576 (by rw [hand]; decide))
      · exact fn_andI w S (bitAnd_nat m 61440)
      · exact fn_eqI w S (eqN (m &&& 61440) 16384 (by rw [hand]; decide))
      · exact fn_andI w S (bitAnd_nat m 61440)
      · exact fn_eqI w S (eqN (m &&& 61440) 8192 (by rw [hand]; decide))
      · exact fn_andI w S (bitAnd_nat m 61440)
      · exact fn_eqI w S (eqN (m &&& 61440) 4096 (by rw [hand]; decide))
theorem fm_1 (w : World) (S : Shared) (a st ks : Nat → Nat) (pp : Nat → Pos) (p q : Pos) (m t : Nat) (v : Nat → Value) (vi vt vb vc last : Value) {R : Result → Shared → Prop} {h : Heap} {tk : Nat}
    (G : Given (WD w S) a (FMO w.params ks a (Int.ofNat m) t vi vt vb vc [v 0] 1 last (.ref 784)) h) (F : (∀ (ks vi_ vt_ vb_ vc_ last_ : _) (p : Pos) (tn : Nat) (h' : Heap) (tk : Nat), Nx (WD w S) 4 a (FMO w.params ks a (Int.ofNat m) t vi_ vt_ vb_ vc_ [v 0, .str ⟨⟨[rowOf m 1]⟩⟩ tn] 2 last_ (.ref 784)) h h' → wpCode (model pwR w) (Gfm a st pp q) R p ((WD w S).sh h' tk))) :
    wpCode (model pwR w) (Gfm a st pp q) R p ((WD w S).sh h tk) := by
  have hb := and_pow m 8
  have sg : rowOf m 1 = nthN [45, 114] (m / 64 / 4 % 2) := rfl
  rw [Nat.div_div_eq_div_mul, show 64 * 4 = 2 ^ 8 from rfl] at sg
  rcases Nat.mod_two_eq_zero_or_one (m / 2 ^ 8) with e | e <;> rw [e] at hb sg
  · rw [sg] at F
    refine FM1n_n w a ks st pp p q (Int.ofNat m) t (dAnd m) v vi vt vb vc last G ?_ fun τ h' tk' N => F _ _ _ _ _ _ _ _ h' tk' N
    · refine okc ?_ (okc ?_ (okc ?_ ok0))
      · exact fun ρ τ => swE_ok (swap_own rfl (by decide))
      · exact fn_andI w S (bitAnd_nat m 256)
      · exact fn_eqI w S (eqN (m &&& 256) 256 (by rw [show m &&& 256 = _ from hb]; rfl))
  · rw [sg] at F
    refine FM1b_n w a ks st pp p q (Int.ofNat m) t (dAnd m) v vi vt vb vc last G ?_ fun τ h' tk' N => F _ _ _ _ _ _ _ _ h' tk' N
    · refine okc ?_ (okc ?_ (okc ?_ ok0))
      · exact fun ρ τ => swE_ok (swap_own rfl (by decide))
      · exact fn_andI w S (bitAnd_nat m 256)
      · exact fn_eqI w S (eqN (m &&& 256) 256 (by rw [show m &&& 256 = _ from hb]; rfl))
theorem fm_2 (w : World) (S : Shared) (a st ks : Nat → Nat) (pp : Nat → Pos) (p q : Pos) (m t : Nat) (v : Nat → Value) (vi vt vb vc last : Value) {R : Result → Shared → Prop} {h : Heap} {tk : Nat}
    (G : Given (WD w S) a (FMO w.params ks a (Int.ofNat m) t vi vt vb vc [v 0, v 1] 2 last (.ref 784)) h) (F : (∀ (ks vi_ vt_ vb_ vc_ last_ : _) (p : Pos) (tn : Nat) (h' : Heap) (tk : Nat), Nx (WD w S) 4 a (FMO w.params ks a (Int.ofNat m) t vi_ vt_ vb_ vc_ [v 0, v 1, .str ⟨⟨[rowOf m 2]⟩⟩ tn] 3 last_ (.ref 784)) h h' → wpCode (model pwR w) (Gfm a st pp q) R p ((WD w S).sh h' tk))) :
    wpCode (model pwR w) (Gfm a st pp q) R p ((WD w S).sh h tk) := by
  have hb := and_pow m 7
  have sg : rowOf m 2 = nthN [45, 119] (m / 64 / 2 % 2) := rfl
  rw [Nat.div_div_eq_div_mul, show 64 * 2 = 2 ^ 7 from rfl] at sg
  rcases Nat.mod_two_eq_zero_or_one (m / 2 ^ 7) with e | e <;> rw [e] at hb sg
  · rw [sg] at F
    refine FM2n_n w a ks st pp p q (Int.ofNat m) t (dAnd m) v vi vt vb vc last G ?_ fun τ h' tk' N => F _ _ _ _ _ _ _ _ h' tk' N
    · refine okc ?_ (okc ?_ (okc ?_ ok0))
      · exact fun ρ τ => swE_ok (swap_own rfl (by decide))
      · exact fn_andI w S (bitAnd_nat m 128)
      · exact fn_eqI w S (eqN (m &&& 128) 128 (by rw [show m &&& 128 = _ from hb]; rfl))
  · rw [sg] at F
    refine FM2b_n w a ks st pp p q (Int.ofNat m) t (dAnd m) v vi vt vb vc last G ?_ fun τ h' tk' N => F _ _ _ _ _ _ _ _ h' tk' N
    · refine okc ?_ (okc ?_ (okc ?_ ok0))
      · exact fun ρ τ => swE_ok (swap_own rfl (by decide))
      · exact fn_andI w S (bitAnd_nat m 128)
      · exact fn_eqI w S (eqN (m &&& 128) 128 (by rw [show m &&& 128 = _ from hb]; rfl))
theorem fm_3 (w : World) (S : Shared) (a st ks : Nat → Nat) (pp : Nat → Pos) (p q : Pos) (m t : Nat) (v : Nat → Value) (vi vt vb vc last : Value) {R : Result → Shared → Prop} {h : Heap} {tk : Nat}
    (G : Given (WD w S) a (FMO w.params ks a (Int.ofNat m) t vi vt vb vc [v 0, v 1, v 2] 3 last (.ref 784)) h) (F : (∀ (ks vi_ vt_ vb_ vc_ last_ : _) (p : Pos) (tn : Nat) (h' : Heap) (tk : Nat), Nx (WD w S) 4 a (FMO w.params ks a (Int.ofNat m) t vi_ vt_ vb_ vc_ [v 0, v 1, v 2, .str ⟨⟨[rowOf m 3]⟩⟩ tn] 4 last_ (.ref 784)) h h' → wpCode (model pwR w) (Gfm a st pp q) R p ((WD w S).sh h' tk))) :
    wpCode (model pwR w) (Gfm a st pp q) R p ((WD w S).sh h tk) := by
  have hx := and_pow m 6
  have hs := and_pow m 11
  have h2 : m &&& 2112 = (m &&& 2 ^ 11) ||| (m &&& 2 ^ 6) := and_two (by decide)
  have sg : rowOf m 3 = nthN [45, 120, 83, 115] (m / 2 ^ 11 % 2 * 2 + m / 2 ^ 6 % 2) := rfl
  rcases Nat.mod_two_eq_zero_or_one (m / 2 ^ 6) with e | e <;> rcases Nat.mod_two_eq_zero_or_one (m / 2 ^ 11) with e' | e' <;> rw [e] at hx <;> rw [e'] at hs <;> rw [e, e'] at sg <;> rw [hx, hs] at h2
  · rw [sg] at F
    refine FM3n_n w a ks st pp p q (Int.ofNat m) t (dAnd m) v vi vt vb vc last G ?_ fun τ h' tk' N => F _ _ _ _ _ _ _ _ h' tk' N
    · refine okc ?_ (okc ?_ (okc ?_ (okc ?_ (okc ?_ (okc ?_ (okc ?_ ok0))))))
      · exact fun ρ τ => swE_ok (swap_own rfl (by decide))
      · exact fn_andI w S (bitAnd_nat m 2112)
      · exact fn_eqI w S (eqN (m &&& 2112) 2112 (by rw [show m &&& 2112 = _ from h2]; decide))
      · exact fn_andI w S (bitAnd_nat m 2048)
      · exact fn_eqI w S (eqN (m &&& 2048) 2048 (by rw [show m &&& 2048 = _ from hs]; decide))
      · exact fn_andI w S (bitAnd_nat m 64)
      · exact fn_eqI w S (eqN (m &&& 64) 64 (by rw [show m &&& 64 = _ from hx]; decide))
  · rw [sg] at F
    refine FM3s_n w a ks st pp p q (Int.ofNat m) t (dAnd m) v vi vt vb vc last G ?_ fun τ h' tk' N => F _ _ _ _ _ _ _ _ h' tk' N
    · refine okc ?_ (okc ?_ (okc ?_ (okc ?_ (okc ?_ ok0))))
      · exact fun ρ τ => swE_ok (swap_own rfl (by decide))
      · exact fn_andI w S (bitAnd_nat m 2112)
      · exact fn_eqI w S (eqN (m &&& 2112) 2112 (by rw [show m &&& 2112 = _ from h2]; decide))
      · exact fn_andI w S (bitAnd_nat m 2048)
      · exact fn_eqI w S (eqN (m &&& 2048) 2048 (by rw [show m &&& 2048 = _ from hs]; decide))
  · rw [sg] at F
    refine FM3x_n w a ks st pp p q (Int.ofNat m) t (dAnd m) v vi vt vb vc last G ?_ fun τ h' tk' N => F _ _ _ _ _ _ _ _ h' tk' N
    · refine okc ?_ (okc ?_ (okc ?_ (okc ?_ (okc ?_ (okc ?_ (okc ?_ ok0))))))
      · exact fun ρ τ => swE_ok (swap_own rfl (by decide))
      · exact fn_andI w S (bitAnd_nat m 2112)
      · exact fn_eqI w S (eqN (m &&& 2112) 2112 (by rw [show m &&& 2112 = _ from h2]; decide))
      · exact fn_andI w S (bitAnd_nat m 2048)
      · exact fn_eqI w S (eqN (m &&& 2048) 2048 (by rw [show m &&& 2048 = _ from hs]; decide))
      · exact fn_andI w S (bitAnd_nat m 64)
      · exact fn_eqI w S (eqN (m &&& 64) 64 (by rw [show m &&& 64 = _ from hx]; decide))
  · rw [sg] at F
    refine FM3b_n w a ks st pp p q (Int.ofNat m) t (dAnd m) v vi vt vb vc last G ?_ fun τ h' tk' N => F _ _ _ _ _ _ _ _ h' tk' N
    · refine okc ?_ (okc ?_ (okc ?_ ok0))
      · exact fun ρ τ => swE_ok (swap_own rfl (by decide))
      · exact fn_andI w S (bitAnd_nat m 2112)
      · exact fn_eqI w S (eqN (m &&& 2112) 2112 (by rw [show m &&& 2112 = _ from h2]; decide))
theorem fm_4 (w : World) (S : Shared) (a st ks : Nat → Nat) (pp : Nat → Pos) (p q : Pos) (m t : Nat) (v : Nat → Value) (vi vt vb vc last : Value) {R : Result → Shared → Prop} {h : Heap} {tk : Nat}
    (G : Given (WD w S) a (FMO w.params ks a (Int.ofNat m) t vi vt vb vc [v 0, v 1, v 2, v 3] 4 last (.ref 784)) h) (F : (∀ (ks vi_ vt_ vb_ vc_ last_ : _) (p : Pos) (tn : Nat) (h' : Heap) (tk : Nat), Nx (WD w S) 4 a (FMO w.params ks a (Int.ofNat m) t vi_ vt_ vb_ vc_ [v 0, v 1, v 2, v 3, .str ⟨⟨[rowOf m 4]⟩⟩ tn] 5 last_ (.ref 784)) h h' → wpCode (model pwR w) (Gfm a st pp q) R p ((WD w S).sh h' tk))) :
    wpCode (model pwR w) (Gfm a st pp q) R p ((WD w S).sh h tk) := by
  have hb := and_pow m 5
  have sg : rowOf m 4 = nthN [45, 114] (m / 8 / 4 % 2) := rfl
  rw [Nat.div_div_eq_div_mul, show 8 * 4 = 2 ^ 5 from rfl] at sg
  rcases Nat.mod_two_eq_zero_or_one (m / 2 ^ 5) with e | e <;> rw [e] at hb sg
  · rw [sg] at F
    refine FM4n_n w a ks st pp p q (Int.ofNat m) t (dAnd m) v vi vt vb vc last G ?_ fun τ h' tk' N => F _ _ _ _ _ _ _ _ h' tk' N
    · refine okc ?_ (okc ?_ (okc ?_ ok0))
      · exact fun ρ τ => swE_ok (swap_own rfl (by decide))
      · exact fn_andI w S (bitAnd_nat m 32)
      · exact fn_eqI w S (eqN (m &&& 32) 32 (by rw [show m &&& 32 = _ from hb]; rfl))
  · rw [sg] at F
    refine FM4b_n w a ks st pp p q (Int.ofNat m) t (dAnd m) v vi vt vb vc last G ?_ fun τ h' tk' N => F _ _ _ _ _ _ _ _ h' tk' N
    · refine okc ?_ (okc ?_ (okc ?_ ok0))
      · exact fun ρ τ => swE_ok (swap_own rfl (by decide))
      · exact fn_andI w S (bitAnd_nat m 32)
      · exact fn_eqI w S (eqN (m &&& 32) 32 (by rw [show m &&& 32 = _ from hb]; rfl))
theorem fm_5 (w : World) (S : Shared) (a st ks : Nat → Nat) (pp : Nat → Pos) (p q : Pos) (m t : Nat) (v : Nat → Value) (vi vt vb vc last : Value) {R : Result → Shared → Prop} {h : Heap} {tk : Nat}
    (G : Given (WD w S) a (FMO w.params ks a (Int.ofNat m) t vi vt vb vc [v 0, v 1, v 2, v 3, v 4] 5 last (.ref 784)) h) (F : (∀ (ks vi_ vt_ vb_ vc_ last_ : _) (p : Pos) (tn : Nat) (h' : Heap) (tk : Nat), Nx (WD w S) 4 a (FMO w.params ks a (Int.ofNat m) t vi_ vt_ vb_ vc_ [v 0, v 1, v 2, v 3, v 4, .str ⟨⟨[rowOf m 5]⟩⟩ tn] 6 last_ (.ref 784)) h h' → wpCode (model pwR w) (Gfm a st pp q) R p ((WD w S).sh h' tk))) :
    wpCode (model pwR w) (Gfm a st pp q) R p ((WD w S).sh h tk) := by
  have hb := and_pow m 4
  have sg : rowOf m 5 = nthN [45, 119] (m / 8 / 2 % 2) := rfl
  rw [Nat.div_div_eq_div_mul, show 8 * 2 = 2 ^ 4 from rfl] at sg
  rcases Nat.mod_two_eq_zero_or_one (m / 2 ^ 4) with e | e <;> rw [e] at hb sg
  · rw [sg] at F
    refine FM5n_n w a ks st pp p q (Int.ofNat m) t (dAnd m) v vi vt vb vc last G ?_ fun τ h' tk' N => F _ _ _ _ _ _ _ _ h' tk' N
    · refine okc ?_ (okc ?_ (okc ?_ ok0))
      · exact fun ρ τ => swE_ok (swap_own rfl (by decide))
      · exact fn_andI w S (bitAnd_nat m 16)
      · exact fn_eqI w S (eqN (m &&& 16) 16 (by rw [show m &&& 16 = _ from hb]; rfl))
  · rw [sg] at F
    refine FM5b_n w a ks st pp p q (Int.ofNat m) t (dAnd m) v vi vt vb vc last G ?_ fun τ h' tk' N => F _ _ _ _ _ _ _ _ h' tk' N
    · refine okc ?_ (okc ?_ (okc ?_ ok0))
      · exact fun ρ τ => swE_ok (swap_own rfl (by decide))
      · exact fn_andI w S (bitAnd_nat m 16)
      · exact fn_eqI w S (eqN (m &&& 16) 16 (by rw [show m &&& 16 = _ from hb]; rfl))
theorem fm_6 (w : World) (S : Shared) (a st ks : Nat → Nat) (pp : Nat → Pos) (p q : Pos) (m t : Nat) (v : Nat → Value) (vi vt vb vc last : Value) {R : Result → Shared → Prop} {h : Heap} {tk : Nat}
    (G : Given (WD w S) a (FMO w.params ks a (Int.ofNat m) t vi vt vb vc [v 0, v 1, v 2, v 3, v 4, v 5] 6 last (.ref 784)) h) (F : (∀ (ks vi_ vt_ vb_ vc_ last_ : _) (p : Pos) (tn : Nat) (h' : Heap) (tk : Nat), Nx (WD w S) 4 a (FMO w.params ks a (Int.ofNat m) t vi_ vt_ vb_ vc_ [v 0, v 1, v 2, v 3, v 4, v 5, .str ⟨⟨[rowOf m 6]⟩⟩ tn] 7 last_ (.ref 784)) h h' → wpCode (model pwR w) (Gfm a st pp q) R p ((WD w S).sh h' tk))) :
    wpCode (model pwR w) (Gfm a st pp q) R p ((WD w S).sh h tk) := by
  have hx := and_pow m 3
  have hs := and_pow m 10
  have h2 : m &&& 1032 = (m &&& 2 ^ 10) ||| (m &&& 2 ^ 3) := and_two (by decide)
  have sg : rowOf m 6 = nthN [45, 120, 83, 115] (m / 2 ^ 10 % 2 * 2 + m / 2 ^ 3 % 2) := rfl
  rcases Nat.mod_two_eq_zero_or_one (m / 2 ^ 3) with e | e <;> rcases Nat.mod_two_eq_zero_or_one (m / 2 ^ 10) with e' | e' <;> rw [e] at hx <;> rw [e'] at hs <;> rw [e, e'] at sg <;> rw [hx, hs] at h2
  · rw [sg] at F
    refine FM6n_n w a ks st pp p q (Int.ofNat m) t (dAnd m) v vi vt vb vc last G ?_ fun τ h' tk' N => F _ _ _ _ _ _ _ _ h' tk' N
    · refine okc ?_ (okc ?_ (okc ?_ (okc ?_ (okc ?_ (okc ?_ (okc ?_ ok0))))))
      · exact fun ρ τ => swE_ok (swap_own rfl (by decide))
      · exact fn_andI w S (bitAnd_nat m 1032)
      · exact fn_eqI w S (eqN (m &&& 1032) 1032 (by rw [show m &&& 1032 = _ from h2]; decide))
      · exact fn_andI w S (bitAnd_nat m 1024)
      · exact fn_eqI w S (eqN (m &&& 1024) 1024 (by rw [show m &&& 1024 = _ from hs]; decide))
      · exact fn_andI w S (bitAnd_nat m 8)
      · exact fn_eqI w S (eqN (m &&& 8) 8 (by rw [show m &&& 8 = _ from hx]; decide))
  · rw [sg] at F
    refine FM6s_n w a ks st pp p q (Int.ofNat m) t (dAnd m) v vi vt vb vc last G ?_ fun τ h' tk' N => F _ _ _ _ _ _ _ _ h' tk' N
    · refine okc ?_ (okc ?_ (okc ?_ (okc ?_ (okc ?_ ok0))))
      · exact fun ρ τ => swE_ok (swap_own rfl (by decide))
      · exact fn_andI w S (bitAnd_nat m 1032)
      · exact fn_eqI w S (eqN (m &&& 1032) 1032 (by rw [show m &&& 1032 = _ from h2]; decide))
      · exact fn_andI w S (bitAnd_nat m 1024)
      · exact fn_eqI w S (eqN (m &&& 1024) 1024 (by rw [show m &&& 1024 = _ from hs]; decide))
  · rw [sg] at F
    refine FM6x_n w a ks st pp p q (Int.ofNat m) t (dAnd m) v vi vt vb vc last G ?_ fun τ h' tk' N => F _ _ _ _ _ _ _ _ h' tk' N
    · refine okc ?_ (okc ?_ (okc ?_ (okc ?_ (okc ?_ (okc ?_ (okc ?_ ok0))))))
      · exact fun ρ τ => swE_ok (swap_own rfl (by decide))
      · exact fn_andI w S (bitAnd_nat m 1032)
      · exact fn_eqI w S (eqN (m &&& 1032) 1032 (by rw [show m &&& 1032 = _ from h2]; decide))
      · exact fn_andI w S (bitAnd_nat m 1024)
      · exact fn_eqI w S (eqN (m &&& 1024) 1024 (by rw [show m &&& 1024 = _ from hs]; decide))
      · exact fn_andI w S (bitAnd_nat m 8)
      · exact fn_eqI w S (eqN (m &&& 8) 8 (by rw [show m &&& 8 = _ from hx]; decide))
  · rw [sg] at F
    refine FM6b_n w a ks st pp p q (Int.ofNat m) t (dAnd m) v vi vt vb vc last G ?_ fun τ h' tk' N => F _ _ _ _ _ _ _ _ h' tk' N
    · refine okc ?_ (okc ?_ (okc ?_ ok0))
      · exact fun ρ τ => swE_ok (swap_own rfl (by decide))
      · exact fn_andI w S (bitAnd_nat m 1032)
      · exact fn_eqI w S (eqN (m &&& 1032) 1032 (by rw [show m &&& 1032 = _ from h2]; decide))
theorem fm_7 (w : World) (S : Shared) (a st ks : Nat → Nat) (pp : Nat → Pos) (p q : Pos) (m t : Nat) (v : Nat → Value) (vi vt vb vc last : Value) {R : Result → Shared → Prop} {h : Heap} {tk : Nat}
    (G : Given (WD w S) a (FMO w.params ks a (Int.ofNat m) t vi vt vb vc [v 0, v 1, v 2, v 3, v 4, v 5, v 6] 7 last (.ref 784)) h) (F : (∀ (ks vi_ vt_ vb_ vc_ last_ : _) (p : Pos) (tn : Nat) (h' : Heap) (tk : Nat), Nx (WD w S) 4 a (FMO w.params ks a (Int.ofNat m) t vi_ vt_ vb_ vc_ [v 0, v 1, v 2, v 3, v 4, v 5, v 6, .str ⟨⟨[rowOf m 7]⟩⟩ tn] 8 last_ (.ref 784)) h h' → wpCode (model pwR w) (Gfm a st pp q) R p ((WD w S).sh h' tk))) :
    wpCode (model pwR w) (Gfm a st pp q) R p ((WD w S).sh h tk) := by
  have hb := and_pow m 2
  have sg : rowOf m 7 = nthN [45, 114] (m / 1 / 4 % 2) := rfl
  rw [Nat.div_div_eq_div_mul, show 1 * 4 = 2 ^ 2 from rfl] at sg
  rcases Nat.mod_two_eq_zero_or_one (m / 2 ^ 2) with e | e <;> rw [e] at hb sg
  · rw [sg] at F
    refine FM7n_n w a ks st pp p q (Int.ofNat m) t (dAnd m) v vi vt vb vc last G ?_ fun τ h' tk' N => F _ _ _ _ _ _ _ _ h' tk' N
    · refine okc ?_ (okc ?_ (okc ?_ ok0))
      · exact fun ρ τ => swE_ok (swap_own rfl (by decide))
      · exact fn_andI w S (bitAnd_nat m 4)
      · exact fn_eqI w S (eqN (m &&& 4) 4 (by rw [show m &&& 4 = _ from hb]; rfl))
  · rw [sg] at F
    refine FM7b_n w a ks st pp p q (Int.ofNat m) t (dAnd m) v vi vt vb vc last G ?_ fun τ h' tk' N => F _ _ _ _ _ _ _ _ h' tk' N
    · refine okc ?_ (okc ?_ (okc ?_ ok0))
      · exact fun ρ τ => swE_ok (swap_own rfl (by decide))
      · exact fn_andI w S (bitAnd_nat m 4)
      · exact fn_eqI w S (eqN (m &&& 4) 4 (by rw [show m &&& 4 = _ from hb]; rfl))
theorem fm_8 (w : World) (S : Shared) (a st ks : Nat → Nat) (pp : Nat → Pos) (p q : Pos) (m t : Nat) (v : Nat → Value) (vi vt vb vc last : Value) {R : Result → Shared → Prop} {h : Heap} {tk : Nat}
    (G : Given (WD w S) a (FMO w.params ks a (Int.ofNat m) t vi vt vb vc [v 0, v 1, v 2, v 3, v 4, v 5, v 6, v 7] 8 last (.ref 784)) h) (F : (∀ (ks vi_ vt_ vb_ vc_ last_ : _) (p : Pos) (tn : Nat) (h' : Heap) (tk : Nat), Nx (WD w S) 4 a (FMO w.params ks a (Int.ofNat m) t vi_ vt_ vb_ vc_ [v 0, v 1, v 2, v 3, v 4, v 5, v 6, v 7, .str ⟨⟨[rowOf m 8]⟩⟩ tn] 9 last_ (.ref 784)) h h' → wpCode (model pwR w) (Gfm a st pp q) R p ((WD w S).sh h' tk))) :
    wpCode (model pwR w) (Gfm a st pp q) R p ((WD w S).sh h tk) := by
  have hb := and_pow m 1
  have sg : rowOf m 8 = nthN [45, 119] (m / 1 / 2 % 2) := rfl
  rw [Nat.div_div_eq_div_mul, show 1 * 2 = 2 ^ 1 from rfl] at sg
  rcases Nat.mod_two_eq_zero_or_one (m / 2 ^ 1) with e | e <;> rw [e] at hb sg
  · rw [sg] at F
    refine FM8n_n w a ks st pp p q (Int.ofNat m) t (dAnd m) v vi vt vb vc last G ?_ fun τ h' tk' N => F _ _ _ _ _ _ _ _ h' tk' N
    · refine okc ?_ (okc ?_ (okc ?_ ok0))
      · exact fun ρ τ => swE_ok (swap_own rfl (by decide))
      · exact fn_andI w S (bitAnd_nat m 2)
      · exact fn_eqI w S (eqN (m &&& 2) 2 (by rw [show m &&& 2 = _ from hb]; rfl))
  · rw [sg] at F
    refine FM8b_n w a ks st pp p q (Int.ofNat m) t (dAnd m) v vi vt vb vc last G ?_ fun τ h' tk' N => F _ _ _ _ _ _ _ _ h' tk' N
    · refine okc ?_ (okc ?_ (okc ?_ ok0))
      · exact fun ρ τ => swE_ok (swap_own rfl (by decide))
      · exact fn_andI w S (bitAnd_nat m 2)
      · exact fn_eqI w S (eqN (m &&& 2) 2 (by rw [show m &&& 2 = _ from hb]; rfl))
theorem fm_9 (m : Nat) : ∃ vb_ vc_ : Value, ∀ (w : World) (S : Shared) (a st ks : Nat → Nat) (pp : Nat → Pos) (p q : Pos) (t : Nat) (v : Nat → Value) (vi vt vb vc last : Value) (R : Result → Shared → Prop) (h : Heap) (tk : Nat)
    (G : Given (WD w S) a (FMO w.params ks a (Int.ofNat m) t vi vt vb vc [v 0, v 1, v 2, v 3, v 4, v 5, v 6, v 7, v 8] 9 last (.ref 784)) h) (F : (∀ (ks : Nat → Nat) (ti : Nat) (p : Pos) (tn : Nat) (h' : Heap) (tk : Nat), Nx (WD w S) 4 a (FMO w.params ks a (Int.ofNat m) t (.int 9 ti) (.ref 783) vb_ vc_ [v 0, v 1, v 2, v 3, v 4, v 5, v 6, v 7, v 8, .str ⟨⟨[rowOf m 9]⟩⟩ tn] 10 (.ref 783) (.ref 784)) h h' → wpCode (model pwR w) (Gfm a st pp q) R p ((WD w S).sh h' tk))),
    wpCode (model pwR w) (Gfm a st pp q) R p ((WD w S).sh h tk) := by
  have hx := and_pow m 0
  have hs := and_pow m 9
  have h2 : m &&& 513 = (m &&& 2 ^ 9) ||| (m &&& 2 ^ 0) := and_two (by decide)
  have sg : rowOf m 9 = nthN [45, 120, 84, 116] (m / 2 ^ 9 % 2 * 2 + m / 2 ^ 0 % 2) := rfl
  rcases Nat.mod_two_eq_zero_or_one (m / 2 ^ 0) with e | e <;> rcases Nat.mod_two_eq_zero_or_one (m / 2 ^ 9) with e' | e' <;> rw [e] at hx <;> rw [e'] at hs <;> rw [e, e'] at sg <;> rw [hx, hs] at h2
  · rw [sg]
    refine ⟨.int 1 1278, .str (s [120]) 1304, fun w S a st ks pp p q t v vi vt vb vc last R h tk G F => ?_⟩
    refine FM9n_n w a ks st pp p q (Int.ofNat m) t (dAnd m) v vi vt vb vc last G ?_ fun τ h' tk' N => F _ _ _ _ h' tk' N
    · refine okc ?_ (okc ?_ (okc ?_ (okc ?_ (okc ?_ (okc ?_ (okc ?_ ok0))))))
      · exact fun ρ τ => swE_ok (swap_own rfl (by decide))
      · exact fn_andI w S (bitAnd_nat m 513)
      · exact fn_eqI w S (eqN (m &&& 513) 513 (by rw [show m &&& 513 = _ from h2]; decide))
      · exact fn_andI w S (bitAnd_nat m 512)
      · exact fn_eqI w S (eqN (m &&& 512) 512 (by rw [show m &&& 512 = _ from hs]; decide))
      · exact fn_andI w S (bitAnd_nat m 1)
      · exact fn_eqI w S (eqN (m &&& 1) 1 (by rw [show m &&& 1 = _ from hx]; decide))
  · rw [sg]
    refine ⟨.int 512 1260, .str (s [84]) 1303, fun w S a st ks pp p q t v vi vt vb vc last R h tk G F => ?_⟩
    refine FM9s_n w a ks st pp p q (Int.ofNat m) t (dAnd m) v vi vt vb vc last G ?_ fun τ h' tk' N => F _ _ _ _ h' tk' N
    · refine okc ?_ (okc ?_ (okc ?_ (okc ?_ (okc ?_ ok0))))
      · exact fun ρ τ => swE_ok (swap_own rfl (by decide))
      · exact fn_andI w S (bitAnd_nat m 513)
      · exact fn_eqI w S (eqN (m &&& 513) 513 (by rw [show m &&& 513 = _ from h2]; decide))
      · exact fn_andI w S (bitAnd_nat m 512)
      · exact fn_eqI w S (eqN (m &&& 512) 512 (by rw [show m &&& 512 = _ from hs]; decide))
  · rw [sg]
    refine ⟨.int 1 1278, .str (s [120]) 1304, fun w S a st ks pp p q t v vi vt vb vc last R h tk G F => ?_⟩
    refine FM9x_n w a ks st pp p q (Int.ofNat m) t (dAnd m) v vi vt vb vc last G ?_ fun τ h' tk' N => F _ _ _ _ h' tk' N
    · refine okc ?_ (okc ?_ (okc ?_ (okc ?_ (okc ?_ (okc ?_ (okc ?_ ok0))))))
      · exact fun ρ τ => swE_ok (swap_own rfl (by decide))
      · exact fn_andI w S (bitAnd_nat m 513)
      · exact fn_eqI w S (eqN (m &&& 513) 513 (by rw [show m &&& 513 = _ from h2]; decide))
      · exact fn_andI w S (bitAnd_nat m 512)
      · exact fn_eqI w S (eqN (m &&& 512) 512 (by rw [show m &&& 512 = _ from hs]; decide))
      · exact fn_andI w S (bitAnd_nat m 1)
      · exact fn_eqI w S (eqN (m &&& 1) 1 (by rw [show m &&& 1 = _ from hx]; decide))
  · rw [sg]
    refine ⟨.int 513 1301, .str (s [116]) 1302, fun w S a st ks pp p q t v vi vt vb vc last R h tk G F => ?_⟩
    refine FM9b_n w a ks st pp p q (Int.ofNat m) t (dAnd m) v vi vt vb vc last G ?_ fun τ h' tk' N => F _ _ _ _ h' tk' N
    · refine okc ?_ (okc ?_ (okc ?_ ok0))
      · exact fun ρ τ => swE_ok (swap_own rfl (by decide))
      · exact fn_andI w S (bitAnd_nat m 513)
      · exact fn_eqI w S (eqN (m &&& 513) 513 (by rw [show m &&& 513 = _ from h2]; decide))
end Mine
end
section -- Fm3
open PySem PySem.W PyProof.Rows PySem.Calls
set_option Elab.async false
set_option linter.unusedVariables false
set_option maxRecDepth 100000
set_option maxHeartbeats 0
namespace Mine
noncomputable def nthV : List Value → Nat → Value
  | [], _ => .none
  | x :: l, n => match n with
    | 0 => x
    | n + 1 => nthV l n
noncomputable def fmUse (P : Params) (M : Int) (t : Nat) (r ks a st : Nat → Nat) (pp : Nat → Pos) (q : Pos) (keys : List Nat) (vb vc : Value) : Use :=
  mkUse (cFMf (a 2) (a 0)) (some ((cFM (a 0), q) :: blLaw st pp)) keys [FRM (EN P ks [([109, 111, 100, 101], .int M t), ([112, 101, 114, 109], .ref (a 1))] 2) ⟨[]⟩, LST [] 0, ENUM (a 3) 0 .none, TIT (.ref 784) 0] 17
    (fun θ => FMO P (nthN [θ 0, θ 1, θ 2, θ 3, θ 4, θ 5]) a M t (.int 9 (θ 6)) (.ref 783) vb vc [.str ⟨⟨[r 0]⟩⟩ (θ 7), .str ⟨⟨[r 1]⟩⟩ (θ 8), .str ⟨⟨[r 2]⟩⟩ (θ 9), .str ⟨⟨[r 3]⟩⟩ (θ 10), .str ⟨⟨[r 4]⟩⟩ (θ 11), .str ⟨⟨[r 5]⟩⟩ (θ 12), .str ⟨⟨[r 6]⟩⟩ (θ 13), .str ⟨⟨[r 7]⟩⟩ (θ 14), .str ⟨⟨[r 8]⟩⟩ (θ 15), .str ⟨⟨[r 9]⟩⟩ (θ 16)] 10 (.ref 783) .none) (fun _ => .ok .next)
theorem fm_loop (m : Nat) (hm : m < 65536) : ∃ vb vc : Value, ∀ (w : World) (S : Shared) (ρ ks st : Nat → Nat) (pp : Nat → Pos) (q : Pos) (t : Nat) (keys : List Nat), keys.length = 4 → keys.Nodup →
    SpecI (WD w S) ρ (fmUse w.params (Int.ofNat m) t (rowOf m) ks (fun i => ρ (nthN keys i)) st pp q keys vb vc) := by
  obtain ⟨vb, vc, F9⟩ := fm_9 m
  refine ⟨vb, vc, fun w S ρ ks st pp q t keys hl nd => ?_⟩
  refine spec_mk nd hl (fun _ => rfl) fun Γ p h tk R hc hbl G fin => ?_
  rw [hbl _ rfl]
  refine fm_0 w S (fun i => ρ (nthN keys i)) st ks pp p q m t hm G fun k0 vi0 vt0 vb0 vc0 l0 p0 t0 h0 tk0 N0 => ?_
  refine fm_1 w S (fun i => ρ (nthN keys i)) st k0 pp p0 q m t (nthV [Value.str ⟨⟨[rowOf m 0]⟩⟩ t0]) vi0 vt0 vb0 vc0 l0 N0.given fun k1 vi1 vt1 vb1 vc1 l1 p1 t1 h1 tk1 M1 => ?_
  have N1 := N0.trans M1
  refine fm_2 w S (fun i => ρ (nthN keys i)) st k1 pp p1 q m t (nthV [Value.str ⟨⟨[rowOf m 0]⟩⟩ t0, Value.str ⟨⟨[rowOf m 1]⟩⟩ t1]) vi1 vt1 vb1 vc1 l1 N1.given fun k2 vi2 vt2 vb2 vc2 l2 p2 t2 h2 tk2 M2 => ?_
  have N2 := N1.trans M2
  refine fm_3 w S (fun i => ρ (nthN keys i)) st k2 pp p2 q m t (nthV [Value.str ⟨⟨[rowOf m 0]⟩⟩ t0, Value.str ⟨⟨[rowOf m 1]⟩⟩ t1, Value.str ⟨⟨[rowOf m 2]⟩⟩ t2]) vi2 vt2 vb2 vc2 l2 N2.given fun k3 vi3 vt3 vb3 vc3 l3 p3 t3 h3 tk3 M3 => ?_
  have N3 := N2.trans M3
  refine fm_4 w S (fun i => ρ (nthN keys i)) st k3 pp p3 q m t (nthV [Value.str ⟨⟨[rowOf m 0]⟩⟩ t0, Value.str ⟨⟨[rowOf m 1]⟩⟩ t1, Value.str ⟨⟨[rowOf m 2]⟩⟩ t2, Value.str ⟨⟨[rowOf m 3]⟩⟩ t3]) vi3 vt3 vb3 vc3 l3 N3.given fun k4 vi4 vt4 vb4 vc4 l4 p4 t4 h4 tk4 M4 => ?_
  have N4 := N3.trans M4
  refine fm_5 w S (fun i => ρ (nthN keys i)) st k4 pp p4 q m t (nthV [Value.str ⟨⟨[rowOf m 0]⟩⟩ t0, Value.str ⟨⟨[rowOf m 1]⟩⟩ t1, Value.str ⟨⟨[rowOf m 2]⟩⟩ t2, Value.str ⟨⟨[rowOf m 3]⟩⟩ t3, Value.str ⟨⟨[rowOf m 4]⟩⟩ t4]) vi4 vt4 vb4 vc4 l4 N4.given fun k5 vi5 vt5 vb5 vc5 l5 p5 t5 h5 tk5 M5 => ?_
  have N5 := N4.trans M5
  refine fm_6 w S (fun i => ρ (nthN keys i)) st k5 pp p5 q m t (nthV [Value.str ⟨⟨[rowOf m 0]⟩⟩ t0, Value.str ⟨⟨[rowOf m 1]⟩⟩ t1, Value.str ⟨⟨[rowOf m 2]⟩⟩ t2, Value.str ⟨⟨[rowOf m 3]⟩⟩ t3, Value.str ⟨⟨[rowOf m 4]⟩⟩ t4, Value.str ⟨⟨[rowOf m 5]⟩⟩ t5]) vi5 vt5 vb5 vc5 l5 N5.given fun k6 vi6 vt6 vb6 vc6 l6 p6 t6 h6 tk6 M6 => ?_
  have N6 := N5.trans M6
  refine fm_7 w S (fun i => ρ (nthN keys i)) st k6 pp p6 q m t (nthV [Value.str ⟨⟨[rowOf m 0]⟩⟩ t0, Value.str ⟨⟨[rowOf m 1]⟩⟩ t1, Value.str ⟨⟨[rowOf m 2]⟩⟩ t2, Value.str ⟨⟨[rowOf m 3]⟩⟩ t3, Value.str ⟨⟨[rowOf m 4]⟩⟩ t4, Value.str ⟨⟨[rowOf m 5]⟩⟩ t5, Value.str ⟨⟨[rowOf m 6]⟩⟩ t6]) vi6 vt6 vb6 vc6 l6 N6.given fun k7 vi7 vt7 vb7 vc7 l7 p7 t7 h7 tk7 M7 => ?_
  have N7 := N6.trans M7
  refine fm_8 w S (fun i => ρ (nthN keys i)) st k7 pp p7 q m t (nthV [Value.str ⟨⟨[rowOf m 0]⟩⟩ t0, Value.str ⟨⟨[rowOf m 1]⟩⟩ t1, Value.str ⟨⟨[rowOf m 2]⟩⟩ t2, Value.str ⟨⟨[rowOf m 3]⟩⟩ t3, Value.str ⟨⟨[rowOf m 4]⟩⟩ t4, Value.str ⟨⟨[rowOf m 5]⟩⟩ t5, Value.str ⟨⟨[rowOf m 6]⟩⟩ t6, Value.str ⟨⟨[rowOf m 7]⟩⟩ t7]) vi7 vt7 vb7 vc7 l7 N7.given fun k8 vi8 vt8 vb8 vc8 l8 p8 t8 h8 tk8 M8 => ?_
  have N8 := N7.trans M8
  refine F9 w S (fun i => ρ (nthN keys i)) st k8 pp p8 q t (nthV [Value.str ⟨⟨[rowOf m 0]⟩⟩ t0, Value.str ⟨⟨[rowOf m 1]⟩⟩ t1, Value.str ⟨⟨[rowOf m 2]⟩⟩ t2, Value.str ⟨⟨[rowOf m 3]⟩⟩ t3, Value.str ⟨⟨[rowOf m 4]⟩⟩ t4, Value.str ⟨⟨[rowOf m 5]⟩⟩ t5, Value.str ⟨⟨[rowOf m 6]⟩⟩ t6, Value.str ⟨⟨[rowOf m 7]⟩⟩ t7, Value.str ⟨⟨[rowOf m 8]⟩⟩ t8]) vi8 vt8 vb8 vc8 l8 R h8 tk8 N8.given fun k9 ti p9 t9 h9 tk9 M9 => ?_
  have N9 := N8.trans M9
  refine FMe_n w (fun i => ρ (nthN keys i)) st k9 pp p9 q (Int.ofNat m) t (nthV [Value.str ⟨⟨[rowOf m 0]⟩⟩ t0, Value.str ⟨⟨[rowOf m 1]⟩⟩ t1, Value.str ⟨⟨[rowOf m 2]⟩⟩ t2, Value.str ⟨⟨[rowOf m 3]⟩⟩ t3, Value.str ⟨⟨[rowOf m 4]⟩⟩ t4, Value.str ⟨⟨[rowOf m 5]⟩⟩ t5, Value.str ⟨⟨[rowOf m 6]⟩⟩ t6, Value.str ⟨⟨[rowOf m 7]⟩⟩ t7, Value.str ⟨⟨[rowOf m 8]⟩⟩ t8, Value.str ⟨⟨[rowOf m 9]⟩⟩ t9]) (.int 9 ti) (.ref 783) vb vc (.ref 783) N9.given (fun _ z => nomatch z) fun τ h10 tk10 M10 => ?_
  have N10 := N9.trans M10
  exact fin (nthN [k9 0, k9 1, k9 2, k9 3, k9 4, k9 5, ti, t0, t1, t2, t3, t4, t5, t6, t7, t8, t9]) h10 tk10 (fun j hj => nthN_ge _ j hj) N10
noncomputable def cFMc (M : Int) (t : Nat) : Code := .call (.ref 791) ⟨[.int M t], []⟩
noncomputable def FMc (w : World) (a st : Nat → Nat) (pp : Nat → Pos) (p : Pos) (M : Int) (t : Nat) (r : Nat → Nat) (vb vc : Value) : Fr :=
  frC (blLaw st pp) (cFMc M t) p 0 []
    [.use 4 2 fun ρ τ => fmUse w.params M t r (nthN [τ 0, τ 1]) (fun i => ρ (nthN [0, 1, 3, 2] i)) st pp ⟨759, 24, 759, 50⟩ [0, 1, 3, 2] vb vc]
    [] (79) (9182953449341142454879396111173848272941032567463129394914908445436801043378795973475421249546776106500096) (fun _ τ => .inl (.done (.ret (.str ⟨⟨ten r⟩⟩ (τ 20))), ⟨773, 11, 773, 24⟩)) (fun _ _ => []) (fun _ _ => [])
theorem FMc_n (w : World) (a st : Nat → Nat) (pp : Nat → Pos) (p : Pos) (M : Int) (t : Nat) (r : Nat → Nat) (vb vc : Value) : (FMc w a st pp p M t r vb vc).SpecN w a := Fr.specN fun ρ τ => by kernel_rfl

noncomputable def fmcUse (m t : Nat) (st : Nat → Nat) (pp : Nat → Pos) : Use := pureUse (cFMc (Int.ofNat m) t) (some (blLaw st pp)) [] 1 fun θ => .ok (.ret (.str ⟨⟨ten (rowOf m)⟩⟩ (θ 0)))
theorem fmc_spec (w : World) (S : Shared) {ρ st : Nat → Nat} {pp : Nat → Pos} {m t : Nat} (hm : m < 65536) : SpecI (WD w S) ρ (fmcUse m t st pp) := by
  refine spec_pure fun Γ p h tk R hc' hbl top big pre fin => ?_
  rw [hbl _ rfl]
  obtain ⟨vb, vc, F⟩ := fm_loop m hm
  refine FMc_n w (fun _ => 0) st pp p (Int.ofNat m) t (rowOf m) vb vc (given0 top big) ?_ fun τ h' tk' N => fin (nthN [τ 20]) h' tk' (fun j hj => nthN_ge _ j hj) N.size N.all
  refine okc ?_ ok0
  exact ok_mk (fun _ _ => rfl) fun ρ τ => F w S ρ _ st pp _ t [0, 1, 3, 2] rfl (by decide)
end Mine
end
section -- Wr
open PySem PySem.W PyProof.Rows PySem.Calls
set_option Elab.async false
set_option linter.unusedVariables false
set_option linter.unusedSimpArgs false
set_option maxRecDepth 100000
set_option maxHeartbeats 0
namespace Mine
/-- every c is z -/
noncomputable def flatR (c : Nat) (z : List Nat) (l : List Nat) : List Nat := l.flatMap fun a => if a = c then z else [a]
theorem flatR_app (c : Nat) (z a b : List Nat) : flatR c z (a ++ b) = flatR c z a ++ flatR c z b := List.flatMap_append ..
theorem flatR_free (c : Nat) (z : List Nat) : ∀ l : List Nat, c ∉ l → flatR c z l = l
  | [], _ => rfl
  | k :: r, h => by
    have h1 : ¬ k = c := fun e => h (e ▸ List.mem_cons_self ..)
    have ih := flatR_free c z r fun m => h (List.mem_cons_of_mem _ m)
    unfold flatR at ih ⊢
    rw [List.flatMap_cons, ih, if_neg h1]
    rfl
theorem flatR_join (c : Nat) (z : Str) : ∀ parts : List Str, (∀ p ∈ parts, c ∉ p.cps.toList) → flatR c z.cps.toList (Str.join ⟨#[c]⟩ parts).cps.toList = (Str.join z parts).cps.toList
  | [], _ => rfl
  | [p], h => flatR_free c _ _ (h p (List.mem_singleton.mpr rfl))
  | p :: q :: r, h => by
    have ih := flatR_join c z (q :: r) fun a ha => h a (List.mem_cons_of_mem _ ha)
    show flatR c z.cps.toList (p ++ ⟨#[c]⟩ ++ Str.join ⟨#[c]⟩ (q :: r)).cps.toList = (p ++ z ++ Str.join z (q :: r)).cps.toList
    simp only [Str.cps_append, Array.toList_append]
    rw [flatR_app, flatR_app, ih, flatR_free c _ _ (h p (List.mem_cons_self ..))]
    show p.cps.toList ++ flatR c z.cps.toList [c] ++ _ = _
    simp [flatR]
theorem repl_flat (x z : Str) (c : Nat) : (Txt.replace x ⟨#[c]⟩ z).cps.toList = flatR c z.cps.toList x.cps.toList := by
  rw [StrLaws.replace_one, ← flatR_join c z _ (StrLaws.split_free x c), StrLaws.join_split]
noncomputable def replUse (X : List Nat) (t c u : Nat) (z : List Nat) (v : Nat) (Y : List Nat) : Use :=
  { pureUse (.call (.builtin "str.replace") ⟨[.str ⟨⟨X⟩⟩ t, .str ⟨⟨[c]⟩⟩ u, .str ⟨⟨z⟩⟩ v], []⟩) none [] 1 (fun θ => .ok (.ret (.str ⟨⟨Y⟩⟩ (θ 0)))) with fr := 2 }
theorem repl_spec (w : World) (S : Shared) {ρ : Nat → Nat} {X z Y : List Nat} {t c u v : Nat} (hu : 0 < u) (hv : 0 < v) (huv : u ≠ v) (hz : z ≠ [c]) (hX : X.length ≤ 100) (hzl : z.length ≤ 2) (hYl : Y.length ≤ 100) (hY : flatR c z X = Y) :
    SpecI (WD w S) ρ (replUse X t c u z v Y) := by
  show SpecI (WD w S) ρ { pureUse (.call (.builtin "str.replace") ⟨[.str ⟨⟨X⟩⟩ t, .str ⟨⟨[c]⟩⟩ u, .str ⟨⟨z⟩⟩ v], []⟩) none [] 1 (fun θ => .ok (.ret (.str ⟨⟨Y⟩⟩ (θ 0)))) with fr := 2 }
  have K : SpecI (WD w S) ρ (pureUse (.call (.builtin "str.replace") ⟨[.str ⟨⟨X⟩⟩ t, .str ⟨⟨[c]⟩⟩ u, .str ⟨⟨z⟩⟩ v], []⟩) none [] 1 (fun θ => .ok (.ret (.str ⟨⟨Y⟩⟩ (θ 0))))) := by
    refine spec_pure fun Γ p h tk R hc' _ top big pre fin => ?_
    refine code_at (fun A => ?_) hc' p
    have F1 : ∀ z tk', R (.ok (.ret (.str ⟨⟨Y⟩⟩ z))) ((WD w S).sh h tk') := fun z tk' => fin (nthN [z]) h tk' (fun j hj => nthN_ge _ j hj) (Nat.le_refl _) fun _ _ e => e
    have hr := repl_flat ⟨⟨X⟩⟩ ⟨⟨z⟩⟩ c
    have hr' : (Txt.replace ⟨⟨X⟩⟩ ⟨#[c]⟩ ⟨⟨z⟩⟩).cps.toList = Y := hr.trans hY
    have hl := StrLaws.occ_length_le ⟨⟨X⟩⟩ ⟨#[c]⟩ 0 (Str.length ⟨⟨X⟩⟩) (Str.length ⟨⟨X⟩⟩ + 1)
    refine codeAny_call_builtin F.slot_str_replace.plain F.entry_str_replace (F.slot_str_replace.check _ _ _ _ _ _ _ _ (typeIs_str _ _ t) (F.args_str_replace_3 _ _ _) (gives_str_replace ⟨⟨X⟩⟩ ⟨#[c]⟩ ⟨⟨z⟩⟩ t u v (fun _ => ⟨by rw [beq_eq_false_iff_ne.mpr (Nat.ne_of_gt hu), beq_eq_false_iff_ne.mpr (Nat.ne_of_gt hv)]; rfl, beq_eq_false_iff_ne.mpr huv, ?_, ?_⟩) pwR w A R _ ?_))
    · rw [beq_eq_false_iff_ne]
      intro e
      have e2 := congrArg (fun x : Str => x.cps.toList) e
      exact hz e2.symm
    · have h2 : Str.length ⟨⟨X⟩⟩ = X.length := rfl
      have h3 : Str.length ⟨⟨z⟩⟩ = z.length := rfl
      have h4 : (Builtin.Str.occurrences ⟨⟨X⟩⟩ ⟨#[c]⟩ 0 (Str.length ⟨⟨X⟩⟩) (Str.length ⟨⟨X⟩⟩ + 1)).length * z.length ≤ 101 * 2 := Nat.mul_le_mul (by omega) hzl
      show decide (_ > 16777216) = false
      rw [h3]
      exact decide_eq_false (by omega)
    · unfold Txt.replace at hr'
      split
      · rename_i hc
        rw [if_pos hc] at hr'
        have : X = Y := hr'
        subst this
        exact F1 _ _
      · rename_i hc
        rw [if_neg hc] at hr'
        refine ⟨?_, ?_⟩
        · show Array.size _ ≤ _
          rw [← Array.length_toList, hr']
          exact Nat.le_trans hYl (by decide)
        · have e : (Builtin.Str.glued ⟨⟨z⟩⟩ (Builtin.Str.partsBetween ⟨⟨X⟩⟩ (Builtin.Str.occurrences ⟨⟨X⟩⟩ ⟨#[c]⟩ 0 (Str.length ⟨⟨X⟩⟩) (Str.length ⟨⟨X⟩⟩ + 1)) (Str.length ⟨#[c]⟩))) = ⟨⟨Y⟩⟩ := by
            rw [← hr']
          show R (.ok (.ret (.str _ _))) _
          rw [e]
          exact F1 _ (tk + 1)
  intro p h tk R top big pre inj fin Γ hc hbl
  exact K p h tk R top big pre inj (fun ν θ h' tk' hν hθ U => fin ν θ h' tk' hν hθ ⟨U.size, U.post, U.keep, U.new, U.inj⟩) Γ hc hbl
theorem ok_repl (w : World) (S : Shared) {m i : Nat} {X z Y : List Nat} {t : (Nat → Nat) → Nat} {c : Nat} (hi : 2 ≤ i) (hz : z ≠ [c]) (hX : X.length ≤ 100) (hzl : z.length ≤ 2) (hYl : Y.length ≤ 100) (hY : flatR c z X = Y) :
    CutF.Ok (WD w S) (.use m i fun ρ τ => replUse X (t τ) c (τ (i - 2)) z (τ (i - 1)) Y) := by
  refine ⟨fun ρ τ hT => ?_, fun ρ τ ν θ q hq => nomatch hq⟩
  obtain ⟨h1, h2⟩ := hT
  exact repl_spec w S (h1 _ (Nat.le_refl _) (by omega)) (h1 _ (by show i - 2 ≤ _; omega) (by omega)) (h2 _ _ (Nat.le_refl _) (by omega) (by omega)) hz hX hzl hYl hY
/-- signs of a row: no backslash, no mark -/
structure Plain (r : Nat → Nat) : Prop where
  bs : ∀ i, i < 10 → r i ≠ 92
  dq : ∀ i, i < 10 → r i ≠ 34
noncomputable def cFP1 (X : List Nat) (tm t : Nat) : Code := .call (.ref 57) ⟨[.str (s [109]) tm, .str ⟨⟨X⟩⟩ t], []⟩
noncomputable def cFP0 (X : List Nat) (tm t tq : Nat) : Code := .call (.ref 57) ⟨[.str (s [109]) tm, .str ⟨⟨X⟩⟩ t, .int 0 tq], []⟩
noncomputable def cWR (X : List Nat) (t : Nat) (n : Int) (tn : Nat) : Code := .call (.ref 815) ⟨[.str ⟨⟨X⟩⟩ t, .int n tn], []⟩
noncomputable def wFT (w : World) : World := w.withFollow "fstring-hands-on-the-str" true
noncomputable def wFF (w : World) : World := w.withFollow "fstring-hands-on-the-str" false
theorem wFT_eq {w : World} (h : w.params.followText "fstring-hands-on-the-str" = true) : wFT w = w := by
  have e := World.withFollow_self w "fstring-hands-on-the-str"
  rwa [h] at e
theorem wFF_eq {w : World} (h : w.params.followText "fstring-hands-on-the-str" = false) : wFF w = w := by
  have e := World.withFollow_self w "fstring-hands-on-the-str"
  rwa [h] at e
noncomputable def FP1F (w : World) (a st : Nat → Nat) (pp : Nat → Pos) (p : Pos) (tm t tq : Nat) (r : Nat → Nat) : Fr :=
  frC (blLaw st pp) (cFP1 [r 0, r 1, r 2, r 3, r 4, r 5, r 6, r 7, r 8, r 9] tm t) p 0 []
    [.use 1 8 fun ρ τ => replUse [r 0, r 1, r 2, r 3, r 4, r 5, r 6, r 7, r 8, r 9] t 92 (τ 6) [92, 92] (τ 7) [r 0, r 1, r 2, r 3, r 4, r 5, r 6, r 7, r 8, r 9],
     .use 1 11 fun ρ τ => replUse [r 0, r 1, r 2, r 3, r 4, r 5, r 6, r 7, r 8, r 9] (τ 8) 34 (τ 9) [92, 34] (τ 10) [r 0, r 1, r 2, r 3, r 4, r 5, r 6, r 7, r 8, r 9]]
    [] (95) (6407961113736442782195574245810749551136868466966200333723497236026719449507642762604964942446592) (fun _ τ => .inl (.done (.ret (.str ⟨⟨[109, 61, 34, r 0, r 1, r 2, r 3, r 4, r 5, r 6, r 7, r 8, r 9, 34]⟩⟩ (τ 15))), ⟨12, 39, 12, 44⟩)) (fun _ _ => []) (fun _ _ => [])
theorem FP1F_n (w : World) (a st : Nat → Nat) (pp : Nat → Pos) (p : Pos) (tm t tq : Nat) (r : Nat → Nat) : (FP1F (wFF w) a st pp p tm t tq r).SpecN (wFF w) a := Fr.specN fun ρ τ => by kernel_rfl

theorem FP1F_s (w : World) (S : Shared) {ρ st : Nat → Nat} {pp : Nat → Pos} {tm t tq : Nat} {r : Nat → Nat} (hp : Plain r) : SpecI (WD (wFF w) S) ρ (pureUse (cFP1 [r 0, r 1, r 2, r 3, r 4, r 5, r 6, r 7, r 8, r 9] tm t) (some (blLaw st pp)) [] 1 fun θ => .ok (.ret (.str ⟨⟨[109, 61, 34, r 0, r 1, r 2, r 3, r 4, r 5, r 6, r 7, r 8, r 9, 34]⟩⟩ (θ 0)))) := by
  refine spec_pure fun Γ p h tk R hc' hbl top big pre fin => ?_
  rw [hbl _ rfl]
  refine FP1F_n w (fun _ => 0) st pp p tm t 0 r (given0 top big) ?_ fun τ h' tk' N => fin (nthN [(τ 15)]) h' tk' (fun j hj => nthN_ge _ j hj) N.size N.all
  refine okc ?_ (okc ?_ ok0)
  · exact ok_repl (wFF w) S (t := fun τ => t) (by decide) (by decide) (by simp) (by decide) (by simp) (by simp [flatR, hp.bs 0 (by decide), hp.dq 0 (by decide), hp.bs 1 (by decide), hp.dq 1 (by decide), hp.bs 2 (by decide), hp.dq 2 (by decide), hp.bs 3 (by decide), hp.dq 3 (by decide), hp.bs 4 (by decide), hp.dq 4 (by decide), hp.bs 5 (by decide), hp.dq 5 (by decide), hp.bs 6 (by decide), hp.dq 6 (by decide), hp.bs 7 (by decide), hp.dq 7 (by decide), hp.bs 8 (by decide), hp.dq 8 (by decide), hp.bs 9 (by decide), hp.dq 9 (by decide)])
  · exact ok_repl (wFF w) S (t := fun τ => (τ 8)) (by decide) (by decide) (by simp) (by decide) (by simp) (by simp [flatR, hp.bs 0 (by decide), hp.dq 0 (by decide), hp.bs 1 (by decide), hp.dq 1 (by decide), hp.bs 2 (by decide), hp.dq 2 (by decide), hp.bs 3 (by decide), hp.dq 3 (by decide), hp.bs 4 (by decide), hp.dq 4 (by decide), hp.bs 5 (by decide), hp.dq 5 (by decide), hp.bs 6 (by decide), hp.dq 6 (by decide), hp.bs 7 (by decide), hp.dq 7 (by decide), hp.bs 8 (by decide), hp.dq 8 (by decide), hp.bs 9 (by decide), hp.dq 9 (by decide)])
noncomputable def FP1T (w : World) (a st : Nat → Nat) (pp : Nat → Pos) (p : Pos) (tm t tq : Nat) (r : Nat → Nat) : Fr :=
  frC (blLaw st pp) (cFP1 [r 0, r 1, r 2, r 3, r 4, r 5, r 6, r 7, r 8, r 9] tm t) p 0 []
    [.use 1 8 fun ρ τ => replUse [r 0, r 1, r 2, r 3, r 4, r 5, r 6, r 7, r 8, r 9] t 92 (τ 6) [92, 92] (τ 7) [r 0, r 1, r 2, r 3, r 4, r 5, r 6, r 7, r 8, r 9],
     .use 1 11 fun ρ τ => replUse [r 0, r 1, r 2, r 3, r 4, r 5, r 6, r 7, r 8, r 9] (τ 8) 34 (τ 9) [92, 34] (τ 10) [r 0, r 1, r 2, r 3, r 4, r 5, r 6, r 7, r 8, r 9]]
    [] (99) (6407961113736442782195574245810749551136868466966200333723497236026719449507642762604964942446592) (fun _ τ => .inl (.done (.ret (.str ⟨⟨[109, 61, 34, r 0, r 1, r 2, r 3, r 4, r 5, r 6, r 7, r 8, r 9, 34]⟩⟩ (τ 19))), ⟨12, 39, 12, 44⟩)) (fun _ _ => []) (fun _ _ => [])
theorem FP1T_n (w : World) (a st : Nat → Nat) (pp : Nat → Pos) (p : Pos) (tm t tq : Nat) (r : Nat → Nat) : (FP1T (wFT w) a st pp p tm t tq r).SpecN (wFT w) a := Fr.specN fun ρ τ => by kernel_rfl

theorem FP1T_s (w : World) (S : Shared) {ρ st : Nat → Nat} {pp : Nat → Pos} {tm t tq : Nat} {r : Nat → Nat} (hp : Plain r) : SpecI (WD (wFT w) S) ρ (pureUse (cFP1 [r 0, r 1, r 2, r 3, r 4, r 5, r 6, r 7, r 8, r 9] tm t) (some (blLaw st pp)) [] 1 fun θ => .ok (.ret (.str ⟨⟨[109, 61, 34, r 0, r 1, r 2, r 3, r 4, r 5, r 6, r 7, r 8, r 9, 34]⟩⟩ (θ 0)))) := by
  refine spec_pure fun Γ p h tk R hc' hbl top big pre fin => ?_
  rw [hbl _ rfl]
  refine FP1T_n w (fun _ => 0) st pp p tm t 0 r (given0 top big) ?_ fun τ h' tk' N => fin (nthN [(τ 19)]) h' tk' (fun j hj => nthN_ge _ j hj) N.size N.all
  refine okc ?_ (okc ?_ ok0)
  · exact ok_repl (wFT w) S (t := fun τ => t) (by decide) (by decide) (by simp) (by decide) (by simp) (by simp [flatR, hp.bs 0 (by decide), hp.dq 0 (by decide), hp.bs 1 (by decide), hp.dq 1 (by decide), hp.bs 2 (by decide), hp.dq 2 (by decide), hp.bs 3 (by decide), hp.dq 3 (by decide), hp.bs 4 (by decide), hp.dq 4 (by decide), hp.bs 5 (by decide), hp.dq 5 (by decide), hp.bs 6 (by decide), hp.dq 6 (by decide), hp.bs 7 (by decide), hp.dq 7 (by decide), hp.bs 8 (by decide), hp.dq 8 (by decide), hp.bs 9 (by decide), hp.dq 9 (by decide)])
  · exact ok_repl (wFT w) S (t := fun τ => (τ 8)) (by decide) (by decide) (by simp) (by decide) (by simp) (by simp [flatR, hp.bs 0 (by decide), hp.dq 0 (by decide), hp.bs 1 (by decide), hp.dq 1 (by decide), hp.bs 2 (by decide), hp.dq 2 (by decide), hp.bs 3 (by decide), hp.dq 3 (by decide), hp.bs 4 (by decide), hp.dq 4 (by decide), hp.bs 5 (by decide), hp.dq 5 (by decide), hp.bs 6 (by decide), hp.dq 6 (by decide), hp.bs 7 (by decide), hp.dq 7 (by decide), hp.bs 8 (by decide), hp.dq 8 (by decide), hp.bs 9 (by decide), hp.dq 9 (by decide)])
theorem FP1_s (w : World) (S : Shared) {ρ st : Nat → Nat} {pp : Nat → Pos} {tm t tq : Nat} {r : Nat → Nat} (hp : Plain r) : SpecI (WD w S) ρ (pureUse (cFP1 [r 0, r 1, r 2, r 3, r 4, r 5, r 6, r 7, r 8, r 9] tm t) (some (blLaw st pp)) [] 1 fun θ => .ok (.ret (.str ⟨⟨[109, 61, 34, r 0, r 1, r 2, r 3, r 4, r 5, r 6, r 7, r 8, r 9, 34]⟩⟩ (θ 0)))) := by
  cases hb : w.params.followText "fstring-hands-on-the-str" with
  | true =>
    have K := FP1T_s w S (ρ := ρ) (st := st) (pp := pp) (tm := tm) (t := t) (tq := tq) hp
    rwa [wFT_eq hb] at K
  | false =>
    have K := FP1F_s w S (ρ := ρ) (st := st) (pp := pp) (tm := tm) (t := t) (tq := tq) hp
    rwa [wFF_eq hb] at K
noncomputable def FP2F (w : World) (a st : Nat → Nat) (pp : Nat → Pos) (p : Pos) (tm t tq : Nat) (r : Nat → Nat) : Fr :=
  frC (blLaw st pp) (cFP0 [63, r 1, r 2, r 3, r 4, r 5, r 6, r 7, r 8, r 9] tm t tq) p 0 []
    [.use 3 8 fun ρ τ => replUse [63, r 1, r 2, r 3, r 4, r 5, r 6, r 7, r 8, r 9] t 92 (τ 6) [92, 92] (τ 7) [63, r 1, r 2, r 3, r 4, r 5, r 6, r 7, r 8, r 9],
     .use 3 11 fun ρ τ => replUse [63, r 1, r 2, r 3, r 4, r 5, r 6, r 7, r 8, r 9] (τ 8) 34 (τ 9) [92, 34] (τ 10) [63, r 1, r 2, r 3, r 4, r 5, r 6, r 7, r 8, r 9]]
    [] (122) (8517641308279569188932136513805905214493596342866322314586551471293309763824109069510389328245316307868744512442600783906204045803520) (fun _ τ => .inl (.done (.ret (.str ⟨⟨[109, 61, 34, 63, r 1, r 2, r 3, r 4, r 5, r 6, r 7, r 8, r 9, 34]⟩⟩ (τ 15))), ⟨12, 39, 12, 44⟩)) (fun _ _ => []) (fun _ _ => [])
theorem FP2F_n (w : World) (a st : Nat → Nat) (pp : Nat → Pos) (p : Pos) (tm t tq : Nat) (r : Nat → Nat) : (FP2F (wFF w) a st pp p tm t tq r).SpecN (wFF w) a := Fr.specN fun ρ τ => by kernel_rfl

theorem FP2F_s (w : World) (S : Shared) {ρ st : Nat → Nat} {pp : Nat → Pos} {tm t tq : Nat} {r : Nat → Nat} (hp : Plain r) : SpecI (WD (wFF w) S) ρ (pureUse (cFP0 [63, r 1, r 2, r 3, r 4, r 5, r 6, r 7, r 8, r 9] tm t tq) (some (blLaw st pp)) [] 1 fun θ => .ok (.ret (.str ⟨⟨[109, 61, 34, 63, r 1, r 2, r 3, r 4, r 5, r 6, r 7, r 8, r 9, 34]⟩⟩ (θ 0)))) := by
  refine spec_pure fun Γ p h tk R hc' hbl top big pre fin => ?_
  rw [hbl _ rfl]
  refine FP2F_n w (fun _ => 0) st pp p tm t tq r (given0 top big) ?_ fun τ h' tk' N => fin (nthN [(τ 15)]) h' tk' (fun j hj => nthN_ge _ j hj) N.size N.all
  refine okc ?_ (okc ?_ ok0)
  · exact ok_repl (wFF w) S (t := fun τ => t) (by decide) (by decide) (by simp) (by decide) (by simp) (by simp [flatR, hp.bs 0 (by decide), hp.dq 0 (by decide), hp.bs 1 (by decide), hp.dq 1 (by decide), hp.bs 2 (by decide), hp.dq 2 (by decide), hp.bs 3 (by decide), hp.dq 3 (by decide), hp.bs 4 (by decide), hp.dq 4 (by decide), hp.bs 5 (by decide), hp.dq 5 (by decide), hp.bs 6 (by decide), hp.dq 6 (by decide), hp.bs 7 (by decide), hp.dq 7 (by decide), hp.bs 8 (by decide), hp.dq 8 (by decide), hp.bs 9 (by decide), hp.dq 9 (by decide)])
  · exact ok_repl (wFF w) S (t := fun τ => (τ 8)) (by decide) (by decide) (by simp) (by decide) (by simp) (by simp [flatR, hp.bs 0 (by decide), hp.dq 0 (by decide), hp.bs 1 (by decide), hp.dq 1 (by decide), hp.bs 2 (by decide), hp.dq 2 (by decide), hp.bs 3 (by decide), hp.dq 3 (by decide), hp.bs 4 (by decide), hp.dq 4 (by decide), hp.bs 5 (by decide), hp.dq 5 (by decide), hp.bs 6 (by decide), hp.dq 6 (by decide), hp.bs 7 (by decide), hp.dq 7 (by decide), hp.bs 8 (by decide), hp.dq 8 (by decide), hp.bs 9 (by decide), hp.dq 9 (by decide)])
noncomputable def FP2T (w : World) (a st : Nat → Nat) (pp : Nat → Pos) (p : Pos) (tm t tq : Nat) (r : Nat → Nat) : Fr :=
  frC (blLaw st pp) (cFP0 [63, r 1, r 2, r 3, r 4, r 5, r 6, r 7, r 8, r 9] tm t tq) p 0 []
    [.use 3 8 fun ρ τ => replUse [63, r 1, r 2, r 3, r 4, r 5, r 6, r 7, r 8, r 9] t 92 (τ 6) [92, 92] (τ 7) [63, r 1, r 2, r 3, r 4, r 5, r 6, r 7, r 8, r 9],
     .use 3 11 fun ρ τ => replUse [63, r 1, r 2, r 3, r 4, r 5, r 6, r 7, r 8, r 9] (τ 8) 34 (τ 9) [92, 34] (τ 10) [63, r 1, r 2, r 3, r 4, r 5, r 6, r 7, r 8, r 9]]
    [] (126) (8517641308279569188932136513805905214493596342866322314586551471293309763824109069510389328245316307868744512442600783906204045803520) (fun _ τ => .inl (.done (.ret (.str ⟨⟨[109, 61, 34, 63, r 1, r 2, r 3, r 4, r 5, r 6, r 7, r 8, r 9, 34]⟩⟩ (τ 19))), ⟨12, 39, 12, 44⟩)) (fun _ _ => []) (fun _ _ => [])
theorem FP2T_n (w : World) (a st : Nat → Nat) (pp : Nat → Pos) (p : Pos) (tm t tq : Nat) (r : Nat → Nat) : (FP2T (wFT w) a st pp p tm t tq r).SpecN (wFT w) a := Fr.specN fun ρ τ => by kernel_rfl

theorem FP2T_s (w : World) (S : Shared) {ρ st : Nat → Nat} {pp : Nat → Pos} {tm t tq : Nat} {r : Nat → Nat} (hp : Plain r) : SpecI (WD (wFT w) S) ρ (pureUse (cFP0 [63, r 1, r 2, r 3, r 4, r 5, r 6, r 7, r 8, r 9] tm t tq) (some (blLaw st pp)) [] 1 fun θ => .ok (.ret (.str ⟨⟨[109, 61, 34, 63, r 1, r 2, r 3, r 4, r 5, r 6, r 7, r 8, r 9, 34]⟩⟩ (θ 0)))) := by
  refine spec_pure fun Γ p h tk R hc' hbl top big pre fin => ?_
  rw [hbl _ rfl]
  refine FP2T_n w (fun _ => 0) st pp p tm t tq r (given0 top big) ?_ fun τ h' tk' N => fin (nthN [(τ 19)]) h' tk' (fun j hj => nthN_ge _ j hj) N.size N.all
  refine okc ?_ (okc ?_ ok0)
  · exact ok_repl (wFT w) S (t := fun τ => t) (by decide) (by decide) (by simp) (by decide) (by simp) (by simp [flatR, hp.bs 0 (by decide), hp.dq 0 (by decide), hp.bs 1 (by decide), hp.dq 1 (by decide), hp.bs 2 (by decide), hp.dq 2 (by decide), hp.bs 3 (by decide), hp.dq 3 (by decide), hp.bs 4 (by decide), hp.dq 4 (by decide), hp.bs 5 (by decide), hp.dq 5 (by decide), hp.bs 6 (by decide), hp.dq 6 (by decide), hp.bs 7 (by decide), hp.dq 7 (by decide), hp.bs 8 (by decide), hp.dq 8 (by decide), hp.bs 9 (by decide), hp.dq 9 (by decide)])
  · exact ok_repl (wFT w) S (t := fun τ => (τ 8)) (by decide) (by decide) (by simp) (by decide) (by simp) (by simp [flatR, hp.bs 0 (by decide), hp.dq 0 (by decide), hp.bs 1 (by decide), hp.dq 1 (by decide), hp.bs 2 (by decide), hp.dq 2 (by decide), hp.bs 3 (by decide), hp.dq 3 (by decide), hp.bs 4 (by decide), hp.dq 4 (by decide), hp.bs 5 (by decide), hp.dq 5 (by decide), hp.bs 6 (by decide), hp.dq 6 (by decide), hp.bs 7 (by decide), hp.dq 7 (by decide), hp.bs 8 (by decide), hp.dq 8 (by decide), hp.bs 9 (by decide), hp.dq 9 (by decide)])
theorem FP2_s (w : World) (S : Shared) {ρ st : Nat → Nat} {pp : Nat → Pos} {tm t tq : Nat} {r : Nat → Nat} (hp : Plain r) : SpecI (WD w S) ρ (pureUse (cFP0 [63, r 1, r 2, r 3, r 4, r 5, r 6, r 7, r 8, r 9] tm t tq) (some (blLaw st pp)) [] 1 fun θ => .ok (.ret (.str ⟨⟨[109, 61, 34, 63, r 1, r 2, r 3, r 4, r 5, r 6, r 7, r 8, r 9, 34]⟩⟩ (θ 0)))) := by
  cases hb : w.params.followText "fstring-hands-on-the-str" with
  | true =>
    have K := FP2T_s w S (ρ := ρ) (st := st) (pp := pp) (tm := tm) (t := t) (tq := tq) hp
    rwa [wFT_eq hb] at K
  | false =>
    have K := FP2F_s w S (ρ := ρ) (st := st) (pp := pp) (tm := tm) (t := t) (tq := tq) hp
    rwa [wFF_eq hb] at K
noncomputable def WR1F (w : World) (a st : Nat → Nat) (pp : Nat → Pos) (p : Pos) (t tn : Nat) (r : Nat → Nat) (X : List Nat) : Fr :=
  frC (blLaw st pp) (cWR X t 1 tn) p 0 []
    []
    [] (81) (7231174091063383103487569718180943966668799390536329288653158222084255708221651197293928294183362669203200933888) (fun _ _ => .inl (.done (.ret (.str ⟨⟨X⟩⟩ t)), ⟨790, 11, 790, 15⟩)) (fun _ _ => []) (fun _ _ => [])
theorem WR1F_n (w : World) (a st : Nat → Nat) (pp : Nat → Pos) (p : Pos) (t tn : Nat) (r : Nat → Nat) (X : List Nat) : (WR1F w a st pp p t tn r X).SpecN w a := Fr.specN fun ρ τ => by kernel_rfl

theorem WR1F_s (w : World) (S : Shared) {ρ st : Nat → Nat} {pp : Nat → Pos} {t tn : Nat} {X : List Nat} : SpecI (WD w S) ρ (pureUse (cWR X t 1 tn) (some (blLaw st pp)) [] 1 fun θ => .ok (.ret (.str ⟨⟨X⟩⟩ (θ 0)))) := by
  refine spec_pure fun Γ p h tk R hc' hbl top big pre fin => ?_
  rw [hbl _ rfl]
  refine WR1F_n w (fun _ => 0) st pp p t tn (fun _ => 0) X (given0 top big) ?_ fun τ h' tk' N => fin (nthN [t]) h' tk' (fun j hj => nthN_ge _ j hj) N.size N.all
  exact ok0
noncomputable def WR2BF (w : World) (a st : Nat → Nat) (pp : Nat → Pos) (p : Pos) (t tn : Nat) (r : Nat → Nat) (X : List Nat) : Fr :=
  frC (blLaw st pp) (cWR [109, 61, r 0, r 1, r 2, r 3, r 4, r 5, r 6, r 7, r 8, r 9] t 2 tn) p 0 []
    [.use 6 18 fun ρ τ => replUse [109, 61, r 0, r 1, r 2, r 3, r 4, r 5, r 6, r 7, r 8, r 9] t 92 (τ 16) [92, 92] (τ 17) [109, 61, r 0, r 1, r 2, r 3, r 4, r 5, r 6, r 7, r 8, r 9],
     .use 6 21 fun ρ τ => replUse [109, 61, r 0, r 1, r 2, r 3, r 4, r 5, r 6, r 7, r 8, r 9] (τ 18) 34 (τ 19) [92, 34] (τ 20) [109, 61, r 0, r 1, r 2, r 3, r 4, r 5, r 6, r 7, r 8, r 9]]
    [] (243) (35459193779357541702253451305859508509946757949527762630243808096127935724906018528848172264052916013657434583557787340123841831230432496704901466614647934420248355710300107977109264717621821834648320022188321546181039208754782805550203352977417766587585631426103522535155173380668886700300336292568801885351313408) (fun _ τ => .inl (.done (.ret (.str ⟨⟨[109, 61, 34, 109, 61, r 0, r 1, r 2, r 3, r 4, r 5, r 6, r 7, r 8, r 9, 34]⟩⟩ (τ 25))), ⟨790, 11, 790, 15⟩)) (fun _ _ => []) (fun _ _ => [])
theorem WR2BF_n (w : World) (a st : Nat → Nat) (pp : Nat → Pos) (p : Pos) (t tn : Nat) (r : Nat → Nat) (X : List Nat) : (WR2BF (wFF w) a st pp p t tn r X).SpecN (wFF w) a := Fr.specN fun ρ τ => by kernel_rfl

theorem WR2BF_s (w : World) (S : Shared) {ρ st : Nat → Nat} {pp : Nat → Pos} {t tn : Nat} {r : Nat → Nat} (hp : Plain r) : SpecI (WD (wFF w) S) ρ (pureUse (cWR [109, 61, r 0, r 1, r 2, r 3, r 4, r 5, r 6, r 7, r 8, r 9] t 2 tn) (some (blLaw st pp)) [] 1 fun θ => .ok (.ret (.str ⟨⟨[109, 61, 34, 109, 61, r 0, r 1, r 2, r 3, r 4, r 5, r 6, r 7, r 8, r 9, 34]⟩⟩ (θ 0)))) := by
  refine spec_pure fun Γ p h tk R hc' hbl top big pre fin => ?_
  rw [hbl _ rfl]
  refine WR2BF_n w (fun _ => 0) st pp p t tn r [] (given0 top big) ?_ fun τ h' tk' N => fin (nthN [(τ 25)]) h' tk' (fun j hj => nthN_ge _ j hj) N.size N.all
  refine okc ?_ (okc ?_ ok0)
  · exact ok_repl (wFF w) S (t := fun τ => t) (by decide) (by decide) (by simp) (by decide) (by simp) (by simp [flatR, hp.bs 0 (by decide), hp.dq 0 (by decide), hp.bs 1 (by decide), hp.dq 1 (by decide), hp.bs 2 (by decide), hp.dq 2 (by decide), hp.bs 3 (by decide), hp.dq 3 (by decide), hp.bs 4 (by decide), hp.dq 4 (by decide), hp.bs 5 (by decide), hp.dq 5 (by decide), hp.bs 6 (by decide), hp.dq 6 (by decide), hp.bs 7 (by decide), hp.dq 7 (by decide), hp.bs 8 (by decide), hp.dq 8 (by decide), hp.bs 9 (by decide), hp.dq 9 (by decide)])
  · exact ok_repl (wFF w) S (t := fun τ => (τ 18)) (by decide) (by decide) (by simp) (by decide) (by simp) (by simp [flatR, hp.bs 0 (by decide), hp.dq 0 (by decide), hp.bs 1 (by decide), hp.dq 1 (by decide), hp.bs 2 (by decide), hp.dq 2 (by decide), hp.bs 3 (by decide), hp.dq 3 (by decide), hp.bs 4 (by decide), hp.dq 4 (by decide), hp.bs 5 (by decide), hp.dq 5 (by decide), hp.bs 6 (by decide), hp.dq 6 (by decide), hp.bs 7 (by decide), hp.dq 7 (by decide), hp.bs 8 (by decide), hp.dq 8 (by decide), hp.bs 9 (by decide), hp.dq 9 (by decide)])
noncomputable def WR2BT (w : World) (a st : Nat → Nat) (pp : Nat → Pos) (p : Pos) (t tn : Nat) (r : Nat → Nat) (X : List Nat) : Fr :=
  frC (blLaw st pp) (cWR [109, 61, r 0, r 1, r 2, r 3, r 4, r 5, r 6, r 7, r 8, r 9] t 2 tn) p 0 []
    [.use 6 18 fun ρ τ => replUse [109, 61, r 0, r 1, r 2, r 3, r 4, r 5, r 6, r 7, r 8, r 9] t 92 (τ 16) [92, 92] (τ 17) [109, 61, r 0, r 1, r 2, r 3, r 4, r 5, r 6, r 7, r 8, r 9],
     .use 6 21 fun ρ τ => replUse [109, 61, r 0, r 1, r 2, r 3, r 4, r 5, r 6, r 7, r 8, r 9] (τ 18) 34 (τ 19) [92, 34] (τ 20) [109, 61, r 0, r 1, r 2, r 3, r 4, r 5, r 6, r 7, r 8, r 9]]
    [] (247) (35459193779357541702253451305859508509946757949527762630243808096127935724906018528848172264052916013657434583557787340123841831230432496704901466614647934420248355710300107977109264717621821834648320022188321546181039208754782805550203352977417766587585631426103522535155173380668886700300336292568801885351313408) (fun _ τ => .inl (.done (.ret (.str ⟨⟨[109, 61, 34, 109, 61, r 0, r 1, r 2, r 3, r 4, r 5, r 6, r 7, r 8, r 9, 34]⟩⟩ (τ 29))), ⟨790, 11, 790, 15⟩)) (fun _ _ => []) (fun _ _ => [])
theorem WR2BT_n (w : World) (a st : Nat → Nat) (pp : Nat → Pos) (p : Pos) (t tn : Nat) (r : Nat → Nat) (X : List Nat) : (WR2BT (wFT w) a st pp p t tn r X).SpecN (wFT w) a := Fr.specN fun ρ τ => by kernel_rfl

theorem WR2BT_s (w : World) (S : Shared) {ρ st : Nat → Nat} {pp : Nat → Pos} {t tn : Nat} {r : Nat → Nat} (hp : Plain r) : SpecI (WD (wFT w) S) ρ (pureUse (cWR [109, 61, r 0, r 1, r 2, r 3, r 4, r 5, r 6, r 7, r 8, r 9] t 2 tn) (some (blLaw st pp)) [] 1 fun θ => .ok (.ret (.str ⟨⟨[109, 61, 34, 109, 61, r 0, r 1, r 2, r 3, r 4, r 5, r 6, r 7, r 8, r 9, 34]⟩⟩ (θ 0)))) := by
  refine spec_pure fun Γ p h tk R hc' hbl top big pre fin => ?_
  rw [hbl _ rfl]
  refine WR2BT_n w (fun _ => 0) st pp p t tn r [] (given0 top big) ?_ fun τ h' tk' N => fin (nthN [(τ 29)]) h' tk' (fun j hj => nthN_ge _ j hj) N.size N.all
  refine okc ?_ (okc ?_ ok0)
  · exact ok_repl (wFT w) S (t := fun τ => t) (by decide) (by decide) (by simp) (by decide) (by simp) (by simp [flatR, hp.bs 0 (by decide), hp.dq 0 (by decide), hp.bs 1 (by decide), hp.dq 1 (by decide), hp.bs 2 (by decide), hp.dq 2 (by decide), hp.bs 3 (by decide), hp.dq 3 (by decide), hp.bs 4 (by decide), hp.dq 4 (by decide), hp.bs 5 (by decide), hp.dq 5 (by decide), hp.bs 6 (by decide), hp.dq 6 (by decide), hp.bs 7 (by decide), hp.dq 7 (by decide), hp.bs 8 (by decide), hp.dq 8 (by decide), hp.bs 9 (by decide), hp.dq 9 (by decide)])
  · exact ok_repl (wFT w) S (t := fun τ => (τ 18)) (by decide) (by decide) (by simp) (by decide) (by simp) (by simp [flatR, hp.bs 0 (by decide), hp.dq 0 (by decide), hp.bs 1 (by decide), hp.dq 1 (by decide), hp.bs 2 (by decide), hp.dq 2 (by decide), hp.bs 3 (by decide), hp.dq 3 (by decide), hp.bs 4 (by decide), hp.dq 4 (by decide), hp.bs 5 (by decide), hp.dq 5 (by decide), hp.bs 6 (by decide), hp.dq 6 (by decide), hp.bs 7 (by decide), hp.dq 7 (by decide), hp.bs 8 (by decide), hp.dq 8 (by decide), hp.bs 9 (by decide), hp.dq 9 (by decide)])
theorem WR2B_s (w : World) (S : Shared) {ρ st : Nat → Nat} {pp : Nat → Pos} {t tn : Nat} {r : Nat → Nat} (hp : Plain r) : SpecI (WD w S) ρ (pureUse (cWR [109, 61, r 0, r 1, r 2, r 3, r 4, r 5, r 6, r 7, r 8, r 9] t 2 tn) (some (blLaw st pp)) [] 1 fun θ => .ok (.ret (.str ⟨⟨[109, 61, 34, 109, 61, r 0, r 1, r 2, r 3, r 4, r 5, r 6, r 7, r 8, r 9, 34]⟩⟩ (θ 0)))) := by
  cases hb : w.params.followText "fstring-hands-on-the-str" with
  | true =>
    have K := WR2BT_s w S (ρ := ρ) (st := st) (pp := pp) (t := t) (tn := tn) hp
    rwa [wFT_eq hb] at K
  | false =>
    have K := WR2BF_s w S (ρ := ρ) (st := st) (pp := pp) (t := t) (tn := tn) hp
    rwa [wFF_eq hb] at K
noncomputable def WR2CF (w : World) (a st : Nat → Nat) (pp : Nat → Pos) (p : Pos) (t tn : Nat) (r : Nat → Nat) (X : List Nat) : Fr :=
  frC (blLaw st pp) (cWR [109, 61, 34, r 0, r 1, r 2, r 3, r 4, r 5, r 6, r 7, r 8, r 9, 34] t 2 tn) p 0 []
    [.use 6 18 fun ρ τ => replUse [109, 61, 34, r 0, r 1, r 2, r 3, r 4, r 5, r 6, r 7, r 8, r 9, 34] t 92 (τ 16) [92, 92] (τ 17) [109, 61, 34, r 0, r 1, r 2, r 3, r 4, r 5, r 6, r 7, r 8, r 9, 34],
     .use 6 21 fun ρ τ => replUse [109, 61, 34, r 0, r 1, r 2, r 3, r 4, r 5, r 6, r 7, r 8, r 9, 34] (τ 18) 34 (τ 19) [92, 34] (τ 20) [109, 61, 92, 34, r 0, r 1, r 2, r 3, r 4, r 5, r 6, r 7, r 8, r 9, 92, 34]]
    [] (243) (35459193779357541702253451305859508509946757949527762630243808096127935724906018528848172264052916013657434583557787340123841831230432496704901466614647934420248355710300107977109264717621821834648320022188321546181039208754782805550203352977417766587585631426103522535155173380668886700300336292568801885351313408) (fun _ τ => .inl (.done (.ret (.str ⟨⟨[109, 61, 34, 109, 61, 92, 34, r 0, r 1, r 2, r 3, r 4, r 5, r 6, r 7, r 8, r 9, 92, 34, 34]⟩⟩ (τ 25))), ⟨790, 11, 790, 15⟩)) (fun _ _ => []) (fun _ _ => [])
theorem WR2CF_n (w : World) (a st : Nat → Nat) (pp : Nat → Pos) (p : Pos) (t tn : Nat) (r : Nat → Nat) (X : List Nat) : (WR2CF (wFF w) a st pp p t tn r X).SpecN (wFF w) a := Fr.specN fun ρ τ => by kernel_rfl

theorem WR2CF_s (w : World) (S : Shared) {ρ st : Nat → Nat} {pp : Nat → Pos} {t tn : Nat} {r : Nat → Nat} (hp : Plain r) : SpecI (WD (wFF w) S) ρ (pureUse (cWR [109, 61, 34, r 0, r 1, r 2, r 3, r 4, r 5, r 6, r 7, r 8, r 9, 34] t 2 tn) (some (blLaw st pp)) [] 1 fun θ => .ok (.ret (.str ⟨⟨[109, 61, 34, 109, 61, 92, 34, r 0, r 1, r 2, r 3, r 4, r 5, r 6, r 7, r 8, r 9, 92, 34, 34]⟩⟩ (θ 0)))) := by
  refine spec_pure fun Γ p h tk R hc' hbl top big pre fin => ?_
  rw [hbl _ rfl]
  refine WR2CF_n w (fun _ => 0) st pp p t tn r [] (given0 top big) ?_ fun τ h' tk' N => fin (nthN [(τ 25)]) h' tk' (fun j hj => nthN_ge _ j hj) N.size N.all
  refine okc ?_ (okc ?_ ok0)
  · exact ok_repl (wFF w) S (t := fun τ => t) (by decide) (by decide) (by simp) (by decide) (by simp) (by simp [flatR, hp.bs 0 (by decide), hp.dq 0 (by decide), hp.bs 1 (by decide), hp.dq 1 (by decide), hp.bs 2 (by decide), hp.dq 2 (by decide), hp.bs 3 (by decide), hp.dq 3 (by decide), hp.bs 4 (by decide), hp.dq 4 (by decide), hp.bs 5 (by decide), hp.dq 5 (by decide), hp.bs 6 (by decide), hp.dq 6 (by decide), hp.bs 7 (by decide), hp.dq 7 (by decide), hp.bs 8 (by decide), hp.dq 8 (by decide), hp.bs 9 (by decide), hp.dq 9 (by decide)])
  · exact ok_repl (wFF w) S (t := fun τ => (τ 18)) (by decide) (by decide) (by simp) (by decide) (by simp) (by simp [flatR, hp.bs 0 (by decide), hp.dq 0 (by decide), hp.bs 1 (by decide), hp.dq 1 (by decide), hp.bs 2 (by decide), hp.dq 2 (by decide), hp.bs 3 (by decide), hp.dq 3 (by decide), hp.bs 4 (by decide), hp.dq 4 (by decide), hp.bs 5 (by decide), hp.dq 5 (by decide), hp.bs 6 (by decide), hp.dq 6 (by decide), hp.bs 7 (by decide), hp.dq 7 (by decide), hp.bs 8 (by decide), hp.dq 8 (by decide), hp.bs 9 (by decide), hp.dq 9 (by decide)])
noncomputable def WR2CT (w : World) (a st : Nat → Nat) (pp : Nat → Pos) (p : Pos) (t tn : Nat) (r : Nat → Nat) (X : List Nat) : Fr :=
  frC (blLaw st pp) (cWR [109, 61, 34, r 0, r 1, r 2, r 3, r 4, r 5, r 6, r 7, r 8, r 9, 34] t 2 tn) p 0 []
    [.use 6 18 fun ρ τ => replUse [109, 61, 34, r 0, r 1, r 2, r 3, r 4, r 5, r 6, r 7, r 8, r 9, 34] t 92 (τ 16) [92, 92] (τ 17) [109, 61, 34, r 0, r 1, r 2, r 3, r 4, r 5, r 6, r 7, r 8, r 9, 34],
     .use 6 21 fun ρ τ => replUse [109, 61, 34, r 0, r 1, r 2, r 3, r 4, r 5, r 6, r 7, r 8, r 9, 34] (τ 18) 34 (τ 19) [92, 34] (τ 20) [109, 61, 92, 34, r 0, r 1, r 2, r 3, r 4, r 5, r 6, r 7, r 8, r 9, 92, 34]]
    [] (247) (35459193779357541702253451305859508509946757949527762630243808096127935724906018528848172264052916013657434583557787340123841831230432496704901466614647934420248355710300107977109264717621821834648320022188321546181039208754782805550203352977417766587585631426103522535155173380668886700300336292568801885351313408) (fun _ τ => .inl (.done (.ret (.str ⟨⟨[109, 61, 34, 109, 61, 92, 34, r 0, r 1, r 2, r 3, r 4, r 5, r 6, r 7, r 8, r 9, 92, 34, 34]⟩⟩ (τ 29))), ⟨790, 11, 790, 15⟩)) (fun _ _ => []) (fun _ _ => [])
theorem WR2CT_n (w : World) (a st : Nat → Nat) (pp : Nat → Pos) (p : Pos) (t tn : Nat) (r : Nat → Nat) (X : List Nat) : (WR2CT (wFT w) a st pp p t tn r X).SpecN (wFT w) a := Fr.specN fun ρ τ => by kernel_rfl

theorem WR2CT_s (w : World) (S : Shared) {ρ st : Nat → Nat} {pp : Nat → Pos} {t tn : Nat} {r : Nat → Nat} (hp : Plain r) : SpecI (WD (wFT w) S) ρ (pureUse (cWR [109, 61, 34, r 0, r 1, r 2, r 3, r 4, r 5, r 6, r 7, r 8, r 9, 34] t 2 tn) (some (blLaw st pp)) [] 1 fun θ => .ok (.ret (.str ⟨⟨[109, 61, 34, 109, 61, 92, 34, r 0, r 1, r 2, r 3, r 4, r 5, r 6, r 7, r 8, r 9, 92, 34, 34]⟩⟩ (θ 0)))) := by
  refine spec_pure fun Γ p h tk R hc' hbl top big pre fin => ?_
  rw [hbl _ rfl]
  refine WR2CT_n w (fun _ => 0) st pp p t tn r [] (given0 top big) ?_ fun τ h' tk' N => fin (nthN [(τ 29)]) h' tk' (fun j hj => nthN_ge _ j hj) N.size N.all
  refine okc ?_ (okc ?_ ok0)
  · exact ok_repl (wFT w) S (t := fun τ => t) (by decide) (by decide) (by simp) (by decide) (by simp) (by simp [flatR, hp.bs 0 (by decide), hp.dq 0 (by decide), hp.bs 1 (by decide), hp.dq 1 (by decide), hp.bs 2 (by decide), hp.dq 2 (by decide), hp.bs 3 (by decide), hp.dq 3 (by decide), hp.bs 4 (by decide), hp.dq 4 (by decide), hp.bs 5 (by decide), hp.dq 5 (by decide), hp.bs 6 (by decide), hp.dq 6 (by decide), hp.bs 7 (by decide), hp.dq 7 (by decide), hp.bs 8 (by decide), hp.dq 8 (by decide), hp.bs 9 (by decide), hp.dq 9 (by decide)])
  · exact ok_repl (wFT w) S (t := fun τ => (τ 18)) (by decide) (by decide) (by simp) (by decide) (by simp) (by simp [flatR, hp.bs 0 (by decide), hp.dq 0 (by decide), hp.bs 1 (by decide), hp.dq 1 (by decide), hp.bs 2 (by decide), hp.dq 2 (by decide), hp.bs 3 (by decide), hp.dq 3 (by decide), hp.bs 4 (by decide), hp.dq 4 (by decide), hp.bs 5 (by decide), hp.dq 5 (by decide), hp.bs 6 (by decide), hp.dq 6 (by decide), hp.bs 7 (by decide), hp.dq 7 (by decide), hp.bs 8 (by decide), hp.dq 8 (by decide), hp.bs 9 (by decide), hp.dq 9 (by decide)])
theorem WR2C_s (w : World) (S : Shared) {ρ st : Nat → Nat} {pp : Nat → Pos} {t tn : Nat} {r : Nat → Nat} (hp : Plain r) : SpecI (WD w S) ρ (pureUse (cWR [109, 61, 34, r 0, r 1, r 2, r 3, r 4, r 5, r 6, r 7, r 8, r 9, 34] t 2 tn) (some (blLaw st pp)) [] 1 fun θ => .ok (.ret (.str ⟨⟨[109, 61, 34, 109, 61, 92, 34, r 0, r 1, r 2, r 3, r 4, r 5, r 6, r 7, r 8, r 9, 92, 34, 34]⟩⟩ (θ 0)))) := by
  cases hb : w.params.followText "fstring-hands-on-the-str" with
  | true =>
    have K := WR2CT_s w S (ρ := ρ) (st := st) (pp := pp) (t := t) (tn := tn) hp
    rwa [wFT_eq hb] at K
  | false =>
    have K := WR2CF_s w S (ρ := ρ) (st := st) (pp := pp) (t := t) (tn := tn) hp
    rwa [wFF_eq hb] at K
noncomputable def WR3BF (w : World) (a st : Nat → Nat) (pp : Nat → Pos) (p : Pos) (t tn : Nat) (r : Nat → Nat) (X : List Nat) : Fr :=
  frC (blLaw st pp) (cWR [109, 61, r 0, r 1, r 2, r 3, r 4, r 5, r 6, r 7, r 8, r 9] t 3 tn) p 0 []
    [.use 6 18 fun ρ τ => replUse [109, 61, r 0, r 1, r 2, r 3, r 4, r 5, r 6, r 7, r 8, r 9] t 92 (τ 16) [92, 92] (τ 17) [109, 61, r 0, r 1, r 2, r 3, r 4, r 5, r 6, r 7, r 8, r 9],
     .use 6 21 fun ρ τ => replUse [109, 61, r 0, r 1, r 2, r 3, r 4, r 5, r 6, r 7, r 8, r 9] (τ 18) 34 (τ 19) [92, 34] (τ 20) [109, 61, r 0, r 1, r 2, r 3, r 4, r 5, r 6, r 7, r 8, r 9],
     .use 9 39 fun ρ τ => replUse [109, 61, 34, 109, 61, r 0, r 1, r 2, r 3, r 4, r 5, r 6, r 7, r 8, r 9, 34] (τ 25) 92 (τ 37) [92, 92] (τ 38) [109, 61, 34, 109, 61, r 0, r 1, r 2, r 3, r 4, r 5, r 6, r 7, r 8, r 9, 34],
     .use 9 42 fun ρ τ => replUse [109, 61, 34, 109, 61, r 0, r 1, r 2, r 3, r 4, r 5, r 6, r 7, r 8, r 9, 34] (τ 39) 34 (τ 40) [92, 34] (τ 41) [109, 61, 92, 34, 109, 61, r 0, r 1, r 2, r 3, r 4, r 5, r 6, r 7, r 8, r 9, 92, 34]]
    [] (405) (173879541041863673766789332272348701383925013617840651532494519801144094893384508065133307575065887821204797374102506935096751719537786155422633999867199362769497544531028784009215729896976171947020032539364870987113499245191350156048590339654840420135406191350318380738764656510283352489053747282356643017406222234160618088851312238531812880695595230743950763874103592407770108185646668850078950880031051600999250785669672344988161188321306895414383505567252293161140289387769134469366807864055591511633161319612416) (fun _ τ => .inl (.done (.ret (.str ⟨⟨[109, 61, 34, 109, 61, 92, 34, 109, 61, r 0, r 1, r 2, r 3, r 4, r 5, r 6, r 7, r 8, r 9, 92, 34, 34]⟩⟩ (τ 46))), ⟨790, 11, 790, 15⟩)) (fun _ _ => []) (fun _ _ => [])
theorem WR3BF_n (w : World) (a st : Nat → Nat) (pp : Nat → Pos) (p : Pos) (t tn : Nat) (r : Nat → Nat) (X : List Nat) : (WR3BF (wFF w) a st pp p t tn r X).SpecN (wFF w) a := Fr.specN fun ρ τ => by kernel_rfl

theorem WR3BF_s (w : World) (S : Shared) {ρ st : Nat → Nat} {pp : Nat → Pos} {t tn : Nat} {r : Nat → Nat} (hp : Plain r) : SpecI (WD (wFF w) S) ρ (pureUse (cWR [109, 61, r 0, r 1, r 2, r 3, r 4, r 5, r 6, r 7, r 8, r 9] t 3 tn) (some (blLaw st pp)) [] 1 fun θ => .ok (.ret (.str ⟨⟨[109, 61, 34, 109, 61, 92, 34, 109, 61, r 0, r 1, r 2, r 3, r 4, r 5, r 6, r 7, r 8, r 9, 92, 34, 34]⟩⟩ (θ 0)))) := by
  refine spec_pure fun Γ p h tk R hc' hbl top big pre fin => ?_
  rw [hbl _ rfl]
  refine WR3BF_n w (fun _ => 0) st pp p t tn r [] (given0 top big) ?_ fun τ h' tk' N => fin (nthN [(τ 46)]) h' tk' (fun j hj => nthN_ge _ j hj) N.size N.all
  refine okc ?_ (okc ?_ (okc ?_ (okc ?_ ok0)))
  · exact ok_repl (wFF w) S (t := fun τ => t) (by decide) (by decide) (by simp) (by decide) (by simp) (by simp [flatR, hp.bs 0 (by decide), hp.dq 0 (by decide), hp.bs 1 (by decide), hp.dq 1 (by decide), hp.bs 2 (by decide), hp.dq 2 (by decide), hp.bs 3 (by decide), hp.dq 3 (by decide), hp.bs 4 (by decide), hp.dq 4 (by decide), hp.bs 5 (by decide), hp.dq 5 (by decide), hp.bs 6 (by decide), hp.dq 6 (by decide), hp.bs 7 (by decide), hp.dq 7 (by decide), hp.bs 8 (by decide), hp.dq 8 (by decide), hp.bs 9 (by decide), hp.dq 9 (by decide)])
  · exact ok_repl (wFF w) S (t := fun τ => (τ 18)) (by decide) (by decide) (by simp) (by decide) (by simp) (by simp [flatR, hp.bs 0 (by decide), hp.dq 0 (by decide), hp.bs 1 (by decide), hp.dq 1 (by decide), hp.bs 2 (by decide), hp.dq 2 (by decide), hp.bs 3 (by decide), hp.dq 3 (by decide), hp.bs 4 (by decide), hp.dq 4 (by decide), hp.bs 5 (by decide), hp.dq 5 (by decide), hp.bs 6 (by decide), hp.dq 6 (by decide), hp.bs 7 (by decide), hp.dq 7 (by decide), hp.bs 8 (by decide), hp.dq 8 (by decide), hp.bs 9 (by decide), hp.dq 9 (by decide)])
  · exact ok_repl (wFF w) S (t := fun τ => (τ 25)) (by decide) (by decide) (by simp) (by decide) (by simp) (by simp [flatR, hp.bs 0 (by decide), hp.dq 0 (by decide), hp.bs 1 (by decide), hp.dq 1 (by decide), hp.bs 2 (by decide), hp.dq 2 (by decide), hp.bs 3 (by decide), hp.dq 3 (by decide), hp.bs 4 (by decide), hp.dq 4 (by decide), hp.bs 5 (by decide), hp.dq 5 (by decide), hp.bs 6 (by decide), hp.dq 6 (by decide), hp.bs 7 (by decide), hp.dq 7 (by decide), hp.bs 8 (by decide), hp.dq 8 (by decide), hp.bs 9 (by decide), hp.dq 9 (by decide)])
  · exact ok_repl (wFF w) S (t := fun τ => (τ 39)) (by decide) (by decide) (by simp) (by decide) (by simp) (by simp [flatR, hp.bs 0 (by decide), hp.dq 0 (by decide), hp.bs 1 (by decide), hp.dq 1 (by decide), hp.bs 2 (by decide), hp.dq 2 (by decide), hp.bs 3 (by decide), hp.dq 3 (by decide), hp.bs 4 (by decide), hp.dq 4 (by decide), hp.bs 5 (by decide), hp.dq 5 (by decide), hp.bs 6 (by decide), hp.dq 6 (by decide), hp.bs 7 (by decide), hp.dq 7 (by decide), hp.bs 8 (by decide), hp.dq 8 (by decide), hp.bs 9 (by decide), hp.dq 9 (by decide)])
noncomputable def WR3BT (w : World) (a st : Nat → Nat) (pp : Nat → Pos) (p : Pos) (t tn : Nat) (r : Nat → Nat) (X : List Nat) : Fr :=
  frC (blLaw st pp) (cWR [109, 61, r 0, r 1, r 2, r 3, r 4, r 5, r 6, r 7, r 8, r 9] t 3 tn) p 0 []
    [.use 6 18 fun ρ τ => replUse [109, 61, r 0, r 1, r 2, r 3, r 4, r 5, r 6, r 7, r 8, r 9] t 92 (τ 16) [92, 92] (τ 17) [109, 61, r 0, r 1, r 2, r 3, r 4, r 5, r 6, r 7, r 8, r 9],
     .use 6 21 fun ρ τ => replUse [109, 61, r 0, r 1, r 2, r 3, r 4, r 5, r 6, r 7, r 8, r 9] (τ 18) 34 (τ 19) [92, 34] (τ 20) [109, 61, r 0, r 1, r 2, r 3, r 4, r 5, r 6, r 7, r 8, r 9],
     .use 9 43 fun ρ τ => replUse [109, 61, 34, 109, 61, r 0, r 1, r 2, r 3, r 4, r 5, r 6, r 7, r 8, r 9, 34] (τ 29) 92 (τ 41) [92, 92] (τ 42) [109, 61, 34, 109, 61, r 0, r 1, r 2, r 3, r 4, r 5, r 6, r 7, r 8, r 9, 34],
     .use 9 46 fun ρ τ => replUse [109, 61, 34, 109, 61, r 0, r 1, r 2, r 3, r 4, r 5, r 6, r 7, r 8, r 9, 34] (τ 43) 34 (τ 44) [92, 34] (τ 45) [109, 61, 92, 34, 109, 61, r 0, r 1, r 2, r 3, r 4, r 5, r 6, r 7, r 8, r 9, 92, 34]]
    [] (413) (173879541041863673766789332272348701383925013617840651532494519801144094893384508065133307575065887821204797374102506935096751719537786155422633999867199362769497544531028784009215729896976171947020032539364870987113499245191350156048590339654840420135406191350318380738764656510283352489053747282356643017406222234160618088851312238531812880695595230743950763874103592407770108185646668850078950880031051600999250785669672344988161188321306895414383505567252293161140289387769134469366807864055591511633161319612416) (fun _ τ => .inl (.done (.ret (.str ⟨⟨[109, 61, 34, 109, 61, 92, 34, 109, 61, r 0, r 1, r 2, r 3, r 4, r 5, r 6, r 7, r 8, r 9, 92, 34, 34]⟩⟩ (τ 54))), ⟨790, 11, 790, 15⟩)) (fun _ _ => []) (fun _ _ => [])
theorem WR3BT_n (w : World) (a st : Nat → Nat) (pp : Nat → Pos) (p : Pos) (t tn : Nat) (r : Nat → Nat) (X : List Nat) : (WR3BT (wFT w) a st pp p t tn r X).SpecN (wFT w) a := Fr.specN fun ρ τ => by kernel_rfl

theorem WR3BT_s (w : World) (S : Shared) {ρ st : Nat → Nat} {pp : Nat → Pos} {t tn : Nat} {r : Nat → Nat} (hp : Plain r) : SpecI (WD (wFT w) S) ρ (pureUse (cWR [109, 61, r 0, r 1, r 2, r 3, r 4, r 5, r 6, r 7, r 8, r 9] t 3 tn) (some (blLaw st pp)) [] 1 fun θ => .ok (.ret (.str ⟨⟨[109, 61, 34, 109, 61, 92, 34, 109, 61, r 0, r 1, r 2, r 3, r 4, r 5, r 6, r 7, r 8, r 9, 92, 34, 34]⟩⟩ (θ 0)))) := by
  refine spec_pure fun Γ p h tk R hc' hbl top big pre fin => ?_
  rw [hbl _ rfl]
  refine WR3BT_n w (fun _ => 0) st pp p t tn r [] (given0 top big) ?_ fun τ h' tk' N => fin (nthN [(τ 54)]) h' tk' (fun j hj => nthN_ge _ j hj) N.size N.all
  refine okc ?_ (okc ?_ (okc ?_ (okc ?_ ok0)))
  · exact ok_repl (wFT w) S (t := fun τ => t) (by decide) (by decide) (by simp) (by decide) (by simp) (by simp [flatR, hp.bs 0 (by decide), hp.dq 0 (by decide), hp.bs 1 (by decide), hp.dq 1 (by decide), hp.bs 2 (by decide), hp.dq 2 (by decide), hp.bs 3 (by decide), hp.dq 3 (by decide), hp.bs 4 (by decide), hp.dq 4 (by decide), hp.bs 5 (by decide), hp.dq 5 (by decide), hp.bs 6 (by decide), hp.dq 6 (by decide), hp.bs 7 (by decide), hp.dq 7 (by decide), hp.bs 8 (by decide), hp.dq 8 (by decide), hp.bs 9 (by decide), hp.dq 9 (by decide)])
  · exact ok_repl (wFT w) S (t := fun τ => (τ 18)) (by decide) (by decide) (by simp) (by decide) (by simp) (by simp [flatR, hp.bs 0 (by decide), hp.dq 0 (by decide), hp.bs 1 (by decide), hp.dq 1 (by decide), hp.bs 2 (by decide), hp.dq 2 (by decide), hp.bs 3 (by decide), hp.dq 3 (by decide), hp.bs 4 (by decide), hp.dq 4 (by decide), hp.bs 5 (by decide), hp.dq 5 (by decide), hp.bs 6 (by decide), hp.dq 6 (by decide), hp.bs 7 (by decide), hp.dq 7 (by decide), hp.bs 8 (by decide), hp.dq 8 (by decide), hp.bs 9 (by decide), hp.dq 9 (by decide)])
  · exact ok_repl (wFT w) S (t := fun τ => (τ 29)) (by decide) (by decide) (by simp) (by decide) (by simp) (by simp [flatR, hp.bs 0 (by decide), hp.dq 0 (by decide), hp.bs 1 (by decide), hp.dq 1 (by decide), hp.bs 2 (by decide), hp.dq 2 (by decide), hp.bs 3 (by decide), hp.dq 3 (by decide), hp.bs 4 (by decide), hp.dq 4 (by decide), hp.bs 5 (by decide), hp.dq 5 (by decide), hp.bs 6 (by decide), hp.dq 6 (by decide), hp.bs 7 (by decide), hp.dq 7 (by decide), hp.bs 8 (by decide), hp.dq 8 (by decide), hp.bs 9 (by decide), hp.dq 9 (by decide)])
  · exact ok_repl (wFT w) S (t := fun τ => (τ 43)) (by decide) (by decide) (by simp) (by decide) (by simp) (by simp [flatR, hp.bs 0 (by decide), hp.dq 0 (by decide), hp.bs 1 (by decide), hp.dq 1 (by decide), hp.bs 2 (by decide), hp.dq 2 (by decide), hp.bs 3 (by decide), hp.dq 3 (by decide), hp.bs 4 (by decide), hp.dq 4 (by decide), hp.bs 5 (by decide), hp.dq 5 (by decide), hp.bs 6 (by decide), hp.dq 6 (by decide), hp.bs 7 (by decide), hp.dq 7 (by decide), hp.bs 8 (by decide), hp.dq 8 (by decide), hp.bs 9 (by decide), hp.dq 9 (by decide)])
theorem WR3B_s (w : World) (S : Shared) {ρ st : Nat → Nat} {pp : Nat → Pos} {t tn : Nat} {r : Nat → Nat} (hp : Plain r) : SpecI (WD w S) ρ (pureUse (cWR [109, 61, r 0, r 1, r 2, r 3, r 4, r 5, r 6, r 7, r 8, r 9] t 3 tn) (some (blLaw st pp)) [] 1 fun θ => .ok (.ret (.str ⟨⟨[109, 61, 34, 109, 61, 92, 34, 109, 61, r 0, r 1, r 2, r 3, r 4, r 5, r 6, r 7, r 8, r 9, 92, 34, 34]⟩⟩ (θ 0)))) := by
  cases hb : w.params.followText "fstring-hands-on-the-str" with
  | true =>
    have K := WR3BT_s w S (ρ := ρ) (st := st) (pp := pp) (t := t) (tn := tn) hp
    rwa [wFT_eq hb] at K
  | false =>
    have K := WR3BF_s w S (ρ := ρ) (st := st) (pp := pp) (t := t) (tn := tn) hp
    rwa [wFF_eq hb] at K
noncomputable def WR3CF (w : World) (a st : Nat → Nat) (pp : Nat → Pos) (p : Pos) (t tn : Nat) (r : Nat → Nat) (X : List Nat) : Fr :=
  frC (blLaw st pp) (cWR [109, 61, 34, r 0, r 1, r 2, r 3, r 4, r 5, r 6, r 7, r 8, r 9, 34] t 3 tn) p 0 []
    [.use 6 18 fun ρ τ => replUse [109, 61, 34, r 0, r 1, r 2, r 3, r 4, r 5, r 6, r 7, r 8, r 9, 34] t 92 (τ 16) [92, 92] (τ 17) [109, 61, 34, r 0, r 1, r 2, r 3, r 4, r 5, r 6, r 7, r 8, r 9, 34],
     .use 6 21 fun ρ τ => replUse [109, 61, 34, r 0, r 1, r 2, r 3, r 4, r 5, r 6, r 7, r 8, r 9, 34] (τ 18) 34 (τ 19) [92, 34] (τ 20) [109, 61, 92, 34, r 0, r 1, r 2, r 3, r 4, r 5, r 6, r 7, r 8, r 9, 92, 34],
     .use 9 39 fun ρ τ => replUse [109, 61, 34, 109, 61, 92, 34, r 0, r 1, r 2, r 3, r 4, r 5, r 6, r 7, r 8, r 9, 92, 34, 34] (τ 25) 92 (τ 37) [92, 92] (τ 38) [109, 61, 34, 109, 61, 92, 92, 34, r 0, r 1, r 2, r 3, r 4, r 5, r 6, r 7, r 8, r 9, 92, 92, 34, 34],
     .use 9 42 fun ρ τ => replUse [109, 61, 34, 109, 61, 92, 92, 34, r 0, r 1, r 2, r 3, r 4, r 5, r 6, r 7, r 8, r 9, 92, 92, 34, 34] (τ 39) 34 (τ 40) [92, 34] (τ 41) [109, 61, 92, 34, 109, 61, 92, 92, 92, 34, r 0, r 1, r 2, r 3, r 4, r 5, r 6, r 7, r 8, r 9, 92, 92, 92, 34, 92, 34]]
    [] (405) (173879541041863673766789332272348701383925013617840651532494519801144094893384508065133307575065887821204797374102506935096751719537786155422633999867199362769497544531028784009215729896976171947020032539364870987113499245191350156048590339654840420135406191350318380738764656510283352489053747282356643017406222234160618088851312238531812880695595230743950763874103592407770108185646668850078950880031051600999250785669672344988161188321306895414383505567252293161140289387769134469366807864055591511633161319612416) (fun _ τ => .inl (.done (.ret (.str ⟨⟨[109, 61, 34, 109, 61, 92, 34, 109, 61, 92, 92, 92, 34, r 0, r 1, r 2, r 3, r 4, r 5, r 6, r 7, r 8, r 9, 92, 92, 92, 34, 92, 34, 34]⟩⟩ (τ 46))), ⟨790, 11, 790, 15⟩)) (fun _ _ => []) (fun _ _ => [])
theorem WR3CF_n (w : World) (a st : Nat → Nat) (pp : Nat → Pos) (p : Pos) (t tn : Nat) (r : Nat → Nat) (X : List Nat) : (WR3CF (wFF w) a st pp p t tn r X).SpecN (wFF w) a := Fr.specN fun ρ τ => by kernel_rfl

theorem WR3CF_s (w : World) (S : Shared) {ρ st : Nat → Nat} {pp : Nat → Pos} {t tn : Nat} {r : Nat → Nat} (hp : Plain r) : SpecI (WD (wFF w) S) ρ (pureUse (cWR [109, 61, 34, r 0, r 1, r 2, r 3, r 4, r 5, r 6, r 7, r 8, r 9, 34] t 3 tn) (some (blLaw st pp)) [] 1 fun θ => .ok (.ret (.str ⟨⟨[109, 61, 34, 109, 61, 92, 34, 109, 61, 92, 92, 92, 34, r 0, r 1, r 2, r 3, r 4, r 5, r 6, r 7, r 8, r 9, 92, 92, 92, 34, 92, 34, 34]⟩⟩ (θ 0)))) := by
  refine spec_pure fun Γ p h tk R hc' hbl top big pre fin => ?_
  rw [hbl _ rfl]
  refine WR3CF_n w (fun _ => 0) st pp p t tn r [] (given0 top big) ?_ fun τ h' tk' N => fin (nthN [(τ 46)]) h' tk' (fun j hj => nthN_ge _ j hj) N.size N.all
  refine okc ?_ (okc ?_ (okc ?_ (okc ?_ ok0)))
  · exact ok_repl (wFF w) S (t := fun τ => t) (by decide) (by decide) (by simp) (by decide) (by simp) (by simp [flatR, hp.bs 0 (by decide), hp.dq 0 (by decide), hp.bs 1 (by decide), hp.dq 1 (by decide), hp.bs 2 (by decide), hp.dq 2 (by decide), hp.bs 3 (by decide), hp.dq 3 (by decide), hp.bs 4 (by decide), hp.dq 4 (by decide), hp.bs 5 (by decide), hp.dq 5 (by decide), hp.bs 6 (by decide), hp.dq 6 (by decide), hp.bs 7 (by decide), hp.dq 7 (by decide), hp.bs 8 (by decide), hp.dq 8 (by decide), hp.bs 9 (by decide), hp.dq 9 (by decide)])
  · exact ok_repl (wFF w) S (t := fun τ => (τ 18)) (by decide) (by decide) (by simp) (by decide) (by simp) (by simp [flatR, hp.bs 0 (by decide), hp.dq 0 (by decide), hp.bs 1 (by decide), hp.dq 1 (by decide), hp.bs 2 (by decide), hp.dq 2 (by decide), hp.bs 3 (by decide), hp.dq 3 (by decide), hp.bs 4 (by decide), hp.dq 4 (by decide), hp.bs 5 (by decide), hp.dq 5 (by decide), hp.bs 6 (by decide), hp.dq 6 (by decide), hp.bs 7 (by decide), hp.dq 7 (by decide), hp.bs 8 (by decide), hp.dq 8 (by decide), hp.bs 9 (by decide), hp.dq 9 (by decide)])
  · exact ok_repl (wFF w) S (t := fun τ => (τ 25)) (by decide) (by decide) (by simp) (by decide) (by simp) (by simp [flatR, hp.bs 0 (by decide), hp.dq 0 (by decide), hp.bs 1 (by decide), hp.dq 1 (by decide), hp.bs 2 (by decide), hp.dq 2 (by decide), hp.bs 3 (by decide), hp.dq 3 (by decide), hp.bs 4 (by decide), hp.dq 4 (by decide), hp.bs 5 (by decide), hp.dq 5 (by decide), hp.bs 6 (by decide), hp.dq 6 (by decide), hp.bs 7 (by decide), hp.dq 7 (by decide), hp.bs 8 (by decide), hp.dq 8 (by decide), hp.bs 9 (by decide), hp.dq 9 (by decide)])
  · exact ok_repl (wFF w) S (t := fun τ => (τ 39)) (by decide) (by decide) (by simp) (by decide) (by simp) (by simp [flatR, hp.bs 0 (by decide), hp.dq 0 (by decide), hp.bs 1 (by decide), hp.dq 1 (by decide), hp.bs 2 (by decide), hp.dq 2 (by decide), hp.bs 3 (by decide), hp.dq 3 (by decide), hp.bs 4 (by decide), hp.dq 4 (by decide), hp.bs 5 (by decide), hp.dq 5 (by decide), hp.bs 6 (by decide), hp.dq 6 (by decide), hp.bs 7 (by decide), hp.dq 7 (by decide), hp.bs 8 (by decide), hp.dq 8 (by decide), hp.bs 9 (by decide), hp.dq 9 (by decide)])
noncomputable def WR3CT (w : World) (a st : Nat → Nat) (pp : Nat → Pos) (p : Pos) (t tn : Nat) (r : Nat → Nat) (X : List Nat) : Fr :=
  frC (blLaw st pp) (cWR [109, 61, 34, r 0, r 1, r 2, r 3, r 4, r 5, r 6, r 7, r 8, r 9, 34] t 3 tn) p 0 []
    [.use 6 18 fun ρ τ => replUse [109, 61, 34, r 0, r 1, r 2, r 3, r 4, r 5, r 6, r 7, r 8, r 9, 34] t 92 (τ 16) [92, 92] (τ 17) [109, 61, 34, r 0, r 1, r 2, r 3, r 4, r 5, r 6, r 7, r 8, r 9, 34],
     .use 6 21 fun ρ τ => replUse [109, 61, 34, r 0, r 1, r 2, r 3, r 4, r 5, r 6, r 7, r 8, r 9, 34] (τ 18) 34 (τ 19) [92, 34] (τ 20) [109, 61, 92, 34, r 0, r 1, r 2, r 3, r 4, r 5, r 6, r 7, r 8, r 9, 92, 34],
     .use 9 43 fun ρ τ => replUse [109, 61, 34, 109, 61, 92, 34, r 0, r 1, r 2, r 3, r 4, r 5, r 6, r 7, r 8, r 9, 92, 34, 34] (τ 29) 92 (τ 41) [92, 92] (τ 42) [109, 61, 34, 109, 61, 92, 92, 34, r 0, r 1, r 2, r 3, r 4, r 5, r 6, r 7, r 8, r 9, 92, 92, 34, 34],
     .use 9 46 fun ρ τ => replUse [109, 61, 34, 109, 61, 92, 92, 34, r 0, r 1, r 2, r 3, r 4, r 5, r 6, r 7, r 8, r 9, 92, 92, 34, 34] (τ 43) 34 (τ 44) [92, 34] (τ 45) [109, 61, 92, 34, 109, 61, 92, 92, 92, 34, r 0, r 1, r 2, r 3, r 4, r 5, r 6, r 7, r 8, r 9, 92, 92, 92, 34, 92, 34]]
    [] (413) (173879541041863673766789332272348701383925013617840651532494519801144094893384508065133307575065887821204797374102506935096751719537786155422633999867199362769497544531028784009215729896976171947020032539364870987113499245191350156048590339654840420135406191350318380738764656510283352489053747282356643017406222234160618088851312238531812880695595230743950763874103592407770108185646668850078950880031051600999250785669672344988161188321306895414383505567252293161140289387769134469366807864055591511633161319612416) (fun _ τ => .inl (.done (.ret (.str ⟨⟨[109, 61, 34, 109, 61, 92, 34, 109, 61, 92, 92, 92, 34, r 0, r 1, r 2, r 3, r 4, r 5, r 6, r 7, r 8, r 9, 92, 92, 92, 34, 92, 34, 34]⟩⟩ (τ 54))), ⟨790, 11, 790, 15⟩)) (fun _ _ => []) (fun _ _ => [])
theorem WR3CT_n (w : World) (a st : Nat → Nat) (pp : Nat → Pos) (p : Pos) (t tn : Nat) (r : Nat → Nat) (X : List Nat) : (WR3CT (wFT w) a st pp p t tn r X).SpecN (wFT w) a := Fr.specN fun ρ τ => by kernel_rfl

theorem WR3CT_s (w : World) (S : Shared) {ρ st : Nat → Nat} {pp : Nat → Pos} {t tn : Nat} {r : Nat → Nat} (hp : Plain r) : SpecI (WD (wFT w) S) ρ (pureUse (cWR [109, 61, 34, r 0, r 1, r 2, r 3, r 4, r 5, r 6, r 7, r 8, r 9, 34] t 3 tn) (some (blLaw st pp)) [] 1 fun θ => .ok (.ret (.str ⟨⟨[109, 61, 34, 109, 61, 92, 34, 109, 61, 92, 92, 92, 34, r 0, r 1, r 2, r 3, r 4, r 5, r 6, r 7, r 8, r 9, 92, 92, 92, 34, 92, 34, 34]⟩⟩ (θ 0)))) := by
  refine spec_pure fun Γ p h tk R hc' hbl top big pre fin => ?_
  rw [hbl _ rfl]
  refine WR3CT_n w (fun _ => 0) st pp p t tn r [] (given0 top big) ?_ fun τ h' tk' N => fin (nthN [(τ 54)]) h' tk' (fun j hj => nthN_ge _ j hj) N.size N.all
  refine okc ?_ (okc ?_ (okc ?_ (okc ?_ ok0)))
  · exact ok_repl (wFT w) S (t := fun τ => t) (by decide) (by decide) (by simp) (by decide) (by simp) (by simp [flatR, hp.bs 0 (by decide), hp.dq 0 (by decide), hp.bs 1 (by decide), hp.dq 1 (by decide), hp.bs 2 (by decide), hp.dq 2 (by decide), hp.bs 3 (by decide), hp.dq 3 (by decide), hp.bs 4 (by decide), hp.dq 4 (by decide), hp.bs 5 (by decide), hp.dq 5 (by decide), hp.bs 6 (by decide), hp.dq 6 (by decide), hp.bs 7 (by decide), hp.dq 7 (by decide), hp.bs 8 (by decide), hp.dq 8 (by decide), hp.bs 9 (by decide), hp.dq 9 (by decide)])
  · exact ok_repl (wFT w) S (t := fun τ => (τ 18)) (by decide) (by decide) (by simp) (by decide) (by simp) (by simp [flatR, hp.bs 0 (by decide), hp.dq 0 (by decide), hp.bs 1 (by decide), hp.dq 1 (by decide), hp.bs 2 (by decide), hp.dq 2 (by decide), hp.bs 3 (by decide), hp.dq 3 (by decide), hp.bs 4 (by decide), hp.dq 4 (by decide), hp.bs 5 (by decide), hp.dq 5 (by decide), hp.bs 6 (by decide), hp.dq 6 (by decide), hp.bs 7 (by decide), hp.dq 7 (by decide), hp.bs 8 (by decide), hp.dq 8 (by decide), hp.bs 9 (by decide), hp.dq 9 (by decide)])
  · exact ok_repl (wFT w) S (t := fun τ => (τ 29)) (by decide) (by decide) (by simp) (by decide) (by simp) (by simp [flatR, hp.bs 0 (by decide), hp.dq 0 (by decide), hp.bs 1 (by decide), hp.dq 1 (by decide), hp.bs 2 (by decide), hp.dq 2 (by decide), hp.bs 3 (by decide), hp.dq 3 (by decide), hp.bs 4 (by decide), hp.dq 4 (by decide), hp.bs 5 (by decide), hp.dq 5 (by decide), hp.bs 6 (by decide), hp.dq 6 (by decide), hp.bs 7 (by decide), hp.dq 7 (by decide), hp.bs 8 (by decide), hp.dq 8 (by decide), hp.bs 9 (by decide), hp.dq 9 (by decide)])
  · exact ok_repl (wFT w) S (t := fun τ => (τ 43)) (by decide) (by decide) (by simp) (by decide) (by simp) (by simp [flatR, hp.bs 0 (by decide), hp.dq 0 (by decide), hp.bs 1 (by decide), hp.dq 1 (by decide), hp.bs 2 (by decide), hp.dq 2 (by decide), hp.bs 3 (by decide), hp.dq 3 (by decide), hp.bs 4 (by decide), hp.dq 4 (by decide), hp.bs 5 (by decide), hp.dq 5 (by decide), hp.bs 6 (by decide), hp.dq 6 (by decide), hp.bs 7 (by decide), hp.dq 7 (by decide), hp.bs 8 (by decide), hp.dq 8 (by decide), hp.bs 9 (by decide), hp.dq 9 (by decide)])
theorem WR3C_s (w : World) (S : Shared) {ρ st : Nat → Nat} {pp : Nat → Pos} {t tn : Nat} {r : Nat → Nat} (hp : Plain r) : SpecI (WD w S) ρ (pureUse (cWR [109, 61, 34, r 0, r 1, r 2, r 3, r 4, r 5, r 6, r 7, r 8, r 9, 34] t 3 tn) (some (blLaw st pp)) [] 1 fun θ => .ok (.ret (.str ⟨⟨[109, 61, 34, 109, 61, 92, 34, 109, 61, 92, 92, 92, 34, r 0, r 1, r 2, r 3, r 4, r 5, r 6, r 7, r 8, r 9, 92, 92, 92, 34, 92, 34, 34]⟩⟩ (θ 0)))) := by
  cases hb : w.params.followText "fstring-hands-on-the-str" with
  | true =>
    have K := WR3CT_s w S (ρ := ρ) (st := st) (pp := pp) (t := t) (tn := tn) hp
    rwa [wFT_eq hb] at K
  | false =>
    have K := WR3CF_s w S (ρ := ρ) (st := st) (pp := pp) (t := t) (tn := tn) hp
    rwa [wFF_eq hb] at K
end Mine
end
section -- Sr
open PySem PySem.W PyProof.Rows PySem.Calls
set_option Elab.async false
set_option linter.unusedVariables false
set_option linter.unusedSimpArgs false
set_option maxRecDepth 100000
set_option maxHeartbeats 0
namespace Mine
open Builtin.Re
/-- the signs of a row that are no marks of a parameter -/
noncomputable def SafeC (c : Nat) : Prop := c = 45 ∨ c = 114 ∨ c = 119 ∨ c = 120 ∨ c = 115 ∨ c = 83 ∨ c = 116 ∨ c = 84 ∨ c = 112 ∨ c = 99 ∨ c = 100 ∨ c = 98 ∨ c = 108
noncomputable def Safe (r : Nat → Nat) : Prop := ∀ i, i < 10 → SafeC (r i)
noncomputable def CODE : Array Nat := ⟨[14, 14, 4, 1, 1, 9, 0, 4227896069, 939524097, 0, 0, 0, 0, 0, 0, 13, 11, 9, 0, 4227896069, 939524097, 0, 0, 0, 0, 0, 0, 1]⟩
theorem inSet_safe {c : Nat} (h : SafeC c) (seen : Sre.Seen) : Sre.inSet CODE c 28 5 true seen = .ok (false, (seen.add 9).add 0) := by
  rcases h with rfl | rfl | rfl | rfl | rfl | rfl | rfl | rfl | rfl | rfl | rfl | rfl | rfl <;> rfl
theorem admitted_none (m : Sre.M) (hc : m.code = CODE) (hs : ∀ i, i < m.lim → SafeC (m.text.getD i 0)) : ∀ (n s : Nat) (seen : Sre.Seen), ∃ seen', Sre.M.admitted m n s seen = .ok (none, seen')
  | 0, s, seen => ⟨seen, rfl⟩
  | n + 1, s, seen => by
    unfold Sre.M.admitted
    by_cases h : s ≥ m.lim
    · rw [if_pos h]; exact ⟨_, rfl⟩
    · rw [if_neg h, hc]
      have : Sre.inSet CODE (m.text.getD s 0) CODE.size 5 true seen = _ := inSet_safe (hs s (by omega)) seen
      rw [this]
      exact admitted_none m hc hs n (s + 1) _
theorem wp_rules {M : Model} {Γ : Ctx} {Q : PUnit → Pos → Shared → Prop} {E : Value → Pos → Shared → Prop} {p : Pos} {s : Shared} (f : Nat → Bool) (g : Nat → String) : ∀ l : List Nat, Q ⟨⟩ p s →
    Sem.wp M Γ (forIn l PUnit.unit fun i r => do
      if f i then do rule (g i); pure (ForInStep.yield PUnit.unit) else pure (ForInStep.yield PUnit.unit)) Q E p s
  | [], h => by simpa using h
  | i :: l, h => by
    rw [List.forIn_cons, Sem.wp_bind']
    cases f i with
    | true => exact wp_rules f g l h
    | false => exact wp_rules f g l h
noncomputable def srchT (X : List Nat) (t : Nat) (code : Array Int) : ReTarget := { pattern := .ref 49, string := .str ⟨⟨X⟩⟩ t, code := code.map (·.toNat), text := ⟨X⟩, kind := 0, groups := 0, pos := 0, lim := 10 }
noncomputable def srch0 (X : List Nat) (t : Nat) : Sem PySem.Fin :=
  (reRawItems (.ref 48) >>= fun code => pure (srchT X t code)) >>= fun t => reAnswer t (Sre.forSearch t.code t.text t.groups t.pos t.lim false)
theorem reAnswer_none {M : Model} {Γ : Ctx} {Q : PySem.Fin → Pos → Shared → Prop} {E : Value → Pos → Shared → Prop} {p : Pos} {s : Shared} {t : ReTarget} {m : Sre.M} (hf : m.frames = []) (ha : m.answer = some false) (ho : m.outcome = none) (h : Q (.done (.ret .none)) p s) :
    Sem.wp M Γ (reAnswer t m) Q E p s := by
  have e1 : m.runFor reTurnSteps = { m with outcome := some .failed } := by
    obtain ⟨_, _, _, _, _, _, _, _, _, _, _, _, _, _, _, _, fr, _, an, _, oc⟩ := m
    cases hf; cases ha; cases ho
    rfl
  have e2 : reDrive (2 ^ 64) m = pure { m with outcome := some .failed } := by
    rw [show (2 : Nat) ^ 64 = (2 ^ 64 - 1) + 1 from rfl]
    unfold reDrive
    simp only [e1]
    rfl
  unfold reAnswer reRunToEnd
  simp only [Sem.wp_bind', e2, Sem.wp_pure']
  refine wp_rules (fun i => m.seen.has i) (fun i => Sre.names.getD i "") _ ?_
  exact h
theorem attempt_none (m : Sre.M) (hc : m.code = CODE) (hs : ∀ i, i < m.lim → SafeC (m.text.getD i 0)) (hf : m.frames = []) (ho : m.outcome = none) : ((m.attemptFrom 0 true).frames = [] ∧ (m.attemptFrom 0 true).answer = some false) ∧ (m.attemptFrom 0 true).outcome = none := by
  have h1 : m.hasFirstSet = true := by unfold Sre.M.hasFirstSet; rw [hc]; rfl
  obtain ⟨seen', e⟩ := admitted_none m hc hs (m.lim + 1 - 0) 0 m.seen
  have e2 : m.attemptFrom 0 true = { m with seen := seen' }.say false := by
    unfold Sre.M.attemptFrom
    rw [h1, e]
    rfl
  rw [e2]
  exact ⟨⟨hf, rfl⟩, ho⟩
noncomputable def swR0 (X : List Nat) (t : Nat) : Swap := ⟨none, [], srch0 X t, ret .none⟩
theorem swR0_r : @swR0 = @swR0 := rfl
lay_quick Mine.swR0
name_quick swRq for Mine.swR0 by Mine.swR0_r
noncomputable abbrev swR (X : List Nat) (t : Nat) : Swap := PySem.W.Fast.swRq X t
theorem swR_ok {W : Wd} {ρ' : Nat → Nat} {X : List Nat} {t : Nat} (h : SwapI W ρ' (swR0 X t)) : SwapI W ρ' (swR X t) := by
  rw [PySem.W.Fast.swRq_eq] at h
  exact h

theorem swap_srch {w : World} {S : Shared} {ρ r : Nat → Nat} {t : Nat} (hs : Safe r) : SwapI (WD w S) ρ (swR0 (ten r) t) := by
  intro Γ p h tk Q E top pre _ H
  have h48 : ((WD w S).sh h tk).heap.get? 48 = some (o48 w.params) := top 48 _ rfl
  show Sem.wp (WD w S).M Γ (srch0 (ten r) t) Q E p ((WD w S).sh h tk)
  unfold srch0 reRawItems seqItems?
  simp only [Sem.wp_bind', Sem.wp_pure']
  rw [Sem.wp_load_of _ _ _ _ _ h48]
  have hd : (o48 w.params).data = .seq ⟨[.int 14 0, .int 14 0, .int 4 0, .int 1 0, .int 1 0, .int 9 0, .int 0 0, .int 4227896069 0, .int 939524097 0, .int 0 0, .int 0 0, .int 0 0, .int 0 0, .int 0 0, .int 0 0, .int 13 0, .int 11 0, .int 9 0, .int 0 0, .int 4227896069 0, .int 939524097 0, .int 0 0, .int 0 0, .int 0 0, .int 0 0, .int 0 0, .int 0 0, .int 1 0]⟩ 0 := rfl
  rw [hd]
  simp only [Sem.wp_pure']
  have hcode : (srchT (ten r) t ((Option.getD (some (⟨[.int 14 0, .int 14 0, .int 4 0, .int 1 0, .int 1 0, .int 9 0, .int 0 0, .int 4227896069 0, .int 939524097 0, .int 0 0, .int 0 0, .int 0 0, .int 0 0, .int 0 0, .int 0 0, .int 13 0, .int 11 0, .int 9 0, .int 0 0, .int 4227896069 0, .int 939524097 0, .int 0 0, .int 0 0, .int 0 0, .int 0 0, .int 0 0, .int 0 0, .int 1 0]⟩ : Array Value)) #[]).map reRawOf)).code = CODE := by
    simp [srchT, reRawOf, CODE]
  show Sem.wp _ Γ (reAnswer _ (Sre.forSearch (srchT (ten r) t _).code ⟨ten r⟩ 0 0 10 false)) Q E p _
  rw [hcode]
  obtain ⟨m, e1, e2, e3⟩ : ∃ m : Sre.M, Sre.forSearch CODE ⟨ten r⟩ 0 0 10 false = m ∧ (m.frames = [] ∧ m.answer = some false) ∧ m.outcome = none := by
    have e : Sre.forSearch CODE ⟨ten r⟩ 0 0 10 false = Sre.M.attemptFrom { code := CODE, text := ⟨ten r⟩, lim := 10, start := 0, lastStart := 10, pc := 15, pos := 0, handed := 0, marks := Array.replicate (2 * 0) none, seen := ({} : Sre.Seen).add 14 } 0 true := rfl
    refine ⟨_, e, ?_⟩
    refine attempt_none _ rfl (fun i hi => ?_) rfl rfl
    have hi' : i < 10 := hi
    match i, hi' with
    | 0, _ => exact hs 0 (by decide)
    | 1, _ => exact hs 1 (by decide)
    | 2, _ => exact hs 2 (by decide)
    | 3, _ => exact hs 3 (by decide)
    | 4, _ => exact hs 4 (by decide)
    | 5, _ => exact hs 5 (by decide)
    | 6, _ => exact hs 6 (by decide)
    | 7, _ => exact hs 7 (by decide)
    | 8, _ => exact hs 8 (by decide)
    | 9, _ => exact hs 9 (by decide)
  rw [e1]
  exact reAnswer_none e2.1 e2.2 e3 H
noncomputable def SRN (w : World) (a : Nat → Nat) (Γ : Ctx) (p : Pos) (t : Nat) (r : Nat → Nat) : Fr :=
  frF Γ (.call (.builtin "re.Pattern.search") ⟨[.ref 49, .str ⟨⟨ten r⟩⟩ t], []⟩) p 0 []
    [.swap 0 0 fun ρ τ => swR (ten r) t]
    [] (9) (2097152) (fun _ _ => .inl (.done (.ret .none), p)) (fun _ _ => []) (fun _ _ => [])
theorem SRN_n (w : World) (a : Nat → Nat) (Γ : Ctx) (p : Pos) (t : Nat) (r : Nat → Nat) : (SRN w a Γ p t r).SpecN w a := Fr.specN fun ρ τ => by kernel_rfl

noncomputable def srchUse (X : List Nat) (t : Nat) : Use := pureUse (.call (.builtin "re.Pattern.search") ⟨[.ref 49, .str ⟨⟨X⟩⟩ t], []⟩) none [] 0 fun _ => .ok (.ret .none)
theorem srch_none (w : World) (S : Shared) {ρ r : Nat → Nat} {t : Nat} (hs : Safe r) : SpecI (WD w S) ρ (srchUse (ten r) t) := by
  refine spec_pure fun Γ p h tk R hc' hbl top big pre fin => ?_
  have e : Γ = Γ.goto (.call (.builtin "re.Pattern.search") ⟨[.ref 49, .str ⟨⟨ten r⟩⟩ t], []⟩) := by obtain ⟨c, _, _, _, _⟩ := Γ; cases hc'; rfl
  rw [e]
  refine SRN_n w (fun _ => 0) Γ p t r (given0 top big) ?_ fun τ h' tk' N => fin (fun _ => 0) h' tk' (fun j hj => rfl) N.size N.all
  refine okc ?_ ok0
  exact fun ρ τ => swR_ok (swap_srch hs)
end Mine
end
section -- Fp3
open PySem PySem.W PyProof.Rows PySem.Calls
set_option Elab.async false
set_option linter.unusedVariables false
set_option linter.unusedSimpArgs false
set_option maxRecDepth 100000
set_option maxHeartbeats 0
namespace Mine
noncomputable def FP3F (w : World) (a st : Nat → Nat) (pp : Nat → Pos) (p : Pos) (tm t tq : Nat) (r : Nat → Nat) : Fr :=
  frC (blLaw st pp) (cFP0 [r 0, r 1, r 2, r 3, r 4, r 5, r 6, r 7, r 8, r 9] tm t tq) p 0 []
    [.use 1 6 fun ρ τ => srchUse [r 0, r 1, r 2, r 3, r 4, r 5, r 6, r 7, r 8, r 9] t]
    [] (84) (6561752180464128116018919910482656982595054623626056271012222050964186619610453643719004903698333696) (fun _ τ => .inl (.done (.ret (.str ⟨⟨[109, 61, r 0, r 1, r 2, r 3, r 4, r 5, r 6, r 7, r 8, r 9]⟩⟩ (τ 7))), ⟨14, 37, 14, 42⟩)) (fun _ _ => []) (fun _ _ => [])
theorem FP3F_n (w : World) (a st : Nat → Nat) (pp : Nat → Pos) (p : Pos) (tm t tq : Nat) (r : Nat → Nat) : (FP3F (wFF w) a st pp p tm t tq r).SpecN (wFF w) a := Fr.specN fun ρ τ => by kernel_rfl

theorem FP3F_s (w : World) (S : Shared) {ρ st : Nat → Nat} {pp : Nat → Pos} {tm t tq : Nat} {r : Nat → Nat} (hp : Plain r) (hs : Safe r) : SpecI (WD (wFF w) S) ρ (pureUse (cFP0 [r 0, r 1, r 2, r 3, r 4, r 5, r 6, r 7, r 8, r 9] tm t tq) (some (blLaw st pp)) [] 1 fun θ => .ok (.ret (.str ⟨⟨[109, 61, r 0, r 1, r 2, r 3, r 4, r 5, r 6, r 7, r 8, r 9]⟩⟩ (θ 0)))) := by
  refine spec_pure fun Γ p h tk R hc' hbl top big pre fin => ?_
  rw [hbl _ rfl]
  refine FP3F_n w (fun _ => 0) st pp p tm t tq r (given0 top big) ?_ fun τ h' tk' N => fin (nthN [(τ 7)]) h' tk' (fun j hj => nthN_ge _ j hj) N.size N.all
  refine okc ?_ ok0
  exact ok_pure fun ρ τ => srch_none (wFF w) S hs
noncomputable def FP3T (w : World) (a st : Nat → Nat) (pp : Nat → Pos) (p : Pos) (tm t tq : Nat) (r : Nat → Nat) : Fr :=
  frC (blLaw st pp) (cFP0 [r 0, r 1, r 2, r 3, r 4, r 5, r 6, r 7, r 8, r 9] tm t tq) p 0 []
    [.use 1 6 fun ρ τ => srchUse [r 0, r 1, r 2, r 3, r 4, r 5, r 6, r 7, r 8, r 9] t]
    [] (88) (6561752180464128116018919910482656982595054623626056271012222050964186619610453643719004903698333696) (fun _ τ => .inl (.done (.ret (.str ⟨⟨[109, 61, r 0, r 1, r 2, r 3, r 4, r 5, r 6, r 7, r 8, r 9]⟩⟩ (τ 11))), ⟨14, 37, 14, 42⟩)) (fun _ _ => []) (fun _ _ => [])
theorem FP3T_n (w : World) (a st : Nat → Nat) (pp : Nat → Pos) (p : Pos) (tm t tq : Nat) (r : Nat → Nat) : (FP3T (wFT w) a st pp p tm t tq r).SpecN (wFT w) a := Fr.specN fun ρ τ => by kernel_rfl

theorem FP3T_s (w : World) (S : Shared) {ρ st : Nat → Nat} {pp : Nat → Pos} {tm t tq : Nat} {r : Nat → Nat} (hp : Plain r) (hs : Safe r) : SpecI (WD (wFT w) S) ρ (pureUse (cFP0 [r 0, r 1, r 2, r 3, r 4, r 5, r 6, r 7, r 8, r 9] tm t tq) (some (blLaw st pp)) [] 1 fun θ => .ok (.ret (.str ⟨⟨[109, 61, r 0, r 1, r 2, r 3, r 4, r 5, r 6, r 7, r 8, r 9]⟩⟩ (θ 0)))) := by
  refine spec_pure fun Γ p h tk R hc' hbl top big pre fin => ?_
  rw [hbl _ rfl]
  refine FP3T_n w (fun _ => 0) st pp p tm t tq r (given0 top big) ?_ fun τ h' tk' N => fin (nthN [(τ 11)]) h' tk' (fun j hj => nthN_ge _ j hj) N.size N.all
  refine okc ?_ ok0
  exact ok_pure fun ρ τ => srch_none (wFT w) S hs
theorem FP3_s (w : World) (S : Shared) {ρ st : Nat → Nat} {pp : Nat → Pos} {tm t tq : Nat} {r : Nat → Nat} (hp : Plain r) (hs : Safe r) : SpecI (WD w S) ρ (pureUse (cFP0 [r 0, r 1, r 2, r 3, r 4, r 5, r 6, r 7, r 8, r 9] tm t tq) (some (blLaw st pp)) [] 1 fun θ => .ok (.ret (.str ⟨⟨[109, 61, r 0, r 1, r 2, r 3, r 4, r 5, r 6, r 7, r 8, r 9]⟩⟩ (θ 0)))) := by
  cases hb : w.params.followText "fstring-hands-on-the-str" with
  | true =>
    have K := FP3T_s w S (ρ := ρ) (st := st) (pp := pp) (tm := tm) (t := t) (tq := tq) hp hs
    rwa [wFT_eq hb] at K
  | false =>
    have K := FP3F_s w S (ρ := ρ) (st := st) (pp := pp) (tm := tm) (t := t) (tq := tq) hp hs
    rwa [wFF_eq hb] at K
end Mine
end
section -- Tx
open PySem PySem.W PyProof.Rows PySem.Calls
set_option Elab.async false
set_option linter.unusedVariables false
set_option maxRecDepth 100000
set_option maxHeartbeats 0
namespace Mine
noncomputable def wCT (w : World) : World := w.withFollow "comprehension-iter-twice" true
noncomputable def wCF (w : World) : World := w.withFollow "comprehension-iter-twice" false
theorem wCT_eq {w : World} (h : w.params.followText "comprehension-iter-twice" = true) : wCT w = w := by
  have e := World.withFollow_self w "comprehension-iter-twice"
  rwa [h] at e
theorem wCF_eq {w : World} (h : w.params.followText "comprehension-iter-twice" = false) : wCF w = w := by
  have e := World.withFollow_self w "comprehension-iter-twice"
  rwa [h] at e
noncomputable def cTX (n m k : Int) (X : List Nat) (t0 t1 t2 t3 : Nat) : Code := .call (.ref 803) ⟨[.int n t0, .int m t1, .int k t2, .str ⟨⟨X⟩⟩ t3], []⟩
noncomputable def TX10F (w : World) (a st : Nat → Nat) (pp : Nat → Pos) (p : Pos) (t0 t1 t2 t3 : Nat) (r : Nat → Nat) : Fr :=
  frC (blLaw st pp) (cTX 0 1 0 (ten r) t0 t1 t2 t3) p 0 []
    []
    [] (305) (435283080673752576810180996473966951207203314846847950023679350043800135855581179462066355657778269010514453485416575943588482890565636543615544832429176345206664674103732032627527119575254914700210133975619991774255943838863922092675363001976193173422719980216121662518736783267094456463613181694703692149195742943605284738994361778964934902937828648565576202464053470480743856037104711321476136960) (fun _ τ => .inl (.done (.ret (.str ⟨⟨[109, 61, r 0, r 1, r 2, r 3, r 4, r 5, r 6, r 7, r 8, r 9]⟩⟩ (τ 12))), ⟨783, 11, 783, 78⟩)) (fun _ _ => []) (fun _ _ => [])
theorem TX10F_n (w : World) (a st : Nat → Nat) (pp : Nat → Pos) (p : Pos) (t0 t1 t2 t3 : Nat) (r : Nat → Nat) : (TX10F (wCF w) a st pp p t0 t1 t2 t3 r).SpecN (wCF w) a := Fr.specN fun ρ τ => by kernel_rfl

theorem TX10F_s (w : World) (S : Shared) {ρ st : Nat → Nat} {pp : Nat → Pos} {t0 t1 t2 t3 : Nat} {r : Nat → Nat} : SpecI (WD (wCF w) S) ρ (pureUse (cTX 0 1 0 (ten r) t0 t1 t2 t3) (some (blLaw st pp)) [] 1 fun θ => .ok (.ret (.str ⟨⟨[109, 61, r 0, r 1, r 2, r 3, r 4, r 5, r 6, r 7, r 8, r 9]⟩⟩ (θ 0)))) := by
  refine spec_pure fun Γ p h tk R hc' hbl top big pre fin => ?_
  rw [hbl _ rfl]
  exact TX10F_n w (fun _ => 0) st pp p t0 t1 t2 t3 r (given0 top big) (fun _ z => nomatch z) fun τ h' tk' N => fin (nthN [(τ 12)]) h' tk' (fun j hj => nthN_ge _ j hj) N.size N.all
noncomputable def TX10T (w : World) (a st : Nat → Nat) (pp : Nat → Pos) (p : Pos) (t0 t1 t2 t3 : Nat) (r : Nat → Nat) : Fr :=
  frC (blLaw st pp) (cTX 0 1 0 (ten r) t0 t1 t2 t3) p 0 []
    []
    [] (275) (284035463116459989122699222783235931105495631554148353891518708790921703787871371121773059042121351787235008754368834596410515727014574724312499844267406492553508868008923580599513465296272562954873732523467092171723897730219547428365915093143938263607316396499061821412410623828071040476415752681944815384724671149559895043033045669358193344512) (fun _ τ => .inl (.done (.ret (.str ⟨⟨[109, 61, r 0, r 1, r 2, r 3, r 4, r 5, r 6, r 7, r 8, r 9]⟩⟩ (τ 12))), ⟨783, 11, 783, 78⟩)) (fun _ _ => []) (fun _ _ => [])
theorem TX10T_n (w : World) (a st : Nat → Nat) (pp : Nat → Pos) (p : Pos) (t0 t1 t2 t3 : Nat) (r : Nat → Nat) : (TX10T (wCT w) a st pp p t0 t1 t2 t3 r).SpecN (wCT w) a := Fr.specN fun ρ τ => by kernel_rfl

theorem TX10T_s (w : World) (S : Shared) {ρ st : Nat → Nat} {pp : Nat → Pos} {t0 t1 t2 t3 : Nat} {r : Nat → Nat} : SpecI (WD (wCT w) S) ρ (pureUse (cTX 0 1 0 (ten r) t0 t1 t2 t3) (some (blLaw st pp)) [] 1 fun θ => .ok (.ret (.str ⟨⟨[109, 61, r 0, r 1, r 2, r 3, r 4, r 5, r 6, r 7, r 8, r 9]⟩⟩ (θ 0)))) := by
  refine spec_pure fun Γ p h tk R hc' hbl top big pre fin => ?_
  rw [hbl _ rfl]
  exact TX10T_n w (fun _ => 0) st pp p t0 t1 t2 t3 r (given0 top big) (fun _ z => nomatch z) fun τ h' tk' N => fin (nthN [(τ 12)]) h' tk' (fun j hj => nthN_ge _ j hj) N.size N.all
theorem TX10_s (w : World) (S : Shared) {ρ st : Nat → Nat} {pp : Nat → Pos} {t0 t1 t2 t3 : Nat} {r : Nat → Nat} : SpecI (WD w S) ρ (pureUse (cTX 0 1 0 (ten r) t0 t1 t2 t3) (some (blLaw st pp)) [] 1 fun θ => .ok (.ret (.str ⟨⟨[109, 61, r 0, r 1, r 2, r 3, r 4, r 5, r 6, r 7, r 8, r 9]⟩⟩ (θ 0)))) := by
  cases hb : w.params.followText "comprehension-iter-twice" with
  | true =>
    have K := TX10T_s w S (ρ := ρ) (st := st) (pp := pp) (t0 := t0) (t1 := t1) (t2 := t2) (t3 := t3) (r := r)
    rwa [wCT_eq hb] at K
  | false =>
    have K := TX10F_s w S (ρ := ρ) (st := st) (pp := pp) (t0 := t0) (t1 := t1) (t2 := t2) (t3 := t3) (r := r)
    rwa [wCF_eq hb] at K
noncomputable def TX11F (w : World) (a st : Nat → Nat) (pp : Nat → Pos) (p : Pos) (t0 t1 t2 t3 : Nat) (r : Nat → Nat) : Fr :=
  frC (blLaw st pp) (cTX 0 1 1 (ten r) t0 t1 t2 t3) p 0 []
    []
    [] (470) (2703139432073301463749946294265838649135157772416527256923127480478521003193804014493496075088419114730425553686867604993431913359123399722672633987332319865640684999292419162244982453323965200312015111437637695370954717826402552984187037000851214615515090660476831888177734414076604478321989341201037037467338969943812697876912782752449430842560952394170442752016271505768525597319887888171001292833036138456557953858346474578249960321649966832007895266905311474830635426330779329645594180807994394939153444881842299569365703650904669702620066339767716974616875818857860962856654964737752736372534229343540455511221367103700336640) (fun _ τ => .inl (.done (.ret (.str ⟨⟨[109, 61, 34, r 0, r 1, r 2, r 3, r 4, r 5, r 6, r 7, r 8, r 9, 34]⟩⟩ (τ 33))), ⟨783, 11, 783, 78⟩)) (fun _ _ => []) (fun _ _ => [])
theorem TX11F_n (w : World) (a st : Nat → Nat) (pp : Nat → Pos) (p : Pos) (t0 t1 t2 t3 : Nat) (r : Nat → Nat) : (TX11F (wCF w) a st pp p t0 t1 t2 t3 r).SpecN (wCF w) a := Fr.specN fun ρ τ => by kernel_rfl

theorem TX11F_s (w : World) (S : Shared) {ρ st : Nat → Nat} {pp : Nat → Pos} {t0 t1 t2 t3 : Nat} {r : Nat → Nat} : SpecI (WD (wCF w) S) ρ (pureUse (cTX 0 1 1 (ten r) t0 t1 t2 t3) (some (blLaw st pp)) [] 1 fun θ => .ok (.ret (.str ⟨⟨[109, 61, 34, r 0, r 1, r 2, r 3, r 4, r 5, r 6, r 7, r 8, r 9, 34]⟩⟩ (θ 0)))) := by
  refine spec_pure fun Γ p h tk R hc' hbl top big pre fin => ?_
  rw [hbl _ rfl]
  exact TX11F_n w (fun _ => 0) st pp p t0 t1 t2 t3 r (given0 top big) (fun _ z => nomatch z) fun τ h' tk' N => fin (nthN [(τ 33)]) h' tk' (fun j hj => nthN_ge _ j hj) N.size N.all
noncomputable def TX11T (w : World) (a st : Nat → Nat) (pp : Nat → Pos) (p : Pos) (t0 t1 t2 t3 : Nat) (r : Nat → Nat) : Fr :=
  frC (blLaw st pp) (cTX 0 1 1 (ten r) t0 t1 t2 t3) p 0 []
    []
    [] (440) (1763880781373090813488808968142975022861064648175251796164648287494751010721735715127754986481775769741628960629135144474118872905919083438404768533174884657428795257958875952987577285846888274289721867629129080969895002252998593995282392863579775123708962204275105525596830257658463252177599793888432059547896437562465388430583511130638559736240506061333889148048893728460707109387778178923045572589257078251966387977348093832806398210944345167829877278841417368454508006809398150648053261943907182742453322131490302699632292266375861920827900393626529487300530321537097531392) (fun _ τ => .inl (.done (.ret (.str ⟨⟨[109, 61, 34, r 0, r 1, r 2, r 3, r 4, r 5, r 6, r 7, r 8, r 9, 34]⟩⟩ (τ 33))), ⟨783, 11, 783, 78⟩)) (fun _ _ => []) (fun _ _ => [])
theorem TX11T_n (w : World) (a st : Nat → Nat) (pp : Nat → Pos) (p : Pos) (t0 t1 t2 t3 : Nat) (r : Nat → Nat) : (TX11T (wCT w) a st pp p t0 t1 t2 t3 r).SpecN (wCT w) a := Fr.specN fun ρ τ => by kernel_rfl

theorem TX11T_s (w : World) (S : Shared) {ρ st : Nat → Nat} {pp : Nat → Pos} {t0 t1 t2 t3 : Nat} {r : Nat → Nat} : SpecI (WD (wCT w) S) ρ (pureUse (cTX 0 1 1 (ten r) t0 t1 t2 t3) (some (blLaw st pp)) [] 1 fun θ => .ok (.ret (.str ⟨⟨[109, 61, 34, r 0, r 1, r 2, r 3, r 4, r 5, r 6, r 7, r 8, r 9, 34]⟩⟩ (θ 0)))) := by
  refine spec_pure fun Γ p h tk R hc' hbl top big pre fin => ?_
  rw [hbl _ rfl]
  exact TX11T_n w (fun _ => 0) st pp p t0 t1 t2 t3 r (given0 top big) (fun _ z => nomatch z) fun τ h' tk' N => fin (nthN [(τ 33)]) h' tk' (fun j hj => nthN_ge _ j hj) N.size N.all
theorem TX11_s (w : World) (S : Shared) {ρ st : Nat → Nat} {pp : Nat → Pos} {t0 t1 t2 t3 : Nat} {r : Nat → Nat} : SpecI (WD w S) ρ (pureUse (cTX 0 1 1 (ten r) t0 t1 t2 t3) (some (blLaw st pp)) [] 1 fun θ => .ok (.ret (.str ⟨⟨[109, 61, 34, r 0, r 1, r 2, r 3, r 4, r 5, r 6, r 7, r 8, r 9, 34]⟩⟩ (θ 0)))) := by
  cases hb : w.params.followText "comprehension-iter-twice" with
  | true =>
    have K := TX11T_s w S (ρ := ρ) (st := st) (pp := pp) (t0 := t0) (t1 := t1) (t2 := t2) (t3 := t3) (r := r)
    rwa [wCT_eq hb] at K
  | false =>
    have K := TX11F_s w S (ρ := ρ) (st := st) (pp := pp) (t0 := t0) (t1 := t1) (t2 := t2) (t3 := t3) (r := r)
    rwa [wCF_eq hb] at K
noncomputable def TX21F (w : World) (a st : Nat → Nat) (pp : Nat → Pos) (p : Pos) (t0 t1 t2 t3 : Nat) (r : Nat → Nat) : Fr :=
  frC (blLaw st pp) (cTX 0 2 1 (ten r) t0 t1 t2 t3) p 0 []
    []
    [] (469) (2703139432073301463749946294265838649135157772416527256923127480478521003193804014493496075088419114730425553686867604993431913359123399722672633987332319865640684999292419162244982453323965200312015111437637695370954717826402552984187037000851214615515090660476831888177734414076604478321989341201037037467338969943812697876912782752449430842560952394170442752016271505768525597319887888171001292833036138456557953858346474578249960321649966832007895266905311474830635426330779329645594180807994394939153444881842299569365703650904669702620066339767716974616875818857860962856654964737752736372534229343540455511221367103700336640) (fun _ τ => .inl (.done (.ret (.str ⟨⟨[109, 61, 34, 109, 61, r 0, r 1, r 2, r 3, r 4, r 5, r 6, r 7, r 8, r 9, 34]⟩⟩ (τ 33))), ⟨783, 11, 783, 78⟩)) (fun _ _ => []) (fun _ _ => [])
theorem TX21F_n (w : World) (a st : Nat → Nat) (pp : Nat → Pos) (p : Pos) (t0 t1 t2 t3 : Nat) (r : Nat → Nat) : (TX21F (wCF w) a st pp p t0 t1 t2 t3 r).SpecN (wCF w) a := Fr.specN fun ρ τ => by kernel_rfl

theorem TX21F_s (w : World) (S : Shared) {ρ st : Nat → Nat} {pp : Nat → Pos} {t0 t1 t2 t3 : Nat} {r : Nat → Nat} : SpecI (WD (wCF w) S) ρ (pureUse (cTX 0 2 1 (ten r) t0 t1 t2 t3) (some (blLaw st pp)) [] 1 fun θ => .ok (.ret (.str ⟨⟨[109, 61, 34, 109, 61, r 0, r 1, r 2, r 3, r 4, r 5, r 6, r 7, r 8, r 9, 34]⟩⟩ (θ 0)))) := by
  refine spec_pure fun Γ p h tk R hc' hbl top big pre fin => ?_
  rw [hbl _ rfl]
  exact TX21F_n w (fun _ => 0) st pp p t0 t1 t2 t3 r (given0 top big) (fun _ z => nomatch z) fun τ h' tk' N => fin (nthN [(τ 33)]) h' tk' (fun j hj => nthN_ge _ j hj) N.size N.all
noncomputable def TX21T (w : World) (a st : Nat → Nat) (pp : Nat → Pos) (p : Pos) (t0 t1 t2 t3 : Nat) (r : Nat → Nat) : Fr :=
  frC (blLaw st pp) (cTX 0 2 1 (ten r) t0 t1 t2 t3) p 0 []
    []
    [] (439) (1763880781373090813488808968142975022861064648175251796164648287494751010721735715127754986481775769741628960629135144474118872905919083438404768533174884657428795257958875952987577285846888274289721867629129080969895002252998593995282392863579775123708962204275105525596830257658463252177599793888432059547896437562465388430583511130638559736240506061333889148048893728460707109387778178923045572589257078251966387977348093832806398210944345167829877278841417368454508006809398150648053261943907182742453322131490302699632292266375861920827900393626529487300530321537097531392) (fun _ τ => .inl (.done (.ret (.str ⟨⟨[109, 61, 34, 109, 61, r 0, r 1, r 2, r 3, r 4, r 5, r 6, r 7, r 8, r 9, 34]⟩⟩ (τ 33))), ⟨783, 11, 783, 78⟩)) (fun _ _ => []) (fun _ _ => [])
theorem TX21T_n (w : World) (a st : Nat → Nat) (pp : Nat → Pos) (p : Pos) (t0 t1 t2 t3 : Nat) (r : Nat → Nat) : (TX21T (wCT w) a st pp p t0 t1 t2 t3 r).SpecN (wCT w) a := Fr.specN fun ρ τ => by kernel_rfl

theorem TX21T_s (w : World) (S : Shared) {ρ st : Nat → Nat} {pp : Nat → Pos} {t0 t1 t2 t3 : Nat} {r : Nat → Nat} : SpecI (WD (wCT w) S) ρ (pureUse (cTX 0 2 1 (ten r) t0 t1 t2 t3) (some (blLaw st pp)) [] 1 fun θ => .ok (.ret (.str ⟨⟨[109, 61, 34, 109, 61, r 0, r 1, r 2, r 3, r 4, r 5, r 6, r 7, r 8, r 9, 34]⟩⟩ (θ 0)))) := by
  refine spec_pure fun Γ p h tk R hc' hbl top big pre fin => ?_
  rw [hbl _ rfl]
  exact TX21T_n w (fun _ => 0) st pp p t0 t1 t2 t3 r (given0 top big) (fun _ z => nomatch z) fun τ h' tk' N => fin (nthN [(τ 33)]) h' tk' (fun j hj => nthN_ge _ j hj) N.size N.all
theorem TX21_s (w : World) (S : Shared) {ρ st : Nat → Nat} {pp : Nat → Pos} {t0 t1 t2 t3 : Nat} {r : Nat → Nat} : SpecI (WD w S) ρ (pureUse (cTX 0 2 1 (ten r) t0 t1 t2 t3) (some (blLaw st pp)) [] 1 fun θ => .ok (.ret (.str ⟨⟨[109, 61, 34, 109, 61, r 0, r 1, r 2, r 3, r 4, r 5, r 6, r 7, r 8, r 9, 34]⟩⟩ (θ 0)))) := by
  cases hb : w.params.followText "comprehension-iter-twice" with
  | true =>
    have K := TX21T_s w S (ρ := ρ) (st := st) (pp := pp) (t0 := t0) (t1 := t1) (t2 := t2) (t3 := t3) (r := r)
    rwa [wCT_eq hb] at K
  | false =>
    have K := TX21F_s w S (ρ := ρ) (st := st) (pp := pp) (t0 := t0) (t1 := t1) (t2 := t2) (t3 := t3) (r := r)
    rwa [wCF_eq hb] at K
noncomputable def TX22F (w : World) (a st : Nat → Nat) (pp : Nat → Pos) (p : Pos) (t0 t1 t2 t3 : Nat) (r : Nat → Nat) : Fr :=
  frC (blLaw st pp) (cTX 0 2 2 (ten r) t0 t1 t2 t3) p 0 []
    []
    [] (621) (14560133912104810438650261963958724785033321458436880680072181440630798027940091545205589932788960510960534042354180687939339500662014249794419779796699060737831761235503805782754900605243856560008415900046019624294998560531896671724587428117888621543061401119729088683848239558453681964267298974307529010862783385901611038213666614206264261607010504016883241128767757426961715893615168998578993490921883727098567563168456984752883792064798844931437616138340945907349103954325346280237897881213407032764893184012099388112626592028935906566239555021853796447194244704922223347658857049615253830017425936901944689492475051032529657804953951591059070955669808507264679226162820401965278582538105028528006166991140652934155917549560725243649218471596759760468151958270026080158661877168610882664280114487508095380865271644877832623778982465906933760) (fun _ τ => .inl (.done (.ret (.str ⟨⟨[109, 61, 34, 109, 61, 92, 34, r 0, r 1, r 2, r 3, r 4, r 5, r 6, r 7, r 8, r 9, 92, 34, 34]⟩⟩ (τ 52))), ⟨783, 11, 783, 78⟩)) (fun _ _ => []) (fun _ _ => [])
theorem TX22F_n (w : World) (a st : Nat → Nat) (pp : Nat → Pos) (p : Pos) (t0 t1 t2 t3 : Nat) (r : Nat → Nat) : (TX22F (wCF w) a st pp p t0 t1 t2 t3 r).SpecN (wCF w) a := Fr.specN fun ρ τ => by kernel_rfl

theorem TX22F_s (w : World) (S : Shared) {ρ st : Nat → Nat} {pp : Nat → Pos} {t0 t1 t2 t3 : Nat} {r : Nat → Nat} : SpecI (WD (wCF w) S) ρ (pureUse (cTX 0 2 2 (ten r) t0 t1 t2 t3) (some (blLaw st pp)) [] 1 fun θ => .ok (.ret (.str ⟨⟨[109, 61, 34, 109, 61, 92, 34, r 0, r 1, r 2, r 3, r 4, r 5, r 6, r 7, r 8, r 9, 92, 34, 34]⟩⟩ (θ 0)))) := by
  refine spec_pure fun Γ p h tk R hc' hbl top big pre fin => ?_
  rw [hbl _ rfl]
  exact TX22F_n w (fun _ => 0) st pp p t0 t1 t2 t3 r (given0 top big) (fun _ z => nomatch z) fun τ h' tk' N => fin (nthN [(τ 52)]) h' tk' (fun j hj => nthN_ge _ j hj) N.size N.all
noncomputable def TX22T (w : World) (a st : Nat → Nat) (pp : Nat → Pos) (p : Pos) (t0 t1 t2 t3 : Nat) (r : Nat → Nat) : Fr :=
  frC (blLaw st pp) (cTX 0 2 2 (ten r) t0 t1 t2 t3) p 0 []
    []
    [] (591) (9500930687131435575093574269746770216170636850407160508390507109587119243478249661456596532792267114209220714188647146463260260158592689839342416713304434002156209833044062916191267537338056088090306714040960185154751102751307088966878059823077161715157019484468427655273818246686467302467488276331186997642167291866778522976552657822639235904930444253990276747700021509365265415041736804045115122990875942022475255619877268440095137635196042244791700466864414270376012131756411849002850031059099075304386105612985229009504226923047383988172554150883175269892985548148866496895512109794808830404165023507141705992623048506739551135352258628313130278859776898922879282385956648339037872640699026862738255534506652919598444569442947701960594067533872878610055021757725311709140126711637082112) (fun _ τ => .inl (.done (.ret (.str ⟨⟨[109, 61, 34, 109, 61, 92, 34, r 0, r 1, r 2, r 3, r 4, r 5, r 6, r 7, r 8, r 9, 92, 34, 34]⟩⟩ (τ 52))), ⟨783, 11, 783, 78⟩)) (fun _ _ => []) (fun _ _ => [])
theorem TX22T_n (w : World) (a st : Nat → Nat) (pp : Nat → Pos) (p : Pos) (t0 t1 t2 t3 : Nat) (r : Nat → Nat) : (TX22T (wCT w) a st pp p t0 t1 t2 t3 r).SpecN (wCT w) a := Fr.specN fun ρ τ => by kernel_rfl

theorem TX22T_s (w : World) (S : Shared) {ρ st : Nat → Nat} {pp : Nat → Pos} {t0 t1 t2 t3 : Nat} {r : Nat → Nat} : SpecI (WD (wCT w) S) ρ (pureUse (cTX 0 2 2 (ten r) t0 t1 t2 t3) (some (blLaw st pp)) [] 1 fun θ => .ok (.ret (.str ⟨⟨[109, 61, 34, 109, 61, 92, 34, r 0, r 1, r 2, r 3, r 4, r 5, r 6, r 7, r 8, r 9, 92, 34, 34]⟩⟩ (θ 0)))) := by
  refine spec_pure fun Γ p h tk R hc' hbl top big pre fin => ?_
  rw [hbl _ rfl]
  exact TX22T_n w (fun _ => 0) st pp p t0 t1 t2 t3 r (given0 top big) (fun _ z => nomatch z) fun τ h' tk' N => fin (nthN [(τ 52)]) h' tk' (fun j hj => nthN_ge _ j hj) N.size N.all
theorem TX22_s (w : World) (S : Shared) {ρ st : Nat → Nat} {pp : Nat → Pos} {t0 t1 t2 t3 : Nat} {r : Nat → Nat} : SpecI (WD w S) ρ (pureUse (cTX 0 2 2 (ten r) t0 t1 t2 t3) (some (blLaw st pp)) [] 1 fun θ => .ok (.ret (.str ⟨⟨[109, 61, 34, 109, 61, 92, 34, r 0, r 1, r 2, r 3, r 4, r 5, r 6, r 7, r 8, r 9, 92, 34, 34]⟩⟩ (θ 0)))) := by
  cases hb : w.params.followText "comprehension-iter-twice" with
  | true =>
    have K := TX22T_s w S (ρ := ρ) (st := st) (pp := pp) (t0 := t0) (t1 := t1) (t2 := t2) (t3 := t3) (r := r)
    rwa [wCT_eq hb] at K
  | false =>
    have K := TX22F_s w S (ρ := ρ) (st := st) (pp := pp) (t0 := t0) (t1 := t1) (t2 := t2) (t3 := t3) (r := r)
    rwa [wCF_eq hb] at K
noncomputable def TX32F (w : World) (a st : Nat → Nat) (pp : Nat → Pos) (p : Pos) (t0 t1 t2 t3 : Nat) (r : Nat → Nat) : Fr :=
  frC (blLaw st pp) (cTX 0 3 2 (ten r) t0 t1 t2 t3) p 0 []
    []
    [] (620) (14560133912104810438650261963958724785033321458436880680072181440630798027940091545205589932788960510960534042354180687939339500662014249794419779796699060737831761235503805782754900605243856560008415900046019624294998560531896671724587428117888621543061401119729088683848239558453681964267298974307529010862783385901611038213666614206264261607010504016883241128767757426961715893615168998578993490921883727098567563168456984752883792064798844931437616138340945907349103954325346280237897881213407032764893184012099388112626592028935906566239555021853796447194244704922223347658857049615253830017425936901944689492475051032529657804953951591059070955669808507264679226162820401965278582538105028528006166991140652934155917549560725243649218471596759760468151958270026080158661877168610882664280114487508095380865271644877832623778982465906933760) (fun _ τ => .inl (.done (.ret (.str ⟨⟨[109, 61, 34, 109, 61, 92, 34, 109, 61, r 0, r 1, r 2, r 3, r 4, r 5, r 6, r 7, r 8, r 9, 92, 34, 34]⟩⟩ (τ 52))), ⟨783, 11, 783, 78⟩)) (fun _ _ => []) (fun _ _ => [])
theorem TX32F_n (w : World) (a st : Nat → Nat) (pp : Nat → Pos) (p : Pos) (t0 t1 t2 t3 : Nat) (r : Nat → Nat) : (TX32F (wCF w) a st pp p t0 t1 t2 t3 r).SpecN (wCF w) a := Fr.specN fun ρ τ => by kernel_rfl

theorem TX32F_s (w : World) (S : Shared) {ρ st : Nat → Nat} {pp : Nat → Pos} {t0 t1 t2 t3 : Nat} {r : Nat → Nat} : SpecI (WD (wCF w) S) ρ (pureUse (cTX 0 3 2 (ten r) t0 t1 t2 t3) (some (blLaw st pp)) [] 1 fun θ => .ok (.ret (.str ⟨⟨[109, 61, 34, 109, 61, 92, 34, 109, 61, r 0, r 1, r 2, r 3, r 4, r 5, r 6, r 7, r 8, r 9, 92, 34, 34]⟩⟩ (θ 0)))) := by
  refine spec_pure fun Γ p h tk R hc' hbl top big pre fin => ?_
  rw [hbl _ rfl]
  exact TX32F_n w (fun _ => 0) st pp p t0 t1 t2 t3 r (given0 top big) (fun _ z => nomatch z) fun τ h' tk' N => fin (nthN [(τ 52)]) h' tk' (fun j hj => nthN_ge _ j hj) N.size N.all
noncomputable def TX32T (w : World) (a st : Nat → Nat) (pp : Nat → Pos) (p : Pos) (t0 t1 t2 t3 : Nat) (r : Nat → Nat) : Fr :=
  frC (blLaw st pp) (cTX 0 3 2 (ten r) t0 t1 t2 t3) p 0 []
    []
    [] (590) (9500930687131435575093574269746770216170636850407160508390507109587119243478249661456596532792267114209220714188647146463260260158592689839342416713304434002156209833044062916191267537338056088090306714040960185154751102751307088966878059823077161715157019484468427655273818246686467302467488276331186997642167291866778522976552657822639235904930444253990276747700021509365265415041736804045115122990875942022475255619877268440095137635196042244791700466864414270376012131756411849002850031059099075304386105612985229009504226923047383988172554150883175269892985548148866496895512109794808830404165023507141705992623048506739551135352258628313130278859776898922879282385956648339037872640699026862738255534506652919598444569442947701960594067533872878610055021757725311709140126711637082112) (fun _ τ => .inl (.done (.ret (.str ⟨⟨[109, 61, 34, 109, 61, 92, 34, 109, 61, r 0, r 1, r 2, r 3, r 4, r 5, r 6, r 7, r 8, r 9, 92, 34, 34]⟩⟩ (τ 52))), ⟨783, 11, 783, 78⟩)) (fun _ _ => []) (fun _ _ => [])
theorem TX32T_n (w : World) (a st : Nat → Nat) (pp : Nat → Pos) (p : Pos) (t0 t1 t2 t3 : Nat) (r : Nat → Nat) : (TX32T (wCT w) a st pp p t0 t1 t2 t3 r).SpecN (wCT w) a := Fr.specN fun ρ τ => by kernel_rfl

theorem TX32T_s (w : World) (S : Shared) {ρ st : Nat → Nat} {pp : Nat → Pos} {t0 t1 t2 t3 : Nat} {r : Nat → Nat} : SpecI (WD (wCT w) S) ρ (pureUse (cTX 0 3 2 (ten r) t0 t1 t2 t3) (some (blLaw st pp)) [] 1 fun θ => .ok (.ret (.str ⟨⟨[109, 61, 34, 109, 61, 92, 34, 109, 61, r 0, r 1, r 2, r 3, r 4, r 5, r 6, r 7, r 8, r 9, 92, 34, 34]⟩⟩ (θ 0)))) := by
  refine spec_pure fun Γ p h tk R hc' hbl top big pre fin => ?_
  rw [hbl _ rfl]
  exact TX32T_n w (fun _ => 0) st pp p t0 t1 t2 t3 r (given0 top big) (fun _ z => nomatch z) fun τ h' tk' N => fin (nthN [(τ 52)]) h' tk' (fun j hj => nthN_ge _ j hj) N.size N.all
theorem TX32_s (w : World) (S : Shared) {ρ st : Nat → Nat} {pp : Nat → Pos} {t0 t1 t2 t3 : Nat} {r : Nat → Nat} : SpecI (WD w S) ρ (pureUse (cTX 0 3 2 (ten r) t0 t1 t2 t3) (some (blLaw st pp)) [] 1 fun θ => .ok (.ret (.str ⟨⟨[109, 61, 34, 109, 61, 92, 34, 109, 61, r 0, r 1, r 2, r 3, r 4, r 5, r 6, r 7, r 8, r 9, 92, 34, 34]⟩⟩ (θ 0)))) := by
  cases hb : w.params.followText "comprehension-iter-twice" with
  | true =>
    have K := TX32T_s w S (ρ := ρ) (st := st) (pp := pp) (t0 := t0) (t1 := t1) (t2 := t2) (t3 := t3) (r := r)
    rwa [wCT_eq hb] at K
  | false =>
    have K := TX32F_s w S (ρ := ρ) (st := st) (pp := pp) (t0 := t0) (t1 := t1) (t2 := t2) (t3 := t3) (r := r)
    rwa [wCF_eq hb] at K
noncomputable def TX33F (w : World) (a st : Nat → Nat) (pp : Nat → Pos) (p : Pos) (t0 t1 t2 t3 : Nat) (r : Nat → Nat) : Fr :=
  frC (blLaw st pp) (cTX 0 3 3 (ten r) t0 t1 t2 t3) p 0 []
    []
    [] (772) (78426401917352431167921347131068453573749540296797847775304426025652122103094535916414600222256018828309506166668933653704299094117267625801811684607453161947273648581383941682760485280257859332564381580767411131006857988697982825258326105852994461555565163626041660977661852952394022895130984406950763567677296460003826577365756600758786864517645716291169299348595462449311378515111688776562020184842393117125330991025746995341023448968123464082921494736839645373685480632955148531735863875807715946640340165502544876233670108293920446683716244593673286546809793778273038802010240607115074798294366889664855664191103377444032085135398063866556207586884668192037456420013650947689851708704212514205275765016603657574097870657751597088531357660657438036872932718338633432877451003906456009904932731684431893861081996597303428738323373003717688943510920929470939971144637182703828624789704053519018821342411554121738121657878399595121669737642478031692170312583758063850857216449491480530721606320543058983882618246582992764881307783291566611242344739441213440) (fun _ τ => .inl (.done (.ret (.str ⟨⟨[109, 61, 34, 109, 61, 92, 34, 109, 61, 92, 92, 92, 34, r 0, r 1, r 2, r 3, r 4, r 5, r 6, r 7, r 8, r 9, 92, 92, 92, 34, 92, 34, 34]⟩⟩ (τ 70))), ⟨783, 11, 783, 78⟩)) (fun _ _ => []) (fun _ _ => [])
theorem TX33F_n (w : World) (a st : Nat → Nat) (pp : Nat → Pos) (p : Pos) (t0 t1 t2 t3 : Nat) (r : Nat → Nat) : (TX33F (wCF w) a st pp p t0 t1 t2 t3 r).SpecN (wCF w) a := Fr.specN fun ρ τ => by kernel_rfl

theorem TX33F_s (w : World) (S : Shared) {ρ st : Nat → Nat} {pp : Nat → Pos} {t0 t1 t2 t3 : Nat} {r : Nat → Nat} : SpecI (WD (wCF w) S) ρ (pureUse (cTX 0 3 3 (ten r) t0 t1 t2 t3) (some (blLaw st pp)) [] 1 fun θ => .ok (.ret (.str ⟨⟨[109, 61, 34, 109, 61, 92, 34, 109, 61, 92, 92, 92, 34, r 0, r 1, r 2, r 3, r 4, r 5, r 6, r 7, r 8, r 9, 92, 92, 92, 34, 92, 34, 34]⟩⟩ (θ 0)))) := by
  refine spec_pure fun Γ p h tk R hc' hbl top big pre fin => ?_
  rw [hbl _ rfl]
  exact TX33F_n w (fun _ => 0) st pp p t0 t1 t2 t3 r (given0 top big) (fun _ z => nomatch z) fun τ h' tk' N => fin (nthN [(τ 70)]) h' tk' (fun j hj => nthN_ge _ j hj) N.size N.all
noncomputable def TX33T (w : World) (a st : Nat → Nat) (pp : Nat → Pos) (p : Pos) (t0 t1 t2 t3 : Nat) (r : Nat → Nat) : Fr :=
  frC (blLaw st pp) (cTX 0 3 3 (ten r) t0 t1 t2 t3) p 0 []
    []
    [] (742) (51175615084034786976946283233799674258663796756154975005743687440301184384856586219196525455368437159836476991317268055364524890572978282854528647544052058853442850907998468747340252396278507821098519658039932623885450783357807761867787843611815499894526448034850227491927774223123250748491748208159650270748084948823154162313790777388224640340255196494467850669522346215144332201912178305831391481629902959020699009194616694373627020366357136930694653215438794360039019974750505029112141702625029663785067142894197462131884827508890790472474751287909296533629983177742499287801621444396092530283245533134847755598877535815330204013693282291844424506821258334965200523760164586747874776566960230424882787881645282483659289200582064301815812042342102630306735220717272230288116565236463556479668999356778822089213111448614546544462233901076445770980473191636492141271404955823538296556774300063156151358094255416010840467618785125566806233669382021929538557123754154968763790800967966826471340366618427392) (fun _ τ => .inl (.done (.ret (.str ⟨⟨[109, 61, 34, 109, 61, 92, 34, 109, 61, 92, 92, 92, 34, r 0, r 1, r 2, r 3, r 4, r 5, r 6, r 7, r 8, r 9, 92, 92, 92, 34, 92, 34, 34]⟩⟩ (τ 70))), ⟨783, 11, 783, 78⟩)) (fun _ _ => []) (fun _ _ => [])
theorem TX33T_n (w : World) (a st : Nat → Nat) (pp : Nat → Pos) (p : Pos) (t0 t1 t2 t3 : Nat) (r : Nat → Nat) : (TX33T (wCT w) a st pp p t0 t1 t2 t3 r).SpecN (wCT w) a := Fr.specN fun ρ τ => by kernel_rfl

theorem TX33T_s (w : World) (S : Shared) {ρ st : Nat → Nat} {pp : Nat → Pos} {t0 t1 t2 t3 : Nat} {r : Nat → Nat} : SpecI (WD (wCT w) S) ρ (pureUse (cTX 0 3 3 (ten r) t0 t1 t2 t3) (some (blLaw st pp)) [] 1 fun θ => .ok (.ret (.str ⟨⟨[109, 61, 34, 109, 61, 92, 34, 109, 61, 92, 92, 92, 34, r 0, r 1, r 2, r 3, r 4, r 5, r 6, r 7, r 8, r 9, 92, 92, 92, 34, 92, 34, 34]⟩⟩ (θ 0)))) := by
  refine spec_pure fun Γ p h tk R hc' hbl top big pre fin => ?_
  rw [hbl _ rfl]
  exact TX33T_n w (fun _ => 0) st pp p t0 t1 t2 t3 r (given0 top big) (fun _ z => nomatch z) fun τ h' tk' N => fin (nthN [(τ 70)]) h' tk' (fun j hj => nthN_ge _ j hj) N.size N.all
theorem TX33_s (w : World) (S : Shared) {ρ st : Nat → Nat} {pp : Nat → Pos} {t0 t1 t2 t3 : Nat} {r : Nat → Nat} : SpecI (WD w S) ρ (pureUse (cTX 0 3 3 (ten r) t0 t1 t2 t3) (some (blLaw st pp)) [] 1 fun θ => .ok (.ret (.str ⟨⟨[109, 61, 34, 109, 61, 92, 34, 109, 61, 92, 92, 92, 34, r 0, r 1, r 2, r 3, r 4, r 5, r 6, r 7, r 8, r 9, 92, 92, 92, 34, 92, 34, 34]⟩⟩ (θ 0)))) := by
  cases hb : w.params.followText "comprehension-iter-twice" with
  | true =>
    have K := TX33T_s w S (ρ := ρ) (st := st) (pp := pp) (t0 := t0) (t1 := t1) (t2 := t2) (t3 := t3) (r := r)
    rwa [wCT_eq hb] at K
  | false =>
    have K := TX33F_s w S (ρ := ρ) (st := st) (pp := pp) (t0 := t0) (t1 := t1) (t2 := t2) (t3 := t3) (r := r)
    rwa [wCF_eq hb] at K
end Mine
end
section -- Rn
open PySem PySem.W PyProof.Rows PySem.Calls
set_option Elab.async false
set_option linter.unusedVariables false
set_option maxRecDepth 100000
set_option maxHeartbeats 0
namespace Mine
noncomputable def xRN : Stmt := st [50]
noncomputable def eRN (c fr : Nat) : Env := { envOf xRN (s [95, 108, 97, 119, 95, 114, 117, 110, 115, 46, 60, 108, 111, 99, 97, 108, 115, 62, 46]) 808 807 fr with cells := [((s [115, 105, 103, 110, 115]), c)] }
noncomputable def cRN (c fr : Nat) : Code := .func (fBody xRN) (eRN c fr)
noncomputable def exprOf : Stmt → PySem.Expr
  | .Assign _ v _ => v
  | .Return (some v) _ => v
  | _ => default
noncomputable def scOf : PySem.Expr → Scope
  | .ListComp _ _ sc _ => { sc with names := sc.names.map fun x => (x.1, match x.2 with | .free => .cell | k => k) }
  | _ => default
noncomputable def xC1 : PySem.Expr := exprOf (nthS (fBody xRN) 0)
noncomputable def xC2 : PySem.Expr := exprOf (nthS (fBody xRN) 1)
noncomputable def eCP (x : PySem.Expr) (d c fr : Nat) : Env := { scope := scOf x, locals := d, globals := 3, cells := [((s [115, 105, 103, 110, 115]), c)], qual := (s [95, 108, 97, 119, 95, 114, 117, 110, 115, 46, 60, 108, 111, 99, 97, 108, 115, 62, 46]), func := none, code := .ref 807, frame := some fr, builtins := 0 }
noncomputable def cCL (x : PySem.Expr) (d it acc c fr : Nat) : Code := .compLoop x 0 (.ref it) (.ref acc) (eCP x d c fr)
noncomputable def cCS (x : PySem.Expr) (d it acc c fr : Nat) : Code := .compStart x 0 (.ref it) (.ref acc) (eCP x d c fr)
noncomputable def CELL (X : List Nat) (t : Nat) : Obj := ⟨.type "cell", none, .cell (some (.str ⟨⟨X⟩⟩ t)), ⟨[]⟩⟩
noncomputable def PUN : Str := (s [114, 119, 120, 115, 83, 116, 84])
noncomputable def C1z (w : World) (a : Nat → Nat) (Γ : Ctx) (p : Pos) (fr n m tx : Nat) (X : List Nat) (items : List Value) (ks : Nat → Nat) : Fr :=
  frF Γ (cCL xC1 (a 0) (a 1) (a 2) (a 3) fr) p 4 [dct w.params ks [] 0, RIT 0 (Int.ofNat (n + 1)), LST items m, CELL X tx]
    [.swap 4 3 fun ρ τ => swL 2 (ρ 2) (LSTP items m (.int 0 (τ 0))) (ret .none)]
    [] (40) (1688295718355818345524564193874070390275798176202023759704443846660) (fun _ _ => .inl (.again (cCL xC1 (a 0) (a 1) (a 2) (a 3) fr), ⟨785, 12, 785, 13⟩)) (fun _ τ => [dct w.params (nthN [τ 1]) [([107], .int 0 (τ 0))] 1, RIT (0 + 1) (Int.ofNat (n + 1) - 1), LSTP items m (.int 0 (τ 0)), CELL X tx]) (fun _ _ => [])
theorem C1z_n (w : World) (a : Nat → Nat) (Γ : Ctx) (p : Pos) (fr n m tx : Nat) (X : List Nat) (items : List Value) (ks : Nat → Nat) : (C1z w a Γ p fr n m tx X items ks).SpecN w a := Fr.specN fun ρ τ => by kernel_rfl

noncomputable def C1ff (w : World) (a : Nat → Nat) (Γ : Ctx) (p : Pos) (fr n m tx x y : Nat) (k k1 : Int) (X : List Nat) (items : List Value) (ks : Nat → Nat) (vk : Value) : Fr :=
  frF Γ (cCL xC1 (a 0) (a 1) (a 2) (a 3) fr) p 4 [dct w.params ks [([107], vk)] 1, RIT k (Int.ofNat (n + 1)), LST items m, CELL X tx]
    [.fn "int.__eq__" [.int k, .int 0] (.bool false), .fn "str.__getitem__" [.str ⟨⟨X⟩⟩, .int k] (.str ⟨⟨[x]⟩⟩), .fn "str.__contains__" [.str PUN, .str ⟨⟨[x]⟩⟩] (.bool false), .fn "int.__sub__" [.int k, .int 1] (.int k1),
     .fn "str.__getitem__" [.str ⟨⟨X⟩⟩, .int k1] (.str ⟨⟨[y]⟩⟩), .fn "str.__contains__" [.str PUN, .str ⟨⟨[y]⟩⟩] (.bool false)]
    [] (55) (1897141212104125589620549781715440264646267805245355802208817959954476608365002756) (fun _ _ => .inl (.again (cCL xC1 (a 0) (a 1) (a 2) (a 3) fr), ⟨785, 54, 785, 108⟩)) (fun _ τ => [dct w.params ks [([107], .int k (τ 0))] 1, RIT (k + 1) (Int.ofNat (n + 1) - 1), LST items m, CELL X tx]) (fun _ _ => [])
theorem C1ff_n (w : World) (a : Nat → Nat) (Γ : Ctx) (p : Pos) (fr n m tx x y : Nat) (k k1 : Int) (X : List Nat) (items : List Value) (ks : Nat → Nat) (vk : Value) : (C1ff w a Γ p fr n m tx x y k k1 X items ks vk).SpecN w a := Fr.specN fun ρ τ => by kernel_rfl

noncomputable def C1tf (w : World) (a : Nat → Nat) (Γ : Ctx) (p : Pos) (fr n m tx x y : Nat) (k k1 : Int) (X : List Nat) (items : List Value) (ks : Nat → Nat) (vk : Value) : Fr :=
  frF Γ (cCL xC1 (a 0) (a 1) (a 2) (a 3) fr) p 4 [dct w.params ks [([107], vk)] 1, RIT k (Int.ofNat (n + 1)), LST items m, CELL X tx]
    [.fn "int.__eq__" [.int k, .int 0] (.bool false), .fn "str.__getitem__" [.str ⟨⟨X⟩⟩, .int k] (.str ⟨⟨[x]⟩⟩), .fn "str.__contains__" [.str PUN, .str ⟨⟨[x]⟩⟩] (.bool true), .fn "int.__sub__" [.int k, .int 1] (.int k1),
     .fn "str.__getitem__" [.str ⟨⟨X⟩⟩, .int k1] (.str ⟨⟨[y]⟩⟩), .fn "str.__contains__" [.str PUN, .str ⟨⟨[y]⟩⟩] (.bool false),
     .swap 4 12 fun ρ τ => swL 2 (ρ 2) (LSTP items m (.int k (τ 0))) (ret .none)]
    [] (64) (2191533138674178929198096521389723893868510463995578032087114816963275464046725754090202999025565700) (fun _ _ => .inl (.again (cCL xC1 (a 0) (a 1) (a 2) (a 3) fr), ⟨785, 12, 785, 13⟩)) (fun _ τ => [dct w.params ks [([107], .int k (τ 0))] 1, RIT (k + 1) (Int.ofNat (n + 1) - 1), LSTP items m (.int k (τ 0)), CELL X tx]) (fun _ _ => [])
theorem C1tf_n (w : World) (a : Nat → Nat) (Γ : Ctx) (p : Pos) (fr n m tx x y : Nat) (k k1 : Int) (X : List Nat) (items : List Value) (ks : Nat → Nat) (vk : Value) : (C1tf w a Γ p fr n m tx x y k k1 X items ks vk).SpecN w a := Fr.specN fun ρ τ => by kernel_rfl

noncomputable def C1ft (w : World) (a : Nat → Nat) (Γ : Ctx) (p : Pos) (fr n m tx x y : Nat) (k k1 : Int) (X : List Nat) (items : List Value) (ks : Nat → Nat) (vk : Value) : Fr :=
  frF Γ (cCL xC1 (a 0) (a 1) (a 2) (a 3) fr) p 4 [dct w.params ks [([107], vk)] 1, RIT k (Int.ofNat (n + 1)), LST items m, CELL X tx]
    [.fn "int.__eq__" [.int k, .int 0] (.bool false), .fn "str.__getitem__" [.str ⟨⟨X⟩⟩, .int k] (.str ⟨⟨[x]⟩⟩), .fn "str.__contains__" [.str PUN, .str ⟨⟨[x]⟩⟩] (.bool false), .fn "int.__sub__" [.int k, .int 1] (.int k1),
     .fn "str.__getitem__" [.str ⟨⟨X⟩⟩, .int k1] (.str ⟨⟨[y]⟩⟩), .fn "str.__contains__" [.str PUN, .str ⟨⟨[y]⟩⟩] (.bool true),
     .swap 4 12 fun ρ τ => swL 2 (ρ 2) (LSTP items m (.int k (τ 0))) (ret .none)]
    [] (64) (2191533138674178929198096521389723893868510463995578032087114816963275464046725754090202999025565700) (fun _ _ => .inl (.again (cCL xC1 (a 0) (a 1) (a 2) (a 3) fr), ⟨785, 12, 785, 13⟩)) (fun _ τ => [dct w.params ks [([107], .int k (τ 0))] 1, RIT (k + 1) (Int.ofNat (n + 1) - 1), LSTP items m (.int k (τ 0)), CELL X tx]) (fun _ _ => [])
theorem C1ft_n (w : World) (a : Nat → Nat) (Γ : Ctx) (p : Pos) (fr n m tx x y : Nat) (k k1 : Int) (X : List Nat) (items : List Value) (ks : Nat → Nat) (vk : Value) : (C1ft w a Γ p fr n m tx x y k k1 X items ks vk).SpecN w a := Fr.specN fun ρ τ => by kernel_rfl

noncomputable def C1tt (w : World) (a : Nat → Nat) (Γ : Ctx) (p : Pos) (fr n m tx x y : Nat) (k k1 : Int) (X : List Nat) (items : List Value) (ks : Nat → Nat) (vk : Value) : Fr :=
  frF Γ (cCL xC1 (a 0) (a 1) (a 2) (a 3) fr) p 4 [dct w.params ks [([107], vk)] 1, RIT k (Int.ofNat (n + 1)), LST items m, CELL X tx]
    [.fn "int.__eq__" [.int k, .int 0] (.bool false), .fn "str.__getitem__" [.str ⟨⟨X⟩⟩, .int k] (.str ⟨⟨[x]⟩⟩), .fn "str.__contains__" [.str PUN, .str ⟨⟨[x]⟩⟩] (.bool true), .fn "int.__sub__" [.int k, .int 1] (.int k1),
     .fn "str.__getitem__" [.str ⟨⟨X⟩⟩, .int k1] (.str ⟨⟨[y]⟩⟩), .fn "str.__contains__" [.str PUN, .str ⟨⟨[y]⟩⟩] (.bool true)]
    [] (55) (1897141212104125589620549781715440264646267805245355802208817959954476608365002756) (fun _ _ => .inl (.again (cCL xC1 (a 0) (a 1) (a 2) (a 3) fr), ⟨785, 54, 785, 108⟩)) (fun _ τ => [dct w.params ks [([107], .int k (τ 0))] 1, RIT (k + 1) (Int.ofNat (n + 1) - 1), LST items m, CELL X tx]) (fun _ _ => [])
theorem C1tt_n (w : World) (a : Nat → Nat) (Γ : Ctx) (p : Pos) (fr n m tx x y : Nat) (k k1 : Int) (X : List Nat) (items : List Value) (ks : Nat → Nat) (vk : Value) : (C1tt w a Γ p fr n m tx x y k k1 X items ks vk).SpecN w a := Fr.specN fun ρ τ => by kernel_rfl

noncomputable def C1e (w : World) (a : Nat → Nat) (bl : List (Code × Pos)) (p : Pos) (fr tx : Nat) (k : Int) (X : List Nat) (d lo : Obj) : Fr :=
  frC (bl) (cCL xC1 (a 0) (a 1) (a 2) (a 3) fr) p 4 [d, RIT k 0, lo, CELL X tx]
    []
    [] (16) (9227880038827819012) (fun _ _ => .inl (.done .next, ⟨785, 23, 785, 40⟩)) (fun _ _ => [d, RIT k 0, lo, CELL X tx]) (fun _ _ => [])
theorem C1e_n (w : World) (a : Nat → Nat) (bl : List (Code × Pos)) (p : Pos) (fr tx : Nat) (k : Int) (X : List Nat) (d lo : Obj) : (C1e w a bl p fr tx k X d lo).SpecN w a := Fr.specN fun ρ τ => by kernel_rfl

noncomputable def S1F (w : World) (a : Nat → Nat) (Γ : Ctx) (p : Pos) (fr : Nat) (k n : Int) (d lo c : Obj) : Fr :=
  frF Γ (cCS xC1 (a 0) (a 1) (a 2) (a 3) fr) p 4 [d, RIT k n, lo, c]
    []
    [] (13) (1185207810337617743872) (fun _ _ => .inl (.again (cCL xC1 (a 0) (a 1) (a 2) (a 3) fr), ⟨785, 23, 785, 40⟩)) (fun _ _ => [d, RIT k n, lo, c]) (fun _ _ => [])
theorem S1F_n (w : World) (a : Nat → Nat) (Γ : Ctx) (p : Pos) (fr : Nat) (k n : Int) (d lo c : Obj) : (S1F (wCF w) a Γ p fr k n d lo c).SpecN (wCF w) a := Fr.specN fun ρ τ => by kernel_rfl

noncomputable def S1T (w : World) (a : Nat → Nat) (Γ : Ctx) (p : Pos) (fr : Nat) (k n : Int) (d lo c : Obj) : Fr :=
  frF Γ (cCS xC1 (a 0) (a 1) (a 2) (a 3) fr) p 4 [d, RIT k n, lo, c]
    []
    [] (3) (1024) (fun _ _ => .inl (.again (cCL xC1 (a 0) (a 1) (a 2) (a 3) fr), p)) (fun _ _ => [d, RIT k n, lo, c]) (fun _ _ => [])
theorem S1T_n (w : World) (a : Nat → Nat) (Γ : Ctx) (p : Pos) (fr : Nat) (k n : Int) (d lo c : Obj) : (S1T (wCT w) a Γ p fr k n d lo c).SpecN (wCT w) a := Fr.specN fun ρ τ => by kernel_rfl

end Mine
end
section -- Rn2
open PySem PySem.W PyProof.Rows PySem.Calls
set_option Elab.async false
set_option linter.unusedVariables false
set_option maxRecDepth 100000
set_option maxHeartbeats 0
namespace Mine
/-- a letter of rights -/
noncomputable def cl (c : Nat) : Bool := inS PUN ⟨⟨[c]⟩⟩
noncomputable def isCut (X : List Nat) (j : Nat) : Bool := cl (X.getD j 0) != cl (X.getD (j - 1) 0)
/-- the cuts from k on, n places -/
noncomputable def cutsL (X : List Nat) : Nat → Nat → List Nat
  | _, 0 => []
  | k, n + 1 => if isCut X k then k :: cutsL X (k + 1) n else cutsL X (k + 1) n
theorem cutsL_len (X : List Nat) : ∀ n k, (cutsL X k n).length ≤ n
  | 0, _ => Nat.le_refl _
  | n + 1, k => by
    unfold cutsL
    split
    · exact Nat.succ_le_succ (cutsL_len X n (k + 1))
    · exact Nat.le_succ_of_le (cutsL_len X n (k + 1))
/-- numbers as values, with their tokens -/
inductive IntsV : List Value → List Nat → Prop
  | nil : IntsV [] []
  | cons {vs ks} (k t : Nat) : IntsV vs ks → IntsV (.int (Int.ofNat k) t :: vs) (k :: ks)
noncomputable def intsR : List Nat → List Nat → List Value
  | [], _ => []
  | x :: l, ts => match ts with
    | [] => []
    | t :: ts => .int (Int.ofNat x) t :: intsR l ts
noncomputable abbrev intsL (ts l : List Nat) : List Value := intsR l ts
noncomputable def tokI : Value → Nat
  | .int _ t => t
  | _ => 0
theorem intsL_of : ∀ {ks : List Nat} {vals : List Value}, IntsV vals ks → ∀ (θ : Nat → Nat) (i n : Nat), vals.length ≤ n → (∀ j, j < vals.length → θ (i + j) = nthN (vals.map tokI) j) → vals = intsL (tkl θ i n) ks
  | [], _, .nil, _, _, _, _, _ => rfl
  | x :: ws, _, .cons _ t h, θ, i, 0, hn, H => absurd hn (by simp)
  | x :: ws, _, .cons _ t h, θ, i, n + 1, hn, H => by
    have h0 : θ i = t := H 0 (Nat.succ_pos _)
    show _ = .int (Int.ofNat x) (θ i) :: intsL (tkl θ (i + 1) n) ws
    rw [h0, ← intsL_of h θ (i + 1) n (by simpa using hn) fun j hj => ?_]
    have := H (j + 1) (Nat.succ_lt_succ hj)
    rw [show i + (j + 1) = i + 1 + j by omega] at this
    exact this
theorem intsV_len : ∀ {ks : List Nat} {vals : List Value}, IntsV vals ks → vals.length = ks.length
  | [], _, .nil => rfl
  | x :: ws, _, .cons _ t h => congrArg Nat.succ (intsV_len h)
noncomputable abbrev C1O (P : Params) (ks : Nat → Nat) (k : Nat) (tv n : Nat) (items : List Value) (m : Nat) (X : List Nat) (tx : Nat) : List Obj :=
  [dct P ks [([107], .int (Int.ofNat k - 1) tv)] 1, RIT (Int.ofNat k) (Int.ofNat n), LST items m, CELL X tx]
theorem getD_get {X : List Nat} {k : Nat} (h : k < X.length) : X[k]? = some (X.getD k 0) := by
  rw [List.getElem?_eq_getElem h]
  simp [List.getD, List.getElem?_eq_getElem h]
theorem c1_cuts (w : World) (S : Shared) {X : List Nat} {k m : Nat} {items : List Value} (hk : 1 ≤ k) (hX : k < X.length) (hXl : X.length ≤ 60) (hi : items.length < 1000) {b1 b2 : Bool} (h1 : cl (X.getD k 0) = b1) (h2 : cl (X.getD (k - 1) 0) = b2) :
    ∀ f ∈ ([.fn "int.__eq__" [.int (Int.ofNat k), .int 0] (.bool false), .fn "str.__getitem__" [.str ⟨⟨X⟩⟩, .int (Int.ofNat k)] (.str ⟨⟨[X.getD k 0]⟩⟩), .fn "str.__contains__" [.str PUN, .str ⟨⟨[X.getD k 0]⟩⟩] (.bool b1), .fn "int.__sub__" [.int (Int.ofNat k), .int 1] (.int (Int.ofNat (k - 1))),
     .fn "str.__getitem__" [.str ⟨⟨X⟩⟩, .int (Int.ofNat (k - 1))] (.str ⟨⟨[X.getD (k - 1) 0]⟩⟩), .fn "str.__contains__" [.str PUN, .str ⟨⟨[X.getD (k - 1) 0]⟩⟩] (.bool b2),
     .swap 4 12 fun ρ τ => swL 2 (ρ 2) (LSTP items m (.int (Int.ofNat k) (τ 0))) (ret .none)] : List CutF), CutF.Ok (WD w S) f := by
  refine okc ?_ (okc ?_ (okc ?_ (okc ?_ (okc ?_ (okc ?_ (okc ?_ ok0))))))
  · exact fn_eqI w S (decide_eq_false (by simp; omega))
  · exact fn_at w S rfl (by omega) (getD_get hX)
  · exact fn_in w S h1
  · exact fn_subI w S (by simp; omega)
  · exact fn_at w S rfl (by omega) (getD_get (by omega))
  · exact fn_in w S h2
  · intro ρ τ
    dsimp only
    rw [LSTP_is]
    have : sizeLine = 16777216 := rfl
    exact swL_ok (swap_look (by simp; omega))
theorem c1_later {w : World} {S : Shared} {a : Nat → Nat} {bl : List (Code × Pos)} {fr tx : Nat} {X : List Nat} (hX : X.length ≤ 60) {R : Result → Shared → Prop} : ∀ (n k : Nat) (ks : Nat → Nat) (tv : Nat) (items : List Value) (m : Nat) (p : Pos) (h : Heap) (tk : Nat), 1 ≤ k → k + n = X.length → items.length ≤ k →
    Given (WD w S) a (C1O w.params ks k tv n items m X tx) h →
    (∀ vals tv' m' h' tk', IntsV vals (cutsL X k n) → Nx (WD w S) 4 a (C1O w.params ks (k + n) tv' 0 (items ++ vals) m' X tx) h h' → R (.ok .next) ((WD w S).sh h' tk')) →
    wpCode (model pwR w) ⟨cCL xC1 (a 0) (a 1) (a 2) (a 3) fr, none, none, bl, none⟩ R p ((WD w S).sh h tk)
  | 0, k, ks, tv, items, m, p, h, tk, hk, hkn, hi, G, F => by
    refine C1e_n w a bl p fr tx (Int.ofNat k) X _ _ G (fun _ z => nomatch z) fun τ h' tk' N => ?_
    exact F [] tv m h' tk' .nil (by rw [List.append_nil]; exact N)
  | n + 1, k, ks, tv, items, m, p, h, tk, hk, hkn, hi, G, F => by
    have hlt : k < X.length := by omega
    have step : ∀ (items' : List Value) (m' : Nat) (τ0 : Nat) (p' : Pos) (h1 : Heap) (tk1 : Nat) (vs : List Value), items' = items ++ vs → items'.length ≤ k + 1 → (∀ vals, IntsV vals (cutsL X (k + 1) n) → IntsV (vs ++ vals) (cutsL X k (n + 1))) →
        Nx (WD w S) 4 a [dct w.params ks [([107], .int (Int.ofNat k) τ0)] 1, RIT (Int.ofNat k + 1) (Int.ofNat (n + 1) - 1), LST items' m', CELL X tx] h h1 →
        wpCode (model pwR w) ⟨cCL xC1 (a 0) (a 1) (a 2) (a 3) fr, none, none, bl, none⟩ R p' ((WD w S).sh h1 tk1) := fun items' m' τ0 p' h1 tk1 vs e1 e2 e3 N => by
      have N' : Nx (WD w S) 4 a (C1O w.params ks (k + 1) τ0 n items' m' X tx) h h1 := by
        show Nx _ _ _ [dct _ _ [(_, .int (Int.ofNat (k + 1) - 1) τ0)] 1, RIT (Int.ofNat (k + 1)) (Int.ofNat n), _, _] h h1
        rw [show Int.ofNat (k + 1) - 1 = Int.ofNat k by simp, show Int.ofNat n = Int.ofNat (n + 1) - 1 by simp]
        exact N
      refine c1_later hX n (k + 1) ks τ0 items' m' p' h1 tk1 (by omega) (by omega) e2 N'.given fun vals tv' m2 h2 tk2 hv N2 => ?_
      have N3 := N'.trans N2
      rw [show k + 1 + n = k + (n + 1) by omega, e1, List.append_assoc] at N3
      exact F (vs ++ vals) tv' m2 h2 tk2 (e3 vals hv) N3
    have hc := c1_cuts w S (m := m) (items := items) hk hlt hX (by omega) rfl rfl
    have cut0 : ∀ b, isCut X k = b → cutsL X k (n + 1) = if b then k :: cutsL X (k + 1) n else cutsL X (k + 1) n := fun b hb => by
      show (if isCut X k = true then _ else _) = _
      rw [hb]
    cases h1 : cl (X.getD k 0) <;> cases h2 : cl (X.getD (k - 1) 0) <;> rw [h1, h2] at hc
    · have ic := cut0 false (by unfold isCut; rw [h1, h2]; rfl)
      refine C1ff_n w a ⟨cCL xC1 (a 0) (a 1) (a 2) (a 3) fr, none, none, bl, none⟩ p fr n m tx _ _ (Int.ofNat k) (Int.ofNat (k - 1)) X items ks _ G (fun f hf => hc f (List.mem_append_left [CutF.swap 4 12 _] hf)) fun τ h1 tk1 N => ?_
      exact step items m (τ 0) _ h1 tk1 [] (by simp) (by omega) (fun vals hv => by rw [ic]; exact hv) N
    · have ic := cut0 true (by unfold isCut; rw [h1, h2]; rfl)
      refine C1ft_n w a ⟨cCL xC1 (a 0) (a 1) (a 2) (a 3) fr, none, none, bl, none⟩ p fr n m tx _ _ (Int.ofNat k) (Int.ofNat (k - 1)) X items ks _ G hc fun τ h1 tk1 N => ?_
      dsimp only [C1ft, frC, frF] at N
      rw [LSTP_is] at N
      exact step (items ++ [Value.int (Int.ofNat k) (τ 0)]) (m + 1) (τ 0) _ h1 tk1 [Value.int (Int.ofNat k) (τ 0)] rfl (by simp; omega) (fun vals hv => by rw [ic]; exact .cons _ _ hv) N
    · have ic := cut0 true (by unfold isCut; rw [h1, h2]; rfl)
      refine C1tf_n w a ⟨cCL xC1 (a 0) (a 1) (a 2) (a 3) fr, none, none, bl, none⟩ p fr n m tx _ _ (Int.ofNat k) (Int.ofNat (k - 1)) X items ks _ G hc fun τ h1 tk1 N => ?_
      dsimp only [C1tf, frC, frF] at N
      rw [LSTP_is] at N
      exact step (items ++ [Value.int (Int.ofNat k) (τ 0)]) (m + 1) (τ 0) _ h1 tk1 [Value.int (Int.ofNat k) (τ 0)] rfl (by simp; omega) (fun vals hv => by rw [ic]; exact .cons _ _ hv) N
    · have ic := cut0 false (by unfold isCut; rw [h1, h2]; rfl)
      refine C1tt_n w a ⟨cCL xC1 (a 0) (a 1) (a 2) (a 3) fr, none, none, bl, none⟩ p fr n m tx _ _ (Int.ofNat k) (Int.ofNat (k - 1)) X items ks _ G (fun f hf => hc f (List.mem_append_left [CutF.swap 4 12 _] hf)) fun τ h1 tk1 N => ?_
      exact step items m (τ 0) _ h1 tk1 [] (by simp) (by omega) (fun vals hv => by rw [ic]; exact hv) N
/-- all the cuts of a text -/
noncomputable def cutsOf (X : List Nat) : List Nat := 0 :: cutsL X 1 (X.length - 1)
noncomputable def c1Use (P : Params) (a : Nat → Nat) (fr : Nat) (bl : List (Code × Pos)) (keys : List Nat) (ks : Nat → Nat) (X : List Nat) (tx n : Nat) (cs : List Nat) : Use :=
  mkUse (cCS xC1 (a 0) (a 1) (a 2) (a 3) fr) (some bl) keys [dct P ks [] 0, RIT 0 (Int.ofNat (n + 1)), LST [] 0, CELL X tx] 63
    (fun θ => [dct P (nthN [θ 0]) [([107], .int (Int.ofNat n) (θ 1))] 1, RIT (Int.ofNat (n + 1)) 0, LST (intsL (tkl θ 3 60) cs) (θ 2), CELL X tx]) (fun _ => .ok .next)
theorem c1_spec (w : World) (S : Shared) {ρ : Nat → Nat} {fr tx n : Nat} {bl : List (Code × Pos)} {keys : List Nat} {ks : Nat → Nat} {X : List Nat} (hl : keys.length = 4) (nd : keys.Nodup) (hn : X.length = n + 1) (hX : X.length ≤ 60) :
    SpecI (WD w S) ρ (c1Use w.params (fun i => ρ (nthN keys i)) fr bl keys ks X tx n (cutsOf X)) := by
  refine spec_mk nd hl (fun _ => rfl) fun Γ p h tk R hc hbl G fin => ?_
  rw [hbl _ rfl]
  -- behind the start: the loop
  have loop : ∀ (p' : Pos) (h0 : Heap) (tk0 : Nat), Nx (WD w S) 4 (fun i => ρ (nthN keys i)) [dct w.params ks [] 0, RIT 0 (Int.ofNat (n + 1)), LST [] 0, CELL X tx] h h0 →
      wpCode (model pwR w) ⟨cCL xC1 (ρ (nthN keys 0)) (ρ (nthN keys 1)) (ρ (nthN keys 2)) (ρ (nthN keys 3)) fr, none, none, bl, none⟩ R p' ((WD w S).sh h0 tk0) := fun p' h0 tk0 N0 => by
    refine C1z_n w (fun i => ρ (nthN keys i)) ⟨cCL xC1 (ρ (nthN keys 0)) (ρ (nthN keys 1)) (ρ (nthN keys 2)) (ρ (nthN keys 3)) fr, none, none, bl, none⟩ p' fr n 0 tx X [] ks N0.given ?_ fun τ h1 tk1 N1 => ?_
    · refine okc ?_ ok0
      intro ρ τ
      dsimp only
      rw [LSTP_is]
      exact swL_ok (swap_look (by show 1 ≤ _; decide))
    · dsimp only [C1z, frC, frF] at N1
      rw [LSTP_is] at N1
      have N1' : Nx (WD w S) 4 (fun i => ρ (nthN keys i)) (C1O w.params (nthN [τ 1]) 1 (τ 0) n [.int 0 (τ 0)] 1 X tx) h0 h1 := by
        show Nx _ _ _ [_, RIT (Int.ofNat 1) (Int.ofNat n), _, _] h0 h1
        rw [show Int.ofNat n = Int.ofNat (n + 1) - 1 by simp]
        exact N1
      refine c1_later hX n 1 (nthN [τ 1]) (τ 0) [.int 0 (τ 0)] 1 _ h1 tk1 (Nat.le_refl _) (by omega) (by simp) N1'.given fun vals tv' m' h2 tk2 hv N2 => ?_
      have N3 := (N0.trans N1').trans N2
      have hv' : IntsV ([Value.int 0 (τ 0)] ++ vals) (cutsOf X) := by
        unfold cutsOf
        rw [show X.length - 1 = n by omega]
        exact .cons 0 _ hv
      have hlen := intsV_len hv'
      have hcl : (cutsOf X).length ≤ 60 := by
        unfold cutsOf
        have := cutsL_len X (X.length - 1) 1
        rw [List.length_cons]; omega
      have e := intsL_of hv' (nthN ([τ 1, tv', m'] ++ ([Value.int 0 (τ 0)] ++ vals).map tokI)) 3 60 (by omega) fun j hj => nthN_app [τ 1, tv', m'] (([Value.int 0 (τ 0)] ++ vals).map tokI) j
      refine fin (nthN ([τ 1, tv', m'] ++ ([Value.int 0 (τ 0)] ++ vals).map tokI)) h2 tk2 (fun j hj => nthN_ge _ j (by simp at hlen ⊢; omega)) ?_
      have e3 : Int.ofNat (1 + n) - 1 = Int.ofNat n := by simp; omega
      have e4 : 1 + n = n + 1 := by omega
      show Nx _ _ _ [dct _ (nthN [τ 1]) [(_, .int (Int.ofNat n) tv')] 1, RIT (Int.ofNat (n + 1)) 0, LST (intsL (tkl _ 3 60) (cutsOf X)) m', _] h h2
      rw [← e, ← e3, ← e4]
      exact N3
  cases hb : w.params.followText "comprehension-iter-twice" with
  | true =>
    have K := S1T_n (S := S) (R := R) (h := h) (tk := tk) w (fun i => ρ (nthN keys i)) ⟨cCS xC1 (ρ (nthN keys 0)) (ρ (nthN keys 1)) (ρ (nthN keys 2)) (ρ (nthN keys 3)) fr, none, none, bl, none⟩ p fr 0 (Int.ofNat (n + 1)) (dct w.params ks [] 0) (LST [] 0) (CELL X tx)
    rw [wCT_eq hb] at K
    exact K G (fun _ z => nomatch z) fun τ h' tk' N => loop _ h' tk' N
  | false =>
    have K := S1F_n (S := S) (R := R) (h := h) (tk := tk) w (fun i => ρ (nthN keys i)) ⟨cCS xC1 (ρ (nthN keys 0)) (ρ (nthN keys 1)) (ρ (nthN keys 2)) (ρ (nthN keys 3)) fr, none, none, bl, none⟩ p fr 0 (Int.ofNat (n + 1)) (dct w.params ks [] 0) (LST [] 0) (CELL X tx)
    rw [wCF_eq hb] at K
    exact K G (fun _ z => nomatch z) fun τ h' tk' N => loop _ h' tk' N
end Mine
end
section -- Ln
open PySem PySem.W PyProof.Rows PySem.Calls
set_option Elab.async false
set_option linter.unusedVariables false
set_option maxRecDepth 100000
set_option maxHeartbeats 0
namespace Mine
noncomputable def LIT (l : Value) (i : Int) : Obj := ⟨.type "list_iterator", none, .fields ⟨[l, .int i 0]⟩, ⟨[]⟩⟩
noncomputable def cLN (it : Nat) : Code := .call (.builtin "list_iterator.__next__") ⟨[.ref it], []⟩
noncomputable def ln0 (it l : Nat) (i : Int) : Sem PySem.Fin := do
  let some xs ← seqItems? (.ref l) | unsupported s!"internal:{"list_iterator.__next__"}"
  match xs[i.toNat]? with
  | some x => setField (.ref it) 1 (rawInt (i + 1)); ret x
  | none => rule s!"{"list_iterator.__next__"}.end"; setField (.ref it) 0 .none; PySem.Builtin.SmallTypes.stopIteration
noncomputable def lnI (it : Nat) (i : Int) (v : Value) : Sem PySem.Fin := do
  setField (.ref it) 1 (rawInt (i + 1)); ret v
noncomputable def lnE (it : Nat) : Sem PySem.Fin := do
  setField (.ref it) 0 .none; PySem.Builtin.SmallTypes.stopIteration
theorem swap_lnI {W : Wd} {ρ : Nat → Nat} {k it l n : Nat} {i : Nat} {items : List Value} {v : Value} (hl : ρ k = l) (hv : items[i]? = some v) : SwapI W ρ ⟨none, [(k, LST items n)], ln0 it l (Int.ofNat i), lnI it (Int.ofNat i) v⟩ := by
  intro Γ p h tk Q E top pre _ H
  have ho : (W.sh h tk).heap.get? l = some (LST items n) := hl ▸ pre (k, _) (List.mem_singleton.mpr rfl)
  show Sem.wp W.M Γ (ln0 it l (Int.ofNat i)) Q E p (W.sh h tk)
  unfold ln0 seqItems?
  simp only [Sem.wp_bind']
  rw [Sem.wp_load_of _ _ _ _ _ ho]
  have hv' : (⟨items⟩ : Array Value)[(Int.ofNat i).toNat]? = some v := by simpa using hv
  show Sem.wp W.M Γ (match (⟨items⟩ : Array Value)[(Int.ofNat i).toNat]? with | some x => _ | none => _) Q E p _
  rw [hv']
  exact H
theorem swap_lnE {W : Wd} {ρ : Nat → Nat} {k it l n : Nat} {i : Nat} {items : List Value} (hl : ρ k = l) (hv : items[i]? = none) : SwapI W ρ ⟨none, [(k, LST items n)], ln0 it l (Int.ofNat i), lnE it⟩ := by
  intro Γ p h tk Q E top pre _ H
  have ho : (W.sh h tk).heap.get? l = some (LST items n) := hl ▸ pre (k, _) (List.mem_singleton.mpr rfl)
  show Sem.wp W.M Γ (ln0 it l (Int.ofNat i)) Q E p (W.sh h tk)
  unfold ln0 seqItems?
  simp only [Sem.wp_bind']
  rw [Sem.wp_load_of _ _ _ _ _ ho]
  have hv' : (⟨items⟩ : Array Value)[(Int.ofNat i).toNat]? = none := by simpa using hv
  show Sem.wp W.M Γ (match (⟨items⟩ : Array Value)[(Int.ofNat i).toNat]? with | some x => _ | none => _) Q E p _
  rw [hv']
  exact H
noncomputable def swI0 (k it l n i : Nat) (items : List Value) (v : Value) : Swap := ⟨none, [(k, LST items n)], ln0 it l (Int.ofNat i), lnI it (Int.ofNat i) v⟩
theorem swI0_r : @swI0 = @swI0 := rfl
lay_quick Mine.swI0
name_quick swIq for Mine.swI0 by Mine.swI0_r
noncomputable abbrev swI (k it l n i : Nat) (items : List Value) (v : Value) : Swap := PySem.W.Fast.swIq k it l n i items v
theorem swI_ok {W : Wd} {ρ' : Nat → Nat} {k it l n i : Nat} {items : List Value} {v : Value} (h : SwapI W ρ' (swI0 k it l n i items v)) : SwapI W ρ' (swI k it l n i items v) := by
  rw [PySem.W.Fast.swIq_eq] at h
  exact h

noncomputable def swN0 (k it l n i : Nat) (items : List Value) : Swap := ⟨none, [(k, LST items n)], ln0 it l (Int.ofNat i), lnE it⟩
theorem swN0_r : @swN0 = @swN0 := rfl
lay_quick Mine.swN0
name_quick swNq for Mine.swN0 by Mine.swN0_r
noncomputable abbrev swN (k it l n i : Nat) (items : List Value) : Swap := PySem.W.Fast.swNq k it l n i items
theorem swN_ok {W : Wd} {ρ' : Nat → Nat} {k it l n i : Nat} {items : List Value} (h : SwapI W ρ' (swN0 k it l n i items)) : SwapI W ρ' (swN k it l n i items) := by
  rw [PySem.W.Fast.swNq_eq] at h
  exact h

noncomputable def LNi (w : World) (a : Nat → Nat) (Γ : Ctx) (p : Pos) (i n : Nat) (items : List Value) (v : Value) : Fr :=
  frF Γ (cLN (a 0)) p 2 [LIT (.ref (a 1)) (Int.ofNat i), LST items n]
    [.swap 2 0 fun ρ τ => swI 1 (ρ 0) (ρ 1) n i items v]
    [] (9) (3381000406043651) (fun _ _ => .inl (.done (.ret v), p)) (fun _ _ => [LIT (.ref (a 1)) (Int.ofNat i + 1), LST items n]) (fun _ _ => [])
theorem LNi_n (w : World) (a : Nat → Nat) (Γ : Ctx) (p : Pos) (i n : Nat) (items : List Value) (v : Value) : (LNi w a Γ p i n items v).SpecN w a := Fr.specN fun ρ τ => by kernel_rfl

noncomputable def LNe (w : World) (a : Nat → Nat) (bl : List (Code × Pos)) (p : Pos) (i n : Nat) (items : List Value) : Fr :=
  frC (bl) (cLN (a 0)) p 2 [LIT (.ref (a 1)) (Int.ofNat i), LST items n]
    [.swap 2 0 fun ρ τ => swN 1 (ρ 0) (ρ 1) n i items]
    [2, 3] (13) (3381000406043651) (fun ρ _ => .inr (.ref (ρ 3))) (fun _ _ => [LIT .none (Int.ofNat i), LST items n]) (fun ρ _ => [TUP [], STOP (ρ 2)])
theorem LNe_n (w : World) (a : Nat → Nat) (bl : List (Code × Pos)) (p : Pos) (i n : Nat) (items : List Value) : (LNe w a bl p i n items).Spec w a := Fr.spec fun ρ τ => by kernel_rfl

noncomputable def lnUse (a : Nat → Nat) (keys : List Nat) (items : List Value) (n i : Nat) (v : Value) : Use :=
  mkUse (cLN (a 0)) none keys [LIT (.ref (a 1)) (Int.ofNat i), LST items n] 0 (fun _ => [LIT (.ref (a 1)) (Int.ofNat i + 1), LST items n]) (fun _ => .ok (.ret v))
theorem ln_spec (w : World) (S : Shared) {ρ : Nat → Nat} {keys : List Nat} {items : List Value} {n i : Nat} {v : Value} (hl : keys.length = 2) (nd : keys.Nodup) (hv : items[i]? = some v) : SpecI (WD w S) ρ (lnUse (fun i => ρ (nthN keys i)) keys items n i v) := by
  refine spec_mk nd hl (fun _ => rfl) fun Γ p h tk R hc hbl G fin => ?_
  have e : Γ = Γ.goto (cLN (ρ (nthN keys 0))) := by obtain ⟨c, _, _, _, _⟩ := Γ; cases hc; rfl
  rw [e]
  refine LNi_n w (fun i => ρ (nthN keys i)) Γ p i n items v G ?_ fun τ h' tk' N => fin (fun _ => 0) h' tk' (fun _ _ => rfl) N
  refine okc ?_ ok0
  exact fun ρ τ => swI_ok (swap_lnI rfl hv)
noncomputable def lneUse (a : Nat → Nat) (bl : List (Code × Pos)) (keys : List Nat) (items : List Value) (n i : Nat) : Use :=
  newUse (cLN (a 0)) (some bl) keys [LIT (.ref (a 1)) (Int.ofNat i), LST items n] 2 0 (fun _ _ => [LIT .none (Int.ofNat i), LST items n]) (fun ν _ => [TUP [], STOP (ν 0)]) (fun ν _ => .error (.ref (ν 1)))
theorem lne_spec (w : World) (S : Shared) {ρ : Nat → Nat} {bl : List (Code × Pos)} {keys : List Nat} {items : List Value} {n i : Nat} (hl : keys.length = 2) (nd : keys.Nodup) (hv : items[i]? = none) : SpecI (WD w S) ρ (lneUse (fun i => ρ (nthN keys i)) bl keys items n i) := by
  refine spec_new nd hl (fun _ _ => rfl) (fun _ _ => rfl) fun Γ p h tk R hc hbl G fin => ?_
  rw [hbl _ rfl]
  refine LNe_n w (fun i => ρ (nthN keys i)) bl p i n items G ?_ fun ρ' τ h' tk' _ N M => fin (nthN [ρ' 2, ρ' 3]) (fun _ => 0) h' tk' (fun j hj => nthN_ge _ j hj) (fun _ _ => rfl) N M
  refine okc ?_ ok0
  exact fun ρ τ => swN_ok (swap_lnE rfl hv)
end Mine
end
section -- Rc
open PySem PySem.W PyProof.Rows PySem.Calls
set_option Elab.async false
set_option linter.unusedVariables false
set_option maxRecDepth 100000
set_option maxHeartbeats 0
namespace Mine
noncomputable def ZIP (f : Value) (its own : Nat) : Obj := ⟨.type "zip", none, .fields ⟨[f, .bool false, .bool false, .ref its, .ref own]⟩, ⟨[]⟩⟩
/-- behind an owned tuple: what a turn of a comprehension goes on with -/
noncomputable def ownC (x : PySem.Expr) (it acc : Nat) (e : Env) (v : Nat) (m : Sem Unit) : Sem PySem.Fin := match x with
  | .ListComp elt [g] sc q => ((m >>= fun _ => assign g.target e (.ref v) >>= fun _ => (eval elt e >>= fun y => call (.builtin "list.append") [.ref acc, y] >>= fun _ => pure ()) >>= fun (_ : Unit) => again (.compLoop (.ListComp elt [g] sc q) 0 (.ref it) (.ref acc) e)).onRaise (fun x => do noteFrame x e; theTreesLotGoes x))
  | _ => .unsupported ""
theorem swap_ownC {W : Wd} {ρ : Nat → Nat} {x : PySem.Expr} {e : Env} {k it acc v : Nat} {n : String} {vs : List Value} (hk : ρ k = it) (hn : ["enumerate", "zip", "dict_itemiterator", "dict_reverseitemiterator", "odict_iterator", "itertools.zip_longest", "itertools.pairwise"].contains n = true) :
    SwapI W ρ ⟨none, [(k, ⟨.type n, none, .fields ⟨.int (Int.ofNat v) 0 :: vs⟩, ⟨[]⟩⟩)], ownC x it acc e v (own0 it v), ownC x it acc e v (own1 it)⟩ := by
  intro Γ p h tk Q E top pre _ H
  have ho : (W.sh h tk).heap.get? it = some ⟨.type n, none, .fields ⟨.int (Int.ofNat v) 0 :: vs⟩, ⟨[]⟩⟩ := hk ▸ pre (k, _) (List.mem_singleton.mpr rfl)
  show Sem.wp W.M Γ (ownC x it acc e v (own0 it v)) Q E p (W.sh h tk)
  have H' : Sem.wp W.M Γ (ownC x it acc e v (own1 it)) Q E p (W.sh h tk) := H
  unfold ownC at H' ⊢
  split at H'
  · rw [Sem.wp_onRaise, Sem.wp_bind'] at H' ⊢
    exact wp_own ho hn H'
  · exact H'.elim
noncomputable def swZ0 (x : PySem.Expr) (e : Env) (ρ : Nat → Nat) : Swap := ⟨none, [(1, ⟨.type "zip", none, .fields ⟨[.int (Int.ofNat (ρ 10)) 0, .bool false, .bool false, .ref (ρ 6), .ref (ρ 7)]⟩, ⟨[]⟩⟩)], ownC x (ρ 1) (ρ 2) e (ρ 10) (own0 (ρ 1) (ρ 10)), ownC x (ρ 1) (ρ 2) e (ρ 10) (own1 (ρ 1))⟩
theorem swZ0_r : @swZ0 = @swZ0 := rfl
lay_quick Mine.swZ0
name_quick swZq for Mine.swZ0 by Mine.swZ0_r
noncomputable abbrev swZ (x : PySem.Expr) (e : Env) (ρ : Nat → Nat) : Swap := PySem.W.Fast.swZq x e ρ
theorem swZ_ok {W : Wd} {ρ' : Nat → Nat} {x : PySem.Expr} {e : Env} {ρ : Nat → Nat} (h : SwapI W ρ' (swZ0 x e ρ)) : SwapI W ρ' (swZ x e ρ) := by
  rw [PySem.W.Fast.swZq_eq] at h
  exact h

/-- the objects of the second comprehension -/
noncomputable def C2O (d : Obj) (a : Nat → Nat) (items : List Value) (m : Nat) (X : List Nat) (tx i : Nat) (l1 l2 : List Value) (n1 n2 : Nat) (v1 v2 : Value) : List Obj :=
  [d, ZIP .none (a 6) (a 7), LST items m, CELL X tx, LIT (.ref (a 8)) (Int.ofNat i), LIT (.ref (a 9)) (Int.ofNat i), TUP [.ref (a 4), .ref (a 5)], TUP [v1, v2], LST l1 n1, LST l2 n2]
noncomputable def C2a (w : World) (a : Nat → Nat) (bl : List (Code × Pos)) (p : Pos) (fr n1 n2 m tx i ta tb : Nat) (A B : Int) (X Y : List Nat) (items l1 l2 : List Value) (ks : Nat → Nat) (v1 v2 : Value) : Fr :=
  frC (bl) (cCL xC2 (a 0) (a 1) (a 2) (a 3) fr) p 10 (C2O (dct w.params ks [] 0) a items m X tx i l1 l2 n1 n2 v1 v2)
    [.use 10 0 fun ρ τ => lnUse (fun i => ρ (nthN [4, 8] i)) [4, 8] l1 n1 i (.int A ta), .use 10 0 fun ρ τ => lnUse (fun i => ρ (nthN [5, 9] i)) [5, 9] l2 n2 i (.int B tb),
     .swap 11 0 fun ρ τ => swZ xC2 (eCP xC2 (ρ 0) (ρ 3) fr) ρ,
     .use 15 2 fun ρ τ => pureUse (.call (.builtin "str.__getitem__") ⟨[.str ⟨⟨X⟩⟩ tx, .ref (ρ 14)], []⟩) none [(14, SLC (.int A ta) (.int B tb))] 1 fun θ => .ok (.ret (.str ⟨⟨Y⟩⟩ (θ 0))),
     .swap 15 3 fun ρ τ => swL 2 (ρ 2) (LSTP items m (.str ⟨⟨Y⟩⟩ (τ 2))) (ret .none)]
    [] (116) (6222231057677685780978253683663085584109952089591888865361640842222291640649487507282871974942143734417135703412894250829248743086639566054096214552612043845121275818321983671511467839332872532637434780239906112745756720487139901444) (fun _ _ => .inl (.again (cCL xC2 (a 0) (a 1) (a 2) (a 3) fr), ⟨786, 12, 786, 22⟩)) (fun _ τ => [dct w.params (nthN [τ 0, τ 1]) [([97], .int A ta), ([98], .int B tb)] 2, ZIP .none (a 6) (a 7), LSTP items m (.str ⟨⟨Y⟩⟩ (τ 2)), CELL X tx, LIT (.ref (a 8)) (Int.ofNat i + 1), LIT (.ref (a 9)) (Int.ofNat i + 1), TUP [.ref (a 4), .ref (a 5)], TUP [.int A ta, .int B tb], LST l1 n1, LST l2 n2]) (fun _ _ => [])
theorem C2a_n (w : World) (a : Nat → Nat) (bl : List (Code × Pos)) (p : Pos) (fr n1 n2 m tx i ta tb : Nat) (A B : Int) (X Y : List Nat) (items l1 l2 : List Value) (ks : Nat → Nat) (v1 v2 : Value) : (C2a w a bl p fr n1 n2 m tx i ta tb A B X Y items l1 l2 ks v1 v2).SpecN w a := Fr.specN fun ρ τ => by kernel_rfl

noncomputable def C2b (w : World) (a : Nat → Nat) (bl : List (Code × Pos)) (p : Pos) (fr n1 n2 m tx i ta tb : Nat) (A B : Int) (X Y : List Nat) (items l1 l2 : List Value) (ks : Nat → Nat) (v1 v2 : Value) (va vb : Value) : Fr :=
  frC (bl) (cCL xC2 (a 0) (a 1) (a 2) (a 3) fr) p 10 (C2O (dct w.params ks [([97], va), ([98], vb)] 2) a items m X tx i l1 l2 n1 n2 v1 v2)
    [.use 10 0 fun ρ τ => lnUse (fun i => ρ (nthN [4, 8] i)) [4, 8] l1 n1 i (.int A ta), .use 10 0 fun ρ τ => lnUse (fun i => ρ (nthN [5, 9] i)) [5, 9] l2 n2 i (.int B tb),
     .swap 11 0 fun ρ τ => swZ xC2 (eCP xC2 (ρ 0) (ρ 3) fr) ρ,
     .use 15 2 fun ρ τ => pureUse (.call (.builtin "str.__getitem__") ⟨[.str ⟨⟨X⟩⟩ tx, .ref (ρ 14)], []⟩) none [(14, SLC (.int A ta) (.int B tb))] 1 fun θ => .ok (.ret (.str ⟨⟨Y⟩⟩ (θ 0))),
     .swap 15 3 fun ρ τ => swL 2 (ρ 2) (LSTP items m (.str ⟨⟨Y⟩⟩ (τ 2))) (ret .none)]
    [] (116) (6222231057677685780978253683663085584109952089591888865361640842222291640649487507282871974942143734417135703412894250829248743086639566054096214552612043845121275818321983671511467839332872532637434780239906112745756720487139901444) (fun _ _ => .inl (.again (cCL xC2 (a 0) (a 1) (a 2) (a 3) fr), ⟨786, 12, 786, 22⟩)) (fun _ τ => [dct w.params ks [([97], .int A ta), ([98], .int B tb)] 2, ZIP .none (a 6) (a 7), LSTP items m (.str ⟨⟨Y⟩⟩ (τ 2)), CELL X tx, LIT (.ref (a 8)) (Int.ofNat i + 1), LIT (.ref (a 9)) (Int.ofNat i + 1), TUP [.ref (a 4), .ref (a 5)], TUP [.int A ta, .int B tb], LST l1 n1, LST l2 n2]) (fun _ _ => [])
theorem C2b_n (w : World) (a : Nat → Nat) (bl : List (Code × Pos)) (p : Pos) (fr n1 n2 m tx i ta tb : Nat) (A B : Int) (X Y : List Nat) (items l1 l2 : List Value) (ks : Nat → Nat) (v1 v2 : Value) (va vb : Value) : (C2b w a bl p fr n1 n2 m tx i ta tb A B X Y items l1 l2 ks v1 v2 va vb).SpecN w a := Fr.specN fun ρ τ => by kernel_rfl

noncomputable def C2e (w : World) (a : Nat → Nat) (bl : List (Code × Pos)) (p : Pos) (fr n1 n2 m tx i : Nat) (X : List Nat) (items l1 l2 : List Value) (d : Obj) (v1 v2 : Value) : Fr :=
  frC (bl) (cCL xC2 (a 0) (a 1) (a 2) (a 3) fr) p 10 (C2O d a items m X tx i l1 l2 n1 n2 v1 v2)
    [.use 10 0 fun ρ τ => lneUse (fun i => ρ (nthN [4, 8] i)) ((.builtin "zip.__next__" ⟨[.ref (ρ 1)], []⟩, ⟨786, 35, 786, 69⟩) :: (cCL xC2 (ρ 0) (ρ 1) (ρ 2) (ρ 3) fr, ⟨786, 35, 786, 69⟩) :: bl) [4, 8] l1 n1 i]
    [] (21) (19518601886102040343992257925876196692721668) (fun _ _ => .inl (.done .next, ⟨786, 35, 786, 69⟩)) (fun _ _ => [d, ZIP .none (a 6) (a 7), LST items m, CELL X tx, LIT .none (Int.ofNat i), LIT (.ref (a 9)) (Int.ofNat i), TUP [.ref (a 4), .ref (a 5)], TUP [v1, v2], LST l1 n1, LST l2 n2]) (fun _ _ => [])
theorem C2e_n (w : World) (a : Nat → Nat) (bl : List (Code × Pos)) (p : Pos) (fr n1 n2 m tx i : Nat) (X : List Nat) (items l1 l2 : List Value) (d : Obj) (v1 v2 : Value) : (C2e w a bl p fr n1 n2 m tx i X items l1 l2 d v1 v2).SpecN w a := Fr.specN fun ρ τ => by kernel_rfl

noncomputable def S2F (w : World) (a : Nat → Nat) (Γ : Ctx) (p : Pos) (fr i o : Nat) (d lo c : Obj) : Fr :=
  frF Γ (cCS xC2 (a 0) (a 1) (a 2) (a 3) fr) p 4 [d, ZIP .none i o, lo, c]
    []
    [] (13) (1185207810337617743872) (fun _ _ => .inl (.again (cCL xC2 (a 0) (a 1) (a 2) (a 3) fr), ⟨786, 35, 786, 69⟩)) (fun _ _ => [d, ZIP .none i o, lo, c]) (fun _ _ => [])
theorem S2F_n (w : World) (a : Nat → Nat) (Γ : Ctx) (p : Pos) (fr i o : Nat) (d lo c : Obj) : (S2F (wCF w) a Γ p fr i o d lo c).SpecN (wCF w) a := Fr.specN fun ρ τ => by kernel_rfl

noncomputable def S2T (w : World) (a : Nat → Nat) (Γ : Ctx) (p : Pos) (fr i o : Nat) (d lo c : Obj) : Fr :=
  frF Γ (cCS xC2 (a 0) (a 1) (a 2) (a 3) fr) p 4 [d, ZIP .none i o, lo, c]
    []
    [] (3) (1024) (fun _ _ => .inl (.again (cCL xC2 (a 0) (a 1) (a 2) (a 3) fr), p)) (fun _ _ => [d, ZIP .none i o, lo, c]) (fun _ _ => [])
theorem S2T_n (w : World) (a : Nat → Nat) (Γ : Ctx) (p : Pos) (fr i o : Nat) (d lo c : Obj) : (S2T (wCT w) a Γ p fr i o d lo c).SpecN (wCT w) a := Fr.specN fun ρ τ => by kernel_rfl

end Mine
end
section -- Rc2
open PySem PySem.W PyProof.Rows PySem.Calls
set_option Elab.async false
set_option linter.unusedVariables false
set_option maxRecDepth 100000
set_option maxHeartbeats 0
namespace Mine
/-- the parts of a text between cuts -/
noncomputable def partsL (X : List Nat) : List Nat → List Nat → List (List Nat)
  | a :: cs, b :: ds => (X.drop a).take (b - a) :: partsL X cs ds
  | _, _ => []
theorem partsL_len (X : List Nat) : ∀ cs ds : List Nat, (partsL X cs ds).length ≤ cs.length
  | [], _ => by simp [partsL]
  | a :: cs, [] => by simp [partsL]
  | a :: cs, b :: ds => Nat.succ_le_succ (partsL_len X cs ds)
theorem nthV_get : ∀ (l : List Value) (i : Nat), i < l.length → l[i]? = some (nthV l i)
  | [], _, h => absurd h (Nat.not_lt_zero _)
  | x :: l, 0, _ => rfl
  | x :: l, i + 1, h => by
    show l[i]? = _
    exact nthV_get l i (Nat.lt_of_succ_lt_succ h)
theorem IntsV.nth : ∀ {vs : List Value} {ks : List Nat}, IntsV vs ks → ∀ i, i < ks.length → ∃ t, nthV vs i = .int (Int.ofNat (nthN ks i)) t
  | _, _, .nil, _, h => absurd h (Nat.not_lt_zero _)
  | _, _, .cons k t _, 0, _ => ⟨t, rfl⟩
  | _, _, .cons k t h, i + 1, hi => h.nth i (Nat.lt_of_succ_lt_succ hi)
theorem drop_nth : ∀ (l : List Nat) (i : Nat), i < l.length → l.drop i = nthN l i :: l.drop (i + 1)
  | [], _, h => absurd h (Nat.not_lt_zero _)
  | x :: l, 0, _ => rfl
  | x :: l, i + 1, h => drop_nth l i (Nat.lt_of_succ_lt_succ h)
theorem c2_cuts (w : World) (S : Shared) {X : List Nat} {tx n1 n2 m i fr : Nat} {A B ta tb : Nat} {l1 l2 items : List Value} (h1 : l1[i]? = some (.int (Int.ofNat A) ta)) (h2 : l2[i]? = some (.int (Int.ofNat B) tb)) (hab : A ≤ B) (hB : B ≤ X.length) (hX : X.length ≤ 60) (hi : items.length < 1000) :
    ∀ f ∈ ([.use 10 0 fun ρ τ => lnUse (fun i => ρ (nthN [4, 8] i)) [4, 8] l1 n1 i (.int (Int.ofNat A) ta), .use 10 0 fun ρ τ => lnUse (fun i => ρ (nthN [5, 9] i)) [5, 9] l2 n2 i (.int (Int.ofNat B) tb),
     .swap 11 0 fun ρ τ => swZ xC2 (eCP xC2 (ρ 0) (ρ 3) fr) ρ,
     .use 15 2 fun ρ τ => pureUse (.call (.builtin "str.__getitem__") ⟨[.str ⟨⟨X⟩⟩ tx, .ref (ρ 14)], []⟩) none [(14, SLC (.int (Int.ofNat A) ta) (.int (Int.ofNat B) tb))] 1 fun θ => .ok (.ret (.str ⟨⟨(X.drop A).take (B - A)⟩⟩ (θ 0))),
     .swap 15 3 fun ρ τ => swL 2 (ρ 2) (LSTP items m (.str ⟨⟨(X.drop A).take (B - A)⟩⟩ (τ 2))) (ret .none)] : List CutF), CutF.Ok (WD w S) f := by
  have hs : sizeLine = 16777216 := rfl
  refine okc ?_ (okc ?_ (okc ?_ (okc ?_ (okc ?_ ok0))))
  · exact ok_mk (fun _ _ => rfl) fun ρ τ => ln_spec w S (keys := [4, 8]) rfl (by decide) h1
  · exact ok_mk (fun _ _ => rfl) fun ρ τ => ln_spec w S (keys := [5, 9]) rfl (by decide) h2
  · exact fun ρ τ => swZ_ok (swap_ownC rfl (by decide))
  · exact ok_pure fun ρ τ => use_slice w S rfl rfl hab hB (by omega) rfl
  · intro ρ τ
    dsimp only
    rw [LSTP_is]
    exact swL_ok (swap_look (by simp; omega))
noncomputable abbrev C2F (w : World) (S : Shared) (a : Nat → Nat) (X : List Nat) (tx : Nat) (l1 l2 : List Value) (n1 n2 n : Nat) (items : List Value) (R : Result → Shared → Prop) (h : Heap) (ps : List (List Nat)) : Prop :=
  ∀ (vals : List Value) (ks : Nat → Nat) (m : Nat) (h' : Heap) (tk : Nat), StrsAre vals (ps.map mkS) →
    Nx (WD w S) 10 a [dct w.params ks [([97], nthV l1 (n - 1)), ([98], nthV l2 (n - 1))] 2, ZIP .none (a 6) (a 7), LST (items ++ vals) m, CELL X tx, LIT .none (Int.ofNat n), LIT (.ref (a 9)) (Int.ofNat n), TUP [.ref (a 4), .ref (a 5)], TUP [nthV l1 (n - 1), nthV l2 (n - 1)], LST l1 n1, LST l2 n2] h h' → R (.ok .next) ((WD w S).sh h' tk)
theorem c2_later {w : World} {S : Shared} {a : Nat → Nat} {bl : List (Code × Pos)} {fr tx n1 n2 : Nat} {X cs ds : List Nat} {l1 l2 : List Value} (hX : X.length ≤ 60) (i1 : IntsV l1 cs) (i2 : IntsV l2 ds) (hl : ds.length = cs.length) (hcd : ∀ i, i < cs.length → nthN cs i ≤ nthN ds i ∧ nthN ds i ≤ X.length) (hc : cs.length ≤ 60)
    {R : Result → Shared → Prop} : ∀ (j i : Nat) (ks : Nat → Nat) (items : List Value) (m : Nat) (p : Pos) (h : Heap) (tk : Nat), 1 ≤ i → i + j = cs.length → items.length ≤ i →
    Given (WD w S) a (C2O (dct w.params ks [([97], nthV l1 (i - 1)), ([98], nthV l2 (i - 1))] 2) a items m X tx i l1 l2 n1 n2 (nthV l1 (i - 1)) (nthV l2 (i - 1))) h →
    C2F w S a X tx l1 l2 n1 n2 cs.length items R h (partsL X (cs.drop i) (ds.drop i)) →
    wpCode (model pwR w) ⟨cCL xC2 (a 0) (a 1) (a 2) (a 3) fr, none, none, bl, none⟩ R p ((WD w S).sh h tk)
  | 0, i, ks, items, m, p, h, tk, hi, hij, hil, G, F => by
    have e : i = cs.length := by omega
    subst e
    refine C2e_n w a bl p fr n1 n2 m tx cs.length X items l1 l2 _ _ _ G ?_ fun τ h' tk' N => ?_
    · refine okc ?_ ok0
      refine ok_new (fun _ _ => rfl) fun ρ τ => lne_spec w S (keys := [4, 8]) rfl (by decide) ?_
      rw [List.getElem?_eq_none_iff, intsV_len i1]
      exact Nat.le_refl _
    · refine F [] ks m h' tk' ?_ (by rw [List.append_nil]; exact N)
      rw [List.drop_length]
      exact .nil
  | j + 1, i, ks, items, m, p, h, tk, hi, hij, hil, G, F => by
    have lt : i < cs.length := by omega
    obtain ⟨ta, e1⟩ := i1.nth i lt
    obtain ⟨tb, e2⟩ := i2.nth i (by omega)
    have g1 : l1[i]? = some (.int (Int.ofNat (nthN cs i)) ta) := by rw [nthV_get l1 i (by rw [intsV_len i1]; exact lt), e1]
    have g2 : l2[i]? = some (.int (Int.ofNat (nthN ds i)) tb) := by rw [nthV_get l2 i (by rw [intsV_len i2]; omega), e2]
    obtain ⟨b1, b2⟩ := hcd i lt
    refine C2b_n w a bl p fr n1 n2 m tx i ta tb _ _ X _ items l1 l2 ks _ _ _ _ G (c2_cuts w S g1 g2 b1 b2 hX (by omega)) fun τ h1 tk1 N => ?_
    dsimp only [C2b, frC, frF] at N
    rw [LSTP_is, ← e1, ← e2] at N
    refine c2_later hX i1 i2 hl hcd hc j (i + 1) ks _ (m + 1) _ h1 tk1 (by omega) (by omega) (by simp; omega) N.given fun vals ks' m' h2 tk2 hv N2 => ?_
    have N3 := N.trans N2
    rw [List.append_assoc] at N3
    refine F _ ks' m' h2 tk2 ?_ N3
    rw [drop_nth cs i lt, drop_nth ds i (by omega)]
    exact .cons _ _ hv
noncomputable def c2Use (P : Params) (a : Nat → Nat) (fr : Nat) (bl : List (Code × Pos)) (keys : List Nat) (ks : Nat → Nat) (X : List Nat) (tx : Nat) (l1 l2 : List Value) (n1 n2 n : Nat) (ps : List (List Nat)) : Use :=
  mkUse (cCS xC2 (a 0) (a 1) (a 2) (a 3) fr) (some bl) keys (C2O (dct P ks [] 0) a [] 0 X tx 0 l1 l2 n1 n2 .none .none) 64
    (fun θ => [dct P (nthN [θ 0, θ 1]) [([97], nthV l1 (n - 1)), ([98], nthV l2 (n - 1))] 2, ZIP .none (a 6) (a 7), LST (strsL (tkl θ 4 60) ps) (θ 2), CELL X tx, LIT .none (Int.ofNat n), LIT (.ref (a 9)) (Int.ofNat n), TUP [.ref (a 4), .ref (a 5)], TUP [nthV l1 (n - 1), nthV l2 (n - 1)], LST l1 n1, LST l2 n2]) (fun _ => .ok .next)
theorem c2_spec (w : World) (S : Shared) {ρ : Nat → Nat} {fr tx n1 n2 : Nat} {bl : List (Code × Pos)} {keys : List Nat} {ks : Nat → Nat} {X cs ds : List Nat} {l1 l2 : List Value} (hk : keys.length = 10) (nd : keys.Nodup) (hX : X.length ≤ 60) (i1 : IntsV l1 cs) (i2 : IntsV l2 ds) (hl : ds.length = cs.length) (hcd : ∀ i, i < cs.length → nthN cs i ≤ nthN ds i ∧ nthN ds i ≤ X.length) (hc : cs.length ≤ 60) (h1 : 1 ≤ cs.length) :
    SpecI (WD w S) ρ (c2Use w.params (fun i => ρ (nthN keys i)) fr bl keys ks X tx l1 l2 n1 n2 cs.length (partsL X cs ds)) := by
  refine spec_mk nd hk (fun _ => rfl) fun Γ p h tk R hc' hbl G fin => ?_
  rw [hbl _ rfl]
  have loop : ∀ (p' : Pos) (h0 : Heap) (tk0 : Nat), Nx (WD w S) 10 (fun i => ρ (nthN keys i)) (C2O (dct w.params ks [] 0) (fun i => ρ (nthN keys i)) [] 0 X tx 0 l1 l2 n1 n2 .none .none) h h0 →
      wpCode (model pwR w) ⟨cCL xC2 (ρ (nthN keys 0)) (ρ (nthN keys 1)) (ρ (nthN keys 2)) (ρ (nthN keys 3)) fr, none, none, bl, none⟩ R p' ((WD w S).sh h0 tk0) := fun p' h0 tk0 N0 => by
    obtain ⟨ta, e1⟩ := i1.nth 0 (by omega)
    obtain ⟨tb, e2⟩ := i2.nth 0 (by omega)
    have g1 : l1[0]? = some (.int (Int.ofNat (nthN cs 0)) ta) := by rw [nthV_get l1 0 (by rw [intsV_len i1]; omega), e1]
    have g2 : l2[0]? = some (.int (Int.ofNat (nthN ds 0)) tb) := by rw [nthV_get l2 0 (by rw [intsV_len i2]; omega), e2]
    obtain ⟨b1, b2⟩ := hcd 0 (by omega)
    refine C2a_n w (fun i => ρ (nthN keys i)) bl p' fr n1 n2 0 tx 0 ta tb _ _ X _ [] l1 l2 ks _ _ N0.given (c2_cuts w S g1 g2 b1 b2 hX (by simp)) fun τ h1' tk1 N => ?_
    dsimp only [C2a, frC, frF] at N
    rw [LSTP_is, ← e1, ← e2] at N
    refine c2_later hX i1 i2 hl hcd hc (cs.length - 1) 1 _ _ 1 _ h1' tk1 (Nat.le_refl _) (by omega) (by simp) N.given fun vals ks' m' h2 tk2 hv N2 => ?_
    have N3 := (N0.trans N).trans N2
    have hv' : StrsAre (Value.str ⟨⟨(X.drop (nthN cs 0)).take (nthN ds 0 - nthN cs 0)⟩⟩ (τ 2) :: vals) ((partsL X cs ds).map mkS) := by
      have d1 := drop_nth cs 0 (by omega)
      have d2 := drop_nth ds 0 (by omega)
      rw [List.drop_zero] at d1 d2
      rw [d1, d2]
      exact .cons _ _ hv
    have hlen := strs_len hv'
    have hpl := partsL_len X cs ds
    have e := strsL_of hv' (nthN ([ks' 0, ks' 1, m', 0] ++ (Value.str ⟨⟨(X.drop (nthN cs 0)).take (nthN ds 0 - nthN cs 0)⟩⟩ (τ 2) :: vals).map tokOf)) 4 60 (by omega) fun j hj => nthN_app [ks' 0, ks' 1, m', 0] ((Value.str ⟨⟨(X.drop (nthN cs 0)).take (nthN ds 0 - nthN cs 0)⟩⟩ (τ 2) :: vals).map tokOf) j
    refine fin (nthN ([ks' 0, ks' 1, m', 0] ++ (Value.str ⟨⟨(X.drop (nthN cs 0)).take (nthN ds 0 - nthN cs 0)⟩⟩ (τ 2) :: vals).map tokOf)) h2 tk2 (fun j hj => nthN_ge _ j (by rw [List.length_append, List.length_map, hlen]; simp; omega)) ?_
    show Nx _ _ _ [dct _ (nthN [ks' 0, ks' 1]) _ 2, _, LST (strsL (tkl _ 4 60) (partsL X cs ds)) m', _, _, _, _, _, _, _] h h2
    rw [← e]
    exact N3
  have G4 := G.sub [0, 1, 2, 3] (by decide) (by intro k hk; simp [C2O] at hk ⊢; omega)
  have fin4 : ∀ h' : Heap, Nx (WD w S) 4 (fun i => ρ (nthN keys (nthN [0, 1, 2, 3] i))) [dct w.params ks [] 0, ZIP .none (ρ (nthN keys 6)) (ρ (nthN keys 7)), LST [] 0, CELL X tx] h h' → Nx (WD w S) 10 (fun i => ρ (nthN keys i)) (C2O (dct w.params ks [] 0) (fun i => ρ (nthN keys i)) [] 0 X tx 0 l1 l2 n1 n2 .none .none) h h' := fun h' N =>
    Nx.sub (g := 10) G [0, 1, 2, 3] (by decide) (by intro k hk; simp [C2O] at hk ⊢; omega) N rfl
  cases hb : w.params.followText "comprehension-iter-twice" with
  | true =>
    have K := S2T_n (S := S) (R := R) (h := h) (tk := tk) w (fun i => ρ (nthN keys (nthN [0, 1, 2, 3] i))) ⟨cCS xC2 (ρ (nthN keys 0)) (ρ (nthN keys 1)) (ρ (nthN keys 2)) (ρ (nthN keys 3)) fr, none, none, bl, none⟩ p fr (ρ (nthN keys 6)) (ρ (nthN keys 7)) (dct w.params ks [] 0) (LST [] 0) (CELL X tx)
    rw [wCT_eq hb] at K
    exact K G4 (fun _ z => nomatch z) fun τ h' tk' N => loop _ h' tk' (fin4 h' N)
  | false =>
    have K := S2F_n (S := S) (R := R) (h := h) (tk := tk) w (fun i => ρ (nthN keys (nthN [0, 1, 2, 3] i))) ⟨cCS xC2 (ρ (nthN keys 0)) (ρ (nthN keys 1)) (ρ (nthN keys 2)) (ρ (nthN keys 3)) fr, none, none, bl, none⟩ p fr (ρ (nthN keys 6)) (ρ (nthN keys 7)) (dct w.params ks [] 0) (LST [] 0) (CELL X tx)
    rw [wCF_eq hb] at K
    exact K G4 (fun _ z => nomatch z) fun τ h' tk' N => loop _ h' tk' (fin4 h' N)
end Mine
end
section -- Lsl
open PySem PySem.W PyProof.Rows PySem.Calls
set_option Elab.async false
set_option linter.unusedVariables false
set_option maxRecDepth 100000
set_option maxHeartbeats 0
namespace Mine
noncomputable def sl0 (l : Nat) (lo hi st : Value) : Sem PySem.Fin := do
  let xs ← Builtin.List.listItems (.ref l)
  let (start, stop, step) ← sliceIndices lo hi st xs.size
  ret (← newObj (.type "list") (.seq ((sliceRange start stop step).filterMap (xs[·]?)).toArray))
noncomputable def sl1 (items : List Value) : Sem PySem.Fin := alloc (LST items 0) >>= fun a => ret (.ref a)
theorem swap_sl {W : Wd} {ρ : Nat → Nat} {k l n : Nat} {items items' : List Value} {lo hi : Option Int} (hl : ρ k = l) (hp : slicePick ⟨items⟩ lo hi none = ⟨items'⟩) (hs : items'.length ≤ sizeLine) : SwapI W ρ ⟨none, [(k, LST items n)], sl0 l (rawPart lo) (rawPart hi) (rawPart none), sl1 items'⟩ := by
  intro Γ p h tk Q E top pre _ H
  have ho : (W.sh h tk).heap.get? l = some (LST items n) := hl ▸ pre (k, _) (List.mem_singleton.mpr rfl)
  show Sem.wp W.M Γ (sl0 l (rawPart lo) (rawPart hi) (rawPart none)) Q E p (W.sh h tk)
  unfold sl0 Builtin.List.listItems seqItems?
  simp only [Sem.wp_bind']
  rw [Sem.wp_load_of _ _ _ _ _ ho]
  show Sem.wp W.M Γ (sliceIndices (rawPart lo) (rawPart hi) (rawPart none) (⟨items⟩ : Array Value).size) _ E p _
  rw [sliceIndices_raw lo hi none _ (by simp), Sem.wp_pure']
  show Sem.wp W.M Γ (newObj (.type "list") (.seq (slicePick ⟨items⟩ lo hi none))) _ E p _
  rw [hp]
  unfold newObj
  simp only [Sem.wp_bind']
  rw [if_neg (by show ¬ items'.length > sizeLine; omega)]
  exact H
noncomputable def swS0 (l n : Nat) (items : List Value) (lo hi : Option Int) (items' : List Value) : Swap := ⟨none, [(0, LST items n)], sl0 l (rawPart lo) (rawPart hi) (rawPart none), sl1 items'⟩
theorem swS0_r : @swS0 = @swS0 := rfl
lay_quick Mine.swS0
name_quick swSq for Mine.swS0 by Mine.swS0_r
noncomputable abbrev swS (l n : Nat) (items : List Value) (lo hi : Option Int) (items' : List Value) : Swap := PySem.W.Fast.swSq l n items lo hi items'
theorem swS_ok {W : Wd} {ρ' : Nat → Nat} {l n : Nat} {items : List Value} {lo hi : Option Int} {items' : List Value} (h : SwapI W ρ' (swS0 l n items lo hi items')) : SwapI W ρ' (swS l n items lo hi items') := by
  rw [PySem.W.Fast.swSq_eq] at h
  exact h

noncomputable def SL3 (x y : Value) : Obj := ⟨.type "slice", none, .fields ⟨[x, y, .none]⟩, ⟨[]⟩⟩
noncomputable def cLS (l s : Nat) : Code := .call (.builtin "list.__getitem__") ⟨[.ref l, .ref s], []⟩
noncomputable def LSa (w : World) (a : Nat → Nat) (Γ : Ctx) (p : Pos) (n t : Nat) (items items' : List Value) : Fr :=
  frF Γ (cLS (a 0) (a 1)) p 2 [LST items n, SL3 (.int 1 t) .none]
    [.swap 2 0 fun ρ τ => swS (ρ 0) n items (some 1) none items']
    [2] (11) (2310351011186741251) (fun ρ _ => .inl (.done (.ret (.ref (ρ 2))), p)) (fun _ _ => [LST items n, SL3 (.int 1 t) .none]) (fun _ _ => [LST items' 0])
theorem LSa_n (w : World) (a : Nat → Nat) (Γ : Ctx) (p : Pos) (n t : Nat) (items items' : List Value) : (LSa w a Γ p n t items items').Spec w a := Fr.spec fun ρ τ => by kernel_rfl

noncomputable def LSb (w : World) (a : Nat → Nat) (Γ : Ctx) (p : Pos) (n t : Nat) (items items' : List Value) : Fr :=
  frF Γ (cLS (a 0) (a 1)) p 2 [LST items n, SL3 .none (.int 3 t)]
    [.swap 2 0 fun ρ τ => swS (ρ 0) n items none (some 3) items']
    [2] (11) (2310351011186741251) (fun ρ _ => .inl (.done (.ret (.ref (ρ 2))), p)) (fun _ _ => [LST items n, SL3 .none (.int 3 t)]) (fun _ _ => [LST items' 0])
theorem LSb_n (w : World) (a : Nat → Nat) (Γ : Ctx) (p : Pos) (n t : Nat) (items items' : List Value) : (LSb w a Γ p n t items items').Spec w a := Fr.spec fun ρ τ => by kernel_rfl

noncomputable def lsUse (a : Nat → Nat) (keys : List Nat) (items : List Value) (n : Nat) (x y : Value) (items' : List Value) : Use :=
  newUse (cLS (a 0) (a 1)) none keys [LST items n, SL3 x y] 1 0 (fun _ _ => [LST items n, SL3 x y]) (fun _ _ => [LST items' 0]) (fun ν _ => .ok (.ret (.ref (ν 0))))
theorem lsa_spec (w : World) (S : Shared) {ρ : Nat → Nat} {keys : List Nat} {items : List Value} {n t : Nat} (hl : keys.length = 2) (nd : keys.Nodup) (h1 : 1 ≤ items.length) (hs : items.length ≤ 1000) : SpecI (WD w S) ρ (lsUse (fun i => ρ (nthN keys i)) keys items n (.int 1 t) .none (items.drop 1)) := by
  refine spec_new nd hl (fun _ _ => rfl) (fun _ _ => rfl) fun Γ p h tk R hc hbl G fin => ?_
  have e : Γ = Γ.goto (cLS (ρ (nthN keys 0)) (ρ (nthN keys 1))) := by obtain ⟨c, _, _, _, _⟩ := Γ; cases hc; rfl
  rw [e]
  refine LSa_n w (fun i => ρ (nthN keys i)) Γ p n t items (items.drop 1) G ?_ fun ρ' τ h' tk' _ N M => fin (nthN [ρ' 2]) (fun _ => 0) h' tk' (fun j hj => nthN_ge _ j hj) (fun _ _ => rfl) N M
  refine okc ?_ ok0
  refine fun ρ τ => swS_ok (swap_sl rfl ?_ ?_)
  · have := slicePick_from ⟨items⟩ 1 h1
    exact this
  · have : sizeLine = 16777216 := rfl
    rw [List.length_drop]; omega
theorem take3 (items : List Value) : slicePick ⟨items⟩ none (some 3) none = ⟨items.take 3⟩ := by
  by_cases h : 3 ≤ items.length
  · exact slicePick_upto ⟨items⟩ 3 h
  · have h2 : items.take 3 = items := List.take_of_length_le (by omega)
    rw [h2]
    have e : sliceBounds none (some 3) none (⟨items⟩ : Array Value).size = sliceBounds none none none (⟨items⟩ : Array Value).size := by
      show (_, _, _) = (_, _, _)
      have : ((⟨items⟩ : Array Value).size : Int) ≤ 3 := by show (items.length : Int) ≤ 3; omega
      simp [sliceBounds]
      omega
    have := slicePick_all ⟨items⟩
    unfold slicePick at this ⊢
    rw [e]
    exact this
theorem lsb_spec (w : World) (S : Shared) {ρ : Nat → Nat} {keys : List Nat} {items : List Value} {n t : Nat} (hl : keys.length = 2) (nd : keys.Nodup) : SpecI (WD w S) ρ (lsUse (fun i => ρ (nthN keys i)) keys items n .none (.int 3 t) (items.take 3)) := by
  refine spec_new nd hl (fun _ _ => rfl) (fun _ _ => rfl) fun Γ p h tk R hc hbl G fin => ?_
  have e : Γ = Γ.goto (cLS (ρ (nthN keys 0)) (ρ (nthN keys 1))) := by obtain ⟨c, _, _, _, _⟩ := Γ; cases hc; rfl
  rw [e]
  refine LSb_n w (fun i => ρ (nthN keys i)) Γ p n t items (items.take 3) G ?_ fun ρ' τ h' tk' _ N M => fin (nthN [ρ' 2]) (fun _ => 0) h' tk' (fun j hj => nthN_ge _ j hj) (fun _ _ => rfl) N M
  refine okc ?_ ok0
  refine fun ρ τ => swS_ok (swap_sl rfl (take3 items) ?_)
  rw [List.length_take]
  exact Nat.le_trans (Nat.min_le_left _ _) (by decide)
noncomputable def cLA (l b : Nat) : Code := .call (.builtin "list.__add__") ⟨[.ref l, .ref b], []⟩
noncomputable def laUse (a : Nat → Nat) (keys : List Nat) (l1 l2 : List Value) (n1 n2 : Nat) : Use :=
  newUse (cLA (a 0) (a 1)) none keys [LST l1 n1, LST l2 n2] 1 0 (fun _ _ => [LST l1 n1, LST l2 n2]) (fun _ _ => [LST (l1 ++ l2) 0]) (fun ν _ => .ok (.ret (.ref (ν 0))))
theorem la_spec (w : World) (S : Shared) {ρ : Nat → Nat} {keys : List Nat} {l1 l2 : List Value} {n1 n2 : Nat} (hl : keys.length = 2) (nd : keys.Nodup) (hs : l1.length + l2.length ≤ 1000) : SpecI (WD w S) ρ (laUse (fun i => ρ (nthN keys i)) keys l1 l2 n1 n2) := by
  refine spec_new nd hl (fun _ _ => rfl) (fun _ _ => rfl) fun Γ p h tk R hc' hbl G fin => ?_
  unfold cLA at hc'
  refine code_at (fun A => ?_) hc' p
  have h1 : h.get? (ρ (nthN keys 0)) = some (LST l1 n1) := G.at_ 0 (by simp)
  have h2 : h.get? (ρ (nthN keys 1)) = some (LST l2 n2) := G.at_ 1 (by simp)
  have hT : Shared.TypeIs ((WD w S).sh h tk) (.ref (ρ (nthN keys 0))) "list" := ⟨_, h1, rfl⟩
  have hc : (⟨l1⟩ : Array Value).size + (⟨l2⟩ : Array Value).size ≤ sizeLine := by
    have : sizeLine = 16777216 := rfl
    show l1.length + l2.length ≤ _
    omega
  refine codeAny_call_builtin F.slot_list_add.plain F.entry_list_add (F.slot_list_add.check _ _ _ _ _ _ _ _ hT (F.args_list_add_2 _ _) (AutoSeq1.list___add___list_list_0 _ ⟨l1⟩ n1 _ ⟨l2⟩ n2 hc pwR w A R _ ⟨h1, h2, ?_⟩))
  have e : (⟨l1⟩ : Array Value) ++ ⟨l2⟩ = ⟨l1 ++ l2⟩ := by simp
  rw [e]
  have hnew : (h.push (LST (l1 ++ l2) 0)).get? h.objs.size = some (LST (l1 ++ l2) 0) := Heap.get?_push_size _ rfl
  have keep : ∀ b o, h.get? b = some o → (h.push (LST (l1 ++ l2) 0)).get? b = some o := fun b o hb => Heap.get?_push_of_some _ hb
  refine fin (nthN [h.objs.size]) (fun _ => 0) (h.push (LST (l1 ++ l2) 0)) tk (fun j hj => nthN_ge _ j hj) (fun _ _ => rfl) ⟨⟨fun a o ha => keep a o (G.top a o ha), Nat.le_trans G.big (by rw [Heap.size_push]; exact Nat.le_succ _), fun i hi => keep _ _ (G.at_ i hi), G.ge, G.inj⟩, rfl, by rw [Heap.size_push]; exact Nat.le_succ _, fun b o hb _ => keep b o hb⟩ ⟨fun j hj => ?_, fun i j hi hj _ => by simp at hi hj; omega⟩
  have : j = 0 := by simpa using hj
  subst this
  exact ⟨hnew, Nat.le_refl _⟩
end Mine
end
section -- Rf
open PySem PySem.W PyProof.Rows PySem.Calls
set_option Elab.async false
set_option linter.unusedVariables false
set_option maxRecDepth 100000
set_option maxHeartbeats 0
namespace Mine
noncomputable def xDU : Stmt := st [53]
noncomputable def eDU (c : Nat → Nat) (fr : Nat) : Env := { envOf xDU (s [95, 108, 97, 119, 95, 100, 117, 101, 46, 60, 108, 111, 99, 97, 108, 115, 62, 46]) 827 826 fr with cells := [((s [114, 111, 119]), c 2), ((s [112, 97, 105, 114, 115]), c 1), ((s [116, 105, 109, 101, 115]), c 0)] }
noncomputable def cDU (c : Nat → Nat) (fr : Nat) : Code := .func (fBody xDU) (eDU c fr)
noncomputable def cRNc (X : List Nat) (tx : Nat) : Code := .call (.ref 808) ⟨[.str ⟨⟨X⟩⟩ tx], []⟩
noncomputable def blDU (st : Nat → Nat) (pp : Nat → Pos) (c : Nat → Nat) (fd : Nat) (q : Pos) : List (Code × Pos) := (cDU c fd, q) :: blLaw st pp
noncomputable def RN12 (w : World) (a st c : Nat → Nat) (pp : Nat → Pos) (p q : Pos) (fd tx nn : Nat) (X cs : List Nat) (ps : List (List Nat)) : Fr :=
  frC (blDU st pp c fd q) (cRNc X tx) p 0 []
    [.fn "len" [.str ⟨⟨X⟩⟩] (.int 12),
     .use 6 3 fun ρ τ => c1Use w.params (fun i => ρ (nthN [5, 3, 4, 1] i)) (ρ 0) ((cRN (ρ 1) (ρ 0), ⟨785, 11, 785, 109⟩) :: blDU st pp c fd q) [5, 3, 4, 1] (fun _ => 0) X tx 11 cs,
     .use 7 68 fun ρ τ => lsUse (fun i => ρ (nthN [4, 6] i)) [4, 6] (intsL (tkl τ 6 60) cs) (τ 5) (.int 1 (τ 67)) .none ((intsL (tkl τ 6 60) cs).drop 1),
     .fn "len" [.str ⟨⟨X⟩⟩] (.int 12),
     .use 9 69 fun ρ τ => laUse (fun i => ρ (nthN [7, 8] i)) [7, 8] ((intsL (tkl τ 6 60) cs).drop 1) [.int 12 (τ 68)] 0 0,
     .use 17 69 fun ρ τ => c2Use w.params (fun i => ρ (nthN [16, 14, 15, 1, 10, 11, 12, 13, 4, 9] i)) (ρ 0) ((cRN (ρ 1) (ρ 0), ⟨786, 35, 786, 69⟩) :: blDU st pp c fd q) [16, 14, 15, 1, 10, 11, 12, 13, 4, 9] (fun _ => 0) X tx (intsL (tkl τ 6 60) cs) ((intsL (tkl τ 6 60) cs).drop 1 ++ [.int 12 (τ 68)]) (τ 5) 0 nn ps]
    [15] (164) (129859704924200484191246793636180856615423406484912586451941753855598759180578963342442995878824678680982853203461545581549427335888221800745710016792746678516827193976668319214105380277491903456748747383804658486463780667628893877393171521994752) (fun ρ _ => .inl (.done (.ret (.ref (ρ 15))), ⟨786, 35, 786, 69⟩)) (fun _ _ => []) (fun _ τ => [LST (strsL (tkl τ 73 60) ps) (τ 71)])
theorem RN12_n (w : World) (a st c : Nat → Nat) (pp : Nat → Pos) (p q : Pos) (fd tx nn : Nat) (X cs : List Nat) (ps : List (List Nat)) : (RN12 w a st c pp p q fd tx nn X cs ps).Spec w a := Fr.spec fun ρ τ => by kernel_rfl

noncomputable def RN14 (w : World) (a st c : Nat → Nat) (pp : Nat → Pos) (p q : Pos) (fd tx nn : Nat) (X cs : List Nat) (ps : List (List Nat)) : Fr :=
  frC (blDU st pp c fd q) (cRNc X tx) p 0 []
    [.fn "len" [.str ⟨⟨X⟩⟩] (.int 14),
     .use 6 3 fun ρ τ => c1Use w.params (fun i => ρ (nthN [5, 3, 4, 1] i)) (ρ 0) ((cRN (ρ 1) (ρ 0), ⟨785, 11, 785, 109⟩) :: blDU st pp c fd q) [5, 3, 4, 1] (fun _ => 0) X tx 13 cs,
     .use 7 68 fun ρ τ => lsUse (fun i => ρ (nthN [4, 6] i)) [4, 6] (intsL (tkl τ 6 60) cs) (τ 5) (.int 1 (τ 67)) .none ((intsL (tkl τ 6 60) cs).drop 1),
     .fn "len" [.str ⟨⟨X⟩⟩] (.int 14),
     .use 9 69 fun ρ τ => laUse (fun i => ρ (nthN [7, 8] i)) [7, 8] ((intsL (tkl τ 6 60) cs).drop 1) [.int 14 (τ 68)] 0 0,
     .use 17 69 fun ρ τ => c2Use w.params (fun i => ρ (nthN [16, 14, 15, 1, 10, 11, 12, 13, 4, 9] i)) (ρ 0) ((cRN (ρ 1) (ρ 0), ⟨786, 35, 786, 69⟩) :: blDU st pp c fd q) [16, 14, 15, 1, 10, 11, 12, 13, 4, 9] (fun _ => 0) X tx (intsL (tkl τ 6 60) cs) ((intsL (tkl τ 6 60) cs).drop 1 ++ [.int 14 (τ 68)]) (τ 5) 0 nn ps]
    [15] (164) (129859704924200484191246793636180856615423406484912586451941753855598759180578963342442995878824678680982853203461545581549427335888221800745710016792746678516827193976668319214105380277491903456748747383804658486463780667628893877393171521994752) (fun ρ _ => .inl (.done (.ret (.ref (ρ 15))), ⟨786, 35, 786, 69⟩)) (fun _ _ => []) (fun _ τ => [LST (strsL (tkl τ 73 60) ps) (τ 71)])
theorem RN14_n (w : World) (a st c : Nat → Nat) (pp : Nat → Pos) (p q : Pos) (fd tx nn : Nat) (X cs : List Nat) (ps : List (List Nat)) : (RN14 w a st c pp p q fd tx nn X cs ps).Spec w a := Fr.spec fun ρ τ => by kernel_rfl

noncomputable def RN16 (w : World) (a st c : Nat → Nat) (pp : Nat → Pos) (p q : Pos) (fd tx nn : Nat) (X cs : List Nat) (ps : List (List Nat)) : Fr :=
  frC (blDU st pp c fd q) (cRNc X tx) p 0 []
    [.fn "len" [.str ⟨⟨X⟩⟩] (.int 16),
     .use 6 3 fun ρ τ => c1Use w.params (fun i => ρ (nthN [5, 3, 4, 1] i)) (ρ 0) ((cRN (ρ 1) (ρ 0), ⟨785, 11, 785, 109⟩) :: blDU st pp c fd q) [5, 3, 4, 1] (fun _ => 0) X tx 15 cs,
     .use 7 68 fun ρ τ => lsUse (fun i => ρ (nthN [4, 6] i)) [4, 6] (intsL (tkl τ 6 60) cs) (τ 5) (.int 1 (τ 67)) .none ((intsL (tkl τ 6 60) cs).drop 1),
     .fn "len" [.str ⟨⟨X⟩⟩] (.int 16),
     .use 9 69 fun ρ τ => laUse (fun i => ρ (nthN [7, 8] i)) [7, 8] ((intsL (tkl τ 6 60) cs).drop 1) [.int 16 (τ 68)] 0 0,
     .use 17 69 fun ρ τ => c2Use w.params (fun i => ρ (nthN [16, 14, 15, 1, 10, 11, 12, 13, 4, 9] i)) (ρ 0) ((cRN (ρ 1) (ρ 0), ⟨786, 35, 786, 69⟩) :: blDU st pp c fd q) [16, 14, 15, 1, 10, 11, 12, 13, 4, 9] (fun _ => 0) X tx (intsL (tkl τ 6 60) cs) ((intsL (tkl τ 6 60) cs).drop 1 ++ [.int 16 (τ 68)]) (τ 5) 0 nn ps]
    [15] (164) (129859704924200484191246793636180856615423406484912586451941753855598759180578963342442995878824678680982853203461545581549427335888221800745710016792746678516827193976668319214105380277491903456748747383804658486463780667628893877393171521994752) (fun ρ _ => .inl (.done (.ret (.ref (ρ 15))), ⟨786, 35, 786, 69⟩)) (fun _ _ => []) (fun _ τ => [LST (strsL (tkl τ 73 60) ps) (τ 71)])
theorem RN16_n (w : World) (a st c : Nat → Nat) (pp : Nat → Pos) (p q : Pos) (fd tx nn : Nat) (X cs : List Nat) (ps : List (List Nat)) : (RN16 w a st c pp p q fd tx nn X cs ps).Spec w a := Fr.spec fun ρ τ => by kernel_rfl

end Mine
end
section -- Rf2
open PySem PySem.W PyProof.Rows PySem.Calls
set_option Elab.async false
set_option linter.unusedVariables false
set_option maxRecDepth 100000
set_option maxHeartbeats 0
namespace Mine
/-- ascending, from k on -/
noncomputable def asc : Nat → List Nat → Prop
  | _, [] => True
  | k, a :: l => k ≤ a ∧ asc (a + 1) l
theorem asc_mono {k k' : Nat} (h : k' ≤ k) : ∀ {l : List Nat}, asc k l → asc k' l
  | [], _ => trivial
  | a :: l, x => ⟨Nat.le_trans h x.1, x.2⟩
theorem cutsL_asc (X : List Nat) : ∀ n k, asc k (cutsL X k n)
  | 0, _ => trivial
  | n + 1, k => by
    unfold cutsL
    split
    · exact ⟨Nat.le_refl _, cutsL_asc X n (k + 1)⟩
    · exact asc_mono (Nat.le_succ _) (cutsL_asc X n (k + 1))
theorem cutsL_lt (X : List Nat) : ∀ n k, ∀ a ∈ cutsL X k n, a < k + n
  | 0, _, a, h => nomatch h
  | n + 1, k, a, h => by
    unfold cutsL at h
    split at h
    · rcases List.mem_cons.mp h with rfl | h
      · omega
      · have := cutsL_lt X n (k + 1) a h; omega
    · have := cutsL_lt X n (k + 1) a h; omega
theorem asc_next : ∀ (l : List Nat) (k N : Nat), asc k l → (∀ a ∈ l, a < N) → ∀ i, i < l.length → nthN l i ≤ nthN (l.drop 1 ++ [N]) i ∧ nthN (l.drop 1 ++ [N]) i ≤ N
  | [], _, _, _, _, _, h => absurd h (Nat.not_lt_zero _)
  | [a], k, N, x, h, 0, _ => ⟨Nat.le_of_lt (h a (by simp)), Nat.le_refl _⟩
  | [a], k, N, x, h, i + 1, hi => absurd hi (by simp)
  | a :: b :: l, k, N, x, h, 0, _ => ⟨Nat.le_of_lt x.2.1, Nat.le_of_lt (h b (by simp))⟩
  | a :: b :: l, k, N, x, h, i + 1, hi => asc_next (b :: l) (a + 1) N x.2 (fun c hc => h c (List.mem_cons_of_mem _ hc)) i (Nat.lt_of_succ_lt_succ hi)
theorem intsL_v : ∀ (cs ts : List Nat), cs.length ≤ ts.length → IntsV (intsL ts cs) cs
  | [], _, _ => .nil
  | c :: cs, [], h => absurd h (by simp)
  | c :: cs, t :: ts, h => .cons _ _ (intsL_v cs ts (Nat.le_of_succ_le_succ h))
theorem IntsV.drop1 : ∀ {vs : List Value} {ks : List Nat}, IntsV vs ks → IntsV (vs.drop 1) (ks.drop 1)
  | _, _, .nil => .nil
  | _, _, .cons _ _ h => h
theorem IntsV.app : ∀ {vs vs' : List Value} {ks ks' : List Nat}, IntsV vs ks → IntsV vs' ks' → IntsV (vs ++ vs') (ks ++ ks')
  | _, _, _, _, .nil, h => h
  | _, _, _, _, .cons _ _ h, h' => .cons _ _ (h.app h')
/-- the longest runs of letters of rights and of all else -/
noncomputable def runsOf (X : List Nat) : List (List Nat) := partsL X (cutsOf X) ((cutsOf X).drop 1 ++ [X.length])
theorem cutsOf_asc (X : List Nat) : asc 0 (cutsOf X) := ⟨Nat.le_refl _, cutsL_asc X _ 1⟩
theorem cutsOf_lt {X : List Nat} (h : 1 ≤ X.length) : ∀ a ∈ cutsOf X, a < X.length := by
  intro a ha
  rcases List.mem_cons.mp ha with rfl | ha
  · exact h
  · have := cutsL_lt X _ _ a ha; omega
theorem cutsOf_len {X : List Nat} (h : 1 ≤ X.length) : (cutsOf X).length ≤ X.length := by
  have := cutsL_len X (X.length - 1) 1
  unfold cutsOf
  rw [List.length_cons]; omega
theorem rn_cuts (w : World) (S : Shared) {st c : Nat → Nat} {pp : Nat → Pos} {q : Pos} {fd tx n : Nat} {X : List Nat} (hn : X.length = n + 1) (hX : X.length ≤ 60) {N : Int} (hN : N = Int.ofNat (n + 1)) :
    ∀ f ∈ ([.fn "len" [.str ⟨⟨X⟩⟩] (.int N),
     .use 6 3 fun ρ τ => c1Use w.params (fun i => ρ (nthN [5, 3, 4, 1] i)) (ρ 0) ((cRN (ρ 1) (ρ 0), ⟨785, 11, 785, 109⟩) :: blDU st pp c fd q) [5, 3, 4, 1] (fun _ => 0) X tx n (cutsOf X),
     .use 7 68 fun ρ τ => lsUse (fun i => ρ (nthN [4, 6] i)) [4, 6] (intsL (tkl τ 6 60) (cutsOf X)) (τ 5) (.int 1 (τ 67)) .none ((intsL (tkl τ 6 60) (cutsOf X)).drop 1),
     .fn "len" [.str ⟨⟨X⟩⟩] (.int N),
     .use 9 69 fun ρ τ => laUse (fun i => ρ (nthN [7, 8] i)) [7, 8] ((intsL (tkl τ 6 60) (cutsOf X)).drop 1) [.int N (τ 68)] 0 0,
     .use 17 69 fun ρ τ => c2Use w.params (fun i => ρ (nthN [16, 14, 15, 1, 10, 11, 12, 13, 4, 9] i)) (ρ 0) ((cRN (ρ 1) (ρ 0), ⟨786, 35, 786, 69⟩) :: blDU st pp c fd q) [16, 14, 15, 1, 10, 11, 12, 13, 4, 9] (fun _ => 0) X tx (intsL (tkl τ 6 60) (cutsOf X)) ((intsL (tkl τ 6 60) (cutsOf X)).drop 1 ++ [.int N (τ 68)]) (τ 5) 0 (cutsOf X).length (runsOf X)] : List CutF), CutF.Ok (WD w S) f := by
  have hcl := cutsOf_len (X := X) (by omega)
  have hlen : Str.length ⟨⟨X⟩⟩ = n + 1 := hn
  have fl : FnOk (WD w S) "len" [.str ⟨⟨X⟩⟩] (.int N) := by
    have := fn_len w S (x := ⟨⟨X⟩⟩) (by rw [hlen]; omega)
    rw [hlen] at this
    rw [hN]
    exact this
  have iv : ∀ τ : Nat → Nat, IntsV (intsL (tkl τ 6 60) (cutsOf X)) (cutsOf X) := fun τ => intsL_v _ _ (by rw [tkl_len]; omega)
  have l1 : ∀ τ : Nat → Nat, (intsL (tkl τ 6 60) (cutsOf X)).length = (cutsOf X).length := fun τ => intsV_len (iv τ)
  refine okc ?_ (okc ?_ (okc ?_ (okc ?_ (okc ?_ (okc ?_ ok0)))))
  · exact fl
  · exact ok_mk (fun _ _ => rfl) fun ρ τ => c1_spec w S (keys := [5, 3, 4, 1]) rfl (by decide) hn hX
  · exact ok_new (fun _ _ => rfl) fun ρ τ => lsa_spec w S (keys := [4, 6]) rfl (by decide) (by rw [l1]; unfold cutsOf; simp) (by rw [l1]; omega)
  · exact fl
  · exact ok_new (fun _ _ => rfl) fun ρ τ => la_spec w S (keys := [7, 8]) rfl (by decide) (by rw [List.length_drop, l1]; simp; omega)
  · refine ok_mk (fun _ _ => rfl) fun ρ τ => ?_
    have i2 : IntsV ((intsL (tkl τ 6 60) (cutsOf X)).drop 1 ++ [.int N (τ 68)]) ((cutsOf X).drop 1 ++ [X.length]) := by
      refine (iv τ).drop1.app ?_
      rw [hN, ← hn]
      exact .cons _ _ .nil
    exact c2_spec w S (keys := [16, 14, 15, 1, 10, 11, 12, 13, 4, 9]) rfl (by decide) hX (iv τ) i2 (by unfold cutsOf; simp) (asc_next (cutsOf X) 0 X.length (cutsOf_asc X) (cutsOf_lt (by omega))) (by omega) (by unfold cutsOf; simp)
noncomputable def rnUse (bl : List (Code × Pos)) (X : List Nat) (tx : Nat) : Use :=
  newUse (cRNc X tx) (some bl) [] [] 1 61 (fun _ _ => []) (fun _ θ => [LST (strsL (tkl θ 1 60) (runsOf X)) (θ 0)]) (fun ν _ => .ok (.ret (.ref (ν 0))))
theorem rn_spec (w : World) (S : Shared) {ρ st c : Nat → Nat} {pp : Nat → Pos} {q : Pos} {fd tx : Nat} {X : List Nat} (hn : X.length = 12 ∨ X.length = 14 ∨ X.length = 16) : SpecI (WD w S) ρ (rnUse (blDU st pp c fd q) X tx) := by
  refine spec_new (by decide) rfl (fun _ _ => rfl) (fun _ _ => rfl) fun Γ p h tk R hc hbl G fin => ?_
  rw [hbl _ rfl]
  have F : ∀ (ρ' τ : Nat → Nat) (h' : Heap) (tk' : Nat), Nx (WD w S) 0 (fun i => ρ (nthN [] i)) [] h h' → News (nthN [ρ' 15]) [LST (strsL (tkl τ 73 60) (runsOf X)) (τ 71)] h h' → R (.ok (.ret (.ref (ρ' 15)))) ((WD w S).sh h' tk') := fun ρ' τ h' tk' N M =>
    fin (nthN [ρ' 15]) (nthN (τ 71 :: tkl τ 73 60)) h' tk' (fun j hj => nthN_ge _ j hj) (fun j hj => nthN_ge _ j (by rw [List.length_cons, tkl_len]; exact hj)) N M
  rcases hn with hn | hn | hn
  · exact RN12_n w (fun i => ρ (nthN [] i)) st c pp p q fd tx (cutsOf X).length X (cutsOf X) (runsOf X) G (rn_cuts w S hn (by omega) rfl) fun ρ' τ h' tk' _ N M => F ρ' τ h' tk' N M
  · exact RN14_n w (fun i => ρ (nthN [] i)) st c pp p q fd tx (cutsOf X).length X (cutsOf X) (runsOf X) G (rn_cuts w S hn (by omega) rfl) fun ρ' τ h' tk' _ N M => F ρ' τ h' tk' N M
  · exact RN16_n w (fun i => ρ (nthN [] i)) st c pp p q fd tx (cutsOf X).length X (cutsOf X) (runsOf X) G (rn_cuts w S hn (by omega) rfl) fun ρ' τ h' tk' _ N M => F ρ' τ h' tk' N M
end Mine
end
section -- Du
open PySem PySem.W PyProof.Rows PySem.Calls
set_option Elab.async false
set_option linter.unusedVariables false
set_option maxRecDepth 100000
set_option maxHeartbeats 0
namespace Mine
noncomputable def cDUc (n m : Int) (X : List Nat) (t1 t2 t3 : Nat) : Code := .call (.ref 827) ⟨[.int n t1, .int m t2, .str ⟨⟨X⟩⟩ t3], []⟩
noncomputable def DU10F (w : World) (a st : Nat → Nat) (pp : Nat → Pos) (p : Pos) (t1 t2 t3 : Nat) (r : Nat → Nat) : Fr :=
  frC (blLaw st pp) (cDUc 1 0 (ten r) t1 t2 t3) p 0 []
    [.use 10 7 fun ρ τ => rnUse (blDU st pp (nthN [ρ 1, ρ 2, ρ 3]) (ρ 0) ⟨800, 20, 800, 49⟩) [109, 61, r 0, r 1, r 2, r 3, r 4, r 5, r 6, r 7, r 8, r 9] (τ 6)]
    [12, 10] (147) (63914329175847645314120964452972003838383257683192464678774651079047032453446835509060652349550949914494508821222557883778638005380441725132086688486956930609969562639114230428936854120307884032) (fun ρ _ => .inl (.done (.ret (.ref (ρ 12))), ⟨800, 11, 800, 50⟩)) (fun _ _ => []) (fun ρ τ => [LST [.ref (ρ 10)] 0, LST (strsL (tkl τ 8 60) (runsOf [109, 61, r 0, r 1, r 2, r 3, r 4, r 5, r 6, r 7, r 8, r 9])) (τ 7)])
theorem DU10F_n (w : World) (a st : Nat → Nat) (pp : Nat → Pos) (p : Pos) (t1 t2 t3 : Nat) (r : Nat → Nat) : (DU10F (wCF w) a st pp p t1 t2 t3 r).Spec (wCF w) a := Fr.spec fun ρ τ => by kernel_rfl

noncomputable def duUse10 (r st : Nat → Nat) (pp : Nat → Pos) (t1 t2 t3 : Nat) : Use :=
  newUse (cDUc 1 0 (ten r) t1 t2 t3) (some (blLaw st pp)) [] [] 2 61 (fun _ _ => []) (fun ν θ => [LST [.ref (ν 1)] 0, LST (strsL (tkl θ 1 60) (runsOf [109, 61, r 0, r 1, r 2, r 3, r 4, r 5, r 6, r 7, r 8, r 9])) (θ 0)]) (fun ν _ => .ok (.ret (.ref (ν 0))))
theorem DU10F_s (w : World) (S : Shared) {ρ r st : Nat → Nat} {pp : Nat → Pos} {t1 t2 t3 : Nat} : SpecI (WD (wCF w) S) ρ (duUse10 r st pp t1 t2 t3) := by
  refine spec_new (by decide) rfl (fun _ _ => rfl) (fun _ _ => rfl) fun Γ p h tk R hc hbl G fin => ?_
  rw [hbl _ rfl]
  refine DU10F_n w (fun i => ρ (nthN [] i)) st pp p t1 t2 t3 r G ?_ fun ρ' τ h' tk' _ N M => fin (nthN [ρ' 12, ρ' 10]) (nthN ([τ 7] ++ tkl τ 8 60)) h' tk' (fun j hj => nthN_ge _ j hj) (fun j hj => nthN_ge _ j (by rw [List.length_append, tkl_len]; exact hj)) N M
  refine okc ?_ ok0
  exact ok_new (fun _ _ => rfl) fun ρ τ => rn_spec (wCF w) S (by simp)
noncomputable def DU10T (w : World) (a st : Nat → Nat) (pp : Nat → Pos) (p : Pos) (t1 t2 t3 : Nat) (r : Nat → Nat) : Fr :=
  frC (blLaw st pp) (cDUc 1 0 (ten r) t1 t2 t3) p 0 []
    [.use 10 7 fun ρ τ => rnUse (blDU st pp (nthN [ρ 1, ρ 2, ρ 3]) (ρ 0) ⟨800, 20, 800, 49⟩) [109, 61, r 0, r 1, r 2, r 3, r 4, r 5, r 6, r 7, r 8, r 9] (τ 6)]
    [12, 10] (137) (55436843636326141761713208165756470167925185138495650683290945254794717227681366812851384491916895293466469128600323236184254035747425650434929855038881482849716071303305232384) (fun ρ _ => .inl (.done (.ret (.ref (ρ 12))), ⟨800, 11, 800, 50⟩)) (fun _ _ => []) (fun ρ τ => [LST [.ref (ρ 10)] 0, LST (strsL (tkl τ 8 60) (runsOf [109, 61, r 0, r 1, r 2, r 3, r 4, r 5, r 6, r 7, r 8, r 9])) (τ 7)])
theorem DU10T_n (w : World) (a st : Nat → Nat) (pp : Nat → Pos) (p : Pos) (t1 t2 t3 : Nat) (r : Nat → Nat) : (DU10T (wCT w) a st pp p t1 t2 t3 r).Spec (wCT w) a := Fr.spec fun ρ τ => by kernel_rfl

theorem DU10T_s (w : World) (S : Shared) {ρ r st : Nat → Nat} {pp : Nat → Pos} {t1 t2 t3 : Nat} : SpecI (WD (wCT w) S) ρ (duUse10 r st pp t1 t2 t3) := by
  refine spec_new (by decide) rfl (fun _ _ => rfl) (fun _ _ => rfl) fun Γ p h tk R hc hbl G fin => ?_
  rw [hbl _ rfl]
  refine DU10T_n w (fun i => ρ (nthN [] i)) st pp p t1 t2 t3 r G ?_ fun ρ' τ h' tk' _ N M => fin (nthN [ρ' 12, ρ' 10]) (nthN ([τ 7] ++ tkl τ 8 60)) h' tk' (fun j hj => nthN_ge _ j hj) (fun j hj => nthN_ge _ j (by rw [List.length_append, tkl_len]; exact hj)) N M
  refine okc ?_ ok0
  exact ok_new (fun _ _ => rfl) fun ρ τ => rn_spec (wCT w) S (by simp)
theorem du10_s (w : World) (S : Shared) {ρ r st : Nat → Nat} {pp : Nat → Pos} {t1 t2 t3 : Nat} : SpecI (WD w S) ρ (duUse10 r st pp t1 t2 t3) := by
  cases hb : w.params.followText "comprehension-iter-twice" with
  | true =>
    have K := DU10T_s w S (ρ := ρ) (r := r) (st := st) (pp := pp) (t1 := t1) (t2 := t2) (t3 := t3)
    rwa [wCT_eq hb] at K
  | false =>
    have K := DU10F_s w S (ρ := ρ) (r := r) (st := st) (pp := pp) (t1 := t1) (t2 := t2) (t3 := t3)
    rwa [wCF_eq hb] at K
noncomputable def DU11F (w : World) (a st : Nat → Nat) (pp : Nat → Pos) (p : Pos) (t1 t2 t3 : Nat) (r : Nat → Nat) : Fr :=
  frC (blLaw st pp) (cDUc 1 1 (ten r) t1 t2 t3) p 0 []
    [.use 31 28 fun ρ τ => rnUse (blDU st pp (nthN [ρ 1, ρ 2, ρ 3]) (ρ 0) ⟨800, 20, 800, 49⟩) [109, 61, r 0, r 1, r 2, r 3, r 4, r 5, r 6, r 7, r 8, r 9] (τ 27)]
    [33, 28, 31] (514) (7995904044221331000814753400019141261032237684910961746628636505364274555997075410917411881670494995747117919485670333743448081820163033604132353639718379092854362900346605552747611806444896416181450450905822685528798075243067494698953313532732903630803781886472367758692967032056240069323131457608187812781118223622472276151979207581024281425908032626824598264332362091379697882006769774347516327237784498833098266563973870838753194335911666879923785996439486191269343623760289615701304522658069617198512785540930789202387751538623523044149403721195603386084863371885798620449652901302589166479492205616059707502803993660800623792354288747988619629151704299465480250007112251290153587310592) (fun ρ _ => .inl (.done (.ret (.ref (ρ 33))), ⟨800, 11, 800, 50⟩)) (fun _ _ => []) (fun ρ τ => [LST [.ref (ρ 28), .ref (ρ 31)] 0, LST [.str ⟨⟨[109, 61, r 0, r 1, r 2, r 3, r 4, r 5, r 6, r 7, r 8, r 9]⟩⟩ (τ 20)] 0, LST (strsL (tkl τ 29 60) (runsOf [109, 61, r 0, r 1, r 2, r 3, r 4, r 5, r 6, r 7, r 8, r 9])) (τ 28)])
theorem DU11F_n (w : World) (a st : Nat → Nat) (pp : Nat → Pos) (p : Pos) (t1 t2 t3 : Nat) (r : Nat → Nat) : (DU11F (wCF w) a st pp p t1 t2 t3 r).Spec (wCF w) a := Fr.spec fun ρ τ => by kernel_rfl

noncomputable def duUse11 (r st : Nat → Nat) (pp : Nat → Pos) (t1 t2 t3 : Nat) : Use :=
  newUse (cDUc 1 1 (ten r) t1 t2 t3) (some (blLaw st pp)) [] [] 3 62 (fun _ _ => []) (fun ν θ => [LST [.ref (ν 1), .ref (ν 2)] 0, LST [.str ⟨⟨[109, 61, r 0, r 1, r 2, r 3, r 4, r 5, r 6, r 7, r 8, r 9]⟩⟩ (θ 0)] 0, LST (strsL (tkl θ 2 60) (runsOf [109, 61, r 0, r 1, r 2, r 3, r 4, r 5, r 6, r 7, r 8, r 9])) (θ 1)]) (fun ν _ => .ok (.ret (.ref (ν 0))))
theorem DU11F_s (w : World) (S : Shared) {ρ r st : Nat → Nat} {pp : Nat → Pos} {t1 t2 t3 : Nat} : SpecI (WD (wCF w) S) ρ (duUse11 r st pp t1 t2 t3) := by
  refine spec_new (by decide) rfl (fun _ _ => rfl) (fun _ _ => rfl) fun Γ p h tk R hc hbl G fin => ?_
  rw [hbl _ rfl]
  refine DU11F_n w (fun i => ρ (nthN [] i)) st pp p t1 t2 t3 r G ?_ fun ρ' τ h' tk' _ N M => fin (nthN [ρ' 33, ρ' 28, ρ' 31]) (nthN ([τ 20, τ 28] ++ tkl τ 29 60)) h' tk' (fun j hj => nthN_ge _ j hj) (fun j hj => nthN_ge _ j (by rw [List.length_append, tkl_len]; exact hj)) N M
  refine okc ?_ ok0
  exact ok_new (fun _ _ => rfl) fun ρ τ => rn_spec (wCF w) S (by simp)
noncomputable def DU11T (w : World) (a st : Nat → Nat) (pp : Nat → Pos) (p : Pos) (t1 t2 t3 : Nat) (r : Nat → Nat) : Fr :=
  frC (blLaw st pp) (cDUc 1 1 (ten r) t1 t2 t3) p 0 []
    [.use 31 28 fun ρ τ => rnUse (blDU st pp (nthN [ρ 1, ρ 2, ρ 3]) (ρ 0) ⟨800, 20, 800, 49⟩) [109, 61, r 0, r 1, r 2, r 3, r 4, r 5, r 6, r 7, r 8, r 9] (τ 27)]
    [33, 28, 31] (474) (4525521310597562919260307596178596035030187400451249178501437641126492397476272522276353359483513038564919169115010617367390528463695208171097754149332968760792166825175462915028723714718843278599293398338351180285180155604992764804539755185773185755275431460256685217110189732955192494507662088701304942979224060023660007511371737505959652118533836279227035881102566792292988159976241487071746118582717590591028826296167084435018469119989707339324261286567243128690820970115591456878542629607941771011288860700573099482302480464274614246229275970544736978111779269672475577029745972106713242909981189258929456747118592) (fun ρ _ => .inl (.done (.ret (.ref (ρ 33))), ⟨800, 11, 800, 50⟩)) (fun _ _ => []) (fun ρ τ => [LST [.ref (ρ 28), .ref (ρ 31)] 0, LST [.str ⟨⟨[109, 61, r 0, r 1, r 2, r 3, r 4, r 5, r 6, r 7, r 8, r 9]⟩⟩ (τ 20)] 0, LST (strsL (tkl τ 29 60) (runsOf [109, 61, r 0, r 1, r 2, r 3, r 4, r 5, r 6, r 7, r 8, r 9])) (τ 28)])
theorem DU11T_n (w : World) (a st : Nat → Nat) (pp : Nat → Pos) (p : Pos) (t1 t2 t3 : Nat) (r : Nat → Nat) : (DU11T (wCT w) a st pp p t1 t2 t3 r).Spec (wCT w) a := Fr.spec fun ρ τ => by kernel_rfl

theorem DU11T_s (w : World) (S : Shared) {ρ r st : Nat → Nat} {pp : Nat → Pos} {t1 t2 t3 : Nat} : SpecI (WD (wCT w) S) ρ (duUse11 r st pp t1 t2 t3) := by
  refine spec_new (by decide) rfl (fun _ _ => rfl) (fun _ _ => rfl) fun Γ p h tk R hc hbl G fin => ?_
  rw [hbl _ rfl]
  refine DU11T_n w (fun i => ρ (nthN [] i)) st pp p t1 t2 t3 r G ?_ fun ρ' τ h' tk' _ N M => fin (nthN [ρ' 33, ρ' 28, ρ' 31]) (nthN ([τ 20, τ 28] ++ tkl τ 29 60)) h' tk' (fun j hj => nthN_ge _ j hj) (fun j hj => nthN_ge _ j (by rw [List.length_append, tkl_len]; exact hj)) N M
  refine okc ?_ ok0
  exact ok_new (fun _ _ => rfl) fun ρ τ => rn_spec (wCT w) S (by simp)
theorem du11_s (w : World) (S : Shared) {ρ r st : Nat → Nat} {pp : Nat → Pos} {t1 t2 t3 : Nat} : SpecI (WD w S) ρ (duUse11 r st pp t1 t2 t3) := by
  cases hb : w.params.followText "comprehension-iter-twice" with
  | true =>
    have K := DU11T_s w S (ρ := ρ) (r := r) (st := st) (pp := pp) (t1 := t1) (t2 := t2) (t3 := t3)
    rwa [wCT_eq hb] at K
  | false =>
    have K := DU11F_s w S (ρ := ρ) (r := r) (st := st) (pp := pp) (t1 := t1) (t2 := t2) (t3 := t3)
    rwa [wCF_eq hb] at K
noncomputable def DU21F (w : World) (a st : Nat → Nat) (pp : Nat → Pos) (p : Pos) (t1 t2 t3 : Nat) (r : Nat → Nat) : Fr :=
  frC (blLaw st pp) (cDUc 2 1 (ten r) t1 t2 t3) p 0 []
    [.use 31 29 fun ρ τ => rnUse (blDU st pp (nthN [ρ 1, ρ 2, ρ 3]) (ρ 0) ⟨800, 20, 800, 49⟩) [109, 61, 109, 61, r 0, r 1, r 2, r 3, r 4, r 5, r 6, r 7, r 8, r 9] (τ 28)]
    [33, 28, 31] (513) (7995904044221331000814753400019141261032237684910961746628636505364274555997075410917411881670494995747117919485670333743448081820163033604132353639718379092854362900346605552747611806444896416181450450905822685528798075243067494698953313532732903630803781886472367758692967032056240069323131457608187812781118223622472276151979207581024281425908032626824598264332362091379697882006769774347516327237784498833098266563973870838753194335911666879923785996439486191269343623760289615701304522658069617198512785540930789202387751538623523044149403721195603386084863371885798620449652901302589166479492205616059707502803993660800623792354288747988619629151704299465480250007112251290153587310592) (fun ρ _ => .inl (.done (.ret (.ref (ρ 33))), ⟨800, 11, 800, 50⟩)) (fun _ _ => []) (fun ρ τ => [LST [.ref (ρ 28), .ref (ρ 31)] 0, LST [.str ⟨⟨[109, 61, 109, 61, r 0, r 1, r 2, r 3, r 4, r 5, r 6, r 7, r 8, r 9]⟩⟩ (τ 20)] 0, LST (strsL (tkl τ 30 60) (runsOf [109, 61, 109, 61, r 0, r 1, r 2, r 3, r 4, r 5, r 6, r 7, r 8, r 9])) (τ 29)])
theorem DU21F_n (w : World) (a st : Nat → Nat) (pp : Nat → Pos) (p : Pos) (t1 t2 t3 : Nat) (r : Nat → Nat) : (DU21F (wCF w) a st pp p t1 t2 t3 r).Spec (wCF w) a := Fr.spec fun ρ τ => by kernel_rfl

noncomputable def duUse21 (r st : Nat → Nat) (pp : Nat → Pos) (t1 t2 t3 : Nat) : Use :=
  newUse (cDUc 2 1 (ten r) t1 t2 t3) (some (blLaw st pp)) [] [] 3 62 (fun _ _ => []) (fun ν θ => [LST [.ref (ν 1), .ref (ν 2)] 0, LST [.str ⟨⟨[109, 61, 109, 61, r 0, r 1, r 2, r 3, r 4, r 5, r 6, r 7, r 8, r 9]⟩⟩ (θ 0)] 0, LST (strsL (tkl θ 2 60) (runsOf [109, 61, 109, 61, r 0, r 1, r 2, r 3, r 4, r 5, r 6, r 7, r 8, r 9])) (θ 1)]) (fun ν _ => .ok (.ret (.ref (ν 0))))
theorem DU21F_s (w : World) (S : Shared) {ρ r st : Nat → Nat} {pp : Nat → Pos} {t1 t2 t3 : Nat} : SpecI (WD (wCF w) S) ρ (duUse21 r st pp t1 t2 t3) := by
  refine spec_new (by decide) rfl (fun _ _ => rfl) (fun _ _ => rfl) fun Γ p h tk R hc hbl G fin => ?_
  rw [hbl _ rfl]
  refine DU21F_n w (fun i => ρ (nthN [] i)) st pp p t1 t2 t3 r G ?_ fun ρ' τ h' tk' _ N M => fin (nthN [ρ' 33, ρ' 28, ρ' 31]) (nthN ([τ 20, τ 29] ++ tkl τ 30 60)) h' tk' (fun j hj => nthN_ge _ j hj) (fun j hj => nthN_ge _ j (by rw [List.length_append, tkl_len]; exact hj)) N M
  refine okc ?_ ok0
  exact ok_new (fun _ _ => rfl) fun ρ τ => rn_spec (wCF w) S (by simp)
noncomputable def DU21T (w : World) (a st : Nat → Nat) (pp : Nat → Pos) (p : Pos) (t1 t2 t3 : Nat) (r : Nat → Nat) : Fr :=
  frC (blLaw st pp) (cDUc 2 1 (ten r) t1 t2 t3) p 0 []
    [.use 31 29 fun ρ τ => rnUse (blDU st pp (nthN [ρ 1, ρ 2, ρ 3]) (ρ 0) ⟨800, 20, 800, 49⟩) [109, 61, 109, 61, r 0, r 1, r 2, r 3, r 4, r 5, r 6, r 7, r 8, r 9] (τ 28)]
    [33, 28, 31] (473) (4525521310597562919260307596178596035030187400451249178501437641126492397476272522276353359483513038564919169115010617367390528463695208171097754149332968760792166825175462915028723714718843278599293398338351180285180155604992764804539755185773185755275431460256685217110189732955192494507662088701304942979224060023660007511371737505959652118533836279227035881102566792292988159976241487071746118582717590591028826296167084435018469119989707339324261286567243128690820970115591456878542629607941771011288860700573099482302480464274614246229275970544736978111779269672475577029745972106713242909981189258929456747118592) (fun ρ _ => .inl (.done (.ret (.ref (ρ 33))), ⟨800, 11, 800, 50⟩)) (fun _ _ => []) (fun ρ τ => [LST [.ref (ρ 28), .ref (ρ 31)] 0, LST [.str ⟨⟨[109, 61, 109, 61, r 0, r 1, r 2, r 3, r 4, r 5, r 6, r 7, r 8, r 9]⟩⟩ (τ 20)] 0, LST (strsL (tkl τ 30 60) (runsOf [109, 61, 109, 61, r 0, r 1, r 2, r 3, r 4, r 5, r 6, r 7, r 8, r 9])) (τ 29)])
theorem DU21T_n (w : World) (a st : Nat → Nat) (pp : Nat → Pos) (p : Pos) (t1 t2 t3 : Nat) (r : Nat → Nat) : (DU21T (wCT w) a st pp p t1 t2 t3 r).Spec (wCT w) a := Fr.spec fun ρ τ => by kernel_rfl

theorem DU21T_s (w : World) (S : Shared) {ρ r st : Nat → Nat} {pp : Nat → Pos} {t1 t2 t3 : Nat} : SpecI (WD (wCT w) S) ρ (duUse21 r st pp t1 t2 t3) := by
  refine spec_new (by decide) rfl (fun _ _ => rfl) (fun _ _ => rfl) fun Γ p h tk R hc hbl G fin => ?_
  rw [hbl _ rfl]
  refine DU21T_n w (fun i => ρ (nthN [] i)) st pp p t1 t2 t3 r G ?_ fun ρ' τ h' tk' _ N M => fin (nthN [ρ' 33, ρ' 28, ρ' 31]) (nthN ([τ 20, τ 29] ++ tkl τ 30 60)) h' tk' (fun j hj => nthN_ge _ j hj) (fun j hj => nthN_ge _ j (by rw [List.length_append, tkl_len]; exact hj)) N M
  refine okc ?_ ok0
  exact ok_new (fun _ _ => rfl) fun ρ τ => rn_spec (wCT w) S (by simp)
theorem du21_s (w : World) (S : Shared) {ρ r st : Nat → Nat} {pp : Nat → Pos} {t1 t2 t3 : Nat} : SpecI (WD w S) ρ (duUse21 r st pp t1 t2 t3) := by
  cases hb : w.params.followText "comprehension-iter-twice" with
  | true =>
    have K := DU21T_s w S (ρ := ρ) (r := r) (st := st) (pp := pp) (t1 := t1) (t2 := t2) (t3 := t3)
    rwa [wCT_eq hb] at K
  | false =>
    have K := DU21F_s w S (ρ := ρ) (r := r) (st := st) (pp := pp) (t1 := t1) (t2 := t2) (t3 := t3)
    rwa [wCF_eq hb] at K
noncomputable def DU22F (w : World) (a st : Nat → Nat) (pp : Nat → Pos) (p : Pos) (t1 t2 t3 : Nat) (r : Nat → Nat) : Fr :=
  frC (blLaw st pp) (cDUc 2 2 (ten r) t1 t2 t3) p 0 []
    [.use 52 68 fun ρ τ => rnUse (blDU st pp (nthN [ρ 1, ρ 2, ρ 3]) (ρ 0) ⟨800, 20, 800, 49⟩) [109, 61, 109, 61, r 0, r 1, r 2, r 3, r 4, r 5, r 6, r 7, r 8, r 9] (τ 67)]
    [54, 28, 49, 52] (1041) (3792593194077147660253965514948600831697664119885467883407994568171294490383620084006235707214535697607996539377172196711488666368722309439607647653949688299954149731243541511027196508303053266025687443427253211852371143368770805274551503258360278978712648828182991851184885176218395468157376191144273371425721984648434328662966970840500001710433895859490427271167805096157714874742469268916709228184403896556223433266005379612833961730328036968953890212747916817791855951718488834723950000883861233974482919988828991806908979914659893713295040321215901080010790626661812497297727704542794291817622179521951245151036348791598081635686238851224598682741268083498489239261259439229749778464090820071030552499702680706639964465787725239566219813581705828414353290272294228058187848435541662922679083204603476461006179959328659177084881351832613257244800647569293600778389032518368874371433933659536482749188768485265204960569039951817798773765767514167732226213415053062740408550536304355672027659150031797682548795658424660600029603872956328721958955243338856071313008324462764928448642863143557920594212091270837135622984931220888252636754415853439113844537863741635242767027514412484595782257661897857581581196308237133572756801043586780127460477548739098468655441313576579337071375104841714534472071557880701630498491792997151149216366003054341655703593877913316401573878576752796870481201811289964286162782650368) (fun ρ _ => .inl (.done (.ret (.ref (ρ 54))), ⟨800, 11, 800, 50⟩)) (fun _ _ => []) (fun ρ τ => [LST [.ref (ρ 28), .ref (ρ 49), .ref (ρ 52)] 0, LST [.str ⟨⟨[109, 61, 109, 61, 34, r 0, r 1, r 2, r 3, r 4, r 5, r 6, r 7, r 8, r 9, 34]⟩⟩ (τ 41)] 0, LST [.str ⟨⟨[109, 61, 109, 61, r 0, r 1, r 2, r 3, r 4, r 5, r 6, r 7, r 8, r 9]⟩⟩ (τ 59)] 0, LST (strsL (tkl τ 69 60) (runsOf [109, 61, 109, 61, r 0, r 1, r 2, r 3, r 4, r 5, r 6, r 7, r 8, r 9])) (τ 68)])
theorem DU22F_n (w : World) (a st : Nat → Nat) (pp : Nat → Pos) (p : Pos) (t1 t2 t3 : Nat) (r : Nat → Nat) : (DU22F (wCF w) a st pp p t1 t2 t3 r).Spec (wCF w) a := Fr.spec fun ρ τ => by kernel_rfl

noncomputable def duUse22 (r st : Nat → Nat) (pp : Nat → Pos) (t1 t2 t3 : Nat) : Use :=
  newUse (cDUc 2 2 (ten r) t1 t2 t3) (some (blLaw st pp)) [] [] 4 63 (fun _ _ => []) (fun ν θ => [LST [.ref (ν 1), .ref (ν 2), .ref (ν 3)] 0, LST [.str ⟨⟨[109, 61, 109, 61, 34, r 0, r 1, r 2, r 3, r 4, r 5, r 6, r 7, r 8, r 9, 34]⟩⟩ (θ 0)] 0, LST [.str ⟨⟨[109, 61, 109, 61, r 0, r 1, r 2, r 3, r 4, r 5, r 6, r 7, r 8, r 9]⟩⟩ (θ 1)] 0, LST (strsL (tkl θ 3 60) (runsOf [109, 61, 109, 61, r 0, r 1, r 2, r 3, r 4, r 5, r 6, r 7, r 8, r 9])) (θ 2)]) (fun ν _ => .ok (.ret (.ref (ν 0))))
theorem DU22F_s (w : World) (S : Shared) {ρ r st : Nat → Nat} {pp : Nat → Pos} {t1 t2 t3 : Nat} : SpecI (WD (wCF w) S) ρ (duUse22 r st pp t1 t2 t3) := by
  refine spec_new (by decide) rfl (fun _ _ => rfl) (fun _ _ => rfl) fun Γ p h tk R hc hbl G fin => ?_
  rw [hbl _ rfl]
  refine DU22F_n w (fun i => ρ (nthN [] i)) st pp p t1 t2 t3 r G ?_ fun ρ' τ h' tk' _ N M => fin (nthN [ρ' 54, ρ' 28, ρ' 49, ρ' 52]) (nthN ([τ 41, τ 59, τ 68] ++ tkl τ 69 60)) h' tk' (fun j hj => nthN_ge _ j hj) (fun j hj => nthN_ge _ j (by rw [List.length_append, tkl_len]; exact hj)) N M
  refine okc ?_ ok0
  exact ok_new (fun _ _ => rfl) fun ρ τ => rn_spec (wCF w) S (by simp)
noncomputable def DU22T (w : World) (a st : Nat → Nat) (pp : Nat → Pos) (p : Pos) (t1 t2 t3 : Nat) (r : Nat → Nat) : Fr :=
  frC (blLaw st pp) (cDUc 2 2 (ten r) t1 t2 t3) p 0 []
    [.use 52 68 fun ρ τ => rnUse (blDU st pp (nthN [ρ 1, ρ 2, ρ 3]) (ρ 0) ⟨800, 20, 800, 49⟩) [109, 61, 109, 61, r 0, r 1, r 2, r 3, r 4, r 5, r 6, r 7, r 8, r 9] (τ 67)]
    [54, 28, 49, 52] (971) (1400677274674960462797026361224076824026874090328889188013511238537747219161400637617892761828421584583590850855962580800894730626798144218645415546959494045104068404896998562092751641471098251780035881876028874876557419704665689905591701164628250100703221316827776442168376141236548576010379119951889569263608733155107172212191003703118467577159045333053216936726891964228902887327677993505969372755429201098416861797577025422301203734625640390591535178094586350073356239509977167463727468890876622789375596039474286456651753653741677175218453229472955368908330481382045335234369714118807142897980590120380484202808603860701755813519117546396406988150008531527215313177398106738875998055044639559217462943699139671850740482921258424975013420644030849102390927368391338294639493309001980533785288342336756605137056041485509180658933723787815914872209104914782172481447117168674039027441717190332094718720272293029607402538524216936868230122772121485062390945494037612973466090337528745310831695427061305579343754202418788550900815290772800530124903848743831527702522445609100225920510025227663837242244773362831593831318393571279823512020087427921102581346523760028289141129419431825062531318408260772722818350747877385926883721993785636577848012211515567684708437392727006564107121852416) (fun ρ _ => .inl (.done (.ret (.ref (ρ 54))), ⟨800, 11, 800, 50⟩)) (fun _ _ => []) (fun ρ τ => [LST [.ref (ρ 28), .ref (ρ 49), .ref (ρ 52)] 0, LST [.str ⟨⟨[109, 61, 109, 61, 34, r 0, r 1, r 2, r 3, r 4, r 5, r 6, r 7, r 8, r 9, 34]⟩⟩ (τ 41)] 0, LST [.str ⟨⟨[109, 61, 109, 61, r 0, r 1, r 2, r 3, r 4, r 5, r 6, r 7, r 8, r 9]⟩⟩ (τ 59)] 0, LST (strsL (tkl τ 69 60) (runsOf [109, 61, 109, 61, r 0, r 1, r 2, r 3, r 4, r 5, r 6, r 7, r 8, r 9])) (τ 68)])
theorem DU22T_n (w : World) (a st : Nat → Nat) (pp : Nat → Pos) (p : Pos) (t1 t2 t3 : Nat) (r : Nat → Nat) : (DU22T (wCT w) a st pp p t1 t2 t3 r).Spec (wCT w) a := Fr.spec fun ρ τ => by kernel_rfl

theorem DU22T_s (w : World) (S : Shared) {ρ r st : Nat → Nat} {pp : Nat → Pos} {t1 t2 t3 : Nat} : SpecI (WD (wCT w) S) ρ (duUse22 r st pp t1 t2 t3) := by
  refine spec_new (by decide) rfl (fun _ _ => rfl) (fun _ _ => rfl) fun Γ p h tk R hc hbl G fin => ?_
  rw [hbl _ rfl]
  refine DU22T_n w (fun i => ρ (nthN [] i)) st pp p t1 t2 t3 r G ?_ fun ρ' τ h' tk' _ N M => fin (nthN [ρ' 54, ρ' 28, ρ' 49, ρ' 52]) (nthN ([τ 41, τ 59, τ 68] ++ tkl τ 69 60)) h' tk' (fun j hj => nthN_ge _ j hj) (fun j hj => nthN_ge _ j (by rw [List.length_append, tkl_len]; exact hj)) N M
  refine okc ?_ ok0
  exact ok_new (fun _ _ => rfl) fun ρ τ => rn_spec (wCT w) S (by simp)
theorem du22_s (w : World) (S : Shared) {ρ r st : Nat → Nat} {pp : Nat → Pos} {t1 t2 t3 : Nat} : SpecI (WD w S) ρ (duUse22 r st pp t1 t2 t3) := by
  cases hb : w.params.followText "comprehension-iter-twice" with
  | true =>
    have K := DU22T_s w S (ρ := ρ) (r := r) (st := st) (pp := pp) (t1 := t1) (t2 := t2) (t3 := t3)
    rwa [wCT_eq hb] at K
  | false =>
    have K := DU22F_s w S (ρ := ρ) (r := r) (st := st) (pp := pp) (t1 := t1) (t2 := t2) (t3 := t3)
    rwa [wCF_eq hb] at K
noncomputable def DU32F (w : World) (a st : Nat → Nat) (pp : Nat → Pos) (p : Pos) (t1 t2 t3 : Nat) (r : Nat → Nat) : Fr :=
  frC (blLaw st pp) (cDUc 3 2 (ten r) t1 t2 t3) p 0 []
    [.use 52 68 fun ρ τ => rnUse (blDU st pp (nthN [ρ 1, ρ 2, ρ 3]) (ρ 0) ⟨800, 20, 800, 49⟩) [109, 61, 109, 61, 109, 61, r 0, r 1, r 2, r 3, r 4, r 5, r 6, r 7, r 8, r 9] (τ 67)]
    [54, 28, 49, 52] (1039) (3792593194077147660253965514948600831697664119885467883407994568171294490383620084006235707214535697607996539377172196711488666368722309439607647653949688299954149731243541511027196508303053266025687443427253211852371143368770805274551503258360278978712648828182991851184885176218395468157376191144273371425721984648434328662966970840500001710433895859490427271167805096157714874742469268916709228184403896556223433266005379612833961730328036968953890212747916817791855951718488834723950000883861233974482919988828991806908979914659893713295040321215901080010790626661812497297727704542794291817622179521951245151036348791598081635686238851224598682741268083498489239261259439229749778464090820071030552499702680706639964465787725239566219813581705828414353290272294228058187848435541662922679083204603476461006179959328659177084881351832613257244800647569293600778389032518368874371433933659536482749188768485265204960569039951817798773765767514167732226213415053062740408550536304355672027659150031797682548795658424660600029603872956328721958955243338856071313008324462764928448642863143557920594212091270837135622984931220888252636754415853439113844537863741635242767027514412484595782257661897857581581196308237133572756801043586780127460477548739098468655441313576579337071375104841714534472071557880701630498491792997151149216366003054341655703593877913316401573878576752796870481201811289964286162782650368) (fun ρ _ => .inl (.done (.ret (.ref (ρ 54))), ⟨800, 11, 800, 50⟩)) (fun _ _ => []) (fun ρ τ => [LST [.ref (ρ 28), .ref (ρ 49), .ref (ρ 52)] 0, LST [.str ⟨⟨[109, 61, 109, 61, 34, 109, 61, r 0, r 1, r 2, r 3, r 4, r 5, r 6, r 7, r 8, r 9, 34]⟩⟩ (τ 41)] 0, LST [.str ⟨⟨[109, 61, 109, 61, 109, 61, r 0, r 1, r 2, r 3, r 4, r 5, r 6, r 7, r 8, r 9]⟩⟩ (τ 59)] 0, LST (strsL (tkl τ 69 60) (runsOf [109, 61, 109, 61, 109, 61, r 0, r 1, r 2, r 3, r 4, r 5, r 6, r 7, r 8, r 9])) (τ 68)])
theorem DU32F_n (w : World) (a st : Nat → Nat) (pp : Nat → Pos) (p : Pos) (t1 t2 t3 : Nat) (r : Nat → Nat) : (DU32F (wCF w) a st pp p t1 t2 t3 r).Spec (wCF w) a := Fr.spec fun ρ τ => by kernel_rfl

noncomputable def duUse32 (r st : Nat → Nat) (pp : Nat → Pos) (t1 t2 t3 : Nat) : Use :=
  newUse (cDUc 3 2 (ten r) t1 t2 t3) (some (blLaw st pp)) [] [] 4 63 (fun _ _ => []) (fun ν θ => [LST [.ref (ν 1), .ref (ν 2), .ref (ν 3)] 0, LST [.str ⟨⟨[109, 61, 109, 61, 34, 109, 61, r 0, r 1, r 2, r 3, r 4, r 5, r 6, r 7, r 8, r 9, 34]⟩⟩ (θ 0)] 0, LST [.str ⟨⟨[109, 61, 109, 61, 109, 61, r 0, r 1, r 2, r 3, r 4, r 5, r 6, r 7, r 8, r 9]⟩⟩ (θ 1)] 0, LST (strsL (tkl θ 3 60) (runsOf [109, 61, 109, 61, 109, 61, r 0, r 1, r 2, r 3, r 4, r 5, r 6, r 7, r 8, r 9])) (θ 2)]) (fun ν _ => .ok (.ret (.ref (ν 0))))
theorem DU32F_s (w : World) (S : Shared) {ρ r st : Nat → Nat} {pp : Nat → Pos} {t1 t2 t3 : Nat} : SpecI (WD (wCF w) S) ρ (duUse32 r st pp t1 t2 t3) := by
  refine spec_new (by decide) rfl (fun _ _ => rfl) (fun _ _ => rfl) fun Γ p h tk R hc hbl G fin => ?_
  rw [hbl _ rfl]
  refine DU32F_n w (fun i => ρ (nthN [] i)) st pp p t1 t2 t3 r G ?_ fun ρ' τ h' tk' _ N M => fin (nthN [ρ' 54, ρ' 28, ρ' 49, ρ' 52]) (nthN ([τ 41, τ 59, τ 68] ++ tkl τ 69 60)) h' tk' (fun j hj => nthN_ge _ j hj) (fun j hj => nthN_ge _ j (by rw [List.length_append, tkl_len]; exact hj)) N M
  refine okc ?_ ok0
  exact ok_new (fun _ _ => rfl) fun ρ τ => rn_spec (wCF w) S (by simp)
noncomputable def DU32T (w : World) (a st : Nat → Nat) (pp : Nat → Pos) (p : Pos) (t1 t2 t3 : Nat) (r : Nat → Nat) : Fr :=
  frC (blLaw st pp) (cDUc 3 2 (ten r) t1 t2 t3) p 0 []
    [.use 52 68 fun ρ τ => rnUse (blDU st pp (nthN [ρ 1, ρ 2, ρ 3]) (ρ 0) ⟨800, 20, 800, 49⟩) [109, 61, 109, 61, 109, 61, r 0, r 1, r 2, r 3, r 4, r 5, r 6, r 7, r 8, r 9] (τ 67)]
    [54, 28, 49, 52] (969) (1400677274674960462797026361224076824026874090328889188013511238537747219161400637617892761828421584583590850855962580800894730626798144218645415546959494045104068404896998562092751641471098251780035881876028874876557419704665689905591701164628250100703221316827776442168376141236548576010379119951889569263608733155107172212191003703118467577159045333053216936726891964228902887327677993505969372755429201098416861797577025422301203734625640390591535178094586350073356239509977167463727468890876622789375596039474286456651753653741677175218453229472955368908330481382045335234369714118807142897980590120380484202808603860701755813519117546396406988150008531527215313177398106738875998055044639559217462943699139671850740482921258424975013420644030849102390927368391338294639493309001980533785288342336756605137056041485509180658933723787815914872209104914782172481447117168674039027441717190332094718720272293029607402538524216936868230122772121485062390945494037612973466090337528745310831695427061305579343754202418788550900815290772800530124903848743831527702522445609100225920510025227663837242244773362831593831318393571279823512020087427921102581346523760028289141129419431825062531318408260772722818350747877385926883721993785636577848012211515567684708437392727006564107121852416) (fun ρ _ => .inl (.done (.ret (.ref (ρ 54))), ⟨800, 11, 800, 50⟩)) (fun _ _ => []) (fun ρ τ => [LST [.ref (ρ 28), .ref (ρ 49), .ref (ρ 52)] 0, LST [.str ⟨⟨[109, 61, 109, 61, 34, 109, 61, r 0, r 1, r 2, r 3, r 4, r 5, r 6, r 7, r 8, r 9, 34]⟩⟩ (τ 41)] 0, LST [.str ⟨⟨[109, 61, 109, 61, 109, 61, r 0, r 1, r 2, r 3, r 4, r 5, r 6, r 7, r 8, r 9]⟩⟩ (τ 59)] 0, LST (strsL (tkl τ 69 60) (runsOf [109, 61, 109, 61, 109, 61, r 0, r 1, r 2, r 3, r 4, r 5, r 6, r 7, r 8, r 9])) (τ 68)])
theorem DU32T_n (w : World) (a st : Nat → Nat) (pp : Nat → Pos) (p : Pos) (t1 t2 t3 : Nat) (r : Nat → Nat) : (DU32T (wCT w) a st pp p t1 t2 t3 r).Spec (wCT w) a := Fr.spec fun ρ τ => by kernel_rfl

theorem DU32T_s (w : World) (S : Shared) {ρ r st : Nat → Nat} {pp : Nat → Pos} {t1 t2 t3 : Nat} : SpecI (WD (wCT w) S) ρ (duUse32 r st pp t1 t2 t3) := by
  refine spec_new (by decide) rfl (fun _ _ => rfl) (fun _ _ => rfl) fun Γ p h tk R hc hbl G fin => ?_
  rw [hbl _ rfl]
  refine DU32T_n w (fun i => ρ (nthN [] i)) st pp p t1 t2 t3 r G ?_ fun ρ' τ h' tk' _ N M => fin (nthN [ρ' 54, ρ' 28, ρ' 49, ρ' 52]) (nthN ([τ 41, τ 59, τ 68] ++ tkl τ 69 60)) h' tk' (fun j hj => nthN_ge _ j hj) (fun j hj => nthN_ge _ j (by rw [List.length_append, tkl_len]; exact hj)) N M
  refine okc ?_ ok0
  exact ok_new (fun _ _ => rfl) fun ρ τ => rn_spec (wCT w) S (by simp)
theorem du32_s (w : World) (S : Shared) {ρ r st : Nat → Nat} {pp : Nat → Pos} {t1 t2 t3 : Nat} : SpecI (WD w S) ρ (duUse32 r st pp t1 t2 t3) := by
  cases hb : w.params.followText "comprehension-iter-twice" with
  | true =>
    have K := DU32T_s w S (ρ := ρ) (r := r) (st := st) (pp := pp) (t1 := t1) (t2 := t2) (t3 := t3)
    rwa [wCT_eq hb] at K
  | false =>
    have K := DU32F_s w S (ρ := ρ) (r := r) (st := st) (pp := pp) (t1 := t1) (t2 := t2) (t3 := t3)
    rwa [wCF_eq hb] at K
noncomputable def DU33F (w : World) (a st : Nat → Nat) (pp : Nat → Pos) (p : Pos) (t1 t2 t3 : Nat) (r : Nat → Nat) : Fr :=
  frC (blLaw st pp) (cDUc 3 3 (ten r) t1 t2 t3) p 0 []
    [.use 73 126 fun ρ τ => rnUse (blDU st pp (nthN [ρ 1, ρ 2, ρ 3]) (ρ 0) ⟨800, 20, 800, 49⟩) [109, 61, 109, 61, 109, 61, r 0, r 1, r 2, r 3, r 4, r 5, r 6, r 7, r 8, r 9] (τ 125)]
    [75, 28, 49, 70, 73] (1719) (8327351323448712014423493959831641096429155890609794518565684289377053086086002727102228286519496010036143198626946783785080000187956954140227507765071787643040326624929429104619351800262607462843212764719074463020111471521013775456007962097497171338242499101006416904971710261733333635835598492686675654862706145245271303849473242016284791830897972959986103956450264082805945633297901266892631254743673944100631348142922713886986632803551305952831395863962246098943891084416752264959815856697583597987081545387524818599095346120184240983896929805002382255197136848831956769311715297036633548857794183466917187995011416475592589912652379649259461189440414425167264896915206082614637518660194979265566883697311855582733763604563972009696708544077102879331516783998600941121068094633246491681640066938798448660313610009905721639669919893514138108119633373264875114031025501665864274641884656612331969733807125135377999107508555310967137588919649739648952481069624233462494546506532338015129539997931554701960603152742170788347563707906408938079213317314537242636774160322105349235094836565944251111329550601127749901317149524075546367769186779183601675663978692807279290647404885402534623059259612368267028890633130405144755736006435156117431903767053378735694004114250462784815389544465411926987350276407506706932635875394544507709742039793427233901337086229695215422017402163887928662372258410914836855178529013222848529143170837965792472541353485772878967986606078944118559850904855529277714002154999385818320298090214065819813062026903709489202366700515560873546679794066718503547797409985386944659490969095714665473360400034722920722075894019443071558858635236295837503708247159473270489532757271034195376460752282677176835835832904174646782428400868520924178940928929272816765660539755171379909246789511964809670807987429125081412820871491888435191219060023828658635151572568100814276975415476173707468664834692880686967111025796844598525447664876748349609390714449023819377073105238841256370015280122133876251958970481401760774426967239225685035077869913036421381985544374748843512627536298057551118563526829400205978693924594681562553225336767781665767462239239034527547070066738572526570244012048345668865286419223679188164626583085421044605722538264817292546929019277933518286387421637635958317064248649382392776506434545206487252090480492544) (fun ρ _ => .inl (.done (.ret (.ref (ρ 75))), ⟨800, 11, 800, 50⟩)) (fun _ _ => []) (fun ρ τ => [LST [.ref (ρ 28), .ref (ρ 49), .ref (ρ 70), .ref (ρ 73)] 0, LST [.str ⟨⟨[109, 61, 109, 61, 34, 109, 61, 92, 34, r 0, r 1, r 2, r 3, r 4, r 5, r 6, r 7, r 8, r 9, 92, 34, 34]⟩⟩ (τ 60)] 0, LST [.str ⟨⟨[109, 61, 109, 61, 109, 61, 34, r 0, r 1, r 2, r 3, r 4, r 5, r 6, r 7, r 8, r 9, 34]⟩⟩ (τ 99)] 0, LST [.str ⟨⟨[109, 61, 109, 61, 109, 61, r 0, r 1, r 2, r 3, r 4, r 5, r 6, r 7, r 8, r 9]⟩⟩ (τ 117)] 0, LST (strsL (tkl τ 127 60) (runsOf [109, 61, 109, 61, 109, 61, r 0, r 1, r 2, r 3, r 4, r 5, r 6, r 7, r 8, r 9])) (τ 126)])
theorem DU33F_n (w : World) (a st : Nat → Nat) (pp : Nat → Pos) (p : Pos) (t1 t2 t3 : Nat) (r : Nat → Nat) : (DU33F (wCF w) a st pp p t1 t2 t3 r).Spec (wCF w) a := Fr.spec fun ρ τ => by kernel_rfl

noncomputable def duUse33 (r st : Nat → Nat) (pp : Nat → Pos) (t1 t2 t3 : Nat) : Use :=
  newUse (cDUc 3 3 (ten r) t1 t2 t3) (some (blLaw st pp)) [] [] 5 64 (fun _ _ => []) (fun ν θ => [LST [.ref (ν 1), .ref (ν 2), .ref (ν 3), .ref (ν 4)] 0, LST [.str ⟨⟨[109, 61, 109, 61, 34, 109, 61, 92, 34, r 0, r 1, r 2, r 3, r 4, r 5, r 6, r 7, r 8, r 9, 92, 34, 34]⟩⟩ (θ 0)] 0, LST [.str ⟨⟨[109, 61, 109, 61, 109, 61, 34, r 0, r 1, r 2, r 3, r 4, r 5, r 6, r 7, r 8, r 9, 34]⟩⟩ (θ 1)] 0, LST [.str ⟨⟨[109, 61, 109, 61, 109, 61, r 0, r 1, r 2, r 3, r 4, r 5, r 6, r 7, r 8, r 9]⟩⟩ (θ 2)] 0, LST (strsL (tkl θ 4 60) (runsOf [109, 61, 109, 61, 109, 61, r 0, r 1, r 2, r 3, r 4, r 5, r 6, r 7, r 8, r 9])) (θ 3)]) (fun ν _ => .ok (.ret (.ref (ν 0))))
theorem DU33F_s (w : World) (S : Shared) {ρ r st : Nat → Nat} {pp : Nat → Pos} {t1 t2 t3 : Nat} : SpecI (WD (wCF w) S) ρ (duUse33 r st pp t1 t2 t3) := by
  refine spec_new (by decide) rfl (fun _ _ => rfl) (fun _ _ => rfl) fun Γ p h tk R hc hbl G fin => ?_
  rw [hbl _ rfl]
  refine DU33F_n w (fun i => ρ (nthN [] i)) st pp p t1 t2 t3 r G ?_ fun ρ' τ h' tk' _ N M => fin (nthN [ρ' 75, ρ' 28, ρ' 49, ρ' 70, ρ' 73]) (nthN ([τ 60, τ 99, τ 117, τ 126] ++ tkl τ 127 60)) h' tk' (fun j hj => nthN_ge _ j hj) (fun j hj => nthN_ge _ j (by rw [List.length_append, tkl_len]; exact hj)) N M
  refine okc ?_ ok0
  exact ok_new (fun _ _ => rfl) fun ρ τ => rn_spec (wCF w) S (by simp)
noncomputable def DU33T (w : World) (a st : Nat → Nat) (pp : Nat → Pos) (p : Pos) (t1 t2 t3 : Nat) (r : Nat → Nat) : Fr :=
  frC (blLaw st pp) (cDUc 3 3 (ten r) t1 t2 t3) p 0 []
    [.use 73 126 fun ρ τ => rnUse (blDU st pp (nthN [ρ 1, ρ 2, ρ 3]) (ρ 0) ⟨800, 20, 800, 49⟩) [109, 61, 109, 61, 109, 61, r 0, r 1, r 2, r 3, r 4, r 5, r 6, r 7, r 8, r 9] (τ 125)]
    [75, 28, 49, 70, 73] (1619) (2006824937806984358625363252880492703064529017629167023557876296124053331918857218943510865615701581845586116626641869593276043452505465780651716739623129296443167043799769131958152517503494728496417597719422655668283339479572195463173317692107291551936934242755601331232726313768836078419694422162457219158762721892933434225459201942356985845116344355948516245981055871106953972712128276972591625567238482996600736397934126571985321818548239078945449467521489878097140052936175919356204711127303009462480190325454999308115464299996394360320548277167508543846960884806613010655476527358821337339759900568185276446079685079380381702357159327084958431387894673292916950467528569841265368969591870376463683335298483501246516631802023798032300701790817004521109160158466632872235014680977809657059040432772031552504897145707951914723239532926140999625575530751172487098835275544018978752110986595122210275987063975764954132474643521742190997873927406710881665416062471112359929190961644262542217263786988757894588735222641467361752683595499117761364407988556767649980888835000911215570057457556119735602498052772672988630046926959541048235968250694269477020194942688297310109244751786282243615870089877530134359692421477978601474930685916095504519426065458353491935374532101489927437085561431906095074527953879011264931992875039680261256185534916441216177914501426454658351137402331067063887476357361431715916727498964694182268818468492232130618372676892525253664943734796079734800112765735821425787351387755915945014586347874517305485198941673772092606371663142122098660140751915827306798505676811995663607959140306045477837647542318546175339640432415357144883901313933196514652668658820977438165577660105745697029698254759480132244909635828747564902748421730472478498585038459700353988393108368500210519952588292596147446256012323268345403017248356528572970901573911286787923700732918670042661922390346619837729033331827045531835815180184609839324042488334956026773924327504963323847618947914776658164236624417502351413703654365244284025421895612648989030113982019194267611318542029936828890168292619766703157852992642559984792095554412981038606114528227142937344944898048) (fun ρ _ => .inl (.done (.ret (.ref (ρ 75))), ⟨800, 11, 800, 50⟩)) (fun _ _ => []) (fun ρ τ => [LST [.ref (ρ 28), .ref (ρ 49), .ref (ρ 70), .ref (ρ 73)] 0, LST [.str ⟨⟨[109, 61, 109, 61, 34, 109, 61, 92, 34, r 0, r 1, r 2, r 3, r 4, r 5, r 6, r 7, r 8, r 9, 92, 34, 34]⟩⟩ (τ 60)] 0, LST [.str ⟨⟨[109, 61, 109, 61, 109, 61, 34, r 0, r 1, r 2, r 3, r 4, r 5, r 6, r 7, r 8, r 9, 34]⟩⟩ (τ 99)] 0, LST [.str ⟨⟨[109, 61, 109, 61, 109, 61, r 0, r 1, r 2, r 3, r 4, r 5, r 6, r 7, r 8, r 9]⟩⟩ (τ 117)] 0, LST (strsL (tkl τ 127 60) (runsOf [109, 61, 109, 61, 109, 61, r 0, r 1, r 2, r 3, r 4, r 5, r 6, r 7, r 8, r 9])) (τ 126)])
theorem DU33T_n (w : World) (a st : Nat → Nat) (pp : Nat → Pos) (p : Pos) (t1 t2 t3 : Nat) (r : Nat → Nat) : (DU33T (wCT w) a st pp p t1 t2 t3 r).Spec (wCT w) a := Fr.spec fun ρ τ => by kernel_rfl

theorem DU33T_s (w : World) (S : Shared) {ρ r st : Nat → Nat} {pp : Nat → Pos} {t1 t2 t3 : Nat} : SpecI (WD (wCT w) S) ρ (duUse33 r st pp t1 t2 t3) := by
  refine spec_new (by decide) rfl (fun _ _ => rfl) (fun _ _ => rfl) fun Γ p h tk R hc hbl G fin => ?_
  rw [hbl _ rfl]
  refine DU33T_n w (fun i => ρ (nthN [] i)) st pp p t1 t2 t3 r G ?_ fun ρ' τ h' tk' _ N M => fin (nthN [ρ' 75, ρ' 28, ρ' 49, ρ' 70, ρ' 73]) (nthN ([τ 60, τ 99, τ 117, τ 126] ++ tkl τ 127 60)) h' tk' (fun j hj => nthN_ge _ j hj) (fun j hj => nthN_ge _ j (by rw [List.length_append, tkl_len]; exact hj)) N M
  refine okc ?_ ok0
  exact ok_new (fun _ _ => rfl) fun ρ τ => rn_spec (wCT w) S (by simp)
theorem du33_s (w : World) (S : Shared) {ρ r st : Nat → Nat} {pp : Nat → Pos} {t1 t2 t3 : Nat} : SpecI (WD w S) ρ (duUse33 r st pp t1 t2 t3) := by
  cases hb : w.params.followText "comprehension-iter-twice" with
  | true =>
    have K := DU33T_s w S (ρ := ρ) (r := r) (st := st) (pp := pp) (t1 := t1) (t2 := t2) (t3 := t3)
    rwa [wCT_eq hb] at K
  | false =>
    have K := DU33F_s w S (ρ := ρ) (r := r) (st := st) (pp := pp) (t1 := t1) (t2 := t2) (t3 := t3)
    rwa [wCF_eq hb] at K
end Mine
end
section -- Ne
open PySem PySem.W PyProof.Rows PySem.Calls PySem.SeqAt
set_option Elab.async false
set_option linter.unusedVariables false
set_option maxRecDepth 100000
set_option maxHeartbeats 0
namespace Mine
noncomputable def cNE (x y : Nat) : Code := .call (.builtin "list.__ne__") ⟨[.ref x, .ref y], []⟩
theorem strsL_v : ∀ (ws : List (List Nat)) (ts : List Nat), ws.length ≤ ts.length → StrsAre (strsL ts ws) (ws.map mkS)
  | [], _, _ => .nil
  | c :: cs, [], h => absurd h (by simp)
  | c :: cs, t :: ts, h => .cons _ _ (strsL_v cs ts (Nat.le_of_succ_le_succ h))
theorem strs_nth : ∀ {vs : List Value} {ys : List Str}, StrsAre vs ys → ∀ j, j < vs.length → ∃ t y, ys[j]? = some y ∧ vs[j]? = some (.str y t)
  | _, _, .nil, _, h => absurd h (Nat.not_lt_zero _)
  | _, _, .cons y t h, 0, _ => ⟨t, y, rfl, rfl⟩
  | _, _, .cons y t h, j + 1, hj => strs_nth h j (Nat.lt_of_succ_lt_succ hj)
theorem eq_lists {A : Around} {s : Shared} {x y n n' : Nat} {ws : List (List Nat)} {ts ts' : List Nat} (hx : s.heap.get? x = some (LST (strsL ts ws) n)) (hy : s.heap.get? y = some (LST (strsL ts' ws) n')) (h1 : ws.length ≤ ts.length) (h2 : ws.length ≤ ts'.length) (hne : x ≠ y) (hu : A.units < cLine) :
    EqAt A s (.ref x) (.ref y) true := by
  have v1 := strsL_v ws ts h1
  have v2 := strsL_v ws ts' h2
  have l1 := strs_len v1
  have l2 := strs_len v2
  have hl : s.heap.IsList x ⟨strsL ts ws⟩ := ⟨_, hx, rfl, n, rfl⟩
  have hb : s.heap.IsList y ⟨strsL ts' ws⟩ := ⟨_, hy, rfl, n', rfl⟩
  have K := RcAt.lists (A := A) (e := fun _ => true) hl hb (by show (strsL ts ws).length = (strsL ts' ws).length; omega) hu fun j j1 j2 => by
    obtain ⟨t, z, e1, e2⟩ := strs_nth v1 j j1
    obtain ⟨t', z', e1', e2'⟩ := strs_nth v2 j j2
    have ez : z = z' := by rw [e1] at e1'; exact Option.some.inj e1'
    subst ez
    have g1 : (⟨strsL ts ws⟩ : Array Value)[j] = .str z t := by
      have : (strsL ts ws)[j]? = some ((strsL ts ws)[j]'j1) := List.getElem?_eq_getElem j1
      rw [e2] at this
      exact (Option.some.inj this).symm
    have g2 : (⟨strsL ts' ws⟩ : Array Value)[j] = .str z t' := by
      have : (strsL ts' ws)[j]? = some ((strsL ts' ws)[j]'j2) := List.getElem?_eq_getElem j2
      rw [e2'] at this
      exact (Option.some.inj this).symm
    rw [g1, g2]
    have := EqAt.str_str (A := A.in1) (s := s) z t z t'
    rw [beq_self_eq_true] at this
    exact this
  have e : (List.range (⟨strsL ts ws⟩ : Array Value).size).all (fun _ => true) = true := by simp
  rw [e] at K
  exact EqAt.of_refs hne K
theorem ne_core {w : World} {S : Shared} {bl : List (Code × Pos)} {R : Result → Shared → Prop} {p : Pos} {h : Heap} {tk A B nA nB : Nat} {xs ys : List Nat} (hA : h.get? A = some (LST (xs.map .ref) nA)) (hB : h.get? B = some (LST (ys.map .ref) nB)) (hl : xs.length = ys.length)
    (H : ∀ j, j < xs.length → ∃ (ws : List (List Nat)) (ts ts' : List Nat) (n n' : Nat), h.get? (nthN xs j) = some (LST (strsL ts ws) n) ∧ h.get? (nthN ys j) = some (LST (strsL ts' ws) n') ∧ ws.length ≤ ts.length ∧ ws.length ≤ ts'.length ∧ nthN xs j ≠ nthN ys j) (hu : unitsOf bl ≤ 1000)
    (Fi : R (.ok (.ret (.bool false))) ((WD w S).sh h tk)) : wpCode (model pwR w) ⟨cNE A B, none, none, bl, none⟩ R p ((WD w S).sh h tk) := by
  have hcl : cLine = 9900 := rfl
  have K : codeAny (model pwR w) ⟨none, frameCount bl, none, none, unitsOf bl⟩ (cNE A B) R ((WD w S).sh h tk) := by
    have hT : Shared.TypeIs ((WD w S).sh h tk) (.ref A) "list" := ⟨_, hA, rfl⟩
    unfold cNE
    refine codeAny_call_builtin F.slot_list_ne.plain F.entry_list_ne (F.slot_list_ne.check _ _ _ _ _ _ _ _ hT (F.args_list_ne_2 _ _) (list_neAt A B ⟨xs.map .ref⟩ ⟨ys.map .ref⟩ nA nB none none ⟨[]⟩ ⟨[]⟩ (by simp [hl]) (fun _ => true) pwR w _ R _ ⟨hA, hB, fun j j1 j2 => ?_, ?_⟩))
    · have j1' : j < xs.length := by simpa using j1
      have j2' : j < ys.length := by omega
      obtain ⟨ws, ts, ts', n, n', a1, a2, a3, a4, a5⟩ := H j j1'
      have g1 : (⟨xs.map Value.ref⟩ : Array Value)[j] = .ref (nthN xs j) := by
        show (xs.map Value.ref)[j] = _
        rw [List.getElem_map]
        have := nthN_get xs j j1'
        rw [List.getElem?_eq_getElem j1'] at this
        rw [Option.some.inj this]
      have g2 : (⟨ys.map Value.ref⟩ : Array Value)[j] = .ref (nthN ys j) := by
        show (ys.map Value.ref)[j] = _
        rw [List.getElem_map]
        have := nthN_get ys j j2'
        rw [List.getElem?_eq_getElem j2'] at this
        rw [Option.some.inj this]
      rw [g1, g2]
      refine eq_lists (s := (WD w S).sh h tk) a1 a2 a3 a4 a5 ?_
      show _ + _ < _
      simp only [Around.in1]
      omega
    · have e : (!(List.range (⟨xs.map Value.ref⟩ : Array Value).size).all (fun _ => true)) = false := by simp
      rw [e]
      exact Fi
  exact K _ p rfl ⟨rfl, Nat.le_refl _, fun _ h => (nomatch h), fun _ h => (nomatch h), Nat.le_refl _⟩
theorem units_law (st : Nat → Nat) (pp : Nat → Pos) : unitsOf (blLaw st pp) ≤ 1000 := by
  have e : unitsOf (blLaw st pp) = unitsOf (blLaw (fun _ => 0) (fun _ => ⟨0, 0, 0, 0⟩)) := by kernel_rfl
  rw [e]
  decide +kernel
end Mine
end
section -- Rt3
open PySem PySem.W PyProof.Rows PySem.Calls
set_option Elab.async false
set_option linter.unusedVariables false
set_option maxRecDepth 100000
set_option maxHeartbeats 0
namespace Mine
theorem strsR_eq : ∀ (ws : List (List Nat)) (ts : List Nat) (θ : Nat → Nat) (i n : Nat), ws.length ≤ ts.length → ws.length ≤ n → (∀ j, j < ws.length → θ (i + j) = nthN ts j) → strsL ts ws = strsL (tkl θ i n) ws
  | [], _, _, _, _, _, _, _ => rfl
  | x :: ws, [], _, _, _, h, _, _ => absurd h (by simp)
  | x :: ws, t :: ts, θ, i, 0, _, h, _ => absurd h (by simp)
  | x :: ws, t :: ts, θ, i, n + 1, h1, h2, H => by
    have h0 : θ i = t := H 0 (Nat.succ_pos _)
    show Value.str ⟨⟨x⟩⟩ t :: strsL ts ws = .str ⟨⟨x⟩⟩ (θ i) :: strsL (tkl θ (i + 1) n) ws
    rw [h0, strsR_eq ws ts θ (i + 1) n (Nat.le_of_succ_le_succ h1) (Nat.le_of_succ_le_succ h2) fun j hj => ?_]
    have := H (j + 1) (Nat.succ_lt_succ hj)
    rw [show i + (j + 1) = i + 1 + j by omega] at this
    exact this
theorem strs_one {ts : List Nat} {T : List Nat} (h : 1 ≤ ts.length) : strsL ts [T] = [.str ⟨⟨T⟩⟩ (nthN ts 0)] := by
  cases ts with
  | nil => exact absurd h (by simp)
  | cons t ts => rfl
theorem nthN_take : ∀ (l : List Nat) (n j : Nat), j < n → nthN (l.take n) j = nthN l j
  | [], _, _, _ => by simp
  | x :: l, 0, _, h => absurd h (Nat.not_lt_zero _)
  | x :: l, n + 1, 0, _ => rfl
  | x :: l, n + 1, j + 1, h => nthN_take l n j (Nat.lt_of_succ_lt_succ h)
noncomputable def rtUse0 (P : Params) (a st : Nat → Nat) (pp : Nat → Pos) (keys : List Nat) (ks : Nat → Nat) (X : List Nat) (tx tc : Nat) (d9 : Ents) (s9 : Array (Option Value)) (x : List Nat) (ws : List (List Nat)) : Use :=
  newUse (cLRf (a 2) (a 0)) (some ((cLR (a 0), pp 4) :: blLaw (upd st 1 (a 3)) pp)) keys [FRM (EN P ks [([116, 101, 120, 116], .str ⟨⟨X⟩⟩ tx), ([99, 111, 117, 110, 116], .int 1 tc), ([116, 111, 108, 100], .ref (a 1))] 3) ⟨[]⟩, LST [] 0, RIT 0 1, FRM d9 s9] 1 69
    (fun ν θ => [FRM (frLR P (nthN [θ 1, θ 2, θ 3, θ 4, θ 5]) (a 1) (.str ⟨⟨x⟩⟩ (θ 6)) (.int 1 tc) (.int 0 (θ 7)) (.ref (ν 0))) (SLr (a 3)), LST [.ref (ν 0)] (θ 0), RIT 1 0, FRM d9 SLl])
    (fun ν θ => [LST (strsL (tkl θ 9 60) (x :: ws)) (θ 8)]) (fun _ _ => .ok .next)
theorem rt0_s (w : World) (S : Shared) {ρ st ks : Nat → Nat} {pp : Nat → Pos} {keys : List Nat} {X : List Nat} {tx tc : Nat} {d9 : Ents} {s9 : Array (Option Value)} {x : List Nat} {ws : List (List Nat)} (hl : keys.length = 4) (nd : keys.Nodup) (h9 : s9 = ⟨[]⟩ ∨ s9 = SLl) (Rd : Reads X [x :: ws]) (hw : (x :: ws).length ≤ 60) :
    SpecI (WD w S) ρ (rtUse0 w.params (fun i => ρ (nthN keys i)) st pp keys ks X tx tc d9 s9 x ws) := by
  refine spec_new nd hl (fun _ _ => rfl) (fun _ _ => rfl) fun Γ p h tk R hc hbl G fin => ?_
  rw [hbl _ rfl]
  refine rt_first (a := fun i => ρ (nthN keys i)) (st := st) (pp := pp) h9 Rd tx 0 ks .none .none 0 [] p h tk (by show _ < 16777216; simp) G fun xs ks' ty m vk h' tk' L K N => ?_
  cases L with
  | @cons x0 xs0 _ _ ts0 n0 a0 b0 c0 d0 L0 =>
  cases L0 with
  | nil =>
  obtain ⟨k0, rfl⟩ := K
  have tk0 : ∀ j, j < (x :: ws).length → nthN ([m, ks' 0, ks' 1, ks' 2, ks' 3, ks' 4, ty, k0, n0] ++ ts0.take 60) (9 + j) = nthN ts0 j := fun j hj => by
    exact (nthN_app [m, ks' 0, ks' 1, ks' 2, ks' 3, ks' 4, ty, k0, n0] (ts0.take 60) j).trans (nthN_take _ _ _ (by omega))
  have e0 := strsR_eq (x :: ws) ts0 (nthN ([m, ks' 0, ks' 1, ks' 2, ks' 3, ks' 4, ty, k0, n0] ++ ts0.take 60)) 9 60 b0 hw tk0
  refine fin (nthN [x0]) (nthN ([m, ks' 0, ks' 1, ks' 2, ks' 3, ks' 4, ty, k0, n0] ++ ts0.take 60)) h' tk' (fun j hj => nthN_ge _ j hj) (fun j hj => nthN_ge _ j (by rw [List.length_append, List.length_take]; simp; omega)) N ⟨fun j hj => ?_, fun i j hi hj e => ?_⟩
  · match j, hj with
    | 0, _ =>
      rw [e0] at a0
      exact ⟨a0, c0⟩
  · have lt : ∀ i, i < 1 → i < 1 := fun _ h => h
    have h1 : i < 1 := hi
    have h2 : j < 1 := hj
    omega
noncomputable def rtUse1 (P : Params) (a st : Nat → Nat) (pp : Nat → Pos) (keys : List Nat) (ks : Nat → Nat) (X : List Nat) (tx tc : Nat) (d9 : Ents) (s9 : Array (Option Value)) (T0 : List Nat) (x : List Nat) (ws : List (List Nat)) : Use :=
  newUse (cLRf (a 2) (a 0)) (some ((cLR (a 0), pp 4) :: blLaw (upd st 1 (a 3)) pp)) keys [FRM (EN P ks [([116, 101, 120, 116], .str ⟨⟨X⟩⟩ tx), ([99, 111, 117, 110, 116], .int 2 tc), ([116, 111, 108, 100], .ref (a 1))] 3) ⟨[]⟩, LST [] 0, RIT 0 2, FRM d9 s9] 2 71
    (fun ν θ => [FRM (frLR P (nthN [θ 1, θ 2, θ 3, θ 4, θ 5]) (a 1) (.str ⟨⟨x⟩⟩ (θ 6)) (.int 2 tc) (.int 1 (θ 7)) (.ref (ν 1))) (SLr (a 3)), LST [.ref (ν 0), .ref (ν 1)] (θ 0), RIT 2 0, FRM d9 SLl])
    (fun ν θ => [LST [.str ⟨⟨T0⟩⟩ (θ 8)] (θ 9), LST (strsL (tkl θ 11 60) (x :: ws)) (θ 10)]) (fun _ _ => .ok .next)
theorem rt1_s (w : World) (S : Shared) {ρ st ks : Nat → Nat} {pp : Nat → Pos} {keys : List Nat} {X : List Nat} {tx tc : Nat} {d9 : Ents} {s9 : Array (Option Value)} {T0 : List Nat} {x : List Nat} {ws : List (List Nat)} (hl : keys.length = 4) (nd : keys.Nodup) (h9 : s9 = ⟨[]⟩ ∨ s9 = SLl) (Rd : Reads X [[T0], x :: ws]) (hw : (x :: ws).length ≤ 60) :
    SpecI (WD w S) ρ (rtUse1 w.params (fun i => ρ (nthN keys i)) st pp keys ks X tx tc d9 s9 T0 x ws) := by
  refine spec_new nd hl (fun _ _ => rfl) (fun _ _ => rfl) fun Γ p h tk R hc hbl G fin => ?_
  rw [hbl _ rfl]
  refine rt_first (a := fun i => ρ (nthN keys i)) (st := st) (pp := pp) h9 Rd tx 0 ks .none .none 0 [] p h tk (by show _ < 16777216; simp) G fun xs ks' ty m vk h' tk' L K N => ?_
  cases L with
  | @cons x0 xs0 _ _ ts0 n0 a0 b0 c0 d0 L0 =>
  cases L0 with
  | @cons x1 xs1 _ _ ts1 n1 a1 b1 c1 d1 L1 =>
  cases L1 with
  | nil =>
  obtain ⟨k0, ⟨k1, rfl⟩⟩ := K
  have tk0 : ∀ j, j < (x :: ws).length → nthN ([m, ks' 0, ks' 1, ks' 2, ks' 3, ks' 4, ty, k1, nthN ts0 0, n0, n1] ++ ts1.take 60) (11 + j) = nthN ts1 j := fun j hj => by
    exact (nthN_app [m, ks' 0, ks' 1, ks' 2, ks' 3, ks' 4, ty, k1, nthN ts0 0, n0, n1] (ts1.take 60) j).trans (nthN_take _ _ _ (by omega))
  have e1 := strsR_eq (x :: ws) ts1 (nthN ([m, ks' 0, ks' 1, ks' 2, ks' 3, ks' 4, ty, k1, nthN ts0 0, n0, n1] ++ ts1.take 60)) 11 60 b1 hw tk0
  refine fin (nthN [x0, x1]) (nthN ([m, ks' 0, ks' 1, ks' 2, ks' 3, ks' 4, ty, k1, nthN ts0 0, n0, n1] ++ ts1.take 60)) h' tk' (fun j hj => nthN_ge _ j hj) (fun j hj => nthN_ge _ j (by rw [List.length_append, List.length_take]; simp; omega)) N ⟨fun j hj => ?_, fun i j hi hj e => ?_⟩
  · match j, hj with
    | 0, _ =>
      rw [strs_one b0] at a0
      exact ⟨a0, c0⟩
    | 1, _ =>
      rw [e1] at a1
      exact ⟨a1, c1⟩
  · have lt : ∀ i, i < 2 → i < 2 := fun _ h => h
    have h1 : i < 2 := hi
    have h2 : j < 2 := hj
    simp only [List.mem_cons, List.not_mem_nil, or_false, not_or] at d0
    match i, h1, j, h2 with
    | 0, _, 0, _ => rfl
    | 0, _, 1, _ => exact absurd e (d0)
    | 1, _, 0, _ => exact absurd (Eq.symm e) (d0)
    | 1, _, 1, _ => rfl
noncomputable def rtUse2 (P : Params) (a st : Nat → Nat) (pp : Nat → Pos) (keys : List Nat) (ks : Nat → Nat) (X : List Nat) (tx tc : Nat) (d9 : Ents) (s9 : Array (Option Value)) (T0 T1 : List Nat) (x : List Nat) (ws : List (List Nat)) : Use :=
  newUse (cLRf (a 2) (a 0)) (some ((cLR (a 0), pp 4) :: blLaw (upd st 1 (a 3)) pp)) keys [FRM (EN P ks [([116, 101, 120, 116], .str ⟨⟨X⟩⟩ tx), ([99, 111, 117, 110, 116], .int 3 tc), ([116, 111, 108, 100], .ref (a 1))] 3) ⟨[]⟩, LST [] 0, RIT 0 3, FRM d9 s9] 3 73
    (fun ν θ => [FRM (frLR P (nthN [θ 1, θ 2, θ 3, θ 4, θ 5]) (a 1) (.str ⟨⟨x⟩⟩ (θ 6)) (.int 3 tc) (.int 2 (θ 7)) (.ref (ν 2))) (SLr (a 3)), LST [.ref (ν 0), .ref (ν 1), .ref (ν 2)] (θ 0), RIT 3 0, FRM d9 SLl])
    (fun ν θ => [LST [.str ⟨⟨T0⟩⟩ (θ 8)] (θ 9), LST [.str ⟨⟨T1⟩⟩ (θ 10)] (θ 11), LST (strsL (tkl θ 13 60) (x :: ws)) (θ 12)]) (fun _ _ => .ok .next)
theorem rt2_s (w : World) (S : Shared) {ρ st ks : Nat → Nat} {pp : Nat → Pos} {keys : List Nat} {X : List Nat} {tx tc : Nat} {d9 : Ents} {s9 : Array (Option Value)} {T0 T1 : List Nat} {x : List Nat} {ws : List (List Nat)} (hl : keys.length = 4) (nd : keys.Nodup) (h9 : s9 = ⟨[]⟩ ∨ s9 = SLl) (Rd : Reads X [[T0], [T1], x :: ws]) (hw : (x :: ws).length ≤ 60) :
    SpecI (WD w S) ρ (rtUse2 w.params (fun i => ρ (nthN keys i)) st pp keys ks X tx tc d9 s9 T0 T1 x ws) := by
  refine spec_new nd hl (fun _ _ => rfl) (fun _ _ => rfl) fun Γ p h tk R hc hbl G fin => ?_
  rw [hbl _ rfl]
  refine rt_first (a := fun i => ρ (nthN keys i)) (st := st) (pp := pp) h9 Rd tx 0 ks .none .none 0 [] p h tk (by show _ < 16777216; simp) G fun xs ks' ty m vk h' tk' L K N => ?_
  cases L with
  | @cons x0 xs0 _ _ ts0 n0 a0 b0 c0 d0 L0 =>
  cases L0 with
  | @cons x1 xs1 _ _ ts1 n1 a1 b1 c1 d1 L1 =>
  cases L1 with
  | @cons x2 xs2 _ _ ts2 n2 a2 b2 c2 d2 L2 =>
  cases L2 with
  | nil =>
  obtain ⟨k0, ⟨k1, ⟨k2, rfl⟩⟩⟩ := K
  have tk0 : ∀ j, j < (x :: ws).length → nthN ([m, ks' 0, ks' 1, ks' 2, ks' 3, ks' 4, ty, k2, nthN ts0 0, n0, nthN ts1 0, n1, n2] ++ ts2.take 60) (13 + j) = nthN ts2 j := fun j hj => by
    exact (nthN_app [m, ks' 0, ks' 1, ks' 2, ks' 3, ks' 4, ty, k2, nthN ts0 0, n0, nthN ts1 0, n1, n2] (ts2.take 60) j).trans (nthN_take _ _ _ (by omega))
  have e2 := strsR_eq (x :: ws) ts2 (nthN ([m, ks' 0, ks' 1, ks' 2, ks' 3, ks' 4, ty, k2, nthN ts0 0, n0, nthN ts1 0, n1, n2] ++ ts2.take 60)) 13 60 b2 hw tk0
  refine fin (nthN [x0, x1, x2]) (nthN ([m, ks' 0, ks' 1, ks' 2, ks' 3, ks' 4, ty, k2, nthN ts0 0, n0, nthN ts1 0, n1, n2] ++ ts2.take 60)) h' tk' (fun j hj => nthN_ge _ j hj) (fun j hj => nthN_ge _ j (by rw [List.length_append, List.length_take]; simp; omega)) N ⟨fun j hj => ?_, fun i j hi hj e => ?_⟩
  · match j, hj with
    | 0, _ =>
      rw [strs_one b0] at a0
      exact ⟨a0, c0⟩
    | 1, _ =>
      rw [strs_one b1] at a1
      exact ⟨a1, c1⟩
    | 2, _ =>
      rw [e2] at a2
      exact ⟨a2, c2⟩
  · have lt : ∀ i, i < 3 → i < 3 := fun _ h => h
    have h1 : i < 3 := hi
    have h2 : j < 3 := hj
    simp only [List.mem_cons, List.not_mem_nil, or_false, not_or] at d0
    simp only [List.mem_cons, List.not_mem_nil, or_false, not_or] at d1
    match i, h1, j, h2 with
    | 0, _, 0, _ => rfl
    | 0, _, 1, _ => exact absurd e (d0.1)
    | 0, _, 2, _ => exact absurd e (d0.2)
    | 1, _, 0, _ => exact absurd (Eq.symm e) (d0.1)
    | 1, _, 1, _ => rfl
    | 1, _, 2, _ => exact absurd e (d1)
    | 2, _, 0, _ => exact absurd (Eq.symm e) (d0.2)
    | 2, _, 1, _ => exact absurd (Eq.symm e) (d1)
    | 2, _, 2, _ => rfl
noncomputable def rtUse3 (P : Params) (a st : Nat → Nat) (pp : Nat → Pos) (keys : List Nat) (ks : Nat → Nat) (X : List Nat) (tx tc : Nat) (d9 : Ents) (s9 : Array (Option Value)) (T0 T1 T2 : List Nat) (x : List Nat) (ws : List (List Nat)) : Use :=
  newUse (cLRf (a 2) (a 0)) (some ((cLR (a 0), pp 4) :: blLaw (upd st 1 (a 3)) pp)) keys [FRM (EN P ks [([116, 101, 120, 116], .str ⟨⟨X⟩⟩ tx), ([99, 111, 117, 110, 116], .int 4 tc), ([116, 111, 108, 100], .ref (a 1))] 3) ⟨[]⟩, LST [] 0, RIT 0 4, FRM d9 s9] 4 75
    (fun ν θ => [FRM (frLR P (nthN [θ 1, θ 2, θ 3, θ 4, θ 5]) (a 1) (.str ⟨⟨x⟩⟩ (θ 6)) (.int 4 tc) (.int 3 (θ 7)) (.ref (ν 3))) (SLr (a 3)), LST [.ref (ν 0), .ref (ν 1), .ref (ν 2), .ref (ν 3)] (θ 0), RIT 4 0, FRM d9 SLl])
    (fun ν θ => [LST [.str ⟨⟨T0⟩⟩ (θ 8)] (θ 9), LST [.str ⟨⟨T1⟩⟩ (θ 10)] (θ 11), LST [.str ⟨⟨T2⟩⟩ (θ 12)] (θ 13), LST (strsL (tkl θ 15 60) (x :: ws)) (θ 14)]) (fun _ _ => .ok .next)
theorem rt3_s (w : World) (S : Shared) {ρ st ks : Nat → Nat} {pp : Nat → Pos} {keys : List Nat} {X : List Nat} {tx tc : Nat} {d9 : Ents} {s9 : Array (Option Value)} {T0 T1 T2 : List Nat} {x : List Nat} {ws : List (List Nat)} (hl : keys.length = 4) (nd : keys.Nodup) (h9 : s9 = ⟨[]⟩ ∨ s9 = SLl) (Rd : Reads X [[T0], [T1], [T2], x :: ws]) (hw : (x :: ws).length ≤ 60) :
    SpecI (WD w S) ρ (rtUse3 w.params (fun i => ρ (nthN keys i)) st pp keys ks X tx tc d9 s9 T0 T1 T2 x ws) := by
  refine spec_new nd hl (fun _ _ => rfl) (fun _ _ => rfl) fun Γ p h tk R hc hbl G fin => ?_
  rw [hbl _ rfl]
  refine rt_first (a := fun i => ρ (nthN keys i)) (st := st) (pp := pp) h9 Rd tx 0 ks .none .none 0 [] p h tk (by show _ < 16777216; simp) G fun xs ks' ty m vk h' tk' L K N => ?_
  cases L with
  | @cons x0 xs0 _ _ ts0 n0 a0 b0 c0 d0 L0 =>
  cases L0 with
  | @cons x1 xs1 _ _ ts1 n1 a1 b1 c1 d1 L1 =>
  cases L1 with
  | @cons x2 xs2 _ _ ts2 n2 a2 b2 c2 d2 L2 =>
  cases L2 with
  | @cons x3 xs3 _ _ ts3 n3 a3 b3 c3 d3 L3 =>
  cases L3 with
  | nil =>
  obtain ⟨k0, ⟨k1, ⟨k2, ⟨k3, rfl⟩⟩⟩⟩ := K
  have tk0 : ∀ j, j < (x :: ws).length → nthN ([m, ks' 0, ks' 1, ks' 2, ks' 3, ks' 4, ty, k3, nthN ts0 0, n0, nthN ts1 0, n1, nthN ts2 0, n2, n3] ++ ts3.take 60) (15 + j) = nthN ts3 j := fun j hj => by
    exact (nthN_app [m, ks' 0, ks' 1, ks' 2, ks' 3, ks' 4, ty, k3, nthN ts0 0, n0, nthN ts1 0, n1, nthN ts2 0, n2, n3] (ts3.take 60) j).trans (nthN_take _ _ _ (by omega))
  have e3 := strsR_eq (x :: ws) ts3 (nthN ([m, ks' 0, ks' 1, ks' 2, ks' 3, ks' 4, ty, k3, nthN ts0 0, n0, nthN ts1 0, n1, nthN ts2 0, n2, n3] ++ ts3.take 60)) 15 60 b3 hw tk0
  refine fin (nthN [x0, x1, x2, x3]) (nthN ([m, ks' 0, ks' 1, ks' 2, ks' 3, ks' 4, ty, k3, nthN ts0 0, n0, nthN ts1 0, n1, nthN ts2 0, n2, n3] ++ ts3.take 60)) h' tk' (fun j hj => nthN_ge _ j hj) (fun j hj => nthN_ge _ j (by rw [List.length_append, List.length_take]; simp; omega)) N ⟨fun j hj => ?_, fun i j hi hj e => ?_⟩
  · match j, hj with
    | 0, _ =>
      rw [strs_one b0] at a0
      exact ⟨a0, c0⟩
    | 1, _ =>
      rw [strs_one b1] at a1
      exact ⟨a1, c1⟩
    | 2, _ =>
      rw [strs_one b2] at a2
      exact ⟨a2, c2⟩
    | 3, _ =>
      rw [e3] at a3
      exact ⟨a3, c3⟩
  · have lt : ∀ i, i < 4 → i < 4 := fun _ h => h
    have h1 : i < 4 := hi
    have h2 : j < 4 := hj
    simp only [List.mem_cons, List.not_mem_nil, or_false, not_or] at d0
    simp only [List.mem_cons, List.not_mem_nil, or_false, not_or] at d1
    simp only [List.mem_cons, List.not_mem_nil, or_false, not_or] at d2
    match i, h1, j, h2 with
    | 0, _, 0, _ => rfl
    | 0, _, 1, _ => exact absurd e (d0.1)
    | 0, _, 2, _ => exact absurd e (d0.2.1)
    | 0, _, 3, _ => exact absurd e (d0.2.2)
    | 1, _, 0, _ => exact absurd (Eq.symm e) (d0.1)
    | 1, _, 1, _ => rfl
    | 1, _, 2, _ => exact absurd e (d1.1)
    | 1, _, 3, _ => exact absurd e (d1.2)
    | 2, _, 0, _ => exact absurd (Eq.symm e) (d0.2.1)
    | 2, _, 1, _ => exact absurd (Eq.symm e) (d1.1)
    | 2, _, 2, _ => rfl
    | 2, _, 3, _ => exact absurd e (d2)
    | 3, _, 0, _ => exact absurd (Eq.symm e) (d0.2.2)
    | 3, _, 1, _ => exact absurd (Eq.symm e) (d1.2)
    | 3, _, 2, _ => exact absurd (Eq.symm e) (d2)
    | 3, _, 3, _ => rfl
end Mine
end
section -- Lw
open PySem PySem.W PyProof.Rows PySem.Calls
set_option Elab.async false
set_option linter.unusedVariables false
set_option maxRecDepth 100000
set_option maxHeartbeats 0
namespace Mine
noncomputable def ppL (pp : Nat → Pos) (p : Pos) : Nat → Pos := fun i => match i with
  | 0 => p
  | i => pp i
noncomputable def ppM (pp : Nat → Pos) (p p4 : Pos) : Nat → Pos := fun i => match i with
  | 0 => p
  | 4 => p4
  | i => pp i
noncomputable def dT (w : World) (ks : Nat → Nat) (vs : Value) (N M : Int) (t p : Int) (F W : List Nat) (θ : Nat → Nat) : Ents :=
  EN w.params ks [([115, 99, 114, 105, 112, 116], vs), ([110, 117, 109, 98, 101, 114], .int N (θ 0)), ([109, 111, 100, 101], .int M (θ 1)), ([116, 105, 109, 101, 115], .int t (θ 2)), ([102, 105, 114, 115, 116], .str ⟨⟨F⟩⟩ (θ 3)), ([112, 97, 105, 114, 115], .int p (θ 4)), ([116, 101, 120, 116], .str ⟨⟨W⟩⟩ (θ 5))] 7
/-- what a turn is of -/
structure LA where
  ks : Nat → Nat
  pp : Nat → Pos
  p : Pos
  N : Int
  m : Nat
  kd : Nat
  tN : Nat
  i : Nat
  n : Nat
  d : Nat → Int
  r : Nat → Nat
  vs : Value
  items : List Value
  s9 : Array (Option Value)
  RX : List Nat
  RW : List (List Nat)
  N0 : Int
  M0 : Int
  t0 : Int
  p0 : Int
  F0 : List Nat
  W0 : List Nat
  θ0 : Nat → Nat
/-- one of the twelve ways: quote, none, times; the texts -/
structure LV where
  q : Bool
  no : Bool
  t : Nat
  F : List Nat
  W : List Nat
  S : List Nat
  Ts : List (List Nat)
noncomputable def LV.p (v : LV) : Nat := v.Ts.length
noncomputable def LV.c (v : LV) : Nat := match v.q with
  | true => 42
  | false => 43
noncomputable def LV.q' (v : LV) : Int := match v.q with
  | true => 1
  | false => 0
noncomputable def kF (b : Bool) (ks : Nat → Nat) (c : Nat) (τ : Nat → Nat) : Nat → Nat := match b with
  | true => nthN [ks 0, τ 0, τ 11, τ 16, τ (c - 17), τ (c + 1), τ (c + 3)]
  | false => ks
noncomputable def nePre (ρ τ : Nat → Nat) (RX : List Nat) (RW : List (List Nat)) (S : List Nat) : Nat → Nat → Nat → Nat → List (List Nat) → List (Nat × Obj)
  | x, y, i, j, [] => [(x, LST (strsL (tkl τ (i + 1) 60) (RX :: RW)) (τ i)), (y, LST (strsL (tkl τ (j + 1) 60) (runsOf S)) (τ j))]
  | x, y, i, j, T :: l => (x, LST (strsL [τ i] [T]) (τ (i + 1))) :: (y, LST (strsL [τ j] [T]) 0) :: nePre ρ τ RX RW S (x + 1) (y + 1) (i + 2) (j + 1) l
noncomputable def refsF (ρ : Nat → Nat) : Nat → Nat → List Value
  | _, 0 => []
  | x, n + 1 => .ref (ρ x) :: refsF ρ (x + 1) n
/-- the frame behind a turn -/
noncomputable def dTb (w : World) (x : LA) (b : Bool) (v : LV) (τ : Nat → Nat) : Ents := dT w (kF b x.ks v.c τ) x.vs x.N (Int.ofNat x.m) v.t v.p v.F v.W (nthN [x.tN, τ 10, τ 15, τ (v.c - 18), τ v.c, τ (v.c + 2)])
noncomputable def dT0 (w : World) (x : LA) : Bool → Ents
  | true => EN w.params x.ks [([115, 99, 114, 105, 112, 116], x.vs)] 1
  | false => dT w x.ks x.vs x.N0 x.M0 x.t0 x.p0 x.F0 x.W0 x.θ0
noncomputable def rtU (P : Params) (a st : Nat → Nat) (pp : Nat → Pos) (keys : List Nat) (ks : Nat → Nat) (X : List Nat) (tx tc : Nat) (d9 : Ents) (s9 : Array (Option Value)) (x : List Nat) (ws : List (List Nat)) : List (List Nat) → Use
  | [] => rtUse0 P a st pp keys ks X tx tc d9 s9 x ws
  | [T0] => rtUse1 P a st pp keys ks X tx tc d9 s9 T0 x ws
  | [T0, T1] => rtUse2 P a st pp keys ks X tx tc d9 s9 T0 T1 x ws
  | [T0, T1, T2] => rtUse3 P a st pp keys ks X tx tc d9 s9 T0 T1 T2 x ws
  | _ => pureUse (.builtin "" {}) none [] 0 fun _ => .ok .next
noncomputable def duU (r st : Nat → Nat) (pp : Nat → Pos) (t1 t2 t3 : Nat) (t p : Nat) : Use := match t, p with
  | 1, 0 => duUse10 r st pp t1 t2 t3
  | 1, 1 => duUse11 r st pp t1 t2 t3
  | 2, 1 => duUse21 r st pp t1 t2 t3
  | 2, 2 => duUse22 r st pp t1 t2 t3
  | 3, 2 => duUse32 r st pp t1 t2 t3
  | 3, 3 => duUse33 r st pp t1 t2 t3
  | _, _ => pureUse (.builtin "" {}) none [] 0 fun _ => .ok .next
noncomputable def strU (c : Code) (x : LA) (ρ : Nat → Nat) (p : Pos) (X : List Nat) : Use := pureUse c (some (blLaw (nthN [ρ 1, ρ 0]) (ppL x.pp p))) [] 1 fun θ => .ok (.ret (.str ⟨⟨X⟩⟩ (θ 0)))
noncomputable def fmcC (x : LA) (v : LV) : CutF := .use 3 23 fun ρ τ => strU (cFMc (Int.ofNat x.m) (τ 10)) x ρ (match v.q with
  | true => ⟨805, 34, 805, 48⟩
  | false => ⟨805, 97, 805, 111⟩) (ten x.r)
noncomputable def fpC (x : LA) (v : LV) : CutF := match v.q with
  | true => .use 3 24 fun ρ τ => strU (cFP1 (ten x.r) (τ 22) (τ 23)) x ρ ⟨805, 16, 805, 49⟩ v.F
  | false => .use 3 25 fun ρ τ => strU (cFP0 (ten x.r) (τ 22) (τ 23) (τ 24)) x ρ ⟨805, 79, 805, 115⟩ v.F
noncomputable def tupC (x : LA) (v : LV) : CutF := .use 4 (v.c - 1) fun ρ τ => pureUse (.call (.builtin "tuple.__contains__") ⟨[.ref (ρ 3), .int (Int.ofNat x.kd) (τ (v.c - 9))], []⟩) none
  [(3, TUP [.int 1 (τ (v.c - 8)), .int 2 (τ (v.c - 7)), .int 4 (τ (v.c - 6)), .int 6 (τ (v.c - 5)), .int 8 (τ (v.c - 4)), .int 10 (τ (v.c - 3)), .int 12 (τ (v.c - 2))])] 0 fun θ => .ok (.ret (.bool !v.no))
noncomputable def wrC (x : LA) (v : LV) : CutF := .use 9 (v.c + 2) fun ρ τ => strU (cWR v.F (τ (v.c - 18)) v.t (τ 15)) x ρ ⟨807, 15, 807, 41⟩ v.W
noncomputable def rowC (x : LA) (m i : Nat) (p : Pos) : CutF := .use m i fun ρ τ => strU (cROW (Int.ofNat x.m) (τ 10)) x ρ p (ten x.r)
noncomputable def txC (x : LA) (v : LV) : CutF := .use 9 (v.c + 6) fun ρ τ => strU (cTX 0 v.t v.p (ten x.r) (τ (v.c + 4)) (τ 15) (τ v.c) (τ (v.c + 5))) x ρ ⟨808, 19, 808, 61⟩ v.W
noncomputable def rtC (w : World) (x : LA) (b : Bool) (v : LV) : CutF := .use 13 (v.c + 15) fun ρ τ => rtU w.params (fun i => ρ (nthN [9, 10, 12, 0] i)) (nthN [ρ 1, ρ 0]) (ppM x.pp ⟨810, 11, 810, 41⟩ ⟨793, 13, 793, 25⟩) [9, 10, 12, 0] (nthN [τ (v.c + 10), τ (v.c + 11), τ (v.c + 12)]) v.W (τ (v.c + 2)) (τ (v.c + 9)) (dTb w x b v τ) x.s9 x.RX x.RW v.Ts
noncomputable def duC (x : LA) (v : LV) : CutF := .use (14 + v.p) (v.c + 85 + 2 * v.p) fun ρ τ => duU x.r (nthN [ρ 1, ρ 0]) (ppL x.pp ⟨810, 45, 810, 83⟩) (τ 15) (τ v.c) (τ (v.c + 84 + 2 * v.p)) v.t v.p
noncomputable def neC (x : LA) (v : LV) : CutF := .use (16 + 2 * v.p) (v.c + 146 + 3 * v.p) fun ρ τ => pureUse (cNE (ρ 10) (ρ (14 + v.p))) (some (blLaw (nthN [ρ 1, ρ 0]) (ppL x.pp ⟨810, 11, 810, 83⟩)))
  ((10, LST (refsF ρ 13 (v.p + 1)) (τ (v.c + 15))) :: (14 + v.p, LST (refsF ρ (15 + v.p) (v.p + 1)) 0) :: nePre ρ τ x.RX x.RW v.S 13 (15 + v.p) (v.c + 23) (v.c + 85 + 2 * v.p) v.Ts) 0 fun _ => .ok (.ret (.bool false))
noncomputable def lwCuts (w : World) (x : LA) (b : Bool) (v : LV) : List CutF :=
  [.use 3 0 fun ρ τ => lnUse (fun i => ρ (nthN [1, 2] i)) [1, 2] x.items x.n x.i (.int x.N x.tN),
   .fn "int.__floordiv__" [.int x.N, .int 6] (.int (x.d 0)),
   .fn "int.__mod__" [.int (x.d 0), .int 65536] (.int (x.d 1)),
   .fn "int.__mul__" [.int (x.d 1), .int 49317] (.int (x.d 2)),
   .fn "int.__add__" [.int 33261, .int (x.d 2)] (.int (x.d 3)),
   .fn "int.__mod__" [.int (x.d 3), .int 65536] (.int (Int.ofNat x.m)),
   .fn "int.__mod__" [.int x.N, .int 3] (.int (Int.ofNat v.t - 1)),
   .fn "int.__floordiv__" [.int x.N, .int 3] (.int (x.d 4)),
   .fn "int.__mod__" [.int (x.d 4), .int 2] (.int v.q'),
   fmcC x v, fpC x v,
   .fn "int.__floordiv__" [.int x.N, .int 3] (.int (x.d 4)),
   .fn "int.__mod__" [.int (x.d 4), .int 2] (.int v.q'),
   .fn "int.__floordiv__" [.int (Int.ofNat x.m), .int 4096] (.int (Int.ofNat x.kd)),
   tupC x v, wrC x v, rowC x 9 (v.c + 5) ⟨808, 46, 808, 60⟩, txC x v,
   .fn "str.__ne__" [.str ⟨⟨v.W⟩⟩, .str ⟨⟨v.W⟩⟩] (.bool false),
   rtC w x b v, rowC x (14 + v.p) (v.c + 84 + 2 * v.p) ⟨810, 68, 810, 82⟩, duC x v, neC x v]
noncomputable def lwF (w : World) (a : Nat → Nat) (x : LA) (b : Bool) (v : LV) (fuel stream : Nat) : Fr :=
  frC [(cLW (a 0), x.pp 1), (cCC, x.pp 2)] (cLWf (a 1) (a 0)) x.p 3 [FRM (dT0 w x b) x.s9, LIT (.ref (a 2)) (Int.ofNat x.i), LST x.items x.n]
    (lwCuts w x b v) [] fuel stream (fun _ _ => .inl (.again (cLWf (a 1) (a 0)), ⟨810, 11, 810, 83⟩)) (fun _ τ => [FRM (dTb w x b v τ) SLl, LIT (.ref (a 2)) (Int.ofNat x.i + 1), LST x.items x.n]) (fun _ _ => [])
noncomputable def LV001 (r : Nat → Nat) : LV := ⟨false, false, 1, [109, 61, r 0, r 1, r 2, r 3, r 4, r 5, r 6, r 7, r 8, r 9], [109, 61, r 0, r 1, r 2, r 3, r 4, r 5, r 6, r 7, r 8, r 9], [109, 61, r 0, r 1, r 2, r 3, r 4, r 5, r 6, r 7, r 8, r 9], []⟩
theorem LWa001 (w : World) (a : Nat → Nat) (x : LA) : (lwF w a x true (LV001 x.r) (370) (52594580438715062103094044742240725167160215094991611618213845913546129963787860097046102587819251103915657033735435514072451854474576229747974465383247868898470941932606911260160049430419262075748727707364795003207337378281513473019867505270203663076973634797123046842261663246069879998139643101347403340257985529733508842235435791699537824348930580291947409261063132764970500604199465983190609414426961469583830814606613207761853754981742872221612253604596452205257876987436029661046930292655360313348)).SpecN w a := Fr.specN fun ρ τ => by kernel_rfl
theorem LWb001 (w : World) (a : Nat → Nat) (x : LA) : (lwF w a x false (LV001 x.r) (370) (52594580438715062103094044742240725167160215094991611618213845913546129963787860097046102587819251103915657033735435514072451854474576229747974465383247868898470941932606911260160049430419262075748727707364795003207337378281513473019867505270203663076973634797123046842261663246069879998139643101347403340257985529733508842235435791699537824348930580291947409261063132764970500604199465983190609414426961469583830814606613207761853754981742872221612253604596452205257876987436029661046930292655360313348)).SpecN w a := Fr.specN fun ρ τ => by kernel_rfl
noncomputable def LV002 (r : Nat → Nat) : LV := ⟨false, false, 2, [109, 61, r 0, r 1, r 2, r 3, r 4, r 5, r 6, r 7, r 8, r 9], [109, 61, 34, 109, 61, r 0, r 1, r 2, r 3, r 4, r 5, r 6, r 7, r 8, r 9, 34], [109, 61, 109, 61, r 0, r 1, r 2, r 3, r 4, r 5, r 6, r 7, r 8, r 9], [[109, 61, 109, 61, r 0, r 1, r 2, r 3, r 4, r 5, r 6, r 7, r 8, r 9]]⟩
theorem LWa002 (w : World) (a : Nat → Nat) (x : LA) : (lwF w a x true (LV002 x.r) (370) (52594580438762803259261607355930559408005592565255751875133192547276381005271386099712154436603272308267241490599087099300621067401152776949848032977637022419390402135086456048344522499273755645242075954903528202704486595355954330556686594603304245849799111536990576383419993967672321411233659573780450026568095081897353660556209362617458407189489666593944256812585034903305418901230150597712334948250929118727674740757721169705408972770631256124584087707095657563260478086710799866666080049470499719172)).SpecN w a := Fr.specN fun ρ τ => by kernel_rfl
theorem LWb002 (w : World) (a : Nat → Nat) (x : LA) : (lwF w a x false (LV002 x.r) (370) (52594580438762803259261607355930559408005592565255751875133192547276381005271386099712154436603272308267241490599087099300621067401152776949848032977637022419390402135086456048344522499273755645242075954903528202704486595355954330556686594603304245849799111536990576383419993967672321411233659573780450026568095081897353660556209362617458407189489666593944256812585034903305418901230150597712334948250929118727674740757721169705408972770631256124584087707095657563260478086710799866666080049470499719172)).SpecN w a := Fr.specN fun ρ τ => by kernel_rfl
noncomputable def LV003 (r : Nat → Nat) : LV := ⟨false, false, 3, [109, 61, r 0, r 1, r 2, r 3, r 4, r 5, r 6, r 7, r 8, r 9], [109, 61, 34, 109, 61, 92, 34, 109, 61, r 0, r 1, r 2, r 3, r 4, r 5, r 6, r 7, r 8, r 9, 92, 34, 34], [109, 61, 109, 61, 109, 61, r 0, r 1, r 2, r 3, r 4, r 5, r 6, r 7, r 8, r 9], [[109, 61, 109, 61, 34, 109, 61, r 0, r 1, r 2, r 3, r 4, r 5, r 6, r 7, r 8, r 9, 34], [109, 61, 109, 61, 109, 61, r 0, r 1, r 2, r 3, r 4, r 5, r 6, r 7, r 8, r 9]]⟩
theorem LWa003 (w : World) (a : Nat → Nat) (x : LA) : (lwF w a x true (LV003 x.r) (370) (52594580438810544415429169969620393648850970035519892132052539181006632046754912102378206285387293512618825947462738684528790280327729324151721600572026175940309862337566000836528995568128249214735424202442261402201635812430395188093505683936404828622624588276858105924578324689274762824327676046213496712878204634061198478876982933535378990030048752895941104364106937041640337198260835212234060482074896767871518666908829131648964190559519640027555921809594862921263079185985570072285229806285639124996)).SpecN w a := Fr.specN fun ρ τ => by kernel_rfl
theorem LWb003 (w : World) (a : Nat → Nat) (x : LA) : (lwF w a x false (LV003 x.r) (370) (52594580438810544415429169969620393648850970035519892132052539181006632046754912102378206285387293512618825947462738684528790280327729324151721600572026175940309862337566000836528995568128249214735424202442261402201635812430395188093505683936404828622624588276858105924578324689274762824327676046213496712878204634061198478876982933535378990030048752895941104364106937041640337198260835212234060482074896767871518666908829131648964190559519640027555921809594862921263079185985570072285229806285639124996)).SpecN w a := Fr.specN fun ρ τ => by kernel_rfl
noncomputable def LV011 (r : Nat → Nat) : LV := ⟨false, true, 1, [109, 61, 34, r 0, r 1, r 2, r 3, r 4, r 5, r 6, r 7, r 8, r 9, 34], [109, 61, 34, r 0, r 1, r 2, r 3, r 4, r 5, r 6, r 7, r 8, r 9, 34], [109, 61, r 0, r 1, r 2, r 3, r 4, r 5, r 6, r 7, r 8, r 9], [[109, 61, r 0, r 1, r 2, r 3, r 4, r 5, r 6, r 7, r 8, r 9]]⟩
theorem LWa011 (w : World) (a : Nat → Nat) (x : LA) : (lwF w a x true (LV011 x.r) (373) (56473000732831892674952703175528696076092285163218550044896934408655747572719051725713174579728089972647558157564342634737917989244140722424794983452220127662525143356621225715045279768779241061852523557364656116407357169881052332152635599485700457365707728055307704956744766331033037178519301914934534842877046382367453378482873683840571980876708378148878070546034212269344271529654212494513523420659992632779407138227005094557448874566685115075333919023890525932136415712560493245899663165280103009092221536260)).SpecN w a := Fr.specN fun ρ τ => by kernel_rfl
theorem LWb011 (w : World) (a : Nat → Nat) (x : LA) : (lwF w a x false (LV011 x.r) (373) (56473000732831892674952703175528696076092285163218550044896934408655747572719051725713174579728089972647558157564342634737917989244140722424794983452220127662525143356621225715045279768779241061852523557364656116407357169881052332152635599485700457365707728055307704956744766331033037178519301914934534842877046382367453378482873683840571980876708378148878070546034212269344271529654212494513523420659992632779407138227005094557448874566685115075333919023890525932136415712560493245899663165280103009092221536260)).SpecN w a := Fr.specN fun ρ τ => by kernel_rfl
noncomputable def LV012 (r : Nat → Nat) : LV := ⟨false, true, 2, [109, 61, 34, r 0, r 1, r 2, r 3, r 4, r 5, r 6, r 7, r 8, r 9, 34], [109, 61, 34, 109, 61, 92, 34, r 0, r 1, r 2, r 3, r 4, r 5, r 6, r 7, r 8, r 9, 92, 34, 34], [109, 61, 109, 61, r 0, r 1, r 2, r 3, r 4, r 5, r 6, r 7, r 8, r 9], [[109, 61, 109, 61, 34, r 0, r 1, r 2, r 3, r 4, r 5, r 6, r 7, r 8, r 9, 34], [109, 61, 109, 61, r 0, r 1, r 2, r 3, r 4, r 5, r 6, r 7, r 8, r 9]]⟩
theorem LWa012 (w : World) (a : Nat → Nat) (x : LA) : (lwF w a x true (LV012 x.r) (373) (56473000732883154351055930705986226064115256070108473766153342284045527249979472601767249954720017082662705189567169207161303856112567402292956804138406829529893226711527021458600169530209942577756582060544099012684782053022734402304343875624242820687664333083642639644641995432841678824268008645530840109712819242547683260559569714968973381783073392654557580478255273447309507024798913576478817882975513351288110153863817057235644439160043375339723135193733425651788701613640190083662024074491947225515959519236)).SpecN w a := Fr.specN fun ρ τ => by kernel_rfl
theorem LWb012 (w : World) (a : Nat → Nat) (x : LA) : (lwF w a x false (LV012 x.r) (373) (56473000732883154351055930705986226064115256070108473766153342284045527249979472601767249954720017082662705189567169207161303856112567402292956804138406829529893226711527021458600169530209942577756582060544099012684782053022734402304343875624242820687664333083642639644641995432841678824268008645530840109712819242547683260559569714968973381783073392654557580478255273447309507024798913576478817882975513351288110153863817057235644439160043375339723135193733425651788701613640190083662024074491947225515959519236)).SpecN w a := Fr.specN fun ρ τ => by kernel_rfl
noncomputable def LV013 (r : Nat → Nat) : LV := ⟨false, true, 3, [109, 61, 34, r 0, r 1, r 2, r 3, r 4, r 5, r 6, r 7, r 8, r 9, 34], [109, 61, 34, 109, 61, 92, 34, 109, 61, 92, 92, 92, 34, r 0, r 1, r 2, r 3, r 4, r 5, r 6, r 7, r 8, r 9, 92, 92, 92, 34, 92, 34, 34], [109, 61, 109, 61, 109, 61, r 0, r 1, r 2, r 3, r 4, r 5, r 6, r 7, r 8, r 9], [[109, 61, 109, 61, 34, 109, 61, 92, 34, r 0, r 1, r 2, r 3, r 4, r 5, r 6, r 7, r 8, r 9, 92, 34, 34], [109, 61, 109, 61, 109, 61, 34, r 0, r 1, r 2, r 3, r 4, r 5, r 6, r 7, r 8, r 9, 34], [109, 61, 109, 61, 109, 61, r 0, r 1, r 2, r 3, r 4, r 5, r 6, r 7, r 8, r 9]]⟩
theorem LWa013 (w : World) (a : Nat → Nat) (x : LA) : (lwF w a x true (LV013 x.r) (373) (56473000732934416027159158236443756052138226976998397487409750159435306927239893477821325329711944192677852221569995779584689722980994082161118624824593531397261310066432817202155059291640644093660640563723541908962206936164416472456052151762785184009620938111977574332539224534650320470016715376127145376548592102727913142636265746097374782689438407160237090410476334625274742519943614658444112345291034069796813169500629019913840003753401635604112351363576325371440987514719886921424384983703791441939697502212)).SpecN w a := Fr.specN fun ρ τ => by kernel_rfl
theorem LWb013 (w : World) (a : Nat → Nat) (x : LA) : (lwF w a x false (LV013 x.r) (373) (56473000732934416027159158236443756052138226976998397487409750159435306927239893477821325329711944192677852221569995779584689722980994082161118624824593531397261310066432817202155059291640644093660640563723541908962206936164416472456052151762785184009620938111977574332539224534650320470016715376127145376548592102727913142636265746097374782689438407160237090410476334625274742519943614658444112345291034069796813169500629019913840003753401635604112351363576325371440987514719886921424384983703791441939697502212)).SpecN w a := Fr.specN fun ρ τ => by kernel_rfl
noncomputable def LV101 (r : Nat → Nat) : LV := ⟨true, false, 1, [109, 61, 34, r 0, r 1, r 2, r 3, r 4, r 5, r 6, r 7, r 8, r 9, 34], [109, 61, 34, r 0, r 1, r 2, r 3, r 4, r 5, r 6, r 7, r 8, r 9, 34], [109, 61, r 0, r 1, r 2, r 3, r 4, r 5, r 6, r 7, r 8, r 9], [[109, 61, r 0, r 1, r 2, r 3, r 4, r 5, r 6, r 7, r 8, r 9]]⟩
theorem LWa101 (w : World) (a : Nat → Nat) (x : LA) : (lwF w a x true (LV101 x.r) (369) (52594580438762803259261607355930559408005592565255751875133192547276381005271386099712154436603272308267241490599087099300621067401152776949848032977637022419390402135086456048344522499273755645242075954903528202704486595355954330556686594603304245849799111536990576383419993967672321411233659573780450026568095081897353660556209362617458407189489666593944256812585034903305418901230150597712334948250929118727674740757721169705408972770631256124584087707095657563260478086710799866666080049470499719172)).SpecN w a := Fr.specN fun ρ τ => by kernel_rfl
theorem LWb101 (w : World) (a : Nat → Nat) (x : LA) : (lwF w a x false (LV101 x.r) (369) (52594580438762803259261607355930559408005592565255751875133192547276381005271386099712154436603272308267241490599087099300621067401152776949848032977637022419390402135086456048344522499273755645242075954903528202704486595355954330556686594603304245849799111536990576383419993967672321411233659573780450026568095081897353660556209362617458407189489666593944256812585034903305418901230150597712334948250929118727674740757721169705408972770631256124584087707095657563260478086710799866666080049470499719172)).SpecN w a := Fr.specN fun ρ τ => by kernel_rfl
noncomputable def LV102 (r : Nat → Nat) : LV := ⟨true, false, 2, [109, 61, 34, r 0, r 1, r 2, r 3, r 4, r 5, r 6, r 7, r 8, r 9, 34], [109, 61, 34, 109, 61, 92, 34, r 0, r 1, r 2, r 3, r 4, r 5, r 6, r 7, r 8, r 9, 92, 34, 34], [109, 61, 109, 61, r 0, r 1, r 2, r 3, r 4, r 5, r 6, r 7, r 8, r 9], [[109, 61, 109, 61, 34, r 0, r 1, r 2, r 3, r 4, r 5, r 6, r 7, r 8, r 9, 34], [109, 61, 109, 61, r 0, r 1, r 2, r 3, r 4, r 5, r 6, r 7, r 8, r 9]]⟩
theorem LWa102 (w : World) (a : Nat → Nat) (x : LA) : (lwF w a x true (LV102 x.r) (369) (52594580438810544415429169969620393648850970035519892132052539181006632046754912102378206285387293512618825947462738684528790280327729324151721600572026175940309862337566000836528995568128249214735424202442261402201635812430395188093505683936404828622624588276858105924578324689274762824327676046213496712878204634061198478876982933535378990030048752895941104364106937041640337198260835212234060482074896767871518666908829131648964190559519640027555921809594862921263079185985570072285229806285639124996)).SpecN w a := Fr.specN fun ρ τ => by kernel_rfl
theorem LWb102 (w : World) (a : Nat → Nat) (x : LA) : (lwF w a x false (LV102 x.r) (369) (52594580438810544415429169969620393648850970035519892132052539181006632046754912102378206285387293512618825947462738684528790280327729324151721600572026175940309862337566000836528995568128249214735424202442261402201635812430395188093505683936404828622624588276858105924578324689274762824327676046213496712878204634061198478876982933535378990030048752895941104364106937041640337198260835212234060482074896767871518666908829131648964190559519640027555921809594862921263079185985570072285229806285639124996)).SpecN w a := Fr.specN fun ρ τ => by kernel_rfl
noncomputable def LV103 (r : Nat → Nat) : LV := ⟨true, false, 3, [109, 61, 34, r 0, r 1, r 2, r 3, r 4, r 5, r 6, r 7, r 8, r 9, 34], [109, 61, 34, 109, 61, 92, 34, 109, 61, 92, 92, 92, 34, r 0, r 1, r 2, r 3, r 4, r 5, r 6, r 7, r 8, r 9, 92, 92, 92, 34, 92, 34, 34], [109, 61, 109, 61, 109, 61, r 0, r 1, r 2, r 3, r 4, r 5, r 6, r 7, r 8, r 9], [[109, 61, 109, 61, 34, 109, 61, 92, 34, r 0, r 1, r 2, r 3, r 4, r 5, r 6, r 7, r 8, r 9, 92, 34, 34], [109, 61, 109, 61, 109, 61, 34, r 0, r 1, r 2, r 3, r 4, r 5, r 6, r 7, r 8, r 9, 34], [109, 61, 109, 61, 109, 61, r 0, r 1, r 2, r 3, r 4, r 5, r 6, r 7, r 8, r 9]]⟩
theorem LWa103 (w : World) (a : Nat → Nat) (x : LA) : (lwF w a x true (LV103 x.r) (369) (52594580438858285571596732583310227889696347505784032388971885814736883088238438105044258134171314716970410404326390269756959493254305871353595168166415329461229322540045545624713468636982742784228772449980994601698785029504836045630324773269505411395450065016725635465736655410877204237421692518646543399188314186225043297197756504453299572870607839197937951915628839179975255495291519826755786015898864417015362593059937093592519408348408023930527755912094068279265680285260340277904379563100778530820)).SpecN w a := Fr.specN fun ρ τ => by kernel_rfl
theorem LWb103 (w : World) (a : Nat → Nat) (x : LA) : (lwF w a x false (LV103 x.r) (369) (52594580438858285571596732583310227889696347505784032388971885814736883088238438105044258134171314716970410404326390269756959493254305871353595168166415329461229322540045545624713468636982742784228772449980994601698785029504836045630324773269505411395450065016725635465736655410877204237421692518646543399188314186225043297197756504453299572870607839197937951915628839179975255495291519826755786015898864417015362593059937093592519408348408023930527755912094068279265680285260340277904379563100778530820)).SpecN w a := Fr.specN fun ρ τ => by kernel_rfl
noncomputable def LV111 (r : Nat → Nat) : LV := ⟨true, true, 1, [109, 61, 34, r 0, r 1, r 2, r 3, r 4, r 5, r 6, r 7, r 8, r 9, 34], [109, 61, 34, r 0, r 1, r 2, r 3, r 4, r 5, r 6, r 7, r 8, r 9, 34], [109, 61, r 0, r 1, r 2, r 3, r 4, r 5, r 6, r 7, r 8, r 9], [[109, 61, r 0, r 1, r 2, r 3, r 4, r 5, r 6, r 7, r 8, r 9]]⟩
theorem LWa111 (w : World) (a : Nat → Nat) (x : LA) : (lwF w a x true (LV111 x.r) (369) (52594580438762803259261607355930559408005592565255751875133192547276381005271386099712154436603272308267241490599087099300621067401152776949848032977637022419390402135086456048344522499273755645242075954903528202704486595355954330556686594603304245849799111536990576383419993967672321411233659573780450026568095081897353660556209362617458407189489666593944256812585034903305418901230150597712334948250929118727674740757721169705408972770631256124584087707095657563260478086710799866666080049470499719172)).SpecN w a := Fr.specN fun ρ τ => by kernel_rfl
theorem LWb111 (w : World) (a : Nat → Nat) (x : LA) : (lwF w a x false (LV111 x.r) (369) (52594580438762803259261607355930559408005592565255751875133192547276381005271386099712154436603272308267241490599087099300621067401152776949848032977637022419390402135086456048344522499273755645242075954903528202704486595355954330556686594603304245849799111536990576383419993967672321411233659573780450026568095081897353660556209362617458407189489666593944256812585034903305418901230150597712334948250929118727674740757721169705408972770631256124584087707095657563260478086710799866666080049470499719172)).SpecN w a := Fr.specN fun ρ τ => by kernel_rfl
noncomputable def LV112 (r : Nat → Nat) : LV := ⟨true, true, 2, [109, 61, 34, r 0, r 1, r 2, r 3, r 4, r 5, r 6, r 7, r 8, r 9, 34], [109, 61, 34, 109, 61, 92, 34, r 0, r 1, r 2, r 3, r 4, r 5, r 6, r 7, r 8, r 9, 92, 34, 34], [109, 61, 109, 61, r 0, r 1, r 2, r 3, r 4, r 5, r 6, r 7, r 8, r 9], [[109, 61, 109, 61, 34, r 0, r 1, r 2, r 3, r 4, r 5, r 6, r 7, r 8, r 9, 34], [109, 61, 109, 61, r 0, r 1, r 2, r 3, r 4, r 5, r 6, r 7, r 8, r 9]]⟩
theorem LWa112 (w : World) (a : Nat → Nat) (x : LA) : (lwF w a x true (LV112 x.r) (369) (52594580438810544415429169969620393648850970035519892132052539181006632046754912102378206285387293512618825947462738684528790280327729324151721600572026175940309862337566000836528995568128249214735424202442261402201635812430395188093505683936404828622624588276858105924578324689274762824327676046213496712878204634061198478876982933535378990030048752895941104364106937041640337198260835212234060482074896767871518666908829131648964190559519640027555921809594862921263079185985570072285229806285639124996)).SpecN w a := Fr.specN fun ρ τ => by kernel_rfl
theorem LWb112 (w : World) (a : Nat → Nat) (x : LA) : (lwF w a x false (LV112 x.r) (369) (52594580438810544415429169969620393648850970035519892132052539181006632046754912102378206285387293512618825947462738684528790280327729324151721600572026175940309862337566000836528995568128249214735424202442261402201635812430395188093505683936404828622624588276858105924578324689274762824327676046213496712878204634061198478876982933535378990030048752895941104364106937041640337198260835212234060482074896767871518666908829131648964190559519640027555921809594862921263079185985570072285229806285639124996)).SpecN w a := Fr.specN fun ρ τ => by kernel_rfl
noncomputable def LV113 (r : Nat → Nat) : LV := ⟨true, true, 3, [109, 61, 34, r 0, r 1, r 2, r 3, r 4, r 5, r 6, r 7, r 8, r 9, 34], [109, 61, 34, 109, 61, 92, 34, 109, 61, 92, 92, 92, 34, r 0, r 1, r 2, r 3, r 4, r 5, r 6, r 7, r 8, r 9, 92, 92, 92, 34, 92, 34, 34], [109, 61, 109, 61, 109, 61, r 0, r 1, r 2, r 3, r 4, r 5, r 6, r 7, r 8, r 9], [[109, 61, 109, 61, 34, 109, 61, 92, 34, r 0, r 1, r 2, r 3, r 4, r 5, r 6, r 7, r 8, r 9, 92, 34, 34], [109, 61, 109, 61, 109, 61, 34, r 0, r 1, r 2, r 3, r 4, r 5, r 6, r 7, r 8, r 9, 34], [109, 61, 109, 61, 109, 61, r 0, r 1, r 2, r 3, r 4, r 5, r 6, r 7, r 8, r 9]]⟩
theorem LWa113 (w : World) (a : Nat → Nat) (x : LA) : (lwF w a x true (LV113 x.r) (369) (52594580438858285571596732583310227889696347505784032388971885814736883088238438105044258134171314716970410404326390269756959493254305871353595168166415329461229322540045545624713468636982742784228772449980994601698785029504836045630324773269505411395450065016725635465736655410877204237421692518646543399188314186225043297197756504453299572870607839197937951915628839179975255495291519826755786015898864417015362593059937093592519408348408023930527755912094068279265680285260340277904379563100778530820)).SpecN w a := Fr.specN fun ρ τ => by kernel_rfl
theorem LWb113 (w : World) (a : Nat → Nat) (x : LA) : (lwF w a x false (LV113 x.r) (369) (52594580438858285571596732583310227889696347505784032388971885814736883088238438105044258134171314716970410404326390269756959493254305871353595168166415329461229322540045545624713468636982742784228772449980994601698785029504836045630324773269505411395450065016725635465736655410877204237421692518646543399188314186225043297197756504453299572870607839197937951915628839179975255495291519826755786015898864417015362593059937093592519408348408023930527755912094068279265680285260340277904379563100778530820)).SpecN w a := Fr.specN fun ρ τ => by kernel_rfl
end Mine
end
section -- Pl
open PySem PySem.W PyProof.Rows PySem.Calls
set_option Elab.async false
set_option linter.unusedVariables false
set_option maxRecDepth 100000
set_option maxHeartbeats 0
namespace Mine
/-- runs of one kind -/
noncomputable def gr : List Nat → List (List Nat)
  | [] => []
  | x :: l => match l with
    | [] => [[x]]
    | y :: l' => match gr (y :: l') with
      | [] => [[x]]
      | g :: gs => if cl x = cl y then (x :: g) :: gs else [x] :: g :: gs
theorem gr_cons (x y : Nat) (l : List Nat) : gr (x :: y :: l) = match gr (y :: l) with
      | [] => [[x]]
      | g :: gs => if cl x = cl y then (x :: g) :: gs else [x] :: g :: gs := by
  rw [gr]
theorem drop_two {X : List Nat} {k x : Nat} {l : List Nat} (h : X.drop k = x :: l) : X.drop (k + 1) = l ∧ X.getD k 0 = x := by
  constructor
  · rw [show k + 1 = 1 + k by omega, Nat.add_comm, ← List.drop_drop, h]; rfl
  · have : X[k]? = some x := by
      have := congrArg List.head? h
      rw [List.head?_drop] at this
      exact this
    simp [List.getD, this]
theorem parts_gr (X : List Nat) : ∀ (n k x : Nat) (l : List Nat), X.drop k = x :: l → l.length = n → partsL X (k :: cutsL X (k + 1) n) (cutsL X (k + 1) n ++ [X.length]) = gr (x :: l)
  | 0, k, x, l, h, hl => by
    have e : l = [] := List.length_eq_zero_iff.mp hl
    subst e
    show [(X.drop k).take (X.length - k)] = gr [x]
    have : X.length - k = 1 := by
      have := congrArg List.length h
      rw [List.length_drop] at this
      simpa using this
    rw [h, this]
    rw [gr]
    rfl
  | n + 1, k, x, l, h, hl => by
    match l, hl with
    | y :: l', hl' =>
      obtain ⟨h1, gx⟩ := drop_two h
      obtain ⟨_, gy⟩ := drop_two h1
      have ih := parts_gr X n (k + 1) y l' h1 (by simpa using hl')
      have hlen : X.length = k + (n + 2) := by
        have := congrArg List.length h
        rw [List.length_drop, List.length_cons, hl'] at this
        omega
      have e0 : cutsL X (k + 1) (n + 1) = if isCut X (k + 1) then (k + 1) :: cutsL X (k + 1 + 1) n else cutsL X (k + 1 + 1) n := rfl
      have hc : isCut X (k + 1) = (cl y != cl x) := by
        unfold isCut
        rw [gy, show k + 1 - 1 = k by omega, gx]
      rw [e0, hc]
      by_cases hxy : cl x = cl y
      · have : (cl y != cl x) = false := by rw [hxy]; simp
        rw [this]
        show partsL X (k :: cutsL X (k + 1 + 1) n) (cutsL X (k + 1 + 1) n ++ [X.length]) = _
        -- the first part is one longer than the one from k + 1 on
        have key : ∀ (c : Nat) (cs ds : List Nat), k + 1 ≤ c → partsL X (k :: cs) (c :: ds) = (match partsL X ((k + 1) :: cs) (c :: ds) with | [] => [[x]] | g :: gs => (x :: g) :: gs) := fun c cs ds hck => by
          show (X.drop k).take (c - k) :: partsL X cs ds = (x :: (X.drop (k + 1)).take (c - (k + 1))) :: partsL X cs ds
          rw [h, h1, show c - k = (c - (k + 1)) + 1 by omega]
          rfl
        have hdec : ∃ c ds, cutsL X (k + 1 + 1) n ++ [X.length] = c :: ds ∧ k + 1 ≤ c := by
          cases hcs : cutsL X (k + 1 + 1) n with
          | nil => exact ⟨X.length, [], rfl, by omega⟩
          | cons c ds =>
            refine ⟨c, ds ++ [X.length], rfl, ?_⟩
            have := cutsL_asc X n (k + 1 + 1)
            rw [hcs] at this
            exact Nat.le_of_succ_le this.1
        obtain ⟨c, ds, ed, hck⟩ := hdec
        rw [ed] at ih ⊢
        rw [key c _ ds hck, ih, gr_cons]
        cases gr (y :: l') with
        | nil => rfl
        | cons g gs => simp [hxy]
      · have : (cl y != cl x) = true := by
          rw [bne_iff_ne]
          exact fun e => hxy e.symm
        rw [this]
        show partsL X (k :: (k + 1) :: cutsL X (k + 1 + 1) n) ((k + 1) :: (cutsL X (k + 1 + 1) n ++ [X.length])) = _
        show (X.drop k).take (k + 1 - k) :: partsL X ((k + 1) :: cutsL X (k + 1 + 1) n) (cutsL X (k + 1 + 1) n ++ [X.length]) = _
        rw [ih, gr_cons, h, show k + 1 - k = 1 by omega]
        have gn : ∃ g gs, gr (y :: l') = g :: gs := by
          cases l' with
          | nil => exact ⟨_, _, by rw [gr]⟩
          | cons z l2 =>
            rw [gr_cons]
            cases gr (z :: l2) with
            | nil => exact ⟨_, _, rfl⟩
            | cons g gs =>
              dsimp only
              split
              · exact ⟨_, _, rfl⟩
              · exact ⟨_, _, rfl⟩
        obtain ⟨g, gs, eg⟩ := gn
        rw [eg]
        simp [hxy]
theorem runs_gr {X : List Nat} {x : Nat} {l : List Nat} (h : X = x :: l) : runsOf X = gr X := by
  subst h
  exact parts_gr (x :: l) l.length 0 x l rfl rfl
noncomputable def OkS (c : Nat) : Prop := IsW c ∨ IsP c
theorem cl_W {c : Nat} (h : IsW c) : cl c = false := h.p
theorem cl_P {c : Nat} (h : IsP c) : cl c = true := h.p
theorem runA : ∀ (l : List Nat), (∀ c ∈ l, OkS c) → ∀ (T : List Nat) (b : Bool), ∃ u v, l = u ++ v ∧ (∀ c ∈ u, IsW c) ∧ ((v = [] ∧ Lex .a T b l (T ++ u, b, none, [])) ∨ ∃ y v', v = y :: v' ∧ IsP y ∧ Lex .a T b l (T ++ u, b, some y, v'))
  | [], _, T, b => ⟨[], [], rfl, fun _ h => (nomatch h), .inl ⟨rfl, by rw [List.append_nil]; exact .eofA⟩⟩
  | x :: l, h, T, b => by
    rcases h x (List.mem_cons_self ..) with hx | hx
    · obtain ⟨u, v, e, hu, H⟩ := runA l (fun c hc => h c (List.mem_cons_of_mem _ hc)) (T ++ [x]) b
      refine ⟨x :: u, v, by rw [e]; rfl, fun c hc => ?_, ?_⟩
      · rcases List.mem_cons.mp hc with rfl | hc
        · exact hx
        · exact hu c hc
      · rw [List.append_assoc] at H
        rcases H with ⟨hv, L⟩ | ⟨y, v', hv, hy, L⟩
        · exact .inl ⟨hv, .worA hx L⟩
        · exact .inr ⟨y, v', hv, hy, .worA hx L⟩
    · exact ⟨[], x :: l, rfl, fun _ h => (nomatch h), .inr ⟨x, l, rfl, hx, by rw [List.append_nil]; exact .punA hx⟩⟩
theorem runC : ∀ (l : List Nat), (∀ c ∈ l, OkS c) → ∀ (T : List Nat) (b : Bool), ∃ u v, l = u ++ v ∧ (∀ c ∈ u, IsP c) ∧ ((v = [] ∧ Lex .c T b l (T ++ u, b, none, [])) ∨ ∃ y v', v = y :: v' ∧ IsW y ∧ Lex .c T b l (T ++ u, b, some y, v'))
  | [], _, T, b => ⟨[], [], rfl, fun _ h => (nomatch h), .inl ⟨rfl, by rw [List.append_nil]; exact .eofC⟩⟩
  | x :: l, h, T, b => by
    rcases h x (List.mem_cons_self ..) with hx | hx
    · exact ⟨[], x :: l, rfl, fun _ h => (nomatch h), .inr ⟨x, l, rfl, hx, by rw [List.append_nil]; exact .worC hx⟩⟩
    · obtain ⟨u, v, e, hu, H⟩ := runC l (fun c hc => h c (List.mem_cons_of_mem _ hc)) (T ++ [x]) b
      refine ⟨x :: u, v, by rw [e]; rfl, fun c hc => ?_, ?_⟩
      · rcases List.mem_cons.mp hc with rfl | hc
        · exact hx
        · exact hu c hc
      · rw [List.append_assoc] at H
        rcases H with ⟨hv, L⟩ | ⟨y, v', hv, hy, L⟩
        · exact .inl ⟨hv, .punC hx L⟩
        · exact .inr ⟨y, v', hv, hy, .punC hx L⟩
theorem gr_ne (x : Nat) (l : List Nat) : ∃ g gs, gr (x :: l) = g :: gs := by
  cases l with
  | nil => exact ⟨_, _, by rw [gr]⟩
  | cons z l2 =>
    rw [gr_cons]
    cases gr (z :: l2) with
    | nil => exact ⟨_, _, rfl⟩
    | cons g gs =>
      dsimp only
      split
      · exact ⟨_, _, rfl⟩
      · exact ⟨_, _, rfl⟩
theorem gr_app : ∀ (u : List Nat) (x : Nat) (v : List Nat), (∀ c ∈ u, cl c = cl x) → (v = [] ∨ ∃ y v', v = y :: v' ∧ cl y ≠ cl x) → gr (x :: (u ++ v)) = (x :: u) :: gr v
  | [], x, v, _, hv => by
    rcases hv with rfl | ⟨y, v', rfl, hy⟩
    · show gr [x] = [[x]] ++ gr []
      rw [gr, gr]; rfl
    · show gr (x :: y :: v') = _
      rw [gr_cons]
      obtain ⟨g, gs, e⟩ := gr_ne y v'
      rw [e]
      dsimp only
      rw [if_neg fun z => hy z.symm]
  | z :: u, x, v, hu, hv => by
    have hz : cl z = cl x := hu z (List.mem_cons_self ..)
    have ih := gr_app u z v (fun c hc => by rw [hz]; exact hu c (List.mem_cons_of_mem _ hc)) (by
      rcases hv with h | ⟨y, v', h, hy⟩
      · exact .inl h
      · exact .inr ⟨y, v', h, by rw [hz]; exact hy⟩)
    show gr (x :: z :: (u ++ v)) = _
    rw [gr_cons, ih]
    dsimp only
    rw [if_pos hz.symm]
/-- the lexer's words of a text of signs are its runs -/
theorem words_some : ∀ (n x : Nat) (l : List Nat), l.length ≤ n → OkS x → (∀ c ∈ l, OkS c) → Words (some x) l (gr (x :: l))
  | n, x, l, hn, hx, hl => by
    have rec_ : ∀ (y : Nat) (v' : List Nat), v'.length < l.length → OkS y → (∀ c ∈ v', OkS c) → Words (some y) v' (gr (y :: v')) := fun y v' hlt hy hv => by
      cases n with
      | zero => exact absurd hlt (by omega)
      | succ n => exact words_some n y v' (by omega) hy hv
    rcases hx with hx | hx
    · obtain ⟨u, v, e, hu, H⟩ := runA l hl [x] false
      have hcl : ∀ c ∈ u, cl c = cl x := fun c hc => by rw [cl_W (hu c hc), cl_W hx]
      rcases H with ⟨hv, L⟩ | ⟨y, v', hv, hy, L⟩
      · rw [e, gr_app u x v hcl (.inl hv), hv, gr]
        rw [e, hv] at L
        exact .last (.popW hx L)
      · rw [e, gr_app u x v hcl (.inr ⟨y, v', hv, by rw [cl_P hy, cl_W hx]; simp⟩), hv]
        rw [e, hv] at L
        exact .more (.popW hx L) (rec_ y v' (by rw [e, hv]; simp; omega) (.inr hy) fun c hc => hl c (by rw [e, hv]; simp [hc]))
    · obtain ⟨u, v, e, hu, H⟩ := runC l hl [x] false
      have hcl : ∀ c ∈ u, cl c = cl x := fun c hc => by rw [cl_P (hu c hc), cl_P hx]
      rcases H with ⟨hv, L⟩ | ⟨y, v', hv, hy, L⟩
      · rw [e, gr_app u x v hcl (.inl hv), hv, gr]
        rw [e, hv] at L
        exact .last (.popP hx L)
      · rw [e, gr_app u x v hcl (.inr ⟨y, v', hv, by rw [cl_W hy, cl_P hx]; simp⟩), hv]
        rw [e, hv] at L
        exact .more (.popP hx L) (rec_ y v' (by rw [e, hv]; simp; omega) (.inl hy) fun c hc => hl c (by rw [e, hv]; simp [hc]))
theorem words_none {x : Nat} {l : List Nat} (hx : IsW x) (hl : ∀ c ∈ l, OkS c) : Words none (x :: l) (gr (x :: l)) := by
  obtain ⟨u, v, e, hu, H⟩ := runA l hl [x] false
  have hcl : ∀ c ∈ u, cl c = cl x := fun c hc => by rw [cl_W (hu c hc), cl_W hx]
  rcases H with ⟨hv, L⟩ | ⟨y, v', hv, hy, L⟩
  · rw [e, gr_app u x v hcl (.inl hv), hv, gr]
    rw [e, hv] at L
    exact .last (.read hx L)
  · rw [e, gr_app u x v hcl (.inr ⟨y, v', hv, by rw [cl_P hy, cl_W hx]; simp⟩), hv]
    rw [e, hv] at L
    exact .more (.read hx L) (words_some _ y v' (Nat.le_refl _) (.inr hy) fun c hc => hl c (by rw [e, hv]; simp [hc]))
theorem gr_len : ∀ (l : List Nat) (x : Nat), (gr (x :: l)).length ≤ l.length + 1
  | [], x => by rw [gr]; simp
  | y :: l, x => by
    rw [gr_cons]
    have := gr_len l y
    cases e : gr (y :: l) with
    | nil => simp
    | cons g gs =>
      rw [e] at this
      dsimp only
      split
      · simp at this ⊢; omega
      · simp at this ⊢; omega
end Mine
end
section -- Pl2
open PySem PySem.W PyProof.Rows PySem.Calls
set_option Elab.async false
set_option linter.unusedVariables false
set_option maxRecDepth 100000
set_option maxHeartbeats 0
namespace Mine
/-- a sign of a row -/
structure Sg (c : Nat) : Prop where
  ok : OkS c
  o : IsO c
  b : c ≠ 92
  q : c ≠ 34
theorem w45 : IsW 45 := by constructor <;> decide +kernel
theorem w63 : IsW 63 := by constructor <;> decide +kernel
theorem w112 : IsW 112 := by constructor <;> decide +kernel
theorem w99 : IsW 99 := by constructor <;> decide +kernel
theorem w100 : IsW 100 := by constructor <;> decide +kernel
theorem w98 : IsW 98 := by constructor <;> decide +kernel
theorem w108 : IsW 108 := by constructor <;> decide +kernel
theorem w109 : IsW 109 := by constructor <;> decide +kernel
theorem w61 : IsW 61 := by constructor <;> decide +kernel
theorem p114 : IsP 114 := by constructor <;> decide +kernel
theorem p119 : IsP 119 := by constructor <;> decide +kernel
theorem p120 : IsP 120 := by constructor <;> decide +kernel
theorem p115 : IsP 115 := by constructor <;> decide +kernel
theorem p83 : IsP 83 := by constructor <;> decide +kernel
theorem p116 : IsP 116 := by constructor <;> decide +kernel
theorem p84 : IsP 84 := by constructor <;> decide +kernel
theorem iO45 : IsO 45 := by constructor <;> decide +kernel
theorem iO63 : IsO 63 := by constructor <;> decide +kernel
theorem iO112 : IsO 112 := by constructor <;> decide +kernel
theorem iO99 : IsO 99 := by constructor <;> decide +kernel
theorem iO100 : IsO 100 := by constructor <;> decide +kernel
theorem iO98 : IsO 98 := by constructor <;> decide +kernel
theorem iO108 : IsO 108 := by constructor <;> decide +kernel
theorem iO109 : IsO 109 := by constructor <;> decide +kernel
theorem iO61 : IsO 61 := by constructor <;> decide +kernel
theorem iO114 : IsO 114 := by constructor <;> decide +kernel
theorem iO119 : IsO 119 := by constructor <;> decide +kernel
theorem iO120 : IsO 120 := by constructor <;> decide +kernel
theorem iO115 : IsO 115 := by constructor <;> decide +kernel
theorem iO83 : IsO 83 := by constructor <;> decide +kernel
theorem iO116 : IsO 116 := by constructor <;> decide +kernel
theorem iO84 : IsO 84 := by constructor <;> decide +kernel
theorem s45 : Sg 45 := ⟨.inl w45, iO45, by decide, by decide⟩
theorem s63 : Sg 63 := ⟨.inl w63, iO63, by decide, by decide⟩
theorem s112 : Sg 112 := ⟨.inl w112, iO112, by decide, by decide⟩
theorem s99 : Sg 99 := ⟨.inl w99, iO99, by decide, by decide⟩
theorem s100 : Sg 100 := ⟨.inl w100, iO100, by decide, by decide⟩
theorem s98 : Sg 98 := ⟨.inl w98, iO98, by decide, by decide⟩
theorem s108 : Sg 108 := ⟨.inl w108, iO108, by decide, by decide⟩
theorem s109 : Sg 109 := ⟨.inl w109, iO109, by decide, by decide⟩
theorem s61 : Sg 61 := ⟨.inl w61, iO61, by decide, by decide⟩
theorem s114 : Sg 114 := ⟨.inr p114, iO114, by decide, by decide⟩
theorem s119 : Sg 119 := ⟨.inr p119, iO119, by decide, by decide⟩
theorem s120 : Sg 120 := ⟨.inr p120, iO120, by decide, by decide⟩
theorem s115 : Sg 115 := ⟨.inr p115, iO115, by decide, by decide⟩
theorem s83 : Sg 83 := ⟨.inr p83, iO83, by decide, by decide⟩
theorem s116 : Sg 116 := ⟨.inr p116, iO116, by decide, by decide⟩
theorem s84 : Sg 84 := ⟨.inr p84, iO84, by decide, by decide⟩
theorem two_sg {a b k : Nat} (ha : Sg a) (hb : Sg b) : Sg (nthN [a, b] (k % 2)) := by
  rcases Nat.mod_two_eq_zero_or_one k with e | e <;> rw [e]
  · exact ha
  · exact hb
theorem four_sg {a b c d k l : Nat} (ha : Sg a) (hb : Sg b) (hc : Sg c) (hd : Sg d) : Sg (nthN [a, b, c, d] (k % 2 * 2 + l % 2)) := by
  rcases Nat.mod_two_eq_zero_or_one k with e | e <;> rcases Nat.mod_two_eq_zero_or_one l with e' | e' <;> rw [e, e']
  · exact ha
  · exact hb
  · exact hc
  · exact hd
theorem kind_cases {k : Nat} (h : k < 16) : k = 0 ∨ k = 1 ∨ k = 2 ∨ k = 3 ∨ k = 4 ∨ k = 5 ∨ k = 6 ∨ k = 7 ∨ k = 8 ∨ k = 9 ∨ k = 10 ∨ k = 11 ∨ k = 12 ∨ k = 13 ∨ k = 14 ∨ k = 15 := by omega
theorem row_sg (m : Nat) (hm : m < 65536) : ∀ i, i < 10 → Sg (rowOf m i)
  | 0, _ => by
    show Sg (nthN [63, 112, 99, 63, 100, 63, 98, 63, 45, 63, 108, 63, 115, 63, 63, 63] (m / 4096))
    have lt : m / 4096 < 16 := by omega
    rcases kind_cases lt with e | e | e | e | e | e | e | e | e | e | e | e | e | e | e | e <;> rw [e]
    · exact s63
    · exact s112
    · exact s99
    · exact s63
    · exact s100
    · exact s63
    · exact s98
    · exact s63
    · exact s45
    · exact s63
    · exact s108
    · exact s63
    · exact s115
    · exact s63
    · exact s63
    · exact s63
  | 1, _ => two_sg s45 s114
  | 2, _ => two_sg s45 s119
  | 3, _ => four_sg s45 s120 s83 s115
  | 4, _ => two_sg s45 s114
  | 5, _ => two_sg s45 s119
  | 6, _ => four_sg s45 s120 s83 s115
  | 7, _ => two_sg s45 s114
  | 8, _ => two_sg s45 s119
  | 9, _ => four_sg s45 s120 s84 s116
theorem row_plain (m : Nat) (hm : m < 65536) : Plain (rowOf m) := ⟨fun i hi => (row_sg m hm i hi).b, fun i hi => (row_sg m hm i hi).q⟩
/-- a kind that is not none: no sign of the row is a special of a parameter -/
theorem two_safe {a b k : Nat} (ha : SafeC a) (hb : SafeC b) : SafeC (nthN [a, b] (k % 2)) := by
  rcases Nat.mod_two_eq_zero_or_one k with e | e <;> rw [e]
  · exact ha
  · exact hb
theorem four_safe {a b c d k l : Nat} (ha : SafeC a) (hb : SafeC b) (hc : SafeC c) (hd : SafeC d) : SafeC (nthN [a, b, c, d] (k % 2 * 2 + l % 2)) := by
  rcases Nat.mod_two_eq_zero_or_one k with e | e <;> rcases Nat.mod_two_eq_zero_or_one l with e' | e' <;> rw [e, e']
  · exact ha
  · exact hb
  · exact hc
  · exact hd
theorem f45 : SafeC 45 := by unfold SafeC; decide
theorem f112 : SafeC 112 := by unfold SafeC; decide
theorem f99 : SafeC 99 := by unfold SafeC; decide
theorem f100 : SafeC 100 := by unfold SafeC; decide
theorem f98 : SafeC 98 := by unfold SafeC; decide
theorem f108 : SafeC 108 := by unfold SafeC; decide
theorem f114 : SafeC 114 := by unfold SafeC; decide
theorem f119 : SafeC 119 := by unfold SafeC; decide
theorem f120 : SafeC 120 := by unfold SafeC; decide
theorem f115 : SafeC 115 := by unfold SafeC; decide
theorem f83 : SafeC 83 := by unfold SafeC; decide
theorem f116 : SafeC 116 := by unfold SafeC; decide
theorem f84 : SafeC 84 := by unfold SafeC; decide
noncomputable def hasKind (k : Nat) : Bool := [1, 2, 4, 6, 8, 10, 12].contains k
theorem row_safe (m : Nat) (hm : m < 65536) (hk : hasKind (m / 4096) = true) : Safe (rowOf m)
  | 0, _ => by
    show SafeC (nthN [63, 112, 99, 63, 100, 63, 98, 63, 45, 63, 108, 63, 115, 63, 63, 63] (m / 4096))
    have lt : m / 4096 < 16 := by omega
    rcases kind_cases lt with e | e | e | e | e | e | e | e | e | e | e | e | e | e | e | e <;> rw [e] at hk ⊢
    · exact absurd hk (by decide)
    · exact f112
    · exact f99
    · exact absurd hk (by decide)
    · exact f100
    · exact absurd hk (by decide)
    · exact f98
    · exact absurd hk (by decide)
    · exact f45
    · exact absurd hk (by decide)
    · exact f108
    · exact absurd hk (by decide)
    · exact f115
    · exact absurd hk (by decide)
    · exact absurd hk (by decide)
    · exact absurd hk (by decide)
  | 1, _ => two_safe f45 f114
  | 2, _ => two_safe f45 f119
  | 3, _ => four_safe f45 f120 f83 f115
  | 4, _ => two_safe f45 f114
  | 5, _ => two_safe f45 f119
  | 6, _ => four_safe f45 f120 f83 f115
  | 7, _ => two_safe f45 f114
  | 8, _ => two_safe f45 f119
  | 9, _ => four_safe f45 f120 f84 f116
theorem row_none (m : Nat) (hm : m < 65536) (hk : hasKind (m / 4096) = false) : rowOf m 0 = 63 := by
  show nthN [63, 112, 99, 63, 100, 63, 98, 63, 45, 63, 108, 63, 115, 63, 63, 63] (m / 4096) = 63
  have lt : m / 4096 < 16 := by omega
  rcases kind_cases lt with e | e | e | e | e | e | e | e | e | e | e | e | e | e | e | e <;> rw [e] at hk ⊢
  · rfl
  · exact absurd hk (by decide)
  · exact absurd hk (by decide)
  · rfl
  · exact absurd hk (by decide)
  · rfl
  · exact absurd hk (by decide)
  · rfl
  · exact absurd hk (by decide)
  · rfl
  · exact absurd hk (by decide)
  · rfl
  · exact absurd hk (by decide)
  · rfl
  · rfl
  · rfl
theorem wd011 {r : Nat → Nat} (hr : ∀ i, i < 10 → Sg (r i)) : Words none [109, 61, 34, r 0, r 1, r 2, r 3, r 4, r 5, r 6, r 7, r 8, r 9, 34] [[109, 61, r 0, r 1, r 2, r 3, r 4, r 5, r 6, r 7, r 8, r 9]] :=
  .last (b := true) (.read w109 (.worA w61 (.quoA (.othQ (hr 0 (by decide)).o (.othQ (hr 1 (by decide)).o (.othQ (hr 2 (by decide)).o (.othQ (hr 3 (by decide)).o (.othQ (hr 4 (by decide)).o (.othQ (hr 5 (by decide)).o (.othQ (hr 6 (by decide)).o (.othQ (hr 7 (by decide)).o (.othQ (hr 8 (by decide)).o (.othQ (hr 9 (by decide)).o (.cloQ (.eofA)))))))))))))))
theorem wd021 {r : Nat → Nat} (hr : ∀ i, i < 10 → Sg (r i)) : Words none [109, 61, 34, 109, 61, r 0, r 1, r 2, r 3, r 4, r 5, r 6, r 7, r 8, r 9, 34] [[109, 61, 109, 61, r 0, r 1, r 2, r 3, r 4, r 5, r 6, r 7, r 8, r 9]] :=
  .last (b := true) (.read w109 (.worA w61 (.quoA (.othQ iO109 (.othQ iO61 (.othQ (hr 0 (by decide)).o (.othQ (hr 1 (by decide)).o (.othQ (hr 2 (by decide)).o (.othQ (hr 3 (by decide)).o (.othQ (hr 4 (by decide)).o (.othQ (hr 5 (by decide)).o (.othQ (hr 6 (by decide)).o (.othQ (hr 7 (by decide)).o (.othQ (hr 8 (by decide)).o (.othQ (hr 9 (by decide)).o (.cloQ (.eofA)))))))))))))))))
theorem wd022 {r : Nat → Nat} (hr : ∀ i, i < 10 → Sg (r i)) : Words none [109, 61, 34, 109, 61, 92, 34, r 0, r 1, r 2, r 3, r 4, r 5, r 6, r 7, r 8, r 9, 92, 34, 34] [[109, 61, 109, 61, 34, r 0, r 1, r 2, r 3, r 4, r 5, r 6, r 7, r 8, r 9, 34]] :=
  .last (b := true) (.read w109 (.worA w61 (.quoA (.othQ iO109 (.othQ iO61 (.escQ (.quoE (.othQ (hr 0 (by decide)).o (.othQ (hr 1 (by decide)).o (.othQ (hr 2 (by decide)).o (.othQ (hr 3 (by decide)).o (.othQ (hr 4 (by decide)).o (.othQ (hr 5 (by decide)).o (.othQ (hr 6 (by decide)).o (.othQ (hr 7 (by decide)).o (.othQ (hr 8 (by decide)).o (.othQ (hr 9 (by decide)).o (.escQ (.quoE (.cloQ (.eofA)))))))))))))))))))))
theorem wd111 {r : Nat → Nat} (hr : ∀ i, i < 10 → Sg (r i)) : Words none [109, 61, 109, 61, 34, r 0, r 1, r 2, r 3, r 4, r 5, r 6, r 7, r 8, r 9, 34] [[109, 61, 109, 61, r 0, r 1, r 2, r 3, r 4, r 5, r 6, r 7, r 8, r 9]] :=
  .last (b := true) (.read w109 (.worA w61 (.worA w109 (.worA w61 (.quoA (.othQ (hr 0 (by decide)).o (.othQ (hr 1 (by decide)).o (.othQ (hr 2 (by decide)).o (.othQ (hr 3 (by decide)).o (.othQ (hr 4 (by decide)).o (.othQ (hr 5 (by decide)).o (.othQ (hr 6 (by decide)).o (.othQ (hr 7 (by decide)).o (.othQ (hr 8 (by decide)).o (.othQ (hr 9 (by decide)).o (.cloQ (.eofA)))))))))))))))))
theorem wd032 {r : Nat → Nat} (hr : ∀ i, i < 10 → Sg (r i)) : Words none [109, 61, 34, 109, 61, 92, 34, 109, 61, r 0, r 1, r 2, r 3, r 4, r 5, r 6, r 7, r 8, r 9, 92, 34, 34] [[109, 61, 109, 61, 34, 109, 61, r 0, r 1, r 2, r 3, r 4, r 5, r 6, r 7, r 8, r 9, 34]] :=
  .last (b := true) (.read w109 (.worA w61 (.quoA (.othQ iO109 (.othQ iO61 (.escQ (.quoE (.othQ iO109 (.othQ iO61 (.othQ (hr 0 (by decide)).o (.othQ (hr 1 (by decide)).o (.othQ (hr 2 (by decide)).o (.othQ (hr 3 (by decide)).o (.othQ (hr 4 (by decide)).o (.othQ (hr 5 (by decide)).o (.othQ (hr 6 (by decide)).o (.othQ (hr 7 (by decide)).o (.othQ (hr 8 (by decide)).o (.othQ (hr 9 (by decide)).o (.escQ (.quoE (.cloQ (.eofA)))))))))))))))))))))))
theorem wd121 {r : Nat → Nat} (hr : ∀ i, i < 10 → Sg (r i)) : Words none [109, 61, 109, 61, 34, 109, 61, r 0, r 1, r 2, r 3, r 4, r 5, r 6, r 7, r 8, r 9, 34] [[109, 61, 109, 61, 109, 61, r 0, r 1, r 2, r 3, r 4, r 5, r 6, r 7, r 8, r 9]] :=
  .last (b := true) (.read w109 (.worA w61 (.worA w109 (.worA w61 (.quoA (.othQ iO109 (.othQ iO61 (.othQ (hr 0 (by decide)).o (.othQ (hr 1 (by decide)).o (.othQ (hr 2 (by decide)).o (.othQ (hr 3 (by decide)).o (.othQ (hr 4 (by decide)).o (.othQ (hr 5 (by decide)).o (.othQ (hr 6 (by decide)).o (.othQ (hr 7 (by decide)).o (.othQ (hr 8 (by decide)).o (.othQ (hr 9 (by decide)).o (.cloQ (.eofA)))))))))))))))))))
theorem wd033 {r : Nat → Nat} (hr : ∀ i, i < 10 → Sg (r i)) : Words none [109, 61, 34, 109, 61, 92, 34, 109, 61, 92, 92, 92, 34, r 0, r 1, r 2, r 3, r 4, r 5, r 6, r 7, r 8, r 9, 92, 92, 92, 34, 92, 34, 34] [[109, 61, 109, 61, 34, 109, 61, 92, 34, r 0, r 1, r 2, r 3, r 4, r 5, r 6, r 7, r 8, r 9, 92, 34, 34]] :=
  .last (b := true) (.read w109 (.worA w61 (.quoA (.othQ iO109 (.othQ iO61 (.escQ (.quoE (.othQ iO109 (.othQ iO61 (.escQ (.bacE (.escQ (.quoE (.othQ (hr 0 (by decide)).o (.othQ (hr 1 (by decide)).o (.othQ (hr 2 (by decide)).o (.othQ (hr 3 (by decide)).o (.othQ (hr 4 (by decide)).o (.othQ (hr 5 (by decide)).o (.othQ (hr 6 (by decide)).o (.othQ (hr 7 (by decide)).o (.othQ (hr 8 (by decide)).o (.othQ (hr 9 (by decide)).o (.escQ (.bacE (.escQ (.quoE (.escQ (.quoE (.cloQ (.eofA)))))))))))))))))))))))))))))))
theorem wd122 {r : Nat → Nat} (hr : ∀ i, i < 10 → Sg (r i)) : Words none [109, 61, 109, 61, 34, 109, 61, 92, 34, r 0, r 1, r 2, r 3, r 4, r 5, r 6, r 7, r 8, r 9, 92, 34, 34] [[109, 61, 109, 61, 109, 61, 34, r 0, r 1, r 2, r 3, r 4, r 5, r 6, r 7, r 8, r 9, 34]] :=
  .last (b := true) (.read w109 (.worA w61 (.worA w109 (.worA w61 (.quoA (.othQ iO109 (.othQ iO61 (.escQ (.quoE (.othQ (hr 0 (by decide)).o (.othQ (hr 1 (by decide)).o (.othQ (hr 2 (by decide)).o (.othQ (hr 3 (by decide)).o (.othQ (hr 4 (by decide)).o (.othQ (hr 5 (by decide)).o (.othQ (hr 6 (by decide)).o (.othQ (hr 7 (by decide)).o (.othQ (hr 8 (by decide)).o (.othQ (hr 9 (by decide)).o (.escQ (.quoE (.cloQ (.eofA)))))))))))))))))))))))
theorem wd211 {r : Nat → Nat} (hr : ∀ i, i < 10 → Sg (r i)) : Words none [109, 61, 109, 61, 109, 61, 34, r 0, r 1, r 2, r 3, r 4, r 5, r 6, r 7, r 8, r 9, 34] [[109, 61, 109, 61, 109, 61, r 0, r 1, r 2, r 3, r 4, r 5, r 6, r 7, r 8, r 9]] :=
  .last (b := true) (.read w109 (.worA w61 (.worA w109 (.worA w61 (.worA w109 (.worA w61 (.quoA (.othQ (hr 0 (by decide)).o (.othQ (hr 1 (by decide)).o (.othQ (hr 2 (by decide)).o (.othQ (hr 3 (by decide)).o (.othQ (hr 4 (by decide)).o (.othQ (hr 5 (by decide)).o (.othQ (hr 6 (by decide)).o (.othQ (hr 7 (by decide)).o (.othQ (hr 8 (by decide)).o (.othQ (hr 9 (by decide)).o (.cloQ (.eofA)))))))))))))))))))
theorem wd_runs1 {r : Nat → Nat} (hr : ∀ i, i < 10 → Sg (r i)) : ∃ x ws, runsOf [109, 61, r 0, r 1, r 2, r 3, r 4, r 5, r 6, r 7, r 8, r 9] = x :: ws ∧ Words none [109, 61, r 0, r 1, r 2, r 3, r 4, r 5, r 6, r 7, r 8, r 9] (x :: ws) ∧ (x :: ws).length ≤ 60 := by
  have e := runs_gr (X := [109, 61, r 0, r 1, r 2, r 3, r 4, r 5, r 6, r 7, r 8, r 9]) rfl
  obtain ⟨x, ws, eg⟩ := gr_ne 109 [61, r 0, r 1, r 2, r 3, r 4, r 5, r 6, r 7, r 8, r 9]
  refine ⟨x, ws, e.trans eg, ?_, ?_⟩
  · rw [← eg]
    refine words_none w109 fun c hc => ?_
    simp only [List.mem_cons, List.not_mem_nil, or_false] at hc
    rcases hc with rfl | rfl | rfl | rfl | rfl | rfl | rfl | rfl | rfl | rfl | rfl
    · exact .inl w61
    · exact (hr 0 (by decide)).ok
    · exact (hr 1 (by decide)).ok
    · exact (hr 2 (by decide)).ok
    · exact (hr 3 (by decide)).ok
    · exact (hr 4 (by decide)).ok
    · exact (hr 5 (by decide)).ok
    · exact (hr 6 (by decide)).ok
    · exact (hr 7 (by decide)).ok
    · exact (hr 8 (by decide)).ok
    · exact (hr 9 (by decide)).ok
  · have := gr_len [61, r 0, r 1, r 2, r 3, r 4, r 5, r 6, r 7, r 8, r 9] 109
    rw [eg] at this
    exact Nat.le_trans this (by simp)
theorem wd_runs2 {r : Nat → Nat} (hr : ∀ i, i < 10 → Sg (r i)) : ∃ x ws, runsOf [109, 61, 109, 61, r 0, r 1, r 2, r 3, r 4, r 5, r 6, r 7, r 8, r 9] = x :: ws ∧ Words none [109, 61, 109, 61, r 0, r 1, r 2, r 3, r 4, r 5, r 6, r 7, r 8, r 9] (x :: ws) ∧ (x :: ws).length ≤ 60 := by
  have e := runs_gr (X := [109, 61, 109, 61, r 0, r 1, r 2, r 3, r 4, r 5, r 6, r 7, r 8, r 9]) rfl
  obtain ⟨x, ws, eg⟩ := gr_ne 109 [61, 109, 61, r 0, r 1, r 2, r 3, r 4, r 5, r 6, r 7, r 8, r 9]
  refine ⟨x, ws, e.trans eg, ?_, ?_⟩
  · rw [← eg]
    refine words_none w109 fun c hc => ?_
    simp only [List.mem_cons, List.not_mem_nil, or_false] at hc
    rcases hc with rfl | rfl | rfl | rfl | rfl | rfl | rfl | rfl | rfl | rfl | rfl | rfl | rfl
    · exact .inl w61
    · exact .inl w109
    · exact .inl w61
    · exact (hr 0 (by decide)).ok
    · exact (hr 1 (by decide)).ok
    · exact (hr 2 (by decide)).ok
    · exact (hr 3 (by decide)).ok
    · exact (hr 4 (by decide)).ok
    · exact (hr 5 (by decide)).ok
    · exact (hr 6 (by decide)).ok
    · exact (hr 7 (by decide)).ok
    · exact (hr 8 (by decide)).ok
    · exact (hr 9 (by decide)).ok
  · have := gr_len [61, 109, 61, r 0, r 1, r 2, r 3, r 4, r 5, r 6, r 7, r 8, r 9] 109
    rw [eg] at this
    exact Nat.le_trans this (by simp)
theorem wd_runs3 {r : Nat → Nat} (hr : ∀ i, i < 10 → Sg (r i)) : ∃ x ws, runsOf [109, 61, 109, 61, 109, 61, r 0, r 1, r 2, r 3, r 4, r 5, r 6, r 7, r 8, r 9] = x :: ws ∧ Words none [109, 61, 109, 61, 109, 61, r 0, r 1, r 2, r 3, r 4, r 5, r 6, r 7, r 8, r 9] (x :: ws) ∧ (x :: ws).length ≤ 60 := by
  have e := runs_gr (X := [109, 61, 109, 61, 109, 61, r 0, r 1, r 2, r 3, r 4, r 5, r 6, r 7, r 8, r 9]) rfl
  obtain ⟨x, ws, eg⟩ := gr_ne 109 [61, 109, 61, 109, 61, r 0, r 1, r 2, r 3, r 4, r 5, r 6, r 7, r 8, r 9]
  refine ⟨x, ws, e.trans eg, ?_, ?_⟩
  · rw [← eg]
    refine words_none w109 fun c hc => ?_
    simp only [List.mem_cons, List.not_mem_nil, or_false] at hc
    rcases hc with rfl | rfl | rfl | rfl | rfl | rfl | rfl | rfl | rfl | rfl | rfl | rfl | rfl | rfl | rfl
    · exact .inl w61
    · exact .inl w109
    · exact .inl w61
    · exact .inl w109
    · exact .inl w61
    · exact (hr 0 (by decide)).ok
    · exact (hr 1 (by decide)).ok
    · exact (hr 2 (by decide)).ok
    · exact (hr 3 (by decide)).ok
    · exact (hr 4 (by decide)).ok
    · exact (hr 5 (by decide)).ok
    · exact (hr 6 (by decide)).ok
    · exact (hr 7 (by decide)).ok
    · exact (hr 8 (by decide)).ok
    · exact (hr 9 (by decide)).ok
  · have := gr_len [61, 109, 61, 109, 61, r 0, r 1, r 2, r 3, r 4, r 5, r 6, r 7, r 8, r 9] 109
    rw [eg] at this
    exact Nat.le_trans this (by simp)
theorem reads10 {r : Nat → Nat} (hr : ∀ i, i < 10 → Sg (r i)) {x : List Nat} {ws : List (List Nat)} (W : Words none [109, 61, r 0, r 1, r 2, r 3, r 4, r 5, r 6, r 7, r 8, r 9] (x :: ws)) (L60 : (x :: ws).length ≤ 60) : Reads [109, 61, r 0, r 1, r 2, r 3, r 4, r 5, r 6, r 7, r 8, r 9] [x :: ws] :=
  .cons W L60 (by show _ < 16777216; simp) .nil
theorem reads11 {r : Nat → Nat} (hr : ∀ i, i < 10 → Sg (r i)) {x : List Nat} {ws : List (List Nat)} (W : Words none [109, 61, r 0, r 1, r 2, r 3, r 4, r 5, r 6, r 7, r 8, r 9] (x :: ws)) (L60 : (x :: ws).length ≤ 60) : Reads [109, 61, 34, r 0, r 1, r 2, r 3, r 4, r 5, r 6, r 7, r 8, r 9, 34] [[[109, 61, r 0, r 1, r 2, r 3, r 4, r 5, r 6, r 7, r 8, r 9]], x :: ws] :=
  .cons (wd011 hr) (by simp) (by show _ < 16777216; simp) (.cons W L60 (by show _ < 16777216; simp) .nil)
theorem reads21 {r : Nat → Nat} (hr : ∀ i, i < 10 → Sg (r i)) {x : List Nat} {ws : List (List Nat)} (W : Words none [109, 61, 109, 61, r 0, r 1, r 2, r 3, r 4, r 5, r 6, r 7, r 8, r 9] (x :: ws)) (L60 : (x :: ws).length ≤ 60) : Reads [109, 61, 34, 109, 61, r 0, r 1, r 2, r 3, r 4, r 5, r 6, r 7, r 8, r 9, 34] [[[109, 61, 109, 61, r 0, r 1, r 2, r 3, r 4, r 5, r 6, r 7, r 8, r 9]], x :: ws] :=
  .cons (wd021 hr) (by simp) (by show _ < 16777216; simp) (.cons W L60 (by show _ < 16777216; simp) .nil)
theorem reads22 {r : Nat → Nat} (hr : ∀ i, i < 10 → Sg (r i)) {x : List Nat} {ws : List (List Nat)} (W : Words none [109, 61, 109, 61, r 0, r 1, r 2, r 3, r 4, r 5, r 6, r 7, r 8, r 9] (x :: ws)) (L60 : (x :: ws).length ≤ 60) : Reads [109, 61, 34, 109, 61, 92, 34, r 0, r 1, r 2, r 3, r 4, r 5, r 6, r 7, r 8, r 9, 92, 34, 34] [[[109, 61, 109, 61, 34, r 0, r 1, r 2, r 3, r 4, r 5, r 6, r 7, r 8, r 9, 34]], [[109, 61, 109, 61, r 0, r 1, r 2, r 3, r 4, r 5, r 6, r 7, r 8, r 9]], x :: ws] :=
  .cons (wd022 hr) (by simp) (by show _ < 16777216; simp) (.cons (wd111 hr) (by simp) (by show _ < 16777216; simp) (.cons W L60 (by show _ < 16777216; simp) .nil))
theorem reads32 {r : Nat → Nat} (hr : ∀ i, i < 10 → Sg (r i)) {x : List Nat} {ws : List (List Nat)} (W : Words none [109, 61, 109, 61, 109, 61, r 0, r 1, r 2, r 3, r 4, r 5, r 6, r 7, r 8, r 9] (x :: ws)) (L60 : (x :: ws).length ≤ 60) : Reads [109, 61, 34, 109, 61, 92, 34, 109, 61, r 0, r 1, r 2, r 3, r 4, r 5, r 6, r 7, r 8, r 9, 92, 34, 34] [[[109, 61, 109, 61, 34, 109, 61, r 0, r 1, r 2, r 3, r 4, r 5, r 6, r 7, r 8, r 9, 34]], [[109, 61, 109, 61, 109, 61, r 0, r 1, r 2, r 3, r 4, r 5, r 6, r 7, r 8, r 9]], x :: ws] :=
  .cons (wd032 hr) (by simp) (by show _ < 16777216; simp) (.cons (wd121 hr) (by simp) (by show _ < 16777216; simp) (.cons W L60 (by show _ < 16777216; simp) .nil))
theorem reads33 {r : Nat → Nat} (hr : ∀ i, i < 10 → Sg (r i)) {x : List Nat} {ws : List (List Nat)} (W : Words none [109, 61, 109, 61, 109, 61, r 0, r 1, r 2, r 3, r 4, r 5, r 6, r 7, r 8, r 9] (x :: ws)) (L60 : (x :: ws).length ≤ 60) : Reads [109, 61, 34, 109, 61, 92, 34, 109, 61, 92, 92, 92, 34, r 0, r 1, r 2, r 3, r 4, r 5, r 6, r 7, r 8, r 9, 92, 92, 92, 34, 92, 34, 34] [[[109, 61, 109, 61, 34, 109, 61, 92, 34, r 0, r 1, r 2, r 3, r 4, r 5, r 6, r 7, r 8, r 9, 92, 34, 34]], [[109, 61, 109, 61, 109, 61, 34, r 0, r 1, r 2, r 3, r 4, r 5, r 6, r 7, r 8, r 9, 34]], [[109, 61, 109, 61, 109, 61, r 0, r 1, r 2, r 3, r 4, r 5, r 6, r 7, r 8, r 9]], x :: ws] :=
  .cons (wd033 hr) (by simp) (by show _ < 16777216; simp) (.cons (wd122 hr) (by simp) (by show _ < 16777216; simp) (.cons (wd211 hr) (by simp) (by show _ < 16777216; simp) (.cons W L60 (by show _ < 16777216; simp) .nil)))
end Mine
end
section -- Lt
open PySem PySem.W PyProof.Rows PySem.Calls
set_option Elab.async false
set_option linter.unusedVariables false
set_option maxRecDepth 100000
set_option maxHeartbeats 0
namespace Mine
theorem ok_str {W : Wd} {m i : Nat} {c : (Nat → Nat) → (Nat → Nat) → Code} {x : LA} {p : Pos} {X : List Nat} (H : ∀ ρ τ, SpecI W ρ (strU (c ρ τ) x ρ p X)) : CutF.Ok W (.use m i fun ρ τ => strU (c ρ τ) x ρ p X) :=
  ok_pure (code := c) (below := fun ρ _ => some (blLaw (nthN [ρ 1, ρ 0]) (ppL x.pp p))) (pre := fun _ _ => []) (res := fun _ _ θ => .ok (.ret (.str ⟨⟨X⟩⟩ (θ 0)))) H
theorem refsF_is (ρ : Nat → Nat) : ∀ n x, refsF ρ x n = ((List.range' x n).map ρ).map Value.ref
  | 0, _ => rfl
  | n + 1, x => congrArg (Value.ref (ρ x) :: ·) (refsF_is ρ n (x + 1))
theorem nthN_range : ∀ n x j, j < n → nthN (List.range' x n) j = x + j
  | 0, _, _, h => absurd h (Nat.not_lt_zero _)
  | n + 1, x, 0, _ => rfl
  | n + 1, x, j + 1, h => by
    have := nthN_range n (x + 1) j (Nat.lt_of_succ_lt_succ h)
    show nthN (List.range' (x + 1) n) j = _
    omega
theorem ne_mem {ρ τ : Nat → Nat} {RX : List Nat} {RW : List (List Nat)} {S : List Nat} (hR : runsOf S = RX :: RW) (h60 : (RX :: RW).length ≤ 60) : ∀ (Ts : List (List Nat)) (x y i j k : Nat), k ≤ Ts.length →
    ∃ ws ts ts' n n', (x + k, LST (strsL ts ws) n) ∈ nePre ρ τ RX RW S x y i j Ts ∧ (y + k, LST (strsL ts' ws) n') ∈ nePre ρ τ RX RW S x y i j Ts ∧ ws.length ≤ ts.length ∧ ws.length ≤ ts'.length
  | [], x, y, i, j, k, h => by
    have e : k = 0 := Nat.le_zero.mp h
    subst e
    refine ⟨RX :: RW, tkl τ (i + 1) 60, tkl τ (j + 1) 60, τ i, τ j, List.mem_cons_self .., List.mem_cons_of_mem _ ?_, by rw [tkl_len]; exact h60, by rw [tkl_len]; exact h60⟩
    rw [← hR]
    exact List.mem_cons_self ..
  | T :: l, x, y, i, j, 0, _ => ⟨[T], [τ i], [τ j], τ (i + 1), 0, List.mem_cons_self .., List.mem_cons_of_mem _ (List.mem_cons_self ..), Nat.le_refl _, Nat.le_refl _⟩
  | T :: l, x, y, i, j, k + 1, h => by
    obtain ⟨ws, ts, ts', n, n', a, b, c, d⟩ := ne_mem hR h60 l (x + 1) (y + 1) (i + 2) (j + 1) k (Nat.le_of_succ_le_succ h)
    rw [show x + (k + 1) = x + 1 + k by omega, show y + (k + 1) = y + 1 + k by omega]
    exact ⟨ws, ts, ts', n, n', List.mem_cons_of_mem _ (List.mem_cons_of_mem _ a), List.mem_cons_of_mem _ (List.mem_cons_of_mem _ b), c, d⟩
theorem ne_ok (w : World) (S : Shared) (x : LA) (v : LV) (hR : runsOf v.S = x.RX :: x.RW) (h60 : (x.RX :: x.RW).length ≤ 60) : CutF.Ok (WD w S) (neC x v) := by
  unfold neC
  refine ok_pure (code := fun ρ _ => cNE (ρ 10) (ρ (14 + v.p))) (below := fun ρ _ => some (blLaw (nthN [ρ 1, ρ 0]) (ppL x.pp ⟨810, 11, 810, 83⟩))) (res := fun _ _ _ => .ok (.ret (.bool false))) fun ρ τ => ?_
  intro p h tk R top big pre inj fin Γ hc hbl
  rw [hbl _ rfl]
  have e1 : h.get? (ρ 10) = some (LST (refsF ρ 13 (v.p + 1)) (τ (v.c + 15))) := (pre (10, _) (List.mem_cons_self ..)).1
  have e2 : h.get? (ρ (14 + v.p)) = some (LST (refsF ρ (15 + v.p) (v.p + 1)) 0) := (pre (14 + v.p, _) (List.mem_cons_of_mem _ (List.mem_cons_self ..))).1
  rw [refsF_is] at e1 e2
  refine ne_core e1 e2 (by simp) (fun j hj => ?_) (units_law _ _) (fin (fun _ => 0) (fun _ => 0) h tk (fun _ _ => rfl) (fun _ _ => rfl) ⟨Nat.le_refl _, fun q (hq : q ∈ []) => (nomatch hq), fun _ _ hb _ => hb, fun j hj => absurd hj (Nat.not_lt_zero _), fun i j hi => absurd hi (Nat.not_lt_zero _)⟩)
  have hj' : j < v.p + 1 := by simpa using hj
  obtain ⟨ws, ts, ts', n, n', a, b, c, d⟩ := ne_mem (ρ := ρ) (τ := τ) hR h60 v.Ts 13 (15 + v.p) (v.c + 23) (v.c + 85 + 2 * v.p) j (Nat.le_of_lt_succ hj')
  have a' := List.mem_cons_of_mem (10, LST (refsF ρ 13 (v.p + 1)) (τ (v.c + 15))) (List.mem_cons_of_mem (14 + v.p, LST (refsF ρ (15 + v.p) (v.p + 1)) 0) a)
  have b' := List.mem_cons_of_mem (10, LST (refsF ρ 13 (v.p + 1)) (τ (v.c + 15))) (List.mem_cons_of_mem (14 + v.p, LST (refsF ρ (15 + v.p) (v.p + 1)) 0) b)
  have n1 : ∀ y, nthN ((List.range' y (v.p + 1)).map ρ) j = ρ (y + j) := fun y => by
    rw [nthN_map ρ _ j (by simpa using hj'), nthN_range _ _ _ hj']
  rw [n1, n1]
  refine ⟨ws, ts, ts', n, n', (pre _ a').1, (pre _ b').1, c, d, fun e => ?_⟩
  have := inj _ a' _ b' e
  have : 13 + j = 15 + v.p + j := this
  omega
theorem rt_ok (w : World) (S : Shared) (x : LA) (b : Bool) : ∀ (v : LV), (x.s9 = ⟨[]⟩ ∨ x.s9 = SLl) → Reads v.W (v.Ts.map (fun T => [T]) ++ [x.RX :: x.RW]) → (x.RX :: x.RW).length ≤ 60 → v.Ts.length ≤ 3 → CutF.Ok (WD w S) (rtC w x b v)
  | ⟨_, _, _, _, _, _, []⟩, h9, Rd, hw, _ => ok_new (fun _ _ => rfl) fun ρ τ => rt0_s w S (keys := [9, 10, 12, 0]) rfl (by decide) h9 Rd hw
  | ⟨_, _, _, _, _, _, [T0]⟩, h9, Rd, hw, _ => ok_new (fun _ _ => rfl) fun ρ τ => rt1_s w S (keys := [9, 10, 12, 0]) rfl (by decide) h9 Rd hw
  | ⟨_, _, _, _, _, _, [T0, T1]⟩, h9, Rd, hw, _ => ok_new (fun _ _ => rfl) fun ρ τ => rt2_s w S (keys := [9, 10, 12, 0]) rfl (by decide) h9 Rd hw
  | ⟨_, _, _, _, _, _, [T0, T1, T2]⟩, h9, Rd, hw, _ => ok_new (fun _ _ => rfl) fun ρ τ => rt3_s w S (keys := [9, 10, 12, 0]) rfl (by decide) h9 Rd hw
  | ⟨_, _, _, _, _, _, _ :: _ :: _ :: _ :: l⟩, _, _, _, h => absurd h (by simp)
/-- what is known of a number -/
structure Num (x : LA) (v : LV) : Prop where
  d0 : x.N.fdiv 6 = x.d 0
  d1 : (x.d 0).fmod 65536 = x.d 1
  d2 : x.d 1 * 49317 = x.d 2
  d3 : 33261 + x.d 2 = x.d 3
  m : (x.d 3).fmod 65536 = Int.ofNat x.m
  t : x.N.fmod 3 = Int.ofNat v.t - 1
  d4 : x.N.fdiv 3 = x.d 4
  q : (x.d 4).fmod 2 = v.q'
  kd : x.kd = x.m / 4096
  hm : x.m < 65536
  no : hasKind x.kd = !v.no
  r : x.r = rowOf x.m
theorem kd_int (m : Nat) : (Int.ofNat m).fdiv 4096 = Int.ofNat (m / 4096) := by
  rw [Int.fdiv_eq_ediv_of_nonneg _ (by decide)]
  rfl
theorem kinds_of {k : Nat} (h : k < 16) : ([1, 2, 4, 6, 8, 10, 12] : List Int).any (· == Int.ofNat k) = hasKind k := by
  rcases kind_cases h with rfl | rfl | rfl | rfl | rfl | rfl | rfl | rfl | rfl | rfl | rfl | rfl | rfl | rfl | rfl | rfl <;> rfl
theorem noPy {x y : Int} (h : y.natAbs ≤ 65536) : Builtin.divisionGoesByPylong x y = false := by
  unfold Builtin.divisionGoesByPylong
  have : (if y == 0 then 0 else y.natAbs.log2 / 30 + 1) ≤ 300 := by
    split
    · exact Nat.zero_le _
    · have := Nat.log2_le_self y.natAbs
      have h2 : y.natAbs.log2 < 17 := (Nat.log2_lt (by rename_i h3; simpa using h3)).mpr (by omega)
      omega
  simp only [Bool.and_eq_false_iff, decide_eq_false_iff_not]
  exact .inl (by omega)
theorem lw_ok (w : World) (S : Shared) (x : LA) (b : Bool) (v : LV) (D : Num x v) (hv : x.items[x.i]? = some (.int x.N x.tN)) (fp : CutF.Ok (WD w S) (fpC x v)) (wr : CutF.Ok (WD w S) (wrC x v)) (tx : CutF.Ok (WD w S) (txC x v)) (rt : CutF.Ok (WD w S) (rtC w x b v)) (du : CutF.Ok (WD w S) (duC x v)) (ne : CutF.Ok (WD w S) (neC x v)) :
    ∀ f ∈ lwCuts w x b v, CutF.Ok (WD w S) f := by
  have row : ∀ m i p, CutF.Ok (WD w S) (rowC x m i p) := fun m i p => ok_str fun ρ τ => by
    have := row_spec w S (ρ := ρ) (st := nthN [ρ 1, ρ 0]) (pp := ppL x.pp p) (m := x.m) (t := τ 10) D.hm
    unfold rowUse at this
    rw [← D.r] at this
    exact this
  have fm : CutF.Ok (WD w S) (fmcC x v) := ok_str fun ρ τ => by
    have := fmc_spec w S (ρ := ρ) (st := nthN [ρ 1, ρ 0]) (pp := ppL x.pp (match v.q with | true => ⟨805, 34, 805, 48⟩ | false => ⟨805, 97, 805, 111⟩)) (m := x.m) (t := τ 10) D.hm
    unfold fmcUse at this
    rw [← D.r] at this
    exact this
  have tu : CutF.Ok (WD w S) (tupC x v) := by
    unfold tupC
    refine ok_pure fun ρ τ => use_tupI w S (.cons _ _ (.cons _ _ (.cons _ _ (.cons _ _ (.cons _ _ (.cons _ _ (.cons _ _ .nil))))))) ?_
    rw [← D.no]
    exact kinds_of (by have := D.kd; have := D.hm; omega)
  have f3 := fn_fdiv w S (x := x.N) (y := 3) (by decide) (noPy (by decide)) D.d4
  have f2 := fn_fmod w S (x := x.d 4) (y := 2) (by decide) D.q
  refine okc (ok_mk (fun _ _ => rfl) fun ρ τ => ln_spec w S (keys := [1, 2]) rfl (by decide) hv) (okc (fn_fdiv w S (by decide) (noPy (by decide)) D.d0) (okc (fn_fmod w S (by decide) D.d1) (okc (fn_mulI w S (.of_right (by decide)) D.d2) (okc (fn_addI w S D.d3)
    (okc (fn_fmod w S (by decide) D.m) (okc (fn_fmod w S (by decide) D.t) (okc f3 (okc f2 (okc fm (okc fp (okc f3 (okc f2 (okc (fn_fdiv w S (by decide) (noPy (by decide)) ?_) (okc tu (okc wr (okc (row _ _ _) (okc tx
    (okc (fn_ne w S (by simp)) (okc rt (okc (row _ _ _) (okc du (okc ne ok0))))))))))))))))))))))
  rw [D.kd]
  exact kd_int _
end Mine
end
section -- Lt2
open PySem PySem.W PyProof.Rows PySem.Calls
set_option Elab.async false
set_option linter.unusedVariables false
set_option maxRecDepth 100000
set_option maxHeartbeats 0
namespace Mine
noncomputable def dN (N : Int) : Nat → Int
  | 0 => N.fdiv 6
  | 1 => (N.fdiv 6).fmod 65536
  | 2 => (N.fdiv 6).fmod 65536 * 49317
  | 3 => 33261 + (N.fdiv 6).fmod 65536 * 49317
  | _ => N.fdiv 3
noncomputable def modeN (N : Int) : Nat := ((dN N 3).fmod 65536).toNat
theorem modeN_is (N : Int) : (dN N 3).fmod 65536 = Int.ofNat (modeN N) := (Int.toNat_of_nonneg (Int.fmod_nonneg_of_pos _ (by decide))).symm
theorem modeN_lt (N : Int) : modeN N < 65536 := by
  have h := modeN_is N
  have := Int.fmod_lt_of_pos (dN N 3) (show (0 : Int) < 65536 by decide)
  rw [h] at this
  exact Int.ofNat_lt.mp this
/-- the way that a number takes -/
noncomputable def lvB (r : Nat → Nat) : Bool → Bool → Nat → LV
  | false, false, 1 => LV001 r
  | false, false, 2 => LV002 r
  | false, false, 3 => LV003 r
  | false, true, 1 => LV011 r
  | false, true, 2 => LV012 r
  | false, true, 3 => LV013 r
  | true, false, 1 => LV101 r
  | true, false, 2 => LV102 r
  | true, false, 3 => LV103 r
  | true, true, 1 => LV111 r
  | true, true, 2 => LV112 r
  | true, true, 3 => LV113 r
  | _, _, _ => LV001 r
noncomputable def lvOf (N : Int) : LV := lvB (rowOf (modeN N)) (decide ((N.fdiv 3).fmod 2 = 1)) (!hasKind (modeN N / 4096)) ((N.fmod 3).toNat + 1)
noncomputable def mkLA (x : LA) (RX : List Nat) (RW : List (List Nat)) : LA := { x with m := modeN x.N, kd := modeN x.N / 4096, d := dN x.N, r := rowOf (modeN x.N), RX := RX, RW := RW }
theorem num_mk (x : LA) (RX : List Nat) (RW : List (List Nat)) (v : LV) (ht : x.N.fmod 3 = Int.ofNat v.t - 1) (hq : (x.N.fdiv 3).fmod 2 = v.q') (hno : hasKind (modeN x.N / 4096) = !v.no) : Num (mkLA x RX RW) v :=
  ⟨rfl, rfl, rfl, rfl, modeN_is x.N, ht, rfl, hq, rfl, modeN_lt x.N, hno, rfl⟩
noncomputable abbrev Glw (a : Nat → Nat) (pp : Nat → Pos) : Ctx := ⟨cLWf (a 1) (a 0), none, none, [(cLW (a 0), pp 1), (cCC, pp 2)], none⟩
noncomputable abbrev TurnF (w : World) (S : Shared) (a : Nat → Nat) (x : LA) (v : LV) (R : Result → Shared → Prop) (h : Heap) : Prop :=
  ∀ (ks θ : Nat → Nat) (h' : Heap) (tk' : Nat), Nx (WD w S) 3 a [FRM (dT w ks x.vs x.N (Int.ofNat (modeN x.N)) v.t v.p v.F v.W θ) SLl, LIT (.ref (a 2)) (Int.ofNat x.i + 1), LST x.items x.n] h h' → wpCode (model pwR w) (Glw a x.pp) R ⟨810, 11, 810, 83⟩ ((WD w S).sh h' tk')
theorem turn_v {w : World} {S : Shared} {a : Nat → Nat} {x : LA} {RX : List Nat} {RW : List (List Nat)} {b : Bool} {v : LV} {fuel stream : Nat} (T : (lwF w a (mkLA x RX RW) b v fuel stream).SpecN w a) (ok : ∀ f ∈ lwCuts w (mkLA x RX RW) b v, CutF.Ok (WD w S) f)
    {R : Result → Shared → Prop} {h : Heap} {tk : Nat} (G : Given (WD w S) a [FRM (dT0 w x b) x.s9, LIT (.ref (a 2)) (Int.ofNat x.i), LST x.items x.n] h) (F : TurnF w S a x v R h) : wpCode (model pwR w) (Glw a x.pp) R x.p ((WD w S).sh h tk) := by
  refine T ?_ ok fun τ h' tk' N => F _ _ h' tk' N
  cases b <;> exact G
theorem fmod3 (N : Int) : N.fmod 3 = 0 ∨ N.fmod 3 = 1 ∨ N.fmod 3 = 2 := by
  have h1 := Int.fmod_nonneg_of_pos N (show (0 : Int) < 3 by decide)
  have h2 := Int.fmod_lt_of_pos N (show (0 : Int) < 3 by decide)
  omega
theorem fmod2 (N : Int) : N.fmod 2 = 0 ∨ N.fmod 2 = 1 := by
  have h1 := Int.fmod_nonneg_of_pos N (show (0 : Int) < 2 by decide)
  have h2 := Int.fmod_lt_of_pos N (show (0 : Int) < 2 by decide)
  omega
theorem turn {w : World} {S : Shared} {a : Nat → Nat} (b : Bool) (x : LA) (hv : x.items[x.i]? = some (.int x.N x.tN)) (h9 : x.s9 = ⟨[]⟩ ∨ x.s9 = SLl) {R : Result → Shared → Prop} {h : Heap} {tk : Nat}
    (G : Given (WD w S) a [FRM (dT0 w x b) x.s9, LIT (.ref (a 2)) (Int.ofNat x.i), LST x.items x.n] h) (F : TurnF w S a x (lvOf x.N) R h) : wpCode (model pwR w) (Glw a x.pp) R x.p ((WD w S).sh h tk) := by
  have hm := modeN_lt x.N
  have hr := row_sg (modeN x.N) hm
  have hp := row_plain (modeN x.N) hm
  obtain ⟨RX1, RW1, r1, w1, l1⟩ := wd_runs1 hr
  obtain ⟨RX2, RW2, r2, w2, l2⟩ := wd_runs2 hr
  obtain ⟨RX3, RW3, r3, w3, l3⟩ := wd_runs3 hr
  cases hk : hasKind (modeN x.N / 4096) <;> rcases fmod2 (x.N.fdiv 3) with hq | hq <;> rcases fmod3 x.N with ht | ht | ht
  · have e : lvOf x.N = (LV011 (rowOf (modeN x.N))) := by unfold lvOf; rw [hk, hq, ht]; rfl
    rw [e] at F
    have fp : CutF.Ok (WD w S) (fpC (mkLA x RX1 RW1) (LV011 (rowOf (modeN x.N)))) := ok_str fun ρ τ => by
      have K := FP2_s w S (ρ := ρ) (st := nthN [ρ 1, ρ 0]) (pp := ppL x.pp ⟨805, 79, 805, 115⟩) (tm := τ 22) (t := τ 23) (tq := τ 24) hp
      rw [← row_none _ hm hk] at K
      exact K
    have ok : ∀ b, ∀ f ∈ lwCuts w (mkLA x RX1 RW1) b (LV011 (rowOf (modeN x.N))), CutF.Ok (WD w S) f := fun b => lw_ok w S (mkLA x RX1 RW1) b (LV011 (rowOf (modeN x.N))) (num_mk x RX1 RW1 (LV011 (rowOf (modeN x.N))) ht hq hk) hv fp (ok_str fun ρ τ => WR1F_s w S) (ok_str fun ρ τ => TX11_s w S)
      (rt_ok w S (mkLA x RX1 RW1) b (LV011 (rowOf (modeN x.N))) h9 (reads11 hr w1 l1) l1 (Nat.le_of_ble_eq_true rfl)) (ok_new (fun _ _ => rfl) fun ρ τ => du11_s w S) (ne_ok w S (mkLA x RX1 RW1) (LV011 (rowOf (modeN x.N))) r1 l1)
    cases b
    · exact turn_v (LWb011 w a (mkLA x RX1 RW1)) (ok false) G F
    · exact turn_v (LWa011 w a (mkLA x RX1 RW1)) (ok true) G F
  · have e : lvOf x.N = (LV012 (rowOf (modeN x.N))) := by unfold lvOf; rw [hk, hq, ht]; rfl
    rw [e] at F
    have fp : CutF.Ok (WD w S) (fpC (mkLA x RX2 RW2) (LV012 (rowOf (modeN x.N)))) := ok_str fun ρ τ => by
      have K := FP2_s w S (ρ := ρ) (st := nthN [ρ 1, ρ 0]) (pp := ppL x.pp ⟨805, 79, 805, 115⟩) (tm := τ 22) (t := τ 23) (tq := τ 24) hp
      rw [← row_none _ hm hk] at K
      exact K
    have ok : ∀ b, ∀ f ∈ lwCuts w (mkLA x RX2 RW2) b (LV012 (rowOf (modeN x.N))), CutF.Ok (WD w S) f := fun b => lw_ok w S (mkLA x RX2 RW2) b (LV012 (rowOf (modeN x.N))) (num_mk x RX2 RW2 (LV012 (rowOf (modeN x.N))) ht hq hk) hv fp (ok_str fun ρ τ => WR2C_s w S hp) (ok_str fun ρ τ => TX22_s w S)
      (rt_ok w S (mkLA x RX2 RW2) b (LV012 (rowOf (modeN x.N))) h9 (reads22 hr w2 l2) l2 (Nat.le_of_ble_eq_true rfl)) (ok_new (fun _ _ => rfl) fun ρ τ => du22_s w S) (ne_ok w S (mkLA x RX2 RW2) (LV012 (rowOf (modeN x.N))) r2 l2)
    cases b
    · exact turn_v (LWb012 w a (mkLA x RX2 RW2)) (ok false) G F
    · exact turn_v (LWa012 w a (mkLA x RX2 RW2)) (ok true) G F
  · have e : lvOf x.N = (LV013 (rowOf (modeN x.N))) := by unfold lvOf; rw [hk, hq, ht]; rfl
    rw [e] at F
    have fp : CutF.Ok (WD w S) (fpC (mkLA x RX3 RW3) (LV013 (rowOf (modeN x.N)))) := ok_str fun ρ τ => by
      have K := FP2_s w S (ρ := ρ) (st := nthN [ρ 1, ρ 0]) (pp := ppL x.pp ⟨805, 79, 805, 115⟩) (tm := τ 22) (t := τ 23) (tq := τ 24) hp
      rw [← row_none _ hm hk] at K
      exact K
    have ok : ∀ b, ∀ f ∈ lwCuts w (mkLA x RX3 RW3) b (LV013 (rowOf (modeN x.N))), CutF.Ok (WD w S) f := fun b => lw_ok w S (mkLA x RX3 RW3) b (LV013 (rowOf (modeN x.N))) (num_mk x RX3 RW3 (LV013 (rowOf (modeN x.N))) ht hq hk) hv fp (ok_str fun ρ τ => WR3C_s w S hp) (ok_str fun ρ τ => TX33_s w S)
      (rt_ok w S (mkLA x RX3 RW3) b (LV013 (rowOf (modeN x.N))) h9 (reads33 hr w3 l3) l3 (Nat.le_of_ble_eq_true rfl)) (ok_new (fun _ _ => rfl) fun ρ τ => du33_s w S) (ne_ok w S (mkLA x RX3 RW3) (LV013 (rowOf (modeN x.N))) r3 l3)
    cases b
    · exact turn_v (LWb013 w a (mkLA x RX3 RW3)) (ok false) G F
    · exact turn_v (LWa013 w a (mkLA x RX3 RW3)) (ok true) G F
  · have e : lvOf x.N = (LV111 (rowOf (modeN x.N))) := by unfold lvOf; rw [hk, hq, ht]; rfl
    rw [e] at F
    have fp : CutF.Ok (WD w S) (fpC (mkLA x RX1 RW1) (LV111 (rowOf (modeN x.N)))) := ok_str fun ρ τ => FP1_s w S (tq := 0) hp
    have ok : ∀ b, ∀ f ∈ lwCuts w (mkLA x RX1 RW1) b (LV111 (rowOf (modeN x.N))), CutF.Ok (WD w S) f := fun b => lw_ok w S (mkLA x RX1 RW1) b (LV111 (rowOf (modeN x.N))) (num_mk x RX1 RW1 (LV111 (rowOf (modeN x.N))) ht hq hk) hv fp (ok_str fun ρ τ => WR1F_s w S) (ok_str fun ρ τ => TX11_s w S)
      (rt_ok w S (mkLA x RX1 RW1) b (LV111 (rowOf (modeN x.N))) h9 (reads11 hr w1 l1) l1 (Nat.le_of_ble_eq_true rfl)) (ok_new (fun _ _ => rfl) fun ρ τ => du11_s w S) (ne_ok w S (mkLA x RX1 RW1) (LV111 (rowOf (modeN x.N))) r1 l1)
    cases b
    · exact turn_v (LWb111 w a (mkLA x RX1 RW1)) (ok false) G F
    · exact turn_v (LWa111 w a (mkLA x RX1 RW1)) (ok true) G F
  · have e : lvOf x.N = (LV112 (rowOf (modeN x.N))) := by unfold lvOf; rw [hk, hq, ht]; rfl
    rw [e] at F
    have fp : CutF.Ok (WD w S) (fpC (mkLA x RX2 RW2) (LV112 (rowOf (modeN x.N)))) := ok_str fun ρ τ => FP1_s w S (tq := 0) hp
    have ok : ∀ b, ∀ f ∈ lwCuts w (mkLA x RX2 RW2) b (LV112 (rowOf (modeN x.N))), CutF.Ok (WD w S) f := fun b => lw_ok w S (mkLA x RX2 RW2) b (LV112 (rowOf (modeN x.N))) (num_mk x RX2 RW2 (LV112 (rowOf (modeN x.N))) ht hq hk) hv fp (ok_str fun ρ τ => WR2C_s w S hp) (ok_str fun ρ τ => TX22_s w S)
      (rt_ok w S (mkLA x RX2 RW2) b (LV112 (rowOf (modeN x.N))) h9 (reads22 hr w2 l2) l2 (Nat.le_of_ble_eq_true rfl)) (ok_new (fun _ _ => rfl) fun ρ τ => du22_s w S) (ne_ok w S (mkLA x RX2 RW2) (LV112 (rowOf (modeN x.N))) r2 l2)
    cases b
    · exact turn_v (LWb112 w a (mkLA x RX2 RW2)) (ok false) G F
    · exact turn_v (LWa112 w a (mkLA x RX2 RW2)) (ok true) G F
  · have e : lvOf x.N = (LV113 (rowOf (modeN x.N))) := by unfold lvOf; rw [hk, hq, ht]; rfl
    rw [e] at F
    have fp : CutF.Ok (WD w S) (fpC (mkLA x RX3 RW3) (LV113 (rowOf (modeN x.N)))) := ok_str fun ρ τ => FP1_s w S (tq := 0) hp
    have ok : ∀ b, ∀ f ∈ lwCuts w (mkLA x RX3 RW3) b (LV113 (rowOf (modeN x.N))), CutF.Ok (WD w S) f := fun b => lw_ok w S (mkLA x RX3 RW3) b (LV113 (rowOf (modeN x.N))) (num_mk x RX3 RW3 (LV113 (rowOf (modeN x.N))) ht hq hk) hv fp (ok_str fun ρ τ => WR3C_s w S hp) (ok_str fun ρ τ => TX33_s w S)
      (rt_ok w S (mkLA x RX3 RW3) b (LV113 (rowOf (modeN x.N))) h9 (reads33 hr w3 l3) l3 (Nat.le_of_ble_eq_true rfl)) (ok_new (fun _ _ => rfl) fun ρ τ => du33_s w S) (ne_ok w S (mkLA x RX3 RW3) (LV113 (rowOf (modeN x.N))) r3 l3)
    cases b
    · exact turn_v (LWb113 w a (mkLA x RX3 RW3)) (ok false) G F
    · exact turn_v (LWa113 w a (mkLA x RX3 RW3)) (ok true) G F
  · have e : lvOf x.N = (LV001 (rowOf (modeN x.N))) := by unfold lvOf; rw [hk, hq, ht]; rfl
    rw [e] at F
    have fp : CutF.Ok (WD w S) (fpC (mkLA x RX1 RW1) (LV001 (rowOf (modeN x.N)))) := ok_str fun ρ τ => FP3_s w S hp (row_safe _ hm hk)
    have ok : ∀ b, ∀ f ∈ lwCuts w (mkLA x RX1 RW1) b (LV001 (rowOf (modeN x.N))), CutF.Ok (WD w S) f := fun b => lw_ok w S (mkLA x RX1 RW1) b (LV001 (rowOf (modeN x.N))) (num_mk x RX1 RW1 (LV001 (rowOf (modeN x.N))) ht hq hk) hv fp (ok_str fun ρ τ => WR1F_s w S) (ok_str fun ρ τ => TX10_s w S)
      (rt_ok w S (mkLA x RX1 RW1) b (LV001 (rowOf (modeN x.N))) h9 (reads10 hr w1 l1) l1 (Nat.le_of_ble_eq_true rfl)) (ok_new (fun _ _ => rfl) fun ρ τ => du10_s w S) (ne_ok w S (mkLA x RX1 RW1) (LV001 (rowOf (modeN x.N))) r1 l1)
    cases b
    · exact turn_v (LWb001 w a (mkLA x RX1 RW1)) (ok false) G F
    · exact turn_v (LWa001 w a (mkLA x RX1 RW1)) (ok true) G F
  · have e : lvOf x.N = (LV002 (rowOf (modeN x.N))) := by unfold lvOf; rw [hk, hq, ht]; rfl
    rw [e] at F
    have fp : CutF.Ok (WD w S) (fpC (mkLA x RX2 RW2) (LV002 (rowOf (modeN x.N)))) := ok_str fun ρ τ => FP3_s w S hp (row_safe _ hm hk)
    have ok : ∀ b, ∀ f ∈ lwCuts w (mkLA x RX2 RW2) b (LV002 (rowOf (modeN x.N))), CutF.Ok (WD w S) f := fun b => lw_ok w S (mkLA x RX2 RW2) b (LV002 (rowOf (modeN x.N))) (num_mk x RX2 RW2 (LV002 (rowOf (modeN x.N))) ht hq hk) hv fp (ok_str fun ρ τ => WR2B_s w S hp) (ok_str fun ρ τ => TX21_s w S)
      (rt_ok w S (mkLA x RX2 RW2) b (LV002 (rowOf (modeN x.N))) h9 (reads21 hr w2 l2) l2 (Nat.le_of_ble_eq_true rfl)) (ok_new (fun _ _ => rfl) fun ρ τ => du21_s w S) (ne_ok w S (mkLA x RX2 RW2) (LV002 (rowOf (modeN x.N))) r2 l2)
    cases b
    · exact turn_v (LWb002 w a (mkLA x RX2 RW2)) (ok false) G F
    · exact turn_v (LWa002 w a (mkLA x RX2 RW2)) (ok true) G F
  · have e : lvOf x.N = (LV003 (rowOf (modeN x.N))) := by unfold lvOf; rw [hk, hq, ht]; rfl
    rw [e] at F
    have fp : CutF.Ok (WD w S) (fpC (mkLA x RX3 RW3) (LV003 (rowOf (modeN x.N)))) := ok_str fun ρ τ => FP3_s w S hp (row_safe _ hm hk)
    have ok : ∀ b, ∀ f ∈ lwCuts w (mkLA x RX3 RW3) b (LV003 (rowOf (modeN x.N))), CutF.Ok (WD w S) f := fun b => lw_ok w S (mkLA x RX3 RW3) b (LV003 (rowOf (modeN x.N))) (num_mk x RX3 RW3 (LV003 (rowOf (modeN x.N))) ht hq hk) hv fp (ok_str fun ρ τ => WR3B_s w S hp) (ok_str fun ρ τ => TX32_s w S)
      (rt_ok w S (mkLA x RX3 RW3) b (LV003 (rowOf (modeN x.N))) h9 (reads32 hr w3 l3) l3 (Nat.le_of_ble_eq_true rfl)) (ok_new (fun _ _ => rfl) fun ρ τ => du32_s w S) (ne_ok w S (mkLA x RX3 RW3) (LV003 (rowOf (modeN x.N))) r3 l3)
    cases b
    · exact turn_v (LWb003 w a (mkLA x RX3 RW3)) (ok false) G F
    · exact turn_v (LWa003 w a (mkLA x RX3 RW3)) (ok true) G F
  · have e : lvOf x.N = (LV101 (rowOf (modeN x.N))) := by unfold lvOf; rw [hk, hq, ht]; rfl
    rw [e] at F
    have fp : CutF.Ok (WD w S) (fpC (mkLA x RX1 RW1) (LV101 (rowOf (modeN x.N)))) := ok_str fun ρ τ => FP1_s w S (tq := 0) hp
    have ok : ∀ b, ∀ f ∈ lwCuts w (mkLA x RX1 RW1) b (LV101 (rowOf (modeN x.N))), CutF.Ok (WD w S) f := fun b => lw_ok w S (mkLA x RX1 RW1) b (LV101 (rowOf (modeN x.N))) (num_mk x RX1 RW1 (LV101 (rowOf (modeN x.N))) ht hq hk) hv fp (ok_str fun ρ τ => WR1F_s w S) (ok_str fun ρ τ => TX11_s w S)
      (rt_ok w S (mkLA x RX1 RW1) b (LV101 (rowOf (modeN x.N))) h9 (reads11 hr w1 l1) l1 (Nat.le_of_ble_eq_true rfl)) (ok_new (fun _ _ => rfl) fun ρ τ => du11_s w S) (ne_ok w S (mkLA x RX1 RW1) (LV101 (rowOf (modeN x.N))) r1 l1)
    cases b
    · exact turn_v (LWb101 w a (mkLA x RX1 RW1)) (ok false) G F
    · exact turn_v (LWa101 w a (mkLA x RX1 RW1)) (ok true) G F
  · have e : lvOf x.N = (LV102 (rowOf (modeN x.N))) := by unfold lvOf; rw [hk, hq, ht]; rfl
    rw [e] at F
    have fp : CutF.Ok (WD w S) (fpC (mkLA x RX2 RW2) (LV102 (rowOf (modeN x.N)))) := ok_str fun ρ τ => FP1_s w S (tq := 0) hp
    have ok : ∀ b, ∀ f ∈ lwCuts w (mkLA x RX2 RW2) b (LV102 (rowOf (modeN x.N))), CutF.Ok (WD w S) f := fun b => lw_ok w S (mkLA x RX2 RW2) b (LV102 (rowOf (modeN x.N))) (num_mk x RX2 RW2 (LV102 (rowOf (modeN x.N))) ht hq hk) hv fp (ok_str fun ρ τ => WR2C_s w S hp) (ok_str fun ρ τ => TX22_s w S)
      (rt_ok w S (mkLA x RX2 RW2) b (LV102 (rowOf (modeN x.N))) h9 (reads22 hr w2 l2) l2 (Nat.le_of_ble_eq_true rfl)) (ok_new (fun _ _ => rfl) fun ρ τ => du22_s w S) (ne_ok w S (mkLA x RX2 RW2) (LV102 (rowOf (modeN x.N))) r2 l2)
    cases b
    · exact turn_v (LWb102 w a (mkLA x RX2 RW2)) (ok false) G F
    · exact turn_v (LWa102 w a (mkLA x RX2 RW2)) (ok true) G F
  · have e : lvOf x.N = (LV103 (rowOf (modeN x.N))) := by unfold lvOf; rw [hk, hq, ht]; rfl
    rw [e] at F
    have fp : CutF.Ok (WD w S) (fpC (mkLA x RX3 RW3) (LV103 (rowOf (modeN x.N)))) := ok_str fun ρ τ => FP1_s w S (tq := 0) hp
    have ok : ∀ b, ∀ f ∈ lwCuts w (mkLA x RX3 RW3) b (LV103 (rowOf (modeN x.N))), CutF.Ok (WD w S) f := fun b => lw_ok w S (mkLA x RX3 RW3) b (LV103 (rowOf (modeN x.N))) (num_mk x RX3 RW3 (LV103 (rowOf (modeN x.N))) ht hq hk) hv fp (ok_str fun ρ τ => WR3C_s w S hp) (ok_str fun ρ τ => TX33_s w S)
      (rt_ok w S (mkLA x RX3 RW3) b (LV103 (rowOf (modeN x.N))) h9 (reads33 hr w3 l3) l3 (Nat.le_of_ble_eq_true rfl)) (ok_new (fun _ _ => rfl) fun ρ τ => du33_s w S) (ne_ok w S (mkLA x RX3 RW3) (LV103 (rowOf (modeN x.N))) r3 l3)
    cases b
    · exact turn_v (LWb103 w a (mkLA x RX3 RW3)) (ok false) G F
    · exact turn_v (LWa103 w a (mkLA x RX3 RW3)) (ok true) G F
end Mine
end
section -- Lz
open PySem PySem.W PyProof.Rows PySem.Calls
set_option Elab.async false
set_option linter.unusedVariables false
set_option maxRecDepth 100000
set_option maxHeartbeats 0
namespace Mine
noncomputable def LWe (w : World) (a : Nat → Nat) (pp : Nat → Pos) (p : Pos) (E : Ents) (s9 : Array (Option Value)) (items : List Value) (n i : Nat) : Fr :=
  frC ([(cLW (a 0), pp 1), (cCC, pp 2)]) (cLWf (a 1) (a 0)) p 3 [FRM E s9, LIT (.ref (a 2)) (Int.ofNat i), LST items n]
    [.use 3 0 fun ρ τ => lneUse (fun i => ρ (nthN [1, 2] i)) [(cLWf (ρ 1) (ρ 0), ⟨802, 8, 802, 14⟩), (cLW (ρ 0), pp 1), (cCC, pp 2)] [1, 2] items n i]
    [] (7) (7342084) (fun _ _ => .inl (.done .next, ⟨802, 8, 802, 14⟩)) (fun _ _ => [FRM E s9, LIT .none (Int.ofNat i), LST items n]) (fun _ _ => [])
theorem LWe_n (w : World) (a : Nat → Nat) (pp : Nat → Pos) (p : Pos) (E : Ents) (s9 : Array (Option Value)) (items : List Value) (n i : Nat) : (LWe w a pp p E s9 items n i).SpecN w a := Fr.specN fun ρ τ => by kernel_rfl

theorem ints_at : ∀ {its : List Value} {Ns : List Int}, IntsAre its Ns → ∀ i, i < its.length → ∃ N t, its[i]? = some (.int N t)
  | _, _, .nil, _, h => absurd h (Nat.not_lt_zero _)
  | _, _, .cons N t h, 0, _ => ⟨N, t, rfl⟩
  | _, _, .cons N t h, i + 1, hi => ints_at h i (Nat.lt_of_succ_lt_succ hi)
noncomputable abbrev LoopF (w : World) (S : Shared) (a : Nat → Nat) (vs : Value) (items : List Value) (n : Nat) (R : Result → Shared → Prop) (h : Heap) : Prop :=
  ∀ (ks θ : Nat → Nat) (h' : Heap) (tk' : Nat), Nx (WD w S) 3 a [FRM (dT w ks vs 14 (Int.ofNat (modeN 14)) (lvOf 14).t (lvOf 14).p (lvOf 14).F (lvOf 14).W θ) SLl, LIT .none (Int.ofNat items.length), LST items n] h h' → R (.ok .next) ((WD w S).sh h' tk')
theorem lw_all {w : World} {S : Shared} {a : Nat → Nat} {pp : Nat → Pos} {vs : Value} {items : List Value} {n : Nat} {Ns : List Int} (hI : IntsAre items Ns) {t14 : Nat} (h14 : items[items.length - 1]? = some (.int 14 t14)) {R : Result → Shared → Prop} :
    ∀ (k : Nat) (x : LA) (b : Bool) (h : Heap) (tk : Nat), x.pp = pp → x.vs = vs → x.items = items → x.n = n → x.i + k + 1 = items.length → items[x.i]? = some (.int x.N x.tN) → (x.s9 = ⟨[]⟩ ∨ x.s9 = SLl) →
      Given (WD w S) a [FRM (dT0 w x b) x.s9, LIT (.ref (a 2)) (Int.ofNat x.i), LST items n] h → LoopF w S a vs items n R h → wpCode (model pwR w) (Glw a pp) R x.p ((WD w S).sh h tk)
  | 0, x, b, h, tk, e1, e2, e3, e4, hk, hv, h9, G, F => by
    subst e1 e2 e3 e4
    have e : x.items.length - 1 = x.i := by omega
    rw [e, hv] at h14
    have hN : x.N = 14 := by
      have := Option.some.inj h14
      injection this
    refine turn b x hv h9 G fun ks θ h1 tk1 N1 => ?_
    have N1' : Nx (WD w S) 3 a [FRM (dT w ks x.vs x.N (Int.ofNat (modeN x.N)) (lvOf x.N).t (lvOf x.N).p (lvOf x.N).F (lvOf x.N).W θ) SLl, LIT (.ref (a 2)) (Int.ofNat (x.i + 1)), LST x.items x.n] h h1 := N1
    have hl : x.i + 1 = x.items.length := by omega
    have hnone : x.items[x.i + 1]? = none := List.getElem?_eq_none (by omega)
    refine LWe_n w a x.pp ⟨810, 11, 810, 83⟩ _ SLl x.items x.n (x.i + 1) N1'.given (okc (ok_new (fun _ _ => rfl) fun ρ τ => lne_spec w S (keys := [1, 2]) rfl (by decide) hnone) ok0) fun τ h2 tk2 N2 => ?_
    have N3 := N1'.trans N2
    refine F ks θ h2 tk2 ?_
    rw [← hN, ← hl]
    exact N3
  | k + 1, x, b, h, tk, e1, e2, e3, e4, hk, hv, h9, G, F => by
    subst e1 e2 e3 e4
    obtain ⟨N', t', hv'⟩ := ints_at hI (x.i + 1) (by omega)
    refine turn b x hv h9 G fun ks θ h1 tk1 N1 => ?_
    exact lw_all hI h14 k { x with p := ⟨810, 11, 810, 83⟩, N := N', tN := t', i := x.i + 1, s9 := SLl, ks := ks, N0 := x.N, M0 := Int.ofNat (modeN x.N), t0 := (lvOf x.N).t, p0 := (lvOf x.N).p, F0 := (lvOf x.N).F, W0 := (lvOf x.N).W, θ0 := θ } false h1 tk1 rfl rfl rfl rfl
      (by show x.i + 1 + k + 1 = _; omega) hv' (.inr rfl) N1.given fun ks' θ' h2 tk2 N2 => F ks' θ' h2 tk2 (N1.trans N2)
/-- law's for as an answered call -/
noncomputable def lwUse (w : World) (a : Nat → Nat) (keys : List Nat) (ks : Nat → Nat) (vs : Value) (items : List Value) (n : Nat) : Use :=
  mkUse (cLWf (a 1) (a 0)) (some [(cLW (a 0), ⟨802, 18, 802, 35⟩), (cCC, ⟨0, 0, 0, 0⟩)]) keys [FRM (EN w.params ks [([115, 99, 114, 105, 112, 116], vs)] 1) ⟨[]⟩, LIT (.ref (a 2)) 0, LST items n] 13
    (fun θ => [FRM (dT w (nthN [θ 0, θ 1, θ 2, θ 3, θ 4, θ 5, θ 6]) vs 14 (Int.ofNat (modeN 14)) (lvOf 14).t (lvOf 14).p (lvOf 14).F (lvOf 14).W (nthN [θ 7, θ 8, θ 9, θ 10, θ 11, θ 12])) SLl, LIT .none (Int.ofNat items.length), LST items n]) (fun _ => .ok .next)
theorem lw_spec (w : World) (S : Shared) {ρ : Nat → Nat} {keys : List Nat} {ks : Nat → Nat} {vs : Value} {items : List Value} {n : Nat} {Ns : List Int} (hl : keys.length = 3) (nd : keys.Nodup) (hI : IntsAre items Ns) {t14 : Nat} (h14 : items[items.length - 1]? = some (.int 14 t14)) :
    SpecI (WD w S) ρ (lwUse w (fun i => ρ (nthN keys i)) keys ks vs items n) := by
  refine spec_mk nd hl (fun _ => rfl) fun Γ p h tk R hc hbl G fin => ?_
  rw [hbl _ rfl]
  have hlen : 0 < items.length := by
    cases items with
    | nil => simp at h14
    | cons x l => simp
  obtain ⟨N, t, hv⟩ := ints_at hI 0 hlen
  refine lw_all (a := fun i => ρ (nthN keys i)) (pp := fun i => match i with | 1 => ⟨802, 18, 802, 35⟩ | _ => ⟨0, 0, 0, 0⟩) (vs := vs) (n := n) hI h14 (items.length - 1)
    ⟨ks, fun i => match i with | 1 => ⟨802, 18, 802, 35⟩ | _ => ⟨0, 0, 0, 0⟩, p, N, 0, 0, t, 0, n, fun _ => 0, fun _ => 0, vs, items, ⟨[]⟩, [], [], 0, 0, 0, 0, [], [], fun _ => 0⟩ true h tk rfl rfl rfl rfl (by show 0 + _ + 1 = _; omega) hv (.inl rfl) G fun ks' θ h' tk' N => ?_
  exact fin (nthN [ks' 0, ks' 1, ks' 2, ks' 3, ks' 4, ks' 5, ks' 6, θ 0, θ 1, θ 2, θ 3, θ 4, θ 5]) h' tk' (fun j hj => nthN_ge _ j hj) N
end Mine
end
section -- Hd
open PySem PySem.W PyProof.Rows PySem.Calls
set_option Elab.async false
set_option linter.unusedVariables false
set_option maxRecDepth 100000
set_option maxHeartbeats 0
namespace Mine
/-- the top's run over a tree of objects -/
noncomputable def topRunT (tb : String → Option Builtin) (p : Program) (w : World) (n₀ : Nat) (ann : Option Value) : Nat → SharedT → Thread → Option SharedT
  | 0, _, _ => none
  | n + 1, s, t => match through t with
    | true => some s
    | false => match stepOk n₀ ann t with
      | false => none
      | true => match stepT (denote tb) p w s t with
        | some q => topRunT tb p w n₀ ann n q.1 q.2
        | none => none
theorem topRunT_spec {tb : String → Option Builtin} {p : Program} {w : World} {n₀ : Nat} {ann : Option Value} : ∀ {n : Nat} {s S : SharedT} {t : Thread}, topRunT tb p w n₀ ann n s t = some S → topRun tb p w n₀ ann n s.abs t = some S.abs
  | 0, _, _, _, h => by cases h
  | n + 1, s, S, t, h => by
    unfold topRunT at h
    unfold topRun
    cases ht : through t with
    | true => rw [ht] at h; cases h; rfl
    | false =>
      rw [ht] at h
      cases hk : stepOk n₀ ann t with
      | false => rw [hk] at h; cases h
      | true =>
        rw [hk] at h
        cases hs : stepT (denote tb) p w s t with
        | none => rw [hs] at h; cases h
        | some q => obtain ⟨s₂, t₂⟩ := q; rw [hs] at h; rw [stepT_spec hs]; exact topRunT_spec h
noncomputable def lnth : List Obj → Nat → Obj
  | [], _ => default
  | x :: l, n => match n with
    | 0 => x
    | n + 1 => lnth l n
noncomputable def toT (s : Shared) : SharedT := ⟨btF 12 s.heap.objs.size (lnth s.heap.objs.toList), s.heap.objs.size, s.heap.life, s.gens, s.drawn, s.toks, s.os⟩
theorem btF_some : ∀ (k n : Nat) (f : Nat → Obj), n < 2 ^ k → ∀ i, i < n → (btF k n f).get i = some (f i)
  | 0, n, f, h, i, hi => by simp at h; omega
  | k + 1, 0, f, h, i, hi => by omega
  | k + 1, n + 1, f, h, i, hi => by
    unfold btF
    dsimp only
    rw [BT.get_node]
    have hp : 2 ^ (k + 1) = 2 * 2 ^ k := by rw [Nat.pow_succ, Nat.mul_comm]
    by_cases h0 : i = 0
    · subst h0; rw [if_pos rfl]
    · rw [if_neg h0]
      by_cases p : i % 2 = 1
      · rw [if_pos p, btF_some k _ _ (by omega) _ (by omega), show 2 * (i / 2) + 1 = i by omega]
      · rw [if_neg p, btF_some k _ _ (by omega) _ (by omega), show 2 * (i / 2 - 1) + 2 = i by omega]
theorem lnth_get : ∀ (l : List Obj) (i : Nat) (h : i < l.length), lnth l i = l[i]
  | x :: l, 0, _ => rfl
  | x :: l, i + 1, h => lnth_get l i (Nat.lt_of_succ_lt_succ h)
theorem toT_abs (s : Shared) (h : s.heap.objs.size < 4096) : (toT s).abs = s := by
  obtain ⟨⟨objs, life⟩, gens, drawn, toks, os⟩ := s
  unfold toT SharedT.abs
  dsimp only
  have : absHeap (btF 12 objs.size (lnth objs.toList)) objs.size life = ⟨objs, life⟩ := by
    unfold absHeap BT.list
    congr 1
    apply Array.ext'
    apply List.ext_getElem
    · simp
    · intro i h1 h2
      have hi : i < objs.size := by simpa using h1
      simp only [List.getElem_map, List.getElem_range]
      rw [btF_some 12 _ _ h i hi]
      simp [lnth_get objs.toList i (by simpa using hi)]
  rw [this]

noncomputable abbrev pw : Program := PySem.Challenge.pw_om0140_01
noncomputable def qvP (PP : Program) : Program := view PP [0, 1, 54]
noncomputable abbrev qv : Program := qvP pw
noncomputable def N₁ : Nat := 6000
/-- the opening, the fence, the top: the states behind the fence and behind the top -/
noncomputable def headT (pw : Program) (w : World) : Option (Shared × SharedT) := (fencedOpening treeTable pw w N₁).bind fun s₀ => match s₀.heap.isNs mainGlobals && s₀.gens.size == 0 && Nat.ble s₀.heap.objs.size 4095 with
  | true => (topRunT treeTable pw w s₀.heap.objs.size (s₀.heap.nsMap mainGlobals "__annotations__") N₁ (toT s₀) (topStub pw)).map fun S => (s₀, S)
  | false => none
noncomputable def looseN : List Str := [Str.ofString "_wall", Str.ofString "tspecials", Str.ofString "_formatparam", Str.ofString "_whence", Str.ofString "_index", Str.ofString "UnsupportedOperation", Str.ofString "IOBase", Str.ofString "BufferedIOBase", Str.ofString "TextIOBase", Str.ofString "BytesIO", Str.ofString "StringIO", Str.ofString "_kind", Str.ofString "_fspath", Str.ofString "_check_arg_types", Str.ofString "isabs", Str.ofString "join", Str.ofString "dirname", Str.ofString "shlex", Str.ofString "S_IFMT", Str.ofString "S_IFDIR", Str.ofString "S_IFCHR", Str.ofString "S_IFBLK", Str.ofString "S_IFREG", Str.ofString "S_IFIFO", Str.ofString "S_IFLNK", Str.ofString "S_IFSOCK", Str.ofString "S_ISUID", Str.ofString "S_ISGID", Str.ofString "S_ISVTX", Str.ofString "S_IRUSR", Str.ofString "S_IWUSR", Str.ofString "S_IXUSR", Str.ofString "S_IRGRP", Str.ofString "S_IWGRP", Str.ofString "S_IXGRP", Str.ofString "S_IROTH", Str.ofString "S_IWOTH", Str.ofString "S_IXOTH", Str.ofString "_filemode_table", Str.ofString "filemode", Str.ofString "_law_row", Str.ofString "_law_text", Str.ofString "_law_runs", Str.ofString "_law_wrapped", Str.ofString "_law_readings", Str.ofString "_law_due"]
noncomputable def obsT (s : Shared) : List (Option Obj) × Nat × Nat := (tops.map s.heap.get?, s.heap.objs.size, s.toks)
noncomputable def TT.vals : TT → List (Option Obj)
  | .nil => []
  | .node _ o l r => TT.vals l ++ some o :: TT.vals r
noncomputable def obsK (kt : TT) : List (Option Obj) × Nat × Nat := (kt.vals, 835, 1382)
noncomputable abbrev obsV (w : World) := obsK (tt w.params)
/-- what is looked at behind the top -/
noncomputable def looksT (pw : Program) (ln : List Str) (r : Shared × SharedT) := (staticsOk (importedModules pw.main.body) r.1.heap r.2.abs.heap && namesBound pw r.2.abs.heap && gensDone r.2.abs && laidKept r.1.heap r.2.abs.heap,
  openSeen (qvP pw) ln (importedModules pw.main.body) (fun _ => true) true r.2.abs, obsT r.2.abs)
noncomputable def looksG (pw : Program) (ln : List Str) (kt : TT) := (true, openGood (qvP pw) ln, obsK kt)
noncomputable def headLP (pw : Program) (ln : List Str) (w : World) := (headT pw w).map (looksT pw ln)
noncomputable def headRP (pw : Program) (ln : List Str) (kt : TT) := some (looksG pw ln kt)
noncomputable abbrev headL (w : World) := headLP pw looseN w
noncomputable abbrev headR (w : World) := headRP pw looseN (tt w.params)
end Mine
end
section -- HdT
open PySem PySem.W PyProof.Rows PySem.Calls
set_option Elab.async false
set_option linter.unusedVariables false
set_option maxRecDepth 100000
set_option maxHeartbeats 0
namespace Mine
open PySem.Sem (wp finPost)
theorem left_of (head_ok : ∀ w, headL w = headR w) : LeftO pw qv looseN (fun _ => true) obsT obsV N₁ := fun w => by
  have h := head_ok w
  unfold headL headR headLP headRP at h
  obtain ⟨⟨s₀, S⟩, e, l⟩ := Option.map_eq_some_iff.mp h
  unfold headT at e
  obtain ⟨s', f1, f2⟩ := Option.bind_eq_some_iff.mp e
  cases hc : (s'.heap.isNs mainGlobals && s'.gens.size == 0 && Nat.ble s'.heap.objs.size 4095) with
  | false => simp only [hc] at f2; cases f2
  | true =>
    simp only [hc] at f2
    obtain ⟨S', g1, g2⟩ := Option.map_eq_some_iff.mp f2
    obtain ⟨rfl, rfl⟩ : s' = s₀ ∧ S' = S := by simpa using g2
    obtain ⟨hc, hsz⟩ := Bool.and_eq_true_iff.mp hc
    have sz : s'.heap.objs.size < 4096 := Nat.lt_succ_of_le (Nat.le_of_ble_eq_true hsz)
    have r := topRunT_spec g1
    rw [toT_abs s' sz] at r
    obtain ⟨l1, l2, l3⟩ : _ ∧ _ ∧ _ := by simpa only [looksT, looksG, Prod.mk.injEq] using l
    unfold openEnds
    rw [f1]
    show (topFrom treeTable pw w N₁ s').map _ = _
    have t : topFrom treeTable pw w N₁ s' = some S'.abs := by
      unfold topFrom
      rw [hc, r]
      show (match staticsOk (importedModules pw.main.body) s'.heap S'.abs.heap && namesBound pw S'.abs.heap && gensDone S'.abs && laidKept s'.heap S'.abs.heap with | true => some S'.abs | false => none) = _
      rw [l1]
    rw [t]
    exact congrArg some (Prod.ext l2 l3)

abbrev rwL : OpenLaw := PySem.Challenge.rw_om0140_01
abbrev cC : Code := .builtin "claim.caller" {}
abbrev Γc : Ctx := ⟨cC, none, none, [], none⟩
noncomputable def lawTree (vs : List Value) : Sem Fin := (callStub (Str.ofString "law") vs).cur

/-- the call from its own, concrete context -/
theorem callFrom_at {c : ClaimW} {name : Str} {w : World} {s : Shared} {free : Addr → Prop} {gens : Prop} {kept : Heap → Prop} (hz : s.asleep) (hgens : s.gens = #[])
    (spec : ∀ args, c.pre args = true → WData.layableAll args = true → ∀ ord : List DictEntry → List DictEntry, (∀ l, (ord l).Perm l) →
      ∃ vs s₁, layAllW c.records (classAt s.heap) w.params ord args s = some (vs, s₁) ∧
        wp (model c.prog w) Γc (callStub name vs).cur (finPost (model c.prog w) Γc fun r s' => (c.Ends s args vs s₁ r s' ∧ s'.os = s.os ∧ kept s'.heap) ∧ leftWithCleanup s'.gens = false)
          (fun e _ s' => (c.Ends s args vs s₁ (.error e) s' ∧ s'.os = s.os ∧ kept s'.heap) ∧ leftWithCleanup s'.gens = false) default s₁) :
    c.CallFrom (callStub name) w free gens kept s := by
  intro args hpre hlay ord hord
  obtain ⟨vs, s₁, hlaid, hwp⟩ := spec args hpre hlay ord hord
  have rest := layAllW_rest _ _ _ hlaid
  obtain ⟨n, r, s', s'', hsched, hrun, hfo, hE, hos, hk⟩ := wp_halts_full (M := model c.prog w) (R := fun r s' => c.Ends s args vs s₁ r s' ∧ s'.os = s.os ∧ kept s'.heap) (Shared.asleep_of_life rest.2.2.2 hz) hwp
  obtain ⟨eh, _, _, eo, _⟩ := Shared.forget_eq hfo
  have hE' := hE.congr eh
  have hk' : kept s''.heap := by rw [eh]; exact hk
  have hlife : s''.heap.life = s.heap.life := (runN_life _ _ _ hrun).trans rest.2.2.2
  refine ⟨vs, s₁, hlaid, n, _, s'', hsched, ?_, fun _ i x hx => ?_, hk', by rw [hlife], Shared.rest_eq (eo.trans hos)⟩
  · rcases hE' with ⟨v, rfl, d1, d2, d3, d4, d5⟩ | ⟨e, ob, cls, rfl, d1, d2, d3, d4, d5⟩
    · exact .inl ⟨v, rfl, d1, d2, d3, fun b o y _ => d4 b o y, d5⟩
    · exact .inr ⟨e, ob, cls, rfl, d1, d2, d3, d4, fun b o y _ => d5 b o y⟩
  · rw [hgens] at hx
    simp at hx

theorem row_holds (head_ok : ∀ w, headL w = headR w) (k1 : rwL.row.wellSaid = true) (hw : rwL.row.toRowW.promised)
    (ok : (chainsOk qv && opensWell pw && (frees rwL.row.toRowW && rwL.row.toRowW.within.isEmpty)) = true) (hb : pw.bare) {d : DefRec} {kwd : List (Str × PySem.Expr)} (hdef : defOf qv rwL.row.name = some (d, kwd))
    (hp : pw.theDef rwL.row.name = some (d.params, d.body, d.scope)) (hk : kwWritten? d.params.kwonlyargs d.params.kw_defaults = some kwd)
    (call : ∀ (w : World) (s s₁ : Shared) (args : List WData) (vs : List Value) (as : List Addr), obsT s = obsV w → rwL.row.toRowW.claim.pre args = true → WData.layableAll args = true → Laid [] w s s₁ args vs as →
      wp (model pw w) Γc (callStub rwL.row.name vs).cur (finPost (model pw w) Γc fun r s' => GoodWG rwL.row.toRowW.claim (classAt s.heap) (ExcName.means s.heap) args s₁ r s')
        (fun e _ s' => GoodWG rwL.row.toRowW.claim (classAt s.heap) (ExcName.means s.heap) args s₁ (.error e) s') default s₁) : rwL.row.Holds := by
  have left := left_of head_ok
  obtain ⟨ok, k5⟩ := Bool.and_eq_true_iff.mp ok
  obtain ⟨hch, o1⟩ := Bool.and_eq_true_iff.mp ok
  obtain ⟨k5, k6⟩ := Bool.and_eq_true_iff.mp k5
  obtain ⟨hsame, hu, ha, hap, hm⟩ := frees_parts k5
  refine ⟨k1, hw, ⟨hb, o1, rfl⟩, hw.witness, fun w => ?_⟩
  have BH := left.behind (XP := fun _ _ => True) (fun _ _ => trivial) hch w
  refine ⟨BH.1, fun s' hs' => ?_⟩
  obtain ⟨s₀, hf, hg0, s, hT, hz, hgens, hg, G, y⟩ := BH.2 s' hs'
  refine ⟨s₀, hf, hg0, s, hT, fun n hn => ?_, fun x hx => (nomatch hx), fun x hx => (nomatch hx), ?_⟩
  · obtain rfl : n = rwL.row.name := by split at hn <;> simp_all
    exact pinned_of_view hg G hdef hp hk
  have hgens' : s.gens = #[] := Array.eq_empty_of_size_eq_zero (beq_iff_eq.mp hgens)
  refine callFrom_at (name := rwL.row.name) hz hgens' fun args hpre hlay ord hord => ?_
  obtain ⟨⟨vs, s₁⟩, hlaid⟩ := Option.isSome_iff_exists.mp (layAllW_isSome (P := w.params) (ord := ord) G.has args rwL.row.toRowW.args s (pre_splitW hpre).1)
  have keeps := layAllW_keeps _ _ _ hlaid
  have hal := layAllW_rest _ _ _ hlaid
  obtain ⟨as, hrd, hin, hold⟩ := reads_layAllW hord _ _ _ hlaid hlay s₁.heap (fun _ _ e => e)
  have L : Laid [] w s s₁ args vs as := ⟨⟨ord, hord, hlaid⟩, hrd, hin, hold, keeps, hal.1.trans hgens', hal.2.2.1⟩
  have hi := ident_freeW hu ha hap
  have hwi : rwL.row.toRowW.claim.within = [] := List.isEmpty_iff.mp k6
  refine ⟨vs, s₁, hlaid, Sem.wp_mono _ _ _ (fun fin p' s' x => ?_) (fun e p' s' x => ?_) _ _ (call w s s₁ args vs as y hpre hlay L)⟩
  · refine finPost_mono (fun r s'' x => ?_) x
    have z := GoodWG.laid (c := rwL.row.toRowW.claim) hsame hwi hi L x
    exact ⟨⟨z.1, z.2.1, fun q => by cases q⟩, leftWithCleanup_false_of_bare z.2.2⟩
  · have z := GoodWG.laid (c := rwL.row.toRowW.claim) hsame hwi hi L x
    exact ⟨⟨z.1, z.2.1, fun q => by cases q⟩, leftWithCleanup_false_of_bare z.2.2⟩
end Mine
end
section -- Law
open PySem PySem.W PyProof.Rows PySem.Calls
set_option Elab.async false
set_option linter.unusedVariables false
set_option maxRecDepth 100000
set_option maxHeartbeats 0
namespace Mine
noncomputable def startT (name : Str) (vs : List Value) : Sem PySem.Fin := (callStub name vs).cur
theorem startT_r : @startT = @startT := rfl
lay_quick Mine.startT
name_quick startTq for Mine.startT by Mine.startT_r
noncomputable def lawCuts (w : World) (items : List Value) : List CutF :=
  [.use 3 2 fun ρ τ => lsUse (fun i => ρ (nthN [0, 2] i)) [0, 2] items 0 .none (.int 3 (τ 1)) (items.take 3),
   .use 5 3 fun ρ τ => laUse (fun i => ρ (nthN [3, 4] i)) [3, 4] (items.take 3) [.int 14 (τ 2)] 0 0,
   .use 7 3 fun ρ τ => lwUse w (fun i => ρ (nthN [1, 6, 5] i)) [1, 6, 5] (nthN [τ 0]) (.ref (ρ 0)) (items.take 3 ++ [.int 14 (τ 2)]) 0]
noncomputable def lawRun (w : World) (a ρ τ : Nat → Nat) (items : List Value) : Res :=
  PySem.W.Fast.runTq (tt w.params) pwR w Γc a ρ τ (49) (3466051307435163521057788623911526699808887178118732008774991685353472) (lawCuts w items) cCC default (PySem.W.Fast.startTq (Str.ofString "law") [.ref (a 0)]) [LST items 0]
theorem law_run (w : World) (a ρ τ : Nat → Nat) (items : List Value) : lhsOf [0] (lawRun w a ρ τ items) = rhsOf (some (.inl (.done (.ret (.bool true)), ⟨0, 0, 0, 0⟩)), [some (LST items 0)]) (lawRun w a ρ τ items) := by kernel_rfl
theorem ints_take : ∀ {its : List Value} {Ns : List Int}, IntsAre its Ns → ∀ n, IntsAre (its.take n) (Ns.take n)
  | _, _, .nil, n => by simp; exact .nil
  | _, _, .cons N t h, 0 => .nil
  | _, _, .cons N t h, n + 1 => .cons N t (ints_take h n)
theorem ints_snoc : ∀ {its : List Value} {Ns : List Int}, IntsAre its Ns → ∀ N t, IntsAre (its ++ [.int N t]) (Ns ++ [N])
  | _, _, .nil, N, t => .cons N t .nil
  | _, _, .cons M u h, N, t => .cons M u (ints_snoc h N t)
theorem law_cuts (w : World) (S : Shared) {items : List Value} {Ns : List Int} (hI : IntsAre items Ns) : ∀ f ∈ lawCuts w items, CutF.Ok (WD w S) f := by
  refine okc (ok_new (fun _ _ => rfl) fun ρ τ => lsb_spec w S (keys := [0, 2]) rfl (by decide)) (okc (ok_new (fun _ _ => rfl) fun ρ τ => la_spec w S (keys := [3, 4]) rfl (by decide) ?_) (okc (ok_mk (fun _ _ => rfl) fun ρ τ => ?_) ok0))
  · have := List.length_take_le 3 items
    show _ + 1 ≤ 1000
    omega
  · exact lw_spec w S (keys := [1, 6, 5]) rfl (by decide) (ints_snoc (ints_take hI 3) 14 (τ 2)) (t14 := τ 2) (by simp)
/-- the call of law on a list of ints -/
theorem law_call (w : World) (S : Shared) {l : Nat} {items : List Value} {Ns : List Int} (hI : IntsAre items Ns) {h : Heap} {tk : Nat} (G : Given (WD w S) (fun _ => l) [LST items 0] h) {R : Result → Shared → Prop}
    (F : ∀ h' tk', h'.get? l = some (LST items 0) → (∀ b o, h.get? b = some o → b ≠ l → h'.get? b = some o) → R (.ok (.ret (.bool true))) ((WD w S).sh h' tk')) :
    Means (WD w S) Γc R .base cCC default (startT (Str.ofString "law") [.ref l]) ((WD w S).sh h tk) := by
  rw [PySem.W.Fast.startTq_eq]
  refine fragKT (S := S) (Γ := Γc) G (law_cuts w S hI) (is := [0]) (x := fun _ _ => (some (.inl (.done (.ret (.bool true)), ⟨0, 0, 0, 0⟩)), [some (LST items 0)])) (fun ρ τ => law_run w (fun _ => l) ρ τ items) (fun _ _ z => by cases z) (fun ρ τ h' tk' hρ B => ?_) tk
  have N : Nx (WD w S) 1 (fun _ => l) [LST items 0] h h' := nx_of' B G.big hρ rfl rfl rfl
  exact F h' tk' (N.given.at_ 0 (by simp)) fun b o hb hne => N.keep b o hb fun i _ => hne
/-- the objects of the top lie where they are looked at -/
noncomputable def TT.keys : TT → List Nat
  | .nil => []
  | .node k _ l r => TT.keys l ++ k :: TT.keys r
theorem TT.get_of_vals {f : Nat → Option Obj} : ∀ {t : TT}, t.keys.map f = t.vals → ∀ a o, t.get a = some o → f a = some o
  | .nil, _, _, _, e => nomatch e
  | .node k x l r, h, a, o, e => by
    have h' : (TT.keys l).map f ++ f k :: (TT.keys r).map f = TT.vals l ++ some x :: TT.vals r := by
      have : (TT.keys l ++ k :: TT.keys r).map f = TT.vals l ++ some x :: TT.vals r := h
      simpa using this
    have len : ∀ t : TT, (TT.keys t).length = (TT.vals t).length := fun t => by
      induction t with
      | nil => rfl
      | node k o l r a b => simp [TT.keys, TT.vals, a, b]
    obtain ⟨hl, hr⟩ := List.append_inj h' (by rw [List.length_map]; exact len l)
    obtain ⟨hk, hr⟩ := List.cons.inj hr
    unfold TT.get at e
    cases q : Nat.beq a k with
    | true =>
      rw [q] at e
      have := Nat.eq_of_beq_eq_true q
      cases e
      rw [this]; exact hk
    | false =>
      rw [q] at e
      cases b : Nat.blt a k with
      | true => rw [b] at e; exact TT.get_of_vals hl a o e
      | false => rw [b] at e; exact TT.get_of_vals hr a o e
theorem tops_is (P : Params) : (tt P).keys = tops := by kernel_rfl
theorem lays_ints {R : WRecords} {cl : Str → Option Addr} {P : Params} {ord : List DictEntry → List DictEntry} : ∀ (xs : List WData) (s : Shared) (r : List Value × Shared), WShape.hasItems R xs .int = true → layAllW R cl P ord xs s = some r →
    (∃ Ns, IntsAre r.1 Ns) ∧ r.2 = { s with toks := s.toks + xs.length }
  | [], s, r, _, h => by
    simp only [layAllW, Option.some.injEq] at h
    subst h
    exact ⟨⟨[], .nil⟩, rfl⟩
  | x :: xs, s, r, hx, h => by
    obtain ⟨a, q, ha, hq, rfl⟩ := layAllW_cons h
    obtain ⟨h1, h2⟩ : WShape.has R x .int = true ∧ WShape.hasItems R xs .int = true := by simpa [WShape.hasItems] using hx
    obtain ⟨N, rfl⟩ := hasW_int h1
    simp only [layW, Option.some.injEq] at ha
    subst ha
    obtain ⟨⟨Ns, hN⟩, e⟩ := lays_ints xs _ q h2 hq
    refine ⟨⟨N :: Ns, .cons N s.toks hN⟩, ?_⟩
    rw [e]
    show _ = { s with toks := s.toks + (xs.length + 1) }
    rw [show s.toks + (xs.length + 1) = s.toks + 1 + xs.length by omega]
end Mine
end
section -- HdK
open PySem PySem.W PyProof.Rows
set_option Elab.async false
set_option maxRecDepth 100000
set_option maxHeartbeats 0
namespace Mine
lay_quick Mine.headLP Mine.headRP
theorem headL_r : @headLP = @headLP := rfl
theorem headR_r : @headRP = @headRP := rfl
name_quick headLq for Mine.headLP by Mine.headL_r
name_quick headRq for Mine.headRP by Mine.headR_r
theorem head_q (w : World) : PySem.W.Fast.headLq pw looseN w = PySem.W.Fast.headRq pw looseN (tt w.params) := by kernel_rfl
theorem head_ok (w : World) : headL w = headR w := by
  unfold headL headR
  rw [PySem.W.Fast.headLq_eq, PySem.W.Fast.headRq_eq]
  exact head_q w
end Mine
end
section -- Ws
open PySem PySem.W PyProof.Rows PySem.Calls
set_option Elab.async false
set_option maxRecDepth 100000
set_option maxHeartbeats 0
namespace Mine
theorem ws_r : @OpenLaw.wellSaid = @OpenLaw.wellSaid := rfl
name_quick wsq for PySem.W.OpenLaw.wellSaid by Mine.ws_r
theorem lk1 : Fast.tw11788848310118352699 pwR.main = true := by kernel_rfl
theorem lk2 : ((Fast.tw9807087744658564304 pwR.main.body).isEmpty || Fast.tw12862048085361865435 (Fast.tw9807087744658564304 pwR.main.body) pwR.main.body) = true := by kernel_rfl
theorem lk3 : Fast.tw8377067652309620493 pwR = true := by kernel_rfl
theorem lk4 : (R.allR (Fast.tw18344453789297297638 pwR) fun n => !Fast.tw3471404346716756564 Fast.tw14412699480532031325 n) = true := by kernel_rfl
theorem lkv : Fast.tw13343964577679436407 pwR pwR.main.body ⟨⟨[118, 97, 114, 115]⟩⟩ = false := by kernel_rfl
theorem lkd : Fast.tw13343964577679436407 pwR pwR.main.body ⟨⟨[100, 105, 114]⟩⟩ = false := by kernel_rfl
theorem lkl : Fast.tw13343964577679436407 pwR pwR.main.body ⟨⟨[108, 111, 99, 97, 108, 115]⟩⟩ = false := by kernel_rfl
theorem lks : (!R.allR (Fast.tw5923862056798008813 pwR.main.body) (Fast.tw3471404346716756564 Fast.tw17691160309236699985)) = false := by kernel_rfl
theorem lkn : Fast.tw8326940854005059898 { strict := false, foot := none, bare := [] } pwR.main.body = true := by kernel_rfl
theorem lk5 : Fast.tw8326940854005059898 { strict := !R.allR (Fast.tw5923862056798008813 pwR.main.body) (Fast.tw3471404346716756564 Fast.tw17691160309236699985), foot := none, bare := R.filterR (Fast.tw13343964577679436407 pwR pwR.main.body) [⟨⟨[118, 97, 114, 115]⟩⟩, ⟨⟨[100, 105, 114]⟩⟩, ⟨⟨[108, 111, 99, 97, 108, 115]⟩⟩] } pwR.main.body = true := by
  have hb : R.filterR (Fast.tw13343964577679436407 pwR pwR.main.body) [⟨⟨[118, 97, 114, 115]⟩⟩, ⟨⟨[100, 105, 114]⟩⟩, ⟨⟨[108, 111, 99, 97, 108, 115]⟩⟩] = [] := by
    rw [← R.filterR_eq, List.filter_cons_of_neg (by rw [lkv]; exact Bool.false_ne_true), List.filter_cons_of_neg (by rw [lkd]; exact Bool.false_ne_true), List.filter_cons_of_neg (by rw [lkl]; exact Bool.false_ne_true), List.filter_nil]
  rw [lks, hb]
  exact lkn
theorem lk6 : (Fast.tw17119622794617984870 pwR pwR.main.body fun _ n => Fast.tw17868728402115742887 n) = true := by kernel_rfl
theorem lk_ok : Fast.tw12908688711261696721 pwR = true := by
  delta Fast.tw12908688711261696721
  exact look_both (look_both (look_both (look_both (look_both lk1 lk2) lk3) lk4) lk5) lk6
theorem ws_q : PySem.W.Fast.wsq PySem.Challenge.rw_om0140_01 = true := by
  delta PySem.W.Fast.wsq PySem.W.Fast.tw9446332074065402090
  repeat' with_reducible refine look_both ?_ ?_
  · delta Fast.tw17960256430627541270
    repeat' with_reducible refine look_both ?_ ?_
    · delta Fast.tw2436336058641802641
      repeat' with_reducible refine look_both ?_ ?_
      · exact lk_ok
      all_goals kernel_rfl
    all_goals kernel_rfl
  all_goals kernel_rfl
theorem law_said : PySem.Challenge.rw_om0140_01.wellSaid = true := by
  rw [PySem.W.Fast.wsq_eq]
  exact ws_q
end Mine
end
section -- Fin0
open PySem PySem.W PyProof.Rows PySem.Calls
set_option Elab.async false
set_option maxRecDepth 100000
set_option maxHeartbeats 0
namespace Mine
open PySem.Sem (wp finPost)
theorem main_of (head_ok : ∀ w, headL w = headR w)
    (call : ∀ (w : World) (s s₁ : Shared) (args : List WData) (vs : List Value) (as : List Addr), obsT s = obsV w → rwL.row.toRowW.claim.pre args = true → WData.layableAll args = true → Laid [] w s s₁ args vs as →
      wp (model pw w) Γc (callStub rwL.row.name vs).cur (finPost (model pw w) Γc fun r s' => GoodWG rwL.row.toRowW.claim (classAt s.heap) (ExcName.means s.heap) args s₁ r s')
        (fun e _ s' => GoodWG rwL.row.toRowW.claim (classAt s.heap) (ExcName.means s.heap) args s₁ (.error e) s') default s₁) : PySem.Challenge.rw_om0140_01.Holds := by
  refine holds_law law_said fun said => ?_
  refine row_holds head_ok (by first | assumption | decide +kernel) ?hw (by decide +kernel) ⟨rfl, rfl, rfl, rfl, rfl, by decide +kernel⟩ (by rfl) (by rfl) (by rfl) call
  w_witness2
end Mine
end
section -- Fin1
open PySem PySem.W PyProof.Rows PySem.Calls
set_option Elab.async false
set_option linter.unusedVariables false
set_option maxRecDepth 100000
set_option maxHeartbeats 0
namespace Mine
open PySem.Sem (wp finPost)
theorem call_ok (w : World) (s s₁ : Shared) (args : List WData) (vs : List Value) (as : List Addr) (y : obsT s = obsV w) (hpre : rwL.row.toRowW.claim.pre args = true) (hlay : WData.layableAll args = true) (L : Laid [] w s s₁ args vs as) :
    wp (model pw w) Γc (callStub rwL.row.name vs).cur (finPost (model pw w) Γc fun r s' => GoodWG rwL.row.toRowW.claim (classAt s.heap) (ExcName.means s.heap) args s₁ r s')
      (fun e _ s' => GoodWG rwL.row.toRowW.claim (classAt s.heap) (ExcName.means s.heap) args s₁ (.error e) s') default s₁ := by
  have hsh : WShape.hasAll [] args [.list .int] = true := (pre_splitW hpre).1
  obtain ⟨d, r, rfl, hd, hr⟩ := hasAllW_cons hsh
  have hr0 : r = [] := by
    cases r with
    | nil => rfl
    | cons x l => simp [WShape.hasAll] at hr
  subst hr0
  obtain ⟨xs, rfl, hx⟩ := hasW_list hd
  obtain ⟨ord, hord, hl⟩ := L.laid
  obtain ⟨a1, q, ha, hq, e⟩ := layAllW_cons hl
  simp only [layW] at ha
  split at ha
  · rename_i r' hr'
    obtain ⟨⟨Ns, hI⟩, e2⟩ := lays_ints xs s r' hx hr'
    cases ha
    simp only [layAllW, Option.some.injEq] at hq
    subst hq
    obtain ⟨rfl, rfl⟩ : vs = [.ref r'.2.heap.objs.size] ∧ s₁ = { r'.2 with heap := r'.2.heap.push { cls := .type "list", data := .seq r'.1.toArray } } := by simpa using e
    have hheap : r'.2.heap = s.heap := by rw [e2]
    have htoks : 0 < r'.2.toks := by
      rw [e2]
      have : s.toks = 1382 := congrArg (fun x => x.2.2) y
      show 0 < s.toks + xs.length
      omega
    have hsize : s.heap.objs.size = 835 := congrArg (fun x => x.2.1) y
    have hview : tops.map s.heap.get? = (tt w.params).vals := congrArg Prod.fst y
    generalize hs1 : ({ r'.2 with heap := r'.2.heap.push { cls := .type "list", data := .seq r'.1.toArray } } : Shared) = s₁ at *
    have hh1 : s₁.heap = s.heap.push (LST r'.1 0) := by
      rw [← hs1, ← hheap]
      rfl
    have ht1 : 0 < s₁.toks := by
      rw [← hs1]
      exact htoks
    have hlad : r'.2.heap.objs.size = 835 := by rw [hheap]; exact hsize
    rw [hlad]
    have hs : (WD w s₁).sh s₁.heap (s₁.toks - 1) = s₁ := by
      show { s₁ with heap := s₁.heap, toks := s₁.toks - 1 + 1 } = s₁
      rw [Nat.sub_add_cancel ht1]
    have hget : s₁.heap.get? 835 = some (LST r'.1 0) := by
      rw [hh1, ← hsize]
      exact Heap.get?_push_size _ rfl
    have hsz : 835 ≤ s₁.heap.objs.size := by
      rw [hh1, Heap.size_push, hsize]
      exact Nat.le_succ _
    have G : Given (WD w s₁) (fun _ => 835) [LST r'.1 0] s₁.heap := by
      refine ⟨fun b o hb => ?_, hsz, fun i hi => ?_, fun i hi => Nat.le_refl _, fun i j hi hj _ => ?_⟩
      · have h1 : s.heap.get? b = some o := TT.get_of_vals (t := tt w.params) (by rw [tops_is]; exact hview) b o hb
        rw [hh1]
        exact Heap.get?_push_of_some _ h1
      · have e0 : i = 0 := by simpa using hi
        subst e0
        exact hget
      · have e0 : i = 0 := by simpa using hi
        have e1 : j = 0 := by simpa using hj
        rw [e0, e1]
    have K := law_call w s₁ hI (tk := s₁.toks - 1) G (R := fun r s' => GoodWG rwL.row.toRowW.claim (classAt s.heap) (ExcName.means s.heap) [WData.list xs] s₁ r s') fun h' tk' hl' hkeep => by
      refine ⟨.inl ⟨.bool true, .bool true, [], rfl, fun cls => rfl, ReadsW.bool _, by first | wrow_post | (exact postW_of (by decide) (by rfl) rfl) | (exact postW_of (by rfl) (by decide +kernel) rfl), fun _ => ⟨List.nodup_nil, fun a ha => nomatch ha⟩⟩, OldK.of_keep fun b o hb => ?_, rfl, AllBare.of_eq L.gens⟩
      by_cases hb1 : b = 835
      · subst hb1
        rw [hget] at hb
        cases hb
        exact hl'
      · exact hkeep b o hb hb1
    rw [hs] at K
    exact K
  · cases ha
end Mine
end
theorem PySem.Challenge.cw_om0140_01_holds : PySem.Challenge.rw_om0140_01.Holds :=
  Mine.main_of Mine.head_ok Mine.call_ok
