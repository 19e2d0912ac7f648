import PyProof.Rows.All
import Wide.All
import OpenK.AllK
import Wide.FinOn
import Lean
import PySem.Challenge.RW_pk0104_01
open PySem PySem.W PySem.W.X PyProof.Rows
set_option Elab.async false
set_option maxRecDepth 100000
set_option maxHeartbeats 4000000
set_option linter.unusedVariables false
namespace Mine

abbrev Cell := Addr × Obj

/-- a contract that stands in the place of one call -/
structure Ctr where
  code : Code
  room : Nat := 0
  reads : List (Nat × Cell) := []
  mus : List (Nat × Cell) := []
  upd : (Nat → Nat) → List Obj := fun _ => []
  newO : (Nat → Nat) → List Cell := fun _ => []
  new : (Nat → Nat) → List Cell := fun _ => []
  res : (Nat → Nat) → Result
  post : (Nat → Nat) → Prop := fun _ => True

structure Out where
  res : Result
  exp : List (Nat × Cell) := []

inductive HT where
  | nil (o : Out)
  | go (l : List Nat) (rest : HT)
  | cut (C : Ctr) (f : (Nat → Nat) → HT)
  | stk (Φ : Sem Unit → Sem PySem.Fin) (rest : HT)

/-- the look at the C stack: no step when there is room -/
noncomputable def condT (st : List (Code × Pos)) : Sem Unit := match Fast.tw13383273872528276517 SL.s11780134324901847377x10 [.ref 0] with
  | .stack k => k st
  | t => t
theorem condT_is {st : List (Code × Pos)} (h : (st.map (·.1.cUnits)).sum < cLine) : condT st = .pure () := by
  unfold condT
  rw [← Fast.te13383273872528276517]
  show (if (st.map (·.1.cUnits)).sum ≥ cLine then _ else _) = _
  rw [if_neg (Nat.not_le.mpr h)]
  rfl

inductive OT where
  | fin
  | bad (n : Nat)
  | eqN (a b : Nat) (t : OT)
  | eqC (a b : Code) (t : OT)
  | eqO (a b : Cell) (t : OT)
  | eqR (a b : Result) (t : OT)
  | eqK (a b : List (Code × Pos) → Sem PySem.Fin) (t : OT)
  | all (f : (Nat → Nat) → OT)

inductive Kn where
  | base
  | ret (room : Nat) (c : Code) (hd : Option Value) (k : Result → Sem PySem.Fin) (κ : Kn)

noncomputable def atL {α : Type} : List α → Nat → Option α
  | [], _ => none
  | x :: l, n => match n with
    | 0 => some x
    | n + 1 => atL l n
noncomputable def setL {α : Type} : List α → Nat → α → List α
  | [], _, _ => []
  | x :: l, n, y => match n with
    | 0 => y :: l
    | n + 1 => x :: setL l n y
noncomputable def addL {α : Type} : List α → List α → List α
  | [], y => y
  | x :: l, y => x :: addL l y

/-- a place by its hint: 2 i + 1 an own cell, 2 i + 2 a read cell -/
noncomputable def place (own ro : List Cell) (h : Nat) : Option Cell := match Nat.beq (h % 2) 1 with
  | true => atL own (h / 2)
  | false => atL ro (h / 2 - 1)

noncomputable def popH : HT → Option (Nat × HT)
  | .go l r => match l with
    | k :: l' => some (k, .go l' r)
    | [] => match r with
      | .go l2 r' => match l2 with
        | k :: l' => some (k, .go l' r')
        | [] => none
      | _ => none
  | _ => none
noncomputable def popC : HT → Option (Ctr × ((Nat → Nat) → HT))
  | .cut C f => some (C, f)
  | .go l r => match l with
    | [] => match r with
      | .cut C f => some (C, f)
      | _ => none
    | _ => none
  | _ => none
noncomputable def popS : HT → Option ((Sem Unit → Sem PySem.Fin) × HT)
  | .stk Φ H => some (Φ, H)
  | .go l r => match l with
    | [] => match r with
      | .stk Φ H => some (Φ, H)
      | _ => none
    | _ => none
  | _ => none
noncomputable def popE : HT → Option Out
  | .nil o => some o
  | .go l r => match l with
    | [] => match r with
      | .nil o => some o
      | _ => none
    | _ => none
  | _ => none

noncomputable def readsT (own ro : List Cell) : List (Nat × Cell) → OT → OT
  | [], t => t
  | (h, c) :: l, t => match place own ro h with
    | some c' => .eqO c' c (readsT own ro l t)
    | none => .bad 50
noncomputable def zipU : List (Nat × Cell) → List Obj → List (Nat × Cell)
  | (i, c) :: l, o :: os => (i, (c.1, o)) :: zipU l os
  | _, _ => []
noncomputable def updT : List (Nat × Cell) → List Cell → (List Cell → OT) → OT
  | [], own, k => k own
  | (i, c) :: l, own, k => match atL own i with
    | some c' => .eqN c'.1 c.1 (updT l (setL own i c) k)
    | none => .bad 51
noncomputable def mutT (own : List Cell) : List (Nat × Cell) → OT → OT
  | [], t => t
  | (i, c) :: l, t => match atL own i with
    | some c' => .eqO c' c (mutT own l t)
    | none => .bad 52
noncomputable def notIn (i : Nat) : List (Nat × Cell) → Bool
  | [] => true
  | (j, _) :: l => match Nat.beq i j with
    | true => false
    | false => notIn i l
noncomputable def idxOk : List (Nat × Cell) → Bool
  | [] => true
  | (i, _) :: l => match notIn i l with
    | true => idxOk l
    | false => false
noncomputable def rdsOk (m : List (Nat × Cell)) : List (Nat × Cell) → Bool
  | [] => true
  | (h, _) :: l => match Nat.beq (h % 2) 1 with
    | true => match notIn (h / 2) m with
      | true => rdsOk m l
      | false => false
    | false => rdsOk m l
noncomputable def cutT (C : Ctr) (own ro : List Cell) (k : (Nat → Nat) → List Cell → List Cell → OT) : OT := match idxOk C.mus with
  | false => .bad 53
  | true => match rdsOk C.mus C.reads with
    | false => .bad 54
    | true => readsT own ro C.reads (mutT own C.mus (.all fun x => updT (zipU C.mus (C.upd x)) own fun own' => k x (addL own' (C.newO x)) (addL ro (C.new x))))
noncomputable def handledK : Kn → Option Value
  | .base => none
  | .ret _ _ hd _ κ => match hd with
    | some v => some v
    | none => handledK κ

structure Sy where
  den : Code → Sem PySem.Fin
  set : Setting
  kt : KT
  quiet : Code → Bool
  tc : String → Bool

noncomputable def rm (S : Sy) (c : Code) (k : Nat) : Nat := match c with
  | .builtin id _ => match S.tc id with
    | true => k - 1
    | false => 0
  | _ => k - 1

abbrev RunTy := HT → Nat → Code → Kn → Sem PySem.Fin → List Cell → List Cell → Nat → Nat → OT

noncomputable def retT (ih : RunTy) (H : HT) (r : Result) (κ : Kn) (own ro : List Cell) (n tk : Nat) : OT := match κ with
  | .base => match popE H with
    | some o => .eqR r o.res (readsT own ro o.exp .fin)
    | none => .bad 60
  | .ret room c _ k κ => ih H room c κ (k r) own ro n tk

noncomputable def stepT (S : Sy) (ih : RunTy) : RunTy := fun H room c κ t own ro n tk => match t with
  | .pure fin => match fin with
    | .done f => retT ih H (.ok f) κ own ro n tk
    | .again c' => match S.quiet c' with
      | true => match popC H with
        | some (C, f) => match κ with
          | .base => match Nat.ble C.room room with
            | true => .eqC c' C.code (cutT C own ro fun x own' ro' => retT ih (f x) (C.res x) .base own' ro' (x 0) (x 1))
            | false => .bad 23
          | .ret .. => .bad 24
        | none => ih H room c' κ (S.den c') own ro n tk
      | false => .bad 1
  | .raise e => retT ih H (.error e) κ own ro n tk
  | .rule _ k => ih H room c κ (k ()) own ro n tk
  | .at _ k => ih H room c κ (k ()) own ro n tk
  | .point _ k => ih H room c κ (k ()) own ro n tk
  | .ask k => ih H room c κ (k S.set) own ro n tk
  | .load a _ k => match popH H with
    | some (h, H') => match h with
      | 0 => match S.kt.get a with
        | some o => ih H' room c κ (k o) own ro n tk
        | none => .bad 2
      | h + 1 => match place own ro (h + 1) with
        | some (a', o) => .eqN a a' (ih H' room c κ (k o) own ro n tk)
        | none => .bad 3
    | none => .bad 4
  | .loadIfAlive a k => match popH H with
    | some (h, H') => match h with
      | 0 => match S.kt.get a with
        | some o => ih H' room c κ (k (some o)) own ro n tk
        | none => .bad 5
      | h + 1 => match place own ro (h + 1) with
        | some (a', o) => .eqN a a' (ih H' room c κ (k (some o)) own ro n tk)
        | none => .bad 6
    | none => .bad 7
  | .alloc o k => match o.isFreed with
    | true => .bad 8
    | false => ih H room c κ (k n) (addL own [(n, o)]) ro (n + 1) tk
  | .update a _ f k => match popH H with
    | some (h, H') => match atL own h with
      | some (a', o) => match (f o).isFreed with
        | true => .bad 9
        | false => .eqN a a' (ih H' room c κ (k ()) (setL own h (a', f o)) ro n tk)
      | none => .bad 10
    | none => .bad 11
  | .fresh k => ih H room c κ (k tk) own ro n (tk + 1)
  | .handled own' k => match own' with
    | false => ih H room c κ (k (handledK κ)) own ro n tk
    | true => .bad 12
  | .call c' hd _ _ k => match popH H with
    | some (h, H') => match h with
      | 0 => match okMark hd with
        | true => ih H' (rm S c room) c' (.ret room c hd k κ) (S.den c') own ro n tk
        | false => .bad 13
      | _ + 1 => match popC H' with
        | some (C, f) => match hd with
          | none => match Nat.ble C.room (rm S c room) with
            | true => match handledK κ with
              | none => .eqC c' C.code (cutT C own ro fun x own' ro' => ih (f x) room c κ (k (C.res x)) own' ro' (x 0) (x 1))
              | some _ => .bad 18
            | false => .bad 16
          | some _ => .bad 17
        | none => .bad 14
    | none => .bad 15
  | .stack k => match popS H with
    | some (Φ, H') => match room with
      | 0 => .bad 25
      | r + 1 => .eqK k (fun st => Φ (condT st)) (ih H' (r + 1) c κ (Φ (.pure ())) own ro n tk)
    | none => .bad 20
  | .unsupported _ => .bad 21
  | _ => .bad 22

noncomputable def run (S : Sy) (fuel : Nat) : RunTy := @Nat.rec (fun _ => RunTy) (fun _ _ _ _ _ _ _ _ _ => .bad 0) (fun _ ih => stepT S ih) fuel
theorem run_succ (S : Sy) (n : Nat) : run S (n + 1) = stepT S (run S n) := rfl

noncomputable def OT.l : OT → OT
  | .fin => .fin
  | .bad _ => .fin
  | .eqN a _ t => .eqN a a t.l
  | .eqC a _ t => .eqC a a t.l
  | .eqO a _ t => .eqO a a t.l
  | .eqR a _ t => .eqR a a t.l
  | .eqK a _ t => .eqK a a t.l
  | .all f => .all fun x => (f x).l
noncomputable def OT.r : OT → OT
  | .fin => .fin
  | .bad n => .bad n
  | .eqN _ b t => .eqN b b t.r
  | .eqC _ b t => .eqC b b t.r
  | .eqO _ b t => .eqO b b t.r
  | .eqR _ b t => .eqR b b t.r
  | .eqK _ b t => .eqK b b t.r
  | .all f => .all fun x => (f x).r
noncomputable def OT.Ok (t : OT) : Prop := t.l = t.r
theorem ok_bad {n : Nat} (h : (OT.bad n).Ok) : False := by
  have : OT.fin = OT.bad n := h
  cases this
theorem ok_eqN {a b : Nat} {t : OT} (h : (OT.eqN a b t).Ok) : a = b ∧ t.Ok := by
  have : OT.eqN a a t.l = OT.eqN b b t.r := h
  injection this with h1 _ h3
  exact ⟨h1, h3⟩
theorem ok_eqC {a b : Code} {t : OT} (h : (OT.eqC a b t).Ok) : a = b ∧ t.Ok := by
  have : OT.eqC a a t.l = OT.eqC b b t.r := h
  injection this with h1 _ h3
  exact ⟨h1, h3⟩
theorem ok_eqO {a b : Cell} {t : OT} (h : (OT.eqO a b t).Ok) : a = b ∧ t.Ok := by
  have : OT.eqO a a t.l = OT.eqO b b t.r := h
  injection this with h1 _ h3
  exact ⟨h1, h3⟩
theorem ok_eqR {a b : Result} {t : OT} (h : (OT.eqR a b t).Ok) : a = b ∧ t.Ok := by
  have : OT.eqR a a t.l = OT.eqR b b t.r := h
  injection this with h1 _ h3
  exact ⟨h1, h3⟩
theorem ok_eqK {a b : List (Code × Pos) → Sem PySem.Fin} {t : OT} (h : (OT.eqK a b t).Ok) : a = b ∧ t.Ok := by
  have : OT.eqK a a t.l = OT.eqK b b t.r := h
  injection this with h1 _ h3
  exact ⟨h1, h3⟩
theorem ok_all {f : (Nat → Nat) → OT} (h : (OT.all f).Ok) (x : Nat → Nat) : (f x).Ok := by
  have : OT.all (fun x => (f x).l) = OT.all (fun x => (f x).r) := h
  injection this with h1
  exact congrFun h1 x

/-! lists -/
theorem atL_mem {α : Type} : ∀ {l : List α} {i : Nat} {x : α}, atL l i = some x → x ∈ l
  | [], _, _, h => by cases h
  | y :: l, 0, x, h => by cases h; exact .head _
  | y :: l, i + 1, x, h => .tail _ (atL_mem (show atL l i = some x from h))
theorem addL_eq {α : Type} : ∀ (l y : List α), addL l y = l ++ y
  | [], _ => rfl
  | x :: l, y => congrArg (x :: ·) (addL_eq l y)
theorem atL_append_lt {α : Type} : ∀ {l y : List α} {i : Nat}, i < l.length → atL (l ++ y) i = atL l i
  | [], _, _, h => absurd h (Nat.not_lt_zero _)
  | x :: l, y, 0, _ => rfl
  | x :: l, y, i + 1, h => atL_append_lt (l := l) (Nat.lt_of_succ_lt_succ h)
theorem atL_append_ge {α : Type} : ∀ {l y : List α} {i : Nat}, l.length ≤ i → atL (l ++ y) i = atL y (i - l.length)
  | [], _, _, _ => rfl
  | x :: l, y, 0, h => absurd h (Nat.not_succ_le_zero _)
  | x :: l, y, i + 1, h => by
    show atL (l ++ y) i = _
    rw [atL_append_ge (Nat.le_of_succ_le_succ h), List.length_cons, Nat.add_sub_add_right]
theorem atL_lt {α : Type} : ∀ {l : List α} {i : Nat} {x : α}, atL l i = some x → i < l.length
  | [], _, _, h => by cases h
  | y :: l, 0, x, h => Nat.succ_pos _
  | y :: l, i + 1, x, h => Nat.succ_lt_succ (atL_lt (show atL l i = some x from h))
theorem setL_len {α : Type} : ∀ (l : List α) (i : Nat) (y : α), (setL l i y).length = l.length
  | [], _, _ => rfl
  | x :: l, 0, y => rfl
  | x :: l, i + 1, y => congrArg (· + 1) (setL_len l i y)
theorem setL_keys : ∀ {l : List Cell} {i : Nat} {c c' : Cell}, atL l i = some c' → c'.1 = c.1 → (setL l i c).map (·.1) = l.map (·.1)
  | [], _, _, _, h, _ => by cases h
  | x :: l, 0, c, c', h, e => by
    cases h
    show c.1 :: l.map (·.1) = x.1 :: l.map (·.1)
    rw [e]
  | x :: l, i + 1, c, c', h, e => by
    show x.1 :: (setL l i c).map (·.1) = x.1 :: l.map (·.1)
    rw [setL_keys (show atL l i = some c' from h) e]
theorem setL_at {α : Type} : ∀ {l : List α} {i j : Nat} {y z : α}, atL (setL l i y) j = some z → (j = i ∧ z = y) ∨ (j ≠ i ∧ atL l j = some z)
  | [], _, _, _, _, h => by cases h
  | x :: l, 0, 0, y, z, h => by cases h; exact .inl ⟨rfl, rfl⟩
  | x :: l, 0, j + 1, y, z, h => .inr ⟨nofun, h⟩
  | x :: l, i + 1, 0, y, z, h => .inr ⟨nofun, h⟩
  | x :: l, i + 1, j + 1, y, z, h => by
    rcases setL_at (l := l) (i := i) (j := j) h with ⟨a, b⟩ | ⟨a, b⟩
    · exact .inl ⟨by rw [a], b⟩
    · exact .inr ⟨fun e => a (Nat.succ.inj e), b⟩
theorem mem_atL {α : Type} : ∀ {l : List α} {x : α}, x ∈ l → ∃ i, atL l i = some x
  | y :: l, x, h => by
    cases h with
    | head => exact ⟨0, rfl⟩
    | tail _ h => obtain ⟨i, hi⟩ := mem_atL h; exact ⟨i + 1, hi⟩
theorem nodup_at : ∀ {l : List Cell}, (l.map (·.1)).Nodup → ∀ {i j : Nat} {c d : Cell}, atL l i = some c → atL l j = some d → c.1 = d.1 → i = j
  | [], _, _, _, _, _, h, _, _ => by cases h
  | x :: l, hn, 0, 0, _, _, _, _, _ => rfl
  | x :: l, hn, 0, j + 1, c, d, h, h', e => by
    cases h
    rw [List.map_cons, List.nodup_cons] at hn
    exact absurd (e ▸ List.mem_map_of_mem (atL_mem (show atL l j = some d from h'))) hn.1
  | x :: l, hn, i + 1, 0, c, d, h, h', e => by
    cases h'
    rw [List.map_cons, List.nodup_cons] at hn
    exact absurd (e ▸ List.mem_map_of_mem (atL_mem (show atL l i = some c from h))) hn.1
  | x :: l, hn, i + 1, j + 1, c, d, h, h', e => by
    rw [List.map_cons, List.nodup_cons] at hn
    exact congrArg (· + 1) (nodup_at hn.2 (show atL l i = some c from h) (show atL l j = some d from h') e)

/-! the heap -/
structure Rp (kt : KT) (h₀ : Heap) (own₀ : List Addr) (nro : Nat) (own ro : List Cell) (n : Nat) (h : Heap) : Prop where
  size : h.objs.size = n
  hown : ∀ c ∈ own, h.get? c.1 = some c.2
  hro : ∀ c ∈ ro, h.get? c.1 = some c.2
  nd : (own.map (·.1)).Nodup
  off : ∀ c ∈ ro, c.1 ∉ own.map (·.1)
  keep : ∀ b o, h₀.get? b = some o → b ∉ own.map (·.1) → h.get? b = some o
  old : ∀ a ∈ own.map (·.1), a ∈ own₀ ∨ h₀.get? a = none
  newO : ∀ i c, atL own i = some c → own₀.length ≤ i → h₀.get? c.1 = none
  newR : ∀ i c, atL ro i = some c → nro ≤ i → h₀.get? c.1 = none
  len : own₀.length ≤ own.length
  lenR : nro ≤ ro.length
  kt0 : kt.Holds h₀ 1 0
  kto : ∀ a o, kt.get a = some o → a ∉ own₀

section
variable {kt : KT} {h₀ h : Heap} {own₀ : List Addr} {nro : Nat} {own ro : List Cell} {n : Nat}

theorem Rp.base (D : Rp kt h₀ own₀ nro own ro n h) {a : Addr} {o : Obj} (e : kt.get a = some o) : h.get? a = some o := by
  have z := kt_at D.kt0 e
  refine D.keep a o z fun hm => ?_
  rcases D.old a hm with q | q
  · exact D.kto a o e q
  · rw [z] at q; cases q
theorem Rp.there (D : Rp kt h₀ own₀ nro own ro n h) {a : Addr} {o : Obj} (e : h₀.get? a = some o) : ∃ o', h.get? a = some o' := by
  by_cases q : a ∈ own.map (·.1)
  · obtain ⟨c, hc, rfl⟩ := List.mem_map.mp q
    exact ⟨_, D.hown c hc⟩
  · exact ⟨o, D.keep a o e q⟩
theorem Rp.fresh (D : Rp kt h₀ own₀ nro own ro n h) {a : Addr} (e : h.get? a = none) : h₀.get? a = none := by
  cases q : h₀.get? a with
  | none => rfl
  | some o => obtain ⟨o', e'⟩ := D.there q; rw [e] at e'; cases e'
theorem holdsG {h : Heap} : ∀ (t : KT) (s b : Nat), 0 < s → (∀ j o, t.get j = some o → h.get? (s * j + b) = some o) → t.Holds h s b
  | .nil, _, _, _, _ => trivial
  | .node v l r, s, b, hs, H => by
    refine ⟨fun o e => ?_, holdsG l (2 * s) (s + b) (by lia) fun j o e => ?_, holdsG r (2 * s) (2 * s + b) (by lia) fun j o e => ?_⟩
    · have := H 0 o (by rw [KT.get_node, if_pos rfl]; exact e)
      rwa [Nat.mul_zero, Nat.zero_add] at this
    · have := H (2 * j + 1) o (by rw [KT.get_node, if_neg (by lia), if_pos (by lia), show (2 * j + 1) / 2 = j by lia]; exact e)
      rwa [show s * (2 * j + 1) + b = 2 * s * j + (s + b) by rw [Nat.mul_add, Nat.mul_one, ← Nat.mul_assoc, Nat.mul_comm s 2]; lia] at this
    · have := H (2 * j + 2) o (by rw [KT.get_node, if_neg (by lia), if_neg (by lia), show (2 * j + 2) / 2 - 1 = j by lia]; exact e)
      rwa [show s * (2 * j + 2) + b = 2 * s * j + (2 * s + b) by rw [Nat.mul_add, ← Nat.mul_assoc, Nat.mul_comm s 2]; lia] at this
theorem holds_all {h : Heap} {t : KT} (H : ∀ a o, t.get a = some o → h.get? a = some o) : t.Holds h 1 0 :=
  holdsG t 1 0 (by lia) fun j o e => by rw [Nat.one_mul, Nat.add_zero]; exact H j o e
theorem get_top (h : Heap) : h.get? h.objs.size = none := by
  cases q : h.get? h.objs.size with
  | none => rfl
  | some o => exact absurd (Heap.lt_size q) (Nat.lt_irrefl _)
theorem Rp.place (D : Rp kt h₀ own₀ nro own ro n h) {i : Nat} {c : Cell} (e : place own ro i = some c) : h.get? c.1 = some c.2 := by
  unfold Mine.place at e
  split at e
  · exact D.hown c (atL_mem e)
  · exact D.hro c (atL_mem e)

/-- new own and read cells, own cells turned -/
theorem Rp.more (D : Rp kt h₀ own₀ nro own ro n h) {h' : Heap} {own' newO new : List Cell} (K : own'.map (·.1) = own.map (·.1)) (ho : ∀ c ∈ own', h'.get? c.1 = some c.2)
    (keep : ∀ b o, h.get? b = some o → b ∉ own.map (·.1) → h'.get? b = some o)
    (hn : ∀ c ∈ newO ++ new, h.get? c.1 = none ∧ h'.get? c.1 = some c.2) (nd : (newO.map (·.1)).Nodup) (off : ∀ c ∈ new, c.1 ∉ newO.map (·.1)) : Rp kt h₀ own₀ nro (own' ++ newO) (ro ++ new) h'.objs.size h' := by
  have apart : ∀ c ∈ newO, ∀ o, h.get? c.1 ≠ some o := fun c hc o e => by
    have := (hn c (List.mem_append_left _ hc)).1
    rw [this] at e; cases e
  have KL : own'.length = own.length := by
    have := congrArg List.length K
    rwa [List.length_map, List.length_map] at this
  have keyAt : ∀ (l l' : List Cell), l'.map (·.1) = l.map (·.1) → ∀ i c', atL l' i = some c' → ∃ c, atL l i = some c ∧ c.1 = c'.1 := by
    intro l
    induction l with
    | nil => intro l' e i c' h; cases l' with
      | nil => cases h
      | cons => cases e
    | cons x l ih =>
      intro l' e i c' h
      cases l' with
      | nil => cases e
      | cons y l' =>
        rw [List.map_cons, List.map_cons] at e
        injection e with e1 e2
        cases i with
        | zero => cases h; exact ⟨x, rfl, e1.symm⟩
        | succ i => exact ih l' e2 i c' h
  refine ⟨rfl, fun c hc => ?_, fun c hc => ?_, ?_, fun c hc hm => ?_, fun b o e hb => ?_, fun a ha => ?_, fun i c hi hl => ?_, fun i c hi hl => ?_, ?_, ?_, D.kt0, D.kto⟩
  · rcases List.mem_append.mp hc with hc | hc
    · exact ho c hc
    · exact (hn c (List.mem_append_left _ hc)).2
  · rcases List.mem_append.mp hc with hc | hc
    · exact keep _ _ (D.hro c hc) (D.off c hc)
    · exact (hn c (List.mem_append_right _ hc)).2
  · rw [List.map_append, K, List.nodup_append]
    refine ⟨D.nd, nd, fun a ha b hb e => ?_⟩
    obtain ⟨c, hc, rfl⟩ := List.mem_map.mp ha
    obtain ⟨d, hd, rfl⟩ := List.mem_map.mp hb
    exact apart d hd c.2 (e ▸ D.hown c hc)
  · rw [List.map_append, K] at hm
    rcases List.mem_append.mp hc with hc | hc
    · rcases List.mem_append.mp hm with hm | hm
      · exact D.off c hc hm
      · obtain ⟨d, hd, e⟩ := List.mem_map.mp hm
        exact apart d hd c.2 (e ▸ D.hro c hc)
    · rcases List.mem_append.mp hm with hm | hm
      · obtain ⟨d, hd, e⟩ := List.mem_map.mp hm
        have := (hn c (List.mem_append_right _ hc)).1
        rw [← e, D.hown d hd] at this; cases this
      · exact off c hc hm
  · rw [List.map_append, K] at hb
    have hb' : b ∉ own.map (·.1) := fun hm => hb (List.mem_append_left _ hm)
    exact keep b o (D.keep b o e hb') hb'
  · rw [List.map_append, K] at ha
    rcases List.mem_append.mp ha with ha | ha
    · exact D.old a ha
    · obtain ⟨d, hd, rfl⟩ := List.mem_map.mp ha
      exact .inr (D.fresh (hn d (List.mem_append_left _ hd)).1)
  · by_cases q : i < own'.length
    · rw [atL_append_lt q] at hi
      obtain ⟨c₁, h1, h2⟩ := keyAt own own' K i c hi
      exact h2 ▸ D.newO i c₁ h1 hl
    · rw [atL_append_ge (Nat.le_of_not_lt q)] at hi
      exact D.fresh (hn c (List.mem_append_left _ (atL_mem hi))).1
  · by_cases q : i < ro.length
    · rw [atL_append_lt q] at hi
      exact D.newR i c hi hl
    · rw [atL_append_ge (Nat.le_of_not_lt q)] at hi
      exact D.fresh (hn c (List.mem_append_right _ (atL_mem hi))).1
  · rw [List.length_append, KL]; exact Nat.le_add_right_of_le D.len
  · rw [List.length_append]; exact Nat.le_add_right_of_le D.lenR

theorem Rp.alloc (D : Rp kt h₀ own₀ nro own ro n h) {o : Obj} (hf : o.isFreed = false) : Rp kt h₀ own₀ nro (own ++ [(n, o)]) ro (n + 1) (h.push o) := by
  have e := D.size
  subst e
  have z := D.more (h' := h.push o) (own' := own) (newO := [(h.objs.size, o)]) (new := []) rfl (fun c hc => Heap.get?_push_of_some _ (D.hown c hc)) (fun b o' q _ => Heap.get?_push_of_some _ q)
    (fun c hc => by
      rw [List.append_nil] at hc
      cases List.mem_singleton.mp hc
      exact ⟨get_top h, Heap.get?_push_size _ hf⟩) (by simp) (fun _ hc => (nomatch hc))
  rw [List.append_nil, Heap.size_push] at z
  exact z

/-- one own cell turned, the rest kept -/
theorem Rp.set (D : Rp kt h₀ own₀ nro own ro n h) {h' : Heap} {i : Nat} {c c' : Cell} (hi : atL own i = some c') (e : c'.1 = c.1) (hs : h'.objs.size = h.objs.size)
    (hk : ∀ b o, b ≠ c.1 → h.get? b = some o → h'.get? b = some o) (hc : h'.get? c.1 = some c.2) : Rp kt h₀ own₀ nro (setL own i c) ro n h' := by
  have K := setL_keys hi e
  have cm : c.1 ∈ own.map (·.1) := e ▸ List.mem_map_of_mem (atL_mem hi)
  refine ⟨hs.trans D.size, fun d hd => ?_, fun d hd => ?_, K ▸ D.nd, fun d hd => K ▸ D.off d hd, fun b o q hb => ?_, fun a ha => D.old a (K ▸ ha), fun j d hj hl => ?_, D.newR, by rw [setL_len]; exact D.len, D.lenR, D.kt0, D.kto⟩
  · obtain ⟨j, hj⟩ := mem_atL hd
    rcases setL_at hj with ⟨_, rfl⟩ | ⟨hne, hj⟩
    · exact hc
    · refine hk _ _ (fun q => hne ?_) (D.hown d (atL_mem hj))
      exact nodup_at D.nd hj hi (q.trans e.symm)
  · exact hk _ _ (fun q => D.off d hd (q ▸ cm)) (D.hro d hd)
  · rw [K] at hb
    exact hk _ _ (fun q => hb (q ▸ cm)) (D.keep b o q hb)
  · rcases setL_at hj with ⟨hji, rfl⟩ | ⟨_, hj⟩
    · subst hji
      exact e ▸ D.newO _ _ hi hl
    · exact D.newO j d hj hl
theorem Rp.update (D : Rp kt h₀ own₀ nro own ro n h) {i : Nat} {a : Addr} {o : Obj} {f : Obj → Obj} (hi : atL own i = some (a, o)) (hf : (f o).isFreed = false) : Rp kt h₀ own₀ nro (setL own i (a, f o)) ro n (h.update a f) := by
  have hs : Heap.SameBut a h (h.update a f) := Heap.SameBut.update ..
  have ho := D.hown _ (atL_mem hi)
  exact D.set (c := (a, f o)) hi rfl hs.1 (fun b o' hb q => (hs.2 b hb).trans q) (by first | exact Heap.get?_update_self f ho hf | exact Heap.get?_update_self _ ho hf)
end

/-! contracts -/
noncomputable def AOk (k : Nat) (A : Around) : Prop := k = 0 ∨ (A.depth + 2 * k ≤ 990 ∧ A.units + 4 * k ≤ 9890)

structure After (h h' : Heap) (mus : List (Nat × Cell)) (upd : List Obj) (newO new : List Cell) : Prop where
  keep : ∀ b o, h.get? b = some o → b ∉ mus.map (·.2.1) → h'.get? b = some o
  len : upd.length = mus.length
  hupd : ∀ e ∈ zipU mus upd, h'.get? e.2.1 = some e.2.2
  hnew : ∀ c ∈ newO ++ new, h.get? c.1 = none ∧ h'.get? c.1 = some c.2
  nd : (newO.map (·.1)).Nodup
  off : ∀ c ∈ new, c.1 ∉ newO.map (·.1)

noncomputable def Ctr.Valid (prog : Program) (w : World) (kt : KT) (C : Ctr) : Prop :=
  ∀ (A : Around) (R : Result → Shared → Prop) (s : Shared), AOk C.room A → A.handled = none → kt.Holds s.heap 1 0 →
    (∀ e ∈ C.reads, s.heap.get? e.2.1 = some e.2.2 ∧ e.2.1 ∉ C.mus.map (·.2.1)) → (∀ e ∈ C.mus, s.heap.get? e.2.1 = some e.2.2 ∧ ∀ o, kt.get e.2.1 ≠ some o) → (C.mus.map (·.2.1)).Nodup →
    (∀ x h', C.post x → After s.heap h' C.mus (C.upd x) (C.newO x) (C.new x) → h'.objs.size = x 0 → R (C.res x) ⟨h', s.gens, s.drawn, x 1, s.os⟩) →
    codeAny (model prog w) A C.code R s

noncomputable def HOk (V : Ctr → Prop) (P : Out → Prop) : HT → Prop
  | .nil o => P o
  | .go _ r => HOk V P r
  | .cut C f => V C ∧ ∀ x, C.post x → HOk V P (f x)
  | .stk _ r => HOk V P r

theorem popH_ok {V : Ctr → Prop} {P : Out → Prop} {H H' : HT} {k : Nat} (h : popH H = some (k, H')) (o : HOk V P H) : HOk V P H' := by
  unfold popH at h
  split at h
  · split at h
    · cases h; exact o
    · split at h
      · split at h
        · cases h; exact o
        · cases h
      · cases h
  · cases h
theorem popC_ok {V : Ctr → Prop} {P : Out → Prop} {H : HT} {C : Ctr} {f : (Nat → Nat) → HT} (h : popC H = some (C, f)) (o : HOk V P H) : V C ∧ ∀ x, C.post x → HOk V P (f x) := by
  unfold popC at h
  split at h
  · cases h; exact o
  · split at h
    · split at h
      · cases h; exact o
      · cases h
    · cases h
  · cases h
theorem popS_ok {V : Ctr → Prop} {P : Out → Prop} {H H' : HT} {Φ : Sem Unit → Sem PySem.Fin} (h : popS H = some (Φ, H')) (o : HOk V P H) : HOk V P H' := by
  unfold popS at h
  split at h
  · cases h; exact o
  · split at h
    · split at h
      · cases h; exact o
      · cases h
    · cases h
  · cases h
theorem popE_ok {V : Ctr → Prop} {P : Out → Prop} {H : HT} {e : Out} (h : popE H = some e) (o : HOk V P H) : P e := by
  unfold popE at h
  split at h
  · cases h; exact o
  · split at h
    · split at h
      · cases h; exact o
      · cases h
    · cases h
  · cases h

noncomputable def newHint (no nr h : Nat) : Bool := match Nat.beq (h % 2) 1 with
  | true => Nat.ble no (h / 2)
  | false => Nat.ble nr (h / 2 - 1)

noncomputable def OutOk (h₀ : Heap) (own₀ : List Addr) (nro : Nat) (g : Array GenState) (d : Drawn) (os : OsState) (R : Result → Shared → Prop) (o : Out) : Prop :=
  ∀ h' tk, (∀ b ob, h₀.get? b = some ob → b ∉ own₀ → h'.get? b = some ob) →
    (∀ e ∈ o.exp, h'.get? e.2.1 = some e.2.2 ∧ (newHint own₀.length nro e.1 = true → h₀.get? e.2.1 = none)) → R o.res ⟨h', g, d, tk, os⟩

noncomputable def aroundK (A : Around) : Kn → Around
  | .base => A
  | .ret _ c hd _ κ => ((aroundK A κ).under c).mark hd
noncomputable def endK (prog : Program) (w : World) (A : Around) (R : Result → Shared → Prop) : Kn → Result → Shared → Prop
  | .base => R
  | .ret _ c _ k κ => postR prog w (aroundK A κ) c (postC prog w (aroundK A κ) (endK prog w A R κ)) (postE (endK prog w A R κ)) k
noncomputable def roomK (A : Around) : Kn → Prop
  | .base => True
  | .ret room _ _ _ κ => AOk room (aroundK A κ) ∧ roomK A κ

theorem weight_le {c : Code} (h : ∀ id a, c ≠ .builtin id a) : c.weight ≤ 1 ∧ c.cUnits ≤ 3 := by
  have z : c.isGuard = false ∧ c.isCreation = false ∧ c.isCaller = false ∧ c.frames ≤ 1 := by
    cases c with
    | builtin id a => exact absurd rfl (h id a)
    | _ => refine ⟨rfl, rfl, rfl, ?_⟩ <;> (unfold Code.frames; simp only; split <;> lia)
  refine ⟨?_, ?_⟩
  · unfold Code.weight; rw [z.1, z.2.1, z.2.2.1]; simp only [Bool.false_eq_true, if_false]; lia
  · cases c with
    | builtin id a => exact absurd rfl (h id a)
    | call f a => show 1 ≤ 3; lia
    | _ => show 3 * _ ≤ 3; lia
theorem weight_tc (a : Args) : (Code.builtin "type.__call__" a).weight ≤ 1 ∧ (Code.builtin "type.__call__" a).cUnits ≤ 3 := by
  have f : (Code.builtin "type.__call__" a).frames = 0 := rfl
  have g : (Code.builtin "type.__call__" a).isGuard = false := by show guardIds.contains "type.__call__" = false; decide +kernel
  have c : (Code.builtin "type.__call__" a).isCaller = false := rfl
  refine ⟨?_, ?_⟩
  · unfold Code.weight; rw [f, g, c]; simp only [Bool.false_eq_true, if_false]; split <;> lia
  · show 1 + 3 * (Code.builtin "type.__call__" a).frames ≤ 3; rw [f]; lia

theorem frames_le (c : Code) : c.frames ≤ 3 := by
  unfold Code.frames
  split <;> first | decide | (split <;> decide)
theorem cUnits_le (c : Code) : c.cUnits ≤ 10 := by
  have := frames_le c
  unfold Code.cUnits
  split <;> lia
structure SyOk (prog : Program) (w : World) (S : Sy) : Prop where
  den : S.den = denote table
  set : S.set = ⟨prog, w.params⟩
  quiet : S.quiet = Code.quiet
  tc : ∀ id, S.tc id = true → id = "type.__call__"

theorem aok_rm {prog : Program} {w : World} {S : Sy} (O : SyOk prog w S) {k : Nat} {A : Around} {c : Code} {hd : Option Value} (a : AOk k A) : AOk (rm S c k) ((A.under c).mark hd) := by
  have step : c.weight ≤ 1 ∧ c.cUnits ≤ 3 → AOk (k - 1) ((A.under c).mark hd) := fun ⟨hw, hu⟩ => by
    rcases a with a | ⟨a, b⟩
    · exact .inl (by lia)
    · by_cases q : k - 1 = 0
      · exact .inl q
      · refine .inr ⟨?_, ?_⟩
        · show A.depth + c.weight + 2 * (k - 1) ≤ 990; lia
        · show A.units + c.cUnits + 4 * (k - 1) ≤ 9890; lia
  unfold rm
  split
  · split
    · rename_i h
      have := O.tc _ h
      subst this
      exact step (weight_tc _)
    · exact .inl rfl
  · rename_i hne
    exact step (weight_le fun id a e => hne id a e)

section
variable {prog : Program} {w : World} {S : Sy} (O : SyOk prog w S) {A : Around} (hA : A.handled = none) {R : Result → Shared → Prop} {h₀ : Heap} {own₀ : List Addr} {nro : Nat} {g : Array GenState} {d : Drawn} {os : OsState}
include hA
theorem handled_is : ∀ κ : Kn, (aroundK A κ).handled = handledK κ
  | .base => hA
  | .ret _ c hd k κ => by
    show hd.or (aroundK A κ).handled = _
    rw [handled_is κ]
    cases hd <;> rfl
omit hA
theorem reads_ok {own ro : List Cell} {n : Nat} {h : Heap} (D : Rp S.kt h₀ own₀ nro own ro n h) : ∀ {l : List (Nat × Cell)} {t : OT}, (readsT own ro l t).Ok → (∀ e ∈ l, h.get? e.2.1 = some e.2.2 ∧ (newHint own₀.length nro e.1 = true → h₀.get? e.2.1 = none)) ∧ t.Ok
  | [], _, o => ⟨fun _ he => (nomatch he), o⟩
  | (i, c) :: l, t, o => by
    unfold readsT at o
    split at o
    · rename_i c' hc'
      obtain ⟨e, o2⟩ := ok_eqO o
      clear o
      subst e
      obtain ⟨a, b⟩ := reads_ok D o2
      refine ⟨fun e he => ?_, b⟩
      cases he with
      | tail _ he => exact a e he
      | head =>
        refine ⟨D.place hc', fun hn => ?_⟩
        unfold Mine.place at hc'
        unfold newHint at hn
        split at hc'
        · rename_i q
          rw [q] at hn
          exact D.newO _ _ hc' (Nat.le_of_ble_eq_true hn)
        · rename_i q
          rw [q] at hn
          exact D.newR _ _ hc' (Nat.le_of_ble_eq_true hn)
    · exact (ok_bad o).elim

theorem upd_ok {k : List Cell → OT} : ∀ {l : List (Nat × Cell)} {own : List Cell}, (updT l own k).Ok →
    ∃ own', (k own').Ok ∧ own'.map (·.1) = own.map (·.1) ∧ (∀ i c', atL own' i = some c' → (∃ e ∈ l, e.2 = c') ∨ (atL own i = some c' ∧ ∀ e ∈ l, e.1 ≠ i)) ∧ (∀ e ∈ l, ∃ c, atL own e.1 = some c ∧ c.1 = e.2.1)
  | [], own, o => ⟨own, o, rfl, fun i c hi => .inr ⟨hi, fun _ he => (nomatch he)⟩, fun _ he => (nomatch he)⟩
  | (i, c) :: l, own, o => by
    unfold updT at o
    split at o
    · rename_i c₁ hc₁
      obtain ⟨e, o⟩ := ok_eqN o
      obtain ⟨own', h1, h2, h3, h4⟩ := upd_ok o
      have K := setL_keys hc₁ e
      refine ⟨own', h1, h2.trans K, fun j c' hj => ?_, fun e' he' => ?_⟩
      · rcases h3 j c' hj with ⟨e', he', q⟩ | ⟨q, hne⟩
        · exact .inl ⟨e', .tail _ he', q⟩
        · rcases setL_at q with ⟨rfl, rfl⟩ | ⟨hji, q⟩
          · exact .inl ⟨_, .head _, rfl⟩
          · refine .inr ⟨q, fun e' he' => ?_⟩
            cases he' with
            | head => exact Ne.symm hji
            | tail _ he' => exact hne e' he'
      · cases he' with
        | head => exact ⟨c₁, hc₁, e⟩
        | tail _ he' =>
          obtain ⟨c₂, q1, q2⟩ := h4 e' he'
          rcases setL_at q1 with ⟨hji, rfl⟩ | ⟨_, q1⟩
          · rw [hji]; exact ⟨c₁, hc₁, e.trans q2⟩
          · exact ⟨c₂, q1, q2⟩
    · exact (ok_bad o).elim

theorem mut_ok {own : List Cell} : ∀ {l : List (Nat × Cell)} {t : OT}, (mutT own l t).Ok → (∀ e ∈ l, atL own e.1 = some e.2) ∧ t.Ok
  | [], _, o => ⟨fun _ he => (nomatch he), o⟩
  | (i, c) :: l, t, o => by
    unfold mutT at o
    split at o
    · rename_i c' hc'
      obtain ⟨e, o2⟩ := ok_eqO o
      subst e
      obtain ⟨a, b⟩ := mut_ok o2
      refine ⟨fun e he => ?_, b⟩
      cases he with
      | head => exact hc'
      | tail _ he => exact a e he
    · exact (ok_bad o).elim
theorem notIn_ok {i : Nat} : ∀ {l : List (Nat × Cell)}, notIn i l = true → ∀ e ∈ l, e.1 ≠ i
  | [], _, _, he => nomatch he
  | (j, c) :: l, h, e, he => by
    unfold notIn at h
    split at h
    · cases h
    · rename_i q
      cases he with
      | head => exact fun q' => Nat.ne_of_beq_eq_false q q'.symm
      | tail _ he => exact notIn_ok h e he
theorem idx_ok {own : List Cell} (nd : (own.map (·.1)).Nodup) : ∀ {l : List (Nat × Cell)}, idxOk l = true → (∀ e ∈ l, atL own e.1 = some e.2) → (l.map (·.2.1)).Nodup
  | [], _, _ => List.nodup_nil
  | (i, c) :: l, h, H => by
    unfold idxOk at h
    split at h
    · rename_i q
      rw [List.map_cons, List.nodup_cons]
      refine ⟨fun hm => ?_, idx_ok nd h fun e he => H e (.tail _ he)⟩
      obtain ⟨e, he, q'⟩ := List.mem_map.mp hm
      exact notIn_ok q e he (nodup_at nd (H e (.tail _ he)) (H _ (.head _)) q')
    · cases h
theorem rds_ok {own ro : List Cell} (nd : (own.map (·.1)).Nodup) (off : ∀ c ∈ ro, c.1 ∉ own.map (·.1)) {m : List (Nat × Cell)} (H : ∀ e ∈ m, atL own e.1 = some e.2) :
    ∀ {l : List (Nat × Cell)}, rdsOk m l = true → ∀ e ∈ l, ∀ c', place own ro e.1 = some c' → c'.1 ∉ m.map (·.2.1)
  | [], _, _, he => nomatch he
  | (i, c) :: l, h, e, he => by
    have tl : ∀ {x}, rdsOk m l = x → x = true → e ∈ l → ∀ c', place own ro e.1 = some c' → c'.1 ∉ m.map (·.2.1) := fun a b he => rds_ok nd off H (a.trans b) e he
    unfold rdsOk at h
    split at h
    · rename_i q
      split at h
      · rename_i q2
        cases he with
        | tail _ he => exact rds_ok nd off H h e he
        | head =>
          intro c' hc' hm
          unfold place at hc'
          simp only [q] at hc'
          obtain ⟨e', he', q'⟩ := List.mem_map.mp hm
          exact notIn_ok q2 e' he' (nodup_at nd (H e' he') hc' q')
      · cases h
    · rename_i q
      cases he with
      | tail _ he => exact rds_ok nd off H h e he
      | head =>
        intro c' hc' hm
        unfold place at hc'
        simp only [q] at hc'
        obtain ⟨e', he', q'⟩ := List.mem_map.mp hm
        exact off c' (atL_mem hc') (q' ▸ List.mem_map_of_mem (atL_mem (H e' he')))
theorem reads_at {own ro : List Cell} : ∀ {l : List (Nat × Cell)} {t : OT}, (readsT own ro l t).Ok → ∀ e ∈ l, place own ro e.1 = some e.2
  | [], _, _, _, he => nomatch he
  | (i, c) :: l, t, o, e, he => by
    unfold readsT at o
    split at o
    · rename_i c' hc'
      obtain ⟨q, o2⟩ := ok_eqO o
      subst q
      cases he with
      | head => exact hc'
      | tail _ he => exact reads_at o2 e he
    · exact (ok_bad o).elim
theorem zipU_keys : ∀ {m : List (Nat × Cell)} {u : List Obj}, ∀ e ∈ zipU m u, ∃ e' ∈ m, e'.1 = e.1 ∧ e'.2.1 = e.2.1
  | [], _, _, he => by unfold zipU at he; cases he
  | (i, c) :: m, [], _, he => by unfold zipU at he; cases he
  | (i, c) :: m, o :: u, e, he => by
    unfold zipU at he
    cases he with
    | head => exact ⟨(i, c), .head _, rfl, rfl⟩
    | tail _ he => obtain ⟨e', h1, h2⟩ := zipU_keys e he; exact ⟨e', .tail _ h1, h2⟩
theorem zipU_has : ∀ {m : List (Nat × Cell)} {u : List Obj}, u.length = m.length → ∀ e' ∈ m, ∃ e ∈ zipU m u, e.1 = e'.1 ∧ e.2.1 = e'.2.1
  | [], _, _, _, he => nomatch he
  | (i, c) :: m, [], h, _, _ => by cases h
  | (i, c) :: m, o :: u, h, e, he => by
    unfold zipU
    cases he with
    | head => exact ⟨_, .head _, rfl, rfl⟩
    | tail _ he => obtain ⟨e', h1, h2⟩ := zipU_has (by simpa using h) e he; exact ⟨e', .tail _ h1, h2⟩

theorem cut_ok (O : SyOk prog w S) {C : Ctr} {own ro : List Cell} {n tk : Nat} {h : Heap} {k : (Nat → Nat) → List Cell → List Cell → OT} {A' : Around} {R' : Result → Shared → Prop} (hV : C.Valid prog w S.kt) (D : Rp S.kt h₀ own₀ nro own ro n h)
    (o : (cutT C own ro k).Ok) (ha' : AOk C.room A') (hh' : A'.handled = none)
    (IH : ∀ x own' ro' h', C.post x → (k x own' ro').Ok → Rp S.kt h₀ own₀ nro own' ro' (x 0) h' → R' (C.res x) ⟨h', g, d, x 1, os⟩) : codeAny (model prog w) A' C.code R' ⟨h, g, d, tk, os⟩ := by
  unfold cutT at o
  split at o
  · exact (ok_bad o).elim
  rename_i hidx
  split at o
  · exact (ok_bad o).elim
  rename_i hrds
  have hat := reads_at o
  obtain ⟨hr, o⟩ := reads_ok D o
  obtain ⟨hm, o⟩ := mut_ok o
  have kts : S.kt.Holds h 1 0 := holds_all fun a o e => D.base e
  have mem : ∀ e ∈ C.mus, e.2.1 ∈ own.map (·.1) := fun e he => List.mem_map_of_mem (atL_mem (hm e he))
  refine hV A' R' _ ha' hh' kts (fun e he => ⟨(hr e he).1, rds_ok D.nd D.off hm hrds e he _ (hat e he)⟩) (fun e he => ⟨D.hown _ (atL_mem (hm e he)), fun ob hob => ?_⟩) (idx_ok D.nd hidx hm) fun x h' hp' ha'' hs => ?_
  · rcases D.old e.2.1 (mem e he) with q | q
    · exact D.kto _ _ hob q
    · rw [kt_at D.kt0 hob] at q; cases q
  · obtain ⟨own', o', hK, h3, h4⟩ := upd_ok (ok_all o x)
    rw [addL_eq, addL_eq] at o'
    have D' := D.more (h' := h') (own' := own') (newO := C.newO x) (new := C.new x) hK
      (fun c₁ hc₁ => by
        obtain ⟨i, hi⟩ := mem_atL hc₁
        rcases h3 i c₁ hi with ⟨e, he, rfl⟩ | ⟨hi', hne⟩
        · exact ha''.hupd e he
        · refine ha''.keep _ _ (D.hown _ (atL_mem hi')) fun q => ?_
          obtain ⟨e, he, q⟩ := List.mem_map.mp q
          obtain ⟨e', he', q1, q2⟩ := zipU_has ha''.len e he
          exact hne e' he' (q1.trans (nodup_at D.nd (hm e he) hi' q)))
      (fun b ob q hb => ha''.keep b ob q fun q' => hb (by
        obtain ⟨e, he, q⟩ := List.mem_map.mp q'
        rw [← q]; exact mem e he))
      ha''.hnew ha''.nd ha''.off
    rw [hs] at D'
    exact IH x _ _ h' hp' o' D'

theorem ret_sound (ih : RunTy) {κ : Kn} {c : Code} {H : HT} {own ro : List Cell} {n tk : Nat} {h : Heap}
    (IH : ∀ H room c κ t own ro n tk h, (ih H room c κ t own ro n tk).Ok → HOk (Ctr.Valid prog w S.kt) (OutOk h₀ own₀ nro g d os R) H → AOk room (aroundK A κ) → roomK A κ → Rp S.kt h₀ own₀ nro own ro n h →
      wpOwn (model prog w) (aroundK A κ) c t (postC prog w (aroundK A κ) (endK prog w A R κ)) (postE (endK prog w A R κ)) ⟨h, g, d, tk, os⟩)
    {r : Result} {t : Sem PySem.Fin} (ht : t = leafOf r) (o : (retT ih H r κ own ro n tk).Ok) (ho : HOk (Ctr.Valid prog w S.kt) (OutOk h₀ own₀ nro g d os R) H) (hk : roomK A κ) (D : Rp S.kt h₀ own₀ nro own ro n h) :
    wpOwn (model prog w) (aroundK A κ) c t (postC prog w (aroundK A κ) (endK prog w A R κ)) (postE (endK prog w A R κ)) ⟨h, g, d, tk, os⟩ := by
  have key : endK prog w A R κ r ⟨h, g, d, tk, os⟩ := by
    cases κ with
    | base =>
      simp only [retT] at o
      split at o
      · rename_i e he
        obtain ⟨er, o2⟩ := ok_eqR o
        clear o
        subst er
        have z := popE_ok he ho
        obtain ⟨a, _⟩ := reads_ok D o2
        refine z h tk (fun b ob q hb => D.keep b ob q fun hm => ?_) a
        rcases D.old b hm with y | y
        · exact hb y
        · rw [q] at y; cases y
      · exact (ok_bad o).elim
    | ret room c₁ hd k κ => exact IH _ _ _ _ _ _ _ _ _ h o ho hk.1 hk.2 D
  cases r with
  | ok f => subst ht; exact y_pure _ _ _ _ _ _ _ _ _ (y_done _ _ _ _ _ _ key)
  | error e => subst ht; exact y_raise _ _ _ _ _ _ _ _ _ (y_err _ _ _ key)

include hA O
theorem step_sound (ih : RunTy)
    (IH : ∀ H room c κ t own ro n tk h, (ih H room c κ t own ro n tk).Ok → HOk (Ctr.Valid prog w S.kt) (OutOk h₀ own₀ nro g d os R) H → AOk room (aroundK A κ) → roomK A κ → Rp S.kt h₀ own₀ nro own ro n h →
      wpOwn (model prog w) (aroundK A κ) c t (postC prog w (aroundK A κ) (endK prog w A R κ)) (postE (endK prog w A R κ)) ⟨h, g, d, tk, os⟩) :
    ∀ H room c κ t own ro n tk h, (stepT S ih H room c κ t own ro n tk).Ok → HOk (Ctr.Valid prog w S.kt) (OutOk h₀ own₀ nro g d os R) H → AOk room (aroundK A κ) → roomK A κ → Rp S.kt h₀ own₀ nro own ro n h →
      wpOwn (model prog w) (aroundK A κ) c t (postC prog w (aroundK A κ) (endK prog w A R κ)) (postE (endK prog w A R κ)) ⟨h, g, d, tk, os⟩ := by
  intro H room c κ t own ro n tk h o ho ha hk D
  cases t with
  | pure fin =>
    cases fin with
    | done f => exact ret_sound ih IH rfl o ho hk D
    | again c' =>
      simp only [stepT] at o
      split at o
      · rename_i q
        rw [O.quiet] at q
        split at o
        · rename_i C f hc
          obtain ⟨hV, hF⟩ := popC_ok hc ho
          split at o
          · split at o
            · rename_i hb
              obtain ⟨ec, o⟩ := ok_eqC o
              have hb' : C.room ≤ room := Nat.le_of_ble_eq_true hb
              have ha' : AOk C.room A := by
                rcases ha with q | ⟨q1, q2⟩
                · exact .inl (by lia)
                · by_cases q : C.room = 0
                  · exact .inl q
                  · exact .inr ⟨by have : A.depth + 2 * room ≤ 990 := q1; lia, by have : A.units + 4 * room ≤ 9890 := q2; lia⟩
              refine y_pure _ _ _ _ _ _ _ _ _ (y_again _ _ _ _ _ _ q ?_)
              show codeAny _ A c' R _
              rw [ec]
              refine cut_ok O hV D o ha' hA fun x own' ro' h' hp' o' D' => ?_
              simp only [retT] at o'
              split at o'
              · rename_i e he
                obtain ⟨er, o2⟩ := ok_eqR o'
                clear o'
                have z := popE_ok he (hF x hp')
                obtain ⟨a, _⟩ := reads_ok D' o2
                rw [er]
                refine z h' (x 1) (fun b ob q hb => D'.keep b ob q fun hm => ?_) a
                rcases D'.old b hm with y | y
                · exact hb y
                · rw [q] at y; cases y
              · exact (ok_bad o').elim
            · exact (ok_bad o).elim
          · exact (ok_bad o).elim
        · have z := IH _ _ _ _ _ _ _ _ _ h o ho ha hk D
          rw [O.den] at z
          exact y_pure _ _ _ _ _ _ _ _ _ (y_again _ _ _ _ _ _ q (y_code _ _ _ _ _ _ z))
      · exact (ok_bad o).elim
  | raise e => exact ret_sound ih IH rfl o ho hk D
  | rule tag k => exact y_skim _ _ _ _ _ _ _ _ _ 1 (IH _ _ _ _ _ _ _ _ _ h o ho ha hk D)
  | «at» q k => exact y_skim _ _ _ _ _ _ _ _ _ 1 (IH _ _ _ _ _ _ _ _ _ h o ho ha hk D)
  | point l k => exact y_skim _ _ _ _ _ _ _ _ _ 1 (IH _ _ _ _ _ _ _ _ _ h o ho ha hk D)
  | ask k =>
    simp only [stepT] at o
    rw [O.set] at o
    exact y_skim _ _ _ _ _ _ _ _ _ 1 (IH _ _ _ _ _ _ _ _ _ h o ho ha hk D)
  | load a q k =>
    simp only [stepT] at o
    split at o
    · rename_i hh H' hp
      have ho' := popH_ok hp ho
      split at o
      · split at o
        · rename_i ob e
          exact y_load _ _ _ _ _ _ _ _ _ _ _ _ _ _ _ _ (D.base e) (IH _ _ _ _ _ _ _ _ _ h o ho' ha hk D)
        · exact (ok_bad o).elim
      · split at o
        · rename_i a' ob e
          obtain ⟨ea, o2⟩ := ok_eqN o
          clear o
          subst ea
          exact y_load _ _ _ _ _ _ _ _ _ _ _ _ _ _ _ _ (D.place e) (IH _ _ _ _ _ _ _ _ _ h o2 ho' ha hk D)
        · exact (ok_bad o).elim
    · exact (ok_bad o).elim
  | loadIfAlive a k =>
    simp only [stepT] at o
    split at o
    · rename_i hh H' hp
      have ho' := popH_ok hp ho
      split at o
      · split at o
        · rename_i ob e
          exact y_alive _ _ _ _ _ _ _ _ _ _ _ _ _ _ _ (D.base e) (IH _ _ _ _ _ _ _ _ _ h o ho' ha hk D)
        · exact (ok_bad o).elim
      · split at o
        · rename_i a' ob e
          obtain ⟨ea, o2⟩ := ok_eqN o
          clear o
          subst ea
          exact y_alive _ _ _ _ _ _ _ _ _ _ _ _ _ _ _ (D.place e) (IH _ _ _ _ _ _ _ _ _ h o2 ho' ha hk D)
        · exact (ok_bad o).elim
    · exact (ok_bad o).elim
  | alloc ob k =>
    simp only [stepT] at o
    split at o
    · exact (ok_bad o).elim
    · rename_i hf
      rw [addL_eq] at o
      have D' := D.alloc hf
      have z := IH _ _ _ _ _ _ _ _ _ (h.push ob) o ho ha hk D'
      refine wpOwn_bind (m := alloc ob) (f := k) (wpOwn_of_wpAny (wpAny_alloc ?_))
      show wpOwn _ _ _ (k h.objs.size) _ _ _
      rw [D.size]; exact z
  | update a q f k =>
    simp only [stepT] at o
    split at o
    · rename_i hh H' hp
      have ho' := popH_ok hp ho
      split at o
      · rename_i a' ob e
        split at o
        · exact (ok_bad o).elim
        · rename_i hf
          obtain ⟨ea, o2⟩ := ok_eqN o
          clear o
          subst ea
          have D' := D.update e hf
          have z := IH _ _ _ _ _ _ _ _ _ _ o2 ho' ha hk D'
          exact wpOwn_bind (m := updatePart a q f) (f := k) (wpOwn_of_wpAny (wpAny_updatePart (D.hown _ (atL_mem e)) z))
      · exact (ok_bad o).elim
    · exact (ok_bad o).elim
  | fresh k => exact y_fresh _ _ _ _ _ _ _ _ _ _ _ _ _ (IH _ _ _ _ _ _ _ _ _ h o ho ha hk D)
  | handled own' k =>
    cases own' with
    | true => exact (ok_bad o).elim
    | false =>
      simp only [stepT] at o
      rw [← handled_is hA κ] at o
      exact y_handled _ _ _ _ _ _ _ _ _ (IH _ _ _ _ _ _ _ _ _ h o ho ha hk D)
  | call c' hd gd l k =>
    simp only [stepT] at o
    split at o
    · rename_i hh H' hp
      have ho' := popH_ok hp ho
      split at o
      · split at o
        · rename_i q
          have hnb : hd ≠ some byPass := by
            intro e
            subst e
            simp [okMark] at q
          have z := IH _ _ _ _ _ _ _ _ _ h o ho' (aok_rm O ha) ⟨ha, hk⟩ D
          rw [O.den] at z
          exact y_call _ _ _ _ _ _ _ _ _ _ _ _ _ hnb (y_code _ _ _ _ _ _ z)
        · exact (ok_bad o).elim
      · split at o
        · rename_i C f hc
          obtain ⟨hV, hF⟩ := popC_ok hc ho'
          split at o
          · split at o
            · rename_i hb
              split at o
              case h_2 => exact (ok_bad o).elim
              rename_i hhd
              obtain ⟨ec, o⟩ := ok_eqC o
              have hb' : C.room ≤ rm S c room := Nat.le_of_ble_eq_true hb
              have ha' : AOk C.room (((aroundK A κ).under c).mark none) := by
                rcases aok_rm O (c := c) (hd := none) ha with q | ⟨q1, q2⟩
                · exact .inl (by lia)
                · by_cases q : C.room = 0
                  · exact .inl q
                  · exact .inr ⟨by lia, by lia⟩
              have hh' : (((aroundK A κ).under c).mark none).handled = none := by
                show (aroundK A κ).handled = none
                rw [handled_is hA κ, hhd]
              refine y_call _ _ _ _ _ _ _ _ _ _ _ _ _ (by intro e; cases e) ?_
              rw [ec]
              exact cut_ok O hV D o ha' hh' fun x own' ro' h' hp' o' D' => IH _ _ _ _ _ _ _ _ _ h' o' (hF x hp') ha hk D'
            · exact (ok_bad o).elim
          · exact (ok_bad o).elim
        · exact (ok_bad o).elim
    · exact (ok_bad o).elim
  | stack k =>
    simp only [stepT] at o
    split at o
    · rename_i Φ H' hp
      have ho' := popS_ok hp ho
      split at o
      · exact (ok_bad o).elim
      · rename_i r
        obtain ⟨ek, o2⟩ := ok_eqK o
        clear o
        subst ek
        have z := IH _ _ _ _ _ _ _ _ _ h o2 ho' ha hk D
        refine y_stack _ _ _ _ _ _ _ _ _ fun p below L => ?_
        have hu : (((c, p) :: below).map (·.1.cUnits)).sum < cLine := by
          refine Nat.lt_of_le_of_lt L.units ?_
          have hc : ((aroundK A κ).under c).units ≤ (aroundK A κ).units + 10 := Nat.add_le_add_left (cUnits_le c) _
          rcases ha with q | ⟨_, q2⟩
          · cases q
          · show _ < 9900
            lia
        rw [condT_is hu]
        exact z
    · exact (ok_bad o).elim
  | unsupported => exact (ok_bad o).elim
  | finish => exact (ok_bad o).elim
  | register => exact (ok_bad o).elim
  | choose => exact (ok_bad o).elim
  | os => exact (ok_bad o).elim
  | newGen => exact (ok_bad o).elim
  | genState => exact (ok_bad o).elim
  | resume => exact (ok_bad o).elim
  | yield => exact (ok_bad o).elim
  | fork => exact (ok_bad o).elim
  | thread => exact (ok_bad o).elim
  | await => exact (ok_bad o).elim

theorem run_sound : ∀ fuel H room c κ t own ro n tk h, (run S fuel H room c κ t own ro n tk).Ok → HOk (Ctr.Valid prog w S.kt) (OutOk h₀ own₀ nro g d os R) H → AOk room (aroundK A κ) → roomK A κ → Rp S.kt h₀ own₀ nro own ro n h →
      wpOwn (model prog w) (aroundK A κ) c t (postC prog w (aroundK A κ) (endK prog w A R κ)) (postE (endK prog w A R κ)) ⟨h, g, d, tk, os⟩
  | 0 => fun _ _ _ _ _ _ _ _ _ _ o _ _ _ _ => (ok_bad o).elim
  | n + 1 => step_sound O hA (run S n) (run_sound n)
end
/-! the program's own objects, as the top leaves them -/
noncomputable def progZ : Program := PySem.Challenge.pw_pk0104_01
theorem progZ_eq : PySem.Challenge.pw_pk0104_01 = progZ := rfl
noncomputable def ent (P : Params) (l : List Nat) (t : Nat) (v : Value) : DictEntry := ⟨PyData.keyHash P ⟨⟨l⟩⟩, .str ⟨⟨l⟩⟩ t, v⟩
noncomputable def stm (j : Nat) : Stmt := match atL progZ.main.body j with
  | some s => s
  | none => .Pass default
noncomputable def meth (j : Nat) : Stmt := match stm 2 with
  | .ClassDef _ _ _ body _ _ _ _ _ _ _ => match atL body j with
    | some s => s
    | none => .Pass default
  | _ => .Pass default
noncomputable def dBody : Stmt → List Stmt
  | .FunctionDef _ _ b _ _ _ _ _ _ _ => b
  | _ => []
noncomputable def dScope : Stmt → Scope
  | .FunctionDef _ _ _ _ _ _ sc _ _ _ => sc
  | _ => default
noncomputable def dArgs : Stmt → Arguments
  | .FunctionDef _ a _ _ _ _ _ _ _ _ => a
  | _ => default
noncomputable def fdM (s : Stmt) (name qual : List Nat) (modn : List Nat) (modt code : Nat) : FuncData :=
  { name := ⟨⟨name⟩⟩, qualname := ⟨⟨qual⟩⟩, params := dArgs s, body := .stmts (dBody s), scope := dScope s, globals := 3, closure := [], defaults := .none, kwdefaults := .none,
    doc := .none, pyModule := .str ⟨⟨modn⟩⟩ modt, annotations := none, code := .ref code, closureTuple := .none, builtins := 0 }
noncomputable def fnO (fd : FuncData) : Obj := ⟨.type PySem.W.SL.s7174869446012820540x8, none, .func fd, #[]⟩
noncomputable def o3 (P : Params) : Obj := ⟨.type PySem.W.SL.s14018661285674007319x4, none, .dict ⟨[ent P [95, 95, 110, 97, 109, 101, 95, 95] 165 (.str ⟨⟨[108, 97, 119, 95, 112, 107, 48, 49, 48, 52, 95, 48, 49]⟩⟩ 350), ent P [95, 95, 100, 111, 99, 95, 95] 166 (.none), ent P [95, 95, 112, 97, 99, 107, 97, 103, 101, 95, 95] 167 (.none), ent P [95, 95, 108, 111, 97, 100, 101, 114, 95, 95] 168 (.builtin PySem.W.SL.s7097527257260152453x26), ent P [95, 95, 115, 112, 101, 99, 95, 95] 169 (.none), ent P [95, 95, 97, 110, 110, 111, 116, 97, 116, 105, 111, 110, 115, 95, 95] 170 (.ref 6), ent P [95, 95, 98, 117, 105, 108, 116, 105, 110, 115, 95, 95] 171 (.ref 4), ent P [95, 95, 102, 105, 108, 101, 95, 95] 173 (.str ⟨⟨[47, 99, 108, 97, 105, 109, 47, 99, 117, 116, 46, 112, 121]⟩⟩ 172), ent P [95, 95, 99, 97, 99, 104, 101, 100, 95, 95] 174 (.none), ent P [95, 119, 97, 108, 108] 193 (.ref 21), ent P [87, 104, 105, 116, 101, 115, 112, 97, 99, 101] 295 (.ref 83), ent P [115, 112, 108, 105, 116, 100, 111, 99] 305 (.ref 94), ent P [114, 101, 112, 108, 97, 99, 101] 313 (.ref 101), ent P [95, 77, 65, 88, 95, 83, 84, 82, 73, 78, 71, 95, 83, 73, 90, 69] 317 (.int 40 316), ent P [95, 77, 79, 86, 69, 95, 67, 79, 83, 84] 319 (.int 2 318), ent P [95, 67, 65, 83, 69, 95, 67, 79, 83, 84] 321 (.int 1 320), ent P [95, 115, 117, 98, 115, 116, 105, 116, 117, 116, 105, 111, 110, 95, 99, 111, 115, 116] 329 (.ref 108), ent P [95, 108, 101, 118, 101, 110, 115, 104, 116, 101, 105, 110, 95, 100, 105, 115, 116, 97, 110, 99, 101] 349 (.ref 115), ent P [95, 108, 97, 119, 95, 108, 101, 97, 100] 361 (.ref 122), ent P [95, 108, 97, 119, 95, 99, 111, 108, 117, 109, 110, 115] 372 (.ref 129), ent P [95, 108, 97, 119, 95, 114, 101, 97, 100] 382 (.ref 136), ent P [95, 108, 97, 119, 95, 97, 98, 111, 118, 101] 391 (.ref 143), ent P [95, 108, 97, 119, 95, 111, 117, 116, 108, 105, 110, 101] 404 (.ref 150), ent P [95, 108, 97, 119, 95, 115, 104, 97, 114, 101, 100] 410 (.ref 155), ent P [95, 108, 97, 119, 95, 103, 114, 101, 97, 116] 416 (.ref 160), ent P [108, 97, 119] 422 (.ref 165)]⟩ 26, #[]⟩
noncomputable def o82 (P : Params) : Obj := ⟨.type PySem.W.SL.s14018661285674007319x4, none, .dict ⟨[ent P [95, 95, 109, 111, 100, 117, 108, 101, 95, 95] 203 (.str ⟨⟨[99, 112, 121, 51, 49, 51, 46, 116, 97, 98, 110, 97, 110, 110, 121]⟩⟩ 194), ent P [95, 95, 102, 105, 114, 115, 116, 108, 105, 110, 101, 110, 111, 95, 95] 207 (.int 5 206), ent P [83] 211 (.str ⟨⟨[32]⟩⟩ 209), ent P [84] 212 (.str ⟨⟨[9]⟩⟩ 210), ent P [95, 95, 105, 110, 105, 116, 95, 95] 227 (.ref 38), ent P [108, 111, 110, 103, 101, 115, 116, 95, 114, 117, 110, 95, 111, 102, 95, 115, 112, 97, 99, 101, 115] 236 (.ref 45), ent P [105, 110, 100, 101, 110, 116, 95, 108, 101, 118, 101, 108] 248 (.ref 52), ent P [101, 113, 117, 97, 108] 256 (.ref 59), ent P [110, 111, 116, 95, 101, 113, 117, 97, 108, 95, 119, 105, 116, 110, 101, 115, 115] 264 (.ref 66), ent P [108, 101, 115, 115] 274 (.ref 73), ent P [110, 111, 116, 95, 108, 101, 115, 115, 95, 119, 105, 116, 110, 101, 115, 115] 282 (.ref 80), ent P [95, 95, 115, 116, 97, 116, 105, 99, 95, 97, 116, 116, 114, 105, 98, 117, 116, 101, 115, 95, 95] 288 (.ref 81), ent P [95, 95, 100, 105, 99, 116, 95, 95] 290 (.ref 84), ent P [95, 95, 119, 101, 97, 107, 114, 101, 102, 95, 95] 292 (.ref 85), ent P [95, 95, 100, 111, 99, 95, 95] 293 (.none)]⟩ 4, #[]⟩
noncomputable def o37 : Obj := ⟨.type PySem.W.SL.s5856160107412720595x4, none, .fields ⟨[.str ⟨⟨[95, 95, 105, 110, 105, 116, 95, 95]⟩⟩ 213, .str ⟨⟨[87, 104, 105, 116, 101, 115, 112, 97, 99, 101, 46, 95, 95, 105, 110, 105, 116, 95, 95]⟩⟩ 214, .str ⟨⟨[47, 99, 108, 97, 105, 109, 47, 99, 117, 116, 46, 112, 121]⟩⟩ 215, .int 8 0, .int 2 0, .int 0 0, .int 0 0, .int 3 0, .ref 32, .bool true, .int 181 0, .ref 33, .none, .ref 34, .ref 35, .ref 36, .int 225 0, .int 8 0, .str ⟨⟨[47, 99, 108, 97, 105, 109, 47, 99, 117, 116, 46, 112, 121]⟩⟩ 226]⟩, #[]⟩
noncomputable def o44 : Obj := ⟨.type PySem.W.SL.s5856160107412720595x4, none, .fields ⟨[.str ⟨⟨[108, 111, 110, 103, 101, 115, 116, 95, 114, 117, 110, 95, 111, 102, 95, 115, 112, 97, 99, 101, 115]⟩⟩ 228, .str ⟨⟨[87, 104, 105, 116, 101, 115, 112, 97, 99, 101, 46, 108, 111, 110, 103, 101, 115, 116, 95, 114, 117, 110, 95, 111, 102, 95, 115, 112, 97, 99, 101, 115]⟩⟩ 229, .str ⟨⟨[47, 99, 108, 97, 105, 109, 47, 99, 117, 116, 46, 112, 121]⟩⟩ 230, .int 31 0, .int 1 0, .int 0 0, .int 0 0, .int 3 0, .ref 39, .bool true, .int 181 0, .ref 40, .none, .ref 41, .ref 42, .ref 43, .int 234 0, .int 31 0, .str ⟨⟨[47, 99, 108, 97, 105, 109, 47, 99, 117, 116, 46, 112, 121]⟩⟩ 235]⟩, #[]⟩
noncomputable def o51 : Obj := ⟨.type PySem.W.SL.s5856160107412720595x4, none, .fields ⟨[.str ⟨⟨[105, 110, 100, 101, 110, 116, 95, 108, 101, 118, 101, 108]⟩⟩ 237, .str ⟨⟨[87, 104, 105, 116, 101, 115, 112, 97, 99, 101, 46, 105, 110, 100, 101, 110, 116, 95, 108, 101, 118, 101, 108]⟩⟩ 238, .str ⟨⟨[47, 99, 108, 97, 105, 109, 47, 99, 117, 116, 46, 112, 121]⟩⟩ 239, .int 35 0, .int 2 0, .int 0 0, .int 0 0, .int 3 0, .ref 46, .bool true, .int 181 0, .ref 47, .none, .ref 48, .ref 49, .ref 50, .int 246 0, .int 35 0, .str ⟨⟨[47, 99, 108, 97, 105, 109, 47, 99, 117, 116, 46, 112, 121]⟩⟩ 247]⟩, #[]⟩
noncomputable def o72 : Obj := ⟨.type PySem.W.SL.s5856160107412720595x4, none, .fields ⟨[.str ⟨⟨[108, 101, 115, 115]⟩⟩ 265, .str ⟨⟨[87, 104, 105, 116, 101, 115, 112, 97, 99, 101, 46, 108, 101, 115, 115]⟩⟩ 266, .str ⟨⟨[47, 99, 108, 97, 105, 109, 47, 99, 117, 116, 46, 112, 121]⟩⟩ 267, .int 48 0, .int 2 0, .int 0 0, .int 0 0, .int 3 0, .ref 67, .bool true, .int 181 0, .ref 68, .none, .ref 69, .ref 70, .ref 71, .int 272 0, .int 48 0, .str ⟨⟨[47, 99, 108, 97, 105, 109, 47, 99, 117, 116, 46, 112, 121]⟩⟩ 273]⟩, #[]⟩
noncomputable def o93 : Obj := ⟨.type PySem.W.SL.s5856160107412720595x4, none, .fields ⟨[.str ⟨⟨[115, 112, 108, 105, 116, 100, 111, 99]⟩⟩ 298, .str ⟨⟨[115, 112, 108, 105, 116, 100, 111, 99]⟩⟩ 299, .str ⟨⟨[47, 99, 108, 97, 105, 109, 47, 99, 117, 116, 46, 112, 121]⟩⟩ 300, .int 62 0, .int 1 0, .int 0 0, .int 0 0, .int 3 0, .ref 88, .bool true, .int 181 0, .ref 89, .none, .ref 90, .ref 91, .ref 92, .int 303 0, .int 62 0, .str ⟨⟨[47, 99, 108, 97, 105, 109, 47, 99, 117, 116, 46, 112, 121]⟩⟩ 304]⟩, #[]⟩
noncomputable def o100 : Obj := ⟨.type PySem.W.SL.s5856160107412720595x4, none, .fields ⟨[.str ⟨⟨[114, 101, 112, 108, 97, 99, 101]⟩⟩ 306, .str ⟨⟨[114, 101, 112, 108, 97, 99, 101]⟩⟩ 307, .str ⟨⟨[47, 99, 108, 97, 105, 109, 47, 99, 117, 116, 46, 112, 121]⟩⟩ 308, .int 69 0, .int 1 0, .int 0 0, .int 0 0, .int 7 0, .ref 95, .bool true, .int 181 0, .ref 96, .none, .ref 97, .ref 98, .ref 99, .int 311 0, .int 69 0, .str ⟨⟨[47, 99, 108, 97, 105, 109, 47, 99, 117, 116, 46, 112, 121]⟩⟩ 312]⟩, #[]⟩
noncomputable def o107 : Obj := ⟨.type PySem.W.SL.s5856160107412720595x4, none, .fields ⟨[.str ⟨⟨[95, 115, 117, 98, 115, 116, 105, 116, 117, 116, 105, 111, 110, 95, 99, 111, 115, 116]⟩⟩ 322, .str ⟨⟨[95, 115, 117, 98, 115, 116, 105, 116, 117, 116, 105, 111, 110, 95, 99, 111, 115, 116]⟩⟩ 323, .str ⟨⟨[47, 99, 108, 97, 105, 109, 47, 99, 117, 116, 46, 112, 121]⟩⟩ 324, .int 78 0, .int 2 0, .int 0 0, .int 0 0, .int 3 0, .ref 102, .bool true, .int 181 0, .ref 103, .none, .ref 104, .ref 105, .ref 106, .int 327 0, .int 78 0, .str ⟨⟨[47, 99, 108, 97, 105, 109, 47, 99, 117, 116, 46, 112, 121]⟩⟩ 328]⟩, #[]⟩
noncomputable def o114 : Obj := ⟨.type PySem.W.SL.s5856160107412720595x4, none, .fields ⟨[.str ⟨⟨[95, 108, 101, 118, 101, 110, 115, 104, 116, 101, 105, 110, 95, 100, 105, 115, 116, 97, 110, 99, 101]⟩⟩ 330, .str ⟨⟨[95, 108, 101, 118, 101, 110, 115, 104, 116, 101, 105, 110, 95, 100, 105, 115, 116, 97, 110, 99, 101]⟩⟩ 331, .str ⟨⟨[47, 99, 108, 97, 105, 109, 47, 99, 117, 116, 46, 112, 121]⟩⟩ 332, .int 84 0, .int 3 0, .int 0 0, .int 0 0, .int 3 0, .ref 109, .bool true, .int 181 0, .ref 110, .none, .ref 111, .ref 112, .ref 113, .int 347 0, .int 84 0, .str ⟨⟨[47, 99, 108, 97, 105, 109, 47, 99, 117, 116, 46, 112, 121]⟩⟩ 348]⟩, #[]⟩
noncomputable def o121 : Obj := ⟨.type PySem.W.SL.s5856160107412720595x4, none, .fields ⟨[.str ⟨⟨[95, 108, 97, 119, 95, 108, 101, 97, 100]⟩⟩ 352, .str ⟨⟨[95, 108, 97, 119, 95, 108, 101, 97, 100]⟩⟩ 353, .str ⟨⟨[47, 99, 108, 97, 105, 109, 47, 99, 117, 116, 46, 112, 121]⟩⟩ 354, .int 123 0, .int 1 0, .int 0 0, .int 0 0, .int 3 0, .ref 116, .bool true, .int 181 0, .ref 117, .none, .ref 118, .ref 119, .ref 120, .int 359 0, .int 123 0, .str ⟨⟨[47, 99, 108, 97, 105, 109, 47, 99, 117, 116, 46, 112, 121]⟩⟩ 360]⟩, #[]⟩
noncomputable def o128 : Obj := ⟨.type PySem.W.SL.s5856160107412720595x4, none, .fields ⟨[.str ⟨⟨[95, 108, 97, 119, 95, 99, 111, 108, 117, 109, 110, 115]⟩⟩ 362, .str ⟨⟨[95, 108, 97, 119, 95, 99, 111, 108, 117, 109, 110, 115]⟩⟩ 363, .str ⟨⟨[47, 99, 108, 97, 105, 109, 47, 99, 117, 116, 46, 112, 121]⟩⟩ 364, .int 130 0, .int 1 0, .int 0 0, .int 0 0, .int 3 0, .ref 123, .bool true, .int 181 0, .ref 124, .none, .ref 125, .ref 126, .ref 127, .int 370 0, .int 130 0, .str ⟨⟨[47, 99, 108, 97, 105, 109, 47, 99, 117, 116, 46, 112, 121]⟩⟩ 371]⟩, #[]⟩
noncomputable def o135 : Obj := ⟨.type PySem.W.SL.s5856160107412720595x4, none, .fields ⟨[.str ⟨⟨[95, 108, 97, 119, 95, 114, 101, 97, 100]⟩⟩ 373, .str ⟨⟨[95, 108, 97, 119, 95, 114, 101, 97, 100]⟩⟩ 374, .str ⟨⟨[47, 99, 108, 97, 105, 109, 47, 99, 117, 116, 46, 112, 121]⟩⟩ 375, .int 138 0, .int 1 0, .int 0 0, .int 0 0, .int 3 0, .ref 130, .bool true, .int 181 0, .ref 131, .none, .ref 132, .ref 133, .ref 134, .int 380 0, .int 138 0, .str ⟨⟨[47, 99, 108, 97, 105, 109, 47, 99, 117, 116, 46, 112, 121]⟩⟩ 381]⟩, #[]⟩
noncomputable def o142 : Obj := ⟨.type PySem.W.SL.s5856160107412720595x4, none, .fields ⟨[.str ⟨⟨[95, 108, 97, 119, 95, 97, 98, 111, 118, 101]⟩⟩ 383, .str ⟨⟨[95, 108, 97, 119, 95, 97, 98, 111, 118, 101]⟩⟩ 384, .str ⟨⟨[47, 99, 108, 97, 105, 109, 47, 99, 117, 116, 46, 112, 121]⟩⟩ 385, .int 145 0, .int 3 0, .int 0 0, .int 0 0, .int 3 0, .ref 137, .bool true, .int 181 0, .ref 138, .none, .ref 139, .ref 140, .ref 141, .int 389 0, .int 145 0, .str ⟨⟨[47, 99, 108, 97, 105, 109, 47, 99, 117, 116, 46, 112, 121]⟩⟩ 390]⟩, #[]⟩
noncomputable def o149 : Obj := ⟨.type PySem.W.SL.s5856160107412720595x4, none, .fields ⟨[.str ⟨⟨[95, 108, 97, 119, 95, 111, 117, 116, 108, 105, 110, 101]⟩⟩ 392, .str ⟨⟨[95, 108, 97, 119, 95, 111, 117, 116, 108, 105, 110, 101]⟩⟩ 393, .str ⟨⟨[47, 99, 108, 97, 105, 109, 47, 99, 117, 116, 46, 112, 121]⟩⟩ 394, .int 149 0, .int 2 0, .int 0 0, .int 0 0, .int 3 0, .ref 144, .bool true, .int 181 0, .ref 145, .none, .ref 146, .ref 147, .ref 148, .int 402 0, .int 149 0, .str ⟨⟨[47, 99, 108, 97, 105, 109, 47, 99, 117, 116, 46, 112, 121]⟩⟩ 403]⟩, #[]⟩
noncomputable def o154 : Obj := ⟨.type PySem.W.SL.s5856160107412720595x4, none, .fields ⟨[.str ⟨⟨[95, 108, 97, 119, 95, 115, 104, 97, 114, 101, 100]⟩⟩ 405, .str ⟨⟨[95, 108, 97, 119, 95, 115, 104, 97, 114, 101, 100]⟩⟩ 406, .str ⟨⟨[47, 99, 108, 97, 105, 109, 47, 99, 117, 116, 46, 112, 121]⟩⟩ 407, .int 160 0, .int 2 0, .int 0 0, .int 0 0, .int 3 0, .ref 151, .bool true, .int 181 0, .ref 152, .none, .none, .none, .ref 153, .int 408 0, .int 160 0, .str ⟨⟨[47, 99, 108, 97, 105, 109, 47, 99, 117, 116, 46, 112, 121]⟩⟩ 409]⟩, #[]⟩
noncomputable def o159 : Obj := ⟨.type PySem.W.SL.s5856160107412720595x4, none, .fields ⟨[.str ⟨⟨[95, 108, 97, 119, 95, 103, 114, 101, 97, 116]⟩⟩ 411, .str ⟨⟨[95, 108, 97, 119, 95, 103, 114, 101, 97, 116]⟩⟩ 412, .str ⟨⟨[47, 99, 108, 97, 105, 109, 47, 99, 117, 116, 46, 112, 121]⟩⟩ 413, .int 169 0, .int 1 0, .int 0 0, .int 0 0, .int 3 0, .ref 156, .bool true, .int 181 0, .ref 157, .none, .none, .none, .ref 158, .int 414 0, .int 169 0, .str ⟨⟨[47, 99, 108, 97, 105, 109, 47, 99, 117, 116, 46, 112, 121]⟩⟩ 415]⟩, #[]⟩
noncomputable def o164 : Obj := ⟨.type PySem.W.SL.s5856160107412720595x4, none, .fields ⟨[.str ⟨⟨[108, 97, 119]⟩⟩ 417, .str ⟨⟨[108, 97, 119]⟩⟩ 418, .str ⟨⟨[47, 99, 108, 97, 105, 109, 47, 99, 117, 116, 46, 112, 121]⟩⟩ 419, .int 171 0, .int 1 0, .int 0 0, .int 0 0, .int 3 0, .ref 161, .bool true, .int 181 0, .ref 162, .none, .none, .none, .ref 163, .int 420 0, .int 171 0, .str ⟨⟨[47, 99, 108, 97, 105, 109, 47, 99, 117, 116, 46, 112, 121]⟩⟩ 421]⟩, #[]⟩
noncomputable def fd38 : FuncData := fdM (meth 1) [95, 95, 105, 110, 105, 116, 95, 95] [87, 104, 105, 116, 101, 115, 112, 97, 99, 101, 46, 95, 95, 105, 110, 105, 116, 95, 95] [99, 112, 121, 51, 49, 51, 46, 116, 97, 98, 110, 97, 110, 110, 121] 194 37
noncomputable def fd45 : FuncData := fdM (meth 2) [108, 111, 110, 103, 101, 115, 116, 95, 114, 117, 110, 95, 111, 102, 95, 115, 112, 97, 99, 101, 115] [87, 104, 105, 116, 101, 115, 112, 97, 99, 101, 46, 108, 111, 110, 103, 101, 115, 116, 95, 114, 117, 110, 95, 111, 102, 95, 115, 112, 97, 99, 101, 115] [99, 112, 121, 51, 49, 51, 46, 116, 97, 98, 110, 97, 110, 110, 121] 194 44
noncomputable def fd52 : FuncData := fdM (meth 3) [105, 110, 100, 101, 110, 116, 95, 108, 101, 118, 101, 108] [87, 104, 105, 116, 101, 115, 112, 97, 99, 101, 46, 105, 110, 100, 101, 110, 116, 95, 108, 101, 118, 101, 108] [99, 112, 121, 51, 49, 51, 46, 116, 97, 98, 110, 97, 110, 110, 121] 194 51
noncomputable def fd73 : FuncData := fdM (meth 6) [108, 101, 115, 115] [87, 104, 105, 116, 101, 115, 112, 97, 99, 101, 46, 108, 101, 115, 115] [99, 112, 121, 51, 49, 51, 46, 116, 97, 98, 110, 97, 110, 110, 121] 194 72
noncomputable def fd94 : FuncData := fdM (stm 4) [115, 112, 108, 105, 116, 100, 111, 99] [115, 112, 108, 105, 116, 100, 111, 99] [99, 112, 121, 51, 49, 51, 46, 112, 121, 100, 111, 99] 296 93
noncomputable def fd101 : FuncData := fdM (stm 5) [114, 101, 112, 108, 97, 99, 101] [114, 101, 112, 108, 97, 99, 101] [99, 112, 121, 51, 49, 51, 46, 112, 121, 100, 111, 99] 296 100
noncomputable def fd108 : FuncData := fdM (stm 10) [95, 115, 117, 98, 115, 116, 105, 116, 117, 116, 105, 111, 110, 95, 99, 111, 115, 116] [95, 115, 117, 98, 115, 116, 105, 116, 117, 116, 105, 111, 110, 95, 99, 111, 115, 116] [99, 112, 121, 51, 49, 51, 46, 116, 114, 97, 99, 101, 98, 97, 99, 107] 314 107
noncomputable def fd115 : FuncData := fdM (stm 11) [95, 108, 101, 118, 101, 110, 115, 104, 116, 101, 105, 110, 95, 100, 105, 115, 116, 97, 110, 99, 101] [95, 108, 101, 118, 101, 110, 115, 104, 116, 101, 105, 110, 95, 100, 105, 115, 116, 97, 110, 99, 101] [99, 112, 121, 51, 49, 51, 46, 116, 114, 97, 99, 101, 98, 97, 99, 107] 314 114
noncomputable def fd122 : FuncData := fdM (stm 13) [95, 108, 97, 119, 95, 108, 101, 97, 100] [95, 108, 97, 119, 95, 108, 101, 97, 100] [108, 97, 119, 95, 112, 107, 48, 49, 48, 52, 95, 48, 49] 350 121
noncomputable def fd129 : FuncData := fdM (stm 14) [95, 108, 97, 119, 95, 99, 111, 108, 117, 109, 110, 115] [95, 108, 97, 119, 95, 99, 111, 108, 117, 109, 110, 115] [108, 97, 119, 95, 112, 107, 48, 49, 48, 52, 95, 48, 49] 350 128
noncomputable def fd136 : FuncData := fdM (stm 15) [95, 108, 97, 119, 95, 114, 101, 97, 100] [95, 108, 97, 119, 95, 114, 101, 97, 100] [108, 97, 119, 95, 112, 107, 48, 49, 48, 52, 95, 48, 49] 350 135
noncomputable def fd143 : FuncData := fdM (stm 16) [95, 108, 97, 119, 95, 97, 98, 111, 118, 101] [95, 108, 97, 119, 95, 97, 98, 111, 118, 101] [108, 97, 119, 95, 112, 107, 48, 49, 48, 52, 95, 48, 49] 350 142
noncomputable def fd150 : FuncData := fdM (stm 17) [95, 108, 97, 119, 95, 111, 117, 116, 108, 105, 110, 101] [95, 108, 97, 119, 95, 111, 117, 116, 108, 105, 110, 101] [108, 97, 119, 95, 112, 107, 48, 49, 48, 52, 95, 48, 49] 350 149
noncomputable def fd155 : FuncData := fdM (stm 18) [95, 108, 97, 119, 95, 115, 104, 97, 114, 101, 100] [95, 108, 97, 119, 95, 115, 104, 97, 114, 101, 100] [108, 97, 119, 95, 112, 107, 48, 49, 48, 52, 95, 48, 49] 350 154
noncomputable def fd160 : FuncData := fdM (stm 19) [95, 108, 97, 119, 95, 103, 114, 101, 97, 116] [95, 108, 97, 119, 95, 103, 114, 101, 97, 116] [108, 97, 119, 95, 112, 107, 48, 49, 48, 52, 95, 48, 49] 350 159
noncomputable def fd165 : FuncData := fdM (stm 20) [108, 97, 119] [108, 97, 119] [108, 97, 119, 95, 112, 107, 48, 49, 48, 52, 95, 48, 49] 350 164
noncomputable def o83 : Obj := ⟨.type PySem.W.SL.s17162191345867700912x4, none, .cls { name := ⟨⟨[87, 104, 105, 116, 101, 115, 112, 97, 99, 101]⟩⟩, bases := [.type PySem.W.SL.s2742458400755230247x6], mro := [.ref 83, .type PySem.W.SL.s2742458400755230247x6], ns := 82, qualname := ⟨⟨[87, 104, 105, 116, 101, 115, 112, 97, 99, 101]⟩⟩, hasDict := true, slotNames := [], subclasses := [], abstract := false, collection := none, hasDel := false }, ⟨[none, none, some (.str ⟨⟨[87, 104, 105, 116, 101, 115, 112, 97, 99, 101]⟩⟩ 196), some (.str ⟨⟨[87, 104, 105, 116, 101, 115, 112, 97, 99, 101]⟩⟩ 204), some (.builtin PySem.W.SL.s11443829558043349243x14), some (.bool true)]⟩⟩
noncomputable def kt (P : Params) : KT := .node (some (PySem.W.boot_o_0 P)) (.node none (.node (some (o3 P)) (.node none (.node none (.node none .nil (.node none (.node (some (o159)) .nil .nil) .nil)) (.node none (.node none (.node (some (fnO fd143)) .nil .nil) .nil) .nil)) (.node none (.node none (.node none (.node (some (o135)) .nil .nil) .nil) .nil) .nil)) (.node none (.node none .nil (.node (some (o51)) (.node (some (o83)) .nil .nil) (.node (some (fnO fd115)) .nil .nil))) (.node none (.node none .nil (.node (some (o107)) .nil .nil)) (.node none (.node none (.node (some (fnO fd155)) .nil .nil) .nil) .nil)))) (.node none (.node none (.node none (.node none (.node none (.node (some (fnO fd129)) .nil .nil) .nil) .nil) .nil) (.node none (.node none (.node (some (fnO fd73)) .nil .nil) .nil) (.node none .nil (.node (some (o121)) .nil .nil)))) (.node none (.node none (.node (some (o37)) .nil (.node (some (fnO fd101)) (.node (some (fnO fd165)) .nil .nil) .nil)) (.node none (.node none (.node (some (o149)) .nil .nil) .nil) .nil)) (.node none (.node (some (fnO fd45)) .nil .nil) (.node none (.node (some (o93)) .nil .nil) .nil))))) (.node (some (PySem.W.boot_o_2 P)) (.node none (.node none (.node none (.node none (.node none (.node (some (o128)) .nil .nil) .nil) (.node none (.node (some (fnO fd160)) .nil .nil) .nil)) .nil) (.node none (.node none (.node (some (o72)) (.node (some (fnO fd136)) .nil .nil) .nil) .nil) .nil)) (.node none (.node none (.node none .nil (.node (some (o100)) (.node (some (o164)) .nil .nil) .nil)) (.node (some (fnO fd52)) .nil .nil)) (.node none (.node (some (o44)) .nil (.node (some (fnO fd108)) .nil .nil)) .nil))) (.node none (.node none (.node none .nil (.node none (.node (some (o82 P)) .nil .nil) (.node (some (o114)) .nil .nil))) (.node none .nil (.node none (.node none (.node (some (o154)) .nil .nil) .nil) (.node (some (fnO fd122)) .nil .nil)))) (.node none (.node none (.node (some (fnO fd38)) .nil .nil) (.node none (.node none (.node (some (fnO fd150)) .nil .nil) .nil) .nil)) (.node none (.node none (.node none (.node (some (o142)) .nil .nil) .nil) .nil) (.node none (.node (some (fnO fd94)) .nil .nil) .nil)))))
noncomputable def baseAs : List Nat := [0, 2, 3, 37, 38, 44, 45, 51, 52, 72, 73, 82, 83, 93, 94, 100, 101, 107, 108, 114, 115, 121, 122, 128, 129, 135, 136, 142, 143, 149, 150, 154, 155, 159, 160, 164, 165]
/-! the world: two of its rows as letters -/
noncomputable def folw (b1 b2 : Bool) (f : String → Bool) (s : String) : Bool :=
  @Bool.rec (fun _ => Bool) (@Bool.rec (fun _ => Bool) (f s) b2 (Nat.beq (PySem.W.S.codeS s) 2510650655181157320538776789020469319833841985448949215332)) b1 (Nat.beq (PySem.W.S.codeS s) 10139888712337904147300001983332972444938612)
noncomputable def parOf (P : Params) (b1 b2 : Bool) : Params := { P with followText := folw b1 b2 P.followText }
noncomputable def wOf (w : World) (b1 b2 : Bool) : World := { w with params := parOf w.params b1 b2 }
theorem folw_eq (f : String → Bool) : folw (f "special-get-raises") (f "comprehension-iter-twice") f = f := by
  have c1 : PySem.code "special-get-raises" = 10139888712337904147300001983332972444938612 := by decide +kernel
  have c2 : PySem.code "comprehension-iter-twice" = 2510650655181157320538776789020469319833841985448949215332 := by decide +kernel
  funext s
  unfold folw
  cases h : Nat.beq (PySem.W.S.codeS s) 10139888712337904147300001983332972444938612 with
  | true =>
    have := Nat.eq_of_beq_eq_true h
    rw [← c1, ← PySem.W.S.code_S] at this
    exact (congrArg f (PySem.code_inj _ _ this)).symm
  | false =>
    cases h2 : Nat.beq (PySem.W.S.codeS s) 2510650655181157320538776789020469319833841985448949215332 with
    | true =>
      have := Nat.eq_of_beq_eq_true h2
      rw [← c2, ← PySem.W.S.code_S] at this
      exact (congrArg f (PySem.code_inj _ _ this)).symm
    | false => rfl
theorem wOf_eq (w : World) : w = wOf w (w.params.followText "special-get-raises") (w.params.followText "comprehension-iter-twice") := by
  obtain ⟨dr, P⟩ := w
  show _ = ({ draws := dr, params := parOf P _ _ } : World)
  have : parOf P (P.followText "special-get-raises") (P.followText "comprehension-iter-twice") = P := by
    unfold parOf; rw [folw_eq]
  rw [this]

/-! the system -/
noncomputable def denF : Code → Sem PySem.Fin := Fast.tw11892475500146522536 Fast.tw14364793385576792824
theorem denF_eq : denF = denote table := by
  unfold denF
  rw [← Fast.te11892475500146522536, ← Fast.te14364793385576792824, PySem.table_eq_tree]
noncomputable def quietZ : Code → Bool := ZFast.zw17772548960776305114
theorem quietZ_eq : quietZ = Code.quiet := ZFast.ze17772548960776305114.symm
noncomputable def tcZ (s : String) : Bool := Nat.beq (PySem.W.S.codeS s) 7635746451779523968930960996981
theorem tcZ_ok (s : String) (h : tcZ s = true) : s = "type.__call__" := by
  have c1 : PySem.code "type.__call__" = 7635746451779523968930960996981 := by decide +kernel
  have := Nat.eq_of_beq_eq_true h
  rw [← c1, ← PySem.W.S.code_S] at this
  exact PySem.code_inj _ _ this
abbrev pw : Program := PySem.Challenge.pw_pk0104_01
noncomputable def sy (P : Params) : Sy := { den := denF, set := ⟨pw, P⟩, kt := kt P, quiet := quietZ, tc := tcZ }
theorem sy_ok (w : World) : SyOk pw w (sy w.params) := ⟨denF_eq, rfl, quietZ_eq, tcZ_ok⟩
end Mine
open PySem.W.ZRun
namespace Mine
/-! the top's run, checked at once: what it leaves at the addresses that the walk reads -/
noncomputable def pickB : List Stmt := [stm 0, stm 2, stm 4, stm 5, stm 7, stm 8, stm 9, stm 10, stm 11, stm 13, stm 14, stm 15, stm 16, stm 17, stm 18, stm 19, stm 20]
noncomputable def viewA : Program := { PySem.Challenge.pw_pk0104_01 with main := { PySem.Challenge.pw_pk0104_01.main with body := pickB } }
noncomputable def objA (P : Params) (a : Addr) : Obj := match (kt P).get a with
  | some o => o
  | none => ⟨.none, none, .plain, #[]⟩
noncomputable def kf (P : Params) : Frag := baseAs.map fun a => (a, objA P a)
theorem hl : LeftO PySem.Challenge.pw_pk0104_01 viewA [PySem.Str.ofString "Whitespace"] (fun s => xlAt viewA [] s && recOk [] s) (obsZ baseAs) (valZ kf 166 423) 2040 :=
  LeftO.of_split "special-get-raises" (fun w => by kernel_rfl)
theorem kf_keys (P : Params) : baseAs = (kf P).map (·.1) := by kernel_rfl

/-! trees that call nothing -/
noncomputable def step0 (S : Sy) {α : Type} (ih : HT → Sem α → List Cell → List Cell → Nat → Nat → (α → HT → List Cell → Nat → Nat → OT) → OT) (H : HT) (t : Sem α) (own ro : List Cell) (n tk : Nat) (kk : α → HT → List Cell → Nat → Nat → OT) : OT := match t with
  | .pure a => kk a H own n tk
  | .rule _ k => ih H (k ()) own ro n tk kk
  | .at _ k => ih H (k ()) own ro n tk kk
  | .point _ k => ih H (k ()) own ro n tk kk
  | .ask k => ih H (k S.set) own ro n tk kk
  | .load a _ k => match popH H with
    | some (h, H') => match h with
      | 0 => match S.kt.get a with
        | some o => ih H' (k o) own ro n tk kk
        | none => .bad 2
      | h + 1 => match place own ro (h + 1) with
        | some (a', o) => .eqN a a' (ih H' (k o) own ro n tk kk)
        | none => .bad 3
    | none => .bad 4
  | .alloc o k => match o.isFreed with
    | true => .bad 8
    | false => ih H (k n) (addL own [(n, o)]) ro (n + 1) tk kk
  | .update a _ f k => match popH H with
    | some (h, H') => match atL own h with
      | some (a', o) => match (f o).isFreed with
        | true => .bad 9
        | false => .eqN a a' (ih H' (k ()) (setL own h (a', f o)) ro n tk kk)
      | none => .bad 10
    | none => .bad 11
  | .fresh k => ih H (k tk) own ro n (tk + 1) kk
  | _ => .bad 30
noncomputable def run0 (S : Sy) {α : Type} (fuel : Nat) : HT → Sem α → List Cell → List Cell → Nat → Nat → (α → HT → List Cell → Nat → Nat → OT) → OT :=
  @Nat.rec (fun _ => HT → Sem α → List Cell → List Cell → Nat → Nat → (α → HT → List Cell → Nat → Nat → OT) → OT) (fun _ _ _ _ _ _ _ => .bad 0) (fun _ ih => step0 S ih) fuel

section
variable {prog : Program} {w : World} {S : Sy} (O : SyOk prog w S) {h₀ : Heap} {own₀ : List Addr} {nro : Nat} {g : Array GenState} {d : Drawn} {os : OsState} {α : Type} {V : Ctr → Prop} {P : Out → Prop} {A : Around} {Q : α → Shared → Prop} {E : Value → Shared → Prop} {ro : List Cell}
  {kk : α → HT → List Cell → Nat → Nat → OT} (hkk : ∀ a H own n tk h, (kk a H own n tk).Ok → HOk V P H → Rp S.kt h₀ own₀ nro own ro n h → Q a ⟨h, g, d, tk, os⟩)
include O hkk
theorem run0_sound : ∀ fuel H (t : Sem α) own n tk h, (run0 S fuel H t own ro n tk kk).Ok → HOk V P H → Rp S.kt h₀ own₀ nro own ro n h → wpAny (model prog w) A t Q E ⟨h, g, d, tk, os⟩
  | 0, _, _, _, _, _, _, o, _, _ => (ok_bad o).elim
  | fuel + 1, H, t, own, n, tk, h, o, ho, D => by
    have IH := run0_sound fuel
    have o' : (step0 S (run0 S fuel) H t own ro n tk kk).Ok := o
    clear o
    cases t with
    | pure a => exact wpAny_pure (hkk _ _ _ _ _ _ o' ho D)
    | rule tag k => exact x_rule (IH _ _ _ _ _ _ o' ho D)
    | «at» q k => exact x_at (IH _ _ _ _ _ _ o' ho D)
    | point l k => exact x_point (IH _ _ _ _ _ _ o' ho D)
    | ask k =>
      simp only [step0] at o'
      rw [O.set] at o'
      exact x_ask (IH _ _ _ _ _ _ o' ho D)
    | load a q k =>
      simp only [step0] at o'
      split at o'
      · rename_i hh H' hp
        have ho' := popH_ok hp ho
        split at o'
        · split at o'
          · rename_i ob e
            exact x_load (D.base e) (IH _ _ _ _ _ _ o' ho' D)
          · exact (ok_bad o').elim
        · split at o'
          · rename_i a' ob e
            obtain ⟨ea, o2⟩ := ok_eqN o'
            clear o'
            subst ea
            exact x_load (D.place e) (IH _ _ _ _ _ _ o2 ho' D)
          · exact (ok_bad o').elim
      · exact (ok_bad o').elim
    | alloc ob k =>
      simp only [step0] at o'
      split at o'
      · exact (ok_bad o').elim
      · rename_i hf
        rw [addL_eq] at o'
        have z := IH _ _ _ _ _ (h.push ob) o' ho (D.alloc hf)
        refine wpAny_bind (m := alloc ob) (f := k) (wpAny_alloc ?_)
        show wpAny _ _ (k h.objs.size) _ _ _
        rw [D.size]; exact z
    | update a q f k =>
      simp only [step0] at o'
      split at o'
      · rename_i hh H' hp
        have ho' := popH_ok hp ho
        split at o'
        · rename_i a' ob e
          split at o'
          · exact (ok_bad o').elim
          · rename_i hf
            obtain ⟨ea, o2⟩ := ok_eqN o'
            clear o'
            subst ea
            have z := IH _ _ _ _ _ _ o2 ho' (D.update e hf)
            exact wpAny_bind (m := updatePart a q f) (f := k) (wpAny_updatePart (D.hown _ (atL_mem e)) z)
        · exact (ok_bad o').elim
      · exact (ok_bad o').elim
    | fresh k => exact x_fresh (IH _ _ _ _ _ _ o' ho D)
    | _ => exact (ok_bad o').elim
end

/-! a call of a def -/
structure FnAt (kt : KT) (a : Addr) (fd : FuncData) (body : List Stmt) : Prop where
  o : ∃ o, kt.get a = some o ∧ o.data = .func fd
  body : fd.body = .stmts body
  co : fd.scope.isCoroutine = false
  ge : fd.scope.isGenerator = false
  cd : ∃ c oc vs t, fd.code = .ref c ∧ kt.get c = some oc ∧ oc.data = .fields vs ∧ vs[1]? = some (.str fd.qualname t)
  lim : kt.get 2 = some ⟨.none, none, .dict #[] 0, #[]⟩

noncomputable def bindF (fd : FuncData) (args : Args) : Sem (List (PySem.Str × Value)) := Fast.tw9782568553167038054 fd args
noncomputable def envF (fd : FuncData) (a : Addr) (binds : List (PySem.Str × Value)) : Sem Env := Fast.tw11113344188204177931 fd.scope fd.globals fd.closure binds (fd.qualname ++ ".<locals>.") (some a) fd.code none fd.builtins

noncomputable def runIn (S : Sy) (fuel : Nat) (H : HT) (room : Nat) (a : Addr) (fd : FuncData) (body : List Stmt) (args : Args) (own ro : List Cell) (n tk : Nat) : OT :=
  run0 S fuel H (bindF fd args) own ro n tk fun binds H own n tk =>
  run0 S fuel H (envF fd a binds) own ro n tk fun env H own n tk =>
  run S fuel H room (.func body env) .base (S.den (.func body env)) own ro n tk

theorem nolimit {kt : KT} {h : Heap} (K : kt.Holds h 1 0) (e : kt.get 2 = some ⟨.none, none, .dict #[] 0, #[]⟩) : h.NoLimit := by
  refine ⟨fun _ => none, ⟨_, #[], 0, kt_at K e, rfl, ?_, ?_⟩, rfl⟩
  · first | exact strKeys_nil | (intro e he; simp at he) | simp [StrKeys]
  · intro name; rfl

section
variable {prog : Program} {w : World} {S : Sy} (O : SyOk prog w S) {A : Around} (hA : A.handled = none) {R : Result → Shared → Prop} {h₀ : Heap} {own₀ : List Addr} {nro : Nat} {g : Array GenState} {d : Drawn} {os : OsState}
include O hA
theorem in_sound {fuel : Nat} {H : HT} {room : Nat} {a : Addr} {fd : FuncData} {body : List Stmt} {args : Args} {own ro : List Cell} {n tk : Nat} {h : Heap} (F : FnAt S.kt a fd body) (hr : 1 ≤ room) (ha : AOk room A)
    (o : (runIn S fuel H room a fd body args own ro n tk).Ok) (ho : HOk (Ctr.Valid prog w S.kt) (OutOk h₀ own₀ nro g d os R) H) (D : Rp S.kt h₀ own₀ nro own ro n h) :
    codeAny (model prog w) A (.call (.ref a) args) R ⟨h, g, d, tk, os⟩ := by
  obtain ⟨ob, eo, ed⟩ := F.o
  have hroom : A.depth < recursionLimit := by
    rcases ha with q | ⟨q, _⟩
    · lia
    · show A.depth < 1000; lia
  have hcd : h.CodeRec fd.code fd.qualname := by
    obtain ⟨c, oc, vs, t, e1, e2, e3, e4⟩ := F.cd
    exact ⟨c, oc, vs, t, e1, D.base e2, e3, e4⟩
  refine codeAny_call_function hroom (D.base eo) ed F.co F.ge F.body hcd ?_
  have e1 : bindArgs fd args = bindF fd args := by unfold bindF; rw [← Fast.te9782568553167038054]
  rw [e1]
  refine run0_sound O (α := List (PySem.Str × Value)) (V := Ctr.Valid prog w S.kt) (P := OutOk h₀ own₀ nro g d os R) (ro := ro) (fun binds H1 own1 n1 tk1 h1 o1 ho1 D1 => ?_) fuel H _ own n tk h o ho D
  have e2 : newFunctionEnv fd.scope fd.globals fd.closure binds (fd.qualname ++ ".<locals>.") (some a) fd.code none fd.builtins = envF fd a binds := by unfold envF; rw [← Fast.te11113344188204177931]
  rw [e2]
  refine run0_sound O (α := Env) (V := Ctr.Valid prog w S.kt) (P := OutOk h₀ own₀ nro g d os R) (ro := ro) (fun env H2 own2 n2 tk2 h2 o2 ho2 D2 => ?_) fuel H1 _ own1 n1 tk1 h1 o1 ho1 D1
  refine ⟨nolimit (holds_all fun a o e => D2.base e) F.lim, y_code _ _ _ _ _ _ ?_⟩
  have z := run_sound O hA fuel H2 room _ .base _ own2 ro n2 tk2 h2 o2 ho2 ha trivial D2
  rw [O.den] at z
  exact z
end

/-- the witnesses of a contract: the heap's size, the tokens, the rest -/
noncomputable def wit (y : Nat → Nat) (sz tk : Nat) : Nat → Nat
  | 0 => sz
  | 1 => tk
  | n + 2 => y (n + 2)

structure OutFor (C : Ctr) (o : Out) (y : Nat → Nat) (me ne : List (Nat × Cell)) : Prop where
  exp : o.exp = me ++ ne
  is : ∀ sz tk, C.post (wit y sz tk) ∧ o.res = C.res (wit y sz tk) ∧ (zipU C.mus (C.upd (wit y sz tk))).map (·.2) = me.map (·.2) ∧ C.new (wit y sz tk) = ne.map (·.2) ∧ (C.upd (wit y sz tk)).length = C.mus.length
  nw : ∀ e ∈ ne, newHint C.mus.length C.reads.length e.1 = true
noncomputable def OutF (C : Ctr) (o : Out) : Prop := ∃ y me ne, OutFor C o y me ne

section
variable {prog : Program} {w : World} {S : Sy} (O : SyOk prog w S) {C : Ctr}
theorem start_rp {h : Heap} (hk : S.kt.Holds h 1 0) (hrd : ∀ e ∈ C.reads, h.get? e.2.1 = some e.2.2 ∧ e.2.1 ∉ C.mus.map (·.2.1)) (hmu : ∀ e ∈ C.mus, h.get? e.2.1 = some e.2.2 ∧ ∀ o, S.kt.get e.2.1 ≠ some o) (hnd : (C.mus.map (·.2.1)).Nodup) :
    Rp S.kt h (C.mus.map (·.2.1)) C.reads.length (C.mus.map (·.2)) (C.reads.map (·.2)) h.objs.size h := by
  have mm : (C.mus.map (·.2)).map (·.1) = C.mus.map (·.2.1) := by rw [List.map_map]; rfl
  refine ⟨rfl, fun c q => ?_, fun c q => ?_, mm ▸ hnd, fun c q => ?_, fun _ _ e _ => e, fun a q => .inl (mm ▸ q), fun i c q hl => ?_, fun i c q hl => ?_, by rw [List.length_map, List.length_map]; exact Nat.le_refl _, by rw [List.length_map]; exact Nat.le_refl _, hk, fun a o e q => ?_⟩
  · obtain ⟨e, he, rfl⟩ := List.mem_map.mp q
    exact (hmu e he).1
  · obtain ⟨e, he, rfl⟩ := List.mem_map.mp q
    exact (hrd e he).1
  · obtain ⟨e, he, rfl⟩ := List.mem_map.mp q
    rw [mm]; exact (hrd e he).2
  · have := atL_lt q
    rw [List.length_map] at this hl
    lia
  · have := atL_lt q
    rw [List.length_map] at this
    lia
  · obtain ⟨e', he, rfl⟩ := List.mem_map.mp q
    exact (hmu e' he).2 o e
theorem out_ok {h : Heap} {g : Array GenState} {d : Drawn} {os : OsState} {R : Result → Shared → Prop} (hn : ∀ x, C.newO x = [])
    (K : ∀ x h', C.post x → After h h' C.mus (C.upd x) (C.newO x) (C.new x) → h'.objs.size = x 0 → R (C.res x) ⟨h', g, d, x 1, os⟩) :
    ∀ T : HT, HOk (Ctr.Valid prog w S.kt) (OutF C) T → HOk (Ctr.Valid prog w S.kt) (OutOk h (C.mus.map (·.2.1)) C.reads.length g d os R) T := by
  intro T
  induction T with
  | nil o =>
    intro ⟨y, me, ne, q⟩ h' tk' keep ex
    have z := q.is h'.objs.size tk'
    rw [z.2.1]
    rw [q.exp] at ex
    refine K (wit y h'.objs.size tk') h' z.1 ⟨fun b o e hb => keep b o e hb, z.2.2.2.2, ?_, ?_, ?_, ?_⟩ rfl
    · intro e he
      have : e.2 ∈ me.map (·.2) := by rw [← z.2.2.1]; exact List.mem_map_of_mem he
      obtain ⟨e', he', q'⟩ := List.mem_map.mp this
      rw [← q']; exact (ex e' (List.mem_append_left _ he')).1
    · rw [hn, z.2.2.2.1, List.nil_append]
      intro c hc
      obtain ⟨e, he, rfl⟩ := List.mem_map.mp hc
      have y := ex e (List.mem_append_right _ he)
      rw [List.length_map] at y
      exact ⟨y.2 (q.nw e he), y.1⟩
    · rw [hn]; exact List.nodup_nil
    · rw [hn]; exact fun _ _ q => (nomatch q)
  | go l r ih => exact ih
  | cut C' f ih => exact fun ⟨q1, q2⟩ => ⟨q1, fun x hx => ih x (q2 x hx)⟩
  | stk Φ r ih => exact ih
include O
theorem fn_valid {a : Addr} {fd : FuncData} {body : List Stmt} {args : Args} (F : FnAt S.kt a fd body) (hc : C.code = .call (.ref a) args) (hr : 1 ≤ C.room)
    (hn : ∀ x, C.newO x = []) (fuel : Nat) (H : Nat → Nat → HT)
    (hrun : ∀ n tk, (runIn S fuel (H n tk) C.room a fd body args (C.mus.map (·.2)) (C.reads.map (·.2)) n tk).Ok)
    (hH : ∀ n tk, HOk (Ctr.Valid prog w S.kt) (OutF C) (H n tk)) : C.Valid prog w S.kt := by
  intro A R s ha hA hk hrd hmu hnd K
  rw [hc]
  obtain ⟨h, g, d, tk, os⟩ := s
  exact in_sound O hA F hr ha (hrun h.objs.size tk) (out_ok hn K _ (hH _ _)) (start_rp hk hrd hmu hnd)
theorem code_valid (hn : ∀ x, C.newO x = []) (fuel : Nat) (H : Nat → Nat → HT)
    (hrun : ∀ n tk, (run S fuel (H n tk) C.room C.code .base (S.den C.code) (C.mus.map (·.2)) (C.reads.map (·.2)) n tk).Ok)
    (hH : ∀ n tk, HOk (Ctr.Valid prog w S.kt) (OutF C) (H n tk)) : C.Valid prog w S.kt := by
  intro A R s ha hA hk hrd hmu hnd K
  obtain ⟨h, g, d, tk, os⟩ := s
  have z := run_sound O hA fuel (H h.objs.size tk) C.room C.code .base _ _ _ _ tk h (hrun h.objs.size tk) (out_ok hn K _ (hH _ _)) ha trivial (start_rp hk hrd hmu hnd)
  rw [O.den] at z
  exact y_code _ _ _ _ _ _ z
end

/-! built-ins that change nothing but the tokens -/
noncomputable def cB (id : String) (args : List Value) (res : Nat → Value) : Ctr := { code := .call (.builtin id) ⟨args, []⟩, res := fun x => .ok (.ret (res (x 2))) }
noncomputable def MadeIs (m : Made) (res : Nat → Value) : Prop := match m with
  | .val v => ∃ t, res t = v
  | .int i => ∀ t, res t = .int i t
  | .str x => x.length ≤ sizeLine ∧ ∀ t, res t = .str x t
  | _ => False
theorem after_same (h : Heap) : After h h [] [] [] [] := ⟨fun _ _ e _ => e, rfl, fun _ q => (nomatch q), fun _ q => (nomatch q), List.nodup_nil, fun _ q => (nomatch q)⟩
theorem made_post {m : Made} {res : Nat → Value} (hm : MadeIs m res) {R : Value → Shared → Prop} {s : Shared} (K : ∀ t tk, R (res t) { s with toks := tk }) : m.post R s := by
  cases m with
  | val v => obtain ⟨t, e⟩ := hm; exact e ▸ K t s.toks
  | int i =>
    have z := K s.toks (s.toks + 1)
    rw [hm s.toks] at z
    exact z
  | str x =>
    have z := K s.toks (s.toks + 1)
    rw [hm.2 s.toks] at z
    exact ⟨hm.1, z⟩
  | _ => exact hm.elim
theorem cB_valid {prog : Program} {w : World} {kt : KT} {T : String} {name : PySem.Str} {id : String} {b : Builtin} {self : Value} {rest : List Value} {m : Made} {res : Nat → Value} (sl : Slot T name id) (hT : ∀ s : Shared, s.TypeIs self T)
    (hb : entryFor table id = some b) (ha : argsOk id ⟨self :: rest, []⟩) (gv : Gives (b ⟨self :: rest, []⟩) m) (hm : MadeIs m res) : (cB id (self :: rest) res).Valid prog w kt := by
  intro A R s _ _ _ _ _ _ K
  refine codeAny_call_builtin sl.plain hb (sl.check _ _ _ _ _ _ _ _ (hT s) ha (gv prog w A R s (made_post hm fun t tk => ?_)))
  exact K (wit (fun _ => t) s.heap.objs.size tk) s.heap trivial (after_same _) rfl

/-! ints -/
section
variable {prog : Program} {w : World} {kt : KT} {a b : Int} {t u : Nat} {v : Bool}
noncomputable def cLt (a b : Int) (t u : Nat) (v : Bool) : Ctr := cB "int.__lt__" [.int a t, .int b u] fun _ => .bool v
theorem cLt_ok (h : decide (a < b) = v) : (cLt a b t u v).Valid prog w kt :=
  cB_valid F.slot_int_lt (fun s => typeIs_int s a t) F.entry_int_lt (F.args_int_lt_2 _ _) (AutoIntG1.int___lt___int_int_0 a t b u) ⟨0, by rw [← h]⟩
noncomputable def cLe (a b : Int) (t u : Nat) (v : Bool) : Ctr := cB "int.__le__" [.int a t, .int b u] fun _ => .bool v
theorem cLe_ok (h : decide (a ≤ b) = v) : (cLe a b t u v).Valid prog w kt :=
  cB_valid F.slot_int_le (fun s => typeIs_int s a t) F.entry_int_le (F.args_int_le_2 _ _) (AutoIntG1.int___le___int_int_0 a t b u) ⟨0, by rw [← h]⟩
noncomputable def cGt (a b : Int) (t u : Nat) (v : Bool) : Ctr := cB "int.__gt__" [.int a t, .int b u] fun _ => .bool v
theorem cGt_ok (h : decide (a > b) = v) : (cGt a b t u v).Valid prog w kt :=
  cB_valid F.slot_int_gt (fun s => typeIs_int s a t) F.entry_int_gt (F.args_int_gt_2 _ _) (AutoIntG4.int___gt___int_int_0 a t b u) ⟨0, by rw [← h]⟩
noncomputable def cGe (a b : Int) (t u : Nat) (v : Bool) : Ctr := cB "int.__ge__" [.int a t, .int b u] fun _ => .bool v
theorem cGe_ok (h : decide (a ≥ b) = v) : (cGe a b t u v).Valid prog w kt :=
  cB_valid F.slot_int_ge (fun s => typeIs_int s a t) F.entry_int_ge (F.args_int_ge_2 _ _) (AutoIntG9.int___ge___int_int_0 a t b u) ⟨0, by rw [← h]⟩
noncomputable def cEq (a b : Int) (t u : Nat) (v : Bool) : Ctr := cB "int.__eq__" [.int a t, .int b u] fun _ => .bool v
theorem cEq_ok (h : (a == b) = v) : (cEq a b t u v).Valid prog w kt :=
  cB_valid F.slot_int_eq (fun s => typeIs_int s a t) F.entry_int_eq (F.args_int_eq_2 _ _) (AutoIntG7.int___eq___int_int_0 a t b u) ⟨0, by rw [← h]⟩
noncomputable def cNe (a b : Int) (t u : Nat) (v : Bool) : Ctr := cB "int.__ne__" [.int a t, .int b u] fun _ => .bool v
theorem cNe_ok (h : (a != b) = v) : (cNe a b t u v).Valid prog w kt :=
  cB_valid F.slot_int_ne (fun s => typeIs_int s a t) F.entry_int_ne (F.args_int_ne_2 _ _) (AutoIntG6.int___ne___int_int_0 a t b u) ⟨0, by rw [← h]⟩
noncomputable def cBool (a : Int) (t : Nat) (v : Bool) : Ctr := cB "int.__bool__" [.int a t] fun _ => .bool v
theorem cBool_ok (h : (a != 0) = v) : (cBool a t v).Valid prog w kt :=
  cB_valid F.slot_int_bool (fun s => typeIs_int s a t) F.entry_int_bool (F.args_int_bool_1 _) (AutoIntG0.int___bool___int_0 a t) ⟨0, by rw [← h]⟩
noncomputable def cFdiv (a b : Int) (t u : Nat) (r : Int) : Ctr := cB "int.__floordiv__" [.int a t, .int b u] fun t => .int r t
theorem cFdiv_ok {r : Int} (hb : (b == 0) = false) (hp : Builtin.divisionGoesByPylong a b = false) (h : a.fdiv b = r) : (cFdiv a b t u r).Valid prog w kt :=
  cB_valid F.slot_int_floordiv (fun s => typeIs_int s a t) F.entry_int_floordiv (F.args_int_floordiv_2 _ _) (AutoIntG4.int___floordiv___int_int_1 a t b u (by rw [hb]; decide) (by rw [hp]; decide)) fun t => by rw [h]
noncomputable def cMod (a b : Int) (t u : Nat) (r : Int) : Ctr := cB "int.__mod__" [.int a t, .int b u] fun t => .int r t
theorem cMod_ok {r : Int} (hb : (b == 0) = false) (h : a.fmod b = r) : (cMod a b t u r).Valid prog w kt :=
  cB_valid F.slot_int_mod (fun s => typeIs_int s a t) F.entry_int_mod (F.args_int_mod_2 _ _) (AutoIntG6.int___mod___int_int_1 a t b u (by rw [hb]; decide)) fun t => by rw [h]
noncomputable def cMul (a b : Int) (t u : Nat) (r : Int) : Ctr := cB "int.__mul__" [.int a t, .int b u] fun t => .int r t
theorem cMul_ok {r : Int} (hm : IntMulOk a b) (h : a * b = r) : (cMul a b t u r).Valid prog w kt :=
  cB_valid F.slot_int_mul (fun s => typeIs_int s a t) F.entry_int_mul (F.args_int_mul_2 _ _) (AutoIntG1.int___mul___int_int_0 a t b u hm) fun t => by rw [h]
end

/-! texts -/
section
variable {prog : Program} {w : World} {kt : KT} {a b : PySem.Str} {t u : Nat} {v : Bool}
noncomputable def cStrEq (a b : PySem.Str) (t u : Nat) (v : Bool) : Ctr := cB "str.__eq__" [.str a t, .str b u] fun _ => .bool v
theorem cStrEq_ok (h : (a.cps.toList == b.cps.toList) = v) : (cStrEq a b t u v).Valid prog w kt :=
  cB_valid F.slot_str_eq (fun s => typeIs_str s a t) F.entry_str_eq (F.args_str_eq_2 _ _) (gives_str_eq a b t u) ⟨0, by rw [h]⟩
noncomputable def cStrNe (a b : PySem.Str) (t u : Nat) (v : Bool) : Ctr := cB "str.__ne__" [.str a t, .str b u] fun _ => .bool v
theorem cStrNe_ok (h : (a.cps.toList != b.cps.toList) = v) : (cStrNe a b t u v).Valid prog w kt :=
  cB_valid F.slot_str_ne (fun s => typeIs_str s a t) F.entry_str_ne (F.args_str_ne_2 _ _) (gives_str_ne a b t u) ⟨0, by rw [h]⟩
noncomputable def cStrAdd (a b : PySem.Str) (t u : Nat) (r : PySem.Str) : Ctr := cB "str.__add__" [.str a t, .str b u] fun t => .str r t
theorem str_nil {x : PySem.Str} (h : (x.length == 0) = true) : x = ⟨#[]⟩ := by
  obtain ⟨⟨l⟩⟩ := x
  have : l.length = 0 := by simpa [PySem.Str.length] using h
  rw [List.length_eq_zero_iff] at this
  subst this; rfl
theorem cStrAdd_ok {r : PySem.Str} (h : r = ⟨⟨a.cps.toList ++ b.cps.toList⟩⟩) (hl : a.cps.toList.length + b.cps.toList.length ≤ sizeLine) : (cStrAdd a b t u r).Valid prog w kt := by
  have e : a ++ b = r := by
    rw [h]
    apply PySem.Str.ext'
    rw [PySem.Str.cps_append]
    apply Array.ext'
    rw [Array.toList_append]
  refine cB_valid F.slot_str_add (fun s => typeIs_str s a t) F.entry_str_add (F.args_str_add_2 _ _) (gives_str_add a b t u) ?_
  split
  · rename_i q
    refine ⟨u, ?_⟩
    rw [h, str_nil q]
    show Value.str ⟨⟨[] ++ b.cps.toList⟩⟩ u = _
    rfl
  · split
    · rename_i q
      refine ⟨t, ?_⟩
      rw [h, str_nil q]
      show Value.str ⟨⟨a.cps.toList ++ []⟩⟩ t = _
      rw [List.append_nil]
    · refine ⟨?_, fun t => by rw [e]⟩
      rw [e, h]
      show (a.cps.toList ++ b.cps.toList).length ≤ sizeLine
      rw [List.length_append]; exact hl
noncomputable def cStrLower (a : PySem.Str) (t : Nat) (r : PySem.Str) : Ctr := cB "str.lower" [.str a t] fun t => .str r t
noncomputable def cStrip (a : PySem.Str) (t : Nat) (r : PySem.Str) : Ctr := cB "str.strip" [.str a t] fun t => .str r t
theorem cStrip_ok {r : PySem.Str} (h : PySem.stripped Unicode.isSpace true true a = r) (hs : PySem.stripSame Unicode.isSpace true true a = true → a = r) (hl : r.length ≤ sizeLine) : (cStrip a t r).Valid prog w kt := by
  refine cB_valid F.slot_str_strip (fun s => typeIs_str s a t) F.entry_str_strip (F.args_str_strip_1 _) (gives_str_strip a t) ?_
  split
  · rename_i q; exact ⟨t, by rw [hs q]⟩
  · exact ⟨by rw [h]; exact hl, fun t => by rw [h]⟩
noncomputable def cRstrip (a : PySem.Str) (t : Nat) (r : PySem.Str) : Ctr := cB "str.rstrip" [.str a t] fun t => .str r t
theorem cRstrip_ok {r : PySem.Str} (h : PySem.stripped Unicode.isSpace false true a = r) (hs : PySem.stripSame Unicode.isSpace false true a = true → a = r) (hl : r.length ≤ sizeLine) : (cRstrip a t r).Valid prog w kt := by
  refine cB_valid F.slot_str_rstrip (fun s => typeIs_str s a t) F.entry_str_rstrip (F.args_str_rstrip_1 _) (gives_str_rstrip a t) ?_
  split
  · rename_i q; exact ⟨t, by rw [hs q]⟩
  · exact ⟨by rw [h]; exact hl, fun t => by rw [h]⟩
noncomputable def cContains (a b : PySem.Str) (t u : Nat) (v : Bool) : Ctr := cB "str.__contains__" [.str a t, .str b u] fun _ => .bool v
theorem cContains_ok (h : (!(Builtin.Str.occurrences a b 0 a.length 1).isEmpty) = v) : (cContains a b t u v).Valid prog w kt :=
  cB_valid F.slot_str_contains (fun s => typeIs_str s a t) F.entry_str_contains (F.args_str_contains_2 _ _) (gives_str_contains a b t u) ⟨0, by rw [h]⟩
end
noncomputable def liO (l : List Value) (ep : Nat) : Obj := ⟨.type "list", none, .seq ⟨l⟩ ep, #[]⟩
noncomputable def tuO (l : List Value) (ep : Nat) : Obj := ⟨.type "tuple", none, .seq ⟨l⟩ ep, #[]⟩
noncomputable def fiO (c : String) (l : List Value) : Obj := ⟨.type c, none, .fields ⟨l⟩, #[]⟩

section
variable {prog : Program} {w : World} {kt : KT}
/-- a call of a slot, its tree to be met -/
theorem slot_code {T : String} {name : PySem.Str} {id : String} {b : Builtin} {self : Value} {rest : List Value} {A : Around} {R : Result → Shared → Prop} {s : Shared} (sl : Slot T name id) (hT : s.TypeIs self T)
    (hb : entryFor table id = some b) (ha : argsOk id ⟨self :: rest, []⟩)
    (h : wpAny (model prog w) A.in1 (b ⟨self :: rest, []⟩) (fun fin s' => ∃ v, fin = .done (.ret v) ∧ R (.ok (.ret v)) s') (fun e s' => R (.error e) s') s) :
    codeAny (model prog w) A (.call (.builtin id) ⟨self :: rest, []⟩) R s :=
  codeAny_call_builtin sl.plain hb (sl.check _ _ _ _ _ _ _ _ hT ha (wpAny_mono h (fun fin s' h' => by obtain ⟨v, rfl, hv⟩ := h'; exact hv) fun _ _ x => x))
theorem typ_of {s : Shared} {a : Addr} {o : Obj} {T : String} (h : s.heap.get? a = some o) (hc : o.cls = .type T) : s.TypeIs (.ref a) T := ⟨o, h, hc⟩

/-! an item of a list -/
noncomputable def cGet (hl : Nat) (a : Addr) (l : List Value) (ep : Nat) (k : Int) (t : Nat) (v : Value) : Ctr :=
  { code := .call (.builtin "list.__getitem__") ⟨[.ref a, .int k t], []⟩, reads := [(hl, (a, liO l ep))], res := fun _ => .ok (.ret v) }
theorem cGet_ok {hl : Nat} {a : Addr} {l : List Value} {ep : Nat} {k : Int} {t : Nat} {v : Value} (h0 : 0 ≤ k) (hf : k < 2 ^ 63) (hv : l[k.toNat]? = some v) : (cGet hl a l ep k t v).Valid prog w kt := by
  intro A R s _ _ _ hrd _ _ K
  have ho := (hrd _ (.head _)).1
  refine slot_code F.slot_list_getitem (typ_of ho rfl) F.entry_list_getitem (F.args_list_getitem_2 _ _) ?_
  show wpAny _ _ (Builtin.List.listSubscript? (.int k t) >>= _) _ _ s
  refine wpAny_bind (wpAny_listSubscript_int (fitsIndex_of h0 hf) ?_)
  clear hf
  obtain ⟨j, rfl⟩ := Int.eq_ofNat_of_zero_le h0
  have hx' : (⟨l⟩ : Array Value)[j]? = some v := by simpa using hv
  show wpAny _ _ ((seqItemAt a j >>= fun r => pure (r.map (j, ·))) >>= _) _ _ s
  refine wpAny_bind (wpAny_bind (wpAny_seqItemAt ho rfl (wpAny_pure ?_)))
  rw [hx']
  have fin : R (.ok (.ret v)) s := K (wit (fun _ => 0) s.heap.objs.size s.toks) s.heap trivial (after_same _) rfl
  first
    | exact wpAny_bind (wpAny_pure (wpAny_pure ⟨v, rfl, fin⟩))
    | exact wpAny_pure ⟨v, rfl, fin⟩

theorem mapSeq_li {l : List Value} {ep : Nat} {f : Array Value → Array Value} : Obj.mapSeq f (liO l ep) = ⟨.type "list", none, .seq (f ⟨l⟩) (if (f ⟨l⟩).size == l.length then ep else ep + 1), #[]⟩ := rfl
theorem after_upd {h : Heap} {i : Nat} {a : Addr} {o : Obj} {f : Obj → Obj} {o' : Obj} (ho : h.get? a = some o) (hf : f o = o') (hx : o'.isFreed = false) : After h (h.update a f) [(i, (a, o))] [o'] [] [] := by
  have hs : Heap.SameBut a h (h.update a f) := Heap.SameBut.update ..
  refine ⟨fun b ob e hb => (hs.2 b fun q => hb ?_).trans e, rfl, fun e he => ?_, fun _ q => (nomatch q), List.nodup_nil, fun _ q => (nomatch q)⟩
  · subst q; exact .head _
  · have : e = (i, (a, o')) := by
      unfold zipU at he
      cases he with
      | head => rfl
      | tail _ he => unfold zipU at he; cases he
    subst this
    subst hf
    first | exact Heap.get?_update_self f ho hx | exact Heap.get?_update_self _ ho hx
noncomputable def cSet (i : Nat) (a : Addr) (l : List Value) (ep : Nat) (k : Int) (t : Nat) (v : Value) : Ctr :=
  { code := .call (.builtin "list.__setitem__") ⟨[.ref a, .int k t, v], []⟩, mus := [(i, (a, liO l ep))], upd := fun _ => [liO (l.set k.toNat v) ep], res := fun _ => .ok (.ret .none) }
theorem cSet_ok {i : Nat} {a : Addr} {l : List Value} {ep : Nat} {k : Int} {t : Nat} {v : Value} (h0 : 0 ≤ k) (hf : k < 2 ^ 63) (hk : k < l.length) : (cSet i a l ep k t v).Valid prog w kt := by
  intro A R s _ _ _ _ hmu _ K
  have ho := (hmu _ (.head _)).1
  refine slot_code F.slot_list_setitem (typ_of ho rfl) F.entry_list_setitem (F.args_list_setitem_3 _ _ _) ?_
  show wpAny _ _ (Builtin.List.listSubscript? (.int k t) >>= _) _ _ s
  refine wpAny_bind (wpAny_listSubscript_int (fitsIndex_of h0 hf) ?_)
  clear hf
  obtain ⟨j, rfl⟩ := Int.eq_ofNat_of_zero_le h0
  have hj : j < l.length := by lia
  have hx' : (⟨l⟩ : Array Value)[j]? = some l[j] := by simp [hj]
  show wpAny _ _ ((seqItemAt a j >>= fun r => pure (r.map (j, ·))) >>= _) _ _ s
  refine wpAny_bind (wpAny_bind (wpAny_seqItemAt ho rfl (wpAny_pure ?_)))
  rw [hx']
  have e : Obj.mapSeq (·.setIfInBounds j v) (liO l ep) = liO (l.set j v) ep := by
    rw [mapSeq_li]
    have : (⟨l⟩ : Array Value).setIfInBounds j v = ⟨l.set j v⟩ := by apply Array.ext'; simp
    rw [this]
    simp [liO]
  have fin : R (.ok (.ret .none)) { s with heap := s.heap.update a (Obj.mapSeq (·.setIfInBounds j v)) } :=
    K (wit (fun _ => 0) s.heap.objs.size s.toks) _ trivial (after_upd ho e rfl) ((Heap.SameBut.update ..).1)
  first
    | exact wpAny_bind (wpAny_setSeqItemAt ho rfl (wpAny_pure ⟨_, rfl, fin⟩))
    | exact wpAny_bind (wpAny_pure (wpAny_bind (wpAny_setSeqItemAt ho rfl (wpAny_pure ⟨_, rfl, fin⟩))))
    | exact wpAny_bind (wpAny_setSeqItemAt ho rfl (wpAny_bind (wpAny_pure (wpAny_pure ⟨_, rfl, fin⟩))))
end
noncomputable def excO (n : Addr) : Obj := ⟨.type "StopIteration", none, .fields #[.ref n, .none, .none, .none, .bool false, .none], #[]⟩
section
variable {prog : Program} {w : World} {kt : KT}
theorem stop_wp {α : Type} {A : Around} {Q : α → Shared → Prop} {E : Value → Shared → Prop} {s : Shared} (hh : A.handled = none)
    (hE : E (.ref (s.heap.objs.size + 1)) { s with heap := (s.heap.push (tuO [] 0)).push (excO s.heap.objs.size) }) : wpAny (model prog w) A (do raiseNew (← newExc (.type "StopIteration") []) : Sem α) Q E s := by
  refine wpAny_bind ?_
  unfold newExc newTuple
  refine wpAny_bind (wpAny_newObj_type ?_ (by show ([] : List Value).toArray.size ≤ sizeLine; exact Nat.zero_le _))
  refine wpAny_bind (m := firstArgMember _ _) (wpAny_of_eq (a := Value.none) (by rfl) ?_)
  have e : ownMembersOf (.type "StopIteration") [] = #[] := by rfl
  rw [e]
  refine wpAny_newObj_type ?_ (by exact Nat.le_of_ble_eq_true rfl)
  refine wpAny_raiseNew_none hh ?_
  have := hE
  rw [show s.heap.objs.size + 1 = (s.heap.push (tuO [] 0)).objs.size from (Heap.size_push ..).symm] at this
  exact this
theorem after_stop {h : Heap} {i : Nat} {a : Addr} {o o' : Obj} {f : Obj → Obj} (ho : h.get? a = some o) (hf : f o = o') (hx : o'.isFreed = false) :
    After h (((h.update a f).push (tuO [] 0)).push (excO h.objs.size)) [(i, (a, o))] [o'] [] [(h.objs.size, tuO [] 0), (h.objs.size + 1, excO h.objs.size)] := by
  have z := after_upd (i := i) ho hf hx
  have hs : (h.update a f).objs.size = h.objs.size := (Heap.SameBut.update ..).1
  refine ⟨fun b ob e hb => Heap.get?_push_of_some _ (Heap.get?_push_of_some _ (z.keep b ob e hb)), rfl, fun e he => Heap.get?_push_of_some _ (Heap.get?_push_of_some _ (z.hupd e he)), fun c hc => ?_, List.nodup_nil, fun _ _ q => (nomatch q)⟩
  rw [List.nil_append] at hc
  cases hc with
  | head => exact ⟨get_top h, Heap.get?_push_of_some _ (by
      have q := Heap.get?_push_size (h.update a f) (o := tuO [] 0) rfl
      rw [hs] at q; exact q)⟩
  | tail _ hc =>
    cases hc with
    | tail _ hc => cases hc
    | head =>
      refine ⟨?_, ?_⟩
      · cases q : h.get? (h.objs.size + 1) with
        | none => rfl
        | some o => exact absurd (Heap.lt_size q) (Nat.not_lt.mpr (Nat.le_succ _))
      · have : ((h.update a f).push (tuO [] 0)).objs.size = h.objs.size + 1 := by rw [Heap.size_push, hs]
        rw [← this]; exact Heap.get?_push_size _ rfl

/-! the signs of a text -/
noncomputable def siO (v : Value) (k : Int) : Obj := ⟨.type "str_ascii_iterator", none, .fields #[v, .int k 0], #[]⟩
noncomputable def cSNext (i : Nat) (it : Addr) (x : PySem.Str) (t : Nat) (k : Int) (c : Nat) : Ctr :=
  { code := .call (.builtin "str_ascii_iterator.__next__") ⟨[.ref it], []⟩, mus := [(i, (it, siO (.str x t) k))], upd := fun _ => [siO (.str x t) (k + 1)], res := fun y => .ok (.ret (.str ⟨⟨[c]⟩⟩ (y 2))) }
theorem cSNext_ok {i : Nat} {it : Addr} {x : PySem.Str} {t : Nat} {k : Int} {c : Nat} (h : x.cps.toList[k.toNat]? = some c) : (cSNext i it x t k c).Valid prog w kt := by
  intro A R s _ _ _ _ hmu _ K
  have ho := (hmu _ (.head _)).1
  refine slot_code F.slot_str_ascii_iterator_next (typ_of ho rfl) F.entry_str_ascii_iterator_next (F.args_str_ascii_iterator_next_1 _) ?_
  have hx : x.cps[k.toNat]? = some c := by simpa using h
  refine wpAny_bind (m := slotArgs "__next__" 0 _) (wpAny_pure ?_)
  refine wpAny_bind (wpAny_field (x := .str x t) ho rfl rfl ?_)
  rw [if_neg (by simp)]
  refine wpAny_bind (m := asStr? (.str x t)) (wpAny_pure ?_)
  refine wpAny_bind (wpAny_field (x := .int k 0) ho rfl rfl ?_)
  show wpAny _ _ (match x.cps[k.toNat]? with | some c => _ | none => _) _ _ _
  rw [hx]
  refine wpAny_bind (wpAny_setField (i := 1) ho rfl (by show 1 < 2; decide) ?_)
  refine wpAny_bind (wpAny_mkStr ?_ (by show 1 ≤ sizeLine; decide))
  refine wpAny_pure ⟨_, rfl, ?_⟩
  exact K (wit (fun _ => s.toks) s.heap.objs.size (s.toks + 1)) _ trivial (after_upd ho rfl rfl) ((Heap.SameBut.update ..).1)
noncomputable def cSEnd (i : Nat) (it : Addr) (x : PySem.Str) (t : Nat) (k : Int) : Ctr :=
  { code := .call (.builtin "str_ascii_iterator.__next__") ⟨[.ref it], []⟩, mus := [(i, (it, siO (.str x t) k))], upd := fun _ => [siO .none k], new := fun y => [(y 2, tuO [] 0), (y 3, excO (y 2))], res := fun y => .error (.ref (y 3)) }
theorem cSEnd_ok {i : Nat} {it : Addr} {x : PySem.Str} {t : Nat} {k : Int} (h : x.cps.toList[k.toNat]? = none) : (cSEnd i it x t k).Valid prog w kt := by
  intro A R s _ hA _ _ hmu _ K
  have ho := (hmu _ (.head _)).1
  refine slot_code F.slot_str_ascii_iterator_next (typ_of ho rfl) F.entry_str_ascii_iterator_next (F.args_str_ascii_iterator_next_1 _) ?_
  have hx : x.cps[k.toNat]? = none := by simpa using h
  refine wpAny_bind (m := slotArgs "__next__" 0 _) (wpAny_pure ?_)
  refine wpAny_bind (wpAny_field (x := .str x t) ho rfl rfl ?_)
  rw [if_neg (by simp)]
  refine wpAny_bind (m := asStr? (.str x t)) (wpAny_pure ?_)
  refine wpAny_bind (wpAny_field (x := .int k 0) ho rfl rfl ?_)
  show wpAny _ _ (match x.cps[k.toNat]? with | some c => _ | none => _) _ _ _
  rw [hx]
  refine wpAny_bind (wpAny_rule ?_)
  refine wpAny_bind (wpAny_setField (i := 0) ho rfl (by show 0 < 2; decide) ?_)
  refine wpAny_bind (wpAny_letGo ?_)
  refine stop_wp hA ?_
  have hs : (s.heap.update it (Obj.mapFields (·.setIfInBounds 0 .none))).objs.size = s.heap.objs.size := (Heap.SameBut.update ..).1
  show R _ ⟨(((s.heap.update it (Obj.mapFields (·.setIfInBounds 0 .none))).push (tuO [] 0)).push (excO (s.heap.update it (Obj.mapFields (·.setIfInBounds 0 .none))).objs.size)), s.gens, s.drawn, s.toks, s.os⟩
  rw [hs]
  refine K (wit (fun n => if n = 2 then s.heap.objs.size else s.heap.objs.size + 1) (s.heap.objs.size + 2) s.toks) _ trivial (after_stop (o' := siO .none k) ho rfl rfl) ?_
  show _ = s.heap.objs.size + 2
  rw [Heap.size_push, Heap.size_push, hs]
end
section
variable {prog : Program} {w : World} {kt : KT}
theorem after_push {h : Heap} {o : Obj} (hf : o.isFreed = false) : After h (h.push o) [] [] [(h.objs.size, o)] [] := by
  refine ⟨fun b ob e _ => Heap.get?_push_of_some _ e, rfl, fun _ q => (nomatch q), fun c hc => ?_, by simp, fun _ q => (nomatch q)⟩
  rw [List.append_nil] at hc
  cases List.mem_singleton.mp hc
  exact ⟨get_top h, Heap.get?_push_size _ hf⟩
noncomputable def cStrIter (x : PySem.Str) (t : Nat) : Ctr := { code := .call (.builtin "str.__iter__") ⟨[.str x t], []⟩, newO := fun y => [(y 2, siO (.str x t) 0)], res := fun y => .ok (.ret (.ref (y 2))) }
theorem cStrIter_ok {x : PySem.Str} {t : Nat} (h : x.cps.all (· < 128) = true) : (cStrIter x t).Valid prog w kt := by
  intro A R s _ _ _ _ _ _ K
  refine slot_code F.slot_str_iter (typeIs_str s x t) F.entry_str_iter (F.args_str_iter_1 _) ?_
  show wpAny _ _ (do ret (← newFields (if true && x.cps.all (· < 128) then "str_ascii_iterator" else "str_iterator") [.str x t, rawInt 0])) _ _ _
  rw [h]
  refine wpAny_bind ?_
  unfold newFields
  refine wpAny_newObj_type ?_ (by exact Nat.le_of_ble_eq_true rfl)
  refine wpAny_pure ⟨_, rfl, ?_⟩
  refine K (wit (fun _ => s.heap.objs.size) (s.heap.objs.size + 1) s.toks) _ trivial (after_push (o := siO (.str x t) 0) rfl) ?_
  exact Heap.size_push ..
end
/-- an entry of a frame -/
noncomputable def eN (P : Params) (l : List Nat) (t : Nat) (v : Value) : DictEntry := ⟨PyData.keyHash P ⟨⟨l⟩⟩, .str ⟨⟨l⟩⟩ t, v⟩
noncomputable def frO (es : List DictEntry) (ep : Nat) : Obj := ⟨.type "frame", none, .dict ⟨es⟩ ep, #[]⟩
/-- the parts of the text -/
noncomputable def atS (l : List Stmt) (i : Nat) : Stmt := match atL l i with
  | some s => s
  | none => .Pass default
noncomputable def forT : Stmt → PySem.Expr
  | .For t _ _ _ _ => t
  | _ => default
noncomputable def forB : Stmt → List Stmt
  | .For _ _ b _ _ => b
  | _ => []
noncomputable def forE : Stmt → List Stmt
  | .For _ _ _ e _ => e
  | _ => []
noncomputable def envA (fd : FuncData) (a L : Addr) (cells : List (PySem.Str × Addr)) : Env :=
  { scope := fd.scope, locals := L, globals := fd.globals, cells := cells, qual := fd.qualname ++ ".<locals>.", func := some a, code := fd.code, frame := some L, builtins := fd.builtins }
noncomputable def forC (s : Stmt) (it : Addr) (env : Env) : Code := .forLoop (forT s) (.ref it) (forB s) (forE s) env
noncomputable def RunC (P : Params) (C : Ctr) (fuel : Nat) (H : HT) (m tk : Nat) : OT := run (sy P) fuel H C.room C.code .base ((sy P).den C.code) (C.mus.map (·.2)) (C.reads.map (·.2)) m tk
noncomputable def RunF (P : Params) (C : Ctr) (a : Addr) (fd : FuncData) (args : List Value) (fuel : Nat) (H : HT) (m tk : Nat) : OT :=
  runIn (sy P) fuel H C.room a fd (match fd.body with | .stmts b => b | _ => []) ⟨args, []⟩ (C.mus.map (·.2)) (C.reads.map (·.2)) m tk
noncomputable def VV (w : World) (b1 b2 : Bool) (C : Ctr) : Prop := C.Valid pw (wOf w b1 b2) (kt (parOf w.params b1 b2))
theorem codeV {w : World} {b1 b2 : Bool} {C : Ctr} (hn : ∀ x, C.newO x = []) (fuel : Nat) (H : Nat → Nat → HT) (hrun : ∀ m tk, (RunC (parOf w.params b1 b2) C fuel (H m tk) m tk).Ok)
    (hH : ∀ m tk, HOk (VV w b1 b2) (OutF C) (H m tk)) : VV w b1 b2 C := code_valid (sy_ok (wOf w b1 b2)) hn fuel H hrun hH
theorem fnV {w : World} {b1 b2 : Bool} {C : Ctr} {a : Addr} {fd : FuncData} {body : List Stmt} {args : List Value} (F : FnAt (kt (parOf w.params b1 b2)) a fd body) (hc : C.code = .call (.ref a) ⟨args, []⟩) (hr : 1 ≤ C.room) (hn : ∀ x, C.newO x = [])
    (fuel : Nat) (H : Nat → Nat → HT) (hrun : ∀ m tk, (RunF (parOf w.params b1 b2) C a fd args fuel (H m tk) m tk).Ok) (hH : ∀ m tk, HOk (VV w b1 b2) (OutF C) (H m tk)) : VV w b1 b2 C := by
  refine fn_valid (sy_ok (wOf w b1 b2)) F hc hr hn fuel H (fun m tk => ?_) hH
  have := hrun m tk
  unfold RunF at this
  rw [F.body] at this
  exact this
/-- an end: the turned cells, the new ones -/
theorem outE {C : Ctr} {r : Result} {me : List (Nat × Cell)} (y : Nat → Nat) (h : ∀ sz tk, C.post (wit y sz tk) ∧ r = C.res (wit y sz tk) ∧ (zipU C.mus (C.upd (wit y sz tk))).map (·.2) = me.map (·.2) ∧ C.new (wit y sz tk) = [] ∧ (C.upd (wit y sz tk)).length = C.mus.length) : OutF C { res := r, exp := me } :=
  ⟨y, me, [], (List.append_nil _).symm, h, fun _ q => (nomatch q)⟩
theorem outN {C : Ctr} {r : Result} {ne : List (Nat × Cell)} (y : Nat → Nat) (h : ∀ sz tk, C.post (wit y sz tk) ∧ r = C.res (wit y sz tk) ∧ C.new (wit y sz tk) = ne.map (·.2)) (hm : C.mus = []) (hu : ∀ x, C.upd x = []) (hn : ∀ e ∈ ne, newHint 0 C.reads.length e.1 = true) : OutF C { res := r, exp := ne } :=
  ⟨y, [], ne, rfl, fun sz tk => ⟨(h sz tk).1, (h sz tk).2.1, by rw [hm, hu]; rfl, (h sz tk).2.2, by rw [hm, hu]; rfl⟩, by rw [hm]; exact hn⟩
noncomputable def inl (ns : List (Int × Nat)) : List Value := ns.map fun p => .int p.1 p.2
section
variable {prog : Program} {w : World} {kt : KT}
theorem fn_tree {A : Around} {s : Shared} {R : Result → Shared → Prop} {id : String} {b : Builtin} {args : List Value} (hk : builtinKind id = none) (hp : plainId id = true)
    (hb : entryFor table id = some b) (ha : argsOk id ⟨args, []⟩)
    (hc : wpAny (model prog w) A.in1 (b ⟨args, []⟩) (fun fin s' => match fin with
      | .done f => R (.ok f) s'
      | .again c' => c'.quiet = true ∧ codeAny (model prog w) A c' R s') (fun e s' => R (.error e) s') s) :
    codeAny (model prog w) A (.call (.builtin id) ⟨args, []⟩) R s := by
  refine codeAny_call_builtin hp hb ?_
  simp only [checkBuiltinCall, hk]
  cases hsig : Manifest.signature? id with
  | none => exact wpAny_pure hc
  | some sig =>
    simp only [argsOk, hsig] at ha
    have h2 : Bind.checkArgs id sig ⟨args, []⟩ = pure () := ha
    show wpAny _ A.in1 (Bind.checkArgs id sig ⟨args, []⟩) _ _ s
    rw [h2]; exact wpAny_pure hc
theorem sum_code {A : Around} {s : Shared} {R : Result → Shared → Prop} {l : Addr} {xs : Array (Int × Tok)} (hh : A.handled = none) (hl : s.heap.IsList l (intItems xs))
    (h : ∀ h' tk t', (∀ b o, s.heap.get? b = some o → h'.get? b = some o) → R (.ok (.ret (.int (preSum (numAt xs) xs.size) t'))) { s with heap := h', toks := tk }) :
    codeAny (model prog w) A (.call (.builtin "sum") ⟨[.ref l], []⟩) R s := by
  refine fn_tree F.kind_sum F.plain_sum F.entry_sum (F.args_sum1 _) ?_
  unfold Builtin.«sum»
  simp only [List.length_cons, List.length_nil]
  rw [if_neg (by decide)]
  refine wpAny_bind (wpAny_of_eq (show Builtin.Builtins.bindParams "sum" ["start"] 0 { } = pure [none] from rfl) ?_)
  refine wpAny_bind (iter_intList hl fun s₂ e st hfp hlI => ?_)
  subst e
  have W := Walks.list (prog := prog) (w := w) (A := A.in1) hh s.heap.objs.size l hlI (intItems xs)
  refine wpAny_bind (wpAny_mkInt ?_)
  refine wpAny_bind (wpAny_pure ?_)
  simp only [List.forIn_cons, List.forIn_nil]
  refine wpAny_bind (wpAny_bind (wpAny_bind (wpAny_isInstance (T := "int") (b := false) (typeIs_int _ _ _) PySem.sub_int_str ?_)))
  simp only [Bool.false_eq_true, if_false]
  refine wpAny_pure (wpAny_bind (wpAny_bind (wpAny_isInstance (T := "int") (b := false) (typeIs_int _ _ _) sub_int_bytes ?_)))
  simp only [Bool.false_eq_true, if_false]
  refine wpAny_pure (wpAny_bind (wpAny_bind (wpAny_isInstance (T := "int") (b := false) (typeIs_int _ _ _) sub_int_bytearray ?_)))
  simp only [Bool.false_eq_true, if_false]
  refine wpAny_pure (wpAny_pure ?_)
  refine wpAny_bind (wpAny_newObj_type ?_)
  refine wpAny_pure ⟨plainId_quiet F.plain_sum_loop _, codeAny_sum_loopG W (numAt xs) (fun _ _ => intItems_at) _ (fun hm => Nat.lt_irrefl _ (hfp _ hm)) _ 0 _ s.toks 0 0 (Or.inl rfl) rfl (Nat.zero_le _)
    (W.frame _ _ _ st fun b _ o e => Heap.get?_push_of_some _ e) (Heap.get?_push_size _ rfl) fun h' tk t' hk => ?_⟩
  have := h h' tk t' fun b o e => hk b o (fun hm => ?_) ?_ (Heap.get?_push_of_some _ (Heap.get?_push_of_some _ e))
  · simpa [intItems] using this
  · have : b = s.heap.objs.size := by simpa using hm
    exact absurd (Heap.lt_size e) (this ▸ Nat.lt_irrefl _)
  · have hb := Heap.lt_size e
    show b ≠ (s.heap.push _).objs.size
    rw [Heap.size_push]
    exact Nat.ne_of_lt (Nat.lt_succ_of_lt hb)
theorem isList_of {h : Heap} {a : Addr} {l : List Value} {ep : Nat} (e : h.get? a = some (liO l ep)) : h.IsList a ⟨l⟩ := by
  first
    | exact ⟨_, e, rfl, rfl⟩
    | exact ⟨_, e, rfl, rfl, rfl⟩
    | exact ⟨_, e, rfl, _, rfl⟩
noncomputable def cSum (hl : Nat) (a : Addr) (ns : List (Int × Nat)) (ep : Nat) (r : Int) : Ctr :=
  { code := .call (.builtin "sum") ⟨[.ref a], []⟩, reads := [(hl, (a, liO (inl ns) ep))], res := fun y => .ok (.ret (.int r (y 2))) }
theorem cSum_ok {hl : Nat} {a : Addr} {ns : List (Int × Nat)} {ep : Nat} {r : Int} (h : (ns.map (·.1)).sum = r) : (cSum hl a ns ep r).Valid prog w kt := by
  intro A R s _ hA _ hrd _ _ K
  have ho := (hrd _ (.head _)).1
  have e : (⟨inl ns⟩ : Array Value) = intItems ⟨ns⟩ := by simp [inl, intItems]
  have il : s.heap.IsList a (intItems ⟨ns⟩) := e ▸ isList_of ho
  refine sum_code hA il fun h' tk t' hk => ?_
  have hs : preSum (numAt ⟨ns⟩) (⟨ns⟩ : Array (Int × Tok)).size = r := by
    rw [preSum_eq, List.take_of_length_le (by simp)]; exact h
  rw [hs]
  exact K (wit (fun _ => t') h'.objs.size tk) h' trivial ⟨fun b o e _ => hk b o e, rfl, fun _ q => (nomatch q), fun _ q => (nomatch q), List.nodup_nil, fun _ q => (nomatch q)⟩ rfl
end
/-! lists of witnesses -/
noncomputable def lst (y : Nat → Nat) (k : Nat) : List Nat := (List.range k).map fun i => y (i + 8)
noncomputable def mk8 (b : Nat → Nat) (ts : List Nat) : Nat → Nat := fun i => if i < 8 then b i else ts.getD (i - 8) 0
theorem lst_mk8 (b : Nat → Nat) (ts : List Nat) : lst (mk8 b ts) ts.length = ts := by
  apply List.ext_getElem
  · simp [lst]
  · intro i h1 h2
    simp only [lst, List.getElem_map, List.getElem_range, mk8]
    rw [if_neg (by lia), Nat.add_sub_cancel, List.getD_eq_getElem?_getD, List.getElem?_eq_getElem h2]; rfl
theorem lst_wit (y : Nat → Nat) (sz tk k : Nat) : lst (wit y sz tk) k = lst y k := rfl
theorem mk8_lt (b : Nat → Nat) (ts : List Nat) {i : Nat} (h : i < 8) : mk8 b ts i = b i := if_pos h
theorem lst_len (y : Nat → Nat) (k : Nat) : (lst y k).length = k := by simp [lst]
noncomputable def dcO (es : List DictEntry) (ep : Nat) : Obj := ⟨.type "dict", none, .dict ⟨es⟩ ep, #[]⟩
/-- lists of witnesses from a place on -/
noncomputable def lsO (o : Nat) (y : Nat → Nat) (k : Nat) : List Nat := (List.range k).map fun i => y (i + o)
noncomputable def mkO (o : Nat) (b : Nat → Nat) (ts : List Nat) : Nat → Nat := fun i => if i < o then b i else ts.getD (i - o) 0
theorem lsO_mk (o : Nat) (b : Nat → Nat) (ts : List Nat) : lsO o (mkO o b ts) ts.length = ts := by
  apply List.ext_getElem
  · simp [lsO]
  · intro i h1 h2
    simp only [lsO, List.getElem_map, List.getElem_range, mkO]
    rw [if_neg (by lia), Nat.add_sub_cancel, List.getD_eq_getElem?_getD, List.getElem?_eq_getElem h2]; rfl
theorem lsO_mk' {o : Nat} {b : Nat → Nat} {ts : List Nat} {k : Nat} (h : ts.length = k) : lsO o (mkO o b ts) k = ts := by subst h; exact lsO_mk o b ts
theorem mkO_lt (o : Nat) (b : Nat → Nat) (ts : List Nat) {i : Nat} (h : i < o) : mkO o b ts i = b i := if_pos h
theorem lsO_len (o : Nat) (y : Nat → Nat) (k : Nat) : (lsO o y k).length = k := by simp [lsO]
theorem lsO_wit {o : Nat} (y : Nat → Nat) (sz tk k : Nat) (ho : 2 ≤ o) : lsO o (wit y sz tk) k = lsO o y k := by
  unfold lsO
  congr 1
  funext i
  obtain ⟨j, hj⟩ : ∃ j, i + o = j + 2 := ⟨i + o - 2, by lia⟩
  rw [hj]; rfl
/-- ints as witnesses -/
noncomputable def iw (n : Nat) : Int := if n % 2 = 0 then ((n / 2 : Nat) : Int) else -((n / 2 : Nat) : Int) - 1
noncomputable def wi (i : Int) : Nat := if 0 ≤ i then 2 * i.toNat else 2 * (-i - 1).toNat + 1
theorem iw_wi (i : Int) : iw (wi i) = i := by
  unfold iw wi
  by_cases h : 0 ≤ i
  · rw [if_pos h, if_pos (by lia)]; lia
  · rw [if_neg h, if_neg (by lia)]; lia
/-- an environment of a comprehension -/
noncomputable def envC (fd : FuncData) (L L' : Addr) (sc : Scope) (cells : List (PySem.Str × Addr)) : Env :=
  { scope := sc, locals := L', globals := fd.globals, cells := cells, qual := fd.qualname ++ ".<locals>.", func := none, code := fd.code, frame := some L, builtins := fd.builtins }
noncomputable def retE : Stmt → PySem.Expr
  | .Return (some e) _ => e
  | _ => default
noncomputable def argE : PySem.Expr → Nat → PySem.Expr
  | .Call _ as _ _, i => match atL as i with
    | some e => e
    | none => default
  | _, _ => default
noncomputable def whT : Stmt → PySem.Expr
  | .While t _ _ _ => t
  | _ => default
noncomputable def whB : Stmt → List Stmt
  | .While _ b _ _ => b
  | _ => []
noncomputable def whE : Stmt → List Stmt
  | .While _ _ e _ => e
  | _ => []
noncomputable def whC (s : Stmt) (env : Env) : Code := .whileLoop (whT s) (whB s) (whE s) env
/-- the cells that a cut has turned, as an end's cells -/
noncomputable def expOf (C : Ctr) (z : Nat → Nat) : List (Nat × Cell) := match C with
  | { mus, upd, .. } => expL mus (upd z)
where
  expL : List (Nat × Cell) → List Obj → List (Nat × Cell)
  | (i, c) :: l, o :: os => (2 * i + 1, (c.1, o)) :: expL l os
  | _, _ => []
section
variable {prog : Program} {w : World} {kt : KT}
/-- a contract by a rule of the library for the builtin's tree -/
theorem meets_valid {C : Ctr} {T : String} {name : PySem.Str} {id : String} {b : Builtin} {self : Value} {rest : List Value} {S : PySem.Spec} (sl : Slot T name id) (hb : entryFor table id = some b)
    (ha : argsOk id ⟨self :: rest, []⟩) (gm : Meets (b ⟨self :: rest, []⟩) S) (hc : C.code = .call (.builtin id) ⟨self :: rest, []⟩)
    (h : ∀ (A : Around) (R : Result → Shared → Prop) (s : Shared), A.handled = none → (∀ e ∈ C.reads, s.heap.get? e.2.1 = some e.2.2) → (∀ e ∈ C.mus, s.heap.get? e.2.1 = some e.2.2) →
      (∀ x h', C.post x → After s.heap h' C.mus (C.upd x) (C.newO x) (C.new x) → h'.objs.size = x 0 → R (C.res x) ⟨h', s.gens, s.drawn, x 1, s.os⟩) → s.TypeIs self T ∧ S A R s) : C.Valid prog w kt := by
  intro A R s _ hA _ hrd hmu _ K
  obtain ⟨hT, hS⟩ := h A R s hA (fun e he => (hrd e he).1) (fun e he => (hmu e he).1) K
  rw [hc]
  exact codeAny_call_builtin sl.plain hb (sl.check _ _ _ _ _ _ _ _ hT ha (gm prog w A R s hS))
theorem upd_size (h : Heap) (a : Addr) (f : Obj → Obj) : (h.update a f).objs.size = h.objs.size := (Heap.SameBut.update ..).1

noncomputable def cApp (i : Nat) (a : Addr) (l : List Value) (ep : Nat) (v : Value) : Ctr :=
  { code := .call (.builtin "list.append") ⟨[.ref a, v], []⟩, mus := [(i, (a, liO l ep))], upd := fun _ => [liO (l ++ [v]) (ep + 1)], res := fun _ => .ok (.ret .none) }
theorem cApp_ok {i : Nat} {a : Addr} {l : List Value} {ep : Nat} {v : Value} (hs : l.length ≤ sizeLine) : (cApp i a l ep v).Valid prog w kt := by
  refine meets_valid F.slot_list_append F.entry_list_append (F.args_list_append_2 _ _) (AutoListH.list_append_list_val_0 a ⟨l⟩ ep v hs) rfl fun A R s hA hrd hmu K => ?_
  have ho := hmu _ (.head _)
  refine ⟨typ_of ho rfl, ho, ?_⟩
  have e : Obj.mapSeq (fun x_1 => x_1.push v) (liO l ep) = liO (l ++ [v]) (ep + 1) := by
    rw [mapSeq_li]; simp [liO]
  exact K (wit (fun _ => 0) _ s.toks) _ trivial (after_upd ho e rfl) (upd_size ..)

noncomputable def cIadd (i hb : Nat) (a b : Addr) (l l2 : List Value) (ep ep2 : Nat) : Ctr :=
  { code := .call (.builtin "list.__iadd__") ⟨[.ref a, .ref b], []⟩, reads := [(hb, (b, liO l2 ep2))], mus := [(i, (a, liO l ep))], upd := fun _ => [liO (l ++ l2) (ep + 1)], res := fun _ => .ok (.ret (.ref a)) }
theorem cIadd_ok {i hb : Nat} {a b : Addr} {l l2 : List Value} {ep ep2 : Nat} (hn : l2 ≠ []) (hs : l.length + l2.length ≤ sizeLine) : (cIadd i hb a b l l2 ep ep2).Valid prog w kt := by
  refine meets_valid F.slot_list_iadd F.entry_list_iadd (F.args_list_iadd_2 _ _) (AutoSeq1.list___iadd___list_list_0 a ⟨l⟩ ep b ⟨l2⟩ ep2 ?_ ?_ ?_) rfl fun A R s hA hrd hmu K => ?_
  · simp only [Builtin.List.listTooLong, Bool.and_eq_true, decide_eq_true_eq]
    intro q; exact absurd q.2 (Nat.not_lt.mpr hs)
  · exact Nat.le_trans (Nat.le_add_right _ _) hs
  · exact Nat.le_succ_of_le hs
  have ho := hmu _ (.head _)
  refine ⟨typ_of ho rfl, ho, hrd _ (.head _), ?_⟩
  have e : Obj.mapSeq (fun x => x ++ (⟨l2⟩ : Array Value)) (liO l ep) = liO (l ++ l2) (ep + 1) := by
    rw [mapSeq_li]
    have : l2.length ≠ 0 := fun q => hn (List.length_eq_zero_iff.mp q)
    have z : (⟨l⟩ : Array Value) ++ (⟨l2⟩ : Array Value) = ⟨l ++ l2⟩ := by apply Array.ext'; simp
    rw [z]; simp [liO, hn]
  exact K (wit (fun _ => 0) _ s.toks) _ trivial (after_upd ho e rfl) (upd_size ..)

noncomputable def cDel (i : Nat) (a : Addr) (l : List Value) (v : Value) (ep t : Nat) : Ctr :=
  { code := .call (.builtin "list.__delitem__") ⟨[.ref a, .int (-1) t], []⟩, mus := [(i, (a, liO (l ++ [v]) ep))], upd := fun _ => [liO l (ep + 1)], res := fun _ => .ok (.ret .none) }
theorem idx_last (l : List Value) (v : Value) : seqIndex? (-1) (⟨l ++ [v]⟩ : Array Value).size = some l.length := by
  unfold seqIndex?
  simp
  lia
theorem cDel_ok {i : Nat} {a : Addr} {l : List Value} {v : Value} {ep t : Nat} (hs : l.length + 1 ≤ sizeLine) : (cDel i a l v ep t).Valid prog w kt := by
  refine meets_valid F.slot_list_delitem F.entry_list_delitem (F.args_list_delitem_2 _ _) (MeetsSeq.list_delitem_at a ⟨l ++ [v]⟩ ep (-1) t l.length (by decide) (idx_last l v) (by simpa using hs)) rfl fun A R s hA hrd hmu K => ?_
  have ho := hmu _ (.head _)
  refine ⟨typ_of ho rfl, ho, ?_⟩
  have e : Obj.mapSeq (fun xs => xs.eraseIdxIfInBounds l.length) (liO (l ++ [v]) ep) = liO l (ep + 1) := by
    rw [mapSeq_li]
    have z : (⟨l ++ [v]⟩ : Array Value).eraseIdxIfInBounds l.length = ⟨l⟩ := by
      apply Array.ext'
      rw [Array.toList_eraseIdxIfInBounds]
      rw [List.eraseIdx_append_of_length_le (Nat.le_refl _)]; simp
    rw [z]; simp [liO]
  exact K (wit (fun _ => 0) _ s.toks) _ trivial (after_upd ho e rfl) (upd_size ..)

noncomputable def cLast (hl : Nat) (a : Addr) (l : List Value) (v : Value) (ep t : Nat) : Ctr :=
  { code := .call (.builtin "list.__getitem__") ⟨[.ref a, .int (-1) t], []⟩, reads := [(hl, (a, liO (l ++ [v]) ep))], res := fun _ => .ok (.ret v) }
theorem cLast_ok {hl : Nat} {a : Addr} {l : List Value} {v : Value} {ep t : Nat} : (cLast hl a l v ep t).Valid prog w kt := by
  intro A R s _ _ _ hrd _ _ K
  have ho := (hrd _ (.head _)).1
  refine slot_code F.slot_list_getitem (typ_of ho rfl) F.entry_list_getitem (F.args_list_getitem_2 _ _) ?_
  show wpAny _ _ (Builtin.List.listSubscript? (.int (-1) t) >>= _) _ _ s
  refine wpAny_bind (wpAny_listSubscript_int (by decide) ?_)
  show wpAny _ _ ((Builtin.List.listItems (.ref a) >>= fun xs => pure ((seqIndex? (-1) xs.size).bind fun i => xs[i]?.map (i, ·))) >>= _) _ _ s
  refine wpAny_bind (wpAny_bind ?_)
  show wpAny _ _ (seqItems? (.ref a) >>= _) _ _ s
  refine wpAny_bind (wpAny_seqItems ho rfl (wpAny_pure (wpAny_pure ?_)))
  rw [idx_last]
  have hx : (⟨l ++ [v]⟩ : Array Value)[l.length]? = some v := by simp
  simp only [Option.bind_some, hx, Option.map_some]
  have fin : R (.ok (.ret v)) s := K (wit (fun _ => 0) s.heap.objs.size s.toks) s.heap trivial (after_same _) rfl
  exact wpAny_pure ⟨v, rfl, fin⟩

noncomputable def slO (lo hi st : Value) : Obj := ⟨.type "slice", none, .fields #[lo, hi, st], #[]⟩
noncomputable def cSlice (hl hs : Nat) (a sa : Addr) (l : List Value) (ep : Nat) (lo hi st : Value) (r : List Value) : Ctr :=
  { code := .call (.builtin "list.__getitem__") ⟨[.ref a, .ref sa], []⟩, reads := [(hl, (a, liO l ep)), (hs, (sa, slO lo hi st))], newO := fun y => [(y 2, liO r 0)], res := fun y => .ok (.ret (.ref (y 2))) }
theorem cSlice_ok {hl hs : Nat} {a sa : Addr} {l : List Value} {ep : Nat} {lo hi st : Value} {r : List Value} {l' h' s' : Option Int} (pl : IsPart lo l') (pu : IsPart hi h') (ps : IsPart st s') (h0 : s' ≠ some 0)
    (hr : slicePick ⟨l⟩ l' h' s' = ⟨r⟩) (hsz : l.length ≤ sizeLine) : (cSlice hl hs a sa l ep lo hi st r).Valid prog w kt := by
  intro A R s _ _ _ hrd _ _ K
  have ho := (hrd _ (.head _)).1
  have hos := (hrd _ (.tail _ (.head _))).1
  refine slot_code F.slot_list_getitem (typ_of ho rfl) F.entry_list_getitem (F.args_list_getitem_2 _ _) ?_
  have hTs : s.TypeIs (.ref sa) "slice" := typ_of hos rfl
  show wpAny _ _ (Builtin.List.listSubscript? (.ref sa) >>= _) _ _ s
  refine wpAny_bind ?_
  unfold Builtin.List.listSubscript?
  refine wpAny_bind (wpAny_specialOf hTs slice_no_index ?_)
  simp only [Option.isNone_none, if_true]
  refine wpAny_pure ?_
  show wpAny _ _ (typeOf (.ref sa) >>= _) _ _ s
  refine wpAny_bind (wpAny_typeOf hTs ?_)
  rw [if_neg (by decide)]
  rw [listSliceParts_eq]
  have hstep : ¬ ((rawPart s' == rawInt 0) = true) := by
    cases s' with
    | none => exact Bool.false_ne_true
    | some c =>
      intro hh
      have : c = 0 := by simpa [rawPart, rawInt] using hh
      exact h0 (by rw [this])
  refine wpAny_bind (wpAny_bind (wpAny_field hos rfl (x := st) rfl (wpAny_bind (wpAny_listPart ps ?_))))
  rw [if_neg hstep]
  refine wpAny_bind (wpAny_field hos rfl (x := lo) rfl (wpAny_bind (wpAny_listPart pl ?_)))
  refine wpAny_bind (wpAny_field hos rfl (x := hi) rfl (wpAny_bind (wpAny_listPart pu (wpAny_pure ?_))))
  refine wpAny_bind (m := Builtin.List.listItems (.ref a)) ?_
  unfold Builtin.List.listItems
  refine wpAny_bind (wpAny_seqItems ho rfl (wpAny_pure ?_))
  refine wpAny_bind (wpAny_of_eq (sliceIndices_raw l' h' s' (⟨l⟩ : Array Value).size h0) ?_)
  have key : R (.ok (.ret (.ref s.heap.objs.size))) { s with heap := s.heap.push { cls := .type "list", data := .seq (slicePick ⟨l⟩ l' h' s') } } := by
    rw [hr]
    exact K (wit (fun _ => s.heap.objs.size) (s.heap.objs.size + 1) s.toks) _ trivial (after_push (o := liO r 0) rfl) (Heap.size_push ..)
  exact wpAny_bind (wpAny_newObj_type (wpAny_pure ⟨_, rfl, key⟩) (Nat.le_trans (slicePick_size_le _ l' h' s') hsz))

noncomputable def cAddL (h1 h2 : Nat) (a b : Addr) (l l2 : List Value) (ep ep2 : Nat) : Ctr :=
  { code := .call (.builtin "list.__add__") ⟨[.ref a, .ref b], []⟩, reads := [(h1, (a, liO l ep)), (h2, (b, liO l2 ep2))], newO := fun y => [(y 2, liO (l ++ l2) 0)], res := fun y => .ok (.ret (.ref (y 2))) }
theorem cAddL_ok {h1 h2 : Nat} {a b : Addr} {l l2 : List Value} {ep ep2 : Nat} (hs : l.length + l2.length ≤ sizeLine) : (cAddL h1 h2 a b l l2 ep ep2).Valid prog w kt := by
  refine meets_valid F.slot_list_add F.entry_list_add (F.args_list_add_2 _ _) (AutoSeq1.list___add___list_list_0 a ⟨l⟩ ep b ⟨l2⟩ ep2 hs) rfl fun A R s hA hrd hmu K => ?_
  have ho := hrd _ (.head _)
  refine ⟨typ_of ho rfl, ho, hrd _ (.tail _ (.head _)), ?_⟩
  have z : (⟨l⟩ : Array Value) ++ (⟨l2⟩ : Array Value) = ⟨l ++ l2⟩ := by apply Array.ext'; simp
  rw [z]
  exact K (wit (fun _ => s.heap.objs.size) (s.heap.objs.size + 1) s.toks) _ trivial (after_push (o := liO (l ++ l2) 0) rfl) (Heap.size_push ..)

noncomputable def cMulL (h1 : Nat) (a : Addr) (l : List Value) (ep : Nat) (k : Int) (t : Nat) (r : List Value) : Ctr :=
  { code := .call (.builtin "list.__mul__") ⟨[.ref a, .int k t], []⟩, reads := [(h1, (a, liO l ep))], newO := fun y => [(y 2, liO r 0)], res := fun y => .ok (.ret (.ref (y 2))) }
theorem foldl_rep (v : Value) : ∀ (k : Nat) (acc : List Value), List.foldl (fun x1 x2 => x1 ++ x2) (⟨acc⟩ : Array Value) (List.replicate k (⟨[v]⟩ : Array Value)) = ⟨acc ++ List.replicate k v⟩
  | 0, acc => by simp
  | k + 1, acc => by
    rw [List.replicate_succ, List.foldl_cons]
    have : (⟨acc⟩ : Array Value) ++ (⟨[v]⟩ : Array Value) = ⟨acc ++ [v]⟩ := by apply Array.ext'; simp
    rw [this, foldl_rep v k, List.replicate_succ]; simp
theorem cMulL_ok {h1 : Nat} {a : Addr} {v : Value} {ep : Nat} {k : Int} {t : Nat} (h0 : 0 ≤ k) (hs : k ≤ 1000) : (cMulL h1 a [v] ep k t (List.replicate k.toNat v)).Valid prog w kt := by
  refine meets_valid F.slot_list_mul F.entry_list_mul (F.args_list_mul_2 _ _) (AutoListH.list___mul___list_int_3 a ⟨[v]⟩ ep k t ?_ ?_ ?_) rfl fun A R s hA hrd hmu K => ?_
  · have : Builtin.List.listFitsIndex k = true := fitsIndex_of h0 (by lia)
    simp [this]
  · show ¬ 1 * k.toNat > _
    lia
  · simp only [Builtin.List.listTooLong, decide_eq_true_eq, sizeLine_eq]
    show ¬ 1 * k.toNat > _
    lia
  have ho := hrd _ (.head _)
  refine ⟨typ_of ho rfl, ho, ?_⟩
  have z : List.foldl (fun x1 x2 => x1 ++ x2) (#[] : Array Value) (List.replicate (if (⟨[v]⟩ : Array Value).isEmpty = true then 0 else k.toNat) (⟨[v]⟩ : Array Value)) = ⟨List.replicate k.toNat v⟩ := by
    rw [if_neg (by simp)]
    have := foldl_rep v k.toNat []
    rwa [List.nil_append] at this
  rw [z]
  exact K (wit (fun _ => s.heap.objs.size) (s.heap.objs.size + 1) s.toks) _ trivial (after_push (o := liO _ 0) rfl) (Heap.size_push ..)

/-! the items of a list -/
noncomputable def liI (v : Value) (k : Int) : Obj := ⟨.type "list_iterator", none, .fields #[v, .int k 0], #[]⟩
noncomputable def cLNext (i hl : Nat) (it a : Addr) (l : List Value) (ep : Nat) (k : Int) (v : Value) : Ctr :=
  { code := .call (.builtin "list_iterator.__next__") ⟨[.ref it], []⟩, reads := [(hl, (a, liO l ep))], mus := [(i, (it, liI (.ref a) k))], upd := fun _ => [liI (.ref a) (k + 1)], res := fun _ => .ok (.ret v) }
theorem cLNext_ok {i hl : Nat} {it a : Addr} {l : List Value} {ep : Nat} {k : Int} {v : Value} (h : l[k.toNat]? = some v) : (cLNext i hl it a l ep k v).Valid prog w kt := by
  intro A R s _ _ _ hrd hmu _ K
  have ho := (hmu _ (.head _)).1
  have hol := (hrd _ (.head _)).1
  refine slot_code slot_listiter_next (typ_of ho rfl) entry_listiter_next (args_listiter_next _) ?_
  show wpAny _ _ (field (.ref it) 0 >>= _) _ _ s
  refine wpAny_bind (wpAny_field ho rfl (x := .ref a) rfl ?_)
  show wpAny _ _ (if (Value.ref a == Value.none) = true then _ else _) _ _ s
  rw [if_neg (show ¬ ((Value.ref a == Value.none) = true) from Bool.false_ne_true)]
  show wpAny _ _ (field (.ref it) 1 >>= _) _ _ s
  refine wpAny_bind (wpAny_field ho rfl (x := .int k 0) rfl ?_)
  show wpAny _ _ (seqItems? (.ref a) >>= _) _ _ s
  refine wpAny_bind (wpAny_seqItems hol rfl ?_)
  have hx : (⟨l⟩ : Array Value)[k.toNat]? = some v := by simpa using h
  simp only [hx]
  refine wpAny_bind (wpAny_setField ho rfl (by show 1 < 2; decide) (wpAny_pure ⟨v, rfl, ?_⟩))
  exact K (wit (fun _ => 0) s.heap.objs.size s.toks) _ trivial (after_upd ho rfl rfl) (upd_size ..)
noncomputable def cLEnd (i hl : Nat) (it a : Addr) (l : List Value) (ep : Nat) (k : Int) : Ctr :=
  { code := .call (.builtin "list_iterator.__next__") ⟨[.ref it], []⟩, reads := [(hl, (a, liO l ep))], mus := [(i, (it, liI (.ref a) k))], upd := fun _ => [liI .none k], new := fun y => [(y 2, tuO [] 0), (y 3, excO (y 2))], res := fun y => .error (.ref (y 3)) }
theorem cLEnd_ok {i hl : Nat} {it a : Addr} {l : List Value} {ep : Nat} {k : Int} (h : l[k.toNat]? = none) : (cLEnd i hl it a l ep k).Valid prog w kt := by
  intro A R s _ hA _ hrd hmu _ K
  have ho := (hmu _ (.head _)).1
  have hol := (hrd _ (.head _)).1
  refine slot_code slot_listiter_next (typ_of ho rfl) entry_listiter_next (args_listiter_next _) ?_
  show wpAny _ _ (field (.ref it) 0 >>= _) _ _ s
  refine wpAny_bind (wpAny_field ho rfl (x := .ref a) rfl ?_)
  show wpAny _ _ (if (Value.ref a == Value.none) = true then _ else _) _ _ s
  rw [if_neg (show ¬ ((Value.ref a == Value.none) = true) from Bool.false_ne_true)]
  show wpAny _ _ (field (.ref it) 1 >>= _) _ _ s
  refine wpAny_bind (wpAny_field ho rfl (x := .int k 0) rfl ?_)
  show wpAny _ _ (seqItems? (.ref a) >>= _) _ _ s
  refine wpAny_bind (wpAny_seqItems hol rfl ?_)
  have hx : (⟨l⟩ : Array Value)[k.toNat]? = none := by simpa using h
  simp only [hx]
  refine wpAny_bind (wpAny_rule (wpAny_bind (wpAny_setField ho rfl (by show 0 < 2; decide) ?_)))
  refine stop_wp hA ?_
  have hs := upd_size s.heap it (Obj.mapFields (·.setIfInBounds 0 .none))
  show R _ ⟨(((s.heap.update it (Obj.mapFields (·.setIfInBounds 0 .none))).push (tuO [] 0)).push (excO (s.heap.update it (Obj.mapFields (·.setIfInBounds 0 .none))).objs.size)), s.gens, s.drawn, s.toks, s.os⟩
  rw [hs]
  refine K (wit (fun n => if n = 2 then s.heap.objs.size else s.heap.objs.size + 1) (s.heap.objs.size + 2) s.toks) _ trivial (after_stop (o' := liI .none k) ho rfl rfl) ?_
  show _ = s.heap.objs.size + 2
  rw [Heap.size_push, Heap.size_push, hs]
noncomputable def cLIter (hl : Nat) (a : Addr) (l : List Value) (ep : Nat) : Ctr :=
  { code := .call (.builtin "list.__iter__") ⟨[.ref a], []⟩, reads := [(hl, (a, liO l ep))], newO := fun y => [(y 2, liI (.ref a) 0)], res := fun y => .ok (.ret (.ref (y 2))) }
theorem cLIter_ok {hl : Nat} {a : Addr} {l : List Value} {ep : Nat} : (cLIter hl a l ep).Valid prog w kt := by
  refine meets_valid F.slot_list_iter F.entry_list_iter (F.args_list_iter_1 _) (AutoListH.list___iter___list_0 a ⟨l⟩ ep) rfl fun A R s hA hrd hmu K => ?_
  have ho := hrd _ (.head _)
  refine ⟨typ_of ho rfl, ho, ?_⟩
  exact K (wit (fun _ => s.heap.objs.size) (s.heap.objs.size + 1) s.toks) _ trivial (after_push (o := liI (.ref a) 0) rfl) (Heap.size_push ..)

/-! a range's ints -/
noncomputable def raI (x left st : Int) : Obj := ⟨.type "range_iterator", none, .fields #[.int x 0, .int left 0, .int st 0], #[]⟩
theorem after_upd2 {h : Heap} {i : Nat} {a : Addr} {o o1 o' : Obj} {f g : Obj → Obj} (ho : h.get? a = some o) (hf : f o = o1) (hg : g o1 = o') (hx1 : o1.isFreed = false) (hx : o'.isFreed = false) :
    After h ((h.update a f).update a g) [(i, (a, o))] [o'] [] [] := by
  have z := after_upd (i := i) ho hf hx1
  have ho1 : (h.update a f).get? a = some o1 := z.hupd (i, (a, o1)) (.head _)
  have z2 := after_upd (i := i) ho1 hg hx
  exact ⟨fun b ob e hb => z2.keep b ob (z.keep b ob e hb) hb, rfl, z2.hupd, fun _ q => (nomatch q), List.nodup_nil, fun _ q => (nomatch q)⟩
noncomputable def cRNext (i : Nat) (it : Addr) (x left st : Int) : Ctr :=
  { code := .call (.builtin "range_iterator.__next__") ⟨[.ref it], []⟩, mus := [(i, (it, raI x left st))], upd := fun _ => [raI (x + st) (left - 1) st], res := fun y => .ok (.ret (.int x (y 2))) }
theorem cRNext_ok {i : Nat} {it : Addr} {x left st : Int} (h : 0 < left) : (cRNext i it x left st).Valid prog w kt := by
  refine meets_valid F.slot_range_iterator_next F.entry_range_iterator_next (F.args_range_iterator_next_1 _) (AutoRange.range_iterator___next___range_iterator_1 it x left st (by lia)) rfl fun A R s hA hrd hmu K => ?_
  have ho := hmu _ (.head _)
  refine ⟨typ_of ho rfl, ho, ?_⟩
  exact K (wit (fun _ => s.toks) _ (s.toks + 1)) _ trivial (after_upd2 ho rfl rfl rfl rfl) (by rw [upd_size, upd_size]; rfl)
noncomputable def cREnd (i : Nat) (it : Addr) (x left st : Int) : Ctr :=
  { code := .call (.builtin "range_iterator.__next__") ⟨[.ref it], []⟩, mus := [(i, (it, raI x left st))], upd := fun _ => [raI x left st], new := fun y => [(y 2, tuO [] 0), (y 3, excO (y 2))], res := fun y => .error (.ref (y 3)) }
theorem cREnd_ok {i : Nat} {it : Addr} {x left st : Int} (h : left ≤ 0) : (cREnd i it x left st).Valid prog w kt := by
  intro A R s _ hA _ hrd hmu _ K
  have ho := (hmu _ (.head _)).1
  refine slot_code F.slot_range_iterator_next (typ_of ho rfl) F.entry_range_iterator_next (F.args_range_iterator_next_1 _) ?_
  refine wpAny_bind (m := slotArgs "__next__" 0 _) (wpAny_pure ?_)
  refine wpAny_bind (wpAny_field ho rfl (x := .int x 0) rfl ?_)
  refine wpAny_bind (wpAny_field ho rfl (x := .int left 0) rfl ?_)
  refine wpAny_bind (wpAny_field ho rfl (x := .int st 0) rfl ?_)
  show wpAny _ _ (if left ≤ 0 then _ else _) _ _ s
  rw [if_pos h]
  refine wpAny_bind (wpAny_rule ?_)
  refine wpAny_bind (m := Builtin.SmallTypes.stopIteration) ?_
  show wpAny _ _ (do raiseNew (← newExc (.type "StopIteration") []) : Sem _) _ _ s
  refine stop_wp hA ?_
  have hs : After s.heap ((s.heap.push (tuO [] 0)).push (excO s.heap.objs.size)) [(i, (it, raI x left st))] [raI x left st] [] [(s.heap.objs.size, tuO [] 0), (s.heap.objs.size + 1, excO s.heap.objs.size)] := by
    refine ⟨fun b ob e _ => Heap.get?_push_of_some _ (Heap.get?_push_of_some _ e), rfl, fun e he => ?_, fun c hc => ?_, List.nodup_nil, fun _ _ q => (nomatch q)⟩
    · have : e = (i, (it, raI x left st)) := by
        unfold zipU at he
        cases he with
        | head => rfl
        | tail _ he => unfold zipU at he; cases he
      subst this
      exact Heap.get?_push_of_some _ (Heap.get?_push_of_some _ ho)
    · rw [List.nil_append] at hc
      cases hc with
      | head => exact ⟨get_top _, Heap.get?_push_of_some _ (Heap.get?_push_size _ rfl)⟩
      | tail _ hc =>
        cases hc with
        | tail _ hc => cases hc
        | head =>
          refine ⟨?_, ?_⟩
          · cases q : s.heap.get? (s.heap.objs.size + 1) with
            | none => rfl
            | some o => exact absurd (Heap.lt_size q) (Nat.not_lt.mpr (Nat.le_succ _))
          · have : (s.heap.push (tuO [] 0)).objs.size = s.heap.objs.size + 1 := by rw [Heap.size_push]
            rw [← this]; exact Heap.get?_push_size _ rfl
  exact K (wit (fun n => if n = 2 then s.heap.objs.size else s.heap.objs.size + 1) (s.heap.objs.size + 2) s.toks) _ trivial hs (by rw [Heap.size_push, Heap.size_push]; rfl)
noncomputable def cSumV (hl : Nat) (a : Addr) (l : List Value) (ep : Nat) (r : Int) : Ctr :=
  { code := .call (.builtin "sum") ⟨[.ref a], []⟩, reads := [(hl, (a, liO l ep))], res := fun y => .ok (.ret (.int r (y 2))) }
theorem cSumV_ok {hl : Nat} {a : Addr} {l : List Value} {ep : Nat} {r : Int} (ns : List (Int × Nat)) (e : inl ns = l) (h : (ns.map (·.1)).sum = r) : (cSumV hl a l ep r).Valid prog w kt := by
  subst e; exact cSum_ok h
end
section
variable {prog : Program} {w : World} {kt : KT}
/-! parts of a text -/
theorem take_succ_get {α : Type} : ∀ (l : List α) (k : Nat) (h : k < l.length), l.take (k + 1) = l.take k ++ [l[k]]
  | a :: l, 0, _ => rfl
  | a :: l, k + 1, h => by
    rw [List.take_succ_cons, List.take_succ_cons, List.cons_append]
    exact congrArg (a :: ·) (take_succ_get l k (by simpa using h))
theorem pick_run (l : List Nat) (a : Nat) : ∀ (k : Nat), a + k ≤ l.length → ((List.range k).map (a + ·)).filterMap ((⟨l⟩ : Array Nat)[·]?) = (l.drop a).take k
  | 0, _ => by simp
  | k + 1, h => by
    rw [List.range_succ, List.map_append, List.filterMap_append, pick_run l a k (by lia)]
    have hk : k < (l.drop a).length := by rw [List.length_drop]; lia
    rw [take_succ_get _ _ hk]
    have : a + k < l.length := by lia
    simp [this]
theorem seqIdx_pos {k : Int} {n : Nat} (h0 : 0 ≤ k) (hk : k < n) : seqIndex? k n = some k.toNat := by
  unfold seqIndex?
  have : ¬ k < 0 := by lia
  simp only [this, if_false]
  rw [if_pos (by simp; lia)]
noncomputable def strOfL (l : List Nat) : PySem.Str := ⟨⟨l⟩⟩
noncomputable def cStrSl (hs : Nat) (x : PySem.Str) (t : Nat) (sa : Addr) (lo hi : Value) (r : PySem.Str) : Ctr :=
  { code := .call (.builtin "str.__getitem__") ⟨[.str x t, .ref sa], []⟩, reads := [(hs, (sa, slO lo hi .none))], res := fun y => .ok (.ret (.str r (y 2))) }
theorem cStrSl_ok {hs : Nat} {l : List Nat} {t : Nat} {sa : Addr} {lo hi : Value} {r : List Nat} (lo' hi' : Option (Int × Nat)) (el : lo = partValue lo') (eh : hi = partValue hi') (a b : Nat) (hab : a + b ≤ l.length)
    (hp : Builtin.Str.strSliceIndices (lo'.map (·.1)) (hi'.map (·.1)) 1 l.length = (List.range b).map (a + ·)) (hr : r = (l.drop a).take b) (hz : l.length ≤ 1000) : (cStrSl hs ⟨⟨l⟩⟩ t sa lo hi ⟨⟨r⟩⟩).Valid prog w kt := by
  refine meets_valid F.slot_str_getitem F.entry_str_getitem (F.args_str_getitem_2 _ _) (meets_str_getitem_slice ⟨⟨l⟩⟩ t sa lo' hi' none rfl) rfl fun A R s hA hrd hmu K => ?_
  have ho := hrd _ (.head _)
  refine ⟨typeIs_str _ _ _, ⟨_, ho, rfl, by subst el eh; rfl⟩, ?_⟩
  have hpk : slicePicked ⟨⟨l⟩⟩ lo' hi' none = (List.range b).map (a + ·) := hp
  refine made_post (res := fun t => .str ⟨⟨r⟩⟩ t) ?_ fun t tk => K (wit (fun _ => t) s.heap.objs.size tk) s.heap trivial (after_same _) rfl
  unfold sliceMade
  rw [hpk]
  have hpick : ((List.range b).map (a + ·)).filterMap ((⟨⟨l⟩⟩ : PySem.Str).cps[·]?) = r := by rw [hr]; exact pick_run l a b hab
  rw [hpick]
  split
  · rename_i q
    have q2 : b = l.length := by simpa [PySem.Str.length] using q
    refine ⟨t, ?_⟩
    have : a = 0 := by lia
    rw [hr, this, q2]
    simp
  · refine ⟨?_, fun t => rfl⟩
    show r.length ≤ sizeLine
    rw [hr, List.length_take]
    exact Nat.le_trans (Nat.min_le_left _ _) (by rw [sizeLine_eq]; lia)
theorem idx_from (i : Int) (n : Nat) (h0 : 0 ≤ i) (hn : i ≤ n) : Builtin.Str.strSliceIndices (some i) none 1 n = (List.range (n - i.toNat)).map (i.toNat + ·) := by
  obtain ⟨k, rfl⟩ := Int.eq_ofNat_of_zero_le h0
  have e : Builtin.Str.strSliceIndices (some (k : Int)) none 1 n = sliceRange (max 0 (min (if (k : Int) < 0 then (k : Int) + n else k) n)) n 1 := rfl
  rw [e, if_neg (by lia), show max (0 : Int) (min (k : Int) n) = k by lia, sliceRange_one]
  rfl
theorem idx_all (n : Nat) : Builtin.Str.strSliceIndices none none 1 n = (List.range n).map (0 + ·) := by
  have e : Builtin.Str.strSliceIndices none none 1 n = sliceRange ((0 : Nat) : Int) n 1 := rfl
  rw [e, sliceRange_one]; rfl
theorem idx_to (k n : Nat) (hk : 0 < k) (hn : k ≤ n) : Builtin.Str.strSliceIndices none (some (-(k : Int))) 1 n = (List.range (n - k)).map (0 + ·) := by
  have e : Builtin.Str.strSliceIndices none (some (-(k : Int))) 1 n = sliceRange ((0 : Nat) : Int) (max 0 (min (if (-(k : Int)) < 0 then -(k : Int) + n else -(k : Int)) n)) 1 := rfl
  rw [e, if_pos (by lia), show max (0 : Int) (min (-(k : Int) + n) n) = ((n - k : Nat) : Int) by lia, sliceRange_one]
  rfl
/-- the part from a place on -/
theorem cStrFrom_ok {hs : Nat} {l : List Nat} {t : Nat} {sa : Addr} {i : Int} {u : Nat} {r : List Nat} (h0 : 0 ≤ i) (hr : l.drop i.toNat = r) (hn : i ≤ l.length) (hz : l.length ≤ 1000) : (cStrSl hs ⟨⟨l⟩⟩ t sa (.int i u) .none ⟨⟨r⟩⟩).Valid prog w kt :=
  cStrSl_ok (some (i, u)) none rfl rfl i.toNat (l.length - i.toNat) (by lia) (idx_from i l.length h0 hn) (by rw [← hr, List.take_of_length_le (by rw [List.length_drop]; lia)]) hz
theorem cStrAll_ok {hs : Nat} {l : List Nat} {t : Nat} {sa : Addr} (hz : l.length ≤ 1000) : (cStrSl hs ⟨⟨l⟩⟩ t sa .none .none ⟨⟨l⟩⟩).Valid prog w kt :=
  cStrSl_ok none none rfl rfl 0 l.length (by lia) (idx_all l.length) (by simp) hz
theorem cStrTo_ok {hs : Nat} {l : List Nat} {t : Nat} {sa : Addr} {p : Int} {k u : Nat} {r : List Nat} (hp : p = -(k : Int)) (hk : 0 < k) (hn : k ≤ l.length) (hr : l.take (l.length - k) = r) (hz : l.length ≤ 1000) : (cStrSl hs ⟨⟨l⟩⟩ t sa .none (.int p u) ⟨⟨r⟩⟩).Valid prog w kt := by
  subst hp
  exact cStrSl_ok none (some (-(k : Int), u)) rfl rfl 0 (l.length - k) (by lia) (idx_to k l.length hk hn) (by rw [← hr]; simp) hz
noncomputable def cStrAt (x : PySem.Str) (t : Nat) (k : Int) (u : Nat) (c : Nat) : Ctr := cB "str.__getitem__" [.str x t, .int k u] fun t => .str ⟨⟨[c]⟩⟩ t
theorem cStrAt_okI {x : PySem.Str} {t : Nat} {k : Int} {u c : Nat} (hr : (decide (k < -(2 ^ 63 : Int)) || decide (k ≥ 2 ^ 63)) = false) (h : (seqIndex? k x.length).bind (x.cps[·]?) = some c) : (cStrAt x t k u c).Valid prog w kt :=
  cB_valid F.slot_str_getitem (fun s => typeIs_str s _ _) F.entry_str_getitem (F.args_str_getitem_2 _ _) (gives_str_getitem x k t u c hr h) ⟨by show 1 ≤ sizeLine; decide, fun t => rfl⟩
theorem cStrAt_ok {l : List Nat} {t : Nat} {k : Int} {u c : Nat} (h0 : 0 ≤ k) (hk : k ≤ 1000) (h : l[k.toNat]? = some c) : (cStrAt ⟨⟨l⟩⟩ t k u c).Valid prog w kt := by
  refine cStrAt_okI (by simp; lia) ?_
  have hl : k.toNat < l.length := by
    rcases Nat.lt_or_ge k.toNat l.length with q | q
    · exact q
    · rw [List.getElem?_eq_none q] at h; cases h
  rw [seqIdx_pos (n := (⟨⟨l⟩⟩ : PySem.Str).length) h0 (by show k < (l.length : Nat); lia)]
  simpa using h
theorem cStrAt_neg {l : List Nat} {t : Nat} {p : Int} {k u c : Nat} (hp : p = -(k : Int)) (hk : 0 < k) (hl : k ≤ l.length) (hz : l.length ≤ 1000) (h : l[l.length - k]? = some c) : (cStrAt ⟨⟨l⟩⟩ t p u c).Valid prog w kt := by
  subst hp
  refine cStrAt_okI (by simp; lia) ?_
  rw [MeetsSeq.seqIndex_neg (n := (⟨⟨l⟩⟩ : PySem.Str).length) (by lia) (by show 0 ≤ -(k : Int) + (l.length : Nat); lia)]
  have : (-(k : Int) + ((⟨⟨l⟩⟩ : PySem.Str).length : Nat)).toNat = l.length - k := by show (-(k : Int) + (l.length : Nat)).toNat = _; lia
  rw [this]
  simpa using h
/-! len -/
theorem lenB_code {v : Value} {k : Int} {A : Around} {R : Result → Shared → Prop} {s : Shared}
    (h : ∀ (A : Around), wpAny (model prog w) A (Builtin.«len» ⟨[v], []⟩) (fun fin s' => ∃ r, fin = .done (.ret r) ∧ (∃ t tk, r = .int k t ∧ s' = { s with toks := tk })) (fun e s' => False) s)
    (K : ∀ t tk, R (.ok (.ret (.int k t))) { s with toks := tk }) : codeAny (model prog w) A (.builtin "len" ⟨[v], []⟩) R s := by
  refine codeAny_builtin entry_len ?_
  rw [Around.under_plainId plain_len _]
  exact wpAny_mono (h _) (fun fin s' h' => by obtain ⟨r, rfl, t, tk, rfl, rfl⟩ := h'; exact K t tk) fun _ _ e => e.elim
theorem lenC_code {v : Value} {k : Int} {A : Around} {R : Result → Shared → Prop} {s : Shared}
    (h : ∀ (A : Around), wpAny (model prog w) A (Builtin.«len» ⟨[v], []⟩) (fun fin s' => ∃ r, fin = .done (.ret r) ∧ (∃ t tk, r = .int k t ∧ s' = { s with toks := tk })) (fun e s' => False) s)
    (K : ∀ t tk, R (.ok (.ret (.int k t))) { s with toks := tk }) : codeAny (model prog w) A (.call (.builtin "len") ⟨[v], []⟩) R s := by
  refine fn_tree kind_len plain_len entry_len (args_len1 _) ?_
  exact wpAny_mono (h _) (fun fin s' h' => by obtain ⟨r, rfl, t, tk, rfl, rfl⟩ := h'; exact K t tk) fun _ _ e => e.elim
noncomputable def cLenSB (x : PySem.Str) (t : Nat) (k : Int) : Ctr := { code := .builtin "len" ⟨[.str x t], []⟩, res := fun y => .ok (.ret (.int k (y 2))) }
noncomputable def cLenS (x : PySem.Str) (t : Nat) (k : Int) : Ctr := { code := .call (.builtin "len") ⟨[.str x t], []⟩, res := fun y => .ok (.ret (.int k (y 2))) }
theorem lenS_wp {l : List Nat} {t : Nat} {k : Int} (h : k = l.length) (hz : l.length ≤ 1000) (s : Shared) (A : Around) :
    wpAny (model prog w) A (Builtin.«len» ⟨[.str ⟨⟨l⟩⟩ t], []⟩) (fun fin s' => ∃ r, fin = .done (.ret r) ∧ (∃ t tk, r = .int k t ∧ s' = { s with toks := tk })) (fun e s' => False) s := by
  subst h
  exact wpAny_len_body (Q := fun r s' => ∃ t tk, r = .int (l.length : Nat) t ∧ s' = { s with toks := tk }) (typeIs_str s ⟨⟨l⟩⟩ t) F.slot_str_len F.entry_str_len (F.args_str_len_1 _) (gives_str_len ⟨⟨l⟩⟩ t) (show ¬ ((l.length : Nat) : Int) < 0 by lia) (show ¬ ((l.length : Nat) : Int) ≥ 2 ^ 63 by lia) ⟨_, _, rfl, rfl⟩
theorem cLenSB_ok {l : List Nat} {t : Nat} {k : Int} (h : k = l.length) (hz : l.length ≤ 1000) : (cLenSB ⟨⟨l⟩⟩ t k).Valid prog w kt := fun A R s _ _ _ _ _ _ K =>
  lenB_code (lenS_wp h hz s) fun t tk => K (wit (fun _ => t) s.heap.objs.size tk) s.heap trivial (after_same _) rfl
theorem cLenS_ok {l : List Nat} {t : Nat} {k : Int} (h : k = l.length) (hz : l.length ≤ 1000) : (cLenS ⟨⟨l⟩⟩ t k).Valid prog w kt := fun A R s _ _ _ _ _ _ K =>
  lenC_code (lenS_wp h hz s) fun t tk => K (wit (fun _ => t) s.heap.objs.size tk) s.heap trivial (after_same _) rfl
noncomputable def cLenLB (hl : Nat) (a : Addr) (l : List Value) (ep : Nat) (k : Int) : Ctr := { code := .builtin "len" ⟨[.ref a], []⟩, reads := [(hl, (a, liO l ep))], res := fun y => .ok (.ret (.int k (y 2))) }
noncomputable def cLenL (hl : Nat) (a : Addr) (l : List Value) (ep : Nat) (k : Int) : Ctr := { code := .call (.builtin "len") ⟨[.ref a], []⟩, reads := [(hl, (a, liO l ep))], res := fun y => .ok (.ret (.int k (y 2))) }
theorem lenL_wp {a : Addr} {l : List Value} {ep : Nat} {k : Int} (h : k = l.length) (hz : l.length ≤ 1000) (s : Shared) (ho : s.heap.get? a = some (liO l ep)) (A : Around) :
    wpAny (model prog w) A (Builtin.«len» ⟨[.ref a], []⟩) (fun fin s' => ∃ r, fin = .done (.ret r) ∧ (∃ t tk, r = .int k t ∧ s' = { s with toks := tk })) (fun e s' => False) s := by
  subst h
  exact wpAny_len_body_list (Q := fun r s' => ∃ t tk, r = .int (l.length : Nat) t ∧ s' = { s with toks := tk }) (isList_of ho) (show ((l.length : Nat) : Int) < 2 ^ 63 by lia) ⟨_, _, rfl, rfl⟩
theorem cLenLB_ok {hl : Nat} {a : Addr} {l : List Value} {ep : Nat} {k : Int} (h : k = l.length) (hz : l.length ≤ 1000) : (cLenLB hl a l ep k).Valid prog w kt := fun A R s _ _ _ hrd _ _ K =>
  lenB_code (lenL_wp h hz s (hrd _ (.head _)).1) fun t tk => K (wit (fun _ => t) s.heap.objs.size tk) s.heap trivial (after_same _) rfl
theorem cLenL_ok {hl : Nat} {a : Addr} {l : List Value} {ep : Nat} {k : Int} (h : k = l.length) (hz : l.length ≤ 1000) : (cLenL hl a l ep k).Valid prog w kt := fun A R s _ _ _ hrd _ _ K =>
  lenC_code (lenL_wp h hz s (hrd _ (.head _)).1) fun t tk => K (wit (fun _ => t) s.heap.objs.size tk) s.heap trivial (after_same _) rfl
noncomputable def cLenTB (hl : Nat) (a : Addr) (l : List Value) (ep : Nat) (k : Int) : Ctr := { code := .builtin "len" ⟨[.ref a], []⟩, reads := [(hl, (a, tuO l ep))], res := fun y => .ok (.ret (.int k (y 2))) }
theorem cLenTB_ok {hl : Nat} {a : Addr} {l : List Value} {ep : Nat} {k : Int} (h : k = l.length) (hz : l.length ≤ 1000) : (cLenTB hl a l ep k).Valid prog w kt := fun A R s _ _ _ hrd _ _ K => by
  refine lenB_code (k := k) (fun A => ?_) fun t tk => K (wit (fun _ => t) s.heap.objs.size tk) s.heap trivial (after_same _) rfl
  subst h
  have ho := (hrd _ (.head _)).1
  exact len_body_tuple (Q := fun r s' => ∃ t tk, r = .int (l.length : Nat) t ∧ s' = { s with toks := tk }) ⟨_, ho, rfl, _, rfl⟩ (show ((l.length : Nat) : Int) < 2 ^ 63 by lia) ⟨_, _, rfl, rfl⟩
end
noncomputable def rgO (a b c : Int) (t u v : Nat) : Obj := ⟨.type "range", none, .fields #[.int a t, .int b u, .int c v], #[]⟩
section
variable {prog : Program} {w : World} {kt : KT}
noncomputable def cRIter (hr : Nat) (r : Addr) (a b c : Int) (t u v : Nat) (n : Int) : Ctr :=
  { code := .call (.builtin "range.__iter__") ⟨[.ref r], []⟩, reads := [(hr, (r, rgO a b c t u v))], newO := fun y => [(y 2, raI a n c)], res := fun y => .ok (.ret (.ref (y 2))) }
theorem cRIter_ok {hr : Nat} {r : Addr} {a b c : Int} {t u v : Nat} {n : Int} (hn : Builtin.Range.rangeSize a b c = n) (h1 : -1000000 ≤ a ∧ a ≤ 1000000) (h2 : -1000000 ≤ b ∧ b ≤ 1000000) (h3 : 1 ≤ c ∧ c ≤ 1000000) (h4 : 0 ≤ n ∧ n ≤ 1000000) :
    (cRIter hr r a b c t u v n).Valid prog w kt := by
  have fits : ∀ i : Int, -3000000 ≤ i → i ≤ 3000000 → Builtin.Range.rangeFitsLong i = true := fun i q1 q2 => by
    unfold Builtin.Range.rangeFitsLong
    simp; lia
  have hfit : (Builtin.Range.rangeFitsLong a && Builtin.Range.rangeFitsLong b && Builtin.Range.rangeFitsLong c && Builtin.Range.rangeFitsLong (Builtin.Range.rangeSize a b c) && (Builtin.Range.rangeSize a b c == 0 || if c > 0 then Builtin.Range.rangeFitsLong (b + (c - 1)) else Builtin.Range.rangeFitsLong (b + (c + 1)))) = true := by
    rw [hn, fits a (by lia) (by lia), fits b (by lia) (by lia), fits c (by lia) (by lia), fits n (by lia) (by lia), if_pos (by lia), fits _ (by lia) (by lia)]
    simp
  refine meets_valid F.slot_range_iter F.entry_range_iter (F.args_range_iter_1 _) (AutoRange.range___iter___range_1 r a b c t u v (by rw [hfit]; decide)) rfl fun A R s hA hrd hmu K => ?_
  have ho := hrd _ (.head _)
  refine ⟨typ_of ho rfl, ho, ?_⟩
  rw [hfit, if_pos rfl, hn]
  exact K (wit (fun _ => s.heap.objs.size) (s.heap.objs.size + 1) s.toks) _ trivial (after_push (o := raI a n c) rfl) (Heap.size_push ..)

noncomputable def cListNew (v : Value) : Ctr := { code := .call (.builtin "list.__new__") ⟨[.type "list", v], []⟩, newO := fun y => [(y 2, liO [] 0)], res := fun y => .ok (.ret (.ref (y 2))) }
theorem wants_ok {Q : Value → Shared → Prop} {E : Value → Shared → Prop} {R : Result → Shared → Prop} (hQ : ∀ v s, Q v s → R (.ok (.ret v)) s) (hE : ∀ e s, E e s → R (.error e) s) : ∀ r s, wants Q E r s → R r s := by
  intro r s h
  cases r with
  | ok f => cases f with
    | ret v => exact hQ v s h
    | _ => exact h.elim
  | error e => exact hE e s h
theorem cListNew_ok {v : Value} : (cListNew v).Valid prog w kt := by
  intro A R s _ _ _ _ _ _ K
  refine codeAny_mono (code_list_new (E := fun e s => R (.error e) s) (Q₁ := fun v s => R (.ok (.ret v)) s) v ?_) (wants_ok (fun _ _ q => q) fun _ _ q => q)
  exact K (wit (fun _ => s.heap.objs.size) (s.heap.objs.size + 1) s.toks) _ trivial (after_push (o := liO [] 0) rfl) (Heap.size_push ..)

/-- ints with witnesses as tokens -/
noncomputable def zipI (l : List Int) (ts : List Nat) : List Value := inl (l.zip ts)
noncomputable def rgL (a c : Int) (n : Nat) : List Int := (List.range n).map fun (i : Nat) => a + (i : Int) * c
noncomputable def tokV : Value → Nat
  | .int _ t => t
  | _ => 0
theorem items_zip {a c : Int} {acc : Array Value} {n : Nat} (h : ItemsOf (fun i v => ∃ t, v = .int (a + i * c) t) acc n) : acc.toList = zipI (rgL a c n) (acc.toList.map tokV) := by
  obtain ⟨h1, h2⟩ := h
  apply List.ext_getElem
  · simp [zipI, inl, rgL, h1]
  · intro i q1 q2
    obtain ⟨t, ht⟩ := h2 i acc.toList[i] (by simp at q1 ⊢)
    simp only [zipI, inl, rgL, List.getElem_map, List.getElem_zip, List.getElem_range]
    rw [ht]; rfl
noncomputable def cListInitR (i hr : Nat) (S r : Addr) (a b c : Int) (t u v : Nat) (n : Nat) : Ctr :=
  { code := .call (.builtin "list.__init__") ⟨[.ref S, .ref r], []⟩, reads := [(hr, (r, rgO a b c t u v))], mus := [(i, (S, liO [] 0))], upd := fun y => [liO (zipI (rgL a c n) (lsO 8 y n)) (y 2)], res := fun _ => .ok (.ret .none) }
theorem cListInitR_ok {i hr : Nat} {S r : Addr} {a b c : Int} {t u v n : Nat} (hn : Builtin.Range.rangeSize a b c = (n : Int)) (hsm : Builtin.Range.small a b c = true) (hlen : n ≤ 1000) : (cListInitR i hr S r a b c t u v n).Valid prog w kt := by
  intro A R s _ hA _ hrd hmu _ K
  have ho := (hmu _ (.head _)).1
  have hor := (hrd _ (.head _)).1
  refine codeAny_call_builtin F.slot_list_init.plain F.entry_list_init (F.slot_list_init.check _ _ _ _ _ _ _ _ (typ_of ho rfl) (F.args_list_init_2 _ _) ?_)
  refine wpAny_list_init_range (A := A) hA hor hsm hn (by lia) S ho fun h' tk acc' c' hk hS' hacc => ?_
  have e := items_zip hacc
  have hl : (acc'.toList.map tokV).length = n := by simp [hacc.1]
  refine K (wit (mkO 8 (fun _ => c') (acc'.toList.map tokV)) h'.objs.size tk) h' trivial ⟨fun b o q hb => hk b o (fun q' => hb (by subst q'; exact .head _)) q, rfl, fun e' he' => ?_, fun _ q => (nomatch q), List.nodup_nil, fun _ q => (nomatch q)⟩ rfl
  have : e' = (i, (S, liO acc'.toList c')) := by
    have z : [liO (zipI (rgL a c n) (lsO 8 (wit (mkO 8 (fun _ => c') (acc'.toList.map tokV)) h'.objs.size tk) n)) (wit (mkO 8 (fun _ => c') (acc'.toList.map tokV)) h'.objs.size tk 2)] = [liO acc'.toList c'] := by
      rw [lsO_wit _ _ _ _ (by decide), lsO_mk' hl, ← e]; rfl
    have he2 : e' ∈ zipU [(i, (S, liO [] 0))] [liO acc'.toList c'] := by rw [← z]; exact he'
    unfold zipU at he2
    cases he2 with
    | head => rfl
    | tail _ he => unfold zipU at he; cases he
  subst this
  exact hS'
noncomputable def cSetV (i : Nat) (a : Addr) (l : List Value) (ep : Nat) (k : Int) (t : Nat) (v : Value) (l' : List Value) : Ctr :=
  { code := .call (.builtin "list.__setitem__") ⟨[.ref a, .int k t, v], []⟩, mus := [(i, (a, liO l ep))], upd := fun _ => [liO l' ep], res := fun _ => .ok (.ret .none) }
theorem cSetV_ok {i : Nat} {a : Addr} {l : List Value} {ep : Nat} {k : Int} {t : Nat} {v : Value} {l' : List Value} (h0 : 0 ≤ k) (hf : k < 2 ^ 63) (hk : k < l.length) (e : l.set k.toNat v = l') : (cSetV i a l ep k t v l').Valid prog w kt := by
  subst e; exact cSet_ok h0 hf hk
end
/-! joined and split texts -/
noncomputable def joinL (s : List Nat) : List (List Nat) → List Nat
  | [] => []
  | l :: r => match r with
    | [] => l
    | _ :: _ => l ++ (s ++ joinL s r)
theorem joinL_two (s l m : List Nat) (r : List (List Nat)) : joinL s (l :: m :: r) = l ++ (s ++ joinL s (m :: r)) := rfl
theorem joinL_free {c : Nat} {l : List Nat} {r : List (List Nat)} (h : ∀ p ∈ l :: r, c ∉ p) : (joinL [c] (l :: r)).takeWhile (· != c) = l ∧ (joinL [c] (l :: r)).dropWhile (· != c) = (match r with | [] => [] | _ :: _ => c :: joinL [c] r) := by
  have hl : ∀ x ∈ l, (x != c) = true := fun x hx => by rw [bne_iff_ne]; intro e; subst e; exact h l (.head _) hx
  have t1 : ∀ m : List Nat, (l ++ m).takeWhile (· != c) = l ++ m.takeWhile (· != c) := fun m => List.takeWhile_append_of_pos hl
  have t2 : ∀ m : List Nat, (l ++ m).dropWhile (· != c) = m.dropWhile (· != c) := fun m => List.dropWhile_append_of_pos hl
  cases r with
  | nil =>
    have a := t1 []
    have b := t2 []
    rw [List.append_nil] at a b
    exact ⟨by show l.takeWhile _ = l; rw [a]; simp, by show l.dropWhile _ = []; rw [b]; rfl⟩
  | cons m r =>
    refine ⟨?_, ?_⟩
    · rw [joinL_two, t1]; simp
    · rw [joinL_two, t2]; simp
theorem joinL_inj {c : Nat} : ∀ (P L : List (List Nat)), P ≠ [] → L ≠ [] → (∀ p ∈ P, c ∉ p) → (∀ p ∈ L, c ∉ p) → joinL [c] P = joinL [c] L → P = L := by
  intro P
  induction P with
  | nil => intro L h; exact absurd rfl h
  | cons p P ih =>
    intro L _ hL hP hLf e
    cases L with
    | nil => exact absurd rfl hL
    | cons l L =>
      obtain ⟨a1, a2⟩ := joinL_free hP
      obtain ⟨b1, b2⟩ := joinL_free hLf
      rw [e] at a1 a2
      have e1 : p = l := a1.symm.trans b1
      have e2 := a2.symm.trans b2
      subst e1
      cases P with
      | nil => cases L with
        | nil => rfl
        | cons l' L => cases e2
      | cons p' P => cases L with
        | nil => cases e2
        | cons l' L =>
          have e3 : joinL [c] (p' :: P) = joinL [c] (l' :: L) := by
            have : c :: joinL [c] (p' :: P) = c :: joinL [c] (l' :: L) := e2
            injection this
          rw [ih (l' :: L) (by simp) (by simp) (fun q hq => hP q (.tail _ hq)) (fun q hq => hLf q (.tail _ hq)) e3]
noncomputable def strV : List (List Nat) → List Nat → List Value
  | l :: ls, t :: ts => .str ⟨⟨l⟩⟩ t :: strV ls ts
  | _, _ => []
noncomputable def toL (x : PySem.Str) : List Nat := x.cps.toList
theorem toL_mk (x : PySem.Str) : (⟨⟨toL x⟩⟩ : PySem.Str) = x := rfl
theorem join_toL (s : PySem.Str) : ∀ (l : List PySem.Str), toL (Str.join s l) = joinL (toL s) (l.map toL)
  | [] => rfl
  | [x] => rfl
  | x :: y :: r => by
    show toL (x ++ s ++ Str.join s (y :: r)) = _
    rw [List.map_cons, List.map_cons, joinL_two, ← List.map_cons, ← join_toL s (y :: r)]
    unfold toL
    rw [PySem.Str.cps_append, PySem.Str.cps_append, Array.toList_append, Array.toList_append, List.append_assoc]
theorem split_is {L : List (List Nat)} {c : Nat} (hL : L ≠ []) (hf : ∀ p ∈ L, c ∉ p) : (Txt.split ⟨⟨joinL [c] L⟩⟩ ⟨⟨[c]⟩⟩).map toL = L := by
  refine joinL_inj (c := c) _ _ ?_ hL ?_ hf ?_
  · intro q
    have : Txt.split ⟨⟨joinL [c] L⟩⟩ ⟨⟨[c]⟩⟩ = [] := List.map_eq_nil_iff.mp q
    unfold Txt.split at this
    split at this
    · cases this
    · split at this
      · cases this
      · unfold Builtin.Str.partsBetween at this
        have := congrArg List.length this
        simp at this
  · intro p hp
    obtain ⟨x, hx, rfl⟩ := List.mem_map.mp hp
    exact StrLaws.split_free _ c x hx
  · show joinL (toL ⟨⟨[c]⟩⟩) _ = _
    rw [← join_toL, StrLaws.join_split]; rfl
section
variable {prog : Program} {w : World} {kt : KT}
theorem strV_len : ∀ (L : List (List Nat)) (ts : List Nat), ts.length = L.length → (strV L ts).length = L.length
  | [], _, _ => rfl
  | l :: L, [], h => by cases h
  | l :: L, t :: ts, h => by
    show (strV L ts).length + 1 = _
    rw [strV_len L ts (by simpa using h), List.length_cons]
theorem strsFrom_is : ∀ (l : List PySem.Str) (tk : Nat), strsFrom tk l = strV (l.map toL) (List.range' tk l.length)
  | [], _ => rfl
  | x :: l, tk => by
    rw [List.length_cons, List.range'_succ, List.map_cons]
    show _ = .str ⟨⟨toL x⟩⟩ tk :: strV (l.map toL) (List.range' (tk + 1) l.length)
    rw [← strsFrom_is l (tk + 1)]; rfl
noncomputable def cSplit (x y : List Nat) (t u : Nat) (L : List (List Nat)) : Ctr :=
  { code := .call (.builtin "str.split") ⟨[.str ⟨⟨x⟩⟩ t, .str ⟨⟨y⟩⟩ u], []⟩, newO := fun z => [(z 2, liO (strV L (lsO 8 z L.length)) 0)], res := fun z => .ok (.ret (.ref (z 2))) }
theorem cSplit_ok {x : List Nat} {c t u : Nat} {L : List (List Nat)} (hL : L ≠ []) (hf : ∀ p ∈ L, c ∉ p) (e : x = joinL [c] L) (hz : x.length ≤ 1000) : (cSplit x [c] t u L).Valid prog w kt := by
  subst e
  have hs := split_is hL hf
  have fin : ∀ (A : Around) (R : Result → Shared → Prop) (s : Shared) (ts : List Nat) (tk : Nat), ts.length = L.length →
      (∀ x h', (cSplit (joinL [c] L) [c] t u L).post x → After s.heap h' [] ((cSplit (joinL [c] L) [c] t u L).upd x) ((cSplit (joinL [c] L) [c] t u L).newO x) [] → h'.objs.size = x 0 → R ((cSplit (joinL [c] L) [c] t u L).res x) ⟨h', s.gens, s.drawn, x 1, s.os⟩) →
      R (.ok (.ret (.ref s.heap.objs.size))) { s with toks := tk, heap := s.heap.push (liO (strV L ts) 0) } := fun A R s ts tk hts K => by
    have := K (wit (mkO 8 (fun _ => s.heap.objs.size) ts) (s.heap.objs.size + 1) tk) (s.heap.push (liO (strV L ts) 0)) trivial (by
      have z := after_push (h := s.heap) (o := liO (strV L ts) 0) rfl
      show After _ _ [] [] [(s.heap.objs.size, liO (strV L (lsO 8 (wit (mkO 8 (fun _ => s.heap.objs.size) ts) (s.heap.objs.size + 1) tk) L.length)) 0)] []
      rw [lsO_wit _ _ _ _ (by decide), lsO_mk' hts]
      exact z) (Heap.size_push ..)
    exact this
  have hxl : (⟨⟨joinL [c] L⟩⟩ : PySem.Str).length = (joinL [c] L).length := rfl
  have one : Txt.split ⟨⟨joinL [c] L⟩⟩ ⟨⟨[c]⟩⟩ = [⟨⟨joinL [c] L⟩⟩] → L = [joinL [c] L] := fun q => by
    rw [q] at hs
    exact hs.symm
  by_cases h1 : (decide ((⟨⟨joinL [c] L⟩⟩ : PySem.Str).length < (⟨⟨[c]⟩⟩ : PySem.Str).length) || decide (Builtin.Str.strKind ⟨⟨joinL [c] L⟩⟩ < Builtin.Str.strKind ⟨⟨[c]⟩⟩)) = true
  · refine meets_valid F.slot_str_split F.entry_str_split (F.args_str_split_2 _ _) (meets_str_split_cannot_occur ⟨⟨joinL [c] L⟩⟩ ⟨⟨[c]⟩⟩ t u h1) rfl fun A R s hA hrd hmu K => ⟨typeIs_str _ _ _, ?_⟩
    have e1 := one (by unfold Txt.split; rw [if_pos h1])
    have z := fin A R s [t] s.toks (by rw [e1]; rfl) K
    have e2 : strV L [t] = [.str ⟨⟨joinL [c] L⟩⟩ t] := by
      have : ∀ M, L = [M] → strV L [t] = [.str ⟨⟨M⟩⟩ t] := fun M q => by rw [q]; rfl
      exact this _ e1
    rw [e2] at z
    exact z
  · have h1' := Bool.eq_false_iff.mpr h1
    by_cases hf' : (Builtin.Str.occurrences ⟨⟨joinL [c] L⟩⟩ ⟨⟨[c]⟩⟩ 0 (⟨⟨joinL [c] L⟩⟩ : PySem.Str).length ((⟨⟨joinL [c] L⟩⟩ : PySem.Str).length + 1)).isEmpty = true
    · refine meets_valid F.slot_str_split F.entry_str_split (F.args_str_split_2 _ _) (meets_str_split_not_found ⟨⟨joinL [c] L⟩⟩ ⟨⟨[c]⟩⟩ t u h1' rfl hf') rfl fun A R s hA hrd hmu K => ⟨typeIs_str _ _ _, ?_⟩
      have e1 := one (by unfold Txt.split; rw [if_neg h1, if_pos hf'])
      have z := fin A R s [t] s.toks (by rw [e1]; rfl) K
      have e2 : strV L [t] = [.str ⟨⟨joinL [c] L⟩⟩ t] := by
        have : ∀ M, L = [M] → strV L [t] = [.str ⟨⟨M⟩⟩ t] := fun M q => by rw [q]; rfl
        exact this _ e1
      rw [e2] at z
      exact z
    · have hsp : Txt.split ⟨⟨joinL [c] L⟩⟩ ⟨⟨[c]⟩⟩ = Builtin.Str.partsBetween ⟨⟨joinL [c] L⟩⟩ (Builtin.Str.occurrences ⟨⟨joinL [c] L⟩⟩ ⟨⟨[c]⟩⟩ 0 (⟨⟨joinL [c] L⟩⟩ : PySem.Str).length ((⟨⟨joinL [c] L⟩⟩ : PySem.Str).length + 1)) 1 := by
        unfold Txt.split; rw [if_neg h1, if_neg hf']; rfl
      rw [hsp] at hs
      have hlen := congrArg List.length hs
      rw [List.length_map] at hlen
      have hLl : L.length ≤ (joinL [c] L).length + 1 := by
        clear hs hsp hlen fin one h1 h1' hf'
        induction L with
        | nil => exact absurd rfl hL
        | cons l L ih => cases L with
          | nil => simp
          | cons m L =>
            have := ih (by simp) (fun p hp => hf p (.tail _ hp)) (by rw [joinL_two] at hz; simp at hz; lia) rfl
            rw [joinL_two]; simp at this ⊢; lia
      refine meets_valid F.slot_str_split F.entry_str_split (F.args_str_split_2 _ _) (meets_str_split_sep ⟨⟨joinL [c] L⟩⟩ ⟨⟨[c]⟩⟩ t u h1' rfl (Bool.eq_false_iff.mpr hf') ?_ ?_) rfl fun A R s hA hrd hmu K => ⟨typeIs_str _ _ _, ?_⟩
      · rw [hxl]; rw [sizeLine_eq]; lia
      · show (Builtin.Str.partsBetween _ _ 1).length ≤ sizeLine
        rw [hlen, sizeLine_eq]; lia
      · have z := fin A R s (List.range' s.toks L.length) (s.toks + L.length) (by simp) K
        show R _ { s with toks := s.toks + (Builtin.Str.partsBetween _ _ 1).length, heap := s.heap.push { cls := .type "list", data := .seq (strsFrom s.toks (Builtin.Str.partsBetween _ _ 1)).toArray } }
        rw [strsFrom_is, hs, hlen]
        exact z

/-! join -/
theorem strV_values : ∀ (L : List (List Nat)) (ts : List Nat), ts.length = L.length → strV L ts = strValues ((L.map fun l => (⟨⟨l⟩⟩ : PySem.Str)).zip ts)
  | [], _, _ => by simp [strV, strValues]
  | l :: L, [], h => by cases h
  | l :: L, t :: ts, h => by
    show Value.str ⟨⟨l⟩⟩ t :: strV L ts = _
    rw [strV_values L ts (by simpa using h), List.map_cons, List.zip_cons_cons]; rfl
noncomputable def sumLen : List (List Nat) → Nat
  | [] => 0
  | l :: L => l.length + sumLen L
noncomputable def cJoin (hl : Nat) (y : List Nat) (t : Nat) (a : Addr) (L : List (List Nat)) (ts : List Nat) (ep : Nat) (r : List Nat) : Ctr :=
  { code := .call (.builtin "str.join") ⟨[.str ⟨⟨y⟩⟩ t, .ref a], []⟩, reads := [(hl, (a, liO (strV L ts) ep))], res := fun z => .ok (.ret (.str ⟨⟨r⟩⟩ (z 2))) }
theorem foldl_len (s : PySem.Str) : ∀ (L : List PySem.Str) (a : Nat), List.foldl (fun x1 x2 => x1 + x2.length + s.length) a L = a + sumLen (L.map toL) + L.length * s.length
  | [], a => by simp [sumLen]
  | x :: L, a => by
    rw [List.foldl_cons, foldl_len s L]
    show a + x.length + s.length + _ + _ = a + (x.length + _) + (L.length + 1) * s.length
    rw [Nat.add_mul]; lia
theorem zip_fst' : ∀ (L : List PySem.Str) (ts : List Nat), ts.length = L.length → (L.zip ts).map (·.1) = L
  | [], _, _ => by simp
  | l :: L, [], h => by cases h
  | l :: L, t :: ts, h => by rw [List.zip_cons_cons, List.map_cons, zip_fst' L ts (by simpa using h)]
theorem map_toL (L : List (List Nat)) : (L.map fun l => (⟨⟨l⟩⟩ : PySem.Str)).map toL = L := by
  rw [List.map_map]
  have : (toL ∘ fun l => (⟨⟨l⟩⟩ : PySem.Str)) = id := rfl
  rw [this, List.map_id]
theorem joinL_len (s : List Nat) : ∀ L : List (List Nat), (joinL s L).length ≤ sumLen L + L.length * s.length
  | [] => Nat.zero_le _
  | [l] => by show l.length ≤ l.length + 0 + 1 * s.length; lia
  | l :: m :: L => by
    have := joinL_len s (m :: L)
    rw [joinL_two]
    simp only [List.length_append]
    show _ ≤ l.length + sumLen (m :: L) + ((m :: L).length + 1) * s.length
    rw [Nat.add_mul]; lia
theorem cJoin_ok {hl : Nat} {y : List Nat} {t : Nat} {a : Addr} {L : List (List Nat)} {ts : List Nat} {ep : Nat} {r : List Nat} (hts : ts.length = L.length) (hr : joinL y L = r) (hz : sumLen L ≤ 1000) (hz2 : L.length ≤ 1000) (hy : y.length ≤ 10) : (cJoin hl y t a L ts ep r).Valid prog w kt := by
  have hb : L.length * y.length ≤ 10000 := Nat.le_trans (Nat.mul_le_mul hz2 hy) (by decide)
  have hf : (((L.map fun l => (⟨⟨l⟩⟩ : PySem.Str)).zip ts).map (·.1)) = L.map fun l => (⟨⟨l⟩⟩ : PySem.Str) := zip_fst' _ _ (by simpa using hts)
  refine meets_valid F.slot_str_join F.entry_str_join (F.args_str_join_2 _ _) (meets_str_join_list ⟨⟨y⟩⟩ t a ((L.map fun l => (⟨⟨l⟩⟩ : PySem.Str)).zip ts) ?_) rfl fun A R s hA hrd hmu K => ⟨typeIs_str _ _ _, ?_, ?_⟩
  · rw [hf]
    rw [← Array.foldl_toList]
    show Builtin.Str.tooLong (List.foldl _ 0 _) = false
    rw [foldl_len ⟨⟨y⟩⟩, map_toL]
    unfold Builtin.Str.tooLong
    rw [decide_eq_false_iff_not, sizeLine_eq, List.length_map]
    show ¬ 0 + sumLen L + L.length * y.length > _
    lia
  · have ho := hrd _ (.head _)
    have := isList_of (l := strV L ts) ho
    rw [strV_values L ts hts] at this
    exact this
  · have K' : ∀ t tk, R (.ok (.ret (.str ⟨⟨r⟩⟩ t))) { s with toks := tk } := fun t tk => K (wit (fun _ => t) s.heap.objs.size tk) s.heap trivial (after_same _) rfl
    refine made_post (res := fun t => .str ⟨⟨r⟩⟩ t) ?_ K'
    subst hr
    have g : ∀ l : List (PySem.Str × Nat), l.map (·.1) = L.map (fun l => (⟨⟨l⟩⟩ : PySem.Str)) → MadeIs (joinMade ⟨⟨y⟩⟩ l) (fun t => .str ⟨⟨joinL y L⟩⟩ t) := by
      intro l hl
      have big : MadeIs (.str (Builtin.Str.glued ⟨⟨y⟩⟩ (l.map (·.1)))) (fun t => .str ⟨⟨joinL y L⟩⟩ t) := by
        rw [StrLaws.glued_eq_join, hl]
        have e : Str.join ⟨⟨y⟩⟩ (L.map fun l => (⟨⟨l⟩⟩ : PySem.Str)) = ⟨⟨joinL y L⟩⟩ := by
          have := join_toL ⟨⟨y⟩⟩ (L.map fun l => (⟨⟨l⟩⟩ : PySem.Str))
          rw [map_toL] at this
          show (⟨⟨toL _⟩⟩ : PySem.Str) = _
          rw [this]; rfl
        rw [e]
        refine ⟨?_, fun t => rfl⟩
        show (joinL y L).length ≤ sizeLine
        have := joinL_len y L
        rw [sizeLine_eq]; lia
      match l, hl, big with
      | [], _, big => exact big
      | [p], hl, _ =>
        match L, hl with
        | [m], hl =>
          have : p.1 = ⟨⟨m⟩⟩ := by simpa using hl
          exact ⟨p.2, by rw [this]; rfl⟩
        | [], hl => cases hl
        | _ :: _ :: _, hl => exact absurd (congrArg List.length hl) (by simp)
      | p :: q :: r, _, big => exact big
    exact g _ hf

/-! tuples -/
noncomputable def cTGet (hl : Nat) (a : Addr) (l : List Value) (ep : Nat) (k : Int) (t : Nat) (v : Value) : Ctr :=
  { code := .call (.builtin "tuple.__getitem__") ⟨[.ref a, .int k t], []⟩, reads := [(hl, (a, tuO l ep))], res := fun _ => .ok (.ret v) }
theorem cTGet_ok {hl : Nat} {a : Addr} {l : List Value} {ep : Nat} {k : Int} {t : Nat} {v : Value} (h0 : 0 ≤ k) (hk : k ≤ 1000) (hv : l[k.toNat]? = some v) : (cTGet hl a l ep k t v).Valid prog w kt := by
  have hl : k.toNat < l.length := by
    rcases Nat.lt_or_ge k.toNat l.length with q | q
    · exact q
    · rw [List.getElem?_eq_none q] at hv; cases hv
  refine meets_valid F.slot_tuple_getitem F.entry_tuple_getitem (F.args_tuple_getitem_2 _ _) (MeetsSeq.tuple_getitem_at a ⟨l⟩ ep k t k.toNat v (by lia) (by lia) (seqIdx_pos (n := (⟨l⟩ : Array Value).size) h0 (by show k < (l.length : Nat); lia)) (by simpa using hv)) rfl fun A R s hA hrd hmu K => ?_
  have ho := hrd _ (.head _)
  exact ⟨typ_of ho rfl, ho, K (wit (fun _ => 0) s.heap.objs.size s.toks) s.heap trivial (after_same _) rfl⟩
noncomputable def cTFrom (hl hs : Nat) (a sa : Addr) (l : List Value) (ep : Nat) (k : Nat) (u : Nat) (r : List Value) : Ctr :=
  { code := .call (.builtin "tuple.__getitem__") ⟨[.ref a, .ref sa], []⟩, reads := [(hl, (a, tuO l ep)), (hs, (sa, slO (.int k u) .none .none))], newO := fun y => [(y 2, tuO r 0)], res := fun y => .ok (.ret (.ref (y 2))) }
theorem cTFrom_ok {hl hs : Nat} {a sa : Addr} {l : List Value} {ep k u : Nat} {r : List Value} (h1 : 1 ≤ k) (hk : k ≤ l.length) (hz : l.length ≤ 1000) (hr : l.drop k = r) : (cTFrom hl hs a sa l ep k u r).Valid prog w kt := by
  intro A R s _ _ _ hrd _ _ K
  have ho := (hrd _ (.head _)).1
  have hos := (hrd _ (.tail _ (.head _))).1
  refine slot_code slot_tuple_getitem (typ_of ho rfl) entry_tuple_getitem (args_tuple_getitem _ _) ?_
  have hTs : s.TypeIs (.ref sa) "slice" := typ_of hos rfl
  have ht : IsTup s.heap a ⟨l⟩ := ⟨_, ho, rfl, _, rfl⟩
  have hs' : s.heap.IsSliceOf sa (.int k u) .none .none := ⟨_, hos, rfl, rfl⟩
  show wpAny _ _ (Builtin.Tuple.tupleItemsOf (.ref a) >>= _) _ _ s
  refine wpAny_bind (tupleItemsOf_ ht ?_)
  refine wpAny_bind (wpAny_typeOf hTs ?_)
  rw [if_pos (by decide)]
  refine wpAny_bind (sliceApplied_from (n := (⟨l⟩ : Array Value).size) hs' hk ?_)
  have hno : ¬ (((k : Int) == 0 && (1 : Int) == 1 && ((⟨l⟩ : Array Value).size - k) == (⟨l⟩ : Array Value).size) = true) := by
    have : ((k : Int) == 0) = false := by rw [beq_eq_false_iff_ne]; lia
    rw [this]; simp
  show wpAny _ _ (if ((k : Int) == 0 && (1 : Int) == 1 && ((⟨l⟩ : Array Value).size - k) == (⟨l⟩ : Array Value).size) = true then _ else _) _ _ s
  rw [if_neg hno, pick_from ⟨l⟩ k hk]
  have hdrop : sizeOk (.seq ((⟨l⟩ : Array Value).toList.drop k).toArray) := by
    show (l.drop k).length ≤ sizeLine
    rw [List.length_drop, sizeLine_eq]; lia
  have fin : R (.ok (.ret (.ref s.heap.objs.size))) { s with heap := s.heap.push { cls := .type "tuple", data := .seq ((⟨l⟩ : Array Value).toList.drop k).toArray } } := by
    show R _ { s with heap := s.heap.push (tuO (l.drop k) 0) }
    rw [hr]
    exact K (wit (fun _ => s.heap.objs.size) (s.heap.objs.size + 1) s.toks) _ trivial (after_push (o := tuO r 0) rfl) (Heap.size_push ..)
  first
    | exact wpAny_bind (m := Builtin.Tuple.tupleExact _) (wpAny_newObj_type (wpAny_pure ⟨_, rfl, fin⟩) hdrop)
    | exact wpAny_bind (m := Builtin.Tuple.tupleExact _) (wpAny_newObj_type (wpAny_bind (wpAny_pure (wpAny_pure ⟨_, rfl, fin⟩))) hdrop)
end
section
variable {prog : Program} {w : World} {kt : KT}
theorem after_push_upd {h : Heap} {o o' : Obj} {f : Obj → Obj} (hf : o.isFreed = false) (e : f o = o') (hx : o'.isFreed = false) : After h ((h.push o).update h.objs.size f) [] [] [(h.objs.size, o')] [] := by
  have hs : Heap.SameBut h.objs.size (h.push o) ((h.push o).update h.objs.size f) := Heap.SameBut.update ..
  refine ⟨fun b ob q _ => (hs.2 b (Nat.ne_of_lt (Heap.lt_size q))).trans (Heap.get?_push_of_some _ q), rfl, fun _ q => (nomatch q), fun c hc => ?_, by simp, fun _ q => (nomatch q)⟩
  rw [List.append_nil] at hc
  cases List.mem_singleton.mp hc
  subst e
  refine ⟨get_top h, ?_⟩
  have ho := Heap.get?_push_size h hf
  first | exact Heap.get?_update_self f ho hx | exact Heap.get?_update_self _ ho hx
noncomputable def cColl (hl : Nat) (a : Addr) (l : List Value) (ep : Nat) : Ctr :=
  { code := .builtin "proto.collect" ⟨[.ref a], []⟩, reads := [(hl, (a, liO l ep))], newO := fun y => [(y 2, liO l (y 3))], res := fun y => .ok (.ret (.ref (y 2))) }
theorem cColl_ok {hl : Nat} {a : Addr} {l : List Value} {ep : Nat} (hz : l.length ≤ 1000) : (cColl hl a l ep).Valid prog w kt := by
  intro A R s _ _ _ hrd _ _ K
  have ho := (hrd _ (.head _)).1
  refine codeAny_builtin F.entry_proto_collect ?_
  rw [Around.under_plainId F.plain_proto_collect _]
  unfold Builtin.«proto.collect»
  refine wpAny_bind (wpAny_newList ?_ (by show 0 ≤ sizeLine; exact Nat.zero_le _))
  refine wpAny_pure ⟨plainId_quiet F.plain_list_iadd _, codeAny_builtin F.entry_list_iadd ?_⟩
  rw [Around.under_plainId F.plain_list_iadd _]
  have hn : (s.heap.push (liO [] 0)).get? s.heap.objs.size = some (liO [] 0) := Heap.get?_push_size _ rfl
  have ha : (s.heap.push (liO [] 0)).get? a = some (liO l ep) := Heap.get?_push_of_some _ ho
  have gm := AutoSeq1.list___iadd___list_list_0 s.heap.objs.size ⟨[]⟩ 0 a ⟨l⟩ ep (by simp) (Nat.zero_le _) (by show 0 + l.length ≤ sizeLine + 1; rw [sizeLine_eq]; lia)
  refine gm prog w A R { s with heap := s.heap.push (liO [] 0) } ⟨hn, ha, ?_⟩
  have e : ∃ e', Obj.mapSeq (fun x => x ++ (⟨l⟩ : Array Value)) (liO [] 0) = liO l e' := by
    refine ⟨if (⟨l⟩ : Array Value).size == ([] : List Value).length then 0 else 0 + 1, ?_⟩
    rw [mapSeq_li]
    have z : (⟨[]⟩ : Array Value) ++ (⟨l⟩ : Array Value) = ⟨l⟩ := by apply Array.ext'; simp
    rw [z]; rfl
  obtain ⟨e', e⟩ := e
  exact K (wit (fun n => if n = 2 then s.heap.objs.size else e') (s.heap.objs.size + 1) s.toks) _ trivial (after_push_upd (o := liO [] 0) (o' := liO l e') rfl e rfl) (by rw [upd_size, Heap.size_push]; rfl)
noncomputable def cIaddV (i hb : Nat) (a b : Addr) (l l2 l' : List Value) (ep ep2 : Nat) : Ctr :=
  { code := .call (.builtin "list.__iadd__") ⟨[.ref a, .ref b], []⟩, reads := [(hb, (b, liO l2 ep2))], mus := [(i, (a, liO l ep))], upd := fun _ => [liO l' (ep + 1)], res := fun _ => .ok (.ret (.ref a)) }
theorem cIaddV_ok {i hb : Nat} {a b : Addr} {l l2 l' : List Value} {ep ep2 : Nat} (e : l ++ l2 = l') (hn : l2 ≠ []) (hs : l.length + l2.length ≤ 1000) : (cIaddV i hb a b l l2 l' ep ep2).Valid prog w kt := by
  subst e
  exact cIadd_ok hn (by rw [sizeLine_eq]; lia)
/-- a contract with more read cells -/
theorem Valid_more {C : Ctr} {rd : List (Nat × Cell)} (h : C.Valid prog w kt) (hm : C.mus = []) (hr : ∀ e ∈ C.reads, ∃ e' ∈ rd, e'.2 = e.2) : ({ C with reads := rd } : Ctr).Valid prog w kt := by
  intro A R s ha hA hk hrd hmu hnd K
  refine h A R s ha hA hk (fun e he => ?_) hmu hnd K
  obtain ⟨e', he', q⟩ := hr e he
  rw [← q]
  exact hrd e' he'
end
noncomputable def cSd (x : List Nat) (t : Nat) (l r : List Nat) : Ctr :=
  { code := .call (.ref 94) ⟨[.str ⟨⟨x⟩⟩ t], []⟩, room := 2, new := fun y => [(y 2, tuO [.str ⟨⟨l⟩⟩ (y 3), .str ⟨⟨r⟩⟩ (y 4)] 0)], res := fun y => .ok (.ret (.ref (y 2))) }
section
variable {prog : Program} {w : World} {kt : KT}
noncomputable def cTupNew (hl : Nat) (a : Addr) (l : List Value) (ep : Nat) : Ctr :=
  { code := .call (.builtin "tuple.__new__") ⟨[.type "tuple", .ref a], []⟩, reads := [(hl, (a, liO l ep))], newO := fun y => [(y 2, tuO l 0)], res := fun y => .ok (.ret (.ref (y 2))) }
theorem cTupNew_ok {hl : Nat} {a : Addr} {l : List Value} {ep : Nat} (hz : l.length ≤ 1000) : (cTupNew hl a l ep).Valid prog w kt := by
  intro A R s _ _ _ hrd _ _ K
  have ho := (hrd _ (.head _)).1
  refine codeAny_call_builtin (id := "tuple.__new__") (by decide +kernel) F.entry_tuple_new (wpAny_of_eq (F.newCall_tuple_1 _) ?_)
  refine (meets_tuple_new_list a (liO l ep) ⟨l⟩ ep rfl rfl (by show l.length ≤ sizeLine; rw [sizeLine_eq]; lia)) prog w A R s ⟨ho, fun h' hk => ?_⟩
  have hn : ∀ b, h'.get? b = none → s.heap.get? b = none := fun b hb => by
    cases q : s.heap.get? b with
    | none => rfl
    | some o => rw [hk b o q] at hb; cases hb
  refine K (wit (fun _ => h'.objs.size) (h'.objs.size + 1) s.toks) _ trivial ⟨fun b ob e _ => Heap.get?_push_of_some _ (hk b ob e), rfl, fun _ q => (nomatch q), fun c hc => ?_, by show List.Nodup [_]; simp, fun _ q => (nomatch q)⟩ (Heap.size_push ..)
  have hc' : c = (h'.objs.size, tuO l 0) := by cases List.mem_append.mp hc with | inl q => exact List.mem_singleton.mp q | inr q => cases q
  subst hc'
  exact ⟨hn _ (get_top h'), Heap.get?_push_size _ rfl⟩
end
/-! a mark (a Whitespace) on the heap -/
structure Mk where
  (x dx nm ct : Addr) (raw : PySem.Str) (rt : Nat) (n : Int) (tn : Nat) (nt : Int) (tnt : Nat) (cs : List (Int × Nat)) (b : Int) (tb k1 k2 k3 k4 k5 : Nat) (sm : Bool)
noncomputable def simple {α : Type} : List α → Bool
  | [] => true
  | [_] => true
  | _ => false
noncomputable def cvals : List (Int × Nat) → List Value
  | [] => []
  | (i, t) :: l => .int i t :: cvals l
noncomputable def Mk.inst (m : Mk) : Cell := (m.x, ⟨.ref 83, some m.dx, .plain, #[]⟩)
noncomputable def Mk.dict (m : Mk) (P : Params) : Cell := (m.dx, ⟨.type "dict", none, .dict ⟨[eN P [114, 97, 119] m.k1 (.str m.raw m.rt), eN P [110] m.k2 (.int m.n m.tn), eN P [110, 116] m.k3 (.int m.nt m.tnt), eN P [110, 111, 114, 109] m.k4 (.ref m.nm), eN P [105, 115, 95, 115, 105, 109, 112, 108, 101] m.k5 (.bool m.sm)]⟩ 5, #[]⟩)
noncomputable def Mk.norm (m : Mk) : Cell := (m.nm, tuO [.ref m.ct, .int m.b m.tb] 0)
noncomputable def Mk.cnt (m : Mk) : Cell := (m.ct, tuO (cvals m.cs) 0)
noncomputable def Mk.rd (m : Mk) (P : Params) (h : Nat × Nat × Nat × Nat) : List (Nat × Cell) := [(h.1, m.inst), (h.2.1, m.dict P), (h.2.2.1, m.norm), (h.2.2.2, m.cnt)]
noncomputable def cInd (P : Params) (h : Nat × Nat × Nat × Nat) (m : Mk) (ts : Int) (t : Nat) (r : Int) : Ctr :=
  { code := .call (.ref 52) ⟨[.ref m.x, .int ts t], []⟩, room := 1, reads := m.rd P h, res := fun y => .ok (.ret (.int r (y 2))) }
noncomputable def cLong (P : Params) (h : Nat × Nat × Nat × Nat) (m : Mk) (r : Int) : Ctr :=
  { code := .call (.ref 45) ⟨[.ref m.x], []⟩, room := 1, reads := m.rd P h, res := fun y => .ok (.ret (.int r (y 2))) }
theorem fn52 (P : Params) : FnAt (kt P) 52 fd52 (dBody (meth 3)) := ⟨⟨fnO fd52, by kernel_rfl!, rfl⟩, by kernel_rfl!, by kernel_rfl!, by kernel_rfl!, ⟨51, o51, _, 238, by kernel_rfl!, by kernel_rfl!, rfl, by kernel_rfl!⟩, by kernel_rfl!⟩
theorem fn45 (P : Params) : FnAt (kt P) 45 fd45 (dBody (meth 2)) := ⟨⟨fnO fd45, by kernel_rfl!, rfl⟩, by kernel_rfl!, by kernel_rfl!, by kernel_rfl!, ⟨44, o44, _, 229, by kernel_rfl!, by kernel_rfl!, rfl, by kernel_rfl!⟩, by kernel_rfl!⟩
noncomputable def imax (a b : Int) : Int := if b > a then b else a
noncomputable def cMax (a b : Int) (t u : Nat) : Ctr := cB "max" [.int a t, .int b u] fun t => .int (imax a b) t
noncomputable def H52_10 (m : Mk) (t : Nat)  (n tk : Nat) : HT := .go [1,0,1,0,1,2,0,0,0,0,2,0,0,0,2,2,0,4,6,6,6,0,6,3,3,0,3,3,3,6,3,1,3,0,3,3,3,6,3,1,3,0,3,3,3,6,3,1,7,1,0,1,0,1,0,0,0,1,0,0,1,0,8,0,8,8,0,0,9,9,0,9,9,9,9,0,9,9,9,9,11,0,11,0,11,11,11,11,15,1,1,1,1,2,0,0,0,0,2,0,0,0,2,2,0,4,0,1] (.cut (cMul 1 ((0 : Int) + m.nt) t (tk + 11) (1 * ((0 : Int) + m.nt))) fun z0 => .go [0] (.nil { res := .ok (.ret (.int (m.b + 1 * ((0 : Int) + m.nt)) (z0 1))) }))
theorem r52_10 (P : Params) (b1 b2 : Bool) (m : Mk) (h : Nat × Nat × Nat × Nat) (t : Nat)  (n tk : Nat) : (RunF (parOf P b1 b2) (cInd (parOf P b1 b2) h { m with cs := [] } 1 t (m.b + 1 * ((0 : Int) + m.nt))) 52 fd52 [.ref m.x, .int 1 t] 900 (H52_10 m t  n tk) n tk).Ok := by
  cases b1 <;> (show OT.l _ = OT.r _; kernel_rfl)
noncomputable def H52_11 (m : Mk) (t : Nat) (c0 : Int) (u0 : Nat) (n tk : Nat) : HT := .go [1,0,1,0,1,2,0,0,0,0,2,0,0,0,2,2,0,4,6,6,6,0,6,3,3,0,3,3,3,6,3,1,3,0,3,3,3,6,3,1,3,0,3,3,3,6,3,1,7,1,0,1,0,1,0,0,0,1,0,0,1,0,8,0,8,8,0,0,9,9,0,9,9,9,9,0,9,9,9,9,11,0,11,0,11,11,11,11,15,1,1,1,1,2,0,0,0,0,2,0,0,0,2,2,0,4,0,1] (.cut (cMul 1 ((0 : Int) + m.nt) t (tk + 11) (1 * ((0 : Int) + m.nt))) fun z0 => .go [0] (.nil { res := .ok (.ret (.int (m.b + 1 * ((0 : Int) + m.nt)) (z0 1))) }))
theorem r52_11 (P : Params) (b1 b2 : Bool) (m : Mk) (h : Nat × Nat × Nat × Nat) (t : Nat) (c0 : Int) (u0 : Nat) (n tk : Nat) : (RunF (parOf P b1 b2) (cInd (parOf P b1 b2) h { m with cs := [(c0, u0)] } 1 t (m.b + 1 * ((0 : Int) + m.nt))) 52 fd52 [.ref m.x, .int 1 t] 900 (H52_11 m t c0 u0 n tk) n tk).Ok := by
  cases b1 <;> (show OT.l _ = OT.r _; kernel_rfl)
noncomputable def H52_12 (m : Mk) (t : Nat) (c0 : Int) (u0 : Nat) (c1 : Int) (u1 : Nat) (n tk : Nat) : HT := .go [1,0,1,0,1,2,0,0,0,0,2,0,0,0,2,2,0,4,6,6,6,0,6,3,3,0,3,3,3,6,3,1,3,0,3,3,3,6,3,1,3,0,3,3,3,6,3,1,7,1,0,1,0,1,0,0,0,1,0,0,1,0,8,0,8,8,0,0,9,9,0,9,9,9,9,0,9,9,9,9,11,0,11,0,11,11,11,11,11,5,11,5,1,0,1,1,1,0,1,1,8,8,8,0,8,8,1] (.cut (cMul 1 c1 (tk + 12) u1 (1 * c1)) fun z0 => .go [0,1,0,11,0,11,11,11,11,15,1,1,1,1,2,0,0,0,0,2,0,0,0,2,2,0,4,0,1] (.cut (cMul 1 (((0 : Int) + 1 * c1) + m.nt) t (z0 1 + 3) (1 * (((0 : Int) + 1 * c1) + m.nt))) fun z1 => .go [0] (.nil { res := .ok (.ret (.int (m.b + 1 * (((0 : Int) + 1 * c1) + m.nt)) (z1 1))) })))
theorem r52_12 (P : Params) (b1 b2 : Bool) (m : Mk) (h : Nat × Nat × Nat × Nat) (t : Nat) (c0 : Int) (u0 : Nat) (c1 : Int) (u1 : Nat) (n tk : Nat) : (RunF (parOf P b1 b2) (cInd (parOf P b1 b2) h { m with cs := [(c0, u0), (c1, u1)] } 1 t (m.b + 1 * (((0 : Int) + 1 * c1) + m.nt))) 52 fd52 [.ref m.x, .int 1 t] 900 (H52_12 m t c0 u0 c1 u1 n tk) n tk).Ok := by
  cases b1 <;> (show OT.l _ = OT.r _; kernel_rfl)
noncomputable def H52_13 (m : Mk) (t : Nat) (c0 : Int) (u0 : Nat) (c1 : Int) (u1 : Nat) (c2 : Int) (u2 : Nat) (n tk : Nat) : HT := .go [1,0,1,0,1,2,0,0,0,0,2,0,0,0,2,2,0,4,6,6,6,0,6,3,3,0,3,3,3,6,3,1,3,0,3,3,3,6,3,1,3,0,3,3,3,6,3,1,7,1,0,1,0,1,0,0,0,1,0,0,1,0,8,0,8,8,0,0,9,9,0,9,9,9,9,0,9,9,9,9,11,0,11,0,11,11,11,11,11,5,11,5,1,0,1,1,1,0,1,1,8,8,8,0,8,8,1] (.cut (cMul 1 c1 (tk + 12) u1 (1 * c1)) fun z0 => .go [0,1,0,11,0,11,11,11,11,11,5,11,5,1,0,1,1,1,0,1,1,8,8,8,0,8,8,1] (.cut (cMul 2 c2 (z0 1 + 4) u2 (2 * c2)) fun z1 => .go [0,1,0,11,0,11,11,11,11,15,1,1,1,1,2,0,0,0,0,2,0,0,0,2,2,0,4,0,1] (.cut (cMul 1 ((((0 : Int) + 1 * c1) + 2 * c2) + m.nt) t (z1 1 + 3) (1 * ((((0 : Int) + 1 * c1) + 2 * c2) + m.nt))) fun z2 => .go [0] (.nil { res := .ok (.ret (.int (m.b + 1 * ((((0 : Int) + 1 * c1) + 2 * c2) + m.nt)) (z2 1))) }))))
theorem r52_13 (P : Params) (b1 b2 : Bool) (m : Mk) (h : Nat × Nat × Nat × Nat) (t : Nat) (c0 : Int) (u0 : Nat) (c1 : Int) (u1 : Nat) (c2 : Int) (u2 : Nat) (n tk : Nat) : (RunF (parOf P b1 b2) (cInd (parOf P b1 b2) h { m with cs := [(c0, u0), (c1, u1), (c2, u2)] } 1 t (m.b + 1 * ((((0 : Int) + 1 * c1) + 2 * c2) + m.nt))) 52 fd52 [.ref m.x, .int 1 t] 900 (H52_13 m t c0 u0 c1 u1 c2 u2 n tk) n tk).Ok := by
  cases b1 <;> (show OT.l _ = OT.r _; kernel_rfl)
noncomputable def H52_20 (m : Mk) (t : Nat)  (n tk : Nat) : HT := .go [1,0,1,0,1,2,0,0,0,0,2,0,0,0,2,2,0,4,6,6,6,0,6,3,3,0,3,3,3,6,3,1,3,0,3,3,3,6,3,1,3,0,3,3,3,6,3,1,7,1,0,1,0,1,0,0,0,1,0,0,1,0,8,0,8,8,0,0,9,9,0,9,9,9,9,0,9,9,9,9,11,0,11,0,11,11,11,11,15,1,1,1,1,2,0,0,0,0,2,0,0,0,2,2,0,4,0,1] (.cut (cMul 2 ((0 : Int) + m.nt) t (tk + 11) (2 * ((0 : Int) + m.nt))) fun z0 => .go [0] (.nil { res := .ok (.ret (.int (m.b + 2 * ((0 : Int) + m.nt)) (z0 1))) }))
theorem r52_20 (P : Params) (b1 b2 : Bool) (m : Mk) (h : Nat × Nat × Nat × Nat) (t : Nat)  (n tk : Nat) : (RunF (parOf P b1 b2) (cInd (parOf P b1 b2) h { m with cs := [] } 2 t (m.b + 2 * ((0 : Int) + m.nt))) 52 fd52 [.ref m.x, .int 2 t] 900 (H52_20 m t  n tk) n tk).Ok := by
  cases b1 <;> (show OT.l _ = OT.r _; kernel_rfl)
noncomputable def H52_21 (m : Mk) (t : Nat) (c0 : Int) (u0 : Nat) (n tk : Nat) : HT := .go [1,0,1,0,1,2,0,0,0,0,2,0,0,0,2,2,0,4,6,6,6,0,6,3,3,0,3,3,3,6,3,1,3,0,3,3,3,6,3,1,3,0,3,3,3,6,3,1,7,1,0,1,0,1,0,0,0,1,0,0,1,0,8,0,8,8,0,0,9,9,0,9,9,9,9,0,9,9,9,9,11,0,11,0,11,11,11,11,15,1,1,1,1,2,0,0,0,0,2,0,0,0,2,2,0,4,0,1] (.cut (cMul 2 ((0 : Int) + m.nt) t (tk + 11) (2 * ((0 : Int) + m.nt))) fun z0 => .go [0] (.nil { res := .ok (.ret (.int (m.b + 2 * ((0 : Int) + m.nt)) (z0 1))) }))
theorem r52_21 (P : Params) (b1 b2 : Bool) (m : Mk) (h : Nat × Nat × Nat × Nat) (t : Nat) (c0 : Int) (u0 : Nat) (n tk : Nat) : (RunF (parOf P b1 b2) (cInd (parOf P b1 b2) h { m with cs := [(c0, u0)] } 2 t (m.b + 2 * ((0 : Int) + m.nt))) 52 fd52 [.ref m.x, .int 2 t] 900 (H52_21 m t c0 u0 n tk) n tk).Ok := by
  cases b1 <;> (show OT.l _ = OT.r _; kernel_rfl)
noncomputable def H52_22 (m : Mk) (t : Nat) (c0 : Int) (u0 : Nat) (c1 : Int) (u1 : Nat) (n tk : Nat) : HT := .go [1,0,1,0,1,2,0,0,0,0,2,0,0,0,2,2,0,4,6,6,6,0,6,3,3,0,3,3,3,6,3,1,3,0,3,3,3,6,3,1,3,0,3,3,3,6,3,1,7,1,0,1,0,1,0,0,0,1,0,0,1,0,8,0,8,8,0,0,9,9,0,9,9,9,9,0,9,9,9,9,11,0,11,0,11,11,11,11,15,1,1,1,1,2,0,0,0,0,2,0,0,0,2,2,0,4,0,1] (.cut (cMul 2 ((0 : Int) + m.nt) t (tk + 11) (2 * ((0 : Int) + m.nt))) fun z0 => .go [0] (.nil { res := .ok (.ret (.int (m.b + 2 * ((0 : Int) + m.nt)) (z0 1))) }))
theorem r52_22 (P : Params) (b1 b2 : Bool) (m : Mk) (h : Nat × Nat × Nat × Nat) (t : Nat) (c0 : Int) (u0 : Nat) (c1 : Int) (u1 : Nat) (n tk : Nat) : (RunF (parOf P b1 b2) (cInd (parOf P b1 b2) h { m with cs := [(c0, u0), (c1, u1)] } 2 t (m.b + 2 * ((0 : Int) + m.nt))) 52 fd52 [.ref m.x, .int 2 t] 900 (H52_22 m t c0 u0 c1 u1 n tk) n tk).Ok := by
  cases b1 <;> (show OT.l _ = OT.r _; kernel_rfl)
noncomputable def H52_23 (m : Mk) (t : Nat) (c0 : Int) (u0 : Nat) (c1 : Int) (u1 : Nat) (c2 : Int) (u2 : Nat) (n tk : Nat) : HT := .go [1,0,1,0,1,2,0,0,0,0,2,0,0,0,2,2,0,4,6,6,6,0,6,3,3,0,3,3,3,6,3,1,3,0,3,3,3,6,3,1,3,0,3,3,3,6,3,1,7,1,0,1,0,1,0,0,0,1,0,0,1,0,8,0,8,8,0,0,9,9,0,9,9,9,9,0,9,9,9,9,11,0,11,0,11,11,11,11,11,5,11,5,1,0,1,1,1,0,1,1,8,8,8,0,8,8,1] (.cut (cMul 1 c2 (tk + 12) u2 (1 * c2)) fun z0 => .go [0,1,0,11,0,11,11,11,11,15,1,1,1,1,2,0,0,0,0,2,0,0,0,2,2,0,4,0,1] (.cut (cMul 2 (((0 : Int) + 1 * c2) + m.nt) t (z0 1 + 3) (2 * (((0 : Int) + 1 * c2) + m.nt))) fun z1 => .go [0] (.nil { res := .ok (.ret (.int (m.b + 2 * (((0 : Int) + 1 * c2) + m.nt)) (z1 1))) })))
theorem r52_23 (P : Params) (b1 b2 : Bool) (m : Mk) (h : Nat × Nat × Nat × Nat) (t : Nat) (c0 : Int) (u0 : Nat) (c1 : Int) (u1 : Nat) (c2 : Int) (u2 : Nat) (n tk : Nat) : (RunF (parOf P b1 b2) (cInd (parOf P b1 b2) h { m with cs := [(c0, u0), (c1, u1), (c2, u2)] } 2 t (m.b + 2 * (((0 : Int) + 1 * c2) + m.nt))) 52 fd52 [.ref m.x, .int 2 t] 900 (H52_23 m t c0 u0 c1 u1 c2 u2 n tk) n tk).Ok := by
  cases b1 <;> (show OT.l _ = OT.r _; kernel_rfl)
noncomputable def H52_30 (m : Mk) (t : Nat)  (n tk : Nat) : HT := .go [1,0,1,0,1,2,0,0,0,0,2,0,0,0,2,2,0,4,6,6,6,0,6,3,3,0,3,3,3,6,3,1,3,0,3,3,3,6,3,1,3,0,3,3,3,6,3,1,7,1,0,1,0,1,0,0,0,1,0,0,1,0,8,0,8,8,0,0,9,9,0,9,9,9,9,0,9,9,9,9,11,0,11,0,11,11,11,11,15,1,1,1,1,2,0,0,0,0,2,0,0,0,2,2,0,4,0,1] (.cut (cMul 3 ((0 : Int) + m.nt) t (tk + 11) (3 * ((0 : Int) + m.nt))) fun z0 => .go [0] (.nil { res := .ok (.ret (.int (m.b + 3 * ((0 : Int) + m.nt)) (z0 1))) }))
theorem r52_30 (P : Params) (b1 b2 : Bool) (m : Mk) (h : Nat × Nat × Nat × Nat) (t : Nat)  (n tk : Nat) : (RunF (parOf P b1 b2) (cInd (parOf P b1 b2) h { m with cs := [] } 3 t (m.b + 3 * ((0 : Int) + m.nt))) 52 fd52 [.ref m.x, .int 3 t] 900 (H52_30 m t  n tk) n tk).Ok := by
  cases b1 <;> (show OT.l _ = OT.r _; kernel_rfl)
noncomputable def H52_31 (m : Mk) (t : Nat) (c0 : Int) (u0 : Nat) (n tk : Nat) : HT := .go [1,0,1,0,1,2,0,0,0,0,2,0,0,0,2,2,0,4,6,6,6,0,6,3,3,0,3,3,3,6,3,1,3,0,3,3,3,6,3,1,3,0,3,3,3,6,3,1,7,1,0,1,0,1,0,0,0,1,0,0,1,0,8,0,8,8,0,0,9,9,0,9,9,9,9,0,9,9,9,9,11,0,11,0,11,11,11,11,15,1,1,1,1,2,0,0,0,0,2,0,0,0,2,2,0,4,0,1] (.cut (cMul 3 ((0 : Int) + m.nt) t (tk + 11) (3 * ((0 : Int) + m.nt))) fun z0 => .go [0] (.nil { res := .ok (.ret (.int (m.b + 3 * ((0 : Int) + m.nt)) (z0 1))) }))
theorem r52_31 (P : Params) (b1 b2 : Bool) (m : Mk) (h : Nat × Nat × Nat × Nat) (t : Nat) (c0 : Int) (u0 : Nat) (n tk : Nat) : (RunF (parOf P b1 b2) (cInd (parOf P b1 b2) h { m with cs := [(c0, u0)] } 3 t (m.b + 3 * ((0 : Int) + m.nt))) 52 fd52 [.ref m.x, .int 3 t] 900 (H52_31 m t c0 u0 n tk) n tk).Ok := by
  cases b1 <;> (show OT.l _ = OT.r _; kernel_rfl)
noncomputable def H52_32 (m : Mk) (t : Nat) (c0 : Int) (u0 : Nat) (c1 : Int) (u1 : Nat) (n tk : Nat) : HT := .go [1,0,1,0,1,2,0,0,0,0,2,0,0,0,2,2,0,4,6,6,6,0,6,3,3,0,3,3,3,6,3,1,3,0,3,3,3,6,3,1,3,0,3,3,3,6,3,1,7,1,0,1,0,1,0,0,0,1,0,0,1,0,8,0,8,8,0,0,9,9,0,9,9,9,9,0,9,9,9,9,11,0,11,0,11,11,11,11,15,1,1,1,1,2,0,0,0,0,2,0,0,0,2,2,0,4,0,1] (.cut (cMul 3 ((0 : Int) + m.nt) t (tk + 11) (3 * ((0 : Int) + m.nt))) fun z0 => .go [0] (.nil { res := .ok (.ret (.int (m.b + 3 * ((0 : Int) + m.nt)) (z0 1))) }))
theorem r52_32 (P : Params) (b1 b2 : Bool) (m : Mk) (h : Nat × Nat × Nat × Nat) (t : Nat) (c0 : Int) (u0 : Nat) (c1 : Int) (u1 : Nat) (n tk : Nat) : (RunF (parOf P b1 b2) (cInd (parOf P b1 b2) h { m with cs := [(c0, u0), (c1, u1)] } 3 t (m.b + 3 * ((0 : Int) + m.nt))) 52 fd52 [.ref m.x, .int 3 t] 900 (H52_32 m t c0 u0 c1 u1 n tk) n tk).Ok := by
  cases b1 <;> (show OT.l _ = OT.r _; kernel_rfl)
noncomputable def H52_33 (m : Mk) (t : Nat) (c0 : Int) (u0 : Nat) (c1 : Int) (u1 : Nat) (c2 : Int) (u2 : Nat) (n tk : Nat) : HT := .go [1,0,1,0,1,2,0,0,0,0,2,0,0,0,2,2,0,4,6,6,6,0,6,3,3,0,3,3,3,6,3,1,3,0,3,3,3,6,3,1,3,0,3,3,3,6,3,1,7,1,0,1,0,1,0,0,0,1,0,0,1,0,8,0,8,8,0,0,9,9,0,9,9,9,9,0,9,9,9,9,11,0,11,0,11,11,11,11,15,1,1,1,1,2,0,0,0,0,2,0,0,0,2,2,0,4,0,1] (.cut (cMul 3 ((0 : Int) + m.nt) t (tk + 11) (3 * ((0 : Int) + m.nt))) fun z0 => .go [0] (.nil { res := .ok (.ret (.int (m.b + 3 * ((0 : Int) + m.nt)) (z0 1))) }))
theorem r52_33 (P : Params) (b1 b2 : Bool) (m : Mk) (h : Nat × Nat × Nat × Nat) (t : Nat) (c0 : Int) (u0 : Nat) (c1 : Int) (u1 : Nat) (c2 : Int) (u2 : Nat) (n tk : Nat) : (RunF (parOf P b1 b2) (cInd (parOf P b1 b2) h { m with cs := [(c0, u0), (c1, u1), (c2, u2)] } 3 t (m.b + 3 * ((0 : Int) + m.nt))) 52 fd52 [.ref m.x, .int 3 t] 900 (H52_33 m t c0 u0 c1 u1 c2 u2 n tk) n tk).Ok := by
  cases b1 <;> (show OT.l _ = OT.r _; kernel_rfl)
noncomputable def H45_0 (m : Mk)  (n tk : Nat) : HT := .go [1,0,1,2,0,0,0,0,2,0,0,0,2,2,0,4,6,6,6,0,6,3,3,0,3,3,3,6,3,1,3,0,3,3,3,6,3,1,3,0,3,3,3,6,3,1,7,1,0,1,0,0,0,0,0,1,0,8,0,8,8,0,1,1] (.cut (cMax (-1) m.b (tk + 7) (m.tb)) fun z0 => .go [] (.nil { res := .ok (.ret (.int (imax (-1) m.b) (z0 2))) }))
theorem r45_0 (P : Params) (b1 b2 : Bool) (m : Mk) (h : Nat × Nat × Nat × Nat)  (n tk : Nat) : (RunF (parOf P b1 b2) (cLong (parOf P b1 b2) h { m with cs := [] } (imax (-1) m.b)) 45 fd45 [.ref m.x] 900 (H45_0 m  n tk) n tk).Ok := by
  cases b1 <;> (show OT.l _ = OT.r _; kernel_rfl)
noncomputable def H45_1 (m : Mk) (c0 : Int) (u0 : Nat) (n tk : Nat) : HT := .go [1,0,1,2,0,0,0,0,2,0,0,0,2,2,0,4,6,6,6,0,6,3,3,0,3,3,3,6,3,1,3,0,3,3,3,6,3,1,3,0,3,3,3,6,3,1,7,1,0,1,0,0,0,0,0,1,0,8,0,8,8,0,1,1] (.cut (cMax 0 m.b (tk + 7) (m.tb)) fun z0 => .go [] (.nil { res := .ok (.ret (.int (imax 0 m.b) (z0 2))) }))
theorem r45_1 (P : Params) (b1 b2 : Bool) (m : Mk) (h : Nat × Nat × Nat × Nat) (c0 : Int) (u0 : Nat) (n tk : Nat) : (RunF (parOf P b1 b2) (cLong (parOf P b1 b2) h { m with cs := [(c0, u0)] } (imax 0 m.b)) 45 fd45 [.ref m.x] 900 (H45_1 m c0 u0 n tk) n tk).Ok := by
  cases b1 <;> (show OT.l _ = OT.r _; kernel_rfl)
noncomputable def H45_2 (m : Mk) (c0 : Int) (u0 : Nat) (c1 : Int) (u1 : Nat) (n tk : Nat) : HT := .go [1,0,1,2,0,0,0,0,2,0,0,0,2,2,0,4,6,6,6,0,6,3,3,0,3,3,3,6,3,1,3,0,3,3,3,6,3,1,3,0,3,3,3,6,3,1,7,1,0,1,0,0,0,0,0,1,0,8,0,8,8,0,1,1] (.cut (cMax 1 m.b (tk + 7) (m.tb)) fun z0 => .go [] (.nil { res := .ok (.ret (.int (imax 1 m.b) (z0 2))) }))
theorem r45_2 (P : Params) (b1 b2 : Bool) (m : Mk) (h : Nat × Nat × Nat × Nat) (c0 : Int) (u0 : Nat) (c1 : Int) (u1 : Nat) (n tk : Nat) : (RunF (parOf P b1 b2) (cLong (parOf P b1 b2) h { m with cs := [(c0, u0), (c1, u1)] } (imax 1 m.b)) 45 fd45 [.ref m.x] 900 (H45_2 m c0 u0 c1 u1 n tk) n tk).Ok := by
  cases b1 <;> (show OT.l _ = OT.r _; kernel_rfl)
noncomputable def H45_3 (m : Mk) (c0 : Int) (u0 : Nat) (c1 : Int) (u1 : Nat) (c2 : Int) (u2 : Nat) (n tk : Nat) : HT := .go [1,0,1,2,0,0,0,0,2,0,0,0,2,2,0,4,6,6,6,0,6,3,3,0,3,3,3,6,3,1,3,0,3,3,3,6,3,1,3,0,3,3,3,6,3,1,7,1,0,1,0,0,0,0,0,1,0,8,0,8,8,0,1,1] (.cut (cMax 2 m.b (tk + 7) (m.tb)) fun z0 => .go [] (.nil { res := .ok (.ret (.int (imax 2 m.b) (z0 2))) }))
theorem r45_3 (P : Params) (b1 b2 : Bool) (m : Mk) (h : Nat × Nat × Nat × Nat) (c0 : Int) (u0 : Nat) (c1 : Int) (u1 : Nat) (c2 : Int) (u2 : Nat) (n tk : Nat) : (RunF (parOf P b1 b2) (cLong (parOf P b1 b2) h { m with cs := [(c0, u0), (c1, u1), (c2, u2)] } (imax 2 m.b)) 45 fd45 [.ref m.x] 900 (H45_3 m c0 u0 c1 u1 c2 u2 n tk) n tk).Ok := by
  cases b1 <;> (show OT.l _ = OT.r _; kernel_rfl)
/-! Whitespace.__init__ -/
noncomputable def sWs : Stmt := atS (dBody (meth 1)) 4
structure Iw where
  (L it sx : Addr) (x : List Nat) (t k1 k2 k3 k4 k5 k6 k7 k8 i0 i1 i2 : Nat)
noncomputable def Iw.es (q : Iw) (P : Params) (ca : Addr) (b : Int) (tb : Nat) (n : Int) (tn : Nat) (nt : Int) (tnt : Nat) : List DictEntry :=
  [eN P [115, 101, 108, 102] q.k1 (.ref q.sx), eN P [119, 115] q.k2 (.str ⟨⟨q.x⟩⟩ q.t), eN P [84] q.k3 (.str ⟨⟨[9]⟩⟩ 210), eN P [83] q.k4 (.str ⟨⟨[32]⟩⟩ 209), eN P [99, 111, 117, 110, 116] q.k5 (.ref ca), eN P [98] q.k6 (.int b tb), eN P [110] q.k7 (.int n tn), eN P [110, 116] q.k8 (.int nt tnt)]
noncomputable def chE (P : Params) (kc s st : Nat) : List DictEntry := [eN P [99, 104] kc (.str ⟨⟨[s]⟩⟩ st)]
noncomputable def cWs (P : Params) (q : Iw) (ca : Addr) (cs : List (Int × Nat)) (ep : Nat) (b : Int) (tb : Nat) (n : Int) (tn : Nat) (nt : Int) (tnt : Nat) (rest : List DictEntry) (ef : Nat) (j jf : Int) (VF : List Int) (bF nF ntF : Int) (g : Bool) : Ctr :=
  { code := forC sWs q.it (envA fd38 38 q.L []), mus := [(q.i0, (q.L, frO (addL (q.es P ca b tb n tn nt tnt) rest) ef)), (q.i1, (q.it, siO (.str ⟨⟨q.x⟩⟩ q.t) j)), (q.i2, (ca, liO (inl cs) ep))],
    upd := fun y => [frO (addL (q.es P (if g then y 2 else ca) bF (y 3) nF (y 4) ntF (y 5)) (chE P (y 6) (y 7) (y 8))) 9, siO (.str ⟨⟨q.x⟩⟩ q.t) jf, if g then liO (inl cs) ep else liO (zipI VF (lsO 10 y VF.length)) (y 9)],
    new := fun y => if g then [(y 2, liO (zipI VF (lsO 10 y VF.length)) (y 9))] else [], res := fun _ => .ok .next }
noncomputable def mkW (sx dx : Addr) (x : List Nat) (t : Nat) (VF : List Int) (b n nt : Int) (sm : Bool) (y : Nat → Nat) : Mk :=
  { x := sx, dx := dx, nm := y 2, ct := y 3, raw := ⟨⟨x⟩⟩, rt := t, n := n, tn := y 4, nt := nt, tnt := y 5, cs := VF.zip (lsO 20 y VF.length), b := b, tb := y 6, k1 := y 7, k2 := y 8, k3 := y 9, k4 := y 10, k5 := y 11, sm := sm }
noncomputable def cInit (P : Params) (h : Nat) (sx dx : Addr) (x : List Nat) (t : Nat) (VF : List Int) (b n nt : Int) (sm : Bool) : Ctr :=
  { code := .call (.ref 38) ⟨[.ref sx, .str ⟨⟨x⟩⟩ t], []⟩, room := 3, reads := [(h, (sx, ⟨.ref 83, some dx, .plain, #[]⟩))], mus := [(0, (dx, ⟨.type "dict", none, .dict ⟨[]⟩ 0, #[]⟩))],
    upd := fun y => [((mkW sx dx x t VF b n nt sm y).dict P).2], new := fun y => [(mkW sx dx x t VF b n nt sm y).norm, (mkW sx dx x t VF b n nt sm y).cnt], res := fun _ => .ok (.ret .none) }
noncomputable def cCls (P : Params) (x : List Nat) (t : Nat) (VF : List Int) (b n nt : Int) (sm : Bool) : Ctr :=
  { code := .call (.ref 83) ⟨[.str ⟨⟨x⟩⟩ t], []⟩, room := 4, new := fun y => [(mkW (y 12) (y 13) x t VF b n nt sm y).inst, (mkW (y 12) (y 13) x t VF b n nt sm y).dict P, (mkW (y 12) (y 13) x t VF b n nt sm y).norm, (mkW (y 12) (y 13) x t VF b n nt sm y).cnt], res := fun y => .ok (.ret (.ref (y 12))) }
/-! _law_read -/
noncomputable def sub (i : Nat) (y : Nat → Nat) : Nat → Nat := fun j => y (8 * j + i + 16)
structure Rd where
  (X T : Nat → List Nat) (VF : Nat → List Int) (b n nt : Nat → Int) (sm : Nat → Bool)
noncomputable def Rd.mark (d : Rd) (i t : Nat) (z : Nat → Nat) : Mk := mkW (z 12) (z 13) (d.X i) t (d.VF i) (d.b i) (d.n i) (d.nt i) (d.sm i) z
noncomputable def Rd.cs (P : Params) (d : Rd) (i : Nat) (z : Nat → Nat) : List Cell :=
  [(d.mark i (z 14) z).inst, (d.mark i (z 14) z).dict P, (d.mark i (z 14) z).norm, (d.mark i (z 14) z).cnt, (z 16, tuO [.ref (z 12), .str ⟨⟨d.T i⟩⟩ (z 15)] 0)]
noncomputable def Rd.cells (P : Params) (d : Rd) (S : Nat → Nat → Nat) : Nat → Nat → List Cell
  | _, 0 => []
  | i, k + 1 => addL (Rd.cs P d i (S i)) (Rd.cells P d S (i + 1) k)
noncomputable def Rd.refs (S : Nat → Nat → Nat) : Nat → Nat → List Value
  | _, 0 => []
  | i, k + 1 => .ref (S i 16) :: Rd.refs S (i + 1) k
noncomputable def cRead (P : Params) (d : Rd) (t : Nat) (k : Nat) : Ctr :=
  { code := .call (.ref 136) ⟨[.str ⟨⟨d.X 0⟩⟩ t], []⟩, room := 6, new := fun y => (y 2, liO (Rd.refs (fun i => sub i y) 0 k) k) :: Rd.cells P d (fun i => sub i y) 0 k, res := fun y => .ok (.ret (.ref (y 2))) }
noncomputable def gz (t s r : Nat) (z : Nat → Nat) : Nat → Nat := fun j => if j = 14 then t else if j = 15 then s else if j = 16 then r else z j
noncomputable def enc (a : Nat) (G : Nat → Nat → Nat) : Nat → Nat := fun i => if i = 2 then a else G ((i - 16) % 8) ((i - 16) / 8)
theorem sub_enc (a : Nat) (G : Nat → Nat → Nat) (sz tk : Nat) {i : Nat} (hi : i < 8) : sub i (wit (enc a G) sz tk) = G i := by
  funext j
  show wit (enc a G) sz tk (8 * j + i + 14 + 2) = G i j
  show enc a G (8 * j + i + 16) = G i j
  unfold enc
  rw [if_neg (by lia), show 8 * j + i + 16 - 16 = 8 * j + i by lia, show (8 * j + i) % 8 = i by lia, show (8 * j + i) / 8 = j by lia]
theorem cells_congr {P : Params} {d : Rd} {S S' : Nat → Nat → Nat} : ∀ (k i : Nat), (∀ j, i ≤ j → j < i + k → S j = S' j) → Rd.cells P d S i k = Rd.cells P d S' i k
  | 0, _, _ => rfl
  | k + 1, i, h => by
    show addL (Rd.cs P d i (S i)) (Rd.cells P d S (i + 1) k) = addL (Rd.cs P d i (S' i)) (Rd.cells P d S' (i + 1) k)
    rw [h i (Nat.le_refl _) (by lia), cells_congr k (i + 1) fun j h1 h2 => h j (by lia) (by lia)]
theorem refs_congr {S S' : Nat → Nat → Nat} : ∀ (k i : Nat), (∀ j, i ≤ j → j < i + k → S j = S' j) → Rd.refs S i k = Rd.refs S' i k
  | 0, _, _ => rfl
  | k + 1, i, h => by
    show .ref (S i 16) :: Rd.refs S (i + 1) k = .ref (S' i 16) :: Rd.refs S' (i + 1) k
    rw [h i (Nat.le_refl _) (by lia), refs_congr k (i + 1) fun j h1 h2 => h j (by lia) (by lia)]
theorem cs_gz {P : Params} {d : Rd} {i t s r : Nat} {z : Nat → Nat} : Rd.cs P d i (gz t s r z) = [(d.mark i t z).inst, (d.mark i t z).dict P, (d.mark i t z).norm, (d.mark i t z).cnt, (r, tuO [.ref (z 12), .str ⟨⟨d.T i⟩⟩ s] 0)] := by
  have e : lsO 20 (gz t s r z) (d.VF i).length = lsO 20 z (d.VF i).length := by
    unfold lsO
    apply List.map_congr_left
    intro j _
    show (if j + 20 = 14 then t else if j + 20 = 15 then s else if j + 20 = 16 then r else z (j + 20)) = z (j + 20)
    rw [if_neg (by lia), if_neg (by lia), if_neg (by lia)]
  show [_, _, _, (z 3, tuO (cvals ((d.VF i).zip (lsO 20 (gz t s r z) (d.VF i).length))) 0), _] = _
  rw [e]; rfl
/-! _law_lead -/
noncomputable def spL (d : Int) : List Nat := List.replicate d.toNat 32
noncomputable def cSp (d : Int) (t u : Nat) : Ctr := cB "str.__mul__" [.str ⟨⟨[32]⟩⟩ t, .int d u] fun t => .str ⟨⟨spL d⟩⟩ t
noncomputable def cLead (N : Int) (t : Nat) (r : PySem.Str) : Ctr := { code := .call (.ref 122) ⟨[.int N t], []⟩, room := 1, res := fun y => .ok (.ret (.str r (y 2))) }
theorem fn122 (P : Params) : FnAt (kt P) 122 fd122 (dBody (stm 13)) := ⟨⟨fnO fd122, by kernel_rfl!, rfl⟩, by kernel_rfl!, by kernel_rfl!, by kernel_rfl!, ⟨121, o121, _, 353, by kernel_rfl!, by kernel_rfl!, rfl, by kernel_rfl!⟩, by kernel_rfl!⟩
noncomputable def H122_0k1 (N : Int) (z0 z1 z2 : Nat → Nat) : HT := .go [0,1] (.cut (cSp ((((N).fdiv 3)).fmod 3) (z1 1 + 2) (z2 2)) fun z3 => .go [1] (.cut (cStrAdd ⟨⟨[]⟩⟩ ⟨⟨spL ((((N).fdiv 3)).fmod 3)⟩⟩ (z0 1 + 1) (z3 2) ⟨⟨spL ((((N).fdiv 3)).fmod 3)⟩⟩) fun z4 => .go [] (.nil { res := .ok (.ret (.str ⟨⟨spL ((((N).fdiv 3)).fmod 3)⟩⟩ (z4 2))) })))
noncomputable def H122_0 (N : Int) (t n tk : Nat) : HT := .go [1,0,1,1] (.cut (cFdiv N 3 t (tk + 1) ((N).fdiv 3)) fun z0 => .go [1,0,1,0,0,0,1,1] (.cut (cMod N 3 t (z0 1 + 3) 0) fun z1 => .go [0,0,3,3,0,3,3,3,3,0,3,3,3,3,5,0,5,0,5,5,5,5,9,1,1,1] (.cut (cMod ((N).fdiv 3) 3 (z0 2) (z1 1 + 3) ((((N).fdiv 3)).fmod 3)) fun z2 => (H122_0k1 N z0 z1 z2))))
theorem r122_0 (P : Params) (b1 b2 : Bool) (N : Int) (t n tk : Nat) : (RunF (parOf P b1 b2) (cLead N t ⟨⟨spL ((((N).fdiv 3)).fmod 3)⟩⟩) 122 fd122 [.int N t] 600 (H122_0 N t n tk) n tk).Ok := by
  cases b1 <;> (show OT.l _ = OT.r _; kernel_rfl)
noncomputable def H122_1k2 (N : Int) (z0 z5 : Nat → Nat) : HT := .go [1,0,1,1] (.cut (cFdiv ((N).fdiv 3) 3 (z0 2) (z5 1 + 1) ((((N).fdiv 3)).fdiv 3)) fun z6 => .go [1,0,5,0,5,5,5,5,9,1,1,1] (.cut (cMod ((((N).fdiv 3)).fdiv 3) 3 (z6 2) (z6 1 + 2) ((((((N).fdiv 3)).fdiv 3)).fmod 3)) fun z7 => .go [0,1] (.cut (cSp ((((((N).fdiv 3)).fdiv 3)).fmod 3) (z6 1 + 1) (z7 2)) fun z8 => .go [1] (.cut (cStrAdd ⟨⟨spL ((((N).fdiv 3)).fmod 3) ++ [9]⟩⟩ ⟨⟨spL ((((((N).fdiv 3)).fdiv 3)).fmod 3)⟩⟩ (z5 2) (z8 2) ⟨⟨(spL ((((N).fdiv 3)).fmod 3) ++ [9]) ++ spL ((((((N).fdiv 3)).fdiv 3)).fmod 3)⟩⟩) fun z9 => .go [] (.nil { res := .ok (.ret (.str ⟨⟨(spL ((((N).fdiv 3)).fmod 3) ++ [9]) ++ spL ((((((N).fdiv 3)).fdiv 3)).fmod 3)⟩⟩ (z9 2))) })))))
noncomputable def H122_1k1 (N : Int) (z0 z1 z2 : Nat → Nat) : HT := .go [0,1] (.cut (cSp ((((N).fdiv 3)).fmod 3) (z1 1 + 4) (z2 2)) fun z3 => .go [1] (.cut (cStrAdd ⟨⟨spL ((((N).fdiv 3)).fmod 3)⟩⟩ ⟨⟨[9]⟩⟩ (z3 2) (z3 1) ⟨⟨spL ((((N).fdiv 3)).fmod 3) ++ [9]⟩⟩) fun z4 => .go [1] (.cut (cStrAdd ⟨⟨[]⟩⟩ ⟨⟨spL ((((N).fdiv 3)).fmod 3) ++ [9]⟩⟩ (z0 1 + 1) (z4 2) ⟨⟨spL ((((N).fdiv 3)).fmod 3) ++ [9]⟩⟩) fun z5 => (H122_1k2 N z0 z5))))
noncomputable def H122_1 (N : Int) (t n tk : Nat) : HT := .go [1,0,1,1] (.cut (cFdiv N 3 t (tk + 1) ((N).fdiv 3)) fun z0 => .go [1,0,1,0,0,0,1,1] (.cut (cMod N 3 t (z0 1 + 3) 1) fun z1 => .go [0,0,3,3,0,3,3,3,3,0,3,3,3,3,5,0,5,0,5,5,5,5,5,2,5,2,1,0,1,1,1] (.cut (cMod ((N).fdiv 3) 3 (z0 2) (z1 1 + 5) ((((N).fdiv 3)).fmod 3)) fun z2 => (H122_1k1 N z0 z1 z2))))
theorem r122_1 (P : Params) (b1 b2 : Bool) (N : Int) (t n tk : Nat) : (RunF (parOf P b1 b2) (cLead N t ⟨⟨(spL ((((N).fdiv 3)).fmod 3) ++ [9]) ++ spL ((((((N).fdiv 3)).fdiv 3)).fmod 3)⟩⟩) 122 fd122 [.int N t] 600 (H122_1 N t n tk) n tk).Ok := by
  cases b1 <;> (show OT.l _ = OT.r _; kernel_rfl)
noncomputable def H122_2k4 (N : Int) (z10 z11 : Nat → Nat) : HT := .go [1,0,5,0,5,5,5,5,9,1,1,1] (.cut (cMod ((((((N).fdiv 3)).fdiv 3)).fdiv 3) 3 (z11 2) (z11 1 + 2) ((((((((N).fdiv 3)).fdiv 3)).fdiv 3)).fmod 3)) fun z12 => .go [0,1] (.cut (cSp ((((((((N).fdiv 3)).fdiv 3)).fdiv 3)).fmod 3) (z11 1 + 1) (z12 2)) fun z13 => .go [1] (.cut (cStrAdd ⟨⟨(spL ((((N).fdiv 3)).fmod 3) ++ [9]) ++ (spL ((((((N).fdiv 3)).fdiv 3)).fmod 3) ++ [9])⟩⟩ ⟨⟨spL ((((((((N).fdiv 3)).fdiv 3)).fdiv 3)).fmod 3)⟩⟩ (z10 2) (z13 2) ⟨⟨((spL ((((N).fdiv 3)).fmod 3) ++ [9]) ++ (spL ((((((N).fdiv 3)).fdiv 3)).fmod 3) ++ [9])) ++ spL ((((((((N).fdiv 3)).fdiv 3)).fdiv 3)).fmod 3)⟩⟩) fun z14 => .go [] (.nil { res := .ok (.ret (.str ⟨⟨((spL ((((N).fdiv 3)).fmod 3) ++ [9]) ++ (spL ((((((N).fdiv 3)).fdiv 3)).fmod 3) ++ [9])) ++ spL ((((((((N).fdiv 3)).fdiv 3)).fdiv 3)).fmod 3)⟩⟩ (z14 2))) }))))
noncomputable def H122_2k3 (N : Int) (z5 z6 z8 : Nat → Nat) : HT := .go [1] (.cut (cStrAdd ⟨⟨spL ((((((N).fdiv 3)).fdiv 3)).fmod 3)⟩⟩ ⟨⟨[9]⟩⟩ (z8 2) (z8 1) ⟨⟨spL ((((((N).fdiv 3)).fdiv 3)).fmod 3) ++ [9]⟩⟩) fun z9 => .go [1] (.cut (cStrAdd ⟨⟨spL ((((N).fdiv 3)).fmod 3) ++ [9]⟩⟩ ⟨⟨spL ((((((N).fdiv 3)).fdiv 3)).fmod 3) ++ [9]⟩⟩ (z5 2) (z9 2) ⟨⟨(spL ((((N).fdiv 3)).fmod 3) ++ [9]) ++ (spL ((((((N).fdiv 3)).fdiv 3)).fmod 3) ++ [9])⟩⟩) fun z10 => .go [1,0,1,1] (.cut (cFdiv ((((N).fdiv 3)).fdiv 3) 3 (z6 2) (z10 1 + 1) ((((((N).fdiv 3)).fdiv 3)).fdiv 3)) fun z11 => (H122_2k4 N z10 z11))))
noncomputable def H122_2k2 (N : Int) (z0 z5 : Nat → Nat) : HT := .go [1,0,1,1] (.cut (cFdiv ((N).fdiv 3) 3 (z0 2) (z5 1 + 1) ((((N).fdiv 3)).fdiv 3)) fun z6 => .go [1,0,5,0,5,5,5,5,5,2,5,2,1,0,1,1,1] (.cut (cMod ((((N).fdiv 3)).fdiv 3) 3 (z6 2) (z6 1 + 4) ((((((N).fdiv 3)).fdiv 3)).fmod 3)) fun z7 => .go [0,1] (.cut (cSp ((((((N).fdiv 3)).fdiv 3)).fmod 3) (z6 1 + 3) (z7 2)) fun z8 => (H122_2k3 N z5 z6 z8))))
noncomputable def H122_2k1 (N : Int) (z0 z1 z2 : Nat → Nat) : HT := .go [0,1] (.cut (cSp ((((N).fdiv 3)).fmod 3) (z1 1 + 4) (z2 2)) fun z3 => .go [1] (.cut (cStrAdd ⟨⟨spL ((((N).fdiv 3)).fmod 3)⟩⟩ ⟨⟨[9]⟩⟩ (z3 2) (z3 1) ⟨⟨spL ((((N).fdiv 3)).fmod 3) ++ [9]⟩⟩) fun z4 => .go [1] (.cut (cStrAdd ⟨⟨[]⟩⟩ ⟨⟨spL ((((N).fdiv 3)).fmod 3) ++ [9]⟩⟩ (z0 1 + 1) (z4 2) ⟨⟨spL ((((N).fdiv 3)).fmod 3) ++ [9]⟩⟩) fun z5 => (H122_2k2 N z0 z5))))
noncomputable def H122_2 (N : Int) (t n tk : Nat) : HT := .go [1,0,1,1] (.cut (cFdiv N 3 t (tk + 1) ((N).fdiv 3)) fun z0 => .go [1,0,1,0,0,0,1,1] (.cut (cMod N 3 t (z0 1 + 3) 2) fun z1 => .go [0,0,3,3,0,3,3,3,3,0,3,3,3,3,5,0,5,0,5,5,5,5,5,2,5,2,1,0,1,1,1] (.cut (cMod ((N).fdiv 3) 3 (z0 2) (z1 1 + 5) ((((N).fdiv 3)).fmod 3)) fun z2 => (H122_2k1 N z0 z1 z2))))
theorem r122_2 (P : Params) (b1 b2 : Bool) (N : Int) (t n tk : Nat) : (RunF (parOf P b1 b2) (cLead N t ⟨⟨((spL ((((N).fdiv 3)).fmod 3) ++ [9]) ++ (spL ((((((N).fdiv 3)).fdiv 3)).fmod 3) ++ [9])) ++ spL ((((((((N).fdiv 3)).fdiv 3)).fdiv 3)).fmod 3)⟩⟩) 122 fd122 [.int N t] 600 (H122_2 N t n tk) n tk).Ok := by
  cases b1 <;> (show OT.l _ = OT.r _; kernel_rfl)

theorem cSp_ok {prog : Program} {w : World} {kt : KT} {d : Int} {t u : Nat} (h : d = 0 ∨ d = 1 ∨ d = 2) : (cSp d t u).Valid prog w kt := by
  have hr : (decide (d < -(2 ^ 63 : Int)) || decide (d ≥ 2 ^ 63)) = false := by
    rcases h with rfl | rfl | rfl <;> decide
  refine cB_valid F.slot_str_mul (fun s => typeIs_str s _ t) F.entry_str_mul (F.args_str_mul_2 _ _) (gives_str_mul ⟨⟨[32]⟩⟩ d t u hr ?_ ?_) ?_
  · rcases h with rfl | rfl | rfl <;> decide
  · rcases h with rfl | rfl | rfl <;> decide
  · rcases h with rfl | rfl | rfl
    · exact ⟨by decide, fun t => rfl⟩
    · exact ⟨t, rfl⟩
    · exact ⟨by decide, fun t => rfl⟩
theorem mod3 (x : Int) : x.fmod 3 = 0 ∨ x.fmod 3 = 1 ∨ x.fmod 3 = 2 := by
  have := Int.fmod_nonneg_of_pos x (b := 3) (by decide)
  have := Int.fmod_lt_of_pos x (b := 3) (by decide)
  lia
theorem spL_len (x : Int) : (spL (x.fmod 3)).length ≤ 2 := by
  unfold spL; rw [List.length_replicate]
  rcases mod3 x with h | h | h <;> rw [h] <;> decide
theorem noPy (x y : Int) (h : y = 3 ∨ y = 324 ∨ y = 81) : Builtin.divisionGoesByPylong x y = false := by
  have : decide ((if y == 0 then 0 else y.natAbs.log2 / 30 + 1) > 300) = false := by rcases h with rfl | rfl | rfl <;> decide
  show (decide ((if y == 0 then 0 else y.natAbs.log2 / 30 + 1) > 300) && _) = false
  rw [this]; rfl
noncomputable def leadL (N : Int) : List Nat := if N.fmod 3 = 0 then spL ((N.fdiv 3).fmod 3) else if N.fmod 3 = 1 then (spL ((N.fdiv 3).fmod 3) ++ [9]) ++ spL (((N.fdiv 3).fdiv 3).fmod 3)
  else ((spL ((N.fdiv 3).fmod 3) ++ [9]) ++ (spL (((N.fdiv 3).fdiv 3).fmod 3) ++ [9])) ++ spL ((((N.fdiv 3).fdiv 3).fdiv 3).fmod 3)
theorem small {n : Nat} (h : n ≤ 20) : n ≤ sizeLine := Nat.le_trans h (by rw [sizeLine_eq]; decide)
theorem lead_ok (w : World) (b1 b2 : Bool) {N : Int} {t : Nat} : VV w b1 b2 (cLead N t ⟨⟨leadL N⟩⟩) := by
  have l1 := spL_len (N.fdiv 3)
  have l2 := spL_len ((N.fdiv 3).fdiv 3)
  have l3 := spL_len (((N.fdiv 3).fdiv 3).fdiv 3)
  have pd : ∀ x : Int, Builtin.divisionGoesByPylong x 3 = false := fun x => noPy x 3 (.inl rfl)
  rcases mod3 N with h | h | h
  · have e : leadL N = spL ((N.fdiv 3).fmod 3) := by unfold leadL; rw [if_pos h]
    rw [e]
    refine fnV (fn122 _) rfl (Nat.le_refl _) (fun _ => rfl) 600 (fun n tk => H122_0 N t n tk) (fun n tk => r122_0 _ _ _ _ _ _ _) fun n tk =>
      ⟨cFdiv_ok rfl (pd _) rfl, fun z0 _ => ⟨cMod_ok rfl h, fun z1 _ => ⟨cMod_ok rfl rfl, fun z2 _ => ⟨cSp_ok (mod3 _), fun z3 _ => ⟨cStrAdd_ok rfl (small (by simp; lia)), fun z4 _ => ?_⟩⟩⟩⟩⟩
    exact outE z4 fun sz tk => ⟨trivial, rfl, rfl, rfl, rfl⟩
  · have e : leadL N = (spL ((N.fdiv 3).fmod 3) ++ [9]) ++ spL (((N.fdiv 3).fdiv 3).fmod 3) := by unfold leadL; rw [if_neg (by rw [h]; decide), if_pos h]
    rw [e]
    refine fnV (fn122 _) rfl (Nat.le_refl _) (fun _ => rfl) 600 (fun n tk => H122_1 N t n tk) (fun n tk => r122_1 _ _ _ _ _ _ _) fun n tk =>
      ⟨cFdiv_ok rfl (pd _) rfl, fun z0 _ => ⟨cMod_ok rfl h, fun z1 _ => ⟨cMod_ok rfl rfl, fun z2 _ => ⟨cSp_ok (mod3 _), fun z3 _ => ⟨cStrAdd_ok rfl (small (by simp; lia)), fun z4 _ => ⟨cStrAdd_ok rfl (small (by simp; lia)), fun z5 _ => ⟨cFdiv_ok rfl (pd _) rfl, fun z6 _ =>
      ⟨cMod_ok rfl rfl, fun z7 _ => ⟨cSp_ok (mod3 _), fun z8 _ => ⟨cStrAdd_ok rfl (small (by simp; lia)), fun z9 _ => ?_⟩⟩⟩⟩⟩⟩⟩⟩⟩⟩
    exact outE z9 fun sz tk => ⟨trivial, rfl, rfl, rfl, rfl⟩
  · have e : leadL N = ((spL ((N.fdiv 3).fmod 3) ++ [9]) ++ (spL (((N.fdiv 3).fdiv 3).fmod 3) ++ [9])) ++ spL ((((N.fdiv 3).fdiv 3).fdiv 3).fmod 3) := by unfold leadL; rw [if_neg (by rw [h]; decide), if_neg (by rw [h]; decide)]
    rw [e]
    refine fnV (fn122 _) rfl (Nat.le_refl _) (fun _ => rfl) 600 (fun n tk => H122_2 N t n tk) (fun n tk => r122_2 _ _ _ _ _ _ _) fun n tk =>
      ⟨cFdiv_ok rfl (pd _) rfl, fun z0 _ => ⟨cMod_ok rfl h, fun z1 _ => ⟨cMod_ok rfl rfl, fun z2 _ => ⟨cSp_ok (mod3 _), fun z3 _ => ⟨cStrAdd_ok rfl (small (by simp; lia)), fun z4 _ => ⟨cStrAdd_ok rfl (small (by simp; lia)), fun z5 _ => ⟨cFdiv_ok rfl (pd _) rfl, fun z6 _ =>
      ⟨cMod_ok rfl rfl, fun z7 _ => ⟨cSp_ok (mod3 _), fun z8 _ => ⟨cStrAdd_ok rfl (small (by simp; lia)), fun z9 _ => ⟨cStrAdd_ok rfl (small (by simp; lia)), fun z10 _ => ⟨cFdiv_ok rfl (pd _) rfl, fun z11 _ =>
      ⟨cMod_ok rfl rfl, fun z12 _ => ⟨cSp_ok (mod3 _), fun z13 _ => ⟨cStrAdd_ok rfl (small (by simp; lia)), fun z14 _ => ?_⟩⟩⟩⟩⟩⟩⟩⟩⟩⟩⟩⟩⟩⟩⟩
    exact outE z14 fun sz tk => ⟨trivial, rfl, rfl, rfl, rfl⟩
/-! _law_columns -/
noncomputable def sCol : Stmt := atS (forB (atS (dBody (stm 14)) 1)) 1
/-- the column behind the signs -/
noncomputable def colFrom (sz c : Int) : List Nat → Int
  | [] => c
  | ch :: r => colFrom sz (c + (if ch = 32 then 1 else sz - c.fmod sz)) r
structure Lp where
  (L it : Addr) (x : PySem.Str) (t : Nat) (cl : Addr) (sz : Int) (s3 a1 a2 a3 a4 a5 i0 i1 : Nat)
noncomputable def Lp.es (q : Lp) (P : Params) (c : Int) (tc : Nat) : List DictEntry :=
  [eN P [108, 101, 97, 100] q.a1 (.str q.x q.t), eN P [99, 111, 108, 117, 109, 110, 115] q.a2 (.ref q.cl), eN P [115, 105, 122, 101] q.a3 (.int q.sz q.s3), eN P [99, 111, 108, 117, 109, 110] q.a4 (.int c tc)]
noncomputable def Lp.fr (q : Lp) (P : Params) (c : Int) (tc s0 st : Nat) : Obj := frO (addL (q.es P c tc) [eN P [115, 105, 103, 110] q.a5 (.str ⟨⟨[s0]⟩⟩ st)]) 5
noncomputable def Lp.fr0 (q : Lp) (P : Params) (c : Int) (tc : Nat) : Obj := frO (q.es P c tc) 4
noncomputable def cColL (P : Params) (q : Lp) (j : Nat) (c : Int) (tc s0 st : Nat) (cf : Int) (n : Nat) : Ctr :=
  { code := forC sCol q.it (envA fd129 129 q.L []), mus := [(q.i0, (q.L, q.fr P c tc s0 st)), (q.i1, (q.it, siO (.str q.x q.t) j))],
    upd := fun y => [q.fr P cf (y 2) (y 3) (y 4), siO .none n], res := fun _ => .ok .next }
/-- the first turn: no sign yet -/
noncomputable def cCol0 (P : Params) (q : Lp) (c : Int) (tc : Nat) (cf : Int) (n : Nat) : Ctr :=
  { code := forC sCol q.it (envA fd129 129 q.L []), mus := [(q.i0, (q.L, q.fr0 P c tc)), (q.i1, (q.it, siO (.str q.x q.t) 0))],
    upd := fun y => [({ q with a5 := y 5 } : Lp).fr P cf (y 2) (y 3) (y 4), siO .none n], res := fun _ => .ok .next }
noncomputable def HColS (P : Params) (q : Lp) (j : Nat) (c : Int) (cf : Int) (n : Nat) (a5 : (Nat → Nat) → Nat) : HT :=
  .go [3,1] (.cut (cSNext 1 q.it q.x q.t j 32) fun z0 => .go [1,0,1,1,1] (.cut (cStrEq ⟨⟨[32]⟩⟩ ⟨⟨[32]⟩⟩ (z0 2) (z0 1 + 1) true) fun z1 => .go [0,1,0]
    (.cut (cColL P { q with i0 := 0, i1 := 1, a5 := a5 z0 } (j + 1) (c + 1) (z1 1 + 1) 32 (z0 2) cf n) fun z2 => .nil { res := .ok .next, exp := [(1, (q.L, ({ q with a5 := a5 z0 } : Lp).fr P cf (z2 2) (z2 3) (z2 4))), (3, (q.it, siO .none n))] })))
noncomputable def HColT (P : Params) (q : Lp) (j : Nat) (c : Int) (tc ch : Nat) (cf : Int) (n : Nat) (a5 : (Nat → Nat) → Nat) : HT :=
  .go [3,1] (.cut (cSNext 1 q.it q.x q.t j ch) fun z0 => .go [1,0,1,1,1] (.cut (cStrEq ⟨⟨[ch]⟩⟩ ⟨⟨[32]⟩⟩ (z0 2) (z0 1 + 1) false) fun z1 => .go [1,1,1,1]
    (.cut (cMod c q.sz tc q.s3 (c.fmod q.sz)) fun zm => .go [0,0,1,0] (.cut (cColL P { q with i0 := 0, i1 := 1, a5 := a5 z0 } (j + 1) (c + (q.sz - c.fmod q.sz)) (zm 1 + 1) ch (z0 2) cf n) fun z2 =>
      .nil { res := .ok .next, exp := [(1, (q.L, ({ q with a5 := a5 z0 } : Lp).fr P cf (z2 2) (z2 3) (z2 4))), (3, (q.it, siO .none n))] }))))
noncomputable def HColE (P : Params) (q : Lp) (j : Nat) (c : Int) (tc s0 st : Nat) : HT :=
  .go [3,1] (.cut (cSEnd 1 q.it q.x q.t j) fun z0 => .go [4] (.nil { res := .ok .next, exp := [(1, (q.L, q.fr P c tc s0 st)), (3, (q.it, siO .none j))] }))
theorem rColS (P : Params) (b1 b2 : Bool) (q : Lp) (j : Nat) (c : Int) (tc s0 st : Nat) (cf : Int) (n m tk : Nat) : (RunC (parOf P b1 b2) (cColL (parOf P b1 b2) q j c tc s0 st cf n) 200 (HColS (parOf P b1 b2) q j c cf n fun _ => q.a5) m tk).Ok := by
  cases b1 <;> (show OT.l _ = OT.r _; kernel_rfl)
theorem rColT (P : Params) (b1 b2 : Bool) (q : Lp) (j : Nat) (c : Int) (tc s0 st ch : Nat) (cf : Int) (n m tk : Nat) : (RunC (parOf P b1 b2) (cColL (parOf P b1 b2) q j c tc s0 st cf n) 200 (HColT (parOf P b1 b2) q j c tc ch cf n fun _ => q.a5) m tk).Ok := by
  cases b1 <;> (show OT.l _ = OT.r _; kernel_rfl)
theorem rColE (P : Params) (b1 b2 : Bool) (q : Lp) (j : Nat) (c : Int) (tc s0 st m tk : Nat) : (RunC (parOf P b1 b2) (cColL (parOf P b1 b2) q j c tc s0 st c j) 200 (HColE (parOf P b1 b2) q j c tc s0 st) m tk).Ok := by
  cases b1 <;> (show OT.l _ = OT.r _; kernel_rfl)
theorem rCol0S (P : Params) (b1 b2 : Bool) (q : Lp) (c : Int) (tc : Nat) (cf : Int) (n m tk : Nat) : (RunC (parOf P b1 b2) (cCol0 (parOf P b1 b2) q c tc cf n) 200 (HColS (parOf P b1 b2) q 0 c cf n fun z0 => z0 1) m tk).Ok := by
  cases b1 <;> (show OT.l _ = OT.r _; kernel_rfl)
theorem rCol0T (P : Params) (b1 b2 : Bool) (q : Lp) (c : Int) (tc ch : Nat) (cf : Int) (n m tk : Nat) : (RunC (parOf P b1 b2) (cCol0 (parOf P b1 b2) q c tc cf n) 200 (HColT (parOf P b1 b2) q 0 c tc ch cf n fun z0 => z0 1) m tk).Ok := by
  cases b1 <;> (show OT.l _ = OT.r _; kernel_rfl)

theorem colL_ok (w : World) (b1 b2 : Bool) : ∀ (r : List Nat) (q : Lp) (j : Nat) (c : Int) (tc s0 st : Nat), q.x.cps.toList.drop j = r → q.sz ≠ 0 → j ≤ q.x.cps.toList.length →
    VV w b1 b2 (cColL (parOf w.params b1 b2) q j c tc s0 st (colFrom q.sz c r) q.x.cps.toList.length)
  | [], q, j, c, tc, s0, st, h, hz, hj => by
    have : j = q.x.cps.toList.length := by
      have := List.drop_eq_nil_iff.mp h; lia
    subst this
    refine codeV (fun _ => rfl) 200 (fun m tk => HColE _ q _ c tc s0 st) (fun m tk => rColE _ _ _ _ _ _ _ _ _ _ _) fun m tk => ⟨cSEnd_ok ?_, fun z0 _ => ?_⟩
    · simp
    · refine outE (fun i => if i = 2 then tc else if i = 3 then s0 else st) fun sz tk => ⟨trivial, rfl, rfl, rfl, rfl⟩
  | ch :: r, q, j, c, tc, s0, st, h, hz, hj => by
    have hlt : j < q.x.cps.toList.length := by
      rcases Nat.lt_or_ge j q.x.cps.toList.length with q' | q'
      · exact q'
      · rw [List.drop_eq_nil_iff.mpr q'] at h; cases h
    have hd := List.drop_eq_getElem_cons hlt
    rw [h] at hd
    injection hd with e1 e2
    have hch : q.x.cps.toList[((j : Int)).toNat]? = some ch := by
      rw [Int.toNat_natCast, e1, List.getElem?_eq_getElem hlt]
    by_cases h32 : ch = 32
    · subst h32
      refine codeV (fun _ => rfl) 200 (fun m tk => HColS _ q j c _ _ fun _ => q.a5) (fun m tk => rColS _ _ _ _ _ _ _ _ _ _ _ _ _) fun m tk => ⟨cSNext_ok hch, fun z0 _ => ⟨cStrEq_ok rfl, fun z1 _ => ⟨?_, fun z2 _ => ?_⟩⟩⟩
      · exact colL_ok w b1 b2 r { q with i0 := 0, i1 := 1 } (j + 1) (c + 1) _ 32 _ e2.symm hz hlt
      · exact outE z2 fun sz tk => ⟨trivial, rfl, rfl, rfl, rfl⟩
    · have ef : colFrom q.sz c (ch :: r) = colFrom q.sz (c + (q.sz - c.fmod q.sz)) r := by
        show colFrom q.sz (c + (if ch = 32 then 1 else q.sz - c.fmod q.sz)) r = _
        rw [if_neg h32]
      rw [ef]
      refine codeV (fun _ => rfl) 200 (fun m tk => HColT _ q j c tc ch _ _ fun _ => q.a5) (fun m tk => rColT _ _ _ _ _ _ _ _ _ _ _ _ _ _) fun m tk => ⟨cSNext_ok hch, fun z0 _ => ⟨cStrEq_ok ?_, fun z1 _ => ⟨cMod_ok ?_ rfl, fun zm _ => ⟨?_, fun z2 _ => ?_⟩⟩⟩⟩
      · simpa using h32
      · simpa using hz
      · exact colL_ok w b1 b2 r { q with i0 := 0, i1 := 1 } (j + 1) _ _ ch _ e2.symm hz hlt
      · exact outE z2 fun sz tk => ⟨trivial, rfl, rfl, rfl, rfl⟩

theorem col0_ok (w : World) (b1 b2 : Bool) {ch : Nat} {r : List Nat} {q : Lp} {c : Int} {tc : Nat} (h : q.x.cps.toList = ch :: r) (hz : q.sz ≠ 0) :
    VV w b1 b2 (cCol0 (parOf w.params b1 b2) q c tc (colFrom q.sz c q.x.cps.toList) q.x.cps.toList.length) := by
  have hch : q.x.cps.toList[((0 : Nat) : Int).toNat]? = some ch := by rw [h]; rfl
  have e2 : q.x.cps.toList.drop (0 + 1) = r := by rw [h]; rfl
  have hl : 0 + 1 ≤ q.x.cps.toList.length := by rw [h]; simp
  by_cases h32 : ch = 32
  · subst h32
    have ef : colFrom q.sz c q.x.cps.toList = colFrom q.sz (c + 1) r := by rw [h]; rfl
    rw [ef]
    refine codeV (fun _ => rfl) 200 (fun m tk => HColS _ q 0 c _ _ fun z0 => z0 1) (fun m tk => rCol0S _ _ _ _ _ _ _ _ _ _) fun m tk => ⟨cSNext_ok hch, fun z0 _ => ⟨cStrEq_ok rfl, fun z1 _ => ⟨?_, fun z2 _ => ?_⟩⟩⟩
    · exact colL_ok w b1 b2 r { q with i0 := 0, i1 := 1, a5 := z0 1 } (0 + 1) (c + 1) _ 32 _ e2 hz hl
    · exact outE (fun i => if i = 5 then z0 1 else z2 i) fun sz tk => ⟨trivial, rfl, rfl, rfl, rfl⟩
  · have ef : colFrom q.sz c q.x.cps.toList = colFrom q.sz (c + (q.sz - c.fmod q.sz)) r := by
      rw [h]
      show colFrom q.sz (c + (if ch = 32 then 1 else q.sz - c.fmod q.sz)) r = _
      rw [if_neg h32]
    rw [ef]
    refine codeV (fun _ => rfl) 200 (fun m tk => HColT _ q 0 c tc ch _ _ fun z0 => z0 1) (fun m tk => rCol0T _ _ _ _ _ _ _ _ _ _ _) fun m tk => ⟨cSNext_ok hch, fun z0 _ => ⟨cStrEq_ok ?_, fun z1 _ => ⟨cMod_ok ?_ rfl, fun zm _ => ⟨?_, fun z2 _ => ?_⟩⟩⟩⟩
    · simpa using h32
    · simpa using hz
    · exact colL_ok w b1 b2 r { q with i0 := 0, i1 := 1, a5 := z0 1 } (0 + 1) _ _ ch _ e2 hz hl
    · exact outE (fun i => if i = 5 then z0 1 else z2 i) fun sz tk => ⟨trivial, rfl, rfl, rfl, rfl⟩

noncomputable def cCols (x : PySem.Str) (t : Nat) (k1 k2 k3 : Int) : Ctr :=
  { code := .call (.ref 129) ⟨[.str x t], []⟩, room := 1, new := fun y => [(y 2, liO [.int k1 (y 3), .int k2 (y 4), .int k3 (y 5)] 3)], res := fun y => .ok (.ret (.ref (y 2))) }
theorem fn129 (P : Params) : FnAt (kt P) 129 fd129 (dBody (stm 14)) := ⟨⟨fnO fd129, by kernel_rfl!, rfl⟩, by kernel_rfl!, by kernel_rfl!, by kernel_rfl!, ⟨128, o128, _, 363, by kernel_rfl!, by kernel_rfl!, rfl, by kernel_rfl!⟩, by kernel_rfl!⟩
noncomputable def H129 (P : Params) (x : PySem.Str) (t : Nat) (k1 k2 k3 : Int) (ln n tk : Nat) : HT :=
  .go [1,0,1,0,0,0,0,0,5,5,0,5,5,5,5,0,5,5,5,5,7,0,7,0,7,7,7,7,7,3,7,3,1,0,1,0,1,1] (.cut (cStrIter x t) fun z0 => .go [9,1]
  (.cut (cCol0 P { L := n, it := z0 2, x := x, t := t, cl := n + 1, sz := 1, s3 := tk + 5, a1 := tk, a2 := tk + 1, a3 := tk + 6, a4 := tk + 8, a5 := 0, i0 := 0, i1 := 4 } 0 (tk + 7) k1 ln) fun z1 =>
  .go [1,3,3,3,3,1,0,3,3,1,3,7,0,7,7,7,7,7,3,7,3,1,0,1,0,1,1] (.cut (cStrIter x t) fun z2 => .go [11,1]
  (.cut (cColL P { L := n, it := z2 2, x := x, t := t, cl := n + 1, sz := 2, s3 := z1 1, a1 := tk, a2 := tk + 1, a3 := tk + 6, a4 := tk + 8, a5 := z1 5, i0 := 0, i1 := 5 } 0 0 (z1 1 + 2) (z1 3) (z1 4) k2 ln) fun z3 =>
  .go [1,3,3,3,3,1,0,3,3,1,3,7,0,7,7,7,7,7,3,7,3,1,0,1,0,1,1] (.cut (cStrIter x t) fun z4 => .go [13,1]
  (.cut (cColL P { L := n, it := z4 2, x := x, t := t, cl := n + 1, sz := 3, s3 := z3 1, a1 := tk, a2 := tk + 1, a3 := tk + 6, a4 := tk + 8, a5 := z1 5, i0 := 0, i1 := 6 } 0 0 (z3 1 + 2) (z3 3) (z3 4) k3 ln) fun z5 =>
  .go [1,3,3,3,3,1,0,3,3,1,3,7,0,7,7,7,7,17,1] (.nil { res := .ok (.ret (.ref (n + 1))), exp := [(3, (n + 1, liO [.int k1 (z1 2), .int k2 (z3 2), .int k3 (z5 2)] 3))] })))))))
theorem r129 (P : Params) (b1 b2 : Bool) (x : PySem.Str) (t : Nat) (k1 k2 k3 : Int) (ln n tk : Nat) : (RunF (parOf P b1 b2) (cCols x t k1 k2 k3) 129 fd129 [.str x t] 600 (H129 (parOf P b1 b2) x t k1 k2 k3 ln n tk) n tk).Ok := by
  cases b1 <;> (show OT.l _ = OT.r _; kernel_rfl)
noncomputable def H129e (t n tk : Nat) : HT := .go [1,0,1,0,0,0,0,0,5,5,0,5,5,5,5,0,5,5,5,5,7,0,7,0,7,7,7,7,7,3,7,3,1,0,1,0,1,0,9,0,9,0,9,9,9,9,4,13,1,3,3,3,3,1,0,3,3,1,3,7,0,7,7,7,7,7,3,7,3,1,0,1,0,1,0,15,0,15,0,15,15,15,15,7,19,1,3,3,3,3,1,0,3,3,1,3,7,0,7,7,7,7,7,3,7,3,1,0,1,0,1,0,21,0,21,0,21,21,21,21,10,25,1,3,3,3,3,1,0,3,3,1,3,7,0,7,7,7,7,29,1]
  (.nil { res := .ok (.ret (.ref (n + 1))), exp := [(3, (n + 1, liO [.int 0 (tk + 7), .int 0 (tk + 11), .int 0 (tk + 15)] 3))] })
theorem r129e (P : Params) (b1 b2 : Bool) (t n tk : Nat) : (RunF (parOf P b1 b2) (cCols ⟨⟨[]⟩⟩ t 0 0 0) 129 fd129 [.str ⟨⟨[]⟩⟩ t] 600 (H129e t n tk) n tk).Ok := by
  cases b1 <;> (show OT.l _ = OT.r _; kernel_rfl)
/-- _law_columns gives the three columns -/
theorem cols_ok (w : World) (b1 b2 : Bool) {x : PySem.Str} {t : Nat} (h : x.cps.all (· < 128) = true) :
    VV w b1 b2 (cCols x t (colFrom 1 0 x.cps.toList) (colFrom 2 0 x.cps.toList) (colFrom 3 0 x.cps.toList)) := by
  obtain ⟨⟨l⟩⟩ := x
  cases l with
  | nil =>
    refine fnV (fn129 _) rfl (Nat.le_refl _) (fun _ => rfl) 600 (fun n tk => H129e t n tk) (fun n tk => r129e _ _ _ _ _ _) fun n tk => ?_
    exact outN (fun i => if i = 2 then n + 1 else if i = 3 then tk + 7 else if i = 4 then tk + 11 else tk + 15) (fun sz tk => ⟨trivial, rfl, rfl⟩) rfl (fun _ => rfl) (by intro e he; cases he with | head => kernel_rfl! | tail _ he => cases he)
  | cons ch r =>
    refine fnV (fn129 _) rfl (Nat.le_refl _) (fun _ => rfl) 600 (fun n tk => H129 _ ⟨⟨ch :: r⟩⟩ t _ _ _ (ch :: r).length n tk) (fun n tk => r129 _ _ _ _ _ _ _ _ _ _ _) fun n tk =>
      ⟨cStrIter_ok h, fun z0 _ => ⟨col0_ok w b1 b2 rfl (show (1 : Int) ≠ 0 by decide), fun z1 _ => ⟨cStrIter_ok h, fun z2 _ => ⟨colL_ok w b1 b2 (ch :: r) _ 0 0 _ _ _ rfl (show (2 : Int) ≠ 0 by decide) (Nat.zero_le _), fun z3 _ => ⟨cStrIter_ok h, fun z4 _ => ⟨colL_ok w b1 b2 (ch :: r) _ 0 0 _ _ _ rfl (show (3 : Int) ≠ 0 by decide) (Nat.zero_le _), fun z5 _ => ?_⟩⟩⟩⟩⟩⟩
    exact outN (fun i => if i = 2 then n + 1 else if i = 3 then z1 2 else if i = 4 then z3 2 else z5 2) (fun sz tk => ⟨trivial, rfl, rfl⟩) rfl (fun _ => rfl) (by intro e he; cases he with | head => kernel_rfl! | tail _ he => cases he)
/-! max and min of two ints -/
noncomputable def imin (a b : Int) : Int := if b < a then b else a
noncomputable def cMin (a b : Int) (t u : Nat) : Ctr := cB "min" [.int a t, .int b u] fun t => .int (imin a b) t
noncomputable def hA1 : List Nat := [1, 1, 0, 1, 3, 5, 3, 0, 3, 3, 3, 1, 3, 1, 5, 2, 5, 5, 3, 0, 3, 3, 3, 1, 3, 1, 1]
noncomputable def hA2 : List Nat := [5, 2, 5, 5, 3, 0, 3, 3, 3, 1, 3, 1, 9, 5, 2, 5]
noncomputable def hA3 : List Nat := [5, 3, 0, 3, 3, 3, 1, 3, 1, 9, 5, 2, 5]
noncomputable def HMx (C : Ctr) (l : List Nat) (r : Value) : HT := .go hA1 (.cut C fun z => .go l (.nil { res := .ok (.ret r) }))
theorem rMaxT (P : Params) (b1 b2 : Bool) (a b : Int) (t u n tk : Nat) : (RunC (parOf P b1 b2) (cMax a b t u) 300 (HMx (cGt b a u t true) hA2 (.int b u)) n tk).Ok := by
  cases b1 <;> (show OT.l _ = OT.r _; kernel_rfl)
theorem rMaxF (P : Params) (b1 b2 : Bool) (a b : Int) (t u n tk : Nat) : (RunC (parOf P b1 b2) (cMax a b t u) 300 (HMx (cGt b a u t false) hA3 (.int a t)) n tk).Ok := by
  cases b1 <;> (show OT.l _ = OT.r _; kernel_rfl)
theorem rMinT (P : Params) (b1 b2 : Bool) (a b : Int) (t u n tk : Nat) : (RunC (parOf P b1 b2) (cMin a b t u) 300 (HMx (cLt b a u t true) hA2 (.int b u)) n tk).Ok := by
  cases b1 <;> (show OT.l _ = OT.r _; kernel_rfl)
theorem rMinF (P : Params) (b1 b2 : Bool) (a b : Int) (t u n tk : Nat) : (RunC (parOf P b1 b2) (cMin a b t u) 300 (HMx (cLt b a u t false) hA3 (.int a t)) n tk).Ok := by
  cases b1 <;> (show OT.l _ = OT.r _; kernel_rfl)
theorem cMax_ok (w : World) (b1 b2 : Bool) {a b : Int} {t u : Nat} : VV w b1 b2 (cMax a b t u) := by
  by_cases h : b > a
  · refine codeV (fun _ => rfl) 300 (fun n tk => HMx (cGt b a u t true) hA2 (.int b u)) (fun n tk => rMaxT _ _ _ _ _ _ _ _ _) fun n tk => ⟨cGt_ok (decide_eq_true h), fun z _ => ?_⟩
    exact outE (fun _ => u) fun sz tk => ⟨trivial, by show _ = Except.ok (Flow.ret (Value.int (imax a b) u)); unfold imax; rw [if_pos h], rfl, rfl, rfl⟩
  · refine codeV (fun _ => rfl) 300 (fun n tk => HMx (cGt b a u t false) hA3 (.int a t)) (fun n tk => rMaxF _ _ _ _ _ _ _ _ _) fun n tk => ⟨cGt_ok (decide_eq_false h), fun z _ => ?_⟩
    exact outE (fun _ => t) fun sz tk => ⟨trivial, by show _ = Except.ok (Flow.ret (Value.int (imax a b) t)); unfold imax; rw [if_neg h], rfl, rfl, rfl⟩
theorem cMin_ok (w : World) (b1 b2 : Bool) {a b : Int} {t u : Nat} : VV w b1 b2 (cMin a b t u) := by
  by_cases h : b < a
  · refine codeV (fun _ => rfl) 300 (fun n tk => HMx (cLt b a u t true) hA2 (.int b u)) (fun n tk => rMinT _ _ _ _ _ _ _ _ _) fun n tk => ⟨cLt_ok (decide_eq_true h), fun z _ => ?_⟩
    exact outE (fun _ => u) fun sz tk => ⟨trivial, by show _ = Except.ok (Flow.ret (Value.int (imin a b) u)); unfold imin; rw [if_pos h], rfl, rfl, rfl⟩
  · refine codeV (fun _ => rfl) 300 (fun n tk => HMx (cLt b a u t false) hA3 (.int a t)) (fun n tk => rMinF _ _ _ _ _ _ _ _ _) fun n tk => ⟨cLt_ok (decide_eq_false h), fun z _ => ?_⟩
    exact outE (fun _ => t) fun sz tk => ⟨trivial, by show _ = Except.ok (Flow.ret (Value.int (imin a b) t)); unfold imin; rw [if_neg h], rfl, rfl, rfl⟩
/-! indent_level, longest_run_of_spaces -/
noncomputable def ilS (ts i : Nat) : List (Int × Nat) → Int → Int
  | [], acc => acc
  | (c, _) :: r, acc => ilS ts (i + 1) r (if i < ts then acc else acc + ((i / ts : Nat) : Int) * c)
noncomputable def indV (ts : Nat) (m : Mk) : Int := m.b + (ts : Int) * (ilS ts 0 m.cs 0 + m.nt)
theorem ind_ok1 (w : World) (b1 b2 : Bool) (h : Nat × Nat × Nat × Nat) (m : Mk) (t : Nat) (hc : m.cs.length ≤ 3) : VV w b1 b2 (cInd (parOf w.params b1 b2) h m 1 t (indV 1 m)) := by
  obtain ⟨x, dx, nm, ct, raw, rt, n, tn, nt, tnt, cs, b, tb, k1, k2, k3, k4, k5, sm⟩ := m
  match cs, hc with
  | [], _ =>
    refine fnV (fn52 _) rfl (Nat.le_refl _) (fun _ => rfl) 900 (fun N tk => H52_10 ⟨x, dx, nm, ct, raw, rt, n, tn, nt, tnt, [], b, tb, k1, k2, k3, k4, k5, sm⟩ t N tk) (fun N tk => r52_10 w.params b1 b2 ⟨x, dx, nm, ct, raw, rt, n, tn, nt, tnt, [], b, tb, k1, k2, k3, k4, k5, sm⟩ h t N tk) fun N tk => ⟨cMul_ok (.of_left (by decide)) rfl, fun z0 _ => ?_⟩
    exact outE (fun _ => z0 1) fun sz tk => ⟨trivial, rfl, rfl, rfl, rfl⟩
  | [(c0, u0)], _ =>
    refine fnV (fn52 _) rfl (Nat.le_refl _) (fun _ => rfl) 900 (fun N tk => H52_11 ⟨x, dx, nm, ct, raw, rt, n, tn, nt, tnt, [(c0, u0)], b, tb, k1, k2, k3, k4, k5, sm⟩ t c0 u0 N tk) (fun N tk => r52_11 w.params b1 b2 ⟨x, dx, nm, ct, raw, rt, n, tn, nt, tnt, [(c0, u0)], b, tb, k1, k2, k3, k4, k5, sm⟩ h t c0 u0 N tk) fun N tk => ⟨cMul_ok (.of_left (by decide)) rfl, fun z0 _ => ?_⟩
    exact outE (fun _ => z0 1) fun sz tk => ⟨trivial, rfl, rfl, rfl, rfl⟩
  | [(c0, u0), (c1, u1)], _ =>
    refine fnV (fn52 _) rfl (Nat.le_refl _) (fun _ => rfl) 900 (fun N tk => H52_12 ⟨x, dx, nm, ct, raw, rt, n, tn, nt, tnt, [(c0, u0), (c1, u1)], b, tb, k1, k2, k3, k4, k5, sm⟩ t c0 u0 c1 u1 N tk) (fun N tk => r52_12 w.params b1 b2 ⟨x, dx, nm, ct, raw, rt, n, tn, nt, tnt, [(c0, u0), (c1, u1)], b, tb, k1, k2, k3, k4, k5, sm⟩ h t c0 u0 c1 u1 N tk) fun N tk => ⟨cMul_ok (.of_left (by decide)) rfl, fun z0 _ => ⟨cMul_ok (.of_left (by decide)) rfl, fun z1 _ => ?_⟩⟩
    exact outE (fun _ => z1 1) fun sz tk => ⟨trivial, rfl, rfl, rfl, rfl⟩
  | [(c0, u0), (c1, u1), (c2, u2)], _ =>
    refine fnV (fn52 _) rfl (Nat.le_refl _) (fun _ => rfl) 900 (fun N tk => H52_13 ⟨x, dx, nm, ct, raw, rt, n, tn, nt, tnt, [(c0, u0), (c1, u1), (c2, u2)], b, tb, k1, k2, k3, k4, k5, sm⟩ t c0 u0 c1 u1 c2 u2 N tk) (fun N tk => r52_13 w.params b1 b2 ⟨x, dx, nm, ct, raw, rt, n, tn, nt, tnt, [(c0, u0), (c1, u1), (c2, u2)], b, tb, k1, k2, k3, k4, k5, sm⟩ h t c0 u0 c1 u1 c2 u2 N tk) fun N tk => ⟨cMul_ok (.of_left (by decide)) rfl, fun z0 _ => ⟨cMul_ok (.of_left (by decide)) rfl, fun z1 _ => ⟨cMul_ok (.of_left (by decide)) rfl, fun z2 _ => ?_⟩⟩⟩
    exact outE (fun _ => z2 1) fun sz tk => ⟨trivial, rfl, rfl, rfl, rfl⟩
  | _ :: _ :: _ :: _ :: _, hc => exact absurd hc (by simp)
theorem ind_ok2 (w : World) (b1 b2 : Bool) (h : Nat × Nat × Nat × Nat) (m : Mk) (t : Nat) (hc : m.cs.length ≤ 3) : VV w b1 b2 (cInd (parOf w.params b1 b2) h m 2 t (indV 2 m)) := by
  obtain ⟨x, dx, nm, ct, raw, rt, n, tn, nt, tnt, cs, b, tb, k1, k2, k3, k4, k5, sm⟩ := m
  match cs, hc with
  | [], _ =>
    refine fnV (fn52 _) rfl (Nat.le_refl _) (fun _ => rfl) 900 (fun N tk => H52_20 ⟨x, dx, nm, ct, raw, rt, n, tn, nt, tnt, [], b, tb, k1, k2, k3, k4, k5, sm⟩ t N tk) (fun N tk => r52_20 w.params b1 b2 ⟨x, dx, nm, ct, raw, rt, n, tn, nt, tnt, [], b, tb, k1, k2, k3, k4, k5, sm⟩ h t N tk) fun N tk => ⟨cMul_ok (.of_left (by decide)) rfl, fun z0 _ => ?_⟩
    exact outE (fun _ => z0 1) fun sz tk => ⟨trivial, rfl, rfl, rfl, rfl⟩
  | [(c0, u0)], _ =>
    refine fnV (fn52 _) rfl (Nat.le_refl _) (fun _ => rfl) 900 (fun N tk => H52_21 ⟨x, dx, nm, ct, raw, rt, n, tn, nt, tnt, [(c0, u0)], b, tb, k1, k2, k3, k4, k5, sm⟩ t c0 u0 N tk) (fun N tk => r52_21 w.params b1 b2 ⟨x, dx, nm, ct, raw, rt, n, tn, nt, tnt, [(c0, u0)], b, tb, k1, k2, k3, k4, k5, sm⟩ h t c0 u0 N tk) fun N tk => ⟨cMul_ok (.of_left (by decide)) rfl, fun z0 _ => ?_⟩
    exact outE (fun _ => z0 1) fun sz tk => ⟨trivial, rfl, rfl, rfl, rfl⟩
  | [(c0, u0), (c1, u1)], _ =>
    refine fnV (fn52 _) rfl (Nat.le_refl _) (fun _ => rfl) 900 (fun N tk => H52_22 ⟨x, dx, nm, ct, raw, rt, n, tn, nt, tnt, [(c0, u0), (c1, u1)], b, tb, k1, k2, k3, k4, k5, sm⟩ t c0 u0 c1 u1 N tk) (fun N tk => r52_22 w.params b1 b2 ⟨x, dx, nm, ct, raw, rt, n, tn, nt, tnt, [(c0, u0), (c1, u1)], b, tb, k1, k2, k3, k4, k5, sm⟩ h t c0 u0 c1 u1 N tk) fun N tk => ⟨cMul_ok (.of_left (by decide)) rfl, fun z0 _ => ?_⟩
    exact outE (fun _ => z0 1) fun sz tk => ⟨trivial, rfl, rfl, rfl, rfl⟩
  | [(c0, u0), (c1, u1), (c2, u2)], _ =>
    refine fnV (fn52 _) rfl (Nat.le_refl _) (fun _ => rfl) 900 (fun N tk => H52_23 ⟨x, dx, nm, ct, raw, rt, n, tn, nt, tnt, [(c0, u0), (c1, u1), (c2, u2)], b, tb, k1, k2, k3, k4, k5, sm⟩ t c0 u0 c1 u1 c2 u2 N tk) (fun N tk => r52_23 w.params b1 b2 ⟨x, dx, nm, ct, raw, rt, n, tn, nt, tnt, [(c0, u0), (c1, u1), (c2, u2)], b, tb, k1, k2, k3, k4, k5, sm⟩ h t c0 u0 c1 u1 c2 u2 N tk) fun N tk => ⟨cMul_ok (.of_left (by decide)) rfl, fun z0 _ => ⟨cMul_ok (.of_left (by decide)) rfl, fun z1 _ => ?_⟩⟩
    exact outE (fun _ => z1 1) fun sz tk => ⟨trivial, rfl, rfl, rfl, rfl⟩
  | _ :: _ :: _ :: _ :: _, hc => exact absurd hc (by simp)
theorem ind_ok3 (w : World) (b1 b2 : Bool) (h : Nat × Nat × Nat × Nat) (m : Mk) (t : Nat) (hc : m.cs.length ≤ 3) : VV w b1 b2 (cInd (parOf w.params b1 b2) h m 3 t (indV 3 m)) := by
  obtain ⟨x, dx, nm, ct, raw, rt, n, tn, nt, tnt, cs, b, tb, k1, k2, k3, k4, k5, sm⟩ := m
  match cs, hc with
  | [], _ =>
    refine fnV (fn52 _) rfl (Nat.le_refl _) (fun _ => rfl) 900 (fun N tk => H52_30 ⟨x, dx, nm, ct, raw, rt, n, tn, nt, tnt, [], b, tb, k1, k2, k3, k4, k5, sm⟩ t N tk) (fun N tk => r52_30 w.params b1 b2 ⟨x, dx, nm, ct, raw, rt, n, tn, nt, tnt, [], b, tb, k1, k2, k3, k4, k5, sm⟩ h t N tk) fun N tk => ⟨cMul_ok (.of_left (by decide)) rfl, fun z0 _ => ?_⟩
    exact outE (fun _ => z0 1) fun sz tk => ⟨trivial, rfl, rfl, rfl, rfl⟩
  | [(c0, u0)], _ =>
    refine fnV (fn52 _) rfl (Nat.le_refl _) (fun _ => rfl) 900 (fun N tk => H52_31 ⟨x, dx, nm, ct, raw, rt, n, tn, nt, tnt, [(c0, u0)], b, tb, k1, k2, k3, k4, k5, sm⟩ t c0 u0 N tk) (fun N tk => r52_31 w.params b1 b2 ⟨x, dx, nm, ct, raw, rt, n, tn, nt, tnt, [(c0, u0)], b, tb, k1, k2, k3, k4, k5, sm⟩ h t c0 u0 N tk) fun N tk => ⟨cMul_ok (.of_left (by decide)) rfl, fun z0 _ => ?_⟩
    exact outE (fun _ => z0 1) fun sz tk => ⟨trivial, rfl, rfl, rfl, rfl⟩
  | [(c0, u0), (c1, u1)], _ =>
    refine fnV (fn52 _) rfl (Nat.le_refl _) (fun _ => rfl) 900 (fun N tk => H52_32 ⟨x, dx, nm, ct, raw, rt, n, tn, nt, tnt, [(c0, u0), (c1, u1)], b, tb, k1, k2, k3, k4, k5, sm⟩ t c0 u0 c1 u1 N tk) (fun N tk => r52_32 w.params b1 b2 ⟨x, dx, nm, ct, raw, rt, n, tn, nt, tnt, [(c0, u0), (c1, u1)], b, tb, k1, k2, k3, k4, k5, sm⟩ h t c0 u0 c1 u1 N tk) fun N tk => ⟨cMul_ok (.of_left (by decide)) rfl, fun z0 _ => ?_⟩
    exact outE (fun _ => z0 1) fun sz tk => ⟨trivial, rfl, rfl, rfl, rfl⟩
  | [(c0, u0), (c1, u1), (c2, u2)], _ =>
    refine fnV (fn52 _) rfl (Nat.le_refl _) (fun _ => rfl) 900 (fun N tk => H52_33 ⟨x, dx, nm, ct, raw, rt, n, tn, nt, tnt, [(c0, u0), (c1, u1), (c2, u2)], b, tb, k1, k2, k3, k4, k5, sm⟩ t c0 u0 c1 u1 c2 u2 N tk) (fun N tk => r52_33 w.params b1 b2 ⟨x, dx, nm, ct, raw, rt, n, tn, nt, tnt, [(c0, u0), (c1, u1), (c2, u2)], b, tb, k1, k2, k3, k4, k5, sm⟩ h t c0 u0 c1 u1 c2 u2 N tk) fun N tk => ⟨cMul_ok (.of_left (by decide)) rfl, fun z0 _ => ?_⟩
    exact outE (fun _ => z0 1) fun sz tk => ⟨trivial, rfl, rfl, rfl, rfl⟩
  | _ :: _ :: _ :: _ :: _, hc => exact absurd hc (by simp)
theorem long_ok (w : World) (b1 b2 : Bool) (h : Nat × Nat × Nat × Nat) (m : Mk) (hc : m.cs.length ≤ 3) : VV w b1 b2 (cLong (parOf w.params b1 b2) h m (imax ((m.cs.length : Int) - 1) m.b)) := by
  obtain ⟨x, dx, nm, ct, raw, rt, n, tn, nt, tnt, cs, b, tb, k1, k2, k3, k4, k5, sm⟩ := m
  match cs, hc with
  | [], _ =>
    refine fnV (fn45 _) rfl (Nat.le_refl _) (fun _ => rfl) 900 (fun N tk => H45_0 ⟨x, dx, nm, ct, raw, rt, n, tn, nt, tnt, [], b, tb, k1, k2, k3, k4, k5, sm⟩ N tk) (fun N tk => r45_0 w.params b1 b2 ⟨x, dx, nm, ct, raw, rt, n, tn, nt, tnt, [], b, tb, k1, k2, k3, k4, k5, sm⟩ h N tk) fun N tk => ⟨cMax_ok w b1 b2, fun z0 _ => ?_⟩
    exact outE z0 fun sz tk => ⟨trivial, rfl, rfl, rfl, rfl⟩
  | [(c0, u0)], _ =>
    refine fnV (fn45 _) rfl (Nat.le_refl _) (fun _ => rfl) 900 (fun N tk => H45_1 ⟨x, dx, nm, ct, raw, rt, n, tn, nt, tnt, [(c0, u0)], b, tb, k1, k2, k3, k4, k5, sm⟩ c0 u0 N tk) (fun N tk => r45_1 w.params b1 b2 ⟨x, dx, nm, ct, raw, rt, n, tn, nt, tnt, [(c0, u0)], b, tb, k1, k2, k3, k4, k5, sm⟩ h c0 u0 N tk) fun N tk => ⟨cMax_ok w b1 b2, fun z0 _ => ?_⟩
    exact outE z0 fun sz tk => ⟨trivial, rfl, rfl, rfl, rfl⟩
  | [(c0, u0), (c1, u1)], _ =>
    refine fnV (fn45 _) rfl (Nat.le_refl _) (fun _ => rfl) 900 (fun N tk => H45_2 ⟨x, dx, nm, ct, raw, rt, n, tn, nt, tnt, [(c0, u0), (c1, u1)], b, tb, k1, k2, k3, k4, k5, sm⟩ c0 u0 c1 u1 N tk) (fun N tk => r45_2 w.params b1 b2 ⟨x, dx, nm, ct, raw, rt, n, tn, nt, tnt, [(c0, u0), (c1, u1)], b, tb, k1, k2, k3, k4, k5, sm⟩ h c0 u0 c1 u1 N tk) fun N tk => ⟨cMax_ok w b1 b2, fun z0 _ => ?_⟩
    exact outE z0 fun sz tk => ⟨trivial, rfl, rfl, rfl, rfl⟩
  | [(c0, u0), (c1, u1), (c2, u2)], _ =>
    refine fnV (fn45 _) rfl (Nat.le_refl _) (fun _ => rfl) 900 (fun N tk => H45_3 ⟨x, dx, nm, ct, raw, rt, n, tn, nt, tnt, [(c0, u0), (c1, u1), (c2, u2)], b, tb, k1, k2, k3, k4, k5, sm⟩ c0 u0 c1 u1 c2 u2 N tk) (fun N tk => r45_3 w.params b1 b2 ⟨x, dx, nm, ct, raw, rt, n, tn, nt, tnt, [(c0, u0), (c1, u1), (c2, u2)], b, tb, k1, k2, k3, k4, k5, sm⟩ h c0 u0 c1 u1 c2 u2 N tk) fun N tk => ⟨cMax_ok w b1 b2, fun z0 _ => ?_⟩
    exact outE z0 fun sz tk => ⟨trivial, rfl, rfl, rfl, rfl⟩
  | _ :: _ :: _ :: _ :: _, hc => exact absurd hc (by simp)
/-! less, _law_above -/
noncomputable def cMaxL (a b : Int) (t u : Nat) (r : Int) : Ctr := cB "max" [.int a t, .int b u] fun t => .int r t
theorem cMaxL_ok (w : World) (b1 b2 : Bool) {a b r : Int} {t u : Nat} (h : imax a b = r) : VV w b1 b2 (cMaxL a b t u r) := by
  subst h; exact cMax_ok w b1 b2
noncomputable def cLess (P : Params) (h1 h2 : Nat × Nat × Nat × Nat) (m o : Mk) (v : Bool) : Ctr :=
  { code := .call (.ref 73) ⟨[.ref m.x, .ref o.x], []⟩, room := 3, reads := m.rd P h1 ++ o.rd P h2, res := fun _ => .ok (.ret (.bool v)) }
noncomputable def cAbove (P : Params) (h1 h2 : Nat × Nat × Nat × Nat) (m o : Mk) (sz : Int) (t : Nat) (v : Bool) : Ctr :=
  { code := .call (.ref 143) ⟨[.ref m.x, .ref o.x, .int sz t], []⟩, room := 5, reads := m.rd P h1 ++ o.rd P h2, res := fun _ => .ok (.ret (.bool v)) }
theorem fn73 (P : Params) : FnAt (kt P) 73 fd73 (dBody (meth 6)) := ⟨⟨fnO fd73, by kernel_rfl!, rfl⟩, by kernel_rfl!, by kernel_rfl!, by kernel_rfl!, ⟨72, o72, _, 266, by kernel_rfl!, by kernel_rfl!, rfl, by kernel_rfl!⟩, by kernel_rfl!⟩
theorem fn143 (P : Params) : FnAt (kt P) 143 fd143 (dBody (stm 16)) := ⟨⟨fnO fd143, by kernel_rfl!, rfl⟩, by kernel_rfl!, by kernel_rfl!, by kernel_rfl!, ⟨142, o142, _, 384, by kernel_rfl!, by kernel_rfl!, rfl, by kernel_rfl!⟩, by kernel_rfl!⟩
noncomputable def H73_A (P : Params) (m o : Mk) (l1 l2 i1 i2 j1 j2 : Int) (n tk : Nat) : HT := .go [1,0,1,0,1,2,0,0,0,0,2,0,0,0,2,2,0,4,1,10,0,0,0,0,10,0,0,0,10,10,0,12,1] (.cut (cGe m.n o.n (m.tn) (o.tn) true) fun z0 => .go [] (.nil { res := .ok (.ret (.bool false)) }))
theorem r73_A (P : Params) (b1 b2 : Bool) (m o : Mk) (h1 h2 : Nat × Nat × Nat × Nat) (l1 l2 i1 i2 j1 j2 : Int) (n tk : Nat) : (RunF (parOf P b1 b2) (cLess (parOf P b1 b2) h1 h2 { m with sm := m.sm } { o with sm := o.sm } false) 73 fd73 [.ref m.x, .ref o.x] 900 (H73_A (parOf P b1 b2) { m with sm := m.sm } { o with sm := o.sm } l1 l2 i1 i2 j1 j2 n tk) n tk).Ok := by
  cases b1 <;> (show OT.l _ = OT.r _; kernel_rfl)
noncomputable def H73_Bt (P : Params) (m o : Mk) (l1 l2 i1 i2 j1 j2 : Int) (n tk : Nat) : HT := .go [1,0,1,0,1,2,0,0,0,0,2,0,0,0,2,2,0,4,1,10,0,0,0,0,10,0,0,0,10,10,0,12,1] (.cut (cGe m.n o.n (m.tn) (o.tn) false) fun z0 => .go [1,2,0,0,0,0,2,0,0,0,2,2,0,4,1,10,0,0,0,0,10,0,0,0,10,10,0,12,1,2,0,0,0,0,2,0,0,0,2,2,0,4,1,10,0,0,0,0,10,0,0,0,10,10,0,12,1] (.cut (cLe m.nt o.nt (m.tnt) (o.tnt) true) fun z1 => .go [] (.nil { res := .ok (.ret (.bool true)) })))
theorem r73_Bt (P : Params) (b1 b2 : Bool) (m o : Mk) (h1 h2 : Nat × Nat × Nat × Nat) (l1 l2 i1 i2 j1 j2 : Int) (n tk : Nat) : (RunF (parOf P b1 b2) (cLess (parOf P b1 b2) h1 h2 { m with sm := true } { o with sm := true } true) 73 fd73 [.ref m.x, .ref o.x] 900 (H73_Bt (parOf P b1 b2) { m with sm := true } { o with sm := true } l1 l2 i1 i2 j1 j2 n tk) n tk).Ok := by
  cases b1 <;> (show OT.l _ = OT.r _; kernel_rfl)
noncomputable def H73_Bf (P : Params) (m o : Mk) (l1 l2 i1 i2 j1 j2 : Int) (n tk : Nat) : HT := .go [1,0,1,0,1,2,0,0,0,0,2,0,0,0,2,2,0,4,1,10,0,0,0,0,10,0,0,0,10,10,0,12,1] (.cut (cGe m.n o.n (m.tn) (o.tn) false) fun z0 => .go [1,2,0,0,0,0,2,0,0,0,2,2,0,4,1,10,0,0,0,0,10,0,0,0,10,10,0,12,1,2,0,0,0,0,2,0,0,0,2,2,0,4,1,10,0,0,0,0,10,0,0,0,10,10,0,12,1] (.cut (cLe m.nt o.nt (m.tnt) (o.tnt) false) fun z1 => .go [] (.nil { res := .ok (.ret (.bool false)) })))
theorem r73_Bf (P : Params) (b1 b2 : Bool) (m o : Mk) (h1 h2 : Nat × Nat × Nat × Nat) (l1 l2 i1 i2 j1 j2 : Int) (n tk : Nat) : (RunF (parOf P b1 b2) (cLess (parOf P b1 b2) h1 h2 { m with sm := true } { o with sm := true } false) 73 fd73 [.ref m.x, .ref o.x] 900 (H73_Bf (parOf P b1 b2) { m with sm := true } { o with sm := true } l1 l2 i1 i2 j1 j2 n tk) n tk).Ok := by
  cases b1 <;> (show OT.l _ = OT.r _; kernel_rfl)
noncomputable def H73_C2Ftk1 (P : Params) (m o : Mk) (l1 l2 i1 i2 : Int) (z1 z2 : Nat → Nat) : HT := .go [1] (.cut (cMaxL l1 l2 (z1 2) (z2 2) 1) fun z3 => .go [0,1,0,0,0,1,0,0,0,3,3,0,3,3,3,3,0,3,3,3,3,5,0,5,0,5,5,5,5,5,2,5,2,1,0,1,2,0,0,0,2,0,0,0,2,0,0,0,0,2,4,1,0,1] (.cut (cInd P (2, 4, 6, 8) m 2 (z3 1 + 7) i1) fun z4 => .go [1,10,0,0,0,10,0,0,0,10,0,0,0,0,10,12,1,0,1] (.cut (cInd P (10, 12, 14, 16) o 2 (z3 1 + 7) i2) fun z5 => .go [1] (.cut (cGe i1 i2 (z4 2) (z5 2) false) fun z6 => .go [5,0,5,5,5,5,9] (.nil { res := .ok (.ret (.bool true)) })))))
noncomputable def H73_C2Ft (P : Params) (m o : Mk) (l1 l2 i1 i2 j1 j2 : Int) (n tk : Nat) : HT := .go [1,0,1,0,1,2,0,0,0,0,2,0,0,0,2,2,0,4,1,10,0,0,0,0,10,0,0,0,10,10,0,12,1] (.cut (cGe m.n o.n (m.tn) (o.tn) false) fun z0 => .go [1,2,0,0,0,0,2,0,0,0,2,2,0,4,0,0,1,2,0,0,0,2,0,0,0,2,0,0,0,0,2,4,0,1] (.cut (cLong P (2, 4, 6, 8) m l1) fun z1 => .go [1,10,0,0,0,10,0,0,0,10,0,0,0,0,10,12,0,1] (.cut (cLong P (10, 12, 14, 16) o l2) fun z2 => (H73_C2Ftk1 P m o l1 l2 i1 i2 z1 z2))))
theorem r73_C2Ft (P : Params) (b1 b2 : Bool) (m o : Mk) (h1 h2 : Nat × Nat × Nat × Nat) (l1 l2 i1 i2 j1 j2 : Int) (n tk : Nat) : (RunF (parOf P b1 b2) (cLess (parOf P b1 b2) h1 h2 { m with sm := false } { o with sm := o.sm } true) 73 fd73 [.ref m.x, .ref o.x] 900 (H73_C2Ft (parOf P b1 b2) { m with sm := false } { o with sm := o.sm } l1 l2 i1 i2 j1 j2 n tk) n tk).Ok := by
  cases b1 <;> (show OT.l _ = OT.r _; kernel_rfl)
noncomputable def H73_C2Ffk1 (P : Params) (m o : Mk) (l1 l2 i1 i2 : Int) (z1 z2 : Nat → Nat) : HT := .go [1] (.cut (cMaxL l1 l2 (z1 2) (z2 2) 1) fun z3 => .go [0,1,0,0,0,1,0,0,0,3,3,0,3,3,3,3,0,3,3,3,3,5,0,5,0,5,5,5,5,5,2,5,2,1,0,1,2,0,0,0,2,0,0,0,2,0,0,0,0,2,4,1,0,1] (.cut (cInd P (2, 4, 6, 8) m 2 (z3 1 + 7) i1) fun z4 => .go [1,10,0,0,0,10,0,0,0,10,0,0,0,0,10,12,1,0,1] (.cut (cInd P (10, 12, 14, 16) o 2 (z3 1 + 7) i2) fun z5 => .go [1] (.cut (cGe i1 i2 (z4 2) (z5 2) true) fun z6 => .go [] (.nil { res := .ok (.ret (.bool false)) })))))
noncomputable def H73_C2Ff (P : Params) (m o : Mk) (l1 l2 i1 i2 j1 j2 : Int) (n tk : Nat) : HT := .go [1,0,1,0,1,2,0,0,0,0,2,0,0,0,2,2,0,4,1,10,0,0,0,0,10,0,0,0,10,10,0,12,1] (.cut (cGe m.n o.n (m.tn) (o.tn) false) fun z0 => .go [1,2,0,0,0,0,2,0,0,0,2,2,0,4,0,0,1,2,0,0,0,2,0,0,0,2,0,0,0,0,2,4,0,1] (.cut (cLong P (2, 4, 6, 8) m l1) fun z1 => .go [1,10,0,0,0,10,0,0,0,10,0,0,0,0,10,12,0,1] (.cut (cLong P (10, 12, 14, 16) o l2) fun z2 => (H73_C2Ffk1 P m o l1 l2 i1 i2 z1 z2))))
theorem r73_C2Ff (P : Params) (b1 b2 : Bool) (m o : Mk) (h1 h2 : Nat × Nat × Nat × Nat) (l1 l2 i1 i2 j1 j2 : Int) (n tk : Nat) : (RunF (parOf P b1 b2) (cLess (parOf P b1 b2) h1 h2 { m with sm := false } { o with sm := o.sm } false) 73 fd73 [.ref m.x, .ref o.x] 900 (H73_C2Ff (parOf P b1 b2) { m with sm := false } { o with sm := o.sm } l1 l2 i1 i2 j1 j2 n tk) n tk).Ok := by
  cases b1 <;> (show OT.l _ = OT.r _; kernel_rfl)
noncomputable def H73_C2Ttk1 (P : Params) (m o : Mk) (l1 l2 i1 i2 : Int) (z1 z2 : Nat → Nat) : HT := .go [1] (.cut (cMaxL l1 l2 (z1 2) (z2 2) 1) fun z3 => .go [0,1,0,0,0,1,0,0,0,3,3,0,3,3,3,3,0,3,3,3,3,5,0,5,0,5,5,5,5,5,2,5,2,1,0,1,2,0,0,0,2,0,0,0,2,0,0,0,0,2,4,1,0,1] (.cut (cInd P (2, 4, 6, 8) m 2 (z3 1 + 7) i1) fun z4 => .go [1,10,0,0,0,10,0,0,0,10,0,0,0,0,10,12,1,0,1] (.cut (cInd P (10, 12, 14, 16) o 2 (z3 1 + 7) i2) fun z5 => .go [1] (.cut (cGe i1 i2 (z4 2) (z5 2) false) fun z6 => .go [5,0,5,5,5,5,9] (.nil { res := .ok (.ret (.bool true)) })))))
noncomputable def H73_C2Tt (P : Params) (m o : Mk) (l1 l2 i1 i2 j1 j2 : Int) (n tk : Nat) : HT := .go [1,0,1,0,1,2,0,0,0,0,2,0,0,0,2,2,0,4,1,10,0,0,0,0,10,0,0,0,10,10,0,12,1] (.cut (cGe m.n o.n (m.tn) (o.tn) false) fun z0 => .go [1,2,0,0,0,0,2,0,0,0,2,2,0,4,1,10,0,0,0,0,10,0,0,0,10,10,0,12,0,0,1,2,0,0,0,2,0,0,0,2,0,0,0,0,2,4,0,1] (.cut (cLong P (2, 4, 6, 8) m l1) fun z1 => .go [1,10,0,0,0,10,0,0,0,10,0,0,0,0,10,12,0,1] (.cut (cLong P (10, 12, 14, 16) o l2) fun z2 => (H73_C2Ttk1 P m o l1 l2 i1 i2 z1 z2))))
theorem r73_C2Tt (P : Params) (b1 b2 : Bool) (m o : Mk) (h1 h2 : Nat × Nat × Nat × Nat) (l1 l2 i1 i2 j1 j2 : Int) (n tk : Nat) : (RunF (parOf P b1 b2) (cLess (parOf P b1 b2) h1 h2 { m with sm := true } { o with sm := false } true) 73 fd73 [.ref m.x, .ref o.x] 900 (H73_C2Tt (parOf P b1 b2) { m with sm := true } { o with sm := false } l1 l2 i1 i2 j1 j2 n tk) n tk).Ok := by
  cases b1 <;> (show OT.l _ = OT.r _; kernel_rfl)
noncomputable def H73_C2Tfk1 (P : Params) (m o : Mk) (l1 l2 i1 i2 : Int) (z1 z2 : Nat → Nat) : HT := .go [1] (.cut (cMaxL l1 l2 (z1 2) (z2 2) 1) fun z3 => .go [0,1,0,0,0,1,0,0,0,3,3,0,3,3,3,3,0,3,3,3,3,5,0,5,0,5,5,5,5,5,2,5,2,1,0,1,2,0,0,0,2,0,0,0,2,0,0,0,0,2,4,1,0,1] (.cut (cInd P (2, 4, 6, 8) m 2 (z3 1 + 7) i1) fun z4 => .go [1,10,0,0,0,10,0,0,0,10,0,0,0,0,10,12,1,0,1] (.cut (cInd P (10, 12, 14, 16) o 2 (z3 1 + 7) i2) fun z5 => .go [1] (.cut (cGe i1 i2 (z4 2) (z5 2) true) fun z6 => .go [] (.nil { res := .ok (.ret (.bool false)) })))))
noncomputable def H73_C2Tf (P : Params) (m o : Mk) (l1 l2 i1 i2 j1 j2 : Int) (n tk : Nat) : HT := .go [1,0,1,0,1,2,0,0,0,0,2,0,0,0,2,2,0,4,1,10,0,0,0,0,10,0,0,0,10,10,0,12,1] (.cut (cGe m.n o.n (m.tn) (o.tn) false) fun z0 => .go [1,2,0,0,0,0,2,0,0,0,2,2,0,4,1,10,0,0,0,0,10,0,0,0,10,10,0,12,0,0,1,2,0,0,0,2,0,0,0,2,0,0,0,0,2,4,0,1] (.cut (cLong P (2, 4, 6, 8) m l1) fun z1 => .go [1,10,0,0,0,10,0,0,0,10,0,0,0,0,10,12,0,1] (.cut (cLong P (10, 12, 14, 16) o l2) fun z2 => (H73_C2Tfk1 P m o l1 l2 i1 i2 z1 z2))))
theorem r73_C2Tf (P : Params) (b1 b2 : Bool) (m o : Mk) (h1 h2 : Nat × Nat × Nat × Nat) (l1 l2 i1 i2 j1 j2 : Int) (n tk : Nat) : (RunF (parOf P b1 b2) (cLess (parOf P b1 b2) h1 h2 { m with sm := true } { o with sm := false } false) 73 fd73 [.ref m.x, .ref o.x] 900 (H73_C2Tf (parOf P b1 b2) { m with sm := true } { o with sm := false } l1 l2 i1 i2 j1 j2 n tk) n tk).Ok := by
  cases b1 <;> (show OT.l _ = OT.r _; kernel_rfl)
noncomputable def H73_C3Ftk2 (P : Params) (m o : Mk) (i1 i2 j1 j2 : Int) (z4 z5 : Nat → Nat) : HT := .go [1] (.cut (cGe i1 i2 (z4 2) (z5 2) false) fun z6 => .go [5,0,5,5,5,5,5,2,5,2,1,0,1,2,0,0,0,2,0,0,0,2,0,0,0,0,2,4,1,0,1] (.cut (cInd P (2, 4, 6, 8) m 3 (z6 1) j1) fun z7 => .go [1,10,0,0,0,10,0,0,0,10,0,0,0,0,10,12,1,0,1] (.cut (cInd P (10, 12, 14, 16) o 3 (z6 1) j2) fun z8 => .go [1] (.cut (cGe j1 j2 (z7 2) (z8 2) false) fun z9 => .go [5,0,5,5,5,5,9] (.nil { res := .ok (.ret (.bool true)) })))))
noncomputable def H73_C3Ftk1 (P : Params) (m o : Mk) (l1 l2 i1 i2 j1 j2 : Int) (z1 z2 : Nat → Nat) : HT := .go [1] (.cut (cMaxL l1 l2 (z1 2) (z2 2) 2) fun z3 => .go [0,1,0,0,0,1,0,0,0,3,3,0,3,3,3,3,0,3,3,3,3,5,0,5,0,5,5,5,5,5,2,5,2,1,0,1,2,0,0,0,2,0,0,0,2,0,0,0,0,2,4,1,0,1] (.cut (cInd P (2, 4, 6, 8) m 2 (z3 1 + 7) i1) fun z4 => .go [1,10,0,0,0,10,0,0,0,10,0,0,0,0,10,12,1,0,1] (.cut (cInd P (10, 12, 14, 16) o 2 (z3 1 + 7) i2) fun z5 => (H73_C3Ftk2 P m o i1 i2 j1 j2 z4 z5))))
noncomputable def H73_C3Ft (P : Params) (m o : Mk) (l1 l2 i1 i2 j1 j2 : Int) (n tk : Nat) : HT := .go [1,0,1,0,1,2,0,0,0,0,2,0,0,0,2,2,0,4,1,10,0,0,0,0,10,0,0,0,10,10,0,12,1] (.cut (cGe m.n o.n (m.tn) (o.tn) false) fun z0 => .go [1,2,0,0,0,0,2,0,0,0,2,2,0,4,0,0,1,2,0,0,0,2,0,0,0,2,0,0,0,0,2,4,0,1] (.cut (cLong P (2, 4, 6, 8) m l1) fun z1 => .go [1,10,0,0,0,10,0,0,0,10,0,0,0,0,10,12,0,1] (.cut (cLong P (10, 12, 14, 16) o l2) fun z2 => (H73_C3Ftk1 P m o l1 l2 i1 i2 j1 j2 z1 z2))))
theorem r73_C3Ft (P : Params) (b1 b2 : Bool) (m o : Mk) (h1 h2 : Nat × Nat × Nat × Nat) (l1 l2 i1 i2 j1 j2 : Int) (n tk : Nat) : (RunF (parOf P b1 b2) (cLess (parOf P b1 b2) h1 h2 { m with sm := false } { o with sm := o.sm } true) 73 fd73 [.ref m.x, .ref o.x] 900 (H73_C3Ft (parOf P b1 b2) { m with sm := false } { o with sm := o.sm } l1 l2 i1 i2 j1 j2 n tk) n tk).Ok := by
  cases b1 <;> (show OT.l _ = OT.r _; kernel_rfl)
noncomputable def H73_C3Ffk1 (P : Params) (m o : Mk) (l1 l2 i1 i2 : Int) (z1 z2 : Nat → Nat) : HT := .go [1] (.cut (cMaxL l1 l2 (z1 2) (z2 2) 2) fun z3 => .go [0,1,0,0,0,1,0,0,0,3,3,0,3,3,3,3,0,3,3,3,3,5,0,5,0,5,5,5,5,5,2,5,2,1,0,1,2,0,0,0,2,0,0,0,2,0,0,0,0,2,4,1,0,1] (.cut (cInd P (2, 4, 6, 8) m 2 (z3 1 + 7) i1) fun z4 => .go [1,10,0,0,0,10,0,0,0,10,0,0,0,0,10,12,1,0,1] (.cut (cInd P (10, 12, 14, 16) o 2 (z3 1 + 7) i2) fun z5 => .go [1] (.cut (cGe i1 i2 (z4 2) (z5 2) true) fun z6 => .go [] (.nil { res := .ok (.ret (.bool false)) })))))
noncomputable def H73_C3Ff (P : Params) (m o : Mk) (l1 l2 i1 i2 j1 j2 : Int) (n tk : Nat) : HT := .go [1,0,1,0,1,2,0,0,0,0,2,0,0,0,2,2,0,4,1,10,0,0,0,0,10,0,0,0,10,10,0,12,1] (.cut (cGe m.n o.n (m.tn) (o.tn) false) fun z0 => .go [1,2,0,0,0,0,2,0,0,0,2,2,0,4,0,0,1,2,0,0,0,2,0,0,0,2,0,0,0,0,2,4,0,1] (.cut (cLong P (2, 4, 6, 8) m l1) fun z1 => .go [1,10,0,0,0,10,0,0,0,10,0,0,0,0,10,12,0,1] (.cut (cLong P (10, 12, 14, 16) o l2) fun z2 => (H73_C3Ffk1 P m o l1 l2 i1 i2 z1 z2))))
theorem r73_C3Ff (P : Params) (b1 b2 : Bool) (m o : Mk) (h1 h2 : Nat × Nat × Nat × Nat) (l1 l2 i1 i2 j1 j2 : Int) (n tk : Nat) : (RunF (parOf P b1 b2) (cLess (parOf P b1 b2) h1 h2 { m with sm := false } { o with sm := o.sm } false) 73 fd73 [.ref m.x, .ref o.x] 900 (H73_C3Ff (parOf P b1 b2) { m with sm := false } { o with sm := o.sm } l1 l2 i1 i2 j1 j2 n tk) n tk).Ok := by
  cases b1 <;> (show OT.l _ = OT.r _; kernel_rfl)
noncomputable def H73_C3Fgk2 (P : Params) (m o : Mk) (i1 i2 j1 j2 : Int) (z4 z5 : Nat → Nat) : HT := .go [1] (.cut (cGe i1 i2 (z4 2) (z5 2) false) fun z6 => .go [5,0,5,5,5,5,5,2,5,2,1,0,1,2,0,0,0,2,0,0,0,2,0,0,0,0,2,4,1,0,1] (.cut (cInd P (2, 4, 6, 8) m 3 (z6 1) j1) fun z7 => .go [1,10,0,0,0,10,0,0,0,10,0,0,0,0,10,12,1,0,1] (.cut (cInd P (10, 12, 14, 16) o 3 (z6 1) j2) fun z8 => .go [1] (.cut (cGe j1 j2 (z7 2) (z8 2) true) fun z9 => .go [] (.nil { res := .ok (.ret (.bool false)) })))))
noncomputable def H73_C3Fgk1 (P : Params) (m o : Mk) (l1 l2 i1 i2 j1 j2 : Int) (z1 z2 : Nat → Nat) : HT := .go [1] (.cut (cMaxL l1 l2 (z1 2) (z2 2) 2) fun z3 => .go [0,1,0,0,0,1,0,0,0,3,3,0,3,3,3,3,0,3,3,3,3,5,0,5,0,5,5,5,5,5,2,5,2,1,0,1,2,0,0,0,2,0,0,0,2,0,0,0,0,2,4,1,0,1] (.cut (cInd P (2, 4, 6, 8) m 2 (z3 1 + 7) i1) fun z4 => .go [1,10,0,0,0,10,0,0,0,10,0,0,0,0,10,12,1,0,1] (.cut (cInd P (10, 12, 14, 16) o 2 (z3 1 + 7) i2) fun z5 => (H73_C3Fgk2 P m o i1 i2 j1 j2 z4 z5))))
noncomputable def H73_C3Fg (P : Params) (m o : Mk) (l1 l2 i1 i2 j1 j2 : Int) (n tk : Nat) : HT := .go [1,0,1,0,1,2,0,0,0,0,2,0,0,0,2,2,0,4,1,10,0,0,0,0,10,0,0,0,10,10,0,12,1] (.cut (cGe m.n o.n (m.tn) (o.tn) false) fun z0 => .go [1,2,0,0,0,0,2,0,0,0,2,2,0,4,0,0,1,2,0,0,0,2,0,0,0,2,0,0,0,0,2,4,0,1] (.cut (cLong P (2, 4, 6, 8) m l1) fun z1 => .go [1,10,0,0,0,10,0,0,0,10,0,0,0,0,10,12,0,1] (.cut (cLong P (10, 12, 14, 16) o l2) fun z2 => (H73_C3Fgk1 P m o l1 l2 i1 i2 j1 j2 z1 z2))))
theorem r73_C3Fg (P : Params) (b1 b2 : Bool) (m o : Mk) (h1 h2 : Nat × Nat × Nat × Nat) (l1 l2 i1 i2 j1 j2 : Int) (n tk : Nat) : (RunF (parOf P b1 b2) (cLess (parOf P b1 b2) h1 h2 { m with sm := false } { o with sm := o.sm } false) 73 fd73 [.ref m.x, .ref o.x] 900 (H73_C3Fg (parOf P b1 b2) { m with sm := false } { o with sm := o.sm } l1 l2 i1 i2 j1 j2 n tk) n tk).Ok := by
  cases b1 <;> (show OT.l _ = OT.r _; kernel_rfl)
noncomputable def H73_C3Ttk2 (P : Params) (m o : Mk) (i1 i2 j1 j2 : Int) (z4 z5 : Nat → Nat) : HT := .go [1] (.cut (cGe i1 i2 (z4 2) (z5 2) false) fun z6 => .go [5,0,5,5,5,5,5,2,5,2,1,0,1,2,0,0,0,2,0,0,0,2,0,0,0,0,2,4,1,0,1] (.cut (cInd P (2, 4, 6, 8) m 3 (z6 1) j1) fun z7 => .go [1,10,0,0,0,10,0,0,0,10,0,0,0,0,10,12,1,0,1] (.cut (cInd P (10, 12, 14, 16) o 3 (z6 1) j2) fun z8 => .go [1] (.cut (cGe j1 j2 (z7 2) (z8 2) false) fun z9 => .go [5,0,5,5,5,5,9] (.nil { res := .ok (.ret (.bool true)) })))))
noncomputable def H73_C3Ttk1 (P : Params) (m o : Mk) (l1 l2 i1 i2 j1 j2 : Int) (z1 z2 : Nat → Nat) : HT := .go [1] (.cut (cMaxL l1 l2 (z1 2) (z2 2) 2) fun z3 => .go [0,1,0,0,0,1,0,0,0,3,3,0,3,3,3,3,0,3,3,3,3,5,0,5,0,5,5,5,5,5,2,5,2,1,0,1,2,0,0,0,2,0,0,0,2,0,0,0,0,2,4,1,0,1] (.cut (cInd P (2, 4, 6, 8) m 2 (z3 1 + 7) i1) fun z4 => .go [1,10,0,0,0,10,0,0,0,10,0,0,0,0,10,12,1,0,1] (.cut (cInd P (10, 12, 14, 16) o 2 (z3 1 + 7) i2) fun z5 => (H73_C3Ttk2 P m o i1 i2 j1 j2 z4 z5))))
noncomputable def H73_C3Tt (P : Params) (m o : Mk) (l1 l2 i1 i2 j1 j2 : Int) (n tk : Nat) : HT := .go [1,0,1,0,1,2,0,0,0,0,2,0,0,0,2,2,0,4,1,10,0,0,0,0,10,0,0,0,10,10,0,12,1] (.cut (cGe m.n o.n (m.tn) (o.tn) false) fun z0 => .go [1,2,0,0,0,0,2,0,0,0,2,2,0,4,1,10,0,0,0,0,10,0,0,0,10,10,0,12,0,0,1,2,0,0,0,2,0,0,0,2,0,0,0,0,2,4,0,1] (.cut (cLong P (2, 4, 6, 8) m l1) fun z1 => .go [1,10,0,0,0,10,0,0,0,10,0,0,0,0,10,12,0,1] (.cut (cLong P (10, 12, 14, 16) o l2) fun z2 => (H73_C3Ttk1 P m o l1 l2 i1 i2 j1 j2 z1 z2))))
theorem r73_C3Tt (P : Params) (b1 b2 : Bool) (m o : Mk) (h1 h2 : Nat × Nat × Nat × Nat) (l1 l2 i1 i2 j1 j2 : Int) (n tk : Nat) : (RunF (parOf P b1 b2) (cLess (parOf P b1 b2) h1 h2 { m with sm := true } { o with sm := false } true) 73 fd73 [.ref m.x, .ref o.x] 900 (H73_C3Tt (parOf P b1 b2) { m with sm := true } { o with sm := false } l1 l2 i1 i2 j1 j2 n tk) n tk).Ok := by
  cases b1 <;> (show OT.l _ = OT.r _; kernel_rfl)
noncomputable def H73_C3Tfk1 (P : Params) (m o : Mk) (l1 l2 i1 i2 : Int) (z1 z2 : Nat → Nat) : HT := .go [1] (.cut (cMaxL l1 l2 (z1 2) (z2 2) 2) fun z3 => .go [0,1,0,0,0,1,0,0,0,3,3,0,3,3,3,3,0,3,3,3,3,5,0,5,0,5,5,5,5,5,2,5,2,1,0,1,2,0,0,0,2,0,0,0,2,0,0,0,0,2,4,1,0,1] (.cut (cInd P (2, 4, 6, 8) m 2 (z3 1 + 7) i1) fun z4 => .go [1,10,0,0,0,10,0,0,0,10,0,0,0,0,10,12,1,0,1] (.cut (cInd P (10, 12, 14, 16) o 2 (z3 1 + 7) i2) fun z5 => .go [1] (.cut (cGe i1 i2 (z4 2) (z5 2) true) fun z6 => .go [] (.nil { res := .ok (.ret (.bool false)) })))))
noncomputable def H73_C3Tf (P : Params) (m o : Mk) (l1 l2 i1 i2 j1 j2 : Int) (n tk : Nat) : HT := .go [1,0,1,0,1,2,0,0,0,0,2,0,0,0,2,2,0,4,1,10,0,0,0,0,10,0,0,0,10,10,0,12,1] (.cut (cGe m.n o.n (m.tn) (o.tn) false) fun z0 => .go [1,2,0,0,0,0,2,0,0,0,2,2,0,4,1,10,0,0,0,0,10,0,0,0,10,10,0,12,0,0,1,2,0,0,0,2,0,0,0,2,0,0,0,0,2,4,0,1] (.cut (cLong P (2, 4, 6, 8) m l1) fun z1 => .go [1,10,0,0,0,10,0,0,0,10,0,0,0,0,10,12,0,1] (.cut (cLong P (10, 12, 14, 16) o l2) fun z2 => (H73_C3Tfk1 P m o l1 l2 i1 i2 z1 z2))))
theorem r73_C3Tf (P : Params) (b1 b2 : Bool) (m o : Mk) (h1 h2 : Nat × Nat × Nat × Nat) (l1 l2 i1 i2 j1 j2 : Int) (n tk : Nat) : (RunF (parOf P b1 b2) (cLess (parOf P b1 b2) h1 h2 { m with sm := true } { o with sm := false } false) 73 fd73 [.ref m.x, .ref o.x] 900 (H73_C3Tf (parOf P b1 b2) { m with sm := true } { o with sm := false } l1 l2 i1 i2 j1 j2 n tk) n tk).Ok := by
  cases b1 <;> (show OT.l _ = OT.r _; kernel_rfl)
noncomputable def H73_C3Tgk2 (P : Params) (m o : Mk) (i1 i2 j1 j2 : Int) (z4 z5 : Nat → Nat) : HT := .go [1] (.cut (cGe i1 i2 (z4 2) (z5 2) false) fun z6 => .go [5,0,5,5,5,5,5,2,5,2,1,0,1,2,0,0,0,2,0,0,0,2,0,0,0,0,2,4,1,0,1] (.cut (cInd P (2, 4, 6, 8) m 3 (z6 1) j1) fun z7 => .go [1,10,0,0,0,10,0,0,0,10,0,0,0,0,10,12,1,0,1] (.cut (cInd P (10, 12, 14, 16) o 3 (z6 1) j2) fun z8 => .go [1] (.cut (cGe j1 j2 (z7 2) (z8 2) true) fun z9 => .go [] (.nil { res := .ok (.ret (.bool false)) })))))
noncomputable def H73_C3Tgk1 (P : Params) (m o : Mk) (l1 l2 i1 i2 j1 j2 : Int) (z1 z2 : Nat → Nat) : HT := .go [1] (.cut (cMaxL l1 l2 (z1 2) (z2 2) 2) fun z3 => .go [0,1,0,0,0,1,0,0,0,3,3,0,3,3,3,3,0,3,3,3,3,5,0,5,0,5,5,5,5,5,2,5,2,1,0,1,2,0,0,0,2,0,0,0,2,0,0,0,0,2,4,1,0,1] (.cut (cInd P (2, 4, 6, 8) m 2 (z3 1 + 7) i1) fun z4 => .go [1,10,0,0,0,10,0,0,0,10,0,0,0,0,10,12,1,0,1] (.cut (cInd P (10, 12, 14, 16) o 2 (z3 1 + 7) i2) fun z5 => (H73_C3Tgk2 P m o i1 i2 j1 j2 z4 z5))))
noncomputable def H73_C3Tg (P : Params) (m o : Mk) (l1 l2 i1 i2 j1 j2 : Int) (n tk : Nat) : HT := .go [1,0,1,0,1,2,0,0,0,0,2,0,0,0,2,2,0,4,1,10,0,0,0,0,10,0,0,0,10,10,0,12,1] (.cut (cGe m.n o.n (m.tn) (o.tn) false) fun z0 => .go [1,2,0,0,0,0,2,0,0,0,2,2,0,4,1,10,0,0,0,0,10,0,0,0,10,10,0,12,0,0,1,2,0,0,0,2,0,0,0,2,0,0,0,0,2,4,0,1] (.cut (cLong P (2, 4, 6, 8) m l1) fun z1 => .go [1,10,0,0,0,10,0,0,0,10,0,0,0,0,10,12,0,1] (.cut (cLong P (10, 12, 14, 16) o l2) fun z2 => (H73_C3Tgk1 P m o l1 l2 i1 i2 j1 j2 z1 z2))))
theorem r73_C3Tg (P : Params) (b1 b2 : Bool) (m o : Mk) (h1 h2 : Nat × Nat × Nat × Nat) (l1 l2 i1 i2 j1 j2 : Int) (n tk : Nat) : (RunF (parOf P b1 b2) (cLess (parOf P b1 b2) h1 h2 { m with sm := true } { o with sm := false } false) 73 fd73 [.ref m.x, .ref o.x] 900 (H73_C3Tg (parOf P b1 b2) { m with sm := true } { o with sm := false } l1 l2 i1 i2 j1 j2 n tk) n tk).Ok := by
  cases b1 <;> (show OT.l _ = OT.r _; kernel_rfl)
noncomputable def H143_0 (P : Params) (m o : Mk) (i1 i2 : Int) (v : Bool) (t n tk : Nat) : HT := .go [1,0,1,0,1,0,1,1] (.cut (cEq 0 0 t (tk + 3) true) fun z0 => .go [1,2,0,0,0,2,0,0,0,2,0,0,0,0,2,4,1,0,1] (.cut (cLess P (2, 4, 6, 8) (10, 12, 14, 16) m o v) fun z1 => .go [] (.nil { res := .ok (.ret (.bool v)) })))
theorem r143_0 (P : Params) (b1 b2 : Bool) (m o : Mk) (h1 h2 : Nat × Nat × Nat × Nat) (i1 i2 : Int) (v : Bool) (t n tk : Nat) : (RunF (parOf P b1 b2) (cAbove (parOf P b1 b2) h1 h2 m o 0 t v) 143 fd143 [.ref m.x, .ref o.x, .int 0 t] 900 (H143_0 (parOf P b1 b2) m o i1 i2 v t n tk) n tk).Ok := by
  cases b1 <;> (show OT.l _ = OT.r _; kernel_rfl)
noncomputable def H143_1 (P : Params) (m o : Mk) (i1 i2 : Int) (v : Bool) (t n tk : Nat) : HT := .go [1,0,1,0,1,0,1,1] (.cut (cEq 1 0 t (tk + 3) false) fun z0 => .go [1,2,0,0,0,2,0,0,0,2,0,0,0,0,2,4,1,0,1] (.cut (cInd P (2, 4, 6, 8) m 1 t i1) fun z1 => .go [1,10,0,0,0,10,0,0,0,10,0,0,0,0,10,12,1,0,1] (.cut (cInd P (10, 12, 14, 16) o 1 t i2) fun z2 => .go [1] (.cut (cLt i1 i2 (z1 2) (z2 2) v) fun z3 => .go [] (.nil { res := .ok (.ret (.bool v)) })))))
theorem r143_1 (P : Params) (b1 b2 : Bool) (m o : Mk) (h1 h2 : Nat × Nat × Nat × Nat) (i1 i2 : Int) (v : Bool) (t n tk : Nat) : (RunF (parOf P b1 b2) (cAbove (parOf P b1 b2) h1 h2 m o 1 t v) 143 fd143 [.ref m.x, .ref o.x, .int 1 t] 900 (H143_1 (parOf P b1 b2) m o i1 i2 v t n tk) n tk).Ok := by
  cases b1 <;> (show OT.l _ = OT.r _; kernel_rfl)
noncomputable def H143_2 (P : Params) (m o : Mk) (i1 i2 : Int) (v : Bool) (t n tk : Nat) : HT := .go [1,0,1,0,1,0,1,1] (.cut (cEq 2 0 t (tk + 3) false) fun z0 => .go [1,2,0,0,0,2,0,0,0,2,0,0,0,0,2,4,1,0,1] (.cut (cInd P (2, 4, 6, 8) m 2 t i1) fun z1 => .go [1,10,0,0,0,10,0,0,0,10,0,0,0,0,10,12,1,0,1] (.cut (cInd P (10, 12, 14, 16) o 2 t i2) fun z2 => .go [1] (.cut (cLt i1 i2 (z1 2) (z2 2) v) fun z3 => .go [] (.nil { res := .ok (.ret (.bool v)) })))))
theorem r143_2 (P : Params) (b1 b2 : Bool) (m o : Mk) (h1 h2 : Nat × Nat × Nat × Nat) (i1 i2 : Int) (v : Bool) (t n tk : Nat) : (RunF (parOf P b1 b2) (cAbove (parOf P b1 b2) h1 h2 m o 2 t v) 143 fd143 [.ref m.x, .ref o.x, .int 2 t] 900 (H143_2 (parOf P b1 b2) m o i1 i2 v t n tk) n tk).Ok := by
  cases b1 <;> (show OT.l _ = OT.r _; kernel_rfl)
noncomputable def H143_3 (P : Params) (m o : Mk) (i1 i2 : Int) (v : Bool) (t n tk : Nat) : HT := .go [1,0,1,0,1,0,1,1] (.cut (cEq 3 0 t (tk + 3) false) fun z0 => .go [1,2,0,0,0,2,0,0,0,2,0,0,0,0,2,4,1,0,1] (.cut (cInd P (2, 4, 6, 8) m 3 t i1) fun z1 => .go [1,10,0,0,0,10,0,0,0,10,0,0,0,0,10,12,1,0,1] (.cut (cInd P (10, 12, 14, 16) o 3 t i2) fun z2 => .go [1] (.cut (cLt i1 i2 (z1 2) (z2 2) v) fun z3 => .go [] (.nil { res := .ok (.ret (.bool v)) })))))
theorem r143_3 (P : Params) (b1 b2 : Bool) (m o : Mk) (h1 h2 : Nat × Nat × Nat × Nat) (i1 i2 : Int) (v : Bool) (t n tk : Nat) : (RunF (parOf P b1 b2) (cAbove (parOf P b1 b2) h1 h2 m o 3 t v) 143 fd143 [.ref m.x, .ref o.x, .int 3 t] 900 (H143_3 (parOf P b1 b2) m o i1 i2 v t n tk) n tk).Ok := by
  cases b1 <;> (show OT.l _ = OT.r _; kernel_rfl)
noncomputable def longV (m : Mk) : Int := imax ((m.cs.length : Int) - 1) m.b
noncomputable def lessV (m o : Mk) : Bool := if m.n ≥ o.n then false else if (m.sm && o.sm) = true then decide (m.nt ≤ o.nt) else
  if indV 2 m ≥ indV 2 o then false else if imax (longV m) (longV o) = 2 then (if indV 3 m ≥ indV 3 o then false else true) else true
theorem less_ok (w : World) (b1 b2 : Bool) (h1 h2 : Nat × Nat × Nat × Nat) (m o : Mk) (hm : m.cs.length ≤ 3) (ho : o.cs.length ≤ 3) (hN : (m.sm && o.sm) = false → imax (longV m) (longV o) = 1 ∨ imax (longV m) (longV o) = 2) :
    VV w b1 b2 (cLess (parOf w.params b1 b2) h1 h2 m o (lessV m o)) := by
  unfold lessV
  by_cases hA : m.n ≥ o.n
  · rw [if_pos hA]
    refine fnV (fn73 _) rfl (show 1 ≤ 3 by decide) (fun _ => rfl) 900 (fun n tk => H73_A (parOf w.params b1 b2) m o 0 0 0 0 0 0 n tk) (fun n tk => r73_A w.params b1 b2 m o h1 h2 0 0 0 0 0 0 n tk) fun n tk => ⟨cGe_ok (decide_eq_true hA), fun z0 _ => ?_⟩
    exact outE z0 fun sz tk => ⟨trivial, rfl, rfl, rfl, rfl⟩
  rw [if_neg hA]
  by_cases hB : (m.sm && o.sm) = true
  · rw [if_pos hB]
    rw [Bool.and_eq_true] at hB
    obtain ⟨x, dx, nm, ct, raw, rt, mn, tn, mnt, tnt, cs, b, tb, k1, k2, k3, k4, k5, sm⟩ := m
    obtain ⟨x', dx', nm', ct', raw', rt', on, tn', ont, tnt', cs', b', tb', k1', k2', k3', k4', k5', so⟩ := o
    obtain ⟨q1, q2⟩ := hB
    dsimp only at q1 q2
    subst q1 q2
    by_cases hle : mnt ≤ ont
    · rw [decide_eq_true hle]
      refine fnV (fn73 _) rfl (show 1 ≤ 3 by decide) (fun _ => rfl) 900 (fun n tk => H73_Bt (parOf w.params b1 b2) _ _ 0 0 0 0 0 0 n tk) (fun n tk => r73_Bt w.params b1 b2 _ _ h1 h2 0 0 0 0 0 0 n tk) fun n tk => ⟨cGe_ok (decide_eq_false hA), fun z0 _ => ⟨cLe_ok (decide_eq_true hle), fun z1 _ => ?_⟩⟩
      exact outE z0 fun sz tk => ⟨trivial, rfl, rfl, rfl, rfl⟩
    · rw [decide_eq_false hle]
      refine fnV (fn73 _) rfl (show 1 ≤ 3 by decide) (fun _ => rfl) 900 (fun n tk => H73_Bf (parOf w.params b1 b2) _ _ 0 0 0 0 0 0 n tk) (fun n tk => r73_Bf w.params b1 b2 _ _ h1 h2 0 0 0 0 0 0 n tk) fun n tk => ⟨cGe_ok (decide_eq_false hA), fun z0 _ => ⟨cLe_ok (decide_eq_false hle), fun z1 _ => ?_⟩⟩
      exact outE z0 fun sz tk => ⟨trivial, rfl, rfl, rfl, rfl⟩
  rw [if_neg hB]
  have hB' : (m.sm && o.sm) = false := by simpa using hB
  have hN' := hN hB'
  clear hN hB
  have key : m.sm = false ∨ (m.sm = true ∧ o.sm = false) := by
    cases q : m.sm with
    | false => exact .inl rfl
    | true => rw [q] at hB'; exact .inr ⟨rfl, hB'⟩
  generalize hl1 : longV m = l1 at hN'
  generalize hl2 : longV o = l2 at hN'
  have L1 : ∀ h, VV w b1 b2 (cLong (parOf w.params b1 b2) h m l1) := fun h => hl1 ▸ long_ok w b1 b2 h m hm
  have L2 : ∀ h, VV w b1 b2 (cLong (parOf w.params b1 b2) h o l2) := fun h => hl2 ▸ long_ok w b1 b2 h o ho
  generalize hi1 : indV 2 m = i1
  generalize hi2 : indV 2 o = i2
  generalize hj1 : indV 3 m = j1
  generalize hj2 : indV 3 o = j2
  have I1 : ∀ h t, VV w b1 b2 (cInd (parOf w.params b1 b2) h m 2 t i1) := fun h t => hi1 ▸ ind_ok2 w b1 b2 h m t hm
  have I2 : ∀ h t, VV w b1 b2 (cInd (parOf w.params b1 b2) h o 2 t i2) := fun h t => hi2 ▸ ind_ok2 w b1 b2 h o t ho
  have J1 : ∀ h t, VV w b1 b2 (cInd (parOf w.params b1 b2) h m 3 t j1) := fun h t => hj1 ▸ ind_ok3 w b1 b2 h m t hm
  have J2 : ∀ h t, VV w b1 b2 (cInd (parOf w.params b1 b2) h o 3 t j2) := fun h t => hj2 ▸ ind_ok3 w b1 b2 h o t ho
  clear hl1 hl2 hi1 hi2 hj1 hj2 hm ho hB'
  rcases key with hk | ⟨hk1, hk2⟩
  · obtain ⟨x, dx, nm, ct, raw, rt, mn, tn, mnt, tnt, cs, b, tb, k1, k2, k3, k4, k5, sm⟩ := m
    dsimp only at hk
    subst hk
    by_cases hi : i1 ≥ i2
    · rw [if_pos hi]
      rcases hN' with hq | hq
      · refine fnV (fn73 _) rfl (show 1 ≤ 3 by decide) (fun _ => rfl) 900 (fun n tk => H73_C2Ff (parOf w.params b1 b2) _ _ l1 l2 i1 i2 j1 j2 n tk) (fun n tk => r73_C2Ff w.params b1 b2 _ _ h1 h2 l1 l2 i1 i2 j1 j2 n tk) fun n tk => ⟨cGe_ok (decide_eq_false hA), fun z0 _ => ⟨L1 _, fun z1 _ => ⟨L2 _, fun z2 _ => ⟨cMaxL_ok w b1 b2 hq, fun z3 _ => ⟨I1 _ _, fun z4 _ => ⟨I2 _ _, fun z5 _ => ⟨cGe_ok (decide_eq_true hi), fun z6 _ => ?_⟩⟩⟩⟩⟩⟩⟩
        exact outE z0 fun sz tk => ⟨trivial, rfl, rfl, rfl, rfl⟩
      · refine fnV (fn73 _) rfl (show 1 ≤ 3 by decide) (fun _ => rfl) 900 (fun n tk => H73_C3Ff (parOf w.params b1 b2) _ _ l1 l2 i1 i2 j1 j2 n tk) (fun n tk => r73_C3Ff w.params b1 b2 _ _ h1 h2 l1 l2 i1 i2 j1 j2 n tk) fun n tk => ⟨cGe_ok (decide_eq_false hA), fun z0 _ => ⟨L1 _, fun z1 _ => ⟨L2 _, fun z2 _ => ⟨cMaxL_ok w b1 b2 hq, fun z3 _ => ⟨I1 _ _, fun z4 _ => ⟨I2 _ _, fun z5 _ => ⟨cGe_ok (decide_eq_true hi), fun z6 _ => ?_⟩⟩⟩⟩⟩⟩⟩
        exact outE z0 fun sz tk => ⟨trivial, rfl, rfl, rfl, rfl⟩
    · rw [if_neg hi]
      rcases hN' with hq | hq
      · rw [if_neg (by rw [hq]; decide)]
        refine fnV (fn73 _) rfl (show 1 ≤ 3 by decide) (fun _ => rfl) 900 (fun n tk => H73_C2Ft (parOf w.params b1 b2) _ _ l1 l2 i1 i2 j1 j2 n tk) (fun n tk => r73_C2Ft w.params b1 b2 _ _ h1 h2 l1 l2 i1 i2 j1 j2 n tk) fun n tk => ⟨cGe_ok (decide_eq_false hA), fun z0 _ => ⟨L1 _, fun z1 _ => ⟨L2 _, fun z2 _ => ⟨cMaxL_ok w b1 b2 hq, fun z3 _ => ⟨I1 _ _, fun z4 _ => ⟨I2 _ _, fun z5 _ => ⟨cGe_ok (decide_eq_false hi), fun z6 _ => ?_⟩⟩⟩⟩⟩⟩⟩
        exact outE z0 fun sz tk => ⟨trivial, rfl, rfl, rfl, rfl⟩
      · rw [if_pos hq]
        by_cases hj : j1 ≥ j2
        · rw [if_pos hj]
          refine fnV (fn73 _) rfl (show 1 ≤ 3 by decide) (fun _ => rfl) 900 (fun n tk => H73_C3Fg (parOf w.params b1 b2) _ _ l1 l2 i1 i2 j1 j2 n tk) (fun n tk => r73_C3Fg w.params b1 b2 _ _ h1 h2 l1 l2 i1 i2 j1 j2 n tk) fun n tk => ⟨cGe_ok (decide_eq_false hA), fun z0 _ => ⟨L1 _, fun z1 _ => ⟨L2 _, fun z2 _ => ⟨cMaxL_ok w b1 b2 hq, fun z3 _ => ⟨I1 _ _, fun z4 _ => ⟨I2 _ _, fun z5 _ => ⟨cGe_ok (decide_eq_false hi), fun z6 _ => ⟨J1 _ _, fun z7 _ => ⟨J2 _ _, fun z8 _ => ⟨cGe_ok (decide_eq_true hj), fun z9 _ => ?_⟩⟩⟩⟩⟩⟩⟩⟩⟩⟩
          exact outE z0 fun sz tk => ⟨trivial, rfl, rfl, rfl, rfl⟩
        · rw [if_neg hj]
          refine fnV (fn73 _) rfl (show 1 ≤ 3 by decide) (fun _ => rfl) 900 (fun n tk => H73_C3Ft (parOf w.params b1 b2) _ _ l1 l2 i1 i2 j1 j2 n tk) (fun n tk => r73_C3Ft w.params b1 b2 _ _ h1 h2 l1 l2 i1 i2 j1 j2 n tk) fun n tk => ⟨cGe_ok (decide_eq_false hA), fun z0 _ => ⟨L1 _, fun z1 _ => ⟨L2 _, fun z2 _ => ⟨cMaxL_ok w b1 b2 hq, fun z3 _ => ⟨I1 _ _, fun z4 _ => ⟨I2 _ _, fun z5 _ => ⟨cGe_ok (decide_eq_false hi), fun z6 _ => ⟨J1 _ _, fun z7 _ => ⟨J2 _ _, fun z8 _ => ⟨cGe_ok (decide_eq_false hj), fun z9 _ => ?_⟩⟩⟩⟩⟩⟩⟩⟩⟩⟩
          exact outE z0 fun sz tk => ⟨trivial, rfl, rfl, rfl, rfl⟩
  · obtain ⟨x, dx, nm, ct, raw, rt, mn, tn, mnt, tnt, cs, b, tb, k1, k2, k3, k4, k5, sm⟩ := m
    obtain ⟨x', dx', nm', ct', raw', rt', on, tn', ont, tnt', cs', b', tb', k1', k2', k3', k4', k5', so⟩ := o
    dsimp only at hk1 hk2
    subst hk1 hk2
    by_cases hi : i1 ≥ i2
    · rw [if_pos hi]
      rcases hN' with hq | hq
      · refine fnV (fn73 _) rfl (show 1 ≤ 3 by decide) (fun _ => rfl) 900 (fun n tk => H73_C2Tf (parOf w.params b1 b2) _ _ l1 l2 i1 i2 j1 j2 n tk) (fun n tk => r73_C2Tf w.params b1 b2 _ _ h1 h2 l1 l2 i1 i2 j1 j2 n tk) fun n tk => ⟨cGe_ok (decide_eq_false hA), fun z0 _ => ⟨L1 _, fun z1 _ => ⟨L2 _, fun z2 _ => ⟨cMaxL_ok w b1 b2 hq, fun z3 _ => ⟨I1 _ _, fun z4 _ => ⟨I2 _ _, fun z5 _ => ⟨cGe_ok (decide_eq_true hi), fun z6 _ => ?_⟩⟩⟩⟩⟩⟩⟩
        exact outE z0 fun sz tk => ⟨trivial, rfl, rfl, rfl, rfl⟩
      · refine fnV (fn73 _) rfl (show 1 ≤ 3 by decide) (fun _ => rfl) 900 (fun n tk => H73_C3Tf (parOf w.params b1 b2) _ _ l1 l2 i1 i2 j1 j2 n tk) (fun n tk => r73_C3Tf w.params b1 b2 _ _ h1 h2 l1 l2 i1 i2 j1 j2 n tk) fun n tk => ⟨cGe_ok (decide_eq_false hA), fun z0 _ => ⟨L1 _, fun z1 _ => ⟨L2 _, fun z2 _ => ⟨cMaxL_ok w b1 b2 hq, fun z3 _ => ⟨I1 _ _, fun z4 _ => ⟨I2 _ _, fun z5 _ => ⟨cGe_ok (decide_eq_true hi), fun z6 _ => ?_⟩⟩⟩⟩⟩⟩⟩
        exact outE z0 fun sz tk => ⟨trivial, rfl, rfl, rfl, rfl⟩
    · rw [if_neg hi]
      rcases hN' with hq | hq
      · rw [if_neg (by rw [hq]; decide)]
        refine fnV (fn73 _) rfl (show 1 ≤ 3 by decide) (fun _ => rfl) 900 (fun n tk => H73_C2Tt (parOf w.params b1 b2) _ _ l1 l2 i1 i2 j1 j2 n tk) (fun n tk => r73_C2Tt w.params b1 b2 _ _ h1 h2 l1 l2 i1 i2 j1 j2 n tk) fun n tk => ⟨cGe_ok (decide_eq_false hA), fun z0 _ => ⟨L1 _, fun z1 _ => ⟨L2 _, fun z2 _ => ⟨cMaxL_ok w b1 b2 hq, fun z3 _ => ⟨I1 _ _, fun z4 _ => ⟨I2 _ _, fun z5 _ => ⟨cGe_ok (decide_eq_false hi), fun z6 _ => ?_⟩⟩⟩⟩⟩⟩⟩
        exact outE z0 fun sz tk => ⟨trivial, rfl, rfl, rfl, rfl⟩
      · rw [if_pos hq]
        by_cases hj : j1 ≥ j2
        · rw [if_pos hj]
          refine fnV (fn73 _) rfl (show 1 ≤ 3 by decide) (fun _ => rfl) 900 (fun n tk => H73_C3Tg (parOf w.params b1 b2) _ _ l1 l2 i1 i2 j1 j2 n tk) (fun n tk => r73_C3Tg w.params b1 b2 _ _ h1 h2 l1 l2 i1 i2 j1 j2 n tk) fun n tk => ⟨cGe_ok (decide_eq_false hA), fun z0 _ => ⟨L1 _, fun z1 _ => ⟨L2 _, fun z2 _ => ⟨cMaxL_ok w b1 b2 hq, fun z3 _ => ⟨I1 _ _, fun z4 _ => ⟨I2 _ _, fun z5 _ => ⟨cGe_ok (decide_eq_false hi), fun z6 _ => ⟨J1 _ _, fun z7 _ => ⟨J2 _ _, fun z8 _ => ⟨cGe_ok (decide_eq_true hj), fun z9 _ => ?_⟩⟩⟩⟩⟩⟩⟩⟩⟩⟩
          exact outE z0 fun sz tk => ⟨trivial, rfl, rfl, rfl, rfl⟩
        · rw [if_neg hj]
          refine fnV (fn73 _) rfl (show 1 ≤ 3 by decide) (fun _ => rfl) 900 (fun n tk => H73_C3Tt (parOf w.params b1 b2) _ _ l1 l2 i1 i2 j1 j2 n tk) (fun n tk => r73_C3Tt w.params b1 b2 _ _ h1 h2 l1 l2 i1 i2 j1 j2 n tk) fun n tk => ⟨cGe_ok (decide_eq_false hA), fun z0 _ => ⟨L1 _, fun z1 _ => ⟨L2 _, fun z2 _ => ⟨cMaxL_ok w b1 b2 hq, fun z3 _ => ⟨I1 _ _, fun z4 _ => ⟨I2 _ _, fun z5 _ => ⟨cGe_ok (decide_eq_false hi), fun z6 _ => ⟨J1 _ _, fun z7 _ => ⟨J2 _ _, fun z8 _ => ⟨cGe_ok (decide_eq_false hj), fun z9 _ => ?_⟩⟩⟩⟩⟩⟩⟩⟩⟩⟩
          exact outE z0 fun sz tk => ⟨trivial, rfl, rfl, rfl, rfl⟩
/-- above: by less, or at a tab size -/
noncomputable def aboveV (sz : Nat) (m o : Mk) : Bool := if sz = 0 then lessV m o else decide (indV sz m < indV sz o)
structure MkOk (m : Mk) : Prop where
  len : m.cs.length ≤ 3
  b0 : 0 ≤ m.b
  b2 : m.b ≤ 2
  sm : m.sm = decide (m.cs.length ≤ 1)
theorem imax_N {m o : Mk} (hm : MkOk m) (ho : MkOk o) (h : (m.sm && o.sm) = false) : imax (longV m) (longV o) = 1 ∨ imax (longV m) (longV o) = 2 := by
  have a1 := hm.len; have a2 := hm.b0; have a3 := hm.b2; have c1 := ho.len; have c2 := ho.b0; have c3 := ho.b2
  rw [hm.sm, ho.sm] at h
  have h' : ¬ (m.cs.length ≤ 1 ∧ o.cs.length ≤ 1) := by
    intro q
    rw [decide_eq_true q.1, decide_eq_true q.2] at h; cases h
  unfold longV imax
  repeat' split
  all_goals lia
theorem above_ok (w : World) (b1 b2 : Bool) (h1 h2 : Nat × Nat × Nat × Nat) (m o : Mk) (hm : MkOk m) (ho : MkOk o) (sz : Nat) (hs : sz ≤ 3) (t : Nat) :
    VV w b1 b2 (cAbove (parOf w.params b1 b2) h1 h2 m o sz t (aboveV sz m o)) := by
  have key : sz = 0 ∨ sz = 1 ∨ sz = 2 ∨ sz = 3 := by lia
  rcases key with rfl | rfl | rfl | rfl
  · refine fnV (fn143 _) rfl (show 1 ≤ 5 by decide) (fun _ => rfl) 900 (fun n tk => H143_0 (parOf w.params b1 b2) m o 0 0 (lessV m o) t n tk) (fun n tk => r143_0 w.params b1 b2 m o h1 h2 0 0 _ t n tk) fun n tk =>
      ⟨cEq_ok rfl, fun z0 _ => ⟨less_ok w b1 b2 _ _ m o hm.len ho.len (imax_N hm ho), fun z1 _ => ?_⟩⟩
    exact outE z0 fun sz tk => ⟨trivial, rfl, rfl, rfl, rfl⟩
  · refine fnV (fn143 _) rfl (show 1 ≤ 5 by decide) (fun _ => rfl) 900 (fun n tk => H143_1 (parOf w.params b1 b2) m o (indV 1 m) (indV 1 o) (decide (indV 1 m < indV 1 o)) t n tk) (fun n tk => r143_1 w.params b1 b2 m o h1 h2 _ _ _ t n tk) fun n tk =>
      ⟨cEq_ok rfl, fun z0 _ => ⟨ind_ok1 w b1 b2 _ m _ hm.len, fun z1 _ => ⟨ind_ok1 w b1 b2 _ o _ ho.len, fun z2 _ => ⟨cLt_ok rfl, fun z3 _ => ?_⟩⟩⟩⟩
    exact outE z0 fun sz tk => ⟨trivial, rfl, rfl, rfl, rfl⟩
  · refine fnV (fn143 _) rfl (show 1 ≤ 5 by decide) (fun _ => rfl) 900 (fun n tk => H143_2 (parOf w.params b1 b2) m o (indV 2 m) (indV 2 o) (decide (indV 2 m < indV 2 o)) t n tk) (fun n tk => r143_2 w.params b1 b2 m o h1 h2 _ _ _ t n tk) fun n tk =>
      ⟨cEq_ok rfl, fun z0 _ => ⟨ind_ok2 w b1 b2 _ m _ hm.len, fun z1 _ => ⟨ind_ok2 w b1 b2 _ o _ ho.len, fun z2 _ => ⟨cLt_ok rfl, fun z3 _ => ?_⟩⟩⟩⟩
    exact outE z0 fun sz tk => ⟨trivial, rfl, rfl, rfl, rfl⟩
  · refine fnV (fn143 _) rfl (show 1 ≤ 5 by decide) (fun _ => rfl) 900 (fun n tk => H143_3 (parOf w.params b1 b2) m o (indV 3 m) (indV 3 o) (decide (indV 3 m < indV 3 o)) t n tk) (fun n tk => r143_3 w.params b1 b2 m o h1 h2 _ _ _ t n tk) fun n tk =>
      ⟨cEq_ok rfl, fun z0 _ => ⟨ind_ok3 w b1 b2 _ m _ hm.len, fun z1 _ => ⟨ind_ok3 w b1 b2 _ o _ ho.len, fun z2 _ => ⟨cLt_ok rfl, fun z3 _ => ?_⟩⟩⟩⟩
    exact outE z0 fun sz tk => ⟨trivial, rfl, rfl, rfl, rfl⟩
/-! replace -/
noncomputable def bd101 : List Stmt := dBody (stm 5)
noncomputable def prV : List (Nat × Nat × Nat × Nat) → List Value
  | [] => []
  | (x, tx, X, tX) :: l => .str ⟨⟨[x]⟩⟩ tx :: .str ⟨⟨[X]⟩⟩ tX :: prV l
structure Rq where
  (L : Addr) (k1 k2 i0 : Nat)
noncomputable def Rq.env (q : Rq) : Env := envA fd101 101 q.L []
noncomputable def frR (P : Params) (q : Rq) (tx : List Nat) (t : Nat) (pa : Addr) : Obj := frO [eN P [116, 101, 120, 116] q.k1 (.str ⟨⟨tx⟩⟩ t), eN P [112, 97, 105, 114, 115] q.k2 (.ref pa)] 2
noncomputable def replF : List (Nat × Nat × Nat × Nat) → List Nat → List Nat
  | [], tx => tx
  | (x, _, X, _) :: l, tx => replF l (tx.map fun c => if c = x then X else c)
noncomputable def cRep (P : Params) (q : Rq) (hp : Nat) (tx : List Nat) (t : Nat) (pa : Addr) (ps : List (Nat × Nat × Nat × Nat)) (ep : Nat) (r : List Nat) : Ctr :=
  { code := whC (atS bd101 0) q.env, reads := [(hp, (pa, tuO (prV ps) ep))], mus := [(q.i0, (q.L, frR P q tx t pa))], upd := fun y => [frR P q r (y 2) (y 3)], res := fun _ => .ok .next }
noncomputable def cReplace (tx : List Nat) (t : Nat) (ps : List (Nat × Nat × Nat × Nat)) (r : List Nat) : Ctr := { code := .call (.ref 101) ⟨.str ⟨⟨tx⟩⟩ t :: prV ps, []⟩, room := 2, res := fun y => .ok (.ret (.str ⟨⟨r⟩⟩ (y 2))) }
noncomputable def H_repTk1 (P : Params) (q : Rq) (tx : List Nat) (t : Nat) (pa : Addr) (x ux X uX : Nat) (ps : List (Nat × Nat × Nat × Nat)) (ep : Nat) (l1 l2 r : List Nat) : HT := .go [1] (.cut (cSplit tx [x] t ux [l1, l2]) fun z3 => .go [1] (.cut (cJoin 3 [X] uX (z3 2) [l1, l2] (lsO 8 z3 2) 0 (l1 ++ X :: l2)) fun z4 => .go [1,0,1,2,2,2,1] (.cut (cTFrom 2 5 pa (z4 0) (prV ((x, ux, X, uX) :: ps)) ep 2 (z4 1 + 1) (prV ps)) fun z5 => .go [1,0] (.cut (cRep P { q with i0 := 0 } 7 (l1 ++ X :: l2) (z4 2) (z5 2) ps 0 r) fun z6 => .go [] (.nil { res := .ok Flow.next, exp := expOf (cRep P { q with i0 := 0 } 7 (l1 ++ X :: l2) (z4 2) (z5 2) ps 0 r) z6 })))))
noncomputable def H_repT (P : Params) (q : Rq) (hp : Nat) (tx : List Nat) (t : Nat) (pa : Addr) (x ux X uX : Nat) (ps : List (Nat × Nat × Nat × Nat)) (ep : Nat) (l1 l2 r : List Nat) (n tk : Nat) : HT := .go [1,2,2,1] (.cut (cLenTB 2 pa (prV ((x, ux, X, uX) :: ps)) ep (((prV ps).length : Int) + 2)) fun z0 => .go [1,2,2,2,1] (.cut (cTGet 2 pa (prV ((x, ux, X, uX) :: ps)) ep 1 (z0 1) (.str ⟨⟨[X]⟩⟩ uX)) fun z1 => .go [1,1,2,2,2,1] (.cut (cTGet 2 pa (prV ((x, ux, X, uX) :: ps)) ep 0 (z1 1) (.str ⟨⟨[x]⟩⟩ ux)) fun z2 => (H_repTk1 P q tx t pa x ux X uX ps ep l1 l2 r))))
theorem r_repT (P : Params) (b1 b2 : Bool) (q : Rq) (hp : Nat) (tx : List Nat) (t : Nat) (pa : Addr) (x ux X uX : Nat) (ps : List (Nat × Nat × Nat × Nat)) (ep : Nat) (l1 l2 r : List Nat) (n tk : Nat) : (RunC (parOf P b1 b2) (cRep (parOf P b1 b2) q hp tx t pa ((x, ux, X, uX) :: ps) ep r) 400 (H_repT (parOf P b1 b2) q hp tx t pa x ux X uX ps ep l1 l2 r n tk) n tk).Ok := by
  cases b1 <;> (show OT.l _ = OT.r _; kernel_rfl)
noncomputable def H_repE (P : Params) (q : Rq) (hp : Nat) (tx : List Nat) (t : Nat) (pa : Addr) (ep : Nat) (n tk : Nat) : HT := .go [1,2,2,0,2,0,2,2] (.nil { res := .ok Flow.next, exp := [(1, (q.L, frR P q tx t pa))] })
theorem r_repE (P : Params) (b1 b2 : Bool) (q : Rq) (hp : Nat) (tx : List Nat) (t : Nat) (pa : Addr) (ep : Nat) (n tk : Nat) : (RunC (parOf P b1 b2) (cRep (parOf P b1 b2) q hp tx t pa [] ep tx) 400 (H_repE (parOf P b1 b2) q hp tx t pa ep n tk) n tk).Ok := by
  cases b1 <;> (show OT.l _ = OT.r _; kernel_rfl)
noncomputable def H_replace0 (P : Params) (tx : List Nat) (t : Nat) (p : Nat → Nat × Nat × Nat × Nat) (r : List Nat) (n tk : Nat) : HT := .go [3,1,3,1,1] (.cut (cRep P { L := (n + 1), k1 := tk, k2 := (tk + 1), i0 := 1 } 1 tx t n [] 0 r) fun z0 => .go [3] (.nil { res := .ok (.ret (Value.str { cps := { toList := r } } (z0 2))), exp := [] }))
theorem r_replace0 (P : Params) (b1 b2 : Bool) (tx : List Nat) (t : Nat) (p : Nat → Nat × Nat × Nat × Nat) (r : List Nat) (n tk : Nat) : (RunF (parOf P b1 b2) (cReplace tx t [] r) 101 fd101 (.str ⟨⟨tx⟩⟩ t :: prV []) 400 (H_replace0 (parOf P b1 b2) tx t p r n tk) n tk).Ok := by
  cases b1 <;> (show OT.l _ = OT.r _; kernel_rfl)
noncomputable def H_replace1 (P : Params) (tx : List Nat) (t : Nat) (p : Nat → Nat × Nat × Nat × Nat) (r : List Nat) (n tk : Nat) : HT := .go [3,1,3,1,1] (.cut (cRep P { L := (n + 1), k1 := tk, k2 := (tk + 1), i0 := 1 } 1 tx t n [p 0] 0 r) fun z0 => .go [3] (.nil { res := .ok (.ret (Value.str { cps := { toList := r } } (z0 2))), exp := [] }))
theorem r_replace1 (P : Params) (b1 b2 : Bool) (tx : List Nat) (t : Nat) (p : Nat → Nat × Nat × Nat × Nat) (r : List Nat) (n tk : Nat) : (RunF (parOf P b1 b2) (cReplace tx t [p 0] r) 101 fd101 (.str ⟨⟨tx⟩⟩ t :: prV [p 0]) 400 (H_replace1 (parOf P b1 b2) tx t p r n tk) n tk).Ok := by
  cases b1 <;> (show OT.l _ = OT.r _; kernel_rfl)
noncomputable def H_replace2 (P : Params) (tx : List Nat) (t : Nat) (p : Nat → Nat × Nat × Nat × Nat) (r : List Nat) (n tk : Nat) : HT := .go [3,1,3,1,1] (.cut (cRep P { L := (n + 1), k1 := tk, k2 := (tk + 1), i0 := 1 } 1 tx t n [p 0, p 1] 0 r) fun z0 => .go [3] (.nil { res := .ok (.ret (Value.str { cps := { toList := r } } (z0 2))), exp := [] }))
theorem r_replace2 (P : Params) (b1 b2 : Bool) (tx : List Nat) (t : Nat) (p : Nat → Nat × Nat × Nat × Nat) (r : List Nat) (n tk : Nat) : (RunF (parOf P b1 b2) (cReplace tx t [p 0, p 1] r) 101 fd101 (.str ⟨⟨tx⟩⟩ t :: prV [p 0, p 1]) 400 (H_replace2 (parOf P b1 b2) tx t p r n tk) n tk).Ok := by
  cases b1 <;> (show OT.l _ = OT.r _; kernel_rfl)
noncomputable def H_replace3 (P : Params) (tx : List Nat) (t : Nat) (p : Nat → Nat × Nat × Nat × Nat) (r : List Nat) (n tk : Nat) : HT := .go [3,1,3,1,1] (.cut (cRep P { L := (n + 1), k1 := tk, k2 := (tk + 1), i0 := 1 } 1 tx t n [p 0, p 1, p 2] 0 r) fun z0 => .go [3] (.nil { res := .ok (.ret (Value.str { cps := { toList := r } } (z0 2))), exp := [] }))
theorem r_replace3 (P : Params) (b1 b2 : Bool) (tx : List Nat) (t : Nat) (p : Nat → Nat × Nat × Nat × Nat) (r : List Nat) (n tk : Nat) : (RunF (parOf P b1 b2) (cReplace tx t [p 0, p 1, p 2] r) 101 fd101 (.str ⟨⟨tx⟩⟩ t :: prV [p 0, p 1, p 2]) 400 (H_replace3 (parOf P b1 b2) tx t p r n tk) n tk).Ok := by
  cases b1 <;> (show OT.l _ = OT.r _; kernel_rfl)
noncomputable def H_replace4 (P : Params) (tx : List Nat) (t : Nat) (p : Nat → Nat × Nat × Nat × Nat) (r : List Nat) (n tk : Nat) : HT := .go [3,1,3,1,1] (.cut (cRep P { L := (n + 1), k1 := tk, k2 := (tk + 1), i0 := 1 } 1 tx t n [p 0, p 1, p 2, p 3] 0 r) fun z0 => .go [3] (.nil { res := .ok (.ret (Value.str { cps := { toList := r } } (z0 2))), exp := [] }))
theorem r_replace4 (P : Params) (b1 b2 : Bool) (tx : List Nat) (t : Nat) (p : Nat → Nat × Nat × Nat × Nat) (r : List Nat) (n tk : Nat) : (RunF (parOf P b1 b2) (cReplace tx t [p 0, p 1, p 2, p 3] r) 101 fd101 (.str ⟨⟨tx⟩⟩ t :: prV [p 0, p 1, p 2, p 3]) 400 (H_replace4 (parOf P b1 b2) tx t p r n tk) n tk).Ok := by
  cases b1 <;> (show OT.l _ = OT.r _; kernel_rfl)
noncomputable def H_replace5 (P : Params) (tx : List Nat) (t : Nat) (p : Nat → Nat × Nat × Nat × Nat) (r : List Nat) (n tk : Nat) : HT := .go [3,1,3,1,1] (.cut (cRep P { L := (n + 1), k1 := tk, k2 := (tk + 1), i0 := 1 } 1 tx t n [p 0, p 1, p 2, p 3, p 4] 0 r) fun z0 => .go [3] (.nil { res := .ok (.ret (Value.str { cps := { toList := r } } (z0 2))), exp := [] }))
theorem r_replace5 (P : Params) (b1 b2 : Bool) (tx : List Nat) (t : Nat) (p : Nat → Nat × Nat × Nat × Nat) (r : List Nat) (n tk : Nat) : (RunF (parOf P b1 b2) (cReplace tx t [p 0, p 1, p 2, p 3, p 4] r) 101 fd101 (.str ⟨⟨tx⟩⟩ t :: prV [p 0, p 1, p 2, p 3, p 4]) 400 (H_replace5 (parOf P b1 b2) tx t p r n tk) n tk).Ok := by
  cases b1 <;> (show OT.l _ = OT.r _; kernel_rfl)
noncomputable def H_replace6 (P : Params) (tx : List Nat) (t : Nat) (p : Nat → Nat × Nat × Nat × Nat) (r : List Nat) (n tk : Nat) : HT := .go [3,1,3,1,1] (.cut (cRep P { L := (n + 1), k1 := tk, k2 := (tk + 1), i0 := 1 } 1 tx t n [p 0, p 1, p 2, p 3, p 4, p 5] 0 r) fun z0 => .go [3] (.nil { res := .ok (.ret (Value.str { cps := { toList := r } } (z0 2))), exp := [] }))
theorem r_replace6 (P : Params) (b1 b2 : Bool) (tx : List Nat) (t : Nat) (p : Nat → Nat × Nat × Nat × Nat) (r : List Nat) (n tk : Nat) : (RunF (parOf P b1 b2) (cReplace tx t [p 0, p 1, p 2, p 3, p 4, p 5] r) 101 fd101 (.str ⟨⟨tx⟩⟩ t :: prV [p 0, p 1, p 2, p 3, p 4, p 5]) 400 (H_replace6 (parOf P b1 b2) tx t p r n tk) n tk).Ok := by
  cases b1 <;> (show OT.l _ = OT.r _; kernel_rfl)
noncomputable def H_replace7 (P : Params) (tx : List Nat) (t : Nat) (p : Nat → Nat × Nat × Nat × Nat) (r : List Nat) (n tk : Nat) : HT := .go [3,1,3,1,1] (.cut (cRep P { L := (n + 1), k1 := tk, k2 := (tk + 1), i0 := 1 } 1 tx t n [p 0, p 1, p 2, p 3, p 4, p 5, p 6] 0 r) fun z0 => .go [3] (.nil { res := .ok (.ret (Value.str { cps := { toList := r } } (z0 2))), exp := [] }))
theorem r_replace7 (P : Params) (b1 b2 : Bool) (tx : List Nat) (t : Nat) (p : Nat → Nat × Nat × Nat × Nat) (r : List Nat) (n tk : Nat) : (RunF (parOf P b1 b2) (cReplace tx t [p 0, p 1, p 2, p 3, p 4, p 5, p 6] r) 101 fd101 (.str ⟨⟨tx⟩⟩ t :: prV [p 0, p 1, p 2, p 3, p 4, p 5, p 6]) 400 (H_replace7 (parOf P b1 b2) tx t p r n tk) n tk).Ok := by
  cases b1 <;> (show OT.l _ = OT.r _; kernel_rfl)
noncomputable def H_replace8 (P : Params) (tx : List Nat) (t : Nat) (p : Nat → Nat × Nat × Nat × Nat) (r : List Nat) (n tk : Nat) : HT := .go [3,1,3,1,1] (.cut (cRep P { L := (n + 1), k1 := tk, k2 := (tk + 1), i0 := 1 } 1 tx t n [p 0, p 1, p 2, p 3, p 4, p 5, p 6, p 7] 0 r) fun z0 => .go [3] (.nil { res := .ok (.ret (Value.str { cps := { toList := r } } (z0 2))), exp := [] }))
theorem r_replace8 (P : Params) (b1 b2 : Bool) (tx : List Nat) (t : Nat) (p : Nat → Nat × Nat × Nat × Nat) (r : List Nat) (n tk : Nat) : (RunF (parOf P b1 b2) (cReplace tx t [p 0, p 1, p 2, p 3, p 4, p 5, p 6, p 7] r) 101 fd101 (.str ⟨⟨tx⟩⟩ t :: prV [p 0, p 1, p 2, p 3, p 4, p 5, p 6, p 7]) 400 (H_replace8 (parOf P b1 b2) tx t p r n tk) n tk).Ok := by
  cases b1 <;> (show OT.l _ = OT.r _; kernel_rfl)
noncomputable def H_replace9 (P : Params) (tx : List Nat) (t : Nat) (p : Nat → Nat × Nat × Nat × Nat) (r : List Nat) (n tk : Nat) : HT := .go [3,1,3,1,1] (.cut (cRep P { L := (n + 1), k1 := tk, k2 := (tk + 1), i0 := 1 } 1 tx t n [p 0, p 1, p 2, p 3, p 4, p 5, p 6, p 7, p 8] 0 r) fun z0 => .go [3] (.nil { res := .ok (.ret (Value.str { cps := { toList := r } } (z0 2))), exp := [] }))
theorem r_replace9 (P : Params) (b1 b2 : Bool) (tx : List Nat) (t : Nat) (p : Nat → Nat × Nat × Nat × Nat) (r : List Nat) (n tk : Nat) : (RunF (parOf P b1 b2) (cReplace tx t [p 0, p 1, p 2, p 3, p 4, p 5, p 6, p 7, p 8] r) 101 fd101 (.str ⟨⟨tx⟩⟩ t :: prV [p 0, p 1, p 2, p 3, p 4, p 5, p 6, p 7, p 8]) 400 (H_replace9 (parOf P b1 b2) tx t p r n tk) n tk).Ok := by
  cases b1 <;> (show OT.l _ = OT.r _; kernel_rfl)
noncomputable def H_replace10 (P : Params) (tx : List Nat) (t : Nat) (p : Nat → Nat × Nat × Nat × Nat) (r : List Nat) (n tk : Nat) : HT := .go [3,1,3,1,1] (.cut (cRep P { L := (n + 1), k1 := tk, k2 := (tk + 1), i0 := 1 } 1 tx t n [p 0, p 1, p 2, p 3, p 4, p 5, p 6, p 7, p 8, p 9] 0 r) fun z0 => .go [3] (.nil { res := .ok (.ret (Value.str { cps := { toList := r } } (z0 2))), exp := [] }))
theorem r_replace10 (P : Params) (b1 b2 : Bool) (tx : List Nat) (t : Nat) (p : Nat → Nat × Nat × Nat × Nat) (r : List Nat) (n tk : Nat) : (RunF (parOf P b1 b2) (cReplace tx t [p 0, p 1, p 2, p 3, p 4, p 5, p 6, p 7, p 8, p 9] r) 101 fd101 (.str ⟨⟨tx⟩⟩ t :: prV [p 0, p 1, p 2, p 3, p 4, p 5, p 6, p 7, p 8, p 9]) 400 (H_replace10 (parOf P b1 b2) tx t p r n tk) n tk).Ok := by
  cases b1 <;> (show OT.l _ = OT.r _; kernel_rfl)
noncomputable def RepOk : List (Nat × Nat × Nat × Nat) → List Nat → Prop
  | [], _ => True
  | (x, _, X, _) :: l, tx => (∃ l1 l2, tx = l1 ++ x :: l2 ∧ x ∉ l1 ∧ x ∉ l2) ∧ RepOk l (tx.map fun c => if c = x then X else c)
theorem map_rep {x X : Nat} {l1 l2 : List Nat} (h1 : x ∉ l1) (h2 : x ∉ l2) : (l1 ++ x :: l2).map (fun c => if c = x then X else c) = l1 ++ X :: l2 := by
  have g : ∀ l : List Nat, x ∉ l → l.map (fun c => if c = x then X else c) = l := fun l h => by
    conv => rhs; rw [← List.map_id l]
    apply List.map_congr_left
    intro a ha
    have : a ≠ x := fun q => by subst q; exact h ha
    rw [if_neg this]; rfl
  rw [List.map_append, List.map_cons, g l1 h1, g l2 h2, if_pos rfl]
theorem prV_len : ∀ ps, (prV ps).length = 2 * ps.length
  | [] => rfl
  | (x, a, X, b) :: l => by
    show (prV l).length + 1 + 1 = 2 * (l.length + 1)
    rw [prV_len l]; lia
theorem rep_ok (w : World) (b1 b2 : Bool) (ps : List (Nat × Nat × Nat × Nat)) : ∀ (q : Rq) (hp : Nat) (tx : List Nat) (t : Nat) (pa : Addr) (ep : Nat), RepOk ps tx → tx.length ≤ 100 → ps.length ≤ 100 → VV w b1 b2 (cRep (parOf w.params b1 b2) q hp tx t pa ps ep (replF ps tx)) := by
  induction ps with
  | nil =>
    intro q hp tx t pa ep _ _ _
    refine codeV (fun _ => rfl) 400 (fun n tk => H_repE _ q hp tx t pa ep n tk) (fun n tk => r_repE _ _ _ q hp tx t pa ep n tk) fun n tk => ?_
    exact outE (fun i => if i = 2 then t else pa) fun sz tk => ⟨trivial, rfl, rfl, rfl, rfl⟩
  | cons p ps ih =>
    intro q hp tx t pa ep ⟨⟨l1, l2, htx, h1, h2⟩, hr⟩ hz hz2
    obtain ⟨x, ux, X, uX⟩ := p
    have e : tx.map (fun c => if c = x then X else c) = l1 ++ X :: l2 := by rw [htx]; exact map_rep h1 h2
    have el := prV_len ps
    have eF : replF ((x, ux, X, uX) :: ps) tx = replF ps (l1 ++ X :: l2) := by show replF ps (tx.map _) = _; rw [e]
    have ln : tx.length = l1.length + (l2.length + 1) := by rw [htx]; simp
    rw [List.length_cons] at hz2
    rw [eF]
    have hr' : RepOk ps (l1 ++ X :: l2) := e ▸ hr
    refine codeV (fun _ => rfl) 400 (fun n tk => H_repT _ q hp tx t pa x ux X uX ps ep l1 l2 _ n tk) (fun n tk => r_repT _ _ _ q hp tx t pa x ux X uX ps ep l1 l2 _ n tk) fun n tk =>
      ⟨cLenTB_ok (by show ((prV ps).length : Int) + 2 = ((prV ps).length + 1 + 1 : Nat); lia) (by show (prV ps).length + 1 + 1 ≤ 1000; lia), fun z0 hz0 => ⟨cTGet_ok (by decide) (by decide) rfl, fun z1 hz1 => ⟨cTGet_ok (by decide) (by decide) rfl, fun z2 hz2 => ⟨cSplit_ok (by simp) (by
        intro p hp
        rcases List.mem_cons.mp hp with rfl | hp
        · exact h1
        · rw [List.mem_singleton.mp hp]; exact h2) (by rw [htx]; rfl) (by lia), fun z3 hz3 => ⟨cJoin_ok (by rw [lsO_len]; rfl) rfl (by show l1.length + (l2.length + 0) ≤ 1000; lia) (by show 2 ≤ 1000; decide) (by show 1 ≤ 10; decide), fun z4 hz4 => ⟨cTFrom_ok (by decide) (by show 2 ≤ (prV ps).length + 1 + 1; lia) (by show (prV ps).length + 1 + 1 ≤ 1000; lia) rfl, fun z5 hz5 => ⟨ih _ _ _ _ _ _ hr' (by simp; lia) (by lia), fun z6 hz6 => ?_⟩⟩⟩⟩⟩⟩⟩
    exact outE z6 fun sz tk => ⟨trivial, rfl, rfl, rfl, rfl⟩
theorem fn101 (P : Params) : FnAt (kt P) 101 fd101 (dBody (stm 5)) := ⟨⟨fnO fd101, by kernel_rfl!, rfl⟩, by kernel_rfl!, by kernel_rfl!, by kernel_rfl!, ⟨100, o100, _, 307, by kernel_rfl!, by kernel_rfl!, rfl, by kernel_rfl!⟩, by kernel_rfl!⟩
theorem list_as (k : Nat) : ∀ (ps : List (Nat × Nat × Nat × Nat)), ps = (List.range ps.length).map fun i => ps.getD i (0, 0, 0, 0) := by
  intro ps
  apply List.ext_getElem
  · simp
  · intro i h1 h2
    simp [h1]
/-- replace -/
theorem replace_ok (w : World) (b1 b2 : Bool) {ps : List (Nat × Nat × Nat × Nat)} {tx : List Nat} {t : Nat} (h : RepOk ps tx) (hz : tx.length ≤ 100) (hl : ps.length ≤ 10) : VV w b1 b2 (cReplace tx t ps (replF ps tx)) := by
  have e := list_as 0 ps
  have key : ∀ (p : Nat → Nat × Nat × Nat × Nat) (k : Nat), k ≤ 10 → RepOk ((List.range k).map p) tx → VV w b1 b2 (cReplace tx t ((List.range k).map p) (replF ((List.range k).map p) tx)) := by
    intro p k hk h
    have R := fun (q : Rq) (hp t : Nat) pa ep => rep_ok w b1 b2 ((List.range k).map p) q hp tx t pa ep h hz (by simp; lia)
    have fin : ∀ (z : Nat → Nat) r, OutF (cReplace tx t ((List.range k).map p) r) { res := .ok (.ret (.str ⟨⟨r⟩⟩ (z 2))), exp := [] } := fun z r => outE (fun _ => z 2) fun sz tk => ⟨trivial, rfl, rfl, rfl, rfl⟩
    match k, hk with
    | 0, _ => exact fnV (fn101 _) rfl (show 1 ≤ 2 by decide) (fun _ => rfl) 400 (fun n tk => H_replace0 _ tx t p _ n tk) (fun n tk => r_replace0 _ _ _ tx t p _ n tk) fun n tk => ⟨R _ _ _ _ _, fun z0 hz0 => fin z0 _⟩
    | 1, _ => exact fnV (fn101 _) rfl (show 1 ≤ 2 by decide) (fun _ => rfl) 400 (fun n tk => H_replace1 _ tx t p _ n tk) (fun n tk => r_replace1 _ _ _ tx t p _ n tk) fun n tk => ⟨R _ _ _ _ _, fun z0 hz0 => fin z0 _⟩
    | 2, _ => exact fnV (fn101 _) rfl (show 1 ≤ 2 by decide) (fun _ => rfl) 400 (fun n tk => H_replace2 _ tx t p _ n tk) (fun n tk => r_replace2 _ _ _ tx t p _ n tk) fun n tk => ⟨R _ _ _ _ _, fun z0 hz0 => fin z0 _⟩
    | 3, _ => exact fnV (fn101 _) rfl (show 1 ≤ 2 by decide) (fun _ => rfl) 400 (fun n tk => H_replace3 _ tx t p _ n tk) (fun n tk => r_replace3 _ _ _ tx t p _ n tk) fun n tk => ⟨R _ _ _ _ _, fun z0 hz0 => fin z0 _⟩
    | 4, _ => exact fnV (fn101 _) rfl (show 1 ≤ 2 by decide) (fun _ => rfl) 400 (fun n tk => H_replace4 _ tx t p _ n tk) (fun n tk => r_replace4 _ _ _ tx t p _ n tk) fun n tk => ⟨R _ _ _ _ _, fun z0 hz0 => fin z0 _⟩
    | 5, _ => exact fnV (fn101 _) rfl (show 1 ≤ 2 by decide) (fun _ => rfl) 400 (fun n tk => H_replace5 _ tx t p _ n tk) (fun n tk => r_replace5 _ _ _ tx t p _ n tk) fun n tk => ⟨R _ _ _ _ _, fun z0 hz0 => fin z0 _⟩
    | 6, _ => exact fnV (fn101 _) rfl (show 1 ≤ 2 by decide) (fun _ => rfl) 400 (fun n tk => H_replace6 _ tx t p _ n tk) (fun n tk => r_replace6 _ _ _ tx t p _ n tk) fun n tk => ⟨R _ _ _ _ _, fun z0 hz0 => fin z0 _⟩
    | 7, _ => exact fnV (fn101 _) rfl (show 1 ≤ 2 by decide) (fun _ => rfl) 400 (fun n tk => H_replace7 _ tx t p _ n tk) (fun n tk => r_replace7 _ _ _ tx t p _ n tk) fun n tk => ⟨R _ _ _ _ _, fun z0 hz0 => fin z0 _⟩
    | 8, _ => exact fnV (fn101 _) rfl (show 1 ≤ 2 by decide) (fun _ => rfl) 400 (fun n tk => H_replace8 _ tx t p _ n tk) (fun n tk => r_replace8 _ _ _ tx t p _ n tk) fun n tk => ⟨R _ _ _ _ _, fun z0 hz0 => fin z0 _⟩
    | 9, _ => exact fnV (fn101 _) rfl (show 1 ≤ 2 by decide) (fun _ => rfl) 400 (fun n tk => H_replace9 _ tx t p _ n tk) (fun n tk => r_replace9 _ _ _ tx t p _ n tk) fun n tk => ⟨R _ _ _ _ _, fun z0 hz0 => fin z0 _⟩
    | 10, _ => exact fnV (fn101 _) rfl (show 1 ≤ 2 by decide) (fun _ => rfl) 400 (fun n tk => H_replace10 _ tx t p _ n tk) (fun n tk => r_replace10 _ _ _ tx t p _ n tk) fun n tk => ⟨R _ _ _ _ _, fun z0 hz0 => fin z0 _⟩
    | k + 11, hk => exact absurd hk (by lia)
  rw [e]
  exact key _ _ hl (e ▸ h)
/-! _law_outline -/
noncomputable def rdM (P : Params) (m : Nat → Mk) (hm : Nat → Nat) : List (Nat × Cell) := [(hm 0, (m 0).inst), (hm 0 + 2, (m 0).dict P), (hm 0 + 4, (m 0).norm), (hm 0 + 6, (m 0).cnt), (hm 1, (m 1).inst), (hm 1 + 2, (m 1).dict P), (hm 1 + 4, (m 1).norm), (hm 1 + 6, (m 1).cnt), (hm 2, (m 2).inst), (hm 2 + 2, (m 2).dict P), (hm 2 + 4, (m 2).norm), (hm 2 + 6, (m 2).cnt), (hm 3, (m 3).inst), (hm 3 + 2, (m 3).dict P), (hm 3 + 4, (m 3).norm), (hm 3 + 6, (m 3).cnt), (hm 4, (m 4).inst), (hm 4 + 2, (m 4).dict P), (hm 4 + 4, (m 4).norm), (hm 4 + 6, (m 4).cnt)]
noncomputable def cAbv (P : Params) (m : Nat → Mk) (hm : Nat → Nat) (x y : Addr) (sz : Int) (t : Nat) (v : Bool) : Ctr :=
  { code := .call (.ref 143) ⟨[.ref x, .ref y, .int sz t], []⟩, room := 5, reads := rdM P m hm, res := fun _ => .ok (.ret (.bool v)) }
theorem mem_map2 {l l' : List (Nat × Cell)} (h : l.map (·.2) = l'.map (·.2)) {e : Nat × Cell} (he : e ∈ l) : ∃ e' ∈ l', e'.2 = e.2 := by
  have z := List.mem_map_of_mem (f := fun e : Nat × Cell => e.2) he
  rw [h] at z
  obtain ⟨e', a, b⟩ := List.mem_map.mp z
  exact ⟨e', a, b⟩
theorem rdM_has (P : Params) (m : Nat → Mk) (hm : Nat → Nat) (i : Nat) (hi : i ≤ 4) (h : Nat × Nat × Nat × Nat) : ∀ e ∈ (m i).rd P h, ∃ e' ∈ rdM P m hm, e'.2 = e.2 := by
  intro e he
  have h1 : e.2 ∈ ((m i).rd P h).map (fun e : Nat × Cell => e.2) := List.mem_map_of_mem he
  have e0 : (rdM P m hm).map (fun e : Nat × Cell => e.2) = ((m 0).rd P h).map (fun e : Nat × Cell => e.2) ++ (((m 1).rd P h).map (fun e : Nat × Cell => e.2) ++ (((m 2).rd P h).map (fun e : Nat × Cell => e.2) ++ (((m 3).rd P h).map (fun e : Nat × Cell => e.2) ++ ((m 4).rd P h).map (fun e : Nat × Cell => e.2)))) := rfl
  have h2 : e.2 ∈ (rdM P m hm).map (fun e : Nat × Cell => e.2) := by
    rw [e0]
    have key : i = 0 ∨ i = 1 ∨ i = 2 ∨ i = 3 ∨ i = 4 := by lia
    rcases key with rfl | rfl | rfl | rfl | rfl
    · exact List.mem_append_left _ h1
    · exact List.mem_append_right _ (List.mem_append_left _ h1)
    · exact List.mem_append_right _ (List.mem_append_right _ (List.mem_append_left _ h1))
    · exact List.mem_append_right _ (List.mem_append_right _ (List.mem_append_right _ (List.mem_append_left _ h1)))
    · exact List.mem_append_right _ (List.mem_append_right _ (List.mem_append_right _ (List.mem_append_right _ h1)))
  obtain ⟨e', a, b⟩ := List.mem_map.mp h2
  exact ⟨e', a, b⟩
theorem cAbv_ok (w : World) (b1 b2 : Bool) {m : Nat → Mk} {hm : Nat → Nat} {i j : Nat} {x y : Addr} {sz : Int} {s t : Nat} {v : Bool} (hi : i ≤ 4) (hj : j ≤ 4) (hx : x = (m i).x) (hy : y = (m j).x) (mi : MkOk (m i)) (mj : MkOk (m j)) (hs : sz = s) (hs3 : s ≤ 3) (hv : aboveV s (m i) (m j) = v) :
    VV w b1 b2 (cAbv (parOf w.params b1 b2) m hm x y sz t v) := by
  subst hx hy hs hv
  have z := above_ok w b1 b2 (0, 0, 0, 0) (0, 0, 0, 0) (m i) (m j) mi mj s hs3 t
  exact Valid_more (rd := rdM (parOf w.params b1 b2) m hm) z rfl fun e he => by
    rcases List.mem_append.mp he with he | he
    · exact rdM_has _ m hm i hi _ e he
    · exact rdM_has _ m hm j hj _ e he
noncomputable def bd150 : List Stmt := dBody (stm 17)
noncomputable def sOl : Stmt := atS bd150 2
noncomputable def sWh : Stmt := atS (forB sOl) 0
noncomputable def sFa : Stmt := atS (forB sOl) 1
structure Oq where
  (L ma pa ga : Addr) (sz : Int) (t k1 k2 k3 k4 k5 : Nat) (ml : List Value) (em i0 ip ig hL hm0 hp : Nat)
noncomputable def Oq.env (q : Oq) : Env := envA fd150 150 q.L []
noncomputable def Oq.es (q : Oq) (P : Params) (pl : Int) (tp : Nat) : List DictEntry :=
  [eN P [109, 97, 114, 107, 115] q.k1 (.ref q.ma), eN P [115, 105, 122, 101] q.k2 (.int q.sz q.t), eN P [112, 105, 108, 101] q.k3 (.ref q.pa), eN P [103, 114, 111, 119, 110] q.k4 (.ref q.ga), eN P [112, 108, 97, 99, 101] q.k5 (.int pl tp)]
noncomputable def frO1 (P : Params) (q : Oq) (pl : Int) (tp : Nat) (rest : List DictEntry) (ef : Nat) : Obj := frO (addL (q.es P pl tp) rest) ef
/-- what stays on the pile -/
noncomputable def idxV : Value → Nat
  | .int i _ => i.toNat
  | _ => 0
noncomputable def popV (lt : Nat → Bool) (l : List Value) : List Value := (l.reverse.dropWhile fun v => !lt (idxV v)).reverse
noncomputable def cWh (P : Params) (q : Oq) (m : Nat → Mk) (hm : Nat → Nat) (pl : Int) (tp : Nat) (rest : List DictEntry) (ef : Nat) (l r : List Value) (ep : Nat) : Ctr :=
  { code := whC sWh q.env, room := 6, reads := (q.hL, (q.L, frO1 P q pl tp rest ef)) :: (q.hm0, (q.ma, liO q.ml q.em)) :: rdM P m hm, mus := [(q.ip, (q.pa, liO l ep))], upd := fun y => [liO r (y 2)], res := fun _ => .ok .next }
noncomputable def restA (P : Params) (ka kl : Nat) (a : Int) (ta : Nat) (l : Int) (tl : Nat) : List DictEntry := [eN P [97, 98, 111, 118, 101] ka (.int a ta), eN P [108, 101, 116, 116, 101, 114] kl (.int l tl)]
noncomputable def restN (P : Params) (y : Nat → Nat) (rest : List DictEntry) : List Value → List DictEntry
  | [] => rest
  | _ :: _ => restA P (y 3) (y 4) (iw (y 5)) (y 6) (iw (y 7)) (y 8)
noncomputable def efN (ef : Nat) : List Value → Nat
  | [] => ef
  | _ :: _ => 7
noncomputable def qdV (d : Nat) : List Value → List Nat → List (Nat × Nat × Nat × Nat)
  | v :: l, t :: u :: ts => (97 + (d + idxV v), t, 65 + (d + idxV v), u) :: qdV d l ts
  | _, _ => []
noncomputable def cFa (P : Params) (q : Oq) (it : Addr) (pl : Int) (tp : Nat) (rest : List DictEntry) (ef : Nat) (l ls : List Value) (ep : Nat) (j jf : Int) (d : Nat) (gq : List (Nat × Nat × Nat × Nat)) (eg : Nat) : Ctr :=
  { code := forC sFa it q.env, reads := [(q.hp, (q.pa, liO l ep))], mus := [(q.i0, (q.L, frO1 P q pl tp rest ef)), (q.ip, (it, liI (.ref q.pa) j)), (q.ig, (q.ga, liO (prV gq) eg))],
    upd := fun y => [frO1 P q pl tp (restN P y rest ls) (efN ef ls), liI .none jf, liO (prV (gq ++ qdV d ls (lsO 20 y (2 * ls.length)))) (y 2)], res := fun _ => .ok .next }
noncomputable def cOl (P : Params) (m : Nat → Mk) (hm : Nat → Nat) (h : Nat) (ma : Addr) (ml : List Value) (em : Nat) (sz : Int) (t : Nat) (r : List Nat) : Ctr :=
  { code := .call (.ref 150) ⟨[.ref ma, .int sz t], []⟩, room := 10, reads := (h, (ma, liO ml em)) :: rdM P m hm, res := fun y => .ok (.ret (.str ⟨⟨r⟩⟩ (y 2))) }
/-- quads of witnesses -/
noncomputable def qw (y : Nat → Nat) : Nat → Nat → List (Nat × Nat × Nat × Nat)
  | _, 0 => []
  | o, k + 1 => (y o, y (o + 1), y (o + 2), y (o + 3)) :: qw y (o + 4) k
noncomputable def chq (l : List (Nat × Nat × Nat × Nat)) : List (Nat × Nat) := l.map fun q => (q.1, q.2.2.1)
noncomputable def cFaX (P : Params) (q : Oq) (it : Addr) (pl : Int) (tp : Nat) (rest : List DictEntry) (ef : Nat) (l ls : List Value) (ep : Nat) (j jf : Int) (d : Nat) (gq : List (Nat × Nat × Nat × Nat)) (eg k : Nat) : Ctr :=
  { code := forC sFa it q.env, reads := [(q.hp, (q.pa, liO l ep))], mus := [(q.i0, (q.L, frO1 P q pl tp rest ef)), (q.ip, (it, liI (.ref q.pa) j)), (q.ig, (q.ga, liO (prV gq) eg))],
    upd := fun y => [frO1 P q pl tp (restN P y rest ls) (efN ef ls), liI .none jf, liO (prV (qw y 20 k)) (y 2)], res := fun _ => .ok .next,
    post := fun y => chq (qw y 20 k) = chq gq ++ ls.map fun v => (97 + (d + idxV v), 65 + (d + idxV v)) }
noncomputable def oQ0 (lt : Nat → Nat → Bool) : List Value := popV (fun i => lt i 0) []
noncomputable def oQ1 (lt : Nat → Nat → Bool) (t0 : Nat) : List Value := popV (fun i => lt i 1) (oQ0 lt  ++ [.int 0 t0])
noncomputable def oQ2 (lt : Nat → Nat → Bool) (t0 t1 : Nat) : List Value := popV (fun i => lt i 2) (oQ1 lt t0 ++ [.int 1 t1])
noncomputable def oQ3 (lt : Nat → Nat → Bool) (t0 t1 t2 : Nat) : List Value := popV (fun i => lt i 3) (oQ2 lt t0 t1 ++ [.int 2 t2])
noncomputable def oQ4 (lt : Nat → Nat → Bool) (t0 t1 t2 t3 : Nat) : List Value := popV (fun i => lt i 4) (oQ3 lt t0 t1 t2 ++ [.int 3 t3])
noncomputable def oR0 (P : Params) (lt : Nat → Nat → Bool) : List DictEntry := []
noncomputable def oE0 (lt : Nat → Nat → Bool) : Nat := 5
noncomputable def oG0 (lt : Nat → Nat → Bool) : List (Nat × Nat × Nat × Nat) := []
noncomputable def oR1 (P : Params) (lt : Nat → Nat → Bool) (y0 : Nat → Nat) : List DictEntry := restN P y0 (oR0 P lt  ) (oQ0 lt )
noncomputable def oE1 (lt : Nat → Nat → Bool) : Nat := efN (oE0 lt ) (oQ0 lt )
noncomputable def oG1 (lt : Nat → Nat → Bool) (y0 : Nat → Nat) : List (Nat × Nat × Nat × Nat) := oG0 lt   ++ qdV 0 (oQ0 lt ) (lsO 20 y0 (2 * (oQ0 lt ).length))
noncomputable def oR2 (P : Params) (lt : Nat → Nat → Bool) (y0 y1 : Nat → Nat) (t0 : Nat) : List DictEntry := restN P y1 (oR1 P lt y0 ) (oQ1 lt t0)
noncomputable def oE2 (lt : Nat → Nat → Bool) (t0 : Nat) : Nat := efN (oE1 lt ) (oQ1 lt t0)
noncomputable def oG2 (lt : Nat → Nat → Bool) (y0 y1 : Nat → Nat) (t0 : Nat) : List (Nat × Nat × Nat × Nat) := oG1 lt y0  ++ qdV 0 (oQ1 lt t0) (lsO 20 y1 (2 * (oQ1 lt t0).length))
noncomputable def oR3 (P : Params) (lt : Nat → Nat → Bool) (y0 y1 y2 : Nat → Nat) (t0 t1 : Nat) : List DictEntry := restN P y2 (oR2 P lt y0 y1 t0) (oQ2 lt t0 t1)
noncomputable def oE3 (lt : Nat → Nat → Bool) (t0 t1 : Nat) : Nat := efN (oE2 lt t0) (oQ2 lt t0 t1)
noncomputable def oG3 (lt : Nat → Nat → Bool) (y0 y1 y2 : Nat → Nat) (t0 t1 : Nat) : List (Nat × Nat × Nat × Nat) := oG2 lt y0 y1 t0 ++ qdV 1 (oQ2 lt t0 t1) (lsO 20 y2 (2 * (oQ2 lt t0 t1).length))
noncomputable def oR4 (P : Params) (lt : Nat → Nat → Bool) (y0 y1 y2 y3 : Nat → Nat) (t0 t1 t2 : Nat) : List DictEntry := restN P y3 (oR3 P lt y0 y1 y2 t0 t1) (oQ3 lt t0 t1 t2)
noncomputable def oE4 (lt : Nat → Nat → Bool) (t0 t1 t2 : Nat) : Nat := efN (oE3 lt t0 t1) (oQ3 lt t0 t1 t2)
noncomputable def oG4 (lt : Nat → Nat → Bool) (y0 y1 y2 y3 : Nat → Nat) (t0 t1 t2 : Nat) : List (Nat × Nat × Nat × Nat) := oG3 lt y0 y1 y2 t0 t1 ++ qdV 3 (oQ3 lt t0 t1 t2) (lsO 20 y3 (2 * (oQ3 lt t0 t1 t2).length))
noncomputable def olq (m : Nat → Mk) (ma em : Nat) (sz : Int) (t n tk : Nat) (ml : List Value) (ip hp : Nat) : Oq := { L := n, ma := ma, pa := n + 1, ga := n + 2, sz := sz, t := t, k1 := tk, k2 := tk + 1, k3 := tk + 2, k4 := tk + 3, k5 := tk + 9, ml := ml, em := em, i0 := 0, ip := ip, ig := 2, hL := 1, hm0 := 2, hp := hp }
noncomputable def H_whFk1 (P : Params) (q : Oq) (m : Nat → Mk) (pl : Int) (tp : Nat) (rest : List DictEntry) (ef : Nat) (lv r : List Value) (ep : Nat) (p : Int) (t0 : Nat) (x y : Addr) : HT := .go [2,2,4,4,4,1] (.cut (cGet 4 q.ma q.ml q.em pl tp (.ref y)) fun z3 => .go [2,0,1] (.cut (cAbv P m (fun i => 6 + 8 * i) x y q.sz q.t false) fun z4 => .go [2,0,1,1,1] (.cut (cDel 0 q.pa lv (.int p t0) ep (z4 1 + 1)) fun z5 => .go [] (.cut (cWh P { q with ip := 0, hL := 2, hm0 := 4 } m (fun i => 6 + 8 * i) pl tp rest ef lv r (ep + 1)) fun z6 => .go [] (.nil { res := .ok Flow.next, exp := expOf (cWh P { q with ip := 0, hL := 2, hm0 := 4 } m (fun i => 6 + 8 * i) pl tp rest ef lv r (ep + 1)) z6 })))))
noncomputable def H_whF (P : Params) (q : Oq) (m : Nat → Mk) (pl : Int) (tp : Nat) (rest : List DictEntry) (ef : Nat) (lv r : List Value) (ep : Nat) (p : Int) (t0 : Nat) (x y : Addr) (n tk : Nat) : HT := .go [2,1,1,1] (.cut (cLenLB 1 q.pa (lv ++ [.int p t0]) ep ((lv.length : Int) + 1)) fun z0 => .go [0,2,2,0,1,1,1,1] (.cut (cLast 1 q.pa lv (.int p t0) ep (z0 1 + 1)) fun z1 => .go [4,4,4,1] (.cut (cGet 4 q.ma q.ml q.em p t0 (.ref x)) fun z2 => (H_whFk1 P q m pl tp rest ef lv r ep p t0 x y))))
theorem r_whF (P : Params) (b1 b2 : Bool) (q : Oq) (m : Nat → Mk) (pl : Int) (tp : Nat) (rest : List DictEntry) (ef : Nat) (lv r : List Value) (ep : Nat) (p : Int) (t0 : Nat) (x y : Addr) (n tk : Nat) : (RunC (parOf P b1 b2) (cWh (parOf P b1 b2) q m (fun i => 6 + 8 * i) pl tp rest ef (lv ++ [.int p t0]) r ep) 400 (H_whF (parOf P b1 b2) q m pl tp rest ef lv r ep p t0 x y n tk) n tk).Ok := by
  cases b1 <;> (show OT.l _ = OT.r _; kernel_rfl)
noncomputable def H_whTk1 (P : Params) (q : Oq) (m : Nat → Mk) (pl : Int) (tp : Nat) (lv : List Value) (ep : Nat) (p : Int) (t0 : Nat) (x y : Addr) : HT := .go [2,2,4,4,4,1] (.cut (cGet 4 q.ma q.ml q.em pl tp (.ref y)) fun z3 => .go [2,0,1] (.cut (cAbv P m (fun i => 6 + 8 * i) x y q.sz q.t true) fun z4 => .go [] (.nil { res := .ok Flow.next, exp := [(1, (q.pa, liO (lv ++ [.int p t0]) ep))] })))
noncomputable def H_whT (P : Params) (q : Oq) (m : Nat → Mk) (pl : Int) (tp : Nat) (rest : List DictEntry) (ef : Nat) (lv r : List Value) (ep : Nat) (p : Int) (t0 : Nat) (x y : Addr) (n tk : Nat) : HT := .go [2,1,1,1] (.cut (cLenLB 1 q.pa (lv ++ [.int p t0]) ep ((lv.length : Int) + 1)) fun z0 => .go [0,2,2,0,1,1,1,1] (.cut (cLast 1 q.pa lv (.int p t0) ep (z0 1 + 1)) fun z1 => .go [4,4,4,1] (.cut (cGet 4 q.ma q.ml q.em p t0 (.ref x)) fun z2 => (H_whTk1 P q m pl tp lv ep p t0 x y))))
theorem r_whT (P : Params) (b1 b2 : Bool) (q : Oq) (m : Nat → Mk) (pl : Int) (tp : Nat) (rest : List DictEntry) (ef : Nat) (lv r : List Value) (ep : Nat) (p : Int) (t0 : Nat) (x y : Addr) (n tk : Nat) : (RunC (parOf P b1 b2) (cWh (parOf P b1 b2) q m (fun i => 6 + 8 * i) pl tp rest ef (lv ++ [.int p t0]) (lv ++ [.int p t0]) ep) 400 (H_whT (parOf P b1 b2) q m pl tp rest ef lv r ep p t0 x y n tk) n tk).Ok := by
  cases b1 <;> (show OT.l _ = OT.r _; kernel_rfl)
noncomputable def H_whE (P : Params) (q : Oq) (m : Nat → Mk) (pl : Int) (tp : Nat) (rest : List DictEntry) (ef ep : Nat) (n tk : Nat) : HT := .go [2,1,1,0,1,0,1,1] (.nil { res := .ok Flow.next, exp := [(1, (q.pa, liO [] ep))] })
theorem r_whE (P : Params) (b1 b2 : Bool) (q : Oq) (m : Nat → Mk) (pl : Int) (tp : Nat) (rest : List DictEntry) (ef ep : Nat) (n tk : Nat) : (RunC (parOf P b1 b2) (cWh (parOf P b1 b2) q m (fun i => 6 + 8 * i) pl tp rest ef [] [] ep) 400 (H_whE (parOf P b1 b2) q m pl tp rest ef ep n tk) n tk).Ok := by
  cases b1 <;> (show OT.l _ = OT.r _; kernel_rfl)
noncomputable def H_faT0k1 (P : Params) (q : Oq) (it : Addr) (pl : Int) (tp : Nat) (l ls : List Value) (ep : Nat) (j jf : Int) (d : Nat) (gq : List (Nat × Nat × Nat × Nat)) (eg : Nat) (a : Int) (ta c C : Nat) (z0 z2 : Nat → Nat) : HT := .go [1,0,1,0,1,1,1] (.cut (cStrAt ({ cps := { toList := [97, 98, 99, 100, 101, 102, 103, 104, 105, 106] } }) (z2 1 + 2) (↑d + a : Int) (z2 1) c) fun z3 => .go [1,1] (.cut (cStrAt ({ cps := { toList := [65, 66, 67, 68, 69, 70, 71, 72, 73, 74] } }) (z3 1) (↑d + a : Int) (z2 1) C) fun z4 => .go [5,5,7,1] (.cut (cIaddV 2 7 q.ga (z4 0) (prV gq) ([Value.str { cps := { toList := [c] } } (z3 2), Value.str { cps := { toList := [C] } } (z4 2)]) (prV (gq ++ [(c, z3 2, C, z4 2)])) eg 0) fun z5 => .go [1,0] (.cut (cFa P { q with i0 := 0, ip := 1, ig := 2, hp := 2 } it pl tp (restA P (z0 1) (z2 1 + 1) a ta ((↑d + a : Int)) (z2 1)) 7 l ls ep (j + 1) jf d (gq ++ [(c, z3 2, C, z4 2)]) (eg + 1)) fun z6 => .go [] (.nil { res := .ok Flow.next, exp := expOf (cFa P { q with i0 := 0, ip := 1, ig := 2, hp := 2 } it pl tp (restA P (z0 1) (z2 1 + 1) a ta ((↑d + a : Int)) (z2 1)) 7 l ls ep (j + 1) jf d (gq ++ [(c, z3 2, C, z4 2)]) (eg + 1)) z6 })))))
noncomputable def H_faT0 (P : Params) (q : Oq) (it : Addr) (pl : Int) (tp ef : Nat) (l ls : List Value) (ep : Nat) (j jf : Int) (d : Nat) (gq : List (Nat × Nat × Nat × Nat)) (eg : Nat) (a : Int) (ta c C : Nat) (mm : Int) (n tk : Nat) : HT := .go [3,1] (.cut (cLNext 1 2 it q.pa l ep j (.int a ta)) fun z0 => .go [1,0,1,1,0,1] (.cut (cMul pl (pl - 1) tp (z0 1 + 2) mm) fun z1 => .go [1] (.cut (cFdiv mm 2 (z1 2) (z1 1) d) fun z2 => (H_faT0k1 P q it pl tp l ls ep j jf d gq eg a ta c C z0 z2))))
theorem r_faT0 (P : Params) (b1 b2 : Bool) (q : Oq) (it : Addr) (pl : Int) (tp ef : Nat) (l ls : List Value) (ep : Nat) (j jf : Int) (d : Nat) (gq : List (Nat × Nat × Nat × Nat)) (eg : Nat) (a : Int) (ta c C : Nat) (mm : Int) (n tk : Nat) : (RunC (parOf P b1 b2) (cFa (parOf P b1 b2) q it pl tp [] 5 l (.int a ta :: ls) ep j jf d gq eg) 400 (H_faT0 (parOf P b1 b2) q it pl tp ef l ls ep j jf d gq eg a ta c C mm n tk) n tk).Ok := by
  cases b1 <;> (show OT.l _ = OT.r _; kernel_rfl)
noncomputable def H_faTk1 (P : Params) (q : Oq) (it : Addr) (pl : Int) (tp : Nat) (l ls : List Value) (ep : Nat) (j jf : Int) (d : Nat) (gq : List (Nat × Nat × Nat × Nat)) (eg : Nat) (a : Int) (ta c C : Nat) (ka kl : Nat) (z2 : Nat → Nat) : HT := .go [1,0,1,0,1,1,1] (.cut (cStrAt ({ cps := { toList := [97, 98, 99, 100, 101, 102, 103, 104, 105, 106] } }) (z2 1 + 2) (↑d + a : Int) (z2 1) c) fun z3 => .go [1,1] (.cut (cStrAt ({ cps := { toList := [65, 66, 67, 68, 69, 70, 71, 72, 73, 74] } }) (z3 1) (↑d + a : Int) (z2 1) C) fun z4 => .go [5,5,7,1] (.cut (cIaddV 2 7 q.ga (z4 0) (prV gq) ([Value.str { cps := { toList := [c] } } (z3 2), Value.str { cps := { toList := [C] } } (z4 2)]) (prV (gq ++ [(c, z3 2, C, z4 2)])) eg 0) fun z5 => .go [1,0] (.cut (cFa P { q with i0 := 0, ip := 1, ig := 2, hp := 2 } it pl tp (restA P ka kl a ta ((↑d + a : Int)) (z2 1)) 7 l ls ep (j + 1) jf d (gq ++ [(c, z3 2, C, z4 2)]) (eg + 1)) fun z6 => .go [] (.nil { res := .ok Flow.next, exp := expOf (cFa P { q with i0 := 0, ip := 1, ig := 2, hp := 2 } it pl tp (restA P ka kl a ta ((↑d + a : Int)) (z2 1)) 7 l ls ep (j + 1) jf d (gq ++ [(c, z3 2, C, z4 2)]) (eg + 1)) z6 })))))
noncomputable def H_faT (P : Params) (q : Oq) (it : Addr) (pl : Int) (tp ef : Nat) (l ls : List Value) (ep : Nat) (j jf : Int) (d : Nat) (gq : List (Nat × Nat × Nat × Nat)) (eg : Nat) (a : Int) (ta c C : Nat) (mm : Int) (ka kl : Nat) (a' : Int) (ta' : Nat) (l' : Int) (tl' : Nat) (n tk : Nat) : HT := .go [3,1] (.cut (cLNext 1 2 it q.pa l ep j (.int a ta)) fun z0 => .go [1,0,1,1,0,1] (.cut (cMul pl (pl - 1) tp (z0 1 + 2) mm) fun z1 => .go [1] (.cut (cFdiv mm 2 (z1 2) (z1 1) d) fun z2 => (H_faTk1 P q it pl tp l ls ep j jf d gq eg a ta c C ka kl z2))))
theorem r_faT (P : Params) (b1 b2 : Bool) (q : Oq) (it : Addr) (pl : Int) (tp ef : Nat) (l ls : List Value) (ep : Nat) (j jf : Int) (d : Nat) (gq : List (Nat × Nat × Nat × Nat)) (eg : Nat) (a : Int) (ta c C : Nat) (mm : Int) (ka kl : Nat) (a' : Int) (ta' : Nat) (l' : Int) (tl' : Nat) (n tk : Nat) : (RunC (parOf P b1 b2) (cFa (parOf P b1 b2) q it pl tp (restA (parOf P b1 b2) ka kl a' ta' l' tl') 7 l (.int a ta :: ls) ep j jf d gq eg) 400 (H_faT (parOf P b1 b2) q it pl tp ef l ls ep j jf d gq eg a ta c C mm ka kl a' ta' l' tl' n tk) n tk).Ok := by
  cases b1 <;> (show OT.l _ = OT.r _; kernel_rfl)
noncomputable def H_faE (P : Params) (q : Oq) (it : Addr) (pl : Int) (tp : Nat) (rest : List DictEntry) (ef : Nat) (l : List Value) (ep : Nat) (j : Int) (d : Nat) (gq : List (Nat × Nat × Nat × Nat)) (eg : Nat) (n tk : Nat) : HT := .go [3,1] (.cut (cLEnd 1 2 it q.pa l ep j) fun z0 => .go [6] (.nil { res := .ok Flow.next, exp := [(1, (q.L, frO1 P q pl tp rest ef)), (3, (it, liI .none j)), (5, (q.ga, liO (prV gq) eg))] }))
theorem r_faE (P : Params) (b1 b2 : Bool) (q : Oq) (it : Addr) (pl : Int) (tp : Nat) (rest : List DictEntry) (ef : Nat) (l : List Value) (ep : Nat) (j : Int) (d : Nat) (gq : List (Nat × Nat × Nat × Nat)) (eg : Nat) (n tk : Nat) : (RunC (parOf P b1 b2) (cFa (parOf P b1 b2) q it pl tp rest ef l [] ep j j d gq eg) 400 (H_faE (parOf P b1 b2) q it pl tp rest ef l ep j d gq eg n tk) n tk).Ok := by
  cases b1 <;> (show OT.l _ = OT.r _; kernel_rfl)
/-! the pile -/
noncomputable def iv (l : List (Nat × Nat)) : List Value := l.map fun p => .int (p.1 : Int) p.2
noncomputable def popN (f : Nat → Bool) (l : List Nat) : List Nat := (l.reverse.dropWhile fun i => !f i).reverse
noncomputable def IvOk (L : List Value) (I : List Nat) : Prop := ∃ l : List (Nat × Nat), L = iv l ∧ l.map (·.1) = I
theorem iv_app (a b : List (Nat × Nat)) : iv (a ++ b) = iv a ++ iv b := by simp [iv]
theorem popV_app (f : Nat → Bool) (L : List Value) (v : Value) : popV f (L ++ [v]) = if f (idxV v) then L ++ [v] else popV f L := by
  unfold popV
  rw [List.reverse_append]
  show (List.dropWhile _ (v :: L.reverse)).reverse = _
  rw [List.dropWhile_cons]
  cases f (idxV v) with
  | true => simp
  | false => simp
theorem popN_app (f : Nat → Bool) (L : List Nat) (i : Nat) : popN f (L ++ [i]) = if f i then L ++ [i] else popN f L := by
  unfold popN
  rw [List.reverse_append]
  show (List.dropWhile _ (i :: L.reverse)).reverse = _
  rw [List.dropWhile_cons]
  cases f i with
  | true => simp
  | false => simp
theorem ivok_nil : IvOk [] [] := ⟨[], rfl, rfl⟩
theorem ivok_app {L : List Value} {I : List Nat} (h : IvOk L I) (k t : Nat) : IvOk (L ++ [.int (k : Int) t]) (I ++ [k]) := by
  obtain ⟨l, rfl, rfl⟩ := h
  exact ⟨l ++ [(k, t)], by rw [iv_app]; rfl, by simp⟩
theorem rev_ind {α : Type} {p : List α → Prop} (h0 : p []) (h1 : ∀ l a, p l → p (l ++ [a])) (l : List α) : p l := by
  have : ∀ r : List α, p r.reverse := fun r => by
    induction r with
    | nil => exact h0
    | cons a r ih => rw [List.reverse_cons]; exact h1 _ a ih
  have z := this l.reverse
  rwa [List.reverse_reverse] at z
theorem ivok_pop {L : List Value} {I : List Nat} (h : IvOk L I) (f : Nat → Bool) : IvOk (popV f L) (popN f I) := by
  obtain ⟨l, rfl, rfl⟩ := h
  refine rev_ind (p := fun l => IvOk (popV f (iv l)) (popN f (l.map (·.1)))) ivok_nil (fun l a ih => ?_) l
  rw [iv_app, List.map_append]
  show IvOk (popV f (iv l ++ [.int (a.1 : Int) a.2])) (popN f (l.map (·.1) ++ [a.1]))
  rw [popV_app, popN_app]
  show IvOk (if f a.1 then _ else _) _
  cases f a.1 with
  | true => exact ⟨l ++ [a], by rw [iv_app]; rfl, by simp⟩
  | false => exact ih
theorem iv_len (l : List (Nat × Nat)) : (iv l).length = l.length := by simp [iv]
theorem wh_ok (w : World) (b1 b2 : Bool) {m : Nat → Mk} {pl : Int} {k s : Nat} (hk : k ≤ 4) (hpl : pl = k) (hs : s ≤ 3) (hm : ∀ i, i ≤ 4 → MkOk (m i)) (tp : Nat) (rest : List DictEntry) (ef : Nat) (l : List (Nat × Nat)) :
    ∀ (q : Oq) (hm' : Nat → Nat) (ep : Nat), q.sz = s → q.ml[k]? = some (.ref (m k).x) → (∀ p ∈ l, p.1 ≤ 4 ∧ q.ml[p.1]? = some (.ref (m p.1).x)) → l.length ≤ 100 →
    VV w b1 b2 (cWh (parOf w.params b1 b2) q m hm' pl tp rest ef (iv l) (popV (fun i => aboveV s (m i) (m k)) (iv l)) ep) := by
  refine rev_ind (p := fun l => ∀ (q : Oq) (hm' : Nat → Nat) (ep : Nat), q.sz = s → q.ml[k]? = some (.ref (m k).x) → (∀ p ∈ l, p.1 ≤ 4 ∧ q.ml[p.1]? = some (.ref (m p.1).x)) → l.length ≤ 100 →
    VV w b1 b2 (cWh (parOf w.params b1 b2) q m hm' pl tp rest ef (iv l) (popV (fun i => aboveV s (m i) (m k)) (iv l)) ep)) ?_ ?_ l
  · intro q hm' ep hsz hmk hml hz
    refine codeV (fun _ => rfl) 400 (fun n tk => H_whE _ q m pl tp rest ef ep n tk) (fun n tk => r_whE _ _ _ q m pl tp rest ef ep n tk) fun n tk => ?_
    exact outE (fun _ => ep) fun sz tk => ⟨trivial, rfl, rfl, rfl, rfl⟩
  · intro l p ih q hm' ep hsz hmk hml hz
    obtain ⟨hp4, hpm⟩ := hml p (List.mem_append_right _ (.head _))
    have e1 : iv (l ++ [p]) = iv l ++ [.int (p.1 : Int) p.2] := by rw [iv_app]; rfl
    rw [List.length_append] at hz
    have hz' : l.length + 1 ≤ 100 := hz
    rw [e1]
    have ell : ((iv l).length : Int) + 1 = ((iv l ++ [Value.int (p.1 : Int) p.2]).length : Nat) := by simp
    have len : (iv l ++ [Value.int (p.1 : Int) p.2]).length ≤ 1000 := by simp [iv_len]; lia
    have mk2 : q.ml[pl.toNat]? = some (.ref (m k).x) := by rw [hpl, Int.toNat_natCast]; exact hmk
    cases hv : aboveV s (m p.1) (m k) with
    | true =>
      have e2 : popV (fun i => aboveV s (m i) (m k)) (iv l ++ [.int (p.1 : Int) p.2]) = iv l ++ [.int (p.1 : Int) p.2] := by rw [popV_app]; show (if aboveV s (m p.1) (m k) then _ else _) = _; rw [hv, if_pos rfl]
      rw [e2]
      refine codeV (fun _ => rfl) 400 (fun n tk => H_whT _ q m pl tp rest ef (iv l) [] ep (p.1 : Int) p.2 (m p.1).x (m k).x n tk) (fun n tk => r_whT _ _ _ q m pl tp rest ef (iv l) [] ep (p.1 : Int) p.2 (m p.1).x (m k).x n tk) fun n tk =>
        ⟨cLenLB_ok ell len, fun z0 hz0 => ⟨cLast_ok, fun z1 hz1 => ⟨cGet_ok (by lia) (by lia) (by rw [Int.toNat_natCast]; exact hpm), fun z2 hz2 => ⟨cGet_ok (by lia) (by lia) mk2, fun z3 hz3 => ⟨cAbv_ok w b1 b2 hp4 hk rfl rfl (hm _ hp4) (hm _ hk) hsz hs hv, fun z4 hz4 => ?_⟩⟩⟩⟩⟩
      exact outE (fun _ => ep) fun sz tk => ⟨trivial, rfl, rfl, rfl, rfl⟩
    | false =>
      have e2 : popV (fun i => aboveV s (m i) (m k)) (iv l ++ [.int (p.1 : Int) p.2]) = popV (fun i => aboveV s (m i) (m k)) (iv l) := by rw [popV_app]; show (if aboveV s (m p.1) (m k) then _ else _) = _; rw [hv, if_neg (by decide)]
      rw [e2]
      refine codeV (fun _ => rfl) 400 (fun n tk => H_whF _ q m pl tp rest ef (iv l) (popV (fun i => aboveV s (m i) (m k)) (iv l)) ep (p.1 : Int) p.2 (m p.1).x (m k).x n tk) (fun n tk => r_whF _ _ _ q m pl tp rest ef (iv l) _ ep (p.1 : Int) p.2 (m p.1).x (m k).x n tk) fun n tk =>
        ⟨cLenLB_ok ell len, fun z0 hz0 => ⟨cLast_ok, fun z1 hz1 => ⟨cGet_ok (by lia) (by lia) (by rw [Int.toNat_natCast]; exact hpm), fun z2 hz2 => ⟨cGet_ok (by lia) (by lia) mk2, fun z3 hz3 => ⟨cAbv_ok w b1 b2 hp4 hk rfl rfl (hm _ hp4) (hm _ hk) hsz hs hv, fun z4 hz4 => ⟨cDel_ok (by rw [iv_len, sizeLine_eq]; lia), fun z5 hz5 => ⟨ih _ _ _ hsz hmk (fun p' hp' => hml p' (List.mem_append_left _ hp')) (by lia), fun z6 hz6 => ?_⟩⟩⟩⟩⟩⟩⟩
      exact outE z6 fun sz tk => ⟨trivial, rfl, rfl, rfl, rfl⟩
/-! the letters -/
noncomputable def RestOk (P : Params) (rest : List DictEntry) (ef : Nat) : Prop := (rest = [] ∧ ef = 5) ∨ ∃ ka kl a ta l tl, rest = restA P ka kl a ta l tl ∧ ef = 7
theorem restOk_next {P : Params} {rest : List DictEntry} {ef : Nat} (h : RestOk P rest ef) (y : Nat → Nat) (L : List Value) : RestOk P (restN P y rest L) (efN ef L) := by
  cases L with
  | nil => exact h
  | cons v L => exact .inr ⟨_, _, _, _, _, _, rfl, rfl⟩
theorem fa_out {P : Params} {q q' : Oq} {it : Addr} {pl : Int} {tp : Nat} {rest : List DictEntry} {ef : Nat} {l : List Value} {v : Value} {ls : List Value} {ep : Nat} {j jf j' : Int} {d : Nat} {gq : List (Nat × Nat × Nat × Nat)} {eg eg' c t3 C t4 ka kl : Nat} {a : Int} {ta : Nat} {lt : Int} {tl : Nat} {z : Nat → Nat}
    (hq : { q with i0 := 0, ip := 1, ig := 2, hp := 2 } = q') (hc : c = 97 + (d + idxV v)) (hC : C = 65 + (d + idxV v)) :
    OutF (cFa P q it pl tp rest ef l (v :: ls) ep j jf d gq eg) { res := .ok .next, exp := expOf (cFa P q' it pl tp (restA P ka kl a ta lt tl) 7 l ls ep j' jf d (gq ++ [(c, t3, C, t4)]) eg') z } := by
  subst hq hc hC
  have e : ∀ f : Nat → Nat, ∀ sz tk, lsO 20 (wit (mkO 20 f (t3 :: t4 :: lsO 20 z (2 * ls.length))) sz tk) (2 * (ls.length + 1)) = t3 :: t4 :: lsO 20 z (2 * ls.length) := fun f sz tk => by
    rw [lsO_wit _ _ _ _ (by decide), lsO_mk' (by rw [List.length_cons, List.length_cons, lsO_len]; lia)]
  cases ls with
  | nil =>
    refine outE (mkO 20 (fun i => if i = 3 then ka else if i = 4 then kl else if i = 5 then wi a else if i = 6 then ta else if i = 7 then wi lt else if i = 8 then tl else z i) (t3 :: t4 :: lsO 20 z (2 * 0))) fun sz tk => ⟨trivial, rfl, ?_, rfl, rfl⟩
    have e' := e (fun i => if i = 3 then ka else if i = 4 then kl else if i = 5 then wi a else if i = 6 then ta else if i = 7 then wi lt else if i = 8 then tl else z i) sz tk
    have r : restN P (wit (mkO 20 (fun i => if i = 3 then ka else if i = 4 then kl else if i = 5 then wi a else if i = 6 then ta else if i = 7 then wi lt else if i = 8 then tl else z i) (t3 :: t4 :: lsO 20 z (2 * 0))) sz tk) rest [v] = restA P ka kl a ta lt tl := by
      show restA P ka kl (iw (wi a)) ta (iw (wi lt)) tl = _
      rw [iw_wi, iw_wi]
    unfold cFa
    dsimp only
    simp only [List.length_cons, List.length_nil] at e' ⊢
    rw [r, e']
    simp only [qdV, List.append_nil]
    rfl
  | cons v' ls =>
    refine outE (mkO 20 z (t3 :: t4 :: lsO 20 z (2 * (ls.length + 1)))) fun sz tk => ⟨trivial, rfl, ?_, rfl, rfl⟩
    have e' := e z sz tk
    have r : restN P (wit (mkO 20 z (t3 :: t4 :: lsO 20 z (2 * (ls.length + 1)))) sz tk) rest (v :: v' :: ls) = restN P z (restA P ka kl a ta lt tl) (v' :: ls) := rfl
    unfold cFa
    dsimp only
    simp only [List.length_cons] at e' ⊢
    rw [r, e']
    simp only [qdV, List.append_assoc, List.cons_append, List.nil_append]
    rfl
theorem abc_at : ∀ i, i < 10 → ([97, 98, 99, 100, 101, 102, 103, 104, 105, 106] : List Nat)[i]? = some (97 + i) := by decide
theorem ABC_at : ∀ i, i < 10 → ([65, 66, 67, 68, 69, 70, 71, 72, 73, 74] : List Nat)[i]? = some (65 + i) := by decide
theorem mul4 (k : Nat) (hk : k ≤ 4) : IntMulOk (k : Int) ((k : Int) - 1) := by
  have : k = 0 ∨ k = 1 ∨ k = 2 ∨ k = 3 ∨ k = 4 := by lia
  rcases this with rfl | rfl | rfl | rfl | rfl <;> exact .of_left (by decide)
theorem div4 (k : Nat) (hk : k ≤ 4) : ((k : Int) * ((k : Int) - 1)).fdiv 2 = ((k * (k - 1) / 2 : Nat) : Int) := by
  have : k = 0 ∨ k = 1 ∨ k = 2 ∨ k = 3 ∨ k = 4 := by lia
  rcases this with rfl | rfl | rfl | rfl | rfl <;> decide
theorem tri4 (k a : Nat) (hk : k ≤ 4) (ha : a < k) : k * (k - 1) / 2 + a < 10 := by
  have : k = 0 ∨ k = 1 ∨ k = 2 ∨ k = 3 ∨ k = 4 := by lia
  rcases this with rfl | rfl | rfl | rfl | rfl <;> lia
theorem pdiv4 (k : Nat) (hk : k ≤ 4) : Builtin.divisionGoesByPylong ((k : Int) * ((k : Int) - 1)) 2 = false := by
  have : k = 0 ∨ k = 1 ∨ k = 2 ∨ k = 3 ∨ k = 4 := by lia
  rcases this with rfl | rfl | rfl | rfl | rfl <;> decide +kernel
theorem prV_app : ∀ (a b : List (Nat × Nat × Nat × Nat)), prV (a ++ b) = prV a ++ prV b
  | [], _ => rfl
  | (x, t, X, u) :: l, b => by
    show _ :: _ :: prV (l ++ b) = _
    rw [prV_app l b]; rfl
theorem fa_turn (w : World) (b1 b2 : Bool) {pl : Int} {k : Nat} (hk : k ≤ 4) (hpl : pl = k) (q : Oq) (it : Addr) (tp : Nat) (rest : List DictEntry) (ef : Nat) (l : List Value) (p : Nat × Nat) (ls : List Value) (ep : Nat) (j jf : Int) (gq : List (Nat × Nat × Nat × Nat)) (eg : Nat)
    (hr : RestOk (parOf w.params b1 b2) rest ef) (hv : l[j.toNat]? = some (.int (p.1 : Int) p.2)) (hp : p.1 < k) (hz : gq.length ≤ 100)
    (R : ∀ q' ka kl a ta lt tl gq' eg', gq'.length = gq.length + 1 → VV w b1 b2 (cFa (parOf w.params b1 b2) q' it pl tp (restA (parOf w.params b1 b2) ka kl a ta lt tl) 7 l ls ep (j + 1) jf (k * (k - 1) / 2) gq' eg')) :
    VV w b1 b2 (cFa (parOf w.params b1 b2) q it pl tp rest ef l (.int (p.1 : Int) p.2 :: ls) ep j jf (k * (k - 1) / 2) gq eg) := by
  have hT := tri4 k p.1 hk hp
  have hidx : idxV (.int (p.1 : Int) p.2) = p.1 := rfl
  have hg : (prV gq).length + 2 ≤ 1000 := by rw [prV_len]; lia
  subst hpl
  have hc := abc_at _ hT
  have hC := ABC_at _ hT
  have ci : ((((k * (k - 1) / 2 : Nat)) : Int) + (p.1 : Int)).toNat = k * (k - 1) / 2 + p.1 := by lia
  rcases hr with ⟨rfl, rfl⟩ | ⟨ka, kl, a', ta', l', tl', rfl, rfl⟩
  · refine codeV (fun _ => rfl) 400 (fun n tk => H_faT0 _ q it k tp 0 l ls ep j jf (k * (k - 1) / 2) gq eg (p.1 : Int) p.2 (97 + (k * (k - 1) / 2 + p.1)) (65 + (k * (k - 1) / 2 + p.1)) ((k : Int) * ((k : Int) - 1)) n tk)
      (fun n tk => r_faT0 _ _ _ q it k tp 0 l ls ep j jf (k * (k - 1) / 2) gq eg (p.1 : Int) p.2 (97 + (k * (k - 1) / 2 + p.1)) (65 + (k * (k - 1) / 2 + p.1)) ((k : Int) * ((k : Int) - 1)) n tk) fun n tk =>
      ⟨cLNext_ok hv, fun z0 hz0 => ⟨cMul_ok (mul4 k hk) rfl, fun z1 hz1 => ⟨cFdiv_ok rfl (pdiv4 k hk) (div4 k hk), fun z2 hz2 => ⟨cStrAt_ok (by lia) (by lia) (by rw [ci]; exact hc), fun z3 hz3 => ⟨cStrAt_ok (by lia) (by lia) (by rw [ci]; exact hC), fun z4 hz4 => ⟨cIaddV_ok (by rw [prV_app]; rfl) (by simp) (by show (prV gq).length + 2 ≤ 1000; exact hg), fun z5 hz5 => ⟨R _ _ _ _ _ _ _ _ _ (by simp), fun z6 hz6 => fa_out rfl rfl rfl⟩⟩⟩⟩⟩⟩⟩
  · refine codeV (fun _ => rfl) 400 (fun n tk => H_faT _ q it k tp 0 l ls ep j jf (k * (k - 1) / 2) gq eg (p.1 : Int) p.2 (97 + (k * (k - 1) / 2 + p.1)) (65 + (k * (k - 1) / 2 + p.1)) ((k : Int) * ((k : Int) - 1)) ka kl a' ta' l' tl' n tk)
      (fun n tk => r_faT _ _ _ q it k tp 0 l ls ep j jf (k * (k - 1) / 2) gq eg (p.1 : Int) p.2 (97 + (k * (k - 1) / 2 + p.1)) (65 + (k * (k - 1) / 2 + p.1)) ((k : Int) * ((k : Int) - 1)) ka kl a' ta' l' tl' n tk) fun n tk =>
      ⟨cLNext_ok hv, fun z0 hz0 => ⟨cMul_ok (mul4 k hk) rfl, fun z1 hz1 => ⟨cFdiv_ok rfl (pdiv4 k hk) (div4 k hk), fun z2 hz2 => ⟨cStrAt_ok (by lia) (by lia) (by rw [ci]; exact hc), fun z3 hz3 => ⟨cStrAt_ok (by lia) (by lia) (by rw [ci]; exact hC), fun z4 hz4 => ⟨cIaddV_ok (by rw [prV_app]; rfl) (by simp) (by show (prV gq).length + 2 ≤ 1000; exact hg), fun z5 hz5 => ⟨R _ _ _ _ _ _ _ _ _ (by simp), fun z6 hz6 => fa_out rfl rfl rfl⟩⟩⟩⟩⟩⟩⟩
theorem fa_ok (w : World) (b1 b2 : Bool) {pl : Int} {k : Nat} (hk : k ≤ 4) (hpl : pl = k) (tp : Nat) (it : Addr) (l : List Value) (ep : Nat) (ls : List (Nat × Nat)) :
    ∀ (q : Oq) (rest : List DictEntry) (ef : Nat) (j : Nat) (j' jf : Int) (gq : List (Nat × Nat × Nat × Nat)) (eg : Nat), j' = j → RestOk (parOf w.params b1 b2) rest ef → l.drop j = iv ls → jf = j + ls.length → (∀ p ∈ ls, p.1 < k) → gq.length + ls.length ≤ 100 →
    VV w b1 b2 (cFa (parOf w.params b1 b2) q it pl tp rest ef l (iv ls) ep j' jf (k * (k - 1) / 2) gq eg) := by
  induction ls with
  | nil =>
    intro q rest ef j j' jf gq eg hj hr hl hjf hp hz
    have e : jf = j' := by rw [hjf, hj]; show (j : Int) + ((0 : Nat) : Int) = j; lia
    rw [e]
    have hn : l[j'.toNat]? = none := by
      rw [hj, Int.toNat_natCast, List.getElem?_eq_none_iff]
      exact List.drop_eq_nil_iff.mp hl
    refine codeV (fun _ => rfl) 400 (fun n tk => H_faE _ q it pl tp rest ef l ep j' (k * (k - 1) / 2) gq eg n tk) (fun n tk => r_faE _ _ _ q it pl tp rest ef l ep j' (k * (k - 1) / 2) gq eg n tk) fun n tk => ⟨cLEnd_ok hn, fun z0 hz0 => ?_⟩
    refine outE (fun _ => eg) fun sz tk => ⟨trivial, rfl, ?_, rfl, rfl⟩
    show [_, _, (q.ga, liO (prV (gq ++ [])) eg)] = _
    rw [List.append_nil]
    rfl
  | cons p ls ih =>
    intro q rest ef j j' jf gq eg hj hr hl hjf hp hz
    have hlt : j < l.length := by
      rcases Nat.lt_or_ge j l.length with q' | q'
      · exact q'
      · rw [List.drop_eq_nil_iff.mpr q'] at hl; cases hl
    have hd := List.drop_eq_getElem_cons hlt
    rw [hl] at hd
    injection hd with e1 e2
    rw [List.length_cons] at hz hjf
    have hv : l[j'.toNat]? = some (.int (p.1 : Int) p.2) := by rw [hj, Int.toNat_natCast, List.getElem?_eq_getElem hlt, ← e1]
    exact fa_turn w b1 b2 hk hpl q it tp rest ef l p (iv ls) ep j' jf gq eg hr hv (hp p (.head _)) (by lia) fun q' ka kl a ta lt tl gq' eg' hg => ih q' _ _ (j + 1) (j' + 1) jf gq' eg' (by lia) (.inr ⟨_, _, _, _, _, _, rfl, rfl⟩) e2.symm (by lia) (fun p' h' => hp p' (.tail _ h')) (by lia)
noncomputable def H_ol4k4 (r : List Nat) (k : Nat) (n : Nat) (z10 z11 : Nat → Nat) : HT := .go [9,0,9,9,9,9,21,0,1,5,1] (.cut (cColl 5 (n + 2) (prV (qw z10 20 k)) (z10 2)) fun z12 => .go [23,0,1] (.cut (cReplace [97, 98, 99, 100, 101, 102, 103, 104, 105, 106] (z11 1) (qw z10 20 k) r) fun z13 => .go [] (.nil { res := .ok (.ret (Value.str { cps := { toList := r } } (z13 2))), exp := [] })))
noncomputable def H_ol4k3 (P : Params) (m : Nat → Mk) (ma em : Nat) (sz : Int) (t : Nat) (lt : Nat → Nat → Bool) (r : List Nat) (k : Nat) (n tk : Nat) (z1 z2 z4 z5 z6 z7 z8 : Nat → Nat) : HT := .go [9,0,9,9,9,9,9,4,9,4,1,0,1] (.cut (cWh P (olq m ma em sz t n tk [.ref (m 0).x, .ref (m 1).x, .ref (m 2).x, .ref (m 3).x] 1 0) m (fun i => 4 + 8 * i) 3 (z8 1) (oR3 P lt z1 z4 z7 (tk + 8) (z2 1)) (oE3 lt (tk + 8) (z2 1)) ((oQ2 lt (tk + 8) (z2 1)) ++ [.int 2 (z5 1)]) (oQ3 lt (tk + 8) (z2 1) (z5 1)) (z6 2 + 1)) fun z9 => .go [1,3,3,0,3,17,1] (.cut (cFaX P (olq m ma em sz t n tk [.ref (m 0).x, .ref (m 1).x, .ref (m 2).x, .ref (m 3).x] 8 3) (z9 0) 3 (z8 1) (oR3 P lt z1 z4 z7 (tk + 8) (z2 1)) (oE3 lt (tk + 8) (z2 1)) (oQ3 lt (tk + 8) (z2 1) (z5 1)) (oQ3 lt (tk + 8) (z2 1) (z5 1)) (z9 2) 0 ((oQ3 lt (tk + 8) (z2 1) (z5 1)).length : Nat) 3 (oG3 lt z1 z4 z7 (tk + 8) (z2 1)) (z7 2) k) fun z10 => .go [1,3,3,3,3,1,1] (.cut (cApp 1 (n + 1) (oQ3 lt (tk + 8) (z2 1) (z5 1)) (z9 2) (.int 3 (z8 1))) fun z11 => (H_ol4k4 r k n z10 z11))))
noncomputable def H_ol4k2 (P : Params) (m : Nat → Mk) (ma em : Nat) (sz : Int) (t : Nat) (lt : Nat → Nat → Bool) (r : List Nat) (k : Nat) (n tk : Nat) (z1 z2 z3 z4 z5 : Nat → Nat) : HT := .go [9,0,9,9,9,9,9,4,9,4,1,0,1] (.cut (cWh P (olq m ma em sz t n tk [.ref (m 0).x, .ref (m 1).x, .ref (m 2).x, .ref (m 3).x] 1 0) m (fun i => 4 + 8 * i) 2 (z5 1) (oR2 P lt z1 z4 (tk + 8)) (oE2 lt (tk + 8)) ((oQ1 lt (tk + 8)) ++ [.int 1 (z2 1)]) (oQ2 lt (tk + 8) (z2 1)) (z3 2 + 1)) fun z6 => .go [1,3,3,0,3,15,1] (.cut (cFa P (olq m ma em sz t n tk [.ref (m 0).x, .ref (m 1).x, .ref (m 2).x, .ref (m 3).x] 7 3) (z6 0) 2 (z5 1) (oR2 P lt z1 z4 (tk + 8)) (oE2 lt (tk + 8)) (oQ2 lt (tk + 8) (z2 1)) (oQ2 lt (tk + 8) (z2 1)) (z6 2) 0 ((oQ2 lt (tk + 8) (z2 1)).length : Nat) 1 (oG2 lt z1 z4 (tk + 8)) (z4 2)) fun z7 => .go [1,3,3,3,3,1,1] (.cut (cApp 1 (n + 1) (oQ2 lt (tk + 8) (z2 1)) (z6 2) (.int 2 (z5 1))) fun z8 => (H_ol4k3 P m ma em sz t lt r k n tk z1 z2 z4 z5 z6 z7 z8))))
noncomputable def H_ol4k1 (P : Params) (m : Nat → Mk) (ma em : Nat) (sz : Int) (t : Nat) (lt : Nat → Nat → Bool) (r : List Nat) (k : Nat) (n tk : Nat) (z0 z1 z2 : Nat → Nat) : HT := .go [9,0,9,9,9,9,9,4,9,4,1,0,1] (.cut (cWh P (olq m ma em sz t n tk [.ref (m 0).x, .ref (m 1).x, .ref (m 2).x, .ref (m 3).x] 1 0) m (fun i => 4 + 8 * i) 1 (z2 1) (oR1 P lt z1 ) (oE1 lt ) ((oQ0 lt ) ++ [.int 0 (tk + 8)]) (oQ1 lt (tk + 8)) (z0 2 + 1)) fun z3 => .go [1,3,3,0,3,13,1] (.cut (cFa P (olq m ma em sz t n tk [.ref (m 0).x, .ref (m 1).x, .ref (m 2).x, .ref (m 3).x] 6 3) (z3 0) 1 (z2 1) (oR1 P lt z1 ) (oE1 lt ) (oQ1 lt (tk + 8)) (oQ1 lt (tk + 8)) (z3 2) 0 ((oQ1 lt (tk + 8)).length : Nat) 0 (oG1 lt z1 ) (z1 2)) fun z4 => .go [1,3,3,3,3,1,1] (.cut (cApp 1 (n + 1) (oQ1 lt (tk + 8)) (z3 2) (.int 1 (z2 1))) fun z5 => (H_ol4k2 P m ma em sz t lt r k n tk z1 z2 z3 z4 z5))))
noncomputable def H_ol4 (P : Params) (m : Nat → Mk) (ma em : Nat) (sz : Int) (t : Nat) (lt : Nat → Nat → Bool) (r : List Nat) (k : Nat) (n tk : Nat) : HT := .go [1,0,1,0,1,0,1,0,0,0,0,0,1,0,2,0,2,2,0,0,7,7,0,7,7,7,7,0,7,7,7,7,9,0,9,0,9,9,9,9,9,4,9,4,1,0,1] (.cut (cWh P (olq m ma em sz t n tk [.ref (m 0).x, .ref (m 1).x, .ref (m 2).x, .ref (m 3).x] 1 0) m (fun i => 4 + 8 * i) 0 (tk + 8) (oR0 P lt  ) (oE0 lt ) [] (oQ0 lt ) 0) fun z0 => .go [1,3,3,0,3,11,1] (.cut (cFa P (olq m ma em sz t n tk [.ref (m 0).x, .ref (m 1).x, .ref (m 2).x, .ref (m 3).x] 5 3) (z0 0) 0 (tk + 8) (oR0 P lt  ) (oE0 lt ) (oQ0 lt ) (oQ0 lt ) (z0 2) 0 ((oQ0 lt ).length : Nat) 0 (oG0 lt  ) 0) fun z1 => .go [1,3,3,3,3,1,1] (.cut (cApp 1 (n + 1) (oQ0 lt ) (z0 2) (.int 0 (tk + 8))) fun z2 => (H_ol4k1 P m ma em sz t lt r k n tk z0 z1 z2))))
theorem r_ol4 (P : Params) (b1 b2 : Bool) (m : Nat → Mk) (ma em : Nat) (sz : Int) (t : Nat) (lt : Nat → Nat → Bool) (r : List Nat) (n tk : Nat) : ∀ k, k ≤ 6 → (RunF (parOf P b1 b2) (cOl (parOf P b1 b2) m (fun i => 4 + 8 * i) 2 ma [.ref (m 0).x, .ref (m 1).x, .ref (m 2).x, .ref (m 3).x] em sz t r) 150 fd150 [.ref ma, .int sz t] 900 (H_ol4 (parOf P b1 b2) m ma em sz t lt r k n tk) n tk).Ok
  | 0, _ => by cases b1 <;> (show OT.l _ = OT.r _; kernel_rfl)
  | 1, _ => by cases b1 <;> (show OT.l _ = OT.r _; kernel_rfl)
  | 2, _ => by cases b1 <;> (show OT.l _ = OT.r _; kernel_rfl)
  | 3, _ => by cases b1 <;> (show OT.l _ = OT.r _; kernel_rfl)
  | 4, _ => by cases b1 <;> (show OT.l _ = OT.r _; kernel_rfl)
  | 5, _ => by cases b1 <;> (show OT.l _ = OT.r _; kernel_rfl)
  | 6, _ => by cases b1 <;> (show OT.l _ = OT.r _; kernel_rfl)
  | k + 7, h => absurd h (by lia)
noncomputable def H_ol5k5 (r : List Nat) (k : Nat) (n : Nat) (z13 z14 : Nat → Nat) : HT := .go [9,0,9,9,9,9,23,0,1,5,1] (.cut (cColl 5 (n + 2) (prV (qw z13 20 k)) (z13 2)) fun z15 => .go [25,0,1] (.cut (cReplace [97, 98, 99, 100, 101, 102, 103, 104, 105, 106] (z14 1) (qw z13 20 k) r) fun z16 => .go [] (.nil { res := .ok (.ret (Value.str { cps := { toList := r } } (z16 2))), exp := [] })))
noncomputable def H_ol5k4 (P : Params) (m : Nat → Mk) (ma em : Nat) (sz : Int) (t : Nat) (lt : Nat → Nat → Bool) (r : List Nat) (k : Nat) (n tk : Nat) (z1 z2 z4 z5 z7 z8 z9 z10 z11 : Nat → Nat) : HT := .go [9,0,9,9,9,9,9,4,9,4,1,0,1] (.cut (cWh P (olq m ma em sz t n tk [.ref (m 0).x, .ref (m 1).x, .ref (m 2).x, .ref (m 3).x, .ref (m 4).x] 1 0) m (fun i => 4 + 8 * i) 4 (z11 1) (oR4 P lt z1 z4 z7 z10 (tk + 8) (z2 1) (z5 1)) (oE4 lt (tk + 8) (z2 1) (z5 1)) ((oQ3 lt (tk + 8) (z2 1) (z5 1)) ++ [.int 3 (z8 1)]) (oQ4 lt (tk + 8) (z2 1) (z5 1) (z8 1)) (z9 2 + 1)) fun z12 => .go [1,3,3,0,3,19,1] (.cut (cFaX P (olq m ma em sz t n tk [.ref (m 0).x, .ref (m 1).x, .ref (m 2).x, .ref (m 3).x, .ref (m 4).x] 9 3) (z12 0) 4 (z11 1) (oR4 P lt z1 z4 z7 z10 (tk + 8) (z2 1) (z5 1)) (oE4 lt (tk + 8) (z2 1) (z5 1)) (oQ4 lt (tk + 8) (z2 1) (z5 1) (z8 1)) (oQ4 lt (tk + 8) (z2 1) (z5 1) (z8 1)) (z12 2) 0 ((oQ4 lt (tk + 8) (z2 1) (z5 1) (z8 1)).length : Nat) 6 (oG4 lt z1 z4 z7 z10 (tk + 8) (z2 1) (z5 1)) (z10 2) k) fun z13 => .go [1,3,3,3,3,1,1] (.cut (cApp 1 (n + 1) (oQ4 lt (tk + 8) (z2 1) (z5 1) (z8 1)) (z12 2) (.int 4 (z11 1))) fun z14 => (H_ol5k5 r k n z13 z14))))
noncomputable def H_ol5k3 (P : Params) (m : Nat → Mk) (ma em : Nat) (sz : Int) (t : Nat) (lt : Nat → Nat → Bool) (r : List Nat) (k : Nat) (n tk : Nat) (z1 z2 z4 z5 z6 z7 z8 : Nat → Nat) : HT := .go [9,0,9,9,9,9,9,4,9,4,1,0,1] (.cut (cWh P (olq m ma em sz t n tk [.ref (m 0).x, .ref (m 1).x, .ref (m 2).x, .ref (m 3).x, .ref (m 4).x] 1 0) m (fun i => 4 + 8 * i) 3 (z8 1) (oR3 P lt z1 z4 z7 (tk + 8) (z2 1)) (oE3 lt (tk + 8) (z2 1)) ((oQ2 lt (tk + 8) (z2 1)) ++ [.int 2 (z5 1)]) (oQ3 lt (tk + 8) (z2 1) (z5 1)) (z6 2 + 1)) fun z9 => .go [1,3,3,0,3,17,1] (.cut (cFa P (olq m ma em sz t n tk [.ref (m 0).x, .ref (m 1).x, .ref (m 2).x, .ref (m 3).x, .ref (m 4).x] 8 3) (z9 0) 3 (z8 1) (oR3 P lt z1 z4 z7 (tk + 8) (z2 1)) (oE3 lt (tk + 8) (z2 1)) (oQ3 lt (tk + 8) (z2 1) (z5 1)) (oQ3 lt (tk + 8) (z2 1) (z5 1)) (z9 2) 0 ((oQ3 lt (tk + 8) (z2 1) (z5 1)).length : Nat) 3 (oG3 lt z1 z4 z7 (tk + 8) (z2 1)) (z7 2)) fun z10 => .go [1,3,3,3,3,1,1] (.cut (cApp 1 (n + 1) (oQ3 lt (tk + 8) (z2 1) (z5 1)) (z9 2) (.int 3 (z8 1))) fun z11 => (H_ol5k4 P m ma em sz t lt r k n tk z1 z2 z4 z5 z7 z8 z9 z10 z11))))
noncomputable def H_ol5k2 (P : Params) (m : Nat → Mk) (ma em : Nat) (sz : Int) (t : Nat) (lt : Nat → Nat → Bool) (r : List Nat) (k : Nat) (n tk : Nat) (z1 z2 z3 z4 z5 : Nat → Nat) : HT := .go [9,0,9,9,9,9,9,4,9,4,1,0,1] (.cut (cWh P (olq m ma em sz t n tk [.ref (m 0).x, .ref (m 1).x, .ref (m 2).x, .ref (m 3).x, .ref (m 4).x] 1 0) m (fun i => 4 + 8 * i) 2 (z5 1) (oR2 P lt z1 z4 (tk + 8)) (oE2 lt (tk + 8)) ((oQ1 lt (tk + 8)) ++ [.int 1 (z2 1)]) (oQ2 lt (tk + 8) (z2 1)) (z3 2 + 1)) fun z6 => .go [1,3,3,0,3,15,1] (.cut (cFa P (olq m ma em sz t n tk [.ref (m 0).x, .ref (m 1).x, .ref (m 2).x, .ref (m 3).x, .ref (m 4).x] 7 3) (z6 0) 2 (z5 1) (oR2 P lt z1 z4 (tk + 8)) (oE2 lt (tk + 8)) (oQ2 lt (tk + 8) (z2 1)) (oQ2 lt (tk + 8) (z2 1)) (z6 2) 0 ((oQ2 lt (tk + 8) (z2 1)).length : Nat) 1 (oG2 lt z1 z4 (tk + 8)) (z4 2)) fun z7 => .go [1,3,3,3,3,1,1] (.cut (cApp 1 (n + 1) (oQ2 lt (tk + 8) (z2 1)) (z6 2) (.int 2 (z5 1))) fun z8 => (H_ol5k3 P m ma em sz t lt r k n tk z1 z2 z4 z5 z6 z7 z8))))
noncomputable def H_ol5k1 (P : Params) (m : Nat → Mk) (ma em : Nat) (sz : Int) (t : Nat) (lt : Nat → Nat → Bool) (r : List Nat) (k : Nat) (n tk : Nat) (z0 z1 z2 : Nat → Nat) : HT := .go [9,0,9,9,9,9,9,4,9,4,1,0,1] (.cut (cWh P (olq m ma em sz t n tk [.ref (m 0).x, .ref (m 1).x, .ref (m 2).x, .ref (m 3).x, .ref (m 4).x] 1 0) m (fun i => 4 + 8 * i) 1 (z2 1) (oR1 P lt z1 ) (oE1 lt ) ((oQ0 lt ) ++ [.int 0 (tk + 8)]) (oQ1 lt (tk + 8)) (z0 2 + 1)) fun z3 => .go [1,3,3,0,3,13,1] (.cut (cFa P (olq m ma em sz t n tk [.ref (m 0).x, .ref (m 1).x, .ref (m 2).x, .ref (m 3).x, .ref (m 4).x] 6 3) (z3 0) 1 (z2 1) (oR1 P lt z1 ) (oE1 lt ) (oQ1 lt (tk + 8)) (oQ1 lt (tk + 8)) (z3 2) 0 ((oQ1 lt (tk + 8)).length : Nat) 0 (oG1 lt z1 ) (z1 2)) fun z4 => .go [1,3,3,3,3,1,1] (.cut (cApp 1 (n + 1) (oQ1 lt (tk + 8)) (z3 2) (.int 1 (z2 1))) fun z5 => (H_ol5k2 P m ma em sz t lt r k n tk z1 z2 z3 z4 z5))))
noncomputable def H_ol5 (P : Params) (m : Nat → Mk) (ma em : Nat) (sz : Int) (t : Nat) (lt : Nat → Nat → Bool) (r : List Nat) (k : Nat) (n tk : Nat) : HT := .go [1,0,1,0,1,0,1,0,0,0,0,0,1,0,2,0,2,2,0,0,7,7,0,7,7,7,7,0,7,7,7,7,9,0,9,0,9,9,9,9,9,4,9,4,1,0,1] (.cut (cWh P (olq m ma em sz t n tk [.ref (m 0).x, .ref (m 1).x, .ref (m 2).x, .ref (m 3).x, .ref (m 4).x] 1 0) m (fun i => 4 + 8 * i) 0 (tk + 8) (oR0 P lt  ) (oE0 lt ) [] (oQ0 lt ) 0) fun z0 => .go [1,3,3,0,3,11,1] (.cut (cFa P (olq m ma em sz t n tk [.ref (m 0).x, .ref (m 1).x, .ref (m 2).x, .ref (m 3).x, .ref (m 4).x] 5 3) (z0 0) 0 (tk + 8) (oR0 P lt  ) (oE0 lt ) (oQ0 lt ) (oQ0 lt ) (z0 2) 0 ((oQ0 lt ).length : Nat) 0 (oG0 lt  ) 0) fun z1 => .go [1,3,3,3,3,1,1] (.cut (cApp 1 (n + 1) (oQ0 lt ) (z0 2) (.int 0 (tk + 8))) fun z2 => (H_ol5k1 P m ma em sz t lt r k n tk z0 z1 z2))))
theorem r_ol5 (P : Params) (b1 b2 : Bool) (m : Nat → Mk) (ma em : Nat) (sz : Int) (t : Nat) (lt : Nat → Nat → Bool) (r : List Nat) (n tk : Nat) : ∀ k, k ≤ 10 → (RunF (parOf P b1 b2) (cOl (parOf P b1 b2) m (fun i => 4 + 8 * i) 2 ma [.ref (m 0).x, .ref (m 1).x, .ref (m 2).x, .ref (m 3).x, .ref (m 4).x] em sz t r) 150 fd150 [.ref ma, .int sz t] 900 (H_ol5 (parOf P b1 b2) m ma em sz t lt r k n tk) n tk).Ok
  | 0, _ => by cases b1 <;> (show OT.l _ = OT.r _; kernel_rfl)
  | 1, _ => by cases b1 <;> (show OT.l _ = OT.r _; kernel_rfl)
  | 2, _ => by cases b1 <;> (show OT.l _ = OT.r _; kernel_rfl)
  | 3, _ => by cases b1 <;> (show OT.l _ = OT.r _; kernel_rfl)
  | 4, _ => by cases b1 <;> (show OT.l _ = OT.r _; kernel_rfl)
  | 5, _ => by cases b1 <;> (show OT.l _ = OT.r _; kernel_rfl)
  | 6, _ => by cases b1 <;> (show OT.l _ = OT.r _; kernel_rfl)
  | 7, _ => by cases b1 <;> (show OT.l _ = OT.r _; kernel_rfl)
  | 8, _ => by cases b1 <;> (show OT.l _ = OT.r _; kernel_rfl)
  | 9, _ => by cases b1 <;> (show OT.l _ = OT.r _; kernel_rfl)
  | 10, _ => by cases b1 <;> (show OT.l _ = OT.r _; kernel_rfl)
  | k + 11, h => absurd h (by lia)
theorem Valid_conseq {prog : Program} {w : World} {kt : KT} {C C' : Ctr} (h : C.Valid prog w kt) (hc : C'.code = C.code) (hr : C'.room = C.room) (hd : C'.reads = C.reads) (hm : C'.mus = C.mus)
    (H : ∀ x, C.post x → ∃ x', C'.post x' ∧ C'.upd x' = C.upd x ∧ C'.newO x' = C.newO x ∧ C'.new x' = C.new x ∧ C'.res x' = C.res x ∧ x' 0 = x 0 ∧ x' 1 = x 1) : C'.Valid prog w kt := by
  intro A R s ha hA hk hrd hmu hnd K
  rw [hc]
  rw [hr] at ha
  rw [hd] at hrd
  rw [hm] at hmu hnd
  rw [hm] at hrd
  refine h A R s ha hA hk hrd hmu hnd fun x h' hp haf hs => ?_
  obtain ⟨x', p1, p2, p3, p4, p5, p6, p7⟩ := H x hp
  have := K x' h' p1 (by rw [hm, p2, p3, p4]; exact haf) (by rw [p6]; exact hs)
  rw [p5, p7] at this
  exact this
noncomputable def flq : List (Nat × Nat × Nat × Nat) → List Nat
  | [] => []
  | (a, b, c, d) :: l => a :: b :: c :: d :: flq l
theorem qw_fl (y : Nat → Nat) : ∀ (G : List (Nat × Nat × Nat × Nat)) (o : Nat), (∀ i, i < (flq G).length → y (o + i) = (flq G).getD i 0) → qw y o G.length = G
  | [], _, _ => rfl
  | (a, b, c, d) :: l, o, h => by
    have h0 := h 0 (by simp [flq])
    have h1 := h 1 (by simp [flq])
    have h2 := h 2 (by simp [flq])
    have h3 := h 3 (by simp [flq])
    have hl := qw_fl y l (o + 4) fun i hi => by
      have := h (i + 4) (by simp [flq]; lia)
      rw [show o + 4 + i = o + (i + 4) by lia, this]
      simp [flq]
    simp [flq] at h0 h1 h2 h3
    show (y o, y (o + 1), y (o + 2), y (o + 3)) :: qw y (o + 4) l.length = _
    rw [hl, h0, h1, h2, h3]
theorem chq_qd (d : Nat) : ∀ (L : List Value) (ts : List Nat), ts.length = 2 * L.length → chq (qdV d L ts) = L.map fun v => (97 + (d + idxV v), 65 + (d + idxV v))
  | [], ts, _ => by
    cases ts <;> rfl
  | v :: L, [], h => by simp at h
  | v :: L, [t], h => by simp at h; lia
  | v :: L, t :: u :: ts, h => by
    have := chq_qd d L ts (by simp at h; lia)
    show (97 + (d + idxV v), 65 + (d + idxV v)) :: chq (qdV d L ts) = _
    rw [this]; rfl
theorem qd_len (d : Nat) (L : List Value) (ts : List Nat) (h : ts.length = 2 * L.length) : (qdV d L ts).length = L.length := by
  have := congrArg List.length (chq_qd d L ts h)
  simpa [chq] using this
theorem fax_ok {w : World} {b1 b2 : Bool} {q : Oq} {it : Addr} {pl : Int} {tp : Nat} {rest : List DictEntry} {ef : Nat} {l ls : List Value} {ep : Nat} {j jf : Int} {d : Nat} {gq : List (Nat × Nat × Nat × Nat)} {eg k : Nat} (hk : gq.length + ls.length = k)
    (h : VV w b1 b2 (cFa (parOf w.params b1 b2) q it pl tp rest ef l ls ep j jf d gq eg)) : VV w b1 b2 (cFaX (parOf w.params b1 b2) q it pl tp rest ef l ls ep j jf d gq eg k) := by
  refine Valid_conseq h rfl rfl rfl rfl fun x _ => ?_
  have hl : (gq ++ qdV d ls (lsO 20 x (2 * ls.length))).length = k := by rw [List.length_append, qd_len _ _ _ (lsO_len ..), hk]
  have e : qw (mkO 20 x (flq (gq ++ qdV d ls (lsO 20 x (2 * ls.length))))) 20 k = gq ++ qdV d ls (lsO 20 x (2 * ls.length)) := by
    rw [← hl]
    refine qw_fl _ _ _ fun i hi => ?_
    unfold mkO
    rw [if_neg (by lia), show 20 + i - 20 = i by lia]
  refine ⟨mkO 20 x (flq (gq ++ qdV d ls (lsO 20 x (2 * ls.length)))), ?_, ?_, rfl, rfl, rfl, rfl, rfl⟩
  · show chq (qw _ 20 k) = _
    rw [e]
    unfold chq
    rw [List.map_append]
    have := chq_qd d ls (lsO 20 x (2 * ls.length)) (lsO_len ..)
    unfold chq at this
    rw [this]
  · show [_, _, liO (prV (qw _ 20 k)) _] = _
    rw [e]
    cases ls <;> rfl
/-! the words -/
noncomputable def wordB (S : List Nat) : List Nat := (List.range 10).map fun i => if i ∈ S then 65 + i else 97 + i
theorem word_at (S : List Nat) (i : Nat) (hi : i < 10) (hS : i ∉ S) : ∃ l1 l2, wordB S = l1 ++ (97 + i) :: l2 ∧ 97 + i ∉ l1 ∧ 97 + i ∉ l2 := by
  have hlen : i < (wordB S).length := by simp [wordB]; exact hi
  have hd := List.drop_eq_getElem_cons hlen
  have hg : (wordB S)[i] = 97 + i := by simp [wordB, hS]
  refine ⟨(wordB S).take i, (wordB S).drop (i + 1), ?_, ?_, ?_⟩
  · rw [← hg, ← hd, List.take_append_drop]
  · intro hm
    obtain ⟨j, hj, e⟩ := List.getElem_of_mem hm
    simp only [List.length_take, List.getElem_take] at hj e
    simp only [wordB, List.getElem_map, List.getElem_range] at e
    split at e <;> lia
  · intro hm
    obtain ⟨j, hj, e⟩ := List.getElem_of_mem hm
    simp only [List.length_drop, List.getElem_drop] at hj e
    have : (wordB S).length = 10 := by simp [wordB]
    simp only [wordB, List.getElem_map, List.getElem_range] at e
    split at e <;> lia
theorem word_up (S : List Nat) (i : Nat) (hi : i < 10) : (wordB S).map (fun c => if c = 97 + i then 65 + i else c) = wordB (i :: S) := by
  unfold wordB
  rw [List.map_map]
  apply List.map_congr_left
  intro j hj
  have hj' : j < 10 := by simpa using hj
  show (if (if j ∈ S then 65 + j else 97 + j) = 97 + i then 65 + i else (if j ∈ S then 65 + j else 97 + j)) = _
  by_cases hij : j = i
  · subst hij
    rw [if_pos (List.mem_cons_self ..)]
    split <;> split <;> lia
  · have : (j ∈ i :: S) ↔ j ∈ S := by simp [hij]
    by_cases hS : j ∈ S
    · rw [if_pos hS, if_pos (this.mpr hS), if_neg (by lia)]
    · rw [if_neg hS, if_neg (fun q => hS (this.mp q)), if_neg (by lia)]
theorem word_rep : ∀ (G : List Nat) (Q : List (Nat × Nat × Nat × Nat)) (S : List Nat), chq Q = G.map (fun i => (97 + i, 65 + i)) → G.Nodup → (∀ i ∈ G, i < 10 ∧ i ∉ S) → RepOk Q (wordB S) ∧ replF Q (wordB S) = wordB (G.reverse ++ S)
  | [], [], S, _, _, _ => ⟨trivial, rfl⟩
  | [], q :: Q, S, h, _, _ => by cases h
  | i :: G, [], S, h, _, _ => by cases h
  | i :: G, (x, a, X, b) :: Q, S, h, hn, hG => by
    have h' : (x, X) :: chq Q = (97 + i, 65 + i) :: G.map (fun i => (97 + i, 65 + i)) := h
    injection h' with h1 h2
    injection h1 with hx hX
    subst hx hX
    rw [List.nodup_cons] at hn
    obtain ⟨hi, hiS⟩ := hG i (.head _)
    obtain ⟨r1, r2⟩ := word_rep G Q (i :: S) h2 hn.2 fun j hj => ⟨(hG j (.tail _ hj)).1, fun q => by
      rcases List.mem_cons.mp q with rfl | q
      · exact hn.1 hj
      · exact (hG j (.tail _ hj)).2 q⟩
    refine ⟨⟨word_at S i hi hiS, ?_⟩, ?_⟩
    · show RepOk Q ((wordB S).map fun c => if c = 97 + i then 65 + i else c)
      rw [word_up S i hi]; exact r1
    · show replF Q ((wordB S).map fun c => if c = 97 + i then 65 + i else c) = _
      rw [word_up S i hi, r2, List.reverse_cons, List.append_assoc]; rfl
theorem wordB_congr {S T : List Nat} (h : ∀ i, i < 10 → (i ∈ S ↔ i ∈ T)) : wordB S = wordB T := by
  unfold wordB
  apply List.map_congr_left
  intro j hj
  have := h j (by simpa using hj)
  by_cases q : j ∈ S
  · rw [if_pos q, if_pos (this.mp q)]
  · rw [if_neg q, if_neg (fun z => q (this.mpr z))]
theorem word_nil : wordB [] = [97, 98, 99, 100, 101, 102, 103, 104, 105, 106] := by decide
noncomputable def qN (lt : Nat → Nat → Bool) : Nat → List Nat
  | 0 => popN (fun i => lt i 0) []
  | k + 1 => popN (fun i => lt i (k + 1)) (qN lt k ++ [k])
noncomputable def gN (lt : Nat → Nat → Bool) : Nat → List Nat
  | 0 => []
  | k + 1 => gN lt k ++ (qN lt k).map (k * (k - 1) / 2 + ·)
theorem popN_sub (f : Nat → Bool) (l : List Nat) : List.Sublist (popN f l) l := by
  unfold popN
  have := (List.dropWhile_sublist (fun i => !f i) (l := l.reverse)).reverse
  rwa [List.reverse_reverse] at this
theorem qN_sub (lt : Nat → Nat → Bool) : ∀ k, List.Sublist (qN lt k) (List.range k)
  | 0 => popN_sub _ _
  | k + 1 => by
    refine (popN_sub _ _).trans ?_
    rw [List.range_succ]
    exact (qN_sub lt k).append_right _
theorem qN_lt {lt : Nat → Nat → Bool} {k i : Nat} (h : i ∈ qN lt k) : i < k := by
  have := (qN_sub lt k).subset h
  simpa using this
theorem gN_sub5 (lt : Nat → Nat → Bool) : List.Sublist (gN lt 5) (List.range 10) := by
  have h : ∀ k, List.Sublist ((qN lt k).map (k * (k - 1) / 2 + ·)) ((List.range k).map (k * (k - 1) / 2 + ·)) := fun k => (qN_sub lt k).map _
  have e : List.range 10 = (((([] ++ (List.range 0).map (0 * (0 - 1) / 2 + ·)) ++ (List.range 1).map (1 * (1 - 1) / 2 + ·)) ++ (List.range 2).map (2 * (2 - 1) / 2 + ·)) ++ (List.range 3).map (3 * (3 - 1) / 2 + ·)) ++ (List.range 4).map (4 * (4 - 1) / 2 + ·) := by decide
  rw [e]
  exact ((((List.Sublist.refl []).append (h 0)).append (h 1)).append (h 2)).append (h 3) |>.append (h 4)
theorem gN_sub4 (lt : Nat → Nat → Bool) : List.Sublist (gN lt 4) (List.range 6) := by
  have h : ∀ k, List.Sublist ((qN lt k).map (k * (k - 1) / 2 + ·)) ((List.range k).map (k * (k - 1) / 2 + ·)) := fun k => (qN_sub lt k).map _
  have e : List.range 6 = ((([] ++ (List.range 0).map (0 * (0 - 1) / 2 + ·)) ++ (List.range 1).map (1 * (1 - 1) / 2 + ·)) ++ (List.range 2).map (2 * (2 - 1) / 2 + ·)) ++ (List.range 3).map (3 * (3 - 1) / 2 + ·) := by decide
  rw [e]
  exact (((List.Sublist.refl []).append (h 0)).append (h 1)).append (h 2) |>.append (h 3)
theorem ivok_map {L : List Value} {I : List Nat} (h : IvOk L I) (d : Nat) : (L.map fun v => (97 + (d + idxV v), 65 + (d + idxV v))) = (I.map (d + ·)).map fun i => (97 + i, 65 + i) := by
  obtain ⟨l, rfl, rfl⟩ := h
  simp only [iv, List.map_map]
  rfl
theorem ivok_len {L : List Value} {I : List Nat} (h : IvOk L I) : L.length = I.length := by
  obtain ⟨l, rfl, rfl⟩ := h
  simp [iv]
theorem chq_app (a b : List (Nat × Nat × Nat × Nat)) : chq (a ++ b) = chq a ++ chq b := by simp [chq]
theorem chq_len (a : List (Nat × Nat × Nat × Nat)) : (chq a).length = a.length := by simp [chq]
theorem g_next {lt : Nat → Nat → Bool} {k : Nat} {G : List (Nat × Nat × Nat × Nat)} {L : List Value} {d : Nat} {y : Nat → Nat} (hd : d = k * (k - 1) / 2) (hG : chq G = (gN lt k).map fun i => (97 + i, 65 + i)) (hL : IvOk L (qN lt k)) :
    chq (G ++ qdV d L (lsO 20 y (2 * L.length))) = (gN lt (k + 1)).map fun i => (97 + i, 65 + i) := by
  subst hd
  rw [chq_app, chq_qd _ _ _ (lsO_len ..), ivok_map hL, hG]
  rw [show gN lt (k + 1) = gN lt k ++ (qN lt k).map (k * (k - 1) / 2 + ·) from rfl, List.map_append]
theorem wh_st (w : World) (b1 b2 : Bool) {m : Nat → Mk} {pl : Int} {k s : Nat} (hk : k ≤ 4) (hpl : pl = k) (hs : s ≤ 3) (hm : ∀ i, i ≤ 4 → MkOk (m i)) {tp : Nat} {rest : List DictEntry} {ef : Nat} {q : Oq} {hm' : Nat → Nat} {ep : Nat} {L r : List Value} {I : List Nat} (hI : IvOk L I) (hi : ∀ i ∈ I, i < k) (hz : I.length ≤ 100) (hsz : q.sz = s) (hml : ∀ i, i ≤ k → q.ml[i]? = some (.ref (m i).x))
    (hr : r = popV (fun i => aboveV s (m i) (m k)) L) : VV w b1 b2 (cWh (parOf w.params b1 b2) q m hm' pl tp rest ef L r ep) := by
  subst hr
  obtain ⟨l, rfl, rfl⟩ := hI
  exact wh_ok w b1 b2 hk hpl hs hm tp rest ef l q hm' ep hsz (hml k (Nat.le_refl _)) (fun p hp => by
    have := hi p.1 (List.mem_map_of_mem hp)
    exact ⟨by lia, hml p.1 (by lia)⟩) (by simpa using hz)
theorem fa_st (w : World) (b1 b2 : Bool) {pl : Int} {k : Nat} (hk : k ≤ 4) (hpl : pl = k) {tp : Nat} {it : Addr} {L : List Value} {I : List Nat} {ep : Nat} {q : Oq} {rest : List DictEntry} {ef : Nat} {jf : Int} {gq : List (Nat × Nat × Nat × Nat)} {eg d : Nat} (hI : IvOk L I) (hi : ∀ i ∈ I, i < k) (hz : I.length ≤ 50) (hr : RestOk (parOf w.params b1 b2) rest ef) (hjf : jf = (L.length : Nat)) (hg : gq.length ≤ 50) (hd : d = k * (k - 1) / 2) :
    VV w b1 b2 (cFa (parOf w.params b1 b2) q it pl tp rest ef L L ep 0 jf d gq eg) := by
  subst hd
  obtain ⟨l, rfl, rfl⟩ := hI
  rw [List.length_map] at hz
  exact fa_ok w b1 b2 hk hpl tp it (iv l) ep l q rest ef 0 0 jf gq eg rfl hr rfl (by rw [hjf, iv_len]; lia) (fun p hp => hi p.1 (List.mem_map_of_mem hp)) (by lia)
theorem fn150 (P : Params) : FnAt (kt P) 150 fd150 (dBody (stm 17)) := ⟨⟨fnO fd150, by kernel_rfl!, rfl⟩, by kernel_rfl!, by kernel_rfl!, by kernel_rfl!, ⟨149, o149, _, 393, by kernel_rfl!, by kernel_rfl!, rfl, by kernel_rfl!⟩, by kernel_rfl!⟩
theorem cols_any {w : World} {b1 b2 : Bool} {m : Nat → Mk} {hm hm' : Nat → Nat} {h h' : Nat} {ma : Addr} {ml : List Value} {em : Nat} {sz : Int} {t : Nat} {r : List Nat} (z : VV w b1 b2 (cOl (parOf w.params b1 b2) m hm h ma ml em sz t r)) : VV w b1 b2 (cOl (parOf w.params b1 b2) m hm' h' ma ml em sz t r) :=
  Valid_more (rd := (h', (ma, liO ml em)) :: rdM (parOf w.params b1 b2) m hm') z rfl fun e he => by
    rcases List.mem_cons.mp he with rfl | he
    · exact ⟨_, .head _, rfl⟩
    · obtain ⟨e', q1, q2⟩ := mem_map2 (l := rdM (parOf w.params b1 b2) m hm) (l' := rdM (parOf w.params b1 b2) m hm') rfl he
      exact ⟨e', .tail _ q1, q2⟩
theorem qw_len (y : Nat → Nat) : ∀ k o, (qw y o k).length = k
  | 0, _ => rfl
  | k + 1, o => by
    show (qw y (o + 4) k).length + 1 = _
    rw [qw_len y k]
section
variable {w : World} {b1 b2 : Bool} {m : Nat → Mk} {s : Nat}
theorem lenQ (lt : Nat → Nat → Bool) (k : Nat) (hk : k ≤ 4) : (qN lt k).length ≤ 4 := by
  have := (qN_sub lt k).length_le
  rw [List.length_range] at this; lia
theorem lenG (lt : Nat → Nat → Bool) (k : Nat) (hk : k ≤ 5) {G : List (Nat × Nat × Nat × Nat)} (h : chq G = (gN lt k).map fun i => (97 + i, 65 + i)) : G.length ≤ 20 := by
  rw [← chq_len, h, List.length_map]
  have g : ∀ k, k ≤ 5 → (gN lt k).length ≤ 4 * k := fun k hk => by
    induction k with
    | zero => exact Nat.le_refl _
    | succ k ih =>
      unfold gN
      rw [List.length_append, List.length_map]
      have a := ih (by lia)
      have b := lenQ lt k (by lia)
      lia
  have := g k hk
  lia
theorem ol4_ok (hm : ∀ i, i ≤ 4 → MkOk (m i)) (hs : s ≤ 3) {ma em t : Nat} {hm' : Nat → Nat} {h : Nat} :
    VV w b1 b2 (cOl (parOf w.params b1 b2) m hm' h ma [.ref (m 0).x, .ref (m 1).x, .ref (m 2).x, .ref (m 3).x] em s t (wordB (gN (fun i j => aboveV s (m i) (m j)) 4))) := by
  refine cols_any (hm := fun i => 4 + 8 * i) (h := 2) ?_
  generalize hlt : (fun i j => aboveV s (m i) (m j)) = lt
  have hsub := gN_sub4 lt
  have hK : (gN lt 4).length ≤ 6 := by simpa using hsub.length_le
  have hR : ∀ Q : List (Nat × Nat × Nat × Nat), chq Q = (gN lt 4).map (fun i => (97 + i, 65 + i)) → RepOk Q [97, 98, 99, 100, 101, 102, 103, 104, 105, 106] ∧ replF Q [97, 98, 99, 100, 101, 102, 103, 104, 105, 106] = wordB (gN lt 4) := fun Q hQ => by
    obtain ⟨a, b⟩ := word_rep (gN lt 4) Q [] hQ (hsub.nodup List.nodup_range) fun i hi => ⟨by have := hsub.subset hi; simp at this; lia, List.not_mem_nil⟩
    rw [word_nil] at a b
    exact ⟨a, by rw [b]; exact wordB_congr fun i _ => by simp⟩
  have ml : ∀ q : Oq, q.ml = [.ref (m 0).x, .ref (m 1).x, .ref (m 2).x, .ref (m 3).x] → ∀ k, k ≤ 3 → ∀ i, i ≤ k → q.ml[i]? = some (.ref (m i).x) := fun q hq k hk i hi => by
    have : i = 0 ∨ i = 1 ∨ i = 2 ∨ i = 3 := by lia
    rcases this with rfl | rfl | rfl | rfl <;> rw [hq] <;> rfl
  have il : ∀ k, ∀ i ∈ qN lt k, i < k := fun k i hi => qN_lt hi
  have Q0 : IvOk (oQ0 lt) (qN lt 0) := ivok_pop ivok_nil _
  have Q1 : ∀ t0, IvOk (oQ1 lt t0) (qN lt 1) := fun t0 => ivok_pop (ivok_app Q0 0 t0) _
  have Q2 : ∀ t0 t1, IvOk (oQ2 lt t0 t1) (qN lt 2) := fun t0 t1 => ivok_pop (ivok_app (Q1 t0) 1 t1) _
  have Q3 : ∀ t0 t1 t2, IvOk (oQ3 lt t0 t1 t2) (qN lt 3) := fun t0 t1 t2 => ivok_pop (ivok_app (Q2 t0 t1) 2 t2) _
  have pi : ∀ k, ∀ i ∈ qN lt k ++ [k], i < k + 1 := fun k i hi => by
    rcases List.mem_append.mp hi with hi | hi
    · exact Nat.lt_succ_of_lt (il k i hi)
    · rw [List.mem_singleton.mp hi]; exact Nat.lt_succ_self _
  have pz : ∀ k, k ≤ 4 → (qN lt k ++ [k]).length ≤ 100 := fun k hk => by
    rw [List.length_append]
    have := lenQ lt k hk
    show _ + 1 ≤ 100; lia
  have R0 : RestOk (parOf w.params b1 b2) (oR0 (parOf w.params b1 b2) lt) (oE0 lt) := .inl ⟨rfl, rfl⟩
  have R1 : ∀ y0, RestOk (parOf w.params b1 b2) (oR1 (parOf w.params b1 b2) lt y0) (oE1 lt) := fun y0 => restOk_next R0 _ _
  have R2 : ∀ y0 y1 t0, RestOk (parOf w.params b1 b2) (oR2 (parOf w.params b1 b2) lt y0 y1 t0) (oE2 lt t0) := fun y0 y1 t0 => restOk_next (R1 _) _ _
  have R3 : ∀ y0 y1 y2 t0 t1, RestOk (parOf w.params b1 b2) (oR3 (parOf w.params b1 b2) lt y0 y1 y2 t0 t1) (oE3 lt t0 t1) := fun y0 y1 y2 t0 t1 => restOk_next (R2 _ _ _) _ _
  have G0 : chq (oG0 lt) = (gN lt 0).map fun i => (97 + i, 65 + i) := rfl
  have G1 : ∀ y0, chq (oG1 lt y0) = (gN lt 1).map fun i => (97 + i, 65 + i) := fun y0 => g_next rfl G0 Q0
  have G2 : ∀ y0 y1 t0, chq (oG2 lt y0 y1 t0) = (gN lt 2).map fun i => (97 + i, 65 + i) := fun y0 y1 t0 => g_next rfl (G1 _) (Q1 _)
  have G3 : ∀ y0 y1 y2 t0 t1, chq (oG3 lt y0 y1 y2 t0 t1) = (gN lt 3).map fun i => (97 + i, 65 + i) := fun y0 y1 y2 t0 t1 => g_next rfl (G2 _ _ _) (Q2 _ _)
  have l50 : ∀ k, k ≤ 4 → (qN lt k).length ≤ 50 := fun k hk => Nat.le_trans (lenQ lt k hk) (by decide)
  have g50 : ∀ k, k ≤ 5 → ∀ {G : List (Nat × Nat × Nat × Nat)}, chq G = (gN lt k).map (fun i => (97 + i, 65 + i)) → G.length ≤ 50 := fun k hk G hG => Nat.le_trans (lenG lt k hk hG) (by decide)
  have app : ∀ {L : List Value} {k : Nat}, k ≤ 4 → IvOk L (qN lt k) → L.length ≤ sizeLine := fun {L k} hk hL => by
    rw [ivok_len hL, sizeLine_eq]
    have := lenQ lt k hk
    lia
  refine fnV (fn150 _) rfl (show 1 ≤ 10 by decide) (fun _ => rfl) 900 (fun n tk => H_ol4 _ m ma em s t lt (wordB (gN lt 4)) (gN lt 4).length n tk) (fun n tk => r_ol4 _ _ _ m ma em s t lt _ n tk _ hK) fun n tk => ?_
  subst hlt
  refine ⟨wh_st w b1 b2 (k := 0) (by decide) rfl hs hm ivok_nil (fun i hi => nomatch hi) (by decide) rfl (ml _ rfl 0 (by decide)) rfl, fun z0 hz0 => ⟨fa_st w b1 b2 (k := 0) (by decide) rfl Q0 (il 0) (l50 0 (by decide)) R0 rfl (g50 0 (by decide) G0) rfl, fun z1 hz1 => ⟨cApp_ok (app (by decide) Q0), fun z2 hz2 =>
    ⟨wh_st w b1 b2 (k := 1) (by decide) rfl hs hm (ivok_app Q0 0 _) (pi 0) (pz 0 (by decide)) rfl (ml _ rfl 1 (by decide)) rfl, fun z3 hz3 => ⟨fa_st w b1 b2 (k := 1) (by decide) rfl (Q1 _) (il 1) (l50 1 (by decide)) (R1 _) rfl (g50 1 (by decide) (G1 _)) rfl, fun z4 hz4 => ⟨cApp_ok (app (by decide) (Q1 _)), fun z5 hz5 =>
    ⟨wh_st w b1 b2 (k := 2) (by decide) rfl hs hm (ivok_app (Q1 _) 1 _) (pi 1) (pz 1 (by decide)) rfl (ml _ rfl 2 (by decide)) rfl, fun z6 hz6 => ⟨fa_st w b1 b2 (k := 2) (by decide) rfl (Q2 _ _) (il 2) (l50 2 (by decide)) (R2 _ _ _) rfl (g50 2 (by decide) (G2 _ _ _)) rfl, fun z7 hz7 => ⟨cApp_ok (app (by decide) (Q2 _ _)), fun z8 hz8 =>
    ⟨wh_st w b1 b2 (k := 3) (by decide) rfl hs hm (ivok_app (Q2 _ _) 2 _) (pi 2) (pz 2 (by decide)) rfl (ml _ rfl 3 (by decide)) rfl, fun z9 hz9 => ⟨fax_ok ?_ (fa_st w b1 b2 (k := 3) (by decide) rfl (Q3 _ _ _) (il 3) (l50 3 (by decide)) (R3 _ _ _ _ _) rfl (g50 3 (by decide) (G3 _ _ _ _ _)) rfl), fun z10 hz10 => ⟨cApp_ok (app (by decide) (Q3 _ _ _)), fun z11 hz11 =>
    ⟨cColl_ok ?_, fun z12 hz12 => ⟨?_, fun z13 hz13 => ?_⟩⟩⟩⟩⟩⟩⟩⟩⟩⟩⟩⟩⟩⟩
  · rw [← chq_len, G3, ivok_len (Q3 _ _ _), List.length_map]
    show _ = (gN _ 3 ++ (qN _ 3).map _).length
    rw [List.length_append, List.length_map]
  · rw [prV_len, qw_len]; lia
  · have hQ : chq (qw z10 20 (gN (fun i j => aboveV s (m i) (m j)) 4).length) = (gN (fun i j => aboveV s (m i) (m j)) 4).map fun i => (97 + i, 65 + i) := by
      refine Eq.trans hz10 ?_
      rw [G3, ivok_map (Q3 _ _ _)]
      exact (List.map_append (l₁ := gN _ 3)).symm
    obtain ⟨a, b⟩ := hR _ hQ
    rw [← b]
    exact replace_ok w b1 b2 a (by decide) (by rw [qw_len]; lia)
  · exact outE z13 fun sz tk => ⟨trivial, rfl, rfl, rfl, rfl⟩
theorem ol5_ok (hm : ∀ i, i ≤ 4 → MkOk (m i)) (hs : s ≤ 3) {ma em t : Nat} {hm' : Nat → Nat} {h : Nat} :
    VV w b1 b2 (cOl (parOf w.params b1 b2) m hm' h ma [.ref (m 0).x, .ref (m 1).x, .ref (m 2).x, .ref (m 3).x, .ref (m 4).x] em s t (wordB (gN (fun i j => aboveV s (m i) (m j)) 5))) := by
  refine cols_any (hm := fun i => 4 + 8 * i) (h := 2) ?_
  generalize hlt : (fun i j => aboveV s (m i) (m j)) = lt
  have hsub := gN_sub5 lt
  have hK : (gN lt 5).length ≤ 10 := by simpa using hsub.length_le
  have hR : ∀ Q : List (Nat × Nat × Nat × Nat), chq Q = (gN lt 5).map (fun i => (97 + i, 65 + i)) → RepOk Q [97, 98, 99, 100, 101, 102, 103, 104, 105, 106] ∧ replF Q [97, 98, 99, 100, 101, 102, 103, 104, 105, 106] = wordB (gN lt 5) := fun Q hQ => by
    obtain ⟨a, b⟩ := word_rep (gN lt 5) Q [] hQ (hsub.nodup List.nodup_range) fun i hi => ⟨by have := hsub.subset hi; simp at this; lia, List.not_mem_nil⟩
    rw [word_nil] at a b
    exact ⟨a, by rw [b]; exact wordB_congr fun i _ => by simp⟩
  have ml : ∀ q : Oq, q.ml = [.ref (m 0).x, .ref (m 1).x, .ref (m 2).x, .ref (m 3).x, .ref (m 4).x] → ∀ k, k ≤ 4 → ∀ i, i ≤ k → q.ml[i]? = some (.ref (m i).x) := fun q hq k hk i hi => by
    have : i = 0 ∨ i = 1 ∨ i = 2 ∨ i = 3 ∨ i = 4 := by lia
    rcases this with rfl | rfl | rfl | rfl | rfl <;> rw [hq] <;> rfl
  have il : ∀ k, ∀ i ∈ qN lt k, i < k := fun k i hi => qN_lt hi
  have Q0 : IvOk (oQ0 lt) (qN lt 0) := ivok_pop ivok_nil _
  have Q1 : ∀ t0, IvOk (oQ1 lt t0) (qN lt 1) := fun t0 => ivok_pop (ivok_app Q0 0 t0) _
  have Q2 : ∀ t0 t1, IvOk (oQ2 lt t0 t1) (qN lt 2) := fun t0 t1 => ivok_pop (ivok_app (Q1 t0) 1 t1) _
  have Q3 : ∀ t0 t1 t2, IvOk (oQ3 lt t0 t1 t2) (qN lt 3) := fun t0 t1 t2 => ivok_pop (ivok_app (Q2 t0 t1) 2 t2) _
  have Q4 : ∀ t0 t1 t2 t3, IvOk (oQ4 lt t0 t1 t2 t3) (qN lt 4) := fun t0 t1 t2 t3 => ivok_pop (ivok_app (Q3 t0 t1 t2) 3 t3) _
  have pi : ∀ k, ∀ i ∈ qN lt k ++ [k], i < k + 1 := fun k i hi => by
    rcases List.mem_append.mp hi with hi | hi
    · exact Nat.lt_succ_of_lt (il k i hi)
    · rw [List.mem_singleton.mp hi]; exact Nat.lt_succ_self _
  have pz : ∀ k, k ≤ 4 → (qN lt k ++ [k]).length ≤ 100 := fun k hk => by
    rw [List.length_append]
    have := lenQ lt k hk
    show _ + 1 ≤ 100; lia
  have R0 : RestOk (parOf w.params b1 b2) (oR0 (parOf w.params b1 b2) lt) (oE0 lt) := .inl ⟨rfl, rfl⟩
  have R1 : ∀ y0, RestOk (parOf w.params b1 b2) (oR1 (parOf w.params b1 b2) lt y0) (oE1 lt) := fun y0 => restOk_next R0 _ _
  have R2 : ∀ y0 y1 t0, RestOk (parOf w.params b1 b2) (oR2 (parOf w.params b1 b2) lt y0 y1 t0) (oE2 lt t0) := fun y0 y1 t0 => restOk_next (R1 _) _ _
  have R3 : ∀ y0 y1 y2 t0 t1, RestOk (parOf w.params b1 b2) (oR3 (parOf w.params b1 b2) lt y0 y1 y2 t0 t1) (oE3 lt t0 t1) := fun y0 y1 y2 t0 t1 => restOk_next (R2 _ _ _) _ _
  have R4 : ∀ y0 y1 y2 y3 t0 t1 t2, RestOk (parOf w.params b1 b2) (oR4 (parOf w.params b1 b2) lt y0 y1 y2 y3 t0 t1 t2) (oE4 lt t0 t1 t2) := fun y0 y1 y2 y3 t0 t1 t2 => restOk_next (R3 _ _ _ _ _) _ _
  have G0 : chq (oG0 lt) = (gN lt 0).map fun i => (97 + i, 65 + i) := rfl
  have G1 : ∀ y0, chq (oG1 lt y0) = (gN lt 1).map fun i => (97 + i, 65 + i) := fun y0 => g_next rfl G0 Q0
  have G2 : ∀ y0 y1 t0, chq (oG2 lt y0 y1 t0) = (gN lt 2).map fun i => (97 + i, 65 + i) := fun y0 y1 t0 => g_next rfl (G1 _) (Q1 _)
  have G3 : ∀ y0 y1 y2 t0 t1, chq (oG3 lt y0 y1 y2 t0 t1) = (gN lt 3).map fun i => (97 + i, 65 + i) := fun y0 y1 y2 t0 t1 => g_next rfl (G2 _ _ _) (Q2 _ _)
  have G4 : ∀ y0 y1 y2 y3 t0 t1 t2, chq (oG4 lt y0 y1 y2 y3 t0 t1 t2) = (gN lt 4).map fun i => (97 + i, 65 + i) := fun y0 y1 y2 y3 t0 t1 t2 => g_next rfl (G3 _ _ _ _ _) (Q3 _ _ _)
  have l50 : ∀ k, k ≤ 4 → (qN lt k).length ≤ 50 := fun k hk => Nat.le_trans (lenQ lt k hk) (by decide)
  have g50 : ∀ k, k ≤ 5 → ∀ {G : List (Nat × Nat × Nat × Nat)}, chq G = (gN lt k).map (fun i => (97 + i, 65 + i)) → G.length ≤ 50 := fun k hk G hG => Nat.le_trans (lenG lt k hk hG) (by decide)
  have app : ∀ {L : List Value} {k : Nat}, k ≤ 4 → IvOk L (qN lt k) → L.length ≤ sizeLine := fun {L k} hk hL => by
    rw [ivok_len hL, sizeLine_eq]
    have := lenQ lt k hk
    lia
  refine fnV (fn150 _) rfl (show 1 ≤ 10 by decide) (fun _ => rfl) 900 (fun n tk => H_ol5 _ m ma em s t lt (wordB (gN lt 5)) (gN lt 5).length n tk) (fun n tk => r_ol5 _ _ _ m ma em s t lt _ n tk _ hK) fun n tk => ?_
  subst hlt
  refine ⟨wh_st w b1 b2 (k := 0) (by decide) rfl hs hm ivok_nil (fun i hi => nomatch hi) (by decide) rfl (ml _ rfl 0 (by decide)) rfl, fun z0 hz0 => ⟨fa_st w b1 b2 (k := 0) (by decide) rfl Q0 (il 0) (l50 0 (by decide)) R0 rfl (g50 0 (by decide) G0) rfl, fun z1 hz1 => ⟨cApp_ok (app (by decide) Q0), fun z2 hz2 =>
    ⟨wh_st w b1 b2 (k := 1) (by decide) rfl hs hm (ivok_app Q0 0 _) (pi 0) (pz 0 (by decide)) rfl (ml _ rfl 1 (by decide)) rfl, fun z3 hz3 => ⟨fa_st w b1 b2 (k := 1) (by decide) rfl (Q1 _) (il 1) (l50 1 (by decide)) (R1 _) rfl (g50 1 (by decide) (G1 _)) rfl, fun z4 hz4 => ⟨cApp_ok (app (by decide) (Q1 _)), fun z5 hz5 =>
    ⟨wh_st w b1 b2 (k := 2) (by decide) rfl hs hm (ivok_app (Q1 _) 1 _) (pi 1) (pz 1 (by decide)) rfl (ml _ rfl 2 (by decide)) rfl, fun z6 hz6 => ⟨fa_st w b1 b2 (k := 2) (by decide) rfl (Q2 _ _) (il 2) (l50 2 (by decide)) (R2 _ _ _) rfl (g50 2 (by decide) (G2 _ _ _)) rfl, fun z7 hz7 => ⟨cApp_ok (app (by decide) (Q2 _ _)), fun z8 hz8 =>
    ⟨wh_st w b1 b2 (k := 3) (by decide) rfl hs hm (ivok_app (Q2 _ _) 2 _) (pi 2) (pz 2 (by decide)) rfl (ml _ rfl 3 (by decide)) rfl, fun z9 hz9 => ⟨fa_st w b1 b2 (k := 3) (by decide) rfl (Q3 _ _ _) (il 3) (l50 3 (by decide)) (R3 _ _ _ _ _) rfl (g50 3 (by decide) (G3 _ _ _ _ _)) rfl, fun z10 hz10 => ⟨cApp_ok (app (by decide) (Q3 _ _ _)), fun z11 hz11 =>
    ⟨wh_st w b1 b2 (k := 4) (by decide) rfl hs hm (ivok_app (Q3 _ _ _) 3 _) (pi 3) (pz 3 (by decide)) rfl (ml _ rfl 4 (by decide)) rfl, fun z12 hz12 => ⟨fax_ok ?_ (fa_st w b1 b2 (k := 4) (by decide) rfl (Q4 _ _ _ _) (il 4) (l50 4 (by decide)) (R4 _ _ _ _ _ _ _) rfl (g50 4 (by decide) (G4 _ _ _ _ _ _ _)) rfl), fun z13 hz13 => ⟨cApp_ok (app (by decide) (Q4 _ _ _ _)), fun z14 hz14 =>
    ⟨cColl_ok ?_, fun z15 hz15 => ⟨?_, fun z16 hz16 => ?_⟩⟩⟩⟩⟩⟩⟩⟩⟩⟩⟩⟩⟩⟩⟩⟩⟩
  · rw [← chq_len, G4, ivok_len (Q4 _ _ _ _), List.length_map]
    show _ = (gN _ 4 ++ (qN _ 4).map _).length
    rw [List.length_append, List.length_map]
  · rw [prV_len, qw_len]; lia
  · have hQ : chq (qw z13 20 (gN (fun i j => aboveV s (m i) (m j)) 5).length) = (gN (fun i j => aboveV s (m i) (m j)) 5).map fun i => (97 + i, 65 + i) := by
      refine Eq.trans hz13 ?_
      rw [G4, ivok_map (Q4 _ _ _ _)]
      exact (List.map_append (l₁ := gN _ 4)).symm
    obtain ⟨a, b⟩ := hR _ hQ
    rw [← b]
    exact replace_ok w b1 b2 a (by decide) (by rw [qw_len]; lia)
  · exact outE z16 fun sz tk => ⟨trivial, rfl, rfl, rfl, rfl⟩
end
/-! the least of a list of ints -/
noncomputable def cMl (i0 i1 hl : Nat) (it a best : Addr) (l : List Value) (ep : Nat) (j jf : Int) (o : Int) (to eb : Nat) (r : Int) : Ctr :=
  { code := .builtin "min.loop" ⟨[.ref it, .none, .ref best], []⟩, reads := [(hl, (a, liO l ep))], mus := [(i0, (best, liO [.int o to, .int o to] eb)), (i1, (it, liI (.ref a) j))], upd := fun y => [liO [] (y 3), liI .none jf], res := fun y => .ok (.ret (.int r (y 2))) }
noncomputable def cMinL (hl : Nat) (a : Addr) (l : List Value) (ep : Nat) (r : Int) : Ctr :=
  { code := .call (.builtin "min") ⟨[.ref a], []⟩, reads := [(hl, (a, liO l ep))], res := fun y => .ok (.ret (.int r (y 2))) }
/-! False in a list of bools -/
noncomputable def cInF (hl : Nat) (a : Addr) (l : List Value) (ep : Nat) (v : Bool) : Ctr :=
  { code := .call (.builtin "list.__contains__") ⟨[.ref a, .bool false], []⟩, reads := [(hl, (a, liO l ep))], res := fun _ => .ok (.ret (.bool v)) }
noncomputable def H_mlT (P : Params) (it a best : Addr) (l : List Value) (ep : Nat) (j jf : Int) (o : Int) (to eb : Nat) (r : Int) (v : Int) (tv : Nat) (n tk : Nat) : HT := .go [1,3,1] (.cut (cLNext 1 2 it a l ep j (.int v tv)) fun z0 => .go [1] (.cut (cLt v o tv to true) fun z1 => .go [1,0,1] (.cut (cMl 0 1 2 it a best l ep (j + 1) jf v tv eb r) fun z2 => .go [] (.nil { res := .ok (.ret (Value.int r (z2 2))), exp := expOf (cMl 0 1 2 it a best l ep (j + 1) jf v tv eb r) z2 }))))
theorem r_mlT (P : Params) (b1 b2 : Bool) (it a best : Addr) (l : List Value) (ep : Nat) (j jf : Int) (o : Int) (to eb : Nat) (r : Int) (v : Int) (tv : Nat) (n tk : Nat) : (RunC (parOf P b1 b2) (cMl 0 1 2 it a best l ep j jf o to eb r) 400 (H_mlT (parOf P b1 b2) it a best l ep j jf o to eb r v tv n tk) n tk).Ok := by
  cases b1 <;> (show OT.l _ = OT.r _; kernel_rfl)
noncomputable def H_mlF (P : Params) (it a best : Addr) (l : List Value) (ep : Nat) (j jf : Int) (o : Int) (to eb : Nat) (r : Int) (v : Int) (tv : Nat) (n tk : Nat) : HT := .go [1,3,1] (.cut (cLNext 1 2 it a l ep j (.int v tv)) fun z0 => .go [1] (.cut (cLt v o tv to false) fun z1 => .go [] (.cut (cMl 0 1 2 it a best l ep (j + 1) jf o to eb r) fun z2 => .go [] (.nil { res := .ok (.ret (Value.int r (z2 2))), exp := expOf (cMl 0 1 2 it a best l ep (j + 1) jf o to eb r) z2 }))))
theorem r_mlF (P : Params) (b1 b2 : Bool) (it a best : Addr) (l : List Value) (ep : Nat) (j jf : Int) (o : Int) (to eb : Nat) (r : Int) (v : Int) (tv : Nat) (n tk : Nat) : (RunC (parOf P b1 b2) (cMl 0 1 2 it a best l ep j jf o to eb r) 400 (H_mlF (parOf P b1 b2) it a best l ep j jf o to eb r v tv n tk) n tk).Ok := by
  cases b1 <;> (show OT.l _ = OT.r _; kernel_rfl)
noncomputable def H_mlE (P : Params) (it a best : Addr) (l : List Value) (ep : Nat) (j : Int) (o : Int) (to eb : Nat) (n tk : Nat) : HT := .go [1,3,1] (.cut (cLEnd 1 2 it a l ep j) fun z0 => .go [6,1,0,1] (.nil { res := .ok (.ret (Value.int o to)), exp := [(1, (best, liO [] (eb + 1))), (3, (it, liI .none j))] }))
theorem r_mlE (P : Params) (b1 b2 : Bool) (it a best : Addr) (l : List Value) (ep : Nat) (j : Int) (o : Int) (to eb : Nat) (n tk : Nat) : (RunC (parOf P b1 b2) (cMl 0 1 2 it a best l ep j j o to eb o) 400 (H_mlE (parOf P b1 b2) it a best l ep j o to eb n tk) n tk).Ok := by
  cases b1 <;> (show OT.l _ = OT.r _; kernel_rfl)
noncomputable def H_minL (P : Params) (a : Addr) (l : List Value) (ep : Nat) (o : Int) (to : Nat) (r : Int) (jf : Int) (n tk : Nat) : HT := .go [2,2,0,2,1,3,1,0,1,1,1,2,1,0,3,1,3] (.cut (cMl 1 0 2 n a (n + 1) (.int o to :: l) ep (0 + 1) jf o to 1 r) fun z0 => .go [] (.nil { res := .ok (.ret (Value.int r (z0 2))), exp := [] }))
theorem r_minL (P : Params) (b1 b2 : Bool) (a : Addr) (l : List Value) (ep : Nat) (o : Int) (to : Nat) (r : Int) (jf : Int) (n tk : Nat) : (RunC (parOf P b1 b2) (cMinL 2 a (.int o to :: l) ep r) 400 (H_minL (parOf P b1 b2) a l ep o to r jf n tk) n tk).Ok := by
  cases b1 <;> (show OT.l _ = OT.r _; kernel_rfl)
noncomputable def minZ (o : Int) : List Int → Int
  | [] => o
  | v :: l => minZ (if v < o then v else o) l
theorem drop_get {l : List Value} {j : Nat} {v : Value} {ls : List Value} (hl : l.drop j = v :: ls) : l[j]? = some v ∧ l.drop (j + 1) = ls := by
  have hlt : j < l.length := by
    rcases Nat.lt_or_ge j l.length with q' | q'
    · exact q'
    · rw [List.drop_eq_nil_iff.mpr q'] at hl; cases hl
  have hd := List.drop_eq_getElem_cons hlt
  rw [hl] at hd
  injection hd with e1 e2
  exact ⟨by rw [List.getElem?_eq_getElem hlt, ← e1], e2.symm⟩
theorem drop_none {l : List Value} {j : Nat} (hl : l.drop j = []) : l[j]? = none := List.getElem?_eq_none_iff.mpr (List.drop_eq_nil_iff.mp hl)
theorem ml_any {prog : Program} {w : World} {kt : KT} {i0 i1 hl i0' i1' hl' : Nat} {it a best : Addr} {l : List Value} {ep : Nat} {j jf o : Int} {to eb : Nat} {r : Int} (h : (cMl i0' i1' hl' it a best l ep j jf o to eb r).Valid prog w kt) : (cMl i0 i1 hl it a best l ep j jf o to eb r).Valid prog w kt := by
  intro A R s ha hA hk hrd hmu hnd K
  refine h A R s ha hA hk (fun e he => ?_) (fun e he => ?_) hnd fun x h' hp haf hs => K x h' hp ?_ hs
  · cases he with
    | head => exact hrd (hl, (a, liO l ep)) (.head _)
    | tail _ he => cases he
  · cases he with
    | head => exact hmu (i0, (best, liO [.int o to, .int o to] eb)) (.head _)
    | tail _ he => cases he with
      | head => exact hmu (i1, (it, liI (.ref a) j)) (.tail _ (.head _))
      | tail _ he => cases he
  · obtain ⟨a1, a2, a3, a4, a5, a6⟩ := haf
    refine ⟨a1, a2, fun e he => ?_, a4, a5, a6⟩
    cases he with
    | head => exact a3 (i0', _) (.head _)
    | tail _ he => cases he with
      | head => exact a3 (i1', _) (.tail _ (.head _))
      | tail _ he => cases he
theorem ml_ok (w : World) (b1 b2 : Bool) (it a best : Addr) (l : List Value) (ep : Nat) (ls : List (Int × Nat)) : ∀ (j : Nat) (j' jf o : Int) (to eb : Nat), j' = j → l.drop j = inl ls → jf = j + ls.length → VV w b1 b2 (cMl 0 1 2 it a best l ep j' jf o to eb (minZ o (ls.map (·.1)))) := by
  induction ls with
  | nil =>
    intro j j' jf o to eb hj hl hjf
    have e : jf = j' := by rw [hjf, hj]; show (j : Int) + ((0 : Nat) : Int) = j; lia
    rw [e]
    refine codeV (fun _ => rfl) 400 (fun n tk => H_mlE _ it a best l ep j' o to eb n tk) (fun n tk => r_mlE _ _ _ it a best l ep j' o to eb n tk) fun n tk => ⟨cLEnd_ok (by rw [hj, Int.toNat_natCast]; exact drop_none hl), fun z0 hz0 => ?_⟩
    exact outE (fun i => if i = 2 then to else _) fun sz tk => ⟨trivial, rfl, rfl, rfl, rfl⟩
  | cons p ls ih =>
    intro j j' jf o to eb hj hl hjf
    obtain ⟨v, tv⟩ := p
    obtain ⟨hv, hd⟩ := drop_get hl
    rw [List.length_cons] at hjf
    have hv' : l[j'.toNat]? = some (.int v tv) := by rw [hj, Int.toNat_natCast]; exact hv
    by_cases h : v < o
    · have e : minZ o (((v, tv) :: ls).map (·.1)) = minZ v (ls.map (·.1)) := by show minZ (if v < o then v else o) _ = _; rw [if_pos h]
      rw [e]
      refine codeV (fun _ => rfl) 400 (fun n tk => H_mlT _ it a best l ep j' jf o to eb (minZ v (ls.map (·.1))) v tv n tk) (fun n tk => r_mlT _ _ _ it a best l ep j' jf o to eb _ v tv n tk) fun n tk => ⟨cLNext_ok hv', fun z0 hz0 => ⟨cLt_ok (decide_eq_true h), fun z1 hz1 => ⟨ih (j + 1) (j' + 1) jf v tv _ (by lia) hd (by lia), fun z2 hz2 => ?_⟩⟩⟩
      exact outE z2 fun sz tk => ⟨trivial, rfl, rfl, rfl, rfl⟩
    · have e : minZ o (((v, tv) :: ls).map (·.1)) = minZ o (ls.map (·.1)) := by show minZ (if v < o then v else o) _ = _; rw [if_neg h]
      rw [e]
      refine codeV (fun _ => rfl) 400 (fun n tk => H_mlF _ it a best l ep j' jf o to eb (minZ o (ls.map (·.1))) v tv n tk) (fun n tk => r_mlF _ _ _ it a best l ep j' jf o to eb _ v tv n tk) fun n tk => ⟨cLNext_ok hv', fun z0 hz0 => ⟨cLt_ok (decide_eq_false h), fun z1 hz1 => ⟨ih (j + 1) (j' + 1) jf o to _ (by lia) hd (by lia), fun z2 hz2 => ?_⟩⟩⟩
      exact outE z2 fun sz tk => ⟨trivial, rfl, rfl, rfl, rfl⟩
/-- min of a list -/
theorem minL_any {prog : Program} {w : World} {kt : KT} {hl hl' : Nat} {a : Addr} {l : List Value} {ep : Nat} {r : Int} (h : (cMinL hl' a l ep r).Valid prog w kt) : (cMinL hl a l ep r).Valid prog w kt :=
  Valid_more (rd := [(hl, (a, liO l ep))]) h rfl fun e he => by
    cases he with
    | head => exact ⟨_, .head _, rfl⟩
    | tail _ he => cases he
theorem minL_ok (w : World) (b1 b2 : Bool) {hl : Nat} {a : Addr} {ep : Nat} {o : Int} {to : Nat} {ls : List (Int × Nat)} {l : List Value} (hll : l = inl ((o, to) :: ls)) : VV w b1 b2 (cMinL hl a l ep (minZ o (ls.map (·.1)))) := by
  subst hll
  refine minL_any (hl' := 2) ?_
  refine codeV (fun _ => rfl) 400 (fun n tk => H_minL _ a (inl ls) ep o to (minZ o (ls.map (·.1))) (1 + ls.length) n tk) (fun n tk => r_minL _ _ _ a (inl ls) ep o to _ _ n tk) fun n tk => ⟨ml_any (ml_ok w b1 b2 _ _ _ _ _ ls 1 (0 + 1) _ o to _ rfl rfl rfl), fun z0 hz0 => ?_⟩
  exact outE z0 fun sz tk => ⟨trivial, rfl, rfl, rfl, rfl⟩
/-! _law_shared -/
noncomputable def asgE : Stmt → PySem.Expr
  | .Assign _ v _ => v
  | _ => default
noncomputable def lcElt : PySem.Expr → PySem.Expr
  | .ListComp e _ _ _ => e
  | _ => default
noncomputable def cmpR : PySem.Expr → PySem.Expr
  | .Compare _ _ (c :: _) _ => c
  | _ => default
noncomputable def bd155 : List Stmt := dBody (stm 18)
noncomputable def sPl : Stmt := atS bd155 1
noncomputable def sAb : Stmt := atS (forB sPl) 0
noncomputable def eSt : PySem.Expr := asgE (atS (forB sAb) 2)
noncomputable def eIn : PySem.Expr := argE (cmpR (lcElt eSt)) 0
structure Col where
  (a : Addr) (v1 v2 v3 : Int) (t1 t2 t3 ep : Nat)
noncomputable def Col.cell (c : Col) : Cell := (c.a, liO [.int c.v1 c.t1, .int c.v2 c.t2, .int c.v3 c.t3] c.ep)
noncomputable def colV (c : Col) (s : Int) : Int := if s = 1 then c.v1 else if s = 2 then c.v2 else c.v3
noncomputable def colT (c : Col) (s : Int) : Nat := if s = 1 then c.t1 else if s = 2 then c.t2 else c.t3
noncomputable def rdC (c : Nat → Col) (hc : Nat → Nat) : List (Nat × Cell) := [(hc 0, (c 0).cell), (hc 1, (c 1).cell), (hc 2, (c 2).cell), (hc 3, (c 3).cell), (hc 4, (c 4).cell)]
noncomputable def cGetC (c : Nat → Col) (hc : Nat → Nat) (x : Addr) (k : Int) (t : Nat) (v : Int) (tv : Nat) : Ctr :=
  { code := .call (.builtin "list.__getitem__") ⟨[.ref x, .int k t], []⟩, reads := rdC c hc, res := fun _ => .ok (.ret (.int v tv)) }
theorem rdC_has (c : Nat → Col) (hc : Nat → Nat) (i : Nat) (hi : i ≤ 4) : ∃ e' ∈ rdC c hc, e'.2 = (c i).cell := by
  have : i = 0 ∨ i = 1 ∨ i = 2 ∨ i = 3 ∨ i = 4 := by lia
  unfold rdC
  rcases this with rfl | rfl | rfl | rfl | rfl <;> simp only [List.mem_cons, List.not_mem_nil, or_false, exists_eq_or_imp, exists_eq_left, true_or, or_true]
theorem cGetC_ok {prog : Program} {w : World} {kt : KT} {c : Nat → Col} {hc : Nat → Nat} {x : Addr} {i : Nat} {k s : Int} {t : Nat} {v : Int} {tv : Nat} (hi : i ≤ 4) (hx : x = (c i).a) (hs : s = 1 ∨ s = 2 ∨ s = 3) (hk : k = s - 1) (hv : v = colV (c i) s) (ht : tv = colT (c i) s) : (cGetC c hc x k t v tv).Valid prog w kt := by
  subst hx hv ht
  have z : (cGet 0 (c i).a [.int (c i).v1 (c i).t1, .int (c i).v2 (c i).t2, .int (c i).v3 (c i).t3] (c i).ep k t (.int (colV (c i) s) (colT (c i) s))).Valid prog w kt := by
    rcases hs with rfl | rfl | rfl <;> subst hk <;> exact cGet_ok (by decide) (by decide) rfl
  exact Valid_more (rd := rdC c hc) z rfl fun e he => by
    cases he with
    | head => exact rdC_has c hc i hi
    | tail _ he => cases he
noncomputable def scIn : Scope := { kind := .function, names := [(⟨⟨[46, 48]⟩⟩, .local), (⟨⟨[111, 110, 101]⟩⟩, .local), (⟨⟨[115, 105, 122, 101]⟩⟩, .cell)], isGenerator := false, isCoroutine := false }
noncomputable def scSt : Scope := { kind := .function, names := [(⟨⟨[46, 48]⟩⟩, .local), (⟨⟨[115, 105, 122, 101]⟩⟩, .cell), (⟨⟨[109, 105, 110]⟩⟩, .globalImplicit), (⟨⟨[98, 101, 104, 105, 110, 100]⟩⟩, .cell), (⟨⟨[104, 101, 114, 101]⟩⟩, .cell)], isGenerator := false, isCoroutine := false }
noncomputable def ceO (v : Option Value) : Obj := ⟨.type "cell", none, .cell v, #[]⟩
structure Iq where
  (L L' it acc ba sa : Addr) (s : Int) (ts : Nat) (B : List Value) (eb i0 i1 i2 hb hs : Nat)
noncomputable def Iq.env (q : Iq) : Env := envC fd155 q.L q.L' scIn [(⟨⟨[115, 105, 122, 101]⟩⟩, q.sa)]
noncomputable def frIn (P : Params) (k : Nat) (x : Addr) : Obj := dcO [eN P [111, 110, 101] k (.ref x)] 1
noncomputable def cvL (c : Nat → Col) (s : Int) (is : List Nat) : List Value := is.map fun i => .int (colV (c i) s) (colT (c i) s)
noncomputable def cIcS (P : Params) (q : Iq) (c : Nat → Col) (hc : Nat → Nat) (jf : Int) (is : List Nat) : Ctr :=
  { code := .compStart eIn 0 (.ref q.it) (.ref q.acc) q.env, reads := (q.hb, (q.ba, liO q.B q.eb)) :: (q.hs, (q.sa, ceO (some (.int q.s q.ts)))) :: rdC c hc,
    mus := [(q.i0, (q.L', dcO [] 0)), (q.i1, (q.it, liI (.ref q.ba) 0)), (q.i2, (q.acc, liO [] 0))], upd := fun y => [frIn P (y 2) (y 3), liI .none jf, liO (cvL c q.s is) (y 4)], res := fun _ => .ok .next }
noncomputable def refs (c : Nat → Col) (is : List Nat) : List Value := is.map fun i => .ref (c i).a
/-- the comprehension over the sizes -/
structure Sq where
  (L L' it acc sza ba sa ha hb' : Addr) (SL : List Value) (es : Nat) (eb i0 i1 i2 i3 hs hb hh hbc : Nat)
noncomputable def Sq.env (q : Sq) : Env := envC fd155 q.L q.L' scSt [(⟨⟨[115, 105, 122, 101]⟩⟩, q.sa), (⟨⟨[104, 101, 114, 101]⟩⟩, q.ha), (⟨⟨[98, 101, 104, 105, 110, 100]⟩⟩, q.hb')]
/-- is here farther left than each behind -/
noncomputable def minC (c : Nat → Col) (s : Int) : List Nat → Int
  | [] => 0
  | i :: is => minZ (colV (c i) s) (is.map fun i => colV (c i) s)
noncomputable def stV (c : Nat → Col) (is : List Nat) (s : Int) : Bool := decide (colV (c 0) s < minC c s is)
noncomputable def cSc (P : Params) (q : Sq) (c : Nat → Col) (hc : Nat → Nat) (is : List Nat) (sv : Option Value) (j jf : Int) (ss : List Int) (pre : List Value) (ep : Nat) : Ctr :=
  { code := .compLoop eSt 0 (.ref q.it) (.ref q.acc) q.env, room := 2, reads := (q.hs, (q.sza, liO q.SL q.es)) :: (q.hb, (q.ba, liO (refs c is) q.eb)) :: (q.hh, (q.ha, ceO (some (.ref (c 0).a)))) :: (q.hbc, (q.hb', ceO (some (.ref q.ba)))) :: rdC c hc,
    mus := [(q.i0, (q.L', dcO [] 0)), (q.i1, (q.it, liI (.ref q.sza) j)), (q.i2, (q.acc, liO pre ep)), (q.i3, (q.sa, ceO sv))],
    upd := fun y => [dcO [] 0, liI .none jf, liO (pre ++ ss.map fun s => .bool (stV c is s)) (y 2), ceO (if y 5 = 0 then none else some (.int (iw (y 3)) (y 4)))], res := fun _ => .ok .next }
noncomputable def cScS (P : Params) (q : Sq) (c : Nat → Col) (hc : Nat → Nat) (is : List Nat) (jf : Int) (ss : List Int) : Ctr :=
  { code := .compStart eSt 0 (.ref q.it) (.ref q.acc) q.env, room := 2, reads := (q.hs, (q.sza, liO q.SL q.es)) :: (q.hb, (q.ba, liO (refs c is) q.eb)) :: (q.hh, (q.ha, ceO (some (.ref (c 0).a)))) :: (q.hbc, (q.hb', ceO (some (.ref q.ba)))) :: rdC c hc,
    mus := [(q.i0, (q.L', dcO [] 0)), (q.i1, (q.it, liI (.ref q.sza) 0)), (q.i2, (q.acc, liO [] 0)), (q.i3, (q.sa, ceO none))],
    upd := fun y => [dcO [] 0, liI .none jf, liO (ss.map fun s => .bool (stV c is s)) (y 2), ceO (if y 5 = 0 then none else some (.int (iw (y 3)) (y 4)))], res := fun _ => .ok .next }
/-! the loop over above -/
structure Aq where
  (L ca sza it ha hb' : Addr) (k1 k2 k3 k4 : Nat) (RL : List Value) (er : Nat) (SL : List Value) (es i0 i1 i2 i3 hr hs : Nat)
noncomputable def Aq.env (q : Aq) : Env := envA fd155 155 q.L [(⟨⟨[98, 101, 104, 105, 110, 100]⟩⟩, q.hb'), (⟨⟨[104, 101, 114, 101]⟩⟩, q.ha)]
noncomputable def fA (P : Params) (q : Aq) (ow : List Nat) (to : Nat) (pl : Int) (tp : Nat) (rest : List DictEntry) (ef : Nat) : Obj :=
  frO (addL [eN P [99, 111, 108, 117, 109, 110, 115] q.k1 (.ref q.ca), eN P [115, 105, 122, 101, 115] q.k2 (.ref q.sza), eN P [111, 119, 110] q.k3 (.str ⟨⟨ow⟩⟩ to), eN P [112, 108, 97, 99, 101] q.k4 (.int pl tp)] rest) ef
noncomputable def restX (P : Params) (k5 k6 : Nat) (a : Int) (ta : Nat) (sa : Addr) : List DictEntry := [eN P [97, 98, 111, 118, 101] k5 (.int a ta), eN P [115, 116, 97, 121, 115] k6 (.ref sa)]
noncomputable def restB (P : Params) (y : Nat → Nat) (rest : List DictEntry) : Nat → List DictEntry
  | 0 => rest
  | _ + 1 => restX P (y 5) (y 6) (iw (y 7)) (y 8) (y 9)
noncomputable def efB (ef : Nat) : Nat → Nat
  | 0 => ef
  | _ + 1 => 6
noncomputable def cellB (v : Option Value) (x : Nat) : Nat → Option Value
  | 0 => v
  | _ + 1 => some (.ref x)
noncomputable def shc (m : Nat) (c : Nat → Col) : Nat → Col := fun i => c (min (i + 1) m)
noncomputable def idxs (m : Nat) : List Nat := (List.range m).map (· + 1)
noncomputable def letr (c : Nat → Col) (ss : List Int) (m : Nat) (ow : List Nat) : Nat := if ss.any (fun s => !stV c (idxs m) s) then 97 + ow.length else 65 + ow.length
noncomputable def shW (ss : List Int) : Nat → (Nat → Col) → List Nat → List Nat
  | 0, _, ow => ow
  | m + 1, c, ow => shW ss m (shc (m + 1) c) (ow ++ [letr c ss (m + 1) ow])
noncomputable def cAb (P : Params) (q : Aq) (c : Nat → Col) (hc : Nat → Nat) (ss : List Int) (m : Nat) (ow : List Nat) (to : Nat) (pl : Int) (tp : Nat) (rest : List DictEntry) (ef : Nat) (a left af lf : Int) (hv bv : Option Value) : Ctr :=
  { code := forC sAb q.it q.env, room := 4, reads := (q.hr, (q.ca, liO q.RL q.er)) :: (q.hs, (q.sza, liO q.SL q.es)) :: rdC c hc,
    mus := [(q.i0, (q.L, fA P q ow to pl tp rest ef)), (q.i1, (q.it, raI a left 1)), (q.i2, (q.ha, ceO hv)), (q.i3, (q.hb', ceO bv))],
    upd := fun y => [fA P q (shW ss m c ow) (y 2) pl tp (restB P y rest m) (efB ef m), raI af lf 1, ceO (cellB hv (y 3) m), ceO (cellB bv (y 4) m)], res := fun _ => .ok .next }
noncomputable def cSh (P : Params) (c : Nat → Col) (hc : Nat → Nat) (h1 h2 : Nat) (ca sza : Addr) (is : List Nat) (er : Nat) (SL : List Value) (es : Nat) (r : List Nat) : Ctr :=
  { code := .call (.ref 155) ⟨[.ref ca, .ref sza], []⟩, room := 8, reads := (h1, (ca, liO (refs c is) er)) :: (h2, (sza, liO SL es)) :: rdC c hc, res := fun y => .ok (.ret (.str ⟨⟨r⟩⟩ (y 2))) }
noncomputable def shA (ss : List Int) (c : Nat → Col) : Nat → List Nat
  | 0 => []
  | k + 1 => shW ss k c (shA ss c k)
noncomputable def abcL : List Nat := [97, 98, 99, 100, 101, 102, 103, 104, 105, 106]
noncomputable def shAq (L ca sza it ha hb' k1 k2 k3 k4 er es i1 : Nat) (RL SL : List Value) : Aq := { L := L, ca := ca, sza := sza, it := it, ha := ha, hb' := hb', k1 := k1, k2 := k2, k3 := k3, k4 := k4, RL := RL, er := er, SL := SL, es := es, i0 := 0, i1 := i1, i2 := 1, i3 := 2, hr := 2, hs := 4 }
noncomputable def H_icM1 (P : Params) (b2 : Bool) (q : Iq) (c : Nat → Col) (hc : Nat → Nat) (n tk : Nat) : HT := match b2 with
  | true => .go [3,0,3,3,3,2,3,1,1,0,1,4,0,8,8,8,1] (.cut (cGetC c (fun i => 6 + 2 * i) ((c 1).1) (q.s - 1) (tk + 2) (colV (c 1) q.s) (colT (c 1) q.s)) fun z0 => .go [0,5,5,2,5,3,0,3,3,3,2,3,1,9] (.nil { res := .ok Flow.next, exp := [(1, (q.L', frIn P tk (c 1).a)), (3, (q.it, liI .none 1)), (5, (q.acc, liO (cvL c q.s [1]) 1))] }))
  | false => .go [3,3,0,3,3,3,0,3,3,3,2,3,1,1,0,1,4,0,8,8,8,1] (.cut (cGetC c (fun i => 6 + 2 * i) ((c 1).1) (q.s - 1) (tk + 2) (colV (c 1) q.s) (colT (c 1) q.s)) fun z0 => .go [0,5,5,2,5,3,0,3,3,3,2,3,1,9] (.nil { res := .ok Flow.next, exp := [(1, (q.L', frIn P tk (c 1).a)), (3, (q.it, liI .none 1)), (5, (q.acc, liO (cvL c q.s [1]) 1))] }))
theorem r_icM1 (P : Params) (b1 b2 : Bool) (q : Iq) (c : Nat → Col) (hc : Nat → Nat) (n tk : Nat) : (RunC (parOf P b1 b2) (cIcS (parOf P b1 b2) { q with B := [.ref (c 1).a]} c hc 1 [1]) 400 (H_icM1 (parOf P b1 b2) b2 q c hc n tk) n tk).Ok := by
  cases b1 <;> cases b2 <;> (show OT.l _ = OT.r _; kernel_rfl)
noncomputable def H_icM2 (P : Params) (b2 : Bool) (q : Iq) (c : Nat → Col) (hc : Nat → Nat) (n tk : Nat) : HT := match b2 with
  | true => .go [3,0,3,3,3,2,3,1,1,0,1,4,0,8,8,8,1] (.cut (cGetC c (fun i => 6 + 2 * i) ((c 1).1) (q.s - 1) (tk + 2) (colV (c 1) q.s) (colT (c 1) q.s)) fun z0 => .go [0,5,5,2,5,3,0,3,3,3,2,3,1,1,0,1,4,0,10,10,10,1] (.cut (cGetC c (fun i => 6 + 2 * i) ((c 2).1) (q.s - 1) (z0 1 + 2) (colV (c 2) q.s) (colT (c 2) q.s)) fun z1 => .go [0,5,5,2,5,3,0,3,3,3,2,3,1,9] (.nil { res := .ok Flow.next, exp := [(1, (q.L', frIn P tk (c 2).a)), (3, (q.it, liI .none 2)), (5, (q.acc, liO (cvL c q.s [1, 2]) 2))] })))
  | false => .go [3,3,0,3,3,3,0,3,3,3,2,3,1,1,0,1,4,0,8,8,8,1] (.cut (cGetC c (fun i => 6 + 2 * i) ((c 1).1) (q.s - 1) (tk + 2) (colV (c 1) q.s) (colT (c 1) q.s)) fun z0 => .go [0,5,5,2,5,3,0,3,3,3,2,3,1,1,0,1,4,0,10,10,10,1] (.cut (cGetC c (fun i => 6 + 2 * i) ((c 2).1) (q.s - 1) (z0 1 + 2) (colV (c 2) q.s) (colT (c 2) q.s)) fun z1 => .go [0,5,5,2,5,3,0,3,3,3,2,3,1,9] (.nil { res := .ok Flow.next, exp := [(1, (q.L', frIn P tk (c 2).a)), (3, (q.it, liI .none 2)), (5, (q.acc, liO (cvL c q.s [1, 2]) 2))] })))
theorem r_icM2 (P : Params) (b1 b2 : Bool) (q : Iq) (c : Nat → Col) (hc : Nat → Nat) (n tk : Nat) : (RunC (parOf P b1 b2) (cIcS (parOf P b1 b2) { q with B := [.ref (c 1).a, .ref (c 2).a]} c hc 2 [1, 2]) 400 (H_icM2 (parOf P b1 b2) b2 q c hc n tk) n tk).Ok := by
  cases b1 <;> cases b2 <;> (show OT.l _ = OT.r _; kernel_rfl)
noncomputable def H_icM3 (P : Params) (b2 : Bool) (q : Iq) (c : Nat → Col) (hc : Nat → Nat) (n tk : Nat) : HT := match b2 with
  | true => .go [3,0,3,3,3,2,3,1,1,0,1,4,0,8,8,8,1] (.cut (cGetC c (fun i => 6 + 2 * i) ((c 1).1) (q.s - 1) (tk + 2) (colV (c 1) q.s) (colT (c 1) q.s)) fun z0 => .go [0,5,5,2,5,3,0,3,3,3,2,3,1,1,0,1,4,0,10,10,10,1] (.cut (cGetC c (fun i => 6 + 2 * i) ((c 2).1) (q.s - 1) (z0 1 + 2) (colV (c 2) q.s) (colT (c 2) q.s)) fun z1 => .go [0,5,5,2,5,3,0,3,3,3,2,3,1,1,0,1,4,0,12,12,12,1] (.cut (cGetC c (fun i => 6 + 2 * i) ((c 3).1) (q.s - 1) (z1 1 + 2) (colV (c 3) q.s) (colT (c 3) q.s)) fun z2 => .go [0,5,5,2,5,3,0,3,3,3,2,3,1,9] (.nil { res := .ok Flow.next, exp := [(1, (q.L', frIn P tk (c 3).a)), (3, (q.it, liI .none 3)), (5, (q.acc, liO (cvL c q.s [1, 2, 3]) 3))] }))))
  | false => .go [3,3,0,3,3,3,0,3,3,3,2,3,1,1,0,1,4,0,8,8,8,1] (.cut (cGetC c (fun i => 6 + 2 * i) ((c 1).1) (q.s - 1) (tk + 2) (colV (c 1) q.s) (colT (c 1) q.s)) fun z0 => .go [0,5,5,2,5,3,0,3,3,3,2,3,1,1,0,1,4,0,10,10,10,1] (.cut (cGetC c (fun i => 6 + 2 * i) ((c 2).1) (q.s - 1) (z0 1 + 2) (colV (c 2) q.s) (colT (c 2) q.s)) fun z1 => .go [0,5,5,2,5,3,0,3,3,3,2,3,1,1,0,1,4,0,12,12,12,1] (.cut (cGetC c (fun i => 6 + 2 * i) ((c 3).1) (q.s - 1) (z1 1 + 2) (colV (c 3) q.s) (colT (c 3) q.s)) fun z2 => .go [0,5,5,2,5,3,0,3,3,3,2,3,1,9] (.nil { res := .ok Flow.next, exp := [(1, (q.L', frIn P tk (c 3).a)), (3, (q.it, liI .none 3)), (5, (q.acc, liO (cvL c q.s [1, 2, 3]) 3))] }))))
theorem r_icM3 (P : Params) (b1 b2 : Bool) (q : Iq) (c : Nat → Col) (hc : Nat → Nat) (n tk : Nat) : (RunC (parOf P b1 b2) (cIcS (parOf P b1 b2) { q with B := [.ref (c 1).a, .ref (c 2).a, .ref (c 3).a]} c hc 3 [1, 2, 3]) 400 (H_icM3 (parOf P b1 b2) b2 q c hc n tk) n tk).Ok := by
  cases b1 <;> cases b2 <;> (show OT.l _ = OT.r _; kernel_rfl)
noncomputable def H_icM4 (P : Params) (b2 : Bool) (q : Iq) (c : Nat → Col) (hc : Nat → Nat) (n tk : Nat) : HT := match b2 with
  | true => .go [3,0,3,3,3,2,3,1,1,0,1,4,0,8,8,8,1] (.cut (cGetC c (fun i => 6 + 2 * i) ((c 1).1) (q.s - 1) (tk + 2) (colV (c 1) q.s) (colT (c 1) q.s)) fun z0 => .go [0,5,5,2,5,3,0,3,3,3,2,3,1,1,0,1,4,0,10,10,10,1] (.cut (cGetC c (fun i => 6 + 2 * i) ((c 2).1) (q.s - 1) (z0 1 + 2) (colV (c 2) q.s) (colT (c 2) q.s)) fun z1 => .go [0,5,5,2,5,3,0,3,3,3,2,3,1,1,0,1,4,0,12,12,12,1] (.cut (cGetC c (fun i => 6 + 2 * i) ((c 3).1) (q.s - 1) (z1 1 + 2) (colV (c 3) q.s) (colT (c 3) q.s)) fun z2 => .go [0,5,5,2,5,3,0,3,3,3,2,3,1,1,0,1,4,0,14,14,14,1] (.cut (cGetC c (fun i => 6 + 2 * i) ((c 4).1) (q.s - 1) (z2 1 + 2) (colV (c 4) q.s) (colT (c 4) q.s)) fun z3 => .go [0,5,5,2,5,3,0,3,3,3,2,3,1,9] (.nil { res := .ok Flow.next, exp := [(1, (q.L', frIn P tk (c 4).a)), (3, (q.it, liI .none 4)), (5, (q.acc, liO (cvL c q.s [1, 2, 3, 4]) 4))] })))))
  | false => .go [3,3,0,3,3,3,0,3,3,3,2,3,1,1,0,1,4,0,8,8,8,1] (.cut (cGetC c (fun i => 6 + 2 * i) ((c 1).1) (q.s - 1) (tk + 2) (colV (c 1) q.s) (colT (c 1) q.s)) fun z0 => .go [0,5,5,2,5,3,0,3,3,3,2,3,1,1,0,1,4,0,10,10,10,1] (.cut (cGetC c (fun i => 6 + 2 * i) ((c 2).1) (q.s - 1) (z0 1 + 2) (colV (c 2) q.s) (colT (c 2) q.s)) fun z1 => .go [0,5,5,2,5,3,0,3,3,3,2,3,1,1,0,1,4,0,12,12,12,1] (.cut (cGetC c (fun i => 6 + 2 * i) ((c 3).1) (q.s - 1) (z1 1 + 2) (colV (c 3) q.s) (colT (c 3) q.s)) fun z2 => .go [0,5,5,2,5,3,0,3,3,3,2,3,1,1,0,1,4,0,14,14,14,1] (.cut (cGetC c (fun i => 6 + 2 * i) ((c 4).1) (q.s - 1) (z2 1 + 2) (colV (c 4) q.s) (colT (c 4) q.s)) fun z3 => .go [0,5,5,2,5,3,0,3,3,3,2,3,1,9] (.nil { res := .ok Flow.next, exp := [(1, (q.L', frIn P tk (c 4).a)), (3, (q.it, liI .none 4)), (5, (q.acc, liO (cvL c q.s [1, 2, 3, 4]) 4))] })))))
theorem r_icM4 (P : Params) (b1 b2 : Bool) (q : Iq) (c : Nat → Col) (hc : Nat → Nat) (n tk : Nat) : (RunC (parOf P b1 b2) (cIcS (parOf P b1 b2) { q with B := [.ref (c 1).a, .ref (c 2).a, .ref (c 3).a, .ref (c 4).a]} c hc 4 [1, 2, 3, 4]) 400 (H_icM4 (parOf P b1 b2) b2 q c hc n tk) n tk).Ok := by
  cases b1 <;> cases b2 <;> (show OT.l _ = OT.r _; kernel_rfl)
noncomputable def H_scM1k1 (P : Params) (q : Sq) (c : Nat → Col) (j jf s : Int) (ts : Nat) (ss : List Int) (pre : List Value) (ep : Nat) (z1 z2 : Nat → Nat) : HT := .go [13,13,6,1] (.cut (cMinL 11 (z1 0 + 1) (cvL c s [1]) (z2 4) (minC c s [1])) fun z3 => .go [1] (.cut (cLt (colV (c 0) s) (minC c s [1]) (colT (c 0) s) (z3 2) (stV c [1] s)) fun z4 => .go [1] (.cut (cApp 2 q.acc pre ep (.bool (stV c [1] s))) fun z5 => .go [] (.cut (cSc P { q with i0 := 0, i1 := 1, i2 := 2, i3 := 3, hs := 2, hb := 4, hh := 6, hbc := 8 } c (fun i => 10 + 2 * i) [1] (some (.int s ts)) (j + 1) jf ss (pre ++ [.bool (stV c [1] s)]) (ep + 1)) fun z6 => .go [] (.nil { res := .ok Flow.next, exp := expOf (cSc P { q with i0 := 0, i1 := 1, i2 := 2, i3 := 3, hs := 2, hb := 4, hh := 6, hbc := 8 } c (fun i => 10 + 2 * i) [1] (some (.int s ts)) (j + 1) jf ss (pre ++ [.bool (stV c [1] s)]) (ep + 1)) z6 })))))
noncomputable def H_scM1 (P : Params) (q : Sq) (c : Nat → Col) (hc : Nat → Nat) (sv : Option Value) (j jf s : Int) (ts : Nat) (ss : List Int) (pre : List Value) (ep : Nat) (n tk : Nat) : HT := .go [3,1] (.cut (cLNext 1 2 q.it q.sza q.SL q.es j (.int s ts)) fun z0 => .go [7,3,6,7,0,10,10,10,1] (.cut (cGetC c (fun i => 10 + 2 * i) (c 0).a (s - 1) (z0 1 + 1) (colV (c 0) s) (colT (c 0) s)) fun z1 => .go [0,0,8,4,4,0,4,9,1] (.cut (cIcS P { L := q.L, L' := (z1 0 + 2), it := (z1 0), acc := (z1 0 + 1), ba := q.ba, sa := q.sa, s := s, ts := ts, B := refs c [1], eb := q.eb, i0 := 6, i1 := 4, i2 := 5, hb := 4, hs := 7 } c (fun i => 10 + 2 * i) 1 [1]) fun z2 => (H_scM1k1 P q c j jf s ts ss pre ep z1 z2))))
theorem r_scM1 (P : Params) (b1 b2 : Bool) (q : Sq) (c : Nat → Col) (hc : Nat → Nat) (sv : Option Value) (j jf s : Int) (ts : Nat) (ss : List Int) (pre : List Value) (ep : Nat) (n tk : Nat) : (RunC (parOf P b1 b2) (cSc (parOf P b1 b2) q c hc [1] sv j jf (s :: ss) pre ep) 400 (H_scM1 (parOf P b1 b2) q c hc sv j jf s ts ss pre ep n tk) n tk).Ok := by
  cases b1 <;> (show OT.l _ = OT.r _; kernel_rfl)
noncomputable def H_scM2k1 (P : Params) (q : Sq) (c : Nat → Col) (j jf s : Int) (ts : Nat) (ss : List Int) (pre : List Value) (ep : Nat) (z1 z2 : Nat → Nat) : HT := .go [13,13,6,1] (.cut (cMinL 11 (z1 0 + 1) (cvL c s [1, 2]) (z2 4) (minC c s [1, 2])) fun z3 => .go [1] (.cut (cLt (colV (c 0) s) (minC c s [1, 2]) (colT (c 0) s) (z3 2) (stV c [1, 2] s)) fun z4 => .go [1] (.cut (cApp 2 q.acc pre ep (.bool (stV c [1, 2] s))) fun z5 => .go [] (.cut (cSc P { q with i0 := 0, i1 := 1, i2 := 2, i3 := 3, hs := 2, hb := 4, hh := 6, hbc := 8 } c (fun i => 10 + 2 * i) [1, 2] (some (.int s ts)) (j + 1) jf ss (pre ++ [.bool (stV c [1, 2] s)]) (ep + 1)) fun z6 => .go [] (.nil { res := .ok Flow.next, exp := expOf (cSc P { q with i0 := 0, i1 := 1, i2 := 2, i3 := 3, hs := 2, hb := 4, hh := 6, hbc := 8 } c (fun i => 10 + 2 * i) [1, 2] (some (.int s ts)) (j + 1) jf ss (pre ++ [.bool (stV c [1, 2] s)]) (ep + 1)) z6 })))))
noncomputable def H_scM2 (P : Params) (q : Sq) (c : Nat → Col) (hc : Nat → Nat) (sv : Option Value) (j jf s : Int) (ts : Nat) (ss : List Int) (pre : List Value) (ep : Nat) (n tk : Nat) : HT := .go [3,1] (.cut (cLNext 1 2 q.it q.sza q.SL q.es j (.int s ts)) fun z0 => .go [7,3,6,7,0,10,10,10,1] (.cut (cGetC c (fun i => 10 + 2 * i) (c 0).a (s - 1) (z0 1 + 1) (colV (c 0) s) (colT (c 0) s)) fun z1 => .go [0,0,8,4,4,0,4,9,1] (.cut (cIcS P { L := q.L, L' := (z1 0 + 2), it := (z1 0), acc := (z1 0 + 1), ba := q.ba, sa := q.sa, s := s, ts := ts, B := refs c [1, 2], eb := q.eb, i0 := 6, i1 := 4, i2 := 5, hb := 4, hs := 7 } c (fun i => 10 + 2 * i) 2 [1, 2]) fun z2 => (H_scM2k1 P q c j jf s ts ss pre ep z1 z2))))
theorem r_scM2 (P : Params) (b1 b2 : Bool) (q : Sq) (c : Nat → Col) (hc : Nat → Nat) (sv : Option Value) (j jf s : Int) (ts : Nat) (ss : List Int) (pre : List Value) (ep : Nat) (n tk : Nat) : (RunC (parOf P b1 b2) (cSc (parOf P b1 b2) q c hc [1, 2] sv j jf (s :: ss) pre ep) 400 (H_scM2 (parOf P b1 b2) q c hc sv j jf s ts ss pre ep n tk) n tk).Ok := by
  cases b1 <;> (show OT.l _ = OT.r _; kernel_rfl)
noncomputable def H_scM3k1 (P : Params) (q : Sq) (c : Nat → Col) (j jf s : Int) (ts : Nat) (ss : List Int) (pre : List Value) (ep : Nat) (z1 z2 : Nat → Nat) : HT := .go [13,13,6,1] (.cut (cMinL 11 (z1 0 + 1) (cvL c s [1, 2, 3]) (z2 4) (minC c s [1, 2, 3])) fun z3 => .go [1] (.cut (cLt (colV (c 0) s) (minC c s [1, 2, 3]) (colT (c 0) s) (z3 2) (stV c [1, 2, 3] s)) fun z4 => .go [1] (.cut (cApp 2 q.acc pre ep (.bool (stV c [1, 2, 3] s))) fun z5 => .go [] (.cut (cSc P { q with i0 := 0, i1 := 1, i2 := 2, i3 := 3, hs := 2, hb := 4, hh := 6, hbc := 8 } c (fun i => 10 + 2 * i) [1, 2, 3] (some (.int s ts)) (j + 1) jf ss (pre ++ [.bool (stV c [1, 2, 3] s)]) (ep + 1)) fun z6 => .go [] (.nil { res := .ok Flow.next, exp := expOf (cSc P { q with i0 := 0, i1 := 1, i2 := 2, i3 := 3, hs := 2, hb := 4, hh := 6, hbc := 8 } c (fun i => 10 + 2 * i) [1, 2, 3] (some (.int s ts)) (j + 1) jf ss (pre ++ [.bool (stV c [1, 2, 3] s)]) (ep + 1)) z6 })))))
noncomputable def H_scM3 (P : Params) (q : Sq) (c : Nat → Col) (hc : Nat → Nat) (sv : Option Value) (j jf s : Int) (ts : Nat) (ss : List Int) (pre : List Value) (ep : Nat) (n tk : Nat) : HT := .go [3,1] (.cut (cLNext 1 2 q.it q.sza q.SL q.es j (.int s ts)) fun z0 => .go [7,3,6,7,0,10,10,10,1] (.cut (cGetC c (fun i => 10 + 2 * i) (c 0).a (s - 1) (z0 1 + 1) (colV (c 0) s) (colT (c 0) s)) fun z1 => .go [0,0,8,4,4,0,4,9,1] (.cut (cIcS P { L := q.L, L' := (z1 0 + 2), it := (z1 0), acc := (z1 0 + 1), ba := q.ba, sa := q.sa, s := s, ts := ts, B := refs c [1, 2, 3], eb := q.eb, i0 := 6, i1 := 4, i2 := 5, hb := 4, hs := 7 } c (fun i => 10 + 2 * i) 3 [1, 2, 3]) fun z2 => (H_scM3k1 P q c j jf s ts ss pre ep z1 z2))))
theorem r_scM3 (P : Params) (b1 b2 : Bool) (q : Sq) (c : Nat → Col) (hc : Nat → Nat) (sv : Option Value) (j jf s : Int) (ts : Nat) (ss : List Int) (pre : List Value) (ep : Nat) (n tk : Nat) : (RunC (parOf P b1 b2) (cSc (parOf P b1 b2) q c hc [1, 2, 3] sv j jf (s :: ss) pre ep) 400 (H_scM3 (parOf P b1 b2) q c hc sv j jf s ts ss pre ep n tk) n tk).Ok := by
  cases b1 <;> (show OT.l _ = OT.r _; kernel_rfl)
noncomputable def H_scM4k1 (P : Params) (q : Sq) (c : Nat → Col) (j jf s : Int) (ts : Nat) (ss : List Int) (pre : List Value) (ep : Nat) (z1 z2 : Nat → Nat) : HT := .go [13,13,6,1] (.cut (cMinL 11 (z1 0 + 1) (cvL c s [1, 2, 3, 4]) (z2 4) (minC c s [1, 2, 3, 4])) fun z3 => .go [1] (.cut (cLt (colV (c 0) s) (minC c s [1, 2, 3, 4]) (colT (c 0) s) (z3 2) (stV c [1, 2, 3, 4] s)) fun z4 => .go [1] (.cut (cApp 2 q.acc pre ep (.bool (stV c [1, 2, 3, 4] s))) fun z5 => .go [] (.cut (cSc P { q with i0 := 0, i1 := 1, i2 := 2, i3 := 3, hs := 2, hb := 4, hh := 6, hbc := 8 } c (fun i => 10 + 2 * i) [1, 2, 3, 4] (some (.int s ts)) (j + 1) jf ss (pre ++ [.bool (stV c [1, 2, 3, 4] s)]) (ep + 1)) fun z6 => .go [] (.nil { res := .ok Flow.next, exp := expOf (cSc P { q with i0 := 0, i1 := 1, i2 := 2, i3 := 3, hs := 2, hb := 4, hh := 6, hbc := 8 } c (fun i => 10 + 2 * i) [1, 2, 3, 4] (some (.int s ts)) (j + 1) jf ss (pre ++ [.bool (stV c [1, 2, 3, 4] s)]) (ep + 1)) z6 })))))
noncomputable def H_scM4 (P : Params) (q : Sq) (c : Nat → Col) (hc : Nat → Nat) (sv : Option Value) (j jf s : Int) (ts : Nat) (ss : List Int) (pre : List Value) (ep : Nat) (n tk : Nat) : HT := .go [3,1] (.cut (cLNext 1 2 q.it q.sza q.SL q.es j (.int s ts)) fun z0 => .go [7,3,6,7,0,10,10,10,1] (.cut (cGetC c (fun i => 10 + 2 * i) (c 0).a (s - 1) (z0 1 + 1) (colV (c 0) s) (colT (c 0) s)) fun z1 => .go [0,0,8,4,4,0,4,9,1] (.cut (cIcS P { L := q.L, L' := (z1 0 + 2), it := (z1 0), acc := (z1 0 + 1), ba := q.ba, sa := q.sa, s := s, ts := ts, B := refs c [1, 2, 3, 4], eb := q.eb, i0 := 6, i1 := 4, i2 := 5, hb := 4, hs := 7 } c (fun i => 10 + 2 * i) 4 [1, 2, 3, 4]) fun z2 => (H_scM4k1 P q c j jf s ts ss pre ep z1 z2))))
theorem r_scM4 (P : Params) (b1 b2 : Bool) (q : Sq) (c : Nat → Col) (hc : Nat → Nat) (sv : Option Value) (j jf s : Int) (ts : Nat) (ss : List Int) (pre : List Value) (ep : Nat) (n tk : Nat) : (RunC (parOf P b1 b2) (cSc (parOf P b1 b2) q c hc [1, 2, 3, 4] sv j jf (s :: ss) pre ep) 400 (H_scM4 (parOf P b1 b2) q c hc sv j jf s ts ss pre ep n tk) n tk).Ok := by
  cases b1 <;> (show OT.l _ = OT.r _; kernel_rfl)
noncomputable def H_scE (P : Params) (q : Sq) (c : Nat → Col) (hc : Nat → Nat) (is : List Nat) (sv : Option Value) (j : Int) (pre : List Value) (ep : Nat) (n tk : Nat) : HT := .go [3,1] (.cut (cLEnd 1 2 q.it q.sza q.SL q.es j) fun z0 => .go [22] (.nil { res := .ok Flow.next, exp := [(1, (q.L', dcO [] 0)), (3, (q.it, liI .none j)), (5, (q.acc, liO pre ep)), (7, (q.sa, ceO sv))] }))
theorem r_scE (P : Params) (b1 b2 : Bool) (q : Sq) (c : Nat → Col) (hc : Nat → Nat) (is : List Nat) (sv : Option Value) (j : Int) (pre : List Value) (ep : Nat) (n tk : Nat) : (RunC (parOf P b1 b2) (cSc (parOf P b1 b2) q c hc is sv j j [] pre ep) 400 (H_scE (parOf P b1 b2) q c hc is sv j pre ep n tk) n tk).Ok := by
  cases b1 <;> (show OT.l _ = OT.r _; kernel_rfl)
noncomputable def H_scS (P : Params) (b2 : Bool) (q : Sq) (c : Nat → Col) (hc : Nat → Nat) (is : List Nat) (jf : Int) (ss : List Int) (n tk : Nat) : HT := match b2 with
  | true => .go [] (.cut (cSc P { q with i0 := 0, i1 := 1, i2 := 2, i3 := 3, hs := 2, hb := 4, hh := 6, hbc := 8 } c (fun i => 10 + 2 * i) is none 0 jf ss [] 0) fun z0 => .go [] (.nil { res := .ok Flow.next, exp := expOf (cSc P { q with i0 := 0, i1 := 1, i2 := 2, i3 := 3, hs := 2, hb := 4, hh := 6, hbc := 8 } c (fun i => 10 + 2 * i) is none 0 jf ss [] 0) z0 }))
  | false => .go [3,3,0,3,3] (.cut (cSc P { q with i0 := 0, i1 := 1, i2 := 2, i3 := 3, hs := 2, hb := 4, hh := 6, hbc := 8 } c (fun i => 10 + 2 * i) is none 0 jf ss [] 0) fun z0 => .go [] (.nil { res := .ok Flow.next, exp := expOf (cSc P { q with i0 := 0, i1 := 1, i2 := 2, i3 := 3, hs := 2, hb := 4, hh := 6, hbc := 8 } c (fun i => 10 + 2 * i) is none 0 jf ss [] 0) z0 }))
theorem r_scS (P : Params) (b1 b2 : Bool) (q : Sq) (c : Nat → Col) (hc : Nat → Nat) (is : List Nat) (jf : Int) (ss : List Int) (n tk : Nat) : (RunC (parOf P b1 b2) (cScS (parOf P b1 b2) q c hc is jf ss) 400 (H_scS (parOf P b1 b2) b2 q c hc is jf ss n tk) n tk).Ok := by
  cases b1 <;> cases b2 <;> (show OT.l _ = OT.r _; kernel_rfl)
noncomputable def H_abM1Tk2 (P : Params) (q : Aq) (c : Nat → Col) (ss : List Int) (ow : List Nat) (to : Nat) (pl : Int) (tp : Nat) (a left af lf : Int) (k5 k6 : Nat) (z0 z2 z4 z5 : Nat → Nat) : HT := .go [1] (.cut (cStrAt ({ cps := { toList := [97, 98, 99, 100, 101, 102, 103, 104, 105, 106] } }) (z4 1) (ow.length : Nat) (z5 2) (97 + ow.length)) fun z6 => .go [1] (.cut (cStrAdd ⟨⟨ow⟩⟩ ⟨⟨[97 + ow.length]⟩⟩ to (z6 2) ⟨⟨ow ++ [97 + ow.length]⟩⟩) fun z7 => .go [1,0] (.cut (cAb P { q with i0 := 0, i1 := 1, i2 := 2, i3 := 3, hr := 2, hs := 4 } (shc 1 c) (fun i => 6 + 2 * min (i + 1) 1) ss 0 (ow ++ [97 + ow.length]) (z7 2) pl tp (restX P k5 k6 a (z0 2) (z2 0 + 1)) 6 (a + 1) (left - 1) af lf (some (.ref (c 0).a)) (some (.ref (z2 2)))) fun z8 => .go [] (.nil { res := .ok Flow.next, exp := expOf (cAb P { q with i0 := 0, i1 := 1, i2 := 2, i3 := 3, hr := 2, hs := 4 } (shc 1 c) (fun i => 6 + 2 * min (i + 1) 1) ss 0 (ow ++ [97 + ow.length]) (z7 2) pl tp (restX P k5 k6 a (z0 2) (z2 0 + 1)) 6 (a + 1) (left - 1) af lf (some (.ref (c 0).a)) (some (.ref (z2 2)))) z8 }))))
noncomputable def H_abM1Tk1 (P : Params) (q : Aq) (c : Nat → Col) (ss : List Int) (ow : List Nat) (to : Nat) (pl : Int) (tp : Nat) (a left af lf jf : Int) (k5 k6 : Nat) (z0 z2 : Nat → Nat) : HT := .go [7,3,1,4,4,0,4,13,1] (.cut (cScS P { L := q.L, L' := (z2 0 + 2), it := (z2 0), acc := (z2 0 + 1), sza := q.sza, ba := z2 2, sa := (z2 0 + 3), ha := q.ha, hb' := q.hb', SL := q.SL, es := q.es, eb := 0, i0 := 8, i1 := 6, i2 := 7, i3 := 9, hs := 4, hb := 11, hh := 5, hbc := 7 } c (fun i => 6 + 2 * i) [1] jf ss) fun z3 => .go [1,0,1,1,15,15,1] (.cut (cInF 15 (z2 0 + 1) (ss.map fun s => .bool (stV c [1] s)) (z3 2) true) fun z4 => .go [0,0,1,1] (.cut (cLenS ⟨⟨ow⟩⟩ to (ow.length : Nat)) fun z5 => (H_abM1Tk2 P q c ss ow to pl tp a left af lf k5 k6 z0 z2 z4 z5))))
noncomputable def H_abM1T (P : Params) (q : Aq) (c : Nat → Col) (hc : Nat → Nat) (ss : List Int) (ow : List Nat) (to : Nat) (pl : Int) (tp : Nat) (a left af lf jf : Int) (hv bv : Option Value) (k5 k6 : Nat) (a' : Int) (ta' sa' : Nat) (n tk : Nat) : HT := .go [3,1] (.cut (cRNext 1 q.it a left 1) fun z0 => .go [1,0,1,1,2,2,2,1] (.cut (cGet 2 q.ca q.RL q.er a (z0 2) (.ref (c 0).a)) fun z1 => .go [5,2,1,1,0,1,0,2,2,2,1] (.cut (cSlice 2 9 q.ca (z1 0) q.RL q.er (Value.int (a + 1) (z1 1 + 1)) (Value.int (pl + 1) (z1 1 + 3)) Value.none (refs c [1])) fun z2 => (H_abM1Tk1 P q c ss ow to pl tp a left af lf jf k5 k6 z0 z2))))
theorem r_abM1T (P : Params) (b1 b2 : Bool) (q : Aq) (c : Nat → Col) (hc : Nat → Nat) (ss : List Int) (ow : List Nat) (to : Nat) (pl : Int) (tp : Nat) (a left af lf jf : Int) (hv bv : Option Value) (k5 k6 : Nat) (a' : Int) (ta' sa' : Nat) (n tk : Nat) : (RunC (parOf P b1 b2) (cAb (parOf P b1 b2) q c hc ss 1 ow to pl tp (restX (parOf P b1 b2) k5 k6 a' ta' sa') 6 a left af lf hv bv) 400 (H_abM1T (parOf P b1 b2) q c hc ss ow to pl tp a left af lf jf hv bv k5 k6 a' ta' sa' n tk) n tk).Ok := by
  cases b1 <;> (show OT.l _ = OT.r _; kernel_rfl)
noncomputable def H_abM1T0k2 (P : Params) (q : Aq) (c : Nat → Col) (ss : List Int) (ow : List Nat) (to : Nat) (pl : Int) (tp : Nat) (a left af lf : Int) (z0 z2 z3 z4 z5 : Nat → Nat) : HT := .go [1] (.cut (cStrAt ({ cps := { toList := [97, 98, 99, 100, 101, 102, 103, 104, 105, 106] } }) (z4 1) (ow.length : Nat) (z5 2) (97 + ow.length)) fun z6 => .go [1] (.cut (cStrAdd ⟨⟨ow⟩⟩ ⟨⟨[97 + ow.length]⟩⟩ to (z6 2) ⟨⟨ow ++ [97 + ow.length]⟩⟩) fun z7 => .go [1,0] (.cut (cAb P { q with i0 := 0, i1 := 1, i2 := 2, i3 := 3, hr := 2, hs := 4 } (shc 1 c) (fun i => 6 + 2 * min (i + 1) 1) ss 0 (ow ++ [97 + ow.length]) (z7 2) pl tp (restX P (z0 1) (z3 1) a (z0 2) (z2 0 + 1)) 6 (a + 1) (left - 1) af lf (some (.ref (c 0).a)) (some (.ref (z2 2)))) fun z8 => .go [] (.nil { res := .ok Flow.next, exp := expOf (cAb P { q with i0 := 0, i1 := 1, i2 := 2, i3 := 3, hr := 2, hs := 4 } (shc 1 c) (fun i => 6 + 2 * min (i + 1) 1) ss 0 (ow ++ [97 + ow.length]) (z7 2) pl tp (restX P (z0 1) (z3 1) a (z0 2) (z2 0 + 1)) 6 (a + 1) (left - 1) af lf (some (.ref (c 0).a)) (some (.ref (z2 2)))) z8 }))))
noncomputable def H_abM1T0k1 (P : Params) (q : Aq) (c : Nat → Col) (ss : List Int) (ow : List Nat) (to : Nat) (pl : Int) (tp : Nat) (a left af lf jf : Int) (z0 z2 : Nat → Nat) : HT := .go [7,3,1,4,4,0,4,13,1] (.cut (cScS P { L := q.L, L' := (z2 0 + 2), it := (z2 0), acc := (z2 0 + 1), sza := q.sza, ba := z2 2, sa := (z2 0 + 3), ha := q.ha, hb' := q.hb', SL := q.SL, es := q.es, eb := 0, i0 := 8, i1 := 6, i2 := 7, i3 := 9, hs := 4, hb := 11, hh := 5, hbc := 7 } c (fun i => 6 + 2 * i) [1] jf ss) fun z3 => .go [1,0,1,1,15,15,1] (.cut (cInF 15 (z2 0 + 1) (ss.map fun s => .bool (stV c [1] s)) (z3 2) true) fun z4 => .go [0,0,1,1] (.cut (cLenS ⟨⟨ow⟩⟩ to (ow.length : Nat)) fun z5 => (H_abM1T0k2 P q c ss ow to pl tp a left af lf z0 z2 z3 z4 z5))))
noncomputable def H_abM1T0 (P : Params) (q : Aq) (c : Nat → Col) (hc : Nat → Nat) (ss : List Int) (ow : List Nat) (to : Nat) (pl : Int) (tp : Nat) (a left af lf jf : Int) (hv bv : Option Value) (n tk : Nat) : HT := .go [3,1] (.cut (cRNext 1 q.it a left 1) fun z0 => .go [1,0,1,1,2,2,2,1] (.cut (cGet 2 q.ca q.RL q.er a (z0 2) (.ref (c 0).a)) fun z1 => .go [5,2,1,1,0,1,0,2,2,2,1] (.cut (cSlice 2 9 q.ca (z1 0) q.RL q.er (Value.int (a + 1) (z1 1 + 1)) (Value.int (pl + 1) (z1 1 + 3)) Value.none (refs c [1])) fun z2 => (H_abM1T0k1 P q c ss ow to pl tp a left af lf jf z0 z2))))
theorem r_abM1T0 (P : Params) (b1 b2 : Bool) (q : Aq) (c : Nat → Col) (hc : Nat → Nat) (ss : List Int) (ow : List Nat) (to : Nat) (pl : Int) (tp : Nat) (a left af lf jf : Int) (hv bv : Option Value) (n tk : Nat) : (RunC (parOf P b1 b2) (cAb (parOf P b1 b2) q c hc ss 1 ow to pl tp [] 4 a left af lf hv bv) 400 (H_abM1T0 (parOf P b1 b2) q c hc ss ow to pl tp a left af lf jf hv bv n tk) n tk).Ok := by
  cases b1 <;> (show OT.l _ = OT.r _; kernel_rfl)
noncomputable def H_abM1Fk2 (P : Params) (q : Aq) (c : Nat → Col) (ss : List Int) (ow : List Nat) (to : Nat) (pl : Int) (tp : Nat) (a left af lf : Int) (k5 k6 : Nat) (z0 z2 z4 z5 : Nat → Nat) : HT := .go [1] (.cut (cStrAt ({ cps := { toList := [65, 66, 67, 68, 69, 70, 71, 72, 73, 74] } }) (z4 1) (ow.length : Nat) (z5 2) (65 + ow.length)) fun z6 => .go [1] (.cut (cStrAdd ⟨⟨ow⟩⟩ ⟨⟨[65 + ow.length]⟩⟩ to (z6 2) ⟨⟨ow ++ [65 + ow.length]⟩⟩) fun z7 => .go [1,0] (.cut (cAb P { q with i0 := 0, i1 := 1, i2 := 2, i3 := 3, hr := 2, hs := 4 } (shc 1 c) (fun i => 6 + 2 * min (i + 1) 1) ss 0 (ow ++ [65 + ow.length]) (z7 2) pl tp (restX P k5 k6 a (z0 2) (z2 0 + 1)) 6 (a + 1) (left - 1) af lf (some (.ref (c 0).a)) (some (.ref (z2 2)))) fun z8 => .go [] (.nil { res := .ok Flow.next, exp := expOf (cAb P { q with i0 := 0, i1 := 1, i2 := 2, i3 := 3, hr := 2, hs := 4 } (shc 1 c) (fun i => 6 + 2 * min (i + 1) 1) ss 0 (ow ++ [65 + ow.length]) (z7 2) pl tp (restX P k5 k6 a (z0 2) (z2 0 + 1)) 6 (a + 1) (left - 1) af lf (some (.ref (c 0).a)) (some (.ref (z2 2)))) z8 }))))
noncomputable def H_abM1Fk1 (P : Params) (q : Aq) (c : Nat → Col) (ss : List Int) (ow : List Nat) (to : Nat) (pl : Int) (tp : Nat) (a left af lf jf : Int) (k5 k6 : Nat) (z0 z2 : Nat → Nat) : HT := .go [7,3,1,4,4,0,4,13,1] (.cut (cScS P { L := q.L, L' := (z2 0 + 2), it := (z2 0), acc := (z2 0 + 1), sza := q.sza, ba := z2 2, sa := (z2 0 + 3), ha := q.ha, hb' := q.hb', SL := q.SL, es := q.es, eb := 0, i0 := 8, i1 := 6, i2 := 7, i3 := 9, hs := 4, hb := 11, hh := 5, hbc := 7 } c (fun i => 6 + 2 * i) [1] jf ss) fun z3 => .go [1,0,1,1,15,15,1] (.cut (cInF 15 (z2 0 + 1) (ss.map fun s => .bool (stV c [1] s)) (z3 2) false) fun z4 => .go [0,0,1,1] (.cut (cLenS ⟨⟨ow⟩⟩ to (ow.length : Nat)) fun z5 => (H_abM1Fk2 P q c ss ow to pl tp a left af lf k5 k6 z0 z2 z4 z5))))
noncomputable def H_abM1F (P : Params) (q : Aq) (c : Nat → Col) (hc : Nat → Nat) (ss : List Int) (ow : List Nat) (to : Nat) (pl : Int) (tp : Nat) (a left af lf jf : Int) (hv bv : Option Value) (k5 k6 : Nat) (a' : Int) (ta' sa' : Nat) (n tk : Nat) : HT := .go [3,1] (.cut (cRNext 1 q.it a left 1) fun z0 => .go [1,0,1,1,2,2,2,1] (.cut (cGet 2 q.ca q.RL q.er a (z0 2) (.ref (c 0).a)) fun z1 => .go [5,2,1,1,0,1,0,2,2,2,1] (.cut (cSlice 2 9 q.ca (z1 0) q.RL q.er (Value.int (a + 1) (z1 1 + 1)) (Value.int (pl + 1) (z1 1 + 3)) Value.none (refs c [1])) fun z2 => (H_abM1Fk1 P q c ss ow to pl tp a left af lf jf k5 k6 z0 z2))))
theorem r_abM1F (P : Params) (b1 b2 : Bool) (q : Aq) (c : Nat → Col) (hc : Nat → Nat) (ss : List Int) (ow : List Nat) (to : Nat) (pl : Int) (tp : Nat) (a left af lf jf : Int) (hv bv : Option Value) (k5 k6 : Nat) (a' : Int) (ta' sa' : Nat) (n tk : Nat) : (RunC (parOf P b1 b2) (cAb (parOf P b1 b2) q c hc ss 1 ow to pl tp (restX (parOf P b1 b2) k5 k6 a' ta' sa') 6 a left af lf hv bv) 400 (H_abM1F (parOf P b1 b2) q c hc ss ow to pl tp a left af lf jf hv bv k5 k6 a' ta' sa' n tk) n tk).Ok := by
  cases b1 <;> (show OT.l _ = OT.r _; kernel_rfl)
noncomputable def H_abM1F0k2 (P : Params) (q : Aq) (c : Nat → Col) (ss : List Int) (ow : List Nat) (to : Nat) (pl : Int) (tp : Nat) (a left af lf : Int) (z0 z2 z3 z4 z5 : Nat → Nat) : HT := .go [1] (.cut (cStrAt ({ cps := { toList := [65, 66, 67, 68, 69, 70, 71, 72, 73, 74] } }) (z4 1) (ow.length : Nat) (z5 2) (65 + ow.length)) fun z6 => .go [1] (.cut (cStrAdd ⟨⟨ow⟩⟩ ⟨⟨[65 + ow.length]⟩⟩ to (z6 2) ⟨⟨ow ++ [65 + ow.length]⟩⟩) fun z7 => .go [1,0] (.cut (cAb P { q with i0 := 0, i1 := 1, i2 := 2, i3 := 3, hr := 2, hs := 4 } (shc 1 c) (fun i => 6 + 2 * min (i + 1) 1) ss 0 (ow ++ [65 + ow.length]) (z7 2) pl tp (restX P (z0 1) (z3 1) a (z0 2) (z2 0 + 1)) 6 (a + 1) (left - 1) af lf (some (.ref (c 0).a)) (some (.ref (z2 2)))) fun z8 => .go [] (.nil { res := .ok Flow.next, exp := expOf (cAb P { q with i0 := 0, i1 := 1, i2 := 2, i3 := 3, hr := 2, hs := 4 } (shc 1 c) (fun i => 6 + 2 * min (i + 1) 1) ss 0 (ow ++ [65 + ow.length]) (z7 2) pl tp (restX P (z0 1) (z3 1) a (z0 2) (z2 0 + 1)) 6 (a + 1) (left - 1) af lf (some (.ref (c 0).a)) (some (.ref (z2 2)))) z8 }))))
noncomputable def H_abM1F0k1 (P : Params) (q : Aq) (c : Nat → Col) (ss : List Int) (ow : List Nat) (to : Nat) (pl : Int) (tp : Nat) (a left af lf jf : Int) (z0 z2 : Nat → Nat) : HT := .go [7,3,1,4,4,0,4,13,1] (.cut (cScS P { L := q.L, L' := (z2 0 + 2), it := (z2 0), acc := (z2 0 + 1), sza := q.sza, ba := z2 2, sa := (z2 0 + 3), ha := q.ha, hb' := q.hb', SL := q.SL, es := q.es, eb := 0, i0 := 8, i1 := 6, i2 := 7, i3 := 9, hs := 4, hb := 11, hh := 5, hbc := 7 } c (fun i => 6 + 2 * i) [1] jf ss) fun z3 => .go [1,0,1,1,15,15,1] (.cut (cInF 15 (z2 0 + 1) (ss.map fun s => .bool (stV c [1] s)) (z3 2) false) fun z4 => .go [0,0,1,1] (.cut (cLenS ⟨⟨ow⟩⟩ to (ow.length : Nat)) fun z5 => (H_abM1F0k2 P q c ss ow to pl tp a left af lf z0 z2 z3 z4 z5))))
noncomputable def H_abM1F0 (P : Params) (q : Aq) (c : Nat → Col) (hc : Nat → Nat) (ss : List Int) (ow : List Nat) (to : Nat) (pl : Int) (tp : Nat) (a left af lf jf : Int) (hv bv : Option Value) (n tk : Nat) : HT := .go [3,1] (.cut (cRNext 1 q.it a left 1) fun z0 => .go [1,0,1,1,2,2,2,1] (.cut (cGet 2 q.ca q.RL q.er a (z0 2) (.ref (c 0).a)) fun z1 => .go [5,2,1,1,0,1,0,2,2,2,1] (.cut (cSlice 2 9 q.ca (z1 0) q.RL q.er (Value.int (a + 1) (z1 1 + 1)) (Value.int (pl + 1) (z1 1 + 3)) Value.none (refs c [1])) fun z2 => (H_abM1F0k1 P q c ss ow to pl tp a left af lf jf z0 z2))))
theorem r_abM1F0 (P : Params) (b1 b2 : Bool) (q : Aq) (c : Nat → Col) (hc : Nat → Nat) (ss : List Int) (ow : List Nat) (to : Nat) (pl : Int) (tp : Nat) (a left af lf jf : Int) (hv bv : Option Value) (n tk : Nat) : (RunC (parOf P b1 b2) (cAb (parOf P b1 b2) q c hc ss 1 ow to pl tp [] 4 a left af lf hv bv) 400 (H_abM1F0 (parOf P b1 b2) q c hc ss ow to pl tp a left af lf jf hv bv n tk) n tk).Ok := by
  cases b1 <;> (show OT.l _ = OT.r _; kernel_rfl)
noncomputable def H_abM2Tk2 (P : Params) (q : Aq) (c : Nat → Col) (ss : List Int) (ow : List Nat) (to : Nat) (pl : Int) (tp : Nat) (a left af lf : Int) (k5 k6 : Nat) (z0 z2 z4 z5 : Nat → Nat) : HT := .go [1] (.cut (cStrAt ({ cps := { toList := [97, 98, 99, 100, 101, 102, 103, 104, 105, 106] } }) (z4 1) (ow.length : Nat) (z5 2) (97 + ow.length)) fun z6 => .go [1] (.cut (cStrAdd ⟨⟨ow⟩⟩ ⟨⟨[97 + ow.length]⟩⟩ to (z6 2) ⟨⟨ow ++ [97 + ow.length]⟩⟩) fun z7 => .go [1,0] (.cut (cAb P { q with i0 := 0, i1 := 1, i2 := 2, i3 := 3, hr := 2, hs := 4 } (shc 2 c) (fun i => 6 + 2 * min (i + 1) 2) ss 1 (ow ++ [97 + ow.length]) (z7 2) pl tp (restX P k5 k6 a (z0 2) (z2 0 + 1)) 6 (a + 1) (left - 1) af lf (some (.ref (c 0).a)) (some (.ref (z2 2)))) fun z8 => .go [] (.nil { res := .ok Flow.next, exp := expOf (cAb P { q with i0 := 0, i1 := 1, i2 := 2, i3 := 3, hr := 2, hs := 4 } (shc 2 c) (fun i => 6 + 2 * min (i + 1) 2) ss 1 (ow ++ [97 + ow.length]) (z7 2) pl tp (restX P k5 k6 a (z0 2) (z2 0 + 1)) 6 (a + 1) (left - 1) af lf (some (.ref (c 0).a)) (some (.ref (z2 2)))) z8 }))))
noncomputable def H_abM2Tk1 (P : Params) (q : Aq) (c : Nat → Col) (ss : List Int) (ow : List Nat) (to : Nat) (pl : Int) (tp : Nat) (a left af lf jf : Int) (k5 k6 : Nat) (z0 z2 : Nat → Nat) : HT := .go [7,3,1,4,4,0,4,13,1] (.cut (cScS P { L := q.L, L' := (z2 0 + 2), it := (z2 0), acc := (z2 0 + 1), sza := q.sza, ba := z2 2, sa := (z2 0 + 3), ha := q.ha, hb' := q.hb', SL := q.SL, es := q.es, eb := 0, i0 := 8, i1 := 6, i2 := 7, i3 := 9, hs := 4, hb := 11, hh := 5, hbc := 7 } c (fun i => 6 + 2 * i) [1, 2] jf ss) fun z3 => .go [1,0,1,1,15,15,1] (.cut (cInF 15 (z2 0 + 1) (ss.map fun s => .bool (stV c [1, 2] s)) (z3 2) true) fun z4 => .go [0,0,1,1] (.cut (cLenS ⟨⟨ow⟩⟩ to (ow.length : Nat)) fun z5 => (H_abM2Tk2 P q c ss ow to pl tp a left af lf k5 k6 z0 z2 z4 z5))))
noncomputable def H_abM2T (P : Params) (q : Aq) (c : Nat → Col) (hc : Nat → Nat) (ss : List Int) (ow : List Nat) (to : Nat) (pl : Int) (tp : Nat) (a left af lf jf : Int) (hv bv : Option Value) (k5 k6 : Nat) (a' : Int) (ta' sa' : Nat) (n tk : Nat) : HT := .go [3,1] (.cut (cRNext 1 q.it a left 1) fun z0 => .go [1,0,1,1,2,2,2,1] (.cut (cGet 2 q.ca q.RL q.er a (z0 2) (.ref (c 0).a)) fun z1 => .go [5,2,1,1,0,1,0,2,2,2,1] (.cut (cSlice 2 9 q.ca (z1 0) q.RL q.er (Value.int (a + 1) (z1 1 + 1)) (Value.int (pl + 1) (z1 1 + 3)) Value.none (refs c [1, 2])) fun z2 => (H_abM2Tk1 P q c ss ow to pl tp a left af lf jf k5 k6 z0 z2))))
theorem r_abM2T (P : Params) (b1 b2 : Bool) (q : Aq) (c : Nat → Col) (hc : Nat → Nat) (ss : List Int) (ow : List Nat) (to : Nat) (pl : Int) (tp : Nat) (a left af lf jf : Int) (hv bv : Option Value) (k5 k6 : Nat) (a' : Int) (ta' sa' : Nat) (n tk : Nat) : (RunC (parOf P b1 b2) (cAb (parOf P b1 b2) q c hc ss 2 ow to pl tp (restX (parOf P b1 b2) k5 k6 a' ta' sa') 6 a left af lf hv bv) 400 (H_abM2T (parOf P b1 b2) q c hc ss ow to pl tp a left af lf jf hv bv k5 k6 a' ta' sa' n tk) n tk).Ok := by
  cases b1 <;> (show OT.l _ = OT.r _; kernel_rfl)
noncomputable def H_abM2T0k2 (P : Params) (q : Aq) (c : Nat → Col) (ss : List Int) (ow : List Nat) (to : Nat) (pl : Int) (tp : Nat) (a left af lf : Int) (z0 z2 z3 z4 z5 : Nat → Nat) : HT := .go [1] (.cut (cStrAt ({ cps := { toList := [97, 98, 99, 100, 101, 102, 103, 104, 105, 106] } }) (z4 1) (ow.length : Nat) (z5 2) (97 + ow.length)) fun z6 => .go [1] (.cut (cStrAdd ⟨⟨ow⟩⟩ ⟨⟨[97 + ow.length]⟩⟩ to (z6 2) ⟨⟨ow ++ [97 + ow.length]⟩⟩) fun z7 => .go [1,0] (.cut (cAb P { q with i0 := 0, i1 := 1, i2 := 2, i3 := 3, hr := 2, hs := 4 } (shc 2 c) (fun i => 6 + 2 * min (i + 1) 2) ss 1 (ow ++ [97 + ow.length]) (z7 2) pl tp (restX P (z0 1) (z3 1) a (z0 2) (z2 0 + 1)) 6 (a + 1) (left - 1) af lf (some (.ref (c 0).a)) (some (.ref (z2 2)))) fun z8 => .go [] (.nil { res := .ok Flow.next, exp := expOf (cAb P { q with i0 := 0, i1 := 1, i2 := 2, i3 := 3, hr := 2, hs := 4 } (shc 2 c) (fun i => 6 + 2 * min (i + 1) 2) ss 1 (ow ++ [97 + ow.length]) (z7 2) pl tp (restX P (z0 1) (z3 1) a (z0 2) (z2 0 + 1)) 6 (a + 1) (left - 1) af lf (some (.ref (c 0).a)) (some (.ref (z2 2)))) z8 }))))
noncomputable def H_abM2T0k1 (P : Params) (q : Aq) (c : Nat → Col) (ss : List Int) (ow : List Nat) (to : Nat) (pl : Int) (tp : Nat) (a left af lf jf : Int) (z0 z2 : Nat → Nat) : HT := .go [7,3,1,4,4,0,4,13,1] (.cut (cScS P { L := q.L, L' := (z2 0 + 2), it := (z2 0), acc := (z2 0 + 1), sza := q.sza, ba := z2 2, sa := (z2 0 + 3), ha := q.ha, hb' := q.hb', SL := q.SL, es := q.es, eb := 0, i0 := 8, i1 := 6, i2 := 7, i3 := 9, hs := 4, hb := 11, hh := 5, hbc := 7 } c (fun i => 6 + 2 * i) [1, 2] jf ss) fun z3 => .go [1,0,1,1,15,15,1] (.cut (cInF 15 (z2 0 + 1) (ss.map fun s => .bool (stV c [1, 2] s)) (z3 2) true) fun z4 => .go [0,0,1,1] (.cut (cLenS ⟨⟨ow⟩⟩ to (ow.length : Nat)) fun z5 => (H_abM2T0k2 P q c ss ow to pl tp a left af lf z0 z2 z3 z4 z5))))
noncomputable def H_abM2T0 (P : Params) (q : Aq) (c : Nat → Col) (hc : Nat → Nat) (ss : List Int) (ow : List Nat) (to : Nat) (pl : Int) (tp : Nat) (a left af lf jf : Int) (hv bv : Option Value) (n tk : Nat) : HT := .go [3,1] (.cut (cRNext 1 q.it a left 1) fun z0 => .go [1,0,1,1,2,2,2,1] (.cut (cGet 2 q.ca q.RL q.er a (z0 2) (.ref (c 0).a)) fun z1 => .go [5,2,1,1,0,1,0,2,2,2,1] (.cut (cSlice 2 9 q.ca (z1 0) q.RL q.er (Value.int (a + 1) (z1 1 + 1)) (Value.int (pl + 1) (z1 1 + 3)) Value.none (refs c [1, 2])) fun z2 => (H_abM2T0k1 P q c ss ow to pl tp a left af lf jf z0 z2))))
theorem r_abM2T0 (P : Params) (b1 b2 : Bool) (q : Aq) (c : Nat → Col) (hc : Nat → Nat) (ss : List Int) (ow : List Nat) (to : Nat) (pl : Int) (tp : Nat) (a left af lf jf : Int) (hv bv : Option Value) (n tk : Nat) : (RunC (parOf P b1 b2) (cAb (parOf P b1 b2) q c hc ss 2 ow to pl tp [] 4 a left af lf hv bv) 400 (H_abM2T0 (parOf P b1 b2) q c hc ss ow to pl tp a left af lf jf hv bv n tk) n tk).Ok := by
  cases b1 <;> (show OT.l _ = OT.r _; kernel_rfl)
noncomputable def H_abM2Fk2 (P : Params) (q : Aq) (c : Nat → Col) (ss : List Int) (ow : List Nat) (to : Nat) (pl : Int) (tp : Nat) (a left af lf : Int) (k5 k6 : Nat) (z0 z2 z4 z5 : Nat → Nat) : HT := .go [1] (.cut (cStrAt ({ cps := { toList := [65, 66, 67, 68, 69, 70, 71, 72, 73, 74] } }) (z4 1) (ow.length : Nat) (z5 2) (65 + ow.length)) fun z6 => .go [1] (.cut (cStrAdd ⟨⟨ow⟩⟩ ⟨⟨[65 + ow.length]⟩⟩ to (z6 2) ⟨⟨ow ++ [65 + ow.length]⟩⟩) fun z7 => .go [1,0] (.cut (cAb P { q with i0 := 0, i1 := 1, i2 := 2, i3 := 3, hr := 2, hs := 4 } (shc 2 c) (fun i => 6 + 2 * min (i + 1) 2) ss 1 (ow ++ [65 + ow.length]) (z7 2) pl tp (restX P k5 k6 a (z0 2) (z2 0 + 1)) 6 (a + 1) (left - 1) af lf (some (.ref (c 0).a)) (some (.ref (z2 2)))) fun z8 => .go [] (.nil { res := .ok Flow.next, exp := expOf (cAb P { q with i0 := 0, i1 := 1, i2 := 2, i3 := 3, hr := 2, hs := 4 } (shc 2 c) (fun i => 6 + 2 * min (i + 1) 2) ss 1 (ow ++ [65 + ow.length]) (z7 2) pl tp (restX P k5 k6 a (z0 2) (z2 0 + 1)) 6 (a + 1) (left - 1) af lf (some (.ref (c 0).a)) (some (.ref (z2 2)))) z8 }))))
noncomputable def H_abM2Fk1 (P : Params) (q : Aq) (c : Nat → Col) (ss : List Int) (ow : List Nat) (to : Nat) (pl : Int) (tp : Nat) (a left af lf jf : Int) (k5 k6 : Nat) (z0 z2 : Nat → Nat) : HT := .go [7,3,1,4,4,0,4,13,1] (.cut (cScS P { L := q.L, L' := (z2 0 + 2), it := (z2 0), acc := (z2 0 + 1), sza := q.sza, ba := z2 2, sa := (z2 0 + 3), ha := q.ha, hb' := q.hb', SL := q.SL, es := q.es, eb := 0, i0 := 8, i1 := 6, i2 := 7, i3 := 9, hs := 4, hb := 11, hh := 5, hbc := 7 } c (fun i => 6 + 2 * i) [1, 2] jf ss) fun z3 => .go [1,0,1,1,15,15,1] (.cut (cInF 15 (z2 0 + 1) (ss.map fun s => .bool (stV c [1, 2] s)) (z3 2) false) fun z4 => .go [0,0,1,1] (.cut (cLenS ⟨⟨ow⟩⟩ to (ow.length : Nat)) fun z5 => (H_abM2Fk2 P q c ss ow to pl tp a left af lf k5 k6 z0 z2 z4 z5))))
noncomputable def H_abM2F (P : Params) (q : Aq) (c : Nat → Col) (hc : Nat → Nat) (ss : List Int) (ow : List Nat) (to : Nat) (pl : Int) (tp : Nat) (a left af lf jf : Int) (hv bv : Option Value) (k5 k6 : Nat) (a' : Int) (ta' sa' : Nat) (n tk : Nat) : HT := .go [3,1] (.cut (cRNext 1 q.it a left 1) fun z0 => .go [1,0,1,1,2,2,2,1] (.cut (cGet 2 q.ca q.RL q.er a (z0 2) (.ref (c 0).a)) fun z1 => .go [5,2,1,1,0,1,0,2,2,2,1] (.cut (cSlice 2 9 q.ca (z1 0) q.RL q.er (Value.int (a + 1) (z1 1 + 1)) (Value.int (pl + 1) (z1 1 + 3)) Value.none (refs c [1, 2])) fun z2 => (H_abM2Fk1 P q c ss ow to pl tp a left af lf jf k5 k6 z0 z2))))
theorem r_abM2F (P : Params) (b1 b2 : Bool) (q : Aq) (c : Nat → Col) (hc : Nat → Nat) (ss : List Int) (ow : List Nat) (to : Nat) (pl : Int) (tp : Nat) (a left af lf jf : Int) (hv bv : Option Value) (k5 k6 : Nat) (a' : Int) (ta' sa' : Nat) (n tk : Nat) : (RunC (parOf P b1 b2) (cAb (parOf P b1 b2) q c hc ss 2 ow to pl tp (restX (parOf P b1 b2) k5 k6 a' ta' sa') 6 a left af lf hv bv) 400 (H_abM2F (parOf P b1 b2) q c hc ss ow to pl tp a left af lf jf hv bv k5 k6 a' ta' sa' n tk) n tk).Ok := by
  cases b1 <;> (show OT.l _ = OT.r _; kernel_rfl)
noncomputable def H_abM2F0k2 (P : Params) (q : Aq) (c : Nat → Col) (ss : List Int) (ow : List Nat) (to : Nat) (pl : Int) (tp : Nat) (a left af lf : Int) (z0 z2 z3 z4 z5 : Nat → Nat) : HT := .go [1] (.cut (cStrAt ({ cps := { toList := [65, 66, 67, 68, 69, 70, 71, 72, 73, 74] } }) (z4 1) (ow.length : Nat) (z5 2) (65 + ow.length)) fun z6 => .go [1] (.cut (cStrAdd ⟨⟨ow⟩⟩ ⟨⟨[65 + ow.length]⟩⟩ to (z6 2) ⟨⟨ow ++ [65 + ow.length]⟩⟩) fun z7 => .go [1,0] (.cut (cAb P { q with i0 := 0, i1 := 1, i2 := 2, i3 := 3, hr := 2, hs := 4 } (shc 2 c) (fun i => 6 + 2 * min (i + 1) 2) ss 1 (ow ++ [65 + ow.length]) (z7 2) pl tp (restX P (z0 1) (z3 1) a (z0 2) (z2 0 + 1)) 6 (a + 1) (left - 1) af lf (some (.ref (c 0).a)) (some (.ref (z2 2)))) fun z8 => .go [] (.nil { res := .ok Flow.next, exp := expOf (cAb P { q with i0 := 0, i1 := 1, i2 := 2, i3 := 3, hr := 2, hs := 4 } (shc 2 c) (fun i => 6 + 2 * min (i + 1) 2) ss 1 (ow ++ [65 + ow.length]) (z7 2) pl tp (restX P (z0 1) (z3 1) a (z0 2) (z2 0 + 1)) 6 (a + 1) (left - 1) af lf (some (.ref (c 0).a)) (some (.ref (z2 2)))) z8 }))))
noncomputable def H_abM2F0k1 (P : Params) (q : Aq) (c : Nat → Col) (ss : List Int) (ow : List Nat) (to : Nat) (pl : Int) (tp : Nat) (a left af lf jf : Int) (z0 z2 : Nat → Nat) : HT := .go [7,3,1,4,4,0,4,13,1] (.cut (cScS P { L := q.L, L' := (z2 0 + 2), it := (z2 0), acc := (z2 0 + 1), sza := q.sza, ba := z2 2, sa := (z2 0 + 3), ha := q.ha, hb' := q.hb', SL := q.SL, es := q.es, eb := 0, i0 := 8, i1 := 6, i2 := 7, i3 := 9, hs := 4, hb := 11, hh := 5, hbc := 7 } c (fun i => 6 + 2 * i) [1, 2] jf ss) fun z3 => .go [1,0,1,1,15,15,1] (.cut (cInF 15 (z2 0 + 1) (ss.map fun s => .bool (stV c [1, 2] s)) (z3 2) false) fun z4 => .go [0,0,1,1] (.cut (cLenS ⟨⟨ow⟩⟩ to (ow.length : Nat)) fun z5 => (H_abM2F0k2 P q c ss ow to pl tp a left af lf z0 z2 z3 z4 z5))))
noncomputable def H_abM2F0 (P : Params) (q : Aq) (c : Nat → Col) (hc : Nat → Nat) (ss : List Int) (ow : List Nat) (to : Nat) (pl : Int) (tp : Nat) (a left af lf jf : Int) (hv bv : Option Value) (n tk : Nat) : HT := .go [3,1] (.cut (cRNext 1 q.it a left 1) fun z0 => .go [1,0,1,1,2,2,2,1] (.cut (cGet 2 q.ca q.RL q.er a (z0 2) (.ref (c 0).a)) fun z1 => .go [5,2,1,1,0,1,0,2,2,2,1] (.cut (cSlice 2 9 q.ca (z1 0) q.RL q.er (Value.int (a + 1) (z1 1 + 1)) (Value.int (pl + 1) (z1 1 + 3)) Value.none (refs c [1, 2])) fun z2 => (H_abM2F0k1 P q c ss ow to pl tp a left af lf jf z0 z2))))
theorem r_abM2F0 (P : Params) (b1 b2 : Bool) (q : Aq) (c : Nat → Col) (hc : Nat → Nat) (ss : List Int) (ow : List Nat) (to : Nat) (pl : Int) (tp : Nat) (a left af lf jf : Int) (hv bv : Option Value) (n tk : Nat) : (RunC (parOf P b1 b2) (cAb (parOf P b1 b2) q c hc ss 2 ow to pl tp [] 4 a left af lf hv bv) 400 (H_abM2F0 (parOf P b1 b2) q c hc ss ow to pl tp a left af lf jf hv bv n tk) n tk).Ok := by
  cases b1 <;> (show OT.l _ = OT.r _; kernel_rfl)
noncomputable def H_abM3Tk2 (P : Params) (q : Aq) (c : Nat → Col) (ss : List Int) (ow : List Nat) (to : Nat) (pl : Int) (tp : Nat) (a left af lf : Int) (k5 k6 : Nat) (z0 z2 z4 z5 : Nat → Nat) : HT := .go [1] (.cut (cStrAt ({ cps := { toList := [97, 98, 99, 100, 101, 102, 103, 104, 105, 106] } }) (z4 1) (ow.length : Nat) (z5 2) (97 + ow.length)) fun z6 => .go [1] (.cut (cStrAdd ⟨⟨ow⟩⟩ ⟨⟨[97 + ow.length]⟩⟩ to (z6 2) ⟨⟨ow ++ [97 + ow.length]⟩⟩) fun z7 => .go [1,0] (.cut (cAb P { q with i0 := 0, i1 := 1, i2 := 2, i3 := 3, hr := 2, hs := 4 } (shc 3 c) (fun i => 6 + 2 * min (i + 1) 3) ss 2 (ow ++ [97 + ow.length]) (z7 2) pl tp (restX P k5 k6 a (z0 2) (z2 0 + 1)) 6 (a + 1) (left - 1) af lf (some (.ref (c 0).a)) (some (.ref (z2 2)))) fun z8 => .go [] (.nil { res := .ok Flow.next, exp := expOf (cAb P { q with i0 := 0, i1 := 1, i2 := 2, i3 := 3, hr := 2, hs := 4 } (shc 3 c) (fun i => 6 + 2 * min (i + 1) 3) ss 2 (ow ++ [97 + ow.length]) (z7 2) pl tp (restX P k5 k6 a (z0 2) (z2 0 + 1)) 6 (a + 1) (left - 1) af lf (some (.ref (c 0).a)) (some (.ref (z2 2)))) z8 }))))
noncomputable def H_abM3Tk1 (P : Params) (q : Aq) (c : Nat → Col) (ss : List Int) (ow : List Nat) (to : Nat) (pl : Int) (tp : Nat) (a left af lf jf : Int) (k5 k6 : Nat) (z0 z2 : Nat → Nat) : HT := .go [7,3,1,4,4,0,4,13,1] (.cut (cScS P { L := q.L, L' := (z2 0 + 2), it := (z2 0), acc := (z2 0 + 1), sza := q.sza, ba := z2 2, sa := (z2 0 + 3), ha := q.ha, hb' := q.hb', SL := q.SL, es := q.es, eb := 0, i0 := 8, i1 := 6, i2 := 7, i3 := 9, hs := 4, hb := 11, hh := 5, hbc := 7 } c (fun i => 6 + 2 * i) [1, 2, 3] jf ss) fun z3 => .go [1,0,1,1,15,15,1] (.cut (cInF 15 (z2 0 + 1) (ss.map fun s => .bool (stV c [1, 2, 3] s)) (z3 2) true) fun z4 => .go [0,0,1,1] (.cut (cLenS ⟨⟨ow⟩⟩ to (ow.length : Nat)) fun z5 => (H_abM3Tk2 P q c ss ow to pl tp a left af lf k5 k6 z0 z2 z4 z5))))
noncomputable def H_abM3T (P : Params) (q : Aq) (c : Nat → Col) (hc : Nat → Nat) (ss : List Int) (ow : List Nat) (to : Nat) (pl : Int) (tp : Nat) (a left af lf jf : Int) (hv bv : Option Value) (k5 k6 : Nat) (a' : Int) (ta' sa' : Nat) (n tk : Nat) : HT := .go [3,1] (.cut (cRNext 1 q.it a left 1) fun z0 => .go [1,0,1,1,2,2,2,1] (.cut (cGet 2 q.ca q.RL q.er a (z0 2) (.ref (c 0).a)) fun z1 => .go [5,2,1,1,0,1,0,2,2,2,1] (.cut (cSlice 2 9 q.ca (z1 0) q.RL q.er (Value.int (a + 1) (z1 1 + 1)) (Value.int (pl + 1) (z1 1 + 3)) Value.none (refs c [1, 2, 3])) fun z2 => (H_abM3Tk1 P q c ss ow to pl tp a left af lf jf k5 k6 z0 z2))))
theorem r_abM3T (P : Params) (b1 b2 : Bool) (q : Aq) (c : Nat → Col) (hc : Nat → Nat) (ss : List Int) (ow : List Nat) (to : Nat) (pl : Int) (tp : Nat) (a left af lf jf : Int) (hv bv : Option Value) (k5 k6 : Nat) (a' : Int) (ta' sa' : Nat) (n tk : Nat) : (RunC (parOf P b1 b2) (cAb (parOf P b1 b2) q c hc ss 3 ow to pl tp (restX (parOf P b1 b2) k5 k6 a' ta' sa') 6 a left af lf hv bv) 400 (H_abM3T (parOf P b1 b2) q c hc ss ow to pl tp a left af lf jf hv bv k5 k6 a' ta' sa' n tk) n tk).Ok := by
  cases b1 <;> (show OT.l _ = OT.r _; kernel_rfl)
noncomputable def H_abM3T0k2 (P : Params) (q : Aq) (c : Nat → Col) (ss : List Int) (ow : List Nat) (to : Nat) (pl : Int) (tp : Nat) (a left af lf : Int) (z0 z2 z3 z4 z5 : Nat → Nat) : HT := .go [1] (.cut (cStrAt ({ cps := { toList := [97, 98, 99, 100, 101, 102, 103, 104, 105, 106] } }) (z4 1) (ow.length : Nat) (z5 2) (97 + ow.length)) fun z6 => .go [1] (.cut (cStrAdd ⟨⟨ow⟩⟩ ⟨⟨[97 + ow.length]⟩⟩ to (z6 2) ⟨⟨ow ++ [97 + ow.length]⟩⟩) fun z7 => .go [1,0] (.cut (cAb P { q with i0 := 0, i1 := 1, i2 := 2, i3 := 3, hr := 2, hs := 4 } (shc 3 c) (fun i => 6 + 2 * min (i + 1) 3) ss 2 (ow ++ [97 + ow.length]) (z7 2) pl tp (restX P (z0 1) (z3 1) a (z0 2) (z2 0 + 1)) 6 (a + 1) (left - 1) af lf (some (.ref (c 0).a)) (some (.ref (z2 2)))) fun z8 => .go [] (.nil { res := .ok Flow.next, exp := expOf (cAb P { q with i0 := 0, i1 := 1, i2 := 2, i3 := 3, hr := 2, hs := 4 } (shc 3 c) (fun i => 6 + 2 * min (i + 1) 3) ss 2 (ow ++ [97 + ow.length]) (z7 2) pl tp (restX P (z0 1) (z3 1) a (z0 2) (z2 0 + 1)) 6 (a + 1) (left - 1) af lf (some (.ref (c 0).a)) (some (.ref (z2 2)))) z8 }))))
noncomputable def H_abM3T0k1 (P : Params) (q : Aq) (c : Nat → Col) (ss : List Int) (ow : List Nat) (to : Nat) (pl : Int) (tp : Nat) (a left af lf jf : Int) (z0 z2 : Nat → Nat) : HT := .go [7,3,1,4,4,0,4,13,1] (.cut (cScS P { L := q.L, L' := (z2 0 + 2), it := (z2 0), acc := (z2 0 + 1), sza := q.sza, ba := z2 2, sa := (z2 0 + 3), ha := q.ha, hb' := q.hb', SL := q.SL, es := q.es, eb := 0, i0 := 8, i1 := 6, i2 := 7, i3 := 9, hs := 4, hb := 11, hh := 5, hbc := 7 } c (fun i => 6 + 2 * i) [1, 2, 3] jf ss) fun z3 => .go [1,0,1,1,15,15,1] (.cut (cInF 15 (z2 0 + 1) (ss.map fun s => .bool (stV c [1, 2, 3] s)) (z3 2) true) fun z4 => .go [0,0,1,1] (.cut (cLenS ⟨⟨ow⟩⟩ to (ow.length : Nat)) fun z5 => (H_abM3T0k2 P q c ss ow to pl tp a left af lf z0 z2 z3 z4 z5))))
noncomputable def H_abM3T0 (P : Params) (q : Aq) (c : Nat → Col) (hc : Nat → Nat) (ss : List Int) (ow : List Nat) (to : Nat) (pl : Int) (tp : Nat) (a left af lf jf : Int) (hv bv : Option Value) (n tk : Nat) : HT := .go [3,1] (.cut (cRNext 1 q.it a left 1) fun z0 => .go [1,0,1,1,2,2,2,1] (.cut (cGet 2 q.ca q.RL q.er a (z0 2) (.ref (c 0).a)) fun z1 => .go [5,2,1,1,0,1,0,2,2,2,1] (.cut (cSlice 2 9 q.ca (z1 0) q.RL q.er (Value.int (a + 1) (z1 1 + 1)) (Value.int (pl + 1) (z1 1 + 3)) Value.none (refs c [1, 2, 3])) fun z2 => (H_abM3T0k1 P q c ss ow to pl tp a left af lf jf z0 z2))))
theorem r_abM3T0 (P : Params) (b1 b2 : Bool) (q : Aq) (c : Nat → Col) (hc : Nat → Nat) (ss : List Int) (ow : List Nat) (to : Nat) (pl : Int) (tp : Nat) (a left af lf jf : Int) (hv bv : Option Value) (n tk : Nat) : (RunC (parOf P b1 b2) (cAb (parOf P b1 b2) q c hc ss 3 ow to pl tp [] 4 a left af lf hv bv) 400 (H_abM3T0 (parOf P b1 b2) q c hc ss ow to pl tp a left af lf jf hv bv n tk) n tk).Ok := by
  cases b1 <;> (show OT.l _ = OT.r _; kernel_rfl)
noncomputable def H_abM3Fk2 (P : Params) (q : Aq) (c : Nat → Col) (ss : List Int) (ow : List Nat) (to : Nat) (pl : Int) (tp : Nat) (a left af lf : Int) (k5 k6 : Nat) (z0 z2 z4 z5 : Nat → Nat) : HT := .go [1] (.cut (cStrAt ({ cps := { toList := [65, 66, 67, 68, 69, 70, 71, 72, 73, 74] } }) (z4 1) (ow.length : Nat) (z5 2) (65 + ow.length)) fun z6 => .go [1] (.cut (cStrAdd ⟨⟨ow⟩⟩ ⟨⟨[65 + ow.length]⟩⟩ to (z6 2) ⟨⟨ow ++ [65 + ow.length]⟩⟩) fun z7 => .go [1,0] (.cut (cAb P { q with i0 := 0, i1 := 1, i2 := 2, i3 := 3, hr := 2, hs := 4 } (shc 3 c) (fun i => 6 + 2 * min (i + 1) 3) ss 2 (ow ++ [65 + ow.length]) (z7 2) pl tp (restX P k5 k6 a (z0 2) (z2 0 + 1)) 6 (a + 1) (left - 1) af lf (some (.ref (c 0).a)) (some (.ref (z2 2)))) fun z8 => .go [] (.nil { res := .ok Flow.next, exp := expOf (cAb P { q with i0 := 0, i1 := 1, i2 := 2, i3 := 3, hr := 2, hs := 4 } (shc 3 c) (fun i => 6 + 2 * min (i + 1) 3) ss 2 (ow ++ [65 + ow.length]) (z7 2) pl tp (restX P k5 k6 a (z0 2) (z2 0 + 1)) 6 (a + 1) (left - 1) af lf (some (.ref (c 0).a)) (some (.ref (z2 2)))) z8 }))))
noncomputable def H_abM3Fk1 (P : Params) (q : Aq) (c : Nat → Col) (ss : List Int) (ow : List Nat) (to : Nat) (pl : Int) (tp : Nat) (a left af lf jf : Int) (k5 k6 : Nat) (z0 z2 : Nat → Nat) : HT := .go [7,3,1,4,4,0,4,13,1] (.cut (cScS P { L := q.L, L' := (z2 0 + 2), it := (z2 0), acc := (z2 0 + 1), sza := q.sza, ba := z2 2, sa := (z2 0 + 3), ha := q.ha, hb' := q.hb', SL := q.SL, es := q.es, eb := 0, i0 := 8, i1 := 6, i2 := 7, i3 := 9, hs := 4, hb := 11, hh := 5, hbc := 7 } c (fun i => 6 + 2 * i) [1, 2, 3] jf ss) fun z3 => .go [1,0,1,1,15,15,1] (.cut (cInF 15 (z2 0 + 1) (ss.map fun s => .bool (stV c [1, 2, 3] s)) (z3 2) false) fun z4 => .go [0,0,1,1] (.cut (cLenS ⟨⟨ow⟩⟩ to (ow.length : Nat)) fun z5 => (H_abM3Fk2 P q c ss ow to pl tp a left af lf k5 k6 z0 z2 z4 z5))))
noncomputable def H_abM3F (P : Params) (q : Aq) (c : Nat → Col) (hc : Nat → Nat) (ss : List Int) (ow : List Nat) (to : Nat) (pl : Int) (tp : Nat) (a left af lf jf : Int) (hv bv : Option Value) (k5 k6 : Nat) (a' : Int) (ta' sa' : Nat) (n tk : Nat) : HT := .go [3,1] (.cut (cRNext 1 q.it a left 1) fun z0 => .go [1,0,1,1,2,2,2,1] (.cut (cGet 2 q.ca q.RL q.er a (z0 2) (.ref (c 0).a)) fun z1 => .go [5,2,1,1,0,1,0,2,2,2,1] (.cut (cSlice 2 9 q.ca (z1 0) q.RL q.er (Value.int (a + 1) (z1 1 + 1)) (Value.int (pl + 1) (z1 1 + 3)) Value.none (refs c [1, 2, 3])) fun z2 => (H_abM3Fk1 P q c ss ow to pl tp a left af lf jf k5 k6 z0 z2))))
theorem r_abM3F (P : Params) (b1 b2 : Bool) (q : Aq) (c : Nat → Col) (hc : Nat → Nat) (ss : List Int) (ow : List Nat) (to : Nat) (pl : Int) (tp : Nat) (a left af lf jf : Int) (hv bv : Option Value) (k5 k6 : Nat) (a' : Int) (ta' sa' : Nat) (n tk : Nat) : (RunC (parOf P b1 b2) (cAb (parOf P b1 b2) q c hc ss 3 ow to pl tp (restX (parOf P b1 b2) k5 k6 a' ta' sa') 6 a left af lf hv bv) 400 (H_abM3F (parOf P b1 b2) q c hc ss ow to pl tp a left af lf jf hv bv k5 k6 a' ta' sa' n tk) n tk).Ok := by
  cases b1 <;> (show OT.l _ = OT.r _; kernel_rfl)
noncomputable def H_abM3F0k2 (P : Params) (q : Aq) (c : Nat → Col) (ss : List Int) (ow : List Nat) (to : Nat) (pl : Int) (tp : Nat) (a left af lf : Int) (z0 z2 z3 z4 z5 : Nat → Nat) : HT := .go [1] (.cut (cStrAt ({ cps := { toList := [65, 66, 67, 68, 69, 70, 71, 72, 73, 74] } }) (z4 1) (ow.length : Nat) (z5 2) (65 + ow.length)) fun z6 => .go [1] (.cut (cStrAdd ⟨⟨ow⟩⟩ ⟨⟨[65 + ow.length]⟩⟩ to (z6 2) ⟨⟨ow ++ [65 + ow.length]⟩⟩) fun z7 => .go [1,0] (.cut (cAb P { q with i0 := 0, i1 := 1, i2 := 2, i3 := 3, hr := 2, hs := 4 } (shc 3 c) (fun i => 6 + 2 * min (i + 1) 3) ss 2 (ow ++ [65 + ow.length]) (z7 2) pl tp (restX P (z0 1) (z3 1) a (z0 2) (z2 0 + 1)) 6 (a + 1) (left - 1) af lf (some (.ref (c 0).a)) (some (.ref (z2 2)))) fun z8 => .go [] (.nil { res := .ok Flow.next, exp := expOf (cAb P { q with i0 := 0, i1 := 1, i2 := 2, i3 := 3, hr := 2, hs := 4 } (shc 3 c) (fun i => 6 + 2 * min (i + 1) 3) ss 2 (ow ++ [65 + ow.length]) (z7 2) pl tp (restX P (z0 1) (z3 1) a (z0 2) (z2 0 + 1)) 6 (a + 1) (left - 1) af lf (some (.ref (c 0).a)) (some (.ref (z2 2)))) z8 }))))
noncomputable def H_abM3F0k1 (P : Params) (q : Aq) (c : Nat → Col) (ss : List Int) (ow : List Nat) (to : Nat) (pl : Int) (tp : Nat) (a left af lf jf : Int) (z0 z2 : Nat → Nat) : HT := .go [7,3,1,4,4,0,4,13,1] (.cut (cScS P { L := q.L, L' := (z2 0 + 2), it := (z2 0), acc := (z2 0 + 1), sza := q.sza, ba := z2 2, sa := (z2 0 + 3), ha := q.ha, hb' := q.hb', SL := q.SL, es := q.es, eb := 0, i0 := 8, i1 := 6, i2 := 7, i3 := 9, hs := 4, hb := 11, hh := 5, hbc := 7 } c (fun i => 6 + 2 * i) [1, 2, 3] jf ss) fun z3 => .go [1,0,1,1,15,15,1] (.cut (cInF 15 (z2 0 + 1) (ss.map fun s => .bool (stV c [1, 2, 3] s)) (z3 2) false) fun z4 => .go [0,0,1,1] (.cut (cLenS ⟨⟨ow⟩⟩ to (ow.length : Nat)) fun z5 => (H_abM3F0k2 P q c ss ow to pl tp a left af lf z0 z2 z3 z4 z5))))
noncomputable def H_abM3F0 (P : Params) (q : Aq) (c : Nat → Col) (hc : Nat → Nat) (ss : List Int) (ow : List Nat) (to : Nat) (pl : Int) (tp : Nat) (a left af lf jf : Int) (hv bv : Option Value) (n tk : Nat) : HT := .go [3,1] (.cut (cRNext 1 q.it a left 1) fun z0 => .go [1,0,1,1,2,2,2,1] (.cut (cGet 2 q.ca q.RL q.er a (z0 2) (.ref (c 0).a)) fun z1 => .go [5,2,1,1,0,1,0,2,2,2,1] (.cut (cSlice 2 9 q.ca (z1 0) q.RL q.er (Value.int (a + 1) (z1 1 + 1)) (Value.int (pl + 1) (z1 1 + 3)) Value.none (refs c [1, 2, 3])) fun z2 => (H_abM3F0k1 P q c ss ow to pl tp a left af lf jf z0 z2))))
theorem r_abM3F0 (P : Params) (b1 b2 : Bool) (q : Aq) (c : Nat → Col) (hc : Nat → Nat) (ss : List Int) (ow : List Nat) (to : Nat) (pl : Int) (tp : Nat) (a left af lf jf : Int) (hv bv : Option Value) (n tk : Nat) : (RunC (parOf P b1 b2) (cAb (parOf P b1 b2) q c hc ss 3 ow to pl tp [] 4 a left af lf hv bv) 400 (H_abM3F0 (parOf P b1 b2) q c hc ss ow to pl tp a left af lf jf hv bv n tk) n tk).Ok := by
  cases b1 <;> (show OT.l _ = OT.r _; kernel_rfl)
noncomputable def H_abM4Tk2 (P : Params) (q : Aq) (c : Nat → Col) (ss : List Int) (ow : List Nat) (to : Nat) (pl : Int) (tp : Nat) (a left af lf : Int) (k5 k6 : Nat) (z0 z2 z4 z5 : Nat → Nat) : HT := .go [1] (.cut (cStrAt ({ cps := { toList := [97, 98, 99, 100, 101, 102, 103, 104, 105, 106] } }) (z4 1) (ow.length : Nat) (z5 2) (97 + ow.length)) fun z6 => .go [1] (.cut (cStrAdd ⟨⟨ow⟩⟩ ⟨⟨[97 + ow.length]⟩⟩ to (z6 2) ⟨⟨ow ++ [97 + ow.length]⟩⟩) fun z7 => .go [1,0] (.cut (cAb P { q with i0 := 0, i1 := 1, i2 := 2, i3 := 3, hr := 2, hs := 4 } (shc 4 c) (fun i => 6 + 2 * min (i + 1) 4) ss 3 (ow ++ [97 + ow.length]) (z7 2) pl tp (restX P k5 k6 a (z0 2) (z2 0 + 1)) 6 (a + 1) (left - 1) af lf (some (.ref (c 0).a)) (some (.ref (z2 2)))) fun z8 => .go [] (.nil { res := .ok Flow.next, exp := expOf (cAb P { q with i0 := 0, i1 := 1, i2 := 2, i3 := 3, hr := 2, hs := 4 } (shc 4 c) (fun i => 6 + 2 * min (i + 1) 4) ss 3 (ow ++ [97 + ow.length]) (z7 2) pl tp (restX P k5 k6 a (z0 2) (z2 0 + 1)) 6 (a + 1) (left - 1) af lf (some (.ref (c 0).a)) (some (.ref (z2 2)))) z8 }))))
noncomputable def H_abM4Tk1 (P : Params) (q : Aq) (c : Nat → Col) (ss : List Int) (ow : List Nat) (to : Nat) (pl : Int) (tp : Nat) (a left af lf jf : Int) (k5 k6 : Nat) (z0 z2 : Nat → Nat) : HT := .go [7,3,1,4,4,0,4,13,1] (.cut (cScS P { L := q.L, L' := (z2 0 + 2), it := (z2 0), acc := (z2 0 + 1), sza := q.sza, ba := z2 2, sa := (z2 0 + 3), ha := q.ha, hb' := q.hb', SL := q.SL, es := q.es, eb := 0, i0 := 8, i1 := 6, i2 := 7, i3 := 9, hs := 4, hb := 11, hh := 5, hbc := 7 } c (fun i => 6 + 2 * i) [1, 2, 3, 4] jf ss) fun z3 => .go [1,0,1,1,15,15,1] (.cut (cInF 15 (z2 0 + 1) (ss.map fun s => .bool (stV c [1, 2, 3, 4] s)) (z3 2) true) fun z4 => .go [0,0,1,1] (.cut (cLenS ⟨⟨ow⟩⟩ to (ow.length : Nat)) fun z5 => (H_abM4Tk2 P q c ss ow to pl tp a left af lf k5 k6 z0 z2 z4 z5))))
noncomputable def H_abM4T (P : Params) (q : Aq) (c : Nat → Col) (hc : Nat → Nat) (ss : List Int) (ow : List Nat) (to : Nat) (pl : Int) (tp : Nat) (a left af lf jf : Int) (hv bv : Option Value) (k5 k6 : Nat) (a' : Int) (ta' sa' : Nat) (n tk : Nat) : HT := .go [3,1] (.cut (cRNext 1 q.it a left 1) fun z0 => .go [1,0,1,1,2,2,2,1] (.cut (cGet 2 q.ca q.RL q.er a (z0 2) (.ref (c 0).a)) fun z1 => .go [5,2,1,1,0,1,0,2,2,2,1] (.cut (cSlice 2 9 q.ca (z1 0) q.RL q.er (Value.int (a + 1) (z1 1 + 1)) (Value.int (pl + 1) (z1 1 + 3)) Value.none (refs c [1, 2, 3, 4])) fun z2 => (H_abM4Tk1 P q c ss ow to pl tp a left af lf jf k5 k6 z0 z2))))
theorem r_abM4T (P : Params) (b1 b2 : Bool) (q : Aq) (c : Nat → Col) (hc : Nat → Nat) (ss : List Int) (ow : List Nat) (to : Nat) (pl : Int) (tp : Nat) (a left af lf jf : Int) (hv bv : Option Value) (k5 k6 : Nat) (a' : Int) (ta' sa' : Nat) (n tk : Nat) : (RunC (parOf P b1 b2) (cAb (parOf P b1 b2) q c hc ss 4 ow to pl tp (restX (parOf P b1 b2) k5 k6 a' ta' sa') 6 a left af lf hv bv) 400 (H_abM4T (parOf P b1 b2) q c hc ss ow to pl tp a left af lf jf hv bv k5 k6 a' ta' sa' n tk) n tk).Ok := by
  cases b1 <;> (show OT.l _ = OT.r _; kernel_rfl)
noncomputable def H_abM4T0k2 (P : Params) (q : Aq) (c : Nat → Col) (ss : List Int) (ow : List Nat) (to : Nat) (pl : Int) (tp : Nat) (a left af lf : Int) (z0 z2 z3 z4 z5 : Nat → Nat) : HT := .go [1] (.cut (cStrAt ({ cps := { toList := [97, 98, 99, 100, 101, 102, 103, 104, 105, 106] } }) (z4 1) (ow.length : Nat) (z5 2) (97 + ow.length)) fun z6 => .go [1] (.cut (cStrAdd ⟨⟨ow⟩⟩ ⟨⟨[97 + ow.length]⟩⟩ to (z6 2) ⟨⟨ow ++ [97 + ow.length]⟩⟩) fun z7 => .go [1,0] (.cut (cAb P { q with i0 := 0, i1 := 1, i2 := 2, i3 := 3, hr := 2, hs := 4 } (shc 4 c) (fun i => 6 + 2 * min (i + 1) 4) ss 3 (ow ++ [97 + ow.length]) (z7 2) pl tp (restX P (z0 1) (z3 1) a (z0 2) (z2 0 + 1)) 6 (a + 1) (left - 1) af lf (some (.ref (c 0).a)) (some (.ref (z2 2)))) fun z8 => .go [] (.nil { res := .ok Flow.next, exp := expOf (cAb P { q with i0 := 0, i1 := 1, i2 := 2, i3 := 3, hr := 2, hs := 4 } (shc 4 c) (fun i => 6 + 2 * min (i + 1) 4) ss 3 (ow ++ [97 + ow.length]) (z7 2) pl tp (restX P (z0 1) (z3 1) a (z0 2) (z2 0 + 1)) 6 (a + 1) (left - 1) af lf (some (.ref (c 0).a)) (some (.ref (z2 2)))) z8 }))))
noncomputable def H_abM4T0k1 (P : Params) (q : Aq) (c : Nat → Col) (ss : List Int) (ow : List Nat) (to : Nat) (pl : Int) (tp : Nat) (a left af lf jf : Int) (z0 z2 : Nat → Nat) : HT := .go [7,3,1,4,4,0,4,13,1] (.cut (cScS P { L := q.L, L' := (z2 0 + 2), it := (z2 0), acc := (z2 0 + 1), sza := q.sza, ba := z2 2, sa := (z2 0 + 3), ha := q.ha, hb' := q.hb', SL := q.SL, es := q.es, eb := 0, i0 := 8, i1 := 6, i2 := 7, i3 := 9, hs := 4, hb := 11, hh := 5, hbc := 7 } c (fun i => 6 + 2 * i) [1, 2, 3, 4] jf ss) fun z3 => .go [1,0,1,1,15,15,1] (.cut (cInF 15 (z2 0 + 1) (ss.map fun s => .bool (stV c [1, 2, 3, 4] s)) (z3 2) true) fun z4 => .go [0,0,1,1] (.cut (cLenS ⟨⟨ow⟩⟩ to (ow.length : Nat)) fun z5 => (H_abM4T0k2 P q c ss ow to pl tp a left af lf z0 z2 z3 z4 z5))))
noncomputable def H_abM4T0 (P : Params) (q : Aq) (c : Nat → Col) (hc : Nat → Nat) (ss : List Int) (ow : List Nat) (to : Nat) (pl : Int) (tp : Nat) (a left af lf jf : Int) (hv bv : Option Value) (n tk : Nat) : HT := .go [3,1] (.cut (cRNext 1 q.it a left 1) fun z0 => .go [1,0,1,1,2,2,2,1] (.cut (cGet 2 q.ca q.RL q.er a (z0 2) (.ref (c 0).a)) fun z1 => .go [5,2,1,1,0,1,0,2,2,2,1] (.cut (cSlice 2 9 q.ca (z1 0) q.RL q.er (Value.int (a + 1) (z1 1 + 1)) (Value.int (pl + 1) (z1 1 + 3)) Value.none (refs c [1, 2, 3, 4])) fun z2 => (H_abM4T0k1 P q c ss ow to pl tp a left af lf jf z0 z2))))
theorem r_abM4T0 (P : Params) (b1 b2 : Bool) (q : Aq) (c : Nat → Col) (hc : Nat → Nat) (ss : List Int) (ow : List Nat) (to : Nat) (pl : Int) (tp : Nat) (a left af lf jf : Int) (hv bv : Option Value) (n tk : Nat) : (RunC (parOf P b1 b2) (cAb (parOf P b1 b2) q c hc ss 4 ow to pl tp [] 4 a left af lf hv bv) 400 (H_abM4T0 (parOf P b1 b2) q c hc ss ow to pl tp a left af lf jf hv bv n tk) n tk).Ok := by
  cases b1 <;> (show OT.l _ = OT.r _; kernel_rfl)
noncomputable def H_abM4Fk2 (P : Params) (q : Aq) (c : Nat → Col) (ss : List Int) (ow : List Nat) (to : Nat) (pl : Int) (tp : Nat) (a left af lf : Int) (k5 k6 : Nat) (z0 z2 z4 z5 : Nat → Nat) : HT := .go [1] (.cut (cStrAt ({ cps := { toList := [65, 66, 67, 68, 69, 70, 71, 72, 73, 74] } }) (z4 1) (ow.length : Nat) (z5 2) (65 + ow.length)) fun z6 => .go [1] (.cut (cStrAdd ⟨⟨ow⟩⟩ ⟨⟨[65 + ow.length]⟩⟩ to (z6 2) ⟨⟨ow ++ [65 + ow.length]⟩⟩) fun z7 => .go [1,0] (.cut (cAb P { q with i0 := 0, i1 := 1, i2 := 2, i3 := 3, hr := 2, hs := 4 } (shc 4 c) (fun i => 6 + 2 * min (i + 1) 4) ss 3 (ow ++ [65 + ow.length]) (z7 2) pl tp (restX P k5 k6 a (z0 2) (z2 0 + 1)) 6 (a + 1) (left - 1) af lf (some (.ref (c 0).a)) (some (.ref (z2 2)))) fun z8 => .go [] (.nil { res := .ok Flow.next, exp := expOf (cAb P { q with i0 := 0, i1 := 1, i2 := 2, i3 := 3, hr := 2, hs := 4 } (shc 4 c) (fun i => 6 + 2 * min (i + 1) 4) ss 3 (ow ++ [65 + ow.length]) (z7 2) pl tp (restX P k5 k6 a (z0 2) (z2 0 + 1)) 6 (a + 1) (left - 1) af lf (some (.ref (c 0).a)) (some (.ref (z2 2)))) z8 }))))
noncomputable def H_abM4Fk1 (P : Params) (q : Aq) (c : Nat → Col) (ss : List Int) (ow : List Nat) (to : Nat) (pl : Int) (tp : Nat) (a left af lf jf : Int) (k5 k6 : Nat) (z0 z2 : Nat → Nat) : HT := .go [7,3,1,4,4,0,4,13,1] (.cut (cScS P { L := q.L, L' := (z2 0 + 2), it := (z2 0), acc := (z2 0 + 1), sza := q.sza, ba := z2 2, sa := (z2 0 + 3), ha := q.ha, hb' := q.hb', SL := q.SL, es := q.es, eb := 0, i0 := 8, i1 := 6, i2 := 7, i3 := 9, hs := 4, hb := 11, hh := 5, hbc := 7 } c (fun i => 6 + 2 * i) [1, 2, 3, 4] jf ss) fun z3 => .go [1,0,1,1,15,15,1] (.cut (cInF 15 (z2 0 + 1) (ss.map fun s => .bool (stV c [1, 2, 3, 4] s)) (z3 2) false) fun z4 => .go [0,0,1,1] (.cut (cLenS ⟨⟨ow⟩⟩ to (ow.length : Nat)) fun z5 => (H_abM4Fk2 P q c ss ow to pl tp a left af lf k5 k6 z0 z2 z4 z5))))
noncomputable def H_abM4F (P : Params) (q : Aq) (c : Nat → Col) (hc : Nat → Nat) (ss : List Int) (ow : List Nat) (to : Nat) (pl : Int) (tp : Nat) (a left af lf jf : Int) (hv bv : Option Value) (k5 k6 : Nat) (a' : Int) (ta' sa' : Nat) (n tk : Nat) : HT := .go [3,1] (.cut (cRNext 1 q.it a left 1) fun z0 => .go [1,0,1,1,2,2,2,1] (.cut (cGet 2 q.ca q.RL q.er a (z0 2) (.ref (c 0).a)) fun z1 => .go [5,2,1,1,0,1,0,2,2,2,1] (.cut (cSlice 2 9 q.ca (z1 0) q.RL q.er (Value.int (a + 1) (z1 1 + 1)) (Value.int (pl + 1) (z1 1 + 3)) Value.none (refs c [1, 2, 3, 4])) fun z2 => (H_abM4Fk1 P q c ss ow to pl tp a left af lf jf k5 k6 z0 z2))))
theorem r_abM4F (P : Params) (b1 b2 : Bool) (q : Aq) (c : Nat → Col) (hc : Nat → Nat) (ss : List Int) (ow : List Nat) (to : Nat) (pl : Int) (tp : Nat) (a left af lf jf : Int) (hv bv : Option Value) (k5 k6 : Nat) (a' : Int) (ta' sa' : Nat) (n tk : Nat) : (RunC (parOf P b1 b2) (cAb (parOf P b1 b2) q c hc ss 4 ow to pl tp (restX (parOf P b1 b2) k5 k6 a' ta' sa') 6 a left af lf hv bv) 400 (H_abM4F (parOf P b1 b2) q c hc ss ow to pl tp a left af lf jf hv bv k5 k6 a' ta' sa' n tk) n tk).Ok := by
  cases b1 <;> (show OT.l _ = OT.r _; kernel_rfl)
noncomputable def H_abM4F0k2 (P : Params) (q : Aq) (c : Nat → Col) (ss : List Int) (ow : List Nat) (to : Nat) (pl : Int) (tp : Nat) (a left af lf : Int) (z0 z2 z3 z4 z5 : Nat → Nat) : HT := .go [1] (.cut (cStrAt ({ cps := { toList := [65, 66, 67, 68, 69, 70, 71, 72, 73, 74] } }) (z4 1) (ow.length : Nat) (z5 2) (65 + ow.length)) fun z6 => .go [1] (.cut (cStrAdd ⟨⟨ow⟩⟩ ⟨⟨[65 + ow.length]⟩⟩ to (z6 2) ⟨⟨ow ++ [65 + ow.length]⟩⟩) fun z7 => .go [1,0] (.cut (cAb P { q with i0 := 0, i1 := 1, i2 := 2, i3 := 3, hr := 2, hs := 4 } (shc 4 c) (fun i => 6 + 2 * min (i + 1) 4) ss 3 (ow ++ [65 + ow.length]) (z7 2) pl tp (restX P (z0 1) (z3 1) a (z0 2) (z2 0 + 1)) 6 (a + 1) (left - 1) af lf (some (.ref (c 0).a)) (some (.ref (z2 2)))) fun z8 => .go [] (.nil { res := .ok Flow.next, exp := expOf (cAb P { q with i0 := 0, i1 := 1, i2 := 2, i3 := 3, hr := 2, hs := 4 } (shc 4 c) (fun i => 6 + 2 * min (i + 1) 4) ss 3 (ow ++ [65 + ow.length]) (z7 2) pl tp (restX P (z0 1) (z3 1) a (z0 2) (z2 0 + 1)) 6 (a + 1) (left - 1) af lf (some (.ref (c 0).a)) (some (.ref (z2 2)))) z8 }))))
noncomputable def H_abM4F0k1 (P : Params) (q : Aq) (c : Nat → Col) (ss : List Int) (ow : List Nat) (to : Nat) (pl : Int) (tp : Nat) (a left af lf jf : Int) (z0 z2 : Nat → Nat) : HT := .go [7,3,1,4,4,0,4,13,1] (.cut (cScS P { L := q.L, L' := (z2 0 + 2), it := (z2 0), acc := (z2 0 + 1), sza := q.sza, ba := z2 2, sa := (z2 0 + 3), ha := q.ha, hb' := q.hb', SL := q.SL, es := q.es, eb := 0, i0 := 8, i1 := 6, i2 := 7, i3 := 9, hs := 4, hb := 11, hh := 5, hbc := 7 } c (fun i => 6 + 2 * i) [1, 2, 3, 4] jf ss) fun z3 => .go [1,0,1,1,15,15,1] (.cut (cInF 15 (z2 0 + 1) (ss.map fun s => .bool (stV c [1, 2, 3, 4] s)) (z3 2) false) fun z4 => .go [0,0,1,1] (.cut (cLenS ⟨⟨ow⟩⟩ to (ow.length : Nat)) fun z5 => (H_abM4F0k2 P q c ss ow to pl tp a left af lf z0 z2 z3 z4 z5))))
noncomputable def H_abM4F0 (P : Params) (q : Aq) (c : Nat → Col) (hc : Nat → Nat) (ss : List Int) (ow : List Nat) (to : Nat) (pl : Int) (tp : Nat) (a left af lf jf : Int) (hv bv : Option Value) (n tk : Nat) : HT := .go [3,1] (.cut (cRNext 1 q.it a left 1) fun z0 => .go [1,0,1,1,2,2,2,1] (.cut (cGet 2 q.ca q.RL q.er a (z0 2) (.ref (c 0).a)) fun z1 => .go [5,2,1,1,0,1,0,2,2,2,1] (.cut (cSlice 2 9 q.ca (z1 0) q.RL q.er (Value.int (a + 1) (z1 1 + 1)) (Value.int (pl + 1) (z1 1 + 3)) Value.none (refs c [1, 2, 3, 4])) fun z2 => (H_abM4F0k1 P q c ss ow to pl tp a left af lf jf z0 z2))))
theorem r_abM4F0 (P : Params) (b1 b2 : Bool) (q : Aq) (c : Nat → Col) (hc : Nat → Nat) (ss : List Int) (ow : List Nat) (to : Nat) (pl : Int) (tp : Nat) (a left af lf jf : Int) (hv bv : Option Value) (n tk : Nat) : (RunC (parOf P b1 b2) (cAb (parOf P b1 b2) q c hc ss 4 ow to pl tp [] 4 a left af lf hv bv) 400 (H_abM4F0 (parOf P b1 b2) q c hc ss ow to pl tp a left af lf jf hv bv n tk) n tk).Ok := by
  cases b1 <;> (show OT.l _ = OT.r _; kernel_rfl)
noncomputable def H_abE (P : Params) (q : Aq) (c : Nat → Col) (hc : Nat → Nat) (ss : List Int) (ow : List Nat) (to : Nat) (pl : Int) (tp : Nat) (rest : List DictEntry) (ef : Nat) (a left : Int) (hv bv : Option Value) (n tk : Nat) : HT := .go [3,1] (.cut (cREnd 1 q.it a left 1) fun z0 => .go [18] (.nil { res := .ok Flow.next, exp := [(1, (q.L, fA P q ow to pl tp rest ef)), (3, (q.it, raI a left 1)), (5, (q.ha, ceO hv)), (7, (q.hb', ceO bv))] }))
theorem r_abE (P : Params) (b1 b2 : Bool) (q : Aq) (c : Nat → Col) (hc : Nat → Nat) (ss : List Int) (ow : List Nat) (to : Nat) (pl : Int) (tp : Nat) (rest : List DictEntry) (ef : Nat) (a left : Int) (hv bv : Option Value) (n tk : Nat) : (RunC (parOf P b1 b2) (cAb (parOf P b1 b2) q c hc ss 0 ow to pl tp rest ef a left a left hv bv) 400 (H_abE (parOf P b1 b2) q c hc ss ow to pl tp rest ef a left hv bv n tk) n tk).Ok := by
  cases b1 <;> (show OT.l _ = OT.r _; kernel_rfl)
noncomputable def H_sh4k1 (P : Params) (c : Nat → Col) (ca sza er : Addr) (SL : List Value) (es : Nat) (ss : List Int) (r : List Nat) (n tk : Nat) (z2 : Nat → Nat) : HT := .go [9,0,9,9,9,9,9,4,9,4,1,0,0,0,1,0,0,23,23,0,23,23,23,23,0,23,23,23,23,25,1] (.cut (cAb P (shAq n ca sza (z2 0 + 1) (n + 1) (n + 2) tk (tk + 1) (tk + 3) (tk + 9) er es 12 (refs c [0, 1, 2, 3]) SL) c (fun i => 6 + 2 * i) ss 3 (shA ss c 3) (z2 2) 3 (z2 1) (restB P z2 [] 2) 6 0 3 3 0 (some (.ref (z2 3))) (some (.ref (z2 4)))) fun z3 => .go [9,0,9,9,9,9,29,1,0,0,1,1] (.cut (cLenS ⟨⟨shA ss c 4⟩⟩ (z3 2) ((shA ss c 4).length : Nat)) fun z4 => .go [1] (.cut (cStrSl 31 ⟨⟨abcL⟩⟩ (z3 1) (z4 0) (.int ((shA ss c 4).length : Nat) (z4 2)) .none ⟨⟨abcL.drop (shA ss c 4).length⟩⟩) fun z5 => .go [1] (.cut (cStrAdd ⟨⟨shA ss c 4⟩⟩ ⟨⟨abcL.drop (shA ss c 4).length⟩⟩ (z3 2) (z5 2) ⟨⟨r⟩⟩) fun z6 => .go [] (.nil { res := .ok (.ret (Value.str { cps := { toList := r } } (z6 2))), exp := [] })))))
noncomputable def H_sh4 (P : Params) (c : Nat → Col) (hc : Nat → Nat) (h1 h2 : Nat) (ca sza er : Addr) (SL : List Value) (es : Nat) (ss : List Int) (r : List Nat) (n tk : Nat) : HT := .go [1,0,1,0,1,0,0,0,0,0,1,0,2,0,2,2,0,0,7,7,0,7,7,7,7,0,7,7,7,7,9,0,9,0,9,9,9,9,9,4,9,4,1,0,0,0,1,0,0,11,11,0,11,11,11,11,0,11,11,11,11,13,1] (.cut (cAb P (shAq n ca sza (n + 6) (n + 1) (n + 2) tk (tk + 1) (tk + 3) (tk + 9) er es 6 (refs c [0, 1, 2, 3]) SL) c (fun i => 6 + 2 * i) ss 0 (shA ss c 0) (tk + 2) 0 (tk + 8) [] 4 0 0 0 0 none none) fun z0 => .go [9,0,9,9,9,9,9,4,9,4,1,0,0,0,1,0,0,15,15,0,15,15,15,15,0,15,15,15,15,17,1] (.cut (cAb P (shAq n ca sza (z0 0 + 1) (n + 1) (n + 2) tk (tk + 1) (tk + 3) (tk + 9) er es 8 (refs c [0, 1, 2, 3]) SL) c (fun i => 6 + 2 * i) ss 1 (shA ss c 1) (z0 2) 1 (z0 1) [] 4 0 1 1 0 none none) fun z1 => .go [9,0,9,9,9,9,9,4,9,4,1,0,0,0,1,0,0,19,19,0,19,19,19,19,0,19,19,19,19,21,1] (.cut (cAb P (shAq n ca sza (z1 0 + 1) (n + 1) (n + 2) tk (tk + 1) (tk + 3) (tk + 9) er es 10 (refs c [0, 1, 2, 3]) SL) c (fun i => 6 + 2 * i) ss 2 (shA ss c 2) (z1 2) 2 (z1 1) (restB P z1 [] 1) 6 0 2 2 0 (some (.ref (z1 3))) (some (.ref (z1 4)))) fun z2 => (H_sh4k1 P c ca sza er SL es ss r n tk z2))))
theorem r_sh4 (P : Params) (b1 b2 : Bool) (c : Nat → Col) (hc : Nat → Nat) (h1 h2 : Nat) (ca sza er : Addr) (SL : List Value) (es : Nat) (ss : List Int) (r : List Nat) (n tk : Nat) : (RunF (parOf P b1 b2) (cSh (parOf P b1 b2) c hc h1 h2 ca sza [0, 1, 2, 3] er SL es r) 155 fd155 [.ref ca, .ref sza] 900 (H_sh4 (parOf P b1 b2) c hc h1 h2 ca sza er SL es ss r n tk) n tk).Ok := by
  cases b1 <;> (show OT.l _ = OT.r _; kernel_rfl)
noncomputable def H_sh5k2 (c : Nat → Col) (ss : List Int) (r : List Nat) (z4 z5 : Nat → Nat) : HT := .go [1] (.cut (cStrSl 35 ⟨⟨abcL⟩⟩ (z4 1) (z5 0) (.int ((shA ss c 5).length : Nat) (z5 2)) .none ⟨⟨abcL.drop (shA ss c 5).length⟩⟩) fun z6 => .go [1] (.cut (cStrAdd ⟨⟨shA ss c 5⟩⟩ ⟨⟨abcL.drop (shA ss c 5).length⟩⟩ (z4 2) (z6 2) ⟨⟨r⟩⟩) fun z7 => .go [] (.nil { res := .ok (.ret (Value.str { cps := { toList := r } } (z7 2))), exp := [] })))
noncomputable def H_sh5k1 (P : Params) (c : Nat → Col) (ca sza er : Addr) (SL : List Value) (es : Nat) (ss : List Int) (r : List Nat) (n tk : Nat) (z2 : Nat → Nat) : HT := .go [9,0,9,9,9,9,9,4,9,4,1,0,0,0,1,0,0,23,23,0,23,23,23,23,0,23,23,23,23,25,1] (.cut (cAb P (shAq n ca sza (z2 0 + 1) (n + 1) (n + 2) tk (tk + 1) (tk + 3) (tk + 9) er es 12 (refs c [0, 1, 2, 3, 4]) SL) c (fun i => 6 + 2 * i) ss 3 (shA ss c 3) (z2 2) 3 (z2 1) (restB P z2 [] 2) 6 0 3 3 0 (some (.ref (z2 3))) (some (.ref (z2 4)))) fun z3 => .go [9,0,9,9,9,9,9,4,9,4,1,0,0,0,1,0,0,27,27,0,27,27,27,27,0,27,27,27,27,29,1] (.cut (cAb P (shAq n ca sza (z3 0 + 1) (n + 1) (n + 2) tk (tk + 1) (tk + 3) (tk + 9) er es 14 (refs c [0, 1, 2, 3, 4]) SL) c (fun i => 6 + 2 * i) ss 4 (shA ss c 4) (z3 2) 4 (z3 1) (restB P z3 [] 3) 6 0 4 4 0 (some (.ref (z3 3))) (some (.ref (z3 4)))) fun z4 => .go [9,0,9,9,9,9,33,1,0,0,1,1] (.cut (cLenS ⟨⟨shA ss c 5⟩⟩ (z4 2) ((shA ss c 5).length : Nat)) fun z5 => (H_sh5k2 c ss r z4 z5))))
noncomputable def H_sh5 (P : Params) (c : Nat → Col) (hc : Nat → Nat) (h1 h2 : Nat) (ca sza er : Addr) (SL : List Value) (es : Nat) (ss : List Int) (r : List Nat) (n tk : Nat) : HT := .go [1,0,1,0,1,0,0,0,0,0,1,0,2,0,2,2,0,0,7,7,0,7,7,7,7,0,7,7,7,7,9,0,9,0,9,9,9,9,9,4,9,4,1,0,0,0,1,0,0,11,11,0,11,11,11,11,0,11,11,11,11,13,1] (.cut (cAb P (shAq n ca sza (n + 6) (n + 1) (n + 2) tk (tk + 1) (tk + 3) (tk + 9) er es 6 (refs c [0, 1, 2, 3, 4]) SL) c (fun i => 6 + 2 * i) ss 0 (shA ss c 0) (tk + 2) 0 (tk + 8) [] 4 0 0 0 0 none none) fun z0 => .go [9,0,9,9,9,9,9,4,9,4,1,0,0,0,1,0,0,15,15,0,15,15,15,15,0,15,15,15,15,17,1] (.cut (cAb P (shAq n ca sza (z0 0 + 1) (n + 1) (n + 2) tk (tk + 1) (tk + 3) (tk + 9) er es 8 (refs c [0, 1, 2, 3, 4]) SL) c (fun i => 6 + 2 * i) ss 1 (shA ss c 1) (z0 2) 1 (z0 1) [] 4 0 1 1 0 none none) fun z1 => .go [9,0,9,9,9,9,9,4,9,4,1,0,0,0,1,0,0,19,19,0,19,19,19,19,0,19,19,19,19,21,1] (.cut (cAb P (shAq n ca sza (z1 0 + 1) (n + 1) (n + 2) tk (tk + 1) (tk + 3) (tk + 9) er es 10 (refs c [0, 1, 2, 3, 4]) SL) c (fun i => 6 + 2 * i) ss 2 (shA ss c 2) (z1 2) 2 (z1 1) (restB P z1 [] 1) 6 0 2 2 0 (some (.ref (z1 3))) (some (.ref (z1 4)))) fun z2 => (H_sh5k1 P c ca sza er SL es ss r n tk z2))))
theorem r_sh5 (P : Params) (b1 b2 : Bool) (c : Nat → Col) (hc : Nat → Nat) (h1 h2 : Nat) (ca sza er : Addr) (SL : List Value) (es : Nat) (ss : List Int) (r : List Nat) (n tk : Nat) : (RunF (parOf P b1 b2) (cSh (parOf P b1 b2) c hc h1 h2 ca sza [0, 1, 2, 3, 4] er SL es r) 155 fd155 [.ref ca, .ref sza] 900 (H_sh5 (parOf P b1 b2) c hc h1 h2 ca sza er SL es ss r n tk) n tk).Ok := by
  cases b1 <;> (show OT.l _ = OT.r _; kernel_rfl)
theorem bool_any (bs : List Bool) (e : Value → Bool) (h : ∀ b, e (.bool b) = (b == false)) : (bs.map fun b => Value.bool b).any e = bs.any fun b => !b := by
  induction bs with
  | nil => rfl
  | cons b bs ih =>
    rw [List.map_cons, List.any_cons, List.any_cons, ih, h]
    cases b <;> rfl
theorem cInF_ok {prog : Program} {w : World} {kt : KT} {hl : Nat} {a : Addr} {l : List Value} {ep : Nat} {v : Bool} (bs : List Bool) (hb : l = bs.map fun b => .bool b) (hv : (bs.any fun b => !b) = v) : (cInF hl a l ep v).Valid prog w kt := by
  subst hb hv
  refine meets_valid F.slot_list_contains F.entry_list_contains (F.args_list_contains_2 _ _) (MeetsSeq.list_contains a ⟨bs.map fun b => .bool b⟩ ep (.bool false) (fun y => match y with | .bool b => b == false | _ => false) fun y hy => ?_) rfl fun A R s hA hrd hmu K => ?_
  · have : y ∈ bs.map fun b => Value.bool b := by simpa using hy
    obtain ⟨b, _, rfl⟩ := List.mem_map.mp this
    exact fun prog w A E s Q h => SeqAt.EqAt.bool_bool b false prog w E Q h
  have ho := hrd _ (.head _)
  refine ⟨typ_of ho rfl, ho, ?_⟩
  have e : (⟨bs.map fun b => Value.bool b⟩ : Array Value).any (fun y => match y with | .bool b => b == false | _ => false) = bs.any fun b => !b := by
    rw [← Array.any_toList]
    exact bool_any bs _ fun b => rfl
  rw [e]
  exact K (wit (fun _ => 0) s.heap.objs.size s.toks) s.heap trivial (after_same _) rfl
noncomputable def S3 (s : Int) : Prop := s = 1 ∨ s = 2 ∨ s = 3
section
variable (w : World) (b1 b2 : Bool)
theorem ic_fin {P : Params} {q : Iq} {c : Nat → Col} {hc : Nat → Nat} {jf : Int} {is : List Nat} {k x e : Nat} : OutF (cIcS P q c hc jf is) { res := .ok .next, exp := [(1, (q.L', frIn P k x)), (3, (q.it, liI .none jf)), (5, (q.acc, liO (cvL c q.s is) e))] } :=
  outE (fun i => if i = 2 then k else if i = 3 then x else e) fun sz tk => ⟨trivial, rfl, rfl, rfl, rfl⟩
theorem ic1 {q : Iq} {c : Nat → Col} {hc : Nat → Nat} (hB : q.B = refs c [1]) (hs : S3 q.s) : VV w b1 b2 (cIcS (parOf w.params b1 b2) q c hc 1 [1]) := by
  obtain ⟨L, L', it, acc, ba, sa, s, ts, B, eb, i0, i1, i2, hb, hs'⟩ := q
  dsimp only at hB hs
  subst hB
  refine codeV (fun _ => rfl) 400 (fun n tk => H_icM1 _ b2 ⟨L, L', it, acc, ba, sa, s, ts, refs c [1], eb, i0, i1, i2, hb, hs'⟩ c hc n tk) (fun n tk => r_icM1 _ _ _ ⟨L, L', it, acc, ba, sa, s, ts, refs c [1], eb, i0, i1, i2, hb, hs'⟩ c hc n tk) fun n tk => ?_
  cases b2 <;> exact ⟨cGetC_ok (i := 1) (by decide) rfl hs rfl rfl rfl, fun z0 hz0 => ic_fin⟩
theorem ic2 {q : Iq} {c : Nat → Col} {hc : Nat → Nat} (hB : q.B = refs c [1, 2]) (hs : S3 q.s) : VV w b1 b2 (cIcS (parOf w.params b1 b2) q c hc 2 [1, 2]) := by
  obtain ⟨L, L', it, acc, ba, sa, s, ts, B, eb, i0, i1, i2, hb, hs'⟩ := q
  dsimp only at hB hs
  subst hB
  refine codeV (fun _ => rfl) 400 (fun n tk => H_icM2 _ b2 ⟨L, L', it, acc, ba, sa, s, ts, refs c [1, 2], eb, i0, i1, i2, hb, hs'⟩ c hc n tk) (fun n tk => r_icM2 _ _ _ ⟨L, L', it, acc, ba, sa, s, ts, refs c [1, 2], eb, i0, i1, i2, hb, hs'⟩ c hc n tk) fun n tk => ?_
  cases b2 <;> exact ⟨cGetC_ok (i := 1) (by decide) rfl hs rfl rfl rfl, fun z0 hz0 => ⟨cGetC_ok (i := 2) (by decide) rfl hs rfl rfl rfl, fun z1 hz1 => ic_fin⟩⟩
theorem ic3 {q : Iq} {c : Nat → Col} {hc : Nat → Nat} (hB : q.B = refs c [1, 2, 3]) (hs : S3 q.s) : VV w b1 b2 (cIcS (parOf w.params b1 b2) q c hc 3 [1, 2, 3]) := by
  obtain ⟨L, L', it, acc, ba, sa, s, ts, B, eb, i0, i1, i2, hb, hs'⟩ := q
  dsimp only at hB hs
  subst hB
  refine codeV (fun _ => rfl) 400 (fun n tk => H_icM3 _ b2 ⟨L, L', it, acc, ba, sa, s, ts, refs c [1, 2, 3], eb, i0, i1, i2, hb, hs'⟩ c hc n tk) (fun n tk => r_icM3 _ _ _ ⟨L, L', it, acc, ba, sa, s, ts, refs c [1, 2, 3], eb, i0, i1, i2, hb, hs'⟩ c hc n tk) fun n tk => ?_
  cases b2 <;> exact ⟨cGetC_ok (i := 1) (by decide) rfl hs rfl rfl rfl, fun z0 hz0 => ⟨cGetC_ok (i := 2) (by decide) rfl hs rfl rfl rfl, fun z1 hz1 => ⟨cGetC_ok (i := 3) (by decide) rfl hs rfl rfl rfl, fun z2 hz2 => ic_fin⟩⟩⟩
theorem ic4 {q : Iq} {c : Nat → Col} {hc : Nat → Nat} (hB : q.B = refs c [1, 2, 3, 4]) (hs : S3 q.s) : VV w b1 b2 (cIcS (parOf w.params b1 b2) q c hc 4 [1, 2, 3, 4]) := by
  obtain ⟨L, L', it, acc, ba, sa, s, ts, B, eb, i0, i1, i2, hb, hs'⟩ := q
  dsimp only at hB hs
  subst hB
  refine codeV (fun _ => rfl) 400 (fun n tk => H_icM4 _ b2 ⟨L, L', it, acc, ba, sa, s, ts, refs c [1, 2, 3, 4], eb, i0, i1, i2, hb, hs'⟩ c hc n tk) (fun n tk => r_icM4 _ _ _ ⟨L, L', it, acc, ba, sa, s, ts, refs c [1, 2, 3, 4], eb, i0, i1, i2, hb, hs'⟩ c hc n tk) fun n tk => ?_
  cases b2 <;> exact ⟨cGetC_ok (i := 1) (by decide) rfl hs rfl rfl rfl, fun z0 hz0 => ⟨cGetC_ok (i := 2) (by decide) rfl hs rfl rfl rfl, fun z1 hz1 => ⟨cGetC_ok (i := 3) (by decide) rfl hs rfl rfl rfl, fun z2 hz2 => ⟨cGetC_ok (i := 4) (by decide) rfl hs rfl rfl rfl, fun z3 hz3 => ic_fin⟩⟩⟩⟩
/-! the sizes -/
theorem sc_out {P : Params} {q q' : Sq} {c : Nat → Col} {hc hc' : Nat → Nat} {is : List Nat} {sv sv' : Option Value} {j j' jf s : Int} {ss : List Int} {pre pre' : List Value} {ep ep' : Nat} {z : Nat → Nat} (hq : { q with i0 := 0, i1 := 1, i2 := 2, i3 := 3, hs := 2, hb := 4, hh := 6, hbc := 8 } = q') (hp : pre' = pre ++ [.bool (stV c is s)]) :
    OutF (cSc P q c hc is sv j jf (s :: ss) pre ep) { res := .ok .next, exp := expOf (cSc P q' c hc' is sv' j' jf ss pre' ep') z } := by
  subst hq hp
  refine outE z fun sz tk => ⟨trivial, rfl, ?_, rfl, rfl⟩
  unfold cSc
  dsimp only
  simp only [List.map_cons, List.append_assoc, List.cons_append, List.nil_append]
  rfl
noncomputable def svOk (sv : Option Value) : Prop := sv = none ∨ ∃ i t, sv = some (.int i t)
theorem sc_ok {is : List Nat} (his : is = [1] ∨ is = [1, 2] ∨ is = [1, 2, 3] ∨ is = [1, 2, 3, 4]) (sl : List (Int × Nat)) : ∀ (q : Sq) (c : Nat → Col) (hc : Nat → Nat) (sv : Option Value) (j : Nat) (j' jf : Int) (pre : List Value) (ep : Nat), j' = j → q.SL.drop j = inl sl → jf = j + sl.length → (∀ p ∈ sl, S3 p.1) → svOk sv → pre.length + sl.length ≤ 1000 →
    VV w b1 b2 (cSc (parOf w.params b1 b2) q c hc is sv j' jf (sl.map (·.1)) pre ep) := by
  induction sl with
  | nil =>
    intro q c hc sv j j' jf pre ep hj hl hjf hS hsv hz
    have e : jf = j' := by rw [hjf, hj]; show (j : Int) + ((0 : Nat) : Int) = j; lia
    rw [e]
    refine codeV (fun _ => rfl) 400 (fun n tk => H_scE _ q c hc is sv j' pre ep n tk) (fun n tk => r_scE _ _ _ q c hc is sv j' pre ep n tk) fun n tk => ⟨cLEnd_ok (by rw [hj, Int.toNat_natCast]; exact drop_none hl), fun z0 hz0 => ?_⟩
    rcases hsv with rfl | ⟨i, t, rfl⟩
    · refine outE (fun i => if i = 5 then 0 else ep) fun sz tk => ⟨trivial, rfl, ?_, rfl, rfl⟩
      show [_, _, (q.acc, liO (pre ++ []) _), _] = _
      rw [List.append_nil]; rfl
    · refine outE (fun k => if k = 5 then 1 else if k = 3 then wi i else if k = 4 then t else ep) fun sz tk => ⟨trivial, rfl, ?_, rfl, rfl⟩
      show [_, _, (q.acc, liO (pre ++ []) _), (q.sa, ceO (some (.int (iw (wi i)) t)))] = _
      rw [List.append_nil, iw_wi]; rfl
  | cons p sl ih =>
    intro q c hc sv j j' jf pre ep hj hl hjf hS hsv hz
    obtain ⟨s, ts⟩ := p
    obtain ⟨hv, hd⟩ := drop_get hl
    rw [List.length_cons] at hjf hz
    have hv' : q.SL[j'.toNat]? = some (.int s ts) := by rw [hj, Int.toNat_natCast]; exact hv
    have hs : S3 s := hS (s, ts) (.head _)
    have hpz : pre.length ≤ sizeLine := by rw [sizeLine_eq]; lia
    have R : ∀ q' hc' pre' ep', q'.SL = q.SL → pre'.length = pre.length + 1 → VV w b1 b2 (cSc (parOf w.params b1 b2) q' c hc' is (some (.int s ts)) (j' + 1) jf (sl.map (·.1)) pre' ep') := fun q' hc' pre' ep' e1 e2 =>
      ih q' c hc' _ (j + 1) (j' + 1) jf pre' ep' (by lia) (by rw [e1]; exact hd) (by lia) (fun p hp => hS p (.tail _ hp)) (.inr ⟨_, _, rfl⟩) (by lia)
    rcases his with rfl | rfl | rfl | rfl
    · refine codeV (fun _ => rfl) 400 (fun n tk => H_scM1 _ q c hc sv j' jf s ts (List.map (fun p : Int × Nat => p.1) sl) pre ep n tk) (fun n tk => r_scM1 _ _ _ q c hc sv j' jf s ts _ pre ep n tk) fun n tk =>
        ⟨cLNext_ok hv', fun z0 hz0 => ⟨cGetC_ok (i := 0) (by decide) rfl hs rfl rfl rfl, fun z1 hz1 => ⟨ic1 w b1 b2 rfl hs, fun z2 hz2 => ⟨minL_ok w b1 b2 (ls := []) rfl, fun z3 hz3 => ⟨cLt_ok rfl, fun z4 hz4 => ⟨cApp_ok hpz, fun z5 hz5 => ⟨R _ _ _ _ (by rfl) (by simp), fun z6 hz6 => sc_out rfl rfl⟩⟩⟩⟩⟩⟩⟩
    · refine codeV (fun _ => rfl) 400 (fun n tk => H_scM2 _ q c hc sv j' jf s ts (List.map (fun p : Int × Nat => p.1) sl) pre ep n tk) (fun n tk => r_scM2 _ _ _ q c hc sv j' jf s ts _ pre ep n tk) fun n tk =>
        ⟨cLNext_ok hv', fun z0 hz0 => ⟨cGetC_ok (i := 0) (by decide) rfl hs rfl rfl rfl, fun z1 hz1 => ⟨ic2 w b1 b2 rfl hs, fun z2 hz2 => ⟨minL_ok w b1 b2 (ls := [(colV (c 2) s, colT (c 2) s)]) rfl, fun z3 hz3 => ⟨cLt_ok rfl, fun z4 hz4 => ⟨cApp_ok hpz, fun z5 hz5 => ⟨R _ _ _ _ (by rfl) (by simp), fun z6 hz6 => sc_out rfl rfl⟩⟩⟩⟩⟩⟩⟩
    · refine codeV (fun _ => rfl) 400 (fun n tk => H_scM3 _ q c hc sv j' jf s ts (List.map (fun p : Int × Nat => p.1) sl) pre ep n tk) (fun n tk => r_scM3 _ _ _ q c hc sv j' jf s ts _ pre ep n tk) fun n tk =>
        ⟨cLNext_ok hv', fun z0 hz0 => ⟨cGetC_ok (i := 0) (by decide) rfl hs rfl rfl rfl, fun z1 hz1 => ⟨ic3 w b1 b2 rfl hs, fun z2 hz2 => ⟨minL_ok w b1 b2 (ls := [(colV (c 2) s, colT (c 2) s), (colV (c 3) s, colT (c 3) s)]) rfl, fun z3 hz3 => ⟨cLt_ok rfl, fun z4 hz4 => ⟨cApp_ok hpz, fun z5 hz5 => ⟨R _ _ _ _ (by rfl) (by simp), fun z6 hz6 => sc_out rfl rfl⟩⟩⟩⟩⟩⟩⟩
    · refine codeV (fun _ => rfl) 400 (fun n tk => H_scM4 _ q c hc sv j' jf s ts (List.map (fun p : Int × Nat => p.1) sl) pre ep n tk) (fun n tk => r_scM4 _ _ _ q c hc sv j' jf s ts _ pre ep n tk) fun n tk =>
        ⟨cLNext_ok hv', fun z0 hz0 => ⟨cGetC_ok (i := 0) (by decide) rfl hs rfl rfl rfl, fun z1 hz1 => ⟨ic4 w b1 b2 rfl hs, fun z2 hz2 => ⟨minL_ok w b1 b2 (ls := [(colV (c 2) s, colT (c 2) s), (colV (c 3) s, colT (c 3) s), (colV (c 4) s, colT (c 4) s)]) rfl, fun z3 hz3 => ⟨cLt_ok rfl, fun z4 hz4 => ⟨cApp_ok hpz, fun z5 hz5 => ⟨R _ _ _ _ (by rfl) (by simp), fun z6 hz6 => sc_out rfl rfl⟩⟩⟩⟩⟩⟩⟩
theorem scS_ok {is : List Nat} (his : is = [1] ∨ is = [1, 2] ∨ is = [1, 2, 3] ∨ is = [1, 2, 3, 4]) {sl : List (Int × Nat)} {q : Sq} {c : Nat → Col} {hc : Nat → Nat} {jf : Int} (hl : q.SL = inl sl) (hjf : jf = (sl.length : Nat)) (hS : ∀ p ∈ sl, S3 p.1) (hz : sl.length ≤ 1000) :
    VV w b1 b2 (cScS (parOf w.params b1 b2) q c hc is jf (sl.map (·.1))) := by
  refine codeV (fun _ => rfl) 400 (fun n tk => H_scS _ b2 q c hc is jf (List.map (fun p : Int × Nat => p.1) sl) n tk) (fun n tk => r_scS _ _ _ q c hc is jf _ n tk) fun n tk => ?_
  have R := fun (q' : Sq) (hc' : Nat → Nat) (e : q'.SL = q.SL) => sc_ok w b1 b2 his sl q' c hc' none 0 0 jf [] 0 rfl (by rw [e, hl]; rfl) (by rw [hjf]; lia) hS (.inl rfl) (by simpa using hz)
  cases b2 <;> exact ⟨R _ _ rfl, fun z0 hz0 => outE z0 fun sz tk => ⟨trivial, rfl, rfl, rfl, rfl⟩⟩
end
section
variable (w : World) (b1 b2 : Bool)
noncomputable def RestB (P : Params) (rest : List DictEntry) (ef : Nat) : Prop := (rest = [] ∧ ef = 4) ∨ ∃ k5 k6 a ta sa, rest = restX P k5 k6 a ta sa ∧ ef = 6
theorem restB_next {P : Params} {rest : List DictEntry} {ef : Nat} (h : RestB P rest ef) (y : Nat → Nat) (m : Nat) : RestB P (restB P y rest m) (efB ef m) := by
  cases m with
  | zero => exact h
  | succ m => exact .inr ⟨_, _, _, _, _, rfl, rfl⟩
theorem ab_out {P : Params} {q q' : Aq} {c : Nat → Col} {hc hc' : Nat → Nat} {ss : List Int} {m : Nat} {ow ow' : List Nat} {to to' : Nat} {pl : Int} {tp : Nat} {rest : List DictEntry} {ef : Nat} {a left af lf a' left' : Int} {hv bv : Option Value} {x1 x2 k5 k6 : Nat} {av : Int} {ta sa : Nat} {z : Nat → Nat}
    (hq : { q with i0 := 0, i1 := 1, i2 := 2, i3 := 3, hr := 2, hs := 4 } = q') (ho : ow' = ow ++ [letr c ss (m + 1) ow]) :
    OutF (cAb P q c hc ss (m + 1) ow to pl tp rest ef a left af lf hv bv) { res := .ok .next, exp := expOf (cAb P q' (shc (m + 1) c) hc' ss m ow' to' pl tp (restX P k5 k6 av ta sa) 6 a' left' af lf (some (.ref x1)) (some (.ref x2))) z } := by
  subst hq ho
  cases m with
  | zero =>
    refine outE (fun i => if i = 3 then x1 else if i = 4 then x2 else if i = 5 then k5 else if i = 6 then k6 else if i = 7 then wi av else if i = 8 then ta else if i = 9 then sa else z i) fun sz tk => ⟨trivial, rfl, ?_, rfl, rfl⟩
    show [(q.L, fA P q (shW ss 1 c ow) _ pl tp (restX P k5 k6 (iw (wi av)) ta sa) 6), _, _, _] = _
    rw [iw_wi]
    rfl
  | succ m => exact outE z fun sz tk => ⟨trivial, rfl, rfl, rfl, rfl⟩
noncomputable def RLok (RL : List Value) (c : Nat → Col) (a m : Nat) : Prop := ∀ i, i ≤ m → RL[a + i]? = some (.ref (c i).a)
theorem rl_slice {RL : List Value} {c : Nat → Col} {a m : Nat} (h : RLok RL c a m) : slicePick ⟨RL⟩ (some (((a : Nat) : Int) + 1)) (some (((a + m : Nat) : Int) + 1)) none = ⟨refs c (idxs m)⟩ := by
  have hlen : a + m < RL.length := by
    have := h m (Nat.le_refl _)
    rcases Nat.lt_or_ge (a + m) RL.length with q | q
    · exact q
    · rw [List.getElem?_eq_none q] at this; cases this
  rw [show ((a : Nat) : Int) + 1 = ((a + 1 : Nat) : Int) by lia, show ((a + m : Nat) : Int) + 1 = ((a + m + 1 : Nat) : Int) by lia, slicePick_run ⟨RL⟩ (a + 1) (a + m + 1) (by show _ ≤ RL.length; lia) (by lia)]
  apply Array.ext'
  apply List.ext_getElem?
  intro i
  simp only [refs, idxs, List.map_map]
  by_cases hi : i < m
  · have := h (i + 1) (by lia)
    simp only [List.getElem?_take, List.getElem?_drop]
    simp [hi]
    rw [show a + 1 + i = a + (i + 1) by lia, this]
  · rw [List.getElem?_eq_none (by simp; lia), List.getElem?_eq_none (by simp; lia)]
theorem abE_ok {sl : List (Int × Nat)} {q : Aq} {c : Nat → Col} {hc : Nat → Nat} {ow : List Nat} {to : Nat} {pl : Int} {tp : Nat} {rest : List DictEntry} {ef : Nat} {a left af lf : Int} {hv bv : Option Value} (hl : left ≤ 0) (e1 : af = a) (e2 : lf = left) : VV w b1 b2 (cAb (parOf w.params b1 b2) q c hc (sl.map (·.1)) 0 ow to pl tp rest ef a left af lf hv bv) := by
  subst e1 e2
  refine codeV (fun _ => rfl) 400 (fun n tk => H_abE _ q c hc (List.map (fun p : Int × Nat => p.1) sl) ow to pl tp rest ef af lf hv bv n tk) (fun n tk => r_abE _ _ _ q c hc _ ow to pl tp rest ef af lf hv bv n tk) fun n tk => ⟨cREnd_ok hl, fun z0 hz0 => ?_⟩
  exact outE (fun _ => to) fun sz tk => ⟨trivial, rfl, rfl, rfl, rfl⟩
theorem abc97 (k : Nat) (h : k < 10) : ([97, 98, 99, 100, 101, 102, 103, 104, 105, 106] : List Nat)[((k : Nat) : Int).toNat]? = some (97 + k) := by
  have : ∀ k, k < 10 → ([97, 98, 99, 100, 101, 102, 103, 104, 105, 106] : List Nat)[k]? = some (97 + k) := by decide
  rw [Int.toNat_natCast]; exact this k h
theorem abc65 (k : Nat) (h : k < 10) : ([65, 66, 67, 68, 69, 70, 71, 72, 73, 74] : List Nat)[((k : Nat) : Int).toNat]? = some (65 + k) := by
  have : ∀ k, k < 10 → ([65, 66, 67, 68, 69, 70, 71, 72, 73, 74] : List Nat)[k]? = some (65 + k) := by decide
  rw [Int.toNat_natCast]; exact this k h
theorem rl_next {RL : List Value} {c : Nat → Col} {a m : Nat} (h : RLok RL c a (m + 1)) : RLok RL (shc (m + 1) c) (a + 1) m := fun i hi => by
  have := h (i + 1) (by lia)
  show RL[a + 1 + i]? = some (.ref (c (min (i + 1) (m + 1))).a)
  rw [show min (i + 1) (m + 1) = i + 1 by lia, show a + 1 + i = a + (i + 1) by lia]; exact this
theorem any_map (c : Nat → Col) (is : List Nat) (ss : List Int) : ((ss.map fun s => stV c is s).any fun b => !b) = ss.any fun s => !stV c is s := by
  rw [List.any_map]; rfl
theorem map_st (c : Nat → Col) (is : List Nat) (ss : List Int) : (ss.map fun s => Value.bool (stV c is s)) = (ss.map fun s => stV c is s).map fun b => .bool b := by
  rw [List.map_map]; rfl
theorem ab1_ok {sl : List (Int × Nat)} (hS : ∀ p ∈ sl, S3 p.1) (hz : sl.length ≤ 100) (q : Aq) (c : Nat → Col) (hc : Nat → Nat) (ow : List Nat) (to : Nat) (pl : Int) (tp : Nat) (rest : List DictEntry) (ef : Nat) (a left af lf : Int) (hv bv : Option Value) (an : Nat) (hSL : q.SL = inl sl) (ha : a = an) (hl : left = 1) (haf : af = an + 1) (hlf : lf = 0) (hpl : pl = an + 1)
    (hR : RLok q.RL c an 1) (hRz : q.RL.length ≤ 100) (hr : RestB (parOf w.params b1 b2) rest ef) (how : ow.length + 1 ≤ 10) : VV w b1 b2 (cAb (parOf w.params b1 b2) q c hc (sl.map (·.1)) 1 ow to pl tp rest ef a left af lf hv bv) := by
  have R : ∀ (q' : Aq) (hc' : Nat → Nat) (ow' : List Nat) (to' k5 k6 : Nat) (av : Int) (ta sa : Nat) (h1 h2 : Option Value), q'.SL = q.SL → q'.RL = q.RL → ow'.length = ow.length + 1 → VV w b1 b2 (cAb (parOf w.params b1 b2) q' (shc 1 c) hc' (sl.map (·.1)) 0 ow' to' pl tp (restX (parOf w.params b1 b2) k5 k6 av ta sa) 6 (a + 1) (left - 1) af lf h1 h2) := fun q' hc' ow' to' k5 k6 av ta sa h1 h2 e1 e2 e3 =>
    abE_ok w b1 b2 (by lia) (by lia) (by lia)
  have g0 : q.RL[a.toNat]? = some (.ref (c 0).a) := by rw [ha, Int.toNat_natCast]; exact hR 0 (by decide)
  have gs : slicePick ⟨q.RL⟩ (some (a + 1)) (some (pl + 1)) none = ⟨refs c [1]⟩ := by
    rw [ha, hpl]
    exact rl_slice hR
  have han : an < q.RL.length := by
    rcases Nat.lt_or_ge an q.RL.length with q' | q'
    · exact q'
    · have := hR 0 (by decide)
      rw [Nat.add_zero, List.getElem?_eq_none q'] at this; cases this
  have hb := map_st c [1] (sl.map (·.1))
  have hbz : ow.length ≤ 1000 := by lia
  have hadd : ow.length + 1 ≤ sizeLine := by rw [sizeLine_eq]; lia
  have h1000 : q.RL.length ≤ sizeLine := by rw [sizeLine_eq]; lia
  have jz : (((sl.length : Nat)) : Int) = (sl.length : Nat) := rfl
  cases ht : (sl.map (·.1)).any fun s => !stV c [1] s with
  | true =>
    have el : 97 + ow.length = letr c (sl.map (·.1)) 1 ow := by
      have : (sl.map (·.1)).any (fun s => !stV c (idxs 1) s) = true := ht
      unfold letr; rw [this]; rfl
    rcases hr with ⟨rfl, rfl⟩ | ⟨k5, k6, a', ta', sa', rfl, rfl⟩
    · refine codeV (fun _ => rfl) 400 (fun n tk => H_abM1T0 _ q c hc (List.map (fun p : Int × Nat => p.1) sl) ow to pl tp a left af lf (sl.length : Nat) hv bv n tk) (fun n tk => r_abM1T0 _ _ _ q c hc _ ow to pl tp a left af lf (sl.length : Nat) hv bv n tk) fun n tk =>
        ⟨cRNext_ok (by lia), fun z0 hz0 => ⟨cGet_ok (by lia) (by lia) g0, fun z1 hz1 => ⟨cSlice_ok (.int _ _) (.int _ _) .none (by decide) gs h1000, fun z2 hz2 => ⟨scS_ok w b1 b2 (.inl rfl) hSL rfl hS (by lia), fun z3 hz3 => ⟨cInF_ok _ hb ((any_map c [1] _).trans ht), fun z4 hz4 => ⟨cLenS_ok rfl hbz, fun z5 hz5 => ⟨cStrAt_ok (by lia) (by lia) (abc97 _ (by lia)), fun z6 hz6 => ⟨cStrAdd_ok rfl hadd, fun z7 hz7 =>
        ⟨R _ _ _ _ _ _ _ _ _ _ _ (by rfl) (by rfl) (by simp), fun z8 hz8 => ab_out rfl (by rw [el])⟩⟩⟩⟩⟩⟩⟩⟩⟩
    · refine codeV (fun _ => rfl) 400 (fun n tk => H_abM1T _ q c hc (List.map (fun p : Int × Nat => p.1) sl) ow to pl tp a left af lf (sl.length : Nat) hv bv k5 k6 a' ta' sa' n tk) (fun n tk => r_abM1T _ _ _ q c hc _ ow to pl tp a left af lf (sl.length : Nat) hv bv k5 k6 a' ta' sa' n tk) fun n tk =>
        ⟨cRNext_ok (by lia), fun z0 hz0 => ⟨cGet_ok (by lia) (by lia) g0, fun z1 hz1 => ⟨cSlice_ok (.int _ _) (.int _ _) .none (by decide) gs h1000, fun z2 hz2 => ⟨scS_ok w b1 b2 (.inl rfl) hSL rfl hS (by lia), fun z3 hz3 => ⟨cInF_ok _ hb ((any_map c [1] _).trans ht), fun z4 hz4 => ⟨cLenS_ok rfl hbz, fun z5 hz5 => ⟨cStrAt_ok (by lia) (by lia) (abc97 _ (by lia)), fun z6 hz6 => ⟨cStrAdd_ok rfl hadd, fun z7 hz7 =>
        ⟨R _ _ _ _ _ _ _ _ _ _ _ (by rfl) (by rfl) (by simp), fun z8 hz8 => ab_out rfl (by rw [el])⟩⟩⟩⟩⟩⟩⟩⟩⟩
  | false =>
    have el : 65 + ow.length = letr c (sl.map (·.1)) 1 ow := by
      have : (sl.map (·.1)).any (fun s => !stV c (idxs 1) s) = false := ht
      unfold letr; rw [this]; rfl
    rcases hr with ⟨rfl, rfl⟩ | ⟨k5, k6, a', ta', sa', rfl, rfl⟩
    · refine codeV (fun _ => rfl) 400 (fun n tk => H_abM1F0 _ q c hc (List.map (fun p : Int × Nat => p.1) sl) ow to pl tp a left af lf (sl.length : Nat) hv bv n tk) (fun n tk => r_abM1F0 _ _ _ q c hc _ ow to pl tp a left af lf (sl.length : Nat) hv bv n tk) fun n tk =>
        ⟨cRNext_ok (by lia), fun z0 hz0 => ⟨cGet_ok (by lia) (by lia) g0, fun z1 hz1 => ⟨cSlice_ok (.int _ _) (.int _ _) .none (by decide) gs h1000, fun z2 hz2 => ⟨scS_ok w b1 b2 (.inl rfl) hSL rfl hS (by lia), fun z3 hz3 => ⟨cInF_ok _ hb ((any_map c [1] _).trans ht), fun z4 hz4 => ⟨cLenS_ok rfl hbz, fun z5 hz5 => ⟨cStrAt_ok (by lia) (by lia) (abc65 _ (by lia)), fun z6 hz6 => ⟨cStrAdd_ok rfl hadd, fun z7 hz7 =>
        ⟨R _ _ _ _ _ _ _ _ _ _ _ (by rfl) (by rfl) (by simp), fun z8 hz8 => ab_out rfl (by rw [el])⟩⟩⟩⟩⟩⟩⟩⟩⟩
    · refine codeV (fun _ => rfl) 400 (fun n tk => H_abM1F _ q c hc (List.map (fun p : Int × Nat => p.1) sl) ow to pl tp a left af lf (sl.length : Nat) hv bv k5 k6 a' ta' sa' n tk) (fun n tk => r_abM1F _ _ _ q c hc _ ow to pl tp a left af lf (sl.length : Nat) hv bv k5 k6 a' ta' sa' n tk) fun n tk =>
        ⟨cRNext_ok (by lia), fun z0 hz0 => ⟨cGet_ok (by lia) (by lia) g0, fun z1 hz1 => ⟨cSlice_ok (.int _ _) (.int _ _) .none (by decide) gs h1000, fun z2 hz2 => ⟨scS_ok w b1 b2 (.inl rfl) hSL rfl hS (by lia), fun z3 hz3 => ⟨cInF_ok _ hb ((any_map c [1] _).trans ht), fun z4 hz4 => ⟨cLenS_ok rfl hbz, fun z5 hz5 => ⟨cStrAt_ok (by lia) (by lia) (abc65 _ (by lia)), fun z6 hz6 => ⟨cStrAdd_ok rfl hadd, fun z7 hz7 =>
        ⟨R _ _ _ _ _ _ _ _ _ _ _ (by rfl) (by rfl) (by simp), fun z8 hz8 => ab_out rfl (by rw [el])⟩⟩⟩⟩⟩⟩⟩⟩⟩
theorem ab2_ok {sl : List (Int × Nat)} (hS : ∀ p ∈ sl, S3 p.1) (hz : sl.length ≤ 100) (q : Aq) (c : Nat → Col) (hc : Nat → Nat) (ow : List Nat) (to : Nat) (pl : Int) (tp : Nat) (rest : List DictEntry) (ef : Nat) (a left af lf : Int) (hv bv : Option Value) (an : Nat) (hSL : q.SL = inl sl) (ha : a = an) (hl : left = 2) (haf : af = an + 2) (hlf : lf = 0) (hpl : pl = an + 2)
    (hR : RLok q.RL c an 2) (hRz : q.RL.length ≤ 100) (hr : RestB (parOf w.params b1 b2) rest ef) (how : ow.length + 2 ≤ 10) : VV w b1 b2 (cAb (parOf w.params b1 b2) q c hc (sl.map (·.1)) 2 ow to pl tp rest ef a left af lf hv bv) := by
  have R : ∀ (q' : Aq) (hc' : Nat → Nat) (ow' : List Nat) (to' k5 k6 : Nat) (av : Int) (ta sa : Nat) (h1 h2 : Option Value), q'.SL = q.SL → q'.RL = q.RL → ow'.length = ow.length + 1 → VV w b1 b2 (cAb (parOf w.params b1 b2) q' (shc 2 c) hc' (sl.map (·.1)) 1 ow' to' pl tp (restX (parOf w.params b1 b2) k5 k6 av ta sa) 6 (a + 1) (left - 1) af lf h1 h2) := fun q' hc' ow' to' k5 k6 av ta sa h1 h2 e1 e2 e3 =>
    ab1_ok w b1 b2 hS hz q' _ _ ow' _ pl tp _ _ (a + 1) (left - 1) af lf _ _ (an + 1) (by rw [e1]; exact hSL) (by lia) (by lia) (by lia) hlf (by lia) (by rw [e2]; exact rl_next hR) (by rw [e2]; exact hRz) (.inr ⟨_, _, _, _, _, rfl, rfl⟩) (by lia)
  have g0 : q.RL[a.toNat]? = some (.ref (c 0).a) := by rw [ha, Int.toNat_natCast]; exact hR 0 (by decide)
  have gs : slicePick ⟨q.RL⟩ (some (a + 1)) (some (pl + 1)) none = ⟨refs c [1, 2]⟩ := by
    rw [ha, hpl]
    exact rl_slice hR
  have han : an < q.RL.length := by
    rcases Nat.lt_or_ge an q.RL.length with q' | q'
    · exact q'
    · have := hR 0 (by decide)
      rw [Nat.add_zero, List.getElem?_eq_none q'] at this; cases this
  have hb := map_st c [1, 2] (sl.map (·.1))
  have hbz : ow.length ≤ 1000 := by lia
  have hadd : ow.length + 1 ≤ sizeLine := by rw [sizeLine_eq]; lia
  have h1000 : q.RL.length ≤ sizeLine := by rw [sizeLine_eq]; lia
  have jz : (((sl.length : Nat)) : Int) = (sl.length : Nat) := rfl
  cases ht : (sl.map (·.1)).any fun s => !stV c [1, 2] s with
  | true =>
    have el : 97 + ow.length = letr c (sl.map (·.1)) 2 ow := by
      have : (sl.map (·.1)).any (fun s => !stV c (idxs 2) s) = true := ht
      unfold letr; rw [this]; rfl
    rcases hr with ⟨rfl, rfl⟩ | ⟨k5, k6, a', ta', sa', rfl, rfl⟩
    · refine codeV (fun _ => rfl) 400 (fun n tk => H_abM2T0 _ q c hc (List.map (fun p : Int × Nat => p.1) sl) ow to pl tp a left af lf (sl.length : Nat) hv bv n tk) (fun n tk => r_abM2T0 _ _ _ q c hc _ ow to pl tp a left af lf (sl.length : Nat) hv bv n tk) fun n tk =>
        ⟨cRNext_ok (by lia), fun z0 hz0 => ⟨cGet_ok (by lia) (by lia) g0, fun z1 hz1 => ⟨cSlice_ok (.int _ _) (.int _ _) .none (by decide) gs h1000, fun z2 hz2 => ⟨scS_ok w b1 b2 (.inr (.inl rfl)) hSL rfl hS (by lia), fun z3 hz3 => ⟨cInF_ok _ hb ((any_map c [1, 2] _).trans ht), fun z4 hz4 => ⟨cLenS_ok rfl hbz, fun z5 hz5 => ⟨cStrAt_ok (by lia) (by lia) (abc97 _ (by lia)), fun z6 hz6 => ⟨cStrAdd_ok rfl hadd, fun z7 hz7 =>
        ⟨R _ _ _ _ _ _ _ _ _ _ _ (by rfl) (by rfl) (by simp), fun z8 hz8 => ab_out rfl (by rw [el])⟩⟩⟩⟩⟩⟩⟩⟩⟩
    · refine codeV (fun _ => rfl) 400 (fun n tk => H_abM2T _ q c hc (List.map (fun p : Int × Nat => p.1) sl) ow to pl tp a left af lf (sl.length : Nat) hv bv k5 k6 a' ta' sa' n tk) (fun n tk => r_abM2T _ _ _ q c hc _ ow to pl tp a left af lf (sl.length : Nat) hv bv k5 k6 a' ta' sa' n tk) fun n tk =>
        ⟨cRNext_ok (by lia), fun z0 hz0 => ⟨cGet_ok (by lia) (by lia) g0, fun z1 hz1 => ⟨cSlice_ok (.int _ _) (.int _ _) .none (by decide) gs h1000, fun z2 hz2 => ⟨scS_ok w b1 b2 (.inr (.inl rfl)) hSL rfl hS (by lia), fun z3 hz3 => ⟨cInF_ok _ hb ((any_map c [1, 2] _).trans ht), fun z4 hz4 => ⟨cLenS_ok rfl hbz, fun z5 hz5 => ⟨cStrAt_ok (by lia) (by lia) (abc97 _ (by lia)), fun z6 hz6 => ⟨cStrAdd_ok rfl hadd, fun z7 hz7 =>
        ⟨R _ _ _ _ _ _ _ _ _ _ _ (by rfl) (by rfl) (by simp), fun z8 hz8 => ab_out rfl (by rw [el])⟩⟩⟩⟩⟩⟩⟩⟩⟩
  | false =>
    have el : 65 + ow.length = letr c (sl.map (·.1)) 2 ow := by
      have : (sl.map (·.1)).any (fun s => !stV c (idxs 2) s) = false := ht
      unfold letr; rw [this]; rfl
    rcases hr with ⟨rfl, rfl⟩ | ⟨k5, k6, a', ta', sa', rfl, rfl⟩
    · refine codeV (fun _ => rfl) 400 (fun n tk => H_abM2F0 _ q c hc (List.map (fun p : Int × Nat => p.1) sl) ow to pl tp a left af lf (sl.length : Nat) hv bv n tk) (fun n tk => r_abM2F0 _ _ _ q c hc _ ow to pl tp a left af lf (sl.length : Nat) hv bv n tk) fun n tk =>
        ⟨cRNext_ok (by lia), fun z0 hz0 => ⟨cGet_ok (by lia) (by lia) g0, fun z1 hz1 => ⟨cSlice_ok (.int _ _) (.int _ _) .none (by decide) gs h1000, fun z2 hz2 => ⟨scS_ok w b1 b2 (.inr (.inl rfl)) hSL rfl hS (by lia), fun z3 hz3 => ⟨cInF_ok _ hb ((any_map c [1, 2] _).trans ht), fun z4 hz4 => ⟨cLenS_ok rfl hbz, fun z5 hz5 => ⟨cStrAt_ok (by lia) (by lia) (abc65 _ (by lia)), fun z6 hz6 => ⟨cStrAdd_ok rfl hadd, fun z7 hz7 =>
        ⟨R _ _ _ _ _ _ _ _ _ _ _ (by rfl) (by rfl) (by simp), fun z8 hz8 => ab_out rfl (by rw [el])⟩⟩⟩⟩⟩⟩⟩⟩⟩
    · refine codeV (fun _ => rfl) 400 (fun n tk => H_abM2F _ q c hc (List.map (fun p : Int × Nat => p.1) sl) ow to pl tp a left af lf (sl.length : Nat) hv bv k5 k6 a' ta' sa' n tk) (fun n tk => r_abM2F _ _ _ q c hc _ ow to pl tp a left af lf (sl.length : Nat) hv bv k5 k6 a' ta' sa' n tk) fun n tk =>
        ⟨cRNext_ok (by lia), fun z0 hz0 => ⟨cGet_ok (by lia) (by lia) g0, fun z1 hz1 => ⟨cSlice_ok (.int _ _) (.int _ _) .none (by decide) gs h1000, fun z2 hz2 => ⟨scS_ok w b1 b2 (.inr (.inl rfl)) hSL rfl hS (by lia), fun z3 hz3 => ⟨cInF_ok _ hb ((any_map c [1, 2] _).trans ht), fun z4 hz4 => ⟨cLenS_ok rfl hbz, fun z5 hz5 => ⟨cStrAt_ok (by lia) (by lia) (abc65 _ (by lia)), fun z6 hz6 => ⟨cStrAdd_ok rfl hadd, fun z7 hz7 =>
        ⟨R _ _ _ _ _ _ _ _ _ _ _ (by rfl) (by rfl) (by simp), fun z8 hz8 => ab_out rfl (by rw [el])⟩⟩⟩⟩⟩⟩⟩⟩⟩
theorem ab3_ok {sl : List (Int × Nat)} (hS : ∀ p ∈ sl, S3 p.1) (hz : sl.length ≤ 100) (q : Aq) (c : Nat → Col) (hc : Nat → Nat) (ow : List Nat) (to : Nat) (pl : Int) (tp : Nat) (rest : List DictEntry) (ef : Nat) (a left af lf : Int) (hv bv : Option Value) (an : Nat) (hSL : q.SL = inl sl) (ha : a = an) (hl : left = 3) (haf : af = an + 3) (hlf : lf = 0) (hpl : pl = an + 3)
    (hR : RLok q.RL c an 3) (hRz : q.RL.length ≤ 100) (hr : RestB (parOf w.params b1 b2) rest ef) (how : ow.length + 3 ≤ 10) : VV w b1 b2 (cAb (parOf w.params b1 b2) q c hc (sl.map (·.1)) 3 ow to pl tp rest ef a left af lf hv bv) := by
  have R : ∀ (q' : Aq) (hc' : Nat → Nat) (ow' : List Nat) (to' k5 k6 : Nat) (av : Int) (ta sa : Nat) (h1 h2 : Option Value), q'.SL = q.SL → q'.RL = q.RL → ow'.length = ow.length + 1 → VV w b1 b2 (cAb (parOf w.params b1 b2) q' (shc 3 c) hc' (sl.map (·.1)) 2 ow' to' pl tp (restX (parOf w.params b1 b2) k5 k6 av ta sa) 6 (a + 1) (left - 1) af lf h1 h2) := fun q' hc' ow' to' k5 k6 av ta sa h1 h2 e1 e2 e3 =>
    ab2_ok w b1 b2 hS hz q' _ _ ow' _ pl tp _ _ (a + 1) (left - 1) af lf _ _ (an + 1) (by rw [e1]; exact hSL) (by lia) (by lia) (by lia) hlf (by lia) (by rw [e2]; exact rl_next hR) (by rw [e2]; exact hRz) (.inr ⟨_, _, _, _, _, rfl, rfl⟩) (by lia)
  have g0 : q.RL[a.toNat]? = some (.ref (c 0).a) := by rw [ha, Int.toNat_natCast]; exact hR 0 (by decide)
  have gs : slicePick ⟨q.RL⟩ (some (a + 1)) (some (pl + 1)) none = ⟨refs c [1, 2, 3]⟩ := by
    rw [ha, hpl]
    exact rl_slice hR
  have han : an < q.RL.length := by
    rcases Nat.lt_or_ge an q.RL.length with q' | q'
    · exact q'
    · have := hR 0 (by decide)
      rw [Nat.add_zero, List.getElem?_eq_none q'] at this; cases this
  have hb := map_st c [1, 2, 3] (sl.map (·.1))
  have hbz : ow.length ≤ 1000 := by lia
  have hadd : ow.length + 1 ≤ sizeLine := by rw [sizeLine_eq]; lia
  have h1000 : q.RL.length ≤ sizeLine := by rw [sizeLine_eq]; lia
  have jz : (((sl.length : Nat)) : Int) = (sl.length : Nat) := rfl
  cases ht : (sl.map (·.1)).any fun s => !stV c [1, 2, 3] s with
  | true =>
    have el : 97 + ow.length = letr c (sl.map (·.1)) 3 ow := by
      have : (sl.map (·.1)).any (fun s => !stV c (idxs 3) s) = true := ht
      unfold letr; rw [this]; rfl
    rcases hr with ⟨rfl, rfl⟩ | ⟨k5, k6, a', ta', sa', rfl, rfl⟩
    · refine codeV (fun _ => rfl) 400 (fun n tk => H_abM3T0 _ q c hc (List.map (fun p : Int × Nat => p.1) sl) ow to pl tp a left af lf (sl.length : Nat) hv bv n tk) (fun n tk => r_abM3T0 _ _ _ q c hc _ ow to pl tp a left af lf (sl.length : Nat) hv bv n tk) fun n tk =>
        ⟨cRNext_ok (by lia), fun z0 hz0 => ⟨cGet_ok (by lia) (by lia) g0, fun z1 hz1 => ⟨cSlice_ok (.int _ _) (.int _ _) .none (by decide) gs h1000, fun z2 hz2 => ⟨scS_ok w b1 b2 (.inr (.inr (.inl rfl))) hSL rfl hS (by lia), fun z3 hz3 => ⟨cInF_ok _ hb ((any_map c [1, 2, 3] _).trans ht), fun z4 hz4 => ⟨cLenS_ok rfl hbz, fun z5 hz5 => ⟨cStrAt_ok (by lia) (by lia) (abc97 _ (by lia)), fun z6 hz6 => ⟨cStrAdd_ok rfl hadd, fun z7 hz7 =>
        ⟨R _ _ _ _ _ _ _ _ _ _ _ (by rfl) (by rfl) (by simp), fun z8 hz8 => ab_out rfl (by rw [el])⟩⟩⟩⟩⟩⟩⟩⟩⟩
    · refine codeV (fun _ => rfl) 400 (fun n tk => H_abM3T _ q c hc (List.map (fun p : Int × Nat => p.1) sl) ow to pl tp a left af lf (sl.length : Nat) hv bv k5 k6 a' ta' sa' n tk) (fun n tk => r_abM3T _ _ _ q c hc _ ow to pl tp a left af lf (sl.length : Nat) hv bv k5 k6 a' ta' sa' n tk) fun n tk =>
        ⟨cRNext_ok (by lia), fun z0 hz0 => ⟨cGet_ok (by lia) (by lia) g0, fun z1 hz1 => ⟨cSlice_ok (.int _ _) (.int _ _) .none (by decide) gs h1000, fun z2 hz2 => ⟨scS_ok w b1 b2 (.inr (.inr (.inl rfl))) hSL rfl hS (by lia), fun z3 hz3 => ⟨cInF_ok _ hb ((any_map c [1, 2, 3] _).trans ht), fun z4 hz4 => ⟨cLenS_ok rfl hbz, fun z5 hz5 => ⟨cStrAt_ok (by lia) (by lia) (abc97 _ (by lia)), fun z6 hz6 => ⟨cStrAdd_ok rfl hadd, fun z7 hz7 =>
        ⟨R _ _ _ _ _ _ _ _ _ _ _ (by rfl) (by rfl) (by simp), fun z8 hz8 => ab_out rfl (by rw [el])⟩⟩⟩⟩⟩⟩⟩⟩⟩
  | false =>
    have el : 65 + ow.length = letr c (sl.map (·.1)) 3 ow := by
      have : (sl.map (·.1)).any (fun s => !stV c (idxs 3) s) = false := ht
      unfold letr; rw [this]; rfl
    rcases hr with ⟨rfl, rfl⟩ | ⟨k5, k6, a', ta', sa', rfl, rfl⟩
    · refine codeV (fun _ => rfl) 400 (fun n tk => H_abM3F0 _ q c hc (List.map (fun p : Int × Nat => p.1) sl) ow to pl tp a left af lf (sl.length : Nat) hv bv n tk) (fun n tk => r_abM3F0 _ _ _ q c hc _ ow to pl tp a left af lf (sl.length : Nat) hv bv n tk) fun n tk =>
        ⟨cRNext_ok (by lia), fun z0 hz0 => ⟨cGet_ok (by lia) (by lia) g0, fun z1 hz1 => ⟨cSlice_ok (.int _ _) (.int _ _) .none (by decide) gs h1000, fun z2 hz2 => ⟨scS_ok w b1 b2 (.inr (.inr (.inl rfl))) hSL rfl hS (by lia), fun z3 hz3 => ⟨cInF_ok _ hb ((any_map c [1, 2, 3] _).trans ht), fun z4 hz4 => ⟨cLenS_ok rfl hbz, fun z5 hz5 => ⟨cStrAt_ok (by lia) (by lia) (abc65 _ (by lia)), fun z6 hz6 => ⟨cStrAdd_ok rfl hadd, fun z7 hz7 =>
        ⟨R _ _ _ _ _ _ _ _ _ _ _ (by rfl) (by rfl) (by simp), fun z8 hz8 => ab_out rfl (by rw [el])⟩⟩⟩⟩⟩⟩⟩⟩⟩
    · refine codeV (fun _ => rfl) 400 (fun n tk => H_abM3F _ q c hc (List.map (fun p : Int × Nat => p.1) sl) ow to pl tp a left af lf (sl.length : Nat) hv bv k5 k6 a' ta' sa' n tk) (fun n tk => r_abM3F _ _ _ q c hc _ ow to pl tp a left af lf (sl.length : Nat) hv bv k5 k6 a' ta' sa' n tk) fun n tk =>
        ⟨cRNext_ok (by lia), fun z0 hz0 => ⟨cGet_ok (by lia) (by lia) g0, fun z1 hz1 => ⟨cSlice_ok (.int _ _) (.int _ _) .none (by decide) gs h1000, fun z2 hz2 => ⟨scS_ok w b1 b2 (.inr (.inr (.inl rfl))) hSL rfl hS (by lia), fun z3 hz3 => ⟨cInF_ok _ hb ((any_map c [1, 2, 3] _).trans ht), fun z4 hz4 => ⟨cLenS_ok rfl hbz, fun z5 hz5 => ⟨cStrAt_ok (by lia) (by lia) (abc65 _ (by lia)), fun z6 hz6 => ⟨cStrAdd_ok rfl hadd, fun z7 hz7 =>
        ⟨R _ _ _ _ _ _ _ _ _ _ _ (by rfl) (by rfl) (by simp), fun z8 hz8 => ab_out rfl (by rw [el])⟩⟩⟩⟩⟩⟩⟩⟩⟩
theorem ab4_ok {sl : List (Int × Nat)} (hS : ∀ p ∈ sl, S3 p.1) (hz : sl.length ≤ 100) (q : Aq) (c : Nat → Col) (hc : Nat → Nat) (ow : List Nat) (to : Nat) (pl : Int) (tp : Nat) (rest : List DictEntry) (ef : Nat) (a left af lf : Int) (hv bv : Option Value) (an : Nat) (hSL : q.SL = inl sl) (ha : a = an) (hl : left = 4) (haf : af = an + 4) (hlf : lf = 0) (hpl : pl = an + 4)
    (hR : RLok q.RL c an 4) (hRz : q.RL.length ≤ 100) (hr : RestB (parOf w.params b1 b2) rest ef) (how : ow.length + 4 ≤ 10) : VV w b1 b2 (cAb (parOf w.params b1 b2) q c hc (sl.map (·.1)) 4 ow to pl tp rest ef a left af lf hv bv) := by
  have R : ∀ (q' : Aq) (hc' : Nat → Nat) (ow' : List Nat) (to' k5 k6 : Nat) (av : Int) (ta sa : Nat) (h1 h2 : Option Value), q'.SL = q.SL → q'.RL = q.RL → ow'.length = ow.length + 1 → VV w b1 b2 (cAb (parOf w.params b1 b2) q' (shc 4 c) hc' (sl.map (·.1)) 3 ow' to' pl tp (restX (parOf w.params b1 b2) k5 k6 av ta sa) 6 (a + 1) (left - 1) af lf h1 h2) := fun q' hc' ow' to' k5 k6 av ta sa h1 h2 e1 e2 e3 =>
    ab3_ok w b1 b2 hS hz q' _ _ ow' _ pl tp _ _ (a + 1) (left - 1) af lf _ _ (an + 1) (by rw [e1]; exact hSL) (by lia) (by lia) (by lia) hlf (by lia) (by rw [e2]; exact rl_next hR) (by rw [e2]; exact hRz) (.inr ⟨_, _, _, _, _, rfl, rfl⟩) (by lia)
  have g0 : q.RL[a.toNat]? = some (.ref (c 0).a) := by rw [ha, Int.toNat_natCast]; exact hR 0 (by decide)
  have gs : slicePick ⟨q.RL⟩ (some (a + 1)) (some (pl + 1)) none = ⟨refs c [1, 2, 3, 4]⟩ := by
    rw [ha, hpl]
    exact rl_slice hR
  have han : an < q.RL.length := by
    rcases Nat.lt_or_ge an q.RL.length with q' | q'
    · exact q'
    · have := hR 0 (by decide)
      rw [Nat.add_zero, List.getElem?_eq_none q'] at this; cases this
  have hb := map_st c [1, 2, 3, 4] (sl.map (·.1))
  have hbz : ow.length ≤ 1000 := by lia
  have hadd : ow.length + 1 ≤ sizeLine := by rw [sizeLine_eq]; lia
  have h1000 : q.RL.length ≤ sizeLine := by rw [sizeLine_eq]; lia
  have jz : (((sl.length : Nat)) : Int) = (sl.length : Nat) := rfl
  cases ht : (sl.map (·.1)).any fun s => !stV c [1, 2, 3, 4] s with
  | true =>
    have el : 97 + ow.length = letr c (sl.map (·.1)) 4 ow := by
      have : (sl.map (·.1)).any (fun s => !stV c (idxs 4) s) = true := ht
      unfold letr; rw [this]; rfl
    rcases hr with ⟨rfl, rfl⟩ | ⟨k5, k6, a', ta', sa', rfl, rfl⟩
    · refine codeV (fun _ => rfl) 400 (fun n tk => H_abM4T0 _ q c hc (List.map (fun p : Int × Nat => p.1) sl) ow to pl tp a left af lf (sl.length : Nat) hv bv n tk) (fun n tk => r_abM4T0 _ _ _ q c hc _ ow to pl tp a left af lf (sl.length : Nat) hv bv n tk) fun n tk =>
        ⟨cRNext_ok (by lia), fun z0 hz0 => ⟨cGet_ok (by lia) (by lia) g0, fun z1 hz1 => ⟨cSlice_ok (.int _ _) (.int _ _) .none (by decide) gs h1000, fun z2 hz2 => ⟨scS_ok w b1 b2 (.inr (.inr (.inr rfl))) hSL rfl hS (by lia), fun z3 hz3 => ⟨cInF_ok _ hb ((any_map c [1, 2, 3, 4] _).trans ht), fun z4 hz4 => ⟨cLenS_ok rfl hbz, fun z5 hz5 => ⟨cStrAt_ok (by lia) (by lia) (abc97 _ (by lia)), fun z6 hz6 => ⟨cStrAdd_ok rfl hadd, fun z7 hz7 =>
        ⟨R _ _ _ _ _ _ _ _ _ _ _ (by rfl) (by rfl) (by simp), fun z8 hz8 => ab_out rfl (by rw [el])⟩⟩⟩⟩⟩⟩⟩⟩⟩
    · refine codeV (fun _ => rfl) 400 (fun n tk => H_abM4T _ q c hc (List.map (fun p : Int × Nat => p.1) sl) ow to pl tp a left af lf (sl.length : Nat) hv bv k5 k6 a' ta' sa' n tk) (fun n tk => r_abM4T _ _ _ q c hc _ ow to pl tp a left af lf (sl.length : Nat) hv bv k5 k6 a' ta' sa' n tk) fun n tk =>
        ⟨cRNext_ok (by lia), fun z0 hz0 => ⟨cGet_ok (by lia) (by lia) g0, fun z1 hz1 => ⟨cSlice_ok (.int _ _) (.int _ _) .none (by decide) gs h1000, fun z2 hz2 => ⟨scS_ok w b1 b2 (.inr (.inr (.inr rfl))) hSL rfl hS (by lia), fun z3 hz3 => ⟨cInF_ok _ hb ((any_map c [1, 2, 3, 4] _).trans ht), fun z4 hz4 => ⟨cLenS_ok rfl hbz, fun z5 hz5 => ⟨cStrAt_ok (by lia) (by lia) (abc97 _ (by lia)), fun z6 hz6 => ⟨cStrAdd_ok rfl hadd, fun z7 hz7 =>
        ⟨R _ _ _ _ _ _ _ _ _ _ _ (by rfl) (by rfl) (by simp), fun z8 hz8 => ab_out rfl (by rw [el])⟩⟩⟩⟩⟩⟩⟩⟩⟩
  | false =>
    have el : 65 + ow.length = letr c (sl.map (·.1)) 4 ow := by
      have : (sl.map (·.1)).any (fun s => !stV c (idxs 4) s) = false := ht
      unfold letr; rw [this]; rfl
    rcases hr with ⟨rfl, rfl⟩ | ⟨k5, k6, a', ta', sa', rfl, rfl⟩
    · refine codeV (fun _ => rfl) 400 (fun n tk => H_abM4F0 _ q c hc (List.map (fun p : Int × Nat => p.1) sl) ow to pl tp a left af lf (sl.length : Nat) hv bv n tk) (fun n tk => r_abM4F0 _ _ _ q c hc _ ow to pl tp a left af lf (sl.length : Nat) hv bv n tk) fun n tk =>
        ⟨cRNext_ok (by lia), fun z0 hz0 => ⟨cGet_ok (by lia) (by lia) g0, fun z1 hz1 => ⟨cSlice_ok (.int _ _) (.int _ _) .none (by decide) gs h1000, fun z2 hz2 => ⟨scS_ok w b1 b2 (.inr (.inr (.inr rfl))) hSL rfl hS (by lia), fun z3 hz3 => ⟨cInF_ok _ hb ((any_map c [1, 2, 3, 4] _).trans ht), fun z4 hz4 => ⟨cLenS_ok rfl hbz, fun z5 hz5 => ⟨cStrAt_ok (by lia) (by lia) (abc65 _ (by lia)), fun z6 hz6 => ⟨cStrAdd_ok rfl hadd, fun z7 hz7 =>
        ⟨R _ _ _ _ _ _ _ _ _ _ _ (by rfl) (by rfl) (by simp), fun z8 hz8 => ab_out rfl (by rw [el])⟩⟩⟩⟩⟩⟩⟩⟩⟩
    · refine codeV (fun _ => rfl) 400 (fun n tk => H_abM4F _ q c hc (List.map (fun p : Int × Nat => p.1) sl) ow to pl tp a left af lf (sl.length : Nat) hv bv k5 k6 a' ta' sa' n tk) (fun n tk => r_abM4F _ _ _ q c hc _ ow to pl tp a left af lf (sl.length : Nat) hv bv k5 k6 a' ta' sa' n tk) fun n tk =>
        ⟨cRNext_ok (by lia), fun z0 hz0 => ⟨cGet_ok (by lia) (by lia) g0, fun z1 hz1 => ⟨cSlice_ok (.int _ _) (.int _ _) .none (by decide) gs h1000, fun z2 hz2 => ⟨scS_ok w b1 b2 (.inr (.inr (.inr rfl))) hSL rfl hS (by lia), fun z3 hz3 => ⟨cInF_ok _ hb ((any_map c [1, 2, 3, 4] _).trans ht), fun z4 hz4 => ⟨cLenS_ok rfl hbz, fun z5 hz5 => ⟨cStrAt_ok (by lia) (by lia) (abc65 _ (by lia)), fun z6 hz6 => ⟨cStrAdd_ok rfl hadd, fun z7 hz7 =>
        ⟨R _ _ _ _ _ _ _ _ _ _ _ (by rfl) (by rfl) (by simp), fun z8 hz8 => ab_out rfl (by rw [el])⟩⟩⟩⟩⟩⟩⟩⟩⟩
theorem shW_len (ss : List Int) : ∀ (m : Nat) (c : Nat → Col) (ow : List Nat), (shW ss m c ow).length = ow.length + m
  | 0, _, _ => rfl
  | m + 1, c, ow => by
    show (shW ss m (shc (m + 1) c) (ow ++ [_])).length = _
    rw [shW_len ss m, List.length_append]
    show ow.length + 1 + m = _
    lia
noncomputable def tri : Nat → Nat
  | 0 => 0
  | k + 1 => tri k + k
theorem shA_len (ss : List Int) (c : Nat → Col) : ∀ k, (shA ss c k).length = tri k
  | 0 => rfl
  | k + 1 => by
    show (shW ss k c (shA ss c k)).length = tri k + k
    rw [shW_len, shA_len ss c k]
theorem fn155 (P : Params) : FnAt (kt P) 155 fd155 (dBody (stm 18)) := ⟨⟨fnO fd155, by kernel_rfl!, rfl⟩, by kernel_rfl!, by kernel_rfl!, by kernel_rfl!, ⟨154, o154, _, 406, by kernel_rfl!, by kernel_rfl!, rfl, by kernel_rfl!⟩, by kernel_rfl!⟩
noncomputable def shV (ss : List Int) (c : Nat → Col) (n : Nat) : List Nat := shA ss c n ++ abcL.drop (shA ss c n).length
end
section
variable (w : World) (b1 b2 : Bool)
theorem sh4_ok {sl : List (Int × Nat)} (hS : ∀ p ∈ sl, S3 p.1) (hz : sl.length ≤ 100) {c : Nat → Col} {hc : Nat → Nat} {h1 h2 ca sza er es : Nat} {r : List Nat} (hr : r = shV (sl.map (·.1)) c 4) : VV w b1 b2 (cSh (parOf w.params b1 b2) c hc h1 h2 ca sza [0, 1, 2, 3] er (inl sl) es r) := by
  have rl : ∀ k, k < 4 → RLok (refs c [0, 1, 2, 3]) c 0 k := fun k hk i hi => by
    have : i = 0 ∨ i = 1 ∨ i = 2 ∨ i = 3 := by lia
    rcases this with rfl | rfl | rfl | rfl <;> rfl
  have rz : (refs c [0, 1, 2, 3]).length ≤ 100 := by show 4 ≤ 100; decide
  have L0 : RestB (parOf w.params b1 b2) [] 4 := .inl ⟨rfl, rfl⟩
  have l := fun k => shA_len (sl.map (·.1)) c k
  have R : ∀ (y : Nat → Nat) (rest : List DictEntry) k, RestB (parOf w.params b1 b2) (restB (parOf w.params b1 b2) y rest (k + 1)) 6 := fun y rest k => .inr ⟨y 5, y 6, iw (y 7), y 8, y 9, rfl, rfl⟩
  have h1' := fun n tk => r_sh4 w.params b1 b2 c hc h1 h2 ca sza er (inl sl) es (List.map (fun p : Int × Nat => p.1) sl) r n tk
  refine fnV (fn155 (parOf w.params b1 b2)) rfl (show 1 ≤ 8 by decide) (fun _ => rfl) 900 _ h1' fun n tk => ?_
  refine ⟨abE_ok w b1 b2 (by decide) rfl rfl, fun z0 _ => ?_⟩
  refine ⟨ab1_ok w b1 b2 hS hz _ _ _ _ _ _ _ _ _ _ _ _ _ _ _ 0 rfl rfl rfl rfl rfl rfl (rl 1 (by decide)) rz L0 (by rw [l]; decide), fun z1 _ => ?_⟩
  refine ⟨ab2_ok w b1 b2 hS hz _ _ _ _ _ _ _ _ _ _ _ _ _ _ _ 0 rfl rfl rfl rfl rfl rfl (rl 2 (by decide)) rz (R _ _ _) (by rw [l]; decide), fun z2 _ => ?_⟩
  refine ⟨ab3_ok w b1 b2 hS hz _ _ _ _ _ _ _ _ _ _ _ _ _ _ _ 0 rfl rfl rfl rfl rfl rfl (rl 3 (by decide)) rz (R _ _ _) (by rw [l]; decide), fun z3 _ => ?_⟩
  refine ⟨cLenS_ok rfl (by rw [l]; decide), fun z4 _ => ?_⟩
  refine ⟨cStrFrom_ok (by lia) (by rw [Int.toNat_natCast]) (by rw [l]; decide) (by decide), fun z5 _ => ?_⟩
  refine ⟨cStrAdd_ok (by rw [hr]; rfl) (by rw [sizeLine_eq]; show (shA _ c 4).length + (List.drop _ abcL).length ≤ _; rw [List.length_drop, l]; decide), fun z6 _ => ?_⟩
  exact outE z6 fun sz tk => ⟨trivial, rfl, rfl, rfl, rfl⟩
theorem sh5_ok {sl : List (Int × Nat)} (hS : ∀ p ∈ sl, S3 p.1) (hz : sl.length ≤ 100) {c : Nat → Col} {hc : Nat → Nat} {h1 h2 ca sza er es : Nat} {r : List Nat} (hr : r = shV (sl.map (·.1)) c 5) : VV w b1 b2 (cSh (parOf w.params b1 b2) c hc h1 h2 ca sza [0, 1, 2, 3, 4] er (inl sl) es r) := by
  have rl : ∀ k, k < 5 → RLok (refs c [0, 1, 2, 3, 4]) c 0 k := fun k hk i hi => by
    have : i = 0 ∨ i = 1 ∨ i = 2 ∨ i = 3 ∨ i = 4 := by lia
    rcases this with rfl | rfl | rfl | rfl | rfl <;> rfl
  have rz : (refs c [0, 1, 2, 3, 4]).length ≤ 100 := by show 5 ≤ 100; decide
  have L0 : RestB (parOf w.params b1 b2) [] 4 := .inl ⟨rfl, rfl⟩
  have l := fun k => shA_len (sl.map (·.1)) c k
  have R : ∀ (y : Nat → Nat) (rest : List DictEntry) k, RestB (parOf w.params b1 b2) (restB (parOf w.params b1 b2) y rest (k + 1)) 6 := fun y rest k => .inr ⟨y 5, y 6, iw (y 7), y 8, y 9, rfl, rfl⟩
  have h1' := fun n tk => r_sh5 w.params b1 b2 c hc h1 h2 ca sza er (inl sl) es (List.map (fun p : Int × Nat => p.1) sl) r n tk
  refine fnV (fn155 (parOf w.params b1 b2)) rfl (show 1 ≤ 8 by decide) (fun _ => rfl) 900 _ h1' fun n tk => ?_
  refine ⟨abE_ok w b1 b2 (by decide) rfl rfl, fun z0 _ => ?_⟩
  refine ⟨ab1_ok w b1 b2 hS hz _ _ _ _ _ _ _ _ _ _ _ _ _ _ _ 0 rfl rfl rfl rfl rfl rfl (rl 1 (by decide)) rz L0 (by rw [l]; decide), fun z1 _ => ?_⟩
  refine ⟨ab2_ok w b1 b2 hS hz _ _ _ _ _ _ _ _ _ _ _ _ _ _ _ 0 rfl rfl rfl rfl rfl rfl (rl 2 (by decide)) rz (R _ _ _) (by rw [l]; decide), fun z2 _ => ?_⟩
  refine ⟨ab3_ok w b1 b2 hS hz _ _ _ _ _ _ _ _ _ _ _ _ _ _ _ 0 rfl rfl rfl rfl rfl rfl (rl 3 (by decide)) rz (R _ _ _) (by rw [l]; decide), fun z3 _ => ?_⟩
  refine ⟨ab4_ok w b1 b2 hS hz _ _ _ _ _ _ _ _ _ _ _ _ _ _ _ 0 rfl rfl rfl rfl rfl rfl (rl 4 (by decide)) rz (R _ _ _) (by rw [l]; decide), fun z4 _ => ?_⟩
  refine ⟨cLenS_ok rfl (by rw [l]; decide), fun z5 _ => ?_⟩
  refine ⟨cStrFrom_ok (by lia) (by rw [Int.toNat_natCast]) (by rw [l]; decide) (by decide), fun z6 _ => ?_⟩
  refine ⟨cStrAdd_ok (by rw [hr]; rfl) (by rw [sizeLine_eq]; show (shA _ c 5).length + (List.drop _ abcL).length ≤ _; rw [List.length_drop, l]; decide), fun z7 _ => ?_⟩
  exact outE z7 fun sz tk => ⟨trivial, rfl, rfl, rfl, rfl⟩
end
/-! _law_great -/
noncomputable def eGr : PySem.Expr := argE (retE (atS (dBody (stm 19)) 0)) 0
noncomputable def scGr : Scope := { kind := .function, names := [(⟨⟨[46, 48]⟩⟩, .local), (⟨⟨[115, 105, 103, 110]⟩⟩, .local)], isGenerator := false, isCoroutine := false }
structure Gr where
  (L L' it acc : Addr) (x : PySem.Str) (t i0 i1 i2 : Nat)
noncomputable def Gr.env (q : Gr) : Env := envC fd160 q.L q.L' scGr []
noncomputable def frG (P : Params) (k1 s0 st : Nat) : Obj := dcO [eN P [115, 105, 103, 110] k1 (.str ⟨⟨[s0]⟩⟩ st)] 1
noncomputable def cGr (P : Params) (q : Gr) (fr : Obj) (j : Nat) (pre : List Value) (ep kf n : Nat) : Ctr :=
  { code := .compLoop eGr 0 (.ref q.it) (.ref q.acc) q.env, mus := [(q.i0, (q.L', fr)), (q.i1, (q.it, siO (.str q.x q.t) j)), (q.i2, (q.acc, liO pre ep))],
    upd := fun y => [frG P (y 2) (y 3) (y 4), siO .none n, liO (pre ++ (lst y kf).map fun t => .int 1 t) (ep + kf)], res := fun _ => .ok .next }
noncomputable def cGrS (P : Params) (q : Gr) (kf n : Nat) : Ctr :=
  { code := .compStart eGr 0 (.ref q.it) (.ref q.acc) q.env, mus := [(q.i0, (q.L', dcO [] 0)), (q.i1, (q.it, siO (.str q.x q.t) 0)), (q.i2, (q.acc, liO [] 0))],
    upd := fun y => [frG P (y 2) (y 3) (y 4), siO .none n, liO ((lst y kf).map fun t => .int 1 t) (0 + kf)], res := fun _ => .ok .next }
noncomputable def cGreat (x : PySem.Str) (t : Nat) (r : Int) : Ctr := { code := .call (.ref 160) ⟨[.str x t], []⟩, room := 1, res := fun y => .ok (.ret (.int r (y 2))) }
/-! _substitution_cost -/
noncomputable def lo (x : Nat) : Nat := if x < 97 then x + 32 else x
noncomputable def Letter (x : Nat) : Prop := (65 ≤ x ∧ x ≤ 74) ∨ (97 ≤ x ∧ x ≤ 106)
noncomputable def subc (x y : Nat) : Int := if x = y then 0 else if lo x = lo y then 1 else 2
noncomputable def cSub (x y : Nat) (t u : Nat) (r : Int) : Ctr := { code := .call (.ref 108) ⟨[.str ⟨⟨[x]⟩⟩ t, .str ⟨⟨[y]⟩⟩ u], []⟩, room := 1, res := fun z => .ok (.ret (.int r (z 2))) }
theorem fn108 (P : Params) : FnAt (kt P) 108 fd108 (dBody (stm 10)) := ⟨⟨fnO fd108, by kernel_rfl!, rfl⟩, by kernel_rfl!, by kernel_rfl!, by kernel_rfl!, ⟨107, o107, _, 323, by kernel_rfl!, by kernel_rfl!, rfl, by kernel_rfl!⟩, by kernel_rfl!⟩
noncomputable def H108a (x y t u n tk : Nat) : HT := .go [1,0,1,0,1,1,1] (.cut (cStrEq ⟨⟨[x]⟩⟩ ⟨⟨[y]⟩⟩ t u true) fun z => .go [] (.nil { res := .ok (.ret (.int 0 (z 1))) }))
theorem r108a (P : Params) (b1 b2 : Bool) (x y t u n tk : Nat) : (RunF (parOf P b1 b2) (cSub x y t u 0) 108 fd108 [.str ⟨⟨[x]⟩⟩ t, .str ⟨⟨[y]⟩⟩ u] 200 (H108a x y t u n tk) n tk).Ok := by
  cases b1 <;> (show OT.l _ = OT.r _; kernel_rfl)
noncomputable def H108b (x y t u n tk l : Nat) (lx ly : PySem.Str) (v : Bool) (r : Int) : HT := .go [1,0,1,0,1,1,1] (.cut (cStrEq ⟨⟨[x]⟩⟩ ⟨⟨[y]⟩⟩ t u false) fun z => .go [1,1] (.cut (cStrLower ⟨⟨[x]⟩⟩ t lx) fun z1 => .go [1,1] (.cut (cStrLower ⟨⟨[y]⟩⟩ u ly) fun z2 => .go [1] (.cut (cStrEq lx ly (z1 2) (z2 2) v) fun z3 => .go [0] (.nil { res := .ok (.ret (.int r l)) })))))
theorem r108b (P : Params) (b1 b2 : Bool) (x y t u n tk : Nat) (lx ly : PySem.Str) : (RunF (parOf P b1 b2) (cSub x y t u 1) 108 fd108 [.str ⟨⟨[x]⟩⟩ t, .str ⟨⟨[y]⟩⟩ u] 200 (H108b x y t u n tk 320 lx ly true 1) n tk).Ok := by
  cases b1 <;> (show OT.l _ = OT.r _; kernel_rfl)
theorem r108c (P : Params) (b1 b2 : Bool) (x y t u n tk : Nat) (lx ly : PySem.Str) : (RunF (parOf P b1 b2) (cSub x y t u 2) 108 fd108 [.str ⟨⟨[x]⟩⟩ t, .str ⟨⟨[y]⟩⟩ u] 200 (H108b x y t u n tk 318 lx ly false 2) n tk).Ok := by
  cases b1 <;> (show OT.l _ = OT.r _; kernel_rfl)
theorem lower_is : ∀ x ∈ [65, 66, 67, 68, 69, 70, 71, 72, 73, 74, 97, 98, 99, 100, 101, 102, 103, 104, 105, 106], PySem.placed ⟨⟨[x]⟩⟩ (fun i _ => Unicode.lowerAt (⟨[x]⟩ : Array Nat) i) = ⟨[lo x]⟩ := by decide +kernel
theorem letter_all : ∀ y, y < 107 → ((65 ≤ y ∧ y ≤ 74) ∨ (97 ≤ y ∧ y ≤ 106)) → y ∈ [65, 66, 67, 68, 69, 70, 71, 72, 73, 74, 97, 98, 99, 100, 101, 102, 103, 104, 105, 106] := by decide +kernel
theorem letter_mem {x : Nat} (h : Letter x) : x ∈ [65, 66, 67, 68, 69, 70, 71, 72, 73, 74, 97, 98, 99, 100, 101, 102, 103, 104, 105, 106] :=
  letter_all x (by unfold Letter at h; lia) h
theorem cStrLower_ok {prog : Program} {w : World} {kt : KT} {x t : Nat} (h : Letter x) : (cStrLower ⟨⟨[x]⟩⟩ t ⟨⟨[lo x]⟩⟩).Valid prog w kt := by
  have e := lower_is x (letter_mem h)
  refine cB_valid F.slot_str_lower (fun s => typeIs_str s _ t) F.entry_str_lower (F.args_str_lower_1 _) (gives_str_lower ⟨⟨[x]⟩⟩ t ?_) ?_
  · show Builtin.Str.tooLong (PySem.placed ⟨⟨[x]⟩⟩ (fun i _ => Unicode.lowerAt (⟨[x]⟩ : Array Nat) i)).size = false
    rw [e]; show Builtin.Str.tooLong 1 = false; decide
  · show MadeIs (.str ⟨PySem.placed ⟨⟨[x]⟩⟩ (fun i _ => Unicode.lowerAt (⟨[x]⟩ : Array Nat) i)⟩) _
    rw [e]
    exact ⟨by show 1 ≤ sizeLine; decide, fun t => rfl⟩
theorem sub_ok (w : World) (b1 b2 : Bool) {x y t u : Nat} (hx : Letter x) (hy : Letter y) : VV w b1 b2 (cSub x y t u (subc x y)) := by
  unfold subc
  by_cases h : x = y
  · subst h
    rw [if_pos rfl]
    refine fnV (fn108 _) rfl (Nat.le_refl _) (fun _ => rfl) 200 (fun n tk => H108a x x t u n tk) (fun n tk => r108a _ _ _ _ _ _ _ _ _) fun n tk => ⟨cStrEq_ok (by simp), fun z _ => ?_⟩
    exact outE (fun _ => z 1) fun sz tk => ⟨trivial, rfl, rfl, rfl, rfl⟩
  · rw [if_neg h]
    by_cases hl : lo x = lo y
    · rw [if_pos hl]
      refine fnV (fn108 _) rfl (Nat.le_refl _) (fun _ => rfl) 200 (fun n tk => H108b x y t u n tk 320 _ _ true 1) (fun n tk => r108b _ _ _ _ _ _ _ _ _ _ _) fun n tk =>
        ⟨cStrEq_ok (by simpa using h), fun z _ => ⟨cStrLower_ok hx, fun z1 _ => ⟨cStrLower_ok hy, fun z2 _ => ⟨cStrEq_ok (by simpa using hl), fun z3 _ => ?_⟩⟩⟩⟩
      exact outE (fun _ => 320) fun sz tk => ⟨trivial, rfl, rfl, rfl, rfl⟩
    · rw [if_neg hl]
      refine fnV (fn108 _) rfl (Nat.le_refl _) (fun _ => rfl) 200 (fun n tk => H108b x y t u n tk 318 _ _ false 2) (fun n tk => r108c _ _ _ _ _ _ _ _ _ _ _) fun n tk =>
        ⟨cStrEq_ok (by simpa using h), fun z _ => ⟨cStrLower_ok hx, fun z1 _ => ⟨cStrLower_ok hy, fun z2 _ => ⟨cStrEq_ok (by simpa using hl), fun z3 _ => ?_⟩⟩⟩⟩
      exact outE (fun _ => 318) fun sz tk => ⟨trivial, rfl, rfl, rfl, rfl⟩
noncomputable def H_grF0 (P : Params) (q : Gr) (j : Nat) (pre : List Value) (ep kf n0 c : Nat) (n tk : Nat) : HT := .go [3,1] (.cut (cSNext 1 q.it q.x q.t j c) fun z0 => .go [1,0,1,1] (.cut (cContains ({ cps := { toList := [65, 66, 67, 68, 69, 70, 71, 72, 73, 74] } }) ({ cps := { toList := [c] } }) (z0 1 + 1) (z0 2) false) fun z1 => .go [] (.cut (cGr P { q with i0 := 0, i1 := 1, i2 := 2 } (frG P (z0 1) c (z0 2)) (j + 1) pre ep kf n0) fun z2 => .go [] (.nil { res := .ok Flow.next, exp := [(1, (q.L', frG P (z2 2) (z2 3) (z2 4))), (3, (q.it, siO .none n0)), (5, (q.acc, liO (pre ++ (lst z2 kf).map fun t => .int 1 t) (ep + kf)))] }))))
theorem r_grF0 (P : Params) (b1 b2 : Bool) (q : Gr) (j : Nat) (pre : List Value) (ep kf n0 c : Nat) (n tk : Nat) : (RunC (parOf P b1 b2) (cGr (parOf P b1 b2) q (dcO [] 0) j pre ep kf n0) 400 (H_grF0 (parOf P b1 b2) q j pre ep kf n0 c n tk) n tk).Ok := by
  cases b1 <;> (show OT.l _ = OT.r _; kernel_rfl)
noncomputable def H_grF (P : Params) (q : Gr) (j : Nat) (pre : List Value) (ep kf n0 c k1 s0 st : Nat) (n tk : Nat) : HT := .go [3,1] (.cut (cSNext 1 q.it q.x q.t j c) fun z0 => .go [1,0,1,1] (.cut (cContains ({ cps := { toList := [65, 66, 67, 68, 69, 70, 71, 72, 73, 74] } }) ({ cps := { toList := [c] } }) (z0 1 + 1) (z0 2) false) fun z1 => .go [] (.cut (cGr P { q with i0 := 0, i1 := 1, i2 := 2 } (frG P k1 c (z0 2)) (j + 1) pre ep kf n0) fun z2 => .go [] (.nil { res := .ok Flow.next, exp := [(1, (q.L', frG P (z2 2) (z2 3) (z2 4))), (3, (q.it, siO .none n0)), (5, (q.acc, liO (pre ++ (lst z2 kf).map fun t => .int 1 t) (ep + kf)))] }))))
theorem r_grF (P : Params) (b1 b2 : Bool) (q : Gr) (j : Nat) (pre : List Value) (ep kf n0 c k1 s0 st : Nat) (n tk : Nat) : (RunC (parOf P b1 b2) (cGr (parOf P b1 b2) q (frG (parOf P b1 b2) k1 s0 st) j pre ep kf n0) 400 (H_grF (parOf P b1 b2) q j pre ep kf n0 c k1 s0 st n tk) n tk).Ok := by
  cases b1 <;> (show OT.l _ = OT.r _; kernel_rfl)
noncomputable def H_grT0 (P : Params) (q : Gr) (j : Nat) (pre : List Value) (ep kf n0 c : Nat) (n tk : Nat) : HT := .go [3,1] (.cut (cSNext 1 q.it q.x q.t j c) fun z0 => .go [1,0,1,1] (.cut (cContains ({ cps := { toList := [65, 66, 67, 68, 69, 70, 71, 72, 73, 74] } }) ({ cps := { toList := [c] } }) (z0 1 + 1) (z0 2) true) fun z1 => .go [1] (.cut (cApp 2 q.acc pre ep (Value.int 1 (z1 1))) fun z2 => .go [] (.cut (cGr P { q with i0 := 0, i1 := 1, i2 := 2 } (frG P (z0 1) c (z0 2)) (j + 1) (pre ++ [Value.int 1 (z1 1)]) (ep + 1) kf n0) fun z3 => .go [] (.nil { res := .ok Flow.next, exp := [(1, (q.L', frG P (z3 2) (z3 3) (z3 4))), (3, (q.it, siO .none n0)), (5, (q.acc, liO ((pre ++ [.int 1 (z1 1)]) ++ (lst z3 kf).map fun t => .int 1 t) (ep + 1 + kf)))] })))))
theorem r_grT0 (P : Params) (b1 b2 : Bool) (q : Gr) (j : Nat) (pre : List Value) (ep kf n0 c : Nat) (n tk : Nat) : (RunC (parOf P b1 b2) (cGr (parOf P b1 b2) q (dcO [] 0) j pre ep (kf + 1) n0) 400 (H_grT0 (parOf P b1 b2) q j pre ep kf n0 c n tk) n tk).Ok := by
  cases b1 <;> (show OT.l _ = OT.r _; kernel_rfl)
noncomputable def H_grT (P : Params) (q : Gr) (j : Nat) (pre : List Value) (ep kf n0 c k1 s0 st : Nat) (n tk : Nat) : HT := .go [3,1] (.cut (cSNext 1 q.it q.x q.t j c) fun z0 => .go [1,0,1,1] (.cut (cContains ({ cps := { toList := [65, 66, 67, 68, 69, 70, 71, 72, 73, 74] } }) ({ cps := { toList := [c] } }) (z0 1 + 1) (z0 2) true) fun z1 => .go [1] (.cut (cApp 2 q.acc pre ep (Value.int 1 (z1 1))) fun z2 => .go [] (.cut (cGr P { q with i0 := 0, i1 := 1, i2 := 2 } (frG P k1 c (z0 2)) (j + 1) (pre ++ [Value.int 1 (z1 1)]) (ep + 1) kf n0) fun z3 => .go [] (.nil { res := .ok Flow.next, exp := [(1, (q.L', frG P (z3 2) (z3 3) (z3 4))), (3, (q.it, siO .none n0)), (5, (q.acc, liO ((pre ++ [.int 1 (z1 1)]) ++ (lst z3 kf).map fun t => .int 1 t) (ep + 1 + kf)))] })))))
theorem r_grT (P : Params) (b1 b2 : Bool) (q : Gr) (j : Nat) (pre : List Value) (ep kf n0 c k1 s0 st : Nat) (n tk : Nat) : (RunC (parOf P b1 b2) (cGr (parOf P b1 b2) q (frG (parOf P b1 b2) k1 s0 st) j pre ep (kf + 1) n0) 400 (H_grT (parOf P b1 b2) q j pre ep kf n0 c k1 s0 st n tk) n tk).Ok := by
  cases b1 <;> (show OT.l _ = OT.r _; kernel_rfl)
noncomputable def H_grE (P : Params) (q : Gr) (j : Nat) (pre : List Value) (ep k1 s0 st : Nat) (n tk : Nat) : HT := .go [3,1] (.cut (cSEnd 1 q.it q.x q.t j) fun z0 => .go [4] (.nil { res := .ok Flow.next, exp := [(1, (q.L', frG P k1 s0 st)), (3, (q.it, siO .none j)), (5, (q.acc, liO pre ep))] }))
theorem r_grE (P : Params) (b1 b2 : Bool) (q : Gr) (j : Nat) (pre : List Value) (ep k1 s0 st : Nat) (n tk : Nat) : (RunC (parOf P b1 b2) (cGr (parOf P b1 b2) q (frG (parOf P b1 b2) k1 s0 st) j pre ep 0 j) 400 (H_grE (parOf P b1 b2) q j pre ep k1 s0 st n tk) n tk).Ok := by
  cases b1 <;> (show OT.l _ = OT.r _; kernel_rfl)
noncomputable def H_grS (P : Params) (b2 : Bool) (q : Gr) (kf n0 : Nat) (n tk : Nat) : HT := match b2 with
  | true => .go [] (.cut (cGr P { q with i0 := 0, i1 := 1, i2 := 2 } (dcO [] 0) 0 [] 0 kf n0) fun z0 => .go [] (.nil { res := .ok Flow.next, exp := [(1, (q.L', frG P (z0 2) (z0 3) (z0 4))), (3, (q.it, siO .none n0)), (5, (q.acc, liO ((lst z0 kf).map fun t => .int 1 t) (0 + kf)))] }))
  | false => .go [3,3,0,3,3] (.cut (cGr P { q with i0 := 0, i1 := 1, i2 := 2 } (dcO [] 0) 0 [] 0 kf n0) fun z0 => .go [] (.nil { res := .ok Flow.next, exp := [(1, (q.L', frG P (z0 2) (z0 3) (z0 4))), (3, (q.it, siO .none n0)), (5, (q.acc, liO ((lst z0 kf).map fun t => .int 1 t) (0 + kf)))] }))
theorem r_grS (P : Params) (b1 b2 : Bool) (q : Gr) (kf n0 : Nat) (n tk : Nat) : (RunC (parOf P b1 b2) (cGrS (parOf P b1 b2) q kf n0) 400 (H_grS (parOf P b1 b2) b2 q kf n0 n tk) n tk).Ok := by
  cases b1 <;> cases b2 <;> (show OT.l _ = OT.r _; kernel_rfl)
noncomputable def H_great (P : Params) (x : PySem.Str) (t kf n0 : Nat) (n tk : Nat) : HT := .go [1,0,0,0,1,1] (.cut (cStrIter x t) fun z0 => .go [3,1] (.cut (cGrS P { L := n, L' := (z0 0 + 1), it := (z0 2), acc := (z0 0), x := x, t := t, i0 := 3, i1 := 1, i2 := 2 } kf n0) fun z1 => .go [7,7,3,1] (.cut (cSumV 5 (z0 0) ((lst z1 kf).map fun t => .int 1 t) (0 + kf) kf) fun z2 => .go [] (.nil { res := .ok (.ret (Value.int (↑kf) (z2 2))), exp := [] }))))
theorem r_great (P : Params) (b1 b2 : Bool) (x : PySem.Str) (t kf n0 : Nat) (n tk : Nat) : (RunF (parOf P b1 b2) (cGreat x t kf) 160 fd160 [.str x t] 400 (H_great (parOf P b1 b2) x t kf n0 n tk) n tk).Ok := by
  cases b1 <;> (show OT.l _ = OT.r _; kernel_rfl)
theorem big_is : ∀ c ∈ [65, 66, 67, 68, 69, 70, 71, 72, 73, 74, 97, 98, 99, 100, 101, 102, 103, 104, 105, 106], (!(Builtin.Str.occurrences ⟨⟨[65, 66, 67, 68, 69, 70, 71, 72, 73, 74]⟩⟩ ⟨⟨[c]⟩⟩ 0 10 1).isEmpty) = decide (c < 97) := by decide +kernel
noncomputable def cntG : List Nat → Nat
  | [] => 0
  | c :: r => if c < 97 then cntG r + 1 else cntG r
theorem cntG_le : ∀ l, cntG l ≤ l.length
  | [] => Nat.le_refl _
  | c :: r => by
    have := cntG_le r
    unfold cntG; split <;> simp <;> lia
theorem small_of {a b : Nat} (h : a ≤ b) (hb : b ≤ 1000) : a ≤ sizeLine := by rw [sizeLine_eq]; lia
/-- the end of a turn that took a letter -/
theorem gr_out {P : Params} {q : Gr} {fr : Obj} {j : Nat} {pre : List Value} {ep k n t : Nat} {z : Nat → Nat} :
    OutF (cGr P q fr j pre ep (k + 1) n) { res := .ok .next, exp := [(1, (q.L', frG P (z 2) (z 3) (z 4))), (3, (q.it, siO .none n)), (5, (q.acc, liO ((pre ++ [.int 1 t]) ++ (lst z k).map fun t => .int 1 t) (ep + 1 + k)))] } := by
  refine outE (mk8 z (t :: lst z k)) fun sz tk => ⟨trivial, rfl, ?_, rfl, rfl⟩
  have e : lst (mk8 z (t :: lst z k)) (k + 1) = t :: lst z k := by
    have := lst_mk8 z (t :: lst z k)
    rwa [List.length_cons, lst_len] at this
  show [(q.L', frG P (mk8 z (t :: lst z k) 2) (mk8 z (t :: lst z k) 3) (mk8 z (t :: lst z k) 4)), (q.it, siO .none n), (q.acc, liO (pre ++ (lst (mk8 z (t :: lst z k)) (k + 1)).map fun t => .int 1 t) (ep + (k + 1)))] = _
  rw [e, mk8_lt _ _ (by decide), mk8_lt _ _ (by decide), mk8_lt _ _ (by decide)]
  rw [Nat.add_right_comm ep 1 k, Nat.add_assoc ep k 1, List.append_assoc]; rfl
theorem gr_ok (w : World) (b1 b2 : Bool) : ∀ (r : List Nat) (q : Gr) (j : Nat) (pre : List Value) (ep k1 s0 st : Nat), q.x.cps.toList.drop j = r → (∀ c ∈ r, Letter c) → j ≤ q.x.cps.toList.length → pre.length + r.length ≤ 1000 →
    VV w b1 b2 (cGr (parOf w.params b1 b2) q (frG (parOf w.params b1 b2) k1 s0 st) j pre ep (cntG r) q.x.cps.toList.length)
  | [], q, j, pre, ep, k1, s0, st, h, hl, hj, hp => by
    have : j = q.x.cps.toList.length := by
      have := List.drop_eq_nil_iff.mp h; lia
    subst this
    refine codeV (fun _ => rfl) 400 (fun n tk => H_grE _ q _ pre ep k1 s0 st n tk) (fun n tk => r_grE _ _ _ _ _ _ _ _ _ _ _ _) fun n tk => ⟨cSEnd_ok (by simp), fun z0 hz0 => ?_⟩
    exact outE (fun i => if i = 2 then k1 else if i = 3 then s0 else st) fun sz tk => ⟨trivial, rfl, by show [_, _, (q.acc, liO (pre ++ []) (ep + 0))] = _; rw [List.append_nil]; rfl, rfl, rfl⟩
  | c :: r, q, j, pre, ep, k1, s0, st, h, hl, hj, hp => by
    have hlt : j < q.x.cps.toList.length := by
      rcases Nat.lt_or_ge j q.x.cps.toList.length with q' | q'
      · exact q'
      · rw [List.drop_eq_nil_iff.mpr q'] at h; cases h
    have hd := List.drop_eq_getElem_cons hlt
    rw [h] at hd
    injection hd with e1 e2
    have hc : q.x.cps.toList[((j : Int)).toNat]? = some c := by rw [Int.toNat_natCast, e1, List.getElem?_eq_getElem hlt]
    have hm := big_is c (letter_mem (hl c (.head _)))
    rw [List.length_cons] at hp
    have hl' : ∀ c ∈ r, Letter c := fun c hc => hl c (.tail _ hc)
    by_cases h97 : c < 97
    · have ek : cntG (c :: r) = cntG r + 1 := if_pos h97
      rw [ek]
      have hv := hm.trans (decide_eq_true h97)
      refine codeV (fun _ => rfl) 400 (fun n tk => H_grT _ q j pre ep (cntG r) _ c k1 s0 st n tk) (fun n tk => r_grT _ _ _ _ _ _ _ _ _ _ _ _ _ _ _) fun n tk => ⟨cSNext_ok hc, fun z0 hz0 => ⟨cContains_ok hv, fun z1 hz1 => ⟨cApp_ok (small_of (Nat.le_refl _) (by lia)), fun z2 hz2 => ⟨?_, fun z3 hz3 => gr_out⟩⟩⟩⟩
      exact gr_ok w b1 b2 r { q with i0 := 0, i1 := 1, i2 := 2 } (j + 1) _ _ _ c _ e2.symm hl' hlt (by simp; lia)
    · have ek : cntG (c :: r) = cntG r := if_neg h97
      rw [ek]
      have hv := hm.trans (decide_eq_false h97)
      refine codeV (fun _ => rfl) 400 (fun n tk => H_grF _ q j pre ep (cntG r) _ c k1 s0 st n tk) (fun n tk => r_grF _ _ _ _ _ _ _ _ _ _ _ _ _ _ _) fun n tk => ⟨cSNext_ok hc, fun z0 hz0 => ⟨cContains_ok hv, fun z1 hz1 => ⟨?_, fun z3 hz3 => ?_⟩⟩⟩
      · exact gr_ok w b1 b2 r { q with i0 := 0, i1 := 1, i2 := 2 } (j + 1) _ _ _ c _ e2.symm hl' hlt (by lia)
      · exact outE z3 fun sz tk => ⟨trivial, rfl, rfl, rfl, rfl⟩
theorem gr0_ok (w : World) (b1 b2 : Bool) {c : Nat} {r : List Nat} {q : Gr} (h : q.x.cps.toList = c :: r) (hl : ∀ d ∈ c :: r, Letter d) (hp : (c :: r).length ≤ 1000) :
    VV w b1 b2 (cGr (parOf w.params b1 b2) q (dcO [] 0) 0 [] 0 (cntG (c :: r)) q.x.cps.toList.length) := by
  have hc : q.x.cps.toList[((0 : Nat) : Int).toNat]? = some c := by rw [h]; rfl
  have e2 : q.x.cps.toList.drop (0 + 1) = r := by rw [h]; rfl
  have hlt : 0 + 1 ≤ q.x.cps.toList.length := by rw [h]; simp
  have hm := big_is c (letter_mem (hl c (.head _)))
  rw [List.length_cons] at hp
  have hl' : ∀ c ∈ r, Letter c := fun c hc => hl c (.tail _ hc)
  by_cases h97 : c < 97
  · have ek : cntG (c :: r) = cntG r + 1 := if_pos h97
    rw [ek]
    have hv := hm.trans (decide_eq_true h97)
    refine codeV (fun _ => rfl) 400 (fun n tk => H_grT0 _ q 0 [] 0 (cntG r) _ c n tk) (fun n tk => r_grT0 _ _ _ _ _ _ _ _ _ _ _ _) fun n tk => ⟨cSNext_ok hc, fun z0 hz0 => ⟨cContains_ok hv, fun z1 hz1 => ⟨cApp_ok (Nat.zero_le _), fun z2 hz2 => ⟨?_, fun z3 hz3 => gr_out⟩⟩⟩⟩
    exact gr_ok w b1 b2 r { q with i0 := 0, i1 := 1, i2 := 2 } (0 + 1) _ _ _ c _ e2 hl' hlt (by simp; lia)
  · have ek : cntG (c :: r) = cntG r := if_neg h97
    rw [ek]
    have hv := hm.trans (decide_eq_false h97)
    refine codeV (fun _ => rfl) 400 (fun n tk => H_grF0 _ q 0 [] 0 (cntG r) _ c n tk) (fun n tk => r_grF0 _ _ _ _ _ _ _ _ _ _ _ _) fun n tk => ⟨cSNext_ok hc, fun z0 hz0 => ⟨cContains_ok hv, fun z1 hz1 => ⟨?_, fun z3 hz3 => ?_⟩⟩⟩
    · exact gr_ok w b1 b2 r { q with i0 := 0, i1 := 1, i2 := 2 } (0 + 1) _ _ _ c _ e2 hl' hlt (by simp; lia)
    · exact outE z3 fun sz tk => ⟨trivial, rfl, rfl, rfl, rfl⟩
theorem grS_ok (w : World) (b1 b2 : Bool) {c : Nat} {r : List Nat} {q : Gr} (h : q.x.cps.toList = c :: r) (hl : ∀ d ∈ c :: r, Letter d) (hp : (c :: r).length ≤ 1000) :
    VV w b1 b2 (cGrS (parOf w.params b1 b2) q (cntG (c :: r)) q.x.cps.toList.length) := by
  refine codeV (fun _ => rfl) 400 (fun n tk => H_grS _ b2 q _ _ n tk) (fun n tk => r_grS _ _ _ _ _ _ _ _) fun n tk => ?_
  cases b2 <;> exact ⟨gr0_ok w b1 _ h hl hp, fun z0 hz0 => outE z0 fun sz tk => ⟨trivial, rfl, rfl, rfl, rfl⟩⟩
theorem inl_ones (l : List Nat) : inl (l.map fun t => (1, t)) = l.map fun t => .int 1 t := by
  simp [inl]
theorem sum_ones : ∀ l : List Nat, ((l.map fun t => ((1 : Int), t)).map (·.1)).sum = l.length
  | [] => rfl
  | a :: l => by
    have := sum_ones l
    rw [List.map_cons, List.map_cons, List.sum_cons, this, List.length_cons]; lia
theorem fn160 (P : Params) : FnAt (kt P) 160 fd160 (dBody (stm 19)) := ⟨⟨fnO fd160, by kernel_rfl!, rfl⟩, by kernel_rfl!, by kernel_rfl!, by kernel_rfl!, ⟨159, o159, _, 412, by kernel_rfl!, by kernel_rfl!, rfl, by kernel_rfl!⟩, by kernel_rfl!⟩
/-- _law_great: the number of great letters -/
theorem great_ok (w : World) (b1 b2 : Bool) {c : Nat} {r : List Nat} {t : Nat} (hl : ∀ d ∈ c :: r, Letter d) (hp : (c :: r).length ≤ 1000) : VV w b1 b2 (cGreat ⟨⟨c :: r⟩⟩ t (cntG (c :: r))) := by
  refine fnV (fn160 _) rfl (Nat.le_refl _) (fun _ => rfl) 400 (fun n tk => H_great _ ⟨⟨c :: r⟩⟩ t (cntG (c :: r)) (c :: r).length n tk) (fun n tk => r_great _ _ _ _ _ _ _ _ _) fun n tk =>
    ⟨cStrIter_ok ?_, fun z0 hz0 => ⟨grS_ok w b1 b2 rfl hl hp, fun z1 hz1 => ⟨cSumV_ok ((lst z1 (cntG (c :: r))).map fun t => (1, t)) (inl_ones _) (by rw [sum_ones, lst_len]), fun z2 hz2 => ?_⟩⟩⟩
  · simp only [List.all_toArray, List.all_eq_true, decide_eq_true_eq]
    intro d hd
    have := hl d hd
    unfold Letter at this
    lia
  · exact outE z2 fun sz tk => ⟨trivial, rfl, rfl, rfl, rfl⟩
/-! _levenshtein_distance -/
noncomputable def bd115 : List Stmt := dBody (stm 11)
structure Lv where
  (L : Addr) (a b : List Nat) (t u : Nat) (mx : Int) (v k1 k2 k3 k4 k5 i0 : Nat)
noncomputable def Lv.env (q : Lv) : Env := envA fd115 115 q.L []
noncomputable def Lv.es (q : Lv) (P : Params) (p : Int) (tp : Nat) : List DictEntry :=
  [eN P [97] q.k1 (.str ⟨⟨q.a⟩⟩ q.t), eN P [98] q.k2 (.str ⟨⟨q.b⟩⟩ q.u), eN P [109, 97, 120, 95, 99, 111, 115, 116] q.k3 (.int q.mx q.v), eN P [112, 114, 101] q.k4 (.int p tp)]
noncomputable def frV1 (P : Params) (q : Lv) (p : Int) (tp : Nat) : Obj := frO (q.es P p tp) 4
noncomputable def frV2 (P : Params) (q : Lv) (p : Int) (tp : Nat) (o : Int) (to : Nat) : Obj := frO (addL (q.es P p tp) [eN P [112, 111, 115, 116] q.k5 (.int o to)]) 5
noncomputable def cW1 (P : Params) (q : Lv) (p : Int) (tp : Nat) (pf : Int) : Ctr :=
  { code := whC (atS bd115 2) q.env, mus := [(q.i0, (q.L, frV1 P q p tp))], upd := fun y => [frV1 P q pf (y 2)], res := fun _ => .ok .next }
noncomputable def cW2 (P : Params) (q : Lv) (p : Int) (tp : Nat) (o : Int) (to : Nat) (of : Int) : Ctr :=
  { code := whC (atS bd115 6) q.env, mus := [(q.i0, (q.L, frV2 P q p tp o to))], upd := fun y => [frV2 P q p tp of (y 2)], res := fun _ => .ok .next }
noncomputable def cLev (a b : PySem.Str) (t u : Nat) (mx : Int) (v : Nat) (r : Int) : Ctr := { code := .call (.ref 115) ⟨[.str a t, .str b u, .int mx v], []⟩, room := 4, res := fun y => .ok (.ret (.int r (y 2))) }
structure Lw where
  (L row it : Addr) (a b : List Nat) (t u : Nat) (mx : Int) (v : Nat) (p : Int) (tp : Nat) (o : Int) (to k1 k2 k3 k4 k5 k6 k7 k8 k9 k10 k11 k12 k13 k14 i0 i1 i2 : Nat)
noncomputable def Lw.env (q : Lw) : Env := envA fd115 115 q.L []
noncomputable def Lw.esB (q : Lw) (P : Params) (R : Int) (tR : Nat) : List DictEntry := [eN P [97] q.k1 (.str ⟨⟨q.a⟩⟩ q.t), eN P [98] q.k2 (.str ⟨⟨q.b⟩⟩ q.u), eN P [109, 97, 120, 95, 99, 111, 115, 116] q.k3 (.int q.mx q.v), eN P [112, 114, 101] q.k4 (.int q.p q.tp), eN P [112, 111, 115, 116] q.k5 (.int q.o q.to), eN P [114, 111, 119] q.k6 (.ref q.row), eN P [114, 101, 115, 117, 108, 116] q.k7 (.int R tR)]
noncomputable def Lw.esO (q : Lw) (P : Params) (bi : Int) (tb : Nat) (x tx : Nat) (D : Int) (tD : Nat) (M : Int) (tM : Nat) : List DictEntry := [eN P [98, 105, 110, 100, 101, 120] q.k8 (.int bi tb), eN P [98, 99, 104, 97, 114] q.k9 (.str ⟨⟨[x]⟩⟩ tx), eN P [100, 105, 115, 116, 97, 110, 99, 101] q.k10 (.int D tD), eN P [109, 105, 110, 105, 109, 117, 109] q.k11 (.int M tM)]
noncomputable def Lw.esI (q : Lw) (P : Params) (ix : Int) (ti : Nat) (S : Int) (tS : Nat) (I : Int) (tI : Nat) : List DictEntry := [eN P [105, 110, 100, 101, 120] q.k12 (.int ix ti), eN P [115, 117, 98, 115, 116, 105, 116, 117, 116, 101] q.k13 (.int S tS), eN P [105, 110, 115, 101, 114, 116, 95, 100, 101, 108, 101, 116, 101] q.k14 (.int I tI)]
structure Lr where
  (R : Int) (tR : Nat) (bi : Int) (tb x tx : Nat) (D : Int) (tD : Nat) (M : Int) (tM : Nat) (ix : Int) (ti : Nat) (S : Int) (tS : Nat) (I : Int) (tI : Nat)
noncomputable def frB (P : Params) (q : Lw) (r : Lr) : Obj := frO (q.esB P r.R r.tR) 7
noncomputable def frI0 (P : Params) (q : Lw) (r : Lr) : Obj := frO (addL (q.esB P r.R r.tR) (q.esO P r.bi r.tb r.x r.tx r.D r.tD r.M r.tM)) 11
noncomputable def frI (P : Params) (q : Lw) (r : Lr) : Obj := frO (addL (q.esB P r.R r.tR) (addL (q.esO P r.bi r.tb r.x r.tx r.D r.tD r.M r.tM) (q.esI P r.ix r.ti r.S r.tS r.I r.tI))) 14
/-! what is reckoned -/
noncomputable def lvR (x : Nat) : List Nat → List Int → Int → Int → List Int
  | c :: as, r :: rs, D, R => imin (imin R r + 2) (D + subc x c) :: lvR x as rs r (imin (imin R r + 2) (D + subc x c))
  | _, _, _, _ => []
noncomputable def lvM : List Int → Int → Int
  | [], M => M
  | r :: l, M => lvM l (if r < M then r else M)
noncomputable def lvL : List Int → Int → Int
  | [], R => R
  | r :: l, _ => lvL l r
noncomputable def big63 : Int := 9223372036854775807
noncomputable def lvO (as : List Nat) : List Nat → Int → List Int → Int → Int
  | [], _, _, R => R
  | x :: bs, i, row, _ => lvO as bs (i + 1) (lvR x as row (i * 2) (i * 2)) (lvL (lvR x as row (i * 2) (i * 2)) (i * 2))
noncomputable def lvF (as : List Nat) : List Nat → Int → List Int → List Int
  | [], _, row => row
  | x :: bs, i, row => lvF as bs (i + 1) (lvR x as row (i * 2) (i * 2))
noncomputable def lvK (mx : Int) (as : List Nat) : List Nat → Int → List Int → Prop
  | [], _, _ => True
  | x :: bs, i, row => lvM (lvR x as row (i * 2) (i * 2)) big63 ≤ mx ∧ lvK mx as bs (i + 1) (lvR x as row (i * 2) (i * 2))
noncomputable def sOut : Stmt := atS bd115 15
noncomputable def sInn : Stmt := atS (forB sOut) 3
/-- the don't-cares of a turn's end -/
noncomputable def endR (y : Nat → Nat) (r : Lr) (R M : Int) : Lr := { r with R := R, tR := y 2, D := iw (y 3), tD := y 4, M := M, tM := y 5, ix := iw (y 6), ti := y 7, S := iw (y 8), tS := y 9, I := iw (y 10), tI := y 11 }
noncomputable def cIn (P : Params) (q : Lw) (r : Lr) (j left jf lf : Int) (as : List Nat) (dn rs : List (Int × Nat)) (ep : Nat) : Ctr :=
  { code := forC sInn q.it q.env, room := 2, mus := [(q.i0, (q.L, frI P q r)), (q.i1, (q.it, raI j left 1)), (q.i2, (q.row, liO (inl (dn ++ rs)) ep))],
    upd := fun y => [frI P q (endR y r (lvL (lvR r.x as (rs.map (·.1)) r.D r.R) r.R) (lvM (lvR r.x as (rs.map (·.1)) r.D r.R) r.M)), raI jf lf 1, liO (inl (dn ++ (lvR r.x as (rs.map (·.1)) r.D r.R).zip (lsO 20 y rs.length))) ep], res := fun _ => .ok .next }
noncomputable def cIn0 (P : Params) (q : Lw) (r : Lr) (j left jf lf : Int) (as : List Nat) (dn rs : List (Int × Nat)) (ep : Nat) : Ctr :=
  { code := forC sInn q.it q.env, room := 2, mus := [(q.i0, (q.L, frI0 P q r)), (q.i1, (q.it, raI j left 1)), (q.i2, (q.row, liO (inl (dn ++ rs)) ep))],
    upd := fun y => [frI P { q with k12 := y 12, k13 := y 13, k14 := y 14 } (endR y r (lvL (lvR r.x as (rs.map (·.1)) r.D r.R) r.R) (lvM (lvR r.x as (rs.map (·.1)) r.D r.R) r.M)), raI jf lf 1, liO (inl (dn ++ (lvR r.x as (rs.map (·.1)) r.D r.R).zip (lsO 20 y rs.length))) ep], res := fun _ => .ok .next }
noncomputable def outR (y : Nat → Nat) (R : Int) : Lr := ⟨R, y 2, iw (y 19), y 20, y 21, y 22, iw (y 3), y 4, iw (y 23), y 5, iw (y 6), y 7, iw (y 8), y 9, iw (y 10), y 11⟩
noncomputable def outQ (y : Nat → Nat) (q : Lw) : Lw := { q with k8 := y 12, k9 := y 13, k10 := y 14, k11 := y 15, k12 := y 16, k13 := y 17, k14 := y 18 }
noncomputable def cOut (P : Params) (q : Lw) (fr : Obj) (R0 i left jf lf : Int) (bs : List Nat) (row : List (Int × Nat)) (ep : Nat) : Ctr :=
  { code := forC sOut q.it q.env, room := 3, mus := [(q.i0, (q.L, fr)), (q.i1, (q.it, raI i left 1)), (q.i2, (q.row, liO (inl row) ep))],
    upd := fun y => [frI P (outQ y q) (outR y (lvO q.a bs i (row.map (·.1)) R0)), raI jf lf 1, liO (inl ((lvF q.a bs i (row.map (·.1))).zip (lsO 30 y row.length))) ep], res := fun _ => .ok .next }
noncomputable def H_w1Tk2 (P : Params) (q : Lv) (p : Int) (pf : Int) (c d : Nat) (z4 z5 : Nat → Nat) : HT := .go [1] (.cut (cStrEq ({ cps := { toList := [c] } }) ({ cps := { toList := [d] } }) (z4 2) (z5 2) true) fun z6 => .go [1,0,1,0] (.cut (cW1 P { q with i0 := 0 } (p + 1) (z6 1 + 1) pf) fun z7 => .go [] (.nil { res := .ok Flow.next, exp := [(1, (q.L, frV1 P q pf (z7 2)))] })))
noncomputable def H_w1Tk1 (P : Params) (q : Lv) (p : Int) (tp : Nat) (pf : Int) (c d : Nat) (s : List Nat) (z2 : Nat → Nat) : HT := .go [1] (.cut (cLenSB ({ cps := { toList := d :: s } }) (z2 2) ((s.length : Int) + 1)) fun z3 => .go [1,1,1] (.cut (cStrAt ({ cps := { toList := q.a } }) q.t p tp c) fun z4 => .go [1,1,1] (.cut (cStrAt ({ cps := { toList := q.b } }) q.u p tp d) fun z5 => (H_w1Tk2 P q p pf c d z4 z5))))
noncomputable def H_w1T (P : Params) (q : Lv) (p : Int) (tp : Nat) (pf : Int) (c d : Nat) (r s : List Nat) (n tk : Nat) : HT := .go [1,1,1] (.cut (cStrSl 3 ({ cps := { toList := q.a } }) q.t n (.int p tp) .none ⟨⟨c :: r⟩⟩) fun z0 => .go [1] (.cut (cLenSB ({ cps := { toList := c :: r } }) (z0 2) ((r.length : Int) + 1)) fun z1 => .go [1,1,1] (.cut (cStrSl 5 ({ cps := { toList := q.b } }) q.u (z1 0) (.int p tp) .none ⟨⟨d :: s⟩⟩) fun z2 => (H_w1Tk1 P q p tp pf c d s z2))))
theorem r_w1T (P : Params) (b1 b2 : Bool) (q : Lv) (p : Int) (tp : Nat) (pf : Int) (c d : Nat) (r s : List Nat) (n tk : Nat) : (RunC (parOf P b1 b2) (cW1 (parOf P b1 b2) q p tp pf) 400 (H_w1T (parOf P b1 b2) q p tp pf c d r s n tk) n tk).Ok := by
  cases b1 <;> (show OT.l _ = OT.r _; kernel_rfl)
noncomputable def H_w1Fk1 (P : Params) (q : Lv) (p : Int) (tp : Nat) (c d : Nat) (s : List Nat) (z2 : Nat → Nat) : HT := .go [1] (.cut (cLenSB ({ cps := { toList := d :: s } }) (z2 2) ((s.length : Int) + 1)) fun z3 => .go [1,1,1] (.cut (cStrAt ({ cps := { toList := q.a } }) q.t p tp c) fun z4 => .go [1,1,1] (.cut (cStrAt ({ cps := { toList := q.b } }) q.u p tp d) fun z5 => .go [1] (.cut (cStrEq ({ cps := { toList := [c] } }) ({ cps := { toList := [d] } }) (z4 2) (z5 2) false) fun z6 => .go [] (.nil { res := .ok Flow.next, exp := [(1, (q.L, frV1 P q p tp))] })))))
noncomputable def H_w1F (P : Params) (q : Lv) (p : Int) (tp : Nat) (c d : Nat) (r s : List Nat) (n tk : Nat) : HT := .go [1,1,1] (.cut (cStrSl 3 ({ cps := { toList := q.a } }) q.t n (.int p tp) .none ⟨⟨c :: r⟩⟩) fun z0 => .go [1] (.cut (cLenSB ({ cps := { toList := c :: r } }) (z0 2) ((r.length : Int) + 1)) fun z1 => .go [1,1,1] (.cut (cStrSl 5 ({ cps := { toList := q.b } }) q.u (z1 0) (.int p tp) .none ⟨⟨d :: s⟩⟩) fun z2 => (H_w1Fk1 P q p tp c d s z2))))
theorem r_w1F (P : Params) (b1 b2 : Bool) (q : Lv) (p : Int) (tp : Nat) (c d : Nat) (r s : List Nat) (n tk : Nat) : (RunC (parOf P b1 b2) (cW1 (parOf P b1 b2) q p tp p) 400 (H_w1F (parOf P b1 b2) q p tp c d r s n tk) n tk).Ok := by
  cases b1 <;> (show OT.l _ = OT.r _; kernel_rfl)
noncomputable def H_w2Tk2 (P : Params) (q : Lv) (p : Int) (tp : Nat) (o : Int) (pf : Int) (e f : Nat) (z5 : Nat → Nat) : HT := .go [1,1,0,1] (.cut (cStrAt ({ cps := { toList := q.a } }) q.t (o - 1) (z5 1 + 1) e) fun z6 => .go [1,1,0,1] (.cut (cStrAt ({ cps := { toList := q.b } }) q.u (o - 1) (z6 1 + 1) f) fun z7 => .go [1] (.cut (cStrEq ({ cps := { toList := [e] } }) ({ cps := { toList := [f] } }) (z6 2) (z7 2) true) fun z8 => .go [1,0,1,0] (.cut (cW2 P { q with i0 := 0 } p tp (o - 1) (z8 1 + 1) pf) fun z9 => .go [] (.nil { res := .ok Flow.next, exp := [(1, (q.L, frV2 P q p tp pf (z9 2)))] })))))
noncomputable def H_w2Tk1 (P : Params) (q : Lv) (p : Int) (tp : Nat) (o : Int) (to : Nat) (pf : Int) (d e f : Nat) (s : List Nat) : HT := .go [1,1,1] (.cut (cBool o to true) fun z3 => .go [1] (.cut (cStrSl 5 ({ cps := { toList := q.b } }) q.u (z3 0) .none (.int o to) ⟨⟨d :: s⟩⟩) fun z4 => .go [1] (.cut (cLenSB ({ cps := { toList := d :: s } }) (z4 2) ((s.length : Int) + 1)) fun z5 => (H_w2Tk2 P q p tp o pf e f z5))))
noncomputable def H_w2T (P : Params) (q : Lv) (p : Int) (tp : Nat) (o : Int) (to : Nat) (pf : Int) (c d e f : Nat) (r s : List Nat) (n tk : Nat) : HT := .go [1,1,1] (.cut (cBool o to true) fun z0 => .go [1] (.cut (cStrSl 3 ({ cps := { toList := q.a } }) q.t (z0 0) .none (.int o to) ⟨⟨c :: r⟩⟩) fun z1 => .go [1] (.cut (cLenSB ({ cps := { toList := c :: r } }) (z1 2) ((r.length : Int) + 1)) fun z2 => (H_w2Tk1 P q p tp o to pf d e f s))))
theorem r_w2T (P : Params) (b1 b2 : Bool) (q : Lv) (p : Int) (tp : Nat) (o : Int) (to : Nat) (pf : Int) (c d e f : Nat) (r s : List Nat) (n tk : Nat) : (RunC (parOf P b1 b2) (cW2 (parOf P b1 b2) q p tp o to pf) 400 (H_w2T (parOf P b1 b2) q p tp o to pf c d e f r s n tk) n tk).Ok := by
  cases b1 <;> (show OT.l _ = OT.r _; kernel_rfl)
noncomputable def H_w2Fk2 (P : Params) (q : Lv) (p : Int) (tp : Nat) (o : Int) (to : Nat) (e f : Nat) (z5 : Nat → Nat) : HT := .go [1,1,0,1] (.cut (cStrAt ({ cps := { toList := q.a } }) q.t (o - 1) (z5 1 + 1) e) fun z6 => .go [1,1,0,1] (.cut (cStrAt ({ cps := { toList := q.b } }) q.u (o - 1) (z6 1 + 1) f) fun z7 => .go [1] (.cut (cStrEq ({ cps := { toList := [e] } }) ({ cps := { toList := [f] } }) (z6 2) (z7 2) false) fun z8 => .go [] (.nil { res := .ok Flow.next, exp := [(1, (q.L, frV2 P q p tp o to))] }))))
noncomputable def H_w2Fk1 (P : Params) (q : Lv) (p : Int) (tp : Nat) (o : Int) (to : Nat) (d e f : Nat) (s : List Nat) : HT := .go [1,1,1] (.cut (cBool o to true) fun z3 => .go [1] (.cut (cStrSl 5 ({ cps := { toList := q.b } }) q.u (z3 0) .none (.int o to) ⟨⟨d :: s⟩⟩) fun z4 => .go [1] (.cut (cLenSB ({ cps := { toList := d :: s } }) (z4 2) ((s.length : Int) + 1)) fun z5 => (H_w2Fk2 P q p tp o to e f z5))))
noncomputable def H_w2F (P : Params) (q : Lv) (p : Int) (tp : Nat) (o : Int) (to : Nat) (pf : Int) (c d e f : Nat) (r s : List Nat) (n tk : Nat) : HT := .go [1,1,1] (.cut (cBool o to true) fun z0 => .go [1] (.cut (cStrSl 3 ({ cps := { toList := q.a } }) q.t (z0 0) .none (.int o to) ⟨⟨c :: r⟩⟩) fun z1 => .go [1] (.cut (cLenSB ({ cps := { toList := c :: r } }) (z1 2) ((r.length : Int) + 1)) fun z2 => (H_w2Fk1 P q p tp o to d e f s))))
theorem r_w2F (P : Params) (b1 b2 : Bool) (q : Lv) (p : Int) (tp : Nat) (o : Int) (to : Nat) (pf : Int) (c d e f : Nat) (r s : List Nat) (n tk : Nat) : (RunC (parOf P b1 b2) (cW2 (parOf P b1 b2) q p tp o to o) 400 (H_w2F (parOf P b1 b2) q p tp o to pf c d e f r s n tk) n tk).Ok := by
  cases b1 <;> (show OT.l _ = OT.r _; kernel_rfl)
noncomputable def H_w2T0k2 (P : Params) (q : Lv) (p : Int) (tp : Nat) (o : Int) (pf : Int) (e f : Nat) (z5 : Nat → Nat) : HT := .go [1,1,0,1] (.cut (cStrAt ({ cps := { toList := q.a } }) q.t (o - 1) (z5 1 + 1) e) fun z6 => .go [1,1,0,1] (.cut (cStrAt ({ cps := { toList := q.b } }) q.u (o - 1) (z6 1 + 1) f) fun z7 => .go [1] (.cut (cStrEq ({ cps := { toList := [e] } }) ({ cps := { toList := [f] } }) (z6 2) (z7 2) true) fun z8 => .go [1,0,1,0] (.cut (cW2 P { q with i0 := 0 } p tp (o - 1) (z8 1 + 1) pf) fun z9 => .go [] (.nil { res := .ok Flow.next, exp := [(1, (q.L, frV2 P q p tp pf (z9 2)))] })))))
noncomputable def H_w2T0k1 (P : Params) (q : Lv) (p : Int) (tp : Nat) (o : Int) (to : Nat) (pf : Int) (d e f : Nat) (s : List Nat) : HT := .go [1,1,1] (.cut (cBool o to false) fun z3 => .go [1] (.cut (cStrSl 5 ({ cps := { toList := q.b } }) q.u (z3 0) .none .none ⟨⟨d :: s⟩⟩) fun z4 => .go [1] (.cut (cLenSB ({ cps := { toList := d :: s } }) (z4 2) ((s.length : Int) + 1)) fun z5 => (H_w2T0k2 P q p tp o pf e f z5))))
noncomputable def H_w2T0 (P : Params) (q : Lv) (p : Int) (tp : Nat) (o : Int) (to : Nat) (pf : Int) (c d e f : Nat) (r s : List Nat) (n tk : Nat) : HT := .go [1,1,1] (.cut (cBool o to false) fun z0 => .go [1] (.cut (cStrSl 3 ({ cps := { toList := q.a } }) q.t (z0 0) .none .none ⟨⟨c :: r⟩⟩) fun z1 => .go [1] (.cut (cLenSB ({ cps := { toList := c :: r } }) (z1 2) ((r.length : Int) + 1)) fun z2 => (H_w2T0k1 P q p tp o to pf d e f s))))
theorem r_w2T0 (P : Params) (b1 b2 : Bool) (q : Lv) (p : Int) (tp : Nat) (o : Int) (to : Nat) (pf : Int) (c d e f : Nat) (r s : List Nat) (n tk : Nat) : (RunC (parOf P b1 b2) (cW2 (parOf P b1 b2) q p tp o to pf) 400 (H_w2T0 (parOf P b1 b2) q p tp o to pf c d e f r s n tk) n tk).Ok := by
  cases b1 <;> (show OT.l _ = OT.r _; kernel_rfl)
noncomputable def H_w2F0k2 (P : Params) (q : Lv) (p : Int) (tp : Nat) (o : Int) (to : Nat) (e f : Nat) (z5 : Nat → Nat) : HT := .go [1,1,0,1] (.cut (cStrAt ({ cps := { toList := q.a } }) q.t (o - 1) (z5 1 + 1) e) fun z6 => .go [1,1,0,1] (.cut (cStrAt ({ cps := { toList := q.b } }) q.u (o - 1) (z6 1 + 1) f) fun z7 => .go [1] (.cut (cStrEq ({ cps := { toList := [e] } }) ({ cps := { toList := [f] } }) (z6 2) (z7 2) false) fun z8 => .go [] (.nil { res := .ok Flow.next, exp := [(1, (q.L, frV2 P q p tp o to))] }))))
noncomputable def H_w2F0k1 (P : Params) (q : Lv) (p : Int) (tp : Nat) (o : Int) (to : Nat) (d e f : Nat) (s : List Nat) : HT := .go [1,1,1] (.cut (cBool o to false) fun z3 => .go [1] (.cut (cStrSl 5 ({ cps := { toList := q.b } }) q.u (z3 0) .none .none ⟨⟨d :: s⟩⟩) fun z4 => .go [1] (.cut (cLenSB ({ cps := { toList := d :: s } }) (z4 2) ((s.length : Int) + 1)) fun z5 => (H_w2F0k2 P q p tp o to e f z5))))
noncomputable def H_w2F0 (P : Params) (q : Lv) (p : Int) (tp : Nat) (o : Int) (to : Nat) (pf : Int) (c d e f : Nat) (r s : List Nat) (n tk : Nat) : HT := .go [1,1,1] (.cut (cBool o to false) fun z0 => .go [1] (.cut (cStrSl 3 ({ cps := { toList := q.a } }) q.t (z0 0) .none .none ⟨⟨c :: r⟩⟩) fun z1 => .go [1] (.cut (cLenSB ({ cps := { toList := c :: r } }) (z1 2) ((r.length : Int) + 1)) fun z2 => (H_w2F0k1 P q p tp o to d e f s))))
theorem r_w2F0 (P : Params) (b1 b2 : Bool) (q : Lv) (p : Int) (tp : Nat) (o : Int) (to : Nat) (pf : Int) (c d e f : Nat) (r s : List Nat) (n tk : Nat) : (RunC (parOf P b1 b2) (cW2 (parOf P b1 b2) q p tp o to o) 400 (H_w2F0 (parOf P b1 b2) q p tp o to pf c d e f r s n tk) n tk).Ok := by
  cases b1 <;> (show OT.l _ = OT.r _; kernel_rfl)
noncomputable def H_inTk2 (P : Params) (q : Lw) (r : Lr) (j left jf lf : Int) (c : Nat) (as : List Nat) (dn : List (Int × Nat)) (rr : Int) (rt : Nat) (rs : List (Int × Nat)) (ep : Nat) (z0 z2 z4 z5 : Nat → Nat) : HT := .go [1,0,1,1,1,5,5,1] (.cut (cSetV 2 q.row (inl (dn ++ (rr, rt) :: rs)) ep j (z0 2) (Value.int (imin (imin r.R rr + 2) (r.D + subc r.x c)) (z5 2)) (inl ((dn ++ [((imin (imin r.R rr + 2) (r.D + subc r.x c)), (z5 2))]) ++ rs))) fun z6 => .go [1,1,1] (.cut (cLt (imin (imin r.R rr + 2) (r.D + subc r.x c)) r.M (z5 2) r.tM true) fun z7 => .go [1,1,0] (.cut (cIn P { q with i0 := 0, i1 := 1, i2 := 2 } { r with R := (imin (imin r.R rr + 2) (r.D + subc r.x c)), tR := (z5 2), D := rr, tD := rt, M := (imin (imin r.R rr + 2) (r.D + subc r.x c)), tM := (z5 2), ix := j, ti := (z0 2), S := (r.D + subc r.x c), tS := (z2 1), I := (imin r.R rr + 2), tI := (z4 1) } (j + 1) (left - 1) jf lf as (dn ++ [((imin (imin r.R rr + 2) (r.D + subc r.x c)), (z5 2))]) rs ep) fun z8 => .go [] (.nil { res := .ok Flow.next, exp := expOf (cIn P { q with i0 := 0, i1 := 1, i2 := 2 } { r with R := (imin (imin r.R rr + 2) (r.D + subc r.x c)), tR := (z5 2), D := rr, tD := rt, M := (imin (imin r.R rr + 2) (r.D + subc r.x c)), tM := (z5 2), ix := j, ti := (z0 2), S := (r.D + subc r.x c), tS := (z2 1), I := (imin r.R rr + 2), tI := (z4 1) } (j + 1) (left - 1) jf lf as (dn ++ [((imin (imin r.R rr + 2) (r.D + subc r.x c)), (z5 2))]) rs ep) z8 }))))
noncomputable def H_inTk1 (P : Params) (q : Lw) (r : Lr) (j left jf lf : Int) (c : Nat) (as : List Nat) (dn : List (Int × Nat)) (rr : Int) (rt : Nat) (rs : List (Int × Nat)) (ep : Nat) (z0 z2 : Nat → Nat) : HT := .go [0,1,0,1,1,5,5,5,1] (.cut (cGet 5 q.row (inl (dn ++ (rr, rt) :: rs)) ep j (z0 2) (.int rr rt)) fun z3 => .go [1,0,0,0,1,1,1] (.cut (cMin r.R rr r.tR rt) fun z4 => .go [0,0,1,0,0,0,1,1,1] (.cut (cMin (imin r.R rr + 2) (r.D + subc r.x c) (z4 1) (z2 1)) fun z5 => (H_inTk2 P q r j left jf lf c as dn rr rt rs ep z0 z2 z4 z5))))
noncomputable def H_inT (P : Params) (q : Lw) (r : Lr) (j left jf lf : Int) (c : Nat) (as : List Nat) (dn : List (Int × Nat)) (rr : Int) (rt : Nat) (rs : List (Int × Nat)) (ep : Nat) (n tk : Nat) : HT := .go [3,1] (.cut (cRNext 1 q.it j left 1) fun z0 => .go [1,0,1,0,1,1,1,1] (.cut (cStrAt ({ cps := { toList := q.a } }) q.t j (z0 2) c) fun z1 => .go [0,1] (.cut (cSub r.x c r.tx (z1 2) (subc r.x c)) fun z2 => (H_inTk1 P q r j left jf lf c as dn rr rt rs ep z0 z2))))
theorem r_inT (P : Params) (b1 b2 : Bool) (q : Lw) (r : Lr) (j left jf lf : Int) (c : Nat) (as : List Nat) (dn : List (Int × Nat)) (rr : Int) (rt : Nat) (rs : List (Int × Nat)) (ep : Nat) (n tk : Nat) : (RunC (parOf P b1 b2) (cIn (parOf P b1 b2) q r j left jf lf (c :: as) dn ((rr, rt) :: rs) ep) 400 (H_inT (parOf P b1 b2) q r j left jf lf c as dn rr rt rs ep n tk) n tk).Ok := by
  cases b1 <;> (show OT.l _ = OT.r _; kernel_rfl)
noncomputable def H_inFk2 (P : Params) (q : Lw) (r : Lr) (j left jf lf : Int) (c : Nat) (as : List Nat) (dn : List (Int × Nat)) (rr : Int) (rt : Nat) (rs : List (Int × Nat)) (ep : Nat) (z0 z2 z4 z5 : Nat → Nat) : HT := .go [1,0,1,1,1,5,5,1] (.cut (cSetV 2 q.row (inl (dn ++ (rr, rt) :: rs)) ep j (z0 2) (Value.int (imin (imin r.R rr + 2) (r.D + subc r.x c)) (z5 2)) (inl ((dn ++ [((imin (imin r.R rr + 2) (r.D + subc r.x c)), (z5 2))]) ++ rs))) fun z6 => .go [1,1,1] (.cut (cLt (imin (imin r.R rr + 2) (r.D + subc r.x c)) r.M (z5 2) r.tM false) fun z7 => .go [] (.cut (cIn P { q with i0 := 0, i1 := 1, i2 := 2 } { r with R := (imin (imin r.R rr + 2) (r.D + subc r.x c)), tR := (z5 2), D := rr, tD := rt, M := r.M, tM := r.tM, ix := j, ti := (z0 2), S := (r.D + subc r.x c), tS := (z2 1), I := (imin r.R rr + 2), tI := (z4 1) } (j + 1) (left - 1) jf lf as (dn ++ [((imin (imin r.R rr + 2) (r.D + subc r.x c)), (z5 2))]) rs ep) fun z8 => .go [] (.nil { res := .ok Flow.next, exp := expOf (cIn P { q with i0 := 0, i1 := 1, i2 := 2 } { r with R := (imin (imin r.R rr + 2) (r.D + subc r.x c)), tR := (z5 2), D := rr, tD := rt, M := r.M, tM := r.tM, ix := j, ti := (z0 2), S := (r.D + subc r.x c), tS := (z2 1), I := (imin r.R rr + 2), tI := (z4 1) } (j + 1) (left - 1) jf lf as (dn ++ [((imin (imin r.R rr + 2) (r.D + subc r.x c)), (z5 2))]) rs ep) z8 }))))
noncomputable def H_inFk1 (P : Params) (q : Lw) (r : Lr) (j left jf lf : Int) (c : Nat) (as : List Nat) (dn : List (Int × Nat)) (rr : Int) (rt : Nat) (rs : List (Int × Nat)) (ep : Nat) (z0 z2 : Nat → Nat) : HT := .go [0,1,0,1,1,5,5,5,1] (.cut (cGet 5 q.row (inl (dn ++ (rr, rt) :: rs)) ep j (z0 2) (.int rr rt)) fun z3 => .go [1,0,0,0,1,1,1] (.cut (cMin r.R rr r.tR rt) fun z4 => .go [0,0,1,0,0,0,1,1,1] (.cut (cMin (imin r.R rr + 2) (r.D + subc r.x c) (z4 1) (z2 1)) fun z5 => (H_inFk2 P q r j left jf lf c as dn rr rt rs ep z0 z2 z4 z5))))
noncomputable def H_inF (P : Params) (q : Lw) (r : Lr) (j left jf lf : Int) (c : Nat) (as : List Nat) (dn : List (Int × Nat)) (rr : Int) (rt : Nat) (rs : List (Int × Nat)) (ep : Nat) (n tk : Nat) : HT := .go [3,1] (.cut (cRNext 1 q.it j left 1) fun z0 => .go [1,0,1,0,1,1,1,1] (.cut (cStrAt ({ cps := { toList := q.a } }) q.t j (z0 2) c) fun z1 => .go [0,1] (.cut (cSub r.x c r.tx (z1 2) (subc r.x c)) fun z2 => (H_inFk1 P q r j left jf lf c as dn rr rt rs ep z0 z2))))
theorem r_inF (P : Params) (b1 b2 : Bool) (q : Lw) (r : Lr) (j left jf lf : Int) (c : Nat) (as : List Nat) (dn : List (Int × Nat)) (rr : Int) (rt : Nat) (rs : List (Int × Nat)) (ep : Nat) (n tk : Nat) : (RunC (parOf P b1 b2) (cIn (parOf P b1 b2) q r j left jf lf (c :: as) dn ((rr, rt) :: rs) ep) 400 (H_inF (parOf P b1 b2) q r j left jf lf c as dn rr rt rs ep n tk) n tk).Ok := by
  cases b1 <;> (show OT.l _ = OT.r _; kernel_rfl)
noncomputable def H_inT0k2 (P : Params) (q : Lw) (r : Lr) (j left jf lf : Int) (c : Nat) (as : List Nat) (dn : List (Int × Nat)) (rr : Int) (rt : Nat) (rs : List (Int × Nat)) (ep : Nat) (z0 z2 z4 z5 : Nat → Nat) : HT := .go [1,0,1,1,1,5,5,1] (.cut (cSetV 2 q.row (inl (dn ++ (rr, rt) :: rs)) ep j (z0 2) (Value.int (imin (imin r.R rr + 2) (r.D + subc r.x c)) (z5 2)) (inl ((dn ++ [((imin (imin r.R rr + 2) (r.D + subc r.x c)), (z5 2))]) ++ rs))) fun z6 => .go [1,1,1] (.cut (cLt (imin (imin r.R rr + 2) (r.D + subc r.x c)) r.M (z5 2) r.tM true) fun z7 => .go [1,1,0] (.cut (cIn P { q with i0 := 0, i1 := 1, i2 := 2 , k12 := (z0 1), k13 := (z2 1 + 1), k14 := (z4 1 + 1) } { r with R := (imin (imin r.R rr + 2) (r.D + subc r.x c)), tR := (z5 2), D := rr, tD := rt, M := (imin (imin r.R rr + 2) (r.D + subc r.x c)), tM := (z5 2), ix := j, ti := (z0 2), S := (r.D + subc r.x c), tS := (z2 1), I := (imin r.R rr + 2), tI := (z4 1) } (j + 1) (left - 1) jf lf as (dn ++ [((imin (imin r.R rr + 2) (r.D + subc r.x c)), (z5 2))]) rs ep) fun z8 => .go [] (.nil { res := .ok Flow.next, exp := expOf (cIn P { q with i0 := 0, i1 := 1, i2 := 2 , k12 := (z0 1), k13 := (z2 1 + 1), k14 := (z4 1 + 1) } { r with R := (imin (imin r.R rr + 2) (r.D + subc r.x c)), tR := (z5 2), D := rr, tD := rt, M := (imin (imin r.R rr + 2) (r.D + subc r.x c)), tM := (z5 2), ix := j, ti := (z0 2), S := (r.D + subc r.x c), tS := (z2 1), I := (imin r.R rr + 2), tI := (z4 1) } (j + 1) (left - 1) jf lf as (dn ++ [((imin (imin r.R rr + 2) (r.D + subc r.x c)), (z5 2))]) rs ep) z8 }))))
noncomputable def H_inT0k1 (P : Params) (q : Lw) (r : Lr) (j left jf lf : Int) (c : Nat) (as : List Nat) (dn : List (Int × Nat)) (rr : Int) (rt : Nat) (rs : List (Int × Nat)) (ep : Nat) (z0 z2 : Nat → Nat) : HT := .go [0,1,0,1,1,5,5,5,1] (.cut (cGet 5 q.row (inl (dn ++ (rr, rt) :: rs)) ep j (z0 2) (.int rr rt)) fun z3 => .go [1,0,0,0,1,1,1] (.cut (cMin r.R rr r.tR rt) fun z4 => .go [0,0,1,0,0,0,1,1,1] (.cut (cMin (imin r.R rr + 2) (r.D + subc r.x c) (z4 1) (z2 1)) fun z5 => (H_inT0k2 P q r j left jf lf c as dn rr rt rs ep z0 z2 z4 z5))))
noncomputable def H_inT0 (P : Params) (q : Lw) (r : Lr) (j left jf lf : Int) (c : Nat) (as : List Nat) (dn : List (Int × Nat)) (rr : Int) (rt : Nat) (rs : List (Int × Nat)) (ep : Nat) (n tk : Nat) : HT := .go [3,1] (.cut (cRNext 1 q.it j left 1) fun z0 => .go [1,0,1,0,1,1,1,1] (.cut (cStrAt ({ cps := { toList := q.a } }) q.t j (z0 2) c) fun z1 => .go [0,1] (.cut (cSub r.x c r.tx (z1 2) (subc r.x c)) fun z2 => (H_inT0k1 P q r j left jf lf c as dn rr rt rs ep z0 z2))))
theorem r_inT0 (P : Params) (b1 b2 : Bool) (q : Lw) (r : Lr) (j left jf lf : Int) (c : Nat) (as : List Nat) (dn : List (Int × Nat)) (rr : Int) (rt : Nat) (rs : List (Int × Nat)) (ep : Nat) (n tk : Nat) : (RunC (parOf P b1 b2) (cIn0 (parOf P b1 b2) q r j left jf lf (c :: as) dn ((rr, rt) :: rs) ep) 400 (H_inT0 (parOf P b1 b2) q r j left jf lf c as dn rr rt rs ep n tk) n tk).Ok := by
  cases b1 <;> (show OT.l _ = OT.r _; kernel_rfl)
noncomputable def H_inF0k2 (P : Params) (q : Lw) (r : Lr) (j left jf lf : Int) (c : Nat) (as : List Nat) (dn : List (Int × Nat)) (rr : Int) (rt : Nat) (rs : List (Int × Nat)) (ep : Nat) (z0 z2 z4 z5 : Nat → Nat) : HT := .go [1,0,1,1,1,5,5,1] (.cut (cSetV 2 q.row (inl (dn ++ (rr, rt) :: rs)) ep j (z0 2) (Value.int (imin (imin r.R rr + 2) (r.D + subc r.x c)) (z5 2)) (inl ((dn ++ [((imin (imin r.R rr + 2) (r.D + subc r.x c)), (z5 2))]) ++ rs))) fun z6 => .go [1,1,1] (.cut (cLt (imin (imin r.R rr + 2) (r.D + subc r.x c)) r.M (z5 2) r.tM false) fun z7 => .go [] (.cut (cIn P { q with i0 := 0, i1 := 1, i2 := 2 , k12 := (z0 1), k13 := (z2 1 + 1), k14 := (z4 1 + 1) } { r with R := (imin (imin r.R rr + 2) (r.D + subc r.x c)), tR := (z5 2), D := rr, tD := rt, M := r.M, tM := r.tM, ix := j, ti := (z0 2), S := (r.D + subc r.x c), tS := (z2 1), I := (imin r.R rr + 2), tI := (z4 1) } (j + 1) (left - 1) jf lf as (dn ++ [((imin (imin r.R rr + 2) (r.D + subc r.x c)), (z5 2))]) rs ep) fun z8 => .go [] (.nil { res := .ok Flow.next, exp := expOf (cIn P { q with i0 := 0, i1 := 1, i2 := 2 , k12 := (z0 1), k13 := (z2 1 + 1), k14 := (z4 1 + 1) } { r with R := (imin (imin r.R rr + 2) (r.D + subc r.x c)), tR := (z5 2), D := rr, tD := rt, M := r.M, tM := r.tM, ix := j, ti := (z0 2), S := (r.D + subc r.x c), tS := (z2 1), I := (imin r.R rr + 2), tI := (z4 1) } (j + 1) (left - 1) jf lf as (dn ++ [((imin (imin r.R rr + 2) (r.D + subc r.x c)), (z5 2))]) rs ep) z8 }))))
noncomputable def H_inF0k1 (P : Params) (q : Lw) (r : Lr) (j left jf lf : Int) (c : Nat) (as : List Nat) (dn : List (Int × Nat)) (rr : Int) (rt : Nat) (rs : List (Int × Nat)) (ep : Nat) (z0 z2 : Nat → Nat) : HT := .go [0,1,0,1,1,5,5,5,1] (.cut (cGet 5 q.row (inl (dn ++ (rr, rt) :: rs)) ep j (z0 2) (.int rr rt)) fun z3 => .go [1,0,0,0,1,1,1] (.cut (cMin r.R rr r.tR rt) fun z4 => .go [0,0,1,0,0,0,1,1,1] (.cut (cMin (imin r.R rr + 2) (r.D + subc r.x c) (z4 1) (z2 1)) fun z5 => (H_inF0k2 P q r j left jf lf c as dn rr rt rs ep z0 z2 z4 z5))))
noncomputable def H_inF0 (P : Params) (q : Lw) (r : Lr) (j left jf lf : Int) (c : Nat) (as : List Nat) (dn : List (Int × Nat)) (rr : Int) (rt : Nat) (rs : List (Int × Nat)) (ep : Nat) (n tk : Nat) : HT := .go [3,1] (.cut (cRNext 1 q.it j left 1) fun z0 => .go [1,0,1,0,1,1,1,1] (.cut (cStrAt ({ cps := { toList := q.a } }) q.t j (z0 2) c) fun z1 => .go [0,1] (.cut (cSub r.x c r.tx (z1 2) (subc r.x c)) fun z2 => (H_inF0k1 P q r j left jf lf c as dn rr rt rs ep z0 z2))))
theorem r_inF0 (P : Params) (b1 b2 : Bool) (q : Lw) (r : Lr) (j left jf lf : Int) (c : Nat) (as : List Nat) (dn : List (Int × Nat)) (rr : Int) (rt : Nat) (rs : List (Int × Nat)) (ep : Nat) (n tk : Nat) : (RunC (parOf P b1 b2) (cIn0 (parOf P b1 b2) q r j left jf lf (c :: as) dn ((rr, rt) :: rs) ep) 400 (H_inF0 (parOf P b1 b2) q r j left jf lf c as dn rr rt rs ep n tk) n tk).Ok := by
  cases b1 <;> (show OT.l _ = OT.r _; kernel_rfl)
noncomputable def H_inE (P : Params) (q : Lw) (r : Lr) (j left : Int) (dn : List (Int × Nat)) (ep : Nat) (n tk : Nat) : HT := .go [3,1] (.cut (cREnd 1 q.it j left 1) fun z0 => .go [4] (.nil { res := .ok Flow.next, exp := [(1, (q.L, frI P q r)), (3, (q.it, raI j left 1)), (5, (q.row, liO (inl (dn ++ [])) ep))] }))
theorem r_inE (P : Params) (b1 b2 : Bool) (q : Lw) (r : Lr) (j left : Int) (dn : List (Int × Nat)) (ep : Nat) (n tk : Nat) : (RunC (parOf P b1 b2) (cIn (parOf P b1 b2) q r j left j left [] dn [] ep) 400 (H_inE (parOf P b1 b2) q r j left dn ep n tk) n tk).Ok := by
  cases b1 <;> (show OT.l _ = OT.r _; kernel_rfl)
noncomputable def H_outTk2 (P : Params) (q : Lw) (r : Lr) (i left jf lf : Int) (x : Nat) (bs : List Nat) (row : List (Int × Nat)) (ep : Nat) (z0 z1 z5 : Nat → Nat) : HT := .go [1,1,1] (.cut (cGt (lvM (lvR x q.a (row.map (·.1)) (i * 2) (i * 2)) big63) q.mx (z5 5) q.v false) fun z6 => .go [] (.cut (cOut P { q with i0 := 0, i1 := 1, i2 := 2, k8 := q.k8, k9 := q.k9, k10 := q.k10, k11 := q.k11, k12 := q.k12, k13 := q.k13, k14 := q.k14 } (frI P { q with i0 := 0, i1 := 1, i2 := 2, k8 := q.k8, k9 := q.k9, k10 := q.k10, k11 := q.k11, k12 := q.k12, k13 := q.k13, k14 := q.k14 } (endR z5 { r with bi := i, tb := (z0 2), x := x, tx := (z1 2) } (lvL (lvR x q.a (row.map (·.1)) (i * 2) (i * 2)) (i * 2)) (lvM (lvR x q.a (row.map (·.1)) (i * 2) (i * 2)) big63))) (lvL (lvR x q.a (row.map (·.1)) (i * 2) (i * 2)) (i * 2)) (i + 1) (left - 1) jf lf bs ((lvR x q.a (row.map (·.1)) (i * 2) (i * 2)).zip (lsO 20 z5 row.length)) ep) fun z7 => .go [] (.nil { res := .ok Flow.next, exp := expOf (cOut P { q with i0 := 0, i1 := 1, i2 := 2, k8 := q.k8, k9 := q.k9, k10 := q.k10, k11 := q.k11, k12 := q.k12, k13 := q.k13, k14 := q.k14 } (frI P { q with i0 := 0, i1 := 1, i2 := 2, k8 := q.k8, k9 := q.k9, k10 := q.k10, k11 := q.k11, k12 := q.k12, k13 := q.k13, k14 := q.k14 } (endR z5 { r with bi := i, tb := (z0 2), x := x, tx := (z1 2) } (lvL (lvR x q.a (row.map (·.1)) (i * 2) (i * 2)) (i * 2)) (lvM (lvR x q.a (row.map (·.1)) (i * 2) (i * 2)) big63))) (lvL (lvR x q.a (row.map (·.1)) (i * 2) (i * 2)) (i * 2)) (i + 1) (left - 1) jf lf bs ((lvR x q.a (row.map (·.1)) (i * 2) (i * 2)).zip (lsO 20 z5 row.length)) ep) z7 })))
noncomputable def H_outTk1 (P : Params) (q : Lw) (r : Lr) (i left jf lf : Int) (x : Nat) (bs : List Nat) (row : List (Int × Nat)) (ep : Nat) (z0 z1 z2 : Nat → Nat) : HT := .go [1,0,1,0,1,0,0,0,0,0,1,1] (.cut (cLenS ({ cps := { toList := q.a } }) q.t ((q.a.length : Nat) : Int)) fun z3 => .go [0,0,7,7,0,7,7,7,7,1] (.cut (cRIter 7 (z3 0) 0 ((q.a.length : Nat) : Int) 1 (z3 1) (z3 2) (z3 1 + 1) ((q.a.length : Nat) : Int)) fun z4 => .go [9,1] (.cut (cIn P { q with it := (z4 2), i0 := 0, i1 := 4, i2 := 2, k8 := q.k8, k9 := q.k9, k10 := q.k10, k11 := q.k11 } { R := (i * 2), tR := (z2 2), bi := i, tb := (z0 2), x := x, tx := (z1 2), D := (i * 2), tD := (z2 2), M := big63, tM := (z2 1 + 2), ix := r.ix, ti := r.ti, S := r.S, tS := r.tS, I := r.I, tI := r.tI } 0 ((q.a.length : Nat) : Int) ((q.a.length : Nat) : Int) 0 q.a [] row ep) fun z5 => (H_outTk2 P q r i left jf lf x bs row ep z0 z1 z5))))
noncomputable def H_outT (P : Params) (q : Lw) (r : Lr) (i left jf lf : Int) (x : Nat) (bs : List Nat) (row : List (Int × Nat)) (ep : Nat) (n tk : Nat) : HT := .go [3,1] (.cut (cRNext 1 q.it i left 1) fun z0 => .go [1,0,1,1,1] (.cut (cStrAt ({ cps := { toList := q.b } }) q.u i (z0 2) x) fun z1 => .go [1,0,1,0,1] (.cut (cMul i 2 (z0 2) 318 (i * 2)) fun z2 => (H_outTk1 P q r i left jf lf x bs row ep z0 z1 z2))))
theorem r_outT (P : Params) (b1 b2 : Bool) (q : Lw) (r : Lr) (i left jf lf : Int) (x : Nat) (bs : List Nat) (row : List (Int × Nat)) (ep : Nat) (n tk : Nat) : (RunC (parOf P b1 b2) (cOut (parOf P b1 b2) q (frI (parOf P b1 b2) q r) r.R i left jf lf (x :: bs) row ep) 400 (H_outT (parOf P b1 b2) q r i left jf lf x bs row ep n tk) n tk).Ok := by
  cases b1 <;> (show OT.l _ = OT.r _; kernel_rfl)
noncomputable def H_outT0k2 (P : Params) (q : Lw) (r : Lr) (i left jf lf : Int) (x : Nat) (bs : List Nat) (row : List (Int × Nat)) (ep : Nat) (z0 z1 z2 z5 : Nat → Nat) : HT := .go [1,1,1] (.cut (cGt (lvM (lvR x q.a (row.map (·.1)) (i * 2) (i * 2)) big63) q.mx (z5 5) q.v false) fun z6 => .go [] (.cut (cOut P { q with i0 := 0, i1 := 1, i2 := 2, k8 := (z0 1), k9 := (z1 1), k10 := (z2 1), k11 := (z2 1 + 3), k12 := (z5 12), k13 := (z5 13), k14 := (z5 14) } (frI P { q with i0 := 0, i1 := 1, i2 := 2, k8 := (z0 1), k9 := (z1 1), k10 := (z2 1), k11 := (z2 1 + 3), k12 := (z5 12), k13 := (z5 13), k14 := (z5 14) } (endR z5 { r with bi := i, tb := (z0 2), x := x, tx := (z1 2) } (lvL (lvR x q.a (row.map (·.1)) (i * 2) (i * 2)) (i * 2)) (lvM (lvR x q.a (row.map (·.1)) (i * 2) (i * 2)) big63))) (lvL (lvR x q.a (row.map (·.1)) (i * 2) (i * 2)) (i * 2)) (i + 1) (left - 1) jf lf bs ((lvR x q.a (row.map (·.1)) (i * 2) (i * 2)).zip (lsO 20 z5 row.length)) ep) fun z7 => .go [] (.nil { res := .ok Flow.next, exp := expOf (cOut P { q with i0 := 0, i1 := 1, i2 := 2, k8 := (z0 1), k9 := (z1 1), k10 := (z2 1), k11 := (z2 1 + 3), k12 := (z5 12), k13 := (z5 13), k14 := (z5 14) } (frI P { q with i0 := 0, i1 := 1, i2 := 2, k8 := (z0 1), k9 := (z1 1), k10 := (z2 1), k11 := (z2 1 + 3), k12 := (z5 12), k13 := (z5 13), k14 := (z5 14) } (endR z5 { r with bi := i, tb := (z0 2), x := x, tx := (z1 2) } (lvL (lvR x q.a (row.map (·.1)) (i * 2) (i * 2)) (i * 2)) (lvM (lvR x q.a (row.map (·.1)) (i * 2) (i * 2)) big63))) (lvL (lvR x q.a (row.map (·.1)) (i * 2) (i * 2)) (i * 2)) (i + 1) (left - 1) jf lf bs ((lvR x q.a (row.map (·.1)) (i * 2) (i * 2)).zip (lsO 20 z5 row.length)) ep) z7 })))
noncomputable def H_outT0k1 (P : Params) (q : Lw) (r : Lr) (i left jf lf : Int) (x : Nat) (bs : List Nat) (row : List (Int × Nat)) (ep : Nat) (z0 z1 z2 : Nat → Nat) : HT := .go [1,0,1,0,1,0,0,0,0,0,1,1] (.cut (cLenS ({ cps := { toList := q.a } }) q.t ((q.a.length : Nat) : Int)) fun z3 => .go [0,0,7,7,0,7,7,7,7,1] (.cut (cRIter 7 (z3 0) 0 ((q.a.length : Nat) : Int) 1 (z3 1) (z3 2) (z3 1 + 1) ((q.a.length : Nat) : Int)) fun z4 => .go [9,1] (.cut (cIn0 P { q with it := (z4 2), i0 := 0, i1 := 4, i2 := 2, k8 := (z0 1), k9 := (z1 1), k10 := (z2 1), k11 := (z2 1 + 3) } { R := (i * 2), tR := (z2 2), bi := i, tb := (z0 2), x := x, tx := (z1 2), D := (i * 2), tD := (z2 2), M := big63, tM := (z2 1 + 2), ix := r.ix, ti := r.ti, S := r.S, tS := r.tS, I := r.I, tI := r.tI } 0 ((q.a.length : Nat) : Int) ((q.a.length : Nat) : Int) 0 q.a [] row ep) fun z5 => (H_outT0k2 P q r i left jf lf x bs row ep z0 z1 z2 z5))))
noncomputable def H_outT0 (P : Params) (q : Lw) (r : Lr) (i left jf lf : Int) (x : Nat) (bs : List Nat) (row : List (Int × Nat)) (ep : Nat) (n tk : Nat) : HT := .go [3,1] (.cut (cRNext 1 q.it i left 1) fun z0 => .go [1,0,1,1,1] (.cut (cStrAt ({ cps := { toList := q.b } }) q.u i (z0 2) x) fun z1 => .go [1,0,1,0,1] (.cut (cMul i 2 (z0 2) 318 (i * 2)) fun z2 => (H_outT0k1 P q r i left jf lf x bs row ep z0 z1 z2))))
theorem r_outT0 (P : Params) (b1 b2 : Bool) (q : Lw) (r : Lr) (i left jf lf : Int) (x : Nat) (bs : List Nat) (row : List (Int × Nat)) (ep : Nat) (n tk : Nat) : (RunC (parOf P b1 b2) (cOut (parOf P b1 b2) q (frB (parOf P b1 b2) q r) r.R i left jf lf (x :: bs) row ep) 400 (H_outT0 (parOf P b1 b2) q r i left jf lf x bs row ep n tk) n tk).Ok := by
  cases b1 <;> (show OT.l _ = OT.r _; kernel_rfl)
noncomputable def H_outE (P : Params) (q : Lw) (r : Lr) (i left : Int) (row : List (Int × Nat)) (ep : Nat) (n tk : Nat) : HT := .go [3,1] (.cut (cREnd 1 q.it i left 1) fun z0 => .go [4] (.nil { res := .ok Flow.next, exp := [(1, (q.L, frI P q r)), (3, (q.it, raI i left 1)), (5, (q.row, liO (inl row) ep))] }))
theorem r_outE (P : Params) (b1 b2 : Bool) (q : Lw) (r : Lr) (i left : Int) (row : List (Int × Nat)) (ep : Nat) (n tk : Nat) : (RunC (parOf P b1 b2) (cOut (parOf P b1 b2) q (frI (parOf P b1 b2) q r) r.R i left i left [] row ep) 400 (H_outE (parOf P b1 b2) q r i left row ep n tk) n tk).Ok := by
  cases b1 <;> (show OT.l _ = OT.r _; kernel_rfl)
noncomputable def H_lev0 (P : Params) (a b : List Nat) (t u : Nat) (mx : Int) (v : Nat) (n tk : Nat) : HT := .go [1,0,1,0,1,0,1,1,1] (.cut (cStrEq ({ cps := { toList := a } }) ({ cps := { toList := b } }) t u true) fun z0 => .go [] (.nil { res := .ok (.ret (Value.int 0 (z0 1))), exp := [] }))
theorem r_lev0 (P : Params) (b1 b2 : Bool) (a b : List Nat) (t u : Nat) (mx : Int) (v : Nat) (n tk : Nat) : (RunF (parOf P b1 b2) (cLev ⟨⟨a⟩⟩ ⟨⟨b⟩⟩ t u mx v 0) 115 fd115 [.str ⟨⟨a⟩⟩ t, .str ⟨⟨b⟩⟩ u, .int mx v] 400 (H_lev0 (parOf P b1 b2) a b t u mx v n tk) n tk).Ok := by
  cases b1 <;> (show OT.l _ = OT.r _; kernel_rfl)
noncomputable def H_levAk9 (P : Params) (a b : List Nat) (t u : Nat) (mx : Int) (v : Nat) (p : Int) (k : Nat) (e f : Nat) (r' s' : List Nat) (R : Int) (n tk : Nat) (z0 z1 z3 z4 z6 z8 z24 z25 z26 : Nat → Nat) : HT := .go [0,0,15,15,0,15,15,15,15,1] (.cut (cRIter 15 (z26 0) 0 (((f :: s').length : Nat) : Int) 1 (z26 1) (z26 2) (z26 1 + 1) (((f :: s').length : Nat) : Int)) fun z27 => .go [17,1] (.cut (cOut P { L := n, row := (z24 2), it := (z27 2), a := e :: r', b := f :: s', t := (z6 2), u := (z8 2), mx := mx, v := v, p := p, tp := (z1 2), o := -(k : Int), to := (z4 2), k1 := tk, k2 := (tk + 1), k3 := (tk + 2), k4 := (z0 1 + 1), k5 := (z3 1 + 2), k6 := (z25 1), k7 := (z25 1 + 2), k8 := 0, k9 := 0, k10 := 0, k11 := 0, k12 := 0, k13 := 0, k14 := 0, i0 := 0, i1 := 8, i2 := 6 } (frB P { L := n, row := (z24 2), it := (z27 2), a := e :: r', b := f :: s', t := (z6 2), u := (z8 2), mx := mx, v := v, p := p, tp := (z1 2), o := -(k : Int), to := (z4 2), k1 := tk, k2 := (tk + 1), k3 := (tk + 2), k4 := (z0 1 + 1), k5 := (z3 1 + 2), k6 := (z25 1), k7 := (z25 1 + 2), k8 := 0, k9 := 0, k10 := 0, k11 := 0, k12 := 0, k13 := 0, k14 := 0, i0 := 0, i1 := 8, i2 := 6 } ⟨0, (z25 1 + 1), 0, 0, 0, 0, 0, 0, 0, 0, 0, 0, 0, 0, 0, 0⟩) 0 0 (((f :: s').length : Nat) : Int) (((f :: s').length : Nat) : Int) 0 (f :: s') ((rgL 2 2 (e :: r').length).zip (lsO 8 z25 (e :: r').length)) (z25 2)) fun z28 => .go [1] (.nil { res := .ok (.ret (Value.int (outR z28 (lvO (e :: r') (f :: s') 0 (List.map (fun x => x.fst) ((rgL 2 2 (e :: r').length).zip (lsO 8 z25 (e :: r').length))) 0)).R (z28 2))), exp := [] })))
noncomputable def H_levAk8 (P : Params) (a b : List Nat) (t u : Nat) (mx : Int) (v : Nat) (p : Int) (k : Nat) (e f : Nat) (r' s' : List Nat) (R : Int) (n tk : Nat) (z0 z1 z3 z4 z6 z8 z23 : Nat → Nat) : HT := .go [0,0,0,11,11,0,11,11,0,1] (.cut (cListNew (Value.ref (z23 0))) fun z24 => .go [13,13,1] (.cut (cListInitR 6 11 (z24 2) (z23 0) 2 (2 * (((e :: r').length : Int) + 1)) 2 318 (z23 2) 318 (e :: r').length) fun z25 => .go [1,0,1,0,0,0,0,0,1,1] (.cut (cLenS ({ cps := { toList := f :: s' } }) (z8 2) (((f :: s').length : Nat) : Int)) fun z26 => (H_levAk9 P a b t u mx v p k e f r' s' R n tk z0 z1 z3 z4 z6 z8 z24 z25 z26))))
noncomputable def H_levAk7 (P : Params) (a b : List Nat) (t u : Nat) (mx : Int) (v : Nat) (p : Int) (k : Nat) (e f : Nat) (r' s' : List Nat) (R : Int) (n tk : Nat) (z0 z1 z3 z4 z6 z8 z20 : Nat → Nat) : HT := .go [1,1] (.cut (cGt 0 mx (z20 2) v false) fun z21 => .go [0,0,0,0,0,0,0,0,1,1] (.cut (cLenS ({ cps := { toList := e :: r' } }) (z6 2) (((e :: r').length : Nat) : Int)) fun z22 => .go [0,1] (.cut (cMul 2 (↑(e :: r').length + 1 : Int) 318 (z22 1 + 1) (2 * (((e :: r').length : Int) + 1))) fun z23 => (H_levAk8 P a b t u mx v p k e f r' s' R n tk z0 z1 z3 z4 z6 z8 z23))))
noncomputable def H_levAk6 (P : Params) (a b : List Nat) (t u : Nat) (mx : Int) (v : Nat) (p : Int) (k : Nat) (e f : Nat) (r' s' : List Nat) (R : Int) (n tk : Nat) (z0 z1 z3 z4 z6 z8 : Nat → Nat) : HT := .go [0,0,1,1] (.cut (cLenS ({ cps := { toList := f :: s' } }) (z8 2) (((f :: s').length : Nat) : Int)) fun z18 => .go [0,0,1,1] (.cut (cLenS ({ cps := { toList := e :: r' } }) (z6 2) (((e :: r').length : Nat) : Int)) fun z19 => .go [0,0,1] (.cut (cMul (↑(f :: s').length - ↑(e :: r').length : Int) 2 (z19 1) 318 0) fun z20 => (H_levAk7 P a b t u mx v p k e f r' s' R n tk z0 z1 z3 z4 z6 z8 z20))))
noncomputable def H_levAk5 (P : Params) (a b : List Nat) (t u : Nat) (mx : Int) (v : Nat) (p : Int) (k : Nat) (e f : Nat) (r' s' : List Nat) (R : Int) (n tk : Nat) (z0 z1 z3 z4 z6 z8 : Nat → Nat) : HT := .go [0,0,1,1] (.cut (cLenS ({ cps := { toList := f :: s' } }) (z8 2) (((f :: s').length : Nat) : Int)) fun z15 => .go [0,0,1,1] (.cut (cLenS ({ cps := { toList := e :: r' } }) (z6 2) (((e :: r').length : Nat) : Int)) fun z16 => .go [1] (.cut (cLt (↑(f :: s').length : Int) (↑(e :: r').length : Int) (z15 2) (z16 2) false) fun z17 => (H_levAk6 P a b t u mx v p k e f r' s' R n tk z0 z1 z3 z4 z6 z8))))
noncomputable def H_levAk4 (P : Params) (a b : List Nat) (t u : Nat) (mx : Int) (v : Nat) (p : Int) (k : Nat) (e f : Nat) (r' s' : List Nat) (R : Int) (n tk : Nat) (z0 z1 z3 z4 z6 z8 z11 : Nat → Nat) : HT := .go [0,1] (.cut (cGt (↑(e :: r').length : Int) 40 (z11 2) 316 false) fun z12 => .go [0,0,1,1] (.cut (cLenS ({ cps := { toList := f :: s' } }) (z8 2) (((f :: s').length : Nat) : Int)) fun z13 => .go [0,1] (.cut (cGt (↑(f :: s').length : Int) 40 (z13 2) 316 false) fun z14 => (H_levAk5 P a b t u mx v p k e f r' s' R n tk z0 z1 z3 z4 z6 z8))))
noncomputable def H_levAk3 (P : Params) (a b : List Nat) (t u : Nat) (mx : Int) (v : Nat) (p : Int) (k : Nat) (e f : Nat) (r' s' : List Nat) (R : Int) (n tk : Nat) (z0 z1 z3 z4 z6 z8 : Nat → Nat) : HT := .go [1,0,1,1] (.cut (cLenSB ({ cps := { toList := e :: r' } }) (z6 2) ((r'.length : Int) + 1)) fun z9 => .go [1,1] (.cut (cLenSB ({ cps := { toList := f :: s' } }) (z8 2) ((s'.length : Int) + 1)) fun z10 => .go [0,0,1,1] (.cut (cLenS ({ cps := { toList := e :: r' } }) (z6 2) (((e :: r').length : Nat) : Int)) fun z11 => (H_levAk4 P a b t u mx v p k e f r' s' R n tk z0 z1 z3 z4 z6 z8 z11))))
noncomputable def H_levAk2 (P : Params) (a b : List Nat) (t u : Nat) (mx : Int) (v : Nat) (p : Int) (k : Nat) (c d e f : Nat) (r r' s s' : List Nat) (R : Int) (n tk : Nat) (z0 z1 z2 z3 z4 z5 : Nat → Nat) : HT := .go [1] (.cut (cStrSl 7 ({ cps := { toList := c :: r } }) (z2 2) (z5 0) .none (.int (-↑k : Int) (z4 2)) ⟨⟨e :: r'⟩⟩) fun z6 => .go [1,0,1,1,1] (.cut (cBool (-↑k : Int) (z4 2) true) fun z7 => .go [1] (.cut (cStrSl 9 ({ cps := { toList := d :: s } }) (z3 2) (z7 0) .none (.int (-↑k : Int) (z4 2)) ⟨⟨f :: s'⟩⟩) fun z8 => (H_levAk3 P a b t u mx v p k e f r' s' R n tk z0 z1 z3 z4 z6 z8))))
noncomputable def H_levAk1 (P : Params) (a b : List Nat) (t u : Nat) (mx : Int) (v : Nat) (p : Int) (k : Nat) (c d e f : Nat) (r r' s s' : List Nat) (R : Int) (n tk : Nat) (z0 z1 z2 : Nat → Nat) : HT := .go [1,0,1,1,1] (.cut (cStrSl 5 ({ cps := { toList := b } }) u (z2 0) (.int p (z1 2)) .none ⟨⟨d :: s⟩⟩) fun z3 => .go [1,0,1,0,1] (.cut (cW2 P { L := n, a := c :: r, b := d :: s, t := (z2 2), u := (z3 2), mx := mx, v := v, k1 := tk, k2 := (tk + 1), k3 := (tk + 2), k4 := (z0 1 + 1), k5 := (z3 1 + 2), i0 := 0 } p (z1 2) 0 (z3 1 + 1) (-(k : Int))) fun z4 => .go [1,1,1] (.cut (cBool (-↑k : Int) (z4 2) true) fun z5 => (H_levAk2 P a b t u mx v p k c d e f r r' s s' R n tk z0 z1 z2 z3 z4 z5))))
noncomputable def H_levA (P : Params) (a b : List Nat) (t u : Nat) (mx : Int) (v : Nat) (p : Int) (k : Nat) (c d e f : Nat) (r r' s s' : List Nat) (R : Int) (n tk : Nat) : HT := .go [1,0,1,0,1,0,1,1,1] (.cut (cStrEq ({ cps := { toList := a } }) ({ cps := { toList := b } }) t u false) fun z0 => .go [1,0,1] (.cut (cW1 P { L := n, a := a, b := b, t := t, u := u, mx := mx, v := v, k1 := tk, k2 := (tk + 1), k3 := (tk + 2), k4 := (z0 1 + 1), k5 := 0, i0 := 0 } 0 (z0 1) p) fun z1 => .go [1,1,1] (.cut (cStrSl 3 ({ cps := { toList := a } }) t (z1 0) (.int p (z1 2)) .none ⟨⟨c :: r⟩⟩) fun z2 => (H_levAk1 P a b t u mx v p k c d e f r r' s s' R n tk z0 z1 z2))))
theorem r_levA (P : Params) (b1 b2 : Bool) (a b : List Nat) (t u : Nat) (mx : Int) (v : Nat) (p : Int) (k : Nat) (c d e f : Nat) (r r' s s' : List Nat) (R : Int) (n tk : Nat) : (RunF (parOf P b1 b2) (cLev ⟨⟨a⟩⟩ ⟨⟨b⟩⟩ t u mx v R) 115 fd115 [.str ⟨⟨a⟩⟩ t, .str ⟨⟨b⟩⟩ u, .int mx v] 900 (H_levA (parOf P b1 b2) a b t u mx v p k c d e f r r' s s' R n tk) n tk).Ok := by
  cases b1 <;> (show OT.l _ = OT.r _; kernel_rfl)
noncomputable def H_levBk9 (P : Params) (a b : List Nat) (t u : Nat) (mx : Int) (v : Nat) (p : Int) (k : Nat) (e f : Nat) (r' s' : List Nat) (R : Int) (n tk : Nat) (z0 z1 z3 z4 z6 z8 z24 z25 z26 : Nat → Nat) : HT := .go [0,0,15,15,0,15,15,15,15,1] (.cut (cRIter 15 (z26 0) 0 (((f :: s').length : Nat) : Int) 1 (z26 1) (z26 2) (z26 1 + 1) (((f :: s').length : Nat) : Int)) fun z27 => .go [17,1] (.cut (cOut P { L := n, row := (z24 2), it := (z27 2), a := e :: r', b := f :: s', t := (z6 2), u := (z8 2), mx := mx, v := v, p := p, tp := (z1 2), o := -(k : Int), to := (z4 2), k1 := tk, k2 := (tk + 1), k3 := (tk + 2), k4 := (z0 1 + 1), k5 := (z3 1 + 2), k6 := (z25 1), k7 := (z25 1 + 2), k8 := 0, k9 := 0, k10 := 0, k11 := 0, k12 := 0, k13 := 0, k14 := 0, i0 := 0, i1 := 8, i2 := 6 } (frB P { L := n, row := (z24 2), it := (z27 2), a := e :: r', b := f :: s', t := (z6 2), u := (z8 2), mx := mx, v := v, p := p, tp := (z1 2), o := -(k : Int), to := (z4 2), k1 := tk, k2 := (tk + 1), k3 := (tk + 2), k4 := (z0 1 + 1), k5 := (z3 1 + 2), k6 := (z25 1), k7 := (z25 1 + 2), k8 := 0, k9 := 0, k10 := 0, k11 := 0, k12 := 0, k13 := 0, k14 := 0, i0 := 0, i1 := 8, i2 := 6 } ⟨0, (z25 1 + 1), 0, 0, 0, 0, 0, 0, 0, 0, 0, 0, 0, 0, 0, 0⟩) 0 0 (((f :: s').length : Nat) : Int) (((f :: s').length : Nat) : Int) 0 (f :: s') ((rgL 2 2 (e :: r').length).zip (lsO 8 z25 (e :: r').length)) (z25 2)) fun z28 => .go [1] (.nil { res := .ok (.ret (Value.int (outR z28 (lvO (e :: r') (f :: s') 0 (List.map (fun x => x.fst) ((rgL 2 2 (e :: r').length).zip (lsO 8 z25 (e :: r').length))) 0)).R (z28 2))), exp := [] })))
noncomputable def H_levBk8 (P : Params) (a b : List Nat) (t u : Nat) (mx : Int) (v : Nat) (p : Int) (k : Nat) (e f : Nat) (r' s' : List Nat) (R : Int) (n tk : Nat) (z0 z1 z3 z4 z6 z8 z23 : Nat → Nat) : HT := .go [0,0,0,11,11,0,11,11,0,1] (.cut (cListNew (Value.ref (z23 0))) fun z24 => .go [13,13,1] (.cut (cListInitR 6 11 (z24 2) (z23 0) 2 (2 * (((e :: r').length : Int) + 1)) 2 318 (z23 2) 318 (e :: r').length) fun z25 => .go [1,0,1,0,0,0,0,0,1,1] (.cut (cLenS ({ cps := { toList := f :: s' } }) (z8 2) (((f :: s').length : Nat) : Int)) fun z26 => (H_levBk9 P a b t u mx v p k e f r' s' R n tk z0 z1 z3 z4 z6 z8 z24 z25 z26))))
noncomputable def H_levBk7 (P : Params) (a b : List Nat) (t u : Nat) (mx : Int) (v : Nat) (p : Int) (k : Nat) (e f : Nat) (r' s' : List Nat) (R : Int) (n tk : Nat) (z0 z1 z3 z4 z6 z8 z20 : Nat → Nat) : HT := .go [1,1] (.cut (cGt 0 mx (z20 2) v false) fun z21 => .go [0,0,0,0,0,0,0,0,1,1] (.cut (cLenS ({ cps := { toList := e :: r' } }) (z6 2) (((e :: r').length : Nat) : Int)) fun z22 => .go [0,1] (.cut (cMul 2 (↑(e :: r').length + 1 : Int) 318 (z22 1 + 1) (2 * (((e :: r').length : Int) + 1))) fun z23 => (H_levBk8 P a b t u mx v p k e f r' s' R n tk z0 z1 z3 z4 z6 z8 z23))))
noncomputable def H_levBk6 (P : Params) (a b : List Nat) (t u : Nat) (mx : Int) (v : Nat) (p : Int) (k : Nat) (e f : Nat) (r' s' : List Nat) (R : Int) (n tk : Nat) (z0 z1 z3 z4 z6 z8 : Nat → Nat) : HT := .go [0,0,1,1] (.cut (cLenS ({ cps := { toList := f :: s' } }) (z8 2) (((f :: s').length : Nat) : Int)) fun z18 => .go [0,0,1,1] (.cut (cLenS ({ cps := { toList := e :: r' } }) (z6 2) (((e :: r').length : Nat) : Int)) fun z19 => .go [0,0,1] (.cut (cMul (↑(f :: s').length - ↑(e :: r').length : Int) 2 (z19 1) 318 0) fun z20 => (H_levBk7 P a b t u mx v p k e f r' s' R n tk z0 z1 z3 z4 z6 z8 z20))))
noncomputable def H_levBk5 (P : Params) (a b : List Nat) (t u : Nat) (mx : Int) (v : Nat) (p : Int) (k : Nat) (e f : Nat) (r' s' : List Nat) (R : Int) (n tk : Nat) (z0 z1 z3 z4 z6 z8 : Nat → Nat) : HT := .go [0,0,1,1] (.cut (cLenS ({ cps := { toList := f :: s' } }) (z8 2) (((f :: s').length : Nat) : Int)) fun z15 => .go [0,0,1,1] (.cut (cLenS ({ cps := { toList := e :: r' } }) (z6 2) (((e :: r').length : Nat) : Int)) fun z16 => .go [1] (.cut (cLt (↑(f :: s').length : Int) (↑(e :: r').length : Int) (z15 2) (z16 2) false) fun z17 => (H_levBk6 P a b t u mx v p k e f r' s' R n tk z0 z1 z3 z4 z6 z8))))
noncomputable def H_levBk4 (P : Params) (a b : List Nat) (t u : Nat) (mx : Int) (v : Nat) (p : Int) (k : Nat) (e f : Nat) (r' s' : List Nat) (R : Int) (n tk : Nat) (z0 z1 z3 z4 z6 z8 z11 : Nat → Nat) : HT := .go [0,1] (.cut (cGt (↑(e :: r').length : Int) 40 (z11 2) 316 false) fun z12 => .go [0,0,1,1] (.cut (cLenS ({ cps := { toList := f :: s' } }) (z8 2) (((f :: s').length : Nat) : Int)) fun z13 => .go [0,1] (.cut (cGt (↑(f :: s').length : Int) 40 (z13 2) 316 false) fun z14 => (H_levBk5 P a b t u mx v p k e f r' s' R n tk z0 z1 z3 z4 z6 z8))))
noncomputable def H_levBk3 (P : Params) (a b : List Nat) (t u : Nat) (mx : Int) (v : Nat) (p : Int) (k : Nat) (e f : Nat) (r' s' : List Nat) (R : Int) (n tk : Nat) (z0 z1 z3 z4 z6 z8 : Nat → Nat) : HT := .go [1,0,1,1] (.cut (cLenSB ({ cps := { toList := e :: r' } }) (z6 2) ((r'.length : Int) + 1)) fun z9 => .go [1,1] (.cut (cLenSB ({ cps := { toList := f :: s' } }) (z8 2) ((s'.length : Int) + 1)) fun z10 => .go [0,0,1,1] (.cut (cLenS ({ cps := { toList := e :: r' } }) (z6 2) (((e :: r').length : Nat) : Int)) fun z11 => (H_levBk4 P a b t u mx v p k e f r' s' R n tk z0 z1 z3 z4 z6 z8 z11))))
noncomputable def H_levBk2 (P : Params) (a b : List Nat) (t u : Nat) (mx : Int) (v : Nat) (p : Int) (k : Nat) (c d e f : Nat) (r r' s s' : List Nat) (R : Int) (n tk : Nat) (z0 z1 z2 z3 z4 z5 : Nat → Nat) : HT := .go [1] (.cut (cStrSl 7 ({ cps := { toList := c :: r } }) (z2 2) (z5 0) .none .none ⟨⟨e :: r'⟩⟩) fun z6 => .go [1,0,1,1,1] (.cut (cBool (-↑k : Int) (z4 2) false) fun z7 => .go [1] (.cut (cStrSl 9 ({ cps := { toList := d :: s } }) (z3 2) (z7 0) .none .none ⟨⟨f :: s'⟩⟩) fun z8 => (H_levBk3 P a b t u mx v p k e f r' s' R n tk z0 z1 z3 z4 z6 z8))))
noncomputable def H_levBk1 (P : Params) (a b : List Nat) (t u : Nat) (mx : Int) (v : Nat) (p : Int) (k : Nat) (c d e f : Nat) (r r' s s' : List Nat) (R : Int) (n tk : Nat) (z0 z1 z2 : Nat → Nat) : HT := .go [1,0,1,1,1] (.cut (cStrSl 5 ({ cps := { toList := b } }) u (z2 0) (.int p (z1 2)) .none ⟨⟨d :: s⟩⟩) fun z3 => .go [1,0,1,0,1] (.cut (cW2 P { L := n, a := c :: r, b := d :: s, t := (z2 2), u := (z3 2), mx := mx, v := v, k1 := tk, k2 := (tk + 1), k3 := (tk + 2), k4 := (z0 1 + 1), k5 := (z3 1 + 2), i0 := 0 } p (z1 2) 0 (z3 1 + 1) (-(k : Int))) fun z4 => .go [1,1,1] (.cut (cBool (-↑k : Int) (z4 2) false) fun z5 => (H_levBk2 P a b t u mx v p k c d e f r r' s s' R n tk z0 z1 z2 z3 z4 z5))))
noncomputable def H_levB (P : Params) (a b : List Nat) (t u : Nat) (mx : Int) (v : Nat) (p : Int) (k : Nat) (c d e f : Nat) (r r' s s' : List Nat) (R : Int) (n tk : Nat) : HT := .go [1,0,1,0,1,0,1,1,1] (.cut (cStrEq ({ cps := { toList := a } }) ({ cps := { toList := b } }) t u false) fun z0 => .go [1,0,1] (.cut (cW1 P { L := n, a := a, b := b, t := t, u := u, mx := mx, v := v, k1 := tk, k2 := (tk + 1), k3 := (tk + 2), k4 := (z0 1 + 1), k5 := 0, i0 := 0 } 0 (z0 1) p) fun z1 => .go [1,1,1] (.cut (cStrSl 3 ({ cps := { toList := a } }) t (z1 0) (.int p (z1 2)) .none ⟨⟨c :: r⟩⟩) fun z2 => (H_levBk1 P a b t u mx v p k c d e f r r' s s' R n tk z0 z1 z2))))
theorem r_levB (P : Params) (b1 b2 : Bool) (a b : List Nat) (t u : Nat) (mx : Int) (v : Nat) (p : Int) (k : Nat) (c d e f : Nat) (r r' s s' : List Nat) (R : Int) (n tk : Nat) : (RunF (parOf P b1 b2) (cLev ⟨⟨a⟩⟩ ⟨⟨b⟩⟩ t u mx v R) 115 fd115 [.str ⟨⟨a⟩⟩ t, .str ⟨⟨b⟩⟩ u, .int mx v] 900 (H_levB (parOf P b1 b2) a b t u mx v p k c d e f r r' s s' R n tk) n tk).Ok := by
  cases b1 <;> (show OT.l _ = OT.r _; kernel_rfl)
noncomputable def Ls (l : List Nat) : Prop := ∀ c ∈ l, Letter c
theorem endR_mk (z : Nat → Nat) (ts : List Nat) (r : Lr) (R M : Int) (sz tk : Nat) : endR (wit (mkO 20 z ts) sz tk) r R M = endR z r R M := rfl
theorem cut_len {α : Type} {l : List α} {i : Nat} {c : α} {r : List α} (h : l.drop i = c :: r) : i < l.length ∧ l[i]? = some c ∧ l.drop (i + 1) = r := by
  have hlt : i < l.length := by
    rcases Nat.lt_or_ge i l.length with q | q
    · exact q
    · rw [List.drop_eq_nil_iff.mpr q] at h; cases h
  have hd := List.drop_eq_getElem_cons hlt
  rw [h] at hd
  injection hd with e1 e2
  exact ⟨hlt, by rw [List.getElem?_eq_getElem hlt, e1], e2.symm⟩
theorem set_at {dn : List (Int × Nat)} {x y : Int × Nat} {rs : List (Int × Nat)} : (inl (dn ++ x :: rs)).set dn.length (.int y.1 y.2) = inl ((dn ++ [y]) ++ rs) := by
  unfold inl
  simp
theorem get_at {dn : List (Int × Nat)} {x : Int × Nat} {rs : List (Int × Nat)} : (inl (dn ++ x :: rs))[dn.length]? = some (.int x.1 x.2) := by
  unfold inl
  simp
theorem inl_len (l : List (Int × Nat)) : (inl l).length = l.length := by simp [inl]
theorem in_out {P : Params} {q q' : Lw} {r r' : Lr} {j left jf lf : Int} {c : Nat} {as : List Nat} {dn : List (Int × Nat)} {rr : Int} {rt : Nat} {rs : List (Int × Nat)} {ep tok : Nat} {z : Nat → Nat} {j' left' : Int}
    (hq : { q with i0 := 0, i1 := 1, i2 := 2 } = q') (R' : Int) (hR : R' = imin (imin r.R rr + 2) (r.D + subc r.x c)) (h1 : r'.R = R') (h2 : r'.D = rr) (h3 : r'.x = r.x) (h4 : r'.M = if R' < r.M then R' else r.M)
    (h5 : r'.bi = r.bi ∧ r'.tb = r.tb ∧ r'.tx = r.tx) :
    OutF (cIn P q r j left jf lf (c :: as) dn ((rr, rt) :: rs) ep) { res := .ok .next, exp := expOf (cIn P q' r' j' left' jf lf as (dn ++ [(R', tok)]) rs ep) z } := by
  subst hq
  obtain ⟨rR, rtR, rbi, rtb, rx, rtx, rD, rtD, rM, rtM, rix, rti, rS, rtS, rI, rtI⟩ := r
  obtain ⟨sR, stR, sbi, stb, sx, stx, sD, stD, sM, stM, six, sti, sS, stS, sI, stI⟩ := r'
  dsimp only at hR h1 h2 h3 h4 h5
  obtain ⟨h5, h6, h7⟩ := h5
  subst h1 h2 h3 h5 h6 h7
  refine outE (mkO 20 z (tok :: lsO 20 z rs.length)) fun sz tk => ⟨trivial, rfl, ?_, rfl, rfl⟩
  have e : lsO 20 (wit (mkO 20 z (tok :: lsO 20 z rs.length)) sz tk) (rs.length + 1) = tok :: lsO 20 z rs.length := by
    rw [lsO_wit _ _ _ _ (by decide), lsO_mk' (by rw [List.length_cons, lsO_len])]
  unfold cIn
  dsimp only
  rw [endR_mk]
  simp only [List.length_cons, e, List.map_cons, lvR, lvL, lvM, ← hR, ← h4, List.zip_cons_cons, List.append_assoc, List.cons_append, List.nil_append]
  rfl
theorem in_end (w : World) (b1 b2 : Bool) (q : Lw) (r : Lr) (j left : Int) (dn : List (Int × Nat)) (ep : Nat) (hl : left ≤ 0) : VV w b1 b2 (cIn (parOf w.params b1 b2) q r j left j left [] dn [] ep) := by
  refine codeV (fun _ => rfl) 400 (fun n tk => H_inE (parOf w.params b1 b2) q r j left dn ep n tk) (fun n tk => r_inE w.params b1 b2 q r j left dn ep n tk) fun n tk => ⟨cREnd_ok hl, fun z0 hz0 => ?_⟩
  have e : ∀ y : Nat → Nat, y 2 = r.tR → y 3 = wi r.D → y 4 = r.tD → y 5 = r.tM → y 6 = wi r.ix → y 7 = r.ti → y 8 = wi r.S → y 9 = r.tS → y 10 = wi r.I → y 11 = r.tI → endR y r r.R r.M = r := by
    intro y a2 a3 a4 a5 a6 a7 a8 a9 a10 a11
    unfold endR
    rw [a2, a3, a4, a5, a6, a7, a8, a9, a10, a11, iw_wi, iw_wi, iw_wi, iw_wi]
  refine outE (fun i => if i = 2 then r.tR else if i = 3 then wi r.D else if i = 4 then r.tD else if i = 5 then r.tM else if i = 6 then wi r.ix else if i = 7 then r.ti else if i = 8 then wi r.S else if i = 9 then r.tS else if i = 10 then wi r.I else r.tI) fun sz tk => ⟨trivial, rfl, ?_, rfl, rfl⟩
  show [(q.L, frI _ q (endR _ r r.R r.M)), _, (q.row, liO (inl (dn ++ [])) ep)] = _
  rw [e _ rfl rfl rfl rfl rfl rfl rfl rfl rfl rfl]
  rfl
theorem in_turn (w : World) (b1 b2 : Bool) (q : Lw) (r : Lr) (j left jf lf : Int) (c : Nat) (as : List Nat) (dn : List (Int × Nat)) (rr : Int) (rt : Nat) (rs : List (Int × Nat)) (ep : Nat) (hj : j = dn.length) (hl : 0 < left) (hcj : q.a[j.toNat]? = some c) (hz : dn.length + (rs.length + 1) ≤ 1000) (hx : Letter r.x) (hc : Letter c)
    (rest : ∀ (q' : Lw) (r' : Lr) (R' : Int) (tok : Nat), q'.a = q.a → r'.x = r.x → VV w b1 b2 (cIn (parOf w.params b1 b2) q' r' (j + 1) (left - 1) jf lf as (dn ++ [(R', tok)]) rs ep)) :
    VV w b1 b2 (cIn (parOf w.params b1 b2) q r j left jf lf (c :: as) dn ((rr, rt) :: rs) ep) := by
  by_cases hlt : imin (imin r.R rr + 2) (r.D + subc r.x c) < r.M
  · refine codeV (fun _ => rfl) 400 (fun n tk => H_inT _ q r j left jf lf c as dn rr rt rs ep n tk) (fun n tk => r_inT _ _ _ _ _ _ _ _ _ _ _ _ _ _ _ _ _ _) fun n tk =>
      ⟨cRNext_ok hl, fun z0 hz0 => ⟨cStrAt_ok (by lia) (by lia) hcj, fun z1 hz1 => ⟨sub_ok w b1 b2 hx (hc), fun z2 hz2 => ⟨cGet_ok (by lia) (by lia) (by rw [hj, Int.toNat_natCast]; exact get_at), fun z3 hz3 => ⟨cMin_ok w b1 b2, fun z4 hz4 => ⟨cMin_ok w b1 b2, fun z5 hz5 =>
      ⟨cSetV_ok (by lia) (by lia) (by rw [inl_len, List.length_append, List.length_cons]; lia) (by rw [hj, Int.toNat_natCast]; exact set_at (y := (_, _))), fun z6 hz6 => ⟨cLt_ok (decide_eq_true hlt), fun z7 hz7 => ⟨rest _ _ _ _ rfl rfl, fun z8 hz8 => ?_⟩⟩⟩⟩⟩⟩⟩⟩⟩
    exact in_out rfl _ rfl rfl rfl rfl (by rw [if_pos hlt]) ⟨rfl, rfl, rfl⟩
  · refine codeV (fun _ => rfl) 400 (fun n tk => H_inF _ q r j left jf lf c as dn rr rt rs ep n tk) (fun n tk => r_inF _ _ _ _ _ _ _ _ _ _ _ _ _ _ _ _ _ _) fun n tk =>
      ⟨cRNext_ok hl, fun z0 hz0 => ⟨cStrAt_ok (by lia) (by lia) hcj, fun z1 hz1 => ⟨sub_ok w b1 b2 hx (hc), fun z2 hz2 => ⟨cGet_ok (by lia) (by lia) (by rw [hj, Int.toNat_natCast]; exact get_at), fun z3 hz3 => ⟨cMin_ok w b1 b2, fun z4 hz4 => ⟨cMin_ok w b1 b2, fun z5 hz5 =>
      ⟨cSetV_ok (by lia) (by lia) (by rw [inl_len, List.length_append, List.length_cons]; lia) (by rw [hj, Int.toNat_natCast]; exact set_at (y := (_, _))), fun z6 hz6 => ⟨cLt_ok (decide_eq_false hlt), fun z7 hz7 => ⟨rest _ _ _ _ rfl rfl, fun z8 hz8 => ?_⟩⟩⟩⟩⟩⟩⟩⟩⟩
    exact in_out rfl _ rfl rfl rfl rfl (by rw [if_neg hlt]) ⟨rfl, rfl, rfl⟩
theorem in_ok (w : World) (b1 b2 : Bool) (rs : List (Int × Nat)) : ∀ (as : List Nat) (q : Lw) (r : Lr) (j left jf lf : Int) (dn : List (Int × Nat)) (ep : Nat), as.length = rs.length → j = dn.length → left = rs.length → jf = j + rs.length → lf = 0 →
    q.a.drop dn.length = as → Ls as → Letter r.x → dn.length + rs.length ≤ 1000 → VV w b1 b2 (cIn (parOf w.params b1 b2) q r j left jf lf as dn rs ep) := by
  induction rs with
  | nil =>
    intro as q r j left jf lf dn ep hlen hj hl hjf hlf ha hL hx hz
    obtain rfl : as = [] := List.length_eq_zero_iff.mp hlen
    have e1 : jf = j := by rw [hjf]; show j + ((0 : Nat) : Int) = j; lia
    have e2 : lf = left := by rw [hlf, hl]; rfl
    rw [e1, e2]
    exact in_end w b1 b2 q r j left dn ep (by rw [hl]; exact Int.le_refl _)
  | cons p rs ih =>
    intro as q r j left jf lf dn ep hlen hj hl hjf hlf ha hL hx hz
    obtain ⟨rr, rt⟩ := p
    cases as with
    | nil => exact absurd hlen (by simp)
    | cons c as =>
      obtain ⟨hlt, hc, hd⟩ := cut_len ha
      rw [List.length_cons] at hz
      have hlen' : as.length = rs.length := by simpa using hlen
      have hl' : left = (rs.length : Int) + 1 := by rw [hl, List.length_cons]; lia
      have hjf' : jf = j + ((rs.length : Int) + 1) := by rw [hjf, List.length_cons]; lia
      have hcj : q.a[j.toNat]? = some c := by rw [hj, Int.toNat_natCast]; exact hc
      refine in_turn w b1 b2 q r j left jf lf c as dn rr rt rs ep hj (by lia) hcj hz hx (hL c (.head _)) fun q' r' R' tok e1 e2 => ?_
      exact ih as q' r' (j + 1) (left - 1) jf lf _ ep hlen' (by rw [List.length_append, hj]; simp) (by lia) (by lia) hlf (by rw [e1, List.length_append]; exact hd) (fun c hc => hL c (.tail _ hc)) (e2 ▸ hx) (by rw [List.length_append]; simp; lia)
theorem in_out0 {P : Params} {q q' : Lw} {r r' : Lr} {j left jf lf : Int} {c : Nat} {as : List Nat} {dn : List (Int × Nat)} {rr : Int} {rt : Nat} {rs : List (Int × Nat)} {ep tok : Nat} {z : Nat → Nat} {j' left' : Int} {u1 u2 u3 : Nat}
    (hq : { q with i0 := 0, i1 := 1, i2 := 2, k12 := u1, k13 := u2, k14 := u3 } = q') (R' : Int) (hR : R' = imin (imin r.R rr + 2) (r.D + subc r.x c)) (h1 : r'.R = R') (h2 : r'.D = rr) (h3 : r'.x = r.x) (h4 : r'.M = if R' < r.M then R' else r.M)
    (h5 : r'.bi = r.bi ∧ r'.tb = r.tb ∧ r'.tx = r.tx) :
    OutF (cIn0 P q r j left jf lf (c :: as) dn ((rr, rt) :: rs) ep) { res := .ok .next, exp := expOf (cIn P q' r' j' left' jf lf as (dn ++ [(R', tok)]) rs ep) z } := by
  subst hq
  obtain ⟨rR, rtR, rbi, rtb, rx, rtx, rD, rtD, rM, rtM, rix, rti, rS, rtS, rI, rtI⟩ := r
  obtain ⟨sR, stR, sbi, stb, sx, stx, sD, stD, sM, stM, six, sti, sS, stS, sI, stI⟩ := r'
  dsimp only at hR h1 h2 h3 h4 h5
  obtain ⟨h5, h6, h7⟩ := h5
  subst h1 h2 h3 h5 h6 h7
  refine outE (mkO 20 (fun i => if i = 12 then u1 else if i = 13 then u2 else if i = 14 then u3 else z i) (tok :: lsO 20 z rs.length)) fun sz tk => ⟨trivial, rfl, ?_, rfl, rfl⟩
  have e : lsO 20 (wit (mkO 20 (fun i => if i = 12 then u1 else if i = 13 then u2 else if i = 14 then u3 else z i) (tok :: lsO 20 z rs.length)) sz tk) (rs.length + 1) = tok :: lsO 20 z rs.length := by
    rw [lsO_wit _ _ _ _ (by decide), lsO_mk' (by rw [List.length_cons, lsO_len])]
  unfold cIn cIn0
  dsimp only
  rw [endR_mk]
  simp only [List.length_cons, e, List.map_cons, lvR, lvL, lvM, ← hR, ← h4, List.zip_cons_cons, List.append_assoc, List.cons_append, List.nil_append]
  rfl
theorem in0_ok (w : World) (b1 b2 : Bool) (q : Lw) (r : Lr) (j left jf lf : Int) (c : Nat) (as : List Nat) (dn : List (Int × Nat)) (rr : Int) (rt : Nat) (rs : List (Int × Nat)) (ep : Nat) (hj : j = dn.length) (hl : 0 < left) (hcj : q.a[j.toNat]? = some c) (hz : dn.length + (rs.length + 1) ≤ 1000) (hx : Letter r.x) (hc : Letter c)
    (rest : ∀ (q' : Lw) (r' : Lr) (R' : Int) (tok : Nat), q'.a = q.a → r'.x = r.x → VV w b1 b2 (cIn (parOf w.params b1 b2) q' r' (j + 1) (left - 1) jf lf as (dn ++ [(R', tok)]) rs ep)) :
    VV w b1 b2 (cIn0 (parOf w.params b1 b2) q r j left jf lf (c :: as) dn ((rr, rt) :: rs) ep) := by
  by_cases hlt : imin (imin r.R rr + 2) (r.D + subc r.x c) < r.M
  · refine codeV (fun _ => rfl) 400 (fun n tk => H_inT0 _ q r j left jf lf c as dn rr rt rs ep n tk) (fun n tk => r_inT0 _ _ _ _ _ _ _ _ _ _ _ _ _ _ _ _ _ _) fun n tk =>
      ⟨cRNext_ok hl, fun z0 hz0 => ⟨cStrAt_ok (by lia) (by lia) hcj, fun z1 hz1 => ⟨sub_ok w b1 b2 hx hc, fun z2 hz2 => ⟨cGet_ok (by lia) (by lia) (by rw [hj, Int.toNat_natCast]; exact get_at), fun z3 hz3 => ⟨cMin_ok w b1 b2, fun z4 hz4 => ⟨cMin_ok w b1 b2, fun z5 hz5 =>
      ⟨cSetV_ok (by lia) (by lia) (by rw [inl_len, List.length_append, List.length_cons]; lia) (by rw [hj, Int.toNat_natCast]; exact set_at (y := (_, _))), fun z6 hz6 => ⟨cLt_ok (decide_eq_true hlt), fun z7 hz7 => ⟨rest _ _ _ _ rfl rfl, fun z8 hz8 => ?_⟩⟩⟩⟩⟩⟩⟩⟩⟩
    exact in_out0 rfl _ rfl rfl rfl rfl (by rw [if_pos hlt]) ⟨rfl, rfl, rfl⟩
  · refine codeV (fun _ => rfl) 400 (fun n tk => H_inF0 _ q r j left jf lf c as dn rr rt rs ep n tk) (fun n tk => r_inF0 _ _ _ _ _ _ _ _ _ _ _ _ _ _ _ _ _ _) fun n tk =>
      ⟨cRNext_ok hl, fun z0 hz0 => ⟨cStrAt_ok (by lia) (by lia) hcj, fun z1 hz1 => ⟨sub_ok w b1 b2 hx hc, fun z2 hz2 => ⟨cGet_ok (by lia) (by lia) (by rw [hj, Int.toNat_natCast]; exact get_at), fun z3 hz3 => ⟨cMin_ok w b1 b2, fun z4 hz4 => ⟨cMin_ok w b1 b2, fun z5 hz5 =>
      ⟨cSetV_ok (by lia) (by lia) (by rw [inl_len, List.length_append, List.length_cons]; lia) (by rw [hj, Int.toNat_natCast]; exact set_at (y := (_, _))), fun z6 hz6 => ⟨cLt_ok (decide_eq_false hlt), fun z7 hz7 => ⟨rest _ _ _ _ rfl rfl, fun z8 hz8 => ?_⟩⟩⟩⟩⟩⟩⟩⟩⟩
    exact in_out0 rfl _ rfl rfl rfl rfl (by rw [if_neg hlt]) ⟨rfl, rfl, rfl⟩
/-! the outer loop -/
theorem lvR_len (x : Nat) : ∀ (as : List Nat) (rs : List Int) (D R : Int), as.length = rs.length → (lvR x as rs D R).length = rs.length
  | [], [], _, _, _ => rfl
  | c :: as, r :: rs, D, R, h => by
    unfold lvR
    rw [List.length_cons, List.length_cons, lvR_len x as rs _ _ (by simpa using h)]
theorem zip_fst (l : List Int) (ts : List Nat) (h : l.length = ts.length) : (l.zip ts).map (·.1) = l := by
  induction l generalizing ts with
  | nil => rfl
  | cons a l ih => cases ts with
    | nil => cases h
    | cons t ts => rw [List.zip_cons_cons, List.map_cons, ih ts (by simpa using h)]
theorem out_out {P : Params} {q q' : Lw} {fr fr' : Obj} {R0 R1 i left jf lf i' left' : Int} {x : Nat} {bs : List Nat} {row row' : List (Int × Nat)} {ep : Nat} {z : Nat → Nat} {u1 u2 u3 u4 u5 u6 u7 : Nat}
    (hq : { q with i0 := 0, i1 := 1, i2 := 2, k8 := u1, k9 := u2, k10 := u3, k11 := u4, k12 := u5, k13 := u6, k14 := u7 } = q') (hi : i' = i + 1) (h1 : R1 = lvL (lvR x q.a (row.map (·.1)) (i * 2) (i * 2)) (i * 2)) (h2 : row'.map (·.1) = lvR x q.a (row.map (·.1)) (i * 2) (i * 2)) (h3 : row'.length = row.length) :
    OutF (cOut P q fr R0 i left jf lf (x :: bs) row ep) { res := .ok .next, exp := expOf (cOut P q' fr' R1 i' left' jf lf bs row' ep) z } := by
  subst hq hi h1
  refine outE z fun sz tk => ⟨trivial, rfl, ?_, rfl, rfl⟩
  unfold cOut
  dsimp only
  simp only [lvO, lvF, h2, h3]
  rfl
theorem mulOk (i : Int) : IntMulOk i 2 := .of_right (by decide)
theorem rsz (n : Nat) : Builtin.Range.rangeSize 0 (n : Int) 1 = n := by
  unfold Builtin.Range.rangeSize
  rw [if_pos (by decide)]
  by_cases h : (0 : Int) < n
  · rw [if_pos h, Int.ediv_one]; lia
  · rw [if_neg h]; lia
noncomputable def outY (q : Lw) (r : Lr) : Nat → Nat
  | 2 => r.tR | 3 => wi r.D | 4 => r.tD | 5 => r.tM | 6 => wi r.ix | 7 => r.ti | 8 => wi r.S | 9 => r.tS | 10 => wi r.I | 11 => r.tI
  | 12 => q.k8 | 13 => q.k9 | 14 => q.k10 | 15 => q.k11 | 16 => q.k12 | 17 => q.k13 | 18 => q.k14
  | 19 => wi r.bi | 20 => r.tb | 21 => r.x | 22 => r.tx | 23 => wi r.M
  | _ => 0
theorem zip_eta (row : List (Int × Nat)) : (row.map (·.1)).zip (row.map (·.2)) = row := by
  induction row with
  | nil => rfl
  | cons p l ih => rw [List.map_cons, List.map_cons, List.zip_cons_cons, ih]
theorem out_end (w : World) (b1 b2 : Bool) (q : Lw) (r : Lr) (i left : Int) (row : List (Int × Nat)) (ep : Nat) (hl : left ≤ 0) : VV w b1 b2 (cOut (parOf w.params b1 b2) q (frI (parOf w.params b1 b2) q r) r.R i left i left [] row ep) := by
  refine codeV (fun _ => rfl) 400 (fun n tk => H_outE _ q r i left row ep n tk) (fun n tk => r_outE _ _ _ q r i left row ep n tk) fun n tk => ⟨cREnd_ok hl, fun z0 hz0 => ?_⟩
  refine outE (mkO 30 (outY q r) (row.map (·.2))) fun sz tk => ⟨trivial, rfl, ?_, rfl, rfl⟩
  have e1 : outQ (wit (mkO 30 (outY q r) (row.map (·.2))) sz tk) q = q := rfl
  have e2 : outR (wit (mkO 30 (outY q r) (row.map (·.2))) sz tk) r.R = r := by
    show (⟨r.R, r.tR, iw (wi r.bi), r.tb, r.x, r.tx, iw (wi r.D), r.tD, iw (wi r.M), r.tM, iw (wi r.ix), r.ti, iw (wi r.S), r.tS, iw (wi r.I), r.tI⟩ : Lr) = r
    simp only [iw_wi]
  have e3 : lsO 30 (wit (mkO 30 (outY q r) (row.map (·.2))) sz tk) row.length = row.map (·.2) := by
    rw [lsO_wit _ _ _ _ (by decide), lsO_mk' (by simp)]
  unfold cOut
  dsimp only
  simp only [lvO, lvF, e1, e2, e3, zip_eta]
  rfl
theorem out_turn (w : World) (b1 b2 : Bool) (q : Lw) (r : Lr) (i left jf lf : Int) (x : Nat) (bs : List Nat) (row : List (Int × Nat)) (ep : Nat) (hrow : row.length = q.a.length) (h0 : 0 ≤ i) (hi : i ≤ 1000) (hl : 0 < left) (hcb : q.b[i.toNat]? = some x) (hz : q.a.length ≤ 1000) (ha : Ls q.a) (hx : Letter x)
    (hM : lvM (lvR x q.a (row.map (·.1)) (i * 2) (i * 2)) big63 ≤ q.mx)
    (rest : ∀ (q' : Lw) (r' : Lr) (row' : List (Int × Nat)), q'.a = q.a → q'.b = q.b → q'.mx = q.mx → row'.length = row.length → row'.map (·.1) = lvR x q.a (row.map (·.1)) (i * 2) (i * 2) → VV w b1 b2 (cOut (parOf w.params b1 b2) q' (frI (parOf w.params b1 b2) q' r') r'.R (i + 1) (left - 1) jf lf bs row' ep)) :
    VV w b1 b2 (cOut (parOf w.params b1 b2) q (frI (parOf w.params b1 b2) q r) r.R i left jf lf (x :: bs) row ep) := by
  have hr' : (lvR x q.a (row.map (·.1)) (i * 2) (i * 2)).length = row.length := by rw [lvR_len _ _ _ _ _ (by rw [List.length_map, hrow]), List.length_map]
  refine codeV (fun _ => rfl) 400 (fun n tk => H_outT _ q r i left jf lf x bs row ep n tk) (fun n tk => r_outT _ _ _ q r i left jf lf x bs row ep n tk) fun n tk =>
    ⟨cRNext_ok hl, fun z0 hz0 => ⟨cStrAt_ok h0 hi hcb, fun z1 hz1 => ⟨cMul_ok (mulOk i) rfl, fun z2 hz2 => ⟨cLenS_ok rfl hz, fun z3 hz3 => ⟨cRIter_ok (rsz _) (by lia) (by lia) (by lia) (by lia), fun z4 hz4 => ⟨?_, fun z5 hz5 => ⟨cGt_ok (decide_eq_false (by lia)), fun z6 hz6 => ⟨rest _ _ _ rfl rfl rfl ?_ ?_, fun z7 hz7 => ?_⟩⟩⟩⟩⟩⟩⟩⟩
  · exact in_ok w b1 b2 row q.a _ _ 0 _ _ 0 [] ep hrow.symm rfl (by rw [hrow]) (by rw [hrow]; lia) rfl rfl ha hx (by rw [hrow]; simpa using hz)
  · rw [List.length_zip, hr', lsO_len, Nat.min_self]
  · rw [zip_fst _ _ (by rw [hr', lsO_len])]
  · exact out_out rfl rfl rfl (by rw [zip_fst _ _ (by rw [hr', lsO_len])]) (by rw [List.length_zip, hr', lsO_len, Nat.min_self])
theorem out_turn0 (w : World) (b1 b2 : Bool) (q : Lw) (r : Lr) (i left jf lf : Int) (x : Nat) (bs : List Nat) (row : List (Int × Nat)) (ep : Nat) (hrow : row.length = q.a.length) (hne : q.a ≠ []) (h0 : 0 ≤ i) (hi : i ≤ 1000) (hl : 0 < left) (hcb : q.b[i.toNat]? = some x) (hz : q.a.length ≤ 1000) (ha : Ls q.a) (hx : Letter x)
    (hM : lvM (lvR x q.a (row.map (·.1)) (i * 2) (i * 2)) big63 ≤ q.mx)
    (rest : ∀ (q' : Lw) (r' : Lr) (row' : List (Int × Nat)), q'.a = q.a → q'.b = q.b → q'.mx = q.mx → row'.length = row.length → row'.map (·.1) = lvR x q.a (row.map (·.1)) (i * 2) (i * 2) → VV w b1 b2 (cOut (parOf w.params b1 b2) q' (frI (parOf w.params b1 b2) q' r') r'.R (i + 1) (left - 1) jf lf bs row' ep)) :
    VV w b1 b2 (cOut (parOf w.params b1 b2) q (frB (parOf w.params b1 b2) q r) r.R i left jf lf (x :: bs) row ep) := by
  have hr' : (lvR x q.a (row.map (·.1)) (i * 2) (i * 2)).length = row.length := by rw [lvR_len _ _ _ _ _ (by rw [List.length_map, hrow]), List.length_map]
  refine codeV (fun _ => rfl) 400 (fun n tk => H_outT0 _ q r i left jf lf x bs row ep n tk) (fun n tk => r_outT0 _ _ _ q r i left jf lf x bs row ep n tk) fun n tk =>
    ⟨cRNext_ok hl, fun z0 hz0 => ⟨cStrAt_ok h0 hi hcb, fun z1 hz1 => ⟨cMul_ok (mulOk i) rfl, fun z2 hz2 => ⟨cLenS_ok rfl hz, fun z3 hz3 => ⟨cRIter_ok (rsz _) (by lia) (by lia) (by lia) (by lia), fun z4 hz4 => ⟨?_, fun z5 hz5 => ⟨cGt_ok (decide_eq_false (by lia)), fun z6 hz6 => ⟨rest _ _ _ rfl rfl rfl ?_ ?_, fun z7 hz7 => ?_⟩⟩⟩⟩⟩⟩⟩⟩
  · obtain ⟨L, rw', it, a, b, t, u, mx, v, p, tp, o, to, k1, k2, k3, k4, k5, k6, k7, k8, k9, k10, k11, k12, k13, k14, i0, i1, i2⟩ := q
    dsimp only at hrow hne hz ha
    cases a with
    | nil => exact absurd rfl hne
    | cons c as =>
      cases row with
      | nil => exact absurd hrow (by simp)
      | cons pr rs =>
        obtain ⟨rr, rt⟩ := pr
        have hlen : as.length = rs.length := by simpa using hrow.symm
        have hz' : as.length + 1 ≤ 1000 := by simpa using hz
        refine in0_ok w b1 b2 _ _ 0 _ _ 0 c as [] rr rt rs ep rfl (by show (0 : Int) < (((c :: as).length : Nat) : Int); rw [List.length_cons]; lia) rfl (by simp; lia) hx (ha c (.head _)) fun q' r' R' tok e1 e2 => ?_
        exact in_ok w b1 b2 rs as q' r' (0 + 1) _ _ 0 _ ep hlen rfl (by show (((c :: as).length : Nat) : Int) - 1 = _; rw [List.length_cons]; lia) (by show (((c :: as).length : Nat) : Int) = _; rw [List.length_cons]; lia) rfl (by rw [e1]; rfl) (fun d hd => ha d (.tail _ hd)) (e2 ▸ hx) (by simp; lia)
  · rw [List.length_zip, hr', lsO_len, Nat.min_self]
  · rw [zip_fst _ _ (by rw [hr', lsO_len])]
  · exact out_out rfl rfl rfl (by rw [zip_fst _ _ (by rw [hr', lsO_len])]) (by rw [List.length_zip, hr', lsO_len, Nat.min_self])
theorem lvout_ok (w : World) (b1 b2 : Bool) (bs : List Nat) : ∀ (q : Lw) (r : Lr) (i left jf lf : Int) (k : Nat) (row : List (Int × Nat)) (ep : Nat), row.length = q.a.length → i = k → q.b.drop k = bs → left = bs.length → jf = i + bs.length → lf = 0 → q.a.length ≤ 1000 → q.b.length ≤ 1000 → Ls q.a → Ls bs →
    lvK q.mx q.a bs i (row.map (·.1)) → VV w b1 b2 (cOut (parOf w.params b1 b2) q (frI (parOf w.params b1 b2) q r) r.R i left jf lf bs row ep) := by
  induction bs with
  | nil =>
    intro q r i left jf lf k row ep hrow hi hb hl hjf hlf hza hzb ha hbs hK
    have e1 : jf = i := by rw [hjf]; show i + ((0 : Nat) : Int) = i; lia
    have e2 : lf = left := by rw [hlf, hl]; rfl
    rw [e1, e2]
    exact out_end w b1 b2 q r i left row ep (by rw [hl]; exact Int.le_refl _)
  | cons x bs ih =>
    intro q r i left jf lf k row ep hrow hi hb hl hjf hlf hza hzb ha hbs hK
    obtain ⟨hlt, hc, hd⟩ := cut_len hb
    have hl' : left = (bs.length : Int) + 1 := by rw [hl, List.length_cons]; lia
    have hjf' : jf = i + ((bs.length : Int) + 1) := by rw [hjf, List.length_cons]; lia
    refine out_turn w b1 b2 q r i left jf lf x bs row ep hrow (by lia) (by lia) (by lia) (by rw [hi, Int.toNat_natCast]; exact hc) hza ha (hbs x (.head _)) hK.1 fun q' r' row' e1 e2 e3 e4 e5 => ?_
    exact ih q' r' (i + 1) (left - 1) jf lf (k + 1) row' ep (by rw [e4, hrow, e1]) (by lia) (by rw [e2]; exact hd) (by lia) (by lia) hlf (by rw [e1]; exact hza) (by rw [e2]; exact hzb) (by rw [e1]; exact ha) (fun d hd => hbs d (.tail _ hd)) (by rw [e1, e3, e5]; exact hK.2)
theorem out0_ok (w : World) (b1 b2 : Bool) (x : Nat) (bs : List Nat) (q : Lw) (r : Lr) (left jf lf : Int) (row : List (Int × Nat)) (ep : Nat) (hrow : row.length = q.a.length) (hne : q.a ≠ []) (hb : q.b = x :: bs) (hl : left = (x :: bs).length) (hjf : jf = (x :: bs).length) (hlf : lf = 0) (hza : q.a.length ≤ 1000) (hzb : q.b.length ≤ 1000) (ha : Ls q.a) (hbs : Ls (x :: bs))
    (hK : lvK q.mx q.a (x :: bs) 0 (row.map (·.1))) : VV w b1 b2 (cOut (parOf w.params b1 b2) q (frB (parOf w.params b1 b2) q r) r.R 0 left jf lf (x :: bs) row ep) := by
  have hl' : left = (bs.length : Int) + 1 := by rw [hl, List.length_cons]; lia
  have hjf' : jf = (bs.length : Int) + 1 := by rw [hjf, List.length_cons]; lia
  refine out_turn0 w b1 b2 q r 0 left jf lf x bs row ep hrow hne (by lia) (by lia) (by lia) (by rw [hb]; rfl) hza ha (hbs x (.head _)) hK.1 fun q' r' row' e1 e2 e3 e4 e5 => ?_
  exact lvout_ok w b1 b2 bs q' r' (0 + 1) (left - 1) jf lf 1 row' ep (by rw [e4, hrow, e1]) rfl (by rw [e2, hb]; rfl) (by lia) (by lia) hlf (by rw [e1]; exact hza) (by rw [e2]; exact hzb) (by rw [e1]; exact ha) (fun d hd => hbs d (.tail _ hd)) (by rw [e1, e3, e5]; exact hK.2)
theorem drop_mid (l : List Nat) (r : List Nat) : (l ++ r).drop l.length = r := by simp
theorem w1_ok (w : World) (b1 b2 : Bool) (c d : Nat) (r s : List Nat) (hcd : c ≠ d) (pre2 : List Nat) : ∀ (pre1 : List Nat) (q : Lv) (p : Int) (tp : Nat) (pf : Int), q.a = pre1 ++ (pre2 ++ c :: r) → q.b = pre1 ++ (pre2 ++ d :: s) → p = pre1.length → pf = p + pre2.length → q.a.length ≤ 1000 → q.b.length ≤ 1000 →
    VV w b1 b2 (cW1 (parOf w.params b1 b2) q p tp pf) := by
  induction pre2 with
  | nil =>
    intro pre1 q p tp pf ha hb hp hpf hza hzb
    have e : pf = p := by rw [hpf]; show p + ((0 : Nat) : Int) = p; lia
    rw [e]
    have hda : q.a.drop p.toNat = c :: r := by rw [ha, hp, Int.toNat_natCast]; exact drop_mid _ _
    have hdb : q.b.drop p.toNat = d :: s := by rw [hb, hp, Int.toNat_natCast]; exact drop_mid _ _
    obtain ⟨la, ca, _⟩ := cut_len hda
    obtain ⟨lb, cb, _⟩ := cut_len hdb
    rw [ha] at hza
    have z1 := hza
    rw [List.length_append] at z1
    refine codeV (fun _ => rfl) 400 (fun n tk => H_w1F _ q p tp c d r s n tk) (fun n tk => r_w1F _ _ _ q p tp c d r s n tk) fun n tk =>
      ⟨cStrFrom_ok (by lia) hda (by lia) (by rw [ha]; exact hza), fun z0 hz0 => ⟨cLenSB_ok (by simp) (by simp at z1 ⊢; lia), fun z1' hz1 => ⟨cStrFrom_ok (by lia) hdb (by lia) hzb, fun z2 hz2 => ⟨cLenSB_ok (by simp) (by rw [hb] at hzb; simp at hzb ⊢; lia), fun z3 hz3 => ⟨cStrAt_ok (by lia) (by lia) ca, fun z4 hz4 => ⟨cStrAt_ok (by lia) (by lia) cb, fun z5 hz5 => ⟨cStrEq_ok (by simpa using hcd), fun z6 hz6 => ?_⟩⟩⟩⟩⟩⟩⟩
    exact outE (fun _ => tp) fun sz tk => ⟨trivial, rfl, rfl, rfl, rfl⟩
  | cons x pre2 ih =>
    intro pre1 q p tp pf ha hb hp hpf hza hzb
    have hda : q.a.drop p.toNat = x :: (pre2 ++ c :: r) := by rw [ha, hp, Int.toNat_natCast]; exact drop_mid _ _
    have hdb : q.b.drop p.toNat = x :: (pre2 ++ d :: s) := by rw [hb, hp, Int.toNat_natCast]; exact drop_mid _ _
    obtain ⟨la, ca, _⟩ := cut_len hda
    obtain ⟨lb, cb, _⟩ := cut_len hdb
    have z1 := hza
    have z2 := hzb
    rw [ha, List.length_append] at z1
    rw [hb, List.length_append] at z2
    refine codeV (fun _ => rfl) 400 (fun n tk => H_w1T _ q p tp pf x x (pre2 ++ c :: r) (pre2 ++ d :: s) n tk) (fun n tk => r_w1T _ _ _ q p tp pf x x _ _ n tk) fun n tk =>
      ⟨cStrFrom_ok (by lia) hda (by lia) hza, fun z0 hz0 => ⟨cLenSB_ok (by simp) (by simp at z1 ⊢; lia), fun z1' hz1 => ⟨cStrFrom_ok (by lia) hdb (by lia) hzb, fun z2' hz2 => ⟨cLenSB_ok (by simp) (by simp at z2 ⊢; lia), fun z3 hz3 => ⟨cStrAt_ok (by lia) (by lia) ca, fun z4 hz4 => ⟨cStrAt_ok (by lia) (by lia) cb, fun z5 hz5 => ⟨cStrEq_ok (by simp), fun z6 hz6 => ⟨?_, fun z7 hz7 => ?_⟩⟩⟩⟩⟩⟩⟩⟩
    · exact ih (pre1 ++ [x]) _ (p + 1) _ pf (by rw [ha]; simp) (by rw [hb]; simp) (by rw [hp]; simp) (by rw [hpf, List.length_cons]; lia) hza hzb
    · exact outE z7 fun sz tk => ⟨trivial, rfl, rfl, rfl, rfl⟩
theorem ne_cons (A : List Nat) (e : Nat) (R : List Nat) : ∃ c r, A ++ e :: R = c :: r := by
  cases A with
  | nil => exact ⟨e, R, rfl⟩
  | cons a A => exact ⟨a, A ++ e :: R, rfl⟩
theorem len_of {l : List Nat} {c : Nat} {r : List Nat} (h : l = c :: r) : ((r.length : Int) + 1) = ((c :: r).length : Nat) := by rw [List.length_cons]; lia
theorem take_mid (l P : List Nat) (k : Nat) (h : P.length = k) : (l ++ P).take ((l ++ P).length - k) = l := by
  subst h
  rw [List.length_append, Nat.add_sub_cancel, List.take_left']
  rfl
theorem get_mid (A : List Nat) (e : Nat) (P : List Nat) (k : Nat) (h : P.length + 1 = k) : (A ++ e :: P)[(A ++ e :: P).length - k]? = some e := by
  subst h
  rw [List.length_append, List.length_cons, Nat.add_sub_cancel]
  simp
theorem w2_ok (w : World) (b1 b2 : Bool) (e f : Nat) (A B : List Nat) (hef : e ≠ f) (rv : List Nat) : ∀ (post1 : List Nat) (q : Lv) (p : Int) (tp : Nat) (o : Int) (to : Nat) (pf : Int), q.a = A ++ e :: (rv.reverse ++ post1) → q.b = B ++ f :: (rv.reverse ++ post1) → o = -((post1.length : Nat) : Int) → pf = o - rv.length → q.a.length ≤ 1000 → q.b.length ≤ 1000 →
    VV w b1 b2 (cW2 (parOf w.params b1 b2) q p tp o to pf) := by
  induction rv with
  | nil =>
    intro post1 q p tp o to pf ha hb ho hpf hza hzb
    have e1 : pf = o := by rw [hpf]; show o - ((0 : Nat) : Int) = o; lia
    rw [e1]
    rw [List.reverse_nil, List.nil_append] at ha hb
    have ga : q.a[q.a.length - (post1.length + 1)]? = some e := by rw [ha]; exact get_mid A e post1 _ rfl
    have gb : q.b[q.b.length - (post1.length + 1)]? = some f := by rw [hb]; exact get_mid B f post1 _ rfl
    have la : q.a.length = A.length + (post1.length + 1) := by rw [ha]; simp
    have lb : q.b.length = B.length + (post1.length + 1) := by rw [hb]; simp
    by_cases h0 : o = 0
    · have hp0 : post1 = [] := List.length_eq_zero_iff.mp (by lia)
      obtain ⟨c, r, hc⟩ := ne_cons A e post1
      obtain ⟨d, s, hd⟩ := ne_cons B f post1
      rw [← ha] at hc
      rw [← hb] at hd
      refine codeV (fun _ => rfl) 400 (fun n tk => H_w2F0 _ q p tp o to pf c d e f r s n tk) (fun n tk => r_w2F0 _ _ _ q p tp o to pf c d e f r s n tk) fun n tk =>
        ⟨cBool_ok (by rw [h0]; rfl), fun z0 hz0 => ⟨by rw [← hc]; exact cStrAll_ok hza, fun z1 hz1 => ⟨cLenSB_ok (len_of hc) (by rw [← hc]; exact hza), fun z2 hz2 => ⟨cBool_ok (by rw [h0]; rfl), fun z3 hz3 => ⟨by rw [← hd]; exact cStrAll_ok hzb, fun z4 hz4 => ⟨cLenSB_ok (len_of hd) (by rw [← hd]; exact hzb), fun z5 hz5 =>
        ⟨cStrAt_neg (k := post1.length + 1) (by lia) (by lia) (by lia) hza ga, fun z6 hz6 => ⟨cStrAt_neg (k := post1.length + 1) (by lia) (by lia) (by lia) hzb gb, fun z7 hz7 => ⟨cStrEq_ok (by simpa using hef), fun z8 hz8 => ?_⟩⟩⟩⟩⟩⟩⟩⟩⟩
      exact outE (fun _ => to) fun sz tk => ⟨trivial, rfl, rfl, rfl, rfl⟩
    · obtain ⟨c, r, hc⟩ := ne_cons A e []
      obtain ⟨d, s, hd⟩ := ne_cons B f []
      have ta : q.a.take (q.a.length - post1.length) = c :: r := by
        rw [ha, show A ++ e :: post1 = (A ++ [e]) ++ post1 by simp, take_mid _ _ _ rfl]; exact hc
      have tb : q.b.take (q.b.length - post1.length) = d :: s := by
        rw [hb, show B ++ f :: post1 = (B ++ [f]) ++ post1 by simp, take_mid _ _ _ rfl]; exact hd
      have lc : (c :: r).length ≤ 1000 := by rw [← hc]; simp; lia
      have ld : (d :: s).length ≤ 1000 := by rw [← hd]; simp; lia
      refine codeV (fun _ => rfl) 400 (fun n tk => H_w2F _ q p tp o to pf c d e f r s n tk) (fun n tk => r_w2F _ _ _ q p tp o to pf c d e f r s n tk) fun n tk =>
        ⟨cBool_ok (by simpa using h0), fun z0 hz0 => ⟨cStrTo_ok ho (by lia) (by lia) ta hza, fun z1 hz1 => ⟨cLenSB_ok (len_of hc) lc, fun z2 hz2 => ⟨cBool_ok (by simpa using h0), fun z3 hz3 => ⟨cStrTo_ok ho (by lia) (by lia) tb hzb, fun z4 hz4 => ⟨cLenSB_ok (len_of hd) ld, fun z5 hz5 =>
        ⟨cStrAt_neg (k := post1.length + 1) (by lia) (by lia) (by lia) hza ga, fun z6 hz6 => ⟨cStrAt_neg (k := post1.length + 1) (by lia) (by lia) (by lia) hzb gb, fun z7 hz7 => ⟨cStrEq_ok (by simpa using hef), fun z8 hz8 => ?_⟩⟩⟩⟩⟩⟩⟩⟩⟩
      exact outE (fun _ => to) fun sz tk => ⟨trivial, rfl, rfl, rfl, rfl⟩
  | cons x rv ih =>
    intro post1 q p tp o to pf ha hb ho hpf hza hzb
    rw [List.reverse_cons, List.append_assoc] at ha hb
    have ha' : q.a = (A ++ e :: rv.reverse) ++ x :: post1 := by rw [ha]; simp
    have hb' : q.b = (B ++ f :: rv.reverse) ++ x :: post1 := by rw [hb]; simp
    have ga : q.a[q.a.length - (post1.length + 1)]? = some x := by rw [ha']; exact get_mid _ x post1 _ rfl
    have gb : q.b[q.b.length - (post1.length + 1)]? = some x := by rw [hb']; exact get_mid _ x post1 _ rfl
    have la : q.a.length = A.length + (rv.length + 1) + (post1.length + 1) := by rw [ha']; simp; lia
    have lb : q.b.length = B.length + (rv.length + 1) + (post1.length + 1) := by rw [hb']; simp; lia
    have rest : ∀ tok, VV w b1 b2 (cW2 (parOf w.params b1 b2) { q with i0 := 0 } p tp (o - 1) tok pf) := fun tok =>
      ih (x :: post1) { q with i0 := 0 } p tp (o - 1) tok pf (by rw [ha]; rfl) (by rw [hb]; rfl) (by rw [List.length_cons]; lia) (by rw [hpf, List.length_cons]; lia) hza hzb
    by_cases h0 : o = 0
    · obtain ⟨c, r, hc⟩ := ne_cons (A ++ e :: rv.reverse) x post1
      obtain ⟨d, s, hd⟩ := ne_cons (B ++ f :: rv.reverse) x post1
      rw [← ha'] at hc
      rw [← hb'] at hd
      refine codeV (fun _ => rfl) 400 (fun n tk => H_w2T0 _ q p tp o to pf c d x x r s n tk) (fun n tk => r_w2T0 _ _ _ q p tp o to pf c d x x r s n tk) fun n tk =>
        ⟨cBool_ok (by rw [h0]; rfl), fun z0 hz0 => ⟨by rw [← hc]; exact cStrAll_ok hza, fun z1 hz1 => ⟨cLenSB_ok (len_of hc) (by rw [← hc]; exact hza), fun z2 hz2 => ⟨cBool_ok (by rw [h0]; rfl), fun z3 hz3 => ⟨by rw [← hd]; exact cStrAll_ok hzb, fun z4 hz4 => ⟨cLenSB_ok (len_of hd) (by rw [← hd]; exact hzb), fun z5 hz5 =>
        ⟨cStrAt_neg (k := post1.length + 1) (by lia) (by lia) (by lia) hza ga, fun z6 hz6 => ⟨cStrAt_neg (k := post1.length + 1) (by lia) (by lia) (by lia) hzb gb, fun z7 hz7 => ⟨cStrEq_ok (by simp), fun z8 hz8 => ⟨rest _, fun z9 hz9 => ?_⟩⟩⟩⟩⟩⟩⟩⟩⟩⟩
      exact outE z9 fun sz tk => ⟨trivial, rfl, rfl, rfl, rfl⟩
    · obtain ⟨c, r, hc⟩ := ne_cons (A ++ e :: rv.reverse) x []
      obtain ⟨d, s, hd⟩ := ne_cons (B ++ f :: rv.reverse) x []
      have ta : q.a.take (q.a.length - post1.length) = c :: r := by
        rw [ha', show (A ++ e :: rv.reverse) ++ x :: post1 = ((A ++ e :: rv.reverse) ++ [x]) ++ post1 by simp, take_mid _ _ _ rfl]; exact hc
      have tb : q.b.take (q.b.length - post1.length) = d :: s := by
        rw [hb', show (B ++ f :: rv.reverse) ++ x :: post1 = ((B ++ f :: rv.reverse) ++ [x]) ++ post1 by simp, take_mid _ _ _ rfl]; exact hd
      have lc : (c :: r).length ≤ 1000 := by rw [← hc]; simp; lia
      have ld : (d :: s).length ≤ 1000 := by rw [← hd]; simp; lia
      refine codeV (fun _ => rfl) 400 (fun n tk => H_w2T _ q p tp o to pf c d x x r s n tk) (fun n tk => r_w2T _ _ _ q p tp o to pf c d x x r s n tk) fun n tk =>
        ⟨cBool_ok (by simpa using h0), fun z0 hz0 => ⟨cStrTo_ok ho (by lia) (by lia) ta hza, fun z1 hz1 => ⟨cLenSB_ok (len_of hc) lc, fun z2 hz2 => ⟨cBool_ok (by simpa using h0), fun z3 hz3 => ⟨cStrTo_ok ho (by lia) (by lia) tb hzb, fun z4 hz4 => ⟨cLenSB_ok (len_of hd) ld, fun z5 hz5 =>
        ⟨cStrAt_neg (k := post1.length + 1) (by lia) (by lia) (by lia) hza ga, fun z6 hz6 => ⟨cStrAt_neg (k := post1.length + 1) (by lia) (by lia) (by lia) hzb gb, fun z7 hz7 => ⟨cStrEq_ok (by simp), fun z8 hz8 => ⟨rest _, fun z9 hz9 => ?_⟩⟩⟩⟩⟩⟩⟩⟩⟩⟩
      exact outE z9 fun sz tk => ⟨trivial, rfl, rfl, rfl, rfl⟩
theorem fn115 (P : Params) : FnAt (kt P) 115 fd115 (dBody (stm 11)) := ⟨⟨fnO fd115, by kernel_rfl!, rfl⟩, by kernel_rfl!, by kernel_rfl!, by kernel_rfl!, ⟨114, o114, _, 331, by kernel_rfl!, by kernel_rfl!, rfl, by kernel_rfl!⟩, by kernel_rfl!⟩
theorem lev_same (w : World) (b1 b2 : Bool) {a : List Nat} {t u : Nat} {mx : Int} {v : Nat} : VV w b1 b2 (cLev ⟨⟨a⟩⟩ ⟨⟨a⟩⟩ t u mx v 0) := by
  refine fnV (fn115 _) rfl (show 1 ≤ 4 by decide) (fun _ => rfl) 400 (fun n tk => H_lev0 _ a a t u mx v n tk) (fun n tk => r_lev0 _ _ _ a a t u mx v n tk) fun n tk => ⟨cStrEq_ok (by simp), fun z0 hz0 => ?_⟩
  exact outE (fun _ => _) fun sz tk => ⟨trivial, rfl, rfl, rfl, rfl⟩
theorem rgL_len (a c : Int) (n : Nat) : (rgL a c n).length = n := by simp [rgL]
theorem rsz2 (n : Nat) : Builtin.Range.rangeSize 2 (2 * ((n : Int) + 1)) 2 = n := by
  unfold Builtin.Range.rangeSize
  rw [if_pos (by decide)]
  by_cases h : (2 : Int) < 2 * ((n : Int) + 1)
  · rw [if_pos h, show 2 * ((n : Int) + 1) - 2 - 1 = 2 * (n : Int) - 1 by lia]; lia
  · rw [if_neg h]; lia
theorem small2 (n : Nat) (h : n ≤ 1000) : Builtin.Range.small 2 (2 * ((n : Int) + 1)) 2 = true := by
  have fits : ∀ i : Int, -3000000 ≤ i → i ≤ 3000000 → Builtin.Range.rangeFitsLong i = true := fun i q1 q2 => by
    unfold Builtin.Range.rangeFitsLong
    simp; lia
  unfold Builtin.Range.small
  rw [rsz2, fits 2 (by lia) (by lia), fits _ (by lia) (by lia), fits (n : Int) (by lia) (by lia), if_pos (by decide), fits _ (by lia) (by lia)]
  simp
noncomputable def levV (a b : List Nat) : Int := lvO a b 0 (rgL 2 2 a.length) 0
/-- _levenshtein_distance of two texts of one length that are not the same: what the loops reckon of the parts between the common ends -/
theorem lev_ok (w : World) (b1 b2 : Bool) {pre post A B : List Nat} {c d e f : Nat} {r s r' s' : List Nat} {t u : Nat} {mx : Int} {v : Nat} (hcd : c ≠ d) (hA : c :: r = A ++ e :: post) (hB : d :: s = B ++ f :: post) (hef : e ≠ f) (hl : A.length = B.length)
    {e1 f1 : Nat} (hr' : e1 :: r' = A ++ [e]) (hs' : f1 :: s' = B ++ [f]) (hza : (pre ++ c :: r).length ≤ 30) (hLa : Ls (e1 :: r')) (hLb : Ls (f1 :: s')) (hm : 0 ≤ mx) (hK : lvK mx (e1 :: r') (f1 :: s') 0 (rgL 2 2 (e1 :: r').length)) :
    VV w b1 b2 (cLev ⟨⟨pre ++ c :: r⟩⟩ ⟨⟨pre ++ d :: s⟩⟩ t u mx v (levV (e1 :: r') (f1 :: s'))) := by
  have lA := congrArg List.length hA
  have lB := congrArg List.length hB
  have l1 := congrArg List.length hr'
  have l2 := congrArg List.length hs'
  simp only [List.length_cons, List.length_append, List.length_nil] at lA lB l1 l2 hza
  have hne : pre ++ c :: r ≠ pre ++ d :: s := fun q => by
    have := List.append_cancel_left q
    injection this with q1 q2
    exact hcd q1
  have eq0 : ((⟨⟨pre ++ c :: r⟩⟩ : PySem.Str).cps.toList == (⟨⟨pre ++ d :: s⟩⟩ : PySem.Str).cps.toList) = false := by
    show ((pre ++ c :: r) == (pre ++ d :: s)) = false
    rw [beq_eq_false_iff_ne]; exact hne
  have W1 : ∀ q : Lv, ∀ tok, q.a = pre ++ c :: r → q.b = pre ++ d :: s → VV w b1 b2 (cW1 (parOf w.params b1 b2) q 0 tok (pre.length : Nat)) := fun q tok qa qb =>
    w1_ok w b1 b2 c d r s hcd pre [] q 0 tok _ qa qb rfl (by lia) (by rw [qa]; simp; lia) (by rw [qb]; simp; lia)
  have W2 : ∀ q : Lv, ∀ p tp tok, q.a = c :: r → q.b = d :: s → VV w b1 b2 (cW2 (parOf w.params b1 b2) q p tp 0 tok (-((post.length : Nat) : Int))) := fun q p tp tok qa qb =>
    w2_ok w b1 b2 e f A B hef post.reverse [] q p tp 0 tok _ (by rw [qa, hA]; simp) (by rw [qb, hB]; simp) rfl (by rw [List.length_reverse]; lia) (by rw [qa]; simp; lia) (by rw [qb]; simp; lia)
  have Z : ∀ z : Nat → Nat, ((rgL 2 2 (e1 :: r').length).zip (lsO 8 z (e1 :: r').length)).map (·.1) = rgL 2 2 (e1 :: r').length := fun z => zip_fst _ _ (by rw [rgL_len, lsO_len])
  have WO : ∀ (q : Lw) (tok : Nat) (z : Nat → Nat) ep, q.a = e1 :: r' → q.b = f1 :: s' → q.mx = mx → VV w b1 b2 (cOut (parOf w.params b1 b2) q (frB (parOf w.params b1 b2) q ⟨0, tok, 0, 0, 0, 0, 0, 0, 0, 0, 0, 0, 0, 0, 0, 0⟩) 0 0 (((f1 :: s').length : Nat) : Int) (((f1 :: s').length : Nat) : Int) 0 (f1 :: s') ((rgL 2 2 (e1 :: r').length).zip (lsO 8 z (e1 :: r').length)) ep) := fun q tok z ep qa qb qm =>
    out0_ok w b1 b2 f1 s' q _ _ _ 0 _ ep (by rw [List.length_zip, rgL_len, lsO_len, Nat.min_self, qa]) (by rw [qa]; simp) qb rfl rfl rfl (by rw [qa]; simp; lia) (by rw [qb]; simp; lia) (by rw [qa]; exact hLa) hLb (by rw [Z, qa, qm]; exact hK)
  have fin : ∀ (n tok : Nat) (z : Nat → Nat), OutF (cLev ⟨⟨pre ++ c :: r⟩⟩ ⟨⟨pre ++ d :: s⟩⟩ t u mx v (levV (e1 :: r') (f1 :: s'))) { res := .ok (.ret (.int (lvO (e1 :: r') (f1 :: s') 0 (((rgL 2 2 (e1 :: r').length).zip (lsO 8 z (e1 :: r').length)).map (·.1)) 0) tok)), exp := [] } := fun n tok z => by
    refine outE (fun _ => tok) fun sz tk => ⟨trivial, ?_, rfl, rfl, rfl⟩
    rw [Z]; rfl
  have len40 : ∀ n : Nat, n ≤ 40 → decide ((n : Int) > 40) = false := fun n h => decide_eq_false (by lia)
  have T1 : (c :: r).take ((c :: r).length - post.length) = e1 :: r' := by rw [hr', hA, show A ++ e :: post = (A ++ [e]) ++ post by simp, take_mid _ _ _ rfl]
  have T2 : (d :: s).take ((d :: s).length - post.length) = f1 :: s' := by rw [hs', hB, show B ++ f :: post = (B ++ [f]) ++ post by simp, take_mid _ _ _ rfl]
  have D1 : (pre ++ c :: r).drop (((pre.length : Nat) : Int)).toNat = c :: r := by rw [Int.toNat_natCast]; exact drop_mid _ _
  have D2 : (pre ++ d :: s).drop (((pre.length : Nat) : Int)).toNat = d :: s := by rw [Int.toNat_natCast]; exact drop_mid _ _
  by_cases hk : post.length = 0
  · have hp : post = [] := List.length_eq_zero_iff.mp hk
    have E1 : c :: r = e1 :: r' := by rw [hr', hA, hp]
    have E2 : d :: s = f1 :: s' := by rw [hs', hB, hp]
    refine fnV (fn115 _) rfl (show 1 ≤ 4 by decide) (fun _ => rfl) 900 (fun n tk => H_levB _ (pre ++ c :: r) (pre ++ d :: s) t u mx v (pre.length : Nat) post.length c d e1 f1 r r' s s' 0 n tk)
      (fun n tk => r_levB _ _ _ (pre ++ c :: r) (pre ++ d :: s) t u mx v (pre.length : Nat) post.length c d e1 f1 r r' s s' 0 n tk) fun n tk =>
      ⟨cStrEq_ok eq0, fun z0 hz0 => ⟨W1 _ _ rfl rfl, fun z1 hz1 => ⟨cStrFrom_ok (by lia) D1 (by simp; lia) (by simp; lia), fun z2 hz2 => ⟨cStrFrom_ok (by lia) D2 (by simp; lia) (by simp; lia), fun z3 hz3 => ⟨W2 _ _ _ _ rfl rfl, fun z4 hz4 => ⟨cBool_ok (by rw [hk]; rfl), fun z5 hz5 =>
      ⟨by rw [E1]; exact cStrAll_ok (by simp; lia), fun z6 hz6 => ⟨cBool_ok (by rw [hk]; rfl), fun z7 hz7 => ⟨by rw [E2]; exact cStrAll_ok (by simp; lia), fun z8 hz8 => ⟨cLenSB_ok (by simp) (by simp; lia), fun z9 hz9 => ⟨cLenSB_ok (by simp) (by simp; lia), fun z10 hz10 => ⟨cLenS_ok rfl (by simp; lia), fun z11 hz11 => ⟨cGt_ok (len40 _ (by simp; lia)), fun z12 hz12 => ⟨cLenS_ok rfl (by simp; lia), fun z13 hz13 => ⟨cGt_ok (len40 _ (by simp; lia)), fun z14 hz14 =>
      ⟨cLenS_ok rfl (by simp; lia), fun z15 hz15 => ⟨cLenS_ok rfl (by simp; lia), fun z16 hz16 => ⟨cLt_ok (decide_eq_false (by simp; lia)), fun z17 hz17 => ⟨cLenS_ok rfl (by simp; lia), fun z18 hz18 => ⟨cLenS_ok rfl (by simp; lia), fun z19 hz19 => ⟨cMul_ok (mulOk _) (by simp; lia), fun z20 hz20 => ⟨cGt_ok (decide_eq_false (by lia)), fun z21 hz21 => ⟨cLenS_ok rfl (by simp; lia), fun z22 hz22 => ⟨cMul_ok (.of_left (by decide)) rfl, fun z23 hz23 => ⟨cListNew_ok, fun z24 hz24 =>
      ⟨cListInitR_ok (rsz2 _) (small2 _ (by simp; lia)) (by simp; lia), fun z25 hz25 => ⟨cLenS_ok rfl (by simp; lia), fun z26 hz26 => ⟨cRIter_ok (rsz _) (by lia) (by simp; lia) (by lia) (by simp; lia), fun z27 hz27 => ⟨WO _ _ _ _ rfl rfl rfl, fun z28 hz28 => fin n _ _⟩⟩⟩⟩⟩⟩⟩⟩⟩⟩⟩⟩⟩⟩⟩⟩⟩⟩⟩⟩⟩⟩⟩⟩⟩⟩⟩⟩⟩
  · refine fnV (fn115 _) rfl (show 1 ≤ 4 by decide) (fun _ => rfl) 900 (fun n tk => H_levA _ (pre ++ c :: r) (pre ++ d :: s) t u mx v (pre.length : Nat) post.length c d e1 f1 r r' s s' 0 n tk)
      (fun n tk => r_levA _ _ _ (pre ++ c :: r) (pre ++ d :: s) t u mx v (pre.length : Nat) post.length c d e1 f1 r r' s s' 0 n tk) fun n tk =>
      ⟨cStrEq_ok eq0, fun z0 hz0 => ⟨W1 _ _ rfl rfl, fun z1 hz1 => ⟨cStrFrom_ok (by lia) D1 (by simp; lia) (by simp; lia), fun z2 hz2 => ⟨cStrFrom_ok (by lia) D2 (by simp; lia) (by simp; lia), fun z3 hz3 => ⟨W2 _ _ _ _ rfl rfl, fun z4 hz4 => ⟨cBool_ok (by rw [bne_iff_ne]; lia), fun z5 hz5 =>
      ⟨cStrTo_ok rfl (by lia) (by simp; lia) T1 (by simp; lia), fun z6 hz6 => ⟨cBool_ok (by rw [bne_iff_ne]; lia), fun z7 hz7 => ⟨cStrTo_ok rfl (by lia) (by simp; lia) T2 (by simp; lia), fun z8 hz8 => ⟨cLenSB_ok (by simp) (by simp; lia), fun z9 hz9 => ⟨cLenSB_ok (by simp) (by simp; lia), fun z10 hz10 => ⟨cLenS_ok rfl (by simp; lia), fun z11 hz11 => ⟨cGt_ok (len40 _ (by simp; lia)), fun z12 hz12 => ⟨cLenS_ok rfl (by simp; lia), fun z13 hz13 => ⟨cGt_ok (len40 _ (by simp; lia)), fun z14 hz14 =>
      ⟨cLenS_ok rfl (by simp; lia), fun z15 hz15 => ⟨cLenS_ok rfl (by simp; lia), fun z16 hz16 => ⟨cLt_ok (decide_eq_false (by simp; lia)), fun z17 hz17 => ⟨cLenS_ok rfl (by simp; lia), fun z18 hz18 => ⟨cLenS_ok rfl (by simp; lia), fun z19 hz19 => ⟨cMul_ok (mulOk _) (by simp; lia), fun z20 hz20 => ⟨cGt_ok (decide_eq_false (by lia)), fun z21 hz21 => ⟨cLenS_ok rfl (by simp; lia), fun z22 hz22 => ⟨cMul_ok (.of_left (by decide)) rfl, fun z23 hz23 => ⟨cListNew_ok, fun z24 hz24 =>
      ⟨cListInitR_ok (rsz2 _) (small2 _ (by simp; lia)) (by simp; lia), fun z25 hz25 => ⟨cLenS_ok rfl (by simp; lia), fun z26 hz26 => ⟨cRIter_ok (rsz _) (by lia) (by simp; lia) (by lia) (by simp; lia), fun z27 hz27 => ⟨WO _ _ _ _ rfl rfl rfl, fun z28 hz28 => fin n _ _⟩⟩⟩⟩⟩⟩⟩⟩⟩⟩⟩⟩⟩⟩⟩⟩⟩⟩⟩⟩⟩⟩⟩⟩⟩⟩⟩⟩⟩
def tokS (l : List Value) (i : Nat) : Nat := match l[i]? with
  | some (.str _ t) => t
  | _ => 0
noncomputable def cLawT (h : Nat) (a : Addr) (sl : List (Int × Nat)) (ep : Nat) : Ctr :=
  { code := .call (.ref 165) ⟨[.ref a], []⟩, room := 12, reads := [(h, (a, liO (inl sl) ep))], res := fun y => .ok (.ret (.bool true)) }
/-! what stands round a comparison of lists -/
noncomputable def rcP (op : CmpOp) (a b : Value) : {R : Sem Value // Fast.tw9423741818375054981 op a b = Fast.tw17359229931016689406 [a, b] (@bind Sem (@Monad.toBind Sem Fast.tw12456147031677567982) _ _ (Fast.tw13383273872528276517 SL.s11780134324901847377x10 [a, b]) (fun _ => R))} := ⟨_, rfl⟩
noncomputable def bd165 : List Stmt := dBody (stm 20)
noncomputable def dropS : List Stmt → Nat → List Stmt
  | [], _ => []
  | s :: l, n => match n with
    | 0 => s :: l
    | n + 1 => dropS l n
noncomputable def ifB : Stmt → List Stmt
  | .If _ b _ _ => b
  | _ => []
noncomputable def phiNe (env : Env) (thn rest : List Stmt) (a b : Value) (m : Sem Unit) : Sem PySem.Fin :=
  R.bindR (R.onRaiseR (R.bindR (R.bindR (R.bindR (R.bindR (Fast.tw17359229931016689406 [a, b] (Fast.tw17359229931016689406 [a,b] (R.bindR m fun _ => (rcP .NotEq a b).1)))
    (fun r => R.bindR (Fast.tw16427652380498605876 [a, b] [r]) fun _ => .pure r))
    (fun c => Fast.tw17359229931016689406 [c] (Fast.tw15245631507167962100 c)))
    (fun t => if t = true then Fast.tw12563942051412417395 thn env else Fast.tw12563942051412417395 [] env))
    (fun fl => match fl with | .next => Fast.tw12563942051412417395 rest env | f => .pure f)) (Fast.tw9442747609961115081 env))
    (fun fl => match fl with | .ret v => Fast.tw6905046200447255374 v | _ => Fast.tw6905046200447255374 .none)
noncomputable def env165 (n : Nat) : Env := envA fd165 165 n [(⟨⟨[108, 101, 97, 115, 116]⟩⟩, n + 9), (⟨⟨[99, 111, 108, 117, 109, 110, 115]⟩⟩, n + 8), (⟨⟨[114, 111, 119, 115]⟩⟩, n + 7), (⟨⟨[119, 104, 105, 116, 101, 115]⟩⟩, n + 6), (⟨⟨[110, 97, 109, 101, 115]⟩⟩, n + 5), (⟨⟨[108, 101, 97, 100, 115]⟩⟩, n + 4), (⟨⟨[116, 111, 116, 97, 108, 115]⟩⟩, n + 3), (⟨⟨[116, 111, 108, 100]⟩⟩, n + 2), (⟨⟨[115, 99, 114, 105, 112, 116]⟩⟩, n + 1)]
/-! two lists of texts compared -/
noncomputable def SameS : List Value → List Value → Prop
  | [], [] => True
  | .str x _ :: l, .str y _ :: m => x = y ∧ SameS l m
  | _, _ => False
theorem same_len : ∀ {l m : List Value}, SameS l m → l.length = m.length
  | [], [], _ => rfl
  | .str x _ :: l, .str y _ :: m, h => congrArg (· + 1) (same_len h.2)
theorem same_at : ∀ {l m : List Value}, SameS l m → ∀ j (h1 : j < l.length) (h2 : j < m.length), ∃ x t u, l[j] = .str x t ∧ m[j] = .str x u
  | .str x t :: l, .str y u :: m, h, 0, _, _ => ⟨x, t, u, rfl, by rw [h.1]; rfl⟩
  | .str x t :: l, .str y u :: m, h, j + 1, h1, h2 => same_at h.2 j (Nat.lt_of_succ_lt_succ h1) (Nat.lt_of_succ_lt_succ h2)
section
variable {prog : Program} {w : World} {kt : KT}
noncomputable def cLNe (h1 h2 : Nat) (a b : Addr) (l : List Value) (e : Nat) (m : List Value) (f : Nat) (v : Bool) : Ctr :=
  { code := .call (.builtin "list.__ne__") ⟨[.ref a, .ref b], []⟩, reads := [(h1, (a, liO l e)), (h2, (b, liO m f))], res := fun _ => .ok (.ret (.bool v)) }
theorem cLNe_ok {h1 h2 : Nat} {a b : Addr} {l : List Value} {e : Nat} {m : List Value} {f : Nat} (h : SameS l m) : (cLNe h1 h2 a b l e m f false).Valid prog w kt := by
  intro A R s _ _ _ hrd _ _ K
  have ho := (hrd _ (.head _)).1
  have ho2 := (hrd _ (.tail _ (.head _))).1
  refine codeAny_call_builtin F.slot_list_ne.plain F.entry_list_ne (F.slot_list_ne.check _ _ _ _ _ _ _ _ (typ_of ho rfl) (F.args_list_ne_2 _ _)
    (PySem.SeqAt.list_neAt a b ⟨l⟩ ⟨m⟩ e f none none #[] #[] (same_len h) (fun _ => true) prog w _ R s ⟨ho, ho2, fun j h1 h2 => ?_, ?_⟩))
  · obtain ⟨x, t, u, q1, q2⟩ := same_at h j h1 h2
    have z := PySem.SeqAt.EqAt.str_str (A := A.in1) (s := s) x t x u
    rw [beq_self_eq_true] at z
    show PySem.SeqAt.EqAt _ _ (l[j]) (m[j]) _
    rw [q1, q2]
    exact z
  · have e0 : (!(List.range (⟨l⟩ : Array Value).size).all fun _ => true) = false := by simp
    rw [e0]
    exact K (wit (fun _ => 0) s.heap.objs.size s.toks) s.heap trivial (after_same _) rfl
end
/-! the marks and the columns as the law's walk holds them -/
noncomputable def mkF (D : Rd) (z : Nat → Nat) (n : Nat) : Nat → Mk := fun i => D.mark (min i (n - 1)) (z (8 * 14 + min i (n - 1) + 16)) (sub (min i (n - 1)) z)
noncomputable def colF (zs : Nat → Nat → Nat) (K : Nat → Nat → Int) (n : Nat) : Nat → Col := fun i => { a := zs (min i (n - 1)) 2, v1 := K (min i (n - 1)) 1, v2 := K (min i (n - 1)) 2, v3 := K (min i (n - 1)) 3, t1 := zs (min i (n - 1)) 3, t2 := zs (min i (n - 1)) 4, t3 := zs (min i (n - 1)) 5, ep := 3 }
noncomputable def selZ : List (Nat → Nat) → Nat → Nat → Nat
  | [], _ => fun _ => 0
  | z :: l, i => match i with
    | 0 => z
    | i + 1 => selZ l i
noncomputable def phiNm (n x y : Nat) : Sem Unit → Sem PySem.Fin := phiNe (env165 n) (ifB (atS bd165 6)) (dropS bd165 7) (.ref x) (.ref y)
noncomputable def phiWd (n x y : Nat) : Sem Unit → Sem PySem.Fin := phiNe (env165 n) (ifB (atS bd165 10)) (dropS bd165 11) (.ref x) (.ref y)
noncomputable def H_sd1 (P : Params) (x : List Nat) (t : Nat) (s : List Nat) (n tk : Nat) : HT := .go [1,0,1,1] (.cut (cStrip ⟨⟨x⟩⟩ t ⟨⟨s⟩⟩) fun z0 => .go [1] (.cut (cSplit s [10] (z0 2) (z0 1) [s]) fun z1 => .go [1,0,0,0,1,1] (.cut (cLenL 3 (z1 2) ([Value.str { cps := { toList := s } } (z1 (0 + 8))]) 0 ([s].length : Nat)) fun z2 => .go [1] (.cut (cEq (↑[s].length : Int) 1 (z2 2) (z2 1) true) fun z3 => .go [1,3,3,3,0,3,3] (.nil { res := .ok (.ret (Value.ref (z3 0))), exp := [(5, (z3 0, tuO [.str ⟨⟨s⟩⟩ (z1 8), .str ⟨⟨[]⟩⟩ (z3 1 + 1)] 0))] })))))
theorem r_sd1 (P : Params) (b1 b2 : Bool) (x : List Nat) (t : Nat) (s : List Nat) (n tk : Nat) : (RunF (parOf P b1 b2) (cSd x t s []) 94 fd94 [.str ⟨⟨x⟩⟩ t] 400 (H_sd1 (parOf P b1 b2) x t s n tk) n tk).Ok := by
  cases b1 <;> (show OT.l _ = OT.r _; kernel_rfl)
noncomputable def H_sd2k3 (l m r : List Nat) (L : List (List Nat)) (z1 z8 : Nat → Nat) : HT := .go [1,3,3,3,1] (.cut (cSlice 3 5 (z1 2) (z8 0) (strV (l :: m :: L) (lsO 8 z1 (l :: m :: L).length)) 0 (Value.int 2 (z8 1 + 1)) Value.none Value.none (strV L (lsO 10 z1 L.length))) fun z9 => .go [1] (.cut (cJoin 7 [10] (z8 1) (z9 2) L (lsO 10 z1 L.length) 0 r) fun z10 => .go [] (.nil { res := .ok (.ret (Value.ref (z10 0))), exp := [(9, (z10 0, tuO [.str ⟨⟨l⟩⟩ (z1 8), .str ⟨⟨r⟩⟩ (z10 2)] 0))] })))
noncomputable def H_sd2k2 (l m r : List Nat) (L : List (List Nat)) (z1 z5 : Nat → Nat) : HT := .go [1,3,3,3,1] (.cut (cGet 3 (z1 2) (strV (l :: m :: L) (lsO 8 z1 (l :: m :: L).length)) 0 1 (z5 1) (.str ⟨⟨m⟩⟩ (z1 9))) fun z6 => .go [1] (.cut (cRstrip ⟨⟨m⟩⟩ (z1 9) ⟨⟨[]⟩⟩) fun z7 => .go [0,0,1,3,3,3,1] (.cut (cGet 3 (z1 2) (strV (l :: m :: L) (lsO 8 z1 (l :: m :: L).length)) 0 0 (z7 1 + 2) (.str ⟨⟨l⟩⟩ (z1 8))) fun z8 => (H_sd2k3 l m r L z1 z8))))
noncomputable def H_sd2k1 (l m r : List Nat) (L : List (List Nat)) (z1 z2 : Nat → Nat) : HT := .go [1] (.cut (cEq (↑(l :: m :: L).length : Int) 1 (z2 2) (z2 1) false) fun z3 => .go [0,0,1,1] (.cut (cLenL 3 (z1 2) (strV (l :: m :: L) (lsO 8 z1 (l :: m :: L).length)) 0 ((l :: m :: L).length : Nat)) fun z4 => .go [1] (.cut (cGe (↑(l :: m :: L).length : Int) 2 (z4 2) (z4 1) true) fun z5 => (H_sd2k2 l m r L z1 z5))))
noncomputable def H_sd2 (P : Params) (x : List Nat) (t : Nat) (s l m r : List Nat) (L : List (List Nat)) (n tk : Nat) : HT := .go [1,0,1,1] (.cut (cStrip ⟨⟨x⟩⟩ t ⟨⟨s⟩⟩) fun z0 => .go [1] (.cut (cSplit s [10] (z0 2) (z0 1) (l :: m :: L)) fun z1 => .go [1,0,0,0,1,1] (.cut (cLenL 3 (z1 2) (strV (l :: m :: L) (lsO 8 z1 (l :: m :: L).length)) 0 ((l :: m :: L).length : Nat)) fun z2 => (H_sd2k1 l m r L z1 z2))))
theorem r_sd2 (P : Params) (b1 b2 : Bool) (x : List Nat) (t : Nat) (s l m r : List Nat) (L : List (List Nat)) (n tk : Nat) : (RunF (parOf P b1 b2) (cSd x t l r) 94 fd94 [.str ⟨⟨x⟩⟩ t] 400 (H_sd2 (parOf P b1 b2) x t s l m r L n tk) n tk).Ok := by
  cases b1 <;> (show OT.l _ = OT.r _; kernel_rfl)
theorem fn94 (P : Params) : FnAt (kt P) 94 fd94 (dBody (stm 4)) := ⟨⟨fnO fd94, by kernel_rfl!, rfl⟩, by kernel_rfl!, by kernel_rfl!, by kernel_rfl!, ⟨93, o93, _, 299, by kernel_rfl!, by kernel_rfl!, rfl, by kernel_rfl!⟩, by kernel_rfl!⟩
theorem lsO_succ (o : Nat) (y : Nat → Nat) (k : Nat) : lsO o y (k + 1) = y o :: lsO (o + 1) y k := by
  unfold lsO
  rw [List.range_succ_eq_map, List.map_cons, List.map_map, Nat.zero_add]
  congr 1
  apply List.map_congr_left
  intro i _
  show y (i + 1 + o) = y (i + (o + 1))
  rw [Nat.add_assoc, Nat.add_comm 1 o]
section
variable (w : World) (b1 b2 : Bool)
/-- a page of one line -/
theorem sd1_ok {x s : List Nat} {t : Nat} (h1 : PySem.stripped Unicode.isSpace true true ⟨⟨x⟩⟩ = ⟨⟨s⟩⟩) (h2 : PySem.stripSame Unicode.isSpace true true ⟨⟨x⟩⟩ = true → (⟨⟨x⟩⟩ : PySem.Str) = ⟨⟨s⟩⟩) (hf : 10 ∉ s) (hz : s.length ≤ 1000) : VV w b1 b2 (cSd x t s []) := by
  refine fnV (fn94 _) rfl (show 1 ≤ 2 by decide) (fun _ => rfl) 400 _ (fun n tk => r_sd1 w.params b1 b2 x t s n tk) fun n tk => ?_
  refine ⟨cStrip_ok h1 h2 (by rw [sizeLine_eq]; exact Nat.le_trans hz (by decide)), fun z0 _ => ⟨cSplit_ok (by simp) (by intro p hp; rw [List.mem_singleton.mp hp]; exact hf) rfl hz, fun z1 _ => ⟨cLenL_ok rfl (by show 1 ≤ 1000; decide), fun z2 _ => ⟨cEq_ok (by rfl), fun z3 _ => ?_⟩⟩⟩⟩
  exact outN (fun i => if i = 2 then z3 0 else if i = 3 then z1 8 else z3 1 + 1) (fun sz tk => ⟨trivial, rfl, rfl⟩) rfl (fun _ => rfl) (by intro e he; cases he with | head => kernel_rfl! | tail _ he => cases he)
/-- a page of more lines, the second one white -/
theorem sd2_ok {x s l m r : List Nat} {L : List (List Nat)} {t : Nat} (h1 : PySem.stripped Unicode.isSpace true true ⟨⟨x⟩⟩ = ⟨⟨s⟩⟩) (h2 : PySem.stripSame Unicode.isSpace true true ⟨⟨x⟩⟩ = true → (⟨⟨x⟩⟩ : PySem.Str) = ⟨⟨s⟩⟩) (hs : s = joinL [10] (l :: m :: L)) (hf : ∀ p ∈ l :: m :: L, 10 ∉ p) (hz : s.length ≤ 1000)
    (h4 : PySem.stripped Unicode.isSpace false true ⟨⟨m⟩⟩ = ⟨⟨[]⟩⟩) (h5 : PySem.stripSame Unicode.isSpace false true ⟨⟨m⟩⟩ = true → (⟨⟨m⟩⟩ : PySem.Str) = ⟨⟨[]⟩⟩) (hr : r = joinL [10] L) (hL : L.length ≤ 900) (hz2 : sumLen L ≤ 1000) : VV w b1 b2 (cSd x t l r) := by
  have e : ∀ z1 : Nat → Nat, strV (l :: m :: L) (lsO 8 z1 (L.length + 1 + 1)) = .str ⟨⟨l⟩⟩ (z1 8) :: .str ⟨⟨m⟩⟩ (z1 9) :: strV L (lsO 10 z1 L.length) := fun z1 => by
    rw [lsO_succ, lsO_succ]; rfl
  have hl : ∀ z1 : Nat → Nat, (strV (l :: m :: L) (lsO 8 z1 (l :: m :: L).length)).length = L.length + 2 := fun z1 => by
    rw [strV_len _ _ (lsO_len _ _ _)]; rfl
  refine fnV (fn94 _) rfl (show 1 ≤ 2 by decide) (fun _ => rfl) 400 _ (fun n tk => r_sd2 w.params b1 b2 x t s l m r L n tk) fun n tk => ?_
  refine ⟨cStrip_ok h1 h2 (by rw [sizeLine_eq]; exact Nat.le_trans hz (by decide)), fun z0 _ => ⟨cSplit_ok (by simp) hf hs hz, fun z1 _ => ?_⟩⟩
  have el : (((l :: m :: L).length : Nat) : Int) = ((strV (l :: m :: L) (lsO 8 z1 (l :: m :: L).length)).length : Nat) := by rw [hl]; rfl
  have ez : (strV (l :: m :: L) (lsO 8 z1 (l :: m :: L).length)).length ≤ 1000 := by rw [hl]; lia
  refine ⟨cLenL_ok el ez, fun z2 _ => ⟨cEq_ok (by simp; lia), fun z3 _ => ⟨cLenL_ok el ez, fun z4 _ => ⟨cGe_ok (by simp; lia), fun z5 _ => ?_⟩⟩⟩⟩
  refine ⟨cGet_ok (by decide) (by decide) (by rw [show (l :: m :: L).length = L.length + 1 + 1 from rfl, e]; rfl), fun z6 _ => ⟨cRstrip_ok h4 h5 (by rw [sizeLine_eq]; decide), fun z7 _ => ?_⟩⟩
  refine ⟨cGet_ok (by decide) (by decide) (by rw [show (l :: m :: L).length = L.length + 1 + 1 from rfl, e]; rfl), fun z8 _ => ?_⟩
  refine ⟨cSlice_ok (l' := some 2) (h' := none) (s' := none) (.int _ _) .none .none (by decide) ?_ (by rw [sizeLine_eq]; lia), fun z9 _ => ?_⟩
  · rw [show (l :: m :: L).length = L.length + 1 + 1 from rfl, e]
    exact slicePick_from _ 2 (by show 2 ≤ (strV L (lsO 10 z1 L.length)).length + 1 + 1; lia)
  refine ⟨cJoin_ok (lsO_len _ _ _) hr.symm hz2 (by lia) (by show 1 ≤ 10; decide), fun z10 _ => ?_⟩
  exact outN (fun i => if i = 2 then z10 0 else if i = 3 then z1 8 else z10 2) (fun sz tk => ⟨trivial, rfl, rfl⟩) rfl (fun _ => rfl) (by intro e he; cases he with | head => kernel_rfl! | tail _ he => cases he)
end
noncomputable def H_wsS (P : Params) (q : Iw) (ca : Addr) (cs : List (Int × Nat)) (ep : Nat) (b : Int) (tb : Nat) (n0 : Int) (tn : Nat) (nt : Int) (tnt : Nat) (j jf : Int) (VF : List Int) (bF nF ntF : Int) (kc s0 st : Nat) (n tk : Nat) : HT := .go [3,1] (.cut (cSNext 1 q.it ⟨⟨q.x⟩⟩ q.t j 32) fun z0 => .go [1,0,1,1,1] (.cut (cStrEq ({ cps := { toList := [32] } }) ({ cps := { toList := [32] } }) (z0 2) 209 true) fun z1 => .go [1,0,1,0,1,0,1,0] (.cut (cWs P { q with i0 := 0, i1 := 1, i2 := 2 } ca cs ep (b + 1) (z1 1 + 4) (n0 + 1) (z1 1 + 1) nt tnt (chE P kc 32 (z0 2)) 9 (j + 1) jf VF bF nF ntF false) fun z2 => .go [] (.nil { res := .ok Flow.next, exp := [(1, (q.L, frO (addL (q.es P ca bF (z2 3) nF (z2 4) ntF (z2 5)) (chE P (z2 6) (z2 7) (z2 8))) 9)), (3, (q.it, siO (.str ⟨⟨q.x⟩⟩ q.t) jf)), (5, (ca, liO (zipI VF (lsO 10 z2 VF.length)) (z2 9)))] }))))
theorem r_wsS (P : Params) (b1 b2 : Bool) (q : Iw) (ca : Addr) (cs : List (Int × Nat)) (ep : Nat) (b : Int) (tb : Nat) (n0 : Int) (tn : Nat) (nt : Int) (tnt : Nat) (j jf : Int) (VF : List Int) (bF nF ntF : Int) (kc s0 st : Nat) (n tk : Nat) : (RunC (parOf P b1 b2) (cWs (parOf P b1 b2) q ca cs ep b tb n0 tn nt tnt (chE (parOf P b1 b2) kc s0 st) 9 j jf VF bF nF ntF false) 400 (H_wsS (parOf P b1 b2) q ca cs ep b tb n0 tn nt tnt j jf VF bF nF ntF kc s0 st n tk) n tk).Ok := by
  cases b1 <;> (show OT.l _ = OT.r _; kernel_rfl)
noncomputable def H_wsS0 (P : Params) (q : Iw) (ca : Addr) (cs : List (Int × Nat)) (ep : Nat) (b : Int) (tb : Nat) (n0 : Int) (tn : Nat) (nt : Int) (tnt : Nat) (j jf : Int) (VF : List Int) (bF nF ntF : Int) (n tk : Nat) : HT := .go [3,1] (.cut (cSNext 1 q.it ⟨⟨q.x⟩⟩ q.t j 32) fun z0 => .go [1,0,1,1,1] (.cut (cStrEq ({ cps := { toList := [32] } }) ({ cps := { toList := [32] } }) (z0 2) 209 true) fun z1 => .go [1,0,1,0,1,0,1,0] (.cut (cWs P { q with i0 := 0, i1 := 1, i2 := 2 } ca cs ep (b + 1) (z1 1 + 4) (n0 + 1) (z1 1 + 1) nt tnt (chE P (z0 1) 32 (z0 2)) 9 (j + 1) jf VF bF nF ntF false) fun z2 => .go [] (.nil { res := .ok Flow.next, exp := [(1, (q.L, frO (addL (q.es P ca bF (z2 3) nF (z2 4) ntF (z2 5)) (chE P (z2 6) (z2 7) (z2 8))) 9)), (3, (q.it, siO (.str ⟨⟨q.x⟩⟩ q.t) jf)), (5, (ca, liO (zipI VF (lsO 10 z2 VF.length)) (z2 9)))] }))))
theorem r_wsS0 (P : Params) (b1 b2 : Bool) (q : Iw) (ca : Addr) (cs : List (Int × Nat)) (ep : Nat) (b : Int) (tb : Nat) (n0 : Int) (tn : Nat) (nt : Int) (tnt : Nat) (j jf : Int) (VF : List Int) (bF nF ntF : Int) (n tk : Nat) : (RunC (parOf P b1 b2) (cWs (parOf P b1 b2) q ca cs ep b tb n0 tn nt tnt [] 8 j jf VF bF nF ntF false) 400 (H_wsS0 (parOf P b1 b2) q ca cs ep b tb n0 tn nt tnt j jf VF bF nF ntF n tk) n tk).Ok := by
  cases b1 <;> (show OT.l _ = OT.r _; kernel_rfl)
noncomputable def H_wsSg (P : Params) (q : Iw) (ca : Addr) (cs : List (Int × Nat)) (ep : Nat) (b : Int) (tb : Nat) (n0 : Int) (tn : Nat) (nt : Int) (tnt : Nat) (j jf : Int) (VF : List Int) (bF nF ntF : Int) (kc s0 st : Nat) (n tk : Nat) : HT := .go [3,1] (.cut (cSNext 1 q.it ⟨⟨q.x⟩⟩ q.t j 32) fun z0 => .go [1,0,1,1,1] (.cut (cStrEq ({ cps := { toList := [32] } }) ({ cps := { toList := [32] } }) (z0 2) 209 true) fun z1 => .go [1,0,1,0,1,0,1,0] (.cut (cWs P { q with i0 := 0, i1 := 1, i2 := 2 } ca cs ep (b + 1) (z1 1 + 4) (n0 + 1) (z1 1 + 1) nt tnt (chE P kc 32 (z0 2)) 9 (j + 1) jf VF bF nF ntF true) fun z2 => .go [] (.nil { res := .ok Flow.next, exp := [(1, (q.L, frO (addL (q.es P (z2 2) bF (z2 3) nF (z2 4) ntF (z2 5)) (chE P (z2 6) (z2 7) (z2 8))) 9)), (3, (q.it, siO (.str ⟨⟨q.x⟩⟩ q.t) jf)), (5, (ca, liO (inl cs) ep)), (2, (z2 2, liO (zipI VF (lsO 10 z2 VF.length)) (z2 9)))] }))))
theorem r_wsSg (P : Params) (b1 b2 : Bool) (q : Iw) (ca : Addr) (cs : List (Int × Nat)) (ep : Nat) (b : Int) (tb : Nat) (n0 : Int) (tn : Nat) (nt : Int) (tnt : Nat) (j jf : Int) (VF : List Int) (bF nF ntF : Int) (kc s0 st : Nat) (n tk : Nat) : (RunC (parOf P b1 b2) (cWs (parOf P b1 b2) q ca cs ep b tb n0 tn nt tnt (chE (parOf P b1 b2) kc s0 st) 9 j jf VF bF nF ntF true) 400 (H_wsSg (parOf P b1 b2) q ca cs ep b tb n0 tn nt tnt j jf VF bF nF ntF kc s0 st n tk) n tk).Ok := by
  cases b1 <;> (show OT.l _ = OT.r _; kernel_rfl)
noncomputable def H_wsSg0 (P : Params) (q : Iw) (ca : Addr) (cs : List (Int × Nat)) (ep : Nat) (b : Int) (tb : Nat) (n0 : Int) (tn : Nat) (nt : Int) (tnt : Nat) (j jf : Int) (VF : List Int) (bF nF ntF : Int) (n tk : Nat) : HT := .go [3,1] (.cut (cSNext 1 q.it ⟨⟨q.x⟩⟩ q.t j 32) fun z0 => .go [1,0,1,1,1] (.cut (cStrEq ({ cps := { toList := [32] } }) ({ cps := { toList := [32] } }) (z0 2) 209 true) fun z1 => .go [1,0,1,0,1,0,1,0] (.cut (cWs P { q with i0 := 0, i1 := 1, i2 := 2 } ca cs ep (b + 1) (z1 1 + 4) (n0 + 1) (z1 1 + 1) nt tnt (chE P (z0 1) 32 (z0 2)) 9 (j + 1) jf VF bF nF ntF true) fun z2 => .go [] (.nil { res := .ok Flow.next, exp := [(1, (q.L, frO (addL (q.es P (z2 2) bF (z2 3) nF (z2 4) ntF (z2 5)) (chE P (z2 6) (z2 7) (z2 8))) 9)), (3, (q.it, siO (.str ⟨⟨q.x⟩⟩ q.t) jf)), (5, (ca, liO (inl cs) ep)), (2, (z2 2, liO (zipI VF (lsO 10 z2 VF.length)) (z2 9)))] }))))
theorem r_wsSg0 (P : Params) (b1 b2 : Bool) (q : Iw) (ca : Addr) (cs : List (Int × Nat)) (ep : Nat) (b : Int) (tb : Nat) (n0 : Int) (tn : Nat) (nt : Int) (tnt : Nat) (j jf : Int) (VF : List Int) (bF nF ntF : Int) (n tk : Nat) : (RunC (parOf P b1 b2) (cWs (parOf P b1 b2) q ca cs ep b tb n0 tn nt tnt [] 8 j jf VF bF nF ntF true) 400 (H_wsSg0 (parOf P b1 b2) q ca cs ep b tb n0 tn nt tnt j jf VF bF nF ntF n tk) n tk).Ok := by
  cases b1 <;> (show OT.l _ = OT.r _; kernel_rfl)
noncomputable def H_wsE (P : Params) (q : Iw) (ca : Addr) (cs : List (Int × Nat)) (ep : Nat) (b : Int) (tb : Nat) (n0 : Int) (tn : Nat) (nt : Int) (tnt : Nat) (j : Int) (VF : List Int) (s1 : Nat) (kc s0 st : Nat) (n tk : Nat) : HT := .go [3,1] (.cut (cSNext 1 q.it ⟨⟨q.x⟩⟩ q.t j s1) fun z0 => .go [1,0,1,1,1] (.cut (cStrEq ({ cps := { toList := [s1] } }) ({ cps := { toList := [32] } }) (z0 2) 209 false) fun z1 => .go [1,1,1] (.cut (cStrEq ({ cps := { toList := [s1] } }) ({ cps := { toList := [9] } }) (z0 2) 210 false) fun z2 => .go [] (.nil { res := .ok Flow.next, exp := [(1, (q.L, frO (addL (q.es P ca b tb n0 tn nt tnt) (chE P kc s1 (z0 2))) 9)), (3, (q.it, siO (.str ⟨⟨q.x⟩⟩ q.t) (j + 1))), (5, (ca, liO (inl cs) ep))] }))))
theorem r_wsE (P : Params) (b1 b2 : Bool) (q : Iw) (ca : Addr) (cs : List (Int × Nat)) (ep : Nat) (b : Int) (tb : Nat) (n0 : Int) (tn : Nat) (nt : Int) (tnt : Nat) (j : Int) (VF : List Int) (s1 : Nat) (kc s0 st : Nat) (n tk : Nat) : (RunC (parOf P b1 b2) (cWs (parOf P b1 b2) q ca cs ep b tb n0 tn nt tnt (chE (parOf P b1 b2) kc s0 st) 9 j (j + 1) VF b n0 nt false) 400 (H_wsE (parOf P b1 b2) q ca cs ep b tb n0 tn nt tnt j VF s1 kc s0 st n tk) n tk).Ok := by
  cases b1 <;> (show OT.l _ = OT.r _; kernel_rfl)
noncomputable def H_wsE0 (P : Params) (q : Iw) (ca : Addr) (cs : List (Int × Nat)) (ep : Nat) (b : Int) (tb : Nat) (n0 : Int) (tn : Nat) (nt : Int) (tnt : Nat) (j : Int) (VF : List Int) (s1 : Nat) (n tk : Nat) : HT := .go [3,1] (.cut (cSNext 1 q.it ⟨⟨q.x⟩⟩ q.t j s1) fun z0 => .go [1,0,1,1,1] (.cut (cStrEq ({ cps := { toList := [s1] } }) ({ cps := { toList := [32] } }) (z0 2) 209 false) fun z1 => .go [1,1,1] (.cut (cStrEq ({ cps := { toList := [s1] } }) ({ cps := { toList := [9] } }) (z0 2) 210 false) fun z2 => .go [] (.nil { res := .ok Flow.next, exp := [(1, (q.L, frO (addL (q.es P ca b tb n0 tn nt tnt) (chE P (z0 1) s1 (z0 2))) 9)), (3, (q.it, siO (.str ⟨⟨q.x⟩⟩ q.t) (j + 1))), (5, (ca, liO (inl cs) ep))] }))))
theorem r_wsE0 (P : Params) (b1 b2 : Bool) (q : Iw) (ca : Addr) (cs : List (Int × Nat)) (ep : Nat) (b : Int) (tb : Nat) (n0 : Int) (tn : Nat) (nt : Int) (tnt : Nat) (j : Int) (VF : List Int) (s1 : Nat) (n tk : Nat) : (RunC (parOf P b1 b2) (cWs (parOf P b1 b2) q ca cs ep b tb n0 tn nt tnt [] 8 j (j + 1) VF b n0 nt false) 400 (H_wsE0 (parOf P b1 b2) q ca cs ep b tb n0 tn nt tnt j VF s1 n tk) n tk).Ok := by
  cases b1 <;> (show OT.l _ = OT.r _; kernel_rfl)
noncomputable def H_wsTik2 (P : Params) (q : Iw) (ca : Addr) (cs : List (Int × Nat)) (ep : Nat) (b : Int) (tb : Nat) (n0 : Int) (nt : Int) (j jf : Int) (VF : List Int) (bF nF ntF : Int) (v : Int) (f : Nat → List (Int × Nat)) (kc : Nat) (z0 z2 z5 : Nat → Nat) : HT := .go [0,1,1,5,5,1] (.cut (cSetV 2 ca (inl cs) ep b tb (Value.int (v + 1) (z5 1 + 1)) (inl (f (z5 1 + 1)))) fun z6 => .go [1,0] (.cut (cWs P { q with i0 := 0, i1 := 1, i2 := 2 } ca (f (z5 1 + 1)) ep 0 (z6 1) (n0 + 1) (z2 1 + 1) (nt + 1) (z2 1 + 4) (chE P kc 9 (z0 2)) 9 (j + 1) jf VF bF nF ntF false) fun z7 => .go [] (.nil { res := .ok Flow.next, exp := [(1, (q.L, frO (addL (q.es P ca bF (z7 3) nF (z7 4) ntF (z7 5)) (chE P (z7 6) (z7 7) (z7 8))) 9)), (3, (q.it, siO (.str ⟨⟨q.x⟩⟩ q.t) jf)), (5, (ca, liO (zipI VF (lsO 10 z7 VF.length)) (z7 9)))] })))
noncomputable def H_wsTik1 (P : Params) (q : Iw) (ca : Addr) (cs : List (Int × Nat)) (ep : Nat) (b : Int) (tb : Nat) (n0 : Int) (nt : Int) (j jf : Int) (VF : List Int) (bF nF ntF : Int) (v : Int) (tv : Nat) (f : Nat → List (Int × Nat)) (kc : Nat) (z0 z2 : Nat → Nat) : HT := .go [1,0,1,0,1,0,1,0,1,0,0,1,1] (.cut (cLenL 5 ca (inl cs) ep (cs.length : Nat)) fun z3 => .go [1] (.cut (cGe b (↑cs.length : Int) tb (z3 2) false) fun z4 => .go [1,1,5,5,5,1] (.cut (cGet 5 ca (inl cs) ep b tb (.int v tv)) fun z5 => (H_wsTik2 P q ca cs ep b tb n0 nt j jf VF bF nF ntF v f kc z0 z2 z5))))
noncomputable def H_wsTi (P : Params) (q : Iw) (ca : Addr) (cs : List (Int × Nat)) (ep : Nat) (b : Int) (tb : Nat) (n0 : Int) (tn : Nat) (nt : Int) (tnt : Nat) (j jf : Int) (VF : List Int) (bF nF ntF : Int) (v : Int) (tv : Nat) (f : Nat → List (Int × Nat)) (kc s0 st : Nat) (n tk : Nat) : HT := .go [3,1] (.cut (cSNext 1 q.it ⟨⟨q.x⟩⟩ q.t j 9) fun z0 => .go [1,0,1,1,1] (.cut (cStrEq ({ cps := { toList := [9] } }) ({ cps := { toList := [32] } }) (z0 2) 209 false) fun z1 => .go [1,1,1] (.cut (cStrEq ({ cps := { toList := [9] } }) ({ cps := { toList := [9] } }) (z0 2) 210 true) fun z2 => (H_wsTik1 P q ca cs ep b tb n0 nt j jf VF bF nF ntF v tv f kc z0 z2))))
theorem r_wsTi (P : Params) (b1 b2 : Bool) (q : Iw) (ca : Addr) (cs : List (Int × Nat)) (ep : Nat) (b : Int) (tb : Nat) (n0 : Int) (tn : Nat) (nt : Int) (tnt : Nat) (j jf : Int) (VF : List Int) (bF nF ntF : Int) (v : Int) (tv : Nat) (f : Nat → List (Int × Nat)) (kc s0 st : Nat) (n tk : Nat) : (RunC (parOf P b1 b2) (cWs (parOf P b1 b2) q ca cs ep b tb n0 tn nt tnt (chE (parOf P b1 b2) kc s0 st) 9 j jf VF bF nF ntF false) 400 (H_wsTi (parOf P b1 b2) q ca cs ep b tb n0 tn nt tnt j jf VF bF nF ntF v tv f kc s0 st n tk) n tk).Ok := by
  cases b1 <;> (show OT.l _ = OT.r _; kernel_rfl)
noncomputable def H_wsTi0k2 (P : Params) (q : Iw) (ca : Addr) (cs : List (Int × Nat)) (ep : Nat) (b : Int) (tb : Nat) (n0 : Int) (nt : Int) (j jf : Int) (VF : List Int) (bF nF ntF : Int) (v : Int) (f : Nat → List (Int × Nat)) (z0 z2 z5 : Nat → Nat) : HT := .go [0,1,1,5,5,1] (.cut (cSetV 2 ca (inl cs) ep b tb (Value.int (v + 1) (z5 1 + 1)) (inl (f (z5 1 + 1)))) fun z6 => .go [1,0] (.cut (cWs P { q with i0 := 0, i1 := 1, i2 := 2 } ca (f (z5 1 + 1)) ep 0 (z6 1) (n0 + 1) (z2 1 + 1) (nt + 1) (z2 1 + 4) (chE P (z0 1) 9 (z0 2)) 9 (j + 1) jf VF bF nF ntF false) fun z7 => .go [] (.nil { res := .ok Flow.next, exp := [(1, (q.L, frO (addL (q.es P ca bF (z7 3) nF (z7 4) ntF (z7 5)) (chE P (z7 6) (z7 7) (z7 8))) 9)), (3, (q.it, siO (.str ⟨⟨q.x⟩⟩ q.t) jf)), (5, (ca, liO (zipI VF (lsO 10 z7 VF.length)) (z7 9)))] })))
noncomputable def H_wsTi0k1 (P : Params) (q : Iw) (ca : Addr) (cs : List (Int × Nat)) (ep : Nat) (b : Int) (tb : Nat) (n0 : Int) (nt : Int) (j jf : Int) (VF : List Int) (bF nF ntF : Int) (v : Int) (tv : Nat) (f : Nat → List (Int × Nat)) (z0 z2 : Nat → Nat) : HT := .go [1,0,1,0,1,0,1,0,1,0,0,1,1] (.cut (cLenL 5 ca (inl cs) ep (cs.length : Nat)) fun z3 => .go [1] (.cut (cGe b (↑cs.length : Int) tb (z3 2) false) fun z4 => .go [1,1,5,5,5,1] (.cut (cGet 5 ca (inl cs) ep b tb (.int v tv)) fun z5 => (H_wsTi0k2 P q ca cs ep b tb n0 nt j jf VF bF nF ntF v f z0 z2 z5))))
noncomputable def H_wsTi0 (P : Params) (q : Iw) (ca : Addr) (cs : List (Int × Nat)) (ep : Nat) (b : Int) (tb : Nat) (n0 : Int) (tn : Nat) (nt : Int) (tnt : Nat) (j jf : Int) (VF : List Int) (bF nF ntF : Int) (v : Int) (tv : Nat) (f : Nat → List (Int × Nat)) (n tk : Nat) : HT := .go [3,1] (.cut (cSNext 1 q.it ⟨⟨q.x⟩⟩ q.t j 9) fun z0 => .go [1,0,1,1,1] (.cut (cStrEq ({ cps := { toList := [9] } }) ({ cps := { toList := [32] } }) (z0 2) 209 false) fun z1 => .go [1,1,1] (.cut (cStrEq ({ cps := { toList := [9] } }) ({ cps := { toList := [9] } }) (z0 2) 210 true) fun z2 => (H_wsTi0k1 P q ca cs ep b tb n0 nt j jf VF bF nF ntF v tv f z0 z2))))
theorem r_wsTi0 (P : Params) (b1 b2 : Bool) (q : Iw) (ca : Addr) (cs : List (Int × Nat)) (ep : Nat) (b : Int) (tb : Nat) (n0 : Int) (tn : Nat) (nt : Int) (tnt : Nat) (j jf : Int) (VF : List Int) (bF nF ntF : Int) (v : Int) (tv : Nat) (f : Nat → List (Int × Nat)) (n tk : Nat) : (RunC (parOf P b1 b2) (cWs (parOf P b1 b2) q ca cs ep b tb n0 tn nt tnt [] 8 j jf VF bF nF ntF false) 400 (H_wsTi0 (parOf P b1 b2) q ca cs ep b tb n0 tn nt tnt j jf VF bF nF ntF v tv f n tk) n tk).Ok := by
  cases b1 <;> (show OT.l _ = OT.r _; kernel_rfl)
noncomputable def H_wsTok3 (P : Params) (q : Iw) (ca : Addr) (cs : List (Int × Nat)) (ep : Nat) (b : Int) (tb : Nat) (n0 : Int) (nt : Int) (j jf : Int) (VF : List Int) (bF nF ntF : Int) (f : Nat → Nat → List (Int × Nat)) (kc : Nat) (z0 z2 z4 z7 z8 : Nat → Nat) : HT := .go [0,1,1,11,11,1] (.cut (cSetV 5 (z7 2) (inl cs ++ List.replicate (b - ↑cs.length + 1).toNat (Value.int 0 (z4 1))) 0 b tb (Value.int (0 + 1) (z8 1 + 1)) (inl (f (z4 1) (z8 1 + 1)))) fun z9 => .go [1,0] (.cut (cWs P { q with i0 := 0, i1 := 1, i2 := 5 } (z7 2) (f (z4 1) (z8 1 + 1)) 0 0 (z9 1) (n0 + 1) (z2 1 + 1) (nt + 1) (z2 1 + 4) (chE P kc 9 (z0 2)) 9 (j + 1) jf VF bF nF ntF false) fun z10 => .go [] (.nil { res := .ok Flow.next, exp := [(1, (q.L, frO (addL (q.es P (z7 2) bF (z10 3) nF (z10 4) ntF (z10 5)) (chE P (z10 6) (z10 7) (z10 8))) 9)), (3, (q.it, siO (.str ⟨⟨q.x⟩⟩ q.t) jf)), (5, (ca, liO (inl cs) ep)), (11, (z7 2, liO (zipI VF (lsO 10 z10 VF.length)) (z10 9)))] })))
noncomputable def H_wsTok2 (P : Params) (q : Iw) (ca : Addr) (cs : List (Int × Nat)) (ep : Nat) (b : Int) (tb : Nat) (n0 : Int) (nt : Int) (j jf : Int) (VF : List Int) (bF nF ntF : Int) (f : Nat → Nat → List (Int × Nat)) (kc : Nat) (z0 z2 z4 z5 : Nat → Nat) : HT := .go [0,0,7,0,7,7,1] (.cut (cMulL 7 (z4 0) ([Value.int 0 (z4 1)]) 0 (b - ↑cs.length + 1 : Int) (z5 1 + 2) (List.replicate (((b - ↑cs.length + 1 : Int) : Int)).toNat (.int 0 (z4 1)))) fun z6 => .go [5,9,5,1] (.cut (cAddL 5 9 ca (z6 2) (inl cs) (List.replicate (b - ↑cs.length + 1).toNat (Value.int 0 (z4 1))) ep 0) fun z7 => .go [1,0,1,1,11,11,11,1] (.cut (cGet 11 (z7 2) (inl cs ++ List.replicate (b - ↑cs.length + 1).toNat (Value.int 0 (z4 1))) 0 b tb (.int 0 (z4 1))) fun z8 => (H_wsTok3 P q ca cs ep b tb n0 nt j jf VF bF nF ntF f kc z0 z2 z4 z7 z8))))
noncomputable def H_wsTok1 (P : Params) (q : Iw) (ca : Addr) (cs : List (Int × Nat)) (ep : Nat) (b : Int) (tb : Nat) (n0 : Int) (nt : Int) (j jf : Int) (VF : List Int) (bF nF ntF : Int) (f : Nat → Nat → List (Int × Nat)) (kc : Nat) (z0 z2 : Nat → Nat) : HT := .go [1,0,1,0,1,0,1,0,1,0,0,1,1] (.cut (cLenL 5 ca (inl cs) ep (cs.length : Nat)) fun z3 => .go [1] (.cut (cGe b (↑cs.length : Int) tb (z3 2) true) fun z4 => .go [1,1,0,0,1,1] (.cut (cLenL 5 ca (inl cs) ep (cs.length : Nat)) fun z5 => (H_wsTok2 P q ca cs ep b tb n0 nt j jf VF bF nF ntF f kc z0 z2 z4 z5))))
noncomputable def H_wsTo (P : Params) (q : Iw) (ca : Addr) (cs : List (Int × Nat)) (ep : Nat) (b : Int) (tb : Nat) (n0 : Int) (tn : Nat) (nt : Int) (tnt : Nat) (j jf : Int) (VF : List Int) (bF nF ntF : Int) (f : Nat → Nat → List (Int × Nat)) (kc s0 st : Nat) (n tk : Nat) : HT := .go [3,1] (.cut (cSNext 1 q.it ⟨⟨q.x⟩⟩ q.t j 9) fun z0 => .go [1,0,1,1,1] (.cut (cStrEq ({ cps := { toList := [9] } }) ({ cps := { toList := [32] } }) (z0 2) 209 false) fun z1 => .go [1,1,1] (.cut (cStrEq ({ cps := { toList := [9] } }) ({ cps := { toList := [9] } }) (z0 2) 210 true) fun z2 => (H_wsTok1 P q ca cs ep b tb n0 nt j jf VF bF nF ntF f kc z0 z2))))
theorem r_wsTo (P : Params) (b1 b2 : Bool) (q : Iw) (ca : Addr) (cs : List (Int × Nat)) (ep : Nat) (b : Int) (tb : Nat) (n0 : Int) (tn : Nat) (nt : Int) (tnt : Nat) (j jf : Int) (VF : List Int) (bF nF ntF : Int) (f : Nat → Nat → List (Int × Nat)) (kc s0 st : Nat) (n tk : Nat) : (RunC (parOf P b1 b2) (cWs (parOf P b1 b2) q ca cs ep b tb n0 tn nt tnt (chE (parOf P b1 b2) kc s0 st) 9 j jf VF bF nF ntF true) 400 (H_wsTo (parOf P b1 b2) q ca cs ep b tb n0 tn nt tnt j jf VF bF nF ntF f kc s0 st n tk) n tk).Ok := by
  cases b1 <;> (show OT.l _ = OT.r _; kernel_rfl)
noncomputable def H_wsTo0k3 (P : Params) (q : Iw) (ca : Addr) (cs : List (Int × Nat)) (ep : Nat) (b : Int) (tb : Nat) (n0 : Int) (nt : Int) (j jf : Int) (VF : List Int) (bF nF ntF : Int) (f : Nat → Nat → List (Int × Nat)) (z0 z2 z4 z7 z8 : Nat → Nat) : HT := .go [0,1,1,11,11,1] (.cut (cSetV 5 (z7 2) (inl cs ++ List.replicate (b - ↑cs.length + 1).toNat (Value.int 0 (z4 1))) 0 b tb (Value.int (0 + 1) (z8 1 + 1)) (inl (f (z4 1) (z8 1 + 1)))) fun z9 => .go [1,0] (.cut (cWs P { q with i0 := 0, i1 := 1, i2 := 5 } (z7 2) (f (z4 1) (z8 1 + 1)) 0 0 (z9 1) (n0 + 1) (z2 1 + 1) (nt + 1) (z2 1 + 4) (chE P (z0 1) 9 (z0 2)) 9 (j + 1) jf VF bF nF ntF false) fun z10 => .go [] (.nil { res := .ok Flow.next, exp := [(1, (q.L, frO (addL (q.es P (z7 2) bF (z10 3) nF (z10 4) ntF (z10 5)) (chE P (z10 6) (z10 7) (z10 8))) 9)), (3, (q.it, siO (.str ⟨⟨q.x⟩⟩ q.t) jf)), (5, (ca, liO (inl cs) ep)), (11, (z7 2, liO (zipI VF (lsO 10 z10 VF.length)) (z10 9)))] })))
noncomputable def H_wsTo0k2 (P : Params) (q : Iw) (ca : Addr) (cs : List (Int × Nat)) (ep : Nat) (b : Int) (tb : Nat) (n0 : Int) (nt : Int) (j jf : Int) (VF : List Int) (bF nF ntF : Int) (f : Nat → Nat → List (Int × Nat)) (z0 z2 z4 z5 : Nat → Nat) : HT := .go [0,0,7,0,7,7,1] (.cut (cMulL 7 (z4 0) ([Value.int 0 (z4 1)]) 0 (b - ↑cs.length + 1 : Int) (z5 1 + 2) (List.replicate (((b - ↑cs.length + 1 : Int) : Int)).toNat (.int 0 (z4 1)))) fun z6 => .go [5,9,5,1] (.cut (cAddL 5 9 ca (z6 2) (inl cs) (List.replicate (b - ↑cs.length + 1).toNat (Value.int 0 (z4 1))) ep 0) fun z7 => .go [1,0,1,1,11,11,11,1] (.cut (cGet 11 (z7 2) (inl cs ++ List.replicate (b - ↑cs.length + 1).toNat (Value.int 0 (z4 1))) 0 b tb (.int 0 (z4 1))) fun z8 => (H_wsTo0k3 P q ca cs ep b tb n0 nt j jf VF bF nF ntF f z0 z2 z4 z7 z8))))
noncomputable def H_wsTo0k1 (P : Params) (q : Iw) (ca : Addr) (cs : List (Int × Nat)) (ep : Nat) (b : Int) (tb : Nat) (n0 : Int) (nt : Int) (j jf : Int) (VF : List Int) (bF nF ntF : Int) (f : Nat → Nat → List (Int × Nat)) (z0 z2 : Nat → Nat) : HT := .go [1,0,1,0,1,0,1,0,1,0,0,1,1] (.cut (cLenL 5 ca (inl cs) ep (cs.length : Nat)) fun z3 => .go [1] (.cut (cGe b (↑cs.length : Int) tb (z3 2) true) fun z4 => .go [1,1,0,0,1,1] (.cut (cLenL 5 ca (inl cs) ep (cs.length : Nat)) fun z5 => (H_wsTo0k2 P q ca cs ep b tb n0 nt j jf VF bF nF ntF f z0 z2 z4 z5))))
noncomputable def H_wsTo0 (P : Params) (q : Iw) (ca : Addr) (cs : List (Int × Nat)) (ep : Nat) (b : Int) (tb : Nat) (n0 : Int) (tn : Nat) (nt : Int) (tnt : Nat) (j jf : Int) (VF : List Int) (bF nF ntF : Int) (f : Nat → Nat → List (Int × Nat)) (n tk : Nat) : HT := .go [3,1] (.cut (cSNext 1 q.it ⟨⟨q.x⟩⟩ q.t j 9) fun z0 => .go [1,0,1,1,1] (.cut (cStrEq ({ cps := { toList := [9] } }) ({ cps := { toList := [32] } }) (z0 2) 209 false) fun z1 => .go [1,1,1] (.cut (cStrEq ({ cps := { toList := [9] } }) ({ cps := { toList := [9] } }) (z0 2) 210 true) fun z2 => (H_wsTo0k1 P q ca cs ep b tb n0 nt j jf VF bF nF ntF f z0 z2))))
theorem r_wsTo0 (P : Params) (b1 b2 : Bool) (q : Iw) (ca : Addr) (cs : List (Int × Nat)) (ep : Nat) (b : Int) (tb : Nat) (n0 : Int) (tn : Nat) (nt : Int) (tnt : Nat) (j jf : Int) (VF : List Int) (bF nF ntF : Int) (f : Nat → Nat → List (Int × Nat)) (n tk : Nat) : (RunC (parOf P b1 b2) (cWs (parOf P b1 b2) q ca cs ep b tb n0 tn nt tnt [] 8 j jf VF bF nF ntF true) 400 (H_wsTo0 (parOf P b1 b2) q ca cs ep b tb n0 tn nt tnt j jf VF bF nF ntF f n tk) n tk).Ok := by
  cases b1 <;> (show OT.l _ = OT.r _; kernel_rfl)
noncomputable def H_wsTogk3 (P : Params) (q : Iw) (ca : Addr) (cs : List (Int × Nat)) (ep : Nat) (b : Int) (tb : Nat) (n0 : Int) (nt : Int) (j jf : Int) (VF : List Int) (bF nF ntF : Int) (f : Nat → Nat → List (Int × Nat)) (kc : Nat) (z0 z2 z4 z7 z8 : Nat → Nat) : HT := .go [0,1,1,11,11,1] (.cut (cSetV 5 (z7 2) (inl cs ++ List.replicate (b - ↑cs.length + 1).toNat (Value.int 0 (z4 1))) 0 b tb (Value.int (0 + 1) (z8 1 + 1)) (inl (f (z4 1) (z8 1 + 1)))) fun z9 => .go [1,0] (.cut (cWs P { q with i0 := 0, i1 := 1, i2 := 5 } (z7 2) (f (z4 1) (z8 1 + 1)) 0 0 (z9 1) (n0 + 1) (z2 1 + 1) (nt + 1) (z2 1 + 4) (chE P kc 9 (z0 2)) 9 (j + 1) jf VF bF nF ntF true) fun z10 => .go [] (.nil { res := .ok Flow.next, exp := [(1, (q.L, frO (addL (q.es P (z10 2) bF (z10 3) nF (z10 4) ntF (z10 5)) (chE P (z10 6) (z10 7) (z10 8))) 9)), (3, (q.it, siO (.str ⟨⟨q.x⟩⟩ q.t) jf)), (5, (ca, liO (inl cs) ep)), (2, (z10 2, liO (zipI VF (lsO 10 z10 VF.length)) (z10 9)))] })))
noncomputable def H_wsTogk2 (P : Params) (q : Iw) (ca : Addr) (cs : List (Int × Nat)) (ep : Nat) (b : Int) (tb : Nat) (n0 : Int) (nt : Int) (j jf : Int) (VF : List Int) (bF nF ntF : Int) (f : Nat → Nat → List (Int × Nat)) (kc : Nat) (z0 z2 z4 z5 : Nat → Nat) : HT := .go [0,0,7,0,7,7,1] (.cut (cMulL 7 (z4 0) ([Value.int 0 (z4 1)]) 0 (b - ↑cs.length + 1 : Int) (z5 1 + 2) (List.replicate (((b - ↑cs.length + 1 : Int) : Int)).toNat (.int 0 (z4 1)))) fun z6 => .go [5,9,5,1] (.cut (cAddL 5 9 ca (z6 2) (inl cs) (List.replicate (b - ↑cs.length + 1).toNat (Value.int 0 (z4 1))) ep 0) fun z7 => .go [1,0,1,1,11,11,11,1] (.cut (cGet 11 (z7 2) (inl cs ++ List.replicate (b - ↑cs.length + 1).toNat (Value.int 0 (z4 1))) 0 b tb (.int 0 (z4 1))) fun z8 => (H_wsTogk3 P q ca cs ep b tb n0 nt j jf VF bF nF ntF f kc z0 z2 z4 z7 z8))))
noncomputable def H_wsTogk1 (P : Params) (q : Iw) (ca : Addr) (cs : List (Int × Nat)) (ep : Nat) (b : Int) (tb : Nat) (n0 : Int) (nt : Int) (j jf : Int) (VF : List Int) (bF nF ntF : Int) (f : Nat → Nat → List (Int × Nat)) (kc : Nat) (z0 z2 : Nat → Nat) : HT := .go [1,0,1,0,1,0,1,0,1,0,0,1,1] (.cut (cLenL 5 ca (inl cs) ep (cs.length : Nat)) fun z3 => .go [1] (.cut (cGe b (↑cs.length : Int) tb (z3 2) true) fun z4 => .go [1,1,0,0,1,1] (.cut (cLenL 5 ca (inl cs) ep (cs.length : Nat)) fun z5 => (H_wsTogk2 P q ca cs ep b tb n0 nt j jf VF bF nF ntF f kc z0 z2 z4 z5))))
noncomputable def H_wsTog (P : Params) (q : Iw) (ca : Addr) (cs : List (Int × Nat)) (ep : Nat) (b : Int) (tb : Nat) (n0 : Int) (tn : Nat) (nt : Int) (tnt : Nat) (j jf : Int) (VF : List Int) (bF nF ntF : Int) (f : Nat → Nat → List (Int × Nat)) (kc s0 st : Nat) (n tk : Nat) : HT := .go [3,1] (.cut (cSNext 1 q.it ⟨⟨q.x⟩⟩ q.t j 9) fun z0 => .go [1,0,1,1,1] (.cut (cStrEq ({ cps := { toList := [9] } }) ({ cps := { toList := [32] } }) (z0 2) 209 false) fun z1 => .go [1,1,1] (.cut (cStrEq ({ cps := { toList := [9] } }) ({ cps := { toList := [9] } }) (z0 2) 210 true) fun z2 => (H_wsTogk1 P q ca cs ep b tb n0 nt j jf VF bF nF ntF f kc z0 z2))))
theorem r_wsTog (P : Params) (b1 b2 : Bool) (q : Iw) (ca : Addr) (cs : List (Int × Nat)) (ep : Nat) (b : Int) (tb : Nat) (n0 : Int) (tn : Nat) (nt : Int) (tnt : Nat) (j jf : Int) (VF : List Int) (bF nF ntF : Int) (f : Nat → Nat → List (Int × Nat)) (kc s0 st : Nat) (n tk : Nat) : (RunC (parOf P b1 b2) (cWs (parOf P b1 b2) q ca cs ep b tb n0 tn nt tnt (chE (parOf P b1 b2) kc s0 st) 9 j jf VF bF nF ntF true) 400 (H_wsTog (parOf P b1 b2) q ca cs ep b tb n0 tn nt tnt j jf VF bF nF ntF f kc s0 st n tk) n tk).Ok := by
  cases b1 <;> (show OT.l _ = OT.r _; kernel_rfl)
noncomputable def H_wsTog0k3 (P : Params) (q : Iw) (ca : Addr) (cs : List (Int × Nat)) (ep : Nat) (b : Int) (tb : Nat) (n0 : Int) (nt : Int) (j jf : Int) (VF : List Int) (bF nF ntF : Int) (f : Nat → Nat → List (Int × Nat)) (z0 z2 z4 z7 z8 : Nat → Nat) : HT := .go [0,1,1,11,11,1] (.cut (cSetV 5 (z7 2) (inl cs ++ List.replicate (b - ↑cs.length + 1).toNat (Value.int 0 (z4 1))) 0 b tb (Value.int (0 + 1) (z8 1 + 1)) (inl (f (z4 1) (z8 1 + 1)))) fun z9 => .go [1,0] (.cut (cWs P { q with i0 := 0, i1 := 1, i2 := 5 } (z7 2) (f (z4 1) (z8 1 + 1)) 0 0 (z9 1) (n0 + 1) (z2 1 + 1) (nt + 1) (z2 1 + 4) (chE P (z0 1) 9 (z0 2)) 9 (j + 1) jf VF bF nF ntF true) fun z10 => .go [] (.nil { res := .ok Flow.next, exp := [(1, (q.L, frO (addL (q.es P (z10 2) bF (z10 3) nF (z10 4) ntF (z10 5)) (chE P (z10 6) (z10 7) (z10 8))) 9)), (3, (q.it, siO (.str ⟨⟨q.x⟩⟩ q.t) jf)), (5, (ca, liO (inl cs) ep)), (2, (z10 2, liO (zipI VF (lsO 10 z10 VF.length)) (z10 9)))] })))
noncomputable def H_wsTog0k2 (P : Params) (q : Iw) (ca : Addr) (cs : List (Int × Nat)) (ep : Nat) (b : Int) (tb : Nat) (n0 : Int) (nt : Int) (j jf : Int) (VF : List Int) (bF nF ntF : Int) (f : Nat → Nat → List (Int × Nat)) (z0 z2 z4 z5 : Nat → Nat) : HT := .go [0,0,7,0,7,7,1] (.cut (cMulL 7 (z4 0) ([Value.int 0 (z4 1)]) 0 (b - ↑cs.length + 1 : Int) (z5 1 + 2) (List.replicate (((b - ↑cs.length + 1 : Int) : Int)).toNat (.int 0 (z4 1)))) fun z6 => .go [5,9,5,1] (.cut (cAddL 5 9 ca (z6 2) (inl cs) (List.replicate (b - ↑cs.length + 1).toNat (Value.int 0 (z4 1))) ep 0) fun z7 => .go [1,0,1,1,11,11,11,1] (.cut (cGet 11 (z7 2) (inl cs ++ List.replicate (b - ↑cs.length + 1).toNat (Value.int 0 (z4 1))) 0 b tb (.int 0 (z4 1))) fun z8 => (H_wsTog0k3 P q ca cs ep b tb n0 nt j jf VF bF nF ntF f z0 z2 z4 z7 z8))))
noncomputable def H_wsTog0k1 (P : Params) (q : Iw) (ca : Addr) (cs : List (Int × Nat)) (ep : Nat) (b : Int) (tb : Nat) (n0 : Int) (nt : Int) (j jf : Int) (VF : List Int) (bF nF ntF : Int) (f : Nat → Nat → List (Int × Nat)) (z0 z2 : Nat → Nat) : HT := .go [1,0,1,0,1,0,1,0,1,0,0,1,1] (.cut (cLenL 5 ca (inl cs) ep (cs.length : Nat)) fun z3 => .go [1] (.cut (cGe b (↑cs.length : Int) tb (z3 2) true) fun z4 => .go [1,1,0,0,1,1] (.cut (cLenL 5 ca (inl cs) ep (cs.length : Nat)) fun z5 => (H_wsTog0k2 P q ca cs ep b tb n0 nt j jf VF bF nF ntF f z0 z2 z4 z5))))
noncomputable def H_wsTog0 (P : Params) (q : Iw) (ca : Addr) (cs : List (Int × Nat)) (ep : Nat) (b : Int) (tb : Nat) (n0 : Int) (tn : Nat) (nt : Int) (tnt : Nat) (j jf : Int) (VF : List Int) (bF nF ntF : Int) (f : Nat → Nat → List (Int × Nat)) (n tk : Nat) : HT := .go [3,1] (.cut (cSNext 1 q.it ⟨⟨q.x⟩⟩ q.t j 9) fun z0 => .go [1,0,1,1,1] (.cut (cStrEq ({ cps := { toList := [9] } }) ({ cps := { toList := [32] } }) (z0 2) 209 false) fun z1 => .go [1,1,1] (.cut (cStrEq ({ cps := { toList := [9] } }) ({ cps := { toList := [9] } }) (z0 2) 210 true) fun z2 => (H_wsTog0k1 P q ca cs ep b tb n0 nt j jf VF bF nF ntF f z0 z2))))
theorem r_wsTog0 (P : Params) (b1 b2 : Bool) (q : Iw) (ca : Addr) (cs : List (Int × Nat)) (ep : Nat) (b : Int) (tb : Nat) (n0 : Int) (tn : Nat) (nt : Int) (tnt : Nat) (j jf : Int) (VF : List Int) (bF nF ntF : Int) (f : Nat → Nat → List (Int × Nat)) (n tk : Nat) : (RunC (parOf P b1 b2) (cWs (parOf P b1 b2) q ca cs ep b tb n0 tn nt tnt [] 8 j jf VF bF nF ntF true) 400 (H_wsTog0 (parOf P b1 b2) q ca cs ep b tb n0 tn nt tnt j jf VF bF nF ntF f n tk) n tk).Ok := by
  cases b1 <;> (show OT.l _ = OT.r _; kernel_rfl)
noncomputable def bump (cs : List Int) (b : Int) : List Int :=
  (cs ++ List.replicate (b - cs.length + 1).toNat 0).set b.toNat ((cs ++ List.replicate (b - cs.length + 1).toNat 0).getD b.toNat 0 + 1)
noncomputable def wsV : List Nat → List Int → Int → Int → Int → List Int × Int × Int × Int
  | [], cs, b, n, nt => (cs, b, n, nt)
  | c :: l, cs, b, n, nt => if c = 32 then wsV l cs (b + 1) (n + 1) nt else wsV l (bump cs b) 0 (n + 1) (nt + 1)
noncomputable def wsG : List Nat → Nat → Int → Bool
  | [], _, _ => false
  | c :: l, m, b => if c = 32 then wsG l m (b + 1) else if (m : Int) ≤ b then true else wsG l m 0
noncomputable def wsK : List Nat → Nat → Int → Bool
  | [], _, _ => true
  | c :: l, m, b => if c = 32 then wsK l m (b + 1) else if c = 9 then (if (m : Int) ≤ b then wsK l (b.toNat + 1) 0 else !wsG l m 0 && wsK l m 0) else false
theorem zipI_un (cs : List (Int × Nat)) : zipI (cs.map (·.1)) (cs.map (·.2)) = inl cs := by
  unfold zipI
  congr 1
  induction cs with
  | nil => rfl
  | cons a l ih => rw [List.map_cons, List.map_cons, List.zip_cons_cons, ih]
noncomputable def RestC (P : Params) (rest : List DictEntry) (ef : Nat) : Prop := (rest = [] ∧ ef = 8) ∨ ∃ kc s0 st, rest = chE P kc s0 st ∧ ef = 9
section
variable {P : Params} {q : Iw} {ca : Addr} {cs : List (Int × Nat)} {ep : Nat} {b : Int} {tb : Nat} {n : Int} {tn : Nat} {nt : Int} {tnt : Nat} {rest : List DictEntry} {ef : Nat} {j jf : Int} {VF : List Int} {bF nF ntF : Int}
theorem wsoF (z : Nat → Nat) : OutF (cWs P q ca cs ep b tb n tn nt tnt rest ef j jf VF bF nF ntF false)
    { res := .ok .next, exp := [(1, (q.L, frO (addL (q.es P ca bF (z 3) nF (z 4) ntF (z 5)) (chE P (z 6) (z 7) (z 8))) 9)), (3, (q.it, siO (.str ⟨⟨q.x⟩⟩ q.t) jf)), (5, (ca, liO (zipI VF (lsO 10 z VF.length)) (z 9)))] } := by
  refine outE z fun sz tk => ⟨trivial, rfl, ?_, rfl, rfl⟩
  show [_, _, (ca, liO (zipI VF (lsO 10 (wit z sz tk) VF.length)) (z 9))] = [_, _, _]
  rw [lsO_wit _ _ _ _ (by decide)]; rfl
theorem wsoG (z : Nat → Nat) (a k : Nat) (hk : newHint 3 0 k = true) : OutF (cWs P q ca cs ep b tb n tn nt tnt rest ef j jf VF bF nF ntF true)
    { res := .ok .next, exp := [(1, (q.L, frO (addL (q.es P a bF (z 3) nF (z 4) ntF (z 5)) (chE P (z 6) (z 7) (z 8))) 9)), (3, (q.it, siO (.str ⟨⟨q.x⟩⟩ q.t) jf)), (5, (ca, liO (inl cs) ep)), (k, (a, liO (zipI VF (lsO 10 z VF.length)) (z 9)))] } := by
  have e : lsO 10 (fun i => if i = 2 then a else z i) VF.length = lsO 10 z VF.length := by
    unfold lsO
    apply List.map_congr_left
    intro i _
    exact if_neg (by lia)
  refine ⟨fun i => if i = 2 then a else z i, [(1, (q.L, frO (addL (q.es P a bF (z 3) nF (z 4) ntF (z 5)) (chE P (z 6) (z 7) (z 8))) 9)), (3, (q.it, siO (.str ⟨⟨q.x⟩⟩ q.t) jf)), (5, (ca, liO (inl cs) ep))], [(k, (a, liO (zipI VF (lsO 10 z VF.length)) (z 9)))], rfl, fun sz tk => ⟨trivial, rfl, rfl, ?_, rfl⟩, fun e q => ?_⟩
  · show [(a, liO (zipI VF (lsO 10 (wit (fun i => if i = 2 then a else z i) sz tk) VF.length)) (z 9))] = [_]
    rw [lsO_wit _ _ _ _ (by decide), e]
  · rw [List.mem_singleton.mp q]; exact hk
theorem wsoE {s1 kc st : Nat} (hV : VF = cs.map (·.1)) : OutF (cWs P q ca cs ep b tb n tn nt tnt rest ef j (j + 1) VF b n nt false)
    { res := .ok .next, exp := [(1, (q.L, frO (addL (q.es P ca b tb n tn nt tnt) (chE P kc s1 st)) 9)), (3, (q.it, siO (.str ⟨⟨q.x⟩⟩ q.t) (j + 1))), (5, (ca, liO (inl cs) ep))] } := by
  refine outE (mkO 10 (fun i => if i = 3 then tb else if i = 4 then tn else if i = 5 then tnt else if i = 6 then kc else if i = 7 then s1 else if i = 8 then st else ep) (cs.map (·.2))) fun sz tk => ⟨trivial, rfl, ?_, rfl, rfl⟩
  show [_, _, (ca, liO (zipI VF (lsO 10 (wit (mkO 10 _ (cs.map (·.2))) sz tk) VF.length)) ep)] = [_, _, _]
  rw [lsO_wit _ _ _ _ (by decide), lsO_mk' (by rw [hV]; simp), hV, zipI_un]; rfl
end
theorem bump_in {cs : List (Int × Nat)} {b v : Int} {tv tok : Nat} (h : cs[b.toNat]? = some (v, tv)) (hb : b < cs.length) : (cs.set b.toNat (v + 1, tok)).map (·.1) = bump (cs.map (·.1)) b := by
  unfold bump
  rw [List.length_map, show (b - (cs.length : Int) + 1).toNat = 0 by lia, List.replicate_zero, List.append_nil, List.map_set, List.getD_eq_getElem?_getD, List.getElem?_map, h]
  rfl
theorem bump_out {cs : List (Int × Nat)} {b : Int} {t0 t1 : Nat} (h0 : 0 ≤ b) (hb : cs.length ≤ b) : ((cs ++ List.replicate (b - cs.length + 1).toNat ((0 : Int), t0)).set b.toNat ((0 : Int) + 1, t1)).map (fun p : Int × Nat => p.1) = bump (cs.map (·.1)) b := by
  unfold bump
  rw [List.map_set, List.map_append, List.map_replicate, List.length_map, List.getD_eq_getElem?_getD, List.getElem?_append_right (by rw [List.length_map]; lia), List.length_map, List.getElem?_replicate]
  rw [if_pos (by lia)]
  rfl
section
variable (w : World) (b1 b2 : Bool)
theorem ws_ok {x tl : List Nat} {s1 : Nat} (h1 : s1 ≠ 32) (h2 : s1 ≠ 9) (l : List Nat) : ∀ (q : Iw) (ca : Addr) (cs : List (Int × Nat)) (ep : Nat) (b : Int) (tb : Nat) (n : Int) (tn : Nat) (nt : Int) (tnt : Nat) (rest : List DictEntry) (ef jn : Nat) (j jf : Int) (VF : List Int) (bF nF ntF : Int) (g : Bool),
    RestC (parOf w.params b1 b2) rest ef → q.x = x → x.drop jn = l ++ s1 :: tl → j = (jn : Nat) → jf = j + l.length + 1 → 0 ≤ b → b + l.length ≤ 100 → cs.length + l.length ≤ 100 → wsK l cs.length b = true → g = wsG l cs.length b → (VF, bF, nF, ntF) = wsV l (cs.map (·.1)) b n nt →
    VV w b1 b2 (cWs (parOf w.params b1 b2) q ca cs ep b tb n tn nt tnt rest ef j jf VF bF nF ntF g) := by
  have sq : ∀ c d : Nat, ([c] == [d]) = (c == d) := fun c d => by simp
  induction l with
  | nil =>
    intro q ca cs ep b tb n tn nt tnt rest ef jn j jf VF bF nF ntF g hr hx hd hj hjf hb0 hb hc hk hg hV
    have hg' : g = false := hg
    have e : VF = cs.map (·.1) ∧ bF = b ∧ nF = n ∧ ntF = nt := by
      have : (VF, bF, nF, ntF) = (cs.map (·.1), b, n, nt) := hV
      simpa using this
    obtain ⟨e1, rfl, rfl, rfl⟩ := e
    subst hg'
    have ej : jf = j + 1 := by rw [hjf]; simp
    subst ej
    have hc1 : q.x[j.toNat]? = some s1 := by
      rw [hj, Int.toNat_natCast, hx, show x[jn]? = (x.drop jn)[0]? by rw [List.getElem?_drop]; rfl, hd]; rfl
    rcases hr with ⟨rfl, rfl⟩ | ⟨kc, s0, st, rfl, rfl⟩
    · refine codeV (fun _ => rfl) 400 _ (fun m tk => r_wsE0 w.params b1 b2 q ca cs ep bF tb nF tn ntF tnt j VF s1 m tk) fun m tk => ?_
      exact ⟨cSNext_ok hc1, fun z0 _ => ⟨cStrEq_ok (by rw [sq]; simpa using h1), fun z1 _ => ⟨cStrEq_ok (by rw [sq]; simpa using h2), fun z2 _ => wsoE e1⟩⟩⟩
    · refine codeV (fun _ => rfl) 400 _ (fun m tk => r_wsE w.params b1 b2 q ca cs ep bF tb nF tn ntF tnt j VF s1 kc s0 st m tk) fun m tk => ?_
      exact ⟨cSNext_ok hc1, fun z0 _ => ⟨cStrEq_ok (by rw [sq]; simpa using h1), fun z1 _ => ⟨cStrEq_ok (by rw [sq]; simpa using h2), fun z2 _ => wsoE e1⟩⟩⟩
  | cons c l ih =>
    intro q ca cs ep b tb n tn nt tnt rest ef jn j jf VF bF nF ntF g hr hx hd hj hjf hb0 hb hc hk hg hV
    have hd' : x.drop (jn + 1) = l ++ s1 :: tl := by
      rw [← List.drop_drop, hd]; rfl
    have hc1 : q.x[j.toNat]? = some c := by
      rw [hj, Int.toNat_natCast, hx, show x[jn]? = (x.drop jn)[0]? by rw [List.getElem?_drop]; rfl, hd]; rfl
    rw [List.length_cons] at hb hc hjf
    have hc' : cs.length ≤ 1000 := by lia
    have lin : (((cs.length : Nat)) : Int) = ((inl cs).length : Nat) := by rw [inl_len]
    have lz : (inl cs).length ≤ 1000 := by rw [inl_len]; exact hc'
    by_cases h32 : c = 32
    · subst h32
      have hk' : wsK l cs.length (b + 1) = true := hk
      have hg' : g = wsG l cs.length (b + 1) := hg
      have hV' : (VF, bF, nF, ntF) = wsV l (cs.map (·.1)) (b + 1) (n + 1) nt := hV
      have RS : ∀ (q' : Iw) tb' tn' rest', q'.x = q.x → RestC (parOf w.params b1 b2) rest' 9 → VV w b1 b2 (cWs (parOf w.params b1 b2) q' ca cs ep (b + 1) tb' (n + 1) tn' nt tnt rest' 9 (j + 1) jf VF bF nF ntF g) := fun q' tb' tn' rest' e1 e2 =>
        ih q' ca cs ep (b + 1) tb' (n + 1) tn' nt tnt rest' 9 (jn + 1) (j + 1) jf VF bF nF ntF g e2 (e1.trans hx) hd' (by lia) (by lia) (by lia) (by lia) (by lia) hk' hg' hV'
      clear hg hg' hV hV' hk hk'
      rcases hr with ⟨rfl, rfl⟩ | ⟨kc, s0, st, rfl, rfl⟩
      · cases g
        · refine codeV (fun _ => rfl) 400 _ (fun m tk => r_wsS0 w.params b1 b2 q ca cs ep b tb n tn nt tnt j jf VF bF nF ntF m tk) fun m tk => ?_
          exact ⟨cSNext_ok hc1, fun z0 _ => ⟨cStrEq_ok (by rfl), fun z1 _ => ⟨RS _ _ _ _ (by rfl) (.inr ⟨_, _, _, rfl, rfl⟩), fun z2 _ => wsoF z2⟩⟩⟩
        · refine codeV (fun _ => rfl) 400 _ (fun m tk => r_wsSg0 w.params b1 b2 q ca cs ep b tb n tn nt tnt j jf VF bF nF ntF m tk) fun m tk => ?_
          exact ⟨cSNext_ok hc1, fun z0 _ => ⟨cStrEq_ok (by rfl), fun z1 _ => ⟨RS _ _ _ _ (by rfl) (.inr ⟨_, _, _, rfl, rfl⟩), fun z2 _ => wsoG z2 (z2 2) _ (by rfl)⟩⟩⟩
      · cases g
        · refine codeV (fun _ => rfl) 400 _ (fun m tk => r_wsS w.params b1 b2 q ca cs ep b tb n tn nt tnt j jf VF bF nF ntF kc s0 st m tk) fun m tk => ?_
          exact ⟨cSNext_ok hc1, fun z0 _ => ⟨cStrEq_ok (by rfl), fun z1 _ => ⟨RS _ _ _ _ (by rfl) (.inr ⟨_, _, _, rfl, rfl⟩), fun z2 _ => wsoF z2⟩⟩⟩
        · refine codeV (fun _ => rfl) 400 _ (fun m tk => r_wsSg w.params b1 b2 q ca cs ep b tb n tn nt tnt j jf VF bF nF ntF kc s0 st m tk) fun m tk => ?_
          exact ⟨cSNext_ok hc1, fun z0 _ => ⟨cStrEq_ok (by rfl), fun z1 _ => ⟨RS _ _ _ _ (by rfl) (.inr ⟨_, _, _, rfl, rfl⟩), fun z2 _ => wsoG z2 (z2 2) _ (by rfl)⟩⟩⟩
    · have hk0 : (if c = 9 then (if (cs.length : Int) ≤ b then wsK l (b.toNat + 1) 0 else !wsG l cs.length 0 && wsK l cs.length 0) else false) = true := by
        have := hk
        unfold wsK at this
        rwa [if_neg h32] at this
      have h9 : c = 9 := by
        by_cases h : c = 9
        · exact h
        · rw [if_neg h] at hk0; cases hk0
      subst h9
      rw [if_pos rfl] at hk0
      have hg0 : g = if (cs.length : Int) ≤ b then true else wsG l cs.length 0 := hg
      have hV0 : (VF, bF, nF, ntF) = wsV l (bump (cs.map (·.1)) b) 0 (n + 1) (nt + 1) := hV
      clear hg hV hk
      by_cases hbm : (cs.length : Int) ≤ b
      · rw [if_pos hbm] at hk0 hg0
        subst hg0
        have lf : ∀ t0 t1 : Nat, ((cs ++ List.replicate (b - cs.length + 1).toNat ((0 : Int), t0)).set b.toNat (0 + 1, t1)).length = b.toNat + 1 := fun t0 t1 => by
          rw [List.length_set, List.length_append, List.length_replicate]; lia
        have RT : ∀ (g' : Bool) (q' : Iw) t0 t1 ca' tb' tn' tnt' rest', g' = wsG l (b.toNat + 1) 0 → q'.x = q.x → RestC (parOf w.params b1 b2) rest' 9 → VV w b1 b2 (cWs (parOf w.params b1 b2) q' ca' ((cs ++ List.replicate (b - cs.length + 1).toNat ((0 : Int), t0)).set b.toNat (0 + 1, t1)) 0 0 tb' (n + 1) tn' (nt + 1) tnt' rest' 9 (j + 1) jf VF bF nF ntF g') := fun g' q' t0 t1 ca' tb' tn' tnt' rest' e0 e1 e2 =>
          ih q' ca' _ 0 0 tb' (n + 1) tn' (nt + 1) tnt' rest' 9 (jn + 1) (j + 1) jf VF bF nF ntF g' e2 (e1.trans hx) hd' (by lia) (by lia) (by lia) (by lia) (by rw [lf]; lia) (by rw [lf]; exact hk0) (by rw [lf]; exact e0) (by rw [bump_out hb0 hbm]; exact hV0)
        have gv : ∀ t0 : Nat, (inl cs ++ List.replicate (b - cs.length + 1).toNat (Value.int 0 t0))[b.toNat]? = some (.int 0 t0) := fun t0 => by
          rw [List.getElem?_append_right (by rw [inl_len]; lia), inl_len, List.getElem?_replicate, if_pos (by lia)]
        have gs : ∀ t0 t1 : Nat, (inl cs ++ List.replicate (b - cs.length + 1).toNat (Value.int 0 t0)).set b.toNat (.int (0 + 1) t1) = inl ((cs ++ List.replicate (b - cs.length + 1).toNat ((0 : Int), t0)).set b.toNat (0 + 1, t1)) := fun t0 t1 => by
          unfold inl
          rw [List.map_set, List.map_append, List.map_replicate]
        have gl : ∀ t0 : Nat, b < ((inl cs ++ List.replicate (b - cs.length + 1).toNat (Value.int 0 t0)).length : Nat) := fun t0 => by
          rw [List.length_append, inl_len, List.length_replicate]; lia
        have add : ∀ t0 : Nat, (inl cs).length + (List.replicate (b - cs.length + 1).toNat (Value.int 0 t0)).length ≤ sizeLine := fun t0 => by
          rw [inl_len, List.length_replicate, sizeLine_eq]; lia
        have f63 : b < 2 ^ 63 := by lia
        rcases hr with ⟨rfl, rfl⟩ | ⟨kc, s0, st, rfl, rfl⟩
        · cases hgr : wsG l (b.toNat + 1) 0
          · refine codeV (fun _ => rfl) 400 _ (fun m tk => r_wsTo0 w.params b1 b2 q ca cs ep b tb n tn nt tnt j jf VF bF nF ntF (fun t0 t1 => (cs ++ List.replicate (b - cs.length + 1).toNat ((0 : Int), t0)).set b.toNat (0 + 1, t1)) m tk) fun m tk => ?_
            exact ⟨cSNext_ok hc1, fun z0 _ => ⟨cStrEq_ok (by rfl), fun z1 _ => ⟨cStrEq_ok (by rfl), fun z2 _ => ⟨cLenL_ok lin lz, fun z3 _ => ⟨cGe_ok (by simpa using hbm), fun z4 _ => ⟨cLenL_ok lin lz, fun z5 _ => ⟨cMulL_ok (by lia) (by lia), fun z6 _ => ⟨cAddL_ok (add _), fun z7 _ => ⟨cGet_ok hb0 f63 (gv _), fun z8 _ => ⟨cSetV_ok hb0 f63 (gl _) (gs _ _), fun z9 _ => ⟨RT _ _ _ _ _ _ _ _ _ hgr.symm (by rfl) (.inr ⟨_, _, _, rfl, rfl⟩), fun z10 _ => wsoG z10 (z7 2) _ (by rfl)⟩⟩⟩⟩⟩⟩⟩⟩⟩⟩⟩
          · refine codeV (fun _ => rfl) 400 _ (fun m tk => r_wsTog0 w.params b1 b2 q ca cs ep b tb n tn nt tnt j jf VF bF nF ntF (fun t0 t1 => (cs ++ List.replicate (b - cs.length + 1).toNat ((0 : Int), t0)).set b.toNat (0 + 1, t1)) m tk) fun m tk => ?_
            exact ⟨cSNext_ok hc1, fun z0 _ => ⟨cStrEq_ok (by rfl), fun z1 _ => ⟨cStrEq_ok (by rfl), fun z2 _ => ⟨cLenL_ok lin lz, fun z3 _ => ⟨cGe_ok (by simpa using hbm), fun z4 _ => ⟨cLenL_ok lin lz, fun z5 _ => ⟨cMulL_ok (by lia) (by lia), fun z6 _ => ⟨cAddL_ok (add _), fun z7 _ => ⟨cGet_ok hb0 f63 (gv _), fun z8 _ => ⟨cSetV_ok hb0 f63 (gl _) (gs _ _), fun z9 _ => ⟨RT _ _ _ _ _ _ _ _ _ hgr.symm (by rfl) (.inr ⟨_, _, _, rfl, rfl⟩), fun z10 _ => wsoG z10 (z10 2) _ (by rfl)⟩⟩⟩⟩⟩⟩⟩⟩⟩⟩⟩
        · cases hgr : wsG l (b.toNat + 1) 0
          · refine codeV (fun _ => rfl) 400 _ (fun m tk => r_wsTo w.params b1 b2 q ca cs ep b tb n tn nt tnt j jf VF bF nF ntF (fun t0 t1 => (cs ++ List.replicate (b - cs.length + 1).toNat ((0 : Int), t0)).set b.toNat (0 + 1, t1)) kc s0 st m tk) fun m tk => ?_
            exact ⟨cSNext_ok hc1, fun z0 _ => ⟨cStrEq_ok (by rfl), fun z1 _ => ⟨cStrEq_ok (by rfl), fun z2 _ => ⟨cLenL_ok lin lz, fun z3 _ => ⟨cGe_ok (by simpa using hbm), fun z4 _ => ⟨cLenL_ok lin lz, fun z5 _ => ⟨cMulL_ok (by lia) (by lia), fun z6 _ => ⟨cAddL_ok (add _), fun z7 _ => ⟨cGet_ok hb0 f63 (gv _), fun z8 _ => ⟨cSetV_ok hb0 f63 (gl _) (gs _ _), fun z9 _ => ⟨RT _ _ _ _ _ _ _ _ _ hgr.symm (by rfl) (.inr ⟨_, _, _, rfl, rfl⟩), fun z10 _ => wsoG z10 (z7 2) _ (by rfl)⟩⟩⟩⟩⟩⟩⟩⟩⟩⟩⟩
          · refine codeV (fun _ => rfl) 400 _ (fun m tk => r_wsTog w.params b1 b2 q ca cs ep b tb n tn nt tnt j jf VF bF nF ntF (fun t0 t1 => (cs ++ List.replicate (b - cs.length + 1).toNat ((0 : Int), t0)).set b.toNat (0 + 1, t1)) kc s0 st m tk) fun m tk => ?_
            exact ⟨cSNext_ok hc1, fun z0 _ => ⟨cStrEq_ok (by rfl), fun z1 _ => ⟨cStrEq_ok (by rfl), fun z2 _ => ⟨cLenL_ok lin lz, fun z3 _ => ⟨cGe_ok (by simpa using hbm), fun z4 _ => ⟨cLenL_ok lin lz, fun z5 _ => ⟨cMulL_ok (by lia) (by lia), fun z6 _ => ⟨cAddL_ok (add _), fun z7 _ => ⟨cGet_ok hb0 f63 (gv _), fun z8 _ => ⟨cSetV_ok hb0 f63 (gl _) (gs _ _), fun z9 _ => ⟨RT _ _ _ _ _ _ _ _ _ hgr.symm (by rfl) (.inr ⟨_, _, _, rfl, rfl⟩), fun z10 _ => wsoG z10 (z10 2) _ (by rfl)⟩⟩⟩⟩⟩⟩⟩⟩⟩⟩⟩
      · rw [if_neg hbm] at hk0 hg0
        rw [Bool.and_eq_true, Bool.not_eq_true'] at hk0
        rw [hk0.1] at hg0
        subst hg0
        obtain ⟨v, tv, hv⟩ : ∃ v tv, cs[b.toNat]? = some (v, tv) := ⟨_, _, List.getElem?_eq_getElem (by lia)⟩
        have RT : ∀ (q' : Iw) t1 tb' tn' tnt' rest', q'.x = q.x → RestC (parOf w.params b1 b2) rest' 9 → VV w b1 b2 (cWs (parOf w.params b1 b2) q' ca (cs.set b.toNat (v + 1, t1)) ep 0 tb' (n + 1) tn' (nt + 1) tnt' rest' 9 (j + 1) jf VF bF nF ntF false) := fun q' t1 tb' tn' tnt' rest' e1 e2 =>
          ih q' ca _ ep 0 tb' (n + 1) tn' (nt + 1) tnt' rest' 9 (jn + 1) (j + 1) jf VF bF nF ntF false e2 (e1.trans hx) hd' (by lia) (by lia) (by lia) (by lia) (by rw [List.length_set]; lia) (by rw [List.length_set]; exact hk0.2) (by rw [List.length_set]; exact hk0.1.symm) (by rw [bump_in hv (by lia)]; exact hV0)
        have gv : (inl cs)[b.toNat]? = some (.int v tv) := by
          unfold inl; rw [List.getElem?_map, hv]; rfl
        have gs : ∀ t1 : Nat, (inl cs).set b.toNat (.int (v + 1) t1) = inl (cs.set b.toNat (v + 1, t1)) := fun t1 => by
          unfold inl; rw [List.map_set]
        have gl : b < ((inl cs).length : Nat) := by rw [inl_len]; lia
        have f63 : b < 2 ^ 63 := by lia
        rcases hr with ⟨rfl, rfl⟩ | ⟨kc, s0, st, rfl, rfl⟩
        · refine codeV (fun _ => rfl) 400 _ (fun m tk => r_wsTi0 w.params b1 b2 q ca cs ep b tb n tn nt tnt j jf VF bF nF ntF v tv (fun t1 => cs.set b.toNat (v + 1, t1)) m tk) fun m tk => ?_
          exact ⟨cSNext_ok hc1, fun z0 _ => ⟨cStrEq_ok (by rfl), fun z1 _ => ⟨cStrEq_ok (by rfl), fun z2 _ => ⟨cLenL_ok lin lz, fun z3 _ => ⟨cGe_ok (by simpa using hbm), fun z4 _ => ⟨cGet_ok hb0 f63 gv, fun z5 _ => ⟨cSetV_ok hb0 f63 gl (gs _), fun z6 _ => ⟨RT _ _ _ _ _ _ (by rfl) (.inr ⟨_, _, _, rfl, rfl⟩), fun z7 _ => wsoF z7⟩⟩⟩⟩⟩⟩⟩⟩
        · refine codeV (fun _ => rfl) 400 _ (fun m tk => r_wsTi w.params b1 b2 q ca cs ep b tb n tn nt tnt j jf VF bF nF ntF v tv (fun t1 => cs.set b.toNat (v + 1, t1)) kc s0 st m tk) fun m tk => ?_
          exact ⟨cSNext_ok hc1, fun z0 _ => ⟨cStrEq_ok (by rfl), fun z1 _ => ⟨cStrEq_ok (by rfl), fun z2 _ => ⟨cLenL_ok lin lz, fun z3 _ => ⟨cGe_ok (by simpa using hbm), fun z4 _ => ⟨cGet_ok hb0 f63 gv, fun z5 _ => ⟨cSetV_ok hb0 f63 gl (gs _), fun z6 _ => ⟨RT _ _ _ _ _ _ (by rfl) (.inr ⟨_, _, _, rfl, rfl⟩), fun z7 _ => wsoF z7⟩⟩⟩⟩⟩⟩⟩⟩
end
noncomputable def H_initFk1 (P : Params) (sx dx : Addr) (x : List Nat) (t : Nat) (VF : List Int) (bF nF ntF : Int) (sm : Bool) (n tk : Nat) (z1 z2 : Nat → Nat) : HT := .go [17,17,0,17,17,3,3,2,0,0,0,0,2,0,2,0,2,0,0,0,2,0,1,0,1,0,0,3,1] (.cut (cLenL 13 (n + 5) (zipI VF (lsO 10 z1 VF.length)) (z1 9) (VF.length : Nat)) fun z3 => .go [1] (.cut (cLe (↑VF.length : Int) 1 (z3 2) (z3 1) sm) fun z4 => .go [3,2,0,0,0,0,2,0,2,0,2,0,0,0,2,0,1,0,1] (.nil { res := .ok (.ret Value.none), exp := [(1, (({ x := sx, dx := dx, nm := z2 0, ct := z2 2, raw := ⟨⟨x⟩⟩, rt := t, n := nF, tn := z1 4, nt := ntF, tnt := z1 5, cs := [], b := bF, tb := z1 3, k1 := tk + 3, k2 := z1 1 + 1, k3 := z1 1 + 3, k4 := z2 1 + 1, k5 := z4 1 + 1, sm := sm } : Mk).dict P)), (19, (z2 0, tuO [.ref (z2 2), .int bF (z1 3)] 0)), (17, (z2 2, tuO (zipI VF (lsO 10 z1 VF.length)) 0))] })))
noncomputable def H_initF (P : Params) (h : Nat) (sx dx : Addr) (x : List Nat) (t : Nat) (VF : List Int) (bF nF ntF : Int) (sm : Bool) (jf : Int) (n tk : Nat) : HT := .go [3,1,3,1,3,3,2,0,0,0,0,2,0,2,0,2,0,0,0,2,0,1,0,1,0,0,0,0,0,0,0,0,0,0,0,0,0,0,0,0,0,0,5,5,5,0,5,7,7,0,7,7,7,5,7,3,7,0,7,7,7,5,7,3,7,0,7,7,7,5,7,3,11,3,1,3,1,3,1,3,1,3,1,3,1,3,2,0,0,0,0,2,0,0,0,2,2,0,1,1] (.cut (cStrIter ({ cps := { toList := x } }) t) fun z0 => .go [15,1] (.cut (cWs P { L := n, it := (z0 2), sx := sx, x := x, t := t, k1 := tk, k2 := (tk + 1), k3 := (tk + 6), k4 := (tk + 7), k5 := (tk + 8), k6 := (tk + 10), k7 := (tk + 11), k8 := (tk + 12), i0 := 1, i1 := 7, i2 := 6 } (n + 5) [] 0 0 (tk + 9) 0 (tk + 9) 0 (tk + 9) [] 8 0 jf VF bF nF ntF false) fun z1 => .go [3,3,2,0,0,0,0,2,0,2,0,2,0,0,0,2,0,1,0,1,3,3,2,0,0,0,0,2,0,2,0,2,0,0,0,2,0,1,0,1,0,0,3,0,1] (.cut (cTupNew 13 (n + 5) (zipI VF (lsO 10 z1 VF.length)) (z1 9)) fun z2 => (H_initFk1 P sx dx x t VF bF nF ntF sm n tk z1 z2))))
theorem r_initF (P : Params) (b1 b2 : Bool) (h : Nat) (sx dx : Addr) (x : List Nat) (t : Nat) (VF : List Int) (bF nF ntF : Int) (sm : Bool) (jf : Int) (n tk : Nat) : (RunF (parOf P b1 b2) (cInit (parOf P b1 b2) h sx dx x t VF bF nF ntF sm) 38 fd38 [.ref sx, .str ⟨⟨x⟩⟩ t] 400 (H_initF (parOf P b1 b2) h sx dx x t VF bF nF ntF sm jf n tk) n tk).Ok := by
  cases b1 <;> (show OT.l _ = OT.r _; kernel_rfl)
noncomputable def H_initTk1 (P : Params) (sx dx : Addr) (x : List Nat) (t : Nat) (VF : List Int) (bF nF ntF : Int) (sm : Bool) (n tk : Nat) (z1 z2 : Nat → Nat) : HT := .go [17,17,0,17,17,3,3,2,0,0,0,0,2,0,2,0,2,0,0,0,2,0,1,0,1,0,0,3,1] (.cut (cLenL 4 (z1 2) (zipI VF (lsO 10 z1 VF.length)) (z1 9) (VF.length : Nat)) fun z3 => .go [1] (.cut (cLe (↑VF.length : Int) 1 (z3 2) (z3 1) sm) fun z4 => .go [3,2,0,0,0,0,2,0,2,0,2,0,0,0,2,0,1,0,1] (.nil { res := .ok (.ret Value.none), exp := [(1, (({ x := sx, dx := dx, nm := z2 0, ct := z2 2, raw := ⟨⟨x⟩⟩, rt := t, n := nF, tn := z1 4, nt := ntF, tnt := z1 5, cs := [], b := bF, tb := z1 3, k1 := tk + 3, k2 := z1 1 + 1, k3 := z1 1 + 3, k4 := z2 1 + 1, k5 := z4 1 + 1, sm := sm } : Mk).dict P)), (19, (z2 0, tuO [.ref (z2 2), .int bF (z1 3)] 0)), (17, (z2 2, tuO (zipI VF (lsO 10 z1 VF.length)) 0))] })))
noncomputable def H_initT (P : Params) (h : Nat) (sx dx : Addr) (x : List Nat) (t : Nat) (VF : List Int) (bF nF ntF : Int) (sm : Bool) (jf : Int) (n tk : Nat) : HT := .go [3,1,3,1,3,3,2,0,0,0,0,2,0,2,0,2,0,0,0,2,0,1,0,1,0,0,0,0,0,0,0,0,0,0,0,0,0,0,0,0,0,0,5,5,5,0,5,7,7,0,7,7,7,5,7,3,7,0,7,7,7,5,7,3,7,0,7,7,7,5,7,3,11,3,1,3,1,3,1,3,1,3,1,3,1,3,2,0,0,0,0,2,0,0,0,2,2,0,1,1] (.cut (cStrIter ({ cps := { toList := x } }) t) fun z0 => .go [15,1] (.cut (cWs P { L := n, it := (z0 2), sx := sx, x := x, t := t, k1 := tk, k2 := (tk + 1), k3 := (tk + 6), k4 := (tk + 7), k5 := (tk + 8), k6 := (tk + 10), k7 := (tk + 11), k8 := (tk + 12), i0 := 1, i1 := 7, i2 := 6 } (n + 5) [] 0 0 (tk + 9) 0 (tk + 9) 0 (tk + 9) [] 8 0 jf VF bF nF ntF true) fun z1 => .go [3,3,2,0,0,0,0,2,0,2,0,2,0,0,0,2,0,1,0,1,3,3,2,0,0,0,0,2,0,2,0,2,0,0,0,2,0,1,0,1,0,0,3,0,1] (.cut (cTupNew 4 (z1 2) (zipI VF (lsO 10 z1 VF.length)) (z1 9)) fun z2 => (H_initTk1 P sx dx x t VF bF nF ntF sm n tk z1 z2))))
theorem r_initT (P : Params) (b1 b2 : Bool) (h : Nat) (sx dx : Addr) (x : List Nat) (t : Nat) (VF : List Int) (bF nF ntF : Int) (sm : Bool) (jf : Int) (n tk : Nat) : (RunF (parOf P b1 b2) (cInit (parOf P b1 b2) h sx dx x t VF bF nF ntF sm) 38 fd38 [.ref sx, .str ⟨⟨x⟩⟩ t] 400 (H_initT (parOf P b1 b2) h sx dx x t VF bF nF ntF sm jf n tk) n tk).Ok := by
  cases b1 <;> (show OT.l _ = OT.r _; kernel_rfl)
noncomputable def H_cls (P : Params) (x : List Nat) (t : Nat) (VF : List Int) (bF nF ntF : Int) (sm : Bool) (n tk : Nat) : HT := .go [0,0,0,0,0,0,0,0,0,0,0,0,0,0,0,0,0,0,0,0,0,0,0,0,0,0,0,3,0,3,0,0,0,0,1] (.cut (cInit P 3 (n + 1) (n + 0) x t VF bF nF ntF sm) fun z0 => .go [] (.nil { res := .ok (.ret (Value.ref (n + 1))), exp := [(3, (mkW (n + 1) (n + 0) x t VF bF nF ntF sm z0).inst), (1, (mkW (n + 1) (n + 0) x t VF bF nF ntF sm z0).dict P), (2, (mkW (n + 1) (n + 0) x t VF bF nF ntF sm z0).norm), (4, (mkW (n + 1) (n + 0) x t VF bF nF ntF sm z0).cnt)] }))
theorem r_cls (P : Params) (b1 b2 : Bool) (x : List Nat) (t : Nat) (VF : List Int) (bF nF ntF : Int) (sm : Bool) (n tk : Nat) : (RunC (parOf P b1 b2) (cCls (parOf P b1 b2) x t VF bF nF ntF sm) 400 (H_cls (parOf P b1 b2) x t VF bF nF ntF sm n tk) n tk).Ok := by
  cases b1 <;> (show OT.l _ = OT.r _; kernel_rfl)
theorem cvals_inl : ∀ l : List (Int × Nat), cvals l = inl l
  | [] => rfl
  | (i, t) :: l => by
    show Value.int i t :: cvals l = Value.int i t :: inl l
    rw [cvals_inl l]
theorem fn38 (P : Params) : FnAt (kt P) 38 fd38 (dBody (meth 1)) := ⟨⟨fnO fd38, by kernel_rfl!, rfl⟩, by kernel_rfl!, by kernel_rfl!, by kernel_rfl!, ⟨37, o37, _, 214, by kernel_rfl!, by kernel_rfl!, rfl, by kernel_rfl!⟩, by kernel_rfl!⟩
theorem init_out {P : Params} {h : Nat} {sx dx : Addr} {x : List Nat} {t : Nat} {VF : List Int} {b n nt : Int} {sm : Bool} {nm ct tn tnt tb k1 k2 k3 k4 k5 : Nat} {z : Nat → Nat} : OutF (cInit P h sx dx x t VF b n nt sm)
    { res := .ok (.ret .none), exp := [(1, (({ x := sx, dx := dx, nm := nm, ct := ct, raw := ⟨⟨x⟩⟩, rt := t, n := n, tn := tn, nt := nt, tnt := tnt, cs := [], b := b, tb := tb, k1 := k1, k2 := k2, k3 := k3, k4 := k4, k5 := k5, sm := sm } : Mk).dict P)), (19, (nm, tuO [.ref ct, .int b tb] 0)), (17, (ct, tuO (zipI VF (lsO 10 z VF.length)) 0))] } := by
  refine ⟨mkO 20 (fun i => if i = 2 then nm else if i = 3 then ct else if i = 4 then tn else if i = 5 then tnt else if i = 6 then tb else if i = 7 then k1 else if i = 8 then k2 else if i = 9 then k3 else if i = 10 then k4 else k5) (lsO 10 z VF.length), _, [(19, (nm, tuO [.ref ct, .int b tb] 0)), (17, (ct, tuO (zipI VF (lsO 10 z VF.length)) 0))], (by rfl : _ = [_] ++ _), fun sz tk => ⟨trivial, rfl, rfl, ?_, rfl⟩, fun e q => ?_⟩
  · show [(nm, tuO [.ref ct, .int b tb] 0), (ct, tuO (cvals (VF.zip (lsO 20 (wit (mkO 20 _ (lsO 10 z VF.length)) sz tk) VF.length))) 0)] = [_, _]
    rw [lsO_wit _ _ _ _ (by decide), lsO_mk' (lsO_len _ _ _), cvals_inl]; rfl
  · cases q with
    | head => kernel_rfl!
    | tail _ q => cases q with
      | head => kernel_rfl!
      | tail _ q => cases q
section
variable (w : World) (b1 b2 : Bool)
theorem init_ok {l tl : List Nat} {s1 : Nat} (h1 : s1 ≠ 32) (h2 : s1 ≠ 9) {x : List Nat} (hx : x = l ++ s1 :: tl) (hA : (⟨x⟩ : Array Nat).all (· < 128) = true) (hl : l.length ≤ 50) (hk : wsK l 0 0 = true) {VF : List Int} {b n nt : Int} (hV : (VF, b, n, nt) = wsV l [] 0 0 0) (hz : VF.length ≤ 1000) {sm : Bool} (hs : sm = decide ((VF.length : Int) ≤ 1)) {h : Nat} {sx dx : Addr} {t : Nat} :
    VV w b1 b2 (cInit (parOf w.params b1 b2) h sx dx x t VF b n nt sm) := by
  have W : ∀ (q : Iw) ca tb tn tnt g, q.x = x → g = wsG l 0 0 → VV w b1 b2 (cWs (parOf w.params b1 b2) q ca [] 0 0 tb 0 tn 0 tnt [] 8 0 ((l.length : Int) + 1) VF b n nt g) := fun q ca tb tn tnt g e1 e2 =>
    ws_ok w b1 b2 h1 h2 l q ca [] 0 0 tb 0 tn 0 tnt [] 8 0 0 ((l.length : Int) + 1) VF b n nt g (.inl ⟨rfl, rfl⟩) e1 hx rfl (by lia) (by lia) (by lia) (by show 0 + l.length ≤ 100; lia) hk e2 hV
  have el : ∀ z : Nat → Nat, (zipI VF (lsO 10 z VF.length)).length = VF.length := fun z => by
    unfold zipI
    rw [inl_len, List.length_zip, lsO_len, Nat.min_self]
  cases hg : wsG l 0 0 with
  | false =>
    refine fnV (fn38 _) rfl (show 1 ≤ 3 by decide) (fun _ => rfl) 400 _ (fun m tk => r_initF w.params b1 b2 h sx dx x t VF b n nt sm ((l.length : Int) + 1) m tk) fun m tk => ?_
    exact ⟨cStrIter_ok hA, fun z0 _ => ⟨W _ _ _ _ _ _ (by rfl) hg.symm, fun z1 _ => ⟨cTupNew_ok (by rw [el]; exact hz), fun z2 _ => ⟨cLenL_ok (by rw [el]) (by rw [el]; exact hz), fun z3 _ => ⟨cLe_ok (by rw [hs]), fun z4 _ => init_out⟩⟩⟩⟩⟩
  | true =>
    refine fnV (fn38 _) rfl (show 1 ≤ 3 by decide) (fun _ => rfl) 400 _ (fun m tk => r_initT w.params b1 b2 h sx dx x t VF b n nt sm ((l.length : Int) + 1) m tk) fun m tk => ?_
    exact ⟨cStrIter_ok hA, fun z0 _ => ⟨W _ _ _ _ _ _ (by rfl) hg.symm, fun z1 _ => ⟨cTupNew_ok (by rw [el]; exact hz), fun z2 _ => ⟨cLenL_ok (by rw [el]) (by rw [el]; exact hz), fun z3 _ => ⟨cLe_ok (by rw [hs]), fun z4 _ => init_out⟩⟩⟩⟩⟩
theorem lsO_if (z : Nat → Nat) (a b k : Nat) : lsO 20 (fun i => if i = 12 then a else if i = 13 then b else z i) k = lsO 20 z k := by
  unfold lsO
  apply List.map_congr_left
  intro i _
  show (if i + 20 = 12 then a else if i + 20 = 13 then b else z (i + 20)) = z (i + 20)
  rw [if_neg (by lia), if_neg (by lia)]
/-- the class called: a new mark -/
theorem cls_ok {l tl : List Nat} {s1 : Nat} (h1 : s1 ≠ 32) (h2 : s1 ≠ 9) {x : List Nat} (hx : x = l ++ s1 :: tl) (hA : (⟨x⟩ : Array Nat).all (· < 128) = true) (hl : l.length ≤ 50) (hk : wsK l 0 0 = true) {VF : List Int} {b n nt : Int} (hV : (VF, b, n, nt) = wsV l [] 0 0 0) (hz : VF.length ≤ 1000) {sm : Bool} (hs : sm = decide ((VF.length : Int) ≤ 1)) {t : Nat} :
    VV w b1 b2 (cCls (parOf w.params b1 b2) x t VF b n nt sm) := by
  refine codeV (fun _ => rfl) 400 _ (fun m tk => r_cls w.params b1 b2 x t VF b n nt sm m tk) fun m tk => ?_
  refine ⟨init_ok w b1 b2 h1 h2 hx hA hl hk hV hz hs, fun z0 _ => ?_⟩
  refine outN (fun i => if i = 12 then m + 1 else if i = 13 then m + 0 else z0 i) (fun sz tk' => ⟨trivial, rfl, ?_⟩) rfl (fun _ => rfl) (by
    intro e he
    cases he with
    | head => kernel_rfl!
    | tail _ he => cases he with
      | head => kernel_rfl!
      | tail _ he => cases he with
        | head => kernel_rfl!
        | tail _ he => cases he with
          | head => kernel_rfl!
          | tail _ he => cases he)
  have e : lsO 20 (wit (fun i => if i = 12 then m + 1 else if i = 13 then m + 0 else z0 i) sz tk') VF.length = lsO 20 z0 VF.length := by
    rw [lsO_wit _ _ _ _ (by decide), lsO_if]
  show [_, _, _, (z0 3, tuO (cvals (VF.zip (lsO 20 (wit (fun i => if i = 12 then m + 1 else if i = 13 then m + 0 else z0 i) sz tk') VF.length))) 0)] = [_, _, _, _]
  rw [e]; rfl
end
noncomputable def H_rd4k5 (P : Params) (d : Rd) (t : Nat) (n : Nat) (z1 z2 z5 z6 z9 z10 z13 z14 : Nat → Nat) : HT := .go [40,40,40,0,40,29,29,0,29,29,29,40,29,14,29,0,29,29,29,40,29,14,29,0,29,29,29,40,29,14,33,1,0,1,0,1,3,3,3,3,1,1,1] (.cut (cApp 1 (n + 1) ([Value.ref (z2 0 + 3), Value.ref (z6 0 + 3), Value.ref (z10 0 + 3)]) 3 (Value.ref (z14 0 + 3))) fun z15 => .go [1,1] (.cut (cStrNe ⟨⟨[]⟩⟩ ⟨⟨[]⟩⟩ (z14 4) (z15 1) false) fun z16 => .go [1] (.nil { res := .ok (.ret (Value.ref (n + 1))), exp := [(3, (n + 1, liO [.ref (z2 0 + 3), .ref (z6 0 + 3), .ref (z10 0 + 3), .ref (z14 0 + 3)] 4)), (2, (d.mark 0 t z1).inst), (4, (d.mark 0 t z1).dict P), (6, (d.mark 0 t z1).norm), (8, (d.mark 0 t z1).cnt), (11, (z2 0 + 3, tuO [.ref (z1 12), .str ⟨⟨d.T 0⟩⟩ (z2 3)] 0)), (12, (d.mark 1 (z2 4) z5).inst), (14, (d.mark 1 (z2 4) z5).dict P), (16, (d.mark 1 (z2 4) z5).norm), (18, (d.mark 1 (z2 4) z5).cnt), (19, (z6 0 + 3, tuO [.ref (z5 12), .str ⟨⟨d.T 1⟩⟩ (z6 3)] 0)), (22, (d.mark 2 (z6 4) z9).inst), (24, (d.mark 2 (z6 4) z9).dict P), (26, (d.mark 2 (z6 4) z9).norm), (28, (d.mark 2 (z6 4) z9).cnt), (27, (z10 0 + 3, tuO [.ref (z9 12), .str ⟨⟨d.T 2⟩⟩ (z10 3)] 0)), (32, (d.mark 3 (z10 4) z13).inst), (34, (d.mark 3 (z10 4) z13).dict P), (36, (d.mark 3 (z10 4) z13).norm), (38, (d.mark 3 (z10 4) z13).cnt), (35, (z14 0 + 3, tuO [.ref (z13 12), .str ⟨⟨d.T 3⟩⟩ (z14 3)] 0))] })))
noncomputable def H_rd4k4 (P : Params) (d : Rd) (t : Nat) (n : Nat) (z1 z2 z5 z6 z9 z10 z11 : Nat → Nat) : HT := .go [1,1] (.cut (cStrNe ⟨⟨d.X 3⟩⟩ ⟨⟨[]⟩⟩ (z10 4) (z11 1) true) fun z12 => .go [0,1,0,0,1] (.cut (cCls P (d.X 3) (z10 4) (d.VF 3) (d.b 3) (d.n 3) (d.nt 3) (d.sm 3)) fun z13 => .go [1,0,0,1,0,1] (.cut (cSd (d.X 3) (z10 4) (d.T 3) ([])) fun z14 => (H_rd4k5 P d t n z1 z2 z5 z6 z9 z10 z13 z14))))
noncomputable def H_rd4k3 (P : Params) (d : Rd) (t : Nat) (n : Nat) (z1 z2 z5 z6 : Nat → Nat) : HT := .go [0,1,0,0,1] (.cut (cCls P (d.X 2) (z6 4) (d.VF 2) (d.b 2) (d.n 2) (d.nt 2) (d.sm 2)) fun z9 => .go [1,0,0,1,0,1] (.cut (cSd (d.X 2) (z6 4) (d.T 2) (d.X 3)) fun z10 => .go [30,30,30,0,30,21,21,0,21,21,21,30,21,10,21,0,21,21,21,30,21,10,21,0,21,21,21,30,21,10,25,1,0,1,0,1,3,3,3,3,1,1,1] (.cut (cApp 1 (n + 1) ([Value.ref (z2 0 + 3), Value.ref (z6 0 + 3)]) 2 (Value.ref (z10 0 + 3))) fun z11 => (H_rd4k4 P d t n z1 z2 z5 z6 z9 z10 z11))))
noncomputable def H_rd4k2 (P : Params) (d : Rd) (t : Nat) (n : Nat) (z1 z2 z5 : Nat → Nat) : HT := .go [1,0,0,1,0,1] (.cut (cSd (d.X 1) (z2 4) (d.T 1) (d.X 2)) fun z6 => .go [20,20,20,0,20,13,13,0,13,13,13,20,13,6,13,0,13,13,13,20,13,6,13,0,13,13,13,20,13,6,17,1,0,1,0,1,3,3,3,3,1,1,1] (.cut (cApp 1 (n + 1) ([Value.ref (z2 0 + 3)]) 1 (Value.ref (z6 0 + 3))) fun z7 => .go [1,1] (.cut (cStrNe ⟨⟨d.X 2⟩⟩ ⟨⟨[]⟩⟩ (z6 4) (z7 1) true) fun z8 => (H_rd4k3 P d t n z1 z2 z5 z6))))
noncomputable def H_rd4k1 (P : Params) (d : Rd) (t : Nat) (n : Nat) (z1 z2 : Nat → Nat) : HT := .go [10,10,10,0,10,5,5,0,5,5,5,10,5,2,5,0,5,5,5,10,5,2,5,0,5,5,5,10,5,2,9,1,0,1,0,1,3,3,3,3,1,1,1] (.cut (cApp 1 (n + 1) [] 0 (Value.ref (z2 0 + 3))) fun z3 => .go [1,1] (.cut (cStrNe ⟨⟨d.X 1⟩⟩ ⟨⟨[]⟩⟩ (z2 4) (z3 1) true) fun z4 => .go [0,1,0,0,1] (.cut (cCls P (d.X 1) (z2 4) (d.VF 1) (d.b 1) (d.n 1) (d.nt 1) (d.sm 1)) fun z5 => (H_rd4k2 P d t n z1 z2 z5))))
noncomputable def H_rd4 (P : Params) (d : Rd) (t : Nat) (n tk : Nat) : HT := .go [1,0,1,0,0,1,1] (.cut (cStrNe ⟨⟨d.X 0⟩⟩ ⟨⟨[]⟩⟩ t (tk + 2) true) fun z0 => .go [0,1,0,0,1] (.cut (cCls P (d.X 0) t (d.VF 0) (d.b 0) (d.n 0) (d.nt 0) (d.sm 0)) fun z1 => .go [1,0,0,1,0,1] (.cut (cSd (d.X 0) t (d.T 0) (d.X 1)) fun z2 => (H_rd4k1 P d t n z1 z2))))
theorem r_rd4 (P : Params) (b1 b2 : Bool) (d : Rd) (t : Nat) (n tk : Nat) : (RunF (parOf P b1 b2) (cRead (parOf P b1 b2) d t 4) 136 fd136 [.str ⟨⟨d.X 0⟩⟩ t] 2000 (H_rd4 (parOf P b1 b2) d t n tk) n tk).Ok := by
  cases b1 <;> (show OT.l _ = OT.r _; kernel_rfl)
noncomputable def H_rd5k6 (P : Params) (d : Rd) (t : Nat) (n : Nat) (z1 z2 z5 z6 z9 z10 z13 z14 z17 : Nat → Nat) : HT := .go [1,0,0,1,0,1] (.cut (cSd (d.X 4) (z14 4) (d.T 4) ([])) fun z18 => .go [50,50,50,0,50,37,37,0,37,37,37,50,37,18,37,0,37,37,37,50,37,18,37,0,37,37,37,50,37,18,41,1,0,1,0,1,3,3,3,3,1,1,1] (.cut (cApp 1 (n + 1) ([Value.ref (z2 0 + 3), Value.ref (z6 0 + 3), Value.ref (z10 0 + 3), Value.ref (z14 0 + 3)]) 4 (Value.ref (z18 0 + 3))) fun z19 => .go [1,1] (.cut (cStrNe ⟨⟨[]⟩⟩ ⟨⟨[]⟩⟩ (z18 4) (z19 1) false) fun z20 => .go [1] (.nil { res := .ok (.ret (Value.ref (n + 1))), exp := [(3, (n + 1, liO [.ref (z2 0 + 3), .ref (z6 0 + 3), .ref (z10 0 + 3), .ref (z14 0 + 3), .ref (z18 0 + 3)] 5)), (2, (d.mark 0 t z1).inst), (4, (d.mark 0 t z1).dict P), (6, (d.mark 0 t z1).norm), (8, (d.mark 0 t z1).cnt), (11, (z2 0 + 3, tuO [.ref (z1 12), .str ⟨⟨d.T 0⟩⟩ (z2 3)] 0)), (12, (d.mark 1 (z2 4) z5).inst), (14, (d.mark 1 (z2 4) z5).dict P), (16, (d.mark 1 (z2 4) z5).norm), (18, (d.mark 1 (z2 4) z5).cnt), (19, (z6 0 + 3, tuO [.ref (z5 12), .str ⟨⟨d.T 1⟩⟩ (z6 3)] 0)), (22, (d.mark 2 (z6 4) z9).inst), (24, (d.mark 2 (z6 4) z9).dict P), (26, (d.mark 2 (z6 4) z9).norm), (28, (d.mark 2 (z6 4) z9).cnt), (27, (z10 0 + 3, tuO [.ref (z9 12), .str ⟨⟨d.T 2⟩⟩ (z10 3)] 0)), (32, (d.mark 3 (z10 4) z13).inst), (34, (d.mark 3 (z10 4) z13).dict P), (36, (d.mark 3 (z10 4) z13).norm), (38, (d.mark 3 (z10 4) z13).cnt), (35, (z14 0 + 3, tuO [.ref (z13 12), .str ⟨⟨d.T 3⟩⟩ (z14 3)] 0)), (42, (d.mark 4 (z14 4) z17).inst), (44, (d.mark 4 (z14 4) z17).dict P), (46, (d.mark 4 (z14 4) z17).norm), (48, (d.mark 4 (z14 4) z17).cnt), (43, (z18 0 + 3, tuO [.ref (z17 12), .str ⟨⟨d.T 4⟩⟩ (z18 3)] 0))] }))))
noncomputable def H_rd5k5 (P : Params) (d : Rd) (t : Nat) (n : Nat) (z1 z2 z5 z6 z9 z10 z13 z14 : Nat → Nat) : HT := .go [40,40,40,0,40,29,29,0,29,29,29,40,29,14,29,0,29,29,29,40,29,14,29,0,29,29,29,40,29,14,33,1,0,1,0,1,3,3,3,3,1,1,1] (.cut (cApp 1 (n + 1) ([Value.ref (z2 0 + 3), Value.ref (z6 0 + 3), Value.ref (z10 0 + 3)]) 3 (Value.ref (z14 0 + 3))) fun z15 => .go [1,1] (.cut (cStrNe ⟨⟨d.X 4⟩⟩ ⟨⟨[]⟩⟩ (z14 4) (z15 1) true) fun z16 => .go [0,1,0,0,1] (.cut (cCls P (d.X 4) (z14 4) (d.VF 4) (d.b 4) (d.n 4) (d.nt 4) (d.sm 4)) fun z17 => (H_rd5k6 P d t n z1 z2 z5 z6 z9 z10 z13 z14 z17))))
noncomputable def H_rd5k4 (P : Params) (d : Rd) (t : Nat) (n : Nat) (z1 z2 z5 z6 z9 z10 z11 : Nat → Nat) : HT := .go [1,1] (.cut (cStrNe ⟨⟨d.X 3⟩⟩ ⟨⟨[]⟩⟩ (z10 4) (z11 1) true) fun z12 => .go [0,1,0,0,1] (.cut (cCls P (d.X 3) (z10 4) (d.VF 3) (d.b 3) (d.n 3) (d.nt 3) (d.sm 3)) fun z13 => .go [1,0,0,1,0,1] (.cut (cSd (d.X 3) (z10 4) (d.T 3) (d.X 4)) fun z14 => (H_rd5k5 P d t n z1 z2 z5 z6 z9 z10 z13 z14))))
noncomputable def H_rd5k3 (P : Params) (d : Rd) (t : Nat) (n : Nat) (z1 z2 z5 z6 : Nat → Nat) : HT := .go [0,1,0,0,1] (.cut (cCls P (d.X 2) (z6 4) (d.VF 2) (d.b 2) (d.n 2) (d.nt 2) (d.sm 2)) fun z9 => .go [1,0,0,1,0,1] (.cut (cSd (d.X 2) (z6 4) (d.T 2) (d.X 3)) fun z10 => .go [30,30,30,0,30,21,21,0,21,21,21,30,21,10,21,0,21,21,21,30,21,10,21,0,21,21,21,30,21,10,25,1,0,1,0,1,3,3,3,3,1,1,1] (.cut (cApp 1 (n + 1) ([Value.ref (z2 0 + 3), Value.ref (z6 0 + 3)]) 2 (Value.ref (z10 0 + 3))) fun z11 => (H_rd5k4 P d t n z1 z2 z5 z6 z9 z10 z11))))
noncomputable def H_rd5k2 (P : Params) (d : Rd) (t : Nat) (n : Nat) (z1 z2 z5 : Nat → Nat) : HT := .go [1,0,0,1,0,1] (.cut (cSd (d.X 1) (z2 4) (d.T 1) (d.X 2)) fun z6 => .go [20,20,20,0,20,13,13,0,13,13,13,20,13,6,13,0,13,13,13,20,13,6,13,0,13,13,13,20,13,6,17,1,0,1,0,1,3,3,3,3,1,1,1] (.cut (cApp 1 (n + 1) ([Value.ref (z2 0 + 3)]) 1 (Value.ref (z6 0 + 3))) fun z7 => .go [1,1] (.cut (cStrNe ⟨⟨d.X 2⟩⟩ ⟨⟨[]⟩⟩ (z6 4) (z7 1) true) fun z8 => (H_rd5k3 P d t n z1 z2 z5 z6))))
noncomputable def H_rd5k1 (P : Params) (d : Rd) (t : Nat) (n : Nat) (z1 z2 : Nat → Nat) : HT := .go [10,10,10,0,10,5,5,0,5,5,5,10,5,2,5,0,5,5,5,10,5,2,5,0,5,5,5,10,5,2,9,1,0,1,0,1,3,3,3,3,1,1,1] (.cut (cApp 1 (n + 1) [] 0 (Value.ref (z2 0 + 3))) fun z3 => .go [1,1] (.cut (cStrNe ⟨⟨d.X 1⟩⟩ ⟨⟨[]⟩⟩ (z2 4) (z3 1) true) fun z4 => .go [0,1,0,0,1] (.cut (cCls P (d.X 1) (z2 4) (d.VF 1) (d.b 1) (d.n 1) (d.nt 1) (d.sm 1)) fun z5 => (H_rd5k2 P d t n z1 z2 z5))))
noncomputable def H_rd5 (P : Params) (d : Rd) (t : Nat) (n tk : Nat) : HT := .go [1,0,1,0,0,1,1] (.cut (cStrNe ⟨⟨d.X 0⟩⟩ ⟨⟨[]⟩⟩ t (tk + 2) true) fun z0 => .go [0,1,0,0,1] (.cut (cCls P (d.X 0) t (d.VF 0) (d.b 0) (d.n 0) (d.nt 0) (d.sm 0)) fun z1 => .go [1,0,0,1,0,1] (.cut (cSd (d.X 0) t (d.T 0) (d.X 1)) fun z2 => (H_rd5k1 P d t n z1 z2))))
theorem r_rd5 (P : Params) (b1 b2 : Bool) (d : Rd) (t : Nat) (n tk : Nat) : (RunF (parOf P b1 b2) (cRead (parOf P b1 b2) d t 5) 136 fd136 [.str ⟨⟨d.X 0⟩⟩ t] 2000 (H_rd5 (parOf P b1 b2) d t n tk) n tk).Ok := by
  cases b1 <;> (show OT.l _ = OT.r _; kernel_rfl)
theorem fn136 (P : Params) : FnAt (kt P) 136 fd136 (dBody (stm 15)) := ⟨⟨fnO fd136, by kernel_rfl!, rfl⟩, by kernel_rfl!, by kernel_rfl!, by kernel_rfl!, ⟨135, o135, _, 374, by kernel_rfl!, by kernel_rfl!, rfl, by kernel_rfl!⟩, by kernel_rfl!⟩
theorem all_new {ne : List (Nat × Cell)} (h : ne.all (fun e => newHint 0 0 e.1) = true) : ∀ e ∈ ne, newHint 0 0 e.1 = true := List.all_eq_true.mp h
section
variable (w : World) (b1 b2 : Bool)
theorem rd4_ok {d : Rd} {t : Nat} (hc : ∀ i, i < 4 → ∀ t, VV w b1 b2 (cCls (parOf w.params b1 b2) (d.X i) t (d.VF i) (d.b i) (d.n i) (d.nt i) (d.sm i))) (hs : ∀ i, i + 1 < 4 → ∀ t, VV w b1 b2 (cSd (d.X i) t (d.T i) (d.X (i + 1)))) (hl : ∀ t, VV w b1 b2 (cSd (d.X 3) t (d.T 3) [])) (hne : ∀ i, i < 4 → d.X i ≠ []) : VV w b1 b2 (cRead (parOf w.params b1 b2) d t 4) := by
  have N : ∀ i, i < 4 → ((⟨⟨d.X i⟩⟩ : PySem.Str).cps.toList != (⟨⟨[]⟩⟩ : PySem.Str).cps.toList) = true := fun i hi => bne_iff_ne.mpr (hne i hi)
  have LZ : ∀ l : List Value, l.length ≤ 10 → l.length ≤ sizeLine := fun l h => by rw [sizeLine_eq]; lia
  refine fnV (fn136 _) rfl (show 1 ≤ 6 by decide) (fun _ => rfl) 2000 _ (fun m tk => r_rd4 w.params b1 b2 d t m tk) fun m tk => ?_
  refine ⟨cStrNe_ok (N 0 (by decide)), fun z0 _ => ⟨hc 0 (by decide) _, fun z1 _ => ⟨hs 0 (by decide) _, fun z2 _ => ⟨cApp_ok (LZ _ (by simp)), fun z3 _ => ?_⟩⟩⟩⟩
  refine ⟨cStrNe_ok (N 1 (by decide)), fun z4 _ => ⟨hc 1 (by decide) _, fun z5 _ => ⟨hs 1 (by decide) _, fun z6 _ => ⟨cApp_ok (LZ _ (by simp)), fun z7 _ => ?_⟩⟩⟩⟩
  refine ⟨cStrNe_ok (N 2 (by decide)), fun z8 _ => ⟨hc 2 (by decide) _, fun z9 _ => ⟨hs 2 (by decide) _, fun z10 _ => ⟨cApp_ok (LZ _ (by simp)), fun z11 _ => ?_⟩⟩⟩⟩
  refine ⟨cStrNe_ok (N 3 (by decide)), fun z12 _ => ⟨hc 3 (by decide) _, fun z13 _ => ⟨hl _, fun z14 _ => ⟨cApp_ok (LZ _ (by simp)), fun z15 _ => ?_⟩⟩⟩⟩
  refine ⟨cStrNe_ok (by rfl), fun z16 _ => ?_⟩
  refine outN (enc (m + 1) (fun i => match i with | 0 => gz t (z2 3) (z2 0 + 3) z1 | 1 => gz (z2 4) (z6 3) (z6 0 + 3) z5 | 2 => gz (z6 4) (z10 3) (z10 0 + 3) z9 | 3 => gz (z10 4) (z14 3) (z14 0 + 3) z13 | _ => z0)) (fun sz tk' => ⟨trivial, rfl, ?_⟩) rfl (fun _ => rfl) (all_new (by kernel_rfl!))
  show (m + 1, liO (Rd.refs (fun i => sub i (wit (enc (m + 1) _) sz tk')) 0 4) 4) :: Rd.cells _ d (fun i => sub i (wit (enc (m + 1) _) sz tk')) 0 4 = _
  rw [refs_congr (S := fun i => sub i (wit (enc (m + 1) _) sz tk')) 4 0 (fun j _ h => sub_enc _ _ sz tk' (by lia)), cells_congr (S := fun i => sub i (wit (enc (m + 1) _) sz tk')) 4 0 (fun j _ h => sub_enc _ _ sz tk' (by lia))]
  show _ :: (addL (Rd.cs (parOf w.params b1 b2) d 0 (gz t (z2 3) (z2 0 + 3) z1)) (addL (Rd.cs (parOf w.params b1 b2) d 1 (gz (z2 4) (z6 3) (z6 0 + 3) z5)) (addL (Rd.cs (parOf w.params b1 b2) d 2 (gz (z6 4) (z10 3) (z10 0 + 3) z9)) (addL (Rd.cs (parOf w.params b1 b2) d 3 (gz (z10 4) (z14 3) (z14 0 + 3) z13)) ([]))))) = _
  rw [cs_gz, cs_gz, cs_gz, cs_gz]; rfl
theorem rd5_ok {d : Rd} {t : Nat} (hc : ∀ i, i < 5 → ∀ t, VV w b1 b2 (cCls (parOf w.params b1 b2) (d.X i) t (d.VF i) (d.b i) (d.n i) (d.nt i) (d.sm i))) (hs : ∀ i, i + 1 < 5 → ∀ t, VV w b1 b2 (cSd (d.X i) t (d.T i) (d.X (i + 1)))) (hl : ∀ t, VV w b1 b2 (cSd (d.X 4) t (d.T 4) [])) (hne : ∀ i, i < 5 → d.X i ≠ []) : VV w b1 b2 (cRead (parOf w.params b1 b2) d t 5) := by
  have N : ∀ i, i < 5 → ((⟨⟨d.X i⟩⟩ : PySem.Str).cps.toList != (⟨⟨[]⟩⟩ : PySem.Str).cps.toList) = true := fun i hi => bne_iff_ne.mpr (hne i hi)
  have LZ : ∀ l : List Value, l.length ≤ 10 → l.length ≤ sizeLine := fun l h => by rw [sizeLine_eq]; lia
  refine fnV (fn136 _) rfl (show 1 ≤ 6 by decide) (fun _ => rfl) 2000 _ (fun m tk => r_rd5 w.params b1 b2 d t m tk) fun m tk => ?_
  refine ⟨cStrNe_ok (N 0 (by decide)), fun z0 _ => ⟨hc 0 (by decide) _, fun z1 _ => ⟨hs 0 (by decide) _, fun z2 _ => ⟨cApp_ok (LZ _ (by simp)), fun z3 _ => ?_⟩⟩⟩⟩
  refine ⟨cStrNe_ok (N 1 (by decide)), fun z4 _ => ⟨hc 1 (by decide) _, fun z5 _ => ⟨hs 1 (by decide) _, fun z6 _ => ⟨cApp_ok (LZ _ (by simp)), fun z7 _ => ?_⟩⟩⟩⟩
  refine ⟨cStrNe_ok (N 2 (by decide)), fun z8 _ => ⟨hc 2 (by decide) _, fun z9 _ => ⟨hs 2 (by decide) _, fun z10 _ => ⟨cApp_ok (LZ _ (by simp)), fun z11 _ => ?_⟩⟩⟩⟩
  refine ⟨cStrNe_ok (N 3 (by decide)), fun z12 _ => ⟨hc 3 (by decide) _, fun z13 _ => ⟨hs 3 (by decide) _, fun z14 _ => ⟨cApp_ok (LZ _ (by simp)), fun z15 _ => ?_⟩⟩⟩⟩
  refine ⟨cStrNe_ok (N 4 (by decide)), fun z16 _ => ⟨hc 4 (by decide) _, fun z17 _ => ⟨hl _, fun z18 _ => ⟨cApp_ok (LZ _ (by simp)), fun z19 _ => ?_⟩⟩⟩⟩
  refine ⟨cStrNe_ok (by rfl), fun z20 _ => ?_⟩
  refine outN (enc (m + 1) (fun i => match i with | 0 => gz t (z2 3) (z2 0 + 3) z1 | 1 => gz (z2 4) (z6 3) (z6 0 + 3) z5 | 2 => gz (z6 4) (z10 3) (z10 0 + 3) z9 | 3 => gz (z10 4) (z14 3) (z14 0 + 3) z13 | 4 => gz (z14 4) (z18 3) (z18 0 + 3) z17 | _ => z0)) (fun sz tk' => ⟨trivial, rfl, ?_⟩) rfl (fun _ => rfl) (all_new (by kernel_rfl!))
  show (m + 1, liO (Rd.refs (fun i => sub i (wit (enc (m + 1) _) sz tk')) 0 5) 5) :: Rd.cells _ d (fun i => sub i (wit (enc (m + 1) _) sz tk')) 0 5 = _
  rw [refs_congr (S := fun i => sub i (wit (enc (m + 1) _) sz tk')) 5 0 (fun j _ h => sub_enc _ _ sz tk' (by lia)), cells_congr (S := fun i => sub i (wit (enc (m + 1) _) sz tk')) 5 0 (fun j _ h => sub_enc _ _ sz tk' (by lia))]
  show _ :: (addL (Rd.cs (parOf w.params b1 b2) d 0 (gz t (z2 3) (z2 0 + 3) z1)) (addL (Rd.cs (parOf w.params b1 b2) d 1 (gz (z2 4) (z6 3) (z6 0 + 3) z5)) (addL (Rd.cs (parOf w.params b1 b2) d 2 (gz (z6 4) (z10 3) (z10 0 + 3) z9)) (addL (Rd.cs (parOf w.params b1 b2) d 3 (gz (z10 4) (z14 3) (z14 0 + 3) z13)) (addL (Rd.cs (parOf w.params b1 b2) d 4 (gz (z14 4) (z18 3) (z18 0 + 3) z17)) ([])))))) = _
  rw [cs_gz, cs_gz, cs_gz, cs_gz, cs_gz]; rfl
end
/-! the 39 leads -/
noncomputable def sp (k : Nat) : List Nat := List.replicate k 32
noncomputable def leads : List (List Nat) := (List.range 3).map sp ++ ((List.range 3).flatMap (fun a => (List.range 3).map fun b => (sp a ++ [9]) ++ sp b) ++
  (List.range 3).flatMap (fun a => (List.range 3).flatMap fun b => (List.range 3).map fun c => ((sp a ++ [9]) ++ (sp b ++ [9])) ++ sp c))
theorem lead_in (N : Int) : leadL N ∈ leads := by
  unfold leadL spL
  rcases mod3 N with h | h | h <;> rw [h] <;> rcases mod3 (N.fdiv 3) with h1 | h1 | h1 <;> rw [h1] <;>
    (try (rcases mod3 ((N.fdiv 3).fdiv 3) with h2 | h2 | h2 <;> rw [h2])) <;> (try (rcases mod3 (((N.fdiv 3).fdiv 3).fdiv 3) with h3 | h3 | h3 <;> rw [h3])) <;> decide +kernel
/-! what Whitespace makes of a lead -/
structure Wl where
  (VF : List Int) (b n nt : Int)
noncomputable def wl (l : List Nat) : Wl := ⟨(wsV l [] 0 0 0).1, (wsV l [] 0 0 0).2.1, (wsV l [] 0 0 0).2.2.1, (wsV l [] 0 0 0).2.2.2⟩
noncomputable def Wl.sm (d : Wl) : Bool := decide ((d.VF.length : Int) ≤ 1)
noncomputable def ilP (ts : Nat) : Nat → List Int → Int → Int
  | _, [], acc => acc
  | i, c :: r, acc => ilP ts (i + 1) r (if i < ts then acc else acc + ((i / ts : Nat) : Int) * c)
noncomputable def indP (ts : Nat) (d : Wl) : Int := d.b + (ts : Int) * (ilP ts 0 d.VF 0 + d.nt)
noncomputable def longP (d : Wl) : Int := imax ((d.VF.length : Int) - 1) d.b
noncomputable def lessP (m o : Wl) : Bool := if m.n ≥ o.n then false else if (m.sm && o.sm) = true then decide (m.nt ≤ o.nt) else
  if indP 2 m ≥ indP 2 o then false else if imax (longP m) (longP o) = 2 then (if indP 3 m ≥ indP 3 o then false else true) else true
noncomputable def wlOk (d : Wl) : Bool := decide (d.VF.length ≤ 3) && decide (0 ≤ d.b) && decide (d.b ≤ 2)
theorem leads_ok : leads.all (fun l => wlOk (wl l) && wsK l 0 0 && decide (l.length ≤ 8) && l.all (fun c => c == 32 || c == 9)) = true := by decide +kernel
theorem leads_ind : leads.all (fun l => (indP 1 (wl l) == colFrom 1 0 l) && (indP 2 (wl l) == colFrom 2 0 l) && (indP 3 (wl l) == colFrom 3 0 l)) = true := by decide +kernel
theorem leads_less : leads.all (fun l => leads.all fun k => lessP (wl l) (wl k) == (decide (colFrom 1 0 l < colFrom 1 0 k) && decide (colFrom 2 0 l < colFrom 2 0 k) && decide (colFrom 3 0 l < colFrom 3 0 k))) = true := by decide +kernel
theorem ilS_P (ts : Nat) : ∀ (VF : List Int) (us : List Nat) (i : Nat) (acc : Int), us.length = VF.length → ilS ts i (VF.zip us) acc = ilP ts i VF acc
  | [], _, _, _, _ => rfl
  | c :: VF, u :: us, i, acc, h => ilS_P ts VF us (i + 1) _ (Nat.succ.inj h)
/-- a mark made of a lead -/
structure MkL (m : Mk) (l : List Nat) : Prop where
  cs : ∃ us : List Nat, us.length = (wl l).VF.length ∧ m.cs = (wl l).VF.zip us
  b : m.b = (wl l).b
  n : m.n = (wl l).n
  nt : m.nt = (wl l).nt
  sm : m.sm = (wl l).sm
theorem MkL.len {m : Mk} {l : List Nat} (h : MkL m l) : m.cs.length = (wl l).VF.length := by
  obtain ⟨us, h1, h2⟩ := h.cs
  rw [h2, List.length_zip, h1, Nat.min_self]
theorem MkL.ind {m : Mk} {l : List Nat} (h : MkL m l) (ts : Nat) : indV ts m = indP ts (wl l) := by
  obtain ⟨us, h1, h2⟩ := h.cs
  unfold indV indP
  rw [h2, ilS_P _ _ _ _ _ h1, h.b, h.nt]
theorem MkL.less {m o : Mk} {l k : List Nat} (h : MkL m l) (g : MkL o k) : lessV m o = lessP (wl l) (wl k) := by
  unfold lessV lessP longV longP
  rw [h.len, g.len, h.b, g.b, h.n, g.n, h.nt, g.nt, h.sm, g.sm, h.ind, g.ind, h.ind, g.ind]
theorem lead_at {l : List Nat} (hl : l ∈ leads) : wlOk (wl l) = true ∧ wsK l 0 0 = true ∧ l.length ≤ 8 ∧ ∀ c ∈ l, c = 32 ∨ c = 9 := by
  have := List.all_eq_true.mp leads_ok l hl
  simp only [Bool.and_eq_true, decide_eq_true_eq, List.all_eq_true, Bool.or_eq_true, beq_iff_eq] at this
  exact ⟨this.1.1.1, this.1.1.2, this.1.2, this.2⟩
theorem lead_ind {l : List Nat} (hl : l ∈ leads) : indP 1 (wl l) = colFrom 1 0 l ∧ indP 2 (wl l) = colFrom 2 0 l ∧ indP 3 (wl l) = colFrom 3 0 l := by
  have := List.all_eq_true.mp leads_ind l hl
  simp only [Bool.and_eq_true, beq_iff_eq] at this
  exact ⟨this.1.1, this.1.2, this.2⟩
theorem lead_less {l k : List Nat} (hl : l ∈ leads) (hk : k ∈ leads) : lessP (wl l) (wl k) = (decide (colFrom 1 0 l < colFrom 1 0 k) && decide (colFrom 2 0 l < colFrom 2 0 k) && decide (colFrom 3 0 l < colFrom 3 0 k)) := by
  have := List.all_eq_true.mp (List.all_eq_true.mp leads_less l hl) k hk
  exact beq_iff_eq.mp this
theorem MkL.ok {m : Mk} {l : List Nat} (h : MkL m l) (hl : l ∈ leads) : MkOk m := by
  have := (lead_at hl).1
  unfold wlOk at this
  simp only [Bool.and_eq_true, decide_eq_true_eq] at this
  refine ⟨by rw [h.len]; exact this.1.1, by rw [h.b]; exact this.1.2, by rw [h.b]; exact this.2, ?_⟩
  rw [h.sm, h.len]
  unfold Wl.sm
  exact decide_eq_decide.mpr (by lia)
/-- the reading at a size, by the leads alone; at 0 by all three sizes -/
noncomputable def ltL (s : Nat) (l k : List Nat) : Bool := if s = 0 then decide (colFrom 1 0 l < colFrom 1 0 k) && decide (colFrom 2 0 l < colFrom 2 0 k) && decide (colFrom 3 0 l < colFrom 3 0 k) else decide (colFrom s 0 l < colFrom s 0 k)
theorem above_L {m o : Mk} {l k : List Nat} (h : MkL m l) (g : MkL o k) (hl : l ∈ leads) (hk : k ∈ leads) {s : Nat} (hs : s ≤ 3) : aboveV s m o = ltL s l k := by
  have a := lead_ind hl
  have b := lead_ind hk
  have : s = 0 ∨ s = 1 ∨ s = 2 ∨ s = 3 := by lia
  unfold aboveV ltL
  rcases this with rfl | rfl | rfl | rfl
  · rw [if_pos rfl, if_pos rfl, h.less g, lead_less hl hk]
  · rw [if_neg (by decide), if_neg (by decide), h.ind, g.ind, a.1, b.1]; rfl
  · rw [if_neg (by decide), if_neg (by decide), h.ind, g.ind, a.2.1, b.2.1]; rfl
  · rw [if_neg (by decide), if_neg (by decide), h.ind, g.ind, a.2.2, b.2.2]; rfl
/-! words as bits -/
noncomputable def wd : Nat → List Bool → List Nat
  | _, [] => []
  | k, b :: bs => (if b then 65 + k else 97 + k) :: wd (k + 1) bs
noncomputable def cnt : List Bool → Nat
  | [] => 0
  | b :: bs => (if b then 1 else 0) + cnt bs
noncomputable def band : List Bool → List Bool → List Bool
  | a :: as, b :: bs => (a && b) :: band as bs
  | _, _ => []
noncomputable def hd : List Bool → List Bool → Nat
  | a :: as, b :: bs => (if a = b then 0 else 1) + hd as bs
  | _, _ => 0
theorem wd_len : ∀ (bs : List Bool) (k : Nat), (wd k bs).length = bs.length
  | [], _ => rfl
  | b :: bs, k => congrArg (· + 1) (wd_len bs (k + 1))
theorem wd_app : ∀ (a b : List Bool) (k : Nat), wd k (a ++ b) = wd k a ++ wd (k + a.length) b
  | [], b, k => rfl
  | x :: a, b, k => by
    show _ :: wd (k + 1) (a ++ b) = _ :: (wd (k + 1) a ++ wd (k + (a.length + 1)) b)
    rw [wd_app a b (k + 1), show k + 1 + a.length = k + (a.length + 1) by lia]
theorem wd_cnt : ∀ (bs : List Bool) (k : Nat), k + bs.length ≤ 20 → cntG (wd k bs) = cnt bs
  | [], _, _ => rfl
  | b :: bs, k, h => by
    rw [List.length_cons] at h
    have ih := wd_cnt bs (k + 1) (by lia)
    unfold wd cntG cnt
    rw [ih]
    cases b with
    | true => rw [if_pos rfl, if_pos (by lia), if_pos rfl]; lia
    | false =>
      show (if 97 + k < 97 then _ else _) = 0 + cnt bs
      rw [if_neg (by lia)]; lia
theorem hd_cnt : ∀ (u v : List Bool), u.length = v.length → hd u v + 2 * cnt (band u v) = cnt u + cnt v
  | [], [], _ => rfl
  | a :: u, b :: v, h => by
    have ih := hd_cnt u v (Nat.succ.inj h)
    unfold hd band cnt
    cases a <;> cases b <;> simp <;> lia
theorem band_len : ∀ (u v : List Bool), u.length = v.length → (band u v).length = u.length
  | [], [], _ => rfl
  | a :: u, b :: v, h => congrArg (· + 1) (band_len u v (Nat.succ.inj h))
theorem band_l : ∀ (u v w : List Bool), u.length = v.length → v.length = w.length → band (band (band u v) w) u = band (band u v) w ∧ band (band (band u v) w) v = band (band u v) w ∧ band (band (band u v) w) w = band (band u v) w
  | [], [], [], _, _ => ⟨rfl, rfl, rfl⟩
  | a :: u, b :: v, c :: w, h, g => by
    have ih := band_l u v w (Nat.succ.inj h) (Nat.succ.inj g)
    unfold band
    refine ⟨?_, ?_, ?_⟩
    · show ((a && b && c) && a) :: _ = (a && b && c) :: _
      rw [ih.1]; cases a <;> cases b <;> cases c <;> rfl
    · show ((a && b && c) && b) :: _ = (a && b && c) :: _
      rw [ih.2.1]; cases a <;> cases b <;> cases c <;> rfl
    · show ((a && b && c) && c) :: _ = (a && b && c) :: _
      rw [ih.2.2]; cases a <;> cases b <;> cases c <;> rfl
theorem hd_sub {u v : List Bool} (h : u.length = v.length) (e : band u v = u) : (hd u v : Int) = cnt v - cnt u := by
  have := hd_cnt u v h
  rw [e] at this
  lia
theorem hd_two {u v : List Bool} (h : u.length = v.length) : (hd u v : Int) = cnt u + cnt v - 2 * cnt (band u v) := by
  have := hd_cnt u v h
  lia
theorem cnt_le : ∀ (u : List Bool), cnt u ≤ u.length
  | [] => Nat.le_refl _
  | b :: u => by
    have := cnt_le u
    unfold cnt
    rw [List.length_cons]
    split <;> lia
theorem wd_letter : ∀ (bs : List Bool) (k : Nat), k + bs.length ≤ 10 → ∀ c ∈ wd k bs, Letter c
  | b :: bs, k, h, c, hc => by
    rw [List.length_cons] at h
    cases hc with
    | head => unfold Letter; split <;> lia
    | tail _ hc => exact wd_letter bs (k + 1) (by lia) c hc

/-! the pile -/
noncomputable def gt (lt : Nat → Nat → Bool) (i j : Nat) : Bool := (List.range (j - i)).all fun d => lt i (i + 1 + d)
noncomputable def gb (n : Nat) (f : Nat → Nat → Bool) : List Bool :=
  [f 0 1, f 0 2, f 1 2, f 0 3, f 1 3, f 2 3, decide (n = 5) && f 0 4, decide (n = 5) && f 1 4, decide (n = 5) && f 2 4, decide (n = 5) && f 3 4]
noncomputable def ltM (a b c d e f g h i j : Bool) (x y : Nat) : Bool := match y, x with
  | 1, 0 => a
  | 2, 0 => b
  | 2, 1 => c
  | 3, 0 => d
  | 3, 1 => e
  | 3, 2 => f
  | 4, 0 => g
  | 4, 1 => h
  | 4, 2 => i
  | 4, 3 => j
  | _, _ => false
noncomputable def trOk (n : Nat) (lt : Nat → Nat → Bool) : Bool := (List.range n).all fun k => (List.range k).all fun j => (List.range j).all fun i => !(lt i j && lt j k) || lt i k
theorem brute5 : ∀ a b c d e f g h i j : Bool, trOk 5 (ltM a b c d e f g h i j) = true → wordB (gN (ltM a b c d e f g h i j) 5) = wd 0 (gb 5 (gt (ltM a b c d e f g h i j))) := by decide +kernel
theorem brute4 : ∀ a b c d e f : Bool, trOk 4 (ltM a b c d e f false false false false) = true → wordB (gN (ltM a b c d e f false false false false) 4) = wd 0 (gb 4 (gt (ltM a b c d e f false false false false))) := by decide +kernel

/-! any reading that is transitive -/
theorem popN_congr {f g : Nat → Bool} {l : List Nat} (h : ∀ i ∈ l, f i = g i) : popN f l = popN g l := by
  unfold popN
  have key : ∀ l : List Nat, (∀ i ∈ l, f i = g i) → l.dropWhile (fun i => !f i) = l.dropWhile (fun i => !g i) := by
    intro l
    induction l with
    | nil => intro _; rfl
    | cons x l ih =>
      intro h
      rw [List.dropWhile_cons, List.dropWhile_cons, h x (.head _), ih fun i hi => h i (.tail _ hi)]
  rw [key _ fun i hi => h i (List.mem_reverse.mp hi)]
theorem qN_congr {lt lt' : Nat → Nat → Bool} {n : Nat} (h : ∀ i j, i < j → j < n → lt i j = lt' i j) : ∀ k, k < n → qN lt k = qN lt' k
  | 0, _ => rfl
  | k + 1, hk => by
    show popN (fun i => lt i (k + 1)) (qN lt k ++ [k]) = popN (fun i => lt' i (k + 1)) (qN lt' k ++ [k])
    rw [qN_congr h k (by lia)]
    refine popN_congr fun i hi => h i (k + 1) ?_ hk
    rcases List.mem_append.mp hi with hi | hi
    · exact Nat.lt_succ_of_lt (qN_lt hi)
    · rw [List.mem_singleton.mp hi]; exact Nat.lt_succ_self _
theorem gN_congr {lt lt' : Nat → Nat → Bool} {n : Nat} (h : ∀ i j, i < j → j < n → lt i j = lt' i j) : ∀ k, k ≤ n → gN lt k = gN lt' k
  | 0, _ => rfl
  | k + 1, hk => by
    show gN lt k ++ (qN lt k).map _ = gN lt' k ++ (qN lt' k).map _
    rw [gN_congr h k (by lia), qN_congr h k (by lia)]
theorem gt_congr {lt lt' : Nat → Nat → Bool} {i j : Nat} (h : ∀ k, i < k → k ≤ j → lt i k = lt' i k) : gt lt i j = gt lt' i j := by
  unfold gt
  rw [Bool.eq_iff_iff, List.all_eq_true, List.all_eq_true]
  refine ⟨fun q d hd => ?_, fun q d hd => ?_⟩
  · have := List.mem_range.mp hd
    rw [← h (i + 1 + d) (by lia) (by lia)]; exact q d hd
  · have := List.mem_range.mp hd
    rw [h (i + 1 + d) (by lia) (by lia)]; exact q d hd
noncomputable def Tr (n : Nat) (lt : Nat → Nat → Bool) : Prop := ∀ i j k, i < j → j < k → k < n → lt i j = true → lt j k = true → lt i k = true
theorem tr_ok {n : Nat} {lt : Nat → Nat → Bool} (h : Tr n lt) : trOk n lt = true := by
  unfold trOk
  simp only [List.all_eq_true, List.mem_range, Bool.or_eq_true, Bool.not_eq_true', Bool.and_eq_false_iff]
  intro k hk j hj i hi
  cases h1 : lt i j with
  | false => exact .inl (.inl rfl)
  | true => cases h2 : lt j k with
    | false => exact .inl (.inr rfl)
    | true => exact .inr (h i j k hi hj hk h1 h2)
theorem word5 {lt : Nat → Nat → Bool} (h : Tr 5 lt) : wordB (gN lt 5) = wd 0 (gb 5 (gt lt)) := by
  have e : ∀ i j, i < j → j < 5 → lt i j = ltM (lt 0 1) (lt 0 2) (lt 1 2) (lt 0 3) (lt 1 3) (lt 2 3) (lt 0 4) (lt 1 4) (lt 2 4) (lt 3 4) i j := by
    intro i j hi hj
    have : (j = 1 ∨ j = 2 ∨ j = 3 ∨ j = 4) := by lia
    rcases this with rfl | rfl | rfl | rfl
    · have : i = 0 := by lia
      subst this; rfl
    · have : i = 0 ∨ i = 1 := by lia
      rcases this with rfl | rfl <;> rfl
    · have : i = 0 ∨ i = 1 ∨ i = 2 := by lia
      rcases this with rfl | rfl | rfl <;> rfl
    · have : i = 0 ∨ i = 1 ∨ i = 2 ∨ i = 3 := by lia
      rcases this with rfl | rfl | rfl | rfl <;> rfl
  have z := brute5 (lt 0 1) (lt 0 2) (lt 1 2) (lt 0 3) (lt 1 3) (lt 2 3) (lt 0 4) (lt 1 4) (lt 2 4) (lt 3 4) (tr_ok fun i j k hi hj hk h1 h2 => by
    rw [← e i j hi (by lia)] at h1
    rw [← e j k hj hk] at h2
    rw [← e i k (by lia) hk]
    exact h i j k hi hj hk h1 h2)
  rw [gN_congr e 5 (Nat.le_refl _), z]
  have g : ∀ i j, j < 5 → gt (ltM (lt 0 1) (lt 0 2) (lt 1 2) (lt 0 3) (lt 1 3) (lt 2 3) (lt 0 4) (lt 1 4) (lt 2 4) (lt 3 4)) i j = gt lt i j := fun i j hj => gt_congr fun k h1 h2 => (e i k h1 (by lia)).symm
  unfold gb
  rw [g 0 1 (by decide), g 0 2 (by decide), g 1 2 (by decide), g 0 3 (by decide), g 1 3 (by decide), g 2 3 (by decide), g 0 4 (by decide), g 1 4 (by decide), g 2 4 (by decide), g 3 4 (by decide)]
theorem word4 {lt : Nat → Nat → Bool} (h : Tr 4 lt) : wordB (gN lt 4) = wd 0 (gb 4 (gt lt)) := by
  have e : ∀ i j, i < j → j < 4 → lt i j = ltM (lt 0 1) (lt 0 2) (lt 1 2) (lt 0 3) (lt 1 3) (lt 2 3) false false false false i j := by
    intro i j hi hj
    have : (j = 1 ∨ j = 2 ∨ j = 3) := by lia
    rcases this with rfl | rfl | rfl
    · have : i = 0 := by lia
      subst this; rfl
    · have : i = 0 ∨ i = 1 := by lia
      rcases this with rfl | rfl <;> rfl
    · have : i = 0 ∨ i = 1 ∨ i = 2 := by lia
      rcases this with rfl | rfl | rfl <;> rfl
  have z := brute4 (lt 0 1) (lt 0 2) (lt 1 2) (lt 0 3) (lt 1 3) (lt 2 3) (tr_ok fun i j k hi hj hk h1 h2 => by
    rw [← e i j hi (by lia)] at h1
    rw [← e j k hj hk] at h2
    rw [← e i k (by lia) hk]
    exact h i j k hi hj hk h1 h2)
  rw [gN_congr e 4 (Nat.le_refl _), z]
  have g : ∀ i j, j < 4 → gt (ltM (lt 0 1) (lt 0 2) (lt 1 2) (lt 0 3) (lt 1 3) (lt 2 3) false false false false) i j = gt lt i j := fun i j hj => gt_congr fun k h1 h2 => (e i k h1 (by lia)).symm
  unfold gb
  rw [g 0 1 (by decide), g 0 2 (by decide), g 1 2 (by decide), g 0 3 (by decide), g 1 3 (by decide), g 2 3 (by decide)]
  rfl
theorem tr_ltL {n s : Nat} {L : Nat → List Nat} : Tr n (fun i j => ltL s (L i) (L j)) := by
  intro i j k _ _ _ h1 h2
  by_cases q : s = 0
  · subst q
    simp only [ltL, if_true, Bool.and_eq_true, decide_eq_true_eq] at h1 h2 ⊢
    lia
  · simp only [ltL, if_neg q, decide_eq_true_eq] at h1 h2 ⊢
    lia
/-! the shared words -/
noncomputable def bitsM (ss : List Int) : Nat → (Nat → Col) → List Bool
  | 0, _ => []
  | m + 1, c => ss.all (fun s => stV c (idxs (m + 1)) s) :: bitsM ss m (shc (m + 1) c)
theorem shW_wd (ss : List Int) : ∀ (m : Nat) (c : Nat → Col) (ow : List Nat), shW ss m c ow = ow ++ wd ow.length (bitsM ss m c)
  | 0, _, ow => by show ow = ow ++ []; rw [List.append_nil]
  | m + 1, c, ow => by
    show shW ss m (shc (m + 1) c) (ow ++ [letr c ss (m + 1) ow]) = _
    rw [shW_wd ss m, List.length_append]
    show (ow ++ [letr c ss (m + 1) ow]) ++ wd (ow.length + 1) (bitsM ss m (shc (m + 1) c)) = ow ++ (_ :: wd (ow.length + 1) (bitsM ss m (shc (m + 1) c)))
    rw [List.append_assoc]
    congr 1
    show _ :: _ = _ :: _
    congr 1
    unfold letr
    rw [← List.not_all_eq_any_not]
    cases ss.all (fun s => stV c (idxs (m + 1)) s) <;> rfl
theorem minZ_lt (x : Int) : ∀ (l : List Int) (o : Int), decide (x < minZ o l) = (decide (x < o) && l.all fun v => decide (x < v))
  | [], o => by
    show decide (x < o) = (decide (x < o) && true)
    rw [Bool.and_true]
  | v :: l, o => by
    show decide (x < minZ (if v < o then v else o) l) = (decide (x < o) && (decide (x < v) && l.all fun v => decide (x < v)))
    rw [minZ_lt x l]
    rw [← Bool.and_assoc]
    congr 1
    rw [← Bool.decide_and]
    apply decide_eq_decide.mpr
    split <;> constructor <;> intro h <;> lia
theorem stV_all (c : Nat → Col) (s : Int) (i : Nat) (is : List Nat) : stV c (i :: is) s = (i :: is).all fun k => decide (colV (c 0) s < colV (c k) s) := by
  show decide (colV (c 0) s < minZ (colV (c i) s) (is.map fun i => colV (c i) s)) = _
  rw [minZ_lt, List.all_map]
  rfl
noncomputable def lc (c : Nat → Col) (s : Int) (i k : Nat) : Bool := decide (colV (c i) s < colV (c k) s)
noncomputable def gs (ss : List Int) (c : Nat → Col) (i j : Nat) : Bool := ss.all fun s => gt (lc c s) i j
theorem bit_is {ss : List Int} {c c' : Nat → Col} {i j m : Nat} (h : ∀ s, stV c' (idxs m) s = gt (lc c s) i j) : ss.all (fun s => stV c' (idxs m) s) = gs ss c i j := by
  unfold gs
  congr 1
  funext s
  exact h s
theorem shA_wd (ss : List Int) (c : Nat → Col) (k : Nat) {B : List Bool} (h : shA ss c k = wd 0 B) : shA ss c (k + 1) = wd 0 (B ++ bitsM ss k c) := by
  show shW ss k c (shA ss c k) = _
  rw [shW_wd, h, wd_len, wd_app, Nat.zero_add]
theorem bits1 (ss : List Int) (c : Nat → Col) : bitsM ss 1 c = [gs ss c 0 1] := by
  show [_] = _
  rw [bit_is (c := c) (i := 0) (j := 1) fun s => stV_all _ _ _ _]
theorem bits2 (ss : List Int) (c : Nat → Col) : bitsM ss 2 c = [gs ss c 0 2, gs ss c 1 2] := by
  show [_, _] = _
  rw [bit_is (c := c) (i := 0) (j := 2) fun s => stV_all _ _ _ _, bit_is (c := c) (i := 1) (j := 2) fun s => stV_all _ _ _ _]
theorem bits3 (ss : List Int) (c : Nat → Col) : bitsM ss 3 c = [gs ss c 0 3, gs ss c 1 3, gs ss c 2 3] := by
  show [_, _, _] = _
  rw [bit_is (c := c) (i := 0) (j := 3) fun s => stV_all _ _ _ _, bit_is (c := c) (i := 1) (j := 3) fun s => stV_all _ _ _ _, bit_is (c := c) (i := 2) (j := 3) fun s => stV_all _ _ _ _]
theorem bits4 (ss : List Int) (c : Nat → Col) : bitsM ss 4 c = [gs ss c 0 4, gs ss c 1 4, gs ss c 2 4, gs ss c 3 4] := by
  show [_, _, _, _] = _
  rw [bit_is (c := c) (i := 0) (j := 4) fun s => stV_all _ _ _ _, bit_is (c := c) (i := 1) (j := 4) fun s => stV_all _ _ _ _, bit_is (c := c) (i := 2) (j := 4) fun s => stV_all _ _ _ _, bit_is (c := c) (i := 3) (j := 4) fun s => stV_all _ _ _ _]
theorem shV5 (ss : List Int) (c : Nat → Col) : shV ss c 5 = wd 0 (gb 5 (gs ss c)) := by
  have h0 : shA ss c 0 = wd 0 [] := rfl
  have h1 := shA_wd ss c 0 h0
  have h2 := shA_wd ss c 1 h1
  have h3 := shA_wd ss c 2 h2
  have h4 := shA_wd ss c 3 h3
  have h5 := shA_wd ss c 4 h4
  rw [bits1, bits2, bits3, bits4] at h5
  unfold shV
  rw [h5]
  exact List.append_nil _
theorem shV4 (ss : List Int) (c : Nat → Col) : shV ss c 4 = wd 0 (gb 4 (gs ss c)) := by
  have h0 : shA ss c 0 = wd 0 [] := rfl
  have h1 := shA_wd ss c 0 h0
  have h2 := shA_wd ss c 1 h1
  have h3 := shA_wd ss c 2 h2
  have h4 := shA_wd ss c 3 h3
  rw [bits1, bits2, bits3] at h4
  unfold shV
  rw [h4]
  rfl
theorem all_and {α : Type} (p q : α → Bool) : ∀ l : List α, (l.all fun x => p x && q x) = (l.all p && l.all q)
  | [] => rfl
  | x :: l => by
    rw [List.all_cons, List.all_cons, List.all_cons, all_and p q l]
    cases p x <;> cases q x <;> cases l.all p <;> rfl
theorem gt_and (p q : Nat → Nat → Bool) (i j : Nat) : gt (fun i k => p i k && q i k) i j = (gt p i j && gt q i j) := all_and _ _ _
theorem gb_and (n : Nat) (f g : Nat → Nat → Bool) : gb n (fun i j => f i j && g i j) = band (gb n f) (gb n g) := by
  unfold gb
  show [_, _, _, _, _, _, _, _, _, _] = [_, _, _, _, _, _, _, _, _, _]
  cases decide (n = 5) <;> rfl
theorem gb_len (n : Nat) (f : Nat → Nat → Bool) : (gb n f).length = 10 := rfl
theorem gs1 (c : Nat → Col) (s : Int) : gs [s] c = gt (lc c s) := by
  funext i j
  show (gt (lc c s) i j && true) = _
  rw [Bool.and_true]
theorem gs2 (c : Nat → Col) (s t : Int) : gs [s, t] c = fun i j => gt (lc c s) i j && gt (lc c t) i j := by
  funext i j
  show (gt (lc c s) i j && (gt (lc c t) i j && true)) = _
  rw [Bool.and_true]
theorem gs3 (c : Nat → Col) (s t u : Int) : gs [s, t, u] c = fun i j => gt (lc c s) i j && gt (lc c t) i j && gt (lc c u) i j := by
  funext i j
  show (gt (lc c s) i j && (gt (lc c t) i j && (gt (lc c u) i j && true))) = _
  rw [Bool.and_true, Bool.and_assoc]
/-! Levenshtein over words that differ by case alone -/
noncomputable def lvRg : List Int → List Int → Int → Int → List Int
  | k :: ks, r :: rs, D, R => imin (imin R r + 2) (D + k) :: lvRg ks rs r (imin (imin R r + 2) (D + k))
  | _, _, _, _ => []
theorem lvR_g (x : Nat) : ∀ (as : List Nat) (rs : List Int) (D R : Int), lvR x as rs D R = lvRg (as.map (subc x)) rs D R
  | [], _, _, _ => by rw [List.map_nil]; unfold lvR lvRg; rfl
  | c :: as, [], _, _ => by rw [List.map_cons]; unfold lvR lvRg; rfl
  | c :: as, r :: rs, D, R => by
    rw [List.map_cons]
    unfold lvR lvRg
    rw [lvR_g x as]
noncomputable def lvOg : List (List Int) → Int → List Int → Int → Int
  | [], _, _, R => R
  | ks :: M, i, row, _ => lvOg M (i + 1) (lvRg ks row (i * 2) (i * 2)) (lvL (lvRg ks row (i * 2) (i * 2)) (i * 2))
theorem lvO_g (as : List Nat) : ∀ (bs : List Nat) (i : Int) (row : List Int) (R : Int), lvO as bs i row R = lvOg (bs.map fun x => as.map (subc x)) i row R
  | [], _, _, _ => rfl
  | x :: bs, i, row, R => by
    rw [List.map_cons]
    unfold lvO lvOg
    rw [lvO_g as bs, lvR_g]
noncomputable def lvKb (mx : Int) : List (List Int) → Int → List Int → Bool
  | [], _, _ => true
  | ks :: M, i, row => decide (lvM (lvRg ks row (i * 2) (i * 2)) big63 ≤ mx) && lvKb mx M (i + 1) (lvRg ks row (i * 2) (i * 2))
theorem lvK_g (mx : Int) (as : List Nat) : ∀ (bs : List Nat) (i : Int) (row : List Int), lvKb mx (bs.map fun x => as.map (subc x)) i row = true → lvK mx as bs i row
  | [], _, _, _ => trivial
  | x :: bs, i, row, h => by
    rw [List.map_cons] at h
    unfold lvKb at h
    rw [Bool.and_eq_true, decide_eq_true_eq] at h
    unfold lvK
    rw [lvR_g]
    exact ⟨h.1, lvK_g mx as bs _ _ h.2⟩
noncomputable def rowC (m i : Nat) (b : Bool) : List Int := (List.range m).map fun j => if i = j then (if b then 1 else 0) else 2
noncomputable def matR (m : Nat) : Nat → List Bool → List (List Int)
  | _, [] => []
  | i, b :: d => rowC m i b :: matR m (i + 1) d
/-- every way of differing at once: the rows' leasts and the end -/
noncomputable def chk (m : Nat) : Nat → Nat → List Int → Nat → Bool
  | 0, _, _, _ => true
  | k + 1, i, row, h => (if i = 0 ∨ k = 0 then [true] else [false, true]).all fun b =>
    decide (lvM (lvRg (rowC m i b) row ((i : Int) * 2) ((i : Int) * 2)) big63 ≤ ((h + (if b then 1 else 0) : Nat) : Int)) &&
    ((k != 0) || lvL (lvRg (rowC m i b) row ((i : Int) * 2) ((i : Int) * 2)) ((i : Int) * 2) == ((h + (if b then 1 else 0) : Nat) : Int)) &&
    chk m k (i + 1) (lvRg (rowC m i b) row ((i : Int) * 2) ((i : Int) * 2)) (h + (if b then 1 else 0))
theorem chk1 : chk 1 1 0 (rgL 2 2 1) 0 = true := by decide +kernel
theorem chk2 : chk 2 2 0 (rgL 2 2 2) 0 = true := by decide +kernel
theorem chk3 : chk 3 3 0 (rgL 2 2 3) 0 = true := by decide +kernel
theorem chk4 : chk 4 4 0 (rgL 2 2 4) 0 = true := by decide +kernel
theorem chk5 : chk 5 5 0 (rgL 2 2 5) 0 = true := by decide +kernel
theorem chk6 : chk 6 6 0 (rgL 2 2 6) 0 = true := by decide +kernel
theorem chk7 : chk 7 7 0 (rgL 2 2 7) 0 = true := by decide +kernel
theorem chk8 : chk 8 8 0 (rgL 2 2 8) 0 = true := by decide +kernel
theorem chk9 : chk 9 9 0 (rgL 2 2 9) 0 = true := by decide +kernel
theorem chk10 : chk 10 10 0 (rgL 2 2 10) 0 = true := by decide +kernel
theorem chk_ok (m : Nat) : ∀ (k i : Nat) (row : List Int) (h : Nat) (R : Int) (d : List Bool), d.length = k → (i = 0 → ∀ b d', d = b :: d' → b = true) → (∀ A b, d = A ++ [b] → b = true) → chk m k i row h = true →
    (k ≠ 0 → lvOg (matR m i d) i row R = ((h + cnt d : Nat) : Int)) ∧ ∀ mx : Nat, h + cnt d ≤ mx → lvKb mx (matR m i d) i row = true
  | 0, i, row, h, R, [], _, _, _, _ => ⟨fun q => absurd rfl q, fun _ _ => rfl⟩
  | k + 1, i, row, h, R, b :: d, hd, h0, hl, hc => by
    have hk : d.length = k := Nat.succ.inj hd
    unfold chk at hc
    have hb : b ∈ (if i = 0 ∨ k = 0 then [true] else [false, true]) := by
      split
      · rename_i q
        have : b = true := by
          rcases q with q | q
          · exact h0 q b d rfl
          · rw [q] at hk
            have : d = [] := List.length_eq_zero_iff.mp hk
            exact hl [] b (by rw [this]; rfl)
        rw [this]; exact .head _
      · cases b
        · exact .head _
        · exact .tail _ (.head _)
    have hc' := List.all_eq_true.mp hc b hb
    rw [Bool.and_eq_true, Bool.and_eq_true] at hc'
    obtain ⟨⟨c1, c2⟩, c3⟩ := hc'
    rw [decide_eq_true_eq] at c1
    have ih := chk_ok m k (i + 1) _ _ (lvL (lvRg (rowC m i b) row ((i : Int) * 2) ((i : Int) * 2)) ((i : Int) * 2)) d hk (fun q => absurd q (Nat.succ_ne_zero _)) (fun A b' e => hl (b :: A) b' (by rw [e]; rfl)) c3
    have hcn : h + cnt (b :: d) = h + (if b then 1 else 0) + cnt d := by
      show h + ((if b then 1 else 0) + cnt d) = _
      lia
    refine ⟨fun _ => ?_, fun mx hmx => ?_⟩
    · show lvOg (matR m (i + 1) d) ((i : Int) + 1) _ _ = _
      rw [hcn]
      by_cases q : k = 0
      · subst q
        have e : d = [] := List.length_eq_zero_iff.mp hk
        subst e
        have : lvL (lvRg (rowC m i b) row ((i : Int) * 2) ((i : Int) * 2)) ((i : Int) * 2) = ((h + (if b then 1 else 0) : Nat) : Int) := by
          rw [Bool.or_eq_true] at c2
          rcases c2 with q | q
          · exact absurd q (by decide)
          · exact beq_iff_eq.mp q
        exact this
      · exact ih.1 q
    · show (decide (lvM (lvRg (rowC m i b) row ((i : Int) * 2) ((i : Int) * 2)) big63 ≤ (mx : Int)) && lvKb mx (matR m (i + 1) d) ((i : Int) + 1) _) = true
      rw [hcn] at hmx
      rw [Bool.and_eq_true, decide_eq_true_eq]
      refine ⟨?_, ih.2 mx hmx⟩
      refine Int.le_trans c1 ?_
      lia
theorem chk_all (m : Nat) (h1 : 1 ≤ m) (h2 : m ≤ 10) : chk m m 0 (rgL 2 2 m) 0 = true := by
  have : m = 1 ∨ m = 2 ∨ m = 3 ∨ m = 4 ∨ m = 5 ∨ m = 6 ∨ m = 7 ∨ m = 8 ∨ m = 9 ∨ m = 10 := by lia
  rcases this with rfl | rfl | rfl | rfl | rfl | rfl | rfl | rfl | rfl | rfl
  · exact chk1
  · exact chk2
  · exact chk3
  · exact chk4
  · exact chk5
  · exact chk6
  · exact chk7
  · exact chk8
  · exact chk9
  · exact chk10
/-! the costs between two words -/
noncomputable def dif : List Bool → List Bool → List Bool
  | a :: as, b :: bs => (a != b) :: dif as bs
  | _, _ => []
theorem cnt_dif : ∀ (u v : List Bool), cnt (dif u v) = hd u v
  | [], _ => by cases ‹List Bool› <;> rfl
  | a :: u, [] => rfl
  | a :: u, b :: v => by
    show (if (a != b) = true then 1 else 0) + cnt (dif u v) = (if a = b then 0 else 1) + hd u v
    rw [cnt_dif u v]
    cases a <;> cases b <;> rfl
theorem dif_len : ∀ (u v : List Bool), u.length = v.length → (dif u v).length = u.length
  | [], [], _ => rfl
  | a :: u, b :: v, h => congrArg (· + 1) (dif_len u v (Nat.succ.inj h))
theorem lo_L (b : Bool) (x : Nat) (hx : x < 20) : lo (if b then 65 + x else 97 + x) = 97 + x := by
  unfold lo
  cases b with
  | true =>
    show (if 65 + x < 97 then 65 + x + 32 else 65 + x) = _
    rw [if_pos (by lia)]; lia
  | false =>
    show (if 97 + x < 97 then 97 + x + 32 else 97 + x) = _
    rw [if_neg (by lia)]
theorem subc_L (a b : Bool) (x y : Nat) (hx : x < 20) (hy : y < 20) : subc (if b then 65 + x else 97 + x) (if a then 65 + y else 97 + y) = if x = y then (if (a != b) = true then 1 else 0) else 2 := by
  unfold subc
  rw [lo_L b x hx, lo_L a y hy]
  by_cases q : x = y
  · subst q
    rw [if_pos rfl]
    cases a <;> cases b <;> simp
  · rw [if_neg q]
    cases a <;> cases b <;> simp <;> lia
theorem row_is (k x i m : Nat) (b : Bool) (hx : k + i < 20) : ∀ (a : List Bool) (j : Nat), j + a.length = m → k + m ≤ 20 → (∀ h : i - j < a.length, j ≤ i → (a[i - j] != b) = (x == 1)) →
    (wd (k + j) a).map (subc (if b then 65 + (k + i) else 97 + (k + i))) = (List.range' j a.length).map fun j' => if i = j' then (if x == 1 then 1 else 0) else (2 : Int)
  | [], j, _, _, _ => rfl
  | c :: a, j, hj, hm, hb => by
    rw [List.length_cons] at hj
    rw [List.length_cons, List.range'_succ, List.map_cons]
    show subc _ (if c then 65 + (k + j) else 97 + (k + j)) :: (wd (k + j + 1) a).map _ = _
    have ih := row_is k x i m b hx a (j + 1) (by lia) hm (fun h h' => by
      have := hb (by rw [List.length_cons]; lia) (by lia)
      rw [← this]
      congr 1
      have e : i - j = (i - (j + 1)) + 1 := by lia
      simp only [e, List.getElem_cons_succ])
    rw [show k + j + 1 = k + (j + 1) by lia, ih, subc_L c b (k + i) (k + j) hx (by lia)]
    congr 1
    by_cases q : i = j
    · subst q
      have := hb (by rw [List.length_cons]; lia) (Nat.le_refl _)
      simp only [Nat.sub_self, List.getElem_cons_zero] at this
      rw [if_pos rfl, if_pos rfl, this]
    · rw [if_neg (by lia), if_neg q]
theorem mat_is (k m : Nat) : ∀ (v u : List Bool) (i : Nat) (U : List Bool), u.length = v.length → i + u.length = m → k + m ≤ 20 → U.length = m → U.drop i = u →
    (wd (k + i) v).map (fun x => (wd k U).map (subc x)) = matR m i (dif u v)
  | [], [], _, _, _, _, _, _, _ => rfl
  | b :: v, a :: u, i, U, hl, hi, hm, hU, hd => by
    rw [List.length_cons] at hi
    show ((wd k U).map (subc (if b then 65 + (k + i) else 97 + (k + i)))) :: (wd (k + i + 1) v).map _ = rowC m i (a != b) :: matR m (i + 1) (dif u v)
    have hlt : i < U.length := by lia
    have hd' := List.drop_eq_getElem_cons hlt
    rw [hd] at hd'
    injection hd' with e1 e2
    rw [show k + i + 1 = k + (i + 1) by lia, mat_is k m v u (i + 1) U (Nat.succ.inj hl) (by lia) hm hU e2.symm]
    congr 1
    have z := row_is k (if (a != b) = true then 1 else 0) i m b (by lia) U 0 (by lia) hm (fun h _ => by
      simp only [Nat.sub_zero] at h ⊢
      rw [← e1]
      cases a <;> cases b <;> rfl)
    rw [Nat.add_zero] at z
    rw [z, hU, ← List.range_eq_range']
    unfold rowC
    cases a <;> cases b <;> rfl
theorem lev_seg (k : Nat) (u v : List Bool) (hl : u.length = v.length) (h1 : 1 ≤ u.length) (h2 : u.length ≤ 10) (hk : k ≤ 10) (h0 : ∀ b d', dif u v = b :: d' → b = true) (hL : ∀ A b, dif u v = A ++ [b] → b = true) :
    levV (wd k u) (wd k v) = (hd u v : Int) ∧ lvK (hd u v) (wd k u) (wd k v) 0 (rgL 2 2 (wd k u).length) := by
  have e : (wd k v).map (fun x => (wd k u).map (subc x)) = matR u.length 0 (dif u v) := by
    have := mat_is k u.length v u 0 u hl (by lia) (by lia) rfl rfl
    rwa [Nat.add_zero] at this
  have z := chk_ok u.length u.length 0 (rgL 2 2 u.length) 0 0 (dif u v) (dif_len u v hl) (fun _ => h0) hL (chk_all _ h1 h2)
  rw [Nat.zero_add, cnt_dif] at z
  refine ⟨?_, lvK_g _ _ _ _ _ ?_⟩
  · unfold levV
    rw [wd_len, lvO_g, e]
    exact z.1 (by lia)
  · rw [wd_len, e]
    exact z.2 _ (Nat.le_refl _)
theorem first_diff : ∀ (u v : List Bool), u.length = v.length → u ≠ v → ∃ p a u1 v1, u = p ++ a :: u1 ∧ v = p ++ (!a) :: v1 ∧ u1.length = v1.length
  | [], [], _, h => absurd rfl h
  | a :: u, b :: v, hl, h => by
    by_cases q : a = b
    · subst q
      obtain ⟨p, c, u1, v1, e1, e2, e3⟩ := first_diff u v (Nat.succ.inj hl) fun e => h (by rw [e])
      exact ⟨a :: p, c, u1, v1, by rw [e1]; rfl, by rw [e2]; rfl, e3⟩
    · refine ⟨[], a, u, v, rfl, ?_, Nat.succ.inj hl⟩
      have : b = !a := by cases a <;> cases b <;> first | rfl | exact absurd rfl q
      rw [this]; rfl
theorem last_diff (u v : List Bool) (hl : u.length = v.length) (h : u ≠ v) : ∃ A e B post, u = A ++ e :: post ∧ v = B ++ (!e) :: post ∧ A.length = B.length := by
  obtain ⟨p, a, u1, v1, e1, e2, e3⟩ := first_diff u.reverse v.reverse (by rw [List.length_reverse, List.length_reverse, hl]) fun e => h (List.reverse_inj.mp e)
  refine ⟨u1.reverse, a, v1.reverse, p.reverse, ?_, ?_, by rw [List.length_reverse, List.length_reverse, e3]⟩
  · have := congrArg List.reverse e1
    rw [List.reverse_reverse] at this
    rw [this]; simp
  · have := congrArg List.reverse e2
    rw [List.reverse_reverse] at this
    rw [this]; simp
theorem hd_app : ∀ (a c b d : List Bool), a.length = c.length → hd (a ++ b) (c ++ d) = hd a c + hd b d
  | [], [], b, d, _ => by rw [List.nil_append, List.nil_append]; show _ = 0 + _; rw [Nat.zero_add]
  | x :: a, y :: c, b, d, h => by
    show (if x = y then 0 else 1) + hd (a ++ b) (c ++ d) = (if x = y then 0 else 1) + hd a c + hd b d
    rw [hd_app a c b d (Nat.succ.inj h), Nat.add_assoc]
theorem hd_self : ∀ a : List Bool, hd a a = 0
  | [] => rfl
  | x :: a => by
    show (if x = x then 0 else 1) + hd a a = 0
    rw [if_pos rfl, hd_self a]
theorem dif_app : ∀ (a c b d : List Bool), a.length = c.length → dif (a ++ b) (c ++ d) = dif a c ++ dif b d
  | [], [], _, _, _ => rfl
  | x :: a, y :: c, b, d, h => congrArg (_ :: ·) (dif_app a c b d (Nat.succ.inj h))
theorem lev_bits (w : World) (b1 b2 : Bool) {u v : List Bool} (hu : u.length = 10) (hv : v.length = 10) {t t' : Nat} {mx : Int} {vm : Nat} (hm : mx = (hd u v : Int)) : VV w b1 b2 (cLev ⟨⟨wd 0 u⟩⟩ ⟨⟨wd 0 v⟩⟩ t t' mx vm mx) := by
  by_cases q : u = v
  · subst q
    have : mx = 0 := by rw [hm, hd_self]; rfl
    rw [this]
    exact lev_same w b1 b2
  · obtain ⟨p, a, u1, v1, e1, e2, e3⟩ := first_diff u v (by lia) q
    obtain ⟨A, e, B, post, f1, f2, f3⟩ := last_diff (a :: u1) ((!a) :: v1) (congrArg (· + 1) e3) (by intro q; injection q with q1; cases a <;> cases q1)
    have lu := congrArg List.length e1
    have lA := congrArg List.length f1
    simp only [List.length_append, List.length_cons] at lu lA
    have eu : wd 0 u = wd 0 p ++ wd p.length (a :: u1) := by rw [e1, wd_app, Nat.zero_add]
    have ev : wd 0 v = wd 0 p ++ wd p.length ((!a) :: v1) := by rw [e2, wd_app, Nat.zero_add]
    have ea : wd p.length (a :: u1) = wd p.length A ++ wd (p.length + A.length) (e :: post) := by rw [f1, wd_app]
    have eb : wd p.length ((!a) :: v1) = wd p.length B ++ wd (p.length + A.length) ((!e) :: post) := by rw [f2, wd_app, f3]
    have sa : wd p.length (A ++ [e]) = wd p.length A ++ [if e then 65 + (p.length + A.length) else 97 + (p.length + A.length)] := by rw [wd_app]; rfl
    have sb : wd p.length (B ++ [!e]) = wd p.length B ++ [if (!e) then 65 + (p.length + A.length) else 97 + (p.length + A.length)] := by rw [wd_app, f3]; rfl
    obtain ⟨x1, r', hx⟩ := ne_cons (wd p.length A) (if e then 65 + (p.length + A.length) else 97 + (p.length + A.length)) []
    obtain ⟨y1, s', hy⟩ := ne_cons (wd p.length B) (if (!e) then 65 + (p.length + A.length) else 97 + (p.length + A.length)) []
    have lAB : (A ++ [e]).length = (B ++ [!e]).length := by rw [List.length_append, List.length_append, f3]; rfl
    have hh : hd u v = hd (A ++ [e]) (B ++ [!e]) := by
      rw [e1, e2, hd_app _ _ _ _ rfl, hd_self, f1, f2, show A ++ e :: post = (A ++ [e]) ++ post by simp, show B ++ (!e) :: post = (B ++ [!e]) ++ post by simp, hd_app _ _ _ _ lAB, hd_self]
      lia
    have L := lev_seg p.length (A ++ [e]) (B ++ [!e]) lAB (by rw [List.length_append]; show 1 ≤ _ + 1; lia) (by rw [List.length_append]; show _ + 1 ≤ 10; lia) (by lia)
      (fun b d' hb => by
        have z : dif (A ++ [e]) (B ++ [!e]) = dif A B ++ [e != !e] := dif_app _ _ _ _ f3
        cases A with
        | nil =>
          have : B = [] := List.length_eq_zero_iff.mp f3.symm
          subst this
          rw [z] at hb
          injection hb with hb _
          rw [← hb]; cases e <;> rfl
        | cons x A =>
          cases B with
          | nil => cases f3
          | cons y B =>
            injection f1 with g1 _
            injection f2 with g2 _
            injection hb with hb _
            rw [← hb, ← g1, ← g2]; cases a <;> rfl)
      (fun D b hb => by
        have z : dif (A ++ [e]) (B ++ [!e]) = dif A B ++ [e != !e] := dif_app _ _ _ _ f3
        rw [z] at hb
        have := List.append_inj_right' hb rfl
        injection this with this _
        rw [← this]; cases e <;> rfl)
    rw [sa, sb, hx, hy, ← hh, ← hm] at L
    have := lev_ok w b1 b2 (pre := wd 0 p) (post := wd (p.length + A.length + 1) post) (A := wd p.length A) (B := wd p.length B) (c := if a then 65 + p.length else 97 + p.length) (d := if (!a) then 65 + p.length else 97 + p.length)
      (e := if e then 65 + (p.length + A.length) else 97 + (p.length + A.length)) (f := if (!e) then 65 + (p.length + A.length) else 97 + (p.length + A.length)) (r := wd (p.length + 1) u1) (s := wd (p.length + 1) v1) (r' := r') (s' := s') (t := t) (u := t') (mx := mx) (v := vm)
      (by cases a <;> simp <;> lia) ea eb (by cases e <;> simp <;> lia) (by rw [wd_len, wd_len, f3]) hx.symm hy.symm ?_ ?_ ?_ (by lia) L.2
    · rw [L.1] at this
      rw [eu, ev]
      exact this
    · show (wd 0 p ++ wd p.length (a :: u1)).length ≤ 30
      rw [← eu, wd_len]; lia
    · rw [← hx, ← sa]
      exact wd_letter _ _ (by rw [List.length_append]; show _ + (_ + 1) ≤ 10; lia)
    · rw [← hy, ← sb]
      exact wd_letter _ _ (by rw [← lAB, List.length_append]; show _ + (_ + 1) ≤ 10; lia)
/-! the page -/
noncomputable def White (l : List Nat) : Prop := ∀ c ∈ l, Unicode.isSpace c = true ∧ c < 128
theorem take_white : ∀ (A : List Nat) (b : Nat) (r : List Nat), White A → Unicode.isSpace b = false → (A ++ b :: r).takeWhile Unicode.isSpace = A
  | [], b, r, _, hb => by rw [List.nil_append, List.takeWhile_cons, hb]; rfl
  | a :: A, b, r, hA, hb => by
    rw [List.cons_append, List.takeWhile_cons, (hA a (.head _)).1]
    show a :: (A ++ b :: r).takeWhile Unicode.isSpace = _
    rw [take_white A b r (fun c hc => hA c (.tail _ hc)) hb]
theorem strip_lo {A r : List Nat} {b : Nat} (hA : White A) (hb : Unicode.isSpace b = false) : PySem.stripLo Unicode.isSpace true ⟨⟨A ++ b :: r⟩⟩ = A.length := by
  show ((A ++ b :: r).takeWhile Unicode.isSpace).length = _
  rw [take_white A b r hA hb]
theorem strip_mid {A B C B' B'' X : List Nat} {b e : Nat} (hX : X = A ++ (B ++ C)) (hA : White A) (hC : White C) (hb : Unicode.isSpace b = false) (he : Unicode.isSpace e = false) (h1 : B = b :: B') (h2 : B = B'' ++ [e]) :
    PySem.stripped Unicode.isSpace true true ⟨⟨X⟩⟩ = ⟨⟨B⟩⟩ ∧ (PySem.stripSame Unicode.isSpace true true ⟨⟨X⟩⟩ = true → (⟨⟨X⟩⟩ : PySem.Str) = ⟨⟨B⟩⟩) := by
  have lo : PySem.stripLo Unicode.isSpace true ⟨⟨X⟩⟩ = A.length := by
    rw [hX, h1]; exact strip_lo hA hb
  have hi : PySem.stripHi Unicode.isSpace true ⟨⟨X⟩⟩ A.length = A.length + B.length := by
    show X.length - ((X.drop A.length).reverse.takeWhile Unicode.isSpace).length = _
    rw [hX, List.drop_left, h2, List.reverse_append, List.reverse_append]
    show _ - ((C.reverse ++ ([e] ++ B''.reverse)).takeWhile Unicode.isSpace).length = _
    rw [show C.reverse ++ ([e] ++ B''.reverse) = C.reverse ++ e :: B''.reverse from rfl, take_white _ _ _ (fun c hc => hC c (List.mem_reverse.mp hc)) he]
    simp only [List.length_append, List.length_reverse, List.length_cons, List.length_nil]
    lia
  refine ⟨?_, fun h => ?_⟩
  · unfold PySem.stripped
    rw [lo, hi]
    show (⟨(⟨X⟩ : Array Nat).extract A.length (A.length + B.length)⟩ : PySem.Str) = _
    apply PySem.Str.ext'
    apply Array.ext'
    rw [Array.toList_extract, hX]
    show List.extract _ _ _ = _
    unfold List.extract
    rw [List.drop_left, Nat.add_sub_cancel_left, List.take_left]
  · unfold PySem.stripSame at h
    rw [lo, hi, Bool.and_eq_true] at h
    have h3 : A.length = 0 := by simpa using h.1
    have h4 : A.length + B.length = X.length := by simpa [PySem.Str.length] using h.2
    have a0 : A = [] := List.length_eq_zero_iff.mp h3
    have lx := congrArg List.length hX
    simp only [List.length_append] at lx
    have c0 : C = [] := List.length_eq_zero_iff.mp (by lia)
    rw [hX, a0, c0, List.nil_append, List.append_nil]
noncomputable def sufs : List (List Nat) := [[], [32, 9], [58, 32, 97, 9, 98, 32]]
noncomputable def whs : List (List Nat) := [[], [32], [9], [32, 9]]
noncomputable def rsf (s : List Nat) : List Nat := if s = [32, 9] then [] else if s = [58, 32, 97, 9, 98, 32] then [58, 32, 97, 9, 98] else s
/-- signs that stand in a row -/
noncomputable def Row (l : List Nat) : Prop := ∀ c ∈ l, c < 128 ∧ c ≠ 10
structure Pg where
  (L S w : Nat → List Nat) (n : Nat)
noncomputable def Pg.T (p : Pg) (i : Nat) : List Nat := (112 + i) :: p.S i
noncomputable def Pg.R (p : Pg) : List Nat := (112 + (p.n - 1)) :: rsf (p.S (p.n - 1))
noncomputable def Pg.pg (p : Pg) : Nat → Nat → List Nat
  | _, 0 => []
  | i, k + 1 => match k with
    | 0 => p.L i ++ p.R
    | _ + 1 => p.L i ++ (p.T i ++ ([10] ++ (p.w i ++ ([10] ++ p.pg (i + 1) k))))
noncomputable def Pg.mid (p : Pg) (i k : Nat) : List Nat := match k with
    | 0 => p.R
    | _ + 1 => p.T i ++ ([10] ++ (p.w i ++ ([10] ++ p.pg (i + 1) k)))
noncomputable def Pg.lines (p : Pg) : Nat → Nat → List (List Nat)
  | _, 0 => []
  | i, k + 1 => match k with
    | 0 => [p.L i ++ p.R]
    | _ + 1 => (p.L i ++ p.T i) :: p.w i :: p.lines (i + 1) k
theorem Pg.pg_mid (p : Pg) (i k : Nat) : p.pg i (k + 1) = p.L i ++ p.mid i k := by cases k <;> rfl
theorem Pg.lines_ne (p : Pg) (i k : Nat) : ∃ a r, p.lines i (k + 1) = a :: r := by
  cases k with
  | zero => exact ⟨_, _, rfl⟩
  | succ k => exact ⟨_, _, rfl⟩
theorem Pg.join (p : Pg) : ∀ (k i : Nat), joinL [10] (p.lines i (k + 1)) = p.pg i (k + 1)
  | 0, _ => rfl
  | k + 1, i => by
    obtain ⟨a, r, h⟩ := p.lines_ne (i + 1) k
    have ih := Pg.join p k (i + 1)
    show joinL [10] ((p.L i ++ p.T i) :: p.w i :: p.lines (i + 1) (k + 1)) = p.L i ++ (p.T i ++ ([10] ++ (p.w i ++ ([10] ++ p.pg (i + 1) (k + 1)))))
    rw [← ih, h]
    show (p.L i ++ p.T i) ++ ([10] ++ (p.w i ++ ([10] ++ joinL [10] (a :: r)))) = _
    simp only [List.append_assoc]
theorem Pg.join_mid (p : Pg) (k i : Nat) : joinL [10] (p.T i :: p.w i :: p.lines (i + 1) (k + 1)) = p.mid i (k + 1) := by
  obtain ⟨a, r, h⟩ := p.lines_ne (i + 1) k
  show _ = p.T i ++ ([10] ++ (p.w i ++ ([10] ++ p.pg (i + 1) (k + 1))))
  rw [← p.join k (i + 1), h]
  rfl
structure PgOk (p : Pg) : Prop where
  n : 1 ≤ p.n ∧ p.n ≤ 5
  L : ∀ i, p.L i ∈ leads
  S : ∀ i, p.S i ∈ sufs
  w : ∀ i, p.w i ∈ whs
section
variable {p : Pg} (O : PgOk p)
include O
theorem PgOk.Lr (i : Nat) : Row (p.L i) ∧ White (p.L i) ∧ (p.L i).length ≤ 8 := by
  have := lead_at (O.L i)
  refine ⟨fun c hc => ?_, fun c hc => ?_, this.2.2.1⟩
  · rcases this.2.2.2 c hc with rfl | rfl <;> decide
  · rcases this.2.2.2 c hc with rfl | rfl <;> decide
theorem PgOk.wr (i : Nat) : Row (p.w i) ∧ White (p.w i) ∧ (p.w i).length ≤ 2 := by
  have := O.w i
  unfold whs at this
  simp only [List.mem_cons, List.not_mem_nil, or_false] at this
  unfold Row White
  rcases this with h | h | h | h <;> rw [h] <;> decide
theorem PgOk.Sr (i : Nat) : Row (p.S i) ∧ (p.S i).length ≤ 6 ∧ Row (rsf (p.S i)) ∧ (rsf (p.S i)).length ≤ 6 ∧ (∃ t, p.S i = rsf (p.S i) ++ t ∧ White t ∧ t.length ≤ 2) ∧ (rsf (p.S i) = [] ∨ rsf (p.S i) = [58, 32, 97, 9] ++ [98]) := by
  have := O.S i
  unfold sufs at this
  simp only [List.mem_cons, List.not_mem_nil, or_false] at this
  unfold Row White
  rcases this with h | h | h <;> rw [h]
  · exact ⟨by decide, by decide, by decide, by decide, ⟨[], rfl, by decide, by decide⟩, .inl rfl⟩
  · exact ⟨by decide, by decide, by decide, by decide, ⟨[32, 9], rfl, by decide, by decide⟩, .inl rfl⟩
  · exact ⟨by decide, by decide, by decide, by decide, ⟨[32], rfl, by decide, by decide⟩, .inr rfl⟩
theorem PgOk.Tr {i : Nat} (hi : i < 5) : Row (p.T i) ∧ (p.T i).length ≤ 7 := by
  have := O.Sr i
  refine ⟨fun c hc => ?_, by show (p.S i).length + 1 ≤ 7; lia⟩
  cases hc with
  | head => lia
  | tail _ hc => exact this.1 c hc
theorem PgOk.Rr : Row p.R ∧ p.R.length ≤ 7 := by
  have := O.Sr (p.n - 1)
  have hn := O.n
  refine ⟨fun c hc => ?_, by show (rsf (p.S (p.n - 1))).length + 1 ≤ 7; lia⟩
  cases hc with
  | head => lia
  | tail _ hc => exact this.2.2.1 c hc
theorem PgOk.Rend : ∃ Q e, p.R = Q ++ [e] ∧ Unicode.isSpace e = false := by
  have := (O.Sr (p.n - 1)).2.2.2.2.2
  have hn := O.n
  unfold Pg.R
  rcases this with h | h <;> rw [h]
  · refine ⟨[], _, rfl, ?_⟩
    have : p.n = 1 ∨ p.n = 2 ∨ p.n = 3 ∨ p.n = 4 ∨ p.n = 5 := by lia
    rcases this with h | h | h | h | h <;> rw [h] <;> decide
  · exact ⟨_ :: [58, 32, 97, 9], 98, rfl, by decide⟩
theorem PgOk.pg_end (k i : Nat) : ∃ Q, p.pg i (k + 1) = Q ++ p.R := by
  induction k generalizing i with
  | zero => exact ⟨p.L i, rfl⟩
  | succ k ih =>
    obtain ⟨Q, h⟩ := ih (i + 1)
    refine ⟨p.L i ++ (p.T i ++ ([10] ++ (p.w i ++ ([10] ++ Q)))), ?_⟩
    show p.L i ++ (p.T i ++ ([10] ++ (p.w i ++ ([10] ++ p.pg (i + 1) (k + 1))))) = _
    rw [h]; simp only [List.append_assoc]
theorem PgOk.mid_end (k i : Nat) : ∃ Q, p.mid i k = Q ++ p.R := by
  cases k with
  | zero => exact ⟨[], rfl⟩
  | succ k =>
    obtain ⟨Q, h⟩ := O.pg_end k (i + 1)
    refine ⟨p.T i ++ ([10] ++ (p.w i ++ ([10] ++ Q))), ?_⟩
    show p.T i ++ ([10] ++ (p.w i ++ ([10] ++ p.pg (i + 1) (k + 1)))) = _
    rw [h]; simp only [List.append_assoc]
theorem PgOk.pg_len (k : Nat) : ∀ i, i + k < 5 → (p.pg i (k + 1)).length ≤ 20 * (k + 1) ∧ ∀ c ∈ p.pg i (k + 1), c < 128 := by
  induction k with
  | zero =>
    intro i hi
    have a := O.Lr i
    have b := O.Rr
    refine ⟨by show (p.L i ++ p.R).length ≤ _; rw [List.length_append]; lia, fun c hc => ?_⟩
    rcases List.mem_append.mp hc with hc | hc
    · exact (a.1 c hc).1
    · exact (b.1 c hc).1
  | succ k ih =>
    intro i hi
    have a := O.Lr i
    have b := O.Tr (show i < 5 by lia)
    have d := O.wr i
    have e := ih (i + 1) (by lia)
    show (p.L i ++ (p.T i ++ ([10] ++ (p.w i ++ ([10] ++ p.pg (i + 1) (k + 1)))))).length ≤ _ ∧ ∀ c ∈ p.L i ++ (p.T i ++ ([10] ++ (p.w i ++ ([10] ++ p.pg (i + 1) (k + 1))))), c < 128
    refine ⟨by simp only [List.length_append, List.length_cons, List.length_nil]; lia, fun c hc => ?_⟩
    simp only [List.mem_append, List.mem_singleton] at hc
    rcases hc with hc | hc | hc | hc | hc | hc
    · exact (a.1 c hc).1
    · exact (b.1 c hc).1
    · lia
    · exact (d.1 c hc).1
    · lia
    · exact e.2 c hc
theorem PgOk.lines_row (k : Nat) : ∀ i, i + k < 5 → (∀ l ∈ p.lines i (k + 1), 10 ∉ l) ∧ (p.lines i (k + 1)).length ≤ 2 * (k + 1) ∧ sumLen (p.lines i (k + 1)) ≤ 20 * (k + 1) := by
  have ap : ∀ {a b : List Nat}, Row a → Row b → 10 ∉ a ++ b := fun ha hb h => by
    rcases List.mem_append.mp h with h | h
    · exact (ha _ h).2 rfl
    · exact (hb _ h).2 rfl
  induction k with
  | zero =>
    intro i hi
    have a := O.Lr i
    have b := O.Rr
    refine ⟨fun l hl => ?_, by show 1 ≤ _; lia, by show (p.L i ++ p.R).length + 0 ≤ _; rw [List.length_append]; lia⟩
    rw [List.mem_singleton.mp hl]
    exact ap a.1 b.1
  | succ k ih =>
    intro i hi
    have a := O.Lr i
    have b := O.Tr (show i < 5 by lia)
    have d := O.wr i
    have e := ih (i + 1) (by lia)
    show (∀ l ∈ (p.L i ++ p.T i) :: p.w i :: p.lines (i + 1) (k + 1), 10 ∉ l) ∧ ((p.L i ++ p.T i) :: p.w i :: p.lines (i + 1) (k + 1)).length ≤ _ ∧ (p.L i ++ p.T i).length + ((p.w i).length + sumLen (p.lines (i + 1) (k + 1))) ≤ _
    refine ⟨fun l hl => ?_, by simp only [List.length_cons]; lia, by rw [List.length_append]; lia⟩
    cases hl with
    | head => exact ap a.1 b.1
    | tail _ hl => cases hl with
      | head => exact fun h => (d.1 _ h).2 rfl
      | tail _ hl => exact e.1 l hl
end
theorem sp_letter {i : Nat} (hi : i < 5) : Unicode.isSpace (112 + i) = false := by
  have : i = 0 ∨ i = 1 ∨ i = 2 ∨ i = 3 ∨ i = 4 := by lia
  rcases this with h | h | h | h | h <;> rw [h] <;> decide
theorem wh_strip {m : List Nat} (h : m ∈ whs) : PySem.stripped Unicode.isSpace false true ⟨⟨m⟩⟩ = ⟨⟨[]⟩⟩ ∧ (PySem.stripSame Unicode.isSpace false true ⟨⟨m⟩⟩ = true → (⟨⟨m⟩⟩ : PySem.Str) = ⟨⟨[]⟩⟩) := by
  unfold whs at h
  simp only [List.mem_cons, List.not_mem_nil, or_false] at h
  rcases h with rfl | rfl | rfl | rfl
  · exact ⟨by decide +kernel, fun _ => rfl⟩
  · exact ⟨by decide +kernel, fun h => absurd h (by decide +kernel)⟩
  · exact ⟨by decide +kernel, fun h => absurd h (by decide +kernel)⟩
  · exact ⟨by decide +kernel, fun h => absurd h (by decide +kernel)⟩

/-! the whole page -/
noncomputable def Pg.raw (p : Pg) : Nat → Nat → List Nat
  | _, 0 => []
  | i, k + 1 => ((((p.L i ++ p.T i) ++ [10]) ++ p.w i) ++ [10]) ++ p.raw (i + 1) k
noncomputable def Pg.rd (p : Pg) : Rd :=
  { X := fun i => match i with
      | 0 => p.raw 0 p.n
      | i + 1 => p.pg (i + 1) (p.n - (i + 1)),
    T := fun i => if i + 1 = p.n then p.R else p.T i, VF := fun i => (wl (p.L i)).VF, b := fun i => (wl (p.L i)).b, n := fun i => (wl (p.L i)).n, nt := fun i => (wl (p.L i)).nt, sm := fun i => (wl (p.L i)).sm }
section
variable {p : Pg} (O : PgOk p)
include O
theorem PgOk.raw_mid (k : Nat) : ∀ i, i + k + 1 = p.n → ∃ C, White C ∧ C.length ≤ 6 ∧ p.raw i (k + 1) = p.L i ++ (p.mid i k ++ C) := by
  induction k with
  | zero =>
    intro i hi
    obtain ⟨t, h1, h2, h3⟩ := (O.Sr i).2.2.2.2.1
    have wr := O.wr i
    refine ⟨t ++ ([10] ++ (p.w i ++ [10])), fun c hc => ?_, by simp only [List.length_append, List.length_cons, List.length_nil]; lia, ?_⟩
    · simp only [List.mem_append, List.mem_singleton] at hc
      rcases hc with hc | hc | hc | hc
      · exact h2 c hc
      · rw [hc]; decide
      · exact wr.2.1 c hc
      · rw [hc]; decide
    · show ((((p.L i ++ (112 + i) :: p.S i) ++ [10]) ++ p.w i) ++ [10]) ++ [] = p.L i ++ (((112 + (p.n - 1)) :: rsf (p.S (p.n - 1))) ++ (t ++ ([10] ++ (p.w i ++ [10]))))
      have e : p.n - 1 = i := by lia
      rw [e]
      have h1' := h1
      rw [List.append_nil]
      simp only [List.append_assoc, List.cons_append]
      rw [← List.append_assoc (rsf (p.S i)) t, ← h1']
  | succ k ih =>
    intro i hi
    obtain ⟨C, h1, h2, h3⟩ := ih (i + 1) (by lia)
    refine ⟨C, h1, h2, ?_⟩
    show ((((p.L i ++ p.T i) ++ [10]) ++ p.w i) ++ [10]) ++ p.raw (i + 1) (k + 1) = p.L i ++ ((p.T i ++ ([10] ++ (p.w i ++ ([10] ++ p.pg (i + 1) (k + 1))))) ++ C)
    rw [h3, p.pg_mid]
    simp only [List.append_assoc]
theorem PgOk.mid_head (i k : Nat) (h : i + k + 1 = p.n) : ∃ r, p.mid i k = (112 + i) :: r := by
  cases k with
  | zero =>
    refine ⟨rsf (p.S (p.n - 1)), ?_⟩
    show p.R = _
    unfold Pg.R
    rw [show p.n - 1 = i by lia]
  | succ k => exact ⟨_, rfl⟩
theorem PgOk.x_is (i k : Nat) (h : i + k + 1 = p.n) : ∃ C, White C ∧ C.length ≤ 6 ∧ p.rd.X i = p.L i ++ (p.mid i k ++ C) := by
  cases i with
  | zero =>
    have := O.raw_mid k 0 h
    show ∃ C, White C ∧ C.length ≤ 6 ∧ p.raw 0 p.n = _
    rw [← h, Nat.zero_add]
    exact this
  | succ i =>
    refine ⟨[], (fun _ q => nomatch q), Nat.zero_le _, ?_⟩
    show p.pg (i + 1) (p.n - (i + 1)) = _
    rw [show p.n - (i + 1) = k + 1 by lia, p.pg_mid, List.append_nil]
theorem PgOk.mid_len (i k : Nat) (h : i + k + 1 = p.n) : (p.mid i k).length ≤ 100 ∧ ∀ c ∈ p.mid i k, c < 128 := by
  have hn := O.n
  have a := O.pg_len k i (by lia)
  rw [p.pg_mid, List.length_append] at a
  exact ⟨by lia, fun c hc => a.2 c (List.mem_append_right _ hc)⟩
theorem PgOk.cls (w : World) (b1 b2 : Bool) {i : Nat} (hi : i < p.n) (t : Nat) : VV w b1 b2 (cCls (parOf w.params b1 b2) (p.rd.X i) t (p.rd.VF i) (p.rd.b i) (p.rd.n i) (p.rd.nt i) (p.rd.sm i)) := by
  have hn := O.n
  have hk : i + (p.n - 1 - i) + 1 = p.n := by lia
  obtain ⟨C, c1, c2, c3⟩ := O.x_is i _ hk
  obtain ⟨r, hr⟩ := O.mid_head i _ hk
  have ml := O.mid_len i _ hk
  have ld := lead_at (O.L i)
  have lr := O.Lr i
  have hv : (wl (p.L i)).VF.length ≤ 3 := by
    have := ld.1
    unfold wlOk at this
    simp only [Bool.and_eq_true, decide_eq_true_eq] at this
    exact this.1.1
  refine cls_ok w b1 b2 (l := p.L i) (s1 := 112 + i) (tl := r ++ C) (by lia) (by lia) (by rw [c3, hr]; rfl) ?_ (by lia) ld.2.1 (VF := (wl (p.L i)).VF) (b := (wl (p.L i)).b) (n := (wl (p.L i)).n) (nt := (wl (p.L i)).nt) rfl (by lia) rfl
  rw [c3]
  simp only [List.all_toArray, List.all_eq_true, decide_eq_true_eq, List.mem_append]
  intro c hc
  rcases hc with hc | hc | hc
  · exact (lr.1 c hc).1
  · exact ml.2 c hc
  · exact (c1 c hc).2
theorem PgOk.sd (w : World) (b1 b2 : Bool) {i : Nat} (hi : i + 1 < p.n) (t : Nat) : VV w b1 b2 (cSd (p.rd.X i) t (p.rd.T i) (p.rd.X (i + 1))) := by
  have hn := O.n
  obtain ⟨k, hk⟩ : ∃ k, i + (k + 1) + 1 = p.n := ⟨p.n - i - 2, by lia⟩
  obtain ⟨C, c1, c2, c3⟩ := O.x_is i _ hk
  obtain ⟨Q, hQ⟩ := O.mid_end (k + 1) i
  obtain ⟨Q', e, hR, he⟩ := O.Rend
  obtain ⟨r, hr⟩ := O.mid_head i _ hk
  have ml := O.mid_len i _ hk
  have ln := O.lines_row k (i + 1) (by lia)
  obtain ⟨s1, s2⟩ := strip_mid c3 (O.Lr i).2.1 c1 (sp_letter (by lia)) he hr (by rw [hQ, hR, ← List.append_assoc])
  obtain ⟨w1, w2⟩ := wh_strip (O.w i)
  have eT : p.rd.T i = p.T i := by
    show (if i + 1 = p.n then p.R else p.T i) = _
    rw [if_neg (by lia)]
  have eX : p.rd.X (i + 1) = joinL [10] (p.lines (i + 1) (k + 1)) := by
    rw [p.join]
    show p.pg (i + 1) (p.n - (i + 1)) = _
    rw [show p.n - (i + 1) = k + 1 by lia]
  rw [eT]
  refine sd2_ok w b1 b2 (s := p.mid i (k + 1)) (m := p.w i) (L := p.lines (i + 1) (k + 1)) s1 s2 (p.join_mid k i).symm (fun l hl => ?_) (by lia) w1 w2 eX (by lia) (by lia)
  cases hl with
  | head => exact fun h => ((O.Tr (show i < 5 by lia)).1 _ h).2 rfl
  | tail _ hl => cases hl with
    | head => exact fun h => ((O.wr i).1 _ h).2 rfl
    | tail _ hl => exact ln.1 l hl
theorem PgOk.sdl (w : World) (b1 b2 : Bool) {i : Nat} (hi : i + 1 = p.n) (t : Nat) : VV w b1 b2 (cSd (p.rd.X i) t (p.rd.T i) []) := by
  have hn := O.n
  obtain ⟨C, c1, c2, c3⟩ := O.x_is i 0 hi
  obtain ⟨Q', e, hR, he⟩ := O.Rend
  obtain ⟨r, hr⟩ := O.mid_head i 0 hi
  obtain ⟨s1, s2⟩ := strip_mid c3 (O.Lr i).2.1 c1 (sp_letter (by lia)) he hr hR
  have eT : p.rd.T i = p.R := by
    show (if i + 1 = p.n then p.R else p.T i) = _
    rw [if_pos hi]
  rw [eT]
  have := O.Rr
  exact sd1_ok w b1 b2 s1 s2 (fun h => (this.1 _ h).2 rfl) (by show p.R.length ≤ 1000; lia)
theorem PgOk.ne {i : Nat} (hi : i < p.n) : p.rd.X i ≠ [] := by
  have hk : i + (p.n - 1 - i) + 1 = p.n := by lia
  obtain ⟨C, c1, c2, c3⟩ := O.x_is i _ hk
  obtain ⟨r, hr⟩ := O.mid_head i _ hk
  rw [c3, hr]
  intro h
  have := congrArg List.length h
  simp at this
end
theorem rd4 (w : World) (b1 b2 : Bool) {p : Pg} (O : PgOk p) (hn : p.n = 4) (t : Nat) : VV w b1 b2 (cRead (parOf w.params b1 b2) p.rd t 4) :=
  rd4_ok w b1 b2 (fun i hi t => O.cls w b1 b2 (by lia) t) (fun i hi t => O.sd w b1 b2 (by lia) t) (fun t => O.sdl w b1 b2 (by lia) t) fun i hi => O.ne (by lia)
theorem rd5 (w : World) (b1 b2 : Bool) {p : Pg} (O : PgOk p) (hn : p.n = 5) (t : Nat) : VV w b1 b2 (cRead (parOf w.params b1 b2) p.rd t 5) :=
  rd5_ok w b1 b2 (fun i hi t => O.cls w b1 b2 (by lia) t) (fun i hi t => O.sd w b1 b2 (by lia) t) (fun t => O.sdl w b1 b2 (by lia) t) fun i hi => O.ne (by lia)
/-- the last row's name, cut behind -/
theorem last_strip {p : Pg} (O : PgOk p) {i : Nat} (hi : i + 1 = p.n) : PySem.stripped Unicode.isSpace false true ⟨⟨p.T i⟩⟩ = ⟨⟨p.R⟩⟩ ∧ (PySem.stripSame Unicode.isSpace false true ⟨⟨p.T i⟩⟩ = true → (⟨⟨p.T i⟩⟩ : PySem.Str) = ⟨⟨p.R⟩⟩) := by
  have hn := O.n
  have hs := O.S i
  have e : p.n - 1 = i := by lia
  unfold Pg.R Pg.T
  rw [e]
  unfold sufs at hs
  simp only [List.mem_cons, List.not_mem_nil, or_false] at hs
  have hi5 : i = 0 ∨ i = 1 ∨ i = 2 ∨ i = 3 ∨ i = 4 := by lia
  rcases hs with h | h | h <;> rw [h] <;> rcases hi5 with q | q | q | q | q <;> subst q <;> first
    | exact ⟨by decide +kernel, fun _ => rfl⟩
    | exact ⟨by decide +kernel, fun h => absurd h (by decide +kernel)⟩
/-! what the law reckons from the script -/
noncomputable def told (k : Nat) : Int := match k with
  | 0 => 405
  | 1 => 654
  | 2 => 244
  | 3 => 166
  | _ => 10
noncomputable def pickS (sl : List (Int × Nat)) (k : Int) : List (Int × Nat) :=
  (sliceRange (sliceBounds (some k) none (some 5) sl.length).1 (sliceBounds (some k) none (some 5) sl.length).2.1 (sliceBounds (some k) none (some 5) sl.length).2.2).filterMap (sl[·]?)
theorem pick_is (sl : List (Int × Nat)) (k : Int) : slicePick ⟨inl sl⟩ (some k) none (some 5) = ⟨inl (pickS sl k)⟩ := by
  unfold slicePick pickS
  have hs : (⟨inl sl⟩ : Array Value).size = sl.length := inl_len sl
  rw [hs]
  congr 1
  generalize sliceRange _ _ _ = l
  induction l with
  | nil => rfl
  | cons i l ih =>
    have e : (⟨inl sl⟩ : Array Value)[i]? = (sl[i]?).map fun p => .int p.1 p.2 := by
      rw [List.getElem?_toArray]
      unfold inl
      rw [List.getElem?_map]
    rw [List.filterMap_cons, List.filterMap_cons, e]
    cases sl[i]? with
    | none => exact ih
    | some p => exact congrArg (_ :: ·) ih
noncomputable def tot (sl : List (Int × Nat)) (k : Nat) : Int := told k + ((pickS sl k).map (·.1)).sum
noncomputable def ixv (sl : List (Int × Nat)) (k : Nat) : Nat := (((tot sl k).fdiv 324).fmod 3).toNat
noncomputable def iwv (sl : List (Int × Nat)) (k : Nat) : Nat := (((tot sl k).fdiv 81).fmod 4).toNat
noncomputable def pgO (sl : List (Int × Nat)) (n : Nat) : Pg := { L := fun k => leadL (tot sl k), S := fun k => sufs.getD (ixv sl k) [], w := fun k => whs.getD (iwv sl k) [], n := n }
theorem toNat_mod (x m : Int) (h : 0 < m) : (((x.fmod m).toNat : Nat) : Int) = x.fmod m ∧ (x.fmod m).toNat < m.toNat := by
  have h1 := Int.fmod_nonneg_of_pos x h
  have h2 := Int.fmod_lt_of_pos x h
  lia
theorem ix_lt (sl : List (Int × Nat)) (k : Nat) : ixv sl k < 3 := (toNat_mod _ 3 (by decide)).2
theorem iw_lt (sl : List (Int × Nat)) (k : Nat) : iwv sl k < 4 := (toNat_mod _ 4 (by decide)).2
theorem pgO_ok (sl : List (Int × Nat)) (n : Nat) (hn : n = 4 ∨ n = 5) : PgOk (pgO sl n) := by
  refine ⟨by show 1 ≤ n ∧ n ≤ 5; lia, fun i => lead_in _, fun i => ?_, fun i => ?_⟩
  · have := ix_lt sl i
    show sufs.getD (ixv sl i) [] ∈ sufs
    have : ixv sl i = 0 ∨ ixv sl i = 1 ∨ ixv sl i = 2 := by lia
    rcases this with h | h | h <;> rw [h] <;> decide
  · have := iw_lt sl i
    show whs.getD (iwv sl i) [] ∈ whs
    have : iwv sl i = 0 ∨ iwv sl i = 1 ∨ iwv sl i = 2 ∨ iwv sl i = 3 := by lia
    rcases this with h | h | h | h <;> rw [h] <;> decide
noncomputable def Kv (sl : List (Int × Nat)) (k s : Nat) : Int := colFrom s 0 (leadL (tot sl k))
noncomputable def bitsS (sl : List (Int × Nat)) (n s : Nat) : List Bool := gb n (gt fun i j => ltL s (leadL (tot sl i)) (leadL (tot sl j)))
noncomputable def Wv (sl : List (Int × Nat)) (n s : Nat) : List Nat := wd 0 (bitsS sl n s)
noncomputable def Gv (sl : List (Int × Nat)) (n s : Nat) : Int := (cnt (bitsS sl n s) : Int)
noncomputable def bitsT (sl : List (Int × Nat)) (n j : Nat) : List Bool := match j with
  | 0 => band (bitsS sl n 1) (bitsS sl n 2)
  | 1 => band (bitsS sl n 1) (bitsS sl n 3)
  | _ => band (bitsS sl n 2) (bitsS sl n 3)
noncomputable def SWv (sl : List (Int × Nat)) (n j : Nat) : List Nat := wd 0 (bitsT sl n j)
noncomputable def SGv (sl : List (Int × Nat)) (n j : Nat) : Int := (cnt (bitsT sl n j) : Int)
noncomputable def M2v (sl : List (Int × Nat)) (n j : Nat) : Int := 2 * (SGv sl n j - Gv sl n 0)
noncomputable def PGv (sl : List (Int × Nat)) (k i : Nat) : List Nat := match i with
  | 0 => leadL (tot sl k) ++ (112 + k) :: sufs.getD (ixv sl k) []
  | 1 => (leadL (tot sl k) ++ (112 + k) :: sufs.getD (ixv sl k) []) ++ [10]
  | 2 => ((leadL (tot sl k) ++ (112 + k) :: sufs.getD (ixv sl k) []) ++ [10]) ++ whs.getD (iwv sl k) []
  | _ => (((leadL (tot sl k) ++ (112 + k) :: sufs.getD (ixv sl k) []) ++ [10]) ++ whs.getD (iwv sl k) []) ++ [10]
theorem bits_len (sl : List (Int × Nat)) (n s : Nat) : (bitsS sl n s).length = 10 := rfl
theorem bitsT_len (sl : List (Int × Nat)) (n j : Nat) : (bitsT sl n j).length = 10 := by
  unfold bitsT
  split <;> rfl
theorem bits0 (sl : List (Int × Nat)) (n : Nat) : bitsS sl n 0 = band (band (bitsS sl n 1) (bitsS sl n 2)) (bitsS sl n 3) := by
  unfold bitsS
  rw [← gb_and, ← gb_and]
  congr 1
  funext i j
  rw [← gt_and, ← gt_and]
  rfl
theorem gb_congr {n : Nat} {f g : Nat → Nat → Bool} (hn : n = 4 ∨ n = 5) (h : ∀ i j, i < j → j < n → f i j = g i j) : gb n f = gb n g := by
  unfold gb
  rcases hn with rfl | rfl
  · rw [h 0 1 (by decide) (by decide), h 0 2 (by decide) (by decide), h 1 2 (by decide) (by decide), h 0 3 (by decide) (by decide), h 1 3 (by decide) (by decide), h 2 3 (by decide) (by decide)]; rfl
  · rw [h 0 1 (by decide) (by decide), h 0 2 (by decide) (by decide), h 1 2 (by decide) (by decide), h 0 3 (by decide) (by decide), h 1 3 (by decide) (by decide), h 2 3 (by decide) (by decide), h 0 4 (by decide) (by decide), h 1 4 (by decide) (by decide), h 2 4 (by decide) (by decide), h 3 4 (by decide) (by decide)]
/-- the columns as they lie in the heap -/
structure ColsAre (sl : List (Int × Nat)) (n : Nat) (c : Nat → Col) : Prop where
  v1 : ∀ i, i < n → (c i).v1 = Kv sl i 1
  v2 : ∀ i, i < n → (c i).v2 = Kv sl i 2
  v3 : ∀ i, i < n → (c i).v3 = Kv sl i 3
theorem ColsAre.lc {sl : List (Int × Nat)} {n : Nat} {c : Nat → Col} (h : ColsAre sl n c) {s : Nat} (hs : s = 1 ∨ s = 2 ∨ s = 3) {i j : Nat} (hi : i < n) (hj : j < n) : Mine.lc c (s : Int) i j = ltL s (leadL (tot sl i)) (leadL (tot sl j)) := by
  unfold Mine.lc ltL colV
  rcases hs with rfl | rfl | rfl
  · show decide ((c i).v1 < (c j).v1) = decide (Kv sl i 1 < Kv sl j 1)
    rw [h.v1 i hi, h.v1 j hj]
  · show decide ((c i).v2 < (c j).v2) = decide (Kv sl i 2 < Kv sl j 2)
    rw [h.v2 i hi, h.v2 j hj]
  · show decide ((c i).v3 < (c j).v3) = decide (Kv sl i 3 < Kv sl j 3)
    rw [h.v3 i hi, h.v3 j hj]
theorem ColsAre.gb {sl : List (Int × Nat)} {n : Nat} {c : Nat → Col} (h : ColsAre sl n c) (hn : n = 4 ∨ n = 5) {s : Nat} (hs : s = 1 ∨ s = 2 ∨ s = 3) : Mine.gb n (gt (Mine.lc c (s : Int))) = bitsS sl n s :=
  gb_congr hn fun i j hi hj => gt_congr fun k h1 h2 => h.lc hs (by lia) (by lia)
theorem ColsAre.one {sl : List (Int × Nat)} {n : Nat} {c : Nat → Col} (h : ColsAre sl n c) (hn : n = 4 ∨ n = 5) {s : Nat} (hs : s = 1 ∨ s = 2 ∨ s = 3) : Mine.gb n (gs [(s : Int)] c) = bitsS sl n s := by
  rw [gs1, h.gb hn hs]
theorem ColsAre.two {sl : List (Int × Nat)} {n : Nat} {c : Nat → Col} (h : ColsAre sl n c) (hn : n = 4 ∨ n = 5) {s t : Nat} (hs : s = 1 ∨ s = 2 ∨ s = 3) (ht : t = 1 ∨ t = 2 ∨ t = 3) : Mine.gb n (gs [(s : Int), (t : Int)] c) = band (bitsS sl n s) (bitsS sl n t) := by
  rw [gs2, gb_and, h.gb hn hs, h.gb hn ht]
theorem ColsAre.all {sl : List (Int × Nat)} {n : Nat} {c : Nat → Col} (h : ColsAre sl n c) (hn : n = 4 ∨ n = 5) : Mine.gb n (gs [1, 2, 3] c) = bitsS sl n 0 := by
  have a := h.gb hn (s := 1) (.inl rfl)
  have b := h.gb hn (s := 2) (.inr (.inl rfl))
  have d := h.gb hn (s := 3) (.inr (.inr rfl))
  rw [gs3, bits0, gb_and, gb_and]
  rw [show (Mine.gb n (gt (Mine.lc c 1))) = bitsS sl n 1 from a, show (Mine.gb n (gt (Mine.lc c 2))) = bitsS sl n 2 from b, show (Mine.gb n (gt (Mine.lc c 3))) = bitsS sl n 3 from d]
section
variable (w : World) (b1 b2 : Bool) {sl : List (Int × Nat)}
theorem mk_L {n : Nat} (z : Nat → Nat) (i : Nat) : MkL (mkF (pgO sl n).rd z n i) (leadL (tot sl (min i (n - 1)))) :=
  ⟨⟨_, lsO_len .., rfl⟩, rfl, rfl, rfl, rfl⟩
theorem mk_ok {n : Nat} (z : Nat → Nat) (i : Nat) : MkOk (mkF (pgO sl n).rd z n i) := (mk_L z i).ok (lead_in _)
theorem word_is {n : Nat} (hn : n = 4 ∨ n = 5) (z : Nat → Nat) {s : Nat} (hs : s ≤ 3) : wordB (gN (fun i j => aboveV s (mkF (pgO sl n).rd z n i) (mkF (pgO sl n).rd z n j)) n) = Wv sl n s := by
  have e : ∀ i j, i < j → j < n → aboveV s (mkF (pgO sl n).rd z n i) (mkF (pgO sl n).rd z n j) = ltL s (leadL (tot sl i)) (leadL (tot sl j)) := fun i j hi hj => by
    rw [above_L (mk_L z i) (mk_L z j) (lead_in _) (lead_in _) hs, Nat.min_eq_left (show i ≤ n - 1 by lia), Nat.min_eq_left (show j ≤ n - 1 by lia)]
  rw [gN_congr e n (Nat.le_refl _)]
  unfold Wv bitsS
  rcases hn with rfl | rfl
  · exact word4 (lt := fun i j => ltL s (leadL (tot sl i)) (leadL (tot sl j))) tr_ltL
  · exact word5 (lt := fun i j => ltL s (leadL (tot sl i)) (leadL (tot sl j))) tr_ltL
theorem olx4 (z : Nat → Nat) {s : Nat} (hs : s ≤ 3) {hm : Nat → Nat} {h ma em t : Nat} {sz : Int} (e : sz = (s : Int)) {ml : List Value} (hl : ml = [.ref (mkF (pgO sl 4).rd z 4 0).x, .ref (mkF (pgO sl 4).rd z 4 1).x, .ref (mkF (pgO sl 4).rd z 4 2).x, .ref (mkF (pgO sl 4).rd z 4 3).x]) :
    VV w b1 b2 (cOl (parOf w.params b1 b2) (mkF (pgO sl 4).rd z 4) hm h ma ml em sz t (Wv sl 4 s)) := by
  subst e hl
  rw [← word_is (.inl rfl) z hs]
  exact ol4_ok (fun i _ => mk_ok z i) hs
theorem olx5 (z : Nat → Nat) {s : Nat} (hs : s ≤ 3) {hm : Nat → Nat} {h ma em t : Nat} {sz : Int} (e : sz = (s : Int)) {ml : List Value} (hl : ml = [.ref (mkF (pgO sl 5).rd z 5 0).x, .ref (mkF (pgO sl 5).rd z 5 1).x, .ref (mkF (pgO sl 5).rd z 5 2).x, .ref (mkF (pgO sl 5).rd z 5 3).x, .ref (mkF (pgO sl 5).rd z 5 4).x]) :
    VV w b1 b2 (cOl (parOf w.params b1 b2) (mkF (pgO sl 5).rd z 5) hm h ma ml em sz t (Wv sl 5 s)) := by
  subst e hl
  rw [← word_is (.inr rfl) z hs]
  exact ol5_ok (fun i _ => mk_ok z i) hs
theorem greatx {bs : List Bool} (hl : bs.length = 10) {t : Nat} {r : Int} (hr : r = (cnt bs : Int)) : VV w b1 b2 (cGreat ⟨⟨wd 0 bs⟩⟩ t r) := by
  subst hr
  cases bs with
  | nil => cases hl
  | cons b bs =>
    have := great_ok w b1 b2 (t := t) (c := if b then 65 + 0 else 97 + 0) (r := wd 1 bs) (wd_letter (b :: bs) 0 (by rw [hl]; decide)) (by show (wd 0 (b :: bs)).length ≤ _; rw [wd_len, hl]; decide)
    rw [show ((if b then 65 + 0 else 97 + 0) :: wd 1 bs) = wd 0 (b :: bs) from rfl, wd_cnt _ 0 (by rw [hl]; decide)] at this
    exact this
theorem get3 {sl : List (Int × Nat)} {k t0 t1 t2 : Nat} : ([.str ⟨⟨[]⟩⟩ t0, .str ⟨⟨[32, 9]⟩⟩ t1, .str ⟨⟨[58, 32, 97, 9, 98, 32]⟩⟩ t2] : List Value)[((ixv sl k : Nat) : Int).toNat]? = some (.str ⟨⟨sufs.getD (ixv sl k) []⟩⟩ (tokS [.str ⟨⟨[]⟩⟩ t0, .str ⟨⟨[32, 9]⟩⟩ t1, .str ⟨⟨[58, 32, 97, 9, 98, 32]⟩⟩ t2] (ixv sl k))) := by
  have := ix_lt sl k
  rw [Int.toNat_natCast]
  generalize ixv sl k = i at *
  have : i = 0 ∨ i = 1 ∨ i = 2 := by lia
  unfold tokS
  rcases this with rfl | rfl | rfl <;> rfl
theorem get4 {sl : List (Int × Nat)} {k t0 t1 t2 t3 : Nat} : ([.str ⟨⟨[]⟩⟩ t0, .str ⟨⟨[32]⟩⟩ t1, .str ⟨⟨[9]⟩⟩ t2, .str ⟨⟨[32, 9]⟩⟩ t3] : List Value)[((iwv sl k : Nat) : Int).toNat]? = some (.str ⟨⟨whs.getD (iwv sl k) []⟩⟩ (tokS [.str ⟨⟨[]⟩⟩ t0, .str ⟨⟨[32]⟩⟩ t1, .str ⟨⟨[9]⟩⟩ t2, .str ⟨⟨[32, 9]⟩⟩ t3] (iwv sl k))) := by
  have := iw_lt sl k
  rw [Int.toNat_natCast]
  generalize iwv sl k = i at *
  have : i = 0 ∨ i = 1 ∨ i = 2 ∨ i = 3 := by lia
  unfold tokS
  rcases this with rfl | rfl | rfl | rfl <;> rfl
theorem lens (sl : List (Int × Nat)) (k : Nat) : (leadL (tot sl k)).length ≤ 8 ∧ (sufs.getD (ixv sl k) []).length ≤ 6 ∧ (whs.getD (iwv sl k) []).length ≤ 2 := by
  have O := pgO_ok sl 4 (.inl rfl)
  exact ⟨(O.Lr k).2.2, (O.Sr k).2.1, (O.wr k).2.2⟩
theorem PG_len (sl : List (Int × Nat)) (k i : Nat) : (PGv sl k i).length ≤ 40 := by
  have := lens sl k
  unfold PGv
  split <;> simp only [List.length_append, List.length_cons, List.length_nil] <;> lia
theorem small40 {n m : Nat} (h : n ≤ 100) (h2 : m ≤ 100) : n + m ≤ sizeLine := by rw [sizeLine_eq]; lia
theorem join4 (sl : List (Int × Nat)) : joinL [] [PGv sl 0 3, PGv sl 1 3, PGv sl 2 3, PGv sl 3 3] = (pgO sl 4).rd.X 0 := by
  show PGv sl 0 3 ++ ([] ++ (PGv sl 1 3 ++ ([] ++ (PGv sl 2 3 ++ ([] ++ PGv sl 3 3))))) = PGv sl 0 3 ++ (PGv sl 1 3 ++ (PGv sl 2 3 ++ (PGv sl 3 3 ++ [])))
  simp only [List.nil_append, List.append_nil]
theorem join5 (sl : List (Int × Nat)) : joinL [] [PGv sl 0 3, PGv sl 1 3, PGv sl 2 3, PGv sl 3 3, PGv sl 4 3] = (pgO sl 5).rd.X 0 := by
  show PGv sl 0 3 ++ ([] ++ (PGv sl 1 3 ++ ([] ++ (PGv sl 2 3 ++ ([] ++ (PGv sl 3 3 ++ ([] ++ PGv sl 4 3))))))) = PGv sl 0 3 ++ (PGv sl 1 3 ++ (PGv sl 2 3 ++ (PGv sl 3 3 ++ (PGv sl 4 3 ++ []))))
  simp only [List.nil_append, List.append_nil]
end
theorem asc_lead {l : List Nat} (h : l ∈ leads) : (⟨l⟩ : Array Nat).all (· < 128) = true := by
  simp only [List.all_toArray, List.all_eq_true, decide_eq_true_eq]
  intro c hc
  rcases (lead_at h).2.2.2 c hc with rfl | rfl <;> decide
theorem fn165 (P : Params) : FnAt (kt P) 165 fd165 (dBody (stm 20)) := ⟨⟨fnO fd165, by kernel_rfl!, rfl⟩, by kernel_rfl!, by kernel_rfl!, by kernel_rfl!, ⟨164, o164, _, 418, by kernel_rfl!, by kernel_rfl!, rfl, by kernel_rfl!⟩, by kernel_rfl!⟩
theorem colsF (sl : List (Int × Nat)) (n : Nat) (zs : Nat → Nat → Nat) : ColsAre sl n (colF zs (Kv sl) n) := by
  refine ⟨fun i hi => ?_, fun i hi => ?_, fun i hi => ?_⟩
  · show Kv sl (min i (n - 1)) 1 = _
    rw [Nat.min_eq_left (by lia)]
  · show Kv sl (min i (n - 1)) 2 = _
    rw [Nat.min_eq_left (by lia)]
  · show Kv sl (min i (n - 1)) 3 = _
    rw [Nat.min_eq_left (by lia)]
theorem colsF4 (sl : List (Int × Nat)) (zs : Nat → Nat → Nat) : ColsAre sl 4 (colF zs (Kv sl) 4) := colsF sl 4 zs
theorem colsF5 (sl : List (Int × Nat)) (zs : Nat → Nat → Nat) : ColsAre sl 5 (colF zs (Kv sl) 5) := colsF sl 5 zs
noncomputable def S3b (s : Int) : Bool := s == 1 || s == 2 || s == 3
theorem S3_of {s : Int} (h : S3b s = true) : S3 s := by
  unfold S3b at h
  unfold S3
  simp only [Bool.or_eq_true, beq_iff_eq] at h
  lia
section
variable (w : World) (b1 b2 : Bool) {sl : List (Int × Nat)}
theorem shx4 {ss : List (Int × Nat)} {c : Nat → Col} {hc : Nat → Nat} {h1 h2 ca sza er es : Nat} {B : List Bool} (q : ss.all (fun p => S3b p.1) = true) (hz : decide (ss.length ≤ 100) = true) (hB : B = gb 4 (gs (ss.map (·.1)) c)) : VV w b1 b2 (cSh (parOf w.params b1 b2) c hc h1 h2 ca sza [0, 1, 2, 3] er (inl ss) es (wd 0 B)) :=
  sh4_ok w b1 b2 (fun p hp => S3_of (List.all_eq_true.mp q p hp)) (of_decide_eq_true hz) (by rw [shV4, hB])
theorem shx5 {ss : List (Int × Nat)} {c : Nat → Col} {hc : Nat → Nat} {h1 h2 ca sza er es : Nat} {B : List Bool} (q : ss.all (fun p => S3b p.1) = true) (hz : decide (ss.length ≤ 100) = true) (hB : B = gb 5 (gs (ss.map (·.1)) c)) : VV w b1 b2 (cSh (parOf w.params b1 b2) c hc h1 h2 ca sza [0, 1, 2, 3, 4] er (inl ss) es (wd 0 B)) :=
  sh5_ok w b1 b2 (fun p hp => S3_of (List.all_eq_true.mp q p hp)) (of_decide_eq_true hz) (by rw [shV5, hB])
end
theorem bl (sl : List (Int × Nat)) (n s t : Nat) : (bitsS sl n s).length = (bitsS sl n t).length := (bits_len sl n s).trans (bits_len sl n t).symm
theorem h0 (sl : List (Int × Nat)) (n s : Nat) (hs : s = 1 ∨ s = 2 ∨ s = 3) : Gv sl n s - Gv sl n 0 = (hd (bitsS sl n 0) (bitsS sl n s) : Int) := by
  have l := band_l (bitsS sl n 1) (bitsS sl n 2) (bitsS sl n 3) (bl ..) (bl ..)
  rw [← bits0] at l
  refine (hd_sub (bl ..) ?_).symm
  rcases hs with rfl | rfl | rfl
  · exact l.1
  · exact l.2.1
  · exact l.2.2
theorem hT0 (sl : List (Int × Nat)) (n : Nat) : Gv sl n 1 - Gv sl n 0 + (Gv sl n 2 - Gv sl n 0) - M2v sl n 0 = (hd (bitsS sl n 1) (bitsS sl n 2) : Int) := by
  rw [hd_two (bl ..)]
  have e : bitsT sl n 0 = band (bitsS sl n 1) (bitsS sl n 2) := rfl
  unfold M2v Gv SGv
  rw [e]
  lia
theorem hT1 (sl : List (Int × Nat)) (n : Nat) : Gv sl n 1 - Gv sl n 0 + (Gv sl n 3 - Gv sl n 0) - M2v sl n 1 = (hd (bitsS sl n 1) (bitsS sl n 3) : Int) := by
  rw [hd_two (bl ..)]
  have e : bitsT sl n 1 = band (bitsS sl n 1) (bitsS sl n 3) := rfl
  unfold M2v Gv SGv
  rw [e]
  lia
theorem hT2 (sl : List (Int × Nat)) (n : Nat) : Gv sl n 2 - Gv sl n 0 + (Gv sl n 3 - Gv sl n 0) - M2v sl n 2 = (hd (bitsS sl n 2) (bitsS sl n 3) : Int) := by
  rw [hd_two (bl ..)]
  have e : bitsT sl n 2 = band (bitsS sl n 2) (bitsS sl n 3) := rfl
  unfold M2v Gv SGv
  rw [e]
  lia
noncomputable def H_law4k25 (P : Params) (K : Nat → Nat → Int) (W : Nat → List Nat) (G : Nat → Int) (SW : Nat → List Nat) (SG : Nat → Int) (M2 : Nat → Int) (z65 z66 z67 z68 z69 z72 z73 z92 z99 : Nat → Nat) : HT := .go [249,0,249,249,249,249,249,124,249,124,1,0,0,0,17,1,1,0,1] (.cut (cSh P (colF (selZ [z66, z67, z68, z69]) K 4) (fun i => 46 + 2 * min i 3) 135 253 (z65 0 + 1) (z99 0) [0,1,2,3] 4 (inl [((1 + 1), (z99 1)), ((1 + 1 + 1), (z92 1))]) 0 (SW 2)) fun z100 => .go [0,1] (.cut (cGreat ⟨⟨SW 2⟩⟩ (z100 2) (SG 2)) fun z101 => .go [19,0,1,0,1,1,217,217,217,0,217,217,1,1,217,217,217,0,217,217,0,1,1] (.cut (cMul 2 (SG 2 - G 0) (z101 1 + 3) (z101 1) (M2 2)) fun z102 => .go [0,1,0,0,1,1,157,157,157,0,157,157,1,1,157,157,157,0,157,157,1,0,1] (.cut (cLev ⟨⟨W 2⟩⟩ ⟨⟨W 3⟩⟩ (z72 2) (z73 2) (G 2 - G 0 + (G 3 - G 0) - M2 2) (z102 1) (G 2 - G 0 + (G 3 - G 0) - M2 2)) fun z103 => .go [1,1] (.cut (cNe (G 2 - G 0 + (G 3 - G 0) - M2 2) (G 2 - G 0 + (G 3 - G 0) - M2 2) (z103 2) (z102 1) false) fun z104 => .go [249,0,249,249,249,249,257,227,0,227,227,227,227,261] (.nil { res := .ok (.ret (Value.bool true)), exp := [] }))))))
noncomputable def H_law4k24 (P : Params) (K : Nat → Nat → Int) (W : Nat → List Nat) (G : Nat → Int) (SW : Nat → List Nat) (SG : Nat → Int) (M2 : Nat → Int) (z65 z66 z67 z68 z69 z71 z72 z73 z92 z95 : Nat → Nat) : HT := .go [0,1] (.cut (cGreat ⟨⟨SW 1⟩⟩ (z95 2) (SG 1)) fun z96 => .go [19,0,1,0,1,1,217,217,217,0,217,217,1,1,217,217,217,0,217,217,0,1,1] (.cut (cMul 2 (SG 1 - G 0) (z96 1 + 3) (z96 1) (M2 1)) fun z97 => .go [0,1,0,0,1,1,157,157,157,0,157,157,1,1,157,157,157,0,157,157,1,0,1] (.cut (cLev ⟨⟨W 1⟩⟩ ⟨⟨W 3⟩⟩ (z71 2) (z73 2) (G 1 - G 0 + (G 3 - G 0) - M2 1) (z97 1) (G 1 - G 0 + (G 3 - G 0) - M2 1)) fun z98 => .go [1,1] (.cut (cNe (G 1 - G 0 + (G 3 - G 0) - M2 1) (G 1 - G 0 + (G 3 - G 0) - M2 1) (z98 2) (z97 1) false) fun z99 => (H_law4k25 P K W G SW SG M2 z65 z66 z67 z68 z69 z72 z73 z92 z99)))))
noncomputable def H_law4k23 (P : Params) (K : Nat → Nat → Int) (W : Nat → List Nat) (G : Nat → Int) (SW : Nat → List Nat) (SG : Nat → Int) (M2 : Nat → Int) (z65 z66 z67 z68 z69 z70 z71 z72 z73 z83 z90 z91 : Nat → Nat) : HT := .go [1,1] (.cut (cNe (G 1 - G 0 + (G 2 - G 0) - M2 0) (G 1 - G 0 + (G 2 - G 0) - M2 0) (z91 2) (z90 1) false) fun z92 => .go [239,0,239,239,239,239,245,227,0,227,227,227,227,227,113,227,113,1,0,0,1,157,157,157,0,157,157,1,1,157,157,157,0,157,157,1,1,217,217,217,0,217,217,0,1] (.cut (cLev ⟨⟨W 0⟩⟩ ⟨⟨W 3⟩⟩ (z70 2) (z73 2) (G 3 - G 0) (z83 1) (G 3 - G 0)) fun z93 => .go [1,1,217,217,217,0,217,217,1] (.cut (cNe (G 3 - G 0) (G 3 - G 0) (z93 2) (z83 1) false) fun z94 => .go [0,0,1,0,0,247,247,0,247,247,247,247,0,247,247,247,247,249,0,249,0,249,249,249,249,249,124,249,124,1,0,0,0,17,1,1,0,1] (.cut (cSh P (colF (selZ [z66, z67, z68, z69]) K 4) (fun i => 46 + 2 * min i 3) 135 251 (z65 0 + 1) (z94 0 + 2) [0,1,2,3] 4 (inl [(1, (z94 1 + 2)), ((1 + 1 + 1), (z92 1))]) 0 (SW 1)) fun z95 => (H_law4k24 P K W G SW SG M2 z65 z66 z67 z68 z69 z71 z72 z73 z92 z95)))))
noncomputable def H_law4k22 (P : Params) (K : Nat → Nat → Int) (W : Nat → List Nat) (G : Nat → Int) (SW : Nat → List Nat) (SG : Nat → Int) (M2 : Nat → Int) (z65 z66 z67 z68 z69 z70 z71 z72 z73 z83 z85 z87 : Nat → Nat) : HT := .go [0,0,1,0,0,237,237,0,237,237,237,237,0,237,237,237,237,239,0,239,0,239,239,239,239,239,119,239,119,1,0,0,0,17,1,1,0,1] (.cut (cSh P (colF (selZ [z66, z67, z68, z69]) K 4) (fun i => 46 + 2 * min i 3) 135 241 (z65 0 + 1) (z87 0 + 2) [0,1,2,3] 4 (inl [(1, (z87 1 + 2)), ((1 + 1), (z85 1 + 2))]) 0 (SW 0)) fun z88 => .go [0,1] (.cut (cGreat ⟨⟨SW 0⟩⟩ (z88 2) (SG 0)) fun z89 => .go [19,0,1,0,1,1,217,217,217,0,217,217,1,1,217,217,217,0,217,217,0,1,1] (.cut (cMul 2 (SG 0 - G 0) (z89 1 + 3) (z89 1) (M2 0)) fun z90 => .go [0,1,0,0,1,1,157,157,157,0,157,157,1,1,157,157,157,0,157,157,1,0,1] (.cut (cLev ⟨⟨W 1⟩⟩ ⟨⟨W 2⟩⟩ (z71 2) (z72 2) (G 1 - G 0 + (G 2 - G 0) - M2 0) (z90 1) (G 1 - G 0 + (G 2 - G 0) - M2 0)) fun z91 => (H_law4k23 P K W G SW SG M2 z65 z66 z67 z68 z69 z70 z71 z72 z73 z83 z90 z91)))))
noncomputable def H_law4k21 (P : Params) (K : Nat → Nat → Int) (W : Nat → List Nat) (G : Nat → Int) (SW : Nat → List Nat) (SG : Nat → Int) (M2 : Nat → Int) (z65 z66 z67 z68 z69 z70 z71 z72 z73 z81 z82 z83 : Nat → Nat) : HT := .go [19,0,0,217,217,108,217,215,0,215,215,215,157,215,107,223,1,0,219,219,109,0,0,0,0,225,225,0,225,225,225,225,0,225,225,225,225,227,0,227,0,227,227,227,227,227,113,227,113,1,0,0,1,157,157,157,0,157,157,1,1,157,157,157,0,157,157,1,1,217,217,217,0,217,217,0,1] (.cut (cLev ⟨⟨W 0⟩⟩ ⟨⟨W 1⟩⟩ (z70 2) (z71 2) (G 1 - G 0) (z81 1) (G 1 - G 0)) fun z84 => .go [1,1,217,217,217,0,217,217,1] (.cut (cNe (G 1 - G 0) (G 1 - G 0) (z84 2) (z81 1) false) fun z85 => .go [0,0,1,0,0,229,229,0,229,229,229,229,0,229,229,229,229,231,0,231,0,231,231,231,231,235,227,0,227,227,227,227,227,113,227,113,1,0,0,1,157,157,157,0,157,157,1,1,157,157,157,0,157,157,1,1,217,217,217,0,217,217,0,1] (.cut (cLev ⟨⟨W 0⟩⟩ ⟨⟨W 2⟩⟩ (z70 2) (z72 2) (G 2 - G 0) (z82 1) (G 2 - G 0)) fun z86 => .go [1,1,217,217,217,0,217,217,1] (.cut (cNe (G 2 - G 0) (G 2 - G 0) (z86 2) (z82 1) false) fun z87 => (H_law4k22 P K W G SW SG M2 z65 z66 z67 z68 z69 z70 z71 z72 z73 z83 z85 z87)))))
noncomputable def H_law4k20 (P : Params) (b2 : Bool) (K : Nat → Nat → Int) (W : Nat → List Nat) (G : Nat → Int) (SW : Nat → List Nat) (SG : Nat → Int) (M2 : Nat → Int) (z65 z66 z67 z68 z69 z70 z71 z72 z73 : Nat → Nat) : HT := .go (cond b2 [19,9,1,157,157,0,157,215,0,215,0,215,215,215,157,215,107,219,109,0,219,0,1] [19,9,1,157,157,0,157,215,0,215,215,0,215,215,215,0,215,215,215,157,215,107,219,109,0,219,0,1]) (.cut (cGreat ⟨⟨W 0⟩⟩ (z70 2) (G 0)) fun z80 => .go [19,0,0,217,217,108,217,215,0,215,215,215,157,215,107,219,109,0,219,0,1] (.cut (cGreat ⟨⟨W 1⟩⟩ (z71 2) (G 1)) fun z81 => .go [19,0,0,217,217,108,217,215,0,215,215,215,157,215,107,219,109,0,219,0,1] (.cut (cGreat ⟨⟨W 2⟩⟩ (z72 2) (G 2)) fun z82 => .go [19,0,0,217,217,108,217,215,0,215,215,215,157,215,107,219,109,0,219,0,1] (.cut (cGreat ⟨⟨W 3⟩⟩ (z73 2) (G 3)) fun z83 => (H_law4k21 P K W G SW SG M2 z65 z66 z67 z68 z69 z70 z71 z72 z73 z81 z82 z83)))))
noncomputable def H_law4k19 (P : Params) (b2 : Bool) (K : Nat → Nat → Int) (W : Nat → List Nat) (G : Nat → Int) (SW : Nat → List Nat) (SG : Nat → Int) (M2 : Nat → Int) (n : Nat) (z65 z66 z67 z68 z69 z70 z71 z72 z73 z74 z75 : Nat → Nat) : HT := .go [0,207,207,103,207,205,0,205,205,205,151,205,102,209,104,0,17,209,0,1] (.cut (cSh P (colF (selZ [z66, z67, z68, z69]) K 4) (fun i => 46 + 2 * min i 3) 135 147 (z65 0 + 1) (z69 0 + 4) [0,1,2,3] 4 (inl [(2, (z69 1 + 4))]) 0 (W 2)) fun z76 => .go [0,207,207,103,207,205,0,205,205,205,151,205,102,209,104,0,17,209,0,1] (.cut (cSh P (colF (selZ [z66, z67, z68, z69]) K 4) (fun i => 46 + 2 * min i 3) 135 149 (z65 0 + 1) (z69 0 + 5) [0,1,2,3] 4 (inl [(3, (z69 1 + 5))]) 0 (W 3)) fun z77 => .go [0,207,207,103,207,205,0,205,205,205,151,205,102,213,209,209,104] (.stk (phiWd n ((z69 0 + 9)) ((z73 0 + 3))) (.go [157,207,157,1] (.cut (cLNe 157 207 (z69 0 + 9) (z73 0 + 3) ([.str ⟨⟨W 0⟩⟩ (z70 2), .str ⟨⟨W 1⟩⟩ (z71 2), .str ⟨⟨W 2⟩⟩ (z72 2), .str ⟨⟨W 3⟩⟩ (z73 2)]) 4 ([.str ⟨⟨W 0⟩⟩ (z74 2), .str ⟨⟨W 1⟩⟩ (z75 2), .str ⟨⟨W 2⟩⟩ (z76 2), .str ⟨⟨W 3⟩⟩ (z77 2)]) 4 false) fun z78 => .go [0,1,157,157,157,0,157,157,0,1] (.cut (cGreat ⟨⟨W 0⟩⟩ (z70 2) (G 0)) fun z79 => (H_law4k20 P b2 K W G SW SG M2 z65 z66 z67 z68 z69 z70 z71 z72 z73)))))))
noncomputable def H_law4k18 (P : Params) (b2 : Bool) (D : Rd) (K : Nat → Nat → Int) (W : Nat → List Nat) (G : Nat → Int) (SW : Nat → List Nat) (SG : Nat → Int) (M2 : Nat → Int) (n : Nat) (z63 z65 z66 z67 z68 z69 z70 z71 : Nat → Nat) : HT := .go (cond b2 [0,157,157,78,157,155,0,155,155,155,155,155,77,155,77,159,79,0,15,4,4,0,4,181,0,181,0,181,181,181,4,181,90,185,92,185,14,14,14,0,14,14,0,183,183,91,183,181,0,181,181,181,4,181,90,185,92,185,24,24,24,0,24,24,0,183,183,91,183,181,0,181,181,181,4,181,90,185,92,185,34,34,34,0,34,34,0,183,183,91,183,181,0,181,181,181,4,181,90,185,92,185,44,44,44,0,44,44,0,183,183,91,183,181,0,181,181,181,4,181,90,189,185,185,92,159,0,1] [0,157,157,78,157,155,0,155,155,155,155,155,77,155,77,159,79,0,15,4,4,0,4,181,0,181,181,0,181,181,181,0,181,181,181,4,181,90,185,92,185,14,14,14,0,14,14,0,183,183,91,183,181,0,181,181,181,4,181,90,185,92,185,24,24,24,0,24,24,0,183,183,91,183,181,0,181,181,181,4,181,90,185,92,185,34,34,34,0,34,34,0,183,183,91,183,181,0,181,181,181,4,181,90,185,92,185,44,44,44,0,44,44,0,183,183,91,183,181,0,181,181,181,4,181,90,189,185,185,92,159,0,1]) (.cut (cOl P (mkF D z63 4) (fun i => 6 + 10 * min i 3) 183 (z71 0 + 1) ([.ref (z63 (8 * 12 + 0 + 16)), .ref (z63 (8 * 12 + (0 + 1) + 16)), .ref (z63 (8 * 12 + (0 + 1 + 1) + 16)), .ref (z63 (8 * 12 + (0 + 1 + 1 + 1) + 16))]) 4 (0 + 1 + 1) (z71 1) (W 2)) fun z72 => .go (cond b2 [0,157,157,78,157,155,0,155,155,155,155,155,77,155,77,159,79,0,15,4,4,0,4,191,0,191,0,191,191,191,4,191,95,195,97,195,14,14,14,0,14,14,0,193,193,96,193,191,0,191,191,191,4,191,95,195,97,195,24,24,24,0,24,24,0,193,193,96,193,191,0,191,191,191,4,191,95,195,97,195,34,34,34,0,34,34,0,193,193,96,193,191,0,191,191,191,4,191,95,195,97,195,44,44,44,0,44,44,0,193,193,96,193,191,0,191,191,191,4,191,95,199,195,195,97,159,0,1] [0,157,157,78,157,155,0,155,155,155,155,155,77,155,77,159,79,0,15,4,4,0,4,191,0,191,191,0,191,191,191,0,191,191,191,4,191,95,195,97,195,14,14,14,0,14,14,0,193,193,96,193,191,0,191,191,191,4,191,95,195,97,195,24,24,24,0,24,24,0,193,193,96,193,191,0,191,191,191,4,191,95,195,97,195,34,34,34,0,34,34,0,193,193,96,193,191,0,191,191,191,4,191,95,195,97,195,44,44,44,0,44,44,0,193,193,96,193,191,0,191,191,191,4,191,95,199,195,195,97,159,0,1]) (.cut (cOl P (mkF D z63 4) (fun i => 6 + 10 * min i 3) 193 (z72 0 + 1) ([.ref (z63 (8 * 12 + 0 + 16)), .ref (z63 (8 * 12 + (0 + 1) + 16)), .ref (z63 (8 * 12 + (0 + 1 + 1) + 16)), .ref (z63 (8 * 12 + (0 + 1 + 1 + 1) + 16))]) 4 (0 + 1 + 1 + 1) (z72 1) (W 3)) fun z73 => .go (cond b2 [0,157,157,78,157,155,0,155,155,155,155,203,1,0,159,159,79,1,1,151,151,0,151,205,0,205,0,205,205,205,151,205,102,209,104,0,17,209,0,1] [0,157,157,78,157,155,0,155,155,155,155,203,1,0,159,159,79,1,1,151,151,0,151,205,0,205,205,0,205,205,205,0,205,205,205,151,205,102,209,104,0,17,209,0,1]) (.cut (cSh P (colF (selZ [z66, z67, z68, z69]) K 4) (fun i => 46 + 2 * min i 3) 135 143 (z65 0 + 1) (z69 0 + 2) [0,1,2,3] 4 (inl [(1, (z69 1)), (2, (z69 1 + 1)), (3, (z69 1 + 2))]) 0 (W 0)) fun z74 => .go [0,207,207,103,207,205,0,205,205,205,151,205,102,209,104,0,17,209,0,1] (.cut (cSh P (colF (selZ [z66, z67, z68, z69]) K 4) (fun i => 46 + 2 * min i 3) 135 145 (z65 0 + 1) (z69 0 + 3) [0,1,2,3] 4 (inl [(1, (z69 1 + 3))]) 0 (W 1)) fun z75 => (H_law4k19 P b2 K W G SW SG M2 n z65 z66 z67 z68 z69 z70 z71 z72 z73 z74 z75)))))
noncomputable def H_law4k17 (P : Params) (b2 : Bool) (LD : Nat → List Nat) (D : Rd) (K : Nat → Nat → Int) (W : Nat → List Nat) (G : Nat → Int) (SW : Nat → List Nat) (SG : Nat → Int) (M2 : Nat → Int) (n : Nat) (z12 z13 z63 z65 z66 z67 : Nat → Nat) : HT := .go [0,135,135,67,135,133,0,133,133,133,57,133,66,137,68,0,137,0,1] (.cut (cCols ⟨⟨LD 2⟩⟩ (z12 2) (K 2 1) (K 2 2) (K 2 3)) fun z68 => .go [0,135,135,67,135,133,0,133,133,133,57,133,66,137,68,0,137,0,1] (.cut (cCols ⟨⟨LD 3⟩⟩ (z13 2) (K 3 1) (K 3 2) (K 3 3)) fun z69 => .go (cond b2 [0,135,135,67,135,133,0,133,133,133,57,133,66,141,137,137,68,17,8,1,0,0,0,0,0,153,153,0,153,153,153,153,0,153,153,153,153,155,0,155,0,155,155,155,155,155,77,155,77,159,79,0,15,4,4,0,4,161,0,161,0,161,161,161,4,161,80,165,82,165,14,14,14,0,14,14,0,163,163,81,163,161,0,161,161,161,4,161,80,165,82,165,24,24,24,0,24,24,0,163,163,81,163,161,0,161,161,161,4,161,80,165,82,165,34,34,34,0,34,34,0,163,163,81,163,161,0,161,161,161,4,161,80,165,82,165,44,44,44,0,44,44,0,163,163,81,163,161,0,161,161,161,4,161,80,169,165,165,82,159,0,1] [0,135,135,67,135,133,0,133,133,133,57,133,66,141,137,137,68,17,8,1,0,0,0,0,0,153,153,0,153,153,153,153,0,153,153,153,153,155,0,155,155,0,155,155,155,0,155,155,155,155,155,77,155,77,159,79,0,15,4,4,0,4,161,0,161,161,0,161,161,161,0,161,161,161,4,161,80,165,82,165,14,14,14,0,14,14,0,163,163,81,163,161,0,161,161,161,4,161,80,165,82,165,24,24,24,0,24,24,0,163,163,81,163,161,0,161,161,161,4,161,80,165,82,165,34,34,34,0,34,34,0,163,163,81,163,161,0,161,161,161,4,161,80,165,82,165,44,44,44,0,44,44,0,163,163,81,163,161,0,161,161,161,4,161,80,169,165,165,82,159,0,1]) (.cut (cOl P (mkF D z63 4) (fun i => 6 + 10 * min i 3) 163 (z69 0 + 12) ([.ref (z63 (8 * 12 + 0 + 16)), .ref (z63 (8 * 12 + (0 + 1) + 16)), .ref (z63 (8 * 12 + (0 + 1 + 1) + 16)), .ref (z63 (8 * 12 + (0 + 1 + 1 + 1) + 16))]) 4 0 (z69 1 + 10) (W 0)) fun z70 => .go (cond b2 [0,157,157,78,157,155,0,155,155,155,155,155,77,155,77,159,79,0,15,4,4,0,4,171,0,171,0,171,171,171,4,171,85,175,87,175,14,14,14,0,14,14,0,173,173,86,173,171,0,171,171,171,4,171,85,175,87,175,24,24,24,0,24,24,0,173,173,86,173,171,0,171,171,171,4,171,85,175,87,175,34,34,34,0,34,34,0,173,173,86,173,171,0,171,171,171,4,171,85,175,87,175,44,44,44,0,44,44,0,173,173,86,173,171,0,171,171,171,4,171,85,179,175,175,87,159,0,1] [0,157,157,78,157,155,0,155,155,155,155,155,77,155,77,159,79,0,15,4,4,0,4,171,0,171,171,0,171,171,171,0,171,171,171,4,171,85,175,87,175,14,14,14,0,14,14,0,173,173,86,173,171,0,171,171,171,4,171,85,175,87,175,24,24,24,0,24,24,0,173,173,86,173,171,0,171,171,171,4,171,85,175,87,175,34,34,34,0,34,34,0,173,173,86,173,171,0,171,171,171,4,171,85,175,87,175,44,44,44,0,44,44,0,173,173,86,173,171,0,171,171,171,4,171,85,179,175,175,87,159,0,1]) (.cut (cOl P (mkF D z63 4) (fun i => 6 + 10 * min i 3) 173 (z70 0 + 1) ([.ref (z63 (8 * 12 + 0 + 16)), .ref (z63 (8 * 12 + (0 + 1) + 16)), .ref (z63 (8 * 12 + (0 + 1 + 1) + 16)), .ref (z63 (8 * 12 + (0 + 1 + 1 + 1) + 16))]) 4 (0 + 1) (z70 1) (W 1)) fun z71 => (H_law4k18 P b2 D K W G SW SG M2 n z63 z65 z66 z67 z68 z69 z70 z71)))))
noncomputable def H_law4k16 (P : Params) (b2 : Bool) (LD : Nat → List Nat) (D : Rd) (LT : List Nat) (NM : Nat → List Nat) (K : Nat → Nat → Int) (W : Nat → List Nat) (G : Nat → Int) (SW : Nat → List Nat) (SG : Nat → Int) (M2 : Nat → Int) (n : Nat) (z10 z11 z12 z13 z18 z23 z28 z33 z63 : Nat → Nat) : HT := .go (cond b2 [15,7,15,4,4,0,4,115,0,115,0,115,115,115,4,115,57,119,59,119,14,14,14,0,14,14,0,117,117,58,117,115,0,115,115,115,4,115,57,119,59,119,24,24,24,0,24,24,0,117,117,58,117,115,0,115,115,115,4,115,57,119,59,119,34,34,34,0,34,34,0,117,117,58,117,115,0,115,115,115,4,115,57,119,59,119,44,44,44,0,44,44,0,117,117,58,117,115,0,115,115,115,4,115,57,123,119,119,59,11,0,69,69,69,0,69,125,125,125,125,125,69,11,0,69,69,69,0,69,69,1] [15,7,15,4,4,0,4,115,0,115,115,0,115,115,115,0,115,115,115,4,115,57,119,59,119,14,14,14,0,14,14,0,117,117,58,117,115,0,115,115,115,4,115,57,119,59,119,24,24,24,0,24,24,0,117,117,58,117,115,0,115,115,115,4,115,57,119,59,119,34,34,34,0,34,34,0,117,117,58,117,115,0,115,115,115,4,115,57,119,59,119,44,44,44,0,44,44,0,117,117,58,117,115,0,115,115,115,4,115,57,123,119,119,59,11,0,69,69,69,0,69,125,125,125,125,125,69,11,0,69,69,69,0,69,69,1]) (.cut (cRstrip ⟨⟨115 :: NM 3⟩⟩ (z33 2) ⟨⟨LT⟩⟩) fun z64 => .go [127,129,127,0,127,129,127,129] (.stk (phiNm n ((z63 0 + 1)) ((z64 0 + 1))) (.go [117,131,117,1] (.cut (cLNe 117 131 (z63 0 + 1) (z64 0 + 1) ([.str ⟨⟨D.T 0⟩⟩ (z63 (8 * 15 + 0 + 16)), .str ⟨⟨D.T (0 + 1)⟩⟩ (z63 (8 * 15 + (0 + 1) + 16)), .str ⟨⟨D.T (0 + 1 + 1)⟩⟩ (z63 (8 * 15 + (0 + 1 + 1) + 16)), .str ⟨⟨D.T (0 + 1 + 1 + 1)⟩⟩ (z63 (8 * 15 + (0 + 1 + 1 + 1) + 16))]) 4 ([.str ⟨⟨112 :: NM 0⟩⟩ (z18 2), .str ⟨⟨113 :: NM 1⟩⟩ (z23 2), .str ⟨⟨114 :: NM 2⟩⟩ (z28 2), .str ⟨⟨LT⟩⟩ (z64 2)]) 0 false) fun z65 => .go (cond b2 [9,57,57,0,57,133,0,133,0,133,133,133,57,133,66,137,68,0,137,0,1] [9,57,57,0,57,133,0,133,133,0,133,133,133,0,133,133,133,57,133,66,137,68,0,137,0,1]) (.cut (cCols ⟨⟨LD 0⟩⟩ (z10 2) (K 0 1) (K 0 2) (K 0 3)) fun z66 => .go [0,135,135,67,135,133,0,133,133,133,57,133,66,137,68,0,137,0,1] (.cut (cCols ⟨⟨LD 1⟩⟩ (z11 2) (K 1 1) (K 1 2) (K 1 3)) fun z67 => (H_law4k17 P b2 LD D K W G SW SG M2 n z12 z13 z63 z65 z66 z67)))))))
noncomputable def H_law4k15 (P : Params) (b2 : Bool) (LD : Nat → List Nat) (IW : Nat → Nat) (D : Rd) (LT : List Nat) (NM WH : Nat → List Nat) (PG : Nat → Nat → List Nat) (TK : List Value → Nat → Nat) (K : Nat → Nat → Int) (W : Nat → List Nat) (G : Nat → Int) (SW : Nat → List Nat) (SG : Nat → Int) (M2 : Nat → Int) (n : Nat) (z10 z11 z12 z13 z18 z23 z28 z33 z42 z45 z49 z53 z57 z59 : Nat → Nat) : HT := .go [13,109,87,87,87,0,87,87,1] (.cut (cStrAdd ⟨⟨PG 3 1⟩⟩ ⟨⟨WH 3⟩⟩ (z59 2) (TK [.str ⟨⟨[]⟩⟩ (z42 1 + 1), .str ⟨⟨[32]⟩⟩ (z42 1 + 2), .str ⟨⟨[9]⟩⟩ (z42 1 + 3), .str ⟨⟨[32,9]⟩⟩ (z42 1 + 4)] (IW 3)) ⟨⟨PG 3 2⟩⟩) fun z60 => .go [1] (.cut (cStrAdd ⟨⟨PG 3 2⟩⟩ ⟨⟨[10]⟩⟩ (z60 2) (z60 1) ⟨⟨PG 3 3⟩⟩) fun z61 => .go [0,107,107,53,107,105,0,105,105,105,105,113,109,109,54,1] (.cut (cJoin 107 [] (z45 1) (z45 0 + 4) [PG 0 3, PG 1 3, PG 2 3, PG 3 3] [z49 2, z53 2, z57 2, z61 2] 4 (D.X 0)) fun z62 => .go [0,1] (.cut (cRead P D (z62 2) 4) fun z63 => (H_law4k16 P b2 LD D LT NM K W G SW SG M2 n z10 z11 z12 z13 z18 z23 z28 z33 z63)))))
noncomputable def H_law4k14 (P : Params) (b2 : Bool) (LD : Nat → List Nat) (IW : Nat → Nat) (D : Rd) (LT : List Nat) (NM WH : Nat → List Nat) (PG : Nat → Nat → List Nat) (TK : List Value → Nat → Nat) (K : Nat → Nat → Int) (W : Nat → List Nat) (G : Nat → Int) (SW : Nat → List Nat) (SG : Nat → Int) (M2 : Nat → Int) (n : Nat) (z10 z11 z12 z13 z18 z23 z28 z33 z39 z42 z45 z49 z53 z55 : Nat → Nat) : HT := .go [13,109,87,87,87,0,87,87,1] (.cut (cStrAdd ⟨⟨PG 2 1⟩⟩ ⟨⟨WH 2⟩⟩ (z55 2) (TK [.str ⟨⟨[]⟩⟩ (z39 1 + 1), .str ⟨⟨[32]⟩⟩ (z39 1 + 2), .str ⟨⟨[9]⟩⟩ (z39 1 + 3), .str ⟨⟨[32,9]⟩⟩ (z39 1 + 4)] (IW 2)) ⟨⟨PG 2 2⟩⟩) fun z56 => .go [1] (.cut (cStrAdd ⟨⟨PG 2 2⟩⟩ ⟨⟨[10]⟩⟩ (z56 2) (z56 1) ⟨⟨PG 2 3⟩⟩) fun z57 => .go [0,107,107,53,107,105,0,105,105,105,105,105,52,105,52,109,54,9,109,57,57,57,0,57,57,11,109,69,69,69,0,69,69,1] (.cut (cStrAdd ⟨⟨LD 3⟩⟩ ⟨⟨115 :: NM 3⟩⟩ (z13 2) (z33 2) ⟨⟨PG 3 0⟩⟩) fun z58 => .go [1] (.cut (cStrAdd ⟨⟨PG 3 0⟩⟩ ⟨⟨[10]⟩⟩ (z58 2) (z58 1) ⟨⟨PG 3 1⟩⟩) fun z59 => (H_law4k15 P b2 LD IW D LT NM WH PG TK K W G SW SG M2 n z10 z11 z12 z13 z18 z23 z28 z33 z42 z45 z49 z53 z57 z59)))))
noncomputable def H_law4k13 (P : Params) (b2 : Bool) (LD : Nat → List Nat) (IW : Nat → Nat) (D : Rd) (LT : List Nat) (NM WH : Nat → List Nat) (PG : Nat → Nat → List Nat) (TK : List Value → Nat → Nat) (K : Nat → Nat → Int) (W : Nat → List Nat) (G : Nat → Int) (SW : Nat → List Nat) (SG : Nat → Int) (M2 : Nat → Int) (n : Nat) (z10 z11 z12 z13 z18 z23 z28 z33 z36 z39 z42 z45 z49 z51 : Nat → Nat) : HT := .go [13,109,87,87,87,0,87,87,1] (.cut (cStrAdd ⟨⟨PG 1 1⟩⟩ ⟨⟨WH 1⟩⟩ (z51 2) (TK [.str ⟨⟨[]⟩⟩ (z36 1 + 1), .str ⟨⟨[32]⟩⟩ (z36 1 + 2), .str ⟨⟨[9]⟩⟩ (z36 1 + 3), .str ⟨⟨[32,9]⟩⟩ (z36 1 + 4)] (IW 1)) ⟨⟨PG 1 2⟩⟩) fun z52 => .go [1] (.cut (cStrAdd ⟨⟨PG 1 2⟩⟩ ⟨⟨[10]⟩⟩ (z52 2) (z52 1) ⟨⟨PG 1 3⟩⟩) fun z53 => .go [0,107,107,53,107,105,0,105,105,105,105,105,52,105,52,109,54,9,109,57,57,57,0,57,57,11,109,69,69,69,0,69,69,1] (.cut (cStrAdd ⟨⟨LD 2⟩⟩ ⟨⟨114 :: NM 2⟩⟩ (z12 2) (z28 2) ⟨⟨PG 2 0⟩⟩) fun z54 => .go [1] (.cut (cStrAdd ⟨⟨PG 2 0⟩⟩ ⟨⟨[10]⟩⟩ (z54 2) (z54 1) ⟨⟨PG 2 1⟩⟩) fun z55 => (H_law4k14 P b2 LD IW D LT NM WH PG TK K W G SW SG M2 n z10 z11 z12 z13 z18 z23 z28 z33 z39 z42 z45 z49 z53 z55)))))
noncomputable def H_law4k12 (P : Params) (b2 : Bool) (LD : Nat → List Nat) (IW : Nat → Nat) (D : Rd) (LT : List Nat) (NM WH : Nat → List Nat) (PG : Nat → Nat → List Nat) (TK : List Value → Nat → Nat) (K : Nat → Nat → Int) (W : Nat → List Nat) (G : Nat → Int) (SW : Nat → List Nat) (SG : Nat → Int) (M2 : Nat → Int) (n : Nat) (z10 z11 z12 z13 z18 z23 z28 z33 z36 z39 z42 z45 z47 : Nat → Nat) : HT := .go [13,109,87,87,87,0,87,87,1] (.cut (cStrAdd ⟨⟨PG 0 1⟩⟩ ⟨⟨WH 0⟩⟩ (z47 2) (TK [.str ⟨⟨[]⟩⟩ (z33 1 + 1), .str ⟨⟨[32]⟩⟩ (z33 1 + 2), .str ⟨⟨[9]⟩⟩ (z33 1 + 3), .str ⟨⟨[32,9]⟩⟩ (z33 1 + 4)] (IW 0)) ⟨⟨PG 0 2⟩⟩) fun z48 => .go [1] (.cut (cStrAdd ⟨⟨PG 0 2⟩⟩ ⟨⟨[10]⟩⟩ (z48 2) (z48 1) ⟨⟨PG 0 3⟩⟩) fun z49 => .go [0,107,107,53,107,105,0,105,105,105,105,105,52,105,52,109,54,9,109,57,57,57,0,57,57,11,109,69,69,69,0,69,69,1] (.cut (cStrAdd ⟨⟨LD 1⟩⟩ ⟨⟨113 :: NM 1⟩⟩ (z11 2) (z23 2) ⟨⟨PG 1 0⟩⟩) fun z50 => .go [1] (.cut (cStrAdd ⟨⟨PG 1 0⟩⟩ ⟨⟨[10]⟩⟩ (z50 2) (z50 1) ⟨⟨PG 1 1⟩⟩) fun z51 => (H_law4k13 P b2 LD IW D LT NM WH PG TK K W G SW SG M2 n z10 z11 z12 z13 z18 z23 z28 z33 z36 z39 z42 z45 z49 z51)))))
noncomputable def H_law4k11 (P : Params) (b2 : Bool) (LD : Nat → List Nat) (DW : Nat → Int) (IW : Nat → Nat) (D : Rd) (LT : List Nat) (NM WH : Nat → List Nat) (PG : Nat → Nat → List Nat) (TK : List Value → Nat → Nat) (K : Nat → Nat → Int) (W : Nat → List Nat) (G : Nat → Int) (SW : Nat → List Nat) (SG : Nat → Int) (M2 : Nat → Int) (n : Nat) (z10 z11 z12 z13 z18 z23 z28 z33 z36 z39 z42 z43 : Nat → Nat) : HT := .go [1] (.cut (cMod (DW 3) 4 (z43 2) (z43 1) (IW 3 : Nat)) fun z44 => .go [97,97,97,1] (.cut (cGet 97 (z42 0) ([.str ⟨⟨[]⟩⟩ (z42 1 + 1), .str ⟨⟨[32]⟩⟩ (z42 1 + 2), .str ⟨⟨[9]⟩⟩ (z42 1 + 3), .str ⟨⟨[32,9]⟩⟩ (z42 1 + 4)]) 0 (IW 3 : Nat) (z44 2) (.str ⟨⟨WH 3⟩⟩ (TK ([.str ⟨⟨[]⟩⟩ (z42 1 + 1), .str ⟨⟨[32]⟩⟩ (z42 1 + 2), .str ⟨⟨[9]⟩⟩ (z42 1 + 3), .str ⟨⟨[32,9]⟩⟩ (z42 1 + 4)]) (IW 3)))) fun z45 => .go (cond b2 [0,0,87,87,43,87,85,0,85,85,85,31,85,42,101,89,89,44,13,6,0,0,0,0,0,5,0,25,0,25,25,0,0,103,103,0,103,103,103,103,0,103,103,103,103,105,0,105,0,105,105,105,105,105,52,105,52,109,54,9,109,57,57,57,0,57,57,11,109,69,69,69,0,69,69,1] [0,0,87,87,43,87,85,0,85,85,85,31,85,42,101,89,89,44,13,6,0,0,0,0,0,5,0,25,0,25,25,0,0,103,103,0,103,103,103,103,0,103,103,103,103,105,0,105,105,0,105,105,105,0,105,105,105,105,105,52,105,52,109,54,9,109,57,57,57,0,57,57,11,109,69,69,69,0,69,69,1]) (.cut (cStrAdd ⟨⟨LD 0⟩⟩ ⟨⟨112 :: NM 0⟩⟩ (z10 2) (z18 2) ⟨⟨PG 0 0⟩⟩) fun z46 => .go [1] (.cut (cStrAdd ⟨⟨PG 0 0⟩⟩ ⟨⟨[10]⟩⟩ (z46 2) (z46 1) ⟨⟨PG 0 1⟩⟩) fun z47 => (H_law4k12 P b2 LD IW D LT NM WH PG TK K W G SW SG M2 n z10 z11 z12 z13 z18 z23 z28 z33 z36 z39 z42 z45 z47)))))
noncomputable def H_law4k10 (P : Params) (b2 : Bool) (Z : Nat → Int) (LD : Nat → List Nat) (DW : Nat → Int) (IW : Nat → Nat) (D : Rd) (LT : List Nat) (NM WH : Nat → List Nat) (PG : Nat → Nat → List Nat) (TK : List Value → Nat → Nat) (K : Nat → Nat → Int) (W : Nat → List Nat) (G : Nat → Int) (SW : Nat → List Nat) (SG : Nat → Int) (M2 : Nat → Int) (n : Nat) (z7 z9 z10 z11 z12 z13 z18 z23 z28 z33 z36 z39 : Nat → Nat) : HT := .go [0,0,87,87,43,87,85,0,85,85,85,31,85,42,89,44,89,1] (.cut (cFdiv (244 + Z 2) 81 (z7 1) (z39 1 + 5) (DW 2)) fun z40 => .go [1] (.cut (cMod (DW 2) 4 (z40 2) (z40 1) (IW 2 : Nat)) fun z41 => .go [95,95,95,1] (.cut (cGet 95 (z39 0) ([.str ⟨⟨[]⟩⟩ (z39 1 + 1), .str ⟨⟨[32]⟩⟩ (z39 1 + 2), .str ⟨⟨[9]⟩⟩ (z39 1 + 3), .str ⟨⟨[32,9]⟩⟩ (z39 1 + 4)]) 0 (IW 2 : Nat) (z41 2) (.str ⟨⟨WH 2⟩⟩ (TK ([.str ⟨⟨[]⟩⟩ (z39 1 + 1), .str ⟨⟨[32]⟩⟩ (z39 1 + 2), .str ⟨⟨[9]⟩⟩ (z39 1 + 3), .str ⟨⟨[32,9]⟩⟩ (z39 1 + 4)]) (IW 2)))) fun z42 => .go [0,0,87,87,43,87,85,0,85,85,85,31,85,42,89,44,89,1] (.cut (cFdiv (166 + Z 3) 81 (z9 1) (z42 1 + 5) (DW 3)) fun z43 => (H_law4k11 P b2 LD DW IW D LT NM WH PG TK K W G SW SG M2 n z10 z11 z12 z13 z18 z23 z28 z33 z36 z39 z42 z43)))))
noncomputable def H_law4k9 (P : Params) (b2 : Bool) (Z : Nat → Int) (LD : Nat → List Nat) (DW : Nat → Int) (IW : Nat → Nat) (D : Rd) (LT : List Nat) (NM WH : Nat → List Nat) (PG : Nat → Nat → List Nat) (TK : List Value → Nat → Nat) (K : Nat → Nat → Int) (W : Nat → List Nat) (G : Nat → Int) (SW : Nat → List Nat) (SG : Nat → Int) (M2 : Nat → Int) (n : Nat) (z5 z7 z9 z10 z11 z12 z13 z18 z23 z28 z33 z35 : Nat → Nat) : HT := .go [91,91,91,1] (.cut (cGet 91 (z33 0 + 5) ([.str ⟨⟨[]⟩⟩ (z33 1 + 1), .str ⟨⟨[32]⟩⟩ (z33 1 + 2), .str ⟨⟨[9]⟩⟩ (z33 1 + 3), .str ⟨⟨[32,9]⟩⟩ (z33 1 + 4)]) 0 (IW 0 : Nat) (z35 2) (.str ⟨⟨WH 0⟩⟩ (TK ([.str ⟨⟨[]⟩⟩ (z33 1 + 1), .str ⟨⟨[32]⟩⟩ (z33 1 + 2), .str ⟨⟨[9]⟩⟩ (z33 1 + 3), .str ⟨⟨[32,9]⟩⟩ (z33 1 + 4)]) (IW 0)))) fun z36 => .go [0,0,87,87,43,87,85,0,85,85,85,31,85,42,89,44,89,1] (.cut (cFdiv (654 + Z 1) 81 (z5 1) (z36 1 + 5) (DW 1)) fun z37 => .go [1] (.cut (cMod (DW 1) 4 (z37 2) (z37 1) (IW 1 : Nat)) fun z38 => .go [93,93,93,1] (.cut (cGet 93 (z36 0) ([.str ⟨⟨[]⟩⟩ (z36 1 + 1), .str ⟨⟨[32]⟩⟩ (z36 1 + 2), .str ⟨⟨[9]⟩⟩ (z36 1 + 3), .str ⟨⟨[32,9]⟩⟩ (z36 1 + 4)]) 0 (IW 1 : Nat) (z38 2) (.str ⟨⟨WH 1⟩⟩ (TK ([.str ⟨⟨[]⟩⟩ (z36 1 + 1), .str ⟨⟨[32]⟩⟩ (z36 1 + 2), .str ⟨⟨[9]⟩⟩ (z36 1 + 3), .str ⟨⟨[32,9]⟩⟩ (z36 1 + 4)]) (IW 1)))) fun z39 => (H_law4k10 P b2 Z LD DW IW D LT NM WH PG TK K W G SW SG M2 n z7 z9 z10 z11 z12 z13 z18 z23 z28 z33 z36 z39)))))
noncomputable def H_law4k8 (P : Params) (b2 : Bool) (Z : Nat → Int) (LD : Nat → List Nat) (DW : Nat → Int) (IX IW : Nat → Nat) (D : Rd) (LT : List Nat) (NM WH : Nat → List Nat) (PG : Nat → Nat → List Nat) (TK : List Value → Nat → Nat) (K : Nat → Nat → Int) (W : Nat → List Nat) (G : Nat → Int) (SW : Nat → List Nat) (SG : Nat → Int) (M2 : Nat → Int) (n : Nat) (z3 z5 z7 z9 z10 z11 z12 z13 z18 z23 z28 z29 z31 : Nat → Nat) : HT := .go [79,79,79,1] (.cut (cGet 79 (z29 0) ([.str ⟨⟨[]⟩⟩ (z29 1), .str ⟨⟨[32,9]⟩⟩ (z29 1 + 1), .str ⟨⟨[58,32,97,9,98,32]⟩⟩ (z29 1 + 2)]) 0 (IX 3 : Nat) (z31 2) (.str ⟨⟨NM 3⟩⟩ (TK ([.str ⟨⟨[]⟩⟩ (z29 1), .str ⟨⟨[32,9]⟩⟩ (z29 1 + 1), .str ⟨⟨[58,32,97,9,98,32]⟩⟩ (z29 1 + 2)]) (IX 3)))) fun z32 => .go [0,1] (.cut (cStrAdd ⟨⟨[115]⟩⟩ ⟨⟨NM 3⟩⟩ (z29 2) (TK [.str ⟨⟨[]⟩⟩ (z29 1), .str ⟨⟨[32,9]⟩⟩ (z29 1 + 1), .str ⟨⟨[58,32,97,9,98,32]⟩⟩ (z29 1 + 2)] (IX 3)) ⟨⟨115 :: NM 3⟩⟩) fun z33 => .go (cond b2 [0,69,69,34,69,67,0,67,67,67,67,83,71,71,35,11,5,7,31,31,0,31,85,0,85,0,85,85,85,31,85,42,89,44,89,1] [0,69,69,34,69,67,0,67,67,67,67,83,71,71,35,11,5,7,31,31,0,31,85,0,85,85,0,85,85,85,0,85,85,85,31,85,42,89,44,89,1]) (.cut (cFdiv (405 + Z 0) 81 (z3 1) (z33 1 + 5) (DW 0)) fun z34 => .go [1] (.cut (cMod (DW 0) 4 (z34 2) (z34 1) (IW 0 : Nat)) fun z35 => (H_law4k9 P b2 Z LD DW IW D LT NM WH PG TK K W G SW SG M2 n z5 z7 z9 z10 z11 z12 z13 z18 z23 z28 z33 z35)))))
noncomputable def H_law4k7 (P : Params) (b2 : Bool) (Z : Nat → Int) (LD : Nat → List Nat) (DV DW : Nat → Int) (IX IW : Nat → Nat) (D : Rd) (LT : List Nat) (NM WH : Nat → List Nat) (PG : Nat → Nat → List Nat) (TK : List Value → Nat → Nat) (K : Nat → Nat → Int) (W : Nat → List Nat) (G : Nat → Int) (SW : Nat → List Nat) (SG : Nat → Int) (M2 : Nat → Int) (n : Nat) (z3 z5 z7 z9 z10 z11 z12 z13 z18 z23 z24 : Nat → Nat) : HT := .go [0,1] (.cut (cStrAdd ⟨⟨[114]⟩⟩ ⟨⟨NM 2⟩⟩ (z24 2) (TK [.str ⟨⟨[]⟩⟩ (z24 1), .str ⟨⟨[32,9]⟩⟩ (z24 1 + 1), .str ⟨⟨[58,32,97,9,98,32]⟩⟩ (z24 1 + 2)] (IX 2)) ⟨⟨114 :: NM 2⟩⟩) fun z28 => .go [0,69,69,34,69,67,0,67,67,67,67,67,33,67,33,71,35,71,1] (.cut (cStrAt ⟨⟨[112,113,114,115,116]⟩⟩ (z28 1 + 2) (0 + 1 + 1 + 1) (z28 1) 115) fun z29 => .go [7,71,31,31,31,0,31,31,1] (.cut (cFdiv (166 + Z 3) 324 (z9 1) (z29 1 + 3) (DV 3)) fun z30 => .go [1] (.cut (cMod (DV 3) 3 (z30 2) (z30 1) (IX 3 : Nat)) fun z31 => (H_law4k8 P b2 Z LD DW IX IW D LT NM WH PG TK K W G SW SG M2 n z3 z5 z7 z9 z10 z11 z12 z13 z18 z23 z28 z29 z31)))))
noncomputable def H_law4k6 (P : Params) (b2 : Bool) (Z : Nat → Int) (LD : Nat → List Nat) (DV DW : Nat → Int) (IX IW : Nat → Nat) (D : Rd) (LT : List Nat) (NM WH : Nat → List Nat) (PG : Nat → Nat → List Nat) (TK : List Value → Nat → Nat) (K : Nat → Nat → Int) (W : Nat → List Nat) (G : Nat → Int) (SW : Nat → List Nat) (SG : Nat → Int) (M2 : Nat → Int) (n : Nat) (z3 z5 z7 z9 z10 z11 z12 z13 z18 z23 : Nat → Nat) : HT := .go [0,69,69,34,69,67,0,67,67,67,67,67,33,67,33,71,35,71,1] (.cut (cStrAt ⟨⟨[112,113,114,115,116]⟩⟩ (z23 1 + 2) (0 + 1 + 1) (z23 1) 114) fun z24 => .go [7,71,31,31,31,0,31,31,1] (.cut (cFdiv (244 + Z 2) 324 (z7 1) (z24 1 + 3) (DV 2)) fun z25 => .go [1] (.cut (cMod (DV 2) 3 (z25 2) (z25 1) (IX 2 : Nat)) fun z26 => .go [77,77,77,1] (.cut (cGet 77 (z24 0) ([.str ⟨⟨[]⟩⟩ (z24 1), .str ⟨⟨[32,9]⟩⟩ (z24 1 + 1), .str ⟨⟨[58,32,97,9,98,32]⟩⟩ (z24 1 + 2)]) 0 (IX 2 : Nat) (z26 2) (.str ⟨⟨NM 2⟩⟩ (TK ([.str ⟨⟨[]⟩⟩ (z24 1), .str ⟨⟨[32,9]⟩⟩ (z24 1 + 1), .str ⟨⟨[58,32,97,9,98,32]⟩⟩ (z24 1 + 2)]) (IX 2)))) fun z27 => (H_law4k7 P b2 Z LD DV DW IX IW D LT NM WH PG TK K W G SW SG M2 n z3 z5 z7 z9 z10 z11 z12 z13 z18 z23 z24)))))
noncomputable def H_law4k5 (P : Params) (b2 : Bool) (Z : Nat → Int) (LD : Nat → List Nat) (DV DW : Nat → Int) (IX IW : Nat → Nat) (D : Rd) (LT : List Nat) (NM WH : Nat → List Nat) (PG : Nat → Nat → List Nat) (TK : List Value → Nat → Nat) (K : Nat → Nat → Int) (W : Nat → List Nat) (G : Nat → Int) (SW : Nat → List Nat) (SG : Nat → Int) (M2 : Nat → Int) (n : Nat) (z3 z5 z7 z9 z10 z11 z12 z13 z18 z19 : Nat → Nat) : HT := .go [7,71,31,31,31,0,31,31,1] (.cut (cFdiv (654 + Z 1) 324 (z5 1) (z19 1 + 3) (DV 1)) fun z20 => .go [1] (.cut (cMod (DV 1) 3 (z20 2) (z20 1) (IX 1 : Nat)) fun z21 => .go [75,75,75,1] (.cut (cGet 75 (z19 0) ([.str ⟨⟨[]⟩⟩ (z19 1), .str ⟨⟨[32,9]⟩⟩ (z19 1 + 1), .str ⟨⟨[58,32,97,9,98,32]⟩⟩ (z19 1 + 2)]) 0 (IX 1 : Nat) (z21 2) (.str ⟨⟨NM 1⟩⟩ (TK ([.str ⟨⟨[]⟩⟩ (z19 1), .str ⟨⟨[32,9]⟩⟩ (z19 1 + 1), .str ⟨⟨[58,32,97,9,98,32]⟩⟩ (z19 1 + 2)]) (IX 1)))) fun z22 => .go [0,1] (.cut (cStrAdd ⟨⟨[113]⟩⟩ ⟨⟨NM 1⟩⟩ (z19 2) (TK [.str ⟨⟨[]⟩⟩ (z19 1), .str ⟨⟨[32,9]⟩⟩ (z19 1 + 1), .str ⟨⟨[58,32,97,9,98,32]⟩⟩ (z19 1 + 2)] (IX 1)) ⟨⟨113 :: NM 1⟩⟩) fun z23 => (H_law4k6 P b2 Z LD DV DW IX IW D LT NM WH PG TK K W G SW SG M2 n z3 z5 z7 z9 z10 z11 z12 z13 z18 z23)))))
noncomputable def H_law4k4 (P : Params) (b2 : Bool) (Z : Nat → Int) (LD : Nat → List Nat) (DV DW : Nat → Int) (IX IW : Nat → Nat) (D : Rd) (LT : List Nat) (NM WH : Nat → List Nat) (PG : Nat → Nat → List Nat) (TK : List Value → Nat → Nat) (K : Nat → Nat → Int) (W : Nat → List Nat) (G : Nat → Int) (SW : Nat → List Nat) (SG : Nat → Int) (M2 : Nat → Int) (n : Nat) (z3 z5 z7 z9 z10 z11 z12 z13 z14 z15 : Nat → Nat) : HT := .go [1] (.cut (cMod (DV 0) 3 (z15 2) (z15 1) (IX 0 : Nat)) fun z16 => .go [73,73,73,1] (.cut (cGet 73 (z14 0) ([.str ⟨⟨[]⟩⟩ (z14 1), .str ⟨⟨[32,9]⟩⟩ (z14 1 + 1), .str ⟨⟨[58,32,97,9,98,32]⟩⟩ (z14 1 + 2)]) 0 (IX 0 : Nat) (z16 2) (.str ⟨⟨NM 0⟩⟩ (TK ([.str ⟨⟨[]⟩⟩ (z14 1), .str ⟨⟨[32,9]⟩⟩ (z14 1 + 1), .str ⟨⟨[58,32,97,9,98,32]⟩⟩ (z14 1 + 2)]) (IX 0)))) fun z17 => .go [0,1] (.cut (cStrAdd ⟨⟨[112]⟩⟩ ⟨⟨NM 0⟩⟩ (z14 2) (TK [.str ⟨⟨[]⟩⟩ (z14 1), .str ⟨⟨[32,9]⟩⟩ (z14 1 + 1), .str ⟨⟨[58,32,97,9,98,32]⟩⟩ (z14 1 + 2)] (IX 0)) ⟨⟨112 :: NM 0⟩⟩) fun z18 => .go [0,69,69,34,69,67,0,67,67,67,67,67,33,67,33,71,35,71,1] (.cut (cStrAt ⟨⟨[112,113,114,115,116]⟩⟩ (z18 1 + 2) (0 + 1) (z18 1) 113) fun z19 => (H_law4k5 P b2 Z LD DV DW IX IW D LT NM WH PG TK K W G SW SG M2 n z3 z5 z7 z9 z10 z11 z12 z13 z18 z19)))))
noncomputable def H_law4k3 (P : Params) (b2 : Bool) (Z : Nat → Int) (LD : Nat → List Nat) (DV DW : Nat → Int) (IX IW : Nat → Nat) (D : Rd) (LT : List Nat) (NM WH : Nat → List Nat) (PG : Nat → Nat → List Nat) (TK : List Value → Nat → Nat) (K : Nat → Nat → Int) (W : Nat → List Nat) (G : Nat → Int) (SW : Nat → List Nat) (SG : Nat → Int) (M2 : Nat → Int) (n : Nat) (z3 z5 z7 z9 z10 z11 : Nat → Nat) : HT := .go [0,57,57,28,57,55,0,55,55,55,31,55,27,59,29,0,59,0,1] (.cut (cLead (244 + Z 2) (z7 1) ⟨⟨LD 2⟩⟩) fun z12 => .go [0,57,57,28,57,55,0,55,55,55,31,55,27,59,29,0,59,0,1] (.cut (cLead (166 + Z 3) (z9 1) ⟨⟨LD 3⟩⟩) fun z13 => .go (cond b2 [0,57,57,28,57,55,0,55,55,55,31,55,27,63,59,59,29,9,4,0,0,0,0,5,0,25,0,25,25,0,0,65,65,0,65,65,65,65,0,65,65,65,65,67,0,67,0,67,67,67,67,67,33,67,33,71,35,71,1] [0,57,57,28,57,55,0,55,55,55,31,55,27,63,59,59,29,9,4,0,0,0,0,5,0,25,0,25,25,0,0,65,65,0,65,65,65,65,0,65,65,65,65,67,0,67,67,0,67,67,67,0,67,67,67,67,67,33,67,33,71,35,71,1]) (.cut (cStrAt ⟨⟨[112,113,114,115,116]⟩⟩ (z13 1 + 6) 0 (z13 1 + 4) 112) fun z14 => .go [7,71,31,31,31,0,31,31,1] (.cut (cFdiv (405 + Z 0) 324 (z3 1) (z14 1 + 3) (DV 0)) fun z15 => (H_law4k4 P b2 Z LD DV DW IX IW D LT NM WH PG TK K W G SW SG M2 n z3 z5 z7 z9 z10 z11 z12 z13 z14 z15)))))
noncomputable def H_law4k2 (P : Params) (b2 : Bool) (a : Addr) (sl : List (Int × Nat)) (ep : Nat) (S : Nat → List (Int × Nat)) (Z : Nat → Int) (LD : Nat → List Nat) (DV DW : Nat → Int) (IX IW : Nat → Nat) (D : Rd) (LT : List Nat) (NM WH : Nat → List Nat) (PG : Nat → Nat → List Nat) (TK : List Value → Nat → Nat) (K : Nat → Nat → Int) (W : Nat → List Nat) (G : Nat → Int) (SW : Nat → List Nat) (SG : Nat → Int) (M2 : Nat → Int) (n : Nat) (z3 z5 z7 : Nat → Nat) : HT := .go [0,0,31,31,15,31,29,0,29,29,29,29,29,14,29,14,33,16,5,33,25,25,25,0,25,25,0,0,3,33,2,2,2,1] (.cut (cSlice 2 47 a (z7 0) (inl sl) ep (.int (0 + 1 + 1 + 1) (z7 1 + 1)) .none (.int 5 (z7 1 + 3)) (inl (S 3))) fun z8 => .go [1] (.cut (cSumV 49 (z8 2) (inl (S 3)) 0 (Z 3)) fun z9 => .go (cond b2 [0,0,31,31,15,31,29,0,29,29,29,29,53,33,33,16,7,3,7,31,31,0,31,55,0,55,0,55,55,55,31,55,27,59,29,0,59,0,1] [0,0,31,31,15,31,29,0,29,29,29,29,53,33,33,16,7,3,7,31,31,0,31,55,0,55,55,0,55,55,55,0,55,55,55,31,55,27,59,29,0,59,0,1]) (.cut (cLead (405 + Z 0) (z3 1) ⟨⟨LD 0⟩⟩) fun z10 => .go [0,57,57,28,57,55,0,55,55,55,31,55,27,59,29,0,59,0,1] (.cut (cLead (654 + Z 1) (z5 1) ⟨⟨LD 1⟩⟩) fun z11 => (H_law4k3 P b2 Z LD DV DW IX IW D LT NM WH PG TK K W G SW SG M2 n z3 z5 z7 z9 z10 z11)))))
noncomputable def H_law4k1 (P : Params) (b2 : Bool) (a : Addr) (sl : List (Int × Nat)) (ep : Nat) (S : Nat → List (Int × Nat)) (Z : Nat → Int) (LD : Nat → List Nat) (DV DW : Nat → Int) (IX IW : Nat → Nat) (D : Rd) (LT : List Nat) (NM WH : Nat → List Nat) (PG : Nat → Nat → List Nat) (TK : List Value → Nat → Nat) (K : Nat → Nat → Int) (W : Nat → List Nat) (G : Nat → Int) (SW : Nat → List Nat) (SG : Nat → Int) (M2 : Nat → Int) (n : Nat) (z3 : Nat → Nat) : HT := .go [0,0,31,31,15,31,29,0,29,29,29,29,29,14,29,14,33,16,5,33,25,25,25,0,25,25,0,0,3,33,2,2,2,1] (.cut (cSlice 2 39 a (z3 0) (inl sl) ep (.int (0 + 1) (z3 1 + 1)) .none (.int 5 (z3 1 + 3)) (inl (S 1))) fun z4 => .go [1] (.cut (cSumV 41 (z4 2) (inl (S 1)) 0 (Z 1)) fun z5 => .go [0,0,31,31,15,31,29,0,29,29,29,29,29,14,29,14,33,16,5,33,25,25,25,0,25,25,0,0,3,33,2,2,2,1] (.cut (cSlice 2 43 a (z5 0) (inl sl) ep (.int (0 + 1 + 1) (z5 1 + 1)) .none (.int 5 (z5 1 + 3)) (inl (S 2))) fun z6 => .go [1] (.cut (cSumV 45 (z6 2) (inl (S 2)) 0 (Z 2)) fun z7 => (H_law4k2 P b2 a sl ep S Z LD DV DW IX IW D LT NM WH PG TK K W G SW SG M2 n z3 z5 z7)))))
noncomputable def H_law4 (P : Params) (b2 : Bool) (h : Nat) (a : Addr) (sl : List (Int × Nat)) (ep : Nat) (S : Nat → List (Int × Nat)) (Z : Nat → Int) (LD : Nat → List Nat) (DV DW : Nat → Int) (IX IW : Nat → Nat) (D : Rd) (LT : List Nat) (NM WH : Nat → List Nat) (PG : Nat → Nat → List Nat) (TK : List Value → Nat → Nat) (K : Nat → Nat → Int) (W : Nat → List Nat) (G : Nat → Int) (SW : Nat → List Nat) (SG : Nat → Int) (M2 : Nat → Int) (n tk : Nat) : HT := .go [3,1,0,0,3,1] (.cut (cLenL 2 a (inl sl) ep (sl.length : Nat)) fun z0 => .go [1] (.cut (cLt (↑sl.length : Int) 3 (z0 2) (z0 1) true) fun z1 => .go (cond b2 [21,21,21,0,21,23,23,23,23,23,21,0,5,2,0,0,0,0,5,0,25,0,25,25,0,0,27,27,0,27,27,27,27,0,27,27,27,27,29,0,29,0,29,29,29,29,29,14,29,14,33,16,5,33,25,25,25,0,25,25,0,0,3,33,2,2,2,1] [21,21,21,0,21,23,23,23,23,23,21,0,5,2,0,0,0,0,5,0,25,0,25,25,0,0,27,27,0,27,27,27,27,0,27,27,27,27,29,0,29,29,0,29,29,29,0,29,29,29,29,29,14,29,14,33,16,5,33,25,25,25,0,25,25,0,0,3,33,2,2,2,1]) (.cut (cSlice 2 35 a (z1 0 + 6) (inl sl) ep (.int 0 (z1 1 + 5)) .none (.int 5 (z1 1 + 7)) (inl (S 0))) fun z2 => .go [1] (.cut (cSumV 37 (z2 2) (inl (S 0)) 0 (Z 0)) fun z3 => (H_law4k1 P b2 a sl ep S Z LD DV DW IX IW D LT NM WH PG TK K W G SW SG M2 n z3)))))
theorem r_law4 (P : Params) (b1 b2 : Bool) (h : Nat) (a : Addr) (sl : List (Int × Nat)) (ep : Nat) (S : Nat → List (Int × Nat)) (Z : Nat → Int) (LD : Nat → List Nat) (DV DW : Nat → Int) (IX IW : Nat → Nat) (D : Rd) (LT : List Nat) (NM WH : Nat → List Nat) (PG : Nat → Nat → List Nat) (TK : List Value → Nat → Nat) (K : Nat → Nat → Int) (W : Nat → List Nat) (G : Nat → Int) (SW : Nat → List Nat) (SG : Nat → Int) (M2 : Nat → Int) (n tk : Nat) : (RunF (parOf P b1 b2) (cLawT h a sl ep) 165 fd165 [.ref a] 9000 (H_law4 (parOf P b1 b2) b2 h a sl ep S Z LD DV DW IX IW D LT NM WH PG TK K W G SW SG M2 n tk) n tk).Ok := by
  cases b1 <;> cases b2 <;> (show OT.l _ = OT.r _; kernel_rfl)
theorem law4_ok (w : World) (b1 b2 : Bool) (h : Nat) (a : Addr) (sl : List (Int × Nat)) (ep : Nat) (hl : sl.length ≤ 63) (hlen : decide ((sl.length : Int) < 3) = true) : VV w b1 b2 (cLawT h a sl ep) := by
  have O := pgO_ok sl 4 (.inl rfl)
  have hn : 4 = 4 ∨ 4 = 5 := by decide
  have hasc : ∀ k, (⟨leadL (tot sl k)⟩ : Array Nat).all (· < 128) = true := fun k => asc_lead (lead_in _)
  refine fnV (fn165 _) rfl (show 1 ≤ 12 by decide) (fun _ => rfl) 9000 (fun n tk => H_law4 (parOf w.params b1 b2) b2 h a sl ep (fun k => pickS sl k) (fun k => ((pickS sl k).map (·.1)).sum) (fun k => leadL (tot sl k)) (fun k => (tot sl k).fdiv 324) (fun k => (tot sl k).fdiv 81) (ixv sl) (iwv sl) (pgO sl 4).rd (pgO sl 4).R (fun k => sufs.getD (ixv sl k) []) (fun k => whs.getD (iwv sl k) []) (PGv sl) tokS (Kv sl) (Wv sl 4) (Gv sl 4) (SWv sl 4) (SGv sl 4) (M2v sl 4) n tk) (fun n tk => r_law4 w.params b1 b2 h a sl ep _ _ _ _ _ _ _ _ _ _ _ _ _ _ _ _ _ _ _ n tk) fun n tk => ?_
  refine ⟨cLenL_ok (by rw [inl_len]) (by rw [inl_len]; lia), fun z0 _ => ?_⟩
  refine ⟨cLt_ok hlen, fun z1 _ => ?_⟩
  refine ⟨cSlice_ok (.int _ _) .none (.int _ _) (by decide) (pick_is sl 0) (by rw [inl_len, sizeLine_eq]; lia), fun z2 _ => ?_⟩
  refine ⟨cSumV_ok (pickS sl 0) rfl rfl, fun z3 _ => ?_⟩
  refine ⟨cSlice_ok (.int _ _) .none (.int _ _) (by decide) (pick_is sl 1) (by rw [inl_len, sizeLine_eq]; lia), fun z4 _ => ?_⟩
  refine ⟨cSumV_ok (pickS sl 1) rfl rfl, fun z5 _ => ?_⟩
  refine ⟨cSlice_ok (.int _ _) .none (.int _ _) (by decide) (pick_is sl 2) (by rw [inl_len, sizeLine_eq]; lia), fun z6 _ => ?_⟩
  refine ⟨cSumV_ok (pickS sl 2) rfl rfl, fun z7 _ => ?_⟩
  refine ⟨cSlice_ok (.int _ _) .none (.int _ _) (by decide) (pick_is sl 3) (by rw [inl_len, sizeLine_eq]; lia), fun z8 _ => ?_⟩
  refine ⟨cSumV_ok (pickS sl 3) rfl rfl, fun z9 _ => ?_⟩
  refine ⟨lead_ok w b1 b2, fun z10 _ => ?_⟩
  refine ⟨lead_ok w b1 b2, fun z11 _ => ?_⟩
  refine ⟨lead_ok w b1 b2, fun z12 _ => ?_⟩
  refine ⟨lead_ok w b1 b2, fun z13 _ => ?_⟩
  refine ⟨cStrAt_ok (by decide) (by decide) rfl, fun z14 _ => ?_⟩
  refine ⟨cFdiv_ok rfl (noPy _ _ (.inr (.inl rfl))) rfl, fun z15 _ => ?_⟩
  refine ⟨cMod_ok rfl (toNat_mod _ _ (by decide)).1.symm, fun z16 _ => ?_⟩
  refine ⟨cGet_ok (Int.natCast_nonneg _) (by have := ix_lt sl 0; lia) get3, fun z17 _ => ?_⟩
  refine ⟨cStrAdd_ok rfl (by have := lens sl 0; exact small40 (by decide) (by show (sufs.getD (ixv sl 0) []).length ≤ _; lia)), fun z18 _ => ?_⟩
  refine ⟨cStrAt_ok (by decide) (by decide) rfl, fun z19 _ => ?_⟩
  refine ⟨cFdiv_ok rfl (noPy _ _ (.inr (.inl rfl))) rfl, fun z20 _ => ?_⟩
  refine ⟨cMod_ok rfl (toNat_mod _ _ (by decide)).1.symm, fun z21 _ => ?_⟩
  refine ⟨cGet_ok (Int.natCast_nonneg _) (by have := ix_lt sl 1; lia) get3, fun z22 _ => ?_⟩
  refine ⟨cStrAdd_ok rfl (by have := lens sl 1; exact small40 (by decide) (by show (sufs.getD (ixv sl 1) []).length ≤ _; lia)), fun z23 _ => ?_⟩
  refine ⟨cStrAt_ok (by decide) (by decide) rfl, fun z24 _ => ?_⟩
  refine ⟨cFdiv_ok rfl (noPy _ _ (.inr (.inl rfl))) rfl, fun z25 _ => ?_⟩
  refine ⟨cMod_ok rfl (toNat_mod _ _ (by decide)).1.symm, fun z26 _ => ?_⟩
  refine ⟨cGet_ok (Int.natCast_nonneg _) (by have := ix_lt sl 2; lia) get3, fun z27 _ => ?_⟩
  refine ⟨cStrAdd_ok rfl (by have := lens sl 2; exact small40 (by decide) (by show (sufs.getD (ixv sl 2) []).length ≤ _; lia)), fun z28 _ => ?_⟩
  refine ⟨cStrAt_ok (by decide) (by decide) rfl, fun z29 _ => ?_⟩
  refine ⟨cFdiv_ok rfl (noPy _ _ (.inr (.inl rfl))) rfl, fun z30 _ => ?_⟩
  refine ⟨cMod_ok rfl (toNat_mod _ _ (by decide)).1.symm, fun z31 _ => ?_⟩
  refine ⟨cGet_ok (Int.natCast_nonneg _) (by have := ix_lt sl 3; lia) get3, fun z32 _ => ?_⟩
  refine ⟨cStrAdd_ok rfl (by have := lens sl 3; exact small40 (by decide) (by show (sufs.getD (ixv sl 3) []).length ≤ _; lia)), fun z33 _ => ?_⟩
  refine ⟨cFdiv_ok rfl (noPy _ _ (.inr (.inr rfl))) rfl, fun z34 _ => ?_⟩
  refine ⟨cMod_ok rfl (toNat_mod _ _ (by decide)).1.symm, fun z35 _ => ?_⟩
  refine ⟨cGet_ok (Int.natCast_nonneg _) (by have := iw_lt sl 0; lia) get4, fun z36 _ => ?_⟩
  refine ⟨cFdiv_ok rfl (noPy _ _ (.inr (.inr rfl))) rfl, fun z37 _ => ?_⟩
  refine ⟨cMod_ok rfl (toNat_mod _ _ (by decide)).1.symm, fun z38 _ => ?_⟩
  refine ⟨cGet_ok (Int.natCast_nonneg _) (by have := iw_lt sl 1; lia) get4, fun z39 _ => ?_⟩
  refine ⟨cFdiv_ok rfl (noPy _ _ (.inr (.inr rfl))) rfl, fun z40 _ => ?_⟩
  refine ⟨cMod_ok rfl (toNat_mod _ _ (by decide)).1.symm, fun z41 _ => ?_⟩
  refine ⟨cGet_ok (Int.natCast_nonneg _) (by have := iw_lt sl 2; lia) get4, fun z42 _ => ?_⟩
  refine ⟨cFdiv_ok rfl (noPy _ _ (.inr (.inr rfl))) rfl, fun z43 _ => ?_⟩
  refine ⟨cMod_ok rfl (toNat_mod _ _ (by decide)).1.symm, fun z44 _ => ?_⟩
  refine ⟨cGet_ok (Int.natCast_nonneg _) (by have := iw_lt sl 3; lia) get4, fun z45 _ => ?_⟩
  refine ⟨cStrAdd_ok rfl (by have := lens sl 0; exact small40 (by show (leadL (tot sl 0)).length ≤ _; lia) (by show (sufs.getD (ixv sl 0) []).length + 1 ≤ _; lia)), fun z46 _ => ?_⟩
  refine ⟨cStrAdd_ok rfl (by have q := PG_len sl 0 0; exact small40 (Nat.le_trans q (by decide)) (by decide)), fun z47 _ => ?_⟩
  refine ⟨cStrAdd_ok rfl (by have := lens sl 0; have q := PG_len sl 0 1; exact small40 (Nat.le_trans q (by decide)) (by show (whs.getD (iwv sl 0) []).length ≤ _; lia)), fun z48 _ => ?_⟩
  refine ⟨cStrAdd_ok rfl (by have q := PG_len sl 0 2; exact small40 (Nat.le_trans q (by decide)) (by decide)), fun z49 _ => ?_⟩
  refine ⟨cStrAdd_ok rfl (by have := lens sl 1; exact small40 (by show (leadL (tot sl 1)).length ≤ _; lia) (by show (sufs.getD (ixv sl 1) []).length + 1 ≤ _; lia)), fun z50 _ => ?_⟩
  refine ⟨cStrAdd_ok rfl (by have q := PG_len sl 1 0; exact small40 (Nat.le_trans q (by decide)) (by decide)), fun z51 _ => ?_⟩
  refine ⟨cStrAdd_ok rfl (by have := lens sl 1; have q := PG_len sl 1 1; exact small40 (Nat.le_trans q (by decide)) (by show (whs.getD (iwv sl 1) []).length ≤ _; lia)), fun z52 _ => ?_⟩
  refine ⟨cStrAdd_ok rfl (by have q := PG_len sl 1 2; exact small40 (Nat.le_trans q (by decide)) (by decide)), fun z53 _ => ?_⟩
  refine ⟨cStrAdd_ok rfl (by have := lens sl 2; exact small40 (by show (leadL (tot sl 2)).length ≤ _; lia) (by show (sufs.getD (ixv sl 2) []).length + 1 ≤ _; lia)), fun z54 _ => ?_⟩
  refine ⟨cStrAdd_ok rfl (by have q := PG_len sl 2 0; exact small40 (Nat.le_trans q (by decide)) (by decide)), fun z55 _ => ?_⟩
  refine ⟨cStrAdd_ok rfl (by have := lens sl 2; have q := PG_len sl 2 1; exact small40 (Nat.le_trans q (by decide)) (by show (whs.getD (iwv sl 2) []).length ≤ _; lia)), fun z56 _ => ?_⟩
  refine ⟨cStrAdd_ok rfl (by have q := PG_len sl 2 2; exact small40 (Nat.le_trans q (by decide)) (by decide)), fun z57 _ => ?_⟩
  refine ⟨cStrAdd_ok rfl (by have := lens sl 3; exact small40 (by show (leadL (tot sl 3)).length ≤ _; lia) (by show (sufs.getD (ixv sl 3) []).length + 1 ≤ _; lia)), fun z58 _ => ?_⟩
  refine ⟨cStrAdd_ok rfl (by have q := PG_len sl 3 0; exact small40 (Nat.le_trans q (by decide)) (by decide)), fun z59 _ => ?_⟩
  refine ⟨cStrAdd_ok rfl (by have := lens sl 3; have q := PG_len sl 3 1; exact small40 (Nat.le_trans q (by decide)) (by show (whs.getD (iwv sl 3) []).length ≤ _; lia)), fun z60 _ => ?_⟩
  refine ⟨cStrAdd_ok rfl (by have q := PG_len sl 3 2; exact small40 (Nat.le_trans q (by decide)) (by decide)), fun z61 _ => ?_⟩
  refine ⟨cJoin_ok rfl (join4 sl) (by have q0 := PG_len sl 0 3; have q1 := PG_len sl 1 3; have q2 := PG_len sl 2 3; have q3 := PG_len sl 3 3; simp only [sumLen]; lia) (by show 4 ≤ 1000; decide) (by decide), fun z62 _ => ?_⟩
  refine ⟨rd4 w b1 b2 O rfl _, fun z63 _ => ?_⟩
  refine ⟨cRstrip_ok (last_strip O (i := 3) rfl).1 (last_strip O (i := 3) rfl).2 (by have := O.Rr; exact Nat.le_trans this.2 (by rw [sizeLine_eq]; decide)), fun z64 _ => ?_⟩
  refine ⟨cLNe_ok ⟨rfl, rfl, rfl, rfl,  trivial⟩, fun z65 _ => ?_⟩
  refine ⟨cols_ok w b1 b2 (hasc 0), fun z66 _ => ?_⟩
  refine ⟨cols_ok w b1 b2 (hasc 1), fun z67 _ => ?_⟩
  refine ⟨cols_ok w b1 b2 (hasc 2), fun z68 _ => ?_⟩
  refine ⟨cols_ok w b1 b2 (hasc 3), fun z69 _ => ?_⟩
  refine ⟨olx4 w b1 b2 _ (s := 0) (by decide) rfl rfl, fun z70 _ => ?_⟩
  refine ⟨olx4 w b1 b2 _ (s := 1) (by decide) rfl rfl, fun z71 _ => ?_⟩
  refine ⟨olx4 w b1 b2 _ (s := 2) (by decide) rfl rfl, fun z72 _ => ?_⟩
  refine ⟨olx4 w b1 b2 _ (s := 3) (by decide) rfl rfl, fun z73 _ => ?_⟩
  refine ⟨shx4 w b1 b2 rfl rfl (((colsF4 sl _).all hn).symm), fun z74 _ => ?_⟩
  refine ⟨shx4 w b1 b2 rfl rfl (((colsF4 sl _).one hn (s := 1) (.inl rfl)).symm), fun z75 _ => ?_⟩
  refine ⟨shx4 w b1 b2 rfl rfl (((colsF4 sl _).one hn (s := 2) (.inr (.inl rfl))).symm), fun z76 _ => ?_⟩
  refine ⟨shx4 w b1 b2 rfl rfl (((colsF4 sl _).one hn (s := 3) (.inr (.inr rfl))).symm), fun z77 _ => ?_⟩
  refine ⟨cLNe_ok ⟨rfl, rfl, rfl, rfl,  trivial⟩, fun z78 _ => ?_⟩
  refine ⟨greatx w b1 b2 (bits_len _ _ _) rfl, fun z79 _ => ?_⟩
  refine ⟨greatx w b1 b2 (bits_len _ _ _) rfl, fun z80 _ => ?_⟩
  refine ⟨greatx w b1 b2 (bits_len _ _ _) rfl, fun z81 _ => ?_⟩
  refine ⟨greatx w b1 b2 (bits_len _ _ _) rfl, fun z82 _ => ?_⟩
  refine ⟨greatx w b1 b2 (bits_len _ _ _) rfl, fun z83 _ => ?_⟩
  refine ⟨lev_bits w b1 b2 (bits_len _ _ _) (bits_len _ _ _) (h0 sl 4 1 (.inl rfl)), fun z84 _ => ?_⟩
  refine ⟨cNe_ok (by simp), fun z85 _ => ?_⟩
  refine ⟨lev_bits w b1 b2 (bits_len _ _ _) (bits_len _ _ _) (h0 sl 4 2 (.inr (.inl rfl))), fun z86 _ => ?_⟩
  refine ⟨cNe_ok (by simp), fun z87 _ => ?_⟩
  refine ⟨shx4 w b1 b2 rfl rfl (((colsF4 sl _).two hn (s := 1) (t := 2) (.inl rfl) (.inr (.inl rfl))).symm), fun z88 _ => ?_⟩
  refine ⟨greatx w b1 b2 (bitsT_len _ _ _) rfl, fun z89 _ => ?_⟩
  refine ⟨cMul_ok (.of_left (by decide)) rfl, fun z90 _ => ?_⟩
  refine ⟨lev_bits w b1 b2 (bits_len _ _ _) (bits_len _ _ _) (hT0 sl 4), fun z91 _ => ?_⟩
  refine ⟨cNe_ok (by simp), fun z92 _ => ?_⟩
  refine ⟨lev_bits w b1 b2 (bits_len _ _ _) (bits_len _ _ _) (h0 sl 4 3 (.inr (.inr rfl))), fun z93 _ => ?_⟩
  refine ⟨cNe_ok (by simp), fun z94 _ => ?_⟩
  refine ⟨shx4 w b1 b2 rfl rfl (((colsF4 sl _).two hn (s := 1) (t := 3) (.inl rfl) (.inr (.inr rfl))).symm), fun z95 _ => ?_⟩
  refine ⟨greatx w b1 b2 (bitsT_len _ _ _) rfl, fun z96 _ => ?_⟩
  refine ⟨cMul_ok (.of_left (by decide)) rfl, fun z97 _ => ?_⟩
  refine ⟨lev_bits w b1 b2 (bits_len _ _ _) (bits_len _ _ _) (hT1 sl 4), fun z98 _ => ?_⟩
  refine ⟨cNe_ok (by simp), fun z99 _ => ?_⟩
  refine ⟨shx4 w b1 b2 rfl rfl (((colsF4 sl _).two hn (s := 2) (t := 3) (.inr (.inl rfl)) (.inr (.inr rfl))).symm), fun z100 _ => ?_⟩
  refine ⟨greatx w b1 b2 (bitsT_len _ _ _) rfl, fun z101 _ => ?_⟩
  refine ⟨cMul_ok (.of_left (by decide)) rfl, fun z102 _ => ?_⟩
  refine ⟨lev_bits w b1 b2 (bits_len _ _ _) (bits_len _ _ _) (hT2 sl 4), fun z103 _ => ?_⟩
  refine ⟨cNe_ok (by simp), fun z104 _ => ?_⟩
  exact outE (fun _ => 0) fun sz tk => ⟨trivial, rfl, rfl, rfl, rfl⟩
noncomputable def H_law5k29 (P : Params) (K : Nat → Nat → Int) (W : Nat → List Nat) (G : Nat → Int) (SW : Nat → List Nat) (SG : Nat → Int) (M2 : Nat → Int) (z80 z81 z82 z83 z84 z85 z88 z89 z108 z115 : Nat → Nat) : HT := .go [257,0,257,257,257,257,257,128,257,128,1,0,0,0,17,1,1,0,1] (.cut (cSh P (colF (selZ [z81, z82, z83, z84, z85]) K 5) (fun i => 56 + 2 * min i 4) 143 261 (z80 0 + 1) (z115 0) [0,1,2,3,4] 5 (inl [((1 + 1), (z115 1)), ((1 + 1 + 1), (z108 1))]) 0 (SW 2)) fun z116 => .go [0,1] (.cut (cGreat ⟨⟨SW 2⟩⟩ (z116 2) (SG 2)) fun z117 => .go [19,0,1,0,1,1,225,225,225,0,225,225,1,1,225,225,225,0,225,225,0,1,1] (.cut (cMul 2 (SG 2 - G 0) (z117 1 + 3) (z117 1) (M2 2)) fun z118 => .go [0,1,0,0,1,1,165,165,165,0,165,165,1,1,165,165,165,0,165,165,1,0,1] (.cut (cLev ⟨⟨W 2⟩⟩ ⟨⟨W 3⟩⟩ (z88 2) (z89 2) (G 2 - G 0 + (G 3 - G 0) - M2 2) (z118 1) (G 2 - G 0 + (G 3 - G 0) - M2 2)) fun z119 => .go [1,1] (.cut (cNe (G 2 - G 0 + (G 3 - G 0) - M2 2) (G 2 - G 0 + (G 3 - G 0) - M2 2) (z119 2) (z118 1) false) fun z120 => .go [257,0,257,257,257,257,265,235,0,235,235,235,235,269] (.nil { res := .ok (.ret (Value.bool true)), exp := [] }))))))
noncomputable def H_law5k28 (P : Params) (K : Nat → Nat → Int) (W : Nat → List Nat) (G : Nat → Int) (SW : Nat → List Nat) (SG : Nat → Int) (M2 : Nat → Int) (z80 z81 z82 z83 z84 z85 z87 z88 z89 z108 z111 : Nat → Nat) : HT := .go [0,1] (.cut (cGreat ⟨⟨SW 1⟩⟩ (z111 2) (SG 1)) fun z112 => .go [19,0,1,0,1,1,225,225,225,0,225,225,1,1,225,225,225,0,225,225,0,1,1] (.cut (cMul 2 (SG 1 - G 0) (z112 1 + 3) (z112 1) (M2 1)) fun z113 => .go [0,1,0,0,1,1,165,165,165,0,165,165,1,1,165,165,165,0,165,165,1,0,1] (.cut (cLev ⟨⟨W 1⟩⟩ ⟨⟨W 3⟩⟩ (z87 2) (z89 2) (G 1 - G 0 + (G 3 - G 0) - M2 1) (z113 1) (G 1 - G 0 + (G 3 - G 0) - M2 1)) fun z114 => .go [1,1] (.cut (cNe (G 1 - G 0 + (G 3 - G 0) - M2 1) (G 1 - G 0 + (G 3 - G 0) - M2 1) (z114 2) (z113 1) false) fun z115 => (H_law5k29 P K W G SW SG M2 z80 z81 z82 z83 z84 z85 z88 z89 z108 z115)))))
noncomputable def H_law5k27 (P : Params) (K : Nat → Nat → Int) (W : Nat → List Nat) (G : Nat → Int) (SW : Nat → List Nat) (SG : Nat → Int) (M2 : Nat → Int) (z80 z81 z82 z83 z84 z85 z86 z87 z88 z89 z99 z106 z107 : Nat → Nat) : HT := .go [1,1] (.cut (cNe (G 1 - G 0 + (G 2 - G 0) - M2 0) (G 1 - G 0 + (G 2 - G 0) - M2 0) (z107 2) (z106 1) false) fun z108 => .go [247,0,247,247,247,247,253,235,0,235,235,235,235,235,117,235,117,1,0,0,1,165,165,165,0,165,165,1,1,165,165,165,0,165,165,1,1,225,225,225,0,225,225,0,1] (.cut (cLev ⟨⟨W 0⟩⟩ ⟨⟨W 3⟩⟩ (z86 2) (z89 2) (G 3 - G 0) (z99 1) (G 3 - G 0)) fun z109 => .go [1,1,225,225,225,0,225,225,1] (.cut (cNe (G 3 - G 0) (G 3 - G 0) (z109 2) (z99 1) false) fun z110 => .go [0,0,1,0,0,255,255,0,255,255,255,255,0,255,255,255,255,257,0,257,0,257,257,257,257,257,128,257,128,1,0,0,0,17,1,1,0,1] (.cut (cSh P (colF (selZ [z81, z82, z83, z84, z85]) K 5) (fun i => 56 + 2 * min i 4) 143 259 (z80 0 + 1) (z110 0 + 2) [0,1,2,3,4] 5 (inl [(1, (z110 1 + 2)), ((1 + 1 + 1), (z108 1))]) 0 (SW 1)) fun z111 => (H_law5k28 P K W G SW SG M2 z80 z81 z82 z83 z84 z85 z87 z88 z89 z108 z111)))))
noncomputable def H_law5k26 (P : Params) (K : Nat → Nat → Int) (W : Nat → List Nat) (G : Nat → Int) (SW : Nat → List Nat) (SG : Nat → Int) (M2 : Nat → Int) (z80 z81 z82 z83 z84 z85 z86 z87 z88 z89 z99 z101 z103 : Nat → Nat) : HT := .go [0,0,1,0,0,245,245,0,245,245,245,245,0,245,245,245,245,247,0,247,0,247,247,247,247,247,123,247,123,1,0,0,0,17,1,1,0,1] (.cut (cSh P (colF (selZ [z81, z82, z83, z84, z85]) K 5) (fun i => 56 + 2 * min i 4) 143 249 (z80 0 + 1) (z103 0 + 2) [0,1,2,3,4] 5 (inl [(1, (z103 1 + 2)), ((1 + 1), (z101 1 + 2))]) 0 (SW 0)) fun z104 => .go [0,1] (.cut (cGreat ⟨⟨SW 0⟩⟩ (z104 2) (SG 0)) fun z105 => .go [19,0,1,0,1,1,225,225,225,0,225,225,1,1,225,225,225,0,225,225,0,1,1] (.cut (cMul 2 (SG 0 - G 0) (z105 1 + 3) (z105 1) (M2 0)) fun z106 => .go [0,1,0,0,1,1,165,165,165,0,165,165,1,1,165,165,165,0,165,165,1,0,1] (.cut (cLev ⟨⟨W 1⟩⟩ ⟨⟨W 2⟩⟩ (z87 2) (z88 2) (G 1 - G 0 + (G 2 - G 0) - M2 0) (z106 1) (G 1 - G 0 + (G 2 - G 0) - M2 0)) fun z107 => (H_law5k27 P K W G SW SG M2 z80 z81 z82 z83 z84 z85 z86 z87 z88 z89 z99 z106 z107)))))
noncomputable def H_law5k25 (P : Params) (K : Nat → Nat → Int) (W : Nat → List Nat) (G : Nat → Int) (SW : Nat → List Nat) (SG : Nat → Int) (M2 : Nat → Int) (z80 z81 z82 z83 z84 z85 z86 z87 z88 z89 z97 z98 z99 : Nat → Nat) : HT := .go [19,0,0,225,225,112,225,223,0,223,223,223,165,223,111,231,1,0,227,227,113,0,0,0,0,233,233,0,233,233,233,233,0,233,233,233,233,235,0,235,0,235,235,235,235,235,117,235,117,1,0,0,1,165,165,165,0,165,165,1,1,165,165,165,0,165,165,1,1,225,225,225,0,225,225,0,1] (.cut (cLev ⟨⟨W 0⟩⟩ ⟨⟨W 1⟩⟩ (z86 2) (z87 2) (G 1 - G 0) (z97 1) (G 1 - G 0)) fun z100 => .go [1,1,225,225,225,0,225,225,1] (.cut (cNe (G 1 - G 0) (G 1 - G 0) (z100 2) (z97 1) false) fun z101 => .go [0,0,1,0,0,237,237,0,237,237,237,237,0,237,237,237,237,239,0,239,0,239,239,239,239,243,235,0,235,235,235,235,235,117,235,117,1,0,0,1,165,165,165,0,165,165,1,1,165,165,165,0,165,165,1,1,225,225,225,0,225,225,0,1] (.cut (cLev ⟨⟨W 0⟩⟩ ⟨⟨W 2⟩⟩ (z86 2) (z88 2) (G 2 - G 0) (z98 1) (G 2 - G 0)) fun z102 => .go [1,1,225,225,225,0,225,225,1] (.cut (cNe (G 2 - G 0) (G 2 - G 0) (z102 2) (z98 1) false) fun z103 => (H_law5k26 P K W G SW SG M2 z80 z81 z82 z83 z84 z85 z86 z87 z88 z89 z99 z101 z103)))))
noncomputable def H_law5k24 (P : Params) (b2 : Bool) (K : Nat → Nat → Int) (W : Nat → List Nat) (G : Nat → Int) (SW : Nat → List Nat) (SG : Nat → Int) (M2 : Nat → Int) (z80 z81 z82 z83 z84 z85 z86 z87 z88 z89 : Nat → Nat) : HT := .go (cond b2 [19,9,1,165,165,0,165,223,0,223,0,223,223,223,165,223,111,227,113,0,227,0,1] [19,9,1,165,165,0,165,223,0,223,223,0,223,223,223,0,223,223,223,165,223,111,227,113,0,227,0,1]) (.cut (cGreat ⟨⟨W 0⟩⟩ (z86 2) (G 0)) fun z96 => .go [19,0,0,225,225,112,225,223,0,223,223,223,165,223,111,227,113,0,227,0,1] (.cut (cGreat ⟨⟨W 1⟩⟩ (z87 2) (G 1)) fun z97 => .go [19,0,0,225,225,112,225,223,0,223,223,223,165,223,111,227,113,0,227,0,1] (.cut (cGreat ⟨⟨W 2⟩⟩ (z88 2) (G 2)) fun z98 => .go [19,0,0,225,225,112,225,223,0,223,223,223,165,223,111,227,113,0,227,0,1] (.cut (cGreat ⟨⟨W 3⟩⟩ (z89 2) (G 3)) fun z99 => (H_law5k25 P K W G SW SG M2 z80 z81 z82 z83 z84 z85 z86 z87 z88 z89 z97 z98 z99)))))
noncomputable def H_law5k23 (P : Params) (b2 : Bool) (K : Nat → Nat → Int) (W : Nat → List Nat) (G : Nat → Int) (SW : Nat → List Nat) (SG : Nat → Int) (M2 : Nat → Int) (n : Nat) (z80 z81 z82 z83 z84 z85 z86 z87 z88 z89 z90 z91 : Nat → Nat) : HT := .go [0,215,215,107,215,213,0,213,213,213,159,213,106,217,108,0,17,217,0,1] (.cut (cSh P (colF (selZ [z81, z82, z83, z84, z85]) K 5) (fun i => 56 + 2 * min i 4) 143 155 (z80 0 + 1) (z85 0 + 4) [0,1,2,3,4] 5 (inl [(2, (z85 1 + 4))]) 0 (W 2)) fun z92 => .go [0,215,215,107,215,213,0,213,213,213,159,213,106,217,108,0,17,217,0,1] (.cut (cSh P (colF (selZ [z81, z82, z83, z84, z85]) K 5) (fun i => 56 + 2 * min i 4) 143 157 (z80 0 + 1) (z85 0 + 5) [0,1,2,3,4] 5 (inl [(3, (z85 1 + 5))]) 0 (W 3)) fun z93 => .go [0,215,215,107,215,213,0,213,213,213,159,213,106,221,217,217,108] (.stk (phiWd n ((z85 0 + 9)) ((z89 0 + 3))) (.go [165,215,165,1] (.cut (cLNe 165 215 (z85 0 + 9) (z89 0 + 3) ([.str ⟨⟨W 0⟩⟩ (z86 2), .str ⟨⟨W 1⟩⟩ (z87 2), .str ⟨⟨W 2⟩⟩ (z88 2), .str ⟨⟨W 3⟩⟩ (z89 2)]) 4 ([.str ⟨⟨W 0⟩⟩ (z90 2), .str ⟨⟨W 1⟩⟩ (z91 2), .str ⟨⟨W 2⟩⟩ (z92 2), .str ⟨⟨W 3⟩⟩ (z93 2)]) 4 false) fun z94 => .go [0,1,165,165,165,0,165,165,0,1] (.cut (cGreat ⟨⟨W 0⟩⟩ (z86 2) (G 0)) fun z95 => (H_law5k24 P b2 K W G SW SG M2 z80 z81 z82 z83 z84 z85 z86 z87 z88 z89)))))))
noncomputable def H_law5k22 (P : Params) (b2 : Bool) (D : Rd) (K : Nat → Nat → Int) (W : Nat → List Nat) (G : Nat → Int) (SW : Nat → List Nat) (SG : Nat → Int) (M2 : Nat → Int) (n : Nat) (z78 z80 z81 z82 z83 z84 z85 z86 z87 : Nat → Nat) : HT := .go (cond b2 [0,165,165,82,165,163,0,163,163,163,163,163,81,163,81,167,83,0,15,4,4,0,4,189,0,189,0,189,189,189,4,189,94,193,96,193,14,14,14,0,14,14,0,191,191,95,191,189,0,189,189,189,4,189,94,193,96,193,24,24,24,0,24,24,0,191,191,95,191,189,0,189,189,189,4,189,94,193,96,193,34,34,34,0,34,34,0,191,191,95,191,189,0,189,189,189,4,189,94,193,96,193,44,44,44,0,44,44,0,191,191,95,191,189,0,189,189,189,4,189,94,193,96,193,54,54,54,0,54,54,0,191,191,95,191,189,0,189,189,189,4,189,94,197,193,193,96,167,0,1] [0,165,165,82,165,163,0,163,163,163,163,163,81,163,81,167,83,0,15,4,4,0,4,189,0,189,189,0,189,189,189,0,189,189,189,4,189,94,193,96,193,14,14,14,0,14,14,0,191,191,95,191,189,0,189,189,189,4,189,94,193,96,193,24,24,24,0,24,24,0,191,191,95,191,189,0,189,189,189,4,189,94,193,96,193,34,34,34,0,34,34,0,191,191,95,191,189,0,189,189,189,4,189,94,193,96,193,44,44,44,0,44,44,0,191,191,95,191,189,0,189,189,189,4,189,94,193,96,193,54,54,54,0,54,54,0,191,191,95,191,189,0,189,189,189,4,189,94,197,193,193,96,167,0,1]) (.cut (cOl P (mkF D z78 5) (fun i => 6 + 10 * min i 4) 191 (z87 0 + 1) ([.ref (z78 (8 * 12 + 0 + 16)), .ref (z78 (8 * 12 + (0 + 1) + 16)), .ref (z78 (8 * 12 + (0 + 1 + 1) + 16)), .ref (z78 (8 * 12 + (0 + 1 + 1 + 1) + 16)), .ref (z78 (8 * 12 + (0 + 1 + 1 + 1 + 1) + 16))]) 5 (0 + 1 + 1) (z87 1) (W 2)) fun z88 => .go (cond b2 [0,165,165,82,165,163,0,163,163,163,163,163,81,163,81,167,83,0,15,4,4,0,4,199,0,199,0,199,199,199,4,199,99,203,101,203,14,14,14,0,14,14,0,201,201,100,201,199,0,199,199,199,4,199,99,203,101,203,24,24,24,0,24,24,0,201,201,100,201,199,0,199,199,199,4,199,99,203,101,203,34,34,34,0,34,34,0,201,201,100,201,199,0,199,199,199,4,199,99,203,101,203,44,44,44,0,44,44,0,201,201,100,201,199,0,199,199,199,4,199,99,203,101,203,54,54,54,0,54,54,0,201,201,100,201,199,0,199,199,199,4,199,99,207,203,203,101,167,0,1] [0,165,165,82,165,163,0,163,163,163,163,163,81,163,81,167,83,0,15,4,4,0,4,199,0,199,199,0,199,199,199,0,199,199,199,4,199,99,203,101,203,14,14,14,0,14,14,0,201,201,100,201,199,0,199,199,199,4,199,99,203,101,203,24,24,24,0,24,24,0,201,201,100,201,199,0,199,199,199,4,199,99,203,101,203,34,34,34,0,34,34,0,201,201,100,201,199,0,199,199,199,4,199,99,203,101,203,44,44,44,0,44,44,0,201,201,100,201,199,0,199,199,199,4,199,99,203,101,203,54,54,54,0,54,54,0,201,201,100,201,199,0,199,199,199,4,199,99,207,203,203,101,167,0,1]) (.cut (cOl P (mkF D z78 5) (fun i => 6 + 10 * min i 4) 201 (z88 0 + 1) ([.ref (z78 (8 * 12 + 0 + 16)), .ref (z78 (8 * 12 + (0 + 1) + 16)), .ref (z78 (8 * 12 + (0 + 1 + 1) + 16)), .ref (z78 (8 * 12 + (0 + 1 + 1 + 1) + 16)), .ref (z78 (8 * 12 + (0 + 1 + 1 + 1 + 1) + 16))]) 5 (0 + 1 + 1 + 1) (z88 1) (W 3)) fun z89 => .go (cond b2 [0,165,165,82,165,163,0,163,163,163,163,211,1,0,167,167,83,1,1,159,159,0,159,213,0,213,0,213,213,213,159,213,106,217,108,0,17,217,0,1] [0,165,165,82,165,163,0,163,163,163,163,211,1,0,167,167,83,1,1,159,159,0,159,213,0,213,213,0,213,213,213,0,213,213,213,159,213,106,217,108,0,17,217,0,1]) (.cut (cSh P (colF (selZ [z81, z82, z83, z84, z85]) K 5) (fun i => 56 + 2 * min i 4) 143 151 (z80 0 + 1) (z85 0 + 2) [0,1,2,3,4] 5 (inl [(1, (z85 1)), (2, (z85 1 + 1)), (3, (z85 1 + 2))]) 0 (W 0)) fun z90 => .go [0,215,215,107,215,213,0,213,213,213,159,213,106,217,108,0,17,217,0,1] (.cut (cSh P (colF (selZ [z81, z82, z83, z84, z85]) K 5) (fun i => 56 + 2 * min i 4) 143 153 (z80 0 + 1) (z85 0 + 3) [0,1,2,3,4] 5 (inl [(1, (z85 1 + 3))]) 0 (W 1)) fun z91 => (H_law5k23 P b2 K W G SW SG M2 n z80 z81 z82 z83 z84 z85 z86 z87 z88 z89 z90 z91)))))
noncomputable def H_law5k21 (P : Params) (b2 : Bool) (LD : Nat → List Nat) (D : Rd) (K : Nat → Nat → Int) (W : Nat → List Nat) (G : Nat → Int) (SW : Nat → List Nat) (SG : Nat → Int) (M2 : Nat → Int) (n : Nat) (z15 z16 z78 z80 z81 z82 z83 : Nat → Nat) : HT := .go [0,143,143,71,143,141,0,141,141,141,61,141,70,145,72,0,145,0,1] (.cut (cCols ⟨⟨LD 3⟩⟩ (z15 2) (K 3 1) (K 3 2) (K 3 3)) fun z84 => .go [0,143,143,71,143,141,0,141,141,141,61,141,70,145,72,0,145,0,1] (.cut (cCols ⟨⟨LD 4⟩⟩ (z16 2) (K 4 1) (K 4 2) (K 4 3)) fun z85 => .go (cond b2 [0,143,143,71,143,141,0,141,141,141,61,141,70,149,145,145,72,17,8,1,0,0,0,0,0,161,161,0,161,161,161,161,0,161,161,161,161,163,0,163,0,163,163,163,163,163,81,163,81,167,83,0,15,4,4,0,4,169,0,169,0,169,169,169,4,169,84,173,86,173,14,14,14,0,14,14,0,171,171,85,171,169,0,169,169,169,4,169,84,173,86,173,24,24,24,0,24,24,0,171,171,85,171,169,0,169,169,169,4,169,84,173,86,173,34,34,34,0,34,34,0,171,171,85,171,169,0,169,169,169,4,169,84,173,86,173,44,44,44,0,44,44,0,171,171,85,171,169,0,169,169,169,4,169,84,173,86,173,54,54,54,0,54,54,0,171,171,85,171,169,0,169,169,169,4,169,84,177,173,173,86,167,0,1] [0,143,143,71,143,141,0,141,141,141,61,141,70,149,145,145,72,17,8,1,0,0,0,0,0,161,161,0,161,161,161,161,0,161,161,161,161,163,0,163,163,0,163,163,163,0,163,163,163,163,163,81,163,81,167,83,0,15,4,4,0,4,169,0,169,169,0,169,169,169,0,169,169,169,4,169,84,173,86,173,14,14,14,0,14,14,0,171,171,85,171,169,0,169,169,169,4,169,84,173,86,173,24,24,24,0,24,24,0,171,171,85,171,169,0,169,169,169,4,169,84,173,86,173,34,34,34,0,34,34,0,171,171,85,171,169,0,169,169,169,4,169,84,173,86,173,44,44,44,0,44,44,0,171,171,85,171,169,0,169,169,169,4,169,84,173,86,173,54,54,54,0,54,54,0,171,171,85,171,169,0,169,169,169,4,169,84,177,173,173,86,167,0,1]) (.cut (cOl P (mkF D z78 5) (fun i => 6 + 10 * min i 4) 171 (z85 0 + 12) ([.ref (z78 (8 * 12 + 0 + 16)), .ref (z78 (8 * 12 + (0 + 1) + 16)), .ref (z78 (8 * 12 + (0 + 1 + 1) + 16)), .ref (z78 (8 * 12 + (0 + 1 + 1 + 1) + 16)), .ref (z78 (8 * 12 + (0 + 1 + 1 + 1 + 1) + 16))]) 5 0 (z85 1 + 10) (W 0)) fun z86 => .go (cond b2 [0,165,165,82,165,163,0,163,163,163,163,163,81,163,81,167,83,0,15,4,4,0,4,179,0,179,0,179,179,179,4,179,89,183,91,183,14,14,14,0,14,14,0,181,181,90,181,179,0,179,179,179,4,179,89,183,91,183,24,24,24,0,24,24,0,181,181,90,181,179,0,179,179,179,4,179,89,183,91,183,34,34,34,0,34,34,0,181,181,90,181,179,0,179,179,179,4,179,89,183,91,183,44,44,44,0,44,44,0,181,181,90,181,179,0,179,179,179,4,179,89,183,91,183,54,54,54,0,54,54,0,181,181,90,181,179,0,179,179,179,4,179,89,187,183,183,91,167,0,1] [0,165,165,82,165,163,0,163,163,163,163,163,81,163,81,167,83,0,15,4,4,0,4,179,0,179,179,0,179,179,179,0,179,179,179,4,179,89,183,91,183,14,14,14,0,14,14,0,181,181,90,181,179,0,179,179,179,4,179,89,183,91,183,24,24,24,0,24,24,0,181,181,90,181,179,0,179,179,179,4,179,89,183,91,183,34,34,34,0,34,34,0,181,181,90,181,179,0,179,179,179,4,179,89,183,91,183,44,44,44,0,44,44,0,181,181,90,181,179,0,179,179,179,4,179,89,183,91,183,54,54,54,0,54,54,0,181,181,90,181,179,0,179,179,179,4,179,89,187,183,183,91,167,0,1]) (.cut (cOl P (mkF D z78 5) (fun i => 6 + 10 * min i 4) 181 (z86 0 + 1) ([.ref (z78 (8 * 12 + 0 + 16)), .ref (z78 (8 * 12 + (0 + 1) + 16)), .ref (z78 (8 * 12 + (0 + 1 + 1) + 16)), .ref (z78 (8 * 12 + (0 + 1 + 1 + 1) + 16)), .ref (z78 (8 * 12 + (0 + 1 + 1 + 1 + 1) + 16))]) 5 (0 + 1) (z86 1) (W 1)) fun z87 => (H_law5k22 P b2 D K W G SW SG M2 n z78 z80 z81 z82 z83 z84 z85 z86 z87)))))
noncomputable def H_law5k20 (P : Params) (b2 : Bool) (LD : Nat → List Nat) (D : Rd) (LT : List Nat) (NM : Nat → List Nat) (K : Nat → Nat → Int) (W : Nat → List Nat) (G : Nat → Int) (SW : Nat → List Nat) (SG : Nat → Int) (M2 : Nat → Int) (n : Nat) (z12 z13 z14 z15 z16 z21 z26 z31 z36 z78 z79 : Nat → Nat) : HT := .go [135,137,135,0,135,137,135,137] (.stk (phiNm n ((z78 0 + 1)) ((z79 0 + 1))) (.go [125,139,125,1] (.cut (cLNe 125 139 (z78 0 + 1) (z79 0 + 1) ([.str ⟨⟨D.T 0⟩⟩ (z78 (8 * 15 + 0 + 16)), .str ⟨⟨D.T (0 + 1)⟩⟩ (z78 (8 * 15 + (0 + 1) + 16)), .str ⟨⟨D.T (0 + 1 + 1)⟩⟩ (z78 (8 * 15 + (0 + 1 + 1) + 16)), .str ⟨⟨D.T (0 + 1 + 1 + 1)⟩⟩ (z78 (8 * 15 + (0 + 1 + 1 + 1) + 16)), .str ⟨⟨D.T (0 + 1 + 1 + 1 + 1)⟩⟩ (z78 (8 * 15 + (0 + 1 + 1 + 1 + 1) + 16))]) 5 ([.str ⟨⟨112 :: NM 0⟩⟩ (z21 2), .str ⟨⟨113 :: NM 1⟩⟩ (z26 2), .str ⟨⟨114 :: NM 2⟩⟩ (z31 2), .str ⟨⟨115 :: NM 3⟩⟩ (z36 2), .str ⟨⟨LT⟩⟩ (z79 2)]) 0 false) fun z80 => .go (cond b2 [9,61,61,0,61,141,0,141,0,141,141,141,61,141,70,145,72,0,145,0,1] [9,61,61,0,61,141,0,141,141,0,141,141,141,0,141,141,141,61,141,70,145,72,0,145,0,1]) (.cut (cCols ⟨⟨LD 0⟩⟩ (z12 2) (K 0 1) (K 0 2) (K 0 3)) fun z81 => .go [0,143,143,71,143,141,0,141,141,141,61,141,70,145,72,0,145,0,1] (.cut (cCols ⟨⟨LD 1⟩⟩ (z13 2) (K 1 1) (K 1 2) (K 1 3)) fun z82 => .go [0,143,143,71,143,141,0,141,141,141,61,141,70,145,72,0,145,0,1] (.cut (cCols ⟨⟨LD 2⟩⟩ (z14 2) (K 2 1) (K 2 2) (K 2 3)) fun z83 => (H_law5k21 P b2 LD D K W G SW SG M2 n z15 z16 z78 z80 z81 z82 z83)))))))
noncomputable def H_law5k19 (P : Params) (b2 : Bool) (LD : Nat → List Nat) (D : Rd) (LT : List Nat) (NM : Nat → List Nat) (PG : Nat → Nat → List Nat) (K : Nat → Nat → Int) (W : Nat → List Nat) (G : Nat → Int) (SW : Nat → List Nat) (SG : Nat → Int) (M2 : Nat → Int) (n : Nat) (z12 z13 z14 z15 z16 z21 z26 z31 z36 z41 z56 z60 z64 z68 z72 z75 : Nat → Nat) : HT := .go [1] (.cut (cStrAdd ⟨⟨PG 4 2⟩⟩ ⟨⟨[10]⟩⟩ (z75 2) (z75 1) ⟨⟨PG 4 3⟩⟩) fun z76 => .go [0,115,115,57,115,113,0,113,113,113,113,121,117,117,58,1] (.cut (cJoin 115 [] (z56 1) (z56 0 + 4) [PG 0 3, PG 1 3, PG 2 3, PG 3 3, PG 4 3] [z60 2, z64 2, z68 2, z72 2, z76 2] 5 (D.X 0)) fun z77 => .go [0,1] (.cut (cRead P D (z77 2) 5) fun z78 => .go (cond b2 [15,7,15,4,4,0,4,123,0,123,0,123,123,123,4,123,61,127,63,127,14,14,14,0,14,14,0,125,125,62,125,123,0,123,123,123,4,123,61,127,63,127,24,24,24,0,24,24,0,125,125,62,125,123,0,123,123,123,4,123,61,127,63,127,34,34,34,0,34,34,0,125,125,62,125,123,0,123,123,123,4,123,61,127,63,127,44,44,44,0,44,44,0,125,125,62,125,123,0,123,123,123,4,123,61,127,63,127,54,54,54,0,54,54,0,125,125,62,125,123,0,123,123,123,4,123,61,131,127,127,63,11,0,73,73,73,0,73,133,133,133,133,133,73,11,0,73,73,73,0,73,73,1] [15,7,15,4,4,0,4,123,0,123,123,0,123,123,123,0,123,123,123,4,123,61,127,63,127,14,14,14,0,14,14,0,125,125,62,125,123,0,123,123,123,4,123,61,127,63,127,24,24,24,0,24,24,0,125,125,62,125,123,0,123,123,123,4,123,61,127,63,127,34,34,34,0,34,34,0,125,125,62,125,123,0,123,123,123,4,123,61,127,63,127,44,44,44,0,44,44,0,125,125,62,125,123,0,123,123,123,4,123,61,127,63,127,54,54,54,0,54,54,0,125,125,62,125,123,0,123,123,123,4,123,61,131,127,127,63,11,0,73,73,73,0,73,133,133,133,133,133,73,11,0,73,73,73,0,73,73,1]) (.cut (cRstrip ⟨⟨116 :: NM 4⟩⟩ (z41 2) ⟨⟨LT⟩⟩) fun z79 => (H_law5k20 P b2 LD D LT NM K W G SW SG M2 n z12 z13 z14 z15 z16 z21 z26 z31 z36 z78 z79)))))
noncomputable def H_law5k18 (P : Params) (b2 : Bool) (LD : Nat → List Nat) (IW : Nat → Nat) (D : Rd) (LT : List Nat) (NM WH : Nat → List Nat) (PG : Nat → Nat → List Nat) (TK : List Value → Nat → Nat) (K : Nat → Nat → Int) (W : Nat → List Nat) (G : Nat → Int) (SW : Nat → List Nat) (SG : Nat → Int) (M2 : Nat → Int) (n : Nat) (z12 z13 z14 z15 z16 z21 z26 z31 z36 z41 z53 z56 z60 z64 z68 z71 : Nat → Nat) : HT := .go [1] (.cut (cStrAdd ⟨⟨PG 3 2⟩⟩ ⟨⟨[10]⟩⟩ (z71 2) (z71 1) ⟨⟨PG 3 3⟩⟩) fun z72 => .go [0,115,115,57,115,113,0,113,113,113,113,113,56,113,56,117,58,9,117,61,61,61,0,61,61,11,117,73,73,73,0,73,73,1] (.cut (cStrAdd ⟨⟨LD 4⟩⟩ ⟨⟨116 :: NM 4⟩⟩ (z16 2) (z41 2) ⟨⟨PG 4 0⟩⟩) fun z73 => .go [1] (.cut (cStrAdd ⟨⟨PG 4 0⟩⟩ ⟨⟨[10]⟩⟩ (z73 2) (z73 1) ⟨⟨PG 4 1⟩⟩) fun z74 => .go [13,117,93,93,93,0,93,93,1] (.cut (cStrAdd ⟨⟨PG 4 1⟩⟩ ⟨⟨WH 4⟩⟩ (z74 2) (TK [.str ⟨⟨[]⟩⟩ (z53 1 + 1), .str ⟨⟨[32]⟩⟩ (z53 1 + 2), .str ⟨⟨[9]⟩⟩ (z53 1 + 3), .str ⟨⟨[32,9]⟩⟩ (z53 1 + 4)] (IW 4)) ⟨⟨PG 4 2⟩⟩) fun z75 => (H_law5k19 P b2 LD D LT NM PG K W G SW SG M2 n z12 z13 z14 z15 z16 z21 z26 z31 z36 z41 z56 z60 z64 z68 z72 z75)))))
noncomputable def H_law5k17 (P : Params) (b2 : Bool) (LD : Nat → List Nat) (IW : Nat → Nat) (D : Rd) (LT : List Nat) (NM WH : Nat → List Nat) (PG : Nat → Nat → List Nat) (TK : List Value → Nat → Nat) (K : Nat → Nat → Int) (W : Nat → List Nat) (G : Nat → Int) (SW : Nat → List Nat) (SG : Nat → Int) (M2 : Nat → Int) (n : Nat) (z12 z13 z14 z15 z16 z21 z26 z31 z36 z41 z50 z53 z56 z60 z64 z67 : Nat → Nat) : HT := .go [1] (.cut (cStrAdd ⟨⟨PG 2 2⟩⟩ ⟨⟨[10]⟩⟩ (z67 2) (z67 1) ⟨⟨PG 2 3⟩⟩) fun z68 => .go [0,115,115,57,115,113,0,113,113,113,113,113,56,113,56,117,58,9,117,61,61,61,0,61,61,11,117,73,73,73,0,73,73,1] (.cut (cStrAdd ⟨⟨LD 3⟩⟩ ⟨⟨115 :: NM 3⟩⟩ (z15 2) (z36 2) ⟨⟨PG 3 0⟩⟩) fun z69 => .go [1] (.cut (cStrAdd ⟨⟨PG 3 0⟩⟩ ⟨⟨[10]⟩⟩ (z69 2) (z69 1) ⟨⟨PG 3 1⟩⟩) fun z70 => .go [13,117,93,93,93,0,93,93,1] (.cut (cStrAdd ⟨⟨PG 3 1⟩⟩ ⟨⟨WH 3⟩⟩ (z70 2) (TK [.str ⟨⟨[]⟩⟩ (z50 1 + 1), .str ⟨⟨[32]⟩⟩ (z50 1 + 2), .str ⟨⟨[9]⟩⟩ (z50 1 + 3), .str ⟨⟨[32,9]⟩⟩ (z50 1 + 4)] (IW 3)) ⟨⟨PG 3 2⟩⟩) fun z71 => (H_law5k18 P b2 LD IW D LT NM WH PG TK K W G SW SG M2 n z12 z13 z14 z15 z16 z21 z26 z31 z36 z41 z53 z56 z60 z64 z68 z71)))))
noncomputable def H_law5k16 (P : Params) (b2 : Bool) (LD : Nat → List Nat) (IW : Nat → Nat) (D : Rd) (LT : List Nat) (NM WH : Nat → List Nat) (PG : Nat → Nat → List Nat) (TK : List Value → Nat → Nat) (K : Nat → Nat → Int) (W : Nat → List Nat) (G : Nat → Int) (SW : Nat → List Nat) (SG : Nat → Int) (M2 : Nat → Int) (n : Nat) (z12 z13 z14 z15 z16 z21 z26 z31 z36 z41 z47 z50 z53 z56 z60 z63 : Nat → Nat) : HT := .go [1] (.cut (cStrAdd ⟨⟨PG 1 2⟩⟩ ⟨⟨[10]⟩⟩ (z63 2) (z63 1) ⟨⟨PG 1 3⟩⟩) fun z64 => .go [0,115,115,57,115,113,0,113,113,113,113,113,56,113,56,117,58,9,117,61,61,61,0,61,61,11,117,73,73,73,0,73,73,1] (.cut (cStrAdd ⟨⟨LD 2⟩⟩ ⟨⟨114 :: NM 2⟩⟩ (z14 2) (z31 2) ⟨⟨PG 2 0⟩⟩) fun z65 => .go [1] (.cut (cStrAdd ⟨⟨PG 2 0⟩⟩ ⟨⟨[10]⟩⟩ (z65 2) (z65 1) ⟨⟨PG 2 1⟩⟩) fun z66 => .go [13,117,93,93,93,0,93,93,1] (.cut (cStrAdd ⟨⟨PG 2 1⟩⟩ ⟨⟨WH 2⟩⟩ (z66 2) (TK [.str ⟨⟨[]⟩⟩ (z47 1 + 1), .str ⟨⟨[32]⟩⟩ (z47 1 + 2), .str ⟨⟨[9]⟩⟩ (z47 1 + 3), .str ⟨⟨[32,9]⟩⟩ (z47 1 + 4)] (IW 2)) ⟨⟨PG 2 2⟩⟩) fun z67 => (H_law5k17 P b2 LD IW D LT NM WH PG TK K W G SW SG M2 n z12 z13 z14 z15 z16 z21 z26 z31 z36 z41 z50 z53 z56 z60 z64 z67)))))
noncomputable def H_law5k15 (P : Params) (b2 : Bool) (LD : Nat → List Nat) (IW : Nat → Nat) (D : Rd) (LT : List Nat) (NM WH : Nat → List Nat) (PG : Nat → Nat → List Nat) (TK : List Value → Nat → Nat) (K : Nat → Nat → Int) (W : Nat → List Nat) (G : Nat → Int) (SW : Nat → List Nat) (SG : Nat → Int) (M2 : Nat → Int) (n : Nat) (z12 z13 z14 z15 z16 z21 z26 z31 z36 z41 z44 z47 z50 z53 z56 z59 : Nat → Nat) : HT := .go [1] (.cut (cStrAdd ⟨⟨PG 0 2⟩⟩ ⟨⟨[10]⟩⟩ (z59 2) (z59 1) ⟨⟨PG 0 3⟩⟩) fun z60 => .go [0,115,115,57,115,113,0,113,113,113,113,113,56,113,56,117,58,9,117,61,61,61,0,61,61,11,117,73,73,73,0,73,73,1] (.cut (cStrAdd ⟨⟨LD 1⟩⟩ ⟨⟨113 :: NM 1⟩⟩ (z13 2) (z26 2) ⟨⟨PG 1 0⟩⟩) fun z61 => .go [1] (.cut (cStrAdd ⟨⟨PG 1 0⟩⟩ ⟨⟨[10]⟩⟩ (z61 2) (z61 1) ⟨⟨PG 1 1⟩⟩) fun z62 => .go [13,117,93,93,93,0,93,93,1] (.cut (cStrAdd ⟨⟨PG 1 1⟩⟩ ⟨⟨WH 1⟩⟩ (z62 2) (TK [.str ⟨⟨[]⟩⟩ (z44 1 + 1), .str ⟨⟨[32]⟩⟩ (z44 1 + 2), .str ⟨⟨[9]⟩⟩ (z44 1 + 3), .str ⟨⟨[32,9]⟩⟩ (z44 1 + 4)] (IW 1)) ⟨⟨PG 1 2⟩⟩) fun z63 => (H_law5k16 P b2 LD IW D LT NM WH PG TK K W G SW SG M2 n z12 z13 z14 z15 z16 z21 z26 z31 z36 z41 z47 z50 z53 z56 z60 z63)))))
noncomputable def H_law5k14 (P : Params) (b2 : Bool) (LD : Nat → List Nat) (IW : Nat → Nat) (D : Rd) (LT : List Nat) (NM WH : Nat → List Nat) (PG : Nat → Nat → List Nat) (TK : List Value → Nat → Nat) (K : Nat → Nat → Int) (W : Nat → List Nat) (G : Nat → Int) (SW : Nat → List Nat) (SG : Nat → Int) (M2 : Nat → Int) (n : Nat) (z12 z13 z14 z15 z16 z21 z26 z31 z36 z41 z44 z47 z50 z53 z55 : Nat → Nat) : HT := .go [105,105,105,1] (.cut (cGet 105 (z53 0) ([.str ⟨⟨[]⟩⟩ (z53 1 + 1), .str ⟨⟨[32]⟩⟩ (z53 1 + 2), .str ⟨⟨[9]⟩⟩ (z53 1 + 3), .str ⟨⟨[32,9]⟩⟩ (z53 1 + 4)]) 0 (IW 4 : Nat) (z55 2) (.str ⟨⟨WH 4⟩⟩ (TK ([.str ⟨⟨[]⟩⟩ (z53 1 + 1), .str ⟨⟨[32]⟩⟩ (z53 1 + 2), .str ⟨⟨[9]⟩⟩ (z53 1 + 3), .str ⟨⟨[32,9]⟩⟩ (z53 1 + 4)]) (IW 4)))) fun z56 => .go (cond b2 [0,0,93,93,46,93,91,0,91,91,91,31,91,45,109,95,95,47,13,6,0,0,0,0,0,5,0,25,0,25,25,0,0,111,111,0,111,111,111,111,0,111,111,111,111,113,0,113,0,113,113,113,113,113,56,113,56,117,58,9,117,61,61,61,0,61,61,11,117,73,73,73,0,73,73,1] [0,0,93,93,46,93,91,0,91,91,91,31,91,45,109,95,95,47,13,6,0,0,0,0,0,5,0,25,0,25,25,0,0,111,111,0,111,111,111,111,0,111,111,111,111,113,0,113,113,0,113,113,113,0,113,113,113,113,113,56,113,56,117,58,9,117,61,61,61,0,61,61,11,117,73,73,73,0,73,73,1]) (.cut (cStrAdd ⟨⟨LD 0⟩⟩ ⟨⟨112 :: NM 0⟩⟩ (z12 2) (z21 2) ⟨⟨PG 0 0⟩⟩) fun z57 => .go [1] (.cut (cStrAdd ⟨⟨PG 0 0⟩⟩ ⟨⟨[10]⟩⟩ (z57 2) (z57 1) ⟨⟨PG 0 1⟩⟩) fun z58 => .go [13,117,93,93,93,0,93,93,1] (.cut (cStrAdd ⟨⟨PG 0 1⟩⟩ ⟨⟨WH 0⟩⟩ (z58 2) (TK [.str ⟨⟨[]⟩⟩ (z41 1 + 1), .str ⟨⟨[32]⟩⟩ (z41 1 + 2), .str ⟨⟨[9]⟩⟩ (z41 1 + 3), .str ⟨⟨[32,9]⟩⟩ (z41 1 + 4)] (IW 0)) ⟨⟨PG 0 2⟩⟩) fun z59 => (H_law5k15 P b2 LD IW D LT NM WH PG TK K W G SW SG M2 n z12 z13 z14 z15 z16 z21 z26 z31 z36 z41 z44 z47 z50 z53 z56 z59)))))
noncomputable def H_law5k13 (P : Params) (b2 : Bool) (Z : Nat → Int) (LD : Nat → List Nat) (DW : Nat → Int) (IW : Nat → Nat) (D : Rd) (LT : List Nat) (NM WH : Nat → List Nat) (PG : Nat → Nat → List Nat) (TK : List Value → Nat → Nat) (K : Nat → Nat → Int) (W : Nat → List Nat) (G : Nat → Int) (SW : Nat → List Nat) (SG : Nat → Int) (M2 : Nat → Int) (n : Nat) (z11 z12 z13 z14 z15 z16 z21 z26 z31 z36 z41 z44 z47 z50 z51 : Nat → Nat) : HT := .go [1] (.cut (cMod (DW 3) 4 (z51 2) (z51 1) (IW 3 : Nat)) fun z52 => .go [103,103,103,1] (.cut (cGet 103 (z50 0) ([.str ⟨⟨[]⟩⟩ (z50 1 + 1), .str ⟨⟨[32]⟩⟩ (z50 1 + 2), .str ⟨⟨[9]⟩⟩ (z50 1 + 3), .str ⟨⟨[32,9]⟩⟩ (z50 1 + 4)]) 0 (IW 3 : Nat) (z52 2) (.str ⟨⟨WH 3⟩⟩ (TK ([.str ⟨⟨[]⟩⟩ (z50 1 + 1), .str ⟨⟨[32]⟩⟩ (z50 1 + 2), .str ⟨⟨[9]⟩⟩ (z50 1 + 3), .str ⟨⟨[32,9]⟩⟩ (z50 1 + 4)]) (IW 3)))) fun z53 => .go [0,0,93,93,46,93,91,0,91,91,91,31,91,45,95,47,95,1] (.cut (cFdiv (10 + Z 4) 81 (z11 1) (z53 1 + 5) (DW 4)) fun z54 => .go [1] (.cut (cMod (DW 4) 4 (z54 2) (z54 1) (IW 4 : Nat)) fun z55 => (H_law5k14 P b2 LD IW D LT NM WH PG TK K W G SW SG M2 n z12 z13 z14 z15 z16 z21 z26 z31 z36 z41 z44 z47 z50 z53 z55)))))
noncomputable def H_law5k12 (P : Params) (b2 : Bool) (Z : Nat → Int) (LD : Nat → List Nat) (DW : Nat → Int) (IW : Nat → Nat) (D : Rd) (LT : List Nat) (NM WH : Nat → List Nat) (PG : Nat → Nat → List Nat) (TK : List Value → Nat → Nat) (K : Nat → Nat → Int) (W : Nat → List Nat) (G : Nat → Int) (SW : Nat → List Nat) (SG : Nat → Int) (M2 : Nat → Int) (n : Nat) (z7 z9 z11 z12 z13 z14 z15 z16 z21 z26 z31 z36 z41 z44 z47 : Nat → Nat) : HT := .go [0,0,93,93,46,93,91,0,91,91,91,31,91,45,95,47,95,1] (.cut (cFdiv (244 + Z 2) 81 (z7 1) (z47 1 + 5) (DW 2)) fun z48 => .go [1] (.cut (cMod (DW 2) 4 (z48 2) (z48 1) (IW 2 : Nat)) fun z49 => .go [101,101,101,1] (.cut (cGet 101 (z47 0) ([.str ⟨⟨[]⟩⟩ (z47 1 + 1), .str ⟨⟨[32]⟩⟩ (z47 1 + 2), .str ⟨⟨[9]⟩⟩ (z47 1 + 3), .str ⟨⟨[32,9]⟩⟩ (z47 1 + 4)]) 0 (IW 2 : Nat) (z49 2) (.str ⟨⟨WH 2⟩⟩ (TK ([.str ⟨⟨[]⟩⟩ (z47 1 + 1), .str ⟨⟨[32]⟩⟩ (z47 1 + 2), .str ⟨⟨[9]⟩⟩ (z47 1 + 3), .str ⟨⟨[32,9]⟩⟩ (z47 1 + 4)]) (IW 2)))) fun z50 => .go [0,0,93,93,46,93,91,0,91,91,91,31,91,45,95,47,95,1] (.cut (cFdiv (166 + Z 3) 81 (z9 1) (z50 1 + 5) (DW 3)) fun z51 => (H_law5k13 P b2 Z LD DW IW D LT NM WH PG TK K W G SW SG M2 n z11 z12 z13 z14 z15 z16 z21 z26 z31 z36 z41 z44 z47 z50 z51)))))
noncomputable def H_law5k11 (P : Params) (b2 : Bool) (Z : Nat → Int) (LD : Nat → List Nat) (DW : Nat → Int) (IW : Nat → Nat) (D : Rd) (LT : List Nat) (NM WH : Nat → List Nat) (PG : Nat → Nat → List Nat) (TK : List Value → Nat → Nat) (K : Nat → Nat → Int) (W : Nat → List Nat) (G : Nat → Int) (SW : Nat → List Nat) (SG : Nat → Int) (M2 : Nat → Int) (n : Nat) (z5 z7 z9 z11 z12 z13 z14 z15 z16 z21 z26 z31 z36 z41 z43 : Nat → Nat) : HT := .go [97,97,97,1] (.cut (cGet 97 (z41 0 + 5) ([.str ⟨⟨[]⟩⟩ (z41 1 + 1), .str ⟨⟨[32]⟩⟩ (z41 1 + 2), .str ⟨⟨[9]⟩⟩ (z41 1 + 3), .str ⟨⟨[32,9]⟩⟩ (z41 1 + 4)]) 0 (IW 0 : Nat) (z43 2) (.str ⟨⟨WH 0⟩⟩ (TK ([.str ⟨⟨[]⟩⟩ (z41 1 + 1), .str ⟨⟨[32]⟩⟩ (z41 1 + 2), .str ⟨⟨[9]⟩⟩ (z41 1 + 3), .str ⟨⟨[32,9]⟩⟩ (z41 1 + 4)]) (IW 0)))) fun z44 => .go [0,0,93,93,46,93,91,0,91,91,91,31,91,45,95,47,95,1] (.cut (cFdiv (654 + Z 1) 81 (z5 1) (z44 1 + 5) (DW 1)) fun z45 => .go [1] (.cut (cMod (DW 1) 4 (z45 2) (z45 1) (IW 1 : Nat)) fun z46 => .go [99,99,99,1] (.cut (cGet 99 (z44 0) ([.str ⟨⟨[]⟩⟩ (z44 1 + 1), .str ⟨⟨[32]⟩⟩ (z44 1 + 2), .str ⟨⟨[9]⟩⟩ (z44 1 + 3), .str ⟨⟨[32,9]⟩⟩ (z44 1 + 4)]) 0 (IW 1 : Nat) (z46 2) (.str ⟨⟨WH 1⟩⟩ (TK ([.str ⟨⟨[]⟩⟩ (z44 1 + 1), .str ⟨⟨[32]⟩⟩ (z44 1 + 2), .str ⟨⟨[9]⟩⟩ (z44 1 + 3), .str ⟨⟨[32,9]⟩⟩ (z44 1 + 4)]) (IW 1)))) fun z47 => (H_law5k12 P b2 Z LD DW IW D LT NM WH PG TK K W G SW SG M2 n z7 z9 z11 z12 z13 z14 z15 z16 z21 z26 z31 z36 z41 z44 z47)))))
noncomputable def H_law5k10 (P : Params) (b2 : Bool) (Z : Nat → Int) (LD : Nat → List Nat) (DW : Nat → Int) (IX IW : Nat → Nat) (D : Rd) (LT : List Nat) (NM WH : Nat → List Nat) (PG : Nat → Nat → List Nat) (TK : List Value → Nat → Nat) (K : Nat → Nat → Int) (W : Nat → List Nat) (G : Nat → Int) (SW : Nat → List Nat) (SG : Nat → Int) (M2 : Nat → Int) (n : Nat) (z3 z5 z7 z9 z11 z12 z13 z14 z15 z16 z21 z26 z31 z36 z37 z39 : Nat → Nat) : HT := .go [85,85,85,1] (.cut (cGet 85 (z37 0) ([.str ⟨⟨[]⟩⟩ (z37 1), .str ⟨⟨[32,9]⟩⟩ (z37 1 + 1), .str ⟨⟨[58,32,97,9,98,32]⟩⟩ (z37 1 + 2)]) 0 (IX 4 : Nat) (z39 2) (.str ⟨⟨NM 4⟩⟩ (TK ([.str ⟨⟨[]⟩⟩ (z37 1), .str ⟨⟨[32,9]⟩⟩ (z37 1 + 1), .str ⟨⟨[58,32,97,9,98,32]⟩⟩ (z37 1 + 2)]) (IX 4)))) fun z40 => .go [0,1] (.cut (cStrAdd ⟨⟨[116]⟩⟩ ⟨⟨NM 4⟩⟩ (z37 2) (TK [.str ⟨⟨[]⟩⟩ (z37 1), .str ⟨⟨[32,9]⟩⟩ (z37 1 + 1), .str ⟨⟨[58,32,97,9,98,32]⟩⟩ (z37 1 + 2)] (IX 4)) ⟨⟨116 :: NM 4⟩⟩) fun z41 => .go (cond b2 [0,73,73,36,73,71,0,71,71,71,71,89,75,75,37,11,5,7,31,31,0,31,91,0,91,0,91,91,91,31,91,45,95,47,95,1] [0,73,73,36,73,71,0,71,71,71,71,89,75,75,37,11,5,7,31,31,0,31,91,0,91,91,0,91,91,91,0,91,91,91,31,91,45,95,47,95,1]) (.cut (cFdiv (405 + Z 0) 81 (z3 1) (z41 1 + 5) (DW 0)) fun z42 => .go [1] (.cut (cMod (DW 0) 4 (z42 2) (z42 1) (IW 0 : Nat)) fun z43 => (H_law5k11 P b2 Z LD DW IW D LT NM WH PG TK K W G SW SG M2 n z5 z7 z9 z11 z12 z13 z14 z15 z16 z21 z26 z31 z36 z41 z43)))))
noncomputable def H_law5k9 (P : Params) (b2 : Bool) (Z : Nat → Int) (LD : Nat → List Nat) (DV DW : Nat → Int) (IX IW : Nat → Nat) (D : Rd) (LT : List Nat) (NM WH : Nat → List Nat) (PG : Nat → Nat → List Nat) (TK : List Value → Nat → Nat) (K : Nat → Nat → Int) (W : Nat → List Nat) (G : Nat → Int) (SW : Nat → List Nat) (SG : Nat → Int) (M2 : Nat → Int) (n : Nat) (z3 z5 z7 z9 z11 z12 z13 z14 z15 z16 z21 z26 z31 z32 : Nat → Nat) : HT := .go [0,1] (.cut (cStrAdd ⟨⟨[115]⟩⟩ ⟨⟨NM 3⟩⟩ (z32 2) (TK [.str ⟨⟨[]⟩⟩ (z32 1), .str ⟨⟨[32,9]⟩⟩ (z32 1 + 1), .str ⟨⟨[58,32,97,9,98,32]⟩⟩ (z32 1 + 2)] (IX 3)) ⟨⟨115 :: NM 3⟩⟩) fun z36 => .go [0,73,73,36,73,71,0,71,71,71,71,71,35,71,35,75,37,75,1] (.cut (cStrAt ⟨⟨[112,113,114,115,116]⟩⟩ (z36 1 + 2) (0 + 1 + 1 + 1 + 1) (z36 1) 116) fun z37 => .go [7,75,31,31,31,0,31,31,1] (.cut (cFdiv (10 + Z 4) 324 (z11 1) (z37 1 + 3) (DV 4)) fun z38 => .go [1] (.cut (cMod (DV 4) 3 (z38 2) (z38 1) (IX 4 : Nat)) fun z39 => (H_law5k10 P b2 Z LD DW IX IW D LT NM WH PG TK K W G SW SG M2 n z3 z5 z7 z9 z11 z12 z13 z14 z15 z16 z21 z26 z31 z36 z37 z39)))))
noncomputable def H_law5k8 (P : Params) (b2 : Bool) (Z : Nat → Int) (LD : Nat → List Nat) (DV DW : Nat → Int) (IX IW : Nat → Nat) (D : Rd) (LT : List Nat) (NM WH : Nat → List Nat) (PG : Nat → Nat → List Nat) (TK : List Value → Nat → Nat) (K : Nat → Nat → Int) (W : Nat → List Nat) (G : Nat → Int) (SW : Nat → List Nat) (SG : Nat → Int) (M2 : Nat → Int) (n : Nat) (z3 z5 z7 z9 z11 z12 z13 z14 z15 z16 z21 z26 z31 : Nat → Nat) : HT := .go [0,73,73,36,73,71,0,71,71,71,71,71,35,71,35,75,37,75,1] (.cut (cStrAt ⟨⟨[112,113,114,115,116]⟩⟩ (z31 1 + 2) (0 + 1 + 1 + 1) (z31 1) 115) fun z32 => .go [7,75,31,31,31,0,31,31,1] (.cut (cFdiv (166 + Z 3) 324 (z9 1) (z32 1 + 3) (DV 3)) fun z33 => .go [1] (.cut (cMod (DV 3) 3 (z33 2) (z33 1) (IX 3 : Nat)) fun z34 => .go [83,83,83,1] (.cut (cGet 83 (z32 0) ([.str ⟨⟨[]⟩⟩ (z32 1), .str ⟨⟨[32,9]⟩⟩ (z32 1 + 1), .str ⟨⟨[58,32,97,9,98,32]⟩⟩ (z32 1 + 2)]) 0 (IX 3 : Nat) (z34 2) (.str ⟨⟨NM 3⟩⟩ (TK ([.str ⟨⟨[]⟩⟩ (z32 1), .str ⟨⟨[32,9]⟩⟩ (z32 1 + 1), .str ⟨⟨[58,32,97,9,98,32]⟩⟩ (z32 1 + 2)]) (IX 3)))) fun z35 => (H_law5k9 P b2 Z LD DV DW IX IW D LT NM WH PG TK K W G SW SG M2 n z3 z5 z7 z9 z11 z12 z13 z14 z15 z16 z21 z26 z31 z32)))))
noncomputable def H_law5k7 (P : Params) (b2 : Bool) (Z : Nat → Int) (LD : Nat → List Nat) (DV DW : Nat → Int) (IX IW : Nat → Nat) (D : Rd) (LT : List Nat) (NM WH : Nat → List Nat) (PG : Nat → Nat → List Nat) (TK : List Value → Nat → Nat) (K : Nat → Nat → Int) (W : Nat → List Nat) (G : Nat → Int) (SW : Nat → List Nat) (SG : Nat → Int) (M2 : Nat → Int) (n : Nat) (z3 z5 z7 z9 z11 z12 z13 z14 z15 z16 z21 z26 z27 : Nat → Nat) : HT := .go [7,75,31,31,31,0,31,31,1] (.cut (cFdiv (244 + Z 2) 324 (z7 1) (z27 1 + 3) (DV 2)) fun z28 => .go [1] (.cut (cMod (DV 2) 3 (z28 2) (z28 1) (IX 2 : Nat)) fun z29 => .go [81,81,81,1] (.cut (cGet 81 (z27 0) ([.str ⟨⟨[]⟩⟩ (z27 1), .str ⟨⟨[32,9]⟩⟩ (z27 1 + 1), .str ⟨⟨[58,32,97,9,98,32]⟩⟩ (z27 1 + 2)]) 0 (IX 2 : Nat) (z29 2) (.str ⟨⟨NM 2⟩⟩ (TK ([.str ⟨⟨[]⟩⟩ (z27 1), .str ⟨⟨[32,9]⟩⟩ (z27 1 + 1), .str ⟨⟨[58,32,97,9,98,32]⟩⟩ (z27 1 + 2)]) (IX 2)))) fun z30 => .go [0,1] (.cut (cStrAdd ⟨⟨[114]⟩⟩ ⟨⟨NM 2⟩⟩ (z27 2) (TK [.str ⟨⟨[]⟩⟩ (z27 1), .str ⟨⟨[32,9]⟩⟩ (z27 1 + 1), .str ⟨⟨[58,32,97,9,98,32]⟩⟩ (z27 1 + 2)] (IX 2)) ⟨⟨114 :: NM 2⟩⟩) fun z31 => (H_law5k8 P b2 Z LD DV DW IX IW D LT NM WH PG TK K W G SW SG M2 n z3 z5 z7 z9 z11 z12 z13 z14 z15 z16 z21 z26 z31)))))
noncomputable def H_law5k6 (P : Params) (b2 : Bool) (Z : Nat → Int) (LD : Nat → List Nat) (DV DW : Nat → Int) (IX IW : Nat → Nat) (D : Rd) (LT : List Nat) (NM WH : Nat → List Nat) (PG : Nat → Nat → List Nat) (TK : List Value → Nat → Nat) (K : Nat → Nat → Int) (W : Nat → List Nat) (G : Nat → Int) (SW : Nat → List Nat) (SG : Nat → Int) (M2 : Nat → Int) (n : Nat) (z3 z5 z7 z9 z11 z12 z13 z14 z15 z16 z21 z22 z23 : Nat → Nat) : HT := .go [1] (.cut (cMod (DV 1) 3 (z23 2) (z23 1) (IX 1 : Nat)) fun z24 => .go [79,79,79,1] (.cut (cGet 79 (z22 0) ([.str ⟨⟨[]⟩⟩ (z22 1), .str ⟨⟨[32,9]⟩⟩ (z22 1 + 1), .str ⟨⟨[58,32,97,9,98,32]⟩⟩ (z22 1 + 2)]) 0 (IX 1 : Nat) (z24 2) (.str ⟨⟨NM 1⟩⟩ (TK ([.str ⟨⟨[]⟩⟩ (z22 1), .str ⟨⟨[32,9]⟩⟩ (z22 1 + 1), .str ⟨⟨[58,32,97,9,98,32]⟩⟩ (z22 1 + 2)]) (IX 1)))) fun z25 => .go [0,1] (.cut (cStrAdd ⟨⟨[113]⟩⟩ ⟨⟨NM 1⟩⟩ (z22 2) (TK [.str ⟨⟨[]⟩⟩ (z22 1), .str ⟨⟨[32,9]⟩⟩ (z22 1 + 1), .str ⟨⟨[58,32,97,9,98,32]⟩⟩ (z22 1 + 2)] (IX 1)) ⟨⟨113 :: NM 1⟩⟩) fun z26 => .go [0,73,73,36,73,71,0,71,71,71,71,71,35,71,35,75,37,75,1] (.cut (cStrAt ⟨⟨[112,113,114,115,116]⟩⟩ (z26 1 + 2) (0 + 1 + 1) (z26 1) 114) fun z27 => (H_law5k7 P b2 Z LD DV DW IX IW D LT NM WH PG TK K W G SW SG M2 n z3 z5 z7 z9 z11 z12 z13 z14 z15 z16 z21 z26 z27)))))
noncomputable def H_law5k5 (P : Params) (b2 : Bool) (Z : Nat → Int) (LD : Nat → List Nat) (DV DW : Nat → Int) (IX IW : Nat → Nat) (D : Rd) (LT : List Nat) (NM WH : Nat → List Nat) (PG : Nat → Nat → List Nat) (TK : List Value → Nat → Nat) (K : Nat → Nat → Int) (W : Nat → List Nat) (G : Nat → Int) (SW : Nat → List Nat) (SG : Nat → Int) (M2 : Nat → Int) (n : Nat) (z3 z5 z7 z9 z11 z12 z13 z14 z15 z16 z17 z19 : Nat → Nat) : HT := .go [77,77,77,1] (.cut (cGet 77 (z17 0) ([.str ⟨⟨[]⟩⟩ (z17 1), .str ⟨⟨[32,9]⟩⟩ (z17 1 + 1), .str ⟨⟨[58,32,97,9,98,32]⟩⟩ (z17 1 + 2)]) 0 (IX 0 : Nat) (z19 2) (.str ⟨⟨NM 0⟩⟩ (TK ([.str ⟨⟨[]⟩⟩ (z17 1), .str ⟨⟨[32,9]⟩⟩ (z17 1 + 1), .str ⟨⟨[58,32,97,9,98,32]⟩⟩ (z17 1 + 2)]) (IX 0)))) fun z20 => .go [0,1] (.cut (cStrAdd ⟨⟨[112]⟩⟩ ⟨⟨NM 0⟩⟩ (z17 2) (TK [.str ⟨⟨[]⟩⟩ (z17 1), .str ⟨⟨[32,9]⟩⟩ (z17 1 + 1), .str ⟨⟨[58,32,97,9,98,32]⟩⟩ (z17 1 + 2)] (IX 0)) ⟨⟨112 :: NM 0⟩⟩) fun z21 => .go [0,73,73,36,73,71,0,71,71,71,71,71,35,71,35,75,37,75,1] (.cut (cStrAt ⟨⟨[112,113,114,115,116]⟩⟩ (z21 1 + 2) (0 + 1) (z21 1) 113) fun z22 => .go [7,75,31,31,31,0,31,31,1] (.cut (cFdiv (654 + Z 1) 324 (z5 1) (z22 1 + 3) (DV 1)) fun z23 => (H_law5k6 P b2 Z LD DV DW IX IW D LT NM WH PG TK K W G SW SG M2 n z3 z5 z7 z9 z11 z12 z13 z14 z15 z16 z21 z22 z23)))))
noncomputable def H_law5k4 (P : Params) (b2 : Bool) (Z : Nat → Int) (LD : Nat → List Nat) (DV DW : Nat → Int) (IX IW : Nat → Nat) (D : Rd) (LT : List Nat) (NM WH : Nat → List Nat) (PG : Nat → Nat → List Nat) (TK : List Value → Nat → Nat) (K : Nat → Nat → Int) (W : Nat → List Nat) (G : Nat → Int) (SW : Nat → List Nat) (SG : Nat → Int) (M2 : Nat → Int) (n : Nat) (z3 z5 z7 z9 z11 z12 z13 z14 z15 : Nat → Nat) : HT := .go [0,61,61,30,61,59,0,59,59,59,31,59,29,63,31,0,63,0,1] (.cut (cLead (10 + Z 4) (z11 1) ⟨⟨LD 4⟩⟩) fun z16 => .go (cond b2 [0,61,61,30,61,59,0,59,59,59,31,59,29,67,63,63,31,9,4,0,0,0,0,5,0,25,0,25,25,0,0,69,69,0,69,69,69,69,0,69,69,69,69,71,0,71,0,71,71,71,71,71,35,71,35,75,37,75,1] [0,61,61,30,61,59,0,59,59,59,31,59,29,67,63,63,31,9,4,0,0,0,0,5,0,25,0,25,25,0,0,69,69,0,69,69,69,69,0,69,69,69,69,71,0,71,71,0,71,71,71,0,71,71,71,71,71,35,71,35,75,37,75,1]) (.cut (cStrAt ⟨⟨[112,113,114,115,116]⟩⟩ (z16 1 + 6) 0 (z16 1 + 4) 112) fun z17 => .go [7,75,31,31,31,0,31,31,1] (.cut (cFdiv (405 + Z 0) 324 (z3 1) (z17 1 + 3) (DV 0)) fun z18 => .go [1] (.cut (cMod (DV 0) 3 (z18 2) (z18 1) (IX 0 : Nat)) fun z19 => (H_law5k5 P b2 Z LD DV DW IX IW D LT NM WH PG TK K W G SW SG M2 n z3 z5 z7 z9 z11 z12 z13 z14 z15 z16 z17 z19)))))
noncomputable def H_law5k3 (P : Params) (b2 : Bool) (Z : Nat → Int) (LD : Nat → List Nat) (DV DW : Nat → Int) (IX IW : Nat → Nat) (D : Rd) (LT : List Nat) (NM WH : Nat → List Nat) (PG : Nat → Nat → List Nat) (TK : List Value → Nat → Nat) (K : Nat → Nat → Int) (W : Nat → List Nat) (G : Nat → Int) (SW : Nat → List Nat) (SG : Nat → Int) (M2 : Nat → Int) (n : Nat) (z3 z5 z7 z9 z11 : Nat → Nat) : HT := .go (cond b2 [0,0,31,31,15,31,29,0,29,29,29,29,57,33,33,16,7,3,7,31,31,0,31,59,0,59,0,59,59,59,31,59,29,63,31,0,63,0,1] [0,0,31,31,15,31,29,0,29,29,29,29,57,33,33,16,7,3,7,31,31,0,31,59,0,59,59,0,59,59,59,0,59,59,59,31,59,29,63,31,0,63,0,1]) (.cut (cLead (405 + Z 0) (z3 1) ⟨⟨LD 0⟩⟩) fun z12 => .go [0,61,61,30,61,59,0,59,59,59,31,59,29,63,31,0,63,0,1] (.cut (cLead (654 + Z 1) (z5 1) ⟨⟨LD 1⟩⟩) fun z13 => .go [0,61,61,30,61,59,0,59,59,59,31,59,29,63,31,0,63,0,1] (.cut (cLead (244 + Z 2) (z7 1) ⟨⟨LD 2⟩⟩) fun z14 => .go [0,61,61,30,61,59,0,59,59,59,31,59,29,63,31,0,63,0,1] (.cut (cLead (166 + Z 3) (z9 1) ⟨⟨LD 3⟩⟩) fun z15 => (H_law5k4 P b2 Z LD DV DW IX IW D LT NM WH PG TK K W G SW SG M2 n z3 z5 z7 z9 z11 z12 z13 z14 z15)))))
noncomputable def H_law5k2 (P : Params) (b2 : Bool) (a : Addr) (sl : List (Int × Nat)) (ep : Nat) (S : Nat → List (Int × Nat)) (Z : Nat → Int) (LD : Nat → List Nat) (DV DW : Nat → Int) (IX IW : Nat → Nat) (D : Rd) (LT : List Nat) (NM WH : Nat → List Nat) (PG : Nat → Nat → List Nat) (TK : List Value → Nat → Nat) (K : Nat → Nat → Int) (W : Nat → List Nat) (G : Nat → Int) (SW : Nat → List Nat) (SG : Nat → Int) (M2 : Nat → Int) (n : Nat) (z3 z5 z7 : Nat → Nat) : HT := .go [0,0,31,31,15,31,29,0,29,29,29,29,29,14,29,14,33,16,5,33,25,25,25,0,25,25,0,0,3,33,2,2,2,1] (.cut (cSlice 2 47 a (z7 0) (inl sl) ep (.int (0 + 1 + 1 + 1) (z7 1 + 1)) .none (.int 5 (z7 1 + 3)) (inl (S 3))) fun z8 => .go [1] (.cut (cSumV 49 (z8 2) (inl (S 3)) 0 (Z 3)) fun z9 => .go [0,0,31,31,15,31,29,0,29,29,29,29,29,14,29,14,33,16,5,33,25,25,25,0,25,25,0,0,3,33,2,2,2,1] (.cut (cSlice 2 51 a (z9 0) (inl sl) ep (.int (0 + 1 + 1 + 1 + 1) (z9 1 + 1)) .none (.int 5 (z9 1 + 3)) (inl (S 4))) fun z10 => .go [1] (.cut (cSumV 53 (z10 2) (inl (S 4)) 0 (Z 4)) fun z11 => (H_law5k3 P b2 Z LD DV DW IX IW D LT NM WH PG TK K W G SW SG M2 n z3 z5 z7 z9 z11)))))
noncomputable def H_law5k1 (P : Params) (b2 : Bool) (a : Addr) (sl : List (Int × Nat)) (ep : Nat) (S : Nat → List (Int × Nat)) (Z : Nat → Int) (LD : Nat → List Nat) (DV DW : Nat → Int) (IX IW : Nat → Nat) (D : Rd) (LT : List Nat) (NM WH : Nat → List Nat) (PG : Nat → Nat → List Nat) (TK : List Value → Nat → Nat) (K : Nat → Nat → Int) (W : Nat → List Nat) (G : Nat → Int) (SW : Nat → List Nat) (SG : Nat → Int) (M2 : Nat → Int) (n : Nat) (z3 : Nat → Nat) : HT := .go [0,0,31,31,15,31,29,0,29,29,29,29,29,14,29,14,33,16,5,33,25,25,25,0,25,25,0,0,3,33,2,2,2,1] (.cut (cSlice 2 39 a (z3 0) (inl sl) ep (.int (0 + 1) (z3 1 + 1)) .none (.int 5 (z3 1 + 3)) (inl (S 1))) fun z4 => .go [1] (.cut (cSumV 41 (z4 2) (inl (S 1)) 0 (Z 1)) fun z5 => .go [0,0,31,31,15,31,29,0,29,29,29,29,29,14,29,14,33,16,5,33,25,25,25,0,25,25,0,0,3,33,2,2,2,1] (.cut (cSlice 2 43 a (z5 0) (inl sl) ep (.int (0 + 1 + 1) (z5 1 + 1)) .none (.int 5 (z5 1 + 3)) (inl (S 2))) fun z6 => .go [1] (.cut (cSumV 45 (z6 2) (inl (S 2)) 0 (Z 2)) fun z7 => (H_law5k2 P b2 a sl ep S Z LD DV DW IX IW D LT NM WH PG TK K W G SW SG M2 n z3 z5 z7)))))
noncomputable def H_law5 (P : Params) (b2 : Bool) (h : Nat) (a : Addr) (sl : List (Int × Nat)) (ep : Nat) (S : Nat → List (Int × Nat)) (Z : Nat → Int) (LD : Nat → List Nat) (DV DW : Nat → Int) (IX IW : Nat → Nat) (D : Rd) (LT : List Nat) (NM WH : Nat → List Nat) (PG : Nat → Nat → List Nat) (TK : List Value → Nat → Nat) (K : Nat → Nat → Int) (W : Nat → List Nat) (G : Nat → Int) (SW : Nat → List Nat) (SG : Nat → Int) (M2 : Nat → Int) (n tk : Nat) : HT := .go [3,1,0,0,3,1] (.cut (cLenL 2 a (inl sl) ep (sl.length : Nat)) fun z0 => .go [1] (.cut (cLt (↑sl.length : Int) 3 (z0 2) (z0 1) false) fun z1 => .go (cond b2 [21,21,21,0,21,23,23,23,23,23,21,0,5,2,0,0,0,0,5,0,25,0,25,25,0,0,27,27,0,27,27,27,27,0,27,27,27,27,29,0,29,0,29,29,29,29,29,14,29,14,33,16,5,33,25,25,25,0,25,25,0,0,3,33,2,2,2,1] [21,21,21,0,21,23,23,23,23,23,21,0,5,2,0,0,0,0,5,0,25,0,25,25,0,0,27,27,0,27,27,27,27,0,27,27,27,27,29,0,29,29,0,29,29,29,0,29,29,29,29,29,14,29,14,33,16,5,33,25,25,25,0,25,25,0,0,3,33,2,2,2,1]) (.cut (cSlice 2 35 a (z1 0 + 6) (inl sl) ep (.int 0 (z1 1 + 5)) .none (.int 5 (z1 1 + 7)) (inl (S 0))) fun z2 => .go [1] (.cut (cSumV 37 (z2 2) (inl (S 0)) 0 (Z 0)) fun z3 => (H_law5k1 P b2 a sl ep S Z LD DV DW IX IW D LT NM WH PG TK K W G SW SG M2 n z3)))))
theorem r_law5 (P : Params) (b1 b2 : Bool) (h : Nat) (a : Addr) (sl : List (Int × Nat)) (ep : Nat) (S : Nat → List (Int × Nat)) (Z : Nat → Int) (LD : Nat → List Nat) (DV DW : Nat → Int) (IX IW : Nat → Nat) (D : Rd) (LT : List Nat) (NM WH : Nat → List Nat) (PG : Nat → Nat → List Nat) (TK : List Value → Nat → Nat) (K : Nat → Nat → Int) (W : Nat → List Nat) (G : Nat → Int) (SW : Nat → List Nat) (SG : Nat → Int) (M2 : Nat → Int) (n tk : Nat) : (RunF (parOf P b1 b2) (cLawT h a sl ep) 165 fd165 [.ref a] 9000 (H_law5 (parOf P b1 b2) b2 h a sl ep S Z LD DV DW IX IW D LT NM WH PG TK K W G SW SG M2 n tk) n tk).Ok := by
  cases b1 <;> cases b2 <;> (show OT.l _ = OT.r _; kernel_rfl)
theorem law5_ok (w : World) (b1 b2 : Bool) (h : Nat) (a : Addr) (sl : List (Int × Nat)) (ep : Nat) (hl : sl.length ≤ 63) (hlen : decide ((sl.length : Int) < 3) = false) : VV w b1 b2 (cLawT h a sl ep) := by
  have O := pgO_ok sl 5 (.inr rfl)
  have hn : 5 = 4 ∨ 5 = 5 := by decide
  have hasc : ∀ k, (⟨leadL (tot sl k)⟩ : Array Nat).all (· < 128) = true := fun k => asc_lead (lead_in _)
  refine fnV (fn165 _) rfl (show 1 ≤ 12 by decide) (fun _ => rfl) 9000 (fun n tk => H_law5 (parOf w.params b1 b2) b2 h a sl ep (fun k => pickS sl k) (fun k => ((pickS sl k).map (·.1)).sum) (fun k => leadL (tot sl k)) (fun k => (tot sl k).fdiv 324) (fun k => (tot sl k).fdiv 81) (ixv sl) (iwv sl) (pgO sl 5).rd (pgO sl 5).R (fun k => sufs.getD (ixv sl k) []) (fun k => whs.getD (iwv sl k) []) (PGv sl) tokS (Kv sl) (Wv sl 5) (Gv sl 5) (SWv sl 5) (SGv sl 5) (M2v sl 5) n tk) (fun n tk => r_law5 w.params b1 b2 h a sl ep _ _ _ _ _ _ _ _ _ _ _ _ _ _ _ _ _ _ _ n tk) fun n tk => ?_
  refine ⟨cLenL_ok (by rw [inl_len]) (by rw [inl_len]; lia), fun z0 _ => ?_⟩
  refine ⟨cLt_ok hlen, fun z1 _ => ?_⟩
  refine ⟨cSlice_ok (.int _ _) .none (.int _ _) (by decide) (pick_is sl 0) (by rw [inl_len, sizeLine_eq]; lia), fun z2 _ => ?_⟩
  refine ⟨cSumV_ok (pickS sl 0) rfl rfl, fun z3 _ => ?_⟩
  refine ⟨cSlice_ok (.int _ _) .none (.int _ _) (by decide) (pick_is sl 1) (by rw [inl_len, sizeLine_eq]; lia), fun z4 _ => ?_⟩
  refine ⟨cSumV_ok (pickS sl 1) rfl rfl, fun z5 _ => ?_⟩
  refine ⟨cSlice_ok (.int _ _) .none (.int _ _) (by decide) (pick_is sl 2) (by rw [inl_len, sizeLine_eq]; lia), fun z6 _ => ?_⟩
  refine ⟨cSumV_ok (pickS sl 2) rfl rfl, fun z7 _ => ?_⟩
  refine ⟨cSlice_ok (.int _ _) .none (.int _ _) (by decide) (pick_is sl 3) (by rw [inl_len, sizeLine_eq]; lia), fun z8 _ => ?_⟩
  refine ⟨cSumV_ok (pickS sl 3) rfl rfl, fun z9 _ => ?_⟩
  refine ⟨cSlice_ok (.int _ _) .none (.int _ _) (by decide) (pick_is sl 4) (by rw [inl_len, sizeLine_eq]; lia), fun z10 _ => ?_⟩
  refine ⟨cSumV_ok (pickS sl 4) rfl rfl, fun z11 _ => ?_⟩
  refine ⟨lead_ok w b1 b2, fun z12 _ => ?_⟩
  refine ⟨lead_ok w b1 b2, fun z13 _ => ?_⟩
  refine ⟨lead_ok w b1 b2, fun z14 _ => ?_⟩
  refine ⟨lead_ok w b1 b2, fun z15 _ => ?_⟩
  refine ⟨lead_ok w b1 b2, fun z16 _ => ?_⟩
  refine ⟨cStrAt_ok (by decide) (by decide) rfl, fun z17 _ => ?_⟩
  refine ⟨cFdiv_ok rfl (noPy _ _ (.inr (.inl rfl))) rfl, fun z18 _ => ?_⟩
  refine ⟨cMod_ok rfl (toNat_mod _ _ (by decide)).1.symm, fun z19 _ => ?_⟩
  refine ⟨cGet_ok (Int.natCast_nonneg _) (by have := ix_lt sl 0; lia) get3, fun z20 _ => ?_⟩
  refine ⟨cStrAdd_ok rfl (by have := lens sl 0; exact small40 (by decide) (by show (sufs.getD (ixv sl 0) []).length ≤ _; lia)), fun z21 _ => ?_⟩
  refine ⟨cStrAt_ok (by decide) (by decide) rfl, fun z22 _ => ?_⟩
  refine ⟨cFdiv_ok rfl (noPy _ _ (.inr (.inl rfl))) rfl, fun z23 _ => ?_⟩
  refine ⟨cMod_ok rfl (toNat_mod _ _ (by decide)).1.symm, fun z24 _ => ?_⟩
  refine ⟨cGet_ok (Int.natCast_nonneg _) (by have := ix_lt sl 1; lia) get3, fun z25 _ => ?_⟩
  refine ⟨cStrAdd_ok rfl (by have := lens sl 1; exact small40 (by decide) (by show (sufs.getD (ixv sl 1) []).length ≤ _; lia)), fun z26 _ => ?_⟩
  refine ⟨cStrAt_ok (by decide) (by decide) rfl, fun z27 _ => ?_⟩
  refine ⟨cFdiv_ok rfl (noPy _ _ (.inr (.inl rfl))) rfl, fun z28 _ => ?_⟩
  refine ⟨cMod_ok rfl (toNat_mod _ _ (by decide)).1.symm, fun z29 _ => ?_⟩
  refine ⟨cGet_ok (Int.natCast_nonneg _) (by have := ix_lt sl 2; lia) get3, fun z30 _ => ?_⟩
  refine ⟨cStrAdd_ok rfl (by have := lens sl 2; exact small40 (by decide) (by show (sufs.getD (ixv sl 2) []).length ≤ _; lia)), fun z31 _ => ?_⟩
  refine ⟨cStrAt_ok (by decide) (by decide) rfl, fun z32 _ => ?_⟩
  refine ⟨cFdiv_ok rfl (noPy _ _ (.inr (.inl rfl))) rfl, fun z33 _ => ?_⟩
  refine ⟨cMod_ok rfl (toNat_mod _ _ (by decide)).1.symm, fun z34 _ => ?_⟩
  refine ⟨cGet_ok (Int.natCast_nonneg _) (by have := ix_lt sl 3; lia) get3, fun z35 _ => ?_⟩
  refine ⟨cStrAdd_ok rfl (by have := lens sl 3; exact small40 (by decide) (by show (sufs.getD (ixv sl 3) []).length ≤ _; lia)), fun z36 _ => ?_⟩
  refine ⟨cStrAt_ok (by decide) (by decide) rfl, fun z37 _ => ?_⟩
  refine ⟨cFdiv_ok rfl (noPy _ _ (.inr (.inl rfl))) rfl, fun z38 _ => ?_⟩
  refine ⟨cMod_ok rfl (toNat_mod _ _ (by decide)).1.symm, fun z39 _ => ?_⟩
  refine ⟨cGet_ok (Int.natCast_nonneg _) (by have := ix_lt sl 4; lia) get3, fun z40 _ => ?_⟩
  refine ⟨cStrAdd_ok rfl (by have := lens sl 4; exact small40 (by decide) (by show (sufs.getD (ixv sl 4) []).length ≤ _; lia)), fun z41 _ => ?_⟩
  refine ⟨cFdiv_ok rfl (noPy _ _ (.inr (.inr rfl))) rfl, fun z42 _ => ?_⟩
  refine ⟨cMod_ok rfl (toNat_mod _ _ (by decide)).1.symm, fun z43 _ => ?_⟩
  refine ⟨cGet_ok (Int.natCast_nonneg _) (by have := iw_lt sl 0; lia) get4, fun z44 _ => ?_⟩
  refine ⟨cFdiv_ok rfl (noPy _ _ (.inr (.inr rfl))) rfl, fun z45 _ => ?_⟩
  refine ⟨cMod_ok rfl (toNat_mod _ _ (by decide)).1.symm, fun z46 _ => ?_⟩
  refine ⟨cGet_ok (Int.natCast_nonneg _) (by have := iw_lt sl 1; lia) get4, fun z47 _ => ?_⟩
  refine ⟨cFdiv_ok rfl (noPy _ _ (.inr (.inr rfl))) rfl, fun z48 _ => ?_⟩
  refine ⟨cMod_ok rfl (toNat_mod _ _ (by decide)).1.symm, fun z49 _ => ?_⟩
  refine ⟨cGet_ok (Int.natCast_nonneg _) (by have := iw_lt sl 2; lia) get4, fun z50 _ => ?_⟩
  refine ⟨cFdiv_ok rfl (noPy _ _ (.inr (.inr rfl))) rfl, fun z51 _ => ?_⟩
  refine ⟨cMod_ok rfl (toNat_mod _ _ (by decide)).1.symm, fun z52 _ => ?_⟩
  refine ⟨cGet_ok (Int.natCast_nonneg _) (by have := iw_lt sl 3; lia) get4, fun z53 _ => ?_⟩
  refine ⟨cFdiv_ok rfl (noPy _ _ (.inr (.inr rfl))) rfl, fun z54 _ => ?_⟩
  refine ⟨cMod_ok rfl (toNat_mod _ _ (by decide)).1.symm, fun z55 _ => ?_⟩
  refine ⟨cGet_ok (Int.natCast_nonneg _) (by have := iw_lt sl 4; lia) get4, fun z56 _ => ?_⟩
  refine ⟨cStrAdd_ok rfl (by have := lens sl 0; exact small40 (by show (leadL (tot sl 0)).length ≤ _; lia) (by show (sufs.getD (ixv sl 0) []).length + 1 ≤ _; lia)), fun z57 _ => ?_⟩
  refine ⟨cStrAdd_ok rfl (by have q := PG_len sl 0 0; exact small40 (Nat.le_trans q (by decide)) (by decide)), fun z58 _ => ?_⟩
  refine ⟨cStrAdd_ok rfl (by have := lens sl 0; have q := PG_len sl 0 1; exact small40 (Nat.le_trans q (by decide)) (by show (whs.getD (iwv sl 0) []).length ≤ _; lia)), fun z59 _ => ?_⟩
  refine ⟨cStrAdd_ok rfl (by have q := PG_len sl 0 2; exact small40 (Nat.le_trans q (by decide)) (by decide)), fun z60 _ => ?_⟩
  refine ⟨cStrAdd_ok rfl (by have := lens sl 1; exact small40 (by show (leadL (tot sl 1)).length ≤ _; lia) (by show (sufs.getD (ixv sl 1) []).length + 1 ≤ _; lia)), fun z61 _ => ?_⟩
  refine ⟨cStrAdd_ok rfl (by have q := PG_len sl 1 0; exact small40 (Nat.le_trans q (by decide)) (by decide)), fun z62 _ => ?_⟩
  refine ⟨cStrAdd_ok rfl (by have := lens sl 1; have q := PG_len sl 1 1; exact small40 (Nat.le_trans q (by decide)) (by show (whs.getD (iwv sl 1) []).length ≤ _; lia)), fun z63 _ => ?_⟩
  refine ⟨cStrAdd_ok rfl (by have q := PG_len sl 1 2; exact small40 (Nat.le_trans q (by decide)) (by decide)), fun z64 _ => ?_⟩
  refine ⟨cStrAdd_ok rfl (by have := lens sl 2; exact small40 (by show (leadL (tot sl 2)).length ≤ _; lia) (by show (sufs.getD (ixv sl 2) []).length + 1 ≤ _; lia)), fun z65 _ => ?_⟩
  refine ⟨cStrAdd_ok rfl (by have q := PG_len sl 2 0; exact small40 (Nat.le_trans q (by decide)) (by decide)), fun z66 _ => ?_⟩
  refine ⟨cStrAdd_ok rfl (by have := lens sl 2; have q := PG_len sl 2 1; exact small40 (Nat.le_trans q (by decide)) (by show (whs.getD (iwv sl 2) []).length ≤ _; lia)), fun z67 _ => ?_⟩
  refine ⟨cStrAdd_ok rfl (by have q := PG_len sl 2 2; exact small40 (Nat.le_trans q (by decide)) (by decide)), fun z68 _ => ?_⟩
  refine ⟨cStrAdd_ok rfl (by have := lens sl 3; exact small40 (by show (leadL (tot sl 3)).length ≤ _; lia) (by show (sufs.getD (ixv sl 3) []).length + 1 ≤ _; lia)), fun z69 _ => ?_⟩
  refine ⟨cStrAdd_ok rfl (by have q := PG_len sl 3 0; exact small40 (Nat.le_trans q (by decide)) (by decide)), fun z70 _ => ?_⟩
  refine ⟨cStrAdd_ok rfl (by have := lens sl 3; have q := PG_len sl 3 1; exact small40 (Nat.le_trans q (by decide)) (by show (whs.getD (iwv sl 3) []).length ≤ _; lia)), fun z71 _ => ?_⟩
  refine ⟨cStrAdd_ok rfl (by have q := PG_len sl 3 2; exact small40 (Nat.le_trans q (by decide)) (by decide)), fun z72 _ => ?_⟩
  refine ⟨cStrAdd_ok rfl (by have := lens sl 4; exact small40 (by show (leadL (tot sl 4)).length ≤ _; lia) (by show (sufs.getD (ixv sl 4) []).length + 1 ≤ _; lia)), fun z73 _ => ?_⟩
  refine ⟨cStrAdd_ok rfl (by have q := PG_len sl 4 0; exact small40 (Nat.le_trans q (by decide)) (by decide)), fun z74 _ => ?_⟩
  refine ⟨cStrAdd_ok rfl (by have := lens sl 4; have q := PG_len sl 4 1; exact small40 (Nat.le_trans q (by decide)) (by show (whs.getD (iwv sl 4) []).length ≤ _; lia)), fun z75 _ => ?_⟩
  refine ⟨cStrAdd_ok rfl (by have q := PG_len sl 4 2; exact small40 (Nat.le_trans q (by decide)) (by decide)), fun z76 _ => ?_⟩
  refine ⟨cJoin_ok rfl (join5 sl) (by have q0 := PG_len sl 0 3; have q1 := PG_len sl 1 3; have q2 := PG_len sl 2 3; have q3 := PG_len sl 3 3; have q4 := PG_len sl 4 3; simp only [sumLen]; lia) (by show 5 ≤ 1000; decide) (by decide), fun z77 _ => ?_⟩
  refine ⟨rd5 w b1 b2 O rfl _, fun z78 _ => ?_⟩
  refine ⟨cRstrip_ok (last_strip O (i := 4) rfl).1 (last_strip O (i := 4) rfl).2 (by have := O.Rr; exact Nat.le_trans this.2 (by rw [sizeLine_eq]; decide)), fun z79 _ => ?_⟩
  refine ⟨cLNe_ok ⟨rfl, rfl, rfl, rfl, rfl,  trivial⟩, fun z80 _ => ?_⟩
  refine ⟨cols_ok w b1 b2 (hasc 0), fun z81 _ => ?_⟩
  refine ⟨cols_ok w b1 b2 (hasc 1), fun z82 _ => ?_⟩
  refine ⟨cols_ok w b1 b2 (hasc 2), fun z83 _ => ?_⟩
  refine ⟨cols_ok w b1 b2 (hasc 3), fun z84 _ => ?_⟩
  refine ⟨cols_ok w b1 b2 (hasc 4), fun z85 _ => ?_⟩
  refine ⟨olx5 w b1 b2 _ (s := 0) (by decide) rfl rfl, fun z86 _ => ?_⟩
  refine ⟨olx5 w b1 b2 _ (s := 1) (by decide) rfl rfl, fun z87 _ => ?_⟩
  refine ⟨olx5 w b1 b2 _ (s := 2) (by decide) rfl rfl, fun z88 _ => ?_⟩
  refine ⟨olx5 w b1 b2 _ (s := 3) (by decide) rfl rfl, fun z89 _ => ?_⟩
  refine ⟨shx5 w b1 b2 rfl rfl (((colsF5 sl _).all hn).symm), fun z90 _ => ?_⟩
  refine ⟨shx5 w b1 b2 rfl rfl (((colsF5 sl _).one hn (s := 1) (.inl rfl)).symm), fun z91 _ => ?_⟩
  refine ⟨shx5 w b1 b2 rfl rfl (((colsF5 sl _).one hn (s := 2) (.inr (.inl rfl))).symm), fun z92 _ => ?_⟩
  refine ⟨shx5 w b1 b2 rfl rfl (((colsF5 sl _).one hn (s := 3) (.inr (.inr rfl))).symm), fun z93 _ => ?_⟩
  refine ⟨cLNe_ok ⟨rfl, rfl, rfl, rfl,  trivial⟩, fun z94 _ => ?_⟩
  refine ⟨greatx w b1 b2 (bits_len _ _ _) rfl, fun z95 _ => ?_⟩
  refine ⟨greatx w b1 b2 (bits_len _ _ _) rfl, fun z96 _ => ?_⟩
  refine ⟨greatx w b1 b2 (bits_len _ _ _) rfl, fun z97 _ => ?_⟩
  refine ⟨greatx w b1 b2 (bits_len _ _ _) rfl, fun z98 _ => ?_⟩
  refine ⟨greatx w b1 b2 (bits_len _ _ _) rfl, fun z99 _ => ?_⟩
  refine ⟨lev_bits w b1 b2 (bits_len _ _ _) (bits_len _ _ _) (h0 sl 5 1 (.inl rfl)), fun z100 _ => ?_⟩
  refine ⟨cNe_ok (by simp), fun z101 _ => ?_⟩
  refine ⟨lev_bits w b1 b2 (bits_len _ _ _) (bits_len _ _ _) (h0 sl 5 2 (.inr (.inl rfl))), fun z102 _ => ?_⟩
  refine ⟨cNe_ok (by simp), fun z103 _ => ?_⟩
  refine ⟨shx5 w b1 b2 rfl rfl (((colsF5 sl _).two hn (s := 1) (t := 2) (.inl rfl) (.inr (.inl rfl))).symm), fun z104 _ => ?_⟩
  refine ⟨greatx w b1 b2 (bitsT_len _ _ _) rfl, fun z105 _ => ?_⟩
  refine ⟨cMul_ok (.of_left (by decide)) rfl, fun z106 _ => ?_⟩
  refine ⟨lev_bits w b1 b2 (bits_len _ _ _) (bits_len _ _ _) (hT0 sl 5), fun z107 _ => ?_⟩
  refine ⟨cNe_ok (by simp), fun z108 _ => ?_⟩
  refine ⟨lev_bits w b1 b2 (bits_len _ _ _) (bits_len _ _ _) (h0 sl 5 3 (.inr (.inr rfl))), fun z109 _ => ?_⟩
  refine ⟨cNe_ok (by simp), fun z110 _ => ?_⟩
  refine ⟨shx5 w b1 b2 rfl rfl (((colsF5 sl _).two hn (s := 1) (t := 3) (.inl rfl) (.inr (.inr rfl))).symm), fun z111 _ => ?_⟩
  refine ⟨greatx w b1 b2 (bitsT_len _ _ _) rfl, fun z112 _ => ?_⟩
  refine ⟨cMul_ok (.of_left (by decide)) rfl, fun z113 _ => ?_⟩
  refine ⟨lev_bits w b1 b2 (bits_len _ _ _) (bits_len _ _ _) (hT1 sl 5), fun z114 _ => ?_⟩
  refine ⟨cNe_ok (by simp), fun z115 _ => ?_⟩
  refine ⟨shx5 w b1 b2 rfl rfl (((colsF5 sl _).two hn (s := 2) (t := 3) (.inr (.inl rfl)) (.inr (.inr rfl))).symm), fun z116 _ => ?_⟩
  refine ⟨greatx w b1 b2 (bitsT_len _ _ _) rfl, fun z117 _ => ?_⟩
  refine ⟨cMul_ok (.of_left (by decide)) rfl, fun z118 _ => ?_⟩
  refine ⟨lev_bits w b1 b2 (bits_len _ _ _) (bits_len _ _ _) (hT2 sl 5), fun z119 _ => ?_⟩
  refine ⟨cNe_ok (by simp), fun z120 _ => ?_⟩
  exact outE (fun _ => 0) fun sz tk => ⟨trivial, rfl, rfl, rfl, rfl⟩
end Mine
open PySem.W.ZRun
namespace Mine
theorem ints_pairs {vs : List Value} {ns : List Int} (h : IntsAre vs ns) : ∃ sl : List (Int × Nat), vs = sl.map (fun p => .int p.1 p.2) ∧ sl.length = ns.length := by
  induction h with
  | nil => exact ⟨[], rfl, rfl⟩
  | cons n t _ ih =>
    obtain ⟨sl, e1, e2⟩ := ih
    exact ⟨(n, t) :: sl, by rw [e1]; rfl, congrArg (· + 1) e2⟩
/-- the call of law gives True -/
theorem law_call (w : World) (s : Shared) (a : Addr) (sl : List (Int × Nat)) (R : Result → Shared → Prop) (hK : KT.Holds s.heap 1 0 (kt w.params))
    (ha : s.heap.get? a = some ⟨.type "list", none, .seq ⟨sl.map fun p => .int p.1 p.2⟩ 0, #[]⟩) (hl : sl.length ≤ 63)
    (hR : ∀ h' tk, (∀ b o, s.heap.get? b = some o → h'.get? b = some o) → R (.ok (.ret (.bool true))) ⟨h', s.gens, s.drawn, tk, s.os⟩) :
    codeAny (model PySem.Challenge.pw_pk0104_01 w) callerA (.call (.ref 165) ⟨[.ref a], []⟩) R s := by
  have V : VV w (w.params.followText "special-get-raises") (w.params.followText "comprehension-iter-twice") (cLawT 2 a sl 0) := by
    by_cases q : (sl.length : Int) < 3
    · exact law4_ok w _ _ 2 a sl 0 hl (decide_eq_true q)
    · exact law5_ok w _ _ 2 a sl 0 hl (decide_eq_false q)
  unfold VV at V
  have e : parOf w.params (w.params.followText "special-get-raises") (w.params.followText "comprehension-iter-twice") = w.params := (congrArg World.params (wOf_eq w)).symm
  rw [← wOf_eq, e] at V
  refine V callerA R s (.inr ⟨show callerA.depth + 2 * 12 ≤ 990 by decide +kernel, show callerA.units + 4 * 12 ≤ 9890 by decide +kernel⟩) rfl hK (fun e he => ?_) (fun e he => nomatch he) List.nodup_nil fun x h' _ A hs => ?_
  · cases List.mem_singleton.mp he
    exact ⟨ha, fun h => nomatch h⟩
  · exact hR h' (x 1) fun b o e => A.keep b o e fun h => nomatch h
theorem hN {h : Heap} {s b : Nat} {v : Option Obj} {l r : KT} (h0 : ∀ o, v = some o → h.get? b = some o) (h1 : l.Holds h (2 * s) (s + b)) (h2 : r.Holds h (2 * s) (2 * s + b)) : (KT.node v l r).Holds h s b := ⟨h0, h1, h2⟩
theorem hNil {h : Heap} {s b : Nat} : KT.nil.Holds h s b := trivial
end Mine
set_option maxRecDepth 100000 in
set_option maxHeartbeats 0 in
theorem PySem.Challenge.cw_pk0104_01_holds : PySem.Challenge.rw_pk0104_01.Holds := by
  w_on; o_law
  refine holds_openX (q := Mine.viewA) (loose := [PySem.Str.ofString "Whitespace"]) (Xt := fun s => xlAt Mine.viewA [] s && recOk [] s) (XP := XL Mine.viewA []) (Yf := obsZ Mine.baseAs) (Ya := valZ Mine.kf 166 423) (N := 2040) Mine.hl (fun s e => xl_of s (Bool.and_eq_true_iff.mp e).1) XL.keeps (by rfl) (by rfl) (by rfl) (fun s e => recFacts_of (Bool.and_eq_true_iff.mp e).2) (by rfl) (by first | assumption | decide +kernel) (by decide +kernel) ⟨rfl, rfl, rfl, rfl, rfl, by decide +kernel⟩ ?hw ?hc
  case hw => w_witness2
  intro w s₀ s₁ mg mb G y fa o pm cd doc dV kV ho hd hcd hD hmg hg args vals as L hpre hlay hrd hwl hlo
  have KX : Frag.In (Mine.kf w.params) s₁.heap := InK.keeps w s₀.heap s₁.heap (z_facts Mine.kf_keys y).2.1 (Laid.keeps L)
  refine Ground.open G ?_
  intro T B D TE TW
  wrow_args hpre hlay hrd hwl hlo
  x_fa T KX hmg
  all_lens
  clear ho hd hcd hD hmg T B D TE TW
  z_lists L
  refine PySem.W.enter_call ?_
  rename_i ns _ _ _ _ _ _ _ a vs _ _ _ _ _ _ hcond _ hi hb hol hz
  obtain ⟨sl, e1, e2⟩ := Mine.ints_pairs hi
  have hK : KT.Holds s₁.heap 1 0 (Mine.kt w.params) := by
    unfold Mine.kt
    repeat' (first | exact Mine.hNil | apply Mine.hN)
    all_goals intro o e
    all_goals first
      | (cases e; done)
      | (cases e; exact KX _ _ (by kernel_rfl!))
  exact Mine.law_call w s₁ a sl _ hK (by rw [hol, e1]) (by omega) fun h' tk keep => ⟨.inl ⟨_, _, [], rfl, fun _ => rfl, ReadsW.bool true, by first | kernel_rfl! | wrow_post, fun _ => ⟨List.nodup_nil, fun _ hm => nomatch hm⟩⟩, .of_keep keep, rfl, by
    show AllBare s₁.gens
    rw [hg]; exact AllBare.empty⟩
