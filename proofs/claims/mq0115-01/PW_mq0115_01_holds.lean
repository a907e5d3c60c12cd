import PyProof.Rows.All
import Wide.All
import OpenK.AllK
import Wide.FinOn
import KE.KPairTest
import KE.KSortKey
import KE.KSortAsk
import Lean
import PySem.Challenge.RW_mq0115_01
set_option maxRecDepth 100000
set_option Elab.async false
set_option genInjectivity false
set_option genSizeOf false
set_option genSizeOfSpec false
namespace Mine
noncomputable def hz : List Nat → List Nat
  | [] => []
  | a :: l => a :: 0 :: hz l
end Mine
namespace Mine
open PySem PySem.W PySem.W.X PySem.Spec PySem.Calls PyProof.Rows
noncomputable def den : Code → Sem Fin := PySem.W.Fast.tw11892475500146522536 PySem.W.Fast.tw14364793385576792824
theorem den_eq : denote table = den := by
  unfold den
  rw [← PySem.W.Fast.te11892475500146522536, ← PySem.W.Fast.te14364793385576792824, table_eq_tree]
noncomputable abbrev Facts := List (Addr × Obj)
structure Mm where
  T : KT
  F : Facts
  Z : Facts
  B : Facts
  nx : Nat
  tk : Nat
inductive Kt where
  | base
  | ret (c : Option Code) (k : Result → Sem Fin) (κ : Kt)
structure Obl where
  la : List Addr := []
  lb : List Addr := []
  ta : List (Sem Fin) := []
  tb : List (Sem Fin) := []
  pp : List Prop := []
inductive Res where
  | hole (c : Code) (κ : Kt) (m : Mm) (o : Obl)
  | done (r : Result) (m : Mm) (o : Obl)
  | bad (n : Nat)
noncomputable def enterT : Sem Unit := PySem.W.Fast.tw15066281185411960212 0
theorem enterT_eq : enterFrame = enterT := by unfold enterT; rw [← PySem.W.Fast.te15066281185411960212]
noncomputable def stk : Sem Fin → Sem Fin
  | .stack k => k []
  | t => t
noncomputable def aft : Sem Fin → Obj → Sem Fin
  | .load _ _ k, o => k o
  | t, _ => t
noncomputable abbrev statObj : Obj := { cls := .none, data := .dict #[] 0 }
noncomputable def wgt : Code → Option Nat
  | .call .. => some 0
  | .builtin id _ => match PySem.W.Fast.strDec id "claim.caller" with
    | .isTrue _ => none
    | .isFalse _ => some 5
  | _ => some 1
noncomputable def Kt.wt : Kt → Option Nat
  | .base => some 0
  | .ret none _ κ => κ.wt
  | .ret (some c) _ κ => match wgt c, κ.wt with
    | some a, some b => some (a + b)
    | _, _ => none
noncomputable def lightB (c : Option Code) (κ : Kt) : Bool := match (Kt.ret c (fun _ => .unsupported "") κ).wt with
  | some n => Nat.ble n 70
  | none => false
noncomputable abbrev Go := Nat → List Nat → Option Code → Kt → Sem Fin → Mm → Obl → Res
noncomputable def retS (ih : Go) (n : Nat) (hs : List Nat) (r : Result) : Kt → Mm → Obl → Res
  | .base => fun m o => .done r m o
  | .ret c k κ => ih n hs c κ (k r)
noncomputable def putAt : Facts → Nat → (Obj → Obj) → Facts
  | [], _, _ => []
  | p :: l, 0, f => (p.1, f p.2) :: l
  | p :: l, i + 1, f => p :: putAt l i f
noncomputable def nth : Facts → Nat → Option (Addr × Obj)
  | [], _ => none
  | p :: _, 0 => some p
  | _ :: l, i + 1 => nth l i
noncomputable def snoc : Facts → Addr × Obj → Facts
  | [], x => [x]
  | p :: l, x => p :: snoc l x
noncomputable def atM (m : Mm) (j : Nat) : Option (Addr × Obj) := match j % 3 with
  | 0 => nth m.F (j / 3)
  | 1 => nth m.Z (j / 3)
  | _ => nth m.B (j / 3)
structure Env9 where
  P : Setting
  abs : Code → Bool
inductive PrimR where
  | no
  | val (v : Value) (dt : Nat) (p : List Prop)
  | item (l : Addr) (k : Int)
noncomputable def pick {α : Type} (s : String) : List (String × α) → Option α
  | [] => none
  | x :: l => match PySem.W.Fast.strDec s x.1 with
    | .isTrue _ => some x.2
    | .isFalse _ => pick s l
noncomputable def smallLit (y : Int) : Bool := decide (0 < y) && decide (y < 1000)
noncomputable def prim2 (s : String) (x y : Int) (tk : Nat) : PrimR := match pick s [
    ("int.__mod__", (0 : Nat)), ("int.__floordiv__", 1), ("int.__add__", 2), ("int.__sub__", 3), ("int.__mul__", 4),
    ("int.__lt__", 5), ("int.__gt__", 6), ("int.__eq__", 7), ("int.__le__", 8), ("int.__ge__", 9)] with
  | none => .no
  | some r => match r with
    | 0 => match smallLit y with
      | true => .val (.int (x.fmod y) tk) 1 []
      | false => .no
    | 1 => match smallLit y with
      | true => .val (.int (x.fdiv y) tk) 1 []
      | false => .no
    | 2 => .val (.int (x + y) tk) 1 []
    | 3 => .val (.int (x - y) tk) 1 []
    | 4 => .val (.int (x * y) tk) 1 [IntMulOk x y]
    | 5 => .val (.bool (decide (x < y))) 0 []
    | 6 => .val (.bool (decide (x > y))) 0 []
    | 7 => .val (.bool (x == y)) 0 []
    | 8 => .val (.bool (decide (x ≤ y))) 0 []
    | 9 => .val (.bool (decide (x ≥ y))) 0 []
    | _ => .no
noncomputable def prim1 (s : String) (x : Int) (tk : Nat) : PrimR := match PySem.W.Fast.strDec s "int.__neg__" with
  | .isTrue _ => .val (.int (-x) tk) 1 []
  | .isFalse _ => .no
noncomputable def primB (s : String) (pos : List Value) (tk : Nat) : PrimR := match pos with
  | [] => .no
  | a :: r => match r with
    | [] => match a with
      | .int x _ => prim1 s x tk
      | _ => .no
    | b :: r2 => match r2 with
      | [] => match b with
        | .int y _ => match a with
          | .int x _ => prim2 s x y tk
          | .ref l => match PySem.W.Fast.strDec s "list.__getitem__" with
            | .isTrue _ => .item l y
            | .isFalse _ => .no
          | _ => .no
        | _ => .no
      | _ :: _ => .no
noncomputable def primA (c : Code) (tk : Nat) : PrimR := match c with
  | .call f a => match f with
    | .builtin s => match a.kw with
      | [] => primB s a.pos tk
      | _ :: _ => .no
    | _ => .no
  | _ => .no
noncomputable def intOf : Value → Int
  | .int x _ => x
  | _ => 0
noncomputable def txtOf : Value → Str
  | .str x _ => x
  | _ => Str.empty
noncomputable def tokOf : Value → Nat
  | .int _ t => t
  | .str _ t => t
  | _ => 0
noncomputable def allI : List Value → Bool
  | [] => true
  | .int _ _ :: l => allI l
  | _ :: _ => false
noncomputable def allS : List Value → Bool
  | [] => true
  | .str _ _ :: l => allS l
  | _ :: _ => false
noncomputable def selV (l : List Value) (k : Int) : Value := l.getD k.toNat .none
noncomputable def selI (l : List Value) (k : Int) : Int := intOf (selV l k)
noncomputable def selS (l : List Value) (k : Int) : Str := txtOf (selV l k)
noncomputable def selT (l : List Value) (k : Int) : Nat := tokOf (selV l k)
noncomputable def lstOf (o : Obj) : Option (Array Value) := match o.cls with
  | .type s => match PySem.W.Fast.strDec s "list" with
    | .isTrue _ => match o.data with
      | .seq items _ => some items
      | _ => none
    | .isFalse _ => none
  | _ => none
noncomputable def itemP (n : Nat) (k : Int) : Prop := 0 ≤ k ∧ k < n ∧ k < 1000
noncomputable def itemR (o : Obj) (k : Int) : Option (Value × Prop) := match lstOf o with
  | some items => match allI items.toList with
    | true => some (.int (selI items.toList k) (selT items.toList k), itemP items.toList.length k)
    | false => match allS items.toList with
      | true => some (.str (selS items.toList k) (selT items.toList k), itemP items.toList.length k)
      | false => none
  | none => none
noncomputable def stepS (V : Env9) (ih : Go) (n : Nat) (hs : List Nat) (c : Option Code) (κ : Kt) (t : Sem Fin) (m : Mm) (o : Obl) : Res := match t with
  | .pure fin => match fin with
    | .done f => retS ih n hs (.ok f) κ m o
    | .again c' => match c'.quiet with
      | true => (match c with
        | some _ => (match V.abs c' with
          | true => .hole c' κ m o
          | false => ih n hs (some c') κ (den c') m o)
        | none => .bad 50)
      | false => .bad 5
  | .raise e => retS ih n hs (.error e) κ m o
  | .rule _ k => ih n hs c κ (k ()) m o
  | .at _ k => ih n hs c κ (k ()) m o
  | .point _ k => ih n hs c κ (k ()) m o
  | .ask k => ih n hs c κ (k V.P) m o
  | .load a _ k => match n with
    | n + 1 => (match m.T.get a with
      | some x => ih n hs c κ (k x) m o
      | none => .bad 1)
    | 0 => match hs with
      | j :: n :: hs => (match atM m j with
        | some x => ih n hs c κ (k x.2) m ⟨a :: o.la, x.1 :: o.lb, o.ta, o.tb, o.pp⟩
        | none => .bad 2)
      | _ => .bad 3
  | .loadIfAlive a k => match n with
    | n + 1 => (match m.T.get a with
      | some x => ih n hs c κ (k (some x)) m o
      | none => .bad 1)
    | 0 => match hs with
      | j :: n :: hs => (match atM m j with
        | some x => ih n hs c κ (k (some x.2)) m ⟨a :: o.la, x.1 :: o.lb, o.ta, o.tb, o.pp⟩
        | none => .bad 2)
      | _ => .bad 3
  | .alloc x k => match x.isFreed with
    | true => .bad 4
    | false => ih n hs c κ (k m.nx) { m with Z := snoc m.Z (m.nx, x), nx := m.nx + 1 } o
  | .update a _ f k => match n with
    | _ + 1 => .bad 6
    | 0 => match hs with
      | j :: n :: hs => (match j % 3 with
        | 1 => (match nth m.Z (j / 3) with
          | some x => (match (f x.2).isFreed with
            | true => .bad 4
            | false => ih n hs c κ (k ()) { m with Z := putAt m.Z (j / 3) f } ⟨a :: o.la, x.1 :: o.lb, o.ta, o.tb, o.pp⟩)
          | none => .bad 2)
        | 2 => (match nth m.B (j / 3) with
          | some x => (match tabOf x.2, tabOf (f x.2) with
            | some vs, some vs' => (match strip vs.toList vs'.toList with
              | some _ => ih n hs c κ (k ()) { m with B := putAt m.B (j / 3) f } ⟨a :: o.la, x.1 :: o.lb, o.ta, o.tb, o.pp⟩
              | none => .bad 61)
            | _, _ => .bad 62)
          | none => .bad 2)
        | _ => .bad 63)
      | _ => .bad 3
  | .fresh k => ih n hs c κ (k m.tk) { m with tk := m.tk + 1 } o
  | .handled own k => match own with
    | false => ih n hs c κ (k none) m o
    | true => .bad 7
  | .stack k => match lightB c κ with
    | true => (match n with
      | n + 1 => ih n hs c κ (aft (k []) statObj) m ⟨o.la, o.lb, .stack k :: o.ta, PySem.W.R.bindR enterT (fun _ => aft (k []) statObj) :: o.tb, o.pp⟩
      | 0 => .bad 8)
    | false => .bad 9
  | .call c' hd _ _ k => match hd with
    | none => (match V.abs c' with
      | true => .hole c' (.ret c k κ) m o
      | false => (match primA c' m.tk with
        | .no => ih n hs (some c') (.ret c k κ) (den c') m o
        | .val v dt p => ih n hs c κ (k (.ok (.ret v))) { m with tk := m.tk + dt } ⟨o.la, o.lb, o.ta, o.tb, p ++ o.pp⟩
        | .item l y => (match n with
          | 0 => (match hs with
            | j :: n' :: hs' => (match Nat.ble 1000 j with
              | true => (match atM m (j - 1000) with
                | some x => (match itemR x.2 y with
                  | some r => ih n' hs' c κ (k (.ok (.ret r.1))) m ⟨l :: o.la, x.1 :: o.lb, o.ta, o.tb, r.2 :: o.pp⟩
                  | none => .bad 71)
                | none => .bad 2)
              | false => ih 0 (j :: n' :: hs') (some c') (.ret c k κ) (den c') m o)
            | _ => ih 0 hs (some c') (.ret c k κ) (den c') m o)
          | n' + 1 => ih (n' + 1) hs (some c') (.ret c k κ) (den c') m o)))
    | some _ => .bad 10
  | _ => .bad 11
noncomputable def runS (V : Env9) : Nat → Go
  | 0 => fun _ _ _ _ _ _ _ => .bad 40
  | n + 1 => stepS V (runS V n)
end Mine
namespace Mine
open PySem PySem.W PySem.W.X PySem.Spec PySem.Calls PyProof.Rows
noncomputable def Obl.Ok (o : Obl) : Prop := o.la = o.lb ∧ o.ta = o.tb ∧ ∀ p ∈ o.pp, p
noncomputable def Res.obl? : Res → Option Obl
  | .hole _ _ _ o => some o
  | .done _ _ o => some o
  | .bad _ => none
theorem ok_addr {a b : Addr} {la lb : List Addr} {ta tb : List (Sem Fin)} {pp : List Prop} (h : Obl.Ok ⟨a :: la, b :: lb, ta, tb, pp⟩) : a = b ∧ Obl.Ok ⟨la, lb, ta, tb, pp⟩ := by
  obtain ⟨h1, h2⟩ := h
  injection h1 with h3 h4
  exact ⟨h3, h4, h2⟩
theorem ok_tree {a b : Sem Fin} {la lb : List Addr} {ta tb : List (Sem Fin)} {pp : List Prop} (h : Obl.Ok ⟨la, lb, a :: ta, b :: tb, pp⟩) : a = b ∧ Obl.Ok ⟨la, lb, ta, tb, pp⟩ := by
  obtain ⟨h1, h2, h5⟩ := h
  injection h2 with h3 h4
  exact ⟨h3, h1, h4, h5⟩
theorem ok_props {la lb : List Addr} {ta tb : List (Sem Fin)} {ps pp : List Prop} (h : Obl.Ok ⟨la, lb, ta, tb, ps ++ pp⟩) : (∀ p ∈ ps, p) ∧ Obl.Ok ⟨la, lb, ta, tb, pp⟩ := by
  obtain ⟨h1, h2, h5⟩ := h
  exact ⟨fun p hp => h5 p (List.mem_append_left _ hp), h1, h2, fun p hp => h5 p (List.mem_append_right _ hp)⟩
noncomputable def OkAll (ih : Go) : Prop := ∀ n hs c κ t m o o', (ih n hs c κ t m o).obl? = some o' → o'.Ok → o.Ok
theorem retS_ok {ih : Go} (IH : OkAll ih) {n hs r κ m o o'} (h : (retS ih n hs r κ m o).obl? = some o') (ho : o'.Ok) : o.Ok := by
  cases κ with
  | base => cases h; exact ho
  | ret c k κ => exact IH _ _ _ _ _ _ _ _ h ho
theorem step_ok {V : Env9} {ih : Go} (IH : OkAll ih) : OkAll (stepS V ih) := by
  intro n hs c κ t m o o' h ho
  cases t with
  | pure fin =>
    cases fin with
    | done f => exact retS_ok IH h ho
    | again c' =>
      delta stepS at h; dsimp only at h
      split at h
      · split at h
        · split at h
          · cases h; exact ho
          · exact IH _ _ _ _ _ _ _ _ h ho
        · cases h
      · cases h
  | raise e => exact retS_ok IH h ho
  | rule _ k => exact IH _ _ _ _ _ _ _ _ h ho
  | «at» _ k => exact IH _ _ _ _ _ _ _ _ h ho
  | point _ k => exact IH _ _ _ _ _ _ _ _ h ho
  | ask k => exact IH _ _ _ _ _ _ _ _ h ho
  | fresh k => exact IH _ _ _ _ _ _ _ _ h ho
  | load a q k =>
    delta stepS at h; dsimp only at h
    split at h
    · split at h
      · exact IH _ _ _ _ _ _ _ _ h ho
      · cases h
    · split at h
      · split at h
        · exact (ok_addr (IH _ _ _ _ _ _ _ _ h ho)).2
        · cases h
      · cases h
  | loadIfAlive a k =>
    delta stepS at h; dsimp only at h
    split at h
    · split at h
      · exact IH _ _ _ _ _ _ _ _ h ho
      · cases h
    · split at h
      · split at h
        · exact (ok_addr (IH _ _ _ _ _ _ _ _ h ho)).2
        · cases h
      · cases h
  | alloc x k =>
    delta stepS at h; dsimp only at h
    split at h
    · cases h
    · exact IH _ _ _ _ _ _ _ _ h ho
  | update a q f k =>
    delta stepS at h; dsimp only at h
    split at h
    · cases h
    · split at h
      · split at h
        · split at h
          · split at h
            · cases h
            · exact (ok_addr (IH _ _ _ _ _ _ _ _ h ho)).2
          · cases h
        · split at h
          · split at h
            · split at h
              · exact (ok_addr (IH _ _ _ _ _ _ _ _ h ho)).2
              · cases h
            · cases h
          · cases h
        · cases h
      · cases h
  | handled own k =>
    delta stepS at h; dsimp only at h
    split at h
    · exact IH _ _ _ _ _ _ _ _ h ho
    · cases h
  | stack k =>
    delta stepS at h; dsimp only at h
    split at h
    · split at h
      · exact (ok_tree (IH _ _ _ _ _ _ _ _ h ho)).2
      · cases h
    · cases h
  | call c' hd g l k =>
    delta stepS at h; dsimp only at h
    split at h
    · split at h
      · cases h; exact ho
      · split at h
        · exact IH _ _ _ _ _ _ _ _ h ho
        · exact (ok_props (IH _ _ _ _ _ _ _ _ h ho)).2
        · split at h
          · split at h
            · split at h
              · split at h
                · split at h
                  · exact (ok_props (ps := [_]) (ok_addr (IH _ _ _ _ _ _ _ _ h ho)).2).2
                  · cases h
                · cases h
              · exact IH _ _ _ _ _ _ _ _ h ho
            · exact IH _ _ _ _ _ _ _ _ h ho
          · exact IH _ _ _ _ _ _ _ _ h ho
    · cases h
  | _ => cases h
theorem run_ok {V : Env9} : ∀ f, OkAll (runS V f)
  | 0 => fun _ _ _ _ _ _ _ _ h _ => by cases h
  | f + 1 => step_ok (run_ok f)
noncomputable def IsTab (h₀ : Heap) (p : Addr × Obj) : Prop := p.1 ≠ cStatics ∧ ∃ c ps more, h₀.TableAt c p.1 ps ∧ p.2 = tableObj (ps ++ more)
structure Rep (h₀ : Heap) (m : Mm) (h : Heap) : Prop where
  size : h.objs.size = m.nx
  T : ∀ a o, m.T.get a = some o → h.get? a = some o ∧ a < h₀.objs.size
  F : ∀ p ∈ m.F, h.get? p.1 = some p.2
  Z : ∀ p ∈ m.Z, h.get? p.1 = some p.2 ∧ h₀.objs.size ≤ p.1
  B : ∀ p ∈ m.B, h.get? p.1 = some p.2 ∧ IsTab h₀ p
  zd : (m.Z.map (·.1)).Pairwise (· < ·)
  bd : (m.B.map (·.1)).Pairwise (· < ·)
  fz : ∀ p ∈ m.F, ∀ z ∈ m.Z, p.1 ≠ z.1
  fb : ∀ p ∈ m.F, ∀ z ∈ m.B, p.1 ≠ z.1
  tb : ∀ z ∈ m.B, m.T.get z.1 = none
  old : OldK h₀ h
  kp : ∀ b o, h₀.get? b = some o → (∀ z ∈ m.B, z.1 ≠ b) → h.get? b = some o
  stat : h.get? cStatics = some statObj ∧ cStatics < h₀.objs.size
  le : h₀.objs.size ≤ h.objs.size
theorem IsTab.lt {h₀ : Heap} {p : Addr × Obj} (x : IsTab h₀ p) : p.1 < h₀.objs.size := by
  obtain ⟨_, c, ps, more, ht, _⟩ := x
  exact Heap.lt_size ht.2
theorem snoc_eq (l : Facts) (x : Addr × Obj) : snoc l x = l ++ [x] := by
  induction l with
  | nil => rfl
  | cons p l ih => show p :: snoc l x = _; rw [ih]; rfl
theorem nth_eq : ∀ (l : Facts) (i : Nat), nth l i = l[i]?
  | [], _ => by simp [nth]
  | _ :: _, 0 => by simp [nth]
  | _ :: l, i + 1 => by simp [nth, nth_eq l i]
theorem putAt_keys : ∀ (l : Facts) (i : Nat) (f : Obj → Obj), (putAt l i f).map (·.1) = l.map (·.1)
  | [], _, _ => rfl
  | _ :: _, 0, _ => rfl
  | p :: l, i + 1, f => by show p.1 :: (putAt l i f).map (·.1) = _; rw [putAt_keys l i f]; rfl
theorem putAt_mem : ∀ {l : Facts} {i : Nat} {f : Obj → Obj} {x : Addr × Obj}, nth l i = some x → (l.map (·.1)).Pairwise (· < ·) → ∀ {p}, p ∈ putAt l i f → p = (x.1, f x.2) ∨ (p ∈ l ∧ p.1 ≠ x.1)
  | [], _, _, _, h, _, _, _ => by cases h
  | q :: l, 0, f, x, h, hp, p, hm => by
    cases h
    rcases List.mem_cons.mp hm with rfl | hm
    · exact .inl rfl
    · refine .inr ⟨.tail _ hm, Nat.ne_of_gt ?_⟩
      rw [List.map_cons, List.pairwise_cons] at hp
      exact hp.1 _ (List.mem_map_of_mem hm)
  | q :: l, i + 1, f, x, h, hp, p, hm => by
    rw [List.map_cons, List.pairwise_cons] at hp
    have hx : x ∈ l := by
      have : nth l i = some x := h
      rw [nth_eq] at this
      exact List.mem_of_getElem? this
    rcases List.mem_cons.mp hm with rfl | hm
    · exact .inr ⟨.head _, Nat.ne_of_lt (hp.1 _ (List.mem_map_of_mem hx))⟩
    · rcases putAt_mem (l := l) h hp.2 hm with h1 | ⟨h1, h2⟩
      · exact .inl h1
      · exact .inr ⟨.tail _ h1, h2⟩
section
variable {h₀ h : Heap} {m : Mm}
theorem Rep.alloc (D : Rep h₀ m h) {x : Obj} (hf : x.isFreed = false) : Rep h₀ { m with Z := snoc m.Z (m.nx, x), nx := m.nx + 1 } (h.push x) := by
  have kp : ∀ b o, h.get? b = some o → (h.push x).get? b = some o := fun b o e => Heap.get?_push_of_some _ e
  have nw : (h.push x).get? m.nx = some x := by rw [← D.size]; exact Heap.get?_push_size _ hf
  have mz : ∀ p ∈ snoc m.Z (m.nx, x), p ∈ m.Z ∨ p = (m.nx, x) := fun p hp => by
    rw [snoc_eq] at hp
    rcases List.mem_append.mp hp with h1 | h1
    · exact .inl h1
    · exact .inr (List.mem_singleton.mp h1)
  refine { size := by rw [Heap.size_push, D.size], T := fun a o e => ⟨kp _ _ (D.T a o e).1, (D.T a o e).2⟩, F := fun p hp => kp _ _ (D.F p hp), Z := fun p hp => ?_, B := fun p hp => ⟨kp _ _ (D.B p hp).1, (D.B p hp).2⟩, zd := ?_, bd := D.bd, fz := fun p hp z hz => ?_, fb := D.fb, tb := D.tb, old := D.old.step_keeps kp, kp := fun b o e n => kp _ _ (D.kp b o e n), stat := ⟨kp _ _ D.stat.1, D.stat.2⟩, le := by rw [Heap.size_push]; exact Nat.le_succ_of_le D.le }
  · rcases mz p hp with h1 | rfl
    · exact ⟨kp _ _ (D.Z p h1).1, (D.Z p h1).2⟩
    · exact ⟨nw, by rw [← D.size]; exact D.le⟩
  · show ((snoc m.Z (m.nx, x)).map (·.1)).Pairwise (· < ·)
    rw [snoc_eq, List.map_append, List.pairwise_append]
    refine ⟨D.zd, List.pairwise_singleton _ _, fun a ha b hb => ?_⟩
    obtain ⟨p, hp, rfl⟩ := List.mem_map.mp ha
    obtain ⟨q, hq, rfl⟩ := List.mem_map.mp hb
    rw [List.mem_singleton.mp hq]
    show p.1 < m.nx
    rw [← D.size]; exact Heap.lt_size (D.Z p hp).1
  · rcases mz z hz with h1 | rfl
    · exact D.fz p hp z h1
    · show p.1 ≠ m.nx
      rw [← D.size]; exact Nat.ne_of_lt (Heap.lt_size (D.F p hp))
theorem Rep.update (D : Rep h₀ m h) {i : Nat} {x : Addr × Obj} {f : Obj → Obj} (hx : nth m.Z i = some x) (hf : (f x.2).isFreed = false) :
    h.get? x.1 = some x.2 ∧ Rep h₀ { m with Z := putAt m.Z i f } (h.update x.1 f) := by
  have hm : x ∈ m.Z := by rw [nth_eq] at hx; exact List.mem_of_getElem? hx
  have ho := D.Z x hm
  have hs : Heap.SameBut x.1 h (h.update x.1 f) := Heap.SameBut.update ..
  have ge : (h.update x.1 f).get? x.1 = some (f x.2) := by first | exact Heap.get?_update_self f ho.1 hf | exact Heap.get?_update_self _ ho.1 hf
  have kk : (putAt m.Z i f).map (·.1) = m.Z.map (·.1) := putAt_keys ..
  refine ⟨ho.1, { size := by rw [hs.1, D.size], T := fun a o e => ?_, F := fun p hp => ?_, Z := fun p hp => ?_, B := fun p hp => ?_, zd := by show ((putAt m.Z i f).map (·.1)).Pairwise _; rw [kk]; exact D.zd, bd := D.bd, fz := fun p hp z hz => ?_, fb := D.fb, tb := D.tb, old := D.old.step_same ho.2 hs, kp := fun b o e n => (hs.2 b (Nat.ne_of_lt (Nat.lt_of_lt_of_le (Heap.lt_size e) ho.2))).trans (D.kp b o e n), stat := ⟨?_, D.stat.2⟩, le := by rw [hs.1]; exact D.le }⟩
  · have e1 := D.T a o e
    exact ⟨(hs.2 a (Nat.ne_of_lt (Nat.lt_of_lt_of_le e1.2 ho.2))).trans e1.1, e1.2⟩
  · exact (hs.2 p.1 (D.fz p hp x hm)).trans (D.F p hp)
  · rcases putAt_mem hx D.zd hp with rfl | ⟨h1, h2⟩
    · exact ⟨ge, ho.2⟩
    · exact ⟨(hs.2 p.1 h2).trans (D.Z p h1).1, (D.Z p h1).2⟩
  · have e1 := D.B p hp
    exact ⟨(hs.2 p.1 (Nat.ne_of_lt (Nat.lt_of_lt_of_le e1.2.lt ho.2))).trans e1.1, e1.2⟩
  · have hz' : z.1 ∈ (putAt m.Z i f).map (·.1) := List.mem_map_of_mem hz
    rw [kk] at hz'
    obtain ⟨q, hq, e⟩ := List.mem_map.mp hz'
    rw [← e]
    exact D.fz p hp q hq
  · exact (hs.2 _ (Nat.ne_of_lt (Nat.lt_of_lt_of_le D.stat.2 ho.2))).trans D.stat.1
theorem Rep.table (D : Rep h₀ m h) {i : Nat} {x : Addr × Obj} {f : Obj → Obj} {vs vs' : Array Value} {more : List Value} (hx : nth m.B i = some x) (e1 : tabOf x.2 = some vs) (e2 : tabOf (f x.2) = some vs') (hm : strip vs.toList vs'.toList = some more) :
    h.get? x.1 = some x.2 ∧ Rep h₀ { m with B := putAt m.B i f } (h.update x.1 f) := by
  have hmem : x ∈ m.B := by rw [nth_eq] at hx; exact List.mem_of_getElem? hx
  obtain ⟨ho, hne, c, ps, m₁, ht, hv⟩ := D.B x hmem
  have ex : x.2 = tableObj vs := tabOf_eq e1
  have ef : f x.2 = tableObj vs' := tabOf_eq e2
  have hvs : vs = ps ++ m₁ := by
    have q : tableObj vs = tableObj (ps ++ m₁) := ex.symm.trans hv
    have z : (tableObj vs).data = (tableObj (ps ++ m₁)).data := congrArg Obj.data q
    injection z
  have hv' : vs' = vs ++ more.toArray := by
    have := strip_eq hm
    apply Array.ext'
    rw [Array.toList_append, this]
  have hs : Heap.SameBut x.1 h (h.update x.1 f) := Heap.SameBut.update ..
  have hf : (f x.2).isFreed = false := by rw [ef]; rfl
  have ge : (h.update x.1 f).get? x.1 = some (f x.2) := by first | exact Heap.get?_update_self f ho hf | exact Heap.get?_update_self _ ho hf
  have kk : (putAt m.B i f).map (·.1) = m.B.map (·.1) := putAt_keys ..
  have lt : x.1 < h₀.objs.size := Heap.lt_size ht.2
  have cne : c ≠ x.1 := by
    rintro rfl
    obtain ⟨⟨o, vs2, a1, a2, _⟩, a3⟩ := ht
    rw [a1] at a3
    cases a3
    cases a2
  have code : ∀ {h'' : Heap}, OldK h₀ h'' → ∃ o vs2, h''.get? c = some o ∧ o.cls = .type "code" ∧ o.data = .fields vs2 ∧ vs2[11]? = some (.ref x.1) := fun K => by
    obtain ⟨⟨o, vs2, a1, a2, a4, a5⟩, a3⟩ := ht
    exact ⟨o, vs2, K.get_of_cls a1 (by rw [a2]; exact fun q => nomatch q), a2, a4, a5⟩
  have T1 : h.TableAt c x.1 vs := ⟨code D.old, by rw [ho, ex]; rfl⟩
  have T2 : (h.update x.1 f).TableAt c x.1 (vs ++ more.toArray) := by
    obtain ⟨o, vs2, a1, a2, a4, a5⟩ := code D.old
    exact ⟨⟨o, vs2, (hs.2 c cne).trans a1, a2, a4, a5⟩, by rw [ge, ef, hv']; rfl⟩
  refine ⟨ho, { size := by rw [hs.1, D.size], T := fun a o e => ?_, F := fun p hp => ?_, Z := fun p hp => ?_, B := fun p hp => ?_, zd := D.zd, bd := by show ((putAt m.B i f).map (·.1)).Pairwise _; rw [kk]; exact D.bd, fz := D.fz, fb := fun p hp z hz => ?_, tb := fun z hz => ?_, old := D.old.step_table ht T1 T2 hs.extBut hne, kp := fun b o e n => ?_, stat := ⟨?_, D.stat.2⟩, le := by rw [hs.1]; exact D.le }⟩
  · have q := D.T a o e
    refine ⟨(hs.2 a ?_).trans q.1, q.2⟩
    rintro rfl
    rw [D.tb x hmem] at e; cases e
  · exact (hs.2 p.1 (D.fb p hp x hmem)).trans (D.F p hp)
  · have q := D.Z p hp
    exact ⟨(hs.2 p.1 (Nat.ne_of_gt (Nat.lt_of_lt_of_le lt q.2))).trans q.1, q.2⟩
  · rcases putAt_mem hx D.bd hp with rfl | ⟨h1, h2⟩
    · refine ⟨ge, hne, c, ps, m₁ ++ more.toArray, ht, ?_⟩
      show f x.2 = _
      rw [ef, hv', hvs, Array.append_assoc]
    · exact ⟨(hs.2 p.1 h2).trans (D.B p h1).1, (D.B p h1).2⟩
  · have hz' : z.1 ∈ (putAt m.B i f).map (·.1) := List.mem_map_of_mem hz
    rw [kk] at hz'
    obtain ⟨q, hq, e⟩ := List.mem_map.mp hz'
    rw [← e]
    exact D.fb p hp q hq
  · have hz' : z.1 ∈ (putAt m.B i f).map (·.1) := List.mem_map_of_mem hz
    rw [kk] at hz'
    obtain ⟨q, hq, e⟩ := List.mem_map.mp hz'
    rw [← e]
    exact D.tb q hq
  · have nb : ∀ z ∈ m.B, z.1 ≠ b := fun z hz => by
      have hz' : z.1 ∈ (putAt m.B i f).map (·.1) := by rw [kk]; exact List.mem_map_of_mem hz
      obtain ⟨q, hq, e'⟩ := List.mem_map.mp hz'
      rw [← e']
      exact n q hq
    exact (hs.2 b (fun q => nb x hmem q.symm)).trans (D.kp b o e nb)
  · exact (hs.2 _ (Ne.symm hne)).trans D.stat.1
theorem Rep.atM (D : Rep h₀ m h) {j : Nat} {x : Addr × Obj} (hx : Mine.atM m j = some x) : h.get? x.1 = some x.2 := by
  unfold Mine.atM at hx
  split at hx
  · rw [nth_eq] at hx; exact D.F x (List.mem_of_getElem? hx)
  · rw [nth_eq] at hx; exact (D.Z x (List.mem_of_getElem? hx)).1
  · rw [nth_eq] at hx; exact (D.B x (List.mem_of_getElem? hx)).1
theorem Rep.tok (D : Rep h₀ m h) (t : Nat) : Rep h₀ { m with tk := t } h := ⟨D.size, D.T, D.F, D.Z, D.B, D.zd, D.bd, D.fz, D.fb, D.tb, D.old, D.kp, D.stat, D.le⟩
theorem Rep.noLimit (D : Rep h₀ m h) : h.NoLimit :=
  ⟨fun _ => none, ⟨statObj, #[], 0, D.stat.1, rfl, (fun e he => by simp at he), fun x => rfl⟩, rfl⟩
end
noncomputable def at9 : Option Code → Around → Around
  | none, B => B
  | some c, B => B.under c
noncomputable def ar (A : Around) : Kt → Around
  | .base => A
  | .ret c _ κ => at9 c (ar A κ)
noncomputable def postF (prog : Program) (w : World) (B : Around) (c : Option Code) (R : Result → Shared → Prop) : Fin → Shared → Prop := fun fin s' => match fin with
  | .done f => R (.ok f) s'
  | .again c' => match c with
    | some _ => c'.quiet = true ∧ codeAny (model prog w) B c' R s'
    | none => False
noncomputable def endK (prog : Program) (w : World) (A : Around) (R₀ : Result → Shared → Prop) : Kt → Result → Shared → Prop
  | .base => R₀
  | .ret c k κ => fun r s => wpAny (model prog w) (at9 c (ar A κ)) (k r) (postF prog w (ar A κ) c (endK prog w A R₀ κ)) (fun e s' => endK prog w A R₀ κ (.error e) s') s
noncomputable def Means (prog : Program) (w : World) (A : Around) (R₀ : Result → Shared → Prop) (c : Option Code) (κ : Kt) (t : Sem Fin) (s : Shared) : Prop :=
  wpAny (model prog w) (at9 c (ar A κ)) t (postF prog w (ar A κ) c (endK prog w A R₀ κ)) (fun e s' => endK prog w A R₀ κ (.error e) s') s
structure Light (A : Around) : Prop where
  handled : A.handled = none
  depth : A.depth + 70 < recursionLimit
theorem cs_frames {c : Code} (h : c.frames = if c.isFrame then 1 else 0) : c.frames ≤ 1 := by rw [h]; split <;> decide
theorem dite_le {p : Prop} [Decidable p] {a : p → Nat} {b : ¬p → Nat} (ha : ∀ h, a h ≤ 3) (hb : ∀ h, b h ≤ 3) : dite p a b ≤ 3 := by
  by_cases h : p
  · rw [dif_pos h]; exact ha h
  · rw [dif_neg h]; exact hb h
theorem builtin_frames (id : String) (args : Args) : (Code.builtin id args).frames ≤ 3 := by
  delta Code.frames Code.frames.match_1; dsimp only
  repeat' refine dite_le (fun h => ?_) fun h => ?_
  all_goals first | (subst h; decide) | (split <;> decide)
theorem wgt_weight {c : Code} {n : Nat} (h : wgt c = some n) : c.weight ≤ n := by
  cases c with
  | builtin id args =>
    replace h : (match PySem.W.Fast.strDec id "claim.caller" with | .isTrue _ => none | .isFalse _ => some 5) = some n := h
    split at h
    · cases h
    · rename_i hne _
      cases h
      have h1 := builtin_frames id args
      have h2 : (Code.builtin id args).isCaller = false := by
        unfold Code.isCaller
        split
        · rename_i e; cases e; exact absurd rfl hne
        · rfl
      unfold Code.weight
      rw [h2]
      simp only [Bool.false_eq_true, if_false, Nat.add_zero]
      have h3 : (if (Code.builtin id args).isCreation = true then 1 else 0) ≤ 1 := by split <;> decide
      have h4 : (if (Code.builtin id args).isGuard = true then 1 else 0) ≤ 1 := by split <;> decide
      omega
  | call f args => cases h; exact Nat.le_of_eq rfl
  | body => cases h; exact Nat.le_of_eq rfl
  | block => cases h; exact Nat.le_succ_of_le (Nat.le_of_eq rfl)
  | handlers => cases h; exact Nat.le_succ_of_le (Nat.le_of_eq rfl)
  | starHandlers => cases h; exact Nat.le_succ_of_le (Nat.le_of_eq rfl)
  | func => cases h; exact Nat.le_of_eq rfl
  | expr => cases h; exact Nat.le_of_eq rfl
  | whileLoop => cases h; exact Nat.le_succ_of_le (Nat.le_of_eq rfl)
  | forLoop => cases h; exact Nat.le_succ_of_le (Nat.le_of_eq rfl)
  | asyncForLoop => cases h; exact Nat.le_succ_of_le (Nat.le_of_eq rfl)
  | compStart e d it acc env =>
    cases h
    unfold Code.weight
    have : (Code.compStart e d it acc env).frames ≤ 1 := cs_frames rfl
    simp [Code.isCreation, Code.isGuard, Code.isCaller]
    omega
  | compLoop e d it acc env =>
    cases h
    unfold Code.weight
    have : (Code.compLoop e d it acc env).frames ≤ 1 := cs_frames rfl
    simp [Code.isCreation, Code.isGuard, Code.isCaller]
    omega
theorem code_units (c : Code) : c.cUnits ≤ 10 := by
  cases c with
  | builtin id args =>
    have := builtin_frames id args
    show 1 + 3 * (Code.builtin id args).frames ≤ 10
    omega
  | call => exact Nat.le_of_ble_eq_true rfl
  | body => exact Nat.le_of_ble_eq_true rfl
  | block => exact Nat.le_of_ble_eq_true rfl
  | handlers => exact Nat.le_of_ble_eq_true rfl
  | starHandlers => exact Nat.le_of_ble_eq_true rfl
  | func => exact Nat.le_of_ble_eq_true rfl
  | expr => exact Nat.le_of_ble_eq_true rfl
  | whileLoop => exact Nat.le_of_ble_eq_true rfl
  | forLoop => exact Nat.le_of_ble_eq_true rfl
  | asyncForLoop => exact Nat.le_of_ble_eq_true rfl
  | compStart e d it acc env =>
    have : (Code.compStart e d it acc env).frames ≤ 1 := cs_frames rfl
    show 3 * (Code.compStart e d it acc env).frames ≤ 10
    omega
  | compLoop e d it acc env =>
    have : (Code.compLoop e d it acc env).frames ≤ 1 := cs_frames rfl
    show 3 * (Code.compLoop e d it acc env).frames ≤ 10
    omega
theorem ar_wt {A : Around} : ∀ {κ : Kt} {n : Nat}, κ.wt = some n → (ar A κ).depth ≤ A.depth + n
  | .base, n, h => by cases h; exact Nat.le_refl _
  | .ret none _ κ, n, h => ar_wt (κ := κ) h
  | .ret (some c) _ κ, n, h => by
    unfold Kt.wt at h
    split at h
    · rename_i a b ha hb
      cases h
      have h1 := ar_wt (A := A) hb
      have h2 := wgt_weight ha
      show (ar A κ).depth + c.weight ≤ _
      omega
    · cases h
theorem ar_handled {A : Around} : ∀ κ : Kt, (ar A κ).handled = A.handled
  | .base => rfl
  | .ret none _ κ => ar_handled κ
  | .ret (some c) _ κ => ar_handled κ
theorem at9_handled {A : Around} (c : Option Code) (κ : Kt) : (at9 c (ar A κ)).handled = A.handled := ar_handled (.ret c (fun _ => .unsupported "") κ)
theorem light_depth {A : Around} (L : Light A) {c : Option Code} {κ : Kt} (h : lightB c κ = true) : (at9 c (ar A κ)).depth < recursionLimit := by
  unfold lightB at h
  split at h
  · rename_i n hn
    have h1 := ar_wt (A := A) hn
    have h2 : n ≤ 70 := Nat.le_of_ble_eq_true h
    have h3 := L.depth
    show (ar A (.ret c (fun _ => .unsupported "") κ)).depth < _
    omega
  · cases h
noncomputable def Kt.ln : Kt → Nat
  | .base => 0
  | .ret _ _ κ => κ.ln + 1
theorem ar_un {A : Around} : ∀ κ : Kt, (ar A κ).units ≤ A.units + 10 * κ.ln
  | .base => Nat.le_refl _
  | .ret none _ κ => by
    have := ar_un (A := A) κ
    show (ar A κ).units ≤ A.units + 10 * (κ.ln + 1)
    omega
  | .ret (some c) _ κ => by
    have := ar_un (A := A) κ
    have h2 := code_units c
    show (ar A κ).units + c.cUnits ≤ A.units + 10 * (κ.ln + 1)
    omega
structure Deep (n : Nat) (A : Around) : Prop where
  handled : A.handled = none
  depth : A.depth + n + 70 < recursionLimit
  units : A.units + 10 * n + 100 < cLine
theorem Deep.light {n : Nat} {A : Around} (L : Deep n A) : Light A := ⟨L.handled, by have := L.depth; omega⟩
theorem Deep.room {n : Nat} {A : Around} (L : Deep n A) : A.units < cLine := by have := L.units; omega
theorem Deep.less {n n' : Nat} {A : Around} (L : Deep n A) (h : n' ≤ n) : Deep n' A := ⟨L.handled, by have := L.depth; omega, by have := L.units; omega⟩
theorem Deep.in1 {n : Nat} {A : Around} (L : Deep (n + 1) A) : Deep n A.in1 := ⟨L.handled, by have := L.depth; show A.depth + n + 70 < _; omega, by have := L.units; show A.units + 1 + 10 * n + 100 < _; omega⟩
theorem Deep.under {n k : Nat} {A : Around} {c : Code} (L : Deep (n + k + 1) A) (h : wgt c = some k) : Deep n (A.under c) := by
  have h1 := wgt_weight h
  have h2 := code_units c
  refine ⟨L.handled, ?_, ?_⟩
  · have := L.depth; show A.depth + c.weight + n + 70 < _; omega
  · have := L.units; show A.units + c.cUnits + 10 * n + 100 < _; omega
theorem Deep.ar {n n' a : Nat} {A : Around} {κ : Kt} (L : Deep n A) (h : κ.wt = some a) (h1 : n' + a ≤ n) (h2 : n' + κ.ln ≤ n) : Deep n' (ar A κ) := by
  have d1 := ar_wt (A := A) h
  have d2 := ar_un (A := A) κ
  refine ⟨(ar_handled κ).trans L.handled, ?_, ?_⟩
  · have := L.depth; omega
  · have := L.units; omega
section
variable {prog : Program} {w : World} {A : Around} {R : Result → Shared → Prop} {h : Heap} {g : Array GenState} {d : Drawn} {tk : Nat} {os : OsState}
theorem c_gives {T id : String} {name : Str} {B : Builtin} {a b : Value} {m : Made} {s : Shared} (slot : Slot T name id) (entry : entryFor table id = some B) (args : argsOk id ⟨[a, b], []⟩)
    (ga : Gives (B ⟨[a, b], []⟩) m) (ha : s.TypeIs a T) (H : m.post (fun v s' => R (.ok (.ret v)) s') s) : codeAny (model prog w) A (.call (.builtin id) ⟨[a, b], []⟩) R s :=
  codeAny_call_builtin slot.plain entry (slot.check _ _ _ _ _ _ _ _ ha args (ga prog w A R s H))
theorem c_gives1 {T id : String} {name : Str} {B : Builtin} {a : Value} {m : Made} {s : Shared} (slot : Slot T name id) (entry : entryFor table id = some B) (args : argsOk id ⟨[a], []⟩)
    (ga : Gives (B ⟨[a], []⟩) m) (ha : s.TypeIs a T) (H : m.post (fun v s' => R (.ok (.ret v)) s') s) : codeAny (model prog w) A (.call (.builtin id) ⟨[a], []⟩) R s :=
  codeAny_call_builtin slot.plain entry (slot.check _ _ _ _ _ _ _ _ ha args (ga prog w A R s H))
theorem noPylong (x : Int) {y : Int} (h0 : 0 < y) (h1 : y < 1000) : ¬ Builtin.divisionGoesByPylong x y = true := by
  unfold Builtin.divisionGoesByPylong
  have hy : y.natAbs < 2 ^ 30 := by omega
  have : y.natAbs.log2 < 30 := by
    by_cases z : y.natAbs = 0
    · rw [z]; decide
    · exact (Nat.log2_lt z).mpr hy
  have e : (if (y == 0) = true then 0 else y.natAbs.log2 / 30 + 1) ≤ 1 := by split <;> omega
  simp only [Bool.and_eq_true, decide_eq_true_eq, not_and]
  intro q
  omega
theorem pick_eq {α : Type} {s : String} {r : α} : ∀ {l : List (String × α)}, pick s l = some r → (s, r) ∈ l
  | [], h => by cases h
  | x :: l, h => by
    unfold pick at h
    split at h
    · rename_i e _
      cases h
      subst e
      exact .head _
    · exact .tail _ (pick_eq h)
theorem smallLit_eq {y : Int} (h : smallLit y = true) : 0 < y ∧ y < 1000 := by
  unfold smallLit at h
  simpa using h
noncomputable def prim2R (r : Nat) (x y : Int) (tk : Nat) : PrimR := match r with
    | 0 => match smallLit y with
      | true => .val (.int (x.fmod y) tk) 1 []
      | false => .no
    | 1 => match smallLit y with
      | true => .val (.int (x.fdiv y) tk) 1 []
      | false => .no
    | 2 => .val (.int (x + y) tk) 1 []
    | 3 => .val (.int (x - y) tk) 1 []
    | 4 => .val (.int (x * y) tk) 1 [IntMulOk x y]
    | 5 => .val (.bool (decide (x < y))) 0 []
    | 6 => .val (.bool (decide (x > y))) 0 []
    | 7 => .val (.bool (x == y)) 0 []
    | 8 => .val (.bool (decide (x ≤ y))) 0 []
    | 9 => .val (.bool (decide (x ≥ y))) 0 []
    | _ => .no
theorem all_c {α : Type} {P : α → Prop} {a : α} {l : List α} (h : P a) (t : ∀ p ∈ l, P p) : ∀ p ∈ a :: l, P p := fun p q => by
  cases q with
  | head => exact h
  | tail _ q => exact t p q
theorem all_n {α : Type} {P : α → Prop} : ∀ p ∈ ([] : List α), P p := fun _ h => nomatch h
theorem sm_val {b : Bool} {a : Value} {v : Value} {dt : Nat} {ps : List Prop} (e : (match b with | true => PrimR.val a 1 [] | false => .no) = PrimR.val v dt ps) : b = true ∧ PrimR.val a 1 [] = PrimR.val v dt ps := by
  cases b with
  | true => exact ⟨rfl, e⟩
  | false => cases e
theorem prim2_ok {s : String} {x y : Int} {t u tk0 dt : Nat} {v : Value} {ps : List Prop} (e : prim2 s x y tk = .val v dt ps) (hp : ∀ p ∈ ps, p) (H : R (.ok (.ret v)) ⟨h, g, d, tk + dt, os⟩) :
    codeAny (model prog w) A (.call (.builtin s) ⟨[.int x t, .int y u], []⟩) R ⟨h, g, d, tk, os⟩ := by
  have e' : (match pick s [("int.__mod__", (0 : Nat)), ("int.__floordiv__", 1), ("int.__add__", 2), ("int.__sub__", 3), ("int.__mul__", 4),
    ("int.__lt__", 5), ("int.__gt__", 6), ("int.__eq__", 7), ("int.__le__", 8), ("int.__ge__", 9)] with
    | none => PrimR.no
    | some r => prim2R r x y tk) = .val v dt ps := e
  clear e
  split at e'
  · cases e'
  · rename_i r hr
    have hm := pick_eq hr
    clear hr
    have C : ∀ {v' : Value} {dt' : Nat} {ps' : List Prop}, PrimR.val v' dt' ps' = PrimR.val v dt ps → R (.ok (.ret v')) ⟨h, g, d, tk + dt', os⟩ := fun e => by cases e; exact H
    refine all_c (P := fun p => prim2R p.2 x y tk = .val v dt ps → codeAny (model prog w) A (.call (.builtin p.1) ⟨[.int x t, .int y u], []⟩) R ⟨h, g, d, tk, os⟩) ?_ (all_c ?_ (all_c ?_ (all_c ?_ (all_c ?_ (all_c ?_ (all_c ?_ (all_c ?_ (all_c ?_ (all_c ?_ all_n))))))))) (s, r) hm e'
    · intro e
      have q := smallLit_eq (sm_val e).1
      exact c_gives F.slot_int_mod F.entry_int_mod (F.args_int_mod_2 _ _) (AutoIntG6.int___mod___int_int_1 x t y u (by simp; omega)) (typeIs_int _ x t) (C (sm_val e).2)
    · intro e
      have q := smallLit_eq (sm_val e).1
      exact c_gives F.slot_int_floordiv F.entry_int_floordiv (F.args_int_floordiv_2 _ _) (AutoIntG4.int___floordiv___int_int_1 x t y u (by simp; omega) (noPylong x q.1 q.2)) (typeIs_int _ x t) (C (sm_val e).2)
    · exact fun e => c_gives slot_int_add entry_int_add (args_int_add _ _) (AutoIntG4.int___add___int_int_0 x t y u) (typeIs_int _ x t) (C e)
    · exact fun e => c_gives slot_int_sub entry_int_sub (args_int_sub _ _) (AutoIntG9.int___sub___int_int_0 x t y u) (typeIs_int _ x t) (C e)
    · intro e
      have hm : IntMulOk x y := by
        have e2 : PrimR.val (.int (x * y) tk) 1 [IntMulOk x y] = PrimR.val v dt ps := e
        injection e2 with _ _ e3
        subst e3
        exact hp _ (.head _)
      exact c_gives slot_int_mul entry_int_mul (args_int_mul _ _) (AutoIntG1.int___mul___int_int_0 x t y u hm) (typeIs_int _ x t) (C e)
    · exact fun e => c_gives slot_int_lt entry_int_lt (args_int_lt _ _) (AutoIntG1.int___lt___int_int_0 x t y u) (typeIs_int _ x t) (C e)
    · exact fun e => c_gives F.slot_int_gt F.entry_int_gt (F.args_int_gt_2 _ _) (AutoIntG4.int___gt___int_int_0 x t y u) (typeIs_int _ x t) (C e)
    · exact fun e => c_gives slot_int_eq entry_int_eq (args_int_eq _ _) (AutoIntG7.int___eq___int_int_0 x t y u) (typeIs_int _ x t) (C e)
    · exact fun e => c_gives slot_int_le entry_int_le (args_int_le _ _) (AutoIntG1.int___le___int_int_0 x t y u) (typeIs_int _ x t) (C e)
    · exact fun e => c_gives slot_int_ge entry_int_ge (args_int_ge _ _) (AutoIntG9.int___ge___int_int_0 x t y u) (typeIs_int _ x t) (C e)
theorem prim1_ok {s : String} {x : Int} {t dt : Nat} {v : Value} {ps : List Prop} (e : prim1 s x tk = .val v dt ps) (H : R (.ok (.ret v)) ⟨h, g, d, tk + dt, os⟩) :
    codeAny (model prog w) A (.call (.builtin s) ⟨[.int x t], []⟩) R ⟨h, g, d, tk, os⟩ := by
  unfold prim1 at e
  split at e
  · rename_i q _
    subst q
    cases e
    exact c_gives1 slot_int_neg entry_int_neg (args_int_neg _) (AutoIntG9.int___neg___int_0 x t) (typeIs_int _ x t) H
  · cases e
theorem prim1_no {s : String} {x : Int} {l : Addr} {k : Int} : prim1 s x tk ≠ .item l k := by
  unfold prim1; split <;> exact fun q => nomatch q
theorem prim2_no {s : String} {x y : Int} {l : Addr} {k : Int} : prim2 s x y tk ≠ .item l k := by
  intro e
  have e' : (match pick s [("int.__mod__", (0 : Nat)), ("int.__floordiv__", 1), ("int.__add__", 2), ("int.__sub__", 3), ("int.__mul__", 4),
    ("int.__lt__", 5), ("int.__gt__", 6), ("int.__eq__", 7), ("int.__le__", 8), ("int.__ge__", 9)] with
    | none => PrimR.no
    | some r => prim2R r x y tk) = .item l k := e
  clear e
  split at e'
  · cases e'
  · rename_i r hr
    have n : ∀ {b : Bool} {a : Value}, (match b with | true => PrimR.val a 1 [] | false => .no) ≠ PrimR.item l k := fun {b a} => by cases b <;> exact fun q => nomatch q
    refine all_c (P := fun p => prim2R p.2 x y tk ≠ .item l k) ?_ (all_c ?_ (all_c ?_ (all_c ?_ (all_c ?_ (all_c ?_ (all_c ?_ (all_c ?_ (all_c ?_ (all_c ?_ all_n))))))))) (s, r) (pick_eq hr) e'
    · exact n
    · exact n
    all_goals exact fun q => nomatch (show PrimR.val _ _ _ = PrimR.item l k from q)
theorem prim_ok {c : Code} {dt : Nat} {v : Value} {ps : List Prop} (e : primA c tk = .val v dt ps) (hp : ∀ p ∈ ps, p) (H : R (.ok (.ret v)) ⟨h, g, d, tk + dt, os⟩) :
    codeAny (model prog w) A c R ⟨h, g, d, tk, os⟩ := by
  cases c with
  | call f a =>
    cases f with
    | builtin s =>
      obtain ⟨pos, kw⟩ := a
      cases kw with
      | cons => cases e
      | nil =>
        have e' : primB s pos tk = .val v dt ps := e
        unfold primB at e'
        split at e'
        · cases e'
        · split at e'
          · split at e'
            · exact prim1_ok e' H
            · cases e'
          · split at e'
            · split at e'
              · split at e'
                · exact prim2_ok (tk0 := 0) e' hp H
                · split at e' <;> cases e'
                · cases e'
              · cases e'
            · cases e'
    | _ => cases e
  | _ => cases e
theorem allI_get : ∀ {l : List Value} {j : Nat}, allI l = true → j < l.length → l.getD j .none = .int (intOf (l.getD j .none)) (tokOf (l.getD j .none))
  | [], _, _, hj => by cases hj
  | v :: l, j, e, hj => by
    cases v with
    | int x t =>
      cases j with
      | zero => rfl
      | succ j => exact allI_get (l := l) e (Nat.lt_of_succ_lt_succ hj)
    | _ => cases e
theorem allS_get : ∀ {l : List Value} {j : Nat}, allS l = true → j < l.length → l.getD j .none = .str (txtOf (l.getD j .none)) (tokOf (l.getD j .none))
  | [], _, _, hj => by cases hj
  | v :: l, j, e, hj => by
    cases v with
    | str x t =>
      cases j with
      | zero => rfl
      | succ j => exact allS_get (l := l) e (Nat.lt_of_succ_lt_succ hj)
    | _ => cases e
theorem c_itemL {l : Addr} {items : Array Value} {k : Int} {t : Tok} {x : Value} (hl : h.IsList l items) (h0 : 0 ≤ k) (hfit : k < 2 ^ 63) (hx : items[k.toNat]? = some x)
    (H : R (.ok (.ret x)) ⟨h, g, d, tk, os⟩) : codeAny (model prog w) A (.call (.builtin "list.__getitem__") ⟨[.ref l, .int k t], []⟩) R ⟨h, g, d, tk, os⟩ := by
  have hl' : (⟨h, g, d, tk, os⟩ : Shared).heap.IsList l items := hl
  obtain ⟨o, ho, hc, n, hd⟩ := hl
  refine codeAny_call_builtin slot_list_getitem.plain entry_list_getitem (slot_list_getitem.check _ _ _ _ _ _ _ _ hl'.typeIs (args_list_getitem _ _) ?_)
  show wpAny _ _ (Builtin.List.listSubscript? (.int k t) >>= _) _ _ _
  refine wpAny_bind (wpAny_listSubscript_int (fitsIndex_of h0 hfit) ?_)
  clear hfit
  obtain ⟨j, rfl⟩ := Int.eq_ofNat_of_zero_le h0
  have hx' : items[j]? = some x := hx
  show wpAny _ _ ((seqItemAt l j >>= fun r => pure (r.map (j, ·))) >>= _) _ _ _
  refine wpAny_bind (wpAny_bind (wpAny_seqItemAt ho hd (wpAny_pure ?_)))
  rw [hx']
  first
    | exact wpAny_bind (wpAny_pure (wpAny_pure H))
    | exact wpAny_pure H
theorem lstOf_eq {o : Obj} {items : Array Value} (e : lstOf o = some items) : o.cls = .type "list" ∧ ∃ n, o.data = .seq items n := by
  unfold lstOf at e
  split at e
  · rename_i s hs
    split at e
    · rename_i q _
      subst q
      split at e
      · rename_i n hd
        cases e
        exact ⟨hs, n, hd⟩
      · cases e
    · cases e
  · cases e
theorem itemR_ok {o : Obj} {k : Int} {r : Value × Prop} (e : itemR o k = some r) (hp : r.2) {l : Addr} (ho : h.get? l = some o) : ∃ items, h.IsList l items ∧ 0 ≤ k ∧ k < 2 ^ 63 ∧ items[k.toNat]? = some r.1 := by
  unfold itemR at e
  split at e
  · rename_i items hl
    obtain ⟨hc, n, hd⟩ := lstOf_eq hl
    have key : (0 ≤ k ∧ k < items.toList.length ∧ k < 1000) → 0 ≤ k ∧ k < 2 ^ 63 ∧ k.toNat < items.toList.length ∧ items[k.toNat]? = some (items.toList.getD k.toNat .none) := fun q => by
      have q1 : k.toNat < items.toList.length := by omega
      refine ⟨q.1, by omega, q1, ?_⟩
      rw [← Array.getElem?_toList, List.getD_eq_getElem?_getD, List.getElem?_eq_getElem q1]
      rfl
    split at e
    · rename_i q
      cases e
      obtain ⟨a1, a2, a3, a4⟩ := key hp
      refine ⟨items, ⟨o, ho, hc, n, hd⟩, a1, a2, ?_⟩
      rw [a4, allI_get q a3]
      rfl
    · split at e
      · rename_i q
        cases e
        obtain ⟨a1, a2, a3, a4⟩ := key hp
        refine ⟨items, ⟨o, ho, hc, n, hd⟩, a1, a2, ?_⟩
        rw [a4, allS_get q a3]
        rfl
      · cases e
  · cases e
theorem item_ok {c : Code} {l : Addr} {k : Int} {r : Value × Prop} {o : Obj} (e : primA c tk = .item l k) (ho : h.get? l = some o) (er : itemR o k = some r) (hp : r.2) (H : R (.ok (.ret r.1)) ⟨h, g, d, tk, os⟩) :
    codeAny (model prog w) A c R ⟨h, g, d, tk, os⟩ := by
  cases c with
  | call f a =>
    cases f with
    | builtin s =>
      obtain ⟨pos, kw⟩ := a
      cases kw with
      | cons => cases e
      | nil =>
        have e' : primB s pos tk = .item l k := e
        unfold primB at e'
        split at e'
        · cases e'
        · split at e'
          · split at e'
            · exact absurd e' prim1_no
            · cases e'
          · split at e'
            · split at e'
              · split at e'
                · exact absurd e' prim2_no
                · split at e'
                  · rename_i q _
                    subst q
                    cases e'
                    obtain ⟨items, a1, a2, a3, a4⟩ := itemR_ok er hp ho
                    exact c_itemL a1 a2 a3 a4 H
                  · cases e'
                · cases e'
              · cases e'
            · cases e'
    | _ => cases e
  | _ => cases e
end
section
variable {prog : Program} {w : World} {A : Around} {R₀ : Result → Shared → Prop} {V : Env9} {h₀ : Heap} {g : Array GenState} {d : Drawn} {os : OsState}
noncomputable def Good (prog : Program) (w : World) (A : Around) (R₀ : Result → Shared → Prop) (h₀ : Heap) (g : Array GenState) (d : Drawn) (os : OsState) : Res → Prop
  | .hole c κ m o => o.Ok ∧ ∀ h, Rep h₀ m h → codeAny (model prog w) (ar A κ) c (endK prog w A R₀ κ) ⟨h, g, d, m.tk, os⟩
  | .done r m o => o.Ok ∧ ∀ h, Rep h₀ m h → R₀ r ⟨h, g, d, m.tk, os⟩
  | .bad _ => False
theorem Good.ok {res : Res} (h : Good prog w A R₀ h₀ g d os res) : ∃ o, res.obl? = some o ∧ o.Ok := by
  cases res with
  | hole c κ m o => exact ⟨o, rfl, h.1⟩
  | done r m o => exact ⟨o, rfl, h.1⟩
  | bad => exact h.elim
noncomputable def Snd (prog : Program) (w : World) (A : Around) (R₀ : Result → Shared → Prop) (h₀ : Heap) (g : Array GenState) (d : Drawn) (os : OsState) (ih : Go) : Prop :=
  ∀ n hs c κ t m o, Good prog w A R₀ h₀ g d os (ih n hs c κ t m o) → ∀ h, Rep h₀ m h → Means prog w A R₀ c κ t ⟨h, g, d, m.tk, os⟩
theorem retS_snd {ih : Go} (IH : Snd prog w A R₀ h₀ g d os ih) {n hs r κ m o} (H : Good prog w A R₀ h₀ g d os (retS ih n hs r κ m o)) {h : Heap} (D : Rep h₀ m h) : endK prog w A R₀ κ r ⟨h, g, d, m.tk, os⟩ := by
  cases κ with
  | base => exact H.2 h D
  | ret c k κ => exact IH _ _ _ _ _ _ _ H h D
theorem step_snd (L : Light A) (hP : V.P = ⟨prog, w.params⟩) {ih : Go} (OK : OkAll ih) (IH : Snd prog w A R₀ h₀ g d os ih) : Snd prog w A R₀ h₀ g d os (stepS V ih) := by
  intro n hs c κ t m o H h D
  cases t with
  | pure fin =>
    cases fin with
    | done f => exact wpAny_pure (retS_snd IH H D)
    | again c' =>
      delta stepS at H; dsimp only at H
      split at H
      · rename_i hq
        split at H
        · split at H
          · refine wpAny_pure ?_
            show c'.quiet = true ∧ _
            exact ⟨hq, H.2 h D⟩
          · refine wpAny_pure ?_
            show c'.quiet = true ∧ _
            refine ⟨hq, codeAny_of_tree ?_⟩
            have z := IH _ _ _ _ _ _ _ H h D
            show wpAny (model prog w) _ (denote table c') _ _ _
            rw [den_eq]
            exact z
        · exact H.elim
      · exact H.elim
  | raise e => exact wpAny_throw (retS_snd IH H D)
  | rule _ k => exact x_rule (IH _ _ _ _ _ _ _ H h D)
  | «at» _ k => exact x_at (IH _ _ _ _ _ _ _ H h D)
  | point _ k => exact x_point (IH _ _ _ _ _ _ _ H h D)
  | ask k =>
    have z := IH _ _ _ _ _ _ _ H h D
    rw [hP] at z
    exact x_ask z
  | fresh k => exact x_fresh (IH _ _ _ _ _ _ _ H h (D.tok _))
  | load a q k =>
    delta stepS at H; dsimp only at H
    split at H
    · split at H
      · rename_i x hx
        exact x_load (D.T a x hx).1 (IH _ _ _ _ _ _ _ H h D)
      · exact H.elim
    · split at H
      · split at H
        · rename_i x hx
          obtain ⟨o', h1, h2⟩ := H.ok
          have e := (ok_addr (OK _ _ _ _ _ _ _ _ h1 h2)).1
          refine x_load (o := x.2) ?_ (IH _ _ _ _ _ _ _ H h D)
          rw [e]; exact D.atM hx
        · exact H.elim
      · exact H.elim
  | loadIfAlive a k =>
    have key : ∀ (x : Obj), h.get? a = some x → Means prog w A R₀ c κ (k (some x)) ⟨h, g, d, m.tk, os⟩ → Means prog w A R₀ c κ (.loadIfAlive a k) ⟨h, g, d, m.tk, os⟩ := fun x hx z Γ p hΓ => by
      have z' := z Γ p hΓ
      rw [← hx] at z'
      exact z'
    delta stepS at H; dsimp only at H
    split at H
    · split at H
      · rename_i x hx
        exact key x (D.T a x hx).1 (IH _ _ _ _ _ _ _ H h D)
      · exact H.elim
    · split at H
      · split at H
        · rename_i x hx
          obtain ⟨o', h1, h2⟩ := H.ok
          have e := (ok_addr (OK _ _ _ _ _ _ _ _ h1 h2)).1
          refine key x.2 ?_ (IH _ _ _ _ _ _ _ H h D)
          rw [e]; exact D.atM hx
        · exact H.elim
      · exact H.elim
  | alloc x k =>
    delta stepS at H; dsimp only at H
    split at H
    · exact H.elim
    · rename_i hf
      refine wpAny_bind (m := PySem.alloc x) (f := k) (wpAny_alloc ?_)
      have z := IH _ _ _ _ _ _ _ H _ (D.alloc hf)
      show Means prog w A R₀ c κ (k h.objs.size) _
      rw [D.size]
      exact z
  | update a q f k =>
    delta stepS at H; dsimp only at H
    split at H
    · exact H.elim
    · split at H
      · split at H
        · split at H
          · rename_i x hx
            split at H
            · exact H.elim
            · rename_i hf
              obtain ⟨o', h1, h2⟩ := H.ok
              have e := (ok_addr (OK _ _ _ _ _ _ _ _ h1 h2)).1
              obtain ⟨ho, D'⟩ := D.update hx hf
              subst e
              exact wpAny_bind (m := updatePart x.1 q f) (f := k) (wpAny_updatePart ho (IH _ _ _ _ _ _ _ H _ D'))
          · exact H.elim
        · split at H
          · rename_i x hx
            split at H
            · rename_i vs vs' e1 e2
              split at H
              · rename_i more hm
                obtain ⟨o', h1, h2⟩ := H.ok
                have e := (ok_addr (OK _ _ _ _ _ _ _ _ h1 h2)).1
                obtain ⟨ho, D'⟩ := D.table hx e1 e2 hm
                subst e
                exact wpAny_bind (m := updatePart x.1 q f) (f := k) (wpAny_updatePart ho (IH _ _ _ _ _ _ _ H _ D'))
              · exact H.elim
            · exact H.elim
          · exact H.elim
        · exact H.elim
      · exact H.elim
  | handled own k =>
    delta stepS at H; dsimp only at H
    split at H
    · refine x_handled ?_
      rw [at9_handled, L.handled]
      exact IH _ _ _ _ _ _ _ H h D
    · exact H.elim
  | stack k =>
    delta stepS at H; dsimp only at H
    split at H
    · rename_i hl
      split at H
      · obtain ⟨o', h1, h2⟩ := H.ok
        have e := (ok_tree (OK _ _ _ _ _ _ _ _ h1 h2)).1
        have z := IH _ _ _ _ _ _ _ H h D
        show Means prog w A R₀ c κ (.stack k) _
        rw [e, ← enterT_eq, ← PySem.W.R.bindR_eq]
        exact wpAny_bind (m := enterFrame) (f := fun _ => aft (k []) statObj) (wpAny_enterFrame D.noLimit (light_depth L hl) z)
      · exact H.elim
    · exact H.elim
  | call c' hd gd l k =>
    have inl : ∀ {n hs κ'}, κ' = Kt.ret c k κ → Good prog w A R₀ h₀ g d os (ih n hs (some c') κ' (den c') m o) → Means prog w A R₀ c κ (.call c' none gd l k) ⟨h, g, d, m.tk, os⟩ := fun e q => by
      subst e
      refine x_call (codeAny_of_tree ?_) (by simp)
      have z := IH _ _ _ _ _ _ _ q h D
      show wpAny (model prog w) _ (denote table c') _ _ _
      rw [den_eq]
      exact z
    delta stepS at H; dsimp only at H
    split at H
    · split at H
      · exact x_call (H.2 h D) (by simp)
      · split at H
        · exact inl rfl H
        · rename_i v dt ps hp
          obtain ⟨o', h1, h2⟩ := H.ok
          have e := (ok_props (OK _ _ _ _ _ _ _ _ h1 h2)).1
          exact x_call (prim_ok hp e (IH _ _ _ _ _ _ _ H h (D.tok _))) (by simp)
        · rename_i l' y hp
          split at H
          · split at H
            · split at H
              · split at H
                · rename_i x hx
                  split at H
                  · rename_i r hr
                    obtain ⟨o', h1, h2⟩ := H.ok
                    have e := ok_addr (OK _ _ _ _ _ _ _ _ h1 h2)
                    have e2 := (ok_props (ps := [_]) e.2).1
                    refine x_call (item_ok hp (o := x.2) ?_ hr (e2 _ (.head _)) (IH _ _ _ _ _ _ _ H h D)) (by simp)
                    rw [e.1]; exact D.atM hx
                  · exact H.elim
                · exact H.elim
              · exact inl rfl H
            · exact inl rfl H
          · exact inl rfl H
    · exact H.elim
  | _ => exact H.elim
theorem run_snd (L : Light A) (hP : V.P = ⟨prog, w.params⟩) : ∀ f, Snd prog w A R₀ h₀ g d os (runS V f)
  | 0 => fun _ _ _ _ _ _ _ H => H.elim
  | f + 1 => step_snd L hP (run_ok f) (run_snd L hP f)
end
end Mine
namespace Mine
open PySem
noncomputable def spB {α : Type} (f : Bool → α) : α × α := (f false, f true)
noncomputable def spB' {α : Type} (f : Bool → α) : α × α := (f false, f true)
theorem ckB {α : Type} {f g : Bool → α} (h : spB f = spB' g) (b : Bool) : f b = g b := by
  have h1 := congrArg Prod.fst h
  have h2 := congrArg Prod.snd h
  cases b
  · exact h1
  · exact h2
noncomputable def spO {β α : Type} (f : Option β → α) : α × (β → α) := (f none, fun x => f (some x))
noncomputable def spO' {β α : Type} (f : Option β → α) : α × (β → α) := (f none, fun x => f (some x))
theorem ckO {β α : Type} {f g : Option β → α} (h : spO f = spO' g) (o : Option β) : f o = g o := by
  have h1 := congrArg Prod.fst h
  have h2 := congrArg Prod.snd h
  cases o with
  | none => exact h1
  | some x => exact congrFun h2 x
theorem kB {α : Type} {f g : Bool → α} (h : spB f = spB' g) : ∀ b, f b = g b := ckB h
theorem kBB {α : Type} {f g : Bool → Bool → α} (h : (spB fun b => spB (f b)) = spB' fun b => spB' (g b)) : ∀ b c, f b c = g b c := fun b c => ckB (f := f b) (g := g b) (ckB (f := fun b => spB (f b)) (g := fun b => spB' (g b)) h b) c
theorem kOB {β α : Type} {f g : Option β → Bool → α} (h : (spO fun b => spB (f b)) = spO' fun b => spB' (g b)) : ∀ b c, f b c = g b c := fun b c => ckB (f := f b) (g := g b) (ckO (f := fun b => spB (f b)) (g := fun b => spB' (g b)) h b) c
theorem kOBB {β α : Type} {f g : Option β → Bool → Bool → α} (h : (spO fun o => spB fun b => spB (f o b)) = spO' fun o => spB' fun b => spB' (g o b)) : ∀ o b c, f o b c = g o b c := fun o => kBB (f := f o) (g := g o) (ckO (f := fun o => spB fun b => spB (f o b)) (g := fun o => spB' fun b => spB' (g o b)) h o)
noncomputable def sp2 {β α : Type} (a b : β) (f : β → α) : α × α := (f a, f b)
noncomputable def sp2' {β α : Type} (a b : β) (f : β → α) : α × α := (f a, f b)
theorem ck2 {β α : Type} {a b n : β} {f g : β → α} (h : sp2 a b f = sp2' a b g) (hn : n = a ∨ n = b) : f n = g n := by
  have h1 := congrArg Prod.fst h
  have h2 := congrArg Prod.snd h
  rcases hn with rfl | rfl
  · exact h1
  · exact h2
noncomputable def sp3 {β α : Type} (a b c : β) (f : β → α) : α × α × α := (f a, f b, f c)
noncomputable def sp3' {β α : Type} (a b c : β) (f : β → α) : α × α × α := (f a, f b, f c)
theorem ck3 {β α : Type} {a b c n : β} {f g : β → α} (h : sp3 a b c f = sp3' a b c g) (hn : n = a ∨ n = b ∨ n = c) : f n = g n := by
  have h1 := congrArg Prod.fst h
  have h2 := congrArg Prod.snd h
  rcases hn with rfl | hn
  · exact h1
  · exact ck2 h2 hn
noncomputable def sp6 {β α : Type} (a b c d e k : β) (f : β → α) : (α × α × α) × (α × α × α) := (sp3 a b c f, sp3 d e k f)
noncomputable def sp6' {β α : Type} (a b c d e k : β) (f : β → α) : (α × α × α) × (α × α × α) := (sp3' a b c f, sp3' d e k f)
theorem ck6 {β α : Type} {a b c d e k n : β} {f g : β → α} (h : sp6 a b c d e k f = sp6' a b c d e k g) (hn : n = a ∨ n = b ∨ n = c ∨ n = d ∨ n = e ∨ n = k) : f n = g n := by
  have h1 := congrArg Prod.fst h
  have h2 := congrArg Prod.snd h
  rcases hn with hn | hn | hn | hn
  · exact ck3 h1 (.inl hn)
  · exact ck3 h1 (.inr (.inl hn))
  · exact ck3 h1 (.inr (.inr hn))
  · exact ck3 h2 hn
noncomputable def sp8 {β α : Type} (a b c d e k l m : β) (f : β → α) : ((α × α) × (α × α)) × ((α × α) × (α × α)) := ((sp2 a b f, sp2 c d f), (sp2 e k f, sp2 l m f))
noncomputable def sp8' {β α : Type} (a b c d e k l m : β) (f : β → α) : ((α × α) × (α × α)) × ((α × α) × (α × α)) := ((sp2' a b f, sp2' c d f), (sp2' e k f, sp2' l m f))
theorem ck8 {β α : Type} {a b c d e k l m n : β} {f g : β → α} (h : sp8 a b c d e k l m f = sp8' a b c d e k l m g) (hn : n = a ∨ n = b ∨ n = c ∨ n = d ∨ n = e ∨ n = k ∨ n = l ∨ n = m) : f n = g n := by
  have h1 := congrArg (fun x => x.1.1) h
  have h2 := congrArg (fun x => x.1.2) h
  have h3 := congrArg (fun x => x.2.1) h
  have h4 := congrArg (fun x => x.2.2) h
  rcases hn with hn | hn | hn | hn | hn | hn | hn
  · exact ck2 h1 (.inl hn)
  · exact ck2 h1 (.inr hn)
  · exact ck2 h2 (.inl hn)
  · exact ck2 h2 (.inr hn)
  · exact ck2 h3 (.inl hn)
  · exact ck2 h3 (.inr hn)
  · exact ck2 h4 hn
noncomputable def spV {α : Type} (f : Value → α) : (Int → Nat → α) × (Str → Nat → α) × (Nat → α) := (fun x t => f (.int x t), fun x t => f (.str x t), fun a => f (.ref a))
noncomputable def spV' {α : Type} (f : Value → α) : (Int → Nat → α) × (Str → Nat → α) × (Nat → α) := (fun x t => f (.int x t), fun x t => f (.str x t), fun a => f (.ref a))
theorem ckV {α : Type} {f g : Value → α} (h : spV f = spV' g) {v : Value} (hv : (∃ x t, v = .int x t) ∨ (∃ x t, v = .str x t) ∨ (∃ a, v = .ref a)) : f v = g v := by
  have h1 := congrArg Prod.fst h
  have h2 := congrArg (fun x => x.2.1) h
  have h3 := congrArg (fun x => x.2.2) h
  rcases hv with ⟨x, t, rfl⟩ | ⟨x, t, rfl⟩ | ⟨x, rfl⟩
  · exact congrFun (congrFun h1 x) t
  · exact congrFun (congrFun h2 x) t
  · exact congrFun h3 x
end Mine
namespace Mine
open PySem
theorem kD2 {β α : Type} {a b : β} {f g : β → α} (h : sp2 a b f = sp2' a b g) : ∀ i, (i = a ∨ i = b) → f i = g i := fun _ => ck2 h
theorem k2B {β α : Type} {a c : β} {f g : β → Bool → α} (h : (sp2 a c fun i => spB (f i)) = sp2' a c fun i => spB' (g i)) : ∀ i, (i = a ∨ i = c) → ∀ b, f i b = g i b := fun _ hi => ckB (ck2 (f := fun i => spB (f i)) (g := fun i => spB' (g i)) h hi)
theorem k2BB {β α : Type} {a c : β} {f g : β → Bool → Bool → α} (h : (sp2 a c fun i => spB fun b => spB (f i b)) = sp2' a c fun i => spB' fun b => spB' (g i b)) : ∀ i, (i = a ∨ i = c) → ∀ b c, f i b c = g i b c := fun i hi => kBB (f := f i) (g := g i) (ck2 (f := fun i => spB fun b => spB (f i b)) (g := fun i => spB' fun b => spB' (g i b)) h hi)
theorem k3B {β α : Type} {a c d : β} {f g : β → Bool → α} (h : (sp3 a c d fun i => spB (f i)) = sp3' a c d fun i => spB' (g i)) : ∀ i, (i = a ∨ i = c ∨ i = d) → ∀ b, f i b = g i b := fun _ hi => ckB (ck3 (f := fun i => spB (f i)) (g := fun i => spB' (g i)) h hi)
noncomputable def sp4 {β α : Type} (a b c d : β) (f : β → α) : α × α × α × α := (f a, sp3 b c d f)
noncomputable def sp4' {β α : Type} (a b c d : β) (f : β → α) : α × α × α × α := (f a, sp3' b c d f)
theorem k4B {β α : Type} {a c d e : β} {f g : β → Bool → α} (h : (sp4 a c d e fun i => spB (f i)) = sp4' a c d e fun i => spB' (g i)) : ∀ i, (i = a ∨ i = c ∨ i = d ∨ i = e) → ∀ b, f i b = g i b := fun i hi b => by
  have h1 := congrArg Prod.fst h
  have h2 := congrArg Prod.snd h
  rcases hi with rfl | hi
  · exact ckB h1 b
  · exact k3B h2 i hi b
theorem k6B {β α : Type} {a c d e m n : β} {f g : β → Bool → α} (h : (sp6 a c d e m n fun i => spB (f i)) = sp6' a c d e m n fun i => spB' (g i)) : ∀ i, (i = a ∨ i = c ∨ i = d ∨ i = e ∨ i = m ∨ i = n) → ∀ b, f i b = g i b := fun _ hi => ckB (ck6 (f := fun i => spB (f i)) (g := fun i => spB' (g i)) h hi)
theorem k6OB {β γ α : Type} {a c d e m n : β} {f g : β → Option γ → Bool → α} (h : (sp6 a c d e m n fun i => spO fun x => spB (f i x)) = sp6' a c d e m n fun i => spO' fun x => spB' (g i x)) : ∀ i, (i = a ∨ i = c ∨ i = d ∨ i = e ∨ i = m ∨ i = n) → ∀ x b, f i x b = g i x b := fun i hi => kOB (f := f i) (g := g i) (ck6 (f := fun i => spO fun x => spB (f i x)) (g := fun i => spO' fun x => spB' (g i x)) h hi)
theorem k8B {β α : Type} {a c d e k l m n : β} {f g : β → Bool → α} (h : (sp8 a c d e k l m n fun i => spB (f i)) = sp8' a c d e k l m n fun i => spB' (g i)) : ∀ i, (i = a ∨ i = c ∨ i = d ∨ i = e ∨ i = k ∨ i = l ∨ i = m ∨ i = n) → ∀ b, f i b = g i b := fun _ hi => ckB (ck8 (f := fun i => spB (f i)) (g := fun i => spB' (g i)) h hi)
theorem k3OB {β γ α : Type} {a c d : β} {f g : β → Option γ → Bool → α} (h : (sp3 a c d fun i => spO fun x => spB (f i x)) = sp3' a c d fun i => spO' fun x => spB' (g i x)) : ∀ i, (i = a ∨ i = c ∨ i = d) → ∀ x b, f i x b = g i x b := fun i hi => kOB (f := f i) (g := g i) (ck3 (f := fun i => spO fun x => spB (f i x)) (g := fun i => spO' fun x => spB' (g i x)) h hi)
theorem k3OBB {β γ α : Type} {a c d : β} {f g : β → Option γ → Bool → Bool → α} (h : (sp3 a c d fun i => spO fun x => spB fun b => spB (f i x b)) = sp3' a c d fun i => spO' fun x => spB' fun b => spB' (g i x b)) : ∀ i, (i = a ∨ i = c ∨ i = d) → ∀ x b e, f i x b e = g i x b e := fun i hi => kOBB (f := f i) (g := g i) (ck3 (f := fun i => spO fun x => spB fun b => spB (f i x b)) (g := fun i => spO' fun x => spB' fun b => spB' (g i x b)) h hi)
noncomputable def spN {α : Type} (f : Nat → α) : Nat → List α
  | 0 => []
  | n + 1 => f n :: spN f n
noncomputable def spN' {α : Type} (f : Nat → α) : Nat → List α
  | 0 => []
  | n + 1 => f n :: spN' f n
theorem ckN {α : Type} {f g : Nat → α} : ∀ {n : Nat}, spN f n = spN' g n → ∀ c, c < n → f c = g c
  | n + 1, h, c, hc => by
    have h' : f n :: spN f n = g n :: spN' g n := h
    injection h' with h1 h2
    rcases Nat.lt_succ_iff_lt_or_eq.mp hc with q | q
    · exact ckN h2 c q
    · subst q; exact h1
theorem kNB {α : Type} {n : Nat} {f g : Nat → Bool → α} (h : spN (fun i => spB (f i)) n = spN' (fun i => spB' (g i)) n) : ∀ i, i < n → ∀ b, f i b = g i b := fun i hi b => ckB (ckN (f := fun i => spB (f i)) (g := fun i => spB' (g i)) h i hi) b
noncomputable def spP {β α : Type} (a a' c c' d d' e e' m m' n n' : β) (f : β → β → α) : (α × α × α) × (α × α × α) := ((f a a', f c c', f d d'), (f e e', f m m', f n n'))
noncomputable def spP' {β α : Type} (a a' c c' d d' e e' m m' n n' : β) (f : β → β → α) : (α × α × α) × (α × α × α) := ((f a a', f c c', f d d'), (f e e', f m m', f n n'))
theorem k6PB {β α : Type} {a c d e m n a' c' d' e' m' n' : β} {f g : β → β → Bool → α} (h : (spP a a' c c' d d' e e' m m' n n' fun i j => spB (f i j)) = spP' a a' c c' d d' e e' m m' n n' fun i j => spB' (g i j)) :
    ∀ i j, ((i = a ∧ j = a') ∨ (i = c ∧ j = c') ∨ (i = d ∧ j = d') ∨ (i = e ∧ j = e') ∨ (i = m ∧ j = m') ∨ (i = n ∧ j = n')) → ∀ b, f i j b = g i j b := fun i j hi b => by
  rcases hi with ⟨rfl, rfl⟩ | ⟨rfl, rfl⟩ | ⟨rfl, rfl⟩ | ⟨rfl, rfl⟩ | ⟨rfl, rfl⟩ | ⟨rfl, rfl⟩
  · exact ckB (congrArg (fun x => x.1.1) h) b
  · exact ckB (congrArg (fun x => x.1.2.1) h) b
  · exact ckB (congrArg (fun x => x.1.2.2) h) b
  · exact ckB (congrArg (fun x => x.2.1) h) b
  · exact ckB (congrArg (fun x => x.2.2.1) h) b
  · exact ckB (congrArg (fun x => x.2.2.2) h) b
theorem encR {α : Type} {enc : α → Flow} {fl : Flow} {v : α} {Q : α → Prop} (hi : ∀ a, enc a = fl → a = v) (H : Q v) : ∀ a, enc a = fl → Q a := fun a e => hi a e ▸ H
theorem retI {v : Value} : ∀ a, Flow.ret a = Flow.ret v → a = v := fun a e => by cases e; rfl
theorem sub_i {α : Type} {l : List α} : ∀ p ∈ l, p ∈ l := fun _ h => h
theorem sub_n {α : Type} {X : List α} : ∀ p ∈ ([] : List α), p ∈ X := fun _ h => nomatch h
theorem sub_l {α : Type} {l X Y : List α} (h : ∀ p ∈ l, p ∈ X) : ∀ p ∈ l, p ∈ X ++ Y := fun p q => List.mem_append_left _ (h p q)
theorem sub_r {α : Type} {l X Y : List α} (h : ∀ p ∈ l, p ∈ Y) : ∀ p ∈ l, p ∈ X ++ Y := fun p q => List.mem_append_right _ (h p q)
theorem sub_t {α : Type} {a : α} {l X : List α} (h : ∀ p ∈ l, p ∈ X) : ∀ p ∈ l, p ∈ a :: X := fun p q => .tail _ (h p q)
theorem sub_a {α : Type} {l m X : List α} (h : ∀ p ∈ l, p ∈ X) (t : ∀ p ∈ m, p ∈ X) : ∀ p ∈ l ++ m, p ∈ X := fun p q => (List.mem_append.mp q).elim (h p) (t p)
theorem sub_c {α : Type} {a : α} {l X : List α} (h : a ∈ X) (t : ∀ p ∈ l, p ∈ X) : ∀ p ∈ a :: l, p ∈ X := fun p q => by
  cases q with
  | head => exact h
  | tail _ q => exact t p q
theorem in_h {α : Type} {a : α} {X : List α} : a ∈ a :: X := .head _
theorem in_t {α : Type} {a b : α} {X : List α} (h : a ∈ X) : a ∈ b :: X := .tail _ h
theorem in_l {α : Type} {a : α} {X Y : List α} (h : a ∈ X) : a ∈ X ++ Y := List.mem_append_left _ h
theorem in_r {α : Type} {a : α} {X Y : List α} (h : a ∈ Y) : a ∈ X ++ Y := List.mem_append_right _ h
theorem ltS {n k : Nat} (h : k < n + 1) : k < n ∨ k = n := Nat.lt_succ_iff_lt_or_eq.mp h
theorem lt3 {c : Nat} (h : c < 3) : c = 0 ∨ c = 1 ∨ c = 2 := (ltS h).elim (fun h => (ltS h).elim (fun h => .inl (Nat.lt_one_iff.mp h)) fun e => .inr (.inl e)) fun e => .inr (.inr e)
theorem lt4 {c : Nat} (h : c < 4) : c = 0 ∨ c = 1 ∨ c = 2 ∨ c = 3 := (ltS h).elim (fun h => (lt3 h).elim .inl fun h => .inr (h.elim .inl fun h => .inr (.inl h))) fun e => .inr (.inr (.inr e))
theorem turn_lt {N n k : Nat} (e : n = N - k) (h : k < N) : N - (k + 1) < n := Nat.lt_of_lt_of_eq (Nat.sub_lt_sub_left h (Nat.lt_succ_self k)) e.symm
theorem lt6 {i : Nat} (h : i < 6) : i = 0 ∨ i = 1 ∨ i = 2 ∨ i = 3 ∨ i = 4 ∨ i = 5 :=
  (ltS h).elim (fun h => (ltS h).elim (fun h => (ltS h).elim (fun h => (lt3 h).elim .inl fun h => .inr (h.elim .inl fun h => .inr (.inl h))) fun e => .inr (.inr (.inr (.inl e)))) fun e => .inr (.inr (.inr (.inr (.inl e))))) fun e => .inr (.inr (.inr (.inr (.inr e))))
theorem lt6e {C : Nat → Prop} (h0 : C 0) (h1 : C 1) (h2 : C 2) (h3 : C 3) (h4 : C 4) (h5 : C 5) : ∀ k, k < 6 → C k
  | 0, _ => h0
  | 1, _ => h1
  | 2, _ => h2
  | 3, _ => h3
  | 4, _ => h4
  | 5, _ => h5
  | n + 6, h => absurd h (Nat.not_lt.mpr (Nat.le_add_left 6 n))
theorem cons_of {α : Type} {n : Nat} : ∀ {l : List α}, l.length = n + 1 → ∃ a t, l = a :: t ∧ t.length = n
  | a :: t, h => ⟨a, t, rfl, Nat.succ.inj h⟩
end Mine
namespace Mine
open PySem PySem.W PySem.W.X PySem.Spec PySem.Calls PyProof.Rows
noncomputable def Res.κ : Res → Kt
  | .hole _ κ _ _ => κ
  | _ => .base
noncomputable def Res.m : Res → Mm
  | .hole _ _ m _ => m
  | .done _ m _ => m
  | .bad _ => ⟨.nil, [], [], [], 0, 0⟩
noncomputable def AllP : List Prop → Prop
  | [] => True
  | p :: l => p ∧ AllP l
theorem AllP.all : ∀ {l : List Prop}, AllP l → ∀ p ∈ l, p
  | _ :: _, h, _, .head _ => h.1
  | _ :: _, h, p, .tail _ q => AllP.all h.2 p q
noncomputable def Kt.small (κ : Kt) : Bool := match κ.wt with
  | some a => match Nat.ble a 20 with
    | true => Nat.ble κ.ln 20
    | false => false
  | none => false
theorem Kt.small_deep {A : Around} {κ : Kt} {n : Nat} (h : κ.small = true) (L : Deep (n + 20) A) : Deep n (ar A κ) := by
  unfold Kt.small at h
  split at h
  · rename_i a ha
    split at h
    · rename_i q
      have q1 := Nat.le_of_ble_eq_true q
      have q2 := Nat.le_of_ble_eq_true h
      exact L.ar ha (by omega) (by omega)
    · cases h
  · cases h
noncomputable def Res.vw : Res → Option Code × List Addr × List (Sem Fin) × List Prop × Bool
  | .hole c κ _ o => (some c, o.la, o.ta, o.pp, κ.small)
  | _ => (none, [], [], [], false)
noncomputable def Res.wv (c : Code) (pp : List Prop) : Res → Option Code × List Addr × List (Sem Fin) × List Prop × Bool
  | .hole _ _ _ o => (some c, o.lb, o.tb, pp, true)
  | _ => (some c, [], [], pp, true)
noncomputable def Res.dw : Res → Option Result × List Addr × List (Sem Fin) × List Prop
  | .done r _ o => (some r, o.la, o.ta, o.pp)
  | _ => (none, [], [], [])
noncomputable def Res.wd (r : Result) (pp : List Prop) : Res → Option Result × List Addr × List (Sem Fin) × List Prop
  | .done _ _ o => (some r, o.lb, o.tb, pp)
  | _ => (some r, [], [], pp)
noncomputable abbrev noObl : Obl := ⟨[], [], [], [], []⟩
@[irreducible] noncomputable def goI (V : Env9) (f n : Nat) (hs : List Nat) (c : Code) (m : Mm) : Res := runS V f n hs (some c) .base (den c) m noObl
@[irreducible] noncomputable def backI (V : Env9) (f n : Nat) (hs : List Nat) (r : Result) (κ : Kt) (m : Mm) : Res := retS (runS V f) n hs r κ m noObl
@[irreducible] noncomputable def Res.κI (res : Res) : Kt := res.κ
@[irreducible] noncomputable def Res.mI (res : Res) : Mm := res.m
@[irreducible] noncomputable def Res.tkI (res : Res) : Nat := res.m.tk
@[irreducible] noncomputable def Mm.tkTo (m : Mm) (t : Nat) : Mm := { m with tk := t }
section
variable {prog : Program} {w : World} {A : Around} {R₀ : Result → Shared → Prop} {V : Env9} {h₀ : Heap} {g : Array GenState} {d : Drawn} {os : OsState}
theorem good_hole {res : Res} {c : Code} {pp : List Prop} {n : Nat} (L : Deep (n + 20) A) (e : res.vw = res.wv c pp) (hp : AllP pp) (H : ∀ h, Deep n (ar A res.κI) → Rep h₀ res.mI h → codeAny (model prog w) (ar A res.κI) c (endK prog w A R₀ res.κI) ⟨h, g, d, res.tkI, os⟩) : Good prog w A R₀ h₀ g d os res := by
  unfold Res.mI Res.κI Res.tkI at H
  cases res with
  | hole c' κ m o =>
    have e' : (some c', o.la, o.ta, o.pp, κ.small) = (some c, o.lb, o.tb, pp, true) := e
    injection e' with e1 e2
    injection e1 with e1
    injection e2 with e2 e3
    injection e3 with e3 e4
    injection e4 with e4 e5
    subst e1
    exact ⟨⟨e2, e3, by rw [e4]; exact hp.all⟩, fun h => H h (Kt.small_deep e5 L)⟩
  | done r m o => exact absurd (congrArg Prod.fst e) (fun q => nomatch q)
  | bad n => exact absurd (congrArg Prod.fst e) (fun q => nomatch q)
theorem good_tail {res : Res} {c : Code} {pp : List Prop} {n : Nat} (L : Deep (n + 20) A) (e : res.vw = res.wv c pp) (eκ : res.κ = .base) (hp : AllP pp) (H : ∀ h, Rep h₀ res.mI h → codeAny (model prog w) A c R₀ ⟨h, g, d, res.tkI, os⟩) : Good prog w A R₀ h₀ g d os res := by
  refine good_hole L e hp fun h _ D => ?_
  unfold Res.κI
  rw [eκ]
  exact H h D
theorem good_done {res : Res} {r : Result} {pp : List Prop} (e : res.dw = res.wd r pp) (hp : AllP pp) (H : ∀ h, Rep h₀ res.mI h → R₀ r ⟨h, g, d, res.tkI, os⟩) : Good prog w A R₀ h₀ g d os res := by
  unfold Res.mI Res.tkI at H
  cases res with
  | done r' m o =>
    have e' : (some r', o.la, o.ta, o.pp) = (some r, o.lb, o.tb, pp) := e
    injection e' with e1 e2
    injection e1 with e1
    injection e2 with e2 e3
    injection e3 with e3 e4
    subst e1
    exact ⟨⟨e2, e3, by rw [e4]; exact hp.all⟩, H⟩
  | hole r m o => exact absurd (congrArg Prod.fst e) (fun q => nomatch q)
  | bad n => exact absurd (congrArg Prod.fst e) (fun q => nomatch q)
theorem start {nn : Nat} (L0 : Deep nn A) (hP : V.P = ⟨prog, w.params⟩) (f n : Nat) (hs : List Nat) {c : Code} {m : Mm} {h : Heap} {tk : Nat} (D : Rep h₀ m h) (ht : m.tk = tk)
    (H : Good prog w A R₀ h₀ g d os (goI V f n hs c m)) : codeAny (model prog w) A c R₀ ⟨h, g, d, tk, os⟩ := by
  unfold goI at H
  subst ht
  refine codeAny_of_tree ?_
  show wpAny (model prog w) _ (denote table c) _ _ _
  rw [den_eq]
  exact run_snd L0.light hP f n hs (some c) .base (den c) m _ H h D
theorem back {nn : Nat} (L0 : Deep nn A) (hP : V.P = ⟨prog, w.params⟩) (f n : Nat) (hs : List Nat) {r : Result} {κ : Kt} {m : Mm} {h : Heap} {tk : Nat} (D : Rep h₀ m h)
    (H : Good prog w A R₀ h₀ g d os (backI V f n hs r κ (m.tkTo tk))) : endK prog w A R₀ κ r ⟨h, g, d, tk, os⟩ := by
  unfold backI Mm.tkTo at H
  exact retS_snd (run_snd L0.light hP f) H (D.tok tk)
theorem rep_start {T : KT} {F : Facts} {h : Heap} {N t : Nat} (hs : h.objs.size = N) (hT : ∀ a o, T.get a = some o → h.get? a = some o) (hF : ∀ p ∈ F, h.get? p.1 = some p.2) (st : h.get? cStatics = some statObj) : Rep h ⟨T, F, [], [], N, t⟩ h :=
  { size := hs, T := fun a o e => ⟨hT a o e, Heap.lt_size (hT a o e)⟩, F := hF, Z := fun _ hp => (nomatch hp), B := fun _ hp => (nomatch hp), zd := List.Pairwise.nil, bd := List.Pairwise.nil, fz := fun _ _ _ hz => (nomatch hz), fb := fun _ _ _ hz => (nomatch hz), tb := fun _ hz => (nomatch hz), old := OldK.refl h, kp := fun _ _ e _ => e, stat := ⟨st, Heap.lt_size st⟩, le := Nat.le_refl _ }
theorem Rep.after {m : Mm} {h h' : Heap} {F' : Facts} {n : Nat} (D : Rep h₀ m h) (hk : ∀ b o, h.get? b = some o → h'.get? b = some o) (hn : h'.objs.size = n) (hle : m.nx ≤ n) (hF : ∀ p ∈ F', h'.get? p.1 = some p.2 ∧ h.objs.size ≤ p.1) :
    Rep h₀ { m with F := m.F ++ F', nx := n } h' := by
  have le : h.objs.size ≤ h'.objs.size := by rw [D.size, hn]; exact hle
  exact {
    size := hn, T := fun a o e => ⟨hk _ _ (D.T a o e).1, (D.T a o e).2⟩
    F := fun p hp => by
      rcases List.mem_append.mp hp with q | q
      · exact hk _ _ (D.F p q)
      · exact (hF p q).1
    Z := fun p hp => ⟨hk _ _ (D.Z p hp).1, (D.Z p hp).2⟩
    B := fun p hp => ⟨hk _ _ (D.B p hp).1, (D.B p hp).2⟩
    zd := D.zd, bd := D.bd
    fz := fun p hp z hz => by
      rcases List.mem_append.mp hp with q | q
      · exact D.fz p q z hz
      · exact Nat.ne_of_gt (Nat.lt_of_lt_of_le (Heap.lt_size (D.Z z hz).1) (hF p q).2)
    fb := fun p hp z hz => by
      rcases List.mem_append.mp hp with q | q
      · exact D.fb p q z hz
      · exact Nat.ne_of_gt (Nat.lt_of_lt_of_le (Heap.lt_size (D.B z hz).1) (hF p q).2)
    tb := D.tb, old := D.old.step_keeps hk, kp := fun b o e n => hk _ _ (D.kp b o e n)
    stat := ⟨hk _ _ D.stat.1, D.stat.2⟩, le := Nat.le_trans D.le le }
structure Post (h h' : Heap) (n : Nat) (F' : Facts) : Prop where
  keeps : ∀ b o, h.get? b = some o → h'.get? b = some o
  size : h'.objs.size = n
  le : h.objs.size ≤ n
  facts : ∀ p ∈ F', h'.get? p.1 = some p.2 ∧ h.objs.size ≤ p.1
theorem Rep.post {m : Mm} {h h' : Heap} {F' : Facts} (D : Rep h m h') (js : List Nat) {n : Nat} (e : (m.B, m.nx, js.map (nth m.Z)) = ([], n, F'.map some)) : Post h h' n F' := by
  injection e with e1 e2
  injection e2 with e2 e3
  refine ⟨fun b o q => D.kp b o q (by rw [e1]; exact fun _ hz => nomatch hz), D.size.trans e2, by rw [← e2, ← D.size]; exact D.le, fun p hp => ?_⟩
  have : some p ∈ js.map (nth m.Z) := by rw [e3]; exact List.mem_map_of_mem hp
  obtain ⟨j, _, hj⟩ := List.mem_map.mp this
  rw [nth_eq] at hj
  exact D.Z p (List.mem_of_getElem? hj)
theorem Rep.and {m : Mm} {h h' : Heap} {F' : Facts} {n : Nat} (D : Rep h₀ m h) (P : Post h h' n F') : Rep h₀ { m with F := m.F ++ F', nx := n } h' :=
  D.after P.keeps P.size (by rw [← D.size]; exact P.le) P.facts
noncomputable def okIdx (fs zs : List Nat) : Bool := fs.all (fun j => j % 3 == 0 || (j % 3 == 1 && !zs.contains (j / 3))) && decide (zs.Pairwise (· < ·))
theorem pair_lt {l : Facts} (hp : (l.map (·.1)).Pairwise (· < ·)) {i j : Nat} {x y : Addr × Obj} (hx : l[i]? = some x) (hy : l[j]? = some y) (h : i < j) : x.1 < y.1 := by
  have hi : (l.map (·.1))[i]? = some x.1 := by rw [List.getElem?_map, hx]; rfl
  have hj : (l.map (·.1))[j]? = some y.1 := by rw [List.getElem?_map, hy]; rfl
  obtain ⟨hi1, hi2⟩ := List.getElem?_eq_some_iff.mp hi
  obtain ⟨hj1, hj2⟩ := List.getElem?_eq_some_iff.mp hj
  have := List.pairwise_iff_getElem.mp hp i j hi1 hj1 h
  rw [hi2, hj2] at this
  exact this
theorem map_nth_mem {m : Mm} {zs : List Nat} {Z : Facts} (e : zs.map (nth m.Z) = Z.map some) {p : Addr × Obj} (hp : p ∈ Z) : ∃ j ∈ zs, m.Z[j]? = some p := by
  have : some p ∈ zs.map (nth m.Z) := by rw [e]; exact List.mem_map_of_mem hp
  obtain ⟨j, h1, h2⟩ := List.mem_map.mp this
  exact ⟨j, h1, by rw [← nth_eq]; exact h2⟩
theorem pick_sorted {l : Facts} (hp : (l.map (·.1)).Pairwise (· < ·)) : ∀ {zs : List Nat} {Z : Facts}, zs.map (nth l) = Z.map some → zs.Pairwise (· < ·) → (Z.map (·.1)).Pairwise (· < ·)
  | [], [], _, _ => List.Pairwise.nil
  | z :: zs, [], e, _ => by cases e
  | [], _ :: _, e, _ => by cases e
  | z :: zs, p :: Z, e, h => by
    rw [List.map_cons, List.map_cons] at e
    injection e with e1 e2
    rw [List.pairwise_cons] at h
    rw [List.map_cons, List.pairwise_cons]
    refine ⟨fun a ha => ?_, pick_sorted hp e2 h.2⟩
    obtain ⟨p', hp', rfl⟩ := List.mem_map.mp ha
    have : some p' ∈ zs.map (nth l) := by rw [e2]; exact List.mem_map_of_mem hp'
    obtain ⟨j, h1, h2⟩ := List.mem_map.mp this
    rw [nth_eq] at e1 h2
    exact pair_lt hp e1 h2 (h.1 j h1)
theorem Rep.to {m : Mm} {h : Heap} (D : Rep h₀ m h) (fs zs : List Nat) {T : KT} {F Z B : Facts} {nx tk : Nat} (e : (m.T, m.B, m.nx, fs.map (Mine.atM m), zs.map (nth m.Z)) = (T, B, nx, F.map some, Z.map some)) (hok : okIdx fs zs = true) : Rep h₀ ⟨T, F, Z, B, nx, tk⟩ h := by
  injection e with e1 e2
  injection e2 with e2 e3
  injection e3 with e3 e4
  injection e4 with e4 e5
  subst e1 e2 e3
  unfold okIdx at hok
  rw [Bool.and_eq_true, List.all_eq_true] at hok
  obtain ⟨hf, hs⟩ := hok
  have hs := of_decide_eq_true hs
  have inF : ∀ {p}, p ∈ F → p ∈ m.F ∨ ∃ j, j ∉ zs ∧ m.Z[j]? = some p := fun {p} hp => by
    have : some p ∈ fs.map (Mine.atM m) := by rw [e4]; exact List.mem_map_of_mem hp
    obtain ⟨j, h1, h2⟩ := List.mem_map.mp this
    have h3 := hf j h1
    unfold Mine.atM at h2
    split at h2
    · exact .inl (by rw [nth_eq] at h2; exact List.mem_of_getElem? h2)
    · rename_i h4
      rw [h4] at h3
      have h5 : (zs.contains (j / 3)) = false := by simpa using h3
      refine .inr ⟨j / 3, fun q => ?_, by rw [← nth_eq]; exact h2⟩
      rw [List.contains_iff_mem.mpr q] at h5
      cases h5
    · rename_i h4 h5
      exfalso
      rw [Bool.or_eq_true, Bool.and_eq_true, beq_iff_eq, beq_iff_eq] at h3
      rcases h3 with q | q
      · exact h4 q
      · exact h5 q.1
  have inZ : ∀ {p}, p ∈ Z → ∃ j ∈ zs, m.Z[j]? = some p := fun {p} hp => map_nth_mem e5 hp
  refine { size := D.size, T := D.T, F := fun p hp => ?_, Z := fun p hp => ?_, B := D.B, zd := pick_sorted D.zd e5 hs, bd := D.bd, fz := fun p hp z hz => ?_, fb := fun p hp z hz => ?_, tb := D.tb, old := D.old, kp := D.kp, stat := D.stat, le := D.le }
  · rcases inF hp with q | ⟨j, _, q⟩
    · exact D.F p q
    · exact (D.Z p (List.mem_of_getElem? q)).1
  · obtain ⟨j, _, q⟩ := inZ hp
    exact D.Z p (List.mem_of_getElem? q)
  · obtain ⟨i, hi, qz⟩ := inZ hz
    rcases inF hp with q | ⟨j, hj, q⟩
    · exact D.fz p q z (List.mem_of_getElem? qz)
    · rcases Nat.lt_trichotomy i j with c | c | c
      · exact Nat.ne_of_gt (pair_lt D.zd qz q c)
      · subst c; exact absurd hi hj
      · exact Nat.ne_of_lt (pair_lt D.zd q qz c)
  · rcases inF hp with q | ⟨j, hj, q⟩
    · exact D.fb p q z hz
    · have h1 := (D.Z p (List.mem_of_getElem? q)).2
      have h2 := (D.B z hz).2.lt
      exact Nat.ne_of_gt (Nat.lt_of_lt_of_le h2 h1)
theorem Rep.toF {m : Mm} {h : Heap} (D : Rep h₀ m h) (zs : List Nat) {T : KT} {F Z B : Facts} {nx tk : Nat} (e : (m.T, m.B, m.nx, ([] : List Nat).map (Mine.atM m), zs.map (nth m.Z)) = (T, B, nx, ([] : Facts).map some, Z.map some)) (eF : m.F = F) (hok : okIdx [] zs = true) : Rep h₀ ⟨T, F, Z, B, nx, tk⟩ h := by
  have D' := D.to (F := []) (tk := tk) [] zs e hok
  refine { D' with F := by rw [← eF]; exact D.F, fz := fun p hp z hz => ?_, fb := fun p hp z hz => ?_ }
  · injection e with e1 e2
    injection e2 with e2 e3
    injection e3 with e3 e4
    injection e4 with e4 e5
    obtain ⟨j, _, q⟩ := map_nth_mem e5 hz
    exact D.fz p (by rw [eF]; exact hp) z (List.mem_of_getElem? q)
  · injection e with e1 e2
    injection e2 with e2 e3
    subst e2
    exact D.fb p (by rw [eF]; exact hp) z hz
@[irreducible] noncomputable def goT (V : Env9) (f n : Nat) (hs : List Nat) (t : Sem Fin) (m : Mm) : Res := runS V f n hs none .base t m noObl
theorem wp_false {α : Type} {M : Model} {Γ : PySem.Ctx} : ∀ {t : Sem α} {p : Pos} {s : Shared}, Sem.wp M Γ t (fun _ _ _ => False) (fun _ _ _ => False) p s → False := by
  intro t
  induction t with
  | pure | raise | unsupported | finish | yield | fork | await | register => exact fun h => h
  | rule _ k ih | «at» _ k ih | alloc _ k ih | loadIfAlive _ k ih | point _ k ih | fresh k ih | ask k ih | os _ _ k ih | handled _ k ih | newGen _ k ih | stack k ih | thread k ih => exact fun h => ih _ h
  | load a _ k ih | genState a k ih => exact fun ⟨o, ho, h⟩ => ih _ h
  | update a _ f k ih | choose _ _ k ih => exact fun ⟨ha, h⟩ => ih _ h
  | call c h g l k ih => exact fun ⟨r, s', _, h⟩ => ih r h
  | resume g r l k ih => exact fun ⟨res, s', hw, h⟩ => ih _ h
theorem wpAny_off_onRaise {α : Type} {M : Model} {A : Around} {t : Sem α} {h : Value → Sem Unit} {Q : α → Shared → Prop} {E : Value → Shared → Prop} {s : Shared} (H : wpAny M A (t.onRaise h) Q (fun _ _ => False) s) : wpAny M A t Q E s := fun Γ p hΓ => by
  have z := H Γ p hΓ
  rw [Sem.wp_onRaise] at z
  exact Sem.wp_mono M Γ t (fun _ _ _ q => q) (fun e p' s' q => (wp_false q).elim) p s z
theorem piece_block {nn : Nat} (L0 : Deep nn A) (hP : V.P = ⟨prog, w.params⟩) (f n : Nat) (hs : List Nat) {ss : List Stmt} {env : Env} {Q : Flow → Shared → Prop} {E : Value → Shared → Prop} {m : Mm} {h : Heap} {tk : Nat} (D : Rep h₀ m h)
    (H : Good prog w A (fun r s' => match r with | .ok fl => Q fl s' | .error _ => False) h₀ g d os (goT V f n hs (den (.block ss env)) (m.tkTo tk))) : wpAny (model prog w) A (execs ss env) Q E ⟨h, g, d, tk, os⟩ := by
  unfold goT Mm.tkTo at H
  have z := run_snd L0.light hP f n hs none .base (den (.block ss env)) _ _ H h (D.tok tk)
  unfold Means at z
  rw [← den_eq] at z
  have z2 : wpAny (model prog w) A ((execs ss env).onRaise (fun x => do noteFrame x env; theTreesLotGoes x) >>= fun fl => (pure (PySem.Fin.done fl) : Sem PySem.Fin)) (postF prog w (ar A Kt.base) none (endK prog w A (fun r s' => match r with | .ok fl => Q fl s' | .error _ => False) Kt.base)) (fun e s' => endK prog w A (fun r s' => match r with | .ok fl => Q fl s' | .error _ => False) Kt.base (.error e) s') ⟨h, g, d, tk, os⟩ := z
  refine wpAny_off_onRaise (h := fun x => do noteFrame x env; theTreesLotGoes x) ?_
  intro Γ p hΓ
  have y := z2 Γ p hΓ
  rw [Sem.wp_bind'] at y
  exact y
theorem piece_expr {nn : Nat} (L0 : Deep nn A) (hP : V.P = ⟨prog, w.params⟩) (f n : Nat) (hs : List Nat) {e : Expr} {env : Env} {Q : Value → Shared → Prop} {E : Value → Shared → Prop} {m : Mm} {h : Heap} {tk : Nat} (D : Rep h₀ m h)
    (H : Good prog w A (fun r s' => match r with | .ok (.ret v) => Q v s' | _ => False) h₀ g d os (goT V f n hs (den (.expr e env)) (m.tkTo tk))) : wpAny (model prog w) A (eval e env) Q E ⟨h, g, d, tk, os⟩ := by
  unfold goT Mm.tkTo at H
  have z := run_snd L0.light hP f n hs none .base (den (.expr e env)) _ _ H h (D.tok tk)
  unfold Means at z
  rw [← den_eq] at z
  have z2 : wpAny (model prog w) A (do point; ret (← (eval e env).onRaise (leaving env))) (postF prog w (ar A Kt.base) none (endK prog w A (fun r s' => match r with | .ok (.ret v) => Q v s' | _ => False) Kt.base)) (fun e s' => endK prog w A (fun r s' => match r with | .ok (.ret v) => Q v s' | _ => False) Kt.base (.error e) s') ⟨h, g, d, tk, os⟩ := z
  refine wpAny_off_onRaise (h := leaving env) ?_
  intro Γ p hΓ
  have y := z2 Γ p hΓ
  rw [Sem.wp_bind', Sem.wp_cmd_point, Sem.wp_bind'] at y
  exact y
end
section
variable {prog : Program} {w : World} {A : Around} {R : Result → Shared → Prop} {h : Heap} {g : Array GenState} {d : Drawn} {tk : Nat} {os : OsState}
theorem c_mod {x y : Int} {t u : Tok} (hy : ¬ (y == 0) = true) (H : ∀ t' tk', R (.ok (.ret (.int (x.fmod y) t'))) ⟨h, g, d, tk', os⟩) :
    codeAny (model prog w) A (.call (.builtin "int.__mod__") ⟨[.int x t, .int y u], []⟩) R ⟨h, g, d, tk, os⟩ :=
  c_gives F.slot_int_mod F.entry_int_mod (F.args_int_mod_2 _ _) (AutoIntG6.int___mod___int_int_1 x t y u hy) (typeIs_int _ x t) (H _ _)
theorem c_floordiv {x y : Int} {t u : Tok} (hy : ¬ (y == 0) = true) (hp : ¬ Builtin.divisionGoesByPylong x y = true) (H : ∀ t' tk', R (.ok (.ret (.int (x.fdiv y) t'))) ⟨h, g, d, tk', os⟩) :
    codeAny (model prog w) A (.call (.builtin "int.__floordiv__") ⟨[.int x t, .int y u], []⟩) R ⟨h, g, d, tk, os⟩ :=
  c_gives F.slot_int_floordiv F.entry_int_floordiv (F.args_int_floordiv_2 _ _) (AutoIntG4.int___floordiv___int_int_1 x t y u hy hp) (typeIs_int _ x t) (H _ _)
theorem c_item {l : Addr} {items : Array Value} {n : Nat} {k : Int} {t : Tok} {x : Value} (ho : h.get? l = some { cls := .type "list", data := .seq items n }) (h0 : 0 ≤ k) (hfit : k < 2 ^ 63) (hx : items[k.toNat]? = some x)
    (H : R (.ok (.ret x)) ⟨h, g, d, tk, os⟩) : codeAny (model prog w) A (.call (.builtin "list.__getitem__") ⟨[.ref l, .int k t], []⟩) R ⟨h, g, d, tk, os⟩ := by
  have hl : (⟨h, g, d, tk, os⟩ : Shared).heap.IsList l items := ⟨_, ho, rfl, n, rfl⟩
  refine codeAny_call_builtin slot_list_getitem.plain entry_list_getitem (slot_list_getitem.check _ _ _ _ _ _ _ _ hl.typeIs (args_list_getitem _ _) ?_)
  show wpAny _ _ (Builtin.List.listSubscript? (.int k t) >>= _) _ _ _
  refine wpAny_bind (wpAny_listSubscript_int (fitsIndex_of h0 hfit) ?_)
  clear hfit
  obtain ⟨j, rfl⟩ := Int.eq_ofNat_of_zero_le h0
  have hx' : items[j]? = some x := hx
  show wpAny _ _ ((seqItemAt l j >>= fun r => pure (r.map (j, ·))) >>= _) _ _ _
  refine wpAny_bind (wpAny_bind (wpAny_seqItemAt ho rfl (wpAny_pure ?_)))
  rw [hx']
  first
    | exact wpAny_bind (wpAny_pure (wpAny_pure H))
    | exact wpAny_pure H
end
end Mine
namespace Mine
open PySem PySem.W PySem.W.X PySem.Spec PySem.Calls PyProof.Rows
/-! what the module leaves in the heap, object by object (printed by a program of mine from a run of the module) -/
noncomputable def stAt (n : Nat) : Stmt := PySem.Challenge.pw_mq0115_01.main.body.getD n (.Pass ⟨0, 0, 0, 0⟩)
set_option backward.match.sparseCases false in
noncomputable def sArgs : Stmt → Arguments
  | .FunctionDef _ a .. => a
  | _ => ⟨[], [], none, [], [], none, []⟩
set_option backward.match.sparseCases false in
noncomputable def sBody : Stmt → List Stmt
  | .FunctionDef _ _ b .. => b
  | .ClassDef _ _ _ b .. => b
  | _ => []
set_option backward.match.sparseCases false in
noncomputable def sScope : Stmt → Scope
  | .FunctionDef _ _ _ _ _ _ s .. => s
  | _ => default
noncomputable def inSt (s : Stmt) (n : Nat) : Stmt := (sBody s).getD n (.Pass ⟨0, 0, 0, 0⟩)
noncomputable def fnObj (s : Stmt) (name qual : String) (dV pm code : Value) : Obj :=
  { cls := .type "function", data := .func { name := Str.ofString name, qualname := Str.ofString qual, params := sArgs s, body := .stmts (sBody s), scope := sScope s, globals := 3, closure := [], defaults := dV, kwdefaults := .none, doc := .none, pyModule := pm, code, builtins := 0 } }
noncomputable def de (P : Params) (k : String) (t : Nat) (v : Value) : DictEntry := { hash := PyData.keyHash P (Str.ofString k), key := .str (Str.ofString k) t, val := v }
noncomputable def ob0 (P : Params) : Obj := { cls := .type "dict", data := .dict #[de P "__name__" 1 (.str (Str.ofString "builtins") 160), de P "__doc__" 2 (.builtin "builtins.__doc__:str#opaque"), de P "__package__" 3 (.builtin "builtins.__package__:str#opaque"), de P "__loader__" 4 (.builtin "builtins.__loader__:shared#opaque"), de P "__spec__" 5 (.builtin "builtins.__spec__#opaque"), de P "__build_class__" 6 (.builtin "__build_class__"), de P "__import__" 7 (.builtin "__import__"), de P "abs" 8 (.builtin "abs"), de P "all" 9 (.builtin "all"), de P "any" 10 (.builtin "any"), de P "ascii" 11 (.builtin "ascii"), de P "bin" 12 (.builtin "bin"), de P "breakpoint" 13 (.builtin "breakpoint"), de P "callable" 14 (.builtin "callable"), de P "chr" 15 (.builtin "chr"), de P "compile" 16 (.builtin "compile"), de P "delattr" 17 (.builtin "delattr"), de P "dir" 18 (.builtin "dir"), de P "divmod" 19 (.builtin "divmod"), de P "eval" 20 (.builtin "eval"), de P "exec" 21 (.builtin "exec"), de P "format" 22 (.builtin "format"), de P "getattr" 23 (.builtin "getattr"), de P "globals" 24 (.builtin "globals"), de P "hasattr" 25 (.builtin "hasattr"), de P "hash" 26 (.builtin "hash"), de P "hex" 27 (.builtin "hex"), de P "id" 28 (.builtin "id"), de P "input" 29 (.builtin "input"), de P "isinstance" 30 (.builtin "isinstance"), de P "issubclass" 31 (.builtin "issubclass"), de P "iter" 32 (.builtin "iter"), de P "aiter" 33 (.builtin "aiter"), de P "len" 34 (.builtin "len"), de P "locals" 35 (.builtin "locals"), de P "max" 36 (.builtin "max"), de P "min" 37 (.builtin "min"), de P "next" 38 (.builtin "next"), de P "anext" 39 (.builtin "anext"), de P "oct" 40 (.builtin "oct"), de P "ord" 41 (.builtin "ord"), de P "pow" 42 (.builtin "pow"), de P "print" 43 (.builtin "print"), de P "repr" 44 (.builtin "repr"), de P "round" 45 (.builtin "round"), de P "setattr" 46 (.builtin "setattr"), de P "sorted" 47 (.builtin "sorted"), de P "sum" 48 (.builtin "sum"), de P "vars" 49 (.builtin "vars"), de P "None" 50 (.none), de P "Ellipsis" 51 (.ellipsis), de P "NotImplemented" 52 (.notImplemented), de P "False" 53 (.bool false), de P "True" 54 (.bool true), de P "bool" 55 (.type "bool"), de P "memoryview" 56 (.type "memoryview"), de P "bytearray" 57 (.type "bytearray"), de P "bytes" 58 (.type "bytes"), de P "classmethod" 59 (.type "classmethod"), de P "complex" 60 (.type "complex"), de P "dict" 61 (.type "dict"), de P "enumerate" 62 (.type "enumerate"), de P "filter" 63 (.type "filter"), de P "float" 64 (.type "float"), de P "frozenset" 65 (.type "frozenset"), de P "property" 66 (.type "property"), de P "int" 67 (.type "int"), de P "list" 68 (.type "list"), de P "map" 69 (.type "map"), de P "object" 70 (.type "object"), de P "range" 71 (.type "range"), de P "reversed" 72 (.type "reversed"), de P "set" 73 (.type "set"), de P "slice" 74 (.type "slice"), de P "staticmethod" 75 (.type "staticmethod"), de P "str" 76 (.type "str"), de P "super" 77 (.type "super"), de P "tuple" 78 (.type "tuple"), de P "type" 79 (.type "type"), de P "zip" 80 (.type "zip"), de P "__debug__" 81 (.bool true), de P "BaseException" 82 (.type "BaseException"), de P "BaseExceptionGroup" 83 (.type "BaseExceptionGroup"), de P "Exception" 84 (.type "Exception"), de P "GeneratorExit" 85 (.type "GeneratorExit"), de P "KeyboardInterrupt" 86 (.type "KeyboardInterrupt"), de P "SystemExit" 87 (.type "SystemExit"), de P "ArithmeticError" 88 (.type "ArithmeticError"), de P "AssertionError" 89 (.type "AssertionError"), de P "AttributeError" 90 (.type "AttributeError"), de P "BufferError" 91 (.type "BufferError"), de P "EOFError" 92 (.type "EOFError"), de P "ImportError" 93 (.type "ImportError"), de P "LookupError" 94 (.type "LookupError"), de P "MemoryError" 95 (.type "MemoryError"), de P "NameError" 96 (.type "NameError"), de P "OSError" 97 (.type "OSError"), de P "ReferenceError" 98 (.type "ReferenceError"), de P "RuntimeError" 99 (.type "RuntimeError"), de P "StopAsyncIteration" 100 (.type "StopAsyncIteration"), de P "StopIteration" 101 (.type "StopIteration"), de P "SyntaxError" 102 (.type "SyntaxError"), de P "SystemError" 103 (.type "SystemError"), de P "TypeError" 104 (.type "TypeError"), de P "ValueError" 105 (.type "ValueError"), de P "Warning" 106 (.type "Warning"), de P "FloatingPointError" 107 (.type "FloatingPointError"), de P "OverflowError" 108 (.type "OverflowError"), de P "ZeroDivisionError" 109 (.type "ZeroDivisionError"), de P "BytesWarning" 110 (.type "BytesWarning"), de P "DeprecationWarning" 111 (.type "DeprecationWarning"), de P "EncodingWarning" 112 (.type "EncodingWarning"), de P "FutureWarning" 113 (.type "FutureWarning"), de P "ImportWarning" 114 (.type "ImportWarning"), de P "PendingDeprecationWarning" 115 (.type "PendingDeprecationWarning"), de P "ResourceWarning" 116 (.type "ResourceWarning"), de P "RuntimeWarning" 117 (.type "RuntimeWarning"), de P "SyntaxWarning" 118 (.type "SyntaxWarning"), de P "UnicodeWarning" 119 (.type "UnicodeWarning"), de P "UserWarning" 120 (.type "UserWarning"), de P "BlockingIOError" 121 (.type "BlockingIOError"), de P "ChildProcessError" 122 (.type "ChildProcessError"), de P "ConnectionError" 123 (.type "ConnectionError"), de P "FileExistsError" 124 (.type "FileExistsError"), de P "FileNotFoundError" 125 (.type "FileNotFoundError"), de P "InterruptedError" 126 (.type "InterruptedError"), de P "IsADirectoryError" 127 (.type "IsADirectoryError"), de P "NotADirectoryError" 128 (.type "NotADirectoryError"), de P "PermissionError" 129 (.type "PermissionError"), de P "ProcessLookupError" 130 (.type "ProcessLookupError"), de P "TimeoutError" 131 (.type "TimeoutError"), de P "IndentationError" 132 (.type "IndentationError"), de P "_IncompleteInputError" 133 (.type "_IncompleteInputError"), de P "IndexError" 134 (.type "IndexError"), de P "KeyError" 135 (.type "KeyError"), de P "ModuleNotFoundError" 136 (.type "ModuleNotFoundError"), de P "NotImplementedError" 137 (.type "NotImplementedError"), de P "PythonFinalizationError" 138 (.type "PythonFinalizationError"), de P "RecursionError" 139 (.type "RecursionError"), de P "UnboundLocalError" 140 (.type "UnboundLocalError"), de P "UnicodeError" 141 (.type "UnicodeError"), de P "BrokenPipeError" 142 (.type "BrokenPipeError"), de P "ConnectionAbortedError" 143 (.type "ConnectionAbortedError"), de P "ConnectionRefusedError" 144 (.type "ConnectionRefusedError"), de P "ConnectionResetError" 145 (.type "ConnectionResetError"), de P "TabError" 146 (.type "TabError"), de P "UnicodeDecodeError" 147 (.type "UnicodeDecodeError"), de P "UnicodeEncodeError" 148 (.type "UnicodeEncodeError"), de P "UnicodeTranslateError" 149 (.type "UnicodeTranslateError"), de P "ExceptionGroup" 150 (.type "ExceptionGroup"), de P "EnvironmentError" 151 (.type "OSError"), de P "IOError" 152 (.type "OSError"), de P "open" 153 (.builtin "open"), de P "quit" 154 (.builtin "builtins.quit#opaque"), de P "exit" 155 (.builtin "builtins.exit#opaque"), de P "copyright" 156 (.builtin "builtins.copyright#opaque"), de P "credits" 157 (.builtin "builtins.credits#opaque"), de P "license" 158 (.builtin "builtins.license#opaque"), de P "help" 159 (.builtin "builtins.help#opaque")] 159 }
noncomputable def ob2 (_ : Params) : Obj := { cls := .none, data := .dict #[] 0 }
noncomputable def ob3 (P : Params) : Obj := { cls := .type "dict", data := .dict #[de P "__name__" 165 (.str (Str.ofString "law_mq0115_01") 255), de P "__doc__" 166 (.none), de P "__package__" 167 (.none), de P "__loader__" 168 (.builtin "__main__.__loader__#opaque"), de P "__spec__" 169 (.none), de P "__annotations__" 170 (.ref 6), de P "__builtins__" 171 (.ref 4), de P "__file__" 173 (.str (Str.ofString "/claim/cut.py") 172), de P "__cached__" 174 (.none), de P "cmp_to_key" 197 (.ref 21), de P "_initial_missing" 198 (.ref 22), de P "reduce" 210 (.ref 30), de P "TupleComp" 254 (.ref 54), de P "_law_heaps" 262 (.ref 63), de P "_law_rows" 272 (.ref 70), de P "_law_leaf" 280 (.ref 77), de P "_law_ways" 288 (.ref 84), de P "_law_joined" 301 (.ref 91), de P "_law_senses" 314 (.ref 98), de P "_law_marks" 320 (.ref 103), de P "law" 326 (.ref 108)] 21 }
noncomputable def ob4 (_ : Params) : Obj := { cls := .type "module", dict := some 0, data := .plain }
noncomputable def ob5 (_ : Params) : Obj := { cls := .type "module", dict := some 3, data := .plain }
noncomputable def ob18 (_ : Params) : Obj := { cls := .type "tuple", data := .seq #[.str (Str.ofString "mycmp") 194] 0 }
noncomputable def ob20 (_ : Params) : Obj := { cls := .type "code", data := .fields #[.str (Str.ofString "cmp_to_key") 189, .str (Str.ofString "cmp_to_key") 190, .str (Str.ofString "/claim/cut.py") 191, .int 2 0, .int 1 0, .int 0 0, .int 0 0, .int 3 0, .ref 15, .bool true, .int 181 0, .ref 16, .none, .ref 17, .ref 18, .ref 19, .int 195 0, .int 2 0, .str (Str.ofString "/claim/cut.py") 196] }
noncomputable def ob21 (_ : Params) : Obj := fnObj (stAt 1) "cmp_to_key" "cmp_to_key" (.none) (.str (Str.ofString "cpy313.functools") 187) (.ref 20)
noncomputable def ob22 (_ : Params) : Obj := { cls := .type "object", data := .plain }
noncomputable def ob23 (_ : Params) : Obj := { cls := .type "tuple", data := .seq #[.ref 22] 0 }
noncomputable def ob29 (_ : Params) : Obj := { cls := .type "code", data := .fields #[.str (Str.ofString "reduce") 199, .str (Str.ofString "reduce") 200, .str (Str.ofString "/claim/cut.py") 201, .int 28 0, .int 3 0, .int 0 0, .int 0 0, .int 3 0, .ref 24, .bool true, .int 181 0, .ref 25, .none, .ref 26, .ref 27, .ref 28, .int 208 0, .int 28 0, .str (Str.ofString "/claim/cut.py") 209] }
noncomputable def ob30 (_ : Params) : Obj := fnObj (stAt 3) "reduce" "reduce" (.ref 23) (.str (Str.ofString "cpy313.functools") 187) (.ref 29)
noncomputable def ob43 (_ : Params) : Obj := { cls := .type "code", data := .fields #[.str (Str.ofString "__init__") 225, .str (Str.ofString "TupleComp.__init__") 226, .str (Str.ofString "/claim/cut.py") 227, .int 43 0, .int 2 0, .int 0 0, .int 0 0, .int 3 0, .ref 38, .bool true, .int 181 0, .ref 39, .none, .ref 40, .ref 41, .ref 42, .int 230 0, .int 43 0, .str (Str.ofString "/claim/cut.py") 231] }
noncomputable def ob44 (_ : Params) : Obj := fnObj (inSt (stAt 5) 0) "__init__" "TupleComp.__init__" (.none) (.str (Str.ofString "cpy313.pstats") 211) (.ref 43)
noncomputable def ob50 (_ : Params) : Obj := { cls := .type "code", data := .fields #[.str (Str.ofString "compare") 233, .str (Str.ofString "TupleComp.compare") 234, .str (Str.ofString "/claim/cut.py") 235, .int 46 0, .int 3 0, .int 0 0, .int 0 0, .int 3 0, .ref 45, .bool true, .int 181 0, .ref 46, .none, .ref 47, .ref 48, .ref 49, .int 243 0, .int 46 0, .str (Str.ofString "/claim/cut.py") 244] }
noncomputable def ob51 (_ : Params) : Obj := fnObj (inSt (stAt 5) 1) "compare" "TupleComp.compare" (.none) (.str (Str.ofString "cpy313.pstats") 211) (.ref 50)
noncomputable def ob53 (P : Params) : Obj := { cls := .type "dict", data := .dict #[de P "__module__" 220 (.str (Str.ofString "cpy313.pstats") 211), de P "__firstlineno__" 224 (.int 41 223), de P "__init__" 232 (.ref 44), de P "compare" 245 (.ref 51), de P "__static_attributes__" 247 (.ref 52), de P "__dict__" 249 (.ref 55), de P "__weakref__" 251 (.ref 56), de P "__doc__" 252 (.none)] 4 }
noncomputable def ob54 (_ : Params) : Obj := { cls := .type "type", data := .cls { name := Str.ofString "TupleComp", bases := [.type "object"], mro := [.ref 54, .type "object"], ns := 53, qualname := Str.ofString "TupleComp" }, slots := #[none, none, some (.str (Str.ofString "TupleComp") 213), some (.str (Str.ofString "TupleComp") 221), some (.builtin "object.__new__"), some (.bool true)] }
noncomputable def ob55 (_ : Params) : Obj := { cls := .type "getset_descriptor", data := .fields #[.str (Str.ofString "__dict__") 248, .ref 54, .builtin "function.__dict__", .builtin "function.__dict__#set"] }
noncomputable def ob56 (_ : Params) : Obj := { cls := .type "getset_descriptor", data := .fields #[.str (Str.ofString "__weakref__") 250, .ref 54, .builtin "ExceptionGroup.__weakref__", .none] }
noncomputable def ob62 (_ : Params) : Obj := { cls := .type "code", data := .fields #[.str (Str.ofString "_law_heaps") 257, .str (Str.ofString "_law_heaps") 258, .str (Str.ofString "/claim/cut.py") 259, .int 56 0, .int 2 0, .int 0 0, .int 0 0, .int 3 0, .ref 59, .bool true, .int 181 0, .ref 60, .none, .none, .none, .ref 61, .int 260 0, .int 56 0, .str (Str.ofString "/claim/cut.py") 261] }
noncomputable def ob63 (_ : Params) : Obj := fnObj (stAt 7) "_law_heaps" "_law_heaps" (.none) (.str (Str.ofString "law_mq0115_01") 255) (.ref 62)
noncomputable def ob69 (_ : Params) : Obj := { cls := .type "code", data := .fields #[.str (Str.ofString "_law_rows") 263, .str (Str.ofString "_law_rows") 264, .str (Str.ofString "/claim/cut.py") 265, .int 58 0, .int 1 0, .int 0 0, .int 0 0, .int 3 0, .ref 64, .bool true, .int 181 0, .ref 65, .none, .ref 66, .ref 67, .ref 68, .int 270 0, .int 58 0, .str (Str.ofString "/claim/cut.py") 271] }
noncomputable def ob70 (_ : Params) : Obj := fnObj (stAt 8) "_law_rows" "_law_rows" (.none) (.str (Str.ofString "law_mq0115_01") 255) (.ref 69)
noncomputable def ob74 (_ : Params) : Obj := { cls := .type "tuple", data := .seq #[.str (Str.ofString "column") 277] 0 }
noncomputable def ob76 (_ : Params) : Obj := { cls := .type "code", data := .fields #[.str (Str.ofString "_law_leaf") 273, .str (Str.ofString "_law_leaf") 274, .str (Str.ofString "/claim/cut.py") 275, .int 64 0, .int 1 0, .int 0 0, .int 0 0, .int 3 0, .ref 71, .bool true, .int 181 0, .ref 72, .none, .ref 73, .ref 74, .ref 75, .int 278 0, .int 64 0, .str (Str.ofString "/claim/cut.py") 279] }
noncomputable def ob77 (_ : Params) : Obj := fnObj (stAt 9) "_law_leaf" "_law_leaf" (.none) (.str (Str.ofString "law_mq0115_01") 255) (.ref 76)
noncomputable def ob83 (_ : Params) : Obj := { cls := .type "code", data := .fields #[.str (Str.ofString "_law_ways") 281, .str (Str.ofString "_law_ways") 282, .str (Str.ofString "/claim/cut.py") 283, .int 66 0, .int 1 0, .int 0 0, .int 0 0, .int 3 0, .ref 78, .bool true, .int 181 0, .ref 79, .none, .ref 80, .ref 81, .ref 82, .int 286 0, .int 66 0, .str (Str.ofString "/claim/cut.py") 287] }
noncomputable def ob84 (_ : Params) : Obj := fnObj (stAt 10) "_law_ways" "_law_ways" (.none) (.str (Str.ofString "law_mq0115_01") 255) (.ref 83)
noncomputable def ob88 (_ : Params) : Obj := { cls := .type "tuple", data := .seq #[.str (Str.ofString "left") 296, .str (Str.ofString "outer") 297, .str (Str.ofString "right") 298] 0 }
noncomputable def ob90 (_ : Params) : Obj := { cls := .type "code", data := .fields #[.str (Str.ofString "_law_joined") 289, .str (Str.ofString "_law_joined") 290, .str (Str.ofString "/claim/cut.py") 291, .int 69 0, .int 2 0, .int 0 0, .int 0 0, .int 3 0, .ref 85, .bool true, .int 181 0, .ref 86, .none, .ref 87, .ref 88, .ref 89, .int 299 0, .int 69 0, .str (Str.ofString "/claim/cut.py") 300] }
noncomputable def ob91 (_ : Params) : Obj := fnObj (stAt 11) "_law_joined" "_law_joined" (.none) (.str (Str.ofString "law_mq0115_01") 255) (.ref 90)
noncomputable def ob97 (_ : Params) : Obj := { cls := .type "code", data := .fields #[.str (Str.ofString "_law_senses") 302, .str (Str.ofString "_law_senses") 303, .str (Str.ofString "/claim/cut.py") 304, .int 75 0, .int 1 0, .int 0 0, .int 0 0, .int 3 0, .ref 92, .bool true, .int 181 0, .ref 93, .none, .ref 94, .ref 95, .ref 96, .int 312 0, .int 75 0, .str (Str.ofString "/claim/cut.py") 313] }
noncomputable def ob98 (_ : Params) : Obj := fnObj (stAt 12) "_law_senses" "_law_senses" (.none) (.str (Str.ofString "law_mq0115_01") 255) (.ref 97)
noncomputable def ob102 (_ : Params) : Obj := { cls := .type "code", data := .fields #[.str (Str.ofString "_law_marks") 315, .str (Str.ofString "_law_marks") 316, .str (Str.ofString "/claim/cut.py") 317, .int 84 0, .int 2 0, .int 0 0, .int 0 0, .int 3 0, .ref 99, .bool true, .int 181 0, .ref 100, .none, .none, .none, .ref 101, .int 318 0, .int 84 0, .str (Str.ofString "/claim/cut.py") 319] }
noncomputable def ob103 (_ : Params) : Obj := fnObj (stAt 13) "_law_marks" "_law_marks" (.none) (.str (Str.ofString "law_mq0115_01") 255) (.ref 102)
noncomputable def ob107 (_ : Params) : Obj := { cls := .type "code", data := .fields #[.str (Str.ofString "law") 321, .str (Str.ofString "law") 322, .str (Str.ofString "/claim/cut.py") 323, .int 89 0, .int 1 0, .int 0 0, .int 0 0, .int 3 0, .ref 104, .bool true, .int 181 0, .ref 105, .none, .none, .none, .ref 106, .int 324 0, .int 89 0, .str (Str.ofString "/claim/cut.py") 325] }
noncomputable def ob108 (_ : Params) : Obj := fnObj (stAt 14) "law" "law" (.none) (.str (Str.ofString "law_mq0115_01") 255) (.ref 107)
noncomputable def kt (P : Params) : KT := (.node (some (ob0 P)) (.node none (.node (some (ob3 P)) (.node none (.node none (.node none (.node (some (ob63 P)) .nil .nil) .nil) .nil) (.node (some (ob23 P)) (.node none .nil (.node (some (ob103 P)) .nil .nil)) (.node (some (ob55 P)) .nil .nil))) (.node none (.node none .nil (.node (some (ob51 P)) (.node (some (ob83 P)) .nil .nil) .nil)) (.node none (.node (some (ob43 P)) .nil (.node (some (ob107 P)) .nil .nil)) (.node none (.node (some (ob91 P)) .nil .nil) .nil)))) (.node (some (ob5 P)) (.node none (.node none (.node none .nil (.node (some (ob97 P)) .nil .nil)) .nil) .nil) (.node none (.node (some (ob21 P)) (.node none (.node (some (ob69 P)) .nil .nil) .nil) (.node (some (ob53 P)) .nil .nil)) (.node (some (ob29 P)) (.node none (.node (some (ob77 P)) .nil .nil) .nil) .nil)))) (.node (some (ob2 P)) (.node (some (ob4 P)) (.node none .nil (.node none .nil (.node (some (ob56 P)) (.node (some (ob88 P)) .nil .nil) .nil))) (.node none (.node (some (ob20 P)) .nil (.node none (.node (some (ob84 P)) .nil .nil) .nil)) (.node none (.node (some (ob44 P)) (.node (some (ob76 P)) .nil .nil) (.node (some (ob108 P)) .nil .nil)) .nil))) (.node none (.node none (.node (some (ob18 P)) (.node none .nil (.node (some (ob98 P)) .nil .nil)) (.node (some (ob50 P)) .nil .nil)) (.node none (.node none (.node (some (ob74 P)) .nil .nil) .nil) (.node none (.node (some (ob90 P)) .nil .nil) .nil))) (.node none (.node (some (ob22 P)) (.node none (.node (some (ob70 P)) .nil .nil) (.node (some (ob102 P)) .nil .nil)) (.node (some (ob54 P)) .nil .nil)) (.node (some (ob30 P)) .nil (.node (some (ob62 P)) .nil .nil))))))
noncomputable def kl (P : Params) : List (Nat × Obj) := [(0, ob0 P), (2, ob2 P), (3, ob3 P), (4, ob4 P), (5, ob5 P), (18, ob18 P), (20, ob20 P), (21, ob21 P), (22, ob22 P), (23, ob23 P), (29, ob29 P), (30, ob30 P), (43, ob43 P), (44, ob44 P), (50, ob50 P), (51, ob51 P), (53, ob53 P), (54, ob54 P), (55, ob55 P), (56, ob56 P), (62, ob62 P), (63, ob63 P), (69, ob69 P), (70, ob70 P), (74, ob74 P), (76, ob76 P), (77, ob77 P), (83, ob83 P), (84, ob84 P), (88, ob88 P), (90, ob90 P), (91, ob91 P), (97, ob97 P), (98, ob98 P), (102, ob102 P), (103, ob103 P), (107, ob107 P), (108, ob108 P)]
noncomputable def memS (s : String) : List String → Bool
  | [] => false
  | a :: l => match PySem.W.Fast.strDec s a with | .isTrue _ => true | .isFalse _ => memS s l
noncomputable def fol (b1 b2 : Bool) (f : String → Bool) : String → Bool := fun s =>
  match PySem.W.Fast.strDec s "special-get-raises" with
  | .isTrue _ => b1
  | .isFalse _ => match PySem.W.Fast.strDec s "comprehension-iter-twice" with
    | .isTrue _ => b2
    | .isFalse _ => f s
end Mine
namespace Mine
open PySem PySem.W PySem.W.X
noncomputable def PX (b1 b2 : Bool) (q : Params) : Params := { q with followText := fol b1 b2 q.followText }
theorem PX_self (q : Params) : ∃ b1 b2, q = PX b1 b2 q := by
  refine ⟨q.followText "special-get-raises", q.followText "comprehension-iter-twice", ?_⟩
  have : fol (q.followText "special-get-raises") (q.followText "comprehension-iter-twice") q.followText = q.followText := by
    funext s
    unfold fol
    split
    · rename_i e _; rw [e]
    · split
      · rename_i e _; rw [e]
      · rfl
  unfold PX
  rw [this]
structure Bs (b1 b2 : Bool) (q : Params) (w : World) (h : Heap) : Prop where
  hw : w.params = PX b1 b2 q
  T : ∀ a o, (kt (PX b1 b2 q)).get a = some o → h.get? a = some o
  st : h.get? cStatics = some statObj
theorem Bs.more {b1 b2 : Bool} {q : Params} {w : World} {h h' : Heap} (B : Bs b1 b2 q w h) (k : ∀ b o, h.get? b = some o → h'.get? b = some o) : Bs b1 b2 q w h' :=
  ⟨B.hw, fun a o e => k _ _ (B.T a o e), k _ _ B.st⟩
theorem Bs.startN {b1 b2 : Bool} {q : Params} {w : World} {h : Heap} {F : Facts} {N t : Nat} (B : Bs b1 b2 q w h) (hN : h.objs.size = N) (hF : ∀ p ∈ F, h.get? p.1 = some p.2) : Rep h ⟨kt (PX b1 b2 q), F, [], [], N, t⟩ h :=
  rep_start hN B.T hF B.st
theorem Bs.start {b1 b2 : Bool} {q : Params} {w : World} {h : Heap} {F : Facts} {t : Nat} (B : Bs b1 b2 q w h) (hF : ∀ p ∈ F, h.get? p.1 = some p.2) : Rep h ⟨kt (PX b1 b2 q), F, [], [], h.objs.size, t⟩ h :=
  rep_start rfl B.T hF B.st
end Mine
namespace Mine
open PySem PySem.W PySem.W.X
theorem Rep.bs {b1 b2 : Bool} {q : Params} {w : World} {h₀ h : Heap} {F Z B : Facts} {nx tk : Nat} (D : Rep h₀ ⟨kt (PX b1 b2 q), F, Z, B, nx, tk⟩ h) (hw : w.params = PX b1 b2 q) : Bs b1 b2 q w h := ⟨hw, fun a o e => (D.T a o e).1, D.stat.1⟩
set_option backward.match.sparseCases false in
noncomputable def retE : Stmt → Expr
  | .Return (some e) _ => e
  | .Assign _ e _ => e
  | .Expr e _ => e
  | _ => .Constant .none 0 ⟨0, 0, 0, 0⟩
set_option backward.match.sparseCases false in
noncomputable def lcSc : Expr → Scope
  | .ListComp _ _ s _ => s
  | _ => default
noncomputable def memN (j : Nat) : List Nat → Bool
  | [] => false
  | i :: l => match Nat.beq i j with
    | true => true
    | false => memN j l
noncomputable def cellAt (is : List Nat) : Nat → List (Str × NameKind) → List (Str × NameKind)
  | _, [] => []
  | j, p :: l => (p.1, match memN j is with | true => NameKind.cell | false => p.2) :: cellAt is (j + 1) l
noncomputable def lcC (e : Expr) (is : List Nat) : Scope := { lcSc e with names := cellAt is 0 (lcSc e).names }
end Mine
namespace Mine
open PySem PySem.W PySem.W.X PySem.Spec PySem.Calls PyProof.Rows
noncomputable def sumTo : List Value → Int
  | [] => 0
  | v :: l => intOf v + sumTo l
theorem allI_at {l : List Value} {j : Nat} {v : Value} (hI : allI l = true) (e : l[j]? = some v) : v = .int (intOf v) (tokOf v) := by
  obtain ⟨hj, e⟩ := List.getElem?_eq_some_iff.mp e
  have := allI_get hI hj
  rw [List.getD_eq_getElem?_getD, List.getElem?_eq_getElem hj] at this
  simp only [Option.getD_some, e] at this
  exact this
section
variable {prog : Program} {w : World} {A : Around} {R : Result → Shared → Prop} {h : Heap} {g : Array GenState} {d : Drawn} {tk : Nat} {os : OsState}
theorem c_slice {l sl : Addr} {items : Array Value} {vl vu vs : Value} {lo hi st : Option Int} (hl : h.IsList l items) (hs : h.IsSliceOf sl vl vu vs) (pl : IsPart vl lo) (pu : IsPart vu hi) (ps : IsPart vs st) (h0 : st ≠ some 0)
    (hsz : items.size ≤ sizeLine)
    (H : R (.ok (.ret (.ref h.objs.size))) ⟨h.push { cls := .type "list", data := .seq (slicePick items lo hi st) 0 }, g, d, tk, os⟩) :
    codeAny (model prog w) A (.call (.builtin "list.__getitem__") ⟨[.ref l, .ref sl], []⟩) R ⟨h, g, d, tk, os⟩ := by
  have hl' : (⟨h, g, d, tk, os⟩ : Shared).heap.IsList l items := hl
  obtain ⟨o, ho, hc, ne, hd⟩ := id hl
  obtain ⟨ob, hos, hcs, hds⟩ := id hs
  have hTs : (⟨h, g, d, tk, os⟩ : Shared).TypeIs (.ref sl) "slice" := ⟨ob, hos, hcs⟩
  refine codeAny_call_builtin slot_list_getitem.plain entry_list_getitem (slot_list_getitem.check _ _ _ _ _ _ _ _ hl'.typeIs (args_list_getitem _ _) ?_)
  show wpAny _ _ (Builtin.List.listSubscript? (.ref sl) >>= _) _ _ _
  refine wpAny_bind ?_
  · unfold Builtin.List.listSubscript?
    refine wpAny_bind (wpAny_specialOf hTs slice_no_index ?_)
    simp only [Option.isNone_none, if_true]
    refine wpAny_pure ?_
    show wpAny _ _ (typeOf (.ref sl) >>= _) _ _ _
    refine wpAny_bind (wpAny_typeOf hTs ?_)
    rw [if_neg (by decide)]
    rw [listSliceParts_eq]
    have hstep : ¬ ((rawPart st == rawInt 0) = true) := by
      cases st with
      | none => exact Bool.false_ne_true
      | some c =>
        intro hh
        have : c = 0 := by simpa [rawPart, rawInt] using hh
        exact h0 (by rw [this])
    refine wpAny_bind (wpAny_bind (wpAny_field hos hds (x := vs) rfl (wpAny_bind (wpAny_listPart ps ?_))))
    rw [if_neg hstep]
    refine wpAny_bind (wpAny_field hos hds (x := vl) rfl (wpAny_bind (wpAny_listPart pl ?_)))
    refine wpAny_bind (wpAny_field hos hds (x := vu) rfl (wpAny_bind (wpAny_listPart pu (wpAny_pure ?_))))
    refine wpAny_bind (m := Builtin.List.listItems (.ref l)) ?_
    · unfold Builtin.List.listItems
      refine wpAny_bind (wpAny_seqItems ho hd (wpAny_pure ?_))
      refine wpAny_bind (wpAny_of_eq (sliceIndices_raw lo hi st items.size h0) ?_)
      refine wpAny_bind (wpAny_newObj_type (wpAny_pure ?_) (Nat.le_trans (slicePick_size_le items lo hi st) hsz))
      exact H
end
end Mine
namespace Mine
open PySem PySem.W PySem.W.X PySem.Spec PySem.Calls PyProof.Rows
section
variable {prog : Program} {w : World} {A : Around} {R : Result → Shared → Prop} {h : Heap} {g : Array GenState} {d : Drawn} {tk : Nat} {os : OsState} {b1 b2 : Bool} {q : Params}
theorem next_end {E : Value → Shared → Prop} {s : Shared} {it l : Addr} {i : Nat} {items : Array Value} {Q : Option Value → Shared → Prop} (hh : A.handled = none)
    (hit : s.heap.IsListIter it l i) (hl : s.heap.IsList l items) (hx : items[i]? = none)
    (hQ : ∀ h', h'.objs.size = s.heap.objs.size + 2 → (∀ b o, b ≠ it → s.heap.get? b = some o → h'.get? b = some o) → Q none { s with heap := h' }) : wpAny (model prog w) A (pyNext (.ref it)) Q E s := by
  obtain ⟨o, ho, hc, hd⟩ := id hit
  obtain ⟨ol, hol, _, nl, hdl⟩ := hl
  unfold pyNext
  refine wpAny_bind (wpAny_attempt (wpAny_callSpecial?_slot (name := Str.ofString "__next__") hit.typeIs slot_listiter_next
    (wpAny_call_entry slot_listiter_next hit.typeIs entry_listiter_next ?_ (args_listiter_next _))))
  show wpAny _ _ (field (.ref it) 0 >>= _) _ _ s
  refine wpAny_bind (wpAny_field ho hd (x := .ref l) rfl ?_)
  show wpAny _ _ (if (Value.ref l == Value.none) = true then _ else _) _ _ s
  rw [if_neg (show ¬ ((Value.ref l == Value.none) = true) from Bool.false_ne_true)]
  show wpAny _ _ (field (.ref it) 1 >>= _) _ _ s
  refine wpAny_bind (wpAny_field ho hd (x := .int i 0) rfl ?_)
  show wpAny _ _ (seqItems? (.ref l) >>= _) _ _ s
  refine wpAny_bind (wpAny_seqItems hol hdl ?_)
  simp only [Int.toNat_natCast, hx]
  refine wpAny_bind (wpAny_rule (wpAny_bind (wpAny_setField ho hd (by simp) ?_)))
  show wpAny _ _ (newExc (.type "StopIteration") [] >>= _) _ _ _
  refine wpAny_bind ?_
  simp only [newExc, newTuple]
  refine wpAny_bind (wpAny_newObj_type ?_ (by size_fits))
  refine wpAny_bind (m := firstArgMember _ _) (wpAny_of_eq (a := Value.none) (by first | rfl | (simp only [firstArgMember]; rfl)) ?_)
  refine wpAny_newObj_type ?_ (by size_fits)
  simp only [raiseNew]
  refine wpAny_bind (wpAny_handled ?_)
  rw [show A.in1.handled = none from hh]
  refine wpAny_bind (wpAny_pure (wpAny_throw ?_))
  refine wpAny_bind (wpAny_isInstance (T := "StopIteration") (b := true) ⟨_, Heap.get?_push_size _ rfl, rfl⟩ isSubtype_stop ?_)
  refine wpAny_pure (hQ _ ?_ fun b o hb e => ?_)
  · rw [Heap.size_push, Heap.size_push, (Heap.SameBut.update ..).1]
  · exact Heap.get?_push_of_some _ (Heap.get?_push_of_some _ ((Heap.get?_update_other _ _ (Ne.symm hb)).trans e))
noncomputable abbrev liO (l : Addr) (i : Int) : Obj := { cls := .type "list_iterator", data := .fields #[.ref l, .int i 0] }
theorem sumTo_drop {xs : Array Value} {i : Nat} {v : Value} (hv : xs[i]? = some v) : sumTo (xs.toList.drop i) = intOf v + sumTo (xs.toList.drop (i + 1)) := by
  rw [← Array.getElem?_toList] at hv
  obtain ⟨hi, hv⟩ := List.getElem?_eq_some_iff.mp hv
  rw [List.drop_eq_getElem_cons hi, hv]
  rfl
theorem c_sumloop (hh : A.handled = none) {h₀ : Heap} {l : Addr} {xs : Array Value} {n : Nat} (hl : h₀.get? l = some { cls := .type "list", data := .seq xs n }) (hI : allI xs.toList = true) :
    ∀ (k i : Nat) (h : Heap) (t : Int) (u tk c : Nat) (st : Int), (st = 0 ∨ st = 2) → xs.size - i = k → i ≤ xs.size → (∀ b o, h₀.get? b = some o → h.get? b = some o) → h.objs.size = h₀.objs.size + 2 →
    h.IsListIter h₀.objs.size l i → h.get? (h₀.objs.size + 1) = some { cls := .type "list", data := .seq #[.int t u] c } →
    (∀ h' tk' u, Post h₀ h' (h₀.objs.size + 4) [] → R (.ok (.ret (.int (t + sumTo (xs.toList.drop i)) u))) ⟨h', g, d, tk', os⟩) →
    codeAny (model prog w) A (.builtin "sum.loop" ⟨[.ref h₀.objs.size, .ref (h₀.objs.size + 1), rawInt st, rawInt 0], []⟩) R ⟨h, g, d, tk, os⟩ := by
  intro k
  induction k with
  | zero =>
    intro i h t u tk c st hst hk hi keep hs hit hS H
    have hlt : l < h₀.objs.size := Heap.lt_size hl
    refine codeAny_builtin F.entry_sum_loop ?_
    rw [Around.under_plainId F.plain_sum_loop _]
    show wpAny _ A.in1 (seqItems? (.ref (h₀.objs.size + 1)) >>= _) _ _ _
    refine wpAny_bind (wpAny_seqItems hS rfl ?_)
    show wpAny _ A.in1 (tryCatch (pyNext (.ref h₀.objs.size)) _ >>= _) _ _ _
    have hx : xs[i]? = none := by simp; omega
    have hd : xs.toList.drop i = [] := by simp; omega
    rw [hd] at H
    refine wpAny_bind (wpAny_tryCatch (next_end (items := xs) hh hit ⟨_, keep _ _ hl, rfl, n, rfl⟩ hx fun h' hs' hk' => ?_))
    refine wpAny_pure ?_
    have := H h' tk u ⟨fun b o e => hk' b o (Nat.ne_of_lt (Heap.lt_size e)) (keep b o e), by rw [hs']; show h.objs.size + 2 = _; omega, by omega, fun _ hp => nomatch hp⟩
    simpa [sumTo] using this
  | succ k ih =>
    intro i h t u tk c st hst hk hi keep hs hit hS H
    have hlt : l < h₀.objs.size := Heap.lt_size hl
    have hi' : i < xs.size := by omega
    refine codeAny_builtin F.entry_sum_loop ?_
    rw [Around.under_plainId F.plain_sum_loop _]
    show wpAny _ A.in1 (seqItems? (.ref (h₀.objs.size + 1)) >>= _) _ _ _
    refine wpAny_bind (wpAny_seqItems hS rfl ?_)
    show wpAny _ A.in1 (tryCatch (pyNext (.ref h₀.objs.size)) _ >>= _) _ _ _
    obtain ⟨v, hv⟩ : ∃ v, xs[i]? = some v := ⟨xs[i], by simp [hi']⟩
    have ev : v = .int (intOf v) (tokOf v) := allI_at hI (by rw [Array.getElem?_toList]; exact hv)
    generalize hy : intOf v = y at *
    generalize tokOf v = yt at *
    subst ev
    refine wpAny_bind (wpAny_tryCatch (wpAny_pyNext_list_item (items := xs) hit ⟨_, keep _ _ hl, rfl, n, rfl⟩ hv fun h' hit' hs' => ?_))
    have hS' : h'.get? (h₀.objs.size + 1) = some { cls := .type "list", data := .seq #[.int t u] c } := (hs'.2 (h₀.objs.size + 1) (by intro e; exact absurd e (Nat.succ_ne_self _))).trans hS
    have keep' : ∀ b o, h₀.get? b = some o → h'.get? b = some o := fun b o e => (hs'.2 b (Nat.ne_of_lt (Heap.lt_size e))).trans (keep b o e)
    have hsz' : h'.objs.size = h₀.objs.size + 2 := hs'.1.trans hs
    have sum : sumTo (xs.toList.drop i) = y + sumTo (xs.toList.drop (i + 1)) := by
      rw [sumTo_drop hv, hy]
    have fin : ∀ (h'' : Heap) (u' tk' c' : Nat) (st' : Int), (st' = 0 ∨ st' = 2) → Heap.SameBut (h₀.objs.size + 1) h' h'' → h''.get? (h₀.objs.size + 1) = some { cls := .type "list", data := .seq #[.int (t + y) u'] c' } →
        codeAny (model prog w) A (.builtin "sum.loop" ⟨[.ref h₀.objs.size, .ref (h₀.objs.size + 1), rawInt st', rawInt 0], []⟩) R ⟨h'', g, d, tk', os⟩ := fun h'' u' tk' c' st' hst' hs'' hS'' => by
      refine ih (i + 1) h'' (t + y) u' tk' c' st' hst' (by omega) (by omega) (fun b o e => (hs''.2 b (Nat.ne_of_lt (Nat.lt_succ_of_lt (Heap.lt_size e)))).trans (keep' b o e)) (hs''.1.trans hsz') ?_ hS'' fun h3 tk3 u3 P => ?_
      · obtain ⟨o, ho, r⟩ := hit'
        exact ⟨o, (hs''.2 h₀.objs.size (by intro e; exact absurd e.symm (Nat.succ_ne_self _))).trans ho, r⟩
      · have := H h3 tk3 u3 P
        rw [sum, ← Int.add_assoc] at this
        exact this
    rcases hst with rfl | rfl
    · show wpAny _ A.in1 (if (_ : Bool) = true then (mkInt (t + y) >>= _) else _) _ _ _
      split
      · refine wpAny_bind (wpAny_mkInt ?_)
        show wpAny _ A.in1 (updateSeq (h₀.objs.size + 1) (fun _ => #[.int (t + y) tk]) >>= _) _ _ _
        refine wpAny_bind (wpAny_updateSeq hS' rfl (wpAny_pure ⟨plainId_quiet F.plain_sum_loop _, ?_⟩))
        exact fin _ tk _ _ 0 (.inl rfl) (Heap.SameBut.update ..) (Heap.get?_update_self _ hS' rfl)
      · refine wpAny_bind (wpAny_rule ?_)
        refine wpAny_bind (wpAny_attempt (wpAny_holding (wpAny_add_int ?_)))
        show wpAny _ A.in1 (updateSeq (h₀.objs.size + 1) (fun _ => #[.int (t + y) tk]) >>= _) _ _ _
        refine wpAny_bind (wpAny_updateSeq hS' rfl ?_)
        have hS₂ := Heap.get?_update_self (Obj.mapSeq fun _ => #[Value.int (t + y) tk]) hS' rfl
        refine wpAny_bind (wpAny_letGo ?_)
        refine wpAny_bind (wpAny_updateSeq hS₂ rfl (wpAny_pure ⟨plainId_quiet F.plain_sum_loop _, ?_⟩))
        exact fin _ tk _ _ 2 (.inr rfl) ⟨(Heap.SameBut.update ..).1.trans (Heap.SameBut.update ..).1, fun b hb => ((Heap.SameBut.update ..).2 b hb).trans ((Heap.SameBut.update ..).2 b hb)⟩ (Heap.get?_update_self _ hS₂ rfl)
    · show wpAny _ A.in1 ((holding [Value.int y yt] (binaryOp .Add (.int t u) (.int y yt))).attempt >>= _) _ _ _
      refine wpAny_bind (wpAny_attempt (wpAny_holding (wpAny_add_int ?_)))
      show wpAny _ A.in1 (updateSeq (h₀.objs.size + 1) (fun _ => #[.int (t + y) tk]) >>= _) _ _ _
      refine wpAny_bind (wpAny_updateSeq hS' rfl ?_)
      have hS₂ := Heap.get?_update_self (Obj.mapSeq fun _ => #[Value.int (t + y) tk]) hS' rfl
      refine wpAny_bind (wpAny_letGo ?_)
      refine wpAny_bind (wpAny_updateSeq hS₂ rfl (wpAny_pure ⟨plainId_quiet F.plain_sum_loop _, ?_⟩))
      exact fin _ tk _ _ 2 (.inr rfl) ⟨(Heap.SameBut.update ..).1.trans (Heap.SameBut.update ..).1, fun b hb => ((Heap.SameBut.update ..).2 b hb).trans ((Heap.SameBut.update ..).2 b hb)⟩ (Heap.get?_update_self _ hS₂ rfl)
theorem c_sum {nn : Nat} (L : Deep (nn + 20) A) (B : Bs b1 b2 q w h) {l : Addr} {xs : Array Value} {n : Nat} (hl : h.get? l = some { cls := .type "list", data := .seq xs n }) (hI : allI xs.toList = true)
    (H : ∀ h' tk' u, Post h h' (h.objs.size + 4) [] → R (.ok (.ret (.int (sumTo xs.toList) u))) ⟨h', g, d, tk', os⟩) :
    codeAny (model prog w) A (.call (.builtin "sum") ⟨[.ref l], []⟩) R ⟨h, g, d, tk, os⟩ := by
  refine codeAny_call_builtin F.plain_sum F.entry_sum ?_
  have e : checkBuiltinCall "sum" ⟨[.ref l], []⟩ = (pure () : Sem Unit) := by
    have ha := F.args_sum1 (.ref l)
    unfold argsOk at ha
    unfold checkBuiltinCall
    rw [F.kind_sum]
    cases hs : Manifest.signature? "sum" with
    | none => rfl
    | some sig =>
      rw [hs] at ha
      exact ha
  rw [e]
  refine wpAny_pure ?_
  unfold Builtin.«sum»
  simp only [List.length_cons, List.length_nil]
  rw [if_neg (by decide)]
  refine wpAny_bind (wpAny_of_eq (show Builtin.Builtins.bindParams "sum" ["start"] 0 { } = pure [none] from rfl) ?_)
  refine wpAny_bind (wpAny_pyIter_list (items := xs) ⟨_, hl, rfl, n, rfl⟩ ?_)
  refine wpAny_bind (wpAny_mkInt ?_)
  refine wpAny_bind (wpAny_pure ?_)
  simp only [List.forIn_cons, List.forIn_nil]
  refine wpAny_bind (wpAny_bind (wpAny_bind (wpAny_isInstance (T := "int") (b := false) (typeIs_int _ _ _) PySem.sub_int_str ?_)))
  simp only [Bool.false_eq_true, if_false]
  refine wpAny_pure (wpAny_bind (wpAny_bind (wpAny_isInstance (T := "int") (b := false) (typeIs_int _ _ _) PySem.sub_int_bytes ?_)))
  simp only [Bool.false_eq_true, if_false]
  refine wpAny_pure (wpAny_bind (wpAny_bind (wpAny_isInstance (T := "int") (b := false) (typeIs_int _ _ _) PySem.sub_int_bytearray ?_)))
  simp only [Bool.false_eq_true, if_false]
  refine wpAny_pure (wpAny_pure ?_)
  refine wpAny_bind (wpAny_newObj_type ?_)
  refine wpAny_pure ⟨plainId_quiet F.plain_sum_loop _, ?_⟩
  have sz : (h.push (liO l 0)).objs.size = h.objs.size + 1 := Heap.size_push ..
  show codeAny _ _ (.builtin "sum.loop" ⟨[.ref h.objs.size, .ref (h.push (liO l 0)).objs.size, rawInt 0, rawInt 0], []⟩) _ _
  rw [sz]
  refine c_sumloop (h₀ := h) (xs := xs) L.handled hl hI xs.size 0 _ 0 tk _ 0 0 (.inl rfl) (by omega) (by omega) (fun b o e => Heap.get?_push_of_some _ (Heap.get?_push_of_some _ e)) ?_ ?_ ?_ fun h' tk' u P => ?_
  · rw [Heap.size_push, Heap.size_push]
  · exact ⟨_, Heap.get?_push_of_some _ (Heap.get?_push_size _ rfl), rfl, rfl⟩
  · rw [← sz]; exact Heap.get?_push_size _ rfl
  · have := H h' tk' u P
    simpa using this
end
end Mine
namespace Mine
open PySem PySem.W PySem.W.X PySem.Spec PySem.Calls PyProof.Rows
noncomputable def VH (P : Params) (prog : Program) : Env9 := ⟨⟨prog, P⟩, fun c => match c with
  | .compLoop .. => true
  | .call (.builtin s) ⟨[.ref _, .ref _], _⟩ => memS s ["list.__getitem__"]
  | .call (.builtin s) _ => memS s ["sum"]
  | _ => false⟩
theorem allI_mem : ∀ {l : List Value}, (∀ v ∈ l, v = .int (intOf v) (tokOf v)) → allI l = true
  | [], _ => rfl
  | v :: l, h => by
    have h1 := h v (.head _)
    rw [h1]
    exact allI_mem (l := l) fun x hx => h x (.tail _ hx)
theorem allI_pick {xs : Array Value} (hI : allI xs.toList = true) (lo hi st : Option Int) : allI (slicePick xs lo hi st).toList = true := by
  refine allI_mem fun v hv => ?_
  unfold slicePick at hv
  rw [List.mem_filterMap] at hv
  obtain ⟨j, _, e⟩ := hv
  rw [← Array.getElem?_toList] at e
  exact allI_at hI e
noncomputable def hpE : Expr := retE (inSt (stAt 7) 0)
noncomputable def hpCode (N : Nat) : Code := .compLoop hpE 0 (.ref (N + 4)) (.ref (N + 5)) { scope := lcC hpE [4,5], locals := N + 6, globals := 3, cells := [(Str.ofString "script", N + 1), (Str.ofString "ahead", N + 2)], qual := Str.ofString "_law_heaps.<locals>.", func := none, code := .ref 62, frame := some N, builtins := 0 }
noncomputable abbrev lstO (vs : Array Value) (n : Nat) : Obj := { cls := .type "list", data := .seq vs n }
noncomputable def hpD (P : Params) : Nat → Nat → Nat → Data
  | 0, _, _ => .dict #[] 0
  | i + 1, e1, e2 => .dict #[de P "place" e1 (.int i e2)] 1
noncomputable def hpM (P : Params) (X0 X1 : Addr) (xs : Array Value) (u0 : Nat) (al : Array Value) (N : Nat) (i r : Int) (acc : Array Value) (n : Nat) (d : Data) (nx tk : Nat) : Mm :=
  ⟨kt P, [(X0, lstO xs u0), (X1, lstO al 0)], [(N + 1, { cls := .type "cell", data := .cell (some (.ref X0)) }), (N + 2, { cls := .type "cell", data := .cell (some (.ref X1)) }), (N + 4, { cls := .type "range_iterator", data := .fields #[.int i 0, .int r 0, .int 1 0] }), (N + 5, lstO acc n), (N + 6, { cls := .type "dict", data := d })], [], nx, tk⟩
section
variable {prog : Program} {w : World} {A : Around} {R : Result → Shared → Prop} {h₀ h : Heap} {g : Array GenState} {d : Drawn} {tk : Nat} {os : OsState} {b1 b2 : Bool} {q : Params}
noncomputable def sel9 {α : Type} [Inhabited α] (l : List α) (i : Nat) : α := l.getD i default
noncomputable def arL (a : Nat → Int) (t : Nat → Nat) : Nat → Nat → List Value
  | _, 0 => []
  | i, n + 1 => .int (a i) (t i) :: arL a t (i + 1) n
noncomputable def arI (K : Nat) (a : Nat → Int) (t : Nat → Nat) : Array Value := ⟨arL a t 0 K⟩
noncomputable def hpU {α : Type} (i : Nat) (v : α) (y : Nat → α) (j : Nat) : α := match Nat.beq j i with
  | true => v
  | false => y j
noncomputable def hpE9 (i t e : Nat) : Nat := match i with
  | 0 => t
  | _ => e
noncomputable def hpK (c : Nat) : Nat := [3,3,3,4,4,4,4,6,6,6,6,6,6].getD c 0
noncomputable def hpI (c : Nat) : Nat := [0,1,2,0,1,2,3,0,1,2,3,4,5].getD c 0
theorem hpI_lt : ∀ {c : Nat}, c < 13 → hpI c < hpK c ∧ hpK c < 7 := by decide
theorem hpK_ne : ∀ {c : Nat}, c < 13 → (some ((hpK c : Nat) : Int)) ≠ some 0 := by decide
theorem hpT {nn c : Nat} (hc : c < 13) (L : Deep (nn + 40) A) (hw : w.params = PX b1 b2 q) {N X0 X1 u0 e1 e2 : Nat} {xs : Array Value} {a : Nat → Int} {t : Nat → Nat} {y : Nat → Int} {u : Nat → Nat} (hI : allI xs.toList = true) (hsz : xs.size ≤ sizeLine)
    (D : Rep h₀ (hpM (PX b1 b2 q) X0 X1 xs u0 (arI (hpK c) a t) N (hpI c : Nat) ((hpK c - hpI c : Nat) : Int) (arI (hpI c) y u) (hpI c) (hpD (PX b1 b2 q) (hpI c) e1 e2) (N + (7 + 6 * hpI c)) tk) h)
    (H : ∀ h' tk' y u e3 e4, Rep h₀ (hpM (PX b1 b2 q) X0 X1 xs u0 (arI (hpK c) a t) N ((hpI c + 1 : Nat) : Int) ((hpK c - (hpI c + 1) : Nat) : Int) (arI (hpI c + 1) y u) (hpI c + 1) (hpD (PX b1 b2 q) (hpI c + 1) e3 e4) (N + (7 + 6 * (hpI c + 1))) tk') h' → codeAny (model prog w) A (hpCode N) R ⟨h', g, d, tk', os⟩) :
    codeAny (model prog w) A (hpCode N) R ⟨h, g, d, tk, os⟩ := by
  have hP : (VH (PX b1 b2 q) prog).P = ⟨prog, w.params⟩ := by rw [hw]; rfl
  have B := D.bs hw
  refine start (V := VH (PX b1 b2 q) prog) L hP 100000 0 [7,0,7,0,7,0,7,0,7,0,7,0,7,0,7,0,7,0,13,0,13,0,4,0,13,0,3,0,3,0,3,0,1003,2,1,0,13,2,4,0,3,0,3,0,3,0,0,0,0,0,0,0] D rfl ?_
  refine good_hole L (c := .call (.builtin "list.__getitem__") ⟨[.ref X0, .ref (N + (7 + 6 * hpI c))], []⟩) (pp := [itemP (hpK c) (hpI c : Nat)]) (by generalize b1 = b; revert b hc; generalize c = j; revert j; exact kNB (by kernel_rfl)) ⟨by have := hpI_lt hc; unfold itemP; omega, trivial⟩ fun g0 M0 D0 => ?_
  have s0 := D0.atM (j := 16) (x := (N + (7 + 6 * hpI c), { cls := .type "slice", data := .fields #[.int (hpI c : Nat) tk, .none, .int (hpK c : Nat) (tk + 3)] })) (by generalize b1 = b; revert b hc; generalize c = j; revert j; exact kNB (by kernel_rfl))
  have S0 := D0.atM (j := 0) (x := (X0, lstO xs u0)) (by generalize b1 = b; revert b hc; generalize c = j; revert j; exact kNB (by kernel_rfl))
  have z0 : g0.objs.size = N + (8 + 6 * hpI c) := D0.size.trans (by generalize b1 = b; revert b hc; generalize c = j; revert j; exact kNB (by kernel_rfl))
  refine c_slice (lo := some (hpI c : Nat)) (hi := none) (st := some (hpK c : Nat)) ⟨_, S0, rfl, _, rfl⟩ ⟨_, s0, rfl, rfl⟩ (.int _ _) .none (.int _ _) (hpK_ne hc) hsz ?_
  rw [z0]
  refine back (V := VH (PX b1 b2 q) prog) L hP 100000 0 [] (D0.alloc (x := lstO (slicePick xs (some (hpI c : Nat)) none (some (hpK c : Nat))) 0) (by generalize b1 = b; revert b hc; generalize c = j; revert j; exact kNB (by kernel_rfl))) ?_
  refine good_hole L (c := .call (.builtin "sum") ⟨[.ref (N + (8 + 6 * hpI c))], []⟩) (pp := []) (by generalize b1 = b; revert b hc; generalize c = j; revert j; exact kNB (by kernel_rfl)) trivial fun g1 M1 D1 => ?_
  have l1 := D1.atM (j := 19) (x := (N + (8 + 6 * hpI c), lstO (slicePick xs (some (hpI c : Nat)) none (some (hpK c : Nat))) 0)) (by generalize b1 = b; revert b hc; generalize c = j; revert j; exact kNB (by kernel_rfl))
  have z1 : g1.objs.size = N + (9 + 6 * hpI c) := D1.size.trans (by generalize b1 = b; revert b hc; generalize c = j; revert j; exact kNB (by kernel_rfl))
  have D1' := D1.to (F := []) (Z := []) (B := []) (nx := N + (9 + 6 * hpI c)) (tk := 0) [] [] (T := kt (PX b1 b2 q)) (by generalize b1 = b; revert b hc; generalize c = j; revert j; exact kNB (by kernel_rfl)) rfl
  refine c_sum (nn := nn) M1 (D1'.bs hw) l1 (allI_pick hI _ _ _) fun g2 k2 v2 P2 => ?_
  rw [z1] at P2
  refine back (V := VH (PX b1 b2 q) prog) L hP 100000 0 (hz [10,10,10,10]) (D1.and P2) ?_
  refine good_tail L (c := hpCode N) (pp := []) (by generalize b1 = b; revert b hc; generalize c = j; revert j; exact kNB (by kernel_rfl)) (by generalize b1 = b; revert b hc; generalize c = j; revert j; exact kNB (by kernel_rfl)) trivial fun g3 D3 => ?_
  exact H g3 _ (hpU (hpI c) (a (hpI c) + sumTo (slicePick xs (some (hpI c : Nat)) none (some (hpK c : Nat))).toList) y) (hpU (hpI c) k2 u) (hpE9 (hpI c) (tk + 1) e1) tk (D3.to [0,3] [0,1,2,3,4] (by generalize b1 = b; revert b hc; generalize c = j; revert j; exact kNB (by kernel_rfl)) rfl)
theorem heaps3 {nn : Nat} (L : Deep (nn + 60) A) (B : Bs b1 b2 q w h) {N : Nat} (hN : h.objs.size = N) {X0 X1 u0 : Nat} {xs : Array Value} {a1 a2 a3 : Int} {t1 t2 t3 : Nat} (hS : h.get? X0 = some (lstO xs u0)) (hI : allI xs.toList = true) (hsz : xs.size ≤ sizeLine)
    (hR : h.get? X1 = some (lstO #[.int a1 t1, .int a2 t2, .int a3 t3] 0))
    (H : ∀ h' tk' (y1 y2 y3 : Int) (u1 u2 u3 : Nat), Post h h' (N + 27) [(N + 5, lstO #[.int y1 u1, .int y2 u2, .int y3 u3] 3)] → R (.ok (.ret (.ref (N + 5)))) ⟨h', g, d, tk', os⟩) :
    codeAny (model prog w) A (.call (.ref 63) ⟨[.ref X0, .ref X1], []⟩) R ⟨h, g, d, tk, os⟩ := by
  have hP : (VH (PX b1 b2 q) prog).P = ⟨prog, w.params⟩ := by rw [B.hw]; rfl
  have hF : ∀ p ∈ ([(X0, lstO xs u0), (X1, lstO (arI 3 (sel9 [a1, a2, a3]) (sel9 [t1, t2, t3])) 0)] : Facts), h.get? p.1 = some p.2 := fun p hp => by
    rcases List.mem_cons.mp hp with rfl | hp
    · exact hS
    · rcases List.mem_singleton.mp hp with rfl; exact hR
  refine start (V := VH (PX b1 b2 q) prog) L hP 100000 2 (cond b2 [4,0,4,0,7,0,7,5,7,0,3,0,3,0,3,0,10,0,10,0,10,0,10,0,10,0,10,0,10,0,10,0,10,0,10,0,13,0] [4,0,4,0,7,0,7,5,7,0,3,0,3,0,3,0,10,0,10,0,10,0,10,0,10,0,10,0,10,0,10,0,10,0,10,0,13,0,13,0,13,0,13,0,13,0]) (B.startN hN hF (t := tk)) rfl ?_
  refine good_hole L (c := hpCode N) (pp := []) (by generalize b1 = b; generalize b2 = c; revert b c; exact kBB (by kernel_rfl)) trivial fun g0 M0 D0 => ?_
  have E0 := D0.to (T := kt (PX b1 b2 q)) (F := [(X0, lstO xs u0), (X1, lstO (arI 3 (sel9 [a1, a2, a3]) (sel9 [t1, t2, t3])) 0)]) (B := []) (nx := N + 7) (tk := (goI (VH (PX b1 b2 q) prog) 100000 2 (cond b2 [4,0,4,0,7,0,7,5,7,0,3,0,3,0,3,0,10,0,10,0,10,0,10,0,10,0,10,0,10,0,10,0,10,0,10,0,13,0] [4,0,4,0,7,0,7,5,7,0,3,0,3,0,3,0,10,0,10,0,10,0,10,0,10,0,10,0,10,0,10,0,10,0,10,0,13,0,13,0,13,0,13,0,13,0]) (.call (.ref 63) ⟨[.ref X0, .ref X1], []⟩) ⟨kt (PX b1 b2 q), [(X0, lstO xs u0), (X1, lstO (arI 3 (sel9 [a1, a2, a3]) (sel9 [t1, t2, t3])) 0)], [], [], N, tk⟩).tkI) [0,3] [1,2,4,5,6] (Z := (hpM (PX b1 b2 q) X0 X1 xs u0 (arI 3 (sel9 [a1, a2, a3]) (sel9 [t1, t2, t3])) N (hpI 0 : Nat) ((hpK 0 - hpI 0 : Nat) : Int) (arI 0 (fun _ => 0) fun _ => 0) 0 (hpD (PX b1 b2 q) 0 0 0) (N + 7) 0).Z) (by generalize b1 = b; generalize b2 = c; revert b c; exact kBB (by kernel_rfl)) rfl
  refine hpT (nn := nn) (c := 0) (by decide) (e1 := 0) (e2 := 0) (a := sel9 [a1, a2, a3]) (t := sel9 [t1, t2, t3]) (y := fun _ => 0) (u := fun _ => 0) M0 B.hw hI hsz E0 fun h1 k1 y1 u1 c1 f1 E1 => ?_
  refine hpT (nn := nn) (c := 1) (by decide) M0 B.hw hI hsz E1 fun h2 k2 y2 u2 c2 f2 E2 => ?_
  refine hpT (nn := nn) (c := 2) (by decide) M0 B.hw hI hsz E2 fun h3 k3 y3 u3 c3 f3 E3 => ?_
  refine start (V := VH (PX b1 b2 q) prog) M0 hP 100000 0 (hz [7,7,7,7,7,19]) E3 rfl ?_
  refine good_done (r := .ok .next) (pp := []) (by generalize b1 = b; revert b; exact kB (by kernel_rfl)) trivial fun h9 D9 => ?_
  have E9 := D9.to (T := kt (PX b1 b2 q)) (F := []) (Z := [(N + 5, lstO (arI 3 y3 u3) 3), (N + 6, { cls := .type "dict", data := hpD (PX b1 b2 q) 3 c3 f3 })]) (B := []) (nx := N + 27) (tk := 0) [] [3,4] (by generalize b1 = b; revert b; exact kB (by kernel_rfl)) rfl
  refine back (V := VH (PX b1 b2 q) prog) L hP 100000 0 (hz [4,4,4]) E9 ?_
  refine good_done (r := .ok (.ret (.ref (N + 5)))) (pp := []) (by generalize b1 = b; generalize b2 = c; revert b c; exact kBB (by kernel_rfl)) trivial fun h10 D10 => ?_
  exact H h10 _ (y3 0) (y3 1) (y3 2) (u3 0) (u3 1) (u3 2) (D10.post [0] (by generalize b1 = b; generalize b2 = c; revert b c; exact kBB (by kernel_rfl)))
theorem heaps4 {nn : Nat} (L : Deep (nn + 60) A) (B : Bs b1 b2 q w h) {N : Nat} (hN : h.objs.size = N) {X0 X1 u0 : Nat} {xs : Array Value} {a1 a2 a3 a4 : Int} {t1 t2 t3 t4 : Nat} (hS : h.get? X0 = some (lstO xs u0)) (hI : allI xs.toList = true) (hsz : xs.size ≤ sizeLine)
    (hR : h.get? X1 = some (lstO #[.int a1 t1, .int a2 t2, .int a3 t3, .int a4 t4] 0))
    (H : ∀ h' tk' (y1 y2 y3 y4 : Int) (u1 u2 u3 u4 : Nat), Post h h' (N + 33) [(N + 5, lstO #[.int y1 u1, .int y2 u2, .int y3 u3, .int y4 u4] 4)] → R (.ok (.ret (.ref (N + 5)))) ⟨h', g, d, tk', os⟩) :
    codeAny (model prog w) A (.call (.ref 63) ⟨[.ref X0, .ref X1], []⟩) R ⟨h, g, d, tk, os⟩ := by
  have hP : (VH (PX b1 b2 q) prog).P = ⟨prog, w.params⟩ := by rw [B.hw]; rfl
  have hF : ∀ p ∈ ([(X0, lstO xs u0), (X1, lstO (arI 4 (sel9 [a1, a2, a3, a4]) (sel9 [t1, t2, t3, t4])) 0)] : Facts), h.get? p.1 = some p.2 := fun p hp => by
    rcases List.mem_cons.mp hp with rfl | hp
    · exact hS
    · rcases List.mem_singleton.mp hp with rfl; exact hR
  refine start (V := VH (PX b1 b2 q) prog) L hP 100000 2 (cond b2 [4,0,4,0,7,0,7,5,7,0,3,0,3,0,3,0,10,0,10,0,10,0,10,0,10,0,10,0,10,0,10,0,10,0,10,0,13,0] [4,0,4,0,7,0,7,5,7,0,3,0,3,0,3,0,10,0,10,0,10,0,10,0,10,0,10,0,10,0,10,0,10,0,10,0,13,0,13,0,13,0,13,0,13,0]) (B.startN hN hF (t := tk)) rfl ?_
  refine good_hole L (c := hpCode N) (pp := []) (by generalize b1 = b; generalize b2 = c; revert b c; exact kBB (by kernel_rfl)) trivial fun g0 M0 D0 => ?_
  have E0 := D0.to (T := kt (PX b1 b2 q)) (F := [(X0, lstO xs u0), (X1, lstO (arI 4 (sel9 [a1, a2, a3, a4]) (sel9 [t1, t2, t3, t4])) 0)]) (B := []) (nx := N + 7) (tk := (goI (VH (PX b1 b2 q) prog) 100000 2 (cond b2 [4,0,4,0,7,0,7,5,7,0,3,0,3,0,3,0,10,0,10,0,10,0,10,0,10,0,10,0,10,0,10,0,10,0,10,0,13,0] [4,0,4,0,7,0,7,5,7,0,3,0,3,0,3,0,10,0,10,0,10,0,10,0,10,0,10,0,10,0,10,0,10,0,10,0,13,0,13,0,13,0,13,0,13,0]) (.call (.ref 63) ⟨[.ref X0, .ref X1], []⟩) ⟨kt (PX b1 b2 q), [(X0, lstO xs u0), (X1, lstO (arI 4 (sel9 [a1, a2, a3, a4]) (sel9 [t1, t2, t3, t4])) 0)], [], [], N, tk⟩).tkI) [0,3] [1,2,4,5,6] (Z := (hpM (PX b1 b2 q) X0 X1 xs u0 (arI 4 (sel9 [a1, a2, a3, a4]) (sel9 [t1, t2, t3, t4])) N (hpI 3 : Nat) ((hpK 3 - hpI 3 : Nat) : Int) (arI 0 (fun _ => 0) fun _ => 0) 0 (hpD (PX b1 b2 q) 0 0 0) (N + 7) 0).Z) (by generalize b1 = b; generalize b2 = c; revert b c; exact kBB (by kernel_rfl)) rfl
  refine hpT (nn := nn) (c := 3) (by decide) (e1 := 0) (e2 := 0) (a := sel9 [a1, a2, a3, a4]) (t := sel9 [t1, t2, t3, t4]) (y := fun _ => 0) (u := fun _ => 0) M0 B.hw hI hsz E0 fun h1 k1 y1 u1 c1 f1 E1 => ?_
  refine hpT (nn := nn) (c := 4) (by decide) M0 B.hw hI hsz E1 fun h2 k2 y2 u2 c2 f2 E2 => ?_
  refine hpT (nn := nn) (c := 5) (by decide) M0 B.hw hI hsz E2 fun h3 k3 y3 u3 c3 f3 E3 => ?_
  refine hpT (nn := nn) (c := 6) (by decide) M0 B.hw hI hsz E3 fun h4 k4 y4 u4 c4 f4 E4 => ?_
  refine start (V := VH (PX b1 b2 q) prog) M0 hP 100000 0 (hz [7,7,7,7,7,19]) E4 rfl ?_
  refine good_done (r := .ok .next) (pp := []) (by generalize b1 = b; revert b; exact kB (by kernel_rfl)) trivial fun h9 D9 => ?_
  have E9 := D9.to (T := kt (PX b1 b2 q)) (F := []) (Z := [(N + 5, lstO (arI 4 y4 u4) 4), (N + 6, { cls := .type "dict", data := hpD (PX b1 b2 q) 4 c4 f4 })]) (B := []) (nx := N + 33) (tk := 0) [] [3,4] (by generalize b1 = b; revert b; exact kB (by kernel_rfl)) rfl
  refine back (V := VH (PX b1 b2 q) prog) L hP 100000 0 (hz [4,4,4]) E9 ?_
  refine good_done (r := .ok (.ret (.ref (N + 5)))) (pp := []) (by generalize b1 = b; generalize b2 = c; revert b c; exact kBB (by kernel_rfl)) trivial fun h10 D10 => ?_
  exact H h10 _ (y4 0) (y4 1) (y4 2) (y4 3) (u4 0) (u4 1) (u4 2) (u4 3) (D10.post [0] (by generalize b1 = b; generalize b2 = c; revert b c; exact kBB (by kernel_rfl)))
theorem heaps6 {nn : Nat} (L : Deep (nn + 60) A) (B : Bs b1 b2 q w h) {N : Nat} (hN : h.objs.size = N) {X0 X1 u0 : Nat} {xs : Array Value} {a1 a2 a3 a4 a5 a6 : Int} {t1 t2 t3 t4 t5 t6 : Nat} (hS : h.get? X0 = some (lstO xs u0)) (hI : allI xs.toList = true) (hsz : xs.size ≤ sizeLine)
    (hR : h.get? X1 = some (lstO #[.int a1 t1, .int a2 t2, .int a3 t3, .int a4 t4, .int a5 t5, .int a6 t6] 0))
    (H : ∀ h' tk' (y1 y2 y3 y4 y5 y6 : Int) (u1 u2 u3 u4 u5 u6 : Nat), Post h h' (N + 45) [(N + 5, lstO #[.int y1 u1, .int y2 u2, .int y3 u3, .int y4 u4, .int y5 u5, .int y6 u6] 6)] → R (.ok (.ret (.ref (N + 5)))) ⟨h', g, d, tk', os⟩) :
    codeAny (model prog w) A (.call (.ref 63) ⟨[.ref X0, .ref X1], []⟩) R ⟨h, g, d, tk, os⟩ := by
  have hP : (VH (PX b1 b2 q) prog).P = ⟨prog, w.params⟩ := by rw [B.hw]; rfl
  have hF : ∀ p ∈ ([(X0, lstO xs u0), (X1, lstO (arI 6 (sel9 [a1, a2, a3, a4, a5, a6]) (sel9 [t1, t2, t3, t4, t5, t6])) 0)] : Facts), h.get? p.1 = some p.2 := fun p hp => by
    rcases List.mem_cons.mp hp with rfl | hp
    · exact hS
    · rcases List.mem_singleton.mp hp with rfl; exact hR
  refine start (V := VH (PX b1 b2 q) prog) L hP 100000 2 (cond b2 [4,0,4,0,7,0,7,5,7,0,3,0,3,0,3,0,10,0,10,0,10,0,10,0,10,0,10,0,10,0,10,0,10,0,10,0,13,0] [4,0,4,0,7,0,7,5,7,0,3,0,3,0,3,0,10,0,10,0,10,0,10,0,10,0,10,0,10,0,10,0,10,0,10,0,13,0,13,0,13,0,13,0,13,0]) (B.startN hN hF (t := tk)) rfl ?_
  refine good_hole L (c := hpCode N) (pp := []) (by generalize b1 = b; generalize b2 = c; revert b c; exact kBB (by kernel_rfl)) trivial fun g0 M0 D0 => ?_
  have E0 := D0.to (T := kt (PX b1 b2 q)) (F := [(X0, lstO xs u0), (X1, lstO (arI 6 (sel9 [a1, a2, a3, a4, a5, a6]) (sel9 [t1, t2, t3, t4, t5, t6])) 0)]) (B := []) (nx := N + 7) (tk := (goI (VH (PX b1 b2 q) prog) 100000 2 (cond b2 [4,0,4,0,7,0,7,5,7,0,3,0,3,0,3,0,10,0,10,0,10,0,10,0,10,0,10,0,10,0,10,0,10,0,10,0,13,0] [4,0,4,0,7,0,7,5,7,0,3,0,3,0,3,0,10,0,10,0,10,0,10,0,10,0,10,0,10,0,10,0,10,0,10,0,13,0,13,0,13,0,13,0,13,0]) (.call (.ref 63) ⟨[.ref X0, .ref X1], []⟩) ⟨kt (PX b1 b2 q), [(X0, lstO xs u0), (X1, lstO (arI 6 (sel9 [a1, a2, a3, a4, a5, a6]) (sel9 [t1, t2, t3, t4, t5, t6])) 0)], [], [], N, tk⟩).tkI) [0,3] [1,2,4,5,6] (Z := (hpM (PX b1 b2 q) X0 X1 xs u0 (arI 6 (sel9 [a1, a2, a3, a4, a5, a6]) (sel9 [t1, t2, t3, t4, t5, t6])) N (hpI 7 : Nat) ((hpK 7 - hpI 7 : Nat) : Int) (arI 0 (fun _ => 0) fun _ => 0) 0 (hpD (PX b1 b2 q) 0 0 0) (N + 7) 0).Z) (by generalize b1 = b; generalize b2 = c; revert b c; exact kBB (by kernel_rfl)) rfl
  refine hpT (nn := nn) (c := 7) (by decide) (e1 := 0) (e2 := 0) (a := sel9 [a1, a2, a3, a4, a5, a6]) (t := sel9 [t1, t2, t3, t4, t5, t6]) (y := fun _ => 0) (u := fun _ => 0) M0 B.hw hI hsz E0 fun h1 k1 y1 u1 c1 f1 E1 => ?_
  refine hpT (nn := nn) (c := 8) (by decide) M0 B.hw hI hsz E1 fun h2 k2 y2 u2 c2 f2 E2 => ?_
  refine hpT (nn := nn) (c := 9) (by decide) M0 B.hw hI hsz E2 fun h3 k3 y3 u3 c3 f3 E3 => ?_
  refine hpT (nn := nn) (c := 10) (by decide) M0 B.hw hI hsz E3 fun h4 k4 y4 u4 c4 f4 E4 => ?_
  refine hpT (nn := nn) (c := 11) (by decide) M0 B.hw hI hsz E4 fun h5 k5 y5 u5 c5 f5 E5 => ?_
  refine hpT (nn := nn) (c := 12) (by decide) M0 B.hw hI hsz E5 fun h6 k6 y6 u6 c6 f6 E6 => ?_
  refine start (V := VH (PX b1 b2 q) prog) M0 hP 100000 0 (hz [7,7,7,7,7,19]) E6 rfl ?_
  refine good_done (r := .ok .next) (pp := []) (by generalize b1 = b; revert b; exact kB (by kernel_rfl)) trivial fun h9 D9 => ?_
  have E9 := D9.to (T := kt (PX b1 b2 q)) (F := []) (Z := [(N + 5, lstO (arI 6 y6 u6) 6), (N + 6, { cls := .type "dict", data := hpD (PX b1 b2 q) 6 c6 f6 })]) (B := []) (nx := N + 45) (tk := 0) [] [3,4] (by generalize b1 = b; revert b; exact kB (by kernel_rfl)) rfl
  refine back (V := VH (PX b1 b2 q) prog) L hP 100000 0 (hz [4,4,4]) E9 ?_
  refine good_done (r := .ok (.ret (.ref (N + 5)))) (pp := []) (by generalize b1 = b; generalize b2 = c; revert b c; exact kBB (by kernel_rfl)) trivial fun h10 D10 => ?_
  exact H h10 _ (y6 0) (y6 1) (y6 2) (y6 3) (y6 4) (y6 5) (u6 0) (u6 1) (u6 2) (u6 3) (u6 4) (u6 5) (D10.post [0] (by generalize b1 = b; generalize b2 = c; revert b c; exact kBB (by kernel_rfl)))
end
end Mine
namespace Mine
open PySem PySem.W PySem.W.X PySem.Spec PySem.Calls PyProof.Rows
noncomputable def VR (P : Params) (prog : Program) : Env9 := ⟨⟨prog, P⟩, fun c => match c with
  | .call (.ref 63) _ => true
  | _ => false⟩
structure RowD where
  b : Int
  tb : Nat
  w : Str
  tw : Nat
  p : Int
  tp : Nat
  q : Int
  tq : Nat
  ti : Nat
noncomputable def rowO (r : RowD) (t : Addr) (i : Int) : Obj := lstO #[.int r.b r.tb, .str r.w r.tw, .ref t, .int i r.ti] 0
noncomputable def tupO (r : RowD) : Obj := { cls := .type "tuple", data := .seq #[.int r.p r.tp, .int r.q r.tq] 0 }
theorem itemP_mod (y : Int) (m : Nat) (h0 : 0 < m) (h1 : m < 1000) : itemP m (y.fmod m) := by
  have a := Int.fmod_nonneg_of_pos y (show (0 : Int) < (m : Int) by omega)
  have b := Int.fmod_lt_of_pos y (show (0 : Int) < (m : Int) by omega)
  unfold itemP
  omega
noncomputable def rowF (N : Nat) (r0 r1 r2 r3 r4 r5 : RowD) : Facts := [(N + 1, lstO #[.ref (N + 51), .ref (N + 54), .ref (N + 57), .ref (N + 60), .ref (N + 63), .ref (N + 66)] 6), (N + 51, rowO r0 (N + 50) 0), (N + 50, tupO r0), (N + 54, rowO r1 (N + 53) 1), (N + 53, tupO r1), (N + 57, rowO r2 (N + 56) 2), (N + 56, tupO r2), (N + 60, rowO r3 (N + 59) 3), (N + 59, tupO r3), (N + 63, rowO r4 (N + 62) 4), (N + 62, tupO r4), (N + 66, rowO r5 (N + 65) 5), (N + 65, tupO r5)]
section
variable {prog : Program} {w : World} {A : Around} {R : Result → Shared → Prop} {h : Heap} {g : Array GenState} {d : Drawn} {tk : Nat} {os : OsState} {b1 b2 : Bool} {q : Params}
theorem rows_spec {nn : Nat} (L : Deep (nn + 80) A) (B : Bs b1 b2 q w h) {N : Nat} (hN : h.objs.size = N) {X0 u0 : Nat} {xs : Array Value} (hS : h.get? X0 = some (lstO xs u0)) (hI : allI xs.toList = true) (hsz : xs.size ≤ sizeLine)
    (H : ∀ h' tk' (r0 r1 r2 r3 r4 r5 : RowD), Post h h' (N + 69) (rowF N r0 r1 r2 r3 r4 r5) → R (.ok (.ret (.ref (N + 1)))) ⟨h', g, d, tk', os⟩) :
    codeAny (model prog w) A (.call (.ref 70) ⟨[.ref X0], []⟩) R ⟨h, g, d, tk, os⟩ := by
  have hP : (VR (PX b1 b2 q) prog).P = ⟨prog, w.params⟩ := by rw [B.hw]; rfl
  refine start (V := VR (PX b1 b2 q) prog) L hP 100000 2 [1,0,1,1,1,0,1,1,1,1] (B.startN hN (F := [(X0, lstO xs u0)]) (fun p hp => by rcases List.mem_singleton.mp hp with rfl; exact hS) (t := tk)) rfl ?_
  refine good_hole L (c := .call (.ref 63) ⟨[.ref X0, .ref (N + 2)], []⟩) (pp := []) (by generalize b1 = b; revert b; exact kB (by kernel_rfl)) trivial fun g0 M0 D0 => ?_
  have E0 := D0.to (T := kt (PX b1 b2 q)) (F := [(X0, lstO xs u0), (N + 2, lstO #[.int 3 (tk + 2), .int 8 (tk + 3), .int 0 (tk + 4), .int 13 (tk + 5), .int 8 (tk + 6), .int 5 (tk + 7)] 0)]) (Z := [(N, { cls := .type "frame", data := .dict #[de (PX b1 b2 q) "script" tk (.ref X0), de (PX b1 b2 q) "rows" (tk + 1) (.ref (N + 1))] 2 }), (N + 1, lstO #[] 0)]) (B := []) (nx := N + 3) (tk := 0) [0,7] [0,1] (by generalize b1 = b; revert b; exact kB (by kernel_rfl)) rfl
  refine heaps6 (nn := nn) M0 (E0.bs B.hw) (N := N + 3) E0.size (E0.F _ (.head _)) hI hsz (E0.F _ (.tail _ (.head _))) fun g1 k y1 y2 y3 y4 y5 y6 v1 v2 v3 v4 v5 v6 P1 => ?_
  refine back (V := VR (PX b1 b2 q) prog) L hP 100000 0 [3,0,3,0,3,0,10,0,10,0,10,0,10,0,10,0,3,0,10,0,10,0,1,0,1,0,1,0,13,0,13,0,13,0,1013,0,1,0,1,0,1,0,4,0,4,0,4,0,4,0,1,0,1,0,1,0,1,2,1,0,4,0,4,0,4,0,4,0,4,0,4,0,4,0,10,0,10,0,10,0,10,0,3,0,10,0,10,0,1,0,1,0,1,0,22,0,22,0,22,0,1022,0,1,0,1,0,1,0,4,0,4,0,4,0,4,0,1,0,1,0,1,0,1,2,1,0,4,0,4,0,4,0,4,0,4,0,4,0,4,0,10,0,10,0,10,0,10,0,3,0,10,0,10,0,1,0,1,0,1,0,31,0,31,0,31,0,1031,0,1,0,1,0,1,0,4,0,4,0,4,0,4,0,1,0,1,0,1,0,1,2,1,0,4,0,4,0,4,0,4,0,4,0,4,0,4,0,10,0,10,0,10,0,10,0,3,0,10,0,10,0,1,0,1,0,1,0,40,0,40,0,40,0,1040,0,1,0,1,0,1,0,4,0,4,0,4,0,4,0,1,0,1,0,1,0,1,2,1,0,4,0,4,0,4,0,4,0,4,0,4,0,4,0,10,0,10,0,10,0,10,0,3,0,10,0,10,0,1,0,1,0,1,0,49,0,49,0,49,0,1049,0,1,0,1,0,1,0,4,0,4,0,4,0,4,0,1,0,1,0,1,0,1,2,1,0,4,0,4,0,4,0,4,0,4,0,4,0,4,0,10,0,10,0,10,0,10,0,3,0,10,0,10,0,1,0,1,0,1,0,58,0,58,0,58,0,1058,0,1,0,1,0,1,0,4,0,4,0,4,0,4,0,1,0,1,0,1,0,1,2,1,0,4,0,4,0,4,0,4,0,4,0,4,0,4,0,10,0,10,0,10,0,10,0,3,0,10,0,10,0,70,0,1,0] (D0.and P1) ?_
  refine good_done (r := .ok (.ret (.ref (N + 1)))) (pp := [itemP 3 ((y6.fdiv 2).fmod 3), itemP 3 ((y5.fdiv 2).fmod 3), itemP 3 ((y4.fdiv 2).fmod 3), itemP 3 ((y3.fdiv 2).fmod 3), itemP 3 ((y2.fdiv 2).fmod 3), itemP 3 ((y1.fdiv 2).fmod 3)]) (by generalize b1 = b; revert b; exact kB (by kernel_rfl)) ⟨itemP_mod _ 3 (by omega) (by omega), itemP_mod _ 3 (by omega) (by omega), itemP_mod _ 3 (by omega) (by omega), itemP_mod _ 3 (by omega) (by omega), itemP_mod _ 3 (by omega) (by omega), itemP_mod _ 3 (by omega) (by omega), trivial⟩ fun g2 D2 => ?_
  exact H g2 _ ⟨((y1).fmod 2), k + 10, selS [.str (Str.ofString "") (k + 1), .str (Str.ofString "ab") (k + 2), .str (Str.ofString "b") (k + 3)] ((((y1).fdiv 2)).fmod 3), selT [.str (Str.ofString "") (k + 1), .str (Str.ofString "ab") (k + 2), .str (Str.ofString "b") (k + 3)] ((((y1).fdiv 2)).fmod 3), ((((y1).fdiv 6)).fmod 2), k + 14, ((((y1).fdiv 12)).fmod 2), k + 18, k + 20⟩ ⟨((y2).fmod 2), k + 31, selS [.str (Str.ofString "") (k + 22), .str (Str.ofString "ab") (k + 23), .str (Str.ofString "b") (k + 24)] ((((y2).fdiv 2)).fmod 3), selT [.str (Str.ofString "") (k + 22), .str (Str.ofString "ab") (k + 23), .str (Str.ofString "b") (k + 24)] ((((y2).fdiv 2)).fmod 3), ((((y2).fdiv 6)).fmod 2), k + 35, ((((y2).fdiv 12)).fmod 2), k + 39, k + 41⟩ ⟨((y3).fmod 2), k + 52, selS [.str (Str.ofString "") (k + 43), .str (Str.ofString "ab") (k + 44), .str (Str.ofString "b") (k + 45)] ((((y3).fdiv 2)).fmod 3), selT [.str (Str.ofString "") (k + 43), .str (Str.ofString "ab") (k + 44), .str (Str.ofString "b") (k + 45)] ((((y3).fdiv 2)).fmod 3), ((((y3).fdiv 6)).fmod 2), k + 56, ((((y3).fdiv 12)).fmod 2), k + 60, k + 62⟩ ⟨((y4).fmod 2), k + 73, selS [.str (Str.ofString "") (k + 64), .str (Str.ofString "ab") (k + 65), .str (Str.ofString "b") (k + 66)] ((((y4).fdiv 2)).fmod 3), selT [.str (Str.ofString "") (k + 64), .str (Str.ofString "ab") (k + 65), .str (Str.ofString "b") (k + 66)] ((((y4).fdiv 2)).fmod 3), ((((y4).fdiv 6)).fmod 2), k + 77, ((((y4).fdiv 12)).fmod 2), k + 81, k + 83⟩ ⟨((y5).fmod 2), k + 94, selS [.str (Str.ofString "") (k + 85), .str (Str.ofString "ab") (k + 86), .str (Str.ofString "b") (k + 87)] ((((y5).fdiv 2)).fmod 3), selT [.str (Str.ofString "") (k + 85), .str (Str.ofString "ab") (k + 86), .str (Str.ofString "b") (k + 87)] ((((y5).fdiv 2)).fmod 3), ((((y5).fdiv 6)).fmod 2), k + 98, ((((y5).fdiv 12)).fmod 2), k + 102, k + 104⟩ ⟨((y6).fmod 2), k + 115, selS [.str (Str.ofString "") (k + 106), .str (Str.ofString "ab") (k + 107), .str (Str.ofString "b") (k + 108)] ((((y6).fdiv 2)).fmod 3), selT [.str (Str.ofString "") (k + 106), .str (Str.ofString "ab") (k + 107), .str (Str.ofString "b") (k + 108)] ((((y6).fdiv 2)).fmod 3), ((((y6).fdiv 6)).fmod 2), k + 119, ((((y6).fdiv 12)).fmod 2), k + 123, k + 125⟩ (D2.post [1,6,5,9,8,12,11,15,14,18,17,21,20] (by generalize b1 = b; revert b; exact kB (by kernel_rfl)))
end
end Mine
namespace Mine
open PySem PySem.W PySem.W.X PySem.Spec PySem.Calls PyProof.Rows
noncomputable def VN (P : Params) (prog : Program) : Env9 := ⟨⟨prog, P⟩, fun c => match c with
  | .forLoop t _ _ _ _ => match t with
    | .Name s _ => match s.cps.toList with
      | x :: _ => Nat.beq x 110
      | [] => false
    | _ => false
  | .call (.builtin s) a => match memS s ["int.__mod__"] with
    | true => match a with
      | ⟨[_, .int (.ofNat n) _], _⟩ => Nat.ble n 3
      | _ => false
    | false => false
  | _ => false⟩
set_option backward.match.sparseCases false in
noncomputable def forT : Stmt → Expr
  | .For t _ _ _ _ => t
  | _ => .Constant .none 0 ⟨0, 0, 0, 0⟩
set_option backward.match.sparseCases false in
noncomputable def forB : Stmt → List Stmt
  | .For _ _ b _ _ => b
  | _ => []
set_option backward.match.sparseCases false in
noncomputable def forE : Stmt → List Stmt
  | .For _ _ _ e _ => e
  | _ => []
noncomputable def snSt : Stmt := inSt (stAt 12) 1
noncomputable def snCode (S : Nat) : Code := .forLoop (forT snSt) (.ref (S + 11)) (forB snSt) (forE snSt) { scope := sScope (stAt 12), locals := S, globals := 3, cells := [], qual := Str.ofString "_law_senses.<locals>.", func := some 98, code := .ref 97, frame := some S, builtins := 0 }
noncomputable def wayZ (k : Int) : Int := if k = 0 then 1 else if k = 1 then -1 else if k = 2 then 2 else -3
noncomputable def wA (x : Int) : Int := wayZ ((x.fdiv 6).fmod 4)
noncomputable def wB (x : Int) : Int := wayZ ((x.fdiv 24).fmod 4)
theorem selI_way {a b c d : Nat} (y : Int) : selI [.int 1 a, .int (-1) b, .int 2 c, .int (-3) d] (y.fmod 4) = wayZ (y.fmod 4) := by
  have h1 := Int.fmod_nonneg_of_pos y (show (0 : Int) < 4 by decide)
  have h2 := Int.fmod_lt_of_pos y (show (0 : Int) < 4 by decide)
  generalize y.fmod 4 = k at h1 h2
  have : k = 0 ∨ k = 1 ∨ k = 2 ∨ k = 3 := by omega
  rcases this with rfl | rfl | rfl | rfl <;> rfl
theorem selI_wA {a b c d : Nat} (x : Int) : selI [.int 1 a, .int (-1) b, .int 2 c, .int (-3) d] ((x.fdiv 6).fmod 4) = wA x := selI_way _
theorem selI_wB {a b c d : Nat} (x : Int) : selI [.int 1 a, .int (-1) b, .int 2 c, .int (-3) d] ((x.fdiv 24).fmod 4) = wB x := selI_way _
theorem mulW {x y : Int} {a b c d : Nat} : IntMulOk x (selI [.int 1 a, .int (-1) b, .int 2 c, .int (-3) d] (y.fmod 4)) := by
  rw [selI_way]
  refine IntMulOk.of_right (intBits_le_64 ?_ ?_) <;> unfold wayZ <;> (repeat' split) <;> omega
structure SnJ where
  y1 : Int
  y2 : Int
  y3 : Int
  y4 : Int
  a1 : Nat
  a2 : Nat
  a3 : Nat
  a4 : Nat
  b1 : Nat
  b2 : Nat
  b3 : Nat
  b4 : Nat
noncomputable def snD (P : Params) (S X0 X1 c1 c2 c3 : Nat) : Option SnJ → Data
  | none => .dict #[de P "joins" c1 (.ref X0), de P "senses" c2 (.ref (S + 6)), de P "groups" c3 (.ref X1)] 3
  | some j => .dict #[de P "joins" c1 (.ref X0), de P "senses" c2 (.ref (S + 6)), de P "groups" c3 (.ref X1), de P "number" j.a1 (.int j.y1 j.b1), de P "spot" j.a2 (.int j.y2 j.b2), de P "side" j.a3 (.int j.y3 j.b3), de P "leaf" j.a4 (.int j.y4 j.b4)] 7
noncomputable def snZ (P : Params) (S X0 X1 c1 c2 c3 : Nat) (j : Option SnJ) (s0 s1 s2 s3 : Int) (t0 t1 t2 t3 ce : Nat) (i : Int) : Facts :=
  [(S, { cls := .type "frame", data := snD P S X0 X1 c1 c2 c3 j }), (S + 6, lstO #[.int s0 t0, .int s1 t1, .int s2 t2, .int s3 t3] ce), (S + 11, { cls := .type "list_iterator", data := .fields #[.ref X0, .int i 0] })]
section
variable {prog : Program} {w : World} {A : Around} {R : Result → Shared → Prop} {h₀ h : Heap} {g : Array GenState} {d : Drawn} {tk : Nat} {os : OsState} {b1 b2 : Bool} {q : Params}
theorem snT0_0 {nn : Nat} (L : Deep (nn + 20) A) (hw : w.params = PX b1 b2 q) {S N X0 X1 X2 X3 X4 X5 e0 e1 e2 e3 e4 l0 l1 l2 l3 c1 c2 c3 t0 t1 t2 t3 ce u1 u2 u3 : Nat} {x1 x2 x3 s0 s1 s2 s3 : Int} (hx : x1.fmod 3 = 0)
    (D : Rep h₀ ⟨kt (PX b1 b2 q), [(X0, lstO #[.int x1 u1, .int x2 u2, .int x3 u3] 3), (X1, lstO #[.ref X2, .ref X3, .ref X4, .ref X5] e0), (X2, lstO #[.int 0 l0] e1), (X3, lstO #[.int 1 l1] e2), (X4, lstO #[.int 2 l2] e3), (X5, lstO #[.int 3 l3] e4)], snZ (PX b1 b2 q) S X0 X1 c1 c2 c3 none s0 s1 s2 s3 t0 t1 t2 t3 ce 0, [], N, tk⟩ h)
    (H : ∀ h' tk' (j : SnJ) (t0' t1' t2' t3' : Nat), Rep h₀ ⟨kt (PX b1 b2 q), [(X0, lstO #[.int x1 u1, .int x2 u2, .int x3 u3] 3), ((N + 23), lstO #[.ref (N + 18), .ref X4, .ref X5] 0), ((N + 18), lstO #[.int 0 l0, .int 1 l1] 0), (X4, lstO #[.int 2 l2] e3), (X5, lstO #[.int 3 l3] e4)], snZ (PX b1 b2 q) S X0 (N + 23) c1 c2 c3 (some j) (s0 * wA x1) (s1 * wB x1) s2 s3 t0' t1' t2' t3' ce 1, [], N + 24, tk'⟩ h' → codeAny (model prog w) A (snCode S) R ⟨h', g, d, tk', os⟩) :
    codeAny (model prog w) A (snCode S) R ⟨h, g, d, tk, os⟩ := by
  have hP : (VN (PX b1 b2 q) prog).P = ⟨prog, w.params⟩ := by rw [hw]; rfl
  refine start (V := VN (PX b1 b2 q) prog) L hP 100000 0 [7,0,7,0,7,0,7,0,0,0,7,0,7,0,1,0,1,0,1,2,1,0,3,0,3,0,3,0] D rfl ?_
  refine good_hole L (c := .call (.builtin "int.__mod__") ⟨[.int x1 u1, .int 3 (tk + 4)], []⟩) (pp := []) (by generalize b1 = b; revert b; exact kB (by kernel_rfl)) trivial fun g0 M0 D0 => ?_
  refine c_mod (by decide) fun v k => ?_
  rw [hx]
  refine back (V := VN (PX b1 b2 q) prog) L hP 100000 0 [1,0,1,2,10,0,10,0,10,0,10,0,10,0,10,0,10,0,10,0,10,0,10,0,13,0,13,0,13,0,13,0,13,0,13,0,13,0,13,0,13,0,13,0,1,0,1,0,1,0,1,0,1,0,3,0,3,0,3,0,3,0,3,0,6,0,6,0,6,0,16,0,16,0,16,0,16,0,16,0,6,0,16,0,16,0,1,0,1,0,1,0,1,0,4,0,4,0,4,0,1004,1,1,3,19,0,19,1,19,0,19,0,19,0,19,0,22,0,22,0,22,0,1022,0,19,0,19,0,22,0,22,0,22,0,1022,0,1,0,25,0,25,0,25,0,1025,0,1,0,1,0,4,0,4,0,4,0,4,0,4,0,4,0,16,0,16,0,16,0,16,0,6,0,16,0,16,0,31,0,13,0,13,0,13,0,13,0,13,0,13,0,13,0,13,0,13,0,1,0,1,0,1,0,1,0,1,0,3,0,3,0,3,0,3,0,3,0,9,0,9,0,9,0,34,0,34,0,34,0,34,0,34,0,9,0,34,0,34,0,1,0,1,0,1,0,1,0,4,0,4,0,4,0,1004,1,1,3,37,0,37,1,37,0,37,0,37,0,37,0,40,0,40,0,40,0,1040,0,37,0,37,0,40,0,40,0,40,0,1040,0,1,0,43,0,43,0,43,0,1043,0,1,0,1,0,4,0,4,0,4,0,4,0,4,0,4,0,34,0,34,0,34,0,34,0,9,0,34,0,34,0,49,0,13,0,13,0,13,0,13,0,13,0,55,0,1,0,1,0,3,0,3,0,3,0,3,0,58,0,58,0,58,0,58,0,58,0,3,0,1,0,1,0,3,0,3,0,3,0,3,0,3,0,1,0,1,0,3,0,3,0,3,0,3,0,3,0,6,0,9,0,6,0,6,0,9,0,6,0,9,0,61,0,67,0,61,0,61,0,67,0,61,0,67,0,1,0,1,0,3,0,3,0,3,0,3,0,73,0,73,0,73,0,73,0,73,0,3,0,70,0,76,0,70,0,70,0,76,0,70,0,76,0,1,0,1,0] D0 ?_
  refine good_tail L (c := snCode S) (pp := [IntMulOk (s1) ((selI [.int (1) (k + 30), .int ((-1)) (k + 32), .int (2) (k + 33), .int ((-3)) (k + 35)] ((((x1).fdiv 24)).fmod 4))), itemP 2 ((0 + 1)), itemP 4 (((((x1).fdiv 24)).fmod 4)), itemP 4 (((((x1).fdiv 6)).fmod 4)), itemP 4 (1), IntMulOk (s0) ((selI [.int (1) (k + 9), .int ((-1)) (k + 11), .int (2) (k + 12), .int ((-3)) (k + 14)] ((((x1).fdiv 6)).fmod 4))), itemP 2 (0), itemP 4 (((((x1).fdiv 24)).fmod 4)), itemP 4 (((((x1).fdiv 6)).fmod 4)), itemP 4 (0)]) (by generalize b1 = b; revert b; exact kB (by kernel_rfl)) (by generalize b1 = b; revert b; exact kB (by kernel_rfl)) (by repeat' (first | exact trivial | exact mulW | exact itemP_mod _ 4 (by omega) (by omega) | (unfold itemP; omega) | apply And.intro)) fun g1 D1 => ?_
  have E1 := fun (A0 : Int) (g0 : selI [.int (1) (k + 9), .int ((-1)) (k + 11), .int (2) (k + 12), .int ((-3)) (k + 14)] ((((x1).fdiv 6)).fmod 4) = A0) (A1 : Int) (g1 : selI [.int (1) (k + 30), .int ((-1)) (k + 32), .int (2) (k + 33), .int ((-3)) (k + 35)] ((((x1).fdiv 24)).fmod 4) = A1) => D1.to (T := kt (PX b1 b2 q)) (F := [(X0, lstO #[.int x1 u1, .int x2 u2, .int x3 u3] 3), ((N + 23), lstO #[.ref (N + 18), .ref X4, .ref X5] 0), ((N + 18), lstO #[.int 0 l0, .int 1 l1] 0), (X4, lstO #[.int 2 l2] e3), (X5, lstO #[.int 3 l3] e4)]) (Z := snZ (PX b1 b2 q) S X0 (N + 23) c1 c2 c3 (some ⟨x1, 0, 1, 1, (tk + 0), (k + 0), (k + 5), (k + 7), u1, v, (k + 25), l1⟩) ((s0 * A0)) ((s1 * A1)) (s2) (s3) (k + 24) (k + 45) t2 t3 ce 1) (B := []) (nx := N + 24) (tk := Res.tkI (backI (VN (PX b1 b2 q) prog) 100000 0 [1,0,1,2,10,0,10,0,10,0,10,0,10,0,10,0,10,0,10,0,10,0,10,0,13,0,13,0,13,0,13,0,13,0,13,0,13,0,13,0,13,0,13,0,1,0,1,0,1,0,1,0,1,0,3,0,3,0,3,0,3,0,3,0,6,0,6,0,6,0,16,0,16,0,16,0,16,0,16,0,6,0,16,0,16,0,1,0,1,0,1,0,1,0,4,0,4,0,4,0,1004,1,1,3,19,0,19,1,19,0,19,0,19,0,19,0,22,0,22,0,22,0,1022,0,19,0,19,0,22,0,22,0,22,0,1022,0,1,0,25,0,25,0,25,0,1025,0,1,0,1,0,4,0,4,0,4,0,4,0,4,0,4,0,16,0,16,0,16,0,16,0,6,0,16,0,16,0,31,0,13,0,13,0,13,0,13,0,13,0,13,0,13,0,13,0,13,0,1,0,1,0,1,0,1,0,1,0,3,0,3,0,3,0,3,0,3,0,9,0,9,0,9,0,34,0,34,0,34,0,34,0,34,0,9,0,34,0,34,0,1,0,1,0,1,0,1,0,4,0,4,0,4,0,1004,1,1,3,37,0,37,1,37,0,37,0,37,0,37,0,40,0,40,0,40,0,1040,0,37,0,37,0,40,0,40,0,40,0,1040,0,1,0,43,0,43,0,43,0,1043,0,1,0,1,0,4,0,4,0,4,0,4,0,4,0,4,0,34,0,34,0,34,0,34,0,9,0,34,0,34,0,49,0,13,0,13,0,13,0,13,0,13,0,55,0,1,0,1,0,3,0,3,0,3,0,3,0,58,0,58,0,58,0,58,0,58,0,3,0,1,0,1,0,3,0,3,0,3,0,3,0,3,0,1,0,1,0,3,0,3,0,3,0,3,0,3,0,6,0,9,0,6,0,6,0,9,0,6,0,9,0,61,0,67,0,61,0,61,0,67,0,61,0,67,0,1,0,1,0,3,0,3,0,3,0,3,0,73,0,73,0,73,0,73,0,73,0,3,0,70,0,76,0,70,0,70,0,76,0,70,0,76,0,1,0,1,0] (.ok (.ret (.int 0 v))) (Res.κI (goI (VN (PX b1 b2 q) prog) 100000 0 [7,0,7,0,7,0,7,0,0,0,7,0,7,0,1,0,1,0,1,2,1,0,3,0,3,0,3,0] (snCode S) ⟨kt (PX b1 b2 q), [(X0, lstO #[.int x1 u1, .int x2 u2, .int x3 u3] 3), (X1, lstO #[.ref X2, .ref X3, .ref X4, .ref X5] e0), (X2, lstO #[.int 0 l0] e1), (X3, lstO #[.int 1 l1] e2), (X4, lstO #[.int 2 l2] e3), (X5, lstO #[.int 3 l3] e4)], snZ (PX b1 b2 q) S X0 X1 c1 c2 c3 none s0 s1 s2 s3 t0 t1 t2 t3 ce 0, [], N, tk⟩)) (Mm.tkTo (Res.mI (goI (VN (PX b1 b2 q) prog) 100000 0 [7,0,7,0,7,0,7,0,0,0,7,0,7,0,1,0,1,0,1,2,1,0,3,0,3,0,3,0] (snCode S) ⟨kt (PX b1 b2 q), [(X0, lstO #[.int x1 u1, .int x2 u2, .int x3 u3] 3), (X1, lstO #[.ref X2, .ref X3, .ref X4, .ref X5] e0), (X2, lstO #[.int 0 l0] e1), (X3, lstO #[.int 1 l1] e2), (X4, lstO #[.int 2 l2] e3), (X5, lstO #[.int 3 l3] e4)], snZ (PX b1 b2 q) S X0 X1 c1 c2 c3 none s0 s1 s2 s3 t0 t1 t2 t3 ce 0, [], N, tk⟩)) k))) [0,79,64,12,15] [0,1,2] (by subst g0 g1; generalize b1 = b; revert b; exact kB (by kernel_rfl)) rfl
  exact H _ _ _ _ _ _ _ (E1 _ (selI_wA _) _ (selI_wB _))
theorem snT0_1 {nn : Nat} (L : Deep (nn + 20) A) (hw : w.params = PX b1 b2 q) {S N X0 X1 X2 X3 X4 X5 e0 e1 e2 e3 e4 l0 l1 l2 l3 c1 c2 c3 t0 t1 t2 t3 ce u1 u2 u3 : Nat} {x1 x2 x3 s0 s1 s2 s3 : Int} (hx : x1.fmod 3 = 1)
    (D : Rep h₀ ⟨kt (PX b1 b2 q), [(X0, lstO #[.int x1 u1, .int x2 u2, .int x3 u3] 3), (X1, lstO #[.ref X2, .ref X3, .ref X4, .ref X5] e0), (X2, lstO #[.int 0 l0] e1), (X3, lstO #[.int 1 l1] e2), (X4, lstO #[.int 2 l2] e3), (X5, lstO #[.int 3 l3] e4)], snZ (PX b1 b2 q) S X0 X1 c1 c2 c3 none s0 s1 s2 s3 t0 t1 t2 t3 ce 0, [], N, tk⟩ h)
    (H : ∀ h' tk' (j : SnJ) (t0' t1' t2' t3' : Nat), Rep h₀ ⟨kt (PX b1 b2 q), [(X0, lstO #[.int x1 u1, .int x2 u2, .int x3 u3] 3), ((N + 23), lstO #[.ref X2, .ref (N + 18), .ref X5] 0), (X2, lstO #[.int 0 l0] e1), ((N + 18), lstO #[.int 1 l1, .int 2 l2] 0), (X5, lstO #[.int 3 l3] e4)], snZ (PX b1 b2 q) S X0 (N + 23) c1 c2 c3 (some j) s0 (s1 * wA x1) (s2 * wB x1) s3 t0' t1' t2' t3' ce 1, [], N + 24, tk'⟩ h' → codeAny (model prog w) A (snCode S) R ⟨h', g, d, tk', os⟩) :
    codeAny (model prog w) A (snCode S) R ⟨h, g, d, tk, os⟩ := by
  have hP : (VN (PX b1 b2 q) prog).P = ⟨prog, w.params⟩ := by rw [hw]; rfl
  refine start (V := VN (PX b1 b2 q) prog) L hP 100000 0 [7,0,7,0,7,0,7,0,0,0,7,0,7,0,1,0,1,0,1,2,1,0,3,0,3,0,3,0] D rfl ?_
  refine good_hole L (c := .call (.builtin "int.__mod__") ⟨[.int x1 u1, .int 3 (tk + 4)], []⟩) (pp := []) (by generalize b1 = b; revert b; exact kB (by kernel_rfl)) trivial fun g0 M0 D0 => ?_
  refine c_mod (by decide) fun v k => ?_
  rw [hx]
  refine back (V := VN (PX b1 b2 q) prog) L hP 100000 0 [1,0,1,2,10,0,10,0,10,0,10,0,10,0,10,0,10,0,10,0,10,0,10,0,13,0,13,0,13,0,13,0,13,0,13,0,13,0,13,0,13,0,13,0,1,0,1,0,1,0,1,0,1,0,3,0,3,0,3,0,3,0,3,0,9,0,9,0,9,0,16,0,16,0,16,0,16,0,16,0,9,0,16,0,16,0,1,0,1,0,1,0,1,0,4,0,4,0,4,0,1004,1,1,3,19,0,19,1,19,0,19,0,19,0,19,0,22,0,22,0,22,0,1022,0,19,0,19,0,22,0,22,0,22,0,1022,0,1,0,25,0,25,0,25,0,1025,0,1,0,1,0,4,0,4,0,4,0,4,0,4,0,4,0,16,0,16,0,16,0,16,0,9,0,16,0,16,0,31,0,13,0,13,0,13,0,13,0,13,0,13,0,13,0,13,0,13,0,1,0,1,0,1,0,1,0,1,0,3,0,3,0,3,0,3,0,3,0,12,0,12,0,12,0,34,0,34,0,34,0,34,0,34,0,12,0,34,0,34,0,1,0,1,0,1,0,1,0,4,0,4,0,4,0,1004,1,1,3,37,0,37,1,37,0,37,0,37,0,37,0,40,0,40,0,40,0,1040,0,37,0,37,0,40,0,40,0,40,0,1040,0,1,0,43,0,43,0,43,0,1043,0,1,0,1,0,4,0,4,0,4,0,4,0,4,0,4,0,34,0,34,0,34,0,34,0,12,0,34,0,34,0,49,0,13,0,13,0,13,0,13,0,13,0,55,0,1,0,1,0,3,0,3,0,3,0,3,0,58,0,58,0,58,0,58,0,58,0,3,0,1,0,1,0,3,0,3,0,3,0,3,0,3,0,1,0,1,0,3,0,3,0,3,0,3,0,3,0,9,0,12,0,9,0,9,0,12,0,9,0,12,0,61,0,67,0,61,0,61,0,67,0,61,0,67,0,1,0,1,0,3,0,3,0,3,0,3,0,73,0,73,0,73,0,73,0,73,0,3,0,70,0,76,0,70,0,70,0,76,0,70,0,76,0,1,0,1,0] D0 ?_
  refine good_tail L (c := snCode S) (pp := [IntMulOk (s2) ((selI [.int (1) (k + 30), .int ((-1)) (k + 32), .int (2) (k + 33), .int ((-3)) (k + 35)] ((((x1).fdiv 24)).fmod 4))), itemP 2 ((0 + 1)), itemP 4 (((((x1).fdiv 24)).fmod 4)), itemP 4 (((((x1).fdiv 6)).fmod 4)), itemP 4 (2), IntMulOk (s1) ((selI [.int (1) (k + 9), .int ((-1)) (k + 11), .int (2) (k + 12), .int ((-3)) (k + 14)] ((((x1).fdiv 6)).fmod 4))), itemP 2 (0), itemP 4 (((((x1).fdiv 24)).fmod 4)), itemP 4 (((((x1).fdiv 6)).fmod 4)), itemP 4 (1)]) (by generalize b1 = b; revert b; exact kB (by kernel_rfl)) (by generalize b1 = b; revert b; exact kB (by kernel_rfl)) (by repeat' (first | exact trivial | exact mulW | exact itemP_mod _ 4 (by omega) (by omega) | (unfold itemP; omega) | apply And.intro)) fun g1 D1 => ?_
  have E1 := fun (A0 : Int) (g0 : selI [.int (1) (k + 9), .int ((-1)) (k + 11), .int (2) (k + 12), .int ((-3)) (k + 14)] ((((x1).fdiv 6)).fmod 4) = A0) (A1 : Int) (g1 : selI [.int (1) (k + 30), .int ((-1)) (k + 32), .int (2) (k + 33), .int ((-3)) (k + 35)] ((((x1).fdiv 24)).fmod 4) = A1) => D1.to (T := kt (PX b1 b2 q)) (F := [(X0, lstO #[.int x1 u1, .int x2 u2, .int x3 u3] 3), ((N + 23), lstO #[.ref X2, .ref (N + 18), .ref X5] 0), (X2, lstO #[.int 0 l0] e1), ((N + 18), lstO #[.int 1 l1, .int 2 l2] 0), (X5, lstO #[.int 3 l3] e4)]) (Z := snZ (PX b1 b2 q) S X0 (N + 23) c1 c2 c3 (some ⟨x1, 1, 1, 2, (tk + 0), (k + 0), (k + 5), (k + 7), u1, v, (k + 25), l2⟩) (s0) ((s1 * A0)) ((s2 * A1)) (s3) t0 (k + 24) (k + 45) t3 ce 1) (B := []) (nx := N + 24) (tk := Res.tkI (backI (VN (PX b1 b2 q) prog) 100000 0 [1,0,1,2,10,0,10,0,10,0,10,0,10,0,10,0,10,0,10,0,10,0,10,0,13,0,13,0,13,0,13,0,13,0,13,0,13,0,13,0,13,0,13,0,1,0,1,0,1,0,1,0,1,0,3,0,3,0,3,0,3,0,3,0,9,0,9,0,9,0,16,0,16,0,16,0,16,0,16,0,9,0,16,0,16,0,1,0,1,0,1,0,1,0,4,0,4,0,4,0,1004,1,1,3,19,0,19,1,19,0,19,0,19,0,19,0,22,0,22,0,22,0,1022,0,19,0,19,0,22,0,22,0,22,0,1022,0,1,0,25,0,25,0,25,0,1025,0,1,0,1,0,4,0,4,0,4,0,4,0,4,0,4,0,16,0,16,0,16,0,16,0,9,0,16,0,16,0,31,0,13,0,13,0,13,0,13,0,13,0,13,0,13,0,13,0,13,0,1,0,1,0,1,0,1,0,1,0,3,0,3,0,3,0,3,0,3,0,12,0,12,0,12,0,34,0,34,0,34,0,34,0,34,0,12,0,34,0,34,0,1,0,1,0,1,0,1,0,4,0,4,0,4,0,1004,1,1,3,37,0,37,1,37,0,37,0,37,0,37,0,40,0,40,0,40,0,1040,0,37,0,37,0,40,0,40,0,40,0,1040,0,1,0,43,0,43,0,43,0,1043,0,1,0,1,0,4,0,4,0,4,0,4,0,4,0,4,0,34,0,34,0,34,0,34,0,12,0,34,0,34,0,49,0,13,0,13,0,13,0,13,0,13,0,55,0,1,0,1,0,3,0,3,0,3,0,3,0,58,0,58,0,58,0,58,0,58,0,3,0,1,0,1,0,3,0,3,0,3,0,3,0,3,0,1,0,1,0,3,0,3,0,3,0,3,0,3,0,9,0,12,0,9,0,9,0,12,0,9,0,12,0,61,0,67,0,61,0,61,0,67,0,61,0,67,0,1,0,1,0,3,0,3,0,3,0,3,0,73,0,73,0,73,0,73,0,73,0,3,0,70,0,76,0,70,0,70,0,76,0,70,0,76,0,1,0,1,0] (.ok (.ret (.int 1 v))) (Res.κI (goI (VN (PX b1 b2 q) prog) 100000 0 [7,0,7,0,7,0,7,0,0,0,7,0,7,0,1,0,1,0,1,2,1,0,3,0,3,0,3,0] (snCode S) ⟨kt (PX b1 b2 q), [(X0, lstO #[.int x1 u1, .int x2 u2, .int x3 u3] 3), (X1, lstO #[.ref X2, .ref X3, .ref X4, .ref X5] e0), (X2, lstO #[.int 0 l0] e1), (X3, lstO #[.int 1 l1] e2), (X4, lstO #[.int 2 l2] e3), (X5, lstO #[.int 3 l3] e4)], snZ (PX b1 b2 q) S X0 X1 c1 c2 c3 none s0 s1 s2 s3 t0 t1 t2 t3 ce 0, [], N, tk⟩)) (Mm.tkTo (Res.mI (goI (VN (PX b1 b2 q) prog) 100000 0 [7,0,7,0,7,0,7,0,0,0,7,0,7,0,1,0,1,0,1,2,1,0,3,0,3,0,3,0] (snCode S) ⟨kt (PX b1 b2 q), [(X0, lstO #[.int x1 u1, .int x2 u2, .int x3 u3] 3), (X1, lstO #[.ref X2, .ref X3, .ref X4, .ref X5] e0), (X2, lstO #[.int 0 l0] e1), (X3, lstO #[.int 1 l1] e2), (X4, lstO #[.int 2 l2] e3), (X5, lstO #[.int 3 l3] e4)], snZ (PX b1 b2 q) S X0 X1 c1 c2 c3 none s0 s1 s2 s3 t0 t1 t2 t3 ce 0, [], N, tk⟩)) k))) [0,79,6,64,15] [0,1,2] (by subst g0 g1; generalize b1 = b; revert b; exact kB (by kernel_rfl)) rfl
  exact H _ _ _ _ _ _ _ (E1 _ (selI_wA _) _ (selI_wB _))
theorem snT0_2 {nn : Nat} (L : Deep (nn + 20) A) (hw : w.params = PX b1 b2 q) {S N X0 X1 X2 X3 X4 X5 e0 e1 e2 e3 e4 l0 l1 l2 l3 c1 c2 c3 t0 t1 t2 t3 ce u1 u2 u3 : Nat} {x1 x2 x3 s0 s1 s2 s3 : Int} (hx : x1.fmod 3 = 2)
    (D : Rep h₀ ⟨kt (PX b1 b2 q), [(X0, lstO #[.int x1 u1, .int x2 u2, .int x3 u3] 3), (X1, lstO #[.ref X2, .ref X3, .ref X4, .ref X5] e0), (X2, lstO #[.int 0 l0] e1), (X3, lstO #[.int 1 l1] e2), (X4, lstO #[.int 2 l2] e3), (X5, lstO #[.int 3 l3] e4)], snZ (PX b1 b2 q) S X0 X1 c1 c2 c3 none s0 s1 s2 s3 t0 t1 t2 t3 ce 0, [], N, tk⟩ h)
    (H : ∀ h' tk' (j : SnJ) (t0' t1' t2' t3' : Nat), Rep h₀ ⟨kt (PX b1 b2 q), [(X0, lstO #[.int x1 u1, .int x2 u2, .int x3 u3] 3), ((N + 23), lstO #[.ref X2, .ref X3, .ref (N + 18)] 0), (X2, lstO #[.int 0 l0] e1), (X3, lstO #[.int 1 l1] e2), ((N + 18), lstO #[.int 2 l2, .int 3 l3] 0)], snZ (PX b1 b2 q) S X0 (N + 23) c1 c2 c3 (some j) s0 s1 (s2 * wA x1) (s3 * wB x1) t0' t1' t2' t3' ce 1, [], N + 24, tk'⟩ h' → codeAny (model prog w) A (snCode S) R ⟨h', g, d, tk', os⟩) :
    codeAny (model prog w) A (snCode S) R ⟨h, g, d, tk, os⟩ := by
  have hP : (VN (PX b1 b2 q) prog).P = ⟨prog, w.params⟩ := by rw [hw]; rfl
  refine start (V := VN (PX b1 b2 q) prog) L hP 100000 0 [7,0,7,0,7,0,7,0,0,0,7,0,7,0,1,0,1,0,1,2,1,0,3,0,3,0,3,0] D rfl ?_
  refine good_hole L (c := .call (.builtin "int.__mod__") ⟨[.int x1 u1, .int 3 (tk + 4)], []⟩) (pp := []) (by generalize b1 = b; revert b; exact kB (by kernel_rfl)) trivial fun g0 M0 D0 => ?_
  refine c_mod (by decide) fun v k => ?_
  rw [hx]
  refine back (V := VN (PX b1 b2 q) prog) L hP 100000 0 [1,0,1,2,10,0,10,0,10,0,10,0,10,0,10,0,10,0,10,0,10,0,10,0,13,0,13,0,13,0,13,0,13,0,13,0,13,0,13,0,13,0,13,0,1,0,1,0,1,0,1,0,1,0,3,0,3,0,3,0,3,0,3,0,12,0,12,0,12,0,16,0,16,0,16,0,16,0,16,0,12,0,16,0,16,0,1,0,1,0,1,0,1,0,4,0,4,0,4,0,1004,1,1,3,19,0,19,1,19,0,19,0,19,0,19,0,22,0,22,0,22,0,1022,0,19,0,19,0,22,0,22,0,22,0,1022,0,1,0,25,0,25,0,25,0,1025,0,1,0,1,0,4,0,4,0,4,0,4,0,4,0,4,0,16,0,16,0,16,0,16,0,12,0,16,0,16,0,31,0,13,0,13,0,13,0,13,0,13,0,13,0,13,0,13,0,13,0,1,0,1,0,1,0,1,0,1,0,3,0,3,0,3,0,3,0,3,0,15,0,15,0,15,0,34,0,34,0,34,0,34,0,34,0,15,0,34,0,34,0,1,0,1,0,1,0,1,0,4,0,4,0,4,0,1004,1,1,3,37,0,37,1,37,0,37,0,37,0,37,0,40,0,40,0,40,0,1040,0,37,0,37,0,40,0,40,0,40,0,1040,0,1,0,43,0,43,0,43,0,1043,0,1,0,1,0,4,0,4,0,4,0,4,0,4,0,4,0,34,0,34,0,34,0,34,0,15,0,34,0,34,0,49,0,13,0,13,0,13,0,13,0,13,0,55,0,1,0,1,0,3,0,3,0,3,0,3,0,58,0,58,0,58,0,58,0,58,0,3,0,1,0,1,0,3,0,3,0,3,0,3,0,3,0,1,0,1,0,3,0,3,0,3,0,3,0,3,0,12,0,15,0,12,0,12,0,15,0,12,0,15,0,61,0,67,0,61,0,61,0,67,0,61,0,67,0,1,0,1,0,3,0,3,0,3,0,3,0,73,0,73,0,73,0,73,0,73,0,3,0,70,0,76,0,70,0,70,0,76,0,70,0,76,0,1,0,1,0] D0 ?_
  refine good_tail L (c := snCode S) (pp := [IntMulOk (s3) ((selI [.int (1) (k + 30), .int ((-1)) (k + 32), .int (2) (k + 33), .int ((-3)) (k + 35)] ((((x1).fdiv 24)).fmod 4))), itemP 2 ((0 + 1)), itemP 4 (((((x1).fdiv 24)).fmod 4)), itemP 4 (((((x1).fdiv 6)).fmod 4)), itemP 4 (3), IntMulOk (s2) ((selI [.int (1) (k + 9), .int ((-1)) (k + 11), .int (2) (k + 12), .int ((-3)) (k + 14)] ((((x1).fdiv 6)).fmod 4))), itemP 2 (0), itemP 4 (((((x1).fdiv 24)).fmod 4)), itemP 4 (((((x1).fdiv 6)).fmod 4)), itemP 4 (2)]) (by generalize b1 = b; revert b; exact kB (by kernel_rfl)) (by generalize b1 = b; revert b; exact kB (by kernel_rfl)) (by repeat' (first | exact trivial | exact mulW | exact itemP_mod _ 4 (by omega) (by omega) | (unfold itemP; omega) | apply And.intro)) fun g1 D1 => ?_
  have E1 := fun (A0 : Int) (g0 : selI [.int (1) (k + 9), .int ((-1)) (k + 11), .int (2) (k + 12), .int ((-3)) (k + 14)] ((((x1).fdiv 6)).fmod 4) = A0) (A1 : Int) (g1 : selI [.int (1) (k + 30), .int ((-1)) (k + 32), .int (2) (k + 33), .int ((-3)) (k + 35)] ((((x1).fdiv 24)).fmod 4) = A1) => D1.to (T := kt (PX b1 b2 q)) (F := [(X0, lstO #[.int x1 u1, .int x2 u2, .int x3 u3] 3), ((N + 23), lstO #[.ref X2, .ref X3, .ref (N + 18)] 0), (X2, lstO #[.int 0 l0] e1), (X3, lstO #[.int 1 l1] e2), ((N + 18), lstO #[.int 2 l2, .int 3 l3] 0)]) (Z := snZ (PX b1 b2 q) S X0 (N + 23) c1 c2 c3 (some ⟨x1, 2, 1, 3, (tk + 0), (k + 0), (k + 5), (k + 7), u1, v, (k + 25), l3⟩) (s0) (s1) ((s2 * A0)) ((s3 * A1)) t0 t1 (k + 24) (k + 45) ce 1) (B := []) (nx := N + 24) (tk := Res.tkI (backI (VN (PX b1 b2 q) prog) 100000 0 [1,0,1,2,10,0,10,0,10,0,10,0,10,0,10,0,10,0,10,0,10,0,10,0,13,0,13,0,13,0,13,0,13,0,13,0,13,0,13,0,13,0,13,0,1,0,1,0,1,0,1,0,1,0,3,0,3,0,3,0,3,0,3,0,12,0,12,0,12,0,16,0,16,0,16,0,16,0,16,0,12,0,16,0,16,0,1,0,1,0,1,0,1,0,4,0,4,0,4,0,1004,1,1,3,19,0,19,1,19,0,19,0,19,0,19,0,22,0,22,0,22,0,1022,0,19,0,19,0,22,0,22,0,22,0,1022,0,1,0,25,0,25,0,25,0,1025,0,1,0,1,0,4,0,4,0,4,0,4,0,4,0,4,0,16,0,16,0,16,0,16,0,12,0,16,0,16,0,31,0,13,0,13,0,13,0,13,0,13,0,13,0,13,0,13,0,13,0,1,0,1,0,1,0,1,0,1,0,3,0,3,0,3,0,3,0,3,0,15,0,15,0,15,0,34,0,34,0,34,0,34,0,34,0,15,0,34,0,34,0,1,0,1,0,1,0,1,0,4,0,4,0,4,0,1004,1,1,3,37,0,37,1,37,0,37,0,37,0,37,0,40,0,40,0,40,0,1040,0,37,0,37,0,40,0,40,0,40,0,1040,0,1,0,43,0,43,0,43,0,1043,0,1,0,1,0,4,0,4,0,4,0,4,0,4,0,4,0,34,0,34,0,34,0,34,0,15,0,34,0,34,0,49,0,13,0,13,0,13,0,13,0,13,0,55,0,1,0,1,0,3,0,3,0,3,0,3,0,58,0,58,0,58,0,58,0,58,0,3,0,1,0,1,0,3,0,3,0,3,0,3,0,3,0,1,0,1,0,3,0,3,0,3,0,3,0,3,0,12,0,15,0,12,0,12,0,15,0,12,0,15,0,61,0,67,0,61,0,61,0,67,0,61,0,67,0,1,0,1,0,3,0,3,0,3,0,3,0,73,0,73,0,73,0,73,0,73,0,3,0,70,0,76,0,70,0,70,0,76,0,70,0,76,0,1,0,1,0] (.ok (.ret (.int 2 v))) (Res.κI (goI (VN (PX b1 b2 q) prog) 100000 0 [7,0,7,0,7,0,7,0,0,0,7,0,7,0,1,0,1,0,1,2,1,0,3,0,3,0,3,0] (snCode S) ⟨kt (PX b1 b2 q), [(X0, lstO #[.int x1 u1, .int x2 u2, .int x3 u3] 3), (X1, lstO #[.ref X2, .ref X3, .ref X4, .ref X5] e0), (X2, lstO #[.int 0 l0] e1), (X3, lstO #[.int 1 l1] e2), (X4, lstO #[.int 2 l2] e3), (X5, lstO #[.int 3 l3] e4)], snZ (PX b1 b2 q) S X0 X1 c1 c2 c3 none s0 s1 s2 s3 t0 t1 t2 t3 ce 0, [], N, tk⟩)) (Mm.tkTo (Res.mI (goI (VN (PX b1 b2 q) prog) 100000 0 [7,0,7,0,7,0,7,0,0,0,7,0,7,0,1,0,1,0,1,2,1,0,3,0,3,0,3,0] (snCode S) ⟨kt (PX b1 b2 q), [(X0, lstO #[.int x1 u1, .int x2 u2, .int x3 u3] 3), (X1, lstO #[.ref X2, .ref X3, .ref X4, .ref X5] e0), (X2, lstO #[.int 0 l0] e1), (X3, lstO #[.int 1 l1] e2), (X4, lstO #[.int 2 l2] e3), (X5, lstO #[.int 3 l3] e4)], snZ (PX b1 b2 q) S X0 X1 c1 c2 c3 none s0 s1 s2 s3 t0 t1 t2 t3 ce 0, [], N, tk⟩)) k))) [0,79,6,9,64] [0,1,2] (by subst g0 g1; generalize b1 = b; revert b; exact kB (by kernel_rfl)) rfl
  exact H _ _ _ _ _ _ _ (E1 _ (selI_wA _) _ (selI_wB _))
theorem snT1_01_2_3__0 {nn : Nat} (L : Deep (nn + 20) A) (hw : w.params = PX b1 b2 q) {S N X0 X1 X2 X3 X4 e0 e1 e2 e3 l0 l1 l2 l3 c1 c2 c3 t0 t1 t2 t3 ce u1 u2 u3 : Nat} {x1 x2 x3 s0 s1 s2 s3 : Int} {j : SnJ} (hx : x2.fmod 2 = 0)
    (D : Rep h₀ ⟨kt (PX b1 b2 q), [(X0, lstO #[.int x1 u1, .int x2 u2, .int x3 u3] 3), (X1, lstO #[.ref X2, .ref X3, .ref X4] e0), (X2, lstO #[.int 0 l0, .int 1 l1] e1), (X3, lstO #[.int 2 l2] e2), (X4, lstO #[.int 3 l3] e3)], snZ (PX b1 b2 q) S X0 X1 c1 c2 c3 (some j) s0 s1 s2 s3 t0 t1 t2 t3 ce 1, [], N, tk⟩ h)
    (H : ∀ h' tk' (j : SnJ) (t0' t1' t2' t3' : Nat), Rep h₀ ⟨kt (PX b1 b2 q), [(X0, lstO #[.int x1 u1, .int x2 u2, .int x3 u3] 3), ((N + 26), lstO #[.ref (N + 21), .ref X4] 0), ((N + 21), lstO #[.int 0 l0, .int 1 l1, .int 2 l2] 0), (X4, lstO #[.int 3 l3] e3)], snZ (PX b1 b2 q) S X0 (N + 26) c1 c2 c3 (some j) (s0 * wA x2) (s1 * wA x2) (s2 * wB x2) s3 t0' t1' t2' t3' ce 2, [], N + 27, tk'⟩ h' → codeAny (model prog w) A (snCode S) R ⟨h', g, d, tk', os⟩) :
    codeAny (model prog w) A (snCode S) R ⟨h, g, d, tk, os⟩ := by
  have hP : (VN (PX b1 b2 q) prog).P = ⟨prog, w.params⟩ := by rw [hw]; rfl
  refine start (V := VN (PX b1 b2 q) prog) L hP 100000 0 [7,0,7,0,7,0,7,0,0,0,7,0,7,0,1,0,1,0,1,2,1,0,3,0,3,0,3,0] D rfl ?_
  refine good_hole L (c := .call (.builtin "int.__mod__") ⟨[.int x2 u2, .int 2 (tk + 4)], []⟩) (pp := []) (by generalize b1 = b; revert b; exact kB (by kernel_rfl)) trivial fun g0 M0 D0 => ?_
  refine c_mod (by decide) fun v k => ?_
  rw [hx]
  refine back (V := VN (PX b1 b2 q) prog) L hP 100000 0 [1,0,1,2,10,0,10,0,10,0,10,0,10,0,10,0,10,0,10,0,10,0,10,0,13,0,13,0,13,0,13,0,13,0,13,0,13,0,13,0,13,0,13,0,1,0,1,0,1,0,1,0,1,0,3,0,3,0,3,0,3,0,3,0,6,0,6,0,6,0,16,0,16,0,16,0,16,0,16,0,6,0,16,0,16,0,1,0,1,0,1,0,1,0,4,0,4,0,4,0,1004,1,1,3,19,0,19,1,19,0,19,0,19,0,19,0,22,0,22,0,22,0,1022,0,19,0,19,0,22,0,22,0,22,0,1022,0,1,0,25,0,25,0,25,0,1025,0,1,0,1,0,4,0,4,0,4,0,4,0,4,0,4,0,16,0,16,0,16,0,16,0,6,0,16,0,16,0,1,0,1,0,1,0,1,0,4,0,4,0,4,0,1004,1,1,3,28,0,28,1,28,0,28,0,28,0,28,0,31,0,31,0,31,0,1031,0,28,0,28,0,31,0,31,0,31,0,1031,0,1,0,34,0,34,0,34,0,1034,0,1,0,1,0,4,0,4,0,4,0,4,0,4,0,4,0,16,0,16,0,16,0,16,0,6,0,16,0,16,0,40,0,13,0,13,0,13,0,13,0,13,0,13,0,13,0,13,0,13,0,1,0,1,0,1,0,1,0,1,0,3,0,3,0,3,0,3,0,3,0,9,0,9,0,9,0,43,0,43,0,43,0,43,0,43,0,9,0,43,0,43,0,1,0,1,0,1,0,1,0,4,0,4,0,4,0,1004,1,1,3,46,0,46,1,46,0,46,0,46,0,46,0,49,0,49,0,49,0,1049,0,46,0,46,0,49,0,49,0,49,0,1049,0,1,0,52,0,52,0,52,0,1052,0,1,0,1,0,4,0,4,0,4,0,4,0,4,0,4,0,43,0,43,0,43,0,43,0,9,0,43,0,43,0,58,0,13,0,13,0,13,0,13,0,13,0,64,0,1,0,1,0,3,0,3,0,3,0,3,0,67,0,67,0,67,0,67,0,67,0,3,0,1,0,1,0,3,0,3,0,3,0,3,0,3,0,1,0,1,0,3,0,3,0,3,0,3,0,3,0,6,0,9,0,6,0,6,0,9,0,6,0,9,0,70,0,76,0,70,0,70,0,76,0,70,0,76,0,1,0,1,0,3,0,3,0,3,0,3,0,82,0,82,0,82,0,82,0,82,0,3,0,79,0,85,0,79,0,79,0,85,0,79,0,85,0,1,0,1,0] D0 ?_
  refine good_tail L (c := snCode S) (pp := [IntMulOk (s2) ((selI [.int (1) (k + 48), .int ((-1)) (k + 50), .int (2) (k + 51), .int ((-3)) (k + 53)] ((((x2).fdiv 24)).fmod 4))), itemP 2 ((0 + 1)), itemP 4 (((((x2).fdiv 24)).fmod 4)), itemP 4 (((((x2).fdiv 6)).fmod 4)), itemP 4 (2), IntMulOk (s1) ((selI [.int (1) (k + 27), .int ((-1)) (k + 29), .int (2) (k + 30), .int ((-3)) (k + 32)] ((((x2).fdiv 6)).fmod 4))), itemP 2 (0), itemP 4 (((((x2).fdiv 24)).fmod 4)), itemP 4 (((((x2).fdiv 6)).fmod 4)), itemP 4 (1), IntMulOk (s0) ((selI [.int (1) (k + 9), .int ((-1)) (k + 11), .int (2) (k + 12), .int ((-3)) (k + 14)] ((((x2).fdiv 6)).fmod 4))), itemP 2 (0), itemP 4 (((((x2).fdiv 24)).fmod 4)), itemP 4 (((((x2).fdiv 6)).fmod 4)), itemP 4 (0)]) (by generalize b1 = b; revert b; exact kB (by kernel_rfl)) (by generalize b1 = b; revert b; exact kB (by kernel_rfl)) (by repeat' (first | exact trivial | exact mulW | exact itemP_mod _ 4 (by omega) (by omega) | (unfold itemP; omega) | apply And.intro)) fun g1 D1 => ?_
  have E1 := fun (A0 : Int) (g0 : selI [.int (1) (k + 9), .int ((-1)) (k + 11), .int (2) (k + 12), .int ((-3)) (k + 14)] ((((x2).fdiv 6)).fmod 4) = A0) (A1 : Int) (g1 : selI [.int (1) (k + 27), .int ((-1)) (k + 29), .int (2) (k + 30), .int ((-3)) (k + 32)] ((((x2).fdiv 6)).fmod 4) = A1) (A2 : Int) (g2 : selI [.int (1) (k + 48), .int ((-1)) (k + 50), .int (2) (k + 51), .int ((-3)) (k + 53)] ((((x2).fdiv 24)).fmod 4) = A2) => D1.to (T := kt (PX b1 b2 q)) (F := [(X0, lstO #[.int x1 u1, .int x2 u2, .int x3 u3] 3), ((N + 26), lstO #[.ref (N + 21), .ref X4] 0), ((N + 21), lstO #[.int 0 l0, .int 1 l1, .int 2 l2] 0), (X4, lstO #[.int 3 l3] e3)]) (Z := snZ (PX b1 b2 q) S X0 (N + 26) c1 c2 c3 (some ⟨x2, 0, 1, 2, j.a1, j.a2, j.a3, j.a4, u2, v, (k + 43), l2⟩) ((s0 * A0)) ((s1 * A1)) ((s2 * A2)) (s3) (k + 24) (k + 42) (k + 63) t3 ce 2) (B := []) (nx := N + 27) (tk := Res.tkI (backI (VN (PX b1 b2 q) prog) 100000 0 [1,0,1,2,10,0,10,0,10,0,10,0,10,0,10,0,10,0,10,0,10,0,10,0,13,0,13,0,13,0,13,0,13,0,13,0,13,0,13,0,13,0,13,0,1,0,1,0,1,0,1,0,1,0,3,0,3,0,3,0,3,0,3,0,6,0,6,0,6,0,16,0,16,0,16,0,16,0,16,0,6,0,16,0,16,0,1,0,1,0,1,0,1,0,4,0,4,0,4,0,1004,1,1,3,19,0,19,1,19,0,19,0,19,0,19,0,22,0,22,0,22,0,1022,0,19,0,19,0,22,0,22,0,22,0,1022,0,1,0,25,0,25,0,25,0,1025,0,1,0,1,0,4,0,4,0,4,0,4,0,4,0,4,0,16,0,16,0,16,0,16,0,6,0,16,0,16,0,1,0,1,0,1,0,1,0,4,0,4,0,4,0,1004,1,1,3,28,0,28,1,28,0,28,0,28,0,28,0,31,0,31,0,31,0,1031,0,28,0,28,0,31,0,31,0,31,0,1031,0,1,0,34,0,34,0,34,0,1034,0,1,0,1,0,4,0,4,0,4,0,4,0,4,0,4,0,16,0,16,0,16,0,16,0,6,0,16,0,16,0,40,0,13,0,13,0,13,0,13,0,13,0,13,0,13,0,13,0,13,0,1,0,1,0,1,0,1,0,1,0,3,0,3,0,3,0,3,0,3,0,9,0,9,0,9,0,43,0,43,0,43,0,43,0,43,0,9,0,43,0,43,0,1,0,1,0,1,0,1,0,4,0,4,0,4,0,1004,1,1,3,46,0,46,1,46,0,46,0,46,0,46,0,49,0,49,0,49,0,1049,0,46,0,46,0,49,0,49,0,49,0,1049,0,1,0,52,0,52,0,52,0,1052,0,1,0,1,0,4,0,4,0,4,0,4,0,4,0,4,0,43,0,43,0,43,0,43,0,9,0,43,0,43,0,58,0,13,0,13,0,13,0,13,0,13,0,64,0,1,0,1,0,3,0,3,0,3,0,3,0,67,0,67,0,67,0,67,0,67,0,3,0,1,0,1,0,3,0,3,0,3,0,3,0,3,0,1,0,1,0,3,0,3,0,3,0,3,0,3,0,6,0,9,0,6,0,6,0,9,0,6,0,9,0,70,0,76,0,70,0,70,0,76,0,70,0,76,0,1,0,1,0,3,0,3,0,3,0,3,0,82,0,82,0,82,0,82,0,82,0,3,0,79,0,85,0,79,0,79,0,85,0,79,0,85,0,1,0,1,0] (.ok (.ret (.int 0 v))) (Res.κI (goI (VN (PX b1 b2 q) prog) 100000 0 [7,0,7,0,7,0,7,0,0,0,7,0,7,0,1,0,1,0,1,2,1,0,3,0,3,0,3,0] (snCode S) ⟨kt (PX b1 b2 q), [(X0, lstO #[.int x1 u1, .int x2 u2, .int x3 u3] 3), (X1, lstO #[.ref X2, .ref X3, .ref X4] e0), (X2, lstO #[.int 0 l0, .int 1 l1] e1), (X3, lstO #[.int 2 l2] e2), (X4, lstO #[.int 3 l3] e3)], snZ (PX b1 b2 q) S X0 X1 c1 c2 c3 (some j) s0 s1 s2 s3 t0 t1 t2 t3 ce 1, [], N, tk⟩)) (Mm.tkTo (Res.mI (goI (VN (PX b1 b2 q) prog) 100000 0 [7,0,7,0,7,0,7,0,0,0,7,0,7,0,1,0,1,0,1,2,1,0,3,0,3,0,3,0] (snCode S) ⟨kt (PX b1 b2 q), [(X0, lstO #[.int x1 u1, .int x2 u2, .int x3 u3] 3), (X1, lstO #[.ref X2, .ref X3, .ref X4] e0), (X2, lstO #[.int 0 l0, .int 1 l1] e1), (X3, lstO #[.int 2 l2] e2), (X4, lstO #[.int 3 l3] e3)], snZ (PX b1 b2 q) S X0 X1 c1 c2 c3 (some j) s0 s1 s2 s3 t0 t1 t2 t3 ce 1, [], N, tk⟩)) k))) [0,88,73,12] [0,1,2] (by subst g0 g1 g2; generalize b1 = b; revert b; exact kB (by kernel_rfl)) rfl
  exact H _ _ _ _ _ _ _ (E1 _ (selI_wA _) _ (selI_wA _) _ (selI_wB _))
theorem snT1_01_2_3__1 {nn : Nat} (L : Deep (nn + 20) A) (hw : w.params = PX b1 b2 q) {S N X0 X1 X2 X3 X4 e0 e1 e2 e3 l0 l1 l2 l3 c1 c2 c3 t0 t1 t2 t3 ce u1 u2 u3 : Nat} {x1 x2 x3 s0 s1 s2 s3 : Int} {j : SnJ} (hx : x2.fmod 2 = 1)
    (D : Rep h₀ ⟨kt (PX b1 b2 q), [(X0, lstO #[.int x1 u1, .int x2 u2, .int x3 u3] 3), (X1, lstO #[.ref X2, .ref X3, .ref X4] e0), (X2, lstO #[.int 0 l0, .int 1 l1] e1), (X3, lstO #[.int 2 l2] e2), (X4, lstO #[.int 3 l3] e3)], snZ (PX b1 b2 q) S X0 X1 c1 c2 c3 (some j) s0 s1 s2 s3 t0 t1 t2 t3 ce 1, [], N, tk⟩ h)
    (H : ∀ h' tk' (j : SnJ) (t0' t1' t2' t3' : Nat), Rep h₀ ⟨kt (PX b1 b2 q), [(X0, lstO #[.int x1 u1, .int x2 u2, .int x3 u3] 3), ((N + 23), lstO #[.ref X2, .ref (N + 18)] 0), (X2, lstO #[.int 0 l0, .int 1 l1] e1), ((N + 18), lstO #[.int 2 l2, .int 3 l3] 0)], snZ (PX b1 b2 q) S X0 (N + 23) c1 c2 c3 (some j) s0 s1 (s2 * wA x2) (s3 * wB x2) t0' t1' t2' t3' ce 2, [], N + 24, tk'⟩ h' → codeAny (model prog w) A (snCode S) R ⟨h', g, d, tk', os⟩) :
    codeAny (model prog w) A (snCode S) R ⟨h, g, d, tk, os⟩ := by
  have hP : (VN (PX b1 b2 q) prog).P = ⟨prog, w.params⟩ := by rw [hw]; rfl
  refine start (V := VN (PX b1 b2 q) prog) L hP 100000 0 [7,0,7,0,7,0,7,0,0,0,7,0,7,0,1,0,1,0,1,2,1,0,3,0,3,0,3,0] D rfl ?_
  refine good_hole L (c := .call (.builtin "int.__mod__") ⟨[.int x2 u2, .int 2 (tk + 4)], []⟩) (pp := []) (by generalize b1 = b; revert b; exact kB (by kernel_rfl)) trivial fun g0 M0 D0 => ?_
  refine c_mod (by decide) fun v k => ?_
  rw [hx]
  refine back (V := VN (PX b1 b2 q) prog) L hP 100000 0 [1,0,1,2,10,0,10,0,10,0,10,0,10,0,10,0,10,0,10,0,10,0,10,0,13,0,13,0,13,0,13,0,13,0,13,0,13,0,13,0,13,0,13,0,1,0,1,0,1,0,1,0,1,0,3,0,3,0,3,0,3,0,3,0,9,0,9,0,9,0,16,0,16,0,16,0,16,0,16,0,9,0,16,0,16,0,1,0,1,0,1,0,1,0,4,0,4,0,4,0,1004,1,1,3,19,0,19,1,19,0,19,0,19,0,19,0,22,0,22,0,22,0,1022,0,19,0,19,0,22,0,22,0,22,0,1022,0,1,0,25,0,25,0,25,0,1025,0,1,0,1,0,4,0,4,0,4,0,4,0,4,0,4,0,16,0,16,0,16,0,16,0,9,0,16,0,16,0,31,0,13,0,13,0,13,0,13,0,13,0,13,0,13,0,13,0,13,0,1,0,1,0,1,0,1,0,1,0,3,0,3,0,3,0,3,0,3,0,12,0,12,0,12,0,34,0,34,0,34,0,34,0,34,0,12,0,34,0,34,0,1,0,1,0,1,0,1,0,4,0,4,0,4,0,1004,1,1,3,37,0,37,1,37,0,37,0,37,0,37,0,40,0,40,0,40,0,1040,0,37,0,37,0,40,0,40,0,40,0,1040,0,1,0,43,0,43,0,43,0,1043,0,1,0,1,0,4,0,4,0,4,0,4,0,4,0,4,0,34,0,34,0,34,0,34,0,12,0,34,0,34,0,49,0,13,0,13,0,13,0,13,0,13,0,55,0,1,0,1,0,3,0,3,0,3,0,3,0,58,0,58,0,58,0,58,0,58,0,3,0,1,0,1,0,3,0,3,0,3,0,3,0,3,0,1,0,1,0,3,0,3,0,3,0,3,0,3,0,9,0,12,0,9,0,9,0,12,0,9,0,12,0,61,0,67,0,61,0,61,0,67,0,61,0,67,0,1,0,1,0,3,0,3,0,3,0,3,0,73,0,73,0,73,0,73,0,73,0,3,0,70,0,76,0,70,0,70,0,76,0,70,0,76,0,1,0,1,0] D0 ?_
  refine good_tail L (c := snCode S) (pp := [IntMulOk (s3) ((selI [.int (1) (k + 30), .int ((-1)) (k + 32), .int (2) (k + 33), .int ((-3)) (k + 35)] ((((x2).fdiv 24)).fmod 4))), itemP 2 ((0 + 1)), itemP 4 (((((x2).fdiv 24)).fmod 4)), itemP 4 (((((x2).fdiv 6)).fmod 4)), itemP 4 (3), IntMulOk (s2) ((selI [.int (1) (k + 9), .int ((-1)) (k + 11), .int (2) (k + 12), .int ((-3)) (k + 14)] ((((x2).fdiv 6)).fmod 4))), itemP 2 (0), itemP 4 (((((x2).fdiv 24)).fmod 4)), itemP 4 (((((x2).fdiv 6)).fmod 4)), itemP 4 (2)]) (by generalize b1 = b; revert b; exact kB (by kernel_rfl)) (by generalize b1 = b; revert b; exact kB (by kernel_rfl)) (by repeat' (first | exact trivial | exact mulW | exact itemP_mod _ 4 (by omega) (by omega) | (unfold itemP; omega) | apply And.intro)) fun g1 D1 => ?_
  have E1 := fun (A0 : Int) (g0 : selI [.int (1) (k + 9), .int ((-1)) (k + 11), .int (2) (k + 12), .int ((-3)) (k + 14)] ((((x2).fdiv 6)).fmod 4) = A0) (A1 : Int) (g1 : selI [.int (1) (k + 30), .int ((-1)) (k + 32), .int (2) (k + 33), .int ((-3)) (k + 35)] ((((x2).fdiv 24)).fmod 4) = A1) => D1.to (T := kt (PX b1 b2 q)) (F := [(X0, lstO #[.int x1 u1, .int x2 u2, .int x3 u3] 3), ((N + 23), lstO #[.ref X2, .ref (N + 18)] 0), (X2, lstO #[.int 0 l0, .int 1 l1] e1), ((N + 18), lstO #[.int 2 l2, .int 3 l3] 0)]) (Z := snZ (PX b1 b2 q) S X0 (N + 23) c1 c2 c3 (some ⟨x2, 1, 1, 3, j.a1, j.a2, j.a3, j.a4, u2, v, (k + 25), l3⟩) (s0) (s1) ((s2 * A0)) ((s3 * A1)) t0 t1 (k + 24) (k + 45) ce 2) (B := []) (nx := N + 24) (tk := Res.tkI (backI (VN (PX b1 b2 q) prog) 100000 0 [1,0,1,2,10,0,10,0,10,0,10,0,10,0,10,0,10,0,10,0,10,0,10,0,13,0,13,0,13,0,13,0,13,0,13,0,13,0,13,0,13,0,13,0,1,0,1,0,1,0,1,0,1,0,3,0,3,0,3,0,3,0,3,0,9,0,9,0,9,0,16,0,16,0,16,0,16,0,16,0,9,0,16,0,16,0,1,0,1,0,1,0,1,0,4,0,4,0,4,0,1004,1,1,3,19,0,19,1,19,0,19,0,19,0,19,0,22,0,22,0,22,0,1022,0,19,0,19,0,22,0,22,0,22,0,1022,0,1,0,25,0,25,0,25,0,1025,0,1,0,1,0,4,0,4,0,4,0,4,0,4,0,4,0,16,0,16,0,16,0,16,0,9,0,16,0,16,0,31,0,13,0,13,0,13,0,13,0,13,0,13,0,13,0,13,0,13,0,1,0,1,0,1,0,1,0,1,0,3,0,3,0,3,0,3,0,3,0,12,0,12,0,12,0,34,0,34,0,34,0,34,0,34,0,12,0,34,0,34,0,1,0,1,0,1,0,1,0,4,0,4,0,4,0,1004,1,1,3,37,0,37,1,37,0,37,0,37,0,37,0,40,0,40,0,40,0,1040,0,37,0,37,0,40,0,40,0,40,0,1040,0,1,0,43,0,43,0,43,0,1043,0,1,0,1,0,4,0,4,0,4,0,4,0,4,0,4,0,34,0,34,0,34,0,34,0,12,0,34,0,34,0,49,0,13,0,13,0,13,0,13,0,13,0,55,0,1,0,1,0,3,0,3,0,3,0,3,0,58,0,58,0,58,0,58,0,58,0,3,0,1,0,1,0,3,0,3,0,3,0,3,0,3,0,1,0,1,0,3,0,3,0,3,0,3,0,3,0,9,0,12,0,9,0,9,0,12,0,9,0,12,0,61,0,67,0,61,0,61,0,67,0,61,0,67,0,1,0,1,0,3,0,3,0,3,0,3,0,73,0,73,0,73,0,73,0,73,0,3,0,70,0,76,0,70,0,70,0,76,0,70,0,76,0,1,0,1,0] (.ok (.ret (.int 1 v))) (Res.κI (goI (VN (PX b1 b2 q) prog) 100000 0 [7,0,7,0,7,0,7,0,0,0,7,0,7,0,1,0,1,0,1,2,1,0,3,0,3,0,3,0] (snCode S) ⟨kt (PX b1 b2 q), [(X0, lstO #[.int x1 u1, .int x2 u2, .int x3 u3] 3), (X1, lstO #[.ref X2, .ref X3, .ref X4] e0), (X2, lstO #[.int 0 l0, .int 1 l1] e1), (X3, lstO #[.int 2 l2] e2), (X4, lstO #[.int 3 l3] e3)], snZ (PX b1 b2 q) S X0 X1 c1 c2 c3 (some j) s0 s1 s2 s3 t0 t1 t2 t3 ce 1, [], N, tk⟩)) (Mm.tkTo (Res.mI (goI (VN (PX b1 b2 q) prog) 100000 0 [7,0,7,0,7,0,7,0,0,0,7,0,7,0,1,0,1,0,1,2,1,0,3,0,3,0,3,0] (snCode S) ⟨kt (PX b1 b2 q), [(X0, lstO #[.int x1 u1, .int x2 u2, .int x3 u3] 3), (X1, lstO #[.ref X2, .ref X3, .ref X4] e0), (X2, lstO #[.int 0 l0, .int 1 l1] e1), (X3, lstO #[.int 2 l2] e2), (X4, lstO #[.int 3 l3] e3)], snZ (PX b1 b2 q) S X0 X1 c1 c2 c3 (some j) s0 s1 s2 s3 t0 t1 t2 t3 ce 1, [], N, tk⟩)) k))) [0,79,6,64] [0,1,2] (by subst g0 g1; generalize b1 = b; revert b; exact kB (by kernel_rfl)) rfl
  exact H _ _ _ _ _ _ _ (E1 _ (selI_wA _) _ (selI_wB _))
theorem snT1_0_12_3__0 {nn : Nat} (L : Deep (nn + 20) A) (hw : w.params = PX b1 b2 q) {S N X0 X1 X2 X3 X4 e0 e1 e2 e3 l0 l1 l2 l3 c1 c2 c3 t0 t1 t2 t3 ce u1 u2 u3 : Nat} {x1 x2 x3 s0 s1 s2 s3 : Int} {j : SnJ} (hx : x2.fmod 2 = 0)
    (D : Rep h₀ ⟨kt (PX b1 b2 q), [(X0, lstO #[.int x1 u1, .int x2 u2, .int x3 u3] 3), (X1, lstO #[.ref X2, .ref X3, .ref X4] e0), (X2, lstO #[.int 0 l0] e1), (X3, lstO #[.int 1 l1, .int 2 l2] e2), (X4, lstO #[.int 3 l3] e3)], snZ (PX b1 b2 q) S X0 X1 c1 c2 c3 (some j) s0 s1 s2 s3 t0 t1 t2 t3 ce 1, [], N, tk⟩ h)
    (H : ∀ h' tk' (j : SnJ) (t0' t1' t2' t3' : Nat), Rep h₀ ⟨kt (PX b1 b2 q), [(X0, lstO #[.int x1 u1, .int x2 u2, .int x3 u3] 3), ((N + 26), lstO #[.ref (N + 21), .ref X4] 0), ((N + 21), lstO #[.int 0 l0, .int 1 l1, .int 2 l2] 0), (X4, lstO #[.int 3 l3] e3)], snZ (PX b1 b2 q) S X0 (N + 26) c1 c2 c3 (some j) (s0 * wA x2) (s1 * wB x2) (s2 * wB x2) s3 t0' t1' t2' t3' ce 2, [], N + 27, tk'⟩ h' → codeAny (model prog w) A (snCode S) R ⟨h', g, d, tk', os⟩) :
    codeAny (model prog w) A (snCode S) R ⟨h, g, d, tk, os⟩ := by
  have hP : (VN (PX b1 b2 q) prog).P = ⟨prog, w.params⟩ := by rw [hw]; rfl
  refine start (V := VN (PX b1 b2 q) prog) L hP 100000 0 [7,0,7,0,7,0,7,0,0,0,7,0,7,0,1,0,1,0,1,2,1,0,3,0,3,0,3,0] D rfl ?_
  refine good_hole L (c := .call (.builtin "int.__mod__") ⟨[.int x2 u2, .int 2 (tk + 4)], []⟩) (pp := []) (by generalize b1 = b; revert b; exact kB (by kernel_rfl)) trivial fun g0 M0 D0 => ?_
  refine c_mod (by decide) fun v k => ?_
  rw [hx]
  refine back (V := VN (PX b1 b2 q) prog) L hP 100000 0 [1,0,1,2,10,0,10,0,10,0,10,0,10,0,10,0,10,0,10,0,10,0,10,0,13,0,13,0,13,0,13,0,13,0,13,0,13,0,13,0,13,0,13,0,1,0,1,0,1,0,1,0,1,0,3,0,3,0,3,0,3,0,3,0,6,0,6,0,6,0,16,0,16,0,16,0,16,0,16,0,6,0,16,0,16,0,1,0,1,0,1,0,1,0,4,0,4,0,4,0,1004,1,1,3,19,0,19,1,19,0,19,0,19,0,19,0,22,0,22,0,22,0,1022,0,19,0,19,0,22,0,22,0,22,0,1022,0,1,0,25,0,25,0,25,0,1025,0,1,0,1,0,4,0,4,0,4,0,4,0,4,0,4,0,16,0,16,0,16,0,16,0,6,0,16,0,16,0,31,0,13,0,13,0,13,0,13,0,13,0,13,0,13,0,13,0,13,0,1,0,1,0,1,0,1,0,1,0,3,0,3,0,3,0,3,0,3,0,9,0,9,0,9,0,34,0,34,0,34,0,34,0,34,0,9,0,34,0,34,0,1,0,1,0,1,0,1,0,4,0,4,0,4,0,1004,1,1,3,37,0,37,1,37,0,37,0,37,0,37,0,40,0,40,0,40,0,1040,0,37,0,37,0,40,0,40,0,40,0,1040,0,1,0,43,0,43,0,43,0,1043,0,1,0,1,0,4,0,4,0,4,0,4,0,4,0,4,0,34,0,34,0,34,0,34,0,9,0,34,0,34,0,1,0,1,0,1,0,1,0,4,0,4,0,4,0,1004,1,1,3,46,0,46,1,46,0,46,0,46,0,46,0,49,0,49,0,49,0,1049,0,46,0,46,0,49,0,49,0,49,0,1049,0,1,0,52,0,52,0,52,0,1052,0,1,0,1,0,4,0,4,0,4,0,4,0,4,0,4,0,34,0,34,0,34,0,34,0,9,0,34,0,34,0,58,0,13,0,13,0,13,0,13,0,13,0,64,0,1,0,1,0,3,0,3,0,3,0,3,0,67,0,67,0,67,0,67,0,67,0,3,0,1,0,1,0,3,0,3,0,3,0,3,0,3,0,1,0,1,0,3,0,3,0,3,0,3,0,3,0,6,0,9,0,6,0,6,0,9,0,6,0,9,0,70,0,76,0,70,0,70,0,76,0,70,0,76,0,1,0,1,0,3,0,3,0,3,0,3,0,82,0,82,0,82,0,82,0,82,0,3,0,79,0,85,0,79,0,79,0,85,0,79,0,85,0,1,0,1,0] D0 ?_
  refine good_tail L (c := snCode S) (pp := [IntMulOk (s2) ((selI [.int (1) (k + 48), .int ((-1)) (k + 50), .int (2) (k + 51), .int ((-3)) (k + 53)] ((((x2).fdiv 24)).fmod 4))), itemP 2 ((0 + 1)), itemP 4 (((((x2).fdiv 24)).fmod 4)), itemP 4 (((((x2).fdiv 6)).fmod 4)), itemP 4 (2), IntMulOk (s1) ((selI [.int (1) (k + 30), .int ((-1)) (k + 32), .int (2) (k + 33), .int ((-3)) (k + 35)] ((((x2).fdiv 24)).fmod 4))), itemP 2 ((0 + 1)), itemP 4 (((((x2).fdiv 24)).fmod 4)), itemP 4 (((((x2).fdiv 6)).fmod 4)), itemP 4 (1), IntMulOk (s0) ((selI [.int (1) (k + 9), .int ((-1)) (k + 11), .int (2) (k + 12), .int ((-3)) (k + 14)] ((((x2).fdiv 6)).fmod 4))), itemP 2 (0), itemP 4 (((((x2).fdiv 24)).fmod 4)), itemP 4 (((((x2).fdiv 6)).fmod 4)), itemP 4 (0)]) (by generalize b1 = b; revert b; exact kB (by kernel_rfl)) (by generalize b1 = b; revert b; exact kB (by kernel_rfl)) (by repeat' (first | exact trivial | exact mulW | exact itemP_mod _ 4 (by omega) (by omega) | (unfold itemP; omega) | apply And.intro)) fun g1 D1 => ?_
  have E1 := fun (A0 : Int) (g0 : selI [.int (1) (k + 9), .int ((-1)) (k + 11), .int (2) (k + 12), .int ((-3)) (k + 14)] ((((x2).fdiv 6)).fmod 4) = A0) (A1 : Int) (g1 : selI [.int (1) (k + 30), .int ((-1)) (k + 32), .int (2) (k + 33), .int ((-3)) (k + 35)] ((((x2).fdiv 24)).fmod 4) = A1) (A2 : Int) (g2 : selI [.int (1) (k + 48), .int ((-1)) (k + 50), .int (2) (k + 51), .int ((-3)) (k + 53)] ((((x2).fdiv 24)).fmod 4) = A2) => D1.to (T := kt (PX b1 b2 q)) (F := [(X0, lstO #[.int x1 u1, .int x2 u2, .int x3 u3] 3), ((N + 26), lstO #[.ref (N + 21), .ref X4] 0), ((N + 21), lstO #[.int 0 l0, .int 1 l1, .int 2 l2] 0), (X4, lstO #[.int 3 l3] e3)]) (Z := snZ (PX b1 b2 q) S X0 (N + 26) c1 c2 c3 (some ⟨x2, 0, 1, 2, j.a1, j.a2, j.a3, j.a4, u2, v, (k + 25), l2⟩) ((s0 * A0)) ((s1 * A1)) ((s2 * A2)) (s3) (k + 24) (k + 45) (k + 63) t3 ce 2) (B := []) (nx := N + 27) (tk := Res.tkI (backI (VN (PX b1 b2 q) prog) 100000 0 [1,0,1,2,10,0,10,0,10,0,10,0,10,0,10,0,10,0,10,0,10,0,10,0,13,0,13,0,13,0,13,0,13,0,13,0,13,0,13,0,13,0,13,0,1,0,1,0,1,0,1,0,1,0,3,0,3,0,3,0,3,0,3,0,6,0,6,0,6,0,16,0,16,0,16,0,16,0,16,0,6,0,16,0,16,0,1,0,1,0,1,0,1,0,4,0,4,0,4,0,1004,1,1,3,19,0,19,1,19,0,19,0,19,0,19,0,22,0,22,0,22,0,1022,0,19,0,19,0,22,0,22,0,22,0,1022,0,1,0,25,0,25,0,25,0,1025,0,1,0,1,0,4,0,4,0,4,0,4,0,4,0,4,0,16,0,16,0,16,0,16,0,6,0,16,0,16,0,31,0,13,0,13,0,13,0,13,0,13,0,13,0,13,0,13,0,13,0,1,0,1,0,1,0,1,0,1,0,3,0,3,0,3,0,3,0,3,0,9,0,9,0,9,0,34,0,34,0,34,0,34,0,34,0,9,0,34,0,34,0,1,0,1,0,1,0,1,0,4,0,4,0,4,0,1004,1,1,3,37,0,37,1,37,0,37,0,37,0,37,0,40,0,40,0,40,0,1040,0,37,0,37,0,40,0,40,0,40,0,1040,0,1,0,43,0,43,0,43,0,1043,0,1,0,1,0,4,0,4,0,4,0,4,0,4,0,4,0,34,0,34,0,34,0,34,0,9,0,34,0,34,0,1,0,1,0,1,0,1,0,4,0,4,0,4,0,1004,1,1,3,46,0,46,1,46,0,46,0,46,0,46,0,49,0,49,0,49,0,1049,0,46,0,46,0,49,0,49,0,49,0,1049,0,1,0,52,0,52,0,52,0,1052,0,1,0,1,0,4,0,4,0,4,0,4,0,4,0,4,0,34,0,34,0,34,0,34,0,9,0,34,0,34,0,58,0,13,0,13,0,13,0,13,0,13,0,64,0,1,0,1,0,3,0,3,0,3,0,3,0,67,0,67,0,67,0,67,0,67,0,3,0,1,0,1,0,3,0,3,0,3,0,3,0,3,0,1,0,1,0,3,0,3,0,3,0,3,0,3,0,6,0,9,0,6,0,6,0,9,0,6,0,9,0,70,0,76,0,70,0,70,0,76,0,70,0,76,0,1,0,1,0,3,0,3,0,3,0,3,0,82,0,82,0,82,0,82,0,82,0,3,0,79,0,85,0,79,0,79,0,85,0,79,0,85,0,1,0,1,0] (.ok (.ret (.int 0 v))) (Res.κI (goI (VN (PX b1 b2 q) prog) 100000 0 [7,0,7,0,7,0,7,0,0,0,7,0,7,0,1,0,1,0,1,2,1,0,3,0,3,0,3,0] (snCode S) ⟨kt (PX b1 b2 q), [(X0, lstO #[.int x1 u1, .int x2 u2, .int x3 u3] 3), (X1, lstO #[.ref X2, .ref X3, .ref X4] e0), (X2, lstO #[.int 0 l0] e1), (X3, lstO #[.int 1 l1, .int 2 l2] e2), (X4, lstO #[.int 3 l3] e3)], snZ (PX b1 b2 q) S X0 X1 c1 c2 c3 (some j) s0 s1 s2 s3 t0 t1 t2 t3 ce 1, [], N, tk⟩)) (Mm.tkTo (Res.mI (goI (VN (PX b1 b2 q) prog) 100000 0 [7,0,7,0,7,0,7,0,0,0,7,0,7,0,1,0,1,0,1,2,1,0,3,0,3,0,3,0] (snCode S) ⟨kt (PX b1 b2 q), [(X0, lstO #[.int x1 u1, .int x2 u2, .int x3 u3] 3), (X1, lstO #[.ref X2, .ref X3, .ref X4] e0), (X2, lstO #[.int 0 l0] e1), (X3, lstO #[.int 1 l1, .int 2 l2] e2), (X4, lstO #[.int 3 l3] e3)], snZ (PX b1 b2 q) S X0 X1 c1 c2 c3 (some j) s0 s1 s2 s3 t0 t1 t2 t3 ce 1, [], N, tk⟩)) k))) [0,88,73,12] [0,1,2] (by subst g0 g1 g2; generalize b1 = b; revert b; exact kB (by kernel_rfl)) rfl
  exact H _ _ _ _ _ _ _ (E1 _ (selI_wA _) _ (selI_wB _) _ (selI_wB _))
theorem snT1_0_12_3__1 {nn : Nat} (L : Deep (nn + 20) A) (hw : w.params = PX b1 b2 q) {S N X0 X1 X2 X3 X4 e0 e1 e2 e3 l0 l1 l2 l3 c1 c2 c3 t0 t1 t2 t3 ce u1 u2 u3 : Nat} {x1 x2 x3 s0 s1 s2 s3 : Int} {j : SnJ} (hx : x2.fmod 2 = 1)
    (D : Rep h₀ ⟨kt (PX b1 b2 q), [(X0, lstO #[.int x1 u1, .int x2 u2, .int x3 u3] 3), (X1, lstO #[.ref X2, .ref X3, .ref X4] e0), (X2, lstO #[.int 0 l0] e1), (X3, lstO #[.int 1 l1, .int 2 l2] e2), (X4, lstO #[.int 3 l3] e3)], snZ (PX b1 b2 q) S X0 X1 c1 c2 c3 (some j) s0 s1 s2 s3 t0 t1 t2 t3 ce 1, [], N, tk⟩ h)
    (H : ∀ h' tk' (j : SnJ) (t0' t1' t2' t3' : Nat), Rep h₀ ⟨kt (PX b1 b2 q), [(X0, lstO #[.int x1 u1, .int x2 u2, .int x3 u3] 3), ((N + 26), lstO #[.ref X2, .ref (N + 21)] 0), (X2, lstO #[.int 0 l0] e1), ((N + 21), lstO #[.int 1 l1, .int 2 l2, .int 3 l3] 0)], snZ (PX b1 b2 q) S X0 (N + 26) c1 c2 c3 (some j) s0 (s1 * wA x2) (s2 * wA x2) (s3 * wB x2) t0' t1' t2' t3' ce 2, [], N + 27, tk'⟩ h' → codeAny (model prog w) A (snCode S) R ⟨h', g, d, tk', os⟩) :
    codeAny (model prog w) A (snCode S) R ⟨h, g, d, tk, os⟩ := by
  have hP : (VN (PX b1 b2 q) prog).P = ⟨prog, w.params⟩ := by rw [hw]; rfl
  refine start (V := VN (PX b1 b2 q) prog) L hP 100000 0 [7,0,7,0,7,0,7,0,0,0,7,0,7,0,1,0,1,0,1,2,1,0,3,0,3,0,3,0] D rfl ?_
  refine good_hole L (c := .call (.builtin "int.__mod__") ⟨[.int x2 u2, .int 2 (tk + 4)], []⟩) (pp := []) (by generalize b1 = b; revert b; exact kB (by kernel_rfl)) trivial fun g0 M0 D0 => ?_
  refine c_mod (by decide) fun v k => ?_
  rw [hx]
  refine back (V := VN (PX b1 b2 q) prog) L hP 100000 0 [1,0,1,2,10,0,10,0,10,0,10,0,10,0,10,0,10,0,10,0,10,0,10,0,13,0,13,0,13,0,13,0,13,0,13,0,13,0,13,0,13,0,13,0,1,0,1,0,1,0,1,0,1,0,3,0,3,0,3,0,3,0,3,0,9,0,9,0,9,0,16,0,16,0,16,0,16,0,16,0,9,0,16,0,16,0,1,0,1,0,1,0,1,0,4,0,4,0,4,0,1004,1,1,3,19,0,19,1,19,0,19,0,19,0,19,0,22,0,22,0,22,0,1022,0,19,0,19,0,22,0,22,0,22,0,1022,0,1,0,25,0,25,0,25,0,1025,0,1,0,1,0,4,0,4,0,4,0,4,0,4,0,4,0,16,0,16,0,16,0,16,0,9,0,16,0,16,0,1,0,1,0,1,0,1,0,4,0,4,0,4,0,1004,1,1,3,28,0,28,1,28,0,28,0,28,0,28,0,31,0,31,0,31,0,1031,0,28,0,28,0,31,0,31,0,31,0,1031,0,1,0,34,0,34,0,34,0,1034,0,1,0,1,0,4,0,4,0,4,0,4,0,4,0,4,0,16,0,16,0,16,0,16,0,9,0,16,0,16,0,40,0,13,0,13,0,13,0,13,0,13,0,13,0,13,0,13,0,13,0,1,0,1,0,1,0,1,0,1,0,3,0,3,0,3,0,3,0,3,0,12,0,12,0,12,0,43,0,43,0,43,0,43,0,43,0,12,0,43,0,43,0,1,0,1,0,1,0,1,0,4,0,4,0,4,0,1004,1,1,3,46,0,46,1,46,0,46,0,46,0,46,0,49,0,49,0,49,0,1049,0,46,0,46,0,49,0,49,0,49,0,1049,0,1,0,52,0,52,0,52,0,1052,0,1,0,1,0,4,0,4,0,4,0,4,0,4,0,4,0,43,0,43,0,43,0,43,0,12,0,43,0,43,0,58,0,13,0,13,0,13,0,13,0,13,0,64,0,1,0,1,0,3,0,3,0,3,0,3,0,67,0,67,0,67,0,67,0,67,0,3,0,1,0,1,0,3,0,3,0,3,0,3,0,3,0,1,0,1,0,3,0,3,0,3,0,3,0,3,0,9,0,12,0,9,0,9,0,12,0,9,0,12,0,70,0,76,0,70,0,70,0,76,0,70,0,76,0,1,0,1,0,3,0,3,0,3,0,3,0,82,0,82,0,82,0,82,0,82,0,3,0,79,0,85,0,79,0,79,0,85,0,79,0,85,0,1,0,1,0] D0 ?_
  refine good_tail L (c := snCode S) (pp := [IntMulOk (s3) ((selI [.int (1) (k + 48), .int ((-1)) (k + 50), .int (2) (k + 51), .int ((-3)) (k + 53)] ((((x2).fdiv 24)).fmod 4))), itemP 2 ((0 + 1)), itemP 4 (((((x2).fdiv 24)).fmod 4)), itemP 4 (((((x2).fdiv 6)).fmod 4)), itemP 4 (3), IntMulOk (s2) ((selI [.int (1) (k + 27), .int ((-1)) (k + 29), .int (2) (k + 30), .int ((-3)) (k + 32)] ((((x2).fdiv 6)).fmod 4))), itemP 2 (0), itemP 4 (((((x2).fdiv 24)).fmod 4)), itemP 4 (((((x2).fdiv 6)).fmod 4)), itemP 4 (2), IntMulOk (s1) ((selI [.int (1) (k + 9), .int ((-1)) (k + 11), .int (2) (k + 12), .int ((-3)) (k + 14)] ((((x2).fdiv 6)).fmod 4))), itemP 2 (0), itemP 4 (((((x2).fdiv 24)).fmod 4)), itemP 4 (((((x2).fdiv 6)).fmod 4)), itemP 4 (1)]) (by generalize b1 = b; revert b; exact kB (by kernel_rfl)) (by generalize b1 = b; revert b; exact kB (by kernel_rfl)) (by repeat' (first | exact trivial | exact mulW | exact itemP_mod _ 4 (by omega) (by omega) | (unfold itemP; omega) | apply And.intro)) fun g1 D1 => ?_
  have E1 := fun (A0 : Int) (g0 : selI [.int (1) (k + 9), .int ((-1)) (k + 11), .int (2) (k + 12), .int ((-3)) (k + 14)] ((((x2).fdiv 6)).fmod 4) = A0) (A1 : Int) (g1 : selI [.int (1) (k + 27), .int ((-1)) (k + 29), .int (2) (k + 30), .int ((-3)) (k + 32)] ((((x2).fdiv 6)).fmod 4) = A1) (A2 : Int) (g2 : selI [.int (1) (k + 48), .int ((-1)) (k + 50), .int (2) (k + 51), .int ((-3)) (k + 53)] ((((x2).fdiv 24)).fmod 4) = A2) => D1.to (T := kt (PX b1 b2 q)) (F := [(X0, lstO #[.int x1 u1, .int x2 u2, .int x3 u3] 3), ((N + 26), lstO #[.ref X2, .ref (N + 21)] 0), (X2, lstO #[.int 0 l0] e1), ((N + 21), lstO #[.int 1 l1, .int 2 l2, .int 3 l3] 0)]) (Z := snZ (PX b1 b2 q) S X0 (N + 26) c1 c2 c3 (some ⟨x2, 1, 1, 3, j.a1, j.a2, j.a3, j.a4, u2, v, (k + 43), l3⟩) (s0) ((s1 * A0)) ((s2 * A1)) ((s3 * A2)) t0 (k + 24) (k + 42) (k + 63) ce 2) (B := []) (nx := N + 27) (tk := Res.tkI (backI (VN (PX b1 b2 q) prog) 100000 0 [1,0,1,2,10,0,10,0,10,0,10,0,10,0,10,0,10,0,10,0,10,0,10,0,13,0,13,0,13,0,13,0,13,0,13,0,13,0,13,0,13,0,13,0,1,0,1,0,1,0,1,0,1,0,3,0,3,0,3,0,3,0,3,0,9,0,9,0,9,0,16,0,16,0,16,0,16,0,16,0,9,0,16,0,16,0,1,0,1,0,1,0,1,0,4,0,4,0,4,0,1004,1,1,3,19,0,19,1,19,0,19,0,19,0,19,0,22,0,22,0,22,0,1022,0,19,0,19,0,22,0,22,0,22,0,1022,0,1,0,25,0,25,0,25,0,1025,0,1,0,1,0,4,0,4,0,4,0,4,0,4,0,4,0,16,0,16,0,16,0,16,0,9,0,16,0,16,0,1,0,1,0,1,0,1,0,4,0,4,0,4,0,1004,1,1,3,28,0,28,1,28,0,28,0,28,0,28,0,31,0,31,0,31,0,1031,0,28,0,28,0,31,0,31,0,31,0,1031,0,1,0,34,0,34,0,34,0,1034,0,1,0,1,0,4,0,4,0,4,0,4,0,4,0,4,0,16,0,16,0,16,0,16,0,9,0,16,0,16,0,40,0,13,0,13,0,13,0,13,0,13,0,13,0,13,0,13,0,13,0,1,0,1,0,1,0,1,0,1,0,3,0,3,0,3,0,3,0,3,0,12,0,12,0,12,0,43,0,43,0,43,0,43,0,43,0,12,0,43,0,43,0,1,0,1,0,1,0,1,0,4,0,4,0,4,0,1004,1,1,3,46,0,46,1,46,0,46,0,46,0,46,0,49,0,49,0,49,0,1049,0,46,0,46,0,49,0,49,0,49,0,1049,0,1,0,52,0,52,0,52,0,1052,0,1,0,1,0,4,0,4,0,4,0,4,0,4,0,4,0,43,0,43,0,43,0,43,0,12,0,43,0,43,0,58,0,13,0,13,0,13,0,13,0,13,0,64,0,1,0,1,0,3,0,3,0,3,0,3,0,67,0,67,0,67,0,67,0,67,0,3,0,1,0,1,0,3,0,3,0,3,0,3,0,3,0,1,0,1,0,3,0,3,0,3,0,3,0,3,0,9,0,12,0,9,0,9,0,12,0,9,0,12,0,70,0,76,0,70,0,70,0,76,0,70,0,76,0,1,0,1,0,3,0,3,0,3,0,3,0,82,0,82,0,82,0,82,0,82,0,3,0,79,0,85,0,79,0,79,0,85,0,79,0,85,0,1,0,1,0] (.ok (.ret (.int 1 v))) (Res.κI (goI (VN (PX b1 b2 q) prog) 100000 0 [7,0,7,0,7,0,7,0,0,0,7,0,7,0,1,0,1,0,1,2,1,0,3,0,3,0,3,0] (snCode S) ⟨kt (PX b1 b2 q), [(X0, lstO #[.int x1 u1, .int x2 u2, .int x3 u3] 3), (X1, lstO #[.ref X2, .ref X3, .ref X4] e0), (X2, lstO #[.int 0 l0] e1), (X3, lstO #[.int 1 l1, .int 2 l2] e2), (X4, lstO #[.int 3 l3] e3)], snZ (PX b1 b2 q) S X0 X1 c1 c2 c3 (some j) s0 s1 s2 s3 t0 t1 t2 t3 ce 1, [], N, tk⟩)) (Mm.tkTo (Res.mI (goI (VN (PX b1 b2 q) prog) 100000 0 [7,0,7,0,7,0,7,0,0,0,7,0,7,0,1,0,1,0,1,2,1,0,3,0,3,0,3,0] (snCode S) ⟨kt (PX b1 b2 q), [(X0, lstO #[.int x1 u1, .int x2 u2, .int x3 u3] 3), (X1, lstO #[.ref X2, .ref X3, .ref X4] e0), (X2, lstO #[.int 0 l0] e1), (X3, lstO #[.int 1 l1, .int 2 l2] e2), (X4, lstO #[.int 3 l3] e3)], snZ (PX b1 b2 q) S X0 X1 c1 c2 c3 (some j) s0 s1 s2 s3 t0 t1 t2 t3 ce 1, [], N, tk⟩)) k))) [0,88,6,73] [0,1,2] (by subst g0 g1 g2; generalize b1 = b; revert b; exact kB (by kernel_rfl)) rfl
  exact H _ _ _ _ _ _ _ (E1 _ (selI_wA _) _ (selI_wA _) _ (selI_wB _))
theorem snT1_0_1_23__0 {nn : Nat} (L : Deep (nn + 20) A) (hw : w.params = PX b1 b2 q) {S N X0 X1 X2 X3 X4 e0 e1 e2 e3 l0 l1 l2 l3 c1 c2 c3 t0 t1 t2 t3 ce u1 u2 u3 : Nat} {x1 x2 x3 s0 s1 s2 s3 : Int} {j : SnJ} (hx : x2.fmod 2 = 0)
    (D : Rep h₀ ⟨kt (PX b1 b2 q), [(X0, lstO #[.int x1 u1, .int x2 u2, .int x3 u3] 3), (X1, lstO #[.ref X2, .ref X3, .ref X4] e0), (X2, lstO #[.int 0 l0] e1), (X3, lstO #[.int 1 l1] e2), (X4, lstO #[.int 2 l2, .int 3 l3] e3)], snZ (PX b1 b2 q) S X0 X1 c1 c2 c3 (some j) s0 s1 s2 s3 t0 t1 t2 t3 ce 1, [], N, tk⟩ h)
    (H : ∀ h' tk' (j : SnJ) (t0' t1' t2' t3' : Nat), Rep h₀ ⟨kt (PX b1 b2 q), [(X0, lstO #[.int x1 u1, .int x2 u2, .int x3 u3] 3), ((N + 23), lstO #[.ref (N + 18), .ref X4] 0), ((N + 18), lstO #[.int 0 l0, .int 1 l1] 0), (X4, lstO #[.int 2 l2, .int 3 l3] e3)], snZ (PX b1 b2 q) S X0 (N + 23) c1 c2 c3 (some j) (s0 * wA x2) (s1 * wB x2) s2 s3 t0' t1' t2' t3' ce 2, [], N + 24, tk'⟩ h' → codeAny (model prog w) A (snCode S) R ⟨h', g, d, tk', os⟩) :
    codeAny (model prog w) A (snCode S) R ⟨h, g, d, tk, os⟩ := by
  have hP : (VN (PX b1 b2 q) prog).P = ⟨prog, w.params⟩ := by rw [hw]; rfl
  refine start (V := VN (PX b1 b2 q) prog) L hP 100000 0 [7,0,7,0,7,0,7,0,0,0,7,0,7,0,1,0,1,0,1,2,1,0,3,0,3,0,3,0] D rfl ?_
  refine good_hole L (c := .call (.builtin "int.__mod__") ⟨[.int x2 u2, .int 2 (tk + 4)], []⟩) (pp := []) (by generalize b1 = b; revert b; exact kB (by kernel_rfl)) trivial fun g0 M0 D0 => ?_
  refine c_mod (by decide) fun v k => ?_
  rw [hx]
  refine back (V := VN (PX b1 b2 q) prog) L hP 100000 0 [1,0,1,2,10,0,10,0,10,0,10,0,10,0,10,0,10,0,10,0,10,0,10,0,13,0,13,0,13,0,13,0,13,0,13,0,13,0,13,0,13,0,13,0,1,0,1,0,1,0,1,0,1,0,3,0,3,0,3,0,3,0,3,0,6,0,6,0,6,0,16,0,16,0,16,0,16,0,16,0,6,0,16,0,16,0,1,0,1,0,1,0,1,0,4,0,4,0,4,0,1004,1,1,3,19,0,19,1,19,0,19,0,19,0,19,0,22,0,22,0,22,0,1022,0,19,0,19,0,22,0,22,0,22,0,1022,0,1,0,25,0,25,0,25,0,1025,0,1,0,1,0,4,0,4,0,4,0,4,0,4,0,4,0,16,0,16,0,16,0,16,0,6,0,16,0,16,0,31,0,13,0,13,0,13,0,13,0,13,0,13,0,13,0,13,0,13,0,1,0,1,0,1,0,1,0,1,0,3,0,3,0,3,0,3,0,3,0,9,0,9,0,9,0,34,0,34,0,34,0,34,0,34,0,9,0,34,0,34,0,1,0,1,0,1,0,1,0,4,0,4,0,4,0,1004,1,1,3,37,0,37,1,37,0,37,0,37,0,37,0,40,0,40,0,40,0,1040,0,37,0,37,0,40,0,40,0,40,0,1040,0,1,0,43,0,43,0,43,0,1043,0,1,0,1,0,4,0,4,0,4,0,4,0,4,0,4,0,34,0,34,0,34,0,34,0,9,0,34,0,34,0,49,0,13,0,13,0,13,0,13,0,13,0,55,0,1,0,1,0,3,0,3,0,3,0,3,0,58,0,58,0,58,0,58,0,58,0,3,0,1,0,1,0,3,0,3,0,3,0,3,0,3,0,1,0,1,0,3,0,3,0,3,0,3,0,3,0,6,0,9,0,6,0,6,0,9,0,6,0,9,0,61,0,67,0,61,0,61,0,67,0,61,0,67,0,1,0,1,0,3,0,3,0,3,0,3,0,73,0,73,0,73,0,73,0,73,0,3,0,70,0,76,0,70,0,70,0,76,0,70,0,76,0,1,0,1,0] D0 ?_
  refine good_tail L (c := snCode S) (pp := [IntMulOk (s1) ((selI [.int (1) (k + 30), .int ((-1)) (k + 32), .int (2) (k + 33), .int ((-3)) (k + 35)] ((((x2).fdiv 24)).fmod 4))), itemP 2 ((0 + 1)), itemP 4 (((((x2).fdiv 24)).fmod 4)), itemP 4 (((((x2).fdiv 6)).fmod 4)), itemP 4 (1), IntMulOk (s0) ((selI [.int (1) (k + 9), .int ((-1)) (k + 11), .int (2) (k + 12), .int ((-3)) (k + 14)] ((((x2).fdiv 6)).fmod 4))), itemP 2 (0), itemP 4 (((((x2).fdiv 24)).fmod 4)), itemP 4 (((((x2).fdiv 6)).fmod 4)), itemP 4 (0)]) (by generalize b1 = b; revert b; exact kB (by kernel_rfl)) (by generalize b1 = b; revert b; exact kB (by kernel_rfl)) (by repeat' (first | exact trivial | exact mulW | exact itemP_mod _ 4 (by omega) (by omega) | (unfold itemP; omega) | apply And.intro)) fun g1 D1 => ?_
  have E1 := fun (A0 : Int) (g0 : selI [.int (1) (k + 9), .int ((-1)) (k + 11), .int (2) (k + 12), .int ((-3)) (k + 14)] ((((x2).fdiv 6)).fmod 4) = A0) (A1 : Int) (g1 : selI [.int (1) (k + 30), .int ((-1)) (k + 32), .int (2) (k + 33), .int ((-3)) (k + 35)] ((((x2).fdiv 24)).fmod 4) = A1) => D1.to (T := kt (PX b1 b2 q)) (F := [(X0, lstO #[.int x1 u1, .int x2 u2, .int x3 u3] 3), ((N + 23), lstO #[.ref (N + 18), .ref X4] 0), ((N + 18), lstO #[.int 0 l0, .int 1 l1] 0), (X4, lstO #[.int 2 l2, .int 3 l3] e3)]) (Z := snZ (PX b1 b2 q) S X0 (N + 23) c1 c2 c3 (some ⟨x2, 0, 1, 1, j.a1, j.a2, j.a3, j.a4, u2, v, (k + 25), l1⟩) ((s0 * A0)) ((s1 * A1)) (s2) (s3) (k + 24) (k + 45) t2 t3 ce 2) (B := []) (nx := N + 24) (tk := Res.tkI (backI (VN (PX b1 b2 q) prog) 100000 0 [1,0,1,2,10,0,10,0,10,0,10,0,10,0,10,0,10,0,10,0,10,0,10,0,13,0,13,0,13,0,13,0,13,0,13,0,13,0,13,0,13,0,13,0,1,0,1,0,1,0,1,0,1,0,3,0,3,0,3,0,3,0,3,0,6,0,6,0,6,0,16,0,16,0,16,0,16,0,16,0,6,0,16,0,16,0,1,0,1,0,1,0,1,0,4,0,4,0,4,0,1004,1,1,3,19,0,19,1,19,0,19,0,19,0,19,0,22,0,22,0,22,0,1022,0,19,0,19,0,22,0,22,0,22,0,1022,0,1,0,25,0,25,0,25,0,1025,0,1,0,1,0,4,0,4,0,4,0,4,0,4,0,4,0,16,0,16,0,16,0,16,0,6,0,16,0,16,0,31,0,13,0,13,0,13,0,13,0,13,0,13,0,13,0,13,0,13,0,1,0,1,0,1,0,1,0,1,0,3,0,3,0,3,0,3,0,3,0,9,0,9,0,9,0,34,0,34,0,34,0,34,0,34,0,9,0,34,0,34,0,1,0,1,0,1,0,1,0,4,0,4,0,4,0,1004,1,1,3,37,0,37,1,37,0,37,0,37,0,37,0,40,0,40,0,40,0,1040,0,37,0,37,0,40,0,40,0,40,0,1040,0,1,0,43,0,43,0,43,0,1043,0,1,0,1,0,4,0,4,0,4,0,4,0,4,0,4,0,34,0,34,0,34,0,34,0,9,0,34,0,34,0,49,0,13,0,13,0,13,0,13,0,13,0,55,0,1,0,1,0,3,0,3,0,3,0,3,0,58,0,58,0,58,0,58,0,58,0,3,0,1,0,1,0,3,0,3,0,3,0,3,0,3,0,1,0,1,0,3,0,3,0,3,0,3,0,3,0,6,0,9,0,6,0,6,0,9,0,6,0,9,0,61,0,67,0,61,0,61,0,67,0,61,0,67,0,1,0,1,0,3,0,3,0,3,0,3,0,73,0,73,0,73,0,73,0,73,0,3,0,70,0,76,0,70,0,70,0,76,0,70,0,76,0,1,0,1,0] (.ok (.ret (.int 0 v))) (Res.κI (goI (VN (PX b1 b2 q) prog) 100000 0 [7,0,7,0,7,0,7,0,0,0,7,0,7,0,1,0,1,0,1,2,1,0,3,0,3,0,3,0] (snCode S) ⟨kt (PX b1 b2 q), [(X0, lstO #[.int x1 u1, .int x2 u2, .int x3 u3] 3), (X1, lstO #[.ref X2, .ref X3, .ref X4] e0), (X2, lstO #[.int 0 l0] e1), (X3, lstO #[.int 1 l1] e2), (X4, lstO #[.int 2 l2, .int 3 l3] e3)], snZ (PX b1 b2 q) S X0 X1 c1 c2 c3 (some j) s0 s1 s2 s3 t0 t1 t2 t3 ce 1, [], N, tk⟩)) (Mm.tkTo (Res.mI (goI (VN (PX b1 b2 q) prog) 100000 0 [7,0,7,0,7,0,7,0,0,0,7,0,7,0,1,0,1,0,1,2,1,0,3,0,3,0,3,0] (snCode S) ⟨kt (PX b1 b2 q), [(X0, lstO #[.int x1 u1, .int x2 u2, .int x3 u3] 3), (X1, lstO #[.ref X2, .ref X3, .ref X4] e0), (X2, lstO #[.int 0 l0] e1), (X3, lstO #[.int 1 l1] e2), (X4, lstO #[.int 2 l2, .int 3 l3] e3)], snZ (PX b1 b2 q) S X0 X1 c1 c2 c3 (some j) s0 s1 s2 s3 t0 t1 t2 t3 ce 1, [], N, tk⟩)) k))) [0,79,64,12] [0,1,2] (by subst g0 g1; generalize b1 = b; revert b; exact kB (by kernel_rfl)) rfl
  exact H _ _ _ _ _ _ _ (E1 _ (selI_wA _) _ (selI_wB _))
theorem snT1_0_1_23__1 {nn : Nat} (L : Deep (nn + 20) A) (hw : w.params = PX b1 b2 q) {S N X0 X1 X2 X3 X4 e0 e1 e2 e3 l0 l1 l2 l3 c1 c2 c3 t0 t1 t2 t3 ce u1 u2 u3 : Nat} {x1 x2 x3 s0 s1 s2 s3 : Int} {j : SnJ} (hx : x2.fmod 2 = 1)
    (D : Rep h₀ ⟨kt (PX b1 b2 q), [(X0, lstO #[.int x1 u1, .int x2 u2, .int x3 u3] 3), (X1, lstO #[.ref X2, .ref X3, .ref X4] e0), (X2, lstO #[.int 0 l0] e1), (X3, lstO #[.int 1 l1] e2), (X4, lstO #[.int 2 l2, .int 3 l3] e3)], snZ (PX b1 b2 q) S X0 X1 c1 c2 c3 (some j) s0 s1 s2 s3 t0 t1 t2 t3 ce 1, [], N, tk⟩ h)
    (H : ∀ h' tk' (j : SnJ) (t0' t1' t2' t3' : Nat), Rep h₀ ⟨kt (PX b1 b2 q), [(X0, lstO #[.int x1 u1, .int x2 u2, .int x3 u3] 3), ((N + 26), lstO #[.ref X2, .ref (N + 21)] 0), (X2, lstO #[.int 0 l0] e1), ((N + 21), lstO #[.int 1 l1, .int 2 l2, .int 3 l3] 0)], snZ (PX b1 b2 q) S X0 (N + 26) c1 c2 c3 (some j) s0 (s1 * wA x2) (s2 * wB x2) (s3 * wB x2) t0' t1' t2' t3' ce 2, [], N + 27, tk'⟩ h' → codeAny (model prog w) A (snCode S) R ⟨h', g, d, tk', os⟩) :
    codeAny (model prog w) A (snCode S) R ⟨h, g, d, tk, os⟩ := by
  have hP : (VN (PX b1 b2 q) prog).P = ⟨prog, w.params⟩ := by rw [hw]; rfl
  refine start (V := VN (PX b1 b2 q) prog) L hP 100000 0 [7,0,7,0,7,0,7,0,0,0,7,0,7,0,1,0,1,0,1,2,1,0,3,0,3,0,3,0] D rfl ?_
  refine good_hole L (c := .call (.builtin "int.__mod__") ⟨[.int x2 u2, .int 2 (tk + 4)], []⟩) (pp := []) (by generalize b1 = b; revert b; exact kB (by kernel_rfl)) trivial fun g0 M0 D0 => ?_
  refine c_mod (by decide) fun v k => ?_
  rw [hx]
  refine back (V := VN (PX b1 b2 q) prog) L hP 100000 0 [1,0,1,2,10,0,10,0,10,0,10,0,10,0,10,0,10,0,10,0,10,0,10,0,13,0,13,0,13,0,13,0,13,0,13,0,13,0,13,0,13,0,13,0,1,0,1,0,1,0,1,0,1,0,3,0,3,0,3,0,3,0,3,0,9,0,9,0,9,0,16,0,16,0,16,0,16,0,16,0,9,0,16,0,16,0,1,0,1,0,1,0,1,0,4,0,4,0,4,0,1004,1,1,3,19,0,19,1,19,0,19,0,19,0,19,0,22,0,22,0,22,0,1022,0,19,0,19,0,22,0,22,0,22,0,1022,0,1,0,25,0,25,0,25,0,1025,0,1,0,1,0,4,0,4,0,4,0,4,0,4,0,4,0,16,0,16,0,16,0,16,0,9,0,16,0,16,0,31,0,13,0,13,0,13,0,13,0,13,0,13,0,13,0,13,0,13,0,1,0,1,0,1,0,1,0,1,0,3,0,3,0,3,0,3,0,3,0,12,0,12,0,12,0,34,0,34,0,34,0,34,0,34,0,12,0,34,0,34,0,1,0,1,0,1,0,1,0,4,0,4,0,4,0,1004,1,1,3,37,0,37,1,37,0,37,0,37,0,37,0,40,0,40,0,40,0,1040,0,37,0,37,0,40,0,40,0,40,0,1040,0,1,0,43,0,43,0,43,0,1043,0,1,0,1,0,4,0,4,0,4,0,4,0,4,0,4,0,34,0,34,0,34,0,34,0,12,0,34,0,34,0,1,0,1,0,1,0,1,0,4,0,4,0,4,0,1004,1,1,3,46,0,46,1,46,0,46,0,46,0,46,0,49,0,49,0,49,0,1049,0,46,0,46,0,49,0,49,0,49,0,1049,0,1,0,52,0,52,0,52,0,1052,0,1,0,1,0,4,0,4,0,4,0,4,0,4,0,4,0,34,0,34,0,34,0,34,0,12,0,34,0,34,0,58,0,13,0,13,0,13,0,13,0,13,0,64,0,1,0,1,0,3,0,3,0,3,0,3,0,67,0,67,0,67,0,67,0,67,0,3,0,1,0,1,0,3,0,3,0,3,0,3,0,3,0,1,0,1,0,3,0,3,0,3,0,3,0,3,0,9,0,12,0,9,0,9,0,12,0,9,0,12,0,70,0,76,0,70,0,70,0,76,0,70,0,76,0,1,0,1,0,3,0,3,0,3,0,3,0,82,0,82,0,82,0,82,0,82,0,3,0,79,0,85,0,79,0,79,0,85,0,79,0,85,0,1,0,1,0] D0 ?_
  refine good_tail L (c := snCode S) (pp := [IntMulOk (s3) ((selI [.int (1) (k + 48), .int ((-1)) (k + 50), .int (2) (k + 51), .int ((-3)) (k + 53)] ((((x2).fdiv 24)).fmod 4))), itemP 2 ((0 + 1)), itemP 4 (((((x2).fdiv 24)).fmod 4)), itemP 4 (((((x2).fdiv 6)).fmod 4)), itemP 4 (3), IntMulOk (s2) ((selI [.int (1) (k + 30), .int ((-1)) (k + 32), .int (2) (k + 33), .int ((-3)) (k + 35)] ((((x2).fdiv 24)).fmod 4))), itemP 2 ((0 + 1)), itemP 4 (((((x2).fdiv 24)).fmod 4)), itemP 4 (((((x2).fdiv 6)).fmod 4)), itemP 4 (2), IntMulOk (s1) ((selI [.int (1) (k + 9), .int ((-1)) (k + 11), .int (2) (k + 12), .int ((-3)) (k + 14)] ((((x2).fdiv 6)).fmod 4))), itemP 2 (0), itemP 4 (((((x2).fdiv 24)).fmod 4)), itemP 4 (((((x2).fdiv 6)).fmod 4)), itemP 4 (1)]) (by generalize b1 = b; revert b; exact kB (by kernel_rfl)) (by generalize b1 = b; revert b; exact kB (by kernel_rfl)) (by repeat' (first | exact trivial | exact mulW | exact itemP_mod _ 4 (by omega) (by omega) | (unfold itemP; omega) | apply And.intro)) fun g1 D1 => ?_
  have E1 := fun (A0 : Int) (g0 : selI [.int (1) (k + 9), .int ((-1)) (k + 11), .int (2) (k + 12), .int ((-3)) (k + 14)] ((((x2).fdiv 6)).fmod 4) = A0) (A1 : Int) (g1 : selI [.int (1) (k + 30), .int ((-1)) (k + 32), .int (2) (k + 33), .int ((-3)) (k + 35)] ((((x2).fdiv 24)).fmod 4) = A1) (A2 : Int) (g2 : selI [.int (1) (k + 48), .int ((-1)) (k + 50), .int (2) (k + 51), .int ((-3)) (k + 53)] ((((x2).fdiv 24)).fmod 4) = A2) => D1.to (T := kt (PX b1 b2 q)) (F := [(X0, lstO #[.int x1 u1, .int x2 u2, .int x3 u3] 3), ((N + 26), lstO #[.ref X2, .ref (N + 21)] 0), (X2, lstO #[.int 0 l0] e1), ((N + 21), lstO #[.int 1 l1, .int 2 l2, .int 3 l3] 0)]) (Z := snZ (PX b1 b2 q) S X0 (N + 26) c1 c2 c3 (some ⟨x2, 1, 1, 3, j.a1, j.a2, j.a3, j.a4, u2, v, (k + 25), l3⟩) (s0) ((s1 * A0)) ((s2 * A1)) ((s3 * A2)) t0 (k + 24) (k + 45) (k + 63) ce 2) (B := []) (nx := N + 27) (tk := Res.tkI (backI (VN (PX b1 b2 q) prog) 100000 0 [1,0,1,2,10,0,10,0,10,0,10,0,10,0,10,0,10,0,10,0,10,0,10,0,13,0,13,0,13,0,13,0,13,0,13,0,13,0,13,0,13,0,13,0,1,0,1,0,1,0,1,0,1,0,3,0,3,0,3,0,3,0,3,0,9,0,9,0,9,0,16,0,16,0,16,0,16,0,16,0,9,0,16,0,16,0,1,0,1,0,1,0,1,0,4,0,4,0,4,0,1004,1,1,3,19,0,19,1,19,0,19,0,19,0,19,0,22,0,22,0,22,0,1022,0,19,0,19,0,22,0,22,0,22,0,1022,0,1,0,25,0,25,0,25,0,1025,0,1,0,1,0,4,0,4,0,4,0,4,0,4,0,4,0,16,0,16,0,16,0,16,0,9,0,16,0,16,0,31,0,13,0,13,0,13,0,13,0,13,0,13,0,13,0,13,0,13,0,1,0,1,0,1,0,1,0,1,0,3,0,3,0,3,0,3,0,3,0,12,0,12,0,12,0,34,0,34,0,34,0,34,0,34,0,12,0,34,0,34,0,1,0,1,0,1,0,1,0,4,0,4,0,4,0,1004,1,1,3,37,0,37,1,37,0,37,0,37,0,37,0,40,0,40,0,40,0,1040,0,37,0,37,0,40,0,40,0,40,0,1040,0,1,0,43,0,43,0,43,0,1043,0,1,0,1,0,4,0,4,0,4,0,4,0,4,0,4,0,34,0,34,0,34,0,34,0,12,0,34,0,34,0,1,0,1,0,1,0,1,0,4,0,4,0,4,0,1004,1,1,3,46,0,46,1,46,0,46,0,46,0,46,0,49,0,49,0,49,0,1049,0,46,0,46,0,49,0,49,0,49,0,1049,0,1,0,52,0,52,0,52,0,1052,0,1,0,1,0,4,0,4,0,4,0,4,0,4,0,4,0,34,0,34,0,34,0,34,0,12,0,34,0,34,0,58,0,13,0,13,0,13,0,13,0,13,0,64,0,1,0,1,0,3,0,3,0,3,0,3,0,67,0,67,0,67,0,67,0,67,0,3,0,1,0,1,0,3,0,3,0,3,0,3,0,3,0,1,0,1,0,3,0,3,0,3,0,3,0,3,0,9,0,12,0,9,0,9,0,12,0,9,0,12,0,70,0,76,0,70,0,70,0,76,0,70,0,76,0,1,0,1,0,3,0,3,0,3,0,3,0,82,0,82,0,82,0,82,0,82,0,3,0,79,0,85,0,79,0,79,0,85,0,79,0,85,0,1,0,1,0] (.ok (.ret (.int 1 v))) (Res.κI (goI (VN (PX b1 b2 q) prog) 100000 0 [7,0,7,0,7,0,7,0,0,0,7,0,7,0,1,0,1,0,1,2,1,0,3,0,3,0,3,0] (snCode S) ⟨kt (PX b1 b2 q), [(X0, lstO #[.int x1 u1, .int x2 u2, .int x3 u3] 3), (X1, lstO #[.ref X2, .ref X3, .ref X4] e0), (X2, lstO #[.int 0 l0] e1), (X3, lstO #[.int 1 l1] e2), (X4, lstO #[.int 2 l2, .int 3 l3] e3)], snZ (PX b1 b2 q) S X0 X1 c1 c2 c3 (some j) s0 s1 s2 s3 t0 t1 t2 t3 ce 1, [], N, tk⟩)) (Mm.tkTo (Res.mI (goI (VN (PX b1 b2 q) prog) 100000 0 [7,0,7,0,7,0,7,0,0,0,7,0,7,0,1,0,1,0,1,2,1,0,3,0,3,0,3,0] (snCode S) ⟨kt (PX b1 b2 q), [(X0, lstO #[.int x1 u1, .int x2 u2, .int x3 u3] 3), (X1, lstO #[.ref X2, .ref X3, .ref X4] e0), (X2, lstO #[.int 0 l0] e1), (X3, lstO #[.int 1 l1] e2), (X4, lstO #[.int 2 l2, .int 3 l3] e3)], snZ (PX b1 b2 q) S X0 X1 c1 c2 c3 (some j) s0 s1 s2 s3 t0 t1 t2 t3 ce 1, [], N, tk⟩)) k))) [0,88,6,73] [0,1,2] (by subst g0 g1 g2; generalize b1 = b; revert b; exact kB (by kernel_rfl)) rfl
  exact H _ _ _ _ _ _ _ (E1 _ (selI_wA _) _ (selI_wB _) _ (selI_wB _))
theorem snT2_012_3 {nn : Nat} (L : Deep (nn + 20) A) (hw : w.params = PX b1 b2 q) {S N X0 X1 X2 X3 e0 e1 e2 l0 l1 l2 l3 c1 c2 c3 t0 t1 t2 t3 ce u1 u2 u3 : Nat} {x1 x2 x3 s0 s1 s2 s3 : Int} {j : SnJ} (hx : x3.fmod 1 = 0)
    (D : Rep h₀ ⟨kt (PX b1 b2 q), [(X0, lstO #[.int x1 u1, .int x2 u2, .int x3 u3] 3), (X1, lstO #[.ref X2, .ref X3] e0), (X2, lstO #[.int 0 l0, .int 1 l1, .int 2 l2] e1), (X3, lstO #[.int 3 l3] e2)], snZ (PX b1 b2 q) S X0 X1 c1 c2 c3 (some j) s0 s1 s2 s3 t0 t1 t2 t3 ce 2, [], N, tk⟩ h)
    (H : ∀ h' tk' (j : SnJ) (t0' t1' t2' t3' : Nat), Rep h₀ ⟨kt (PX b1 b2 q), [(X0, lstO #[.int x1 u1, .int x2 u2, .int x3 u3] 3), ((N + 29), lstO #[.ref (N + 24)] 0), ((N + 24), lstO #[.int 0 l0, .int 1 l1, .int 2 l2, .int 3 l3] 0)], snZ (PX b1 b2 q) S X0 (N + 29) c1 c2 c3 (some j) (s0 * wA x3) (s1 * wA x3) (s2 * wA x3) (s3 * wB x3) t0' t1' t2' t3' ce 3, [], N + 30, tk'⟩ h' → codeAny (model prog w) A (snCode S) R ⟨h', g, d, tk', os⟩) :
    codeAny (model prog w) A (snCode S) R ⟨h, g, d, tk, os⟩ := by
  have hP : (VN (PX b1 b2 q) prog).P = ⟨prog, w.params⟩ := by rw [hw]; rfl
  refine start (V := VN (PX b1 b2 q) prog) L hP 100000 0 [7,0,7,0,7,0,7,0,0,0,7,0,7,0,1,0,1,0,1,2,1,0,3,0,3,0,3,0] D rfl ?_
  refine good_hole L (c := .call (.builtin "int.__mod__") ⟨[.int x3 u3, .int 1 (tk + 4)], []⟩) (pp := []) (by generalize b1 = b; revert b; exact kB (by kernel_rfl)) trivial fun g0 M0 D0 => ?_
  refine c_mod (by decide) fun v k => ?_
  rw [hx]
  refine back (V := VN (PX b1 b2 q) prog) L hP 100000 0 [1,0,1,2,10,0,10,0,10,0,10,0,10,0,10,0,10,0,10,0,10,0,10,0,13,0,13,0,13,0,13,0,13,0,13,0,13,0,13,0,13,0,13,0,1,0,1,0,1,0,1,0,1,0,3,0,3,0,3,0,3,0,3,0,6,0,6,0,6,0,16,0,16,0,16,0,16,0,16,0,6,0,16,0,16,0,1,0,1,0,1,0,1,0,4,0,4,0,4,0,1004,1,1,3,19,0,19,1,19,0,19,0,19,0,19,0,22,0,22,0,22,0,1022,0,19,0,19,0,22,0,22,0,22,0,1022,0,1,0,25,0,25,0,25,0,1025,0,1,0,1,0,4,0,4,0,4,0,4,0,4,0,4,0,16,0,16,0,16,0,16,0,6,0,16,0,16,0,1,0,1,0,1,0,1,0,4,0,4,0,4,0,1004,1,1,3,28,0,28,1,28,0,28,0,28,0,28,0,31,0,31,0,31,0,1031,0,28,0,28,0,31,0,31,0,31,0,1031,0,1,0,34,0,34,0,34,0,1034,0,1,0,1,0,4,0,4,0,4,0,4,0,4,0,4,0,16,0,16,0,16,0,16,0,6,0,16,0,16,0,1,0,1,0,1,0,1,0,4,0,4,0,4,0,1004,1,1,3,37,0,37,1,37,0,37,0,37,0,37,0,40,0,40,0,40,0,1040,0,37,0,37,0,40,0,40,0,40,0,1040,0,1,0,43,0,43,0,43,0,1043,0,1,0,1,0,4,0,4,0,4,0,4,0,4,0,4,0,16,0,16,0,16,0,16,0,6,0,16,0,16,0,49,0,13,0,13,0,13,0,13,0,13,0,13,0,13,0,13,0,13,0,1,0,1,0,1,0,1,0,1,0,3,0,3,0,3,0,3,0,3,0,9,0,9,0,9,0,52,0,52,0,52,0,52,0,52,0,9,0,52,0,52,0,1,0,1,0,1,0,1,0,4,0,4,0,4,0,1004,1,1,3,55,0,55,1,55,0,55,0,55,0,55,0,58,0,58,0,58,0,1058,0,55,0,55,0,58,0,58,0,58,0,1058,0,1,0,61,0,61,0,61,0,1061,0,1,0,1,0,4,0,4,0,4,0,4,0,4,0,4,0,52,0,52,0,52,0,52,0,9,0,52,0,52,0,67,0,13,0,13,0,13,0,13,0,13,0,73,0,1,0,1,0,3,0,3,0,3,0,3,0,76,0,76,0,76,0,76,0,76,0,3,0,1,0,1,0,3,0,3,0,3,0,3,0,3,0,1,0,1,0,3,0,3,0,3,0,3,0,3,0,6,0,9,0,6,0,6,0,9,0,6,0,9,0,79,0,85,0,79,0,79,0,85,0,79,0,85,0,1,0,1,0,3,0,3,0,3,0,3,0,91,0,91,0,91,0,91,0,91,0,3,0,88,0,94,0,88,0,88,0,94,0,88,0,94,0,1,0,1,0] D0 ?_
  refine good_tail L (c := snCode S) (pp := [IntMulOk (s3) ((selI [.int (1) (k + 66), .int ((-1)) (k + 68), .int (2) (k + 69), .int ((-3)) (k + 71)] ((((x3).fdiv 24)).fmod 4))), itemP 2 ((0 + 1)), itemP 4 (((((x3).fdiv 24)).fmod 4)), itemP 4 (((((x3).fdiv 6)).fmod 4)), itemP 4 (3), IntMulOk (s2) ((selI [.int (1) (k + 45), .int ((-1)) (k + 47), .int (2) (k + 48), .int ((-3)) (k + 50)] ((((x3).fdiv 6)).fmod 4))), itemP 2 (0), itemP 4 (((((x3).fdiv 24)).fmod 4)), itemP 4 (((((x3).fdiv 6)).fmod 4)), itemP 4 (2), IntMulOk (s1) ((selI [.int (1) (k + 27), .int ((-1)) (k + 29), .int (2) (k + 30), .int ((-3)) (k + 32)] ((((x3).fdiv 6)).fmod 4))), itemP 2 (0), itemP 4 (((((x3).fdiv 24)).fmod 4)), itemP 4 (((((x3).fdiv 6)).fmod 4)), itemP 4 (1), IntMulOk (s0) ((selI [.int (1) (k + 9), .int ((-1)) (k + 11), .int (2) (k + 12), .int ((-3)) (k + 14)] ((((x3).fdiv 6)).fmod 4))), itemP 2 (0), itemP 4 (((((x3).fdiv 24)).fmod 4)), itemP 4 (((((x3).fdiv 6)).fmod 4)), itemP 4 (0)]) (by generalize b1 = b; revert b; exact kB (by kernel_rfl)) (by generalize b1 = b; revert b; exact kB (by kernel_rfl)) (by repeat' (first | exact trivial | exact mulW | exact itemP_mod _ 4 (by omega) (by omega) | (unfold itemP; omega) | apply And.intro)) fun g1 D1 => ?_
  have E1 := fun (A0 : Int) (g0 : selI [.int (1) (k + 9), .int ((-1)) (k + 11), .int (2) (k + 12), .int ((-3)) (k + 14)] ((((x3).fdiv 6)).fmod 4) = A0) (A1 : Int) (g1 : selI [.int (1) (k + 27), .int ((-1)) (k + 29), .int (2) (k + 30), .int ((-3)) (k + 32)] ((((x3).fdiv 6)).fmod 4) = A1) (A2 : Int) (g2 : selI [.int (1) (k + 45), .int ((-1)) (k + 47), .int (2) (k + 48), .int ((-3)) (k + 50)] ((((x3).fdiv 6)).fmod 4) = A2) (A3 : Int) (g3 : selI [.int (1) (k + 66), .int ((-1)) (k + 68), .int (2) (k + 69), .int ((-3)) (k + 71)] ((((x3).fdiv 24)).fmod 4) = A3) => D1.to (T := kt (PX b1 b2 q)) (F := [(X0, lstO #[.int x1 u1, .int x2 u2, .int x3 u3] 3), ((N + 29), lstO #[.ref (N + 24)] 0), ((N + 24), lstO #[.int 0 l0, .int 1 l1, .int 2 l2, .int 3 l3] 0)]) (Z := snZ (PX b1 b2 q) S X0 (N + 29) c1 c2 c3 (some ⟨x3, 0, 1, 3, j.a1, j.a2, j.a3, j.a4, u3, v, (k + 61), l3⟩) ((s0 * A0)) ((s1 * A1)) ((s2 * A2)) ((s3 * A3)) (k + 24) (k + 42) (k + 60) (k + 81) ce 3) (B := []) (nx := N + 30) (tk := Res.tkI (backI (VN (PX b1 b2 q) prog) 100000 0 [1,0,1,2,10,0,10,0,10,0,10,0,10,0,10,0,10,0,10,0,10,0,10,0,13,0,13,0,13,0,13,0,13,0,13,0,13,0,13,0,13,0,13,0,1,0,1,0,1,0,1,0,1,0,3,0,3,0,3,0,3,0,3,0,6,0,6,0,6,0,16,0,16,0,16,0,16,0,16,0,6,0,16,0,16,0,1,0,1,0,1,0,1,0,4,0,4,0,4,0,1004,1,1,3,19,0,19,1,19,0,19,0,19,0,19,0,22,0,22,0,22,0,1022,0,19,0,19,0,22,0,22,0,22,0,1022,0,1,0,25,0,25,0,25,0,1025,0,1,0,1,0,4,0,4,0,4,0,4,0,4,0,4,0,16,0,16,0,16,0,16,0,6,0,16,0,16,0,1,0,1,0,1,0,1,0,4,0,4,0,4,0,1004,1,1,3,28,0,28,1,28,0,28,0,28,0,28,0,31,0,31,0,31,0,1031,0,28,0,28,0,31,0,31,0,31,0,1031,0,1,0,34,0,34,0,34,0,1034,0,1,0,1,0,4,0,4,0,4,0,4,0,4,0,4,0,16,0,16,0,16,0,16,0,6,0,16,0,16,0,1,0,1,0,1,0,1,0,4,0,4,0,4,0,1004,1,1,3,37,0,37,1,37,0,37,0,37,0,37,0,40,0,40,0,40,0,1040,0,37,0,37,0,40,0,40,0,40,0,1040,0,1,0,43,0,43,0,43,0,1043,0,1,0,1,0,4,0,4,0,4,0,4,0,4,0,4,0,16,0,16,0,16,0,16,0,6,0,16,0,16,0,49,0,13,0,13,0,13,0,13,0,13,0,13,0,13,0,13,0,13,0,1,0,1,0,1,0,1,0,1,0,3,0,3,0,3,0,3,0,3,0,9,0,9,0,9,0,52,0,52,0,52,0,52,0,52,0,9,0,52,0,52,0,1,0,1,0,1,0,1,0,4,0,4,0,4,0,1004,1,1,3,55,0,55,1,55,0,55,0,55,0,55,0,58,0,58,0,58,0,1058,0,55,0,55,0,58,0,58,0,58,0,1058,0,1,0,61,0,61,0,61,0,1061,0,1,0,1,0,4,0,4,0,4,0,4,0,4,0,4,0,52,0,52,0,52,0,52,0,9,0,52,0,52,0,67,0,13,0,13,0,13,0,13,0,13,0,73,0,1,0,1,0,3,0,3,0,3,0,3,0,76,0,76,0,76,0,76,0,76,0,3,0,1,0,1,0,3,0,3,0,3,0,3,0,3,0,1,0,1,0,3,0,3,0,3,0,3,0,3,0,6,0,9,0,6,0,6,0,9,0,6,0,9,0,79,0,85,0,79,0,79,0,85,0,79,0,85,0,1,0,1,0,3,0,3,0,3,0,3,0,91,0,91,0,91,0,91,0,91,0,3,0,88,0,94,0,88,0,88,0,94,0,88,0,94,0,1,0,1,0] (.ok (.ret (.int 0 v))) (Res.κI (goI (VN (PX b1 b2 q) prog) 100000 0 [7,0,7,0,7,0,7,0,0,0,7,0,7,0,1,0,1,0,1,2,1,0,3,0,3,0,3,0] (snCode S) ⟨kt (PX b1 b2 q), [(X0, lstO #[.int x1 u1, .int x2 u2, .int x3 u3] 3), (X1, lstO #[.ref X2, .ref X3] e0), (X2, lstO #[.int 0 l0, .int 1 l1, .int 2 l2] e1), (X3, lstO #[.int 3 l3] e2)], snZ (PX b1 b2 q) S X0 X1 c1 c2 c3 (some j) s0 s1 s2 s3 t0 t1 t2 t3 ce 2, [], N, tk⟩)) (Mm.tkTo (Res.mI (goI (VN (PX b1 b2 q) prog) 100000 0 [7,0,7,0,7,0,7,0,0,0,7,0,7,0,1,0,1,0,1,2,1,0,3,0,3,0,3,0] (snCode S) ⟨kt (PX b1 b2 q), [(X0, lstO #[.int x1 u1, .int x2 u2, .int x3 u3] 3), (X1, lstO #[.ref X2, .ref X3] e0), (X2, lstO #[.int 0 l0, .int 1 l1, .int 2 l2] e1), (X3, lstO #[.int 3 l3] e2)], snZ (PX b1 b2 q) S X0 X1 c1 c2 c3 (some j) s0 s1 s2 s3 t0 t1 t2 t3 ce 2, [], N, tk⟩)) k))) [0,97,82] [0,1,2] (by subst g0 g1 g2 g3; generalize b1 = b; revert b; exact kB (by kernel_rfl)) rfl
  exact H _ _ _ _ _ _ _ (E1 _ (selI_wA _) _ (selI_wA _) _ (selI_wA _) _ (selI_wB _))
theorem snT2_01_23 {nn : Nat} (L : Deep (nn + 20) A) (hw : w.params = PX b1 b2 q) {S N X0 X1 X2 X3 e0 e1 e2 l0 l1 l2 l3 c1 c2 c3 t0 t1 t2 t3 ce u1 u2 u3 : Nat} {x1 x2 x3 s0 s1 s2 s3 : Int} {j : SnJ} (hx : x3.fmod 1 = 0)
    (D : Rep h₀ ⟨kt (PX b1 b2 q), [(X0, lstO #[.int x1 u1, .int x2 u2, .int x3 u3] 3), (X1, lstO #[.ref X2, .ref X3] e0), (X2, lstO #[.int 0 l0, .int 1 l1] e1), (X3, lstO #[.int 2 l2, .int 3 l3] e2)], snZ (PX b1 b2 q) S X0 X1 c1 c2 c3 (some j) s0 s1 s2 s3 t0 t1 t2 t3 ce 2, [], N, tk⟩ h)
    (H : ∀ h' tk' (j : SnJ) (t0' t1' t2' t3' : Nat), Rep h₀ ⟨kt (PX b1 b2 q), [(X0, lstO #[.int x1 u1, .int x2 u2, .int x3 u3] 3), ((N + 29), lstO #[.ref (N + 24)] 0), ((N + 24), lstO #[.int 0 l0, .int 1 l1, .int 2 l2, .int 3 l3] 0)], snZ (PX b1 b2 q) S X0 (N + 29) c1 c2 c3 (some j) (s0 * wA x3) (s1 * wA x3) (s2 * wB x3) (s3 * wB x3) t0' t1' t2' t3' ce 3, [], N + 30, tk'⟩ h' → codeAny (model prog w) A (snCode S) R ⟨h', g, d, tk', os⟩) :
    codeAny (model prog w) A (snCode S) R ⟨h, g, d, tk, os⟩ := by
  have hP : (VN (PX b1 b2 q) prog).P = ⟨prog, w.params⟩ := by rw [hw]; rfl
  refine start (V := VN (PX b1 b2 q) prog) L hP 100000 0 [7,0,7,0,7,0,7,0,0,0,7,0,7,0,1,0,1,0,1,2,1,0,3,0,3,0,3,0] D rfl ?_
  refine good_hole L (c := .call (.builtin "int.__mod__") ⟨[.int x3 u3, .int 1 (tk + 4)], []⟩) (pp := []) (by generalize b1 = b; revert b; exact kB (by kernel_rfl)) trivial fun g0 M0 D0 => ?_
  refine c_mod (by decide) fun v k => ?_
  rw [hx]
  refine back (V := VN (PX b1 b2 q) prog) L hP 100000 0 [1,0,1,2,10,0,10,0,10,0,10,0,10,0,10,0,10,0,10,0,10,0,10,0,13,0,13,0,13,0,13,0,13,0,13,0,13,0,13,0,13,0,13,0,1,0,1,0,1,0,1,0,1,0,3,0,3,0,3,0,3,0,3,0,6,0,6,0,6,0,16,0,16,0,16,0,16,0,16,0,6,0,16,0,16,0,1,0,1,0,1,0,1,0,4,0,4,0,4,0,1004,1,1,3,19,0,19,1,19,0,19,0,19,0,19,0,22,0,22,0,22,0,1022,0,19,0,19,0,22,0,22,0,22,0,1022,0,1,0,25,0,25,0,25,0,1025,0,1,0,1,0,4,0,4,0,4,0,4,0,4,0,4,0,16,0,16,0,16,0,16,0,6,0,16,0,16,0,1,0,1,0,1,0,1,0,4,0,4,0,4,0,1004,1,1,3,28,0,28,1,28,0,28,0,28,0,28,0,31,0,31,0,31,0,1031,0,28,0,28,0,31,0,31,0,31,0,1031,0,1,0,34,0,34,0,34,0,1034,0,1,0,1,0,4,0,4,0,4,0,4,0,4,0,4,0,16,0,16,0,16,0,16,0,6,0,16,0,16,0,40,0,13,0,13,0,13,0,13,0,13,0,13,0,13,0,13,0,13,0,1,0,1,0,1,0,1,0,1,0,3,0,3,0,3,0,3,0,3,0,9,0,9,0,9,0,43,0,43,0,43,0,43,0,43,0,9,0,43,0,43,0,1,0,1,0,1,0,1,0,4,0,4,0,4,0,1004,1,1,3,46,0,46,1,46,0,46,0,46,0,46,0,49,0,49,0,49,0,1049,0,46,0,46,0,49,0,49,0,49,0,1049,0,1,0,52,0,52,0,52,0,1052,0,1,0,1,0,4,0,4,0,4,0,4,0,4,0,4,0,43,0,43,0,43,0,43,0,9,0,43,0,43,0,1,0,1,0,1,0,1,0,4,0,4,0,4,0,1004,1,1,3,55,0,55,1,55,0,55,0,55,0,55,0,58,0,58,0,58,0,1058,0,55,0,55,0,58,0,58,0,58,0,1058,0,1,0,61,0,61,0,61,0,1061,0,1,0,1,0,4,0,4,0,4,0,4,0,4,0,4,0,43,0,43,0,43,0,43,0,9,0,43,0,43,0,67,0,13,0,13,0,13,0,13,0,13,0,73,0,1,0,1,0,3,0,3,0,3,0,3,0,76,0,76,0,76,0,76,0,76,0,3,0,1,0,1,0,3,0,3,0,3,0,3,0,3,0,1,0,1,0,3,0,3,0,3,0,3,0,3,0,6,0,9,0,6,0,6,0,9,0,6,0,9,0,79,0,85,0,79,0,79,0,85,0,79,0,85,0,1,0,1,0,3,0,3,0,3,0,3,0,91,0,91,0,91,0,91,0,91,0,3,0,88,0,94,0,88,0,88,0,94,0,88,0,94,0,1,0,1,0] D0 ?_
  refine good_tail L (c := snCode S) (pp := [IntMulOk (s3) ((selI [.int (1) (k + 66), .int ((-1)) (k + 68), .int (2) (k + 69), .int ((-3)) (k + 71)] ((((x3).fdiv 24)).fmod 4))), itemP 2 ((0 + 1)), itemP 4 (((((x3).fdiv 24)).fmod 4)), itemP 4 (((((x3).fdiv 6)).fmod 4)), itemP 4 (3), IntMulOk (s2) ((selI [.int (1) (k + 48), .int ((-1)) (k + 50), .int (2) (k + 51), .int ((-3)) (k + 53)] ((((x3).fdiv 24)).fmod 4))), itemP 2 ((0 + 1)), itemP 4 (((((x3).fdiv 24)).fmod 4)), itemP 4 (((((x3).fdiv 6)).fmod 4)), itemP 4 (2), IntMulOk (s1) ((selI [.int (1) (k + 27), .int ((-1)) (k + 29), .int (2) (k + 30), .int ((-3)) (k + 32)] ((((x3).fdiv 6)).fmod 4))), itemP 2 (0), itemP 4 (((((x3).fdiv 24)).fmod 4)), itemP 4 (((((x3).fdiv 6)).fmod 4)), itemP 4 (1), IntMulOk (s0) ((selI [.int (1) (k + 9), .int ((-1)) (k + 11), .int (2) (k + 12), .int ((-3)) (k + 14)] ((((x3).fdiv 6)).fmod 4))), itemP 2 (0), itemP 4 (((((x3).fdiv 24)).fmod 4)), itemP 4 (((((x3).fdiv 6)).fmod 4)), itemP 4 (0)]) (by generalize b1 = b; revert b; exact kB (by kernel_rfl)) (by generalize b1 = b; revert b; exact kB (by kernel_rfl)) (by repeat' (first | exact trivial | exact mulW | exact itemP_mod _ 4 (by omega) (by omega) | (unfold itemP; omega) | apply And.intro)) fun g1 D1 => ?_
  have E1 := fun (A0 : Int) (g0 : selI [.int (1) (k + 9), .int ((-1)) (k + 11), .int (2) (k + 12), .int ((-3)) (k + 14)] ((((x3).fdiv 6)).fmod 4) = A0) (A1 : Int) (g1 : selI [.int (1) (k + 27), .int ((-1)) (k + 29), .int (2) (k + 30), .int ((-3)) (k + 32)] ((((x3).fdiv 6)).fmod 4) = A1) (A2 : Int) (g2 : selI [.int (1) (k + 48), .int ((-1)) (k + 50), .int (2) (k + 51), .int ((-3)) (k + 53)] ((((x3).fdiv 24)).fmod 4) = A2) (A3 : Int) (g3 : selI [.int (1) (k + 66), .int ((-1)) (k + 68), .int (2) (k + 69), .int ((-3)) (k + 71)] ((((x3).fdiv 24)).fmod 4) = A3) => D1.to (T := kt (PX b1 b2 q)) (F := [(X0, lstO #[.int x1 u1, .int x2 u2, .int x3 u3] 3), ((N + 29), lstO #[.ref (N + 24)] 0), ((N + 24), lstO #[.int 0 l0, .int 1 l1, .int 2 l2, .int 3 l3] 0)]) (Z := snZ (PX b1 b2 q) S X0 (N + 29) c1 c2 c3 (some ⟨x3, 0, 1, 3, j.a1, j.a2, j.a3, j.a4, u3, v, (k + 43), l3⟩) ((s0 * A0)) ((s1 * A1)) ((s2 * A2)) ((s3 * A3)) (k + 24) (k + 42) (k + 63) (k + 81) ce 3) (B := []) (nx := N + 30) (tk := Res.tkI (backI (VN (PX b1 b2 q) prog) 100000 0 [1,0,1,2,10,0,10,0,10,0,10,0,10,0,10,0,10,0,10,0,10,0,10,0,13,0,13,0,13,0,13,0,13,0,13,0,13,0,13,0,13,0,13,0,1,0,1,0,1,0,1,0,1,0,3,0,3,0,3,0,3,0,3,0,6,0,6,0,6,0,16,0,16,0,16,0,16,0,16,0,6,0,16,0,16,0,1,0,1,0,1,0,1,0,4,0,4,0,4,0,1004,1,1,3,19,0,19,1,19,0,19,0,19,0,19,0,22,0,22,0,22,0,1022,0,19,0,19,0,22,0,22,0,22,0,1022,0,1,0,25,0,25,0,25,0,1025,0,1,0,1,0,4,0,4,0,4,0,4,0,4,0,4,0,16,0,16,0,16,0,16,0,6,0,16,0,16,0,1,0,1,0,1,0,1,0,4,0,4,0,4,0,1004,1,1,3,28,0,28,1,28,0,28,0,28,0,28,0,31,0,31,0,31,0,1031,0,28,0,28,0,31,0,31,0,31,0,1031,0,1,0,34,0,34,0,34,0,1034,0,1,0,1,0,4,0,4,0,4,0,4,0,4,0,4,0,16,0,16,0,16,0,16,0,6,0,16,0,16,0,40,0,13,0,13,0,13,0,13,0,13,0,13,0,13,0,13,0,13,0,1,0,1,0,1,0,1,0,1,0,3,0,3,0,3,0,3,0,3,0,9,0,9,0,9,0,43,0,43,0,43,0,43,0,43,0,9,0,43,0,43,0,1,0,1,0,1,0,1,0,4,0,4,0,4,0,1004,1,1,3,46,0,46,1,46,0,46,0,46,0,46,0,49,0,49,0,49,0,1049,0,46,0,46,0,49,0,49,0,49,0,1049,0,1,0,52,0,52,0,52,0,1052,0,1,0,1,0,4,0,4,0,4,0,4,0,4,0,4,0,43,0,43,0,43,0,43,0,9,0,43,0,43,0,1,0,1,0,1,0,1,0,4,0,4,0,4,0,1004,1,1,3,55,0,55,1,55,0,55,0,55,0,55,0,58,0,58,0,58,0,1058,0,55,0,55,0,58,0,58,0,58,0,1058,0,1,0,61,0,61,0,61,0,1061,0,1,0,1,0,4,0,4,0,4,0,4,0,4,0,4,0,43,0,43,0,43,0,43,0,9,0,43,0,43,0,67,0,13,0,13,0,13,0,13,0,13,0,73,0,1,0,1,0,3,0,3,0,3,0,3,0,76,0,76,0,76,0,76,0,76,0,3,0,1,0,1,0,3,0,3,0,3,0,3,0,3,0,1,0,1,0,3,0,3,0,3,0,3,0,3,0,6,0,9,0,6,0,6,0,9,0,6,0,9,0,79,0,85,0,79,0,79,0,85,0,79,0,85,0,1,0,1,0,3,0,3,0,3,0,3,0,91,0,91,0,91,0,91,0,91,0,3,0,88,0,94,0,88,0,88,0,94,0,88,0,94,0,1,0,1,0] (.ok (.ret (.int 0 v))) (Res.κI (goI (VN (PX b1 b2 q) prog) 100000 0 [7,0,7,0,7,0,7,0,0,0,7,0,7,0,1,0,1,0,1,2,1,0,3,0,3,0,3,0] (snCode S) ⟨kt (PX b1 b2 q), [(X0, lstO #[.int x1 u1, .int x2 u2, .int x3 u3] 3), (X1, lstO #[.ref X2, .ref X3] e0), (X2, lstO #[.int 0 l0, .int 1 l1] e1), (X3, lstO #[.int 2 l2, .int 3 l3] e2)], snZ (PX b1 b2 q) S X0 X1 c1 c2 c3 (some j) s0 s1 s2 s3 t0 t1 t2 t3 ce 2, [], N, tk⟩)) (Mm.tkTo (Res.mI (goI (VN (PX b1 b2 q) prog) 100000 0 [7,0,7,0,7,0,7,0,0,0,7,0,7,0,1,0,1,0,1,2,1,0,3,0,3,0,3,0] (snCode S) ⟨kt (PX b1 b2 q), [(X0, lstO #[.int x1 u1, .int x2 u2, .int x3 u3] 3), (X1, lstO #[.ref X2, .ref X3] e0), (X2, lstO #[.int 0 l0, .int 1 l1] e1), (X3, lstO #[.int 2 l2, .int 3 l3] e2)], snZ (PX b1 b2 q) S X0 X1 c1 c2 c3 (some j) s0 s1 s2 s3 t0 t1 t2 t3 ce 2, [], N, tk⟩)) k))) [0,97,82] [0,1,2] (by subst g0 g1 g2 g3; generalize b1 = b; revert b; exact kB (by kernel_rfl)) rfl
  exact H _ _ _ _ _ _ _ (E1 _ (selI_wA _) _ (selI_wA _) _ (selI_wB _) _ (selI_wB _))
theorem snT2_0_123 {nn : Nat} (L : Deep (nn + 20) A) (hw : w.params = PX b1 b2 q) {S N X0 X1 X2 X3 e0 e1 e2 l0 l1 l2 l3 c1 c2 c3 t0 t1 t2 t3 ce u1 u2 u3 : Nat} {x1 x2 x3 s0 s1 s2 s3 : Int} {j : SnJ} (hx : x3.fmod 1 = 0)
    (D : Rep h₀ ⟨kt (PX b1 b2 q), [(X0, lstO #[.int x1 u1, .int x2 u2, .int x3 u3] 3), (X1, lstO #[.ref X2, .ref X3] e0), (X2, lstO #[.int 0 l0] e1), (X3, lstO #[.int 1 l1, .int 2 l2, .int 3 l3] e2)], snZ (PX b1 b2 q) S X0 X1 c1 c2 c3 (some j) s0 s1 s2 s3 t0 t1 t2 t3 ce 2, [], N, tk⟩ h)
    (H : ∀ h' tk' (j : SnJ) (t0' t1' t2' t3' : Nat), Rep h₀ ⟨kt (PX b1 b2 q), [(X0, lstO #[.int x1 u1, .int x2 u2, .int x3 u3] 3), ((N + 29), lstO #[.ref (N + 24)] 0), ((N + 24), lstO #[.int 0 l0, .int 1 l1, .int 2 l2, .int 3 l3] 0)], snZ (PX b1 b2 q) S X0 (N + 29) c1 c2 c3 (some j) (s0 * wA x3) (s1 * wB x3) (s2 * wB x3) (s3 * wB x3) t0' t1' t2' t3' ce 3, [], N + 30, tk'⟩ h' → codeAny (model prog w) A (snCode S) R ⟨h', g, d, tk', os⟩) :
    codeAny (model prog w) A (snCode S) R ⟨h, g, d, tk, os⟩ := by
  have hP : (VN (PX b1 b2 q) prog).P = ⟨prog, w.params⟩ := by rw [hw]; rfl
  refine start (V := VN (PX b1 b2 q) prog) L hP 100000 0 [7,0,7,0,7,0,7,0,0,0,7,0,7,0,1,0,1,0,1,2,1,0,3,0,3,0,3,0] D rfl ?_
  refine good_hole L (c := .call (.builtin "int.__mod__") ⟨[.int x3 u3, .int 1 (tk + 4)], []⟩) (pp := []) (by generalize b1 = b; revert b; exact kB (by kernel_rfl)) trivial fun g0 M0 D0 => ?_
  refine c_mod (by decide) fun v k => ?_
  rw [hx]
  refine back (V := VN (PX b1 b2 q) prog) L hP 100000 0 [1,0,1,2,10,0,10,0,10,0,10,0,10,0,10,0,10,0,10,0,10,0,10,0,13,0,13,0,13,0,13,0,13,0,13,0,13,0,13,0,13,0,13,0,1,0,1,0,1,0,1,0,1,0,3,0,3,0,3,0,3,0,3,0,6,0,6,0,6,0,16,0,16,0,16,0,16,0,16,0,6,0,16,0,16,0,1,0,1,0,1,0,1,0,4,0,4,0,4,0,1004,1,1,3,19,0,19,1,19,0,19,0,19,0,19,0,22,0,22,0,22,0,1022,0,19,0,19,0,22,0,22,0,22,0,1022,0,1,0,25,0,25,0,25,0,1025,0,1,0,1,0,4,0,4,0,4,0,4,0,4,0,4,0,16,0,16,0,16,0,16,0,6,0,16,0,16,0,31,0,13,0,13,0,13,0,13,0,13,0,13,0,13,0,13,0,13,0,1,0,1,0,1,0,1,0,1,0,3,0,3,0,3,0,3,0,3,0,9,0,9,0,9,0,34,0,34,0,34,0,34,0,34,0,9,0,34,0,34,0,1,0,1,0,1,0,1,0,4,0,4,0,4,0,1004,1,1,3,37,0,37,1,37,0,37,0,37,0,37,0,40,0,40,0,40,0,1040,0,37,0,37,0,40,0,40,0,40,0,1040,0,1,0,43,0,43,0,43,0,1043,0,1,0,1,0,4,0,4,0,4,0,4,0,4,0,4,0,34,0,34,0,34,0,34,0,9,0,34,0,34,0,1,0,1,0,1,0,1,0,4,0,4,0,4,0,1004,1,1,3,46,0,46,1,46,0,46,0,46,0,46,0,49,0,49,0,49,0,1049,0,46,0,46,0,49,0,49,0,49,0,1049,0,1,0,52,0,52,0,52,0,1052,0,1,0,1,0,4,0,4,0,4,0,4,0,4,0,4,0,34,0,34,0,34,0,34,0,9,0,34,0,34,0,1,0,1,0,1,0,1,0,4,0,4,0,4,0,1004,1,1,3,55,0,55,1,55,0,55,0,55,0,55,0,58,0,58,0,58,0,1058,0,55,0,55,0,58,0,58,0,58,0,1058,0,1,0,61,0,61,0,61,0,1061,0,1,0,1,0,4,0,4,0,4,0,4,0,4,0,4,0,34,0,34,0,34,0,34,0,9,0,34,0,34,0,67,0,13,0,13,0,13,0,13,0,13,0,73,0,1,0,1,0,3,0,3,0,3,0,3,0,76,0,76,0,76,0,76,0,76,0,3,0,1,0,1,0,3,0,3,0,3,0,3,0,3,0,1,0,1,0,3,0,3,0,3,0,3,0,3,0,6,0,9,0,6,0,6,0,9,0,6,0,9,0,79,0,85,0,79,0,79,0,85,0,79,0,85,0,1,0,1,0,3,0,3,0,3,0,3,0,91,0,91,0,91,0,91,0,91,0,3,0,88,0,94,0,88,0,88,0,94,0,88,0,94,0,1,0,1,0] D0 ?_
  refine good_tail L (c := snCode S) (pp := [IntMulOk (s3) ((selI [.int (1) (k + 66), .int ((-1)) (k + 68), .int (2) (k + 69), .int ((-3)) (k + 71)] ((((x3).fdiv 24)).fmod 4))), itemP 2 ((0 + 1)), itemP 4 (((((x3).fdiv 24)).fmod 4)), itemP 4 (((((x3).fdiv 6)).fmod 4)), itemP 4 (3), IntMulOk (s2) ((selI [.int (1) (k + 48), .int ((-1)) (k + 50), .int (2) (k + 51), .int ((-3)) (k + 53)] ((((x3).fdiv 24)).fmod 4))), itemP 2 ((0 + 1)), itemP 4 (((((x3).fdiv 24)).fmod 4)), itemP 4 (((((x3).fdiv 6)).fmod 4)), itemP 4 (2), IntMulOk (s1) ((selI [.int (1) (k + 30), .int ((-1)) (k + 32), .int (2) (k + 33), .int ((-3)) (k + 35)] ((((x3).fdiv 24)).fmod 4))), itemP 2 ((0 + 1)), itemP 4 (((((x3).fdiv 24)).fmod 4)), itemP 4 (((((x3).fdiv 6)).fmod 4)), itemP 4 (1), IntMulOk (s0) ((selI [.int (1) (k + 9), .int ((-1)) (k + 11), .int (2) (k + 12), .int ((-3)) (k + 14)] ((((x3).fdiv 6)).fmod 4))), itemP 2 (0), itemP 4 (((((x3).fdiv 24)).fmod 4)), itemP 4 (((((x3).fdiv 6)).fmod 4)), itemP 4 (0)]) (by generalize b1 = b; revert b; exact kB (by kernel_rfl)) (by generalize b1 = b; revert b; exact kB (by kernel_rfl)) (by repeat' (first | exact trivial | exact mulW | exact itemP_mod _ 4 (by omega) (by omega) | (unfold itemP; omega) | apply And.intro)) fun g1 D1 => ?_
  have E1 := fun (A0 : Int) (g0 : selI [.int (1) (k + 9), .int ((-1)) (k + 11), .int (2) (k + 12), .int ((-3)) (k + 14)] ((((x3).fdiv 6)).fmod 4) = A0) (A1 : Int) (g1 : selI [.int (1) (k + 30), .int ((-1)) (k + 32), .int (2) (k + 33), .int ((-3)) (k + 35)] ((((x3).fdiv 24)).fmod 4) = A1) (A2 : Int) (g2 : selI [.int (1) (k + 48), .int ((-1)) (k + 50), .int (2) (k + 51), .int ((-3)) (k + 53)] ((((x3).fdiv 24)).fmod 4) = A2) (A3 : Int) (g3 : selI [.int (1) (k + 66), .int ((-1)) (k + 68), .int (2) (k + 69), .int ((-3)) (k + 71)] ((((x3).fdiv 24)).fmod 4) = A3) => D1.to (T := kt (PX b1 b2 q)) (F := [(X0, lstO #[.int x1 u1, .int x2 u2, .int x3 u3] 3), ((N + 29), lstO #[.ref (N + 24)] 0), ((N + 24), lstO #[.int 0 l0, .int 1 l1, .int 2 l2, .int 3 l3] 0)]) (Z := snZ (PX b1 b2 q) S X0 (N + 29) c1 c2 c3 (some ⟨x3, 0, 1, 3, j.a1, j.a2, j.a3, j.a4, u3, v, (k + 25), l3⟩) ((s0 * A0)) ((s1 * A1)) ((s2 * A2)) ((s3 * A3)) (k + 24) (k + 45) (k + 63) (k + 81) ce 3) (B := []) (nx := N + 30) (tk := Res.tkI (backI (VN (PX b1 b2 q) prog) 100000 0 [1,0,1,2,10,0,10,0,10,0,10,0,10,0,10,0,10,0,10,0,10,0,10,0,13,0,13,0,13,0,13,0,13,0,13,0,13,0,13,0,13,0,13,0,1,0,1,0,1,0,1,0,1,0,3,0,3,0,3,0,3,0,3,0,6,0,6,0,6,0,16,0,16,0,16,0,16,0,16,0,6,0,16,0,16,0,1,0,1,0,1,0,1,0,4,0,4,0,4,0,1004,1,1,3,19,0,19,1,19,0,19,0,19,0,19,0,22,0,22,0,22,0,1022,0,19,0,19,0,22,0,22,0,22,0,1022,0,1,0,25,0,25,0,25,0,1025,0,1,0,1,0,4,0,4,0,4,0,4,0,4,0,4,0,16,0,16,0,16,0,16,0,6,0,16,0,16,0,31,0,13,0,13,0,13,0,13,0,13,0,13,0,13,0,13,0,13,0,1,0,1,0,1,0,1,0,1,0,3,0,3,0,3,0,3,0,3,0,9,0,9,0,9,0,34,0,34,0,34,0,34,0,34,0,9,0,34,0,34,0,1,0,1,0,1,0,1,0,4,0,4,0,4,0,1004,1,1,3,37,0,37,1,37,0,37,0,37,0,37,0,40,0,40,0,40,0,1040,0,37,0,37,0,40,0,40,0,40,0,1040,0,1,0,43,0,43,0,43,0,1043,0,1,0,1,0,4,0,4,0,4,0,4,0,4,0,4,0,34,0,34,0,34,0,34,0,9,0,34,0,34,0,1,0,1,0,1,0,1,0,4,0,4,0,4,0,1004,1,1,3,46,0,46,1,46,0,46,0,46,0,46,0,49,0,49,0,49,0,1049,0,46,0,46,0,49,0,49,0,49,0,1049,0,1,0,52,0,52,0,52,0,1052,0,1,0,1,0,4,0,4,0,4,0,4,0,4,0,4,0,34,0,34,0,34,0,34,0,9,0,34,0,34,0,1,0,1,0,1,0,1,0,4,0,4,0,4,0,1004,1,1,3,55,0,55,1,55,0,55,0,55,0,55,0,58,0,58,0,58,0,1058,0,55,0,55,0,58,0,58,0,58,0,1058,0,1,0,61,0,61,0,61,0,1061,0,1,0,1,0,4,0,4,0,4,0,4,0,4,0,4,0,34,0,34,0,34,0,34,0,9,0,34,0,34,0,67,0,13,0,13,0,13,0,13,0,13,0,73,0,1,0,1,0,3,0,3,0,3,0,3,0,76,0,76,0,76,0,76,0,76,0,3,0,1,0,1,0,3,0,3,0,3,0,3,0,3,0,1,0,1,0,3,0,3,0,3,0,3,0,3,0,6,0,9,0,6,0,6,0,9,0,6,0,9,0,79,0,85,0,79,0,79,0,85,0,79,0,85,0,1,0,1,0,3,0,3,0,3,0,3,0,91,0,91,0,91,0,91,0,91,0,3,0,88,0,94,0,88,0,88,0,94,0,88,0,94,0,1,0,1,0] (.ok (.ret (.int 0 v))) (Res.κI (goI (VN (PX b1 b2 q) prog) 100000 0 [7,0,7,0,7,0,7,0,0,0,7,0,7,0,1,0,1,0,1,2,1,0,3,0,3,0,3,0] (snCode S) ⟨kt (PX b1 b2 q), [(X0, lstO #[.int x1 u1, .int x2 u2, .int x3 u3] 3), (X1, lstO #[.ref X2, .ref X3] e0), (X2, lstO #[.int 0 l0] e1), (X3, lstO #[.int 1 l1, .int 2 l2, .int 3 l3] e2)], snZ (PX b1 b2 q) S X0 X1 c1 c2 c3 (some j) s0 s1 s2 s3 t0 t1 t2 t3 ce 2, [], N, tk⟩)) (Mm.tkTo (Res.mI (goI (VN (PX b1 b2 q) prog) 100000 0 [7,0,7,0,7,0,7,0,0,0,7,0,7,0,1,0,1,0,1,2,1,0,3,0,3,0,3,0] (snCode S) ⟨kt (PX b1 b2 q), [(X0, lstO #[.int x1 u1, .int x2 u2, .int x3 u3] 3), (X1, lstO #[.ref X2, .ref X3] e0), (X2, lstO #[.int 0 l0] e1), (X3, lstO #[.int 1 l1, .int 2 l2, .int 3 l3] e2)], snZ (PX b1 b2 q) S X0 X1 c1 c2 c3 (some j) s0 s1 s2 s3 t0 t1 t2 t3 ce 2, [], N, tk⟩)) k))) [0,97,82] [0,1,2] (by subst g0 g1 g2 g3; generalize b1 = b; revert b; exact kB (by kernel_rfl)) rfl
  exact H _ _ _ _ _ _ _ (E1 _ (selI_wA _) _ (selI_wB _) _ (selI_wB _) _ (selI_wB _))
noncomputable def snS (p0 p1 : Nat) (a1 b1 a2 b2 a3 b3 : Int) : List Int := match p0, p1 with
  | 0, 0 => [1 * a1 * a2 * a3, 1 * b1 * a2 * a3, 1 * b2 * a3, 1 * b3]
  | 0, _ => [1 * a1 * a3, 1 * b1 * a3, 1 * a2 * b3, 1 * b2 * b3]
  | 1, 0 => [1 * a2 * a3, 1 * a1 * b2 * a3, 1 * b1 * b2 * a3, 1 * b3]
  | 1, _ => [1 * a3, 1 * a1 * a2 * b3, 1 * b1 * a2 * b3, 1 * b2 * b3]
  | _, 0 => [1 * a2 * a3, 1 * b2 * a3, 1 * a1 * b3, 1 * b1 * b3]
  | _, _ => [1 * a3, 1 * a2 * b3, 1 * a1 * b2 * b3, 1 * b1 * b2 * b3]
noncomputable def snN (p0 p1 : Nat) : Nat := match p0, p1 with
  | 0, 1 => 92
  | 2, 0 => 92
  | _, _ => 95
theorem mod_cases (x : Int) : (x.fmod 3 = 0 ∨ x.fmod 3 = 1 ∨ x.fmod 3 = 2) ∧ (x.fmod 2 = 0 ∨ x.fmod 2 = 1) ∧ x.fmod 1 = 0 := by
  have a1 := Int.fmod_nonneg_of_pos x (show (0 : Int) < 3 by decide)
  have a2 := Int.fmod_lt_of_pos x (show (0 : Int) < 3 by decide)
  have b1 := Int.fmod_nonneg_of_pos x (show (0 : Int) < 2 by decide)
  have b2 := Int.fmod_lt_of_pos x (show (0 : Int) < 2 by decide)
  have c1 := Int.fmod_nonneg_of_pos x (show (0 : Int) < 1 by decide)
  have c2 := Int.fmod_lt_of_pos x (show (0 : Int) < 1 by decide)
  omega
theorem senses_spec {nn : Nat} (L : Deep (nn + 40) A) (B : Bs b1 b2 q w h) {N : Nat} (hN : h.objs.size = N) {X0 u1 u2 u3 : Nat} {x1 x2 x3 : Int} (hJ : h.get? X0 = some (lstO #[.int x1 u1, .int x2 u2, .int x3 u3] 3))
    (H : ∀ h' tk' (p0 p1 : Nat) (s0 s1 s2 s3 : Int) (t0 t1 t2 t3 : Nat), x1.fmod 3 = p0 → x2.fmod 2 = p1 → p0 < 3 → p1 < 2 → [s0, s1, s2, s3] = snS p0 p1 (wA x1) (wB x1) (wA x2) (wB x2) (wA x3) (wB x3) → Post h h' (N + snN p0 p1) [(N + 6, lstO #[.int s0 t0, .int s1 t1, .int s2 t2, .int s3 t3] 0)] → R (.ok (.ret (.ref (N + 6)))) ⟨h', g, d, tk', os⟩) :
    codeAny (model prog w) A (.call (.ref 98) ⟨[.ref X0], []⟩) R ⟨h, g, d, tk, os⟩ := by
  have hP : (VN (PX b1 b2 q) prog).P = ⟨prog, w.params⟩ := by rw [B.hw]; rfl
  refine start (V := VN (PX b1 b2 q) prog) L hP 100000 2 [1,0,1,1,22,0,22,0,22,0,22,0,25,0,25,0,25,0,25,0,25,0,22,0,25,0,25,0,25,0,25,0,25,0,25,0,22,0,25,0,25,0,25,0,25,0,25,0,25,0,22,0,25,0,25,0,31,0,1,0,1,0,1,0,1,0,1,0,0,0,0,0,0,0,34,0] (B.startN hN (F := [(X0, lstO #[.int x1 u1, .int x2 u2, .int x3 u3] 3)]) (fun p hp => by rcases List.mem_singleton.mp hp with rfl; exact hJ) (t := tk)) rfl ?_
  refine good_hole L (c := snCode N) (pp := []) (by generalize b1 = b; revert b; exact kB (by kernel_rfl)) trivial fun g0 M0 D0 => ?_
  have E0 := D0.to (T := kt (PX b1 b2 q)) (F := [(X0, lstO #[.int x1 u1, .int x2 u2, .int x3 u3] 3), (N + 5, lstO #[.ref (N + 1), .ref (N + 2), .ref (N + 3), .ref (N + 4)] 0), (N + 1, lstO #[.int 0 (tk + 1)] 0), (N + 2, lstO #[.int 1 (tk + 2)] 0), (N + 3, lstO #[.int 2 (tk + 3)] 0), (N + 4, lstO #[.int 3 (tk + 4)] 0)]) (Z := snZ (PX b1 b2 q) N X0 (N + 5) tk (tk + 9) (tk + 10) none 1 1 1 1 (tk + 5) (tk + 6) (tk + 7) (tk + 8) 0 0) (B := []) (nx := N + 12) (tk := Res.tkI (goI (VN (PX b1 b2 q) prog) 100000 2 [1,0,1,1,22,0,22,0,22,0,22,0,25,0,25,0,25,0,25,0,25,0,22,0,25,0,25,0,25,0,25,0,25,0,25,0,22,0,25,0,25,0,25,0,25,0,25,0,25,0,22,0,25,0,25,0,31,0,1,0,1,0,1,0,1,0,1,0,0,0,0,0,0,0,34,0] (.call (.ref 98) ⟨[.ref X0], []⟩) ⟨kt (PX b1 b2 q), [(X0, lstO #[.int x1 u1, .int x2 u2, .int x3 u3] 3)], [], [], N, tk⟩)) [0,16,4,7,10,13] [0,6,11] (by generalize b1 = b; revert b; exact kB (by kernel_rfl)) rfl
  obtain ⟨m0, -, -⟩ := mod_cases x1
  obtain ⟨-, m1, -⟩ := mod_cases x2
  obtain ⟨-, -, m2⟩ := mod_cases x3
  have fin : ∀ (p0 p1 : Nat) (s0 s1 s2 s3 : Int) (t0 t1 t2 t3 : Nat) (h' : Heap) (tk' XG M : Nat) (F : Facts) (j : SnJ), x1.fmod 3 = p0 → x2.fmod 2 = p1 → p0 < 3 → p1 < 2 → [s0, s1, s2, s3] = snS p0 p1 (wA x1) (wB x1) (wA x2) (wB x2) (wA x3) (wB x3) → M + 2 = N + snN p0 p1 →
      Rep h ⟨kt (PX b1 b2 q), (X0, lstO #[.int x1 u1, .int x2 u2, .int x3 u3] 3) :: F, snZ (PX b1 b2 q) N X0 XG tk (tk + 9) (tk + 10) (some j) s0 s1 s2 s3 t0 t1 t2 t3 0 3, [], M, tk'⟩ h' →
      codeAny (model prog w) (ar A (Res.κI (goI (VN (PX b1 b2 q) prog) 100000 2 [1,0,1,1,22,0,22,0,22,0,22,0,25,0,25,0,25,0,25,0,25,0,22,0,25,0,25,0,25,0,25,0,25,0,25,0,22,0,25,0,25,0,25,0,25,0,25,0,25,0,22,0,25,0,25,0,31,0,1,0,1,0,1,0,1,0,1,0,0,0,0,0,0,0,34,0] (.call (.ref 98) ⟨[.ref X0], []⟩) ⟨kt (PX b1 b2 q), [(X0, lstO #[.int x1 u1, .int x2 u2, .int x3 u3] 3)], [], [], N, tk⟩))) (snCode N) (endK prog w A R (Res.κI (goI (VN (PX b1 b2 q) prog) 100000 2 [1,0,1,1,22,0,22,0,22,0,22,0,25,0,25,0,25,0,25,0,25,0,22,0,25,0,25,0,25,0,25,0,25,0,25,0,22,0,25,0,25,0,25,0,25,0,25,0,25,0,22,0,25,0,25,0,31,0,1,0,1,0,1,0,1,0,1,0,0,0,0,0,0,0,34,0] (.call (.ref 98) ⟨[.ref X0], []⟩) ⟨kt (PX b1 b2 q), [(X0, lstO #[.int x1 u1, .int x2 u2, .int x3 u3] 3)], [], [], N, tk⟩))) ⟨h', g, d, tk', os⟩ := by
    intro p0 p1 s0 s1 s2 s3 t0 t1 t2 t3 h' tk' XG M F j q0 q1 q2 q3 q4 q5 D
    refine start (V := VN (PX b1 b2 q) prog) M0 hP 100000 0 (hz [7,7,7,7,0,7,7,13]) D rfl ?_
    refine good_done (r := .ok .next) (pp := []) (by generalize b1 = b; revert b; exact kB (by kernel_rfl)) trivial fun h1 D1 => ?_
    have E1 := D1.to (T := kt (PX b1 b2 q)) (F := []) (Z := snZ (PX b1 b2 q) N X0 XG tk (tk + 9) (tk + 10) (some j) s0 s1 s2 s3 t0 t1 t2 t3 0 3 |>.take 2) (B := []) (nx := M + 2) (tk := 0) [] [0,1] (by generalize b1 = b; revert b; exact kB (by kernel_rfl)) rfl
    refine back (V := VN (PX b1 b2 q) prog) L hP 100000 0 [1,0,1,0] E1 ?_
    refine good_done (r := .ok (.ret (.ref (N + 6)))) (pp := []) (by generalize b1 = b; revert b; exact kB (by kernel_rfl)) trivial fun h2 D2 => ?_
    have P2 := D2.post [1] (n := M + 2) (F' := [(N + 6, lstO #[.int s0 t0, .int s1 t1, .int s2 t2, .int s3 t3] 0)]) (by generalize b1 = b; revert b; exact kB (by kernel_rfl))
    rw [q5] at P2
    exact H h2 _ p0 p1 s0 s1 s2 s3 t0 t1 t2 t3 q0 q1 q2 q3 q4 P2
  rcases m0 with m0 | m0 | m0 <;> rcases m1 with m1 | m1
  · refine snT0_0 (nn := nn) M0 B.hw m0 E0 fun h1 k1 j1 a0 a1 a2 a3 E1 => ?_
    refine snT1_01_2_3__0 (nn := nn) M0 B.hw m1 E1 fun h2 k2 j2 b0 b1 b2 b3 E2 => ?_
    refine snT2_012_3 (nn := nn) M0 B.hw m2 E2 fun h3 k3 j3 c0 c1 c2 c3 E3 => ?_
    exact fin 0 0 _ _ _ _ _ _ _ _ _ _ _ (N + 93) _ j3 m0 m1 (by omega) (by omega) rfl (by show _ = N + 95; omega) E3
  · refine snT0_0 (nn := nn) M0 B.hw m0 E0 fun h1 k1 j1 a0 a1 a2 a3 E1 => ?_
    refine snT1_01_2_3__1 (nn := nn) M0 B.hw m1 E1 fun h2 k2 j2 b0 b1 b2 b3 E2 => ?_
    refine snT2_01_23 (nn := nn) M0 B.hw m2 E2 fun h3 k3 j3 c0 c1 c2 c3 E3 => ?_
    exact fin 0 1 _ _ _ _ _ _ _ _ _ _ _ (N + 90) _ j3 m0 m1 (by omega) (by omega) rfl (by show _ = N + 92; omega) E3
  · refine snT0_1 (nn := nn) M0 B.hw m0 E0 fun h1 k1 j1 a0 a1 a2 a3 E1 => ?_
    refine snT1_0_12_3__0 (nn := nn) M0 B.hw m1 E1 fun h2 k2 j2 b0 b1 b2 b3 E2 => ?_
    refine snT2_012_3 (nn := nn) M0 B.hw m2 E2 fun h3 k3 j3 c0 c1 c2 c3 E3 => ?_
    exact fin 1 0 _ _ _ _ _ _ _ _ _ _ _ (N + 93) _ j3 m0 m1 (by omega) (by omega) rfl (by show _ = N + 95; omega) E3
  · refine snT0_1 (nn := nn) M0 B.hw m0 E0 fun h1 k1 j1 a0 a1 a2 a3 E1 => ?_
    refine snT1_0_12_3__1 (nn := nn) M0 B.hw m1 E1 fun h2 k2 j2 b0 b1 b2 b3 E2 => ?_
    refine snT2_0_123 (nn := nn) M0 B.hw m2 E2 fun h3 k3 j3 c0 c1 c2 c3 E3 => ?_
    exact fin 1 1 _ _ _ _ _ _ _ _ _ _ _ (N + 93) _ j3 m0 m1 (by omega) (by omega) rfl (by show _ = N + 95; omega) E3
  · refine snT0_2 (nn := nn) M0 B.hw m0 E0 fun h1 k1 j1 a0 a1 a2 a3 E1 => ?_
    refine snT1_0_1_23__0 (nn := nn) M0 B.hw m1 E1 fun h2 k2 j2 b0 b1 b2 b3 E2 => ?_
    refine snT2_01_23 (nn := nn) M0 B.hw m2 E2 fun h3 k3 j3 c0 c1 c2 c3 E3 => ?_
    exact fin 2 0 _ _ _ _ _ _ _ _ _ _ _ (N + 90) _ j3 m0 m1 (by omega) (by omega) rfl (by show _ = N + 92; omega) E3
  · refine snT0_2 (nn := nn) M0 B.hw m0 E0 fun h1 k1 j1 a0 a1 a2 a3 E1 => ?_
    refine snT1_0_1_23__1 (nn := nn) M0 B.hw m1 E1 fun h2 k2 j2 b0 b1 b2 b3 E2 => ?_
    refine snT2_0_123 (nn := nn) M0 B.hw m2 E2 fun h3 k3 j3 c0 c1 c2 c3 E3 => ?_
    exact fin 2 1 _ _ _ _ _ _ _ _ _ _ _ (N + 93) _ j3 m0 m1 (by omega) (by omega) rfl (by show _ = N + 95; omega) E3
end
end Mine
namespace Mine
open PySem PySem.W PySem.W.X PySem.Spec PySem.Calls PyProof.Rows
open PySem.W.Fast
section
variable {prog : Program} {w : World} {A : Around} {V : Env9} {h₀ : Heap} {g : Array GenState} {d : Drawn} {os : OsState}
theorem piece_of {α : Type} {t t' : Sem α} (e : t = t') (enc : α → Flow) {nn : Nat} (L0 : Deep nn A) (hP : V.P = ⟨prog, w.params⟩) (f n : Nat) (hs : List Nat) {Q : α → Shared → Prop} {E : Value → Shared → Prop} {m : Mm} {h : Heap} {tk : Nat} (D : Rep h₀ m h)
    (H : Good prog w A (fun r s' => match r with | .ok fl => ∀ a, enc a = fl → Q a s' | .error _ => False) h₀ g d os (goT V f n hs (PySem.W.R.bindR t' fun a => .pure (.done (enc a))) (m.tkTo tk))) : wpAny (model prog w) A t Q E ⟨h, g, d, tk, os⟩ := by
  unfold goT Mm.tkTo at H
  have z := run_snd L0.light hP f n hs none .base _ _ _ H h (D.tok tk)
  unfold Means at z
  rw [← PySem.W.R.bindR_eq, ← e] at z
  have z1 : wpAny (model prog w) A (t >>= fun a => (Sem.pure (PySem.Fin.done (enc a)) : Sem PySem.Fin)) (postF prog w (ar A Kt.base) none (endK prog w A (fun r s' => match r with | .ok fl => ∀ a, enc a = fl → Q a s' | .error _ => False) Kt.base)) (fun x s' => endK prog w A (fun r s' => match r with | .ok fl => ∀ a, enc a = fl → Q a s' | .error _ => False) Kt.base (.error x) s') ⟨h, g, d, tk, os⟩ := z
  intro Γ p hΓ
  have y := z1 Γ p hΓ
  rw [Sem.wp_bind'] at y
  exact Sem.wp_mono _ Γ t (fun a p' s' q => q a rfl) (fun x p' s' q => q.elim) p _ y
noncomputable def encO : Option Value → Flow
  | none => .next
  | some v => .ret v
noncomputable def encU : Unit → Flow := fun _ => .next
noncomputable def encB : Bool → Flow := fun b => .ret (.bool b)
end
noncomputable def rcRest : { f : CmpOp → Value → Value → Sem Value // ∀ op a b, tw9423741818375054981 op a b = tw17359229931016689406 [a, b] (PySem.W.R.bindR (tw13383273872528276517 "comparison" [a, b]) fun _ => f op a b) } := ⟨_, fun _ _ _ => rfl⟩
end Mine
namespace Mine
open PySem PySem.W PySem.W.X PySem.Spec PySem.Calls PyProof.Rows
open PySem.W.Fast
section
variable {prog : Program} {w : World} {A : Around} {V : Env9} {h₀ : Heap} {g : Array GenState} {d : Drawn} {os : OsState}
theorem rich_of {n : Nat} (L : Deep n A) {op : CmpOp} {a b : Value} {Q : Value → Shared → Prop} {E : Value → Shared → Prop} {s : Shared} (H : wpAny (model prog w) A (rcRest.1 op a b) Q E s) : wpAny (model prog w) A (richCompare op a b) Q E s := by
  have e1 : richCompare = tw9423741818375054981 := te9423741818375054981
  rw [e1, rcRest.2]
  generalize rcRest.1 op a b = t at H ⊢
  have e2 : @holding = @tw17359229931016689406 := te17359229931016689406
  have e3 : cRoomFor = tw13383273872528276517 := te13383273872528276517
  rw [← e2, ← e3, ← PySem.W.R.bindR_eq]
  exact wpAny_holding (wpAny_bind (wpAny_cRoomFor L.room H))
end
end Mine
namespace Mine
open PySem PySem.W PySem.W.X PySem.Spec PySem.Calls PyProof.Rows
open AutoSeq1 (wpAny_loadPart')
open MeetsSeq MeetsSeq2 MeetsSeq3 SeqRoads2
noncomputable def cmpI (op : CmpOp) (x y : Int) : Bool := match op with
  | .Lt => decide (x < y)
  | .LtE => decide (x ≤ y)
  | .Eq => decide (x = y)
  | .NotEq => decide (x ≠ y)
  | .Gt => decide (x > y)
  | .GtE => decide (x ≥ y)
  | _ => false
noncomputable def lexI (op : CmpOp) : List Int → List Int → Bool
  | x :: xs, y :: ys => if x = y then lexI op xs ys else cmpI op x y
  | _, _ => cmpI op 0 0
noncomputable def intsOf (l : List Value) : List Int := l.map intOf
section
variable {prog : Program} {w : World} {A : Around} {E : Value → Shared → Prop} {s : Shared} {Q : Value → Shared → Prop}
theorem getD_at {l : List Value} {i : Nat} (h : i < l.length) : (intsOf l).drop i = intOf l[i] :: (intsOf l).drop (i + 1) := by
  have h' : i < (intsOf l).length := by simpa [intsOf] using h
  rw [List.drop_eq_getElem_cons h']
  simp [intsOf]
theorem rc_int_lt {x y : Int} {t u : Nat} (h : Q (.bool (cmpI .Lt x y)) s) : wpAny (model prog w) A (richCompare .Lt (.int x t) (.int y u)) Q E s :=
  richCompare_gives (op := .Lt) (typeIs_int s x t) (typeIs_int s y u) slot_int_lt entry_int_lt (args_int_lt _ _) (AutoIntG1.int___lt___int_int_0 x t y u) (fun z => nomatch z) h
theorem rc_int_le {x y : Int} {t u : Nat} (h : Q (.bool (cmpI .LtE x y)) s) : wpAny (model prog w) A (richCompare .LtE (.int x t) (.int y u)) Q E s :=
  richCompare_gives (op := .LtE) (typeIs_int s x t) (typeIs_int s y u) slot_int_le entry_int_le (args_int_le _ _) (AutoIntG1.int___le___int_int_0 x t y u) (fun z => nomatch z) h
theorem rc_int_gt {x y : Int} {t u : Nat} (h : Q (.bool (cmpI .Gt x y)) s) : wpAny (model prog w) A (richCompare .Gt (.int x t) (.int y u)) Q E s :=
  richCompare_gives (op := .Gt) (typeIs_int s x t) (typeIs_int s y u) F.slot_int_gt F.entry_int_gt (F.args_int_gt_2 _ _) (AutoIntG4.int___gt___int_int_0 x t y u) (fun z => nomatch z) h
theorem rc_int_ge {x y : Int} {t u : Nat} (h : Q (.bool (cmpI .GtE x y)) s) : wpAny (model prog w) A (richCompare .GtE (.int x t) (.int y u)) Q E s :=
  richCompare_gives (op := .GtE) (typeIs_int s x t) (typeIs_int s y u) slot_int_ge entry_int_ge (args_int_ge _ _) (AutoIntG9.int___ge___int_int_0 x t y u) (fun z => nomatch z) h
theorem loop_lt (l b : Addr) (items items2 : Array Value) (n n2 : Nat) (hsz : items.size = items2.size) (hI : allI items.toList = true) (hJ : allI items2.toList = true) (k : Nat) :
    ∀ i : Nat, items.size - i = k → Meets (Builtin.«list.__eq__.loop» ⟨[.ref l, .ref b, rawInt i, rawInt 0], []⟩)
      (fun A R s => s.heap.get? l = some (lstO items n) ∧ s.heap.get? b = some (lstO items2 n2) ∧ R (.ok (.ret (.bool (lexI .Lt ((intsOf items.toList).drop i) ((intsOf items2.toList).drop i))))) s) := by
  induction k with
  | zero =>
    intro i hk prog w A R s h
    obtain ⟨hp, g, d, tk, os⟩ := s; obtain ⟨hl, hb, h⟩ := h
    wp_walk using wpAny_loadPart' hl, wpAny_loadPart' hb
    have hi1 : items[((i : Nat) : Int).toNat]? = none := by simp; omega
    have hi2 : items2[((i : Nat) : Int).toNat]? = none := by simp; omega
    have hd1 : (intsOf items.toList).drop i = [] := by simp [intsOf]; omega
    have hd2 : (intsOf items2.toList).drop i = [] := by simp [intsOf]; omega
    rw [hd1, hd2] at h
    rw [hi1, hi2]
    wp_walk using wpAny_loadPart' hl, wpAny_loadPart' hb
    first
      | (show R (.ok (.ret (.bool (items.size == items2.size)))) _; rw [hsz]; simpa [lexI, cmpI] using h)
      | (show R (.ok (.ret (.bool (items.size != items2.size)))) _; rw [hsz]; simpa [lexI, cmpI] using h)
      | (show R (.ok (.ret (.bool (decide (items.size < items2.size))))) _; rw [hsz]; simpa [lexI, cmpI] using h)
      | (show R (.ok (.ret (.bool (decide (items.size ≤ items2.size))))) _; rw [hsz]; simpa [lexI, cmpI] using h)
      | (show R (.ok (.ret (.bool (decide (items.size > items2.size))))) _; rw [hsz]; simpa [lexI, cmpI] using h)
      | (show R (.ok (.ret (.bool (decide (items.size ≥ items2.size))))) _; rw [hsz]; simpa [lexI, cmpI] using h)
  | succ k ih =>
    intro i hk prog w A R s h
    obtain ⟨hp, g, d, tk, os⟩ := s; obtain ⟨hl, hb, h⟩ := h
    wp_walk using wpAny_loadPart' hl, wpAny_loadPart' hb
    have hlt : i < items.size := by omega
    have hlt2 : i < items2.size := by omega
    have hi1 : items[((i : Nat) : Int).toNat]? = some items.toList[i] := by simp [hlt]
    have hi2 : items2[((i : Nat) : Int).toNat]? = some items2.toList[i] := by simp [hlt2]
    have v1 := allI_at hI (List.getElem?_eq_getElem (show i < items.toList.length by simpa using hlt))
    have v2 := allI_at hJ (List.getElem?_eq_getElem (show i < items2.toList.length by simpa using hlt2))
    have hc : ((i : Int) + 1) = ((i + 1 : Nat) : Int) := by push_cast; rfl
    rw [getD_at (show i < items.toList.length by simpa using hlt), getD_at (show i < items2.toList.length by simpa using hlt2)] at h
    rw [hi1, hi2]
    generalize items.toList[i] = x1 at v1 h hi1
    generalize items2.toList[i] = x2 at v2 h hi2
    generalize intOf x1 = a1 at v1 h
    generalize intOf x2 = a2 at v2 h
    generalize tokOf x1 = t1 at v1
    generalize tokOf x2 = t2 at v2
    subst v1 v2
    refine wpAny_bind (wpAny_eqBool_int ?_)
    unfold lexI at h
    by_cases q : a1 = a2
    · subst q
      rw [if_pos rfl] at h
      simp only [beq_self_eq_true]
      wp_walk
      rw [hc]
      exact ⟨plainId_quiet plain_eq_loop _, codeAny_builtin entry_eq_loop (by
        rw [Around.under_plainId plain_eq_loop _]
        exact ih (i + 1) (by omega) prog w A R _ ⟨hl, hb, h⟩)⟩
    · rw [if_neg q] at h
      have q' : (a1 == a2) = false := by simpa using q
      rw [q']
      wp_walk using wpAny_loadPart' hl, wpAny_loadPart' hb
      rw [hi1, hi2]
      exact wpAny_bind (rc_int_lt (wpAny_pure h))
theorem loop_le (l b : Addr) (items items2 : Array Value) (n n2 : Nat) (hsz : items.size = items2.size) (hI : allI items.toList = true) (hJ : allI items2.toList = true) (k : Nat) :
    ∀ i : Nat, items.size - i = k → Meets (Builtin.«list.__eq__.loop» ⟨[.ref l, .ref b, rawInt i, rawInt 1], []⟩)
      (fun A R s => s.heap.get? l = some (lstO items n) ∧ s.heap.get? b = some (lstO items2 n2) ∧ R (.ok (.ret (.bool (lexI .LtE ((intsOf items.toList).drop i) ((intsOf items2.toList).drop i))))) s) := by
  induction k with
  | zero =>
    intro i hk prog w A R s h
    obtain ⟨hp, g, d, tk, os⟩ := s; obtain ⟨hl, hb, h⟩ := h
    wp_walk using wpAny_loadPart' hl, wpAny_loadPart' hb
    have hi1 : items[((i : Nat) : Int).toNat]? = none := by simp; omega
    have hi2 : items2[((i : Nat) : Int).toNat]? = none := by simp; omega
    have hd1 : (intsOf items.toList).drop i = [] := by simp [intsOf]; omega
    have hd2 : (intsOf items2.toList).drop i = [] := by simp [intsOf]; omega
    rw [hd1, hd2] at h
    rw [hi1, hi2]
    wp_walk using wpAny_loadPart' hl, wpAny_loadPart' hb
    first
      | (show R (.ok (.ret (.bool (items.size == items2.size)))) _; rw [hsz]; simpa [lexI, cmpI] using h)
      | (show R (.ok (.ret (.bool (items.size != items2.size)))) _; rw [hsz]; simpa [lexI, cmpI] using h)
      | (show R (.ok (.ret (.bool (decide (items.size < items2.size))))) _; rw [hsz]; simpa [lexI, cmpI] using h)
      | (show R (.ok (.ret (.bool (decide (items.size ≤ items2.size))))) _; rw [hsz]; simpa [lexI, cmpI] using h)
      | (show R (.ok (.ret (.bool (decide (items.size > items2.size))))) _; rw [hsz]; simpa [lexI, cmpI] using h)
      | (show R (.ok (.ret (.bool (decide (items.size ≥ items2.size))))) _; rw [hsz]; simpa [lexI, cmpI] using h)
  | succ k ih =>
    intro i hk prog w A R s h
    obtain ⟨hp, g, d, tk, os⟩ := s; obtain ⟨hl, hb, h⟩ := h
    wp_walk using wpAny_loadPart' hl, wpAny_loadPart' hb
    have hlt : i < items.size := by omega
    have hlt2 : i < items2.size := by omega
    have hi1 : items[((i : Nat) : Int).toNat]? = some items.toList[i] := by simp [hlt]
    have hi2 : items2[((i : Nat) : Int).toNat]? = some items2.toList[i] := by simp [hlt2]
    have v1 := allI_at hI (List.getElem?_eq_getElem (show i < items.toList.length by simpa using hlt))
    have v2 := allI_at hJ (List.getElem?_eq_getElem (show i < items2.toList.length by simpa using hlt2))
    have hc : ((i : Int) + 1) = ((i + 1 : Nat) : Int) := by push_cast; rfl
    rw [getD_at (show i < items.toList.length by simpa using hlt), getD_at (show i < items2.toList.length by simpa using hlt2)] at h
    rw [hi1, hi2]
    generalize items.toList[i] = x1 at v1 h hi1
    generalize items2.toList[i] = x2 at v2 h hi2
    generalize intOf x1 = a1 at v1 h
    generalize intOf x2 = a2 at v2 h
    generalize tokOf x1 = t1 at v1
    generalize tokOf x2 = t2 at v2
    subst v1 v2
    refine wpAny_bind (wpAny_eqBool_int ?_)
    unfold lexI at h
    by_cases q : a1 = a2
    · subst q
      rw [if_pos rfl] at h
      simp only [beq_self_eq_true]
      wp_walk
      rw [hc]
      exact ⟨plainId_quiet plain_eq_loop _, codeAny_builtin entry_eq_loop (by
        rw [Around.under_plainId plain_eq_loop _]
        exact ih (i + 1) (by omega) prog w A R _ ⟨hl, hb, h⟩)⟩
    · rw [if_neg q] at h
      have q' : (a1 == a2) = false := by simpa using q
      rw [q']
      wp_walk using wpAny_loadPart' hl, wpAny_loadPart' hb
      rw [hi1, hi2]
      exact wpAny_bind (rc_int_le (wpAny_pure h))
theorem loop_eq (l b : Addr) (items items2 : Array Value) (n n2 : Nat) (hsz : items.size = items2.size) (hI : allI items.toList = true) (hJ : allI items2.toList = true) (k : Nat) :
    ∀ i : Nat, items.size - i = k → Meets (Builtin.«list.__eq__.loop» ⟨[.ref l, .ref b, rawInt i, rawInt 2], []⟩)
      (fun A R s => s.heap.get? l = some (lstO items n) ∧ s.heap.get? b = some (lstO items2 n2) ∧ R (.ok (.ret (.bool (lexI .Eq ((intsOf items.toList).drop i) ((intsOf items2.toList).drop i))))) s) := by
  induction k with
  | zero =>
    intro i hk prog w A R s h
    obtain ⟨hp, g, d, tk, os⟩ := s; obtain ⟨hl, hb, h⟩ := h
    wp_walk using wpAny_loadPart' hl, wpAny_loadPart' hb
    have hi1 : items[((i : Nat) : Int).toNat]? = none := by simp; omega
    have hi2 : items2[((i : Nat) : Int).toNat]? = none := by simp; omega
    have hd1 : (intsOf items.toList).drop i = [] := by simp [intsOf]; omega
    have hd2 : (intsOf items2.toList).drop i = [] := by simp [intsOf]; omega
    rw [hd1, hd2] at h
    rw [hi1, hi2]
    wp_walk using wpAny_loadPart' hl, wpAny_loadPart' hb
    first
      | (show R (.ok (.ret (.bool (items.size == items2.size)))) _; rw [hsz]; simpa [lexI, cmpI] using h)
      | (show R (.ok (.ret (.bool (items.size != items2.size)))) _; rw [hsz]; simpa [lexI, cmpI] using h)
      | (show R (.ok (.ret (.bool (decide (items.size < items2.size))))) _; rw [hsz]; simpa [lexI, cmpI] using h)
      | (show R (.ok (.ret (.bool (decide (items.size ≤ items2.size))))) _; rw [hsz]; simpa [lexI, cmpI] using h)
      | (show R (.ok (.ret (.bool (decide (items.size > items2.size))))) _; rw [hsz]; simpa [lexI, cmpI] using h)
      | (show R (.ok (.ret (.bool (decide (items.size ≥ items2.size))))) _; rw [hsz]; simpa [lexI, cmpI] using h)
  | succ k ih =>
    intro i hk prog w A R s h
    obtain ⟨hp, g, d, tk, os⟩ := s; obtain ⟨hl, hb, h⟩ := h
    wp_walk using wpAny_loadPart' hl, wpAny_loadPart' hb
    have hlt : i < items.size := by omega
    have hlt2 : i < items2.size := by omega
    have hi1 : items[((i : Nat) : Int).toNat]? = some items.toList[i] := by simp [hlt]
    have hi2 : items2[((i : Nat) : Int).toNat]? = some items2.toList[i] := by simp [hlt2]
    have v1 := allI_at hI (List.getElem?_eq_getElem (show i < items.toList.length by simpa using hlt))
    have v2 := allI_at hJ (List.getElem?_eq_getElem (show i < items2.toList.length by simpa using hlt2))
    have hc : ((i : Int) + 1) = ((i + 1 : Nat) : Int) := by push_cast; rfl
    rw [getD_at (show i < items.toList.length by simpa using hlt), getD_at (show i < items2.toList.length by simpa using hlt2)] at h
    rw [hi1, hi2]
    generalize items.toList[i] = x1 at v1 h hi1
    generalize items2.toList[i] = x2 at v2 h hi2
    generalize intOf x1 = a1 at v1 h
    generalize intOf x2 = a2 at v2 h
    generalize tokOf x1 = t1 at v1
    generalize tokOf x2 = t2 at v2
    subst v1 v2
    refine wpAny_bind (wpAny_eqBool_int ?_)
    unfold lexI at h
    by_cases q : a1 = a2
    · subst q
      rw [if_pos rfl] at h
      simp only [beq_self_eq_true]
      wp_walk
      rw [hc]
      exact ⟨plainId_quiet plain_eq_loop _, codeAny_builtin entry_eq_loop (by
        rw [Around.under_plainId plain_eq_loop _]
        exact ih (i + 1) (by omega) prog w A R _ ⟨hl, hb, h⟩)⟩
    · rw [if_neg q] at h
      have q' : (a1 == a2) = false := by simpa using q
      rw [q']
      wp_walk using wpAny_loadPart' hl, wpAny_loadPart' hb
      rw [hi1, hi2]
      wp_walk; simpa [cmpI, q] using h
theorem loop_ne (l b : Addr) (items items2 : Array Value) (n n2 : Nat) (hsz : items.size = items2.size) (hI : allI items.toList = true) (hJ : allI items2.toList = true) (k : Nat) :
    ∀ i : Nat, items.size - i = k → Meets (Builtin.«list.__eq__.loop» ⟨[.ref l, .ref b, rawInt i, rawInt 3], []⟩)
      (fun A R s => s.heap.get? l = some (lstO items n) ∧ s.heap.get? b = some (lstO items2 n2) ∧ R (.ok (.ret (.bool (lexI .NotEq ((intsOf items.toList).drop i) ((intsOf items2.toList).drop i))))) s) := by
  induction k with
  | zero =>
    intro i hk prog w A R s h
    obtain ⟨hp, g, d, tk, os⟩ := s; obtain ⟨hl, hb, h⟩ := h
    wp_walk using wpAny_loadPart' hl, wpAny_loadPart' hb
    have hi1 : items[((i : Nat) : Int).toNat]? = none := by simp; omega
    have hi2 : items2[((i : Nat) : Int).toNat]? = none := by simp; omega
    have hd1 : (intsOf items.toList).drop i = [] := by simp [intsOf]; omega
    have hd2 : (intsOf items2.toList).drop i = [] := by simp [intsOf]; omega
    rw [hd1, hd2] at h
    rw [hi1, hi2]
    wp_walk using wpAny_loadPart' hl, wpAny_loadPart' hb
    first
      | (show R (.ok (.ret (.bool (items.size == items2.size)))) _; rw [hsz]; simpa [lexI, cmpI] using h)
      | (show R (.ok (.ret (.bool (items.size != items2.size)))) _; rw [hsz]; simpa [lexI, cmpI] using h)
      | (show R (.ok (.ret (.bool (decide (items.size < items2.size))))) _; rw [hsz]; simpa [lexI, cmpI] using h)
      | (show R (.ok (.ret (.bool (decide (items.size ≤ items2.size))))) _; rw [hsz]; simpa [lexI, cmpI] using h)
      | (show R (.ok (.ret (.bool (decide (items.size > items2.size))))) _; rw [hsz]; simpa [lexI, cmpI] using h)
      | (show R (.ok (.ret (.bool (decide (items.size ≥ items2.size))))) _; rw [hsz]; simpa [lexI, cmpI] using h)
  | succ k ih =>
    intro i hk prog w A R s h
    obtain ⟨hp, g, d, tk, os⟩ := s; obtain ⟨hl, hb, h⟩ := h
    wp_walk using wpAny_loadPart' hl, wpAny_loadPart' hb
    have hlt : i < items.size := by omega
    have hlt2 : i < items2.size := by omega
    have hi1 : items[((i : Nat) : Int).toNat]? = some items.toList[i] := by simp [hlt]
    have hi2 : items2[((i : Nat) : Int).toNat]? = some items2.toList[i] := by simp [hlt2]
    have v1 := allI_at hI (List.getElem?_eq_getElem (show i < items.toList.length by simpa using hlt))
    have v2 := allI_at hJ (List.getElem?_eq_getElem (show i < items2.toList.length by simpa using hlt2))
    have hc : ((i : Int) + 1) = ((i + 1 : Nat) : Int) := by push_cast; rfl
    rw [getD_at (show i < items.toList.length by simpa using hlt), getD_at (show i < items2.toList.length by simpa using hlt2)] at h
    rw [hi1, hi2]
    generalize items.toList[i] = x1 at v1 h hi1
    generalize items2.toList[i] = x2 at v2 h hi2
    generalize intOf x1 = a1 at v1 h
    generalize intOf x2 = a2 at v2 h
    generalize tokOf x1 = t1 at v1
    generalize tokOf x2 = t2 at v2
    subst v1 v2
    refine wpAny_bind (wpAny_eqBool_int ?_)
    unfold lexI at h
    by_cases q : a1 = a2
    · subst q
      rw [if_pos rfl] at h
      simp only [beq_self_eq_true]
      wp_walk
      rw [hc]
      exact ⟨plainId_quiet plain_eq_loop _, codeAny_builtin entry_eq_loop (by
        rw [Around.under_plainId plain_eq_loop _]
        exact ih (i + 1) (by omega) prog w A R _ ⟨hl, hb, h⟩)⟩
    · rw [if_neg q] at h
      have q' : (a1 == a2) = false := by simpa using q
      rw [q']
      wp_walk using wpAny_loadPart' hl, wpAny_loadPart' hb
      rw [hi1, hi2]
      wp_walk; simpa [cmpI, q] using h
theorem loop_gt (l b : Addr) (items items2 : Array Value) (n n2 : Nat) (hsz : items.size = items2.size) (hI : allI items.toList = true) (hJ : allI items2.toList = true) (k : Nat) :
    ∀ i : Nat, items.size - i = k → Meets (Builtin.«list.__eq__.loop» ⟨[.ref l, .ref b, rawInt i, rawInt 4], []⟩)
      (fun A R s => s.heap.get? l = some (lstO items n) ∧ s.heap.get? b = some (lstO items2 n2) ∧ R (.ok (.ret (.bool (lexI .Gt ((intsOf items.toList).drop i) ((intsOf items2.toList).drop i))))) s) := by
  induction k with
  | zero =>
    intro i hk prog w A R s h
    obtain ⟨hp, g, d, tk, os⟩ := s; obtain ⟨hl, hb, h⟩ := h
    wp_walk using wpAny_loadPart' hl, wpAny_loadPart' hb
    have hi1 : items[((i : Nat) : Int).toNat]? = none := by simp; omega
    have hi2 : items2[((i : Nat) : Int).toNat]? = none := by simp; omega
    have hd1 : (intsOf items.toList).drop i = [] := by simp [intsOf]; omega
    have hd2 : (intsOf items2.toList).drop i = [] := by simp [intsOf]; omega
    rw [hd1, hd2] at h
    rw [hi1, hi2]
    wp_walk using wpAny_loadPart' hl, wpAny_loadPart' hb
    first
      | (show R (.ok (.ret (.bool (items.size == items2.size)))) _; rw [hsz]; simpa [lexI, cmpI] using h)
      | (show R (.ok (.ret (.bool (items.size != items2.size)))) _; rw [hsz]; simpa [lexI, cmpI] using h)
      | (show R (.ok (.ret (.bool (decide (items.size < items2.size))))) _; rw [hsz]; simpa [lexI, cmpI] using h)
      | (show R (.ok (.ret (.bool (decide (items.size ≤ items2.size))))) _; rw [hsz]; simpa [lexI, cmpI] using h)
      | (show R (.ok (.ret (.bool (decide (items.size > items2.size))))) _; rw [hsz]; simpa [lexI, cmpI] using h)
      | (show R (.ok (.ret (.bool (decide (items.size ≥ items2.size))))) _; rw [hsz]; simpa [lexI, cmpI] using h)
  | succ k ih =>
    intro i hk prog w A R s h
    obtain ⟨hp, g, d, tk, os⟩ := s; obtain ⟨hl, hb, h⟩ := h
    wp_walk using wpAny_loadPart' hl, wpAny_loadPart' hb
    have hlt : i < items.size := by omega
    have hlt2 : i < items2.size := by omega
    have hi1 : items[((i : Nat) : Int).toNat]? = some items.toList[i] := by simp [hlt]
    have hi2 : items2[((i : Nat) : Int).toNat]? = some items2.toList[i] := by simp [hlt2]
    have v1 := allI_at hI (List.getElem?_eq_getElem (show i < items.toList.length by simpa using hlt))
    have v2 := allI_at hJ (List.getElem?_eq_getElem (show i < items2.toList.length by simpa using hlt2))
    have hc : ((i : Int) + 1) = ((i + 1 : Nat) : Int) := by push_cast; rfl
    rw [getD_at (show i < items.toList.length by simpa using hlt), getD_at (show i < items2.toList.length by simpa using hlt2)] at h
    rw [hi1, hi2]
    generalize items.toList[i] = x1 at v1 h hi1
    generalize items2.toList[i] = x2 at v2 h hi2
    generalize intOf x1 = a1 at v1 h
    generalize intOf x2 = a2 at v2 h
    generalize tokOf x1 = t1 at v1
    generalize tokOf x2 = t2 at v2
    subst v1 v2
    refine wpAny_bind (wpAny_eqBool_int ?_)
    unfold lexI at h
    by_cases q : a1 = a2
    · subst q
      rw [if_pos rfl] at h
      simp only [beq_self_eq_true]
      wp_walk
      rw [hc]
      exact ⟨plainId_quiet plain_eq_loop _, codeAny_builtin entry_eq_loop (by
        rw [Around.under_plainId plain_eq_loop _]
        exact ih (i + 1) (by omega) prog w A R _ ⟨hl, hb, h⟩)⟩
    · rw [if_neg q] at h
      have q' : (a1 == a2) = false := by simpa using q
      rw [q']
      wp_walk using wpAny_loadPart' hl, wpAny_loadPart' hb
      rw [hi1, hi2]
      exact wpAny_bind (rc_int_gt (wpAny_pure h))
theorem loop_ge (l b : Addr) (items items2 : Array Value) (n n2 : Nat) (hsz : items.size = items2.size) (hI : allI items.toList = true) (hJ : allI items2.toList = true) (k : Nat) :
    ∀ i : Nat, items.size - i = k → Meets (Builtin.«list.__eq__.loop» ⟨[.ref l, .ref b, rawInt i, rawInt 5], []⟩)
      (fun A R s => s.heap.get? l = some (lstO items n) ∧ s.heap.get? b = some (lstO items2 n2) ∧ R (.ok (.ret (.bool (lexI .GtE ((intsOf items.toList).drop i) ((intsOf items2.toList).drop i))))) s) := by
  induction k with
  | zero =>
    intro i hk prog w A R s h
    obtain ⟨hp, g, d, tk, os⟩ := s; obtain ⟨hl, hb, h⟩ := h
    wp_walk using wpAny_loadPart' hl, wpAny_loadPart' hb
    have hi1 : items[((i : Nat) : Int).toNat]? = none := by simp; omega
    have hi2 : items2[((i : Nat) : Int).toNat]? = none := by simp; omega
    have hd1 : (intsOf items.toList).drop i = [] := by simp [intsOf]; omega
    have hd2 : (intsOf items2.toList).drop i = [] := by simp [intsOf]; omega
    rw [hd1, hd2] at h
    rw [hi1, hi2]
    wp_walk using wpAny_loadPart' hl, wpAny_loadPart' hb
    first
      | (show R (.ok (.ret (.bool (items.size == items2.size)))) _; rw [hsz]; simpa [lexI, cmpI] using h)
      | (show R (.ok (.ret (.bool (items.size != items2.size)))) _; rw [hsz]; simpa [lexI, cmpI] using h)
      | (show R (.ok (.ret (.bool (decide (items.size < items2.size))))) _; rw [hsz]; simpa [lexI, cmpI] using h)
      | (show R (.ok (.ret (.bool (decide (items.size ≤ items2.size))))) _; rw [hsz]; simpa [lexI, cmpI] using h)
      | (show R (.ok (.ret (.bool (decide (items.size > items2.size))))) _; rw [hsz]; simpa [lexI, cmpI] using h)
      | (show R (.ok (.ret (.bool (decide (items.size ≥ items2.size))))) _; rw [hsz]; simpa [lexI, cmpI] using h)
  | succ k ih =>
    intro i hk prog w A R s h
    obtain ⟨hp, g, d, tk, os⟩ := s; obtain ⟨hl, hb, h⟩ := h
    wp_walk using wpAny_loadPart' hl, wpAny_loadPart' hb
    have hlt : i < items.size := by omega
    have hlt2 : i < items2.size := by omega
    have hi1 : items[((i : Nat) : Int).toNat]? = some items.toList[i] := by simp [hlt]
    have hi2 : items2[((i : Nat) : Int).toNat]? = some items2.toList[i] := by simp [hlt2]
    have v1 := allI_at hI (List.getElem?_eq_getElem (show i < items.toList.length by simpa using hlt))
    have v2 := allI_at hJ (List.getElem?_eq_getElem (show i < items2.toList.length by simpa using hlt2))
    have hc : ((i : Int) + 1) = ((i + 1 : Nat) : Int) := by push_cast; rfl
    rw [getD_at (show i < items.toList.length by simpa using hlt), getD_at (show i < items2.toList.length by simpa using hlt2)] at h
    rw [hi1, hi2]
    generalize items.toList[i] = x1 at v1 h hi1
    generalize items2.toList[i] = x2 at v2 h hi2
    generalize intOf x1 = a1 at v1 h
    generalize intOf x2 = a2 at v2 h
    generalize tokOf x1 = t1 at v1
    generalize tokOf x2 = t2 at v2
    subst v1 v2
    refine wpAny_bind (wpAny_eqBool_int ?_)
    unfold lexI at h
    by_cases q : a1 = a2
    · subst q
      rw [if_pos rfl] at h
      simp only [beq_self_eq_true]
      wp_walk
      rw [hc]
      exact ⟨plainId_quiet plain_eq_loop _, codeAny_builtin entry_eq_loop (by
        rw [Around.under_plainId plain_eq_loop _]
        exact ih (i + 1) (by omega) prog w A R _ ⟨hl, hb, h⟩)⟩
    · rw [if_neg q] at h
      have q' : (a1 == a2) = false := by simpa using q
      rw [q']
      wp_walk using wpAny_loadPart' hl, wpAny_loadPart' hb
      rw [hi1, hi2]
      exact wpAny_bind (rc_int_ge (wpAny_pure h))
end
end Mine
namespace Mine
open PySem PySem.W PySem.W.X PySem.Spec PySem.Calls PyProof.Rows
open AutoSeq1 (wpAny_loadPart')
open MeetsSeq MeetsSeq2 MeetsSeq3 SeqRoads2
section
variable {prog : Program} {w : World} {A : Around} {E : Value → Shared → Prop} {s : Shared} {Q : Value → Shared → Prop}
theorem list_lt (l b : Addr) (items items2 : Array Value) (n n2 : Nat) (hsz : items.size = items2.size) (hI : allI items.toList = true) (hJ : allI items2.toList = true) :
    Meets (Builtin.«list.__lt__» ⟨[.ref l, .ref b], []⟩)
      (fun A R s => s.heap.get? l = some (lstO items n) ∧ s.heap.get? b = some (lstO items2 n2) ∧ R (.ok (.ret (.bool (lexI .Lt (intsOf items.toList) (intsOf items2.toList))))) s) := by
  intro prog w A R s h
  obtain ⟨hp, g, d, tk, os⟩ := s; obtain ⟨hl, hb, h⟩ := h
  have f3 := AutoSeq1.sub_list_list
  have hne : ¬ (items.size != items2.size) = true := by simp [hsz]
  wp_walk using wpAny_loadPart' hl, wpAny_loadPart' hb
  exact ⟨plainId_quiet plain_eq_loop _, codeAny_builtin entry_eq_loop (by
    rw [Around.under_plainId plain_eq_loop _]
    exact loop_lt l b items items2 n n2 hsz hI hJ _ 0 rfl prog w A R _ ⟨hl, hb, h⟩)⟩
theorem rc_list_lt (hu : A.units < cLine) {l b : Addr} {items items2 : Array Value} {n n2 : Nat} (hsz : items.size = items2.size) (hI : allI items.toList = true) (hJ : allI items2.toList = true)
    (hl : s.heap.get? l = some (lstO items n)) (hb : s.heap.get? b = some (lstO items2 n2)) (h : Q (.bool (lexI .Lt (intsOf items.toList) (intsOf items2.toList))) s) : wpAny (model prog w) A (richCompare .Lt (.ref l) (.ref b)) Q E s :=
  richCompare_meets_room (op := .Lt) ⟨_, hl, rfl⟩ ⟨_, hb, rfl⟩ F.slot_list_lt F.entry_list_lt (F.args_list_lt_2 _ _) (list_lt l b items items2 n n2 hsz hI hJ) ⟨hl, hb, (fun z => nomatch z), h⟩ hu
theorem list_le (l b : Addr) (items items2 : Array Value) (n n2 : Nat) (hsz : items.size = items2.size) (hI : allI items.toList = true) (hJ : allI items2.toList = true) :
    Meets (Builtin.«list.__le__» ⟨[.ref l, .ref b], []⟩)
      (fun A R s => s.heap.get? l = some (lstO items n) ∧ s.heap.get? b = some (lstO items2 n2) ∧ R (.ok (.ret (.bool (lexI .LtE (intsOf items.toList) (intsOf items2.toList))))) s) := by
  intro prog w A R s h
  obtain ⟨hp, g, d, tk, os⟩ := s; obtain ⟨hl, hb, h⟩ := h
  have f3 := AutoSeq1.sub_list_list
  have hne : ¬ (items.size != items2.size) = true := by simp [hsz]
  wp_walk using wpAny_loadPart' hl, wpAny_loadPart' hb
  exact ⟨plainId_quiet plain_eq_loop _, codeAny_builtin entry_eq_loop (by
    rw [Around.under_plainId plain_eq_loop _]
    exact loop_le l b items items2 n n2 hsz hI hJ _ 0 rfl prog w A R _ ⟨hl, hb, h⟩)⟩
theorem rc_list_le (hu : A.units < cLine) {l b : Addr} {items items2 : Array Value} {n n2 : Nat} (hsz : items.size = items2.size) (hI : allI items.toList = true) (hJ : allI items2.toList = true)
    (hl : s.heap.get? l = some (lstO items n)) (hb : s.heap.get? b = some (lstO items2 n2)) (h : Q (.bool (lexI .LtE (intsOf items.toList) (intsOf items2.toList))) s) : wpAny (model prog w) A (richCompare .LtE (.ref l) (.ref b)) Q E s :=
  richCompare_meets_room (op := .LtE) ⟨_, hl, rfl⟩ ⟨_, hb, rfl⟩ F.slot_list_le F.entry_list_le (F.args_list_le_2 _ _) (list_le l b items items2 n n2 hsz hI hJ) ⟨hl, hb, (fun z => nomatch z), h⟩ hu
theorem list_eq (l b : Addr) (items items2 : Array Value) (n n2 : Nat) (hsz : items.size = items2.size) (hI : allI items.toList = true) (hJ : allI items2.toList = true) :
    Meets (Builtin.«list.__eq__» ⟨[.ref l, .ref b], []⟩)
      (fun A R s => s.heap.get? l = some (lstO items n) ∧ s.heap.get? b = some (lstO items2 n2) ∧ R (.ok (.ret (.bool (lexI .Eq (intsOf items.toList) (intsOf items2.toList))))) s) := by
  intro prog w A R s h
  obtain ⟨hp, g, d, tk, os⟩ := s; obtain ⟨hl, hb, h⟩ := h
  have f3 := AutoSeq1.sub_list_list
  have hne : ¬ (items.size != items2.size) = true := by simp [hsz]
  wp_walk using wpAny_loadPart' hl, wpAny_loadPart' hb
  exact ⟨plainId_quiet plain_eq_loop _, codeAny_builtin entry_eq_loop (by
    rw [Around.under_plainId plain_eq_loop _]
    exact loop_eq l b items items2 n n2 hsz hI hJ _ 0 rfl prog w A R _ ⟨hl, hb, h⟩)⟩
theorem rc_list_eq (hu : A.units < cLine) {l b : Addr} {items items2 : Array Value} {n n2 : Nat} (hsz : items.size = items2.size) (hI : allI items.toList = true) (hJ : allI items2.toList = true)
    (hl : s.heap.get? l = some (lstO items n)) (hb : s.heap.get? b = some (lstO items2 n2)) (h : Q (.bool (lexI .Eq (intsOf items.toList) (intsOf items2.toList))) s) : wpAny (model prog w) A (richCompare .Eq (.ref l) (.ref b)) Q E s :=
  richCompare_meets_room (op := .Eq) ⟨_, hl, rfl⟩ ⟨_, hb, rfl⟩ F.slot_list_eq F.entry_list_eq (F.args_list_eq_2 _ _) (list_eq l b items items2 n n2 hsz hI hJ) ⟨hl, hb, (fun z => nomatch z), h⟩ hu
theorem list_ne (l b : Addr) (items items2 : Array Value) (n n2 : Nat) (hsz : items.size = items2.size) (hI : allI items.toList = true) (hJ : allI items2.toList = true) :
    Meets (Builtin.«list.__ne__» ⟨[.ref l, .ref b], []⟩)
      (fun A R s => s.heap.get? l = some (lstO items n) ∧ s.heap.get? b = some (lstO items2 n2) ∧ R (.ok (.ret (.bool (lexI .NotEq (intsOf items.toList) (intsOf items2.toList))))) s) := by
  intro prog w A R s h
  obtain ⟨hp, g, d, tk, os⟩ := s; obtain ⟨hl, hb, h⟩ := h
  have f3 := AutoSeq1.sub_list_list
  have hne : ¬ (items.size != items2.size) = true := by simp [hsz]
  wp_walk using wpAny_loadPart' hl, wpAny_loadPart' hb
  exact ⟨plainId_quiet plain_eq_loop _, codeAny_builtin entry_eq_loop (by
    rw [Around.under_plainId plain_eq_loop _]
    exact loop_ne l b items items2 n n2 hsz hI hJ _ 0 rfl prog w A R _ ⟨hl, hb, h⟩)⟩
theorem rc_list_ne (hu : A.units < cLine) {l b : Addr} {items items2 : Array Value} {n n2 : Nat} (hsz : items.size = items2.size) (hI : allI items.toList = true) (hJ : allI items2.toList = true)
    (hl : s.heap.get? l = some (lstO items n)) (hb : s.heap.get? b = some (lstO items2 n2)) (h : Q (.bool (lexI .NotEq (intsOf items.toList) (intsOf items2.toList))) s) : wpAny (model prog w) A (richCompare .NotEq (.ref l) (.ref b)) Q E s :=
  richCompare_meets_room (op := .NotEq) ⟨_, hl, rfl⟩ ⟨_, hb, rfl⟩ F.slot_list_ne F.entry_list_ne (F.args_list_ne_2 _ _) (list_ne l b items items2 n n2 hsz hI hJ) ⟨hl, hb, (fun z => nomatch z), h⟩ hu
theorem list_gt (l b : Addr) (items items2 : Array Value) (n n2 : Nat) (hsz : items.size = items2.size) (hI : allI items.toList = true) (hJ : allI items2.toList = true) :
    Meets (Builtin.«list.__gt__» ⟨[.ref l, .ref b], []⟩)
      (fun A R s => s.heap.get? l = some (lstO items n) ∧ s.heap.get? b = some (lstO items2 n2) ∧ R (.ok (.ret (.bool (lexI .Gt (intsOf items.toList) (intsOf items2.toList))))) s) := by
  intro prog w A R s h
  obtain ⟨hp, g, d, tk, os⟩ := s; obtain ⟨hl, hb, h⟩ := h
  have f3 := AutoSeq1.sub_list_list
  have hne : ¬ (items.size != items2.size) = true := by simp [hsz]
  wp_walk using wpAny_loadPart' hl, wpAny_loadPart' hb
  exact ⟨plainId_quiet plain_eq_loop _, codeAny_builtin entry_eq_loop (by
    rw [Around.under_plainId plain_eq_loop _]
    exact loop_gt l b items items2 n n2 hsz hI hJ _ 0 rfl prog w A R _ ⟨hl, hb, h⟩)⟩
theorem rc_list_gt (hu : A.units < cLine) {l b : Addr} {items items2 : Array Value} {n n2 : Nat} (hsz : items.size = items2.size) (hI : allI items.toList = true) (hJ : allI items2.toList = true)
    (hl : s.heap.get? l = some (lstO items n)) (hb : s.heap.get? b = some (lstO items2 n2)) (h : Q (.bool (lexI .Gt (intsOf items.toList) (intsOf items2.toList))) s) : wpAny (model prog w) A (richCompare .Gt (.ref l) (.ref b)) Q E s :=
  richCompare_meets_room (op := .Gt) ⟨_, hl, rfl⟩ ⟨_, hb, rfl⟩ F.slot_list_gt F.entry_list_gt (F.args_list_gt_2 _ _) (list_gt l b items items2 n n2 hsz hI hJ) ⟨hl, hb, (fun z => nomatch z), h⟩ hu
theorem list_ge (l b : Addr) (items items2 : Array Value) (n n2 : Nat) (hsz : items.size = items2.size) (hI : allI items.toList = true) (hJ : allI items2.toList = true) :
    Meets (Builtin.«list.__ge__» ⟨[.ref l, .ref b], []⟩)
      (fun A R s => s.heap.get? l = some (lstO items n) ∧ s.heap.get? b = some (lstO items2 n2) ∧ R (.ok (.ret (.bool (lexI .GtE (intsOf items.toList) (intsOf items2.toList))))) s) := by
  intro prog w A R s h
  obtain ⟨hp, g, d, tk, os⟩ := s; obtain ⟨hl, hb, h⟩ := h
  have f3 := AutoSeq1.sub_list_list
  have hne : ¬ (items.size != items2.size) = true := by simp [hsz]
  wp_walk using wpAny_loadPart' hl, wpAny_loadPart' hb
  exact ⟨plainId_quiet plain_eq_loop _, codeAny_builtin entry_eq_loop (by
    rw [Around.under_plainId plain_eq_loop _]
    exact loop_ge l b items items2 n n2 hsz hI hJ _ 0 rfl prog w A R _ ⟨hl, hb, h⟩)⟩
theorem rc_list_ge (hu : A.units < cLine) {l b : Addr} {items items2 : Array Value} {n n2 : Nat} (hsz : items.size = items2.size) (hI : allI items.toList = true) (hJ : allI items2.toList = true)
    (hl : s.heap.get? l = some (lstO items n)) (hb : s.heap.get? b = some (lstO items2 n2)) (h : Q (.bool (lexI .GtE (intsOf items.toList) (intsOf items2.toList))) s) : wpAny (model prog w) A (richCompare .GtE (.ref l) (.ref b)) Q E s :=
  richCompare_meets_room (op := .GtE) ⟨_, hl, rfl⟩ ⟨_, hb, rfl⟩ F.slot_list_ge F.entry_list_ge (F.args_list_ge_2 _ _) (list_ge l b items items2 n n2 hsz hI hJ) ⟨hl, hb, (fun z => nomatch z), h⟩ hu
theorem eqB {x y : Int} {t u : Nat} {Q : Bool → Shared → Prop} {m : Sem Bool} (h : Q (x == y) s) (e : eqBool (.int x t) (.int y u) = holding [.int x t, .int y u] m := by rfl) : wpAny (model prog w) A m Q E s := fun Γ p hΓ => by
  have z := wpAny_eqBool_int (prog := prog) (w := w) (A := A) (E := E) (t := t) (u := u) h Γ p hΓ
  rw [e, Sem.wp_holding] at z
  exact z
theorem tup_lt (l b : Addr) (x1 y1 x2 y2 : Int) (t1 u1 t2 u2 : Nat) :
    Meets (Builtin.«tuple.__lt__» ⟨[.ref l, .ref b], []⟩)
      (fun A R s => s.heap.get? l = some { cls := .type "tuple", data := .seq #[.int x1 t1, .int y1 u1] 0 } ∧ s.heap.get? b = some { cls := .type "tuple", data := .seq #[.int x2 t2, .int y2 u2] 0 } ∧ R (.ok (.ret (.bool (lexI .Lt [x1, y1] [x2, y2])))) s) := by
  refine .of_wp fun prog w A R s h => ?_
  obtain ⟨hp, g, d, tk, os⟩ := s; obtain ⟨hl, hb, h⟩ := h
  have f2 := AutoSeq1.sub_tuple_tuple
  wp_walk using wpAny_loadPart' hl, wpAny_loadPart' hb
  refine eqB ?_
  by_cases q : x1 = x2
  · subst q
    rw [beq_self_eq_true]
    wp_walk
    refine eqB ?_
    by_cases q2 : y1 = y2
    · subst q2
      rw [beq_self_eq_true]
      wp_walk
      exact ⟨_, rfl, by simpa [lexI, cmpI, Builtin.Tuple.tupleCompareSizes] using h⟩
    · have q3 : (y1 == y2) = false := by simpa using q2
      rw [q3]
      have h' : R (.ok (.ret (.bool (cmpI .Lt y1 y2)))) ⟨hp, g, d, tk, os⟩ := by simpa [lexI, q2] using h
      refine wpAny_bind (wpAny_rule (wpAny_bind (rc_int_lt ?_)))
      wp_walk
      exact ⟨_, rfl, h'⟩
  · have q3 : (x1 == x2) = false := by simpa using q
    rw [q3]
    have h' : R (.ok (.ret (.bool (cmpI .Lt x1 x2)))) ⟨hp, g, d, tk, os⟩ := by simpa [lexI, q] using h
    refine wpAny_bind (wpAny_rule (wpAny_bind (rc_int_lt ?_)))
    wp_walk
    exact ⟨_, rfl, h'⟩
theorem tup_gt (l b : Addr) (x1 y1 x2 y2 : Int) (t1 u1 t2 u2 : Nat) :
    Meets (Builtin.«tuple.__gt__» ⟨[.ref l, .ref b], []⟩)
      (fun A R s => s.heap.get? l = some { cls := .type "tuple", data := .seq #[.int x1 t1, .int y1 u1] 0 } ∧ s.heap.get? b = some { cls := .type "tuple", data := .seq #[.int x2 t2, .int y2 u2] 0 } ∧ R (.ok (.ret (.bool (lexI .Gt [x1, y1] [x2, y2])))) s) := by
  refine .of_wp fun prog w A R s h => ?_
  obtain ⟨hp, g, d, tk, os⟩ := s; obtain ⟨hl, hb, h⟩ := h
  have f2 := AutoSeq1.sub_tuple_tuple
  wp_walk using wpAny_loadPart' hl, wpAny_loadPart' hb
  refine eqB ?_
  by_cases q : x1 = x2
  · subst q
    rw [beq_self_eq_true]
    wp_walk
    refine eqB ?_
    by_cases q2 : y1 = y2
    · subst q2
      rw [beq_self_eq_true]
      wp_walk
      exact ⟨_, rfl, by simpa [lexI, cmpI, Builtin.Tuple.tupleCompareSizes] using h⟩
    · have q3 : (y1 == y2) = false := by simpa using q2
      rw [q3]
      have h' : R (.ok (.ret (.bool (cmpI .Gt y1 y2)))) ⟨hp, g, d, tk, os⟩ := by simpa [lexI, q2] using h
      refine wpAny_bind (wpAny_rule (wpAny_bind (rc_int_gt ?_)))
      wp_walk
      exact ⟨_, rfl, h'⟩
  · have q3 : (x1 == x2) = false := by simpa using q
    rw [q3]
    have h' : R (.ok (.ret (.bool (cmpI .Gt x1 x2)))) ⟨hp, g, d, tk, os⟩ := by simpa [lexI, q] using h
    refine wpAny_bind (wpAny_rule (wpAny_bind (rc_int_gt ?_)))
    wp_walk
    exact ⟨_, rfl, h'⟩
theorem rc_tup_lt (hu : A.units < cLine) {l b : Addr} {x1 y1 x2 y2 : Int} {t1 u1 t2 u2 : Nat} (hl : s.heap.get? l = some { cls := .type "tuple", data := .seq #[.int x1 t1, .int y1 u1] 0 }) (hb : s.heap.get? b = some { cls := .type "tuple", data := .seq #[.int x2 t2, .int y2 u2] 0 })
    (h : Q (.bool (lexI .Lt [x1, y1] [x2, y2])) s) : wpAny (model prog w) A (richCompare .Lt (.ref l) (.ref b)) Q E s :=
  richCompare_meets_room (op := .Lt) ⟨_, hl, rfl⟩ ⟨_, hb, rfl⟩ F.slot_tuple_lt F.entry_tuple_lt (F.args_tuple_lt_2 _ _) (tup_lt l b x1 y1 x2 y2 t1 u1 t2 u2) ⟨hl, hb, (fun z => nomatch z), h⟩ hu
theorem rc_str_lt {x y : Str} {t u : Nat} (h : Q (.bool (decide (x.cps.toList < y.cps.toList))) s) : wpAny (model prog w) A (richCompare .Lt (.str x t) (.str y u)) Q E s :=
  richCompare_gives (op := .Lt) (typeIs_str s x t) (typeIs_str s y u) F.slot_str_lt F.entry_str_lt (F.args_str_lt_2 _ _) (gives_str_lt x y t u) (fun e => nomatch e) h
theorem rc_tup_gt (hu : A.units < cLine) {l b : Addr} {x1 y1 x2 y2 : Int} {t1 u1 t2 u2 : Nat} (hl : s.heap.get? l = some { cls := .type "tuple", data := .seq #[.int x1 t1, .int y1 u1] 0 }) (hb : s.heap.get? b = some { cls := .type "tuple", data := .seq #[.int x2 t2, .int y2 u2] 0 })
    (h : Q (.bool (lexI .Gt [x1, y1] [x2, y2])) s) : wpAny (model prog w) A (richCompare .Gt (.ref l) (.ref b)) Q E s :=
  richCompare_meets_room (op := .Gt) ⟨_, hl, rfl⟩ ⟨_, hb, rfl⟩ F.slot_tuple_gt F.entry_tuple_gt (F.args_tuple_gt_2 _ _) (tup_gt l b x1 y1 x2 y2 t1 u1 t2 u2) ⟨hl, hb, (fun z => nomatch z), h⟩ hu
theorem rc_str_gt {x y : Str} {t u : Nat} (h : Q (.bool (decide (x.cps.toList > y.cps.toList))) s) : wpAny (model prog w) A (richCompare .Gt (.str x t) (.str y u)) Q E s :=
  richCompare_gives (op := .Gt) (typeIs_str s x t) (typeIs_str s y u) F.slot_str_gt F.entry_str_gt (F.args_str_gt_2 _ _) (gives_str_gt x y t u) (fun e => nomatch e) h
end
end Mine
namespace Mine
open PySem PySem.W PySem.W.X PySem.Spec PySem.Calls PyProof.Rows
open PySem.W.Fast
noncomputable def V0 (P : Params) (prog : Program) : Env9 := ⟨⟨prog, P⟩, fun _ => false⟩
noncomputable def mkCall : Expr := retE ((forB (inSt (stAt 13) 1)).getD 0 (.Pass ⟨0, 0, 0, 0⟩))
set_option backward.match.sparseCases false in
noncomputable def argE : Expr → Expr
  | .Call _ (a :: _) _ _ => a
  | e => e
noncomputable def mkO : Expr := argE mkCall
set_option backward.match.sparseCases false in
noncomputable def eltE : Expr → Expr
  | .ListComp e _ _ _ => e
  | e => e
set_option backward.match.sparseCases false in
noncomputable def binR : Expr → Expr
  | .BinOp _ _ r _ => r
  | e => e
noncomputable def mkE : Expr := argE (binR (eltE mkO))
set_option backward.match.sparseCases false in
noncomputable def lcIf : Expr → Expr
  | .ListComp _ (⟨_, _, c :: _, _⟩ :: _) _ _ => c
  | e => e
set_option backward.match.sparseCases false in
noncomputable def lcTg : Expr → Expr
  | .ListComp _ (⟨t, _, _, _⟩ :: _) _ _ => t
  | e => e
set_option backward.match.sparseCases false in
noncomputable def lcIt : Expr → Expr
  | .ListComp _ (⟨_, t, _, _⟩ :: _) _ _ => t
  | e => e
set_option backward.match.sparseCases false in
noncomputable def cmpL : Expr → Expr
  | .Compare l _ _ _ => l
  | e => e
set_option backward.match.sparseCases false in
noncomputable def cmpR : Expr → Expr
  | .Compare _ _ (r :: _) _ => r
  | e => e
set_option backward.match.sparseCases false in
noncomputable def posE : Expr → Pos
  | .ListComp _ _ _ p => p
  | .Compare _ _ _ p => p
  | _ => ⟨0, 0, 0, 0⟩
structure Rows where
  R0 : Nat
  R1 : Nat
  R2 : Nat
  R3 : Nat
  R4 : Nat
  R5 : Nat
  T0 : Nat
  T1 : Nat
  T2 : Nat
  T3 : Nat
  T4 : Nat
  T5 : Nat
  r0 : RowD
  r1 : RowD
  r2 : RowD
  r3 : RowD
  r4 : RowD
  r5 : RowD
noncomputable def Rows.R (W : Rows) : Nat → Nat
  | 0 => W.R0 | 1 => W.R1 | 2 => W.R2 | 3 => W.R3 | 4 => W.R4 | _ => W.R5
noncomputable def Rows.T (W : Rows) : Nat → Nat
  | 0 => W.T0 | 1 => W.T1 | 2 => W.T2 | 3 => W.T3 | 4 => W.T4 | _ => W.T5
noncomputable def Rows.r (W : Rows) : Nat → RowD
  | 0 => W.r0 | 1 => W.r1 | 2 => W.r2 | 3 => W.r3 | 4 => W.r4 | _ => W.r5
noncomputable def rsF (W : Rows) (l : Facts) : Facts :=
  (W.R0, rowO W.r0 W.T0 0) :: (W.T0, tupO W.r0) :: (W.R1, rowO W.r1 W.T1 1) :: (W.T1, tupO W.r1) :: (W.R2, rowO W.r2 W.T2 2) :: (W.T2, tupO W.r2) ::
  (W.R3, rowO W.r3 W.T3 3) :: (W.T3, tupO W.r3) :: (W.R4, rowO W.r4 W.T4 4) :: (W.T4, tupO W.r4) :: (W.R5, rowO W.r5 W.T5 5) :: (W.T5, tupO W.r5) :: l
noncomputable abbrev rowsO (W : Rows) : Obj := lstO #[.ref W.R0, .ref W.R1, .ref W.R2, .ref W.R3, .ref W.R4, .ref W.R5] 6
noncomputable abbrev cellO (v : Value) : Obj := { cls := .type "cell", data := .cell (some v) }
noncomputable abbrev litO (a : Addr) (i : Int) : Obj := { cls := .type "list_iterator", data := .fields #[.ref a, .int i 0] }
noncomputable def ltC (c : Nat) (x y : RowD) : Bool := match c with
  | 0 => decide (x.b < y.b)
  | 1 => decide (x.w.cps.toList < y.w.cps.toList)
  | _ => lexI .Lt [x.p, x.q] [y.p, y.q]
noncomputable def cntC (c : Nat) (W : Rows) (r : RowD) : Nat → Nat
  | 0 => 0
  | k + 1 => cntC c W r k + if ltC c (W.r k) r = true then 1 else 0
theorem cntC_le (c : Nat) (W : Rows) (r : RowD) : ∀ k, cntC c W r k ≤ k
  | 0 => Nat.le_refl _
  | k + 1 => by
    have := cntC_le c W r k
    unfold cntC
    split <;> omega
noncomputable def mkEnv (FR C2 C8 DD : Nat) : Env := { scope := lcC mkE [2,3], locals := DD, globals := 3, cells := [(Str.ofString "row", C2), (Str.ofString "column", C8)], qual := Str.ofString "_law_marks.<locals>.", func := none, code := .ref 102, frame := some FR, builtins := 0 }
noncomputable def mkD (P : Params) : Option (Nat × Nat) → Data
  | none => .dict #[] 0
  | some p => .dict #[de P "one" p.1 (.ref p.2)] 1
noncomputable def mkF (X0 C2 C8 : Nat) (c : Int) (tc Rr Tr : Nat) (rr : RowD) (ir : Int) (W : Rows) (Fx : Facts) : Facts :=
  (X0, rowsO W) :: (C2, cellO (.ref Rr)) :: (C8, cellO (.int c tc)) :: (Rr, rowO rr Tr ir) :: (Tr, tupO rr) :: rsF W Fx
noncomputable def mkM (P : Params) (F : Facts) (X0 I ACC DD : Nat) (k : Int) (ys : Array Value) (yn : Nat) (dd : Option (Nat × Nat)) (nx tk : Nat) : Mm :=
  ⟨kt P, F, [(I, litO X0 k), (ACC, lstO ys yn), (DD, { cls := .type "dict", data := mkD P dd })], [], nx, tk⟩
section
variable {prog : Program} {w : World} {A : Around} {h₀ h : Heap} {g : Array GenState} {d : Drawn} {tk : Nat} {os : OsState} {b1 b2 : Bool} {q : Params}
variable {FR X0 C2 C8 tc Rr Tr I ACC DD yn nx : Nat} {c ir : Int} {rr : RowD} {W : Rows} {Fx : Facts} {ys : Array Value} {dd : Option (Nat × Nat)}
theorem mkNext {nn : Nat} (L : Deep nn A) (hw : w.params = PX b1 b2 q) {k : Nat} (hk : k < 6) {Q : Option Value → Shared → Prop} {E : Value → Shared → Prop}
    (D : Rep h₀ (mkM (PX b1 b2 q) (mkF X0 C2 C8 c tc Rr Tr rr ir W Fx) X0 I ACC DD k ys yn dd nx tk) h)
    (H : ∀ h' tk', Rep h₀ (mkM (PX b1 b2 q) (mkF X0 C2 C8 c tc Rr Tr rr ir W Fx) X0 I ACC DD (k + 1 : Nat) ys yn dd nx tk') h' → Q (some (.ref (W.R k))) ⟨h', g, d, tk', os⟩) :
    wpAny (model prog w) A (pyNext (.ref I)) Q E ⟨h, g, d, tk, os⟩ := by
  have e : pyNext (.ref I) = tw9404975358583537561 (.ref I) := congrFun te9404975358583537561 _
  refine piece_of e encO L (V := V0 (PX b1 b2 q) prog) (by rw [hw]; rfl) 10000 0 (hz [1,1,1,1,0,1,1]) D ?_
  have : k = 0 ∨ k = 1 ∨ k = 2 ∨ k = 3 ∨ k = 4 ∨ k = 5 := lt6 (by first | assumption | omega)
  have key : ∀ (k : Nat) (res : Res), (∀ h' tk', Rep h₀ (mkM (PX b1 b2 q) (mkF X0 C2 C8 c tc Rr Tr rr ir W Fx) X0 I ACC DD (k + 1 : Nat) ys yn dd nx tk') h' → Q (some (.ref (W.R k))) ⟨h', g, d, tk', os⟩) → res.dw = res.wd (.ok (.ret (.ref (W.R k)))) [] →
      (res.mI.T, res.mI.B, res.mI.nx, ([] : List Nat).map (Mine.atM res.mI), [0,1,2].map (nth res.mI.Z)) = (kt (PX b1 b2 q), [], nx, ([] : Facts).map some, (mkM (PX b1 b2 q) (mkF X0 C2 C8 c tc Rr Tr rr ir W Fx) X0 I ACC DD (k + 1 : Nat) ys yn dd nx 0).Z.map some) →
      res.mI.F = mkF X0 C2 C8 c tc Rr Tr rr ir W Fx →
      Good prog w A (fun r s' => match r with | .ok fl => ∀ a, encO a = fl → Q a s' | .error _ => False) h₀ g d os res := fun k res H e1 e2 e3 => by
    refine good_done (r := .ok (.ret (.ref (W.R k)))) (pp := []) e1 trivial fun h1 D1 => ?_
    intro a ha
    cases a with
    | none => cases ha
    | some v =>
      cases ha
      exact H _ _ (D1.toF [0,1,2] e2 e3 rfl)
  rcases this with rfl | rfl | rfl | rfl | rfl | rfl
  · exact key 0 _ H (by generalize b1 = b; revert b; exact kB (by kernel_rfl)) (by generalize b1 = b; revert b; exact kB (by kernel_rfl)) (by generalize b1 = b; revert b; exact kB (by kernel_rfl))
  · exact key 1 _ H (by generalize b1 = b; revert b; exact kB (by kernel_rfl)) (by generalize b1 = b; revert b; exact kB (by kernel_rfl)) (by generalize b1 = b; revert b; exact kB (by kernel_rfl))
  · exact key 2 _ H (by generalize b1 = b; revert b; exact kB (by kernel_rfl)) (by generalize b1 = b; revert b; exact kB (by kernel_rfl)) (by generalize b1 = b; revert b; exact kB (by kernel_rfl))
  · exact key 3 _ H (by generalize b1 = b; revert b; exact kB (by kernel_rfl)) (by generalize b1 = b; revert b; exact kB (by kernel_rfl)) (by generalize b1 = b; revert b; exact kB (by kernel_rfl))
  · exact key 4 _ H (by generalize b1 = b; revert b; exact kB (by kernel_rfl)) (by generalize b1 = b; revert b; exact kB (by kernel_rfl)) (by generalize b1 = b; revert b; exact kB (by kernel_rfl))
  · exact key 5 _ H (by generalize b1 = b; revert b; exact kB (by kernel_rfl)) (by generalize b1 = b; revert b; exact kB (by kernel_rfl)) (by generalize b1 = b; revert b; exact kB (by kernel_rfl))
end
end Mine
namespace Mine
open PySem PySem.W PySem.W.X PySem.Spec PySem.Calls PyProof.Rows
open PySem.W.Fast
noncomputable def celV (c : Nat) (r : RowD) (T : Nat) : Value := match c with
  | 0 => .int r.b r.tb
  | 1 => .str r.w r.tw
  | _ => .ref T
section
variable {prog : Program} {w : World} {A : Around} {h₀ h : Heap} {g : Array GenState} {d : Drawn} {tk : Nat} {os : OsState} {b1 b2 : Bool} {q : Params}
variable {FR X0 C2 C8 tc Rr Tr I ACC DD yn nx : Nat} {ir : Int} {rr : RowD} {W : Rows} {Fx : Facts} {ys : Array Value}
theorem mkAssign {nn : Nat} (L : Deep nn A) (hw : w.params = PX b1 b2 q) {c : Int} {k : Int} {dd : Option (Nat × Nat)} {v : Nat} {Q : Unit → Shared → Prop} {E : Value → Shared → Prop}
    (D : Rep h₀ (mkM (PX b1 b2 q) (mkF X0 C2 C8 c tc Rr Tr rr ir W Fx) X0 I ACC DD k ys yn dd nx tk) h)
    (H : ∀ h' tk' e, Rep h₀ (mkM (PX b1 b2 q) (mkF X0 C2 C8 c tc Rr Tr rr ir W Fx) X0 I ACC DD k ys yn (some (e, v)) nx tk') h' → Q () ⟨h', g, d, tk', os⟩) :
    wpAny (model prog w) A (assign (lcTg mkE) (mkEnv FR C2 C8 DD) (.ref v)) Q E ⟨h, g, d, tk, os⟩ := by
  have e : assign (lcTg mkE) (mkEnv FR C2 C8 DD) (.ref v) = tw17772580674575903948 (lcTg mkE) (mkEnv FR C2 C8 DD) (.ref v) := by rw [← te17772580674575903948]
  refine piece_of e encU L (V := V0 (PX b1 b2 q) prog) (by rw [hw]; rfl) 10000 0 [7,0,7,0] D ?_
  cases dd with
  | none =>
    refine good_done (r := .ok .next) (pp := []) (by generalize b1 = b; revert b; exact kB (by kernel_rfl)) trivial fun h1 D1 => ?_
    exact fun _ _ => H _ _ tk (D1.toF (Z := (mkM (PX b1 b2 q) (mkF X0 C2 C8 c tc Rr Tr rr ir W Fx) X0 I ACC DD k ys yn (some (tk, v)) nx 0).Z) (B := []) (nx := nx) [0,1,2] (by generalize b1 = b; revert b; exact kB (by kernel_rfl)) (by generalize b1 = b; revert b; exact kB (by kernel_rfl)) rfl)
  | some p =>
    refine good_done (r := .ok .next) (pp := []) (by generalize b1 = b; revert b; exact kB (by kernel_rfl)) trivial fun h1 D1 => ?_
    exact fun _ _ => H _ _ p.1 (D1.toF (Z := (mkM (PX b1 b2 q) (mkF X0 C2 C8 c tc Rr Tr rr ir W Fx) X0 I ACC DD k ys yn (some (p.1, v)) nx 0).Z) (B := []) (nx := nx) [0,1,2] (by generalize b1 = b; revert b; exact kB (by kernel_rfl)) (by generalize b1 = b; revert b; exact kB (by kernel_rfl)) rfl)
theorem mkKeep {k : Int} {c : Int} {dd : Option (Nat × Nat)} {enc : Value → Flow} {Q : Value → Shared → Prop} (hE : ∀ a b, enc a = enc b → a = b) (v : Value) (res : Res) (H : ∀ h' tk', Rep h₀ (mkM (PX b1 b2 q) (mkF X0 C2 C8 c tc Rr Tr rr ir W Fx) X0 I ACC DD k ys yn dd nx tk') h' → Q v ⟨h', g, d, tk', os⟩)
    (e1 : res.dw = res.wd (.ok (enc v)) []) (e2 : (res.mI.T, res.mI.B, res.mI.nx, ([] : List Nat).map (Mine.atM res.mI), [0,1,2].map (nth res.mI.Z)) = (kt (PX b1 b2 q), [], nx, ([] : Facts).map some, (mkM (PX b1 b2 q) (mkF X0 C2 C8 c tc Rr Tr rr ir W Fx) X0 I ACC DD k ys yn dd nx 0).Z.map some)) (e3 : res.mI.F = mkF X0 C2 C8 c tc Rr Tr rr ir W Fx) :
    Good prog w A (fun r s' => match r with | .ok fl => ∀ a, enc a = fl → Q a s' | .error _ => False) h₀ g d os res := by
  refine good_done (r := .ok (enc v)) (pp := []) e1 trivial fun h1 D1 => ?_
  intro a ha
  rw [hE a v ha]
  exact H _ _ (D1.toF [0,1,2] e2 e3 rfl)
theorem encV_inj : ∀ a b : Value, Flow.ret a = Flow.ret b → a = b := fun a b h => by cases h; rfl
theorem mkEvalL {nn : Nat} (L : Deep nn A) (hw : w.params = PX b1 b2 q) {k c e : Nat} {kk : Int} (hk : k < 6) (hc : c < 3) {Q : Value → Shared → Prop} {E : Value → Shared → Prop}
    (D : Rep h₀ (mkM (PX b1 b2 q) (mkF X0 C2 C8 c tc Rr Tr rr ir W Fx) X0 I ACC DD kk ys yn (some (e, W.R k)) nx tk) h)
    (H : ∀ h' tk', Rep h₀ (mkM (PX b1 b2 q) (mkF X0 C2 C8 c tc Rr Tr rr ir W Fx) X0 I ACC DD kk ys yn (some (e, W.R k)) nx tk') h' → Q (celV c (W.r k) (W.T k)) ⟨h', g, d, tk', os⟩) :
    wpAny (model prog w) A (eval (cmpL (lcIf mkE)) (mkEnv FR C2 C8 DD)) Q E ⟨h, g, d, tk, os⟩ := by
  have e : eval (cmpL (lcIf mkE)) (mkEnv FR C2 C8 DD) = tw14044960220447912780 (cmpL (lcIf mkE)) (mkEnv FR C2 C8 DD) := by rw [← te14044960220447912780]
  have : k = 0 ∨ k = 1 ∨ k = 2 ∨ k = 3 ∨ k = 4 ∨ k = 5 := lt6 (by first | assumption | omega)
  have hc' : c = 0 ∨ c = 1 ∨ c = 2 := by omega
  rcases this with rfl | rfl | rfl | rfl | rfl | rfl <;> rcases hc' with rfl | rfl | rfl
  · exact piece_of e Flow.ret L (V := V0 (PX b1 b2 q) prog) (by rw [hw]; rfl) 10000 0 (hz [7,6,15,15,15,15,15]) D (mkKeep encV_inj (celV 0 (W.r 0) (W.T 0)) _ H (by generalize b1 = b; revert b; exact kB (by kernel_rfl)) (by generalize b1 = b; revert b; exact kB (by kernel_rfl)) (by generalize b1 = b; revert b; exact kB (by kernel_rfl)))
  · exact piece_of e Flow.ret L (V := V0 (PX b1 b2 q) prog) (by rw [hw]; rfl) 10000 0 (hz [7,6,15,15,15,15,15]) D (mkKeep encV_inj (celV 1 (W.r 0) (W.T 0)) _ H (by generalize b1 = b; revert b; exact kB (by kernel_rfl)) (by generalize b1 = b; revert b; exact kB (by kernel_rfl)) (by generalize b1 = b; revert b; exact kB (by kernel_rfl)))
  · exact piece_of e Flow.ret L (V := V0 (PX b1 b2 q) prog) (by rw [hw]; rfl) 10000 0 (hz [7,6,15,15,15,15,15]) D (mkKeep encV_inj (celV 2 (W.r 0) (W.T 0)) _ H (by generalize b1 = b; revert b; exact kB (by kernel_rfl)) (by generalize b1 = b; revert b; exact kB (by kernel_rfl)) (by generalize b1 = b; revert b; exact kB (by kernel_rfl)))
  · exact piece_of e Flow.ret L (V := V0 (PX b1 b2 q) prog) (by rw [hw]; rfl) 10000 0 (hz [7,6,21,21,21,21,21]) D (mkKeep encV_inj (celV 0 (W.r 1) (W.T 1)) _ H (by generalize b1 = b; revert b; exact kB (by kernel_rfl)) (by generalize b1 = b; revert b; exact kB (by kernel_rfl)) (by generalize b1 = b; revert b; exact kB (by kernel_rfl)))
  · exact piece_of e Flow.ret L (V := V0 (PX b1 b2 q) prog) (by rw [hw]; rfl) 10000 0 (hz [7,6,21,21,21,21,21]) D (mkKeep encV_inj (celV 1 (W.r 1) (W.T 1)) _ H (by generalize b1 = b; revert b; exact kB (by kernel_rfl)) (by generalize b1 = b; revert b; exact kB (by kernel_rfl)) (by generalize b1 = b; revert b; exact kB (by kernel_rfl)))
  · exact piece_of e Flow.ret L (V := V0 (PX b1 b2 q) prog) (by rw [hw]; rfl) 10000 0 (hz [7,6,21,21,21,21,21]) D (mkKeep encV_inj (celV 2 (W.r 1) (W.T 1)) _ H (by generalize b1 = b; revert b; exact kB (by kernel_rfl)) (by generalize b1 = b; revert b; exact kB (by kernel_rfl)) (by generalize b1 = b; revert b; exact kB (by kernel_rfl)))
  · exact piece_of e Flow.ret L (V := V0 (PX b1 b2 q) prog) (by rw [hw]; rfl) 10000 0 (hz [7,6,27,27,27,27,27]) D (mkKeep encV_inj (celV 0 (W.r 2) (W.T 2)) _ H (by generalize b1 = b; revert b; exact kB (by kernel_rfl)) (by generalize b1 = b; revert b; exact kB (by kernel_rfl)) (by generalize b1 = b; revert b; exact kB (by kernel_rfl)))
  · exact piece_of e Flow.ret L (V := V0 (PX b1 b2 q) prog) (by rw [hw]; rfl) 10000 0 (hz [7,6,27,27,27,27,27]) D (mkKeep encV_inj (celV 1 (W.r 2) (W.T 2)) _ H (by generalize b1 = b; revert b; exact kB (by kernel_rfl)) (by generalize b1 = b; revert b; exact kB (by kernel_rfl)) (by generalize b1 = b; revert b; exact kB (by kernel_rfl)))
  · exact piece_of e Flow.ret L (V := V0 (PX b1 b2 q) prog) (by rw [hw]; rfl) 10000 0 (hz [7,6,27,27,27,27,27]) D (mkKeep encV_inj (celV 2 (W.r 2) (W.T 2)) _ H (by generalize b1 = b; revert b; exact kB (by kernel_rfl)) (by generalize b1 = b; revert b; exact kB (by kernel_rfl)) (by generalize b1 = b; revert b; exact kB (by kernel_rfl)))
  · exact piece_of e Flow.ret L (V := V0 (PX b1 b2 q) prog) (by rw [hw]; rfl) 10000 0 (hz [7,6,33,33,33,33,33]) D (mkKeep encV_inj (celV 0 (W.r 3) (W.T 3)) _ H (by generalize b1 = b; revert b; exact kB (by kernel_rfl)) (by generalize b1 = b; revert b; exact kB (by kernel_rfl)) (by generalize b1 = b; revert b; exact kB (by kernel_rfl)))
  · exact piece_of e Flow.ret L (V := V0 (PX b1 b2 q) prog) (by rw [hw]; rfl) 10000 0 (hz [7,6,33,33,33,33,33]) D (mkKeep encV_inj (celV 1 (W.r 3) (W.T 3)) _ H (by generalize b1 = b; revert b; exact kB (by kernel_rfl)) (by generalize b1 = b; revert b; exact kB (by kernel_rfl)) (by generalize b1 = b; revert b; exact kB (by kernel_rfl)))
  · exact piece_of e Flow.ret L (V := V0 (PX b1 b2 q) prog) (by rw [hw]; rfl) 10000 0 (hz [7,6,33,33,33,33,33]) D (mkKeep encV_inj (celV 2 (W.r 3) (W.T 3)) _ H (by generalize b1 = b; revert b; exact kB (by kernel_rfl)) (by generalize b1 = b; revert b; exact kB (by kernel_rfl)) (by generalize b1 = b; revert b; exact kB (by kernel_rfl)))
  · exact piece_of e Flow.ret L (V := V0 (PX b1 b2 q) prog) (by rw [hw]; rfl) 10000 0 (hz [7,6,39,39,39,39,39]) D (mkKeep encV_inj (celV 0 (W.r 4) (W.T 4)) _ H (by generalize b1 = b; revert b; exact kB (by kernel_rfl)) (by generalize b1 = b; revert b; exact kB (by kernel_rfl)) (by generalize b1 = b; revert b; exact kB (by kernel_rfl)))
  · exact piece_of e Flow.ret L (V := V0 (PX b1 b2 q) prog) (by rw [hw]; rfl) 10000 0 (hz [7,6,39,39,39,39,39]) D (mkKeep encV_inj (celV 1 (W.r 4) (W.T 4)) _ H (by generalize b1 = b; revert b; exact kB (by kernel_rfl)) (by generalize b1 = b; revert b; exact kB (by kernel_rfl)) (by generalize b1 = b; revert b; exact kB (by kernel_rfl)))
  · exact piece_of e Flow.ret L (V := V0 (PX b1 b2 q) prog) (by rw [hw]; rfl) 10000 0 (hz [7,6,39,39,39,39,39]) D (mkKeep encV_inj (celV 2 (W.r 4) (W.T 4)) _ H (by generalize b1 = b; revert b; exact kB (by kernel_rfl)) (by generalize b1 = b; revert b; exact kB (by kernel_rfl)) (by generalize b1 = b; revert b; exact kB (by kernel_rfl)))
  · exact piece_of e Flow.ret L (V := V0 (PX b1 b2 q) prog) (by rw [hw]; rfl) 10000 0 (hz [7,6,45,45,45,45,45]) D (mkKeep encV_inj (celV 0 (W.r 5) (W.T 5)) _ H (by generalize b1 = b; revert b; exact kB (by kernel_rfl)) (by generalize b1 = b; revert b; exact kB (by kernel_rfl)) (by generalize b1 = b; revert b; exact kB (by kernel_rfl)))
  · exact piece_of e Flow.ret L (V := V0 (PX b1 b2 q) prog) (by rw [hw]; rfl) 10000 0 (hz [7,6,45,45,45,45,45]) D (mkKeep encV_inj (celV 1 (W.r 5) (W.T 5)) _ H (by generalize b1 = b; revert b; exact kB (by kernel_rfl)) (by generalize b1 = b; revert b; exact kB (by kernel_rfl)) (by generalize b1 = b; revert b; exact kB (by kernel_rfl)))
  · exact piece_of e Flow.ret L (V := V0 (PX b1 b2 q) prog) (by rw [hw]; rfl) 10000 0 (hz [7,6,45,45,45,45,45]) D (mkKeep encV_inj (celV 2 (W.r 5) (W.T 5)) _ H (by generalize b1 = b; revert b; exact kB (by kernel_rfl)) (by generalize b1 = b; revert b; exact kB (by kernel_rfl)) (by generalize b1 = b; revert b; exact kB (by kernel_rfl)))
theorem mkEvalR {nn : Nat} (L : Deep nn A) (hw : w.params = PX b1 b2 q) {c : Nat} {dd : Option (Nat × Nat)} {kk : Int} (hc : c < 3) {Q : Value → Shared → Prop} {E : Value → Shared → Prop}
    (D : Rep h₀ (mkM (PX b1 b2 q) (mkF X0 C2 C8 c tc Rr Tr rr ir W Fx) X0 I ACC DD kk ys yn dd nx tk) h)
    (H : ∀ h' tk', Rep h₀ (mkM (PX b1 b2 q) (mkF X0 C2 C8 c tc Rr Tr rr ir W Fx) X0 I ACC DD kk ys yn dd nx tk') h' → Q (celV c rr Tr) ⟨h', g, d, tk', os⟩) :
    wpAny (model prog w) A (eval (cmpR (lcIf mkE)) (mkEnv FR C2 C8 DD)) Q E ⟨h, g, d, tk, os⟩ := by
  have e : eval (cmpR (lcIf mkE)) (mkEnv FR C2 C8 DD) = tw14044960220447912780 (cmpR (lcIf mkE)) (mkEnv FR C2 C8 DD) := by rw [← te14044960220447912780]
  have hc' : c = 0 ∨ c = 1 ∨ c = 2 := by omega
  rcases hc' with rfl | rfl | rfl
  · exact piece_of e Flow.ret L (V := V0 (PX b1 b2 q) prog) (by rw [hw]; rfl) 10000 0 (hz [3,6,9,9,9,9,9]) D (mkKeep encV_inj (celV 0 rr Tr) _ H (by generalize b1 = b; revert b; exact kB (by kernel_rfl)) (by generalize b1 = b; revert b; exact kB (by kernel_rfl)) (by generalize b1 = b; revert b; exact kB (by kernel_rfl)))
  · exact piece_of e Flow.ret L (V := V0 (PX b1 b2 q) prog) (by rw [hw]; rfl) 10000 0 (hz [3,6,9,9,9,9,9]) D (mkKeep encV_inj (celV 1 rr Tr) _ H (by generalize b1 = b; revert b; exact kB (by kernel_rfl)) (by generalize b1 = b; revert b; exact kB (by kernel_rfl)) (by generalize b1 = b; revert b; exact kB (by kernel_rfl)))
  · exact piece_of e Flow.ret L (V := V0 (PX b1 b2 q) prog) (by rw [hw]; rfl) 10000 0 (hz [3,6,9,9,9,9,9]) D (mkKeep encV_inj (celV 2 rr Tr) _ H (by generalize b1 = b; revert b; exact kB (by kernel_rfl)) (by generalize b1 = b; revert b; exact kB (by kernel_rfl)) (by generalize b1 = b; revert b; exact kB (by kernel_rfl)))
theorem mkElt {nn : Nat} (L : Deep nn A) (hw : w.params = PX b1 b2 q) {c : Int} {e v : Nat} {kk : Int} {Q : Value → Shared → Prop} {E : Value → Shared → Prop}
    (D : Rep h₀ (mkM (PX b1 b2 q) (mkF X0 C2 C8 c tc Rr Tr rr ir W Fx) X0 I ACC DD kk ys yn (some (e, v)) nx tk) h)
    (H : ∀ h' tk', Rep h₀ (mkM (PX b1 b2 q) (mkF X0 C2 C8 c tc Rr Tr rr ir W Fx) X0 I ACC DD kk ys yn (some (e, v)) nx tk') h' → Q (.ref v) ⟨h', g, d, tk', os⟩) :
    wpAny (model prog w) A (eval (eltE mkE) (mkEnv FR C2 C8 DD)) Q E ⟨h, g, d, tk, os⟩ := by
  have e : eval (eltE mkE) (mkEnv FR C2 C8 DD) = tw14044960220447912780 (eltE mkE) (mkEnv FR C2 C8 DD) := by rw [← te14044960220447912780]
  exact piece_of e Flow.ret L (V := V0 (PX b1 b2 q) prog) (by rw [hw]; rfl) 10000 0 [7,0] D (mkKeep encV_inj (.ref v) _ H (by generalize b1 = b; revert b; exact kB (by kernel_rfl)) (by generalize b1 = b; revert b; exact kB (by kernel_rfl)) (by generalize b1 = b; revert b; exact kB (by kernel_rfl)))
theorem mkEnd {nn : Nat} (L : Deep nn A) (hw : w.params = PX b1 b2 q) {c : Int} {dd : Option (Nat × Nat)} {Q : Option Value → Shared → Prop} {E : Value → Shared → Prop}
    (D : Rep h₀ (mkM (PX b1 b2 q) (mkF X0 C2 C8 c tc Rr Tr rr ir W Fx) X0 I ACC DD (6 : Nat) ys yn dd nx tk) h)
    (H : ∀ h' tk', Rep h₀ ⟨kt (PX b1 b2 q), mkF X0 C2 C8 c tc Rr Tr rr ir W Fx, [(I, { cls := .type "list_iterator", data := .fields #[.none, .int 6 0] }), (ACC, lstO ys yn), (DD, { cls := .type "dict", data := mkD (PX b1 b2 q) dd })], [], nx + 2, tk'⟩ h' → Q none ⟨h', g, d, tk', os⟩) :
    wpAny (model prog w) A (pyNext (.ref I)) Q E ⟨h, g, d, tk, os⟩ := by
  have e : pyNext (.ref I) = tw9404975358583537561 (.ref I) := congrFun te9404975358583537561 _
  refine piece_of e encO L (V := V0 (PX b1 b2 q) prog) (by rw [hw]; rfl) 10000 0 (hz [1,1,1,1,0,1,1,13]) D ?_
  refine good_done (r := .ok .next) (pp := []) (by generalize b1 = b; revert b; exact kB (by kernel_rfl)) trivial fun h1 D1 => ?_
  intro a ha
  cases a with
  | some v => cases ha
  | none => exact H _ _ (D1.toF (Z := [(I, { cls := .type "list_iterator", data := .fields #[.none, .int 6 0] }), (ACC, lstO ys yn), (DD, { cls := .type "dict", data := mkD (PX b1 b2 q) dd })]) (B := []) (nx := nx + 2) [0,1,2] (by generalize b1 = b; revert b; exact kB (by kernel_rfl)) (by generalize b1 = b; revert b; exact kB (by kernel_rfl)) rfl)
theorem mkTest {n : Nat} (L : Deep n A) (hw : w.params = PX b1 b2 q) {k c e : Nat} {kk : Int} (hk : k < 6) (hc : c < 3) {whole : Sem Value} {Q : Bool → Shared → Prop} {E : Value → Shared → Prop}
    (D : Rep h₀ (mkM (PX b1 b2 q) (mkF X0 C2 C8 c tc Rr Tr rr ir W Fx) X0 I ACC DD kk ys yn (some (e, W.R k)) nx tk) h)
    (H : ∀ h' tk', Rep h₀ (mkM (PX b1 b2 q) (mkF X0 C2 C8 c tc Rr Tr rr ir W Fx) X0 I ACC DD kk ys yn (some (e, W.R k)) nx tk') h' → Q (ltC c (W.r k) rr) ⟨h', g, d, tk', os⟩) :
    wpAny (model prog w) A (isTrue (lcIf mkE) (mkEnv FR C2 C8 DD) whole) Q E ⟨h, g, d, tk, os⟩ := by
  have ec : lcIf mkE = .Compare (cmpL (lcIf mkE)) [.Lt] [cmpR (lcIf mkE)] (posE (lcIf mkE)) := rfl
  rw [ec]
  refine wpAny_isTrue_Compare1 ?_ rfl
  refine mkEvalL L hw hk hc D fun h1 k1 D1 => ?_
  refine mkEvalR L hw hc D1 fun h2 k2 D2 => ?_
  show wpAny _ _ (richCompare .Lt _ _) _ _ _
  have f1 : h2.get? (W.T k) = some (tupO (W.r k)) := by
    have : k = 0 ∨ k = 1 ∨ k = 2 ∨ k = 3 ∨ k = 4 ∨ k = 5 := lt6 (by first | assumption | omega)
    rcases this with rfl | rfl | rfl | rfl | rfl | rfl
    · exact D2.atM (j := 18) (x := (W.T0, tupO W.r0)) rfl
    · exact D2.atM (j := 24) (x := (W.T1, tupO W.r1)) rfl
    · exact D2.atM (j := 30) (x := (W.T2, tupO W.r2)) rfl
    · exact D2.atM (j := 36) (x := (W.T3, tupO W.r3)) rfl
    · exact D2.atM (j := 42) (x := (W.T4, tupO W.r4)) rfl
    · exact D2.atM (j := 48) (x := (W.T5, tupO W.r5)) rfl
  have f2 : h2.get? Tr = some (tupO rr) := D2.atM (j := 12) (x := (Tr, tupO rr)) rfl
  have hc' : c = 0 ∨ c = 1 ∨ c = 2 := by omega
  rcases hc' with rfl | rfl | rfl
  · exact rc_int_lt (wpAny_truthy_bool (H _ _ D2))
  · exact rc_str_lt (wpAny_truthy_bool (H _ _ D2))
  · exact rc_tup_lt L.room f1 f2 (wpAny_truthy_bool (H _ _ D2))
end
end Mine
namespace Mine
open PySem PySem.W PySem.W.X PySem.Spec PySem.Calls PyProof.Rows
open PySem.W.Fast
section
variable {prog : Program} {w : World} {A : Around} {h₀ h : Heap} {g : Array GenState} {d : Drawn} {tk : Nat} {os : OsState} {b1 b2 : Bool} {q : Params}
variable {FR X0 C2 C8 tc Rr Tr I ACC DD yn nx : Nat} {ir : Int} {rr : RowD} {W : Rows} {Fx : Facts} {ys : Array Value}
set_option backward.match.sparseCases false in
noncomputable def scE : Expr → Scope
  | .ListComp _ _ s _ => s
  | _ => default
theorem putAt_one {a b c : Addr × Obj} {f : Obj → Obj} : putAt [a, b, c] 1 f = [a, (b.1, f b.2), c] := rfl
theorem mkAppend {c : Int} {kk : Int} {dd : Option (Nat × Nat)} {v : Value} {Q : Value → Shared → Prop} {E : Value → Shared → Prop} (hs : ys.size ≤ sizeLine)
    (D : Rep h₀ (mkM (PX b1 b2 q) (mkF X0 C2 C8 c tc Rr Tr rr ir W Fx) X0 I ACC DD kk ys yn dd nx tk) h)
    (H : ∀ h', Rep h₀ (mkM (PX b1 b2 q) (mkF X0 C2 C8 c tc Rr Tr rr ir W Fx) X0 I ACC DD kk (ys.push v) (yn + 1) dd nx tk) h' → Q .none ⟨h', g, d, tk, os⟩) :
    wpAny (model prog w) A (call (.builtin "list.append") [.ref ACC, v]) Q E ⟨h, g, d, tk, os⟩ := by
  have ho : h.get? ACC = some (lstO ys yn) := D.atM (j := 4) (x := (ACC, lstO ys yn)) rfl
  refine wpAny_call_entry slot_list_append ⟨_, ho, rfl⟩ entry_list_append ?_ (args_list_append _ _)
  show wpAny _ _ (updateSeq ACC (·.push v) >>= fun _ => ret .none) _ _ _
  refine wpAny_bind ?_
  refine wpAny_updateSeq ho rfl (wpAny_pure ⟨.none, rfl, ?_⟩)
  have D' := (D.update (i := 1) (x := (ACC, lstO ys yn)) (f := Obj.mapSeq (·.push v)) rfl (by rw [mapSeq_push]; rfl)).2
  refine H _ ?_
  have e : Obj.mapSeq (·.push v) (lstO ys yn) = lstO (ys.push v) (yn + 1) := mapSeq_push ..
  unfold mkM at D'
  dsimp only at D'
  rw [putAt_one] at D'
  dsimp only at D'
  rw [e] at D'
  exact D'
inductive MInv (h₀ : Heap) (g : Array GenState) (d : Drawn) (os : OsState) (M : Nat → Array Value → Nat → Option (Nat × Nat) → Nat → Mm) (l : Nat → Nat) (n : Nat) (s : Shared) : Prop
  | mk (k : Nat) (ys : Array Value) (yn : Nat) (dd : Option (Nat × Nat)) (h : Heap) (tk : Nat) (en : n = 6 - k) (hk : k ≤ 6) (hd : k = 0 ∨ ∃ p, dd = some p) (hy : ys.size = l k) (es : s = ⟨h, g, d, tk, os⟩) (D : Rep h₀ (M k ys yn dd tk) h)
theorem mkLoop {nn : Nat} (L : Deep nn A) (hw : w.params = PX b1 b2 q) {c : Nat} (hc : c < 3) {dd : Option (Nat × Nat)} {R : Result → Shared → Prop}
    (D : Rep h₀ (mkM (PX b1 b2 q) (mkF X0 C2 C8 c tc Rr Tr rr ir W Fx) X0 I ACC DD 0 #[] 0 dd nx tk) h)
    (H : ∀ h' tk' ys yn dd', ys.size = cntC c W rr 6 → Rep h₀ ⟨kt (PX b1 b2 q), mkF X0 C2 C8 c tc Rr Tr rr ir W Fx, [(I, { cls := .type "list_iterator", data := .fields #[.none, .int 6 0] }), (ACC, lstO ys yn), (DD, { cls := .type "dict", data := mkD (PX b1 b2 q) (some dd') })], [], nx + 2, tk'⟩ h' → R (.ok .next) ⟨h', g, d, tk', os⟩) :
    codeAny (model prog w) A (.compLoop mkE 0 (.ref I) (.ref ACC) (mkEnv FR C2 C8 DD)) R ⟨h, g, d, tk, os⟩ := by
  have eE : mkE = .ListComp (eltE mkE) [⟨lcTg mkE, lcIt mkE, [lcIf mkE], 0⟩] (scE mkE) (posE mkE) := rfl
  rw [eE]
  refine PySem.W.kct_loop (MInv h₀ g d os (fun k ys yn dd tk => mkM (PX b1 b2 q) (mkF X0 C2 C8 c tc Rr Tr rr ir W Fx) X0 I ACC DD k ys yn dd nx tk) (cntC c W rr)) (fun n s hI => ?_) 6 ⟨0, #[], 0, dd, h, tk, rfl, by decide, .inl rfl, rfl, rfl, D⟩
  obtain ⟨k, ys, yn, dd, h, tk, en, hk, hd, hy, rfl, D⟩ := hI
  rcases Nat.lt_or_ge k 6 with hk' | hk'
  · refine mkNext L hw hk' D fun h1 k1 D1 => ?_
    show wpAny _ _ (pure ()) _ _ _
    refine wpAny_pure ?_
    refine mkAssign L hw D1 fun h2 k2 e D2 => ?_
    refine mkTest L hw hk' hc D2 fun h3 k3 D3 => ?_
    cases hb : ltC c (W.r k) rr with
    | false =>
      rw [if_neg (by decide)]
      exact ⟨6 - (k + 1), turn_lt en hk', k + 1, ys, yn, _, h3, k3, rfl, hk', .inr ⟨_, rfl⟩, by rw [hy]; show _ = cntC c W rr k + _; rw [hb]; rfl, rfl, D3⟩
    | true =>
      rw [if_pos rfl]
      refine mkElt L hw D3 fun h4 k4 D4 => ?_
      refine mkAppend (by rw [hy]; exact Nat.le_trans (cntC_le c W rr k) (Nat.le_trans hk (by decide))) D4 fun h5 D5 => ?_
      exact ⟨6 - (k + 1), turn_lt en hk', k + 1, ys.push _, yn + 1, _, h5, k4, rfl, hk', .inr ⟨_, rfl⟩, by rw [Array.size_push, hy]; show _ = cntC c W rr k + _; rw [hb]; rfl, rfl, D5⟩
  · obtain rfl : k = 6 := Nat.le_antisymm hk hk'
    rcases hd with hd | ⟨p, rfl⟩
    · cases hd
    exact mkEnd L hw D fun h' tk' D' => H h' tk' ys yn p hy D'
end
end Mine
namespace Mine
open PySem PySem.W PySem.W.X PySem.Spec PySem.Calls PyProof.Rows
section
variable {prog : Program} {w : World} {A : Around} {R : Result → Shared → Prop} {s : Shared}
theorem c_fun {id : String} {b : Builtin} {args : List Value} (hk : builtinKind id = none) (hp : plainId id = true) (hb : entryFor table id = some b) (ha : argsOk id ⟨args, []⟩)
    (hc : wpAny (model prog w) A.in1 (b ⟨args, []⟩) (fun fin s' => ∃ v, fin = .done (.ret v) ∧ R (.ok (.ret v)) s') (fun e s' => R (.error e) s') s) :
    codeAny (model prog w) A (.call (.builtin id) ⟨args, []⟩) R s := by
  refine codeAny_call_builtin hp hb ?_
  have e : checkBuiltinCall id ⟨args, []⟩ = (pure () : Sem Unit) := by
    unfold argsOk at ha
    unfold checkBuiltinCall
    rw [hk]
    cases hs : Manifest.signature? id with
    | none => rfl
    | some sig =>
      rw [hs] at ha
      exact ha
  rw [e]
  refine wpAny_pure (wpAny_mono hc (fun fin s' h' => ?_) fun _ _ h' => h')
  obtain ⟨v, rfl, hv⟩ := h'
  exact hv
theorem c_len {l : Addr} {items : Array Value} {n : Nat} (ho : s.heap.get? l = some { cls := .type "list", data := .seq items n }) (hfit : items.size < 2 ^ 63)
    (H : ∀ t' tk', R (.ok (.ret (.int items.size t'))) { s with toks := tk' }) : codeAny (model prog w) A (.call (.builtin "len") ⟨[.ref l], []⟩) R s := by
  have hl : s.heap.IsList l items := ⟨_, ho, rfl, n, rfl⟩
  refine c_fun kind_len plain_len entry_len (args_len1 _) ?_
  unfold Builtin.«len»
  refine wpAny_bind (m := oneArg "len" _) (wpAny_pure ?_)
  refine wpAny_bind (m := callSpecial? (.ref l) (Str.ofString "__len__")) (wpAny_callSpecial?_slot (name := Str.ofString "__len__") hl.typeIs slot_list_len
    (wpAny_call_entry slot_list_len hl.typeIs entry_list_len ?_ (args_list_len _)))
  show wpAny _ _ (do retInt (← seqSize l)) _ _ s
  unfold seqSize
  refine wpAny_bind (wpAny_bind (wpAny_load ho ?_))
  refine wpAny_pure (wpAny_bind (wpAny_mkInt (wpAny_pure ⟨_, rfl, ?_⟩)))
  refine wpAny_bind (wpAny_holding (wpAny_pure ?_))
  refine wpAny_bind (wpAny_letGo ?_)
  show wpAny _ _ (if ((items.size : Nat) : Int) < 0 then _ else _) _ _ _
  rw [if_neg (by omega)]
  show wpAny _ _ (if ((items.size : Nat) : Int) ≥ 2 ^ 63 then _ else _) _ _ _
  rw [if_neg (by omega)]
  exact wpAny_bind (wpAny_mkInt (wpAny_pure ⟨_, rfl, H _ _⟩))
end
theorem keysRe {Z Z' : Facts} (e : Z'.map (·.1) = Z.map (·.1)) {p : Addr × Obj} (hp : p ∈ Z') : ∃ p' ∈ Z, p'.1 = p.1 := by
  have : p.1 ∈ Z.map (·.1) := by rw [← e]; exact List.mem_map_of_mem hp
  obtain ⟨p', h1, h2⟩ := List.mem_map.mp this
  exact ⟨p', h1, h2⟩
theorem Rep.re {h₀ h h' : Heap} {m m' : Mm} (D : Rep h₀ m h) (D' : Rep h₀ m' h') (fs zs : List Nat) {F Z : Facts} {tk : Nat} (eF : m.F = F) (eB : m'.B = [])
    (e1 : fs.map (Mine.atM m') = F.map some) (e2 : zs.map (Mine.atM m') = Z.map some) (ek : Z.map (·.1) = m.Z.map (·.1)) : Rep h₀ ⟨m'.T, F, Z, [], m'.nx, tk⟩ h' := by
  have at' : ∀ (js : List Nat) (l : Facts), js.map (Mine.atM m') = l.map some → ∀ p ∈ l, h'.get? p.1 = some p.2 := fun js l e p hp => by
    have : some p ∈ js.map (Mine.atM m') := by rw [e]; exact List.mem_map_of_mem hp
    obtain ⟨j, _, q⟩ := List.mem_map.mp this
    exact D'.atM q
  refine { size := D'.size, T := D'.T, F := at' fs F e1, Z := fun p hp => ⟨at' zs Z e2 p hp, ?_⟩, B := fun _ hp => (nomatch hp), zd := by show (Z.map (·.1)).Pairwise _; rw [ek]; exact D.zd, bd := List.Pairwise.nil,
           fz := fun p hp z hz => ?_, fb := fun _ _ _ hz => (nomatch hz), tb := fun _ hz => (nomatch hz), old := D'.old, kp := fun b o q _ => D'.kp b o q (by rw [eB]; exact fun _ hz => (nomatch hz)), stat := D'.stat, le := D'.le }
  · obtain ⟨p', h1, h2⟩ := keysRe ek hp
    rw [← h2]
    exact (D.Z p' h1).2
  · obtain ⟨p', h1, h2⟩ := keysRe ek hz
    rw [← h2]
    exact D.fz p (by rw [eF]; exact hp) p' h1
end Mine
namespace Mine
open PySem PySem.W PySem.W.X PySem.Spec PySem.Calls PyProof.Rows
open PySem.W.Fast
noncomputable def VC (P : Params) (prog : Program) : Env9 := ⟨⟨prog, P⟩, fun c => match c with
  | .compLoop _ _ _ _ _ => true
  | .call (.builtin n) _ => n == "len"
  | _ => false⟩
theorem Rep.toX {h₀ h : Heap} {m : Mm} (D : Rep h₀ m h) (fs zs : List Nat) {T : KT} {F Z B Fx : Facts} {nx tk : Nat} (hx : ∀ p ∈ Fx, p ∈ m.F) (e : (m.T, m.B, m.nx, fs.map (Mine.atM m), zs.map (nth m.Z)) = (T, B, nx, F.map some, Z.map some)) (hok : okIdx fs zs = true) : Rep h₀ ⟨T, F ++ Fx, Z, B, nx, tk⟩ h := by
  have D' := D.to (tk := tk) fs zs e hok
  refine { D' with F := fun p hp => ?_, fz := fun p hp z hz => ?_, fb := fun p hp z hz => ?_ }
  · rcases List.mem_append.mp hp with q | q
    · exact D'.F p q
    · exact D.F p (hx p q)
  · rcases List.mem_append.mp hp with q | q
    · exact D'.fz p q z hz
    · injection e with e1 e2
      injection e2 with e2 e3
      injection e3 with e3 e4
      injection e4 with e4 e5
      obtain ⟨j, _, r⟩ := map_nth_mem e5 hz
      exact D.fz p (hx p q) z (List.mem_of_getElem? r)
  · rcases List.mem_append.mp hp with q | q
    · exact D'.fb p q z hz
    · injection e with e1 e2
      injection e2 with e2 e3
      subst e2
      exact D.fb p (hx p q) z hz
theorem Rep.reX {h₀ h h' : Heap} {m m' : Mm} (D : Rep h₀ m h) (D' : Rep h₀ m' h') (fs zs : List Nat) {F Z Fx F' : Facts} {tk : Nat} (eF : m.F = F ++ Fx) (eF' : m'.F = F' ++ Fx) (eB : m'.B = [])
    (e1 : fs.map (Mine.atM m') = F.map some) (e2 : zs.map (Mine.atM m') = Z.map some) (ek : Z.map (·.1) = m.Z.map (·.1)) : Rep h₀ ⟨m'.T, F ++ Fx, Z, [], m'.nx, tk⟩ h' := by
  have at' : ∀ (js : List Nat) (l : Facts), js.map (Mine.atM m') = l.map some → ∀ p ∈ l, h'.get? p.1 = some p.2 := fun js l e p hp => by
    have : some p ∈ js.map (Mine.atM m') := by rw [e]; exact List.mem_map_of_mem hp
    obtain ⟨j, _, q⟩ := List.mem_map.mp this
    exact D'.atM q
  refine { size := D'.size, T := D'.T, F := fun p hp => ?_, Z := fun p hp => ⟨at' zs Z e2 p hp, ?_⟩, B := fun _ hp => (nomatch hp), zd := by show (Z.map (·.1)).Pairwise _; rw [ek]; exact D.zd, bd := List.Pairwise.nil,
           fz := fun p hp z hz => ?_, fb := fun _ _ _ hz => (nomatch hz), tb := fun _ hz => (nomatch hz), old := D'.old, kp := fun b o q _ => D'.kp b o q (by rw [eB]; exact fun _ hz => (nomatch hz)), stat := D'.stat, le := D'.le }
  · rcases List.mem_append.mp hp with q | q
    · exact at' fs F e1 p q
    · exact D'.F p (by rw [eF']; exact List.mem_append_right _ q)
  · obtain ⟨p', h1, h2⟩ := keysRe ek hp
    rw [← h2]
    exact (D.Z p' h1).2
  · obtain ⟨p', h1, h2⟩ := keysRe ek hz
    rw [← h2]
    exact D.fz p (by rw [eF]; exact hp) p' h1
noncomputable abbrev tupV (vs : Array Value) : Obj := { cls := .type "tuple", data := .seq vs 0 }
structure Keys where
  K0 : Nat
  K1 : Nat
  K2 : Nat
  K3 : Nat
  kn : Nat
  c0 : Nat
  c1 : Nat
  c2 : Nat
  c3 : Nat
  t0 : Nat
  t1 : Nat
  t2 : Nat
  t3 : Nat
  s0 : Int
  s1 : Int
  s2 : Int
  s3 : Int
  u0 : Nat
  u1 : Nat
  u2 : Nat
  u3 : Nat
noncomputable abbrev keysO (K : Keys) : Obj := lstO #[.ref K.K0, .ref K.K1, .ref K.K2, .ref K.K3] K.kn
noncomputable abbrev keyO (c t : Nat) (s : Int) (u : Nat) : Obj := tupV #[.int c t, .int s u]
noncomputable def oEnv (FR C1 C2 C8 OD : Nat) : Env := { scope := lcC mkO [4,5], locals := OD, globals := 3, cells := [(Str.ofString "column", C8), (Str.ofString "rows", C1), (Str.ofString "row", C2)], qual := Str.ofString "_law_marks.<locals>.", func := none, code := .ref 102, frame := some FR, builtins := 0 }
noncomputable def oP (X0 X1 C1 C2 Rr Tr : Nat) (rr : RowD) (ir : Int) (W : Rows) (K : Keys) : Facts :=
  (X0, rowsO W) :: (X1, keysO K) :: (C1, cellO (.ref X0)) :: (C2, cellO (.ref Rr)) :: (K.K0, keyO K.c0 K.t0 K.s0 K.u0) :: (K.K1, keyO K.c1 K.t1 K.s1 K.u1) :: (K.K2, keyO K.c2 K.t2 K.s2 K.u2) :: (K.K3, keyO K.c3 K.t3 K.s3 K.u3) ::
  (Rr, rowO rr Tr ir) :: (Tr, tupO rr) :: rsF W []
noncomputable def oDict (P : Params) : Option (Nat × Value) → Obj
  | none => { cls := .type "dict", data := .dict #[] 0 }
  | some p => { cls := .type "dict", data := .dict #[de P "way" p.1 p.2] 1 }
noncomputable abbrev celO (v : Option Value) : Obj := { cls := .type "cell", data := .cell v }
noncomputable def oM (P : Params) (F : Facts) (X1 KI OACC OD C8 : Nat) (j : Int) (acc : Array Value) (n : Nat) (dd : Option (Nat × Value)) (cc : Option Value) (nx tk : Nat) : Mm :=
  ⟨kt P, F, [(KI, litO X1 j), (OACC, lstO acc n), (OD, oDict P dd), (C8, celO cc)], [], nx, tk⟩
section
variable {prog : Program} {w : World} {A : Around} {R : Result → Shared → Prop} {h₀ h : Heap} {g : Array GenState} {d : Drawn} {tk : Nat} {os : OsState} {b1 b2 : Bool} {q : Params}
variable {FR X0 X1 C1 C2 C8 KI OACC OD Rr Tr nx : Nat} {ir : Int} {rr : RowD} {W : Rows} {K : Keys} {Fx : Facts}
theorem oTurn0 {nn : Nat} (L : Deep (nn + 60) A) (hw : w.params = PX b1 b2 q) (hc : K.c0 < 3) (hm : ∀ n : Nat, n ≤ 6 → IntMulOk K.s0 n)
    (D : Rep h₀ (oM (PX b1 b2 q) (oP X0 X1 C1 C2 Rr Tr rr ir W K ++ Fx) X1 KI OACC OD C8 0 #[] 0 none none nx tk) h)
    (H : ∀ h' tk' t' e, Rep h₀ (oM (PX b1 b2 q) (oP X0 X1 C1 C2 Rr Tr rr ir W K ++ Fx) X1 KI OACC OD C8 1 #[.int (K.s0 * (cntC K.c0 W rr 6 : Nat)) t'] 1 (some (e, .int K.s0 K.u0)) (some (.int K.c0 K.t0)) (nx + 8) tk') h' → codeAny (model prog w) A (.compLoop mkO 0 (.ref KI) (.ref OACC) (oEnv FR C1 C2 C8 OD)) R ⟨h', g, d, tk', os⟩) :
    codeAny (model prog w) A (.compLoop mkO 0 (.ref KI) (.ref OACC) (oEnv FR C1 C2 C8 OD)) R ⟨h, g, d, tk, os⟩ := by
  have hP : (VC (PX b1 b2 q) prog).P = ⟨prog, w.params⟩ := by rw [hw]; rfl
  refine start (V := VC (PX b1 b2 q) prog) L hP 100000 0 (cond b2 [1,0,1,0,1,0,1,0,3,0,1,0,1,0,1,0,12,0,12,0,12,0,12,0,13,0,13,0,13,0,13,0,13,0,12,0,13,0,13,0,13,0,13,0,13,0,13,0,12,0,13,0,13,0,13,0,13,0,13,0,13,0,12,0,13,0,13,0,19,0,10,0,10,0,7,0,7,0,7,2,6,0,0,0,0,0,0,0,22,0] [1,0,1,0,1,0,1,0,3,0,1,0,1,0,1,0,12,0,12,0,12,0,12,0,13,0,13,0,13,0,13,0,13,0,12,0,13,0,13,0,13,0,13,0,13,0,13,0,12,0,13,0,13,0,13,0,13,0,13,0,13,0,12,0,13,0,13,0,19,0,10,0,10,0,7,0,7,0,7,2,6,0,0,0,0,0,0,0,22,0,22,0,22,0,22,0,22,0]) D rfl (good_hole (n := nn + 40) L (c := .compLoop mkE 0 (.ref (nx + 3)) (.ref (nx + 4)) (mkEnv FR C2 C8 (nx + 5))) (pp := []) (by generalize b1 = b; generalize b2 = c; revert b c; exact kBB (by kernel_rfl)) trivial fun h1 L1 D1 => ?_)
  have D2 := D1.toF (T := kt (PX b1 b2 q)) (F := (oP X0 X1 C1 C2 Rr Tr rr ir W K ++ Fx)) (Z := [(KI, litO X1 1), (OACC, lstO #[] 0), (OD, oDict (PX b1 b2 q) (some (tk, .int K.s0 K.u0))), (C8, celO (some (.int K.c0 K.t0))), (nx + 3, litO X0 0), (nx + 4, lstO #[] 0), (nx + 5, { cls := .type "dict", data := .dict #[] 0 })]) (B := []) (nx := nx + 6) (tk := 0) [0,1,2,3,7,8,9] (by generalize b1 = b; generalize b2 = c; revert b c; exact kBB (by kernel_rfl)) (by generalize b1 = b; generalize b2 = c; revert b c; exact kBB (by kernel_rfl)) rfl
  have D3 : Rep h₀ (mkM (PX b1 b2 q) (mkF X0 C2 C8 K.c0 K.t0 Rr Tr rr ir W ((C1, cellO (.ref X0)) :: (X1, keysO K) :: (K.K0, keyO K.c0 K.t0 K.s0 K.u0) :: (K.K1, keyO K.c1 K.t1 K.s1 K.u1) :: (K.K2, keyO K.c2 K.t2 K.s2 K.u2) :: (K.K3, keyO K.c3 K.t3 K.s3 K.u3) :: (KI, litO X1 1) :: (OACC, lstO #[] 0) :: (OD, oDict (PX b1 b2 q) (some (tk, .int K.s0 K.u0))) :: Fx)) X0 (nx + 3) (nx + 4) (nx + 5) 0 #[] 0 none (nx + 6) 0) h1 :=
    D2.toX (T := kt (PX b1 b2 q)) (F := mkF X0 C2 C8 K.c0 K.t0 Rr Tr rr ir W ((C1, cellO (.ref X0)) :: (X1, keysO K) :: (K.K0, keyO K.c0 K.t0 K.s0 K.u0) :: (K.K1, keyO K.c1 K.t1 K.s1 K.u1) :: (K.K2, keyO K.c2 K.t2 K.s2 K.u2) :: (K.K3, keyO K.c3 K.t3 K.s3 K.u3) :: (KI, litO X1 1) :: (OACC, lstO #[] 0) :: (OD, oDict (PX b1 b2 q) (some (tk, .int K.s0 K.u0))) :: [])) (Z := [(nx + 3, litO X0 0), (nx + 4, lstO #[] 0), (nx + 5, { cls := .type "dict", data := .dict #[] 0 })]) (B := []) (nx := nx + 6)
      [0,9,10,24,27,30,33,36,39,42,45,48,51,54,57,60,63,6,3,12,15,18,21,1,4,7] [4,5,6] (fun p hp => List.mem_append_right _ hp) (by kernel_rfl) (by kernel_rfl)
  refine mkLoop L1 hw hc (D3.tok _) fun h2 tk2 ys yn dd' hy D4 => ?_
  have D5 : Rep h₀ ⟨kt (PX b1 b2 q), (oP X0 X1 C1 C2 Rr Tr rr ir W K ++ Fx), [(KI, litO X1 1), (OACC, lstO #[] 0), (OD, oDict (PX b1 b2 q) (some (tk, .int K.s0 K.u0))), (C8, celO (some (.int K.c0 K.t0))), (nx + 3, { cls := .type "list_iterator", data := .fields #[.none, .int 6 0] }), (nx + 4, lstO ys yn), (nx + 5, { cls := .type "dict", data := mkD (PX b1 b2 q) (some dd') })], [], nx + 8, 0⟩ h2 := Rep.reX (Fx := Fx) (F := oP X0 X1 C1 C2 Rr Tr rr ir W K) (F' := mkF X0 C2 C8 K.c0 K.t0 Rr Tr rr ir W ((C1, cellO (.ref X0)) :: (X1, keysO K) :: (K.K0, keyO K.c0 K.t0 K.s0 K.u0) :: (K.K1, keyO K.c1 K.t1 K.s1 K.u1) :: (K.K2, keyO K.c2 K.t2 K.s2 K.u2) :: (K.K3, keyO K.c3 K.t3 K.s3 K.u3) :: (KI, litO X1 1) :: (OACC, lstO #[] 0) :: (OD, oDict (PX b1 b2 q) (some (tk, .int K.s0 K.u0))) :: []))
    (Z := [(KI, litO X1 1), (OACC, lstO #[] 0), (OD, oDict (PX b1 b2 q) (some (tk, .int K.s0 K.u0))), (C8, celO (some (.int K.c0 K.t0))), (nx + 3, { cls := .type "list_iterator", data := .fields #[.none, .int 6 0] }), (nx + 4, lstO ys yn), (nx + 5, { cls := .type "dict", data := mkD (PX b1 b2 q) (some dd') })]) (tk := 0)
    D2 D4 [0,54,51,3,57,60,63,66,9,12,15,18,21,24,27,30,33,36,39,42,45,48] [69,72,75,6,1,4,7] rfl rfl rfl (by kernel_rfl) (by kernel_rfl) rfl
  refine back (V := VC (PX b1 b2 q) prog) L hP 100000 0 (hz [19,19,19]) D5 (good_hole (n := nn + 40) L (c := .call (.builtin "len") ⟨[.ref (nx + 4)], []⟩) (pp := []) (by generalize b1 = b; generalize b2 = c; revert b c; exact kBB (by kernel_rfl)) trivial fun h3 L3 D6 => ?_)
  refine c_len (s := ⟨h3, g, d, _, os⟩) (items := ys) (n := yn) (D6.atM (j := 16) (x := (nx + 4, lstO ys yn)) (by generalize b1 = b; generalize b2 = c; revert b c; exact kBB (by kernel_rfl))) (by rw [hy]; exact Nat.lt_of_le_of_lt (cntC_le _ _ _ _) (by decide)) fun t3 tk3 => ?_
  refine back (V := VC (PX b1 b2 q) prog) L hP 100000 0 (hz [4,4,4,4]) D6 (good_tail (n := nn + 40) L (c := .compLoop mkO 0 (.ref KI) (.ref OACC) (oEnv FR C1 C2 C8 OD)) (pp := [IntMulOk K.s0 (ys.size : Nat)]) (by generalize b1 = b; generalize b2 = c; revert b c; exact kBB (by kernel_rfl)) (by generalize b1 = b; generalize b2 = c; revert b c; exact kBB (by kernel_rfl)) ⟨hm _ (by rw [hy]; exact cntC_le _ _ _ _), trivial⟩ fun h4 D7 => ?_)
  refine H h4 _ tk3 tk ?_
  rw [← hy]
  exact D7.toF [0,1,2,3] (by generalize b1 = b; generalize b2 = c; revert b c; exact kBB (by kernel_rfl)) (by generalize b1 = b; generalize b2 = c; revert b c; exact kBB (by kernel_rfl)) rfl
theorem oTurn1 {nn : Nat} (L : Deep (nn + 60) A) (hw : w.params = PX b1 b2 q) {v0 : Value} {e : Nat} {x y : Value} (hc : K.c1 < 3) (hm : ∀ n : Nat, n ≤ 6 → IntMulOk K.s1 n)
    (D : Rep h₀ (oM (PX b1 b2 q) (oP X0 X1 C1 C2 Rr Tr rr ir W K ++ Fx) X1 KI OACC OD C8 1 #[v0] 1 (some (e, x)) (some y) nx tk) h)
    (H : ∀ h' tk' t' e, Rep h₀ (oM (PX b1 b2 q) (oP X0 X1 C1 C2 Rr Tr rr ir W K ++ Fx) X1 KI OACC OD C8 2 #[v0, .int (K.s1 * (cntC K.c1 W rr 6 : Nat)) t'] 2 (some (e, .int K.s1 K.u1)) (some (.int K.c1 K.t1)) (nx + 8) tk') h' → codeAny (model prog w) A (.compLoop mkO 0 (.ref KI) (.ref OACC) (oEnv FR C1 C2 C8 OD)) R ⟨h', g, d, tk', os⟩) :
    codeAny (model prog w) A (.compLoop mkO 0 (.ref KI) (.ref OACC) (oEnv FR C1 C2 C8 OD)) R ⟨h, g, d, tk, os⟩ := by
  have hP : (VC (PX b1 b2 q) prog).P = ⟨prog, w.params⟩ := by rw [hw]; rfl
  refine start (V := VC (PX b1 b2 q) prog) L hP 100000 0 (cond b2 [1,0,1,0,1,0,1,0,3,0,1,0,1,0,1,0,15,0,15,0,15,0,15,0,13,0,13,0,13,0,13,0,13,0,15,0,13,0,13,0,13,0,13,0,13,0,13,0,15,0,13,0,13,0,13,0,13,0,13,0,13,0,15,0,13,0,13,0,19,0,10,0,10,0,7,0,7,0,7,2,6,0,0,0,0,0,0,0,22,0] [1,0,1,0,1,0,1,0,3,0,1,0,1,0,1,0,15,0,15,0,15,0,15,0,13,0,13,0,13,0,13,0,13,0,15,0,13,0,13,0,13,0,13,0,13,0,13,0,15,0,13,0,13,0,13,0,13,0,13,0,13,0,15,0,13,0,13,0,19,0,10,0,10,0,7,0,7,0,7,2,6,0,0,0,0,0,0,0,22,0,22,0,22,0,22,0,22,0]) D rfl (good_hole (n := nn + 40) L (c := .compLoop mkE 0 (.ref (nx + 3)) (.ref (nx + 4)) (mkEnv FR C2 C8 (nx + 5))) (pp := []) (by generalize b1 = b; generalize b2 = c; revert b c; exact kBB (by kernel_rfl)) trivial fun h1 L1 D1 => ?_)
  have D2 := D1.toF (T := kt (PX b1 b2 q)) (F := (oP X0 X1 C1 C2 Rr Tr rr ir W K ++ Fx)) (Z := [(KI, litO X1 2), (OACC, lstO #[v0] 1), (OD, oDict (PX b1 b2 q) (some (e, .int K.s1 K.u1))), (C8, celO (some (.int K.c1 K.t1))), (nx + 3, litO X0 0), (nx + 4, lstO #[] 0), (nx + 5, { cls := .type "dict", data := .dict #[] 0 })]) (B := []) (nx := nx + 6) (tk := 0) [0,1,2,3,7,8,9] (by generalize b1 = b; generalize b2 = c; revert b c; exact kBB (by kernel_rfl)) (by generalize b1 = b; generalize b2 = c; revert b c; exact kBB (by kernel_rfl)) rfl
  have D3 : Rep h₀ (mkM (PX b1 b2 q) (mkF X0 C2 C8 K.c1 K.t1 Rr Tr rr ir W ((C1, cellO (.ref X0)) :: (X1, keysO K) :: (K.K0, keyO K.c0 K.t0 K.s0 K.u0) :: (K.K1, keyO K.c1 K.t1 K.s1 K.u1) :: (K.K2, keyO K.c2 K.t2 K.s2 K.u2) :: (K.K3, keyO K.c3 K.t3 K.s3 K.u3) :: (KI, litO X1 2) :: (OACC, lstO #[v0] 1) :: (OD, oDict (PX b1 b2 q) (some (e, .int K.s1 K.u1))) :: Fx)) X0 (nx + 3) (nx + 4) (nx + 5) 0 #[] 0 none (nx + 6) 0) h1 :=
    D2.toX (T := kt (PX b1 b2 q)) (F := mkF X0 C2 C8 K.c1 K.t1 Rr Tr rr ir W ((C1, cellO (.ref X0)) :: (X1, keysO K) :: (K.K0, keyO K.c0 K.t0 K.s0 K.u0) :: (K.K1, keyO K.c1 K.t1 K.s1 K.u1) :: (K.K2, keyO K.c2 K.t2 K.s2 K.u2) :: (K.K3, keyO K.c3 K.t3 K.s3 K.u3) :: (KI, litO X1 2) :: (OACC, lstO #[v0] 1) :: (OD, oDict (PX b1 b2 q) (some (e, .int K.s1 K.u1))) :: [])) (Z := [(nx + 3, litO X0 0), (nx + 4, lstO #[] 0), (nx + 5, { cls := .type "dict", data := .dict #[] 0 })]) (B := []) (nx := nx + 6)
      [0,9,10,24,27,30,33,36,39,42,45,48,51,54,57,60,63,6,3,12,15,18,21,1,4,7] [4,5,6] (fun p hp => List.mem_append_right _ hp) (by kernel_rfl) (by kernel_rfl)
  refine mkLoop L1 hw hc (D3.tok _) fun h2 tk2 ys yn dd' hy D4 => ?_
  have D5 : Rep h₀ ⟨kt (PX b1 b2 q), (oP X0 X1 C1 C2 Rr Tr rr ir W K ++ Fx), [(KI, litO X1 2), (OACC, lstO #[v0] 1), (OD, oDict (PX b1 b2 q) (some (e, .int K.s1 K.u1))), (C8, celO (some (.int K.c1 K.t1))), (nx + 3, { cls := .type "list_iterator", data := .fields #[.none, .int 6 0] }), (nx + 4, lstO ys yn), (nx + 5, { cls := .type "dict", data := mkD (PX b1 b2 q) (some dd') })], [], nx + 8, 0⟩ h2 := Rep.reX (Fx := Fx) (F := oP X0 X1 C1 C2 Rr Tr rr ir W K) (F' := mkF X0 C2 C8 K.c1 K.t1 Rr Tr rr ir W ((C1, cellO (.ref X0)) :: (X1, keysO K) :: (K.K0, keyO K.c0 K.t0 K.s0 K.u0) :: (K.K1, keyO K.c1 K.t1 K.s1 K.u1) :: (K.K2, keyO K.c2 K.t2 K.s2 K.u2) :: (K.K3, keyO K.c3 K.t3 K.s3 K.u3) :: (KI, litO X1 2) :: (OACC, lstO #[v0] 1) :: (OD, oDict (PX b1 b2 q) (some (e, .int K.s1 K.u1))) :: []))
    (Z := [(KI, litO X1 2), (OACC, lstO #[v0] 1), (OD, oDict (PX b1 b2 q) (some (e, .int K.s1 K.u1))), (C8, celO (some (.int K.c1 K.t1))), (nx + 3, { cls := .type "list_iterator", data := .fields #[.none, .int 6 0] }), (nx + 4, lstO ys yn), (nx + 5, { cls := .type "dict", data := mkD (PX b1 b2 q) (some dd') })]) (tk := 0)
    D2 D4 [0,54,51,3,57,60,63,66,9,12,15,18,21,24,27,30,33,36,39,42,45,48] [69,72,75,6,1,4,7] rfl rfl rfl (by kernel_rfl) (by kernel_rfl) rfl
  refine back (V := VC (PX b1 b2 q) prog) L hP 100000 0 (hz [19,19,19]) D5 (good_hole (n := nn + 40) L (c := .call (.builtin "len") ⟨[.ref (nx + 4)], []⟩) (pp := []) (by generalize b1 = b; generalize b2 = c; revert b c; exact kBB (by kernel_rfl)) trivial fun h3 L3 D6 => ?_)
  refine c_len (s := ⟨h3, g, d, _, os⟩) (items := ys) (n := yn) (D6.atM (j := 16) (x := (nx + 4, lstO ys yn)) (by generalize b1 = b; generalize b2 = c; revert b c; exact kBB (by kernel_rfl))) (by rw [hy]; exact Nat.lt_of_le_of_lt (cntC_le _ _ _ _) (by decide)) fun t3 tk3 => ?_
  refine back (V := VC (PX b1 b2 q) prog) L hP 100000 0 (hz [4,4,4,4]) D6 (good_tail (n := nn + 40) L (c := .compLoop mkO 0 (.ref KI) (.ref OACC) (oEnv FR C1 C2 C8 OD)) (pp := [IntMulOk K.s1 (ys.size : Nat)]) (by generalize b1 = b; generalize b2 = c; revert b c; exact kBB (by kernel_rfl)) (by generalize b1 = b; generalize b2 = c; revert b c; exact kBB (by kernel_rfl)) ⟨hm _ (by rw [hy]; exact cntC_le _ _ _ _), trivial⟩ fun h4 D7 => ?_)
  refine H h4 _ tk3 e ?_
  rw [← hy]
  exact D7.toF [0,1,2,3] (by generalize b1 = b; generalize b2 = c; revert b c; exact kBB (by kernel_rfl)) (by generalize b1 = b; generalize b2 = c; revert b c; exact kBB (by kernel_rfl)) rfl
theorem oTurn2 {nn : Nat} (L : Deep (nn + 60) A) (hw : w.params = PX b1 b2 q) {v0 v1 : Value} {e : Nat} {x y : Value} (hc : K.c2 < 3) (hm : ∀ n : Nat, n ≤ 6 → IntMulOk K.s2 n)
    (D : Rep h₀ (oM (PX b1 b2 q) (oP X0 X1 C1 C2 Rr Tr rr ir W K ++ Fx) X1 KI OACC OD C8 2 #[v0, v1] 2 (some (e, x)) (some y) nx tk) h)
    (H : ∀ h' tk' t' e, Rep h₀ (oM (PX b1 b2 q) (oP X0 X1 C1 C2 Rr Tr rr ir W K ++ Fx) X1 KI OACC OD C8 3 #[v0, v1, .int (K.s2 * (cntC K.c2 W rr 6 : Nat)) t'] 3 (some (e, .int K.s2 K.u2)) (some (.int K.c2 K.t2)) (nx + 8) tk') h' → codeAny (model prog w) A (.compLoop mkO 0 (.ref KI) (.ref OACC) (oEnv FR C1 C2 C8 OD)) R ⟨h', g, d, tk', os⟩) :
    codeAny (model prog w) A (.compLoop mkO 0 (.ref KI) (.ref OACC) (oEnv FR C1 C2 C8 OD)) R ⟨h, g, d, tk, os⟩ := by
  have hP : (VC (PX b1 b2 q) prog).P = ⟨prog, w.params⟩ := by rw [hw]; rfl
  refine start (V := VC (PX b1 b2 q) prog) L hP 100000 0 (cond b2 [1,0,1,0,1,0,1,0,3,0,1,0,1,0,1,0,18,0,18,0,18,0,18,0,13,0,13,0,13,0,13,0,13,0,18,0,13,0,13,0,13,0,13,0,13,0,13,0,18,0,13,0,13,0,13,0,13,0,13,0,13,0,18,0,13,0,13,0,19,0,10,0,10,0,7,0,7,0,7,2,6,0,0,0,0,0,0,0,22,0] [1,0,1,0,1,0,1,0,3,0,1,0,1,0,1,0,18,0,18,0,18,0,18,0,13,0,13,0,13,0,13,0,13,0,18,0,13,0,13,0,13,0,13,0,13,0,13,0,18,0,13,0,13,0,13,0,13,0,13,0,13,0,18,0,13,0,13,0,19,0,10,0,10,0,7,0,7,0,7,2,6,0,0,0,0,0,0,0,22,0,22,0,22,0,22,0,22,0]) D rfl (good_hole (n := nn + 40) L (c := .compLoop mkE 0 (.ref (nx + 3)) (.ref (nx + 4)) (mkEnv FR C2 C8 (nx + 5))) (pp := []) (by generalize b1 = b; generalize b2 = c; revert b c; exact kBB (by kernel_rfl)) trivial fun h1 L1 D1 => ?_)
  have D2 := D1.toF (T := kt (PX b1 b2 q)) (F := (oP X0 X1 C1 C2 Rr Tr rr ir W K ++ Fx)) (Z := [(KI, litO X1 3), (OACC, lstO #[v0, v1] 2), (OD, oDict (PX b1 b2 q) (some (e, .int K.s2 K.u2))), (C8, celO (some (.int K.c2 K.t2))), (nx + 3, litO X0 0), (nx + 4, lstO #[] 0), (nx + 5, { cls := .type "dict", data := .dict #[] 0 })]) (B := []) (nx := nx + 6) (tk := 0) [0,1,2,3,7,8,9] (by generalize b1 = b; generalize b2 = c; revert b c; exact kBB (by kernel_rfl)) (by generalize b1 = b; generalize b2 = c; revert b c; exact kBB (by kernel_rfl)) rfl
  have D3 : Rep h₀ (mkM (PX b1 b2 q) (mkF X0 C2 C8 K.c2 K.t2 Rr Tr rr ir W ((C1, cellO (.ref X0)) :: (X1, keysO K) :: (K.K0, keyO K.c0 K.t0 K.s0 K.u0) :: (K.K1, keyO K.c1 K.t1 K.s1 K.u1) :: (K.K2, keyO K.c2 K.t2 K.s2 K.u2) :: (K.K3, keyO K.c3 K.t3 K.s3 K.u3) :: (KI, litO X1 3) :: (OACC, lstO #[v0, v1] 2) :: (OD, oDict (PX b1 b2 q) (some (e, .int K.s2 K.u2))) :: Fx)) X0 (nx + 3) (nx + 4) (nx + 5) 0 #[] 0 none (nx + 6) 0) h1 :=
    D2.toX (T := kt (PX b1 b2 q)) (F := mkF X0 C2 C8 K.c2 K.t2 Rr Tr rr ir W ((C1, cellO (.ref X0)) :: (X1, keysO K) :: (K.K0, keyO K.c0 K.t0 K.s0 K.u0) :: (K.K1, keyO K.c1 K.t1 K.s1 K.u1) :: (K.K2, keyO K.c2 K.t2 K.s2 K.u2) :: (K.K3, keyO K.c3 K.t3 K.s3 K.u3) :: (KI, litO X1 3) :: (OACC, lstO #[v0, v1] 2) :: (OD, oDict (PX b1 b2 q) (some (e, .int K.s2 K.u2))) :: [])) (Z := [(nx + 3, litO X0 0), (nx + 4, lstO #[] 0), (nx + 5, { cls := .type "dict", data := .dict #[] 0 })]) (B := []) (nx := nx + 6)
      [0,9,10,24,27,30,33,36,39,42,45,48,51,54,57,60,63,6,3,12,15,18,21,1,4,7] [4,5,6] (fun p hp => List.mem_append_right _ hp) (by kernel_rfl) (by kernel_rfl)
  refine mkLoop L1 hw hc (D3.tok _) fun h2 tk2 ys yn dd' hy D4 => ?_
  have D5 : Rep h₀ ⟨kt (PX b1 b2 q), (oP X0 X1 C1 C2 Rr Tr rr ir W K ++ Fx), [(KI, litO X1 3), (OACC, lstO #[v0, v1] 2), (OD, oDict (PX b1 b2 q) (some (e, .int K.s2 K.u2))), (C8, celO (some (.int K.c2 K.t2))), (nx + 3, { cls := .type "list_iterator", data := .fields #[.none, .int 6 0] }), (nx + 4, lstO ys yn), (nx + 5, { cls := .type "dict", data := mkD (PX b1 b2 q) (some dd') })], [], nx + 8, 0⟩ h2 := Rep.reX (Fx := Fx) (F := oP X0 X1 C1 C2 Rr Tr rr ir W K) (F' := mkF X0 C2 C8 K.c2 K.t2 Rr Tr rr ir W ((C1, cellO (.ref X0)) :: (X1, keysO K) :: (K.K0, keyO K.c0 K.t0 K.s0 K.u0) :: (K.K1, keyO K.c1 K.t1 K.s1 K.u1) :: (K.K2, keyO K.c2 K.t2 K.s2 K.u2) :: (K.K3, keyO K.c3 K.t3 K.s3 K.u3) :: (KI, litO X1 3) :: (OACC, lstO #[v0, v1] 2) :: (OD, oDict (PX b1 b2 q) (some (e, .int K.s2 K.u2))) :: []))
    (Z := [(KI, litO X1 3), (OACC, lstO #[v0, v1] 2), (OD, oDict (PX b1 b2 q) (some (e, .int K.s2 K.u2))), (C8, celO (some (.int K.c2 K.t2))), (nx + 3, { cls := .type "list_iterator", data := .fields #[.none, .int 6 0] }), (nx + 4, lstO ys yn), (nx + 5, { cls := .type "dict", data := mkD (PX b1 b2 q) (some dd') })]) (tk := 0)
    D2 D4 [0,54,51,3,57,60,63,66,9,12,15,18,21,24,27,30,33,36,39,42,45,48] [69,72,75,6,1,4,7] rfl rfl rfl (by kernel_rfl) (by kernel_rfl) rfl
  refine back (V := VC (PX b1 b2 q) prog) L hP 100000 0 (hz [19,19,19]) D5 (good_hole (n := nn + 40) L (c := .call (.builtin "len") ⟨[.ref (nx + 4)], []⟩) (pp := []) (by generalize b1 = b; generalize b2 = c; revert b c; exact kBB (by kernel_rfl)) trivial fun h3 L3 D6 => ?_)
  refine c_len (s := ⟨h3, g, d, _, os⟩) (items := ys) (n := yn) (D6.atM (j := 16) (x := (nx + 4, lstO ys yn)) (by generalize b1 = b; generalize b2 = c; revert b c; exact kBB (by kernel_rfl))) (by rw [hy]; exact Nat.lt_of_le_of_lt (cntC_le _ _ _ _) (by decide)) fun t3 tk3 => ?_
  refine back (V := VC (PX b1 b2 q) prog) L hP 100000 0 (hz [4,4,4,4]) D6 (good_tail (n := nn + 40) L (c := .compLoop mkO 0 (.ref KI) (.ref OACC) (oEnv FR C1 C2 C8 OD)) (pp := [IntMulOk K.s2 (ys.size : Nat)]) (by generalize b1 = b; generalize b2 = c; revert b c; exact kBB (by kernel_rfl)) (by generalize b1 = b; generalize b2 = c; revert b c; exact kBB (by kernel_rfl)) ⟨hm _ (by rw [hy]; exact cntC_le _ _ _ _), trivial⟩ fun h4 D7 => ?_)
  refine H h4 _ tk3 e ?_
  rw [← hy]
  exact D7.toF [0,1,2,3] (by generalize b1 = b; generalize b2 = c; revert b c; exact kBB (by kernel_rfl)) (by generalize b1 = b; generalize b2 = c; revert b c; exact kBB (by kernel_rfl)) rfl
theorem oTurn3 {nn : Nat} (L : Deep (nn + 60) A) (hw : w.params = PX b1 b2 q) {v0 v1 v2 : Value} {e : Nat} {x y : Value} (hc : K.c3 < 3) (hm : ∀ n : Nat, n ≤ 6 → IntMulOk K.s3 n)
    (D : Rep h₀ (oM (PX b1 b2 q) (oP X0 X1 C1 C2 Rr Tr rr ir W K ++ Fx) X1 KI OACC OD C8 3 #[v0, v1, v2] 3 (some (e, x)) (some y) nx tk) h)
    (H : ∀ h' tk' t' e, Rep h₀ (oM (PX b1 b2 q) (oP X0 X1 C1 C2 Rr Tr rr ir W K ++ Fx) X1 KI OACC OD C8 4 #[v0, v1, v2, .int (K.s3 * (cntC K.c3 W rr 6 : Nat)) t'] 4 (some (e, .int K.s3 K.u3)) (some (.int K.c3 K.t3)) (nx + 8) tk') h' → codeAny (model prog w) A (.compLoop mkO 0 (.ref KI) (.ref OACC) (oEnv FR C1 C2 C8 OD)) R ⟨h', g, d, tk', os⟩) :
    codeAny (model prog w) A (.compLoop mkO 0 (.ref KI) (.ref OACC) (oEnv FR C1 C2 C8 OD)) R ⟨h, g, d, tk, os⟩ := by
  have hP : (VC (PX b1 b2 q) prog).P = ⟨prog, w.params⟩ := by rw [hw]; rfl
  refine start (V := VC (PX b1 b2 q) prog) L hP 100000 0 (cond b2 [1,0,1,0,1,0,1,0,3,0,1,0,1,0,1,0,21,0,21,0,21,0,21,0,13,0,13,0,13,0,13,0,13,0,21,0,13,0,13,0,13,0,13,0,13,0,13,0,21,0,13,0,13,0,13,0,13,0,13,0,13,0,21,0,13,0,13,0,19,0,10,0,10,0,7,0,7,0,7,2,6,0,0,0,0,0,0,0,22,0] [1,0,1,0,1,0,1,0,3,0,1,0,1,0,1,0,21,0,21,0,21,0,21,0,13,0,13,0,13,0,13,0,13,0,21,0,13,0,13,0,13,0,13,0,13,0,13,0,21,0,13,0,13,0,13,0,13,0,13,0,13,0,21,0,13,0,13,0,19,0,10,0,10,0,7,0,7,0,7,2,6,0,0,0,0,0,0,0,22,0,22,0,22,0,22,0,22,0]) D rfl (good_hole (n := nn + 40) L (c := .compLoop mkE 0 (.ref (nx + 3)) (.ref (nx + 4)) (mkEnv FR C2 C8 (nx + 5))) (pp := []) (by generalize b1 = b; generalize b2 = c; revert b c; exact kBB (by kernel_rfl)) trivial fun h1 L1 D1 => ?_)
  have D2 := D1.toF (T := kt (PX b1 b2 q)) (F := (oP X0 X1 C1 C2 Rr Tr rr ir W K ++ Fx)) (Z := [(KI, litO X1 4), (OACC, lstO #[v0, v1, v2] 3), (OD, oDict (PX b1 b2 q) (some (e, .int K.s3 K.u3))), (C8, celO (some (.int K.c3 K.t3))), (nx + 3, litO X0 0), (nx + 4, lstO #[] 0), (nx + 5, { cls := .type "dict", data := .dict #[] 0 })]) (B := []) (nx := nx + 6) (tk := 0) [0,1,2,3,7,8,9] (by generalize b1 = b; generalize b2 = c; revert b c; exact kBB (by kernel_rfl)) (by generalize b1 = b; generalize b2 = c; revert b c; exact kBB (by kernel_rfl)) rfl
  have D3 : Rep h₀ (mkM (PX b1 b2 q) (mkF X0 C2 C8 K.c3 K.t3 Rr Tr rr ir W ((C1, cellO (.ref X0)) :: (X1, keysO K) :: (K.K0, keyO K.c0 K.t0 K.s0 K.u0) :: (K.K1, keyO K.c1 K.t1 K.s1 K.u1) :: (K.K2, keyO K.c2 K.t2 K.s2 K.u2) :: (K.K3, keyO K.c3 K.t3 K.s3 K.u3) :: (KI, litO X1 4) :: (OACC, lstO #[v0, v1, v2] 3) :: (OD, oDict (PX b1 b2 q) (some (e, .int K.s3 K.u3))) :: Fx)) X0 (nx + 3) (nx + 4) (nx + 5) 0 #[] 0 none (nx + 6) 0) h1 :=
    D2.toX (T := kt (PX b1 b2 q)) (F := mkF X0 C2 C8 K.c3 K.t3 Rr Tr rr ir W ((C1, cellO (.ref X0)) :: (X1, keysO K) :: (K.K0, keyO K.c0 K.t0 K.s0 K.u0) :: (K.K1, keyO K.c1 K.t1 K.s1 K.u1) :: (K.K2, keyO K.c2 K.t2 K.s2 K.u2) :: (K.K3, keyO K.c3 K.t3 K.s3 K.u3) :: (KI, litO X1 4) :: (OACC, lstO #[v0, v1, v2] 3) :: (OD, oDict (PX b1 b2 q) (some (e, .int K.s3 K.u3))) :: [])) (Z := [(nx + 3, litO X0 0), (nx + 4, lstO #[] 0), (nx + 5, { cls := .type "dict", data := .dict #[] 0 })]) (B := []) (nx := nx + 6)
      [0,9,10,24,27,30,33,36,39,42,45,48,51,54,57,60,63,6,3,12,15,18,21,1,4,7] [4,5,6] (fun p hp => List.mem_append_right _ hp) (by kernel_rfl) (by kernel_rfl)
  refine mkLoop L1 hw hc (D3.tok _) fun h2 tk2 ys yn dd' hy D4 => ?_
  have D5 : Rep h₀ ⟨kt (PX b1 b2 q), (oP X0 X1 C1 C2 Rr Tr rr ir W K ++ Fx), [(KI, litO X1 4), (OACC, lstO #[v0, v1, v2] 3), (OD, oDict (PX b1 b2 q) (some (e, .int K.s3 K.u3))), (C8, celO (some (.int K.c3 K.t3))), (nx + 3, { cls := .type "list_iterator", data := .fields #[.none, .int 6 0] }), (nx + 4, lstO ys yn), (nx + 5, { cls := .type "dict", data := mkD (PX b1 b2 q) (some dd') })], [], nx + 8, 0⟩ h2 := Rep.reX (Fx := Fx) (F := oP X0 X1 C1 C2 Rr Tr rr ir W K) (F' := mkF X0 C2 C8 K.c3 K.t3 Rr Tr rr ir W ((C1, cellO (.ref X0)) :: (X1, keysO K) :: (K.K0, keyO K.c0 K.t0 K.s0 K.u0) :: (K.K1, keyO K.c1 K.t1 K.s1 K.u1) :: (K.K2, keyO K.c2 K.t2 K.s2 K.u2) :: (K.K3, keyO K.c3 K.t3 K.s3 K.u3) :: (KI, litO X1 4) :: (OACC, lstO #[v0, v1, v2] 3) :: (OD, oDict (PX b1 b2 q) (some (e, .int K.s3 K.u3))) :: []))
    (Z := [(KI, litO X1 4), (OACC, lstO #[v0, v1, v2] 3), (OD, oDict (PX b1 b2 q) (some (e, .int K.s3 K.u3))), (C8, celO (some (.int K.c3 K.t3))), (nx + 3, { cls := .type "list_iterator", data := .fields #[.none, .int 6 0] }), (nx + 4, lstO ys yn), (nx + 5, { cls := .type "dict", data := mkD (PX b1 b2 q) (some dd') })]) (tk := 0)
    D2 D4 [0,54,51,3,57,60,63,66,9,12,15,18,21,24,27,30,33,36,39,42,45,48] [69,72,75,6,1,4,7] rfl rfl rfl (by kernel_rfl) (by kernel_rfl) rfl
  refine back (V := VC (PX b1 b2 q) prog) L hP 100000 0 (hz [19,19,19]) D5 (good_hole (n := nn + 40) L (c := .call (.builtin "len") ⟨[.ref (nx + 4)], []⟩) (pp := []) (by generalize b1 = b; generalize b2 = c; revert b c; exact kBB (by kernel_rfl)) trivial fun h3 L3 D6 => ?_)
  refine c_len (s := ⟨h3, g, d, _, os⟩) (items := ys) (n := yn) (D6.atM (j := 16) (x := (nx + 4, lstO ys yn)) (by generalize b1 = b; generalize b2 = c; revert b c; exact kBB (by kernel_rfl))) (by rw [hy]; exact Nat.lt_of_le_of_lt (cntC_le _ _ _ _) (by decide)) fun t3 tk3 => ?_
  refine back (V := VC (PX b1 b2 q) prog) L hP 100000 0 (hz [4,4,4,4]) D6 (good_tail (n := nn + 40) L (c := .compLoop mkO 0 (.ref KI) (.ref OACC) (oEnv FR C1 C2 C8 OD)) (pp := [IntMulOk K.s3 (ys.size : Nat)]) (by generalize b1 = b; generalize b2 = c; revert b c; exact kBB (by kernel_rfl)) (by generalize b1 = b; generalize b2 = c; revert b c; exact kBB (by kernel_rfl)) ⟨hm _ (by rw [hy]; exact cntC_le _ _ _ _), trivial⟩ fun h4 D7 => ?_)
  refine H h4 _ tk3 e ?_
  rw [← hy]
  exact D7.toF [0,1,2,3] (by generalize b1 = b; generalize b2 = c; revert b c; exact kBB (by kernel_rfl)) (by generalize b1 = b; generalize b2 = c; revert b c; exact kBB (by kernel_rfl)) rfl
end
end Mine
namespace Mine
open PySem PySem.W PySem.W.X PySem.Spec PySem.Calls PyProof.Rows
open PySem.W.Fast
noncomputable def VF (P : Params) (prog : Program) : Env9 := ⟨⟨prog, P⟩, fun c => match c with
  | .compLoop _ _ _ _ _ => true
  | .forLoop _ _ _ _ _ => true
  | _ => false⟩
noncomputable def mSt : Stmt := inSt (stAt 13) 1
noncomputable def mEnv (FR C1 C2 : Nat) : Env := { scope := sScope (stAt 13), locals := FR, globals := 3, cells := [(Str.ofString "row", C2), (Str.ofString "rows", C1)], qual := Str.ofString "_law_marks.<locals>.", func := some 103, code := .ref 102, frame := some FR, builtins := 0 }
noncomputable def mCode (FR C1 C2 IT : Nat) : Code := .forLoop (forT mSt) (.ref IT) (forB mSt) (forE mSt) (mEnv FR C1 C2)
noncomputable def mFrame (P : Params) (X1 M e1 e2 : Nat) : Obj := { cls := .type "frame", data := .dict #[de P "keys" e1 (.ref X1), de P "marks" e2 (.ref M)] 2 }
noncomputable def mP (P : Params) (X0 X1 C1 FR M e1 e2 : Nat) (W : Rows) (K : Keys) : Facts :=
  (X0, rowsO W) :: (X1, keysO K) :: (C1, cellO (.ref X0)) :: (FR, mFrame P X1 M e1 e2) :: (K.K0, keyO K.c0 K.t0 K.s0 K.u0) :: (K.K1, keyO K.c1 K.t1 K.s1 K.u1) :: (K.K2, keyO K.c2 K.t2 K.s2 K.u2) :: (K.K3, keyO K.c3 K.t3 K.s3 K.u3) :: rsF W []
noncomputable def mkV (s : Int) (c : Nat) (W : Rows) (r : RowD) : Int := s * (cntC c W r 6 : Nat)
noncomputable def markO (W : Rows) (K : Keys) (r : RowD) (t0 t1 t2 t3 : Nat) : Obj := lstO #[.int (mkV K.s0 K.c0 W r) t0, .int (mkV K.s1 K.c1 W r) t1, .int (mkV K.s2 K.c2 W r) t2, .int (mkV K.s3 K.c3 W r) t3] 4
structure Keys.Ok (K : Keys) : Prop where
  h0 : K.c0 < 3
  h1 : K.c1 < 3
  h2 : K.c2 < 3
  h3 : K.c3 < 3
  m0 : ∀ n : Nat, n ≤ 6 → IntMulOk K.s0 n
  m1 : ∀ n : Nat, n ≤ 6 → IntMulOk K.s1 n
  m2 : ∀ n : Nat, n ≤ 6 → IntMulOk K.s2 n
  m3 : ∀ n : Nat, n ≤ 6 → IntMulOk K.s3 n
section
variable {prog : Program} {w : World} {A : Around} {R : Result → Shared → Prop} {h₀ h : Heap} {g : Array GenState} {d : Drawn} {tk : Nat} {os : OsState} {b1 b2 : Bool} {q : Params}
variable {FR X0 X1 C1 C2 C8 KI OACC OD Rr Tr nx M IT e1 e2 : Nat} {ir : Int} {rr : RowD} {W : Rows} {K : Keys} {Fx : Facts}
theorem oEnd {nn : Nat} (L : Deep nn A) (hw : w.params = PX b1 b2 q) {v0 v1 v2 v3 x y : Value} {e : Nat}
    (D : Rep h₀ (oM (PX b1 b2 q) (oP X0 X1 C1 C2 Rr Tr rr ir W K ++ Fx) X1 KI OACC OD C8 4 #[v0, v1, v2, v3] 4 (some (e, x)) (some y) nx tk) h)
    (H : ∀ h' tk', Rep h₀ ⟨kt (PX b1 b2 q), (oP X0 X1 C1 C2 Rr Tr rr ir W K ++ Fx), [(KI, { cls := .type "list_iterator", data := .fields #[.none, .int 4 0] }), (OACC, lstO #[v0, v1, v2, v3] 4), (OD, oDict (PX b1 b2 q) (some (e, x))), (C8, celO (some y))], [], nx + 2, 0⟩ h' → R (.ok .next) ⟨h', g, d, tk', os⟩) :
    codeAny (model prog w) A (.compLoop mkO 0 (.ref KI) (.ref OACC) (oEnv FR C1 C2 C8 OD)) R ⟨h, g, d, tk, os⟩ := by
  have hP : (VC (PX b1 b2 q) prog).P = ⟨prog, w.params⟩ := by rw [hw]; rfl
  refine start (V := VC (PX b1 b2 q) prog) L hP 100000 0 (hz [1,1,1,1,3,1,1,16]) D rfl (good_done (r := .ok .next) (pp := []) (by generalize b1 = b; generalize b2 = c; revert b c; exact kBB (by kernel_rfl)) trivial fun h1 D1 => ?_)
  exact H h1 _ (D1.toF [0,1,2,3] (by generalize b1 = b; generalize b2 = c; revert b c; exact kBB (by kernel_rfl)) (by generalize b1 = b; generalize b2 = c; revert b c; exact kBB (by kernel_rfl)) rfl)
theorem oRow {nn : Nat} (L : Deep (nn + 60) A) (hw : w.params = PX b1 b2 q) (O : K.Ok)
    (D : Rep h₀ (oM (PX b1 b2 q) (oP X0 X1 C1 C2 Rr Tr rr ir W K ++ Fx) X1 KI OACC OD C8 0 #[] 0 none none nx tk) h)
    (H : ∀ h' tk' t0 t1 t2 t3 e, Rep h₀ ⟨kt (PX b1 b2 q), (oP X0 X1 C1 C2 Rr Tr rr ir W K ++ Fx), [(KI, { cls := .type "list_iterator", data := .fields #[.none, .int 4 0] }), (OACC, markO W K rr t0 t1 t2 t3), (OD, oDict (PX b1 b2 q) (some (e, .int K.s3 K.u3))), (C8, celO (some (.int K.c3 K.t3)))], [], nx + 34, 0⟩ h' → R (.ok .next) ⟨h', g, d, tk', os⟩) :
    codeAny (model prog w) A (.compLoop mkO 0 (.ref KI) (.ref OACC) (oEnv FR C1 C2 C8 OD)) R ⟨h, g, d, tk, os⟩ := by
  refine oTurn0 L hw O.h0 O.m0 D fun h1 k1 t0 e1 D1 => ?_
  refine oTurn1 L hw O.h1 O.m1 D1 fun h2 k2 t1 e2 D2 => ?_
  refine oTurn2 L hw O.h2 O.m2 D2 fun h3 k3 t2 e3 D3 => ?_
  refine oTurn3 L hw O.h3 O.m3 D3 fun h4 k4 t3 e4 D4 => ?_
  exact oEnd L hw D4 fun h5 k5 D5 => H h5 k5 t0 t1 t2 t3 e4 D5
theorem mTurn0 {nn : Nat} (L : Deep (nn + 100) A) (hw : w.params = PX b1 b2 q) (O : K.Ok)
    (D : Rep h₀ ⟨kt (PX b1 b2 q), mP (PX b1 b2 q) X0 X1 C1 FR M e1 e2 W K ++ Fx, [(C2, celO none), (M, lstO #[] 0), (IT, litO X0 0)], [], nx, tk⟩ h)
    (H : ∀ h' tk' t0 t1 t2 t3, Rep h₀ ⟨kt (PX b1 b2 q), mP (PX b1 b2 q) X0 X1 C1 FR M e1 e2 W K ++ ((nx + 1, markO W K W.r0 t0 t1 t2 t3) :: Fx), [(C2, celO (some (.ref W.R0))), (M, lstO #[.ref (nx + 1)] 1), (IT, litO X0 1)], [], nx + 38, tk'⟩ h' → codeAny (model prog w) A (mCode FR C1 C2 IT) R ⟨h', g, d, tk', os⟩) :
    codeAny (model prog w) A (mCode FR C1 C2 IT) R ⟨h, g, d, tk, os⟩ := by
  have hP : (VF (PX b1 b2 q) prog).P = ⟨prog, w.params⟩ := by rw [hw]; rfl
  refine start (V := VF (PX b1 b2 q) prog) L hP 100000 0 (cond b2 (hz [7,7,7,7,0,7,7,1,1,9,4,4,4,4,9,3,3,3,10]) (hz [7,7,7,7,0,7,7,1,1,9,4,4,4,4,9,3,3,3,10,10,10,10,10])) D rfl (good_hole (n := nn + 80) L (c := .compLoop mkO 0 (.ref nx) (.ref (nx + 1)) (oEnv FR C1 C2 (nx + 3) (nx + 2))) (pp := []) (by generalize b1 = b; generalize b2 = c; revert b c; exact kBB (by kernel_rfl)) trivial fun h1 L1 D1 => ?_)
  have D2 := D1.toF (T := kt (PX b1 b2 q)) (F := mP (PX b1 b2 q) X0 X1 C1 FR M e1 e2 W K ++ Fx) (Z := [(C2, celO (some (.ref W.R0))), (M, lstO #[] 0), (IT, litO X0 1), (nx, litO X1 0), (nx + 1, lstO #[] 0), (nx + 2, { cls := .type "dict", data := .dict #[] 0 }), (nx + 3, celO none)]) (B := []) (nx := nx + 4) (tk := 0) [0,1,2,3,4,5,6] (by generalize b1 = b; generalize b2 = c; revert b c; exact kBB (by kernel_rfl)) (by generalize b1 = b; generalize b2 = c; revert b c; exact kBB (by kernel_rfl)) rfl
  have D3 : Rep h₀ (oM (PX b1 b2 q) (oP X0 X1 C1 C2 W.R0 W.T0 W.r0 0 W K ++ ((FR, mFrame (PX b1 b2 q) X1 M e1 e2) :: (M, lstO #[] 0) :: (IT, litO X0 1) :: Fx)) X1 nx (nx + 1) (nx + 2) (nx + 3) 0 #[] 0 none none (nx + 4) 0) h1 :=
    D2.toX (T := kt (PX b1 b2 q)) (F := oP X0 X1 C1 C2 W.R0 W.T0 W.r0 0 W K ++ ((FR, mFrame (PX b1 b2 q) X1 M e1 e2) :: (M, lstO #[] 0) :: (IT, litO X0 1) :: [])) (Z := [(nx, litO X1 0), (nx + 1, lstO #[] 0), (nx + 2, { cls := .type "dict", data := .dict #[] 0 }), (nx + 3, celO none)]) (B := []) (nx := nx + 4) [0,3,6,1,12,15,18,21,24,27,24,27,30,33,36,39,42,45,48,51,54,57,9,4,7] [3,4,5,6] (fun p hp => List.mem_append_right _ hp) (by kernel_rfl) (by kernel_rfl)
  refine oRow (nn := nn + 20) L1 hw O (D3.tok _) fun h2 tk2 t0 t1 t2 t3 e D4 => ?_
  have D5 : Rep h₀ ⟨kt (PX b1 b2 q), mP (PX b1 b2 q) X0 X1 C1 FR M e1 e2 W K ++ Fx, [(C2, celO (some (.ref W.R0))), (M, lstO #[] 0), (IT, litO X0 1), (nx, { cls := .type "list_iterator", data := .fields #[.none, .int 4 0] }), (nx + 1, markO W K W.r0 t0 t1 t2 t3), (nx + 2, oDict (PX b1 b2 q) (some (e, .int K.s3 K.u3))), (nx + 3, celO (some (.int K.c3 K.t3)))], [], nx + 38, 0⟩ h2 := Rep.reX (Fx := Fx) (F := mP (PX b1 b2 q) X0 X1 C1 FR M e1 e2 W K) (F' := oP X0 X1 C1 C2 W.R0 W.T0 W.r0 0 W K ++ ((FR, mFrame (PX b1 b2 q) X1 M e1 e2) :: (M, lstO #[] 0) :: (IT, litO X0 1) :: [])) (Z := [(C2, celO (some (.ref W.R0))), (M, lstO #[] 0), (IT, litO X0 1), (nx, { cls := .type "list_iterator", data := .fields #[.none, .int 4 0] }), (nx + 1, markO W K W.r0 t0 t1 t2 t3), (nx + 2, oDict (PX b1 b2 q) (some (e, .int K.s3 K.u3))), (nx + 3, celO (some (.int K.c3 K.t3)))]) (tk := 0) D2 D4 [0,3,6,66,12,15,18,21,30,33,36,39,42,45,48,51,54,57,60,63] [9,69,72,1,4,7,10] rfl rfl rfl (by kernel_rfl) (by kernel_rfl) rfl
  refine back (V := VF (PX b1 b2 q) prog) L hP 100000 0 (hz [16,16,16,4,4,4,4]) D5 (good_tail (n := nn + 80) L (c := mCode FR C1 C2 IT) (pp := []) (by generalize b1 = b; generalize b2 = c; revert b c; exact kBB (by kernel_rfl)) (by generalize b1 = b; generalize b2 = c; revert b c; exact kBB (by kernel_rfl)) trivial fun h4 D7 => ?_)
  have D8 := D7.toF (T := kt (PX b1 b2 q)) (F := mP (PX b1 b2 q) X0 X1 C1 FR M e1 e2 W K ++ Fx) (Z := [(C2, celO (some (.ref W.R0))), (M, lstO #[.ref (nx + 1)] 1), (IT, litO X0 1), (nx + 1, markO W K W.r0 t0 t1 t2 t3)]) (B := []) (nx := nx + 38) (tk := 0) [0,1,2,4] (by generalize b1 = b; generalize b2 = c; revert b c; exact kBB (by kernel_rfl)) (by generalize b1 = b; generalize b2 = c; revert b c; exact kBB (by kernel_rfl)) rfl
  exact H h4 _ t0 t1 t2 t3 (D8.toX (T := kt (PX b1 b2 q)) (F := mP (PX b1 b2 q) X0 X1 C1 FR M e1 e2 W K ++ [(nx + 1, markO W K W.r0 t0 t1 t2 t3)]) (B := []) (nx := nx + 38) [0,3,6,9,12,15,18,21,24,27,30,33,36,39,42,45,48,51,54,57,10] [0,1,2] (fun p hp => List.mem_append_right _ hp) (by kernel_rfl) (by kernel_rfl))
theorem mTurn1 {nn : Nat} (L : Deep (nn + 100) A) (hw : w.params = PX b1 b2 q) {a0 : Nat} (O : K.Ok)
    (D : Rep h₀ ⟨kt (PX b1 b2 q), mP (PX b1 b2 q) X0 X1 C1 FR M e1 e2 W K ++ Fx, [(C2, celO (some (.ref W.R0))), (M, lstO #[.ref a0] 1), (IT, litO X0 1)], [], nx, tk⟩ h)
    (H : ∀ h' tk' t0 t1 t2 t3, Rep h₀ ⟨kt (PX b1 b2 q), mP (PX b1 b2 q) X0 X1 C1 FR M e1 e2 W K ++ ((nx + 1, markO W K W.r1 t0 t1 t2 t3) :: Fx), [(C2, celO (some (.ref W.R1))), (M, lstO #[.ref a0, .ref (nx + 1)] 2), (IT, litO X0 2)], [], nx + 38, tk'⟩ h' → codeAny (model prog w) A (mCode FR C1 C2 IT) R ⟨h', g, d, tk', os⟩) :
    codeAny (model prog w) A (mCode FR C1 C2 IT) R ⟨h, g, d, tk, os⟩ := by
  have hP : (VF (PX b1 b2 q) prog).P = ⟨prog, w.params⟩ := by rw [hw]; rfl
  refine start (V := VF (PX b1 b2 q) prog) L hP 100000 0 (cond b2 (hz [7,7,7,7,0,7,7,1,1,9,4,4,4,4,9,3,3,3,10]) (hz [7,7,7,7,0,7,7,1,1,9,4,4,4,4,9,3,3,3,10,10,10,10,10])) D rfl (good_hole (n := nn + 80) L (c := .compLoop mkO 0 (.ref nx) (.ref (nx + 1)) (oEnv FR C1 C2 (nx + 3) (nx + 2))) (pp := []) (by generalize b1 = b; generalize b2 = c; revert b c; exact kBB (by kernel_rfl)) trivial fun h1 L1 D1 => ?_)
  have D2 := D1.toF (T := kt (PX b1 b2 q)) (F := mP (PX b1 b2 q) X0 X1 C1 FR M e1 e2 W K ++ Fx) (Z := [(C2, celO (some (.ref W.R1))), (M, lstO #[.ref a0] 1), (IT, litO X0 2), (nx, litO X1 0), (nx + 1, lstO #[] 0), (nx + 2, { cls := .type "dict", data := .dict #[] 0 }), (nx + 3, celO none)]) (B := []) (nx := nx + 4) (tk := 0) [0,1,2,3,4,5,6] (by generalize b1 = b; generalize b2 = c; revert b c; exact kBB (by kernel_rfl)) (by generalize b1 = b; generalize b2 = c; revert b c; exact kBB (by kernel_rfl)) rfl
  have D3 : Rep h₀ (oM (PX b1 b2 q) (oP X0 X1 C1 C2 W.R1 W.T1 W.r1 1 W K ++ ((FR, mFrame (PX b1 b2 q) X1 M e1 e2) :: (M, lstO #[.ref a0] 1) :: (IT, litO X0 2) :: Fx)) X1 nx (nx + 1) (nx + 2) (nx + 3) 0 #[] 0 none none (nx + 4) 0) h1 :=
    D2.toX (T := kt (PX b1 b2 q)) (F := oP X0 X1 C1 C2 W.R1 W.T1 W.r1 1 W K ++ ((FR, mFrame (PX b1 b2 q) X1 M e1 e2) :: (M, lstO #[.ref a0] 1) :: (IT, litO X0 2) :: [])) (Z := [(nx, litO X1 0), (nx + 1, lstO #[] 0), (nx + 2, { cls := .type "dict", data := .dict #[] 0 }), (nx + 3, celO none)]) (B := []) (nx := nx + 4) [0,3,6,1,12,15,18,21,30,33,24,27,30,33,36,39,42,45,48,51,54,57,9,4,7] [3,4,5,6] (fun p hp => List.mem_append_right _ hp) (by kernel_rfl) (by kernel_rfl)
  refine oRow (nn := nn + 20) L1 hw O (D3.tok _) fun h2 tk2 t0 t1 t2 t3 e D4 => ?_
  have D5 : Rep h₀ ⟨kt (PX b1 b2 q), mP (PX b1 b2 q) X0 X1 C1 FR M e1 e2 W K ++ Fx, [(C2, celO (some (.ref W.R1))), (M, lstO #[.ref a0] 1), (IT, litO X0 2), (nx, { cls := .type "list_iterator", data := .fields #[.none, .int 4 0] }), (nx + 1, markO W K W.r1 t0 t1 t2 t3), (nx + 2, oDict (PX b1 b2 q) (some (e, .int K.s3 K.u3))), (nx + 3, celO (some (.int K.c3 K.t3)))], [], nx + 38, 0⟩ h2 := Rep.reX (Fx := Fx) (F := mP (PX b1 b2 q) X0 X1 C1 FR M e1 e2 W K) (F' := oP X0 X1 C1 C2 W.R1 W.T1 W.r1 1 W K ++ ((FR, mFrame (PX b1 b2 q) X1 M e1 e2) :: (M, lstO #[.ref a0] 1) :: (IT, litO X0 2) :: [])) (Z := [(C2, celO (some (.ref W.R1))), (M, lstO #[.ref a0] 1), (IT, litO X0 2), (nx, { cls := .type "list_iterator", data := .fields #[.none, .int 4 0] }), (nx + 1, markO W K W.r1 t0 t1 t2 t3), (nx + 2, oDict (PX b1 b2 q) (some (e, .int K.s3 K.u3))), (nx + 3, celO (some (.int K.c3 K.t3)))]) (tk := 0) D2 D4 [0,3,6,66,12,15,18,21,30,33,36,39,42,45,48,51,54,57,60,63] [9,69,72,1,4,7,10] rfl rfl rfl (by kernel_rfl) (by kernel_rfl) rfl
  refine back (V := VF (PX b1 b2 q) prog) L hP 100000 0 (hz [16,16,16,4,4,4,4]) D5 (good_tail (n := nn + 80) L (c := mCode FR C1 C2 IT) (pp := []) (by generalize b1 = b; generalize b2 = c; revert b c; exact kBB (by kernel_rfl)) (by generalize b1 = b; generalize b2 = c; revert b c; exact kBB (by kernel_rfl)) trivial fun h4 D7 => ?_)
  have D8 := D7.toF (T := kt (PX b1 b2 q)) (F := mP (PX b1 b2 q) X0 X1 C1 FR M e1 e2 W K ++ Fx) (Z := [(C2, celO (some (.ref W.R1))), (M, lstO #[.ref a0, .ref (nx + 1)] 2), (IT, litO X0 2), (nx + 1, markO W K W.r1 t0 t1 t2 t3)]) (B := []) (nx := nx + 38) (tk := 0) [0,1,2,4] (by generalize b1 = b; generalize b2 = c; revert b c; exact kBB (by kernel_rfl)) (by generalize b1 = b; generalize b2 = c; revert b c; exact kBB (by kernel_rfl)) rfl
  exact H h4 _ t0 t1 t2 t3 (D8.toX (T := kt (PX b1 b2 q)) (F := mP (PX b1 b2 q) X0 X1 C1 FR M e1 e2 W K ++ [(nx + 1, markO W K W.r1 t0 t1 t2 t3)]) (B := []) (nx := nx + 38) [0,3,6,9,12,15,18,21,24,27,30,33,36,39,42,45,48,51,54,57,10] [0,1,2] (fun p hp => List.mem_append_right _ hp) (by kernel_rfl) (by kernel_rfl))
theorem mTurn2 {nn : Nat} (L : Deep (nn + 100) A) (hw : w.params = PX b1 b2 q) {a0 a1 : Nat} (O : K.Ok)
    (D : Rep h₀ ⟨kt (PX b1 b2 q), mP (PX b1 b2 q) X0 X1 C1 FR M e1 e2 W K ++ Fx, [(C2, celO (some (.ref W.R1))), (M, lstO #[.ref a0, .ref a1] 2), (IT, litO X0 2)], [], nx, tk⟩ h)
    (H : ∀ h' tk' t0 t1 t2 t3, Rep h₀ ⟨kt (PX b1 b2 q), mP (PX b1 b2 q) X0 X1 C1 FR M e1 e2 W K ++ ((nx + 1, markO W K W.r2 t0 t1 t2 t3) :: Fx), [(C2, celO (some (.ref W.R2))), (M, lstO #[.ref a0, .ref a1, .ref (nx + 1)] 3), (IT, litO X0 3)], [], nx + 38, tk'⟩ h' → codeAny (model prog w) A (mCode FR C1 C2 IT) R ⟨h', g, d, tk', os⟩) :
    codeAny (model prog w) A (mCode FR C1 C2 IT) R ⟨h, g, d, tk, os⟩ := by
  have hP : (VF (PX b1 b2 q) prog).P = ⟨prog, w.params⟩ := by rw [hw]; rfl
  refine start (V := VF (PX b1 b2 q) prog) L hP 100000 0 (cond b2 (hz [7,7,7,7,0,7,7,1,1,9,4,4,4,4,9,3,3,3,10]) (hz [7,7,7,7,0,7,7,1,1,9,4,4,4,4,9,3,3,3,10,10,10,10,10])) D rfl (good_hole (n := nn + 80) L (c := .compLoop mkO 0 (.ref nx) (.ref (nx + 1)) (oEnv FR C1 C2 (nx + 3) (nx + 2))) (pp := []) (by generalize b1 = b; generalize b2 = c; revert b c; exact kBB (by kernel_rfl)) trivial fun h1 L1 D1 => ?_)
  have D2 := D1.toF (T := kt (PX b1 b2 q)) (F := mP (PX b1 b2 q) X0 X1 C1 FR M e1 e2 W K ++ Fx) (Z := [(C2, celO (some (.ref W.R2))), (M, lstO #[.ref a0, .ref a1] 2), (IT, litO X0 3), (nx, litO X1 0), (nx + 1, lstO #[] 0), (nx + 2, { cls := .type "dict", data := .dict #[] 0 }), (nx + 3, celO none)]) (B := []) (nx := nx + 4) (tk := 0) [0,1,2,3,4,5,6] (by generalize b1 = b; generalize b2 = c; revert b c; exact kBB (by kernel_rfl)) (by generalize b1 = b; generalize b2 = c; revert b c; exact kBB (by kernel_rfl)) rfl
  have D3 : Rep h₀ (oM (PX b1 b2 q) (oP X0 X1 C1 C2 W.R2 W.T2 W.r2 2 W K ++ ((FR, mFrame (PX b1 b2 q) X1 M e1 e2) :: (M, lstO #[.ref a0, .ref a1] 2) :: (IT, litO X0 3) :: Fx)) X1 nx (nx + 1) (nx + 2) (nx + 3) 0 #[] 0 none none (nx + 4) 0) h1 :=
    D2.toX (T := kt (PX b1 b2 q)) (F := oP X0 X1 C1 C2 W.R2 W.T2 W.r2 2 W K ++ ((FR, mFrame (PX b1 b2 q) X1 M e1 e2) :: (M, lstO #[.ref a0, .ref a1] 2) :: (IT, litO X0 3) :: [])) (Z := [(nx, litO X1 0), (nx + 1, lstO #[] 0), (nx + 2, { cls := .type "dict", data := .dict #[] 0 }), (nx + 3, celO none)]) (B := []) (nx := nx + 4) [0,3,6,1,12,15,18,21,36,39,24,27,30,33,36,39,42,45,48,51,54,57,9,4,7] [3,4,5,6] (fun p hp => List.mem_append_right _ hp) (by kernel_rfl) (by kernel_rfl)
  refine oRow (nn := nn + 20) L1 hw O (D3.tok _) fun h2 tk2 t0 t1 t2 t3 e D4 => ?_
  have D5 : Rep h₀ ⟨kt (PX b1 b2 q), mP (PX b1 b2 q) X0 X1 C1 FR M e1 e2 W K ++ Fx, [(C2, celO (some (.ref W.R2))), (M, lstO #[.ref a0, .ref a1] 2), (IT, litO X0 3), (nx, { cls := .type "list_iterator", data := .fields #[.none, .int 4 0] }), (nx + 1, markO W K W.r2 t0 t1 t2 t3), (nx + 2, oDict (PX b1 b2 q) (some (e, .int K.s3 K.u3))), (nx + 3, celO (some (.int K.c3 K.t3)))], [], nx + 38, 0⟩ h2 := Rep.reX (Fx := Fx) (F := mP (PX b1 b2 q) X0 X1 C1 FR M e1 e2 W K) (F' := oP X0 X1 C1 C2 W.R2 W.T2 W.r2 2 W K ++ ((FR, mFrame (PX b1 b2 q) X1 M e1 e2) :: (M, lstO #[.ref a0, .ref a1] 2) :: (IT, litO X0 3) :: [])) (Z := [(C2, celO (some (.ref W.R2))), (M, lstO #[.ref a0, .ref a1] 2), (IT, litO X0 3), (nx, { cls := .type "list_iterator", data := .fields #[.none, .int 4 0] }), (nx + 1, markO W K W.r2 t0 t1 t2 t3), (nx + 2, oDict (PX b1 b2 q) (some (e, .int K.s3 K.u3))), (nx + 3, celO (some (.int K.c3 K.t3)))]) (tk := 0) D2 D4 [0,3,6,66,12,15,18,21,30,33,36,39,42,45,48,51,54,57,60,63] [9,69,72,1,4,7,10] rfl rfl rfl (by kernel_rfl) (by kernel_rfl) rfl
  refine back (V := VF (PX b1 b2 q) prog) L hP 100000 0 (hz [16,16,16,4,4,4,4]) D5 (good_tail (n := nn + 80) L (c := mCode FR C1 C2 IT) (pp := []) (by generalize b1 = b; generalize b2 = c; revert b c; exact kBB (by kernel_rfl)) (by generalize b1 = b; generalize b2 = c; revert b c; exact kBB (by kernel_rfl)) trivial fun h4 D7 => ?_)
  have D8 := D7.toF (T := kt (PX b1 b2 q)) (F := mP (PX b1 b2 q) X0 X1 C1 FR M e1 e2 W K ++ Fx) (Z := [(C2, celO (some (.ref W.R2))), (M, lstO #[.ref a0, .ref a1, .ref (nx + 1)] 3), (IT, litO X0 3), (nx + 1, markO W K W.r2 t0 t1 t2 t3)]) (B := []) (nx := nx + 38) (tk := 0) [0,1,2,4] (by generalize b1 = b; generalize b2 = c; revert b c; exact kBB (by kernel_rfl)) (by generalize b1 = b; generalize b2 = c; revert b c; exact kBB (by kernel_rfl)) rfl
  exact H h4 _ t0 t1 t2 t3 (D8.toX (T := kt (PX b1 b2 q)) (F := mP (PX b1 b2 q) X0 X1 C1 FR M e1 e2 W K ++ [(nx + 1, markO W K W.r2 t0 t1 t2 t3)]) (B := []) (nx := nx + 38) [0,3,6,9,12,15,18,21,24,27,30,33,36,39,42,45,48,51,54,57,10] [0,1,2] (fun p hp => List.mem_append_right _ hp) (by kernel_rfl) (by kernel_rfl))
theorem mTurn3 {nn : Nat} (L : Deep (nn + 100) A) (hw : w.params = PX b1 b2 q) {a0 a1 a2 : Nat} (O : K.Ok)
    (D : Rep h₀ ⟨kt (PX b1 b2 q), mP (PX b1 b2 q) X0 X1 C1 FR M e1 e2 W K ++ Fx, [(C2, celO (some (.ref W.R2))), (M, lstO #[.ref a0, .ref a1, .ref a2] 3), (IT, litO X0 3)], [], nx, tk⟩ h)
    (H : ∀ h' tk' t0 t1 t2 t3, Rep h₀ ⟨kt (PX b1 b2 q), mP (PX b1 b2 q) X0 X1 C1 FR M e1 e2 W K ++ ((nx + 1, markO W K W.r3 t0 t1 t2 t3) :: Fx), [(C2, celO (some (.ref W.R3))), (M, lstO #[.ref a0, .ref a1, .ref a2, .ref (nx + 1)] 4), (IT, litO X0 4)], [], nx + 38, tk'⟩ h' → codeAny (model prog w) A (mCode FR C1 C2 IT) R ⟨h', g, d, tk', os⟩) :
    codeAny (model prog w) A (mCode FR C1 C2 IT) R ⟨h, g, d, tk, os⟩ := by
  have hP : (VF (PX b1 b2 q) prog).P = ⟨prog, w.params⟩ := by rw [hw]; rfl
  refine start (V := VF (PX b1 b2 q) prog) L hP 100000 0 (cond b2 (hz [7,7,7,7,0,7,7,1,1,9,4,4,4,4,9,3,3,3,10]) (hz [7,7,7,7,0,7,7,1,1,9,4,4,4,4,9,3,3,3,10,10,10,10,10])) D rfl (good_hole (n := nn + 80) L (c := .compLoop mkO 0 (.ref nx) (.ref (nx + 1)) (oEnv FR C1 C2 (nx + 3) (nx + 2))) (pp := []) (by generalize b1 = b; generalize b2 = c; revert b c; exact kBB (by kernel_rfl)) trivial fun h1 L1 D1 => ?_)
  have D2 := D1.toF (T := kt (PX b1 b2 q)) (F := mP (PX b1 b2 q) X0 X1 C1 FR M e1 e2 W K ++ Fx) (Z := [(C2, celO (some (.ref W.R3))), (M, lstO #[.ref a0, .ref a1, .ref a2] 3), (IT, litO X0 4), (nx, litO X1 0), (nx + 1, lstO #[] 0), (nx + 2, { cls := .type "dict", data := .dict #[] 0 }), (nx + 3, celO none)]) (B := []) (nx := nx + 4) (tk := 0) [0,1,2,3,4,5,6] (by generalize b1 = b; generalize b2 = c; revert b c; exact kBB (by kernel_rfl)) (by generalize b1 = b; generalize b2 = c; revert b c; exact kBB (by kernel_rfl)) rfl
  have D3 : Rep h₀ (oM (PX b1 b2 q) (oP X0 X1 C1 C2 W.R3 W.T3 W.r3 3 W K ++ ((FR, mFrame (PX b1 b2 q) X1 M e1 e2) :: (M, lstO #[.ref a0, .ref a1, .ref a2] 3) :: (IT, litO X0 4) :: Fx)) X1 nx (nx + 1) (nx + 2) (nx + 3) 0 #[] 0 none none (nx + 4) 0) h1 :=
    D2.toX (T := kt (PX b1 b2 q)) (F := oP X0 X1 C1 C2 W.R3 W.T3 W.r3 3 W K ++ ((FR, mFrame (PX b1 b2 q) X1 M e1 e2) :: (M, lstO #[.ref a0, .ref a1, .ref a2] 3) :: (IT, litO X0 4) :: [])) (Z := [(nx, litO X1 0), (nx + 1, lstO #[] 0), (nx + 2, { cls := .type "dict", data := .dict #[] 0 }), (nx + 3, celO none)]) (B := []) (nx := nx + 4) [0,3,6,1,12,15,18,21,42,45,24,27,30,33,36,39,42,45,48,51,54,57,9,4,7] [3,4,5,6] (fun p hp => List.mem_append_right _ hp) (by kernel_rfl) (by kernel_rfl)
  refine oRow (nn := nn + 20) L1 hw O (D3.tok _) fun h2 tk2 t0 t1 t2 t3 e D4 => ?_
  have D5 : Rep h₀ ⟨kt (PX b1 b2 q), mP (PX b1 b2 q) X0 X1 C1 FR M e1 e2 W K ++ Fx, [(C2, celO (some (.ref W.R3))), (M, lstO #[.ref a0, .ref a1, .ref a2] 3), (IT, litO X0 4), (nx, { cls := .type "list_iterator", data := .fields #[.none, .int 4 0] }), (nx + 1, markO W K W.r3 t0 t1 t2 t3), (nx + 2, oDict (PX b1 b2 q) (some (e, .int K.s3 K.u3))), (nx + 3, celO (some (.int K.c3 K.t3)))], [], nx + 38, 0⟩ h2 := Rep.reX (Fx := Fx) (F := mP (PX b1 b2 q) X0 X1 C1 FR M e1 e2 W K) (F' := oP X0 X1 C1 C2 W.R3 W.T3 W.r3 3 W K ++ ((FR, mFrame (PX b1 b2 q) X1 M e1 e2) :: (M, lstO #[.ref a0, .ref a1, .ref a2] 3) :: (IT, litO X0 4) :: [])) (Z := [(C2, celO (some (.ref W.R3))), (M, lstO #[.ref a0, .ref a1, .ref a2] 3), (IT, litO X0 4), (nx, { cls := .type "list_iterator", data := .fields #[.none, .int 4 0] }), (nx + 1, markO W K W.r3 t0 t1 t2 t3), (nx + 2, oDict (PX b1 b2 q) (some (e, .int K.s3 K.u3))), (nx + 3, celO (some (.int K.c3 K.t3)))]) (tk := 0) D2 D4 [0,3,6,66,12,15,18,21,30,33,36,39,42,45,48,51,54,57,60,63] [9,69,72,1,4,7,10] rfl rfl rfl (by kernel_rfl) (by kernel_rfl) rfl
  refine back (V := VF (PX b1 b2 q) prog) L hP 100000 0 (hz [16,16,16,4,4,4,4]) D5 (good_tail (n := nn + 80) L (c := mCode FR C1 C2 IT) (pp := []) (by generalize b1 = b; generalize b2 = c; revert b c; exact kBB (by kernel_rfl)) (by generalize b1 = b; generalize b2 = c; revert b c; exact kBB (by kernel_rfl)) trivial fun h4 D7 => ?_)
  have D8 := D7.toF (T := kt (PX b1 b2 q)) (F := mP (PX b1 b2 q) X0 X1 C1 FR M e1 e2 W K ++ Fx) (Z := [(C2, celO (some (.ref W.R3))), (M, lstO #[.ref a0, .ref a1, .ref a2, .ref (nx + 1)] 4), (IT, litO X0 4), (nx + 1, markO W K W.r3 t0 t1 t2 t3)]) (B := []) (nx := nx + 38) (tk := 0) [0,1,2,4] (by generalize b1 = b; generalize b2 = c; revert b c; exact kBB (by kernel_rfl)) (by generalize b1 = b; generalize b2 = c; revert b c; exact kBB (by kernel_rfl)) rfl
  exact H h4 _ t0 t1 t2 t3 (D8.toX (T := kt (PX b1 b2 q)) (F := mP (PX b1 b2 q) X0 X1 C1 FR M e1 e2 W K ++ [(nx + 1, markO W K W.r3 t0 t1 t2 t3)]) (B := []) (nx := nx + 38) [0,3,6,9,12,15,18,21,24,27,30,33,36,39,42,45,48,51,54,57,10] [0,1,2] (fun p hp => List.mem_append_right _ hp) (by kernel_rfl) (by kernel_rfl))
theorem mTurn4 {nn : Nat} (L : Deep (nn + 100) A) (hw : w.params = PX b1 b2 q) {a0 a1 a2 a3 : Nat} (O : K.Ok)
    (D : Rep h₀ ⟨kt (PX b1 b2 q), mP (PX b1 b2 q) X0 X1 C1 FR M e1 e2 W K ++ Fx, [(C2, celO (some (.ref W.R3))), (M, lstO #[.ref a0, .ref a1, .ref a2, .ref a3] 4), (IT, litO X0 4)], [], nx, tk⟩ h)
    (H : ∀ h' tk' t0 t1 t2 t3, Rep h₀ ⟨kt (PX b1 b2 q), mP (PX b1 b2 q) X0 X1 C1 FR M e1 e2 W K ++ ((nx + 1, markO W K W.r4 t0 t1 t2 t3) :: Fx), [(C2, celO (some (.ref W.R4))), (M, lstO #[.ref a0, .ref a1, .ref a2, .ref a3, .ref (nx + 1)] 5), (IT, litO X0 5)], [], nx + 38, tk'⟩ h' → codeAny (model prog w) A (mCode FR C1 C2 IT) R ⟨h', g, d, tk', os⟩) :
    codeAny (model prog w) A (mCode FR C1 C2 IT) R ⟨h, g, d, tk, os⟩ := by
  have hP : (VF (PX b1 b2 q) prog).P = ⟨prog, w.params⟩ := by rw [hw]; rfl
  refine start (V := VF (PX b1 b2 q) prog) L hP 100000 0 (cond b2 (hz [7,7,7,7,0,7,7,1,1,9,4,4,4,4,9,3,3,3,10]) (hz [7,7,7,7,0,7,7,1,1,9,4,4,4,4,9,3,3,3,10,10,10,10,10])) D rfl (good_hole (n := nn + 80) L (c := .compLoop mkO 0 (.ref nx) (.ref (nx + 1)) (oEnv FR C1 C2 (nx + 3) (nx + 2))) (pp := []) (by generalize b1 = b; generalize b2 = c; revert b c; exact kBB (by kernel_rfl)) trivial fun h1 L1 D1 => ?_)
  have D2 := D1.toF (T := kt (PX b1 b2 q)) (F := mP (PX b1 b2 q) X0 X1 C1 FR M e1 e2 W K ++ Fx) (Z := [(C2, celO (some (.ref W.R4))), (M, lstO #[.ref a0, .ref a1, .ref a2, .ref a3] 4), (IT, litO X0 5), (nx, litO X1 0), (nx + 1, lstO #[] 0), (nx + 2, { cls := .type "dict", data := .dict #[] 0 }), (nx + 3, celO none)]) (B := []) (nx := nx + 4) (tk := 0) [0,1,2,3,4,5,6] (by generalize b1 = b; generalize b2 = c; revert b c; exact kBB (by kernel_rfl)) (by generalize b1 = b; generalize b2 = c; revert b c; exact kBB (by kernel_rfl)) rfl
  have D3 : Rep h₀ (oM (PX b1 b2 q) (oP X0 X1 C1 C2 W.R4 W.T4 W.r4 4 W K ++ ((FR, mFrame (PX b1 b2 q) X1 M e1 e2) :: (M, lstO #[.ref a0, .ref a1, .ref a2, .ref a3] 4) :: (IT, litO X0 5) :: Fx)) X1 nx (nx + 1) (nx + 2) (nx + 3) 0 #[] 0 none none (nx + 4) 0) h1 :=
    D2.toX (T := kt (PX b1 b2 q)) (F := oP X0 X1 C1 C2 W.R4 W.T4 W.r4 4 W K ++ ((FR, mFrame (PX b1 b2 q) X1 M e1 e2) :: (M, lstO #[.ref a0, .ref a1, .ref a2, .ref a3] 4) :: (IT, litO X0 5) :: [])) (Z := [(nx, litO X1 0), (nx + 1, lstO #[] 0), (nx + 2, { cls := .type "dict", data := .dict #[] 0 }), (nx + 3, celO none)]) (B := []) (nx := nx + 4) [0,3,6,1,12,15,18,21,48,51,24,27,30,33,36,39,42,45,48,51,54,57,9,4,7] [3,4,5,6] (fun p hp => List.mem_append_right _ hp) (by kernel_rfl) (by kernel_rfl)
  refine oRow (nn := nn + 20) L1 hw O (D3.tok _) fun h2 tk2 t0 t1 t2 t3 e D4 => ?_
  have D5 : Rep h₀ ⟨kt (PX b1 b2 q), mP (PX b1 b2 q) X0 X1 C1 FR M e1 e2 W K ++ Fx, [(C2, celO (some (.ref W.R4))), (M, lstO #[.ref a0, .ref a1, .ref a2, .ref a3] 4), (IT, litO X0 5), (nx, { cls := .type "list_iterator", data := .fields #[.none, .int 4 0] }), (nx + 1, markO W K W.r4 t0 t1 t2 t3), (nx + 2, oDict (PX b1 b2 q) (some (e, .int K.s3 K.u3))), (nx + 3, celO (some (.int K.c3 K.t3)))], [], nx + 38, 0⟩ h2 := Rep.reX (Fx := Fx) (F := mP (PX b1 b2 q) X0 X1 C1 FR M e1 e2 W K) (F' := oP X0 X1 C1 C2 W.R4 W.T4 W.r4 4 W K ++ ((FR, mFrame (PX b1 b2 q) X1 M e1 e2) :: (M, lstO #[.ref a0, .ref a1, .ref a2, .ref a3] 4) :: (IT, litO X0 5) :: [])) (Z := [(C2, celO (some (.ref W.R4))), (M, lstO #[.ref a0, .ref a1, .ref a2, .ref a3] 4), (IT, litO X0 5), (nx, { cls := .type "list_iterator", data := .fields #[.none, .int 4 0] }), (nx + 1, markO W K W.r4 t0 t1 t2 t3), (nx + 2, oDict (PX b1 b2 q) (some (e, .int K.s3 K.u3))), (nx + 3, celO (some (.int K.c3 K.t3)))]) (tk := 0) D2 D4 [0,3,6,66,12,15,18,21,30,33,36,39,42,45,48,51,54,57,60,63] [9,69,72,1,4,7,10] rfl rfl rfl (by kernel_rfl) (by kernel_rfl) rfl
  refine back (V := VF (PX b1 b2 q) prog) L hP 100000 0 (hz [16,16,16,4,4,4,4]) D5 (good_tail (n := nn + 80) L (c := mCode FR C1 C2 IT) (pp := []) (by generalize b1 = b; generalize b2 = c; revert b c; exact kBB (by kernel_rfl)) (by generalize b1 = b; generalize b2 = c; revert b c; exact kBB (by kernel_rfl)) trivial fun h4 D7 => ?_)
  have D8 := D7.toF (T := kt (PX b1 b2 q)) (F := mP (PX b1 b2 q) X0 X1 C1 FR M e1 e2 W K ++ Fx) (Z := [(C2, celO (some (.ref W.R4))), (M, lstO #[.ref a0, .ref a1, .ref a2, .ref a3, .ref (nx + 1)] 5), (IT, litO X0 5), (nx + 1, markO W K W.r4 t0 t1 t2 t3)]) (B := []) (nx := nx + 38) (tk := 0) [0,1,2,4] (by generalize b1 = b; generalize b2 = c; revert b c; exact kBB (by kernel_rfl)) (by generalize b1 = b; generalize b2 = c; revert b c; exact kBB (by kernel_rfl)) rfl
  exact H h4 _ t0 t1 t2 t3 (D8.toX (T := kt (PX b1 b2 q)) (F := mP (PX b1 b2 q) X0 X1 C1 FR M e1 e2 W K ++ [(nx + 1, markO W K W.r4 t0 t1 t2 t3)]) (B := []) (nx := nx + 38) [0,3,6,9,12,15,18,21,24,27,30,33,36,39,42,45,48,51,54,57,10] [0,1,2] (fun p hp => List.mem_append_right _ hp) (by kernel_rfl) (by kernel_rfl))
theorem mTurn5 {nn : Nat} (L : Deep (nn + 100) A) (hw : w.params = PX b1 b2 q) {a0 a1 a2 a3 a4 : Nat} (O : K.Ok)
    (D : Rep h₀ ⟨kt (PX b1 b2 q), mP (PX b1 b2 q) X0 X1 C1 FR M e1 e2 W K ++ Fx, [(C2, celO (some (.ref W.R4))), (M, lstO #[.ref a0, .ref a1, .ref a2, .ref a3, .ref a4] 5), (IT, litO X0 5)], [], nx, tk⟩ h)
    (H : ∀ h' tk' t0 t1 t2 t3, Rep h₀ ⟨kt (PX b1 b2 q), mP (PX b1 b2 q) X0 X1 C1 FR M e1 e2 W K ++ ((nx + 1, markO W K W.r5 t0 t1 t2 t3) :: Fx), [(C2, celO (some (.ref W.R5))), (M, lstO #[.ref a0, .ref a1, .ref a2, .ref a3, .ref a4, .ref (nx + 1)] 6), (IT, litO X0 6)], [], nx + 38, tk'⟩ h' → codeAny (model prog w) A (mCode FR C1 C2 IT) R ⟨h', g, d, tk', os⟩) :
    codeAny (model prog w) A (mCode FR C1 C2 IT) R ⟨h, g, d, tk, os⟩ := by
  have hP : (VF (PX b1 b2 q) prog).P = ⟨prog, w.params⟩ := by rw [hw]; rfl
  refine start (V := VF (PX b1 b2 q) prog) L hP 100000 0 (cond b2 (hz [7,7,7,7,0,7,7,1,1,9,4,4,4,4,9,3,3,3,10]) (hz [7,7,7,7,0,7,7,1,1,9,4,4,4,4,9,3,3,3,10,10,10,10,10])) D rfl (good_hole (n := nn + 80) L (c := .compLoop mkO 0 (.ref nx) (.ref (nx + 1)) (oEnv FR C1 C2 (nx + 3) (nx + 2))) (pp := []) (by generalize b1 = b; generalize b2 = c; revert b c; exact kBB (by kernel_rfl)) trivial fun h1 L1 D1 => ?_)
  have D2 := D1.toF (T := kt (PX b1 b2 q)) (F := mP (PX b1 b2 q) X0 X1 C1 FR M e1 e2 W K ++ Fx) (Z := [(C2, celO (some (.ref W.R5))), (M, lstO #[.ref a0, .ref a1, .ref a2, .ref a3, .ref a4] 5), (IT, litO X0 6), (nx, litO X1 0), (nx + 1, lstO #[] 0), (nx + 2, { cls := .type "dict", data := .dict #[] 0 }), (nx + 3, celO none)]) (B := []) (nx := nx + 4) (tk := 0) [0,1,2,3,4,5,6] (by generalize b1 = b; generalize b2 = c; revert b c; exact kBB (by kernel_rfl)) (by generalize b1 = b; generalize b2 = c; revert b c; exact kBB (by kernel_rfl)) rfl
  have D3 : Rep h₀ (oM (PX b1 b2 q) (oP X0 X1 C1 C2 W.R5 W.T5 W.r5 5 W K ++ ((FR, mFrame (PX b1 b2 q) X1 M e1 e2) :: (M, lstO #[.ref a0, .ref a1, .ref a2, .ref a3, .ref a4] 5) :: (IT, litO X0 6) :: Fx)) X1 nx (nx + 1) (nx + 2) (nx + 3) 0 #[] 0 none none (nx + 4) 0) h1 :=
    D2.toX (T := kt (PX b1 b2 q)) (F := oP X0 X1 C1 C2 W.R5 W.T5 W.r5 5 W K ++ ((FR, mFrame (PX b1 b2 q) X1 M e1 e2) :: (M, lstO #[.ref a0, .ref a1, .ref a2, .ref a3, .ref a4] 5) :: (IT, litO X0 6) :: [])) (Z := [(nx, litO X1 0), (nx + 1, lstO #[] 0), (nx + 2, { cls := .type "dict", data := .dict #[] 0 }), (nx + 3, celO none)]) (B := []) (nx := nx + 4) [0,3,6,1,12,15,18,21,54,57,24,27,30,33,36,39,42,45,48,51,54,57,9,4,7] [3,4,5,6] (fun p hp => List.mem_append_right _ hp) (by kernel_rfl) (by kernel_rfl)
  refine oRow (nn := nn + 20) L1 hw O (D3.tok _) fun h2 tk2 t0 t1 t2 t3 e D4 => ?_
  have D5 : Rep h₀ ⟨kt (PX b1 b2 q), mP (PX b1 b2 q) X0 X1 C1 FR M e1 e2 W K ++ Fx, [(C2, celO (some (.ref W.R5))), (M, lstO #[.ref a0, .ref a1, .ref a2, .ref a3, .ref a4] 5), (IT, litO X0 6), (nx, { cls := .type "list_iterator", data := .fields #[.none, .int 4 0] }), (nx + 1, markO W K W.r5 t0 t1 t2 t3), (nx + 2, oDict (PX b1 b2 q) (some (e, .int K.s3 K.u3))), (nx + 3, celO (some (.int K.c3 K.t3)))], [], nx + 38, 0⟩ h2 := Rep.reX (Fx := Fx) (F := mP (PX b1 b2 q) X0 X1 C1 FR M e1 e2 W K) (F' := oP X0 X1 C1 C2 W.R5 W.T5 W.r5 5 W K ++ ((FR, mFrame (PX b1 b2 q) X1 M e1 e2) :: (M, lstO #[.ref a0, .ref a1, .ref a2, .ref a3, .ref a4] 5) :: (IT, litO X0 6) :: [])) (Z := [(C2, celO (some (.ref W.R5))), (M, lstO #[.ref a0, .ref a1, .ref a2, .ref a3, .ref a4] 5), (IT, litO X0 6), (nx, { cls := .type "list_iterator", data := .fields #[.none, .int 4 0] }), (nx + 1, markO W K W.r5 t0 t1 t2 t3), (nx + 2, oDict (PX b1 b2 q) (some (e, .int K.s3 K.u3))), (nx + 3, celO (some (.int K.c3 K.t3)))]) (tk := 0) D2 D4 [0,3,6,66,12,15,18,21,30,33,36,39,42,45,48,51,54,57,60,63] [9,69,72,1,4,7,10] rfl rfl rfl (by kernel_rfl) (by kernel_rfl) rfl
  refine back (V := VF (PX b1 b2 q) prog) L hP 100000 0 (hz [16,16,16,4,4,4,4]) D5 (good_tail (n := nn + 80) L (c := mCode FR C1 C2 IT) (pp := []) (by generalize b1 = b; generalize b2 = c; revert b c; exact kBB (by kernel_rfl)) (by generalize b1 = b; generalize b2 = c; revert b c; exact kBB (by kernel_rfl)) trivial fun h4 D7 => ?_)
  have D8 := D7.toF (T := kt (PX b1 b2 q)) (F := mP (PX b1 b2 q) X0 X1 C1 FR M e1 e2 W K ++ Fx) (Z := [(C2, celO (some (.ref W.R5))), (M, lstO #[.ref a0, .ref a1, .ref a2, .ref a3, .ref a4, .ref (nx + 1)] 6), (IT, litO X0 6), (nx + 1, markO W K W.r5 t0 t1 t2 t3)]) (B := []) (nx := nx + 38) (tk := 0) [0,1,2,4] (by generalize b1 = b; generalize b2 = c; revert b c; exact kBB (by kernel_rfl)) (by generalize b1 = b; generalize b2 = c; revert b c; exact kBB (by kernel_rfl)) rfl
  exact H h4 _ t0 t1 t2 t3 (D8.toX (T := kt (PX b1 b2 q)) (F := mP (PX b1 b2 q) X0 X1 C1 FR M e1 e2 W K ++ [(nx + 1, markO W K W.r5 t0 t1 t2 t3)]) (B := []) (nx := nx + 38) [0,3,6,9,12,15,18,21,24,27,30,33,36,39,42,45,48,51,54,57,10] [0,1,2] (fun p hp => List.mem_append_right _ hp) (by kernel_rfl) (by kernel_rfl))
end
end Mine
namespace Mine
open PySem PySem.W PySem.W.X PySem.Spec PySem.Calls PyProof.Rows
open PySem.W.Fast
noncomputable def mIn (X0 X1 : Nat) (W : Rows) (K : Keys) : Facts :=
  (X0, rowsO W) :: (X1, keysO K) :: (K.K0, keyO K.c0 K.t0 K.s0 K.u0) :: (K.K1, keyO K.c1 K.t1 K.s1 K.u1) :: (K.K2, keyO K.c2 K.t2 K.s2 K.u2) :: (K.K3, keyO K.c3 K.t3 K.s3 K.u3) :: rsF W []
noncomputable def Four := Nat × Nat × Nat × Nat
noncomputable abbrev markT (W : Rows) (K : Keys) (r : RowD) (y : Four) : Obj := markO W K r y.1 y.2.1 y.2.2.1 y.2.2.2
noncomputable def marksF (N : Nat) (W : Rows) (K : Keys) (y0 y1 y2 y3 y4 y5 : Four) : Facts :=
  [(N + 3, lstO #[.ref (N + 6), .ref (N + 44), .ref (N + 82), .ref (N + 120), .ref (N + 158), .ref (N + 196)] 6), (N + 6, markT W K W.r0 y0), (N + 44, markT W K W.r1 y1), (N + 82, markT W K W.r2 y2), (N + 120, markT W K W.r3 y3), (N + 158, markT W K W.r4 y4), (N + 196, markT W K W.r5 y5)]
section
variable {prog : Program} {w : World} {A : Around} {R : Result → Shared → Prop} {h₀ h : Heap} {g : Array GenState} {d : Drawn} {tk : Nat} {os : OsState} {b1 b2 : Bool} {q : Params}
variable {FR X0 X1 C1 C2 nx M IT e1 e2 : Nat} {W : Rows} {K : Keys} {Fx : Facts}
theorem mEnd {nn : Nat} (L : Deep nn A) (hw : w.params = PX b1 b2 q) {x : Value} {vs : Array Value} {n : Nat}
    (D : Rep h₀ ⟨kt (PX b1 b2 q), mP (PX b1 b2 q) X0 X1 C1 FR M e1 e2 W K ++ Fx, [(C2, celO (some x)), (M, lstO vs n), (IT, litO X0 6)], [], nx, tk⟩ h)
    (H : ∀ h' tk', Rep h₀ ⟨kt (PX b1 b2 q), mP (PX b1 b2 q) X0 X1 C1 FR M e1 e2 W K ++ Fx, [(C2, celO (some x)), (M, lstO vs n), (IT, { cls := .type "list_iterator", data := .fields #[.none, .int 6 0] })], [], nx + 2, 0⟩ h' → R (.ok .next) ⟨h', g, d, tk', os⟩) :
    codeAny (model prog w) A (mCode FR C1 C2 IT) R ⟨h, g, d, tk, os⟩ := by
  have hP : (VF (PX b1 b2 q) prog).P = ⟨prog, w.params⟩ := by rw [hw]; rfl
  refine start (V := VF (PX b1 b2 q) prog) L hP 100000 0 (hz [7,7,7,7,0,7,7,13]) D rfl (good_done (r := .ok .next) (pp := []) (by generalize b1 = b; generalize b2 = c; revert b c; exact kBB (by kernel_rfl)) trivial fun h1 D1 => ?_)
  exact H h1 _ (D1.toF [0,1,2] (by generalize b1 = b; generalize b2 = c; revert b c; exact kBB (by kernel_rfl)) (by generalize b1 = b; generalize b2 = c; revert b c; exact kBB (by kernel_rfl)) rfl)
theorem marks_spec {nn : Nat} (L : Deep (nn + 140) A) (B : Bs b1 b2 q w h) {N : Nat} (hN : h.objs.size = N) (O : K.Ok) (hF : ∀ p ∈ mIn X0 X1 W K, h.get? p.1 = some p.2)
    (H : ∀ h' tk' y0 y1 y2 y3 y4 y5, Post h h' (N + 235) (marksF N W K y0 y1 y2 y3 y4 y5) → R (.ok (.ret (.ref (N + 3)))) ⟨h', g, d, tk', os⟩) :
    codeAny (model prog w) A (.call (.ref 103) ⟨[.ref X0, .ref X1], []⟩) R ⟨h, g, d, tk, os⟩ := by
  have hP : (VF (PX b1 b2 q) prog).P = ⟨prog, w.params⟩ := by rw [B.hw]; rfl
  refine start (V := VF (PX b1 b2 q) prog) L hP 100000 2 [4,0,4,0,1,0,1,1,1,0,1,0,4,0,0,0,0,0,0,0,13,0] (B.startN hN hF (t := tk)) rfl ?_
  refine good_hole (n := nn + 120) L (c := mCode N (N + 1) (N + 2) (N + 4)) (pp := []) (by generalize b1 = b; generalize b2 = c; revert b c; exact kBB (by kernel_rfl)) trivial fun h1 L1 D1 => ?_
  have D2 := D1.toF (T := kt (PX b1 b2 q)) (F := mIn X0 X1 W K) (Z := [(N, mFrame (PX b1 b2 q) X1 (N + 3) tk (tk + 1)), (N + 1, cellO (.ref X0)), (N + 2, celO none), (N + 3, lstO #[] 0), (N + 4, litO X0 0)]) (B := []) (nx := N + 5) (tk := 0) [0,1,2,3,4] (by generalize b1 = b; generalize b2 = c; revert b c; exact kBB (by kernel_rfl)) (by generalize b1 = b; generalize b2 = c; revert b c; exact kBB (by kernel_rfl)) rfl
  have D3 : Rep h ⟨kt (PX b1 b2 q), mP (PX b1 b2 q) X0 X1 (N + 1) N (N + 3) tk (tk + 1) W K ++ [], [(N + 2, celO none), (N + 3, lstO #[] 0), (N + 4, litO X0 0)], [], N + 5, 0⟩ h1 :=
    D2.to (T := kt (PX b1 b2 q)) (F := mP (PX b1 b2 q) X0 X1 (N + 1) N (N + 3) tk (tk + 1) W K ++ []) (B := []) [0,3,4,1,6,9,12,15,18,21,24,27,30,33,36,39,42,45,48,51] [2,3,4] (by kernel_rfl) (by kernel_rfl)
  refine mTurn0 (nn := nn + 20) L1 B.hw O (D3.tok _) fun k0 j0 ta0 tb0 tc0 td0 M0 => ?_
  refine mTurn1 (nn := nn + 20) L1 B.hw O M0 fun k1 j1 ta1 tb1 tc1 td1 M1 => ?_
  refine mTurn2 (nn := nn + 20) L1 B.hw O M1 fun k2 j2 ta2 tb2 tc2 td2 M2 => ?_
  refine mTurn3 (nn := nn + 20) L1 B.hw O M2 fun k3 j3 ta3 tb3 tc3 td3 M3 => ?_
  refine mTurn4 (nn := nn + 20) L1 B.hw O M3 fun k4 j4 ta4 tb4 tc4 td4 M4 => ?_
  refine mTurn5 (nn := nn + 20) L1 B.hw O M4 fun k5 j5 ta5 tb5 tc5 td5 M5 => ?_
  refine mEnd L1 B.hw M5 fun h8 tk8 D8 => ?_
  have D9 : Rep h ⟨kt (PX b1 b2 q), mP (PX b1 b2 q) X0 X1 (N + 1) N (N + 3) tk (tk + 1) W K ++ ((N + 196, markO W K W.r5 ta5 tb5 tc5 td5) :: (N + 158, markO W K W.r4 ta4 tb4 tc4 td4) :: (N + 120, markO W K W.r3 ta3 tb3 tc3 td3) :: (N + 82, markO W K W.r2 ta2 tb2 tc2 td2) :: (N + 44, markO W K W.r1 ta1 tb1 tc1 td1) :: (N + 6, markO W K W.r0 ta0 tb0 tc0 td0) :: []), [(N + 2, celO (some (.ref W.R5))), (N + 3, lstO #[.ref (N + 6), .ref (N + 44), .ref (N + 82), .ref (N + 120), .ref (N + 158), .ref (N + 196)] 6), (N + 4, { cls := .type "list_iterator", data := .fields #[.none, .int 6 0] })], [], N + 235, 0⟩ h8 := D8
  refine back (V := VF (PX b1 b2 q) prog) L hP 100000 0 [9,0] D9 (good_done (r := .ok (.ret (.ref (N + 3)))) (pp := []) (by generalize b1 = b; generalize b2 = c; revert b c; exact kBB (by kernel_rfl)) trivial fun h9 E => ?_)
  have E1 := E.toF (T := kt (PX b1 b2 q)) (F := mP (PX b1 b2 q) X0 X1 (N + 1) N (N + 3) tk (tk + 1) W K ++ ((N + 196, markO W K W.r5 ta5 tb5 tc5 td5) :: (N + 158, markO W K W.r4 ta4 tb4 tc4 td4) :: (N + 120, markO W K W.r3 ta3 tb3 tc3 td3) :: (N + 82, markO W K W.r2 ta2 tb2 tc2 td2) :: (N + 44, markO W K W.r1 ta1 tb1 tc1 td1) :: (N + 6, markO W K W.r0 ta0 tb0 tc0 td0) :: [])) (Z := [(N + 3, lstO #[.ref (N + 6), .ref (N + 44), .ref (N + 82), .ref (N + 120), .ref (N + 158), .ref (N + 196)] 6)]) (B := []) (nx := N + 235) (tk := 0) [1] (by generalize b1 = b; generalize b2 = c; revert b c; exact kBB (by kernel_rfl)) (by generalize b1 = b; generalize b2 = c; revert b c; exact kBB (by kernel_rfl)) rfl
  have P0 : Post h h9 (N + 235) [] := E1.post [] rfl
  refine H h9 _ (ta0, tb0, tc0, td0) (ta1, tb1, tc1, td1) (ta2, tb2, tc2, td2) (ta3, tb3, tc3, td3) (ta4, tb4, tc4, td4) (ta5, tb5, tc5, td5) ⟨P0.keeps, P0.size, P0.le, fun p hp => ?_⟩
  have hz : p ∈ (N + 3, lstO #[.ref (N + 6), .ref (N + 44), .ref (N + 82), .ref (N + 120), .ref (N + 158), .ref (N + 196)] 6) :: ([((N + 6, markO W K W.r0 ta0 tb0 tc0 td0) : Addr × Obj), ((N + 44, markO W K W.r1 ta1 tb1 tc1 td1) : Addr × Obj), ((N + 82, markO W K W.r2 ta2 tb2 tc2 td2) : Addr × Obj), ((N + 120, markO W K W.r3 ta3 tb3 tc3 td3) : Addr × Obj), ((N + 158, markO W K W.r4 ta4 tb4 tc4 td4) : Addr × Obj), ((N + 196, markO W K W.r5 ta5 tb5 tc5 td5) : Addr × Obj)]) := hp
  rw [hN]
  simp only [List.mem_cons, List.not_mem_nil, or_false] at hz
  rcases hz with rfl | rfl | rfl | rfl | rfl | rfl | rfl
  · exact ⟨E1.atM (j := 1) (by kernel_rfl), by omega⟩
  · exact ⟨E1.atM (j := 75) (by kernel_rfl), Nat.le_add_right _ _⟩
  · exact ⟨E1.atM (j := 72) (by kernel_rfl), Nat.le_add_right _ _⟩
  · exact ⟨E1.atM (j := 69) (by kernel_rfl), Nat.le_add_right _ _⟩
  · exact ⟨E1.atM (j := 66) (by kernel_rfl), Nat.le_add_right _ _⟩
  · exact ⟨E1.atM (j := 63) (by kernel_rfl), Nat.le_add_right _ _⟩
  · exact ⟨E1.atM (j := 60) (by kernel_rfl), Nat.le_add_right _ _⟩
end
end Mine
namespace Mine
open PySem PySem.W PySem.W.X PySem.Spec PySem.Calls PyProof.Rows
noncomputable def runT {α : Type} (lt : Nat → Nat → Bool) : KasT α → α
  | .ret a => a
  | .ask i j k => runT lt (k (lt i j))
noncomputable def chkT : KasT (Array Nat) → Bool
  | .ret p => p.size == 6 && p.toList.all (fun x => decide (x < 6))
  | .ask i j k => decide (i < 6) && decide (j < 6) && chkT (k true) && chkT (k false)
theorem chk6 : chkT (kas_sort 6) = true := by kernel_rfl
theorem runT_wp (Inv : Shared → Prop) (lt : Nat → Nat → Bool) (cmp : Nat → Nat → (Bool → Shared → Prop) → Shared → Prop)
    (hc : ∀ i j C s, i < 6 → j < 6 → Inv s → (∀ s', Inv s' → C (lt i j) s') → cmp i j C s) {Q : Array Nat → Shared → Prop} :
    ∀ (t : KasT (Array Nat)) (s : Shared), chkT t = true → Inv s → (∀ p s', p = runT lt t → p.size = 6 → (∀ x ∈ p.toList, x < 6) → Inv s' → Q p s') → t.kasWp cmp Q s
  | .ret p, s, hk, hI, H => by
    have hk' : (p.size == 6 && p.toList.all (fun x => decide (x < 6))) = true := hk
    rw [Bool.and_eq_true, beq_iff_eq, List.all_eq_true] at hk'
    exact H p s rfl hk'.1 (fun x hx => of_decide_eq_true (hk'.2 x hx)) hI
  | .ask i j k, s, hk, hI, H => by
    have hk' : (decide (i < 6) && decide (j < 6) && chkT (k true) && chkT (k false)) = true := hk
    rw [Bool.and_eq_true, Bool.and_eq_true, Bool.and_eq_true] at hk'
    obtain ⟨⟨⟨h1, h2⟩, h3⟩, h4⟩ := hk'
    show cmp i j _ s
    refine hc i j _ s (of_decide_eq_true h1) (of_decide_eq_true h2) hI fun s' hI' => ?_
    have h5 : chkT (k (lt i j)) = true := by cases lt i j <;> assumption
    exact runT_wp Inv lt cmp hc (k (lt i j)) s' h5 hI' H
theorem mapSeq_lst (f : Array Value → Array Value) (xs : Array Value) (n : Nat) : ∃ e, Obj.mapSeq f (lstO xs n) = lstO (f xs) e := ⟨_, rfl⟩
theorem post_trans {h h' h'' : Heap} {F F' : Facts} {n n' : Nat} (P : Post h h' n F) (Q : Post h' h'' n' F') : Post h h'' n' (F ++ F') :=
  ⟨fun b o e => Q.keeps _ _ (P.keeps _ _ e), Q.size, Nat.le_trans P.le (by rw [← P.size]; exact Q.le), fun p hp => by
    rcases List.mem_append.mp hp with q | q
    · exact ⟨Q.keeps _ _ (P.facts p q).1, (P.facts p q).2⟩
    · exact ⟨(Q.facts p q).1, Nat.le_trans (by have := P.le; rw [← P.size] at this; exact this) (Q.facts p q).2⟩⟩
section
variable {prog : Program} {w : World} {A : Around} {E : Value → Shared → Prop} {h₀ h : Heap} {g : Array GenState} {d : Drawn} {tk : Nat} {os : OsState} {P : Params}
theorem ups {m : Mm} (D : Rep h₀ m h) {i : Nat} {b : Addr} {xs : Array Value} {n : Nat} (hx : nth m.Z i = some (b, lstO xs n)) (f : Array Value → Array Value) :
    h.get? b = some (lstO xs n) ∧ ∃ e, Rep h₀ { m with Z := putAt m.Z i fun _ => lstO (f xs) e } (h.update b (Obj.mapSeq f)) := by
  obtain ⟨e, he⟩ := mapSeq_lst f xs n
  have q := D.update (i := i) (f := Obj.mapSeq f) hx (by show (Obj.mapSeq f (lstO xs n)).isFreed = false; rw [he]; rfl)
  refine ⟨q.1, e, ?_⟩
  have z : putAt m.Z i (Obj.mapSeq f) = putAt m.Z i fun _ => lstO (f xs) e := by
    have hx' := hx
    clear q D hx
    generalize m.Z = Z at hx' ⊢
    induction Z generalizing i with
    | nil => cases i <;> cases hx'
    | cons p l ih =>
      cases i with
      | zero =>
        cases hx'
        show (b, Obj.mapSeq f (lstO xs n)) :: l = (b, lstO (f xs) e) :: l
        rw [he]
      | succ i =>
        show p :: putAt l i _ = p :: putAt l i _
        rw [ih hx']
  rw [← z]
  exact q.2
inductive SInv (h₀ : Heap) (g : Array GenState) (d : Drawn) (os : OsState) (KP : List Value → Facts → Prop) (SZ : Nat → Nat → Prop) (M : Facts → List Value → Nat → Heap → Mm) (i : Nat) (s : Shared) : Prop
  | mk (h' : Heap) (tk' : Nat) (ks : List Value) (F' : Facts) (e : Nat) (es : s = ⟨h', g, d, tk', os⟩) (hl : ks.length = i) (hK : KP ks F') (hz : SZ i h'.objs.size) (D : Rep h₀ (M F' ks e h') h')
inductive KRes (g : Array GenState) (d : Drawn) (os : OsState) (h : Heap) (SZ : Nat → Prop) (KP : Facts → Prop) (s : Shared) : Prop
  | mk (h' : Heap) (tk' : Nat) (F' : Facts) (es : s = ⟨h', g, d, tk', os⟩) (P : Post h h' h'.objs.size F') (hz : SZ h'.objs.size) (hK : KP F')
inductive CRes (g : Array GenState) (d : Drawn) (os : OsState) (h : Heap) (SC : Nat → Prop) (b c : Bool) (s : Shared) : Prop
  | mk (e : b = c) (h' : Heap) (tk' : Nat) (es : s = ⟨h', g, d, tk', os⟩) (P : Post h h' h'.objs.size []) (hz : SC h'.objs.size)
inductive SGo (h₀ : Heap) (g : Array GenState) (d : Drawn) (os : OsState) (SC : Nat → Prop) (M : Heap → Mm) (s : Shared) : Prop
  | mk (h' : Heap) (tk' : Nat) (es : s = ⟨h', g, d, tk', os⟩) (hz : SC h'.objs.size) (D : Rep h₀ (M h') h')
inductive SG (q : Array Nat) (J : Shared → Prop) (p : Array Nat) (s : Shared) : Prop
  | mk (hp : p = q) (hp6 : p.size = 6) (hlt : ∀ x ∈ p.toList, x < 6) (hJ : J s)
inductive SEnd (it : Array Keyed) (q : Array Nat) (J : Shared → Prop) (st : SortSt) (s : Shared) : Prop
  | mk (p : Array Nat) (har : arrOf st = p.map (kas_item it)) (hf : failedOf st = none) (hG : SG q J p s)
theorem sort_tree {f : Value} {vs : List Value} {a n nx : Nat} {F Bt : Facts} {tk0 : Nat} {Pq : PySem.Fin → Shared → Prop} (h6 : vs.length = 6)
    (D : Rep h₀ ⟨kt P, F, [(a, lstO vs.toArray n)], Bt, nx, tk0⟩ h)
    (KP : List Value → Facts → Prop) (hK0 : KP [] []) (SZ : Nat → Nat → Prop) (hS0 : SZ 0 (nx + 2)) (SC : Nat → Prop) (hSC : ∀ z, SZ 6 z → SC z) (lt : Nat → Nat → Bool)
    (hkey : ∀ i v h tk ks F' Z nx tk0, vs[i]? = some v → ks.length = i → KP ks F' → Rep h₀ ⟨kt P, F ++ F', Z, Bt, nx, tk0⟩ h → SZ i h.objs.size →
      wpAny (model prog w) A (call f [v]) (fun k => KRes g d os h (SZ (i + 1)) fun F'' => KP (ks ++ [k]) (F' ++ F'')) (fun _ _ => False) ⟨h, g, d, tk, os⟩)
    (hkind : ∀ ks F', ks.length = 6 → KP ks F' → ∃ T : Value, (T != .type "tuple") = true ∧ (T == T) = true ∧ ∀ h Z nx tk0, Rep h₀ ⟨kt P, F ++ F', Z, Bt, nx, tk0⟩ h → ∀ v ∈ ks, Looks (model prog w) h (typeOf v) T)
    (hcmp : ∀ i j ks F' h tk Z nx tk0, i < 6 → j < 6 → ks.length = 6 → KP ks F' → Rep h₀ ⟨kt P, F ++ F', Z, Bt, nx, tk0⟩ h → SC h.objs.size →
      wpAny (model prog w) A (keyLt' oneType' (ks.getD i .none) (ks.getD j .none)) (fun b => CRes g d os h SC b (lt i j)) (fun _ _ => False) ⟨h, g, d, tk, os⟩)
    (H : ∀ h' tk' p c, p = (runT lt (kas_sort 6)).toList → p.length = 6 → (∀ x ∈ p, x < 6) → SC h'.objs.size →
      Rep h₀ ⟨kt P, F, [(a, lstO (p.map fun i => vs.getD i .none).toArray c)], Bt, h'.objs.size, 0⟩ h' → Pq (.done (.ret .none)) ⟨h', g, d, tk', os⟩) :
    wpAny (model prog w) A (ksk_tree a f false) Pq E ⟨h, g, d, tk, os⟩ := by
  have hnx : h.objs.size = nx := D.size
  have ho : h.get? a = some (lstO vs.toArray n) := (D.Z _ (.head _)).1
  obtain ⟨-, e1, D1⟩ := ups D (i := 0) rfl (fun _ => (#[] : Array Value))
  have o1 := (D1.Z _ (.head _)).1
  have six : (6 : Nat) ≤ sizeLine := by decide
  unfold ksk_tree
  refine wpAny_bind (listItems_at ho rfl ?_)
  refine wpAny_bind (listUpdate_at ho rfl ?_ (by rw [List.size_toArray, h6]; exact six) (Nat.zero_le _))
  refine wpAny_bind (seqEpoch_at o1 rfl ?_)
  refine wpAny_bind (wpAny_newTuple ?_ (by show vs.length ≤ _; rw [h6]; exact six))
  have D2 := D1.alloc (x := { cls := .type "tuple", data := .seq vs.toArray }) rfl
  refine wpAny_bind (wpAny_newList ?_ (Nat.zero_le _))
  have D3 := D2.alloc (x := { cls := .type "list", data := .seq ([] : List Value).toArray }) rfl
  refine wpAny_holding ?_
  have z2 := D2.size
  dsimp only at z2 ⊢
  rw [z2]
  generalize hh3 : ((h.update a (Obj.mapSeq fun _ => (#[] : Array Value))).push { cls := .type "tuple", data := .seq vs.toArray }).push { cls := .type "list", data := .seq ([] : List Value).toArray } = h3 at D3 ⊢
  have D4 : Rep h₀ ⟨kt P, F ++ [], [(a, lstO #[] e1), (nx, tupV vs.toArray), (nx + 1, lstO #[] 0)], Bt, nx + 2, tk0⟩ h3 := by rw [List.append_nil]; exact D3
  unfold ksk_rest
  refine wpAny_bind (wpAny_rule ?_)
  rw [List.forIn_toArray]
  refine wpAny_bind (ksk_fold (SInv h₀ g d os KP SZ fun F' ks e h' => ⟨kt P, F ++ F', [(a, lstO #[] e1), (nx, tupV vs.toArray), (nx + 1, lstO ks.toArray e)], Bt, h'.objs.size, 0⟩) vs 0 _
    ⟨h3, tk, [], [], 0, rfl, rfl, hK0, by rw [D4.size]; exact hS0, by rw [D4.size]; exact D4.tok 0⟩ ?step ?done)
  case step =>
    rintro j x s' hx ⟨h', tk', ks, F', e, rfl, hl, hK, hz, D'⟩
    rw [Nat.zero_add] at hl hz ⊢
    have hj : j < 6 := by rw [← h6]; exact (List.getElem?_eq_some_iff.mp hx).1
    refine wpAny_bind (wpAny_attempt (wpAny_mono (hkey j x h' tk' ks F' _ _ _ hx hl hK D' hz) (fun v s'' he => ?_) fun _ _ hF => hF.elim))
    obtain ⟨h5, tk5, F'', rfl, P5, z5, K5⟩ := he
    have D5 := D'.and P5
    rw [List.append_assoc] at D5
    obtain ⟨o5, e6, D6⟩ := ups D5 (i := 2) rfl (·.push v)
    dsimp only
    refine wpAny_bind (listUpdate_at o5 rfl ?_ (by rw [List.size_toArray, hl]; omega) (by rw [Array.size_push, List.size_toArray, hl]; omega))
    refine wpAny_pure ⟨rfl, _, tk5, ks ++ [v], F' ++ F'', e6, rfl, by rw [List.length_append, hl]; rfl, K5, by rw [Heap.size_update]; exact z5, ?_⟩
    rw [Heap.size_update]
    have e7 : (ks.toArray.push v) = (ks ++ [v]).toArray := by simp
    rw [← e7]
    exact D6.tok 0
  case done =>
    rintro s' ⟨h', tk', ks, F', e, rfl, hl, hK, hz, D'⟩
    rw [h6, Nat.zero_add] at hl hz
    have ok := (D'.Z _ (.tail _ (.tail _ (.head _)))).1
    refine wpAny_bind (listItems_at ok rfl ?_)
    unfold ksk_end
    dsimp only
    have hn2 : ¬ vs.toArray.size < 2 := by rw [List.size_toArray, h6]; omega
    rw [if_neg hn2, if_neg hn2]
    simp only [Bool.false_eq_true, if_false]
    obtain ⟨T, hT1, hT2, hT⟩ := hkind ks F' hl hK
    refine wpAny_bind (kas_kind (by rw [hl]; omega) (hT h' _ _ _ D') hT1 hT2 ?_)
    have zs : (ks.toArray.zip vs.toArray).size = 6 := by simp [hl, h6]
    have est : SortSt.mk' oneType' (ks.toArray.zip vs.toArray) #[] 7 none = kas_st oneType' (ks.toArray.zip vs.toArray) (List.toArray (List.range 6)) := by
      have q := kas_range (ks.toArray.zip vs.toArray)
      rw [zs] at q
      show SortSt.mk' oneType' (ks.toArray.zip vs.toArray) #[] 7 none = SortSt.mk' oneType' ((List.toArray (List.range 6)).map (kas_item (ks.toArray.zip vs.toArray))) #[] 7 none
      rw [q]
    have item : ∀ i, i < 6 → kas_item (ks.toArray.zip vs.toArray) i = (ks.getD i .none, vs.getD i .none) := fun i hi => by
      unfold kas_item
      have h1 : i < ks.length := by omega
      have h2 : i < vs.length := by omega
      simp [Array.getD, h1, h2, hl, h6, hi]
    rw [est]
    let J : Shared → Prop := SGo h₀ g d os SC fun h' => ⟨kt P, F ++ F', [(a, lstO #[] e1), (nx, tupV vs.toArray), (nx + 1, lstO ks.toArray e)], Bt, h'.objs.size, 0⟩
    have run := kas_runs (E := E) (prog := prog) (w := w) (A := A) (κ := oneType') (it := ks.toArray.zip vs.toArray) (n := 6)
      (Q := fun _ => SEnd (ks.toArray.zip vs.toArray) (runT lt (kas_sort 6)) J) (G := SG (runT lt (kas_sort 6)) J)
      (s := ⟨h', g, d, tk', os⟩) (by omega) (by omega) (fun p' st' s' _ a2 a3 a4 => ⟨p', a2, a3, a4⟩) (by
        refine runT_wp J lt _ ?_ _ _ chk6
          ⟨h', tk', rfl, hSC _ hz, D'⟩ (fun p s' q1 q2 q3 q4 => ⟨q1, q2, q3, q4⟩)
        rintro i j C s hi hj ⟨h7, tk7, rfl, z7, D7⟩ hC
        unfold kas_cmp
        rw [item i hi, item j hj]
        refine wpAny_mono (hcmp i j ks F' h7 tk7 _ _ _ hi hj hl hK D7 z7) (fun b s' hb => ?_) fun _ _ e => e
        obtain ⟨rfl, h8, tk8, rfl, P8, z8⟩ := hb
        refine hC _ ⟨h8, tk8, rfl, z8, ?_⟩
        have D8 := D7.and P8
        rw [List.append_nil] at D8
        exact D8)
    refine wpAny_bind (wpAny_mono run ?_ fun _ _ e => e)
    rintro ⟨⟨⟩, st'⟩ s' ⟨p, har, hf, hp, hp6, hlt, h9, tk9, rfl, z9, D9⟩
    dsimp only
    have hout : (arrOf st').map (·.2) = (p.toList.map fun i => vs.getD i Value.none).toArray := by
      apply Array.toList_inj.mp
      rw [har, Array.map_map, Array.toList_map]
      exact List.map_congr_left fun i hi => by show (kas_item _ i).2 = _; rw [item i (hlt i hi)]
    unfold ksk_tail
    dsimp only
    obtain ⟨o9, e9, D10⟩ := ups D9 (i := 2) rfl (fun _ => (#[] : Array Value))
    have o10 := (D10.Z _ (.head _)).1
    obtain ⟨-, e11, D11⟩ := ups D10 (i := 0) rfl (fun _ => (p.toList.map fun i => vs.getD i Value.none).toArray)
    refine wpAny_bind (listUpdate_at o9 rfl ?_ (by rw [List.size_toArray, hl]; exact six) (Nat.zero_le _))
    refine wpAny_bind (wpAny_letGo ?_)
    refine wpAny_bind (seqEpoch_at o10 rfl ?_)
    simp only [Bool.false_eq_true, if_false]
    rw [hout]
    refine wpAny_bind (listUpdate_at o10 rfl ?_ (Nat.zero_le _) (by rw [List.size_toArray, List.length_map, Array.length_toList, hp6]; exact Nat.le_succ_of_le six))
    rw [hf]
    simp only [bne_self_eq_false, Bool.false_eq_true, if_false]
    refine wpAny_pure (H _ tk9 p.toList e11 (by rw [hp]) (by rw [Array.length_toList]; exact hp6) hlt (by rw [Heap.size_update, Heap.size_update]; exact z9) ?_)
    rw [Heap.size_update, Heap.size_update]
    have D12 := D11.toX (T := kt P) (F := []) (Z := [(a, lstO (p.toList.map fun i => vs.getD i Value.none).toArray e11)]) (B := Bt) (nx := h9.objs.size) (tk := 0) (Fx := F) [] [0] (fun p hp => List.mem_append_left _ hp) rfl rfl
    exact D12
end
end Mine
namespace Mine
open PySem PySem.W PySem.W.X PySem.Spec PySem.Calls PyProof.Rows
section
variable {prog : Program} {w : World} {A : Around} {R : Result → Shared → Prop} {s : Shared}
theorem c_listnew {a : Value} (H : R (.ok (.ret (.ref s.heap.objs.size))) { s with heap := s.heap.push (lstO #[] 0) }) :
    codeAny (model prog w) A (.call (.builtin "list.__new__") ⟨[.type "list", a], []⟩) R s := by
  refine codeAny_mono (code_list_new a (E := fun _ _ => False) (Q₁ := fun v s' => v = .ref s.heap.objs.size ∧ s' = { s with heap := s.heap.push (lstO #[] 0) }) ⟨rfl, rfl⟩) fun r s' hr => ?_
  cases r with
  | ok f =>
    cases f with
    | ret v =>
      obtain ⟨rfl, rfl⟩ : v = _ ∧ s' = _ := hr
      exact H
    | _ => exact hr.elim
  | error e => exact hr.elim
theorem c_sort {f : Value} {a n : Nat} {xs : Array Value} (ho : s.heap.get? a = some (lstO xs n))
    (ha : argsOk "list.sort" ⟨[.ref a], [(Str.ofString "key", f)]⟩) (ht : Builtin.«list.sort» ⟨[.ref a], [(Str.ofString "key", f)]⟩ = ksk_tree a f false)
    (H : wpAny (model prog w) A.in1 (ksk_tree a f false) (fun fin s' => fin = .done (.ret .none) ∧ R (.ok (.ret .none)) s') (fun e s' => R (.error e) s') s) :
    codeAny (model prog w) A (.call (.builtin "list.sort") ⟨[.ref a], [(Str.ofString "key", f)]⟩) R s := by
  refine codeAny_call_builtin slot_list_sort.plain entry_list_sort (slot_list_sort.check _ _ _ _ _ _ _ _ ⟨_, ho, rfl⟩ ha ?_)
  rw [ht]
  refine wpAny_mono H (fun fin s' h' => ?_) fun _ _ e => e
  obtain ⟨rfl, hv⟩ := h'
  exact hv
end
end Mine
namespace Mine
open PySem PySem.W PySem.W.X PySem.Spec PySem.Calls PyProof.Rows
section
variable {M : Model} {A : Around} {E : Value → Shared → Prop} {σ : Shared} {env : Env}
theorem execs_split {st : Stmt} {rest : List Stmt} {Q : Flow → Shared → Prop}
    (h : wpAny M A (execs [st] env) (fun f s' => match f with | .next => wpAny M A (execs rest env) Q E s' | f => Q f s') E σ) : wpAny M A (execs (st :: rest) env) Q E σ := by
  refine wpAny_execs_cons fun Γ p hΓ => ?_
  have y := h Γ p hΓ
  rw [execs_cons, Sem.wp_bind'] at y
  refine Sem.wp_mono M Γ _ (fun f p' s' h' => ?_) (fun _ _ _ h' => h') _ _ y
  cases f <;> exact h'
end
end Mine
namespace Mine
open PySem PySem.W PySem.W.X PySem.Spec PySem.Calls PyProof.Rows
open PySem.W.Fast
noncomputable def VL (P : Params) (prog : Program) : Env9 := ⟨⟨prog, P⟩, fun c => match c with
  | .call (.ref n) _ => Nat.ble n 108
  | .call (.builtin s) _ => memS s ["list.sort", "list.__new__"]
  | _ => false⟩
noncomputable def lawEnv (N : Nat) : Env := { scope := sScope (stAt 14), locals := N, globals := 3, cells := [(Str.ofString "marks", N + 3), (Str.ofString "maker", N + 2), (Str.ofString "rows", N + 1)], qual := Str.ofString "law.<locals>.", func := some 108, code := .ref 107, frame := some N, builtins := 0 }
noncomputable abbrev lawS (i : Nat) : Stmt := inSt (stAt 14) i
noncomputable abbrev frO (es : Array DictEntry) (n : Nat) : Obj := { cls := .type "frame", data := .dict es n }
noncomputable def fr4 (P : Params) (x a b c d : Nat) : Addr × Obj := (110, frO #[de P "script" a (.ref x), de P "columns" b (.ref 218), de P "joins" c (.ref 228), de P "senses" d (.ref 256)] 4)
noncomputable def fr5 (P : Params) (x a b c d y e : Nat) : Addr × Obj := (110, frO #[de P "script" a (.ref x), de P "columns" b (.ref 218), de P "joins" c (.ref 228), de P "senses" d (.ref 256), de P "due" e (.ref y)] 5)
noncomputable def fr6 (P : Params) (x a b c d y e z f : Nat) : Addr × Obj := (110, frO #[de P "script" a (.ref x), de P "columns" b (.ref 218), de P "joins" c (.ref 228), de P "senses" d (.ref 256), de P "due" e (.ref y), de P "flat" f (.ref z)] 6)
noncomputable def fr7 (P : Params) (x a b c d y e z f u g : Nat) : Addr × Obj := (110, frO #[de P "script" a (.ref x), de P "columns" b (.ref 218), de P "joins" c (.ref 228), de P "senses" d (.ref 256), de P "due" e (.ref y), de P "flat" f (.ref z), de P "way" g (.ref u)] 7)
noncomputable def fr8 (P : Params) (x a b c d y e z f u g v i : Nat) : Addr × Obj := (110, frO #[de P "script" a (.ref x), de P "columns" b (.ref 218), de P "joins" c (.ref 228), de P "senses" d (.ref 256), de P "due" e (.ref y), de P "flat" f (.ref z), de P "way" g (.ref u), de P "made" i (.ref v)] 8)
noncomputable def ce (a r : Nat) : Addr × Obj := (a, celO (some (.ref r)))
section
variable {prog : Program} {w : World} {A : Around} {Q : Flow → Shared → Prop} {E : Value → Shared → Prop} {h₀ h : Heap} {g : Array GenState} {d : Drawn} {tk : Nat} {os : OsState} {b1 b2 : Bool} {q : Params}
variable {N X0 u0 e0 e1 e2 e3 : Nat} {xs : Array Value} {Fx Bt : Facts}
theorem law_s0 {nn : Nat} (L : Deep (nn + 120) A) (hw : w.params = PX b1 b2 q) (hI : allI xs.toList = true) (hsz : xs.size ≤ sizeLine)
    (D : Rep h₀ ⟨kt (PX b1 b2 q), ((X0, lstO xs u0) :: Fx), [(N, frO #[de (PX b1 b2 q) "script" e0 (.ref (X0))] 1), (N + 1, celO none), (N + 2, celO none), (N + 3, celO none)], Bt, N + 4, tk⟩ h)
    (H : ∀ h' tk' (r0 r1 r2 r3 r4 r5 : RowD), Rep h₀ ⟨kt (PX b1 b2 q), ((X0, lstO xs u0) :: Fx) ++ rowF (N + 4) r0 r1 r2 r3 r4 r5, [(N, frO #[de (PX b1 b2 q) "script" e0 (.ref (X0))] 1), (N + 1, celO (some (.ref (N + 5)))), (N + 2, celO none), (N + 3, celO none)], Bt, N + 73, 0⟩ h' → Q .next ⟨h', g, d, tk', os⟩) :
    wpAny (model prog w) A (execs [lawS 0] (lawEnv N)) Q E ⟨h, g, d, tk, os⟩ := by
  have hP : (VL (PX b1 b2 q) prog).P = ⟨prog, w.params⟩ := by rw [hw]; rfl
  refine piece_block (V := VL (PX b1 b2 q) prog) L hP 100000 1 [1,1] D (good_hole (n := nn + 100) L (c := .call (.ref 70) ⟨[.ref X0], []⟩) (pp := []) (by generalize b1 = b; generalize b2 = c; revert b c; exact kBB (by kernel_rfl)) trivial fun h1 L1 D1 => ?_)
  have D2 := D1.toF (T := kt (PX b1 b2 q)) (F := ((X0, lstO xs u0) :: Fx)) (Z := [(N, frO #[de (PX b1 b2 q) "script" e0 (.ref (X0))] 1), (N + 1, celO none), (N + 2, celO none), (N + 3, celO none)]) (B := Bt) (nx := N + 4) (tk := 0) [0,1,2,3] (by generalize b1 = b; generalize b2 = c; revert b c; exact kBB (by kernel_rfl)) (by generalize b1 = b; generalize b2 = c; revert b c; exact kBB (by kernel_rfl)) rfl
  refine rows_spec (nn := nn + 20) L1 (D2.bs hw) (N := N + 4) D2.size (D2.F _ (.head _)) hI hsz fun h2 tk2 r0 r1 r2 r3 r4 r5 P2 => ?_
  refine back (V := VL (PX b1 b2 q) prog) L hP 100000 0 [4,0,4,0] (D2.and P2) (good_done (r := .ok .next) (pp := []) (by generalize b1 = b; generalize b2 = c; revert b c; exact kBB (by kernel_rfl)) trivial fun h3 D3 => ?_)
  exact H h3 _ r0 r1 r2 r3 r4 r5 (D3.toF [0,1,2,3] (by generalize b1 = b; generalize b2 = c; revert b c; exact kBB (by kernel_rfl)) (by generalize b1 = b; generalize b2 = c; revert b c; exact kBB (by kernel_rfl)) rfl)
theorem Rep.perm {m : Mm} {F : Facts} (D : Rep h₀ m h) (hF : ∀ p ∈ F, p ∈ m.F) : Rep h₀ { m with F := F } h :=
  { D with F := fun p hp => D.F p (hF p hp), fz := fun p hp => D.fz p (hF p hp), fb := fun p hp => D.fb p (hF p hp) }
theorem mem_front {F : Facts} {x : Addr × Obj} : ∀ p ∈ x :: F, p ∈ F ++ [x] := fun p hp => by
  rcases List.mem_cons.mp hp with rfl | h
  · exact List.mem_append_right _ (.head _)
  · exact List.mem_append_left _ h
variable {Fv : Facts}
theorem law_s1 {nn : Nat} (L : Deep (nn + 120) A) (hw : w.params = PX b1 b2 q) (hI : allI xs.toList = true) (hsz : xs.size ≤ sizeLine) (hX : (X0, lstO xs u0) ∈ Fv)
    (D : Rep h₀ ⟨kt (PX b1 b2 q), Fv, [(N, frO #[de (PX b1 b2 q) "script" e0 (.ref (X0))] 1), (N + 1, celO (some (.ref (N + 5)))), (N + 2, celO none), (N + 3, celO none)], Bt, N + 73, tk⟩ h)
    (H : ∀ h' tk' (y1 y2 y3 y4 : Int) (v1 v2 v3 v4 e1 : Nat), Rep h₀ ⟨kt (PX b1 b2 q), (N + 108, lstO #[.int (y1.fmod 3) v1, .int (y2.fmod 3) v2, .int (y3.fmod 3) v3, .int (y4.fmod 3) v4] 4) :: Fv, [(N, frO #[de (PX b1 b2 q) "script" e0 (.ref (X0)), de (PX b1 b2 q) "columns" e1 (.ref (N + 108))] 2), (N + 1, celO (some (.ref (N + 5)))), (N + 2, celO none), (N + 3, celO none)], Bt, N + 112, 0⟩ h' → Q .next ⟨h', g, d, tk', os⟩) :
    wpAny (model prog w) A (execs [lawS 1] (lawEnv N)) Q E ⟨h, g, d, tk, os⟩ := by
  have hP : (VL (PX b1 b2 q) prog).P = ⟨prog, w.params⟩ := by rw [hw]; rfl
  refine piece_block (V := VL (PX b1 b2 q) prog) L hP 100000 1 [1,1] D (good_hole (n := nn + 100) L (c := .call (.ref 63) ⟨[.ref X0, .ref (N + 73)], []⟩) (pp := []) (by generalize b1 = b; generalize b2 = c; revert b c; exact kBB (by kernel_rfl)) trivial fun h1 L1 D1 => ?_)
  have D2 := D1.toF (T := kt (PX b1 b2 q)) (F := Fv) (Z := [(N, frO #[de (PX b1 b2 q) "script" e0 (.ref (X0))] 1), (N + 1, celO (some (.ref (N + 5)))), (N + 2, celO none), (N + 3, celO none), (N + 73, lstO #[.int 0 tk, .int 2 (tk + 1), .int 1 (tk + 2), .int 0 (tk + 3)] 0)]) (B := Bt) (nx := N + 74) (tk := 0) [0,1,2,3,4] (by generalize b1 = b; generalize b2 = c; revert b c; exact kBB (by kernel_rfl)) (by generalize b1 = b; generalize b2 = c; revert b c; exact kBB (by kernel_rfl)) rfl
  refine heaps4 (nn := nn + 40) L1 (D2.bs hw) (N := N + 74) D2.size (D2.F _ hX) hI hsz (D2.atM (j := 13) rfl) fun h2 tk2 y1 y2 y3 y4 u1 u2 u3 u4 P2 => ?_
  have D3 := (D2.and P2).perm (F := (N + 79, lstO #[.int y1 u1, .int y2 u2, .int y3 u3, .int y4 u4] 4) :: Fv) mem_front
  refine back (V := VL (PX b1 b2 q) prog) L hP 100000 0 (cond b2 (hz [0,0,0,16,16,16,16,16,0,16,16,22,22,22,19,19,19,19,16,16,16,16,0,16,16,22,22,22,19,19,19,19,16,16,16,16,0,16,16,22,22,22,19,19,19,19,16,16,16,16,0,16,16,22,22,22,19,19,19,19,16,16,16,16,0,16,16,28,1,1,22,22,22]) (hz [0,0,0,16,16,16,16,16,16,16,16,16,0,16,16,22,22,22,19,19,19,19,16,16,16,16,0,16,16,22,22,22,19,19,19,19,16,16,16,16,0,16,16,22,22,22,19,19,19,19,16,16,16,16,0,16,16,22,22,22,19,19,19,19,16,16,16,16,0,16,16,28,1,1,22,22,22])) D3 (good_done (r := .ok .next) (pp := []) (by generalize b1 = b; generalize b2 = c; revert b c; exact kBB (by kernel_rfl)) trivial fun h3 D4 => ?_)
  have D5 := D4.toF (T := kt (PX b1 b2 q)) (F := (N + 79, lstO #[.int y1 u1, .int y2 u2, .int y3 u3, .int y4 u4] 4) :: Fv) (Z := [(N, frO #[de (PX b1 b2 q) "script" e0 (.ref X0), de (PX b1 b2 q) "columns" (tk2 + 12) (.ref (N + 108))] 2), (N + 1, celO (some (.ref (N + 5)))), (N + 2, celO none), (N + 3, celO none), (N + 108, lstO #[.int (y1.fmod 3) (tk2 + 2), .int (y2.fmod 3) (tk2 + 5), .int (y3.fmod 3) (tk2 + 8), .int (y4.fmod 3) (tk2 + 11)] 4)]) (B := Bt) (nx := N + 112) (tk := 0) [0,1,2,3,6] (by generalize b1 = b; generalize b2 = c; revert b c; exact kBB (by kernel_rfl)) (by generalize b1 = b; generalize b2 = c; revert b c; exact kBB (by kernel_rfl)) rfl
  exact H h3 _ y1 y2 y3 y4 _ _ _ _ _ (D5.toX (Fx := Fv) (T := kt (PX b1 b2 q)) (F := [(N + 108, lstO #[.int (y1.fmod 3) (tk2 + 2), .int (y2.fmod 3) (tk2 + 5), .int (y3.fmod 3) (tk2 + 8), .int (y4.fmod 3) (tk2 + 11)] 4)]) (Z := [(N, frO #[de (PX b1 b2 q) "script" e0 (.ref X0), de (PX b1 b2 q) "columns" (tk2 + 12) (.ref (N + 108))] 2), (N + 1, celO (some (.ref (N + 5)))), (N + 2, celO none), (N + 3, celO none)]) (B := Bt) (nx := N + 112) [13] [0,1,2,3] (fun p hp => .tail _ hp) rfl rfl)
theorem law_s2 {nn : Nat} (L : Deep (nn + 120) A) (hw : w.params = PX b1 b2 q) (hI : allI xs.toList = true) (hsz : xs.size ≤ sizeLine) (hX : (X0, lstO xs u0) ∈ Fv)
    (D : Rep h₀ ⟨kt (PX b1 b2 q), Fv, [(N, frO #[de (PX b1 b2 q) "script" e0 (.ref (X0)), de (PX b1 b2 q) "columns" e1 (.ref (N + 108))] 2), (N + 1, celO (some (.ref (N + 5)))), (N + 2, celO none), (N + 3, celO none)], Bt, N + 112, tk⟩ h)
    (H : ∀ h' tk' (y1 y2 y3 : Int) (v1 v2 v3 e2 : Nat), Rep h₀ ⟨kt (PX b1 b2 q), (N + 118, lstO #[.int y1 v1, .int y2 v2, .int y3 v3] 3) :: Fv, [(N, frO #[de (PX b1 b2 q) "script" e0 (.ref (X0)), de (PX b1 b2 q) "columns" e1 (.ref (N + 108)), de (PX b1 b2 q) "joins" e2 (.ref (N + 118))] 3), (N + 1, celO (some (.ref (N + 5)))), (N + 2, celO none), (N + 3, celO none)], Bt, N + 140, 0⟩ h' → Q .next ⟨h', g, d, tk', os⟩) :
    wpAny (model prog w) A (execs [lawS 2] (lawEnv N)) Q E ⟨h, g, d, tk, os⟩ := by
  have hP : (VL (PX b1 b2 q) prog).P = ⟨prog, w.params⟩ := by rw [hw]; rfl
  refine piece_block (V := VL (PX b1 b2 q) prog) L hP 100000 1 [1,1] D (good_hole (n := nn + 100) L (c := .call (.ref 63) ⟨[.ref X0, .ref (N + 112)], []⟩) (pp := []) (by generalize b1 = b; generalize b2 = c; revert b c; exact kBB (by kernel_rfl)) trivial fun h1 L1 D1 => ?_)
  have D2 := D1.toF (T := kt (PX b1 b2 q)) (F := Fv) (Z := [(N, frO #[de (PX b1 b2 q) "script" e0 (.ref (X0)), de (PX b1 b2 q) "columns" e1 (.ref (N + 108))] 2), (N + 1, celO (some (.ref (N + 5)))), (N + 2, celO none), (N + 3, celO none), (N + 112, lstO #[.int 31 tk, .int 14 (tk + 1), .int 75 (tk + 2)] 0)]) (B := Bt) (nx := N + 113) (tk := 0) [0,1,2,3,4] (by generalize b1 = b; generalize b2 = c; revert b c; exact kBB (by kernel_rfl)) (by generalize b1 = b; generalize b2 = c; revert b c; exact kBB (by kernel_rfl)) rfl
  refine heaps3 (nn := nn + 40) L1 (D2.bs hw) (N := N + 113) D2.size (D2.F _ hX) hI hsz (D2.atM (j := 13) rfl) fun h2 tk2 y1 y2 y3 u1 u2 u3 P2 => ?_
  have D3 := (D2.and P2).perm (F := (N + 118, lstO #[.int y1 u1, .int y2 u2, .int y3 u3] 3) :: Fv) mem_front
  refine back (V := VL (PX b1 b2 q) prog) L hP 100000 0 [1,0,1,0] D3 (good_done (r := .ok .next) (pp := []) (by generalize b1 = b; generalize b2 = c; revert b c; exact kBB (by kernel_rfl)) trivial fun h3 D4 => ?_)
  exact H h3 _ y1 y2 y3 u1 u2 u3 tk2 (D4.toF [0,1,2,3] (by generalize b1 = b; generalize b2 = c; revert b c; exact kBB (by kernel_rfl)) (by generalize b1 = b; generalize b2 = c; revert b c; exact kBB (by kernel_rfl)) rfl)
theorem law_s3 {nn : Nat} (L : Deep (nn + 120) A) (hw : w.params = PX b1 b2 q) {x1 x2 x3 : Int} {u1 u2 u3 : Nat} (hX : (N + 118, lstO #[.int x1 u1, .int x2 u2, .int x3 u3] 3) ∈ Fv)
    (D : Rep h₀ ⟨kt (PX b1 b2 q), Fv, [(N, frO #[de (PX b1 b2 q) "script" e0 (.ref (X0)), de (PX b1 b2 q) "columns" e1 (.ref (N + 108)), de (PX b1 b2 q) "joins" e2 (.ref (N + 118))] 3), (N + 1, celO (some (.ref (N + 5)))), (N + 2, celO none), (N + 3, celO none)], Bt, N + 140, tk⟩ h)
    (H : ∀ h' tk' (p0 p1 : Nat) (s0 s1 s2 s3 : Int) (t0 t1 t2 t3 e3 : Nat), x1.fmod 3 = p0 → x2.fmod 2 = p1 → p0 < 3 → p1 < 2 → [s0, s1, s2, s3] = snS p0 p1 (wA x1) (wB x1) (wA x2) (wB x2) (wA x3) (wB x3) →
      Rep h₀ ⟨kt (PX b1 b2 q), (N + 146, lstO #[.int s0 t0, .int s1 t1, .int s2 t2, .int s3 t3] 0) :: Fv, [(N, frO #[de (PX b1 b2 q) "script" e0 (.ref (X0)), de (PX b1 b2 q) "columns" e1 (.ref (N + 108)), de (PX b1 b2 q) "joins" e2 (.ref (N + 118)), de (PX b1 b2 q) "senses" e3 (.ref (N + 146))] 4), (N + 1, celO (some (.ref (N + 5)))), (N + 2, celO none), (N + 3, celO none)], Bt, N + 140 + snN p0 p1, 0⟩ h' → Q .next ⟨h', g, d, tk', os⟩) :
    wpAny (model prog w) A (execs [lawS 3] (lawEnv N)) Q E ⟨h, g, d, tk, os⟩ := by
  have hP : (VL (PX b1 b2 q) prog).P = ⟨prog, w.params⟩ := by rw [hw]; rfl
  refine piece_block (V := VL (PX b1 b2 q) prog) L hP 100000 1 [1,1] D (good_hole (n := nn + 100) L (c := .call (.ref 98) ⟨[.ref (N + 118)], []⟩) (pp := []) (by generalize b1 = b; generalize b2 = c; revert b c; exact kBB (by kernel_rfl)) trivial fun h1 L1 D1 => ?_)
  have D2 := D1.toF (T := kt (PX b1 b2 q)) (F := Fv) (Z := [(N, frO #[de (PX b1 b2 q) "script" e0 (.ref (X0)), de (PX b1 b2 q) "columns" e1 (.ref (N + 108)), de (PX b1 b2 q) "joins" e2 (.ref (N + 118))] 3), (N + 1, celO (some (.ref (N + 5)))), (N + 2, celO none), (N + 3, celO none)]) (B := Bt) (nx := N + 140) (tk := 0) [0,1,2,3] (by generalize b1 = b; generalize b2 = c; revert b c; exact kBB (by kernel_rfl)) (by generalize b1 = b; generalize b2 = c; revert b c; exact kBB (by kernel_rfl)) rfl
  refine senses_spec (nn := nn + 60) L1 (D2.bs hw) (N := N + 140) D2.size (D2.F _ hX) fun h2 tk2 p0 p1 s0 s1 s2 s3 t0 t1 t2 t3 a1 a2 a3 a4 a5 P2 => ?_
  have D3 := (D2.and P2).perm (F := (N + 146, lstO #[.int s0 t0, .int s1 t1, .int s2 t2, .int s3 t3] 0) :: Fv) mem_front
  refine back (V := VL (PX b1 b2 q) prog) L hP 100000 0 [1,0,1,0] D3 (good_done (r := .ok .next) (pp := []) (by generalize b1 = b; generalize b2 = c; revert b c; exact kBB (by kernel_rfl)) trivial fun h3 D4 => ?_)
  exact H h3 _ p0 p1 s0 s1 s2 s3 t0 t1 t2 t3 tk2 a1 a2 a3 a4 a5 (D4.toF [0,1,2,3] (by generalize b1 = b; generalize b2 = c; revert b c; exact kBB (by kernel_rfl)) (by generalize b1 = b; generalize b2 = c; revert b c; exact kBB (by kernel_rfl)) rfl)
end
end Mine
namespace Mine
open PySem PySem.W PySem.W.X PySem.Spec PySem.Calls PyProof.Rows
open PySem.W.Fast
noncomputable def Keys.at (K : Keys) (a0 a1 a2 a3 n : Nat) : Keys := { K with K0 := a0, K1 := a1, K2 := a2, K3 := a3, kn := n }
section
variable {prog : Program} {w : World} {A : Around} {Q : Flow → Shared → Prop} {E : Value → Shared → Prop} {h₀ h : Heap} {g : Array GenState} {d : Drawn} {tk : Nat} {os : OsState} {b1 b2 : Bool} {q : Params}
variable {X0 e0 e1 e2 e3 : Nat} {Fv Bt : Facts} {W : Rows} {K : Keys}
theorem law_s4a {nn : Nat} (L : Deep (nn + 180) A) (hw : w.params = PX b1 b2 q) (O : K.Ok)
    (hC : (218, lstO #[.int K.c0 K.t0, .int K.c1 K.t1, .int K.c2 K.t2, .int K.c3 K.t3] 4) ∈ Fv) (hS : (256, lstO #[.int K.s0 K.u0, .int K.s1 K.u1, .int K.s2 K.u2, .int K.s3 K.u3] 0) ∈ Fv) (hR : ∀ p ∈ (115, rowsO W) :: rsF W [], p ∈ Fv)
    (D : Rep h₀ ⟨kt (PX b1 b2 q), Fv, [fr4 (PX b1 b2 q) X0 e0 e1 e2 e3, ce 111 115, (112, celO none), (113, celO none)], Bt, 342, tk⟩ h)
    (H : ∀ h' tk' y0 y1 y2 y3 y4 y5, Rep h₀ ⟨kt (PX b1 b2 q), marksF (354) W (K.at (348) (349) (350) (351) 6) y0 y1 y2 y3 y4 y5 ++ Fv, [fr4 (PX b1 b2 q) X0 e0 e1 e2 e3, ce 111 115, (112, celO none), ce 113 357], Bt, 589, 0⟩ h' → Q .next ⟨h', g, d, tk', os⟩) :
    wpAny (model prog w) A (execs [lawS 4] (lawEnv 110)) Q E ⟨h, g, d, tk, os⟩ := by
  have hP : (VL (PX b1 b2 q) prog).P = ⟨prog, w.params⟩ := by rw [hw]; rfl
  have D0 := D.perm (F := ((218, lstO #[.int K.c0 K.t0, .int K.c1 K.t1, .int K.c2 K.t2, .int K.c3 K.t3] 4) :: (256, lstO #[.int K.s0 K.u0, .int K.s1 K.u1, .int K.s2 K.u2, .int K.s3 K.u3] 0) :: Fv)) (sub_c hC (sub_c hS sub_i))
  refine piece_block (V := VL (PX b1 b2 q) prog) L hP 100000 1 [4,4,1,0,1,0,0,0,0,0,0,0,13,0,3,0,3,0,3,0,16,0,25,0,25,0,25,0,25,0] D0 (good_hole (n := nn + 160) L (c := .call (.builtin "list.__new__") ⟨[.type "list", .ref (346)], []⟩) (pp := []) (by generalize b1 = b; generalize b2 = c; revert b c; exact kBB (by kernel_rfl)) trivial fun h1 L1 D1 => ?_)
  have D2 := D1.toF (T := kt (PX b1 b2 q)) (F := ((218, lstO #[.int K.c0 K.t0, .int K.c1 K.t1, .int K.c2 K.t2, .int K.c3 K.t3] 4) :: (256, lstO #[.int K.s0 K.u0, .int K.s1 K.u1, .int K.s2 K.u2, .int K.s3 K.u3] 0) :: Fv)) (Z := [fr4 (PX b1 b2 q) X0 e0 e1 e2 e3, ce 111 115, (112, celO none), (113, celO none), (342, litO (218) 0), (343, litO (256) 0), (344, tupV #[.ref 342, .ref (343)]), (345, tupV #[.none, .none]), (346, { cls := .type "zip", data := .fields #[.none, .bool false, .bool false, .ref (344), .ref (345)] })]) (B := Bt) (nx := 347) (tk := 0) [0,1,2,3,4,5,6,7,8] (by generalize b1 = b; generalize b2 = c; revert b c; exact kBB (by kernel_rfl)) (by generalize b1 = b; generalize b2 = c; revert b c; exact kBB (by kernel_rfl)) rfl
  refine c_listnew ?_
  have z2 := D2.size
  dsimp only at z2 ⊢
  rw [z2]
  have D3 := D2.alloc (x := lstO #[] 0) rfl
  refine back (V := VL (PX b1 b2 q) prog) L hP 100000 0 [28,0,28,0,28,0,28,0,28,0,28,0,28,0,25,0,25,0,25,0,25,0,25,0,25,0,25,0,28,0,28,0,28,0,28,0,28,0,28,0,25,0,25,0,25,0,25,0,19,0,25,0,25,0,25,0,25,0,13,0,13,0,13,0,13,0,0,0,13,0,13,0,22,0,22,0,22,0,22,0,16,0,16,0,16,0,16,0,3,0,16,0,16,0,22,0,22,0,22,0,22,0,22,0,25,0,25,0,25,0,25,0,28,0,28,0,28,0,25,0,25,0,25,0,25,0,19,0,25,0,31,0,25,0,25,0,25,0,13,0,13,0,13,0,13,0,0,0,13,0,13,0,16,0,16,0,16,0,16,0,3,0,16,0,16,0,28,0,28,0,28,0,25,0,25,0,25,0,25,0,19,0,25,0,31,0,25,0,13,0,13,0,13,0,13,0,0,0,13,0,13,0,16,0,16,0,16,0,16,0,3,0,16,0,16,0,28,0,28,0,28,0,25,0,25,0,25,0,25,0,19,0,25,0,31,0,25,0,13,0,13,0,13,0,13,0,0,0,13,0,13,0,16,0,16,0,16,0,16,0,3,0,16,0,16,0,28,0,28,0,28,0,25,0,25,0,25,0,25,0,19,0,25,0,31,0,25,0,13,0,13,0,13,0,13,0,0,0,13,0,13,0,46,1] D3 (good_hole (n := nn + 160) L (c := .call (.ref 103) ⟨[.ref (115), .ref (347)], []⟩) (pp := []) (by generalize b1 = b; generalize b2 = c; revert b c; exact kBB (by kernel_rfl)) trivial fun h3 L3 D4 => ?_)
  have D5 := D4.toF (T := kt (PX b1 b2 q)) (F := ((218, lstO #[.int K.c0 K.t0, .int K.c1 K.t1, .int K.c2 K.t2, .int K.c3 K.t3] 4) :: (256, lstO #[.int K.s0 K.u0, .int K.s1 K.u1, .int K.s2 K.u2, .int K.s3 K.u3] 0) :: Fv)) (Z := [fr4 (PX b1 b2 q) X0 e0 e1 e2 e3, ce 111 115, (112, celO none), (113, celO none), (347, keysO (K.at (348) (349) (350) (351) 6)), (348, keyO K.c0 K.t0 K.s0 K.u0), (349, keyO K.c1 K.t1 K.s1 K.u1), (350, keyO K.c2 K.t2 K.s2 K.u2), (351, keyO K.c3 K.t3 K.s3 K.u3)]) (B := Bt) (nx := 354) (tk := 0) [0,1,2,3,9,10,11,12,13] (by generalize b1 = b; generalize b2 = c; revert b c; exact kBB (by kernel_rfl)) (by generalize b1 = b; generalize b2 = c; revert b c; exact kBB (by kernel_rfl)) rfl
  refine marks_spec (nn := nn + 20) (X0 := 115) (X1 := 347) (W := W) (K := K.at (348) (349) (350) (351) 6) L3 (D5.bs hw) (N := 354) D5.size ⟨O.h0, O.h1, O.h2, O.h3, O.m0, O.m1, O.m2, O.m3⟩ (all_c (D5.F _ (in_t (in_t (hR _ in_h)))) (all_c (D5.atM (j := 13) rfl) (all_c (D5.atM (j := 16) rfl) (all_c (D5.atM (j := 19) rfl) (all_c (D5.atM (j := 22) rfl) (all_c (D5.atM (j := 25) rfl) fun p hp => D5.F p (in_t (in_t (hR p (in_t hp)))))))))) fun h4 tk4 y0 y1 y2 y3 y4 y5 P4 => ?_
  have D6 := (D5.and P4).perm (F := marksF (354) W (K.at (348) (349) (350) (351) 6) y0 y1 y2 y3 y4 y5 ++ Fv) (sub_a (sub_r sub_i) (sub_l (sub_t (sub_t sub_i))))
  refine back (V := VL (PX b1 b2 q) prog) L hP 100000 0 [10,0,10,0] D6 (good_done (r := .ok .next) (pp := []) (by generalize b1 = b; generalize b2 = c; revert b c; exact kBB (by kernel_rfl)) trivial fun h5 D7 => ?_)
  exact H h5 _ y0 y1 y2 y3 y4 y5 (D7.toF [0,1,2,3] (by generalize b1 = b; generalize b2 = c; revert b c; exact kBB (by kernel_rfl)) (by generalize b1 = b; generalize b2 = c; revert b c; exact kBB (by kernel_rfl)) rfl)
theorem law_s4b {nn : Nat} (L : Deep (nn + 180) A) (hw : w.params = PX b1 b2 q) (O : K.Ok)
    (hC : (218, lstO #[.int K.c0 K.t0, .int K.c1 K.t1, .int K.c2 K.t2, .int K.c3 K.t3] 4) ∈ Fv) (hS : (256, lstO #[.int K.s0 K.u0, .int K.s1 K.u1, .int K.s2 K.u2, .int K.s3 K.u3] 0) ∈ Fv) (hR : ∀ p ∈ (115, rowsO W) :: rsF W [], p ∈ Fv)
    (D : Rep h₀ ⟨kt (PX b1 b2 q), Fv, [fr4 (PX b1 b2 q) X0 e0 e1 e2 e3, ce 111 115, (112, celO none), (113, celO none)], Bt, 345, tk⟩ h)
    (H : ∀ h' tk' y0 y1 y2 y3 y4 y5, Rep h₀ ⟨kt (PX b1 b2 q), marksF (357) W (K.at (351) (352) (353) (354) 6) y0 y1 y2 y3 y4 y5 ++ Fv, [fr4 (PX b1 b2 q) X0 e0 e1 e2 e3, ce 111 115, (112, celO none), ce 113 360], Bt, 592, 0⟩ h' → Q .next ⟨h', g, d, tk', os⟩) :
    wpAny (model prog w) A (execs [lawS 4] (lawEnv 110)) Q E ⟨h, g, d, tk, os⟩ := by
  have hP : (VL (PX b1 b2 q) prog).P = ⟨prog, w.params⟩ := by rw [hw]; rfl
  have D0 := D.perm (F := ((218, lstO #[.int K.c0 K.t0, .int K.c1 K.t1, .int K.c2 K.t2, .int K.c3 K.t3] 4) :: (256, lstO #[.int K.s0 K.u0, .int K.s1 K.u1, .int K.s2 K.u2, .int K.s3 K.u3] 0) :: Fv)) (sub_c hC (sub_c hS sub_i))
  refine piece_block (V := VL (PX b1 b2 q) prog) L hP 100000 1 [4,4,1,0,1,0,0,0,0,0,0,0,13,0,3,0,3,0,3,0,16,0,25,0,25,0,25,0,25,0] D0 (good_hole (n := nn + 160) L (c := .call (.builtin "list.__new__") ⟨[.type "list", .ref (349)], []⟩) (pp := []) (by generalize b1 = b; generalize b2 = c; revert b c; exact kBB (by kernel_rfl)) trivial fun h1 L1 D1 => ?_)
  have D2 := D1.toF (T := kt (PX b1 b2 q)) (F := ((218, lstO #[.int K.c0 K.t0, .int K.c1 K.t1, .int K.c2 K.t2, .int K.c3 K.t3] 4) :: (256, lstO #[.int K.s0 K.u0, .int K.s1 K.u1, .int K.s2 K.u2, .int K.s3 K.u3] 0) :: Fv)) (Z := [fr4 (PX b1 b2 q) X0 e0 e1 e2 e3, ce 111 115, (112, celO none), (113, celO none), (345, litO (218) 0), (346, litO (256) 0), (347, tupV #[.ref 345, .ref (346)]), (348, tupV #[.none, .none]), (349, { cls := .type "zip", data := .fields #[.none, .bool false, .bool false, .ref (347), .ref (348)] })]) (B := Bt) (nx := 350) (tk := 0) [0,1,2,3,4,5,6,7,8] (by generalize b1 = b; generalize b2 = c; revert b c; exact kBB (by kernel_rfl)) (by generalize b1 = b; generalize b2 = c; revert b c; exact kBB (by kernel_rfl)) rfl
  refine c_listnew ?_
  have z2 := D2.size
  dsimp only at z2 ⊢
  rw [z2]
  have D3 := D2.alloc (x := lstO #[] 0) rfl
  refine back (V := VL (PX b1 b2 q) prog) L hP 100000 0 [28,0,28,0,28,0,28,0,28,0,28,0,28,0,25,0,25,0,25,0,25,0,25,0,25,0,25,0,28,0,28,0,28,0,28,0,28,0,28,0,25,0,25,0,25,0,25,0,19,0,25,0,25,0,25,0,25,0,13,0,13,0,13,0,13,0,0,0,13,0,13,0,22,0,22,0,22,0,22,0,16,0,16,0,16,0,16,0,3,0,16,0,16,0,22,0,22,0,22,0,22,0,22,0,25,0,25,0,25,0,25,0,28,0,28,0,28,0,25,0,25,0,25,0,25,0,19,0,25,0,31,0,25,0,25,0,25,0,13,0,13,0,13,0,13,0,0,0,13,0,13,0,16,0,16,0,16,0,16,0,3,0,16,0,16,0,28,0,28,0,28,0,25,0,25,0,25,0,25,0,19,0,25,0,31,0,25,0,13,0,13,0,13,0,13,0,0,0,13,0,13,0,16,0,16,0,16,0,16,0,3,0,16,0,16,0,28,0,28,0,28,0,25,0,25,0,25,0,25,0,19,0,25,0,31,0,25,0,13,0,13,0,13,0,13,0,0,0,13,0,13,0,16,0,16,0,16,0,16,0,3,0,16,0,16,0,28,0,28,0,28,0,25,0,25,0,25,0,25,0,19,0,25,0,31,0,25,0,13,0,13,0,13,0,13,0,0,0,13,0,13,0,46,1] D3 (good_hole (n := nn + 160) L (c := .call (.ref 103) ⟨[.ref (115), .ref (350)], []⟩) (pp := []) (by generalize b1 = b; generalize b2 = c; revert b c; exact kBB (by kernel_rfl)) trivial fun h3 L3 D4 => ?_)
  have D5 := D4.toF (T := kt (PX b1 b2 q)) (F := ((218, lstO #[.int K.c0 K.t0, .int K.c1 K.t1, .int K.c2 K.t2, .int K.c3 K.t3] 4) :: (256, lstO #[.int K.s0 K.u0, .int K.s1 K.u1, .int K.s2 K.u2, .int K.s3 K.u3] 0) :: Fv)) (Z := [fr4 (PX b1 b2 q) X0 e0 e1 e2 e3, ce 111 115, (112, celO none), (113, celO none), (350, keysO (K.at (351) (352) (353) (354) 6)), (351, keyO K.c0 K.t0 K.s0 K.u0), (352, keyO K.c1 K.t1 K.s1 K.u1), (353, keyO K.c2 K.t2 K.s2 K.u2), (354, keyO K.c3 K.t3 K.s3 K.u3)]) (B := Bt) (nx := 357) (tk := 0) [0,1,2,3,9,10,11,12,13] (by generalize b1 = b; generalize b2 = c; revert b c; exact kBB (by kernel_rfl)) (by generalize b1 = b; generalize b2 = c; revert b c; exact kBB (by kernel_rfl)) rfl
  refine marks_spec (nn := nn + 20) (X0 := 115) (X1 := 350) (W := W) (K := K.at (351) (352) (353) (354) 6) L3 (D5.bs hw) (N := 357) D5.size ⟨O.h0, O.h1, O.h2, O.h3, O.m0, O.m1, O.m2, O.m3⟩ (all_c (D5.F _ (in_t (in_t (hR _ in_h)))) (all_c (D5.atM (j := 13) rfl) (all_c (D5.atM (j := 16) rfl) (all_c (D5.atM (j := 19) rfl) (all_c (D5.atM (j := 22) rfl) (all_c (D5.atM (j := 25) rfl) fun p hp => D5.F p (in_t (in_t (hR p (in_t hp)))))))))) fun h4 tk4 y0 y1 y2 y3 y4 y5 P4 => ?_
  have D6 := (D5.and P4).perm (F := marksF (357) W (K.at (351) (352) (353) (354) 6) y0 y1 y2 y3 y4 y5 ++ Fv) (sub_a (sub_r sub_i) (sub_l (sub_t (sub_t sub_i))))
  refine back (V := VL (PX b1 b2 q) prog) L hP 100000 0 [10,0,10,0] D6 (good_done (r := .ok .next) (pp := []) (by generalize b1 = b; generalize b2 = c; revert b c; exact kBB (by kernel_rfl)) trivial fun h5 D7 => ?_)
  exact H h5 _ y0 y1 y2 y3 y4 y5 (D7.toF [0,1,2,3] (by generalize b1 = b; generalize b2 = c; revert b c; exact kBB (by kernel_rfl)) (by generalize b1 = b; generalize b2 = c; revert b c; exact kBB (by kernel_rfl)) rfl)
end
end Mine
namespace Mine
open PySem PySem.W PySem.W.X PySem.Spec PySem.Calls PyProof.Rows
open PySem.W.Fast
set_option backward.match.sparseCases false in
noncomputable def valE : Stmt → Expr
  | .Assign _ v _ => v
  | _ => .Constant .none 0 ⟨0, 0, 0, 0⟩
set_option backward.match.sparseCases false in
noncomputable def kwE : Expr → Expr
  | .Call _ _ (k :: _) _ => k.value
  | e => e
set_option backward.match.sparseCases false in
noncomputable def laA : Expr → Arguments
  | .Lambda a _ _ _ => a
  | _ => ⟨[], [], none, [], [], none, []⟩
set_option backward.match.sparseCases false in
noncomputable def laB : Expr → Expr
  | .Lambda _ b _ _ => b
  | e => e
set_option backward.match.sparseCases false in
noncomputable def laS : Expr → Scope
  | .Lambda _ _ s _ => s
  | _ => default
noncomputable def dueE : Expr := kwE (valE (lawS 5))
noncomputable def lamO (N S : Nat) : Obj := { cls := .type "function", data := .func { name := Str.ofString "<lambda>", qualname := (lawEnv N).qual ++ Str.ofString "<lambda>", params := laA dueE, body := .expr (laB dueE), scope := laS dueE, globals := 3, closure := [(Str.ofString "marks", N + 3)], defaults := .none, kwdefaults := .none, doc := .none, pyModule := .str (Str.ofString "law_mq0115_01") 255, code := .ref (S + 7), closureTuple := .ref (S + 1), builtins := 0 } }
noncomputable def lamC (S c : Nat) : Obj := { cls := .type "code", data := .fields #[.str (Str.ofString "<lambda>") (c + 3), .str (Str.ofString "law.<locals>.<lambda>") (c + 4), .str (Str.ofString "/claim/cut.py") (c + 5), .int 95 0, .int 1 0, .int 0 0, .int 0 0, .int 19 0, .ref (S + 2), .bool true, .int 181 0, .ref (S + 3), .none, .ref (S + 4), .ref (S + 5), .ref (S + 6), .int (c + 8 : Nat) 0, .int 95 0, .str (Str.ofString "/claim/cut.py") (c + 9)] }
section
variable {prog : Program} {w : World} {A : Around} {Q : Value → Shared → Prop} {E : Value → Shared → Prop} {h₀ h : Heap} {g : Array GenState} {d : Drawn} {tk : Nat} {os : OsState} {b1 b2 : Bool} {q : Params}
variable {N S ML c t a0 a1 a2 a3 a4 a5 : Nat}
theorem lam_call {nn : Nat} (L : Deep (nn + 40) A) (B : Bs b1 b2 q w h) (hF : ∀ p ∈ ([(S + 8, lamO N S), (N + 3, celO (some (.ref ML))), (ML, lstO #[.ref a0, .ref a1, .ref a2, .ref a3, .ref a4, .ref a5] 6), (S + 7, lamC S c)] : Facts), h.get? p.1 = some p.2) {i : Nat} (hi : i < 6)
    (H : ∀ h' tk', Post h h' (h.objs.size + 1) [] → Q (.ref ([a0, a1, a2, a3, a4, a5].getD i 0)) ⟨h', g, d, tk', os⟩) :
    wpAny (model prog w) A (call (.ref (S + 8)) [.int i t]) Q E ⟨h, g, d, tk, os⟩ := by
  have hP : (VL (PX b1 b2 q) prog).P = ⟨prog, w.params⟩ := by rw [B.hw]; rfl
  have hi' : i = 0 ∨ i = 1 ∨ i = 2 ∨ i = 3 ∨ i = 4 ∨ i = 5 := lt6 (by first | assumption | omega)
  rcases hi' with rfl | rfl | rfl | rfl | rfl | rfl
  · refine wpAny_call (start (V := VL (PX b1 b2 q) prog) L hP 100000 0 [0,0,9,0,1,0,1,1,3,0,1,0,6,0,6,0,6,0,6,0,6,0] (B.start (F := [(S + 8, lamO N S), (N + 3, celO (some (.ref ML))), (ML, lstO #[.ref a0, .ref a1, .ref a2, .ref a3, .ref a4, .ref a5] 6), (S + 7, lamC S c)]) hF (t := tk)) rfl (good_done (r := .ok (.ret (.ref a0))) (pp := []) (by generalize b1 = b; generalize b2 = c; revert b c; exact kBB (by kernel_rfl)) trivial fun h1 D1 => ?_))
    exact H h1 _ (D1.post [] (by generalize b1 = b; generalize b2 = c; revert b c; exact kBB (by kernel_rfl)))
  · refine wpAny_call (start (V := VL (PX b1 b2 q) prog) L hP 100000 0 [0,0,9,0,1,0,1,1,3,0,1,0,6,0,6,0,6,0,6,0,6,0] (B.start (F := [(S + 8, lamO N S), (N + 3, celO (some (.ref ML))), (ML, lstO #[.ref a0, .ref a1, .ref a2, .ref a3, .ref a4, .ref a5] 6), (S + 7, lamC S c)]) hF (t := tk)) rfl (good_done (r := .ok (.ret (.ref a1))) (pp := []) (by generalize b1 = b; generalize b2 = c; revert b c; exact kBB (by kernel_rfl)) trivial fun h1 D1 => ?_))
    exact H h1 _ (D1.post [] (by generalize b1 = b; generalize b2 = c; revert b c; exact kBB (by kernel_rfl)))
  · refine wpAny_call (start (V := VL (PX b1 b2 q) prog) L hP 100000 0 [0,0,9,0,1,0,1,1,3,0,1,0,6,0,6,0,6,0,6,0,6,0] (B.start (F := [(S + 8, lamO N S), (N + 3, celO (some (.ref ML))), (ML, lstO #[.ref a0, .ref a1, .ref a2, .ref a3, .ref a4, .ref a5] 6), (S + 7, lamC S c)]) hF (t := tk)) rfl (good_done (r := .ok (.ret (.ref a2))) (pp := []) (by generalize b1 = b; generalize b2 = c; revert b c; exact kBB (by kernel_rfl)) trivial fun h1 D1 => ?_))
    exact H h1 _ (D1.post [] (by generalize b1 = b; generalize b2 = c; revert b c; exact kBB (by kernel_rfl)))
  · refine wpAny_call (start (V := VL (PX b1 b2 q) prog) L hP 100000 0 [0,0,9,0,1,0,1,1,3,0,1,0,6,0,6,0,6,0,6,0,6,0] (B.start (F := [(S + 8, lamO N S), (N + 3, celO (some (.ref ML))), (ML, lstO #[.ref a0, .ref a1, .ref a2, .ref a3, .ref a4, .ref a5] 6), (S + 7, lamC S c)]) hF (t := tk)) rfl (good_done (r := .ok (.ret (.ref a3))) (pp := []) (by generalize b1 = b; generalize b2 = c; revert b c; exact kBB (by kernel_rfl)) trivial fun h1 D1 => ?_))
    exact H h1 _ (D1.post [] (by generalize b1 = b; generalize b2 = c; revert b c; exact kBB (by kernel_rfl)))
  · refine wpAny_call (start (V := VL (PX b1 b2 q) prog) L hP 100000 0 [0,0,9,0,1,0,1,1,3,0,1,0,6,0,6,0,6,0,6,0,6,0] (B.start (F := [(S + 8, lamO N S), (N + 3, celO (some (.ref ML))), (ML, lstO #[.ref a0, .ref a1, .ref a2, .ref a3, .ref a4, .ref a5] 6), (S + 7, lamC S c)]) hF (t := tk)) rfl (good_done (r := .ok (.ret (.ref a4))) (pp := []) (by generalize b1 = b; generalize b2 = c; revert b c; exact kBB (by kernel_rfl)) trivial fun h1 D1 => ?_))
    exact H h1 _ (D1.post [] (by generalize b1 = b; generalize b2 = c; revert b c; exact kBB (by kernel_rfl)))
  · refine wpAny_call (start (V := VL (PX b1 b2 q) prog) L hP 100000 0 [0,0,9,0,1,0,1,1,3,0,1,0,6,0,6,0,6,0,6,0,6,0] (B.start (F := [(S + 8, lamO N S), (N + 3, celO (some (.ref ML))), (ML, lstO #[.ref a0, .ref a1, .ref a2, .ref a3, .ref a4, .ref a5] 6), (S + 7, lamC S c)]) hF (t := tk)) rfl (good_done (r := .ok (.ret (.ref a5))) (pp := []) (by generalize b1 = b; generalize b2 = c; revert b c; exact kBB (by kernel_rfl)) trivial fun h1 D1 => ?_))
    exact H h1 _ (D1.post [] (by generalize b1 = b; generalize b2 = c; revert b c; exact kBB (by kernel_rfl)))
end
end Mine
namespace Mine
open PySem PySem.W PySem.W.X PySem.Spec PySem.Calls PyProof.Rows
section
variable {prog : Program} {w : World} {A : Around} {Q : Bool → Shared → Prop} {E : Value → Shared → Prop} {s : Shared}
theorem c_list_lt {R : Result → Shared → Prop} {l b : Addr} {items items2 : Array Value} {n n2 : Nat} (hsz : items.size = items2.size) (hI : allI items.toList = true) (hJ : allI items2.toList = true)
    (hl : s.heap.get? l = some (lstO items n)) (hb : s.heap.get? b = some (lstO items2 n2)) (h : R (.ok (.ret (.bool (lexI .Lt (intsOf items.toList) (intsOf items2.toList))))) s) :
    codeAny (model prog w) A (.call (.builtin "list.__lt__") ⟨[.ref l, .ref b], []⟩) R s :=
  codeAny_call_builtin F.slot_list_lt.plain F.entry_list_lt (F.slot_list_lt.check _ _ _ _ _ _ _ _ ⟨_, hl, rfl⟩ (F.args_list_lt_2 _ _) (list_lt l b items items2 n n2 hsz hI hJ prog w A R s ⟨hl, hb, h⟩))
theorem klt_list (hu : A.units < cLine) {l b : Addr} {items items2 : Array Value} {n n2 : Nat} (hsz : items.size = items2.size) (hI : allI items.toList = true) (hJ : allI items2.toList = true)
    (hl : s.heap.get? l = some (lstO items n)) (hb : s.heap.get? b = some (lstO items2 n2)) (h : Q (lexI .Lt (intsOf items.toList) (intsOf items2.toList)) s) :
    wpAny (model prog w) A (keyLt' oneType' (.ref l) (.ref b)) Q E s := by
  rw [keyLt'_oneType, oneLt'_eq]
  simp only [if_true]
  refine wpAny_bind (wpAny_cRoomFor hu ?_)
  refine wpAny_bind (wpAny_callSpecialIfBound?_slot ⟨_, hl, rfl⟩ F.slot_list_lt (wpAny_call (c_list_lt hsz hI hJ hl hb ?_)))
  exact wpAny_truthy_bool h
end
end Mine
namespace Mine
open PySem PySem.W PySem.W.X PySem.Spec PySem.Calls PyProof.Rows
open PySem.W.Fast
noncomputable def mkL (W : Rows) (K : Keys) (i : Nat) : List Int := [mkV K.s0 K.c0 W (W.r i), mkV K.s1 K.c1 W (W.r i), mkV K.s2 K.c2 W (W.r i), mkV K.s3 K.c3 W (W.r i)]
noncomputable def mkLt (W : Rows) (K : Keys) (i j : Nat) : Bool := lexI .Lt (mkL W K i) (mkL W K j)
theorem looks_list {M : Model} {h : Heap} {a : Addr} {xs : Array Value} {n : Nat} (ho : h.get? a = some (lstO xs n)) : Looks M h (typeOf (.ref a)) (.type "list") :=
  fun _ _ _ _ k q => wpAny_typeOf (T := "list") ⟨_, k _ _ ho, rfl⟩ q
theorem Rep.reB {h₀ h h' : Heap} {m m' : Mm} (D : Rep h₀ m h) (D' : Rep h₀ m' h') (zs : List Nat) {F' Z Fx : Facts} {tk : Nat} (eF : m.F = Fx) (eF' : m'.F = F' ++ Fx)
    (e2 : zs.map (Mine.atM m') = Z.map some) (ek : Z.map (·.1) = m.Z.map (·.1)) : Rep h₀ ⟨m'.T, Fx, Z, m'.B, m'.nx, tk⟩ h' := by
  have inF : ∀ p ∈ Fx, p ∈ m'.F := fun p hp => by rw [eF']; exact List.mem_append_right _ hp
  refine { size := D'.size, T := D'.T, F := fun p hp => D'.F p (inF p hp), Z := fun p hp => ⟨?_, ?_⟩, B := D'.B, zd := by show (Z.map (·.1)).Pairwise _; rw [ek]; exact D.zd, bd := D'.bd,
           fz := fun p hp z hz => ?_, fb := fun p hp z hz => D'.fb p (inF p hp) z hz, tb := D'.tb, old := D'.old, kp := D'.kp, stat := D'.stat, le := D'.le }
  · have : some p ∈ zs.map (Mine.atM m') := by rw [e2]; exact List.mem_map_of_mem hp
    obtain ⟨j, _, q⟩ := List.mem_map.mp this
    exact D'.atM q
  · obtain ⟨p', h1, h2⟩ := keysRe ek hp
    rw [← h2]
    exact (D.Z p' h1).2
  · obtain ⟨p', h1, h2⟩ := keysRe ek hz
    rw [← h2]
    exact D.fz p (by rw [eF]; exact hp) p' h1
section
variable {prog : Program} {w : World} {A : Around} {Q : Flow → Shared → Prop} {E : Value → Shared → Prop} {h₀ h : Heap} {g : Array GenState} {d : Drawn} {tk : Nat} {os : OsState} {b1 b2 : Bool} {q : Params}
variable {X0 e0 e1 e2 e3 : Nat} {Fv : Facts} {W : Rows} {K : Keys}
inductive AtM (F : Facts) (v : Value) (l : List Int) : Prop
  | mk (a : Nat) (e : v = .ref a) (xs : Array Value) (n : Nat) (m : (a, lstO xs n) ∈ F) (s : xs.size = 4) (ai : allI xs.toList = true) (el : intsOf xs.toList = l)
noncomputable def mL (M : Nat) : List Value := [.ref (M + 6), .ref (M + 44), .ref (M + 82), .ref (M + 120), .ref (M + 158), .ref (M + 196)]
noncomputable def dL (tk : Nat) : List Value := [.int 0 (tk + 12), .int 1 (tk + 13), .int 2 (tk + 14), .int 3 (tk + 15), .int 4 (tk + 16), .int 5 (tk + 17)]
theorem dL_at (tk : Nat) : ∀ i, i < 6 → (dL tk)[i]? = some (.int (i : Nat) (tk + 12 + i)) ∧ (dL tk).getD i .none = .int (i : Nat) (tk + 12 + i) := lt6e ⟨rfl, rfl⟩ ⟨rfl, rfl⟩ ⟨rfl, rfl⟩ ⟨rfl, rfl⟩ ⟨rfl, rfl⟩ ⟨rfl, rfl⟩
theorem mL_at (M : Nat) : ∀ i, i < 6 → (mL M).take i ++ [.ref ([M + 6, M + 44, M + 82, M + 120, M + 158, M + 196].getD i 0)] = (mL M).take (i + 1) ∧ ∀ v, (mL M)[i]? = some v → v = (mL M).getD i .none := lt6e ⟨rfl, fun _ e => (Option.some.inj e).symm⟩ ⟨rfl, fun _ e => (Option.some.inj e).symm⟩ ⟨rfl, fun _ e => (Option.some.inj e).symm⟩ ⟨rfl, fun _ e => (Option.some.inj e).symm⟩ ⟨rfl, fun _ e => (Option.some.inj e).symm⟩ ⟨rfl, fun _ e => (Option.some.inj e).symm⟩
theorem s5sort {nn M b tk t1 c0 : Nat} (L : Deep (nn + 160) A) (hw : w.params = PX b1 b2 q) {y0 y1 y2 y3 y4 y5 : Four} (hM : ∀ p ∈ marksF M W K y0 y1 y2 y3 y4 y5, p ∈ Fv) {Bt : Facts} {R : Result → Shared → Prop}
    (D3 : Rep h₀ ⟨kt (PX b1 b2 q), [(b + 8, lamO 110 b), ce 113 (M + 3), (b + 7, lamC b c0), fr4 (PX b1 b2 q) X0 e0 e1 e2 e3, ce 111 115, (112, celO none)] ++ Fv, [(b + 13, lstO (dL tk).toArray 0)], Bt, b + 14, 0⟩ h)
    (H : ∀ h' tk' p c, p = (runT (mkLt W K) (kas_sort 6)).toList → p.length = 6 → (∀ x ∈ p, x < 6) →
      Rep h₀ ⟨kt (PX b1 b2 q), [(b + 8, lamO 110 b), ce 113 (M + 3), (b + 7, lamC b c0), fr4 (PX b1 b2 q) X0 e0 e1 e2 e3, ce 111 115, (112, celO none)] ++ Fv, [(b + 13, lstO (p.map fun i => Value.int (i : Nat) (tk + 12 + i)).toArray c)], Bt, b + 22, 0⟩ h' → R (.ok (.ret .none)) ⟨h', g, d, tk', os⟩) :
    codeAny (model prog w) A (.call (.builtin "list.sort") ⟨[.ref (b + 13)], [(Str.ofString "key", .ref (b + 8))]⟩) R ⟨h, g, d, t1, os⟩ := by
  have at' : ∀ i, i < 6 → AtM Fv ((mL M).getD i .none) (mkL W K i) := lt6e ⟨_, rfl, _, _, hM _ (in_t in_h), rfl, rfl, rfl⟩ ⟨_, rfl, _, _, hM _ (in_t (in_t in_h)), rfl, rfl, rfl⟩ ⟨_, rfl, _, _, hM _ (in_t (in_t (in_t in_h))), rfl, rfl, rfl⟩ ⟨_, rfl, _, _, hM _ (in_t (in_t (in_t (in_t in_h)))), rfl, rfl, rfl⟩ ⟨_, rfl, _, _, hM _ (in_t (in_t (in_t (in_t (in_t in_h))))), rfl, rfl, rfl⟩ ⟨_, rfl, _, _, hM _ (in_t (in_t (in_t (in_t (in_t (in_t in_h)))))), rfl, rfl, rfl⟩
  refine c_sort (f := .ref (b + 8)) (a := b + 13) (D3.Z _ (.head _)).1 (ksk_l1 _ _) (ksk_t1 _ _) ?_
  refine sort_tree (vs := dL tk) rfl D3 (fun ks F' => F' = [] ∧ ks = (mL M).take ks.length) ⟨rfl, rfl⟩ (fun i z => z = b + 16 + i) rfl (fun z => z = b + 22) (fun z hz => hz) (mkLt W K)
    (fun i v h tkz ks F' Z nx tk0 hv hl hK D hz => ?_) (fun ks F' hl hK => ?_) (fun i j ks F' h tkz Z nx tk0 hi hj hl hK D hz => ?_) (fun h' tk' p c hp h6 hlt hz D9 => ?_)
  · obtain ⟨rfl, hk⟩ := hK
    have hi : i < 6 := (List.getElem?_eq_some_iff.mp hv).1
    obtain rfl : _ = v := Option.some.inj ((dL_at tk i hi).1.symm.trans hv)
    have inF : ∀ {p}, p ∈ ([(b + 8, lamO 110 b), ce 113 (M + 3), (b + 7, lamC b c0), fr4 (PX b1 b2 q) X0 e0 e1 e2 e3, ce 111 115, (112, celO none)] : Facts) → h.get? p.1 = some p.2 := fun hp => D.F _ (in_l (in_l hp))
    refine lam_call (nn := nn + 119) (N := 110) (S := b) (ML := M + 3) (c := c0) (a0 := M + 6) (a1 := M + 44) (a2 := M + 82) (a3 := M + 120) (a4 := M + 158) (a5 := M + 196) L.in1 (D.bs hw) (all_c (inF in_h) (all_c (inF (in_t in_h)) (all_c (D.F _ (in_l (in_r (hM _ in_h)))) (all_c (inF (in_t (in_t in_h))) all_n)))) hi fun h' tk' P' => ?_
    refine ⟨h', tk', [], rfl, ⟨P'.keeps, rfl, by rw [P'.size]; exact P'.le, all_n⟩, P'.size.trans (congrArg (· + 1) hz), rfl, ?_⟩
    rw [hl] at hk
    subst hk
    rw [(mL_at M i hi).1, List.length_take_of_le (show i + 1 ≤ 6 from hi)]
  · obtain ⟨rfl, hk⟩ := hK
    rw [hl] at hk
    subst hk
    refine ⟨.type "list", by kernel_rfl, by kernel_rfl, fun h Z nx tk0 D v hv => ?_⟩
    obtain ⟨i, hi, e⟩ := List.getElem_of_mem hv
    obtain ⟨a, ha, xs, n, m1, -, -, -⟩ := at' i hi
    rw [(mL_at M i hi).2 v (List.getElem?_eq_some_iff.mpr ⟨hi, e⟩), ha]
    exact looks_list (D.F _ (in_l (in_r m1)))
  · obtain ⟨rfl, hk⟩ := hK
    rw [hl] at hk
    subst hk
    obtain ⟨a, ha, xs, n, m1, m2, m3, m4⟩ := at' i hi
    obtain ⟨b', hb, ys, n', l1, l2, l3, l4⟩ := at' j hj
    show wpAny _ _ (keyLt' oneType' ((mL M).getD i .none) ((mL M).getD j .none)) _ _ _
    rw [ha, hb]
    refine klt_list L.in1.room (by rw [m2, l2]) m3 l3 (D.F _ (in_l (in_r m1))) (D.F _ (in_l (in_r l1))) ?_
    exact ⟨by rw [m4, l4]; rfl, h, tkz, rfl, ⟨fun _ _ e => e, rfl, Nat.le_refl _, all_n⟩, hz⟩
  · have hz' : h'.objs.size = b + 22 := hz
    rw [hz', show (p.map fun i => (dL tk).getD i .none) = p.map fun i => Value.int (i : Nat) (tk + 12 + i) from List.map_congr_left fun i hi => (dL_at tk i (hlt i hi)).2] at D9
    exact ⟨rfl, H h' tk' p c hp h6 hlt D9⟩
theorem law_s5a {nn : Nat} (L : Deep (nn + 180) A) (hw : w.params = PX b1 b2 q) {y0 y1 y2 y3 y4 y5 : Four} (hM : ∀ p ∈ marksF 354 W K y0 y1 y2 y3 y4 y5, p ∈ Fv)
    (D : Rep h₀ ⟨kt (PX b1 b2 q), Fv, [fr4 (PX b1 b2 q) X0 e0 e1 e2 e3, ce 111 115, (112, celO none), ce 113 357], [(16, tableObj #[]), (72, tableObj #[]), (86, tableObj #[]), (105, tableObj #[])], 589, tk⟩ h)
    (H : ∀ h' tk' p c e (t : Nat → Nat), p = (runT (mkLt W K) (kas_sort 6)).toList → p.length = 6 → (∀ x ∈ p, x < 6) →
      Rep h₀ ⟨kt (PX b1 b2 q), (602, lstO (p.map fun i => Value.int (i : Nat) (t i)).toArray c) :: Fv, [fr5 (PX b1 b2 q) X0 e0 e1 e2 e3 602 e, ce 111 115, (112, celO none), ce 113 357], [(16, tableObj #[]), (72, tableObj #[]), (86, tableObj #[]), (105, tableObj #[.int 95 0, .int 31 0, .ref (596)])], 611, 0⟩ h' → Q .next ⟨h', g, d, tk', os⟩) :
    wpAny (model prog w) A (execs [lawS 5] (lawEnv 110)) Q E ⟨h, g, d, tk, os⟩ := by
  have hP : (VL (PX b1 b2 q) prog).P = ⟨prog, w.params⟩ := by rw [hw]; rfl
  refine piece_block (V := VL (PX b1 b2 q) prog) L hP 100000 4 [13,0,13,0,13,0,13,1,11,0,11,0,11,0,11,3,13,0,13,0,13,0,13,0,13,0,13,0,13,0,43,0,13,0,13,0,13,0,13,0,13,0,13,0,13,0,40,0,40,0,40,0,40,0,40,0,40,0,43,0,43,0,43,0,43,0,43,0,43,0,43,0,43,0,43,0,40,0,40,0,40,0,43,0,43,0,43,0,43,0,43,0,43,0,43,0,43,0,43,0,40,0,40,0,40,0,43,0,43,0,43,0,43,0,43,0,43,0,43,0,43,0,43,0,40,0,40,0,40,0,43,0,43,0,43,0,43,0,43,0,43,0,43,0,43,0,43,0,40,0,40,0,40,0,43,0,43,0,43,0,43,0,43,0,43,0,43,0,43,0,43,0,40,0,40,0,40,0,43,0,43,0,43,0,43,0,43,0,43,0,43,0,43,0,43,0,40,0,40,0,40,0,43,0,43,0,43,0,43,0,43,0,49,0,40,0] D (good_hole (n := nn + 160) L (c := .call (.builtin "list.sort") ⟨[.ref (602)], [(Str.ofString "key", .ref (597))]⟩) (pp := []) (by generalize b1 = b; generalize b2 = c; revert b c; exact kBB (by kernel_rfl)) trivial fun h1 L1 D1 => ?_)
  have D2 := D1.toF (T := kt (PX b1 b2 q)) (F := Fv) (Z := [fr4 (PX b1 b2 q) X0 e0 e1 e2 e3, ce 111 115, (112, celO none), ce 113 357, (596, lamC 589 tk), (597, lamO 110 589), (602, lstO #[.int 0 (tk + 12), .int 1 (tk + 13), .int 2 (tk + 14), .int 3 (tk + 15), .int 4 (tk + 16), .int 5 (tk + 17)] 0)]) (B := [(16, tableObj #[]), (72, tableObj #[]), (86, tableObj #[]), (105, tableObj #[.int 95 0, .int 31 0, .ref (596)])]) (nx := 603) (tk := 0) [0,1,2,3,11,12,17] (by generalize b1 = b; generalize b2 = c; revert b c; exact kBB (by kernel_rfl)) (by generalize b1 = b; generalize b2 = c; revert b c; exact kBB (by kernel_rfl)) rfl
  have D3 : Rep h₀ ⟨kt (PX b1 b2 q), [(597, lamO 110 589), ce 113 357, (596, lamC 589 tk), fr4 (PX b1 b2 q) X0 e0 e1 e2 e3, ce 111 115, (112, celO none)] ++ Fv, [(602, lstO ([.int 0 (tk + 12), .int 1 (tk + 13), .int 2 (tk + 14), .int 3 (tk + 15), .int 4 (tk + 16), .int 5 (tk + 17)] : List Value).toArray 0)], [(16, tableObj #[]), (72, tableObj #[]), (86, tableObj #[]), (105, tableObj #[.int 95 0, .int 31 0, .ref (596)])], 603, 0⟩ h1 :=
    D2.toX (T := kt (PX b1 b2 q)) (F := [(597, lamO 110 589), ce 113 357, (596, lamC 589 tk), fr4 (PX b1 b2 q) X0 e0 e1 e2 e3, ce 111 115, (112, celO none)]) (Z := [(602, lstO #[.int 0 (tk + 12), .int 1 (tk + 13), .int 2 (tk + 14), .int 3 (tk + 15), .int 4 (tk + 16), .int 5 (tk + 17)] 0)]) (B := [(16, tableObj #[]), (72, tableObj #[]), (86, tableObj #[]), (105, tableObj #[.int 95 0, .int 31 0, .ref (596)])]) (nx := 603) [16,10,13,1,4,7] [6] (fun p hp => hp) (by kernel_rfl) (by kernel_rfl)
  refine s5sort (nn := nn) (M := 354) (b := 589) L1 hw hM D3 fun h' tk' p c hp h6 hlt D9 => ?_
  obtain ⟨out, ho⟩ : ∃ o, o = (p.map fun i => Value.int (i : Nat) (tk + 12 + i)).toArray := ⟨_, rfl⟩
  rw [← ho] at D9
  have D10 : Rep h₀ ⟨kt (PX b1 b2 q), Fv, [fr4 (PX b1 b2 q) X0 e0 e1 e2 e3, ce 111 115, (112, celO none), ce 113 357, (596, lamC 589 tk), (597, lamO 110 589), (602, lstO out c)], [(16, tableObj #[]), (72, tableObj #[]), (86, tableObj #[]), (105, tableObj #[.int 95 0, .int 31 0, .ref (596)])], 611, 0⟩ h' := Rep.reB (F' := [(597, lamO 110 589), ce 113 357, (596, lamC 589 tk), fr4 (PX b1 b2 q) X0 e0 e1 e2 e3, ce 111 115, (112, celO none)]) D2 D9 [9,12,15,3,6,0,1] rfl rfl rfl rfl
  refine back (V := VL (PX b1 b2 q) prog) L hP 100000 0 [1,0,1,0] (tk := tk') D10 (good_done (r := .ok .next) (pp := []) (by generalize b1 = b; generalize b2 = c; revert b c; exact kBB (by kernel_rfl)) trivial fun h3 D11 => ?_)
  have D12 := D11.toF (T := kt (PX b1 b2 q)) (F := Fv) (Z := [fr5 (PX b1 b2 q) X0 e0 e1 e2 e3 602 tk', ce 111 115, (112, celO none), ce 113 357, (602, lstO out c)]) (B := [(16, tableObj #[]), (72, tableObj #[]), (86, tableObj #[]), (105, tableObj #[.int 95 0, .int 31 0, .ref (596)])]) (nx := 611) (tk := 0) [0,1,2,3,6] (by generalize b1 = b; generalize b2 = c; revert b c; exact kBB (by kernel_rfl)) (by generalize b1 = b; generalize b2 = c; revert b c; exact kBB (by kernel_rfl)) rfl
  have D13 := D12.toX (Fx := Fv) (T := kt (PX b1 b2 q)) (F := [(602, lstO out c)]) (Z := [fr5 (PX b1 b2 q) X0 e0 e1 e2 e3 602 tk', ce 111 115, (112, celO none), ce 113 357]) (B := [(16, tableObj #[]), (72, tableObj #[]), (86, tableObj #[]), (105, tableObj #[.int 95 0, .int 31 0, .ref (596)])]) (nx := 611) (tk := 0) [13] [0,1,2,3] (fun p hp => hp) rfl rfl
  rw [ho] at D13
  exact H h3 _ p c tk' (fun i => tk + 12 + i) hp h6 hlt D13
theorem law_s5b {nn : Nat} (L : Deep (nn + 180) A) (hw : w.params = PX b1 b2 q) {y0 y1 y2 y3 y4 y5 : Four} (hM : ∀ p ∈ marksF 357 W K y0 y1 y2 y3 y4 y5, p ∈ Fv)
    (D : Rep h₀ ⟨kt (PX b1 b2 q), Fv, [fr4 (PX b1 b2 q) X0 e0 e1 e2 e3, ce 111 115, (112, celO none), ce 113 360], [(16, tableObj #[]), (72, tableObj #[]), (86, tableObj #[]), (105, tableObj #[])], 592, tk⟩ h)
    (H : ∀ h' tk' p c e (t : Nat → Nat), p = (runT (mkLt W K) (kas_sort 6)).toList → p.length = 6 → (∀ x ∈ p, x < 6) →
      Rep h₀ ⟨kt (PX b1 b2 q), (605, lstO (p.map fun i => Value.int (i : Nat) (t i)).toArray c) :: Fv, [fr5 (PX b1 b2 q) X0 e0 e1 e2 e3 605 e, ce 111 115, (112, celO none), ce 113 360], [(16, tableObj #[]), (72, tableObj #[]), (86, tableObj #[]), (105, tableObj #[.int 95 0, .int 31 0, .ref (599)])], 614, 0⟩ h' → Q .next ⟨h', g, d, tk', os⟩) :
    wpAny (model prog w) A (execs [lawS 5] (lawEnv 110)) Q E ⟨h, g, d, tk, os⟩ := by
  have hP : (VL (PX b1 b2 q) prog).P = ⟨prog, w.params⟩ := by rw [hw]; rfl
  refine piece_block (V := VL (PX b1 b2 q) prog) L hP 100000 4 [13,0,13,0,13,0,13,1,11,0,11,0,11,0,11,3,13,0,13,0,13,0,13,0,13,0,13,0,13,0,43,0,13,0,13,0,13,0,13,0,13,0,13,0,13,0,40,0,40,0,40,0,40,0,40,0,40,0,43,0,43,0,43,0,43,0,43,0,43,0,43,0,43,0,43,0,40,0,40,0,40,0,43,0,43,0,43,0,43,0,43,0,43,0,43,0,43,0,43,0,40,0,40,0,40,0,43,0,43,0,43,0,43,0,43,0,43,0,43,0,43,0,43,0,40,0,40,0,40,0,43,0,43,0,43,0,43,0,43,0,43,0,43,0,43,0,43,0,40,0,40,0,40,0,43,0,43,0,43,0,43,0,43,0,43,0,43,0,43,0,43,0,40,0,40,0,40,0,43,0,43,0,43,0,43,0,43,0,43,0,43,0,43,0,43,0,40,0,40,0,40,0,43,0,43,0,43,0,43,0,43,0,49,0,40,0] D (good_hole (n := nn + 160) L (c := .call (.builtin "list.sort") ⟨[.ref (605)], [(Str.ofString "key", .ref (600))]⟩) (pp := []) (by generalize b1 = b; generalize b2 = c; revert b c; exact kBB (by kernel_rfl)) trivial fun h1 L1 D1 => ?_)
  have D2 := D1.toF (T := kt (PX b1 b2 q)) (F := Fv) (Z := [fr4 (PX b1 b2 q) X0 e0 e1 e2 e3, ce 111 115, (112, celO none), ce 113 360, (599, lamC 592 tk), (600, lamO 110 592), (605, lstO #[.int 0 (tk + 12), .int 1 (tk + 13), .int 2 (tk + 14), .int 3 (tk + 15), .int 4 (tk + 16), .int 5 (tk + 17)] 0)]) (B := [(16, tableObj #[]), (72, tableObj #[]), (86, tableObj #[]), (105, tableObj #[.int 95 0, .int 31 0, .ref (599)])]) (nx := 606) (tk := 0) [0,1,2,3,11,12,17] (by generalize b1 = b; generalize b2 = c; revert b c; exact kBB (by kernel_rfl)) (by generalize b1 = b; generalize b2 = c; revert b c; exact kBB (by kernel_rfl)) rfl
  have D3 : Rep h₀ ⟨kt (PX b1 b2 q), [(600, lamO 110 592), ce 113 360, (599, lamC 592 tk), fr4 (PX b1 b2 q) X0 e0 e1 e2 e3, ce 111 115, (112, celO none)] ++ Fv, [(605, lstO ([.int 0 (tk + 12), .int 1 (tk + 13), .int 2 (tk + 14), .int 3 (tk + 15), .int 4 (tk + 16), .int 5 (tk + 17)] : List Value).toArray 0)], [(16, tableObj #[]), (72, tableObj #[]), (86, tableObj #[]), (105, tableObj #[.int 95 0, .int 31 0, .ref (599)])], 606, 0⟩ h1 :=
    D2.toX (T := kt (PX b1 b2 q)) (F := [(600, lamO 110 592), ce 113 360, (599, lamC 592 tk), fr4 (PX b1 b2 q) X0 e0 e1 e2 e3, ce 111 115, (112, celO none)]) (Z := [(605, lstO #[.int 0 (tk + 12), .int 1 (tk + 13), .int 2 (tk + 14), .int 3 (tk + 15), .int 4 (tk + 16), .int 5 (tk + 17)] 0)]) (B := [(16, tableObj #[]), (72, tableObj #[]), (86, tableObj #[]), (105, tableObj #[.int 95 0, .int 31 0, .ref (599)])]) (nx := 606) [16,10,13,1,4,7] [6] (fun p hp => hp) (by kernel_rfl) (by kernel_rfl)
  refine s5sort (nn := nn) (M := 357) (b := 592) L1 hw hM D3 fun h' tk' p c hp h6 hlt D9 => ?_
  obtain ⟨out, ho⟩ : ∃ o, o = (p.map fun i => Value.int (i : Nat) (tk + 12 + i)).toArray := ⟨_, rfl⟩
  rw [← ho] at D9
  have D10 : Rep h₀ ⟨kt (PX b1 b2 q), Fv, [fr4 (PX b1 b2 q) X0 e0 e1 e2 e3, ce 111 115, (112, celO none), ce 113 360, (599, lamC 592 tk), (600, lamO 110 592), (605, lstO out c)], [(16, tableObj #[]), (72, tableObj #[]), (86, tableObj #[]), (105, tableObj #[.int 95 0, .int 31 0, .ref (599)])], 614, 0⟩ h' := Rep.reB (F' := [(600, lamO 110 592), ce 113 360, (599, lamC 592 tk), fr4 (PX b1 b2 q) X0 e0 e1 e2 e3, ce 111 115, (112, celO none)]) D2 D9 [9,12,15,3,6,0,1] rfl rfl rfl rfl
  refine back (V := VL (PX b1 b2 q) prog) L hP 100000 0 [1,0,1,0] (tk := tk') D10 (good_done (r := .ok .next) (pp := []) (by generalize b1 = b; generalize b2 = c; revert b c; exact kBB (by kernel_rfl)) trivial fun h3 D11 => ?_)
  have D12 := D11.toF (T := kt (PX b1 b2 q)) (F := Fv) (Z := [fr5 (PX b1 b2 q) X0 e0 e1 e2 e3 605 tk', ce 111 115, (112, celO none), ce 113 360, (605, lstO out c)]) (B := [(16, tableObj #[]), (72, tableObj #[]), (86, tableObj #[]), (105, tableObj #[.int 95 0, .int 31 0, .ref (599)])]) (nx := 614) (tk := 0) [0,1,2,3,6] (by generalize b1 = b; generalize b2 = c; revert b c; exact kBB (by kernel_rfl)) (by generalize b1 = b; generalize b2 = c; revert b c; exact kBB (by kernel_rfl)) rfl
  have D13 := D12.toX (Fx := Fv) (T := kt (PX b1 b2 q)) (F := [(605, lstO out c)]) (Z := [fr5 (PX b1 b2 q) X0 e0 e1 e2 e3 605 tk', ce 111 115, (112, celO none), ce 113 360]) (B := [(16, tableObj #[]), (72, tableObj #[]), (86, tableObj #[]), (105, tableObj #[.int 95 0, .int 31 0, .ref (599)])]) (nx := 614) (tk := 0) [13] [0,1,2,3] (fun p hp => hp) rfl rfl
  rw [ho] at D13
  exact H h3 _ p c tk' (fun i => tk + 12 + i) hp h6 hlt D13
end
end Mine
namespace Mine
open PySem PySem.W PySem.W.X PySem.Spec PySem.Calls PyProof.Rows
open PySem.W.Fast
noncomputable def Lew (A : Around) {α : Type} (t' t : Sem α) : Prop := ∀ (M : Model) (Γ : PySem.Ctx), Γ.In A → ∀ (Q : α → Pos → Shared → Prop) (E : Value → Pos → Shared → Prop) (p : Pos) (s : Shared), Sem.wp M Γ t' Q E p s → Sem.wp M Γ t Q E p s
section
variable {A : Around} {α β : Type}
theorem Lew.refl (t : Sem α) : Lew A t t := fun _ _ _ _ _ _ _ h => h
theorem Lew.ofEq {t' t : Sem α} (e : t = t') : Lew A t' t := fun _ _ _ _ _ _ _ h => by rw [e]; exact h
theorem Lew.bindR {m m' : Sem α} {g g' : α → Sem β} (h1 : Lew A m' m) (h : ∀ x, Lew A (g' x) (g x)) : Lew A (PySem.W.R.bindR m' g') (PySem.W.R.bindR m g) := fun M Γ hΓ Q E p s H => by
  rw [← PySem.W.R.bindR_eq] at H ⊢
  have H' : Sem.wp M Γ (m' >>= g') Q E p s := H
  show Sem.wp M Γ (m >>= g) Q E p s
  rw [Sem.wp_bind'] at H' ⊢
  exact h1 M Γ hΓ _ _ _ _ (Sem.wp_mono M Γ m' (fun x p' s' q => h x M Γ hΓ _ _ _ _ q) (fun _ _ _ q => q) _ _ H')
theorem Lew.bind {m m' : Sem α} {g g' : α → Sem β} (h1 : Lew A m' m) (h : ∀ x, Lew A (g' x) (g x)) : Lew A (PySem.W.R.bindR m' g') (m >>= g) := by
  have := Lew.bindR h1 h
  rw [← PySem.W.R.bindR_eq] at this ⊢
  exact this
theorem Lew.pureL {v : α} {g : α → Sem β} {t' : Sem β} (h : Lew A t' (g v)) : Lew A t' ((pure v : Sem α) >>= g) := h
theorem Lew.hold {vs : List Value} {t' t : Sem α} (h : Lew A t' t) : Lew A t' (holding vs t) := fun M Γ hΓ Q E p s H => by
  rw [Sem.wp_holding]; exact h M Γ hΓ Q E p s H
theorem Lew.holdT {vs : List Value} {t' t : Sem α} (h : Lew A t' t) : Lew A t' (tw17359229931016689406 vs t) := by
  have e : @holding = @tw17359229931016689406 := te17359229931016689406
  rw [← e]
  exact h.hold
theorem Lew.bad (w : String) (t : Sem α) : Lew A (.unsupported w) t := fun M Γ _ Q E p s h => by
  exact h.elim
end
noncomputable def lookStat : Sem Unit := .load cStatics none fun o => match o.data with
  | .dict es _ => (match es.toList with
    | [] => .pure ()
    | _ => .unsupported "")
  | _ => .unsupported ""
theorem Lew.enter {A : Around} (hd : A.depth < recursionLimit) : Lew A lookStat (enterFrame) := fun M Γ hΓ Q E p s H => by
  obtain ⟨o, ho, H⟩ : ∃ o, s.heap.get? cStatics = some o ∧ Sem.wp M Γ (match o.data with
    | .dict es _ => (match es.toList with
      | [] => .pure ()
      | _ => .unsupported "")
    | _ => .unsupported "") Q E p s := H
  split at H
  · rename_i es n he
    split at H
    · rename_i hes
      have hn : s.heap.Ns cStatics (fun _ => none) := ⟨o, es, n, ho, he, fun e he' => by
        have : es = #[] := by apply Array.ext'; exact hes
        rw [this] at he'; simp at he', fun x => by
        have : es = #[] := by apply Array.ext'; exact hes
        rw [this]; rfl⟩
      have l := lies_of (p := p) hΓ
      rw [enterQ_eq]
      unfold enterQ
      rw [Sem.wp_bind']
      show Sem.wp M Γ (currentRecursionLimit >>= _) _ _ p s
      rw [Sem.wp_bind']
      unfold currentRecursionLimit
      rw [Sem.wp_bind']
      show Sem.wp M Γ (nsGet cStatics "sys.recursionlimit") _ _ p s
      rw [Sem.wp_nsGet M Γ _ p s hn]
      have c1 : nearF ((Γ.code, p) :: Γ.below) 0 recursionLimit = false := by
        unfold nearF; rw [oNear.2]; exact l.near hd 0
      have c2 : overF ((Γ.code, p) :: Γ.below) 0 recursionLimit = false := by
        unfold overF; rw [oOver.2]
        refine decide_eq_false ?_
        have hge := frameCount_ge ((Γ.code, p) :: Γ.below)
        have := l.depth
        omega
      have c3 : warmF ((Γ.code, p) :: Γ.below) 0 recursionLimit = false := by
        unfold warmF; rw [oWarm.2]
        refine decide_eq_false ?_
        have hge := frameCount_ge ((Γ.code, p) :: Γ.below)
        have := l.depth
        show ¬ (_ + ((((Γ.code, p) :: Γ.below).map (·.1)).filter Code.isCreation).length ≥ _)
        omega
      show Sem.wp M Γ (cond (nearF ((Γ.code, p) :: Γ.below) 0 recursionLimit) _ (cond (overF ((Γ.code, p) :: Γ.below) 0 recursionLimit) _ (cond (warmF ((Γ.code, p) :: Γ.below) 0 recursionLimit) _ (pure ())))) Q E p s
      rw [c1, c2, c3]
      exact H
    · exact H.elim
  · exact H.elim
end Mine
namespace Mine
open PySem PySem.W PySem.W.X PySem.Spec PySem.Calls PyProof.Rows
open PySem.W.Fast
section
variable {A : Around} {α β : Type}
theorem Lew.guard {m m' : Sem α} {g t' : α → Sem β} {v : α} (p : α → Bool) (hp : ∀ x, p x = true → x = v) (h1 : Lew A m' m) (h : ∀ x, Lew A (t' x) (g v)) :
    Lew A (PySem.W.R.bindR m' fun x => match p x with | true => t' x | false => .unsupported "") (m >>= g) := by
  refine Lew.bind h1 fun x => ?_
  split
  · rename_i e
    have e' := hp x e
    subst e'
    exact h x
  · exact Lew.bad _ _
theorem Lew.bindT {m m' : Sem α} {g g' : α → Sem β} (h1 : Lew A m' m) (h : ∀ x, Lew A (g' x) (g x)) : Lew A (PySem.W.R.bindR m' g') (@Bind.bind Sem tw12456147031677567982.toBind α β m g) := Lew.bindR h1 h
theorem Lew.pureT {v : α} {g t' : α → Sem β} (h : ∀ x, Lew A (t' x) (g v)) : Lew A (PySem.W.R.bindR (Sem.pure v) t') (@Bind.bind Sem tw12456147031677567982.toBind α β (Sem.pure v) g) := h v
theorem Lew.iteP {c : Prop} [Decidable c] {t' a b : Sem α} (hc : c) (h : Lew A t' a) : Lew A t' (if c then a else b) := by
  rw [if_pos hc]; exact h
theorem Lew.guardT {m m' : Sem α} {g t' : α → Sem β} {v : α} (p : α → Bool) (hp : ∀ x, p x = true → x = v) (h1 : Lew A m' m) (h : ∀ x, Lew A (t' x) (g v)) :
    Lew A (PySem.W.R.bindR m' fun x => match p x with | true => t' x | false => .unsupported "") (@Bind.bind Sem tw12456147031677567982.toBind α β m g) := by
  refine Lew.bindT h1 fun x => ?_
  split
  · rename_i e
    have e' := hp x e
    subst e'
    exact h x
  · exact Lew.bad _ _
theorem Lew.iteN {c : Prop} [Decidable c] {t' a b : Sem α} (hc : ¬ c) (h : Lew A t' b) : Lew A t' (if c then a else b) := by
  rw [if_neg hc]; exact h
noncomputable def refOf : Value → (Addr → Sem α) → Sem α
  | .ref a, k => k a
  | _, _ => .unsupported ""
theorem Lew.ref {v : Value} {k : Addr → Sem α} {t : Value → Sem α} (h : ∀ a, Lew A (k a) (t (.ref a))) : Lew A (refOf v k) (t v) := by
  cases v <;> first | exact h _ | exact Lew.bad _ _
noncomputable def someOf {γ : Type} : Option γ → (γ → Sem α) → Sem α
  | some a, k => k a
  | none, _ => .unsupported ""
theorem Lew.some {γ : Type} {v : Option γ} {k : γ → Sem α} {t : Option γ → Sem α} (h : ∀ a, Lew A (k a) (t (.some a))) : Lew A (someOf v k) (t v) := by
  cases v <;> first | exact h _ | exact Lew.bad _ _
theorem Lew.bindSome {γ : Type} {m m' : Sem (Option γ)} {g : Option γ → Sem β} {k : γ → Sem β} (h1 : Lew A m' m) (h : ∀ a, Lew A (k a) (g (.some a))) :
    Lew A (PySem.W.R.bindR m' fun x => someOf x k) (@Bind.bind Sem tw12456147031677567982.toBind _ β m g) := Lew.bindT h1 fun _ => Lew.some h
theorem Lew.bindRef {m m' : Sem Value} {g : Value → Sem β} {k : Addr → Sem β} (h1 : Lew A m' m) (h : ∀ a, Lew A (k a) (g (.ref a))) :
    Lew A (PySem.W.R.bindR m' fun x => refOf x k) (@Bind.bind Sem tw12456147031677567982.toBind _ β m g) := Lew.bindT h1 fun _ => Lew.ref h
end
noncomputable def decB {c : Prop} : Decidable c → Bool
  | .isTrue _ => true
  | .isFalse _ => false
theorem dec_of {c : Prop} : ∀ (d : Decidable c), decB d = true → c
  | .isTrue e, _ => e
noncomputable def tyIs (s : String) : Value → Bool
  | .type t => decB (PySem.W.Fast.strDec t s)
  | _ => false
theorem tyIs_eq {s : String} (a : Value) : tyIs s a = true → a = .type s := by
  cases a with
  | type t => exact fun h => congrArg Value.type (dec_of _ h)
  | _ => exact fun h => absurd h Bool.false_ne_true
noncomputable def isObjArgs : Args → Bool
  | ⟨[a], []⟩ => tyIs "object" a
  | _ => false
theorem one_of {α : Type} {M : List α → Prop} (n : M []) (o : ∀ a, M [a]) (t : ∀ a b l, M (a :: b :: l)) : ∀ l, M l
  | [] => n
  | [a] => o a
  | a :: b :: l => t a b l
theorem nil_of {α : Type} {M : List α → Prop} (n : M []) (o : ∀ a l, M (a :: l)) : ∀ l, M l
  | [] => n
  | a :: l => o a l
theorem isObjArgs_eq : ∀ (a : Args), isObjArgs a = true → a = ⟨[.type "object"], []⟩ := fun ⟨l, k⟩ =>
  one_of (M := fun l => isObjArgs ⟨l, k⟩ = true → (⟨l, k⟩ : Args) = ⟨[.type "object"], []⟩) (fun h => absurd h Bool.false_ne_true)
    (fun a => nil_of (M := fun k => isObjArgs ⟨[a], k⟩ = true → (⟨[a], k⟩ : Args) = ⟨[.type "object"], []⟩) (fun h => congrArg (fun v => Args.mk [v] []) (tyIs_eq a h)) (fun _ _ h => absurd h Bool.false_ne_true) k) (fun _ _ _ h => absurd h Bool.false_ne_true) l
noncomputable def isObjB : List Value × Bool → Bool
  | ([a], false) => tyIs "object" a
  | _ => false
theorem isObjB_eq : ∀ (a : List Value × Bool), isObjB a = true → a = ([.type "object"], false) := fun ⟨l, b⟩ =>
  one_of (M := fun l => isObjB (l, b) = true → (l, b) = ([.type "object"], false)) (fun h => absurd h Bool.false_ne_true)
    (fun a => Bool.rec (motive := fun b => isObjB ([a], b) = true → ([a], b) = ([.type "object"], false)) (fun h => congrArg (fun v => ([v], false)) (tyIs_eq a h)) (fun h => absurd h Bool.false_ne_true) b) (fun _ _ _ h => absurd h Bool.false_ne_true) l
noncomputable def isTyT (a : Value) : Bool := tyIs "type" a
theorem isTyT_eq (a : Value) (h : isTyT a = true) : a = .type "type" := tyIs_eq a h
noncomputable abbrev clsSt : Stmt := inSt (stAt 1) 0
set_option maxHeartbeats 4000000 in
noncomputable def clsCut : { f : Env → Sem Flow // ∀ (A : Around) (env : Env), A.depth < recursionLimit → Lew A (f env) (exec clsSt env) } := by
  apply Subtype.mk
  intro A env hd
  show Lew A _ (exec (.ClassDef _ _ _ _ _ [] _ _ _ _ _) env)
  rw [arm_exec_ClassDef]
  apply Lew.bind (Lew.refl _)
  intro decos
  apply Lew.bind (Lew.refl _)
  intro _
  apply Lew.bind (Lew.ofEq (congrFun te14857818083647630748 env))
  intro _
  apply Lew.bind
  · apply Lew.hold
    apply Lew.guard isObjArgs isObjArgs_eq
    · apply Lew.ofEq
      rw [te5911215902649259669, te4897270859577272712, te13897175071876407860, te621762911399731506, te11621922129505618389]
    intro _
    apply Lew.bind (Lew.refl _)
    intro _
    apply Lew.hold
    rw [te1785580099245652887]
    unfold tw1785580099245652887
    apply Lew.bindT (Lew.refl _)
    intro givenT
    apply Lew.guardT isObjB isObjB_eq (Lew.refl _)
    intro _
    apply Lew.guardT isTyT isTyT_eq (Lew.refl _)
    intro _
    apply Lew.guardT (v := true) (fun b => b) (fun _ h => h) (Lew.refl _)
    intro _
    apply Lew.iteP rfl
    apply Lew.guardT isTyT isTyT_eq (Lew.refl _)
    intro _
    apply Lew.bindT (Lew.refl _)
    intro nameV
    apply Lew.iteN Bool.false_ne_true
    apply Lew.pureT
    intro _
    apply Lew.holdT
    apply Lew.bindSome (Lew.refl _)
    intro prep
    apply Lew.bindRef (Lew.refl _)
    intro nsA
    apply Lew.bindT (Lew.refl _)
    intro _
    apply Lew.bindSome (Lew.refl _)
    intro sp1
    apply Lew.iteN Bool.false_ne_true
    apply Lew.holdT
    apply Lew.iteN
    · decide +kernel
    apply Lew.pureT
    intro _
    apply Lew.iteN
    · decide +kernel
    apply Lew.pureT
    intro _
    apply Lew.bindT (Lew.refl _)
    intro code
    apply Lew.bindT (Lew.refl _)
    intro builtins
    apply Lew.bindT (Lew.refl _)
    intro frame
    apply Lew.bindT (Lew.refl _)
    intro cells
    apply Lew.holdT
    apply Lew.bindT
    · rw [← te15066281185411960212]
      exact Lew.enter hd
    intro _
    exact Lew.refl _
  intro c
  dsimp only [List.map, List.zip, List.zipWith, List.reverse]
  apply Lew.bind
  · apply Lew.ofEq
    rw [te9498003681964393637]
  intro c2
  apply Lew.bind (Lew.refl _)
  intro _
  apply Lew.bind
  · apply Lew.ofEq
    rw [te7536695828754713326]
  intro _
  exact Lew.refl _
end Mine
namespace Mine
open PySem PySem.W PySem.W.X PySem.Spec PySem.Calls PyProof.Rows
open PySem.W.Fast
noncomputable def VC9 (P : Params) (prog : Program) : Env9 := ⟨⟨prog, P⟩, fun c => match c with
  | .func _ _ => true
  | _ => false⟩
noncomputable def VD9 (P : Params) (prog : Program) : Env9 := ⟨⟨prog, P⟩, fun c => match c with
  | _ => false⟩
noncomputable def ctkEnv (N : Nat) : Env := { scope := sScope (stAt 1), locals := N, globals := 3, cells := [(Str.ofString "mycmp", N + 1)], qual := Str.ofString "cmp_to_key.<locals>.", func := some 21, code := .ref 20, frame := some N, builtins := 0 }
structure KA where
  c : Nat
  ns : Nat
  ds : Nat
  cl : Nat
  bt : Nat
  sl : Nat
  sa : Nat
  f0 : Nat
  f1 : Nat
  f2 : Nat
  f3 : Nat
  f4 : Nat
  f5 : Nat
  t1 : Nat
  t2 : Nat
  t3 : Nat
  t4 : Nat
  t5 : Nat
  d : Nat
noncomputable def ka1 (N : Nat) : KA := ⟨N + 60, N + 59, N + 61, N + 1, N + 2, N + 9, N + 57, N + 16, N + 24, N + 32, N + 40, N + 48, N + 56, N + 17, N + 25, N + 33, N + 41, N + 49, N⟩
noncomputable def ka2 (M N : Nat) : KA := ⟨N + 21, N + 20, N + 22, N + 1, N + 2, N + 6, N + 18, N + 7, N + 9, N + 11, N + 13, N + 15, N + 17, N + 8, N + 10, N + 12, N + 14, N + 16, M⟩
noncomputable abbrev kFn (i : Nat) (nm : String) (clo : List (Str × Addr)) (code ct : Value) : Obj := { cls := .type "function", data := .func { name := Str.ofString nm, qualname := Str.ofString "cmp_to_key.<locals>.K." ++ Str.ofString nm, params := sArgs (inSt clsSt i), body := .stmts (sBody (inSt clsSt i)), scope := sScope (inSt clsSt i), globals := 3, closure := clo, defaults := .none, kwdefaults := .none, doc := .none, pyModule := .str (Str.ofString "law_mq0115_01") 255, code := code, closureTuple := ct, builtins := 0 } }
noncomputable def kcdF (M U : Nat) : Facts := [(M + 15, { cls := .type "code", data := .fields #[.str (Str.ofString "__init__") (U + 17), .str (Str.ofString "cmp_to_key.<locals>.K.__init__") (U + 18), .str (Str.ofString "/claim/cut.py") (U + 19), .int (8) 0, .int (2) 0, .int (0) 0, .int (0) 0, .int (19) 0, .ref (M + 10), .bool true, .int (181) 0, .ref (M + 11), .none, .ref (M + 12), .ref (M + 13), .ref (M + 14), .int ((U + 22 : Nat) : Int) 0, .int (8) 0, .str (Str.ofString "/claim/cut.py") (U + 23)] }),
  (M + 23, { cls := .type "code", data := .fields #[.str (Str.ofString "__lt__") (U + 25), .str (Str.ofString "cmp_to_key.<locals>.K.__lt__") (U + 26), .str (Str.ofString "/claim/cut.py") (U + 27), .int (11) 0, .int (2) 0, .int (0) 0, .int (0) 0, .int (19) 0, .ref (M + 18), .bool true, .int (181) 0, .ref (M + 19), .none, .ref (M + 20), .ref (M + 21), .ref (M + 22), .int ((U + 31 : Nat) : Int) 0, .int (11) 0, .str (Str.ofString "/claim/cut.py") (U + 32)] }),
  (M + 31, { cls := .type "code", data := .fields #[.str (Str.ofString "__gt__") (U + 34), .str (Str.ofString "cmp_to_key.<locals>.K.__gt__") (U + 35), .str (Str.ofString "/claim/cut.py") (U + 36), .int (14) 0, .int (2) 0, .int (0) 0, .int (0) 0, .int (19) 0, .ref (M + 26), .bool true, .int (181) 0, .ref (M + 27), .none, .ref (M + 28), .ref (M + 29), .ref (M + 30), .int ((U + 40 : Nat) : Int) 0, .int (14) 0, .str (Str.ofString "/claim/cut.py") (U + 41)] }),
  (M + 39, { cls := .type "code", data := .fields #[.str (Str.ofString "__eq__") (U + 43), .str (Str.ofString "cmp_to_key.<locals>.K.__eq__") (U + 44), .str (Str.ofString "/claim/cut.py") (U + 45), .int (17) 0, .int (2) 0, .int (0) 0, .int (0) 0, .int (19) 0, .ref (M + 34), .bool true, .int (181) 0, .ref (M + 35), .none, .ref (M + 36), .ref (M + 37), .ref (M + 38), .int ((U + 49 : Nat) : Int) 0, .int (17) 0, .str (Str.ofString "/claim/cut.py") (U + 50)] }),
  (M + 47, { cls := .type "code", data := .fields #[.str (Str.ofString "__le__") (U + 52), .str (Str.ofString "cmp_to_key.<locals>.K.__le__") (U + 53), .str (Str.ofString "/claim/cut.py") (U + 54), .int (20) 0, .int (2) 0, .int (0) 0, .int (0) 0, .int (19) 0, .ref (M + 42), .bool true, .int (181) 0, .ref (M + 43), .none, .ref (M + 44), .ref (M + 45), .ref (M + 46), .int ((U + 58 : Nat) : Int) 0, .int (20) 0, .str (Str.ofString "/claim/cut.py") (U + 59)] }),
  (M + 55, { cls := .type "code", data := .fields #[.str (Str.ofString "__ge__") (U + 61), .str (Str.ofString "cmp_to_key.<locals>.K.__ge__") (U + 62), .str (Str.ofString "/claim/cut.py") (U + 63), .int (23) 0, .int (2) 0, .int (0) 0, .int (0) 0, .int (19) 0, .ref (M + 50), .bool true, .int (181) 0, .ref (M + 51), .none, .ref (M + 52), .ref (M + 53), .ref (M + 54), .int ((U + 67 : Nat) : Int) 0, .int (23) 0, .str (Str.ofString "/claim/cut.py") (U + 68)] })]
noncomputable def kc7 (M U : Nat) : Addr × Obj := (M + 7, { cls := .type "code", data := .fields #[.str (Str.ofString "K") (U + 2), .str (Str.ofString "cmp_to_key.<locals>.K") (U + 3), .str (Str.ofString "/claim/cut.py") (U + 4), .int (4) 0, .int (0) 0, .int (0) 0, .int (0) 0, .int (0) 0, .ref (M + 5), .bool true, .int (181) 0, .ref (M + 6), .none, .none, .none, .none, .int ((U + 6 : Nat) : Int) 0, .int (4) 0, .str (Str.ofString "/claim/cut.py") (U + 7)] })
noncomputable def kc6 (M U : Nat) : Addr × Obj := (M + 6, { cls := .none, data := .fields #[.int (8) 0, .int (8) 0, .ref (M + 15), .int (11) 0, .int (8) 0, .ref (M + 23), .int (14) 0, .int (8) 0, .ref (M + 31), .int (17) 0, .int (8) 0, .ref (M + 39), .int (20) 0, .int (8) 0, .ref (M + 47), .int (23) 0, .int (8) 0, .ref (M + 55)] })
noncomputable def kC (P : Params) (k : KA) (X : Addr) (T : Nat → Nat) : Facts := [
  (k.c, { cls := .type "type", data := .cls { name := Str.ofString "K", bases := [.type "object"], mro := [.ref k.c, .type "object"], ns := k.ns, qualname := Str.ofString "cmp_to_key.<locals>.K", hasDict := false, slotNames := [Str.ofString "obj"] }, slots := #[some (.ref k.bt), none, some (.str (Str.ofString "K") (T 0)), some (.str (Str.ofString "cmp_to_key.<locals>.K") (T 1)), some (.builtin "object.__new__"), some (.bool false)] }),
  (k.ns, { cls := .type "dict", data := .dict #[de P "__module__" (T 2) (.str (Str.ofString "cpy313.functools") (T 3)), de P "__firstlineno__" (T 4) (.int 4 (T 5)), de P "__slots__" (T 6) (.ref k.sl), de P "__init__" (T 7) (.ref k.f0), de P "__lt__" (T 8) (.ref k.f1), de P "__gt__" (T 9) (.ref k.f2), de P "__eq__" (T 10) (.ref k.f3), de P "__le__" (T 11) (.ref k.f4), de P "__ge__" (T 12) (.ref k.f5), de P "__hash__" (T 13) .none, de P "__static_attributes__" (T 14) (.ref k.sa), de P "obj" (T 15) (.ref k.ds), de P "__doc__" (T 16) .none] 3 }),
  (k.ds, { cls := .type "member_descriptor", data := .fields #[.str (Str.ofString "obj") (T 17), .ref k.c, .builtin "proto.slot", .builtin "proto.slot#set", .int 0 0] }),
  (k.cl, { cls := .type "cell", data := .cell (some (.ref X)) }),
  (k.f0, kFn 2 "__init__" [] (.ref (k.d + 15)) .none),
  (k.f1, kFn 3 "__lt__" [(Str.ofString "mycmp", k.cl)] (.ref (k.d + 23)) (.ref k.t1)),
  (k.f2, kFn 4 "__gt__" [(Str.ofString "mycmp", k.cl)] (.ref (k.d + 31)) (.ref k.t2)),
  (k.f3, kFn 5 "__eq__" [(Str.ofString "mycmp", k.cl)] (.ref (k.d + 39)) (.ref k.t3)),
  (k.f4, kFn 6 "__le__" [(Str.ofString "mycmp", k.cl)] (.ref (k.d + 47)) (.ref k.t4)),
  (k.f5, kFn 7 "__ge__" [(Str.ofString "mycmp", k.cl)] (.ref (k.d + 55)) (.ref k.t5))]
noncomputable def kT1 (tk i : Nat) : Nat := tk + [0,9,8,13,12,11,16,24,33,42,51,60,69,70,72,74,75,73].getD i 0
noncomputable def kT2 (tk i : Nat) : Nat := tk + [0,3,2,7,6,5,10,11,12,13,14,15,16,17,19,21,22,20].getD i 0
section
variable {α β : Type}
theorem Deep.deeper {n : Nat} {A : Around} {env : Env} (L : Deep (n + 1) A) : Deep n (A.deeper env) := ⟨L.handled, by have := L.depth; show A.depth + 1 + n + 70 < _; omega, by have := L.units; show A.units + 3 + 10 * n + 100 < _; omega⟩
theorem wpAny_of_lew {prog : Program} {w : World} {A : Around} {t' t : Sem α} {Q : α → Shared → Prop} {E : Value → Shared → Prop} {s : Shared} (h : Lew A t' t) (H : wpAny (model prog w) A t' Q E s) : wpAny (model prog w) A t Q E s :=
  fun Γ p hΓ => h _ Γ hΓ _ _ _ _ (H Γ p hΓ)
theorem execs_cut {M : Model} {A : Around} {env : Env} {st : Stmt} {rest : List Stmt} {Q : Flow → Shared → Prop} {E : Value → Shared → Prop} {s : Shared}
    (h : wpAny M A (exec st env) (fun f s' => match f with | .next => wpAny M A (execs rest env) Q E s' | f => Q f s') E s) : wpAny M A (execs (st :: rest) env) Q E s := by
  rw [execs_cons]
  refine wpAny_bind (wpAny_mono h (fun f s' h' => ?_) fun _ _ h' => h')
  cases f <;> first | exact h' | exact wpAny_pure h'
theorem Rep.toXe {h₀ h : Heap} {m : Mm} (D : Rep h₀ m h) (fs zs : List Nat) {T : KT} {F Z B F0 Fx : Facts} {nx tk : Nat} (eF : m.F = F0 ++ Fx) (e : (m.T, m.B, m.nx, fs.map (Mine.atM m), zs.map (nth m.Z)) = (T, B, nx, F.map some, Z.map some)) (hok : okIdx fs zs = true) : Rep h₀ ⟨T, F ++ Fx, Z, B, nx, tk⟩ h :=
  D.toX fs zs (fun p hp => by rw [eF]; exact List.mem_append_right _ hp) e hok
end
section
variable {prog : Program} {w : World} {A : Around} {R : Result → Shared → Prop} {h₀ h : Heap} {g : Array GenState} {d : Drawn} {tk : Nat} {os : OsState} {b1 b2 : Bool} {q : Params} {Fv : Facts} {x72 x86 x105 : Obj} {X U : Nat}
theorem ctk1 {nn : Nat} (L : Deep (nn + 60) A) (hw : w.params = PX b1 b2 q) {N : Nat} (hN : N = 658 ∨ N = 661)
    (D : Rep h₀ ⟨kt (PX b1 b2 q), Fv, [], [(16, tableObj #[]), (72, x72), (86, x86), (105, x105)], N, tk⟩ h)
    (H : ∀ h' tk', Rep h₀ ⟨kt (PX b1 b2 q), (kC (PX b1 b2 q) (ka1 N) X (kT1 tk) ++ (kcdF N tk ++ [kc7 N tk, kc6 N tk])) ++ Fv, [], [(16, tableObj #[.int 4 0, .int 4 0, .ref (N + 7)]), (72, x72), (86, x86), (105, x105)], N + 64, 0⟩ h' → R (.ok (.ret (.ref (N + 60)))) ⟨h', g, d, tk', os⟩) :
    codeAny (model prog w) A (.call (.ref 21) ⟨[.ref X], []⟩) R ⟨h, g, d, tk, os⟩ := by
  have hP : (VC9 (PX b1 b2 q) prog).P = ⟨prog, w.params⟩ := by rw [hw]; rfl
  have hP2 : (VD9 (PX b1 b2 q) prog).P = ⟨prog, w.params⟩ := by rw [hw]; rfl
  refine start (V := VC9 (PX b1 b2 q) prog) L hP 100000 2 [4,0,4,1] D rfl ?_
  refine good_tail (n := nn + 40) L (c := .func (sBody (stAt 1)) (ctkEnv N)) (pp := []) (by generalize b1 = b; revert b hN; generalize N = i; revert i; exact k2B (by kernel_rfl)) (by generalize b1 = b; revert b hN; generalize N = i; revert i; exact k2B (by kernel_rfl)) trivial fun h1 D1 => ?_
  have D2 : Rep h₀ ⟨kt (PX b1 b2 q), Fv, [(N, { cls := .type "frame", data := .dict #[] 0 }), (N + 1, { cls := .type "cell", data := .cell (some (.ref X)) })], [(16, tableObj #[]), (72, x72), (86, x86), (105, x105)], N + 2, tk⟩ h1 := (D1.toF (T := kt (PX b1 b2 q)) (F := Fv) [0,1] (by generalize b1 = b; revert b hN; generalize N = i; revert i; exact k2B (by kernel_rfl)) (by generalize b1 = b; revert b hN; generalize N = i; revert i; exact k2B (by kernel_rfl)) rfl)
  refine codeAny_func ?_
  show wpAny _ _ (execs (clsSt :: [inSt (stAt 1) 1]) (ctkEnv N)) _ _ _
  refine execs_cut (wpAny_of_lew (clsCut.2 _ _ (by have := L.depth; show A.depth + 1 < _; omega)) ?_)
  have L2 : Deep (nn + 59) (A.deeper (ctkEnv N)) := Deep.deeper L
  refine piece_of (V := VD9 (PX b1 b2 q) prog) rfl (fun fl => fl) L2 hP2 100000 3 [10,0,13,1,2,0,2,0,2,0,2,4,13,0,13,1,13,0,13,0,13,0,13,0,13,0,13,0,13,0,13,0,13,0,13,0,13,0,13,0,13,0,13,0,13,0,22,0,19,0,19,0,19,0,19,3,13,0,13,0,13,0,22,0,19,0,19,0,19,0,19,3,13,0,13,0,13,0,22,0,19,0,19,0,19,0,19,3,13,0,13,0,13,0,22,0,19,0,19,0,19,0,19,3,13,0,13,0,13,0,22,0,19,0,19,0,19,0,19,3,13,0,13,0,13,0,22,0,19,0,19,0,19,0,19,3,13,0,13,0,13,0,13,0,13,0,13,0,13,0,13,0,13,0,7,0,13,0,7,0,13,0,13,0,28,0,28,0,28,0,175,0,175,0,175,0,175,0,175,0,178,0,178,0,178,0,181,0,181,0,181,0,178,0,178,0,178,0,178,0,178,0,178,0,178,0,181,0,181,0,181,0,181,0,181,0,181,0,181,0,178,0,178,0,178,0,178,0,178,0,181,0,181,0,181,0,181,0,178,0,178,0,178,0,178,0,178,0,178,0,178,0,28,0,49,0,73,0,97,0,121,0,145,0,169,0,172,0,184,0,181,0,187,0,187,0,187,0,181,0,181,0,181,0,187,0,187,0,187,0,187,0,187,0,187,0,187,0,187,0,187,0,187,0,187,1,181,0,181,0,181,0,190,0,181,0,181,0,181,0,181,0,181,0,181,0,181,0,1,0,1,0] D2 ?_
  refine good_done (r := .ok .next) (pp := []) (by generalize b1 = b; revert b hN; generalize N = i; revert i; exact k2B (by kernel_rfl)) trivial fun h2 D3 a ea => ?_
  subst ea
  have D4 := D3.toXe (F0 := []) (Fx := Fv) (tk := 0) (T := kt (PX b1 b2 q)) (F := kC (PX b1 b2 q) (ka1 N) X (kT1 tk) ++ (kcdF N tk ++ [kc7 N tk, kc6 N tk])) (Z := [(N, { cls := .type "frame", data := .dict #[de (PX b1 b2 q) "K" (tk + 77) (.ref (N + 60))] 1 })]) (B := [(16, tableObj #[.int 4 0, .int 4 0, .ref (N + 7)]), (72, x72), (86, x86), (105, x105)]) (nx := N + 64) [181,178,184,4,49,73,97,121,145,169,46,70,94,118,142,166,22,19] [0] (by generalize b1 = b; revert b hN; generalize N = i; revert i; exact k2B (by kernel_rfl)) (by generalize b1 = b; revert b hN; generalize N = i; revert i; exact k2B (by kernel_rfl)) rfl
  show wpAny _ _ (execs [inSt (stAt 1) 1] (ctkEnv N)) _ _ _
  refine piece_block (V := VD9 (PX b1 b2 q) prog) L2 hP2 100000 0 [1,0,1,0] D4 (good_done (r := .ok (.ret (.ref (N + 60)))) (pp := []) (by generalize b1 = b; revert b hN; generalize N = i; revert i; exact k2B (by kernel_rfl)) trivial fun h3 D5 => ?_)
  have D6 := D5.toXe (F0 := []) (Fx := (kC (PX b1 b2 q) (ka1 N) X (kT1 tk) ++ (kcdF N tk ++ [kc7 N tk, kc6 N tk])) ++ Fv) (tk := 0) (T := kt (PX b1 b2 q)) (F := []) (Z := []) (B := [(16, tableObj #[.int 4 0, .int 4 0, .ref (N + 7)]), (72, x72), (86, x86), (105, x105)]) (nx := N + 64) [] [] (by generalize b1 = b; revert b hN; generalize N = i; revert i; exact k2B (by kernel_rfl)) (by generalize b1 = b; revert b hN; generalize N = i; revert i; exact k2B (by kernel_rfl)) rfl
  exact H h3 _ D6
theorem ctk2 {nn : Nat} (L : Deep (nn + 60) A) (hw : w.params = PX b1 b2 q) {M N : Nat} (hN : (M = 658 ∧ N = 755) ∨ (M = 658 ∧ N = 807) ∨ (M = 658 ∧ N = 859) ∨ (M = 661 ∧ N = 758) ∨ (M = 661 ∧ N = 810) ∨ (M = 661 ∧ N = 862)) (h7 : kc7 M U ∈ Fv) (h6 : kc6 M U ∈ Fv)
    (D : Rep h₀ ⟨kt (PX b1 b2 q), Fv, [], [(16, tableObj #[.int 4 0, .int 4 0, .ref (M + 7)]), (72, x72), (86, x86), (105, x105)], N, tk⟩ h)
    (H : ∀ h' tk', Rep h₀ ⟨kt (PX b1 b2 q), (kC (PX b1 b2 q) (ka2 M N) X (kT2 tk)) ++ Fv, [], [(16, tableObj #[.int 4 0, .int 4 0, .ref (M + 7)]), (72, x72), (86, x86), (105, x105)], N + 25, 0⟩ h' → R (.ok (.ret (.ref (N + 21)))) ⟨h', g, d, tk', os⟩) :
    codeAny (model prog w) A (.call (.ref 21) ⟨[.ref X], []⟩) R ⟨h, g, d, tk, os⟩ := by
  have hP : (VC9 (PX b1 b2 q) prog).P = ⟨prog, w.params⟩ := by rw [hw]; rfl
  have hP2 : (VD9 (PX b1 b2 q) prog).P = ⟨prog, w.params⟩ := by rw [hw]; rfl
  refine start (V := VC9 (PX b1 b2 q) prog) L hP 100000 2 [4,0,4,1] D rfl ?_
  refine good_tail (n := nn + 40) L (c := .func (sBody (stAt 1)) (ctkEnv N)) (pp := []) (by generalize b1 = b; revert b hN; generalize N = j; revert j; generalize M = i; revert i; exact k6PB (by kernel_rfl)) (by generalize b1 = b; revert b hN; generalize N = j; revert j; generalize M = i; revert i; exact k6PB (by kernel_rfl)) trivial fun h1 D1 => ?_
  have D2 : Rep h₀ ⟨kt (PX b1 b2 q), [kc7 M U, kc6 M U] ++ Fv, [(N, { cls := .type "frame", data := .dict #[] 0 }), (N + 1, { cls := .type "cell", data := .cell (some (.ref X)) })], [(16, tableObj #[.int 4 0, .int 4 0, .ref (M + 7)]), (72, x72), (86, x86), (105, x105)], N + 2, tk⟩ h1 := (D1.toF (T := kt (PX b1 b2 q)) (F := Fv) [0,1] (by generalize b1 = b; revert b hN; generalize N = j; revert j; generalize M = i; revert i; exact k6PB (by kernel_rfl)) (by generalize b1 = b; revert b hN; generalize N = j; revert j; generalize M = i; revert i; exact k6PB (by kernel_rfl)) rfl).perm (fun p hp => by
    rcases List.mem_cons.mp hp with rfl | hp
    · exact h7
    · rcases List.mem_cons.mp hp with rfl | hp
      · exact h6
      · exact hp)
  refine codeAny_func ?_
  show wpAny _ _ (execs (clsSt :: [inSt (stAt 1) 1]) (ctkEnv N)) _ _ _
  refine execs_cut (wpAny_of_lew (clsCut.2 _ _ (by have := L.depth; show A.depth + 1 < _; omega)) ?_)
  have L2 : Deep (nn + 59) (A.deeper (ctkEnv N)) := Deep.deeper L
  refine piece_of (V := VD9 (PX b1 b2 q) prog) rfl (fun fl => fl) L2 hP2 100000 3 [10,0,13,1,2,4,13,0,13,1,13,0,13,0,13,0,13,0,13,0,13,0,13,0,13,0,13,0,13,0,13,0,13,0,13,0,13,0,13,0,0,0,3,3,13,0,13,0,13,0,0,0,3,3,13,0,13,0,13,0,0,0,3,3,13,0,13,0,13,0,0,0,3,3,13,0,13,0,13,0,0,0,3,3,13,0,13,0,13,0,0,0,3,3,13,0,13,0,13,0,13,0,13,0,13,0,13,0,13,0,13,0,7,0,13,0,7,0,13,0,13,0,19,0,19,0,19,0,58,0,58,0,58,0,58,0,58,0,61,0,61,0,61,0,64,0,64,0,64,0,61,0,61,0,61,0,61,0,61,0,61,0,61,0,64,0,64,0,64,0,64,0,64,0,64,0,64,0,61,0,61,0,61,0,61,0,61,0,64,0,64,0,64,0,64,0,61,0,61,0,61,0,61,0,61,0,61,0,61,0,19,0,22,0,28,0,34,0,40,0,46,0,52,0,55,0,67,0,64,0,70,0,70,0,70,0,64,0,64,0,64,0,70,0,70,0,70,0,70,0,70,0,70,0,70,0,70,0,70,0,70,0,70,1,64,0,64,0,64,0,73,0,64,0,64,0,64,0,64,0,64,0,64,0,64,0,1,0,1,0] D2 ?_
  refine good_done (r := .ok .next) (pp := []) (by generalize b1 = b; revert b hN; generalize N = j; revert j; generalize M = i; revert i; exact k6PB (by kernel_rfl)) trivial fun h2 D3 a ea => ?_
  subst ea
  have D4 := D3.toXe (F0 := [kc7 M U, kc6 M U]) (Fx := Fv) (tk := 0) (T := kt (PX b1 b2 q)) (F := kC (PX b1 b2 q) (ka2 M N) X (kT2 tk)) (Z := [(N, { cls := .type "frame", data := .dict #[de (PX b1 b2 q) "K" (tk + 24) (.ref (N + 21))] 1 })]) (B := [(16, tableObj #[.int 4 0, .int 4 0, .ref (M + 7)]), (72, x72), (86, x86), (105, x105)]) (nx := N + 25) [64,61,67,4,22,28,34,40,46,52] [0] (by generalize b1 = b; revert b hN; generalize N = j; revert j; generalize M = i; revert i; exact k6PB (by kernel_rfl)) (by generalize b1 = b; revert b hN; generalize N = j; revert j; generalize M = i; revert i; exact k6PB (by kernel_rfl)) rfl
  show wpAny _ _ (execs [inSt (stAt 1) 1] (ctkEnv N)) _ _ _
  refine piece_block (V := VD9 (PX b1 b2 q) prog) L2 hP2 100000 0 [1,0,1,0] D4 (good_done (r := .ok (.ret (.ref (N + 21)))) (pp := []) (by generalize b1 = b; revert b hN; generalize N = j; revert j; generalize M = i; revert i; exact k6PB (by kernel_rfl)) trivial fun h3 D5 => ?_)
  have D6 := D5.toXe (F0 := []) (Fx := (kC (PX b1 b2 q) (ka2 M N) X (kT2 tk)) ++ Fv) (tk := 0) (T := kt (PX b1 b2 q)) (F := []) (Z := []) (B := [(16, tableObj #[.int 4 0, .int 4 0, .ref (M + 7)]), (72, x72), (86, x86), (105, x105)]) (nx := N + 25) [] [] (by generalize b1 = b; revert b hN; generalize N = j; revert j; generalize M = i; revert i; exact k6PB (by kernel_rfl)) (by generalize b1 = b; revert b hN; generalize N = j; revert j; generalize M = i; revert i; exact k6PB (by kernel_rfl)) rfl
  exact H h3 _ D6
end
end Mine
section
local macro_rules | `(tactic| trivial) => `(tactic| (with_reducible refine Mine.in_r ?_; trivial))
local macro_rules | `(tactic| trivial) => `(tactic| (with_reducible refine Mine.in_l ?_; trivial))
local macro_rules | `(tactic| trivial) => `(tactic| (with_reducible refine Mine.in_t ?_; trivial))
local macro_rules | `(tactic| trivial) => `(tactic| with_reducible exact Mine.in_h)
local macro_rules | `(tactic| trivial) => `(tactic| (with_reducible refine Mine.sub_r ?_; trivial))
local macro_rules | `(tactic| trivial) => `(tactic| (with_reducible refine Mine.sub_l ?_; trivial))
local macro_rules | `(tactic| trivial) => `(tactic| (with_reducible refine Mine.sub_t ?_; trivial))
local macro_rules | `(tactic| trivial) => `(tactic| (with_reducible refine Mine.sub_c ?_ ?_ <;> trivial))
local macro_rules | `(tactic| trivial) => `(tactic| (with_reducible refine Mine.sub_a ?_ ?_ <;> trivial))
local macro_rules | `(tactic| trivial) => `(tactic| with_reducible exact Mine.sub_n)
local macro_rules | `(tactic| trivial) => `(tactic| with_reducible exact Mine.sub_i)
namespace Mine
open PySem PySem.W PySem.W.X PySem.Spec PySem.Calls PyProof.Rows
open PySem.W.Fast
noncomputable def smallM9 : Args → Bool
  | ⟨[_, .int (.ofNat n) _], _⟩ => Nat.ble n 3
  | _ => false
noncomputable def VJ9 (P : Params) (prog : Program) : Env9 := ⟨⟨prog, P⟩, fun c => match c with
  | .call (.ref n) _ => Nat.beq n 21
  | .call (.builtin s) a => (match memS s ["int.__mod__"] with | true => smallM9 a | false => false)
  | _ => false⟩
theorem Rep.reK {h₀ h h' : Heap} {m m' : Mm} (D : Rep h₀ m h) (D' : Rep h₀ m' h') (zs : List Nat) {F' Z Fx Fk : Facts} {tk : Nat} (eF : m.F = Fx) (eF' : m'.F = Fk ++ (F' ++ Fx))
    (e2 : zs.map (Mine.atM m') = Z.map some) (ek : Z.map (·.1) = m.Z.map (·.1)) (hk : (Fk.all fun p => Z.all fun z => !(Nat.beq p.1 z.1)) = true) : Rep h₀ ⟨m'.T, Fx ++ Fk, Z, m'.B, m'.nx, tk⟩ h' := by
  have D1 := D.reB (tk := tk) (F' := Fk ++ F') D' zs eF (by rw [eF', List.append_assoc]) e2 ek
  have inF : ∀ p ∈ Fk, p ∈ m'.F := fun p hp => by rw [eF']; exact List.mem_append_left _ hp
  refine { D1 with F := fun p hp => ?_, fz := fun p hp z hz => ?_, fb := fun p hp z hz => ?_ }
  · rcases List.mem_append.mp hp with q | q
    · exact D1.F p q
    · exact D'.F p (inF p q)
  · rcases List.mem_append.mp hp with q | q
    · exact D1.fz p q z hz
    · intro e
      have := List.all_eq_true.mp hk p q
      have := List.all_eq_true.mp this z hz
      rw [e] at this
      simp at this
  · rcases List.mem_append.mp hp with q | q
    · exact D1.fb p q z hz
    · exact D'.fb p (inF p q) z hz
structure JA where
  cL : Nat
  cO : Nat
  cR : Nat
  L : Nat
  cd : Nat
  ct : Nat
  m : Nat
  i : Nat
  d : Nat
  l : Nat
  e0 : Nat
  e1 : Nat
  k : KA
noncomputable def ja1 (J : Nat) : JA := ⟨J + 1, J + 2, J + 3, J + 91, J + 90, J + 84, J + 17, J + 15, J + 14, J + 13, J + 11, J + 12, ka1 (J + 18)⟩
noncomputable def ja2 (M cd J : Nat) : JA := ⟨J + 1, J + 2, J + 3, J + 46, cd, J + 45, J + 17, J + 15, J + 14, J + 13, J + 11, J + 12, ka2 M (J + 18)⟩
set_option backward.match.sparseCases false in
noncomputable def boL : Expr → Expr
  | .BinOp l _ _ _ => l
  | e => e
set_option backward.match.sparseCases false in
noncomputable def boR : Expr → Expr
  | .BinOp _ _ r _ => r
  | e => e
set_option backward.match.sparseCases false in
noncomputable def liF : Expr → Expr
  | .List (e :: _) _ => e
  | e => e
noncomputable def jlE : Expr := liF (boR (boL (retE (inSt (stAt 11) 4))))
noncomputable def jlO (j : JA) : Obj := { cls := .type "function", data := .func { name := Str.ofString "<lambda>", qualname := Str.ofString "_law_joined.<locals>.<lambda>", params := laA jlE, body := .expr (laB jlE), scope := laS jlE, globals := 3, closure := [(Str.ofString "right", j.cR), (Str.ofString "outer", j.cO), (Str.ofString "left", j.cL)], defaults := .none, kwdefaults := .none, doc := .none, pyModule := .str (Str.ofString "law_mq0115_01") 255, code := .ref j.cd, closureTuple := .ref j.ct, builtins := 0 } }
noncomputable def jlC (cd U : Nat) : Addr × Obj := (cd, { cls := .type "code", data := .fields #[.str (Str.ofString "<lambda>") (U + 0), .str (Str.ofString "_law_joined.<locals>.<lambda>") (U + 1), .str (Str.ofString "/claim/cut.py") (U + 2), .int 74 0, .int 1 0, .int 0 0, .int 0 0, .int 19 0, .ref (cd - 5), .bool true, .int 181 0, .ref (cd - 4), .none, .ref (cd - 3), .ref (cd - 2), .ref (cd - 1), .int ((U + 7 : Nat) : Int) 0, .int 74 0, .str (Str.ofString "/claim/cut.py") (U + 8)] })
noncomputable def jF (P : Params) (j : JA) (left right : Addr) (a b : Int) (τ : Nat → Nat) : Facts := [
  (j.L, jlO j), (j.cL, celO (some (.ref left))), (j.cO, celO (some (.ref j.k.c))), (j.cR, celO (some (.ref right))),
  (j.m, { cls := .type "method", data := .fields #[.ref 51, .ref j.i] }), (j.i, { cls := .ref 54, dict := some j.d, data := .plain }),
  (j.d, { cls := .type "dict", data := .dict #[de P "comp_select_list" (τ 0) (.ref j.l)] 1 }), (j.l, lstO #[.ref j.e0, .ref j.e1] 0),
  (j.e0, { cls := .type "tuple", data := .seq #[.int 0 (τ 1), .int a (τ 2)] 0 }), (j.e1, { cls := .type "tuple", data := .seq #[.int 1 (τ 3), .int b (τ 4)] 0 })]
noncomputable def jTau (a b c d e i : Nat) : Nat := match i with | 0 => a | 1 => b | 2 => c | 3 => d | _ => e
noncomputable def jnZ (P : Params) (J MK : Nat) (ms : List Nat) (p : Nat) (x : Int) (u tk k1 t1 : Nat) (co : Option Value) : Facts := [((J + 0), { cls := .type "frame", data := .dict #[de P "makers" (tk + 0) (.ref MK), de P "number" (tk + 1) (.int (x) u), de P "spot" (k1 + 0) (.int (p : Int) t1), de P "ways" (k1 + 19) (.ref (J + 10))] 4 }),
  ((J + 1), { cls := .type "cell", data := .cell (some (.ref (ms.getD p 0))) }),
  ((J + 2), celO co),
  ((J + 3), { cls := .type "cell", data := .cell (some (.ref (ms.getD (p + 1) 0))) }),
  ((J + 4), { cls := .type "tuple", data := .seq #[.ref (ms.getD p 0), .ref (ms.getD (p + 1) 0)] 0 }),
  ((J + 5), { cls := .type "tuple_iterator", data := .fields #[.none, .int (2) 0] }),
  ((J + 6), { cls := .type "tuple", data := .seq #[] 0 }),
  ((J + 7), { cls := .type "StopIteration", data := .fields #[.ref (J + 6), .none, .none, .none, .bool false, .none] }),
  ((J + 8), { cls := .type "frame", data := .dict #[de P "number" (k1 + 3) (.int (x) u), de P "ways" (k1 + 10) (.ref (J + 9))] 2 }),
  ((J + 9), { cls := .type "list", data := .seq #[.int (1) (k1 + 4), .int ((-1)) (k1 + 6), .int (2) (k1 + 7), .int ((-3)) (k1 + 9)] 0 }),
  ((J + 10), { cls := .type "list", data := .seq #[.int ((selI [.int (1) (k1 + 4), .int ((-1)) (k1 + 6), .int (2) (k1 + 7), .int ((-3)) (k1 + 9)] ((((x).fdiv 6)).fmod 4))) (selT [.int (1) (k1 + 4), .int ((-1)) (k1 + 6), .int (2) (k1 + 7), .int ((-3)) (k1 + 9)] ((((x).fdiv 6)).fmod 4)), .int ((selI [.int (1) (k1 + 4), .int ((-1)) (k1 + 6), .int (2) (k1 + 7), .int ((-3)) (k1 + 9)] ((((x).fdiv 24)).fmod 4))) (selT [.int (1) (k1 + 4), .int ((-1)) (k1 + 6), .int (2) (k1 + 7), .int ((-3)) (k1 + 9)] ((((x).fdiv 24)).fmod 4))] 0 }),
  ((J + 11), { cls := .type "tuple", data := .seq #[.int (0) (k1 + 20), .int ((selI [.int (1) (k1 + 4), .int ((-1)) (k1 + 6), .int (2) (k1 + 7), .int ((-3)) (k1 + 9)] ((((x).fdiv 6)).fmod 4))) (selT [.int (1) (k1 + 4), .int ((-1)) (k1 + 6), .int (2) (k1 + 7), .int ((-3)) (k1 + 9)] ((((x).fdiv 6)).fmod 4))] 0 }),
  ((J + 12), { cls := .type "tuple", data := .seq #[.int (1) (k1 + 22), .int ((selI [.int (1) (k1 + 4), .int ((-1)) (k1 + 6), .int (2) (k1 + 7), .int ((-3)) (k1 + 9)] ((((x).fdiv 24)).fmod 4))) (selT [.int (1) (k1 + 4), .int ((-1)) (k1 + 6), .int (2) (k1 + 7), .int ((-3)) (k1 + 9)] ((((x).fdiv 24)).fmod 4))] 0 }),
  ((J + 13), { cls := .type "list", data := .seq #[.ref (J + 11), .ref (J + 12)] 0 }),
  ((J + 14), { cls := .type "dict", data := .dict #[de P "comp_select_list" (k1 + 27) (.ref (J + 13))] 1 }),
  ((J + 15), { cls := .ref 54, dict := some (J + 14), data := .plain }),
  ((J + 16), { cls := .type "frame", data := .dict #[de P "self" (k1 + 24) (.ref (J + 15)), de P "comp_select_list" (k1 + 25) (.ref (J + 13))] 2 }),
  ((J + 17), { cls := .type "method", data := .fields #[.ref 51, .ref (J + 15)] })]
section
variable {prog : Program} {w : World} {A : Around} {R : Result → Shared → Prop} {h₀ h : Heap} {g : Array GenState} {d : Drawn} {tk : Nat} {os : OsState} {b1 b2 : Bool} {q : Params} {Fv : Facts} {x72 x105 : Obj}
theorem good_holeT {R₀ : Result → Shared → Prop} {res : Res} {c : Code} {pp : List Prop} {n : Nat} (L : Deep (n + 20) A) (e : res.vw = res.wv c pp) (hp : AllP pp)
    (H : ∀ h tk9, Deep n (ar A res.κI) → Rep h₀ res.mI h → codeAny (model prog w) (ar A res.κI) c (endK prog w A R₀ res.κI) ⟨h, g, d, tk9, os⟩) : Good prog w A R₀ h₀ g d os res :=
  good_hole L e hp fun h L D => H h _ L D
theorem mod4P (y : Int) : itemP 4 (y.fmod 4) := by
  unfold itemP
  have h1 := Int.fmod_nonneg_of_pos y (show (0 : Int) < 4 by decide)
  have h2 := Int.fmod_lt_of_pos y (show (0 : Int) < 4 by decide)
  omega
theorem kJ1 {α : Type} {f g : Nat → Nat → List Nat → Bool → α} {l0 : List Nat} (h : (sp2 640 643 fun J => sp3 0 1 2 fun p => spB (f J p l0)) = sp2' 640 643 fun J => sp3' 0 1 2 fun p => spB' (g J p l0)) : ∀ J, (J = 640 ∨ J = 643) → ∀ p, (p = 0 ∨ p = 1 ∨ p = 2) → ∀ l, l = l0 → ∀ b, f J p l b = g J p l b := fun J hJ p hp l hl b => by
  subst hl
  exact ckB (ck3 (f := fun p => spB (f J p l)) (g := fun p => spB' (g J p l)) (ck2 (f := fun J => sp3 0 1 2 fun p => spB (f J p l)) (g := fun J => sp3' 0 1 2 fun p => spB' (g J p l)) h hJ) hp) b
noncomputable def spJ {α : Type} (a b c : Nat) (f : List Nat → Nat → Nat → Nat → Nat → α) : (α × α × α × α) × (α × α) := ((f [a, b, c] 0 658 737 730, f [a, b, c] 1 658 737 730, f [a, b, c] 0 661 740 733, f [a, b, c] 1 661 740 733), (f [a, b] 0 658 789 730, f [a, b] 0 661 792 733))
noncomputable def spJ' {α : Type} (a b c : Nat) (f : List Nat → Nat → Nat → Nat → Nat → α) : (α × α × α × α) × (α × α) := ((f [a, b, c] 0 658 737 730, f [a, b, c] 1 658 737 730, f [a, b, c] 0 661 740 733, f [a, b, c] 1 661 740 733), (f [a, b] 0 658 789 730, f [a, b] 0 661 792 733))
theorem kJ2 {α : Type} {m0 m1 m2 : Nat} {f g : List Nat → Nat → Nat → Nat → Nat → Bool → α} (h : (spJ m0 m1 m2 fun l p M J cd => spB (f l p M J cd)) = spJ' m0 m1 m2 fun l p M J cd => spB' (g l p M J cd)) :
    ∀ (l : List Nat) p M J cd, ((l = [m0, m1, m2] ∧ (p = 0 ∨ p = 1) ∧ ((M = 658 ∧ J = 737 ∧ cd = 730) ∨ (M = 661 ∧ J = 740 ∧ cd = 733))) ∨ (l = [m0, m1] ∧ p = 0 ∧ ((M = 658 ∧ J = 789 ∧ cd = 730) ∨ (M = 661 ∧ J = 792 ∧ cd = 733)))) → ∀ b, f l p M J cd b = g l p M J cd b := fun l p M J cd hc b => by
  rcases hc with ⟨rfl, rfl | rfl, ⟨rfl, rfl, rfl⟩ | ⟨rfl, rfl, rfl⟩⟩ | ⟨rfl, rfl, ⟨rfl, rfl, rfl⟩ | ⟨rfl, rfl, rfl⟩⟩
  · exact ckB (congrArg (fun x => x.1.1) h) b
  · exact ckB (congrArg (fun x => x.1.2.2.1) h) b
  · exact ckB (congrArg (fun x => x.1.2.1) h) b
  · exact ckB (congrArg (fun x => x.1.2.2.2) h) b
  · exact ckB (congrArg (fun x => x.2.1) h) b
  · exact ckB (congrArg (fun x => x.2.2) h) b
theorem nzJ {a b c : Nat} {l : List Nat} (h : l = [a, b, c] ∨ l = [a, b]) : ¬ (((l.length : Int) - 1) == 0) = true := by rcases h with rfl | rfl <;> simp
theorem hNJ {a b c p M J cd : Nat} {l : List Nat} (hc : (l = [a, b, c] ∧ (p = 0 ∨ p = 1) ∧ ((M = 658 ∧ J = 737 ∧ cd = 730) ∨ (M = 661 ∧ J = 740 ∧ cd = 733))) ∨ (l = [a, b] ∧ p = 0 ∧ ((M = 658 ∧ J = 789 ∧ cd = 730) ∨ (M = 661 ∧ J = 792 ∧ cd = 733)))) : (M = 658 ∧ J + 18 = 755) ∨ (M = 658 ∧ J + 18 = 807) ∨ (M = 658 ∧ J + 18 = 859) ∨ (M = 661 ∧ J + 18 = 758) ∨ (M = 661 ∧ J + 18 = 810) ∨ (M = 661 ∧ J + 18 = 862) := by
  rcases hc with ⟨_, _, ⟨rfl, rfl, _⟩ | ⟨rfl, rfl, _⟩⟩ | ⟨_, _, ⟨rfl, rfl, _⟩ | ⟨rfl, rfl, _⟩⟩
  · exact .inl ⟨rfl, rfl⟩
  · exact .inr (.inr (.inr (.inl ⟨rfl, rfl⟩)))
  · exact .inr (.inl ⟨rfl, rfl⟩)
  · exact .inr (.inr (.inr (.inr (.inl ⟨rfl, rfl⟩))))
theorem joined1 {nn : Nat} (L : Deep (nn + 120) A) (hw : w.params = PX b1 b2 q) {J : Nat} (hJ : J = 640 ∨ J = 643) {m0 m1 m2 m3 p : Nat} (hp : p = 0 ∨ p = 1 ∨ p = 2) {ms : List Nat} (hms : ms = [m0, m1, m2, m3]) {MK n : Nat} {x : Int} {u : Nat} (hmod : x.fmod ((ms.length : Int) - 1) = p)
    (D : Rep h₀ ⟨kt (PX b1 b2 q), ((MK, lstO (ms.map Value.ref).toArray n) :: Fv), [], [(16, tableObj #[]), (72, x72), (86, tableObj #[]), (105, x105)], J, tk⟩ h)
    (H : ∀ h' tk' (T τ : Nat → Nat) (U Uc : Nat), Rep h₀ ⟨kt (PX b1 b2 q), jF (PX b1 b2 q) (ja1 J) (ms.getD p 0) (ms.getD (p + 1) 0) (wA x) (wB x) τ ++ ((J + 96, lstO ((ms.take p ++ [(ja1 J).L] ++ ms.drop (p + 2)).map Value.ref).toArray 0) :: jlC (J + 90) Uc :: (kC (PX b1 b2 q) (ka1 (J + 18)) (J + 17) T ++ (kcdF (J + 18) U ++ [kc7 (J + 18) U, kc6 (J + 18) U]))) ++ Fv, [], [(16, tableObj #[.int 4 0, .int 4 0, .ref (J + 18 + 7)]), (72, x72), (86, tableObj #[.int 74 0, .int 28 0, .ref (J + 90)]), (105, x105)], J + 97, 0⟩ h' → R (.ok (.ret (.ref (J + 96)))) ⟨h', g, d, tk', os⟩) :
    codeAny (model prog w) A (.call (.ref 91) ⟨[.ref MK, .int x u], []⟩) R ⟨h, g, d, tk, os⟩ := by
  have hP : (VJ9 (PX b1 b2 q) prog).P = ⟨prog, w.params⟩ := by rw [hw]; rfl
  refine start (V := VJ9 (PX b1 b2 q) prog) L hP 100000 2 [1,0,1,0,1,0,1,1,1,2,1,0,0,0,0,0,0,0] D rfl ?_
  refine good_hole (n := nn + 100) L (c := .call (.builtin "int.__mod__") ⟨[.int x u, .int ((ms.length : Int) - 1) (tk + 5)], []⟩) (pp := []) (by generalize b1 = b; revert b hms; generalize ms = l; revert l hp; generalize p = i; revert i hJ; generalize J = j; revert j; exact kJ1 (by kernel_rfl)) trivial fun h1 L1 D1 => ?_
  refine c_mod (by rw [hms]; simp) fun t1 k1 => ?_
  rw [hmod]
  refine back (V := VJ9 (PX b1 b2 q) prog) L hP 100000 0 [1,0,1,0,1,0,1,0,0,0,0,0,0,0,0,0,0,0,1,0,1,0,0,0,0,0,0,0,0,0,0,0,13,0,13,0,13,0,13,0,16,0,16,0,16,0,16,0,16,0,13,0,16,0,16,0,16,0,16,0,16,0,16,0,13,0,16,0,16,0,16,0,16,0,16,0,16,0,13,0,16,0,16,0,22,0,4,0,4,0,10,0,10,1,1,3,25,0,25,1,25,0,25,0,25,0,25,0,28,0,28,0,28,0,1028,0,25,0,25,0,28,0,28,0,28,0,1028,0,1,0,1,2,1,0,31,0,31,0,31,0,1031,0,1,0,31,0,31,0,31,0,1031,28,46,1,46,6,49,0,49,0,49,0,49,1,49,0,49,0,46,3,46,1,46,1,46,3,46,1,43,0,43,0,43,0,46,3,46,6,46,0,46,1,43,5] (tk := k1) D1 ?_
  refine good_holeT (n := nn + 100) L (c := .call (.ref 21) ⟨[.ref (J + 17)], []⟩) (pp := [itemP 2 1, itemP 2 0, itemP 4 ((x.fdiv 24).fmod 4), itemP 4 ((x.fdiv 6).fmod 4)]) (by generalize b1 = b; revert b hms; generalize ms = l; revert l hp; generalize p = i; revert i hJ; generalize J = j; revert j; exact kJ1 (by kernel_rfl)) ⟨by unfold itemP; omega, by unfold itemP; omega, mod4P _, mod4P _, trivial⟩ fun h2 tk9 L2 D2 => ?_
  have D3 := D2.toF (tk := tk9) (T := kt (PX b1 b2 q)) (F := ((MK, lstO (ms.map Value.ref).toArray n) :: Fv)) (Z := jnZ (PX b1 b2 q) J MK ms p x u tk k1 t1 none) (B := [(16, tableObj #[]), (72, x72), (86, tableObj #[]), (105, x105)]) (nx := J + 18) [0,1,2,3,4,5,6,7,8,9,10,11,12,13,14,15,16,17] (by generalize b1 = b; revert b hms; generalize ms = l; revert l hp; generalize p = i; revert i hJ; generalize J = j; revert j; exact kJ1 (by kernel_rfl)) (by generalize b1 = b; revert b hms; generalize ms = l; revert l hp; generalize p = i; revert i hJ; generalize J = j; revert j; exact kJ1 (by kernel_rfl)) rfl
  have D4 := D3.toXe (tk := tk9) (F0 := []) (Fx := ((MK, lstO (ms.map Value.ref).toArray n) :: Fv)) (T := kt (PX b1 b2 q)) (F := jnZ (PX b1 b2 q) J MK ms p x u tk k1 t1 none) (Z := []) (B := [(16, tableObj #[]), (72, x72), (86, tableObj #[]), (105, x105)]) (nx := J + 18) [1,4,7,10,13,16,19,22,25,28,31,34,37,40,43,46,49,52] [] rfl (by generalize b1 = b; revert b hms; generalize ms = l; revert l hp; generalize p = i; revert i hJ; generalize J = j; revert j; exact kJ1 (by kernel_rfl)) rfl
  refine ctk1 (nn := nn + 40) L2 hw (N := J + 18) (hJ.imp (congrArg (· + 18)) (congrArg (· + 18))) D4 fun h4 k2 D5 => ?_
  have D6 := Rep.reK (tk := 0) (Fk := kC (PX b1 b2 q) (ka1 (J + 18)) (J + 17) (kT1 tk9) ++ (kcdF (J + 18) tk9 ++ [kc7 (J + 18) tk9, kc6 (J + 18) tk9])) D3 D5 [54,57,60,63,66,69,72,75,78,81,84,87,90,93,96,99,102,105] rfl rfl (Z := jnZ (PX b1 b2 q) J MK ms p x u tk k1 t1 none) (by generalize b1 = b; revert b hms; generalize ms = l; revert l hp; generalize p = i; revert i hJ; generalize J = j; revert j; exact kJ1 (by kernel_rfl)) (by generalize b1 = b; revert b hms; generalize ms = l; revert l hp; generalize p = i; revert i hJ; generalize J = j; revert j; exact kJ1 (by kernel_rfl)) (by generalize b1 = b; revert b hms; generalize ms = l; revert l hp; generalize p = i; revert i hJ; generalize J = j; revert j; exact kJ1 (by kernel_rfl))
  refine back (V := VJ9 (PX b1 b2 q) prog) L hP 100000 0 [7,0,7,0,1,0,1,0,0,0,0,0,0,0,0,0,55,0,55,0,55,0,55,0,55,0,0,1,8,0,8,0,8,0,8,3,58,0,85,0,58,0,58,0,85,0,58,0,85,0,1,0,1,0,0,0,0,0,0,0,0,0,91,0,91,0,91,0,91,0,91,0,0,0,88,0,94,0,88,0,88,0,94,0,88,0,94,0] (tk := k2) D6 ?_
  refine good_done (r := .ok (.ret (.ref (J + 96)))) (pp := []) (by generalize b1 = b; revert b hms; generalize ms = l; revert l hp; generalize p = i; revert i hJ; generalize J = j; revert j; exact kJ1 (by kernel_rfl)) trivial fun h5 D7 => ?_
  have D8 := fun (A9 B9 : Int) (eA : selI [.int 1 (k1 + 4), .int (-1) (k1 + 6), .int 2 (k1 + 7), .int (-3) (k1 + 9)] ((x.fdiv 6).fmod 4) = A9) (eB : selI [.int 1 (k1 + 4), .int (-1) (k1 + 6), .int 2 (k1 + 7), .int (-3) (k1 + 9)] ((x.fdiv 24).fmod 4) = B9) => D7.toXe (tk := 0) (F0 := []) (Fx := ((MK, lstO (ms.map Value.ref).toArray n) :: Fv) ++ (kC (PX b1 b2 q) (ka1 (J + 18)) (J + 17) (kT1 tk9) ++ (kcdF (J + 18) tk9 ++ [kc7 (J + 18) tk9, kc6 (J + 18) tk9]))) (T := kt (PX b1 b2 q)) (F := jF (PX b1 b2 q) (ja1 J) (ms.getD p 0) (ms.getD (p + 1) 0) A9 B9 (jTau (k1 + 27) (k1 + 20) (selT [.int 1 (k1 + 4), .int (-1) (k1 + 6), .int 2 (k1 + 7), .int (-3) (k1 + 9)] ((x.fdiv 6).fmod 4)) (k1 + 22) (selT [.int 1 (k1 + 4), .int (-1) (k1 + 6), .int 2 (k1 + 7), .int (-3) (k1 + 9)] ((x.fdiv 24).fmod 4))) ++ [((J + 96), lstO ((ms.take p ++ [(ja1 J).L] ++ ms.drop (p + 2)).map Value.ref).toArray 0), jlC (J + 90) k2]) (Z := []) (B := [(16, tableObj #[.int 4 0, .int 4 0, .ref (J + 18 + 7)]), (72, x72), (86, tableObj #[.int 74 0, .int 28 0, .ref (J + 90)]), (105, x105)]) (nx := J + 97) [82,4,7,10,52,46,43,40,34,37,97,79] [] (by subst eA eB; generalize b1 = b; revert b hms; generalize ms = l; revert l hp; generalize p = i; revert i hJ; generalize J = j; revert j; exact kJ1 (by kernel_rfl)) (by subst eA eB; generalize b1 = b; revert b hms; generalize ms = l; revert l hp; generalize p = i; revert i hJ; generalize J = j; revert j; exact kJ1 (by kernel_rfl)) rfl
  refine H h5 _ (kT1 tk9) (jTau (k1 + 27) (k1 + 20) (selT [.int 1 (k1 + 4), .int (-1) (k1 + 6), .int 2 (k1 + 7), .int (-3) (k1 + 9)] ((x.fdiv 6).fmod 4)) (k1 + 22) (selT [.int 1 (k1 + 4), .int (-1) (k1 + 6), .int 2 (k1 + 7), .int (-3) (k1 + 9)] ((x.fdiv 24).fmod 4))) tk9 k2 ((D8 _ _ (selI_wA x) (selI_wB x)).perm (by trivial))
theorem joined2 {nn : Nat} (L : Deep (nn + 120) A) (hw : w.params = PX b1 b2 q) {M J cd : Nat} {m0 m1 m2 p : Nat} {ms : List Nat} (hc : (ms = [m0, m1, m2] ∧ (p = 0 ∨ p = 1) ∧ ((M = 658 ∧ J = 737 ∧ cd = 730) ∨ (M = 661 ∧ J = 740 ∧ cd = 733))) ∨ (ms = [m0, m1] ∧ p = 0 ∧ ((M = 658 ∧ J = 789 ∧ cd = 730) ∨ (M = 661 ∧ J = 792 ∧ cd = 733)))) {MK n : Nat} {U Uc : Nat} (h7 : kc7 M U ∈ Fv) (h6 : kc6 M U ∈ Fv) {x : Int} {u : Nat} (hmod : x.fmod ((ms.length : Int) - 1) = p)
    (D : Rep h₀ ⟨kt (PX b1 b2 q), ((MK, lstO (ms.map Value.ref).toArray n) :: jlC cd Uc :: Fv), [], [(16, tableObj #[.int 4 0, .int 4 0, .ref (M + 7)]), (72, x72), (86, tableObj #[.int 74 0, .int 28 0, .ref cd]), (105, x105)], J, tk⟩ h)
    (H : ∀ h' tk' (T τ : Nat → Nat), Rep h₀ ⟨kt (PX b1 b2 q), jF (PX b1 b2 q) (ja2 M cd J) (ms.getD p 0) (ms.getD (p + 1) 0) (wA x) (wB x) τ ++ ((J + 51, lstO ((ms.take p ++ [(ja2 M cd J).L] ++ ms.drop (p + 2)).map Value.ref).toArray 0) :: kC (PX b1 b2 q) (ka2 M (J + 18)) (J + 17) T) ++ Fv, [], [(16, tableObj #[.int 4 0, .int 4 0, .ref (M + 7)]), (72, x72), (86, tableObj #[.int 74 0, .int 28 0, .ref cd]), (105, x105)], J + 52, 0⟩ h' → R (.ok (.ret (.ref (J + 51)))) ⟨h', g, d, tk', os⟩) :
    codeAny (model prog w) A (.call (.ref 91) ⟨[.ref MK, .int x u], []⟩) R ⟨h, g, d, tk, os⟩ := by
  have hP : (VJ9 (PX b1 b2 q) prog).P = ⟨prog, w.params⟩ := by rw [hw]; rfl
  refine start (V := VJ9 (PX b1 b2 q) prog) L hP 100000 2 [1,0,1,0,1,0,1,1,1,2,1,0,0,0,0,0,0,0] D rfl ?_
  refine good_hole (n := nn + 100) L (c := .call (.builtin "int.__mod__") ⟨[.int x u, .int ((ms.length : Int) - 1) (tk + 5)], []⟩) (pp := []) (by generalize b1 = b; revert b hc; generalize ms = l; generalize p = i; generalize M = m; generalize J = j; generalize cd = n; revert l i m j n; exact kJ2 (by kernel_rfl)) trivial fun h1 L1 D1 => ?_
  refine c_mod (nzJ (hc.imp And.left And.left)) fun t1 k1 => ?_
  rw [hmod]
  refine back (V := VJ9 (PX b1 b2 q) prog) L hP 100000 0 [1,0,1,0,1,0,1,0,0,0,0,0,0,0,0,0,0,0,1,0,1,0,0,0,0,0,0,0,0,0,0,0,13,0,13,0,13,0,13,0,16,0,16,0,16,0,16,0,16,0,13,0,16,0,16,0,16,0,16,0,16,0,16,0,13,0,16,0,16,0,16,0,16,0,16,0,16,0,13,0,16,0,16,0,22,0,4,0,4,0,10,0,10,1,1,3,25,0,25,1,25,0,25,0,25,0,25,0,28,0,28,0,28,0,1028,0,25,0,25,0,28,0,28,0,28,0,1028,0,1,0,1,2,1,0,31,0,31,0,31,0,1031,0,1,0,31,0,31,0,31,0,1031,28,46,1,46,6,49,0,49,0,49,0,49,1,49,0,49,0,46,3,46,1,46,1,46,3,46,1,43,0,43,0,43,0,46,3,46,6,46,0,46,1,43,5] (tk := k1) D1 ?_
  refine good_holeT (n := nn + 100) L (c := .call (.ref 21) ⟨[.ref (J + 17)], []⟩) (pp := [itemP 2 1, itemP 2 0, itemP 4 ((x.fdiv 24).fmod 4), itemP 4 ((x.fdiv 6).fmod 4)]) (by generalize b1 = b; revert b hc; generalize ms = l; generalize p = i; generalize M = m; generalize J = j; generalize cd = n; revert l i m j n; exact kJ2 (by kernel_rfl)) ⟨by unfold itemP; omega, by unfold itemP; omega, mod4P _, mod4P _, trivial⟩ fun h2 tk9 L2 D2 => ?_
  have D3 := D2.toF (tk := tk9) (T := kt (PX b1 b2 q)) (F := ((MK, lstO (ms.map Value.ref).toArray n) :: jlC cd Uc :: Fv)) (Z := jnZ (PX b1 b2 q) J MK ms p x u tk k1 t1 none) (B := [(16, tableObj #[.int 4 0, .int 4 0, .ref (M + 7)]), (72, x72), (86, tableObj #[.int 74 0, .int 28 0, .ref cd]), (105, x105)]) (nx := J + 18) [0,1,2,3,4,5,6,7,8,9,10,11,12,13,14,15,16,17] (by generalize b1 = b; revert b hc; generalize ms = l; generalize p = i; generalize M = m; generalize J = j; generalize cd = n; revert l i m j n; exact kJ2 (by kernel_rfl)) (by generalize b1 = b; revert b hc; generalize ms = l; generalize p = i; generalize M = m; generalize J = j; generalize cd = n; revert l i m j n; exact kJ2 (by kernel_rfl)) rfl
  have D4 := D3.toXe (tk := tk9) (F0 := []) (Fx := ((MK, lstO (ms.map Value.ref).toArray n) :: jlC cd Uc :: Fv)) (T := kt (PX b1 b2 q)) (F := jnZ (PX b1 b2 q) J MK ms p x u tk k1 t1 none) (Z := []) (B := [(16, tableObj #[.int 4 0, .int 4 0, .ref (M + 7)]), (72, x72), (86, tableObj #[.int 74 0, .int 28 0, .ref cd]), (105, x105)]) (nx := J + 18) [1,4,7,10,13,16,19,22,25,28,31,34,37,40,43,46,49,52] [] rfl (by generalize b1 = b; revert b hc; generalize ms = l; generalize p = i; generalize M = m; generalize J = j; generalize cd = n; revert l i m j n; exact kJ2 (by kernel_rfl)) rfl
  refine ctk2 (nn := nn + 40) L2 hw (M := M) (N := J + 18) (U := U) (hNJ hc) (by first | exact List.mem_append_right _ (.tail _ (.tail _ h7))) (by exact List.mem_append_right _ (.tail _ (.tail _ h6))) D4 fun h4 k2 D5 => ?_
  have D6 := Rep.reK (tk := 0) (Fk := kC (PX b1 b2 q) (ka2 M (J + 18)) (J + 17) (kT2 tk9)) D3 D5 [30,33,36,39,42,45,48,51,54,57,60,63,66,69,72,75,78,81] rfl rfl (Z := jnZ (PX b1 b2 q) J MK ms p x u tk k1 t1 none) (by generalize b1 = b; revert b hc; generalize ms = l; generalize p = i; generalize M = m; generalize J = j; generalize cd = n; revert l i m j n; exact kJ2 (by kernel_rfl)) (by generalize b1 = b; revert b hc; generalize ms = l; generalize p = i; generalize M = m; generalize J = j; generalize cd = n; revert l i m j n; exact kJ2 (by kernel_rfl)) (by generalize b1 = b; revert b hc; generalize ms = l; generalize p = i; generalize M = m; generalize J = j; generalize cd = n; revert l i m j n; exact kJ2 (by kernel_rfl))
  refine back (V := VJ9 (PX b1 b2 q) prog) L hP 100000 0 [7,0,7,0,1,0,1,0,0,0,0,0,0,0,0,0,55,0,55,0,55,0,55,0,55,0,0,1,8,3,58,0,67,0,58,0,58,0,67,0,58,0,67,0,1,0,1,0,0,0,0,0,0,0,0,0,73,0,73,0,73,0,73,0,73,0,0,0,70,0,76,0,70,0,70,0,76,0,70,0,76,0] (tk := k2) D6 ?_
  refine good_done (r := .ok (.ret (.ref (J + 51)))) (pp := []) (by generalize b1 = b; revert b hc; generalize ms = l; generalize p = i; generalize M = m; generalize J = j; generalize cd = n; revert l i m j n; exact kJ2 (by kernel_rfl)) trivial fun h5 D7 => ?_
  have D8 := fun (A9 B9 : Int) (eA : selI [.int 1 (k1 + 4), .int (-1) (k1 + 6), .int 2 (k1 + 7), .int (-3) (k1 + 9)] ((x.fdiv 6).fmod 4) = A9) (eB : selI [.int 1 (k1 + 4), .int (-1) (k1 + 6), .int 2 (k1 + 7), .int (-3) (k1 + 9)] ((x.fdiv 24).fmod 4) = B9) => D7.toXe (tk := 0) (F0 := []) (Fx := ((MK, lstO (ms.map Value.ref).toArray n) :: jlC cd Uc :: Fv) ++ (kC (PX b1 b2 q) (ka2 M (J + 18)) (J + 17) (kT2 tk9))) (T := kt (PX b1 b2 q)) (F := jF (PX b1 b2 q) (ja2 M cd J) (ms.getD p 0) (ms.getD (p + 1) 0) A9 B9 (jTau (k1 + 27) (k1 + 20) (selT [.int 1 (k1 + 4), .int (-1) (k1 + 6), .int 2 (k1 + 7), .int (-3) (k1 + 9)] ((x.fdiv 6).fmod 4)) (k1 + 22) (selT [.int 1 (k1 + 4), .int (-1) (k1 + 6), .int 2 (k1 + 7), .int (-3) (k1 + 9)] ((x.fdiv 24).fmod 4))) ++ [((J + 51), lstO ((ms.take p ++ [(ja2 M cd J).L] ++ ms.drop (p + 2)).map Value.ref).toArray 0)]) (Z := []) (B := [(16, tableObj #[.int 4 0, .int 4 0, .ref (M + 7)]), (72, x72), (86, tableObj #[.int 74 0, .int 28 0, .ref cd]), (105, x105)]) (nx := J + 52) [64,4,7,10,52,46,43,40,34,37,79] [] (by subst eA eB; generalize b1 = b; revert b hc; generalize ms = l; generalize p = i; generalize M = m; generalize J = j; generalize cd = n; revert l i m j n; exact kJ2 (by kernel_rfl)) (by subst eA eB; generalize b1 = b; revert b hc; generalize ms = l; generalize p = i; generalize M = m; generalize J = j; generalize cd = n; revert l i m j n; exact kJ2 (by kernel_rfl)) rfl
  refine H h5 _ (kT2 tk9) (jTau (k1 + 27) (k1 + 20) (selT [.int 1 (k1 + 4), .int (-1) (k1 + 6), .int 2 (k1 + 7), .int (-3) (k1 + 9)] ((x.fdiv 6).fmod 4)) (k1 + 22) (selT [.int 1 (k1 + 4), .int (-1) (k1 + 6), .int 2 (k1 + 7), .int (-3) (k1 + 9)] ((x.fdiv 24).fmod 4))) ((D8 _ _ (selI_wA x) (selI_wB x)).perm (by trivial))
end
end Mine
namespace Mine
open PySem PySem.W PySem.W.X PySem.Spec PySem.Calls PyProof.Rows
open PySem.W.Fast
noncomputable def VR9 (P : Params) (prog : Program) : Env9 := ⟨⟨prog, P⟩, fun c => match c with
  | .call (.ref n) _ => Nat.beq n 91
  | _ => false⟩
noncomputable def rdZ (P : Params) (R tk V : Nat) (y : Int) (u i : Nat) : Facts := [(R, frO #[de P "function" (tk + 0) (.ref 91), de P "sequence" (tk + 1) (.ref 228), de P "initial" (tk + 2) (.ref (R - 26)), de P "it" (tk + 3) (.ref (R + 1)), de P "value" (tk + 4) (.ref V), de P "element" (tk + 5) (.int y u)] 6), (R + 1, { cls := .type "list_iterator", data := .fields #[.ref 228, .int (i : Int) 0] })]
noncomputable def msN (ms : List Nat) (p L : Nat) : List Nat := ms.take p ++ [L] ++ ms.drop (p + 2)
noncomputable def ms0 (R : Nat) : List Nat := [R - 15, R - 11, R - 7, R - 3]
section
variable {prog : Program} {w : World} {A : Around} {R₀ : Result → Shared → Prop} {h₀ h : Heap} {g : Array GenState} {d : Drawn} {tk : Nat} {os : OsState} {b1 b2 : Bool} {q : Params} {Fv : Facts} {x72 x105 : Obj}
theorem ms1_three (R p L : Nat) (hp : p = 0 ∨ p = 1 ∨ p = 2) : ∃ a b c, msN (ms0 R) p L = [a, b, c] := by
  rcases hp with rfl | rfl | rfl <;> exact ⟨_, _, _, rfl⟩
theorem ms2_two (ms : List Nat) (p L : Nat) (hm : ∃ a b c, ms = [a, b, c]) (hp : p = 0 ∨ p = 1) : ∃ a b, msN ms p L = [a, b] := by
  obtain ⟨a, b, c, rfl⟩ := hm
  rcases hp with rfl | rfl <;> exact ⟨_, _, rfl⟩
theorem rdA {R : Nat} (h : R = 638 ∨ R = 641) : (R + 20 = 658 ∧ R + 99 = 737 ∧ R + 92 = 730) ∨ (R + 20 = 661 ∧ R + 99 = 740 ∧ R + 92 = 733) := h.imp (fun e => by subst e; exact ⟨rfl, rfl, rfl⟩) (fun e => by subst e; exact ⟨rfl, rfl, rfl⟩)
theorem rdB {R : Nat} (h : R = 638 ∨ R = 641) : (R + 20 = 658 ∧ R + 151 = 789 ∧ R + 92 = 730) ∨ (R + 20 = 661 ∧ R + 151 = 792 ∧ R + 92 = 733) := h.imp (fun e => by subst e; exact ⟨rfl, rfl, rfl⟩) (fun e => by subst e; exact ⟨rfl, rfl, rfl⟩)
theorem reduce_spec {nn : Nat} (L : Deep (nn + 180) A) (hw : w.params = PX b1 b2 q) {R : Nat} (hR : R = 638 ∨ R = 641) {x1 x2 x3 : Int} {u1 u2 u3 n p0 p1 : Nat} (hp0 : p0 = 0 ∨ p0 = 1 ∨ p0 = 2) (hp1 : p1 = 0 ∨ p1 = 1)
    (h1 : x1.fmod 3 = p0) (h2 : x2.fmod 2 = p1)
    (D : Rep h₀ ⟨kt (PX b1 b2 q), ((228, lstO #[.int x1 u1, .int x2 u2, .int x3 u3] 3) :: (R - 26, lstO ((ms0 R).map Value.ref).toArray n) :: Fv), [], [(16, tableObj #[]), (72, x72), (86, tableObj #[]), (105, x105)], R, tk⟩ h)
    (H : ∀ h' tk' (T1 τ1 T2 τ2 T3 τ3 : Nat → Nat) (U Uc : Nat), Rep h₀ ⟨kt (PX b1 b2 q), (jF (PX b1 b2 q) (ja2 (R + 20) (R + 92) (R + 151)) ((msN (msN (ms0 R) p0 (R + 93)) p1 (R + 145)).getD 0 0) ((msN (msN (ms0 R) p0 (R + 93)) p1 (R + 145)).getD (0 + 1) 0) (wA x3) (wB x3) τ3 ++ ((R + 202, lstO #[.ref (R + 197)] 0) :: kC (PX b1 b2 q) (ka2 (R + 20) (R + 169)) (R + 168) T3)) ++ ((jF (PX b1 b2 q) (ja2 (R + 20) (R + 92) (R + 99)) ((msN (ms0 R) p0 (R + 93)).getD p1 0) ((msN (ms0 R) p0 (R + 93)).getD (p1 + 1) 0) (wA x2) (wB x2) τ2 ++ ((R + 150, lstO ((msN (msN (ms0 R) p0 (R + 93)) p1 (R + 145)).map Value.ref).toArray 0) :: kC (PX b1 b2 q) (ka2 (R + 20) (R + 117)) (R + 116) T2)) ++ ((jF (PX b1 b2 q) (ja1 (R + 2)) ((ms0 R).getD p0 0) ((ms0 R).getD (p0 + 1) 0) (wA x1) (wB x1) τ1 ++ ((R + 98, lstO ((msN (ms0 R) p0 (R + 93)).map Value.ref).toArray 0) :: jlC (R + 92) Uc :: (kC (PX b1 b2 q) (ka1 (R + 20)) (R + 19) T1 ++ (kcdF (R + 20) U ++ [kc7 (R + 20) U, kc6 (R + 20) U])))) ++ Fv)), [], [(16, tableObj #[.int 4 0, .int 4 0, .ref (R + 27)]), (72, x72), (86, tableObj #[.int 74 0, .int 28 0, .ref (R + 92)]), (105, x105)], R + 205, 0⟩ h' → R₀ (.ok (.ret (.ref (R + 202)))) ⟨h', g, d, tk', os⟩) :
    codeAny (model prog w) A (.call (.ref 30) ⟨[.ref 91, .ref 228, .ref (R - 26)], []⟩) R₀ ⟨h, g, d, tk, os⟩ := by
  have hP : (VR9 (PX b1 b2 q) prog).P = ⟨prog, w.params⟩ := by rw [hw]; rfl
  refine start (V := VR9 (PX b1 b2 q) prog) L hP 100000 3 [1,0,1,0,1,0,1,0,1,0,1,3,1,0,0,0,0,0,0,0,4,0,1,0,1,0,1,1,3,1,1,0,1,0,1,0,1,0,4,0,4,0,4,0,4,0,4,0,4,0,4,0,4,0,0,0,4,0,4,0,1,0,1,0,1,0,1,0,1,1] D rfl ?_
  refine good_holeT (n := nn + 160) L (c := .call (.ref 91) ⟨[.ref (R - 26), .int x1 u1], []⟩) (pp := []) (by generalize b1 = b; revert b hR; generalize R = i; revert i; exact k2B (by kernel_rfl)) trivial fun g1 t1 L1 D1 => ?_
  have D2 := D1.toF (tk := t1) (T := kt (PX b1 b2 q)) (F := ((228, lstO #[.int x1 u1, .int x2 u2, .int x3 u3] 3) :: (R - 26, lstO ((ms0 R).map Value.ref).toArray n) :: Fv)) (Z := rdZ (PX b1 b2 q) R tk (R - 26) x1 u1 1) (B := [(16, tableObj #[]), (72, x72), (86, tableObj #[]), (105, x105)]) (nx := R + 2) [0,1] (by generalize b1 = b; revert b hR; generalize R = i; revert i; exact k2B (by kernel_rfl)) (by generalize b1 = b; revert b hR; generalize R = i; revert i; exact k2B (by kernel_rfl)) rfl
  have D3 := D2.toXe (tk := t1) (F0 := []) (Fx := ((228, lstO #[.int x1 u1, .int x2 u2, .int x3 u3] 3) :: (R - 26, lstO ((ms0 R).map Value.ref).toArray n) :: Fv)) (T := kt (PX b1 b2 q)) (F := rdZ (PX b1 b2 q) R tk (R - 26) x1 u1 1) (Z := []) (B := [(16, tableObj #[]), (72, x72), (86, tableObj #[]), (105, x105)]) (nx := R + 2) [1,4] [] rfl rfl rfl
  have E1 := D3.perm (F := (R - 26, lstO ((ms0 R).map Value.ref).toArray n) :: (rdZ (PX b1 b2 q) R tk (R - 26) x1 u1 1 ++ ((228, lstO #[.int x1 u1, .int x2 u2, .int x3 u3] 3) :: (R - 26, lstO ((ms0 R).map Value.ref).toArray n) :: Fv))) (by trivial)
  refine joined1 (nn := nn + 40) L1 hw (J := R + 2) (hR.imp (congrArg (· + 2)) (congrArg (· + 2))) hp0 (ms := ms0 R) rfl h1 E1 fun g2 k1 T1 τ1 U Uc D4 => ?_
  have D4' : Rep h₀ ⟨kt (PX b1 b2 q), (jF (PX b1 b2 q) (ja1 (R + 2)) ((ms0 R).getD p0 0) ((ms0 R).getD (p0 + 1) 0) (wA x1) (wB x1) τ1 ++ ((R + 98, lstO ((msN (ms0 R) p0 (R + 93)).map Value.ref).toArray 0) :: jlC (R + 92) Uc :: (kC (PX b1 b2 q) (ka1 (R + 20)) (R + 19) T1 ++ (kcdF (R + 20) U ++ [kc7 (R + 20) U, kc6 (R + 20) U])))) ++ (rdZ (PX b1 b2 q) R tk (R - 26) x1 u1 1 ++ ((228, lstO #[.int x1 u1, .int x2 u2, .int x3 u3] 3) :: (R - 26, lstO ((ms0 R).map Value.ref).toArray n) :: Fv)), [], [(16, tableObj #[.int 4 0, .int 4 0, .ref (R + 27)]), (72, x72), (86, tableObj #[.int 74 0, .int 28 0, .ref (R + 92)]), (105, x105)], R + 99, 0⟩ g2 := D4
  have D5 := Rep.reK (tk := 0) (Fk := (jF (PX b1 b2 q) (ja1 (R + 2)) ((ms0 R).getD p0 0) ((ms0 R).getD (p0 + 1) 0) (wA x1) (wB x1) τ1 ++ ((R + 98, lstO ((msN (ms0 R) p0 (R + 93)).map Value.ref).toArray 0) :: jlC (R + 92) Uc :: (kC (PX b1 b2 q) (ka1 (R + 20)) (R + 19) T1 ++ (kcdF (R + 20) U ++ [kc7 (R + 20) U, kc6 (R + 20) U]))))) D2 D4' [3 * 30, 3 * 31] rfl rfl (Z := rdZ (PX b1 b2 q) R tk (R - 26) x1 u1 1) rfl rfl (by revert hR; generalize R = i; revert i; exact kD2 (by kernel_rfl))
  refine back (V := VR9 (PX b1 b2 q) prog) L hP 100000 0 [1,0,1,0,4,0,4,0,4,0,4,0,0,0,4,0,4,0,1,0,1,0,1,0,1,0,1,1] (tk := k1) D5 ?_
  refine good_holeT (n := nn + 160) L (c := .call (.ref 91) ⟨[.ref (R + 98), .int x2 u2], []⟩) (pp := []) (by generalize b1 = b; revert b hR; generalize R = i; revert i; exact k2B (by kernel_rfl)) trivial fun g3 t2 L2 D6 => ?_
  have D7 := D6.toF (tk := t2) (T := kt (PX b1 b2 q)) (F := ((228, lstO #[.int x1 u1, .int x2 u2, .int x3 u3] 3) :: (R - 26, lstO ((ms0 R).map Value.ref).toArray n) :: Fv) ++ (jF (PX b1 b2 q) (ja1 (R + 2)) ((ms0 R).getD p0 0) ((ms0 R).getD (p0 + 1) 0) (wA x1) (wB x1) τ1 ++ ((R + 98, lstO ((msN (ms0 R) p0 (R + 93)).map Value.ref).toArray 0) :: jlC (R + 92) Uc :: (kC (PX b1 b2 q) (ka1 (R + 20)) (R + 19) T1 ++ (kcdF (R + 20) U ++ [kc7 (R + 20) U, kc6 (R + 20) U]))))) (Z := rdZ (PX b1 b2 q) R tk (R + 98) x2 u2 2) (B := [(16, tableObj #[.int 4 0, .int 4 0, .ref (R + 27)]), (72, x72), (86, tableObj #[.int 74 0, .int 28 0, .ref (R + 92)]), (105, x105)]) (nx := R + 99) [0,1] (by generalize b1 = b; revert b hR; generalize R = i; revert i; exact k2B (by kernel_rfl)) (by generalize b1 = b; revert b hR; generalize R = i; revert i; exact k2B (by kernel_rfl)) rfl
  have D8 := D7.toXe (tk := t2) (F0 := []) (Fx := ((228, lstO #[.int x1 u1, .int x2 u2, .int x3 u3] 3) :: (R - 26, lstO ((ms0 R).map Value.ref).toArray n) :: Fv) ++ (jF (PX b1 b2 q) (ja1 (R + 2)) ((ms0 R).getD p0 0) ((ms0 R).getD (p0 + 1) 0) (wA x1) (wB x1) τ1 ++ ((R + 98, lstO ((msN (ms0 R) p0 (R + 93)).map Value.ref).toArray 0) :: jlC (R + 92) Uc :: (kC (PX b1 b2 q) (ka1 (R + 20)) (R + 19) T1 ++ (kcdF (R + 20) U ++ [kc7 (R + 20) U, kc6 (R + 20) U]))))) (T := kt (PX b1 b2 q)) (F := rdZ (PX b1 b2 q) R tk (R + 98) x2 u2 2) (Z := []) (B := [(16, tableObj #[.int 4 0, .int 4 0, .ref (R + 27)]), (72, x72), (86, tableObj #[.int 74 0, .int 28 0, .ref (R + 92)]), (105, x105)]) (nx := R + 99) [1,4] [] rfl rfl rfl
  have E2 := D8.perm (F := (R + 98, lstO ((msN (ms0 R) p0 (R + 93)).map Value.ref).toArray 0) :: jlC (R + 92) Uc :: (rdZ (PX b1 b2 q) R tk (R + 98) x2 u2 2 ++ (((228, lstO #[.int x1 u1, .int x2 u2, .int x3 u3] 3) :: (R - 26, lstO ((ms0 R).map Value.ref).toArray n) :: Fv) ++ (jF (PX b1 b2 q) (ja1 (R + 2)) ((ms0 R).getD p0 0) ((ms0 R).getD (p0 + 1) 0) (wA x1) (wB x1) τ1 ++ ((R + 98, lstO ((msN (ms0 R) p0 (R + 93)).map Value.ref).toArray 0) :: jlC (R + 92) Uc :: (kC (PX b1 b2 q) (ka1 (R + 20)) (R + 19) T1 ++ (kcdF (R + 20) U ++ [kc7 (R + 20) U, kc6 (R + 20) U]))))))) (by trivial)
  obtain ⟨a, b, c, e1⟩ := ms1_three R p0 (R + 93) hp0
  refine joined2 (nn := nn + 40) L2 hw (M := R + 20) (J := R + 99) (cd := R + 92) (ms := (msN (ms0 R) p0 (R + 93))) (.inl ⟨e1, hp1, rdA hR⟩) (U := U) (by trivial) (by trivial) (by rw [e1]; exact h2) E2 fun g4 k2 T2 τ2 D9 => ?_
  have D9' : Rep h₀ ⟨kt (PX b1 b2 q), (jF (PX b1 b2 q) (ja2 (R + 20) (R + 92) (R + 99)) ((msN (ms0 R) p0 (R + 93)).getD p1 0) ((msN (ms0 R) p0 (R + 93)).getD (p1 + 1) 0) (wA x2) (wB x2) τ2 ++ ((R + 150, lstO ((msN (msN (ms0 R) p0 (R + 93)) p1 (R + 145)).map Value.ref).toArray 0) :: kC (PX b1 b2 q) (ka2 (R + 20) (R + 117)) (R + 116) T2)) ++ (rdZ (PX b1 b2 q) R tk (R + 98) x2 u2 2 ++ (((228, lstO #[.int x1 u1, .int x2 u2, .int x3 u3] 3) :: (R - 26, lstO ((ms0 R).map Value.ref).toArray n) :: Fv) ++ (jF (PX b1 b2 q) (ja1 (R + 2)) ((ms0 R).getD p0 0) ((ms0 R).getD (p0 + 1) 0) (wA x1) (wB x1) τ1 ++ ((R + 98, lstO ((msN (ms0 R) p0 (R + 93)).map Value.ref).toArray 0) :: jlC (R + 92) Uc :: (kC (PX b1 b2 q) (ka1 (R + 20)) (R + 19) T1 ++ (kcdF (R + 20) U ++ [kc7 (R + 20) U, kc6 (R + 20) U])))))), [], [(16, tableObj #[.int 4 0, .int 4 0, .ref (R + 27)]), (72, x72), (86, tableObj #[.int 74 0, .int 28 0, .ref (R + 92)]), (105, x105)], R + 151, 0⟩ g4 := D9
  have D10 := Rep.reK (tk := 0) (Fk := (jF (PX b1 b2 q) (ja2 (R + 20) (R + 92) (R + 99)) ((msN (ms0 R) p0 (R + 93)).getD p1 0) ((msN (ms0 R) p0 (R + 93)).getD (p1 + 1) 0) (wA x2) (wB x2) τ2 ++ ((R + 150, lstO ((msN (msN (ms0 R) p0 (R + 93)) p1 (R + 145)).map Value.ref).toArray 0) :: kC (PX b1 b2 q) (ka2 (R + 20) (R + 117)) (R + 116) T2))) D7 D9' [3 * 21, 3 * 22] rfl rfl (Z := rdZ (PX b1 b2 q) R tk (R + 98) x2 u2 2) rfl rfl (by revert hR; generalize R = i; revert i; exact kD2 (by kernel_rfl))
  refine back (V := VR9 (PX b1 b2 q) prog) L hP 100000 0 [1,0,1,0,4,0,4,0,4,0,4,0,0,0,4,0,4,0,1,0,1,0,1,0,1,0,1,1] (tk := k2) D10 ?_
  refine good_holeT (n := nn + 160) L (c := .call (.ref 91) ⟨[.ref (R + 150), .int x3 u3], []⟩) (pp := []) (by generalize b1 = b; revert b hR; generalize R = i; revert i; exact k2B (by kernel_rfl)) trivial fun g5 t3 L3 D11 => ?_
  have D12 := D11.toF (tk := t3) (T := kt (PX b1 b2 q)) (F := ((228, lstO #[.int x1 u1, .int x2 u2, .int x3 u3] 3) :: (R - 26, lstO ((ms0 R).map Value.ref).toArray n) :: Fv) ++ (jF (PX b1 b2 q) (ja1 (R + 2)) ((ms0 R).getD p0 0) ((ms0 R).getD (p0 + 1) 0) (wA x1) (wB x1) τ1 ++ ((R + 98, lstO ((msN (ms0 R) p0 (R + 93)).map Value.ref).toArray 0) :: jlC (R + 92) Uc :: (kC (PX b1 b2 q) (ka1 (R + 20)) (R + 19) T1 ++ (kcdF (R + 20) U ++ [kc7 (R + 20) U, kc6 (R + 20) U])))) ++ (jF (PX b1 b2 q) (ja2 (R + 20) (R + 92) (R + 99)) ((msN (ms0 R) p0 (R + 93)).getD p1 0) ((msN (ms0 R) p0 (R + 93)).getD (p1 + 1) 0) (wA x2) (wB x2) τ2 ++ ((R + 150, lstO ((msN (msN (ms0 R) p0 (R + 93)) p1 (R + 145)).map Value.ref).toArray 0) :: kC (PX b1 b2 q) (ka2 (R + 20) (R + 117)) (R + 116) T2))) (Z := rdZ (PX b1 b2 q) R tk (R + 150) x3 u3 3) (B := [(16, tableObj #[.int 4 0, .int 4 0, .ref (R + 27)]), (72, x72), (86, tableObj #[.int 74 0, .int 28 0, .ref (R + 92)]), (105, x105)]) (nx := R + 151) [0,1] (by generalize b1 = b; revert b hR; generalize R = i; revert i; exact k2B (by kernel_rfl)) (by generalize b1 = b; revert b hR; generalize R = i; revert i; exact k2B (by kernel_rfl)) rfl
  have D13 := D12.toXe (tk := t3) (F0 := []) (Fx := ((228, lstO #[.int x1 u1, .int x2 u2, .int x3 u3] 3) :: (R - 26, lstO ((ms0 R).map Value.ref).toArray n) :: Fv) ++ (jF (PX b1 b2 q) (ja1 (R + 2)) ((ms0 R).getD p0 0) ((ms0 R).getD (p0 + 1) 0) (wA x1) (wB x1) τ1 ++ ((R + 98, lstO ((msN (ms0 R) p0 (R + 93)).map Value.ref).toArray 0) :: jlC (R + 92) Uc :: (kC (PX b1 b2 q) (ka1 (R + 20)) (R + 19) T1 ++ (kcdF (R + 20) U ++ [kc7 (R + 20) U, kc6 (R + 20) U])))) ++ (jF (PX b1 b2 q) (ja2 (R + 20) (R + 92) (R + 99)) ((msN (ms0 R) p0 (R + 93)).getD p1 0) ((msN (ms0 R) p0 (R + 93)).getD (p1 + 1) 0) (wA x2) (wB x2) τ2 ++ ((R + 150, lstO ((msN (msN (ms0 R) p0 (R + 93)) p1 (R + 145)).map Value.ref).toArray 0) :: kC (PX b1 b2 q) (ka2 (R + 20) (R + 117)) (R + 116) T2))) (T := kt (PX b1 b2 q)) (F := rdZ (PX b1 b2 q) R tk (R + 150) x3 u3 3) (Z := []) (B := [(16, tableObj #[.int 4 0, .int 4 0, .ref (R + 27)]), (72, x72), (86, tableObj #[.int 74 0, .int 28 0, .ref (R + 92)]), (105, x105)]) (nx := R + 151) [1,4] [] rfl rfl rfl
  have E3 := D13.perm (F := (R + 150, lstO ((msN (msN (ms0 R) p0 (R + 93)) p1 (R + 145)).map Value.ref).toArray 0) :: jlC (R + 92) Uc :: (rdZ (PX b1 b2 q) R tk (R + 150) x3 u3 3 ++ (((228, lstO #[.int x1 u1, .int x2 u2, .int x3 u3] 3) :: (R - 26, lstO ((ms0 R).map Value.ref).toArray n) :: Fv) ++ (jF (PX b1 b2 q) (ja1 (R + 2)) ((ms0 R).getD p0 0) ((ms0 R).getD (p0 + 1) 0) (wA x1) (wB x1) τ1 ++ ((R + 98, lstO ((msN (ms0 R) p0 (R + 93)).map Value.ref).toArray 0) :: jlC (R + 92) Uc :: (kC (PX b1 b2 q) (ka1 (R + 20)) (R + 19) T1 ++ (kcdF (R + 20) U ++ [kc7 (R + 20) U, kc6 (R + 20) U])))) ++ (jF (PX b1 b2 q) (ja2 (R + 20) (R + 92) (R + 99)) ((msN (ms0 R) p0 (R + 93)).getD p1 0) ((msN (ms0 R) p0 (R + 93)).getD (p1 + 1) 0) (wA x2) (wB x2) τ2 ++ ((R + 150, lstO ((msN (msN (ms0 R) p0 (R + 93)) p1 (R + 145)).map Value.ref).toArray 0) :: kC (PX b1 b2 q) (ka2 (R + 20) (R + 117)) (R + 116) T2))))) (by trivial)
  obtain ⟨a', b', e2⟩ := ms2_two (msN (ms0 R) p0 (R + 93)) p1 (R + 145) ⟨a, b, c, e1⟩ hp1
  have e0 : x3.fmod 1 = (0 : Nat) := (mod_cases x3).2.2
  refine joined2 (nn := nn + 40) L3 hw (M := R + 20) (J := R + 151) (cd := R + 92) (p := 0) (m2 := 0) (ms := (msN (msN (ms0 R) p0 (R + 93)) p1 (R + 145))) (.inr ⟨e2, rfl, rdB hR⟩) (U := U) (by trivial) (by trivial) (by rw [e2]; exact e0) E3 fun g6 k3 T3 τ3 D14 => ?_
  have e3 : msN (msN (msN (ms0 R) p0 (R + 93)) p1 (R + 145)) 0 (R + 197) = [R + 197] := by rw [e2]; rfl
  have D14' : Rep h₀ ⟨kt (PX b1 b2 q), (jF (PX b1 b2 q) (ja2 (R + 20) (R + 92) (R + 151)) ((msN (msN (ms0 R) p0 (R + 93)) p1 (R + 145)).getD 0 0) ((msN (msN (ms0 R) p0 (R + 93)) p1 (R + 145)).getD (0 + 1) 0) (wA x3) (wB x3) τ3 ++ ((R + 202, lstO ((msN (msN (msN (ms0 R) p0 (R + 93)) p1 (R + 145)) 0 (R + 197)).map Value.ref).toArray 0) :: kC (PX b1 b2 q) (ka2 (R + 20) (R + 169)) (R + 168) T3)) ++ (rdZ (PX b1 b2 q) R tk (R + 150) x3 u3 3 ++ (((228, lstO #[.int x1 u1, .int x2 u2, .int x3 u3] 3) :: (R - 26, lstO ((ms0 R).map Value.ref).toArray n) :: Fv) ++ (jF (PX b1 b2 q) (ja1 (R + 2)) ((ms0 R).getD p0 0) ((ms0 R).getD (p0 + 1) 0) (wA x1) (wB x1) τ1 ++ ((R + 98, lstO ((msN (ms0 R) p0 (R + 93)).map Value.ref).toArray 0) :: jlC (R + 92) Uc :: (kC (PX b1 b2 q) (ka1 (R + 20)) (R + 19) T1 ++ (kcdF (R + 20) U ++ [kc7 (R + 20) U, kc6 (R + 20) U])))) ++ (jF (PX b1 b2 q) (ja2 (R + 20) (R + 92) (R + 99)) ((msN (ms0 R) p0 (R + 93)).getD p1 0) ((msN (ms0 R) p0 (R + 93)).getD (p1 + 1) 0) (wA x2) (wB x2) τ2 ++ ((R + 150, lstO ((msN (msN (ms0 R) p0 (R + 93)) p1 (R + 145)).map Value.ref).toArray 0) :: kC (PX b1 b2 q) (ka2 (R + 20) (R + 117)) (R + 116) T2)))), [], [(16, tableObj #[.int 4 0, .int 4 0, .ref (R + 27)]), (72, x72), (86, tableObj #[.int 74 0, .int 28 0, .ref (R + 92)]), (105, x105)], R + 203, 0⟩ g6 := D14
  rw [e3] at D14'
  have D15 := Rep.reK (tk := 0) (Fk := (jF (PX b1 b2 q) (ja2 (R + 20) (R + 92) (R + 151)) ((msN (msN (ms0 R) p0 (R + 93)) p1 (R + 145)).getD 0 0) ((msN (msN (ms0 R) p0 (R + 93)) p1 (R + 145)).getD (0 + 1) 0) (wA x3) (wB x3) τ3 ++ ((R + 202, lstO #[.ref (R + 197)] 0) :: kC (PX b1 b2 q) (ka2 (R + 20) (R + 169)) (R + 168) T3))) D12 D14' [3 * 21, 3 * 22] rfl rfl (Z := rdZ (PX b1 b2 q) R tk (R + 150) x3 u3 3) rfl rfl (by revert hR; generalize R = i; revert i; exact kD2 (by kernel_rfl))
  refine back (V := VR9 (PX b1 b2 q) prog) L hP 100000 0 (hz [1,1,4,4,4,4,0,4,4,10,1]) (tk := k3) D15 ?_
  refine good_done (r := .ok (.ret (.ref (R + 202)))) (pp := []) (by generalize b1 = b; revert b hR; generalize R = i; revert i; exact k2B (by kernel_rfl)) trivial fun g7 D16 => ?_
  have D17 := D16.toXe (tk := 0) (F0 := []) (Fx := ((228, lstO #[.int x1 u1, .int x2 u2, .int x3 u3] 3) :: (R - 26, lstO ((ms0 R).map Value.ref).toArray n) :: Fv) ++ (jF (PX b1 b2 q) (ja1 (R + 2)) ((ms0 R).getD p0 0) ((ms0 R).getD (p0 + 1) 0) (wA x1) (wB x1) τ1 ++ ((R + 98, lstO ((msN (ms0 R) p0 (R + 93)).map Value.ref).toArray 0) :: jlC (R + 92) Uc :: (kC (PX b1 b2 q) (ka1 (R + 20)) (R + 19) T1 ++ (kcdF (R + 20) U ++ [kc7 (R + 20) U, kc6 (R + 20) U])))) ++ (jF (PX b1 b2 q) (ja2 (R + 20) (R + 92) (R + 99)) ((msN (ms0 R) p0 (R + 93)).getD p1 0) ((msN (ms0 R) p0 (R + 93)).getD (p1 + 1) 0) (wA x2) (wB x2) τ2 ++ ((R + 150, lstO ((msN (msN (ms0 R) p0 (R + 93)) p1 (R + 145)).map Value.ref).toArray 0) :: kC (PX b1 b2 q) (ka2 (R + 20) (R + 117)) (R + 116) T2)) ++ (jF (PX b1 b2 q) (ja2 (R + 20) (R + 92) (R + 151)) ((msN (msN (ms0 R) p0 (R + 93)) p1 (R + 145)).getD 0 0) ((msN (msN (ms0 R) p0 (R + 93)) p1 (R + 145)).getD (0 + 1) 0) (wA x3) (wB x3) τ3 ++ ((R + 202, lstO #[.ref (R + 197)] 0) :: kC (PX b1 b2 q) (ka2 (R + 20) (R + 169)) (R + 168) T3))) (T := kt (PX b1 b2 q)) (F := []) (Z := []) (B := [(16, tableObj #[.int 4 0, .int 4 0, .ref (R + 27)]), (72, x72), (86, tableObj #[.int 74 0, .int 28 0, .ref (R + 92)]), (105, x105)]) (nx := R + 205) [] [] (by generalize b1 = b; revert b hR; generalize R = i; revert i; exact k2B (by kernel_rfl)) (by generalize b1 = b; revert b hR; generalize R = i; revert i; exact k2B (by kernel_rfl)) rfl
  refine H g7 _ T1 τ1 T2 τ2 T3 τ3 U Uc (D17.perm (by trivial))
end
end Mine
namespace Mine
open PySem PySem.W PySem.W.X PySem.Spec PySem.Calls PyProof.Rows
open PySem.W.Fast
noncomputable def memR6 (n : Nat) : Bool := n == 30 || n == 91
noncomputable def VS6 (P : Params) (prog : Program) : Env9 := ⟨⟨prog, P⟩, fun c => match c with
  | .call (.ref n) _ => memR6 n
  | .call (.builtin s) _ => memS s ["list.sort", "list.__new__"]
  | _ => false⟩
noncomputable def llE : Expr := retE (inSt (stAt 9) 0)
noncomputable def llO (cell ct cd : Nat) : Obj := { cls := .type "function", data := .func { name := Str.ofString "<lambda>", qualname := Str.ofString "_law_leaf.<locals>.<lambda>", params := laA llE, body := .expr (laB llE), scope := laS llE, globals := 3, closure := [(Str.ofString "column", cell)], defaults := .none, kwdefaults := .none, doc := .none, pyModule := .str (Str.ofString "law_mq0115_01") 255, code := .ref cd, closureTuple := .ref ct, builtins := 0 } }
noncomputable def llC (cd U : Nat) : Addr × Obj := (cd, { cls := .type "code", data := .fields #[.str (Str.ofString "<lambda>") (U + 1), .str (Str.ofString "_law_leaf.<locals>.<lambda>") (U + 2), .str (Str.ofString "/claim/cut.py") (U + 3), .int 65 0, .int 1 0, .int 0 0, .int 0 0, .int 19 0, .ref (cd - 5), .bool true, .int 181 0, .ref (cd - 4), .none, .ref (cd - 3), .ref (cd - 2), .ref (cd - 1), .int ((U + 6 : Nat) : Int) 0, .int 65 0, .str (Str.ofString "/claim/cut.py") (U + 7)] })
noncomputable def lfF (S U : Nat) (c1 c2 c3 c4 : Int) (v1 v2 v3 v4 : Nat) : Facts := [(S + 4, celO (some (.int c1 v1))), llC (S + 11) U, (S + 12, llO (S + 4) (S + 5) (S + 11)), (S + 14, celO (some (.int c2 v2))), (S + 16, llO (S + 14) (S + 15) (S + 11)), (S + 18, celO (some (.int c3 v3))), (S + 20, llO (S + 18) (S + 19) (S + 11)), (S + 22, celO (some (.int c4 v4))), (S + 24, llO (S + 22) (S + 23) (S + 11))]
noncomputable def jFR (P : Params) (R p0 p1 : Nat) (x1 x2 x3 : Int) (T1 τ1 T2 τ2 T3 τ3 : Nat → Nat) (U Uc : Nat) : Facts :=
  (jF P (ja2 (R + 20) (R + 92) (R + 151)) ((msN (msN (ms0 R) p0 (R + 93)) p1 (R + 145)).getD 0 0) ((msN (msN (ms0 R) p0 (R + 93)) p1 (R + 145)).getD (0 + 1) 0) (wA x3) (wB x3) τ3 ++ ((R + 202, lstO #[.ref (R + 197)] 0) :: kC P (ka2 (R + 20) (R + 169)) (R + 168) T3)) ++ ((jF P (ja2 (R + 20) (R + 92) (R + 99)) ((msN (ms0 R) p0 (R + 93)).getD p1 0) ((msN (ms0 R) p0 (R + 93)).getD (p1 + 1) 0) (wA x2) (wB x2) τ2 ++ ((R + 150, lstO ((msN (msN (ms0 R) p0 (R + 93)) p1 (R + 145)).map Value.ref).toArray 0) :: kC P (ka2 (R + 20) (R + 117)) (R + 116) T2)) ++ (jF P (ja1 (R + 2)) ((ms0 R).getD p0 0) ((ms0 R).getD (p0 + 1) 0) (wA x1) (wB x1) τ1 ++ ((R + 98, lstO ((msN (ms0 R) p0 (R + 93)).map Value.ref).toArray 0) :: jlC (R + 92) Uc :: (kC P (ka1 (R + 20)) (R + 19) T1 ++ (kcdF (R + 20) U ++ [kc7 (R + 20) U, kc6 (R + 20) U])))))
section
variable {prog : Program} {w : World} {A : Around} {Q : Flow → Shared → Prop} {E : Value → Shared → Prop} {h₀ h : Heap} {g : Array GenState} {d : Drawn} {tk : Nat} {os : OsState} {b1 b2 : Bool} {q : Params} {Fv : Facts} {x105 : Obj} {X0 e0 e1 e2 e3 e4 DU ML : Nat}
theorem law_s6 {nn : Nat} (L : Deep (nn + 220) A) (hw : w.params = PX b1 b2 q) {S : Nat} (hS : S = 611 ∨ S = 614) {c1 c2 c3 c4 x1 x2 x3 : Int} {v1 v2 v3 v4 w1 w2 w3 p0 p1 : Nat} (hp0 : p0 = 0 ∨ p0 = 1 ∨ p0 = 2) (hp1 : p1 = 0 ∨ p1 = 1)
    (h1 : x1.fmod 3 = p0) (h2 : x2.fmod 2 = p1) (hC : (218, lstO #[.int c1 v1, .int c2 v2, .int c3 v3, .int c4 v4] 4) ∈ Fv) (hJ : (228, lstO #[.int x1 w1, .int x2 w2, .int x3 w3] 3) ∈ Fv)
    (D : Rep h₀ ⟨kt (PX b1 b2 q), Fv, [fr5 (PX b1 b2 q) X0 e0 e1 e2 e3 DU e4, ce 111 115, (112, celO none), ce 113 ML], [(16, tableObj #[]), (72, tableObj #[]), (86, tableObj #[]), (105, x105)], S, tk⟩ h)
    (H : ∀ h' tk' (T1 τ1 T2 τ2 T3 τ3 : Nat → Nat) (U Uc Ul : Nat), Rep h₀ ⟨kt (PX b1 b2 q), jFR (PX b1 b2 q) (S + 27) p0 p1 x1 x2 x3 T1 τ1 T2 τ2 T3 τ3 U Uc ++ (lfF S Ul c1 c2 c3 c4 v1 v2 v3 v4 ++ Fv), [fr5 (PX b1 b2 q) X0 e0 e1 e2 e3 DU e4, ce 111 115, ce 112 (S + 224), ce 113 ML], [(16, tableObj #[.int 4 0, .int 4 0, .ref (S + 54)]), (72, tableObj #[.int 65 0, .int 11 0, .ref (S + 11)]), (86, tableObj #[.int 74 0, .int 28 0, .ref (S + 119)]), (105, x105)], S + 232, 0⟩ h' → Q .next ⟨h', g, d, tk', os⟩) :
    wpAny (model prog w) A (execs [lawS 6] (lawEnv 110)) Q E ⟨h, g, d, tk, os⟩ := by
  have hP : (VS6 (PX b1 b2 q) prog).P = ⟨prog, w.params⟩ := by rw [hw]; rfl
  have D0 := D.perm (F := ((218, lstO #[.int c1 v1, .int c2 v2, .int c3 v3, .int c4 v4] 4) :: (228, lstO #[.int x1 w1, .int x2 w2, .int x3 w3] 3) :: Fv)) (fun p hp => by
    rcases List.mem_cons.mp hp with rfl | hp
    · exact hC
    · rcases List.mem_cons.mp hp with rfl | hp
      · exact hJ
      · exact hp)
  refine piece_block (V := VS6 (PX b1 b2 q) prog) L hP 100000 2 (cond b2 [1,0,1,0,0,0,0,0,0,0,13,0,13,0,13,0,13,0,13,0,0,0,13,0,13,0,19,0,19,1,19,3,25,0,25,2,5,0,5,0,5,0,5,3,16,0,16,0,16,0,16,0,13,0,13,0,13,0,13,0,0,0,13,0,13,0,19,0,19,1,19,3,55,0,55,2,5,3,16,0,16,0,16,0,16,0,13,0,13,0,13,0,13,0,0,0,13,0,13,0,19,0,19,1,19,3,67,0,67,2,5,3,16,0,16,0,16,0,16,0,13,0,13,0,13,0,13,0,0,0,13,0,13,0,19,0,19,1,19,3,79,0,79,2,5,3,16,0,16,0,16,0,16,0,13,0,13,0,13,0,13,0,0,0,13,0,13,0,91,0,19,0,19,0,19,1] [1,0,1,0,0,0,0,0,0,0,13,0,13,0,13,0,13,0,13,0,13,0,13,0,13,0,13,0,0,0,13,0,13,0,19,0,19,1,19,3,25,0,25,2,5,0,5,0,5,0,5,3,16,0,16,0,16,0,16,0,13,0,13,0,13,0,13,0,0,0,13,0,13,0,19,0,19,1,19,3,55,0,55,2,5,3,16,0,16,0,16,0,16,0,13,0,13,0,13,0,13,0,0,0,13,0,13,0,19,0,19,1,19,3,67,0,67,2,5,3,16,0,16,0,16,0,16,0,13,0,13,0,13,0,13,0,0,0,13,0,13,0,19,0,19,1,19,3,79,0,79,2,5,3,16,0,16,0,16,0,16,0,13,0,13,0,13,0,13,0,0,0,13,0,13,0,91,0,19,0,19,0,19,1]) D0 ?_
  refine good_holeT (n := nn + 200) L (c := .call (.ref 30) ⟨[.ref 91, .ref 228, .ref (S + 1)], []⟩) (pp := []) (by generalize b1 = b; generalize b2 = c; revert b c hS; generalize S = i; revert i; exact k2BB (by kernel_rfl)) trivial fun g1 t1 L1 D1 => ?_
  have D2 := D1.toF (tk := t1) (T := kt (PX b1 b2 q)) (F := ((218, lstO #[.int c1 v1, .int c2 v2, .int c3 v3, .int c4 v4] 4) :: (228, lstO #[.int x1 w1, .int x2 w2, .int x3 w3] 3) :: Fv)) (Z := [fr5 (PX b1 b2 q) X0 e0 e1 e2 e3 DU e4, ce 111 115, (112, celO none), ce 113 ML, (S + 1, lstO #[.ref (S + 12), .ref (S + 16), .ref (S + 20), .ref (S + 24)] 4)] ++ lfF S tk c1 c2 c3 c4 v1 v2 v3 v4) (B := [(16, tableObj #[]), (72, tableObj #[.int 65 0, .int 11 0, .ref (S + 11)]), (86, tableObj #[]), (105, x105)]) (nx := S + 27) [0,1,2,3,5,8,15,16,18,20,22,24,26,28] (by generalize b1 = b; generalize b2 = c; revert b c hS; generalize S = i; revert i; exact k2BB (by kernel_rfl)) (by generalize b1 = b; generalize b2 = c; revert b c hS; generalize S = i; revert i; exact k2BB (by kernel_rfl)) rfl
  have D3 := D2.toXe (tk := t1) (F0 := []) (Fx := ((218, lstO #[.int c1 v1, .int c2 v2, .int c3 v3, .int c4 v4] 4) :: (228, lstO #[.int x1 w1, .int x2 w2, .int x3 w3] 3) :: Fv)) (T := kt (PX b1 b2 q)) (F := [fr5 (PX b1 b2 q) X0 e0 e1 e2 e3 DU e4, ce 111 115, (112, celO none), ce 113 ML, (S + 1, lstO #[.ref (S + 12), .ref (S + 16), .ref (S + 20), .ref (S + 24)] 4)] ++ lfF S tk c1 c2 c3 c4 v1 v2 v3 v4) (Z := []) (B := [(16, tableObj #[]), (72, tableObj #[.int 65 0, .int 11 0, .ref (S + 11)]), (86, tableObj #[]), (105, x105)]) (nx := S + 27) [1,4,7,10,13,16,19,22,25,28,31,34,37,40] [] rfl rfl rfl
  have E1 := D3.perm (F := (228, lstO #[.int x1 w1, .int x2 w2, .int x3 w3] 3) :: (S + 1, lstO #[.ref (S + 12), .ref (S + 16), .ref (S + 20), .ref (S + 24)] 4) :: ([fr5 (PX b1 b2 q) X0 e0 e1 e2 e3 DU e4, ce 111 115, (112, celO none), ce 113 ML, (S + 1, lstO #[.ref (S + 12), .ref (S + 16), .ref (S + 20), .ref (S + 24)] 4)] ++ lfF S tk c1 c2 c3 c4 v1 v2 v3 v4 ++ ((218, lstO #[.int c1 v1, .int c2 v2, .int c3 v3, .int c4 v4] 4) :: (228, lstO #[.int x1 w1, .int x2 w2, .int x3 w3] 3) :: Fv))) (by trivial)
  refine reduce_spec (nn := nn + 20) L1 hw (R := S + 27) (hS.imp (congrArg (· + 27)) (congrArg (· + 27))) hp0 hp1 h1 h2 E1 fun g2 k2 T1 τ1 T2 τ2 T3 τ3 U Uc D4 => ?_
  have D5 := D4.perm (F := (jFR (PX b1 b2 q) (S + 27) p0 p1 x1 x2 x3 T1 τ1 T2 τ2 T3 τ3 U Uc) ++ ([fr5 (PX b1 b2 q) X0 e0 e1 e2 e3 DU e4, ce 111 115, (112, celO none), ce 113 ML, (S + 1, lstO #[.ref (S + 12), .ref (S + 16), .ref (S + 20), .ref (S + 24)] 4)] ++ lfF S tk c1 c2 c3 c4 v1 v2 v3 v4 ++ ((218, lstO #[.int c1 v1, .int c2 v2, .int c3 v3, .int c4 v4] 4) :: (228, lstO #[.int x1 w1, .int x2 w2, .int x3 w3] 3) :: Fv))) (by unfold jFR; trivial)
  have D6 := Rep.reK (tk := 0) (Fk := jFR (PX b1 b2 q) (S + 27) p0 p1 x1 x2 x3 T1 τ1 T2 τ2 T3 τ3 U Uc) D2 D5 [216,219,222,225,228,231,234,237,240,243,246,249,252,255] rfl rfl (Z := [fr5 (PX b1 b2 q) X0 e0 e1 e2 e3 DU e4, ce 111 115, (112, celO none), ce 113 ML, (S + 1, lstO #[.ref (S + 12), .ref (S + 16), .ref (S + 20), .ref (S + 24)] 4)] ++ lfF S tk c1 c2 c3 c4 v1 v2 v3 v4) rfl rfl (by revert hS; generalize S = i; revert i; exact kD2 (by kernel_rfl))
  have D7 := D6.perm (F := (S + 229, lstO #[.ref (S + 224)] 0) :: (jFR (PX b1 b2 q) (S + 27) p0 p1 x1 x2 x3 T1 τ1 T2 τ2 T3 τ3 U Uc ++ ((218, lstO #[.int c1 v1, .int c2 v2, .int c3 v3, .int c4 v4] 4) :: (228, lstO #[.int x1 w1, .int x2 w2, .int x3 w3] 3) :: Fv))) (fun p hp => by
    rcases List.mem_cons.mp hp with rfl | hp
    · refine List.mem_append_right _ ?_
      unfold jFR
      exact List.mem_append_left _ (List.mem_append_right _ (.head _))
    · exact (List.mem_append.mp hp).elim (List.mem_append_right _) (List.mem_append_left _))
  refine back (V := VS6 (PX b1 b2 q) prog) L hP 100000 0 (hz [0,0,0,0,0,7,7]) (tk := k2) D7 ?_
  refine good_done (r := .ok .next) (pp := []) (by generalize b1 = b; generalize b2 = c; revert b c hS; generalize S = i; revert i; exact k2BB (by kernel_rfl)) trivial fun g3 D8 => ?_
  have D9 := D8.toXe (tk := 0) (F0 := [(S + 229, lstO #[.ref (S + 224)] 0)]) (Fx := jFR (PX b1 b2 q) (S + 27) p0 p1 x1 x2 x3 T1 τ1 T2 τ2 T3 τ3 U Uc ++ ((218, lstO #[.int c1 v1, .int c2 v2, .int c3 v3, .int c4 v4] 4) :: (228, lstO #[.int x1 w1, .int x2 w2, .int x3 w3] 3) :: Fv)) (T := kt (PX b1 b2 q)) (F := lfF S tk c1 c2 c3 c4 v1 v2 v3 v4) (Z := [fr5 (PX b1 b2 q) X0 e0 e1 e2 e3 DU e4, ce 111 115, ce 112 (S + 224), ce 113 ML]) (B := [(16, tableObj #[.int 4 0, .int 4 0, .ref (S + 54)]), (72, tableObj #[.int 65 0, .int 11 0, .ref (S + 11)]), (86, tableObj #[.int 74 0, .int 28 0, .ref (S + 119)]), (105, x105)]) (nx := S + 232) [16,19,22,25,28,31,34,37,40] [0,1,2,3] (by generalize b1 = b; generalize b2 = c; revert b c hS; generalize S = i; revert i; exact k2BB (by kernel_rfl)) (by generalize b1 = b; generalize b2 = c; revert b c hS; generalize S = i; revert i; exact k2BB (by kernel_rfl)) rfl
  refine H g3 _ T1 τ1 T2 τ2 T3 τ3 U Uc tk (D9.perm (by trivial))
end
end Mine
namespace Mine
open PySem PySem.W PySem.W.X PySem.Spec PySem.Calls PyProof.Rows
open PySem.W.Fast
noncomputable def VL7 (P : Params) (prog : Program) : Env9 := ⟨⟨prog, P⟩, fun c => match c with
  | .call (.ref n) _ => Nat.beq n 21
  | .call (.builtin s) _ => memS s ["list.sort", "list.__new__"]
  | _ => false⟩
noncomputable def flF (P : Params) (B : Nat) (K : Keys) (τ : Nat) : Facts := [(B + 5, lstO #[.ref (B + 6), .ref (B + 7), .ref (B + 8), .ref (B + 9)] 6), (B + 6, tupV #[.int K.c0 K.t0, .int K.s0 K.u0]), (B + 7, tupV #[.int K.c1 K.t1, .int K.s1 K.u1]), (B + 8, tupV #[.int K.c2 K.t2, .int K.s2 K.u2]), (B + 9, tupV #[.int K.c3 K.t3, .int K.s3 K.u3]),
  (B + 12, { cls := .type "dict", data := .dict #[de P "comp_select_list" τ (.ref (B + 5))] 1 }), (B + 13, { cls := .ref 54, dict := some (B + 12), data := .plain })]
section
variable {prog : Program} {w : World} {A : Around} {Q : Flow → Shared → Prop} {E : Value → Shared → Prop} {h₀ h : Heap} {g : Array GenState} {d : Drawn} {tk : Nat} {os : OsState} {b1 b2 : Bool} {q : Params} {Fv Bt : Facts} {X0 e0 e1 e2 e3 e4 DU ML MK : Nat} {K : Keys}
theorem law_s7 {nn : Nat} (L : Deep (nn + 120) A) (hw : w.params = PX b1 b2 q) {S : Nat} (hS : S = 611 ∨ S = 614)
    (hC : (218, lstO #[.int K.c0 K.t0, .int K.c1 K.t1, .int K.c2 K.t2, .int K.c3 K.t3] 4) ∈ Fv) (hN : (256, lstO #[.int K.s0 K.u0, .int K.s1 K.u1, .int K.s2 K.u2, .int K.s3 K.u3] 0) ∈ Fv)
    (D : Rep h₀ ⟨kt (PX b1 b2 q), Fv, [fr5 (PX b1 b2 q) X0 e0 e1 e2 e3 DU e4, ce 111 115, ce 112 MK, ce 113 ML], Bt, S + 232, tk⟩ h)
    (H : ∀ h' tk' (τ e5 : Nat), Rep h₀ ⟨kt (PX b1 b2 q), flF (PX b1 b2 q) (S + 232) K τ ++ Fv, [fr6 (PX b1 b2 q) X0 e0 e1 e2 e3 DU e4 (S + 245) e5, ce 111 115, ce 112 MK, ce 113 ML], Bt, S + 247, 0⟩ h' → Q .next ⟨h', g, d, tk', os⟩) :
    wpAny (model prog w) A (execs [lawS 7] (lawEnv 110)) Q E ⟨h, g, d, tk, os⟩ := by
  have hP : (VL7 (PX b1 b2 q) prog).P = ⟨prog, w.params⟩ := by rw [hw]; rfl
  have D0 := D.perm (F := ((218, lstO #[.int K.c0 K.t0, .int K.c1 K.t1, .int K.c2 K.t2, .int K.c3 K.t3] 4) :: (256, lstO #[.int K.s0 K.u0, .int K.s1 K.u1, .int K.s2 K.u2, .int K.s3 K.u3] 0) :: Fv)) (fun p hp => by
    rcases List.mem_cons.mp hp with rfl | hp
    · exact hC
    · rcases List.mem_cons.mp hp with rfl | hp
      · exact hN
      · exact hp)
  refine piece_block (V := VL7 (PX b1 b2 q) prog) L hP 100000 5 (hz [1,1,0,0,0,13,3,3,3,16,25,25,25,25]) D0 ?_
  refine good_holeT (n := nn + 100) L (c := .call (.builtin "list.__new__") ⟨[.type "list", .ref (S + 236)], []⟩) (pp := []) (by generalize b1 = b; generalize b2 = c; revert b c hS; generalize S = i; revert i; exact k2BB (by kernel_rfl)) trivial fun h1 t1 L1 D1 => ?_
  have D2 := D1.toF (tk := t1) (T := kt (PX b1 b2 q)) (F := ((218, lstO #[.int K.c0 K.t0, .int K.c1 K.t1, .int K.c2 K.t2, .int K.c3 K.t3] 4) :: (256, lstO #[.int K.s0 K.u0, .int K.s1 K.u1, .int K.s2 K.u2, .int K.s3 K.u3] 0) :: Fv)) (Z := [fr5 (PX b1 b2 q) X0 e0 e1 e2 e3 DU e4, ce 111 115, ce 112 MK, ce 113 ML, (S + 232, litO 218 0), (S + 233, litO 256 0), (S + 234, tupV #[.ref (S + 232), .ref (S + 233)]), (S + 235, tupV #[.none, .none]), (S + 236, { cls := .type "zip", data := .fields #[.none, .bool false, .bool false, .ref (S + 234), .ref (S + 235)] })]) (B := Bt) (nx := S + 237) [0,1,2,3,4,5,6,7,8] (by generalize b1 = b; generalize b2 = c; revert b c hS; generalize S = i; revert i; exact k2BB (by kernel_rfl)) (by generalize b1 = b; generalize b2 = c; revert b c hS; generalize S = i; revert i; exact k2BB (by kernel_rfl)) rfl
  refine c_listnew ?_
  have z2 := D2.size
  dsimp only at z2 ⊢
  rw [z2]
  have D3 := D2.alloc (x := lstO #[] 0) rfl
  refine back (V := VL7 (PX b1 b2 q) prog) L hP 100000 0 [28,0,28,0,28,0,28,0,28,0,28,0,28,0,25,0,25,0,25,0,25,0,25,0,25,0,25,0,28,0,28,0,28,0,28,0,28,0,28,0,25,0,25,0,25,0,25,0,19,0,25,0,25,0,25,0,25,0,13,0,13,0,13,0,13,0,0,0,13,0,13,0,22,0,22,0,22,0,22,0,16,0,16,0,16,0,16,0,3,0,16,0,16,0,22,0,22,0,22,0,22,0,22,0,25,0,25,0,25,0,25,0,28,0,28,0,28,0,25,0,25,0,25,0,25,0,19,0,25,0,31,0,25,0,25,0,25,0,13,0,13,0,13,0,13,0,0,0,13,0,13,0,16,0,16,0,16,0,16,0,3,0,16,0,16,0,28,0,28,0,28,0,25,0,25,0,25,0,25,0,19,0,25,0,31,0,25,0,13,0,13,0,13,0,13,0,0,0,13,0,13,0,16,0,16,0,16,0,16,0,3,0,16,0,16,0,28,0,28,0,28,0,25,0,25,0,25,0,25,0,19,0,25,0,31,0,25,0,13,0,13,0,13,0,13,0,0,0,13,0,13,0,16,0,16,0,16,0,16,0,3,0,16,0,16,0,28,0,28,0,28,0,25,0,25,0,25,0,25,0,19,0,25,0,31,0,25,0,13,0,13,0,13,0,13,0,0,0,13,0,13,0,46,28,52,1,52,6,55,0,55,0,55,0,55,1,55,0,55,0,52,3,52,1,52,1,52,3,52,1,49,0,49,0,49,0,1,0,1,0] (tk := t1) D3 ?_
  refine good_done (r := .ok .next) (pp := []) (by generalize b1 = b; generalize b2 = c; revert b c hS; generalize S = i; revert i; exact k2BB (by kernel_rfl)) trivial fun g3 D8 => ?_
  have D9 := D8.toXe (tk := 0) (F0 := []) (Fx := ((218, lstO #[.int K.c0 K.t0, .int K.c1 K.t1, .int K.c2 K.t2, .int K.c3 K.t3] 4) :: (256, lstO #[.int K.s0 K.u0, .int K.s1 K.u1, .int K.s2 K.u2, .int K.s3 K.u3] 0) :: Fv)) (T := kt (PX b1 b2 q)) (F := flF (PX b1 b2 q) (S + 232) K (t1 + 3)) (Z := [fr6 (PX b1 b2 q) X0 e0 e1 e2 e3 DU e4 (S + 245) (t1 + 4), ce 111 115, ce 112 MK, ce 113 ML]) (B := Bt) (nx := S + 247) [28,31,34,37,40,49,52] [0,1,2,3] (by generalize b1 = b; generalize b2 = c; revert b c hS; generalize S = i; revert i; exact k2BB (by kernel_rfl)) (by generalize b1 = b; generalize b2 = c; revert b c hS; generalize S = i; revert i; exact k2BB (by kernel_rfl)) rfl
  refine H g3 _ (t1 + 3) (t1 + 4) (D9.perm (by trivial))
end
end Mine
namespace Mine
open PySem PySem.W PySem.W.X PySem.Spec PySem.Calls PyProof.Rows
open PySem.W.Fast
section
variable {prog : Program} {w : World} {A : Around} {R : Result → Shared → Prop} {s : Shared}
theorem execs_two {M : Model} {Γ : PySem.Ctx} {s1 s2 : Stmt} {rest : List Stmt} {env : Env} {Q : Flow → Pos → Shared → Prop} {E : Value → Pos → Shared → Prop} {p : Pos} {s : Shared}
    (h : Sem.wp M Γ (execs [s1, s2] env) (fun f p s => match f with | .next => Sem.wp M Γ (execs rest env) Q E p s | f => Q f p s) E p s) : Sem.wp M Γ (execs (s1 :: s2 :: rest) env) Q E p s := by
  rw [execs_cons, Sem.wp_bind'] at h ⊢
  refine Sem.wp_mono M Γ _ (fun f p s q => ?_) (fun _ _ _ q => q) _ _ h
  cases f with
  | next =>
    simp only at q ⊢
    rw [execs_cons, Sem.wp_bind'] at q ⊢
    refine Sem.wp_mono M Γ _ (fun f p s q => ?_) (fun _ _ _ q => q) _ _ q
    cases f <;> exact q
  | _ => exact q
noncomputable def cmPre (target : Expr) (it : Value) (s1 s2 : Stmt) (env : Env) : Sem (Option Flow) := do
  match ← pyNext it with
  | none => pure none
  | some v =>
    letOwnedTupleGo target it v
    assign target env v
    let f ← execs [s1, s2] env
    pure (some f)
noncomputable def encT : Option Flow → Flow
  | none => .cont
  | some .next => .next
  | some _ => .brk
theorem encT_next {a : Option Flow} (h : encT a = .next) : a = some .next := by
  unfold encT at h
  split at h <;> first | rfl | cases h
theorem encT_cont {a : Option Flow} (h : encT a = .cont) : a = none := by
  unfold encT at h
  split at h <;> first | rfl | cases h
noncomputable def cmPreT (target : Expr) (it : Value) (s1 s2 : Stmt) (env : Env) : Sem (Option Flow) := PySem.W.R.bindR (tw9404975358583537561 it) fun r => match r with
  | none => .pure none
  | some v => PySem.W.R.bindR (letOwnedTupleGo target it v) fun _ => PySem.W.R.bindR (tw17772580674575903948 target env v) fun _ => PySem.W.R.bindR (tw12563942051412417395 [s1, s2] env) fun f => .pure (some f)
theorem cmPre_eq (target : Expr) (it : Value) (s1 s2 : Stmt) (env : Env) : cmPre target it s1 s2 env = cmPreT target it s1 s2 env := by
  unfold cmPre cmPreT
  rw [← te9404975358583537561, ← te17772580674575903948, ← te12563942051412417395, ← PySem.W.R.bindR_eq]
  refine congrArg _ (funext fun r => ?_)
  cases r <;> rfl
theorem for_turnP {target : Expr} {it : Value} {s1 s2 : Stmt} {rest orelse : List Stmt} {env : Env}
    (h : wpAny (model prog w) (A.under (.forLoop target it (s1 :: s2 :: rest) orelse env)) (cmPre target it s1 s2 env) (fun f s => match f with
      | none => codeAny (model prog w) A (.block orelse env) R s
      | some .next => wpAny (model prog w) (A.under (.forLoop target it (s1 :: s2 :: rest) orelse env)) (execs rest env) (fun f s3 => match f with
        | .next => codeAny (model prog w) A (.forLoop target it (s1 :: s2 :: rest) orelse env) R s3
        | .ret v => R (.ok (.ret v)) s3
        | _ => False) (fun _ _ => False) s
      | _ => False) (fun _ _ => False) s) : codeAny (model prog w) A (.forLoop target it (s1 :: s2 :: rest) orelse env) R s := by
  refine codeAny_of_tree ?_
  show wpAny _ _ ((forTurn target it (s1 :: s2 :: rest) orelse env).onRaise (fun x => do noteFrame x env; theTreesLotGoes x)) _ _ s
  refine wpAny_onRaise ?_
  intro Γ p hΓ
  simp only [forTurn, Sem.wp_bind', Sem.wp_cmd_standAt, Sem.wp_onRaise]
  have y := h Γ target.pos hΓ
  unfold cmPre at y
  rw [Sem.wp_bind'] at y
  refine Sem.wp_mono _ Γ _ (fun r p s q => ?_) (fun _ _ _ q => q.elim) _ _ y
  cases r with
  | none =>
    have q' : codeAny (model prog w) A (.block orelse env) R s := q
    exact ⟨rfl, q'⟩
  | some v =>
    simp only [Sem.wp_bind'] at q ⊢
    refine Sem.wp_mono _ Γ _ (fun r p s q => ?_) (fun _ _ _ q => q.elim) _ _ q
    refine Sem.wp_mono _ Γ _ (fun r p s q => ?_) (fun _ _ _ q => q.elim) _ _ q
    refine execs_two (Sem.wp_mono _ Γ _ (fun f p s q => ?_) (fun _ _ _ q => q.elim) _ _ q)
    cases f with
    | next =>
      have q' : wpAny _ _ _ _ _ _ := q
      have q' := q' Γ p hΓ
      refine Sem.wp_mono _ Γ _ (fun f p s q => ?_) (fun _ _ _ q => q.elim) _ _ q'
      cases f with
      | next => exact ⟨rfl, q⟩
      | ret v => exact q
      | _ => exact q.elim
    | _ => exact q.elim
end
end Mine
namespace Mine
open PySem PySem.W PySem.W.X PySem.Spec PySem.Calls PyProof.Rows
open PySem.W.Fast
noncomputable def VF9 (P : Params) (prog : Program) : Env9 := ⟨⟨prog, P⟩, fun c => match c with
  | .forLoop .. => true
  | _ => false⟩
noncomputable abbrev cmFor : Stmt := inSt (inSt (stAt 5) 1) 0
noncomputable def cmEnv (N : Nat) : Env := { scope := sScope (inSt (stAt 5) 1), locals := N, globals := 3, cells := [], qual := Str.ofString "TupleComp.compare.<locals>.", func := some 51, code := .ref 50, frame := some N, builtins := 0 }
noncomputable abbrev cmSt (i : Nat) : Stmt := (forB cmFor).getD i (.Pass ⟨0, 0, 0, 0⟩)
set_option backward.match.sparseCases false in
noncomputable def ifT : Stmt → Expr
  | .If t _ _ _ => t
  | _ => .Constant .none 0 ⟨0, 0, 0, 0⟩
set_option backward.match.sparseCases false in
noncomputable def ifB : Stmt → List Stmt
  | .If _ b _ _ => b
  | _ => []
set_option backward.match.sparseCases false in
noncomputable def ifP : Stmt → Pos
  | .If _ _ _ p => p
  | _ => ⟨0, 0, 0, 0⟩
noncomputable def Asks (prog : Program) (w : World) (nn : Nat) (h : Heap) (op : CmpOp) (v v' : Value) (b : Bool) : Prop :=
  ∀ (A : Around) (g : Array GenState) (d : Drawn) (os : OsState) (h' : Heap) (tk : Nat) (Q : Value → Shared → Prop) (E : Value → Shared → Prop), Deep nn A → (∀ a o, h.get? a = some o → h'.get? a = some o) →
    (∀ h'' tk' n, Post h' h'' n [] → Q (.bool b) ⟨h'', g, d, tk', os⟩) → wpAny (model prog w) A (richCompare op v v') Q E ⟨h', g, d, tk, os⟩
theorem Asks.mono {prog : Program} {w : World} {nn nn' : Nat} {h h' : Heap} {op : CmpOp} {v v' : Value} {b : Bool} (a : Asks prog w nn h op v v' b) (hn : nn ≤ nn') (k : ∀ a o, h.get? a = some o → h'.get? a = some o) : Asks prog w nn' h' op v v' b :=
  fun A g d os h2 tk Q E L k2 H => a A g d os h2 tk Q E (L.less hn) (fun b o e => k2 _ _ (k _ _ e)) H
noncomputable def Kind2 (v v' : Value) : Prop := (∃ x t y u, v = .int x t ∧ v' = .int y u) ∨ (∃ x t y u, v = .str x t ∧ v' = .str y u) ∨ (∃ a b, v = .ref a ∧ v' = .ref b)
structure CmS where
  ix : Int
  it : Nat
  dr : Int
  dt : Nat
  l : Value
  r : Value
noncomputable def cmFrO (P : Params) (I T T' : Addr) (τ : Nat → Nat) : Option CmS → Obj
  | none => frO #[de P "self" (τ 0) (.ref I), de P "left" (τ 1) (.ref T), de P "right" (τ 2) (.ref T')] 3
  | some s => frO #[de P "self" (τ 0) (.ref I), de P "left" (τ 1) (.ref T), de P "right" (τ 2) (.ref T'), de P "index" (τ 3) (.int s.ix s.it), de P "direction" (τ 4) (.int s.dr s.dt), de P "l" (τ 5) s.l, de P "r" (τ 6) s.r] 7
noncomputable def cmTau (τ : Nat → Nat) (tk : Nat) : Option CmS → Nat → Nat
  | none => fun i => [τ 0, τ 1, τ 2, tk, tk + 1, tk + 2, tk + 3].getD i 0
  | some _ => τ
noncomputable def cmp1 (bl bg : Bool) (dr rest : Int) : Int := if bl then -dr else if bg then dr else rest
section
variable {prog : Program} {w : World} {A : Around} {h₀ h : Heap} {g : Array GenState} {d : Drawn} {tk : Nat} {os : OsState} {b1 b2 : Bool} {q : Params} {Fx : Facts} {N nx I T T' : Nat} {τ : Nat → Nat}
theorem Rep.andN {m : Mm} {h' : Heap} {n : Nat} (D : Rep h₀ m h) (P : Post h h' n []) : Rep h₀ { m with nx := n } h' := by
  have := D.and P
  rw [List.append_nil] at this
  exact this
theorem cpName {nn : Nat} (L : Deep nn A) (hw : w.params = PX b1 b2 q) {s : CmS} {io : Obj} {i : Nat} (hi : i = 2 ∨ i = 3) {Q : Value → Shared → Prop} {E : Value → Shared → Prop}
    (D : Rep h₀ ⟨kt (PX b1 b2 q), Fx, [(N, cmFrO (PX b1 b2 q) I T T' τ (some s)), (N + 1, io)], [], nx, tk⟩ h) :
    ((∀ h' tk', Rep h₀ ⟨kt (PX b1 b2 q), Fx, [(N, cmFrO (PX b1 b2 q) I T T' τ (some s)), (N + 1, io)], [], nx, 0⟩ h' → Q s.l ⟨h', g, d, tk', os⟩) → wpAny (model prog w) A (eval (cmpL (ifT (cmSt i))) (cmEnv N)) Q E ⟨h, g, d, tk, os⟩) ∧
    ((∀ h' tk', Rep h₀ ⟨kt (PX b1 b2 q), Fx, [(N, cmFrO (PX b1 b2 q) I T T' τ (some s)), (N + 1, io)], [], nx, 0⟩ h' → Q s.r ⟨h', g, d, tk', os⟩) → wpAny (model prog w) A (eval (cmpR (ifT (cmSt i))) (cmEnv N)) Q E ⟨h, g, d, tk, os⟩) := by
  have hP : (V0 (PX b1 b2 q) prog).P = ⟨prog, w.params⟩ := by rw [hw]; rfl
  constructor
  · intro H
    refine piece_of (e := (by rw [← te14044960220447912780] : eval (cmpL (ifT (cmSt i))) (cmEnv N) = tw14044960220447912780 (cmpL (ifT (cmSt i))) (cmEnv N))) Flow.ret L (V := V0 (PX b1 b2 q) prog) hP 10000 0 [1,0] D ?_
    refine good_done (r := .ok (.ret s.l)) (pp := []) (by generalize b1 = b; revert b hi; generalize i = i; revert i; exact k2B (by kernel_rfl)) trivial fun h1 D1 => encR retI ?_
    exact H _ _ (D1.toF (tk := 0) (T := kt (PX b1 b2 q)) (F := Fx) (Z := [(N, cmFrO (PX b1 b2 q) I T T' τ (some s)), (N + 1, io)]) (B := []) (nx := nx) [0,1] (by generalize b1 = b; revert b hi; generalize i = i; revert i; exact k2B (by kernel_rfl)) (by generalize b1 = b; revert b hi; generalize i = i; revert i; exact k2B (by kernel_rfl)) rfl)
  · intro H
    refine piece_of (e := (by rw [← te14044960220447912780] : eval (cmpR (ifT (cmSt i))) (cmEnv N) = tw14044960220447912780 (cmpR (ifT (cmSt i))) (cmEnv N))) Flow.ret L (V := V0 (PX b1 b2 q) prog) hP 10000 0 [1,0] D ?_
    refine good_done (r := .ok (.ret s.r)) (pp := []) (by generalize b1 = b; revert b hi; generalize i = i; revert i; exact k2B (by kernel_rfl)) trivial fun h1 D1 => encR retI ?_
    exact H _ _ (D1.toF (tk := 0) (T := kt (PX b1 b2 q)) (F := Fx) (Z := [(N, cmFrO (PX b1 b2 q) I T T' τ (some s)), (N + 1, io)]) (B := []) (nx := nx) [0,1] (by generalize b1 = b; revert b hi; generalize i = i; revert i; exact k2B (by kernel_rfl)) (by generalize b1 = b; revert b hi; generalize i = i; revert i; exact k2B (by kernel_rfl)) rfl)
theorem cpRest {nn : Nat} (L : Deep nn A) (hw : w.params = PX b1 b2 q) {s : CmS} {io : Obj} {Q : Flow → Shared → Prop} {E : Value → Shared → Prop}
    (D : Rep h₀ ⟨kt (PX b1 b2 q), Fx, [(N, cmFrO (PX b1 b2 q) I T T' τ (some s)), (N + 1, io)], [], nx, tk⟩ h) {bl bg : Bool} (al : Asks prog w nn h₀ .Lt s.l s.r bl) (ag : Asks prog w nn h₀ .Gt s.l s.r bg)
    (H1 : bl = true → ∀ h' tk' nx' t, Rep h₀ ⟨kt (PX b1 b2 q), Fx, [(N, cmFrO (PX b1 b2 q) I T T' τ (some s)), (N + 1, io)], [], nx', 0⟩ h' → Q (.ret (.int (-s.dr) t)) ⟨h', g, d, tk', os⟩)
    (H2 : bl = false → bg = true → ∀ h' tk' nx', Rep h₀ ⟨kt (PX b1 b2 q), Fx, [(N, cmFrO (PX b1 b2 q) I T T' τ (some s)), (N + 1, io)], [], nx', 0⟩ h' → Q (.ret (.int s.dr s.dt)) ⟨h', g, d, tk', os⟩)
    (H3 : bl = false → bg = false → ∀ h' tk' nx', Rep h₀ ⟨kt (PX b1 b2 q), Fx, [(N, cmFrO (PX b1 b2 q) I T T' τ (some s)), (N + 1, io)], [], nx', 0⟩ h' → Q .next ⟨h', g, d, tk', os⟩) :
    wpAny (model prog w) A (execs [cmSt 2, cmSt 3] (cmEnv N)) Q E ⟨h, g, d, tk, os⟩ := by
  have hP : (V0 (PX b1 b2 q) prog).P = ⟨prog, w.params⟩ := by rw [hw]; rfl
  have kp : ∀ {m : Mm} {h' : Heap}, Rep h₀ m h' → m.B = [] → ∀ a o, h₀.get? a = some o → h'.get? a = some o := fun D e a o q => D.kp a o q (by rw [e]; exact fun _ hz => nomatch hz)
  refine wpAny_execs_cons ?_
  have ei : cmSt 2 = .If (ifT (cmSt 2)) (ifB (cmSt 2)) [] (ifP (cmSt 2)) := rfl
  rw [ei]
  refine wpAny_If ?_
  have ec : ifT (cmSt 2) = .Compare (cmpL (ifT (cmSt 2))) [.Lt] [cmpR (ifT (cmSt 2))] (posE (ifT (cmSt 2))) := rfl
  rw [ec]
  refine wpAny_isTrue_Compare1 ?_ rfl
  refine (cpName L hw (i := 2) (.inl rfl) D).1 fun h1 k1 D1 => ?_
  refine (cpName L hw (i := 2) (.inl rfl) (Rep.tok D1 k1)).2 fun h2 k2 D2 => ?_
  show wpAny _ _ (richCompare .Lt _ _) _ _ _
  refine al A g d os h2 k2 _ _ L (kp D2 rfl) fun h3 k3 n3 P3 => ?_
  refine wpAny_truthy_bool ?_
  have D3 := D2.andN P3
  cases hl : bl with
  | true =>
    rw [if_pos rfl]
    refine piece_block (V := V0 (PX b1 b2 q) prog) L hP 10000 0 [1,0] (tk := k3) D3 ?_
    refine good_done (r := .ok (.ret (.int (-s.dr) k3))) (pp := []) (by generalize b1 = b; revert b; exact kB (by kernel_rfl)) trivial fun h4 D4 => ?_
    exact H1 hl _ _ _ _ (D4.toF (tk := 0) (T := kt (PX b1 b2 q)) (F := Fx) (Z := [(N, cmFrO (PX b1 b2 q) I T T' τ (some s)), (N + 1, io)]) (B := []) (nx := n3) [0,1] (by generalize b1 = b; revert b; exact kB (by kernel_rfl)) (by generalize b1 = b; revert b; exact kB (by kernel_rfl)) rfl)
  | false =>
    rw [if_neg Bool.false_ne_true]
    refine wpAny_pure ?_
    show wpAny _ _ (execs [cmSt 3] _) _ _ _
    refine wpAny_execs_cons ?_
    have ei : cmSt 3 = .If (ifT (cmSt 3)) (ifB (cmSt 3)) [] (ifP (cmSt 3)) := rfl
    rw [ei]
    refine wpAny_If ?_
    have ec : ifT (cmSt 3) = .Compare (cmpL (ifT (cmSt 3))) [.Gt] [cmpR (ifT (cmSt 3))] (posE (ifT (cmSt 3))) := rfl
    rw [ec]
    refine wpAny_isTrue_Compare1 ?_ rfl
    refine (cpName L hw (i := 3) (.inr rfl) (Rep.tok D3 k3)).1 fun h1 k1 D1 => ?_
    refine (cpName L hw (i := 3) (.inr rfl) (Rep.tok D1 k1)).2 fun h2 k2 D2 => ?_
    show wpAny _ _ (richCompare .Gt _ _) _ _ _
    refine ag A g d os h2 k2 _ _ L (kp D2 rfl) fun h5 k5 n5 P5 => ?_
    refine wpAny_truthy_bool ?_
    have D5 := D2.andN P5
    cases hg : bg with
    | true =>
      rw [if_pos rfl]
      refine piece_block (V := V0 (PX b1 b2 q) prog) L hP 10000 0 [1,0] (tk := k5) D5 ?_
      refine good_done (r := .ok (.ret (.int s.dr s.dt))) (pp := []) (by generalize b1 = b; revert b; exact kB (by kernel_rfl)) trivial fun h4 D4 => ?_
      exact H2 hl hg _ _ _ (D4.toF (tk := 0) (T := kt (PX b1 b2 q)) (F := Fx) (Z := [(N, cmFrO (PX b1 b2 q) I T T' τ (some s)), (N + 1, io)]) (B := []) (nx := n5) [0,1] (by generalize b1 = b; revert b; exact kB (by kernel_rfl)) (by generalize b1 = b; revert b; exact kB (by kernel_rfl)) rfl)
    | false =>
      rw [if_neg Bool.false_ne_true]
      refine wpAny_pure ?_
      refine wpAny_pure ?_
      exact H3 hl hg _ _ _ (D5.tok 0)
end
end Mine
namespace Mine
open PySem PySem.W PySem.W.X PySem.Spec PySem.Calls PyProof.Rows
open PySem.W.Fast
noncomputable def cjF (P : Params) (LI E0 E1 T T' I DI : Addr) (a0 a1 : Int) (t0 t1 t2 t3 td : Nat) (v0 v1 w0 w1 : Value) : Facts := [(LI, lstO #[.ref E0, .ref E1] 0), (E0, tupV #[.int 0 t0, .int a0 t1]), (E1, tupV #[.int 1 t2, .int a1 t3]), (T, tupV #[v0, v1]), (T', tupV #[w0, w1]), (I, { cls := .ref 54, dict := some DI, data := .plain }), (DI, { cls := .type "dict", data := .dict #[de P "comp_select_list" td (.ref LI)] 1 })]
section
variable {prog : Program} {w : World} {A : Around} {R : Result → Shared → Prop} {h₀ h : Heap} {g : Array GenState} {d : Drawn} {tk : Nat} {os : OsState} {b1 b2 : Bool} {q : Params} {Fx : Facts} {N nx LI E0 E1 T T' I DI : Nat} {a0 a1 : Int} {t0 t1 t2 t3 td : Nat} {v0 v1 w0 w1 : Value} {τ : Nat → Nat}
noncomputable def spK {α : Type} (f : Value → Value → α) : (Int → Nat → Int → Nat → α) × (Str → Nat → Str → Nat → α) × (Nat → Nat → α) := (fun x t y u => f (.int x t) (.int y u), fun x t y u => f (.str x t) (.str y u), fun a b => f (.ref a) (.ref b))
noncomputable def spK' {α : Type} (f : Value → Value → α) : (Int → Nat → Int → Nat → α) × (Str → Nat → Str → Nat → α) × (Nat → Nat → α) := (fun x t y u => f (.int x t) (.int y u), fun x t y u => f (.str x t) (.str y u), fun a b => f (.ref a) (.ref b))
theorem kK2 {α : Type} {f g : Value → Value → Bool → α} (h : (spK fun v w => spB (f v w)) = spK' fun v w => spB' (g v w)) : ∀ v w, Kind2 v w → ∀ b, f v w b = g v w b := fun v w hk b => by
  rcases hk with ⟨x, t, y, u, rfl, rfl⟩ | ⟨x, t, y, u, rfl, rfl⟩ | ⟨x, y, rfl, rfl⟩
  · exact ckB (congrFun (congrFun (congrFun (congrFun (congrArg (fun z => z.1) h) x) t) y) u) b
  · exact ckB (congrFun (congrFun (congrFun (congrFun (congrArg (fun z => z.2.1) h) x) t) y) u) b
  · exact ckB (congrFun (congrFun (congrArg (fun z => z.2.2) h) x) y) b
theorem cjPre0 {nn : Nat} (L : Deep nn A) (hw : w.params = PX b1 b2 q) (hk : Kind2 v0 w0) {Q : Option Flow → Shared → Prop} {E : Value → Shared → Prop}
    (D : Rep h₀ ⟨kt (PX b1 b2 q), (cjF (PX b1 b2 q) LI E0 E1 T T' I DI a0 a1 t0 t1 t2 t3 td v0 v1 w0 w1) ++ Fx, [(N, cmFrO (PX b1 b2 q) I T T' τ none), (N + 1, litO LI 0)], [], nx, tk⟩ h)
    (H : ∀ h' tk' nx' τ', Rep h₀ ⟨kt (PX b1 b2 q), (cjF (PX b1 b2 q) LI E0 E1 T T' I DI a0 a1 t0 t1 t2 t3 td v0 v1 w0 w1) ++ Fx, [(N, cmFrO (PX b1 b2 q) I T T' τ' (some ⟨0, t0, a0, t1, v0, w0⟩)), (N + 1, litO LI 1)], [], nx', 0⟩ h' → Q (some .next) ⟨h', g, d, tk', os⟩) :
    wpAny (model prog w) A (cmPre (forT cmFor) (.ref (N + 1)) (cmSt 0) (cmSt 1) (cmEnv N)) Q E ⟨h, g, d, tk, os⟩ := by
  have hP : (V0 (PX b1 b2 q) prog).P = ⟨prog, w.params⟩ := by rw [hw]; rfl
  refine piece_of (cmPre_eq _ _ _ _ _) encT L (V := V0 (PX b1 b2 q) prog) hP 100000 0 (hz [4,4,4,4,0,4,4,4,3,3,3,3,7,7,7,7,7,3,7,7,7,7,7,7,3,7,7,7,7,7,7,3,7,7,13,1,1,1,1,1,1,9,9,9,9,9,1,1,1,1,12,12,12,12,12,1,1]) D ?_
  refine good_done (r := .ok .next) (pp := []) (by generalize b1 = b; revert b hk; generalize v0 = x; generalize w0 = y; revert x y; exact kK2 (by kernel_rfl)) trivial fun h1 D1 => encR (fun _ => encT_next) ?_
  exact H _ _ _ _ (D1.toF (tk := 0) (T := kt (PX b1 b2 q)) (F := (cjF (PX b1 b2 q) LI E0 E1 T T' I DI a0 a1 t0 t1 t2 t3 td v0 v1 w0 w1) ++ Fx) (Z := [(N, cmFrO (PX b1 b2 q) I T T' (cmTau τ tk none) (some ⟨0, t0, a0, t1, v0, w0⟩)), (N + 1, litO LI 1)]) (B := []) (nx := nx + 3) [0,1] (by generalize b1 = b; revert b hk; generalize v0 = x; generalize w0 = y; revert x y; exact kK2 (by kernel_rfl)) (by generalize b1 = b; revert b hk; generalize v0 = x; generalize w0 = y; revert x y; exact kK2 (by kernel_rfl)) rfl)
theorem cjPre1 {nn : Nat} (L : Deep nn A) (hw : w.params = PX b1 b2 q) {s : CmS} (hk : Kind2 v1 w1) {Q : Option Flow → Shared → Prop} {E : Value → Shared → Prop}
    (D : Rep h₀ ⟨kt (PX b1 b2 q), (cjF (PX b1 b2 q) LI E0 E1 T T' I DI a0 a1 t0 t1 t2 t3 td v0 v1 w0 w1) ++ Fx, [(N, cmFrO (PX b1 b2 q) I T T' τ (some s)), (N + 1, litO LI 1)], [], nx, tk⟩ h)
    (H : ∀ h' tk' nx' τ', Rep h₀ ⟨kt (PX b1 b2 q), (cjF (PX b1 b2 q) LI E0 E1 T T' I DI a0 a1 t0 t1 t2 t3 td v0 v1 w0 w1) ++ Fx, [(N, cmFrO (PX b1 b2 q) I T T' τ' (some ⟨1, t2, a1, t3, v1, w1⟩)), (N + 1, litO LI 2)], [], nx', 0⟩ h' → Q (some .next) ⟨h', g, d, tk', os⟩) :
    wpAny (model prog w) A (cmPre (forT cmFor) (.ref (N + 1)) (cmSt 0) (cmSt 1) (cmEnv N)) Q E ⟨h, g, d, tk, os⟩ := by
  have hP : (V0 (PX b1 b2 q) prog).P = ⟨prog, w.params⟩ := by rw [hw]; rfl
  refine piece_of (cmPre_eq _ _ _ _ _) encT L (V := V0 (PX b1 b2 q) prog) hP 100000 0 (hz [4,4,4,4,0,4,4,4,6,6,6,6,7,7,7,7,7,6,7,7,7,7,7,7,6,7,7,7,7,7,7,6,7,7,13,1,1,1,1,1,1,9,9,9,9,9,1,1,1,1,12,12,12,12,12,1,1]) D ?_
  refine good_done (r := .ok .next) (pp := []) (by generalize b1 = b; revert b hk; generalize v1 = x; generalize w1 = y; revert x y; exact kK2 (by kernel_rfl)) trivial fun h1 D1 => encR (fun _ => encT_next) ?_
  exact H _ _ _ _ (D1.toF (tk := 0) (T := kt (PX b1 b2 q)) (F := (cjF (PX b1 b2 q) LI E0 E1 T T' I DI a0 a1 t0 t1 t2 t3 td v0 v1 w0 w1) ++ Fx) (Z := [(N, cmFrO (PX b1 b2 q) I T T' (cmTau τ tk (some s)) (some ⟨1, t2, a1, t3, v1, w1⟩)), (N + 1, litO LI 2)]) (B := []) (nx := nx + 3) [0,1] (by generalize b1 = b; revert b hk; generalize v1 = x; generalize w1 = y; revert x y; exact kK2 (by kernel_rfl)) (by generalize b1 = b; revert b hk; generalize v1 = x; generalize w1 = y; revert x y; exact kK2 (by kernel_rfl)) rfl)
theorem cjEnd {nn : Nat} (L : Deep nn A) (hw : w.params = PX b1 b2 q) {s : CmS} {Q : Option Flow → Shared → Prop} {E : Value → Shared → Prop}
    (D : Rep h₀ ⟨kt (PX b1 b2 q), (cjF (PX b1 b2 q) LI E0 E1 T T' I DI a0 a1 t0 t1 t2 t3 td v0 v1 w0 w1) ++ Fx, [(N, cmFrO (PX b1 b2 q) I T T' τ (some s)), (N + 1, litO LI 2)], [], nx, tk⟩ h)
    (H : ∀ h' tk' nx' Z', Rep h₀ ⟨kt (PX b1 b2 q), (cjF (PX b1 b2 q) LI E0 E1 T T' I DI a0 a1 t0 t1 t2 t3 td v0 v1 w0 w1) ++ Fx, Z', [], nx', 0⟩ h' → Q none ⟨h', g, d, tk', os⟩) :
    wpAny (model prog w) A (cmPre (forT cmFor) (.ref (N + 1)) (cmSt 0) (cmSt 1) (cmEnv N)) Q E ⟨h, g, d, tk, os⟩ := by
  have hP : (V0 (PX b1 b2 q) prog).P = ⟨prog, w.params⟩ := by rw [hw]; rfl
  refine piece_of (cmPre_eq _ _ _ _ _) encT L (V := V0 (PX b1 b2 q) prog) hP 100000 0 (hz [4,4,4,4,0,4,4,10]) D ?_
  refine good_done (r := .ok .cont) (pp := []) (by generalize b1 = b; revert b; exact kB (by kernel_rfl)) trivial fun h1 D1 => encR (fun _ => encT_cont) ?_
  exact H _ _ _ _ (D1.toF (tk := 0) (T := kt (PX b1 b2 q)) (F := (cjF (PX b1 b2 q) LI E0 E1 T T' I DI a0 a1 t0 t1 t2 t3 td v0 v1 w0 w1) ++ Fx) (Z := []) (B := []) (nx := nx + 2) [] (by generalize b1 = b; revert b; exact kB (by kernel_rfl)) (by generalize b1 = b; revert b; exact kB (by kernel_rfl)) rfl)
theorem cjCmp {nn : Nat} (L : Deep (nn + 40) A) (B : Bs b1 b2 q w h) (hk0 : Kind2 v0 w0) (hk1 : Kind2 v1 w1) (hF : ∀ p ∈ (cjF (PX b1 b2 q) LI E0 E1 T T' I DI a0 a1 t0 t1 t2 t3 td v0 v1 w0 w1), h.get? p.1 = some p.2) {l0 g0 l1 g1 : Bool} (al0 : Asks prog w nn h .Lt v0 w0 l0) (ag0 : Asks prog w nn h .Gt v0 w0 g0) (al1 : Asks prog w nn h .Lt v1 w1 l1) (ag1 : Asks prog w nn h .Gt v1 w1 g1)
    (H : ∀ h' tk' n t, Post h h' n [] → R (.ok (.ret (.int (cmp1 l0 g0 a0 (cmp1 l1 g1 a1 0)) t))) ⟨h', g, d, tk', os⟩) :
    codeAny (model prog w) A (.call (.ref 51) ⟨[.ref I, .ref T, .ref T'], []⟩) R ⟨h, g, d, tk, os⟩ := by
  have hw := B.hw
  have hP : (VF9 (PX b1 b2 q) prog).P = ⟨prog, w.params⟩ := by rw [hw]; rfl
  obtain ⟨N, hN⟩ : ∃ N, N = h.objs.size := ⟨_, rfl⟩
  have D0 : Rep h ⟨kt (PX b1 b2 q), (cjF (PX b1 b2 q) LI E0 E1 T T' I DI a0 a1 t0 t1 t2 t3 td v0 v1 w0 w1) ++ [], [], [], N, tk⟩ h := B.startN hN.symm (by rw [List.append_nil]; exact hF)
  refine start (V := VF9 (PX b1 b2 q) prog) L hP 100000 2 [1,0,1,0,1,0,1,0,1,0,1,1,1,0,15,3,15,3,15,0,15,1,18,0,0,0,0,0,0,0,4,0] D0 rfl ?_
  refine good_hole (n := nn + 20) L (c := (.forLoop (forT cmFor) (.ref (N + 1)) (forB cmFor) (forE cmFor) (cmEnv N))) (pp := []) (by generalize b1 = b; revert b; exact kB (by kernel_rfl)) trivial fun h1 L1 D1 => ?_
  have D2 := D1.toF (tk := 0) (T := kt (PX b1 b2 q)) (F := (cjF (PX b1 b2 q) LI E0 E1 T T' I DI a0 a1 t0 t1 t2 t3 td v0 v1 w0 w1) ++ []) (Z := [(N, cmFrO (PX b1 b2 q) I T T' (fun i => tk + i) none), (N + 1, litO LI 0)]) (B := []) (nx := N + 2) [0,1] (by generalize b1 = b; revert b; exact kB (by kernel_rfl)) (by generalize b1 = b; revert b; exact kB (by kernel_rfl)) rfl
  have L2 : Deep nn ((ar A _).under (.forLoop (forT cmFor) (.ref (N + 1)) (forB cmFor) (forE cmFor) (cmEnv N))) := Deep.under (n := nn) (k := 1) (L1.less (by omega)) rfl
  generalize hKI : Res.κI _ = κ at L1 L2 ⊢
  have exV : ∀ (y : Int) (t : Nat) (h' : Heap) (tk' nx' : Nat) (Zs : Facts), Rep h ⟨kt (PX b1 b2 q), (cjF (PX b1 b2 q) LI E0 E1 T T' I DI a0 a1 t0 t1 t2 t3 td v0 v1 w0 w1) ++ [], Zs, [], nx', 0⟩ h' → (∀ h' tk' n t, Post h h' n [] → R (.ok (.ret (.int y t))) ⟨h', g, d, tk', os⟩) → endK prog w A R κ (.ok (.ret (.int y t))) ⟨h', g, d, tk', os⟩ := fun y t h' tk' nx' Zs D H => by
    subst hKI
    refine back (V := VF9 (PX b1 b2 q) prog) L hP 100000 0 [] (tk := tk') D ?_
    refine good_done (r := .ok (.ret (.int y t))) (pp := []) (by generalize b1 = b; revert b; exact kB (by kernel_rfl)) trivial fun h2 D2 => ?_
    exact H _ _ _ _ (Rep.post (F' := []) (n := nx') (D2.toF (tk := 0) (T := kt (PX b1 b2 q)) (F := (cjF (PX b1 b2 q) LI E0 E1 T T' I DI a0 a1 t0 t1 t2 t3 td v0 v1 w0 w1) ++ []) (Z := []) (B := []) (nx := nx') [] (by generalize b1 = b; revert b; exact kB (by kernel_rfl)) (by generalize b1 = b; revert b; exact kB (by kernel_rfl)) rfl) [] rfl)
  have exN : ∀ (h' : Heap) (tk' nx' : Nat) (Zs : Facts), Rep h ⟨kt (PX b1 b2 q), (cjF (PX b1 b2 q) LI E0 E1 T T' I DI a0 a1 t0 t1 t2 t3 td v0 v1 w0 w1) ++ [], Zs, [], nx', 0⟩ h' → (∀ h' tk' n t, Post h h' n [] → R (.ok (.ret (.int 0 t))) ⟨h', g, d, tk', os⟩) → endK prog w A R κ (.ok .next) ⟨h', g, d, tk', os⟩ := fun h' tk' nx' Zs D H => by
    subst hKI
    refine back (V := VF9 (PX b1 b2 q) prog) L hP 100000 0 [] (tk := tk') D ?_
    refine good_done (r := .ok (.ret (.int 0 tk'))) (pp := []) (by generalize b1 = b; revert b; exact kB (by kernel_rfl)) trivial fun h2 D2 => ?_
    exact H _ _ _ _ (Rep.post (F' := []) (n := nx') (D2.toF (tk := 0) (T := kt (PX b1 b2 q)) (F := (cjF (PX b1 b2 q) LI E0 E1 T T' I DI a0 a1 t0 t1 t2 t3 td v0 v1 w0 w1) ++ []) (Z := []) (B := []) (nx := nx') [] (by generalize b1 = b; revert b; exact kB (by kernel_rfl)) (by generalize b1 = b; revert b; exact kB (by kernel_rfl)) rfl) [] rfl)
  refine for_turnP (rest := [cmSt 2, cmSt 3]) ?_
  refine cjPre0 L2 hw hk0 (Rep.tok D2 _) fun e0 u0 n0 τ0 E0 => ?_
  refine cpRest L2 hw (Rep.tok E0 _) al0 ag0 (fun z h' tk' nx' t D' => ?_) (fun z z2 h' tk' nx' D' => ?_) (fun z z2 q0 y0 m0 G0 => ?_)
  · exact exV _ _ _ _ _ _ D' fun h' tk' n t P' => by have := H h' tk' n t P'; simpa [cmp1, *] using this
  · exact exV _ _ _ _ _ _ D' fun h' tk' n t P' => by have := H h' tk' n t P'; simpa [cmp1, *] using this
  refine for_turnP (rest := [cmSt 2, cmSt 3]) ?_
  refine cjPre1 L2 hw hk1 (Rep.tok G0 _) fun e1 u1 n1 τ1 E1 => ?_
  refine cpRest L2 hw (Rep.tok E1 _) al1 ag1 (fun z h' tk' nx' t D' => ?_) (fun z z2 h' tk' nx' D' => ?_) (fun z z2 q1 y1 m1 G1 => ?_)
  · exact exV _ _ _ _ _ _ D' fun h' tk' n t P' => by have := H h' tk' n t P'; simpa [cmp1, *] using this
  · exact exV _ _ _ _ _ _ D' fun h' tk' n t P' => by have := H h' tk' n t P'; simpa [cmp1, *] using this
  refine for_turnP (rest := [cmSt 2, cmSt 3]) ?_
  refine cjEnd L2 hw (Rep.tok G1 _) fun h' tk' nx' Z' D' => ?_
  refine codeAny_block ?_
  show wpAny _ _ (execs [] _) _ _ _
  refine wpAny_pure ?_
  exact exN _ _ _ _ D' fun h' tk' n t P' => by have := H h' tk' n t P'; simpa [cmp1, *] using this
end
noncomputable def cfF (P : Params) (LI E0 E1 E2 E3 T T' I DI : Addr) (c0 c1 c2 c3 : Nat) (s0 s1 s2 s3 : Int) (t0 t1 t2 t3 u0 u1 u2 u3 td : Nat) (r r' : RowD) (tr tr' : Addr) (ir ir' : Int) : Facts := [(LI, lstO #[.ref E0, .ref E1, .ref E2, .ref E3] 6), (E0, tupV #[.int c0 t0, .int s0 u0]), (E1, tupV #[.int c1 t1, .int s1 u1]), (E2, tupV #[.int c2 t2, .int s2 u2]), (E3, tupV #[.int c3 t3, .int s3 u3]), (T, rowO r tr ir), (T', rowO r' tr' ir'), (I, { cls := .ref 54, dict := some DI, data := .plain }), (DI, { cls := .type "dict", data := .dict #[de P "comp_select_list" td (.ref LI)] 1 })]
section
variable {prog : Program} {w : World} {A : Around} {R : Result → Shared → Prop} {h₀ h : Heap} {g : Array GenState} {d : Drawn} {tk : Nat} {os : OsState} {b1 b2 : Bool} {q : Params} {Fx : Facts} {N nx LI E0 E1 E2 E3 T T' I DI : Nat} {c0 c1 c2 c3 : Nat} {s0 s1 s2 s3 : Int} {t0 t1 t2 t3 u0 u1 u2 u3 td : Nat} {r r' : RowD} {tr tr' : Nat} {ir ir' : Int} {τ : Nat → Nat}
theorem cfPre0 {nn : Nat} (L : Deep nn A) (hw : w.params = PX b1 b2 q) (hk : c0 = 0 ∨ c0 = 1 ∨ c0 = 2) {Q : Option Flow → Shared → Prop} {E : Value → Shared → Prop}
    (D : Rep h₀ ⟨kt (PX b1 b2 q), (cfF (PX b1 b2 q) LI E0 E1 E2 E3 T T' I DI c0 c1 c2 c3 s0 s1 s2 s3 t0 t1 t2 t3 u0 u1 u2 u3 td r r' tr tr' ir ir') ++ Fx, [(N, cmFrO (PX b1 b2 q) I T T' τ none), (N + 1, litO LI 0)], [], nx, tk⟩ h)
    (H : ∀ h' tk' nx' τ', Rep h₀ ⟨kt (PX b1 b2 q), (cfF (PX b1 b2 q) LI E0 E1 E2 E3 T T' I DI c0 c1 c2 c3 s0 s1 s2 s3 t0 t1 t2 t3 u0 u1 u2 u3 td r r' tr tr' ir ir') ++ Fx, [(N, cmFrO (PX b1 b2 q) I T T' τ' (some ⟨c0, t0, s0, u0, (celV c0 r tr), (celV c0 r' tr')⟩)), (N + 1, litO LI 1)], [], nx', 0⟩ h' → Q (some .next) ⟨h', g, d, tk', os⟩) :
    wpAny (model prog w) A (cmPre (forT cmFor) (.ref (N + 1)) (cmSt 0) (cmSt 1) (cmEnv N)) Q E ⟨h, g, d, tk, os⟩ := by
  have hP : (V0 (PX b1 b2 q) prog).P = ⟨prog, w.params⟩ := by rw [hw]; rfl
  refine piece_of (cmPre_eq _ _ _ _ _) encT L (V := V0 (PX b1 b2 q) prog) hP 100000 0 (hz [4,4,4,4,0,4,4,4,3,3,3,3,7,7,7,7,7,3,7,7,7,7,7,7,3,7,7,7,7,7,7,3,7,7,13,1,1,1,1,1,1,15,15,15,15,15,1,1,1,1,18,18,18,18,18,1,1]) D ?_
  refine good_done (r := .ok .next) (pp := []) (by generalize b1 = b; revert b hk; generalize c0 = i; revert i; exact k3B (by kernel_rfl)) trivial fun h1 D1 => encR (fun _ => encT_next) ?_
  exact H _ _ _ _ (D1.toF (tk := 0) (T := kt (PX b1 b2 q)) (F := (cfF (PX b1 b2 q) LI E0 E1 E2 E3 T T' I DI c0 c1 c2 c3 s0 s1 s2 s3 t0 t1 t2 t3 u0 u1 u2 u3 td r r' tr tr' ir ir') ++ Fx) (Z := [(N, cmFrO (PX b1 b2 q) I T T' (cmTau τ tk none) (some ⟨c0, t0, s0, u0, (celV c0 r tr), (celV c0 r' tr')⟩)), (N + 1, litO LI 1)]) (B := []) (nx := nx + 3) [0,1] (by generalize b1 = b; revert b hk; generalize c0 = i; revert i; exact k3B (by kernel_rfl)) (by generalize b1 = b; revert b hk; generalize c0 = i; revert i; exact k3B (by kernel_rfl)) rfl)
theorem cfPre1 {nn : Nat} (L : Deep nn A) (hw : w.params = PX b1 b2 q) {s : CmS} (hk : c1 = 0 ∨ c1 = 1 ∨ c1 = 2) {Q : Option Flow → Shared → Prop} {E : Value → Shared → Prop}
    (D : Rep h₀ ⟨kt (PX b1 b2 q), (cfF (PX b1 b2 q) LI E0 E1 E2 E3 T T' I DI c0 c1 c2 c3 s0 s1 s2 s3 t0 t1 t2 t3 u0 u1 u2 u3 td r r' tr tr' ir ir') ++ Fx, [(N, cmFrO (PX b1 b2 q) I T T' τ (some s)), (N + 1, litO LI 1)], [], nx, tk⟩ h)
    (H : ∀ h' tk' nx' τ', Rep h₀ ⟨kt (PX b1 b2 q), (cfF (PX b1 b2 q) LI E0 E1 E2 E3 T T' I DI c0 c1 c2 c3 s0 s1 s2 s3 t0 t1 t2 t3 u0 u1 u2 u3 td r r' tr tr' ir ir') ++ Fx, [(N, cmFrO (PX b1 b2 q) I T T' τ' (some ⟨c1, t1, s1, u1, (celV c1 r tr), (celV c1 r' tr')⟩)), (N + 1, litO LI 2)], [], nx', 0⟩ h' → Q (some .next) ⟨h', g, d, tk', os⟩) :
    wpAny (model prog w) A (cmPre (forT cmFor) (.ref (N + 1)) (cmSt 0) (cmSt 1) (cmEnv N)) Q E ⟨h, g, d, tk, os⟩ := by
  have hP : (V0 (PX b1 b2 q) prog).P = ⟨prog, w.params⟩ := by rw [hw]; rfl
  refine piece_of (cmPre_eq _ _ _ _ _) encT L (V := V0 (PX b1 b2 q) prog) hP 100000 0 (hz [4,4,4,4,0,4,4,4,6,6,6,6,7,7,7,7,7,6,7,7,7,7,7,7,6,7,7,7,7,7,7,6,7,7,13,1,1,1,1,1,1,15,15,15,15,15,1,1,1,1,18,18,18,18,18,1,1]) D ?_
  refine good_done (r := .ok .next) (pp := []) (by generalize b1 = b; revert b hk; generalize c1 = i; revert i; exact k3B (by kernel_rfl)) trivial fun h1 D1 => encR (fun _ => encT_next) ?_
  exact H _ _ _ _ (D1.toF (tk := 0) (T := kt (PX b1 b2 q)) (F := (cfF (PX b1 b2 q) LI E0 E1 E2 E3 T T' I DI c0 c1 c2 c3 s0 s1 s2 s3 t0 t1 t2 t3 u0 u1 u2 u3 td r r' tr tr' ir ir') ++ Fx) (Z := [(N, cmFrO (PX b1 b2 q) I T T' (cmTau τ tk (some s)) (some ⟨c1, t1, s1, u1, (celV c1 r tr), (celV c1 r' tr')⟩)), (N + 1, litO LI 2)]) (B := []) (nx := nx + 3) [0,1] (by generalize b1 = b; revert b hk; generalize c1 = i; revert i; exact k3B (by kernel_rfl)) (by generalize b1 = b; revert b hk; generalize c1 = i; revert i; exact k3B (by kernel_rfl)) rfl)
theorem cfPre2 {nn : Nat} (L : Deep nn A) (hw : w.params = PX b1 b2 q) {s : CmS} (hk : c2 = 0 ∨ c2 = 1 ∨ c2 = 2) {Q : Option Flow → Shared → Prop} {E : Value → Shared → Prop}
    (D : Rep h₀ ⟨kt (PX b1 b2 q), (cfF (PX b1 b2 q) LI E0 E1 E2 E3 T T' I DI c0 c1 c2 c3 s0 s1 s2 s3 t0 t1 t2 t3 u0 u1 u2 u3 td r r' tr tr' ir ir') ++ Fx, [(N, cmFrO (PX b1 b2 q) I T T' τ (some s)), (N + 1, litO LI 2)], [], nx, tk⟩ h)
    (H : ∀ h' tk' nx' τ', Rep h₀ ⟨kt (PX b1 b2 q), (cfF (PX b1 b2 q) LI E0 E1 E2 E3 T T' I DI c0 c1 c2 c3 s0 s1 s2 s3 t0 t1 t2 t3 u0 u1 u2 u3 td r r' tr tr' ir ir') ++ Fx, [(N, cmFrO (PX b1 b2 q) I T T' τ' (some ⟨c2, t2, s2, u2, (celV c2 r tr), (celV c2 r' tr')⟩)), (N + 1, litO LI 3)], [], nx', 0⟩ h' → Q (some .next) ⟨h', g, d, tk', os⟩) :
    wpAny (model prog w) A (cmPre (forT cmFor) (.ref (N + 1)) (cmSt 0) (cmSt 1) (cmEnv N)) Q E ⟨h, g, d, tk, os⟩ := by
  have hP : (V0 (PX b1 b2 q) prog).P = ⟨prog, w.params⟩ := by rw [hw]; rfl
  refine piece_of (cmPre_eq _ _ _ _ _) encT L (V := V0 (PX b1 b2 q) prog) hP 100000 0 (hz [4,4,4,4,0,4,4,4,9,9,9,9,7,7,7,7,7,9,7,7,7,7,7,7,9,7,7,7,7,7,7,9,7,7,13,1,1,1,1,1,1,15,15,15,15,15,1,1,1,1,18,18,18,18,18,1,1]) D ?_
  refine good_done (r := .ok .next) (pp := []) (by generalize b1 = b; revert b hk; generalize c2 = i; revert i; exact k3B (by kernel_rfl)) trivial fun h1 D1 => encR (fun _ => encT_next) ?_
  exact H _ _ _ _ (D1.toF (tk := 0) (T := kt (PX b1 b2 q)) (F := (cfF (PX b1 b2 q) LI E0 E1 E2 E3 T T' I DI c0 c1 c2 c3 s0 s1 s2 s3 t0 t1 t2 t3 u0 u1 u2 u3 td r r' tr tr' ir ir') ++ Fx) (Z := [(N, cmFrO (PX b1 b2 q) I T T' (cmTau τ tk (some s)) (some ⟨c2, t2, s2, u2, (celV c2 r tr), (celV c2 r' tr')⟩)), (N + 1, litO LI 3)]) (B := []) (nx := nx + 3) [0,1] (by generalize b1 = b; revert b hk; generalize c2 = i; revert i; exact k3B (by kernel_rfl)) (by generalize b1 = b; revert b hk; generalize c2 = i; revert i; exact k3B (by kernel_rfl)) rfl)
theorem cfPre3 {nn : Nat} (L : Deep nn A) (hw : w.params = PX b1 b2 q) {s : CmS} (hk : c3 = 0 ∨ c3 = 1 ∨ c3 = 2) {Q : Option Flow → Shared → Prop} {E : Value → Shared → Prop}
    (D : Rep h₀ ⟨kt (PX b1 b2 q), (cfF (PX b1 b2 q) LI E0 E1 E2 E3 T T' I DI c0 c1 c2 c3 s0 s1 s2 s3 t0 t1 t2 t3 u0 u1 u2 u3 td r r' tr tr' ir ir') ++ Fx, [(N, cmFrO (PX b1 b2 q) I T T' τ (some s)), (N + 1, litO LI 3)], [], nx, tk⟩ h)
    (H : ∀ h' tk' nx' τ', Rep h₀ ⟨kt (PX b1 b2 q), (cfF (PX b1 b2 q) LI E0 E1 E2 E3 T T' I DI c0 c1 c2 c3 s0 s1 s2 s3 t0 t1 t2 t3 u0 u1 u2 u3 td r r' tr tr' ir ir') ++ Fx, [(N, cmFrO (PX b1 b2 q) I T T' τ' (some ⟨c3, t3, s3, u3, (celV c3 r tr), (celV c3 r' tr')⟩)), (N + 1, litO LI 4)], [], nx', 0⟩ h' → Q (some .next) ⟨h', g, d, tk', os⟩) :
    wpAny (model prog w) A (cmPre (forT cmFor) (.ref (N + 1)) (cmSt 0) (cmSt 1) (cmEnv N)) Q E ⟨h, g, d, tk, os⟩ := by
  have hP : (V0 (PX b1 b2 q) prog).P = ⟨prog, w.params⟩ := by rw [hw]; rfl
  refine piece_of (cmPre_eq _ _ _ _ _) encT L (V := V0 (PX b1 b2 q) prog) hP 100000 0 (hz [4,4,4,4,0,4,4,4,12,12,12,12,7,7,7,7,7,12,7,7,7,7,7,7,12,7,7,7,7,7,7,12,7,7,13,1,1,1,1,1,1,15,15,15,15,15,1,1,1,1,18,18,18,18,18,1,1]) D ?_
  refine good_done (r := .ok .next) (pp := []) (by generalize b1 = b; revert b hk; generalize c3 = i; revert i; exact k3B (by kernel_rfl)) trivial fun h1 D1 => encR (fun _ => encT_next) ?_
  exact H _ _ _ _ (D1.toF (tk := 0) (T := kt (PX b1 b2 q)) (F := (cfF (PX b1 b2 q) LI E0 E1 E2 E3 T T' I DI c0 c1 c2 c3 s0 s1 s2 s3 t0 t1 t2 t3 u0 u1 u2 u3 td r r' tr tr' ir ir') ++ Fx) (Z := [(N, cmFrO (PX b1 b2 q) I T T' (cmTau τ tk (some s)) (some ⟨c3, t3, s3, u3, (celV c3 r tr), (celV c3 r' tr')⟩)), (N + 1, litO LI 4)]) (B := []) (nx := nx + 3) [0,1] (by generalize b1 = b; revert b hk; generalize c3 = i; revert i; exact k3B (by kernel_rfl)) (by generalize b1 = b; revert b hk; generalize c3 = i; revert i; exact k3B (by kernel_rfl)) rfl)
theorem cfEnd {nn : Nat} (L : Deep nn A) (hw : w.params = PX b1 b2 q) {s : CmS} {Q : Option Flow → Shared → Prop} {E : Value → Shared → Prop}
    (D : Rep h₀ ⟨kt (PX b1 b2 q), (cfF (PX b1 b2 q) LI E0 E1 E2 E3 T T' I DI c0 c1 c2 c3 s0 s1 s2 s3 t0 t1 t2 t3 u0 u1 u2 u3 td r r' tr tr' ir ir') ++ Fx, [(N, cmFrO (PX b1 b2 q) I T T' τ (some s)), (N + 1, litO LI 4)], [], nx, tk⟩ h)
    (H : ∀ h' tk' nx' Z', Rep h₀ ⟨kt (PX b1 b2 q), (cfF (PX b1 b2 q) LI E0 E1 E2 E3 T T' I DI c0 c1 c2 c3 s0 s1 s2 s3 t0 t1 t2 t3 u0 u1 u2 u3 td r r' tr tr' ir ir') ++ Fx, Z', [], nx', 0⟩ h' → Q none ⟨h', g, d, tk', os⟩) :
    wpAny (model prog w) A (cmPre (forT cmFor) (.ref (N + 1)) (cmSt 0) (cmSt 1) (cmEnv N)) Q E ⟨h, g, d, tk, os⟩ := by
  have hP : (V0 (PX b1 b2 q) prog).P = ⟨prog, w.params⟩ := by rw [hw]; rfl
  refine piece_of (cmPre_eq _ _ _ _ _) encT L (V := V0 (PX b1 b2 q) prog) hP 100000 0 (hz [4,4,4,4,0,4,4,10]) D ?_
  refine good_done (r := .ok .cont) (pp := []) (by generalize b1 = b; revert b; exact kB (by kernel_rfl)) trivial fun h1 D1 => encR (fun _ => encT_cont) ?_
  exact H _ _ _ _ (D1.toF (tk := 0) (T := kt (PX b1 b2 q)) (F := (cfF (PX b1 b2 q) LI E0 E1 E2 E3 T T' I DI c0 c1 c2 c3 s0 s1 s2 s3 t0 t1 t2 t3 u0 u1 u2 u3 td r r' tr tr' ir ir') ++ Fx) (Z := []) (B := []) (nx := nx + 2) [] (by generalize b1 = b; revert b; exact kB (by kernel_rfl)) (by generalize b1 = b; revert b; exact kB (by kernel_rfl)) rfl)
theorem cfCmp {nn : Nat} (L : Deep (nn + 40) A) (B : Bs b1 b2 q w h) (hk0 : c0 = 0 ∨ c0 = 1 ∨ c0 = 2) (hk1 : c1 = 0 ∨ c1 = 1 ∨ c1 = 2) (hk2 : c2 = 0 ∨ c2 = 1 ∨ c2 = 2) (hk3 : c3 = 0 ∨ c3 = 1 ∨ c3 = 2) (hF : ∀ p ∈ (cfF (PX b1 b2 q) LI E0 E1 E2 E3 T T' I DI c0 c1 c2 c3 s0 s1 s2 s3 t0 t1 t2 t3 u0 u1 u2 u3 td r r' tr tr' ir ir'), h.get? p.1 = some p.2) {l0 g0 l1 g1 l2 g2 l3 g3 : Bool} (al0 : Asks prog w nn h .Lt (celV c0 r tr) (celV c0 r' tr') l0) (ag0 : Asks prog w nn h .Gt (celV c0 r tr) (celV c0 r' tr') g0) (al1 : Asks prog w nn h .Lt (celV c1 r tr) (celV c1 r' tr') l1) (ag1 : Asks prog w nn h .Gt (celV c1 r tr) (celV c1 r' tr') g1) (al2 : Asks prog w nn h .Lt (celV c2 r tr) (celV c2 r' tr') l2) (ag2 : Asks prog w nn h .Gt (celV c2 r tr) (celV c2 r' tr') g2) (al3 : Asks prog w nn h .Lt (celV c3 r tr) (celV c3 r' tr') l3) (ag3 : Asks prog w nn h .Gt (celV c3 r tr) (celV c3 r' tr') g3)
    (H : ∀ h' tk' n t, Post h h' n [] → R (.ok (.ret (.int (cmp1 l0 g0 s0 (cmp1 l1 g1 s1 (cmp1 l2 g2 s2 (cmp1 l3 g3 s3 0)))) t))) ⟨h', g, d, tk', os⟩) :
    codeAny (model prog w) A (.call (.ref 51) ⟨[.ref I, .ref T, .ref T'], []⟩) R ⟨h, g, d, tk, os⟩ := by
  have hw := B.hw
  have hP : (VF9 (PX b1 b2 q) prog).P = ⟨prog, w.params⟩ := by rw [hw]; rfl
  obtain ⟨N, hN⟩ : ∃ N, N = h.objs.size := ⟨_, rfl⟩
  have D0 : Rep h ⟨kt (PX b1 b2 q), (cfF (PX b1 b2 q) LI E0 E1 E2 E3 T T' I DI c0 c1 c2 c3 s0 s1 s2 s3 t0 t1 t2 t3 u0 u1 u2 u3 td r r' tr tr' ir ir') ++ [], [], [], N, tk⟩ h := B.startN hN.symm (by rw [List.append_nil]; exact hF)
  refine start (V := VF9 (PX b1 b2 q) prog) L hP 100000 2 [1,0,1,0,1,0,1,0,1,0,1,1,1,0,21,3,21,3,21,0,21,1,24,0,0,0,0,0,0,0,4,0] D0 rfl ?_
  refine good_hole (n := nn + 20) L (c := (.forLoop (forT cmFor) (.ref (N + 1)) (forB cmFor) (forE cmFor) (cmEnv N))) (pp := []) (by generalize b1 = b; revert b; exact kB (by kernel_rfl)) trivial fun h1 L1 D1 => ?_
  have D2 := D1.toF (tk := 0) (T := kt (PX b1 b2 q)) (F := (cfF (PX b1 b2 q) LI E0 E1 E2 E3 T T' I DI c0 c1 c2 c3 s0 s1 s2 s3 t0 t1 t2 t3 u0 u1 u2 u3 td r r' tr tr' ir ir') ++ []) (Z := [(N, cmFrO (PX b1 b2 q) I T T' (fun i => tk + i) none), (N + 1, litO LI 0)]) (B := []) (nx := N + 2) [0,1] (by generalize b1 = b; revert b; exact kB (by kernel_rfl)) (by generalize b1 = b; revert b; exact kB (by kernel_rfl)) rfl
  have L2 : Deep nn ((ar A _).under (.forLoop (forT cmFor) (.ref (N + 1)) (forB cmFor) (forE cmFor) (cmEnv N))) := Deep.under (n := nn) (k := 1) (L1.less (by omega)) rfl
  generalize hKI : Res.κI _ = κ at L1 L2 ⊢
  have exV : ∀ (y : Int) (t : Nat) (h' : Heap) (tk' nx' : Nat) (Zs : Facts), Rep h ⟨kt (PX b1 b2 q), (cfF (PX b1 b2 q) LI E0 E1 E2 E3 T T' I DI c0 c1 c2 c3 s0 s1 s2 s3 t0 t1 t2 t3 u0 u1 u2 u3 td r r' tr tr' ir ir') ++ [], Zs, [], nx', 0⟩ h' → (∀ h' tk' n t, Post h h' n [] → R (.ok (.ret (.int y t))) ⟨h', g, d, tk', os⟩) → endK prog w A R κ (.ok (.ret (.int y t))) ⟨h', g, d, tk', os⟩ := fun y t h' tk' nx' Zs D H => by
    subst hKI
    refine back (V := VF9 (PX b1 b2 q) prog) L hP 100000 0 [] (tk := tk') D ?_
    refine good_done (r := .ok (.ret (.int y t))) (pp := []) (by generalize b1 = b; revert b; exact kB (by kernel_rfl)) trivial fun h2 D2 => ?_
    exact H _ _ _ _ (Rep.post (F' := []) (n := nx') (D2.toF (tk := 0) (T := kt (PX b1 b2 q)) (F := (cfF (PX b1 b2 q) LI E0 E1 E2 E3 T T' I DI c0 c1 c2 c3 s0 s1 s2 s3 t0 t1 t2 t3 u0 u1 u2 u3 td r r' tr tr' ir ir') ++ []) (Z := []) (B := []) (nx := nx') [] (by generalize b1 = b; revert b; exact kB (by kernel_rfl)) (by generalize b1 = b; revert b; exact kB (by kernel_rfl)) rfl) [] rfl)
  have exN : ∀ (h' : Heap) (tk' nx' : Nat) (Zs : Facts), Rep h ⟨kt (PX b1 b2 q), (cfF (PX b1 b2 q) LI E0 E1 E2 E3 T T' I DI c0 c1 c2 c3 s0 s1 s2 s3 t0 t1 t2 t3 u0 u1 u2 u3 td r r' tr tr' ir ir') ++ [], Zs, [], nx', 0⟩ h' → (∀ h' tk' n t, Post h h' n [] → R (.ok (.ret (.int 0 t))) ⟨h', g, d, tk', os⟩) → endK prog w A R κ (.ok .next) ⟨h', g, d, tk', os⟩ := fun h' tk' nx' Zs D H => by
    subst hKI
    refine back (V := VF9 (PX b1 b2 q) prog) L hP 100000 0 [] (tk := tk') D ?_
    refine good_done (r := .ok (.ret (.int 0 tk'))) (pp := []) (by generalize b1 = b; revert b; exact kB (by kernel_rfl)) trivial fun h2 D2 => ?_
    exact H _ _ _ _ (Rep.post (F' := []) (n := nx') (D2.toF (tk := 0) (T := kt (PX b1 b2 q)) (F := (cfF (PX b1 b2 q) LI E0 E1 E2 E3 T T' I DI c0 c1 c2 c3 s0 s1 s2 s3 t0 t1 t2 t3 u0 u1 u2 u3 td r r' tr tr' ir ir') ++ []) (Z := []) (B := []) (nx := nx') [] (by generalize b1 = b; revert b; exact kB (by kernel_rfl)) (by generalize b1 = b; revert b; exact kB (by kernel_rfl)) rfl) [] rfl)
  refine for_turnP (rest := [cmSt 2, cmSt 3]) ?_
  refine cfPre0 L2 hw hk0 (Rep.tok D2 _) fun e0 u0 n0 τ0 E0 => ?_
  refine cpRest L2 hw (Rep.tok E0 _) al0 ag0 (fun z h' tk' nx' t D' => ?_) (fun z z2 h' tk' nx' D' => ?_) (fun z z2 q0 y0 m0 G0 => ?_)
  · exact exV _ _ _ _ _ _ D' fun h' tk' n t P' => by have := H h' tk' n t P'; simpa [cmp1, *] using this
  · exact exV _ _ _ _ _ _ D' fun h' tk' n t P' => by have := H h' tk' n t P'; simpa [cmp1, *] using this
  refine for_turnP (rest := [cmSt 2, cmSt 3]) ?_
  refine cfPre1 L2 hw hk1 (Rep.tok G0 _) fun e1 u1 n1 τ1 E1 => ?_
  refine cpRest L2 hw (Rep.tok E1 _) al1 ag1 (fun z h' tk' nx' t D' => ?_) (fun z z2 h' tk' nx' D' => ?_) (fun z z2 q1 y1 m1 G1 => ?_)
  · exact exV _ _ _ _ _ _ D' fun h' tk' n t P' => by have := H h' tk' n t P'; simpa [cmp1, *] using this
  · exact exV _ _ _ _ _ _ D' fun h' tk' n t P' => by have := H h' tk' n t P'; simpa [cmp1, *] using this
  refine for_turnP (rest := [cmSt 2, cmSt 3]) ?_
  refine cfPre2 L2 hw hk2 (Rep.tok G1 _) fun e2 u2 n2 τ2 E2 => ?_
  refine cpRest L2 hw (Rep.tok E2 _) al2 ag2 (fun z h' tk' nx' t D' => ?_) (fun z z2 h' tk' nx' D' => ?_) (fun z z2 q2 y2 m2 G2 => ?_)
  · exact exV _ _ _ _ _ _ D' fun h' tk' n t P' => by have := H h' tk' n t P'; simpa [cmp1, *] using this
  · exact exV _ _ _ _ _ _ D' fun h' tk' n t P' => by have := H h' tk' n t P'; simpa [cmp1, *] using this
  refine for_turnP (rest := [cmSt 2, cmSt 3]) ?_
  refine cfPre3 L2 hw hk3 (Rep.tok G2 _) fun e3 u3 n3 τ3 E3 => ?_
  refine cpRest L2 hw (Rep.tok E3 _) al3 ag3 (fun z h' tk' nx' t D' => ?_) (fun z z2 h' tk' nx' D' => ?_) (fun z z2 q3 y3 m3 G3 => ?_)
  · exact exV _ _ _ _ _ _ D' fun h' tk' n t P' => by have := H h' tk' n t P'; simpa [cmp1, *] using this
  · exact exV _ _ _ _ _ _ D' fun h' tk' n t P' => by have := H h' tk' n t P'; simpa [cmp1, *] using this
  refine for_turnP (rest := [cmSt 2, cmSt 3]) ?_
  refine cfEnd L2 hw (Rep.tok G3 _) fun h' tk' nx' Z' D' => ?_
  refine codeAny_block ?_
  show wpAny _ _ (execs [] _) _ _ _
  refine wpAny_pure ?_
  exact exN _ _ _ _ D' fun h' tk' n t P' => by have := H h' tk' n t P'; simpa [cmp1, *] using this
end
end Mine
namespace Mine
open PySem PySem.W PySem.W.X PySem.Spec PySem.Calls PyProof.Rows
open PySem.W.Fast
noncomputable def VK9 (P : Params) (prog : Program) : Env9 := ⟨⟨prog, P⟩, fun c => match c with
  | .call (.ref _) _ => true
  | .builtin s _ => memS s ["object.__ne__"]
  | _ => false⟩
noncomputable def three9 : Args → Bool
  | ⟨[_, _, _], _⟩ => true
  | _ => false
noncomputable def VM9 (P : Params) (prog : Program) : Env9 := ⟨⟨prog, P⟩, fun c => match c with
  | .call (.ref _) a => three9 a
  | _ => false⟩
noncomputable def Kok (k : KA) : Prop := k = ka1 658 ∨ k = ka1 661 ∨ k = ka2 658 755 ∨ k = ka2 658 807 ∨ k = ka2 658 859 ∨ k = ka2 661 758 ∨ k = ka2 661 810 ∨ k = ka2 661 862
noncomputable abbrev kI (c dct t : Nat) : Obj := { cls := .ref c, dict := some dct, data := .plain, slots := #[some (.ref t)] }
noncomputable abbrev mtO (i : Nat) : Obj := { cls := .type "method", data := .fields #[.ref 51, .ref i] }
noncomputable def kRF (P : Params) (k : KA) (X : Addr) (T : Nat → Nat) (U a da ta b db tb i : Nat) : Facts := kC P k X T ++ (kcdF k.d U ++ [(a, kI k.c da ta), (b, kI k.c db tb), (X, mtO i)])
noncomputable def Cmps (prog : Program) (w : World) (nn : Nat) (h : Heap) (I T T' : Addr) (y : Int) : Prop :=
  ∀ (A : Around) (R : Result → Shared → Prop) (g : Array GenState) (d : Drawn) (os : OsState) (h' : Heap) (tk : Nat), Deep nn A → (∀ a o, h.get? a = some o → h'.get? a = some o) →
    (∀ h'' tk' n t, Post h' h'' n [] → R (.ok (.ret (.int y t))) ⟨h'', g, d, tk', os⟩) → codeAny (model prog w) A (.call (.ref 51) ⟨[.ref I, .ref T, .ref T'], []⟩) R ⟨h', g, d, tk, os⟩
theorem Cmps.mono {prog : Program} {w : World} {nn nn' : Nat} {h h' : Heap} {I T T' : Addr} {y : Int} (c : Cmps prog w nn h I T T' y) (hn : nn ≤ nn') (k : ∀ a o, h.get? a = some o → h'.get? a = some o) : Cmps prog w nn' h' I T T' y :=
  fun A R g d os h2 tk L k2 H => c A R g d os h2 tk (L.less hn) (fun b o e => k2 _ _ (k b o e)) H
noncomputable def opB : CmpOp → Int → Bool
  | .Lt, y => decide (y < 0)
  | .Gt, y => decide (y > 0)
  | .Eq, y => y == 0
  | .LtE, y => decide (y ≤ 0)
  | .GtE, y => decide (y ≥ 0)
  | _, y => !(y == 0)
section
variable {prog : Program} {w : World} {A : Around} {R : Result → Shared → Prop} {h : Heap} {g : Array GenState} {d : Drawn} {tk : Nat} {os : OsState} {b1 b2 : Bool} {q : Params} {k : KA} {X U a da ta b db tb i : Nat} {T : Nat → Nat} {y : Int}
theorem kMLt {nn : Nat} (L : Deep (nn + 40) A) (hk : Kok k) (B : Bs b1 b2 q w h) (hF : ∀ p ∈ kRF (PX b1 b2 q) k X T U a da ta b db tb i, h.get? p.1 = some p.2) (C : Cmps prog w nn h i ta tb y)
    (H : ∀ h' tk' n, Post h h' n [] → R (.ok (.ret (.bool (opB .Lt y)))) ⟨h', g, d, tk', os⟩) :
    codeAny (model prog w) A (.call (.ref k.f1) ⟨[.ref a, .ref b], []⟩) R ⟨h, g, d, tk, os⟩ := by
  have hw := B.hw
  have hP : (VM9 (PX b1 b2 q) prog).P = ⟨prog, w.params⟩ := by rw [hw]; rfl
  obtain ⟨N, hN⟩ : ∃ N, N = h.objs.size := ⟨_, rfl⟩
  have D0 : Rep h ⟨kt (PX b1 b2 q), kRF (PX b1 b2 q) k X T U a da ta b db tb i, [], [], N, tk⟩ h := B.startN hN.symm hF
  refine start (V := VM9 (PX b1 b2 q) prog) L hP 100000 0 [15,0,33,0,1,0,1,0,1,0,1,1,9,0,1,0,48,0,0,0,0,0,3,0,48,0,0,0,0,0,3,0,6,0,6,0,0,0,0,0,3,0,6,0,6,0,6,0,48,0,0,0,6,0,6,0,6,0,6,0,48,0,0,0,48,0,1,0,51,0,0,0,0,0,3,0,51,0,0,0,0,0,3,0,6,0,6,0,0,0,0,0,3,0,6,0,6,0,6,0,51,0,0,0,6,0,6,0,6,0,6,0,51,0,0,0,51,0,54,1,54,0] D0 rfl ?_
  refine good_hole (n := nn + 20) L (c := .call (.ref 51) ⟨[.ref i, .ref ta, .ref tb], []⟩) (pp := []) (by generalize b1 = b; revert b hk; generalize k = i; revert i; exact k8B (by kernel_rfl)) trivial fun h1 L1 D1 => ?_
  have D2 := D1.toF (tk := 0) (T := kt (PX b1 b2 q)) (F := kRF (PX b1 b2 q) k X T U a da ta b db tb i) (Z := []) (B := []) (nx := N + 1) [] (by generalize b1 = b; revert b hk; generalize k = i; revert i; exact k8B (by kernel_rfl)) (by generalize b1 = b; revert b hk; generalize k = i; revert i; exact k8B (by kernel_rfl)) rfl
  refine C _ _ g d os h1 _ (L1.less (by omega)) (fun a o e => D2.kp a o e fun _ hz => nomatch hz) fun h2 tk2 n t P2 => ?_
  have D3 := D2.andN P2
  refine back (V := VM9 (PX b1 b2 q) prog) L hP 100000 0 [] (tk := tk2) D3 ?_
  refine good_done (r := .ok (.ret (.bool (decide (y < 0))))) (pp := []) (by generalize b1 = b; revert b hk; generalize k = i; revert i; exact k8B (by kernel_rfl)) trivial fun h3 D4 => ?_
  exact H _ _ _ (Rep.post (F' := []) (n := n) (D4.toF (tk := 0) (T := kt (PX b1 b2 q)) (F := kRF (PX b1 b2 q) k X T U a da ta b db tb i) (Z := []) (B := []) (nx := n) [] (by generalize b1 = b; revert b hk; generalize k = i; revert i; exact k8B (by kernel_rfl)) (by generalize b1 = b; revert b hk; generalize k = i; revert i; exact k8B (by kernel_rfl)) rfl) [] rfl)
theorem kRcLt {nn : Nat} (hk : Kok k) (B : Bs b1 b2 q w h) (hF : ∀ p ∈ kRF (PX b1 b2 q) k X T U a da ta b db tb i, h.get? p.1 = some p.2) (C : Cmps prog w nn h i ta tb y) : Asks prog w (nn + 80) h .Lt (.ref a) (.ref b) (opB .Lt y) := by
  intro A g d os h' tk Q E L kp H
  have B' := B.more kp
  have hw := B.hw
  have hP : (VK9 (PX b1 b2 q) prog).P = ⟨prog, w.params⟩ := by rw [hw]; rfl
  obtain ⟨N, hN⟩ : ∃ N, N = h'.objs.size := ⟨_, rfl⟩
  have D0 : Rep h' ⟨kt (PX b1 b2 q), kRF (PX b1 b2 q) k X T U a da ta b db tb i, [], [], N, tk⟩ h' := B'.startN hN.symm (fun p hp => kp _ _ (hF p hp))
  refine rich_of L ?_
  refine piece_of rfl Flow.ret L (V := VK9 (PX b1 b2 q) prog) hP 100000 0 (hz [48,51,48,0,0,3,15]) D0 ?_
  refine good_hole (n := nn + 60) L (c := .call (.ref k.f1) ⟨[.ref a, .ref b], []⟩) (pp := []) (by generalize b1 = b; revert b hk; generalize k = i; revert i; exact k8B (by kernel_rfl)) trivial fun h1 L1 D1 => ?_
  have D2 := D1.toF (tk := 0) (T := kt (PX b1 b2 q)) (F := kRF (PX b1 b2 q) k X T U a da ta b db tb i) (Z := []) (B := []) (nx := N) [] (by generalize b1 = b; revert b hk; generalize k = i; revert i; exact k8B (by kernel_rfl)) (by generalize b1 = b; revert b hk; generalize k = i; revert i; exact k8B (by kernel_rfl)) rfl
  refine kMLt (nn := nn) (L1.less (by omega)) hk (D2.bs hw) (fun p hp => D2.F p hp) (C.mono (Nat.le_refl _) fun a o e => D2.kp _ _ (kp _ _ e) fun _ hz => nomatch hz) fun h2 tk2 n P2 => ?_
  have D3 := D2.andN P2
  refine back (V := VK9 (PX b1 b2 q) prog) L hP 100000 0 [] (tk := tk2) D3 ?_
  refine good_done (r := .ok (.ret (.bool (opB .Lt y)))) (pp := []) (by generalize b1 = b; revert b hk; generalize k = i; revert i; exact k8B (by kernel_rfl)) trivial fun h3 D4 => encR retI ?_
  exact H _ _ _ (Rep.post (F' := []) (n := n) (D4.toF (tk := 0) (T := kt (PX b1 b2 q)) (F := kRF (PX b1 b2 q) k X T U a da ta b db tb i) (Z := []) (B := []) (nx := n) [] (by generalize b1 = b; revert b hk; generalize k = i; revert i; exact k8B (by kernel_rfl)) (by generalize b1 = b; revert b hk; generalize k = i; revert i; exact k8B (by kernel_rfl)) rfl) [] rfl)
theorem kMGt {nn : Nat} (L : Deep (nn + 40) A) (hk : Kok k) (B : Bs b1 b2 q w h) (hF : ∀ p ∈ kRF (PX b1 b2 q) k X T U a da ta b db tb i, h.get? p.1 = some p.2) (C : Cmps prog w nn h i ta tb y)
    (H : ∀ h' tk' n, Post h h' n [] → R (.ok (.ret (.bool (opB .Gt y)))) ⟨h', g, d, tk', os⟩) :
    codeAny (model prog w) A (.call (.ref k.f2) ⟨[.ref a, .ref b], []⟩) R ⟨h, g, d, tk, os⟩ := by
  have hw := B.hw
  have hP : (VM9 (PX b1 b2 q) prog).P = ⟨prog, w.params⟩ := by rw [hw]; rfl
  obtain ⟨N, hN⟩ : ∃ N, N = h.objs.size := ⟨_, rfl⟩
  have D0 : Rep h ⟨kt (PX b1 b2 q), kRF (PX b1 b2 q) k X T U a da ta b db tb i, [], [], N, tk⟩ h := B.startN hN.symm hF
  refine start (V := VM9 (PX b1 b2 q) prog) L hP 100000 0 [18,0,36,0,1,0,1,0,1,0,1,1,9,0,1,0,48,0,0,0,0,0,3,0,48,0,0,0,0,0,3,0,6,0,6,0,0,0,0,0,3,0,6,0,6,0,6,0,48,0,0,0,6,0,6,0,6,0,6,0,48,0,0,0,48,0,1,0,51,0,0,0,0,0,3,0,51,0,0,0,0,0,3,0,6,0,6,0,0,0,0,0,3,0,6,0,6,0,6,0,51,0,0,0,6,0,6,0,6,0,6,0,51,0,0,0,51,0,54,1,54,0] D0 rfl ?_
  refine good_hole (n := nn + 20) L (c := .call (.ref 51) ⟨[.ref i, .ref ta, .ref tb], []⟩) (pp := []) (by generalize b1 = b; revert b hk; generalize k = i; revert i; exact k8B (by kernel_rfl)) trivial fun h1 L1 D1 => ?_
  have D2 := D1.toF (tk := 0) (T := kt (PX b1 b2 q)) (F := kRF (PX b1 b2 q) k X T U a da ta b db tb i) (Z := []) (B := []) (nx := N + 1) [] (by generalize b1 = b; revert b hk; generalize k = i; revert i; exact k8B (by kernel_rfl)) (by generalize b1 = b; revert b hk; generalize k = i; revert i; exact k8B (by kernel_rfl)) rfl
  refine C _ _ g d os h1 _ (L1.less (by omega)) (fun a o e => D2.kp a o e fun _ hz => nomatch hz) fun h2 tk2 n t P2 => ?_
  have D3 := D2.andN P2
  refine back (V := VM9 (PX b1 b2 q) prog) L hP 100000 0 [] (tk := tk2) D3 ?_
  refine good_done (r := .ok (.ret (.bool (decide (y > 0))))) (pp := []) (by generalize b1 = b; revert b hk; generalize k = i; revert i; exact k8B (by kernel_rfl)) trivial fun h3 D4 => ?_
  exact H _ _ _ (Rep.post (F' := []) (n := n) (D4.toF (tk := 0) (T := kt (PX b1 b2 q)) (F := kRF (PX b1 b2 q) k X T U a da ta b db tb i) (Z := []) (B := []) (nx := n) [] (by generalize b1 = b; revert b hk; generalize k = i; revert i; exact k8B (by kernel_rfl)) (by generalize b1 = b; revert b hk; generalize k = i; revert i; exact k8B (by kernel_rfl)) rfl) [] rfl)
theorem kRcGt {nn : Nat} (hk : Kok k) (B : Bs b1 b2 q w h) (hF : ∀ p ∈ kRF (PX b1 b2 q) k X T U a da ta b db tb i, h.get? p.1 = some p.2) (C : Cmps prog w nn h i ta tb y) : Asks prog w (nn + 80) h .Gt (.ref a) (.ref b) (opB .Gt y) := by
  intro A g d os h' tk Q E L kp H
  have B' := B.more kp
  have hw := B.hw
  have hP : (VK9 (PX b1 b2 q) prog).P = ⟨prog, w.params⟩ := by rw [hw]; rfl
  obtain ⟨N, hN⟩ : ∃ N, N = h'.objs.size := ⟨_, rfl⟩
  have D0 : Rep h' ⟨kt (PX b1 b2 q), kRF (PX b1 b2 q) k X T U a da ta b db tb i, [], [], N, tk⟩ h' := B'.startN hN.symm (fun p hp => kp _ _ (hF p hp))
  refine rich_of L ?_
  refine piece_of rfl Flow.ret L (V := VK9 (PX b1 b2 q) prog) hP 100000 0 (hz [48,51,48,0,0,3,18]) D0 ?_
  refine good_hole (n := nn + 60) L (c := .call (.ref k.f2) ⟨[.ref a, .ref b], []⟩) (pp := []) (by generalize b1 = b; revert b hk; generalize k = i; revert i; exact k8B (by kernel_rfl)) trivial fun h1 L1 D1 => ?_
  have D2 := D1.toF (tk := 0) (T := kt (PX b1 b2 q)) (F := kRF (PX b1 b2 q) k X T U a da ta b db tb i) (Z := []) (B := []) (nx := N) [] (by generalize b1 = b; revert b hk; generalize k = i; revert i; exact k8B (by kernel_rfl)) (by generalize b1 = b; revert b hk; generalize k = i; revert i; exact k8B (by kernel_rfl)) rfl
  refine kMGt (nn := nn) (L1.less (by omega)) hk (D2.bs hw) (fun p hp => D2.F p hp) (C.mono (Nat.le_refl _) fun a o e => D2.kp _ _ (kp _ _ e) fun _ hz => nomatch hz) fun h2 tk2 n P2 => ?_
  have D3 := D2.andN P2
  refine back (V := VK9 (PX b1 b2 q) prog) L hP 100000 0 [] (tk := tk2) D3 ?_
  refine good_done (r := .ok (.ret (.bool (opB .Gt y)))) (pp := []) (by generalize b1 = b; revert b hk; generalize k = i; revert i; exact k8B (by kernel_rfl)) trivial fun h3 D4 => encR retI ?_
  exact H _ _ _ (Rep.post (F' := []) (n := n) (D4.toF (tk := 0) (T := kt (PX b1 b2 q)) (F := kRF (PX b1 b2 q) k X T U a da ta b db tb i) (Z := []) (B := []) (nx := n) [] (by generalize b1 = b; revert b hk; generalize k = i; revert i; exact k8B (by kernel_rfl)) (by generalize b1 = b; revert b hk; generalize k = i; revert i; exact k8B (by kernel_rfl)) rfl) [] rfl)
theorem kMEq {nn : Nat} (L : Deep (nn + 40) A) (hk : Kok k) (B : Bs b1 b2 q w h) (hF : ∀ p ∈ kRF (PX b1 b2 q) k X T U a da ta b db tb i, h.get? p.1 = some p.2) (C : Cmps prog w nn h i ta tb y)
    (H : ∀ h' tk' n, Post h h' n [] → R (.ok (.ret (.bool (opB .Eq y)))) ⟨h', g, d, tk', os⟩) :
    codeAny (model prog w) A (.call (.ref k.f3) ⟨[.ref a, .ref b], []⟩) R ⟨h, g, d, tk, os⟩ := by
  have hw := B.hw
  have hP : (VM9 (PX b1 b2 q) prog).P = ⟨prog, w.params⟩ := by rw [hw]; rfl
  obtain ⟨N, hN⟩ : ∃ N, N = h.objs.size := ⟨_, rfl⟩
  have D0 : Rep h ⟨kt (PX b1 b2 q), kRF (PX b1 b2 q) k X T U a da ta b db tb i, [], [], N, tk⟩ h := B.startN hN.symm hF
  refine start (V := VM9 (PX b1 b2 q) prog) L hP 100000 0 [21,0,39,0,1,0,1,0,1,0,1,1,9,0,1,0,48,0,0,0,0,0,3,0,48,0,0,0,0,0,3,0,6,0,6,0,0,0,0,0,3,0,6,0,6,0,6,0,48,0,0,0,6,0,6,0,6,0,6,0,48,0,0,0,48,0,1,0,51,0,0,0,0,0,3,0,51,0,0,0,0,0,3,0,6,0,6,0,0,0,0,0,3,0,6,0,6,0,6,0,51,0,0,0,6,0,6,0,6,0,6,0,51,0,0,0,51,0,54,1,54,0] D0 rfl ?_
  refine good_hole (n := nn + 20) L (c := .call (.ref 51) ⟨[.ref i, .ref ta, .ref tb], []⟩) (pp := []) (by generalize b1 = b; revert b hk; generalize k = i; revert i; exact k8B (by kernel_rfl)) trivial fun h1 L1 D1 => ?_
  have D2 := D1.toF (tk := 0) (T := kt (PX b1 b2 q)) (F := kRF (PX b1 b2 q) k X T U a da ta b db tb i) (Z := []) (B := []) (nx := N + 1) [] (by generalize b1 = b; revert b hk; generalize k = i; revert i; exact k8B (by kernel_rfl)) (by generalize b1 = b; revert b hk; generalize k = i; revert i; exact k8B (by kernel_rfl)) rfl
  refine C _ _ g d os h1 _ (L1.less (by omega)) (fun a o e => D2.kp a o e fun _ hz => nomatch hz) fun h2 tk2 n t P2 => ?_
  have D3 := D2.andN P2
  refine back (V := VM9 (PX b1 b2 q) prog) L hP 100000 0 [] (tk := tk2) D3 ?_
  refine good_done (r := .ok (.ret (.bool (y == 0)))) (pp := []) (by generalize b1 = b; revert b hk; generalize k = i; revert i; exact k8B (by kernel_rfl)) trivial fun h3 D4 => ?_
  exact H _ _ _ (Rep.post (F' := []) (n := n) (D4.toF (tk := 0) (T := kt (PX b1 b2 q)) (F := kRF (PX b1 b2 q) k X T U a da ta b db tb i) (Z := []) (B := []) (nx := n) [] (by generalize b1 = b; revert b hk; generalize k = i; revert i; exact k8B (by kernel_rfl)) (by generalize b1 = b; revert b hk; generalize k = i; revert i; exact k8B (by kernel_rfl)) rfl) [] rfl)
theorem kRcEq {nn : Nat} (hk : Kok k) (B : Bs b1 b2 q w h) (hF : ∀ p ∈ kRF (PX b1 b2 q) k X T U a da ta b db tb i, h.get? p.1 = some p.2) (C : Cmps prog w nn h i ta tb y) : Asks prog w (nn + 80) h .Eq (.ref a) (.ref b) (opB .Eq y) := by
  intro A g d os h' tk Q E L kp H
  have B' := B.more kp
  have hw := B.hw
  have hP : (VK9 (PX b1 b2 q) prog).P = ⟨prog, w.params⟩ := by rw [hw]; rfl
  obtain ⟨N, hN⟩ : ∃ N, N = h'.objs.size := ⟨_, rfl⟩
  have D0 : Rep h' ⟨kt (PX b1 b2 q), kRF (PX b1 b2 q) k X T U a da ta b db tb i, [], [], N, tk⟩ h' := B'.startN hN.symm (fun p hp => kp _ _ (hF p hp))
  refine rich_of L ?_
  refine piece_of rfl Flow.ret L (V := VK9 (PX b1 b2 q) prog) hP 100000 0 (hz [48,51,48,0,0,3,21]) D0 ?_
  refine good_hole (n := nn + 60) L (c := .call (.ref k.f3) ⟨[.ref a, .ref b], []⟩) (pp := []) (by generalize b1 = b; revert b hk; generalize k = i; revert i; exact k8B (by kernel_rfl)) trivial fun h1 L1 D1 => ?_
  have D2 := D1.toF (tk := 0) (T := kt (PX b1 b2 q)) (F := kRF (PX b1 b2 q) k X T U a da ta b db tb i) (Z := []) (B := []) (nx := N) [] (by generalize b1 = b; revert b hk; generalize k = i; revert i; exact k8B (by kernel_rfl)) (by generalize b1 = b; revert b hk; generalize k = i; revert i; exact k8B (by kernel_rfl)) rfl
  refine kMEq (nn := nn) (L1.less (by omega)) hk (D2.bs hw) (fun p hp => D2.F p hp) (C.mono (Nat.le_refl _) fun a o e => D2.kp _ _ (kp _ _ e) fun _ hz => nomatch hz) fun h2 tk2 n P2 => ?_
  have D3 := D2.andN P2
  refine back (V := VK9 (PX b1 b2 q) prog) L hP 100000 0 [] (tk := tk2) D3 ?_
  refine good_done (r := .ok (.ret (.bool (opB .Eq y)))) (pp := []) (by generalize b1 = b; revert b hk; generalize k = i; revert i; exact k8B (by kernel_rfl)) trivial fun h3 D4 => encR retI ?_
  exact H _ _ _ (Rep.post (F' := []) (n := n) (D4.toF (tk := 0) (T := kt (PX b1 b2 q)) (F := kRF (PX b1 b2 q) k X T U a da ta b db tb i) (Z := []) (B := []) (nx := n) [] (by generalize b1 = b; revert b hk; generalize k = i; revert i; exact k8B (by kernel_rfl)) (by generalize b1 = b; revert b hk; generalize k = i; revert i; exact k8B (by kernel_rfl)) rfl) [] rfl)
theorem kMLtE {nn : Nat} (L : Deep (nn + 40) A) (hk : Kok k) (B : Bs b1 b2 q w h) (hF : ∀ p ∈ kRF (PX b1 b2 q) k X T U a da ta b db tb i, h.get? p.1 = some p.2) (C : Cmps prog w nn h i ta tb y)
    (H : ∀ h' tk' n, Post h h' n [] → R (.ok (.ret (.bool (opB .LtE y)))) ⟨h', g, d, tk', os⟩) :
    codeAny (model prog w) A (.call (.ref k.f4) ⟨[.ref a, .ref b], []⟩) R ⟨h, g, d, tk, os⟩ := by
  have hw := B.hw
  have hP : (VM9 (PX b1 b2 q) prog).P = ⟨prog, w.params⟩ := by rw [hw]; rfl
  obtain ⟨N, hN⟩ : ∃ N, N = h.objs.size := ⟨_, rfl⟩
  have D0 : Rep h ⟨kt (PX b1 b2 q), kRF (PX b1 b2 q) k X T U a da ta b db tb i, [], [], N, tk⟩ h := B.startN hN.symm hF
  refine start (V := VM9 (PX b1 b2 q) prog) L hP 100000 0 [24,0,42,0,1,0,1,0,1,0,1,1,9,0,1,0,48,0,0,0,0,0,3,0,48,0,0,0,0,0,3,0,6,0,6,0,0,0,0,0,3,0,6,0,6,0,6,0,48,0,0,0,6,0,6,0,6,0,6,0,48,0,0,0,48,0,1,0,51,0,0,0,0,0,3,0,51,0,0,0,0,0,3,0,6,0,6,0,0,0,0,0,3,0,6,0,6,0,6,0,51,0,0,0,6,0,6,0,6,0,6,0,51,0,0,0,51,0,54,1,54,0] D0 rfl ?_
  refine good_hole (n := nn + 20) L (c := .call (.ref 51) ⟨[.ref i, .ref ta, .ref tb], []⟩) (pp := []) (by generalize b1 = b; revert b hk; generalize k = i; revert i; exact k8B (by kernel_rfl)) trivial fun h1 L1 D1 => ?_
  have D2 := D1.toF (tk := 0) (T := kt (PX b1 b2 q)) (F := kRF (PX b1 b2 q) k X T U a da ta b db tb i) (Z := []) (B := []) (nx := N + 1) [] (by generalize b1 = b; revert b hk; generalize k = i; revert i; exact k8B (by kernel_rfl)) (by generalize b1 = b; revert b hk; generalize k = i; revert i; exact k8B (by kernel_rfl)) rfl
  refine C _ _ g d os h1 _ (L1.less (by omega)) (fun a o e => D2.kp a o e fun _ hz => nomatch hz) fun h2 tk2 n t P2 => ?_
  have D3 := D2.andN P2
  refine back (V := VM9 (PX b1 b2 q) prog) L hP 100000 0 [] (tk := tk2) D3 ?_
  refine good_done (r := .ok (.ret (.bool (decide (y ≤ 0))))) (pp := []) (by generalize b1 = b; revert b hk; generalize k = i; revert i; exact k8B (by kernel_rfl)) trivial fun h3 D4 => ?_
  exact H _ _ _ (Rep.post (F' := []) (n := n) (D4.toF (tk := 0) (T := kt (PX b1 b2 q)) (F := kRF (PX b1 b2 q) k X T U a da ta b db tb i) (Z := []) (B := []) (nx := n) [] (by generalize b1 = b; revert b hk; generalize k = i; revert i; exact k8B (by kernel_rfl)) (by generalize b1 = b; revert b hk; generalize k = i; revert i; exact k8B (by kernel_rfl)) rfl) [] rfl)
theorem kRcLtE {nn : Nat} (hk : Kok k) (B : Bs b1 b2 q w h) (hF : ∀ p ∈ kRF (PX b1 b2 q) k X T U a da ta b db tb i, h.get? p.1 = some p.2) (C : Cmps prog w nn h i ta tb y) : Asks prog w (nn + 80) h .LtE (.ref a) (.ref b) (opB .LtE y) := by
  intro A g d os h' tk Q E L kp H
  have B' := B.more kp
  have hw := B.hw
  have hP : (VK9 (PX b1 b2 q) prog).P = ⟨prog, w.params⟩ := by rw [hw]; rfl
  obtain ⟨N, hN⟩ : ∃ N, N = h'.objs.size := ⟨_, rfl⟩
  have D0 : Rep h' ⟨kt (PX b1 b2 q), kRF (PX b1 b2 q) k X T U a da ta b db tb i, [], [], N, tk⟩ h' := B'.startN hN.symm (fun p hp => kp _ _ (hF p hp))
  refine rich_of L ?_
  refine piece_of rfl Flow.ret L (V := VK9 (PX b1 b2 q) prog) hP 100000 0 (hz [48,51,48,0,0,3,24]) D0 ?_
  refine good_hole (n := nn + 60) L (c := .call (.ref k.f4) ⟨[.ref a, .ref b], []⟩) (pp := []) (by generalize b1 = b; revert b hk; generalize k = i; revert i; exact k8B (by kernel_rfl)) trivial fun h1 L1 D1 => ?_
  have D2 := D1.toF (tk := 0) (T := kt (PX b1 b2 q)) (F := kRF (PX b1 b2 q) k X T U a da ta b db tb i) (Z := []) (B := []) (nx := N) [] (by generalize b1 = b; revert b hk; generalize k = i; revert i; exact k8B (by kernel_rfl)) (by generalize b1 = b; revert b hk; generalize k = i; revert i; exact k8B (by kernel_rfl)) rfl
  refine kMLtE (nn := nn) (L1.less (by omega)) hk (D2.bs hw) (fun p hp => D2.F p hp) (C.mono (Nat.le_refl _) fun a o e => D2.kp _ _ (kp _ _ e) fun _ hz => nomatch hz) fun h2 tk2 n P2 => ?_
  have D3 := D2.andN P2
  refine back (V := VK9 (PX b1 b2 q) prog) L hP 100000 0 [] (tk := tk2) D3 ?_
  refine good_done (r := .ok (.ret (.bool (opB .LtE y)))) (pp := []) (by generalize b1 = b; revert b hk; generalize k = i; revert i; exact k8B (by kernel_rfl)) trivial fun h3 D4 => encR retI ?_
  exact H _ _ _ (Rep.post (F' := []) (n := n) (D4.toF (tk := 0) (T := kt (PX b1 b2 q)) (F := kRF (PX b1 b2 q) k X T U a da ta b db tb i) (Z := []) (B := []) (nx := n) [] (by generalize b1 = b; revert b hk; generalize k = i; revert i; exact k8B (by kernel_rfl)) (by generalize b1 = b; revert b hk; generalize k = i; revert i; exact k8B (by kernel_rfl)) rfl) [] rfl)
theorem kMGtE {nn : Nat} (L : Deep (nn + 40) A) (hk : Kok k) (B : Bs b1 b2 q w h) (hF : ∀ p ∈ kRF (PX b1 b2 q) k X T U a da ta b db tb i, h.get? p.1 = some p.2) (C : Cmps prog w nn h i ta tb y)
    (H : ∀ h' tk' n, Post h h' n [] → R (.ok (.ret (.bool (opB .GtE y)))) ⟨h', g, d, tk', os⟩) :
    codeAny (model prog w) A (.call (.ref k.f5) ⟨[.ref a, .ref b], []⟩) R ⟨h, g, d, tk, os⟩ := by
  have hw := B.hw
  have hP : (VM9 (PX b1 b2 q) prog).P = ⟨prog, w.params⟩ := by rw [hw]; rfl
  obtain ⟨N, hN⟩ : ∃ N, N = h.objs.size := ⟨_, rfl⟩
  have D0 : Rep h ⟨kt (PX b1 b2 q), kRF (PX b1 b2 q) k X T U a da ta b db tb i, [], [], N, tk⟩ h := B.startN hN.symm hF
  refine start (V := VM9 (PX b1 b2 q) prog) L hP 100000 0 [27,0,45,0,1,0,1,0,1,0,1,1,9,0,1,0,48,0,0,0,0,0,3,0,48,0,0,0,0,0,3,0,6,0,6,0,0,0,0,0,3,0,6,0,6,0,6,0,48,0,0,0,6,0,6,0,6,0,6,0,48,0,0,0,48,0,1,0,51,0,0,0,0,0,3,0,51,0,0,0,0,0,3,0,6,0,6,0,0,0,0,0,3,0,6,0,6,0,6,0,51,0,0,0,6,0,6,0,6,0,6,0,51,0,0,0,51,0,54,1,54,0] D0 rfl ?_
  refine good_hole (n := nn + 20) L (c := .call (.ref 51) ⟨[.ref i, .ref ta, .ref tb], []⟩) (pp := []) (by generalize b1 = b; revert b hk; generalize k = i; revert i; exact k8B (by kernel_rfl)) trivial fun h1 L1 D1 => ?_
  have D2 := D1.toF (tk := 0) (T := kt (PX b1 b2 q)) (F := kRF (PX b1 b2 q) k X T U a da ta b db tb i) (Z := []) (B := []) (nx := N + 1) [] (by generalize b1 = b; revert b hk; generalize k = i; revert i; exact k8B (by kernel_rfl)) (by generalize b1 = b; revert b hk; generalize k = i; revert i; exact k8B (by kernel_rfl)) rfl
  refine C _ _ g d os h1 _ (L1.less (by omega)) (fun a o e => D2.kp a o e fun _ hz => nomatch hz) fun h2 tk2 n t P2 => ?_
  have D3 := D2.andN P2
  refine back (V := VM9 (PX b1 b2 q) prog) L hP 100000 0 [] (tk := tk2) D3 ?_
  refine good_done (r := .ok (.ret (.bool (decide (y ≥ 0))))) (pp := []) (by generalize b1 = b; revert b hk; generalize k = i; revert i; exact k8B (by kernel_rfl)) trivial fun h3 D4 => ?_
  exact H _ _ _ (Rep.post (F' := []) (n := n) (D4.toF (tk := 0) (T := kt (PX b1 b2 q)) (F := kRF (PX b1 b2 q) k X T U a da ta b db tb i) (Z := []) (B := []) (nx := n) [] (by generalize b1 = b; revert b hk; generalize k = i; revert i; exact k8B (by kernel_rfl)) (by generalize b1 = b; revert b hk; generalize k = i; revert i; exact k8B (by kernel_rfl)) rfl) [] rfl)
theorem kRcGtE {nn : Nat} (hk : Kok k) (B : Bs b1 b2 q w h) (hF : ∀ p ∈ kRF (PX b1 b2 q) k X T U a da ta b db tb i, h.get? p.1 = some p.2) (C : Cmps prog w nn h i ta tb y) : Asks prog w (nn + 80) h .GtE (.ref a) (.ref b) (opB .GtE y) := by
  intro A g d os h' tk Q E L kp H
  have B' := B.more kp
  have hw := B.hw
  have hP : (VK9 (PX b1 b2 q) prog).P = ⟨prog, w.params⟩ := by rw [hw]; rfl
  obtain ⟨N, hN⟩ : ∃ N, N = h'.objs.size := ⟨_, rfl⟩
  have D0 : Rep h' ⟨kt (PX b1 b2 q), kRF (PX b1 b2 q) k X T U a da ta b db tb i, [], [], N, tk⟩ h' := B'.startN hN.symm (fun p hp => kp _ _ (hF p hp))
  refine rich_of L ?_
  refine piece_of rfl Flow.ret L (V := VK9 (PX b1 b2 q) prog) hP 100000 0 (hz [48,51,48,0,0,3,27]) D0 ?_
  refine good_hole (n := nn + 60) L (c := .call (.ref k.f5) ⟨[.ref a, .ref b], []⟩) (pp := []) (by generalize b1 = b; revert b hk; generalize k = i; revert i; exact k8B (by kernel_rfl)) trivial fun h1 L1 D1 => ?_
  have D2 := D1.toF (tk := 0) (T := kt (PX b1 b2 q)) (F := kRF (PX b1 b2 q) k X T U a da ta b db tb i) (Z := []) (B := []) (nx := N) [] (by generalize b1 = b; revert b hk; generalize k = i; revert i; exact k8B (by kernel_rfl)) (by generalize b1 = b; revert b hk; generalize k = i; revert i; exact k8B (by kernel_rfl)) rfl
  refine kMGtE (nn := nn) (L1.less (by omega)) hk (D2.bs hw) (fun p hp => D2.F p hp) (C.mono (Nat.le_refl _) fun a o e => D2.kp _ _ (kp _ _ e) fun _ hz => nomatch hz) fun h2 tk2 n P2 => ?_
  have D3 := D2.andN P2
  refine back (V := VK9 (PX b1 b2 q) prog) L hP 100000 0 [] (tk := tk2) D3 ?_
  refine good_done (r := .ok (.ret (.bool (opB .GtE y)))) (pp := []) (by generalize b1 = b; revert b hk; generalize k = i; revert i; exact k8B (by kernel_rfl)) trivial fun h3 D4 => encR retI ?_
  exact H _ _ _ (Rep.post (F' := []) (n := n) (D4.toF (tk := 0) (T := kt (PX b1 b2 q)) (F := kRF (PX b1 b2 q) k X T U a da ta b db tb i) (Z := []) (B := []) (nx := n) [] (by generalize b1 = b; revert b hk; generalize k = i; revert i; exact k8B (by kernel_rfl)) (by generalize b1 = b; revert b hk; generalize k = i; revert i; exact k8B (by kernel_rfl)) rfl) [] rfl)
end
end Mine
namespace Mine
open PySem PySem.W PySem.W.X PySem.Spec PySem.Calls PyProof.Rows
open PySem.W.Fast
section
variable {prog : Program} {w : World} {A : Around} {R : Result → Shared → Prop} {h : Heap} {g : Array GenState} {d : Drawn} {tk : Nat} {os : OsState} {b1 b2 : Bool} {q : Params} {k : KA} {X U a da ta b db tb i : Nat} {T : Nat → Nat} {y : Int}
theorem encO_some {v : Value} {a : Option Value} (h : encO a = .ret v) : a = some v := by
  cases a with
  | none => cases h
  | some x => cases h; rfl
theorem kCsEq {nn : Nat} (L : Deep (nn + 60) A) (hk : Kok k) (B : Bs b1 b2 q w h) (hF : ∀ p ∈ kRF (PX b1 b2 q) k X T U a da ta b db tb i, h.get? p.1 = some p.2) (C : Cmps prog w nn h i ta tb y) {Q : Option Value → Shared → Prop} {E : Value → Shared → Prop}
    (H : ∀ h' tk' n, Post h h' n [] → Q (some (.bool (opB .Eq y))) ⟨h', g, d, tk', os⟩) :
    wpAny (model prog w) A (callSpecialIfBound? (.ref a) (Str.ofString "__eq__") [.ref b]) Q E ⟨h, g, d, tk, os⟩ := by
  have hw := B.hw
  have hP : (VK9 (PX b1 b2 q) prog).P = ⟨prog, w.params⟩ := by rw [hw]; rfl
  obtain ⟨N, hN⟩ : ∃ N, N = h.objs.size := ⟨_, rfl⟩
  have D0 : Rep h ⟨kt (PX b1 b2 q), kRF (PX b1 b2 q) k X T U a da ta b db tb i, [], [], N, tk⟩ h := B.startN hN.symm hF
  refine piece_of (by rw [← te5748314443788414978] : callSpecialIfBound? (.ref a) (Str.ofString "__eq__") [.ref b] = tw5748314443788414978 (.ref a) (Str.ofString "__eq__") [.ref b]) encO L (V := VK9 (PX b1 b2 q) prog) hP 100000 0 (hz [48,0,0,3,21]) D0 ?_
  refine good_hole (n := nn + 40) L (c := .call (.ref k.f3) ⟨[.ref a, .ref b], []⟩) (pp := []) (by generalize b1 = b; revert b hk; generalize k = i; revert i; exact k8B (by kernel_rfl)) trivial fun h1 L1 D1 => ?_
  have D2 := D1.toF (tk := 0) (T := kt (PX b1 b2 q)) (F := kRF (PX b1 b2 q) k X T U a da ta b db tb i) (Z := []) (B := []) (nx := N) [] (by generalize b1 = b; revert b hk; generalize k = i; revert i; exact k8B (by kernel_rfl)) (by generalize b1 = b; revert b hk; generalize k = i; revert i; exact k8B (by kernel_rfl)) rfl
  refine kMEq (nn := nn) L1 hk (D2.bs hw) (fun p hp => D2.F p hp) (C.mono (Nat.le_refl _) fun a o e => D2.kp _ _ e fun _ hz => nomatch hz) fun h2 tk2 n P2 => ?_
  have D3 := D2.andN P2
  refine back (V := VK9 (PX b1 b2 q) prog) L hP 100000 0 [] (tk := tk2) D3 ?_
  refine good_done (r := .ok (.ret (.bool (opB .Eq y)))) (pp := []) (by generalize b1 = b; revert b hk; generalize k = i; revert i; exact k8B (by kernel_rfl)) trivial fun h3 D4 => encR (fun _ => encO_some) ?_
  exact H _ _ _ (Rep.post (F' := []) (n := n) (D4.toF (tk := 0) (T := kt (PX b1 b2 q)) (F := kRF (PX b1 b2 q) k X T U a da ta b db tb i) (Z := []) (B := []) (nx := n) [] (by generalize b1 = b; revert b hk; generalize k = i; revert i; exact k8B (by kernel_rfl)) (by generalize b1 = b; revert b hk; generalize k = i; revert i; exact k8B (by kernel_rfl)) rfl) [] rfl)
theorem kCsLt {nn : Nat} (L : Deep (nn + 60) A) (hk : Kok k) (B : Bs b1 b2 q w h) (hF : ∀ p ∈ kRF (PX b1 b2 q) k X T U a da ta b db tb i, h.get? p.1 = some p.2) (C : Cmps prog w nn h i ta tb y) {Q : Option Value → Shared → Prop} {E : Value → Shared → Prop}
    (H : ∀ h' tk' n, Post h h' n [] → Q (some (.bool (opB .Lt y))) ⟨h', g, d, tk', os⟩) :
    wpAny (model prog w) A (callSpecialIfBound? (.ref a) (Str.ofString "__lt__") [.ref b]) Q E ⟨h, g, d, tk, os⟩ := by
  have hw := B.hw
  have hP : (VK9 (PX b1 b2 q) prog).P = ⟨prog, w.params⟩ := by rw [hw]; rfl
  obtain ⟨N, hN⟩ : ∃ N, N = h.objs.size := ⟨_, rfl⟩
  have D0 : Rep h ⟨kt (PX b1 b2 q), kRF (PX b1 b2 q) k X T U a da ta b db tb i, [], [], N, tk⟩ h := B.startN hN.symm hF
  refine piece_of (by rw [← te5748314443788414978] : callSpecialIfBound? (.ref a) (Str.ofString "__lt__") [.ref b] = tw5748314443788414978 (.ref a) (Str.ofString "__lt__") [.ref b]) encO L (V := VK9 (PX b1 b2 q) prog) hP 100000 0 (hz [48,0,0,3,15]) D0 ?_
  refine good_hole (n := nn + 40) L (c := .call (.ref k.f1) ⟨[.ref a, .ref b], []⟩) (pp := []) (by generalize b1 = b; revert b hk; generalize k = i; revert i; exact k8B (by kernel_rfl)) trivial fun h1 L1 D1 => ?_
  have D2 := D1.toF (tk := 0) (T := kt (PX b1 b2 q)) (F := kRF (PX b1 b2 q) k X T U a da ta b db tb i) (Z := []) (B := []) (nx := N) [] (by generalize b1 = b; revert b hk; generalize k = i; revert i; exact k8B (by kernel_rfl)) (by generalize b1 = b; revert b hk; generalize k = i; revert i; exact k8B (by kernel_rfl)) rfl
  refine kMLt (nn := nn) L1 hk (D2.bs hw) (fun p hp => D2.F p hp) (C.mono (Nat.le_refl _) fun a o e => D2.kp _ _ e fun _ hz => nomatch hz) fun h2 tk2 n P2 => ?_
  have D3 := D2.andN P2
  refine back (V := VK9 (PX b1 b2 q) prog) L hP 100000 0 [] (tk := tk2) D3 ?_
  refine good_done (r := .ok (.ret (.bool (opB .Lt y)))) (pp := []) (by generalize b1 = b; revert b hk; generalize k = i; revert i; exact k8B (by kernel_rfl)) trivial fun h3 D4 => encR (fun _ => encO_some) ?_
  exact H _ _ _ (Rep.post (F' := []) (n := n) (D4.toF (tk := 0) (T := kt (PX b1 b2 q)) (F := kRF (PX b1 b2 q) k X T U a da ta b db tb i) (Z := []) (B := []) (nx := n) [] (by generalize b1 = b; revert b hk; generalize k = i; revert i; exact k8B (by kernel_rfl)) (by generalize b1 = b; revert b hk; generalize k = i; revert i; exact k8B (by kernel_rfl)) rfl) [] rfl)
theorem kRcNotEq {nn : Nat} (hk : Kok k) (B : Bs b1 b2 q w h) (hF : ∀ p ∈ kRF (PX b1 b2 q) k X T U a da ta b db tb i, h.get? p.1 = some p.2) (C : Cmps prog w nn h i ta tb y) : Asks prog w (nn + 120) h .NotEq (.ref a) (.ref b) (opB .NotEq y) := by
  intro A g d os h' tk Q E L kp H
  have B' := B.more kp
  have hw := B.hw
  have hP : (VK9 (PX b1 b2 q) prog).P = ⟨prog, w.params⟩ := by rw [hw]; rfl
  obtain ⟨N, hN⟩ : ∃ N, N = h'.objs.size := ⟨_, rfl⟩
  have D0 : Rep h' ⟨kt (PX b1 b2 q), kRF (PX b1 b2 q) k X T U a da ta b db tb i, [], [], N, tk⟩ h' := B'.startN hN.symm (fun p hp => kp _ _ (hF p hp))
  refine rich_of L ?_
  refine piece_of rfl Flow.ret L (V := VK9 (PX b1 b2 q) prog) hP 100000 0 (hz [48,51,48,0,0,3,48,0]) D0 ?_
  refine good_hole (n := nn + 100) L (c := .builtin "object.__ne__" ⟨[.ref a, .ref b], []⟩) (pp := []) (by generalize b1 = b; revert b hk; generalize k = i; revert i; exact k8B (by kernel_rfl)) trivial fun h1 L1 D1 => ?_
  have D2 := D1.toF (tk := 0) (T := kt (PX b1 b2 q)) (F := kRF (PX b1 b2 q) k X T U a da ta b db tb i) (Z := []) (B := []) (nx := N) [] (by generalize b1 = b; revert b hk; generalize k = i; revert i; exact k8B (by kernel_rfl)) (by generalize b1 = b; revert b hk; generalize k = i; revert i; exact k8B (by kernel_rfl)) rfl
  have L2 : Deep (nn + 60) ((ar A _).under (.builtin "object.__ne__" ⟨[.ref a, .ref b], []⟩)) := Deep.under (n := nn + 60) (k := 5) (L1.less (by omega)) rfl
  refine codeAny_builtin F.cmpEntry_ne ?_
  unfold Builtin.«object.__ne__»
  show wpAny _ _ (cRoomFor "comparison" [.ref a, .ref b] >>= _) _ _ _
  refine wpAny_bind (wpAny_cRoomFor L2.room ?_)
  refine wpAny_bind (kCsEq (nn := nn) L2 hk (D2.bs hw) (fun p hp => D2.F p hp) (C.mono (Nat.le_refl _) fun a o e => D2.kp _ _ (kp _ _ e) fun _ hz => nomatch hz) fun h2 tk2 n P2 => ?_)
  refine wpAny_bind (wpAny_truthy_bool ?_)
  refine wpAny_pure ?_
  have D3 := D2.andN P2
  refine back (V := VK9 (PX b1 b2 q) prog) L hP 100000 0 [] (tk := tk2) D3 ?_
  refine good_done (r := .ok (.ret (.bool (opB .NotEq y)))) (pp := []) (by generalize b1 = b; revert b hk; generalize k = i; revert i; exact k8B (by kernel_rfl)) trivial fun h3 D4 => encR retI ?_
  exact H _ _ _ (Rep.post (F' := []) (n := n) (D4.toF (tk := 0) (T := kt (PX b1 b2 q)) (F := kRF (PX b1 b2 q) k X T U a da ta b db tb i) (Z := []) (B := []) (nx := n) [] (by generalize b1 = b; revert b hk; generalize k = i; revert i; exact k8B (by kernel_rfl)) (by generalize b1 = b; revert b hk; generalize k = i; revert i; exact k8B (by kernel_rfl)) rfl) [] rfl)
theorem kLt {nn : Nat} (L : Deep (nn + 60) A) (hk : Kok k) (B : Bs b1 b2 q w h) (hF : ∀ p ∈ kRF (PX b1 b2 q) k X T U a da ta b db tb i, h.get? p.1 = some p.2) (C : Cmps prog w nn h i ta tb y) {Q : Bool → Shared → Prop} {E : Value → Shared → Prop}
    (H : ∀ h' tk' n, Post h h' n [] → Q (opB .Lt y) ⟨h', g, d, tk', os⟩) :
    wpAny (model prog w) A (keyLt' oneType' (.ref a) (.ref b)) Q E ⟨h, g, d, tk, os⟩ := by
  rw [keyLt'_oneType, oneLt'_eq]
  simp only [if_true]
  refine wpAny_bind (wpAny_cRoomFor L.room ?_)
  refine wpAny_bind (kCsLt (nn := nn) L hk B hF C fun h2 tk2 n P2 => ?_)
  exact wpAny_truthy_bool (H _ _ _ P2)
end
end Mine
namespace Mine
open PySem PySem.W PySem.W.X PySem.Spec PySem.Calls PyProof.Rows
open PySem.W.Fast
noncomputable def VQ1 (P : Params) (prog : Program) : Env9 := ⟨⟨prog, P⟩, fun c => match c with
  | .call (.ref _) _ => true
  | _ => false⟩
noncomputable def Kind1 (v : Value) : Prop := (∃ x t, v = .int x t) ∨ (∃ x t, v = .str x t) ∨ (∃ a, v = .ref a)
noncomputable def MkO (o : Obj) : Prop := ∃ fd, o = { cls := .type "function", data := .func fd }
theorem kVB {α : Type} {f g : Value → Bool → α} (h : (spV fun v => spB (f v)) = spV' fun v => spB' (g v)) : ∀ v, Kind1 v → ∀ b, f v b = g v b := fun _ hv => ckB (ckV (f := fun v => spB (f v)) (g := fun v => spB' (g v)) h hv)
theorem kVVB {α : Type} {f g : Value → Value → Bool → α} (h : (spV fun u => spV fun v => spB (f u v)) = spV' fun u => spV' fun v => spB' (g u v)) : ∀ u, Kind1 u → ∀ v, Kind1 v → ∀ b, f u v b = g u v b :=
  fun u hu => kVB (f := f u) (g := g u) (ckV (f := fun u => spV fun v => spB (f u v)) (g := fun u => spV' fun v => spB' (g u v)) h hu)
noncomputable def MkOk (prog : Program) (w : World) (nn : Nat) (h : Heap) (m row : Addr) (KP : Facts → Value → Prop) : Prop :=
  ∀ (A : Around) (R : Result → Shared → Prop) (g : Array GenState) (d : Drawn) (os : OsState) (h' : Heap) (tk : Nat), Deep nn A → (∀ a o, h.get? a = some o → h'.get? a = some o) →
    (∀ h'' tk' n F' v, Post h' h'' n F' → KP F' v → R (.ok (.ret v)) ⟨h'', g, d, tk', os⟩) → codeAny (model prog w) A (.call (.ref m) ⟨[.ref row], []⟩) R ⟨h', g, d, tk, os⟩
theorem MkOk.mono {prog : Program} {w : World} {nn nn' : Nat} {h h' : Heap} {m row : Addr} {KP : Facts → Value → Prop} (c : MkOk prog w nn h m row KP) (hn : nn ≤ nn') (k : ∀ a o, h.get? a = some o → h'.get? a = some o) : MkOk prog w nn' h' m row KP :=
  fun A R g d os h2 tk L k2 H => c A R g d os h2 tk (L.less hn) (fun b o e => k2 _ _ (k b o e)) H
section
variable {prog : Program} {w : World} {A : Around} {R : Result → Shared → Prop} {h : Heap} {g : Array GenState} {d : Drawn} {tk : Nat} {os : OsState} {b1 b2 : Bool} {q : Params} {k : KA} {X U : Nat} {T : Nat → Nat}
theorem kNew {nn : Nat} (L : Deep (nn + 40) A) (hk : Kok k) (B : Bs b1 b2 q w h) (hF : ∀ p ∈ kC (PX b1 b2 q) k X T ++ kcdF k.d U, h.get? p.1 = some p.2) {N t : Nat} (hN : h.objs.size = N)
    (H : ∀ h' tk', Post h h' (N + 3) [(N + 1, kI k.c N t)] → R (.ok (.ret (.ref (N + 1)))) ⟨h', g, d, tk', os⟩) :
    codeAny (model prog w) A (.call (.ref k.c) ⟨[.ref t], []⟩) R ⟨h, g, d, tk, os⟩ := by
  have hw := B.hw
  have hP : (V0 (PX b1 b2 q) prog).P = ⟨prog, w.params⟩ := by rw [hw]; rfl
  have D0 : Rep h ⟨kt (PX b1 b2 q), kC (PX b1 b2 q) k X T ++ kcdF k.d U, [], [], N, tk⟩ h := B.startN hN hF
  refine start (V := V0 (PX b1 b2 q) prog) L hP 100000 0 [0,0,0,0,0,0,0,0,0,0,0,0,0,0,0,0,0,0,0,0,0,0,0,0,0,0,0,0,0,0,0,0,0,0,0,0,0,0,0,0,0,0,0,0,0,0,3,0,0,0,0,0,4,0,0,0,4,0,0,0,0,0,3,0,12,0,12,0,30,0,7,0,7,0,7,0,7,1,7,0,7,0,4,0,0,0,0,0,3,0,4,0,0,0,4,0,0,0,4,0,0,0,0,0,3,0,6,0,6,0,6,0,6,0,6,0,4,0,0,0,6,0,6,0,6,0,6,0,4,0,0,0,4,0] D0 rfl ?_
  refine good_done (r := .ok (.ret (.ref (N + 1)))) (pp := []) (by generalize b1 = b; revert b hk; generalize k = i; revert i; exact k8B (by kernel_rfl)) trivial fun h3 D4 => ?_
  exact H _ _ (Rep.post (F' := [(N + 1, kI k.c N t)]) (n := N + 3) (D4.toF (tk := 0) (T := kt (PX b1 b2 q)) (F := kC (PX b1 b2 q) k X T ++ kcdF k.d U) (Z := [(N + 1, kI k.c N t)]) (B := []) (nx := N + 3) [1] (by generalize b1 = b; revert b hk; generalize k = i; revert i; exact k8B (by kernel_rfl)) (by generalize b1 = b; revert b hk; generalize k = i; revert i; exact k8B (by kernel_rfl)) rfl) [0] rfl)
theorem mkLeaf {nn : Nat} (B : Bs b1 b2 q w h) {c m cl ct cd tc Uc row tr : Nat} {ir : Int} {r : RowD} (hc : c = 0 ∨ c = 1 ∨ c = 2) (hF : ∀ p ∈ ([(m, llO cl ct cd), (cl, celO (some (.int (c : Int) tc))), llC cd Uc, (row, rowO r tr ir)] : Facts), h.get? p.1 = some p.2) :
    MkOk prog w (nn + 40) h m row (fun F' v => F' = [] ∧ v = celV c r tr) := by
  intro A R g d os h' tk L kp H
  have B' := B.more kp
  have hw := B.hw
  have hP : (V0 (PX b1 b2 q) prog).P = ⟨prog, w.params⟩ := by rw [hw]; rfl
  obtain ⟨N, hN⟩ : ∃ N, N = h'.objs.size := ⟨_, rfl⟩
  have D0 : Rep h' ⟨kt (PX b1 b2 q), [(m, llO cl ct cd), (cl, celO (some (.int (c : Int) tc))), llC cd Uc, (row, rowO r tr ir)], [], [], N, tk⟩ h' := B'.startN hN.symm (fun p hp => kp _ _ (hF p hp))
  refine start (V := V0 (PX b1 b2 q) prog) L hP 100000 0 [0,0,6,0,1,0,1,1,1,0,3,0,9,0,9,0,9,0,9,0,9,0] D0 rfl ?_
  refine good_done (r := .ok (.ret (celV c r tr))) (pp := []) (by generalize b1 = b; revert b hc; generalize c = i; revert i; exact k3B (by kernel_rfl)) trivial fun h3 D4 => ?_
  exact H _ _ _ [] _ (Rep.post (F' := []) (n := N + 1) (D4.toF (tk := 0) (T := kt (PX b1 b2 q)) (F := [(m, llO cl ct cd), (cl, celO (some (.int (c : Int) tc))), llC cd Uc, (row, rowO r tr ir)]) (Z := []) (B := []) (nx := N + 1) [] (by generalize b1 = b; revert b hc; generalize c = i; revert i; exact k3B (by kernel_rfl)) (by generalize b1 = b; revert b hc; generalize c = i; revert i; exact k3B (by kernel_rfl)) rfl) [] rfl) ⟨rfl, rfl⟩
theorem mkNode {nn : Nat} (B : Bs b1 b2 q w h) {j : JA} (hk : Kok j.k) {ml mr Uc row : Nat} {mo mo' : Obj} (ho : MkO mo) (ho' : MkO mo') (hF : ∀ p ∈ ([(j.L, jlO j), (j.cL, celO (some (.ref ml))), (j.cO, celO (some (.ref j.k.c))), (j.cR, celO (some (.ref mr))), jlC j.cd Uc, (ml, mo), (mr, mo')] ++ kC (PX b1 b2 q) j.k X T) ++ kcdF j.k.d U, h.get? p.1 = some p.2)
    {K1 K2 : Facts → Value → Prop} (h1 : MkOk prog w nn h ml row (fun F v => K1 F v ∧ Kind1 v)) (h2 : MkOk prog w nn h mr row (fun F v => K2 F v ∧ Kind1 v)) :
    MkOk prog w (nn + 60) h j.L row (fun F' v => ∃ F1 F2 v1 v2 n, K1 F1 v1 ∧ Kind1 v1 ∧ K2 F2 v2 ∧ Kind1 v2 ∧ F' = F1 ++ F2 ++ [(n, tupV #[v1, v2]), (n + 2, kI j.k.c (n + 1) n)] ∧ v = .ref (n + 2)) := by
  obtain ⟨fo, rfl⟩ := ho
  obtain ⟨fo', rfl⟩ := ho'
  intro A R g d os h' tk L kp H
  have B' := B.more kp
  have hw := B.hw
  have hP : (VQ1 (PX b1 b2 q) prog).P = ⟨prog, w.params⟩ := by rw [hw]; rfl
  obtain ⟨N, hN⟩ : ∃ N, N = h'.objs.size := ⟨_, rfl⟩
  have hFn : ∀ p ∈ ([(j.L, jlO j), (j.cL, celO (some (.ref ml))), (j.cO, celO (some (.ref j.k.c))), (j.cR, celO (some (.ref mr))), jlC j.cd Uc, (ml, { cls := .type "function", data := .func fo }), (mr, { cls := .type "function", data := .func fo' })] ++ kC (PX b1 b2 q) j.k X T), h.get? p.1 = some p.2 := fun p hp => hF p (List.mem_append_left _ hp)
  have hFc : ∀ p ∈ kC (PX b1 b2 q) j.k X T ++ kcdF j.k.d U, h.get? p.1 = some p.2 := fun p hp => (List.mem_append.mp hp).elim (fun q => hF p (List.mem_append_left _ (List.mem_append_right _ q))) (fun q => hF p (List.mem_append_right _ q))
  have D0 : Rep h' ⟨kt (PX b1 b2 q), ([(j.L, jlO j), (j.cL, celO (some (.ref ml))), (j.cO, celO (some (.ref j.k.c))), (j.cR, celO (some (.ref mr))), jlC j.cd Uc, (ml, { cls := .type "function", data := .func fo }), (mr, { cls := .type "function", data := .func fo' })] ++ kC (PX b1 b2 q) j.k X T), [], [], N, tk⟩ h' := B'.startN hN.symm (fun p hp => kp _ _ (hFn p hp))
  refine start (V := VQ1 (PX b1 b2 q) prog) L hP 100000 0 [0,0,12,0,1,0,1,1,6,0,3,0,1,0,15,0] D0 rfl ?_
  refine good_hole (n := nn + 40) L (c := .call (.ref ml) ⟨[.ref row], []⟩) (pp := []) (by generalize b1 = b; revert b; exact kB (by kernel_rfl)) trivial fun g1 L1 D1 => ?_
  have D2 := D1.toF (tk := 0) (T := kt (PX b1 b2 q)) (F := ([(j.L, jlO j), (j.cL, celO (some (.ref ml))), (j.cO, celO (some (.ref j.k.c))), (j.cR, celO (some (.ref mr))), jlC j.cd Uc, (ml, { cls := .type "function", data := .func fo }), (mr, { cls := .type "function", data := .func fo' })] ++ kC (PX b1 b2 q) j.k X T)) (Z := [(N, frO #[de (PX b1 b2 q) "row" tk (.ref row)] 1)]) (B := []) (nx := N + 1) [0] (by generalize b1 = b; revert b; exact kB (by kernel_rfl)) (by generalize b1 = b; revert b; exact kB (by kernel_rfl)) rfl
  have kp2 : ∀ {m : Mm} {g' : Heap}, Rep h' m g' → m.B = [] → ∀ a o, h.get? a = some o → g'.get? a = some o := fun D e a o q => D.kp a o (kp _ _ q) (by rw [e]; exact fun _ hz => nomatch hz)
  refine h1 _ _ g d os g1 _ (L1.less (by omega)) (kp2 D2 rfl) fun g2 k2 n1 F1 v1 P1 hv1 => ?_
  obtain ⟨hK1, kd1⟩ := hv1
  have D3 := D2.and P1
  refine back (V := VQ1 (PX b1 b2 q) prog) L hP 100000 0 (hz [9,1,18]) (tk := k2) D3 ?_
  refine good_hole (n := nn + 40) L (c := .call (.ref mr) ⟨[.ref row], []⟩) (pp := []) (by generalize b1 = b; revert b kd1; generalize v1 = v; revert v; exact kVB (by kernel_rfl)) trivial fun g3 L3 D4 => ?_
  have D5 := D4.toF (tk := 0) (T := kt (PX b1 b2 q)) (F := ([(j.L, jlO j), (j.cL, celO (some (.ref ml))), (j.cO, celO (some (.ref j.k.c))), (j.cR, celO (some (.ref mr))), jlC j.cd Uc, (ml, { cls := .type "function", data := .func fo }), (mr, { cls := .type "function", data := .func fo' })] ++ kC (PX b1 b2 q) j.k X T) ++ F1) (Z := [(N, frO #[de (PX b1 b2 q) "row" tk (.ref row)] 1)]) (B := []) (nx := n1) [0] (by generalize b1 = b; revert b kd1; generalize v1 = v; revert v; exact kVB (by kernel_rfl)) (by generalize b1 = b; revert b kd1; generalize v1 = v; revert v; exact kVB (by kernel_rfl)) rfl
  refine h2 _ _ g d os g3 _ (L3.less (by omega)) (kp2 D5 rfl) fun g4 k4 n2 F2 v2 P2 hv2 => ?_
  obtain ⟨hK2, kd2⟩ := hv2
  have D6 := D5.and P2
  refine back (V := VQ1 (PX b1 b2 q) prog) L hP 100000 0 [21,0,21,0] (tk := k4) D6 ?_
  refine good_hole (n := nn + 40) L (c := .call (.ref j.k.c) ⟨[.ref n2], []⟩) (pp := []) (by generalize b1 = b; revert b kd2; generalize v2 = v; revert v kd1; generalize v1 = v; revert v; exact kVVB (by kernel_rfl)) trivial fun g5 L5 D7 => ?_
  have D8 := D7.toF (tk := 0) (T := kt (PX b1 b2 q)) (F := ([(j.L, jlO j), (j.cL, celO (some (.ref ml))), (j.cO, celO (some (.ref j.k.c))), (j.cR, celO (some (.ref mr))), jlC j.cd Uc, (ml, { cls := .type "function", data := .func fo }), (mr, { cls := .type "function", data := .func fo' })] ++ kC (PX b1 b2 q) j.k X T) ++ F1 ++ F2) (Z := [(N, frO #[de (PX b1 b2 q) "row" tk (.ref row)] 1), (n2, tupV #[v1, v2])]) (B := []) (nx := n2 + 1) [0,1] (by generalize b1 = b; revert b kd2; generalize v2 = v; revert v kd1; generalize v1 = v; revert v; exact kVVB (by kernel_rfl)) (by generalize b1 = b; revert b kd2; generalize v2 = v; revert v kd1; generalize v1 = v; revert v; exact kVVB (by kernel_rfl)) rfl
  have D8' := D8.to (F := []) (Z := []) (B := []) (nx := n2 + 1) (tk := 0) [] [] (T := kt (PX b1 b2 q)) rfl rfl
  refine kNew (nn := nn) L5 hk (D8'.bs hw) (fun p hp => kp2 D8 rfl _ _ (hFc p hp)) (N := n2 + 1) D8.size fun g6 k6 P6 => ?_
  have D9 := D8.and P6
  refine back (V := VQ1 (PX b1 b2 q) prog) L hP 100000 0 [] (tk := k6) D9 ?_
  refine good_done (r := .ok (.ret (.ref (n2 + 2)))) (pp := []) (by generalize b1 = b; revert b kd2; generalize v2 = v; revert v kd1; generalize v1 = v; revert v; exact kVVB (by kernel_rfl)) trivial fun g7 D10 => ?_
  have D11 := D10.toF (tk := 0) (T := kt (PX b1 b2 q)) (F := ([(j.L, jlO j), (j.cL, celO (some (.ref ml))), (j.cO, celO (some (.ref j.k.c))), (j.cR, celO (some (.ref mr))), jlC j.cd Uc, (ml, { cls := .type "function", data := .func fo }), (mr, { cls := .type "function", data := .func fo' })] ++ kC (PX b1 b2 q) j.k X T) ++ F1 ++ F2 ++ [(n2 + 2, kI j.k.c (n2 + 1) n2)]) (Z := [(N, frO #[de (PX b1 b2 q) "row" tk (.ref row)] 1), (n2, tupV #[v1, v2])]) (B := []) (nx := n2 + 4) [0,1] (by generalize b1 = b; revert b kd2; generalize v2 = v; revert v kd1; generalize v1 = v; revert v; exact kVVB (by kernel_rfl)) (by generalize b1 = b; revert b kd2; generalize v2 = v; revert v kd1; generalize v1 = v; revert v; exact kVVB (by kernel_rfl)) rfl
  have s1 : g1.objs.size = N + 1 := D2.size
  have s3 : g3.objs.size = n1 := D5.size
  have l1 := P1.le
  have l2 := P2.le
  refine H g7 _ (n2 + 4) _ _ ⟨fun b o e => D11.kp b o e (fun _ hz => nomatch hz), D11.size, by omega, fun p hp => ?_⟩ ⟨F1, F2, v1, v2, n2, hK1, kd1, hK2, kd2, rfl, rfl⟩
  simp only [List.mem_append, List.mem_cons, List.not_mem_nil, or_false] at hp
  rcases hp with (hp | hp) | hp | hp
  · exact ⟨D11.F p (by simp only [List.mem_append]; exact .inl (.inl (.inr hp))), by have := (P1.facts p hp).2; omega⟩
  · exact ⟨D11.F p (by simp only [List.mem_append]; exact .inl (.inr hp)), by have := (P2.facts p hp).2; omega⟩
  · subst hp; exact ⟨(D11.Z _ (.tail _ (.head _))).1, by show _ ≤ n2; omega⟩
  · subst hp; exact ⟨D11.F _ (by simp only [List.mem_append]; exact .inr (.head _)), by show _ ≤ n2 + 2; omega⟩
end
end Mine
namespace Mine
open PySem PySem.W PySem.W.X PySem.Spec PySem.Calls PyProof.Rows
open PySem.W.Fast
inductive Tr where
  | leaf (c : Nat)
  | node (j : JA) (a b : Int) (l r : Tr)
noncomputable def Tr.dm : Tr → Nat
  | .leaf _ => 40
  | .node _ _ _ l r => max l.dm r.dm + 60
noncomputable def Tr.da : Tr → Nat
  | .leaf _ => 0
  | .node _ _ _ l r => max l.da r.da + 120
mutual
noncomputable def ltT (W : Rows) : Tr → Nat → Nat → Bool
  | .leaf c, i, i' => ltC c (W.r i) (W.r i')
  | .node _ a b l r, i, i' => decide (cmp1 (ltT W l i i') (gtT W l i i') a (cmp1 (ltT W r i i') (gtT W r i i') b 0) < 0)
noncomputable def gtT (W : Rows) : Tr → Nat → Nat → Bool
  | .leaf c, i, i' => ltC c (W.r i') (W.r i)
  | .node _ a b l r, i, i' => decide (cmp1 (ltT W l i i') (gtT W l i i') a (cmp1 (ltT W r i i') (gtT W r i i') b 0) > 0)
end
noncomputable def yT (W : Rows) (a b : Int) (l r : Tr) (i i' : Nat) : Int := cmp1 (ltT W l i i') (gtT W l i i') a (cmp1 (ltT W r i i') (gtT W r i i') b 0)
inductive KeyN (F : Facts) (c : Nat) (v : Value) (L R : Value → Prop) : Prop
  | mk (v1 v2 : Value) (n : Nat) (e : v = .ref (n + 2)) (h1 : (n, tupV #[v1, v2]) ∈ F) (h2 : (n + 2, kI c (n + 1) n) ∈ F) (h3 : L v1) (h4 : R v2)
noncomputable def Key (W : Rows) (F : Facts) : Tr → Nat → Value → Prop
  | .leaf c, i, v => v = celV c (W.r i) (W.T i)
  | .node j _ _ l r, i, v => KeyN F j.k.c v (Key W F l i) (Key W F r i)
inductive LeafIs (h : Heap) (c m : Nat) : Prop
  | mk (hc : c = 0 ∨ c = 1 ∨ c = 2) (cl ct cd tc Uc : Nat) (hF : ∀ p ∈ ([(m, llO cl ct cd), (cl, celO (some (.int (c : Int) tc))), llC cd Uc] : Facts), h.get? p.1 = some p.2)
inductive NodeIs (P : Params) (h : Heap) (j : JA) (a b : Int) (m : Nat) (L R : Nat → Prop) : Prop
  | mk (e : m = j.L) (hk : Kok j.k) (ml mr : Nat) (τ T : Nat → Nat) (U Uc : Nat) (hF : ∀ p ∈ jF P j ml mr a b τ ++ (kC P j.k j.m T ++ (kcdF j.k.d U ++ [jlC j.cd Uc])), h.get? p.1 = some p.2) (hl : L ml) (hr : R mr)
noncomputable def TrIs (P : Params) (h : Heap) : Tr → Addr → Prop
  | .leaf c, m => LeafIs h c m
  | .node j a b l r, m => NodeIs P h j a b m (TrIs P h l) (TrIs P h r)
noncomputable def RowsIn (h : Heap) (W : Rows) : Prop := ∀ i, i < 6 → h.get? (W.R i) = some (rowO (W.r i) (W.T i) (i : Nat)) ∧ h.get? (W.T i) = some (tupO (W.r i))
theorem KeyN.mono {F F' : Facts} (hF : ∀ p ∈ F, p ∈ F') {c : Nat} {v : Value} {L R L' R' : Value → Prop} (hl : ∀ {v}, L v → L' v) (hr : ∀ {v}, R v → R' v) : KeyN F c v L R → KeyN F' c v L' R'
  | ⟨v1, v2, n, e, h1, h2, h3, h4⟩ => ⟨v1, v2, n, e, hF _ h1, hF _ h2, hl h3, hr h4⟩
theorem Key.mono {W : Rows} {F F' : Facts} (hF : ∀ p ∈ F, p ∈ F') {i : Nat} : ∀ {t : Tr} {v : Value}, Key W F t i v → Key W F' t i v
  | .leaf _, _, h => h
  | .node _ _ _ _ _, _, h => KeyN.mono hF (Key.mono hF) (Key.mono hF) h
theorem all_a {α : Type} {P : α → Prop} {l m : List α} (h : ∀ p ∈ l, P p) (t : ∀ p ∈ m, P p) : ∀ p ∈ l ++ m, P p := fun p q => (List.mem_append.mp q).elim (h p) (t p)
theorem TrIs.obj {P : Params} {h : Heap} {t : Tr} {m : Addr} (x : TrIs P h t m) : ∃ o, h.get? m = some o ∧ MkO o := by
  cases t with
  | leaf c =>
    obtain ⟨-, cl, ct, cd, tc, Uc, hF⟩ : LeafIs h c m := x
    exact ⟨_, hF _ (.head _), ⟨_, rfl⟩⟩
  | node j a b l r =>
    obtain ⟨rfl, -, ml, mr, τ, T, U, Uc, hF, -, -⟩ : NodeIs .. := x
    exact ⟨_, hF _ (List.mem_append_left _ (.head _)), ⟨_, rfl⟩⟩
theorem kind_cel {r : RowD} {t : Addr} : ∀ {c : Nat}, Kind1 (celV c r t)
  | 0 => .inl ⟨_, _, rfl⟩
  | 1 => .inr (.inl ⟨_, _, rfl⟩)
  | _ + 2 => .inr (.inr ⟨_, rfl⟩)
theorem kind2_cel {r r' : RowD} {t t' : Addr} : ∀ {c : Nat}, Kind2 (celV c r t) (celV c r' t')
  | 0 => .inl ⟨_, _, _, _, rfl, rfl⟩
  | 1 => .inr (.inl ⟨_, _, _, _, rfl, rfl⟩)
  | _ + 2 => .inr (.inr ⟨_, _, rfl, rfl⟩)
theorem lexI_swap {a b c d : Int} : lexI .Gt [a, b] [c, d] = lexI .Lt [c, d] [a, b] := by
  simp only [lexI, cmpI]
  by_cases h : a = c
  · subst h
    rw [if_pos rfl, if_pos rfl]
    by_cases h2 : b = d
    · subst h2; simp
    · rw [if_neg h2, if_neg (Ne.symm h2)]
  · rw [if_neg h, if_neg (Ne.symm h)]
section
variable {prog : Program} {w : World} {h : Heap} {b1 b2 : Bool} {q : Params} {W : Rows}
theorem ask_leaf {c i i' : Nat} (hc : c = 0 ∨ c = 1 ∨ c = 2) (hW : RowsIn h W) (hi : i < 6) (hi' : i' < 6) :
    Asks prog w 0 h .Lt (celV c (W.r i) (W.T i)) (celV c (W.r i') (W.T i')) (ltC c (W.r i) (W.r i')) ∧ Asks prog w 0 h .Gt (celV c (W.r i) (W.T i)) (celV c (W.r i') (W.T i')) (ltC c (W.r i') (W.r i)) := by
  have P0 : ∀ (h' : Heap), Post h' h' h'.objs.size [] := fun h' => ⟨fun _ _ e => e, rfl, Nat.le_refl _, fun _ hp => nomatch hp⟩
  constructor
  · intro A g d os h' tk Q E L k H
    rcases hc with rfl | rfl | rfl
    · exact rc_int_lt (H _ _ _ (P0 h'))
    · exact rc_str_lt (H _ _ _ (P0 h'))
    · exact rc_tup_lt L.room (k _ _ (hW i hi).2) (k _ _ (hW i' hi').2) (H _ _ _ (P0 h'))
  · intro A g d os h' tk Q E L k H
    rcases hc with rfl | rfl | rfl
    · exact rc_int_gt (H _ _ _ (P0 h'))
    · exact rc_str_gt (H _ _ _ (P0 h'))
    · refine rc_tup_gt L.room (k _ _ (hW i hi).2) (k _ _ (hW i' hi').2) ?_
      have := H _ tk _ (P0 h')
      rw [lexI_swap]
      exact this
theorem mkTree (B : Bs b1 b2 q w h) (hW : RowsIn h W) {i : Nat} (hi : i < 6) : ∀ {t : Tr} {m : Addr}, TrIs (PX b1 b2 q) h t m → MkOk prog w t.dm h m (W.R i) (fun F v => Key W F t i v ∧ Kind1 v)
  | .leaf c, m, X => by
    obtain ⟨hc, cl, ct, cd, tc, Uc, hF⟩ : LeafIs h c m := X
    have := mkLeaf (prog := prog) (nn := 0) B (r := W.r i) (tr := W.T i) (row := W.R i) (ir := (i : Nat)) (m := m) (cl := cl) (ct := ct) (cd := cd) (tc := tc) (Uc := Uc) hc (all_c (hF _ in_h) (all_c (hF _ (in_t in_h)) (all_c (hF _ (in_t (in_t in_h))) (all_c (hW i hi).1 all_n))))
    intro A R g d os h' tk L k H
    refine this A R g d os h' tk L k fun h'' tk' n F' v P hv => ?_
    obtain ⟨rfl, rfl⟩ := hv
    exact H h'' tk' n _ _ P ⟨rfl, kind_cel⟩
  | .node j a b l r, m, X => by
    obtain ⟨rfl, hk, ml, mr, τ, T, U, Uc, hF, hl, hr⟩ : NodeIs .. := X
    obtain ⟨mo, ho, hmo⟩ := hl.obj
    obtain ⟨mo', ho', hmo'⟩ := hr.obj
    have M1 := (mkTree B hW hi hl).mono (Nat.le_max_left l.dm r.dm) (fun _ _ e => e)
    have M2 := (mkTree B hW hi hr).mono (Nat.le_max_right l.dm r.dm) (fun _ _ e => e)
    have := mkNode (prog := prog) B (j := j) hk (ml := ml) (mr := mr) (Uc := Uc) (row := W.R i) (X := j.m) (T := T) (U := U) hmo hmo' (all_a (all_a (all_c (hF _ (in_l in_h)) (all_c (hF _ (in_l (in_t in_h))) (all_c (hF _ (in_l (in_t (in_t in_h)))) (all_c (hF _ (in_l (in_t (in_t (in_t in_h))))) (all_c (hF _ (in_r (in_r (in_r in_h)))) (all_c ho (all_c ho' all_n))))))) fun _ hp => hF _ (in_r (in_l hp))) fun _ hp => hF _ (in_r (in_r (in_l hp)))) M1 M2
    intro A R g d os h' tk L k H
    refine this A R g d os h' tk L k fun h'' tk' n F' v P hv => ?_
    obtain ⟨F1, F2, v1, v2, n', hk1, -, hk2, -, rfl, rfl⟩ := hv
    refine H h'' tk' n _ _ P ⟨⟨v1, v2, n', rfl, ?_, ?_, hk1.mono fun p hp => ?_, hk2.mono fun p hp => ?_⟩, .inr (.inr ⟨_, rfl⟩)⟩
    · exact List.mem_append_right _ (.head _)
    · exact List.mem_append_right _ (.tail _ (.head _))
    · exact List.mem_append_left _ (List.mem_append_left _ hp)
    · exact List.mem_append_left _ (List.mem_append_right _ hp)
theorem cmps_node (B : Bs b1 b2 q w h) {F : Facts} (hF' : ∀ p ∈ F, h.get? p.1 = some p.2) {j : JA} {a b : Int} {ml mr : Addr} {τ : Nat → Nat} {G : Facts} (hF : ∀ p ∈ jF (PX b1 b2 q) j ml mr a b τ ++ G, h.get? p.1 = some p.2)
    {v1 v2 w1 w2 : Value} {n n' nn : Nat} (m1 : (n, tupV #[v1, v2]) ∈ F) (m2 : (n', tupV #[w1, w2]) ∈ F) (k1 : Kind2 v1 w1) (k2 : Kind2 v2 w2) {l0 g0 l1 g1 : Bool}
    (a0 : Asks prog w nn h .Lt v1 w1 l0) (c0 : Asks prog w nn h .Gt v1 w1 g0) (a1 : Asks prog w nn h .Lt v2 w2 l1) (c1 : Asks prog w nn h .Gt v2 w2 g1) :
    Cmps prog w (nn + 40) h j.i n n' (cmp1 l0 g0 a (cmp1 l1 g1 b 0)) := by
  intro A R g d os h' tk L kp H
  have J : ∀ p ∈ jF (PX b1 b2 q) j ml mr a b τ, h'.get? p.1 = some p.2 := fun p hp => kp _ _ (hF p (List.mem_append_left _ hp))
  exact cjCmp (nn := nn) L (B.more kp) k1 k2 (LI := j.l) (E0 := j.e0) (E1 := j.e1) (DI := j.d) (t0 := τ 1) (t1 := τ 2) (t2 := τ 3) (t3 := τ 4) (td := τ 0)
    (all_c (J _ (in_t (in_t (in_t (in_t (in_t (in_t (in_t in_h)))))))) (all_c (J _ (in_t (in_t (in_t (in_t (in_t (in_t (in_t (in_t in_h))))))))) (all_c (J _ (in_t (in_t (in_t (in_t (in_t (in_t (in_t (in_t (in_t in_h)))))))))) (all_c (kp _ _ (hF' _ m1)) (all_c (kp _ _ (hF' _ m2)) (all_c (J _ (in_t (in_t (in_t (in_t (in_t in_h)))))) (all_c (J _ (in_t (in_t (in_t (in_t (in_t (in_t in_h))))))) all_n)))))))
    (a0.mono (Nat.le_refl _) kp) (c0.mono (Nat.le_refl _) kp) (a1.mono (Nat.le_refl _) kp) (c1.mono (Nat.le_refl _) kp) H
theorem krf_node {F : Facts} (hF' : ∀ p ∈ F, h.get? p.1 = some p.2) {P : Params} {j : JA} {a b : Int} {ml mr : Addr} {τ T : Nat → Nat} {U Uc : Nat} (hF : ∀ p ∈ jF P j ml mr a b τ ++ (kC P j.k j.m T ++ (kcdF j.k.d U ++ [jlC j.cd Uc])), h.get? p.1 = some p.2)
    {n n' : Nat} (m1 : (n + 2, kI j.k.c (n + 1) n) ∈ F) (m2 : (n' + 2, kI j.k.c (n' + 1) n') ∈ F) : ∀ p ∈ kRF P j.k j.m T U (n + 2) (n + 1) n (n' + 2) (n' + 1) n' j.i, h.get? p.1 = some p.2 :=
  all_a (fun _ hp => hF _ (in_r (in_l hp))) (all_a (fun _ hp => hF _ (in_r (in_r (in_l hp)))) (all_c (hF' _ m1) (all_c (hF' _ m2) (all_c (hF _ (in_l (in_t (in_t (in_t (in_t in_h)))))) all_n))))
theorem askTree (B : Bs b1 b2 q w h) (hW : RowsIn h W) {F : Facts} (hF' : ∀ p ∈ F, h.get? p.1 = some p.2) {i i' : Nat} (hi : i < 6) (hi' : i' < 6) :
    ∀ {t : Tr} {m : Addr} {v v' : Value}, TrIs (PX b1 b2 q) h t m → Key W F t i v → Key W F t i' v' → Asks prog w t.da h .Lt v v' (ltT W t i i') ∧ Asks prog w t.da h .Gt v v' (gtT W t i i') ∧ Kind2 v v'
  | .leaf c, m, v, v', X, k, k' => by
    obtain rfl : v = _ := k
    obtain rfl : v' = _ := k'
    obtain ⟨hc⟩ : LeafIs h c m := X
    have := ask_leaf (prog := prog) (w := w) (c := c) hc hW hi hi'
    exact ⟨this.1, this.2, kind2_cel⟩
  | .node j a b l r, m, v, v', X, k, k' => by
    obtain ⟨rfl, hk, ml, mr, τ, T, U, Uc, hF, hl, hr⟩ : NodeIs .. := X
    obtain ⟨v1, v2, n, rfl, m1, m2, kl, kr⟩ : KeyN .. := k
    obtain ⟨w1, w2, n', rfl, m1', m2', kl', kr'⟩ : KeyN .. := k'
    obtain ⟨l1, l2, l3⟩ := askTree B hW hF' hi hi' hl kl kl'
    obtain ⟨r1, r2, r3⟩ := askTree B hW hF' hi hi' hr kr kr'
    have id : ∀ a o, h.get? a = some o → h.get? a = some o := fun _ _ e => e
    have C := cmps_node (prog := prog) B hF' hF m1 m1' l3 r3 (l1.mono (Nat.le_max_left l.da r.da) id) (l2.mono (Nat.le_max_left l.da r.da) id) (r1.mono (Nat.le_max_right l.da r.da) id) (r2.mono (Nat.le_max_right l.da r.da) id)
    have K := krf_node hF' hF m2 m2'
    refine ⟨?_, ?_, .inr (.inr ⟨_, _, rfl, rfl⟩)⟩
    · exact kRcLt hk B K C
    · exact kRcGt hk B K C
end
end Mine
namespace Mine
open PySem PySem.W PySem.W.X PySem.Spec PySem.Calls PyProof.Rows
open PySem.W.Fast
theorem runT_congr {lt lt' : Nat → Nat → Bool} (he : ∀ i j, i < 6 → j < 6 → lt i j = lt' i j) : ∀ (t : KasT (Array Nat)), chkT t = true → runT lt t = runT lt' t
  | .ret p, _ => rfl
  | .ask i j k, hk => by
    have hk' : (decide (i < 6) && decide (j < 6) && chkT (k true) && chkT (k false)) = true := hk
    rw [Bool.and_eq_true, Bool.and_eq_true, Bool.and_eq_true] at hk'
    obtain ⟨⟨⟨h1, h2⟩, h3⟩, h4⟩ := hk'
    have e := he i j (of_decide_eq_true h1) (of_decide_eq_true h2)
    have h5 : chkT (k (lt' i j)) = true := by cases lt' i j <;> assumption
    show runT lt (k (lt i j)) = runT lt' (k (lt' i j))
    rw [e]
    exact runT_congr he _ h5
structure WayOk (prog : Program) (w : World) (b1 b2 : Bool) (q : Params) (nn : Nat) (F : Facts) (W : Rows) (f : Addr) (lt : Nat → Nat → Bool) (KP : Nat → Facts → Value → Prop) : Prop where
  key : ∀ h, (∀ p ∈ F, h.get? p.1 = some p.2) → Bs b1 b2 q w h → ∀ i, i < 6 → MkOk prog w nn h f (W.R i) (KP i)
  kind : ∃ c, ∀ i F' v, KP i F' v → ∃ a o, v = .ref a ∧ (a, o) ∈ F' ∧ o.cls = .ref c
  cmp : ∀ h F', (∀ p ∈ F ++ F', h.get? p.1 = some p.2) → Bs b1 b2 q w h → ∀ i j, i < 6 → j < 6 → ∀ v v', KP i F' v → KP j F' v' → ∀ (A : Around) (g : Array GenState) (d : Drawn) (os : OsState) (tk : Nat) (Q : Bool → Shared → Prop) (E : Value → Shared → Prop), Deep nn A →
    (∀ h' tk' n, Post h h' n [] → Q (lt i j) ⟨h', g, d, tk', os⟩) → wpAny (model prog w) A (keyLt' oneType' v v') Q E ⟨h, g, d, tk, os⟩
  mono : ∀ i F1 F2 v, (∀ p ∈ F1, p ∈ F2) → KP i F1 v → KP i F2 v
noncomputable def rowVs (W : Rows) : List Value := [.ref W.R0, .ref W.R1, .ref W.R2, .ref W.R3, .ref W.R4, .ref W.R5]
theorem rowVs_get (W : Rows) {i : Nat} (hi : i < 6) : (rowVs W)[i]? = some (.ref (W.R i)) := lt6e (C := fun i => (rowVs W)[i]? = some (.ref (W.R i))) rfl rfl rfl rfl rfl rfl i hi
section
variable {prog : Program} {w : World} {A : Around} {R : Result → Shared → Prop} {h₀ h : Heap} {g : Array GenState} {d : Drawn} {tk : Nat} {os : OsState} {b1 b2 : Bool} {q : Params} {W : Rows} {f : Addr} {lt : Nat → Nat → Bool} {KP : Nat → Facts → Value → Prop} {F Bt : Facts} {nn nx tk0 : Nat}
theorem way_sort (L : Deep (nn + 1) A) (hw : w.params = PX b1 b2 q) (Wy : WayOk prog w b1 b2 q nn F W f lt KP) {a n : Nat}
    (D : Rep h₀ ⟨kt (PX b1 b2 q), F, [(a, lstO (rowVs W).toArray n)], Bt, nx, tk0⟩ h)
    (H : ∀ h' tk' p c nx', p = (runT lt (kas_sort 6)).toList → p.length = 6 → (∀ x ∈ p, x < 6) → Rep h₀ ⟨kt (PX b1 b2 q), F, [(a, lstO (p.map fun i => Value.ref (W.R i)).toArray c)], Bt, nx', 0⟩ h' → R (.ok (.ret .none)) ⟨h', g, d, tk', os⟩) :
    codeAny (model prog w) A (.call (.builtin "list.sort") ⟨[.ref a], [(Str.ofString "key", .ref f)]⟩) R ⟨h, g, d, tk, os⟩ := by
  have L1 : Deep nn A.in1 := L.in1
  refine c_sort (f := .ref f) (a := a) (D.Z _ (.head _)).1 (ksk_l1 _ _) (ksk_t1 _ _) ?_
  refine sort_tree (vs := rowVs W) rfl D (fun ks F' => ∀ j v, ks[j]? = some v → KP j F' v) (fun j v hj => by simp at hj) (fun _ _ => True) trivial (fun _ => True) (fun _ _ => trivial) lt
    (fun i v h tkz ks F' Z nx tk0 hv hl hK D hz => ?_) (fun ks F' hl hK => ?_) (fun i j ks F' h tkz Z nx tk0 hi hj hl hK D hz => ?_) (fun h' tk' p c hp h6 hlt hz D9 => ?_)
  · have hi : i < 6 := (List.getElem?_eq_some_iff.mp hv).1
    rw [rowVs_get W hi] at hv
    cases hv
    have B := D.bs hw
    have M := Wy.key h (fun p hp => D.F p (List.mem_append_left _ hp)) B i hi
    refine wpAny_call ?_
    refine M _ _ g d os h tkz L1 (fun _ _ e => e) fun h'' tk'' n'' F'' v P hv => ?_
    have P' : Post h h'' h''.objs.size F'' := by rw [P.size]; exact P
    refine ⟨h'', tk'', F'', rfl, P', trivial, fun j x hj => ?_⟩
    by_cases hjl : j < ks.length
    · rw [List.getElem?_append_left hjl] at hj
      exact Wy.mono j _ _ _ (fun p hp => List.mem_append_left _ hp) (hK j x hj)
    · obtain rfl : j = ks.length := Nat.le_antisymm (Nat.le_of_lt_succ (Nat.lt_of_lt_of_eq (List.getElem?_eq_some_iff.mp hj).1 List.length_append)) (Nat.not_lt.mp hjl)
      rw [List.getElem?_append_right (Nat.le_refl _), Nat.sub_self] at hj
      cases hj
      rw [hl]
      exact Wy.mono i _ _ _ (fun p hp => List.mem_append_right _ hp) hv
  · obtain ⟨c, hc⟩ := Wy.kind
    refine ⟨.ref c, rfl, by simp, fun h Z nx tk0 D v hv => ?_⟩
    obtain ⟨j, hj, e⟩ := List.getElem_of_mem hv
    obtain ⟨x, o, rfl, hm, ho⟩ := hc j F' v (hK j v (by rw [List.getElem?_eq_getElem hj, e]))
    intro A Q E s k hq
    refine wpAny_typeOf_ref (k _ _ (D.F _ (List.mem_append_right _ hm))) ?_
    rw [ho]; exact hq
  · have vi : ∀ {i}, i < 6 → ks[i]? = some (ks.getD i .none) := fun hi => by rw [List.getD_eq_getElem?_getD, List.getElem?_eq_getElem (Nat.lt_of_lt_of_eq hi hl.symm)]; rfl
    refine Wy.cmp h F' (fun p hp => D.F p hp) (D.bs hw) i j hi hj _ _ (hK i _ (vi hi)) (hK j _ (vi hj)) _ g d os tkz _ _ L1 fun h' tk' n P => ?_
    exact ⟨rfl, h', tk', rfl, (by rw [P.size]; exact P), trivial⟩
  · refine ⟨rfl, H h' tk' p c h'.objs.size hp h6 hlt ?_⟩
    have ev : (p.map fun i => (rowVs W).getD i .none) = p.map fun i => Value.ref (W.R i) := List.map_congr_left fun i hi => by
      rw [List.getD_eq_getElem?_getD, rowVs_get W (hlt i hi)]; rfl
    rw [ev] at D9
    exact D9
theorem way_maker {t : Tr} {j : JA} {a b : Int} {l r : Tr} (et : t = .node j a b l r) {m : Addr} (hT : ∀ h, (∀ p ∈ F, h.get? p.1 = some p.2) → TrIs (PX b1 b2 q) h t m) (hW : ∀ h, (∀ p ∈ F, h.get? p.1 = some p.2) → RowsIn h W) :
    WayOk prog w b1 b2 q (max t.dm (t.da + 60)) F W m (ltT W t) (fun i F v => Key W F t i v) where
  key h hF B i hi := by
    have M := (mkTree (prog := prog) B (hW h hF) hi (hT h hF)).mono (Nat.le_max_left t.dm (t.da + 60)) (fun _ _ e => e)
    intro A R g d os h' tk L k H
    exact M A R g d os h' tk L k fun h'' tk' n F' v P hv => H h'' tk' n F' v P hv.1
  kind := by
    subst et
    refine ⟨j.k.c, fun i F' v hv => ?_⟩
    obtain ⟨v1, v2, n, e, -, m2, -, -⟩ := hv
    exact ⟨_, _, e, m2, rfl⟩
  cmp h F' hF B i i' hi hi' v v' hv hv' A g d os tk Q E L H := by
    subst et
    have hF0 : ∀ p ∈ F, h.get? p.1 = some p.2 := fun p hp => hF p (List.mem_append_left _ hp)
    have hF1 : ∀ p ∈ F', h.get? p.1 = some p.2 := fun p hp => hF p (List.mem_append_right _ hp)
    have hRows := hW h hF0
    obtain ⟨e, hk, ml, mr, τ, T, U, Uc, hN, hl, hr⟩ := hT h hF0
    obtain ⟨v1, v2, n, ev, m1, m2, kl, kr⟩ := hv
    obtain ⟨w1, w2, n', ew, m1', m2', kl', kr'⟩ := hv'
    subst ev ew
    obtain ⟨l1, l2, l3⟩ := askTree (prog := prog) B hRows hF1 hi hi' hl kl kl'
    obtain ⟨r1, r2, r3⟩ := askTree (prog := prog) B hRows hF1 hi hi' hr kr kr'
    have id : ∀ a o, h.get? a = some o → h.get? a = some o := fun _ _ e => e
    have C := cmps_node (prog := prog) B hF1 hN m1 m1' l3 r3 (l1.mono (Nat.le_max_left l.da r.da) id) (l2.mono (Nat.le_max_left l.da r.da) id) (r1.mono (Nat.le_max_right l.da r.da) id) (r2.mono (Nat.le_max_right l.da r.da) id)
    have K := krf_node hF1 hN m2 m2'
    exact kLt (nn := max l.da r.da + 40) (L.less (Nat.le_trans (Nat.add_le_add_left (by decide : 100 ≤ 180) (max l.da r.da)) (Nat.le_max_right (Tr.node j a b l r).dm _))) hk B K C fun h' tk' n P => H h' tk' n P
  mono i F1 F2 v hF hv := hv.mono hF
end
end Mine
namespace Mine
open PySem PySem.W PySem.W.X PySem.Spec PySem.Calls PyProof.Rows
open PySem.W.Fast
structure Fl where
  c0 : Nat
  c1 : Nat
  c2 : Nat
  c3 : Nat
  s0 : Int
  s1 : Int
  s2 : Int
  s3 : Int
noncomputable def Fl.Ok (f : Fl) : Prop := (f.c0 = 0 ∨ f.c0 = 1 ∨ f.c0 = 2) ∧ (f.c1 = 0 ∨ f.c1 = 1 ∨ f.c1 = 2) ∧ (f.c2 = 0 ∨ f.c2 = 1 ∨ f.c2 = 2) ∧ (f.c3 = 0 ∨ f.c3 = 1 ∨ f.c3 = 2)
noncomputable def yF (W : Rows) (f : Fl) (i i' : Nat) : Int :=
  cmp1 (ltC f.c0 (W.r i) (W.r i')) (ltC f.c0 (W.r i') (W.r i)) f.s0 (cmp1 (ltC f.c1 (W.r i) (W.r i')) (ltC f.c1 (W.r i') (W.r i)) f.s1
    (cmp1 (ltC f.c2 (W.r i) (W.r i')) (ltC f.c2 (W.r i') (W.r i)) f.s2 (cmp1 (ltC f.c3 (W.r i) (W.r i')) (ltC f.c3 (W.r i') (W.r i)) f.s3 0)))
inductive FlIs (P : Params) (h : Heap) (f : Fl) (I : Addr) : Prop
  | mk (LI E0 E1 E2 E3 DI t0 t1 t2 t3 u0 u1 u2 u3 td : Nat) (hF : ∀ p ∈ ([(LI, lstO #[.ref E0, .ref E1, .ref E2, .ref E3] 6), (E0, tupV #[.int f.c0 t0, .int f.s0 u0]), (E1, tupV #[.int f.c1 t1, .int f.s1 u1]), (E2, tupV #[.int f.c2 t2, .int f.s2 u2]), (E3, tupV #[.int f.c3 t3, .int f.s3 u3]), (I, { cls := .ref 54, dict := some DI, data := .plain }), (DI, { cls := .type "dict", data := .dict #[de P "comp_select_list" td (.ref LI)] 1 })] : Facts), h.get? p.1 = some p.2)
section
variable {prog : Program} {w : World} {h : Heap} {b1 b2 : Bool} {q : Params} {W : Rows} {F : Facts}
theorem flCmps (B : Bs b1 b2 q w h) (hW : RowsIn h W) {f : Fl} (hf : f.Ok) {I : Addr} (hF : FlIs (PX b1 b2 q) h f I) {i i' : Nat} (hi : i < 6) (hi' : i' < 6) : Cmps prog w 40 h I (W.R i) (W.R i') (yF W f i i') := by
  intro A R g d os h' tk L kp H
  obtain ⟨LI, E0, E1, E2, E3, DI, t0, t1, t2, t3, u0, u1, u2, u3, td, hF⟩ := hF
  obtain ⟨k0, k1, k2, k3⟩ := hf
  have a := fun {c : Nat} (hc : c = 0 ∨ c = 1 ∨ c = 2) => ask_leaf (prog := prog) (w := w) (c := c) hc hW hi hi'
  have id : ∀ {op v v' b}, Asks prog w 0 h op v v' b → Asks prog w 0 h' op v v' b := fun x => x.mono (Nat.le_refl _) kp
  have J : ∀ {p : Addr × Obj}, p ∈ _ → h'.get? p.1 = some p.2 := fun hp => kp _ _ (hF _ hp)
  exact cfCmp (nn := 0) L (B.more kp) k0 k1 k2 k3 (LI := LI) (E0 := E0) (E1 := E1) (E2 := E2) (E3 := E3) (DI := DI) (t0 := t0) (t1 := t1) (t2 := t2) (t3 := t3) (u0 := u0) (u1 := u1) (u2 := u2) (u3 := u3) (td := td) (r := W.r i) (r' := W.r i') (tr := W.T i) (tr' := W.T i') (ir := (i : Nat)) (ir' := (i' : Nat)) (all_c (J in_h) (all_c (J (in_t in_h)) (all_c (J (in_t (in_t in_h))) (all_c (J (in_t (in_t (in_t in_h)))) (all_c (J (in_t (in_t (in_t (in_t in_h))))) (all_c (kp _ _ (hW i hi).1) (all_c (kp _ _ (hW i' hi').1) (all_c (J (in_t (in_t (in_t (in_t (in_t in_h)))))) (all_c (J (in_t (in_t (in_t (in_t (in_t (in_t in_h))))))) all_n)))))))))
    (id (a k0).1) (id (a k0).2) (id (a k1).1) (id (a k1).2) (id (a k2).1) (id (a k2).2) (id (a k3).1) (id (a k3).2) H
theorem way_flat {k : KA} (hk : Kok k) {X I U : Nat} {T : Nat → Nat} (hK : ∀ p ∈ kC (PX b1 b2 q) k X T ++ (kcdF k.d U ++ [(X, mtO I)]), p ∈ F) {f : Fl} (hf : f.Ok)
    (hFl : ∀ h, (∀ p ∈ F, h.get? p.1 = some p.2) → FlIs (PX b1 b2 q) h f I) (hW : ∀ h, (∀ p ∈ F, h.get? p.1 = some p.2) → RowsIn h W) :
    WayOk prog w b1 b2 q 100 F W k.c (fun i i' => decide (yF W f i i' < 0)) (fun i F v => ∃ n, v = .ref (n + 1) ∧ (n + 1, kI k.c n (W.R i)) ∈ F) where
  key h hF B i hi := by
    intro A R g d os h' tk L kp H
    refine kNew (nn := 60) L hk (B.more kp) (X := X) (T := T) (U := U) (fun p hp => kp _ _ (hF _ (hK _ ((sub_a (sub_l sub_i) (sub_r (sub_l sub_i)) : ∀ p ∈ _ ++ _, p ∈ _) p hp)))) (N := h'.objs.size) rfl fun h'' tk' P => ?_
    exact H h'' tk' _ _ _ P ⟨_, rfl, .head _⟩
  kind := ⟨k.c, fun i F' v hv => by
    obtain ⟨n, e, hm⟩ := hv
    exact ⟨_, _, e, hm, rfl⟩⟩
  cmp h F' hF B i i' hi hi' v v' hv hv' A g d os tk Q E L H := by
    obtain ⟨n, ev, m⟩ := hv
    obtain ⟨n', ew, m'⟩ := hv'
    subst ev ew
    have hF0 : ∀ p ∈ F, h.get? p.1 = some p.2 := fun p hp => hF p (List.mem_append_left _ hp)
    have hF1 : ∀ p ∈ F', h.get? p.1 = some p.2 := fun p hp => hF p (List.mem_append_right _ hp)
    have C := flCmps (prog := prog) B (hW h hF0) hf (hFl h hF0) hi hi'
    refine kLt (nn := 40) (L.less (by decide)) hk B (X := X) (T := T) (U := U) (a := n + 1) (da := n) (ta := W.R i) (b := n' + 1) (db := n') (tb := W.R i') (i := I) (all_a (fun _ hp => hF0 _ (hK _ (in_l hp))) (all_a (fun _ hp => hF0 _ (hK _ (in_r (in_l hp)))) (all_c (hF1 _ m) (all_c (hF1 _ m') (all_c (hF0 _ (hK _ (in_r (in_r in_h)))) all_n))))) C H
  mono i F1 F2 v hF hv := by
    obtain ⟨n, e, m⟩ := hv
    exact ⟨n, e, hF _ m⟩
end
end Mine
namespace Mine
open PySem PySem.W PySem.W.X PySem.Spec PySem.Calls PyProof.Rows
open PySem.W.Fast
section
variable {prog : Program} {w : World} {A : Around} {R : Result → Shared → Prop} {h₀ h : Heap} {g : Array GenState} {d : Drawn} {tk : Nat} {os : OsState} {b1 b2 : Bool} {q : Params} {W : Rows} {f : Addr} {lt : Nat → Nat → Bool} {KP : Nat → Facts → Value → Prop} {F Bt : Facts} {nn nx tk0 : Nat}
theorem c_sorted (L : Deep (nn + 2) A) (hw : w.params = PX b1 b2 q) (Wy : WayOk prog w b1 b2 q nn F W f lt KP) {l n : Nat} (hl : (l, lstO (rowVs W).toArray n) ∈ F)
    (D : Rep h₀ ⟨kt (PX b1 b2 q), F, [], Bt, nx, tk0⟩ h)
    (H : ∀ h' tk' p c nx', p = (runT lt (kas_sort 6)).toList → p.length = 6 → (∀ x ∈ p, x < 6) → Rep h₀ ⟨kt (PX b1 b2 q), F, [(nx + 1, lstO (p.map fun i => Value.ref (W.R i)).toArray c)], Bt, nx', 0⟩ h' → R (.ok (.ret (.ref (nx + 1)))) ⟨h', g, d, tk', os⟩) :
    codeAny (model prog w) A (.call (.builtin "sorted") ⟨[.ref l], [(Str.ofString "key", .ref f)]⟩) R ⟨h, g, d, tk, os⟩ := by
  have L1 : Deep (nn + 1) A.in1 := L.in1
  refine codeAny_call_builtin plain_sorted entry_sorted ?_
  have e : checkBuiltinCall "sorted" ⟨[.ref l], [(Str.ofString "key", .ref f)]⟩ = (pure () : Sem Unit) := by
    have ha := ksk_s1 (.ref l) (.ref f)
    unfold argsOk at ha
    unfold checkBuiltinCall
    rw [kind_sorted]
    cases hs : Manifest.signature? "sorted" with
    | none => rfl
    | some sig =>
      rw [hs] at ha
      exact ha
  rw [e]
  refine wpAny_pure ?_
  unfold Builtin.«sorted»
  refine wpAny_bind (m := checkCount "sorted" 1 1 _) (wpAny_pure ?_)
  have hlt : l < nx := by
    have := Heap.lt_size (D.F _ hl)
    rw [D.size] at this
    exact this
  refine wpAny_bind (collect_list (vs := rowVs W) ⟨_, D.F _ hl, rfl, n, rfl⟩ ?_ (show (6 : Nat) ≤ sizeLine by decide))
  have z : h.objs.size = nx := D.size
  have D1 := D.alloc (x := lstO #[] 0) rfl
  obtain ⟨-, e1, D2⟩ := ups D1 (i := 0) (b := nx) (xs := #[]) (n := 0) rfl (· ++ (rowVs W).toArray)
  refine wpAny_bind (wpAny_newList ?_ (show (6 : Nat) ≤ sizeLine by decide))
  dsimp only
  rw [z]
  have D3 := D2.alloc (x := lstO (rowVs W).toArray 0) rfl
  have z2 := D2.size
  dsimp only at z2
  have D5 : Rep h₀ ⟨kt (PX b1 b2 q), F, [(nx + 1, lstO (rowVs W).toArray 0)], Bt, nx + 2, 0⟩ _ := D3.toF (tk := 0) (T := kt (PX b1 b2 q)) (F := F) (Z := [(nx + 1, lstO (rowVs W).toArray 0)]) (B := Bt) (nx := nx + 2) [1] rfl rfl rfl
  rw [z2]
  refine wpAny_bind (wpAny_holding (wpAny_call ?_))
  refine way_sort (nn := nn) L1 hw Wy D5 fun h' tk' p c nx' hp h6 hp6 D6 => ?_
  exact wpAny_pure (H h' tk' p c nx' hp h6 hp6 D6)
end
end Mine
namespace Mine
open PySem PySem.W PySem.W.X PySem.Spec PySem.Calls PyProof.Rows
open PySem.W.Fast
noncomputable def VW1 (P : Params) (prog : Program) : Env9 := ⟨⟨prog, P⟩, fun c => match c with
  | .call (.ref n) _ => Nat.beq n 21
  | .forLoop .. => true
  | _ => false⟩
noncomputable def VW2 (P : Params) (prog : Program) : Env9 := ⟨⟨prog, P⟩, fun c => match c with
  | .call (.builtin s) _ => memS s ["sorted"]
  | _ => false⟩
noncomputable abbrev s8 : Stmt := lawS 8
section
variable {prog : Program} {w : World} {A : Around} {R : Result → Shared → Prop} {s : Shared}
noncomputable def cmPre1 (target : Expr) (it : Value) (env : Env) : Sem (Option Unit) := do
  match ← pyNext it with
  | none => pure none
  | some v =>
    letOwnedTupleGo target it v
    assign target env v
    pure (some ())
noncomputable def enc1 : Option Unit → Flow
  | none => .cont
  | some _ => .next
theorem enc1_next {a : Option Unit} (h : enc1 a = .next) : a = some () := by
  cases a with
  | none => cases h
  | some u => rfl
theorem enc1_cont {a : Option Unit} (h : enc1 a = .cont) : a = none := by
  cases a with
  | none => rfl
  | some u => cases h
noncomputable def cmPre1T (target : Expr) (it : Value) (env : Env) : Sem (Option Unit) := PySem.W.R.bindR (tw9404975358583537561 it) fun r => match r with
  | none => .pure none
  | some v => PySem.W.R.bindR (letOwnedTupleGo target it v) fun _ => PySem.W.R.bindR (tw17772580674575903948 target env v) fun _ => .pure (some ())
theorem cmPre1_eq (target : Expr) (it : Value) (env : Env) : cmPre1 target it env = cmPre1T target it env := by
  unfold cmPre1 cmPre1T
  rw [← te9404975358583537561, ← te17772580674575903948, ← PySem.W.R.bindR_eq]
  refine congrArg _ (funext fun r => ?_)
  cases r <;> rfl
theorem for_turn1 {target : Expr} {it : Value} {body orelse : List Stmt} {env : Env}
    (h : wpAny (model prog w) (A.under (.forLoop target it body orelse env)) (cmPre1 target it env) (fun f s => match f with
      | none => codeAny (model prog w) A (.block orelse env) R s
      | some _ => wpAny (model prog w) (A.under (.forLoop target it body orelse env)) (execs body env) (fun f s3 => match f with
        | .next => codeAny (model prog w) A (.forLoop target it body orelse env) R s3
        | .ret v => R (.ok (.ret v)) s3
        | _ => False) (fun _ _ => False) s) (fun _ _ => False) s) : codeAny (model prog w) A (.forLoop target it body orelse env) R s := by
  refine codeAny_of_tree ?_
  show wpAny _ _ ((forTurn target it body orelse env).onRaise (fun x => do noteFrame x env; theTreesLotGoes x)) _ _ s
  refine wpAny_onRaise ?_
  intro Γ p hΓ
  simp only [forTurn, Sem.wp_bind', Sem.wp_cmd_standAt, Sem.wp_onRaise]
  have y := h Γ target.pos hΓ
  unfold cmPre1 at y
  rw [Sem.wp_bind'] at y
  refine Sem.wp_mono _ Γ _ (fun r p s q => ?_) (fun _ _ _ q => q.elim) _ _ y
  cases r with
  | none =>
    have q' : codeAny (model prog w) A (.block orelse env) R s := q
    exact ⟨rfl, q'⟩
  | some v =>
    simp only [Sem.wp_bind'] at q ⊢
    refine Sem.wp_mono _ Γ _ (fun r p s q => ?_) (fun _ _ _ q => q.elim) _ _ q
    refine Sem.wp_mono _ Γ _ (fun r p s q => ?_) (fun _ _ _ q => q.elim) _ _ q
    have q' : wpAny _ _ _ _ _ _ := q
    have q' := q' Γ p hΓ
    refine Sem.wp_mono _ Γ _ (fun f p s q => ?_) (fun _ _ _ q => q.elim) _ _ q'
    cases f with
    | next => exact ⟨rfl, q⟩
    | ret v => exact q
    | _ => exact q.elim
end
theorem WayOk.more {prog : Program} {w : World} {b1 b2 : Bool} {q : Params} {nn : Nat} {F F2 : Facts} {W : Rows} {f : Addr} {lt : Nat → Nat → Bool} {KP : Nat → Facts → Value → Prop} (Wy : WayOk prog w b1 b2 q nn F W f lt KP) (hs : ∀ p ∈ F, p ∈ F2) : WayOk prog w b1 b2 q nn F2 W f lt KP where
  key h hF B i hi := Wy.key h (fun p hp => hF p (hs p hp)) B i hi
  kind := Wy.kind
  cmp h F' hF B := Wy.cmp h F' (fun p hp => (List.mem_append.mp hp).elim (fun q => hF p (List.mem_append_left _ (hs p q))) (fun q => hF p (List.mem_append_right _ q))) B
  mono := Wy.mono
theorem Rep.reC {h₀ h h' : Heap} {m m' : Mm} (D : Rep h₀ m h) (D' : Rep h₀ m' h') (zs : List Nat) {F' Z Zn Fx : Facts} {tk : Nat} (eF : m.F = Fx) (eF' : m'.F = F' ++ Fx)
    (e2 : zs.map (Mine.atM m') = Z.map some) (ek : Z.map (·.1) = m.Z.map (·.1)) (ez : m'.Z = Zn) (hn : ∀ p ∈ Zn, m.nx ≤ p.1) : Rep h₀ ⟨m'.T, Fx, Z ++ Zn, m'.B, m'.nx, tk⟩ h' := by
  have D1 := D.reB (tk := tk) D' zs eF eF' e2 ek
  have lz : ∀ z ∈ Z, z.1 < m.nx := fun z hz => by
    obtain ⟨p', h1, h2⟩ := keysRe ek hz
    rw [← h2, ← D.size]
    exact Heap.lt_size (D.Z p' h1).1
  have lf : ∀ p ∈ Fx, p.1 < m.nx := fun p hp => by
    rw [← D.size]
    exact Heap.lt_size (D.F p (by rw [eF]; exact hp))
  subst ez
  refine { D1 with Z := fun p hp => ?_, zd := ?_, fz := fun p hp z hz => ?_ }
  · rcases List.mem_append.mp hp with q | q
    · exact D1.Z p q
    · exact D'.Z p q
  · show ((Z ++ m'.Z).map (·.1)).Pairwise (· < ·)
    rw [List.map_append, List.pairwise_append]
    refine ⟨D1.zd, D'.zd, fun a ha b hb => ?_⟩
    obtain ⟨x, hx, rfl⟩ := List.mem_map.mp ha
    obtain ⟨y, hy, rfl⟩ := List.mem_map.mp hb
    exact Nat.lt_of_lt_of_le (lz x hx) (hn y hy)
  · rcases List.mem_append.mp hz with q | q
    · exact D1.fz p hp z q
    · exact Nat.ne_of_lt (Nat.lt_of_lt_of_le (lf p hp) (hn z q))
theorem six_list {p : List Nat} (h : p.length = 6) : ∃ a0 a1 a2 a3 a4 a5, p = [a0, a1, a2, a3, a4, a5] := by
  obtain ⟨a, l, e1, h1⟩ := cons_of h
  obtain ⟨b, l2, e2, h2⟩ := cons_of h1
  obtain ⟨c, l3, e3, h3⟩ := cons_of h2
  obtain ⟨d, l4, e4, h4⟩ := cons_of h3
  obtain ⟨e, l5, e5, h5⟩ := cons_of h4
  obtain ⟨f, l6, e6, h6⟩ := cons_of h5
  exact ⟨a, b, c, d, e, f, by rw [e1, e2, e3, e4, e5, e6, List.length_eq_zero_iff.mp h6]⟩
theorem lexI_ne : ∀ (l : List Int), lexI .NotEq l l = false
  | [] => rfl
  | x :: l => by
    show (if x = x then lexI .NotEq l l else _) = false
    rw [if_pos rfl]
    exact lexI_ne l
section
variable {prog : Program} {w : World} {A : Around} {R : Result → Shared → Prop} {h₀ h : Heap} {g : Array GenState} {d : Drawn} {tk : Nat} {os : OsState} {b1 b2 : Bool} {q : Params} {Fv Bt : Facts} {X0 e0 e1 e2 e3 e4 e5 e6 DU ML MK FL IT WL WV nx : Nat} {W : Rows} {K : Keys}
theorem s8turn {nn : Nat} (L : Deep (nn + 60) A) (hw : w.params = PX b1 b2 q) {lt : Nat → Nat → Bool} {KP : Nat → Facts → Value → Prop} (Wy : WayOk prog w b1 b2 q nn Fv W WV lt KP) (hlt : ∀ i j, i < 6 → j < 6 → lt i j = mkLt W K i j)
    {p : List Nat} {t : Nat → Nat} {c : Nat} (hp : p = (runT (mkLt W K) (kas_sort 6)).toList) (h6 : p.length = 6) (hp6 : ∀ x ∈ p, x < 6) (hdue : (DU, lstO (p.map fun i => Value.int (i : Nat) (t i)).toArray c) ∈ Fv)
    (hRw : (115, rowsO W) ∈ Fv) (hR : ∀ i, i < 6 → (W.R i, rowO (W.r i) (W.T i) (i : Nat)) ∈ Fv) {i : Nat} {Q : Flow → Shared → Prop} {E : Value → Shared → Prop}
    (D : Rep h₀ ⟨kt (PX b1 b2 q), Fv, [fr7 (PX b1 b2 q) X0 e0 e1 e2 e3 DU e4 FL e5 WV e6, ce 111 115, ce 112 MK, ce 113 ML, (IT, litO WL i)], Bt, nx, tk⟩ h)
    (H : ∀ h' tk' nx', Rep h₀ ⟨kt (PX b1 b2 q), Fv, [fr7 (PX b1 b2 q) X0 e0 e1 e2 e3 DU e4 FL e5 WV e6, ce 111 115, ce 112 MK, ce 113 ML, (IT, litO WL i)], Bt, nx', 0⟩ h' → Q .next ⟨h', g, d, tk', os⟩) :
    wpAny (model prog w) A (execs (forB s8) (lawEnv 110)) Q E ⟨h, g, d, tk, os⟩ := by
  obtain ⟨a0, a1, a2, a3, a4, a5, rfl⟩ := six_list h6
  have hP : (VW2 (PX b1 b2 q) prog).P = ⟨prog, w.params⟩ := by rw [hw]; rfl
  have hP0 : (V0 (PX b1 b2 q) prog).P = ⟨prog, w.params⟩ := by rw [hw]; rfl
  show wpAny _ _ (execs [((forB s8).getD 0 (.Pass ⟨0, 0, 0, 0⟩))] _) _ _ _
  refine wpAny_execs_cons ?_
  have ei : ((forB s8).getD 0 (.Pass ⟨0, 0, 0, 0⟩)) = .If (ifT ((forB s8).getD 0 (.Pass ⟨0, 0, 0, 0⟩))) (ifB ((forB s8).getD 0 (.Pass ⟨0, 0, 0, 0⟩))) [] (ifP ((forB s8).getD 0 (.Pass ⟨0, 0, 0, 0⟩))) := rfl
  rw [ei]
  refine wpAny_If ?_
  have ec : (ifT ((forB s8).getD 0 (.Pass ⟨0, 0, 0, 0⟩))) = .Compare (cmpL (ifT ((forB s8).getD 0 (.Pass ⟨0, 0, 0, 0⟩)))) [.NotEq] [cmpR (ifT ((forB s8).getD 0 (.Pass ⟨0, 0, 0, 0⟩)))] (posE (ifT ((forB s8).getD 0 (.Pass ⟨0, 0, 0, 0⟩)))) := rfl
  rw [ec]
  refine wpAny_isTrue_Compare1 ?_ rfl
  have D0 := D.perm (F := ((115, rowsO W) :: Fv)) (sub_c hRw sub_i)
  refine piece_of (by rw [← te14044960220447912780] : eval (cmpL (ifT ((forB s8).getD 0 (.Pass ⟨0, 0, 0, 0⟩)))) (lawEnv 110) = tw14044960220447912780 (cmpL (ifT ((forB s8).getD 0 (.Pass ⟨0, 0, 0, 0⟩)))) (lawEnv 110)) Flow.ret L (V := VW2 (PX b1 b2 q) prog) hP 100000 2 (hz [4,1,0,0,16,16,16,16,16]) D0 ?_
  refine good_holeT (n := nn + 40) L (c := .call (.builtin "sorted") ⟨[.ref 115], [(Str.ofString "key", .ref WV)]⟩) (pp := []) (by generalize b1 = b; generalize b2 = c; revert b c; exact kBB (by kernel_rfl)) trivial fun h1 t1 L1 D1 => ?_
  have D2 := D1.toF (tk := t1) (T := kt (PX b1 b2 q)) (F := ((115, rowsO W) :: Fv)) (Z := [fr7 (PX b1 b2 q) X0 e0 e1 e2 e3 DU e4 FL e5 WV e6, ce 111 115, ce 112 MK, ce 113 ML, (IT, litO WL i)]) (B := Bt) (nx := nx) [0,1,2,3,4] (by generalize b1 = b; generalize b2 = c; revert b c; exact kBB (by kernel_rfl)) (by generalize b1 = b; generalize b2 = c; revert b c; exact kBB (by kernel_rfl)) rfl
  have D3 := D2.toXe (tk := t1) (F0 := []) (Fx := ((115, rowsO W) :: Fv)) (T := kt (PX b1 b2 q)) (F := [fr7 (PX b1 b2 q) X0 e0 e1 e2 e3 DU e4 FL e5 WV e6, ce 111 115, ce 112 MK, ce 113 ML, (IT, litO WL i)]) (Z := []) (B := Bt) (nx := nx) [1,4,7,10,13] [] rfl rfl rfl
  refine c_sorted (nn := nn) (n := 6) (L1.less (by omega)) hw (Wy.more fun x hx => List.mem_append_right _ (.tail _ hx)) (List.mem_append_right _ (.head _)) D3 fun h2 k2 p' c' nx' hp' h6' hlt' D9 => ?_
  have epp : [a0, a1, a2, a3, a4, a5] = p' := by rw [hp', hp, runT_congr hlt _ chk6]
  subst epp
  have D10 := Rep.reC (tk := 0) (F' := [fr7 (PX b1 b2 q) X0 e0 e1 e2 e3 DU e4 FL e5 WV e6, ce 111 115, ce 112 MK, ce 113 ML, (IT, litO WL i)]) (Fx := ((115, rowsO W) :: Fv)) (Z := [fr7 (PX b1 b2 q) X0 e0 e1 e2 e3 DU e4 FL e5 WV e6, ce 111 115, ce 112 MK, ce 113 ML, (IT, litO WL i)]) (Zn := [(nx + 1, lstO (([a0, a1, a2, a3, a4, a5] : List Nat).map fun i => Value.ref (W.R i)).toArray c')]) D2 D9 [0,3,6,9,12] rfl rfl rfl rfl rfl (fun x hx => by rcases List.mem_singleton.mp hx with rfl; exact Nat.le_succ nx)
  have ra : ∀ x ∈ [a0, a1, a2, a3, a4, a5], (W.R x, rowO (W.r x) (W.T x) (x : Nat)) ∈ Fv := fun x hx => hR x (hp6 x hx)
  have D11 := D10.perm (F := ((115, rowsO W) :: (W.R a0, rowO (W.r a0) (W.T a0) (a0 : Nat)) :: (W.R a1, rowO (W.r a1) (W.T a1) (a1 : Nat)) :: (W.R a2, rowO (W.r a2) (W.T a2) (a2 : Nat)) :: (W.R a3, rowO (W.r a3) (W.T a3) (a3 : Nat)) :: (W.R a4, rowO (W.r a4) (W.T a4) (a4 : Nat)) :: (W.R a5, rowO (W.r a5) (W.T a5) (a5 : Nat)) :: Fv)) (sub_c in_h (sub_c (in_t (ra a0 in_h)) (sub_c (in_t (ra a1 (in_t in_h))) (sub_c (in_t (ra a2 (in_t (in_t in_h)))) (sub_c (in_t (ra a3 (in_t (in_t (in_t in_h))))) (sub_c (in_t (ra a4 (in_t (in_t (in_t (in_t in_h)))))) (sub_c (in_t (ra a5 (in_t (in_t (in_t (in_t (in_t in_h))))))) (sub_t sub_i))))))))
  refine back (V := VW2 (PX b1 b2 q) prog) L hP 100000 0 (cond b2 (hz [16,16,16,19,19,19,19,19,16,19,19,25,25,25,3,3,3,3,3,22,22,22,22,19,19,19,19,16,19,19,25,25,25,6,6,6,6,6,22,22,22,22,19,19,19,19,16,19,19,25,25,25,9,9,9,9,9,22,22,22,22,19,19,19,19,16,19,19,25,25,25,12,12,12,12,12,22,22,22,22,19,19,19,19,16,19,19,25,25,25,15,15,15,15,15,22,22,22,22,19,19,19,19,16,19,19,25,25,25,18,18,18,18,18,22,22,22,22,19,19,19,19,16,19,19,31,25,25,25]) (hz [16,16,16,19,19,19,19,19,19,19,19,19,16,19,19,25,25,25,3,3,3,3,3,22,22,22,22,19,19,19,19,16,19,19,25,25,25,6,6,6,6,6,22,22,22,22,19,19,19,19,16,19,19,25,25,25,9,9,9,9,9,22,22,22,22,19,19,19,19,16,19,19,25,25,25,12,12,12,12,12,22,22,22,22,19,19,19,19,16,19,19,25,25,25,15,15,15,15,15,22,22,22,22,19,19,19,19,16,19,19,25,25,25,18,18,18,18,18,22,22,22,22,19,19,19,19,16,19,19,31,25,25,25])) (tk := k2) D11 ?_
  refine good_done (r := .ok (.ret (.ref (nx' + 1)))) (pp := []) (by generalize b1 = b; generalize b2 = c; revert b c; exact kBB (by kernel_rfl)) trivial fun h3 D12 => encR retI ?_
  have D13 := D12.toXe (tk := 0) (F0 := ((115, rowsO W) :: (W.R a0, rowO (W.r a0) (W.T a0) (a0 : Nat)) :: (W.R a1, rowO (W.r a1) (W.T a1) (a1 : Nat)) :: (W.R a2, rowO (W.r a2) (W.T a2) (a2 : Nat)) :: (W.R a3, rowO (W.r a3) (W.T a3) (a3 : Nat)) :: (W.R a4, rowO (W.r a4) (W.T a4) (a4 : Nat)) :: (W.R a5, rowO (W.r a5) (W.T a5) (a5 : Nat)) :: [])) (Fx := Fv) (T := kt (PX b1 b2 q)) (F := []) (Z := [fr7 (PX b1 b2 q) X0 e0 e1 e2 e3 DU e4 FL e5 WV e6, ce 111 115, ce 112 MK, ce 113 ML, (IT, litO WL i)] ++ [(nx' + 1, lstO #[.int (a0 : Nat) (W.r a0).ti, .int (a1 : Nat) (W.r a1).ti, .int (a2 : Nat) (W.r a2).ti, .int (a3 : Nat) (W.r a3).ti, .int (a4 : Nat) (W.r a4).ti, .int (a5 : Nat) (W.r a5).ti] 6)]) (B := Bt) (nx := nx' + 5) [] [0,1,2,3,4,7] (by generalize b1 = b; generalize b2 = c; revert b c; exact kBB (by kernel_rfl)) (by generalize b1 = b; generalize b2 = c; revert b c; exact kBB (by kernel_rfl)) rfl
  refine piece_of (by rw [← te14044960220447912780] : eval (cmpR (ifT ((forB s8).getD 0 (.Pass ⟨0, 0, 0, 0⟩)))) (lawEnv 110) = tw14044960220447912780 (cmpR (ifT ((forB s8).getD 0 (.Pass ⟨0, 0, 0, 0⟩)))) (lawEnv 110)) Flow.ret L (V := V0 (PX b1 b2 q) prog) hP0 100000 0 [1,0] D13 ?_
  refine good_done (r := .ok (.ret (.ref DU))) (pp := []) (by generalize b1 = b; generalize b2 = c; revert b c; exact kBB (by kernel_rfl)) trivial fun h4 D14 => encR retI ?_
  have D15 := D14.toXe (tk := 0) (F0 := []) (Fx := Fv) (T := kt (PX b1 b2 q)) (F := []) (Z := [fr7 (PX b1 b2 q) X0 e0 e1 e2 e3 DU e4 FL e5 WV e6, ce 111 115, ce 112 MK, ce 113 ML, (IT, litO WL i)] ++ [(nx' + 1, lstO #[.int (a0 : Nat) (W.r a0).ti, .int (a1 : Nat) (W.r a1).ti, .int (a2 : Nat) (W.r a2).ti, .int (a3 : Nat) (W.r a3).ti, .int (a4 : Nat) (W.r a4).ti, .int (a5 : Nat) (W.r a5).ti] 6)]) (B := Bt) (nx := nx' + 5) [] [0,1,2,3,4,5] (by generalize b1 = b; generalize b2 = c; revert b c; exact kBB (by kernel_rfl)) (by generalize b1 = b; generalize b2 = c; revert b c; exact kBB (by kernel_rfl)) rfl
  show wpAny _ _ (richCompare .NotEq _ _) _ _ _
  refine rc_list_ne L.room (items := #[.int (a0 : Nat) (W.r a0).ti, .int (a1 : Nat) (W.r a1).ti, .int (a2 : Nat) (W.r a2).ti, .int (a3 : Nat) (W.r a3).ti, .int (a4 : Nat) (W.r a4).ti, .int (a5 : Nat) (W.r a5).ti]) (items2 := #[.int (a0 : Nat) (t a0), .int (a1 : Nat) (t a1), .int (a2 : Nat) (t a2), .int (a3 : Nat) (t a3), .int (a4 : Nat) (t a4), .int (a5 : Nat) (t a5)]) rfl rfl rfl (D15.Z _ (.tail _ (.tail _ (.tail _ (.tail _ (.tail _ (.head _))))))).1 (D15.F _ hdue) ?_
  refine wpAny_truthy_bool ?_
  have en : lexI .NotEq (intsOf (#[.int (a0 : Nat) (W.r a0).ti, .int (a1 : Nat) (W.r a1).ti, .int (a2 : Nat) (W.r a2).ti, .int (a3 : Nat) (W.r a3).ti, .int (a4 : Nat) (W.r a4).ti, .int (a5 : Nat) (W.r a5).ti] : Array Value).toList) (intsOf (#[.int (a0 : Nat) (t a0), .int (a1 : Nat) (t a1), .int (a2 : Nat) (t a2), .int (a3 : Nat) (t a3), .int (a4 : Nat) (t a4), .int (a5 : Nat) (t a5)] : Array Value).toList) = false := lexI_ne [((a0 : Nat) : Int), ((a1 : Nat) : Int), ((a2 : Nat) : Int), ((a3 : Nat) : Int), ((a4 : Nat) : Int), ((a5 : Nat) : Int)]
  rw [en, if_neg Bool.false_ne_true]
  refine wpAny_pure ?_
  refine wpAny_pure ?_
  exact H _ _ _ (D15.toXe (tk := 0) (F0 := []) (Fx := Fv) (T := kt (PX b1 b2 q)) (F := []) (Z := [fr7 (PX b1 b2 q) X0 e0 e1 e2 e3 DU e4 FL e5 WV e6, ce 111 115, ce 112 MK, ce 113 ML, (IT, litO WL i)]) (B := Bt) (nx := nx' + 5) [] [0,1,2,3,4] rfl rfl rfl)
theorem s8pre0 {nn KC : Nat} (L : Deep nn A) (hw : w.params = PX b1 b2 q) {Q : Option Unit → Shared → Prop} {E : Value → Shared → Prop}
    (D : Rep h₀ ⟨kt (PX b1 b2 q), (WL, lstO #[.ref MK, .ref KC] 0) :: Fv, [fr6 (PX b1 b2 q) X0 e0 e1 e2 e3 DU e4 FL e5, ce 111 115, ce 112 MK, ce 113 ML, (IT, litO WL 0)], Bt, nx, tk⟩ h)
    (H : ∀ h' tk' e6, Rep h₀ ⟨kt (PX b1 b2 q), (WL, lstO #[.ref MK, .ref KC] 0) :: Fv, [fr7 (PX b1 b2 q) X0 e0 e1 e2 e3 DU e4 FL e5 MK e6, ce 111 115, ce 112 MK, ce 113 ML, (IT, litO WL 1)], Bt, nx, 0⟩ h' → Q (some ()) ⟨h', g, d, tk', os⟩) :
    wpAny (model prog w) A (cmPre1 (forT s8) (.ref IT) (lawEnv 110)) Q E ⟨h, g, d, tk, os⟩ := by
  have hP : (V0 (PX b1 b2 q) prog).P = ⟨prog, w.params⟩ := by rw [hw]; rfl
  refine piece_of (cmPre1_eq _ _ _) enc1 L (V := V0 (PX b1 b2 q) prog) hP 100000 0 (hz [13,13,13,13,0,13,13,1,1]) D ?_
  refine good_done (r := .ok .next) (pp := []) (by generalize b1 = b; generalize b2 = c; revert b c; exact kBB (by kernel_rfl)) trivial fun h1 D1 => encR (fun _ => enc1_next) ?_
  exact H _ _ _ (D1.toF (tk := 0) (T := kt (PX b1 b2 q)) (F := (WL, lstO #[.ref MK, .ref KC] 0) :: Fv) (Z := [fr7 (PX b1 b2 q) X0 e0 e1 e2 e3 DU e4 FL e5 MK tk, ce 111 115, ce 112 MK, ce 113 ML, (IT, litO WL 1)]) (B := Bt) (nx := nx) [0,1,2,3,4] (by generalize b1 = b; generalize b2 = c; revert b c; exact kBB (by kernel_rfl)) (by generalize b1 = b; generalize b2 = c; revert b c; exact kBB (by kernel_rfl)) rfl)
theorem s8pre1 {nn KC : Nat} (L : Deep nn A) (hw : w.params = PX b1 b2 q) {Q : Option Unit → Shared → Prop} {E : Value → Shared → Prop}
    (D : Rep h₀ ⟨kt (PX b1 b2 q), (WL, lstO #[.ref MK, .ref KC] 0) :: Fv, [fr7 (PX b1 b2 q) X0 e0 e1 e2 e3 DU e4 FL e5 MK e6, ce 111 115, ce 112 MK, ce 113 ML, (IT, litO WL 1)], Bt, nx, tk⟩ h)
    (H : ∀ h' tk' e6, Rep h₀ ⟨kt (PX b1 b2 q), (WL, lstO #[.ref MK, .ref KC] 0) :: Fv, [fr7 (PX b1 b2 q) X0 e0 e1 e2 e3 DU e4 FL e5 KC e6, ce 111 115, ce 112 MK, ce 113 ML, (IT, litO WL 2)], Bt, nx, 0⟩ h' → Q (some ()) ⟨h', g, d, tk', os⟩) :
    wpAny (model prog w) A (cmPre1 (forT s8) (.ref IT) (lawEnv 110)) Q E ⟨h, g, d, tk, os⟩ := by
  have hP : (V0 (PX b1 b2 q) prog).P = ⟨prog, w.params⟩ := by rw [hw]; rfl
  refine piece_of (cmPre1_eq _ _ _) enc1 L (V := V0 (PX b1 b2 q) prog) hP 100000 0 (hz [13,13,13,13,0,13,13,1,1]) D ?_
  refine good_done (r := .ok .next) (pp := []) (by generalize b1 = b; generalize b2 = c; revert b c; exact kBB (by kernel_rfl)) trivial fun h1 D1 => encR (fun _ => enc1_next) ?_
  exact H _ _ _ (D1.toF (tk := 0) (T := kt (PX b1 b2 q)) (F := (WL, lstO #[.ref MK, .ref KC] 0) :: Fv) (Z := [fr7 (PX b1 b2 q) X0 e0 e1 e2 e3 DU e4 FL e5 KC e6, ce 111 115, ce 112 MK, ce 113 ML, (IT, litO WL 2)]) (B := Bt) (nx := nx) [0,1,2,3,4] (by generalize b1 = b; generalize b2 = c; revert b c; exact kBB (by kernel_rfl)) (by generalize b1 = b; generalize b2 = c; revert b c; exact kBB (by kernel_rfl)) rfl)
theorem s8end {nn KC : Nat} (L : Deep nn A) (hw : w.params = PX b1 b2 q) {Q : Option Unit → Shared → Prop} {E : Value → Shared → Prop}
    (D : Rep h₀ ⟨kt (PX b1 b2 q), (WL, lstO #[.ref MK, .ref KC] 0) :: Fv, [fr7 (PX b1 b2 q) X0 e0 e1 e2 e3 DU e4 FL e5 WV e6, ce 111 115, ce 112 MK, ce 113 ML, (IT, litO WL 2)], Bt, nx, tk⟩ h)
    (H : ∀ h' tk', Rep h₀ ⟨kt (PX b1 b2 q), (WL, lstO #[.ref MK, .ref KC] 0) :: Fv, [fr7 (PX b1 b2 q) X0 e0 e1 e2 e3 DU e4 FL e5 WV e6, ce 111 115, ce 112 MK, ce 113 ML], Bt, nx + 2, 0⟩ h' → Q none ⟨h', g, d, tk', os⟩) :
    wpAny (model prog w) A (cmPre1 (forT s8) (.ref IT) (lawEnv 110)) Q E ⟨h, g, d, tk, os⟩ := by
  have hP : (V0 (PX b1 b2 q) prog).P = ⟨prog, w.params⟩ := by rw [hw]; rfl
  refine piece_of (cmPre1_eq _ _ _) enc1 L (V := V0 (PX b1 b2 q) prog) hP 100000 0 (hz [13,13,13,13,0,13,13,19]) D ?_
  refine good_done (r := .ok .cont) (pp := []) (by generalize b1 = b; generalize b2 = c; revert b c; exact kBB (by kernel_rfl)) trivial fun h1 D1 => encR (fun _ => enc1_cont) ?_
  exact H _ _ (D1.toF (tk := 0) (T := kt (PX b1 b2 q)) (F := (WL, lstO #[.ref MK, .ref KC] 0) :: Fv) (Z := [fr7 (PX b1 b2 q) X0 e0 e1 e2 e3 DU e4 FL e5 WV e6, ce 111 115, ce 112 MK, ce 113 ML]) (B := Bt) (nx := nx + 2) [0,1,2,3] (by generalize b1 = b; generalize b2 = c; revert b c; exact kBB (by kernel_rfl)) (by generalize b1 = b; generalize b2 = c; revert b c; exact kBB (by kernel_rfl)) rfl)
theorem s8N {S : Nat} (h : S = 611 ∨ S = 614) : (S + 47 = 658 ∧ S + 248 = 755) ∨ (S + 47 = 658 ∧ S + 248 = 807) ∨ (S + 47 = 658 ∧ S + 248 = 859) ∨ (S + 47 = 661 ∧ S + 248 = 758) ∨ (S + 47 = 661 ∧ S + 248 = 810) ∨ (S + 47 = 661 ∧ S + 248 = 862) := by
  rcases h with rfl | rfl
  · exact .inr (.inr (.inl ⟨rfl, rfl⟩))
  · exact .inr (.inr (.inr (.inr (.inr ⟨rfl, rfl⟩))))
theorem s8K {S : Nat} (h : S = 611 ∨ S = 614) : Kok (ka2 (S + 47) (S + 248)) := by
  rcases h with rfl | rfl
  · exact .inr (.inr (.inr (.inr (.inl rfl))))
  · exact .inr (.inr (.inr (.inr (.inr (.inr (.inr rfl))))))
theorem law_s8 {nn : Nat} (hnn : 100 ≤ nn) (L : Deep (nn + 160) A) (hw : w.params = PX b1 b2 q) {S τ U : Nat} (hS : S = 611 ∨ S = 614) {x72 x86 x105 : Obj}
    {lt : Nat → Nat → Bool} {KP : Nat → Facts → Value → Prop} (Wy : WayOk prog w b1 b2 q nn Fv W MK lt KP) (hlt : ∀ i j, i < 6 → j < 6 → lt i j = mkLt W K i j)
    {f : Fl} (hf : f.Ok) (hFl : ∀ h, (∀ p ∈ Fv, h.get? p.1 = some p.2) → FlIs (PX b1 b2 q) h f (S + 245)) (hWi : ∀ h, (∀ p ∈ Fv, h.get? p.1 = some p.2) → RowsIn h W) (hft : ∀ i j, i < 6 → j < 6 → decide (yF W f i j < 0) = mkLt W K i j)
    {p : List Nat} {t : Nat → Nat} {c : Nat} (hp : p = (runT (mkLt W K) (kas_sort 6)).toList) (h6 : p.length = 6) (hp6 : ∀ x ∈ p, x < 6) (hdue : (DU, lstO (p.map fun i => Value.int (i : Nat) (t i)).toArray c) ∈ Fv)
    (hRw : (115, rowsO W) ∈ Fv) (hR : ∀ i, i < 6 → (W.R i, rowO (W.r i) (W.T i) (i : Nat)) ∈ Fv)
    (h7 : kc7 (S + 47) U ∈ Fv) (h6' : kc6 (S + 47) U ∈ Fv) (hcd : ∀ x ∈ kcdF (S + 47) U, x ∈ Fv) (hI : (S + 245, ({ cls := .ref 54, dict := some (S + 244), data := .plain } : Obj)) ∈ Fv) (hD : (S + 244, ({ cls := .type "dict", data := .dict #[de (PX b1 b2 q) "comp_select_list" τ (.ref (S + 237))] 1 } : Obj)) ∈ Fv)
    {Q : Flow → Shared → Prop} {E : Value → Shared → Prop}
    (D : Rep h₀ ⟨kt (PX b1 b2 q), Fv, [fr6 (PX b1 b2 q) X0 e0 e1 e2 e3 DU e4 (S + 245) e5, ce 111 115, ce 112 MK, ce 113 ML], [(16, tableObj #[.int 4 0, .int 4 0, .ref (S + 54)]), (72, x72), (86, x86), (105, x105)], S + 247, tk⟩ h)
    (H : ∀ h' tk' nx' e6, Rep h₀ ⟨kt (PX b1 b2 q), Fv, [fr7 (PX b1 b2 q) X0 e0 e1 e2 e3 DU e4 (S + 245) e5 (S + 269) e6, ce 111 115, ce 112 MK, ce 113 ML], [(16, tableObj #[.int 4 0, .int 4 0, .ref (S + 54)]), (72, x72), (86, x86), (105, x105)], nx', 0⟩ h' → Q .next ⟨h', g, d, tk', os⟩) :
    wpAny (model prog w) A (execs [s8] (lawEnv 110)) Q E ⟨h, g, d, tk, os⟩ := by
  have hP : (VW1 (PX b1 b2 q) prog).P = ⟨prog, w.params⟩ := by rw [hw]; rfl
  have D0 := D.perm (F := (S + 245, { cls := .ref 54, dict := some (S + 244), data := .plain }) :: (S + 244, { cls := .type "dict", data := .dict #[de (PX b1 b2 q) "comp_select_list" τ (.ref (S + 237))] 1 }) :: Fv) (sub_c hI (sub_c hD sub_i))
  refine piece_block (V := VW1 (PX b1 b2 q) prog) L hP 100000 0 [7,1,1,0,0,3,0,6,0,0,0,1,3,5] D0 ?_
  refine good_holeT (n := nn + 140) L (c := .call (.ref 21) ⟨[.ref (S + 247)], []⟩) (pp := []) (by generalize b1 = b; generalize b2 = c; revert b c hS; generalize S = i; revert i; exact k2BB (by kernel_rfl)) trivial fun h1 t1 L1 D1 => ?_
  have D2 := D1.toF (tk := t1) (T := kt (PX b1 b2 q)) (F := (S + 245, { cls := .ref 54, dict := some (S + 244), data := .plain }) :: (S + 244, { cls := .type "dict", data := .dict #[de (PX b1 b2 q) "comp_select_list" τ (.ref (S + 237))] 1 }) :: Fv) (Z := [fr6 (PX b1 b2 q) X0 e0 e1 e2 e3 DU e4 (S + 245) e5, ce 111 115, ce 112 MK, ce 113 ML, (S + 247, mtO (S + 245))]) (B := [(16, tableObj #[.int 4 0, .int 4 0, .ref (S + 54)]), (72, x72), (86, x86), (105, x105)]) (nx := S + 248) [0,1,2,3,4] (by generalize b1 = b; generalize b2 = c; revert b c hS; generalize S = i; revert i; exact k2BB (by kernel_rfl)) (by generalize b1 = b; generalize b2 = c; revert b c hS; generalize S = i; revert i; exact k2BB (by kernel_rfl)) rfl
  have D3 := D2.toXe (tk := t1) (F0 := []) (Fx := (S + 245, { cls := .ref 54, dict := some (S + 244), data := .plain }) :: (S + 244, { cls := .type "dict", data := .dict #[de (PX b1 b2 q) "comp_select_list" τ (.ref (S + 237))] 1 }) :: Fv) (T := kt (PX b1 b2 q)) (F := [fr6 (PX b1 b2 q) X0 e0 e1 e2 e3 DU e4 (S + 245) e5, ce 111 115, ce 112 MK, ce 113 ML, (S + 247, mtO (S + 245))]) (Z := []) (B := [(16, tableObj #[.int 4 0, .int 4 0, .ref (S + 54)]), (72, x72), (86, x86), (105, x105)]) (nx := S + 248) [1,4,7,10,13] [] rfl rfl rfl
  refine ctk2 (nn := nn + 80) L1 hw (M := S + 47) (N := S + 248) (U := U) (s8N hS) (List.mem_append_right _ (.tail _ (.tail _ h7))) (List.mem_append_right _ (.tail _ (.tail _ h6'))) D3 fun h2 k2 D4 => ?_
  have D5 := Rep.reK (tk := 0) (Fk := kC (PX b1 b2 q) (ka2 (S + 47) (S + 248)) (S + 247) (kT2 t1)) D2 D4 [30,33,36,39,42] rfl rfl (Z := [fr6 (PX b1 b2 q) X0 e0 e1 e2 e3 DU e4 (S + 245) e5, ce 111 115, ce 112 MK, ce 113 ML, (S + 247, mtO (S + 245))]) rfl rfl (by revert hS; generalize S = i; revert i; exact kD2 (by kernel_rfl))
  refine back (V := VW1 (PX b1 b2 q) prog) L hP 100000 0 (hz [16,16,16,19]) (tk := k2) D5 ?_
  refine good_holeT (n := nn + 140) L (c := (.forLoop (forT s8) (.ref (S + 274)) (forB s8) (forE s8) (lawEnv 110))) (pp := []) (by generalize b1 = b; generalize b2 = c; revert b c hS; generalize S = i; revert i; exact k2BB (by kernel_rfl)) trivial fun h3 t3 L3 D6 => ?_
  have D7 := D6.toF (tk := t3) (T := kt (PX b1 b2 q)) (F := (S + 245, { cls := .ref 54, dict := some (S + 244), data := .plain }) :: (S + 244, { cls := .type "dict", data := .dict #[de (PX b1 b2 q) "comp_select_list" τ (.ref (S + 237))] 1 }) :: Fv ++ (kC (PX b1 b2 q) (ka2 (S + 47) (S + 248)) (S + 247) (kT2 t1))) (Z := [fr6 (PX b1 b2 q) X0 e0 e1 e2 e3 DU e4 (S + 245) e5, ce 111 115, ce 112 MK, ce 113 ML, (S + 247, mtO (S + 245)), (S + 273, lstO #[.ref MK, .ref (S + 269)] 0), (S + 274, litO (S + 273) 0)]) (B := [(16, tableObj #[.int 4 0, .int 4 0, .ref (S + 54)]), (72, x72), (86, x86), (105, x105)]) (nx := S + 275) [0,1,2,3,4,5,6] (by generalize b1 = b; generalize b2 = c; revert b c hS; generalize S = i; revert i; exact k2BB (by kernel_rfl)) (by generalize b1 = b; generalize b2 = c; revert b c hS; generalize S = i; revert i; exact k2BB (by kernel_rfl)) rfl
  obtain ⟨Fw, hFw⟩ : ∃ Fw, Fw = (S + 247, mtO (S + 245)) :: ((S + 245, { cls := .ref 54, dict := some (S + 244), data := .plain }) :: (S + 244, { cls := .type "dict", data := .dict #[de (PX b1 b2 q) "comp_select_list" τ (.ref (S + 237))] 1 }) :: Fv ++ (kC (PX b1 b2 q) (ka2 (S + 47) (S + 248)) (S + 247) (kT2 t1))) := ⟨_, rfl⟩
  have D8 : Rep h₀ ⟨kt (PX b1 b2 q), (S + 273, lstO #[.ref MK, .ref (S + 269)] 0) :: Fw, [fr6 (PX b1 b2 q) X0 e0 e1 e2 e3 DU e4 (S + 245) e5, ce 111 115, ce 112 MK, ce 113 ML, (S + 274, litO (S + 273) 0)], [(16, tableObj #[.int 4 0, .int 4 0, .ref (S + 54)]), (72, x72), (86, x86), (105, x105)], S + 275, t3⟩ h3 := by
    rw [hFw]
    exact D7.toXe (tk := t3) (F0 := []) (Fx := (S + 245, { cls := .ref 54, dict := some (S + 244), data := .plain }) :: (S + 244, { cls := .type "dict", data := .dict #[de (PX b1 b2 q) "comp_select_list" τ (.ref (S + 237))] 1 }) :: Fv ++ (kC (PX b1 b2 q) (ka2 (S + 47) (S + 248)) (S + 247) (kT2 t1))) (T := kt (PX b1 b2 q)) (F := [(S + 273, lstO #[.ref MK, .ref (S + 269)] 0), (S + 247, mtO (S + 245))]) (Z := [fr6 (PX b1 b2 q) X0 e0 e1 e2 e3 DU e4 (S + 245) e5, ce 111 115, ce 112 MK, ce 113 ML, (S + 274, litO (S + 273) 0)]) (B := [(16, tableObj #[.int 4 0, .int 4 0, .ref (S + 54)]), (72, x72), (86, x86), (105, x105)]) (nx := S + 275) [16,13] [0,1,2,3,6] rfl rfl rfl
  have inW : ∀ x ∈ Fv, x ∈ (S + 273, lstO #[.ref MK, .ref (S + 269)] 0) :: Fw := fun x hx => by
    rw [hFw]
    exact in_t (in_t (in_l (in_t (in_t hx))))
  have inK : ∀ x ∈ kC (PX b1 b2 q) (ka2 (S + 47) (S + 248)) (S + 247) (kT2 t1), x ∈ (S + 273, lstO #[.ref MK, .ref (S + 269)] 0) :: Fw := fun x hx => by
    rw [hFw]
    exact in_t (in_t (in_r hx))
  have inM : (S + 247, mtO (S + 245)) ∈ (S + 273, lstO #[.ref MK, .ref (S + 269)] 0) :: Fw := by
    rw [hFw]
    exact in_t in_h
  have hk : Kok (ka2 (S + 47) (S + 248)) := s8K hS
  have Wf := (way_flat (prog := prog) (w := w) (F := (S + 273, lstO #[.ref MK, .ref (S + 269)] 0) :: Fw) hk (X := S + 247) (I := S + 245) (U := U) (T := kT2 t1) (sub_a inK (sub_a (fun x hx => inW _ (hcd x hx)) (sub_c inM sub_n))) hf (fun h hF => hFl h fun x hx => hF x (inW x hx)) (fun h hF => hWi h fun x hx => hF x (inW x hx)))
  have L4 : Deep (nn + 100) ((ar A _).under (.forLoop (forT s8) (.ref (S + 274)) (forB s8) (forE s8) (lawEnv 110))) := Deep.under (n := nn + 100) (k := 1) (L3.less (by omega)) rfl
  refine for_turn1 ?_
  refine s8pre0 L4 hw D8 fun h4 k4 e6 D9 => ?_
  refine s8turn (nn := nn) (L4.less (by omega)) hw (Wy.more inW) hlt hp h6 hp6 (inW _ hdue) (inW _ hRw) (fun i hi => inW _ (hR i hi)) (Rep.tok D9 _) fun h5 k5 n5 D10 => ?_
  refine for_turn1 ?_
  refine s8pre1 L4 hw (Rep.tok D10 _) fun hb6 k6 e6 D11 => ?_
  refine s8turn (nn := 100) (L4.less (by omega)) hw Wf hft hp h6 hp6 (inW _ hdue) (inW _ hRw) (fun i hi => inW _ (hR i hi)) (Rep.tok D11 _) fun hb7 k7 n7 D12 => ?_
  refine for_turn1 ?_
  refine s8end L4 hw (Rep.tok D12 _) fun hb8 k8 D13 => ?_
  refine codeAny_block ?_
  show wpAny _ _ (execs [] _) _ _ _
  refine wpAny_pure ?_
  have D14 := Rep.perm D13 (F := Fv) inW
  refine back (V := VW1 (PX b1 b2 q) prog) L hP 100000 0 [] (tk := k8) D14 ?_
  refine good_done (r := .ok .next) (pp := []) (by generalize b1 = b; generalize b2 = c; revert b c hS; generalize S = i; revert i; exact k2BB (by kernel_rfl)) trivial fun hb9 D15 => ?_
  exact H _ _ _ _ (D15.toF (tk := 0) (T := kt (PX b1 b2 q)) (F := Fv) (Z := [fr7 (PX b1 b2 q) X0 e0 e1 e2 e3 DU e4 (S + 245) e5 (S + 269) e6, ce 111 115, ce 112 MK, ce 113 ML]) (B := [(16, tableObj #[.int 4 0, .int 4 0, .ref (S + 54)]), (72, x72), (86, x86), (105, x105)]) (nx := n7 + 2) [0,1,2,3] (by generalize b1 = b; generalize b2 = c; revert b c hS; generalize S = i; revert i; exact k2BB (by kernel_rfl)) (by generalize b1 = b; generalize b2 = c; revert b c hS; generalize S = i; revert i; exact k2BB (by kernel_rfl)) rfl)
end
end Mine
namespace Mine
open PySem PySem.W PySem.W.X PySem.Spec PySem.Calls PyProof.Rows
open PySem.W.Fast
noncomputable def VX1 (P : Params) (prog : Program) : Env9 := ⟨⟨prog, P⟩, fun c => match c with
  | .compLoop .. => true
  | _ => false⟩
noncomputable def VX2 (P : Params) (prog : Program) : Env9 := ⟨⟨prog, P⟩, fun c => match c with
  | .compLoop .. => true
  | .call (.ref _) _ => true
  | .call (.builtin s) _ => memS s ["list.__getitem__"]
  | _ => false⟩
noncomputable def s9E : Expr := valE (lawS 9)
noncomputable def c9 (N : Nat) : Code := .compLoop s9E 0 (.ref N) (.ref (N + 1)) { scope := lcC s9E [2,3], locals := N + 2, globals := 3, cells := [(Str.ofString "rows", 111), (Str.ofString "maker", 112)], qual := Str.ofString "law.<locals>.", func := none, code := .ref 107, frame := some 110, builtins := 0 }
noncomputable def d9 (P : Params) (e : Nat) (v : Int) (t : Nat) : Nat → Data
  | 0 => .dict #[] 0
  | _ => .dict #[de P "place" e (.int v t)] 1
noncomputable def duO (a0 a1 a2 a3 a4 a5 c : Nat) (t : Nat → Nat) : Obj := lstO #[.int (a0 : Nat) (t a0), .int (a1 : Nat) (t a1), .int (a2 : Nat) (t a2), .int (a3 : Nat) (t a3), .int (a4 : Nat) (t a4), .int (a5 : Nat) (t a5)] c
noncomputable def f9 (DU a0 a1 a2 a3 a4 a5 c : Nat) (t : Nat → Nat) (W : Rows) (MK : Nat) (j : JA) : Facts := [(DU, duO a0 a1 a2 a3 a4 a5 c t), (115, rowsO W), (MK, jlO j)]
noncomputable def Vs9 (k : Nat) (vs : List Nat) : Prop := (k = 0 ∧ vs = []) ∨ (k = 1 ∧ ∃ x0, vs = [x0]) ∨ (k = 2 ∧ ∃ x0 x1, vs = [x0, x1]) ∨ (k = 3 ∧ ∃ x0 x1 x2, vs = [x0, x1, x2]) ∨ (k = 4 ∧ ∃ x0 x1 x2 x3, vs = [x0, x1, x2, x3]) ∨ (k = 5 ∧ ∃ x0 x1 x2 x3 x4, vs = [x0, x1, x2, x3, x4])
theorem Rep.andF {h₀ h h' : Heap} {T : KT} {F F2 Z B : Facts} {nx tk n : Nat} {F' : Facts} (D : Rep h₀ ⟨T, F ++ F2, Z, B, nx, tk⟩ h) (P : Post h h' n F') : Rep h₀ ⟨T, F ++ (F2 ++ F'), Z, B, n, tk⟩ h' := by
  have := D.and P
  rw [← List.append_assoc]
  exact this
section
variable {prog : Program} {w : World} {A : Around} {R : Result → Shared → Prop} {h₀ h : Heap} {g : Array GenState} {d : Drawn} {tk : Nat} {os : OsState} {b1 b2 : Bool} {q : Params} {Fx Bt : Facts} {X0 e0 e1 e2 e3 e4 e5 e6 DU ML MK FL WV nx N : Nat} {W : Rows} {a0 a1 a2 a3 a4 a5 c : Nat} {t : Nat → Nat} {j : JA}
noncomputable def vsF (a b c d e : Nat) : Nat → List Nat
  | 0 => []
  | 1 => [a]
  | 2 => [a, b]
  | 3 => [a, b, c]
  | 4 => [a, b, c, d]
  | _ => [a, b, c, d, e]
theorem vs9F {k : Nat} {vs : List Nat} (h : Vs9 k vs) : ∃ a b c d e, vs = vsF a b c d e k ∧ (k = 0 ∨ k = 1 ∨ k = 2 ∨ k = 3 ∨ k = 4 ∨ k = 5) := by
  rcases h with ⟨rfl, rfl⟩ | ⟨rfl, a, rfl⟩ | ⟨rfl, a, b, rfl⟩ | ⟨rfl, a, b, c, rfl⟩ | ⟨rfl, a, b, c, d, rfl⟩ | ⟨rfl, a, b, c, d, e, rfl⟩
  · exact ⟨0, 0, 0, 0, 0, rfl, .inl rfl⟩
  · exact ⟨a, 0, 0, 0, 0, rfl, .inr (.inl rfl)⟩
  · exact ⟨a, b, 0, 0, 0, rfl, .inr (.inr (.inl rfl))⟩
  · exact ⟨a, b, c, 0, 0, rfl, .inr (.inr (.inr (.inl rfl)))⟩
  · exact ⟨a, b, c, d, 0, rfl, .inr (.inr (.inr (.inr (.inl rfl))))⟩
  · exact ⟨a, b, c, d, e, rfl, .inr (.inr (.inr (.inr (.inr rfl))))⟩
noncomputable def t9 (k a b : Nat) : Nat := match k with
  | 0 => a
  | _ => b
theorem s9turn {nn : Nat} (L : Deep (nn + 40) A) (hw : w.params = PX b1 b2 q) {lt : Nat → Nat → Bool} {KP : Nat → Facts → Value → Prop} (Wy : WayOk prog w b1 b2 q nn (f9 DU a0 a1 a2 a3 a4 a5 c t W MK j ++ Fx) W MK lt KP)
    {k : Nat} {vs : List Nat} (hvs : Vs9 k vs) (hk : ([a0, a1, a2, a3, a4, a5].getD k 0) < 6) {e tt : Nat} {v : Int}
    (D : Rep h₀ ⟨kt (PX b1 b2 q), f9 DU a0 a1 a2 a3 a4 a5 c t W MK j ++ Fx, [fr7 (PX b1 b2 q) X0 e0 e1 e2 e3 DU e4 FL e5 WV e6, ce 111 115, ce 112 MK, ce 113 ML, (N, litO DU (k : Nat)), (N + 1, lstO ((vs).map Value.ref).toArray (k)), (N + 2, { cls := .type "dict", data := d9 (PX b1 b2 q) e v tt (k) })], Bt, nx, tk⟩ h)
    (H : ∀ h' tk' nx' F'' x e, KP ([a0, a1, a2, a3, a4, a5].getD k 0) F'' (.ref x) → Rep h₀ ⟨kt (PX b1 b2 q), f9 DU a0 a1 a2 a3 a4 a5 c t W MK j ++ (Fx ++ F''), [fr7 (PX b1 b2 q) X0 e0 e1 e2 e3 DU e4 FL e5 WV e6, ce 111 115, ce 112 MK, ce 113 ML, (N, litO DU (k + 1 : Nat)), (N + 1, lstO ((vs ++ [x]).map Value.ref).toArray (k + 1)), (N + 2, { cls := .type "dict", data := d9 (PX b1 b2 q) e (([a0, a1, a2, a3, a4, a5].getD k 0) : Nat) (t ([a0, a1, a2, a3, a4, a5].getD k 0)) (k + 1) })], Bt, nx', 0⟩ h' → codeAny (model prog w) A (c9 N) R ⟨h', g, d, tk', os⟩) :
    codeAny (model prog w) A (c9 N) R ⟨h, g, d, tk, os⟩ := by
  obtain ⟨z0, z1, z2, z3, z4, rfl, hk6⟩ := vs9F hvs
  have hP : (VX2 (PX b1 b2 q) prog).P = ⟨prog, w.params⟩ := by rw [hw]; rfl
  refine start (V := VX2 (PX b1 b2 q) prog) L hP 100000 0 (hz [13,13,13,13,0,13,13,19,19,7,4,19,3,3,3]) D rfl ?_
  refine good_hole (n := nn + 20) L (c := .call (.builtin "list.__getitem__") ⟨[.ref 115, .int (([a0, a1, a2, a3, a4, a5].getD k 0) : Nat) (t ([a0, a1, a2, a3, a4, a5].getD k 0))], []⟩) (pp := []) (by generalize b1 = b; revert b; revert hk6; generalize k = i; revert i; exact k6B (by kernel_rfl)) trivial fun h1 L1 D1 => ?_
  have D2 := D1.toF (tk := 0) (T := kt (PX b1 b2 q)) (F := f9 DU a0 a1 a2 a3 a4 a5 c t W MK j ++ Fx) (Z := [fr7 (PX b1 b2 q) X0 e0 e1 e2 e3 DU e4 FL e5 WV e6, ce 111 115, ce 112 MK, ce 113 ML, (N, litO DU (k + 1 : Nat)), (N + 1, lstO (((vsF z0 z1 z2 z3 z4 k)).map Value.ref).toArray k), (N + 2, { cls := .type "dict", data := d9 (PX b1 b2 q) (t9 k tk e) (([a0, a1, a2, a3, a4, a5].getD k 0) : Nat) (t ([a0, a1, a2, a3, a4, a5].getD k 0)) (k + 1) })]) (B := Bt) (nx := nx) [0,1,2,3,4,5,6] (by generalize b1 = b; revert b; revert hk6; generalize k = i; revert i; exact k6B (by kernel_rfl)) (by generalize b1 = b; revert b; revert hk6; generalize k = i; revert i; exact k6B (by kernel_rfl)) rfl
  refine c_item (items := (rowVs W).toArray) (n := 6) (x := .ref (W.R ([a0, a1, a2, a3, a4, a5].getD k 0))) (D2.F _ (.tail _ (.head _))) (by omega) (by omega) (by simpa using rowVs_get W hk) ?_
  refine back (V := VX2 (PX b1 b2 q) prog) L hP 100000 0 [6,0] D2 ?_
  refine good_hole (n := nn + 20) L (c := .call (.ref MK) ⟨[.ref (W.R ([a0, a1, a2, a3, a4, a5].getD k 0))], []⟩) (pp := []) (by generalize b1 = b; revert b; revert hk6; generalize k = i; revert i; exact k6B (by kernel_rfl)) trivial fun h3 L3 D3 => ?_
  have D4 := D3.toF (tk := 0) (T := kt (PX b1 b2 q)) (F := f9 DU a0 a1 a2 a3 a4 a5 c t W MK j ++ Fx) (Z := [fr7 (PX b1 b2 q) X0 e0 e1 e2 e3 DU e4 FL e5 WV e6, ce 111 115, ce 112 MK, ce 113 ML, (N, litO DU (k + 1 : Nat)), (N + 1, lstO (((vsF z0 z1 z2 z3 z4 k)).map Value.ref).toArray k), (N + 2, { cls := .type "dict", data := d9 (PX b1 b2 q) (t9 k tk e) (([a0, a1, a2, a3, a4, a5].getD k 0) : Nat) (t ([a0, a1, a2, a3, a4, a5].getD k 0)) (k + 1) })]) (B := Bt) (nx := nx) [0,1,2,3,4,5,6] (by generalize b1 = b; revert b; revert hk6; generalize k = i; revert i; exact k6B (by kernel_rfl)) (by generalize b1 = b; revert b; revert hk6; generalize k = i; revert i; exact k6B (by kernel_rfl)) rfl
  refine Wy.key h3 (fun p hp => D4.F p hp) (D4.bs hw) _ hk _ _ g d os h3 _ (L3.less (by omega)) (fun _ _ e => e) fun h4 k4 n4 F'' v' P4 hv => ?_
  obtain ⟨cc, hcc⟩ := Wy.kind
  obtain ⟨x, o, rfl, -, -⟩ := hcc _ _ _ hv
  have D5 := D4.andF P4
  refine back (V := VX2 (PX b1 b2 q) prog) L hP 100000 0 (hz [16,16,16,16]) (tk := k4) D5 ?_
  refine good_tail (n := nn + 20) L (c := c9 N) (pp := []) (by generalize b1 = b; revert b; revert hk6; generalize k = i; revert i; exact k6B (by kernel_rfl)) (by generalize b1 = b; revert b; revert hk6; generalize k = i; revert i; exact k6B (by kernel_rfl)) trivial fun h5 D6 => ?_
  exact H h5 _ n4 F'' x _ hv (D6.toF (tk := 0) (T := kt (PX b1 b2 q)) (F := f9 DU a0 a1 a2 a3 a4 a5 c t W MK j ++ (Fx ++ F'')) (Z := [fr7 (PX b1 b2 q) X0 e0 e1 e2 e3 DU e4 FL e5 WV e6, ce 111 115, ce 112 MK, ce 113 ML, (N, litO DU (k + 1 : Nat)), (N + 1, lstO (((vsF z0 z1 z2 z3 z4 k) ++ [x]).map Value.ref).toArray (k + 1)), (N + 2, { cls := .type "dict", data := d9 (PX b1 b2 q) (t9 k tk e) (([a0, a1, a2, a3, a4, a5].getD k 0) : Nat) (t ([a0, a1, a2, a3, a4, a5].getD k 0)) (k + 1) })]) (B := Bt) (nx := n4) [0,1,2,3,4,5,6] (by generalize b1 = b; revert b; revert hk6; generalize k = i; revert i; exact k6B (by kernel_rfl)) (by generalize b1 = b; revert b; revert hk6; generalize k = i; revert i; exact k6B (by kernel_rfl)) rfl)
theorem s9fin {nn : Nat} (L : Deep (nn + 40) A) (hw : w.params = PX b1 b2 q) {x0 x1 x2 x3 x4 x5 : Nat} {e tt : Nat} {v : Int}
    (D : Rep h₀ ⟨kt (PX b1 b2 q), f9 DU a0 a1 a2 a3 a4 a5 c t W MK j ++ Fx, [fr7 (PX b1 b2 q) X0 e0 e1 e2 e3 DU e4 FL e5 WV e6, ce 111 115, ce 112 MK, ce 113 ML, (N, litO DU (6 : Nat)), (N + 1, lstO ((([x0, x1, x2, x3, x4, x5] : List Nat)).map Value.ref).toArray (6)), (N + 2, { cls := .type "dict", data := d9 (PX b1 b2 q) e v tt (6) })], Bt, nx, tk⟩ h)
    (H : ∀ h' tk', Rep h₀ ⟨kt (PX b1 b2 q), f9 DU a0 a1 a2 a3 a4 a5 c t W MK j ++ Fx, [fr7 (PX b1 b2 q) X0 e0 e1 e2 e3 DU e4 FL e5 WV e6, ce 111 115, ce 112 MK, ce 113 ML, (N + 1, lstO (([x0, x1, x2, x3, x4, x5] : List Nat).map Value.ref).toArray 6), (N + 2, { cls := .type "dict", data := d9 (PX b1 b2 q) e v tt 6 })], Bt, nx + 2, 0⟩ h' → R (.ok .next) ⟨h', g, d, tk', os⟩) :
    codeAny (model prog w) A (c9 N) R ⟨h, g, d, tk, os⟩ := by
  have hP : (VX2 (PX b1 b2 q) prog).P = ⟨prog, w.params⟩ := by rw [hw]; rfl
  refine start (V := VX2 (PX b1 b2 q) prog) L hP 100000 0 (hz [13,13,13,13,0,13,13,25]) D rfl ?_
  refine good_done (r := .ok .next) (pp := []) (by generalize b1 = b; revert b; exact kB (by kernel_rfl)) trivial fun h1 D1 => ?_
  exact H h1 _ (D1.toF (tk := 0) (T := kt (PX b1 b2 q)) (F := f9 DU a0 a1 a2 a3 a4 a5 c t W MK j ++ Fx) (Z := [fr7 (PX b1 b2 q) X0 e0 e1 e2 e3 DU e4 FL e5 WV e6, ce 111 115, ce 112 MK, ce 113 ML, (N + 1, lstO (([x0, x1, x2, x3, x4, x5] : List Nat).map Value.ref).toArray 6), (N + 2, { cls := .type "dict", data := d9 (PX b1 b2 q) e v tt 6 })]) (B := Bt) (nx := nx + 2) [0,1,2,3,5,6] (by generalize b1 = b; revert b; exact kB (by kernel_rfl)) (by generalize b1 = b; revert b; exact kB (by kernel_rfl)) rfl)
theorem law_s9 {nn : Nat} (L : Deep (nn + 80) A) (hw : w.params = PX b1 b2 q) {Fv : Facts} {lt : Nat → Nat → Bool} {KP : Nat → Facts → Value → Prop} (Wy : WayOk prog w b1 b2 q nn Fv W MK lt KP)
    (hdue : (DU, duO a0 a1 a2 a3 a4 a5 c t) ∈ Fv) (hRw : (115, rowsO W) ∈ Fv) (hMk : (MK, jlO j) ∈ Fv) (h0 : a0 < 6) (h1 : a1 < 6) (h2 : a2 < 6) (h3 : a3 < 6) (h4 : a4 < 6) (h5 : a5 < 6) {Q : Flow → Shared → Prop} {E : Value → Shared → Prop}
    (D : Rep h₀ ⟨kt (PX b1 b2 q), Fv, [fr7 (PX b1 b2 q) X0 e0 e1 e2 e3 DU e4 FL e5 WV e6, ce 111 115, ce 112 MK, ce 113 ML], Bt, nx, tk⟩ h)
    (H : ∀ h' tk' nx' FK x0 x1 x2 x3 x4 x5 e MD, KP a0 FK (.ref x0) → KP a1 FK (.ref x1) → KP a2 FK (.ref x2) → KP a3 FK (.ref x3) → KP a4 FK (.ref x4) → KP a5 FK (.ref x5) →
      Rep h₀ ⟨kt (PX b1 b2 q), (MD, lstO #[.ref x0, .ref x1, .ref x2, .ref x3, .ref x4, .ref x5] 6) :: (Fv ++ FK), [fr8 (PX b1 b2 q) X0 e0 e1 e2 e3 DU e4 FL e5 WV e6 MD e, ce 111 115, ce 112 MK, ce 113 ML], Bt, nx', 0⟩ h' → Q .next ⟨h', g, d, tk', os⟩) :
    wpAny (model prog w) A (execs [lawS 9] (lawEnv 110)) Q E ⟨h, g, d, tk, os⟩ := by
  have hP : (VX1 (PX b1 b2 q) prog).P = ⟨prog, w.params⟩ := by rw [hw]; rfl
  have D0 := D.perm (F := f9 DU a0 a1 a2 a3 a4 a5 c t W MK j ++ Fv) (fun x hx => by
    simp only [f9, List.mem_append, List.mem_cons, List.not_mem_nil, or_false] at hx
    rcases hx with (rfl | rfl | rfl) | hx
    · exact hdue
    · exact hRw
    · exact hMk
    · exact hx)
  refine piece_block (V := VX1 (PX b1 b2 q) prog) L hP 100000 0 (cond b2 (hz [1,0,0,0,13]) (hz [1,0,0,0,13,13,13,13,13])) D0 ?_
  refine good_hole (n := nn + 60) L (c := c9 nx) (pp := []) (by generalize b1 = b; generalize b2 = c; revert b c; exact kBB (by kernel_rfl)) trivial fun g1 L1 D1 => ?_
  have D2 : Rep h₀ ⟨kt (PX b1 b2 q), f9 DU a0 a1 a2 a3 a4 a5 c t W MK j ++ Fv, [fr7 (PX b1 b2 q) X0 e0 e1 e2 e3 DU e4 FL e5 WV e6, ce 111 115, ce 112 MK, ce 113 ML, (nx, litO DU (0 : Nat)), (nx + 1, lstO ((([] : List Nat)).map Value.ref).toArray (0)), (nx + 2, { cls := .type "dict", data := d9 (PX b1 b2 q) 0 0 0 (0) })], Bt, nx + 3, 0⟩ g1 := D1.toF (tk := 0) (T := kt (PX b1 b2 q)) (F := f9 DU a0 a1 a2 a3 a4 a5 c t W MK j ++ Fv) (B := Bt) (nx := nx + 3) [0,1,2,3,4,5,6] (by generalize b1 = b; generalize b2 = c; revert b c; exact kBB (by kernel_rfl)) (by generalize b1 = b; generalize b2 = c; revert b c; exact kBB (by kernel_rfl)) rfl
  have Wy' := fun (Fx : Facts) (hs : ∀ p ∈ Fv, p ∈ Fx) => Wy.more (F2 := f9 DU a0 a1 a2 a3 a4 a5 c t W MK j ++ Fx) (fun x hx => List.mem_append_right _ (hs x hx))
  have L2 := L1.less (show nn + 40 ≤ nn + 60 by omega)
  refine s9turn (k := 0) (vs := []) L2 hw (Wy' _ fun _ hx => hx) (.inl ⟨rfl, rfl⟩) h0 (Rep.tok D2 _) fun g2 k2 n2 F1 x0 y1 q1 E1 => ?_
  refine s9turn (k := 1) (vs := [x0]) L2 hw (Wy' _ fun _ hx => List.mem_append_left _ hx) (.inr (.inl ⟨rfl, _, rfl⟩)) h1 (Rep.tok E1 _) fun g3 k3 n3 F2 x1 y2 q2 E2 => ?_
  refine s9turn (k := 2) (vs := [x0, x1]) L2 hw (Wy' _ fun _ hx => List.mem_append_left _ (List.mem_append_left _ hx)) (.inr (.inr (.inl ⟨rfl, _, _, rfl⟩))) h2 (Rep.tok E2 _) fun g4 k4 n4 F3 x2 y3 q3 E3 => ?_
  refine s9turn (k := 3) (vs := [x0, x1, x2]) L2 hw (Wy' _ fun _ hx => List.mem_append_left _ (List.mem_append_left _ (List.mem_append_left _ hx))) (.inr (.inr (.inr (.inl ⟨rfl, _, _, _, rfl⟩)))) h3 (Rep.tok E3 _) fun g5 k5 n5 F4 x3 y4 q4 E4 => ?_
  refine s9turn (k := 4) (vs := [x0, x1, x2, x3]) L2 hw (Wy' _ fun _ hx => List.mem_append_left _ (List.mem_append_left _ (List.mem_append_left _ (List.mem_append_left _ hx)))) (.inr (.inr (.inr (.inr (.inl ⟨rfl, _, _, _, _, rfl⟩))))) h4 (Rep.tok E4 _) fun g6 k6 n6 F5 x4 y5 q5 E5 => ?_
  refine s9turn (k := 5) (vs := [x0, x1, x2, x3, x4]) L2 hw (Wy' _ fun _ hx => List.mem_append_left _ (List.mem_append_left _ (List.mem_append_left _ (List.mem_append_left _ (List.mem_append_left _ hx))))) (.inr (.inr (.inr (.inr (.inr ⟨rfl, _, _, _, _, _, rfl⟩))))) h5 (Rep.tok E5 _) fun g7 k7 n7 F6 x5 y6 q6 E6 => ?_
  refine s9fin (nn := nn) L2 hw (Rep.tok E6 _) fun g8 k8 E7 => ?_
  refine back (V := VX1 (PX b1 b2 q) prog) L hP 100000 0 (hz [1,1,16,16,16]) (tk := k8) E7 ?_
  refine good_done (r := .ok .next) (pp := []) (by generalize b1 = b; generalize b2 = c; revert b c; exact kBB (by kernel_rfl)) trivial fun g9 E8 => ?_
  have E9 := E8.toF (tk := 0) (T := kt (PX b1 b2 q)) (F := f9 DU a0 a1 a2 a3 a4 a5 c t W MK j ++ (Fv ++ F1 ++ F2 ++ F3 ++ F4 ++ F5 ++ F6)) (Z := [fr8 (PX b1 b2 q) X0 e0 e1 e2 e3 DU e4 FL e5 WV e6 (nx + 1) k8, ce 111 115, ce 112 MK, ce 113 ML, (nx + 1, lstO #[.ref x0, .ref x1, .ref x2, .ref x3, .ref x4, .ref x5] 6)]) (B := Bt) (nx := n7 + 2) [0,1,2,3,4] (by generalize b1 = b; generalize b2 = c; revert b c; exact kBB (by kernel_rfl)) (by generalize b1 = b; generalize b2 = c; revert b c; exact kBB (by kernel_rfl)) rfl
  have E10 := E9.toXe (tk := 0) (F0 := f9 DU a0 a1 a2 a3 a4 a5 c t W MK j) (Fx := Fv ++ F1 ++ F2 ++ F3 ++ F4 ++ F5 ++ F6) (T := kt (PX b1 b2 q)) (F := [(nx + 1, lstO #[.ref x0, .ref x1, .ref x2, .ref x3, .ref x4, .ref x5] 6)]) (Z := [fr8 (PX b1 b2 q) X0 e0 e1 e2 e3 DU e4 FL e5 WV e6 (nx + 1) k8, ce 111 115, ce 112 MK, ce 113 ML]) (B := Bt) (nx := n7 + 2) [13] [0,1,2,3] rfl rfl rfl
  have E11 := E10.perm (F := (nx + 1, lstO #[.ref x0, .ref x1, .ref x2, .ref x3, .ref x4, .ref x5] 6) :: (Fv ++ (F1 ++ F2 ++ F3 ++ F4 ++ F5 ++ F6))) (by trivial)
  refine H g9 _ _ (F1 ++ F2 ++ F3 ++ F4 ++ F5 ++ F6) x0 x1 x2 x3 x4 x5 _ _ ?_ ?_ ?_ ?_ ?_ ?_ E11
  · exact Wy.mono _ _ _ _ (by trivial) q1
  · exact Wy.mono _ _ _ _ (by trivial) q2
  · exact Wy.mono _ _ _ _ (by trivial) q3
  · exact Wy.mono _ _ _ _ (by trivial) q4
  · exact Wy.mono _ _ _ _ (by trivial) q5
  · exact Wy.mono _ _ _ _ (by trivial) q6
end
end Mine
namespace Mine
open PySem PySem.W PySem.W.X PySem.Spec PySem.Calls PyProof.Rows
open PySem.W.Fast
noncomputable def VY2 (P : Params) (prog : Program) : Env9 := ⟨⟨prog, P⟩, fun c => match c with
  | .call (.builtin s) _ => memS s ["list.__getitem__"]
  | .call (.ref _) a => three9 a
  | _ => false⟩
noncomputable abbrev s10 : Stmt := lawS 10
noncomputable abbrev bS (i : Nat) : Stmt := (forB s10).getD i (.Pass ⟨0, 0, 0, 0⟩)
structure G10 where
  PL : Nat
  E0 : Nat
  E1 : Nat
  E2 : Nat
  E3 : Nat
  E4 : Nat
  E5 : Nat
  u : Nat → Nat
  MD : Nat
  x : Nat → Nat
  DU : Nat
  a : Nat → Nat
  t : Nat → Nat
  c : Nat
  ML : Nat
  m : Nat → Nat
  W : Rows
  K : Keys
  FL : Nat
  DI : Nat
  LI : Nat
  td : Nat
noncomputable def G10.F (P : Params) (G : G10) : Facts := [
  (G.PL, lstO #[.ref G.E0, .ref G.E1, .ref G.E2, .ref G.E3, .ref G.E4, .ref G.E5] 0),
  (G.E0, tupV #[.int 0 (G.u 0), .int 0 (G.u 1)]), (G.E1, tupV #[.int 0 (G.u 2), .int 1 (G.u 3)]), (G.E2, tupV #[.int 2 (G.u 4), .int 1 (G.u 5)]), (G.E3, tupV #[.int 2 (G.u 6), .int 3 (G.u 7)]), (G.E4, tupV #[.int 4 (G.u 8), .int 3 (G.u 9)]), (G.E5, tupV #[.int 4 (G.u 10), .int 5 (G.u 11)]),
  (G.MD, lstO #[.ref (G.x 0), .ref (G.x 1), .ref (G.x 2), .ref (G.x 3), .ref (G.x 4), .ref (G.x 5)] 6),
  (G.DU, lstO #[.int (G.a 0 : Nat) (G.t (G.a 0)), .int (G.a 1 : Nat) (G.t (G.a 1)), .int (G.a 2 : Nat) (G.t (G.a 2)), .int (G.a 3 : Nat) (G.t (G.a 3)), .int (G.a 4 : Nat) (G.t (G.a 4)), .int (G.a 5 : Nat) (G.t (G.a 5))] G.c),
  (G.ML, lstO #[.ref (G.m 0), .ref (G.m 1), .ref (G.m 2), .ref (G.m 3), .ref (G.m 4), .ref (G.m 5)] 6),
  (115, rowsO G.W),
  (256, lstO #[.int G.K.s0 G.K.u0, .int G.K.s1 G.K.u1, .int G.K.s2 G.K.u2, .int G.K.s3 G.K.u3] 0),
  (G.FL, { cls := .ref 54, dict := some G.DI, data := .plain }), (G.DI, { cls := .type "dict", data := .dict #[de P "comp_select_list" G.td (.ref G.LI)] 1 })]
structure V10 where
  l : Nat
  r : Nat
  lt : Nat
  rt : Nat
  other : Nat
  one : Nat
  its : Nat
  mine : Nat
  told : Nat
  sizes : Nat
  size : Int
  st : Nat
noncomputable def ent10 (P : Params) (τ : Nat → Nat) (v : V10) : List DictEntry := [de P "left" (τ 0) (.int (v.l : Int) v.lt), de P "right" (τ 1) (.int (v.r : Int) v.rt), de P "other" (τ 2) (.ref v.other), de P "one" (τ 3) (.ref v.one), de P "its" (τ 4) (.ref v.its), de P "mine" (τ 5) (.ref v.mine), de P "told" (τ 6) (.ref v.told), de P "sizes" (τ 7) (.ref v.sizes), de P "size" (τ 8) (.int v.size v.st)]
structure B10 where
  X0 : Nat
  e : Nat → Nat
  WV : Nat
  MK : Nat
  IT : Nat
noncomputable def b8 (P : Params) (B : B10) (G : G10) : List DictEntry := [de P "script" (B.e 0) (.ref B.X0), de P "columns" (B.e 1) (.ref 218), de P "joins" (B.e 2) (.ref 228), de P "senses" (B.e 3) (.ref 256), de P "due" (B.e 4) (.ref G.DU), de P "flat" (B.e 5) (.ref G.FL), de P "way" (B.e 6) (.ref B.WV), de P "made" (B.e 7) (.ref G.MD)]
noncomputable def fr10 (P : Params) (B : B10) (G : G10) (τ : Nat → Nat) (s : Nat) (v : V10) : Option V10 → Obj
  | none => frO (b8 P B G ++ (ent10 P τ v).take s).toArray (8 + s)
  | some o => frO (b8 P B G ++ ((ent10 P τ v).take s ++ (ent10 P τ o).drop s)).toArray 17
noncomputable def z10 (P : Params) (B : B10) (G : G10) (τ : Nat → Nat) (s : Nat) (v : V10) (o : Option V10) (i : Nat) : Facts :=
  [(110, fr10 P B G τ s v o), ce 111 115, ce 112 B.MK, ce 113 G.ML, (B.IT, litO G.PL (i : Nat))]
noncomputable def tau10 (τ : Nat → Nat) (s k tk : Nat) : Option V10 → Nat → Nat
  | none => fun i => match Nat.ble s i with | true => (match Nat.ble (s + k) i with | true => τ i | false => tk + (i - s)) | false => τ i
  | some _ => τ
noncomputable def lr10 (i : Nat) : Nat × Nat := [(0, 0), (0, 1), (2, 1), (2, 3), (4, 3), (4, 5)].getD i (0, 0)
noncomputable def I6 (i : Nat) : Prop := i = 0 ∨ i = 1 ∨ i = 2 ∨ i = 3 ∨ i = 4 ∨ i = 5
section
variable {prog : Program} {w : World} {A : Around} {R : Result → Shared → Prop} {h₀ h : Heap} {g : Array GenState} {d : Drawn} {tk : Nat} {os : OsState} {b1 b2 : Bool} {q : Params} {Fx Bt : Facts} {nx : Nat} {B : B10} {G : G10} {τ : Nat → Nat} {v : V10} {o : Option V10}
theorem t10pre {nn i : Nat} (L : Deep nn A) (hw : w.params = PX b1 b2 q) (hi : I6 i) {Q : Option Unit → Shared → Prop} {E : Value → Shared → Prop}
    (D : Rep h₀ ⟨kt (PX b1 b2 q), G.F (PX b1 b2 q) ++ Fx, z10 (PX b1 b2 q) B G τ 0 v o i, Bt, nx, tk⟩ h)
    (H : ∀ h' tk' nx' τ', Rep h₀ ⟨kt (PX b1 b2 q), G.F (PX b1 b2 q) ++ Fx, z10 (PX b1 b2 q) B G τ' 2 { v with l := (lr10 i).1, lt := G.u (2 * i), r := (lr10 i).2, rt := G.u (2 * i + 1) } o (i + 1), Bt, nx', 0⟩ h' → Q (some ()) ⟨h', g, d, tk', os⟩) :
    wpAny (model prog w) A (cmPre1 (forT s10) (.ref B.IT) (lawEnv 110)) Q E ⟨h, g, d, tk, os⟩ := by
  have hP : (V0 (PX b1 b2 q) prog).P = ⟨prog, w.params⟩ := by rw [hw]; rfl
  refine piece_of (cmPre1_eq _ _ _) enc1 L (V := V0 (PX b1 b2 q) prog) hP 100000 0 [13, 0, 13, 0, 13, 0, 13, 0, 0, 0, 13, 0, 13, 0, 13, 0, 3 * (i + 1), 0, 3 * (i + 1), 0, 3 * (i + 1), 0, 3 * (i + 1), 0, 16, 0, 16, 0, 16, 0, 16, 0, 16, 0, 3 * (i + 1), 0, 16, 0, 16, 0, 16, 0, 16, 0, 16, 0, 16, 0, 3 * (i + 1), 0, 16, 0, 16, 0, 16, 0, 16, 0, 16, 0, 16, 0, 3 * (i + 1), 0, 16, 0, 16, 0, 22, 0, 1, 0, 1, 0, 1, 0, 1, 0] D ?_
  refine good_done (r := .ok .next) (pp := []) (by generalize o = x; generalize b1 = b; revert x b hi; generalize i = i; revert i; exact k6OB (by kernel_rfl)) trivial fun h1 D1 => encR (fun _ => enc1_next) ?_
  exact H _ _ _ _ (D1.toF (tk := 0) (T := kt (PX b1 b2 q)) (F := G.F (PX b1 b2 q) ++ Fx) (Z := z10 (PX b1 b2 q) B G (tau10 τ 0 2 tk o) 2 { v with l := (lr10 i).1, lt := G.u (2 * i), r := (lr10 i).2, rt := G.u (2 * i + 1) } o (i + 1)) (B := Bt) (nx := nx + 3) [0,1,2,3,4] (by generalize o = x; generalize b1 = b; revert x b hi; generalize i = i; revert i; exact k6OB (by kernel_rfl)) (by generalize o = x; generalize b1 = b; revert x b hi; generalize i = i; revert i; exact k6OB (by kernel_rfl)) rfl)
theorem t10end {nn : Nat} (L : Deep nn A) (hw : w.params = PX b1 b2 q) {Q : Option Unit → Shared → Prop} {E : Value → Shared → Prop}
    (D : Rep h₀ ⟨kt (PX b1 b2 q), G.F (PX b1 b2 q) ++ Fx, z10 (PX b1 b2 q) B G τ 0 v o 6, Bt, nx, tk⟩ h)
    (H : ∀ h' tk', Rep h₀ ⟨kt (PX b1 b2 q), G.F (PX b1 b2 q) ++ Fx, (z10 (PX b1 b2 q) B G τ 0 v o 6).take 4, Bt, nx + 2, 0⟩ h' → Q none ⟨h', g, d, tk', os⟩) :
    wpAny (model prog w) A (cmPre1 (forT s10) (.ref B.IT) (lawEnv 110)) Q E ⟨h, g, d, tk, os⟩ := by
  have hP : (V0 (PX b1 b2 q) prog).P = ⟨prog, w.params⟩ := by rw [hw]; rfl
  refine piece_of (cmPre1_eq _ _ _) enc1 L (V := V0 (PX b1 b2 q) prog) hP 100000 0 (hz [13,13,13,13,0,13,13,19]) D ?_
  refine good_done (r := .ok .cont) (pp := []) (by generalize o = x; generalize b1 = b; revert x b; exact kOB (by kernel_rfl)) trivial fun h1 D1 => encR (fun _ => enc1_cont) ?_
  exact H _ _ (D1.toF (tk := 0) (T := kt (PX b1 b2 q)) (F := G.F (PX b1 b2 q) ++ Fx) (Z := (z10 (PX b1 b2 q) B G τ 0 v o 6).take 4) (B := Bt) (nx := nx + 2) [0,1,2,3] (by generalize o = x; generalize b1 = b; revert x b; exact kOB (by kernel_rfl)) (by generalize o = x; generalize b1 = b; revert x b; exact kOB (by kernel_rfl)) rfl)
theorem b10_0 {nn i j : Nat} (L : Deep nn A) (hw : w.params = PX b1 b2 q) (hi : I6 i) (hl : v.l = (lr10 i).1) (hr : v.r = (lr10 i).2) {Q : Flow → Shared → Prop} {E : Value → Shared → Prop}
    (D : Rep h₀ ⟨kt (PX b1 b2 q), G.F (PX b1 b2 q) ++ Fx, z10 (PX b1 b2 q) B G τ 2 v o j, Bt, nx, tk⟩ h)
    (H : ∀ h' tk' nx' τ', Rep h₀ ⟨kt (PX b1 b2 q), G.F (PX b1 b2 q) ++ Fx, z10 (PX b1 b2 q) B G τ' 4 { v with other := G.x (lr10 i).2, one := G.x (lr10 i).1 } o j, Bt, nx', 0⟩ h' → Q .next ⟨h', g, d, tk', os⟩) :
    wpAny (model prog w) A (execs [bS 0] (lawEnv 110)) Q E ⟨h, g, d, tk, os⟩ := by
  have hP : (V0 (PX b1 b2 q) prog).P = ⟨prog, w.params⟩ := by rw [hw]; rfl
  refine piece_block (V := V0 (PX b1 b2 q) prog) L hP 100000 0 (hz [1,1,21,21,21,21,21,1,1,21,21,21,21,21,16,16,16,16,19,19,19,19,19,16,19,19,19,19,19,19,16,19,19,19,19,19,19,16,19,19,25,1,1,1,1]) D ?_
  refine good_done (r := .ok .next) (pp := []) (by obtain ⟨_, _, _, _, _, _, _, _, _, _, _, _⟩ := v; simp only at hl hr; subst hl hr; generalize o = x; generalize b1 = b; revert x b hi; generalize i = i; revert i; exact k6OB (by kernel_rfl)) trivial fun h1 D1 => ?_
  exact H _ _ _ _ (D1.toF (tk := 0) (T := kt (PX b1 b2 q)) (F := G.F (PX b1 b2 q) ++ Fx) (Z := z10 (PX b1 b2 q) B G (tau10 τ 2 2 tk o) 4 { v with other := G.x (lr10 i).2, one := G.x (lr10 i).1 } o j) (B := Bt) (nx := nx + 4) [0,1,2,3,4] (by obtain ⟨_, _, _, _, _, _, _, _, _, _, _, _⟩ := v; simp only at hl hr; subst hl hr; generalize o = x; generalize b1 = b; revert x b hi; generalize i = i; revert i; exact k6OB (by kernel_rfl)) (by obtain ⟨_, _, _, _, _, _, _, _, _, _, _, _⟩ := v; simp only at hl hr; subst hl hr; generalize o = x; generalize b1 = b; revert x b hi; generalize i = i; revert i; exact k6OB (by kernel_rfl)) rfl)
theorem lst6_get {α : Type} (f : Nat → α) {k : Nat} (hk : k < 6) : (#[f 0, f 1, f 2, f 3, f 4, f 5])[((k : Nat) : Int).toNat]? = some (f k) := by
  have : k = 0 ∨ k = 1 ∨ k = 2 ∨ k = 3 ∨ k = 4 ∨ k = 5 := lt6 (by first | assumption | omega)
  rcases this with rfl | rfl | rfl | rfl | rfl | rfl <;> rfl
theorem lr_lt {i : Nat} (hi : I6 i) : (lr10 i).1 < 6 ∧ (lr10 i).2 < 6 := by
  rcases hi with rfl | rfl | rfl | rfl | rfl | rfl <;> decide
theorem b10_1 {nn i j : Nat} (L : Deep (nn + 20) A) (hw : w.params = PX b1 b2 q) (hi : I6 i) (hl : v.l = (lr10 i).1) (hr : v.r = (lr10 i).2) (ha : ∀ k, k < 6 → G.a k < 6) {Q : Flow → Shared → Prop} {E : Value → Shared → Prop}
    (D : Rep h₀ ⟨kt (PX b1 b2 q), G.F (PX b1 b2 q) ++ Fx, z10 (PX b1 b2 q) B G τ 4 v o j, Bt, nx, tk⟩ h)
    (H : ∀ h' tk' nx' τ', Rep h₀ ⟨kt (PX b1 b2 q), G.F (PX b1 b2 q) ++ Fx, z10 (PX b1 b2 q) B G τ' 6 { v with its := G.m (G.a (lr10 i).2), mine := G.m (G.a (lr10 i).1) } o j, Bt, nx', 0⟩ h' → Q .next ⟨h', g, d, tk', os⟩) :
    wpAny (model prog w) A (execs [bS 1] (lawEnv 110)) Q E ⟨h, g, d, tk, os⟩ := by
  have ll : v.l < 6 := by rw [hl]; exact (lr_lt hi).1
  have lr : v.r < 6 := by rw [hr]; exact (lr_lt hi).2
  simp only [← hl, ← hr] at H
  have hP : (VY2 (PX b1 b2 q) prog).P = ⟨prog, w.params⟩ := by rw [hw]; rfl
  have dl : ∀ (k : Nat) (p : Addr × Obj), nth (G.F (PX b1 b2 q)) k = some p → p ∈ G.F (PX b1 b2 q) ++ Fx := fun k p e => List.mem_append_left _ (by rw [nth_eq] at e; exact List.mem_of_getElem? e)
  refine piece_block (V := VY2 (PX b1 b2 q) prog) L hP 100000 0 (hz [10,1,1,24,24,24]) D ?_
  refine good_holeT (n := nn) L (c := .call (.builtin "list.__getitem__") ⟨[.ref G.DU, .int (v.l : Nat) v.lt], []⟩) (pp := []) (by generalize o = x; generalize b1 = b; revert x b; exact kOB (by kernel_rfl)) trivial fun h1 t1 L1 D1 => ?_
  have E1 := D1.toF (tk := 0) (T := kt (PX b1 b2 q)) (F := G.F (PX b1 b2 q) ++ Fx) (Z := z10 (PX b1 b2 q) B G τ 4 v o j) (B := Bt) (nx := nx) [0,1,2,3,4] (by generalize o = x; generalize b1 = b; revert x b; exact kOB (by kernel_rfl)) (by generalize o = x; generalize b1 = b; revert x b; exact kOB (by kernel_rfl)) rfl
  refine c_item (n := G.c) (x := .int (G.a v.l : Nat) (G.t (G.a v.l))) (E1.F _ (dl 8 _ rfl)) (by omega) (by have := ll; omega) (lst6_get (fun k => Value.int (G.a k : Nat) (G.t (G.a k))) ll) ?_
  refine back (V := VY2 (PX b1 b2 q) prog) L hP 100000 0 (hz [27,27,27]) (tk := t1) E1 ?_
  refine good_holeT (n := nn) L (c := .call (.builtin "list.__getitem__") ⟨[.ref G.ML, .int (G.a v.l : Nat) (G.t (G.a v.l))], []⟩) (pp := []) (by generalize o = x; generalize b1 = b; revert x b; exact kOB (by kernel_rfl)) trivial fun h2 t2 L2 D2 => ?_
  have E2 := D2.toF (tk := 0) (T := kt (PX b1 b2 q)) (F := G.F (PX b1 b2 q) ++ Fx) (Z := z10 (PX b1 b2 q) B G τ 4 v o j) (B := Bt) (nx := nx) [0,1,2,3,4] (by generalize o = x; generalize b1 = b; revert x b; exact kOB (by kernel_rfl)) (by generalize o = x; generalize b1 = b; revert x b; exact kOB (by kernel_rfl)) rfl
  refine c_item (n := 6) (x := .ref (G.m (G.a v.l))) (E2.F _ (dl 9 _ rfl)) (by omega) (by have := ha _ ll; omega) (lst6_get (fun k => Value.ref (G.m k)) (ha _ ll)) ?_
  refine back (V := VY2 (PX b1 b2 q) prog) L hP 100000 0 (hz [10,1,1,24,24,24]) (tk := t2) E2 ?_
  refine good_holeT (n := nn) L (c := .call (.builtin "list.__getitem__") ⟨[.ref G.DU, .int (v.r : Nat) v.rt], []⟩) (pp := []) (by generalize o = x; generalize b1 = b; revert x b; exact kOB (by kernel_rfl)) trivial fun h3 t3 L3 D3 => ?_
  have E3 := D3.toF (tk := 0) (T := kt (PX b1 b2 q)) (F := G.F (PX b1 b2 q) ++ Fx) (Z := z10 (PX b1 b2 q) B G τ 4 v o j) (B := Bt) (nx := nx) [0,1,2,3,4] (by generalize o = x; generalize b1 = b; revert x b; exact kOB (by kernel_rfl)) (by generalize o = x; generalize b1 = b; revert x b; exact kOB (by kernel_rfl)) rfl
  refine c_item (n := G.c) (x := .int (G.a v.r : Nat) (G.t (G.a v.r))) (E3.F _ (dl 8 _ rfl)) (by omega) (by have := lr; omega) (lst6_get (fun k => Value.int (G.a k : Nat) (G.t (G.a k))) lr) ?_
  refine back (V := VY2 (PX b1 b2 q) prog) L hP 100000 0 (hz [27,27,27]) (tk := t3) E3 ?_
  refine good_holeT (n := nn) L (c := .call (.builtin "list.__getitem__") ⟨[.ref G.ML, .int (G.a v.r : Nat) (G.t (G.a v.r))], []⟩) (pp := []) (by generalize o = x; generalize b1 = b; revert x b; exact kOB (by kernel_rfl)) trivial fun h4 t4 L4 D4 => ?_
  have E4 := D4.toF (tk := 0) (T := kt (PX b1 b2 q)) (F := G.F (PX b1 b2 q) ++ Fx) (Z := z10 (PX b1 b2 q) B G τ 4 v o j) (B := Bt) (nx := nx) [0,1,2,3,4] (by generalize o = x; generalize b1 = b; revert x b; exact kOB (by kernel_rfl)) (by generalize o = x; generalize b1 = b; revert x b; exact kOB (by kernel_rfl)) rfl
  refine c_item (n := 6) (x := .ref (G.m (G.a v.r))) (E4.F _ (dl 9 _ rfl)) (by omega) (by have := ha _ lr; omega) (lst6_get (fun k => Value.ref (G.m k)) (ha _ lr)) ?_
  refine back (V := VY2 (PX b1 b2 q) prog) L hP 100000 0 (hz [16,16,16,16,19,19,19,19,19,16,19,19,19,19,19,19,16,19,19,19,19,19,19,16,19,19,25,1,1,1,1]) (tk := t4) E4 ?_
  refine good_done (r := .ok .next) (pp := []) (by generalize o = x; generalize b1 = b; revert x b; exact kOB (by kernel_rfl)) trivial fun h5 D5 => ?_
  exact H _ _ _ _ (D5.toF (tk := 0) (T := kt (PX b1 b2 q)) (F := G.F (PX b1 b2 q) ++ Fx) (Z := z10 (PX b1 b2 q) B G (tau10 τ 4 2 t4 o) 6 { v with its := G.m (G.a v.r), mine := G.m (G.a v.l) } o j) (B := Bt) (nx := nx + 4) [0,1,2,3,4] (by generalize o = x; generalize b1 = b; revert x b; exact kOB (by kernel_rfl)) (by generalize o = x; generalize b1 = b; revert x b; exact kOB (by kernel_rfl)) rfl)
end
end Mine
namespace Mine
open PySem PySem.W PySem.W.X PySem.Spec PySem.Calls PyProof.Rows
open PySem.W.Fast
set_option backward.match.sparseCases false in
noncomputable def elt9 : Expr → Nat → Expr
  | .List l _, k => l.getD k (.Constant .none 0 ⟨0, 0, 0, 0⟩)
  | e, _ => e
set_option backward.match.sparseCases false in
noncomputable def elts9 : Expr → List Expr
  | .List l _ => l
  | _ => []
set_option backward.match.sparseCases false in
noncomputable def pos9 : Expr → Pos
  | .List _ p => p
  | _ => ⟨0, 0, 0, 0⟩
noncomputable def op6 (k : Nat) : CmpOp := [CmpOp.Lt, .LtE, .Eq, .NotEq, .Gt, .GtE].getD k .Lt
theorem spl_nil {prog : Program} {w : World} {A : Around} {Q : List Value → Shared → Prop} {E : Value → Shared → Prop} {s : Shared} (h : Q [] s) : wpAny (model prog w) A (spliced []) Q E s := wpAny_pure h
theorem spl_cons {prog : Program} {w : World} {A : Around} {x : Sem Value} {rest : List (Bool × Sem Value)} {Q : List Value → Shared → Prop} {E : Value → Shared → Prop} {s : Shared}
    (h : wpAny (model prog w) A x (fun v s1 => wpAny (model prog w) A (spliced rest) (fun vs s2 => Q (v :: vs) s2) E s1) E s) : wpAny (model prog w) A (spliced ((false, x) :: rest)) Q E s := by
  unfold spliced
  refine wpAny_bind (wpAny_mono h (fun v s1 h1 => ?_) fun _ _ e => e)
  show wpAny _ _ ((pure [v] : Sem (List Value)) >>= fun here => _) _ _ _
  refine wpAny_bind (wpAny_pure ?_)
  refine wpAny_bind (wpAny_holding (wpAny_mono h1 (fun vs s2 h2 => ?_) fun _ _ e => e))
  exact wpAny_pure h2
noncomputable def Six (p : Nat → Bool) : Prop := (p 0 = true ∧ p 1 = true ∧ p 2 = false ∧ p 3 = true ∧ p 4 = false ∧ p 5 = false) ∨ (p 0 = false ∧ p 1 = true ∧ p 2 = true ∧ p 3 = false ∧ p 4 = false ∧ p 5 = true) ∨ (p 0 = false ∧ p 1 = false ∧ p 2 = false ∧ p 3 = true ∧ p 4 = true ∧ p 5 = true)
noncomputable def tdO (p : Nat → Bool) : Obj := lstO #[.bool (p 0), .bool (p 1), .bool (p 2), .bool (p 3), .bool (p 4), .bool (p 5)] 0
theorem six_td {p : Nat → Bool} (h : Six p) : tdO p = lstO #[.bool true, .bool true, .bool false, .bool true, .bool false, .bool false] 0 ∨ tdO p = lstO #[.bool false, .bool true, .bool true, .bool false, .bool false, .bool true] 0 ∨ tdO p = lstO #[.bool false, .bool false, .bool false, .bool true, .bool true, .bool true] 0 := by
  unfold tdO
  obtain ⟨e0, e1, e2, e3, e4, e5⟩ | ⟨e0, e1, e2, e3, e4, e5⟩ | ⟨e0, e1, e2, e3, e4, e5⟩ := h <;> rw [e0, e1, e2, e3, e4, e5]
  · exact .inl rfl
  · exact .inr (.inl rfl)
  · exact .inr (.inr rfl)
theorem six_y (y : Int) : Six fun k => opB (op6 k) y := by
  unfold Six op6 opB
  simp only [List.getD_cons_zero, List.getD_cons_succ]
  rcases Int.lt_trichotomy y 0 with h | h | h
  · left
    refine ⟨by simpa using h, by simp; omega, ?_, ?_, by simp; omega, by simp; omega⟩
    · simp; omega
    · simp; omega
  · subst h; right; left; decide
  · right; right
    refine ⟨by simp; omega, by simp; omega, ?_, ?_, by simpa using h, by simp; omega⟩
    · simp; omega
    · simp; omega
section
variable {prog : Program} {w : World} {A : Around} {R : Result → Shared → Prop} {h₀ h : Heap} {g : Array GenState} {d : Drawn} {tk : Nat} {os : OsState} {b1 b2 : Bool} {q : Params} {Fx Bt : Facts} {nx : Nat} {B : B10} {G : G10} {τ : Nat → Nat} {v : V10} {o : Option V10}
theorem nm2 {nn k j : Nat} (L : Deep nn A) (hw : w.params = PX b1 b2 q) (hk : I6 k) {Q : Value → Shared → Prop} {E : Value → Shared → Prop}
    (D : Rep h₀ ⟨kt (PX b1 b2 q), G.F (PX b1 b2 q) ++ Fx, z10 (PX b1 b2 q) B G τ 6 v o j, Bt, nx, tk⟩ h) :
    ((∀ h' tk', Rep h₀ ⟨kt (PX b1 b2 q), G.F (PX b1 b2 q) ++ Fx, z10 (PX b1 b2 q) B G τ 6 v o j, Bt, nx, 0⟩ h' → Q (.ref v.one) ⟨h', g, d, tk', os⟩) → wpAny (model prog w) A (eval (cmpL (elt9 (valE (bS 2)) k)) (lawEnv 110)) Q E ⟨h, g, d, tk, os⟩) ∧
    ((∀ h' tk', Rep h₀ ⟨kt (PX b1 b2 q), G.F (PX b1 b2 q) ++ Fx, z10 (PX b1 b2 q) B G τ 6 v o j, Bt, nx, 0⟩ h' → Q (.ref v.other) ⟨h', g, d, tk', os⟩) → wpAny (model prog w) A (eval (cmpR (elt9 (valE (bS 2)) k)) (lawEnv 110)) Q E ⟨h, g, d, tk, os⟩) := by
  have hP : (V0 (PX b1 b2 q) prog).P = ⟨prog, w.params⟩ := by rw [hw]; rfl
  constructor
  · intro H
    refine piece_of (by rw [← te14044960220447912780] : eval (cmpL (elt9 (valE (bS 2)) k)) (lawEnv 110) = tw14044960220447912780 (cmpL (elt9 (valE (bS 2)) k)) (lawEnv 110)) Flow.ret L (V := V0 (PX b1 b2 q) prog) hP 10000 0 [1,0] D ?_
    refine good_done (r := .ok (.ret (.ref v.one))) (pp := []) (by generalize o = x; generalize b1 = b; revert x b hk; generalize k = i; revert i; exact k6OB (by kernel_rfl)) trivial fun h1 D1 => encR retI ?_
    exact H _ _ (D1.toF (tk := 0) (T := kt (PX b1 b2 q)) (F := G.F (PX b1 b2 q) ++ Fx) (Z := z10 (PX b1 b2 q) B G τ 6 v o j) (B := Bt) (nx := nx) [0,1,2,3,4] (by generalize o = x; generalize b1 = b; revert x b hk; generalize k = i; revert i; exact k6OB (by kernel_rfl)) (by generalize o = x; generalize b1 = b; revert x b hk; generalize k = i; revert i; exact k6OB (by kernel_rfl)) rfl)
  · intro H
    refine piece_of (by rw [← te14044960220447912780] : eval (cmpR (elt9 (valE (bS 2)) k)) (lawEnv 110) = tw14044960220447912780 (cmpR (elt9 (valE (bS 2)) k)) (lawEnv 110)) Flow.ret L (V := V0 (PX b1 b2 q) prog) hP 10000 0 [1,0] D ?_
    refine good_done (r := .ok (.ret (.ref v.other))) (pp := []) (by generalize o = x; generalize b1 = b; revert x b hk; generalize k = i; revert i; exact k6OB (by kernel_rfl)) trivial fun h1 D1 => encR retI ?_
    exact H _ _ (D1.toF (tk := 0) (T := kt (PX b1 b2 q)) (F := G.F (PX b1 b2 q) ++ Fx) (Z := z10 (PX b1 b2 q) B G τ 6 v o j) (B := Bt) (nx := nx) [0,1,2,3,4] (by generalize o = x; generalize b1 = b; revert x b hk; generalize k = i; revert i; exact k6OB (by kernel_rfl)) (by generalize o = x; generalize b1 = b; revert x b hk; generalize k = i; revert i; exact k6OB (by kernel_rfl)) rfl)
theorem nm3 {nn k j : Nat} (L : Deep nn A) (hw : w.params = PX b1 b2 q) (hk : I6 k) {Q : Value → Shared → Prop} {E : Value → Shared → Prop}
    (D : Rep h₀ ⟨kt (PX b1 b2 q), G.F (PX b1 b2 q) ++ Fx, z10 (PX b1 b2 q) B G τ 7 v o j, Bt, nx, tk⟩ h) :
    ((∀ h' tk', Rep h₀ ⟨kt (PX b1 b2 q), G.F (PX b1 b2 q) ++ Fx, z10 (PX b1 b2 q) B G τ 7 v o j, Bt, nx, 0⟩ h' → Q (.ref v.mine) ⟨h', g, d, tk', os⟩) → wpAny (model prog w) A (eval (cmpL (elt9 (cmpR (ifT (bS 3))) k)) (lawEnv 110)) Q E ⟨h, g, d, tk, os⟩) ∧
    ((∀ h' tk', Rep h₀ ⟨kt (PX b1 b2 q), G.F (PX b1 b2 q) ++ Fx, z10 (PX b1 b2 q) B G τ 7 v o j, Bt, nx, 0⟩ h' → Q (.ref v.its) ⟨h', g, d, tk', os⟩) → wpAny (model prog w) A (eval (cmpR (elt9 (cmpR (ifT (bS 3))) k)) (lawEnv 110)) Q E ⟨h, g, d, tk, os⟩) := by
  have hP : (V0 (PX b1 b2 q) prog).P = ⟨prog, w.params⟩ := by rw [hw]; rfl
  constructor
  · intro H
    refine piece_of (by rw [← te14044960220447912780] : eval (cmpL (elt9 (cmpR (ifT (bS 3))) k)) (lawEnv 110) = tw14044960220447912780 (cmpL (elt9 (cmpR (ifT (bS 3))) k)) (lawEnv 110)) Flow.ret L (V := V0 (PX b1 b2 q) prog) hP 10000 0 [1,0] D ?_
    refine good_done (r := .ok (.ret (.ref v.mine))) (pp := []) (by generalize o = x; generalize b1 = b; revert x b hk; generalize k = i; revert i; exact k6OB (by kernel_rfl)) trivial fun h1 D1 => encR retI ?_
    exact H _ _ (D1.toF (tk := 0) (T := kt (PX b1 b2 q)) (F := G.F (PX b1 b2 q) ++ Fx) (Z := z10 (PX b1 b2 q) B G τ 7 v o j) (B := Bt) (nx := nx) [0,1,2,3,4] (by generalize o = x; generalize b1 = b; revert x b hk; generalize k = i; revert i; exact k6OB (by kernel_rfl)) (by generalize o = x; generalize b1 = b; revert x b hk; generalize k = i; revert i; exact k6OB (by kernel_rfl)) rfl)
  · intro H
    refine piece_of (by rw [← te14044960220447912780] : eval (cmpR (elt9 (cmpR (ifT (bS 3))) k)) (lawEnv 110) = tw14044960220447912780 (cmpR (elt9 (cmpR (ifT (bS 3))) k)) (lawEnv 110)) Flow.ret L (V := V0 (PX b1 b2 q) prog) hP 10000 0 [1,0] D ?_
    refine good_done (r := .ok (.ret (.ref v.its))) (pp := []) (by generalize o = x; generalize b1 = b; revert x b hk; generalize k = i; revert i; exact k6OB (by kernel_rfl)) trivial fun h1 D1 => encR retI ?_
    exact H _ _ (D1.toF (tk := 0) (T := kt (PX b1 b2 q)) (F := G.F (PX b1 b2 q) ++ Fx) (Z := z10 (PX b1 b2 q) B G τ 7 v o j) (B := Bt) (nx := nx) [0,1,2,3,4] (by generalize o = x; generalize b1 = b; revert x b hk; generalize k = i; revert i; exact k6OB (by kernel_rfl)) (by generalize o = x; generalize b1 = b; revert x b hk; generalize k = i; revert i; exact k6OB (by kernel_rfl)) rfl)
theorem tell2 {nn k j : Nat} (L : Deep nn A) (hw : w.params = PX b1 b2 q) (hk : I6 k) {p : Nat → Bool} (hA : ∀ k, I6 k → ∀ h, (∀ x ∈ G.F (PX b1 b2 q) ++ Fx, h.get? x.1 = some x.2) → Bs b1 b2 q w h → Asks prog w nn h (op6 k) (.ref v.one) (.ref v.other) (p k)) {Q : Value → Shared → Prop} {E : Value → Shared → Prop}
    (D : Rep h₀ ⟨kt (PX b1 b2 q), G.F (PX b1 b2 q) ++ Fx, z10 (PX b1 b2 q) B G τ 6 v o j, Bt, nx, tk⟩ h) (H : ∀ h' tk' nx', Rep h₀ ⟨kt (PX b1 b2 q), G.F (PX b1 b2 q) ++ Fx, z10 (PX b1 b2 q) B G τ 6 v o j, Bt, nx', tk'⟩ h' → Q (.bool (p k)) ⟨h', g, d, tk', os⟩) :
    wpAny (model prog w) A (eval (elt9 (valE (bS 2)) k) (lawEnv 110)) Q E ⟨h, g, d, tk, os⟩ := by
  have ec : elt9 (valE (bS 2)) k = .Compare (cmpL (elt9 (valE (bS 2)) k)) [op6 k] [cmpR (elt9 (valE (bS 2)) k)] (posE (elt9 (valE (bS 2)) k)) := by rcases hk with rfl | rfl | rfl | rfl | rfl | rfl <;> rfl
  rw [ec]
  refine wpAny_Compare1 ?_ (by rcases hk with rfl | rfl | rfl | rfl | rfl | rfl <;> with_unfolding_all rfl)
  refine (nm2 L hw hk D).1 fun h1 k1 D1 => ?_
  refine (nm2 L hw hk (Rep.tok D1 k1)).2 fun h2 k2 D2 => ?_
  have eo : compareOp (op6 k) (.ref v.one) (.ref v.other) = richCompare (op6 k) (.ref v.one) (.ref v.other) := by rcases hk with rfl | rfl | rfl | rfl | rfl | rfl <;> rfl
  rw [eo]
  refine hA k hk h2 (fun x hx => D2.F x hx) (D2.bs hw) A g d os h2 k2 _ _ L (fun _ _ e => e) fun h3 k3 n3 P3 => ?_
  exact H h3 k3 n3 (Rep.tok (D2.andN P3) k3)
theorem tell3 {nn k j : Nat} (L : Deep nn A) (hw : w.params = PX b1 b2 q) (hk : I6 k) {p : Nat → Bool} (hA : ∀ k, I6 k → ∀ h, (∀ x ∈ G.F (PX b1 b2 q) ++ Fx, h.get? x.1 = some x.2) → Bs b1 b2 q w h → Asks prog w nn h (op6 k) (.ref v.mine) (.ref v.its) (p k)) {Q : Value → Shared → Prop} {E : Value → Shared → Prop}
    (D : Rep h₀ ⟨kt (PX b1 b2 q), G.F (PX b1 b2 q) ++ Fx, z10 (PX b1 b2 q) B G τ 7 v o j, Bt, nx, tk⟩ h) (H : ∀ h' tk' nx', Rep h₀ ⟨kt (PX b1 b2 q), G.F (PX b1 b2 q) ++ Fx, z10 (PX b1 b2 q) B G τ 7 v o j, Bt, nx', tk'⟩ h' → Q (.bool (p k)) ⟨h', g, d, tk', os⟩) :
    wpAny (model prog w) A (eval (elt9 (cmpR (ifT (bS 3))) k) (lawEnv 110)) Q E ⟨h, g, d, tk, os⟩ := by
  have ec : elt9 (cmpR (ifT (bS 3))) k = .Compare (cmpL (elt9 (cmpR (ifT (bS 3))) k)) [op6 k] [cmpR (elt9 (cmpR (ifT (bS 3))) k)] (posE (elt9 (cmpR (ifT (bS 3))) k)) := by rcases hk with rfl | rfl | rfl | rfl | rfl | rfl <;> rfl
  rw [ec]
  refine wpAny_Compare1 ?_ (by rcases hk with rfl | rfl | rfl | rfl | rfl | rfl <;> with_unfolding_all rfl)
  refine (nm3 L hw hk D).1 fun h1 k1 D1 => ?_
  refine (nm3 L hw hk (Rep.tok D1 k1)).2 fun h2 k2 D2 => ?_
  have eo : compareOp (op6 k) (.ref v.mine) (.ref v.its) = richCompare (op6 k) (.ref v.mine) (.ref v.its) := by rcases hk with rfl | rfl | rfl | rfl | rfl | rfl <;> rfl
  rw [eo]
  refine hA k hk h2 (fun x hx => D2.F x hx) (D2.bs hw) A g d os h2 k2 _ _ L (fun _ _ e => e) fun h3 k3 n3 P3 => ?_
  exact H h3 k3 n3 (Rep.tok (D2.andN P3) k3)
theorem list2 {nn j : Nat} (L : Deep nn A) (hw : w.params = PX b1 b2 q) {p : Nat → Bool} (hA : ∀ k, I6 k → ∀ h, (∀ x ∈ G.F (PX b1 b2 q) ++ Fx, h.get? x.1 = some x.2) → Bs b1 b2 q w h → Asks prog w nn h (op6 k) (.ref v.one) (.ref v.other) (p k)) {Q : Value → Shared → Prop} {E : Value → Shared → Prop}
    (D : Rep h₀ ⟨kt (PX b1 b2 q), G.F (PX b1 b2 q) ++ Fx, z10 (PX b1 b2 q) B G τ 6 v o j, Bt, nx, tk⟩ h) (H : ∀ h' tk' nx', Rep h₀ ⟨kt (PX b1 b2 q), G.F (PX b1 b2 q) ++ Fx, snoc (z10 (PX b1 b2 q) B G τ 6 v o j) (nx', tdO p), Bt, nx' + 1, tk'⟩ h' → Q (.ref nx') ⟨h', g, d, tk', os⟩) :
    wpAny (model prog w) A (eval (valE (bS 2)) (lawEnv 110)) Q E ⟨h, g, d, tk, os⟩ := by
  have el : (valE (bS 2)) = .List [elt9 (valE (bS 2)) 0, elt9 (valE (bS 2)) 1, elt9 (valE (bS 2)) 2, elt9 (valE (bS 2)) 3, elt9 (valE (bS 2)) 4, elt9 (valE (bS 2)) 5] (pos9 (valE (bS 2))) := rfl
  rw [el]
  refine wpAny_List ?_
  show wpAny _ _ (spliced [(false, eval (elt9 (valE (bS 2)) 0) (lawEnv 110)), (false, eval (elt9 (valE (bS 2)) 1) (lawEnv 110)), (false, eval (elt9 (valE (bS 2)) 2) (lawEnv 110)), (false, eval (elt9 (valE (bS 2)) 3) (lawEnv 110)), (false, eval (elt9 (valE (bS 2)) 4) (lawEnv 110)), (false, eval (elt9 (valE (bS 2)) 5) (lawEnv 110))]) _ _ _
  refine spl_cons (tell2 L hw (k := 0) (.inl rfl) hA D fun h0 t0 n0 D0 => ?_)
  refine spl_cons (tell2 L hw (k := 1) (.inr (.inl rfl)) hA D0 fun h1 t1 n1 D1 => ?_)
  refine spl_cons (tell2 L hw (k := 2) (.inr (.inr (.inl rfl))) hA D1 fun h2 t2 n2 D2 => ?_)
  refine spl_cons (tell2 L hw (k := 3) (.inr (.inr (.inr (.inl rfl)))) hA D2 fun h3 t3 n3 D3 => ?_)
  refine spl_cons (tell2 L hw (k := 4) (.inr (.inr (.inr (.inr (.inl rfl))))) hA D3 fun h4 t4 n4 D4 => ?_)
  refine spl_cons (tell2 L hw (k := 5) (.inr (.inr (.inr (.inr (.inr rfl))))) hA D4 fun h5 t5 n5 D5 => ?_)
  refine spl_nil ⟨by show 6 ≤ sizeLine; decide, ?_⟩
  have z : h5.objs.size = n5 := D5.size
  dsimp only
  rw [z]
  exact H _ _ _ (D5.alloc (x := tdO p) rfl)
theorem list3 {nn j : Nat} (L : Deep nn A) (hw : w.params = PX b1 b2 q) {p : Nat → Bool} (hA : ∀ k, I6 k → ∀ h, (∀ x ∈ G.F (PX b1 b2 q) ++ Fx, h.get? x.1 = some x.2) → Bs b1 b2 q w h → Asks prog w nn h (op6 k) (.ref v.mine) (.ref v.its) (p k)) {Q : Value → Shared → Prop} {E : Value → Shared → Prop}
    (D : Rep h₀ ⟨kt (PX b1 b2 q), G.F (PX b1 b2 q) ++ Fx, z10 (PX b1 b2 q) B G τ 7 v o j, Bt, nx, tk⟩ h) (H : ∀ h' tk' nx', Rep h₀ ⟨kt (PX b1 b2 q), G.F (PX b1 b2 q) ++ Fx, snoc (z10 (PX b1 b2 q) B G τ 7 v o j) (nx', tdO p), Bt, nx' + 1, tk'⟩ h' → Q (.ref nx') ⟨h', g, d, tk', os⟩) :
    wpAny (model prog w) A (eval (cmpR (ifT (bS 3))) (lawEnv 110)) Q E ⟨h, g, d, tk, os⟩ := by
  have el : (cmpR (ifT (bS 3))) = .List [elt9 (cmpR (ifT (bS 3))) 0, elt9 (cmpR (ifT (bS 3))) 1, elt9 (cmpR (ifT (bS 3))) 2, elt9 (cmpR (ifT (bS 3))) 3, elt9 (cmpR (ifT (bS 3))) 4, elt9 (cmpR (ifT (bS 3))) 5] (pos9 (cmpR (ifT (bS 3)))) := rfl
  rw [el]
  refine wpAny_List ?_
  show wpAny _ _ (spliced [(false, eval (elt9 (cmpR (ifT (bS 3))) 0) (lawEnv 110)), (false, eval (elt9 (cmpR (ifT (bS 3))) 1) (lawEnv 110)), (false, eval (elt9 (cmpR (ifT (bS 3))) 2) (lawEnv 110)), (false, eval (elt9 (cmpR (ifT (bS 3))) 3) (lawEnv 110)), (false, eval (elt9 (cmpR (ifT (bS 3))) 4) (lawEnv 110)), (false, eval (elt9 (cmpR (ifT (bS 3))) 5) (lawEnv 110))]) _ _ _
  refine spl_cons (tell3 L hw (k := 0) (.inl rfl) hA D fun h0 t0 n0 D0 => ?_)
  refine spl_cons (tell3 L hw (k := 1) (.inr (.inl rfl)) hA D0 fun h1 t1 n1 D1 => ?_)
  refine spl_cons (tell3 L hw (k := 2) (.inr (.inr (.inl rfl))) hA D1 fun h2 t2 n2 D2 => ?_)
  refine spl_cons (tell3 L hw (k := 3) (.inr (.inr (.inr (.inl rfl)))) hA D2 fun h3 t3 n3 D3 => ?_)
  refine spl_cons (tell3 L hw (k := 4) (.inr (.inr (.inr (.inr (.inl rfl))))) hA D3 fun h4 t4 n4 D4 => ?_)
  refine spl_cons (tell3 L hw (k := 5) (.inr (.inr (.inr (.inr (.inr rfl))))) hA D4 fun h5 t5 n5 D5 => ?_)
  refine spl_nil ⟨by show 6 ≤ sizeLine; decide, ?_⟩
  have z : h5.objs.size = n5 := D5.size
  dsimp only
  rw [z]
  exact H _ _ _ (D5.alloc (x := tdO p) rfl)
theorem b10_2 {nn j : Nat} (L : Deep nn A) (hw : w.params = PX b1 b2 q) {p : Nat → Bool} (hA : ∀ k, I6 k → ∀ h, (∀ x ∈ G.F (PX b1 b2 q) ++ Fx, h.get? x.1 = some x.2) → Bs b1 b2 q w h → Asks prog w nn h (op6 k) (.ref v.one) (.ref v.other) (p k)) {Q : Flow → Shared → Prop} {E : Value → Shared → Prop}
    (D : Rep h₀ ⟨kt (PX b1 b2 q), G.F (PX b1 b2 q) ++ Fx, z10 (PX b1 b2 q) B G τ 6 v o j, Bt, nx, tk⟩ h)
    (H : ∀ h' tk' nx' τ' T, Rep h₀ ⟨kt (PX b1 b2 q), G.F (PX b1 b2 q) ++ ((T, tdO p) :: Fx), z10 (PX b1 b2 q) B G τ' 7 { v with told := T } o j, Bt, nx', 0⟩ h' → Q .next ⟨h', g, d, tk', os⟩) :
    wpAny (model prog w) A (execs [bS 2] (lawEnv 110)) Q E ⟨h, g, d, tk, os⟩ := by
  have hP : (V0 (PX b1 b2 q) prog).P = ⟨prog, w.params⟩ := by rw [hw]; rfl
  refine wpAny_execs_cons ?_
  have ea : ∃ p1 p2, bS 2 = .Assign [.Name (Str.ofString "told") p1] (valE (bS 2)) p2 := ⟨_, _, rfl⟩
  obtain ⟨p1, p2, ea⟩ := ea
  rw [ea]
  refine wpAny_Assign_Name ?_
  refine list2 L hw hA D fun h1 t1 n1 D1 => ?_
  refine piece_of (by rw [← te7998390705656384164] : storeName (lawEnv 110) (Str.ofString "told") (.ref n1) = tw7998390705656384164 (lawEnv 110) (Str.ofString "told") (.ref n1)) encU L (V := V0 (PX b1 b2 q) prog) hP 10000 0 [1,0,1,0] D1 ?_
  refine good_done (r := .ok .next) (pp := []) (by generalize o = x; generalize b1 = b; revert x b; exact kOB (by kernel_rfl)) trivial fun h2 D2 _ _ => ?_
  have D3 := D2.toF (tk := 0) (T := kt (PX b1 b2 q)) (F := G.F (PX b1 b2 q) ++ Fx) (Z := z10 (PX b1 b2 q) B G (tau10 τ 6 1 t1 o) 7 { v with told := n1 } o j ++ [(n1, tdO p)]) (B := Bt) (nx := n1 + 1) [0,1,2,3,4,5] (by generalize o = x; generalize b1 = b; revert x b; exact kOB (by kernel_rfl)) (by generalize o = x; generalize b1 = b; revert x b; exact kOB (by kernel_rfl)) rfl
  have D4 := D3.toXe (tk := 0) (F0 := []) (Fx := G.F (PX b1 b2 q) ++ Fx) (T := kt (PX b1 b2 q)) (F := [(n1, tdO p)]) (Z := z10 (PX b1 b2 q) B G (tau10 τ 6 1 t1 o) 7 { v with told := n1 } o j) (B := Bt) (nx := n1 + 1) [16] [0,1,2,3,4] rfl (by generalize o = x; generalize b1 = b; revert x b; exact kOB (by kernel_rfl)) rfl
  refine wpAny_pure ?_
  exact H _ _ _ _ _ (D4.perm (by trivial))
theorem nmT {nn j i : Nat} (hi : i = 3 ∨ i = 9) (L : Deep nn A) (hw : w.params = PX b1 b2 q) {Q : Value → Shared → Prop} {E : Value → Shared → Prop}
    (D : Rep h₀ ⟨kt (PX b1 b2 q), G.F (PX b1 b2 q) ++ Fx, z10 (PX b1 b2 q) B G τ 7 v o j, Bt, nx, tk⟩ h) (H : ∀ h' tk', Rep h₀ ⟨kt (PX b1 b2 q), G.F (PX b1 b2 q) ++ Fx, z10 (PX b1 b2 q) B G τ 7 v o j, Bt, nx, 0⟩ h' → Q (.ref v.told) ⟨h', g, d, tk', os⟩) :
    wpAny (model prog w) A (eval (cmpL (ifT (bS 3))) (lawEnv 110)) Q E ⟨h, g, d, tk, os⟩ := by
  have hP : (V0 (PX b1 b2 q) prog).P = ⟨prog, w.params⟩ := by rw [hw]; rfl
  refine piece_of (by rw [← te14044960220447912780] : eval (cmpL (ifT (bS 3))) (lawEnv 110) = tw14044960220447912780 (cmpL (ifT (bS 3))) (lawEnv 110)) Flow.ret L (V := V0 (PX b1 b2 q) prog) hP 10000 0 [1,0] D ?_
  refine good_done (r := .ok (.ret (.ref v.told))) (pp := []) (by generalize o = x; generalize b1 = b; revert x b; exact kOB (by kernel_rfl)) trivial fun h1 D1 => encR retI ?_
  exact H _ _ (D1.toF (tk := 0) (T := kt (PX b1 b2 q)) (F := G.F (PX b1 b2 q) ++ Fx) (Z := z10 (PX b1 b2 q) B G τ 7 v o j) (B := Bt) (nx := nx) [0,1,2,3,4] (by generalize o = x; generalize b1 = b; revert x b; exact kOB (by kernel_rfl)) (by generalize o = x; generalize b1 = b; revert x b; exact kOB (by kernel_rfl)) rfl)
theorem b10_3 {nn j : Nat} (L : Deep nn A) (hw : w.params = PX b1 b2 q) {p : Nat → Bool} (h6 : Six p) (hA : ∀ k, I6 k → ∀ h, (∀ x ∈ G.F (PX b1 b2 q) ++ ((v.told, tdO p) :: Fx), h.get? x.1 = some x.2) → Bs b1 b2 q w h → Asks prog w nn h (op6 k) (.ref v.mine) (.ref v.its) (p k)) {Q : Flow → Shared → Prop} {E : Value → Shared → Prop}
    (D : Rep h₀ ⟨kt (PX b1 b2 q), G.F (PX b1 b2 q) ++ ((v.told, tdO p) :: Fx), z10 (PX b1 b2 q) B G τ 7 v o j, Bt, nx, tk⟩ h)
    (H : ∀ h' tk' nx', Rep h₀ ⟨kt (PX b1 b2 q), G.F (PX b1 b2 q) ++ ((v.told, tdO p) :: Fx), z10 (PX b1 b2 q) B G τ 7 v o j, Bt, nx', 0⟩ h' → Q .next ⟨h', g, d, tk', os⟩) :
    wpAny (model prog w) A (execs [bS 3] (lawEnv 110)) Q E ⟨h, g, d, tk, os⟩ := by
  have hP : (V0 (PX b1 b2 q) prog).P = ⟨prog, w.params⟩ := by rw [hw]; rfl
  refine wpAny_execs_cons ?_
  have ei : (bS 3) = .If (ifT (bS 3)) (ifB (bS 3)) [] (ifP (bS 3)) := rfl
  rw [ei]
  refine wpAny_If ?_
  have ec : ifT (bS 3) = .Compare (cmpL (ifT (bS 3))) [.NotEq] [cmpR (ifT (bS 3))] (posE (ifT (bS 3))) := rfl
  rw [ec]
  refine wpAny_isTrue_Compare1 ?_ rfl
  refine nmT (i := 3) (.inl rfl) L hw D fun h1 k1 D1 => ?_
  refine list3 L hw hA (Rep.tok D1 k1) fun h2 k2 n2 D2 => ?_
  show wpAny _ _ (richCompare .NotEq (.ref v.told) (.ref n2)) _ _ _
  refine rich_of L ?_
  refine piece_of rfl Flow.ret L (V := V0 (PX b1 b2 q) prog) hP 100000 0 (hz [42,16,42,42,16,42,16,42,16,42,16,42,16,42,16,42,16,42,16,42,16,42,16]) D2 ?_
  refine good_done (r := .ok (.ret (.bool false))) (pp := []) (by generalize o = x; generalize b1 = b; revert x b; have s := six_td h6; revert s; generalize tdO p = y; revert y; exact k3OB (by kernel_rfl)) trivial fun h3 D3 => encR retI ?_
  refine wpAny_truthy_bool ?_
  rw [if_neg Bool.false_ne_true]
  refine wpAny_pure ?_
  refine wpAny_pure ?_
  exact H _ _ _ (D3.toF (tk := 0) (T := kt (PX b1 b2 q)) (F := G.F (PX b1 b2 q) ++ ((v.told, tdO p) :: Fx)) (Z := z10 (PX b1 b2 q) B G τ 7 v o j) (B := Bt) (nx := n2 + 1) [0,1,2,3,4] (by generalize o = x; generalize b1 = b; revert x b; have s := six_td h6; revert s; generalize tdO p = y; revert y; exact k3OB (by kernel_rfl)) (by generalize o = x; generalize b1 = b; revert x b; have s := six_td h6; revert s; generalize tdO p = y; revert y; exact k3OB (by kernel_rfl)) rfl)
theorem b10_4 {nn j : Nat} (L : Deep nn A) (hw : w.params = PX b1 b2 q) {p : Nat → Bool} (h6 : Six p) {Q : Flow → Shared → Prop} {E : Value → Shared → Prop}
    (D : Rep h₀ ⟨kt (PX b1 b2 q), G.F (PX b1 b2 q) ++ ((v.told, tdO p) :: Fx), z10 (PX b1 b2 q) B G τ 7 v o j, Bt, nx, tk⟩ h)
    (H : ∀ h' tk' nx', Rep h₀ ⟨kt (PX b1 b2 q), G.F (PX b1 b2 q) ++ ((v.told, tdO p) :: Fx), z10 (PX b1 b2 q) B G τ 7 v o j, Bt, nx', 0⟩ h' → Q .next ⟨h', g, d, tk', os⟩) :
    wpAny (model prog w) A (execs [bS 4] (lawEnv 110)) Q E ⟨h, g, d, tk, os⟩ := by
  have hP : (V0 (PX b1 b2 q) prog).P = ⟨prog, w.params⟩ := by rw [hw]; rfl
  refine wpAny_execs_cons ?_
  have ei : (bS 4) = .If (ifT (bS 4)) (ifB (bS 4)) [] (ifP (bS 4)) := rfl
  rw [ei]
  refine wpAny_If ?_
  have ec : ifT (bS 4) = .Compare (cmpL (ifT (bS 4))) [.NotEq] [cmpR (ifT (bS 4))] (posE (ifT (bS 4))) := rfl
  rw [ec]
  refine wpAny_isTrue_Compare1 ?_ rfl
  refine piece_of (by rw [← te14044960220447912780] : eval (cmpL (ifT (bS 4))) (lawEnv 110) = tw14044960220447912780 (cmpL (ifT (bS 4))) (lawEnv 110)) Flow.ret L (V := V0 (PX b1 b2 q) prog) hP 100000 0 (cond b2 [1,0,42,0,42,0,42,0,16,0,16,0,16,0,16,0,16,0,42,0,16,0,16,0,22,0,22,2,22,2,16,0,16,0,16,0,16,0,42,0,16,0,16,0,22,0,22,2,22,2,16,0,16,0,16,0,16,0,42,0,16,0,16,0,22,0,22,2,22,2,16,0,16,0,16,0,16,0,42,0,16,0,16,0,22,0,22,2,22,2,16,0,16,0,16,0,16,0,42,0,16,0,16,0,22,0,22,2,22,2,16,0,16,0,16,0,16,0,42,0,16,0,16,0,22,0,22,2,22,2,16,0,16,0,16,0,16,0,42,0,16,0,16,0,28,0,22,0,22,0,22,0] [1,0,42,0,42,0,42,0,16,0,16,0,16,0,16,0,16,0,16,0,16,0,16,0,16,0,42,0,16,0,16,0,22,0,22,2,22,2,16,0,16,0,16,0,16,0,42,0,16,0,16,0,22,0,22,2,22,2,16,0,16,0,16,0,16,0,42,0,16,0,16,0,22,0,22,2,22,2,16,0,16,0,16,0,16,0,42,0,16,0,16,0,22,0,22,2,22,2,16,0,16,0,16,0,16,0,42,0,16,0,16,0,22,0,22,2,22,2,16,0,16,0,16,0,16,0,42,0,16,0,16,0,22,0,22,2,22,2,16,0,16,0,16,0,16,0,42,0,16,0,16,0,28,0,22,0,22,0,22,0]) D ?_
  refine good_done (r := .ok (.ret (.ref (nx + 1)))) (pp := []) (by generalize o = x; generalize b1 = b; generalize b2 = c; revert x b c; have s := six_td h6; revert s; generalize tdO p = y; revert y; exact k3OBB (by kernel_rfl)) trivial fun h1 D1 => encR retI ?_
  have D2 := D1.toF (tk := 0) (T := kt (PX b1 b2 q)) (F := G.F (PX b1 b2 q) ++ ((v.told, tdO p) :: Fx)) (Z := z10 (PX b1 b2 q) B G τ 7 v o j ++ [(nx + 1, lstO #[] 0)]) (B := Bt) (nx := nx + 5) [0,1,2,3,4,6] (by generalize o = x; generalize b1 = b; generalize b2 = c; revert x b c; have s := six_td h6; revert s; generalize tdO p = y; revert y; exact k3OBB (by kernel_rfl)) (by generalize o = x; generalize b1 = b; generalize b2 = c; revert x b c; have s := six_td h6; revert s; generalize tdO p = y; revert y; exact k3OBB (by kernel_rfl)) rfl
  refine piece_of (by rw [← te14044960220447912780] : eval (cmpR (ifT (bS 4))) (lawEnv 110) = tw14044960220447912780 (cmpR (ifT (bS 4))) (lawEnv 110)) Flow.ret L (V := V0 (PX b1 b2 q) prog) hP 100000 0 [] D2 ?_
  refine good_done (r := .ok (.ret (.ref (nx + 5)))) (pp := []) (by generalize o = x; generalize b1 = b; revert x b; exact kOB (by kernel_rfl)) trivial fun h2 D3 => encR retI ?_
  have D4 := D3.toF (tk := 0) (T := kt (PX b1 b2 q)) (F := G.F (PX b1 b2 q) ++ ((v.told, tdO p) :: Fx)) (Z := z10 (PX b1 b2 q) B G τ 7 v o j ++ [(nx + 1, lstO #[] 0), (nx + 5, lstO #[] 0)]) (B := Bt) (nx := nx + 6) [0,1,2,3,4,5,6] (by generalize o = x; generalize b1 = b; revert x b; exact kOB (by kernel_rfl)) (by generalize o = x; generalize b1 = b; revert x b; exact kOB (by kernel_rfl)) rfl
  show wpAny _ _ (richCompare .NotEq _ _) _ _ _
  refine rc_list_ne L.room (items := #[]) (items2 := #[]) rfl rfl rfl (D4.Z _ (List.mem_append_right _ (.head _))).1 (D4.Z _ (List.mem_append_right _ (.tail _ (.head _)))).1 ?_
  refine wpAny_truthy_bool ?_
  have en : lexI .NotEq (intsOf (#[] : Array Value).toList) (intsOf (#[] : Array Value).toList) = false := rfl
  rw [en, if_neg Bool.false_ne_true]
  refine wpAny_pure ?_
  refine wpAny_pure ?_
  exact H _ _ _ (D4.toF (tk := 0) (T := kt (PX b1 b2 q)) (F := G.F (PX b1 b2 q) ++ ((v.told, tdO p) :: Fx)) (Z := z10 (PX b1 b2 q) B G τ 7 v o j) (B := Bt) (nx := nx + 6) [0,1,2,3,4] rfl rfl rfl)
end
end Mine
namespace Mine
open PySem PySem.W PySem.W.X PySem.Spec PySem.Calls PyProof.Rows
open PySem.W.Fast
noncomputable def VA (P : Params) (prog : Program) : Env9 := ⟨⟨prog, P⟩, fun c => match c with
  | .call (.builtin s) _ => memS s ["abs"]
  | _ => false⟩
noncomputable def VCL (P : Params) (prog : Program) : Env9 := ⟨⟨prog, P⟩, fun c => match c with
  | .compLoop .. => true
  | _ => false⟩
noncomputable abbrev szE : Expr := valE (bS 5)
set_option backward.match.sparseCases false in
noncomputable def ifeT : Expr → Expr
  | .IfExp a _ _ _ => a
  | e => e
set_option backward.match.sparseCases false in
noncomputable def ifeB : Expr → Expr
  | .IfExp _ a _ _ => a
  | e => e
set_option backward.match.sparseCases false in
noncomputable def ifeO : Expr → Expr
  | .IfExp _ _ a _ => a
  | e => e
set_option backward.match.sparseCases false in
noncomputable def ifeP : Expr → Pos
  | .IfExp _ _ _ p => p
  | _ => ⟨0, 0, 0, 0⟩
noncomputable def zEnv (D : Nat) : Env := { scope := lcSc szE, locals := D, globals := 3, cells := [], qual := Str.ofString "law.<locals>.", func := none, code := .ref 107, frame := some 110, builtins := 0 }
noncomputable def l4 (x : Nat → Int) (t : Nat → Nat) (n : Nat) : Obj := lstO #[.int (x 0) (t 0), .int (x 1) (t 1), .int (x 2) (t 2), .int (x 3) (t 3)] n
noncomputable def zF (Lm Ln Ls : Nat) (a b s3 : Nat → Int) (ta tb ts : Nat → Nat) (na nb ns : Nat) : Facts := [(Lm, l4 a ta na), (Ln, l4 b tb nb), (Ls, l4 s3 ts ns)]
noncomputable def zD (P : Params) : Option ((Nat × Nat × Nat) × (Value × Value × Value)) → Obj
  | none => { cls := .type "dict", data := .dict #[] 0 }
  | some p => { cls := .type "dict", data := .dict #[de P "a" p.1.1 p.2.1, de P "b" p.1.2.1 p.2.2.1, de P "sense" p.1.2.2 p.2.2.2] 3 }
noncomputable def zO (f0 : Value) (S : Nat) : Obj := { cls := .type "zip", data := .fields #[f0, .bool false, .bool false, .ref (S + 3), .ref (S + 4)] }
noncomputable def zZ (P : Params) (Lm Ln Ls S k : Nat) (x y z f0 : Value) (ys : Array Value) (yn : Nat) (dd : Option ((Nat × Nat × Nat) × (Value × Value × Value))) : Facts :=
  [(S, litO Lm (k : Nat)), (S + 1, litO Ln (k : Nat)), (S + 2, litO Ls (k : Nat)), (S + 3, tupV #[.ref S, .ref (S + 1), .ref (S + 2)]), (S + 4, tupV #[x, y, z]), (S + 5, zO f0 S), (S + 6, lstO ys yn), (S + 7, zD P dd)]
noncomputable def I4 (k : Nat) : Prop := k = 0 ∨ k = 1 ∨ k = 2 ∨ k = 3
noncomputable def absI (x : Int) : Int := if x < 0 then -x else x
noncomputable def szT (a b s : Int) (l : List Int) : List Int := if a = b then l else l ++ [if b < a then absI s else -absI s]
noncomputable def szL (a b s : Nat → Int) : Nat → List Int
  | 0 => []
  | k + 1 => szT (a k) (b k) (s k) (szL a b s k)
theorem szL_len (a b s : Nat → Int) : ∀ k, (szL a b s k).length ≤ k
  | 0 => Nat.le_refl _
  | k + 1 => by
    have := szL_len a b s k
    show (szT _ _ _ _).length ≤ _
    unfold szT
    split
    · omega
    · simp; exact this
theorem entry_abs : entryFor table "abs" = some Builtin.«abs» := entryFor_of_fast (by kernel_rfl)
theorem kind_abs : builtinKind "abs" = none := by decide +kernel
theorem plain_abs : plainId "abs" = true := by decide +kernel
theorem args_abs1 (a : Value) : argsOk "abs" ⟨[a], []⟩ := by unfold argsOk; kernel_rfl
theorem c_abs {prog : Program} {w : World} {A : Around} {R : Result → Shared → Prop} {s : Shared} {x : Int} {t : Nat} (H : ∀ t' tk', R (.ok (.ret (.int (absI x) t'))) { s with toks := tk' }) : codeAny (model prog w) A (.call (.builtin "abs") ⟨[.int x t], []⟩) R s := by
  refine c_fun kind_abs plain_abs entry_abs (args_abs1 _) ?_
  unfold Builtin.«abs»
  refine wpAny_bind (m := oneArg "abs" _) (wpAny_pure ?_)
  refine wpAny_bind (m := callSpecial? (.int x t) (Str.ofString "__abs__")) (wpAny_callSpecial?_slot (name := Str.ofString "__abs__") (typeIs_int s x t) F.slot_int_abs ?_)
  by_cases hx : x < 0
  · refine call_gives F.slot_int_abs (typeIs_int s x t) F.entry_int_abs (F.args_int_abs_1 _) (AutoIntG0.int___abs___int_0 x t hx) ?_
    have e : absI x = -x := if_pos hx
    exact wpAny_pure ⟨_, rfl, e ▸ H _ _⟩
  · refine call_gives F.slot_int_abs (typeIs_int s x t) F.entry_int_abs (F.args_int_abs_1 _) (AutoIntG1.int___abs___int_1 x t hx) ?_
    have e : absI x = x := if_neg hx
    exact wpAny_pure ⟨_, rfl, e ▸ H t s.toks⟩
section
variable {prog : Program} {w : World} {A : Around} {R : Result → Shared → Prop} {h₀ h : Heap} {g : Array GenState} {d : Drawn} {tk : Nat} {os : OsState} {b1 b2 : Bool} {q : Params} {Fx Bt : Facts} {nx S Lm Ln Ls na nb ns k yn : Nat} {a b s3 : Nat → Int} {ta tb ts : Nat → Nat} {x y z : Value} {ys : Array Value} {dd : Option ((Nat × Nat × Nat) × (Value × Value × Value))}
theorem zNext {nn : Nat} (L : Deep nn A) (hw : w.params = PX b1 b2 q) (hk : I4 k) {Q : Option Value → Shared → Prop} {E : Value → Shared → Prop}
    (D : Rep h₀ ⟨kt (PX b1 b2 q), zF Lm Ln Ls a b s3 ta tb ts na nb ns ++ Fx, zZ (PX b1 b2 q) Lm Ln Ls S k x y z .none ys yn dd, Bt, nx, tk⟩ h)
    (H : ∀ h' tk', Rep h₀ ⟨kt (PX b1 b2 q), zF Lm Ln Ls a b s3 ta tb ts na nb ns ++ Fx, zZ (PX b1 b2 q) Lm Ln Ls S (k + 1) (.int (a k) (ta k)) (.int (b k) (tb k)) (.int (s3 k) (ts k)) (rawInt nx) ys yn dd ++ [(nx, tupV #[.int (a k) (ta k), .int (b k) (tb k), .int (s3 k) (ts k)])], Bt, (nx + 1), 0⟩ h' → Q (some (.ref nx)) ⟨h', g, d, tk', os⟩) :
    wpAny (model prog w) A (pyNext (.ref (S + 5))) Q E ⟨h, g, d, tk, os⟩ := by
  refine piece_of (congrFun te9404975358583537561 _ : pyNext (.ref (S + 5)) = tw9404975358583537561 (.ref (S + 5))) encO L (V := V0 (PX b1 b2 q) prog) (by rw [hw]; rfl) 10000 0 (hz [16,16,16,16,10,16,16,16,16,1,1,1,1,0,1,1,13,13,13,13,4,4,4,4,3,4,4,13,13,13,13,7,7,7,7,6,7,7,13,13,13,13,13,16,16,16,16]) D ?_
  refine good_done (r := .ok (.ret (.ref nx))) (pp := []) (by generalize b1 = b; revert b hk; generalize k = i; revert i; exact k4B (by kernel_rfl)) trivial fun h1 D1 v hv => ?_
  cases v with
  | none => cases hv
  | some v =>
    cases hv
    exact H _ _ (D1.toF (tk := 0) (T := kt (PX b1 b2 q)) (F := zF Lm Ln Ls a b s3 ta tb ts na nb ns ++ Fx) (Z := zZ (PX b1 b2 q) Lm Ln Ls S (k + 1) (.int (a k) (ta k)) (.int (b k) (tb k)) (.int (s3 k) (ts k)) (rawInt nx) ys yn dd ++ [(nx, tupV #[.int (a k) (ta k), .int (b k) (tb k), .int (s3 k) (ts k)])]) (B := Bt) (nx := nx + 1) [0,1,2,3,4,5,6,7,8] (by generalize b1 = b; revert b hk; generalize k = i; revert i; exact k4B (by kernel_rfl)) (by generalize b1 = b; revert b hk; generalize k = i; revert i; exact k4B (by kernel_rfl)) rfl)
theorem zEnd {nn : Nat} (L : Deep nn A) (hw : w.params = PX b1 b2 q) {Q : Option Value → Shared → Prop} {E : Value → Shared → Prop}
    (D : Rep h₀ ⟨kt (PX b1 b2 q), zF Lm Ln Ls a b s3 ta tb ts na nb ns ++ Fx, zZ (PX b1 b2 q) Lm Ln Ls S 4 x y z .none ys yn dd, Bt, nx, tk⟩ h)
    (H : ∀ h' tk', Rep h₀ ⟨kt (PX b1 b2 q), zF Lm Ln Ls a b s3 ta tb ts na nb ns ++ Fx, [(S + 6, lstO ys yn), (S + 7, zD (PX b1 b2 q) dd)], Bt, nx + 2, 0⟩ h' → Q none ⟨h', g, d, tk', os⟩) :
    wpAny (model prog w) A (pyNext (.ref (S + 5))) Q E ⟨h, g, d, tk, os⟩ := by
  refine piece_of (congrFun te9404975358583537561 _ : pyNext (.ref (S + 5)) = tw9404975358583537561 (.ref (S + 5))) encO L (V := V0 (PX b1 b2 q) prog) (by rw [hw]; rfl) 10000 0 (hz [16,16,16,16,10,16,16,16,16,1,1,1,1,0,1,1,16,16,28]) D ?_
  refine good_done (r := .ok .next) (pp := []) (by generalize b1 = b; revert b; exact kB (by kernel_rfl)) trivial fun h1 D1 v hv => ?_
  cases v with
  | some v => cases hv
  | none => exact H _ _ (D1.toF (tk := 0) (T := kt (PX b1 b2 q)) (F := zF Lm Ln Ls a b s3 ta tb ts na nb ns ++ Fx) (Z := [(S + 6, lstO ys yn), (S + 7, zD (PX b1 b2 q) dd)]) (B := Bt) (nx := nx + 2) [6,7] (by generalize b1 = b; revert b; exact kB (by kernel_rfl)) (by generalize b1 = b; revert b; exact kB (by kernel_rfl)) rfl)
theorem zGo {tg : Expr} {nz : Nat} {tv : Obj} {es : List Expr} {kk : Nat} {pp : Pos} (et : tg = .Tuple es kk pp) {Q : Unit → Shared → Prop} {E : Value → Shared → Prop}
    (D : Rep h₀ ⟨kt (PX b1 b2 q), zF Lm Ln Ls a b s3 ta tb ts na nb ns ++ Fx, zZ (PX b1 b2 q) Lm Ln Ls S k x y z (rawInt nz) ys yn dd ++ [(nz, tv)], Bt, nx, tk⟩ h)
    (H : ∀ h', Rep h₀ ⟨kt (PX b1 b2 q), zF Lm Ln Ls a b s3 ta tb ts na nb ns ++ Fx, zZ (PX b1 b2 q) Lm Ln Ls S k x y z .none ys yn dd ++ [(nz, tv)], Bt, nx, tk⟩ h' → Q () ⟨h', g, d, tk, os⟩) :
    wpAny (model prog w) A (letOwnedTupleGo tg (.ref (S + 5)) (.ref nz)) Q E ⟨h, g, d, tk, os⟩ := by
  subst et
  have hz := (D.Z (S + 5, zO (rawInt nz) S) (List.mem_append_left _ (by unfold zZ; simp))).1
  unfold letOwnedTupleGo
  refine wpAny_bind (wpAny_load hz ?_)
  show wpAny _ _ (if (["enumerate", "zip", "dict_itemiterator", "dict_reverseitemiterator", "odict_iterator", "itertools.zip_longest", "itertools.pairwise"].contains "zip" &&
      (#[rawInt nz, .bool false, .bool false, .ref (S + 3), .ref (S + 4)] : Array Value)[0]? == some (rawInt nz)) = true then _ else _) Q E _
  rw [if_pos (by simp)]
  refine wpAny_bind (wpAny_rule ?_)
  show wpAny _ _ (setField (.ref (S + 5)) 0 .none) Q E _
  refine wpAny_setField hz rfl (by simp) (H _ ?_)
  exact (D.update (i := 5) (x := (S + 5, zO (rawInt nz) S)) (f := Obj.mapFields (·.setIfInBounds 0 .none)) rfl rfl).2
theorem zAsg {nn nz xt yt zt : Nat} {xi yi zi : Int} (L : Deep nn A) (hw : w.params = PX b1 b2 q) {Q : Unit → Shared → Prop} {E : Value → Shared → Prop}
    (D : Rep h₀ ⟨kt (PX b1 b2 q), zF Lm Ln Ls a b s3 ta tb ts na nb ns ++ Fx, zZ (PX b1 b2 q) Lm Ln Ls S k (.int xi xt) (.int yi yt) (.int zi zt) .none ys yn dd ++ [(nz, tupV #[.int xi xt, .int yi yt, .int zi zt])], Bt, nx, tk⟩ h)
    (H : ∀ h' tk' nx' e, Rep h₀ ⟨kt (PX b1 b2 q), zF Lm Ln Ls a b s3 ta tb ts na nb ns ++ Fx, zZ (PX b1 b2 q) Lm Ln Ls S k (.int xi xt) (.int yi yt) (.int zi zt) .none ys yn (some (e, .int xi xt, .int yi yt, .int zi zt)), Bt, nx', 0⟩ h' → Q () ⟨h', g, d, tk', os⟩) :
    wpAny (model prog w) A (assign (lcTg szE) (zEnv (S + 7)) (.ref nz)) Q E ⟨h, g, d, tk, os⟩ := by
  refine piece_of (by rw [← te17772580674575903948] : assign (lcTg szE) (zEnv (S + 7)) (.ref nz) = tw17772580674575903948 (lcTg szE) (zEnv (S + 7)) (.ref nz)) encU L (V := V0 (PX b1 b2 q) prog) (by rw [hw]; rfl) 10000 0 (hz [25,25,25,25,28,28,28,28,28,25,28,28,28,28,28,28,25,28,28,28,28,28,28,25,28,28,28,28,28,28,25,28,28,34,22,22,22,22,22,22]) D ?_
  cases dd with
  | none =>
    refine good_done (r := .ok .next) (pp := []) (by generalize b1 = b; revert b; exact kB (by kernel_rfl)) trivial fun h1 D1 _ _ => ?_
    exact H _ _ _ (tk, tk + 1, tk + 2) (D1.toF (tk := 0) (T := kt (PX b1 b2 q)) (F := zF Lm Ln Ls a b s3 ta tb ts na nb ns ++ Fx) (Z := zZ (PX b1 b2 q) Lm Ln Ls S k (.int xi xt) (.int yi yt) (.int zi zt) .none ys yn (some ((tk, tk + 1, tk + 2), .int xi xt, .int yi yt, .int zi zt))) (B := Bt) (nx := nx + 3) [0,1,2,3,4,5,6,7] (by generalize b1 = b; revert b; exact kB (by kernel_rfl)) (by generalize b1 = b; revert b; exact kB (by kernel_rfl)) rfl)
  | some p =>
    refine good_done (r := .ok .next) (pp := []) (by generalize b1 = b; revert b; exact kB (by kernel_rfl)) trivial fun h1 D1 _ _ => ?_
    exact H _ _ _ p.1 (D1.toF (tk := 0) (T := kt (PX b1 b2 q)) (F := zF Lm Ln Ls a b s3 ta tb ts na nb ns ++ Fx) (Z := zZ (PX b1 b2 q) Lm Ln Ls S k (.int xi xt) (.int yi yt) (.int zi zt) .none ys yn (some (p.1, .int xi xt, .int yi yt, .int zi zt))) (B := Bt) (nx := nx + 3) [0,1,2,3,4,5,6,7] (by generalize b1 = b; revert b; exact kB (by kernel_rfl)) (by generalize b1 = b; revert b; exact kB (by kernel_rfl)) rfl)
theorem zNm {nn : Nat} (L : Deep nn A) (hw : w.params = PX b1 b2 q) {e : Nat × Nat × Nat} {Q : Value → Shared → Prop} {E : Value → Shared → Prop}
    (D : Rep h₀ ⟨kt (PX b1 b2 q), zF Lm Ln Ls a b s3 ta tb ts na nb ns ++ Fx, zZ (PX b1 b2 q) Lm Ln Ls S k x y z .none ys yn (some (e, x, y, z)), Bt, nx, tk⟩ h) (X : Expr) (r : Value) (hX : (X = cmpL (lcIf szE) ∧ r = x) ∨ (X = cmpR (lcIf szE) ∧ r = y) ∨ (X = cmpL (ifeT (eltE szE)) ∧ r = x) ∨ (X = cmpR (ifeT (eltE szE)) ∧ r = y))
    (H : ∀ h' tk', Rep h₀ ⟨kt (PX b1 b2 q), zF Lm Ln Ls a b s3 ta tb ts na nb ns ++ Fx, zZ (PX b1 b2 q) Lm Ln Ls S k x y z .none ys yn (some (e, x, y, z)), Bt, nx, 0⟩ h' → Q r ⟨h', g, d, tk', os⟩) :
    wpAny (model prog w) A (eval X (zEnv (S + 7))) Q E ⟨h, g, d, tk, os⟩ := by
  refine piece_of (by rw [← te14044960220447912780] : eval X (zEnv (S + 7)) = tw14044960220447912780 X (zEnv (S + 7))) Flow.ret L (V := V0 (PX b1 b2 q) prog) (by rw [hw]; rfl) 10000 0 [22,0] D ?_
  refine good_done (r := .ok (.ret r)) (pp := []) (by rcases hX with ⟨rfl, rfl⟩ | ⟨rfl, rfl⟩ | ⟨rfl, rfl⟩ | ⟨rfl, rfl⟩ <;> (generalize b1 = b; revert b; exact kB (by kernel_rfl))) trivial fun h1 D1 v hv => ?_
  cases hv
  exact H _ _ (D1.toF (tk := 0) (T := kt (PX b1 b2 q)) (F := zF Lm Ln Ls a b s3 ta tb ts na nb ns ++ Fx) (Z := zZ (PX b1 b2 q) Lm Ln Ls S k x y z .none ys yn (some (e, x, y, z))) (B := Bt) (nx := nx) [0,1,2,3,4,5,6,7] (by rcases hX with ⟨rfl, rfl⟩ | ⟨rfl, rfl⟩ | ⟨rfl, rfl⟩ | ⟨rfl, rfl⟩ <;> (generalize b1 = b; revert b; exact kB (by kernel_rfl))) (by rcases hX with ⟨rfl, rfl⟩ | ⟨rfl, rfl⟩ | ⟨rfl, rfl⟩ | ⟨rfl, rfl⟩ <;> (generalize b1 = b; revert b; exact kB (by kernel_rfl))) rfl)
theorem zPos {nn : Nat} (L : Deep (nn + 20) A) (hw : w.params = PX b1 b2 q) {c : Int} {ct : Nat} {e : Nat × Nat × Nat} {Q : Value → Shared → Prop} {E : Value → Shared → Prop}
    (D : Rep h₀ ⟨kt (PX b1 b2 q), zF Lm Ln Ls a b s3 ta tb ts na nb ns ++ Fx, zZ (PX b1 b2 q) Lm Ln Ls S k x y (.int c ct) .none ys yn (some (e, x, y, .int c ct)), Bt, nx, tk⟩ h)
    (H : ∀ h' tk' t', Rep h₀ ⟨kt (PX b1 b2 q), zF Lm Ln Ls a b s3 ta tb ts na nb ns ++ Fx, zZ (PX b1 b2 q) Lm Ln Ls S k x y (.int c ct) .none ys yn (some (e, x, y, .int c ct)), Bt, nx, 0⟩ h' → Q (.int (absI c) t') ⟨h', g, d, tk', os⟩) :
    wpAny (model prog w) A (eval (ifeB (eltE szE)) (zEnv (S + 7))) Q E ⟨h, g, d, tk, os⟩ := by
  have hP : (VA (PX b1 b2 q) prog).P = ⟨prog, w.params⟩ := by rw [hw]; rfl
  refine piece_of (by rw [← te14044960220447912780] : eval (ifeB (eltE szE)) (zEnv (S + 7)) = tw14044960220447912780 (ifeB (eltE szE)) (zEnv (S + 7))) Flow.ret L (V := VA (PX b1 b2 q) prog) hP 10000 2 [22,0] D ?_
  refine good_holeT (n := nn) L (c := .call (.builtin "abs") ⟨[.int c ct], []⟩) (pp := []) (by generalize b1 = b; revert b; exact kB (by kernel_rfl)) trivial fun h1 k1 L1 D1 => ?_
  have D2 := D1.toF (tk := 0) (T := kt (PX b1 b2 q)) (F := zF Lm Ln Ls a b s3 ta tb ts na nb ns ++ Fx) (Z := zZ (PX b1 b2 q) Lm Ln Ls S k x y (.int c ct) .none ys yn (some (e, x, y, .int c ct))) (B := Bt) (nx := nx) [0,1,2,3,4,5,6,7] (by generalize b1 = b; revert b; exact kB (by kernel_rfl)) (by generalize b1 = b; revert b; exact kB (by kernel_rfl)) rfl
  refine c_abs fun t2 k2 => ?_
  refine back (V := VA (PX b1 b2 q) prog) L hP 10000 0 [] (tk := k2) D2 ?_
  refine good_done (r := .ok (.ret (.int (absI c) t2))) (pp := []) (by generalize b1 = b; revert b; exact kB (by kernel_rfl)) trivial fun h3 D3 v hv => ?_
  cases hv
  exact H _ _ _ (D3.toF (tk := 0) (T := kt (PX b1 b2 q)) (F := zF Lm Ln Ls a b s3 ta tb ts na nb ns ++ Fx) (Z := zZ (PX b1 b2 q) Lm Ln Ls S k x y (.int c ct) .none ys yn (some (e, x, y, .int c ct))) (B := Bt) (nx := nx) [0,1,2,3,4,5,6,7] (by generalize b1 = b; revert b; exact kB (by kernel_rfl)) (by generalize b1 = b; revert b; exact kB (by kernel_rfl)) rfl)
theorem zNeg {nn : Nat} (L : Deep (nn + 20) A) (hw : w.params = PX b1 b2 q) {c : Int} {ct : Nat} {e : Nat × Nat × Nat} {Q : Value → Shared → Prop} {E : Value → Shared → Prop}
    (D : Rep h₀ ⟨kt (PX b1 b2 q), zF Lm Ln Ls a b s3 ta tb ts na nb ns ++ Fx, zZ (PX b1 b2 q) Lm Ln Ls S k x y (.int c ct) .none ys yn (some (e, x, y, .int c ct)), Bt, nx, tk⟩ h)
    (H : ∀ h' tk' t', Rep h₀ ⟨kt (PX b1 b2 q), zF Lm Ln Ls a b s3 ta tb ts na nb ns ++ Fx, zZ (PX b1 b2 q) Lm Ln Ls S k x y (.int c ct) .none ys yn (some (e, x, y, .int c ct)), Bt, nx, 0⟩ h' → Q (.int (-absI c) t') ⟨h', g, d, tk', os⟩) :
    wpAny (model prog w) A (eval (ifeO (eltE szE)) (zEnv (S + 7))) Q E ⟨h, g, d, tk, os⟩ := by
  have hP : (VA (PX b1 b2 q) prog).P = ⟨prog, w.params⟩ := by rw [hw]; rfl
  refine piece_of (by rw [← te14044960220447912780] : eval (ifeO (eltE szE)) (zEnv (S + 7)) = tw14044960220447912780 (ifeO (eltE szE)) (zEnv (S + 7))) Flow.ret L (V := VA (PX b1 b2 q) prog) hP 10000 2 [22,0] D ?_
  refine good_holeT (n := nn) L (c := .call (.builtin "abs") ⟨[.int c ct], []⟩) (pp := []) (by generalize b1 = b; revert b; exact kB (by kernel_rfl)) trivial fun h1 k1 L1 D1 => ?_
  have D2 := D1.toF (tk := 0) (T := kt (PX b1 b2 q)) (F := zF Lm Ln Ls a b s3 ta tb ts na nb ns ++ Fx) (Z := zZ (PX b1 b2 q) Lm Ln Ls S k x y (.int c ct) .none ys yn (some (e, x, y, .int c ct))) (B := Bt) (nx := nx) [0,1,2,3,4,5,6,7] (by generalize b1 = b; revert b; exact kB (by kernel_rfl)) (by generalize b1 = b; revert b; exact kB (by kernel_rfl)) rfl
  refine c_abs fun t2 k2 => ?_
  refine back (V := VA (PX b1 b2 q) prog) L hP 10000 0 [] (tk := k2) D2 ?_
  refine good_done (r := .ok (.ret (.int (-absI c) k2))) (pp := []) (by generalize b1 = b; revert b; exact kB (by kernel_rfl)) trivial fun h3 D3 v hv => ?_
  cases hv
  exact H _ _ _ (D3.toF (tk := 0) (T := kt (PX b1 b2 q)) (F := zF Lm Ln Ls a b s3 ta tb ts na nb ns ++ Fx) (Z := zZ (PX b1 b2 q) Lm Ln Ls S k x y (.int c ct) .none ys yn (some (e, x, y, .int c ct))) (B := Bt) (nx := nx) [0,1,2,3,4,5,6,7] (by generalize b1 = b; revert b; exact kB (by kernel_rfl)) (by generalize b1 = b; revert b; exact kB (by kernel_rfl)) rfl)
end
end Mine
namespace Mine
open PySem PySem.W PySem.W.X PySem.Spec PySem.Calls PyProof.Rows
open PySem.W.Fast
section
variable {prog : Program} {w : World} {A : Around} {R : Result → Shared → Prop} {h₀ h : Heap} {g : Array GenState} {d : Drawn} {tk : Nat} {os : OsState} {b1 b2 : Bool} {q : Params} {Fx Bt : Facts} {nx S Lm Ln Ls na nb ns k yn : Nat} {a b s3 : Nat → Int} {ta tb ts : Nat → Nat} {x y z : Value} {ys : Array Value} {dd : Option ((Nat × Nat × Nat) × (Value × Value × Value))}
theorem allI_snoc {l : List Value} {x : Int} {t : Nat} (h : allI l = true) : allI (l ++ [.int x t]) = true := by
  induction l with
  | nil => rfl
  | cons v l ih =>
    cases v <;> first | exact ih h | exact absurd h (by decide) | (simp [allI] at h)
theorem zApp {v : Value} {Q : Value → Shared → Prop} {E : Value → Shared → Prop} (hs : ys.size ≤ sizeLine)
    (D : Rep h₀ ⟨kt (PX b1 b2 q), zF Lm Ln Ls a b s3 ta tb ts na nb ns ++ Fx, zZ (PX b1 b2 q) Lm Ln Ls S k x y z .none ys yn dd, Bt, nx, tk⟩ h)
    (H : ∀ h', Rep h₀ ⟨kt (PX b1 b2 q), zF Lm Ln Ls a b s3 ta tb ts na nb ns ++ Fx, zZ (PX b1 b2 q) Lm Ln Ls S k x y z .none (ys.push v) (yn + 1) dd, Bt, nx, tk⟩ h' → Q .none ⟨h', g, d, tk, os⟩) :
    wpAny (model prog w) A (call (.builtin "list.append") [.ref (S + 6), v]) Q E ⟨h, g, d, tk, os⟩ := by
  have ho := (D.Z (S + 6, lstO ys yn) (by unfold zZ; simp)).1
  refine wpAny_call_entry slot_list_append ⟨_, ho, rfl⟩ entry_list_append ?_ (args_list_append _ _)
  show wpAny _ _ (updateSeq (S + 6) (·.push v) >>= fun _ => ret .none) _ _ _
  refine wpAny_bind ?_
  refine wpAny_updateSeq ho rfl (wpAny_pure ⟨.none, rfl, ?_⟩)
  have D' := (D.update (i := 6) (x := (S + 6, lstO ys yn)) (f := Obj.mapSeq (·.push v)) rfl (by rw [mapSeq_push]; rfl)).2
  refine H _ ?_
  have e : Obj.mapSeq (·.push v) (lstO ys yn) = lstO (ys.push v) (yn + 1) := mapSeq_push ..
  simp only [zZ, putAt] at D'
  rw [e] at D'
  exact D'
theorem zTest {nn : Nat} (L : Deep nn A) (hw : w.params = PX b1 b2 q) {e : Nat × Nat × Nat} {xi yi : Int} {xt yt : Nat} {whole : Sem Value} {Q : Bool → Shared → Prop} {E : Value → Shared → Prop}
    (D : Rep h₀ ⟨kt (PX b1 b2 q), zF Lm Ln Ls a b s3 ta tb ts na nb ns ++ Fx, zZ (PX b1 b2 q) Lm Ln Ls S k (.int xi xt) (.int yi yt) z .none ys yn (some (e, (.int xi xt), (.int yi yt), z)), Bt, nx, tk⟩ h)
    (H : ∀ h' tk', Rep h₀ ⟨kt (PX b1 b2 q), zF Lm Ln Ls a b s3 ta tb ts na nb ns ++ Fx, zZ (PX b1 b2 q) Lm Ln Ls S k (.int xi xt) (.int yi yt) z .none ys yn (some (e, (.int xi xt), (.int yi yt), z)), Bt, nx, 0⟩ h' → Q (!(xi == yi)) ⟨h', g, d, tk', os⟩) :
    wpAny (model prog w) A (isTrue (lcIf szE) (zEnv (S + 7)) whole) Q E ⟨h, g, d, tk, os⟩ := by
  have ec : lcIf szE = .Compare (cmpL (lcIf szE)) [.NotEq] [cmpR (lcIf szE)] (posE (lcIf szE)) := rfl
  rw [ec]
  refine wpAny_isTrue_Compare1 ?_ rfl
  refine zNm L hw D _ _ (.inl ⟨rfl, rfl⟩) fun h1 k1 D1 => ?_
  refine zNm L hw (Rep.tok D1 k1) _ _ (.inr (.inl ⟨rfl, rfl⟩)) fun h2 k2 D2 => ?_
  show wpAny _ _ (richCompare .NotEq _ _) _ _ _
  exact PySem.SeqAt.RcNeAt.int_int _ _ _ _ _ _ _ _ (wpAny_truthy_bool (H _ _ D2))
theorem zElt {nn : Nat} (L : Deep (nn + 20) A) (hw : w.params = PX b1 b2 q) {e : Nat × Nat × Nat} {xi yi c : Int} {xt yt ct : Nat} {Q : Value → Shared → Prop} {E : Value → Shared → Prop}
    (D : Rep h₀ ⟨kt (PX b1 b2 q), zF Lm Ln Ls a b s3 ta tb ts na nb ns ++ Fx, zZ (PX b1 b2 q) Lm Ln Ls S k (.int xi xt) (.int yi yt) (.int c ct) .none ys yn (some (e, (.int xi xt), (.int yi yt), (.int c ct))), Bt, nx, tk⟩ h)
    (H : ∀ h' tk' t', Rep h₀ ⟨kt (PX b1 b2 q), zF Lm Ln Ls a b s3 ta tb ts na nb ns ++ Fx, zZ (PX b1 b2 q) Lm Ln Ls S k (.int xi xt) (.int yi yt) (.int c ct) .none ys yn (some (e, (.int xi xt), (.int yi yt), (.int c ct))), Bt, nx, 0⟩ h' → Q (.int (if yi < xi then absI c else -absI c) t') ⟨h', g, d, tk', os⟩) :
    wpAny (model prog w) A (eval (eltE szE) (zEnv (S + 7))) Q E ⟨h, g, d, tk, os⟩ := by
  have ei : eltE szE = .IfExp (ifeT (eltE szE)) (ifeB (eltE szE)) (ifeO (eltE szE)) (ifeP (eltE szE)) := rfl
  rw [ei]
  refine wpAny_IfExp ?_
  have ec : ifeT (eltE szE) = .Compare (cmpL (ifeT (eltE szE))) [.Gt] [cmpR (ifeT (eltE szE))] (posE (ifeT (eltE szE))) := rfl
  rw [ec]
  refine wpAny_isTrue_Compare1 ?_ rfl
  refine zNm L hw D _ _ (.inr (.inr (.inl ⟨rfl, rfl⟩))) fun h1 k1 D1 => ?_
  refine zNm L hw (Rep.tok D1 k1) _ _ (.inr (.inr (.inr ⟨rfl, rfl⟩))) fun h2 k2 D2 => ?_
  show wpAny _ _ (richCompare .Gt _ _) _ _ _
  refine rc_int_gt (wpAny_truthy_bool ?_)
  have ex : cmpI .Gt xi yi = decide (yi < xi) := by simp [cmpI]
  rw [ex]
  by_cases hb : yi < xi
  · rw [if_pos (by simpa using hb)]
    refine zPos L hw (Rep.tok D2 k2) fun h3 k3 t3 D3 => ?_
    have := H h3 k3 t3 D3
    rw [if_pos hb] at this
    exact this
  · rw [if_neg (by simpa using hb)]
    refine zNeg L hw (Rep.tok D2 k2) fun h3 k3 t3 D3 => ?_
    have := H h3 k3 t3 D3
    rw [if_neg hb] at this
    exact this
inductive ZInv (h₀ : Heap) (F : Facts) (g : Array GenState) (d : Drawn) (os : OsState) (Z : Nat → Value → Value → Value → Array Value → Nat → Option ((Nat × Nat × Nat) × (Value × Value × Value)) → Facts) (l : Nat → List Int) (P : Params) (Bt : Facts) (n : Nat) (s : Shared) : Prop
  | mk (k : Nat) (ys : Array Value) (yn nx : Nat) (x y z : Value) (dd : Option ((Nat × Nat × Nat) × (Value × Value × Value))) (h : Heap) (tk : Nat) (en : n = 4 - k) (hk : k ≤ 4) (hd : k = 0 ∨ ∃ p, dd = some p) (hy : intsOf ys.toList = l k) (hi : allI ys.toList = true) (es : s = ⟨h, g, d, tk, os⟩)
      (D : Rep h₀ ⟨kt P, F, Z k x y z ys yn dd, Bt, nx, tk⟩ h)
theorem zLoop {nn : Nat} (L : Deep (nn + 20) A) (hw : w.params = PX b1 b2 q)
    (D : Rep h₀ ⟨kt (PX b1 b2 q), zF Lm Ln Ls a b s3 ta tb ts na nb ns ++ Fx, zZ (PX b1 b2 q) Lm Ln Ls S 0 .none .none .none .none #[] 0 none, Bt, nx, tk⟩ h)
    (H : ∀ h' tk' nx' ys yn p, intsOf ys.toList = szL a b s3 4 → allI ys.toList = true → Rep h₀ ⟨kt (PX b1 b2 q), zF Lm Ln Ls a b s3 ta tb ts na nb ns ++ Fx, [(S + 6, lstO ys yn), (S + 7, zD (PX b1 b2 q) (some p))], Bt, nx', 0⟩ h' → R (.ok .next) ⟨h', g, d, tk', os⟩) :
    codeAny (model prog w) A (.compLoop szE 0 (.ref (S + 5)) (.ref (S + 6)) (zEnv (S + 7))) R ⟨h, g, d, tk, os⟩ := by
  have eE : szE = .ListComp (eltE szE) [⟨lcTg szE, lcIt szE, [lcIf szE], 0⟩] (scE szE) (posE szE) := rfl
  have eT : ∃ es kk pp, lcTg szE = .Tuple es kk pp := ⟨_, _, _, rfl⟩
  obtain ⟨es, kk, pp, eT⟩ := eT
  rw [eE]
  refine PySem.W.kct_loop (ZInv h₀ (zF Lm Ln Ls a b s3 ta tb ts na nb ns ++ Fx) g d os (fun k x y z ys yn dd => zZ (PX b1 b2 q) Lm Ln Ls S k x y z .none ys yn dd) (szL a b s3) (PX b1 b2 q) Bt) (fun n s hI => ?_) 4 ⟨0, #[], 0, nx, .none, .none, .none, none, h, tk, rfl, by decide, .inl rfl, rfl, rfl, rfl, D⟩
  obtain ⟨k, ys, yn, nx, x, y, z, dd, h, tk, en, hk, hd, hy, hi, rfl, D⟩ := hI
  have hl : ys.size ≤ 4 := by
    have h1 : (intsOf ys.toList).length = ys.size := (List.length_map _).trans Array.length_toList
    rw [← h1, hy]
    exact Nat.le_trans (szL_len a b s3 k) hk
  rcases Nat.lt_or_ge k 4 with hk' | hk'
  · have h4 : I4 k := lt4 hk'
    refine zNext (nn := nn) (L.less (Nat.le_add_right nn 20)) hw h4 D fun h1 k1 D1 => ?_
    refine zGo eT (Rep.tok D1 k1) fun h2 D2 => ?_
    refine zAsg (nn := nn) (L.less (Nat.le_add_right nn 20)) hw D2 fun h3 k3 n3 e D3 => ?_
    refine zTest (nn := nn) (L.less (Nat.le_add_right nn 20)) hw (Rep.tok D3 k3) fun h4 k4 D4 => ?_
    by_cases hab : a k = b k
    · rw [if_neg (by simp [hab])]
      refine ⟨4 - (k + 1), turn_lt en hk', k + 1, ys, yn, n3, _, _, _, _, h4, k4, rfl, hk', .inr ⟨_, rfl⟩, ?_, hi, rfl, Rep.tok D4 k4⟩
      rw [hy]
      show _ = szT (a k) (b k) (s3 k) (szL a b s3 k)
      rw [szT, if_pos hab]
    · rw [if_pos (by simp [hab])]
      refine zElt L hw (Rep.tok D4 k4) fun h5 k5 t5 D5 => ?_
      refine zApp (Nat.le_trans hl (by decide)) (Rep.tok D5 k5) fun h6 D6 => ?_
      refine ⟨4 - (k + 1), turn_lt en hk', k + 1, ys.push _, yn + 1, n3, _, _, _, _, h6, k5, rfl, hk', .inr ⟨_, rfl⟩, ?_, ?_, rfl, D6⟩
      · show _ = szT (a k) (b k) (s3 k) (szL a b s3 k)
        rw [szT, if_neg hab, ← hy]
        simp [intsOf, intOf]
      · simp only [Array.toList_push]
        rw [allI_snoc hi]
  · obtain rfl : k = 4 := Nat.le_antisymm hk hk'
    rcases hd with hd | ⟨p, rfl⟩
    · cases hd
    exact zEnd (nn := nn) (L.less (Nat.le_add_right nn 20)) hw D fun h' tk' D' => H h' tk' _ ys yn p hy hi D'
end
end Mine
namespace Mine
open PySem PySem.W PySem.W.X PySem.Spec PySem.Calls PyProof.Rows
open PySem.W.Fast
noncomputable def sK (K : Keys) : Nat → Int
  | 0 => K.s0
  | 1 => K.s1
  | 2 => K.s2
  | _ => K.s3
noncomputable def uK (K : Keys) : Nat → Nat
  | 0 => K.u0
  | 1 => K.u1
  | 2 => K.u2
  | _ => K.u3
section
variable {prog : Program} {w : World} {A : Around} {R : Result → Shared → Prop} {h₀ h : Heap} {g : Array GenState} {d : Drawn} {tk : Nat} {os : OsState} {b1 b2 : Bool} {q : Params} {Fx Bt : Facts} {nx : Nat} {B : B10} {G : G10} {τ : Nat → Nat} {v : V10} {o : Option V10} {a b : Nat → Int} {ta tb : Nat → Nat} {na nb : Nat}
theorem b10_5 {nn j : Nat} (L : Deep (nn + 40) A) (hw : w.params = PX b1 b2 q) {Q : Flow → Shared → Prop} {E : Value → Shared → Prop}
    (D : Rep h₀ ⟨kt (PX b1 b2 q), G.F (PX b1 b2 q) ++ ((v.mine, l4 a ta na) :: (v.its, l4 b tb nb) :: Fx), z10 (PX b1 b2 q) B G τ 7 v o j, Bt, nx, tk⟩ h)
    (H : ∀ h' tk' nx' τ' Z ys yn, intsOf ys.toList = szL a b (sK G.K) 4 → allI ys.toList = true → Rep h₀ ⟨kt (PX b1 b2 q), G.F (PX b1 b2 q) ++ ((Z, lstO ys yn) :: (v.mine, l4 a ta na) :: (v.its, l4 b tb nb) :: Fx), z10 (PX b1 b2 q) B G τ' 8 { v with sizes := Z } o j, Bt, nx', 0⟩ h' → Q .next ⟨h', g, d, tk', os⟩) :
    wpAny (model prog w) A (execs [bS 5] (lawEnv 110)) Q E ⟨h, g, d, tk, os⟩ := by
  have hP : (VCL (PX b1 b2 q) prog).P = ⟨prog, w.params⟩ := by rw [hw]; rfl
  refine piece_block (V := VCL (PX b1 b2 q) prog) L hP 100000 2 (cond b2 (hz [1,1,1,42,42,42,16,45,45,45,19,33,33,33,22,31,31,31,31,31,31,31,31]) (hz [1,1,1,42,42,42,16,45,45,45,19,33,33,33,22,31,31,31,31,31,31,31,31,31,31,31,31])) D ?_
  refine good_holeT (n := nn + 20) L (c := .compLoop szE 0 (.ref (nx + 5)) (.ref (nx + 6)) (zEnv (nx + 7))) (pp := []) (by generalize o = x; generalize b1 = b; generalize b2 = c; revert x b c; exact kOBB (by kernel_rfl)) trivial fun h1 t1 L1 D1 => ?_
  have D2 := D1.toXe (tk := 0) (F0 := []) (Fx := G.F (PX b1 b2 q) ++ ((v.mine, l4 a ta na) :: (v.its, l4 b tb nb) :: Fx)) (T := kt (PX b1 b2 q)) (F := z10 (PX b1 b2 q) B G τ 7 v o j) (Z := zZ (PX b1 b2 q) v.mine v.its 256 nx 0 .none .none .none .none #[] 0 none) (B := Bt) (nx := nx + 8) [1,4,7,10,13] [5,6,7,8,9,10,11,12] (by generalize o = x; generalize b1 = b; generalize b2 = c; revert x b c; exact kOBB (by kernel_rfl)) (by generalize o = x; generalize b1 = b; generalize b2 = c; revert x b c; exact kOBB (by kernel_rfl)) rfl
  have D3 := D2.perm (F := zF v.mine v.its 256 a b (sK G.K) ta tb (uK G.K) na nb 0 ++ (z10 (PX b1 b2 q) B G τ 7 v o j ++ (G.F (PX b1 b2 q) ++ ((v.mine, l4 a ta na) :: (v.its, l4 b tb nb) :: Fx)))) (fun x hx => by
    rcases List.mem_append.mp hx with hx | hx
    · refine List.mem_append_right _ ?_
      simp only [zF, List.mem_cons, List.not_mem_nil, or_false] at hx
      rcases hx with rfl | rfl | rfl
      · exact List.mem_append_right _ (.head _)
      · exact List.mem_append_right _ (.tail _ (.head _))
      · exact List.mem_append_left _ (by unfold G10.F; exact List.mem_of_getElem? (i := 11) rfl)
    · exact hx)
  refine zLoop (nn := nn) L1 hw (Rep.tok D3 t1) fun h2 t2 n2 ys yn p hy hi D4 => ?_
  have D5 := D.reC (tk := t2) (F' := zF v.mine v.its 256 a b (sK G.K) ta tb (uK G.K) na nb 0 ++ z10 (PX b1 b2 q) B G τ 7 v o j) (Z := z10 (PX b1 b2 q) B G τ 7 v o j) (Fx := G.F (PX b1 b2 q) ++ ((v.mine, l4 a ta na) :: (v.its, l4 b tb nb) :: Fx)) D4 [9,12,15,18,21] rfl (by rw [List.append_assoc]) (by generalize o = x; generalize b1 = b; revert x b; exact kOB (by kernel_rfl)) rfl rfl (fun x hx => by
    simp only [List.mem_cons, List.not_mem_nil, or_false] at hx
    rcases hx with rfl | rfl
    · exact Nat.le_add_right _ _
    · exact Nat.le_add_right _ _)
  refine back (V := VCL (PX b1 b2 q) prog) L hP 100000 0 (hz [1,1,19,19,19,19,19,19,19,19,19]) (tk := t2) D5 ?_
  refine good_done (r := .ok .next) (pp := []) (by generalize o = x; generalize b1 = b; generalize b2 = c; revert x b c; exact kOBB (by kernel_rfl)) trivial fun h3 D6 => ?_
  have D7 := D6.toXe (tk := 0) (F0 := []) (Fx := G.F (PX b1 b2 q) ++ ((v.mine, l4 a ta na) :: (v.its, l4 b tb nb) :: Fx)) (T := kt (PX b1 b2 q)) (F := [(nx + 6, lstO ys yn)]) (Z := z10 (PX b1 b2 q) B G (tau10 τ 7 1 t2 o) 8 { v with sizes := nx + 6 } o j) (B := Bt) (nx := n2) [16] [0,1,2,3,4] (by generalize o = x; generalize b1 = b; generalize b2 = c; revert x b c; exact kOBB (by kernel_rfl)) (by generalize o = x; generalize b1 = b; generalize b2 = c; revert x b c; exact kOBB (by kernel_rfl)) rfl
  exact H _ _ _ _ _ ys yn hy hi (D7.perm (by trivial))
end
end Mine
namespace Mine
open PySem PySem.W PySem.W.X PySem.Spec PySem.Calls PyProof.Rows
open PySem.W.Fast
section
variable {prog : Program} {w : World} {A : Around} {R : Result → Shared → Prop} {h₀ h : Heap} {g : Array GenState} {d : Drawn} {tk : Nat} {os : OsState} {b1 b2 : Bool} {q : Params} {Fx Bt : Facts} {nx : Nat} {B : B10} {G : G10} {τ : Nat → Nat} {v : V10} {o : Option V10}
theorem b10_6 {nn i j : Nat} (L : Deep (nn + 60) A) (hw : w.params = PX b1 b2 q) (hi : I6 i) (hl : v.l = (lr10 i).1) (hr : v.r = (lr10 i).2) (ha : ∀ k, k < 6 → G.a k < 6) {f : Fl}
    (hC : ∀ h, (∀ x ∈ G.F (PX b1 b2 q) ++ Fx, h.get? x.1 = some x.2) → Bs b1 b2 q w h → Cmps prog w 40 h G.FL (G.W.R (G.a (lr10 i).1)) (G.W.R (G.a (lr10 i).2)) (yF G.W f (G.a (lr10 i).1) (G.a (lr10 i).2))) {Q : Flow → Shared → Prop} {E : Value → Shared → Prop}
    (D : Rep h₀ ⟨kt (PX b1 b2 q), G.F (PX b1 b2 q) ++ Fx, z10 (PX b1 b2 q) B G τ 8 v o j, Bt, nx, tk⟩ h)
    (H : ∀ h' tk' nx' τ' s9, Rep h₀ ⟨kt (PX b1 b2 q), G.F (PX b1 b2 q) ++ Fx, z10 (PX b1 b2 q) B G τ' 9 { v with size := yF G.W f (G.a (lr10 i).1) (G.a (lr10 i).2), st := s9 } o j, Bt, nx', 0⟩ h' → Q .next ⟨h', g, d, tk', os⟩) :
    wpAny (model prog w) A (execs [bS 6] (lawEnv 110)) Q E ⟨h, g, d, tk, os⟩ := by
  have ll : v.l < 6 := by rw [hl]; exact (lr_lt hi).1
  have lr : v.r < 6 := by rw [hr]; exact (lr_lt hi).2
  simp only [← hl, ← hr] at hC H
  have hP : (VY2 (PX b1 b2 q) prog).P = ⟨prog, w.params⟩ := by rw [hw]; rfl
  have dl : ∀ (k : Nat) (p : Addr × Obj), nth (G.F (PX b1 b2 q)) k = some p → p ∈ G.F (PX b1 b2 q) ++ Fx := fun k p e => List.mem_append_left _ (by rw [nth_eq] at e; exact List.mem_of_getElem? e)
  refine piece_block (V := VY2 (PX b1 b2 q) prog) L hP 100000 0 [1,0,36,3,36,3,36,4,36,0,39,0,4,0,1,0,1,0,24,0,24,0,24,0] D ?_
  refine good_holeT (n := nn + 40) L (c := .call (.builtin "list.__getitem__") ⟨[.ref G.DU, .int (v.l : Nat) v.lt], []⟩) (pp := []) (by generalize o = x; generalize b1 = b; revert x b; exact kOB (by kernel_rfl)) trivial fun h1 t1 L1 D1 => ?_
  have E1 := D1.toF (tk := 0) (T := kt (PX b1 b2 q)) (F := G.F (PX b1 b2 q) ++ Fx) (Z := z10 (PX b1 b2 q) B G τ 8 v o j) (B := Bt) (nx := nx) [0,1,2,3,4] (by generalize o = x; generalize b1 = b; revert x b; exact kOB (by kernel_rfl)) (by generalize o = x; generalize b1 = b; revert x b; exact kOB (by kernel_rfl)) rfl
  refine c_item (n := G.c) (x := .int (G.a v.l : Nat) (G.t (G.a v.l))) (E1.F _ (dl 8 _ rfl)) (by omega) (by have := ll; omega) (lst6_get (fun k => Value.int (G.a k : Nat) (G.t (G.a k))) ll) ?_
  refine back (V := VY2 (PX b1 b2 q) prog) L hP 100000 0 (hz [30,30,30]) (tk := t1) E1 ?_
  refine good_holeT (n := nn + 40) L (c := .call (.builtin "list.__getitem__") ⟨[.ref 115, .int (G.a v.l : Nat) (G.t (G.a v.l))], []⟩) (pp := []) (by generalize o = x; generalize b1 = b; revert x b; exact kOB (by kernel_rfl)) trivial fun h2 t2 L2 D2 => ?_
  have E2 := D2.toF (tk := 0) (T := kt (PX b1 b2 q)) (F := G.F (PX b1 b2 q) ++ Fx) (Z := z10 (PX b1 b2 q) B G τ 8 v o j) (B := Bt) (nx := nx) [0,1,2,3,4] (by generalize o = x; generalize b1 = b; revert x b; exact kOB (by kernel_rfl)) (by generalize o = x; generalize b1 = b; revert x b; exact kOB (by kernel_rfl)) rfl
  refine c_item (n := 6) (x := .ref (G.W.R (G.a v.l))) (E2.F _ (dl 10 _ rfl)) (by omega) (by have := ha _ ll; omega) (lst6_get (fun k => Value.ref (G.W.R k)) (ha _ ll)) ?_
  refine back (V := VY2 (PX b1 b2 q) prog) L hP 100000 0 (hz [4,1,1,24,24,24]) (tk := t2) E2 ?_
  refine good_holeT (n := nn + 40) L (c := .call (.builtin "list.__getitem__") ⟨[.ref G.DU, .int (v.r : Nat) v.rt], []⟩) (pp := []) (by generalize o = x; generalize b1 = b; revert x b; exact kOB (by kernel_rfl)) trivial fun h3 t3 L3 D3 => ?_
  have E3 := D3.toF (tk := 0) (T := kt (PX b1 b2 q)) (F := G.F (PX b1 b2 q) ++ Fx) (Z := z10 (PX b1 b2 q) B G τ 8 v o j) (B := Bt) (nx := nx) [0,1,2,3,4] (by generalize o = x; generalize b1 = b; revert x b; exact kOB (by kernel_rfl)) (by generalize o = x; generalize b1 = b; revert x b; exact kOB (by kernel_rfl)) rfl
  refine c_item (n := G.c) (x := .int (G.a v.r : Nat) (G.t (G.a v.r))) (E3.F _ (dl 8 _ rfl)) (by omega) (by have := lr; omega) (lst6_get (fun k => Value.int (G.a k : Nat) (G.t (G.a k))) lr) ?_
  refine back (V := VY2 (PX b1 b2 q) prog) L hP 100000 0 (hz [30,30,30]) (tk := t3) E3 ?_
  refine good_holeT (n := nn + 40) L (c := .call (.builtin "list.__getitem__") ⟨[.ref 115, .int (G.a v.r : Nat) (G.t (G.a v.r))], []⟩) (pp := []) (by generalize o = x; generalize b1 = b; revert x b; exact kOB (by kernel_rfl)) trivial fun h4 t4 L4 D4 => ?_
  have E4 := D4.toF (tk := 0) (T := kt (PX b1 b2 q)) (F := G.F (PX b1 b2 q) ++ Fx) (Z := z10 (PX b1 b2 q) B G τ 8 v o j) (B := Bt) (nx := nx) [0,1,2,3,4] (by generalize o = x; generalize b1 = b; revert x b; exact kOB (by kernel_rfl)) (by generalize o = x; generalize b1 = b; revert x b; exact kOB (by kernel_rfl)) rfl
  refine c_item (n := 6) (x := .ref (G.W.R (G.a v.r))) (E4.F _ (dl 10 _ rfl)) (by omega) (by have := ha _ lr; omega) (lst6_get (fun k => Value.ref (G.W.R k)) (ha _ lr)) ?_
  refine back (V := VY2 (PX b1 b2 q) prog) L hP 100000 1 [] (tk := t4) E4 ?_
  refine good_holeT (n := nn + 40) L (c := .call (.ref 51) ⟨[.ref G.FL, .ref (G.W.R (G.a v.l)), .ref (G.W.R (G.a v.r))], []⟩) (pp := []) (by generalize o = x; generalize b1 = b; revert x b; exact kOB (by kernel_rfl)) trivial fun h5 t5 L5 D5 => ?_
  have E5 := D5.toF (tk := 0) (T := kt (PX b1 b2 q)) (F := G.F (PX b1 b2 q) ++ Fx) (Z := z10 (PX b1 b2 q) B G τ 8 v o j) (B := Bt) (nx := nx) [0,1,2,3,4] (by generalize o = x; generalize b1 = b; revert x b; exact kOB (by kernel_rfl)) (by generalize o = x; generalize b1 = b; revert x b; exact kOB (by kernel_rfl)) rfl
  refine hC h5 (fun x hx => E5.F x hx) (E5.bs hw) _ _ g d os h5 t5 (L5.less (by omega)) (fun _ _ e => e) fun h6 t6 n6 s9 P6 => ?_
  refine back (V := VY2 (PX b1 b2 q) prog) L hP 100000 0 [1,0,1,0] (tk := t6) (E5.andN P6) ?_
  refine good_done (r := .ok .next) (pp := []) (by generalize o = x; generalize b1 = b; revert x b; exact kOB (by kernel_rfl)) trivial fun h7 D7 => ?_
  exact H _ _ _ _ s9 (D7.toF (tk := 0) (T := kt (PX b1 b2 q)) (F := G.F (PX b1 b2 q) ++ Fx) (Z := z10 (PX b1 b2 q) B G (tau10 τ 8 1 t6 o) 9 { v with size := yF G.W f (G.a v.l) (G.a v.r), st := s9 } o j) (B := Bt) (nx := n6) [0,1,2,3,4] (by generalize o = x; generalize b1 = b; revert x b; exact kOB (by kernel_rfl)) (by generalize o = x; generalize b1 = b; revert x b; exact kOB (by kernel_rfl)) rfl)
end
end Mine
namespace Mine
open PySem PySem.W PySem.W.X PySem.Spec PySem.Calls PyProof.Rows
open PySem.W.Fast
noncomputable def VN7 (P : Params) (prog : Program) : Env9 := ⟨⟨prog, P⟩, fun c => match c with
  | .call (.builtin s) _ => memS s ["int.__ne__"]
  | _ => false⟩
theorem c_ne {prog : Program} {w : World} {A : Around} {R : Result → Shared → Prop} {s : Shared} {x y : Int} {t u : Nat} (H : R (.ok (.ret (.bool (!(x == y))))) s) : codeAny (model prog w) A (.call (.builtin "int.__ne__") ⟨[.int x t, .int y u], []⟩) R s :=
  codeAny_call_builtin F.slot_int_ne.plain F.entry_int_ne (F.slot_int_ne.check _ _ _ _ _ _ _ _ (typeIs_int s x t) (F.args_int_ne_2 _ _) (gives_int_ne x y t u prog w A R s H))
theorem ints_cases {ys : Array Value} (hi : allI ys.toList = true) (hl : ys.size ≤ 4) : ys = #[] ∨ (∃ x t, ys = #[.int x t]) ∨ (∃ x t x2 t2, ys = #[.int x t, .int x2 t2]) ∨ (∃ x t x2 t2 x3 t3, ys = #[.int x t, .int x2 t2, .int x3 t3]) ∨ (∃ x t x2 t2 x3 t3 x4 t4, ys = #[.int x t, .int x2 t2, .int x3 t3, .int x4 t4]) := by
  obtain ⟨l⟩ := ys
  have st : ∀ l : List Value, allI l = true → l = [] ∨ ∃ x t r, l = .int x t :: r ∧ allI r = true := fun l h => by
    cases l with
    | nil => exact .inl rfl
    | cons v r => cases v <;> first | exact .inr ⟨_, _, _, rfl, h⟩ | (simp [allI] at h)
  have hl' : l.length ≤ 4 := hl
  rcases st l hi with rfl | ⟨x, t, r, rfl, h1⟩
  · exact .inl rfl
  rcases st r h1 with rfl | ⟨x2, t2, r, rfl, h1⟩
  · exact .inr (.inl ⟨x, t, rfl⟩)
  rcases st r h1 with rfl | ⟨x3, t3, r, rfl, h1⟩
  · exact .inr (.inr (.inl ⟨x, t, x2, t2, rfl⟩))
  rcases st r h1 with rfl | ⟨x4, t4, r, rfl, h1⟩
  · exact .inr (.inr (.inr (.inl ⟨x, t, x2, t2, x3, t3, rfl⟩)))
  rcases st r h1 with rfl | ⟨x5, t5, r, rfl, h1⟩
  · exact .inr (.inr (.inr (.inr ⟨x, t, x2, t2, x3, t3, x4, t4, rfl⟩)))
  simp at hl'
section
variable {prog : Program} {w : World} {A : Around} {R : Result → Shared → Prop} {h₀ h : Heap} {g : Array GenState} {d : Drawn} {tk : Nat} {os : OsState} {b1 b2 : Bool} {q : Params} {Fx Bt : Facts} {nx : Nat} {B : B10} {G : G10} {τ : Nat → Nat} {v : V10} {o : Option V10}
theorem b7_0 {nn j yn : Nat}  (L : Deep (nn + 20) A) (hw : w.params = PX b1 b2 q) (he : v.size = 0) {Q : Flow → Shared → Prop} {E : Value → Shared → Prop}
    (D : Rep h₀ ⟨kt (PX b1 b2 q), G.F (PX b1 b2 q) ++ ((v.sizes, lstO #[] yn) :: Fx), z10 (PX b1 b2 q) B G τ 9 v o j, Bt, nx, tk⟩ h)
    (H : ∀ h' tk' nx', Rep h₀ ⟨kt (PX b1 b2 q), G.F (PX b1 b2 q) ++ ((v.sizes, lstO #[] yn) :: Fx), z10 (PX b1 b2 q) B G τ 9 v o j, Bt, nx', 0⟩ h' → Q .next ⟨h', g, d, tk', os⟩) :
    wpAny (model prog w) A (execs [bS 7] (lawEnv 110)) Q E ⟨h, g, d, tk, os⟩ := by
  have hP : (VN7 (PX b1 b2 q) prog).P = ⟨prog, w.params⟩ := by rw [hw]; rfl
  refine piece_block (V := VN7 (PX b1 b2 q) prog) L hP 100000 2 [1,2,1,0,1,0,42,0,16,0,42,0,42,0,16,0,42,0,16,0,19,0,19,0,19,0,19,0,19,0] D ?_
  refine good_holeT (n := nn) L (c := .call (.builtin "int.__ne__") ⟨[.int v.size v.st, .int 0 tk], []⟩) (pp := []) (by generalize o = x; generalize b1 = b; revert x b; exact kOB (by kernel_rfl)) trivial fun h1 t1 L1 D1 => ?_
  have D2 := D1.toF (tk := 0) (T := kt (PX b1 b2 q)) (F := G.F (PX b1 b2 q) ++ ((v.sizes, lstO #[] yn) :: Fx)) (Z := z10 (PX b1 b2 q) B G τ 9 v o j) (B := Bt) (nx := nx + 2) [0,1,2,3,4] (by generalize o = x; generalize b1 = b; revert x b; exact kOB (by kernel_rfl)) (by generalize o = x; generalize b1 = b; revert x b; exact kOB (by kernel_rfl)) rfl
  refine c_ne ?_
  have e : (!(v.size == 0)) = false := by rw [he]; simp
  rw [e]
  refine back (V := VN7 (PX b1 b2 q) prog) L hP 100000 0 [] (tk := t1) D2 ?_
  refine good_done (r := .ok .next) (pp := []) (by generalize o = x; generalize b1 = b; revert x b; exact kOB (by kernel_rfl)) trivial fun h3 D3 => ?_
  exact H _ _ _ (D3.toF (tk := 0) (T := kt (PX b1 b2 q)) (F := G.F (PX b1 b2 q) ++ ((v.sizes, lstO #[] yn) :: Fx)) (Z := z10 (PX b1 b2 q) B G τ 9 v o j) (B := Bt) (nx := nx + 2) [0,1,2,3,4] (by generalize o = x; generalize b1 = b; revert x b; exact kOB (by kernel_rfl)) (by generalize o = x; generalize b1 = b; revert x b; exact kOB (by kernel_rfl)) rfl)
theorem b7_1 {nn j yn : Nat} {x1 : Int} {u1 : Nat} (L : Deep (nn + 20) A) (hw : w.params = PX b1 b2 q) (he : v.size = x1) {Q : Flow → Shared → Prop} {E : Value → Shared → Prop}
    (D : Rep h₀ ⟨kt (PX b1 b2 q), G.F (PX b1 b2 q) ++ ((v.sizes, lstO #[.int x1 u1] yn) :: Fx), z10 (PX b1 b2 q) B G τ 9 v o j, Bt, nx, tk⟩ h)
    (H : ∀ h' tk' nx', Rep h₀ ⟨kt (PX b1 b2 q), G.F (PX b1 b2 q) ++ ((v.sizes, lstO #[.int x1 u1] yn) :: Fx), z10 (PX b1 b2 q) B G τ 9 v o j, Bt, nx', 0⟩ h' → Q .next ⟨h', g, d, tk', os⟩) :
    wpAny (model prog w) A (execs [bS 7] (lawEnv 110)) Q E ⟨h, g, d, tk, os⟩ := by
  have hP : (VN7 (PX b1 b2 q) prog).P = ⟨prog, w.params⟩ := by rw [hw]; rfl
  refine piece_block (V := VN7 (PX b1 b2 q) prog) L hP 100000 2 [1,2,1,0,1,0,42,0,16,0,42,0,42,0,16,0,42,0,16,0,19,0,19,0,19,0,19,0,19,0] D ?_
  refine good_holeT (n := nn) L (c := .call (.builtin "int.__ne__") ⟨[.int v.size v.st, .int x1 u1], []⟩) (pp := []) (by generalize o = x; generalize b1 = b; revert x b; exact kOB (by kernel_rfl)) trivial fun h1 t1 L1 D1 => ?_
  have D2 := D1.toF (tk := 0) (T := kt (PX b1 b2 q)) (F := G.F (PX b1 b2 q) ++ ((v.sizes, lstO #[.int x1 u1] yn) :: Fx)) (Z := z10 (PX b1 b2 q) B G τ 9 v o j) (B := Bt) (nx := nx + 2) [0,1,2,3,4] (by generalize o = x; generalize b1 = b; revert x b; exact kOB (by kernel_rfl)) (by generalize o = x; generalize b1 = b; revert x b; exact kOB (by kernel_rfl)) rfl
  refine c_ne ?_
  have e : (!(v.size == x1)) = false := by rw [he]; simp
  rw [e]
  refine back (V := VN7 (PX b1 b2 q) prog) L hP 100000 0 [] (tk := t1) D2 ?_
  refine good_done (r := .ok .next) (pp := []) (by generalize o = x; generalize b1 = b; revert x b; exact kOB (by kernel_rfl)) trivial fun h3 D3 => ?_
  exact H _ _ _ (D3.toF (tk := 0) (T := kt (PX b1 b2 q)) (F := G.F (PX b1 b2 q) ++ ((v.sizes, lstO #[.int x1 u1] yn) :: Fx)) (Z := z10 (PX b1 b2 q) B G τ 9 v o j) (B := Bt) (nx := nx + 2) [0,1,2,3,4] (by generalize o = x; generalize b1 = b; revert x b; exact kOB (by kernel_rfl)) (by generalize o = x; generalize b1 = b; revert x b; exact kOB (by kernel_rfl)) rfl)
theorem b7_2 {nn j yn : Nat} {x1 x2 : Int} {u1 u2 : Nat} (L : Deep (nn + 20) A) (hw : w.params = PX b1 b2 q) (he : v.size = x1) {Q : Flow → Shared → Prop} {E : Value → Shared → Prop}
    (D : Rep h₀ ⟨kt (PX b1 b2 q), G.F (PX b1 b2 q) ++ ((v.sizes, lstO #[.int x1 u1, .int x2 u2] yn) :: Fx), z10 (PX b1 b2 q) B G τ 9 v o j, Bt, nx, tk⟩ h)
    (H : ∀ h' tk' nx', Rep h₀ ⟨kt (PX b1 b2 q), G.F (PX b1 b2 q) ++ ((v.sizes, lstO #[.int x1 u1, .int x2 u2] yn) :: Fx), z10 (PX b1 b2 q) B G τ 9 v o j, Bt, nx', 0⟩ h' → Q .next ⟨h', g, d, tk', os⟩) :
    wpAny (model prog w) A (execs [bS 7] (lawEnv 110)) Q E ⟨h, g, d, tk, os⟩ := by
  have hP : (VN7 (PX b1 b2 q) prog).P = ⟨prog, w.params⟩ := by rw [hw]; rfl
  refine piece_block (V := VN7 (PX b1 b2 q) prog) L hP 100000 2 [1,2,1,0,1,0,42,0,16,0,42,0,42,0,16,0,42,0,16,0,19,0,19,0,19,0,19,0,19,0] D ?_
  refine good_holeT (n := nn) L (c := .call (.builtin "int.__ne__") ⟨[.int v.size v.st, .int x1 u1], []⟩) (pp := []) (by generalize o = x; generalize b1 = b; revert x b; exact kOB (by kernel_rfl)) trivial fun h1 t1 L1 D1 => ?_
  have D2 := D1.toF (tk := 0) (T := kt (PX b1 b2 q)) (F := G.F (PX b1 b2 q) ++ ((v.sizes, lstO #[.int x1 u1, .int x2 u2] yn) :: Fx)) (Z := z10 (PX b1 b2 q) B G τ 9 v o j) (B := Bt) (nx := nx + 2) [0,1,2,3,4] (by generalize o = x; generalize b1 = b; revert x b; exact kOB (by kernel_rfl)) (by generalize o = x; generalize b1 = b; revert x b; exact kOB (by kernel_rfl)) rfl
  refine c_ne ?_
  have e : (!(v.size == x1)) = false := by rw [he]; simp
  rw [e]
  refine back (V := VN7 (PX b1 b2 q) prog) L hP 100000 0 [] (tk := t1) D2 ?_
  refine good_done (r := .ok .next) (pp := []) (by generalize o = x; generalize b1 = b; revert x b; exact kOB (by kernel_rfl)) trivial fun h3 D3 => ?_
  exact H _ _ _ (D3.toF (tk := 0) (T := kt (PX b1 b2 q)) (F := G.F (PX b1 b2 q) ++ ((v.sizes, lstO #[.int x1 u1, .int x2 u2] yn) :: Fx)) (Z := z10 (PX b1 b2 q) B G τ 9 v o j) (B := Bt) (nx := nx + 2) [0,1,2,3,4] (by generalize o = x; generalize b1 = b; revert x b; exact kOB (by kernel_rfl)) (by generalize o = x; generalize b1 = b; revert x b; exact kOB (by kernel_rfl)) rfl)
theorem b7_3 {nn j yn : Nat} {x1 x2 x3 : Int} {u1 u2 u3 : Nat} (L : Deep (nn + 20) A) (hw : w.params = PX b1 b2 q) (he : v.size = x1) {Q : Flow → Shared → Prop} {E : Value → Shared → Prop}
    (D : Rep h₀ ⟨kt (PX b1 b2 q), G.F (PX b1 b2 q) ++ ((v.sizes, lstO #[.int x1 u1, .int x2 u2, .int x3 u3] yn) :: Fx), z10 (PX b1 b2 q) B G τ 9 v o j, Bt, nx, tk⟩ h)
    (H : ∀ h' tk' nx', Rep h₀ ⟨kt (PX b1 b2 q), G.F (PX b1 b2 q) ++ ((v.sizes, lstO #[.int x1 u1, .int x2 u2, .int x3 u3] yn) :: Fx), z10 (PX b1 b2 q) B G τ 9 v o j, Bt, nx', 0⟩ h' → Q .next ⟨h', g, d, tk', os⟩) :
    wpAny (model prog w) A (execs [bS 7] (lawEnv 110)) Q E ⟨h, g, d, tk, os⟩ := by
  have hP : (VN7 (PX b1 b2 q) prog).P = ⟨prog, w.params⟩ := by rw [hw]; rfl
  refine piece_block (V := VN7 (PX b1 b2 q) prog) L hP 100000 2 [1,2,1,0,1,0,42,0,16,0,42,0,42,0,16,0,42,0,16,0,19,0,19,0,19,0,19,0,19,0] D ?_
  refine good_holeT (n := nn) L (c := .call (.builtin "int.__ne__") ⟨[.int v.size v.st, .int x1 u1], []⟩) (pp := []) (by generalize o = x; generalize b1 = b; revert x b; exact kOB (by kernel_rfl)) trivial fun h1 t1 L1 D1 => ?_
  have D2 := D1.toF (tk := 0) (T := kt (PX b1 b2 q)) (F := G.F (PX b1 b2 q) ++ ((v.sizes, lstO #[.int x1 u1, .int x2 u2, .int x3 u3] yn) :: Fx)) (Z := z10 (PX b1 b2 q) B G τ 9 v o j) (B := Bt) (nx := nx + 2) [0,1,2,3,4] (by generalize o = x; generalize b1 = b; revert x b; exact kOB (by kernel_rfl)) (by generalize o = x; generalize b1 = b; revert x b; exact kOB (by kernel_rfl)) rfl
  refine c_ne ?_
  have e : (!(v.size == x1)) = false := by rw [he]; simp
  rw [e]
  refine back (V := VN7 (PX b1 b2 q) prog) L hP 100000 0 [] (tk := t1) D2 ?_
  refine good_done (r := .ok .next) (pp := []) (by generalize o = x; generalize b1 = b; revert x b; exact kOB (by kernel_rfl)) trivial fun h3 D3 => ?_
  exact H _ _ _ (D3.toF (tk := 0) (T := kt (PX b1 b2 q)) (F := G.F (PX b1 b2 q) ++ ((v.sizes, lstO #[.int x1 u1, .int x2 u2, .int x3 u3] yn) :: Fx)) (Z := z10 (PX b1 b2 q) B G τ 9 v o j) (B := Bt) (nx := nx + 2) [0,1,2,3,4] (by generalize o = x; generalize b1 = b; revert x b; exact kOB (by kernel_rfl)) (by generalize o = x; generalize b1 = b; revert x b; exact kOB (by kernel_rfl)) rfl)
theorem b7_4 {nn j yn : Nat} {x1 x2 x3 x4 : Int} {u1 u2 u3 u4 : Nat} (L : Deep (nn + 20) A) (hw : w.params = PX b1 b2 q) (he : v.size = x1) {Q : Flow → Shared → Prop} {E : Value → Shared → Prop}
    (D : Rep h₀ ⟨kt (PX b1 b2 q), G.F (PX b1 b2 q) ++ ((v.sizes, lstO #[.int x1 u1, .int x2 u2, .int x3 u3, .int x4 u4] yn) :: Fx), z10 (PX b1 b2 q) B G τ 9 v o j, Bt, nx, tk⟩ h)
    (H : ∀ h' tk' nx', Rep h₀ ⟨kt (PX b1 b2 q), G.F (PX b1 b2 q) ++ ((v.sizes, lstO #[.int x1 u1, .int x2 u2, .int x3 u3, .int x4 u4] yn) :: Fx), z10 (PX b1 b2 q) B G τ 9 v o j, Bt, nx', 0⟩ h' → Q .next ⟨h', g, d, tk', os⟩) :
    wpAny (model prog w) A (execs [bS 7] (lawEnv 110)) Q E ⟨h, g, d, tk, os⟩ := by
  have hP : (VN7 (PX b1 b2 q) prog).P = ⟨prog, w.params⟩ := by rw [hw]; rfl
  refine piece_block (V := VN7 (PX b1 b2 q) prog) L hP 100000 2 [1,2,1,0,1,0,42,0,16,0,42,0,42,0,16,0,42,0,16,0,19,0,19,0,19,0,19,0,19,0] D ?_
  refine good_holeT (n := nn) L (c := .call (.builtin "int.__ne__") ⟨[.int v.size v.st, .int x1 u1], []⟩) (pp := []) (by generalize o = x; generalize b1 = b; revert x b; exact kOB (by kernel_rfl)) trivial fun h1 t1 L1 D1 => ?_
  have D2 := D1.toF (tk := 0) (T := kt (PX b1 b2 q)) (F := G.F (PX b1 b2 q) ++ ((v.sizes, lstO #[.int x1 u1, .int x2 u2, .int x3 u3, .int x4 u4] yn) :: Fx)) (Z := z10 (PX b1 b2 q) B G τ 9 v o j) (B := Bt) (nx := nx + 2) [0,1,2,3,4] (by generalize o = x; generalize b1 = b; revert x b; exact kOB (by kernel_rfl)) (by generalize o = x; generalize b1 = b; revert x b; exact kOB (by kernel_rfl)) rfl
  refine c_ne ?_
  have e : (!(v.size == x1)) = false := by rw [he]; simp
  rw [e]
  refine back (V := VN7 (PX b1 b2 q) prog) L hP 100000 0 [] (tk := t1) D2 ?_
  refine good_done (r := .ok .next) (pp := []) (by generalize o = x; generalize b1 = b; revert x b; exact kOB (by kernel_rfl)) trivial fun h3 D3 => ?_
  exact H _ _ _ (D3.toF (tk := 0) (T := kt (PX b1 b2 q)) (F := G.F (PX b1 b2 q) ++ ((v.sizes, lstO #[.int x1 u1, .int x2 u2, .int x3 u3, .int x4 u4] yn) :: Fx)) (Z := z10 (PX b1 b2 q) B G τ 9 v o j) (B := Bt) (nx := nx + 2) [0,1,2,3,4] (by generalize o = x; generalize b1 = b; revert x b; exact kOB (by kernel_rfl)) (by generalize o = x; generalize b1 = b; revert x b; exact kOB (by kernel_rfl)) rfl)
theorem b10_7 {nn j yn : Nat} {ys : Array Value} (L : Deep (nn + 20) A) (hw : w.params = PX b1 b2 q) (hi : allI ys.toList = true) (hl : ys.size ≤ 4) (he : v.size = (intsOf ys.toList).headD 0) {Q : Flow → Shared → Prop} {E : Value → Shared → Prop}
    (D : Rep h₀ ⟨kt (PX b1 b2 q), G.F (PX b1 b2 q) ++ ((v.sizes, lstO ys yn) :: Fx), z10 (PX b1 b2 q) B G τ 9 v o j, Bt, nx, tk⟩ h)
    (H : ∀ h' tk' nx', Rep h₀ ⟨kt (PX b1 b2 q), G.F (PX b1 b2 q) ++ ((v.sizes, lstO ys yn) :: Fx), z10 (PX b1 b2 q) B G τ 9 v o j, Bt, nx', 0⟩ h' → Q .next ⟨h', g, d, tk', os⟩) :
    wpAny (model prog w) A (execs [bS 7] (lawEnv 110)) Q E ⟨h, g, d, tk, os⟩ := by
  rcases ints_cases hi hl with rfl | ⟨_, _, rfl⟩ | ⟨_, _, _, _, rfl⟩ | ⟨_, _, _, _, _, _, rfl⟩ | ⟨_, _, _, _, _, _, _, _, rfl⟩
  · exact b7_0 L hw he D H
  · exact b7_1 L hw he D H
  · exact b7_2 L hw he D H
  · exact b7_3 L hw he D H
  · exact b7_4 L hw he D H
end
end Mine
namespace Mine
open PySem PySem.W PySem.W.X PySem.Spec PySem.Calls PyProof.Rows
open PySem.W.Fast
structure Ok10 (prog : Program) (w : World) (b1 b2 : Bool) (q : Params) (nn : Nat) (G : G10) (Fx : Facts) (f : Fl) (mk : Nat → Nat → Int) (tm : Nat → Nat → Nat) (cm : Nat → Nat) (i : Nat) (y : Int) : Prop where
  one : ∀ k, I6 k → ∀ h, (∀ x ∈ G.F (PX b1 b2 q) ++ Fx, h.get? x.1 = some x.2) → Bs b1 b2 q w h → Asks prog w nn h (op6 k) (.ref (G.x (lr10 i).1)) (.ref (G.x (lr10 i).2)) (opB (op6 k) y)
  mine : ∀ k, I6 k → ∀ h, (∀ x ∈ G.F (PX b1 b2 q) ++ Fx, h.get? x.1 = some x.2) → Bs b1 b2 q w h → Asks prog w nn h (op6 k) (.ref (G.m (G.a (lr10 i).1))) (.ref (G.m (G.a (lr10 i).2))) (opB (op6 k) y)
  cmp : ∀ h, (∀ x ∈ G.F (PX b1 b2 q) ++ Fx, h.get? x.1 = some x.2) → Bs b1 b2 q w h → Cmps prog w 40 h G.FL (G.W.R (G.a (lr10 i).1)) (G.W.R (G.a (lr10 i).2)) (yF G.W f (G.a (lr10 i).1) (G.a (lr10 i).2))
  size : yF G.W f (G.a (lr10 i).1) (G.a (lr10 i).2) = (szL (mk (G.a (lr10 i).1)) (mk (G.a (lr10 i).2)) (sK G.K) 4).headD 0
  marks : ∀ k, k < 6 → (G.m k, l4 (mk k) (tm k) (cm k)) ∈ Fx
section
variable {prog : Program} {w : World} {A : Around} {R : Result → Shared → Prop} {h₀ h : Heap} {g : Array GenState} {d : Drawn} {tk : Nat} {os : OsState} {b1 b2 : Bool} {q : Params} {Fx Bt : Facts} {nx : Nat} {B : B10} {G : G10} {τ : Nat → Nat} {v : V10} {o : Option V10} {f : Fl} {mk : Nat → Nat → Int} {tm : Nat → Nat → Nat} {cm : Nat → Nat} {y : Int}
theorem s10body {nn i j : Nat} (L : Deep (nn + 60) A) (hw : w.params = PX b1 b2 q) (hi : I6 i) (hl : v.l = (lr10 i).1) (hr : v.r = (lr10 i).2) (ha : ∀ k, k < 6 → G.a k < 6)
    (O : Ok10 prog w b1 b2 q (nn + 60) G Fx f mk tm cm i y) {Q : Flow → Shared → Prop} {E : Value → Shared → Prop}
    (D : Rep h₀ ⟨kt (PX b1 b2 q), G.F (PX b1 b2 q) ++ Fx, z10 (PX b1 b2 q) B G τ 2 v o j, Bt, nx, tk⟩ h)
    (H : ∀ h' tk' nx' τ' v', Rep h₀ ⟨kt (PX b1 b2 q), G.F (PX b1 b2 q) ++ Fx, z10 (PX b1 b2 q) B G τ' 0 v' (some v') j, Bt, nx', 0⟩ h' → Q .next ⟨h', g, d, tk', os⟩) :
    wpAny (model prog w) A (execs (forB s10) (lawEnv 110)) Q E ⟨h, g, d, tk, os⟩ := by
  show wpAny _ _ (execs [bS 0, bS 1, bS 2, bS 3, bS 4, bS 5, bS 6, bS 7] _) _ _ _
  have sub : ∀ {F2 : Facts} {h : Heap}, (∀ x ∈ G.F (PX b1 b2 q) ++ Fx, x ∈ F2) → (∀ x ∈ F2, h.get? x.1 = some x.2) → ∀ x ∈ G.F (PX b1 b2 q) ++ Fx, h.get? x.1 = some x.2 := fun s H x hx => H x (s x hx)
  have ins : ∀ (l l2 : Facts) x, x ∈ G.F (PX b1 b2 q) ++ Fx → x ∈ G.F (PX b1 b2 q) ++ (l ++ Fx) := fun l l2 x hx => by
    rcases List.mem_append.mp hx with hx | hx
    · exact List.mem_append_left _ hx
    · exact List.mem_append_right _ (List.mem_append_right _ hx)
  have h6 := six_y y
  refine execs_split (b10_0 L hw hi hl hr D fun h0 t0 n0 τ0 D0 => ?_)
  refine execs_split (b10_1 (nn := nn + 40) L hw hi (v := { v with other := G.x (lr10 i).2, one := G.x (lr10 i).1 }) hl hr ha (Rep.tok D0 t0) fun h1 t1 n1 τ1 D1 => ?_)
  refine execs_split (b10_2 (p := fun k => opB (op6 k) y) L hw (fun k hk h hF hB => O.one k hk h hF hB) (Rep.tok D1 t1) fun h2 t2 n2 τ2 T D2 => ?_)
  refine execs_split (b10_3 (v := { v with other := G.x (lr10 i).2, one := G.x (lr10 i).1, its := G.m (G.a (lr10 i).2), mine := G.m (G.a (lr10 i).1), told := T }) (p := fun k => opB (op6 k) y) L hw h6 (fun k hk h hF hB => O.mine k hk h (sub (ins [_] []) hF) hB) (Rep.tok D2 t2) fun h3 t3 n3 D3 => ?_)
  refine execs_split (b10_4 (v := { v with other := G.x (lr10 i).2, one := G.x (lr10 i).1, its := G.m (G.a (lr10 i).2), mine := G.m (G.a (lr10 i).1), told := T }) (p := fun k => opB (op6 k) y) L hw h6 (Rep.tok D3 t3) fun h4 t4 n4 D4 => ?_)
  have al := ha _ (lr_lt hi).1
  have ar := ha _ (lr_lt hi).2
  have D4' := (Rep.tok D4 t4).perm (F := G.F (PX b1 b2 q) ++ ((G.m (G.a (lr10 i).1), l4 (mk (G.a (lr10 i).1)) (tm (G.a (lr10 i).1)) (cm (G.a (lr10 i).1))) :: (G.m (G.a (lr10 i).2), l4 (mk (G.a (lr10 i).2)) (tm (G.a (lr10 i).2)) (cm (G.a (lr10 i).2))) :: Fx)) (fun x hx => by
    rcases List.mem_append.mp hx with hx | hx
    · exact List.mem_append_left _ hx
    · refine List.mem_append_right _ (.tail _ ?_)
      rcases List.mem_cons.mp hx with rfl | hx
      · exact O.marks _ al
      · rcases List.mem_cons.mp hx with rfl | hx
        · exact O.marks _ ar
        · exact hx)
  refine execs_split (b10_5 (v := { v with other := G.x (lr10 i).2, one := G.x (lr10 i).1, its := G.m (G.a (lr10 i).2), mine := G.m (G.a (lr10 i).1), told := T }) (nn := nn + 20) L hw D4' fun h5 t5 n5 τ5 Z ys yn hy hyi D5 => ?_)
  have hC := O.cmp
  refine execs_split (b10_6 (nn := nn) (f := f) L hw hi (by exact hl) (by exact hr) ha (fun h hF hB => hC h (sub (ins [_, _, _] []) hF) hB) (Rep.tok D5 t5) fun h6 t6 n6 τ6 s9 D6 => ?_)
  have hz : ys.size ≤ 4 := by
    have h1 := congrArg List.length hy
    have h2 := szL_len (mk (G.a (lr10 i).1)) (mk (G.a (lr10 i).2)) (sK G.K) 4
    simp only [intsOf, List.length_map, Array.length_toList] at h1
    omega
  refine execs_split (b10_7 (v := { v with other := G.x (lr10 i).2, one := G.x (lr10 i).1, its := G.m (G.a (lr10 i).2), mine := G.m (G.a (lr10 i).1), told := T, sizes := Z, size := yF G.W f (G.a (lr10 i).1) (G.a (lr10 i).2), st := s9 }) (nn := nn + 40) L hw hyi hz (by show yF _ _ _ _ = _; rw [hy]; exact O.size) (Rep.tok D6 t6) fun h7 t7 n7 D7 => ?_)
  have D8 := Rep.perm D7 (F := G.F (PX b1 b2 q) ++ Fx) (ins [_, _, _] [])
  refine wpAny_pure (H h7 t7 n7 τ6 { v with other := G.x (lr10 i).2, one := G.x (lr10 i).1, its := G.m (G.a (lr10 i).2), mine := G.m (G.a (lr10 i).1), told := T, sizes := Z, size := yF G.W f (G.a (lr10 i).1) (G.a (lr10 i).2), st := s9 } ?_)
  cases o <;> exact D8
end
end Mine
namespace Mine
open PySem PySem.W PySem.W.X PySem.Spec PySem.Calls PyProof.Rows
open PySem.W.Fast
noncomputable def G10.set (G : G10) (n : Nat) (u : Nat → Nat) : G10 := { G with PL := n + 6, E0 := n, E1 := n + 1, E2 := n + 2, E3 := n + 3, E4 := n + 4, E5 := n + 5, u := u }
noncomputable def v0 : V10 := ⟨0, 0, 0, 0, 0, 0, 0, 0, 0, 0, 0, 0⟩
section
variable {prog : Program} {w : World} {A : Around} {R : Result → Shared → Prop} {h₀ h : Heap} {g : Array GenState} {d : Drawn} {tk : Nat} {os : OsState} {b1 b2 : Bool} {q : Params} {Fx Bt : Facts} {nx : Nat} {B : B10} {G : G10} {τ : Nat → Nat} {v : V10} {o : Option V10} {f : Fl} {mk : Nat → Nat → Int} {tm : Nat → Nat → Nat} {cm : Nat → Nat}
theorem s10turn {nn i : Nat} (L : Deep (nn + 60) (A.under (.forLoop (forT s10) (.ref B.IT) (forB s10) (forE s10) (lawEnv 110)))) (hw : w.params = PX b1 b2 q) (hi : I6 i) (ha : ∀ k, k < 6 → G.a k < 6) {y : Int}
    (O : Ok10 prog w b1 b2 q (nn + 60) G Fx f mk tm cm i y)
    (D : Rep h₀ ⟨kt (PX b1 b2 q), G.F (PX b1 b2 q) ++ Fx, z10 (PX b1 b2 q) B G τ 0 v o i, Bt, nx, tk⟩ h)
    (H : ∀ h' tk' nx' τ' v', Rep h₀ ⟨kt (PX b1 b2 q), G.F (PX b1 b2 q) ++ Fx, z10 (PX b1 b2 q) B G τ' 0 v' (some v') (i + 1), Bt, nx', tk'⟩ h' → codeAny (model prog w) A (.forLoop (forT s10) (.ref B.IT) (forB s10) (forE s10) (lawEnv 110)) R ⟨h', g, d, tk', os⟩) :
    codeAny (model prog w) A (.forLoop (forT s10) (.ref B.IT) (forB s10) (forE s10) (lawEnv 110)) R ⟨h, g, d, tk, os⟩ := by
  refine for_turn1 ?_
  refine t10pre L hw hi D fun h1 t1 n1 τ1 D1 => ?_
  refine s10body L hw hi rfl rfl ha O (Rep.tok D1 t1) fun h2 t2 n2 τ2 v2 D2 => ?_
  exact H _ _ _ _ _ (Rep.tok D2 t2)
theorem law_s10 {nn : Nat} {x10 : Stmt} (hx10 : x10 = s10) (L : Deep (nn + 90) A) (hw : w.params = PX b1 b2 q) (ha : ∀ k, k < 6 → G.a k < 6) {Fw : Facts} (hG : ∀ x ∈ (G.F (PX b1 b2 q)).drop 7, x ∈ Fw)
    (O : ∀ n u i, I6 i → ∃ y, Ok10 prog w b1 b2 q (nn + 60) (G.set n u) Fw f mk tm cm i y) {Q : Flow → Shared → Prop} {E : Value → Shared → Prop}
    (D : Rep h₀ ⟨kt (PX b1 b2 q), Fw, (z10 (PX b1 b2 q) B G τ 0 v0 none 0).take 4, Bt, nx, tk⟩ h)
    (H : ∀ h' tk' nx' v' τ', Rep h₀ ⟨kt (PX b1 b2 q), Fw, (z10 (PX b1 b2 q) B G τ' 0 v' (some v') 6).take 4, Bt, nx', 0⟩ h' → Q .next ⟨h', g, d, tk', os⟩) :
    wpAny (model prog w) A (execs [x10] (lawEnv 110)) Q E ⟨h, g, d, tk, os⟩ := by
  have hP : (VW1 (PX b1 b2 q) prog).P = ⟨prog, w.params⟩ := by rw [hw]; rfl
  refine piece_block (V := VW1 (PX b1 b2 q) prog) L hP 100000 0 (hz [31,31,31,34]) D ?_
  refine good_holeT (n := nn + 62) (L.less (by omega)) (c := .forLoop (forT s10) (.ref (nx + 7)) (forB s10) (forE s10) (lawEnv 110)) (pp := []) (by subst hx10; generalize b1 = b; generalize b2 = c; revert b c; exact kBB (by kernel_rfl)) trivial fun h1 t1 L1 D1 => ?_
  have D2 := D1.toXe (tk := t1) (F0 := []) (Fx := Fw) (T := kt (PX b1 b2 q)) (F := ((G.set nx (tk + ·)).F (PX b1 b2 q)).take 7) (Z := z10 (PX b1 b2 q) { B with IT := nx + 7 } (G.set nx (tk + ·)) τ 0 v0 none 0) (B := Bt) (nx := nx + 8) [31,13,16,19,22,25,28] [0,1,2,3,11] (by subst hx10; generalize b1 = b; generalize b2 = c; revert b c; exact kBB (by kernel_rfl)) (by subst hx10; generalize b1 = b; generalize b2 = c; revert b c; exact kBB (by kernel_rfl)) rfl
  have D3 := D2.perm (F := (G.set nx (tk + ·)).F (PX b1 b2 q) ++ Fw) (fun x hx => by
    rcases List.mem_append.mp hx with hx | hx
    · rw [← List.take_append_drop 7 ((G.set nx (tk + ·)).F (PX b1 b2 q))] at hx
      rcases List.mem_append.mp hx with hx | hx
      · exact List.mem_append_left _ hx
      · exact List.mem_append_right _ (hG x hx)
    · exact List.mem_append_right _ hx)
  have L2 : Deep (nn + 60) ((ar A _).under (.forLoop (forT s10) (.ref (nx + 7)) (forB s10) (forE s10) (lawEnv 110))) := Deep.under (n := nn + 60) (k := 1) L1 rfl
  have O' := O nx (tk + ·)
  obtain ⟨y0, O0⟩ := O' 0 (.inl rfl)
  obtain ⟨y1, O1⟩ := O' 1 (.inr (.inl rfl))
  obtain ⟨y2, O2⟩ := O' 2 (.inr (.inr (.inl rfl)))
  obtain ⟨y3, O3⟩ := O' 3 (.inr (.inr (.inr (.inl rfl))))
  obtain ⟨y4, O4⟩ := O' 4 (.inr (.inr (.inr (.inr (.inl rfl)))))
  obtain ⟨y5, O5⟩ := O' 5 (.inr (.inr (.inr (.inr (.inr rfl)))))
  refine s10turn (G := G.set nx (tk + ·)) (B := { B with IT := nx + 7 }) L2 hw (.inl rfl) ha O0 D3 fun h2 t2 n2 τ2 v2 D4 => ?_
  refine s10turn (G := G.set nx (tk + ·)) (B := { B with IT := nx + 7 }) L2 hw (.inr (.inl rfl)) ha O1 D4 fun h3 t3 n3 τ3 v3 D5 => ?_
  refine s10turn (G := G.set nx (tk + ·)) (B := { B with IT := nx + 7 }) L2 hw (.inr (.inr (.inl rfl))) ha O2 D5 fun h4 t4 n4 τ4 v4 D6 => ?_
  refine s10turn (G := G.set nx (tk + ·)) (B := { B with IT := nx + 7 }) L2 hw (.inr (.inr (.inr (.inl rfl)))) ha O3 D6 fun h5 t5 n5 τ5 v5 D7 => ?_
  refine s10turn (G := G.set nx (tk + ·)) (B := { B with IT := nx + 7 }) L2 hw (.inr (.inr (.inr (.inr (.inl rfl))))) ha O4 D7 fun h6 t6 n6 τ6 v6 D8 => ?_
  refine s10turn (G := G.set nx (tk + ·)) (B := { B with IT := nx + 7 }) L2 hw (.inr (.inr (.inr (.inr (.inr rfl))))) ha O5 D8 fun h7 t7 n7 τ7 v7 D9 => ?_
  refine for_turn1 ?_
  refine t10end (G := G.set nx (tk + ·)) (B := { B with IT := nx + 7 }) L2 hw D9 fun h8 t8 D10 => ?_
  refine codeAny_block ?_
  show wpAny _ _ (execs [] _) _ _ _
  refine wpAny_pure ?_
  have D11 := Rep.perm D10 (F := Fw) (fun x hx => List.mem_append_right _ hx)
  refine back (V := VW1 (PX b1 b2 q) prog) L hP 100000 0 [] (tk := t8) D11 ?_
  refine good_done (r := .ok .next) (pp := []) (by subst hx10; generalize b1 = b; generalize b2 = c; revert b c; exact kBB (by kernel_rfl)) trivial fun h9 D12 => ?_
  exact H _ _ _ v7 τ7 (D12.toF (tk := 0) (T := kt (PX b1 b2 q)) (F := Fw) (Z := (z10 (PX b1 b2 q) B G τ7 0 v7 (some v7) 6).take 4) (B := Bt) (nx := n7 + 2) [0,1,2,3] (by subst hx10; generalize b1 = b; generalize b2 = c; revert b c; exact kBB (by kernel_rfl)) (by subst hx10; generalize b1 = b; generalize b2 = c; revert b c; exact kBB (by kernel_rfl)) rfl)
theorem law_s11 {nn : Nat} (L : Deep nn A) (hw : w.params = PX b1 b2 q) {m : Mm} (hT : m.T = kt (PX b1 b2 q)) {Q : Flow → Shared → Prop} {E : Value → Shared → Prop} (D : Rep h₀ m h) (H : ∀ h' tk', OldK h₀ h' → Q (.ret (.bool true)) ⟨h', g, d, tk', os⟩) :
    wpAny (model prog w) A (execs [lawS 11] (lawEnv 110)) Q E ⟨h, g, d, tk, os⟩ := by
  have hP : (V0 (PX b1 b2 q) prog).P = ⟨prog, w.params⟩ := by rw [hw]; rfl
  refine piece_block (V := V0 (PX b1 b2 q) prog) L hP 100000 0 [] D ?_
  exact good_done (r := .ok (.ret (.bool true))) (pp := []) (by generalize b1 = b; revert b; exact kB (by kernel_rfl)) trivial fun h1 D1 => H _ _ D1.old
end
end Mine
namespace Mine
open PySem PySem.W PySem.W.X PySem.Spec PySem.Calls PyProof.Rows
theorem ltC_cases (c : Nat) (P : (RowD → RowD → Bool) → Prop) (h0 : P fun x y => decide (x.b < y.b)) (h1 : P fun x y => decide (x.w.cps.toList < y.w.cps.toList)) (h2 : P fun x y => lexI .Lt [x.p, x.q] [y.p, y.q]) : P (ltC c) := by
  rcases c with _ | _ | c
  · exact h0
  · exact h1
  · exact h2
theorem lex2 (a b c d : Int) : lexI .Lt [a, b] [c, d] = decide (a < c ∨ (a = c ∧ b < d)) := by
  simp only [lexI, cmpI]
  by_cases h : a = c
  · subst h
    by_cases h2 : b = d
    · subst h2; simp
    · simp [h2]
  · simp [h]
theorem ltC_irr (c : Nat) (x : RowD) : ltC c x x = false := ltC_cases c (fun f => f x x = false) (by simp) (by simp) (by simp [lex2])
theorem lex_tr {a b c d e f : Int} : (a < c ∨ (a = c ∧ b < d)) → (c < e ∨ (c = e ∧ d < f)) → (a < e ∨ (a = e ∧ b < f))
  | .inl h, .inl k => .inl (Int.lt_trans h k)
  | .inl h, .inr k => .inl (k.1 ▸ h)
  | .inr h, .inl k => .inl (h.1 ▸ k)
  | .inr h, .inr k => .inr ⟨h.1.trans k.1, Int.lt_trans h.2 k.2⟩
theorem lex_to {a b c d : Int} (h : ¬ (a < c ∨ (a = c ∧ b < d))) : (c < a ∨ (c = a ∧ d < b)) ∨ (c = a ∧ d = b) :=
  (Int.lt_trichotomy a c).elim (fun k => absurd (.inl k) h) fun k => k.elim (fun e => (Int.lt_trichotomy b d).elim (fun k => absurd (.inr ⟨e, k⟩) h) fun k => k.elim (fun k => .inr ⟨e.symm, k.symm⟩) fun k => .inl (.inr ⟨e.symm, k⟩)) fun k => .inl (.inl k)
theorem ltC_trans (c : Nat) (x y z : RowD) : ltC c x y = true → ltC c y z = true → ltC c x z = true :=
  ltC_cases c (fun f => f x y = true → f y z = true → f x z = true) (by simp only [decide_eq_true_eq]; exact Int.lt_trans) (by simp only [decide_eq_true_eq]; exact fun a b => List.lt_trans a b) (by simp only [lex2, decide_eq_true_eq]; exact lex_tr)
theorem ltC_neg (c : Nat) (x y z : RowD) : ltC c x y = false → ltC c y z = false → ltC c x z = false :=
  ltC_cases c (fun f => f x y = false → f y z = false → f x z = false) (by simp only [decide_eq_false_iff_not, Int.not_lt]; exact fun h k => Int.le_trans k h) (by
    simp only [decide_eq_false_iff_not]
    intro h h2
    rw [List.not_lt] at *
    exact List.le_trans h2 h) (by
    simp only [lex2, decide_eq_false_iff_not]
    intro h k e
    rcases lex_to h with t | t
    · exact k (lex_tr t e)
    · rw [t.1, t.2] at k
      exact k e)
theorem cnt_le (c : Nat) (W : Rows) (x y : RowD) (H : ∀ z, ltC c z x = true → ltC c z y = true) : ∀ n, cntC c W x n ≤ cntC c W y n
  | 0 => Nat.le_refl _
  | n + 1 => by
    have ih := cnt_le c W x y H n
    show cntC c W x n + _ ≤ cntC c W y n + _
    by_cases h : ltC c (W.r n) x = true
    · rw [if_pos h, if_pos (H _ h)]; omega
    · rw [if_neg h]; omega
theorem cnt_lt (c : Nat) (W : Rows) (x y : RowD) (H : ∀ z, ltC c z x = true → ltC c z y = true) {k : Nat} (h1 : ltC c (W.r k) x = false) (h2 : ltC c (W.r k) y = true) : ∀ n, k < n → cntC c W x n < cntC c W y n
  | 0, h => absurd h (Nat.not_lt_zero _)
  | n + 1, h => by
    show cntC c W x n + _ < cntC c W y n + _
    by_cases e : k = n
    · subst e
      rw [h1, if_neg (by decide), if_pos h2]
      have := cnt_le c W x y H k
      omega
    · have := cnt_lt c W x y H h1 h2 n (by omega)
      by_cases h : ltC c (W.r n) x = true
      · rw [if_pos h, if_pos (H _ h)]; omega
      · rw [if_neg h]; omega
theorem cnt_iff (c : Nat) (W : Rows) {i i' : Nat} (hi : i < 6) : ltC c (W.r i) (W.r i') = decide (cntC c W (W.r i) 6 < cntC c W (W.r i') 6) := by
  cases h : ltC c (W.r i) (W.r i') with
  | true =>
    have := cnt_lt c W (W.r i) (W.r i') (fun z hz => ltC_trans c _ _ _ hz h) (ltC_irr c _) h 6 hi
    simp [this]
  | false =>
    have := cnt_le c W (W.r i') (W.r i) (fun z hz => by
      cases hz' : ltC c z (W.r i) with
      | true => rfl
      | false => rw [ltC_neg c _ _ _ hz' h] at hz; cases hz) 6
    simp; omega
noncomputable def yc (s : Int) (n n' : Nat) (r : Int) : Int := if n = n' then r else if n < n' then -s else s
theorem cmp1_yc (n n' : Nat) (s r : Int) : cmp1 (decide (n < n')) (decide (n' < n)) s r = yc s n n' r := by
  unfold cmp1 yc
  by_cases h : n < n'
  · simp [h, Nat.ne_of_lt h]
  · by_cases h2 : n' < n
    · simp [h, h2, Nat.ne_of_gt h2]
    · have : n = n' := by omega
      simp [this]
theorem mul_signs {s : Int} (hs : s ≠ 0) (n n' : Nat) : (n < n' → (s < 0 ∧ s * n' < s * n) ∨ (0 < s ∧ s * n < s * n')) := fun h => by
  have h' : (n : Int) < n' := by omega
  rcases Int.lt_or_gt_of_ne hs with h0 | h0
  · exact .inl ⟨h0, Int.mul_lt_mul_of_neg_left h' h0⟩
  · exact .inr ⟨h0, Int.mul_lt_mul_of_pos_left h' h0⟩
noncomputable def O6 (op : CmpOp) : Prop := op = .Lt ∨ op = .LtE ∨ op = .Eq ∨ op = .NotEq ∨ op = .Gt ∨ op = .GtE
theorem o6 {op : CmpOp} {M : CmpOp → Prop} (a : M .Lt) (b : M .LtE) (c : M .Eq) (d : M .NotEq) (e : M .Gt) (f : M .GtE) : O6 op → M op
  | .inl h => h ▸ a
  | .inr (.inl h) => h ▸ b
  | .inr (.inr (.inl h)) => h ▸ c
  | .inr (.inr (.inr (.inl h))) => h ▸ d
  | .inr (.inr (.inr (.inr (.inl h)))) => h ▸ e
  | .inr (.inr (.inr (.inr (.inr h)))) => h ▸ f
theorem o6_op {k : Nat} : I6 k → O6 (op6 k)
  | .inl h => h ▸ .inl rfl
  | .inr (.inl h) => h ▸ .inr (.inl rfl)
  | .inr (.inr (.inl h)) => h ▸ .inr (.inr (.inl rfl))
  | .inr (.inr (.inr (.inl h))) => h ▸ .inr (.inr (.inr (.inl rfl)))
  | .inr (.inr (.inr (.inr (.inl h)))) => h ▸ .inr (.inr (.inr (.inr (.inl rfl))))
  | .inr (.inr (.inr (.inr (.inr h)))) => h ▸ .inr (.inr (.inr (.inr (.inr rfl))))
theorem eq_nn (x y : Int) : x = y ↔ ¬ x < y ∧ ¬ y < x := by omega
theorem cmpI_same {op : CmpOp} (ho : O6 op) {x y u v : Int} (h1 : x < y ↔ u < v) (h2 : y < x ↔ v < u) : cmpI op x y = cmpI op u v := by
  have le : ∀ {x y u v : Int}, (y < x ↔ v < u) → (x ≤ y ↔ u ≤ v) := fun h => Int.not_lt.symm.trans ((not_congr h).trans Int.not_lt)
  have e : x = y ↔ u = v := (eq_nn x y).trans ((and_congr (not_congr h1) (not_congr h2)).trans (eq_nn u v).symm)
  exact o6 (M := fun op => cmpI op x y = cmpI op u v) (decide_eq_decide.mpr h1) (decide_eq_decide.mpr (le h2)) (decide_eq_decide.mpr e) (decide_eq_decide.mpr (not_congr e)) (decide_eq_decide.mpr h2) (decide_eq_decide.mpr (le h1)) ho
theorem opB_cmpI {op : CmpOp} (ho : O6 op) (y : Int) : opB op y = cmpI op y 0 :=
  o6 (M := fun op => opB op y = cmpI op y 0) rfl rfl rfl (by show (!(decide (y = 0))) = decide (¬ y = 0); rw [decide_not]) rfl rfl ho
theorem opB_sign {op : CmpOp} (ho : O6 op) {y z : Int} (h1 : y < 0 ↔ z < 0) (h2 : y > 0 ↔ z > 0) : opB op y = opB op z :=
  (opB_cmpI ho y).trans ((cmpI_same ho h1 h2).trans (opB_cmpI ho z).symm)
theorem cmpI_sign {op : CmpOp} (ho : O6 op) {u v y : Int} (h1 : y < 0 ↔ u < v) (h2 : y > 0 ↔ v < u) : cmpI op u v = opB op y :=
  (cmpI_same ho h1.symm h2.symm).trans (opB_cmpI ho y).symm
theorem nl {a b : Int} (h : a < b) : ¬ b < a := Int.not_lt.mpr (Int.le_of_lt h)
theorem sg_p {s x y : Int} : (s < 0 ∧ x < y) ∨ (0 < s ∧ y < x) → (s < 0 ↔ x < y) ∧ (s > 0 ↔ y < x)
  | .inl h => ⟨⟨fun _ => h.2, fun _ => h.1⟩, ⟨fun k => absurd k (nl h.1), fun k => absurd k (nl h.2)⟩⟩
  | .inr h => ⟨⟨fun k => absurd k (nl h.1), fun k => absurd k (nl h.2)⟩, ⟨fun _ => h.2, fun _ => h.1⟩⟩
theorem sg_n {s x y : Int} (h : (s < 0 ∧ y < x) ∨ (0 < s ∧ x < y)) : (-s < 0 ↔ x < y) ∧ (-s > 0 ↔ y < x) :=
  sg_p (h.elim (fun h => .inr ⟨Int.neg_pos_of_neg h.1, h.2⟩) fun h => .inl ⟨Int.neg_neg_of_pos h.1, h.2⟩)
theorem lex_step {op : CmpOp} (ho : O6 op) {s : Int} (hs : s ≠ 0) (n n' : Nat) {l l' : List Int} {r : Int} (ih : lexI op l l' = opB op r) : lexI op (s * n :: l) (s * n' :: l') = opB op (yc s n n' r) := by
  by_cases e : n = n'
  · subst e
    exact (if_pos rfl).trans (ih.trans (congrArg (opB op) (if_pos rfl).symm))
  · have ne : ¬ s * (n : Int) = s * n' := fun h => e (Int.ofNat.inj (Int.eq_of_mul_eq_mul_left hs h))
    refine (if_neg ne).trans (.trans ?_ (congrArg (opB op) (if_neg e).symm))
    rcases Nat.lt_or_gt_of_ne e with h | h
    · rw [if_pos h]
      exact cmpI_sign ho (sg_n (mul_signs hs n n' h)).1 (sg_n (mul_signs hs n n' h)).2
    · rw [if_neg (Nat.not_lt.mpr (Nat.le_of_lt h))]
      exact cmpI_sign ho (sg_p (mul_signs hs n' n h)).1 (sg_p (mul_signs hs n' n h)).2
theorem lex_nil {op : CmpOp} (ho : O6 op) : lexI op [] [] = opB op 0 := (opB_cmpI ho 0).symm
noncomputable def cK (K : Keys) : Nat → Nat
  | 0 => K.c0
  | 1 => K.c1
  | 2 => K.c2
  | _ => K.c3
noncomputable def Keys.fl (K : Keys) : Fl := ⟨K.c0, K.c1, K.c2, K.c3, K.s0, K.s1, K.s2, K.s3⟩
noncomputable def Keys.Nz (K : Keys) : Prop := K.s0 ≠ 0 ∧ K.s1 ≠ 0 ∧ K.s2 ≠ 0 ∧ K.s3 ≠ 0
section
variable {W : Rows} {K : Keys} {i i' : Nat}
theorem yF_eq (hi : i < 6) (hi' : i' < 6) : yF W K.fl i i' = yc K.s0 (cntC K.c0 W (W.r i) 6) (cntC K.c0 W (W.r i') 6) (yc K.s1 (cntC K.c1 W (W.r i) 6) (cntC K.c1 W (W.r i') 6) (yc K.s2 (cntC K.c2 W (W.r i) 6) (cntC K.c2 W (W.r i') 6) (yc K.s3 (cntC K.c3 W (W.r i) 6) (cntC K.c3 W (W.r i') 6) 0))) := by
  unfold yF Keys.fl
  simp only [cnt_iff _ W hi, cnt_iff _ W hi', cmp1_yc]
theorem marks_lex (hN : K.Nz) (hi : i < 6) (hi' : i' < 6) {op : CmpOp} (ho : O6 op) : lexI op (mkL W K i) (mkL W K i') = opB op (yF W K.fl i i') := by
  rw [yF_eq hi hi']
  exact lex_step ho hN.1 _ _ (lex_step ho hN.2.1 _ _ (lex_step ho hN.2.2.1 _ _ (lex_step ho hN.2.2.2 _ _ (lex_nil ho))))
theorem flat_lt (hN : K.Nz) (hi : i < 6) (hi' : i' < 6) : decide (yF W K.fl i i' < 0) = mkLt W K i i' := (marks_lex hN hi hi' (op := .Lt) (.inl rfl)).symm
theorem abs_n {s x y : Int} : (s < 0 ∧ y < x) ∨ (0 < s ∧ x < y) → (if y < x then absI s else -absI s) = -s
  | .inl h => (if_pos h.2).trans (if_pos h.1)
  | .inr h => (if_neg (Int.not_lt.mpr (Int.le_of_lt h.2))).trans (congrArg (- ·) (if_neg (Int.not_lt.mpr (Int.le_of_lt h.1))))
theorem abs_p {s x y : Int} : (s < 0 ∧ x < y) ∨ (0 < s ∧ y < x) → (if y < x then absI s else -absI s) = s
  | .inl h => (if_neg (Int.not_lt.mpr (Int.le_of_lt h.2))).trans ((congrArg (- ·) (if_pos h.1)).trans (Int.neg_neg s))
  | .inr h => (if_pos h.2).trans (if_neg (Int.not_lt.mpr (Int.le_of_lt h.1)))
theorem sz_step {s : Int} (hs : s ≠ 0) (n n' : Nat) (l : List Int) : szT (s * n) (s * n') s l = if n = n' then l else l ++ [if n < n' then -s else s] := by
  by_cases e : n = n'
  · subst e
    exact (if_pos rfl).trans (if_pos rfl).symm
  · have ne : ¬ s * (n : Int) = s * n' := fun h => e (Int.ofNat.inj (Int.eq_of_mul_eq_mul_left hs h))
    refine (if_neg ne).trans ((congrArg (fun x => l ++ [x]) ?_).trans (if_neg e).symm)
    rcases Nat.lt_or_gt_of_ne e with h | h
    · exact (abs_n (mul_signs hs n n' h)).trans (if_pos h).symm
    · exact (abs_p (mul_signs hs n' n h)).trans (if_neg (Nat.not_lt.mpr (Nat.le_of_lt h))).symm
theorem headD_step {c : Prop} [Decidable c] (l : List Int) (x r : Int) : (if c then l else l ++ [x]).headD r = l.headD (if c then r else x) := by
  split <;> cases l <;> rfl
noncomputable def mkR (W : Rows) (K : Keys) (i : Nat) (j : Nat) : Int := sK K j * (cntC (cK K j) W (W.r i) 6 : Nat)
theorem sizes_head (hN : K.Nz) (hi : i < 6) (hi' : i' < 6) : yF W K.fl i i' = (szL (mkR W K i) (mkR W K i') (sK K) 4).headD 0 := by
  rw [yF_eq hi hi']
  have e : szL (mkR W K i) (mkR W K i') (sK K) 4 = szT (K.s3 * (cntC K.c3 W (W.r i) 6 : Nat)) (K.s3 * (cntC K.c3 W (W.r i') 6 : Nat)) K.s3 (szT (K.s2 * (cntC K.c2 W (W.r i) 6 : Nat)) (K.s2 * (cntC K.c2 W (W.r i') 6 : Nat)) K.s2 (szT (K.s1 * (cntC K.c1 W (W.r i) 6 : Nat)) (K.s1 * (cntC K.c1 W (W.r i') 6 : Nat)) K.s1 (szT (K.s0 * (cntC K.c0 W (W.r i) 6 : Nat)) (K.s0 * (cntC K.c0 W (W.r i') 6 : Nat)) K.s0 []))) := rfl
  rw [e, sz_step hN.2.2.2, headD_step, sz_step hN.2.2.1, headD_step, sz_step hN.2.1, headD_step, sz_step hN.1, headD_step]
  rfl
noncomputable def yL (W : Rows) (i i' : Nat) : List (Nat × Int) → Int
  | [] => 0
  | p :: l => cmp1 (ltC p.1 (W.r i) (W.r i')) (ltC p.1 (W.r i') (W.r i)) p.2 (yL W i i' l)
noncomputable def scl (a : Int) (l : List (Nat × Int)) : List (Nat × Int) := l.map fun p => (p.1, p.2 * a)
noncomputable def flT : Tr → List (Nat × Int)
  | .leaf c => [(c, 1)]
  | .node _ a b l r => scl a (flT l) ++ scl b (flT r)
noncomputable def NzT : Tr → Prop
  | .leaf _ => True
  | .node _ a b l r => a ≠ 0 ∧ b ≠ 0 ∧ NzT l ∧ NzT r
theorem yL_scl (a : Int) : ∀ l, yL W i i' (scl a l) = yL W i i' l * a
  | [] => by simp [scl, yL]
  | p :: l => by
    have ih := yL_scl a l
    show cmp1 _ _ (p.2 * a) (yL W i i' (scl a l)) = cmp1 _ _ p.2 (yL W i i' l) * a
    rw [ih]
    unfold cmp1
    split
    · rw [Int.neg_mul]
    · split <;> rfl
theorem yL_app : ∀ l l2, (∀ p ∈ l, p.2 ≠ 0) → yL W i i' (l ++ l2) = if yL W i i' l = 0 then yL W i i' l2 else yL W i i' l
  | [], l2, _ => by simp [yL]
  | p :: l, l2, h => by
    have ih := yL_app l l2 fun p hp => h p (.tail _ hp)
    have hp := h p (.head _)
    show cmp1 _ _ p.2 (yL W i i' (l ++ l2)) = if cmp1 _ _ p.2 (yL W i i' l) = 0 then _ else cmp1 _ _ p.2 (yL W i i' l)
    rw [ih]
    unfold cmp1
    split
    · rw [if_neg (by omega)]
    · split
      · simp [hp]
      · rfl
theorem flT_nz : ∀ {t : Tr}, NzT t → ∀ p ∈ flT t, p.2 ≠ 0
  | .leaf _, _, p, hp => by
    rcases List.mem_singleton.mp hp with rfl
    exact (by decide : (1 : Int) ≠ 0)
  | .node _ a b l r, ⟨ha, hb, hl, hr⟩, p, hp => by
    rcases List.mem_append.mp hp with hp | hp
    · obtain ⟨x, hx, rfl⟩ := List.mem_map.mp hp
      exact Int.mul_ne_zero (flT_nz hl x hx) ha
    · obtain ⟨x, hx, rfl⟩ := List.mem_map.mp hp
      exact Int.mul_ne_zero (flT_nz hr x hx) hb
theorem mul_sg {x a : Int} (ha : a ≠ 0) : (x < 0 → (-a < 0 ↔ x * a < 0) ∧ (-a > 0 ↔ x * a > 0)) ∧ (x > 0 → (a < 0 ↔ x * a < 0) ∧ (a > 0 ↔ x * a > 0)) := by
  constructor
  · intro h
    rcases Int.lt_or_gt_of_ne ha with h0 | h0
    · have := Int.mul_pos_of_neg_of_neg h h0
      omega
    · have := Int.mul_neg_of_neg_of_pos h h0
      omega
  · intro h
    rcases Int.lt_or_gt_of_ne ha with h0 | h0
    · have := Int.mul_neg_of_pos_of_neg h h0
      omega
    · have := Int.mul_pos h h0
      omega
theorem step_sign {a L c r : Int} (ha : a ≠ 0) (hc : (c < 0 ↔ r < 0) ∧ (c > 0 ↔ r > 0)) : (cmp1 (decide (L < 0)) (decide (L > 0)) a c < 0 ↔ (if L * a = 0 then r else L * a) < 0) ∧ (cmp1 (decide (L < 0)) (decide (L > 0)) a c > 0 ↔ (if L * a = 0 then r else L * a) > 0) := by
  have z := mul_sg (x := L) ha
  rcases Int.lt_trichotomy L 0 with h | h | h
  · rw [if_neg (Int.mul_ne_zero (Int.ne_of_lt h) ha), decide_eq_true h]
    exact z.1 h
  · subst h
    rw [Int.zero_mul, if_pos rfl]
    exact hc
  · rw [if_neg (Int.mul_ne_zero (Int.ne_of_gt h) ha), decide_eq_false (Int.not_lt.mpr (Int.le_of_lt h)), decide_eq_true h]
    exact z.2 h
theorem node_sign {a b L R : Int} (ha : a ≠ 0) (hb : b ≠ 0) : (cmp1 (decide (L < 0)) (decide (L > 0)) a (cmp1 (decide (R < 0)) (decide (R > 0)) b 0) < 0 ↔ (if L * a = 0 then R * b else L * a) < 0) ∧
    (cmp1 (decide (L < 0)) (decide (L > 0)) a (cmp1 (decide (R < 0)) (decide (R > 0)) b 0) > 0 ↔ (if L * a = 0 then R * b else L * a) > 0) := by
  have e : (if R * b = 0 then 0 else R * b) = R * b := by
    split
    · rename_i e
      exact e.symm
    · rfl
  have z := step_sign (L := R) (c := 0) (r := 0) hb ⟨Iff.rfl, Iff.rfl⟩
  rw [e] at z
  exact step_sign ha z
theorem tree_sign : ∀ {t : Tr}, NzT t → ltT W t i i' = decide (yL W i i' (flT t) < 0) ∧ gtT W t i i' = decide (yL W i i' (flT t) > 0)
  | .leaf c, _ => by
    have hg : ltC c (W.r i) (W.r i') = true → ltC c (W.r i') (W.r i) = false := fun h => by
      cases h2 : ltC c (W.r i') (W.r i) with
      | false => rfl
      | true => exact absurd (ltC_trans c _ _ _ h h2) (by rw [ltC_irr]; decide)
    show ltC c (W.r i) (W.r i') = decide (cmp1 (ltC c (W.r i) (W.r i')) (ltC c (W.r i') (W.r i)) 1 0 < 0) ∧ ltC c (W.r i') (W.r i) = decide (cmp1 (ltC c (W.r i) (W.r i')) (ltC c (W.r i') (W.r i)) 1 0 > 0)
    cases h1 : ltC c (W.r i) (W.r i') with
    | true => rw [hg h1]; decide
    | false => cases ltC c (W.r i') (W.r i) <;> decide
  | .node j a b l r, ⟨ha, hb, hl, hr⟩ => by
    have e1 := tree_sign (t := l) hl
    have e2 := tree_sign (t := r) hr
    have z := node_sign (L := yL W i i' (flT l)) (R := yL W i i' (flT r)) ha hb
    have e3 : yL W i i' (flT (.node j a b l r)) = if yL W i i' (flT l) * a = 0 then yL W i i' (flT r) * b else yL W i i' (flT l) * a := by
      show yL W i i' (scl a (flT l) ++ scl b (flT r)) = _
      rw [yL_app _ _ (fun p hp => by
        obtain ⟨x, hx, rfl⟩ := List.mem_map.mp hp
        exact Int.mul_ne_zero (flT_nz hl x hx) ha), yL_scl, yL_scl]
    rw [← e1.1, ← e1.2, ← e2.1, ← e2.2, ← e3] at z
    exact ⟨decide_eq_decide.mpr z.1, decide_eq_decide.mpr z.2⟩
theorem yT_sign {j : JA} {a b : Int} {l r : Tr} (hN : NzT (.node j a b l r)) : (yT W a b l r i i' < 0 ↔ yL W i i' (flT (.node j a b l r)) < 0) ∧ (yT W a b l r i i' > 0 ↔ yL W i i' (flT (.node j a b l r)) > 0) := by
  have e := tree_sign (W := W) (i := i) (i' := i') hN
  have e1 : ltT W (.node j a b l r) i i' = decide (yT W a b l r i i' < 0) := rfl
  have e2 : gtT W (.node j a b l r) i i' = decide (yT W a b l r i i' > 0) := rfl
  rw [e1, e2] at e
  exact ⟨decide_eq_decide.mp e.1, decide_eq_decide.mp e.2⟩
theorem wayZ_ne (k : Int) : wayZ k ≠ 0 := by unfold wayZ; split <;> (try decide); split <;> (try decide); split <;> decide
theorem yL_fl : yL W i i' [(K.c0, K.s0), (K.c1, K.s1), (K.c2, K.s2), (K.c3, K.s3)] = yF W K.fl i i' := rfl
theorem top_op {j : JA} {a b : Int} {l r : Tr} (hN : NzT (.node j a b l r)) (hf : flT (.node j a b l r) = [(K.c0, K.s0), (K.c1, K.s1), (K.c2, K.s2), (K.c3, K.s3)]) {op : CmpOp} (ho : O6 op) : opB op (yT W a b l r i i') = opB op (yF W K.fl i i') := by
  have e := yT_sign (W := W) (i := i) (i' := i') hN
  rw [hf, yL_fl] at e
  exact opB_sign ho e.1 e.2
theorem top_lt {t : Tr} (hN : NzT t) (hK : K.Nz) (hf : flT t = [(K.c0, K.s0), (K.c1, K.s1), (K.c2, K.s2), (K.c3, K.s3)]) (hi : i < 6) (hi' : i' < 6) : ltT W t i i' = mkLt W K i i' := by
  rw [(tree_sign hN).1, hf, yL_fl, flat_lt hK hi hi']
end
end Mine
namespace Mine
open PySem PySem.W PySem.W.X PySem.Spec PySem.Calls PyProof.Rows
section
variable {prog : Program} {w : World} {h : Heap} {b1 b2 : Bool} {q : Params} {W : Rows} {K : Keys} {P : Params}
theorem askTop (B : Bs b1 b2 q w h) (hW : RowsIn h W) {F : Facts} (hF' : ∀ p ∈ F, h.get? p.1 = some p.2) {i i' : Nat} (hi : i < 6) (hi' : i' < 6) {j : JA} {a b : Int} {l r : Tr} {m x x' : Nat} (T : TrIs (PX b1 b2 q) h (.node j a b l r) m)
    (k : Key W F (.node j a b l r) i (.ref x)) (k' : Key W F (.node j a b l r) i' (.ref x')) {op : CmpOp} (ho : O6 op) : Asks prog w ((Tr.node j a b l r).da + 40) h op (.ref x) (.ref x') (opB op (yT W a b l r i i')) := by
  obtain ⟨rfl, hk, ml, mr, τ, T, U, Uc, hF, hl, hr⟩ : NodeIs .. := T
  obtain ⟨v1, v2, n, ev, m1, m2, kl, kr⟩ : KeyN .. := k
  obtain ⟨w1, w2, n', ew, m1', m2', kl', kr'⟩ : KeyN .. := k'
  cases ev
  cases ew
  have A1 := askTree (prog := prog) B hW hF' hi hi' hl kl kl'
  have A2 := askTree (prog := prog) B hW hF' hi hi' hr kr kr'
  have id : ∀ (b : Addr) o, h.get? b = some o → h.get? b = some o := fun _ _ e => e
  have C := cmps_node B hF' hF m1 m1' A1.2.2 A2.2.2 (A1.1.mono (Nat.le_max_left l.da r.da) id) (A1.2.1.mono (Nat.le_max_left l.da r.da) id) (A2.1.mono (Nat.le_max_right l.da r.da) id) (A2.2.1.mono (Nat.le_max_right l.da r.da) id)
  have K := krf_node hF' hF m2 m2'
  have d : ∀ {op v}, Asks prog w (max l.da r.da + 40 + 80) h op (.ref (n + 2)) (.ref (n' + 2)) v → Asks prog w ((Tr.node j a b l r).da + 40) h op (.ref (n + 2)) (.ref (n' + 2)) v := fun k => k.mono (Nat.le_add_right (max l.da r.da + 120) 40) id
  have d2 : ∀ {op v}, Asks prog w (max l.da r.da + 40 + 120) h op (.ref (n + 2)) (.ref (n' + 2)) v → Asks prog w ((Tr.node j a b l r).da + 40) h op (.ref (n + 2)) (.ref (n' + 2)) v := fun k => k
  exact o6 (M := fun op => Asks prog w ((Tr.node j a b l r).da + 40) h op (.ref (n + 2)) (.ref (n' + 2)) (opB op (yT W a b l r i i'))) (d (kRcLt hk B K C)) (d (kRcLtE hk B K C)) (d (kRcEq hk B K C)) (d2 (kRcNotEq hk B K C)) (d (kRcGt hk B K C)) (d (kRcGtE hk B K C)) ho
theorem askL4 {m m' : Nat} {a b : Nat → Int} {ta tb : Nat → Nat} {na nb : Nat} (h1 : h.get? m = some (l4 a ta na)) (h2 : h.get? m' = some (l4 b tb nb)) {op : CmpOp} (ho : O6 op) : Asks prog w 0 h op (.ref m) (.ref m') (lexI op [a 0, a 1, a 2, a 3] [b 0, b 1, b 2, b 3]) := by
  have P0 : ∀ (h' : Heap), Post h' h' h'.objs.size [] := fun h' => ⟨fun _ _ e => e, rfl, Nat.le_refl _, fun _ hp => nomatch hp⟩
  intro A g d os h' tk Q E L k H
  have e1 := k _ _ h1
  have e2 := k _ _ h2
  rcases ho with rfl | rfl | rfl | rfl | rfl | rfl
  · exact rc_list_lt L.room (items := #[.int (a 0) (ta 0), .int (a 1) (ta 1), .int (a 2) (ta 2), .int (a 3) (ta 3)]) (items2 := #[.int (b 0) (tb 0), .int (b 1) (tb 1), .int (b 2) (tb 2), .int (b 3) (tb 3)]) rfl rfl rfl e1 e2 (H _ _ _ (P0 h'))
  · exact rc_list_le L.room (items := #[.int (a 0) (ta 0), .int (a 1) (ta 1), .int (a 2) (ta 2), .int (a 3) (ta 3)]) (items2 := #[.int (b 0) (tb 0), .int (b 1) (tb 1), .int (b 2) (tb 2), .int (b 3) (tb 3)]) rfl rfl rfl e1 e2 (H _ _ _ (P0 h'))
  · exact rc_list_eq L.room (items := #[.int (a 0) (ta 0), .int (a 1) (ta 1), .int (a 2) (ta 2), .int (a 3) (ta 3)]) (items2 := #[.int (b 0) (tb 0), .int (b 1) (tb 1), .int (b 2) (tb 2), .int (b 3) (tb 3)]) rfl rfl rfl e1 e2 (H _ _ _ (P0 h'))
  · exact rc_list_ne L.room (items := #[.int (a 0) (ta 0), .int (a 1) (ta 1), .int (a 2) (ta 2), .int (a 3) (ta 3)]) (items2 := #[.int (b 0) (tb 0), .int (b 1) (tb 1), .int (b 2) (tb 2), .int (b 3) (tb 3)]) rfl rfl rfl e1 e2 (H _ _ _ (P0 h'))
  · exact rc_list_gt L.room (items := #[.int (a 0) (ta 0), .int (a 1) (ta 1), .int (a 2) (ta 2), .int (a 3) (ta 3)]) (items2 := #[.int (b 0) (tb 0), .int (b 1) (tb 1), .int (b 2) (tb 2), .int (b 3) (tb 3)]) rfl rfl rfl e1 e2 (H _ _ _ (P0 h'))
  · exact rc_list_ge L.room (items := #[.int (a 0) (ta 0), .int (a 1) (ta 1), .int (a 2) (ta 2), .int (a 3) (ta 3)]) (items2 := #[.int (b 0) (tb 0), .int (b 1) (tb 1), .int (b 2) (tb 2), .int (b 3) (tb 3)]) rfl rfl rfl e1 e2 (H _ _ _ (P0 h'))
noncomputable def N1 (R : Nat) (x : Int) (l r : Tr) : Tr := .node (ja1 (R + 2)) (wA x) (wB x) l r
noncomputable def N2 (R : Nat) (x : Int) (l r : Tr) : Tr := .node (ja2 (R + 20) (R + 92) (R + 99)) (wA x) (wB x) l r
noncomputable def N3 (R : Nat) (x : Int) (l r : Tr) : Tr := .node (ja2 (R + 20) (R + 92) (R + 151)) (wA x) (wB x) l r
noncomputable def topL (R p0 p1 : Nat) (x1 x2 : Int) (A B C _ : Tr) : Tr := match p0, p1 with
  | 0, 0 => N2 R x2 (N1 R x1 A B) C
  | 0, _ => N1 R x1 A B
  | 1, 0 => N2 R x2 A (N1 R x1 B C)
  | 1, _ => A
  | _, 0 => N2 R x2 A B
  | _, _ => A
noncomputable def topR (R p0 p1 : Nat) (x1 x2 : Int) (_ B C D : Tr) : Tr := match p0, p1 with
  | 0, 0 => D
  | 0, _ => N2 R x2 C D
  | 1, 0 => D
  | 1, _ => N2 R x2 (N1 R x1 B C) D
  | _, 0 => N1 R x1 C D
  | _, _ => N2 R x2 B (N1 R x1 C D)
noncomputable def topT (R p0 p1 : Nat) (x1 x2 x3 : Int) (K : Keys) : Tr := N3 R x3 (topL R p0 p1 x1 x2 (.leaf K.c0) (.leaf K.c1) (.leaf K.c2) (.leaf K.c3)) (topR R p0 p1 x1 x2 (.leaf K.c0) (.leaf K.c1) (.leaf K.c2) (.leaf K.c3))
noncomputable def P6 (p0 p1 : Nat) : Prop := (p0 = 0 ∧ p1 = 0) ∨ (p0 = 0 ∧ p1 = 1) ∨ (p0 = 1 ∧ p1 = 0) ∨ (p0 = 1 ∧ p1 = 1) ∨ (p0 = 2 ∧ p1 = 0) ∨ (p0 = 2 ∧ p1 = 1)
theorem top6 {p0 p1 : Nat} {M : Nat → Nat → Prop} (a : M 0 0) (b : M 0 1) (c : M 1 0) (d : M 1 1) (e : M 2 0) (f : M 2 1) : P6 p0 p1 → M p0 p1
  | .inl ⟨h, h'⟩ => h ▸ h' ▸ a
  | .inr (.inl ⟨h, h'⟩) => h ▸ h' ▸ b
  | .inr (.inr (.inl ⟨h, h'⟩)) => h ▸ h' ▸ c
  | .inr (.inr (.inr (.inl ⟨h, h'⟩))) => h ▸ h' ▸ d
  | .inr (.inr (.inr (.inr (.inl ⟨h, h'⟩)))) => h ▸ h' ▸ e
  | .inr (.inr (.inr (.inr (.inr ⟨h, h'⟩)))) => h ▸ h' ▸ f
theorem nzN {j : JA} {x : Int} {l r : Tr} (a : NzT l) (b : NzT r) : NzT (.node j (wA x) (wB x) l r) := ⟨wayZ_ne _, wayZ_ne _, a, b⟩
theorem top_nz {R p0 p1 : Nat} {x1 x2 x3 : Int} (hp : P6 p0 p1) : NzT (topT R p0 p1 x1 x2 x3 K) :=
  top6 (M := fun p0 p1 => NzT (topT R p0 p1 x1 x2 x3 K)) (nzN (nzN (nzN trivial trivial) trivial) trivial) (nzN (nzN trivial trivial) (nzN trivial trivial)) (nzN (nzN trivial (nzN trivial trivial)) trivial) (nzN trivial (nzN (nzN trivial trivial) trivial)) (nzN (nzN trivial trivial) (nzN trivial trivial)) (nzN trivial (nzN trivial (nzN trivial trivial))) hp
theorem top_fl {R p0 p1 : Nat} {x1 x2 x3 : Int} (hp : P6 p0 p1) (hs : [K.s0, K.s1, K.s2, K.s3] = snS p0 p1 (wA x1) (wB x1) (wA x2) (wB x2) (wA x3) (wB x3)) : flT (topT R p0 p1 x1 x2 x3 K) = [(K.c0, K.s0), (K.c1, K.s1), (K.c2, K.s2), (K.c3, K.s3)] :=
  (top6 (M := fun p0 p1 => flT (topT R p0 p1 x1 x2 x3 K) = [K.c0, K.c1, K.c2, K.c3].zip (snS p0 p1 (wA x1) (wB x1) (wA x2) (wB x2) (wA x3) (wB x3))) rfl rfl rfl rfl rfl rfl hp).trans (congrArg (List.zip [K.c0, K.c1, K.c2, K.c3]) hs.symm)
theorem top_dm {R p0 p1 : Nat} {x1 x2 x3 : Int} (hp : P6 p0 p1) : 100 ≤ max (topT R p0 p1 x1 x2 x3 K).dm ((topT R p0 p1 x1 x2 x3 K).da + 60) ∧ max (topT R p0 p1 x1 x2 x3 K).dm ((topT R p0 p1 x1 x2 x3 K).da + 60) ≤ 420 :=
  (show ∀ {m}, (m = 420 ∨ m = 300) → 100 ≤ m ∧ m ≤ 420 from fun {m} e => e.elim (fun e => e ▸ (by decide : 100 ≤ 420 ∧ 420 ≤ 420)) fun e => e ▸ (by decide : 100 ≤ 300 ∧ 300 ≤ 420)) (top6 (M := fun p0 p1 => max (topT R p0 p1 x1 x2 x3 K).dm ((topT R p0 p1 x1 x2 x3 K).da + 60) = 420 ∨ max (topT R p0 p1 x1 x2 x3 K).dm ((topT R p0 p1 x1 x2 x3 K).da + 60) = 300) (.inl rfl) (.inr rfl) (.inl rfl) (.inl rfl) (.inr rfl) (.inl rfl) hp)
theorem keys_nz {R p0 p1 : Nat} {x1 x2 x3 : Int} (hp : P6 p0 p1) (hs : [K.s0, K.s1, K.s2, K.s3] = snS p0 p1 (wA x1) (wB x1) (wA x2) (wB x2) (wA x3) (wB x3)) : K.Nz := by
  have z := flT_nz (top_nz (K := K) (R := R) (x1 := x1) (x2 := x2) (x3 := x3) hp)
  rw [top_fl hp hs] at z
  exact ⟨z _ (.head _), z _ (.tail _ (.head _)), z _ (.tail _ (.tail _ (.head _))), z _ (.tail _ (.tail _ (.tail _ (.head _))))⟩
theorem top_lf {X : Facts} (hX : ∀ p ∈ X, h.get? p.1 = some p.2) {c m cl ct cd v U : Nat} (hc : c = 0 ∨ c = 1 ∨ c = 2) (b : (m, llO cl ct cd) ∈ X) (a : (cl, celO (some (.int (c : Int) v))) ∈ X) (d : llC cd U ∈ X) : TrIs P h (.leaf c) m :=
  ⟨hc, cl, ct, cd, v, U, fun p hp => hX p (sub_c b (sub_c a (sub_c d sub_n)) p hp)⟩
theorem top_nd {X : Facts} (hX : ∀ p ∈ X, h.get? p.1 = some p.2) {j : JA} {a b : Int} {l r : Tr} {ml mr : Nat} {τ T : Nat → Nat} {U Uc : Nat} (hk : Kok j.k) (s : ∀ p ∈ jF P j ml mr a b τ ++ (kC P j.k j.m T ++ (kcdF j.k.d U ++ [jlC j.cd Uc])), p ∈ X) (hl : TrIs P h l ml) (hr : TrIs P h r mr) : TrIs P h (.node j a b l r) j.L :=
  ⟨rfl, hk, ml, mr, τ, T, U, Uc, fun p hp => hX p (s p hp), hl, hr⟩
section
variable {R p0 p1 : Nat} {x1 x2 x3 : Int} {T1 τ1 T2 τ2 T3 τ3 : Nat → Nat} {U Uc : Nat}
theorem top_s1 : ∀ p ∈ jF P (ja1 (R + 2)) ((ms0 R).getD p0 0) ((ms0 R).getD (p0 + 1) 0) (wA x1) (wB x1) τ1 ++ (kC P (ka1 (R + 20)) (R + 19) T1 ++ (kcdF (R + 20) U ++ [jlC (R + 92) Uc])), p ∈ jFR P R p0 p1 x1 x2 x3 T1 τ1 T2 τ2 T3 τ3 U Uc := by
  unfold jFR
  trivial
theorem top_s2 : ∀ p ∈ jF P (ja2 (R + 20) (R + 92) (R + 99)) ((msN (ms0 R) p0 (R + 93)).getD p1 0) ((msN (ms0 R) p0 (R + 93)).getD (p1 + 1) 0) (wA x2) (wB x2) τ2 ++ (kC P (ka2 (R + 20) (R + 117)) (R + 116) T2 ++ (kcdF (R + 20) U ++ [jlC (R + 92) Uc])), p ∈ jFR P R p0 p1 x1 x2 x3 T1 τ1 T2 τ2 T3 τ3 U Uc := by
  unfold jFR
  trivial
theorem top_s3 : ∀ p ∈ jF P (ja2 (R + 20) (R + 92) (R + 151)) ((msN (msN (ms0 R) p0 (R + 93)) p1 (R + 145)).getD 0 0) ((msN (msN (ms0 R) p0 (R + 93)) p1 (R + 145)).getD (0 + 1) 0) (wA x3) (wB x3) τ3 ++ (kC P (ka2 (R + 20) (R + 169)) (R + 168) T3 ++ (kcdF (R + 20) U ++ [jlC (R + 92) Uc])), p ∈ jFR P R p0 p1 x1 x2 x3 T1 τ1 T2 τ2 T3 τ3 U Uc := by
  unfold jFR
  trivial
end
theorem kok_s {S : Nat} {f : Nat → KA} (a : Kok (f 611)) (b : Kok (f 614)) (hS : S = 611 ∨ S = 614) : Kok (f S) := hS.elim (fun e => e ▸ a) (fun e => e ▸ b)
noncomputable def TN (P : Params) (h : Heap) (c : Tr → Tr → Tr) (ms : List Nat) (p m : Nat) : Prop := ∀ {l r}, TrIs P h l (ms.getD p 0) → TrIs P h r (ms.getD (p + 1) 0) → TrIs P h (c l r) m
theorem top_is {S p0 p1 : Nat} (hS : S = 611 ∨ S = 614) {x1 x2 x3 : Int} (hp : P6 p0 p1) (hc0 : K.c0 = 0 ∨ K.c0 = 1 ∨ K.c0 = 2) (hc1 : K.c1 = 0 ∨ K.c1 = 1 ∨ K.c1 = 2) (hc2 : K.c2 = 0 ∨ K.c2 = 1 ∨ K.c2 = 2) (hc3 : K.c3 = 0 ∨ K.c3 = 1 ∨ K.c3 = 2)
    {T1 τ1 T2 τ2 T3 τ3 : Nat → Nat} {U Uc Ul v1 v2 v3 v4 : Nat} (hF : ∀ p ∈ jFR P (S + 27) p0 p1 x1 x2 x3 T1 τ1 T2 τ2 T3 τ3 U Uc ++ lfF S Ul K.c0 K.c1 K.c2 K.c3 v1 v2 v3 v4, h.get? p.1 = some p.2) : TrIs P h (topT (S + 27) p0 p1 x1 x2 x3 K) (S + 224) := by
  have hL := fun p hp => hF p (List.mem_append_right _ hp)
  have hJ := fun p hp => hF p (List.mem_append_left _ hp)
  have A : TrIs P h (.leaf K.c0) (S + 12) := top_lf hL hc0 (in_t (in_t in_h)) in_h (in_t in_h)
  have B : TrIs P h (.leaf K.c1) (S + 16) := top_lf hL hc1 (in_t (in_t (in_t (in_t in_h)))) (in_t (in_t (in_t in_h))) (in_t in_h)
  have C : TrIs P h (.leaf K.c2) (S + 20) := top_lf hL hc2 (in_t (in_t (in_t (in_t (in_t (in_t in_h)))))) (in_t (in_t (in_t (in_t (in_t in_h))))) (in_t in_h)
  have D : TrIs P h (.leaf K.c3) (S + 24) := top_lf hL hc3 (in_t (in_t (in_t (in_t (in_t (in_t (in_t (in_t in_h)))))))) (in_t (in_t (in_t (in_t (in_t (in_t (in_t in_h))))))) (in_t in_h)
  have n1 : TN P h (N1 (S + 27) x1) (ms0 (S + 27)) p0 (S + 27 + 93) := fun hl hr => top_nd hJ (kok_s (f := fun S => (ja1 (S + 27 + 2)).k) (.inl rfl) (.inr (.inl rfl)) hS) top_s1 hl hr
  have n2 : TN P h (N2 (S + 27) x2) (msN (ms0 (S + 27)) p0 (S + 27 + 93)) p1 (S + 27 + 145) := fun hl hr => top_nd hJ (kok_s (f := fun S => (ja2 (S + 27 + 20) (S + 27 + 92) (S + 27 + 99)).k) (.inr (.inr (.inl rfl))) (.inr (.inr (.inr (.inr (.inr (.inl rfl)))))) hS) top_s2 hl hr
  have n3 : TN P h (N3 (S + 27) x3) (msN (msN (ms0 (S + 27)) p0 (S + 27 + 93)) p1 (S + 27 + 145)) 0 (S + 224) := fun hl hr => top_nd hJ (kok_s (f := fun S => (ja2 (S + 27 + 20) (S + 27 + 92) (S + 27 + 151)).k) (.inr (.inr (.inr (.inl rfl)))) (.inr (.inr (.inr (.inr (.inr (.inr (.inl rfl))))))) hS) top_s3 hl hr
  clear hF hJ hL
  revert n1 n2 n3
  exact top6 (M := fun p0 p1 => TN P h (N1 (S + 27) x1) (ms0 (S + 27)) p0 (S + 27 + 93) → TN P h (N2 (S + 27) x2) (msN (ms0 (S + 27)) p0 (S + 27 + 93)) p1 (S + 27 + 145) → TN P h (N3 (S + 27) x3) (msN (msN (ms0 (S + 27)) p0 (S + 27 + 93)) p1 (S + 27 + 145)) 0 (S + 224) → TrIs P h (topT (S + 27) p0 p1 x1 x2 x3 K) (S + 224))
    (fun n1 n2 n3 => n3 (n2 (n1 A B) C) D) (fun n1 n2 n3 => n3 (n1 A B) (n2 C D)) (fun n1 n2 n3 => n3 (n2 A (n1 B C)) D) (fun n1 n2 n3 => n3 A (n2 (n1 B C) D)) (fun n1 n2 n3 => n3 (n2 A B) (n1 C D)) (fun n1 n2 n3 => n3 A (n2 B (n1 C D))) hp
end
end Mine
end
namespace Mine
open PySem PySem.W PySem.W.X PySem.Spec PySem.Calls PyProof.Rows
open PySem.W.Fast
noncomputable def f6 {α : Type} (x0 x1 x2 x3 x4 x5 : α) : Nat → α
  | 0 => x0
  | 1 => x1
  | 2 => x2
  | 3 => x3
  | 4 => x4
  | _ => x5
theorem f6_all {α : Type} {x0 x1 x2 x3 x4 x5 : α} {C : Nat → α → Prop} (h0 : C 0 x0) (h1 : C 1 x1) (h2 : C 2 x2) (h3 : C 3 x3) (h4 : C 4 x4) (h5 : C 5 x5) : ∀ k, k < 6 → C k (f6 x0 x1 x2 x3 x4 x5 k) := lt6e h0 h1 h2 h3 h4 h5
section
variable {K : Keys}
theorem f6_kk {C : Nat → Nat → Prop} {a0 a1 a2 a3 a4 a5 y0 y1 y2 y3 y4 y5 : Nat} (h0 : C a0 y0) (h1 : C a1 y1) (h2 : C a2 y2) (h3 : C a3 y3) (h4 : C a4 y4) (h5 : C a5 y5) : ∀ k, k < 6 → C (f6 a0 a1 a2 a3 a4 a5 k) (f6 y0 y1 y2 y3 y4 y5 k) := lt6e h0 h1 h2 h3 h4 h5
theorem fl_is {P : Params} {X : Facts} {h : Heap} (hX : ∀ p ∈ X, h.get? p.1 = some p.2) {S : Nat} {τ : Nat} (s : ∀ p ∈ flF P (S + 232) K τ, p ∈ X) : FlIs P h K.fl (S + 245) := by
  have g : ∀ {p}, p ∈ flF P (S + 232) K τ → h.get? p.1 = some p.2 := fun hp => hX _ (s _ hp)
  exact ⟨S + 237, S + 238, S + 239, S + 240, S + 241, S + 244, K.t0, K.t1, K.t2, K.t3, K.u0, K.u1, K.u2, K.u3, τ, all_c (g in_h) (all_c (g (in_t in_h)) (all_c (g (in_t (in_t in_h))) (all_c (g (in_t (in_t (in_t in_h)))) (all_c (g (in_t (in_t (in_t (in_t in_h))))) (all_c (g (in_t (in_t (in_t (in_t (in_t (in_t in_h))))))) (all_c (g (in_t (in_t (in_t (in_t (in_t in_h)))))) all_n))))))⟩
end
section
variable {prog : Program} {w : World} {A : Around} {Q : Flow → Shared → Prop} {E : Value → Shared → Prop} {h₀ h : Heap} {g : Array GenState} {d : Drawn} {tk : Nat} {os : OsState} {b1 b2 : Bool} {q : Params} {W : Rows} {K : Keys}
theorem law_rest (L : Deep 600 A) (hw : w.params = PX b1 b2 q) {S : Nat} (hS : S = 611 ∨ S = 614) {p0 p1 : Nat} {x1 x2 x3 : Int} {w1 w2 w3 : Nat} (hp : P6 p0 p1) (h1 : x1.fmod 3 = p0) (h2 : x2.fmod 2 = p1) (O : K.Ok)
    (hs : [K.s0, K.s1, K.s2, K.s3] = snS p0 p1 (wA x1) (wB x1) (wA x2) (wB x2) (wA x3) (wB x3)) {Fv : Facts} (hC : (218, lstO #[.int K.c0 K.t0, .int K.c1 K.t1, .int K.c2 K.t2, .int K.c3 K.t3] 4) ∈ Fv) (hJ : (228, lstO #[.int x1 w1, .int x2 w2, .int x3 w3] 3) ∈ Fv)
    (hN : (256, lstO #[.int K.s0 K.u0, .int K.s1 K.u1, .int K.s2 K.u2, .int K.s3 K.u3] 0) ∈ Fv) (hRw : (115, rowsO W) ∈ Fv) (hR : ∀ i, i < 6 → (W.R i, rowO (W.r i) (W.T i) (i : Nat)) ∈ Fv ∧ (W.T i, tupO (W.r i)) ∈ Fv)
    {ML : Nat} {m : Nat → Nat} (hML : (ML, lstO #[.ref (m 0), .ref (m 1), .ref (m 2), .ref (m 3), .ref (m 4), .ref (m 5)] 6) ∈ Fv) {tm : Nat → Nat → Nat} (hm : ∀ k, k < 6 → (m k, l4 (mkR W K k) (tm k) 4) ∈ Fv)
    {p : List Nat} {t : Nat → Nat} {c DU : Nat} (hpp : p = (runT (mkLt W K) (kas_sort 6)).toList) (h6 : p.length = 6) (hp6 : ∀ x ∈ p, x < 6) (hdue : (DU, lstO (p.map fun i => Value.int (i : Nat) (t i)).toArray c) ∈ Fv)
    {X0 e0 e1 e2 e3 e4 : Nat} {x105 : Obj}
    (D : Rep h₀ ⟨kt (PX b1 b2 q), Fv, [fr5 (PX b1 b2 q) X0 e0 e1 e2 e3 DU e4, ce 111 115, (112, celO none), ce 113 ML], [(16, tableObj #[]), (72, tableObj #[]), (86, tableObj #[]), (105, x105)], S, tk⟩ h)
    (H : ∀ h' tk', OldK h₀ h' → Q (.ret (.bool true)) ⟨h', g, d, tk', os⟩) :
    wpAny (model prog w) A (execs [lawS 6, lawS 7, lawS 8, lawS 9, lawS 10, lawS 11] (lawEnv 110)) Q E ⟨h, g, d, tk, os⟩ := by
  have hq0 : p0 = 0 ∨ p0 = 1 ∨ p0 = 2 := top6 (M := fun p0 _ => p0 = 0 ∨ p0 = 1 ∨ p0 = 2) (.inl rfl) (.inl rfl) (.inr (.inl rfl)) (.inr (.inl rfl)) (.inr (.inr rfl)) (.inr (.inr rfl)) hp
  have hq1 : p1 = 0 ∨ p1 = 1 := top6 (M := fun _ p1 => p1 = 0 ∨ p1 = 1) (.inl rfl) (.inr rfl) (.inl rfl) (.inr rfl) (.inl rfl) (.inr rfl) hp
  have nz := keys_nz (R := S + 27) hp hs
  obtain ⟨r11, h11⟩ : ∃ r, r = [lawS 11] := ⟨_, rfl⟩
  obtain ⟨x10, hx10⟩ : ∃ x, x = lawS 10 := ⟨_, rfl⟩
  obtain ⟨r10, h10⟩ : ∃ r, r = x10 :: r11 := ⟨_, rfl⟩
  obtain ⟨r9, h9⟩ : ∃ r, r = lawS 9 :: r10 := ⟨_, rfl⟩
  obtain ⟨r8, h8⟩ : ∃ r, r = lawS 8 :: r9 := ⟨_, rfl⟩
  obtain ⟨r7, h7⟩ : ∃ r, r = lawS 7 :: r8 := ⟨_, rfl⟩
  rw [← h11, ← hx10, ← h10, ← h9, ← h8, ← h7]
  refine execs_split (law_s6 (nn := 0) (c1 := (K.c0 : Nat)) (c2 := (K.c1 : Nat)) (c3 := (K.c2 : Nat)) (c4 := (K.c3 : Nat)) (L.less (by decide)) hw hS hq0 hq1 h1 h2 hC hJ D fun g1 t1 T1 τ1 T2 τ2 T3 τ3 U Uc Ul D1 => ?_)
  obtain ⟨F1, hF1⟩ : ∃ F1, F1 = jFR (PX b1 b2 q) (S + 27) p0 p1 x1 x2 x3 T1 τ1 T2 τ2 T3 τ3 U Uc ++ (lfF S Ul K.c0 K.c1 K.c2 K.c3 K.t0 K.t1 K.t2 K.t3 ++ Fv) := ⟨_, rfl⟩
  rw [← hF1] at D1
  have i1 : ∀ x ∈ Fv, x ∈ F1 := fun x hx => by rw [hF1]; exact List.mem_append_right _ (List.mem_append_right _ hx)
  have j1 : ∀ x ∈ jFR (PX b1 b2 q) (S + 27) p0 p1 x1 x2 x3 T1 τ1 T2 τ2 T3 τ3 U Uc ++ lfF S Ul K.c0 K.c1 K.c2 K.c3 K.t0 K.t1 K.t2 K.t3, x ∈ F1 := fun x hx => by
    rw [hF1, ← List.append_assoc]; exact List.mem_append_left _ hx
  rw [h7]
  refine execs_split (law_s7 (nn := 0) (L.less (by decide)) hw hS (i1 _ hC) (i1 _ hN) (Rep.tok D1 t1) fun g2 t2 τ e5 D2 => ?_)
  obtain ⟨F2, hF2⟩ : ∃ F2, F2 = flF (PX b1 b2 q) (S + 232) K τ ++ F1 := ⟨_, rfl⟩
  rw [← hF2] at D2
  have i2 : ∀ x ∈ F1, x ∈ F2 := fun x hx => by rw [hF2]; exact List.mem_append_right _ hx
  have f2 : ∀ x ∈ flF (PX b1 b2 q) (S + 232) K τ, x ∈ F2 := fun x hx => by rw [hF2]; exact List.mem_append_left _ hx
  have cc0 := lt3 O.h0
  have cc1 := lt3 O.h1
  have cc2 := lt3 O.h2
  have cc3 := lt3 O.h3
  have hf : K.fl.Ok := ⟨cc0, cc1, cc2, cc3⟩
  have hFl : ∀ h, (∀ p ∈ F2, h.get? p.1 = some p.2) → FlIs (PX b1 b2 q) h K.fl (S + 245) := fun h hh => fl_is hh f2
  have hWi : ∀ h, (∀ p ∈ F2, h.get? p.1 = some p.2) → RowsIn h W := fun h hh i hi => ⟨hh _ (i2 _ (i1 _ (hR i hi).1)), hh _ (i2 _ (i1 _ (hR i hi).2))⟩
  have hTr : ∀ h, (∀ p ∈ F2, h.get? p.1 = some p.2) → TrIs (PX b1 b2 q) h (topT (S + 27) p0 p1 x1 x2 x3 K) (S + 224) := fun h hh => top_is hS hp cc0 cc1 cc2 cc3 fun x hx => hh x (i2 _ (j1 x hx))
  have Wy := way_maker (prog := prog) (w := w) (F := F2) (W := W) (t := topT (S + 27) p0 p1 x1 x2 x3 K) rfl hTr hWi
  have dm := top_dm (K := K) (R := S + 27) (x1 := x1) (x2 := x2) (x3 := x3) hp
  have hda : (topT (S + 27) p0 p1 x1 x2 x3 K).da + 60 ≤ 420 := Nat.le_trans (Nat.le_max_right _ _) dm.2
  have tnz := top_nz (K := K) (R := S + 27) (x1 := x1) (x2 := x2) (x3 := x3) hp
  have tfl := top_fl (R := S + 27) hp hs
  have hk : ∀ x ∈ kcdF (S + 47) U ++ [kc7 (S + 47) U, kc6 (S + 47) U], x ∈ F2 := fun x hx => i2 _ (j1 _ (List.mem_append_left _ (by
    unfold jFR
    exact in_r (in_r (in_r (in_t (in_t (in_r hx))))))))
  have hMk : (S + 224, jlO (ja2 (S + 27 + 20) (S + 27 + 92) (S + 27 + 151))) ∈ F2 := i2 _ (j1 _ (List.mem_append_left _ (by
    unfold jFR
    exact List.mem_append_left _ (List.mem_append_left _ (.head _)))))
  have hI : (S + 245, ({ cls := .ref 54, dict := some (S + 244), data := .plain } : Obj)) ∈ F2 := f2 _ (.tail _ (.tail _ (.tail _ (.tail _ (.tail _ (.tail _ (.head _)))))))
  have hD : (S + 244, ({ cls := .type "dict", data := .dict #[de (PX b1 b2 q) "comp_select_list" τ (.ref (S + 237))] 1 } : Obj)) ∈ F2 := f2 _ (.tail _ (.tail _ (.tail _ (.tail _ (.tail _ (.head _))))))
  rw [h8]
  refine execs_split (law_s8 dm.1 (L.less (Nat.le_trans (Nat.add_le_add_right dm.2 160) (by decide))) hw (τ := τ) (U := U) hS Wy (fun i j hi hj => top_lt tnz nz tfl hi hj) hf hFl hWi (fun i j hi hj => flat_lt nz hi hj) hpp h6 hp6 (i2 _ (i1 _ hdue)) (i2 _ (i1 _ hRw)) (fun i hi => i2 _ (i1 _ (hR i hi).1))
    (hk _ (List.mem_append_right _ (.head _))) (hk _ (List.mem_append_right _ (.tail _ (.head _)))) (fun x hx => hk x (List.mem_append_left _ hx)) hI hD (Rep.tok D2 t2) fun g3 t3 n3 e6 D3 => ?_)
  obtain ⟨a0, a1, a2, a3, a4, a5, rfl⟩ := six_list h6
  have q0 := hp6 a0 in_h
  have q1 := hp6 a1 (in_t in_h)
  have q2 := hp6 a2 (in_t (in_t in_h))
  have q3 := hp6 a3 (in_t (in_t (in_t in_h)))
  have q4 := hp6 a4 (in_t (in_t (in_t (in_t in_h))))
  have q5 := hp6 a5 (in_t (in_t (in_t (in_t (in_t in_h)))))
  have a6 : ∀ k, k < 6 → f6 a0 a1 a2 a3 a4 a5 k < 6 := f6_all (C := fun _ x => x < 6) q0 q1 q2 q3 q4 q5
  rw [h9]
  refine execs_split (law_s9 (L.less (Nat.le_trans (Nat.add_le_add_right dm.2 80) (by decide))) hw Wy (i2 _ (i1 _ hdue)) (i2 _ (i1 _ hRw)) hMk q0 q1 q2 q3 q4 q5 (Rep.tok D3 t3) fun g4 t4 n4 FK y0 y1 y2 y3 y4 y5 e7 MD k0 k1 k2 k3 k4 k5 D4 => ?_)
  have kk : ∀ k, k < 6 → Key W FK (topT (S + 27) p0 p1 x1 x2 x3 K) (f6 a0 a1 a2 a3 a4 a5 k) (.ref (f6 y0 y1 y2 y3 y4 y5 k)) := f6_kk (C := fun a y => Key W FK (topT (S + 27) p0 p1 x1 x2 x3 K) a (.ref y)) k0 k1 k2 k3 k4 k5
  have i4 : ∀ x ∈ F2, x ∈ (MD, lstO #[.ref y0, .ref y1, .ref y2, .ref y3, .ref y4, .ref y5] 6) :: (F2 ++ FK) := fun x hx => .tail _ (List.mem_append_left _ hx)
  rw [h10]
  refine execs_split (law_s10 hx10 (nn := 400) (B := ⟨X0, f6 e0 e1 e2 e3 e4 e5 |> fun f k => match k with | 6 => e6 | 7 => e7 | k => f k, S + 269, S + 224, 0⟩) (f := K.fl) (mk := mkR W K) (tm := tm) (cm := fun _ => 4) (τ := fun _ => 0)
    (G := ⟨0, 0, 0, 0, 0, 0, 0, fun _ => 0, MD, f6 y0 y1 y2 y3 y4 y5, DU, f6 a0 a1 a2 a3 a4 a5, t, c, ML, m, W, K, S + 245, S + 244, S + 237, τ⟩) (Fw := (MD, lstO #[.ref y0, .ref y1, .ref y2, .ref y3, .ref y4, .ref y5] 6) :: (F2 ++ FK)) (L.less (by decide)) hw a6 (sub_c in_h (sub_c (i4 _ (i2 _ (i1 _ hdue))) (sub_c (i4 _ (i2 _ (i1 _ hML))) (sub_c (i4 _ (i2 _ (i1 _ hRw))) (sub_c (i4 _ (i2 _ (i1 _ hN))) (sub_c (i4 _ hI) (sub_c (i4 _ hD) sub_n))))))) (fun n u i hi => ?_) (Rep.tok D4 t4) fun g5 t5 n5 v5 τ5 D5 => ?_)
  · have al := a6 _ (lr_lt hi).1
    have ar := a6 _ (lr_lt hi).2
    refine ⟨yF W K.fl (f6 a0 a1 a2 a3 a4 a5 (lr10 i).1) (f6 a0 a1 a2 a3 a4 a5 (lr10 i).2), fun k hk h hF hB => ?_, fun k hk h hF hB => ?_, fun h hF hB => ?_, sizes_head nz al ar, fun k hk => i4 _ (i2 _ (i1 _ (hm k hk)))⟩
    · have h2 : ∀ x ∈ F2, h.get? x.1 = some x.2 := fun x hx => hF x (List.mem_append_right _ (i4 _ hx))
      have h3 : ∀ x ∈ FK, h.get? x.1 = some x.2 := fun x hx => hF x (List.mem_append_right _ (.tail _ (List.mem_append_right _ hx)))
      have z := askTop (prog := prog) hB (hWi h h2) h3 al ar (hTr h h2) (kk _ (lr_lt hi).1) (kk _ (lr_lt hi).2) (o6_op hk)
      rw [top_op tnz tfl (o6_op hk)] at z
      exact z.mono (Nat.le_trans (Nat.add_le_add_left (by decide : 40 ≤ 60) (topT (S + 27) p0 p1 x1 x2 x3 K).da) (Nat.le_trans hda (by decide))) (fun _ _ e => e)
    · have h2 : ∀ x ∈ Fv, h.get? x.1 = some x.2 := fun x hx => hF x (List.mem_append_right _ (i4 _ (i2 _ (i1 _ hx))))
      have z := askL4 (prog := prog) (w := w) (h2 _ (hm _ al)) (h2 _ (hm _ ar)) (o6_op hk)
      have e := marks_lex (W := W) nz al ar (o6_op hk)
      exact (e ▸ z.mono (Nat.zero_le _) (fun _ _ e => e) : _)
    · have h2 : ∀ x ∈ F2, h.get? x.1 = some x.2 := fun x hx => hF x (List.mem_append_right _ (i4 _ hx))
      exact flCmps hB (hWi h h2) hf (hFl h h2) al ar
  · rw [h11]
    exact law_s11 (nn := 0) (L.less (by decide)) hw rfl (Rep.tok D5 t5) fun h' tk' ho => H h' tk' ho
end
end Mine
namespace Mine
open PySem PySem.W PySem.W.X PySem.Spec PySem.Calls PyProof.Rows
open PySem.W.Fast
noncomputable abbrev tb0 : Facts := [(16, tableObj #[]), (72, tableObj #[]), (86, tableObj #[]), (105, tableObj #[])]
noncomputable def tmF (y : Four) : Nat → Nat
  | 0 => y.1
  | 1 => y.2.1
  | 2 => y.2.2.1
  | _ => y.2.2.2
theorem mul6 {s : Int} : ∀ n : Nat, n ≤ 6 → IntMulOk s n := fun n h => IntMulOk.of_right (intBits_le_64 (by omega) (by omega))
section
variable {prog : Program} {w : World} {A : Around} {Q : Flow → Shared → Prop} {E : Value → Shared → Prop} {h₀ h : Heap} {g : Array GenState} {d : Drawn} {tk : Nat} {os : OsState} {b1 b2 : Bool} {q : Params} {W : Rows} {K : Keys}
theorem law_mida (L : Deep 600 A) (hw : w.params = PX b1 b2 q) {p0 p1 : Nat} {x1 x2 x3 : Int} {w1 w2 w3 : Nat} (hp : P6 p0 p1) (h1 : x1.fmod 3 = p0) (h2 : x2.fmod 2 = p1) (O : K.Ok)
    (hs : [K.s0, K.s1, K.s2, K.s3] = snS p0 p1 (wA x1) (wB x1) (wA x2) (wB x2) (wA x3) (wB x3)) {Fv : Facts} (hC : (218, lstO #[.int K.c0 K.t0, .int K.c1 K.t1, .int K.c2 K.t2, .int K.c3 K.t3] 4) ∈ Fv) (hJ : (228, lstO #[.int x1 w1, .int x2 w2, .int x3 w3] 3) ∈ Fv)
    (hN : (256, lstO #[.int K.s0 K.u0, .int K.s1 K.u1, .int K.s2 K.u2, .int K.s3 K.u3] 0) ∈ Fv) (hR : ∀ p ∈ (115, rowsO W) :: rsF W [], p ∈ Fv) {X0 e0 e1 e2 e3 : Nat}
    (D : Rep h₀ ⟨kt (PX b1 b2 q), Fv, [fr4 (PX b1 b2 q) X0 e0 e1 e2 e3, ce 111 115, (112, celO none), (113, celO none)], tb0, 342, tk⟩ h)
    (H : ∀ h' tk', OldK h₀ h' → Q (.ret (.bool true)) ⟨h', g, d, tk', os⟩) :
    wpAny (model prog w) A (execs [lawS 4, lawS 5, lawS 6, lawS 7, lawS 8, lawS 9, lawS 10, lawS 11] (lawEnv 110)) Q E ⟨h, g, d, tk, os⟩ := by
  obtain ⟨r6, h6⟩ : ∃ r, r = [lawS 6, lawS 7, lawS 8, lawS 9, lawS 10, lawS 11] := ⟨_, rfl⟩
  rw [← h6]
  refine execs_split (law_s4a (nn := 0) (L.less (by omega)) hw O hC hN hR D fun g1 t1 y0 y1 y2 y3 y4 y5 D1 => ?_)
  obtain ⟨F1, hF1⟩ : ∃ F1, F1 = marksF 354 W (K.at 348 349 350 351 6) y0 y1 y2 y3 y4 y5 ++ Fv := ⟨_, rfl⟩
  rw [← hF1] at D1
  have i1 : ∀ x ∈ Fv, x ∈ F1 := fun x hx => by rw [hF1]; exact List.mem_append_right _ hx
  have m1 : ∀ x ∈ marksF 354 W (K.at 348 349 350 351 6) y0 y1 y2 y3 y4 y5, x ∈ F1 := fun x hx => by rw [hF1]; exact List.mem_append_left _ hx
  refine execs_split (law_s5a (nn := 0) (L.less (by omega)) hw m1 (Rep.tok D1 t1) fun g2 t2 p c e t hpp hl hp6 D2 => ?_)
  have R : ∀ i, i < 6 → (W.R i, rowO (W.r i) (W.T i) (i : Nat)) ∈ Fv ∧ (W.T i, tupO (W.r i)) ∈ Fv := fun i hi => by
    have : i = 0 ∨ i = 1 ∨ i = 2 ∨ i = 3 ∨ i = 4 ∨ i = 5 := lt6 (by first | assumption | omega)
    rcases this with rfl | rfl | rfl | rfl | rfl | rfl <;> exact ⟨hR _ (by simp [rsF, Rows.R, Rows.r, Rows.T]), hR _ (by simp [rsF, Rows.R, Rows.r, Rows.T])⟩
  have mm : ∀ k, k < 6 → (f6 360 398 436 474 512 550 k, l4 (mkR W (K.at 348 349 350 351 6) k) (f6 (tmF y0) (tmF y1) (tmF y2) (tmF y3) (tmF y4) (tmF y5) k) 4) ∈ F1 := fun k hk => by
    have : k = 0 ∨ k = 1 ∨ k = 2 ∨ k = 3 ∨ k = 4 ∨ k = 5 := lt6 (by first | assumption | omega)
    rcases this with rfl | rfl | rfl | rfl | rfl | rfl
    · exact m1 _ (.tail _ (.head _))
    · exact m1 _ (.tail _ (.tail _ (.head _)))
    · exact m1 _ (.tail _ (.tail _ (.tail _ (.head _))))
    · exact m1 _ (.tail _ (.tail _ (.tail _ (.tail _ (.head _)))))
    · exact m1 _ (.tail _ (.tail _ (.tail _ (.tail _ (.tail _ (.head _))))))
    · exact m1 _ (.tail _ (.tail _ (.tail _ (.tail _ (.tail _ (.tail _ (.head _)))))))
  rw [h6]
  exact law_rest (K := (K.at 348 349 350 351 6)) (S := 611) (ML := 357) (DU := 602) L hw (.inl rfl) hp h1 h2 ⟨O.h0, O.h1, O.h2, O.h3, O.m0, O.m1, O.m2, O.m3⟩ hs (.tail _ (i1 _ hC)) (.tail _ (i1 _ hJ)) (.tail _ (i1 _ hN)) (.tail _ (i1 _ (hR _ (.head _)))) (fun i hi => ⟨.tail _ (i1 _ (R i hi).1), .tail _ (i1 _ (R i hi).2)⟩)
    (m := f6 360 398 436 474 512 550) (.tail _ (m1 _ (.head _))) (fun k hk => .tail _ (mm k hk)) hpp hl hp6 (.head _) (Rep.tok D2 t2) H
theorem law_midb (L : Deep 600 A) (hw : w.params = PX b1 b2 q) {p0 p1 : Nat} {x1 x2 x3 : Int} {w1 w2 w3 : Nat} (hp : P6 p0 p1) (h1 : x1.fmod 3 = p0) (h2 : x2.fmod 2 = p1) (O : K.Ok)
    (hs : [K.s0, K.s1, K.s2, K.s3] = snS p0 p1 (wA x1) (wB x1) (wA x2) (wB x2) (wA x3) (wB x3)) {Fv : Facts} (hC : (218, lstO #[.int K.c0 K.t0, .int K.c1 K.t1, .int K.c2 K.t2, .int K.c3 K.t3] 4) ∈ Fv) (hJ : (228, lstO #[.int x1 w1, .int x2 w2, .int x3 w3] 3) ∈ Fv)
    (hN : (256, lstO #[.int K.s0 K.u0, .int K.s1 K.u1, .int K.s2 K.u2, .int K.s3 K.u3] 0) ∈ Fv) (hR : ∀ p ∈ (115, rowsO W) :: rsF W [], p ∈ Fv) {X0 e0 e1 e2 e3 : Nat}
    (D : Rep h₀ ⟨kt (PX b1 b2 q), Fv, [fr4 (PX b1 b2 q) X0 e0 e1 e2 e3, ce 111 115, (112, celO none), (113, celO none)], tb0, 345, tk⟩ h)
    (H : ∀ h' tk', OldK h₀ h' → Q (.ret (.bool true)) ⟨h', g, d, tk', os⟩) :
    wpAny (model prog w) A (execs [lawS 4, lawS 5, lawS 6, lawS 7, lawS 8, lawS 9, lawS 10, lawS 11] (lawEnv 110)) Q E ⟨h, g, d, tk, os⟩ := by
  obtain ⟨r6, h6⟩ : ∃ r, r = [lawS 6, lawS 7, lawS 8, lawS 9, lawS 10, lawS 11] := ⟨_, rfl⟩
  rw [← h6]
  refine execs_split (law_s4b (nn := 0) (L.less (by omega)) hw O hC hN hR D fun g1 t1 y0 y1 y2 y3 y4 y5 D1 => ?_)
  obtain ⟨F1, hF1⟩ : ∃ F1, F1 = marksF 357 W (K.at 351 352 353 354 6) y0 y1 y2 y3 y4 y5 ++ Fv := ⟨_, rfl⟩
  rw [← hF1] at D1
  have i1 : ∀ x ∈ Fv, x ∈ F1 := fun x hx => by rw [hF1]; exact List.mem_append_right _ hx
  have m1 : ∀ x ∈ marksF 357 W (K.at 351 352 353 354 6) y0 y1 y2 y3 y4 y5, x ∈ F1 := fun x hx => by rw [hF1]; exact List.mem_append_left _ hx
  refine execs_split (law_s5b (nn := 0) (L.less (by omega)) hw m1 (Rep.tok D1 t1) fun g2 t2 p c e t hpp hl hp6 D2 => ?_)
  have R : ∀ i, i < 6 → (W.R i, rowO (W.r i) (W.T i) (i : Nat)) ∈ Fv ∧ (W.T i, tupO (W.r i)) ∈ Fv := fun i hi => by
    have : i = 0 ∨ i = 1 ∨ i = 2 ∨ i = 3 ∨ i = 4 ∨ i = 5 := lt6 (by first | assumption | omega)
    rcases this with rfl | rfl | rfl | rfl | rfl | rfl <;> exact ⟨hR _ (by simp [rsF, Rows.R, Rows.r, Rows.T]), hR _ (by simp [rsF, Rows.R, Rows.r, Rows.T])⟩
  have mm : ∀ k, k < 6 → (f6 363 401 439 477 515 553 k, l4 (mkR W (K.at 351 352 353 354 6) k) (f6 (tmF y0) (tmF y1) (tmF y2) (tmF y3) (tmF y4) (tmF y5) k) 4) ∈ F1 := fun k hk => by
    have : k = 0 ∨ k = 1 ∨ k = 2 ∨ k = 3 ∨ k = 4 ∨ k = 5 := lt6 (by first | assumption | omega)
    rcases this with rfl | rfl | rfl | rfl | rfl | rfl
    · exact m1 _ (.tail _ (.head _))
    · exact m1 _ (.tail _ (.tail _ (.head _)))
    · exact m1 _ (.tail _ (.tail _ (.tail _ (.head _))))
    · exact m1 _ (.tail _ (.tail _ (.tail _ (.tail _ (.head _)))))
    · exact m1 _ (.tail _ (.tail _ (.tail _ (.tail _ (.tail _ (.head _))))))
    · exact m1 _ (.tail _ (.tail _ (.tail _ (.tail _ (.tail _ (.tail _ (.head _)))))))
  rw [h6]
  exact law_rest (K := (K.at 351 352 353 354 6)) (S := 614) (ML := 360) (DU := 605) L hw (.inr rfl) hp h1 h2 ⟨O.h0, O.h1, O.h2, O.h3, O.m0, O.m1, O.m2, O.m3⟩ hs (.tail _ (i1 _ hC)) (.tail _ (i1 _ hJ)) (.tail _ (i1 _ hN)) (.tail _ (i1 _ (hR _ (.head _)))) (fun i hi => ⟨.tail _ (i1 _ (R i hi).1), .tail _ (i1 _ (R i hi).2)⟩)
    (m := f6 363 401 439 477 515 553) (.tail _ (m1 _ (.head _))) (fun k hk => .tail _ (mm k hk)) hpp hl hp6 (.head _) (Rep.tok D2 t2) H
theorem law_body (L : Deep 600 A) (hw : w.params = PX b1 b2 q) {xs : Array Value} {u0 X0 e0 : Nat} (hI : allI xs.toList = true) (hsz : xs.size ≤ sizeLine)
    (D : Rep h₀ ⟨kt (PX b1 b2 q), [(X0, lstO xs u0)], [(110, frO #[de (PX b1 b2 q) "script" e0 (.ref X0)] 1), (111, celO none), (112, celO none), (113, celO none)], tb0, 114, tk⟩ h)
    (H : ∀ h' tk', OldK h₀ h' → Q (.ret (.bool true)) ⟨h', g, d, tk', os⟩) : wpAny (model prog w) A (execs (sBody (stAt 14)) (lawEnv 110)) Q E ⟨h, g, d, tk, os⟩ := by
  have eb : sBody (stAt 14) = [lawS 0, lawS 1, lawS 2, lawS 3, lawS 4, lawS 5, lawS 6, lawS 7, lawS 8, lawS 9, lawS 10, lawS 11] := by kernel_rfl
  rw [eb]
  obtain ⟨r4, h4⟩ : ∃ r, r = [lawS 4, lawS 5, lawS 6, lawS 7, lawS 8, lawS 9, lawS 10, lawS 11] := ⟨_, rfl⟩
  rw [← h4]
  refine execs_split (law_s0 (nn := 0) (N := 110) (Fx := []) (L.less (by omega)) hw hI hsz D fun g0 t0 r0 r1 r2 r3 r4 r5 D0 => ?_)
  obtain ⟨F0, hF0⟩ : ∃ F0, F0 = ((X0, lstO xs u0) :: []) ++ rowF (110 + 4) r0 r1 r2 r3 r4 r5 := ⟨_, rfl⟩
  rw [← hF0] at D0
  have hX : (X0, lstO xs u0) ∈ F0 := by rw [hF0]; exact .head _
  have hR0 : ∀ p ∈ rowF (110 + 4) r0 r1 r2 r3 r4 r5, p ∈ F0 := fun p hp => by rw [hF0]; exact List.mem_append_right _ hp
  refine execs_split (law_s1 (nn := 0) (N := 110) (L.less (by omega)) hw hI hsz hX (Rep.tok D0 t0) fun g1 t1 y1 y2 y3 y4 v1 v2 v3 v4 e1 D1 => ?_)
  have md : ∀ y : Int, ∃ c : Nat, y.fmod 3 = c ∧ c < 3 := fun y => by
    have a1 := Int.fmod_nonneg_of_pos y (show (0 : Int) < 3 by decide)
    have a2 := Int.fmod_lt_of_pos y (show (0 : Int) < 3 by decide)
    exact ⟨(y.fmod 3).toNat, by omega, by omega⟩
  obtain ⟨c1, hc1, l1⟩ := md y1
  obtain ⟨c2, hc2, l2⟩ := md y2
  obtain ⟨c3, hc3, l3⟩ := md y3
  obtain ⟨c4, hc4, l4⟩ := md y4
  rw [hc1, hc2, hc3, hc4] at D1
  refine execs_split (law_s2 (nn := 0) (N := 110) (L.less (by omega)) hw hI hsz (.tail _ hX) (Rep.tok D1 t1) fun g2 t2 x1 x2 x3 w1 w2 w3 e2 D2 => ?_)
  refine execs_split (law_s3 (nn := 0) (N := 110) (L.less (by omega)) hw (.head _) (Rep.tok D2 t2) fun g3 t3 p0 p1 s0 s1 s2 s3 u0 u1 u2 u3 e3 q0 q1 lp0 lp1 hs D3 => ?_)
  obtain ⟨W, hW⟩ : ∃ W : Rows, W = ⟨165, 168, 171, 174, 177, 180, 164, 167, 170, 173, 176, 179, r0, r1, r2, r3, r4, r5⟩ := ⟨_, rfl⟩
  have hR : ∀ p ∈ (115, rowsO W) :: rsF W [], p ∈ rowF (110 + 4) r0 r1 r2 r3 r4 r5 := fun p hp => by rw [hW] at hp; exact hp
  have hR3 : ∀ p ∈ (115, rowsO W) :: rsF W [], p ∈ (256, lstO #[.int s0 u0, .int s1 u1, .int s2 u2, .int s3 u3] 0) :: (228, lstO #[.int x1 w1, .int x2 w2, .int x3 w3] 3) :: (218, lstO #[.int c1 v1, .int c2 v2, .int c3 v3, .int c4 v4] 4) :: F0 := fun p hp => .tail _ (.tail _ (.tail _ (hR0 p (hR p hp))))
  obtain ⟨K, hK⟩ : ∃ K : Keys, K = { K0 := 0, K1 := 0, K2 := 0, K3 := 0, kn := 0, c0 := c1, c1 := c2, c2 := c3, c3 := c4, t0 := v1, t1 := v2, t2 := v3, t3 := v4, s0 := s0, s1 := s1, s2 := s2, s3 := s3, u0 := u0, u1 := u1, u2 := u2, u3 := u3 } := ⟨_, rfl⟩
  have O : K.Ok := by subst hK; exact ⟨l1, l2, l3, l4, mul6, mul6, mul6, mul6⟩
  have hp : P6 p0 p1 := by unfold P6; omega
  have hs' : [K.s0, K.s1, K.s2, K.s3] = snS p0 p1 (wA x1) (wB x1) (wA x2) (wB x2) (wA x3) (wB x3) := by subst hK; exact hs
  have hC : (218, lstO #[.int K.c0 K.t0, .int K.c1 K.t1, .int K.c2 K.t2, .int K.c3 K.t3] 4) ∈ (256, lstO #[.int s0 u0, .int s1 u1, .int s2 u2, .int s3 u3] 0) :: (228, lstO #[.int x1 w1, .int x2 w2, .int x3 w3] 3) :: (218, lstO #[.int c1 v1, .int c2 v2, .int c3 v3, .int c4 v4] 4) :: F0 := by subst hK; exact .tail _ (.tail _ (.head _))
  have hN : (256, lstO #[.int K.s0 K.u0, .int K.s1 K.u1, .int K.s2 K.u2, .int K.s3 K.u3] 0) ∈ (256, lstO #[.int s0 u0, .int s1 u1, .int s2 u2, .int s3 u3] 0) :: (228, lstO #[.int x1 w1, .int x2 w2, .int x3 w3] 3) :: (218, lstO #[.int c1 v1, .int c2 v2, .int c3 v3, .int c4 v4] 4) :: F0 := by subst hK; exact .head _
  rw [h4]
  have sn : snN p0 p1 = 92 ∨ snN p0 p1 = 95 := by rcases hp with ⟨rfl, rfl⟩ | ⟨rfl, rfl⟩ | ⟨rfl, rfl⟩ | ⟨rfl, rfl⟩ | ⟨rfl, rfl⟩ | ⟨rfl, rfl⟩ <;> simp [snN]
  rcases sn with sn | sn
  · rw [sn] at D3
    exact law_mida (W := W) (K := K) L hw hp q0 q1 O hs' hC (.tail _ (.head _)) hN hR3 (Rep.tok D3 t3) H
  · rw [sn] at D3
    exact law_midb (W := W) (K := K) L hw hp q0 q1 O hs' hC (.tail _ (.head _)) hN hR3 (Rep.tok D3 t3) H
end
end Mine
namespace Mine
open PySem PySem.W PySem.W.X PySem.Spec PySem.Calls PyProof.Rows
open PySem.W.Fast
noncomputable def VT (P : Params) (prog : Program) : Env9 := ⟨⟨prog, P⟩, fun c => match c with
  | .func .. => true
  | _ => false⟩
noncomputable def toL : KT → Nat → Nat → List (Nat × Obj)
  | .nil, _, _ => []
  | .node v l r, s, b => (match v with | some o => [(b, o)] | none => []) ++ (toL l (2 * s) (s + b) ++ toL r (2 * s) (2 * s + b))
theorem toL_holds {h : Heap} : ∀ {t : KT} {s b : Nat}, (∀ p ∈ toL t s b, h.get? p.1 = some p.2) → KT.Holds h s b t
  | .nil, _, _, _ => trivial
  | .node v l r, s, b, H => by
    refine ⟨fun o e => ?_, toL_holds fun p hp => H p (List.mem_append_right _ (List.mem_append_left _ hp)), toL_holds fun p hp => H p (List.mem_append_right _ (List.mem_append_right _ hp))⟩
    subst e
    exact H (b, o) (List.mem_append_left _ (.head _))
theorem rep_head {h : Heap} {P : Params} {t : KT} (Z : KT.Holds h 1 0 t) (hc : (toL (kt P) 1 0).map (fun p => t.get p.1) = (toL (kt P) 1 0).map (fun p => some p.2))
    {B : Facts} (hb : B.map (fun p => t.get p.1) = B.map (fun p => some p.2)) (hT : ∀ p ∈ B, ∃ c, h.TableAt c p.1 #[] ∧ p.1 ≠ cStatics ∧ p.2 = tableObj #[]) (hn : ∀ p ∈ B, (kt P).get p.1 = none) (bd : (B.map (·.1)).Pairwise (· < ·))
    (st : t.get cStatics = some statObj) {X N tk : Nat} {o : Obj} (hX : h.get? X = some o) (hXB : ∀ p ∈ B, X ≠ p.1) (hN : h.objs.size = N) : Rep h ⟨kt P, [(X, o)], [], B, N, tk⟩ h := by
  have get : ∀ {a o}, t.get a = some o → h.get? a = some o := fun {a o} e => by
    have := Z.get e
    rwa [Nat.one_mul, Nat.add_zero] at this
  have hk : KT.Holds h 1 0 (kt P) := toL_holds fun p hp => get (List.map_inj_left.mp hc p hp)
  have kget : ∀ {a o}, (kt P).get a = some o → h.get? a = some o := fun {a o} e => by
    have := hk.get e
    rwa [Nat.one_mul, Nat.add_zero] at this
  have D := rep_start (T := kt P) (F := [(X, o)]) (t := tk) hN (fun a o e => kget e) (fun p hp => by rcases List.mem_singleton.mp hp with rfl; exact hX) (get st)
  refine { D with B := fun p hp => ⟨get (List.map_inj_left.mp hb p hp), ?_⟩, bd := bd, fb := fun p hp z hz => ?_, tb := fun z hz => hn z hz, kp := fun b o e _ => e }
  · obtain ⟨c, h1, h2, h3⟩ := hT p hp
    exact ⟨h2, c, #[], #[], h1, by rw [h3]; rfl⟩
  · rcases List.mem_singleton.mp hp with rfl
    exact hXB z hz
section
variable {prog : Program} {w : World} {A : Around} {R : Result → Shared → Prop} {h₀ h : Heap} {g : Array GenState} {d : Drawn} {tk : Nat} {os : OsState} {b1 b2 : Bool} {q : Params}
theorem law_call (L : Deep 625 A) (hw : w.params = PX b1 b2 q) {xs : Array Value} {u0 : Nat} (hI : allI xs.toList = true) (hsz : xs.size ≤ sizeLine)
    (D : Rep h₀ ⟨kt (PX b1 b2 q), [(109, lstO xs u0)], [], tb0, 110, tk⟩ h) (H : ∀ h' tk', OldK h₀ h' → R (.ok (.ret (.bool true))) ⟨h', g, d, tk', os⟩) :
    codeAny (model prog w) A (.call (.ref 108) ⟨[.ref 109], []⟩) R ⟨h, g, d, tk, os⟩ := by
  have hP : (VT (PX b1 b2 q) prog).P = ⟨prog, w.params⟩ := by rw [hw]; rfl
  refine start (V := VT (PX b1 b2 q) prog) L hP 100000 2 [1,0,1,1] D rfl ?_
  refine good_tail (n := 605) L (c := .func (sBody (stAt 14)) (lawEnv 110)) (pp := []) (by cases b1 <;> cases b2 <;> kernel_rfl) (by cases b1 <;> cases b2 <;> kernel_rfl) trivial fun h1 D1 => ?_
  have D2 := D1.toF (T := kt (PX b1 b2 q)) (F := [(109, lstO xs u0)]) (Z := [(110, frO #[de (PX b1 b2 q) "script" tk (.ref 109)] 1), (111, celO none), (112, celO none), (113, celO none)]) (B := tb0) (nx := 114) (tk := tk) [0,1,2,3] (by cases b1 <;> cases b2 <;> kernel_rfl) (by cases b1 <;> cases b2 <;> kernel_rfl) rfl
  refine codeAny_func ?_
  have L2 : Deep 624 (A.deeper (lawEnv 110)) := Deep.deeper L
  exact law_body (L2.less (by omega)) hw hI hsz (Rep.tok D2 _) H
end
end Mine
open PySem PySem.W PyProof.Rows PySem.W.X PySem.W.ZRun
namespace Mine
theorem allI_of : ∀ {vs : List Value}, (∀ v ∈ vs, ∃ n t, v = Value.int n t) → allI vs = true
  | [], _ => rfl
  | v :: l, H => by
    obtain ⟨n, t, rfl⟩ := H _ (.head _)
    exact allI_of (vs := l) fun v hv => H v (.tail _ hv)
theorem tb_head {h : Heap} (h20 : ∃ o vs, h.get? 20 = some o ∧ o.cls = .type "code" ∧ o.data = .fields vs ∧ vs[11]? = some (.ref 16)) (h76 : ∃ o vs, h.get? 76 = some o ∧ o.cls = .type "code" ∧ o.data = .fields vs ∧ vs[11]? = some (.ref 72))
    (h90 : ∃ o vs, h.get? 90 = some o ∧ o.cls = .type "code" ∧ o.data = .fields vs ∧ vs[11]? = some (.ref 86)) (h107 : ∃ o vs, h.get? 107 = some o ∧ o.cls = .type "code" ∧ o.data = .fields vs ∧ vs[11]? = some (.ref 105))
    (g : ∀ p ∈ tb0, h.get? p.1 = some p.2) : ∀ p ∈ tb0, ∃ c, h.TableAt c p.1 #[] ∧ p.1 ≠ cStatics ∧ p.2 = tableObj #[] :=
  all_c ⟨20, ⟨h20, g _ in_h⟩, by decide, rfl⟩ (all_c ⟨76, ⟨h76, g _ (in_t in_h)⟩, by decide, rfl⟩ (all_c ⟨90, ⟨h90, g _ (in_t (in_t in_h))⟩, by decide, rfl⟩ (all_c ⟨107, ⟨h107, g _ (in_t (in_t (in_t in_h)))⟩, by decide, rfl⟩ all_n)))
theorem deep_caller : Deep 625 callerA := ⟨rfl, by decide, by decide⟩
end Mine
set_option maxRecDepth 100000 in
set_option maxHeartbeats 8000000 in
theorem PySem.Challenge.cw_mq0115_01_holds : PySem.Challenge.rw_mq0115_01.Holds := by
  w_on; o_law; z_head; (case hw => w_witness2)
  k_fill
  intro w s₀ s₁ mg mb G y fa o pm cd doc dV kV ho hd hcd hD hmg hg args vals as L hpre hlay hrd hwl hlo
  z_open y L KX ZH ZN ZT
  refine Ground.open G ?_
  intro T B D TE TW
  wrow_args hpre hlay hrd hwl hlo
  obtain ⟨hat, hsz⟩ := script_at L
  have htk := script_toks L ZT
  rw [ZN] at hat hsz
  subst hat
  x_fa T KX hmg
  all_lens
  rename_i ns _ _ _ _ _ _ _ vs _ _ _ _ _ hIL _ _ hIA hlen
  obtain ⟨b1, b2, hw⟩ := Mine.PX_self w.params
  have hX := script_obj L hIL
  have get : ∀ {a o}, _ → s₁.heap.get? a = some o := fun {a o} e => by
    have := KT.Holds.get ZH (j := a) (o := o) e
    rwa [Nat.one_mul, Nat.add_zero] at this
  have hk : KT.Holds s₁.heap 1 0 _ := ZH
  have D0 := Mine.rep_head (P := w.params) (B := Mine.tb0) (N := 110) (tk := s₁.toks) hk (by kernel_rfl) (by kernel_rfl)
    (Mine.tb_head ⟨Mine.ob20 w.params, _, get (by kernel_rfl), rfl, rfl, rfl⟩ ⟨Mine.ob76 w.params, _, get (by kernel_rfl), rfl, rfl, rfl⟩ ⟨Mine.ob90 w.params, _, get (by kernel_rfl), rfl, rfl, rfl⟩ ⟨Mine.ob107 w.params, _, get (by kernel_rfl), rfl, rfl, rfl⟩ (Mine.all_c (get (by kernel_rfl)) (Mine.all_c (get (by kernel_rfl)) (Mine.all_c (get (by kernel_rfl)) (Mine.all_c (get (by kernel_rfl)) Mine.all_n))))) (Mine.all_c (by kernel_rfl) (Mine.all_c (by kernel_rfl) (Mine.all_c (by kernel_rfl) (Mine.all_c (by kernel_rfl) Mine.all_n)))) (by decide) (by kernel_rfl) hX (Mine.all_c (by decide) (Mine.all_c (by decide) (Mine.all_c (by decide) (Mine.all_c (by decide) Mine.all_n)))) hsz
  have D1 : Mine.Rep s₁.heap ⟨Mine.kt (Mine.PX b1 b2 w.params), _, _, _, _, _⟩ s₁.heap := hw ▸ D0
  refine wpAny_call (Mine.law_call (q := w.params) (h₀ := s₁.heap) Mine.deep_caller hw (Mine.allI_of fun v hv => ?_) ?_ D1 fun h' tk' ho => ?_)
  · obtain ⟨i, hi⟩ := List.getElem?_of_mem hv
    obtain ⟨n, t, e, _⟩ := IntsAre.at hIA i v hi
    exact ⟨n, t, e⟩
  · show vs.length ≤ sizeLine
    have : 2 ^ 20 ≤ sizeLine := by decide
    omega
  · refine ⟨.inl ⟨_, _, [], rfl, fun _ => rfl, ReadsW.bool true, ?_, fun _ => ⟨List.nodup_nil, fun _ hm => (nomatch hm)⟩⟩, ho, rfl, .of_eq hg⟩
    first | rfl | wrow_post
