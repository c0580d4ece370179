import PyProof.Rows.All
import Wide.All
import OpenK.AllK
import Wide.FinOn
import Lean
import PySem.Challenge.RW_oy0040_01
set_option Elab.async false
section
namespace Mine.Om
/-! small steps with numbers -/
theorem lt_c {x a b : Nat} (h : x < a) (k : Nat.ble a b = true) : x < b := Nat.lt_of_lt_of_le h (Nat.le_of_ble_eq_true k)
theorem lt_d {x y a b : Nat} (h' : x ≤ y) (h : y < a) (k : Nat.ble a b = true) : x < b := Nat.lt_of_le_of_lt h' (lt_c h k)
theorem lt_e {x y a b : Nat} (h' : x < y) (h : y < a) (k : Nat.ble a b = true) : x < b := Nat.lt_trans h' (lt_c h k)
theorem lt_f {x a b c : Nat} (h : x < a) (k : Nat.ble (a + c) b = true) : x + c < b := Nat.lt_of_lt_of_le (Nat.add_lt_add_right h c) (Nat.le_of_ble_eq_true k)
theorem lt_g {x y a b : Nat} (e : x = y) (h : y < a) (k : Nat.ble a b = true) : x < b := e ▸ lt_c h k
theorem lt_h {x y a b : Nat} (e : y = x) (h : y < a) (k : Nat.ble a b = true) : x < b := e ▸ lt_c h k
theorem lt_m {x m q a b c : Nat} (h : x < m) (h' : m + q + c < a) (k : Nat.ble a b = true) : x < b := lt_e (Nat.lt_of_lt_of_le h (Nat.le_trans (Nat.le_add_right m q) (Nat.le_add_right _ c))) h' k
theorem le_c {x a b : Nat} (h : x < a) (k : Nat.ble a (b + 1) = true) : x ≤ b := Nat.le_of_lt_succ (lt_c h k)
theorem le_d {x y a b : Nat} (h' : x ≤ y) (h : y < a) (k : Nat.ble a (b + 1) = true) : x ≤ b := Nat.le_trans h' (le_c h k)
theorem le_f {x a b c : Nat} (h : x < a) (k : Nat.ble (a + c) (b + 1) = true) : x + c ≤ b := Nat.le_of_lt_succ (lt_f h k)
theorem lt_i {x a : Nat} {b : Int} (h : x < a) (k : decide ((a : Int) ≤ b) = true) : (x : Int) < b := Int.lt_of_lt_of_le (Int.ofNat_lt.mpr h) (of_decide_eq_true k)
theorem lt_j {x y a : Nat} {b : Int} (h' : x ≤ y) (h : y < a) (k : decide ((a : Int) ≤ b) = true) : (x : Int) < b := lt_i (Nat.lt_of_le_of_lt h' h) k
theorem lt_k {x y a : Nat} {b : Int} (h' : x < y) (h : y < a) (k : decide ((a : Int) ≤ b) = true) : (x : Int) < b := lt_i (Nat.lt_trans h' h) k
theorem u_c {u a b L : Nat} (h : u + a < L) (k : Nat.ble b a = true) : u + b < L := Nat.lt_of_le_of_lt (Nat.add_le_add_left (Nat.le_of_ble_eq_true k) u) h
theorem u_d {u a b m L : Nat} (h : u + m + a < L) (k : Nat.ble b a = true) : u + b < L := Nat.lt_of_le_of_lt (Nat.add_le_add (Nat.le_add_right u m) (Nat.le_of_ble_eq_true k)) h
theorem neg_n {x : Nat} {a : Int} (k : decide (a ≤ 0) = true) : a ≤ (x : Int) := Int.le_trans (of_decide_eq_true k) (Int.natCast_nonneg x)
theorem ne_lt {x y : Nat} (h : x < y + 1) (e : ¬ x = y) : x < y := Nat.lt_of_le_of_ne (Nat.le_of_lt_succ h) e
theorem ne_lt' {x y : Nat} (h : x ≤ y) (e : ¬ x = y) : x < y := Nat.lt_of_le_of_ne h e
theorem sf1 {n f N : Nat} (h : n + (f + 1) ≤ N) : n + 1 + f ≤ N := by rw [Nat.add_right_comm]; exact h
theorem sf2 {n f N : Nat} (h : n + (f + 1) ≤ N) : n < N := Nat.lt_of_lt_of_le (Nat.lt_add_of_pos_right (Nat.succ_pos f)) h
theorem sf3 {n f N : Nat} (h : n + 1 + f = N) : n + (f + 1) = N := by rw [← h, Nat.add_right_comm]; rfl
theorem sf4 {n f N : Nat} (h : n + (f + 1) = N) : n + 1 + f = N := by rw [Nat.add_right_comm]; exact h
theorem sf5 {n f N : Nat} (h : n + (f + 1) = N) : n < N := sf2 (Nat.le_of_eq h)
theorem sf6 {x n f : Nat} (h : x ≤ n + 1 + f) : x ≤ n + (f + 1) := by rw [Nat.add_right_comm] at h; exact h
theorem n0 {n : Nat} (h : ¬ n > 0) : n = 0 := Nat.eq_zero_of_not_pos h
theorem n1 {n : Nat} (h : ¬ n = 0) : 0 < n := Nat.pos_of_ne_zero h
theorem p1 {q n : Nat} (h : q + 1 ≤ n) : n - 1 < n := Nat.sub_lt (Nat.lt_of_lt_of_le (Nat.succ_pos q) h) Nat.one_pos
theorem p2 {q n f N : Nat} (h : q + 1 ≤ n) (hf : n + (f + 1) ≤ N) : n - 1 < N := Nat.lt_trans (p1 h) (sf2 hf)
theorem p3 {n N : Nat} (h : 1 ≤ n) (hf : n ≤ N) : n - 1 < N := Nat.lt_of_lt_of_le (p1 (q := 0) h) hf
theorem p4 {i j n : Nat} (h : i < j) (hf : j < n + 1) : j - 1 < n := Nat.lt_of_lt_of_le (p1 (Nat.le_trans (Nat.succ_le_succ (Nat.zero_le i)) h)) (Nat.le_of_lt_succ hf)
theorem p5 {i j : Nat} (h : i < j) : i ≤ j - 1 := Nat.le_sub_one_of_lt h
theorem p6 {i j n : Nat} (h : i < n) (e : n ≤ N) : i - 1 < N := Nat.lt_of_le_of_lt (Nat.sub_le _ _) (Nat.lt_of_lt_of_le h e)
theorem p7 {i j : Nat} (h : i < j) (e : ¬ i = j - 1) : i < j - 1 := Nat.lt_of_le_of_ne (p5 h) e
theorem p8 {l i j : Nat} (h : l < i) (h' : i < j) : i - 1 < j - 1 := Nat.sub_lt_sub_right (Nat.lt_of_lt_of_le (Nat.succ_pos l) h) h'
theorem q1 {q n : Nat} : n - (q + 1) ≤ n - 1 := Nat.sub_le_sub_left (Nat.succ_le_succ (Nat.zero_le q)) n
theorem q2 {n N : Nat} (h : n ≤ N) : n + (N - n) ≤ N := Nat.le_of_eq (Nat.add_sub_cancel' h)
theorem q3 {n N : Nat} (h : n ≤ N) : n + (N - n) = N := Nat.add_sub_cancel' h
theorem q4 {l k : Nat} (h : l ≤ k) : k - (k - l) = l := Nat.sub_sub_self h
theorem q5 {m n N : Nat} (h : n ≤ N) (h' : m ≤ n + (N - n)) : m ≤ N := Nat.le_trans h' (q2 h)
theorem r1 {i a b n : Nat} (h : a ≤ i) : ¬ (i < a ∧ b ≤ n) := fun q => Nat.not_lt.mpr h q.1
theorem r2 {i a b n : Nat} (h : ¬ a < i) : ¬ (a < i ∧ b ≤ n) := fun q => h q.1
theorem r3 {i a b n : Nat} (h : i < a) : ¬ (a < i ∧ b ≤ n) := fun q => Nat.lt_asymm h q.1
theorem r4 {i a b n : Nat} (h : n ≤ b) : ¬ (a ≤ i ∧ b < n) := fun q => Nat.not_lt.mpr h q.2
theorem r5 {i a b n : Nat} (h : ¬ a ≤ i) : ¬ (a ≤ i ∧ b < n) := fun q => h q.1
theorem r6 {l i : Nat} (h : ¬ i < l) (e : ¬ i = l) : l < i := Nat.lt_of_le_of_ne (Nat.not_lt.mp h) fun q => e q.symm
theorem r7 {l i : Nat} (h : ¬ l < i) (e : ¬ i = l) : i < l := Nat.lt_of_le_of_ne (Nat.not_lt.mp h) e
theorem r8 {l i j : Nat} (h : ¬ i < l) (e : i < j) : l < j := Nat.lt_of_le_of_lt (Nat.not_lt.mp h) e
theorem r9 {l i j : Nat} (h : ¬ i < l) (e : i < j) : ¬ j = l := fun q => h (q ▸ e)
theorem ra {n : Nat} (h : 1 ≤ n) (e : ¬ n > 1) : n = 1 := Nat.le_antisymm (Nat.not_lt.mp e) h
theorem rb {i : Nat} (h : i < 1) : i = 0 := Nat.lt_one_iff.mp h
theorem rc {N n : Nat} (h : n ≤ N) (e : ¬ n < N) : n = N := Nat.le_antisymm h (Nat.not_lt.mp e)
theorem rd {l r : Nat} (h : l ≤ r) (e : l ≥ r) : l = r := Nat.le_antisymm h e
theorem re {l r : Nat} (h : l ≤ r) (e : r - l ≤ 0) : l = r := Nat.le_antisymm h (Nat.sub_eq_zero_iff_le.mp (Nat.le_zero.mp e))
theorem rf {n a : Nat} (h : a < n) (e : n ≤ N) : a < N := Nat.lt_of_lt_of_le h e
theorem rg {i j : Nat} (h : i < j) (h' : j < 1) {P : Prop} : P := absurd h (by rw [rb h']; exact Nat.not_lt_zero i)
theorem mx {n : Nat} (h : 1 ≤ n) : max n 1 = n := Nat.max_eq_left h
end Mine.Om
end
section
open PySem PySem.W PySem.W.X PyProof.Rows
set_option maxRecDepth 100000
set_option linter.unusedVariables false
namespace Mine
/-! a run of a tree, told in advance: which object every load and every update means -/

/-- the calls that are under way -/
inductive Ks where
  | base
  | ret (Γ : Ctx) (p : Pos) (k : Result → Sem Fin) (κ : Ks)

/-- what a load, an update or a call means: a table, an old object, a new one; go in, a contract -/
inductive Lx where
  | tab
  | old (j : Nat)
  | new (j : Nat)
  | stop (j : Nat)
  | go
  | con (j : Nat)
/-- what a call is known to do -/
structure Con where
  code : Code
  res : Value
  need : BT → List (Option Obj × Option Obj)
  kin : BT → List (Option Value × Option Value)
  T : BT → BT
  pos : Nat
  m : Nat
  i : Nat
  ti : Nat
/-- what calls of a kind are known to do: read off the code, the objects and the counts -/
structure SumR where
  res : Value
  T : BT
  m : Nat
  i : Nat
  ob : List (Nat × Nat)
  cs : List (Code × Code)
  ne : List (Option Obj × Option Obj)
  ki : List (Option Value × Option Value)
noncomputable abbrev SumC := Code → BT → Nat → Nat → Option SumR
noncomputable def Con.sum (C : Con) : SumC := fun c T m i => some ⟨C.res, C.T T, C.m, C.i, [(i, C.ti), (m, C.pos)], [(c, C.code)], C.need T, C.kin T⟩
structure Out where
  val : Value
  T : BT
  m : Nat
  ch : Ch
  i : Nat
  ob : List (Nat × Nat)
  cs : List (Code × Code)
  ne : List (Option Obj × Option Obj)
  ki : List (Option Value × Option Value)
  rest : Option (Sem Fin) := none

structure Sv2 where
  T : BT
  m : Nat
  ch : Ch
  i : Nat
  ob : List (Nat × Nat)
  cs : List (Code × Code)
  ne : List (Option Obj × Option Obj)
  ki : List (Option Value × Option Value)

noncomputable abbrev RunTy := List Lx → Ctx → Pos → Ks → Sem Fin → Sv2 → Option Out
noncomputable def som {α : Type _} (x : Option α) (f : α → Option Out) : Option Out := @Option.rec α (fun _ => Option Out) none f x
noncomputable def yes (b : Bool) (x : Option Out) : Option Out := @Bool.rec (fun _ => Option Out) none x b
noncomputable def noo (b : Bool) (x : Option Out) : Option Out := @Bool.rec (fun _ => Option Out) x none b
theorem som_of {α : Type _} {x : Option α} {f : α → Option Out} {R : Out} {G : Prop} (H : som x f = some R) (k : ∀ a, x = some a → f a = some R → G) : G := by
  cases x with
  | none => cases H
  | some a => exact k a rfl H
theorem yes_of {b : Bool} {x : Option Out} {R : Out} {G : Prop} (H : yes b x = some R) (k : b = true → x = some R → G) : G := by
  cases b with
  | false => cases H
  | true => exact k rfl H
theorem noo_of {b : Bool} {x : Option Out} {R : Out} {G : Prop} (H : noo b x = some R) (k : b = false → x = some R → G) : G := by
  cases b with
  | true => cases H
  | false => exact k rfl H
theorem no_out {R : Out} {G : Prop} (H : (none : Option Out) = some R) : G := nomatch H
noncomputable def goLoad (V : XV) (olds : List (Nat × Obj)) (ih : RunTy) (Γ : Ctx) (p : Pos) (κ : Ks) (σ : Sv2) (a : Addr) (k : Obj → Sem Fin) (L : List Lx) : Lx → Option Out
  | .tab => som (nowTab V σ.ch a) fun vs => ih L Γ p κ (k (tableObj vs)) σ
  | .old j => som olds[j]? fun q => noo (tabOf q.2).isSome (ih L Γ p κ (k q.2) { σ with ob := (a, q.1) :: σ.ob })
  | .new j => som (σ.T.get j) fun ob => ih L Γ p κ (k ob) { σ with ob := (a, V.n₁ + j) :: σ.ob }
  | .stop j => match κ with
    | .base => som (σ.T.get j) fun ob => some ⟨.none, σ.T, σ.m, σ.ch, σ.i, (a, V.n₁ + j) :: σ.ob, σ.cs, σ.ne, σ.ki, some (k ob)⟩
    | .ret .. => none
  | _ => none
noncomputable def goUpd (V : XV) (ih : RunTy) (Γ : Ctx) (p : Pos) (κ : Ks) (σ : Sv2) (a : Addr) (f : Obj → Obj) (k : Unit → Sem Fin) (L : List Lx) : Lx → Option Out
  | .tab => som (nowTab V σ.ch a) fun vs => som (tabOf (f (tableObj vs))) fun vs' => som (strip vs.toList vs'.toList) fun _ => ih L Γ p κ (k ()) { σ with ch := chPut σ.ch a vs' }
  | .new j => som (σ.T.get j) fun ob => noo (f ob).isFreed (ih L Γ p κ (k ()) { σ with T := σ.T.set j f, ob := (a, V.n₁ + j) :: σ.ob })
  | _ => none
noncomputable def goCall (dn : Code → Sem Fin) (cons : List SumC) (ih : RunTy) (Γ : Ctx) (p : Pos) (κ : Ks) (σ : Sv2) (c' : Code) (k : Result → Sem Fin) (L : List Lx) : Lx → Option Out
  | .go => ih L (Γ.enter c' none p) p (.ret Γ p k κ) (dn c') σ
  | .con j => som cons[j]? fun C => som (C c' σ.T σ.m σ.i) fun r => ih L Γ p κ (k (.ok (.ret r.res))) { σ with T := r.T, m := σ.m + r.m, i := σ.i + r.i, ob := r.ob ++ σ.ob, cs := r.cs ++ σ.cs, ne := r.ne ++ σ.ne, ki := r.ki ++ σ.ki }
  | _ => none
noncomputable def hd1 (L : List Lx) (f : List Lx → Lx → Option Out) : Option Out := @List.rec Lx (fun _ => Option Out) none (fun j l _ => f l j) L
theorem hd1_of {L : List Lx} {f : List Lx → Lx → Option Out} {R : Out} {G : Prop} (H : hd1 L f = some R) (k : ∀ j l, f l j = some R → G) : G := by
  cases L with
  | nil => cases H
  | cons j l => exact k j l H
noncomputable def goStep (V : XV) (dn : Code → Sem Fin) (qt : Code → Bool) (olds : List (Nat × Obj)) (cons : List SumC) (ih : RunTy) : RunTy := fun L Γ p κ t σ => match t with
  | .pure fin => match fin with
    | .done f => match κ with
      | .ret Γ' p' k κ' => ih L Γ' p' κ' (k (.ok f)) σ
      | .base => match f with
        | .ret v => some ⟨v, σ.T, σ.m, σ.ch, σ.i, σ.ob, σ.cs, σ.ne, σ.ki, none⟩
        | _ => none
    | .again c' => yes (qt c') (ih L (Γ.goto c') p κ (dn c') σ)
  | .rule _ k => ih L Γ p κ (k ()) σ
  | .at q k => ih L Γ q κ (k ()) σ
  | .point _ k => ih L Γ p κ (k ()) σ
  | .ask k => ih L Γ p κ (k ⟨V.prog, V.w.params⟩) σ
  | .load a _ k => hd1 L fun L j => goLoad V olds ih Γ p κ σ a k L j
  | .alloc ob k => noo ob.isFreed (som ((σ.T.ins σ.m ob).get σ.m) fun _ => ih L Γ p κ (k (V.n₁ + σ.m)) { σ with T := σ.T.ins σ.m ob, m := σ.m + 1 })
  | .update a _ f k => hd1 L fun L j => goUpd V ih Γ p κ σ a f k L j
  | .fresh k => ih L Γ p κ (k (V.t₀ + σ.i)) { σ with i := σ.i + 1 }
  | .stack k => ih L Γ p κ (k ((Γ.code, p) :: Γ.below)) σ
  | .handled own k => ih L Γ p κ (k (if own then Γ.own else Γ.handled)) σ
  | .raise e => match κ with
    | .base => none
    | .ret Γ' p' k κ' => ih L Γ' p' κ' (k (.error e)) σ
  | .call c' hd _ _ k => noo hd.isSome (hd1 L fun L j => goCall dn cons ih Γ p κ σ c' k L j)
  | _ => none
noncomputable def goRun (V : XV) (dn : Code → Sem Fin) (qt : Code → Bool) (olds : List (Nat × Obj)) (cons : List SumC) (n : Nat) : RunTy :=
  Nat.rec (fun _ _ _ _ _ _ => none) (fun _ ih => goStep V dn qt olds cons ih) n

structure Out.ok (R : Out) : Prop where
  ob : R.ob.map (·.1) = R.ob.map (·.2)
  cs : R.cs.map (·.1) = R.cs.map (·.2)
  ne : R.ne.map (·.1) = R.ne.map (·.2)
  ki : R.ki.map (·.1) = R.ki.map (·.2)
theorem pair_eq {α : Type} : ∀ {l : List (α × α)}, l.map (·.1) = l.map (·.2) → ∀ p ∈ l, p.1 = p.2
  | [], _, _, hp => nomatch hp
  | q :: l, h, p, hp => by
    have h1 := List.cons.inj h
    rcases List.mem_cons.mp hp with rfl | hp
    · exact h1.1
    · exact pair_eq h1.2 p hp

/-! soundness -/
section
variable (V : XV) (g : Array GenState)
noncomputable def RK : Ks → Result → Shared → Prop
  | .base => V.R₀
  | .ret Γ p k κ => fun r s => Sem.wp (model V.prog V.w) Γ (k r) (Sem.finPost (model V.prog V.w) Γ (RK κ)) (fun e _ s' => RK κ (.error e) s') p s
noncomputable def MK (Γ : Ctx) (p : Pos) (κ : Ks) (t : Sem Fin) (s : Shared) : Prop := Sem.wp (model V.prog V.w) Γ t (Sem.finPost (model V.prog V.w) Γ (RK V κ)) (fun e _ s' => RK V κ (.error e) s') p s
noncomputable def stOf (h : Heap) (i : Nat) : Shared := ⟨h, g, V.d, V.t₀ + i, V.os⟩
structure AllEq (ob : List (Nat × Nat)) (cs : List (Code × Code)) (ne : List (Option Obj × Option Obj)) (ki : List (Option Value × Option Value)) : Prop where
  ob : ∀ p ∈ ob, p.1 = p.2
  cs : ∀ p ∈ cs, p.1 = p.2
  ne : ∀ p ∈ ne, p.1 = p.2
  ki : ∀ p ∈ ki, p.1 = p.2
structure ConOk (C : Con) : Prop where
  ok : ∀ (A : Around) (h : Heap) (T : BT) (ch : Ch), Rep V h T C.pos ch → (∀ p ∈ C.need T, p.1 = p.2) → (∀ p ∈ C.kin T, p.1 = p.2) →
    wpAny (model V.prog V.w) A (runValue C.code) (fun v s' => v = C.res ∧ ∃ h', s' = stOf V g h' (C.ti + C.i) ∧ Rep V h' (C.T T) (C.pos + C.m) ch) (fun _ _ => False) (stOf V g h C.ti)
noncomputable def SumOk (C : SumC) : Prop := ∀ (c : Code) (T : BT) (m i : Nat) (r : SumR), C c T m i = some r → AllEq r.ob r.cs r.ne r.ki → ∀ (Γ : Ctx) (p : Pos) (h : Heap) (ch : Ch), Rep V h T m ch →
  Sem.wp (model V.prog V.w) Γ (runValue c) (fun v _ s' => v = r.res ∧ ∃ h', s' = stOf V g h' (i + r.i) ∧ Rep V h' r.T (m + r.m) ch) (fun _ _ _ => False) p (stOf V g h i)
noncomputable def EndOk (R : Out) : Prop := ∀ h, Rep V h R.T R.m R.ch → match R.rest with
  | none => V.R₀ (.ok (.ret R.val)) (stOf V g h R.i)
  | some t => ∀ Γ p, MK V Γ p .base t (stOf V g h R.i)
noncomputable def anyA (Γ : Ctx) : Around := { handled := Γ.handled, depth := frameCount Γ.below + Γ.code.weight, frames := none, guards := none, units := Γ.units }
theorem in_any (Γ : Ctx) : Γ.In (anyA Γ) := ⟨rfl, Nat.le_refl _, (fun l h => by cases h), (fun l h => by cases h), Nat.le_refl _⟩
theorem ConOk.sum {C : Con} (h : ConOk V g C) : SumOk V g C.sum := fun c T m i r e eq Γ p hh ch D => by
  cases e
  have ei : i = C.ti := eq.ob _ (.head _)
  have em : m = C.pos := eq.ob _ (.tail _ (.head _))
  have ec : c = C.code := eq.cs _ (.head _)
  subst ei em ec
  exact h.ok (anyA Γ) hh T ch D (fun p hp => eq.ne p hp) (fun p hp => eq.ki p hp) Γ p (in_any Γ)
theorem Out.ok.all {R : Out} (h : R.ok) : AllEq R.ob R.cs R.ne R.ki := ⟨pair_eq h.ob, pair_eq h.cs, pair_eq h.ne, pair_eq h.ki⟩
noncomputable def Snd (R : Out) (ih : RunTy) : Prop := ∀ L Γ p κ t (σ : Sv2), ih L Γ p κ t σ = some R → AllEq σ.ob σ.cs σ.ne σ.ki ∧ ∀ h, Rep V h σ.T σ.m σ.ch → MK V Γ p κ t (stOf V g h σ.i)
end
section
variable {V : XV} {g : Array GenState} {dn : Code → Sem Fin} {qt : Code → Bool} {olds : List (Nat × Obj)} {cons : List SumC} {R : Out} {ih : RunTy}
theorem rep_noTab {h : Heap} {T : BT} {m : Nat} {ch : Ch} {a : Addr} {o : Obj} (D : Rep V h T m ch) (hq : V.h₀.get? a = some o) (ht : tabOf o = none) : chLook ch a = none := by
  cases q : chLook ch a with
  | none => rfl
  | some vs =>
    obtain ⟨_, c, ps, more, tt, _⟩ := D.ch a vs q
    cases hq.symm.trans tt.2
    cases ht
theorem load_sound (O : V.Ok) (hold : ∀ p ∈ olds, V.h₀.get? p.1 = some p.2) (hR : AllEq R.ob R.cs R.ne R.ki) (hfin : EndOk V g R) (IH : Snd V g R ih)
    {Γ : Ctx} {p : Pos} {κ : Ks} {σ : Sv2} {a : Addr} {q : _} {k : Obj → Sem Fin} {L : List Lx} {j : Lx} (H : goLoad V olds ih Γ p κ σ a k L j = some R) :
    AllEq σ.ob σ.cs σ.ne σ.ki ∧ ∀ h, Rep V h σ.T σ.m σ.ch → MK V Γ p κ (.load a q k) (stOf V g h σ.i) := by
  cases j with
  | tab =>
    refine som_of H fun vs hn H => ⟨(IH _ _ _ _ _ _ H).1, fun h D => ⟨tableObj vs, ?_, (IH _ _ _ _ _ _ H).2 h D⟩⟩
    unfold nowTab at hn
    cases hc : chLook σ.ch a with
    | some x => rw [hc] at hn; cases hn; exact (D.ch a _ hc).1
    | none =>
      rw [hc] at hn
      obtain ⟨co, ht⟩ := O.tabs a vs hn
      exact D.keep a _ ht.2 hc
  | old j =>
    refine som_of H fun q' ho H => noo_of H fun ht H => ?_
    have x := (IH _ _ _ _ _ _ H).1
    have e : a = q'.1 := x.ob _ (.head _)
    subst e
    exact ⟨⟨fun p hp => x.ob p (.tail _ hp), x.cs, x.ne, x.ki⟩, fun h D => ⟨q'.2, D.keep _ _ (hold _ (List.mem_of_getElem? ho)) (rep_noTab D (hold _ (List.mem_of_getElem? ho)) (Option.isSome_eq_false_iff.mp ht |> Option.isNone_iff_eq_none.mp)), (IH _ _ _ _ _ _ H).2 h D⟩⟩
  | new j =>
    refine som_of H fun ob hT H => ?_
    have x := (IH _ _ _ _ _ _ H).1
    have e : a = V.n₁ + j := x.ob _ (.head _)
    subst e
    exact ⟨⟨fun p hp => x.ob p (.tail _ hp), x.cs, x.ne, x.ki⟩, fun h D => ⟨ob, (D.own j ob hT).2, (IH _ _ _ _ _ _ H).2 h D⟩⟩
  | stop j =>
    cases κ with
    | ret _ _ _ _ => exact no_out H
    | base =>
      refine som_of H fun ob hT H => ?_
      cases H
      have e : a = V.n₁ + j := hR.ob _ (.head _)
      subst e
      exact ⟨⟨fun p hp => hR.ob p (.tail _ hp), hR.cs, hR.ne, hR.ki⟩, fun h D => ⟨ob, (D.own j ob hT).2, hfin h D Γ p⟩⟩
  | go => exact no_out H
  | con j => exact no_out H
theorem upd_sound (O : V.Ok) (IH : Snd V g R ih)
    {Γ : Ctx} {p : Pos} {κ : Ks} {σ : Sv2} {a : Addr} {q : _} {f : Obj → Obj} {k : Unit → Sem Fin} {L : List Lx} {j : Lx} (H : goUpd V ih Γ p κ σ a f k L j = some R) :
    AllEq σ.ob σ.cs σ.ne σ.ki ∧ ∀ h, Rep V h σ.T σ.m σ.ch → MK V Γ p κ (.update a q f k) (stOf V g h σ.i) := by
  cases j with
  | tab =>
    refine som_of H fun vs hn H => som_of H fun vs' ht H => som_of H fun more hs H => ⟨(IH _ _ _ _ _ _ H).1, fun h D => ?_⟩
    obtain ⟨ho, D'⟩ := D.table O hn (tabOf_eq ht) hs
    exact ⟨by show (h.get? a).isSome = true; rw [ho]; rfl, (IH _ _ _ _ _ _ H).2 _ D'⟩
  | new j =>
    refine som_of H fun ob hT H => noo_of H fun hf H => ?_
    have x := (IH _ _ _ _ _ _ H).1
    have e : a = V.n₁ + j := x.ob _ (.head _)
    subst e
    refine ⟨⟨fun p hp => x.ob p (.tail _ hp), x.cs, x.ne, x.ki⟩, fun h D => ?_⟩
    have hs : V.n₁ + j - V.n₁ = j := Nat.add_sub_cancel_left ..
    have D' := D.update (f := f) O (Nat.le_add_right V.n₁ j) (by rw [hs]; exact hT) hf
    rw [hs] at D'
    exact ⟨by show (h.get? _).isSome = true; rw [(D.own j ob hT).2]; rfl, (IH _ _ _ _ _ _ H).2 _ D'⟩
  | old j => exact no_out H
  | stop j => exact no_out H
  | go => exact no_out H
  | con j => exact no_out H
theorem call_sound (hdn : denote table = dn) (hcon : ∀ C ∈ cons, SumOk V g C) (IH : Snd V g R ih)
    {Γ : Ctx} {p : Pos} {κ : Ks} {σ : Sv2} {c' : Code} {hd gd l : _} {k : Result → Sem Fin} {L : List Lx} {j : Lx} (H : goCall dn cons ih Γ p κ σ c' k L j = some R) (hh : hd = none := by rfl) :
    AllEq σ.ob σ.cs σ.ne σ.ki ∧ ∀ h, Rep V h σ.T σ.m σ.ch → MK V Γ p κ (.call c' hd gd l k) (stOf V g h σ.i) := by
  subst hh
  have den : ∀ Γ : Ctx, (model V.prog V.w).den Γ.code = dn Γ.code := fun Γ => congrFun hdn Γ.code
  cases j with
  | go =>
    refine ⟨(IH _ _ _ _ _ _ H).1, fun h D => ?_⟩
    show wpCode (model V.prog V.w) (Γ.enter c' none p) (RK V (.ret Γ p k κ)) p _
    rw [wpCode_iff_wp, den]
    exact (IH _ _ _ _ _ _ H).2 h D
  | con j =>
    refine som_of H fun C hC H => som_of H fun r hr H => ?_
    have x := (IH _ _ _ _ _ _ H).1
    refine ⟨⟨fun p hp => x.ob p (List.mem_append_right _ hp), fun p hp => x.cs p (List.mem_append_right _ hp), fun p hp => x.ne p (List.mem_append_right _ hp), fun p hp => x.ki p (List.mem_append_right _ hp)⟩, fun h D => ?_⟩
    have z := hcon C (List.mem_of_getElem? hC) c' σ.T σ.m σ.i r hr ⟨fun p hp => x.ob p (List.mem_append_left _ hp), fun p hp => x.cs p (List.mem_append_left _ hp), fun p hp => x.ne p (List.mem_append_left _ hp), fun p hp => x.ki p (List.mem_append_left _ hp)⟩ Γ p h σ.ch D
    rw [Sem.wp_runValue] at z
    show wpCode (model V.prog V.w) (Γ.enter c' none p) (RK V (.ret Γ p k κ)) p (stOf V g h σ.i)
    refine wpCode_mono ?_ z
    intro r' s' hr'
    match r', hr' with
    | .ok (.ret v), hr' =>
      obtain ⟨rfl, h', rfl, D'⟩ := hr'
      exact (IH _ _ _ _ _ _ H).2 h' D'
  | tab => exact no_out H
  | old j => exact no_out H
  | new j => exact no_out H
  | stop j => exact no_out H
theorem go_sound (O : V.Ok) (hdn : denote table = dn) (hqt : Code.quiet = qt) (hold : ∀ p ∈ olds, V.h₀.get? p.1 = some p.2) (hcon : ∀ C ∈ cons, SumOk V g C)
    (hR : AllEq R.ob R.cs R.ne R.ki) (hfin : EndOk V g R)
    (IH : Snd V g R ih) : Snd V g R (goStep V dn qt olds cons ih) := by
  intro L Γ p κ t σ H
  have den : ∀ Γ : Ctx, (model V.prog V.w).den Γ.code = dn Γ.code := fun Γ => congrFun hdn Γ.code
  cases t with
  | pure fin =>
    cases fin with
    | done f =>
      cases κ with
      | base =>
        cases f with
        | ret v =>
          cases H
          exact ⟨hR, fun h D => hfin h D⟩
        | _ => exact no_out H
      | ret Γ' p' k κ' => exact ⟨(IH _ _ _ _ _ _ H).1, fun h D => (IH _ _ _ _ _ _ H).2 h D⟩
    | again c' =>
      refine yes_of H fun q H => ?_
      refine ⟨(IH _ _ _ _ _ _ H).1, fun h D => ⟨(congrFun hqt c').trans q, ?_⟩⟩
      rw [wpCode_iff_wp, den]
      exact (IH _ _ _ _ _ _ H).2 h D
  | rule _ k => exact ⟨(IH _ _ _ _ _ _ H).1, fun h D => (IH _ _ _ _ _ _ H).2 h D⟩
  | «at» _ k => exact ⟨(IH _ _ _ _ _ _ H).1, fun h D => (IH _ _ _ _ _ _ H).2 h D⟩
  | point l k => exact ⟨(IH _ _ _ _ _ _ H).1, fun h D => (IH _ _ _ _ _ _ H).2 h D⟩
  | ask k => exact ⟨(IH _ _ _ _ _ _ H).1, fun h D => (IH _ _ _ _ _ _ H).2 h D⟩
  | fresh k => exact ⟨(IH _ _ _ _ _ _ H).1, fun h D => (IH _ _ _ _ _ _ H).2 h D⟩
  | stack k => exact ⟨(IH _ _ _ _ _ _ H).1, fun h D => (IH _ _ _ _ _ _ H).2 h D⟩
  | handled own k => exact ⟨(IH _ _ _ _ _ _ H).1, fun h D => (IH _ _ _ _ _ _ H).2 h D⟩
  | raise e =>
    cases κ with
    | base => exact no_out H
    | ret Γ' p' k κ' => exact ⟨(IH _ _ _ _ _ _ H).1, fun h D => (IH _ _ _ _ _ _ H).2 h D⟩
  | load a q k => exact hd1_of H fun j L H => load_sound O hold hR hfin IH H
  | alloc ob k =>
    refine noo_of H fun hf H => som_of H fun o' hg H => ⟨(IH _ _ _ _ _ _ H).1, fun h D => ?_⟩
    have z := (IH _ _ _ _ _ _ H).2 _ (D.alloc O hf (by rw [hg]; rfl))
    have : h.objs.size = V.n₁ + σ.m := D.size
    show MK V Γ p κ (k h.objs.size) _
    rw [this]; exact z
  | update a q f k => exact hd1_of H fun j L H => upd_sound O IH H
  | call c' hd gd l k =>
    cases hd with
    | some _ => exact no_out H
    | none => exact hd1_of H fun j L H => call_sound (hd := none) hdn hcon IH H
  | _ => exact no_out H
theorem run_sound (O : V.Ok) (hdn : denote table = dn) (hqt : Code.quiet = qt) (hold : ∀ p ∈ olds, V.h₀.get? p.1 = some p.2) (hcon : ∀ C ∈ cons, SumOk V g C)
    (hR : AllEq R.ob R.cs R.ne R.ki) (hfin : EndOk V g R) : ∀ n, Snd V g R (goRun V dn qt olds cons n)
  | 0 => fun _ _ _ _ _ _ H => nomatch H
  | n + 1 => go_sound O hdn hqt hold hcon hR hfin (run_sound O hdn hqt hold hcon hR hfin n)
end
/-- the heap h is h₀ with the new objects behind it -/
structure On (h₀ h : Heap) (news : List Obj) : Prop where
  size : h.objs.size = h₀.objs.size + news.length
  old : ∀ b o, h₀.get? b = some o → h.get? b = some o
  new : ∀ i o, news[i]? = some o → h.get? (h₀.objs.size + i) = some o
noncomputable def insL (T : BT) (m : Nat) : List Obj → BT
  | [] => T
  | o :: l => insL (T.ins m o) (m + 1) l
noncomputable def insOk (T : BT) (m : Nat) : List Obj → List (Option Obj × Option Obj)
  | [] => []
  | o :: l => ((T.ins m o).get m, some o) :: insOk (T.ins m o) (m + 1) l
theorem insL_get : ∀ (l : List Obj) (T : BT) (m : Nat), (∀ p ∈ insOk T m l, p.1 = p.2) → ∀ i o, (insL T m l).get i = some o → (T.get i = some o ∧ (i < m ∨ m + l.length ≤ i)) ∨ ∃ j, i = m + j ∧ l[j]? = some o
  | [], T, m, _, i, o, e => .inl ⟨e, (Nat.lt_or_ge i m).imp id id⟩
  | x :: l, T, m, hk, i, o, e => by
    have h1 : ((T.ins m x).get m) = some x := hk _ (.head _)
    rcases insL_get l (T.ins m x) (m + 1) (fun p hp => hk p (.tail _ hp)) i o e with ⟨a, b⟩ | ⟨j, rfl, b⟩
    · rw [BT.get_ins x T m (by rw [h1]; rfl)] at a
      by_cases hi : i = m
      · rw [if_pos hi] at a
        cases a
        exact .inr ⟨0, hi, rfl⟩
      · rw [if_neg hi] at a
        refine .inl ⟨a, ?_⟩
        rw [List.length_cons]
        omega
    · exact .inr ⟨j + 1, by exact Nat.add_right_comm _ _ _, b⟩
theorem rep_on {V : XV} {h h' : Heap} {T : BT} {m : Nat} {ch : Ch} {news : List Obj} (D : Rep V h T m ch) (N : On h h' news) (hk : ∀ p ∈ insOk T m news, p.1 = p.2) : Rep V h' (insL T m news) (m + news.length) ch := by
  refine ⟨by rw [N.size, D.size, Nat.add_assoc], fun i o e => ?_, fun b o e q => N.old _ _ (D.keep b o e q), fun a vs e => ⟨N.old _ _ (D.ch a vs e).1, (D.ch a vs e).2⟩⟩
  rcases insL_get news T m hk i o e with ⟨a, b⟩ | ⟨j, rfl, b⟩
  · have z := D.own i o a
    exact ⟨Nat.lt_of_lt_of_le z.1 (Nat.le_add_right ..), N.old _ _ z.2⟩
  · have hj : j < news.length := by
      rw [List.getElem?_eq_some_iff] at b
      exact b.1
    refine ⟨Nat.add_lt_add_left hj m, ?_⟩
    have z := N.new j o b
    rw [D.size, Nat.add_assoc] at z
    exact z
/-- a base of its own, without tables -/
noncomputable def baseV (prog : Program) (w : World) (h : Heap) (S : Nat) (R₀ : Result → Shared → Prop) (d : Drawn) (t : Nat) (os : OsState) : XV := ⟨prog, w, h, S, .nil, [], callerA, R₀, d, t, os⟩
section
variable {prog : Program} {w : World} {h : Heap} {S : Nat} {R₀ : Result → Shared → Prop} {g : Array GenState} {d : Drawn} {t₀ : Nat} {os : OsState} {dn : Code → Sem Fin} {olds : List (Addr × Obj)} {cons : List SumC}
theorem baseV_ok (hs : h.objs.size = S) : (baseV prog w h S R₀ d t₀ os).Ok := ⟨hs, trivial, fun _ _ e => by cases e⟩
theorem on_rep {h' : Heap} {T : BT} {m : Nat} {news : List Obj} (hs : h.objs.size = S) (D : Rep (baseV prog w h S R₀ d t₀ os) h' T m []) (hm : m = news.length) (hT : ∀ i, i < news.length → T.get i = news[i]?) : On h h' news := by
  subst hs
  refine ⟨by rw [D.size, hm]; rfl, fun b o e => D.keep b o e rfl, fun i o e => ?_⟩
  have hi : i < news.length := by
    rw [List.getElem?_eq_some_iff] at e
    exact e.1
  exact (D.own i o ((hT i hi).trans e)).2
noncomputable def σ0 : Sv2 := ⟨.nil, 0, [], 0, [], [], [], []⟩
/-- a run of a value-giving tree at every context, no table touched -/
theorem go_val {A : Around} {E : Value → Shared → Prop} {Q : Value → Shared → Prop} {t : Sem Value} (hs : h.objs.size = S) (hdn : denote table = dn) (hold : ∀ p ∈ olds, h.get? p.1 = some p.2) (n : Nat) (L : List Lx) (R : Out)
    (hr : ∀ Γ p, goRun (baseV prog w h S (fun r s => ∃ v, r = .ok (.ret v) ∧ Q v s) d t₀ os) dn Code.quiet olds [] n L Γ p .base (Sem.bind t fun v => .pure (.done (.ret v))) σ0 = some R)
    (ho : R.ob.map (·.1) = R.ob.map (·.2)) (hcs : R.cs = []) (hne : R.ne = []) (hki : R.ki = []) (hrest : R.rest = none) (hch : R.ch = [])
    (news : List Obj) (hm : R.m = news.length) (hT : ∀ i, i < news.length → R.T.get i = news[i]?) (hq : ∀ h', On h h' news → Q R.val ⟨h', g, d, t₀ + R.i, os⟩) : wpAny (model prog w) A t Q E ⟨h, g, d, t₀, os⟩ := fun Γ p _ => by
  have O := baseV_ok (prog := prog) (w := w) (R₀ := (fun r s => ∃ v, r = .ok (.ret v) ∧ Q v s)) (d := d) (t₀ := t₀) (os := os) hs
  have z := (run_sound (g := g) (R := R) O hdn rfl hold (fun C hC => by cases hC) (Out.ok.all ⟨ho, by rw [hcs]; rfl, by rw [hne]; rfl, by rw [hki]; rfl⟩) (by
    intro h' D
    rw [hrest]
    rw [hch] at D
    exact ⟨R.val, rfl, hq h' (on_rep hs D hm hT)⟩) n L Γ p .base _ σ0 (hr Γ p)).2 h (Rep.start O)
  have z : Sem.wp (model prog w) Γ (t >>= fun v => pure (Fin.done (.ret v))) _ _ p _ := z
  rw [Sem.wp_bind'] at z
  refine Sem.wp_mono _ _ _ (fun a p' s' hh => ?_) (fun e p' s' hh => ?_) _ _ z
  · obtain ⟨v', e, q⟩ := hh
    cases e
    exact q
  · obtain ⟨v', e, q⟩ := hh
    cases e
end
end Mine
end
section
open PySem PySem.W PySem.W.X PyProof.Rows
set_option maxRecDepth 100000
set_option linter.unusedVariables false
namespace Mine
theorem is_own : classOwn (.type "object") "__init_subclass__" = pure (some (.builtin "object.__init_subclass__")) := by
  show pure (builtinOwn "object" "__init_subclass__") = _
  rw [builtinOwn_eq_fast]; kernel_rfl
theorem is_type : typeOf (.builtin "object.__init_subclass__") = pure (.type "classmethod_descriptor") := by kernel_rfl
theorem is_get : typeLookup (.type "classmethod_descriptor") "__get__" = pure (some (.builtin "classmethod_descriptor.__get__")) := by rw [typeLookup_type, builtinLookup_eq_fast]; kernel_rfl
noncomputable abbrev dnZ : Code → Sem Fin := PySem.W.ZFast.zw11892475500146522536 PySem.W.ZFast.tableZ
theorem hdnZ : denote table = dnZ := by
  show _ = PySem.W.ZFast.zw11892475500146522536 PySem.W.ZFast.tableZ
  rw [← PySem.W.ZFast.ze11892475500146522536]
  first | rw [PySem.W.ZFast.tableZ_eq] | rw [← PySem.W.ZFast.tableZ_eq]
noncomputable def o2 : Obj := { cls := .none, data := .dict #[] }
theorem opq {M : Model} {h : Heap} {C : Addr} (e : h.get? 2 = some o2) : Looks M h (opaqueClassAbove (.ref C)) none :=
  looks_opaque (K := [(2, o2)]) (fun b o q => by
    rw [List.lookup_cons] at q
    by_cases hb : b = 2
    · subst hb; cases q; exact e
    · rw [show (b == 2) = false from by simp [hb]] at q; cases q) (by kernel_rfl)
section
variable {prog : Program} {w : World} {M : Model} {A : Around} {E : Value → Shared → Prop} {h : Heap} {g : Array GenState} {d : Drawn} {t : Nat} {os : OsState}
noncomputable def suObj (D : Addr) : Obj := { cls := .type "super", dict := none, data := .fields #[.ref D, .ref D, .ref D], slots := #[] }
theorem looks_mro {D : Addr} {oD : Obj} {cd : ClassData} (hD : h.get? D = some oD) (hDt : oD.data = .cls cd) : Looks M h (mroOf (.ref D)) cd.mro := by
  intro A Q E s k q
  refine wpAny_bind (wpAny_bind (wpAny_load (k _ _ hD) ?_))
  rw [hDt]
  exact wpAny_pure (wpAny_pure q)
theorem looks_sub_self {D : Addr} {oD : Obj} {cd : ClassData} {l : List Value} (hD : h.get? D = some oD) (hDt : oD.data = .cls cd) (hm : cd.mro = .ref D :: l) : Looks M h (isSubtype (.ref D) (.ref D)) true := by
  intro A Q E s k q
  unfold isSubtype
  refine wpAny_bind ((looks_mro hD hDt) _ _ _ _ k ?_)
  rw [hm]
  show wpAny M A (pure (List.contains (Value.ref D :: l) (.ref D))) Q E s
  rw [show List.contains (Value.ref D :: l) (.ref D) = true from by simp]
  exact wpAny_pure q
theorem super_set3 {so : Addr} {a b c : Value} {Q : Fin → Shared → Prop} (hso : h.get? so = some { cls := .type "super", dict := none, data := .fields #[.none, .none, .none], slots := #[] })
    (hq : ∀ h', h'.objs.size = h.objs.size → h'.get? so = some { cls := .type "super", dict := none, data := .fields #[a, b, c], slots := #[] } → (∀ y o, y ≠ so → h.get? y = some o → h'.get? y = some o) → Q (.done (.ret .none)) ⟨h', g, d, t, os⟩) :
    wpAny (model prog w) A (do setField (.ref so) 0 a; setField (.ref so) 1 b; setField (.ref so) 2 c; ret .none) Q E ⟨h, g, d, t, os⟩ := by
  refine wpAny_bind (wpAny_setField_rec hso (by simp) fun h1 e1 s1 => ?_)
  refine wpAny_bind (wpAny_setField_rec e1 (by simp) fun h2 e2 s2 => ?_)
  refine wpAny_bind (wpAny_setField_rec e2 (by simp) fun h3 e3 s3 => ?_)
  exact wpAny_pure (hq h3 (s3.1.trans (s2.1.trans s1.1)) (by simpa using e3) fun y o hy e => (s3.2 y hy).trans ((s2.2 y hy).trans ((s1.2 y hy).trans e)))
theorem super_self {D : Addr} {oD : Obj} {cd : ClassData} {l : List Value} {Q : Value → Shared → Prop}
    (hD : h.get? D = some oD) (hDt : oD.data = .cls cd) (hm : cd.mro = .ref D :: l)
    (hq : ∀ h', h'.objs.size = h.objs.size + 1 → h'.get? h.objs.size = some (suObj D) → (∀ y o, h.get? y = some o → h'.get? y = some o) → Q (.ref h.objs.size) ⟨h', g, d, t, os⟩) :
    wpAny (model prog w) A (call (.type "super") [.ref D, .ref D]) Q E ⟨h, g, d, t, os⟩ := by
  refine ks_callType_codesW (Q₁ := fun obj s₁ => obj = .ref h.objs.size ∧ s₁ = ⟨h.push { cls := .type "super", data := .fields #[.none, .none, .none] }, g, d, t, os⟩) F.ks_called_super (ks_wpAny_checkTypeCall_super hD hDt) F.ks_entry_super_init
    (ks_code_super_new _ _ ⟨rfl, rfl⟩) fun obj s₁ h₁ => ?_
  obtain ⟨rfl, rfl⟩ := h₁
  have up : ∀ y o, h.get? y = some o → (h.push { cls := .type "super", data := .fields #[.none, .none, .none] }).get? y = some o := fun y o e => Heap.get?_push_of_some _ e
  have hso : (h.push { cls := .type "super", data := .fields #[.none, .none, .none] }).get? h.objs.size = some { cls := .type "super", dict := none, data := .fields #[.none, .none, .none], slots := #[] } := Heap.get?_push_at rfl rfl
  have hD' := up _ _ hD
  have hsub' : Looks (model prog w) (h.push { cls := .type "super", data := .fields #[.none, .none, .none] }) (isSubtype (.ref D) (.ref D)) true := looks_sub_self hD' hDt hm
  refine ⟨⟨_, hso, rfl⟩, F.ks_initArgs_super _ _ _, ?_⟩
  unfold Builtin.«super.__init__» noKeywords
  repeat (first | (with_reducible refine ks_wpAny_isType_cls hD' hDt ?_) | (with_reducible refine Looks.at hsub' ?_) | (with_reducible refine super_set3 hso ?_) | wp_step)
  all_goals (intro h' hz e k; exact ⟨rfl, hq h' (hz.trans (Heap.size_push ..)) e fun y o ey => k y o (Nat.ne_of_lt (Heap.lt_size ey)) (up y o ey)⟩)
theorem super_ga_self {so D : Addr} {oD : Obj} {cd : ClassData} {name : Str} {a v : Value} {g' : Value} {T : String} {tk : Tok} {R : Shared → Prop} {Q : Fin → Shared → Prop}
    (hso : h.get? so = some (suObj D)) (hno : Looks (model prog w) h (opaqueClassAbove (.ref D)) none) (hD : h.get? D = some oD) (hDt : oD.data = .cls cd) (hm : cd.mro = [.ref D, .type "object"])
    (hf : classOwn (.type "object") name = pure (some a)) (ht : typeOf a = pure (.type T)) (hg : typeLookup (.type T) "__get__" = pure (some g')) (hn : (name == ("__class__" : Str)) = false)
    (hcall : ∀ {A' : Around} {Q' : Value → Shared → Prop} {E' : Value → Shared → Prop}, (∀ s₂, R s₂ → Q' v s₂) → wpAny (model prog w) A' (call g' [a, .none, .ref D]) Q' E' ⟨h, g, d, t, os⟩)
    (hq : ∀ s₂, R s₂ → Q (.done (.ret v)) s₂) :
    wpAny (model prog w) A (Builtin.«super.__getattribute__» ⟨[.ref so, .str name tk], []⟩) Q E ⟨h, g, d, t, os⟩ := by
  have hdt : (suObj D).data = .fields #[.ref D, .ref D, .ref D] := rfl
  have f0 : (#[.ref D, .ref D, .ref D] : Array Value)[0]? = some (.ref D) := rfl
  have f1 : (#[.ref D, .ref D, .ref D] : Array Value)[1]? = some (.ref D) := rfl
  have f2 : (#[.ref D, .ref D, .ref D] : Array Value)[2]? = some (.ref D) := rfl
  have hl : (cd.mro.dropWhile (· != Value.ref D)).drop 1 = [.type "object"] := by
    rw [hm, List.dropWhile_cons]
    simp
  have hC : Looks (model prog w) h (mroOf (.ref D)) cd.mro := looks_mro hD hDt
  have hne : (Value.ref D == Value.ref D) = true := by simp
  unfold Builtin.«super.__getattribute__»
  repeat (first
    | (with_reducible refine wpAny_field hso hdt f0 ?_) | (with_reducible refine wpAny_field hso hdt f1 ?_) | (with_reducible refine wpAny_field hso hdt f2 ?_)
    | (with_reducible refine ks_wpAny_notOpaque hno ?_)
    | (with_reducible refine Looks.at hC ?_; rw [hl])
    | (rw [List.forIn_cons])
    | (rw [hf, pure_bind]) | (rw [ht, pure_bind]) | (rw [hg, pure_bind])
    | (with_reducible refine hcall fun s₂ hR => ?_)
    | (simp only [hn, hne, Bool.or_false, Bool.false_eq_true, if_false, if_true])
    | wp_step
    | dsimp only)
  all_goals exact hq _ hR
end
end Mine
end
section
open PySem PySem.W PySem.W.X PyProof.Rows
set_option maxRecDepth 1000000
set_option maxHeartbeats 0
set_option linter.unusedVariables false
namespace Mine
/-! type.__new__ of the class K, as a contract of the simulator -/
structure Box (b : Builtin) : Type where
noncomputable abbrev FltTy := DecidableEq Value → Value → List Value → List Value
noncomputable def flt0 : FltTy := fun d s l => R.filterR (fun x => @bne Value (@instBEqOfDecidableEq Value d) x s) l
theorem flt0_eq (d : DecidableEq Value) (s : Value) (l : List Value) : R.filterR (fun x => @bne Value (@instBEqOfDecidableEq Value d) x s) l = flt0 d s l := rfl
noncomputable def Box.out {F : FltTy → Builtin} : ∀ f : FltTy, Box (F f) → (FltTy → Builtin) := fun _ _ => F
noncomputable def tnB : FltTy → Builtin := by
  have x : Box PySem.W.ZFast.zw4202317264376624991 := ⟨⟩
  delta PySem.W.ZFast.zw4202317264376624991 at x
  dsimp (config := { zeta := false, beta := false, eta := false }) only [flt0_eq] at x
  generalize flt0 = f at x
  revert x f
  exact Box.out
theorem tnB_eq : PySem.W.ZFast.zw4202317264376624991 = tnB flt0 := by kernel_rfl
theorem den_new (a : Args) : dnZ (.builtin "type.__new__" a) = PySem.W.ZFast.zw4202317264376624991 a := by kernel_rfl
/-- the programs' codes, with type.__new__ over another filter -/
noncomputable def dnF (flt : FltTy) : Code → Sem Fin := fun c => match c with
  | .builtin id a => match @decide (id = "type.__new__") (PySem.W.S.strDecS id "type.__new__") with
    | true => tnB flt a
    | false => dnZ c
  | _ => dnZ c
theorem dnF_eq : denote table = dnF flt0 := by
  rw [hdnZ]
  funext c
  cases c with
  | builtin id a =>
    show _ = match @decide (id = "type.__new__") (PySem.W.S.strDecS id "type.__new__") with | true => tnB flt0 a | false => dnZ (.builtin id a)
    cases q : @decide (id = "type.__new__") (PySem.W.S.strDecS id "type.__new__") with
    | false => rfl
    | true =>
      have e : id = "type.__new__" := @of_decide_eq_true _ (PySem.W.S.strDecS id "type.__new__") q
      subst e
      show dnZ _ = tnB flt0 a
      rw [den_new, tnB_eq]
  | _ => rfl
theorem filterR_self (d : DecidableEq Value) (s t : Value) (h : t ≠ s) : flt0 d s [s, t] = [t] := by
  unfold flt0
  rw [← R.filterR_eq]
  rw [List.filter_cons]
  simp [h]
structure TnA where
  (a0 b2 a7 a14 a22 a30 a38 a46 a54 a55 : Addr)
  tk : Nat → Nat
  hs : Nat → Int
  (f14 f22 f30 f38 f46 f54 : FuncData)
noncomputable def zHash (P : Params) (x : Str) : Int := PySem.W.ZFast.zw12210062019545310541 (P.strHash x.cps)
noncomputable def tnE (c : TnA) (i : Nat) (x : Str) (t : Nat) (v : Value) : DictEntry := ⟨c.hs i, .str x (c.tk t), v⟩
noncomputable def tnNs (c : TnA) : Obj := { cls := .type "dict", data := .dict #[tnE c 0 "__module__" 8 (.str "cpy313.functools" (c.tk 13)), tnE c 1 "__qualname__" 10 (.str "cmp_to_key.<locals>.K" (c.tk 9)),
  tnE c 2 "__firstlineno__" 12 (.int 11 (c.tk 11)), tnE c 3 "__slots__" 16 (.ref c.a7), tnE c 4 "__init__" 24 (.ref c.a14), tnE c 5 "__lt__" 33 (.ref c.a22), tnE c 6 "__gt__" 42 (.ref c.a30), tnE c 7 "__eq__" 51 (.ref c.a38), tnE c 8 "__le__" 60 (.ref c.a46),
  tnE c 9 "__ge__" 69 (.ref c.a54), tnE c 10 "__hash__" 70 .none, tnE c 11 "__static_attributes__" 72 (.ref c.a55)] 12 }
noncomputable def tnD1E (c : TnA) : Array DictEntry := #[tnE c 0 "__module__" 8 (.str "cpy313.functools" (c.tk 13)),
  tnE c 2 "__firstlineno__" 12 (.int 11 (c.tk 11)), tnE c 3 "__slots__" 16 (.ref c.a7), tnE c 4 "__init__" 24 (.ref c.a14), tnE c 5 "__lt__" 33 (.ref c.a22), tnE c 6 "__gt__" 42 (.ref c.a30), tnE c 7 "__eq__" 51 (.ref c.a38), tnE c 8 "__le__" 60 (.ref c.a46),
  tnE c 9 "__ge__" 69 (.ref c.a54), tnE c 10 "__hash__" 70 .none, tnE c 11 "__static_attributes__" 72 (.ref c.a55)]
noncomputable def tnD1 (c : TnA) : Obj := { cls := .type "dict", data := .dict (tnD1E c) 1 }
noncomputable def tnD3 (c : TnA) (P : Params) (t h2 : Nat) : Obj := { cls := .type "dict", data := .dict (((tnD1E c).push ⟨zHash P "obj", .str "obj" (t + 1), .ref (h2 + 2)⟩).push ⟨zHash P "__doc__", .str "__doc__" (t + 2), .none⟩) 3 }
noncomputable def tnK (h2 : Nat) (mro : List Value) (sn : List Str) (hd : Bool) (sl : Array (Option Value)) : Obj := { cls := .type "type", data := .cls { name := "K", bases := [.type "object"], mro := mro, ns := h2, qualname := "cmp_to_key.<locals>.K", slotNames := sn, hasDict := hd }, slots := sl }
noncomputable def tnK3 (c : TnA) (h2 : Nat) : Obj := tnK h2 [] [] true #[some (.ref c.a0), none, some (.str "K" (c.tk 0)), some (.str "cmp_to_key.<locals>.K" (c.tk 9))]
noncomputable def tnK7 (c : TnA) (h2 : Nat) : Obj := tnK h2 [.ref (h2 + 1), .type "object"] ["obj"] false #[some (.ref c.a0), none, some (.str "K" (c.tk 0)), some (.str "cmp_to_key.<locals>.K" (c.tk 9)), some (.builtin "object.__new__"), some (.bool false)]
noncomputable def tnMd (t h2 : Nat) : Obj := { cls := .type "member_descriptor", data := .fields #[.str "obj" t, .ref (h2 + 1), .builtin "proto.slot", .builtin "proto.slot#set", .int 0 0] }
noncomputable def tnIs (h2 : Nat) : Obj := { cls := .type "builtin_function_or_method", data := .fields #[.builtin "object.__init_subclass__", .ref (h2 + 1)] }
noncomputable def tnLs (c : TnA) : Obj := { cls := .type "list", data := .seq #[.str "obj" (c.tk 15)] 1 }
noncomputable def tnNews (c : TnA) (P : Params) (t S : Nat) : List Obj := [tnLs c, tnD3 c P t (S + 1), tnK7 c (S + 1), tnMd t (S + 1), suObj (S + 2), tnIs (S + 1)]
noncomputable def fnO (f : FuncData) : Obj := { cls := .type "function", data := .func f }
noncomputable def tnOlds (c : TnA) : List (Addr × Obj) :=
  [(c.a0, { cls := .type "tuple", data := .seq #[.type "object"] }), ((c.b2 + 2), tnNs c), (c.a7, { cls := .type "list", data := .seq #[.str "obj" (c.tk 15)] }),
   (c.a14, fnO c.f14), (c.a22, fnO c.f22), (c.a30, fnO c.f30), (c.a38, fnO c.f38), (c.a46, fnO c.f46), (c.a54, fnO c.f54), (c.a55, { cls := .type "tuple", data := .seq #[.str "obj" (c.tk 71)] }), (2, o2)]
theorem on_new {h h' : Heap} {o : Obj} (hs : h'.objs.size = h.objs.size + 1) (hn : h'.get? h.objs.size = some o) (k : ∀ b o, h.get? b = some o → h'.get? b = some o) : On h h' [o] := by
  refine ⟨hs, k, fun i o' e => ?_⟩
  cases i with
  | zero => cases e; exact hn
  | succ i => cases e
noncomputable def conC (c : TnA) (S : Nat) : Con := ⟨.builtin "proto.collect" ⟨[.ref c.a7], []⟩, .ref (S + 0), fun T => insOk T 0 [tnLs c], fun _ => [], fun T => insL T 0 [tnLs c], 0, 1, 0, 0⟩
theorem conC_ok (prog : Program) (w : World) (c : TnA) (S : Nat) (h : Heap) (R₀ : Result → Shared → Prop) (g : Array GenState) (d : Drawn) (t : Nat) (os : OsState) (hs : h.objs.size = S)
    (hl : h.get? c.a7 = some { cls := .type "list", data := .seq #[.str "obj" (c.tk 15)] }) : ConOk (baseV prog w h S R₀ d t os) g (conC c S) := by
  refine ⟨fun A h' T ch D hn _ => ?_⟩
  have hl' := D.keep _ _ hl (rep_noTab D hl rfl)
  have hsz : h'.objs.size = S := D.size
  show wpAny (model prog w) A (runValue (.builtin "proto.collect" ⟨[.ref c.a7], []⟩)) _ _ ⟨h', g, d, t, os⟩
  refine wpAny_runValue (codeAny_builtin entry_proto_collect' ?_)
  show wpAny _ _ (do again (.builtin "list.__iadd__" ⟨[← newList [], .ref c.a7], []⟩)) _ _ _
  refine wpAny_bind (wpAny_newList (wpAny_pure ⟨Code.quiet_builtin _ (by decide +kernel), codeAny_builtin entry_list_iadd' ?_⟩))
  show wpAny _ _ (Builtin.List.listExtendWith (.ref h'.objs.size) (.ref c.a7) (.ref h'.objs.size)) _ _ ⟨h'.push (seqObj "list" #[] 0), g, d, t, os⟩
  unfold Builtin.List.listExtendWith
  have ho' : (h'.push (seqObj "list" #[] 0)).get? c.a7 = some _ := Heap.get?_push_of_some _ hl'
  refine wpAny_bind (wpAny_typeOf (T := "list") ⟨_, ho', rfl⟩ ?_)
  have ht : (Value.type "list" == Value.type "list") = true := by rfl
  rw [if_pos (by rw [ht]; simp)]
  refine wpAny_bind (listItems_at ho' rfl ?_)
  refine wpAny_bind (listItems_at (xs := #[]) (n := 0) (Heap.get?_push_size _ rfl) rfl ?_)
  rw [if_neg (by simp)]
  refine wpAny_bind (listUpdate_at (xs := #[]) (n := 0) (Heap.get?_push_size _ rfl) rfl ?_ (Nat.zero_le _) (by rw [sizeLine_eq]; show 1 ≤ 16777216 + 1; decide))
  refine wpAny_pure ?_
  refine ⟨by rw [hsz]; rfl, _, rfl, ?_⟩
  refine rep_on D (on_new ?_ ?_ fun b o e => ?_) hn
  · rw [Heap.size_update, size_push']
  · exact get?_update_seq (Heap.get?_push_size _ rfl) fun _ => _
  · exact (Heap.get?_update_ne _ _ _ _ (Nat.ne_of_lt (Heap.lt_size e))).trans (Heap.get?_push_of_some _ e)
noncomputable def conS (c : TnA) (S : Nat) : Con := ⟨.call (.type "super") ⟨[.ref (S + 2), .ref (S + 2)], []⟩, .ref (S + 4), fun T => (T.get 2, some (tnK7 c (S + 1))) :: insOk T 4 [suObj (S + 2)], fun _ => [], fun T => insL T 4 [suObj (S + 2)], 4, 1, 0, 3⟩
theorem conS_ok (prog : Program) (w : World) (c : TnA) (S : Nat) (h : Heap) (R₀ : Result → Shared → Prop) (g : Array GenState) (d : Drawn) (t : Nat) (os : OsState) : ConOk (baseV prog w h S R₀ d t os) g (conS c S) := by
  refine ⟨fun A h' T ch D hn _ => ?_⟩
  have hK := (D.own 2 _ (hn _ (.head _))).2
  refine super_self (h := h') hK rfl rfl fun h2 z2 so2 k2 => ?_
  have hsz : h'.objs.size = S + 4 := D.size
  refine ⟨by rw [hsz]; rfl, h2, rfl, rep_on D (on_new z2 so2 k2) fun p hp => hn p (.tail _ hp)⟩
noncomputable def conG (c : TnA) (S t : Nat) : Con := ⟨.call (.builtin "super.__getattribute__") ⟨[.ref (S + 4), .str "__init_subclass__" (t + 3)], []⟩, .ref (S + 5),
  fun T => (T.get 2, some (tnK7 c (S + 1))) :: (T.get 4, some (suObj (S + 2))) :: insOk T 5 [tnIs (S + 1)], fun _ => [], fun T => insL T 5 [tnIs (S + 1)], 5, 1, 0, 4⟩
theorem conG_ok (prog : Program) (w : World) (c : TnA) (S : Nat) (h : Heap) (R₀ : Result → Shared → Prop) (g : Array GenState) (d : Drawn) (t : Nat) (os : OsState) (h2 : h.get? 2 = some o2) : ConOk (baseV prog w h S R₀ d t os) g (conG c S t) := by
  refine ⟨fun A h' T ch D hn _ => ?_⟩
  have hK := (D.own 2 _ (hn _ (.head _))).2
  have hS := (D.own 4 _ (hn _ (.tail _ (.head _)))).2
  have hsz : h'.objs.size = S + 5 := D.size
  show wpAny (model prog w) A (call (.builtin "super.__getattribute__") [.ref (S + 4), .str "__init_subclass__" (t + 3)]) _ _ ⟨h', g, d, t + 4, os⟩
  refine wpAny_call_entry F.ks_slot_super_ga ⟨_, hS, rfl⟩ F.ks_entry_super_ga (super_ga_self (R := fun s => ∃ h2, s = ⟨h2, g, d, t + 4, os⟩ ∧ On h' h2 [tnIs (S + 1)]) (v := .ref (S + 5)) hS (opq (D.keep _ _ h2 (rep_noTab D h2 rfl))) hK rfl rfl is_own is_type is_get (by decide +kernel) (fun {A' Q' E'} q => ?_) ?_) (F.ks_gaArgs_super _ _)
  · refine go_val (olds := [(S + 2, tnK7 c (S + 1))]) hsz hdnZ (fun p hp => ?_) 100 [.go, .old 0, .old 0] ⟨.ref (S + 5), insL .nil 0 [tnIs (S + 1)], 1, [], 0, [(S + 2, S + 2), (S + 2, S + 2)], [], [], [], none⟩ (fun Γ p => by kernel_rfl) rfl rfl rfl rfl rfl rfl [tnIs (S + 1)] rfl (fun i hi => ?_) fun h2 N => q _ ⟨h2, rfl, N⟩
    · rcases List.mem_cons.mp hp with rfl | hp
      · exact hK
      · cases hp
    · obtain rfl : i = 0 := Nat.lt_one_iff.mp hi
      rfl
  · rintro _ ⟨h2, rfl, N⟩
    exact ⟨_, rfl, rfl, h2, rfl, rep_on D N fun p hp => hn p (.tail _ (.tail _ hp))⟩

noncomputable def tnCode (c : TnA) : Code := .call (.builtin "type.__new__") ⟨[.type "type", .str "K" (c.tk 0), .ref c.a0, .ref (c.b2 + 2)], []⟩
noncomputable def LA : List Lx := [.old 0, .old 1, .old 0, .old 1, .old 1, .old 2, .con 0, .new 0, .new 1, .new 1, .new 1, .new 2, .new 2, .new 2, .new 1, .new 1, .new 1, .new 1, .new 1, .new 1, .stop 1]
noncomputable def LB : List Lx := [.new 2, .new 2, .new 2, .new 2, .new 2, .new 2, .new 2, .new 1, .new 1, .new 1, .new 1, .new 1, .new 2, .new 2, .new 2, .new 2, .new 1, .new 1, .new 1, .new 1, .new 1, .new 1, .new 1, .old 2, .old 3, .old 4, .old 5, .old 6, .old 7, .old 8, .old 9, .new 3, .con 0, .new 4, .con 1, .go, .new 5, .new 2, .new 2, .new 2, .new 2]
section
variable (prog : Program) (w : World) (h : Heap) (S : Nat) (R₀ : Result → Shared → Prop) (d : Drawn) (t : Nat) (os : OsState) (c : TnA)
noncomputable def runA (flt : FltTy) (Γ : Ctx) (p : Pos) : Option Out := goRun (baseV prog w h S R₀ d t os) (dnF flt) Code.quiet (tnOlds c) [(conC c S).sum] 1000 LA Γ p .base (dnZ (tnCode c)) σ0
noncomputable def restA (flt : FltTy) (Γ : Ctx) (p : Pos) : Sem Fin := match runA prog w h S R₀ d t os c flt Γ p with | some R => R.rest.getD default | none => default
noncomputable def TA : BT := insL .nil 0 [tnLs c, tnD1 c, tnK3 c (S + 1)]
theorem restA_flt (flt : FltTy) (Γ : Ctx) (p : Pos) : restA prog w h S R₀ d t os c flt Γ p = restA prog w h S R₀ d t os c (fun _ _ _ => flt PySem.W.ZFast.zw7966671052430208091 (.ref (S + 2)) [.ref (S + 2), .type "object"]) Γ p := by kernel_rfl
noncomputable def RA (flt : FltTy) (Γ : Ctx) (p : Pos) : Out := (runA prog w h S R₀ d t os c flt Γ p).getD ⟨.none, .nil, 0, [], 0, [], [], [], [], none⟩
theorem RA_ob (flt : FltTy) (Γ : Ctx) (p : Pos) : (RA prog w h S R₀ d t os c flt Γ p).ob.map (·.1) = (RA prog w h S R₀ d t os c flt Γ p).ob.map (·.2) := by kernel_rfl
theorem RA_cs (flt : FltTy) (Γ : Ctx) (p : Pos) : (RA prog w h S R₀ d t os c flt Γ p).cs.map (·.1) = (RA prog w h S R₀ d t os c flt Γ p).cs.map (·.2) := by kernel_rfl
theorem RA_ne (flt : FltTy) (Γ : Ctx) (p : Pos) : (RA prog w h S R₀ d t os c flt Γ p).ne.map (·.1) = (RA prog w h S R₀ d t os c flt Γ p).ne.map (·.2) := by kernel_rfl
theorem RA_eq (flt : FltTy) (Γ : Ctx) (p : Pos) : runA prog w h S R₀ d t os c flt Γ p = some ⟨.none, TA S c, 3, [], 0, (RA prog w h S R₀ d t os c flt Γ p).ob, (RA prog w h S R₀ d t os c flt Γ p).cs, (RA prog w h S R₀ d t os c flt Γ p).ne, [], some (restA prog w h S R₀ d t os c flt Γ p)⟩ := by kernel_rfl
noncomputable def flt1 : FltTy := fun _ _ _ => [.type "object"]
noncomputable def σA : Sv2 := ⟨TA S c, 3, [], 0, [], [], [], []⟩
noncomputable def runB (Γ₀ : Ctx) (p₀ : Pos) (Γ : Ctx) (p : Pos) : Option Out := goRun (baseV prog w h S R₀ d t os) dnZ Code.quiet (tnOlds c) [(conS c S).sum, (conG c S t).sum] 1500 LB Γ p .base (restA prog w h S R₀ d t os c flt1 Γ₀ p₀) (σA S c)
noncomputable def RB (Γ₀ : Ctx) (p₀ : Pos) (Γ : Ctx) (p : Pos) : Out := (runB prog w h S R₀ d t os c Γ₀ p₀ Γ p).getD ⟨.none, .nil, 0, [], 0, [], [], [], [], none⟩
theorem RB_eq (Γ₀ : Ctx) (p₀ : Pos) (Γ : Ctx) (p : Pos) : runB prog w h S R₀ d t os c Γ₀ p₀ Γ p = some ⟨.ref (S + 2), insL .nil 0 (tnNews c w.params t S), 6, [], 4, (RB prog w h S R₀ d t os c Γ₀ p₀ Γ p).ob, (RB prog w h S R₀ d t os c Γ₀ p₀ Γ p).cs, (RB prog w h S R₀ d t os c Γ₀ p₀ Γ p).ne, [], none⟩ := by kernel_rfl
theorem RB_ob (Γ₀ : Ctx) (p₀ : Pos) (Γ : Ctx) (p : Pos) : (RB prog w h S R₀ d t os c Γ₀ p₀ Γ p).ob.map (·.1) = (RB prog w h S R₀ d t os c Γ₀ p₀ Γ p).ob.map (·.2) := by kernel_rfl
theorem RB_cs (Γ₀ : Ctx) (p₀ : Pos) (Γ : Ctx) (p : Pos) : (RB prog w h S R₀ d t os c Γ₀ p₀ Γ p).cs.map (·.1) = (RB prog w h S R₀ d t os c Γ₀ p₀ Γ p).cs.map (·.2) := by kernel_rfl
theorem RB_ne (Γ₀ : Ctx) (p₀ : Pos) (Γ : Ctx) (p : Pos) : (RB prog w h S R₀ d t os c Γ₀ p₀ Γ p).ne.map (·.1) = (RB prog w h S R₀ d t os c Γ₀ p₀ Γ p).ne.map (·.2) := by kernel_rfl
variable (g : Array GenState)
theorem new_run (hs : h.objs.size = S) (hold : ∀ p ∈ tnOlds c, h.get? p.1 = some p.2) (A : Around) :
    wpAny (model prog w) A (runValue (tnCode c)) (fun v s' => v = .ref (S + 2) ∧ ∃ h', s' = ⟨h', g, d, t + 4, os⟩ ∧ On h h' (tnNews c w.params t S)) (fun _ _ => False) ⟨h, g, d, t, os⟩ := fun Γ p _ => by
  rw [Sem.wp_runValue]
  rw [wpCode_iff_wp]
  rw [show (model prog w).den (Γ.enter (tnCode c) none p).code = dnZ (tnCode c) from congrFun hdnZ (tnCode c)]
  let P : Result → Shared → Prop := fun r s' => match r with | .ok (.ret v) => v = .ref (S + 2) ∧ ∃ h', s' = ⟨h', g, d, t + 4, os⟩ ∧ On h h' (tnNews c w.params t S) | .ok _ => False | .error e => False
  have O := baseV_ok (prog := prog) (w := w) (R₀ := P) (d := d) (t₀ := t) (os := os) hs
  have hl : h.get? c.a7 = some { cls := .type "list", data := .seq #[.str "obj" (c.tk 15)] } := hold (c.a7, _) (.tail _ (.tail _ (.head _)))
  have h2 : h.get? 2 = some o2 := hold (2, o2) (List.mem_of_getElem? (i := 10) rfl)
  have z := run_sound (g := g) O dnF_eq rfl hold (cons := [(conC c S).sum]) (fun C hC => by
    rcases List.mem_cons.mp hC with rfl | hC
    · exact (conC_ok prog w c S h P g d t os hs hl).sum
    · cases hC) (Out.ok.all ⟨RA_ob prog w h S P d t os c flt0 (Γ.enter (tnCode c) none p) p, RA_cs prog w h S P d t os c flt0 (Γ.enter (tnCode c) none p) p, RA_ne prog w h S P d t os c flt0 (Γ.enter (tnCode c) none p) p, rfl⟩) (R := ⟨.none, TA S c, 3, [], 0, _, _, _, [], some (restA prog w h S P d t os c flt0 (Γ.enter (tnCode c) none p) p)⟩) (by
      intro h' D Γ' p'
      have e : restA prog w h S P d t os c flt0 (Γ.enter (tnCode c) none p) p = restA prog w h S P d t os c flt1 (Γ.enter (tnCode c) none p) p := by
        rw [restA_flt, filterR_self _ _ _ (by simp)]
        rfl
      show MK _ Γ' p' .base (restA prog w h S P d t os c flt0 (Γ.enter (tnCode c) none p) p) _
      rw [e]
      exact (run_sound (g := g) O hdnZ rfl hold (cons := [(conS c S).sum, (conG c S t).sum]) (fun C hC => by
        rcases List.mem_cons.mp hC with rfl | hC
        · exact (conS_ok prog w c S h P g d t os).sum
        · rcases List.mem_cons.mp hC with rfl | hC
          · exact (conG_ok prog w c S h P g d t os h2).sum
          · cases hC) (Out.ok.all ⟨RB_ob prog w h S P d t os c (Γ.enter (tnCode c) none p) p Γ' p', RB_cs prog w h S P d t os c (Γ.enter (tnCode c) none p) p Γ' p', RB_ne prog w h S P d t os c (Γ.enter (tnCode c) none p) p Γ' p', rfl⟩) (R := ⟨.ref (S + 2), insL .nil 0 (tnNews c w.params t S), 6, [], 4, _, _, _, [], none⟩) (by
          intro h'' D''
          refine ⟨rfl, h'', rfl, on_rep hs D'' rfl fun i hi => ?_⟩
          match i, hi with
          | 0, _ => rfl
          | 1, _ => rfl
          | 2, _ => rfl
          | 3, _ => rfl
          | 4, _ => rfl
          | 5, _ => rfl
          | i + 6, hi => exact absurd hi (by simp [tnNews])) 1500 LB Γ' p' .base _ (σA S c) (RB_eq prog w h S P d t os c (Γ.enter (tnCode c) none p) p Γ' p')).2 h' D) 1000 LA (Γ.enter (tnCode c) none p) p .base _ σ0 (RA_eq prog w h S P d t os c flt0 (Γ.enter (tnCode c) none p) p)
  refine Sem.wp_mono _ _ _ (fun a p' s' hh => ?_) (fun e p' s' hh => hh) _ _ (z.2 h (Rep.start O))
  cases a with
  | done f => exact hh
  | again c => exact hh
end
end Mine
end
section
open PySem PySem.W PySem.W.X PyProof.Rows
set_option maxRecDepth 1000000
set_option maxHeartbeats 0
set_option linter.unusedVariables false
namespace Mine
/-! the call type.__new__ of the class K as a contract of the simulator -/
noncomputable def hashOf (o : Option Obj) (i : Nat) : Int := match o with
  | some ⟨_, _, .dict es _, _⟩ => match es[i]? with | some e => e.hash | none => 0
  | _ => 0
noncomputable def funcOf (o : Option Obj) : FuncData := match o with
  | some ⟨_, _, .func f, _⟩ => f
  | _ => default
noncomputable def tnC (S t₀ : Nat) (T : BT) : TnA := ⟨S + 10, S + 10, S + 17, S + 24, S + 32, S + 40, S + 48, S + 56, S + 64, S + 65, fun i => t₀ + (i + 8), hashOf (T.get 12), funcOf (T.get 24), funcOf (T.get 32), funcOf (T.get 40), funcOf (T.get 48), funcOf (T.get 56), funcOf (T.get 64)⟩
noncomputable def tnNeed (S t₀ : Nat) (T : BT) : List (Option Obj × Option Obj) :=
  [(T.get 10, some { cls := .type "tuple", data := .seq #[.type "object"] }), (T.get 12, some (tnNs (tnC S t₀ T))), (T.get 17, some { cls := .type "list", data := .seq #[.str "obj" (t₀ + 23)] }),
   (T.get 24, some (fnO (tnC S t₀ T).f14)), (T.get 32, some (fnO (tnC S t₀ T).f22)), (T.get 40, some (fnO (tnC S t₀ T).f30)), (T.get 48, some (fnO (tnC S t₀ T).f38)), (T.get 56, some (fnO (tnC S t₀ T).f46)), (T.get 64, some (fnO (tnC S t₀ T).f54)), (T.get 65, some { cls := .type "tuple", data := .seq #[.str "obj" (t₀ + 79)] })]
noncomputable def conN (P : Params) (S t₀ : Nat) : Con :=
  ⟨.call (.builtin "type.__new__") ⟨[.type "type", .str "K" (t₀ + 8), .ref (S + 10), .ref (S + 12)], []⟩, .ref (S + 68), fun T => tnNeed S t₀ T ++ insOk T 66 (tnNews (tnC S t₀ T) P (t₀ + 81) (S + 66)), fun _ => [], fun T => insL T 66 (tnNews (tnC S t₀ T) P (t₀ + 81) (S + 66)), 66, 6, 4, 81⟩
theorem conN_ok (V : XV) (g : Array GenState) (h2 : V.h₀.get? 2 = some o2) : ConOk V g (conN V.w.params V.n₁ V.t₀) := by
  refine ⟨fun A h T ch D hn _ => ?_⟩
  have hold : ∀ p ∈ tnOlds (tnC V.n₁ V.t₀ T), h.get? p.1 = some p.2 := by
    have G : ∀ i o, (T.get i, some o) ∈ (conN V.w.params V.n₁ V.t₀).need T → h.get? (V.n₁ + i) = some o := fun i o hm => (D.own i o (hn _ hm)).2
    intro p hp
    simp only [tnOlds, List.mem_cons, List.not_mem_nil, or_false] at hp
    rcases hp with rfl | rfl | rfl | rfl | rfl | rfl | rfl | rfl | rfl | rfl | rfl
    · exact G 10 _ (.head _)
    · exact G 12 _ (.tail _ (.head _))
    · exact G 17 _ (.tail _ (.tail _ (.head _)))
    · exact G 24 _ (.tail _ (.tail _ (.tail _ (.head _))))
    · exact G 32 _ (.tail _ (.tail _ (.tail _ (.tail _ (.head _)))))
    · exact G 40 _ (.tail _ (.tail _ (.tail _ (.tail _ (.tail _ (.head _))))))
    · exact G 48 _ (.tail _ (.tail _ (.tail _ (.tail _ (.tail _ (.tail _ (.head _)))))))
    · exact G 56 _ (.tail _ (.tail _ (.tail _ (.tail _ (.tail _ (.tail _ (.tail _ (.head _))))))))
    · exact G 64 _ (.tail _ (.tail _ (.tail _ (.tail _ (.tail _ (.tail _ (.tail _ (.tail _ (.head _)))))))))
    · exact G 65 _ (.tail _ (.tail _ (.tail _ (.tail _ (.tail _ (.tail _ (.tail _ (.tail _ (.tail _ (.head _))))))))))
    · exact D.keep 2 _ h2 (rep_noTab D h2 rfl)
  have z := new_run V.prog V.w h (V.n₁ + 66) V.d (V.t₀ + 81) V.os (tnC V.n₁ V.t₀ T) g D.size hold A
  refine wpAny_mono z (fun v s' hv => ?_) fun _ _ x => x
  obtain ⟨rfl, h', rfl, N⟩ := hv
  exact ⟨rfl, h', rfl, rep_on D N fun p hp => hn p (List.mem_append_right _ hp)⟩
end Mine
end
section
open PySem PySem.W PyProof.Rows
set_option maxRecDepth 100000
namespace Mine
/-! the heap after the text's top, every object: the functions' parts are taken out of the text -/
noncomputable def fDef (i : Nat) : Arguments × List Stmt × Scope := match PySem.Challenge.pw_oy0040_01.main.body[i]? with
  | some s => match s with
    | .FunctionDef _ a b _ _ _ sc _ _ _ => (a, b, sc)
    | _ => default
  | none => default
noncomputable def fP (i : Nat) : Arguments := (fDef i).1
noncomputable def fB (i : Nat) : List Stmt := (fDef i).2.1
noncomputable def fS (i : Nat) : Scope := (fDef i).2.2
noncomputable def kh (P : Params) (x : Str) : Int := PyData.keyHash P x
noncomputable def en (P : Params) (x : Str) (t : Nat) (v : Value) : DictEntry := ⟨kh P x, .str x t, v⟩
noncomputable def ob0 (P : Params) : Obj := ({ cls := .type "dict", data := .dict #[en P "__name__" 1 (.str "builtins" 160), en P "__doc__" 2 (.builtin "builtins.__doc__:str#opaque"), en P "__package__" 3 (.builtin "builtins.__package__:str#opaque"), en P "__loader__" 4 (.builtin "builtins.__loader__:shared#opaque"), en P "__spec__" 5 (.builtin "builtins.__spec__#opaque"), en P "__build_class__" 6 (.builtin "__build_class__"), en P "__import__" 7 (.builtin "__import__"), en P "abs" 8 (.builtin "abs"), en P "all" 9 (.builtin "all"), en P "any" 10 (.builtin "any"), en P "ascii" 11 (.builtin "ascii"), en P "bin" 12 (.builtin "bin"), en P "breakpoint" 13 (.builtin "breakpoint"), en P "callable" 14 (.builtin "callable"), en P "chr" 15 (.builtin "chr"), en P "compile" 16 (.builtin "compile"), en P "delattr" 17 (.builtin "delattr"), en P "dir" 18 (.builtin "dir"), en P "divmod" 19 (.builtin "divmod"), en P "eval" 20 (.builtin "eval"), en P "exec" 21 (.builtin "exec"), en P "format" 22 (.builtin "format"), en P "getattr" 23 (.builtin "getattr"), en P "globals" 24 (.builtin "globals"), en P "hasattr" 25 (.builtin "hasattr"), en P "hash" 26 (.builtin "hash"), en P "hex" 27 (.builtin "hex"), en P "id" 28 (.builtin "id"), en P "input" 29 (.builtin "input"), en P "isinstance" 30 (.builtin "isinstance"), en P "issubclass" 31 (.builtin "issubclass"), en P "iter" 32 (.builtin "iter"), en P "aiter" 33 (.builtin "aiter"), en P "len" 34 (.builtin "len"), en P "locals" 35 (.builtin "locals"), en P "max" 36 (.builtin "max"), en P "min" 37 (.builtin "min"), en P "next" 38 (.builtin "next"), en P "anext" 39 (.builtin "anext"), en P "oct" 40 (.builtin "oct"), en P "ord" 41 (.builtin "ord"), en P "pow" 42 (.builtin "pow"), en P "print" 43 (.builtin "print"), en P "repr" 44 (.builtin "repr"), en P "round" 45 (.builtin "round"), en P "setattr" 46 (.builtin "setattr"), en P "sorted" 47 (.builtin "sorted"), en P "sum" 48 (.builtin "sum"), en P "vars" 49 (.builtin "vars"), en P "None" 50 (.none), en P "Ellipsis" 51 (.ellipsis), en P "NotImplemented" 52 (.notImplemented), en P "False" 53 (.bool false), en P "True" 54 (.bool true), en P "bool" 55 (.type "bool"), en P "memoryview" 56 (.type "memoryview"), en P "bytearray" 57 (.type "bytearray"), en P "bytes" 58 (.type "bytes"), en P "classmethod" 59 (.type "classmethod"), en P "complex" 60 (.type "complex"), en P "dict" 61 (.type "dict"), en P "enumerate" 62 (.type "enumerate"), en P "filter" 63 (.type "filter"), en P "float" 64 (.type "float"), en P "frozenset" 65 (.type "frozenset"), en P "property" 66 (.type "property"), en P "int" 67 (.type "int"), en P "list" 68 (.type "list"), en P "map" 69 (.type "map"), en P "object" 70 (.type "object"), en P "range" 71 (.type "range"), en P "reversed" 72 (.type "reversed"), en P "set" 73 (.type "set"), en P "slice" 74 (.type "slice"), en P "staticmethod" 75 (.type "staticmethod"), en P "str" 76 (.type "str"), en P "super" 77 (.type "super"), en P "tuple" 78 (.type "tuple"), en P "type" 79 (.type "type"), en P "zip" 80 (.type "zip"), en P "__debug__" 81 (.bool true), en P "BaseException" 82 (.type "BaseException"), en P "BaseExceptionGroup" 83 (.type "BaseExceptionGroup"), en P "Exception" 84 (.type "Exception"), en P "GeneratorExit" 85 (.type "GeneratorExit"), en P "KeyboardInterrupt" 86 (.type "KeyboardInterrupt"), en P "SystemExit" 87 (.type "SystemExit"), en P "ArithmeticError" 88 (.type "ArithmeticError"), en P "AssertionError" 89 (.type "AssertionError"), en P "AttributeError" 90 (.type "AttributeError"), en P "BufferError" 91 (.type "BufferError"), en P "EOFError" 92 (.type "EOFError"), en P "ImportError" 93 (.type "ImportError"), en P "LookupError" 94 (.type "LookupError"), en P "MemoryError" 95 (.type "MemoryError"), en P "NameError" 96 (.type "NameError"), en P "OSError" 97 (.type "OSError"), en P "ReferenceError" 98 (.type "ReferenceError"), en P "RuntimeError" 99 (.type "RuntimeError"), en P "StopAsyncIteration" 100 (.type "StopAsyncIteration"), en P "StopIteration" 101 (.type "StopIteration"), en P "SyntaxError" 102 (.type "SyntaxError"), en P "SystemError" 103 (.type "SystemError"), en P "TypeError" 104 (.type "TypeError"), en P "ValueError" 105 (.type "ValueError"), en P "Warning" 106 (.type "Warning"), en P "FloatingPointError" 107 (.type "FloatingPointError"), en P "OverflowError" 108 (.type "OverflowError"), en P "ZeroDivisionError" 109 (.type "ZeroDivisionError"), en P "BytesWarning" 110 (.type "BytesWarning"), en P "DeprecationWarning" 111 (.type "DeprecationWarning"), en P "EncodingWarning" 112 (.type "EncodingWarning"), en P "FutureWarning" 113 (.type "FutureWarning"), en P "ImportWarning" 114 (.type "ImportWarning"), en P "PendingDeprecationWarning" 115 (.type "PendingDeprecationWarning"), en P "ResourceWarning" 116 (.type "ResourceWarning"), en P "RuntimeWarning" 117 (.type "RuntimeWarning"), en P "SyntaxWarning" 118 (.type "SyntaxWarning"), en P "UnicodeWarning" 119 (.type "UnicodeWarning"), en P "UserWarning" 120 (.type "UserWarning"), en P "BlockingIOError" 121 (.type "BlockingIOError"), en P "ChildProcessError" 122 (.type "ChildProcessError"), en P "ConnectionError" 123 (.type "ConnectionError"), en P "FileExistsError" 124 (.type "FileExistsError"), en P "FileNotFoundError" 125 (.type "FileNotFoundError"), en P "InterruptedError" 126 (.type "InterruptedError"), en P "IsADirectoryError" 127 (.type "IsADirectoryError"), en P "NotADirectoryError" 128 (.type "NotADirectoryError"), en P "PermissionError" 129 (.type "PermissionError"), en P "ProcessLookupError" 130 (.type "ProcessLookupError"), en P "TimeoutError" 131 (.type "TimeoutError"), en P "IndentationError" 132 (.type "IndentationError"), en P "_IncompleteInputError" 133 (.type "_IncompleteInputError"), en P "IndexError" 134 (.type "IndexError"), en P "KeyError" 135 (.type "KeyError"), en P "ModuleNotFoundError" 136 (.type "ModuleNotFoundError"), en P "NotImplementedError" 137 (.type "NotImplementedError"), en P "PythonFinalizationError" 138 (.type "PythonFinalizationError"), en P "RecursionError" 139 (.type "RecursionError"), en P "UnboundLocalError" 140 (.type "UnboundLocalError"), en P "UnicodeError" 141 (.type "UnicodeError"), en P "BrokenPipeError" 142 (.type "BrokenPipeError"), en P "ConnectionAbortedError" 143 (.type "ConnectionAbortedError"), en P "ConnectionRefusedError" 144 (.type "ConnectionRefusedError"), en P "ConnectionResetError" 145 (.type "ConnectionResetError"), en P "TabError" 146 (.type "TabError"), en P "UnicodeDecodeError" 147 (.type "UnicodeDecodeError"), en P "UnicodeEncodeError" 148 (.type "UnicodeEncodeError"), en P "UnicodeTranslateError" 149 (.type "UnicodeTranslateError"), en P "ExceptionGroup" 150 (.type "ExceptionGroup"), en P "EnvironmentError" 151 (.type "OSError"), en P "IOError" 152 (.type "OSError"), en P "open" 153 (.builtin "open"), en P "quit" 154 (.builtin "builtins.quit#opaque"), en P "exit" 155 (.builtin "builtins.exit#opaque"), en P "copyright" 156 (.builtin "builtins.copyright#opaque"), en P "credits" 157 (.builtin "builtins.credits#opaque"), en P "license" 158 (.builtin "builtins.license#opaque"), en P "help" 159 (.builtin "builtins.help#opaque")] 159 } : Obj)
noncomputable def ob1 (P : Params) : Obj := ({ cls := .type "dict", data := .dict #[en P "builtins" 162 (.ref 4), en P "__main__" 163 (.ref 5)] 2 } : Obj)
noncomputable def ob2 (P : Params) : Obj := ({ cls := .none, data := .dict #[] } : Obj)
noncomputable def ob3 (P : Params) : Obj := ({ cls := .type "dict", data := .dict #[en P "__name__" 165 (.str "law_oy0040_01" 248), en P "__doc__" 166 (.none), en P "__package__" 167 (.none), en P "__loader__" 168 (.builtin "__main__.__loader__#opaque"), en P "__spec__" 169 (.none), en P "__annotations__" 170 (.ref 6), en P "__builtins__" 171 (.ref 4), en P "__file__" 173 (.str "/claim/cut.py" 172), en P "__cached__" 174 (.none), en P "_byteswap" 199 (.ref 21), en P "cmp_to_key" 210 (.ref 28), en P "_initial_missing" 211 (.ref 29), en P "reduce" 223 (.ref 37), en P "sorted_list_difference" 239 (.ref 44), en P "three_way_cmp" 247 (.ref 51), en P "_law_lay" 255 (.ref 56), en P "_law_shadows" 261 (.ref 61), en P "_law_emptied" 267 (.ref 66), en P "_law_mirrored" 273 (.ref 71), en P "_law_pictures" 279 (.ref 76), en P "law" 285 (.ref 81)] 21 } : Obj)
noncomputable def ob4 (P : Params) : Obj := ({ cls := .type "module", dict := some 0 } : Obj)
noncomputable def ob5 (P : Params) : Obj := ({ cls := .type "module", dict := some 3 } : Obj)
noncomputable def ob6 (P : Params) : Obj := ({ cls := .type "dict", data := .dict #[] } : Obj)
noncomputable def ob7 (P : Params) : Obj := ({ cls := .type "tuple", data := .seq #[] } : Obj)
noncomputable def ob8 (P : Params) : Obj := ({ cls := .none, data := .fields #[] } : Obj)
noncomputable def ob9 (P : Params) : Obj := ({ cls := .type "code", data := .fields #[.str "<module>" 176, .str "<module>" 177, .str "/claim/cut.py" 178, .int 1 0, .int 0 0, .int 0 0, .int 0 0, .int 0 0, .ref 7, .bool false, .int 175 0, .ref 8, .none, .none, .none, .none, .int 179 0, .int 1 0, .str "/claim/cut.py" 180] } : Obj)
noncomputable def ob10 (P : Params) : Obj := ({ cls := .type "frame", slots := #[some (.ref 9), some (.ref 3), some (.ref 3), none, some (.str "__main__" 164), none, some (.ref 0)] } : Obj)
noncomputable def ob11 (P : Params) : Obj := ({ cls := .type "tuple", data := .seq #[] } : Obj)
noncomputable def ob12 (P : Params) : Obj := ({ cls := .none, data := .fields #[.int 2 0, .int 0 0, .ref 20, .int 9 0, .int 0 0, .ref 27, .int 35 0, .int 0 0, .ref 36, .int 48 0, .int 0 0, .ref 43, .int 80 0, .int 0 0, .ref 50, .int 83 0, .int 0 0, .ref 55, .int 101 0, .int 0 0, .ref 60, .int 112 0, .int 0 0, .ref 65, .int 125 0, .int 0 0, .ref 70, .int 127 0, .int 0 0, .ref 75, .int 129 0, .int 0 0, .ref 80] } : Obj)
noncomputable def ob13 (P : Params) : Obj := ({ cls := .type "code", data := .fields #[.str "<module>" 182, .str "<module>" 183, .str "/claim/cut.py" 184, .int 1 0, .int 0 0, .int 0 0, .int 0 0, .int 0 0, .ref 11, .bool false, .int 181 0, .ref 12, .none, .none, .none, .none, .int 185 0, .int 1 0, .str "/claim/cut.py" 186] } : Obj)
noncomputable def ob14 (P : Params) : Obj := ({ cls := .type "frame", slots := #[some (.ref 13), some (.ref 3), some (.ref 3), none, some (.str "__main__" 164), none, some (.ref 0)] } : Obj)
noncomputable def ob15 (P : Params) : Obj := ({ cls := .type "tuple", data := .seq #[] } : Obj)
noncomputable def ob16 (P : Params) : Obj := ({ cls := .none, data := .fields #[] } : Obj)
noncomputable def ob17 (P : Params) : Obj := ({ cls := .type "tuple", data := .seq #[.str "data" 192, .str "width" 193, .str "swapped_data" 194, .str "i" 195, .str "j" 196] } : Obj)
noncomputable def ob18 (P : Params) : Obj := ({ cls := .type "tuple", data := .seq #[] } : Obj)
noncomputable def ob19 (P : Params) : Obj := ({ cls := .none, data := .func { name := "_byteswap", qualname := "_byteswap", params := fP 1, body := .stmts (fB 1), scope := fS 1, globals := 0, closure := [], defaults := .none, kwdefaults := .none } } : Obj)
noncomputable def ob20 (P : Params) : Obj := ({ cls := .type "code", data := .fields #[.str "_byteswap" 189, .str "_byteswap" 190, .str "/claim/cut.py" 191, .int 2 0, .int 2 0, .int 0 0, .int 0 0, .int 3 0, .ref 15, .bool true, .int 181 0, .ref 16, .none, .ref 17, .ref 18, .ref 19, .int 197 0, .int 2 0, .str "/claim/cut.py" 198] } : Obj)
noncomputable def ob21 (P : Params) : Obj := ({ cls := .type "function", data := .func { name := "_byteswap", qualname := "_byteswap", params := fP 1, body := .stmts (fB 1), scope := fS 1, globals := 3, closure := [], defaults := .none, kwdefaults := .none, pyModule := .str "cpy313.wave" 187, code := .ref 20 } } : Obj)
noncomputable def ob22 (P : Params) : Obj := ({ cls := .type "tuple", data := .seq #[] } : Obj)
noncomputable def ob23 (P : Params) : Obj := ({ cls := .none, data := .fields #[] } : Obj)
noncomputable def ob24 (P : Params) : Obj := ({ cls := .type "tuple", data := .seq #[.str "mycmp" 205, .str "K" 206] } : Obj)
noncomputable def ob25 (P : Params) : Obj := ({ cls := .type "tuple", data := .seq #[.str "mycmp" 207] } : Obj)
noncomputable def ob26 (P : Params) : Obj := ({ cls := .none, data := .func { name := "cmp_to_key", qualname := "cmp_to_key", params := fP 3, body := .stmts (fB 3), scope := fS 3, globals := 0, closure := [], defaults := .none, kwdefaults := .none } } : Obj)
noncomputable def ob27 (P : Params) : Obj := ({ cls := .type "code", data := .fields #[.str "cmp_to_key" 202, .str "cmp_to_key" 203, .str "/claim/cut.py" 204, .int 9 0, .int 1 0, .int 0 0, .int 0 0, .int 3 0, .ref 22, .bool true, .int 181 0, .ref 23, .none, .ref 24, .ref 25, .ref 26, .int 208 0, .int 9 0, .str "/claim/cut.py" 209] } : Obj)
noncomputable def ob28 (P : Params) : Obj := ({ cls := .type "function", data := .func { name := "cmp_to_key", qualname := "cmp_to_key", params := fP 3, body := .stmts (fB 3), scope := fS 3, globals := 3, closure := [], defaults := .none, kwdefaults := .none, pyModule := .str "cpy313.functools" 200, code := .ref 27 } } : Obj)
noncomputable def ob29 (P : Params) : Obj := ({ cls := .type "object" } : Obj)
noncomputable def ob30 (P : Params) : Obj := ({ cls := .type "tuple", data := .seq #[.ref 29] } : Obj)
noncomputable def ob31 (P : Params) : Obj := ({ cls := .type "tuple", data := .seq #[] } : Obj)
noncomputable def ob32 (P : Params) : Obj := ({ cls := .none, data := .fields #[] } : Obj)
noncomputable def ob33 (P : Params) : Obj := ({ cls := .type "tuple", data := .seq #[.str "function" 215, .str "sequence" 216, .str "initial" 217, .str "it" 218, .str "value" 219, .str "element" 220] } : Obj)
noncomputable def ob34 (P : Params) : Obj := ({ cls := .type "tuple", data := .seq #[] } : Obj)
noncomputable def ob35 (P : Params) : Obj := ({ cls := .none, data := .func { name := "reduce", qualname := "reduce", params := fP 5, body := .stmts (fB 5), scope := fS 5, globals := 0, closure := [], defaults := .none, kwdefaults := .none } } : Obj)
noncomputable def ob36 (P : Params) : Obj := ({ cls := .type "code", data := .fields #[.str "reduce" 212, .str "reduce" 213, .str "/claim/cut.py" 214, .int 35 0, .int 3 0, .int 0 0, .int 0 0, .int 3 0, .ref 31, .bool true, .int 181 0, .ref 32, .none, .ref 33, .ref 34, .ref 35, .int 221 0, .int 35 0, .str "/claim/cut.py" 222] } : Obj)
noncomputable def ob37 (P : Params) : Obj := ({ cls := .type "function", data := .func { name := "reduce", qualname := "reduce", params := fP 5, body := .stmts (fB 5), scope := fS 5, globals := 3, closure := [], defaults := .ref 30, kwdefaults := .none, pyModule := .str "cpy313.functools" 200, code := .ref 36 } } : Obj)
noncomputable def ob38 (P : Params) : Obj := ({ cls := .type "tuple", data := .seq #[] } : Obj)
noncomputable def ob39 (P : Params) : Obj := ({ cls := .none, data := .fields #[] } : Obj)
noncomputable def ob40 (P : Params) : Obj := ({ cls := .type "tuple", data := .seq #[.str "expected" 229, .str "actual" 230, .str "i" 231, .str "j" 232, .str "missing" 233, .str "unexpected" 234, .str "e" 235, .str "a" 236] } : Obj)
noncomputable def ob41 (P : Params) : Obj := ({ cls := .type "tuple", data := .seq #[] } : Obj)
noncomputable def ob42 (P : Params) : Obj := ({ cls := .none, data := .func { name := "sorted_list_difference", qualname := "sorted_list_difference", params := fP 7, body := .stmts (fB 7), scope := fS 7, globals := 0, closure := [], defaults := .none, kwdefaults := .none } } : Obj)
noncomputable def ob43 (P : Params) : Obj := ({ cls := .type "code", data := .fields #[.str "sorted_list_difference" 226, .str "sorted_list_difference" 227, .str "/claim/cut.py" 228, .int 48 0, .int 2 0, .int 0 0, .int 0 0, .int 3 0, .ref 38, .bool true, .int 181 0, .ref 39, .none, .ref 40, .ref 41, .ref 42, .int 237 0, .int 48 0, .str "/claim/cut.py" 238] } : Obj)
noncomputable def ob44 (P : Params) : Obj := ({ cls := .type "function", data := .func { name := "sorted_list_difference", qualname := "sorted_list_difference", params := fP 7, body := .stmts (fB 7), scope := fS 7, globals := 3, closure := [], defaults := .none, kwdefaults := .none, pyModule := .str "cpy313.unittest.util" 224, code := .ref 43 } } : Obj)
noncomputable def ob45 (P : Params) : Obj := ({ cls := .type "tuple", data := .seq #[] } : Obj)
noncomputable def ob46 (P : Params) : Obj := ({ cls := .none, data := .fields #[] } : Obj)
noncomputable def ob47 (P : Params) : Obj := ({ cls := .type "tuple", data := .seq #[.str "x" 243, .str "y" 244] } : Obj)
noncomputable def ob48 (P : Params) : Obj := ({ cls := .type "tuple", data := .seq #[] } : Obj)
noncomputable def ob49 (P : Params) : Obj := ({ cls := .none, data := .func { name := "three_way_cmp", qualname := "three_way_cmp", params := fP 8, body := .stmts (fB 8), scope := fS 8, globals := 0, closure := [], defaults := .none, kwdefaults := .none } } : Obj)
noncomputable def ob50 (P : Params) : Obj := ({ cls := .type "code", data := .fields #[.str "three_way_cmp" 240, .str "three_way_cmp" 241, .str "/claim/cut.py" 242, .int 80 0, .int 2 0, .int 0 0, .int 0 0, .int 3 0, .ref 45, .bool true, .int 181 0, .ref 46, .none, .ref 47, .ref 48, .ref 49, .int 245 0, .int 80 0, .str "/claim/cut.py" 246] } : Obj)
noncomputable def ob51 (P : Params) : Obj := ({ cls := .type "function", data := .func { name := "three_way_cmp", qualname := "three_way_cmp", params := fP 8, body := .stmts (fB 8), scope := fS 8, globals := 3, closure := [], defaults := .none, kwdefaults := .none, pyModule := .str "cpy313.unittest.util" 224, code := .ref 50 } } : Obj)
noncomputable def ob52 (P : Params) : Obj := ({ cls := .type "tuple", data := .seq #[] } : Obj)
noncomputable def ob53 (P : Params) : Obj := ({ cls := .none, data := .fields #[] } : Obj)
noncomputable def ob54 (P : Params) : Obj := ({ cls := .none, data := .func { name := "_law_lay", qualname := "_law_lay", params := fP 10, body := .stmts (fB 10), scope := fS 10, globals := 0, closure := [], defaults := .none, kwdefaults := .none } } : Obj)
noncomputable def ob55 (P : Params) : Obj := ({ cls := .type "code", data := .fields #[.str "_law_lay" 250, .str "_law_lay" 251, .str "/claim/cut.py" 252, .int 83 0, .int 2 0, .int 0 0, .int 0 0, .int 3 0, .ref 52, .bool true, .int 181 0, .ref 53, .none, .none, .none, .ref 54, .int 253 0, .int 83 0, .str "/claim/cut.py" 254] } : Obj)
noncomputable def ob56 (P : Params) : Obj := ({ cls := .type "function", data := .func { name := "_law_lay", qualname := "_law_lay", params := fP 10, body := .stmts (fB 10), scope := fS 10, globals := 3, closure := [], defaults := .none, kwdefaults := .none, pyModule := .str "law_oy0040_01" 248, code := .ref 55 } } : Obj)
noncomputable def ob57 (P : Params) : Obj := ({ cls := .type "tuple", data := .seq #[] } : Obj)
noncomputable def ob58 (P : Params) : Obj := ({ cls := .none, data := .fields #[] } : Obj)
noncomputable def ob59 (P : Params) : Obj := ({ cls := .none, data := .func { name := "_law_shadows", qualname := "_law_shadows", params := fP 11, body := .stmts (fB 11), scope := fS 11, globals := 0, closure := [], defaults := .none, kwdefaults := .none } } : Obj)
noncomputable def ob60 (P : Params) : Obj := ({ cls := .type "code", data := .fields #[.str "_law_shadows" 256, .str "_law_shadows" 257, .str "/claim/cut.py" 258, .int 101 0, .int 1 0, .int 0 0, .int 0 0, .int 3 0, .ref 57, .bool true, .int 181 0, .ref 58, .none, .none, .none, .ref 59, .int 259 0, .int 101 0, .str "/claim/cut.py" 260] } : Obj)
noncomputable def ob61 (P : Params) : Obj := ({ cls := .type "function", data := .func { name := "_law_shadows", qualname := "_law_shadows", params := fP 11, body := .stmts (fB 11), scope := fS 11, globals := 3, closure := [], defaults := .none, kwdefaults := .none, pyModule := .str "law_oy0040_01" 248, code := .ref 60 } } : Obj)
noncomputable def ob62 (P : Params) : Obj := ({ cls := .type "tuple", data := .seq #[] } : Obj)
noncomputable def ob63 (P : Params) : Obj := ({ cls := .none, data := .fields #[] } : Obj)
noncomputable def ob64 (P : Params) : Obj := ({ cls := .none, data := .func { name := "_law_emptied", qualname := "_law_emptied", params := fP 12, body := .stmts (fB 12), scope := fS 12, globals := 0, closure := [], defaults := .none, kwdefaults := .none } } : Obj)
noncomputable def ob65 (P : Params) : Obj := ({ cls := .type "code", data := .fields #[.str "_law_emptied" 262, .str "_law_emptied" 263, .str "/claim/cut.py" 264, .int 112 0, .int 1 0, .int 0 0, .int 0 0, .int 3 0, .ref 62, .bool true, .int 181 0, .ref 63, .none, .none, .none, .ref 64, .int 265 0, .int 112 0, .str "/claim/cut.py" 266] } : Obj)
noncomputable def ob66 (P : Params) : Obj := ({ cls := .type "function", data := .func { name := "_law_emptied", qualname := "_law_emptied", params := fP 12, body := .stmts (fB 12), scope := fS 12, globals := 3, closure := [], defaults := .none, kwdefaults := .none, pyModule := .str "law_oy0040_01" 248, code := .ref 65 } } : Obj)
noncomputable def ob67 (P : Params) : Obj := ({ cls := .type "tuple", data := .seq #[] } : Obj)
noncomputable def ob68 (P : Params) : Obj := ({ cls := .none, data := .fields #[] } : Obj)
noncomputable def ob69 (P : Params) : Obj := ({ cls := .none, data := .func { name := "_law_mirrored", qualname := "_law_mirrored", params := fP 13, body := .stmts (fB 13), scope := fS 13, globals := 0, closure := [], defaults := .none, kwdefaults := .none } } : Obj)
noncomputable def ob70 (P : Params) : Obj := ({ cls := .type "code", data := .fields #[.str "_law_mirrored" 268, .str "_law_mirrored" 269, .str "/claim/cut.py" 270, .int 125 0, .int 1 0, .int 0 0, .int 0 0, .int 3 0, .ref 67, .bool true, .int 181 0, .ref 68, .none, .none, .none, .ref 69, .int 271 0, .int 125 0, .str "/claim/cut.py" 272] } : Obj)
noncomputable def ob71 (P : Params) : Obj := ({ cls := .type "function", data := .func { name := "_law_mirrored", qualname := "_law_mirrored", params := fP 13, body := .stmts (fB 13), scope := fS 13, globals := 3, closure := [], defaults := .none, kwdefaults := .none, pyModule := .str "law_oy0040_01" 248, code := .ref 70 } } : Obj)
noncomputable def ob72 (P : Params) : Obj := ({ cls := .type "tuple", data := .seq #[] } : Obj)
noncomputable def ob73 (P : Params) : Obj := ({ cls := .none, data := .fields #[] } : Obj)
noncomputable def ob74 (P : Params) : Obj := ({ cls := .none, data := .func { name := "_law_pictures", qualname := "_law_pictures", params := fP 14, body := .stmts (fB 14), scope := fS 14, globals := 0, closure := [], defaults := .none, kwdefaults := .none } } : Obj)
noncomputable def ob75 (P : Params) : Obj := ({ cls := .type "code", data := .fields #[.str "_law_pictures" 274, .str "_law_pictures" 275, .str "/claim/cut.py" 276, .int 127 0, .int 5 0, .int 0 0, .int 0 0, .int 3 0, .ref 72, .bool true, .int 181 0, .ref 73, .none, .none, .none, .ref 74, .int 277 0, .int 127 0, .str "/claim/cut.py" 278] } : Obj)
noncomputable def ob76 (P : Params) : Obj := ({ cls := .type "function", data := .func { name := "_law_pictures", qualname := "_law_pictures", params := fP 14, body := .stmts (fB 14), scope := fS 14, globals := 3, closure := [], defaults := .none, kwdefaults := .none, pyModule := .str "law_oy0040_01" 248, code := .ref 75 } } : Obj)
noncomputable def ob77 (P : Params) : Obj := ({ cls := .type "tuple", data := .seq #[] } : Obj)
noncomputable def ob78 (P : Params) : Obj := ({ cls := .none, data := .fields #[] } : Obj)
noncomputable def ob79 (P : Params) : Obj := ({ cls := .none, data := .func { name := "law", qualname := "law", params := fP 15, body := .stmts (fB 15), scope := fS 15, globals := 0, closure := [], defaults := .none, kwdefaults := .none } } : Obj)
noncomputable def ob80 (P : Params) : Obj := ({ cls := .type "code", data := .fields #[.str "law" 280, .str "law" 281, .str "/claim/cut.py" 282, .int 129 0, .int 1 0, .int 0 0, .int 0 0, .int 3 0, .ref 77, .bool true, .int 181 0, .ref 78, .none, .none, .none, .ref 79, .int 283 0, .int 129 0, .str "/claim/cut.py" 284] } : Obj)
noncomputable def ob81 (P : Params) : Obj := ({ cls := .type "function", data := .func { name := "law", qualname := "law", params := fP 15, body := .stmts (fB 15), scope := fS 15, globals := 3, closure := [], defaults := .none, kwdefaults := .none, pyModule := .str "law_oy0040_01" 248, code := .ref 80 } } : Obj)
noncomputable def heapP (P : Params) : Frag := [(0, ob0 P), (1, ob1 P), (2, ob2 P), (3, ob3 P), (4, ob4 P), (5, ob5 P), (6, ob6 P), (7, ob7 P), (8, ob8 P), (9, ob9 P), (10, ob10 P), (11, ob11 P), (12, ob12 P), (13, ob13 P), (14, ob14 P), (15, ob15 P), (16, ob16 P), (17, ob17 P), (18, ob18 P), (19, ob19 P), (20, ob20 P), (21, ob21 P), (22, ob22 P), (24, ob24 P), (25, ob25 P), (26, ob26 P), (27, ob27 P), (28, ob28 P), (29, ob29 P), (30, ob30 P), (31, ob31 P), (32, ob32 P), (33, ob33 P), (34, ob34 P), (35, ob35 P), (36, ob36 P), (37, ob37 P), (38, ob38 P), (39, ob39 P), (40, ob40 P), (41, ob41 P), (42, ob42 P), (43, ob43 P), (44, ob44 P), (45, ob45 P), (46, ob46 P), (47, ob47 P), (48, ob48 P), (49, ob49 P), (50, ob50 P), (51, ob51 P), (52, ob52 P), (53, ob53 P), (54, ob54 P), (55, ob55 P), (56, ob56 P), (57, ob57 P), (58, ob58 P), (59, ob59 P), (60, ob60 P), (61, ob61 P), (62, ob62 P), (63, ob63 P), (64, ob64 P), (65, ob65 P), (66, ob66 P), (67, ob67 P), (68, ob68 P), (69, ob69 P), (70, ob70 P), (71, ob71 P), (72, ob72 P), (73, ob73 P), (74, ob74 P), (75, ob75 P), (76, ob76 P), (77, ob77 P), (79, ob79 P), (80, ob80 P), (81, ob81 P)]
end Mine
end
section
open PySem PySem.W PySem.W.X PyProof.Rows
set_option maxRecDepth 1000000
set_option maxHeartbeats 0
set_option linter.unusedVariables false
namespace Mine
/-! storing an octet into a bytearray, as a contract -/
noncomputable abbrev baObj (b : Array UInt8) : Obj := { cls := .type "bytearray", data := .bytearray b }
theorem ba_slot_set : Slot "bytearray" "__setitem__" "bytearray.__setitem__" :=
  .of (owner := "bytearray") (n := "__setitem__") (by rw [typeLookup_type, builtinLookup_eq_fast]; kernel_rfl) (by decide +kernel) (by decide +kernel) (by decide +kernel)
    (by first | exact .inl (by decide +kernel) | exact .inr (by decide +kernel)) (by rw [isSubtype_type]; kernel_rfl)
theorem ba_entry_set : entryFor table "bytearray.__setitem__" = some Builtin.«bytearray.__setitem__» := entryFor_of_tree (by kernel_rfl)
theorem ba_args_set (a b c : Value) : argsOk "bytearray.__setitem__" ⟨[a, b, c], []⟩ := by unfold argsOk; kernel_rfl
theorem ba_byte (x : UInt8) (u : Tok) : Builtin.Bytes.byteValue (.int x.toNat u) = pure x := by
  unfold Builtin.Bytes.byteValue
  have h1 : ((x.toNat : Int) < 0 || (x.toNat : Int) ≥ 256) = false := by
    have : x.toNat < 256 := x.toNat_lt
    simp; exact Om.lt_i ‹_› rfl
  show (if ((x.toNat : Int) < 0 || (x.toNat : Int) ≥ 256) = true then _ else _) = _
  rw [h1]
  simp
theorem ba_sub? (k : Nat) (t : Tok) (h : k < 1000) : Builtin.Bytes.subscript? (.int (k : Int) t) = pure (some (k : Int)) := by
  unfold Builtin.Bytes.subscript?
  have e : specialOf (.int (k : Int) t) "__index__" = pure (some (.builtin "int.__index__")) := by
    show typeLookup (.type "int") "__index__" = _
    rw [typeLookup_type, builtinLookup_eq_fast]; kernel_rfl
  rw [e]
  have f : Builtin.Bytes.fitsIndex (k : Int) = true := by unfold Builtin.Bytes.fitsIndex; rw [Bool.and_eq_true, decide_eq_true_eq, decide_eq_true_eq]; constructor <;> omega
  have g : asIndex (.int (k : Int) t) = pure (k : Int) := by unfold asIndex; rfl
  simp only [pure_bind, Option.isNone_some, Bool.false_eq_true, if_false, g, f, Bool.not_true]
theorem ba_idx {k n : Nat} (h : k < n) : seqIndex? (k : Int) n = some k := by
  unfold seqIndex?
  have h1 : ¬ ((k : Int) < 0) := by omega
  simp only [h1, if_false]
  have h2 : (0 ≤ (k : Int) && (k : Int) < n) = true := by simp; assumption
  rw [if_pos h2]
  simp
noncomputable def baSet (k : Nat) (x : UInt8) : Obj → Obj := Obj.mapBytearray fun b => b.setIfInBounds k x
section
variable {prog : Program} {w : World} {A : Around} {E : Value → Shared → Prop} {s : Shared}
theorem ba_set {Z : Addr} {b : Array UInt8} {k : Nat} {x : UInt8} {t u : Tok} {Q : Value → Shared → Prop} (h : s.heap.get? Z = some (baObj b)) (hk : k < b.size) (hk' : k < 1000) (hb : b.size < 1000)
    (hq : Q .none { s with heap := s.heap.update Z (baSet k x) }) : wpAny (model prog w) A (call (.builtin "bytearray.__setitem__") [.ref Z, .int k t, .int x.toNat u]) Q E s := by
  have hT : s.TypeIs (.ref Z) "bytearray" := ⟨_, h, rfl⟩
  refine wpAny_call_entry ba_slot_set hT ba_entry_set ?_ (ba_args_set _ _ _)
  unfold Builtin.«bytearray.__setitem__»
  show wpAny _ _ (do
    if let some k ← Builtin.Bytes.subscript? (.int k t) then
      let x ← Builtin.Bytes.byteValue (.int x.toNat u)
      match seqIndex? k (← Builtin.Bytes.payload (.ref Z)).size with
      | some k => Builtin.Bytes.write (.ref Z) (·.setIfInBounds k x); return ← ret .none
      | none => _
    _) _ _ _
  rw [ba_sub? k t hk', pure_bind]
  dsimp only
  rw [ba_byte, pure_bind]
  unfold Builtin.Bytes.payload Builtin.Bytes.payload?
  refine wpAny_bind (wpAny_bind (wpAny_bind (wpAny_load h ?_)))
  refine wpAny_pure (wpAny_pure ?_)
  rw [ba_idx hk]
  dsimp only
  unfold Builtin.Bytes.write updateBytearray
  refine wpAny_bind (wpAny_bind (wpAny_load h ?_))
  have h2 : (s.heap.update Z (baSet k x)).get? Z = some (baSet k x (baObj b)) := Heap.get?_update_self _ h rfl
  refine wpAny_bind (wpAny_updatePart h ?_)
  refine wpAny_lookBehind h2 ?_ ?_
  · show Data.pastItsLine (.bytearray (b.setIfInBounds k x)) = none
    unfold Data.pastItsLine
    dsimp only
    rw [Array.size_setIfInBounds, if_neg (by rw [sizeLine_eq]; omega)]
  · exact wpAny_pure ⟨_, rfl, hq⟩
end
/-! bytearray.__init__ asks whether somebody on the stack holds the object: asked of the codes' names first -/
noncomputable def isHold (id : String) : Bool := (["bytearray.__contains__", "bytearray.__mod__", "bytearray.__rmod__", "_struct.pack_into.held", "bytearray.find.held"].any fun x => @decide (id = x) (PySem.W.S.strDecS id x)) ||
  Builtin.Bytes.decodersThatHold.any fun x => @decide (id = x) (PySem.W.S.strDecS id x)
noncomputable def cHold : Code → Bool
  | .builtin id _ => isHold id
  | _ => false
theorem hold_form : ∃ G : Value → Code × Pos → Bool, (∀ self, Builtin.Bytes.exported self = (stack >>= fun st => pure (st.any (G self)))) ∧ ∀ self c p, cHold c = false → G self (c, p) = false := by
  refine ⟨_, fun self => rfl, fun self c p hc => ?_⟩
  cases c with
  | builtin id a =>
    have hc : isHold id = false := hc
    unfold isHold at hc
    rw [Bool.or_eq_false_iff] at hc
    obtain ⟨h1, h2⟩ := hc
    have ne : ∀ x : String, x ∈ ["bytearray.__contains__", "bytearray.__mod__", "bytearray.__rmod__", "_struct.pack_into.held", "bytearray.find.held"] → id ≠ x := fun x hx e => by
      have := List.any_eq_false.mp h1 x hx
      exact this (@decide_eq_true _ (PySem.W.S.strDecS id x) e)
    have h3 : Builtin.Bytes.decodersThatHold.contains id = false := by
      rw [← Bool.not_eq_true, List.contains_iff_mem]
      intro hm
      have := List.any_eq_false.mp h2 id hm
      exact this (@decide_eq_true _ (PySem.W.S.strDecS id id) rfl)
    obtain ⟨pos, kw⟩ := a
    delta Builtin.Bytes.exported.match_1
    refine (dif_neg (ne "bytearray.__contains__" (.head _))).trans ?_
    refine (dif_neg (ne "bytearray.__mod__" (.tail _ (.head _)))).trans ?_
    refine (dif_neg (ne "bytearray.__rmod__" (.tail _ (.tail _ (.head _))))).trans ?_
    refine (dif_neg (ne "_struct.pack_into.held" (.tail _ (.tail _ (.tail _ (.head _)))))).trans ?_
    refine (dif_neg (ne "bytearray.find.held" (.tail _ (.tail _ (.tail _ (.tail _ (.head _))))))).trans ?_
    cases pos with
    | nil => rfl
    | cons v vs => exact (congrArg (Builtin.Bytes.sameRef v self && ·) h3).trans (Bool.and_false _)
  | _ => rfl
noncomputable def exported2 (G : Value → Code × Pos → Bool) (self : Value) : Sem Bool := stack >>= fun st => pure (R.anyR st fun x => match cHold x.1 with | true => G self x | false => false)
theorem exported2_eq : ∃ G, Builtin.Bytes.exported = exported2 G := by
  obtain ⟨G, h1, h2⟩ := hold_form
  refine ⟨G, funext fun self => ?_⟩
  rw [h1]
  unfold exported2
  congr 1
  funext st
  congr 1
  rw [← R.anyR_eq]
  congr 1
  funext x
  obtain ⟨c, p⟩ := x
  cases q : cHold c with
  | true => rfl
  | false => exact h2 self c p q
noncomputable abbrev ExpTy := Value → Sem Bool
noncomputable def Box.outE {F : ExpTy → Builtin} : ∀ f : ExpTy, Box (F f) → (ExpTy → Builtin) := fun _ _ => F
noncomputable def baB : ExpTy → Builtin := by
  have x : Box PySem.W.ZFast.zw2866069771108943839 := ⟨⟩
  delta PySem.W.ZFast.zw2866069771108943839 at x
  generalize PySem.W.ZFast.zw9492242386319852395 = f at x
  revert x f
  exact Box.outE
theorem baB_eq : PySem.W.ZFast.zw2866069771108943839 = baB PySem.W.ZFast.zw9492242386319852395 := by kernel_rfl
theorem den_init (a : Args) : dnZ (.builtin "bytearray.__init__" a) = PySem.W.ZFast.zw2866069771108943839 a := by kernel_rfl
noncomputable def dnB (G : Value → Code × Pos → Bool) : Code → Sem Fin := fun c => match c with
  | .builtin id a => match @decide (id = "bytearray.__init__") (PySem.W.S.strDecS id "bytearray.__init__") with
    | true => baB (exported2 G) a
    | false => dnZ (.builtin id a)
  | c => dnZ c
theorem dnB_eq : ∃ G, denote table = dnB G := by
  obtain ⟨G, hG⟩ := exported2_eq
  refine ⟨G, ?_⟩
  have e : baB PySem.W.ZFast.zw9492242386319852395 = baB (exported2 G) := by rw [← PySem.W.ZFast.ze9492242386319852395, hG]
  funext c
  cases c with
  | builtin id a =>
    show _ = match @decide (id = "bytearray.__init__") (PySem.W.S.strDecS id "bytearray.__init__") with | true => baB (exported2 G) a | false => dnZ (.builtin id a)
    cases q : @decide (id = "bytearray.__init__") (PySem.W.S.strDecS id "bytearray.__init__") with
    | false => exact congrFun hdnZ _
    | true =>
      have e' : id = "bytearray.__init__" := @of_decide_eq_true _ (PySem.W.S.strDecS id "bytearray.__init__") q
      subst e'
      show denote table _ = baB (exported2 G) a
      rw [← e, ← baB_eq, ← den_init]
      exact congrFun hdnZ _
  | _ => first | rfl | exact congrFun hdnZ _
end Mine
end
section
open PySem PySem.W PySem.W.X PyProof.Rows
set_option maxRecDepth 1000000
set_option maxHeartbeats 0
set_option linter.unusedVariables false
namespace Mine
/-! _byteswap(text, n) by a run, the octets unknown -/
noncomputable def conSet (S j : Nat) (x : UInt8) : SumC := fun c T m i => match T.get j with
  | some o => match o.data with
    | .bytearray b _ => match c with
      | .call _ a => match a.pos with
        | [_, .int k t, .int _ u] => match k with
          | .ofNat kn => match Nat.blt kn b.size with
            | true => match Nat.blt b.size 1000 with
              | true => some ⟨.none, T.set j (baSet kn x), 0, 0, [], [(c, .call (.builtin "bytearray.__setitem__") ⟨[.ref (S + j), .int (Int.ofNat kn) t, .int (Int.ofNat x.toNat) u], []⟩)], [(T.get j, some (baObj b))], []⟩
              | false => none
            | false => none
          | _ => none
        | _ => none
      | _ => none
    | _ => none
  | none => none
theorem conSet_ok (V : XV) (O : V.Ok) (g : Array GenState) (j : Nat) (x : UInt8) : SumOk V g (conSet V.n₁ j x) := by
  intro c T m i r e eq Γ p h ch D
  unfold conSet at e
  split at e
  · rename_i o hT
    split at e
    · rename_i b ex hd
      split at e
      · rename_i f a
        split at e
        · rename_i z k t v u hp
          split at e
          · rename_i kn
            cases q1 : Nat.blt kn b.size with
            | false => rw [q1] at e; cases e
            | true =>
              rw [q1] at e
              simp only at e
              cases q2 : Nat.blt b.size 1000 with
              | false => rw [q2] at e; cases e
              | true =>
                rw [q2] at e
                cases e
                have ec := eq.cs _ (.head _)
                have eo := eq.ne _ (.head _)
                simp only at ec eo
                rw [ec]
                have hb := (D.own j _ eo).2
                have h1 : kn < b.size := blt_true q1
                have h2 : b.size < 1000 := blt_true q2
                have z : wpAny (model V.prog V.w) (anyA Γ) (call (.builtin "bytearray.__setitem__") [.ref (V.n₁ + j), .int kn t, .int x.toNat u]) (fun v s' => v = .none ∧ ∃ h', s' = stOf V g h' (i + 0) ∧ Rep V h' (T.set j (baSet kn x)) (m + 0) ch) (fun _ _ => False) (stOf V g h i) := by
                  refine ba_set (b := b) hb h1 (by exact Om.lt_e ‹_› ‹_› rfl) h2 ⟨rfl, _, rfl, ?_⟩
                  have hs : V.n₁ + j - V.n₁ = j := Nat.add_sub_cancel_left ..
                  have D' := D.update (f := baSet kn x) O (Nat.le_add_right V.n₁ j) (by rw [hs]; exact eo) rfl
                  rw [hs] at D'
                  exact D'
                exact z Γ p (in_any Γ)
          · cases e
        · cases e
      · cases e
    · cases e
  · cases e
noncomputable def rp (k : Nat) (x : Lx) : List Lx := List.replicate k x
noncomputable def lStore (k : Nat) : List Lx := [.new 0, .new 0, .new 0, .new 0, .new 0, .go, .go, .new 0, .new 0, .new 0, .go, .go, .new 0, .go, .new 1, .new 1, .con k]
noncomputable def lNext (r : Nat) : List Lx := .new r :: .go :: rp 8 (.new r)
noncomputable def lOuter (n q : Nat) : List Lx := [.new 0, .new 0, .old 3, .old 4, .new 0, .go, .go, .new (4 + 4 * q), .new (4 + 4 * q), .go] ++ rp 4 (.new (4 + 4 * q)) ++ .go :: rp 4 (.new (4 + 4 * q)) ++ .new (5 + 4 * q) :: .go :: lNext (5 + 4 * q) ++ lStore (n * q) ++
  (List.range (n - 1)).flatMap (fun j => lNext (5 + 4 * q) ++ lStore (n * q + j + 1)) ++ .new (5 + 4 * q) :: .go :: rp 4 (.new (5 + 4 * q)) ++ [.new (7 + 4 * q)] ++ (match Nat.blt q 3 with | true => lNext 3 | false => .new 3 :: .go :: rp 4 (.new 3) ++ [.new (9 + 4 * q)])
noncomputable def byL (n : Nat) : List Lx := .old 0 :: .old 1 :: rp 4 (.new 0) ++ [.old 2, .old 3, .old 4, .old 3, .old 4, .new 0, .go, .go, .go, .go, .new 1, .new 1, .go] ++ rp 10 (.new 1) ++ [.new 0, .new 0, .old 3, .old 4, .old 3, .old 4, .new 0, .go, .go, .new 0, .go, .go, .new 2, .new 2, .go] ++ rp 4 (.new 2) ++ .go :: rp 4 (.new 2) ++ .new 3 :: .go :: lNext 3 ++
  (List.range 4).flatMap (lOuter n) ++ [.old 3, .old 4, .new 0, .go, .go] ++ rp 10 (.new 1) ++ [.go]
noncomputable def oldAt (P : Params) (a : Addr) : Obj := ((heapP P).lookup a).getD default
noncomputable def bOlds (P : Params) : List (Nat × Obj) := [(21, oldAt P 21), (20, oldAt P 20), (2, o2), (3, oldAt P 3), (0, oldAt P 0)]
noncomputable def bArr (n : Nat) (f : Nat → UInt8) : Array UInt8 := ⟨(List.range (4 * n)).map f⟩
noncomputable def bOut (n : Nat) (f : Nat → UInt8) : Array UInt8 := ⟨(List.range (4 * n)).map fun k => f (k / n * n + (n - 1 - k % n))⟩
noncomputable def bCode (n : Nat) (f : Nat → UInt8) (t u : Tok) : Code := .call (.ref 21) ⟨[.bytes (bArr n f) t, .int n u], []⟩
noncomputable def bCtx (n : Nat) (f : Nat → UInt8) (t u : Tok) (p0 p1 : Pos) (lb : List Stmt) (le : Env) : Ctx := ⟨bCode n f t u, none, none, [(.func lb le, p1), (.builtin "claim.caller" {}, p0)], none⟩
section
variable (G : Value → Code × Pos → Bool) (w : World) (h₀ : Heap) (S : Nat) (R₀ : Result → Shared → Prop) (d : Drawn) (t₀ : Nat) (os : OsState)
variable (n : Nat) (f : Nat → UInt8) (t u : Tok) (p p0 p1 : Pos) (lb : List Stmt) (le : Env)
noncomputable def bRun : Option Out := goRun (baseV PySem.Challenge.rw_oy0040_01.prog w h₀ S R₀ d t₀ os) (dnB G) Code.quiet (bOlds w.params) ((List.range (4 * n)).map fun k => conSet S 1 (f k)) 6000 (byL n) (bCtx n f t u p0 p1 lb le) p .base (denote table (bCode n f t u)) σ0
noncomputable def bR : Out := (bRun G w h₀ S R₀ d t₀ os n f t u p p0 p1 lb le).getD ⟨.none, .nil, 0, [], 0, [], [], [], [], none⟩
end
noncomputable def tokOf : Value → Tok
  | .bytes _ t => t
  | _ => 0
noncomputable def Chk (o : Option Out) (R : Out) (v : Value) : Prop := (o.isSome, R.ob.map (·.1), R.cs.map (·.1), R.ne.map (·.1), R.ki.map (·.1), R.rest.isSome, R.ch, R.val) = (true, R.ob.map (·.2), R.cs.map (·.2), R.ne.map (·.2), R.ki.map (·.2), false, [], v)
section
variable (G : Value → Code × Pos → Bool) (w : World) (h₀ : Heap) (S : Nat) (R₀ : Result → Shared → Prop) (d : Drawn) (t₀ : Nat) (os : OsState) (f : Nat → UInt8) (t u : Tok) (p p0 p1 : Pos) (lb : List Stmt) (le : Env) (b : Bool)
noncomputable abbrev wf (w : World) (b : Bool) : World := w.withFollow "special-get-raises" b
theorem bC3 : Chk (bRun G (wf w b) h₀ S R₀ d t₀ os 3 f t u p p0 p1 lb le) (bR G (wf w b) h₀ S R₀ d t₀ os 3 f t u p p0 p1 lb le) (.bytes (bOut 3 f) (tokOf (bR G (wf w b) h₀ S R₀ d t₀ os 3 f t u p p0 p1 lb le).val)) := by
  unfold Chk
  cases b <;> kernel_rfl
theorem bC4 : Chk (bRun G (wf w b) h₀ S R₀ d t₀ os 4 f t u p p0 p1 lb le) (bR G (wf w b) h₀ S R₀ d t₀ os 4 f t u p p0 p1 lb le) (.bytes (bOut 4 f) (tokOf (bR G (wf w b) h₀ S R₀ d t₀ os 4 f t u p p0 p1 lb le).val)) := by
  unfold Chk
  cases b <;> kernel_rfl
theorem bC5 : Chk (bRun G (wf w b) h₀ S R₀ d t₀ os 5 f t u p p0 p1 lb le) (bR G (wf w b) h₀ S R₀ d t₀ os 5 f t u p p0 p1 lb le) (.bytes (bOut 5 f) (tokOf (bR G (wf w b) h₀ S R₀ d t₀ os 5 f t u p p0 p1 lb le).val)) := by
  unfold Chk
  cases b <;> kernel_rfl
theorem bC6 : Chk (bRun G (wf w b) h₀ S R₀ d t₀ os 6 f t u p p0 p1 lb le) (bR G (wf w b) h₀ S R₀ d t₀ os 6 f t u p p0 p1 lb le) (.bytes (bOut 6 f) (tokOf (bR G (wf w b) h₀ S R₀ d t₀ os 6 f t u p p0 p1 lb le).val)) := by
  unfold Chk
  cases b <;> kernel_rfl
theorem bC7 : Chk (bRun G (wf w b) h₀ S R₀ d t₀ os 7 f t u p p0 p1 lb le) (bR G (wf w b) h₀ S R₀ d t₀ os 7 f t u p p0 p1 lb le) (.bytes (bOut 7 f) (tokOf (bR G (wf w b) h₀ S R₀ d t₀ os 7 f t u p p0 p1 lb le).val)) := by
  unfold Chk
  cases b <;> kernel_rfl
end
theorem Chk.run {o : Option Out} {R R₀ : Out} {v : Value} (hR : R = o.getD R₀) (h : Chk o R v) : o = some ⟨v, R.T, R.m, [], R.i, R.ob, R.cs, R.ne, R.ki, none⟩ ∧ AllEq R.ob R.cs R.ne R.ki := by
  unfold Chk at h
  simp only [Prod.mk.injEq] at h
  obtain ⟨h1, h2, h3, h4, h5, h6, h7, h8⟩ := h
  refine ⟨?_, ⟨pair_eq h2, pair_eq h3, pair_eq h4, pair_eq h5⟩⟩
  cases o with
  | none => cases h1
  | some R' =>
    have e : R = R' := hR
    subst e
    obtain ⟨val, T, m, ch, i, ob, cs, ne, ki, rest⟩ := R
    simp only at h6 h7 h8
    subst h7 h8
    cases rest with
    | none => rfl
    | some _ => cases h6
/-- at one context -/
noncomputable def wpOne {α : Type} (M : Model) (Γ : Ctx) (t : Sem α) (Q : α → Shared → Prop) (E : Value → Shared → Prop) (s : Shared) : Prop := ∀ p, Sem.wp M Γ t (fun a _ s' => Q a s') (fun e _ s' => E e s') p s
theorem wpOne_of_any {α : Type} {M : Model} {Γ : Ctx} {A : Around} {t : Sem α} {Q : α → Shared → Prop} {E : Value → Shared → Prop} {s : Shared} (hΓ : Γ.In A) (h : wpAny M A t Q E s) : wpOne M Γ t Q E s := fun p => h Γ p hΓ
theorem wpOne_bind {α β : Type} {M : Model} {Γ : Ctx} {m : Sem α} {f : α → Sem β} {Q : β → Shared → Prop} {E : Value → Shared → Prop} {s : Shared} (h : wpOne M Γ m (fun a s' => wpOne M Γ (f a) Q E s') E s) : wpOne M Γ (m >>= f) Q E s := fun p => by
  rw [Sem.wp_bind']
  exact Sem.wp_mono _ _ _ (fun a p' s' h' => h' p') (fun _ _ _ h' => h') _ _ (h p)
theorem wpOne_mono {α : Type} {M : Model} {Γ : Ctx} {t : Sem α} {Q Q' : α → Shared → Prop} {E E' : Value → Shared → Prop} {s : Shared} (h : wpOne M Γ t Q E s) (hq : ∀ a s', Q a s' → Q' a s') (he : ∀ e s', E e s' → E' e s') : wpOne M Γ t Q' E' s := fun p =>
  Sem.wp_mono _ _ _ (fun a p' s' h' => hq _ _ h') (fun e p' s' h' => he _ _ h') _ _ (h p)
noncomputable abbrev lawΓ (lb : List Stmt) (le : Env) (p0 : Pos) : Ctx := ⟨.func lb le, none, none, [(.builtin "claim.caller" {}, p0)], none⟩
/-- a call from law's frame, by a run -/
theorem run_call {w : World} {h : Heap} {S : Nat} {g : Array GenState} {d : Drawn} {t₀ : Nat} {os : OsState} {lb : List Stmt} {le : Env} {p0 : Pos} {f : Value} {args : List Value} {olds : List (Addr × Obj)} {cons : List SumC} {dn : Code → Sem Fin} {n : Nat} {L : List Lx} {Φ : Value → Prop} {Q : Value → Shared → Prop} {E : Value → Shared → Prop}
    (hs : h.objs.size = S) (hdn : denote table = dn) (hold : ∀ p ∈ olds, h.get? p.1 = some p.2)
    (hcon : ∀ R₀, ∀ C ∈ cons, SumOk (baseV PySem.Challenge.rw_oy0040_01.prog w h S R₀ d t₀ os) g C)
    (hr : ∀ R₀ p, ∃ v T m i ob cs ne ki, Φ v ∧ goRun (baseV PySem.Challenge.rw_oy0040_01.prog w h S R₀ d t₀ os) dn Code.quiet olds cons n L ⟨.call f ⟨args, []⟩, none, none, [(.func lb le, p), (.builtin "claim.caller" {}, p0)], none⟩ p .base (denote table (.call f ⟨args, []⟩)) σ0 = some ⟨v, T, m, [], i, ob, cs, ne, ki, none⟩ ∧ AllEq ob cs ne ki)
    (hq : ∀ v h' t', Φ v → (∀ b o, h.get? b = some o → h'.get? b = some o) → Q v ⟨h', g, d, t', os⟩) : wpOne (model PySem.Challenge.rw_oy0040_01.prog w) (lawΓ lb le p0) (call f args) Q E ⟨h, g, d, t₀, os⟩ := fun p => by
  show Sem.wp _ _ (runValue (.call f ⟨args, []⟩)) _ _ _ _
  rw [Sem.wp_runValue]
  rw [wpCode_iff_wp]
  let P : Result → Shared → Prop := fun r s' => match r with | .ok (.ret v) => Q v s' | .ok _ => False | .error e => E e s'
  have O := baseV_ok (prog := PySem.Challenge.rw_oy0040_01.prog) (w := w) (R₀ := P) (d := d) (t₀ := t₀) (os := os) hs
  obtain ⟨v, T, m, i, ob, cs, ne, ki, h0, h1, h2⟩ := hr P p
  have z := (run_sound (g := g) O hdn rfl hold (hcon P) (R := ⟨v, T, m, [], i, ob, cs, ne, ki, none⟩) h2 (fun h' D => hq v h' _ h0 fun b o e => D.keep b o e rfl) n L _ p .base _ σ0 h1).2 h (Rep.start O)
  refine Sem.wp_mono _ _ _ (fun a p' s' hh => ?_) (fun e p' s' hh => hh) _ _ z
  cases a with
  | done f => exact hh
  | again c => exact hh
theorem bs_one {w : World} {h : Heap} {g : Array GenState} {d : Drawn} {t₀ : Nat} {os : OsState} {lb : List Stmt} {le : Env} {p0 : Pos} {n : Nat} {f : Nat → UInt8} {t u : Tok} {Q : Value → Shared → Prop} {E : Value → Shared → Prop} (hn : 3 ≤ n ∧ n ≤ 7)
    (hold : ∀ p ∈ bOlds w.params, h.get? p.1 = some p.2)
    (hq : ∀ h' t' t'', (∀ b o, h.get? b = some o → h'.get? b = some o) → Q (.bytes (bOut n f) t'') ⟨h', g, d, t', os⟩) :
    wpOne (model PySem.Challenge.rw_oy0040_01.prog w) (lawΓ lb le p0) (call (.ref 21) [.bytes (bArr n f) t, .int n u]) Q E ⟨h, g, d, t₀, os⟩ := by
  obtain ⟨G, hG⟩ := dnB_eq
  obtain ⟨b, hb⟩ : ∃ b, wf w b = w := ⟨_, World.withFollow_self w _⟩
  rw [← hb]
  have hold' : ∀ p ∈ bOlds (wf w b).params, h.get? p.1 = some p.2 := by rw [hb]; exact hold
  have fin : ∀ (m : Nat), m = n → (∀ R₀ p, Chk (bRun G (wf w b) h h.objs.size R₀ d t₀ os m f t u p p0 p lb le) (bR G (wf w b) h h.objs.size R₀ d t₀ os m f t u p p0 p lb le) (.bytes (bOut m f) (tokOf (bR G (wf w b) h h.objs.size R₀ d t₀ os m f t u p p0 p lb le).val))) →
      wpOne (model PySem.Challenge.rw_oy0040_01.prog (wf w b)) (lawΓ lb le p0) (call (.ref 21) [.bytes (bArr m f) t, .int m u]) Q E ⟨h, g, d, t₀, os⟩ := fun m hm hC => by
    subst hm
    refine run_call (n := 6000) (L := byL m) (cons := (List.range (4 * m)).map fun k => conSet h.objs.size 1 (f k)) (dn := dnB G) (Φ := fun v => ∃ t'', v = .bytes (bOut m f) t'') rfl hG hold' (fun R₀ C hC => ?_) (fun R₀ p => ?_) fun v h' t' hv k => ?_
    · obtain ⟨k, _, rfl⟩ := List.mem_map.mp hC
      exact conSet_ok (baseV _ _ _ _ R₀ _ _ _) (baseV_ok rfl) g 1 (f k)
    · obtain ⟨e1, e2⟩ := Chk.run rfl (hC R₀ p)
      exact ⟨_, _, _, _, _, _, _, _, ⟨_, rfl⟩, e1, e2⟩
    · obtain ⟨t'', rfl⟩ := hv
      exact hq h' t' t'' k
  rcases hn with ⟨h1, h2⟩
  have : n = 3 ∨ n = 4 ∨ n = 5 ∨ n = 6 ∨ n = 7 := by omega
  rcases this with rfl | rfl | rfl | rfl | rfl
  · exact fin 3 rfl fun R₀ p => bC3 ..
  · exact fin 4 rfl fun R₀ p => bC4 ..
  · exact fin 5 rfl fun R₀ p => bC5 ..
  · exact fin 6 rfl fun R₀ p => bC6 ..
  · exact fin 7 rfl fun R₀ p => bC7 ..
end Mine
end
section
open PySem PySem.W PyProof.Rows
set_option maxRecDepth 10000
namespace Mine

/-- abstract data -/
inductive D where
  | val (v : Value)
  | int (i : Int)
  | byt (b : Array UInt8)
  | rng (a b c : Int)
  | tup (ds : List D)
  | lst (ds : List D)

mutual
noncomputable def Rep (g : Heap) : D → Value → Prop
  | .val v, u => u = v
  | .int i, u => ∃ t, u = .int i t
  | .byt b, u => ∃ t, u = .bytes b t
  | .rng a b c, x => ∃ r t u v, x = .ref r ∧ IsRange g r a b c t u v
  | .tup ds, u => ∃ a vs, u = .ref a ∧ g.IsTuple a vs.toArray ∧ RepAll g ds vs
  | .lst ds, u => ∃ a vs, u = .ref a ∧ g.PlainList a vs.toArray ∧ RepAll g ds vs
noncomputable def RepAll (g : Heap) : List D → List Value → Prop
  | [], vs => vs = []
  | d :: ds, vs => ∃ v r, vs = v :: r ∧ Rep g d v ∧ RepAll g ds r
end

/-- every object of h stands in h', up to the slots of the frames fr -/
noncomputable def Ext (fr : List Addr) (h h' : Heap) : Prop := ∀ b o, h.get? b = some o → ∃ sl, h'.get? b = some { o with slots := sl } ∧ (b ∉ fr → sl = o.slots)

theorem Ext.refl (fr : List Addr) (h : Heap) : Ext fr h h := fun _ o e => ⟨o.slots, e, fun _ => rfl⟩
theorem Ext.of {fr : List Addr} {h h' : Heap} (k : ∀ b o, h.get? b = some o → h'.get? b = some o) : Ext fr h h' := fun b o e => ⟨o.slots, k b o e, fun _ => rfl⟩
theorem Ext.trans {fr : List Addr} {h₁ h₂ h₃ : Heap} (x : Ext fr h₁ h₂) (y : Ext fr h₂ h₃) : Ext fr h₁ h₃ := fun b o e => by
  obtain ⟨sl, e₁, q₁⟩ := x b o e
  obtain ⟨sl', e₂, q₂⟩ := y b _ e₁
  exact ⟨sl', e₂, fun n => (q₂ n).trans (q₁ n)⟩
theorem Ext.push {fr : List Addr} (h : Heap) (o : Obj) : Ext fr h (h.push o) := .of fun _ _ e => Heap.get?_push_of_some _ e
theorem Ext.keep {fr : List Addr} {h h' : Heap} (x : Ext fr h h') {b : Addr} {o : Obj} (e : h.get? b = some o) (n : b ∉ fr) : h'.get? b = some o := by
  obtain ⟨sl, e', q⟩ := x b o e
  rw [q n] at e'; exact e'
theorem Ext.some {fr : List Addr} {h h' : Heap} (x : Ext fr h h') {b : Addr} (e : h.get? b ≠ none) : h'.get? b ≠ none := by
  cases q : h.get? b with
  | none => exact absurd q e
  | some o => obtain ⟨sl, e', _⟩ := x b o q; rw [e']; exact fun z => by cases z
theorem Ext.isCell {fr : List Addr} {h h' : Heap} (x : Ext fr h h') {a : Addr} {v : Option Value} (l : h.IsCell a v) : h'.IsCell a v := by
  obtain ⟨o, ho, hd⟩ := l
  obtain ⟨sl, e, _⟩ := x a o ho
  exact ⟨_, e, hd⟩
theorem Ext.ns {fr : List Addr} {h h' : Heap} (x : Ext fr h h') {a : Addr} {m : Str → Option Value} (l : h.Ns a m) : h'.Ns a m := by
  obtain ⟨o, es, ep, ho, hd, r⟩ := l
  obtain ⟨sl, e, _⟩ := x a o ho
  exact ⟨_, es, ep, e, hd, r⟩
theorem Ext.funFrames {fr : List Addr} {h h' base : Heap} (x : Ext fr h h') {l : List Env} (f : h.FunFrames base l) : h'.FunFrames base l :=
  f.of_keeps fun b o e _ => by obtain ⟨sl, e', _⟩ := x b o e; exact ⟨_, e', rfl⟩

theorem stays_isList {g h : Heap} (k : g.StaysIn h) {a : Addr} {xs : Array Value} (l : g.IsList a xs) : h.IsList a xs := let ⟨o, ho, r⟩ := l; ⟨o, k a o ho, r⟩
theorem stays_isTuple {g h : Heap} (k : g.StaysIn h) {a : Addr} {xs : Array Value} (l : g.IsTuple a xs) : h.IsTuple a xs := let ⟨o, ho, r⟩ := l; ⟨o, k a o ho, r⟩
theorem stays_trans {g h k : Heap} (x : g.StaysIn h) (y : h.StaysIn k) : g.StaysIn k := fun b o e => y b o (x b o e)
theorem stays_refl (g : Heap) : g.StaysIn g := fun _ _ e => e

mutual
theorem Rep.mono {g g' : Heap} (k : g.StaysIn g') : ∀ {d : D} {v : Value}, Rep g d v → Rep g' d v
  | .val _, _, h => by unfold Rep at h ⊢; exact h
  | .int _, _, h => by unfold Rep at h ⊢; exact h
  | .byt _, _, h => by unfold Rep at h ⊢; exact h
  | .rng _ _ _, _, h => by
    unfold Rep at h ⊢
    obtain ⟨r, t, u, v, e, q⟩ := h
    exact ⟨r, t, u, v, e, k _ _ q⟩
  | .tup ds, _, h => by
    unfold Rep at h ⊢
    obtain ⟨a, vs, e, t, r⟩ := h
    exact ⟨a, vs, e, stays_isTuple k t, RepAll.mono k r⟩
  | .lst ds, _, h => by
    unfold Rep at h ⊢
    obtain ⟨a, vs, e, t, r⟩ := h
    exact ⟨a, vs, e, t.at (k a), RepAll.mono k r⟩
theorem RepAll.mono {g g' : Heap} (k : g.StaysIn g') : ∀ {ds : List D} {vs : List Value}, RepAll g ds vs → RepAll g' ds vs
  | [], _, h => by unfold RepAll at h ⊢; exact h
  | d :: ds, _, h => by
    unfold RepAll at h ⊢
    obtain ⟨v, r, e, h1, h2⟩ := h
    exact ⟨v, r, e, Rep.mono k h1, RepAll.mono k h2⟩
end
theorem rep_val {g : Heap} {v u : Value} : Rep g (.val v) u ↔ u = v := by unfold Rep; exact Iff.rfl
theorem rep_int {g : Heap} {i : Int} {u : Value} : Rep g (.int i) u ↔ ∃ t, u = .int i t := by unfold Rep; exact Iff.rfl
theorem rep_byt {g : Heap} {i : Array UInt8} {u : Value} : Rep g (.byt i) u ↔ ∃ t, u = .bytes i t := by unfold Rep; exact Iff.rfl
theorem rep_rng {g : Heap} {a b c : Int} {x : Value} : Rep g (.rng a b c) x ↔ ∃ r t u v, x = .ref r ∧ IsRange g r a b c t u v := by unfold Rep; exact Iff.rfl
theorem rep_tup {g : Heap} {ds : List D} {u : Value} : Rep g (.tup ds) u ↔ ∃ a vs, u = .ref a ∧ g.IsTuple a vs.toArray ∧ RepAll g ds vs := by
  constructor <;> intro h
  · unfold Rep at h; exact h
  · unfold Rep; exact h
theorem rep_lst {g : Heap} {ds : List D} {u : Value} : Rep g (.lst ds) u ↔ ∃ a vs, u = .ref a ∧ g.PlainList a vs.toArray ∧ RepAll g ds vs := by
  constructor <;> intro h
  · unfold Rep at h; exact h
  · unfold Rep; exact h
theorem repAll_nil {g : Heap} {vs : List Value} : RepAll g [] vs ↔ vs = [] := by unfold RepAll; exact Iff.rfl
theorem repAll_cons {g : Heap} {d : D} {ds : List D} {vs : List Value} : RepAll g (d :: ds) vs ↔ ∃ v r, vs = v :: r ∧ Rep g d v ∧ RepAll g ds r := by
  constructor <;> intro h
  · unfold RepAll at h; exact h
  · unfold RepAll; exact h
theorem RepAll.cons {g : Heap} {d : D} {ds : List D} {v : Value} {vs : List Value} (h : Rep g d v) (r : RepAll g ds vs) : RepAll g (d :: ds) (v :: vs) := repAll_cons.mpr ⟨v, vs, rfl, h, r⟩
theorem RepAll.nil {g : Heap} : RepAll g [] [] := repAll_nil.mpr rfl
theorem RepAll.length {g : Heap} : ∀ {ds : List D} {vs : List Value}, RepAll g ds vs → vs.length = ds.length
  | [], _, h => by rw [repAll_nil.mp h]; rfl
  | d :: ds, _, h => by
    obtain ⟨v, r, e, _, h2⟩ := repAll_cons.mp h
    rw [e, List.length_cons, List.length_cons, h2.length]
theorem RepAll.append {g : Heap} : ∀ {ds es : List D} {vs ws : List Value}, RepAll g ds vs → RepAll g es ws → RepAll g (ds ++ es) (vs ++ ws)
  | [], _, _, _, h, k => by rw [repAll_nil.mp h]; exact k
  | d :: ds, _, _, _, h, k => by
    obtain ⟨v, r, e, h1, h2⟩ := repAll_cons.mp h
    rw [e]; exact .cons h1 (h2.append k)
theorem RepAll.get {g : Heap} : ∀ {ds : List D} {vs : List Value}, RepAll g ds vs → ∀ {k : Nat} {d : D}, ds[k]? = some d → ∃ v, vs[k]? = some v ∧ Rep g d v
  | [], _, _, k, d, h => by simp at h
  | e :: ds, _, h, k, d, hk => by
    obtain ⟨v, r, rfl, h1, h2⟩ := repAll_cons.mp h
    cases k with
    | zero => simp at hk; subst hk; exact ⟨v, rfl, h1⟩
    | succ k => exact h2.get (by simpa using hk)
theorem RepAll.get' {g : Heap} {ds : List D} {vs : List Value} (h : RepAll g ds vs) {k : Nat} {v : Value} (hk : vs[k]? = some v) : ∃ d, ds[k]? = some d ∧ Rep g d v := by
  have hl : k < ds.length := by rw [← h.length]; exact (List.getElem?_eq_some_iff.mp hk).1
  obtain ⟨u, hu, hr⟩ := h.get (List.getElem?_eq_getElem hl)
  rw [hk] at hu; cases hu
  exact ⟨_, List.getElem?_eq_getElem hl, hr⟩
theorem RepAll.set {g : Heap} : ∀ {ds : List D} {vs : List Value}, RepAll g ds vs → ∀ {k : Nat} {d : D} {v : Value}, Rep g d v → RepAll g (ds.set k d) (vs.set k v)
  | [], _, h, k, d, v, _ => by rw [repAll_nil.mp h]; exact .nil
  | e :: ds, _, h, k, d, v, hr => by
    obtain ⟨v', r, rfl, h1, h2⟩ := repAll_cons.mp h
    cases k with
    | zero => exact .cons hr h2
    | succ k => exact .cons h1 (h2.set hr)
theorem RepAll.take {g : Heap} : ∀ {ds : List D} {vs : List Value}, RepAll g ds vs → ∀ k, RepAll g (ds.take k) (vs.take k)
  | [], _, h, k => by rw [repAll_nil.mp h]; simp; exact .nil
  | e :: ds, _, h, k => by
    obtain ⟨v', r, rfl, h1, h2⟩ := repAll_cons.mp h
    cases k with
    | zero => exact .nil
    | succ k => exact .cons h1 (h2.take k)
theorem RepAll.dropLast {g : Heap} {ds : List D} {vs : List Value} (h : RepAll g ds vs) : RepAll g ds.dropLast vs.dropLast := by
  rw [List.dropLast_eq_take, List.dropLast_eq_take, h.length]; exact h.take _

/-- how a step that only makes things goes on: heap h with its frozen part g, to h' and g' -/
structure Grow (fr : List Addr) (g h g' h' : Heap) : Prop where
  ext : Ext fr h h'
  gg : g.StaysIn g'
  gh : g'.StaysIn h'
  new : ∀ b, h.get? b ≠ none → g'.get? b ≠ none → g.get? b ≠ none

theorem Grow.refl {fr : List Addr} {g h : Heap} (k : g.StaysIn h) : Grow fr g h g h := ⟨.refl _ _, stays_refl _, k, fun _ _ e => e⟩
theorem Grow.trans {fr : List Addr} {g h g' h' g'' h'' : Heap} (x : Grow fr g h g' h') (y : Grow fr g' h' g'' h'') : Grow fr g h g'' h'' :=
  ⟨x.ext.trans y.ext, stays_trans x.gg y.gg, y.gh, fun b e e' => x.new b e (y.new b (x.ext.some e) e')⟩
/-- nothing newly frozen -/
theorem Grow.plain {fr : List Addr} {g h h' : Heap} (k : g.StaysIn h) (x : ∀ b o, h.get? b = some o → h'.get? b = some o) : Grow fr g h g h' :=
  ⟨.of x, stays_refl _, fun b o e => x b o (k b o e), fun _ _ e => e⟩

/-- the heap g with one more object frozen -/
noncomputable def withObj (g : Heap) (h' : Heap) (a : Addr) : Heap := ⟨h'.objs.mapIdx fun i o => if i = a then o else match g.get? i with | some o' => o' | none => { o with data := .freed }, h'.life⟩
theorem withObj_get {g h' : Heap} {a b : Addr} (k : g.StaysIn h') : (withObj g h' a).get? b = if b = a then h'.get? b else g.get? b := by
  by_cases hb : b = a
  · subst hb
    rw [if_pos rfl]
    unfold Heap.get? withObj
    simp only [Array.getElem?_mapIdx]
    cases e : h'.objs[b]? with
    | none => rfl
    | some o => simp
  · rw [if_neg hb]
    cases q : g.get? b with
    | some o =>
      have h1 := k b o q
      obtain ⟨h2, h3⟩ := Heap.get?_some_iff.mp h1
      refine Heap.get?_some_iff.mpr ⟨?_, h3⟩
      unfold withObj
      simp only [Array.getElem?_mapIdx, h2, Option.map_some, if_neg hb, q]
    | none =>
      unfold Heap.get? withObj
      simp only [Array.getElem?_mapIdx]
      cases e : h'.objs[b]? with
      | none => rfl
      | some o => simp [hb, q]

theorem Grow.freeze {fr : List Addr} {g h h' : Heap} {a : Addr} (k : g.StaysIn h) (x : Ext fr h h') (xg : g.StaysIn h') (ha : h.get? a = none) : Grow fr g h (withObj g h' a) h' := by
  refine ⟨x, fun b o e => ?_, fun b o e => ?_, fun b e e' => ?_⟩
  · rw [withObj_get xg]
    by_cases hb : b = a
    · rw [if_pos hb]; exact xg b o e
    · rw [if_neg hb]; exact e
  · rw [withObj_get xg] at e
    by_cases hb : b = a
    · rw [if_pos hb] at e; exact e
    · rw [if_neg hb] at e; exact xg b o e
  · rw [withObj_get xg] at e'
    by_cases hb : b = a
    · subst hb; exact absurd ha e
    · rw [if_neg hb] at e'; exact e'
theorem withObj_plain {g h' : Heap} {a : Addr} {xs : Array Value} (k : g.StaysIn h') (l : h'.PlainList a xs) : (withObj g h' a).PlainList a xs := by
  obtain ⟨n, ho⟩ := l
  exact ⟨n, by rw [withObj_get k, if_pos rfl]; exact ho⟩
theorem withObj_isTuple {g h' : Heap} {a : Addr} {xs : Array Value} (k : g.StaysIn h') (l : h'.IsTuple a xs) : (withObj g h' a).IsTuple a xs := by
  obtain ⟨o, ho, r⟩ := l
  exact ⟨o, by rw [withObj_get k, if_pos rfl]; exact ho, r⟩
theorem get?_size_none (h : Heap) : h.get? h.objs.size = none := Heap.get?_none_of_le (Nat.le_refl _)

/-- the push of a new list or tuple, frozen -/
theorem Grow.pushed {fr : List Addr} {g h : Heap} (o : Obj) (k : g.StaysIn h) : Grow fr g h (withObj g (h.push o) h.objs.size) (h.push o) :=
  Grow.freeze k (.push _ _) (fun b o' e => Heap.get?_push_of_some _ (k b o' e)) (get?_size_none h)

structure Same (s s' : Shared) : Prop where
  gens : s'.gens = s.gens
  drawn : s'.drawn = s.drawn
  os : s'.os = s.os
theorem Same.refl (s : Shared) : Same s s := ⟨rfl, rfl, rfl⟩
theorem Same.trans {s s' s'' : Shared} (x : Same s s') (y : Same s' s'') : Same s s'' := ⟨y.gens.trans x.gens, y.drawn.trans x.drawn, y.os.trans x.os⟩
end Mine
end
section
open PySem PySem.W PyProof.Rows
set_option maxRecDepth 10000
namespace Mine

noncomputable abbrev Vars := List (Str × D)
noncomputable abbrev Owns := List (Addr × List D)

/-- an activation: its names, what stands around it, the frames on the stack -/
structure Act where
  env : Env
  A : Around
  l : List Env
  mc : List Addr
noncomputable def Act.fr (a : Act) : List Addr := a.l.filterMap (·.frame)

structure Act.Ok (a : Act) (n : Nat) : Prop where
  kind : a.env.scope.kind = .function
  hand : a.A.handled = none
  frames : a.A.frames = some a.l
  glob : a.env.globals = mainGlobals
  blt : a.env.builtins = builtinsNs
  dep : a.A.depth + n < recursionLimit
  uni : a.A.units + 8 * n + 300 < cLine

/-- lists that may still change -/
noncomputable def OwnOk (own : Owns) (g h : Heap) : Prop := ∀ p ∈ own, g.get? p.1 = none ∧ ∃ vs, h.PlainList p.1 vs.toArray ∧ RepAll g p.2 vs

structure Sh (B : Heap) (l : List Env) (own : Owns) (g h : Heap) : Prop where
  bg : B.StaysIn g
  gh : g.StaysIn h
  ff : h.FunFrames B l
  fg : ∀ f ∈ l.filterMap (·.frame), g.get? f = none ∧ ∀ p ∈ own, p.1 ≠ f
  own : OwnOk own g h

structure Sv (B : Heap) (a : Act) (σ : Vars) (own : Owns) (g h : Heap) : Prop extends Sh B a.l own g h where
  ns : ∃ m, h.Ns a.env.locals m ∧ ∀ x d, σ.lookup x = some d → a.env.kindOf x = some .local → ∃ v, m x = some v ∧ Rep g d v
  cl : ∀ x d, σ.lookup x = some d → a.env.kindOf x ≠ some .local → ∃ c v, a.env.cells.lookup x = some c ∧ h.IsCell c (some v) ∧ Rep g d v
  cells : ∀ p ∈ a.env.cells, (∃ v, h.IsCell p.2 v) ∧ g.get? p.2 = none
  cnd : a.env.cells.Pairwise fun x y => x.2 ≠ y.2
  lg : g.get? a.env.locals = none
  mcs : ∀ b ∈ a.mc, ∃ p ∈ a.env.cells, p.2 = b

section
variable {B : Heap} {a : Act} {σ : Vars} {own : Owns} {g h g' h' : Heap}
theorem none_of_new {fr : List Addr} (x : Grow fr g h g' h') {b : Addr} (e : h.get? b ≠ none) (q : g.get? b = none) : g'.get? b = none := by
  cases z : g'.get? b with
  | none => rfl
  | some o => exact absurd q (x.new b e (by rw [z]; exact fun w => by cases w))
theorem isList_ne {a : Addr} {xs : Array Value} (x : h.IsList a xs) : h.get? a ≠ none := by obtain ⟨o, e, _⟩ := x; rw [e]; exact fun w => by cases w
theorem isCell_ne {a : Addr} {v : Option Value} (x : h.IsCell a v) : h.get? a ≠ none := by obtain ⟨o, e, _⟩ := x; rw [e]; exact fun w => by cases w
theorem ns_ne {a : Addr} {m : Str → Option Value} (x : h.Ns a m) : h.get? a ≠ none := by obtain ⟨o, _, _, e, _⟩ := x; rw [e]; exact fun w => by cases w
theorem plain_ne {a : Addr} {xs : Array Value} (x : h.PlainList a xs) : h.get? a ≠ none := isList_ne x.isList
theorem OwnOk.grow {fr : List Addr} (x : OwnOk own g h) (hf : ∀ p ∈ own, p.1 ∉ fr) (y : Grow fr g h g' h') : OwnOk own g' h' := fun p hp => by
  obtain ⟨h1, vs, h2, h3⟩ := x p hp
  exact ⟨none_of_new y (plain_ne h2) h1, vs, h2.at fun o e => y.ext.keep e (hf p hp), h3.mono y.gg⟩
theorem Sh.grow {l : List Env} (x : Sh B l own g h) (y : Grow (l.filterMap (·.frame)) g h g' h') : Sh B l own g' h' :=
  ⟨stays_trans x.bg y.gg, y.gh, y.ext.funFrames x.ff, fun f hf => ⟨none_of_new y (by obtain ⟨_, o, ho, _⟩ := x.ff.mem hf; rw [ho]; exact fun w => by cases w) (x.fg f hf).1, (x.fg f hf).2⟩, x.own.grow (fun p hp q => (x.fg p.1 q).2 p hp rfl) y⟩
theorem Sv.grow (x : Sv B a σ own g h) (y : Grow a.fr g h g' h') : Sv B a σ own g' h' := by
  obtain ⟨m, hn, hv⟩ := x.ns
  refine ⟨x.toSh.grow y, ⟨m, y.ext.ns hn, fun z d e k => ?_⟩, fun z d e k => ?_, fun p hp => ?_, x.cnd, none_of_new y (ns_ne hn) x.lg, x.mcs⟩
  · obtain ⟨v, h1, h2⟩ := hv z d e k; exact ⟨v, h1, h2.mono y.gg⟩
  · obtain ⟨c, v, h1, h2, h3⟩ := x.cl z d e k; exact ⟨c, v, h1, y.ext.isCell h2, h3.mono y.gg⟩
  · obtain ⟨⟨v, h1⟩, h2⟩ := x.cells p hp; exact ⟨⟨v, y.ext.isCell h1⟩, none_of_new y (isCell_ne h1) h2⟩
end

section
variable (prog : Program) (w : World) (B : Heap)

/-- an expression's worth -/
noncomputable def Ev (a : Act) (σ : Vars) (own : Owns) (e : Expr) (d : D) : Prop :=
  ∀ (s : Shared) (g : Heap) (Q E : Value → Shared → Prop), Sv B a σ own g s.heap →
    (∀ v s' g', Grow a.fr g s.heap g' s'.heap → Same s s' → Rep g' d v → Q v s') → wpAny (model prog w) a.A (eval e a.env) Q E s

noncomputable def EvAll (a : Act) (σ : Vars) (own : Owns) (p : Pos) (es : List Expr) (ds : List D) : Prop :=
  ∀ (s : Shared) (g : Heap) (Q : List Value → Shared → Prop) (E : Value → Shared → Prop), Sv B a σ own g s.heap →
    (∀ vs s' g', Grow a.fr g s.heap g' s'.heap → Same s s' → RepAll g' ds vs → Q vs s') → wpAny (model prog w) a.A (spliced (backTo p (starEach es a.env))) Q E s

/-- a test's truth -/
noncomputable def Tr (a : Act) (σ : Vars) (own : Owns) (e : Expr) (b : Bool) : Prop :=
  ∀ (s : Shared) (g : Heap) (Q : Bool → Shared → Prop) (E : Value → Shared → Prop), Sv B a σ own g s.heap →
    (∀ s' g', Grow a.fr g s.heap g' s'.heap → Same s s' → Q b s') → wpAny (model prog w) a.A (isTrue e a.env (eval e a.env)) Q E s

/-- an operation on values -/
noncomputable def Op (A : Around) (l : List Env) (own : Owns) (t : List Value → Sem Value) (ds : List D) (d : D) : Prop :=
  ∀ (s : Shared) (g : Heap) (vs : List Value) (Q E : Value → Shared → Prop), Sh B l own g s.heap → RepAll g ds vs →
    (∀ v s' g', Grow (l.filterMap (·.frame)) g s.heap g' s'.heap → Same s s' → Rep g' d v → Q v s') → wpAny (model prog w) A (t vs) Q E s
end

noncomputable def t2 (f : Value → Value → Sem Value) : List Value → Sem Value
  | [x, y] => f x y
  | _ => unsupported "t2"
noncomputable def t1 (f : Value → Sem Value) : List Value → Sem Value
  | [x] => f x
  | _ => unsupported "t1"

section
variable {prog : Program} {w : World} {B : Heap} {a : Act} {σ : Vars} {own : Owns} {n : Nat}

theorem Op.one {A : Around} {l : List Env} {f : Value → Sem Value} {d₁ d : D}
    (h : ∀ (s : Shared) (g : Heap) (v₁ : Value) (Q E : Value → Shared → Prop), Sh B l own g s.heap → Rep g d₁ v₁ →
      (∀ v s' g', Grow (l.filterMap (·.frame)) g s.heap g' s'.heap → Same s s' → Rep g' d v → Q v s') → wpAny (model prog w) A (f v₁) Q E s) :
    Op prog w B A l own (t1 f) [d₁] d := fun s g vs Q E S R k => by
  obtain ⟨v₁, r, rfl, r₁, r'⟩ := repAll_cons.mp R
  rw [repAll_nil.mp r']
  exact h s g v₁ Q E S r₁ k
theorem Op.two {A : Around} {l : List Env} {f : Value → Value → Sem Value} {d₁ d₂ d : D}
    (h : ∀ (s : Shared) (g : Heap) (v₁ v₂ : Value) (Q E : Value → Shared → Prop), Sh B l own g s.heap → Rep g d₁ v₁ → Rep g d₂ v₂ →
      (∀ v s' g', Grow (l.filterMap (·.frame)) g s.heap g' s'.heap → Same s s' → Rep g' d v → Q v s') → wpAny (model prog w) A (f v₁ v₂) Q E s) :
    Op prog w B A l own (t2 f) [d₁, d₂] d := fun s g vs Q E S R k => by
  obtain ⟨v₁, r, rfl, r₁, r'⟩ := repAll_cons.mp R
  obtain ⟨v₂, r2, rfl, r₂, r''⟩ := repAll_cons.mp r'
  rw [repAll_nil.mp r'']
  exact h s g v₁ v₂ Q E S r₁ r₂ k

/-- names -/
theorem ev_local (ok : a.Ok n) {x : Str} {p : Pos} {d : D} (hx : σ.lookup x = some d) (hk : a.env.kindOf x = some .local) (hd : (x == ("__debug__" : Str)) = false) :
    Ev prog w B a σ own (.Name x p) d := fun s g Q E S k => by
  obtain ⟨m, hn, hv⟩ := S.ns
  obtain ⟨v, h1, h2⟩ := hv x d hx hk
  exact wpAny_Name (wpAny_loadName_local ok.kind hk hn h1 (k v s g (.refl S.gh) (.refl s) h2)) hd
theorem ev_cell (ok : a.Ok n) {x : Str} {p : Pos} {d : D} (hx : σ.lookup x = some d) (hk : a.env.kindOf x = some .cell) (hd : (x == ("__debug__" : Str)) = false) :
    Ev prog w B a σ own (.Name x p) d := fun s g Q E S k => by
  obtain ⟨c, v, h1, h2, h3⟩ := S.cl x d hx (by rw [hk]; decide)
  exact wpAny_Name (wpAny_loadName_cell ok.kind hk h1 h2 (k v s g (.refl S.gh) (.refl s) h3)) hd
theorem ev_free (ok : a.Ok n) {x : Str} {p : Pos} {d : D} (hx : σ.lookup x = some d) (hk : a.env.kindOf x = some .free) (hd : (x == ("__debug__" : Str)) = false) (hc : (x == ("__classdict__" : Str)) = false) :
    Ev prog w B a σ own (.Name x p) d := fun s g Q E S k => by
  obtain ⟨c, v, h1, h2, h3⟩ := S.cl x d hx (by rw [hk]; decide)
  exact wpAny_Name (wpAny_loadName_free ok.kind hk h1 h2 (k v s g (.refl S.gh) (.refl s) h3) hc) hd

structure Gl (B : Heap) (mg mb : Str → Option Value) : Prop where
  g : B.Ns mainGlobals mg
  b : B.Ns builtinsNs mb
  nolimit : B.NoLimit
noncomputable def Gn (mg mb : Str → Option Value) (x : Str) (v : Value) : Prop := mg x = some v ∨ (mg x = none ∧ mb x = some v)
variable {mg mb : Str → Option Value}
theorem ev_global (ok : a.Ok n) (G : Gl B mg mb) {x : Str} {p : Pos} {v : Value} (hx : Gn mg mb x v) (hk : a.env.kindOf x = some .globalImplicit) (hd : (x == ("__debug__" : Str)) = false) :
    Ev prog w B a σ own (.Name x p) (.val v) := fun s g Q E S k => by
  have hg : s.heap.Ns a.env.globals mg := by rw [ok.glob]; exact (G.g.keeps S.bg).keeps S.gh
  have hb : s.heap.Ns a.env.builtins mb := by rw [ok.blt]; exact (G.b.keeps S.bg).keeps S.gh
  have fin := k v s g (.refl S.gh) (.refl s) (rep_val.mpr rfl)
  refine Calls.Name_function_global ok.kind hk ?_ hd
  rcases hx with h | ⟨h1, h2⟩
  · exact Calls.loadGlobal_global hg h fin
  · exact Calls.loadGlobal_builtin hg h1 hb h2 fin
end
end Mine
end
section
open PySem PySem.W PyProof.Rows
set_option maxRecDepth 10000
set_option linter.unusedVariables false
namespace Mine
section
variable {prog : Program} {w : World} {B : Heap} {a : Act} {σ : Vars} {own : Owns} {n : Nat}

noncomputable abbrev dBool (b : Bool) : D := .val (.bool b)
noncomputable abbrev dNone : D := .val .none

theorem Ev.to (d' : D) {e : Expr} {d : D} (h : Ev prog w B a σ own e d) (q : d = d') : Ev prog w B a σ own e d' := q ▸ h

theorem Tr.to {b' : Bool} {e : Expr} {b : Bool} (h : Tr prog w B a σ own e b) (q : b = b') : Tr prog w B a σ own e b' := q ▸ h

/-- constants -/
theorem ev_int {i : Int} {k : Nat} {p : Pos} : Ev prog w B a σ own (.Constant (.int i) k p) (.int i) := fun s g Q E S k =>
  wpAny_Constant_int (k _ { s with toks := s.toks + 1 } g (.refl S.gh) ⟨rfl, rfl, rfl⟩ (rep_int.mpr ⟨_, rfl⟩))
theorem ev_bool {b : Bool} {k : Nat} {p : Pos} : Ev prog w B a σ own (.Constant (.bool b) k p) (dBool b) := fun s g Q E S k =>
  wpAny_Constant_bool (k _ s g (.refl S.gh) (.refl s) (rep_val.mpr rfl))
/-- two operands, then the operation -/
theorem ev_binop {l r : Expr} {op : Operator} {p : Pos} {d₁ d₂ d : D} (h₁ : Ev prog w B a σ own l d₁) (h₂ : Ev prog w B a σ own r d₂) (h : Op prog w B a.A a.l own (t2 (binaryOp op)) [d₁, d₂] d) :
    Ev prog w B a σ own (.BinOp l op r p) d := fun s g Q E S k =>
  wpAny_BinOp (h₁ s g _ _ S fun v₁ s₁ g₁ G₁ S₁ r₁ => h₂ s₁ g₁ _ _ (S.grow G₁) fun v₂ s₂ g₂ G₂ S₂ r₂ =>
    h s₂ g₂ [v₁, v₂] _ _ ((S.grow G₁).grow G₂).toSh (.cons (r₁.mono G₂.gg) (.cons r₂ .nil)) fun v s' g' G' S' r' => k v s' g' ((G₁.trans G₂).trans G') ((S₁.trans S₂).trans S') r')
theorem ev_compare {l r : Expr} {op : CmpOp} {p : Pos} {d₁ d₂ d : D} (h₁ : Ev prog w B a σ own l d₁) (h₂ : Ev prog w B a σ own r d₂) (h : Op prog w B a.A a.l own (t2 (compareOp op)) [d₁, d₂] d)
    (hm : behindInMarks op r = false) :
    Ev prog w B a σ own (.Compare l [op] [r] p) d := fun s g Q E S k =>
  wpAny_Compare1 (h₁ s g _ _ S fun v₁ s₁ g₁ G₁ S₁ r₁ => h₂ s₁ g₁ _ _ (S.grow G₁) fun v₂ s₂ g₂ G₂ S₂ r₂ =>
    h s₂ g₂ [v₁, v₂] _ _ ((S.grow G₁).grow G₂).toSh (.cons (r₁.mono G₂.gg) (.cons r₂ .nil)) fun v s' g' G' S' r' => k v s' g' ((G₁.trans G₂).trans G') ((S₁.trans S₂).trans S') r') hm
theorem ev_sub {value slice : Expr} {p : Pos} {d₁ d₂ d : D} (h₁ : Ev prog w B a σ own value d₁) (h₂ : Ev prog w B a σ own slice d₂) (h : Op prog w B a.A a.l own (t2 (subscriptTail value slice)) [d₁, d₂] d) :
    Ev prog w B a σ own (.Subscript value slice p) d := fun s g Q E S k =>
  Subscript_ (h₁ s g _ _ S fun v₁ s₁ g₁ G₁ S₁ r₁ => h₂ s₁ g₁ _ _ (S.grow G₁) fun v₂ s₂ g₂ G₂ S₂ r₂ =>
    h s₂ g₂ [v₁, v₂] _ _ ((S.grow G₁).grow G₂).toSh (.cons (r₁.mono G₂.gg) (.cons r₂ .nil)) fun v s' g' G' S' r' => k v s' g' ((G₁.trans G₂).trans G') ((S₁.trans S₂).trans S') r')
theorem ev_unary {x : Expr} {op : UnaryOp} {p : Pos} {d₁ d : D} (h₁ : Ev prog w B a σ own x d₁) (h : Op prog w B a.A a.l own (t1 (unaryOp op)) [d₁] d) :
    Ev prog w B a σ own (.UnaryOp op x p) d := fun s g Q E S k =>
  wpAny_UnaryOp (h₁ s g _ _ S fun v₁ s₁ g₁ G₁ S₁ r₁ => h s₁ g₁ [v₁] _ _ (S.grow G₁).toSh (.cons r₁ .nil) fun v s' g' G' S' r' => k v s' g' (G₁.trans G') (S₁.trans S') r')

/-- tests -/
theorem tr_compare {l r : Expr} {op : CmpOp} {p : Pos} {d₁ d₂ : D} {b : Bool} (h₁ : Ev prog w B a σ own l d₁) (h₂ : Ev prog w B a σ own r d₂) (h : Op prog w B a.A a.l own (t2 (compareOp op)) [d₁, d₂] (dBool b))
    (hm : behindInMarks op r = false) :
    Tr prog w B a σ own (.Compare l [op] [r] p) b := fun s g Q E S k =>
  wpAny_isTrue_Compare1 (h₁ s g _ _ S fun v₁ s₁ g₁ G₁ S₁ r₁ => h₂ s₁ g₁ _ _ (S.grow G₁) fun v₂ s₂ g₂ G₂ S₂ r₂ =>
    h s₂ g₂ [v₁, v₂] _ _ ((S.grow G₁).grow G₂).toSh (.cons (r₁.mono G₂.gg) (.cons r₂ .nil)) fun v s' g' G' S' r' => by
      rw [rep_val.mp r']
      exact wpAny_truthy_bool (k s' g' ((G₁.trans G₂).trans G') ((S₁.trans S₂).trans S'))) hm
theorem tr_not {x : Expr} {p : Pos} {b : Bool} (h : Tr prog w B a σ own x b) : Tr prog w B a σ own (.UnaryOp .Not x p) (!b) := fun s g Q E S k =>
  wpAny_isTrue_Not (h s g _ _ S fun s' g' G' S' => k s' g' G' S')
theorem tr_value {e : Expr} {b : Bool} (h : Ev prog w B a σ own e (dBool b)) (he : ∀ whole, isTrue e a.env whole = (do let v ← whole; standAt e.pos; holding [v] (truthy v))) : Tr prog w B a σ own e b := fun s g Q E S k =>
  wpAny_isTrue_value (h s g _ _ S fun v s' g' G' S' r' => by
    rw [rep_val.mp r']
    exact wpAny_truthy_bool (k s' g' G' S')) (he _)
/-- and, or of two: the second only where it is asked -/
theorem tr_and {x y : Expr} {p : Pos} {b c : Bool} (h₁ : Tr prog w B a σ own x b) (h₂ : b = true → Tr prog w B a σ own y c) : Tr prog w B a σ own (.BoolOp .And [x, y] p) (b && c) := fun s g Q E S k => by
  refine wpAny_isTrue_BoolOp (wpAny_allTrue_And_cons (h₁ s g _ _ S fun s₁ g₁ G₁ S₁ => ?_))
  cases b with
  | false => rw [if_neg (by decide)]; exact k s₁ g₁ G₁ S₁
  | true =>
    rw [if_pos rfl]
    refine wpAny_allTrue_And_cons (h₂ rfl s₁ g₁ _ _ (S.grow G₁) fun s₂ g₂ G₂ S₂ => ?_)
    have fin := k s₂ g₂ (G₁.trans G₂) (S₁.trans S₂)
    cases c with
    | false => rw [if_neg (by decide)]; exact fin
    | true => rw [if_pos rfl]; exact wpAny_allTrue_And_nil fin
theorem tr_or {x y : Expr} {p : Pos} {b c : Bool} (h₁ : Tr prog w B a σ own x b) (h₂ : b = false → Tr prog w B a σ own y c) : Tr prog w B a σ own (.BoolOp .Or [x, y] p) (b || c) := fun s g Q E S k => by
  refine wpAny_isTrue_BoolOp (wpAny_allTrue_Or_cons (h₁ s g _ _ S fun s₁ g₁ G₁ S₁ => ?_))
  cases b with
  | true => rw [if_pos rfl]; exact k s₁ g₁ G₁ S₁
  | false =>
    rw [if_neg (by decide)]
    refine wpAny_allTrue_Or_cons (h₂ rfl s₁ g₁ _ _ (S.grow G₁) fun s₂ g₂ G₂ S₂ => ?_)
    have fin := k s₂ g₂ (G₁.trans G₂) (S₁.trans S₂)
    cases c with
    | true => rw [if_pos rfl]; exact fin
    | false => rw [if_neg (by decide)]; exact wpAny_allTrue_Or_nil fin
/-- and as a value, of bools -/
theorem ev_and {x y : Expr} {p : Pos} {b c : Bool} (h₁ : Ev prog w B a σ own x (dBool b)) (h₂ : b = true → Ev prog w B a σ own y (dBool c)) : Ev prog w B a σ own (.BoolOp .And [x, y] p) (dBool (b && c)) := fun s g Q E S k => by
  refine wpAny_And2 (h₁ s g _ _ S fun v₁ s₁ g₁ G₁ S₁ r₁ => ?_)
  rw [rep_val.mp r₁]
  refine wpAny_truthy_bool ?_
  cases b with
  | false => rw [if_neg (by decide)]; exact k _ s₁ g₁ G₁ S₁ (rep_val.mpr rfl)
  | true =>
    rw [if_pos rfl]
    refine h₂ rfl s₁ g₁ _ _ (S.grow G₁) fun v₂ s₂ g₂ G₂ S₂ r₂ => ?_
    exact k v₂ s₂ g₂ (G₁.trans G₂) (S₁.trans S₂) (by cases c <;> exact r₂)

/-- several -/
theorem evAll_nil {p : Pos} : EvAll prog w B a σ own p [] [] := fun s g Q E S k => Calls.spliced_nil (k [] s g (.refl S.gh) (.refl s) .nil)
theorem evAll_cons {p : Pos} {e : Expr} {es : List Expr} {d : D} {ds : List D} (h : Ev prog w B a σ own e d) (hr : EvAll prog w B a σ own p es ds)
    (hs : ∀ env, backTo p (starEach (e :: es) env) = (false, eval e env) :: backTo p (starEach es env)) : EvAll prog w B a σ own p (e :: es) (d :: ds) := fun s g Q E S k => by
  rw [hs]
  exact Calls.spliced_cons (h s g _ _ S fun v₁ s₁ g₁ G₁ S₁ r₁ => hr s₁ g₁ _ _ (S.grow G₁) fun vs s₂ g₂ G₂ S₂ r₂ => k _ s₂ g₂ (G₁.trans G₂) (S₁.trans S₂) (.cons (r₁.mono G₂.gg) r₂))

theorem grow_list {fr : List Addr} {g h : Heap} {ds : List D} {vs : List Value} (k : g.StaysIn h) (r : RepAll g ds vs) (o : Obj) {m : Nat} (hd : o = { cls := .type "list", data := .seq vs.toArray m }) :
    Grow fr g h (withObj g (h.push o) h.objs.size) (h.push o) ∧ Rep (withObj g (h.push o) h.objs.size) (.lst ds) (.ref h.objs.size) := by
  have G := Grow.pushed (fr := fr) o k
  refine ⟨G, rep_lst.mpr ⟨_, vs, rfl, withObj_plain (fun b o' e => Heap.get?_push_of_some _ (k b o' e)) ⟨m, by rw [Heap.get?_push_size _ (by rw [hd]; rfl), hd]⟩, r.mono G.gg⟩⟩
theorem grow_tuple {fr : List Addr} {g h : Heap} {ds : List D} {vs : List Value} (k : g.StaysIn h) (r : RepAll g ds vs) (o : Obj) (hc : o.cls = .type "tuple") {m : Nat} (hd : o.data = .seq vs.toArray m) :
    Grow fr g h (withObj g (h.push o) h.objs.size) (h.push o) ∧ Rep (withObj g (h.push o) h.objs.size) (.tup ds) (.ref h.objs.size) := by
  have G := Grow.pushed (fr := fr) o k
  refine ⟨G, rep_tup.mpr ⟨_, vs, rfl, withObj_isTuple (fun b o' e => Heap.get?_push_of_some _ (k b o' e)) ⟨o, Heap.get?_push_size _ (Obj.isFreed_of_seq hd), hc, m, hd⟩, r.mono G.gg⟩⟩

theorem ev_list {es : List Expr} {p : Pos} {ds : List D} (h : EvAll prog w B a σ own p es ds) (hsz : ds.length ≤ sizeLine) : Ev prog w B a σ own (.List es p) (.lst ds) := fun s g Q E S k =>
  wpAny_List (h s g _ _ S fun vs s₁ g₁ G₁ S₁ r₁ => ⟨by rw [r₁.length]; exact hsz, by
    obtain ⟨G, R⟩ := grow_list (fr := a.fr) G₁.gh r₁ { cls := .type "list", data := .seq vs.toArray } rfl
    exact k _ { s₁ with heap := s₁.heap.push { cls := .type "list", data := .seq vs.toArray } } _ (G₁.trans G) (S₁.trans ⟨rfl, rfl, rfl⟩) R⟩)
theorem ev_tuple {es : List Expr} {m : Nat} {p : Pos} {ds : List D} (h : EvAll prog w B a σ own p es ds) (hsz : ds.length ≤ sizeLine) : Ev prog w B a σ own (.Tuple es m p) (.tup ds) := fun s g Q E S k =>
  wpAny_Tuple (h s g _ _ S fun vs s₁ g₁ G₁ S₁ r₁ => ⟨by rw [r₁.length]; exact hsz, by
    obtain ⟨G, R⟩ := grow_tuple (fr := a.fr) G₁.gh r₁ { cls := .type "tuple", data := .seq vs.toArray } rfl rfl
    exact k _ { s₁ with heap := s₁.heap.push { cls := .type "tuple", data := .seq vs.toArray } } _ (G₁.trans G) (S₁.trans ⟨rfl, rfl, rfl⟩) R⟩)

/-- calls by place -/
theorem evAll_args {p : Pos} {e : Expr} {es : List Expr} {ds : List D} {f : Value} (h : EvAll prog w B a σ own p (e :: es) ds) {s : Shared} {g : Heap} {Q : Args → Shared → Prop} {E : Value → Shared → Prop} (S : Sv B a σ own g s.heap)
    (hc : ∃ x rest, backTo p (starEach (e :: es) a.env) = (false, x) :: rest ∧ (rest.any (·.1) = false))
    (k : ∀ vs s' g', Grow a.fr g s.heap g' s'.heap → Same s s' → RepAll g' ds vs → Q ⟨vs, []⟩ s') : wpAny (model prog w) a.A (evalArgs f true (backTo p (starEach (e :: es) a.env)) []) Q E s := by
  obtain ⟨x, rest, hx, hr⟩ := hc
  have H := h s g (fun vs s' => Q ⟨vs, []⟩ s') E S k
  rw [hx] at H ⊢
  exact Calls.evalArgs_plain H
theorem any_of_hc {p : Pos} {e : Expr} {es : List Expr} {env : Env} (hc : ∃ x rest, backTo p (starEach (e :: es) env) = (false, x) :: rest ∧ (rest.any (·.1) = false)) : (backTo p (starEach (e :: es) env)).any (·.1) = false := by
  obtain ⟨x, rest, hx, hr⟩ := hc
  rw [hx, List.any_cons, hr]; rfl
noncomputable def CallForm (f e : Expr) (es : List Expr) (p : Pos) : Prop := ∀ env, eval (.Call f (e :: es) [] p) env = (do callWith p (← eval f env) [] (backTo p (starEach (e :: es) env)) (backToKw p (keywordEach [] env))) ∧
  ∃ x rest, backTo p (starEach (e :: es) env) = (false, x) :: rest ∧ (rest.any (·.1) = false)
theorem ev_call_b {f e : Expr} {es : List Expr} {p : Pos} {id : String} {ds : List D} {d : D} (hf : Ev prog w B a σ own f (.val (.builtin id))) (h : EvAll prog w B a σ own p (e :: es) ds)
    (hop : Op prog w B a.A a.l own (fun vs => call (.builtin id) vs) ds d) (hs : CallForm f e es p) :
    Ev prog w B a σ own (.Call f (e :: es) [] p) d := fun s g Q E S k => by
  rw [(hs _).1]
  refine wpAny_bind (hf s g _ _ S fun v₁ s₁ g₁ G₁ S₁ r₁ => ?_)
  rw [rep_val.mp r₁]
  refine Calls.callWith_builtin (any_of_hc (hs _).2) (evAll_args h (S.grow G₁) (hs _).2 fun vs s₂ g₂ G₂ S₂ r₂ => ?_)
  exact hop s₂ g₂ vs _ _ ((S.grow G₁).grow G₂).toSh r₂ fun v s' g' G' S' r' => k v s' g' ((G₁.trans G₂).trans G') ((S₁.trans S₂).trans S') r'
theorem ev_call_t {f e : Expr} {es : List Expr} {p : Pos} {T : String} {ds : List D} {d : D} (hf : Ev prog w B a σ own f (.val (.type T))) (h : EvAll prog w B a σ own p (e :: es) ds)
    (hop : Op prog w B a.A a.l own (fun vs => call (.type T) vs) ds d) (hs : CallForm f e es p) :
    Ev prog w B a σ own (.Call f (e :: es) [] p) d := fun s g Q E S k => by
  rw [(hs _).1]
  refine wpAny_bind (hf s g _ _ S fun v₁ s₁ g₁ G₁ S₁ r₁ => ?_)
  rw [rep_val.mp r₁]
  refine PyProof.Rows.callWith_type (any_of_hc (hs _).2) (evAll_args h (S.grow G₁) (hs _).2 fun vs s₂ g₂ G₂ S₂ r₂ => ?_)
  exact hop s₂ g₂ vs _ _ ((S.grow G₁).grow G₂).toSh r₂ fun v s' g' G' S' r' => k v s' g' ((G₁.trans G₂).trans G') ((S₁.trans S₂).trans S') r'
theorem ev_call_f {f e : Expr} {es : List Expr} {p : Pos} {fa : Addr} {ds : List D} {d : D} (hf : Ev prog w B a σ own f (.val (.ref fa))) (hfa : ∃ o fd, B.get? fa = some o ∧ o.data = .func fd) (h : EvAll prog w B a σ own p (e :: es) ds)
    (hop : Op prog w B a.A a.l own (fun vs => call (.ref fa) vs) ds d) (hs : CallForm f e es p) :
    Ev prog w B a σ own (.Call f (e :: es) [] p) d := fun s g Q E S k => by
  obtain ⟨o, fd, ho, hd⟩ := hfa
  rw [(hs _).1]
  refine wpAny_bind (hf s g _ _ S fun v₁ s₁ g₁ G₁ S₁ r₁ => ?_)
  rw [rep_val.mp r₁]
  refine Calls.callWith_function (o := o) (fd := fd) (evAll_args h (S.grow G₁) (hs _).2 fun vs s₂ g₂ G₂ S₂ r₂ => ⟨⟨?_, hd⟩, ?_⟩)
  · have S₂' := ((S.grow G₁).grow G₂)
    exact S₂'.gh _ _ (S₂'.bg _ _ ho)
  · exact hop s₂ g₂ vs _ _ ((S.grow G₁).grow G₂).toSh r₂ fun v s' g' G' S' r' => k v s' g' ((G₁.trans G₂).trans G') ((S₁.trans S₂).trans S') r'
end
end Mine
end
section
open PySem PySem.W PyProof.Rows
set_option maxRecDepth 10000
set_option linter.unusedVariables false
namespace Mine

/-! encodings and equality -/
mutual
noncomputable def toPy : D → PyData
  | .val (.bool b) => .bool b
  | .val _ => .none
  | .int i => .int i
  | .byt _ => .none
  | .rng _ _ _ => .none
  | .tup ds => .tuple (toPys ds)
  | .lst ds => .list (toPys ds)
noncomputable def toPys : List D → List PyData
  | [] => []
  | d :: ds => toPy d :: toPys ds
end
noncomputable def okD : Nat → D → Bool
  | _, .val (.bool _) => true
  | _, .val .none => true
  | _, .int _ => true
  | n + 1, .tup ds => ds.all (okD n)
  | n + 1, .lst ds => ds.all (okD n)
  | _, _ => false

mutual
theorem rep_reads {h : Heap} : ∀ (n : Nat) {d : D} {v : Value}, okD n d = true → Rep h d v → ∃ as, Reads h v (toPy d) as
  | n, .val u, v, hk, hr => by
    rw [rep_val.mp hr]
    cases u with
    | bool b => exact ⟨_, by rw [toPy]; exact Reads.bool b⟩
    | none => exact ⟨_, by rw [toPy]; exact Reads.none; intro b; simp⟩
    | _ => cases n <;> simp [okD] at hk
  | n, .int i, v, hk, hr => by
    obtain ⟨t, rfl⟩ := rep_int.mp hr
    exact ⟨_, by rw [toPy]; exact Reads.int i t⟩
  | n, .byt b, v, hk, hr => by cases n <;> simp [okD] at hk
  | n, .rng _ _ _, v, hk, hr => by cases n <;> simp [okD] at hk
  | 0, .tup ds, v, hk, hr => by simp [okD] at hk
  | 0, .lst ds, v, hk, hr => by simp [okD] at hk
  | n + 1, .tup ds, v, hk, hr => by
    obtain ⟨a, vs, rfl, ⟨o, ho, hc, m, hd⟩, r⟩ := rep_tup.mp hr
    obtain ⟨as, q⟩ := rep_readsAll n (by simpa [okD] using hk) r
    rw [toPy]
    exact ⟨as, Reads.tuple ho hc hd (by simpa using q)⟩
  | n + 1, .lst ds, v, hk, hr => by
    obtain ⟨a, vs, rfl, pl, r⟩ := rep_lst.mp hr
    obtain ⟨o, ho, hc, m, hd⟩ := pl.isList
    obtain ⟨as, q⟩ := rep_readsAll n (by simpa [okD] using hk) r
    rw [toPy]
    exact ⟨a :: as, Reads.list ho hc hd (by simpa using q)⟩
theorem rep_readsAll {h : Heap} : ∀ (n : Nat) {ds : List D} {vs : List Value}, (∀ d ∈ ds, okD n d = true) → RepAll h ds vs → ∃ as, ReadsAll h vs (toPys ds) as
  | n, [], vs, hk, hr => by rw [repAll_nil.mp hr]; exact ⟨_, by rw [toPys]; exact ReadsAll.nil⟩
  | n, d :: ds, vs, hk, hr => by
    obtain ⟨v, r, rfl, h1, h2⟩ := repAll_cons.mp hr
    obtain ⟨as, q⟩ := rep_reads n (hk d (.head _)) h1
    obtain ⟨bs, q'⟩ := rep_readsAll n (fun d' hd' => hk d' (.tail _ hd')) h2
    rw [toPys]
    exact ⟨_, ReadsAll.cons q q'⟩
end
theorem ok_lay : ∀ (n : Nat) (d : D), okD n d = true → (toPy d).canLay0 = true ∧ (toPy d).depth ≤ n + 1 := by
  have all : ∀ (n : Nat), (∀ d, okD n d = true → (toPy d).canLay0 = true ∧ (toPy d).depth ≤ n + 1) → ∀ ds : List D, (∀ d ∈ ds, okD n d = true) → PyData.canLayAll0 (toPys ds) = true ∧ PyData.depthAll (toPys ds) ≤ n + 1 := by
    intro n ih ds
    induction ds with
    | nil => intro _; simp [toPys, PyData.canLayAll0, PyData.depthAll]
    | cons d ds hi =>
      intro h
      have h1 := ih d (h d (.head _))
      have h2 := hi fun e he => h e (.tail _ he)
      simp only [toPys, PyData.canLayAll0, PyData.depthAll, h1.1, h2.1, Bool.and_self, true_and]
      have a1 := h1.2
      have a2 := h2.2
      omega
  have base : ∀ (n : Nat) (v : Value), okD n (.val v) = true → (toPy (.val v)).canLay0 = true ∧ (toPy (.val v)).depth ≤ n + 1 := by
    intro n v h
    cases v with
    | bool b => simp [toPy, PyData.canLay0, PyData.depth]
    | none => simp [toPy, PyData.canLay0, PyData.depth]
    | _ => cases n <;> simp [okD] at h
  intro n
  induction n with
  | zero =>
    intro d h
    cases d with
    | val v => exact base 0 v h
    | int i => simp [toPy, PyData.canLay0, PyData.depth]
    | _ => simp [okD] at h
  | succ n ih =>
    intro d h
    cases d with
    | val v => exact base _ v h
    | int i => simp [toPy, PyData.canLay0, PyData.depth]
    | byt b => simp [okD] at h
    | rng _ _ _ => simp [okD] at h
    | tup ds =>
      have q := all n ih ds (by simpa [okD] using h)
      have q2 := q.2
      simp only [toPy, PyData.canLay0, PyData.depth, q.1, true_and]
      exact Nat.lt_succ_of_le ‹_›
    | lst ds =>
      have q := all n ih ds (by simpa [okD] using h)
      have q2 := q.2
      simp only [toPy, PyData.canLay0, PyData.depth, q.1, true_and]
      exact Nat.lt_succ_of_le ‹_›
theorem ok_shaped {n : Nat} {d : D} (h : okD n d = true) (hn : n ≤ 60) : SeqAt.shaped (toPy d) = true := by
  obtain ⟨h1, h2⟩ := ok_lay n d h
  unfold SeqAt.shaped
  rw [h1, Bool.true_and]
  exact decide_eq_true (by omega)

/-- an encoding of α -/
structure Enc {α : Type} (n : Nat) (e : α → D) : Prop where
  ok : ∀ x, okD n (e x) = true
  eqv : ∀ x y, PyData.eqv (toPy (e x)) (toPy (e y)) = true ↔ x = y
noncomputable abbrev eL {α : Type} (e : α → D) (l : List α) : D := .lst (l.map e)
noncomputable abbrev eP {α β : Type} (e : α → D) (f : β → D) (p : α × β) : D := .tup [e p.1, f p.2]
noncomputable abbrev eT {α β γ : Type} (e : α → D) (f : β → D) (g : γ → D) (p : α × β × γ) : D := .tup [e p.1, f p.2.1, g p.2.2]
theorem encInt (n : Nat) : Enc n D.int := ⟨fun x => by cases n <;> rfl, fun x y => by simp [toPy, PyData.eqv]⟩
theorem encBool (n : Nat) : Enc n dBool := ⟨fun x => by cases n <;> rfl, fun x y => by simp [toPy, PyData.eqv]⟩
theorem encL {α : Type} {n : Nat} {e : α → D} (h : Enc n e) : Enc (n + 1) (eL e) := by
  refine ⟨fun x => by simp [okD, h.ok], fun x y => ?_⟩
  simp only [toPy, PyData.eqv]
  induction x generalizing y with
  | nil => cases y <;> simp [toPys, PyData.eqvAll]
  | cons a x ih =>
    cases y with
    | nil => simp [toPys, PyData.eqvAll]
    | cons b y => simp only [List.map_cons, toPys, PyData.eqvAll, Bool.and_eq_true, h.eqv, ih, List.cons.injEq]
theorem encP {α β : Type} {n : Nat} {e : α → D} {f : β → D} (h : Enc n e) (k : Enc n f) : Enc (n + 1) (eP e f) := by
  refine ⟨fun x => by simp [okD, h.ok, k.ok], fun x y => ?_⟩
  simp only [toPy, PyData.eqv, toPys, PyData.eqvAll, Bool.and_eq_true, h.eqv, k.eqv, Prod.ext_iff, Bool.and_true]
theorem encT {α β γ : Type} {n : Nat} {e : α → D} {f : β → D} {i : γ → D} (h : Enc n e) (k : Enc n f) (m : Enc n i) : Enc (n + 1) (eT e f i) := by
  refine ⟨fun x => by simp [okD, h.ok, k.ok, m.ok], fun x y => ?_⟩
  simp only [toPy, PyData.eqv, toPys, PyData.eqvAll, Bool.and_eq_true, h.eqv, k.eqv, m.eqv, Prod.ext_iff, Bool.and_true]

section
variable {prog : Program} {w : World} {B : Heap} {A : Around} {l : List Env} {own : Owns}

theorem op_eq {α : Type} [DecidableEq α] {n : Nat} {e : α → D} (en : Enc n e) (x y : α) (hu : A.units + 64 < cLine) (hn : n ≤ 60) : Op prog w B A l own (t2 (compareOp .Eq)) [e x, e y] (dBool (decide (x = y))) :=
  .two fun s g v₁ v₂ Q E S r₁ r₂ k => by
    obtain ⟨as, q₁⟩ := rep_reads n (en.ok x) (r₁.mono S.gh)
    obtain ⟨bs, q₂⟩ := rep_reads n (en.ok y) (r₂.mono S.gh)
    refine SeqAt.compareEq_shaped q₁ q₂ (ok_shaped (en.ok x) hn) (ok_shaped (en.ok y) hn) hu (k _ s g (.refl S.gh) (.refl s) (rep_val.mpr ?_))
    have q := en.eqv x y
    by_cases hxy : x = y
    · rw [decide_eq_true hxy, q.mpr hxy]
    · rw [decide_eq_false hxy, Bool.eq_false_iff.mpr fun z => hxy (q.mp z)]
theorem op_ne {α : Type} [DecidableEq α] {n : Nat} {e : α → D} (en : Enc n e) (x y : α) (hu : A.units + 64 < cLine) (hn : n ≤ 60) : Op prog w B A l own (t2 (compareOp .NotEq)) [e x, e y] (dBool (!decide (x = y))) :=
  .two fun s g v₁ v₂ Q E S r₁ r₂ k => by
    obtain ⟨as, q₁⟩ := rep_reads n (en.ok x) (r₁.mono S.gh)
    obtain ⟨bs, q₂⟩ := rep_reads n (en.ok y) (r₂.mono S.gh)
    refine SeqAt.compareNe_shaped q₁ q₂ (ok_shaped (en.ok x) hn) (ok_shaped (en.ok y) hn) hu (k _ s g (.refl S.gh) (.refl s) (rep_val.mpr ?_))
    have q := en.eqv x y
    by_cases hxy : x = y
    · rw [decide_eq_true hxy, q.mpr hxy]
    · rw [decide_eq_false hxy, Bool.eq_false_iff.mpr fun z => hxy (q.mp z)]

theorem toPys_any {α : Type} [DecidableEq α] {n : Nat} {e : α → D} (en : Enc n e) (x : α) : ∀ ys : List α, ((toPys (ys.map e)).any fun z => PyData.eqv z (toPy (e x))) = decide (x ∈ ys)
  | [] => by simp [toPys]
  | y :: ys => by
    simp only [List.map_cons, toPys, List.any_cons, toPys_any en x ys]
    by_cases h : x = y
    · subst h; rw [(en.eqv x x).mpr rfl]; simp
    · rw [Bool.eq_false_iff.mpr fun z => h ((en.eqv y x).mp z).symm]; simp [h]
theorem op_notin {α : Type} [DecidableEq α] {n : Nat} {e : α → D} (en : Enc n e) (x : α) (ys : List α) (hu : A.units + 100 < cLine) (hn : n ≤ 60) : Op prog w B A l own (t2 (compareOp .NotIn)) [e x, eL e ys] (dBool (!decide (x ∈ ys))) :=
  .two fun s g v₁ v₂ Q E S r₁ r₂ k => by
    have en' := encL en
    obtain ⟨as, q₁⟩ := rep_reads n (en.ok x) (r₁.mono S.gh)
    obtain ⟨bs, q₂⟩ := rep_reads (n + 1) (en'.ok ys) (r₂.mono S.gh)
    rw [toPy] at q₂
    have l1 := ok_lay n (e x) (en.ok x)
    have l2 := ok_lay (n + 1) (eL e ys) (en'.ok ys)
    rw [toPy] at l2
    simp only [PyData.canLay0, PyData.depth] at l2
    refine SeqAt.notIn_list_reads q₂ q₁ l2.1 l1.1 ?_ (k _ s g (.refl S.gh) (.refl s) (rep_val.mpr ?_))
    · have := Nat.min_le_right (PyData.depthAll (toPys (ys.map e))) (toPy (e x)).depth
      have := l1.2
      omega
    · rw [toPys_any en]

/-! ints and bools -/
theorem op_add_int (i j : Int) : Op prog w B A l own (t2 (binaryOp .Add)) [.int i, .int j] (.int (i + j)) := .two fun s g v₁ v₂ Q E S r₁ r₂ k => by
  obtain ⟨t, rfl⟩ := rep_int.mp r₁
  obtain ⟨u, rfl⟩ := rep_int.mp r₂
  exact PyProof.Rows.add_int (k _ { s with toks := s.toks + 1 } g (.refl S.gh) ⟨rfl, rfl, rfl⟩ (rep_int.mpr ⟨_, rfl⟩))
theorem op_sub_int (i j : Int) : Op prog w B A l own (t2 (binaryOp .Sub)) [.int i, .int j] (.int (i - j)) := .two fun s g v₁ v₂ Q E S r₁ r₂ k => by
  obtain ⟨t, rfl⟩ := rep_int.mp r₁
  obtain ⟨u, rfl⟩ := rep_int.mp r₂
  exact PyProof.Rows.sub_int (k _ { s with toks := s.toks + 1 } g (.refl S.gh) ⟨rfl, rfl, rfl⟩ (rep_int.mpr ⟨_, rfl⟩))
theorem b2i_t : b2i true = 1 := rfl
theorem b2i_f : b2i false = 0 := rfl
theorem op_sub_bool (p q : Bool) : Op prog w B A l own (t2 (binaryOp .Sub)) [dBool p, dBool q] (.int (b2i p - b2i q)) := .two fun s g v₁ v₂ Q E S r₁ r₂ k => by
  rw [rep_val.mp r₁, rep_val.mp r₂]
  exact PyProof.Rows.sub_bool (k _ { s with toks := s.toks + 1 } g (.refl S.gh) ⟨rfl, rfl, rfl⟩ (rep_int.mpr ⟨_, rfl⟩))
theorem op_lt_int (i j : Int) : Op prog w B A l own (t2 (compareOp .Lt)) [.int i, .int j] (dBool (decide (i < j))) := .two fun s g v₁ v₂ Q E S r₁ r₂ k => by
  obtain ⟨t, rfl⟩ := rep_int.mp r₁
  obtain ⟨u, rfl⟩ := rep_int.mp r₂
  exact PyProof.Rows.lt_int (k _ s g (.refl S.gh) (.refl s) (rep_val.mpr rfl))
theorem op_gt_int (i j : Int) : Op prog w B A l own (t2 (compareOp .Gt)) [.int i, .int j] (dBool (decide (j < i))) := .two fun s g v₁ v₂ Q E S r₁ r₂ k => by
  obtain ⟨t, rfl⟩ := rep_int.mp r₁
  obtain ⟨u, rfl⟩ := rep_int.mp r₂
  exact PyProof.Rows.gt_int (k _ s g (.refl S.gh) (.refl s) (rep_val.mpr rfl))
theorem op_neg_int (i : Int) : Op prog w B A l own (t1 (unaryOp .USub)) [.int i] (.int (-i)) := .one fun s g v₁ Q E S r₁ k => by
  obtain ⟨t, rfl⟩ := rep_int.mp r₁
  exact PyProof.Rows.neg_int (k _ { s with toks := s.toks + 1 } g (.refl S.gh) ⟨rfl, rfl, rfl⟩ (rep_int.mpr ⟨_, rfl⟩))

/-! lists -/
theorem op_add_lst (ds es : List D) (hsz : ds.length + es.length ≤ sizeLine) : Op prog w B A l own (t2 (binaryOp .Add)) [.lst ds, .lst es] (.lst (ds ++ es)) := .two fun s g v₁ v₂ Q E S r₁ r₂ k => by
  obtain ⟨a, vs, rfl, la, ra⟩ := rep_lst.mp r₁
  obtain ⟨b, ws, rfl, lb, rb⟩ := rep_lst.mp r₂
  obtain ⟨⟨cls, dd, data, sl⟩, ho, hc, n, hd⟩ := stays_isList S.gh la.isList
  obtain ⟨⟨cls2, dd2, data2, sl2⟩, ho2, hc2, n2, hd2⟩ := stays_isList S.gh lb.isList
  simp only at hc hd hc2 hd2
  subst hc hd hc2 hd2
  refine concat_meets ⟨_, ho, rfl⟩ ⟨_, ho2, rfl⟩ noFill_list_add seq_list_add PySem.F.slot_list_add PySem.F.entry_list_add (PySem.F.args_list_add_2 _ _) (list_addW a b vs.toArray ws.toArray n n2 dd dd2 sl sl2 (by simpa [ra.length, rb.length] using hsz)) ⟨ho, ho2, ?_⟩
  have e : vs.toArray ++ ws.toArray = (vs ++ ws).toArray := by simp
  rw [e]
  obtain ⟨G, R⟩ := grow_list (fr := l.filterMap (·.frame)) S.gh (ra.append rb) { cls := .type "list", data := .seq (vs ++ ws).toArray } rfl
  exact k _ { s with heap := s.heap.push { cls := .type "list", data := .seq (vs ++ ws).toArray } } _ G ⟨rfl, rfl, rfl⟩ R

/-- the shape of a plain subscript -/
noncomputable def SubForm (slice : Expr) : Prop := ∀ o i, ∃ ops, subscripted slice false o i = operate ops (getItem o i)
theorem op_item_lst {value slice : Expr} (ds : List D) (i : Int) {d : D} (h0 : 0 ≤ i) (h1 : i < 2 ^ 63) (hx : ds[i.toNat]? = some d) (hs : SubForm slice) : Op prog w B A l own (t2 (subscriptTail value slice)) [.lst ds, .int i] d := .two fun s g v₁ v₂ Q E S r₁ r₂ k => by
  obtain ⟨a, vs, rfl, la, ra⟩ := rep_lst.mp r₁
  obtain ⟨t, rfl⟩ := rep_int.mp r₂
  obtain ⟨v, hv, hr⟩ := ra.get hx
  obtain ⟨ops, ho⟩ := hs (.ref a) (.int i t)
  have L := stays_isList S.gh la.isList
  exact tail_any L.typeIs slot_list_getitem.lookup (wpAny_getItem_list L h0 h1 (by simpa using hv) (k _ s g (.refl S.gh) (.refl s) hr)) ho
theorem op_last_lst {value slice : Expr} (ds : List D) {d : D} (hx : ds.getLast? = some d) (hs : SubForm slice) : Op prog w B A l own (t2 (subscriptTail value slice)) [.lst ds, .int (-1)] d := .two fun s g v₁ v₂ Q E S r₁ r₂ k => by
  obtain ⟨a, vs, rfl, la, ra⟩ := rep_lst.mp r₁
  obtain ⟨t, rfl⟩ := rep_int.mp r₂
  have hne : ds ≠ [] := fun e => by subst e; simp at hx
  have hpos : 0 < ds.length := List.length_pos_iff.mpr hne
  obtain ⟨v, hv, hr⟩ := ra.get (k := ds.length - 1) (by rw [← List.getLast?_eq_getElem?]; exact hx)
  obtain ⟨ops, ho⟩ := hs (.ref a) (.int (-1) t)
  have L := stays_isList S.gh la.isList
  have e : ((-1 : Int) + (vs.toArray.size : Int)).toNat = ds.length - 1 := by simp only [List.size_toArray, ra.length]; omega
  exact tail_any L.typeIs slot_list_getitem.lookup (wpAny_getItem_list_neg L (by exact Int.natCast_nonneg _) (by simp only [List.size_toArray, ra.length]; omega) (by exact Int.natCast_nonneg _) (by rw [e]; simpa using hv) (k _ s g (.refl S.gh) (.refl s) hr)) ho
theorem op_item_tup {value slice : Expr} (ds : List D) (i : Int) {d : D} (h0 : 0 ≤ i) (h1 : i < 2 ^ 63) (hx : ds[i.toNat]? = some d) (hs : SubForm slice) : Op prog w B A l own (t2 (subscriptTail value slice)) [.tup ds, .int i] d := .two fun s g v₁ v₂ Q E S r₁ r₂ k => by
  obtain ⟨a, vs, rfl, la, ra⟩ := rep_tup.mp r₁
  obtain ⟨t, rfl⟩ := rep_int.mp r₂
  obtain ⟨v, hv, hr⟩ := ra.get hx
  obtain ⟨ops, ho⟩ := hs (.ref a) (.int i t)
  have L : IsTup s.heap a vs.toArray := stays_isTuple S.gh la
  have hlt : i.toNat < vs.length := (List.getElem?_eq_some_iff.mp hv).1
  exact tail_any L.typeIs slot_tuple_getitem.lookup (PyProof.Rows.getItem_tuple L (by omega) h1 (seqIndex_of h0 (by simp only [List.size_toArray]; omega)) (by simpa using hv) (k _ s g (.refl S.gh) (.refl s) hr)) ho
/-- an item of a list that may still change -/
theorem op_item_own {value slice : Expr} {a : Addr} {ds : List D} (ho : (a, ds) ∈ own) (i : Int) {d : D} (h0 : 0 ≤ i) (h1 : i < 2 ^ 63) (hx : ds[i.toNat]? = some d) (hs : SubForm slice) : Op prog w B A l own (t2 (subscriptTail value slice)) [.val (.ref a), .int i] d := .two fun s g v₁ v₂ Q E S r₁ r₂ k => by
  rw [rep_val.mp r₁]
  obtain ⟨t, rfl⟩ := rep_int.mp r₂
  obtain ⟨_, vs, L', ra⟩ := S.own _ ho
  have L := L'.isList
  obtain ⟨v, hv, hr⟩ := ra.get hx
  obtain ⟨ops, ho⟩ := hs (.ref a) (.int i t)
  exact tail_any L.typeIs slot_list_getitem.lookup (wpAny_getItem_list L h0 h1 (by simpa using hv) (k _ s g (.refl S.gh) (.refl s) hr)) ho
theorem op_last_own {value slice : Expr} {a : Addr} {ds : List D} (ho : (a, ds) ∈ own) {d : D} (hx : ds.getLast? = some d) (hs : SubForm slice) : Op prog w B A l own (t2 (subscriptTail value slice)) [.val (.ref a), .int (-1)] d := .two fun s g v₁ v₂ Q E S r₁ r₂ k => by
  rw [rep_val.mp r₁]
  obtain ⟨t, rfl⟩ := rep_int.mp r₂
  obtain ⟨_, vs, L', ra⟩ := S.own _ ho
  have L := L'.isList
  have hne : ds ≠ [] := fun e => by subst e; simp at hx
  have hpos : 0 < ds.length := List.length_pos_iff.mpr hne
  have ra' : RepAll g ds vs := ra
  obtain ⟨v, hv, hr⟩ := ra'.get (k := ds.length - 1) (by rw [← List.getLast?_eq_getElem?]; exact hx)
  obtain ⟨ops, ho⟩ := hs (.ref a) (.int (-1) t)
  have e : ((-1 : Int) + (vs.toArray.size : Int)).toNat = ds.length - 1 := by simp only [List.size_toArray, ra'.length]; omega
  exact tail_any L.typeIs slot_list_getitem.lookup (wpAny_getItem_list_neg L (by exact Int.natCast_nonneg _) (by simp only [List.size_toArray, ra'.length]; omega) (by exact Int.natCast_nonneg _) (by rw [e]; simpa using hv) (k _ s g (.refl S.gh) (.refl s) hr)) ho

/-! len -/
theorem op_len_lst (ds : List D) (h : ds.length < 2 ^ 63) : Op prog w B A l own (fun vs => call (.builtin "len") vs) [.lst ds] (.int ds.length) := fun s g vs Q E S R k => by
  obtain ⟨v, r, rfl, r₁, r'⟩ := repAll_cons.mp R
  rw [repAll_nil.mp r']
  obtain ⟨a, vs, rfl, la, ra⟩ := rep_lst.mp r₁
  have L := stays_isList S.gh la.isList
  refine PyProof.Rows.len_list L (by simp only [List.size_toArray, ra.length]; exact Om.lt_i ‹_› rfl) (k _ { s with toks := s.toks + 1 + 1 } g (.refl S.gh) ⟨rfl, rfl, rfl⟩ (rep_int.mpr ⟨s.toks + 1, by simp only [List.size_toArray, ra.length]⟩))
theorem op_len_own {a : Addr} {ds : List D} (ho : (a, ds) ∈ own) (h : ds.length < 2 ^ 63) : Op prog w B A l own (fun vs => call (.builtin "len") vs) [.val (.ref a)] (.int ds.length) := fun s g vs Q E S R k => by
  obtain ⟨v, r, rfl, r₁, r'⟩ := repAll_cons.mp R
  rw [repAll_nil.mp r', rep_val.mp r₁]
  obtain ⟨_, vs, L', ra⟩ := S.own _ ho
  have L := L'.isList
  have ra' : RepAll g ds vs := ra
  refine PyProof.Rows.len_list L (by simp only [List.size_toArray, ra'.length]; exact Om.lt_i ‹_› rfl) (k _ { s with toks := s.toks + 1 + 1 } g (.refl S.gh) ⟨rfl, rfl, rfl⟩ (rep_int.mpr ⟨s.toks + 1, by simp only [List.size_toArray, ra'.length]⟩))
end
end Mine
end
section
open PySem PySem.W PyProof.Rows
set_option maxRecDepth 10000
set_option linter.unusedVariables false
namespace Mine

/-- as Ext, but for the places X -/
noncomputable def ExtX (X : Addr → Prop) (fr : List Addr) (h h' : Heap) : Prop := ∀ b o, h.get? b = some o → ¬ X b → ∃ sl, h'.get? b = some { o with slots := sl } ∧ (b ∉ fr → sl = o.slots)
structure GrowX (X : Addr → Prop) (fr : List Addr) (g h g' h' : Heap) : Prop where
  ext : ExtX X fr h h'
  gg : g.StaysIn g'
  gh : g'.StaysIn h'
  new : ∀ b, h.get? b ≠ none → g'.get? b ≠ none → g.get? b ≠ none ∨ X b
theorem ne_of_some {h : Heap} {b : Addr} {o : Obj} (e : h.get? b = some o) : h.get? b ≠ none := by rw [e]; exact fun w => by cases w
theorem some_of_ne {h : Heap} {b : Addr} (e : h.get? b ≠ none) : ∃ o, h.get? b = some o := by
  cases q : h.get? b with
  | none => exact absurd q e
  | some o => exact ⟨o, rfl⟩
theorem ExtX.of {X : Addr → Prop} {fr : List Addr} {h h' : Heap} (x : Ext fr h h') : ExtX X fr h h' := fun b o e _ => x b o e
theorem ExtX.mono {X Y : Addr → Prop} {fr : List Addr} {h h' : Heap} (x : ExtX X fr h h') (m : ∀ b, h.get? b ≠ none → X b → Y b) : ExtX Y fr h h' := fun b o e n => x b o e fun q => n (m b (ne_of_some e) q)
theorem ExtX.trans {X Y : Addr → Prop} {fr : List Addr} {h₁ h₂ h₃ : Heap} (x : ExtX X fr h₁ h₂) (y : ExtX Y fr h₂ h₃) (m : ∀ b, h₁.get? b ≠ none → Y b → X b) : ExtX X fr h₁ h₃ := fun b o e n => by
  obtain ⟨sl, e₁, q₁⟩ := x b o e n
  obtain ⟨sl', e₂, q₂⟩ := y b _ e₁ fun z => n (m b (ne_of_some e) z)
  exact ⟨sl', e₂, fun z => (q₂ z).trans (q₁ z)⟩
theorem ExtX.keep {X : Addr → Prop} {fr : List Addr} {h h' : Heap} (x : ExtX X fr h h') {b : Addr} {o : Obj} (e : h.get? b = some o) (n : ¬ X b) (nf : b ∉ fr) : h'.get? b = some o := by
  obtain ⟨sl, e', q⟩ := x b o e n
  rw [q nf] at e'; exact e'
theorem ExtX.sameBut {a : Addr} {fr : List Addr} {h h' : Heap} (x : Heap.SameBut a h h') : ExtX (· = a) fr h h' := fun b o e n => ⟨o.slots, (x.2 b n).trans e, fun _ => rfl⟩
theorem GrowX.trans {X Y : Addr → Prop} {fr : List Addr} {g h g' h' g'' h'' : Heap} (x : GrowX X fr g h g' h') (y : GrowX Y fr g' h' g'' h'') (m : ∀ b, h.get? b ≠ none → Y b → X b) : GrowX X fr g h g'' h'' :=
  ⟨x.ext.trans y.ext m, stays_trans x.gg y.gg, y.gh, fun b e e' => by
    by_cases hX : X b
    · exact .inr hX
    · rcases y.new b (by obtain ⟨o, ho⟩ := some_of_ne e; obtain ⟨sl, q, _⟩ := x.ext b o ho hX; exact ne_of_some q) e' with q | q
      · exact x.new b e q
      · exact .inr (m b e q)⟩
theorem GrowX.mono {X Y : Addr → Prop} {fr : List Addr} {g h g' h' : Heap} (x : GrowX X fr g h g' h') (m : ∀ b, h.get? b ≠ none → X b → Y b) : GrowX Y fr g h g' h' :=
  ⟨x.ext.mono m, x.gg, x.gh, fun b e e' => (x.new b e e').imp id (m b e)⟩
theorem Grow.toX {X : Addr → Prop} {fr : List Addr} {g h g' h' : Heap} (x : Grow fr g h g' h') : GrowX X fr g h g' h' :=
  ⟨.of x.ext, x.gg, x.gh, fun b e e' => .inl (x.new b e e')⟩
theorem GrowX.toGrow {fr : List Addr} {g h g' h' : Heap} (x : GrowX (fun _ => False) fr g h g' h') : Grow fr g h g' h' :=
  ⟨fun b o e => x.ext b o e id, x.gg, x.gh, fun b e e' => (x.new b e e').elim id False.elim⟩
/-- changes of new things alone -/
theorem GrowX.fresh {X : Addr → Prop} {fr : List Addr} {g h g' h' : Heap} (x : GrowX X fr g h g' h') (n : ∀ b, X b → h.get? b = none) : Grow fr g h g' h' :=
  (x.mono (Y := fun _ => False) fun b e q => e (n b q)).toGrow
/-- one object changed, nothing frozen anew -/
theorem GrowX.one {a : Addr} {fr : List Addr} {g h h' : Heap} (k : g.StaysIn h) (ha : g.get? a = none) (x : Heap.SameBut a h h') : GrowX (· = a) fr g h g h' :=
  ⟨.sameBut x, stays_refl _, fun b o q => by
    have : b ≠ a := fun z => by rw [z, ha] at q; cases q
    rw [x.2 b this]; exact k b o q, fun _ _ q => .inl q⟩

noncomputable def Act.mu (a : Act) (b : Addr) : Prop := b = a.env.locals ∨ b ∈ a.mc
noncomputable def Mu (a : Act) (own : Owns) (b : Addr) : Prop := a.mu b ∨ ∃ p ∈ own, p.1 = b

section
variable {B : Heap} {a : Act} {σ : Vars} {own : Owns} {g h g' h' : Heap}
theorem lookup_cons_self {x : Str} {d : D} {σ : Vars} : List.lookup x ((x, d) :: σ) = some d := by rw [List.lookup_cons, beq_self_eq_true]
theorem lookup_cons_ne {x y : Str} {d : D} {σ : Vars} (n : x ≠ y) : List.lookup x ((y, d) :: σ) = σ.lookup x := by
  have : (x == y) = false := by simpa using n
  rw [List.lookup_cons, this]

theorem FunFrames.but {a : Addr} {h h' base : Heap} {l : List Env} (f : h.FunFrames base l) (x : Heap.SameBut a h h') (e : ∀ o, h.get? a = some o → (∀ vs, o.data ≠ .fields vs) → ∃ o', h'.get? a = some o' ∧ ∀ vs, o'.data ≠ .fields vs) : h'.FunFrames base l := by
  induction l with
  | nil => trivial
  | cons env r ih =>
    obtain ⟨hk, ⟨L, o, hf, hn, ho, hd⟩, hr⟩ := f
    refine ⟨hk, ?_, ih hr⟩
    by_cases hL : L = a
    · subst hL
      obtain ⟨o', ho', hd'⟩ := e o ho hd
      exact ⟨L, o', hf, hn, ho', hd'⟩
    · exact ⟨L, o, hf, hn, (x.2 L hL).trans ho, hd⟩
theorem isList_isCell {a b : Addr} {xs : Array Value} {v : Option Value} (l : h.IsList a xs) (c : h.IsCell b v) : a ≠ b := by
  rintro rfl
  obtain ⟨o, ho, _, n, hd⟩ := l
  obtain ⟨o', ho', hd'⟩ := c
  rw [ho] at ho'; cases ho'; rw [hd] at hd'; cases hd'
theorem ns_isCell {a b : Addr} {m : Str → Option Value} {v : Option Value} (l : h.Ns a m) (c : h.IsCell b v) : a ≠ b := by
  rintro rfl
  obtain ⟨o, es, ep, ho, hd, _⟩ := l
  obtain ⟨o', ho', hd'⟩ := c
  rw [ho] at ho'; cases ho'; rw [hd] at hd'; cases hd'
theorem ns_isList {a b : Addr} {m : Str → Option Value} {xs : Array Value} (l : h.Ns a m) (c : h.IsList b xs) : a ≠ b := by
  rintro rfl
  obtain ⟨o, es, ep, ho, hd, _⟩ := l
  obtain ⟨o', ho', _, n, hd'⟩ := c
  rw [ho] at ho'; cases ho'; rw [hd] at hd'; cases hd'

/-- a name of the frame's stored -/
theorem Sv.local (S : Sv B a σ own g h) {x : Str} {d : D} {v : Value} {m : Str → Option Value} (hk : a.env.kindOf x = some .local) (hm : h.Ns a.env.locals m)
    (hn : h'.Ns a.env.locals (fun y => if y = x then some v else m y)) (hs : Heap.SameBut a.env.locals h h') (r : Rep g d v) : Sv B a ((x, d) :: σ) own g h' := by
  obtain ⟨m', hn', hv⟩ := S.ns
  have em : m' = m := by
    obtain ⟨o, es, ep, ho, hd, _, q⟩ := hn'
    obtain ⟨o', es', ep', ho', hd', _, q'⟩ := hm
    rw [ho] at ho'; cases ho'; rw [hd] at hd'; cases hd'
    funext y; rw [← q y, ← q' y]
  subst em
  refine ⟨⟨S.bg, fun b o e => ?_, FunFrames.but S.ff hs (fun o _ _ => ?_), S.fg, fun p hp => ?_⟩, ⟨_, hn, fun y e hy hyk => ?_⟩, fun y e hy hyk => ?_, fun p hp => ?_, S.cnd, S.lg, S.mcs⟩
  · have : b ≠ a.env.locals := fun z => by rw [z, S.lg] at e; cases e
    rw [hs.2 b this]; exact S.gh b o e
  · obtain ⟨o', es, ep, ho', hd', _⟩ := hn
    exact ⟨o', ho', fun vs q => by rw [hd'] at q; cases q⟩
  · obtain ⟨h1, vs, h2, h3⟩ := S.own p hp
    exact ⟨h1, vs, h2.at fun o e => (hs.2 _ (Ne.symm (ns_isList hn' h2.isList))).trans e, h3⟩
  · by_cases hyx : y = x
    · subst hyx
      rw [lookup_cons_self] at hy; cases hy
      exact ⟨v, by simp, r⟩
    · rw [lookup_cons_ne hyx] at hy
      obtain ⟨u, h1, h2⟩ := hv y e hy hyk
      exact ⟨u, by simpa [hyx] using h1, h2⟩
  · have hyx : y ≠ x := fun z => hyk (z ▸ hk)
    rw [lookup_cons_ne hyx] at hy
    obtain ⟨c, u, h1, h2, h3⟩ := S.cl y e hy hyk
    exact ⟨c, u, h1, h2.sameBut hs (Ne.symm (ns_isCell hn' h2)), h3⟩
  · obtain ⟨⟨u, h1⟩, h2⟩ := S.cells p hp
    exact ⟨⟨u, h1.sameBut hs (Ne.symm (ns_isCell hn' h1))⟩, h2⟩
/-- a cell stored -/
theorem Sv.cell (S : Sv B a σ own g h) {x : Str} {d : D} {v : Value} {c : Addr} (hk : a.env.kindOf x = some .cell) (hc : a.env.cells.lookup x = some c)
    (hn : h'.IsCell c (some v)) (hs : Heap.SameBut c h h') (r : Rep g d v) : Sv B a ((x, d) :: σ) own g h' := by
  obtain ⟨m', hn', hv⟩ := S.ns
  obtain ⟨⟨u₀, hc₀⟩, hcg⟩ := S.cells _ (mem_of_lookup hc)
  refine ⟨⟨S.bg, fun b o e => ?_, FunFrames.but S.ff hs (fun o _ _ => ?_), S.fg, fun p hp => ?_⟩, ⟨_, hn'.sameBut hs (ns_isCell hn' hc₀), fun y e hy hyk => ?_⟩, fun y e hy hyk => ?_, fun p hp => ?_, S.cnd, S.lg, S.mcs⟩
  · have : b ≠ c := fun z => by rw [z, hcg] at e; cases e
    rw [hs.2 b this]; exact S.gh b o e
  · obtain ⟨o', ho', hd'⟩ := hn
    exact ⟨o', ho', fun vs q => by rw [hd'] at q; cases q⟩
  · obtain ⟨h1, vs, h2, h3⟩ := S.own p hp
    exact ⟨h1, vs, h2.at fun o e => (hs.2 _ (isList_isCell h2.isList hc₀)).trans e, h3⟩
  · have hyx : y ≠ x := fun z => by rw [z, hk] at hyk; cases hyk
    rw [lookup_cons_ne hyx] at hy
    exact hv y e hy hyk
  · by_cases hyx : y = x
    · subst hyx
      rw [lookup_cons_self] at hy; cases hy
      exact ⟨c, v, hc, hn, r⟩
    · rw [lookup_cons_ne hyx] at hy
      obtain ⟨c', u, h1, h2, h3⟩ := S.cl y e hy hyk
      exact ⟨c', u, h1, h2.sameBut hs fun z => hyx (name_of_addr S.cnd (mem_of_lookup h1) (z ▸ mem_of_lookup hc)), h3⟩
  · by_cases hpc : p.2 = c
    · exact ⟨⟨some v, hpc ▸ hn⟩, (S.cells p hp).2⟩
    · obtain ⟨⟨u, h1⟩, h2⟩ := S.cells p hp
      exact ⟨⟨u, h1.sameBut hs hpc⟩, h2⟩
/-- fewer names told, fewer lists told -/
theorem Sv.weaken {σ' : Vars} {own' : Owns} (S : Sv B a σ own g h) (hσ : ∀ x d, σ'.lookup x = some d → σ.lookup x = some d) (ho : ∀ p ∈ own', p ∈ own) : Sv B a σ' own' g h := by
  obtain ⟨m, hn, hv⟩ := S.ns
  exact ⟨⟨S.bg, S.gh, S.ff, fun f hf => ⟨(S.fg f hf).1, fun p hp => (S.fg f hf).2 p (ho p hp)⟩, fun p hp => S.own p (ho p hp)⟩, ⟨m, hn, fun x d e => hv x d (hσ x d e)⟩, fun x d e => S.cl x d (hσ x d e), S.cells, S.cnd, S.lg, S.mcs⟩
end

section
variable {prog : Program} {w : World} {B : Heap} {a : Act} {σ : Vars} {own : Owns} {n : Nat}
/-- a target takes a value -/
noncomputable def Tg (prog : Program) (w : World) (B : Heap) (a : Act) (σ : Vars) (own : Owns) (t : Expr) (d : D) (σ' : Vars) : Prop :=
  ∀ (s : Shared) (g : Heap) (v : Value) (Q : Unit → Shared → Prop) (E : Value → Shared → Prop), Sv B a σ own g s.heap → Rep g d v →
    (∀ s', Sv B a σ' own g s'.heap → GrowX a.mu a.fr g s.heap g s'.heap → Same s s' → Q () s') → wpAny (model prog w) a.A (assign t a.env v) Q E s

theorem storeName_l (ok : a.Ok n) {x : Str} {d : D} (hk : a.env.kindOf x = some .local) {s : Shared} {g : Heap} {v : Value} {Q : Unit → Shared → Prop} {E : Value → Shared → Prop} (S : Sv B a σ own g s.heap) (r : Rep g d v)
    (k : ∀ s', Sv B a ((x, d) :: σ) own g s'.heap → GrowX a.mu a.fr g s.heap g s'.heap → Same s s' → Q () s') : wpAny (model prog w) a.A (storeName a.env x v) Q E s := by
  obtain ⟨m, hn, hv⟩ := S.ns
  refine wpAny_storeName_local hk hn (fun h' hn' hs' => ?_) (by rw [ok.kind]; rfl)
  exact k { s with heap := h', toks := s.toks + 1 } (S.local hk hn hn' hs' r) ((GrowX.one S.gh S.lg hs').mono fun b _ e => .inl e) ⟨rfl, rfl, rfl⟩
theorem storeName_c (ok : a.Ok n) {x : Str} {d : D} {c : Addr} (hk : a.env.kindOf x = some .cell) (hc : a.env.cells.lookup x = some c) (hm : c ∈ a.mc) {s : Shared} {g : Heap} {v : Value} {Q : Unit → Shared → Prop} {E : Value → Shared → Prop} (S : Sv B a σ own g s.heap) (r : Rep g d v)
    (k : ∀ s', Sv B a ((x, d) :: σ) own g s'.heap → GrowX a.mu a.fr g s.heap g s'.heap → Same s s' → Q () s') : wpAny (model prog w) a.A (storeName a.env x v) Q E s := by
  obtain ⟨⟨u₀, hc₀⟩, hcg⟩ := S.cells _ (mem_of_lookup hc)
  refine wpAny_storeName_cell ok.kind hk hc hc₀ fun h' hn' hs' => ?_
  exact k { s with heap := h' } (S.cell hk hc hn' hs' r) ((GrowX.one S.gh hcg hs').mono fun b _ e => .inr (e ▸ hm)) ⟨rfl, rfl, rfl⟩
theorem tg_local (ok : a.Ok n) {x : Str} {p : Pos} {d : D} (hk : a.env.kindOf x = some .local) : Tg prog w B a σ own (.Name x p) d ((x, d) :: σ) := fun s g v Q E S r k =>
  wpAny_assign_Name (storeName_l ok hk S r k)
theorem tg_cell (ok : a.Ok n) {x : Str} {p : Pos} {d : D} {c : Addr} (hk : a.env.kindOf x = some .cell) (hc : a.env.cells.lookup x = some c) (hm : c ∈ a.mc) : Tg prog w B a σ own (.Name x p) d ((x, d) :: σ) := fun s g v Q E S r k =>
  wpAny_assign_Name (storeName_c ok hk hc hm S r k)
end
end Mine
end
section
open PySem PySem.W PyProof.Rows
set_option maxRecDepth 10000
set_option linter.unusedVariables false
namespace Mine

section
variable {B : Heap} {a : Act} {σ : Vars} {own : Owns} {g h g' h' : Heap}
/-- a change at a place that no part of the state names -/
theorem Sv.other {I : Addr} (S : Sv B a σ own g h) (x : ∀ b o, b ≠ I → h.get? b = some o → h'.get? b = some o) (hL : a.env.locals ≠ I) (hc : ∀ p ∈ a.env.cells, p.2 ≠ I) (ho : ∀ p ∈ own, p.1 ≠ I) (hf : I ∉ a.fr) (hg : g.get? I = none) : Sv B a σ own g h' := by
  obtain ⟨m, hn, hv⟩ := S.ns
  have up : ∀ b, b ≠ I → ∀ o, h.get? b = some o → h'.get? b = some o := fun b hb o e => x b o hb e
  have ff : ∀ (l : List Env), h.FunFrames B l → (∀ f ∈ l.filterMap (·.frame), f ≠ I) → h'.FunFrames B l := by
    intro l
    induction l with
    | nil => intro _ _; trivial
    | cons env r ih =>
      rintro ⟨hk, ⟨L, o, hf, hn, ho, hd⟩, hr⟩ hne
      have hL : L ≠ I := hne L (by rw [List.filterMap_cons, hf]; exact .head _)
      exact ⟨hk, ⟨L, o, hf, hn, up L hL o ho, hd⟩, ih hr fun f hf' => hne f (by rw [List.filterMap_cons, hf]; exact .tail _ hf')⟩
  refine ⟨⟨S.bg, fun b o e => ?_, ff _ S.ff fun f hf' z => hf (z ▸ hf'), S.fg, fun p hp => ?_⟩, ⟨m, ?_, hv⟩, fun y e hy hyk => ?_, fun p hp => ?_, S.cnd, S.lg, S.mcs⟩
  · exact up b (fun z => by rw [z, hg] at e; cases e) o (S.gh b o e)
  · obtain ⟨h1, vs, h2, h3⟩ := S.own p hp
    exact ⟨h1, vs, h2.at (up _ (ho p hp)), h3⟩
  · obtain ⟨o, es, ep, h1, r⟩ := hn
    exact ⟨o, es, ep, up _ hL o h1, r⟩
  · obtain ⟨c, v, h1, ⟨o, h2, h2'⟩, h3⟩ := S.cl y e hy hyk
    exact ⟨c, v, h1, ⟨o, up _ (hc _ (mem_of_lookup h1)) o h2, h2'⟩, h3⟩
  · obtain ⟨⟨v, ⟨o, h1, h1'⟩⟩, h2⟩ := S.cells p hp
    exact ⟨⟨v, ⟨o, up _ (hc p hp) o h1, h1'⟩⟩, h2⟩
end

section
variable {prog : Program} {w : World} {B : Heap} {a : Act} {σ : Vars} {own : Owns} {n : Nat}

noncomputable def ownedKinds : List String := ["enumerate", "zip", "dict_itemiterator", "dict_reverseitemiterator", "odict_iterator", "itertools.zip_longest", "itertools.pairwise"]
/-- an iterator that keeps no tuple of its own -/
noncomputable def PlainIt (h : Heap) (I : Addr) : Prop := ∃ o n, h.get? I = some o ∧ o.cls = .type n ∧ ownedKinds.contains n = false
theorem PlainIt.ne {h : Heap} {I : Addr} (x : PlainIt h I) : h.get? I ≠ none := by obtain ⟨o, n, e, _⟩ := x; exact ne_of_some e
theorem PlainIt.let {M : Model} {A : Around} {E : Value → Shared → Prop} {s : Shared} {I : Addr} {target : Expr} {v : Value} {Q : Unit → Shared → Prop} (x : PlainIt s.heap I) (h : Q () s) : wpAny M A (letOwnedTupleGo target (.ref I) v) Q E s := by
  obtain ⟨o, n, e, hc, hn⟩ := x
  have fin : ∀ (target : Expr), wpAny M A (do
      let (.ref r, .ref a) := (Value.ref I, v) | return
      let o ← load r
      match o.cls, o.data with
      | .type n, .fields vs =>
        if ["enumerate", "zip", "dict_itemiterator", "dict_reverseitemiterator", "odict_iterator", "itertools.zip_longest", "itertools.pairwise"].contains n && vs[0]? == some (rawInt a) then
          rule "for.unpacks-the-owned-tuple"
          updateField r 0 .none
      | _, _ => pure ()) Q E s := by
    intro _
    cases v with
    | ref b =>
      refine wpAny_bind (wpAny_load e ?_)
      rw [hc]
      have hn' : (["enumerate", "zip", "dict_itemiterator", "dict_reverseitemiterator", "odict_iterator", "itertools.zip_longest", "itertools.pairwise"] : List String).contains n = false := hn
      cases o.data with
      | fields vs => simp only [hn', Bool.false_and, Bool.false_eq_true, if_false]; exact wpAny_pure h
      | _ => exact wpAny_pure h
    | _ => exact wpAny_pure h
  cases target <;> first | exact wpAny_pure h | exact fin (.Constant .none 0 default)
/-- what a value gives when it is gone through -/
noncomputable def It (prog : Program) (w : World) (B : Heap) (A : Around) (l : List Env) (own : Owns) (d : D) (ds : List D) : Prop :=
  ∀ (s : Shared) (g : Heap) (v : Value) (Q E : Value → Shared → Prop), Sh B l own g s.heap → Rep g d v →
    (∀ I fp P St s', Walks prog w A I fp [I] ds.length P St → St 0 s'.heap → (∀ b ∈ fp, b = I ∨ (s.heap.get? b ≠ none ∧ b ∉ l.filterMap (·.frame) ∧ (g.get? b ≠ none ∨ ∃ p ∈ own, p.1 = b))) → s.heap.get? I = none → g.get? I = none →
      (∀ i v, P i v → ∃ d, ds[i]? = some d ∧ Rep g d v) → (∀ b o, s.heap.get? b = some o → s'.heap.get? b = some o) → (∀ i h, St i h → PlainIt h I) → Same s s' → Q (.ref I) s') → wpAny (model prog w) A (pyIter v) Q E s

variable {A : Around} {l : List Env}
theorem stays_none {g h : Heap} (k : g.StaysIn h) {b : Addr} (e : h.get? b = none) : g.get? b = none := by
  cases q : g.get? b with
  | none => rfl
  | some o => rw [k b o q] at e; cases e
theorem it_lst (hh : A.handled = none) (ds : List D) : It prog w B A l own (.lst ds) ds := fun s g v Q E S r k => by
  obtain ⟨x, vs, rfl, la, ra⟩ := rep_lst.mp r
  have L := stays_isList S.gh la.isList
  have hx : s.heap.get? x ≠ none := isList_ne L
  have hxg : g.get? x ≠ none := plain_ne la
  have hne : x ≠ s.heap.objs.size := fun e => hx (e ▸ get?_size_none _)
  refine wpAny_pyIter_list L ?_
  have W := Walks.list (prog := prog) (w := w) hh s.heap.objs.size x hne vs.toArray
  have hl : vs.toArray.size = ds.length := by simp [ra.length]
  rw [hl] at W
  refine k _ _ _ _ { s with heap := s.heap.push { cls := .type "list_iterator", data := .fields #[.ref x, .int 0 0] } } W ⟨⟨_, Heap.get?_push_size _ rfl, rfl, rfl⟩, L.push _⟩ (fun b hb => ?_) (get?_size_none _) (stays_none S.gh (get?_size_none _)) (fun i v hv => ?_) (fun b o e => Heap.get?_push_of_some _ e) (fun i h st => by obtain ⟨o, e, q, _⟩ := st.1; exact ⟨o, _, e, q, by decide⟩) ⟨rfl, rfl, rfl⟩
  · rcases List.mem_cons.mp hb with rfl | hb
    · exact .inl rfl
    · rw [List.mem_singleton.mp hb]
      exact .inr ⟨hx, fun hf => hxg (S.fg x hf).1, .inl hxg⟩
  · exact ra.get' (by simpa using hv)
theorem it_tup (hh : A.handled = none) (ds : List D) : It prog w B A l own (.tup ds) ds := fun s g v Q E S r k => by
  obtain ⟨x, vs, rfl, la, ra⟩ := rep_tup.mp r
  have L := stays_isTuple S.gh la
  have hx : s.heap.get? x ≠ none := by obtain ⟨o, e, _⟩ := L; exact ne_of_some e
  have hxg : g.get? x ≠ none := by obtain ⟨o, e, _⟩ := la; exact ne_of_some e
  have hne : x ≠ s.heap.objs.size := fun e => hx (e ▸ get?_size_none _)
  refine wpAny_pyIter_tuple L ?_
  have W := Walks.tuple (prog := prog) (w := w) hh s.heap.objs.size x hne vs.toArray
  have hl : vs.toArray.size = ds.length := by simp [ra.length]
  rw [hl] at W
  refine k _ _ _ _ { s with heap := s.heap.push { cls := .type "tuple_iterator", data := .fields #[.ref x, .int 0 0] } } W ⟨⟨_, Heap.get?_push_size _ rfl, rfl, rfl⟩, L.at fun o e => Heap.get?_push_of_some _ e⟩ (fun b hb => ?_) (get?_size_none _) (stays_none S.gh (get?_size_none _)) (fun i v hv => ?_) (fun b o e => Heap.get?_push_of_some _ e) (fun i h st => by obtain ⟨o, e, q, _⟩ := st.1; exact ⟨o, _, e, q, by decide⟩) ⟨rfl, rfl, rfl⟩
  · rcases List.mem_cons.mp hb with rfl | hb
    · exact .inl rfl
    · rw [List.mem_singleton.mp hb]
      exact .inr ⟨hx, fun hf => hxg (S.fg x hf).1, .inl hxg⟩
  · exact ra.get' (by simpa using hv)
theorem it_own (hh : A.handled = none) {x : Addr} {ds : List D} (ho : (x, ds) ∈ own) : It prog w B A l own (.val (.ref x)) ds := fun s g v Q E S r k => by
  rw [rep_val.mp r]
  obtain ⟨hg, vs, L, ra⟩ := S.own _ ho
  have L : s.heap.IsList x vs.toArray := L.isList
  have ra : RepAll g ds vs := ra
  have hx : s.heap.get? x ≠ none := isList_ne L
  have hne : x ≠ s.heap.objs.size := fun e => hx (e ▸ get?_size_none _)
  refine wpAny_pyIter_list L ?_
  have W := Walks.list (prog := prog) (w := w) hh s.heap.objs.size x hne vs.toArray
  have hl : vs.toArray.size = ds.length := by simp [ra.length]
  rw [hl] at W
  refine k _ _ _ _ { s with heap := s.heap.push { cls := .type "list_iterator", data := .fields #[.ref x, .int 0 0] } } W ⟨⟨_, Heap.get?_push_size _ rfl, rfl, rfl⟩, L.push _⟩ (fun b hb => ?_) (get?_size_none _) (stays_none S.gh (get?_size_none _)) (fun i v hv => ?_) (fun b o e => Heap.get?_push_of_some _ e) (fun i h st => by obtain ⟨o, e, q, _⟩ := st.1; exact ⟨o, _, e, q, by decide⟩) ⟨rfl, rfl, rfl⟩
  · rcases List.mem_cons.mp hb with rfl | hb
    · exact .inl rfl
    · rw [List.mem_singleton.mp hb]
      exact .inr ⟨hx, fun hf => (S.fg x hf).2 _ ho rfl, .inr ⟨_, ho, rfl⟩⟩
  · exact ra.get' (by simpa using hv)
noncomputable def rngs (x c : Int) (m : Nat) : List D := (List.range m).map fun (i : Nat) => D.int (x + (i : Int) * c)
theorem rngs_length (x c : Int) (m : Nat) : (rngs x c m).length = m := by simp [rngs]
theorem it_rng (hh : A.handled = none) {x y c : Int} {m : Nat} (hs : Builtin.Range.small x y c = true) (hz : Builtin.Range.rangeSize x y c = (m : Int)) : It prog w B A l own (.rng x y c) (rngs x c m) := fun s g v Q E S r k => by
  obtain ⟨q, t, u, z, rfl, R⟩ := rep_rng.mp r
  have R' : IsRange s.heap q x y c t u z := S.gh _ _ R
  refine wpAny_pyIter_range R' hs ?_
  have W := Walks.range (prog := prog) (w := w) hh s.heap.objs.size x c m
  refine k _ [s.heap.objs.size] (fun i v => i < m ∧ ∃ t, v = .int (x + (i : Int) * c) t) _ { s with heap := s.heap.push { cls := .type "range_iterator", data := .fields #[rawInt x, rawInt (Builtin.Range.rangeSize x y c), rawInt c] } } (by rw [rngs_length]; exact W.bound) ?_ (fun b hb => ?_) (get?_size_none _) (stays_none S.gh (get?_size_none _)) (fun i v hv => ?_) (fun b o e => Heap.get?_push_of_some _ e) (fun i h st => ⟨_, _, st, rfl, by decide⟩) ⟨rfl, rfl, rfl⟩
  · show IsRangeIter _ _ _ _ _
    rw [hz]
    simpa using Heap.get?_push_size _ rfl
  · exact .inl (List.mem_singleton.mp hb)
  · obtain ⟨hi, t, rfl⟩ := hv
    exact ⟨.int (x + (i : Int) * c), by unfold rngs; rw [List.getElem?_map, List.getElem?_range hi]; rfl, rep_int.mpr ⟨t, rfl⟩⟩
end
end Mine
end
section
open PySem PySem.W PyProof.Rows
set_option maxRecDepth 10000
set_option linter.unusedVariables false
namespace Mine

theorem cellsFrom_append : ∀ (names : List (Str × NameKind)) (n : Nat) (acc : List (Str × Addr)), cellsFrom n names acc = cellsFrom n names [] ++ acc
  | [], _, _ => rfl
  | (x, k) :: r, n, acc => by
    unfold cellsFrom
    split
    · rw [cellsFrom_append r (n + 1) ((x, n) :: acc), cellsFrom_append r (n + 1) [(x, n)], List.append_assoc]; rfl
    · exact cellsFrom_append r n acc

/-- the frame of a comprehension -/
noncomputable def cEnv (scope : Scope) (cl : List (Str × Addr)) (C : Addr) (env : Env) : Env := compEnvC scope (cellsFrom (C + 1) scope.names [] ++ cl) C env
noncomputable def cAct (a : Act) (scope : Scope) (cl : List (Str × Addr)) (C : Addr) : Act := { env := cEnv scope cl C a.env, A := a.A, l := a.l, mc := (cellsFrom (C + 1) scope.names []).map (·.2) }

section
variable {M : Model} {A : Around} {E : Value → Shared → Prop} {s : Shared} {env : Env} {scope : Scope} {cl : List (Str × Addr)}
theorem newEnv_comp {Q : Env → Shared → Prop} (hk : scope.kind = .function)
    (hQ : ∀ h', (∀ b o, s.heap.get? b = some o → h'.get? b = some o) → h'.Ns s.heap.objs.size (fun _ => none) → CellsOk h' (s.heap.objs.size + 1) (cellsFrom (s.heap.objs.size + 1) scope.names []) →
      Q (newEnv scope s.heap.objs.size env.globals (cellsFrom (s.heap.objs.size + 1) scope.names [] ++ cl) env.qual none .none (some env) builtinsNs) { s with heap := h' }) :
    wpAny M A (newFunctionEnv scope env.globals cl [] env.qual none .none (some env)) Q E s := by
  simp only [newFunctionEnv, Option.isSome_some, if_true]
  refine wpAny_bind (wpAny_alloc ?_)
  refine wpAny_bind (wpAny_layCells _ (fun name kind cells => by cases hkc : kind == NameKind.cell <;> simp [hkc]) _ _ _ _ ?_)
  have ok := cellsFrom_ok scope.names (s.heap.push { cls := .type "dict", data := .dict #[] }) (s.heap.objs.size + 1) [] ⟨fun _ _ hm => (nomatch hm), List.Pairwise.nil⟩ (by rw [Heap.size_push]; exact Nat.le_refl _)
  rw [Heap.size_push] at ok
  rw [show ({ s with heap := s.heap.push { cls := .type "dict", data := .dict #[] } } : Shared).heap.objs.size = s.heap.objs.size + 1 from Heap.size_push .., cellsFrom_append]
  refine wpAny_bind ?_
  rw [List.forIn_nil]
  refine wpAny_pure (wpAny_pure ?_)
  exact hQ _ (fun b o e => pushCells_keeps _ _ b o (Heap.get?_push_of_some _ e)) ((Heap.Ns.new s.heap (.type "dict")).keeps (pushCells_keeps _ _)) ok
end

theorem cellsOk_none {h : Heap} {lo : Nat} {cs : List (Str × Addr)} (x : CellsOk h lo cs) {p : Str × Addr} (hp : p ∈ cs) : h.IsCell p.2 none ∧ lo ≤ p.2 := x.empty p.1 p.2 hp

/-- the names of the outer frame that the comprehension sees -/
noncomputable def Vis (a c : Act) (σ σ₀ : Vars) : Prop := ∀ p ∈ σ₀, σ.lookup p.1 = some p.2 ∧ a.env.kindOf p.1 ≠ some .local ∧ c.env.kindOf p.1 ≠ some .local ∧ c.env.cells.lookup p.1 = a.env.cells.lookup p.1
theorem mem_of_lookupD : ∀ {l : Vars} {n : Str} {c : D}, l.lookup n = some c → (n, c) ∈ l := mem_of_lookup

section
variable {B : Heap} {a : Act} {σ σ₀ : Vars} {own : Owns} {g h h' : Heap} {scope : Scope} {cl : List (Str × Addr)} {C : Addr}
/-- the comprehension's own frame, new -/
theorem Sv.comp (S : Sv B a σ own g h) (up : ∀ b o, h.get? b = some o → h'.get? b = some o) (hC : h.get? C = none) (hC' : ∀ b, C < b → h.get? b = none) (hn : h'.Ns C (fun _ => none)) (hcs : CellsOk h' (C + 1) (cellsFrom (C + 1) scope.names []))
    (hcl : ∀ p ∈ cl, p ∈ a.env.cells) (hcd : cl.Pairwise fun x y => x.2 ≠ y.2) (hv : Vis a (cAct a scope cl C) σ σ₀) : Sv B (cAct a scope cl C) σ₀ own g h' := by
  have G : Grow a.fr g h g h' := Grow.plain S.gh up
  have S' := S.grow G
  refine ⟨S'.toSh, ⟨_, hn, fun x d hx hk => ?_⟩, fun x d hx hk => ?_, fun p hp => ?_, ?_, stays_none S.gh hC, fun b hb => ?_⟩
  · exact absurd hk (hv _ (mem_of_lookupD hx)).2.2.1
  · obtain ⟨h1, h2, h3, h4⟩ := hv _ (mem_of_lookupD hx)
    obtain ⟨c, v, q1, q2, q3⟩ := S'.cl x d h1 h2
    exact ⟨c, v, h4.trans q1, q2, q3⟩
  · rcases List.mem_append.mp hp with hp | hp
    · obtain ⟨q1, q2⟩ := cellsOk_none hcs hp
      refine ⟨⟨none, q1⟩, stays_none S.gh (hC' _ (Nat.lt_of_succ_le q2))⟩
    · exact S'.cells p (hcl p hp)
  · refine List.pairwise_append.mpr ⟨hcs.apart, hcd, fun x hx y hy e => ?_⟩
    have q := (cellsOk_none hcs hx).2
    obtain ⟨⟨v, o, h1, _⟩, _⟩ := S.cells y (hcl y hy)
    have := hC' x.2 (Nat.lt_of_succ_le q)
    rw [e, h1] at this; cases this
  · obtain ⟨p, hp, e⟩ := List.mem_map.mp hb
    exact ⟨p, List.mem_append.mpr (.inl hp), e⟩
end

section
variable {prog : Program} {w : World} {B : Heap} {a c : Act} {σ σ₀ : Vars} {own : Owns} {n : Nat}

/-- the tests of a clause: none or one -/
noncomputable def Ts (prog : Program) (w : World) (B : Heap) (a : Act) (σ : Vars) (own : Owns) (ifs : List Expr) (b : Bool) : Prop :=
  ∀ (s : Shared) (g : Heap) (Q : Bool → Shared → Prop) (E : Value → Shared → Prop), Sv B a σ own g s.heap →
    (∀ s' g', Grow a.fr g s.heap g' s'.heap → Same s s' → Q b s') →
    wpAny (model prog w) a.A (forIn ifs true fun c r => if r = true then do let ok ← isTrue c a.env (eval c a.env); pure (ForInStep.yield ok) else pure (ForInStep.yield r)) Q E s
theorem ts_nil : Ts prog w B a σ own [] true := fun s g Q E S k => wpAny_tests_nil (k s g (.refl S.gh) (.refl s))
theorem ts_one {e : Expr} {b : Bool} (h : Tr prog w B a σ own e b) : Ts prog w B a σ own [e] b := fun s g Q E S k => wpAny_tests_one (h s g _ _ S k)

/-- an expression that gives a list of its own, not yet frozen -/
noncomputable def EvF (prog : Program) (w : World) (B : Heap) (a : Act) (σ : Vars) (own : Owns) (e : Expr) (ds : List D) : Prop :=
  ∀ (s : Shared) (g : Heap) (Q E : Value → Shared → Prop), Sv B a σ own g s.heap →
    (∀ Z vs s' g', Grow a.fr g s.heap g' s'.heap → Same s s' → s.heap.get? Z = none → g'.get? Z = none → s'.heap.PlainList Z vs.toArray → RepAll g' ds vs → Q (.ref Z) s') → wpAny (model prog w) a.A (eval e a.env) Q E s
theorem grow_again {fr : List Addr} {g h g' h' : Heap} {Z : Addr} {vs : List Value} {ds : List D} (G : Grow fr g h g' h') (hD : h.get? Z = none) (hg : g'.get? Z = none) (L : h'.PlainList Z vs.toArray) (r : RepAll g' ds vs) :
    Grow fr g h (withObj g' h' Z) h' ∧ Rep (withObj g' h' Z) (.lst ds) (.ref Z) := by
  have gg : g'.StaysIn (withObj g' h' Z) := fun b o e => by
    rw [withObj_get G.gh]
    by_cases hb : b = Z
    · rw [hb, hg] at e; cases e
    · rw [if_neg hb]; exact e
  refine ⟨⟨G.ext, stays_trans G.gg gg, fun b o e => ?_, fun b e e' => ?_⟩, rep_lst.mpr ⟨Z, vs, rfl, withObj_plain G.gh L, r.mono gg⟩⟩
  · rw [withObj_get G.gh] at e
    by_cases hb : b = Z
    · rw [if_pos hb] at e; exact e
    · rw [if_neg hb] at e; exact G.gh b o e
  · rw [withObj_get G.gh] at e'
    by_cases hb : b = Z
    · subst hb; exact absurd hD e
    · rw [if_neg hb] at e'; exact G.new b e e'
theorem EvF.ev {e : Expr} {ds : List D} (h : EvF prog w B a σ own e ds) : Ev prog w B a σ own e (.lst ds) := fun s g Q E S k =>
  h s g _ _ S fun Z vs s' g' G S' hD hg L r => by
    obtain ⟨G', R⟩ := grow_again G hD hg L r
    exact k _ s' _ G' S' R

theorem GrowX.none {X : Addr → Prop} {fr : List Addr} {g h g' h' : Heap} (x : GrowX X fr g h g' h') {b : Addr} (e : h.get? b ≠ none) (q : g.get? b = none) (n : ¬ X b) : g'.get? b = none := by
  cases z : g'.get? b with
  | none => rfl
  | some o => exact ((x.new b e (ne_of_some z)).elim (fun y => absurd q y) fun y => absurd y n)

/-- the turn of a last clause -/
noncomputable def LastTurn (elt target iter : Expr) (ifs : List Expr) (gens : List Comprehension) (scope : Scope) (pos : Pos) (dep : Nat) : Prop :=
  ∀ it acc env, compTurn (.ListComp elt gens scope pos) dep it acc env = (standAt iter.pos >>= fun _ => pyNext it >>= fun r => match r with
      | none => pure (.done .next)
      | some v => letOwnedTupleGo target it v >>= fun _ => assign target env v >>= fun _ =>
        (forIn ifs true fun c r => if r = true then do let ok ← isTrue c env (eval c env); pure (ForInStep.yield ok) else pure (ForInStep.yield r)) >>= fun ok =>
          if ok = true then (eval elt env >>= fun x => call (.builtin "list.append") [acc, x] >>= fun _ => pure ()) >>= fun _ => again (.compLoop (.ListComp elt gens scope pos) dep it acc env)
          else again (.compLoop (.ListComp elt gens scope pos) dep it acc env))
theorem under_comp (A : Around) (elt : Expr) (gens : List Comprehension) (scope : Scope) (pos : Pos) (dep : Nat) (it acc : Value) (env : Env) : A.under (.compLoop (.ListComp elt gens scope pos) dep it acc env) = A := Around.under_of_weight rfl
set_option maxHeartbeats 1000000 in
/-- the loop of a comprehension's last clause, from a list already begun -/
theorem comp_last {elt target iter : Expr} {ifs : List Expr} {gens : List Comprehension} {scope : Scope} {pos : Pos} {dep : Nat} {I Z : Addr} {fp : List Addr} {ds ys₀ : List D} {P : Nat → Value → Prop} {St : Nat → Heap → Prop} {R : Result → Shared → Prop}
    (W : Walks prog w c.A I fp [I] ds.length P St) (σ' : D → Vars) (p : D → Bool) (f : D → D)
    (htur : LastTurn elt target iter ifs gens scope pos dep)
    (htg : ∀ d ∈ ds, Tg prog w B c σ₀ own target d (σ' d)) (hts : ∀ d ∈ ds, Ts prog w B c (σ' d) own ifs (p d)) (hel : ∀ d ∈ ds, p d = true → Ev prog w B c (σ' d) own elt (f d)) (hsub : ∀ d ∈ ds, ∀ x e, σ₀.lookup x = some e → (σ' d).lookup x = some e)
    {s : Shared} {g : Heap} {us : List Value} (S : Sv B c σ₀ own g s.heap) (hst : St 0 s.heap) (L : s.heap.PlainList Z us.toArray) (ru : RepAll g ys₀ us) (hgD : g.get? Z = none) (hgI : g.get? I = none)
    (hP : ∀ i v, P i v → ∃ d, ds[i]? = some d ∧ Rep g d v) (hStI : ∀ i h, St i h → PlainIt h I)
    (hIL : c.env.locals ≠ I) (hIc : ∀ q ∈ c.env.cells, q.2 ≠ I) (hIo : ∀ q ∈ own, q.1 ≠ I) (hIf : I ∉ c.fr) (hID : Z ≠ I)
    (hDL : c.env.locals ≠ Z) (hDc : ∀ q ∈ c.env.cells, q.2 ≠ Z) (hDo : ∀ q ∈ own, q.1 ≠ Z) (hDf : Z ∉ c.fr)
    (hfp : ∀ b ∈ fp, b ≠ Z ∧ b ∉ c.fr ∧ ¬ c.mu b) (hDm : ¬ c.mu Z) (hIm : ¬ c.mu I) (hsz : ys₀.length + ds.length ≤ sizeLine)
    (k : ∀ s' g' vs, Sv B c σ₀ own g' s'.heap → GrowX (fun b => c.mu b ∨ b = Z ∨ b = I) c.fr g s.heap g' s'.heap → Same s s' → s'.heap.PlainList Z vs.toArray → g'.get? Z = none → RepAll g' (ys₀ ++ (ds.filter p).map f) vs → R (.ok .next) s') :
    codeAny (model prog w) c.A (.compLoop (.ListComp elt gens scope pos) dep (.ref I) (.ref Z) c.env) R s := by
  refine codeAny_loop rfl (fun m s' => ∃ i g' vs, m = ds.length + 1 - i ∧ i ≤ ds.length ∧ Sv B c σ₀ own g' s'.heap ∧ St i s'.heap ∧ GrowX (fun b => c.mu b ∨ b = Z ∨ b = I) c.fr g s.heap g' s'.heap ∧ Same s s' ∧
    s'.heap.PlainList Z vs.toArray ∧ g'.get? Z = none ∧ g'.get? I = none ∧ RepAll g' (ys₀ ++ ((ds.take i).filter p).map f) vs) ?_ (ds.length + 1)
    ⟨0, g, us, rfl, Nat.zero_le _, S, hst, ⟨fun b o e _ => ⟨o.slots, e, fun _ => rfl⟩, stays_refl _, S.gh, fun _ _ e => .inl e⟩, .refl s, L, hgD, hgI, by simpa using ru⟩
  rintro m s₁ ⟨i, g₁, vs, rfl, hi, S₁, st₁, G₁, Sm₁, L₁, hg₁, hgI₁, r₁⟩
  rw [under_comp]
  show wpAny _ _ ((compTurn (.ListComp elt gens scope pos) dep (.ref I) (.ref Z) c.env).onRaise (fun x => do noteFrame x c.env; theTreesLotGoes x)) _ _ s₁
  rw [htur]
  refine wpAny_noted (wpAny_bind (wpAny_standAt (wpAny_bind ?_)))
  by_cases hlt : i < ds.length
  · refine W.item i s₁ _ _ hlt st₁ fun v h₂ tk hPv st₂ hk₂ => ?_
    have hk₂' : ∀ b o, b ≠ I → s₁.heap.get? b = some o → h₂.get? b = some o := fun b o hb e => hk₂ b o (by simpa using hb) e
    have S₂ : Sv B c σ₀ own g₁ h₂ := S₁.other hk₂' hIL hIc hIo hIf hgI₁
    have L₂ : h₂.PlainList Z vs.toArray := L₁.at fun o e => hk₂' Z o hID e
    obtain ⟨d, hd, hr⟩ := hP i v hPv
    have hdm : d ∈ ds := List.mem_of_getElem? hd
    have hr₁ := hr.mono G₁.gg
    refine wpAny_bind (PlainIt.let (s := { s₁ with heap := h₂, toks := tk }) (hStI _ _ st₂) ?_)
    refine wpAny_bind (htg d hdm { s₁ with heap := h₂, toks := tk } g₁ v _ _ S₂ hr₁ fun s₃ S₃ G₃ Sm₃ => ?_)
    have fpk : ∀ {h h' : Heap}, ExtX c.mu c.fr h h' → ∀ b ∈ fp, ∀ o, h.get? b = some o → h'.get? b = some o := fun x b hb o e => x.keep e (hfp b hb).2.2 (hfp b hb).2.1
    have st₃ : St (i + 1) s₃.heap := W.frame _ _ _ st₂ (fpk G₃.ext)
    have L₃ : s₃.heap.PlainList Z vs.toArray := L₂.at fun o e => G₃.ext.keep e hDm hDf
    refine wpAny_bind (hts d hdm s₃ g₁ _ _ S₃ fun s₄ g₄ G₄ Sm₄ => ?_)
    have S₄ := S₃.grow G₄
    have st₄ : St (i + 1) s₄.heap := W.frame _ _ _ st₃ (fpk (.of G₄.ext))
    have L₄ := L₃.at fun o e => G₄.ext.keep e hDf
    have hg₄ : g₄.get? Z = none := none_of_new G₄ (plain_ne L₃) hg₁
    have hIe₃ : s₃.heap.get? I ≠ none := (hStI _ _ st₃).ne
    have hgI₄ : g₄.get? I = none := none_of_new G₄ hIe₃ hgI₁
    have hIe₄ : s₄.heap.get? I ≠ none := (hStI _ _ st₄).ne
    have XI : GrowX (fun b => c.mu b ∨ b = Z ∨ b = I) c.fr g₁ s₁.heap g₁ h₂ := ⟨fun b o e nb => ⟨o.slots, hk₂' b o (fun z => nb (.inr (.inr z))) e, fun _ => rfl⟩, stays_refl _, S₂.gh, fun _ _ e => .inl e⟩
    have G₅ : GrowX (fun b => c.mu b ∨ b = Z ∨ b = I) c.fr g s.heap g₄ s₄.heap :=
      ((G₁.trans XI fun _ _ q => q).trans (G₃.mono (Y := fun b => c.mu b ∨ b = Z ∨ b = I) fun b _ q => .inl q) fun _ _ q => q).trans (G₄.toX (X := fun b => c.mu b ∨ b = Z ∨ b = I)) fun _ _ q => q
    have Sm₂ : Same s₁ { s₁ with heap := h₂, toks := tk } := ⟨rfl, rfl, rfl⟩
    have Sm₅ : Same s s₄ := ((Sm₁.trans Sm₂).trans Sm₃).trans Sm₄
    have htake : ds.take (i + 1) = ds.take i ++ [d] := by rw [List.take_add_one, hd]; rfl
    have r₄ := r₁.mono G₄.gg
    cases hp : p d with
    | false =>
      rw [if_neg (by decide)]
      refine wpAny_pure ⟨rfl, ds.length + 1 - (i + 1), by omega, i + 1, g₄, vs, rfl, hlt, S₄.weaken (hsub d hdm) fun _ q => q, st₄, G₅, Sm₅, L₄, hg₄, hgI₄, ?_⟩
      rw [htake, List.filter_append]
      simpa [hp] using r₄
    | true =>
      rw [if_pos rfl]
      refine wpAny_bind (wpAny_bind (hel d hdm hp s₄ g₄ _ _ S₄ fun x s₆ g₆ G₆ Sm₆ rx => ?_))
      have S₆ := S₄.grow G₆
      have st₆ : St (i + 1) s₆.heap := W.frame _ _ _ st₄ (fpk (.of G₆.ext))
      have L₆ := L₄.at fun o e => G₆.ext.keep e hDf
      have hg₆ : g₆.get? Z = none := none_of_new G₆ (plain_ne L₄) hg₄
      have hgI₆ : g₆.get? I = none := none_of_new G₆ hIe₄ hgI₄
      have hvs : vs.toArray.size ≤ sizeLine := by
        have e1 := r₁.length
        have e2 : ((ds.take i).filter p).length ≤ (ds.take i).length := List.length_filter_le _ _
        have e3 : (ds.take i).length ≤ ds.length := by rw [List.length_take]; exact Nat.min_le_right _ _
        simp only [List.length_append, List.length_map] at e1
        simp only [List.size_toArray]
        omega
      refine wpAny_bind (wpAny_list_append_plain (hsz := hvs) L₆ fun h₇ L₇ hs₇ => ?_)
      have S₇ : Sv B c (σ' d) own g₆ h₇ := S₆.other (fun b o hb e => (hs₇.2 b hb).trans e) hDL hDc hDo hDf hg₆
      refine wpAny_pure (wpAny_pure ⟨rfl, ds.length + 1 - (i + 1), by omega, i + 1, g₆, vs ++ [x], rfl, hlt, S₇.weaken (hsub d hdm) fun _ q => q, ?_, ?_, Sm₅.trans (Sm₆.trans ⟨rfl, rfl, rfl⟩), by simpa using L₇, hg₆, hgI₆, ?_⟩)
      · exact W.frame _ _ _ st₆ fun b hb o e => (hs₇.2 b (hfp b hb).1).trans e
      · exact (G₅.trans (G₆.toX (X := fun b => c.mu b ∨ b = Z ∨ b = I)) fun _ _ q => q).trans ((GrowX.one G₆.gh hg₆ hs₇).mono (Y := fun b => c.mu b ∨ b = Z ∨ b = I) fun b _ e => .inr (.inl e)) fun _ _ q => q
      · rw [htake, List.filter_append, List.map_append, ← List.append_assoc]
        have : ([d].filter p).map f = [f d] := by simp [hp]
        rw [this]
        exact (r₄.mono G₆.gg).append (.cons rx .nil)
  · have hin : i = ds.length := by exact Om.rc ‹_› ‹_›
    subst hin
    refine W.done s₁ _ _ st₁ fun h₂ tk hk₂ => ?_
    have hk₂' : ∀ b o, b ≠ I → s₁.heap.get? b = some o → h₂.get? b = some o := fun b o hb e => hk₂ b o (by simpa using hb) e
    have S₂ : Sv B c σ₀ own g₁ h₂ := S₁.other hk₂' hIL hIc hIo hIf hgI₁
    have L₂ : h₂.PlainList Z vs.toArray := L₁.at fun o e => hk₂' Z o hID e
    have XI : GrowX (fun b => c.mu b ∨ b = Z ∨ b = I) c.fr g₁ s₁.heap g₁ h₂ := ⟨fun b o e nb => ⟨o.slots, hk₂' b o (fun z => nb (.inr (.inr z))) e, fun _ => rfl⟩, stays_refl _, S₂.gh, fun _ _ e => .inl e⟩
    have Sm₂ : Same s₁ { s₁ with heap := h₂, toks := tk } := ⟨rfl, rfl, rfl⟩
    rw [List.take_length] at r₁
    exact wpAny_pure (k { s₁ with heap := h₂, toks := tk } g₁ vs S₂ (G₁.trans XI fun _ _ q => q) (Sm₁.trans Sm₂) L₂ hg₁ r₁)

theorem pw_of_mem {cells cl : List (Str × Addr)} (h : cells.Pairwise fun x y => x.2 ≠ y.2) (hm : ∀ p ∈ cl, p ∈ cells) (hn : (cl.map (·.1)).Nodup) : cl.Pairwise fun x y => x.2 ≠ y.2 := by
  induction cl with
  | nil => exact .nil
  | cons p r ih =>
    rw [List.map_cons, List.nodup_cons] at hn
    refine .cons (fun q hq e => hn.1 ?_) (ih (fun q hq => hm q (.tail _ hq)) hn.2)
    have := name_of_addr h (n := p.1) (n' := q.1) (c := p.2) (hm p (.head _)) (e ▸ hm q (.tail _ hq))
    rw [this]; exact List.mem_map_of_mem hq

/-- the closure of a comprehension -/
structure Clo (env : Env) (scope : Scope) (cl : List (Str × Addr)) : Prop where
  eq : closureFor scope env = pure cl
  mem : ∀ p ∈ cl, env.cells.lookup p.1 = some p.2
  nd : (cl.map (·.1)).Nodup
  kind : scope.kind = .function
  names : ∀ x ∈ scope.names, x.2 = .local → scope.names.lookup x.1 = some .local

theorem Act.Ok.comp (ok : a.Ok n) {scope : Scope} (hk : scope.kind = .function) (cl : List (Str × Addr)) (C : Addr) : (cAct a scope cl C).Ok n :=
  ⟨hk, ok.hand, ok.frames, ok.glob, ok.blt, ok.dep, ok.uni⟩

/-- what stands when a comprehension's loop begins -/
structure Begun (B : Heap) (a : Act) (scope : Scope) (cl : List (Str × Addr)) (σ₀ : Vars) (own : Owns) (g h₀ : Heap) (I Z C : Addr) (fp : List Addr) (h : Heap) : Prop where
  sv : Sv B (cAct a scope cl C) σ₀ own g h
  grow : Grow a.fr g h₀ g h
  list : h.PlainList Z (#[] : Array Value)
  gZ : g.get? Z = none
  gI : g.get? I = none
  hIL : (cAct a scope cl C).env.locals ≠ I
  hIc : ∀ q ∈ (cAct a scope cl C).env.cells, q.2 ≠ I
  hIo : ∀ q ∈ own, q.1 ≠ I
  hIf : I ∉ (cAct a scope cl C).fr
  hID : Z ≠ I
  hDL : (cAct a scope cl C).env.locals ≠ Z
  hDc : ∀ q ∈ (cAct a scope cl C).env.cells, q.2 ≠ Z
  hDo : ∀ q ∈ own, q.1 ≠ Z
  hDf : Z ∉ (cAct a scope cl C).fr
  hfp : ∀ b ∈ fp, b ≠ Z ∧ b ∉ (cAct a scope cl C).fr ∧ ¬ (cAct a scope cl C).mu b
  hDm : ¬ (cAct a scope cl C).mu Z
  hIm : ¬ (cAct a scope cl C).mu I
  newX : ∀ b, ((cAct a scope cl C).mu b ∨ b = Z ∨ b = I) → h₀.get? b = none
  hCZ : Z ≠ C
  hCI : I ≠ C
  hfe : ∀ b ∈ fp, b = I ∨ h₀.get? b ≠ none

set_option maxHeartbeats 1000000 in
/-- up to the loop's begin -/
theorem comp_begin {e : Expr} {elt : Expr} {scope : Scope} {pos ipos : Pos} {gc : Comprehension} {gs : List Comprehension} {cl : List (Str × Addr)} {use : Option (Value → Sem Unit)} {d : D} {ds : List D} {Q E : Value → Shared → Prop}
    (hgens : clausesOf e = gc :: gs) (hs : ∀ x, foldedSetIterable gc.iter a.env x = pure x) (hc : Clo a.env scope cl) (hit : Ev prog w B a σ own gc.iter d) (hI : It prog w B a.A a.l own d ds)
    (hvis : ∀ C, Vis a (cAct a scope cl C) σ σ₀) {s : Shared} {g : Heap} (S : Sv B a σ own g s.heap)
    (k : ∀ s₁ g₁ s₂ I Z C fp P St, Grow a.fr g s.heap g₁ s₁.heap → Same s s₁ → Sv B a σ own g₁ s₁.heap → Walks prog w a.A I fp [I] ds.length P St → St 0 s₂.heap → (∀ i v, P i v → ∃ d, ds[i]? = some d ∧ Rep g₁ d v) → (∀ i h, St i h → PlainIt h I) → Same s₁ s₂ →
      Begun B a scope cl σ₀ own g₁ s₁.heap I Z C fp s₂.heap → (∀ i, St i s₂.heap → ∀ (Q' : Value → Shared → Prop) (E' : Value → Shared → Prop), Q' (.ref I) s₂ → wpAny (model prog w) a.A (pyIter (.ref I)) Q' E' s₂) →
      codeAny (model prog w) a.A (.compStart e 0 (.ref I) (.ref Z) (cEnv scope cl C a.env)) (compPost (model prog w) a.A E use Q (.ref Z) C) s₂) :
    wpAny (model prog w) a.A (comprehension e scope a.env ipos (newList []) false (eval gc.iter a.env) use) Q E s := by
  refine wpAny_comprehension_free hgens hs hc.eq hc.kind hc.names (hit s g _ _ S fun v s₁ g₁ G₁ Sm₁ r₁ => ?_)
  have S₁ := S.grow G₁
  refine hI s₁ g₁ v _ _ S₁.toSh r₁ fun I fp P St s₂ W st₂ hfp hI₀ hgI hP up₂ hSt Sm₂ => ?_
  refine wpAny_newObj_type ?_
  refine newEnv_comp hc.kind fun h₄ up₄ hn₄ hc₄ => ?_
  have hIe : s₂.heap.get? I ≠ none := (hSt 0 _ st₂).ne
  have hZ₂ : s₂.heap.get? s₂.heap.objs.size = none := get?_size_none _
  have hIZ : s₂.heap.objs.size ≠ I := fun e => hIe (e ▸ hZ₂)
  have szC : (s₂.heap.push { cls := .type "list", dict := none, data := .seq ([] : List Value).toArray }).objs.size = s₂.heap.objs.size + 1 := Heap.size_push ..
  have up₂₄ : ∀ b o, s₂.heap.get? b = some o → h₄.get? b = some o := fun b o e => up₄ b o (Heap.get?_push_of_some _ e)
  have upA : ∀ b o, s₁.heap.get? b = some o → h₄.get? b = some o := fun b o e => up₂₄ b o (up₂ b o e)
  have lt₂ : ∀ b, s₂.heap.get? b ≠ none → b < s₂.heap.objs.size := fun b e => by obtain ⟨o, q⟩ := some_of_ne e; exact Heap.lt_size q
  have hC₂ : ∀ b, s₂.heap.objs.size ≤ b → s₂.heap.get? b = none := fun b hb => Heap.get?_none_of_le hb
  have hC₁ : ∀ b, s₂.heap.objs.size ≤ b → s₁.heap.get? b = none := fun b hb => by
    cases q : s₁.heap.get? b with
    | none => rfl
    | some o => have := hC₂ b hb; rw [up₂ b o q] at this; cases this
  have hI1 : ∀ b, s₁.heap.get? b ≠ none → b ≠ I := fun b e z => e (z ▸ hI₀)
  have clm : ∀ p ∈ cl, p ∈ a.env.cells := fun p hp => mem_of_lookup (hc.mem p hp)
  rw [szC] at hn₄ hc₄ ⊢
  have newc : ∀ p ∈ cellsFrom (s₂.heap.objs.size + 1 + 1) scope.names [], s₂.heap.objs.size + 1 + 1 ≤ p.2 := fun p hp => (cellsOk_none hc₄ hp).2
  have SC : Sv B (cAct a scope cl (s₂.heap.objs.size + 1)) σ₀ own g₁ h₄ :=
    S₁.comp upA (hC₁ _ (Nat.le_succ _)) (fun b hb => hC₁ b (Nat.le_of_lt (Nat.lt_of_succ_lt hb))) hn₄ hc₄ clm (pw_of_mem S₁.cnd clm hc.nd) (hvis _)
  have muC : ∀ b : Nat, (cAct a scope cl (s₂.heap.objs.size + 1)).mu b → @LE.le Nat _ (s₂.heap.objs.size + 1) b := by
    rintro b (rfl | hb)
    · exact Nat.le_refl _
    · obtain ⟨p, hp, rfl⟩ := List.mem_map.mp hb
      have := newc p hp; exact Nat.le_of_lt ‹_›
  have cellC : ∀ q ∈ (cAct a scope cl (s₂.heap.objs.size + 1)).env.cells, s₂.heap.objs.size + 1 + 1 ≤ q.2 ∨ s₁.heap.get? q.2 ≠ none := fun q hq => by
    rcases List.mem_append.mp hq with h1 | h1
    · exact .inl (newc q h1)
    · obtain ⟨⟨v, h2⟩, _⟩ := S₁.cells q (clm q h1)
      exact .inr (isCell_ne h2)
  have frE : ∀ f ∈ a.fr, s₁.heap.get? f ≠ none := fun f hf => by obtain ⟨_, o, ho, _⟩ := S₁.ff.mem hf; exact ne_of_some ho
  have ownE : ∀ q ∈ own, s₁.heap.get? q.1 ≠ none := fun q hq => by obtain ⟨_, vs, L, _⟩ := S₁.own q hq; exact plain_ne L
  have ltI : @LT.lt Nat _ I s₂.heap.objs.size := lt₂ I hIe
  have eZ : ∀ b : Nat, s₁.heap.get? b ≠ none → @LT.lt Nat _ b s₂.heap.objs.size := fun b e => by obtain ⟨o, q⟩ := some_of_ne e; exact Heap.lt_size (up₂ b o q)
  refine k s₁ g₁ { s₂ with heap := h₄ } I s₂.heap.objs.size (s₂.heap.objs.size + 1) fp P St G₁ Sm₁ S₁ W (W.frame _ _ _ st₂ fun b _ o e => up₂₄ b o e) hP hSt ⟨Sm₂.gens, Sm₂.drawn, Sm₂.os⟩ ?_ (fun i st Q' E' hq => W.self i _ _ _ st hq)
  refine ⟨SC, Grow.plain S₁.gh upA, ⟨_, up₄ _ _ (Heap.get?_push_size _ rfl)⟩, stays_none S₁.gh (hC₁ _ (Nat.le_refl _)), hgI, ?_, ?_, ?_, ?_, hIZ, ?_, ?_, ?_, ?_, ?_, ?_, ?_, ?_, ?_, ?_, fun b hb => (hfp b hb).imp id fun q => q.1⟩
  · exact neN (by show s₂.heap.objs.size + 1 ≠ I; omega)
  · intro q hq
    rcases cellC q hq with h1 | h1
    · exact neN (by omega)
    · exact hI1 _ h1
  · exact fun q hq => hI1 _ (ownE q hq)
  · exact fun hf => hI1 I (frE I hf) rfl
  · exact neN (by show s₂.heap.objs.size + 1 ≠ s₂.heap.objs.size; omega)
  · intro q hq
    rcases cellC q hq with h1 | h1
    · exact neN (by omega)
    · exact Nat.ne_of_lt (eZ _ h1)
  · exact fun q hq => Nat.ne_of_lt (eZ _ (ownE q hq))
  · exact fun hf => absurd (eZ _ (frE _ hf)) (Nat.lt_irrefl _)
  · intro b hb
    rcases hfp b hb with rfl | ⟨h1, h2, _⟩
    · refine ⟨Nat.ne_of_lt ltI, fun hf => hI1 b (frE b hf) rfl, fun hm => ?_⟩
      have := muC b hm; omega
    · have := eZ b h1
      refine ⟨Nat.ne_of_lt this, h2, fun hm => ?_⟩
      have := muC b hm; omega
  · intro hm
    have := muC _ hm; omega
  · intro hm
    have := muC _ hm; omega
  · rintro b (hb | rfl | rfl)
    · exact hC₁ b (by have := muC b hb; exact Nat.le_of_lt ‹_›)
    · exact hC₁ _ (Nat.le_refl _)
    · exact hI₀
  · exact neN (by omega)
  · exact neN (by omega)
end
end Mine
end
section
open PySem PySem.W PyProof.Rows
set_option maxRecDepth 10000
set_option linter.unusedVariables false
namespace Mine
section
variable {prog : Program} {w : World} {B : Heap} {a : Act} {σ σ₀ : Vars} {own : Owns} {n : Nat}

theorem lastTurn0 (elt target iter : Expr) (ifs : List Expr) (scope : Scope) (pos : Pos) : LastTurn elt target iter ifs [⟨target, iter, ifs, 0⟩] scope pos 0 := fun it acc env => compTurn_list elt target iter ifs scope pos it acc env

/-- what a comprehension's element clauses must show, in its own frame -/
structure Body (prog : Program) (w : World) (B : Heap) (c : Act) (σ₀ : Vars) (own : Owns) (target : Expr) (ifs : List Expr) (elt : Expr) (d : D) (p : Bool) (f : D) : Prop where
  go : ∃ σ', Tg prog w B c σ₀ own target d σ' ∧ Ts prog w B c σ' own ifs p ∧ (p = true → Ev prog w B c σ' own elt f) ∧ ∀ x e, σ₀.lookup x = some e → σ'.lookup x = some e

set_option maxHeartbeats 1000000 in
/-- the loop of a one-clause comprehension, to its end -/
theorem comp1_code {elt target iter : Expr} {ifs : List Expr} {scope : Scope} {pos : Pos} {cl : List (Str × Addr)} {ds : List D} (p : D → Bool) (f : D → D) {g₁ h₁ : Heap} {s₂ : Shared} {I Z C : Addr} {fp : List Addr} {P : Nat → Value → Prop} {St : Nat → Heap → Prop} {R : Result → Shared → Prop}
    (W : Walks prog w a.A I fp [I] ds.length P St) (st : St 0 s₂.heap) (hP : ∀ i v, P i v → ∃ d, ds[i]? = some d ∧ Rep g₁ d v) (hSt : ∀ i h, St i h → PlainIt h I) (b : Begun B a scope cl σ₀ own g₁ h₁ I Z C fp s₂.heap)
    (hself : ∀ i, St i s₂.heap → ∀ (Q' : Value → Shared → Prop) (E' : Value → Shared → Prop), Q' (.ref I) s₂ → wpAny (model prog w) a.A (pyIter (.ref I)) Q' E' s₂)
    (hb : ∀ d ∈ ds, Body prog w B (cAct a scope cl C) σ₀ own target ifs elt d (p d) (f d)) (hsz : ds.length ≤ sizeLine)
    (k : ∀ s' g' vs, Sv B (cAct a scope cl C) σ₀ own g' s'.heap → GrowX (fun b => (cAct a scope cl C).mu b ∨ b = Z ∨ b = I) a.fr g₁ h₁ g' s'.heap → Same s₂ s' → s'.heap.PlainList Z vs.toArray → g'.get? Z = none → RepAll g' ((ds.filter p).map f) vs → R (.ok .next) s') :
    codeAny (model prog w) a.A (.compStart (.ListComp elt [⟨target, iter, ifs, 0⟩] scope pos) 0 (.ref I) (.ref Z) (cEnv scope cl C a.env)) R s₂ := by
  classical
  have loop : codeAny (model prog w) a.A (.compLoop (.ListComp elt [⟨target, iter, ifs, 0⟩] scope pos) 0 (.ref I) (.ref Z) (cEnv scope cl C a.env)) R s₂ := by
    refine comp_last (c := cAct a scope cl C) (ys₀ := []) (us := []) W (fun d => if h : d ∈ ds then (hb d h).go.choose else []) p f (lastTurn0 elt target iter ifs scope pos) ?_ ?_ ?_ ?_ b.sv st b.list .nil b.gZ b.gI hP hSt b.hIL b.hIc b.hIo b.hIf b.hID b.hDL b.hDc b.hDo b.hDf b.hfp b.hDm b.hIm (by simpa using hsz) ?_
    · intro d hd; rw [dif_pos hd]; exact (hb d hd).go.choose_spec.1
    · intro d hd; rw [dif_pos hd]; exact (hb d hd).go.choose_spec.2.1
    · intro d hd; rw [dif_pos hd]; exact (hb d hd).go.choose_spec.2.2.1
    · intro d hd; rw [dif_pos hd]; exact (hb d hd).go.choose_spec.2.2.2
    · intro s' g' vs S' G' Sm' L' hg' r'
      exact k s' g' vs S' ((b.grow.toX (X := fun b => (cAct a scope cl C).mu b ∨ b = Z ∨ b = I)).trans G' fun _ _ q => q) Sm' L' hg' (by simpa using r')
  exact codeAny_compStart_list loop (hself 0 st _ _ loop)

end
end Mine
end
section
open PySem PySem.W PyProof.Rows
set_option maxRecDepth 10000
set_option linter.unusedVariables false
namespace Mine

inductive Fl where
  | next | brk | cont
  | ret (d : D)
noncomputable def FlRep (g : Heap) : Fl → Flow → Prop
  | .next, f => f = .next
  | .brk, f => f = .brk
  | .cont, f => f = .cont
  | .ret d, f => ∃ v, f = .ret v ∧ Rep g d v
noncomputable def OwnNd (own : Owns) : Prop := (own.map (·.1)).Nodup
noncomputable def OwnNew (own : Owns) (h : Heap) (own' : Owns) : Prop := ∀ p ∈ own', h.get? p.1 ≠ none → ∃ q ∈ own, q.1 = p.1
theorem OwnNew.refl (own : Owns) (h : Heap) : OwnNew own h own := fun p hp _ => ⟨p, hp, rfl⟩
theorem OwnNew.trans {own own' own'' : Owns} {h h' : Heap} (x : OwnNew own h own') (y : OwnNew own' h' own'') (m : ∀ b, h.get? b ≠ none → h'.get? b ≠ none ∨ ∃ q ∈ own, q.1 = b) : OwnNew own h own'' := fun p hp e => by
  rcases m _ e with q | q
  · obtain ⟨q, hq, e'⟩ := y p hp q
    obtain ⟨r, hr, e''⟩ := x q hq (e' ▸ e)
    exact ⟨r, hr, e''.trans e'⟩
  · exact q
theorem OwnNew.mu {own own' : Owns} {h : Heap} {a : Act} (x : OwnNew own h own') : ∀ b, h.get? b ≠ none → Mu a own' b → Mu a own b := fun b e m => by
  rcases m with m | ⟨p, hp, rfl⟩
  · exact .inl m
  · obtain ⟨q, hq, e'⟩ := x p hp e
    exact .inr ⟨q, hq, e'⟩

section
variable (prog : Program) (w : World) (B : Heap)
/-- an expression that may hand over lists of its own -/
noncomputable def EvK (a : Act) (σ : Vars) (own : Owns) (e : Expr) (K : D → Owns → Prop) : Prop :=
  ∀ (s : Shared) (g : Heap) (Q E : Value → Shared → Prop), Sv B a σ own g s.heap → OwnNd own →
    (∀ v d own' s' g', K d own' → Rep g' d v → Sv B a σ own' g' s'.heap → OwnNd own' → OwnNew own s.heap own' → Grow a.fr g s.heap g' s'.heap → Same s s' → Q v s') → wpAny (model prog w) a.A (eval e a.env) Q E s
noncomputable def EvAllK (a : Act) (σ : Vars) (own : Owns) (p : Pos) (es : List Expr) (K : List D → Owns → Prop) : Prop :=
  ∀ (s : Shared) (g : Heap) (Q : List Value → Shared → Prop) (E : Value → Shared → Prop), Sv B a σ own g s.heap → OwnNd own →
    (∀ vs ds own' s' g', K ds own' → RepAll g' ds vs → Sv B a σ own' g' s'.heap → OwnNd own' → OwnNew own s.heap own' → Grow a.fr g s.heap g' s'.heap → Same s s' → Q vs s') → wpAny (model prog w) a.A (spliced (backTo p (starEach es a.env))) Q E s
/-- statements -/
noncomputable def Ex (a : Act) (σ : Vars) (own : Owns) (ss : List Stmt) (Φ : Fl → Vars → Owns → Prop) : Prop :=
  ∀ (s : Shared) (g : Heap) (Q : Flow → Shared → Prop) (E : Value → Shared → Prop), Sv B a σ own g s.heap → OwnNd own →
    (∀ f fl σ' own' s' g', Φ fl σ' own' → FlRep g' fl f → Sv B a σ' own' g' s'.heap → OwnNd own' → OwnNew own s.heap own' → GrowX (Mu a own) a.fr g s.heap g' s'.heap → Same s s' → Q f s') → wpAny (model prog w) a.A (execs ss a.env) Q E s
end

section
variable {prog : Program} {w : World} {B : Heap} {a : Act} {σ : Vars} {own : Owns} {n : Nat}
theorem Ev.k {e : Expr} {d : D} {K : D → Owns → Prop} (h : Ev prog w B a σ own e d) (k : K d own) : EvK prog w B a σ own e K := fun s g Q E S nd q =>
  h s g _ _ S fun v s' g' G Sm r => q v d own s' g' k r (S.grow G) nd (.refl _ _) G Sm
theorem Sv.more {g h : Heap} (S : Sv B a σ own g h) {Z : Addr} {vs : List Value} {ds : List D} (L : h.PlainList Z vs.toArray) (hg : g.get? Z = none) (r : RepAll g ds vs) (hf : Z ∉ a.fr) : Sv B a σ ((Z, ds) :: own) g h :=
  ⟨⟨S.bg, S.gh, S.ff, fun f hf' => ⟨(S.fg f hf').1, fun p hp => by
    rcases List.mem_cons.mp hp with rfl | hp
    · exact fun e => hf (by rw [show Z = f from e]; exact hf')
    · exact (S.fg f hf').2 p hp⟩, fun p hp => by
    rcases List.mem_cons.mp hp with rfl | hp
    · exact ⟨hg, vs, L, r⟩
    · exact S.own p hp⟩, S.ns, S.cl, S.cells, S.cnd, S.lg, S.mcs⟩
theorem EvF.k {e : Expr} {ds : List D} {K : D → Owns → Prop} (h : EvF prog w B a σ own e ds) (k : ∀ Z, K (.val (.ref Z)) ((Z, ds) :: own)) : EvK prog w B a σ own e K := fun s g Q E S nd q =>
  h s g _ _ S fun Z vs s' g' G Sm hZ hg L r => by
    have S' := S.grow G
    have hf : Z ∉ a.fr := fun hf => by obtain ⟨_, o, ho, _⟩ := S.ff.mem hf; rw [hZ] at ho; cases ho
    have hn : ∀ p ∈ own, p.1 ≠ Z := fun p hp e => by obtain ⟨_, us, L', _⟩ := S.own p hp; exact plain_ne L' (e ▸ hZ)
    refine q (.ref Z) (.val (.ref Z)) ((Z, ds) :: own) s' g' (k Z) (rep_val.mpr rfl) (S'.more L hg r hf) ?_ (fun p hp e => ?_) G Sm
    · refine List.nodup_cons.mpr ⟨fun hm => ?_, nd⟩
      obtain ⟨p, hp, e⟩ := List.mem_map.mp hm
      exact hn p hp e
    · rcases List.mem_cons.mp hp with rfl | hp
      · exact absurd hZ e
      · exact ⟨p, hp, rfl⟩
theorem evAllK_nil {p : Pos} {K : List D → Owns → Prop} (k : K [] own) : EvAllK prog w B a σ own p [] K := fun s g Q E S nd q =>
  Calls.spliced_nil (q [] [] own s g k .nil S nd (.refl _ _) (.refl S.gh) (.refl s))
theorem evAllK_cons {p : Pos} {e : Expr} {es : List Expr} {K : List D → Owns → Prop} (h : EvK prog w B a σ own e fun d own' => EvAllK prog w B a σ own' p es fun ds own'' => K (d :: ds) own'')
    (hs : ∀ env, backTo p (starEach (e :: es) env) = (false, eval e env) :: backTo p (starEach es env)) : EvAllK prog w B a σ own p (e :: es) K := fun s g Q E S nd q => by
  rw [hs]
  refine Calls.spliced_cons (h s g _ _ S nd fun v₁ d₁ own₁ s₁ g₁ k₁ r₁ S₁ nd₁ on₁ G₁ Sm₁ => k₁ s₁ g₁ _ _ S₁ nd₁ fun vs ds own₂ s₂ g₂ k₂ r₂ S₂ nd₂ on₂ G₂ Sm₂ => ?_)
  exact q _ _ own₂ s₂ g₂ k₂ (.cons (r₁.mono G₂.gg) r₂) S₂ nd₂ (on₁.trans on₂ fun b e => .inl (G₁.ext.some e)) (G₁.trans G₂) (Sm₁.trans Sm₂)
theorem evK_tuple {es : List Expr} {m : Nat} {p : Pos} {K : D → Owns → Prop} (h : EvAllK prog w B a σ own p es fun ds own' => ds.length ≤ sizeLine ∧ K (.tup ds) own') : EvK prog w B a σ own (.Tuple es m p) K := fun s g Q E S nd q =>
  wpAny_Tuple (h s g _ _ S nd fun vs ds own₁ s₁ g₁ k₁ r₁ S₁ nd₁ on₁ G₁ Sm₁ => ⟨by rw [r₁.length]; exact k₁.1, by
    obtain ⟨G, R⟩ := grow_tuple (fr := a.fr) G₁.gh r₁ { cls := .type "tuple", data := .seq vs.toArray } rfl rfl
    exact q _ _ own₁ { s₁ with heap := s₁.heap.push { cls := .type "tuple", data := .seq vs.toArray } } _ k₁.2 R (S₁.grow G) nd₁ on₁ (G₁.trans G) (Sm₁.trans ⟨rfl, rfl, rfl⟩)⟩)
/-- a list display, for one's own -/
theorem evf_list {es : List Expr} {p : Pos} {ds : List D} (h : EvAll prog w B a σ own p es ds) (hsz : ds.length ≤ sizeLine) : EvF prog w B a σ own (.List es p) ds := fun s g Q E S k =>
  wpAny_List (h s g _ _ S fun vs s₁ g₁ G₁ S₁ r₁ => ⟨by rw [r₁.length]; exact hsz, by
    refine k _ vs { s₁ with heap := s₁.heap.push { cls := .type "list", data := .seq vs.toArray } } g₁ (G₁.trans (Grow.plain G₁.gh fun b o e => Heap.get?_push_of_some _ e)) (S₁.trans ⟨rfl, rfl, rfl⟩) ?_ (stays_none G₁.gh (get?_size_none _)) ⟨_, Heap.get?_push_size _ rfl⟩ r₁
    cases q : s.heap.get? s₁.heap.objs.size with
    | none => rfl
    | some o => exact absurd (get?_size_none s₁.heap) (G₁.ext.some (ne_of_some q))⟩)
theorem evf_add {l r : Expr} {p : Pos} {ds es : List D} (h₁ : Ev prog w B a σ own l (.lst ds)) (h₂ : Ev prog w B a σ own r (.lst es)) (hsz : ds.length + es.length ≤ sizeLine) : EvF prog w B a σ own (.BinOp l .Add r p) (ds ++ es) := fun s g Q E S k =>
  wpAny_BinOp (h₁ s g _ _ S fun v₁ s₁ g₁ G₁ S₁ r₁ => h₂ s₁ g₁ _ _ (S.grow G₁) fun v₂ s₂ g₂ G₂ S₂ r₂ => by
    obtain ⟨x, vs, rfl, la, ra⟩ := rep_lst.mp (r₁.mono G₂.gg)
    obtain ⟨y, ws, rfl, lb, rb⟩ := rep_lst.mp r₂
    obtain ⟨⟨cls, dd, data, sl⟩, ho, hc, n, hd⟩ := stays_isList G₂.gh la.isList
    obtain ⟨⟨cls2, dd2, data2, sl2⟩, ho2, hc2, n2, hd2⟩ := stays_isList G₂.gh lb.isList
    simp only at hc hd hc2 hd2
    subst hc hd hc2 hd2
    refine concat_meets ⟨_, ho, rfl⟩ ⟨_, ho2, rfl⟩ noFill_list_add seq_list_add PySem.F.slot_list_add PySem.F.entry_list_add (PySem.F.args_list_add_2 _ _) (list_addW x y vs.toArray ws.toArray n n2 dd dd2 sl sl2 (by simpa [ra.length, rb.length] using hsz)) ⟨ho, ho2, ?_⟩
    have e : vs.toArray ++ ws.toArray = (vs ++ ws).toArray := by simp
    rw [e]
    have G := G₁.trans G₂
    refine k _ (vs ++ ws) { s₂ with heap := s₂.heap.push { cls := .type "list", data := .seq (vs ++ ws).toArray } } g₂ (G.trans (Grow.plain G₂.gh fun b o e => Heap.get?_push_of_some _ e)) ((S₁.trans S₂).trans ⟨rfl, rfl, rfl⟩) ?_ (stays_none G₂.gh (get?_size_none _)) ⟨_, Heap.get?_push_size _ rfl⟩ (ra.append rb)
    cases q : s.heap.get? s₂.heap.objs.size with
    | none => rfl
    | some o => exact absurd (get?_size_none s₂.heap) (G.ext.some (ne_of_some q)))

/-! statements -/
theorem ex_nil {Φ : Fl → Vars → Owns → Prop} (h : Φ .next σ own) : Ex prog w B a σ own [] Φ := fun s g Q E S nd k =>
  wpAny_execs_nil (k .next .next σ own s g h rfl S nd (.refl _ _) (Grow.toX (.refl S.gh)) (.refl s))
theorem Ex.weaken {σ' : Vars} {ss : List Stmt} {Φ : Fl → Vars → Owns → Prop} (h : Ex prog w B a σ' own ss Φ) (hσ : ∀ x d, σ'.lookup x = some d → σ.lookup x = some d) : Ex prog w B a σ own ss Φ := fun s g Q E S nd k =>
  h s g Q E (S.weaken hσ fun _ q => q) nd k
/-- lists no longer told of -/
theorem Ex.drop {own' : Owns} {ss : List Stmt} {Φ : Fl → Vars → Owns → Prop} (h : Ex prog w B a σ own' ss Φ) (ho : ∀ p ∈ own', p ∈ own) (nd' : OwnNd own → OwnNd own') : Ex prog w B a σ own ss Φ := fun s g Q E S nd k =>
  h s g Q E (S.weaken (fun _ _ e => e) ho) (nd' nd) fun f fl σ' o' s' g' p r S' n' on G Sm => k f fl σ' o' s' g' p r S' n' (fun q hq e => by obtain ⟨z, hz, e'⟩ := on q hq e; exact ⟨z, ho z hz, e'⟩)
    (G.mono fun b _ m => m.imp id fun ⟨p, hp, e⟩ => ⟨p, ho p hp, e⟩) Sm
/-- one statement, then the rest: the form in which the rules are said -/
theorem ex_step {st : Stmt} {rest : List Stmt} {Φ : Fl → Vars → Owns → Prop}
    (h : ∀ (s : Shared) (g : Heap) (Q : Flow → Shared → Prop) (E : Value → Shared → Prop), Sv B a σ own g s.heap → OwnNd own →
      (∀ s' g' σ' own', Sv B a σ' own' g' s'.heap → OwnNd own' → OwnNew own s.heap own' → GrowX (Mu a own) a.fr g s.heap g' s'.heap → Same s s' → Ex prog w B a σ' own' rest Φ → Q .next s') →
      (∀ f fl s' g' σ' own', fl ≠ .next → Φ fl σ' own' → FlRep g' fl f → Sv B a σ' own' g' s'.heap → OwnNd own' → OwnNew own s.heap own' → GrowX (Mu a own) a.fr g s.heap g' s'.heap → Same s s' → Q f s') →
      wpAny (model prog w) a.A (exec st a.env) Q E s) : Ex prog w B a σ own (st :: rest) Φ := fun s g Q E S nd k => by
  refine wpAny_execs_cons (h s g _ _ S nd (fun s' g' σ' own' S' nd' on G Sm hr => ?_) fun f fl s' g' σ' own' hf hΦ r S' nd' on G Sm => ?_)
  · refine hr s' g' Q E S' nd' fun f fl σ'' own'' s'' g'' p r S'' nd'' on' G' Sm' => ?_
    refine k f fl σ'' own'' s'' g'' p r S'' nd'' (on.trans on' fun b e => ?_) (G.trans G' (on.mu)) (Sm.trans Sm')
    by_cases hX : Mu a own b
    · rcases hX with m | q
      · rcases m with rfl | m
        · obtain ⟨m, hn, _⟩ := S'.ns; exact .inl (ns_ne hn)
        · obtain ⟨p, hp, rfl⟩ := S'.mcs b m
          obtain ⟨⟨v, h1⟩, _⟩ := S'.cells p hp
          exact .inl (isCell_ne h1)
      · exact .inr q
    · obtain ⟨o, ho⟩ := some_of_ne e
      obtain ⟨sl, q, _⟩ := G.ext b o ho hX
      exact .inl (ne_of_some q)
  · have fin := k f fl σ' own' s' g' hΦ r S' nd' on G Sm
    cases fl with
    | next => exact absurd rfl hf
    | brk => cases r; exact fin
    | cont => cases r; exact fin
    | ret d => obtain ⟨v, rfl, _⟩ := r; exact fin
end
end Mine
end
section
open PySem PySem.W PyProof.Rows
set_option maxRecDepth 10000
set_option linter.unusedVariables false
namespace Mine

/-- one list of the owned ones has other items -/
inductive OwnSet : Owns → Addr → List D → List D → Owns → Prop
  | head {Z ds ds' r} : OwnSet ((Z, ds) :: r) Z ds ds' ((Z, ds') :: r)
  | tail {p Z ds ds' r r'} : OwnSet r Z ds ds' r' → OwnSet (p :: r) Z ds ds' (p :: r')
theorem OwnSet.mem {own own' : Owns} {Z : Addr} {ds ds' : List D} (x : OwnSet own Z ds ds' own') : (Z, ds) ∈ own := by
  induction x with
  | head => exact .head _
  | tail _ ih => exact .tail _ ih
theorem OwnSet.keys {own own' : Owns} {Z : Addr} {ds ds' : List D} (x : OwnSet own Z ds ds' own') : own'.map (·.1) = own.map (·.1) := by
  induction x with
  | head => rfl
  | tail _ ih => rw [List.map_cons, List.map_cons, ih]
theorem OwnSet.cases {own own' : Owns} {Z : Addr} {ds ds' : List D} (x : OwnSet own Z ds ds' own') (nd : OwnNd own) : ∀ p ∈ own', p = (Z, ds') ∨ (p ∈ own ∧ p.1 ≠ Z) := by
  induction x with
  | head =>
    intro p hp
    rcases List.mem_cons.mp hp with rfl | hp
    · exact .inl rfl
    · refine .inr ⟨.tail _ hp, fun e => ?_⟩
      exact (List.nodup_cons.mp nd).1 (List.mem_map.mpr ⟨p, hp, e⟩)
  | @tail q Z ds ds' r r' x ih =>
    intro p hp
    rcases List.mem_cons.mp hp with rfl | hp
    · refine .inr ⟨.head _, fun e => ?_⟩
      exact (List.nodup_cons.mp nd).1 (List.mem_map.mpr ⟨_, x.mem, e.symm⟩)
    · exact (ih (List.nodup_cons.mp nd).2 p hp).imp id fun ⟨h1, h2⟩ => ⟨.tail _ h1, h2⟩
theorem OwnSet.nd {own own' : Owns} {Z : Addr} {ds ds' : List D} (x : OwnSet own Z ds ds' own') (nd : OwnNd own) : OwnNd own' := by
  unfold OwnNd; rw [x.keys]; exact nd
theorem OwnSet.new {own own' : Owns} {Z : Addr} {ds ds' : List D} (x : OwnSet own Z ds ds' own') (h : Heap) : OwnNew own h own' := fun p hp _ => by
  have : p.1 ∈ own.map (·.1) := x.keys ▸ List.mem_map_of_mem hp
  obtain ⟨q, hq, e⟩ := List.mem_map.mp this
  exact ⟨q, hq, e⟩

theorem plain_map {h : Heap} {Z : Addr} {xs : Array Value} {n : Nat} (f : Array Value → Array Value) (e : h.get? Z = some { cls := .type "list", data := .seq xs n }) : (h.update Z (Obj.mapSeq f)).PlainList Z (f xs) :=
  ⟨if (f xs).size == xs.size then n else n + 1, Heap.get?_update_self _ e rfl⟩
section
variable {B : Heap} {a : Act} {σ : Vars} {own own' : Owns} {g h h' : Heap}
theorem Sv.setOwn (S : Sv B a σ own g h) (nd : OwnNd own) {Z : Addr} {ds ds' : List D} (x : OwnSet own Z ds ds' own') {vs : List Value} (hs : Heap.SameBut Z h h') (L : h'.PlainList Z vs.toArray) (r : RepAll g ds' vs) : Sv B a σ own' g h' := by
  obtain ⟨hg, us, L₀, _⟩ := S.own _ x.mem
  obtain ⟨m, hn, hv⟩ := S.ns
  refine ⟨⟨S.bg, fun b o e => ?_, FunFrames.but S.ff hs (fun o _ _ => ?_), fun f hf => ⟨(S.fg f hf).1, fun p hp => ?_⟩, fun p hp => ?_⟩, ⟨m, hn.sameBut hs (ns_isList hn L₀.isList), hv⟩, fun y e hy hyk => ?_, fun p hp => ?_, S.cnd, S.lg, S.mcs⟩
  · have : b ≠ Z := fun z => by rw [z, hg] at e; cases e
    rw [hs.2 b this]; exact S.gh b o e
  · obtain ⟨n, e⟩ := L
    exact ⟨_, e, fun vs q => by cases q⟩
  · rcases x.cases nd p hp with rfl | ⟨h1, _⟩
    · exact fun e => (S.fg f hf).2 _ x.mem e
    · exact (S.fg f hf).2 p h1
  · rcases x.cases nd p hp with rfl | ⟨h1, h2⟩
    · exact ⟨hg, vs, L, r⟩
    · obtain ⟨q1, vs', q2, q3⟩ := S.own p h1
      exact ⟨q1, vs', q2.at fun o e => (hs.2 _ h2).trans e, q3⟩
  · obtain ⟨c, v, h1, h2, h3⟩ := S.cl y e hy hyk
    exact ⟨c, v, h1, h2.sameBut hs (Ne.symm (isList_isCell L₀.isList h2)), h3⟩
  · obtain ⟨⟨v, h1⟩, h2⟩ := S.cells p hp
    exact ⟨⟨v, h1.sameBut hs (Ne.symm (isList_isCell L₀.isList h1))⟩, h2⟩
end

section
variable {prog : Program} {w : World} {B : Heap} {a : Act} {σ : Vars} {own : Owns} {n : Nat} {rest : List Stmt} {Φ : Fl → Vars → Owns → Prop}

/-- what follows: the rest, or the way out -/
noncomputable def Then (prog : Program) (w : World) (B : Heap) (a : Act) (rest : List Stmt) (Φ : Fl → Vars → Owns → Prop) : Fl → Vars → Owns → Prop
  | .next, σ', own' => Ex prog w B a σ' own' rest Φ
  | fl, σ', own' => Φ fl σ' own'

theorem mu_own {b : Addr} (h : a.mu b) : Mu a own b := .inl h

/-- x = value -/
theorem ex_assign {t value : Expr} {pos : Pos} (hv : EvK prog w B a σ own value fun d own' => ∃ σ', Tg prog w B a σ own' t d σ' ∧ Ex prog w B a σ' own' rest Φ)
    (hsw : swapsWithSole [t] value pos.line a.env = pure false) (hss : swappedStores [t] value a.env = pure none) (hae : (assignEach [t] a.env).map (·.2) = [assign t a.env]) : Ex prog w B a σ own (.Assign [t] value pos :: rest) Φ :=
  ex_step fun s g Q E S nd k₁ k₂ => by
    rw [arm_exec_Assign, hsw]
    refine wpAny_bind (wpAny_standAt (wpAny_bind (wpAny_pure ?_)))
    rw [if_neg (by decide)]
    refine wpAny_bind (hv s g _ _ S nd fun v d own' s₁ g₁ hk r S₁ nd₁ on₁ G₁ Sm₁ => ?_)
    obtain ⟨σ', hT, hE⟩ := hk
    rw [hss, hae]
    refine wpAny_bind (wpAny_pure ?_)
    show wpAny _ _ (do assign t a.env v; pure Flow.next) _ _ _
    refine wpAny_bind (hT s₁ g₁ v _ _ S₁ r fun s₂ S₂ G₂ Sm₂ => wpAny_pure ?_)
    exact k₁ s₂ g₁ σ' own' S₂ nd₁ on₁ ((G₁.toX (X := Mu a own)).trans (G₂.mono fun b _ m => mu_own m) fun _ _ q => q) (Sm₁.trans Sm₂) hE
/-- x = y = value -/
theorem ex_assign2 {t u value : Expr} {pos : Pos} {d : D} {σ' σ'' : Vars} (hv : Ev prog w B a σ own value d) (hT : Tg prog w B a σ own t d σ') (hU : Tg prog w B a σ' own u d σ'') (hE : Ex prog w B a σ'' own rest Φ)
    (hsw : swapsWithSole [t, u] value pos.line a.env = pure false) (hss : swappedStores [t, u] value a.env = pure none) (hae : (assignEach [t, u] a.env).map (·.2) = [assign t a.env, assign u a.env]) : Ex prog w B a σ own (.Assign [t, u] value pos :: rest) Φ :=
  ex_step fun s g Q E S nd k₁ k₂ => by
    rw [arm_exec_Assign, hsw]
    refine wpAny_bind (wpAny_standAt (wpAny_bind (wpAny_pure ?_)))
    rw [if_neg (by decide)]
    refine wpAny_bind (hv s g _ _ S fun v s₁ g₁ G₁ Sm₁ r => ?_)
    have S₁ := S.grow G₁
    rw [hss, hae]
    refine wpAny_bind (wpAny_pure ?_)
    show wpAny _ _ (do assignAll v [assign t a.env, assign u a.env]; pure Flow.next) _ _ _
    refine wpAny_bind ?_
    show wpAny _ _ (do holding [v] (assign t a.env v); assignAll v [assign u a.env]) _ _ _
    refine wpAny_bind (wpAny_holding (hT s₁ g₁ v _ _ S₁ r fun s₂ S₂ G₂ Sm₂ => ?_))
    show wpAny _ _ (assign u a.env v) _ _ _
    refine hU s₂ g₁ v _ _ S₂ r fun s₃ S₃ G₃ Sm₃ => wpAny_pure ?_
    exact k₁ s₃ g₁ σ'' own S₃ nd (.refl _ _) (((G₁.toX (X := Mu a own)).trans (G₂.mono fun b _ m => mu_own m) fun _ _ q => q).trans (G₃.mono fun b _ m => mu_own m) fun _ _ q => q) ((Sm₁.trans Sm₂).trans Sm₃) hE
theorem ExtBut.grow {fr : List Addr} {g h h' : Heap} (k : g.StaysIn h) (x : Heap.ExtBut h.objs.size h h') : Grow fr g h g h' :=
  Grow.plain k fun b o e => x b o (Nat.ne_of_lt (Heap.lt_size e)) e
/-- x, y = (..): the stores from behind -/
theorem ex_swap2 (ok : a.Ok n) {elts : List Expr} {k : Nat} {tp pos : Pos} {value : Expr} {x y : Str} (hv : EvK prog w B a σ own value fun d own' => ∃ d₁ d₂, d = .tup [d₁, d₂] ∧ Ex prog w B a ((x, d₁) :: (y, d₂) :: σ) own' rest Φ)
    (hx : a.env.kindOf x = some .local) (hy : a.env.kindOf y = some .local)
    (hs : swapsWithSole [.Tuple elts k tp] value pos.line a.env = pure false) (hw : swappedStores [.Tuple elts k tp] value a.env = pure (some [x, y])) : Ex prog w B a σ own (.Assign [.Tuple elts k tp] value pos :: rest) Φ :=
  ex_step fun s g Q E S nd k₁ k₂ => by
    refine Assign_Tuple_swapped (names := [x, y]) (hv s g _ _ S nd fun v d own' s₁ g₁ hk r S₁ nd₁ on₁ G₁ Sm₁ => ?_) hs hw
    obtain ⟨d₁, d₂, rfl, hE⟩ := hk
    obtain ⟨t, vs, rfl, lt, ra⟩ := rep_tup.mp r
    have hl : vs.toArray.size = 2 := by simp [ra.length]
    have T := stays_isTuple S₁.gh lt
    have U := wpAny_unpackItems_tuple (prog := prog) (w := w) (A := a.A) (E := E) (s := s₁) (Q := fun items s₂ => wpAny (model prog w) a.A (assignInOrder (([x, y] : List Str).reverse.map fun n => bindName a.env n) items.reverse) (fun _ => Q .next) E s₂) ok.hand T ?_
    · rw [hl] at U; exact U
    · intro h₂ he₂
      obtain ⟨v₁, r₁, e₁, q₁, r'⟩ := repAll_cons.mp ra
      obtain ⟨v₂, r₂, e₂, q₂, r''⟩ := repAll_cons.mp r'
      rw [e₁, e₂, repAll_nil.mp r'']
      have G₂ : Grow a.fr g₁ s₁.heap g₁ h₂ := ExtBut.grow S₁.gh he₂
      show wpAny _ _ (do holding [v₁] (bindName a.env y v₂); assignInOrder [fun v => bindName a.env x v] [v₁]) _ _ { s₁ with heap := h₂ }
      refine wpAny_bind (wpAny_holding (wpAny_bindName (storeName_l ok hy (S₁.grow G₂) q₂ fun s₃ S₃ G₃ Sm₃ => ?_)))
      show wpAny _ _ (do holding [] (bindName a.env x v₁); assignInOrder [] []) _ _ _
      refine wpAny_bind (wpAny_holding (wpAny_bindName (storeName_l ok hx S₃ q₁ fun s₄ S₄ G₄ Sm₄ => ?_)))
      refine wpAny_pure ?_
      have Sm₂ : Same s₁ { s₁ with heap := h₂ } := ⟨rfl, rfl, rfl⟩
      exact k₁ s₄ g₁ _ own' S₄ nd₁ on₁ ((((G₁.toX (X := Mu a own)).trans (G₂.toX (X := Mu a own)) fun _ _ q => q).trans (G₃.mono fun b _ m => mu_own m) fun _ _ q => q).trans (G₄.mono fun b _ m => mu_own m) fun _ _ q => q) (((Sm₁.trans Sm₂).trans Sm₃).trans Sm₄) hE
theorem ex_swap3 (ok : a.Ok n) {elts : List Expr} {k : Nat} {tp pos : Pos} {value : Expr} {x y z : Str} (hv : EvK prog w B a σ own value fun d own' => ∃ d₁ d₂ d₃, d = .tup [d₁, d₂, d₃] ∧ Ex prog w B a ((x, d₁) :: (y, d₂) :: (z, d₃) :: σ) own' rest Φ)
    (hx : a.env.kindOf x = some .local) (hy : a.env.kindOf y = some .local) (hz : a.env.kindOf z = some .local)
    (hs : swapsWithSole [.Tuple elts k tp] value pos.line a.env = pure false) (hw : swappedStores [.Tuple elts k tp] value a.env = pure (some [x, y, z])) : Ex prog w B a σ own (.Assign [.Tuple elts k tp] value pos :: rest) Φ :=
  ex_step fun s g Q E S nd k₁ k₂ => by
    refine Assign_Tuple_swapped (names := [x, y, z]) (hv s g _ _ S nd fun v d own' s₁ g₁ hk r S₁ nd₁ on₁ G₁ Sm₁ => ?_) hs hw
    obtain ⟨d₁, d₂, d₃, rfl, hE⟩ := hk
    obtain ⟨t, vs, rfl, lt, ra⟩ := rep_tup.mp r
    have hl : vs.toArray.size = 3 := by simp [ra.length]
    have T := stays_isTuple S₁.gh lt
    have U := wpAny_unpackItems_tuple (prog := prog) (w := w) (A := a.A) (E := E) (s := s₁) (Q := fun items s₂ => wpAny (model prog w) a.A (assignInOrder (([x, y, z] : List Str).reverse.map fun n => bindName a.env n) items.reverse) (fun _ => Q .next) E s₂) ok.hand T ?_
    · rw [hl] at U; exact U
    · intro h₂ he₂
      obtain ⟨v₁, r₁, e₁, q₁, r'⟩ := repAll_cons.mp ra
      obtain ⟨v₂, r₂, e₂, q₂, r''⟩ := repAll_cons.mp r'
      obtain ⟨v₃, r₃, e₃, q₃, r'''⟩ := repAll_cons.mp r''
      rw [e₁, e₂, e₃, repAll_nil.mp r''']
      have G₂ : Grow a.fr g₁ s₁.heap g₁ h₂ := ExtBut.grow S₁.gh he₂
      show wpAny _ _ (do holding [v₂, v₁] (bindName a.env z v₃); assignInOrder [fun v => bindName a.env y v, fun v => bindName a.env x v] [v₂, v₁]) _ _ { s₁ with heap := h₂ }
      refine wpAny_bind (wpAny_holding (wpAny_bindName (storeName_l ok hz (S₁.grow G₂) q₃ fun s₃ S₃ G₃ Sm₃ => ?_)))
      show wpAny _ _ (do holding [v₁] (bindName a.env y v₂); assignInOrder [fun v => bindName a.env x v] [v₁]) _ _ _
      refine wpAny_bind (wpAny_holding (wpAny_bindName (storeName_l ok hy S₃ q₂ fun s₄ S₄ G₄ Sm₄ => ?_)))
      show wpAny _ _ (do holding [] (bindName a.env x v₁); assignInOrder [] []) _ _ _
      refine wpAny_bind (wpAny_holding (wpAny_bindName (storeName_l ok hx S₄ q₁ fun s₅ S₅ G₅ Sm₅ => ?_)))
      refine wpAny_pure ?_
      have Sm₂ : Same s₁ { s₁ with heap := h₂ } := ⟨rfl, rfl, rfl⟩
      exact k₁ s₅ g₁ _ own' S₅ nd₁ on₁ (((((G₁.toX (X := Mu a own)).trans (G₂.toX (X := Mu a own)) fun _ _ q => q).trans (G₃.mono fun b _ m => mu_own m) fun _ _ q => q).trans (G₄.mono fun b _ m => mu_own m) fun _ _ q => q).trans (G₅.mono fun b _ m => mu_own m) fun _ _ q => q) ((((Sm₁.trans Sm₂).trans Sm₃).trans Sm₄).trans Sm₅) hE
/-- a pair for a target of two names -/
theorem tg_pair (ok : a.Ok n) {x y : Expr} {k : Nat} {p : Pos} {d₁ d₂ : D} {σ' σ'' : Vars} (hX : Tg prog w B a σ own x d₁ σ') (hY : Tg prog w B a σ' own y d₂ σ'')
    (hae : assignEach [x, y] a.env = [(false, assign x a.env), (false, assign y a.env)]) : Tg prog w B a σ own (.Tuple [x, y] k p) (.tup [d₁, d₂]) σ'' := fun s g v Q E S r q => by
  obtain ⟨t, vs, rfl, lt, ra⟩ := rep_tup.mp r
  have T := stays_isTuple S.gh lt
  have hl : vs.length = 2 := by simp [ra.length]
  refine wpAny_assign_Tuple ok.hand T (by rw [hae]; simp [hl]) (by rw [hae]; rfl) fun h₂ he₂ => ?_
  obtain ⟨v₁, r₁, e₁, q₁, r'⟩ := repAll_cons.mp ra
  obtain ⟨v₂, r₂, e₂, q₂, r''⟩ := repAll_cons.mp r'
  rw [hae, e₁, e₂, repAll_nil.mp r'']
  have G₂ : Grow a.fr g s.heap g h₂ := ExtBut.grow S.gh he₂
  show wpAny _ _ (do holding [v₂] (assign x a.env v₁); assignInOrder [assign y a.env] [v₂]) _ _ { s with heap := h₂ }
  refine wpAny_bind (wpAny_holding (hX { s with heap := h₂ } g v₁ _ _ (S.grow G₂) q₁ fun s₃ S₃ G₃ Sm₃ => ?_))
  show wpAny _ _ (do holding [] (assign y a.env v₂); assignInOrder [] []) _ _ _
  refine wpAny_bind (wpAny_holding (hY s₃ g v₂ _ _ S₃ q₂ fun s₄ S₄ G₄ Sm₄ => wpAny_pure ?_))
  have Sm₂ : Same s { s with heap := h₂ } := ⟨rfl, rfl, rfl⟩
  exact q s₄ S₄ (((G₂.toX (X := a.mu)).trans G₃ fun _ _ q => q).trans G₄ fun _ _ q => q) ((Sm₂.trans Sm₃).trans Sm₄)

/-- x += value, ints -/
theorem ex_aug (ok : a.Ok n) {x : Str} {p pos : Pos} {value : Expr} {i j : Int} (hx : σ.lookup x = some (.int i)) (hk : a.env.kindOf x = some .local) (hv : Ev prog w B a σ own value (.int j)) (hE : Ex prog w B a ((x, .int (i + j)) :: σ) own rest Φ) :
    Ex prog w B a σ own (.AugAssign (.Name x p) .Add value pos :: rest) Φ :=
  ex_step fun s g Q E S nd k₁ k₂ => by
    obtain ⟨m, hn, hvs⟩ := S.ns
    obtain ⟨u, h1, h2⟩ := hvs x _ hx hk
    obtain ⟨t, rfl⟩ := rep_int.mp h2
    refine wpAny_AugAssign_Name (wpAny_loadName_local ok.kind hk hn h1 (hv s g _ _ S fun v s₁ g₁ G₁ Sm₁ r => ?_))
    obtain ⟨t', rfl⟩ := rep_int.mp r
    refine PyProof.Rows.iadd_int ?_
    refine storeName_l (s := { s₁ with toks := s₁.toks + 1 }) (d := .int (i + j)) ok hk (S.grow G₁) (rep_int.mpr ⟨_, rfl⟩) fun s₂ S₂ G₂ Sm₂ => ?_
    have Sm' : Same s₁ { s₁ with toks := s₁.toks + 1 } := ⟨rfl, rfl, rfl⟩
    exact k₁ s₂ g₁ _ own S₂ nd (.refl _ _) ((G₁.toX (X := Mu a own)).trans (G₂.mono fun b _ m => mu_own m) fun _ _ q => q) ((Sm₁.trans Sm').trans Sm₂) hE

theorem ex_if {test : Expr} {body orelse : List Stmt} {pos : Pos} {b : Bool} (ht : Tr prog w B a σ own test b) (h1 : b = true → Ex prog w B a σ own body (Then prog w B a rest Φ)) (h2 : b = false → Ex prog w B a σ own orelse (Then prog w B a rest Φ)) :
    Ex prog w B a σ own (.If test body orelse pos :: rest) Φ :=
  ex_step fun s g Q E S nd k₁ k₂ => by
    refine wpAny_If (ht s g _ _ S fun s₁ g₁ G₁ Sm₁ => ?_)
    have fin : ∀ {ss : List Stmt}, Ex prog w B a σ own ss (Then prog w B a rest Φ) → wpAny (model prog w) a.A (execs ss a.env) Q E s₁ := fun h =>
      h s₁ g₁ Q E (S.grow G₁) nd fun f fl σ' own' s' g' p r S' nd' on G Sm => by
        have on' : OwnNew own s.heap own' := fun q hq e => on q hq (G₁.ext.some e)
        have G' := (G₁.toX (X := Mu a own)).trans G fun _ _ q => q
        cases fl with
        | next => cases r; exact k₁ s' g' σ' own' S' nd' on' G' (Sm₁.trans Sm) p
        | brk => exact k₂ f .brk s' g' σ' own' (fun z => by cases z) p r S' nd' on' G' (Sm₁.trans Sm)
        | cont => exact k₂ f .cont s' g' σ' own' (fun z => by cases z) p r S' nd' on' G' (Sm₁.trans Sm)
        | ret d => exact k₂ f (.ret d) s' g' σ' own' (fun z => by cases z) p r S' nd' on' G' (Sm₁.trans Sm)
    cases b with
    | true => rw [if_pos rfl]; exact fin (h1 rfl)
    | false => rw [if_neg (by decide)]; exact fin (h2 rfl)
theorem ex_return {value : Expr} {pos : Pos} (hv : EvK prog w B a σ own value fun d own' => Φ (.ret d) σ own') : Ex prog w B a σ own (.Return (some value) pos :: rest) Φ :=
  ex_step fun s g Q E S nd k₁ k₂ => wpAny_Return_some (hv s g _ _ S nd fun v d own' s₁ g₁ hk r S₁ nd₁ on₁ G₁ Sm₁ =>
    k₂ (.ret v) (.ret d) s₁ g₁ σ own' (fun z => by cases z) hk ⟨v, rfl, r⟩ S₁ nd₁ on₁ G₁.toX Sm₁)
theorem ex_break {pos : Pos} (h : Φ .brk σ own) : Ex prog w B a σ own (.Break pos :: rest) Φ :=
  ex_step fun s g Q E S nd k₁ k₂ => wpAny_Break (k₂ .brk .brk s g σ own (fun z => by cases z) h rfl S nd (.refl _ _) (Grow.toX (.refl S.gh)) (.refl s))

/-- o[i] = value, on a list of one's own -/
theorem ex_setitem {o i value : Expr} {p pos : Pos} {Z : Addr} {ds : List D} {k : Int} {d : D} {own' : Owns} (hv : Ev prog w B a σ own value d) (ho : Ev prog w B a σ own o (.val (.ref Z))) (hi : Ev prog w B a σ own i (.int k))
    (x : OwnSet own Z ds (ds.set k.toNat d) own') (h0 : 0 ≤ k) (h1 : k < ds.length) (h2 : k < 2 ^ 63) (hE : Ex prog w B a σ own' rest Φ) (hs : swapsWith value (some (.Subscript o i p)) pos.line a.env = pure false) :
    Ex prog w B a σ own (.Assign [.Subscript o i p] value pos :: rest) Φ :=
  ex_step fun s g Q E S nd k₁ k₂ => by
    refine wpAny_Assign_Subscript (hv s g _ _ S fun v s₁ g₁ G₁ Sm₁ r₁ => ho s₁ g₁ _ _ (S.grow G₁) fun u s₂ g₂ G₂ Sm₂ r₂ => hi s₂ g₂ _ _ ((S.grow G₁).grow G₂) fun z s₃ g₃ G₃ Sm₃ r₃ => ?_) hs
    have S₃ := ((S.grow G₁).grow G₂).grow G₃
    rw [rep_val.mp r₂]
    obtain ⟨t, rfl⟩ := rep_int.mp r₃
    obtain ⟨hg, us, L, ru⟩ := S₃.own _ x.mem
    have ru : RepAll g₃ ds us := ru
    obtain ⟨en, eo⟩ := id L
    refine ki_setAt eo h0 h2 (by simp only [List.size_toArray, ru.length]; exact h1) ?_
    have L₄ : (s₃.heap.update Z (Obj.mapSeq (·.setIfInBounds k.toNat v))).PlainList Z (us.set k.toNat v).toArray := by
      have q := plain_map (·.setIfInBounds k.toNat v) eo
      simp only [List.setIfInBounds_toArray] at q
      exact q
    have S₄ := S₃.setOwn nd x (Heap.SameBut.update ..) L₄ (ru.set ((r₁.mono G₂.gg).mono G₃.gg))
    have Sm₄ : Same s₃ { s₃ with heap := s₃.heap.update Z (Obj.mapSeq (·.setIfInBounds k.toNat v)) } := ⟨rfl, rfl, rfl⟩
    refine k₁ { s₃ with heap := s₃.heap.update Z (Obj.mapSeq (·.setIfInBounds k.toNat v)) } g₃ σ own' S₄ (x.nd nd) (x.new _) ?_ (((Sm₁.trans Sm₂).trans Sm₃).trans Sm₄) hE
    exact (((G₁.trans G₂).trans G₃).toX (X := Mu a own)).trans ((GrowX.one S₃.gh hg (Heap.SameBut.update ..)).mono fun b _ e => .inr ⟨_, x.mem, e.symm⟩) fun _ _ q => q
end
end Mine
end
section
open PySem PySem.W PyProof.Rows
set_option maxRecDepth 10000
set_option linter.unusedVariables false
namespace Mine

/-! at a function's end its own lists freeze -/
mutual
noncomputable def sub (own : Owns) : D → D
  | .val (.ref Z) => match own.lookup Z with | some ds => .lst ds | none => .val (.ref Z)
  | .val v => .val v
  | .int i => .int i
  | .byt b => .byt b
  | .rng x y z => .rng x y z
  | .tup ds => .tup (subs own ds)
  | .lst ds => .lst (subs own ds)
noncomputable def subs (own : Owns) : List D → List D
  | [] => []
  | d :: ds => sub own d :: subs own ds
end
theorem own_of_lookup : ∀ {own : Owns} {Z : Addr} {ds : List D}, own.lookup Z = some ds → (Z, ds) ∈ own
  | [], _, _, h => by simp at h
  | p :: r, Z, ds, h => by
    rw [List.lookup_cons] at h
    by_cases e : Z = p.1
    · subst e
      have h' : some p.2 = some ds := by simpa using h
      cases h'; exact .head _
    · have : (Z == p.1) = false := by rw [beq_eq_false_iff_ne]; exact e
      rw [this] at h
      exact .tail _ (own_of_lookup h)
/-- all the own lists frozen -/
noncomputable def frz (h : Heap) : Owns → Heap → Heap
  | [], g => g
  | p :: r, g => frz h r (withObj g h p.1)
theorem withObj_stays {g h : Heap} {Z : Addr} (k : g.StaysIn h) : (withObj g h Z).StaysIn h := fun b o e => by
  rw [withObj_get k] at e
  by_cases hb : b = Z
  · rw [if_pos hb] at e; exact e
  · rw [if_neg hb] at e; exact k b o e
theorem stays_withObj {g h : Heap} {Z : Addr} (k : g.StaysIn h) : g.StaysIn (withObj g h Z) := fun b o e => by
  rw [withObj_get k]
  by_cases hb : b = Z
  · rw [if_pos hb]; exact k b o e
  · rw [if_neg hb]; exact e
theorem frz_stays {h : Heap} : ∀ (own : Owns) {g : Heap}, g.StaysIn h → g.StaysIn (frz h own g) ∧ (frz h own g).StaysIn h
  | [], g, k => ⟨stays_refl _, k⟩
  | p :: r, g, k => by
    obtain ⟨h1, h2⟩ := frz_stays (h := h) r (withObj_stays (Z := p.1) k)
    exact ⟨stays_trans (stays_withObj k) h1, h2⟩
theorem frz_new {h : Heap} : ∀ (own : Owns) {g : Heap}, g.StaysIn h → ∀ b, (frz h own g).get? b ≠ none → g.get? b ≠ none ∨ ∃ p ∈ own, p.1 = b
  | [], g, k, b, e => .inl e
  | p :: r, g, k, b, e => by
    rcases frz_new (h := h) r (withObj_stays (Z := p.1) k) b e with q | ⟨q, hq, e'⟩
    · rw [withObj_get k] at q
      by_cases hb : b = p.1
      · exact .inr ⟨p, .head _, hb.symm⟩
      · rw [if_neg hb] at q; exact .inl q
    · exact .inr ⟨q, .tail _ hq, e'⟩
theorem frz_list {h : Heap} : ∀ (own : Owns) {g : Heap}, g.StaysIn h → ∀ p ∈ own, ∀ vs : Array Value, h.PlainList p.1 vs → (frz h own g).PlainList p.1 vs
  | [], g, k, p, hp, vs, L => nomatch hp
  | q :: r, g, k, p, hp, vs, L => by
    have k' := withObj_stays (Z := q.1) k
    rcases List.mem_cons.mp hp with rfl | hp
    · have := withObj_plain k L
      exact this.at fun o e => (frz_stays r k').1 _ o e
    · exact frz_list r k' p hp vs L
mutual
theorem sub_rep {g h : Heap} {own : Owns} (k : g.StaysIn h) (ho : OwnOk own g h) : ∀ {d : D} {v : Value}, Rep g d v → Rep (frz h own g) (sub own d) v
  | .val u, v, r => by
    have e := rep_val.mp r
    subst e
    cases v with
    | ref Z =>
      rw [sub]
      cases q : own.lookup Z with
      | none => exact rep_val.mpr rfl
      | some ds =>
        have hm : (Z, ds) ∈ own := own_of_lookup q
        obtain ⟨_, vs, L, ra⟩ := ho _ hm
        exact rep_lst.mpr ⟨Z, vs, rfl, frz_list own k _ hm _ L, RepAll.mono (frz_stays own k).1 ra⟩
    | _ => exact rep_val.mpr rfl
  | .int i, v, r => by rw [sub]; exact rep_int.mpr (rep_int.mp r)
  | .byt i, v, r => by rw [sub]; exact rep_byt.mpr (rep_byt.mp r)
  | .rng x y z, v, r => by rw [sub]; exact r.mono (frz_stays own k).1
  | .tup ds, v, r => by
    rw [sub]
    obtain ⟨a, vs, e, t, ra⟩ := rep_tup.mp r
    exact rep_tup.mpr ⟨a, vs, e, stays_isTuple (frz_stays own k).1 t, subs_rep k ho ra⟩
  | .lst ds, v, r => by
    rw [sub]
    obtain ⟨a, vs, e, t, ra⟩ := rep_lst.mp r
    exact rep_lst.mpr ⟨a, vs, e, t.at fun o e => (frz_stays own k).1 a o e, subs_rep k ho ra⟩
theorem subs_rep {g h : Heap} {own : Owns} (k : g.StaysIn h) (ho : OwnOk own g h) : ∀ {ds : List D} {vs : List Value}, RepAll g ds vs → RepAll (frz h own g) (subs own ds) vs
  | [], vs, r => by rw [subs]; exact repAll_nil.mpr (repAll_nil.mp r)
  | d :: ds, vs, r => by
    rw [subs]
    obtain ⟨v, r', e, h1, h2⟩ := repAll_cons.mp r
    exact repAll_cons.mpr ⟨v, r', e, sub_rep k ho h1, subs_rep k ho h2⟩
end

/-! calls of functions -/
structure AOk (A : Around) (l : List Env) (n : Nat) : Prop where
  hand : A.handled = none
  frames : A.frames = some l
  dep : A.depth + n < recursionLimit
  uni : A.units + 8 * n + 300 < cLine
theorem Act.Ok.a {a : Act} {n : Nat} (ok : a.Ok n) : AOk a.A a.l n := ⟨ok.hand, ok.frames, ok.dep, ok.uni⟩

noncomputable def fAct (fd : FuncData) (fa L : Addr) (A : Around) (l : List Env) : Act :=
  { env := callEnvC fd L fa, A := A.deeper (callEnvC fd L fa), l := callEnvC fd L fa :: l, mc := (cellsFrom (L + 1) fd.scope.names []).map (·.2) }

structure FnOk (B : Heap) (fd : FuncData) (names : List Str) (body : List Stmt) : Prop where
  body : fd.body = .stmts body
  clo : fd.closure = []
  kind : fd.scope.kind = .function
  glob : fd.globals = mainGlobals
  blt : fd.builtins = builtinsNs
  co : fd.scope.isCoroutine = false
  gen : fd.scope.isGenerator = false
  code : B.CodeRec fd.code fd.qualname
  bind : ∀ (s : Shared) vs, (∀ b o, B.get? b = some o → s.heap.get? b = some o) → vs.length = names.length → BindsTo s fd ⟨vs, []⟩ (names.zip vs)
  nd : names.Nodup
  kinds : ∀ x ∈ names, fd.scope.names.lookup x = some .local ∨ (fd.scope.names.lookup x = some .cell ∧ ∀ n, ((cellsFrom n fd.scope.names []).lookup x).isSome = true)
  cnd : ((cellsFrom 0 fd.scope.names []).map (·.1)).Nodup

theorem cellsFrom_keys : ∀ (names : List (Str × NameKind)) (n m : Nat) (acc acc' : List (Str × Addr)), acc.map (·.1) = acc'.map (·.1) → (cellsFrom n names acc).map (·.1) = (cellsFrom m names acc').map (·.1)
  | [], n, m, acc, acc', h => h
  | (x, k) :: r, n, m, acc, acc', h => by
    unfold cellsFrom
    by_cases hk : (k == .cell) = true
    · rw [if_pos hk, if_pos hk]; exact cellsFrom_keys r _ _ _ _ (by simp [h])
    · rw [if_neg hk, if_neg hk]; exact cellsFrom_keys r _ _ _ _ h
theorem lookup_of_mem {β : Type} : ∀ {l : List (Str × β)} {p : Str × β}, (l.map (·.1)).Nodup → p ∈ l → l.lookup p.1 = some p.2
  | [], p, _, hp => nomatch hp
  | q :: r, p, nd, hp => by
    rw [List.map_cons, List.nodup_cons] at nd
    rw [List.lookup_cons]
    rcases List.mem_cons.mp hp with rfl | hp
    · rw [beq_self_eq_true]
    · have : (p.1 == q.1) = false := by
        rw [beq_eq_false_iff_ne]; exact fun e => nd.1 (e ▸ List.mem_map_of_mem hp)
      rw [this]; exact lookup_of_mem nd.2 hp
theorem bindL_other {kindOf : Str → Option NameKind} : ∀ (bs : List (Str × Value)) (m : Str → Option Value) (x : Str), (∀ p ∈ bs, p.1 ≠ x) → bindL kindOf bs m x = m x
  | [], m, x, _ => rfl
  | (y, v) :: r, m, x, h => by
    unfold bindL
    rw [bindL_other r _ x fun p hp => h p (.tail _ hp)]
    have : x ≠ y := fun e => h (y, v) (.head _) e.symm
    split
    · exact if_neg this
    · rfl
theorem bindC_other {kindOf : Str → Option NameKind} : ∀ (bs : List (Str × Value)) (m : Str → Option Value) (x : Str), (∀ p ∈ bs, p.1 ≠ x) → bindC kindOf bs m x = m x
  | [], m, x, _ => rfl
  | (y, v) :: r, m, x, h => by
    unfold bindC
    rw [bindC_other r _ x fun p hp => h p (.tail _ hp)]
    have : x ≠ y := fun e => h (y, v) (.head _) e.symm
    split
    · rfl
    · exact if_neg this
theorem mem_zip_fst {β : Type} : ∀ {ns : List Str} {vs : List β} {p : Str × β}, p ∈ ns.zip vs → p.1 ∈ ns
  | [], _, _, h => by simp at h
  | n :: ns, [], _, h => by simp at h
  | n :: ns, v :: vs, p, h => by
    rw [List.zip_cons_cons] at h
    rcases List.mem_cons.mp h with rfl | h
    · exact .head _
    · exact .tail _ (mem_zip_fst h)
theorem bind_rep {g : Heap} {kindOf : Str → Option NameKind} : ∀ {names : List Str} {ds : List D} {vs : List Value} (m cm : Str → Option Value), names.Nodup → RepAll g ds vs → ∀ {x : Str} {d : D}, (names.zip ds).lookup x = some d →
    ∃ v, Rep g d v ∧ (kindOf x = some .local → bindL kindOf (names.zip vs) m x = some v) ∧ (kindOf x ≠ some .local → bindC kindOf (names.zip vs) cm x = some v)
  | [], ds, vs, m, cm, _, _, x, d, h => by simp at h
  | n :: ns, [], vs, m, cm, _, _, x, d, h => by simp at h
  | n :: ns, e :: ds, vs, m, cm, nd, r, x, d, h => by
    obtain ⟨v, r', rfl, h1, h2⟩ := repAll_cons.mp r
    rw [List.nodup_cons] at nd
    rw [List.zip_cons_cons, List.lookup_cons] at h
    rw [List.zip_cons_cons]
    by_cases hx : x = n
    · subst hx
      rw [beq_self_eq_true] at h
      cases h
      have ho : ∀ p ∈ ns.zip r', p.1 ≠ x := fun p hp e => nd.1 (e ▸ mem_zip_fst hp)
      refine ⟨v, h1, fun hk => ?_, fun hk => ?_⟩
      · unfold bindL; rw [bindL_other _ _ _ ho, if_pos hk, if_pos rfl]
      · unfold bindC; rw [bindC_other _ _ _ ho, if_neg hk, if_pos rfl]
    · have hb : (x == n) = false := by rw [beq_eq_false_iff_ne]; exact hx
      rw [hb] at h
      obtain ⟨u, q1, q2, q3⟩ := bind_rep (g := g) (kindOf := kindOf) (if kindOf n = some .local then fun y => if y = n then some v else m y else m) (if kindOf n = some .local then cm else fun y => if y = n then some v else cm y) nd.2 h2 h
      exact ⟨u, q1, q2, q3⟩

section
variable {prog : Program} {w : World} {B : Heap} {A : Around} {l : List Env} {own : Owns} {n : Nat} {mg mb : Str → Option Value}
theorem fAct_ok {fd : FuncData} {fa L : Addr} {names : List Str} {body : List Stmt} (ok : AOk A l (n + 1)) (F : FnOk B fd names body) : (fAct fd fa L A l).Ok n :=
  ⟨F.kind, ok.hand, by show A.frames.map _ = _; rw [ok.frames]; rfl, F.glob, F.blt, by show A.depth + 1 + n < _; have := ok.dep; exact Om.sf1 ‹_›, by show A.units + 3 + 8 * n + 300 < _; have := ok.uni; omega⟩
set_option maxHeartbeats 800000 in
theorem op_fn {fd : FuncData} {fa : Addr} {o : Obj} {names : List Str} {body : List Stmt} {ds : List D} {d : D} (G : Gl B mg mb) (ok : AOk A l (n + 1)) (ho : B.get? fa = some o) (hdata : o.data = .func fd) (F : FnOk B fd names body) (hl : ds.length = names.length)
    (hb : ∀ L, Ex prog w B (fAct fd fa L A l) (names.zip ds) [] body (fun fl _ own' => ∃ d', fl = .ret d' ∧ (OwnNd own' → sub own' d' = d))) : Op prog w B A l own (fun vs => call (.ref fa) vs) ds d := fun s g vs Q E S R k => by
  have up : ∀ b o, B.get? b = some o → s.heap.get? b = some o := fun b o e => S.gh _ _ (S.bg _ _ e)
  refine wpAny_call ?_
  have hbs := F.bind s vs up (by rw [R.length, hl])
  have hkind : ∀ x ∈ names.zip vs, fd.scope.names.lookup x.1 = some .local ∨ (fd.scope.names.lookup x.1 = some .cell ∧ ((cellsFrom (s.heap.objs.size + 1) fd.scope.names []).lookup x.1).isSome = true) := fun x hx =>
    (F.kinds x.1 (mem_zip_fst hx)).imp id fun q => ⟨q.1, q.2 _⟩
  refine codeAny_call_function (by have := ok.dep; exact Om.sf2 ‹_›) (up _ _ ho) hdata F.co F.gen F.body (F.code.keeps up) (hbs _ _ _ _ ?_)
  rw [F.clo]
  refine wpAny_newFunctionEnv_cells F.kind hkind fun env he s₁ X => ?_
  subst he
  have X : InCallC s (callEnvC fd s.heap.objs.size fa).locals (bindL (callEnvC fd s.heap.objs.size fa).kindOf (names.zip vs) fun _ => none) (callEnvC fd s.heap.objs.size fa).cells (bindC (callEnvC fd s.heap.objs.size fa).kindOf (names.zip vs) fun _ => none) s₁ := X
  refine ⟨(G.nolimit.keeps up).keeps X.toInCall.keep, codeAny_func ?_⟩
  show wpAny (model prog w) (A.deeper (callEnvC fd s.heap.objs.size fa)) (execs body (callEnvC fd s.heap.objs.size fa)) _ _ s₁
  have hL : s.heap.get? s.heap.objs.size = none := get?_size_none _
  have hge : ∀ b : Nat, s.heap.objs.size ≤ b → s.heap.get? b = none := fun b hb => Heap.get?_none_of_le hb
  have hnd : ((cellsFrom (s.heap.objs.size + 1) fd.scope.names []).map (·.1)).Nodup := by rw [cellsFrom_keys _ _ 0 [] [] rfl]; exact F.cnd
  have keep := X.toInCall.keep
  have gh₁ : g.StaysIn s₁.heap := fun b o e => keep b o (S.gh b o e)
  have frE : ∀ f ∈ l.filterMap (·.frame), s.heap.get? f ≠ none := fun f hf => by obtain ⟨_, o, ho, _⟩ := S.ff.mem hf; exact ne_of_some ho
  have hfr : (fAct fd fa s.heap.objs.size A l).fr = s.heap.objs.size :: l.filterMap (·.frame) := rfl
  have above : ∀ p ∈ cellsFrom (s.heap.objs.size + 1) fd.scope.names [], s.heap.objs.size < p.2 := fun p hp => X.above p.1 p.2 hp
  have SC : Sv B (fAct fd fa s.heap.objs.size A l) (names.zip ds) [] g s₁.heap := by
    refine ⟨⟨S.bg, gh₁, ⟨by show fd.scope.kind ≠ .module; rw [F.kind]; decide, ?_, S.ff.of_keeps fun b o e _ => ⟨o, keep b o e, rfl⟩⟩, fun f hf => ⟨?_, fun p hp => nomatch hp⟩, fun p hp => nomatch hp⟩, ⟨_, X.toInCall.ns, fun x d hx hk => ?_⟩, fun x d hx hk => ?_, fun p hp => ?_, X.apart, stays_none S.gh hL, fun b hb => ?_⟩
    · obtain ⟨o', es, ep, e, hd, _⟩ := X.toInCall.ns
      exact ⟨s.heap.objs.size, o', rfl, stays_none S.bg (stays_none S.gh hL), e, fun vs q => by rw [hd] at q; cases q⟩
    · have hf : f ∈ s.heap.objs.size :: l.filterMap (·.frame) := hf
      rcases List.mem_cons.mp hf with rfl | hf
      · exact stays_none S.gh hL
      · exact (S.fg f hf).1
    · obtain ⟨v, q1, q2, _⟩ := bind_rep (kindOf := (callEnvC fd s.heap.objs.size fa).kindOf) (fun _ => none) (fun _ => none) F.nd R hx
      exact ⟨v, q2 hk, q1⟩
    · obtain ⟨v, q1, _, q3⟩ := bind_rep (kindOf := (callEnvC fd s.heap.objs.size fa).kindOf) (fun _ => none) (fun _ => none) F.nd R hx
      have hxm : x ∈ names := mem_zip_fst (mem_of_lookup hx)
      rcases F.kinds x hxm with q | ⟨q, hc⟩
      · exact absurd q hk
      · obtain ⟨c, hc⟩ := Option.isSome_iff_exists.mp (hc (s.heap.objs.size + 1))
        have := X.cell x c hc
        rw [q3 hk] at this
        exact ⟨c, v, hc, this, q1⟩
    · refine ⟨⟨_, X.cell p.1 p.2 (lookup_of_mem hnd hp)⟩, stays_none S.gh (hge _ (Nat.le_of_lt (above p hp)))⟩
    · obtain ⟨p, hp, e⟩ := List.mem_map.mp hb
      exact ⟨p, hp, e⟩
  refine hb s.heap.objs.size s₁ g _ _ SC List.nodup_nil fun f fl σ' own' s' g' hΦ r S' nd' on G' Sm' => ?_
  obtain ⟨d', rfl, hd⟩ := hΦ
  obtain ⟨v, rfl, rv⟩ := r
  have newY : ∀ b, Mu (fAct fd fa s.heap.objs.size A l) [] b → s.heap.get? b = none := by
    rintro b ((rfl | hb) | ⟨p, hp, _⟩)
    · exact hL
    · obtain ⟨p, hp, rfl⟩ := List.mem_map.mp hb
      exact hge _ (Nat.le_of_lt (above p hp))
    · exact nomatch hp
  have ownNew : ∀ p ∈ own', s.heap.get? p.1 = none := fun p hp => by
    cases q : s.heap.get? p.1 with
    | none => rfl
    | some o => obtain ⟨z, hz, _⟩ := on p hp (ne_of_some (keep _ _ q)); exact nomatch hz
  have Sm : Same s s' := by obtain ⟨h₁, tk, rfl, _⟩ := X.done; exact ⟨Sm'.gens, Sm'.drawn, Sm'.os⟩
  refine k v s' (frz s'.heap own' g') ⟨fun b o e => ?_, stays_trans G'.gg (frz_stays own' S'.gh).1, (frz_stays own' S'.gh).2, fun b e e' => ?_⟩ Sm (hd nd' ▸ sub_rep S'.gh S'.own rv)
  · obtain ⟨sl, e₁, q⟩ := G'.ext b o (keep b o e) fun m => by have := newY b m; rw [e] at this; cases this
    refine ⟨sl, e₁, fun nf => q ?_⟩
    rw [hfr]
    intro hm
    rcases List.mem_cons.mp hm with rfl | hm
    · rw [hL] at e; cases e
    · exact nf hm
  · rcases frz_new own' S'.gh b e' with q | ⟨p, hp, rfl⟩
    · obtain ⟨o, ho⟩ := some_of_ne e
      rcases G'.new b (ne_of_some (keep b o ho)) q with q | q
      · exact q
      · exact absurd (newY b q) e
    · exact absurd (ownNew p hp) e
end
end Mine
end
section
open PySem PySem.W PyProof.Rows
set_option maxRecDepth 10000
set_option linter.unusedVariables false
namespace Mine
section
variable {prog : Program} {w : World} {B : Heap} {a : Act} {σ : Vars} {own : Owns} {n : Nat} {rest : List Stmt} {Φ : Fl → Vars → Owns → Prop}

noncomputable def MuY (a : Act) (own : Owns) (Y : Addr → Prop) (b : Addr) : Prop := Mu a own b ∨ Y b
theorem step_new {Y : Addr → Prop} {σ' : Vars} {own' own'' : Owns} {fr : List Addr} {g h g' h' : Heap} (S' : Sv B a σ' own' g' h') (hY : ∀ b, Y b → h'.get? b ≠ none) (on : OwnNew own h own') (G : GrowX (MuY a own Y) fr g h g' h') (on' : OwnNew own' h' own'') : OwnNew own h own'' :=
  on.trans on' fun b e => by
    by_cases hX : MuY a own Y b
    · rcases hX with (m | q) | y
      · rcases m with rfl | m
        · obtain ⟨m, hn, _⟩ := S'.ns; exact .inl (ns_ne hn)
        · obtain ⟨p, hp, rfl⟩ := S'.mcs b m
          obtain ⟨⟨v, h1⟩, _⟩ := S'.cells p hp
          exact .inl (isCell_ne h1)
      · exact .inr q
      · exact .inl (hY b y)
    · obtain ⟨o, ho⟩ := some_of_ne e
      obtain ⟨sl, q, _⟩ := G.ext b o ho hX
      exact .inl (ne_of_some q)
theorem step_grow {Y : Addr → Prop} {own' : Owns} {fr : List Addr} {g h g' h' g'' h'' : Heap} (on : OwnNew own h own') (G : GrowX (MuY a own Y) fr g h g' h') (G' : GrowX (MuY a own' Y) fr g' h' g'' h'') : GrowX (MuY a own Y) fr g h g'' h'' :=
  G.trans G' fun b e m => m.imp (on.mu b e) id
theorem muY_of {Y : Addr → Prop} {fr : List Addr} {g h g' h' : Heap} (G : GrowX (Mu a own) fr g h g' h') : GrowX (MuY a own Y) fr g h g' h' := G.mono fun _ _ m => .inl m
theorem muY_no {fr : List Addr} {g h g' h' : Heap} (G : GrowX (MuY a own (fun _ => False)) fr g h g' h') : GrowX (Mu a own) fr g h g' h' := G.mono fun _ _ m => m.elim id False.elim

/-- what a loop's body must reach -/
noncomputable def Loop (prog : Program) (w : World) (B : Heap) (a : Act) (Inv : Vars → Owns → Prop) (rest : List Stmt) (Φ : Fl → Vars → Owns → Prop) : Fl → Vars → Owns → Prop
  | .next, σ, own => Inv σ own
  | .cont, σ, own => Inv σ own
  | .brk, σ, own => Ex prog w B a σ own rest Φ
  | .ret d, σ, own => Φ (.ret d) σ own

theorem ex_while {test : Expr} {body : List Stmt} {pos : Pos} (Inv : Nat → Vars → Owns → Prop) (m : Nat) (h0 : Inv m σ own)
    (ht : ∀ m σ own, Inv m σ own → ∃ b, Tr prog w B a σ own test b ∧ (b = true → Ex prog w B a σ own body (Loop prog w B a (fun σ' own' => ∃ m', m' < m ∧ Inv m' σ' own') rest Φ)) ∧ (b = false → Ex prog w B a σ own rest Φ)) :
    Ex prog w B a σ own (.While test body [] pos :: rest) Φ :=
  ex_step fun s g Q E S nd k₁ k₂ => by
    refine wpAny_While (codeAny_whileLoop (fun m s' => ∃ g' σ' own', Inv m σ' own' ∧ Sv B a σ' own' g' s'.heap ∧ OwnNd own' ∧ OwnNew own s.heap own' ∧ GrowX (Mu a own) a.fr g s.heap g' s'.heap ∧ Same s s') ?_ m ⟨g, σ, own, h0, S, nd, .refl _ _, Grow.toX (.refl S.gh), .refl s⟩)
    rintro m s₁ ⟨g₁, σ₁, own₁, hI, S₁, nd₁, on₁, G₁, Sm₁⟩
    obtain ⟨b, hT, hb, he⟩ := ht m σ₁ own₁ hI
    refine hT s₁ g₁ _ _ S₁ fun s₂ g₂ G₂ Sm₂ => ?_
    have S₂ := S₁.grow G₂
    have hno : ∀ b, (fun _ : Addr => False) b → s₂.heap.get? b ≠ none := fun _ z => z.elim
    have G₁₂ : GrowX (MuY a own (fun _ => False)) a.fr g s.heap g₂ s₂.heap := muY_of (G₁.trans (G₂.toX (X := Mu a own)) fun _ _ q => q)
    cases b with
    | true =>
      rw [if_pos rfl]
      refine hb rfl s₂ g₂ _ _ S₂ nd₁ fun f fl σ₃ own₃ s₃ g₃ p r S₃ nd₃ on₃ G₃ Sm₃ => ?_
      have on' : OwnNew own s.heap own₃ := step_new S₂ hno on₁ G₁₂ on₃
      have G' : GrowX (Mu a own) a.fr g s.heap g₃ s₃.heap := muY_no (step_grow on₁ G₁₂ (muY_of G₃))
      have Sm' := (Sm₁.trans Sm₂).trans Sm₃
      cases fl with
      | next => cases r; obtain ⟨m', hm, hi⟩ := p; exact ⟨m', hm, g₃, σ₃, own₃, hi, S₃, nd₃, on', G', Sm'⟩
      | cont => cases r; obtain ⟨m', hm, hi⟩ := p; exact ⟨m', hm, g₃, σ₃, own₃, hi, S₃, nd₃, on', G', Sm'⟩
      | brk => cases r; exact k₁ s₃ g₃ σ₃ own₃ S₃ nd₃ on' G' Sm' p
      | ret d => obtain ⟨v, rfl, rv⟩ := r; exact k₂ (.ret v) (.ret d) s₃ g₃ σ₃ own₃ (fun z => by cases z) p ⟨v, rfl, rv⟩ S₃ nd₃ on' G' Sm'
    | false =>
      rw [if_neg (by decide)]
      exact wpAny_execs_nil (k₁ s₂ g₂ σ₁ own₁ S₂ nd₁ on₁ (muY_no G₁₂) (Sm₁.trans Sm₂) (he rfl))

set_option maxHeartbeats 800000 in
/-- a for loop over an iterator that stands -/
theorem for_run {target : Expr} {body : List Stmt} {I : Addr} {fp : List Addr} {ds : List D} {P : Nat → Value → Prop} {St : Nat → Heap → Prop} (W : Walks prog w a.A I fp [I] ds.length P St) (Inv : Nat → Vars → Owns → Prop)
    (hbody : ∀ i d σ own, ds[i]? = some d → Inv i σ own → ∃ σ', Tg prog w B a σ own target d σ' ∧ Ex prog w B a σ' own body (Loop prog w B a (Inv (i + 1)) rest Φ))
    (hend : ∀ σ own, Inv ds.length σ own → Ex prog w B a σ own rest Φ) {s : Shared} {g : Heap} {Q : Flow → Shared → Prop} {E : Value → Shared → Prop}
    (S : Sv B a σ own g s.heap) (nd : OwnNd own) (hst : St 0 s.heap) (hInv : Inv 0 σ own) (hP : ∀ i v, P i v → ∃ d, ds[i]? = some d ∧ Rep g d v) (hStI : ∀ i h, St i h → PlainIt h I)
    (hIL : a.env.locals ≠ I) (hIc : ∀ q ∈ a.env.cells, q.2 ≠ I) (hIo : ∀ q ∈ own, q.1 ≠ I) (hIf : I ∉ a.fr) (hgI : g.get? I = none) (hfp : ∀ b ∈ fp, b = I ∨ g.get? b ≠ none)
    (k₁ : ∀ s' g' σ' own', Sv B a σ' own' g' s'.heap → OwnNd own' → OwnNew own s.heap own' → GrowX (MuY a own (· = I)) a.fr g s.heap g' s'.heap → Same s s' → Ex prog w B a σ' own' rest Φ → Q .next s')
    (k₂ : ∀ f fl s' g' σ' own', fl ≠ .next → Φ fl σ' own' → FlRep g' fl f → Sv B a σ' own' g' s'.heap → OwnNd own' → OwnNew own s.heap own' → GrowX (MuY a own (· = I)) a.fr g s.heap g' s'.heap → Same s s' → Q f s') :
    codeAny (model prog w) a.A (.forLoop target (.ref I) body [] a.env) (fun r s' => match r with | .ok f => Q f s' | .error e => cameBackBy (model prog w) a.A a.env E e s') s := by
  have hIe : s.heap.get? I ≠ none := (hStI 0 _ hst).ne
  refine codeAny_forLoop_any (fun m s' => ∃ i g' σ' own', m = ds.length + 1 - i ∧ i ≤ ds.length ∧ Inv i σ' own' ∧ St i s'.heap ∧ Sv B a σ' own' g' s'.heap ∧ OwnNd own' ∧ OwnNew own s.heap own' ∧ GrowX (MuY a own (· = I)) a.fr g s.heap g' s'.heap ∧ g'.get? I = none ∧ Same s s') ?_ (ds.length + 1)
    ⟨0, g, σ, own, rfl, Nat.zero_le _, hInv, hst, S, nd, .refl _ _, Grow.toX (.refl S.gh), hgI, .refl s⟩
  rintro m s₁ ⟨i, g₁, σ₁, own₁, rfl, hi, hI, st₁, S₁, nd₁, on₁, G₁, hgI₁, Sm₁⟩
  have hIo₁ : ∀ q ∈ own₁, q.1 ≠ I := fun q hq e => by
    obtain ⟨r, hr, e'⟩ := on₁ q hq (e ▸ hIe)
    exact hIo r hr (e'.trans e)
  have notMu : ¬ Mu a own₁ I := by
    rintro ((e | hm) | ⟨q, hq, e⟩)
    · exact hIL e.symm
    · obtain ⟨p, hp, e⟩ := S₁.mcs I hm; exact hIc p hp e
    · exact hIo₁ q hq e
  have YI : ∀ {h h' g' : Heap}, (∀ b o, b ≠ I → h.get? b = some o → h'.get? b = some o) → g'.StaysIn h → g'.get? I = none → GrowX (MuY a own₁ (· = I)) a.fr g' h g' h' := fun up st hg => ⟨fun b o e nb => ⟨o.slots, up b o (fun z => nb (.inr z)) e, fun _ => rfl⟩, stays_refl _, fun b o e => up b o (fun z => by rw [z, hg] at e; cases e) (st b o e), fun _ _ e => .inl e⟩
  by_cases hlt : i < ds.length
  · refine W.item i s₁ _ _ hlt st₁ fun v h₂ tk hPv st₂ hk₂ => ?_
    have hk₂' : ∀ b o, b ≠ I → s₁.heap.get? b = some o → h₂.get? b = some o := fun b o hb e => hk₂ b o (by simpa using hb) e
    have S₂ : Sv B a σ₁ own₁ g₁ h₂ := S₁.other hk₂' hIL hIc hIo₁ hIf hgI₁
    obtain ⟨d, hd, hr⟩ := hP i v hPv
    have hr₁ := hr.mono G₁.gg
    refine PlainIt.let (s := { s₁ with heap := h₂, toks := tk }) (hStI _ _ st₂) ?_
    obtain ⟨σ', hT, hE⟩ := hbody i d σ₁ own₁ hd hI
    refine hT { s₁ with heap := h₂, toks := tk } g₁ v _ _ S₂ hr₁ fun s₃ S₃ G₃ Sm₃ => ?_
    refine hE s₃ g₁ _ _ S₃ nd₁ fun f fl σ₄ own₄ s₄ g₄ p r S₄ nd₄ on₄ G₄ Sm₄ => ?_
    have keepFp : ∀ {h h' g g' : Heap}, g.StaysIn h → GrowX (Mu a own₁) a.fr g h g' h' → (∀ b ∈ fp, b = I ∨ g.get? b ≠ none) → ∀ b ∈ fp, ∀ o, h.get? b = some o → h'.get? b = some o := by
      intro h h' g g' gh G hg b hb o e
      rcases hg b hb with rfl | hq
      · exact G.ext.keep e notMu hIf
      · obtain ⟨o', ho'⟩ := some_of_ne hq
        have e' := gh b o' ho'
        rw [e] at e'; cases e'
        exact G.gh b o (G.gg b o ho')
    have hfp₁ : ∀ b ∈ fp, b = I ∨ g₁.get? b ≠ none := fun b hb => (hfp b hb).imp id fun q => by
      obtain ⟨o, ho⟩ := some_of_ne q
      exact ne_of_some (G₁.gg b o ho)
    have st₃ : St (i + 1) s₃.heap := W.frame _ _ _ st₂ (keepFp S₂.gh (G₃.mono fun b _ m => mu_own m) hfp₁)
    have st₄ : St (i + 1) s₄.heap := W.frame _ _ _ st₃ (keepFp S₃.gh G₄ hfp₁)
    have G₁₂ := step_grow on₁ G₁ (YI hk₂' S₁.gh hgI₁)
    have G₁₃ : GrowX (MuY a own (· = I)) a.fr g s.heap g₁ s₃.heap := step_grow on₁ G₁₂ (muY_of (G₃.mono fun b _ m => mu_own m))
    have hIe₃ : s₃.heap.get? I ≠ none := (hStI _ _ st₃).ne
    have on' : OwnNew own s.heap own₄ := step_new S₃ (fun b e => by have e : b = I := e; exact e ▸ hIe₃) on₁ G₁₃ on₄
    have G' : GrowX (MuY a own (· = I)) a.fr g s.heap g₄ s₄.heap := step_grow on₁ G₁₃ (muY_of G₄)
    have hgI₄ : g₄.get? I = none := G₄.none hIe₃ hgI₁ notMu
    have Sm' : Same s s₄ := (Sm₁.trans ⟨Sm₃.gens, Sm₃.drawn, Sm₃.os⟩).trans Sm₄
    cases fl with
    | next => cases r; exact ⟨ds.length + 1 - (i + 1), by omega, i + 1, g₄, σ₄, own₄, rfl, hlt, p, st₄, S₄, nd₄, on', G', hgI₄, Sm'⟩
    | cont => cases r; exact ⟨ds.length + 1 - (i + 1), by omega, i + 1, g₄, σ₄, own₄, rfl, hlt, p, st₄, S₄, nd₄, on', G', hgI₄, Sm'⟩
    | brk => cases r; exact k₁ s₄ g₄ σ₄ own₄ S₄ nd₄ on' G' Sm' p
    | ret d => obtain ⟨v, rfl, rv⟩ := r; exact k₂ (.ret v) (.ret d) s₄ g₄ σ₄ own₄ (fun z => by cases z) p ⟨v, rfl, rv⟩ S₄ nd₄ on' G' Sm'
  · have hin : i = ds.length := by exact Om.rc ‹_› ‹_›
    subst hin
    refine W.done s₁ _ _ st₁ fun h₂ tk hk₂ => ?_
    have hk₂' : ∀ b o, b ≠ I → s₁.heap.get? b = some o → h₂.get? b = some o := fun b o hb e => hk₂ b o (by simpa using hb) e
    have S₂ : Sv B a σ₁ own₁ g₁ h₂ := S₁.other hk₂' hIL hIc hIo₁ hIf hgI₁
    exact wpAny_execs_nil (k₁ { s₁ with heap := h₂, toks := tk } g₁ σ₁ own₁ S₂ nd₁ on₁ (step_grow on₁ G₁ (YI hk₂' S₁.gh hgI₁)) (Sm₁.trans ⟨rfl, rfl, rfl⟩) (hend σ₁ own₁ hI))

/-- for target in iter, over frozen things -/
theorem ex_for {target iter : Expr} {body : List Stmt} {pos : Pos} {d : D} {ds : List D} (hit : Ev prog w B a σ own iter d) (hI : It prog w B a.A a.l [] d ds) (Inv : Nat → Vars → Owns → Prop) (h0 : Inv 0 σ own)
    (hbody : ∀ i d σ own, ds[i]? = some d → Inv i σ own → ∃ σ', Tg prog w B a σ own target d σ' ∧ Ex prog w B a σ' own body (Loop prog w B a (Inv (i + 1)) rest Φ))
    (hend : ∀ σ own, Inv ds.length σ own → Ex prog w B a σ own rest Φ) (hs : ∀ x, foldedSetIterable iter a.env x = pure x) :
    Ex prog w B a σ own (.For target iter body [] pos :: rest) Φ :=
  ex_step fun s g Q E S nd k₁ k₂ => by
    refine wpAny_For (hit s g _ _ S fun v s₁ g₁ G₁ Sm₁ r₁ => ?_) hs
    have S₁ := S.grow G₁
    refine hI s₁ g₁ v _ _ ⟨S₁.bg, S₁.gh, S₁.ff, fun f hf => ⟨(S₁.fg f hf).1, fun p hp => nomatch hp⟩, fun p hp => nomatch hp⟩ r₁ fun I fp P St s₂ W st₂ hfp hI₀ hgI hP up₂ hSt Sm₂ => ?_
    have Gu : Grow a.fr g₁ s₁.heap g₁ s₂.heap := Grow.plain S₁.gh up₂
    have S₂ := S₁.grow Gu
    have hIs : s.heap.get? I = none := by
      cases q : s.heap.get? I with
      | none => rfl
      | some o => exact absurd hI₀ (G₁.ext.some (ne_of_some q))
    have G₁₂ := G₁.trans Gu
    have ne1 : ∀ b, s₁.heap.get? b ≠ none → b ≠ I := fun b e z => e (z ▸ hI₀)
    have fin : ∀ {g' h' : Heap}, GrowX (MuY a own (· = I)) a.fr g₁ s₂.heap g' h' → GrowX (Mu a own) a.fr g s.heap g' h' := fun G' =>
      ((G₁₂.toX (X := MuY a own (· = I))).trans G' fun _ _ q => q).mono fun b e m => m.elim id fun z => absurd hIs (z ▸ e)
    have on' : ∀ {own' : Owns}, OwnNew own s₂.heap own' → OwnNew own s.heap own' := fun on q hq e => on q hq (G₁₂.ext.some e)
    refine for_run W Inv hbody hend S₂ nd st₂ h0 hP hSt ?_ ?_ ?_ ?_ hgI (fun b hb => ?_) (fun s' g' σ' own' S' nd' on G' Sm' hE => ?_) (fun f fl s' g' σ' own' hf p r S' nd' on G' Sm' => ?_)
    · obtain ⟨m, hn, _⟩ := S₁.ns; exact ne1 _ (ns_ne hn)
    · exact fun q hq => by obtain ⟨⟨v, h1⟩, _⟩ := S₁.cells q hq; exact ne1 _ (isCell_ne h1)
    · exact fun q hq => by obtain ⟨_, vs, L, _⟩ := S₁.own q hq; exact ne1 _ (plain_ne L)
    · exact fun hf => by obtain ⟨_, o, ho, _⟩ := S₁.ff.mem hf; exact ne1 I (ne_of_some ho) rfl
    · rcases hfp b hb with e | ⟨_, _, e | ⟨p, hp, _⟩⟩
      · exact .inl e
      · exact .inr e
      · exact nomatch hp
    · exact k₁ s' g' σ' own' S' nd' (on' on) (fin G') ((Sm₁.trans Sm₂).trans Sm') hE
    · exact k₂ f fl s' g' σ' own' hf p r S' nd' (on' on) (fin G') ((Sm₁.trans Sm₂).trans Sm')
end
end Mine
end
section
open PySem PySem.W PyProof.Rows
set_option maxRecDepth 10000
set_option linter.unusedVariables false
namespace Mine

noncomputable def pickL {α : Type} (xs : List α) (lo hi st : Option Int) : List α :=
  (sliceRange (sliceBounds lo hi st xs.length).1 (sliceBounds lo hi st xs.length).2.1 (sliceBounds lo hi st xs.length).2.2).filterMap (xs[·]?)
theorem RepAll.places {g : Heap} {ds : List D} {vs : List Value} (h : RepAll g ds vs) : ∀ js : List Nat, RepAll g (js.filterMap (ds[·]?)) (js.filterMap (vs[·]?))
  | [] => .nil
  | j :: js => by
    have ih := RepAll.places h js
    cases hn : ds[j]? with
    | some d =>
      obtain ⟨v, hv, hr⟩ := h.get hn
      simp only [List.filterMap_cons, hn, hv]
      exact .cons hr ih
    | none =>
      have hv : vs[j]? = none := by
        rw [List.getElem?_eq_none_iff] at hn ⊢
        rw [h.length]; exact hn
      simp only [List.filterMap_cons, hn, hv]
      exact ih
theorem RepAll.pick {g : Heap} {ds : List D} {vs : List Value} (h : RepAll g ds vs) (lo hi st : Option Int) : RepAll g (pickL ds lo hi st) (slicePick vs.toArray lo hi st).toList := by
  have e : (slicePick vs.toArray lo hi st).toList = (sliceRange (sliceBounds lo hi st ds.length).1 (sliceBounds lo hi st ds.length).2.1 (sliceBounds lo hi st ds.length).2.2).filterMap (vs[·]?) := by
    simp [slicePick, h.length]
  rw [e]
  exact h.places _
theorem pickL_plain {α : Type} (xs : List α) (lo hi : Option Int) : pickL xs lo hi none = (xs.drop (lo.elim 0 (clipAt xs.length))).take (hi.elim xs.length (clipAt xs.length) - lo.elim 0 (clipAt xs.length)) := by
  unfold pickL
  rw [sliceBounds_plain]
  simp only [sliceRange_one]
  have := pick_run xs.toArray (lo.elim 0 (clipAt xs.length)) (hi.elim xs.length (clipAt xs.length) - lo.elim 0 (clipAt xs.length))
  simpa using this
theorem pickL_from {α : Type} (xs : List α) (a : Nat) : pickL xs (some a) none none = xs.drop a := by
  rw [pickL_plain]
  simp only [Option.elim, clipAt_nat]
  rcases Nat.le_total a xs.length with h | h
  · rw [Nat.min_eq_left h, List.take_of_length_le (by simp)]
  · rw [Nat.min_eq_right h, List.drop_of_length_le (Nat.le_refl _), List.drop_of_length_le h]; simp
theorem pickL_upto {α : Type} (xs : List α) (b : Nat) : pickL xs none (some b) none = xs.take b := by
  rw [pickL_plain]
  simp only [Option.elim, clipAt_nat, List.drop_zero, Nat.sub_zero]
  rcases Nat.le_total b xs.length with h | h
  · rw [Nat.min_eq_left h]
  · rw [Nat.min_eq_right h, List.take_of_length_le (Nat.le_refl _), List.take_of_length_le h]
theorem pickL_run {α : Type} (xs : List α) (a b : Nat) : pickL xs (some a) (some b) none = (xs.drop a).take (b - a) := by
  rw [pickL_plain]
  simp only [Option.elim, clipAt_nat]
  rcases Nat.le_total a xs.length with h | h
  · rw [Nat.min_eq_left h]
    rcases Nat.le_total b xs.length with h' | h'
    · rw [Nat.min_eq_left h']
    · rw [Nat.min_eq_right h', List.take_of_length_le (by simp), List.take_of_length_le (by simp; omega)]
  · rw [Nat.min_eq_right h, List.drop_of_length_le (Nat.le_refl _), List.drop_of_length_le h]; simp
theorem pickL_map {α β : Type} (f : α → β) (xs : List α) (lo hi st : Option Int) : pickL (xs.map f) lo hi st = (pickL xs lo hi st).map f := by
  unfold pickL
  rw [List.length_map, List.map_filterMap]
  congr 1
  funext i
  simp

section
variable {prog : Program} {w : World} {B : Heap} {a : Act} {σ : Vars} {own : Owns} {n : Nat}

/-- a part of a slice -/
noncomputable def Pt (prog : Program) (w : World) (B : Heap) (a : Act) (σ : Vars) (own : Owns) (e : Option Expr) (k : Option Int) : Prop :=
  ∀ (s : Shared) (g : Heap) (Q E : Value → Shared → Prop), Sv B a σ own g s.heap →
    (∀ v s' g', Grow a.fr g s.heap g' s'.heap → Same s s' → IsPart v k → Q v s') → wpAny (model prog w) a.A (evalPart e a.env) Q E s
theorem pt_none : Pt prog w B a σ own none none := fun s g Q E S k => by
  rw [evalPart_none]; exact wpAny_pure (k _ s g (.refl S.gh) (.refl s) .none)
theorem pt_some {e : Expr} {i : Int} (h : Ev prog w B a σ own e (.int i)) : Pt prog w B a σ own (some e) (some i) := fun s g Q E S k => by
  rw [evalPart_some]
  exact h s g _ _ S fun v s' g' G Sm r => by
    obtain ⟨t, rfl⟩ := rep_int.mp r
    exact k _ s' g' G Sm (.int i t)

theorem fresh_of_grow {fr : List Addr} {g h g' h' : Heap} (G : Grow fr g h g' h') {Z : Addr} (e : h'.get? Z = none) : h.get? Z = none := by
  cases q : h.get? Z with
  | none => rfl
  | some o => exact absurd e (G.ext.some (ne_of_some q))
theorem grow_push {fr : List Addr} {g h g' h' : Heap} (G : Grow fr g h g' h') (o : Obj) : Grow fr g h g' (h'.push o) := G.trans (Grow.plain G.gh fun b o' e => Heap.get?_push_of_some _ e)

theorem evf_slice {value : Expr} {lower upper step : Option Expr} {p pos : Pos} {ds : List D} {lo hi st : Option Int} (hv : Ev prog w B a σ own value (.lst ds)) (hl : Pt prog w B a σ own lower lo) (hu : Pt prog w B a σ own upper hi) (hs : Pt prog w B a σ own step st) (h0 : st ≠ some 0)
    (hsz : ds.length ≤ sizeLine) (hf : SubForm (.Slice lower upper step p)) : EvF prog w B a σ own (.Subscript value (.Slice lower upper step p) pos) (pickL ds lo hi st) := fun s g Q E S k => by
  refine Subscript_ (hv s g _ _ S fun v s₁ g₁ G₁ S₁ r₁ => wpAny_Slice (hl s₁ g₁ _ _ (S.grow G₁) fun vl s₂ g₂ G₂ S₂ p₂ => hu s₂ g₂ _ _ ((S.grow G₁).grow G₂) fun vu s₃ g₃ G₃ S₃ p₃ => hs s₃ g₃ _ _ (((S.grow G₁).grow G₂).grow G₃) fun vk s₄ g₄ G₄ S₄ p₄ => ?_))
  obtain ⟨x, vs, rfl, la, ra⟩ := rep_lst.mp (((r₁.mono G₂.gg).mono G₃.gg).mono G₄.gg)
  have G := ((G₁.trans G₂).trans G₃).trans G₄
  have L := (stays_isList G.gh la.isList).push { cls := .type "slice", data := .fields #[vl, vu, vk] }
  obtain ⟨ops, ho⟩ := hf (.ref x) (.ref s₄.heap.objs.size)
  refine tail_any L.typeIs slot_list_getitem.lookup (wpAny_getItem_list_slice L (Heap.IsSliceOf.new ..) p₂ p₃ p₄ h0 ?_ (by simp only [List.size_toArray, ra.length]; exact hsz)) ho
  have G' := grow_push G { cls := .type "slice", data := .fields #[vl, vu, vk] }
  exact k _ (slicePick vs.toArray lo hi st).toList { s₄ with heap := (s₄.heap.push { cls := .type "slice", data := .fields #[vl, vu, vk] }).push { cls := .type "list", data := .seq (slicePick vs.toArray lo hi st) } } g₄ (grow_push G' _) (((S₁.trans S₂).trans S₃).trans (S₄.trans ⟨rfl, rfl, rfl⟩)) (fresh_of_grow G' (get?_size_none _)) (stays_none G'.gh (get?_size_none _)) ⟨0, Heap.get?_push_size _ rfl⟩ (ra.pick lo hi st)

variable {A : Around} {l : List Env}
/-! ranges -/
theorem grow_range {fr : List Addr} {g h : Heap} (k : g.StaysIn h) (x y z : Int) (t u v : Tok) :
    Grow fr g h (withObj g (h.push { cls := .type "range", data := .fields #[.int x t, .int y u, .int z v] }) h.objs.size) (h.push { cls := .type "range", data := .fields #[.int x t, .int y u, .int z v] }) ∧
    Rep (withObj g (h.push { cls := .type "range", data := .fields #[.int x t, .int y u, .int z v] }) h.objs.size) (.rng x y z) (.ref h.objs.size) := by
  have G := Grow.pushed (fr := fr) { cls := .type "range", data := .fields #[.int x t, .int y u, .int z v] } k
  refine ⟨G, rep_rng.mpr ⟨_, t, u, v, rfl, ?_⟩⟩
  show Heap.get? _ _ = _
  rw [withObj_get (fun b o' e => Heap.get?_push_of_some _ (k b o' e)), if_pos rfl]
  exact Heap.get?_push_size _ rfl
theorem op_range1 (y : Int) : Op prog w B A l own (fun vs => call (.type "range") vs) [.int y] (.rng 0 y 1) := fun s g vs Q E S R k => by
  obtain ⟨v, r, rfl, r₁, r'⟩ := repAll_cons.mp R
  rw [repAll_nil.mp r']
  obtain ⟨t, rfl⟩ := rep_int.mp r₁
  refine call_range_1 ?_
  obtain ⟨G, R⟩ := grow_range (fr := l.filterMap (·.frame)) S.gh 0 y 1 s.toks t (s.toks + 1)
  exact k _ { s with heap := _, toks := s.toks + 1 + 1 } _ G ⟨rfl, rfl, rfl⟩ R
theorem op_range2 (x y : Int) : Op prog w B A l own (fun vs => call (.type "range") vs) [.int x, .int y] (.rng x y 1) := fun s g vs Q E S R k => by
  obtain ⟨v, r, rfl, r₁, r'⟩ := repAll_cons.mp R
  obtain ⟨v', r', rfl, r₂, r''⟩ := repAll_cons.mp r'
  rw [repAll_nil.mp r'']
  obtain ⟨t, rfl⟩ := rep_int.mp r₁
  obtain ⟨u, rfl⟩ := rep_int.mp r₂
  refine call_range_2 ?_
  obtain ⟨G, R⟩ := grow_range (fr := l.filterMap (·.frame)) S.gh x y 1 t u s.toks
  exact k _ { s with heap := _, toks := s.toks + 1 } _ G ⟨rfl, rfl, rfl⟩ R
theorem op_range3 (x y z : Int) (hz : z ≠ 0) (hp : Builtin.divisionGoesByPylong (y - x) z = false) : Op prog w B A l own (fun vs => call (.type "range") vs) [.int x, .int y, .int z] (.rng x y z) := fun s g vs Q E S R k => by
  obtain ⟨v, r, rfl, r₁, r'⟩ := repAll_cons.mp R
  obtain ⟨v', r', rfl, r₂, r''⟩ := repAll_cons.mp r'
  obtain ⟨v'', r'', rfl, r₃, r'''⟩ := repAll_cons.mp r''
  rw [repAll_nil.mp r''']
  obtain ⟨t, rfl⟩ := rep_int.mp r₁
  obtain ⟨u, rfl⟩ := rep_int.mp r₂
  obtain ⟨q, rfl⟩ := rep_int.mp r₃
  refine call_range_3 hz ?_ (.inl hp)
  obtain ⟨G, R⟩ := grow_range (fr := l.filterMap (·.frame)) S.gh x y z t u q
  exact k _ { s with heap := _, toks := s.toks } _ G ⟨rfl, rfl, rfl⟩ R

/-! list * int -/
theorem repAll_rep {g : Heap} {ds : List D} {vs : List Value} (h : RepAll g ds vs) : ∀ k : Nat, RepAll g (List.replicate k ds).flatten (List.replicate k vs).flatten
  | 0 => .nil
  | k + 1 => by
    rw [List.replicate_succ, List.replicate_succ, List.flatten_cons, List.flatten_cons]
    exact h.append (repAll_rep h k)
theorem op_mul_lst (ds : List D) (x : Int) (hlo : -(2 ^ 63 : Int) ≤ x) (hhi : x < 2 ^ 63) (hsz : ds.length * x.toNat ≤ 2 ^ 24) : Op prog w B A l own (t2 (binaryOp .Mult)) [.lst ds, .int x] (.lst (List.replicate x.toNat ds).flatten) := .two fun s g v₁ v₂ Q E S r₁ r₂ k => by
  obtain ⟨y, vs, rfl, la, ra⟩ := rep_lst.mp r₁
  obtain ⟨u, rfl⟩ := rep_int.mp r₂
  obtain ⟨kk, e0⟩ := la
  have hl := S.gh _ _ e0
  have hsz' : vs.toArray.size * x.toNat ≤ 2 ^ 24 := by simp only [List.size_toArray, ra.length]; exact hsz
  refine wpAny_binaryOp_repeat_ref (T := "list") (U := "int") (by decide) ⟨_, hl, rfl⟩ (fun s' => typeIs_int s' x u) noFill_list_mul F.fills_int_mul F.slot_int_rmul repeat_list F.slot_int_index.lookup
    (call_meets F.slot_int_rmul (typeIs_int s x u) F.entry_int_rmul (F.args_int_rmul_2 _ _) (int___rmul___int_list x u y vs.toArray kk)
      ⟨hl, rfl, ⟨_, hl, rfl⟩, call_meets F.slot_list_mul ⟨_, hl, rfl⟩ F.entry_list_mul (F.args_list_mul_2 _ _)
        (AutoListH.list___mul___list_int_3 y vs.toArray kk x u (by simp [Builtin.List.listFitsIndex]; omega) (by omega) (by simp only [Builtin.List.listTooLong, sizeLine]; simp; simp at hsz'; assumption))
        ⟨hl, ?_⟩⟩)
  rw [listMul_foldl_if]
  obtain ⟨G, R⟩ := grow_list (fr := l.filterMap (·.frame)) S.gh (repAll_rep ra x.toNat) { cls := .type "list", data := .seq (List.replicate x.toNat vs.toArray.toList).flatten.toArray } rfl
  exact k _ { s with heap := _ } _ G ⟨rfl, rfl, rfl⟩ R

/-! list(row), for one's own -/
theorem evf_listcall {f x : Expr} {p : Pos} {ds : List D} (hf : Ev prog w B a σ own f (.val (.type "list"))) (hx : EvAll prog w B a σ own p [x] [.lst ds]) (hs : CallForm f x [] p) (hsz : ds.length ≤ sizeLine) :
    EvF prog w B a σ own (.Call f [x] [] p) ds := fun s g Q E S k => by
  rw [(hs _).1]
  refine wpAny_bind (hf s g _ _ S fun v₁ s₁ g₁ G₁ S₁ r₁ => ?_)
  rw [rep_val.mp r₁]
  refine PyProof.Rows.callWith_type (any_of_hc (hs _).2) (evAll_args hx (S.grow G₁) (hs _).2 fun vs s₂ g₂ G₂ S₂ r₂ => ?_)
  obtain ⟨v, r, rfl, q₁, r'⟩ := repAll_cons.mp r₂
  rw [repAll_nil.mp r']
  obtain ⟨y, us, rfl, la, ra⟩ := rep_lst.mp q₁
  obtain ⟨o, ho, hc, m, hd⟩ := stays_isList G₂.gh la.isList
  refine call_list_seq y (.inl rfl) ho hc hd (fun h' c' up e => ?_) (by simp only [List.size_toArray, ra.length]; exact hsz)
  have G := G₁.trans G₂
  exact k _ us { s₂ with heap := h' } g₂ (G.trans (Grow.plain G₂.gh up)) (S₁.trans (S₂.trans ⟨rfl, rfl, rfl⟩)) (fresh_of_grow G (get?_size_none _)) (stays_none G₂.gh (get?_size_none _)) ⟨c', e⟩ ra

/-! sum -/
noncomputable def sumD (ns : List Int) : Int := preSum (fun i => ns.getD i 0) ns.length
theorem op_sum (hh : A.handled = none) (ns : List Int) : Op prog w B A l own (fun vs => call (.builtin "sum") vs) [.lst (ns.map .int)] (.int (sumD ns)) := fun s g vs Q E S R k => by
  obtain ⟨v, r, rfl, r₁, r'⟩ := repAll_cons.mp R
  rw [repAll_nil.mp r']
  obtain ⟨x, us, rfl, la, ra⟩ := rep_lst.mp r₁
  have L := stays_isList S.gh la.isList
  have hx : s.heap.get? x ≠ none := isList_ne L
  have hne : x ≠ s.heap.objs.size := fun e => hx (e ▸ get?_size_none _)
  have hlt : x < s.heap.objs.size := by obtain ⟨o, q⟩ := some_of_ne hx; exact Heap.lt_size q
  refine call_sum_walkG (wpAny_pyIter_list L ?_)
  have W := Walks.list (prog := prog) (w := w) (A := A.in1) hh s.heap.objs.size x hne us.toArray
  refine ⟨_, _, _, _, _, _, fun i => ns.getD i 0, rfl, W, ⟨⟨_, Heap.get?_push_size _ rfl, rfl, rfl⟩, L.push _⟩, fun b hb => ?_, fun i v hv => ?_, fun h' tk t' up => ?_⟩
  · rw [Heap.size_push]
    rcases List.mem_cons.mp hb with rfl | hb
    · exact Nat.lt_succ_self _
    · rw [List.mem_singleton.mp hb]; exact Nat.lt_succ_of_lt hlt
  · obtain ⟨d, hd, hr⟩ := ra.get' (k := i) (v := v) (by simpa using hv)
    rw [List.getElem?_map] at hd
    cases q : ns[i]? with
    | none => rw [q] at hd; cases hd
    | some z =>
      rw [q] at hd; cases hd
      obtain ⟨t, rfl⟩ := rep_int.mp hr
      exact ⟨t, by show Value.int z t = Value.int (ns.getD i 0) t; rw [List.getD_eq_getElem?_getD, q]; rfl⟩
  · have e : us.toArray.size = ns.length := by simp [ra.length]
    rw [e]
    have up' : ∀ b o, s.heap.get? b = some o → h'.get? b = some o := fun b o q => up b o (fun hb => by rw [List.mem_singleton.mp hb, get?_size_none] at q; cases q) (Heap.get?_push_of_some _ q)
    exact k _ { s with heap := h', toks := tk } g (Grow.plain S.gh up') ⟨rfl, rfl, rfl⟩ (rep_int.mpr ⟨t', rfl⟩)
theorem op_min2 (hh : A.handled = none) (x y : Int) : Op prog w B A l own (fun vs => call (.builtin "min") vs) [.int x, .int y] (.int (if y < x then y else x)) := fun s g vs Q E S R k => by
  obtain ⟨v, r, rfl, r₁, r'⟩ := repAll_cons.mp R
  obtain ⟨v', r', rfl, r₂, r''⟩ := repAll_cons.mp r'
  rw [repAll_nil.mp r'']
  obtain ⟨t, rfl⟩ := rep_int.mp r₁
  obtain ⟨u, rfl⟩ := rep_int.mp r₂
  refine min_two_ints hh fun h' tk up => ?_
  refine k _ { s with heap := h', toks := tk } g (Grow.plain S.gh up) ⟨rfl, rfl, rfl⟩ ?_
  split
  · exact rep_int.mpr ⟨u, rfl⟩
  · exact rep_int.mpr ⟨t, rfl⟩
end
end Mine
end
section
open PySem PySem.W PyProof.Rows
set_option maxRecDepth 10000
set_option linter.unusedVariables false
namespace Mine
section
variable {prog : Program} {w : World} {B : Heap} {a : Act} {σ σ₀ : Vars} {own own' : Owns} {n : Nat} {rest : List Stmt} {Φ : Fl → Vars → Owns → Prop}

/-- a comprehension up to the end of its loop -/
noncomputable def Cp (prog : Program) (w : World) (B : Heap) (a : Act) (σ : Vars) (own : Owns) (elt : Expr) (gens : List Comprehension) (scope : Scope) (pos : Pos) (ds : List D) : Prop :=
  ∀ (use : Option (Value → Sem Unit)) (s : Shared) (g : Heap) (Q E : Value → Shared → Prop), Sv B a σ own g s.heap →
    (∀ Z C vs s' g', Grow a.fr g s.heap g' s'.heap → Same s s' → s.heap.get? Z = none → s.heap.get? C = none → Z ≠ C → g'.get? C = none → g'.get? Z = none → s'.heap.PlainList Z vs.toArray → RepAll g' ds vs → (∃ m, s'.heap.Ns C m) →
      compPost (model prog w) a.A E use Q (.ref Z) C (.ok .next) s') →
    wpAny (model prog w) a.A (comprehension (.ListComp elt gens scope pos) scope a.env (firstIterPos gens pos) (newList []) (firstAsync gens) (firstIter gens a.env) use) Q E s

theorem cp_comp1 {elt target iter : Expr} {ifs : List Expr} {scope : Scope} {pos : Pos} {cl : List (Str × Addr)} {d : D} {ds : List D} (p : D → Bool) (f : D → D) (σ₀ : Vars)
    (hs : ∀ x, foldedSetIterable iter a.env x = pure x) (hc : Clo a.env scope cl) (hit : Ev prog w B a σ own iter d) (hI : It prog w B a.A a.l own d ds) (hvis : ∀ C, Vis a (cAct a scope cl C) σ σ₀)
    (hb : ∀ C, ∀ d ∈ ds, Body prog w B (cAct a scope cl C) σ₀ own target ifs elt d (p d) (f d)) (hsz : ds.length ≤ sizeLine) :
    Cp prog w B a σ own elt [⟨target, iter, ifs, 0⟩] scope pos ((ds.filter p).map f) := fun use s g Q E S k => by
  refine comp_begin (gc := ⟨target, iter, ifs, 0⟩) (elt := elt) (pos := pos) rfl hs hc hit hI hvis S fun s₁ g₁ s₂ I Z C fp P St G₁ Sm₁ S₁ W st hP hSt Sm₂ bg hself => ?_
  refine comp1_code p f W st hP hSt bg hself (hb C) hsz fun s' g' vs S' G' Sm' L' hg' r' => ?_
  obtain ⟨m, hn, _⟩ := S'.ns
  have GF : Grow a.fr g₁ s₁.heap g' s'.heap := G'.fresh bg.newX
  have fr1 : ∀ {Y : Addr}, s₁.heap.get? Y = none → s.heap.get? Y = none := fun e => fresh_of_grow G₁ e
  exact k Z C vs s' g' (G₁.trans GF) ((Sm₁.trans Sm₂).trans Sm') (fr1 (bg.newX Z (.inr (.inl rfl)))) (fr1 (bg.newX C (.inl (.inl rfl)))) bg.hCZ S'.lg hg' L' r' ⟨m, hn⟩

theorem Cp.evf {elt : Expr} {gens : List Comprehension} {scope : Scope} {pos : Pos} {ds : List D} (h : Cp prog w B a σ own elt gens scope pos ds) : EvF prog w B a σ own (.ListComp elt gens scope pos) ds := fun s g Q E S k => by
  rw [eval_ListComp]
  refine h none s g Q E S fun Z C vs s' g' G Sm hZ hC hZC hgC hgZ L r ⟨m, hn⟩ => ⟨m, hn, fun h'' hs'' => ?_⟩
  have G' : Grow a.fr g s.heap g' h'' := ((G.toX (X := (· = C))).trans (GrowX.one G.gh hgC hs'') fun _ _ q => q).fresh fun b e => e ▸ hC
  exact k Z vs { s' with heap := h'' } g' G' (Sm.trans ⟨rfl, rfl, rfl⟩) hZ hgZ (L.at fun o e => (hs''.2 _ hZC).trans e) r

/-- x = [..], the stores exchanged -/
theorem ex_assign_comp (ok : a.Ok n) {x : Str} {px pos spos : Pos} {elt : Expr} {gens : List Comprehension} {scope : Scope} {ds : List D} (h : Cp prog w B a σ own elt gens scope pos ds) (hk : a.env.kindOf x = some .local)
    (hsw : swapsWith (.ListComp elt gens scope pos) (some (.Name x px)) spos.line a.env = pure true) (hE : Ex prog w B a ((x, .lst ds) :: σ) own rest Φ) :
    Ex prog w B a σ own (.Assign [.Name x px] (.ListComp elt gens scope pos) spos :: rest) Φ :=
  ex_step fun s g Q E S nd k₁ k₂ => by
    rw [exec_Assign_Name_used _ _ _ _ hsw]
    refine wpAny_bind (wpAny_standAt (wpAny_bind ?_))
    show wpAny _ _ (do let _ ← comprehension (.ListComp elt gens scope pos) scope a.env (firstIterPos gens pos) (newList []) (firstAsync gens) (firstIter gens a.env) (some (assign (.Name x px) a.env))) _ _ s
    refine wpAny_bind (h (some (assign (.Name x px) a.env)) s g _ _ S fun Z C vs s' g' G Sm hZ hC hZC hgC hgZ L r ⟨m, hn⟩ => ?_)
    show wpAny _ _ (assign (.Name x px) a.env (.ref Z)) _ _ _
    obtain ⟨G', R⟩ := grow_again G hZ hgZ L r
    have S' := S.grow G'
    have ne0 : ∀ b, s.heap.get? b ≠ none → b ≠ C := fun b e z => e (z ▸ hC)
    have hgC' : (withObj g' s'.heap Z).get? C = none := by rw [withObj_get G.gh, if_neg (Ne.symm hZC)]; exact hgC
    refine wpAny_assign_Name (storeName_l ok hk S' R fun s₂ S₂ G₂ Sm₂ => ?_)
    have hLC : a.env.locals ≠ C := by obtain ⟨m, hn, _⟩ := S.ns; exact ne0 _ (ns_ne hn)
    have nmu : ¬ a.mu C := by
      rintro (e | e)
      · exact hLC e.symm
      · obtain ⟨p, hp, e⟩ := S.mcs C e; obtain ⟨⟨v, h1⟩, _⟩ := S.cells p hp; exact ne0 _ (isCell_ne h1) e
    have hCf : C ∉ a.fr := fun hf => by obtain ⟨_, o, ho, _⟩ := S.ff.mem hf; exact ne0 C (ne_of_some ho) rfl
    have hn₂ : s₂.heap.Ns C m := by
      obtain ⟨o, es, ep, e, q⟩ := hn
      exact ⟨o, es, ep, G₂.ext.keep e nmu hCf, q⟩
    refine ⟨m, hn₂, fun h'' hs'' => wpAny_pure (wpAny_pure ?_)⟩
    have S₃ : Sv B a ((x, .lst ds) :: σ) own (withObj g' s'.heap Z) h'' := S₂.other (fun b o hb e => (hs''.2 b hb).trans e) hLC
      (fun q hq => by obtain ⟨⟨v, h1⟩, _⟩ := S.cells q hq; exact ne0 _ (isCell_ne h1)) (fun q hq => by obtain ⟨_, us, L', _⟩ := S.own q hq; exact ne0 _ (plain_ne L')) hCf hgC'
    have GX : GrowX (fun b => Mu a own b ∨ b = C) a.fr g s.heap (withObj g' s'.heap Z) h'' :=
      ((G'.toX (X := fun b => Mu a own b ∨ b = C)).trans (G₂.mono fun b _ m => .inl (mu_own m)) fun _ _ q => q).trans ((GrowX.one S₂.gh hgC' hs'').mono fun b _ e => .inr e) fun _ _ q => q
    exact k₁ { s₂ with heap := h'' } _ _ own S₃ nd (.refl _ _) (GX.mono fun b e m => m.elim id fun z => absurd hC (z ▸ e)) (Sm.trans (Sm₂.trans ⟨rfl, rfl, rfl⟩)) hE

/-! methods on lists of one's own -/
theorem noDict_plain {h : Heap} {Z : Addr} {xs : Array Value} (L : h.PlainList Z xs) : ∃ o, h.get? Z = some o ∧ o.cls = .type "list" ∧ o.dict = none := by
  obtain ⟨k, e⟩ := L; exact ⟨_, e, rfl, rfl⟩
theorem ex_append {o x : Expr} {apos cpos pos : Pos} {Z : Addr} {ds : List D} {d : D} (ho : Ev prog w B a σ own o (.val (.ref Z))) (hx : EvAll prog w B a σ own cpos [x] [d]) (z : OwnSet own Z ds (ds ++ [d]) own') (hE : Ex prog w B a σ own' rest Φ) (hsz : ds.length ≤ sizeLine)
    {pl : Sem Bool} (he : eval (.Call (.Attribute o "append" apos) [x] [] cpos) a.env = (do
      let ov ← eval o a.env
      standAt apos.atName
      let (f, first) ← holding [ov] (getMethod ov "append" pl)
      callWith cpos f first (backTo cpos (starEach [x] a.env)) []))
    (h1 : starEach [x] a.env = (false, eval x a.env) :: starEach [] a.env) (hi : interactive a.env = false) (hs : swapsWith (.Call (.Attribute o "append" apos) [x] [] cpos) none pos.line a.env = pure false) :
    Ex prog w B a σ own (.Expr (.Call (.Attribute o "append" apos) [x] [] cpos) pos :: rest) Φ :=
  ex_step fun s g Q E S nd k₁ k₂ => by
    refine wpAny_Expr (MethodCall_ (pl := pl) (ho s g _ _ S fun v s₁ g₁ G₁ Sm₁ r₁ => ?_) he) hi hs
    rw [rep_val.mp r₁]
    have S₁ := S.grow G₁
    obtain ⟨hg, us, L, ru⟩ := S₁.own _ z.mem
    obtain ⟨ob, hob, hoc, hod⟩ := noDict_plain L
    refine Calls.getMethod_list_append hob hoc hod (callWith_method1 (hx s₁ g₁ _ _ S₁ fun vs s₂ g₂ G₂ Sm₂ r₂ => ?_) h1)
    obtain ⟨v, r, rfl, q₁, r'⟩ := repAll_cons.mp r₂
    rw [repAll_nil.mp r']
    have S₂ := S₁.grow G₂
    obtain ⟨hg₂, us₂, L₂, ru₂⟩ := S₂.own _ z.mem
    have ru₂ : RepAll g₂ ds us₂ := ru₂
    refine wpAny_list_append_plain (hsz := by simp only [List.size_toArray, ru₂.length]; exact hsz) L₂ fun h₃ L₃ hs₃ => ?_
    have S₃ : Sv B a σ own' g₂ h₃ := S₂.setOwn nd z hs₃ (vs := us₂ ++ [v]) (by simpa using L₃) (ru₂.append (.cons q₁ .nil))
    exact k₁ { s₂ with heap := h₃ } g₂ σ own' S₃ (z.nd nd) (z.new _) (((G₁.trans G₂).toX (X := Mu a own)).trans ((GrowX.one S₂.gh hg₂ hs₃).mono fun b _ e => .inr ⟨_, z.mem, e.symm⟩) fun _ _ q => q) ((Sm₁.trans Sm₂).trans ⟨rfl, rfl, rfl⟩) hE

theorem erase_last (us : List Value) : us.toArray.eraseIdxIfInBounds (us.toArray.size - 1) = us.dropLast.toArray := by
  cases us with
  | nil => rfl
  | cons u us =>
    rw [Array.eraseIdxIfInBounds, dif_pos (by simp)]
    apply Array.ext'
    simp [List.dropLast_eq_take, List.eraseIdx_eq_take_drop_succ]
theorem ex_pop {o : Expr} {apos cpos pos : Pos} {Z : Addr} {ds : List D} {i : Int} (ho : Ev prog w B a σ own o (.val (.ref Z))) (z : OwnSet own Z ds ds.dropLast own') (hl : ds.getLast? = some (.int i)) (hE : Ex prog w B a σ own' rest Φ) (hsz : ds.length ≤ sizeLine)
    {pl : Sem Bool} (he : eval (.Call (.Attribute o "pop" apos) [] [] cpos) a.env = (do
      let ov ← eval o a.env
      standAt apos.atName
      let (f, first) ← holding [ov] (getMethod ov "pop" pl)
      callWith cpos f first (backTo cpos (starEach [] a.env)) []))
    (hi : interactive a.env = false) (hs : swapsWith (.Call (.Attribute o "pop" apos) [] [] cpos) none pos.line a.env = pure false) :
    Ex prog w B a σ own (.Expr (.Call (.Attribute o "pop" apos) [] [] cpos) pos :: rest) Φ :=
  ex_step fun s g Q E S nd k₁ k₂ => by
    refine wpAny_Expr (MethodCall_ (pl := pl) (ho s g _ _ S fun v s₁ g₁ G₁ Sm₁ r₁ => ?_) he) hi hs
    rw [rep_val.mp r₁]
    have S₁ := S.grow G₁
    obtain ⟨hg, us, L, ru⟩ := S₁.own _ z.mem
    have ru : RepAll g₁ ds us := ru
    obtain ⟨en, eo⟩ := id L
    have hne : ds ≠ [] := fun e => by subst e; simp at hl
    obtain ⟨y, hy, hr⟩ := ru.get (k := ds.length - 1) (by rw [← List.getLast?_eq_getElem?]; exact hl)
    obtain ⟨t, rfl⟩ := rep_int.mp hr
    refine getMethod_list_of F.slot_list_pop (by rfl) L.isList ⟨_, eo, rfl⟩ (callWith_method0 ?_)
    have hus : us.toArray.size = ds.length := by simp [ru.length]
    refine call_meets F.slot_list_pop ⟨_, eo, rfl⟩ F.entry_list_pop (F.args_list_pop_1 _) (PySem.MeetsSeq.list_pop_last Z us.toArray en (.int i t) (by rw [hus]; simpa using hy) (by rw [hus]; exact hsz)) ⟨eo, ?_⟩
    have hs₂ : Heap.SameBut Z s₁.heap (s₁.heap.update Z (Obj.mapSeq fun xs => xs.eraseIdxIfInBounds (us.toArray.size - 1))) := Heap.SameBut.update ..
    have L₂ := plain_map (fun xs => xs.eraseIdxIfInBounds (us.toArray.size - 1)) eo
    have L₂ : (s₁.heap.update Z (Obj.mapSeq fun xs => xs.eraseIdxIfInBounds (us.toArray.size - 1))).PlainList Z us.dropLast.toArray := by rw [← erase_last]; exact L₂
    have S₂ := S₁.setOwn nd z hs₂ L₂ ru.dropLast
    exact k₁ { s₁ with heap := _ } g₁ σ own' S₂ (z.nd nd) (z.new _) ((G₁.toX (X := Mu a own)).trans ((GrowX.one S₁.gh hg hs₂).mono fun b _ e => .inr ⟨_, z.mem, e.symm⟩) fun _ _ q => q) (Sm₁.trans ⟨rfl, rfl, rfl⟩) hE
end
end Mine
end
section
open PySem PySem.W PyProof.Rows
set_option maxRecDepth 10000
set_option linter.unusedVariables false
namespace Mine
section
variable {prog : Program} {w : World} {B : Heap} {a c : Act} {σ σ₀ : Vars} {own own' : Owns} {n : Nat} {rest : List Stmt} {Φ : Fl → Vars → Owns → Prop}

theorem mu_ne_frozen {g h : Heap} (S : Sv B c σ own g h) {b : Addr} (e : g.get? b ≠ none) : ¬ c.mu b := by
  rintro (q | q)
  · rw [q] at e; exact e S.lg
  · obtain ⟨p, hp, rfl⟩ := S.mcs b q; exact e (S.cells p hp).2
theorem mu_ne_own {g h : Heap} (S : Sv B c σ own g h) {p : Addr × List D} (hp : p ∈ own) : ¬ c.mu p.1 := by
  obtain ⟨_, vs, L, _⟩ := S.own p hp
  rintro (q | q)
  · obtain ⟨m, hn, _⟩ := S.ns; exact ns_isList hn L.isList q.symm
  · obtain ⟨r, hr, e⟩ := S.mcs _ q
    obtain ⟨⟨v, h1⟩, _⟩ := S.cells r hr
    exact isList_isCell L.isList h1 e.symm

/-- the start of a later clause -/
theorem compStart_at {A : Around} {env : Env} {s : Shared} {R : Result → Shared → Prop} {elt : Expr} {gens : List Comprehension} {scope : Scope} {pos : Pos} {dep : Nat} {it acc : Value} {gc : Comprehension} (hg : gens[dep]? = some gc) (ha : gc.is_async = 0)
    (h0 : codeAny (model prog w) A (.compLoop (.ListComp elt gens scope pos) dep it acc env) R s)
    (h : ∀ E : Value → Shared → Prop, wpAny (model prog w) A (pyIter it) (fun it' s' => codeAny (model prog w) A (.compLoop (.ListComp elt gens scope pos) dep it' acc env) R s') E s) :
    codeAny (model prog w) A (.compStart (.ListComp elt gens scope pos) dep it acc env) R s := by
  refine codeAny_of_tree ?_
  show wpAny _ _ ((compStart (.ListComp elt gens scope pos) dep it acc env).onRaise (fun x => do noteFrame x env; standAt theWindowsPlace)) _ _ s
  refine wpAny_notedAt ?_
  unfold compStart
  have e : (clausesOf (.ListComp elt gens scope pos))[dep]? = some gc := hg
  rw [e]
  simp only [Option.elim, ha]
  show wpAny _ _ (ask >>= _) _ _ s
  refine wpAny_bind (wpAny_askSetting (wpAny_ite ?_))
  split
  · exact wpAny_pure (And.intro rfl h0)
  · exact wpAny_bind (wpAny_rule (wpAny_bind (wpAny_standAt (wpAny_bind (wpAny_mono (h _) (fun it' s' h' => wpAny_pure (And.intro rfl h')) fun _ _ x => x)))))

theorem lastTurn1 (elt t₁ i₁ t₂ i₂ : Expr) (scope : Scope) (pos : Pos) : LastTurn elt t₂ i₂ [] [⟨t₁, i₁, [], 0⟩, ⟨t₂, i₂, [], 0⟩] scope pos 1 := fun it acc env => rfl

/-- the turn of the outer one of two clauses -/
theorem outerTurn (elt t₁ i₁ t₂ i₂ : Expr) (scope : Scope) (pos : Pos) (it acc : Value) (env : Env) :
    compTurn (.ListComp elt [⟨t₁, i₁, [], 0⟩, ⟨t₂, i₂, [], 0⟩] scope pos) 0 it acc env = (standAt i₁.pos >>= fun _ => pyNext it >>= fun r => match r with
      | none => pure (.done .next)
      | some v => letOwnedTupleGo t₁ it v >>= fun _ => assign t₁ env v >>= fun _ =>
        (eval i₂ env >>= fun x => standAt i₂.pos >>= fun _ => foldedSetIterable i₂ env x >>= fun x => holding [x] (pyIter x) >>= fun it' =>
          runOwn (.compStart (.ListComp elt [⟨t₁, i₁, [], 0⟩, ⟨t₂, i₂, [], 0⟩] scope pos) 1 it' acc env) env >>= fun _ =>
            again (.compLoop (.ListComp elt [⟨t₁, i₁, [], 0⟩, ⟨t₂, i₂, [], 0⟩] scope pos) 0 it acc env))) := rfl

/-- what the clauses of a comprehension of two must show -/
structure Body2 (prog : Program) (w : World) (B : Heap) (c : Act) (σ₀ : Vars) (own : Owns) (t₁ t₂ i₂ elt : Expr) (d : D) (es : List D) (f : D → D) : Prop where
  go : ∃ σ' d₂, Tg prog w B c σ₀ own t₁ d σ' ∧ Ev prog w B c σ' own i₂ d₂ ∧ It prog w B c.A c.l own d₂ es ∧ (∀ x e, σ₀.lookup x = some e → σ'.lookup x = some e) ∧
    ∀ e ∈ es, ∃ σ'', Tg prog w B c σ' own t₂ e σ'' ∧ Ev prog w B c σ'' own elt (f e) ∧ (∀ x e, σ'.lookup x = some e → σ''.lookup x = some e)

set_option maxHeartbeats 2000000 in
theorem comp2_loop {elt t₁ i₁ t₂ i₂ : Expr} {scope : Scope} {pos : Pos} {I Z : Addr} {fp : List Addr} {ds : List D} {P : Nat → Value → Prop} {St : Nat → Heap → Prop} {R : Result → Shared → Prop}
    (W : Walks prog w c.A I fp [I] ds.length P St) (es : D → List D) (f : D → D → D)
    (hb : ∀ d ∈ ds, Body2 prog w B c σ₀ own t₁ t₂ i₂ elt d (es d) (f d)) (hfs : ∀ env x, foldedSetIterable i₂ env x = pure x)
    {s : Shared} {g : Heap} (S : Sv B c σ₀ own g s.heap) (hst : St 0 s.heap) (L : s.heap.PlainList Z (#[] : Array Value)) (hgD : g.get? Z = none) (hgI : g.get? I = none)
    (hP : ∀ i v, P i v → ∃ d, ds[i]? = some d ∧ Rep g d v) (hStI : ∀ i h, St i h → PlainIt h I)
    (hIL : c.env.locals ≠ I) (hIc : ∀ q ∈ c.env.cells, q.2 ≠ I) (hIo : ∀ q ∈ own, q.1 ≠ I) (hIf : I ∉ c.fr) (hID : Z ≠ I)
    (hDL : c.env.locals ≠ Z) (hDc : ∀ q ∈ c.env.cells, q.2 ≠ Z) (hDo : ∀ q ∈ own, q.1 ≠ Z) (hDf : Z ∉ c.fr)
    (hfp : ∀ b ∈ fp, b ≠ Z ∧ b ∉ c.fr ∧ ¬ c.mu b) (hfe : ∀ b ∈ fp, b = I ∨ s.heap.get? b ≠ none) (hDm : ¬ c.mu Z) (hIm : ¬ c.mu I) (hsz : (ds.map fun d => (es d).length).sum ≤ sizeLine)
    (k : ∀ s' g' vs, Sv B c σ₀ own g' s'.heap → GrowX (fun b => c.mu b ∨ b = Z ∨ b = I) c.fr g s.heap g' s'.heap → Same s s' → s'.heap.PlainList Z vs.toArray → g'.get? Z = none → RepAll g' (ds.flatMap fun d => (es d).map (f d)) vs → R (.ok .next) s') :
    codeAny (model prog w) c.A (.compLoop (.ListComp elt [⟨t₁, i₁, [], 0⟩, ⟨t₂, i₂, [], 0⟩] scope pos) 0 (.ref I) (.ref Z) c.env) R s := by
  classical
  obtain ⟨INV, hINV⟩ : ∃ INV : Nat → Shared → Prop, ∀ m s', INV m s' ↔ ∃ i g' vs, m = ds.length + 1 - i ∧ i ≤ ds.length ∧ Sv B c σ₀ own g' s'.heap ∧ St i s'.heap ∧ GrowX (fun b => c.mu b ∨ b = Z ∨ b = I) c.fr g s.heap g' s'.heap ∧ Same s s' ∧
    s'.heap.PlainList Z vs.toArray ∧ g'.get? Z = none ∧ g'.get? I = none ∧ RepAll g' ((ds.take i).flatMap fun d => (es d).map (f d)) vs := ⟨_, fun _ _ => Iff.rfl⟩
  refine codeAny_loop rfl INV ?_ (ds.length + 1) ((hINV _ _).mpr
    ⟨0, g, [], rfl, Nat.zero_le _, S, hst, ⟨fun b o e _ => ⟨o.slots, e, fun _ => rfl⟩, stays_refl _, S.gh, fun _ _ e => .inl e⟩, .refl s, L, hgD, hgI, by simpa using RepAll.nil⟩)
  intro m s₁ hinv
  obtain ⟨i, g₁, vs, rfl, hi, S₁, st₁, G₁, Sm₁, L₁, hg₁, hgI₁, r₁⟩ := (hINV _ _).mp hinv
  rw [under_comp]
  show wpAny _ _ ((compTurn (.ListComp elt [⟨t₁, i₁, [], 0⟩, ⟨t₂, i₂, [], 0⟩] scope pos) 0 (.ref I) (.ref Z) c.env).onRaise (fun x => do noteFrame x c.env; theTreesLotGoes x)) _ _ s₁
  rw [outerTurn]
  refine wpAny_noted (wpAny_bind (wpAny_standAt (wpAny_bind ?_)))
  by_cases hlt : i < ds.length
  · refine W.item i s₁ _ _ hlt st₁ fun v h₂ tk hPv st₂ hk₂ => ?_
    have hk₂' : ∀ b o, b ≠ I → s₁.heap.get? b = some o → h₂.get? b = some o := fun b o hb e => hk₂ b o (by simpa using hb) e
    have S₂ : Sv B c σ₀ own g₁ h₂ := S₁.other hk₂' hIL hIc hIo hIf hgI₁
    have L₂ : h₂.PlainList Z vs.toArray := L₁.at fun o e => hk₂' Z o hID e
    obtain ⟨d, hd, hr⟩ := hP i v hPv
    have hdm : d ∈ ds := List.mem_of_getElem? hd
    have hr₁ := hr.mono G₁.gg
    obtain ⟨σ', d₂, hT, hE₂, hI₂, hsub, hel⟩ := (hb d hdm).go
    refine wpAny_bind (PlainIt.let (s := { s₁ with heap := h₂, toks := tk }) (hStI _ _ st₂) ?_)
    refine wpAny_bind (hT { s₁ with heap := h₂, toks := tk } g₁ v _ _ S₂ hr₁ fun s₃ S₃ G₃ Sm₃ => ?_)
    have fpk : ∀ {h h' : Heap}, ExtX c.mu c.fr h h' → ∀ b ∈ fp, ∀ o, h.get? b = some o → h'.get? b = some o := fun x b hb o e => x.keep e (hfp b hb).2.2 (hfp b hb).2.1
    have st₃ : St (i + 1) s₃.heap := W.frame _ _ _ st₂ (fpk G₃.ext)
    have L₃ : s₃.heap.PlainList Z vs.toArray := L₂.at fun o e => G₃.ext.keep e hDm hDf
    refine wpAny_bind (hE₂ s₃ g₁ _ _ S₃ fun x s₄ g₄ G₄ Sm₄ r₄ => ?_)
    have S₄ := S₃.grow G₄
    have st₄ : St (i + 1) s₄.heap := W.frame _ _ _ st₃ (fpk (.of G₄.ext))
    have L₄ := L₃.at fun o e => G₄.ext.keep e hDf
    have hg₄ : g₄.get? Z = none := none_of_new G₄ (plain_ne L₃) hg₁
    have hIe₃ : s₃.heap.get? I ≠ none := (hStI _ _ st₃).ne
    have hgI₄ : g₄.get? I = none := none_of_new G₄ hIe₃ hgI₁
    refine wpAny_bind (wpAny_standAt (wpAny_bind (wpAny_of_eq (hfs _ x) (wpAny_bind (wpAny_holding (hI₂ s₄ g₄ x _ _ S₄.toSh r₄ fun J fq P' St' s₅ W' st₅ hfq hJ₀ hgJ hP' up₅ hStJ Sm₅ => ?_))))))
    have Gu : Grow c.fr g₄ s₄.heap g₄ s₅.heap := Grow.plain S₄.gh up₅
    have S₅ := S₄.grow Gu
    have L₅ := L₄.at fun o e => up₅ _ o e
    have st₅' : St (i + 1) s₅.heap := W.frame _ _ _ st₄ fun b _ o e => up₅ b o e
    have neJ : ∀ b, s₄.heap.get? b ≠ none → b ≠ J := fun b e z => e (z ▸ hJ₀)
    have hJL : c.env.locals ≠ J := by obtain ⟨m, hn, _⟩ := S₄.ns; exact neJ _ (ns_ne hn)
    have hJc : ∀ q ∈ c.env.cells, q.2 ≠ J := fun q hq => by obtain ⟨⟨v, h1⟩, _⟩ := S₄.cells q hq; exact neJ _ (isCell_ne h1)
    have hJo : ∀ q ∈ own, q.1 ≠ J := fun q hq => by obtain ⟨_, us, L', _⟩ := S₄.own q hq; exact neJ _ (plain_ne L')
    have hJf : J ∉ c.fr := fun hf => by obtain ⟨_, o, ho, _⟩ := S₄.ff.mem hf; exact neJ J (ne_of_some ho) rfl
    have hJm : ¬ c.mu J := by
      rintro (q | q)
      · exact hJL q.symm
      · obtain ⟨p, hp, e⟩ := S₄.mcs J q; exact hJc p hp e
    have hfq' : ∀ b ∈ fq, b ≠ Z ∧ b ∉ c.fr ∧ ¬ c.mu b := fun b hb => by
      rcases hfq b hb with rfl | ⟨h1, h2, h3 | ⟨p, hp, rfl⟩⟩
      · exact ⟨fun z => neJ Z (plain_ne L₄) z.symm, hJf, hJm⟩
      · exact ⟨fun z => by rw [z, hg₄] at h3; exact h3 rfl, h2, mu_ne_frozen S₄ h3⟩
      · exact ⟨hDo p hp, h2, mu_ne_own S₄ hp⟩
    have htake : ds.take (i + 1) = ds.take i ++ [d] := by rw [List.take_add_one, hd]; rfl
    have hlen : ((ds.take i).flatMap fun d => (es d).map (f d)).length + (es d).length ≤ sizeLine := by
      refine Nat.le_trans ?_ hsz
      have e1 : ((ds.take i).flatMap fun d => (es d).map (f d)).length = ((ds.take i).map fun d => (es d).length).sum := by
        rw [List.length_flatMap]; congr 1; apply List.map_congr_left; intro d _; simp
      rw [e1]
      have e2 : ((ds.take (i + 1)).map fun d => (es d).length).sum = ((ds.take i).map fun d => (es d).length).sum + (es d).length := by rw [htake]; simp
      have e3 : (ds.map fun d => (es d).length).sum = ((ds.take (i + 1)).map fun d => (es d).length).sum + ((ds.drop (i + 1)).map fun d => (es d).length).sum := by
        rw [← List.sum_append, ← List.map_append, List.take_append_drop]
      omega
    refine wpAny_bind (wpAny_runOwn ?_)
    have inner : codeAny (model prog w) c.A (.compLoop (.ListComp elt [⟨t₁, i₁, [], 0⟩, ⟨t₂, i₂, [], 0⟩] scope pos) 1 (.ref J) (.ref Z) c.env) (fun r s' => match r with
        | .ok _ => wpAny (model prog w) c.A (again (.compLoop (.ListComp elt [⟨t₁, i₁, [], 0⟩, ⟨t₂, i₂, [], 0⟩] scope pos) 0 (.ref I) (.ref Z) c.env)) (fun fin s' => match fin with | .done f => R (.ok f) s' | .again c' => c' = .compLoop (.ListComp elt [⟨t₁, i₁, [], 0⟩, ⟨t₂, i₂, [], 0⟩] scope pos) 0 (.ref I) (.ref Z) c.env ∧ ∃ m, m < ds.length + 1 - i ∧ INV m s') (notedBy (model prog w) c.A c.env fun e s' => R (.error e) s') s'
        | .error e => cameBackBy (model prog w) c.A c.env (notedBy (model prog w) c.A c.env fun e s' => R (.error e) s') e s') s₅ := by
      refine comp_last (ys₀ := (ds.take i).flatMap fun d => (es d).map (f d)) (us := vs) W' (fun e => if h : e ∈ es d then (hel e h).choose else []) (fun _ => true) (f d) (lastTurn1 elt t₁ i₁ t₂ i₂ scope pos) ?_ ?_ ?_ ?_ S₅ st₅ L₅ (r₁.mono G₄.gg) hg₄ hgJ (fun j v hv => hP' j v hv) hStJ hJL hJc hJo hJf (fun z => neJ Z (plain_ne L₄) z) hDL hDc hDo hDf hfq' hDm hJm hlen ?_
      · intro e he; rw [dif_pos he]; exact (hel e he).choose_spec.1
      · intro e he; exact ts_nil
      · intro e he _; rw [dif_pos he]; exact (hel e he).choose_spec.2.1
      · intro e he; rw [dif_pos he]; exact (hel e he).choose_spec.2.2
      · intro s₆ g₆ us S₆ G₆ Sm₆ L₆ hg₆ r₆
        refine wpAny_pure ⟨rfl, ds.length + 1 - (i + 1), by omega, (hINV _ _).mpr ⟨i + 1, g₆, us, rfl, hlt, S₆.weaken hsub fun _ q => q, ?_, ?_, ?_, L₆, hg₆, ?_, ?_⟩⟩
        · refine W.frame _ _ _ st₅' fun b hb o e => ?_
          obtain ⟨q1, q2, q3⟩ := hfp b hb
          refine G₆.ext.keep e ?_ q2
          rintro (q | q | q)
          · exact q3 q
          · exact q1 q
          · refine neJ b ?_ q
            by_cases hbI : b = I
            · rw [hbI]; exact (hStI _ _ st₄).ne
            · obtain ⟨o', ho'⟩ := some_of_ne ((hfe b hb).resolve_left hbI)
              obtain ⟨sl, e1, _⟩ := G₁.ext b o' ho' (by rintro (z | z | z); exact q3 z; exact q1 z; exact hbI z)
              have e2 := hk₂' b _ hbI e1
              obtain ⟨sl', e3, _⟩ := G₃.ext b _ e2 q3
              exact G₄.ext.some (ne_of_some e3)
        · have XI : GrowX (fun b => c.mu b ∨ b = Z ∨ b = I) c.fr g₁ s₁.heap g₁ h₂ := ⟨fun b o e nb => ⟨o.slots, hk₂' b o (fun z => nb (.inr (.inr z))) e, fun _ => rfl⟩, stays_refl _, S₂.gh, fun _ _ e => .inl e⟩
          have GA : GrowX (fun b => c.mu b ∨ b = Z ∨ b = I) c.fr g s.heap g₄ s₄.heap :=
            ((G₁.trans XI fun _ _ q => q).trans (G₃.mono (Y := fun b => c.mu b ∨ b = Z ∨ b = I) fun b _ q => .inl q) fun _ _ q => q).trans (G₄.toX (X := fun b => c.mu b ∨ b = Z ∨ b = I)) fun _ _ q => q
          have GB : GrowX (fun b => c.mu b ∨ b = Z) c.fr g₄ s₄.heap g₆ s₆.heap := ((Gu.toX (X := fun b => c.mu b ∨ b = Z ∨ b = J)).trans G₆ fun _ _ q => q).mono fun b e q => by
            rcases q with q | q | q
            · exact .inl q
            · exact .inr q
            · exact absurd hJ₀ (q ▸ e)
          exact GA.trans (GB.mono fun b _ q => q.elim .inl fun z => .inr (.inl z)) fun _ _ q => q
        · exact ((Sm₁.trans ⟨Sm₃.gens, Sm₃.drawn, Sm₃.os⟩).trans Sm₄).trans (Sm₅.trans Sm₆)
        · have e5 : s₅.heap.get? I ≠ none := (hStI _ _ st₅').ne
          refine G₆.none e5 hgI₄ ?_
          rintro (q | q | q)
          · exact hIm q
          · exact hID q.symm
          · exact neJ I (hStI _ _ st₄).ne q
        · rw [htake, List.flatMap_append]
          have hft : (es d).filter (fun _ => true) = es d := List.filter_eq_self.mpr fun _ _ => rfl
          rw [hft] at r₆
          simpa using r₆
    exact compStart_at (gc := ⟨t₂, i₂, [], 0⟩) rfl rfl inner fun E' => W'.self 0 _ _ _ st₅ inner
  · have hin : i = ds.length := by exact Om.rc ‹_› ‹_›
    subst hin
    refine W.done s₁ _ _ st₁ fun h₂ tk hk₂ => ?_
    have hk₂' : ∀ b o, b ≠ I → s₁.heap.get? b = some o → h₂.get? b = some o := fun b o hb e => hk₂ b o (by simpa using hb) e
    have S₂ : Sv B c σ₀ own g₁ h₂ := S₁.other hk₂' hIL hIc hIo hIf hgI₁
    have L₂ : h₂.PlainList Z vs.toArray := L₁.at fun o e => hk₂' Z o hID e
    have XI : GrowX (fun b => c.mu b ∨ b = Z ∨ b = I) c.fr g₁ s₁.heap g₁ h₂ := ⟨fun b o e nb => ⟨o.slots, hk₂' b o (fun z => nb (.inr (.inr z))) e, fun _ => rfl⟩, stays_refl _, S₂.gh, fun _ _ e => .inl e⟩
    have Sm₂ : Same s₁ { s₁ with heap := h₂, toks := tk } := ⟨rfl, rfl, rfl⟩
    rw [List.take_length] at r₁
    exact wpAny_pure (k { s₁ with heap := h₂, toks := tk } g₁ vs S₂ (G₁.trans XI fun _ _ q => q) (Sm₁.trans Sm₂) L₂ hg₁ r₁)

theorem cp_comp2 {elt t₁ i₁ t₂ i₂ : Expr} {scope : Scope} {pos : Pos} {cl : List (Str × Addr)} {d : D} {ds : List D} (es : D → List D) (f : D → D → D) (σ₀ : Vars)
    (hs : ∀ x, foldedSetIterable i₁ a.env x = pure x) (hfs : ∀ env x, foldedSetIterable i₂ env x = pure x) (hc : Clo a.env scope cl) (hit : Ev prog w B a σ own i₁ d) (hI : It prog w B a.A a.l own d ds) (hvis : ∀ C, Vis a (cAct a scope cl C) σ σ₀)
    (hb : ∀ C, ∀ d ∈ ds, Body2 prog w B (cAct a scope cl C) σ₀ own t₁ t₂ i₂ elt d (es d) (f d)) (hsz : (ds.map fun d => (es d).length).sum ≤ sizeLine) :
    Cp prog w B a σ own elt [⟨t₁, i₁, [], 0⟩, ⟨t₂, i₂, [], 0⟩] scope pos (ds.flatMap fun d => (es d).map (f d)) := fun use s g Q E S k => by
  refine comp_begin (gc := ⟨t₁, i₁, [], 0⟩) (elt := elt) (pos := pos) rfl hs hc hit hI hvis S fun s₁ g₁ s₂ I Z C fp P St G₁ Sm₁ S₁ W st hP hSt Sm₂ bg hself => ?_
  have loop : codeAny (model prog w) a.A (.compLoop (.ListComp elt [⟨t₁, i₁, [], 0⟩, ⟨t₂, i₂, [], 0⟩] scope pos) 0 (.ref I) (.ref Z) (cEnv scope cl C a.env)) (compPost (model prog w) a.A E use Q (.ref Z) C) s₂ := by
    refine comp2_loop (c := cAct a scope cl C) W es f (hb C) hfs bg.sv st bg.list bg.gZ bg.gI hP hSt bg.hIL bg.hIc bg.hIo bg.hIf bg.hID bg.hDL bg.hDc bg.hDo bg.hDf bg.hfp (fun b hb => (bg.hfe b hb).imp id fun q => bg.grow.ext.some q) bg.hDm bg.hIm hsz fun s' g' vs S' G' Sm' L' hg' r' => ?_
    obtain ⟨m, hn, _⟩ := S'.ns
    have GF : Grow a.fr g₁ s₁.heap g' s'.heap := ((bg.grow.toX (X := fun b => (cAct a scope cl C).mu b ∨ b = Z ∨ b = I)).trans G' fun _ _ q => q).fresh bg.newX
    have fr1 : ∀ {Y : Addr}, s₁.heap.get? Y = none → s.heap.get? Y = none := fun e => fresh_of_grow G₁ e
    exact k Z C vs s' g' (G₁.trans GF) ((Sm₁.trans Sm₂).trans Sm') (fr1 (bg.newX Z (.inr (.inl rfl)))) (fr1 (bg.newX C (.inl (.inl rfl)))) bg.hCZ S'.lg hg' L' r' ⟨m, hn⟩
  exact codeAny_compStart_list loop (hself 0 st _ _ loop)
end
end Mine
end
section
open PySem PySem.W PyProof.Rows
set_option maxRecDepth 10000
set_option linter.unusedVariables false
namespace Mine

noncomputable def freeC (env : Env) : List (Str × NameKind) → List (Str × Addr) → List (Str × Addr)
  | [], cs => cs
  | (n, k) :: r, cs => if k == .free then freeC env r ((n, (env.cells.lookup n).getD 0) :: cs) else freeC env r cs
theorem closure_free {env : Env} {scope : Scope} (h : ∀ x ∈ scope.names, x.2 = .free → (env.cells.lookup x.1).isSome = true) : closureFor scope env = pure (freeC env scope.names []) := by
  have go : ∀ (names : List (Str × NameKind)) (cs : List (Str × Addr)), (∀ x ∈ names, x.2 = .free → (env.cells.lookup x.1).isSome = true) →
      (forIn names cs fun (x : Str × NameKind) (r : List (Str × Addr)) => if (x.2 == NameKind.free) = true then do let c ← cellOf env x.1; pure (ForInStep.yield ((x.1, c) :: r)) else pure (ForInStep.yield r) : Sem (List (Str × Addr))) = pure (freeC env names cs) := by
    intro names
    induction names with
    | nil => intro cs _; rfl
    | cons x r ih =>
      intro cs hx
      obtain ⟨nm, k⟩ := x
      have hr := fun cs => ih cs fun y hy => hx y (.tail _ hy)
      rw [List.forIn_cons]
      by_cases hk : (k == NameKind.free) = true
      · obtain ⟨c, hc⟩ := Option.isSome_iff_exists.mp (hx _ (.head _) (by simpa using hk))
        have hc : env.cells.lookup nm = some c := hc
        have e : cellOf env nm = pure c := by unfold cellOf; rw [hc]
        simp only [hk, if_true, e, freeC, hc, Option.getD_some]
        exact hr _
      · simp only [hk, freeC]
        exact hr _
  unfold closureFor
  have := go scope.names [] h
  show (do let r ← forIn scope.names [] _; pure r) = _
  rw [show (forIn scope.names ([] : List (Str × Addr)) fun (x : Str × NameKind) (r : List (Str × Addr)) => _) = pure (freeC env scope.names []) from this]
  rfl
theorem freeC_mem {env : Env} : ∀ (names : List (Str × NameKind)) (cs : List (Str × Addr)), (∀ x ∈ names, x.2 = .free → (env.cells.lookup x.1).isSome = true) → (∀ p ∈ cs, env.cells.lookup p.1 = some p.2) → ∀ p ∈ freeC env names cs, env.cells.lookup p.1 = some p.2
  | [], cs, _, h, p, hp => h p hp
  | (nm, k) :: r, cs, hx, h, p, hp => by
    unfold freeC at hp
    by_cases hk : (k == NameKind.free) = true
    · rw [if_pos hk] at hp
      refine freeC_mem r _ (fun y hy => hx y (.tail _ hy)) (fun q hq => ?_) p hp
      rcases List.mem_cons.mp hq with rfl | hq
      · obtain ⟨c, hc⟩ := Option.isSome_iff_exists.mp (hx _ (.head _) (by simpa using hk))
        have hc : env.cells.lookup nm = some c := hc
        simp only [hc, Option.getD_some]
      · exact h q hq
    · rw [if_neg hk] at hp
      exact freeC_mem r _ (fun y hy => hx y (.tail _ hy)) h p hp
theorem freeC_nd {env : Env} : ∀ (names : List (Str × NameKind)) (cs : List (Str × Addr)), (names.map (·.1)).Nodup → (cs.map (·.1)).Nodup → (∀ x ∈ names, x.1 ∉ cs.map (·.1)) → ((freeC env names cs).map (·.1)).Nodup
  | [], cs, _, h, _ => h
  | (nm, k) :: r, cs, hn, h, hd => by
    rw [List.map_cons, List.nodup_cons] at hn
    unfold freeC
    by_cases hk : (k == NameKind.free) = true
    · rw [if_pos hk]
      refine freeC_nd r _ hn.2 ?_ fun x hx hm => ?_
      · rw [List.map_cons, List.nodup_cons]; exact ⟨hd _ (.head _), h⟩
      · rw [List.map_cons] at hm
        rcases List.mem_cons.mp hm with e | hm
        · exact hn.1 (e ▸ List.mem_map_of_mem hx)
        · exact hd x (.tail _ hx) hm
    · rw [if_neg hk]; exact freeC_nd r _ hn.2 h fun x hx => hd x (.tail _ hx)
noncomputable def cloOk (env : Env) (scope : Scope) : Bool := scope.kind == .function && scope.names.all (fun x => x.2 != .free || (env.cells.lookup x.1).isSome) && decide (scope.names.map (·.1)).Nodup
noncomputable abbrev frees (env : Env) (scope : Scope) : List (Str × Addr) := freeC env scope.names []
theorem clo_of {env : Env} {scope : Scope} (h : cloOk env scope = true) : Clo env scope (frees env scope) := by
  simp only [cloOk, Bool.and_eq_true, decide_eq_true_eq, beq_iff_eq] at h
  obtain ⟨⟨h1, h2⟩, h3⟩ := h
  have hx : ∀ x ∈ scope.names, x.2 = .free → (env.cells.lookup x.1).isSome = true := fun x hx e => by
    have := List.all_eq_true.mp h2 x hx
    rw [e] at this
    simpa using this
  exact ⟨closure_free hx, freeC_mem _ _ hx (fun p hp => nomatch hp), freeC_nd _ _ h3 List.nodup_nil (fun x hx hm => nomatch hm), h1, fun x hx e => e ▸ lookup_of_mem h3 hx⟩

theorem vis_nil {a c : Act} {σ : Vars} : Vis a c σ [] := fun p hp => nomatch hp
theorem vis_cons {a c : Act} {σ σ₀ : Vars} {x : Str} {d : D} (h1 : σ.lookup x = some d) (h2 : (a.env.kindOf x != some .local) = true) (h3 : (c.env.kindOf x != some .local) = true) (h4 : c.env.cells.lookup x = a.env.cells.lookup x) (r : Vis a c σ σ₀) : Vis a c σ ((x, d) :: σ₀) := fun p hp => by
  rcases List.mem_cons.mp hp with rfl | hp
  · exact ⟨h1, by simpa using h2, by simpa using h3, h4⟩
  · exact r p hp

theorem sub_cons {σ₀ : Vars} {x : Str} {d : D} (h : σ₀.lookup x = none) : ∀ y e, σ₀.lookup y = some e → ((x, d) :: σ₀).lookup y = some e := fun y e q => by
  by_cases hy : y = x
  · subst hy; rw [h] at q; cases q
  · rw [lookup_cons_ne hy]; exact q
mutual
theorem sub_nil : ∀ d : D, sub [] d = d
  | .val v => by cases v <;> rfl
  | .int _ => rfl
  | .byt _ => rfl
  | .rng _ _ _ => rfl
  | .tup ds => by rw [sub, subs_nil]
  | .lst ds => by rw [sub, subs_nil]
theorem subs_nil : ∀ ds : List D, subs [] ds = ds
  | [] => rfl
  | d :: ds => by rw [subs, sub_nil, subs_nil]
end
mutual
theorem sub_ok {own : Owns} : ∀ {n : Nat} {d : D}, okD n d = true → sub own d = d
  | n, .val v, h => by cases v <;> first | rfl | (cases n <;> simp [okD] at h)
  | n, .int _, h => rfl
  | n, .byt _, h => rfl
  | n, .rng _ _ _, h => rfl
  | 0, .tup ds, h => by simp [okD] at h
  | 0, .lst ds, h => by simp [okD] at h
  | n + 1, .tup ds, h => by rw [sub, subs_ok (n := n) (by simpa [okD] using h)]
  | n + 1, .lst ds, h => by rw [sub, subs_ok (n := n) (by simpa [okD] using h)]
theorem subs_ok {own : Owns} : ∀ {n : Nat} {ds : List D}, (∀ d ∈ ds, okD n d = true) → subs own ds = ds
  | n, [], h => rfl
  | n, d :: ds, h => by rw [subs, sub_ok (h d (.head _)), subs_ok fun e he => h e (.tail _ he)]
end
/-- the names of τ stand so in σ -/
noncomputable def VS (τ σ : Vars) : Prop := ∀ p ∈ τ, σ.lookup p.1 = some p.2
theorem vs_nil {σ : Vars} : VS [] σ := fun p hp => nomatch hp
theorem vs_cons {τ σ : Vars} {x : Str} {d : D} (h : σ.lookup x = some d) (r : VS τ σ) : VS ((x, d) :: τ) σ := fun p hp => by
  rcases List.mem_cons.mp hp with rfl | hp
  · exact h
  · exact r p hp
theorem VS.up {τ σ : Vars} (h : VS τ σ) {x : Str} {d : D} (n : τ.lookup x = none) : VS ((x, d) :: τ) ((x, d) :: σ) := fun p hp => by
  rcases List.mem_cons.mp hp with rfl | hp
  · exact lookup_cons_self
  · have : p.1 ≠ x := fun e => by
      rw [List.lookup_eq_none_iff] at n
      have := n p hp
      rw [e] at this
      simp at this
    rw [lookup_cons_ne this]; exact h p hp
theorem VS.ex {prog : Program} {w : World} {B : Heap} {a : Act} {τ σ : Vars} {own : Owns} {ss : List Stmt} {Φ : Fl → Vars → Owns → Prop} (h : VS τ σ) (e : Ex prog w B a τ own ss Φ) : Ex prog w B a σ own ss Φ :=
  e.weaken fun x d q => h _ (mem_of_lookupD q)
theorem EvF.to {prog : Program} {w : World} {B : Heap} {a : Act} {σ : Vars} {own : Owns} {e : Expr} {ds ds' : List D} (h : EvF prog w B a σ own e ds) (q : ds = ds') : EvF prog w B a σ own e ds' := q ▸ h
theorem filt_true {α : Type} (xs : List α) : xs.filter (fun _ => true) = xs := List.filter_eq_self.mpr fun _ _ => rfl

/-! over encoded things -/
theorem Enc.inj {α : Type} {n : Nat} {e : α → D} (en : Enc n e) {x y : α} (h : e x = e y) : x = y := (en.eqv x y).mp (by rw [← h]; exact (en.eqv x x).mpr rfl)
noncomputable def dec {α : Type} [Inhabited α] (e : α → D) (d : D) : α := by
  classical exact if h : ∃ x, e x = d then h.choose else default
theorem dec_enc {α : Type} [Inhabited α] {e : α → D} (inj : ∀ x y, e x = e y → x = y) (x : α) : dec e (e x) = x := by
  unfold dec
  have h : ∃ y, e y = e x := ⟨x, rfl⟩
  rw [dif_pos h]
  exact inj _ _ h.choose_spec
section
variable {prog : Program} {w : World} {B : Heap} {a c : Act} {σ σ₀ : Vars} {own own' : Owns} {n : Nat}
theorem Cp.to {elt : Expr} {gens : List Comprehension} {scope : Scope} {pos : Pos} {ds ds' : List D} (h : Cp prog w B a σ own elt gens scope pos ds) (e : ds = ds') : Cp prog w B a σ own elt gens scope pos ds' := e ▸ h
theorem cp1 {α : Type} [Inhabited α] (xs : List α) (e : α → D) (inj : ∀ x y, e x = e y → x = y) (p : α → Bool) (f : α → D) (σ₀ : Vars) {elt target iter : Expr} {ifs : List Expr} {scope : Scope} {pos : Pos} {d : D}
    (hit : Ev prog w B a σ own iter d) (hI : It prog w B a.A a.l own d (xs.map e)) (hvis : ∀ C, Vis a (cAct a scope (frees a.env scope) C) σ σ₀)
    (ok : a.Ok n) (hb : ∀ C, (cAct a scope (frees a.env scope) C).Ok n → ∀ x ∈ xs, Body prog w B (cAct a scope (frees a.env scope) C) σ₀ own target ifs elt (e x) (p x) (f x)) (hsz : xs.length ≤ sizeLine) (hs : ∀ x, foldedSetIterable iter a.env x = pure x) (hc : cloOk a.env scope = true) :
    Cp prog w B a σ own elt [⟨target, iter, ifs, 0⟩] scope pos ((xs.filter p).map f) := by
  refine (cp_comp1 (fun d => p (dec e d)) (fun d => f (dec e d)) σ₀ hs (clo_of hc) hit hI hvis (fun C d hd => ?_) (by simpa using hsz)).to ?_
  · obtain ⟨x, hx, rfl⟩ := List.mem_map.mp hd
    simp only [dec_enc inj]
    exact hb C (ok.comp (clo_of hc).kind _ C) x hx
  · rw [List.filter_map, List.map_map]
    congr 1
    · funext x; exact congrArg f (dec_enc inj x)
    · congr 1; funext x; exact congrArg p (dec_enc inj x)
theorem cp2 {α β : Type} [Inhabited α] [Inhabited β] (xs : List α) (e : α → D) (inj : ∀ x y, e x = e y → x = y) (ys : α → List β) (e' : β → D) (inj' : ∀ x y, e' x = e' y → x = y) (f : α → β → D) (σ₀ : Vars) {elt t₁ i₁ t₂ i₂ : Expr} {scope : Scope} {pos : Pos} {d : D}
    (hit : Ev prog w B a σ own i₁ d) (hI : It prog w B a.A a.l own d (xs.map e)) (hvis : ∀ C, Vis a (cAct a scope (frees a.env scope) C) σ σ₀)
    (ok : a.Ok n) (hb : ∀ C, (cAct a scope (frees a.env scope) C).Ok n → ∀ x ∈ xs, ∃ σ' d₂, Tg prog w B (cAct a scope (frees a.env scope) C) σ₀ own t₁ (e x) σ' ∧ Ev prog w B (cAct a scope (frees a.env scope) C) σ' own i₂ d₂ ∧ It prog w B a.A a.l own d₂ ((ys x).map e') ∧ (∀ z v, σ₀.lookup z = some v → σ'.lookup z = some v) ∧
      ∀ y ∈ ys x, ∃ σ'', Tg prog w B (cAct a scope (frees a.env scope) C) σ' own t₂ (e' y) σ'' ∧ Ev prog w B (cAct a scope (frees a.env scope) C) σ'' own elt (f x y) ∧ (∀ z v, σ'.lookup z = some v → σ''.lookup z = some v))
    (hsz : (xs.map fun x => (ys x).length).sum ≤ sizeLine) (hs : ∀ x, foldedSetIterable i₁ a.env x = pure x) (hfs : ∀ env x, foldedSetIterable i₂ env x = pure x) (hc : cloOk a.env scope = true) :
    Cp prog w B a σ own elt [⟨t₁, i₁, [], 0⟩, ⟨t₂, i₂, [], 0⟩] scope pos (xs.flatMap fun x => (ys x).map (f x)) := by
  refine (cp_comp2 (fun d => (ys (dec e d)).map e') (fun d d' => f (dec e d) (dec e' d')) σ₀ hs hfs (clo_of hc) hit hI hvis (fun C d hd => ?_) ?_).to ?_
  · obtain ⟨x, hx, rfl⟩ := List.mem_map.mp hd
    simp only [dec_enc inj]
    obtain ⟨σ', d₂, h1, h2, h3, h4, h5⟩ := hb C (ok.comp (clo_of hc).kind _ C) x hx
    refine ⟨σ', d₂, h1, h2, h3, h4, fun d' hd' => ?_⟩
    obtain ⟨y, hy, rfl⟩ := List.mem_map.mp hd'
    simp only [dec_enc inj']
    exact h5 y hy
  · simpa [List.map_map, Function.comp_def, dec_enc inj] using hsz
  · rw [List.flatMap_map]
    congr 1
    funext x
    simp [List.map_map, Function.comp_def, dec_enc inj, dec_enc inj']
end
end Mine
end
section
open PySem PySem.W PyProof.Rows
set_option maxRecDepth 10000
set_option linter.unusedVariables false
namespace Mine
noncomputable def lexI : List Int → List Int → Bool
  | x :: xs, y :: ys => if x = y then lexI xs ys else decide (x < y)
  | [], _ :: _ => true
  | _, [] => false
theorem ints_of_rep {g : Heap} : ∀ {xs : List Int} {vs : List Value}, RepAll g (xs.map .int) vs → IntsAre vs xs
  | [], vs, h => by rw [repAll_nil.mp h]; exact .nil
  | x :: xs, vs, h => by
    obtain ⟨v, r, rfl, h1, h2⟩ := repAll_cons.mp h
    obtain ⟨t, rfl⟩ := rep_int.mp h1
    exact .cons x t (ints_of_rep h2)
section
variable {prog : Program} {w : World} {A : Around} {E : Value → Shared → Prop} {s : Shared}
theorem tup_lt_tree {xs ys : List Int} {vs ws : List Value} {a b : Addr} {P : PySem.Fin → Shared → Prop} (ha : s.heap.IsTuple a vs.toArray) (hb : s.heap.IsTuple b ws.toArray) (hx : IntsAre vs xs) (hy : IntsAre ws ys) (h : P (.done (.ret (.bool (lexI xs ys)))) s) :
    wpAny (model prog w) A (Builtin.«tuple.__lt__» ⟨[.ref a, .ref b], []⟩) P E s := by
  obtain ⟨oa, hoa, hca, na, hda⟩ := ha
  obtain ⟨ob, hob, hcb, nb, hdb⟩ := hb
  show wpAny _ _ (isInstance (.ref b) (.type "tuple") >>= _) _ _ s
  refine wpAny_bind (wpAny_isInstance ⟨_, hob, hcb⟩ isSubtype_tuple_tuple ?_)
  simp only [Bool.not_true, Bool.false_eq_true, if_false]
  refine wpAny_bind (wpAny_tupleItemsOf hoa hda ?_)
  refine wpAny_bind (wpAny_tupleItemsOf hob hdb ?_)
  refine wpAny_bind ?_
  refine wpAny_forIn_list _
    (fun rest r s' => r.1 = none ∧ s' = s ∧ ∃ x' y' xs' ys', rest = List.zip xs' ys' ∧ IntsAre xs' x' ∧ IntsAre ys' y' ∧ lexI x' y' = lexI xs ys ∧ (decide (xs'.length < ys'.length)) = (decide (vs.toArray.size < ws.toArray.size)))
    _ ?_ ?_ _ _ ⟨rfl, rfl, xs, ys, vs, ws, by simp, hx, hy, rfl, by simp⟩
  · rintro ⟨u, v⟩ rest r s' ⟨hr, rfl, x', y', xs', ys', hz, hx', hy', hdec, hlen⟩
    cases hx' with
    | nil => simp at hz
    | @cons i1 t1 x'' xs'' hx'' =>
      cases hy' with
      | nil => simp at hz
      | @cons i2 t2 y'' ys'' hy'' =>
        simp only [List.zip_cons_cons, List.cons.injEq, Prod.mk.injEq] at hz
        obtain ⟨⟨rfl, rfl⟩, rfl⟩ := hz
        refine wpAny_bind (wpAny_eqBool_int ?_)
        by_cases hk : i1 = i2
        · subst hk
          simp only [beq_self_eq_true, Bool.not_true, Bool.false_eq_true, if_false]
          refine wpAny_pure ⟨rfl, rfl, _, _, _, _, rfl, hx'', hy'', ?_, by simpa using hlen⟩
          rw [← hdec]; simp [lexI]
        · have hk' : (i1 == i2) = false := by simpa using hk
          simp only [hk', Bool.not_false, if_true]
          have hf : lexI xs ys = decide (i1 < i2) := by rw [← hdec]; simp [lexI, hk]
          rw [hf] at h
          refine wpAny_bind (wpAny_rule (wpAny_bind (wpAny_lt_int (show _ from ?_))))
          exact wpAny_bind (wpAny_pure (wpAny_pure (wpAny_pure h)))
  · rintro ⟨r1, r2⟩ s' ⟨hr, rfl, x', y', xs', ys', hz, hx', hy', hdec, hlen⟩
    simp only at hr
    subst hr
    refine wpAny_pure ?_
    have hfin : decide (vs.toArray.size < ws.toArray.size) = lexI xs ys := by
      rw [← hdec, ← hlen]
      cases hx' with
      | nil =>
        cases hy' with
        | nil => simp [lexI]
        | cons _ _ => simp [lexI]
      | cons _ _ =>
        cases hy' with
        | nil => simp [lexI]
        | cons _ _ => simp at hz
    show P (.done (.ret (.bool (decide (vs.toArray.size < ws.toArray.size))))) s'
    rw [hfin]; exact h
theorem cmp_tup {xs ys : List Int} {vs ws : List Value} {a b : Addr} {Q : Value → Shared → Prop} (hu : A.units < cLine) (ha : s.heap.IsTuple a vs.toArray) (hb : s.heap.IsTuple b ws.toArray) (hx : IntsAre vs xs) (hy : IntsAre ws ys) (h : Q (.bool (lexI xs ys)) s) :
    wpAny (model prog w) A (richCompare .Lt (.ref a) (.ref b)) Q E s := by
  obtain ⟨oa, hoa, hca, _⟩ := id ha
  obtain ⟨ob, hob, hcb, _⟩ := id hb
  refine wpAny_richCompare_same_room ⟨_, hoa, hca⟩ ⟨_, hob, hcb⟩ F.slot_tuple_lt (wpAny_call_entry F.slot_tuple_lt ⟨_, hoa, hca⟩ F.entry_tuple_lt (tup_lt_tree ha hb hx hy ⟨_, rfl, by simp, h⟩) (F.args_tuple_lt_2 _ _)) hu
end
section
variable {prog : Program} {w : World} {B : Heap} {A : Around} {l : List Env} {own : Owns}
theorem op_lt_tup (xs ys : List Int) (hu : A.units < cLine) : Op prog w B A l own (t2 (compareOp .Lt)) [.tup (xs.map .int), .tup (ys.map .int)] (dBool (lexI xs ys)) := .two fun s g v₁ v₂ Q E S r₁ r₂ k => by
  obtain ⟨a, vs, rfl, la, ra⟩ := rep_tup.mp r₁
  obtain ⟨b, ws, rfl, lb, rb⟩ := rep_tup.mp r₂
  exact cmp_tup hu (stays_isTuple S.gh la) (stays_isTuple S.gh lb) (ints_of_rep ra) (ints_of_rep rb) (k _ s g (.refl S.gh) (.refl s) (rep_val.mpr rfl))

/-- the least of a list of tuples, the first of the like -/
noncomputable def minT (xs : List (List Int)) : List Int := match xs with
  | [] => []
  | x :: r => r.foldl (fun m y => if lexI y m then y else m) x
noncomputable abbrev eTI (xs : List Int) : D := .tup (xs.map .int)

theorem encTI (n : Nat) : Enc (n + 1) eTI := by
  refine ⟨fun x => by simp only [eTI, okD, List.all_map, List.all_eq_true]; intro y _; exact (encInt n).ok y, fun x y => ?_⟩
  simp only [toPy, PyData.eqv]
  induction x generalizing y with
  | nil => cases y <;> simp [toPys, PyData.eqvAll]
  | cons a x ih =>
    cases y with
    | nil => simp [toPys, PyData.eqvAll]
    | cons b y => simp only [List.map_cons, toPys, PyData.eqvAll, Bool.and_eq_true, (encInt n).eqv, ih, List.cons.injEq]
theorem min_go {I : Addr} {fp : List Addr} {P : Nat → Value → Prop} {St : Nat → Heap → Prop} {R : Result → Shared → Prop} {g : Heap} {xs : List (List Int)} (W : Walks prog w A.in1 I fp [I] xs.length P St) (hu : A.units + 1 < cLine) (S : Addr) (hSf : S ∉ fp) (hgS : g.get? S = none) (hgI : g.get? I = none)
    (hP : ∀ i v, P i v → ∃ x, xs[i]? = some x ∧ Rep g (eTI x) v) :
    ∀ (k j : Nat) (s : Shared) (vb : Value) (m : List Int) (c : Nat), xs.length - j = k → j ≤ xs.length → St j s.heap → g.StaysIn s.heap → Rep g (eTI m) vb →
    s.heap.get? S = some { cls := .type "list", dict := none, data := .seq #[vb, vb] c, slots := #[] } →
    (∀ v h' tk, Rep g (eTI ((xs.drop j).foldl (fun m y => if lexI y m then y else m) m)) v → (∀ b o, b ≠ I → b ≠ S → s.heap.get? b = some o → h'.get? b = some o) → R (.ok (.ret v)) { s with heap := h', toks := tk }) →
    codeAny (model prog w) A (.builtin "min.loop" ⟨[.ref I, .none, .ref S], []⟩) R s := by
  have hname : (toString "min" ++ toString ".loop" : String) = "min.loop" := by decide
  have hSI : S ≠ I := fun e => hSf (by rw [e]; exact W.sub I (.head _))
  intro k
  induction k with
  | zero =>
    intro j s vb m c hk hj hst hgs hPb hS hR
    have hin : j = xs.length := by omega
    subst hin
    refine codeAny_builtin F.entry_min_loop ?_
    rw [Around.under_plainId F.plain_min_loop _]
    show wpAny _ A.in1 (seqItems? (.ref S) >>= _) _ _ s
    refine wpAny_bind (wpAny_seqItems hS rfl ?_)
    show wpAny _ A.in1 (tryCatch (pyNext (.ref I)) _ >>= _) _ _ s
    refine wpAny_bind (wpAny_tryCatch (W.done s _ _ hst fun h' tk hk' => ?_))
    have up : ∀ b o, b ≠ I → s.heap.get? b = some o → h'.get? b = some o := fun b o hb e => hk' b o (by simpa using hb) e
    show wpAny _ A.in1 (updateSeq S (fun _ => #[]) >>= _) _ _ _
    refine wpAny_bind (wpAny_updateSeq (up S _ hSI hS) rfl (wpAny_bind (wpAny_letGo (wpAny_pure ?_))))
    refine hR vb _ tk (by simpa using hPb) fun b o hbI hbS e => (Heap.get?_update_other _ _ (Ne.symm hbS)).trans (up b o hbI e)
  | succ k ih =>
    intro j s vb m c hk hj hst hgs hPb hS hR
    have hlt : j < xs.length := by omega
    refine codeAny_builtin F.entry_min_loop ?_
    rw [Around.under_plainId F.plain_min_loop _]
    show wpAny _ A.in1 (seqItems? (.ref S) >>= _) _ _ s
    refine wpAny_bind (wpAny_seqItems hS rfl ?_)
    show wpAny _ A.in1 (tryCatch (pyNext (.ref I)) _ >>= _) _ _ s
    refine wpAny_bind (wpAny_tryCatch (W.item j s _ _ hlt hst fun v h' tk hPv hst' hk' => ?_))
    have up : ∀ b o, b ≠ I → s.heap.get? b = some o → h'.get? b = some o := fun b o hb e => hk' b o (by simpa using hb) e
    have hS' := up S _ hSI hS
    have hgs' : g.StaysIn h' := fun b o e => up b o (fun z => by rw [z, hgI] at e; cases e) (hgs b o e)
    obtain ⟨x, hx, hr⟩ := hP j v hPv
    have hdrop : xs.drop j = x :: xs.drop (j + 1) := by
      have hx' : x = xs[j] := by rw [List.getElem?_eq_getElem hlt] at hx; exact (Option.some.inj hx).symm
      rw [hx']; exact List.drop_eq_getElem_cons hlt
    rw [hdrop, List.foldl_cons] at hR
    show wpAny _ A.in1 (tryCatch (holding [v, v] (richCompare .Lt v vb >>= _)) _ >>= _) _ _ _
    obtain ⟨a1, vs, rfl, la, ra⟩ := rep_tup.mp hr
    obtain ⟨a2, ws, rfl, lb, rb⟩ := rep_tup.mp hPb
    refine wpAny_bind (wpAny_tryCatch (wpAny_holding (wpAny_bind (cmp_tup hu (stays_isTuple hgs' la) (stays_isTuple hgs' lb) (ints_of_rep ra) (ints_of_rep rb) ?_))))
    refine wpAny_bind (wpAny_holding (wpAny_truthy_bool ?_))
    refine wpAny_bind (wpAny_letGo (wpAny_pure ?_))
    cases hb : lexI x m with
    | true =>
      rw [hb, if_pos rfl] at hR
      simp only [if_true]
      refine wpAny_bind (wpAny_updateSeq hS' rfl (wpAny_bind (wpAny_letGo ?_)))
      rw [hname]
      refine wpAny_pure ⟨plainId_quiet F.plain_min_loop _, ih (j + 1) _ _ x _ (by omega) hlt (W.frame _ _ _ hst' fun b hbf o e => ?_) (fun b o e => ?_) hr (Heap.get?_update_self _ hS' rfl) fun v' h'' tk'' hr' hk'' => ?_⟩
      · exact (Heap.get?_update_other _ _ (fun h : S = b => hSf (by rw [h]; exact hbf))).trans e
      · exact (Heap.get?_update_other _ _ (fun h : S = b => by rw [← h, hgS] at e; cases e)).trans (hgs' b o e)
      · exact hR v' h'' tk'' hr' fun b o hbI hbS e => hk'' b o hbI hbS ((Heap.get?_update_other _ _ (Ne.symm hbS)).trans (up b o hbI e))
    | false =>
      rw [hb, if_neg (by decide)] at hR
      simp only [Bool.false_eq_true, if_false]
      refine wpAny_bind (wpAny_letGo ?_)
      rw [hname]
      refine wpAny_pure ⟨plainId_quiet F.plain_min_loop _, ih (j + 1) _ _ m c (by omega) hlt hst' hgs' hPb hS' fun v' h'' tk'' hr' hk'' => ?_⟩
      exact hR v' h'' tk'' hr' fun b o hbI hbS e => hk'' b o hbI hbS (up b o hbI e)
theorem op_min_tup (hh : A.handled = none) (hu : A.units + 1 < cLine) (xs : List (List Int)) (hne : xs ≠ []) : Op prog w B A l own (fun vs => call (.builtin "min") vs) [.lst (xs.map eTI)] (eTI (minT xs)) := fun s g vs Q E S R k => by
  obtain ⟨v, r, rfl, r₁, r'⟩ := repAll_cons.mp R
  rw [repAll_nil.mp r']
  obtain ⟨x, us, rfl, la, ra⟩ := rep_lst.mp r₁
  have L := stays_isList S.gh la.isList
  have hx : s.heap.get? x ≠ none := isList_ne L
  have hne' : x ≠ s.heap.objs.size := fun e => hx (e ▸ get?_size_none _)
  have hlt : x < s.heap.objs.size := by obtain ⟨o, q⟩ := some_of_ne hx; exact Heap.lt_size q
  have hname : (toString "min" ++ toString ".loop" : String) = "min.loop" := by decide
  refine call_function_tree F.kind_min F.plain_min F.entry_min (F.args_min1 _) ?_
  show wpAny _ A.in1 (Builtin.Builtins.bindParams "min" ["key", "default"] 0 ⟨[], []⟩ >>= _) _ _ s
  refine wpAny_bind (wpAny_of_eq (show Builtin.Builtins.bindParams "min" ["key", "default"] 0 ⟨[], []⟩ = pure [none, none] from rfl) ?_)
  refine wpAny_bind (wpAny_pure ?_)
  refine wpAny_bind (wpAny_pyIter_list L ?_)
  refine wpAny_bind (wpAny_newObj_type ?_)
  obtain ⟨x0, xr, rfl⟩ : ∃ x0 xr, xs = x0 :: xr := by
    cases xs with
    | nil => exact absurd rfl hne
    | cons a b => exact ⟨a, b, rfl⟩
  have hl : us.toArray.size = (x0 :: xr).length := by simp [ra.length]
  have W := Walks.list (prog := prog) (w := w) (A := A.in1) hh s.heap.objs.size x hne' us.toArray
  rw [hl] at W
  have hsz1 : (s.heap.push { cls := .type "list_iterator", data := .fields #[.ref x, .int 0 0] }).objs.size = s.heap.objs.size + 1 := Heap.size_push ..
  have hSf : (s.heap.push { cls := .type "list_iterator", data := .fields #[.ref x, .int 0 0] }).objs.size ∉ [s.heap.objs.size, x] := by
    rw [hsz1]
    intro hm
    rcases List.mem_cons.mp hm with e | hm
    · exact absurd e (Nat.succ_ne_self _)
    · have e := List.mem_singleton.mp hm
      rw [← e] at hlt
      exact absurd hlt (Nat.not_lt.mpr (Nat.le_succ _))
  have gs1 : g.StaysIn (s.heap.push { cls := .type "list_iterator", data := .fields #[.ref x, .int 0 0] }) := fun b o e => Heap.get?_push_of_some _ (S.gh b o e)
  have hgS : g.get? (s.heap.push { cls := .type "list_iterator", data := .fields #[.ref x, .int 0 0] }).objs.size = none := stays_none gs1 (get?_size_none _)
  have hgI : g.get? s.heap.objs.size = none := stays_none S.gh (get?_size_none _)
  have hSI : (s.heap.push { cls := .type "list_iterator", data := .fields #[.ref x, .int 0 0] }).objs.size ≠ s.heap.objs.size := by rw [hsz1]; exact Nat.succ_ne_self _
  have st0 : (fun i (h : Heap) => h.IsListIter s.heap.objs.size x i ∧ h.IsList x us.toArray) 0 ((s.heap.push { cls := .type "list_iterator", data := .fields #[.ref x, .int 0 0] }).push { cls := .type "list", data := .seq #[] }) :=
    ⟨⟨_, Heap.get?_push_of_some _ (Heap.get?_push_size _ rfl), rfl, rfl⟩, (L.push _).push _⟩
  have hP : ∀ (i : Nat) v, us.toArray[i]? = some v → ∃ y, (x0 :: xr)[i]? = some y ∧ Rep g (eTI y) v := fun i v hv => by
    obtain ⟨d, hd, hr⟩ := ra.get' (k := i) (v := v) (by simpa using hv)
    rw [List.getElem?_map] at hd
    cases q : (x0 :: xr)[i]? with
    | none => rw [q] at hd; cases hd
    | some z => rw [q] at hd; cases hd; exact ⟨z, rfl, hr⟩
  rw [hname]
  refine wpAny_pure ⟨plainId_quiet F.plain_min_loop _, ?_⟩
  generalize hSS : (s.heap.push { cls := .type "list_iterator", data := .fields #[.ref x, .int 0 0] }).objs.size = SS at hSf hgS hSI ⊢
  have hS0 : ((s.heap.push { cls := .type "list_iterator", data := .fields #[.ref x, .int 0 0] }).push { cls := .type "list", data := .seq #[] }).get? SS = some { cls := .type "list", data := .seq #[] } := by rw [← hSS]; exact Heap.get?_push_size _ rfl
  refine codeAny_builtin F.entry_min_loop ?_
  rw [Around.under_plainId F.plain_min_loop _]
  show wpAny _ A.in1 (seqItems? (.ref SS) >>= _) _ _ _
  refine wpAny_bind (wpAny_seqItems hS0 rfl ?_)
  show wpAny _ A.in1 (tryCatch (pyNext (.ref s.heap.objs.size)) _ >>= _) _ _ _
  refine wpAny_bind (wpAny_tryCatch (W.item 0 { s with heap := (s.heap.push { cls := .type "list_iterator", data := .fields #[.ref x, .int 0 0] }).push { cls := .type "list", data := .seq #[] } } _ _ (by simp) st0 fun v h' tk hPv hst' hk' => ?_))
  have up : ∀ b o, b ≠ s.heap.objs.size → ((s.heap.push { cls := .type "list_iterator", data := .fields #[.ref x, .int 0 0] }).push { cls := .type "list", data := .seq #[] }).get? b = some o → h'.get? b = some o := fun b o hb e => hk' b o (by simpa using hb) e
  have hS' := up SS _ hSI hS0
  obtain ⟨y, hy, hr⟩ := hP 0 v hPv
  have hy : x0 = y := by simpa using hy
  subst hy
  have old : ∀ b o, s.heap.get? b = some o → h'.get? b = some o := fun b o e => up b o (Nat.ne_of_lt (Heap.lt_size e)) (Heap.get?_push_of_some _ (Heap.get?_push_of_some _ e))
  have neS : ∀ b o, s.heap.get? b = some o → b ≠ SS := fun b o e z => by
    have := Heap.lt_size e
    rw [z, ← hSS, hsz1] at this
    exact absurd this (Nat.not_lt.mpr (Nat.le_succ _))
  show wpAny _ A.in1 (updateSeq SS (fun _ => #[v, v]) >>= _) _ _ _
  refine wpAny_bind (wpAny_updateSeq hS' rfl ?_)
  rw [hname]
  refine wpAny_pure ⟨plainId_quiet F.plain_min_loop _, min_go W hu SS hSf hgS hgI hP _ 1 _ v x0 _ rfl (by simp) (W.frame _ _ _ hst' fun b hbf o e => ?_) (fun b o e => ?_) hr (Heap.get?_update_self _ hS' rfl) fun v' h'' tk'' hr' hk'' => ?_⟩
  · exact (Heap.get?_update_other _ _ (fun h : SS = b => hSf (by rw [h]; exact hbf))).trans e
  · exact (Heap.get?_update_other _ _ (fun h : SS = b => by rw [← h, hgS] at e; cases e)).trans (old b o (S.gh b o e))
  · exact k v' { s with heap := h'', toks := tk'' } g (Grow.plain S.gh fun b o e => hk'' b o (Nat.ne_of_lt (Heap.lt_size e)) (neS b o e) ((Heap.get?_update_other _ _ (Ne.symm (neS b o e))).trans (old b o e))) ⟨rfl, rfl, rfl⟩ hr'
end
end Mine
end
section
open PySem PySem.W PyProof.Rows
set_option maxRecDepth 10000
set_option linter.unusedVariables false
namespace Mine
section
variable {prog : Program} {w : World} {B : Heap} {a c : Act} {σ σ₀ : Vars} {own own' : Owns} {n : Nat}

theorem Sv.mores {g h : Heap} (S : Sv B a σ own g h) : ∀ (L : Owns), (∀ p ∈ L, g.get? p.1 = none ∧ (∃ vs, h.PlainList p.1 vs.toArray ∧ RepAll g p.2 vs) ∧ p.1 ∉ a.fr) → Sv B a σ (L ++ own) g h
  | [], _ => S
  | p :: L, hp => by
    obtain ⟨h1, ⟨vs, h2, h3⟩, h4⟩ := hp p (.head _)
    exact (Sv.mores S L fun q hq => hp q (.tail _ hq)).more h2 h1 h3 h4

noncomputable def refsD (Zs : List Addr) : List D := Zs.map fun Z => .val (.ref Z)
noncomputable def refsV (Zs : List Addr) : List Value := Zs.map fun Z => .ref Z
theorem rep_refs {g : Heap} : ∀ Zs : List Addr, RepAll g (refsD Zs) (refsV Zs)
  | [] => .nil
  | Z :: Zs => .cons (rep_val.mpr rfl) (rep_refs Zs)

theorem turn1 (elt target iter : Expr) (scope : Scope) (pos : Pos) (it acc : Value) (env : Env) :
    compTurn (.ListComp elt [⟨target, iter, [], 0⟩] scope pos) 0 it acc env = (standAt iter.pos >>= fun _ => pyNext it >>= fun r => match r with
      | none => pure (.done .next)
      | some v => letOwnedTupleGo target it v >>= fun _ => assign target env v >>= fun _ =>
          (eval elt env >>= fun x => call (.builtin "list.append") [acc, x] >>= fun _ => pure ()) >>= fun _ => again (.compLoop (.ListComp elt [⟨target, iter, [], 0⟩] scope pos) 0 it acc env)) := rfl

set_option maxHeartbeats 2000000 in
/-- the loop of a comprehension that makes lists of one's own -/
theorem comp_own {elt target iter : Expr} {scope : Scope} {pos : Pos} {I Z : Addr} {fp : List Addr} {ds : List D} {P : Nat → Value → Prop} {St : Nat → Heap → Prop} {R : Result → Shared → Prop}
    (W : Walks prog w c.A I fp [I] ds.length P St) (es : D → List D)
    (hb : ∀ own', ∀ d ∈ ds, ∃ σ', Tg prog w B c σ₀ own' target d σ' ∧ EvF prog w B c σ' own' elt (es d) ∧ ∀ x e, σ₀.lookup x = some e → σ'.lookup x = some e)
    {s : Shared} {g : Heap} (S : Sv B c σ₀ own g s.heap) (nd : OwnNd own) (hst : St 0 s.heap) (L : s.heap.PlainList Z (#[] : Array Value)) (hgD : g.get? Z = none) (hgI : g.get? I = none)
    (hP : ∀ i v, P i v → ∃ d, ds[i]? = some d ∧ Rep g d v) (hStI : ∀ i h, St i h → PlainIt h I)
    (hIL : c.env.locals ≠ I) (hIc : ∀ q ∈ c.env.cells, q.2 ≠ I) (hIo : ∀ q ∈ own, q.1 ≠ I) (hIf : I ∉ c.fr) (hID : Z ≠ I)
    (hDL : c.env.locals ≠ Z) (hDc : ∀ q ∈ c.env.cells, q.2 ≠ Z) (hDo : ∀ q ∈ own, q.1 ≠ Z) (hDf : Z ∉ c.fr)
    (hfp : ∀ b ∈ fp, b ≠ Z ∧ b ∉ c.fr ∧ ¬ c.mu b) (hDm : ¬ c.mu Z) (hIm : ¬ c.mu I) (hsz : ds.length ≤ sizeLine)
    (k : ∀ s' g' Zs, Zs.length = ds.length → Sv B c σ₀ (Zs.zip (ds.map es) ++ own) g' s'.heap → OwnNd (Zs.zip (ds.map es) ++ own) → GrowX (fun b => c.mu b ∨ b = Z ∨ b = I) c.fr g s.heap g' s'.heap → Same s s' → s'.heap.PlainList Z (refsV Zs).toArray → g'.get? Z = none →
      (∀ z ∈ Zs, s.heap.get? z = none ∧ z ≠ Z) → R (.ok .next) s') :
    codeAny (model prog w) c.A (.compLoop (.ListComp elt [⟨target, iter, [], 0⟩] scope pos) 0 (.ref I) (.ref Z) c.env) R s := by
  obtain ⟨INV, hINV⟩ : ∃ INV : Nat → Shared → Prop, ∀ m s', INV m s' ↔ ∃ i g' Zs, m = ds.length + 1 - i ∧ i ≤ ds.length ∧ Zs.length = i ∧ Sv B c σ₀ (Zs.zip ((ds.take i).map es) ++ own) g' s'.heap ∧ OwnNd (Zs.zip ((ds.take i).map es) ++ own) ∧ St i s'.heap ∧ GrowX (fun b => c.mu b ∨ b = Z ∨ b = I) c.fr g s.heap g' s'.heap ∧ Same s s' ∧
    s'.heap.PlainList Z (refsV Zs).toArray ∧ g'.get? Z = none ∧ g'.get? I = none ∧ (∀ z ∈ Zs, s.heap.get? z = none ∧ z ≠ Z ∧ z ≠ I) := ⟨_, fun _ _ => Iff.rfl⟩
  refine codeAny_loop rfl INV ?_ (ds.length + 1) ((hINV _ _).mpr
    ⟨0, g, [], rfl, Nat.zero_le _, rfl, S, nd, hst, ⟨fun b o e _ => ⟨o.slots, e, fun _ => rfl⟩, stays_refl _, S.gh, fun _ _ e => .inl e⟩, .refl s, L, hgD, hgI, fun z hz => nomatch hz⟩)
  intro m s₁ hinv
  obtain ⟨i, g₁, Zs, rfl, hi, hZl, S₁, nd₁, st₁, G₁, Sm₁, L₁, hg₁, hgI₁, hZs⟩ := (hINV _ _).mp hinv
  rw [under_comp]
  show wpAny _ _ ((compTurn (.ListComp elt [⟨target, iter, [], 0⟩] scope pos) 0 (.ref I) (.ref Z) c.env).onRaise (fun x => do noteFrame x c.env; theTreesLotGoes x)) _ _ s₁
  rw [turn1]
  refine wpAny_noted (wpAny_bind (wpAny_standAt (wpAny_bind ?_)))
  have keyZ : ∀ {q : Addr × List D} {dss : List (List D)}, q ∈ Zs.zip dss → q.1 ∈ Zs := fun h => (List.of_mem_zip h).1
  have hIo₁ : ∀ q ∈ Zs.zip ((ds.take i).map es) ++ own, q.1 ≠ I := fun q hq => by
    rcases List.mem_append.mp hq with h | h
    · exact (hZs _ (keyZ h)).2.2
    · exact hIo q h
  have hDo₁ : ∀ q ∈ Zs.zip ((ds.take i).map es) ++ own, q.1 ≠ Z := fun q hq => by
    rcases List.mem_append.mp hq with h | h
    · exact (hZs _ (keyZ h)).2.1
    · exact hDo q h
  by_cases hlt : i < ds.length
  · refine W.item i s₁ _ _ hlt st₁ fun v h₂ tk hPv st₂ hk₂ => ?_
    have hk₂' : ∀ b o, b ≠ I → s₁.heap.get? b = some o → h₂.get? b = some o := fun b o hb e => hk₂ b o (by simpa using hb) e
    have S₂ : Sv B c σ₀ (Zs.zip ((ds.take i).map es) ++ own) g₁ h₂ := S₁.other hk₂' hIL hIc hIo₁ hIf hgI₁
    have L₂ : h₂.PlainList Z (refsV Zs).toArray := L₁.at fun o e => hk₂' Z o hID e
    obtain ⟨d, hd, hr⟩ := hP i v hPv
    have hdm : d ∈ ds := List.mem_of_getElem? hd
    have hr₁ := hr.mono G₁.gg
    obtain ⟨σ', hT, hE, hsub⟩ := hb (Zs.zip ((ds.take i).map es) ++ own) d hdm
    refine wpAny_bind (PlainIt.let (s := { s₁ with heap := h₂, toks := tk }) (hStI _ _ st₂) ?_)
    refine wpAny_bind (hT { s₁ with heap := h₂, toks := tk } g₁ v _ _ S₂ hr₁ fun s₃ S₃ G₃ Sm₃ => ?_)
    have fpk : ∀ {h h' : Heap}, ExtX c.mu c.fr h h' → ∀ b ∈ fp, ∀ o, h.get? b = some o → h'.get? b = some o := fun x b hb o e => x.keep e (hfp b hb).2.2 (hfp b hb).2.1
    have st₃ : St (i + 1) s₃.heap := W.frame _ _ _ st₂ (fpk G₃.ext)
    have L₃ : s₃.heap.PlainList Z (refsV Zs).toArray := L₂.at fun o e => G₃.ext.keep e hDm hDf
    have hIe₃ : s₃.heap.get? I ≠ none := (hStI _ _ st₃).ne
    refine wpAny_bind (wpAny_bind (hE s₃ g₁ _ _ S₃ fun Y vs s₆ g₆ G₆ Sm₆ hY₃ hgY LY rY => ?_))
    have S₆ := S₃.grow G₆
    have st₆ : St (i + 1) s₆.heap := W.frame _ _ _ st₃ (fpk (.of G₆.ext))
    have L₆ := L₃.at fun o e => G₆.ext.keep e hDf
    have hg₆ : g₆.get? Z = none := none_of_new G₆ (plain_ne L₃) hg₁
    have hgI₆ : g₆.get? I = none := none_of_new G₆ hIe₃ hgI₁
    have hYZ : Y ≠ Z := fun e => plain_ne L₃ (e ▸ hY₃)
    have hYI : Y ≠ I := fun e => hIe₃ (e ▸ hY₃)
    have hYf : Y ∉ c.fr := fun hf => by obtain ⟨_, o, ho, _⟩ := S₃.ff.mem hf; rw [hY₃] at ho; cases ho
    have XI : GrowX (fun b => c.mu b ∨ b = Z ∨ b = I) c.fr g₁ s₁.heap g₁ h₂ := ⟨fun b o e nb => ⟨o.slots, hk₂' b o (fun z => nb (.inr (.inr z))) e, fun _ => rfl⟩, stays_refl _, S₂.gh, fun _ _ e => .inl e⟩
    have GA : GrowX (fun b => c.mu b ∨ b = Z ∨ b = I) c.fr g s.heap g₁ s₃.heap := (G₁.trans XI fun _ _ q => q).trans (G₃.mono (Y := fun b => c.mu b ∨ b = Z ∨ b = I) fun b _ q => .inl q) fun _ _ q => q
    have hYmu : ¬ c.mu Y := by
      rintro (q | q)
      · obtain ⟨m, hn, _⟩ := S₃.ns; exact ns_ne hn (q ▸ hY₃)
      · obtain ⟨p, hp, e⟩ := S₃.mcs Y q; obtain ⟨⟨v, h1⟩, _⟩ := S₃.cells p hp; exact isCell_ne h1 (e ▸ hY₃)
    have hYs : s.heap.get? Y = none := by
      cases q : s.heap.get? Y with
      | none => rfl
      | some o =>
        obtain ⟨sl, e, _⟩ := GA.ext Y o q (by rintro (z | z | z); exact hYmu z; exact hYZ z; exact hYI z)
        rw [hY₃] at e; cases e
    have hYo : ∀ q ∈ Zs.zip ((ds.take i).map es) ++ own, q.1 ≠ Y := fun q hq e => by
      obtain ⟨_, us, Lq, _⟩ := S₃.own q hq; exact plain_ne Lq (e ▸ hY₃)
    have SM := S₆.more LY hgY rY hYf
    have htake : ds.take (i + 1) = ds.take i ++ [d] := by rw [List.take_add_one, hd]; rfl
    have hzip : (Zs ++ [Y]).zip ((ds.take (i + 1)).map es) = Zs.zip ((ds.take i).map es) ++ [(Y, es d)] := by
      rw [htake, List.map_append, List.zip_append (by rw [hZl, List.length_map, List.length_take]; omega)]; rfl
    have hvs : (refsV Zs).toArray.size ≤ sizeLine := by simp [refsV, hZl]; exact Nat.le_trans ‹_› ‹_›
    refine wpAny_bind (wpAny_list_append_plain (hsz := hvs) L₆ fun h₇ L₇ hs₇ => ?_)
    have S₇ : Sv B c σ' ((Y, es d) :: (Zs.zip ((ds.take i).map es) ++ own)) g₆ h₇ := SM.other (fun b o hb e => (hs₇.2 b hb).trans e) hDL hDc (fun q hq => by
      rcases List.mem_cons.mp hq with rfl | hq
      · exact hYZ
      · exact hDo₁ q hq) hDf hg₆
    refine wpAny_pure (wpAny_pure ⟨rfl, ds.length + 1 - (i + 1), by omega, (hINV _ _).mpr ⟨i + 1, g₆, Zs ++ [Y], rfl, hlt, by simp [hZl], ?_, ?_, ?_, ?_, (Sm₁.trans ⟨Sm₃.gens, Sm₃.drawn, Sm₃.os⟩).trans (Sm₆.trans ⟨rfl, rfl, rfl⟩), by simpa [refsV] using L₇, hg₆, hgI₆, fun z hz => ?_⟩⟩)
    · rw [hzip]
      refine S₇.weaken hsub fun p hp => ?_
      rcases List.mem_append.mp hp with hp | hp
      · rcases List.mem_append.mp hp with hp | hp
        · exact .tail _ (List.mem_append.mpr (.inl hp))
        · rw [List.mem_singleton.mp hp]; exact .head _
      · exact .tail _ (List.mem_append.mpr (.inr hp))
    · rw [hzip]
      unfold OwnNd at nd₁ ⊢
      simp only [List.map_append, List.map_cons, List.map_nil] at nd₁ ⊢
      rw [List.append_assoc]
      rw [List.nodup_append] at nd₁ ⊢
      refine ⟨nd₁.1, ?_, fun x hx y hy => ?_⟩
      · rw [List.singleton_append, List.nodup_cons]
        refine ⟨fun hm => ?_, nd₁.2.1⟩
        obtain ⟨q, hq, e⟩ := List.mem_map.mp hm
        exact hYo q (List.mem_append.mpr (.inr hq)) e
      · rw [List.singleton_append] at hy
        rcases List.mem_cons.mp hy with rfl | hy
        · obtain ⟨q, hq, e⟩ := List.mem_map.mp hx
          exact e ▸ hYo q (List.mem_append.mpr (.inl hq))
        · exact nd₁.2.2 x hx y hy
    · exact W.frame _ _ _ st₆ fun b hb o e => (hs₇.2 b (hfp b hb).1).trans e
    · exact (GA.trans (G₆.toX (X := fun b => c.mu b ∨ b = Z ∨ b = I)) fun _ _ q => q).trans ((GrowX.one G₆.gh hg₆ hs₇).mono (Y := fun b => c.mu b ∨ b = Z ∨ b = I) fun b _ e => .inr (.inl e)) fun _ _ q => q
    · rcases List.mem_append.mp hz with hz | hz
      · exact hZs z hz
      · rw [List.mem_singleton.mp hz]; exact ⟨hYs, hYZ, hYI⟩
  · have hin : i = ds.length := by exact Om.rc ‹_› ‹_›
    subst hin
    refine W.done s₁ _ _ st₁ fun h₂ tk hk₂ => ?_
    have hk₂' : ∀ b o, b ≠ I → s₁.heap.get? b = some o → h₂.get? b = some o := fun b o hb e => hk₂ b o (by simpa using hb) e
    have S₂ := S₁.other hk₂' hIL hIc hIo₁ hIf hgI₁
    have L₂ : h₂.PlainList Z (refsV Zs).toArray := L₁.at fun o e => hk₂' Z o hID e
    have XI : GrowX (fun b => c.mu b ∨ b = Z ∨ b = I) c.fr g₁ s₁.heap g₁ h₂ := ⟨fun b o e nb => ⟨o.slots, hk₂' b o (fun z => nb (.inr (.inr z))) e, fun _ => rfl⟩, stays_refl _, S₂.gh, fun _ _ e => .inl e⟩
    rw [List.take_length] at S₂ nd₁
    exact wpAny_pure (k { s₁ with heap := h₂, toks := tk } g₁ Zs hZl S₂ nd₁ (G₁.trans XI fun _ _ q => q) (Sm₁.trans ⟨rfl, rfl, rfl⟩) L₂ hg₁ fun z hz => ⟨(hZs z hz).1, (hZs z hz).2.1⟩)

theorem evk_comp_own {elt target iter : Expr} {scope : Scope} {pos : Pos} {d : D} {ds : List D} {K : D → Owns → Prop} (es : D → List D)
    (hs : ∀ x, foldedSetIterable iter a.env x = pure x) (hc : cloOk a.env scope = true) (hit : Ev prog w B a σ own iter d) (hI : It prog w B a.A a.l own d ds) (ok : a.Ok n)
    (hb : ∀ C own', (cAct a scope (frees a.env scope) C).Ok n → ∀ d ∈ ds, ∃ σ', Tg prog w B (cAct a scope (frees a.env scope) C) [] own' target d σ' ∧ EvF prog w B (cAct a scope (frees a.env scope) C) σ' own' elt (es d)) (hsz : ds.length ≤ sizeLine)
    (hK : ∀ Zs : List Addr, Zs.length = ds.length → K (.lst (refsD Zs)) (Zs.zip (ds.map es) ++ own)) :
    EvK prog w B a σ own (.ListComp elt [⟨target, iter, [], 0⟩] scope pos) K := fun s g Q E S nd q => by
  rw [eval_ListComp]
  refine comp_begin (σ₀ := []) (gc := ⟨target, iter, [], 0⟩) (elt := elt) (pos := pos) rfl hs (clo_of hc) hit hI (fun _ => vis_nil) S fun s₁ g₁ s₂ I Z C fp P St G₁ Sm₁ S₁ W st hP hSt Sm₂ bg hself => ?_
  have loop : codeAny (model prog w) a.A (.compLoop (.ListComp elt [⟨target, iter, [], 0⟩] scope pos) 0 (.ref I) (.ref Z) (cEnv scope (frees a.env scope) C a.env)) (compPost (model prog w) a.A E none Q (.ref Z) C) s₂ := by
    refine comp_own (c := cAct a scope (frees a.env scope) C) W es (fun own' d hd => ?_) bg.sv nd st bg.list bg.gZ bg.gI hP hSt bg.hIL bg.hIc bg.hIo bg.hIf bg.hID bg.hDL bg.hDc bg.hDo bg.hDf bg.hfp bg.hDm bg.hIm hsz fun s' g' Zs hZl S' nd' G' Sm' L' hg' hZs => ?_
    · obtain ⟨σ', h1, h2⟩ := hb C own' (ok.comp (clo_of hc).kind _ C) d hd
      exact ⟨σ', h1, h2, fun x e z => by simp at z⟩
    · obtain ⟨m, hn, _⟩ := S'.ns
      refine ⟨m, hn, fun h'' hs'' => ?_⟩
      have GF : Grow a.fr g₁ s₁.heap g' s'.heap := ((bg.grow.toX (X := fun b => (cAct a scope (frees a.env scope) C).mu b ∨ b = Z ∨ b = I)).trans G' fun _ _ q => q).fresh bg.newX
      have GC : Grow a.fr g s.heap g' h'' := by
        refine (((G₁.trans GF).toX (X := (· = C))).trans (GrowX.one S'.gh S'.lg hs'') fun _ _ q => q).fresh fun b e => ?_
        have e : b = C := e
        rw [e]; exact fresh_of_grow G₁ (bg.newX C (.inl (.inl rfl)))
      have hZ0 : s.heap.get? Z = none := fresh_of_grow G₁ (bg.newX Z (.inr (.inl rfl)))
      have L'' : h''.PlainList Z (refsV Zs).toArray := L'.at fun o e => (hs''.2 _ bg.hCZ).trans e
      obtain ⟨GZ, RZ⟩ := grow_again (ds := refsD Zs) GC hZ0 hg' L'' (rep_refs Zs)
      have new₀ : ∀ z ∈ Zs, s.heap.get? z = none := fun z hz => by
        cases e : s.heap.get? z with
        | none => rfl
        | some o =>
          have := (hZs z hz).1
          have e2 := G₁.ext.some (ne_of_some e)
          have e3 := bg.grow.ext.some e2
          exact absurd this e3
      have S'' := (S.grow GZ).mores (Zs.zip (ds.map es)) fun p hp => by
        have hz := (List.of_mem_zip hp).1
        obtain ⟨h1, vs, h2, h3⟩ := S'.own p (List.mem_append.mpr (.inl hp))
        have hpC : p.1 ≠ C := fun e => ns_isList hn h2.isList e.symm
        refine ⟨?_, ⟨vs, h2.at fun o e => (hs''.2 _ hpC).trans e, ?_⟩, fun hf => ?_⟩
        · rw [withObj_get GC.gh, if_neg (hZs _ hz).2]; exact h1
        · exact h3.mono (stays_withObj GC.gh)
        · obtain ⟨_, o, ho, _⟩ := S.ff.mem hf
          rw [new₀ _ hz] at ho; cases ho
      refine q (.ref Z) _ (Zs.zip (ds.map es) ++ own) { s' with heap := h'' } _ (hK Zs hZl) RZ S'' nd' (fun p hp e => ?_) GZ ((Sm₁.trans Sm₂).trans (Sm'.trans ⟨rfl, rfl, rfl⟩))
      rcases List.mem_append.mp hp with hp | hp
      · exact absurd (new₀ _ (List.of_mem_zip hp).1) e
      · exact ⟨p, hp, rfl⟩
  exact codeAny_compStart_list loop (hself 0 st _ _ loop)
end
end Mine
end
section
open PySem PySem.W PySem.Calls PyProof.Rows
set_option maxRecDepth 10000
set_option linter.unusedVariables false
namespace Mine
section
variable {prog : Program} {w : World} {B : Heap} {a : Act} {σ : Vars} {own : Owns} {n : Nat} {rest : List Stmt} {Φ : Fl → Vars → Owns → Prop}
noncomputable def bytD (b : Array UInt8) : List D := (KBw.bInts b).map D.int
set_option maxHeartbeats 1000000 in
/-- it = iter(bytes); if .. else ..; for .. in it -/
theorem ex_iter_for (ok : a.Ok n) {x : Str} {px cp pos pos2 pos3 : Pos} {f e test target : Expr} {then2 else2 body : List Stmt} {pit : Pos} {b : Array UInt8} (hf : Ev prog w B a σ own f (.val (.builtin "iter"))) (he : EvAll prog w B a σ own cp [e] [.byt b]) (hs : CallForm f e [] cp)
    (hk : a.env.kindOf x = some .local) (hd : (x == ("__debug__" : Str)) = false)
    (hsw : swapsWithSole [.Name x px] (.Call f [e] [] cp) pos.line a.env = pure false) (hss : swappedStores [.Name x px] (.Call f [e] [] cp) a.env = pure none) (hae : (assignEach [.Name x px] a.env).map (·.2) = [assign (.Name x px) a.env])
    (τ : Addr → Vars) (ht : ∀ I, Tr prog w B a ((x, .val (.ref I)) :: σ) own test false)
    (h2 : ∀ I, Ex prog w B a ((x, .val (.ref I)) :: σ) own else2 fun fl σ' own' => fl = .next ∧ own' = own ∧ VS (τ I) σ') (hτ : ∀ I, (τ I).lookup x = some (.val (.ref I)))
    (Inv : Addr → Nat → Vars → Owns → Prop) (h0 : ∀ I σ', VS (τ I) σ' → Inv I 0 σ' own)
    (hbody : ∀ I i d σ own, (bytD b)[i]? = some d → Inv I i σ own → ∃ σ', Tg prog w B a σ own target d σ' ∧ Ex prog w B a σ' own body (Loop prog w B a (Inv I (i + 1)) rest Φ))
    (hend : ∀ I σ own, Inv I (bytD b).length σ own → Ex prog w B a σ own rest Φ) (hfs : ∀ v, foldedSetIterable (.Name x pit) a.env v = pure v) :
    Ex prog w B a σ own (.Assign [.Name x px] (.Call f [e] [] cp) pos :: .If test then2 else2 pos2 :: .For target (.Name x pit) body [] pos3 :: rest) Φ := fun s g Q E S nd k => by
  refine wpAny_execs_cons ?_
  rw [arm_exec_Assign, hsw]
  refine wpAny_bind (wpAny_standAt (wpAny_bind (wpAny_pure ?_)))
  rw [if_neg (by decide), (hs _).1]
  refine wpAny_bind (wpAny_bind (hf s g _ _ S fun v₁ s₁ g₁ G₁ Sm₁ r₁ => ?_))
  rw [rep_val.mp r₁]
  refine Calls.callWith_builtin (any_of_hc (hs _).2) (evAll_args he (S.grow G₁) (hs _).2 fun vs s₂ g₂ G₂ Sm₂ r₂ => ?_)
  obtain ⟨v, r, rfl, q₁, r'⟩ := repAll_cons.mp r₂
  rw [repAll_nil.mp r']
  obtain ⟨tb, rfl⟩ := rep_byt.mp q₁
  refine Calls.call_function_entry (by decide +kernel) (by decide +kernel) kdk_entry_iter (kdk_args_iter _) ?_
  unfold Builtin.«iter»
  refine wpAny_bind (m := someArgs "iter" 1 2 _) (wpAny_of_eq (a := [Value.bytes b tb]) (by rfl) ?_)
  show wpAny _ _ (pyIter (.bytes b tb) >>= _) _ _ _
  refine wpAny_bind (KBw.pyIter_bytes ?_)
  refine wpAny_pure ⟨_, rfl, ?_⟩
  have S₂ := (S.grow G₁).grow G₂
  have GP := grow_push (G₁.trans G₂) { cls := .type "bytes_iterator", data := .fields #[.bytes b tb, .int 0 0] }
  have S₃ := S.grow GP
  generalize hI : s₂.heap.objs.size = I
  have hIn : s₂.heap.get? I = none := by rw [← hI]; exact get?_size_none _
  have hI₀ : s.heap.get? I = none := fresh_of_grow (G₁.trans G₂) hIn
  have hgI : g₂.get? I = none := stays_none S₂.gh hIn
  have W := KBw.walks (prog := prog) (w := w) (A := a.A) ok.hand I b tb
  have st0 : KBw.IsBytesIter (s₂.heap.push { cls := .type "bytes_iterator", data := .fields #[.bytes b tb, .int 0 0] }) I b tb 0 := ⟨_, by rw [← hI]; exact Heap.get?_push_size _ rfl, rfl, rfl⟩
  rw [hss, hae]
  refine wpAny_bind (wpAny_pure ?_)
  show wpAny _ _ (do assign (.Name x px) a.env (.ref I); pure Flow.next) _ _ _
  have ne0 : ∀ b, s.heap.get? b ≠ none → b ≠ I := fun b e z => e (z ▸ hI₀)
  have hIL : a.env.locals ≠ I := by obtain ⟨m, hn, _⟩ := S.ns; exact ne0 _ (ns_ne hn)
  have hIc : ∀ q ∈ a.env.cells, q.2 ≠ I := fun q hq => by obtain ⟨⟨v, h1⟩, _⟩ := S.cells q hq; exact ne0 _ (isCell_ne h1)
  have hIo : ∀ q ∈ own, q.1 ≠ I := fun q hq => by obtain ⟨_, vs, L, _⟩ := S.own q hq; exact ne0 _ (plain_ne L)
  have hIf : I ∉ a.fr := fun hf => by obtain ⟨_, o, ho, _⟩ := S.ff.mem hf; exact ne0 I (ne_of_some ho) rfl
  have hImu : ¬ Mu a own I := by
    rintro ((e | hm) | ⟨q, hq, e⟩)
    · exact hIL e.symm
    · obtain ⟨p, hp, e⟩ := S.mcs I hm; exact hIc p hp e
    · exact hIo q hq e
  refine wpAny_bind (wpAny_assign_Name (storeName_l (d := .val (.ref I)) ok hk S₃ (rep_val.mpr rfl) fun s₄ S₄ G₄ Sm₄ => wpAny_pure ?_))
  have fk : ∀ {h h' g g' : Heap}, GrowX (Mu a own) a.fr g h g' h' → ∀ c ∈ [I], ∀ o, h.get? c = some o → h'.get? c = some o := fun G c hc o e => by
    rw [List.mem_singleton.mp hc] at e ⊢; exact G.ext.keep e hImu hIf
  have G₄' : GrowX (Mu a own) a.fr g₂ (s₂.heap.push { cls := .type "bytes_iterator", data := .fields #[.bytes b tb, .int 0 0] }) g₂ s₄.heap := G₄.mono fun b _ m => mu_own m
  have st₄ : KBw.IsBytesIter s₄.heap I b tb 0 := W.frame _ _ _ st0 (fk G₄')
  refine wpAny_execs_cons (wpAny_If (ht I s₄ g₂ _ _ S₄ fun s₅ g₅ G₅ Sm₅ => ?_))
  rw [if_neg (by decide)]
  have S₅ := S₄.grow G₅
  have st₅ : KBw.IsBytesIter s₅.heap I b tb 0 := W.frame _ _ _ st₄ (fk G₅.toX)
  refine h2 I s₅ g₅ _ _ S₅ nd fun f fl σ' own' s₆ g₆ hΦ r S₆ nd₆ on₆ G₆ Sm₆ => ?_
  obtain ⟨rfl, rfl, hV⟩ := hΦ
  cases r
  have st₆ : KBw.IsBytesIter s₆.heap I b tb 0 := W.frame _ _ _ st₅ (fk G₆)
  have hIe : ∀ {h : Heap} {i : Nat}, KBw.IsBytesIter h I b tb i → PlainIt h I := fun st => by obtain ⟨o, ho, hc, hd⟩ := st; exact ⟨o, _, ho, hc, by decide⟩
  have hgI₅ : g₅.get? I = none := none_of_new G₅ (hIe st₄).ne hgI
  have hgI₆ : g₆.get? I = none := G₆.none (hIe st₅).ne hgI₅ hImu
  have GG : GrowX (Mu a own') a.fr g s.heap g₆ s₆.heap := (((GP.toX (X := Mu a own')).trans G₄' fun _ _ q => q).trans G₅.toX fun _ _ q => q).trans G₆ fun _ _ q => q
  have SmG : Same s s₆ := ((Sm₁.trans Sm₂).trans ⟨Sm₄.gens, Sm₄.drawn, Sm₄.os⟩).trans (Sm₅.trans Sm₆)
  have hbl : b.size = (bytD b).length := by unfold bytD; rw [List.length_map, KBw.ints_length]
  have W' := W
  rw [hbl] at W'
  obtain ⟨m, hn, hvs⟩ := S₆.ns
  obtain ⟨u, hu1, hu2⟩ := hvs x _ (hV (x, .val (.ref I)) (mem_of_lookupD (hτ I))) hk
  rw [rep_val.mp hu2] at hu1
  refine wpAny_execs_cons (wpAny_For (wpAny_Name (wpAny_loadName_local ok.kind hk hn hu1 (W.self 0 s₆ _ _ st₆ ?_)) hd) hfs)
  have fin : ∀ {g' h' : Heap}, GrowX (MuY a own' (· = I)) a.fr g₆ s₆.heap g' h' → GrowX (Mu a own') a.fr g s.heap g' h' := fun G' =>
    ((GG.mono (Y := MuY a own' (· = I)) fun _ _ m => .inl m).trans G' fun _ _ q => q).mono fun b e m => m.elim id fun z => absurd hI₀ (z ▸ e)
  have kE : ∀ b, s.heap.get? b ≠ none → s₆.heap.get? b ≠ none := fun b e => by
    by_cases hX : Mu a own' b
    · rcases hX with (rfl | m) | ⟨q, hq, rfl⟩
      · exact ns_ne hn
      · obtain ⟨p, hp, rfl⟩ := S₆.mcs b m
        obtain ⟨⟨v, h1⟩, _⟩ := S₆.cells p hp
        exact isCell_ne h1
      · obtain ⟨_, vs, L, _⟩ := S₆.own q hq; exact plain_ne L
    · obtain ⟨o, ho⟩ := some_of_ne e
      obtain ⟨sl, q, _⟩ := GG.ext b o ho hX
      exact ne_of_some q
  have on' : ∀ {own'' : Owns}, OwnNew own' s₆.heap own'' → OwnNew own' s.heap own'' := fun on q hq e => on q hq (kE _ e)
  refine for_run W' (Inv I) (hbody I) (hend I) S₆ nd₆ st₆ (h0 I σ' hV) (fun i v hv => ?_) (fun i h st => hIe st) hIL hIc hIo hIf hgI₆ (fun c hc => .inl (List.mem_singleton.mp hc)) (fun s' g' σ'' own'' S' nd' on G' Sm' hE => ?_) (fun f fl s' g' σ'' own'' hf' p r S' nd' on G' Sm' => ?_)
  · obtain ⟨ch, u, hc, rfl⟩ := hv
    exact ⟨.int (ch.toNat : Int), by unfold bytD; rw [List.getElem?_map, KBw.ints_get hc]; rfl, rep_int.mpr ⟨u, rfl⟩⟩
  · refine hE s' g' Q E S' nd' fun f fl σ₃ own₃ s₃ g₃ p r S₃ nd₃ on₃ G₃ Sm₃ => ?_
    refine k f fl σ₃ own₃ s₃ g₃ p r S₃ nd₃ ?_ ?_ ((SmG.trans Sm').trans Sm₃)
    · exact step_new (Y := fun _ => False) S' (fun _ z => z.elim) (on' on) (muY_of (fin G')) on₃
    · exact muY_no (step_grow (Y := fun _ => False) (on' on) (muY_of (fin G')) (muY_of G₃))
  · have fin' := k f fl σ'' own'' s' g' p r S' nd' (on' on) (fin G') (SmG.trans Sm')
    cases fl with
    | next => exact absurd rfl hf'
    | brk => cases r; exact fin'
    | cont => cases r; exact fin'
    | ret d => obtain ⟨v, rfl, _⟩ := r; exact fin'
end
end Mine
end
section
open PySem PySem.W PyProof.Rows
set_option maxRecDepth 10000
set_option linter.unusedVariables false
namespace Mine
noncomputable def P0 : Params := { strHash := fun _ => 0, shareClass := fun _ => 0, mergeTok := fun t => t, idOf := fun _ => 0, idOfShared := fun _ _ => 0, followText := fun _ => false, idOfImm := fun _ => 0 }
noncomputable def fdOf (a : Addr) : FuncData := match (heapP P0).lookup a with | some ⟨_, _, .func fd, _⟩ => fd | _ => default
noncomputable def bdOf (a : Addr) : List Stmt := match (fdOf a).body with | .stmts b => b | _ => []
structure Bs (P : Params) (B : Heap) (mg mb : Str → Option Value) : Prop where
  K : (heapP P).In B
  G : Gl B mg mb
  bl : ∀ x : Str, x ≠ "__name__" → mb x = bootBuiltins x
section
variable {prog : Program} {w : World} {B : Heap} {mg mb : Str → Option Value} {A : Around} {l : List Env} {own : Owns} {n : Nat} {P : Params} {a : Act} {σ : Vars}
theorem Bs.g (b : Bs P B mg mb) {x : Str} {v : Value} (e : nsIn (heapP P) mainGlobals x = some (some v)) : Gn mg mb x v := .inl (mg_of b.K b.G.g e)
theorem Bs.b (b : Bs P B mg mb) {x : Str} {v : Value} (e : nsIn (heapP P) mainGlobals x = some none) (hv : bootBuiltins x = some v) (hn : x ≠ "__name__") : Gn mg mb x v := .inr ⟨mg_none_of b.K b.G.g e, (b.bl x hn).trans hv⟩
theorem Bs.fn (b : Bs P B mg mb) {a : Addr} {fd : FuncData} {c : Value} {d : Option Addr} {sl : Array (Option Value)} (e : (heapP P).lookup a = some ⟨c, d, .func fd, sl⟩) : ∃ o, B.get? a = some o ∧ o.data = .func fd := ⟨_, b.K _ _ e, rfl⟩

theorem mem_of_lookup_k {x : Str} {k : NameKind} : ∀ {l : List (Str × NameKind)}, l.lookup x = some k → (x, k) ∈ l
  | [], h => by simp at h
  | p :: r, h => by
    rw [List.lookup_cons] at h
    by_cases e : x = p.1
    · subst e
      have h' : some p.2 = some k := by simpa using h
      cases h'; exact .head _
    · have : (x == p.1) = false := by rw [beq_eq_false_iff_ne]; exact e
      rw [this] at h
      exact .tail _ (mem_of_lookup_k h)
theorem cellsFrom_some {x : Str} : ∀ (names : List (Str × NameKind)) (n : Nat) (acc : List (Str × Addr)), (x, NameKind.cell) ∈ names ∨ (acc.lookup x).isSome = true → ((cellsFrom n names acc).lookup x).isSome = true
  | [], n, acc, h => by
    rcases h with h | h
    · exact nomatch h
    · exact h
  | (y, k) :: r, n, acc, h => by
    unfold cellsFrom
    split
    · rename_i hk
      refine cellsFrom_some r _ _ ?_
      by_cases e : x = y
      · subst e; exact .inr (by rw [List.lookup_cons, beq_self_eq_true]; rfl)
      · have e' : (x == y) = false := by rw [beq_eq_false_iff_ne]; exact e
        rcases h with h | h
        · rcases List.mem_cons.mp h with h | h
          · cases h; exact absurd rfl e
          · exact .inl h
        · exact .inr (by rw [List.lookup_cons, e']; exact h)
    · rename_i hk
      refine cellsFrom_some r _ _ ?_
      rcases h with h | h
      · rcases List.mem_cons.mp h with h | h
        · cases h; exact absurd rfl hk
        · exact .inl h
      · exact .inr h
noncomputable def fnGood (fd : FuncData) (names : List Str) : Bool :=
  fd.closure.isEmpty && fd.scope.kind == .function && fd.globals == mainGlobals && fd.builtins == builtinsNs && !fd.scope.isCoroutine && !fd.scope.isGenerator &&
  names.all (fun x => fd.scope.names.lookup x == some .local || fd.scope.names.lookup x == some .cell) && decide names.Nodup && decide ((cellsFrom 0 fd.scope.names []).map (·.1)).Nodup
theorem Bs.ok (b : Bs P B mg mb) {fd : FuncData} {names : List Str} {body : List Stmt} (h : fnGood fd names = true) (hb : fd.body = .stmts body) (hc : codeIn (heapP P) fd.code fd.qualname = true) (bind : ∀ vs, vs.length = names.length → bindArgs fd ⟨vs, []⟩ = pure (names.zip vs)) : FnOk B fd names body := by
  simp only [fnGood, Bool.and_eq_true, decide_eq_true_eq, Bool.not_eq_true', beq_iff_eq, List.isEmpty_iff] at h
  obtain ⟨⟨⟨⟨⟨⟨⟨⟨h1, h2⟩, h3⟩, h4⟩, h5⟩, h6⟩, h7⟩, h8⟩, h9⟩ := h
  refine ⟨hb, h1, h2, h3, h4, h5, h6, codeRec_of b.K hc, fun s vs _ hl => BindsTo.of_eq (bind vs hl), h8, fun x hx => ?_, h9⟩
  have := List.all_eq_true.mp h7 x hx
  simp only [Bool.or_eq_true, beq_iff_eq] at this
  refine this.imp id fun q => ⟨q, fun n => cellsFrom_some _ _ _ (.inl (mem_of_lookup_k q))⟩

theorem Bs.ok' (b : Bs P B mg mb) {fd : FuncData} {names : List Str} {body : List Stmt} (h : fnGood fd names = true) (hb : fd.body = .stmts body) (hc : codeIn (heapP P) fd.code fd.qualname = true) (bind : ∀ (s : Shared) vs, (∀ b o, B.get? b = some o → s.heap.get? b = some o) → vs.length = names.length → BindsTo s fd ⟨vs, []⟩ (names.zip vs)) : FnOk B fd names body := by
  simp only [fnGood, Bool.and_eq_true, decide_eq_true_eq, Bool.not_eq_true', beq_iff_eq, List.isEmpty_iff] at h
  obtain ⟨⟨⟨⟨⟨⟨⟨⟨h1, h2⟩, h3⟩, h4⟩, h5⟩, h6⟩, h7⟩, h8⟩, h9⟩ := h
  refine ⟨hb, h1, h2, h3, h4, h5, h6, codeRec_of b.K hc, bind, h8, fun x hx => ?_, h9⟩
  have := List.all_eq_true.mp h7 x hx
  simp only [Bool.or_eq_true, beq_iff_eq] at this
  refine this.imp id fun q => ⟨q, fun n => cellsFrom_some _ _ _ (.inl (mem_of_lookup_k q))⟩

theorem Bs.evb (b : Bs P B mg mb) (ok : a.Ok n) {x : Str} {p : Pos} {v : Value} (e : nsIn (heapP P) mainGlobals x = some none := by rfl) (hv : bootBuiltins x = some v := by rfl) (hn : x ≠ "__name__" := by decide) (hk : a.env.kindOf x = some .globalImplicit := by rfl) (hd : (x == ("__debug__" : Str)) = false := by rfl) :
    Ev prog w B a σ own (.Name x p) (.val v) := ev_global ok b.G (b.b e hv hn) hk hd
theorem Bs.evg (b : Bs P B mg mb) (ok : a.Ok n) {x : Str} {p : Pos} {v : Value} (e : nsIn (heapP P) mainGlobals x = some (some v) := by rfl) (hk : a.env.kindOf x = some .globalImplicit := by rfl) (hd : (x == ("__debug__" : Str)) = false := by rfl) :
    Ev prog w B a σ own (.Name x p) (.val v) := ev_global ok b.G (b.g e) hk hd
theorem Bs.len (b : Bs P B mg mb) (ok : a.Ok n) {e : Expr} {q p : Pos} {ds : List D} (h : Ev prog w B a σ own e (.lst ds)) (hl : ds.length < 2 ^ 63) (hk : a.env.kindOf "len" = some .globalImplicit := by rfl)
    (hs : ∀ env, backTo p (starEach [e] env) = (false, eval e env) :: backTo p (starEach [] env) := by intro _; rfl) (hc : CallForm (.Name "len" q) e [] p := by intro _; exact ⟨rfl, _, _, rfl, rfl⟩) : Ev prog w B a σ own (.Call (.Name "len" q) [e] [] p) (.int ds.length) :=
  ev_call_b (b.evb ok rfl rfl (by decide) hk rfl) (evAll_cons h evAll_nil hs) (op_len_lst _ hl) hc
theorem Bs.range1 (b : Bs P B mg mb) (ok : a.Ok n) {e : Expr} {q p : Pos} {y : Int} (h : Ev prog w B a σ own e (.int y)) (hk : a.env.kindOf "range" = some .globalImplicit := by rfl)
    (hs : ∀ env, backTo p (starEach [e] env) = (false, eval e env) :: backTo p (starEach [] env) := by intro _; rfl) (hc : CallForm (.Name "range" q) e [] p := by intro _; exact ⟨rfl, _, _, rfl, rfl⟩) : Ev prog w B a σ own (.Call (.Name "range" q) [e] [] p) (.rng 0 y 1) :=
  ev_call_t (b.evb ok rfl rfl (by decide) hk rfl) (evAll_cons h evAll_nil hs) (op_range1 _) hc

theorem cmp_fn (b : Bs P B mg mb) : ∃ o, B.get? 51 = some o ∧ o.data = .func (fdOf 51) := b.fn rfl
theorem cmp_ok (b : Bs P B mg mb) : FnOk B (fdOf 51) ["x", "y"] (bdOf 51) := b.ok rfl rfl rfl fun vs h => by
  match vs, h with
  | [x, y], _ => rfl
theorem op_cmp (b : Bs P B mg mb) (ok : AOk A l (n + 1)) (i j : Int) : Op prog w B A l own (fun vs => call (.ref 51) vs) [.int i, .int j] (.int (b2i (decide (j < i)) - b2i (decide (i < j)))) := by
  obtain ⟨o, ho, hd⟩ := cmp_fn b
  refine op_fn b.G ok ho hd (cmp_ok b) rfl fun L => ?_
  have ok' : (fAct (fdOf 51) 51 L A l).Ok n := fAct_ok ok (cmp_ok b)
  refine ex_return (Ev.k (ev_binop (ev_compare (ev_local ok' rfl rfl rfl) (ev_local ok' rfl rfl rfl) (op_gt_int _ _) rfl) (ev_compare (ev_local ok' rfl rfl rfl) (ev_local ok' rfl rfl rfl) (op_lt_int _ _) rfl) (op_sub_bool _ _)) ⟨_, rfl, fun _ => rfl⟩)
end
end Mine
end
section
open PySem PySem.W PyProof.Rows
set_option maxRecDepth 100000
namespace Mine
/-- the parts of law's fifth statement -/
noncomputable def st4 : Stmt := (fB 15).getD 4 (.Pass default)
noncomputable def keyE : Expr := match st4 with
  | .Assign _ (.Call _ _ (k :: _) _) _ => k.value
  | _ => default
noncomputable def lamE : Expr := match keyE with
  | .Call _ (l :: _) _ _ => l
  | _ => default
noncomputable def lawE (L : Addr) : Env := callEnvC (fdOf 81) L 81
noncomputable def lamP : Arguments := match lamE with | .Lambda a _ _ _ => a | _ => default
noncomputable def lamB : Expr := match lamE with | .Lambda _ b _ _ => b | _ => default
noncomputable def lamS : Scope := match lamE with | .Lambda _ _ s _ => s | _ => default
noncomputable def clsB : List Stmt := match (fB 3) with | (.ClassDef _ _ _ b _ _ _ _ _ _ _) :: _ => b | _ => []
noncomputable def mP (i : Nat) : Arguments := match clsB.getD i (.Pass default) with | .FunctionDef _ a _ _ _ _ _ _ _ _ => a | _ => default
noncomputable def mB (i : Nat) : List Stmt := match clsB.getD i (.Pass default) with | .FunctionDef _ _ b _ _ _ _ _ _ _ => b | _ => default
noncomputable def mS (i : Nat) : Scope := match clsB.getD i (.Pass default) with | .FunctionDef _ _ _ _ _ _ sc _ _ _ => sc | _ => default
/-- the lambda, and the two methods that sorted calls -/
noncomputable def fLam (S cn : Nat) : FuncData := { name := "<lambda>", qualname := "law.<locals>.<lambda>", params := lamP, body := .expr lamB, scope := lamS, globals := 3, closure := [("numbers", cn)], defaults := .none, kwdefaults := .none, pyModule := .str "law_oy0040_01" 248, code := .ref (S + 6), closureTuple := .ref (S + 0) }
noncomputable def fIni (S : Nat) : FuncData := { name := "__init__", qualname := "cmp_to_key.<locals>.K.__init__", params := mP 2, body := .stmts (mB 2), scope := mS 2, globals := 3, closure := [], defaults := .none, kwdefaults := .none, pyModule := .str "law_oy0040_01" 248, code := .ref (S + 23) }
noncomputable def fLt (S : Nat) : FuncData := { name := "__lt__", qualname := "cmp_to_key.<locals>.K.__lt__", params := mP 3, body := .stmts (mB 3), scope := mS 3, globals := 3, closure := [("mycmp", S + 9)], defaults := .none, kwdefaults := .none, pyModule := .str "law_oy0040_01" 248, code := .ref (S + 31), closureTuple := .ref (S + 25) }
noncomputable def codeQ (o : Option Obj) : Option Str := match o with
  | some ob => match ob.data with
    | Data.fields vs => match vs[1]? with
      | some (Value.str q _) => some q
      | _ => none
    | _ => none
  | none => none
end Mine
end
section
open PySem PySem.W PySem.W.X PyProof.Rows
set_option maxRecDepth 1000000
set_option maxHeartbeats 0
namespace Mine
/-! cmp_to_key(lambda a, b: ..) in law's frame -/
noncomputable def kOlds (P : Params) : List (Nat × Obj) := [(2, o2), (3, oldAt P 3), (27, oldAt P 27), (4, oldAt P 4), (28, oldAt P 28), (0, oldAt P 0), (80, oldAt P 80)]
noncomputable def dnO : Code → Sem Fin := fun c => match c with
  | .func b e => denote table (.func b e)
  | .call f a => match f with
    | .ref r => denote table (.call (.ref r) a)
    | f => dnZ (.call f a)
  | c => dnZ c
theorem dnO_eq : denote table = dnO := by
  funext c
  cases c with
  | call f a => cases f <;> first | rfl | exact congrFun hdnZ _
  | _ => first | rfl | exact congrFun hdnZ _
noncomputable def kV (w : World) (h₀ : Heap) (S : Nat) (R₀ : Result → Shared → Prop) (d : Drawn) (t₀ : Nat) (os : OsState) : XV := ⟨PySem.Challenge.rw_oy0040_01.prog, w, h₀, S, .nil, [(23, #[]), (78, #[])], callerA, R₀, d, t₀, os⟩
noncomputable def kL : List Lx := [.old 1, .old 6, .tab, .tab, .tab, .tab, .old 1, .old 3, .old 1, .old 4, .go, .old 4, .old 2, .new 9, .new 9, .old 0, .old 5, .old 1, .old 5, .go, .go, .go, .new 11, .new 12, .old 2, .tab, .tab, .tab, .tab, .old 1, .old 3, .old 1, .old 0, .new 12, .new 12, .old 1, .new 12, .new 12, .new 12, .new 12, .new 12, .new 12, .new 12, .new 12, .new 12, .go, .new 12, .new 12, .new 12, .new 12, .new 12, .new 12, .new 15, .new 14, .new 14, .new 14, .new 14, .old 1, .old 3, .old 1, .new 12, .new 12, .new 12, .new 15, .new 14, .new 14, .new 14, .new 14, .old 1, .old 3, .old 1, .new 12, .new 12, .new 12, .new 15, .new 14, .new 14, .new 14, .new 14, .old 1, .old 3, .old 1, .new 12, .new 12, .new 12, .new 15, .new 14, .new 14, .new 14, .new 14, .old 1, .old 3, .old 1, .new 12, .new 12, .new 12, .new 15, .new 14, .new 14, .new 14, .new 14, .old 1, .old 3, .old 1, .new 12, .new 12, .new 12, .new 15, .new 14, .new 14, .new 14, .new 14, .old 1, .old 3, .old 1, .new 12, .new 12, .new 12, .new 12, .new 12, .new 12, .new 12, .new 12, .new 12, .go, .con 0, .new 68, .new 68, .go, .new 68, .new 8, .new 8, .new 8]
noncomputable def kTree (L : Addr) : Sem Value := eval keyE (lawE L)
section
variable (w : World) (h₀ : Heap) (S : Nat) (R₀ : Result → Shared → Prop) (d : Drawn) (t₀ : Nat) (os : OsState) (L : Addr) (p p0 : Pos)
noncomputable def kOut : Option Out := goRun (kV w h₀ S R₀ d t₀ os) dnO Code.quiet (kOlds w.params) [(conN w.params S t₀).sum] 1500 kL (lawΓ (fB 15) (lawE L) p0) p .base (Sem.bind (kTree L) fun v => .pure (.done (.ret v))) σ0
noncomputable def kR : Out := (kOut w h₀ S R₀ d t₀ os L p p0).getD ⟨.none, .nil, 0, [], 0, [], [], [], [], none⟩
/-- what is known at the end -/
noncomputable def KChk (o : Option Out) (R : Out) (K : Value) (l7 l24 l32 l67 l68 l69 l9 : Option Obj) : Prop :=
  (o.isSome, R.ob.map (·.1), R.cs.map (·.1), R.ne.map (·.1), R.ki.map (·.1), R.rest.isSome, R.ch.map (·.1), R.val, R.m, [R.T.get 7, R.T.get 24, R.T.get 32, R.T.get 67, R.T.get 68, R.T.get 69, R.T.get 9], [codeQ (R.T.get 6), codeQ (R.T.get 23), codeQ (R.T.get 31)]) =
  (true, R.ob.map (·.2), R.cs.map (·.2), R.ne.map (·.2), R.ki.map (·.2), false, [78, 23], K, 72, [l7, l24, l32, l67, l68, l69, l9], ([some "law.<locals>.<lambda>", some "cmp_to_key.<locals>.K.__init__", some "cmp_to_key.<locals>.K.__lt__"] : List (Option Str)))
theorem kC : KChk (kOut w h₀ S R₀ d t₀ os L p p0) (kR w h₀ S R₀ d t₀ os L p p0) (.ref (S + 68)) (some (fnO (fLam S (L + 6)))) (some (fnO (fIni S))) (some (fnO (fLt S))) (some (tnD3 (tnC S t₀ (kR w h₀ S R₀ d t₀ os L p p0).T) w.params (t₀ + 81) (S + 67))) (some (tnK7 (tnC S t₀ .nil) (S + 67))) (some (tnMd (t₀ + 81) (S + 67))) (some { cls := .type "cell", data := .cell (some (.ref (S + 7))) }) := by
  unfold KChk
  kernel_rfl
theorem kC_ex : ∃ R, kOut w h₀ S R₀ d t₀ os L p p0 = some R ∧ KChk (some R) R (.ref (S + 68)) (some (fnO (fLam S (L + 6)))) (some (fnO (fIni S))) (some (fnO (fLt S))) (some (tnD3 (tnC S t₀ R.T) w.params (t₀ + 81) (S + 67))) (some (tnK7 (tnC S t₀ .nil) (S + 67))) (some (tnMd (t₀ + 81) (S + 67))) (some { cls := .type "cell", data := .cell (some (.ref (S + 7))) }) := by
  have H := kC w h₀ S R₀ d t₀ os L p p0
  unfold kR at H
  generalize kOut w h₀ S R₀ d t₀ os L p p0 = o at H ⊢
  cases o with
  | none => exact Bool.noConfusion (show false = true from congrArg Prod.fst H)
  | some R => exact ⟨R, rfl, H⟩
end
end Mine
end
section
open PySem PySem.W PySem.W.X PyProof.Rows
set_option maxRecDepth 1000000
set_option maxHeartbeats 0
set_option linter.unusedVariables false
namespace Mine
/-! the class K made, as a step of law's own -/
structure KFacts (P : Params) (S L : Nat) (h h' : Heap) : Prop where
  size : h'.objs.size = S + 72
  keep : ∀ b o, h.get? b = some o → b ≠ 23 → b ≠ 78 → h'.get? b = some o
  old : OldK h h'
  lam : h'.get? (S + 7) = some (fnO (fLam S (L + 6)))
  ini : h'.get? (S + 24) = some (fnO (fIni S))
  lt : h'.get? (S + 32) = some (fnO (fLt S))
  cls : ∃ c t, h'.get? (S + 67) = some (tnD3 c P t (S + 67)) ∧ h'.get? (S + 68) = some (tnK7 c (S + 67)) ∧ h'.get? (S + 69) = some (tnMd t (S + 67)) ∧ c.a14 = S + 24 ∧ c.a22 = S + 32
  cell : h'.get? (S + 9) = some { cls := .type "cell", data := .cell (some (.ref (S + 7))) }
  c6 : ∃ o, h'.get? (S + 6) = some o ∧ codeQ (some o) = some "law.<locals>.<lambda>"
  c23 : ∃ o, h'.get? (S + 23) = some o ∧ codeQ (some o) = some "cmp_to_key.<locals>.K.__init__"
  c31 : ∃ o, h'.get? (S + 31) = some o ∧ codeQ (some o) = some "cmp_to_key.<locals>.K.__lt__"
theorem codeQ_get {x : Option Obj} {q : Str} (h : codeQ x = some q) : ∃ o, x = some o ∧ codeQ (some o) = some q := by
  cases x with
  | none => cases h
  | some o => exact ⟨o, rfl, h⟩
theorem chLook_keys {a : Addr} : ∀ {ch : Ch}, a ∉ ch.map (·.1) → chLook ch a = none
  | [], _ => rfl
  | p :: l, h => by
    show (match Nat.beq p.1 a with | true => some p.2 | false => chLook l a) = none
    rw [BT.beq_eq, decide_eq_false (fun (e : p.1 = a) => h (by rw [← e]; exact .head _))]
    exact chLook_keys fun hm => h (.tail _ hm)
noncomputable def fieldsOf (o : Obj) : Array Value := match o.data with
  | Data.fields vs => vs
  | _ => #[]
theorem table_of {h : Heap} {c P : Addr} {ps : Array Value} {o : Obj} {vs : Array Value} (hc : h.get? c = some o) (h1 : o.cls = .type "code") (h2 : o.data = .fields vs) (h3 : vs[11]? = some (.ref P)) (hP : h.get? P = some { cls := .none, data := .fields ps }) : ∃ c, h.TableAt c P ps := ⟨c, ⟨o, vs, hc, h1, h2, h3⟩, hP⟩
theorem k_one {w : World} {h : Heap} {S L : Nat} {g : Array GenState} {d : Drawn} {t₀ : Nat} {os : OsState} {p0 : Pos} {Q : Value → Shared → Prop} {E : Value → Shared → Prop} (hs : h.objs.size = S)
    (hold : ∀ p ∈ kOlds w.params, h.get? p.1 = some p.2) (h23 : h.get? 23 = some { cls := .none, data := .fields #[] }) (h78 : h.get? 78 = some { cls := .none, data := .fields #[] })
    (hq : ∀ h' t', KFacts w.params S L h h' → Q (.ref (S + 68)) ⟨h', g, d, t', os⟩) :
    wpOne (model PySem.Challenge.rw_oy0040_01.prog w) (lawΓ (fB 15) (lawE L) p0) (kTree L) Q E ⟨h, g, d, t₀, os⟩ := fun p => by
  let P : Result → Shared → Prop := fun r s' => ∃ v, r = .ok (.ret v) ∧ Q v s'
  obtain ⟨R, hr, H⟩ := kC_ex w h S P d t₀ os L p p0
  unfold KChk at H
  simp only [Prod.mk.injEq, List.cons.injEq, and_true] at H
  obtain ⟨H0, H1, H2, H3, H4, H5, H6, H7, H8, ⟨l7, l24, l32, l67, l68, l69, l9⟩, c6, c23, c31⟩ := H
  have O : (kV w h S P d t₀ os).Ok := ⟨hs, trivial, fun a vs e => by
    have e : chLook [(23, #[]), (78, #[])] a = some vs := e
    unfold chLook at e
    rw [BT.beq_eq] at e
    by_cases h1 : 23 = a
    · subst h1
      cases e
      exact table_of (vs := fieldsOf (oldAt w.params 27)) (hold (27, _) (.tail _ (.tail _ (.head _)))) (by kernel_rfl) (by kernel_rfl) (by kernel_rfl) h23
    · rw [decide_eq_false h1] at e
      unfold chLook at e
      simp only at e
      rw [BT.beq_eq] at e
      by_cases h2 : 78 = a
      · subst h2
        cases e
        exact table_of (vs := fieldsOf (oldAt w.params 80)) (hold (80, _) (List.mem_of_getElem? (i := 6) rfl)) (by kernel_rfl) (by kernel_rfl) (by kernel_rfl) h78
      · rw [decide_eq_false h2] at e
        cases e⟩
  have z := (run_sound (g := g) O dnO_eq rfl hold (fun C hC => by
    rcases List.mem_cons.mp hC with rfl | hC
    · exact (conN_ok (kV w h S P d t₀ os) g (hold (2, o2) (.head _))).sum
    · cases hC) ⟨pair_eq H1, pair_eq H2, pair_eq H3, pair_eq H4⟩ (R := R) (by
      intro h' D
      have hrest : R.rest = none := by
        cases q : R.rest with
        | none => rfl
        | some _ => rw [q] at H5; cases H5
      rw [hrest]
      refine ⟨_, by rw [H7], hq h' _ ⟨by rw [D.size, H8]; rfl, fun b o e n1 n2 => D.keep b o e (chLook_keys (by rw [H6]; simp [n1, n2])), D.oldK O, (D.own _ _ l7).2, (D.own _ _ l24).2, (D.own _ _ l32).2, ⟨_, _, (D.own _ _ l67).2, ?_, (D.own _ _ l69).2, rfl, rfl⟩, (D.own _ _ l9).2, ?_, ?_, ?_⟩⟩
      · exact (D.own _ _ l68).2
      · obtain ⟨o, e, q⟩ := codeQ_get c6; exact ⟨o, (D.own _ _ e).2, q⟩
      · obtain ⟨o, e, q⟩ := codeQ_get c23; exact ⟨o, (D.own _ _ e).2, q⟩
      · obtain ⟨o, e, q⟩ := codeQ_get c31; exact ⟨o, (D.own _ _ e).2, q⟩) 1500 kL (lawΓ (fB 15) (lawE L) p0) p .base _ σ0 hr).2 h (Rep.start O)
  have z : Sem.wp (model PySem.Challenge.rw_oy0040_01.prog w) (lawΓ (fB 15) (lawE L) p0) (kTree L >>= fun v => pure (Fin.done (.ret v))) _ _ p _ := z
  rw [Sem.wp_bind'] at z
  refine Sem.wp_mono _ _ _ (fun a p' s' hh => ?_) (fun e p' s' hh => ?_) _ _ z
  · obtain ⟨v', e, q⟩ := hh
    cases e
    exact q
  · obtain ⟨v', e, q⟩ := hh
    cases e
end Mine
end
section
open PySem PySem.W PyProof.Rows
set_option maxRecDepth 10000
set_option linter.unusedVariables false
namespace Mine
noncomputable abbrev eR : List Int → D := eL D.int
noncomputable abbrev eT2 : List (List Int) → D := eL eR
theorem enR (n : Nat) : Enc (n + 1) eR := encL (encInt n)
theorem enT2 (n : Nat) : Enc (n + 2) eT2 := encL (enR n)
noncomputable def mirrored (t : List (List Int)) : List (List Int) := (List.range (t.headD []).length).map fun c => (t.filter fun r => decide (c < r.length)).map fun r => r.getD c 0

theorem small_to {m : Nat} (h : m < 2 ^ 60) : Builtin.Range.small 0 m 1 = true := PySem.small_one (by exact Int.natCast_nonneg _) (by exact Int.natCast_nonneg _) (by exact Int.natCast_nonneg _) (by exact Om.lt_i ‹_› rfl)
theorem size_one (m : Nat) : Builtin.Range.rangeSize 0 m 1 = (m : Int) := by
  unfold Builtin.Range.rangeSize
  rw [if_pos (by decide)]
  split <;> omega
section
variable {prog : Program} {w : World} {B : Heap} {mg mb : Str → Option Value} {A : Around} {l : List Env} {own : Owns} {n : Nat} {P : Params} {a : Act} {σ : Vars}
theorem it_range0 (hh : A.handled = none) {m : Nat} (h : m < 2 ^ 60) : It prog w B A l own (.rng 0 m 1) ((List.range m).map fun (k : Nat) => D.int k) := by
  have := it_rng (prog := prog) (w := w) (B := B) (l := l) (own := own) hh (small_to h) (size_one m)
  have e : rngs 0 1 m = (List.range m).map fun (k : Nat) => D.int k := by unfold rngs; congr 1; funext k; simp
  rw [e] at this
  exact this
theorem mir_fn (b : Bs P B mg mb) : ∃ o, B.get? 71 = some o ∧ o.data = .func (fdOf 71) := b.fn rfl
theorem mir_ok (b : Bs P B mg mb) : FnOk B (fdOf 71) ["table"] (bdOf 71) := b.ok rfl rfl rfl fun vs h => by
  match vs, h with
  | [x], _ => rfl
theorem op_mir (b : Bs P B mg mb) (ok : AOk A l (n + 1)) (t : List (List Int)) (hne : t ≠ []) (hs : ∀ r ∈ t, r.length < 100) (hl : t.length < 100) : Op prog w B A l own (fun vs => call (.ref 71) vs) [eT2 t] (eT2 (mirrored t)) := by
  obtain ⟨o, ho, hd⟩ := mir_fn b
  refine op_fn b.G ok ho hd (mir_ok b) rfl fun L => ?_
  have ok' : (fAct (fdOf 71) 71 L A l).Ok n := fAct_ok ok (mir_ok b)
  have hall := hs
  have hs : (t.headD []).length < 100 := by
    cases t with
    | nil => exact absurd rfl hne
    | cons r t => exact hs r (.head _)
  have hs' : ((t.headD []).map D.int).length < 100 := by rw [List.length_map]; exact hs
  have hsz : ∀ {m : Nat}, m < 100 → m ≤ sizeLine := fun h => by unfold sizeLine; exact Om.le_c ‹_› rfl
  have h63 : ∀ {m : Nat}, m < 100 → m < 2 ^ 63 := fun h => by exact Om.lt_c ‹_› rfl
  refine ex_return (Ev.k (EvF.ev (Cp.evf (cp1 (List.range (t.headD []).length) (fun (k : Nat) => D.int k) (fun x y h => by injection h with h; exact Int.ofNat_inj.mp ‹_›) (fun _ => true) (fun c => eR ((t.filter fun r => decide (c < r.length)).map fun r => r.getD c 0)) [("table", eT2 t)] (d := .rng 0 ((t.headD []).length : Nat) 1)
    (b.range1 ok' ((b.len ok' (ds := (t.headD []).map .int) (ev_sub (ev_cell ok' rfl rfl rfl) ev_int (op_item_lst _ 0 (by decide) (by decide) ?hx fun _ _ => ⟨_, rfl⟩)) (h63 hs')).to _ (by rw [List.length_map])))
    (it_range0 ok'.hand (by exact Om.lt_c ‹_› rfl)) (fun C => vis_cons rfl rfl rfl rfl vis_nil) ok' (fun C okc c hc => ?body) (by rw [List.length_range]; exact hsz hs) (fun _ => rfl) rfl))) ⟨_, rfl, fun _ => ?_⟩)
  case hx =>
    cases t with
    | nil => exact absurd rfl hne
    | cons r t => rfl
  case body =>
    refine ⟨_, tg_cell okc rfl rfl (.head _), ts_nil, fun _ => (EvF.ev (Cp.evf (cp1 t eR (fun x y h => (enR 0).inj h) (fun r => decide (c < r.length)) (fun r => D.int (r.getD c 0)) [("c", .int c)] (d := eT2 t)
      (ev_cell okc rfl rfl rfl) (it_lst okc.hand _) (fun C' => vis_cons rfl rfl rfl rfl vis_nil) okc (fun C' okd r hr => ?_) (hsz hl) (fun _ => rfl) rfl))).to _ ?_, sub_cons rfl⟩
    · refine ⟨_, tg_local okd rfl, ts_one ?_, fun hp => ?_, sub_cons rfl⟩
      · refine (tr_compare (ev_cell okd rfl rfl rfl) (b.len okd (ev_local okd rfl rfl rfl) (by rw [List.length_map]; exact h63 (hall r hr))) (op_lt_int _ _) rfl).to ?_
        rw [List.length_map]; simp
      · have hp : c < r.length := by simpa using hp
        refine ev_sub (ev_local okd rfl rfl rfl) (ev_cell okd rfl rfl rfl) (op_item_lst _ c (by exact Int.natCast_nonneg _) (by have := hall r hr; exact Om.lt_k ‹_› ‹_› rfl) ?_ fun _ _ => ⟨_, rfl⟩)
        rw [Int.toNat_natCast, List.getElem?_map, List.getElem?_eq_getElem hp, List.getD_eq_getElem?_getD, List.getElem?_eq_getElem hp]; rfl
    · simp [eR, eL, List.map_map, Function.comp_def]
  · rw [sub_nil]
    have e : (List.range (t.headD []).length).filter (fun _ => true) = List.range (t.headD []).length := List.filter_eq_self.mpr fun _ _ => rfl
    rw [e]
    simp only [eT2, eL, mirrored, List.map_map]
    rfl
end
end Mine
end
section
open PySem PySem.W PyProof.Rows
set_option maxRecDepth 10000
set_option linter.unusedVariables false
namespace Mine

noncomputable def SortedI (l : List Int) : Prop := l.Pairwise (· < ·)
noncomputable def sldS (e a : List Int) : List Int × List Int := (e.filter fun x => !a.contains x, a.filter fun x => !e.contains x)
noncomputable def sgn (x y : Int) : Int := b2i (decide (y < x)) - b2i (decide (x < y))

/-- one turn of the loop of _law_lay: rows, turns, fair, going -/
structure LS where
  rows : List (List Int)
  turns : List (List Int)
  fair : Bool
  going : List Int
noncomputable def layAt (count : Int) (k : Nat) (s : LS) : LS :=
  if s.going = [] then s else
  let row := s.rows.getD k []
  let y := s.going.getD 0 0
  let signs := (row ++ s.going).map fun x => sgn x y
  let place := (signs.filter fun x => decide (x < 0)).length
  let gone := (row.drop place).take 1
  let fresh := row.take place ++ s.going ++ row.drop (place + 1)
  let told := sldS fresh row
  { rows := s.rows.set k fresh
    turns := if gone = [] then s.turns.set k (s.turns.getD k [] ++ [count]) else s.turns
    fair := s.fair && decide (signs = (List.replicate place (-1) ++ List.replicate (row.length - place) 1 ++ [0])) && decide (told = (s.going, gone))
    going := told.2 }
noncomputable def layLoop (count : Int) (m : Nat) (s : LS) : LS := (List.range m).foldl (fun s k => layAt count k s) s
noncomputable def lay (st : List (List Int) × List (List Int) × Bool) (x : Int) : List (List Int) × List (List Int) × Bool :=
  let r := layLoop ((st.1.map List.length).sum : Nat) (st.1.length + 1) ⟨st.1 ++ [[]], st.2.1 ++ [[]], st.2.2, [x]⟩
  (r.rows.filter (· ≠ []), r.turns.filter (· ≠ []), r.fair)

noncomputable abbrev eSt : List (List Int) × List (List Int) × Bool → D := eT eT2 eT2 dBool

structure Good (M m k : Nat) (s : LS) : Prop where
  rl : s.rows.length = m
  tl : s.turns.length = m
  rs : ∀ r ∈ s.rows, SortedI r ∧ r.length < M + k
  ts : ∀ r ∈ s.turns, r.length < M + k
  gl : s.going.length ≤ 1
theorem getD_mem {α : Type} {l : List α} {k : Nat} {d : α} (h : k < l.length) : l.getD k d ∈ l := by
  rw [List.getD_eq_getElem?_getD, List.getElem?_eq_getElem h]; exact List.getElem_mem h
/-- how many are less -/
noncomputable def plc (row : List Int) (y : Int) : Nat := (row.filter fun x => decide (x < y)).length
theorem sgn_neg (x y : Int) : decide (sgn x y < 0) = decide (x < y) := by
  unfold sgn
  by_cases h : x < y
  · have : ¬ y < x := by omega
    simp [h, this, b2i_t, b2i_f]
  · by_cases h' : y < x <;> simp [h, h', b2i_t, b2i_f]
theorem place_eq (row : List Int) (y : Int) : (((row ++ [y]).map fun x => sgn x y).filter fun x => decide (x < 0)).length = plc row y := by
  unfold plc
  rw [List.map_append, List.filter_append, List.length_append, List.filter_map, List.length_map]
  have e : (fun x => decide (x < 0)) ∘ (fun x => sgn x y) = fun x => decide (x < y) := by funext x; exact sgn_neg x y
  rw [e]
  have : sgn y y = 0 := by unfold sgn; simp
  simp [this]
theorem plc_le (row : List Int) (y : Int) : plc row y ≤ row.length := List.length_filter_le _ _
theorem plc_take : ∀ {row : List Int}, SortedI row → ∀ y, (∀ x ∈ row.take (plc row y), x < y) ∧ (∀ x ∈ row.drop (plc row y), y ≤ x)
  | [], _, y => ⟨fun x hx => by simp at hx, fun x hx => by simp at hx⟩
  | r :: row, h, y => by
    unfold SortedI at h
    rw [List.pairwise_cons] at h
    obtain ⟨h1, h2⟩ := plc_take h.2 y
    by_cases hr : r < y
    · have e : plc (r :: row) y = plc row y + 1 := by unfold plc; rw [List.filter_cons]; simp [hr]
      rw [e, List.take_succ_cons, List.drop_succ_cons]
      exact ⟨fun x hx => by rcases List.mem_cons.mp hx with rfl | hx; exact hr; exact h1 x hx, h2⟩
    · have e : plc (r :: row) y = 0 := by
        unfold plc
        rw [List.length_eq_zero_iff, List.filter_eq_nil_iff]
        intro x hx
        rcases List.mem_cons.mp hx with rfl | hx
        · simpa using hr
        · have := h.1 x hx; simp; omega
      rw [e]
      refine ⟨fun x hx => by simp at hx, fun x hx => ?_⟩
      rcases List.mem_cons.mp hx with rfl | hx
      · exact Int.not_lt.mp ‹_›
      · have := h.1 x hx; omega
noncomputable def freshR (row : List Int) (y : Int) : List Int := row.take (plc row y) ++ [y] ++ row.drop (plc row y + 1)
theorem fresh_sorted {row : List Int} (h : SortedI row) (y : Int) : SortedI (freshR row y) := by
  obtain ⟨h1, h2⟩ := plc_take h y
  have hd : SortedI (row.drop (plc row y)) := List.Pairwise.sublist (List.drop_sublist _ _) h
  have ht : SortedI (row.take (plc row y)) := List.Pairwise.sublist (List.take_sublist _ _) h
  have hlt : ∀ x ∈ row.drop (plc row y + 1), y < x := by
    intro x hx
    have e : row.drop (plc row y + 1) = (row.drop (plc row y)).drop 1 := by rw [List.drop_drop]
    rw [e] at hx
    cases q : row.drop (plc row y) with
    | nil => rw [q] at hx; simp at hx
    | cons z zs =>
      rw [q] at hx hd
      have hx : x ∈ zs := by simpa using hx
      have q1 := h2 z (by rw [q]; exact .head _)
      have q2 := (List.pairwise_cons.mp hd).1 x hx
      exact Int.lt_of_le_of_lt ‹_› ‹_›
  unfold SortedI freshR
  rw [List.append_assoc, List.pairwise_append]
  refine ⟨ht, ?_, fun x hx z hz => ?_⟩
  · rw [List.singleton_append, List.pairwise_cons]
    exact ⟨hlt, List.Pairwise.sublist (List.drop_sublist _ _) h⟩
  · have q1 := h1 x hx
    rw [List.singleton_append] at hz
    rcases List.mem_cons.mp hz with rfl | hz
    · exact q1
    · have := hlt z hz; exact Int.lt_trans ‹_› ‹_›
theorem fresh_len (row : List Int) (y : Int) : (freshR row y).length ≤ row.length + 1 := by
  unfold freshR
  have := plc_le row y
  simp
  omega
theorem sorted_nodup {l : List Int} (h : SortedI l) : l.Nodup := by
  refine List.Pairwise.imp (fun {a b} (q : a < b) => ?_) h
  intro e; omega
theorem gone_len {row : List Int} (h : SortedI row) (y : Int) : (sldS (freshR row y) row).2.length ≤ 1 := by
  unfold sldS
  have e : row = row.take (plc row y) ++ (row.drop (plc row y)).take 1 ++ row.drop (plc row y + 1) := by
    conv => lhs; rw [← List.take_append_drop (plc row y) row, ← List.take_append_drop 1 (row.drop (plc row y)), List.drop_drop]
    rw [List.append_assoc]
  have hz : ∀ (l : List Int), (∀ x ∈ l, x ∈ freshR row y) → l.filter (fun x => !(freshR row y).contains x) = [] := fun l hl => by
    rw [List.filter_eq_nil_iff]; intro x hx; simp [hl x hx]
  show (row.filter fun x => !(freshR row y).contains x).length ≤ 1
  have h1 := hz (row.take (plc row y)) (fun x hx => by unfold freshR; simp [hx])
  have h2 := hz (row.drop (plc row y + 1)) (fun x hx => by unfold freshR; simp [hx])
  generalize (fun x => !(freshR row y).contains x) = F at h1 h2 ⊢
  have h3 : row.filter F = ((row.drop (plc row y)).take 1).filter F := by
    conv => lhs; rw [e]
    rw [List.filter_append, List.filter_append, h1, h2]
    simp only [List.nil_append, List.append_nil]
  rw [h3]
  refine Nat.le_trans (List.length_filter_le _ _) ?_
  rw [List.length_take]; exact Nat.min_le_left _ _
theorem good_step {M m k : Nat} {s : LS} (c : Int) (h : Good M m k s) (hk : k < m) : Good M m (k + 1) (layAt c k s) := by
  unfold layAt
  by_cases hg : s.going = []
  · rw [if_pos hg]
    exact ⟨h.rl, h.tl, fun r hr => ⟨(h.rs r hr).1, by have := (h.rs r hr).2; exact Nat.lt_succ_of_lt ‹_›⟩, fun r hr => by have := h.ts r hr; exact Nat.lt_succ_of_lt ‹_›, h.gl⟩
  · rw [if_neg hg]
    obtain ⟨y, hy⟩ : ∃ y, s.going = [y] := by
      cases q : s.going with
      | nil => exact absurd q hg
      | cons y r =>
        have := h.gl; rw [q] at this
        cases r with
        | nil => exact ⟨y, rfl⟩
        | cons _ _ => simp at this
    have hrow := h.rs (s.rows.getD k []) (getD_mem (by rw [h.rl]; exact hk))
    simp only [hy, List.getD_cons_zero, place_eq]
    have ef : (s.rows.getD k []).take (plc (s.rows.getD k []) y) ++ [y] ++ (s.rows.getD k []).drop (plc (s.rows.getD k []) y + 1) = freshR (s.rows.getD k []) y := rfl
    simp only [ef]
    refine ⟨by simp [h.rl], ?_, fun r hr => ?_, fun r hr => ?_, gone_len hrow.1 y⟩
    · split <;> simp [h.tl]
    · rcases List.mem_or_eq_of_mem_set hr with hr | rfl
      · exact ⟨(h.rs r hr).1, by have := (h.rs r hr).2; exact Nat.lt_succ_of_lt ‹_›⟩
      · exact ⟨fresh_sorted hrow.1 y, by have := fresh_len (s.rows.getD k []) y; have := hrow.2; omega⟩
    · split at hr
      · rcases List.mem_or_eq_of_mem_set hr with hr | rfl
        · have := h.ts r hr; exact Nat.lt_succ_of_lt ‹_›
        · have := h.ts (s.turns.getD k []) (getD_mem (by rw [h.tl]; exact hk)); simp at this ⊢; exact Nat.lt_succ_of_le ‹_›
      · have := h.ts r hr; exact Nat.lt_succ_of_lt ‹_›
theorem layLoop_succ (c : Int) (m : Nat) (s : LS) : layLoop c (m + 1) s = layAt c m (layLoop c m s) := by unfold layLoop; rw [List.range_succ, List.foldl_append]; rfl
theorem good_loop {M m : Nat} {s : LS} (c : Int) (h : Good M m 0 s) : ∀ k, k ≤ m → Good M m k (layLoop c k s)
  | 0, _ => h
  | k + 1, hk => by rw [layLoop_succ]; exact good_step c (good_loop c h k (by exact Nat.le_of_lt ‹_›)) (by assumption)

/-! the rows and turns have one shape -/
noncomputable def SameLen (s : LS) : Prop := s.rows.map List.length = s.turns.map List.length
theorem map_set_len {α : Type} (l : List (List α)) (k : Nat) (x : List α) : (l.set k x).map List.length = (l.map List.length).set k x.length := by rw [List.map_set]
theorem len_getD {α : Type} (l : List (List α)) (k : Nat) : (l.getD k []).length = (l.map List.length).getD k 0 := by
  rw [List.getD_eq_getElem?_getD, List.getD_eq_getElem?_getD, List.getElem?_map]
  cases l[k]? <;> rfl
theorem set_self (l : List Nat) (k : Nat) : l.set k (l.getD k 0) = l := by
  apply List.ext_getElem?
  intro i
  rw [List.getElem?_set]
  by_cases h : k = i
  · subst h
    by_cases h' : k < l.length
    · simp [h', List.getD_eq_getElem?_getD]
    · simp [h']
  · rw [if_neg h]
theorem same_step {M m k : Nat} {s : LS} (c : Int) (h : Good M m k s) (hk : k < m) (hs : SameLen s) : SameLen (layAt c k s) := by
  unfold layAt
  by_cases hg : s.going = []
  · rw [if_pos hg]; exact hs
  · rw [if_neg hg]
    obtain ⟨y, hy⟩ : ∃ y, s.going = [y] := by
      cases q : s.going with
      | nil => exact absurd q hg
      | cons y r =>
        have := h.gl; rw [q] at this
        cases r with
        | nil => exact ⟨y, rfl⟩
        | cons _ _ => simp at this
    simp only [hy, List.getD_cons_zero, place_eq]
    have hl := len_getD s.rows k
    have hlt := len_getD s.turns k
    unfold SameLen at hs ⊢
    rw [← hs] at hlt
    generalize s.rows.getD k [] = row at hl ⊢
    generalize s.turns.getD k [] = trn at hlt ⊢
    have hp := plc_le row y
    simp only
    split
    · rename_i hgone
      rw [map_set_len, map_set_len, ← hs]
      have h1 : row.length ≤ plc row y := by
        have := congrArg List.length hgone
        rw [List.length_take, List.length_drop, List.length_nil] at this
        omega
      have e : (row.take (plc row y) ++ [y] ++ row.drop (plc row y + 1)).length = (trn ++ [c]).length := by
        simp only [List.length_append, List.length_take, List.length_drop, List.length_cons, List.length_nil]
        omega
      rw [e]
    · rename_i hgone
      have h1 : plc row y < row.length := by
        refine Nat.lt_of_not_le fun z => hgone ?_
        rw [List.drop_of_length_le z]; rfl
      rw [map_set_len, ← hs]
      have e : (row.take (plc row y) ++ [y] ++ row.drop (plc row y + 1)).length = (s.rows.map List.length).getD k 0 := by
        rw [← hl]
        simp only [List.length_append, List.length_take, List.length_drop, List.length_cons, List.length_nil]
        omega
      rw [e, set_self]
theorem same_loop {M m : Nat} {s : LS} (c : Int) (h : Good M m 0 s) (hs : SameLen s) : ∀ k, k ≤ m → SameLen (layLoop c k s)
  | 0, _ => hs
  | k + 1, hk => by rw [layLoop_succ]; exact same_step c (good_loop c h k (by exact Nat.le_of_lt ‹_›)) (by assumption) (same_loop c h hs k (by exact Nat.le_of_lt ‹_›))
theorem filter_len : ∀ {R T : List (List Int)}, R.map List.length = T.map List.length → (R.filter (· ≠ [])).map List.length = (T.filter (· ≠ [])).map List.length
  | [], [], _ => rfl
  | [], _ :: _, h => by simp at h
  | _ :: _, [], h => by simp at h
  | r :: R, t :: T, h => by
    simp only [List.map_cons, List.cons.injEq] at h
    have ih := filter_len h.2
    by_cases hr : r = []
    · have ht : t = [] := List.length_eq_zero_iff.mp (by rw [← h.1, hr]; rfl)
      subst hr ht
      simpa using ih
    · have ht : t ≠ [] := fun z => hr (List.length_eq_zero_iff.mp (by rw [h.1, z]; rfl))
      rw [List.filter_cons, List.filter_cons, if_pos (by simpa using hr), if_pos (by simpa using ht)]
      simp only [List.map_cons, h.1, ih]
/-- what holds of a state after k letters -/
structure GSt (k : Nat) (st : List (List Int) × List (List Int) × Bool) : Prop where
  same : st.1.map List.length = st.2.1.map List.length
  len : st.1.length ≤ k
  rs : ∀ r ∈ st.1, SortedI r ∧ r.length < (k + 1) * (k + 1)
  ts : ∀ r ∈ st.2.1, r.length < (k + 1) * (k + 1)
theorem GSt.tl {k : Nat} {st : List (List Int) × List (List Int) × Bool} (h : GSt k st) : st.2.1.length = st.1.length := by
  have := congrArg List.length h.same; simpa using this.symm
theorem gst_start {k : Nat} {st : List (List Int) × List (List Int) × Bool} (h : GSt k st) (x : Int) : Good ((k + 1) * (k + 1)) (st.1.length + 1) 0 ⟨st.1 ++ [[]], st.2.1 ++ [[]], st.2.2, [x]⟩ ∧ SameLen ⟨st.1 ++ [[]], st.2.1 ++ [[]], st.2.2, [x]⟩ := by
  have hp : 0 < (k + 1) * (k + 1) := Nat.mul_pos (by exact Nat.succ_pos _) (by exact Nat.succ_pos _)
  refine ⟨⟨by simp, by simp [h.tl], fun r hr => ?_, fun r hr => ?_, by simp⟩, ?_⟩
  · rcases List.mem_append.mp hr with hr | hr
    · exact h.rs r hr
    · rw [List.mem_singleton.mp hr]; exact ⟨List.Pairwise.nil, hp⟩
  · rcases List.mem_append.mp hr with hr | hr
    · exact h.ts r hr
    · rw [List.mem_singleton.mp hr]; exact hp
  · unfold SameLen; simp [h.same]
theorem gst_step {k : Nat} {st : List (List Int) × List (List Int) × Bool} (h : GSt k st) (x : Int) : GSt (k + 1) (lay st x) := by
  obtain ⟨g0, s0⟩ := gst_start h x
  have hm := h.len
  have e : (k + 1 + 1) * (k + 1 + 1) = (k + 1) * (k + 1) + (k + 1) + (k + 2) := by
    rw [Nat.mul_add, Nat.add_mul]; omega
  have g := good_loop ((st.1.map List.length).sum : Nat) g0 (st.1.length + 1) (Nat.le_refl _)
  have s := same_loop ((st.1.map List.length).sum : Nat) g0 s0 (st.1.length + 1) (Nat.le_refl _)
  refine ⟨filter_len s, ?_, fun r hr => ?_, fun r hr => ?_⟩
  · refine Nat.le_trans (List.length_filter_le _ _) ?_
    rw [g.rl]; exact Nat.lt_succ_of_le ‹_›
  · have := g.rs r (List.mem_filter.mp hr).1
    exact ⟨this.1, by have := this.2; omega⟩
  · have := g.ts r (List.mem_filter.mp hr).1
    omega
end Mine
end
section
open PySem PySem.W PyProof.Rows
set_option maxRecDepth 10000
set_option linter.unusedVariables false
namespace Mine
section
variable {prog : Program} {w : World} {B : Heap} {mg mb : Str → Option Value} {A : Around} {l : List Env} {own : Owns} {n : Nat} {P : Params} {a : Act} {σ : Vars}
theorem lay_fn (b : Bs P B mg mb) : ∃ o, B.get? 56 = some o ∧ o.data = .func (fdOf 56) := b.fn rfl
theorem lay_ok (b : Bs P B mg mb) : FnOk B (fdOf 56) ["state", "letter"] (bdOf 56) := b.ok rfl rfl rfl fun vs h => by
  match vs, h with
  | [x, y], _ => rfl
noncomputable def layVars (Z₁ Z₂ : Addr) (c : Int) (s : LS) : Vars := [("rows", .val (.ref Z₁)), ("turns", .val (.ref Z₂)), ("fair", dBool s.fair), ("going", eR s.going), ("count", .int c)]
noncomputable def layOwn (Z₁ Z₂ : Addr) (s : LS) : Owns := [(Z₂, s.turns.map eR), (Z₁, s.rows.map eR)]
noncomputable def SldC (prog : Program) (w : World) (B : Heap) : Prop := ∀ {A : Around} {l : List Env} {n : Nat} {own : Owns} (e a : List Int), AOk A l (n + 1) → SortedI e → SortedI a → e.length < 200 → a.length < 200 → Op prog w B A l own (fun vs => call (.ref 44) vs) [eR e, eR a] (eP eR eR (sldS e a))
theorem cmp_is (b : Bs P B mg mb) : ∃ o fd, B.get? 51 = some o ∧ o.data = .func fd := by obtain ⟨o, h1, h2⟩ := cmp_fn b; exact ⟨o, _, h1, h2⟩
theorem sld_is (b : Bs P B mg mb) : ∃ o fd, B.get? 44 = some o ∧ o.data = .func fd := by
  obtain ⟨o, h1, h2⟩ := b.fn (a := 44) (fd := fdOf 44) rfl; exact ⟨o, _, h1, h2⟩
theorem preSum_eq (f : Nat → Int) : ∀ n, preSum f n = ((List.range n).map f).sum
  | 0 => rfl
  | n + 1 => by rw [preSum, preSum_eq f n, List.range_succ, List.map_append, List.sum_append]; simp
theorem sumD_eq (ns : List Int) : sumD ns = ns.sum := by
  unfold sumD
  rw [preSum_eq]
  congr 1
  apply List.ext_getElem
  · simp
  · intro i h1 h2
    simp [List.getD_eq_getElem?_getD]
    rw [List.getElem?_eq_getElem h2]; rfl
theorem layAt_eq {c : Int} {k : Nat} {s : LS} {y : Int} (hy : s.going = [y]) : layAt c k s = ⟨s.rows.set k (freshR (s.rows.getD k []) y), if ((s.rows.getD k []).drop (plc (s.rows.getD k []) y)).take 1 = [] then s.turns.set k (s.turns.getD k [] ++ [c]) else s.turns,
    s.fair && decide (((s.rows.getD k [] ++ [y]).map fun x => sgn x y) = (List.replicate (plc (s.rows.getD k []) y) (-1) ++ List.replicate ((s.rows.getD k []).length - plc (s.rows.getD k []) y) 1 ++ [0])) && decide (sldS (freshR (s.rows.getD k []) y) (s.rows.getD k []) = ([y], ((s.rows.getD k []).drop (plc (s.rows.getD k []) y)).take 1)), (sldS (freshR (s.rows.getD k []) y) (s.rows.getD k [])).2⟩ := by
  unfold layAt
  rw [if_neg (by rw [hy]; simp)]
  simp only [hy, List.getD_cons_zero, place_eq]
  rfl
set_option maxHeartbeats 4000000 in
theorem op_lay (b : Bs P B mg mb) (ok : AOk A l (n + 2)) (hsld : SldC prog w B)
    (R T : List (List Int)) (f : Bool) (x : Int) {M : Nat} (hM : M + R.length + 1 < 100) (hR : R.length < 50) (hT : T.length = R.length) (hr : ∀ r ∈ R, SortedI r ∧ r.length < M) (ht : ∀ r ∈ T, r.length < M) (hMp : 0 < M) :
    Op prog w B A l own (fun vs => call (.ref 56) vs) [eSt (R, T, f), .int x] (eSt (lay (R, T, f) x)) := by
  obtain ⟨o, ho, hd⟩ := lay_fn b
  refine op_fn b.G ok ho hd (lay_ok b) rfl fun L => ?_
  have ok' : (fAct (fdOf 56) 56 L A l).Ok (n + 1) := fAct_ok ok (lay_ok b)
  have hsz : ∀ {m : Nat}, m < 200 → m ≤ sizeLine := fun h => by unfold sizeLine; exact Om.le_c ‹_› rfl
  have h63 : ∀ {m : Nat}, m < 200 → m < 2 ^ 63 := fun h => by exact Om.lt_c ‹_› rfl
  obtain ⟨s0, hs0⟩ : ∃ s0 : LS, s0 = ⟨R ++ [[]], T ++ [[]], f, [x]⟩ := ⟨_, rfl⟩
  obtain ⟨c, hc⟩ : ∃ c : Int, c = ((R.map List.length).sum : Nat) := ⟨_, rfl⟩
  have g0 : Good M (R.length + 1) 0 s0 := by
    subst hs0
    refine ⟨by simp, by simp [hT], fun r hr' => ?_, fun r hr' => ?_, by simp⟩
    · rcases List.mem_append.mp hr' with h | h
      · exact hr r h
      · rw [List.mem_singleton.mp h]; exact ⟨List.Pairwise.nil, hMp⟩
    · rcases List.mem_append.mp hr' with h | h
      · exact ht r h
      · rw [List.mem_singleton.mp h]; exact hMp
  refine ex_swap3 ok' (evK_tuple (evAllK_cons (EvF.k ((evf_add (ds := R.map eR) (es := [eR []]) (ev_sub (ev_local ok' rfl rfl rfl) ev_int (op_item_tup _ 0 (by decide) (by decide) rfl fun _ _ => ⟨_, rfl⟩)) (ev_list (evAll_cons (ev_list evAll_nil (by decide)) evAll_nil fun _ => rfl) (by decide)) (by simp; exact hsz (by exact Om.lt_f ‹_› rfl))).to (show _ = (R ++ [[]]).map eR by simp)) fun Z₁ =>
    evAllK_cons (EvF.k ((evf_add (ds := T.map eR) (es := [eR []]) (ev_sub (ev_local ok' rfl rfl rfl) ev_int (op_item_tup _ 1 (by decide) (by decide) rfl fun _ _ => ⟨_, rfl⟩)) (ev_list (evAll_cons (ev_list evAll_nil (by decide)) evAll_nil fun _ => rfl) (by decide)) (by simp; exact hsz (by omega))).to (show _ = (T ++ [[]]).map eR by simp)) fun Z₂ =>
    evAllK_cons (Ev.k (ev_sub (ev_local ok' rfl rfl rfl) ev_int (op_item_tup _ 2 (by decide) (by decide) rfl fun _ _ => ⟨_, rfl⟩)) (evAllK_nil ⟨hsz (m := 3) (by decide), _, _, _, rfl, ?_⟩)) fun _ => rfl) fun _ => rfl) fun _ => rfl)) rfl rfl rfl rfl rfl
  refine ex_assign (Ev.k (d := .int c) ((ev_call_b (b.evb ok') (evAll_cons ((EvF.ev (Cp.evf (cp1 (R ++ [[]]) eR (fun x y h => (enR 0).inj h) (fun _ => true) (fun r => .int (r.length : Nat)) [] (d := .val (.ref Z₁)) (ev_local ok' rfl rfl rfl) (it_own ok'.hand (.tail _ (.head _))) (fun C => vis_nil) ok' (fun C okc r hr' => ?cb) (hsz (by simp; exact Om.lt_f ‹_› rfl)) (fun _ => rfl) rfl))).to
    (.lst (((R ++ [[]]).map fun (r : List Int) => (r.length : Int)).map .int)) (by rw [filt_true, List.map_map]; rfl)) evAll_nil fun _ => rfl) (op_sum ok'.hand _) fun _ => ⟨rfl, _, _, rfl, rfl⟩).to _ ?csum) ⟨_, tg_local ok' rfl, ?_⟩) rfl rfl rfl
  case cb =>
    refine ⟨_, tg_local okc rfl, ts_nil, fun _ => (b.len okc (ev_local okc rfl rfl rfl) (by
      rw [List.length_map]
      rcases List.mem_append.mp hr' with h | h
      · exact h63 (by have := (hr r h).2; exact Om.lt_m ‹_› ‹_› rfl)
      · rw [List.mem_singleton.mp h]; decide)).to _ (by rw [List.length_map]), sub_cons rfl⟩
  case csum =>
    rw [sumD_eq, hc]
    congr 1
    rw [List.map_append, List.sum_append]
    simp only [List.map_cons, List.map_nil, List.length_nil, List.sum_cons, List.sum_nil]
    generalize R = R
    induction R with
    | nil => rfl
    | cons r R ih => simp only [List.map_cons, List.sum_cons, Int.natCast_add] at ih ⊢; omega
  refine ex_assign (Ev.k (d := eR [x]) (ev_list (evAll_cons (ev_local ok' rfl rfl rfl) evAll_nil fun _ => rfl) (hsz (m := 1) (by decide))) ⟨_, tg_cell ok' rfl rfl (.head _), ?_⟩) rfl rfl rfl
  refine ex_for (d := .rng 0 ((R.length + 1 : Nat) : Int) 1) (ds := (List.range (R.length + 1)).map fun (k : Nat) => D.int k) (b.range1 ok' ((ev_call_b (b.evb ok') (evAll_cons (ev_local ok' rfl rfl rfl) evAll_nil fun _ => rfl) (op_len_own (.tail _ (.head _)) (by simp; exact Om.lt_f ‹_› rfl)) fun _ => ⟨rfl, _, _, rfl, rfl⟩).to _ (by simp))) (it_range0 ok'.hand (by exact Om.lt_f ‹_› rfl))
    (fun k σ own => k ≤ R.length + 1 ∧ own = layOwn Z₁ Z₂ (layLoop c k s0) ∧ VS (layVars Z₁ Z₂ c (layLoop c k s0)) σ) ⟨by exact Nat.zero_le _, ?i0, ?v0⟩ (fun k d σ own hk hI => ?body) (fun σ own hI => ?fin) (fun _ => rfl)
  case i0 => subst hs0; rfl
  case v0 => subst hs0; exact vs_cons rfl (vs_cons rfl (vs_cons rfl (vs_cons rfl (vs_cons rfl vs_nil))))
  case fin =>
    have hlen : ((List.range (R.length + 1)).map fun (k : Nat) => D.int k).length = R.length + 1 := by simp
    rw [hlen] at hI
    obtain ⟨_, rfl, hV⟩ := hI
    have gs := good_loop c g0 (R.length + 1) (by assumption)
    have hlay : lay (R, T, f) x = (((layLoop c (R.length + 1) s0).rows.filter (· ≠ [])), ((layLoop c (R.length + 1) s0).turns.filter (· ≠ [])), (layLoop c (R.length + 1) s0).fair) := by subst hs0 hc; rfl
    rw [hlay]
    generalize layLoop c (R.length + 1) s0 = s at gs hV ⊢
    have hu : (fAct (fdOf 56) 56 L A l).A.units + 100 < cLine := by have := ok'.uni; exact Om.u_d ‹_› rfl
    refine hV.ex (ex_return (Ev.k (d := eSt ((s.rows.filter (· ≠ [])), (s.turns.filter (· ≠ [])), s.fair)) (ev_tuple (evAll_cons (EvF.ev (Cp.evf (cp1 s.rows eR (fun x y h => (enR 0).inj h) (fun r => decide (r ≠ [])) eR [] (ev_local ok' rfl rfl rfl) (it_own ok'.hand (.tail _ (.head _))) (fun C => vis_nil) ok' (fun C okc r hr' => ?f1) (hsz (by rw [gs.rl]; omega)) (fun _ => rfl) rfl)))
      (evAll_cons (EvF.ev (Cp.evf (cp1 s.turns eR (fun x y h => (enR 0).inj h) (fun r => decide (r ≠ [])) eR [] (ev_local ok' rfl rfl rfl) (it_own ok'.hand (.head _)) (fun C => vis_nil) ok' (fun C okc r hr' => ?f2) (hsz (by rw [gs.tl]; omega)) (fun _ => rfl) rfl)))
      (evAll_cons (ev_local ok' rfl rfl rfl) evAll_nil fun _ => rfl) fun _ => rfl) fun _ => rfl) (hsz (m := 3) (by decide))) ⟨_, rfl, fun _ => ?f3⟩))
    case f1 => exact ⟨_, tg_local okc rfl, ts_one ((tr_compare (ev_local okc rfl rfl rfl) (ev_list evAll_nil (by decide)) (op_ne (enR 0) r [] (by have := okc.uni; exact Om.u_c ‹_› rfl) (by decide)) rfl).to (by simp)), fun _ => ev_local okc rfl rfl rfl, sub_cons rfl⟩
    case f2 => exact ⟨_, tg_local okc rfl, ts_one ((tr_compare (ev_local okc rfl rfl rfl) (ev_list evAll_nil (by decide)) (op_ne (enR 0) r [] (by have := okc.uni; exact Om.u_c ‹_› rfl) (by decide)) rfl).to (by simp)), fun _ => ev_local okc rfl rfl rfl, sub_cons rfl⟩
    case f3 => exact sub_ok (n := 3) ((encT (enT2 0) (enT2 0) (encBool 2)).ok _)
  case body =>
    obtain ⟨hk', rfl, hV⟩ := hI
    have hlt : k < R.length + 1 := by
      have := (List.getElem?_eq_some_iff.mp hk).1
      simpa using this
    have hd' : d = .int (k : Int) := by
      rw [List.getElem?_map, List.getElem?_range hlt] at hk
      cases hk; rfl
    subst hd'
    have gs := good_loop c g0 k (by assumption)
    obtain ⟨s, hs⟩ : ∃ s, s = layLoop c k s0 := ⟨_, rfl⟩
    rw [← hs] at gs hV ⊢
    have hnext : layLoop c (k + 1) s0 = layAt c k s := by rw [layLoop_succ, ← hs]
    rw [hnext]
    refine ⟨_, tg_local ok' rfl, VS.ex (hV.up rfl) ?_⟩
    have hu : (fAct (fdOf 56) 56 L A l).A.units + 100 < cLine := by have := ok'.uni; exact Om.u_d ‹_› rfl
    refine ex_if (tr_compare (ev_cell ok' rfl rfl rfl) (ev_list evAll_nil (by decide)) (op_ne (enR 0) s.going [] (by exact Om.u_c ‹_› rfl) (by decide)) rfl) (fun htr => ?_) (fun hf => ?_)
    · have hg : s.going ≠ [] := by simpa using htr
      obtain ⟨y, hy⟩ : ∃ y, s.going = [y] := by
        cases q : s.going with
        | nil => exact absurd q hg
        | cons y r =>
          have := gs.gl; rw [q] at this
          cases r with
          | nil => exact ⟨y, rfl⟩
          | cons _ _ => simp at this
      obtain ⟨row, hrow⟩ : ∃ row, row = s.rows.getD k [] := ⟨_, rfl⟩
      obtain ⟨trn, htrn⟩ : ∃ trn, trn = s.turns.getD k [] := ⟨_, rfl⟩
      have hkr : k < s.rows.length := by rw [gs.rl]; exact hlt
      have hkt : k < s.turns.length := by rw [gs.tl]; exact hlt
      have hri : (s.rows.map eR)[(k : Int).toNat]? = some (eR row) := by
        rw [Int.toNat_natCast, List.getElem?_map, List.getElem?_eq_getElem hkr, hrow, List.getD_eq_getElem?_getD, List.getElem?_eq_getElem hkr]; rfl
      have hti : (s.turns.map eR)[(k : Int).toNat]? = some (eR trn) := by
        rw [Int.toNat_natCast, List.getElem?_map, List.getElem?_eq_getElem hkt, htrn, List.getD_eq_getElem?_getD, List.getElem?_eq_getElem hkt]; rfl
      have hrg := gs.rs row (hrow ▸ getD_mem hkr)
      have htg := gs.ts trn (htrn ▸ getD_mem hkt)
      have hrl : row.length < 100 := by have := hrg.2; omega
      have htl : trn.length < 100 := by omega
      obtain ⟨p, hp⟩ : ∃ p, p = plc row y := ⟨_, rfl⟩
      have hpl : p ≤ row.length := hp ▸ plc_le row y
      unfold layVars layOwn
      rw [hy]
      -- signs
      refine ex_assign_comp ok' ((cp1 (row ++ [y]) D.int (fun x y h => by injection h) (fun _ => true) (fun x => .int (sgn x y)) [("going", eR [y])] (d := .lst ((row ++ [y]).map .int))
        ((ev_binop (ev_sub (ev_local ok' rfl rfl rfl) (ev_local ok' rfl rfl rfl) (op_item_own (.tail _ (.head _)) k (by exact Int.natCast_nonneg _) (by omega) hri fun _ _ => ⟨_, rfl⟩)) (ev_cell ok' rfl rfl rfl) (op_add_lst (row.map .int) ([y].map .int) (by simp; exact hsz (by exact Om.lt_f ‹_› rfl)))).to _ (by simp))
        (it_lst ok'.hand _) (fun C => vis_cons rfl rfl rfl rfl vis_nil) ok' (fun C okc z hz => ?sb) (hsz (by simp; exact Om.lt_f ‹_› rfl)) (fun _ => rfl) rfl).to (show _ = ((row ++ [y]).map fun x => sgn x y).map .int by rw [filt_true, List.map_map]; rfl)) rfl rfl ?_
      case sb =>
        refine ⟨_, tg_local okc rfl, ts_nil, fun _ => ?_, sub_cons rfl⟩
        exact ev_call_f (b.evg okc) (cmp_is b) (evAll_cons (ev_local okc rfl rfl rfl) (evAll_cons (ev_sub (ev_cell okc rfl rfl rfl) ev_int (op_item_lst _ 0 (by decide) (by decide) rfl fun _ _ => ⟨_, rfl⟩)) evAll_nil fun _ => rfl) fun _ => rfl) (op_cmp b okc.a z y) fun _ => ⟨rfl, _, _, rfl, rfl⟩
      -- place
      refine ex_assign (Ev.k (d := .int p) ((b.len ok' (EvF.ev (Cp.evf (cp1 ((row ++ [y]).map fun x => sgn x y) D.int (fun x y h => by injection h) (fun x => decide (x < 0)) D.int [] (ev_local ok' rfl rfl rfl) (it_lst ok'.hand _) (fun C => vis_nil) ok' (fun C okc z hz =>
        ⟨_, tg_local okc rfl, ts_one (tr_compare (ev_local okc rfl rfl rfl) ev_int (op_lt_int _ _) rfl), fun _ => ev_local okc rfl rfl rfl, sub_cons rfl⟩) (hsz (by simp; exact Om.lt_f ‹_› rfl)) (fun _ => rfl) rfl))) (by rw [List.length_map, place_eq, ← hp]; exact Om.lt_d ‹_› ‹_› rfl)).to _ (by rw [List.length_map, place_eq, ← hp])) ⟨_, tg_local ok' rfl, ?_⟩) rfl rfl rfl
      -- gone
      refine ex_assign (Ev.k (d := eR ((row.drop p).take 1)) ((EvF.ev (evf_slice (ds := row.map .int) (ev_sub (ev_local ok' rfl rfl rfl) (ev_local ok' rfl rfl rfl) (op_item_own (.tail _ (.head _)) k (by exact Int.natCast_nonneg _) (by omega) hri fun _ _ => ⟨_, rfl⟩)) (pt_some (i := (p : Nat)) (ev_local ok' rfl rfl rfl)) (pt_some (i := (p + 1 : Nat)) (ev_binop (ev_local ok' rfl rfl rfl) ev_int (op_add_int _ _))) pt_none (by simp)
        (hsz (by simp; exact Om.lt_c ‹_› rfl)) fun _ _ => ⟨_, rfl⟩)).to _ ?sg) ⟨_, tg_local ok' rfl, ?_⟩) rfl rfl rfl
      case sg => rw [pickL_run, ← List.map_drop, ← List.map_take]; simp [eR, eL]
      -- fresh
      refine ex_assign (Ev.k (d := eR (freshR row y)) ((ev_binop (ev_binop (EvF.ev (evf_slice (ds := row.map .int) (ev_sub (ev_local ok' rfl rfl rfl) (ev_local ok' rfl rfl rfl) (op_item_own (.tail _ (.head _)) k (by exact Int.natCast_nonneg _) (by omega) hri fun _ _ => ⟨_, rfl⟩)) pt_none (pt_some (i := (p : Nat)) (ev_local ok' rfl rfl rfl)) pt_none (by simp)
        (hsz (by simp; exact Om.lt_c ‹_› rfl)) fun _ _ => ⟨_, rfl⟩)) (ev_cell ok' rfl rfl rfl) (op_add_lst _ ([y].map .int) ?l1)) (EvF.ev (evf_slice (ds := row.map .int) (ev_sub (ev_local ok' rfl rfl rfl) (ev_local ok' rfl rfl rfl) (op_item_own (.tail _ (.head _)) k (by exact Int.natCast_nonneg _) (by omega) hri fun _ _ => ⟨_, rfl⟩)) (pt_some (i := (p + 1 : Nat)) (ev_binop (ev_local ok' rfl rfl rfl) ev_int (op_add_int _ _))) pt_none pt_none (by simp)
        (hsz (by simp; exact Om.lt_c ‹_› rfl)) fun _ _ => ⟨_, rfl⟩)) (op_add_lst _ _ ?l2)).to _ ?sf) ⟨_, tg_local ok' rfl, ?_⟩) rfl rfl rfl
      case l1 => rw [pickL_upto]; simp; exact hsz (by omega)
      case l2 => rw [pickL_upto, pickL_from]; simp; exact hsz (by omega)
      case sf => rw [pickL_upto, pickL_from, ← List.map_take, ← List.map_drop]; unfold freshR; rw [← hp]; simp [eR, eL]
      have hfl := fresh_len row y
      have hfs := fresh_sorted hrg.1 y
      -- told
      refine ex_assign (Ev.k (d := eP eR eR (sldS (freshR row y) row)) (ev_call_f (b.evg ok') (sld_is b) (evAll_cons (ev_local ok' rfl rfl rfl) (evAll_cons (ev_sub (ev_local ok' rfl rfl rfl) (ev_local ok' rfl rfl rfl) (op_item_own (.tail _ (.head _)) k (by exact Int.natCast_nonneg _) (by omega) hri fun _ _ => ⟨_, rfl⟩)) evAll_nil fun _ => rfl) fun _ => rfl) (hsld _ _ ok'.a hfs hrg.1 (by omega) (by exact Om.lt_c ‹_› rfl)) fun _ => ⟨rfl, _, _, rfl, rfl⟩) ⟨_, tg_local ok' rfl, ?_⟩) rfl rfl rfl
      -- fair
      refine ex_assign (Ev.k (ev_and (ev_local ok' rfl rfl rfl) fun _ => ev_compare (ev_local ok' rfl rfl rfl) ((ev_binop (ev_binop (ev_binop (ev_list (evAll_cons (ev_unary ev_int (op_neg_int _)) evAll_nil fun _ => rfl) (hsz (m := 1) (by decide))) (ev_local ok' rfl rfl rfl) (op_mul_lst _ _ (by exact Int.natCast_nonneg _) (by exact Om.lt_j ‹_› ‹_› rfl) ?m1))
        (ev_binop (ev_list (evAll_cons ev_int evAll_nil fun _ => rfl) (hsz (m := 1) (by decide))) (ev_binop (b.len ok' (ds := row.map .int) (ev_sub (ev_local ok' rfl rfl rfl) (ev_local ok' rfl rfl rfl) (op_item_own (.tail _ (.head _)) k (by exact Int.natCast_nonneg _) (by omega) hri fun _ _ => ⟨_, rfl⟩)) (h63 (by simp; exact Om.lt_c ‹_› rfl))) (ev_local ok' rfl rfl rfl) (op_sub_int _ _)) (op_mul_lst _ _ ?m2 ?m3 ?m4)) (op_add_lst _ _ ?m5))
        (ev_list (evAll_cons ev_int evAll_nil fun _ => rfl) (hsz (m := 1) (by decide))) (op_add_lst _ _ ?m6)).to (eR (List.replicate p (-1) ++ List.replicate (row.length - p) 1 ++ [0])) ?m7) (op_eq (enR 0) _ _ (by exact Om.u_c ‹_› rfl) (by decide)) rfl) ⟨_, tg_local ok' rfl, ?_⟩) rfl rfl rfl
      case m1 => simp; exact Om.le_d ‹_› ‹_› rfl
      case m2 => simp; omega
      case m3 => simp; omega
      case m4 => simp; omega
      case m5 => simp [sizeLine]; omega
      case m6 => simp [sizeLine]; omega
      case m7 =>
        have e1 : ∀ (m : Nat) (d : D), (List.replicate m [d]).flatten = List.replicate m d := fun m d => by induction m with | zero => rfl | succ m ih => rw [List.replicate_succ, List.flatten_cons, ih, List.replicate_succ]; rfl
        rw [e1, e1]
        have e2 : (((row.map D.int).length : Nat) : Int) - (p : Int) = ((row.length - p : Nat) : Int) := by rw [List.length_map]; omega
        rw [e2, Int.toNat_natCast, Int.toNat_natCast]
        simp [eR, eL]
      refine ex_assign (Ev.k (ev_and (ev_local ok' rfl rfl rfl) fun _ => ev_compare (ev_local ok' rfl rfl rfl) (ev_tuple (evAll_cons (ev_cell ok' rfl rfl rfl) (evAll_cons (ev_local ok' rfl rfl rfl) evAll_nil fun _ => rfl) fun _ => rfl) (hsz (m := 2) (by decide))) (op_eq (encP (enR 0) (enR 0)) (sldS (freshR row y) row) ([y], (row.drop p).take 1) (by exact Om.u_c ‹_› rfl) (by decide)) rfl) ⟨_, tg_local ok' rfl, ?_⟩) rfl rfl rfl
      have hfin := layAt_eq (c := c) (k := k) hy
      rw [← hrow, ← htrn, ← hp] at hfin
      refine ex_if (tr_compare (ev_local ok' rfl rfl rfl) (ev_list evAll_nil (by decide)) (op_eq (enR 0) ((row.drop p).take 1) [] (by exact Om.u_c ‹_› rfl) (by decide)) rfl) (fun h1 => ?_) (fun h2 => ?_)
      · have h1 : (row.drop p).take 1 = [] := by simpa using h1
        rw [if_pos h1] at hfin
        refine ex_setitem (ds := s.turns.map eR) (k := k) (d := eR (trn ++ [c])) ((ev_binop (ev_sub (ev_local ok' rfl rfl rfl) (ev_local ok' rfl rfl rfl) (op_item_own (.head _) k (by exact Int.natCast_nonneg _) (by omega) hti fun _ _ => ⟨_, rfl⟩)) (ev_list (evAll_cons (ev_local ok' rfl rfl rfl) evAll_nil fun _ => rfl) (hsz (m := 1) (by decide))) (op_add_lst _ _ (by simp; exact hsz (by exact Om.lt_f ‹_› rfl)))).to _ (by simp [eR, eL])) (ev_local ok' rfl rfl rfl) (ev_local ok' rfl rfl rfl) .head (by exact Int.natCast_nonneg _) (by simp; assumption) (by omega) (ex_nil ?_) rfl
        refine ex_setitem (ds := s.rows.map eR) (k := k) (d := eR (freshR row y)) (ev_local ok' rfl rfl rfl) (ev_local ok' rfl rfl rfl) (ev_local ok' rfl rfl rfl) (.tail .head) (by exact Int.natCast_nonneg _) (by simp; assumption) (by omega) ?_ rfl
        refine ex_assign (Ev.k (d := eR (sldS (freshR row y) row).2) (ev_sub (ev_local ok' rfl rfl rfl) ev_int (op_item_tup _ 1 (by decide) (by decide) rfl fun _ _ => ⟨_, rfl⟩)) ⟨_, tg_cell ok' rfl rfl (.head _), ex_nil (ex_nil ⟨by assumption, ?_, ?_⟩)⟩) rfl rfl rfl
        · rw [hfin]; simp only [Int.toNat_natCast, List.map_set]
        · rw [hfin]; exact vs_cons rfl (vs_cons rfl (vs_cons rfl (vs_cons rfl (vs_cons rfl vs_nil))))
      · have h2 : (row.drop p).take 1 ≠ [] := by simpa using h2
        rw [if_neg h2] at hfin
        refine ex_nil ?_
        refine ex_setitem (ds := s.rows.map eR) (k := k) (d := eR (freshR row y)) (ev_local ok' rfl rfl rfl) (ev_local ok' rfl rfl rfl) (ev_local ok' rfl rfl rfl) (.tail .head) (by exact Int.natCast_nonneg _) (by simp; assumption) (by omega) ?_ rfl
        refine ex_assign (Ev.k (d := eR (sldS (freshR row y) row).2) (ev_sub (ev_local ok' rfl rfl rfl) ev_int (op_item_tup _ 1 (by decide) (by decide) rfl fun _ _ => ⟨_, rfl⟩)) ⟨_, tg_cell ok' rfl rfl (.head _), ex_nil (ex_nil ⟨by assumption, ?_, ?_⟩)⟩) rfl rfl rfl
        · rw [hfin]; simp only [Int.toNat_natCast, List.map_set]
        · rw [hfin]; exact vs_cons rfl (vs_cons rfl (vs_cons rfl (vs_cons rfl (vs_cons rfl vs_nil))))
    · have hg : s.going = [] := by simpa using hf
      have he : layAt c k s = s := by unfold layAt; rw [if_pos hg]
      rw [he]
      exact ex_nil (ex_nil ⟨by assumption, rfl, vs_cons rfl (vs_cons rfl (vs_cons rfl (vs_cons rfl (vs_cons rfl vs_nil))))⟩)
end
end Mine
end
section
open PySem PySem.W PyProof.Rows
set_option maxRecDepth 10000
set_option linter.unusedVariables false
namespace Mine
noncomputable abbrev Pnt := Int × Int
noncomputable abbrev ePt : Pnt → D := eP D.int D.int
noncomputable abbrev ePL : List Pnt → D := eL ePt
theorem enPt (n : Nat) : Enc (n + 1) ePt := encP (encInt n) (encInt n)
theorem enPL (n : Nat) : Enc (n + 2) ePL := encL (enPt n)

noncomputable def below (left : List Pnt) (p : Pnt) : List Pnt := left.filter fun q => decide (q.1 < p.1) && decide (q.2 < p.2)
noncomputable def line1 (left : List Pnt) : List Pnt := left.filter fun p => decide (below left p = [])
noncomputable def left1 (left : List Pnt) : List Pnt := left.filter fun p => !decide (p ∈ line1 left)
noncomputable def linesF : Nat → List Pnt → List (List Pnt)
  | 0, _ => []
  | n + 1, left => if left = [] then [] else line1 left :: linesF n (left1 left)
noncomputable def corners (lines : List (List Pnt)) : List Pnt := lines.flatMap fun line => (List.range (line.length - 1)).map fun i => ((line.getD (i + 1) (0, 0)).1, (line.getD i (0, 0)).2)
noncomputable def rowOf (lines : List (List Pnt)) : List Int := lines.map fun line => (line.getLastD (0, 0)).2
noncomputable def turnOf (lines : List (List Pnt)) : List Int := lines.map fun line => (line.headD (0, 0)).1
noncomputable def shadowsF (srt : List Pnt → List Pnt) : Nat → List Pnt → List (List Int) × List (List Int)
  | 0, _ => ([], [])
  | n + 1, pts => if pts = [] then ([], []) else
    let ls := linesF pts.length pts
    let r := shadowsF srt n (srt (corners ls))
    (rowOf ls :: r.1, turnOf ls :: r.2)

theorem exists_min : ∀ {left : List Pnt}, left ≠ [] → ∃ p ∈ left, ∀ q ∈ left, p.1 ≤ q.1
  | [], h => absurd rfl h
  | [p], _ => ⟨p, .head _, fun q hq => by rw [List.mem_singleton.mp hq]; omega⟩
  | p :: r :: l, _ => by
    obtain ⟨q, hq, hm⟩ := exists_min (left := r :: l) (by simp)
    by_cases h : p.1 ≤ q.1
    · exact ⟨p, .head _, fun z hz => by rcases List.mem_cons.mp hz with rfl | hz; omega; have := hm z hz; exact Int.le_trans ‹_› ‹_›⟩
    · exact ⟨q, .tail _ hq, fun z hz => by rcases List.mem_cons.mp hz with rfl | hz; omega; exact hm z hz⟩
theorem line1_ne {left : List Pnt} (h : left ≠ []) : line1 left ≠ [] := by
  obtain ⟨p, hp, hm⟩ := exists_min h
  have : p ∈ line1 left := by
    unfold line1
    rw [List.mem_filter]
    refine ⟨hp, ?_⟩
    rw [decide_eq_true_eq]
    unfold below
    rw [List.filter_eq_nil_iff]
    intro q hq
    have := hm q hq
    simp; omega
  intro e; rw [e] at this; simp at this
theorem left1_eq (left : List Pnt) : left1 left = left.filter fun p => !decide (below left p = []) := by
  unfold left1
  apply List.filter_congr
  intro p hp
  congr 1
  unfold line1
  simp [List.mem_filter, hp]
theorem line1_len (left : List Pnt) : (line1 left).length + (left1 left).length = left.length := by
  rw [left1_eq]
  unfold line1
  have := List.length_eq_countP_add_countP (fun p => decide (below left p = [])) (l := left)
  rw [List.countP_eq_length_filter, List.countP_eq_length_filter] at this
  rw [this]
  congr 2
  apply List.filter_congr
  intro p _
  by_cases h : below left p = [] <;> simp [h]
theorem left1_lt {left : List Pnt} (h : left ≠ []) : (left1 left).length < left.length := by
  have := line1_len left
  have := List.length_pos_iff.mpr (line1_ne h)
  omega
theorem linesF_fuel : ∀ (n : Nat) (left : List Pnt), left.length ≤ n → linesF n left = linesF left.length left
  | 0, left, h => by rw [Nat.le_zero.mp h]
  | n + 1, left, h => by
    cases q : left with
    | nil => rfl
    | cons p r =>
      have hne : left ≠ [] := by rw [q]; simp
      have hlt := left1_lt hne
      rw [q] at hne hlt h
      show linesF (n + 1) (p :: r) = linesF (r.length + 1) (p :: r)
      unfold linesF
      rw [if_neg hne, if_neg hne, linesF_fuel n _ (by simp at hlt h; omega), linesF_fuel r.length _ (by simp at hlt; exact Nat.le_of_lt_succ ‹_›)]
theorem linesF_step {left : List Pnt} (h : left ≠ []) : linesF left.length left = line1 left :: linesF (left1 left).length (left1 left) := by
  cases q : left with
  | nil => exact absurd q h
  | cons p r =>
    rw [q] at h
    have hlt := left1_lt h
    have e : linesF (r.length + 1) (p :: r) = line1 (p :: r) :: linesF r.length (left1 (p :: r)) := by rw [linesF, if_neg h]
    show linesF (r.length + 1) (p :: r) = _
    rw [e, linesF_fuel r.length _ (by simp at hlt; exact Nat.le_of_lt_succ ‹_›)]
theorem linesF_mem : ∀ (n : Nat) (left : List Pnt), left.length ≤ n → (∀ ln ∈ linesF left.length left, ln ≠ [] ∧ ln.length ≤ left.length) ∧ ((linesF left.length left).map List.length).sum = left.length
  | 0, left, h => by
    have : left = [] := List.length_eq_zero_iff.mp (Nat.le_zero.mp h)
    subst this
    exact ⟨fun ln hl => by simp [linesF] at hl, rfl⟩
  | n + 1, left, h => by
    by_cases hne : left = []
    · subst hne; exact ⟨fun ln hl => by simp [linesF] at hl, rfl⟩
    · have hlt := left1_lt hne
      obtain ⟨h1, h2⟩ := linesF_mem n (left1 left) (by omega)
      rw [linesF_step hne]
      have hs := line1_len left
      refine ⟨fun ln hl => ?_, ?_⟩
      · rcases List.mem_cons.mp hl with rfl | hl
        · exact ⟨line1_ne hne, by omega⟩
        · obtain ⟨q1, q2⟩ := h1 ln hl; exact ⟨q1, by exact Nat.le_trans ‹_› (Nat.le_of_lt ‹_›)⟩
      · rw [List.map_cons, List.sum_cons, h2]; assumption
theorem corners_len (lines : List (List Pnt)) : (corners lines).length = (lines.map fun ln => ln.length - 1).sum := by
  unfold corners
  rw [List.length_flatMap]
  congr 1
  apply List.map_congr_left
  intro ln _
  simp
theorem sum_pred : ∀ {lines : List (List Pnt)}, (∀ ln ∈ lines, ln ≠ []) → (lines.map fun ln => ln.length - 1).sum + lines.length = (lines.map List.length).sum
  | [], _ => rfl
  | ln :: lines, h => by
    have := sum_pred (lines := lines) fun l hl => h l (.tail _ hl)
    have := List.length_pos_iff.mpr (h ln (.head _))
    simp only [List.map_cons, List.sum_cons, List.length_cons]
    omega
theorem corners_lt {pts : List Pnt} (h : pts ≠ []) : (corners (linesF pts.length pts)).length < pts.length := by
  obtain ⟨h1, h2⟩ := linesF_mem pts.length pts (Nat.le_refl _)
  rw [corners_len]
  have := sum_pred fun ln hl => (h1 ln hl).1
  have : 0 < (linesF pts.length pts).length := by rw [linesF_step h]; simp
  omega
theorem shadowsF_fuel (srt : List Pnt → List Pnt) (hs : ∀ l, (srt l).length = l.length) : ∀ (n : Nat) (pts : List Pnt), pts.length ≤ n → shadowsF srt n pts = shadowsF srt pts.length pts
  | 0, pts, h => by rw [Nat.le_zero.mp h]
  | n + 1, pts, h => by
    cases q : pts with
    | nil => rfl
    | cons p r =>
      have hne : pts ≠ [] := by rw [q]; simp
      have hlt := corners_lt hne
      rw [q] at hne hlt h
      show shadowsF srt (n + 1) (p :: r) = shadowsF srt (r.length + 1) (p :: r)
      unfold shadowsF
      rw [if_neg hne, if_neg hne]
      have h1 : (srt (corners (linesF (p :: r).length (p :: r)))).length ≤ r.length := by rw [hs]; simp at hlt ⊢; exact Nat.le_of_lt_succ ‹_›
      simp only [List.length_cons] at h h1 ⊢
      rw [shadowsF_fuel srt hs n _ (by omega), shadowsF_fuel srt hs r.length _ h1]
theorem shadowsF_step (srt : List Pnt → List Pnt) (hs : ∀ l, (srt l).length = l.length) {pts : List Pnt} (h : pts ≠ []) : shadowsF srt pts.length pts =
    (rowOf (linesF pts.length pts) :: (shadowsF srt (srt (corners (linesF pts.length pts))).length (srt (corners (linesF pts.length pts)))).1,
     turnOf (linesF pts.length pts) :: (shadowsF srt (srt (corners (linesF pts.length pts))).length (srt (corners (linesF pts.length pts)))).2) := by
  have hlt := corners_lt h
  cases q : pts with
  | nil => exact absurd q h
  | cons p r =>
    rw [q] at h hlt
    have h1 : (srt (corners (linesF (p :: r).length (p :: r)))).length ≤ r.length := by rw [hs]; simp at hlt ⊢; exact Nat.le_of_lt_succ ‹_›
    show shadowsF srt (r.length + 1) (p :: r) = _
    unfold shadowsF
    rw [if_neg h]
    simp only
    rw [shadowsF_fuel srt hs r.length _ h1]
    cases q' : (srt (corners (linesF (p :: r).length (p :: r)))).length <;> rfl
end Mine
end
section
open PySem PySem.W PyProof.Rows
set_option maxRecDepth 10000
set_option linter.unusedVariables false
namespace Mine
noncomputable def SrtC (prog : Program) (w : World) (B : Heap) (srt : List Pnt → List Pnt) : Prop := ∀ {A : Around} {l : List Env} {n : Nat} {own : Owns} (pts : List Pnt), AOk A l (n + 1) → pts.length < 60 → Op prog w B A l own (fun vs => call (.builtin "sorted") vs) [ePL pts] (ePL (srt pts))
section
variable {prog : Program} {w : World} {B : Heap} {mg mb : Str → Option Value} {A : Around} {l : List Env} {own : Owns} {n : Nat} {P : Params} {a : Act} {σ : Vars}
theorem sha_fn (b : Bs P B mg mb) : ∃ o, B.get? 61 = some o ∧ o.data = .func (fdOf 61) := b.fn rfl
theorem sha_ok (b : Bs P B mg mb) : FnOk B (fdOf 61) ["points"] (bdOf 61) := b.ok rfl rfl rfl fun vs h => by
  match vs, h with
  | [x], _ => rfl
theorem it_from1 (hh : A.handled = none) {m : Nat} (h : m < 2 ^ 60) : It prog w B A l own (.rng 1 m 1) ((List.range (m - 1)).map fun (i : Nat) => D.int (1 + (i : Int) * 1)) := by
  refine it_rng hh (PySem.small_one (by exact Int.natCast_nonneg _) (by exact Int.natCast_nonneg _) (by exact Int.natCast_nonneg _) (by exact Om.lt_i ‹_› rfl)) ?_
  unfold Builtin.Range.rangeSize
  rw [if_pos (by decide)]
  split <;> omega
theorem drop_nd {p : Addr × List D} {own : Owns} (h : OwnNd (p :: own)) : OwnNd own := (List.nodup_cons.mp h).2
set_option maxHeartbeats 4000000 in
theorem op_sha (b : Bs P B mg mb) (ok : AOk A l (n + 2)) {srt : List Pnt → List Pnt} (hsrt : SrtC prog w B srt) (hsl : ∀ l, (srt l).length = l.length)
    (pts : List Pnt) (hN : pts.length < 60) :
    Op prog w B A l own (fun vs => call (.ref 61) vs) [ePL pts] (eP eT2 eT2 (shadowsF srt pts.length pts)) := by
  obtain ⟨o, ho, hd⟩ := sha_fn b
  refine op_fn b.G ok ho hd (sha_ok b) rfl fun L => ?_
  have ok' : (fAct (fdOf 61) 61 L A l).Ok (n + 1) := fAct_ok ok (sha_ok b)
  have hsz : ∀ {m : Nat}, m < 200 → m ≤ sizeLine := fun h => by unfold sizeLine; exact Om.le_c ‹_› rfl
  have h63 : ∀ {m : Nat}, m < 200 → m < 2 ^ 63 := fun h => by exact Om.lt_c ‹_› rfl
  have hu : (fAct (fdOf 61) 61 L A l).A.units + 200 < cLine := by have := ok'.uni; exact Om.u_d ‹_› rfl
  have hu1 : (fAct (fdOf 61) 61 L A l).A.units + 100 < cLine := by exact Om.u_c ‹_› rfl
  refine ex_swap2 ok' (evK_tuple (evAllK_cons (EvF.k (evf_list evAll_nil (by decide)) fun Z₁ => evAllK_cons (EvF.k (evf_list evAll_nil (by decide)) fun Z₂ => evAllK_nil ⟨hsz (m := 2) (by decide), _, _, rfl, ?_⟩) fun _ => rfl) fun _ => rfl)) rfl rfl rfl rfl
  obtain ⟨pts0, hp0⟩ : ∃ p, p = pts := ⟨_, rfl⟩
  refine ex_while (fun m σ own => ∃ (pts : List Pnt) (R T : List (List Int)), m = pts.length ∧ own = [(Z₂, T.map eR), (Z₁, R.map eR)] ∧ VS [("rows", .val (.ref Z₁)), ("turns", .val (.ref Z₂)), ("points", ePL pts)] σ ∧ pts.length + R.length < 60 ∧ T.length = R.length ∧
    R ++ (shadowsF srt pts.length pts).1 = (shadowsF srt pts0.length pts0).1 ∧ T ++ (shadowsF srt pts.length pts).2 = (shadowsF srt pts0.length pts0).2) pts.length ⟨pts, [], [], rfl, rfl, vs_cons rfl (vs_cons rfl (vs_cons rfl vs_nil)), by simpa using hN, rfl, by rw [hp0]; rfl, by rw [hp0]; rfl⟩ ?_
  rintro m σ own ⟨pts, R, T, rfl, rfl, hV, hlen, hTR, hR, hT⟩
  refine ⟨!decide (pts = []), fun s g Q E S k => (tr_compare (ev_local ok' rfl rfl rfl) (ev_list evAll_nil (by decide)) (op_ne (enPL 0) pts [] (by exact Om.u_c ‹_› rfl) (by decide)) rfl) s g Q E (S.weaken (fun x d q => hV _ (mem_of_lookupD q)) fun _ q => q) k, fun htr => hV.ex ?_, fun hf => hV.ex ?_⟩
  · have hne : pts ≠ [] := by simpa using htr
    refine ex_assign (evK_tuple (evAllK_cons (EvF.k (evf_list evAll_nil (by decide)) fun Z₃ => evAllK_cons (Ev.k (ev_local ok' rfl rfl rfl) (evAllK_nil ⟨hsz (m := 2) (by decide), _, tg_pair ok' (tg_cell ok' rfl rfl ?m1) (tg_cell ok' rfl rfl ?m2) rfl, ?_⟩)) fun _ => rfl) fun _ => rfl)) rfl rfl rfl
    case m1 => first | exact .head _ | exact .tail _ (.head _)
    case m2 => first | exact .head _ | exact .tail _ (.head _)
    refine ex_while (fun m σ own => ∃ (left : List Pnt) (ls : List (List Pnt)), m = left.length ∧ own = [(Z₃, ls.map ePL), (Z₂, T.map eR), (Z₁, R.map eR)] ∧ VS [("rows", .val (.ref Z₁)), ("turns", .val (.ref Z₂)), ("lines", .val (.ref Z₃)), ("left", ePL left)] σ ∧ left.length + ls.length < 60 ∧
      ls ++ linesF left.length left = linesF pts.length pts) pts.length ⟨pts, [], rfl, rfl, vs_cons rfl (vs_cons rfl (vs_cons rfl (vs_cons rfl vs_nil))), by simp; exact Om.sf2 ‹_›, rfl⟩ ?_
    rintro m σ own ⟨left, ls, rfl, rfl, hV, hll, hls⟩
    refine ⟨!decide (left = []), fun s g Q E S k => (tr_compare (ev_cell ok' rfl rfl rfl) (ev_list evAll_nil (by decide)) (op_ne (enPL 0) left [] (by exact Om.u_c ‹_› rfl) (by decide)) rfl) s g Q E (S.weaken (fun x d q => hV _ (mem_of_lookupD q)) fun _ q => q) k, fun htr => hV.ex ?_, fun hf => hV.ex ?_⟩
    · have hnl : left ≠ [] := by simpa using htr
      refine ex_append (ds := ls.map ePL) (d := ePL (line1 left)) (ev_cell ok' rfl rfl rfl) (evAll_cons (EvF.ev (Cp.evf (cp1 left ePt (fun x y h => (enPt 0).inj h) (fun p => decide (below left p = [])) ePt [("left", ePL left)] (ev_cell ok' rfl rfl rfl) (it_lst ok'.hand _) (fun C => vis_cons rfl rfl rfl rfl vis_nil) ok' (fun C okc p hp => ?c1) (hsz (by omega)) (fun _ => rfl) rfl))) evAll_nil fun _ => rfl) .head ?_ (hsz (by simp; omega)) rfl rfl rfl rfl
      case c1 =>
        refine ⟨_, tg_cell okc rfl rfl (.head _), ts_one (tr_compare (EvF.ev (Cp.evf (cp1 left ePt (fun x y h => (enPt 0).inj h) (fun q => decide (q.1 < p.1) && decide (q.2 < p.2)) ePt [("p", ePt p)] (ev_cell okc rfl rfl rfl) (it_lst okc.hand _) (fun C => vis_cons rfl rfl rfl rfl vis_nil) okc (fun C' okd q hq => ?c2) (hsz (by omega)) (fun _ => rfl) rfl))) (ev_list evAll_nil (by decide)) (op_eq (enPL 0) (below left p) [] (by have := okc.uni; exact Om.u_c ‹_› rfl) (by decide)) rfl), fun _ => ev_cell okc rfl rfl rfl, sub_cons rfl⟩
        case c2 =>
          exact ⟨_, tg_local okd rfl, ts_one (tr_and (tr_compare (ev_sub (ev_local okd rfl rfl rfl) ev_int (op_item_tup _ 0 (by decide) (by decide) rfl fun _ _ => ⟨_, rfl⟩)) (ev_sub (ev_cell okd rfl rfl rfl) ev_int (op_item_tup _ 0 (by decide) (by decide) rfl fun _ _ => ⟨_, rfl⟩)) (op_lt_int _ _) rfl) fun _ => tr_compare (ev_sub (ev_local okd rfl rfl rfl) ev_int (op_item_tup _ 1 (by decide) (by decide) rfl fun _ _ => ⟨_, rfl⟩)) (ev_sub (ev_cell okd rfl rfl rfl) ev_int (op_item_tup _ 1 (by decide) (by decide) rfl fun _ _ => ⟨_, rfl⟩)) (op_lt_int _ _) rfl), fun _ => ev_local okd rfl rfl rfl, sub_cons rfl⟩
      refine ex_assign (Ev.k (d := ePL (left1 left)) (EvF.ev (Cp.evf (cp1 left ePt (fun x y h => (enPt 0).inj h) (fun p => !decide (p ∈ line1 left)) ePt [("lines", .val (.ref Z₃))] (ev_cell ok' rfl rfl rfl) (it_lst ok'.hand _) (fun C => vis_cons rfl rfl rfl rfl vis_nil) ok' (fun C okc p hp => ?c3) (hsz (by omega)) (fun _ => rfl) rfl))) ⟨_, tg_cell ok' rfl rfl ?m3, ex_nil ⟨(left1 left).length, left1_lt hnl, left1 left, ls ++ [line1 left], rfl, ?_, ?_, ?_, ?_⟩⟩) rfl rfl rfl
      case m3 => first | exact .head _ | exact .tail _ (.head _)
      case c3 =>
        exact ⟨_, tg_local okc rfl, ts_one (tr_compare (ev_local okc rfl rfl rfl) (ev_sub (ev_cell okc rfl rfl rfl) (ev_unary ev_int (op_neg_int _)) (op_last_own (.head _) (d := ePL (line1 left)) (by simp) fun _ _ => ⟨_, rfl⟩)) (op_notin (enPt 0) p (line1 left) hu1 (by decide)) rfl |>.to (congrArg not (decide_eq_decide.mpr Iff.rfl))), fun _ => ev_local okc rfl rfl rfl, sub_cons rfl⟩
      · simp
      · exact vs_cons rfl (vs_cons rfl (vs_cons rfl (vs_cons rfl vs_nil)))
      · have := left1_lt hnl; simp; omega
      · rw [List.append_assoc, List.singleton_append, ← linesF_step hnl]; exact hls
    · have hln : left = [] := by simpa using hf
      subst hln
      have hls : ls = linesF pts.length pts := by rw [← hls]; exact (List.append_nil _).symm
      obtain ⟨hmem, hsum⟩ := linesF_mem pts.length pts (Nat.le_refl _)
      rw [← hls] at hmem hsum
      have hlsl : ls.length < 60 := by simpa using hll
      have hcl := corners_lt hne
      rw [← hls] at hcl
      refine ex_append (ds := R.map eR) (d := eR (rowOf ls)) (ev_local ok' rfl rfl rfl) (evAll_cons ((EvF.ev (Cp.evf (cp1 ls ePL (fun x y h => (enPL 0).inj h) (fun _ => true) (fun line => .int (line.getLastD (0, 0)).2) [] (d := .val (.ref Z₃)) (ev_cell ok' rfl rfl rfl) (it_own ok'.hand (.head _)) (fun C => vis_nil) ok' (fun C okc line hl => ?d1) (hsz (by exact Om.lt_c ‹_› rfl)) (fun _ => rfl) rfl))).to _ (by rw [filt_true]; simp [eR, eL, rowOf, List.map_map, Function.comp_def])) evAll_nil fun _ => rfl) (.tail (.tail .head)) ?_ (hsz (by simp; omega)) rfl rfl rfl rfl
      case d1 =>
        refine ⟨_, tg_local okc rfl, ts_nil, fun _ => ev_sub (ev_sub (ev_local okc rfl rfl rfl) (ev_unary ev_int (op_neg_int _)) (op_last_lst _ (d := ePt (line.getLastD (0, 0))) ?_ fun _ _ => ⟨_, rfl⟩)) ev_int (op_item_tup _ 1 (by decide) (by decide) rfl fun _ _ => ⟨_, rfl⟩), sub_cons rfl⟩
        rw [List.getLast?_map]
        have := (hmem line hl).1
        cases line with
        | nil => exact absurd rfl this
        | cons z zs => rw [List.getLast?_eq_getLast (by simp), List.getLastD_eq_getLast?, List.getLast?_eq_getLast (by simp)]; rfl
      refine ex_append (ds := T.map eR) (d := eR (turnOf ls)) (ev_local ok' rfl rfl rfl) (evAll_cons ((EvF.ev (Cp.evf (cp1 ls ePL (fun x y h => (enPL 0).inj h) (fun _ => true) (fun line => .int (line.headD (0, 0)).1) [] (d := .val (.ref Z₃)) (ev_cell ok' rfl rfl rfl) (it_own ok'.hand (.head _)) (fun C => vis_nil) ok' (fun C okc line hl => ?d2) (hsz (by exact Om.lt_c ‹_› rfl)) (fun _ => rfl) rfl))).to _ (by rw [filt_true]; simp [eR, eL, turnOf, List.map_map, Function.comp_def])) evAll_nil fun _ => rfl) (.tail .head) ?_ (hsz (by simp; omega)) rfl rfl rfl rfl
      case d2 =>
        refine ⟨_, tg_local okc rfl, ts_nil, fun _ => ev_sub (ev_sub (ev_local okc rfl rfl rfl) ev_int (op_item_lst _ 0 (by decide) (by decide) (d := ePt (line.headD (0, 0))) ?_ fun _ _ => ⟨_, rfl⟩)) ev_int (op_item_tup _ 0 (by decide) (by decide) rfl fun _ _ => ⟨_, rfl⟩), sub_cons rfl⟩
        have := (hmem line hl).1
        cases line with
        | nil => exact absurd rfl this
        | cons z zs => rfl
      refine ex_assign (Ev.k (d := ePL (srt (corners ls))) (ev_call_b (b.evb ok') (evAll_cons ((EvF.ev (Cp.evf (cp2 ls ePL (fun x y h => (enPL 0).inj h) (fun line => List.range (line.length - 1)) (fun (i : Nat) => D.int (1 + (i : Int) * 1)) (fun x y h => by injection h with h; omega) (fun line i => ePt ((line.getD (i + 1) (0, 0)).1, (line.getD i (0, 0)).2)) [] (d := .val (.ref Z₃)) (ev_cell ok' rfl rfl rfl) (it_own ok'.hand (.head _)) (fun C => vis_nil) ok' (fun C okc line hl =>
        ⟨_, .rng 1 (line.length : Nat) 1, tg_local okc rfl, (ev_call_t (b.evb okc) (evAll_cons ev_int (evAll_cons (b.len okc (ev_local okc rfl rfl rfl) (by have := (hmem line hl).2; rw [List.length_map]; omega)) evAll_nil fun _ => rfl) fun _ => rfl) (op_range2 _ _) fun _ => ⟨rfl, _, _, rfl, rfl⟩).to _ (by rw [List.length_map]), it_from1 okc.hand (by have := (hmem line hl).2; omega), sub_cons rfl, fun i hi => ?d3⟩) ?d4 (fun _ => rfl) (fun _ _ => rfl) rfl))).to (ePL (corners ls)) ?d5) evAll_nil fun _ => rfl) (hsrt (corners ls) ok'.a (by omega)) fun _ => ⟨rfl, _, _, rfl, rfl⟩) ⟨_, tg_local ok' rfl, ?_⟩) rfl rfl rfl
      case d3 =>
        have hi : i < line.length - 1 := List.mem_range.mp hi
        have hll := (hmem line hl).2
        refine ⟨_, tg_local okc rfl, ev_tuple (evAll_cons (ev_sub (ev_sub (ev_local okc rfl rfl rfl) (ev_local okc rfl rfl rfl) (op_item_lst _ _ (by exact Int.natCast_nonneg _) (by omega) (d := ePt (line.getD (i + 1) (0, 0))) ?_ fun _ _ => ⟨_, rfl⟩)) ev_int (op_item_tup _ 0 (by decide) (by decide) rfl fun _ _ => ⟨_, rfl⟩)) (evAll_cons (ev_sub (ev_sub (ev_local okc rfl rfl rfl) (ev_binop (ev_local okc rfl rfl rfl) ev_int (op_sub_int _ _)) (op_item_lst _ _ (by omega) (by omega) (d := ePt (line.getD i (0, 0))) ?_ fun _ _ => ⟨_, rfl⟩)) ev_int (op_item_tup _ 1 (by decide) (by decide) rfl fun _ _ => ⟨_, rfl⟩)) evAll_nil fun _ => rfl) fun _ => rfl) (hsz (m := 2) (by decide)), sub_cons rfl⟩
        · have e : ((1 : Int) + (i : Int) * 1).toNat = i + 1 := by omega
          rw [e, List.getElem?_map, List.getD_eq_getElem?_getD, List.getElem?_eq_getElem (show i + 1 < line.length by omega)]; rfl
        · have e : ((1 : Int) + (i : Int) * 1 - 1).toNat = i := by omega
          rw [e, List.getElem?_map, List.getD_eq_getElem?_getD, List.getElem?_eq_getElem (show i < line.length by omega)]; rfl
      case d4 =>
        have := corners_len ls
        simp only [List.length_range]
        exact hsz (by omega)
      case d5 => unfold corners ePL eL; rw [List.map_flatMap]; simp [List.map_map, Function.comp_def]
      refine Ex.drop (own' := [(Z₂, (T ++ [turnOf ls]).map eR), (Z₁, (R ++ [rowOf ls]).map eR)]) (ex_nil ⟨(srt (corners ls)).length, by rw [hsl]; exact hcl, srt (corners ls), R ++ [rowOf ls], T ++ [turnOf ls], rfl, rfl, vs_cons rfl (vs_cons rfl (vs_cons rfl vs_nil)), ?_, ?_, ?_, ?_⟩) ?_ drop_nd
      · rw [hsl]; simp; omega
      · simp [hTR]
      · rw [← hR, shadowsF_step srt hsl hne, ← hls, List.append_assoc]; rfl
      · rw [← hT, shadowsF_step srt hsl hne, ← hls, List.append_assoc]; rfl
      · intro p hp; simp only [List.map_append, List.map_cons, List.map_nil] at hp ⊢; exact .tail _ hp
  · have he : pts = [] := by simpa using hf
    subst he
    refine ex_return (Ev.k (ev_tuple (evAll_cons (ev_local ok' rfl rfl rfl) (evAll_cons (ev_local ok' rfl rfl rfl) evAll_nil fun _ => rfl) fun _ => rfl) (hsz (m := 2) (by decide))) ⟨_, rfl, fun nd => ?_⟩)
    have hZ : Z₁ ≠ Z₂ := fun e => by
      have := (List.nodup_cons.mp nd).1
      exact this (by rw [e]; exact .head _)
    have e1 : (Z₁ == Z₂) = false := by rw [beq_eq_false_iff_ne]; exact hZ
    have hR' : R = (shadowsF srt pts0.length pts0).1 := by rw [← hR]; exact (List.append_nil _).symm
    have hT' : T = (shadowsF srt pts0.length pts0).2 := by rw [← hT]; exact (List.append_nil _).symm
    simp only [sub, subs, List.lookup_cons, e1, beq_self_eq_true]
    rw [hR', hT', hp0]
end
end Mine
end
section
open PySem PySem.W PyProof.Rows
set_option maxRecDepth 10000
set_option linter.unusedVariables false
namespace Mine
/-- what a tree of questions reaches when they are answered by ans -/
noncomputable def KG {α : Type} (n : Nat) (ans : Nat → Nat → Bool) : KasT α → (α → Prop) → Prop
  | .ret a, R => R a
  | .ask i j k, R => i < n ∧ j < n ∧ KG n ans (k (ans i j)) R
theorem KG.mono {α : Type} {n : Nat} {ans : Nat → Nat → Bool} : ∀ {t : KasT α} {R R' : α → Prop}, KG n ans t R → (∀ a, R a → R' a) → KG n ans t R'
  | .ret a, R, R', h, m => m a h
  | .ask i j k, R, R', h, m => ⟨h.1, h.2.1, KG.mono h.2.2 m⟩
theorem KG.bind {α β : Type} {n : Nat} {ans : Nat → Nat → Bool} {f : α → KasT β} : ∀ {t : KasT α} {R : β → Prop}, KG n ans t (fun a => KG n ans (f a) R) → KG n ans (t.bind f) R
  | .ret a, R, h => h
  | .ask i j k, R, h => ⟨h.1, h.2.1, KG.bind h.2.2⟩
theorem KG.run {α : Type} {n : Nat} {ans : Nat → Nat → Bool} {cmp : Nat → Nat → (Bool → Shared → Prop) → Shared → Prop} {Inv : Shared → Prop} (hc : ∀ i j C s, i < n → j < n → Inv s → (∀ s', Inv s' → C (ans i j) s') → cmp i j C s) : ∀ {t : KasT α} {R : α → Prop} {Q : α → Shared → Prop} {s : Shared}, KG n ans t R → Inv s → (∀ a s', R a → Inv s' → Q a s') → t.kasWp cmp Q s
  | .ret a, R, Q, s, h, hi, k => k a s h hi
  | .ask i j t, R, Q, s, h, hi, k => hc i j _ s h.1 h.2.1 hi fun s' hi' => KG.run hc h.2.2 hi' k

section
variable (K : Nat → Int)
/-- ahead in the order: by key, then by place -/
noncomputable def ahead (i j : Nat) : Prop := K i < K j ∨ (K i = K j ∧ i < j)
noncomputable def ansK (i j : Nat) : Bool := decide (K i < K j)
variable {K}
noncomputable abbrev at_ (p : Array Nat) (i : Nat) : Nat := p.getD i 0
structure PO (n : Nat) (p : Array Nat) : Prop where
  size : p.size = n
  perm : p.toList.Perm (List.range n)
theorem PO.lt {n : Nat} {p : Array Nat} (h : PO n p) {i : Nat} (hi : i < n) : at_ p i < n := by
  have hi' : i < p.size := by rw [h.size]; exact hi
  have e : at_ p i = p.toList[i]'(by simpa using hi') := by simp [at_, Array.getD, hi']
  have : at_ p i ∈ p.toList := by rw [e]; exact List.getElem_mem _
  exact List.mem_range.mp (h.perm.mem_iff.mp this)
theorem at_of {p : Array Nat} {i : Nat} : at_ p i = (p[i]?).getD 0 := by simp [at_]
theorem at_rev {n : Nat} {p : Array Nat} (h : PO n p) {i j : Nat} (hj : j ≤ n) (k : Nat) : at_ (kas_rev p i j) k = if i ≤ k ∧ k < j then at_ p (i + j - 1 - k) else at_ p k := by
  rw [at_of]
  show ((mirror p i j ((j - i) / 2))[k]?).getD 0 = _
  rw [getElem?_mirror_all (by rw [h.size]; exact hj)]
  split <;> rw [at_of]
theorem at_bub {n : Nat} {p : Array Nat} (h : PO n p) {k l : Nat} (hk : k < n) (hl : l ≤ k) (t : Nat) : at_ (bubble p k (k - l)) t = if t = l then at_ p k else if l < t ∧ t ≤ k then at_ p (t - 1) else at_ p t := by
  have e : k - (k - l) = l := by exact Om.q4 ‹_›
  rw [at_of, getElem?_bubble (by rw [h.size]; exact hk) (k - l) (by exact Nat.sub_le _ _), e]
  repeat' split
  all_goals rw [at_of]
theorem PO.rev {n : Nat} {p : Array Nat} (h : PO n p) (i j : Nat) : PO n (kas_rev p i j) :=
  ⟨(mirror_size _ _ _ _).trans h.size, ((mirror_perm p i j _).toList).trans h.perm⟩
theorem PO.bub {n : Nat} {p : Array Nat} (h : PO n p) (i j : Nat) : PO n (bubble p i j) :=
  ⟨(bubble_size _ _ _).trans h.size, ((bubble_perm p i j).toList).trans h.perm⟩
theorem PO.start (n : Nat) : PO n (List.toArray (List.range n)) := ⟨by simp, by simp⟩
theorem at_start {n i : Nat} (h : i < n) : at_ (List.toArray (List.range n)) i = i := by simp [at_, Array.getD, h]
/-- behind a nothing was moved -/
structure Tl (p : Array Nat) (a n : Nat) : Prop where
  same : ∀ t, a ≤ t → t < n → at_ p t = t
  low : ∀ t, t < a → at_ p t < a
theorem Tl.succ {p : Array Nat} {a n : Nat} (h : Tl p a n) (ha : a < n) : Tl p (a + 1) n := by
  refine ⟨fun t h1 h2 => h.same t (by exact Nat.le_of_lt ‹_›) h2, fun t ht => ?_⟩
  by_cases e : t = a
  · have := h.same a (Nat.le_refl _) ha; rw [e, this]; exact Nat.le_refl _
  · have := h.low t (by exact Om.ne_lt ‹_› ‹_›); exact Nat.lt_succ_of_lt ‹_›
theorem Tl.up {p : Array Nat} {a b n : Nat} (h : Tl p a n) (hab : a ≤ b) (hb : b ≤ n) : Tl p b n := by
  induction hab with
  | refl => exact h
  | step hm ih => exact (ih (by exact Nat.le_of_lt ‹_›)).succ (by assumption)
variable (K) in
noncomputable def Srt (p : Array Nat) (k : Nat) : Prop := ∀ i j, i < j → j < k → ahead K (at_ p i) (at_ p j)
theorem ahead.trans {i j k : Nat} (h : ahead K i j) (h' : ahead K j k) : ahead K i k := by
  match h, h' with
  | .inl a, .inl b => exact .inl (Int.lt_trans a b)
  | .inl a, .inr b => exact .inl (b.1 ▸ a)
  | .inr a, .inl b => exact .inl (a.1.symm ▸ b)
  | .inr a, .inr b => exact .inr ⟨a.1.trans b.1, Nat.lt_trans a.2 b.2⟩
theorem ahead.le {i j : Nat} (h : ahead K i j) : K i ≤ K j := h.elim Int.le_of_lt fun q => Int.le_of_eq q.1
theorem ahead_le {i j : Nat} (h : K i ≤ K j) (hl : i < j) : ahead K i j := (Int.lt_or_eq_of_le h).imp id fun e => ⟨e, hl⟩
theorem ahead_ge {i j : Nat} (h : ¬ K i < K j) (hl : j < i) : ahead K j i := ahead_le (Int.not_lt.mp h) hl
/-- places in a run turned round -/
theorem tr1 {b n j : Nat} (hj : j < n) : b ≤ b + n - 1 - j := by
  rw [Nat.sub_sub, Nat.add_sub_assoc (by rw [Nat.add_comm]; exact hj)]; exact Nat.le_add_right _ _
theorem tr2 {b n j : Nat} (hb : b ≤ j) (hj : j < n) : b + n - 1 - j < n := by
  rw [Nat.sub_sub, Nat.sub_lt_iff_lt_add (by rw [Nat.add_comm 1]; exact Nat.le_trans hj (Nat.le_add_left _ _))]
  exact Nat.lt_of_lt_of_le (Nat.add_lt_add_right (Nat.lt_succ_of_le hb) n) (by rw [Nat.add_comm n, Nat.add_comm 1]; exact Nat.le_refl _)
theorem tr3 {b n i j : Nat} (hij : i < j) (hj : j < n) : b + n - 1 - j < b + n - 1 - i :=
  Nat.sub_lt_sub_left (Nat.lt_of_lt_of_le hij (Nat.le_trans (Nat.le_sub_one_of_lt hj) (Nat.sub_le_sub_right (Nat.le_add_left n b) 1))) hij
theorem tr0 {n : Nat} (h : 1 ≤ n) : n - 1 < n := Nat.sub_lt h Nat.one_pos
theorem kg_asc {n : Nat} {p : Array Nat} (hp : PO n p) : ∀ (f a : Nat), 1 ≤ a → a + f ≤ n → Tl p a n → Srt K p a →
    KG n (ansK K) (kas_asc p f a) fun m => Srt K p m ∧ a ≤ m ∧ m ≤ a + f ∧ (m < a + f → K (at_ p m) < K (at_ p (m - 1)))
  | 0, a, h1, ha, ht, hs => ⟨hs, Nat.le_refl _, by exact Nat.le_refl _, fun h => absurd h (Nat.lt_irrefl _)⟩
  | f + 1, a, h1, ha, ht, hs => by
    refine ⟨hp.lt (by exact Om.sf2 ‹_›), hp.lt (by exact Om.p2 ‹_› ‹_›), ?_⟩
    show KG n (ansK K) (if ansK K (at_ p a) (at_ p (a - 1)) = true then KasT.ret a else kas_asc p f (a + 1)) _
    by_cases hc : K (at_ p a) < K (at_ p (a - 1))
    · rw [if_pos (by simpa [ansK] using hc)]
      exact ⟨hs, Nat.le_refl _, by exact Nat.le_add_right _ _, fun _ => hc⟩
    · rw [if_neg (by simpa [ansK] using hc)]
      have e := ht.same a (Nat.le_refl _) (by exact Om.sf2 ‹_›)
      have e' := ht.low (a - 1) (by exact Nat.sub_lt ‹_› (by decide))
      have h0 : ahead K (at_ p (a - 1)) (at_ p a) := ahead_ge hc (by rw [e]; exact e')
      refine (kg_asc hp f (a + 1) (by exact Nat.succ_pos _) (by exact Om.sf1 ‹_›) (ht.succ (by exact Om.sf2 ‹_›)) fun i j hij hj => ?_).mono fun m h => ⟨h.1, by exact Nat.le_of_succ_le (And.left (And.right ‹_›)), by exact Om.sf6 (And.left (And.right (And.right ‹_›))), fun q => h.2.2.2 (Nat.lt_of_lt_of_le q (Nat.le_of_eq (Nat.add_right_comm a f 1)))⟩
      by_cases ej : j = a
      · subst ej
        by_cases ei : i = j - 1
        · subst ei; exact h0
        · exact (hs i (j - 1) (by exact Om.p7 ‹_› ‹_›) (by exact Nat.sub_lt ‹_› (by decide))).trans h0
      · exact hs i j hij (by exact Om.ne_lt ‹_› ‹_›)

/-- where the loop over a falling run stands -/
structure DI (K : Nat → Int) (N : Nat) (p : Array Nat) (n q : Nat) : Prop where
  po : PO N p
  tl : Tl p n N
  qn : q + 1 ≤ n
  nN : n ≤ N
  a1 : ∀ i j, i < j → j < n - (q + 1) → ahead K (at_ p j) (at_ p i)
  a2 : ∀ i j, i < n - (q + 1) → n - (q + 1) ≤ j → j < n → K (at_ p j) < K (at_ p i)
  a3 : ∀ i j, n - (q + 1) ≤ i → i < j → j < n → K (at_ p i) = K (at_ p j) ∧ at_ p i < at_ p j
/-- a run that falls all along -/
structure Fa (K : Nat → Int) (N : Nat) (p : Array Nat) (n : Nat) : Prop where
  po : PO N p
  tl : Tl p n N
  nN : n ≤ N
  a : ∀ i j, i < j → j < n → ahead K (at_ p j) (at_ p i)
theorem tl_rev {N : Nat} {p : Array Nat} {n i : Nat} (hp : PO N p) (h : Tl p n N) (hn : n ≤ N) : Tl (kas_rev p i n) n N := by
  refine ⟨fun t h1 h2 => ?_, fun t ht => ?_⟩
  · rw [at_rev hp hn, if_neg (by exact Om.r4 ‹_›)]; exact h.same t h1 h2
  · rw [at_rev hp hn]
    split
    · next q => exact h.low _ (tr2 q.1 q.2)
    · exact h.low _ ht
theorem DI.turn {N : Nat} {p : Array Nat} {n q : Nat} (h : DI K N p n q) : Fa K N (kas_rev p (n - (q + 1)) n) n := by
  refine ⟨h.po.rev _ _, tl_rev h.po h.tl h.nN, h.nN, fun i j hij hj => ?_⟩
  have := h.qn
  rw [at_rev h.po h.nN, at_rev h.po h.nN]
  by_cases hi : n - (q + 1) ≤ i
  · rw [if_pos ⟨by exact Nat.le_trans ‹_› (Nat.le_of_lt ‹_›), by assumption⟩, if_pos ⟨hi, by exact Nat.lt_trans ‹_› ‹_›⟩]
    have := h.a3 (n - (q + 1) + n - 1 - j) (n - (q + 1) + n - 1 - i) (tr1 hj) (tr3 hij hj) (tr2 hi (Nat.lt_trans hij hj))
    exact .inr this
  · rw [if_neg (c := n - (q + 1) ≤ i ∧ i < n) (by exact Om.r5 ‹_›)]
    split
    · next q => exact .inl (h.a2 i _ (by exact Nat.lt_of_not_le ‹_›) (tr1 hj) (tr2 q.1 hj))
    · next q => exact h.a1 i j hij (Nat.lt_of_not_le fun z => q ⟨z, hj⟩)
theorem DI.plain {N : Nat} {p : Array Nat} {n : Nat} (h : DI K N p n 0) : Fa K N p n := by
  refine ⟨h.po, h.tl, h.nN, fun i j hij hj => ?_⟩
  by_cases e : j < n - 1
  · exact h.a1 i j hij (by assumption)
  · exact .inl (h.a2 i j (Nat.lt_of_lt_of_le hij (Nat.le_sub_one_of_lt hj)) (by exact Nat.le_of_not_lt ‹_›) hj)
theorem Fa.next {N : Nat} {p : Array Nat} {n : Nat} (h : Fa K N p n) (hn : n < N) (hlt : ∀ i, i < n → K (at_ p n) < K (at_ p i)) : DI K N p (n + 1) 0 := by
  refine ⟨h.po, h.tl.succ hn, by exact Nat.succ_pos _, hn, fun i j hij hj => h.a i j hij (by assumption), fun i j hi hj hj' => ?_, fun i j hi hij hj => absurd (Nat.lt_of_le_of_lt hi hij) (Nat.not_lt.mpr (Nat.le_of_lt_succ hj))⟩
  have e : j = n := Nat.le_antisymm (Nat.le_of_lt_succ hj') hj
  subst e; exact hlt i (by assumption)
theorem kg_desc {N : Nat} : ∀ (f n q : Nat) (p : Array Nat), n + f ≤ N → DI K N p n q → KG N (ansK K) (kas_desc f p n q) fun r => DI K N r.1 r.2.1 r.2.2 ∧ n ≤ r.2.1 ∧ r.2.1 ≤ n + f
  | 0, n, q, p, hf, h => ⟨h, Nat.le_refl _, by show n ≤ n + 0; exact Nat.le_refl _⟩
  | f + 1, n, q, p, hf, h => by
    have hq := h.qn
    have low : ∀ i, i < n → K (at_ p (n - 1)) ≤ K (at_ p i) := fun i hi => by
      by_cases hb : i < n - (q + 1)
      · have := h.a2 i (n - 1) hb (by exact Om.q1) (by exact Om.p1 ‹_›); exact Int.le_of_lt ‹_›
      · by_cases e : i = n - 1
        · subst e; exact Int.le_refl _
        · have := h.a3 i (n - 1) (by exact Nat.le_of_not_lt ‹_›) (by exact Om.p7 ‹_› ‹_›) (by exact Om.p1 ‹_›); exact Int.le_of_eq (Eq.symm (And.left ‹_›))
    refine ⟨h.po.lt (by exact Om.sf2 ‹_›), h.po.lt (by exact Om.p2 ‹_› ‹_›), ?_⟩
    show KG N (ansK K) (if ansK K (at_ p n) (at_ p (n - 1)) = true then _ else _) _
    by_cases hc : K (at_ p n) < K (at_ p (n - 1))
    · rw [if_pos (by simpa [ansK] using hc)]
      by_cases hq0 : q > 0
      · rw [if_pos hq0]
        refine (kg_desc f (n + 1) 0 _ (by exact Om.sf1 ‹_›) (h.turn.next (by exact Om.sf2 ‹_›) fun i hi => ?_)).mono fun r hr => ⟨hr.1, by exact Nat.le_of_succ_le (And.left (And.right ‹_›)), by exact Om.sf6 (And.right (And.right ‹_›))⟩
        rw [at_rev h.po h.nN, at_rev h.po h.nN, if_neg (fun z => Nat.lt_irrefl _ z.2)]
        split
        · next z => have := low (n - (q + 1) + n - 1 - i) (tr2 z.1 z.2); exact Int.lt_of_lt_of_le ‹_› ‹_›
        · have := low i hi; exact Int.lt_of_lt_of_le ‹_› ‹_›
      · rw [if_neg hq0]
        have e : q = 0 := by exact Om.n0 ‹_›
        subst e
        exact (kg_desc f (n + 1) 0 _ (by exact Om.sf1 ‹_›) (h.plain.next (by exact Om.sf2 ‹_›) fun i hi => by have := low i hi; exact Int.lt_of_lt_of_le ‹_› ‹_›)).mono fun r hr => ⟨hr.1, by exact Nat.le_of_succ_le (And.left (And.right ‹_›)), by exact Om.sf6 (And.right (And.right ‹_›))⟩
    · rw [if_neg (by simpa [ansK] using hc)]
      refine ⟨h.po.lt (by exact Om.p2 ‹_› ‹_›), h.po.lt (by exact Om.sf2 ‹_›), ?_⟩
      show KG N (ansK K) (if ansK K (at_ p (n - 1)) (at_ p n) = true then _ else _) _
      by_cases hd : K (at_ p (n - 1)) < K (at_ p n)
      · rw [if_pos (by simpa [ansK] using hd)]
        exact ⟨h, Nat.le_refl _, by show n ≤ n + (f + 1); exact Nat.le_add_right _ _⟩
      · rw [if_neg (by simpa [ansK] using hd)]
        have hn := h.tl.same n (Nat.le_refl _) (by exact Om.sf2 ‹_›)
        have e : n + 1 - (q + 1 + 1) = n - (q + 1) := Nat.succ_sub_succ _ _
        refine (kg_desc f (n + 1) (q + 1) _ (by exact Om.sf1 ‹_›) ⟨h.po, h.tl.succ (by exact Om.sf2 ‹_›), by exact Nat.lt_succ_of_le ‹_›, by exact Om.sf2 ‹_›, fun i j hij hj => h.a1 i j hij (by exact Nat.lt_of_lt_of_le ‹_› (Nat.le_of_eq ‹_›)), fun i j hi hj hj' => ?_, fun i j hi hij hj => ?_⟩).mono fun r hr => ⟨hr.1, by exact Nat.le_of_succ_le (And.left (And.right ‹_›)), by exact Om.sf6 (And.right (And.right ‹_›))⟩
        · by_cases ej : j = n
          · subst ej
            have := h.a2 i (j - 1) (by exact Nat.lt_of_lt_of_le ‹_› (Nat.le_of_eq ‹_›)) (by exact Om.q1) (by exact Om.p1 ‹_›); exact Int.lt_of_le_of_lt (Int.not_lt.mp hd) this
          · exact h.a2 i j (by exact Nat.lt_of_lt_of_le ‹_› (Nat.le_of_eq ‹_›)) (e ▸ hj) (by exact Om.ne_lt ‹_› ‹_›)
        · by_cases ej : j = n
          · subst ej
            have hl := h.tl.low i (by assumption)
            refine ⟨?_, by exact Nat.lt_of_lt_of_le ‹_› (Nat.le_of_eq (Eq.symm ‹_›))⟩
            by_cases ei : i = j - 1
            · subst ei; exact Int.le_antisymm (Int.not_lt.mp hc) (Int.not_lt.mp hd)
            · have := h.a3 i (j - 1) (e ▸ hi) (by exact Om.p7 ‹_› ‹_›) (by exact Om.p1 ‹_›); exact this.1.trans (Int.le_antisymm (Int.not_lt.mp hc) (Int.not_lt.mp hd))
          · exact h.a3 i j (e ▸ hi) hij (by exact Om.ne_lt ‹_› ‹_›)
theorem Fa.srt {N : Nat} {p : Array Nat} {n : Nat} (h : Fa K N p n) : Srt K (kas_rev p 0 n) n := fun i j hij hj => by
  rw [at_rev h.po h.nN, at_rev h.po h.nN, if_pos ⟨by exact Nat.zero_le _, by exact Nat.lt_trans ‹_› ‹_›⟩, if_pos ⟨by exact Nat.zero_le _, by assumption⟩]
  exact h.a _ _ (tr3 hij hj) (tr2 (Nat.zero_le _) (Nat.lt_trans hij hj))
/-- the first run -/
noncomputable def Cnt (K : Nat → Int) (N : Nat) (r : Nat × Array Nat) : Prop := PO N r.2 ∧ Tl r.2 r.1 N ∧ Srt K r.2 r.1 ∧ 1 ≤ r.1 ∧ r.1 ≤ N
theorem kg_tail3 {N n : Nat} {p : Array Nat} (h : Fa K N p n) (h1 : 1 ≤ n) : KG N (ansK K) (kas_tail3 n N p) (Cnt K N) := by
  have hp := h.po.rev 0 n
  have ht := tl_rev (i := 0) h.po h.tl h.nN
  have hN := h.nN
  refine KG.bind ((kg_asc hp (N - n) n h1 (by exact Om.q2 ‹_›) ht h.srt).mono fun m hm => ?_)
  exact ⟨hp, ht.up hm.2.1 (Om.q5 hN hm.2.2.1), hm.1, Nat.le_trans h1 hm.2.1, Om.q5 hN hm.2.2.1⟩
theorem kg_descPart {N n : Nat} {p : Array Nat} (h : Fa K N p n) (hn : n < N) (hlt : ∀ i, i < n → K (at_ p n) < K (at_ p i)) : KG N (ansK K) (kas_descPart n N p) (Cnt K N) := by
  refine KG.bind ((kg_desc (N - (n + 1)) (n + 1) 0 p (by exact Om.q2 ‹_›) (h.next hn hlt)).mono fun r hr => ?_)
  obtain ⟨p', n', q'⟩ := r
  obtain ⟨hr, h1, h2⟩ := hr
  simp only at hr h1 h2 ⊢
  by_cases hq : q' > 0
  · rw [if_pos hq]; exact kg_tail3 hr.turn (by exact Nat.lt_of_le_of_lt (Nat.le_add_left _ _) ‹_›)
  · rw [if_neg hq]
    have e : q' = 0 := by exact Om.n0 ‹_›
    subst e; exact kg_tail3 hr.plain (by exact Nat.lt_of_le_of_lt (Nat.le_add_left _ _) ‹_›)
theorem kg_count {N : Nat} (hN : 1 ≤ N) : KG N (ansK K) (kas_count N (List.toArray (List.range N))) (Cnt K N) := by
  have hp := PO.start N
  have tl0 : Tl (List.toArray (List.range N)) 1 N := ⟨fun t h1 h2 => at_start h2, fun t ht => by rw [at_start (by exact Nat.lt_of_lt_of_le ‹_› ‹_›)]; exact ht⟩
  have ss : ∀ {t : Nat}, t < N → at_ (List.toArray (List.range N)) t = t := fun h => at_start h
  refine KG.bind ((kg_asc (K := K) hp (N - 1) 1 (Nat.le_refl _) (by exact Om.q2 ‹_›) tl0 fun i j h1 h2 => Om.rg h1 h2).mono fun n h => ?_)
  obtain ⟨hs, h1, h2, h3⟩ := h
  show KG N (ansK K) (if (n == N) = true then _ else _) _
  by_cases e : n = N
  · rw [if_pos (by simpa using e)]
    exact ⟨hp, tl0.up h1 (by show n ≤ N; exact Nat.le_of_eq ‹_›), hs, h1, by show n ≤ N; exact Nat.le_of_eq ‹_›⟩
  · rw [if_neg (by simpa using e)]
    have hlt := h3 (by rw [Om.q3 hN]; exact Nat.lt_of_le_of_ne (Om.q5 hN h2) e)
    by_cases hn : n > 1
    · rw [if_pos hn]
      refine ⟨hp.lt (by assumption), hp.lt (Om.p3 h1 (Om.q5 hN h2)), ?_⟩
      show KG N (ansK K) (if ansK K (at_ (List.toArray (List.range N)) 0) (at_ (List.toArray (List.range N)) (n - 1)) = true then _ else _) _
      by_cases hc : K (at_ (List.toArray (List.range N)) 0) < K (at_ (List.toArray (List.range N)) (n - 1))
      · rw [if_pos (by simpa [ansK] using hc)]
        exact ⟨hp, tl0.up h1 (by show n ≤ N; exact Om.q5 ‹_› ‹_›), hs, h1, by show n ≤ N; exact Om.q5 ‹_› ‹_›⟩
      · rw [if_neg (by simpa [ansK] using hc)]
        have heq : ∀ i, i < n → K (at_ (List.toArray (List.range N)) i) = K (at_ (List.toArray (List.range N)) (n - 1)) := fun i hi => by
          have q1 : K (at_ (List.toArray (List.range N)) 0) ≤ K (at_ (List.toArray (List.range N)) i) := by
            by_cases z : i = 0
            · subst z; exact Int.le_refl _
            · have := hs 0 i (by exact Nat.pos_of_ne_zero ‹_›) hi; exact this.le
          have q2 : K (at_ (List.toArray (List.range N)) i) ≤ K (at_ (List.toArray (List.range N)) (n - 1)) := by
            by_cases z : i = n - 1
            · subst z; exact Int.le_refl _
            · have := hs i (n - 1) (by exact Om.p7 ‹_› ‹_›) (by exact Nat.sub_lt ‹_› (by decide)); exact this.le
          exact Int.le_antisymm q2 (Int.le_trans (Int.not_lt.mp hc) q1)
        have tln := tl0.up h1 (by show n ≤ N; exact Om.q5 ‹_› ‹_›)
        refine kg_descPart ⟨hp.rev _ _, tl_rev hp tln (by exact Om.q5 ‹_› ‹_›), by exact Om.q5 ‹_› ‹_›, fun i j hij hj => ?_⟩ (Nat.lt_of_le_of_ne (Om.q5 hN h2) e) fun i hi => ?_
        · rw [at_rev hp (by exact Om.q5 ‹_› ‹_›), at_rev hp (by exact Om.q5 ‹_› ‹_›), if_pos ⟨by exact Nat.zero_le _, by assumption⟩, if_pos ⟨by exact Nat.zero_le _, by exact Nat.lt_trans ‹_› ‹_›⟩]
          have z1 := tr2 (b := 0) (Nat.zero_le _) hj
          have z2 := tr2 (b := 0) (Nat.zero_le _) (Nat.lt_trans hij hj)
          refine .inr ⟨(heq _ z1).trans (heq _ z2).symm, ?_⟩
          rw [ss (Nat.lt_of_lt_of_le z1 (Om.q5 hN h2)), ss (Nat.lt_of_lt_of_le z2 (Om.q5 hN h2))]; exact tr3 hij hj
        · rw [at_rev hp (by exact Om.q5 ‹_› ‹_›), at_rev hp (by exact Om.q5 ‹_› ‹_›), if_neg (fun z => Nat.lt_irrefl _ z.2), if_pos ⟨by exact Nat.zero_le _, by assumption⟩, heq (0 + n - 1 - i) (tr2 (Nat.zero_le _) hi)]
          exact hlt
    · rw [if_neg hn]
      have e1 : n = 1 := by exact Om.ra ‹_› ‹_›
      subst e1
      refine kg_descPart ⟨hp, tl0, by assumption, fun i j hij hj => Om.rg hij hj⟩ (by exact Om.ne_lt' ‹_› ‹_›) fun i hi => ?_
      have e0 : i = 0 := by exact Om.rb ‹_›
      subst e0
      exact hlt
theorem kg_place {N k : Nat} {p : Array Nat} (hp : PO N p) (hk : k < N) (hs : Srt K p k) : ∀ (f l r : Nat), r - l ≤ f → l ≤ r → r ≤ k → (∀ t, t < l → K (at_ p t) ≤ K (at_ p k)) → (∀ t, r ≤ t → t < k → K (at_ p k) < K (at_ p t)) →
    KG N (ansK K) (kas_place p k f l r) fun l => l ≤ k ∧ (∀ t, t < l → K (at_ p t) ≤ K (at_ p k)) ∧ (∀ t, l ≤ t → t < k → K (at_ p k) < K (at_ p t))
  | 0, l, r, hf, hlr, hr, h1, h2 => by
    have e : l = r := by exact Om.re ‹_› ‹_›
    subst e
    exact ⟨hr, h1, h2⟩
  | f + 1, l, r, hf, hlr, hr, h1, h2 => by
    unfold kas_place
    by_cases hge : l ≥ r
    · rw [if_pos hge]
      have e : l = r := by exact Om.rd ‹_› ‹_›
      subst e
      exact ⟨hr, h1, h2⟩
    · rw [if_neg hge]
      have hlr' := Nat.not_le.mp hge
      have m1 : (l + r) / 2 < r := (Nat.div_lt_iff_lt_mul (by decide)).mpr (by rw [Nat.mul_two]; exact Nat.add_lt_add_right hlr' r)
      have m2 : l ≤ (l + r) / 2 := (Nat.le_div_iff_mul_le (by decide)).mpr (by rw [Nat.mul_two]; exact Nat.add_le_add_left hlr l)
      refine ⟨hp.lt hk, hp.lt (Nat.lt_trans (Nat.lt_of_lt_of_le m1 hr) hk), ?_⟩
      have mono : ∀ i j, i ≤ j → j < k → K (at_ p i) ≤ K (at_ p j) := fun i j hij hj => by
        by_cases e : i = j
        · subst e; exact Int.le_refl _
        · have := hs i j (by exact Om.ne_lt' ‹_› ‹_›) hj; exact this.le
      show KG N (ansK K) (if ansK K (at_ p k) (at_ p ((l + r) / 2)) = true then _ else _) _
      by_cases hc : K (at_ p k) < K (at_ p ((l + r) / 2))
      · rw [if_pos (by simpa [ansK] using hc)]
        exact kg_place hp hk hs f l ((l + r) / 2) (Nat.le_of_lt_succ (Nat.lt_of_lt_of_le (Nat.sub_lt_sub_right m2 m1) hf)) m2 (Nat.le_trans (Nat.le_of_lt m1) hr) h1 fun t ht hk' => by have := mono ((l + r) / 2) t ht hk'; exact Int.lt_of_lt_of_le ‹_› ‹_›
      · rw [if_neg (by simpa [ansK] using hc)]
        exact kg_place hp hk hs f ((l + r) / 2 + 1) r (Nat.le_of_lt_succ (Nat.lt_of_lt_of_le (Nat.sub_lt_sub_left hlr' (Nat.lt_succ_of_le m2)) hf)) m1 hr (fun t ht => by have := mono t ((l + r) / 2) (by exact Nat.le_of_lt_succ ‹_›) (Nat.lt_of_lt_of_le m1 hr); exact Int.le_trans this (Int.not_lt.mp hc)) h2
theorem kg_bin {N : Nat} : ∀ (f k : Nat) (p : Array Nat), k + f = N → PO N p → Tl p k N → Srt K p k → KG N (ansK K) (kas_bin f p k) fun p => PO N p ∧ Srt K p N
  | 0, k, p, hf, hp, ht, hs => by
    have e : k = N := by assumption
    subst e
    exact ⟨hp, hs⟩
  | f + 1, k, p, hf, hp, ht, hs => by
    refine KG.bind ((kg_place hp (by exact Om.sf5 ‹_›) hs k 0 k (by exact Nat.le_refl _) (by exact Nat.zero_le _) (Nat.le_refl _) (fun t ht => by exact (Nat.not_lt_zero _ ‹_›).elim) fun t h1 h2 => by exact absurd (Nat.lt_of_lt_of_le ‹_› ‹_›) (Nat.lt_irrefl _)).mono fun l hl => ?_)
    obtain ⟨hlk, h1, h2⟩ := hl
    have hkN : k < N := by exact Om.sf5 ‹_›
    have ek := ht.same k (Nat.le_refl _) hkN
    refine kg_bin f (k + 1) _ (by exact Om.sf4 ‹_›) (hp.bub _ _) ⟨fun t q1 q2 => ?_, fun t q => ?_⟩ fun i j hij hj => ?_
    · rw [at_bub hp hkN hlk, if_neg (show ¬ t = l from fun z => Nat.lt_irrefl _ (Nat.lt_of_lt_of_le q1 (z ▸ hlk))), if_neg (show ¬ (l < t ∧ t ≤ k) from fun z => Nat.lt_irrefl _ (Nat.lt_of_lt_of_le q1 z.2))]; exact ht.same t (by exact Nat.le_of_lt ‹_›) q2
    · rw [at_bub hp hkN hlk]
      repeat' split
      · rw [ek]; exact Nat.lt_succ_self k
      · next z1 z => have := ht.low (t - 1) (Nat.lt_of_lt_of_le (tr0 (Nat.lt_of_le_of_lt (Nat.zero_le l) z.1)) z.2); exact Nat.lt_succ_of_lt ‹_›
      · by_cases e : t = k
        · rw [e, ek]; exact Nat.lt_succ_self k
        · have := ht.low t (by exact Om.ne_lt ‹_› ‹_›); exact Nat.lt_succ_of_lt ‹_›
    · rw [at_bub hp hkN hlk, at_bub hp hkN hlk]
      by_cases hi : i = l
      · subst hi
        rw [if_pos rfl, if_neg (by exact Nat.ne_of_gt ‹_›), if_pos ⟨by assumption, by exact Nat.le_of_lt_succ ‹_›⟩]
        exact .inl (h2 (j - 1) (by exact Om.p5 ‹_›) (by exact Om.p4 ‹_› ‹_›))
      · rw [if_neg hi]
        by_cases hil : i < l
        · rw [if_neg (c := l < i ∧ i ≤ k) (by exact Om.r3 ‹_›)]
          by_cases ej : j = l
          · subst ej
            rw [if_pos rfl]
            have q1 := h1 i (by assumption)
            have q2 := ht.low i (by exact Nat.lt_of_lt_of_le ‹_› ‹_›)
            exact ahead_le q1 (by rw [ek]; exact q2)
          · rw [if_neg ej]
            by_cases hlj : l < j
            · rw [if_pos ⟨hlj, by exact Nat.le_of_lt_succ ‹_›⟩]; exact hs i (j - 1) (Nat.lt_of_lt_of_le hil (Nat.le_sub_one_of_lt hlj)) (by exact Om.p4 ‹_› ‹_›)
            · rw [if_neg (by exact Om.r2 ‹_›)]; exact hs i j hij (Nat.lt_of_le_of_ne (Nat.le_of_lt_succ hj) fun z => hlj (Nat.lt_of_le_of_ne (z ▸ hlk) fun y => ej y.symm))
        · rw [if_pos ⟨by exact Om.r6 ‹_› ‹_›, Nat.le_trans (Nat.le_of_lt hij) (Nat.le_of_lt_succ hj)⟩, if_neg (by exact Om.r9 ‹_› ‹_›), if_pos ⟨by exact Om.r8 ‹_› ‹_›, by exact Nat.le_of_lt_succ ‹_›⟩]
          exact hs (i - 1) (j - 1) (Om.p8 (Om.r6 hil hi) hij) (by exact Om.p4 ‹_› ‹_›)
theorem kg_sort {N : Nat} (hN : 1 ≤ N) : KG N (ansK K) (kas_sort N) fun p => PO N p ∧ Srt K p N := by
  refine KG.bind ((kg_count (K := K) hN).mono fun r hr => ?_)
  obtain ⟨hp, ht, hs, h1, h2⟩ := hr
  have e : max r.1 1 = r.1 := by exact Om.mx ‹_›
  rw [e]
  by_cases hlt : r.1 < N
  · rw [if_pos hlt]; exact kg_bin _ _ _ (by exact Om.q3 ‹_›) hp ht hs
  · rw [if_neg hlt]
    have e : r.1 = N := by exact Om.rc ‹_› ‹_›
    exact ⟨hp, e ▸ hs⟩
end
end Mine
end
section
open PySem PySem.W PyProof.Rows
set_option maxRecDepth 10000
set_option linter.unusedVariables false
namespace Mine
/-! pairs in their order -/
noncomputable def plt (p q : Pnt) : Bool := decide (p.1 < q.1) || (decide (p.1 = q.1) && decide (p.2 < q.2))
theorem plt_iff {p q : Pnt} : plt p q = true ↔ p.1 < q.1 ∨ (p.1 = q.1 ∧ p.2 < q.2) := by unfold plt; simp
noncomputable def ple (p q : Pnt) : Prop := plt q p = false
theorem ple_iff {p q : Pnt} : ple p q ↔ p.1 < q.1 ∨ (p.1 = q.1 ∧ p.2 ≤ q.2) := by
  unfold ple
  rw [Bool.eq_false_iff, ne_eq, plt_iff]; omega
noncomputable def pins (p : Pnt) : List Pnt → List Pnt
  | [] => [p]
  | q :: r => if plt q p then q :: pins p r else p :: q :: r
noncomputable def isort : List Pnt → List Pnt
  | [] => []
  | p :: r => pins p (isort r)
theorem pins_perm (p : Pnt) : ∀ l : List Pnt, (pins p l).Perm (p :: l)
  | [] => .refl _
  | q :: r => by
    unfold pins
    split
    · exact ((pins_perm p r).cons q).trans (List.Perm.swap p q r)
    · exact .refl _
theorem isort_perm : ∀ l : List Pnt, (isort l).Perm l
  | [] => .refl _
  | p :: r => (pins_perm p _).trans ((isort_perm r).cons p)
theorem pins_sorted (p : Pnt) : ∀ {l : List Pnt}, l.Pairwise ple → (pins p l).Pairwise ple
  | [], _ => by unfold pins; simp
  | q :: r, h => by
    rw [List.pairwise_cons] at h
    unfold pins
    split
    · rename_i hlt
      rw [List.pairwise_cons]
      refine ⟨fun z hz => ?_, pins_sorted p h.2⟩
      rcases List.mem_cons.mp ((pins_perm p r).mem_iff.mp hz) with rfl | hz
      · rw [plt_iff] at hlt; rw [ple_iff]; omega
      · exact h.1 z hz
    · rename_i hlt
      rw [List.pairwise_cons, List.pairwise_cons]
      have hpq : ple p q := by unfold ple; simpa using hlt
      refine ⟨fun z hz => ?_, h.1, h.2⟩
      rcases List.mem_cons.mp hz with rfl | hz
      · exact hpq
      · have := h.1 z hz
        rw [ple_iff] at *; omega
theorem isort_sorted : ∀ l : List Pnt, (isort l).Pairwise ple
  | [] => .nil
  | p :: r => pins_sorted p (isort_sorted r)
theorem sorted_unique : ∀ {l l' : List Pnt}, l.Perm l' → l.Pairwise ple → l'.Pairwise ple → l = l'
  | [], l', h, _, _ => by rw [List.nil_perm.mp h]
  | p :: l, [], h, _, _ => absurd h.length_eq (by simp)
  | p :: l, q :: l', h, h1, h2 => by
    rw [List.pairwise_cons] at h1 h2
    have e : p = q := by
      have hp : p ∈ q :: l' := h.mem_iff.mp (.head _)
      have hq : q ∈ p :: l := h.mem_iff.mpr (.head _)
      rcases List.mem_cons.mp hp with e | hp
      · exact e
      · rcases List.mem_cons.mp hq with e | hq
        · exact e.symm
        · have a1 := h1.1 q hq
          have a2 := h2.1 p hp
          rw [ple_iff] at a1 a2
          exact Prod.ext (by omega) (by omega)
    subst e
    rw [sorted_unique ((List.perm_cons p).mp h) h1.2 h2.2]
/-- how many are ahead of it -/
noncomputable def cntK (pts : List Pnt) (i : Nat) : Int := (pts.countP fun q => plt q (pts.getD i (0, 0)) : Nat)
theorem countP_lt {p q : Pnt → Bool} : ∀ {l : List Pnt} {x : Pnt}, (∀ z, p z = true → q z = true) → x ∈ l → p x = false → q x = true → l.countP p < l.countP q
  | [], x, _, hx, _, _ => nomatch hx
  | y :: l, x, h, hx, h1, h2 => by
    have mono : ∀ l : List Pnt, l.countP p ≤ l.countP q := fun l => List.countP_mono_left fun z _ => h z
    rw [List.countP_cons, List.countP_cons]
    rcases List.mem_cons.mp hx with rfl | hx
    · have := mono l
      simp [h1, h2]; exact Nat.lt_succ_of_le ‹_›
    · have := countP_lt h hx h1 h2
      by_cases hp : p y = true
      · simp [hp, h y hp]; exact this
      · simp [hp]; exact Nat.le_trans ‹_› (Nat.le_add_right _ _)
theorem cntK_lt {pts : List Pnt} {i j : Nat} (hi : i < pts.length) (hj : j < pts.length) : decide (cntK pts i < cntK pts j) = plt (pts.getD i (0, 0)) (pts.getD j (0, 0)) := by
  unfold cntK
  have hmi : pts.getD i (0, 0) ∈ pts := getD_mem hi
  by_cases h : plt (pts.getD i (0, 0)) (pts.getD j (0, 0)) = true
  · rw [h, decide_eq_true_eq]
    have := countP_lt (p := fun q => plt q (pts.getD i (0, 0))) (q := fun q => plt q (pts.getD j (0, 0))) (l := pts) (x := pts.getD i (0, 0)) (fun z hz => by
      rw [plt_iff] at *; omega) hmi (by rw [Bool.eq_false_iff, ne_eq, plt_iff]; omega) h
    exact Int.ofNat_le.mpr ‹_›
  · have h' : plt (pts.getD i (0, 0)) (pts.getD j (0, 0)) = false := by simpa using h
    rw [h', decide_eq_false_iff_not]
    have : pts.countP (fun q => plt q (pts.getD j (0, 0))) ≤ pts.countP (fun q => plt q (pts.getD i (0, 0))) := List.countP_mono_left fun z _ hz => by
      rw [plt_iff] at *; omega
    omega
theorem map_getD_range {α : Type} (l : List α) (d : α) : (List.range l.length).map (fun i => l.getD i d) = l := by
  apply List.ext_getElem
  · simp
  · intro i h1 h2
    have : i < l.length := by simpa using h1
    simp [List.getD_eq_getElem?_getD, this]
theorem isort_of {pts : List Pnt} {p : Array Nat} (h1 : PO pts.length p) (h2 : Srt (cntK pts) p pts.length) : p.toList.map (fun i => pts.getD i (0, 0)) = isort pts := by
  refine sorted_unique (((h1.perm.map _).trans (by rw [map_getD_range])).trans (isort_perm pts).symm) ?_ (isort_sorted pts)
  rw [List.pairwise_map, List.pairwise_iff_getElem]
  intro i j hi hj hij
  have hi' : i < pts.length := by have := h1.size; simp at hi; omega
  have hj' : j < pts.length := by have := h1.size; simp at hj; exact Nat.lt_of_lt_of_le ‹_› (Nat.le_of_eq ‹_›)
  have ei : p.toList[i] = at_ p i := by
    have : i < p.size := by simpa using hi
    simp [at_, Array.getD, this]
  have ej : p.toList[j] = at_ p j := by
    have : j < p.size := by simpa using hj
    simp [at_, Array.getD, this]
  rw [ei, ej]
  have := h2 i j hij hj'
  have hlt := cntK_lt (h1.lt hj') (h1.lt hi')
  unfold ple
  rw [← hlt, decide_eq_false_iff_not]
  unfold ahead at this
  omega

section
variable {prog : Program} {w : World} {B : Heap} {A : Around} {l : List Env} {own : Owns} {E : Value → Shared → Prop} {s : Shared}
theorem rep_pts {g : Heap} : ∀ {pts : List Pnt} {vs : List Value}, RepAll g (pts.map ePt) vs → ∃ fs, KatTups g vs fs ∧ fs.length = pts.length ∧ ∀ v ∈ fs, ∃ i t, v = .int i t
  | [], vs, h => ⟨[], by rw [repAll_nil.mp h]; trivial, rfl, fun v hv => nomatch hv⟩
  | p :: pts, vs, h => by
    obtain ⟨v, r, rfl, h1, h2⟩ := repAll_cons.mp h
    obtain ⟨fs, t, hl, hf⟩ := rep_pts h2
    obtain ⟨a, us, rfl, ⟨o, ho, hc, n, hd⟩, ra⟩ := rep_tup.mp h1
    obtain ⟨x, r', rfl, q1, q2⟩ := repAll_cons.mp ra
    obtain ⟨tx, rfl⟩ := rep_int.mp q1
    refine ⟨.int p.1 tx :: fs, KatTups.cons ho hc hd rfl t, by simp [hl], fun v hv => ?_⟩
    rcases List.mem_cons.mp hv with rfl | hv
    · exact ⟨_, _, rfl⟩
    · exact hf v hv
theorem katTups_up {g h : Heap} (k : g.StaysIn h) : ∀ {vs fs : List Value}, KatTups g vs fs → KatTups h vs fs
  | [], [], _ => trivial
  | [], _ :: _, t => t.elim
  | _ :: _, [], t => t.elim
  | v :: vs, f :: fs, t => by
    obtain ⟨⟨a, o, xs, n, e, ho, hc, hd, hf⟩, t⟩ := t
    exact ⟨⟨a, o, xs, n, e, k _ _ ho, hc, hd, hf⟩, katTups_up k t⟩
/-- two pairs compared, as the sort does it -/
theorem pair_lt {g : Heap} {p q : Pnt} {u v : Value} {Q : Bool → Shared → Prop} (k : g.StaysIn s.heap) (hp : Rep g (ePt p) u) (hq : Rep g (ePt q) v) (h : Q (plt p q) s) : wpAny (model prog w) A (keyLt' (tuples' true) u v) Q E s := by
  obtain ⟨a, us, rfl, ta, ra⟩ := rep_tup.mp hp
  obtain ⟨b, ws, rfl, tb, rb⟩ := rep_tup.mp hq
  obtain ⟨oa, ha, _, na, da⟩ := stays_isTuple k ta
  obtain ⟨ob, hb, _, nb, db⟩ := stays_isTuple k tb
  obtain ⟨x1, r1, rfl, q1, ra⟩ := repAll_cons.mp ra
  obtain ⟨x2, r2, rfl, q2, ra⟩ := repAll_cons.mp ra
  rw [repAll_nil.mp ra] at da
  obtain ⟨y1, r3, rfl, q3, rb⟩ := repAll_cons.mp rb
  obtain ⟨y2, r4, rfl, q4, rb⟩ := repAll_cons.mp rb
  rw [repAll_nil.mp rb] at db
  obtain ⟨t1, rfl⟩ := rep_int.mp q1
  obtain ⟨t2, rfl⟩ := rep_int.mp q2
  obtain ⟨t3, rfl⟩ := rep_int.mp q3
  obtain ⟨t4, rfl⟩ := rep_int.mp q4
  refine kat_lt ha da hb db ?_
  refine kat_cons (wpAny_eqBool_int ?_)
  by_cases h1 : p.1 = q.1
  · have e : (p.1 == q.1) = true := by simpa using h1
    rw [e]
    refine kat_yes (kat_cons (wpAny_eqBool_int ?_))
    by_cases h2 : p.2 = q.2
    · have e : (p.2 == q.2) = true := by simpa using h2
      rw [e]
      refine kat_yes (kat_nil ?_)
      have : plt p q = false := by rw [Bool.eq_false_iff, ne_eq, plt_iff]; omega
      rw [this] at h
      exact h
    · have e : (p.2 == q.2) = false := by simpa using h2
      rw [e]
      refine kat_no (kat_one _ _ (PyProof.Rows.lt_int ?_))
      have : plt p q = decide (p.2 < q.2) := by
        by_cases z : p.2 < q.2
        · rw [decide_eq_true z, plt_iff]; omega
        · rw [decide_eq_false z, Bool.eq_false_iff, ne_eq, plt_iff]; omega
      rw [this] at h
      exact h
  · have e : (p.1 == q.1) = false := by simpa using h1
    rw [e]
    refine kat_no (oneLt_int ?_)
    have : plt p q = decide (p.1 < q.1) := by
      by_cases z : p.1 < q.1
      · rw [decide_eq_true z, plt_iff]; omega
      · rw [decide_eq_false z, Bool.eq_false_iff, ne_eq, plt_iff]; omega
    rw [this] at h
    exact h
theorem repAll_getD {g : Heap} {pts : List Pnt} {vs : List Value} (h : RepAll g (pts.map ePt) vs) {i : Nat} (hi : i < pts.length) : Rep g (ePt (pts.getD i (0, 0))) (vs.getD i Value.none) := by
  obtain ⟨v, h1, h2⟩ := h.get (k := i) (d := ePt (pts.getD i (0, 0))) (by rw [List.getElem?_map, List.getD_eq_getElem?_getD, List.getElem?_eq_getElem hi]; rfl)
  have e : vs.getD i Value.none = v := by rw [List.getD_eq_getElem?_getD, h1]; rfl
  rw [e]; exact h2
theorem repAll_perm {g : Heap} {pts : List Pnt} {vs : List Value} (h : RepAll g (pts.map ePt) vs) : ∀ {is : List Nat}, (∀ i ∈ is, i < pts.length) → RepAll g ((is.map fun i => pts.getD i (0, 0)).map ePt) (is.map fun i => vs.getD i Value.none)
  | [], _ => .nil
  | i :: is, hi => .cons (repAll_getD h (hi i (.head _))) (repAll_perm h fun j hj => hi j (.tail _ hj))
set_option maxHeartbeats 1000000 in
theorem list_sort_pts {a : Addr} {g : Heap} {pts : List Pnt} {vs : List Value} {n : Nat} {P : PySem.Fin → Shared → Prop} (ho : s.heap.get? a = some (seqObj "list" vs.toArray n)) (k : g.StaysIn s.heap) (hga : g.get? a = none) (r : RepAll g (pts.map ePt) vs) (h64 : pts.length < 64)
    (h : ∀ h' us c, (∀ b o, b ≠ a → s.heap.get? b = some o → h'.get? b = some o) → h'.get? a = some (seqObj "list" (List.toArray us) c) → RepAll g ((isort pts).map ePt) us → P (.done (.ret .none)) { s with heap := h' }) :
    wpAny (model prog w) A (Builtin.«list.sort» ⟨[.ref a], []⟩) P E s := by
  have hlen : vs.length = pts.length := by have := r.length; simpa using this
  rw [list_sort_plain]
  have ha : a < s.heap.objs.size := Heap.lt_size ho
  refine wpAny_bind (listItems_at ho rfl ?_)
  refine wpAny_bind (listUpdate_at ho rfl ?_ (by rw [List.size_toArray, sizeLine_eq]; omega) (Nat.zero_le _))
  obtain ⟨e1, ho1⟩ : ∃ e1, (s.heap.update a (Obj.mapSeq fun _ => #[])).get? a = some (seqObj "list" #[] e1) := ⟨_, get?_update_seq ho (fun _ => #[])⟩
  refine wpAny_bind (seqEpoch_at ho1 rfl ?_)
  refine wpAny_bind (wpAny_newTuple ?_ (by show vs.length ≤ _; rw [sizeLine_eq]; omega))
  refine wpAny_bind (wpAny_newList ?_ (Nat.zero_le _))
  refine wpAny_holding ?_
  generalize hH : ((s.heap.update a (Obj.mapSeq fun _ => #[])).push (seqObj "tuple" vs.toArray 0)).push (seqObj "list" #[] 0) = H
  have keep : ∀ b o, b ≠ a → s.heap.get? b = some o → H.get? b = some o := fun b o hb e => by
    rw [← hH]
    exact Heap.get?_push_of_some _ (Heap.get?_push_of_some _ ((Heap.get?_update_other _ _ (Ne.symm hb)).trans e))
  have ho6 : H.get? a = some (seqObj "list" #[] e1) := by rw [← hH]; exact Heap.get?_push_of_some _ (Heap.get?_push_of_some _ ho1)
  have kH : g.StaysIn H := fun b o e => keep b o (fun z => by rw [z, hga] at e; cases e) (k b o e)
  show wpAny (model prog w) A _ P E { s with heap := H }
  dsimp only
  have fin : ∀ (out : List Value), out.length < 64 → RepAll g ((isort pts).map ePt) out → wpAny (model prog w) A (do
      Builtin.List.listUpdate (.ref a) fun _ => out.toArray
      if (e1 != e1) = true then do rule "list.sort.modified"; raiseError "ValueError" "list modified during sort"
      ret .none) P E { s with heap := H } := fun out hol hr => by
    refine wpAny_bind (listUpdate_at ho6 rfl ?_ (Nat.zero_le _) (by show out.length ≤ _; rw [sizeLine_eq]; exact Om.le_c ‹_› rfl))
    simp only [bne_self_eq_false, Bool.false_eq_true, if_false]
    refine wpAny_pure (h _ out _ (fun b o hb e => (Heap.get?_update_other _ _ (Ne.symm hb)).trans (keep b o hb e)) (get?_update_seq ho6 fun _ => out.toArray) hr)
  by_cases h2 : vs.toArray.size < 2
  · rw [if_pos h2, if_pos h2]
    refine wpAny_bind (wpAny_pure ?_)
    rw [StateT.run_pure]
    refine wpAny_bind (wpAny_pure ?_)
    dsimp only
    refine wpAny_bind (seqEpoch_at ho6 rfl ?_)
    have hz : (arrOf (SortSt.mk' general' (vs.toArray.zip vs.toArray) #[] 7 none)).map (·.2) = vs.toArray := by
      show (vs.toArray.zip vs.toArray).map (·.2) = vs.toArray
      apply Array.toList_inj.mp
      rw [Array.toList_map, Array.toList_zip]
      exact List.map_snd_zip (Nat.le_refl _)
    rw [hz]
    have hs : isort pts = pts := by
      have : pts.length < 2 := by rw [← hlen]; simpa using h2
      match pts, this with
      | [], _ => rfl
      | [p], _ => rfl
      | _ :: _ :: _, h => simp at h; omega
    exact fin vs (by exact Om.lt_c ‹_› rfl) (by rw [hs]; exact r)
  · rw [if_neg h2, if_neg h2]
    have h2' : 2 ≤ vs.length := by simpa using h2
    obtain ⟨fs, tf, hfl, hfi⟩ := rep_pts r
    refine wpAny_bind (kat_kind (T := .type "int") (katTups_up kH tf) (by omega) (fun v hv => ?_) (by rfl) ?_)
    · obtain ⟨i, t, rfl⟩ := hfi v hv
      exact Looks.now
    · have hk : (kas_sort vs.length).kasWp (kas_ask prog w A (tuples' true) vs) (fun p s' => (PO pts.length p ∧ Srt (cntK pts) p pts.length) ∧ s' = { s with heap := H }) { s with heap := H } := by
        rw [hlen]
        refine KG.run (Inv := fun s' => s' = { s with heap := H }) (fun i j C s' hi hj hs hC => ?_) (kg_sort (K := cntK pts) (by omega)) rfl fun p s' hp hs => ⟨hp, hs⟩
        subst hs
        refine pair_lt (g := g) (p := pts.getD i (0, 0)) (q := pts.getD j (0, 0)) kH (repAll_getD r hi) (repAll_getD r hj) ?_
        rw [← cntK_lt hi hj]
        exact hC _ rfl
      refine wpAny_bind (wpAny_mono (kat_run (Q := fun st' s' => ∃ p : Array Nat, p.size = vs.length ∧ arrOf st' = p.map (kas_item (vs.toArray.zip vs.toArray)) ∧ failedOf st' = none ∧ (PO pts.length p ∧ Srt (cntK pts) p pts.length) ∧ s' = { s with heap := H }) rfl h2' (by exact Om.lt_g ‹_› ‹_› rfl) (fun p' st' s' a1 a2 a3 a4 => ⟨p', a1, a2, a3, a4⟩) hk) ?_ fun _ _ e => e)
      rintro ⟨⟨⟩, st'⟩ s' ⟨p, hp, har, hf, ⟨hpo, hsr⟩, rfl⟩
      dsimp only
      refine wpAny_bind (seqEpoch_at ho6 rfl ?_)
      rw [kat_snds rfl har, hf]
      refine fin (p.toList.map fun i => vs.getD i Value.none) (by rw [List.length_map, Array.length_toList, hp]; exact Om.lt_g ‹_› ‹_› rfl) ?_
      rw [← isort_of hpo hsr]
      exact repAll_perm r fun i hi => List.mem_range.mp (hpo.perm.mem_iff.mp hi)
theorem op_sorted (pts : List Pnt) (h64 : pts.length < 64) : Op prog w B A l own (fun vs => call (.builtin "sorted") vs) [ePL pts] (ePL (isort pts)) := fun s g vs Q E S R k => by
  obtain ⟨v, r, rfl, r₁, r'⟩ := repAll_cons.mp R
  rw [repAll_nil.mp r']
  obtain ⟨x, us, rfl, la, ra⟩ := rep_lst.mp r₁
  have L := stays_isList S.gh la.isList
  have hlen : us.length = pts.length := by have := ra.length; simpa using this
  refine Calls.call_function_entry kind_sorted plain_sorted entry_sorted (args_sorted1 _) ?_
  unfold Builtin.«sorted»
  refine wpAny_bind (m := checkCount "sorted" 1 1 _) (wpAny_pure ?_)
  refine wpAny_bind (collect_list L ?_ (by rw [sizeLine_eq]; omega))
  refine wpAny_bind (wpAny_newList ?_ (by rw [sizeLine_eq]; omega))
  have hsz : ((s.heap.push (seqObj "list" #[] 0)).update s.heap.objs.size (Obj.mapSeq (· ++ us.toArray))).objs.size = s.heap.objs.size + 1 := by
    rw [Heap.size_update, size_push']
  generalize hH : (s.heap.push (seqObj "list" #[] 0)).update s.heap.objs.size (Obj.mapSeq (· ++ us.toArray)) = H at hsz ⊢
  have keep : ∀ b o, s.heap.get? b = some o → H.get? b = some o := fun b o q => by
    have hlt : b < s.heap.objs.size := Heap.lt_size q
    rw [← hH]
    exact (Heap.get?_update_other _ _ (Ne.symm (Nat.ne_of_lt hlt))).trans (Heap.get?_push_of_some _ q)
  have hga : g.get? H.objs.size = none := stays_none S.gh (Heap.get?_none_of_le (by rw [hsz]; exact Nat.le_succ _))
  have hsa : s.heap.get? H.objs.size = none := Heap.get?_none_of_le (by rw [hsz]; exact Nat.le_succ _)
  have kH : g.StaysIn (H.push (seqObj "list" us.toArray 0)) := fun b o e => Heap.get?_push_of_some _ (keep b o (S.gh b o e))
  have hoL : (H.push (seqObj "list" us.toArray 0)).get? H.objs.size = some (seqObj "list" us.toArray 0) := Heap.get?_push_size _ rfl
  refine wpAny_bind (wpAny_holding (wpAny_call_entry (s := { s with heap := H.push (seqObj "list" us.toArray 0) }) slot_list_sort ⟨_, hoL, rfl⟩ entry_list_sort (list_sort_pts (g := g) hoL kH hga ra h64 fun h' ws c up e rw' => ⟨_, rfl, ?_⟩) (args_list_sort _)))
  refine wpAny_pure ⟨_, rfl, ?_⟩
  have up' : ∀ b o, s.heap.get? b = some o → h'.get? b = some o := fun b o q => up b o (fun z => by rw [z, hsa] at q; cases q) (Heap.get?_push_of_some _ (keep b o q))
  have G : Grow (l.filterMap (·.frame)) g s.heap g h' := Grow.plain S.gh up'
  obtain ⟨G', R'⟩ := grow_again G hsa hga ⟨c, e⟩ rw'
  exact k _ { s with heap := h' } _ G' ⟨rfl, rfl, rfl⟩ R'
theorem srtC : SrtC prog w B isort := fun pts _ h => op_sorted pts (by exact Om.lt_c ‹_› rfl)
theorem isort_len (l : List Pnt) : (isort l).length = l.length := (isort_perm l).length_eq
end
end Mine
end
section
open PySem PySem.W PyProof.Rows
set_option maxRecDepth 10000
set_option linter.unusedVariables false
namespace Mine
/-! list.sort with a key, over keys of one type that compare by calls -/
noncomputable def Cs (cs : List (Addr × Value)) (g h : Heap) : Prop := ∀ p ∈ cs, h.IsCell p.1 (some p.2) ∧ g.get? p.1 = none
theorem Cs.grow {cs : List (Addr × Value)} {fr : List Addr} {g h g' h' : Heap} (x : Cs cs g h) (G : Grow fr g h g' h') : Cs cs g' h' := fun p hp => ⟨G.ext.isCell (x p hp).1, none_of_new G (isCell_ne (x p hp).1) (x p hp).2⟩
structure SC (B : Heap) (l : List Env) (cs : List (Addr × Value)) (g h : Heap) : Prop where
  sh : Sh B l [] g h
  cs : Cs cs g h
theorem SC.grow {B : Heap} {l : List Env} {cs : List (Addr × Value)} {g h g' h' : Heap} (x : SC B l cs g h) (G : Grow (l.filterMap (·.frame)) g h g' h') : SC B l cs g' h' := ⟨x.sh.grow G, x.cs.grow G⟩
theorem ff_put {h h' base : Heap} : ∀ {l : List Env}, h.FunFrames base l → (∀ b ∈ l.filterMap (·.frame), ∀ o, h.get? b = some o → h'.get? b = some o) → h'.FunFrames base l
  | [], _, _ => trivial
  | env :: rest, hl, k => by
    obtain ⟨hk, ⟨L, o, hf, hn, ho, hd⟩, hr⟩ := hl
    have e : (env :: rest).filterMap (·.frame) = L :: rest.filterMap (·.frame) := by rw [List.filterMap_cons, hf]
    rw [e] at k
    exact ⟨hk, ⟨L, o, hf, hn, k L (.head _) o ho, hd⟩, ff_put hr fun b hb => k b (.tail _ hb)⟩
/-- a list of the sort's own is stored anew: it is none of the frozen ones, no cell, no frame -/
theorem SC.put {B : Heap} {l : List Env} {cs : List (Addr × Value)} {g h h' : Heap} {a : Addr} {xs : Array Value} {n : Nat} (x : SC B l cs g h) (ha : h.get? a = some (seqObj "list" xs n)) (hg : g.get? a = none) (hf : a ∉ l.filterMap (·.frame)) (hs : Heap.SameBut a h h') : SC B l cs g h' := by
  refine ⟨⟨x.sh.bg, fun b o e => (hs.2 b fun q => by rw [q, hg] at e; cases e).trans (x.sh.gh b o e), ff_put x.sh.ff fun b hb o e => (hs.2 b fun q => hf (q ▸ hb)).trans e, fun f hf' => ⟨(x.sh.fg f hf').1, fun p hp => nomatch hp⟩, fun p hp => nomatch hp⟩, fun p hp => ?_⟩
  obtain ⟨⟨o, ho, hd⟩, h2⟩ := x.cs p hp
  refine ⟨⟨o, (hs.2 p.1 fun q => ?_).trans ho, hd⟩, h2⟩
  rw [q, ha] at ho
  cases ho
  cases hd
theorem grow_put {fr : List Addr} {g h g' k k' : Heap} {a : Addr} (G : Grow fr g h g' k) (hb : h.get? a = none) (hg : g'.get? a = none) (hs : Heap.SameBut a k k') : Grow fr g h g' k' :=
  ⟨fun b o e => by
    obtain ⟨sl, h1, h2⟩ := G.ext b o e
    exact ⟨sl, (hs.2 b fun q => by rw [q, hb] at e; cases e).trans h1, h2⟩, G.gg, fun b o e => (hs.2 b fun q => by rw [q, hg] at e; cases e).trans (G.gh b o e), G.new⟩
section
variable {prog : Program} {w : World} {B : Heap} {A : Around} {l : List Env} {cs : List (Addr × Value)} {E : Value → Shared → Prop} {f : Value} {N : Nat} {vs : List Value} {P : Heap → Nat → Value → Prop} {Kf : Nat → Int} {T : Value}
/-- what the sort has to know of the keys -/
structure Keyed (prog : Program) (w : World) (B : Heap) (A : Around) (l : List Env) (cs : List (Addr × Value)) (f : Value) (vs : List Value) (P : Heap → Nat → Value → Prop) (Kf : Nat → Int) (T : Value) : Prop where
  mono : ∀ g g' i k, g.StaysIn g' → P g i k → P g' i k
  make : ∀ i, i < vs.length → ∀ (s : Shared) (g : Heap) (Q E : Value → Shared → Prop), SC B l cs g s.heap → (∀ k s' g', Grow (l.filterMap (·.frame)) g s.heap g' s'.heap → Same s s' → P g' i k → Q k s') → wpAny (model prog w) A (call f [vs.getD i .none]) Q E s
  cmp : ∀ i j, i < vs.length → j < vs.length → ∀ (s : Shared) (g : Heap) (ki kj : Value) (Q : Bool → Shared → Prop) (E : Value → Shared → Prop), SC B l cs g s.heap → P g i ki → P g j kj → (∀ s' g', Grow (l.filterMap (·.frame)) g s.heap g' s'.heap → Same s s' → Q (decide (Kf i < Kf j)) s') →
    wpAny (model prog w) A (keyLt' oneType' ki kj) Q E s
  typ : ∀ g h i k, P g i k → g.StaysIn h → Looks (model prog w) h (typeOf k) T
  t1 : (T != Value.type "tuple") = true
  t2 : (T == T) = true
/-- the keys made so far -/
noncomputable def Made (P : Heap → Nat → Value → Prop) (g : Heap) (ks : List Value) : Prop := ∀ i k, ks[i]? = some k → P g i k
structure At (B : Heap) (l : List Env) (cs : List (Addr × Value)) (a kS : Addr) (e1 : Nat) (hb g₀ : Heap) (s₀ : Shared) (ks : List Value) (e : Nat) (P : Heap → Nat → Value → Prop) (g : Heap) (s : Shared) : Prop where
  sc : SC B l cs g s.heap
  G : Grow (l.filterMap (·.frame)) g₀ hb g s.heap
  same : Same s₀ s
  la : s.heap.get? a = some (seqObj "list" #[] e1)
  ga : g.get? a = none
  lk : s.heap.get? kS = some (seqObj "list" (List.toArray ks) e)
  gk : g.get? kS = none
  made : Made P g ks
theorem At.grow {a kS : Addr} {e1 : Nat} {hb g₀ : Heap} {s₀ : Shared} {ks : List Value} {e : Nat} {g g' : Heap} {s s' : Shared} (x : At B l cs a kS e1 hb g₀ s₀ ks e P g s) (G : Grow (l.filterMap (·.frame)) g s.heap g' s'.heap) (Sm : Same s s') (hm : ∀ g g' i k, g.StaysIn g' → P g i k → P g' i k)
    (fa : a ∉ l.filterMap (·.frame)) (fk : kS ∉ l.filterMap (·.frame)) : At B l cs a kS e1 hb g₀ s₀ ks e P g' s' :=
  ⟨x.sc.grow G, x.G.trans G, x.same.trans Sm, G.ext.keep x.la fa, none_of_new G (by rw [x.la]; exact fun z => nomatch z) x.ga, G.ext.keep x.lk fk, none_of_new G (by rw [x.lk]; exact fun z => nomatch z) x.gk, fun i k e => hm _ _ _ _ G.gg (x.made i k e)⟩
theorem keys_loop {a kS : Addr} {e1 : Nat} {hb g₀ : Heap} {s₀ : Shared} {body : Value → PUnit → Sem (ForInStep PUnit)} {Q : PUnit → Shared → Prop} (D : Keyed prog w B A l cs f vs P Kf T) (h64 : vs.length < 64) (fa : a ∉ l.filterMap (·.frame)) (fk : kS ∉ l.filterMap (·.frame)) (hbk : hb.get? kS = none) (hak : a ≠ kS)
    (hbody : ∀ (x : Value) (s : Shared) (C : Value → Shared → Prop) (R : ForInStep PUnit → Shared → Prop), wpAny (model prog w) A (call f [x]) C (fun _ _ => False) s → (∀ k s', C k s' → wpAny (model prog w) A (Builtin.List.listUpdate (.ref kS) (·.push k)) (fun _ s'' => R (.yield ⟨⟩) s'') E s') → wpAny (model prog w) A (body x ⟨⟩) R E s)
    (hq : ∀ s g ks e, ks.length = vs.length → At B l cs a kS e1 hb g₀ s₀ ks e P g s → Q ⟨⟩ s) : ∀ (r ks : List Value) (e : Nat) (g : Heap) (s : Shared), ks.length + r.length = vs.length → (∀ i, ks.length ≤ i → vs[i]? = r[i - ks.length]?) → At B l cs a kS e1 hb g₀ s₀ ks e P g s →
      wpAny (model prog w) A (forIn r PUnit.unit body) Q E s
  | [], ks, e, g, s, hl, hr, X => by
    rw [List.forIn_nil]
    exact wpAny_pure (hq s g ks e (by simpa using hl) X)
  | x :: r, ks, e, g, s, hl, hr, X => by
    rw [List.length_cons] at hl
    rw [List.forIn_cons]
    have hx : vs.getD ks.length .none = x := by
      rw [List.getD_eq_getElem?_getD, hr _ (Nat.le_refl _), Nat.sub_self]
      rfl
    refine wpAny_bind (hbody x s (fun k s' => ∃ g', At B l cs a kS e1 hb g₀ s₀ ks e P g' s' ∧ P g' ks.length k) _ ?_ ?_)
    · rw [← hx]
      refine D.make ks.length (by exact Om.sf5 ‹_›) s g _ _ X.sc fun k s' g' G Sm hk => ⟨g', X.grow G Sm D.mono fa fk, hk⟩
    · rintro k s' ⟨g', X', hk⟩
      have hs : Heap.SameBut kS s'.heap (s'.heap.update kS (Obj.mapSeq (·.push k))) := Heap.SameBut.update ..
      have ea : (List.toArray ks).push k = List.toArray (ks ++ [k]) := by simp
      obtain ⟨c, hc⟩ : ∃ c, (s'.heap.update kS (Obj.mapSeq (·.push k))).get? kS = some (seqObj "list" (List.toArray (ks ++ [k])) c) := ⟨_, by rw [← ea]; exact get?_update_seq X'.lk (·.push k)⟩
      refine listUpdate_at X'.lk rfl ?_ (by rw [List.size_toArray, sizeLine_eq]; omega) (Nat.le_trans (Nat.le_of_eq (Array.size_push ..)) (by rw [List.size_toArray, sizeLine_eq]; omega))
      show wpAny (model prog w) A (forIn r PUnit.unit body) Q E { s' with heap := s'.heap.update kS (Obj.mapSeq (·.push k)) }
      refine keys_loop D h64 fa fk hbk hak hbody hq r (ks ++ [k]) c g' _ (by rw [List.length_append, List.length_singleton]; exact Om.sf4 ‹_›) (fun i hi => ?_) ⟨X'.sc.put X'.lk X'.gk fk hs, grow_put X'.G hbk X'.gk hs, ⟨X'.same.gens, X'.same.drawn, X'.same.os⟩, (hs.2 a hak).trans X'.la, X'.ga, hc, X'.gk, fun i q hq' => ?_⟩
      · rw [List.length_append, List.length_singleton] at hi
        rw [hr i (by exact Nat.le_of_lt ‹_›), List.length_append, List.length_singleton]
        have : i - ks.length = (i - (ks.length + 1)) + 1 := by omega
        rw [this, List.getElem?_cons_succ]
      · rw [List.getElem?_append] at hq'
        by_cases hi : i < ks.length
        · rw [if_pos hi] at hq'; exact X'.made i q hq'
        · rw [if_neg hi] at hq'
          have : i - ks.length = 0 := by
            cases z : i - ks.length with
            | zero => rfl
            | succ m => rw [z] at hq'; simp at hq'
          rw [this] at hq'
          cases hq'
          have : i = ks.length := by omega
          rw [this]; exact hk
theorem not_frame {l : List Env} {g h : Heap} (S : Sh B l [] g h) {a : Addr} (ha : h.get? a = none) : a ∉ l.filterMap (·.frame) := fun hm => by
  obtain ⟨_, o, ho, _⟩ := S.ff.mem hm
  rw [ha] at ho; cases ho
set_option maxHeartbeats 2000000 in
theorem keyed_tree {a : Addr} {n0 : Nat} {s : Shared} {g hb : Heap} {P' : PySem.Fin → Shared → Prop} (D : Keyed prog w B A l cs f vs P Kf T) (h2 : 2 ≤ vs.length) (h64 : vs.length < 64) (ho : s.heap.get? a = some (seqObj "list" vs.toArray n0))
    (hbs : ∀ b o, hb.get? b = some o → s.heap.get? b = some o) (hba : hb.get? a = none) (S : SC B l cs g hb)
    (h : ∀ s' g' p c, Grow (l.filterMap (·.frame)) g hb g' s'.heap → Same s s' → s'.heap.get? a = some (seqObj "list" (List.toArray (p.toList.map fun i => vs.getD i .none)) c) → g'.get? a = none → PO vs.length p → Srt Kf p vs.length → P' (.done (.ret .none)) s') :
    wpAny (model prog w) A (ksk_tree a f false) P' E s := by
  have hga : g.get? a = none := stays_none S.sh.gh hba
  have fa := not_frame S.sh hba
  unfold ksk_tree
  refine wpAny_bind (listItems_at ho rfl ?_)
  refine wpAny_bind (listUpdate_at ho rfl ?_ (by rw [List.size_toArray, sizeLine_eq]; exact Om.le_c ‹_› rfl) (Nat.zero_le _))
  obtain ⟨e1, ho1⟩ : ∃ e1, (s.heap.update a (Obj.mapSeq fun _ => (#[] : Array Value))).get? a = some (seqObj "list" #[] e1) := ⟨_, get?_update_seq ho fun _ => #[]⟩
  refine wpAny_bind (seqEpoch_at ho1 rfl ?_)
  refine wpAny_bind (wpAny_newTuple ?_ (by show vs.length ≤ _; rw [sizeLine_eq]; exact Om.le_c ‹_› rfl))
  refine wpAny_bind (wpAny_newList ?_ (Nat.zero_le _))
  refine wpAny_holding ?_
  have hkz : ((s.heap.update a (Obj.mapSeq fun _ => (#[] : Array Value))).push (seqObj "tuple" vs.toArray 0)).objs.size = s.heap.objs.size + 1 := by rw [size_push', Heap.size_update]
  generalize hK : ((s.heap.update a (Obj.mapSeq fun _ => (#[] : Array Value))).push (seqObj "tuple" vs.toArray 0)).objs.size = kS at hkz ⊢
  have hHk : (((s.heap.update a (Obj.mapSeq fun _ => (#[] : Array Value))).push (seqObj "tuple" vs.toArray 0)).push (seqObj "list" #[] 0)).get? kS = some (seqObj "list" #[] 0) := by rw [← hK]; exact Heap.get?_push_size _ rfl
  have hH1 : ∀ b o, b ≠ a → s.heap.get? b = some o → (((s.heap.update a (Obj.mapSeq fun _ => (#[] : Array Value))).push (seqObj "tuple" vs.toArray 0)).push (seqObj "list" #[] 0)).get? b = some o := fun b o hb' e =>
    Heap.get?_push_of_some _ (Heap.get?_push_of_some _ ((Heap.get?_update_other _ _ (Ne.symm hb')).trans e))
  have hHa : (((s.heap.update a (Obj.mapSeq fun _ => (#[] : Array Value))).push (seqObj "tuple" vs.toArray 0)).push (seqObj "list" #[] 0)).get? a = some (seqObj "list" #[] e1) := Heap.get?_push_of_some _ (Heap.get?_push_of_some _ ho1)
  generalize (((s.heap.update a (Obj.mapSeq fun _ => (#[] : Array Value))).push (seqObj "tuple" vs.toArray 0)).push (seqObj "list" #[] 0)) = H at hHk hH1 hHa ⊢
  show wpAny (model prog w) A _ P' E { s with heap := H }
  have hsk : s.heap.get? kS = none := Heap.get?_none_of_le (by rw [hkz]; exact Nat.le_succ _)
  have hbk : hb.get? kS = none := by
    cases q : hb.get? kS with
    | none => rfl
    | some o => rw [hbs _ _ q] at hsk; cases hsk
  have hak : a ≠ kS := fun q => by rw [← q, ho] at hsk; cases hsk
  have fk := not_frame S.sh hbk
  have hgk : g.get? kS = none := stays_none S.sh.gh hbk
  have up : ∀ b o, hb.get? b = some o → H.get? b = some o := fun b o e => hH1 b o (fun q => by rw [q, hba] at e; cases e) (hbs b o e)
  have G0 : Grow (l.filterMap (·.frame)) g hb g H := Grow.plain S.sh.gh up
  have X0 : At B l cs a kS e1 hb g s [] 0 P g { s with heap := H } := ⟨S.grow G0, G0, ⟨rfl, rfl, rfl⟩, hHa, hga, hHk, hgk, fun i k e => by simp at e⟩
  unfold ksk_rest
  refine wpAny_bind (wpAny_rule ?_)
  first
    | rw [List.forIn_toArray]
    | (rw [← Array.forIn_toList]; simp only [List.toList_toArray])
    | rw [← Array.forIn_toList]
  refine wpAny_bind (keys_loop (hb := hb) (g₀ := g) (s₀ := s) (e1 := e1) (Q := _) D h64 fa fk hbk hak (fun x s1 C R hc hu => ?_) (fun s1 g1 ks e hlen X => ?_) vs [] 0 g _ (by simp) (fun i _ => by simp) X0)
  · refine wpAny_bind (wpAny_attempt (wpAny_mono hc (fun k s2 hk => ?_) fun _ _ hF => hF.elim))
    try dsimp only
    exact wpAny_bind (wpAny_mono (hu k s2 hk) (fun _ _ hz => wpAny_pure hz) fun _ _ z => z)
  · try dsimp only
    refine wpAny_bind (listItems_at X.lk rfl ?_)
    unfold ksk_end
    try dsimp only
    have hn2 : ¬ vs.toArray.size < 2 := by rw [List.size_toArray]; exact Nat.not_lt.mpr ‹_›
    rw [if_neg (by decide), if_neg hn2, if_neg hn2]
    simp only [Bool.false_eq_true, if_false]
    refine wpAny_bind (kas_kind (T := T) (by exact Nat.lt_of_lt_of_le ‹_› (Nat.le_of_eq (Eq.symm ‹_›))) (fun v hv => ?_) D.t1 D.t2 ?_)
    · obtain ⟨i, hi, rfl⟩ := List.getElem_of_mem hv
      exact D.typ g1 s1.heap i _ (X.made i _ (List.getElem?_eq_getElem hi)) X.sc.sh.gh
    · have hk : (kas_sort vs.length).kasWp (kas_ask prog w A oneType' ks) (fun p s' => (PO vs.length p ∧ Srt Kf p vs.length) ∧ ∃ g', At B l cs a kS e1 hb g s ks e P g' s') s1 := by
        refine KG.run (ans := ansK Kf) (Inv := fun s' => ∃ g', At B l cs a kS e1 hb g s ks e P g' s') (fun i j C s' hi hj hs hC => ?_) (kg_sort (K := Kf) (by exact Nat.le_of_lt ‹_›)) ⟨g1, X⟩ fun p s' hp hs => ⟨hp, hs⟩
        obtain ⟨g', X'⟩ := hs
        have gi : ∀ i, i < vs.length → ks[i]? = some (ks.getD i .none) := fun i hi => by
          have : i < ks.length := by exact Nat.lt_of_lt_of_le ‹_› (Nat.le_of_eq (Eq.symm ‹_›))
          rw [List.getD_eq_getElem?_getD, List.getElem?_eq_getElem this]; rfl
        exact D.cmp i j hi hj s' g' _ _ _ _ X'.sc (X'.made i _ (gi i hi)) (X'.made j _ (gi j hj)) fun s'' g'' G Sm => hC _ ⟨g'', X'.grow G Sm D.mono fa fk⟩
      refine wpAny_bind (wpAny_mono (kat_run (Q := fun st' s' => ∃ p : Array Nat, p.size = vs.length ∧ arrOf st' = p.map (kas_item ((List.toArray ks).zip vs.toArray)) ∧ failedOf st' = none ∧ (PO vs.length p ∧ Srt Kf p vs.length) ∧ ∃ g', At B l cs a kS e1 hb g s ks e P g' s') hlen h2 h64 (fun p' st' s' a1 a2 a3 a4 => ⟨p', a1, a2, a3, a4⟩) hk) ?_ fun _ _ x => x)
      rintro ⟨⟨⟩, st'⟩ s2 ⟨p, hp, har, hf, ⟨hpo, hsr⟩, g2, Y⟩
      try dsimp only
      unfold ksk_tail
      try dsimp only
      rw [kat_snds hlen har]
      have sk := Heap.SameBut.update s2.heap kS (Obj.mapSeq fun _ => (#[] : Array Value))
      refine wpAny_bind (listUpdate_at Y.lk rfl ?_ (by rw [List.size_toArray, sizeLine_eq]; omega) (Nat.zero_le _))
      refine wpAny_bind (wpAny_letGo ?_)
      have la2 : (s2.heap.update kS (Obj.mapSeq fun _ => (#[] : Array Value))).get? a = some (seqObj "list" #[] e1) := (sk.2 a hak).trans Y.la
      refine wpAny_bind (seqEpoch_at la2 rfl ?_)
      have hsz : (List.toArray (p.toList.map fun i => vs.getD i Value.none)).size ≤ sizeLine + 1 := by rw [List.size_toArray, List.length_map, Array.length_toList, hp, sizeLine_eq]; exact Om.le_c ‹_› rfl
      refine wpAny_bind (listUpdate_at la2 rfl ?_ (Nat.zero_le _) hsz)
      rw [hf]
      simp only [bne_self_eq_false, Bool.false_eq_true, if_false]
      have sa := Heap.SameBut.update (s2.heap.update kS (Obj.mapSeq fun _ => (#[] : Array Value))) a (Obj.mapSeq fun _ => List.toArray (p.toList.map fun i => vs.getD i Value.none))
      refine wpAny_pure (h _ g2 p _ (grow_put (grow_put Y.G hbk Y.gk sk) hba Y.ga sa) ⟨Y.same.gens, Y.same.drawn, Y.same.os⟩ (get?_update_seq la2 fun _ => _) Y.ga hpo hsr)
end
end Mine
end
section
open PySem PySem.W PyProof.Rows
set_option maxRecDepth 100000
set_option linter.unusedVariables false
namespace Mine
/-! sorted(range(n), key=..) -/
section
variable {prog : Program} {w : World} {A : Around} {E : Value → Shared → Prop} {s : Shared}
theorem iadd_rng {R : Result → Shared → Prop} {S r : Addr} {t u v : Tok} {n : Nat} (hh : A.handled = none) (hr : IsRange s.heap r 0 n 1 t u v) (hsmall : Builtin.Range.small 0 (n : Int) 1 = true) (hsize : Builtin.Range.rangeSize 0 (n : Int) 1 = n) (hn : n ≤ 1000) (hS : s.heap.get? S = some { cls := .type "list", data := .seq #[] 0 })
    (hR : ∀ h' tk acc' c', (∀ b o, b ≠ S → s.heap.get? b = some o → h'.get? b = some o) → h'.get? S = some { cls := .type "list", dict := none, data := .seq acc' c', slots := #[] } →
      ItemsOf (fun (i : Nat) v => ∃ t, v = .int (0 + (i : Int) * 1) t) acc' n → R (.ok (.ret (.ref S))) { s with heap := h', toks := tk }) : codeAny (model prog w) A (.builtin "list.__iadd__" ⟨[.ref S, .ref r], []⟩) R s := by
  refine codeAny_builtin entry_list_iadd' ?_
  rw [Around.under_plainId PySem.F.plain_list_iadd _]
  exact wpAny_extend_range hh hr hsmall hsize (by omega) S _ 0 hS hR
theorem collect_rng {r : Addr} {t u v : Tok} {n : Nat} {Q : List Value → Shared → Prop} (hh : A.handled = none) (hr : IsRange s.heap r 0 n 1 t u v) (hn : n ≤ 1000)
    (h : ∀ h' tk vs, (∀ b o, s.heap.get? b = some o → h'.get? b = some o) → vs.length = n → (∀ i, i < n → ∃ t, vs.getD i .none = .int (i : Int) t) → Q vs { s with heap := h', toks := tk }) : wpAny (model prog w) A (collect (.ref r)) Q E s := by
  have hsmall : Builtin.Range.small 0 (n : Int) 1 = true := small_to (by omega)
  have hsize : Builtin.Range.rangeSize 0 (n : Int) 1 = n := size_one n
  unfold collect
  refine wpAny_bind (wpAny_runValue (codeAny_builtin entry_proto_collect' ?_))
  rw [Around.under_plainId PySem.F.plain_proto_collect _]
  show wpAny _ _ (do again (.builtin "list.__iadd__" ⟨[← newList [], .ref r], []⟩)) _ _ s
  refine wpAny_bind (wpAny_newList (wpAny_pure ⟨Code.quiet_builtin _ (by decide +kernel), iadd_rng (s := { s with heap := s.heap.push (seqObj "list" #[] 0) }) hh (Heap.get?_push_of_some _ hr) hsmall hsize hn (Heap.get?_push_size _ rfl) fun h' tk acc c hk hS hacc => ?_⟩))
  show wpAny (model prog w) A (do
      let o ← load s.heap.objs.size
      match o.data with
      | .seq xs _ => pure xs.toList
      | _ => unsupported "internal:collect") Q E _
  refine wpAny_bind (wpAny_load hS ?_)
  refine wpAny_pure (h h' tk acc.toList (fun b o e => hk b o (Nat.ne_of_lt (Heap.lt_size e)) (Heap.get?_push_of_some _ e)) (by rw [Array.length_toList]; exact hacc.1) fun i hi => ?_)
  have hi' : i < acc.size := by rw [hacc.1]; exact hi
  obtain ⟨t, e⟩ := hacc.2 i acc[i] (Array.getElem?_eq_getElem hi')
  refine ⟨t, ?_⟩
  rw [List.getD_eq_getElem?_getD, List.getElem?_eq_getElem (by simpa using hi')]
  simp only [Option.getD_some, Array.getElem_toList]
  rw [e]
  simp
set_option maxHeartbeats 1000000 in
theorem sorted_keyed {B : Heap} {l : List Env} {cs : List (Addr × Value)} {g : Heap} {r K : Addr} {t u v : Tok} {n : Nat} {P : Heap → Nat → Value → Prop} {Kf : Nat → Int} {T : Value} {Q : Value → Shared → Prop} (hh : A.handled = none) (hr : IsRange s.heap r 0 n 1 t u v) (hn : 2 ≤ n ∧ n < 64)
    (S : SC B l cs g s.heap) (HD : ∀ vs : List Value, vs.length = n → (∀ i, i < n → ∃ t, vs.getD i .none = .int (i : Int) t) → Keyed prog w B A.in1.in1 l cs (.ref K) vs P Kf T)
    (h : ∀ z s' g' p, Grow (l.filterMap (·.frame)) g s.heap g' s'.heap → Same s s' → PO n p → Srt Kf p n → Rep g' (.lst (p.toList.map fun (i : Nat) => D.int i)) z → Q z s') :
    wpAny (model prog w) A (call (.builtin "sorted") [.ref r] [(Str.ofString "key", .ref K)]) Q E s := by
  refine call_function_entry_kw kind_sorted plain_sorted entry_sorted (ksk_s1 _ _) ?_
  unfold Builtin.«sorted»
  refine wpAny_bind (m := checkCount "sorted" 1 1 _) (wpAny_pure ?_)
  refine wpAny_bind (collect_rng hh hr (by omega) fun h1 tk vs k1 hl hv => ?_)
  refine wpAny_bind (wpAny_newList ?_ (by rw [sizeLine_eq]; omega))
  have hoL : (h1.push (seqObj "list" vs.toArray 0)).get? h1.objs.size = some (seqObj "list" vs.toArray 0) := Heap.get?_push_size _ rfl
  have keep : ∀ b o, s.heap.get? b = some o → (h1.push (seqObj "list" vs.toArray 0)).get? b = some o := fun b o q => Heap.get?_push_of_some _ (k1 b o q)
  have hba : s.heap.get? h1.objs.size = none := by
    cases q : s.heap.get? h1.objs.size with
    | none => rfl
    | some o => exact absurd (Heap.lt_size (k1 _ _ q)) (Nat.lt_irrefl _)
  refine wpAny_bind (wpAny_holding (wpAny_call_entry_kw slot_list_sort ⟨_, hoL, rfl⟩ entry_list_sort ?body (ksk_l1 _ _)))
  case body =>
    show wpAny (model prog w) A.in1.in1 (Builtin.«list.sort» ⟨[.ref h1.objs.size], [(Str.ofString "key", .ref K)]⟩) _ _ { s with heap := h1.push (seqObj "list" vs.toArray 0), toks := tk }
    rw [ksk_t1]
    refine keyed_tree (hb := s.heap) (g := g) (s := { s with heap := h1.push (seqObj "list" vs.toArray 0), toks := tk }) (HD vs hl fun i hi => hv i hi) (by omega) (by omega) hoL keep hba S fun s' g' p c G Sm ha hga hp hs => ?_
    rw [hl] at hp hs
    refine ⟨_, rfl, wpAny_pure ⟨_, rfl, ?_⟩⟩
    have ra : RepAll g' (p.toList.map fun (i : Nat) => D.int i) (p.toList.map fun i => vs.getD i .none) := by
      have : ∀ js : List Nat, (∀ j ∈ js, j < n) → RepAll g' (js.map fun (i : Nat) => D.int i) (js.map fun i => vs.getD i .none) := by
        intro js
        induction js with
        | nil => exact fun _ => .nil
        | cons j js ih =>
          intro hj
          obtain ⟨t, e⟩ := hv j (hj j (.head _))
          exact .cons (by show Rep g' (D.int j) (vs.getD j .none); rw [e]; exact rep_int.mpr ⟨t, rfl⟩) (ih fun i hi => hj i (.tail _ hi))
      exact this _ fun j hj => List.mem_range.mp (hp.perm.mem_iff.mp hj)
    obtain ⟨G', R'⟩ := grow_again G hba hga ⟨c, ha⟩ ra
    exact h _ s' _ p G' ⟨Sm.gens, Sm.drawn, Sm.os⟩ hp hs R'
end
end Mine
end
section
open PySem PySem.W PyProof.Rows
set_option maxRecDepth 10000
set_option linter.unusedVariables false
namespace Mine
/-! functions and lambdas that have names of an outer function, and no cells of their own -/
noncomputable def fActC (fd : FuncData) (fa L : Addr) (A : Around) (l : List Env) : Act :=
  { env := callEnv fd L fa, A := A.deeper (callEnv fd L fa), l := callEnv fd L fa :: l, mc := [] }
structure FnC (B : Heap) (fd : FuncData) (names : List Str) (cs : List (Addr × Value)) : Prop where
  kind : fd.scope.kind = .function
  glob : fd.globals = mainGlobals
  blt : fd.builtins = builtinsNs
  co : fd.scope.isCoroutine = false
  gen : fd.scope.isGenerator = false
  code : B.CodeRec fd.code fd.qualname
  bind : ∀ vs, vs.length = names.length → bindArgs fd ⟨vs, []⟩ = pure (names.zip vs)
  nd : names.Nodup
  locs : ∀ x ∈ names, fd.scope.names.lookup x = some .local
  nocell : ∀ x ∈ fd.scope.names, x.2 ≠ .cell
  clo : ∀ p ∈ fd.closure, ∃ v, (p.2, v) ∈ cs
  cnd : fd.closure.Pairwise fun x y => x.2 ≠ y.2
/-- what the outer names hold -/
noncomputable def Frees (B : Heap) (fd : FuncData) (cs : List (Addr × Value)) (fv : Vars) : Prop := ∀ x d, fv.lookup x = some d → fd.scope.names.lookup x ≠ some .local ∧ ∃ c v, fd.closure.lookup x = some c ∧ (c, v) ∈ cs ∧ Rep B d v
theorem zip_keys : ∀ {names : List Str} {vs : List Value}, names.Nodup → ((names.zip vs).map (·.1)).Nodup
  | [], _, _ => by simp
  | n :: ns, [], _ => by simp
  | n :: ns, v :: vs, h => by
    rw [List.nodup_cons] at h
    rw [List.zip_cons_cons, List.map_cons, List.nodup_cons]
    refine ⟨fun hm => h.1 ?_, zip_keys h.2⟩
    obtain ⟨p, hp, e⟩ := List.mem_map.mp hm
    have := mem_zip_fst hp
    rw [e] at this
    exact this
theorem zip_val {g : Heap} : ∀ {names : List Str} {ds : List D} {vs : List Value}, RepAll g ds vs → ∀ {x : Str} {d : D}, (names.zip ds).lookup x = some d → ∃ v, (x, v) ∈ names.zip vs ∧ Rep g d v
  | [], ds, vs, _, x, d, h => by simp at h
  | n :: ns, [], vs, _, x, d, h => by simp at h
  | n :: ns, e :: ds, vs, r, x, d, h => by
    obtain ⟨v, r', rfl, h1, h2⟩ := repAll_cons.mp r
    rw [List.zip_cons_cons, List.lookup_cons] at h
    rw [List.zip_cons_cons]
    by_cases hx : x = n
    · subst hx
      rw [beq_self_eq_true] at h
      cases h
      exact ⟨v, .head _, h1⟩
    · rw [show (x == n) = false from by rw [beq_eq_false_iff_ne]; exact hx] at h
      obtain ⟨u, q1, q2⟩ := zip_val h2 h
      exact ⟨u, .tail _ q1, q2⟩
theorem grow_back {fr : List Addr} {L : Addr} {g h h₁ g' h' : Heap} (G : Grow (L :: fr) g h₁ g' h') (k : ∀ b o, h.get? b = some o → h₁.get? b = some o) (hL : h.get? L = none) : Grow fr g h g' h' := by
  refine ⟨fun b o e => ?_, G.gg, G.gh, fun b e e' => ?_⟩
  · obtain ⟨sl, e1, q⟩ := G.ext b o (k b o e)
    refine ⟨sl, e1, fun nf => q fun hm => ?_⟩
    rcases List.mem_cons.mp hm with rfl | hm
    · rw [hL] at e; cases e
    · exact nf hm
  · obtain ⟨o, ho⟩ := some_of_ne e
    exact G.new b (ne_of_some (k b o ho)) e'
section
variable {prog : Program} {w : World} {B : Heap} {A : Around} {l : List Env} {n : Nat} {mg mb : Str → Option Value} {cs : List (Addr × Value)}
theorem fActC_ok {fd : FuncData} {fa L : Addr} {names : List Str} (ok : AOk A l (n + 1)) (F : FnC B fd names cs) : (fActC fd fa L A l).Ok n :=
  ⟨F.kind, ok.hand, by show A.frames.map _ = _; rw [ok.frames]; rfl, F.glob, F.blt, by show A.depth + 1 + n < _; have := ok.dep; exact Om.sf1 ‹_›, by show A.units + 3 + 8 * n + 300 < _; have := ok.uni; omega⟩
theorem fnC_sv {fd : FuncData} {fa : Addr} {names : List Str} {ds : List D} {fv : Vars} {s : Shared} {g h₁ : Heap} {vs : List Value} (F : FnC B fd names cs) (Fv : Frees B fd cs fv) (S : SC B l cs g s.heap) (R : RepAll g ds vs)
    (hn : h₁.Ns s.heap.objs.size (fun x => (names.zip vs).reverse.lookup x)) (keep : ∀ b o, s.heap.get? b = some o → h₁.get? b = some o) :
    Sv B (fActC fd fa s.heap.objs.size A l) (names.zip ds ++ fv) [] g h₁ := by
  have hL : s.heap.get? s.heap.objs.size = none := get?_size_none _
  have gh₁ : g.StaysIn h₁ := fun b o e => keep b o (S.sh.gh b o e)
  refine ⟨⟨S.sh.bg, gh₁, ⟨by show fd.scope.kind ≠ .module; rw [F.kind]; decide, ?_, S.sh.ff.of_keeps fun b o e _ => ⟨o, keep b o e, rfl⟩⟩, fun f hf => ⟨?_, fun p hp => nomatch hp⟩, fun p hp => nomatch hp⟩, ⟨_, hn, fun x d hx hk => ?_⟩, fun x d hx hk => ?_, fun p hp => ?_, F.cnd, stays_none S.sh.gh hL, fun b hb => nomatch hb⟩
  · obtain ⟨o', es, ep, e, hd, _⟩ := hn
    exact ⟨s.heap.objs.size, o', rfl, stays_none S.sh.bg (stays_none S.sh.gh hL), e, fun vs q => by rw [hd] at q; cases q⟩
  · have hf : f ∈ s.heap.objs.size :: l.filterMap (·.frame) := hf
    rcases List.mem_cons.mp hf with rfl | hf
    · exact stays_none S.sh.gh hL
    · exact (S.sh.fg f hf).1
  · rw [List.lookup_append] at hx
    cases q : (names.zip ds).lookup x with
    | none =>
      rw [q] at hx
      exact absurd hk (Fv x d hx).1
    | some d' =>
      rw [q] at hx
      cases hx
      obtain ⟨v, h1, h2⟩ := zip_val R q
      refine ⟨v, ?_, h2⟩
      have hnd : (((names.zip vs).reverse).map (·.1)).Nodup := by rw [List.map_reverse]; exact (List.reverse_perm _).nodup_iff.mpr (zip_keys F.nd)
      exact lookup_of_mem hnd (List.mem_reverse.mpr h1)
  · rw [List.lookup_append] at hx
    cases q : (names.zip ds).lookup x with
    | none =>
      rw [q] at hx
      obtain ⟨_, c, v, h1, h2, h3⟩ := Fv x d hx
      obtain ⟨⟨o, ho, hd⟩, _⟩ := S.cs _ h2
      exact ⟨c, v, h1, ⟨o, keep _ _ ho, hd⟩, h3.mono S.sh.bg⟩
    | some d' =>
      have hm : x ∈ names := mem_zip_fst (mem_of_lookup q)
      exact absurd (F.locs x hm) hk
  · obtain ⟨v, hv⟩ := F.clo p hp
    obtain ⟨⟨o, ho, hd⟩, h2⟩ := S.cs _ hv
    exact ⟨⟨_, o, keep _ _ ho, hd⟩, h2⟩
/-- an operation in a state with cells -/
noncomputable def OpS (prog : Program) (w : World) (B : Heap) (A : Around) (l : List Env) (cs : List (Addr × Value)) (t : List Value → Sem Value) (ds : List D) (d : D) : Prop :=
  ∀ (s : Shared) (g : Heap) (vs : List Value) (Q E : Value → Shared → Prop), SC B l cs g s.heap → RepAll g ds vs →
    (∀ v s' g', Grow (l.filterMap (·.frame)) g s.heap g' s'.heap → Same s s' → Rep g' d v → Q v s') → wpAny (model prog w) A (t vs) Q E s
theorem op_lamC {fd : FuncData} {fa : Addr} {o : Obj} {names : List Str} {ds : List D} {d : D} {fv : Vars} {body : Expr} (G : Gl B mg mb) (ok : AOk A l (n + 1)) (ho : B.get? fa = some o) (hdata : o.data = .func fd) (F : FnC B fd names cs) (Fv : Frees B fd cs fv) (hbody : fd.body = .expr body) (hl : ds.length = names.length)
    (hb : ∀ L, Ev prog w B (fActC fd fa L A l) (names.zip ds ++ fv) [] body d) : OpS prog w B A l cs (fun vs => call (.ref fa) vs) ds d := fun s g vs Q E S R k => by
  have up : ∀ b o, B.get? b = some o → s.heap.get? b = some o := fun b o e => S.sh.gh _ _ (S.sh.bg _ _ e)
  have hlen : vs.length = names.length := by rw [R.length, hl]
  refine wpAny_call ?_
  refine kla_callFunE (by have := ok.dep; exact Om.sf2 ‹_›) (up _ _ ho) hdata F.co F.gen hbody (F.code.keeps up) (wpAny_of_eq (F.bind vs hlen) ?_)
  refine wpAny_newFunctionEnv F.nocell (fun x hx => F.locs x.1 (mem_zip_fst hx)) (fun h₁ hn hsb => ?_) F.kind
  have keep : ∀ b o, s.heap.get? b = some o → h₁.get? b = some o := fun b o e => (hsb.2 b (Nat.ne_of_lt (Heap.lt_size e))).trans (Heap.get?_push_of_some _ e)
  refine ⟨(G.nolimit.keeps up).keeps keep, kla_codeExpr ?_⟩
  show wpAny (model prog w) (fActC fd fa s.heap.objs.size A l).A (eval body (fActC fd fa s.heap.objs.size A l).env) _ _ _
  refine hb s.heap.objs.size { s with heap := h₁, toks := s.toks + (names.zip vs).length } g _ _ (fnC_sv F Fv S R hn keep) fun v s' g' G' Sm r => k v s' g' (grow_back G' keep (get?_size_none _)) ⟨Sm.gens, Sm.drawn, Sm.os⟩ r
theorem op_fnC {fd : FuncData} {fa : Addr} {o : Obj} {names : List Str} {ds : List D} {d : D} {fv : Vars} {e : Expr} {pos : Pos} (G : Gl B mg mb) (ok : AOk A l (n + 1)) (ho : B.get? fa = some o) (hdata : o.data = .func fd) (F : FnC B fd names cs) (Fv : Frees B fd cs fv) (hbody : fd.body = .stmts [.Return (some e) pos]) (hl : ds.length = names.length)
    (hb : ∀ L s g Q E, SC B (callEnv fd L fa :: l) cs g s.heap → Sv B (fActC fd fa L A l) (names.zip ds ++ fv) [] g s.heap → (∀ v s' g', Grow (L :: l.filterMap (·.frame)) g s.heap g' s'.heap → Same s s' → Rep g' d v → Q v s') → wpAny (model prog w) (fActC fd fa L A l).A (eval e (fActC fd fa L A l).env) Q E s) : OpS prog w B A l cs (fun vs => call (.ref fa) vs) ds d := fun s g vs Q E S R k => by
  have up : ∀ b o, B.get? b = some o → s.heap.get? b = some o := fun b o e => S.sh.gh _ _ (S.sh.bg _ _ e)
  have hlen : vs.length = names.length := by rw [R.length, hl]
  refine wpAny_call ?_
  refine codeAny_call_function (by have := ok.dep; exact Om.sf2 ‹_›) (up _ _ ho) hdata F.co F.gen hbody (F.code.keeps up) (wpAny_of_eq (F.bind vs hlen) ?_)
  refine wpAny_newFunctionEnv F.nocell (fun x hx => F.locs x.1 (mem_zip_fst hx)) (fun h₁ hn hsb => ?_) F.kind
  have keep : ∀ b o, s.heap.get? b = some o → h₁.get? b = some o := fun b o e => (hsb.2 b (Nat.ne_of_lt (Heap.lt_size e))).trans (Heap.get?_push_of_some _ e)
  refine ⟨(G.nolimit.keeps up).keeps keep, codeAny_func ?_⟩
  have SV := fnC_sv (A := A) (fa := fa) F Fv S R hn keep
  refine wpAny_execs_cons (wpAny_Return_some ?_)
  refine hb s.heap.objs.size { s with heap := h₁, toks := s.toks + (names.zip vs).length } g _ _ ⟨SV.toSh, fun p hp => ?_⟩ SV fun v s' g' G' Sm r => k v s' g' (grow_back G' keep (get?_size_none _)) ⟨Sm.gens, Sm.drawn, Sm.os⟩ r
  obtain ⟨⟨o, ho, hd⟩, h2⟩ := S.cs p hp
  exact ⟨⟨o, keep _ _ ho, hd⟩, h2⟩
end
end Mine
end
section
open PySem PySem.W PySem.W.X PyProof.Rows
set_option maxRecDepth 1000000
set_option maxHeartbeats 4000000
set_option linter.unusedVariables false
namespace Mine
/-! what the class K answers: the objects around it, by name -/
noncomputable def kf (P : Params) (S t : Nat) (c : TnA) : Frag := [(S + 68, tnK7 c (S + 67)), (S + 67, tnD3 c P t (S + 67)), (S + 69, tnMd t (S + 67)), (S + 24, fnO (fIni S)), (S + 32, fnO (fLt S)), (2, o2)]
theorem lk_ne {a b : Addr} {o : Obj} {l : Frag} (h : a ≠ b) : List.lookup a ((b, o) :: l) = List.lookup a l := by rw [List.lookup_cons, show (a == b) = false from beq_eq_false_iff_ne.mpr h]
theorem lk_eq {a : Addr} {o : Obj} {l : Frag} : List.lookup a ((a, o) :: l) = some o := by rw [List.lookup_cons, beq_self_eq_true]
section
variable {P : Params} {S t : Nat} {c : TnA}
theorem kf68 : (kf P S t c).lookup (S + 68) = some (tnK7 c (S + 67)) := by unfold kf; exact lk_eq
theorem kf67 : (kf P S t c).lookup (S + 67) = some (tnD3 c P t (S + 67)) := by unfold kf; rw [lk_ne (show (S + 67 : Nat) ≠ S + 68 by omega)]; exact lk_eq
theorem kf69 : (kf P S t c).lookup (S + 69) = some (tnMd t (S + 67)) := by unfold kf; rw [lk_ne (show (S + 69 : Nat) ≠ S + 68 by omega)]; rw [lk_ne (show (S + 69 : Nat) ≠ S + 67 by omega)]; exact lk_eq
theorem kf24 : (kf P S t c).lookup (S + 24) = some (fnO (fIni S)) := by unfold kf; rw [lk_ne (show (S + 24 : Nat) ≠ S + 68 by omega)]; rw [lk_ne (show (S + 24 : Nat) ≠ S + 67 by omega)]; rw [lk_ne (show (S + 24 : Nat) ≠ S + 69 by omega)]; exact lk_eq
theorem kf32 : (kf P S t c).lookup (S + 32) = some (fnO (fLt S)) := by unfold kf; rw [lk_ne (show (S + 32 : Nat) ≠ S + 68 by omega)]; rw [lk_ne (show (S + 32 : Nat) ≠ S + 67 by omega)]; rw [lk_ne (show (S + 32 : Nat) ≠ S + 69 by omega)]; rw [lk_ne (show (S + 32 : Nat) ≠ S + 24 by omega)]; exact lk_eq
noncomputable def kcd (S : Nat) : ClassData := { name := "K", bases := [.type "object"], mro := [.ref (S + 68), .type "object"], ns := S + 67, qualname := "cmp_to_key.<locals>.K", slotNames := ["obj"], hasDict := false }
theorem kf_cls : clsIn (kf P S t c) (S + 68) = some (kcd S) := by unfold clsIn; rw [kf68]; rfl
theorem kf_ns (name : Str) {r : Option Value} (h : (match (tnD3 c P t (S + 67)).data with | .dict es _ => (match es.toList.find? (·.key.isStr name) with | some e => some (some e.val) | none => if es.toList.any (·.refKey) then none else some none) | _ => none) = some r) : nsIn (kf P S t c) (S + 67) name = some r := by
  unfold nsIn; rw [kf67]; exact h
theorem kf_own (name : Str) {r : Option Value} (h : nsIn (kf P S t c) (S + 67) name = some r) : ownIn (kf P S t c) name (.ref (S + 68)) = some r := by
  show (match (kf P S t c).lookup (S + 68) with | some ⟨_, _, .cls cd, _⟩ => nsIn (kf P S t c) cd.ns name | _ => none) = some r
  rw [kf68]; exact h
theorem kf_has (name : Str) {v : Value} (h : nsIn (kf P S t c) (S + 67) name = some (some v)) : findIn (kf P S t c) (.ref (S + 68)) name = some (some v) := by
  show (match (kf P S t c).lookup (S + 68) with | some ⟨_, _, .cls cd, _⟩ => alongIn (kf P S t c) name cd.mro | _ => none) = _
  rw [kf68]
  show alongIn (kf P S t c) name [.ref (S + 68), .type "object"] = _
  unfold alongIn
  rw [kf_own name h]
theorem kf_obj (name : Str) {r : Option Value} (h : nsIn (kf P S t c) (S + 67) name = some none) (hr : fastBuiltinOwn "object" name = r) : findIn (kf P S t c) (.ref (S + 68)) name = some r := by
  show (match (kf P S t c).lookup (S + 68) with | some ⟨_, _, .cls cd, _⟩ => alongIn (kf P S t c) name cd.mro | _ => none) = _
  rw [kf68]
  show alongIn (kf P S t c) name [.ref (S + 68), .type "object"] = _
  unfold alongIn
  rw [kf_own name h]
  unfold alongIn
  show (match some (fastBuiltinOwn "object" name) with | some (some v) => some (some v) | some none => alongIn (kf P S t c) name [] | none => none) = _
  rw [hr]
  cases r <;> rfl
theorem kf_init (h : c.a14 = S + 24) : findIn (kf P S t c) (.ref (S + 68)) "__init__" = some (some (.ref (S + 24))) := kf_has _ (kf_ns _ (by rw [← h]; rfl))
theorem kf_lt (h : c.a22 = S + 32) : findIn (kf P S t c) (.ref (S + 68)) "__lt__" = some (some (.ref (S + 32))) := kf_has _ (kf_ns _ (by rw [← h]; rfl))
theorem kf_slot : findIn (kf P S t c) (.ref (S + 68)) "obj" = some (some (.ref (S + 69))) := kf_has _ (kf_ns _ rfl)
theorem kf_sa : findIn (kf P S t c) (.ref (S + 68)) "__setattr__" = some (some (.builtin "object.__setattr__")) := kf_obj _ (kf_ns _ rfl) (by kernel_rfl)
theorem kf_ga : findIn (kf P S t c) (.ref (S + 68)) "__getattribute__" = some (some (.builtin "object.__getattribute__")) := kf_obj _ (kf_ns _ rfl) (by kernel_rfl)
theorem kf_gattr : findIn (kf P S t c) (.ref (S + 68)) "__getattr__" = some none := kf_obj _ (kf_ns _ rfl) (by kernel_rfl)
theorem kf_fn24 : typeIn (kf P S t c) (.ref (S + 24)) = some (.type "function") := by show ((kf P S t c).lookup (S + 24)).map (·.cls) = _; rw [kf24]; rfl
theorem kf_fn32 : typeIn (kf P S t c) (.ref (S + 32)) = some (.type "function") := by show ((kf P S t c).lookup (S + 32)).map (·.cls) = _; rw [kf32]; rfl
theorem kf_md : typeIn (kf P S t c) (.ref (S + 69)) = some (.type "member_descriptor") := by show ((kf P S t c).lookup (S + 69)).map (·.cls) = _; rw [kf69]; rfl
theorem kf_K : typeIn (kf P S t c) (.ref (S + 68)) = some (.type "type") := by show ((kf P S t c).lookup (S + 68)).map (·.cls) = _; rw [kf68]; rfl
theorem kf_slotIn : slotIn (kf P S t c) (S + 69) (S + 68) = some 0 := by
  unfold slotIn recIn
  rw [kf69, kf_cls]
  show (if (_ && _ && !(kcd S).mro.isEmpty && (kcd S).mro.contains (.ref (S + 68)) && _) = true then some 0 else none) = some 0
  rw [if_pos (by simp [kcd])]
theorem kf_makes : makesIn (kf P S t c) (S + 68) = true := by
  unfold makesIn
  rw [kf68]
  have h1 : specialIn (kf P S t c) (.ref (S + 68)) "__call__" = some (some (.builtin "type.__call__")) := by
    unfold specialIn; rw [kf_K]; show findIn (kf P S t c) (.type "type") "__call__" = _; show fastLookup "type" "__call__" = _; kernel_rfl
  have h2 : instIn (kf P S t c) (.ref (S + 68)) (.type "type") = some true := by
    unfold instIn; rw [kf_K]; show subIn (kf P S t c) (.type "type") (.type "type") = _; show (fastBuiltinMro "type").map (·.contains (.type "type")) = _; kernel_rfl
  show (!false && !false && _ && !false && _ && _ && (specialIn (kf P S t c) (.ref (S + 68)) "__call__" == some (some (.builtin "type.__call__"))) && (instIn (kf P S t c) (.ref (S + 68)) (.type "type") == some true)) = true
  rw [h1, h2]
  simp [tnK7, tnK]
end
end Mine
end
section
open PySem PySem.W PySem.W.X PyProof.Rows
set_option maxRecDepth 1000000
set_option maxHeartbeats 4000000
set_option linter.unusedVariables false
namespace Mine
/-! K(i): a key -/
noncomputable def kInst (C dx : Addr) (i : Int) (t : Tok) : Obj := { cls := .ref C, dict := some dx, data := .plain, slots := #[some (.int i t)] }
/-- the key of an int -/
noncomputable def KeyP (C : Addr) (g : Heap) (i : Nat) (k : Value) : Prop := ∃ x dx t, k = .ref x ∧ g.get? x = some (kInst C dx i t) ∧ g.get? dx = some emptyDict
theorem keyP_mono {C : Addr} {g g' : Heap} {i : Nat} {k : Value} (x : g.StaysIn g') (h : KeyP C g i k) : KeyP C g' i k := by
  obtain ⟨a, dx, t, e, h1, h2⟩ := h
  exact ⟨a, dx, t, e, x _ _ h1, x _ _ h2⟩
theorem grow_freeze {fr : List Addr} {g h g' h' : Heap} {a : Addr} (G : Grow fr g h g' h') (ha : h.get? a = none) : Grow fr g h (withObj g' h' a) h' := by
  refine ⟨G.ext, fun b o e => ?_, fun b o e => ?_, fun b e e' => ?_⟩
  · rw [withObj_get G.gh]
    by_cases hb : b = a
    · rw [if_pos hb]; exact G.gh _ _ (G.gg _ _ e)
    · rw [if_neg hb]; exact G.gg _ _ e
  · rw [withObj_get G.gh] at e
    by_cases hb : b = a
    · rw [if_pos hb] at e; exact e
    · rw [if_neg hb] at e; exact G.gh _ _ e
  · rw [withObj_get G.gh] at e'
    by_cases hb : b = a
    · subst hb; exact absurd ha e
    · rw [if_neg hb] at e'; exact G.new b e e'
structure KB (P : Params) (S t : Nat) (c : TnA) (B : Heap) : Prop where
  X : (kf P S t c).In B
  a14 : c.a14 = S + 24
  a22 : c.a22 = S + 32
  c23 : B.CodeRec (.ref (S + 23)) "cmp_to_key.<locals>.K.__init__"
  c31 : B.CodeRec (.ref (S + 31)) "cmp_to_key.<locals>.K.__lt__"
section
variable {prog : Program} {w : World} {A : Around} {B : Heap} {l : List Env} {n : Nat} {mg mb : Str → Option Value} {cs : List (Addr × Value)} {P : Params} {S t : Nat} {c : TnA}
theorem two_names {fd : FuncData} {x y : Str} (h : (fd.scope.kind == .function && fd.globals == mainGlobals && fd.builtins == builtinsNs && !fd.scope.isCoroutine && !fd.scope.isGenerator && fd.scope.names.lookup x == some .local && fd.scope.names.lookup y == some .local && fd.scope.names.all (fun p => p.2 != .cell)) = true) (hxy : x ≠ y)
    (hc : B.CodeRec fd.code fd.qualname) (hb : ∀ u v, bindArgs fd ⟨[u, v], []⟩ = pure [(x, u), (y, v)]) (hclo : ∀ p ∈ fd.closure, ∃ v, (p.2, v) ∈ cs) (hnd : fd.closure.Pairwise fun x y => x.2 ≠ y.2) : FnC B fd [x, y] cs := by
  simp only [Bool.and_eq_true, beq_iff_eq, Bool.not_eq_true'] at h
  obtain ⟨⟨⟨⟨⟨⟨⟨h1, h2⟩, h3⟩, h4⟩, h5⟩, h6⟩, h7⟩, h8⟩ := h
  refine { kind := h1, glob := h2, blt := h3, co := h4, gen := h5, code := hc, bind := fun vs hl => ?_, nd := by simp [hxy], locs := fun z hz => ?_, nocell := fun p hp => by simpa using List.all_eq_true.mp h8 p hp, clo := hclo, cnd := hnd }
  · match vs, hl with
    | [u, v], _ => exact hb u v
  · rcases List.mem_cons.mp hz with rfl | hz
    · exact h6
    · rw [List.mem_singleton.mp hz]; exact h7
theorem ini_fn (k : KB P S t c B) : FnC B (fIni S) ["self", "obj"] cs := two_names (by rfl) (by decide) k.c23 (fun u v => by rfl) (fun p hp => nomatch hp) .nil
theorem plain_over : plainOver (kf P S t c) (S + 68) = true := by unfold plainOver; rw [kf_cls]; rfl
theorem taker : takerIn (kf P S t c) (S + 68) "obj" = some (some (.ref (S + 69))) := by
  unfold takerIn
  rw [kf_slot]
  show (takesIn (kf P S t c) (.ref (S + 69))).map _ = _
  have : takesIn (kf P S t c) (.ref (S + 69)) = some true := by
    unfold takesIn specialIn
    rw [kf_md]
    rw [show (some (Value.type "member_descriptor")).bind (fun t' => findIn (kf P S t c) t' "__set__") = some (some (.builtin "member_descriptor.__set__")) from by kernel_rfl]
  rw [this]; rfl
theorem ini_body : ∃ p1 p2 p3 p4, mB 2 = [.Assign [.Attribute (.Name "self" p1) "obj" p2] (.Name "obj" p3) p4] := ⟨_, _, _, _, rfl⟩
theorem under_new {C : Addr} {args : List Value} (ok : AOk A l (n + 1)) : AOk (A.under (.builtin "type.__call__" ⟨.ref C :: args, []⟩)) l n := by
  have hw : (Code.builtin "type.__call__" ⟨.ref C :: args, []⟩).weight = 1 := by rfl
  have he : (Code.builtin "type.__call__" ⟨.ref C :: args, []⟩).envs = [] := by rfl
  have hu : (Code.builtin "type.__call__" ⟨.ref C :: args, []⟩).cUnits = 1 := by rfl
  refine ⟨ok.hand, ?_, ?_, ?_⟩
  · show pushEnvs (Code.builtin "type.__call__" ⟨.ref C :: args, []⟩).envs A.frames = _
    rw [he]; exact ok.frames
  · show A.depth + (Code.builtin "type.__call__" ⟨.ref C :: args, []⟩).weight + n < _
    rw [hw]; have := ok.dep; exact Om.sf1 ‹_›
  · show A.units + (Code.builtin "type.__call__" ⟨.ref C :: args, []⟩).cUnits + 8 * n + 300 < _
    rw [hu]; have := ok.uni; omega
theorem cls_make (k : KB P S t c B) (G : Gl B mg mb) (ok : AOk A l (n + 2)) {i : Nat} {tk : Tok} {s : Shared} {g : Heap} {Q E : Value → Shared → Prop} (hS : SC B l cs g s.heap)
    (hq : ∀ kv s' g', Grow (l.filterMap (·.frame)) g s.heap g' s'.heap → Same s s' → KeyP (S + 68) g' i kv → Q kv s') : wpAny (model prog w) A (call (.ref (S + 68)) [.int (i : Int) tk]) Q E s := by
  have X : (kf P S t c).In s.heap := k.X.keeps fun b o e => hS.sh.gh _ _ (hS.sh.bg _ _ e)
  obtain ⟨hh, gg, d, tt, os⟩ := s
  refine wpAny_call (make_core (makes_of X kf_makes) (looks_findIn X (kf_init k.a14)) (fun self => bind_fn X self kf_fn24) (.inl rfl) ?_)
  have ok1 := under_new (C := S + 68) (args := [.int (i : Int) tk]) ok
  generalize A.under (.builtin "type.__call__" ⟨[.ref (S + 68), .int (i : Int) tk], []⟩) = A1 at ok1 ⊢
  have hx : ((hh.push emptyDict).push (instObj (S + 68) hh.objs.size)).get? (hh.objs.size + 1) = some (instObj (S + 68) hh.objs.size) := by heap_get
  have hdx : ((hh.push emptyDict).push (instObj (S + 68) hh.objs.size)).get? hh.objs.size = some emptyDict := by heap_get
  have k1 : ∀ b o, hh.get? b = some o → ((hh.push emptyDict).push (instObj (S + 68) hh.objs.size)).get? b = some o := fun b o e => Heap.get?_push_of_some _ (Heap.get?_push_of_some _ e)
  have hsz : ((hh.push emptyDict).push (instObj (S + 68) hh.objs.size)).objs.size = hh.objs.size + 2 := by rw [Heap.size_push, Heap.size_push]
  generalize (hh.push emptyDict).push (instObj (S + 68) hh.objs.size) = h1 at hx hdx k1 hsz ⊢
  have nx : hh.get? (hh.objs.size + 1) = none := Heap.get?_none_of_le (Nat.le_succ _)
  have ndx : hh.get? hh.objs.size = none := get?_size_none _
  have nL : hh.get? h1.objs.size = none := Heap.get?_none_of_le (by rw [hsz]; exact Nat.le_add_right _ _)
  have X1 : (kf P S t c).In h1 := X.keeps k1
  have G1 : Grow (l.filterMap (·.frame)) g hh g h1 := Grow.plain hS.sh.gh k1
  have S1 := hS.grow G1
  have F := ini_fn (cs := cs) k
  have up : ∀ b o, B.get? b = some o → h1.get? b = some o := fun b o e => S1.sh.gh _ _ (S1.sh.bg _ _ e)
  refine codeAny_call_function (by have := ok1.dep; exact Om.sf2 ‹_›) (X1 _ _ kf24) rfl F.co F.gen rfl (F.code.keeps up) (wpAny_of_eq (F.bind [.ref (hh.objs.size + 1), .int (i : Int) tk] rfl) ?_)
  refine wpAny_newFunctionEnv F.nocell (fun x hx => F.locs x.1 (mem_zip_fst hx)) (fun h2 hn hsb => ?_) F.kind
  have keep : ∀ b o, h1.get? b = some o → h2.get? b = some o := fun b o e => (hsb.2 b (Nat.ne_of_lt (Heap.lt_size e))).trans (Heap.get?_push_of_some _ e)
  refine ⟨(G.nolimit.keeps up).keeps keep, codeAny_func ?_⟩
  obtain ⟨p1, p2, p3, p4, e⟩ := ini_body
  rw [e]
  refine wpAny_execs_cons ?_
  refine plainObj_wpAny_Assign_Attribute ?_ (by rfl)
  refine wpAny_Name (wpAny_loadName_local F.kind (by rfl) hn (v := .int (i : Int) tk) (by rfl) ?_) (by rfl)
  refine wpAny_Name (wpAny_loadName_local F.kind (by rfl) hn (v := .ref (hh.objs.size + 1)) (by rfl) ?_) (by rfl)
  have X2 : (kf P S t c).In h2 := X1.keeps keep
  have I : InstAt h2 (hh.objs.size + 1) (instObj (S + 68) hh.objs.size) (S + 68) (some emptyDict) := ⟨keep _ _ hx, rfl, rfl, keep _ _ hdx⟩
  have Ff : Fr hh h1.objs.size h2 (fun x => ((["self", "obj"] : List Str).zip [.ref (hh.objs.size + 1), .int (i : Int) tk]).reverse.lookup x) := ⟨hn, fun b o e => keep _ _ (k1 b o e), by rw [hsz]; exact Nat.le_add_right _ _⟩
  have N : News hh h1.objs.size h2 ([] ++ (hh.objs.size + 1, instObj (S + 68) hh.objs.size) :: [(hh.objs.size, emptyDict)]) := fun p hp => by
    rcases List.mem_cons.mp hp with rfl | hp
    · exact ⟨keep _ _ hx, by rw [hsz]; show hh.objs.size + 1 ≠ hh.objs.size + 2; omega, nx⟩
    · rw [List.mem_singleton.mp hp]
      exact ⟨keep _ _ hdx, by rw [hsz]; show hh.objs.size ≠ hh.objs.size + 2; omega, ndx⟩
  refine set_plain (s := ⟨h2, gg, d, _, os⟩) X2 I kf_sa ?_
  refine osa_descr KF.slot_mset (s := ⟨h2, gg, d, _, os⟩) X2 I plain_over taker kf_md ?_
  refine slot_set (s := ⟨h2, gg, d, _, os⟩) Ff N X2 I kf_slotIn (by decide) (fun p hp => nomatch hp) (fun p hp => ?_) (ox' := kInst (S + 68) hh.objs.size i tk) rfl rfl fun h3 F3 N3 => ?_
  · rw [List.mem_singleton.mp hp]; show hh.objs.size ≠ hh.objs.size + 1; omega
  refine wpAny_execs_nil ?_
  have G3 : Grow (l.filterMap (·.frame)) g hh g h3 := Grow.plain hS.sh.gh F3.keep
  have G4 := grow_freeze (a := hh.objs.size + 1) G3 nx
  have G5 := grow_freeze (a := hh.objs.size) G4 ndx
  refine ⟨rfl, hq (.ref (hh.objs.size + 1)) _ (withObj (withObj g h3 (hh.objs.size + 1)) h3 hh.objs.size) G5 ⟨rfl, rfl, rfl⟩ ⟨hh.objs.size + 1, hh.objs.size, tk, rfl, ?_, ?_⟩⟩
  · rw [withObj_get G4.gh, if_neg (show ¬ (hh.objs.size + 1 = hh.objs.size) from Nat.succ_ne_self _), withObj_get G3.gh, if_pos rfl]
    exact (N3 _ (.head _)).1
  · rw [withObj_get G4.gh, if_pos rfl]
    exact (N3 _ (.tail _ (.head _))).1
end
end Mine
end
section
open PySem PySem.W PySem.W.X PyProof.Rows
set_option maxRecDepth 1000000
set_option maxHeartbeats 4000000
set_option linter.unusedVariables false
namespace Mine
/-! two keys compared -/
theorem SC.rebase {B : Heap} {l : List Env} {cs : List (Addr × Value)} {g h : Heap} (x : SC B l cs g h) : SC g l cs g h := by
  refine ⟨⟨stays_refl _, x.sh.gh, ?_, x.sh.fg, x.sh.own⟩, x.cs⟩
  have go : ∀ l : List Env, h.FunFrames B l → (∀ f ∈ l.filterMap (·.frame), g.get? f = none) → h.FunFrames g l := by
    intro l
    induction l with
    | nil => exact fun _ _ => trivial
    | cons env rest ih =>
      intro hl hg
      obtain ⟨hk, ⟨L, o, hf, hn, ho, hd⟩, hr⟩ := hl
      have e : (env :: rest).filterMap (·.frame) = L :: rest.filterMap (·.frame) := by rw [List.filterMap_cons, hf]
      rw [e] at hg
      exact ⟨hk, ⟨L, o, hf, hg L (.head _), ho, hd⟩, ih hr fun f hf => hg f (.tail _ hf)⟩
  exact go l x.sh.ff fun f hf => (x.sh.fg f hf).1
theorem Bs.mono {P : Params} {B g : Heap} {mg mb : Str → Option Value} (b : Bs P B mg mb) (k : B.StaysIn g) : Bs P g mg mb := ⟨b.K.keeps k, ⟨b.G.g.keeps k, b.G.b.keeps k, b.G.nolimit.keeps k⟩, b.bl⟩
theorem KB.mono {P : Params} {S t : Nat} {c : TnA} {B g : Heap} (b : KB P S t c B) (k : B.StaysIn g) : KB P S t c g := ⟨b.X.keeps k, b.a14, b.a22, b.c23.keeps k, b.c31.keeps k⟩
section
variable {prog : Program} {w : World} {A : Around} {B : Heap} {l : List Env} {n : Nat} {mg mb : Str → Option Value} {cs : List (Addr × Value)} {P : Params} {S t : Nat} {c : TnA} {a : Act} {σ : Vars}
theorem find_obj : findObj (kf P S t c) (S + 68) (some emptyDict) "obj" = some (.bind (.builtin "member_descriptor.__get__") (.ref (S + 69))) := by
  have h1 : specialIn (kf P S t c) (.ref (S + 69)) "__get__" = some (some (.builtin "member_descriptor.__get__")) := by
    unfold specialIn; rw [kf_md]; show fastLookup "member_descriptor" "__get__" = _; kernel_rfl
  have h2 : takesIn (kf P S t c) (.ref (S + 69)) = some true := by
    unfold takesIn specialIn
    rw [kf_md]
    rw [show (some (Value.type "member_descriptor")).bind (fun t' => findIn (kf P S t c) t' "__set__") = some (some (.builtin "member_descriptor.__set__")) from by kernel_rfl]
  unfold findObj
  rw [kf_cls, kf_slot]
  show (specialIn (kf P S t c) (.ref (S + 69)) "__get__").bind _ = _
  rw [h1]
  show (takesIn (kf P S t c) (.ref (S + 69))).bind _ = _
  rw [h2]
  rfl
theorem ev_attr {y : Str} {p1 p : Pos} {x dx : Addr} {i : Int} {tk : Tok} (X : (kf P S t c).In B) (ho : Ev prog w B a σ [] (.Name y p1) (.val (.ref x))) (hx : B.get? x = some (kInst (S + 68) dx i tk)) (hdx : B.get? dx = some emptyDict) :
    Ev prog w B a σ [] (.Attribute (.Name y p1) "obj" p) (.int i) := fun s g Q E SV k => by
  rw [PySem.arm_eval_Attribute]
  refine wpAny_bind (ho s g _ _ SV fun v₁ s₁ g₁ G₁ S₁ r₁ => ?_)
  rw [rep_val.mp r₁]
  refine wpAny_bind (wpAny_standAt (wpAny_bind (wpAny_holding ?_)))
  have SV₁ := SV.grow G₁
  have up : B.StaysIn s₁.heap := fun b o e => SV₁.gh _ _ (SV₁.bg _ _ e)
  have X1 : (kf P S t c).In s₁.heap := X.keeps up
  have I : InstAt s₁.heap x (kInst (S + 68) dx i tk) (S + 68) (some emptyDict) := ⟨up _ _ hx, rfl, rfl, up _ _ hdx⟩
  refine get_bind X1 I kf_ga find_obj kf_gattr (wpAny_call (slot_get (s := { s₁ with toks := s₁.toks + 1 }) X1 I kf_slotIn (v := .int i tk) rfl ?_))
  show wpAny _ _ (handedOut (.int i tk)) _ _ _
  refine wpAny_pure ?_
  refine wpAny_bind (wpAny_of_eq (show letTemporaryGo (Expr.Name y p1) (Value.ref x) (Value.int i tk) = pure () from rfl) ?_)
  exact wpAny_pure (k _ { s₁ with toks := s₁.toks + 1 } g₁ G₁ ⟨S₁.gens, S₁.drawn, S₁.os⟩ (rep_int.mpr ⟨tk, rfl⟩))
theorem compare_callS {f e1 : Expr} {es : List Expr} {p q r : Pos} {k0 : Nat} {fa : Addr} {ds : List D} {i : Int} (hf : Ev prog w B a σ [] f (.val (.ref fa))) (hfa : ∃ o fd, B.get? fa = some o ∧ o.data = .func fd) (h : EvAll prog w B a σ [] p (e1 :: es) ds)
    (hop : OpS prog w B a.A a.l cs (fun vs => call (.ref fa) vs) ds (.int i)) (hs : CallForm f e1 es p) {s : Shared} {g : Heap} {Q E : Value → Shared → Prop} (SV : Sv B a σ [] g s.heap) (C : Cs cs g s.heap)
    (k : ∀ v s' g', Grow a.fr g s.heap g' s'.heap → Same s s' → Rep g' (dBool (decide (i < 0))) v → Q v s') : wpAny (model prog w) a.A (eval (.Compare (.Call f (e1 :: es) [] p) [.Lt] [.Constant (.int 0) k0 q] r) a.env) Q E s := by
  obtain ⟨o, fd, ho, hd⟩ := hfa
  refine wpAny_Compare1 ?_ (by rfl)
  rw [(hs _).1]
  refine wpAny_bind (hf s g _ _ SV fun v₁ s₁ g₁ G₁ S₁ r₁ => ?_)
  rw [rep_val.mp r₁]
  refine Calls.callWith_function (o := o) (fd := fd) (evAll_args h (SV.grow G₁) (hs _).2 fun vs s₂ g₂ G₂ S₂ r₂ => ⟨⟨?_, hd⟩, ?_⟩)
  · have S₂' := ((SV.grow G₁).grow G₂)
    exact S₂'.gh _ _ (S₂'.bg _ _ ho)
  · refine hop s₂ g₂ vs _ _ ⟨((SV.grow G₁).grow G₂).toSh, (C.grow G₁).grow G₂⟩ r₂ fun v s₃ g₃ G₃ S₃ r₃ => ?_
    have SV₃ := ((SV.grow G₁).grow G₂).grow G₃
    refine ev_int s₃ g₃ _ _ SV₃ fun u s₄ g₄ G₄ S₄ r₄ => ?_
    refine op_lt_int (l := a.l) i 0 s₄ g₄ [v, u] _ _ (SV₃.grow G₄).toSh (.cons (r₃.mono G₄.gg) (.cons r₄ .nil)) fun z s' g' G' S' r' => ?_
    exact k z s' g' ((((G₁.trans G₂).trans G₃).trans G₄).trans G') ((((S₁.trans S₂).trans S₃).trans S₄).trans S') r'
/-- the lambda's outer name -/
structure LamB (S L : Nat) (nums : List Int) (nv : Value) (cs : List (Addr × Value)) (B : Heap) : Prop where
  fn : B.get? (S + 7) = some (fnO (fLam S (L + 6)))
  code : B.CodeRec (.ref (S + 6)) "law.<locals>.<lambda>"
  cell : (L + 6, nv) ∈ cs
  cell2 : (S + 9, Value.ref (S + 7)) ∈ cs
  rep : Rep B (.lst (nums.map .int)) nv
theorem LamB.mono {S L : Nat} {nums : List Int} {nv : Value} {cs : List (Addr × Value)} {B g : Heap} (b : LamB S L nums nv cs B) (k : B.StaysIn g) : LamB S L nums nv cs g := ⟨k _ _ b.fn, b.code.keeps k, b.cell, b.cell2, b.rep.mono k⟩
noncomputable def sgK (x y : Int) : Int := b2i (decide (y < x)) - b2i (decide (x < y))
theorem lam_fn {L : Nat} {nums : List Int} {nv : Value} (k : LamB S L nums nv cs B) : FnC B (fLam S (L + 6)) ["a", "b"] cs := two_names (by rfl) (by decide) k.code (fun u v => by rfl) (fun p hp => by
    rw [List.mem_singleton.mp hp]; exact ⟨nv, k.cell⟩) (List.pairwise_singleton ..)
theorem op_lam {L : Nat} {nums : List Int} {nv : Value} (b : Bs P B mg mb) (ok : AOk A l (n + 2)) (k : LamB S L nums nv cs B) {i j : Nat} (hi : i < nums.length) (hj : j < nums.length) (h63 : nums.length < 2 ^ 62) :
    OpS prog w B A l cs (fun vs => call (.ref (S + 7)) vs) [.int i, .int j] (.int (sgK nums[i] nums[j])) := by
  have F := lam_fn k
  refine op_lamC (names := ["a", "b"]) (fv := [("numbers", .lst (nums.map .int))]) b.G ok k.fn rfl F (fun x d hx => ?_) (body := lamB) rfl rfl fun L' => ?_
  · rw [List.lookup_cons] at hx
    by_cases hn : x = "numbers"
    · subst hn
      rw [beq_self_eq_true] at hx
      cases hx
      exact ⟨by rw [show (fLam S (L + 6)).scope.names.lookup ("numbers" : Str) = some .free from rfl]; decide, L + 6, nv, rfl, k.cell, k.rep⟩
    · rw [show (x == ("numbers" : Str)) = false from by rw [beq_eq_false_iff_ne]; exact hn] at hx
      cases hx
  · have okc : (fActC (fLam S (L + 6)) (S + 7) L' A l).Ok (n + 1) := fActC_ok ok F
    exact ev_call_f (b.evg okc) (cmp_is b) (evAll_cons (ev_sub (ev_free okc rfl rfl rfl rfl) (ev_local okc rfl rfl rfl) (op_item_lst _ i (by exact Int.natCast_nonneg _) (by exact Om.lt_k ‹_› ‹_› rfl) (by simp [hi]) fun _ _ => ⟨_, rfl⟩))
      (evAll_cons (ev_sub (ev_free okc rfl rfl rfl rfl) (ev_local okc rfl rfl rfl) (op_item_lst _ j (by exact Int.natCast_nonneg _) (by exact Om.lt_k ‹_› ‹_› rfl) (by simp [hj]) fun _ _ => ⟨_, rfl⟩)) evAll_nil fun _ => rfl) fun _ => rfl) (op_cmp b okc.a nums[i] nums[j]) fun _ => ⟨rfl, _, _, rfl, rfl⟩
theorem lt_body : ∃ p1 p2 p3 p4 p5 p6 p7 p8 k0 p9, mB 3 = [.Return (some (.Compare (.Call (.Name "mycmp" p1) [.Attribute (.Name "self" p2) "obj" p3, .Attribute (.Name "other" p4) "obj" p5] [] p6) [.Lt] [.Constant (.int 0) k0 p7] p8)) p9] := ⟨_, _, _, _, _, _, _, _, _, _, rfl⟩
theorem lt_fn {L : Nat} {nums : List Int} {nv : Value} (k : KB P S t c B) (kl : LamB S L nums nv cs B) : FnC B (fLt S) ["self", "other"] cs := two_names (by rfl) (by decide) k.c31 (fun u v => by rfl) (fun p hp => by
    rw [List.mem_singleton.mp hp]; exact ⟨_, kl.cell2⟩) (List.pairwise_singleton ..)
theorem op_ltK {L : Nat} {nums : List Int} {nv : Value} (b : Bs P B mg mb) (ok : AOk A l (n + 3)) (k : KB P S t c B) (kl : LamB S L nums nv cs B) {x y dx dy : Addr} {i j : Nat} {ti tj : Tok} (hi : i < nums.length) (hj : j < nums.length) (h63 : nums.length < 2 ^ 62)
    (hx : B.get? x = some (kInst (S + 68) dx i ti)) (hdx : B.get? dx = some emptyDict) (hy : B.get? y = some (kInst (S + 68) dy j tj)) (hdy : B.get? dy = some emptyDict) :
    OpS prog w B A l cs (fun vs => call (.ref (S + 32)) vs) [.val (.ref x), .val (.ref y)] (dBool (decide (sgK nums[i] nums[j] < 0))) := by
  have F := lt_fn k kl
  obtain ⟨p1, p2, p3, p4, p5, p6, p7, p8, k0, p9, e⟩ := lt_body
  refine op_fnC (names := ["self", "other"]) (fv := [("mycmp", .val (.ref (S + 7)))]) b.G ok (k.X _ _ kf32) rfl F (fun z d hz => ?_) (by show FuncBody.stmts (mB 3) = _; rw [e]) rfl fun L' s g Q E SCs SV kk => ?_
  · rw [List.lookup_cons] at hz
    by_cases hn : z = "mycmp"
    · subst hn
      rw [beq_self_eq_true] at hz
      cases hz
      exact ⟨by rw [show (fLt S).scope.names.lookup ("mycmp" : Str) = some .free from rfl]; decide, S + 9, .ref (S + 7), rfl, kl.cell2, rep_val.mpr rfl⟩
    · rw [show (z == ("mycmp" : Str)) = false from by rw [beq_eq_false_iff_ne]; exact hn] at hz
      cases hz
  · have okc : (fActC (fLt S) (S + 32) L' A l).Ok (n + 2) := fActC_ok ok F
    exact compare_callS (ev_free okc rfl rfl rfl rfl) ⟨_, _, kl.fn, rfl⟩ (evAll_cons (ev_attr k.X (ev_local okc rfl rfl rfl) hx hdx) (evAll_cons (ev_attr k.X (ev_local okc rfl rfl rfl) hy hdy) evAll_nil fun _ => rfl) fun _ => rfl)
      (op_lam b okc.a kl hi hj h63) (fun _ => ⟨rfl, _, _, rfl, rfl⟩) SV SCs.cs kk
theorem sgK_lt (x y : Int) : decide (sgK x y < 0) = decide (x < y) := by
  unfold sgK
  by_cases h1 : y < x <;> by_cases h2 : x < y <;> simp [h1, h2, b2i_t, b2i_f]
  exact absurd h2 (Int.not_lt.mpr (Int.le_of_lt h1))
theorem isFn32 : isFn (kf P S t c) (.ref (S + 32)) = true := by
  unfold isFn
  rw [kf_fn32]
  rfl
theorem key_lt {L : Nat} {nums : List Int} {nv : Value} (b : Bs P B mg mb) (ok : AOk A l (n + 3)) (k : KB P S t c B) (kl : LamB S L nums nv cs B) {i j : Nat} (hi : i < nums.length) (hj : j < nums.length) (h63 : nums.length < 2 ^ 62) {s : Shared} {g : Heap} {ki kj : Value} {Q : Bool → Shared → Prop} {E : Value → Shared → Prop}
    (hS : SC B l cs g s.heap) (h1 : KeyP (S + 68) g i ki) (h2 : KeyP (S + 68) g j kj) (hq : ∀ s' g', Grow (l.filterMap (·.frame)) g s.heap g' s'.heap → Same s s' → Q (decide (nums[i] < nums[j])) s') :
    wpAny (model prog w) A (keyLt' oneType' ki kj) Q E s := by
  obtain ⟨x, dx, ti, rfl, hx, hdx⟩ := h1
  obtain ⟨y, dy, tj, rfl, hy, hdy⟩ := h2
  have S' := hS.rebase
  have k' := k.mono hS.sh.bg
  have X : (kf P S t c).In s.heap := k'.X.keeps hS.sh.gh
  have I : InstAt s.heap x (kInst (S + 68) dx i ti) (S + 68) (some emptyDict) := ⟨hS.sh.gh _ _ hx, rfl, rfl, hS.sh.gh _ _ hdx⟩
  rw [keyLt'_oneType, oneLt'_eq, if_pos rfl]
  refine wpAny_bind (wpAny_cRoomFor (by have := ok.uni; omega) (wpAny_bind ?_))
  refine ifBound_K X I (kf_lt k.a22) isFn32 ?_
  refine op_ltK (b.mono hS.sh.bg) ok k' (kl.mono hS.sh.bg) hi hj h63 hx hdx hy hdy s g [.ref x, .ref y] _ _ S' (.cons (rep_val.mpr rfl) (.cons (rep_val.mpr rfl) .nil)) fun v s' g' G Sm r => ?_
  rw [rep_val.mp r]
  rw [sgK_lt]
  exact wpAny_pure (hq s' g' G Sm)
end
end Mine
end
section
open PySem PySem.W PySem.W.X PyProof.Rows
set_option maxRecDepth 1000000
set_option maxHeartbeats 4000000
set_option linter.unusedVariables false
namespace Mine
/-! law's fifth statement: places -/
section
variable {α : Type} {M : Model} {Γ : Ctx} {E : Value → Shared → Prop} {s : Shared}
theorem wpOne_pure {a : α} {Q : α → Shared → Prop} (h : Q a s) : wpOne M Γ (pure a) Q E s := fun p => by rw [Sem.wp_pure']; exact h
theorem wpOne_holding {vs : List Value} {m : Sem α} {Q : α → Shared → Prop} (h : wpOne M Γ m Q E s) : wpOne M Γ (holding vs m) Q E s := fun p => by rw [Sem.wp_holding]; exact h p
theorem wpOne_standAt {q : Pos} {Q : Unit → Shared → Prop} (h : Q () s) : wpOne M Γ (standAt q) Q E s := fun p => by rw [Sem.wp_cmd_standAt]; exact h
theorem wpOne_point {Q : Unit → Shared → Prop} (h : Q () s) : wpOne M Γ point Q E s := fun p => h
theorem one_kw {q : Pos} {id : String} {x y : Sem Value} {k : Str} {Q : Value → Shared → Prop} (h : wpOne M Γ x (fun v s₁ => wpOne M Γ y (fun u s₂ => wpOne M Γ (call (.builtin id) [v] [(k, u)]) Q E s₂) E s₁) E s) :
    wpOne M Γ (callWith q (.builtin id) [] [(false, x)] [(some k, y)]) Q E s := by
  unfold callWith evalArgs
  refine wpOne_bind (wpOne_holding ?_)
  refine wpOne_bind ?_
  show wpOne M Γ (x >>= fun v => _) _ E s
  refine wpOne_bind (wpOne_mono h (fun v s₁ h₁ => ?_) fun _ _ e => e)
  refine wpOne_bind (wpOne_pure ?_)
  refine wpOne_bind (wpOne_holding (wpOne_pure ?_))
  refine wpOne_pure (wpOne_bind (wpOne_pure ?_))
  refine wpOne_holding ?_
  show wpOne M Γ (evalAll [y] >>= fun r => _) _ E s₁
  refine wpOne_bind ?_
  show wpOne M Γ (y >>= fun u => _) _ E s₁
  refine wpOne_bind (wpOne_mono h₁ (fun u s₂ h₂ => ?_) fun _ _ e => e)
  refine wpOne_bind (wpOne_holding (wpOne_pure ?_))
  refine wpOne_pure ?_
  show wpOne M Γ ((pure [v] : Sem (List Value)) >>= fun l => pure (⟨l, [(k, u)]⟩ : Args)) _ E s₂
  refine wpOne_bind (wpOne_pure (wpOne_pure ?_))
  refine wpOne_bind (wpOne_standAt ?_)
  show wpOne M Γ ((pure Keeper.machine : Sem Keeper) >>= fun _ => _) _ E s₂
  refine wpOne_bind (wpOne_pure ?_)
  show wpOne M Γ (call (.builtin id) [v] [(k, u)] >>= fun r => holding [r] point >>= fun _ => pure r) Q E s₂
  refine wpOne_bind (wpOne_mono h₂ (fun r s₃ h₃ => ?_) fun _ _ e => e)
  exact wpOne_bind (wpOne_holding (wpOne_point (wpOne_pure h₃)))
end
end Mine
end
section
open PySem PySem.W PySem.W.X PyProof.Rows
set_option maxRecDepth 1000000
set_option maxHeartbeats 4000000
set_option linter.unusedVariables false
namespace Mine
/-! law's fifth statement: places -/
section
variable {prog : Program} {w : World} {A : Around} {B : Heap} {l : List Env} {n : Nat} {mg mb : Str → Option Value} {cs : List (Addr × Value)} {P : Params} {S t : Nat} {c : TnA}
theorem keyedK {L : Nat} {nums : List Int} {nv : Value} {vs : List Value} (b : Bs P B mg mb) (ok : AOk A l (n + 3)) (k : KB P S t c B) (kl : LamB S L nums nv cs B) (h63 : nums.length < 2 ^ 62) (hl : vs.length = nums.length) (hv : ∀ i, i < nums.length → ∃ t, vs.getD i .none = .int (i : Int) t) :
    Keyed prog w B A l cs (.ref (S + 68)) vs (KeyP (S + 68)) (fun i => nums.getD i 0) (.ref (S + 68)) where
  mono g g' i k x h := keyP_mono x h
  make i hi s g Q E hS hq := by
    obtain ⟨tk, e⟩ := hv i (by exact Nat.lt_of_lt_of_le ‹_› (Nat.le_of_eq ‹_›))
    rw [e]
    exact cls_make (n := n + 1) k b.G ok hS hq
  cmp i j hi hj s g ki kj Q E hS h1 h2 hq := by
    have e1 : nums.getD i 0 = nums[i]'(by exact Nat.lt_of_lt_of_le ‹_› (Nat.le_of_eq ‹_›)) := by rw [List.getD_eq_getElem?_getD, List.getElem?_eq_getElem (by exact Nat.lt_of_lt_of_le ‹_› (Nat.le_of_eq ‹_›))]; rfl
    have e2 : nums.getD j 0 = nums[j]'(by exact Nat.lt_of_lt_of_le ‹_› (Nat.le_of_eq ‹_›)) := by rw [List.getD_eq_getElem?_getD, List.getElem?_eq_getElem (by exact Nat.lt_of_lt_of_le ‹_› (Nat.le_of_eq ‹_›))]; rfl
    rw [e1, e2] at hq
    exact key_lt (n := n) b ok k kl (by exact Nat.lt_of_lt_of_le ‹_› (Nat.le_of_eq ‹_›)) (by exact Nat.lt_of_lt_of_le ‹_› (Nat.le_of_eq ‹_›)) h63 hS h1 h2 hq
  typ g h i k := by
    rintro ⟨x, dx, tk, rfl, hx, hdx⟩ kk
    exact InstAt.type (C := S + 68) (ox := kInst (S + 68) dx i tk) (od := emptyDict) ⟨kk _ _ hx, rfl, rfl, kk _ _ hdx⟩
  t1 := by simp
  t2 := by simp
end
end Mine
end
section
open PySem PySem.W PySem.W.X PyProof.Rows
set_option maxRecDepth 1000000
set_option maxHeartbeats 4000000
set_option linter.unusedVariables false
namespace Mine
/-! the frozen part of the heap gets more objects; the code tables change -/
noncomputable def pick (g h : Heap) : List Addr → Heap
  | [] => g
  | a :: l => withObj (pick g h l) h a
theorem pick_stays {g h : Heap} (k : g.StaysIn h) : ∀ l : List Addr, (pick g h l).StaysIn h
  | [] => k
  | a :: l => fun b o e => by
    have e : (withObj (pick g h l) h a).get? b = some o := e
    rw [withObj_get (pick_stays k l)] at e
    by_cases hb : b = a
    · rw [if_pos hb] at e; exact e
    · rw [if_neg hb] at e; exact pick_stays k l _ _ e
theorem pick_get {g h : Heap} (k : g.StaysIn h) {b : Addr} : ∀ l : List Addr, (pick g h l).get? b = if b ∈ l then h.get? b else g.get? b
  | [] => by simp [pick]
  | a :: l => by
    show (withObj (pick g h l) h a).get? b = _
    rw [withObj_get (pick_stays k l), pick_get k l]
    by_cases hb : b = a
    · simp [hb]
    · simp [hb]
theorem pick_gg {g h : Heap} (k : g.StaysIn h) (l : List Addr) : g.StaysIn (pick g h l) := fun b o e => by
  rw [pick_get k]
  split
  · exact k _ _ e
  · exact e
section
variable {prog : Program} {w : World} {A : Around} {B : Heap} {l : List Env} {n : Nat} {mg mb : Str → Option Value} {cs : List (Addr × Value)} {a : Act} {σ : Vars} {g h g' h' : Heap}
theorem Sv.jump (S : Sv B a σ [] g h) (gg : g.StaysIn g') (gh : g'.StaysIn h') (new : ∀ b, h.get? b ≠ none → g.get? b = none → g'.get? b = none)
    (keep : ∀ b o, h.get? b = some o → (∀ vs, o.data ≠ .fields vs) → h'.get? b = some o) : Sv B a σ [] g' h' := by
  obtain ⟨m, hn, hv⟩ := S.ns
  have cell : ∀ c v, h.IsCell c v → h'.IsCell c v := fun c v x => by
    obtain ⟨o, ho, hd⟩ := x
    exact ⟨o, keep _ _ ho (fun vs => by rw [hd]; exact fun z => nomatch z), hd⟩
  refine ⟨⟨stays_trans S.bg gg, gh, ff_put S.ff fun b hb o e => ?_, fun f hf => ⟨?_, fun p hp => nomatch hp⟩, fun p hp => nomatch hp⟩, ⟨m, ?_, fun z d e k => ?_⟩, fun z d e k => ?_, fun p hp => ?_, S.cnd, new _ (ns_ne hn) S.lg, S.mcs⟩
  · obtain ⟨_, o', e', hd⟩ := S.ff.mem hb
    rw [e] at e'; cases e'
    exact keep _ _ e hd
  · obtain ⟨_, o', e', hd⟩ := S.ff.mem hf
    exact new _ (by rw [e']; exact fun z => nomatch z) (S.fg f hf).1
  · obtain ⟨o, es, ep, ho, hd, r⟩ := hn
    exact ⟨o, es, ep, keep _ _ ho (fun vs => by rw [hd]; exact fun z => nomatch z), hd, r⟩
  · obtain ⟨v, h1, h2⟩ := hv z d e k
    exact ⟨v, h1, h2.mono gg⟩
  · obtain ⟨c, v, h1, h2, h3⟩ := S.cl z d e k
    exact ⟨c, v, h1, cell _ _ h2, h3.mono gg⟩
  · obtain ⟨⟨v, h1⟩, h2⟩ := S.cells p hp
    exact ⟨⟨v, cell _ _ h1⟩, new _ (isCell_ne h1) h2⟩
/-- what a step of law's frame keeps -/
noncomputable def Kx (a : Act) (h h' : Heap) : Prop := ∀ b o, h.get? b = some o → ¬ Mu a [] b → b ∉ a.fr → h'.get? b = some o
noncomputable def Rl (a : Act) (h h' : Heap) : Prop := ∀ b o, h.get? b = some o → ¬ Mu a [] b → b ∉ a.fr → h'.get? b = some o ∨ ((b = 23 ∨ b = 78) ∧ o.cls = .none ∧ ∃ vs more, o.data = .fields vs ∧ h'.get? b = some { o with data := .fields (vs ++ more) })
theorem kx_of {a : Act} {g h g' h' : Heap} (G : GrowX (Mu a []) a.fr g h g' h') : Kx a h h' := fun b o e n1 n2 => by
  obtain ⟨sl, h1, h2⟩ := G.ext b o e n1
  rw [h2 n2] at h1
  exact h1
theorem kx_grow {a : Act} {g h g' h' : Heap} (G : Grow a.fr g h g' h') : Kx a h h' := fun b o e n1 n2 => G.ext.keep e n2
theorem Kx.trans {a : Act} {h h' h'' : Heap} (x : Kx a h h') (y : Kx a h' h'') : Kx a h h'' := fun b o e n1 n2 => y _ _ (x _ _ e n1 n2) n1 n2
theorem Kx.rl {a : Act} {h h' h'' : Heap} (x : Kx a h h') (y : Rl a h' h'') : Rl a h h'' := fun b o e n1 n2 => y _ _ (x _ _ e n1 n2) n1 n2
theorem Rl.kx {a : Act} {h h' h'' : Heap} (x : Rl a h h') (y : Kx a h' h'') : Rl a h h'' := fun b o e n1 n2 => by
  rcases x b o e n1 n2 with q | ⟨q, hc, vs, more, hd, q'⟩
  · exact .inl (y _ _ q n1 n2)
  · exact .inr ⟨q, hc, vs, more, hd, y _ _ q' n1 n2⟩
theorem rl_of {a : Act} {h h' : Heap} {P : Params} {S L : Nat} (K : KFacts P S L h h') : Rl a h h' := fun b o e n1 n2 => by
  by_cases h1 : b = 23 ∨ b = 78
  · rcases K.old.old b o e with q | ⟨_, hc, vs, more, hd, q⟩ | ⟨q, _⟩
    · exact .inl q
    · exact .inr ⟨h1, hc, vs, more, hd, q⟩
    · exact absurd q (by rcases h1 with rfl | rfl <;> decide)
  · exact .inl (K.keep b o e (fun q => h1 (.inl q)) (fun q => h1 (.inr q)))
theorem AOk.in1 (ok : AOk A l (n + 1)) : AOk A.in1 l n := ⟨ok.hand, ok.frames, by show A.depth + n < _; have := ok.dep; exact Nat.le_of_lt ‹_›, by show A.units + 1 + 8 * n + 300 < _; have := ok.uni; omega⟩
theorem codeRec_at {a : Addr} {q : Str} (hx : ∃ o, h.get? a = some o ∧ codeQ (some o) = some q) : h.CodeRec (.ref a) q := by
  obtain ⟨o, ho, hq⟩ := hx
  unfold codeQ at hq
  dsimp only at hq
  split at hq
  · rename_i vs hd
    split at hq
    · rename_i q' t hv
      cases hq
      exact ⟨a, o, vs, t, rfl, ho, hd, hv⟩
    · cases hq
  · cases hq
end
end Mine
end
section
open PySem PySem.W PySem.W.X PyProof.Rows
set_option maxRecDepth 1000000
set_option maxHeartbeats 4000000
set_option linter.unusedVariables false
namespace Mine
/-! places = sorted(range(size), key=cmp_to_key(..)) at law's one context -/
noncomputable def lawA (L : Addr) : Act := fAct (fdOf 81) 81 L callerA []
theorem st4_is : ∃ p1 p2 p3 p4 p5 p6 p7 p8, st4 = .Assign [.Name "places" p1] (.Call (.Name "sorted" p2) [.Call (.Name "range" p3) [.Name "size" p4] [] p5] [⟨some "key", keyE, p6⟩] p7) p8 := ⟨_, _, _, _, _, _, _, _, rfl⟩
theorem olds_k {P : Params} {B : Heap} (K : (heapP P).In B) : ∀ p ∈ kOlds P, B.get? p.1 = some p.2 := fun p hp => by
  unfold kOlds at hp
  simp only [List.mem_cons, List.not_mem_nil, or_false] at hp
  rcases hp with rfl | rfl | rfl | rfl | rfl | rfl | rfl <;> exact K _ _ rfl
noncomputable def asK (Z : Nat) : List Nat := [Z + 68, Z + 67, Z + 69, Z + 24, Z + 32, Z + 7, Z + 6, Z + 23, Z + 31]
theorem asK_low {Z a : Nat} (h : a ∈ asK Z) : Z ≤ a := by
  simp only [asK, List.mem_cons, List.not_mem_nil, or_false] at h
  omega
theorem asK_9 {Z : Nat} : (Z + 9) ∉ asK Z := fun h => by
  simp only [asK, List.mem_cons, List.not_mem_nil, or_false] at h
  omega
theorem mem_of_lookup_f {a : Addr} {o : Obj} : ∀ {l : Frag}, List.lookup a l = some o → (a, o) ∈ l
  | [], h => by simp at h
  | p :: r, h => by
    rw [List.lookup_cons] at h
    by_cases e : a = p.1
    · subst e
      rw [beq_self_eq_true] at h
      cases h; exact .head _
    · rw [show (a == p.1) = false from beq_eq_false_iff_ne.mpr e] at h
      exact .tail _ (mem_of_lookup_f h)
theorem mem_of_lookup_k' {x : Str} {c : Addr} : ∀ {l : List (Str × Addr)}, l.lookup x = some c → (x, c) ∈ l
  | [], h => by simp at h
  | p :: r, h => by
    rw [List.lookup_cons] at h
    by_cases e : x = p.1
    · subst e
      rw [beq_self_eq_true] at h
      cases h; exact .head _
    · rw [show (x == p.1) = false from beq_eq_false_iff_ne.mpr e] at h
      exact .tail _ (mem_of_lookup_k' h)
section
variable {w : World} {B : Heap} {mg mb : Str → Option Value} {σ : Vars} {L : Addr} {p0 : Pos}
theorem places_one {nums : List Int} {n : Nat} {s : Shared} {g : Heap} {Q : Flow → Shared → Prop} {E : Value → Shared → Prop} (b : Bs w.params B mg mb) (hΓ : (lawΓ (fB 15) (lawE L) p0).In (lawA L).A) (ok : (lawA L).Ok 9) (S : Sv B (lawA L) σ [] g s.heap)
    (hn : σ.lookup ("numbers" : Str) = some (D.lst (nums.map D.int))) (hz : σ.lookup ("size" : Str) = some (D.int n)) (hl : nums.length = n) (h37 : 2 ≤ n ∧ n < 64) (h23 : s.heap.get? 23 = some { cls := .none, data := .fields #[] }) (h78 : s.heap.get? 78 = some { cls := .none, data := .fields #[] }) (g23 : g.get? 23 = none) (g78 : g.get? 78 = none)
    (k : ∀ s' g' p, Sv B (lawA L) (("places", .lst (p.toList.map fun (i : Nat) => D.int i)) :: σ) [] g' s'.heap → Same s s' → Rl (lawA L) s.heap s'.heap → PO n p → Srt (fun i => nums.getD i 0) p n → Q .next s') :
    wpOne (model PySem.Challenge.rw_oy0040_01.prog w) (lawΓ (fB 15) (lawE L) p0) (exec st4 (lawE L)) Q E s := by
  obtain ⟨p1, p2, p3, p4, p5, p6, p7, p8, e⟩ := st4_is
  rw [e, arm_exec_Assign]
  rw [show swapsWithSole [.Name "places" p1] (.Call (.Name "sorted" p2) [.Call (.Name "range" p3) [.Name "size" p4] [] p5] [⟨some "key", keyE, p6⟩] p7) p8.line (lawE L) = pure false from rfl]
  refine wpOne_bind (wpOne_standAt (wpOne_bind (wpOne_pure ?_)))
  rw [if_neg (by decide)]
  refine wpOne_bind ?_
  show wpOne _ _ (eval (.Name "sorted" p2) (lawE L) >>= fun f => callWith p7 f [] [(false, eval (.Call (.Name "range" p3) [.Name "size" p4] [] p5) (lawE L))] [(some "key", eval keyE (lawE L) >>= fun v => standAt p7 >>= fun _ => pure v)]) _ E s
  refine wpOne_bind (wpOne_of_any hΓ (b.evb (prog := PySem.Challenge.rw_oy0040_01.prog) (w := w) (own := []) (σ := σ) ok (x := "sorted") (v := .builtin "sorted") rfl rfl (by decide) rfl rfl s g _ _ S fun v₁ s₁ g₁ G₁ Sm₁ r₁ => ?_))
  rw [rep_val.mp r₁]
  have S₁ := S.grow G₁
  refine one_kw (wpOne_of_any hΓ (b.range1 (prog := PySem.Challenge.rw_oy0040_01.prog) (w := w) (own := []) (σ := σ) ok (ev_cell ok hz rfl rfl) rfl (fun _ => rfl) (fun _ => ⟨rfl, _, _, rfl, rfl⟩) s₁ g₁ _ _ S₁ fun v₂ s₂ g₂ G₂ Sm₂ r₂ => ?_))
  have S₂ := S₁.grow G₂
  have G₁₂ := G₁.trans G₂
  have n23 : (23 : Nat) ∉ (lawA L).fr := fun hm => by
    obtain ⟨_, o, ho, hd⟩ := S.ff.mem hm
    rw [h23] at ho; cases ho
    exact hd _ rfl
  have n78 : (78 : Nat) ∉ (lawA L).fr := fun hm => by
    obtain ⟨_, o, ho, hd⟩ := S.ff.mem hm
    rw [h78] at ho; cases ho
    exact hd _ rfl
  have t23 := G₁₂.ext.keep h23 n23
  have t78 := G₁₂.ext.keep h78 n78
  have u23 := none_of_new G₁₂ (by rw [h23]; exact fun z => nomatch z) g23
  have u78 := none_of_new G₁₂ (by rw [h78]; exact fun z => nomatch z) g78
  refine wpOne_bind (k_one (S := s₂.heap.objs.size) rfl (fun p hp => S₂.gh _ _ (S₂.bg _ _ (olds_k b.K p hp))) t23 t78 fun h₃ t₃ K => ?_)
  refine wpOne_bind (wpOne_standAt (wpOne_pure ?_))
  generalize hS : s₂.heap.objs.size = Z at K ⊢
  have k23 : g₂.StaysIn h₃ := fun a o e => K.keep a o (S₂.gh _ _ e) (fun q => by rw [q, u23] at e; cases e) (fun q => by rw [q, u78] at e; cases e)
  have out : ∀ a, Z ≤ a → s₂.heap.get? a = none := fun a ha => Heap.get?_none_of_le (by rw [hS]; exact ha)
  obtain ⟨c, t, l67, l68, l69, c14, c22⟩ := K.cls
  have pg : ∀ a, (pick g₂ h₃ (asK Z)).get? a = if a ∈ asK Z then h₃.get? a else g₂.get? a := fun a => pick_get k23 _
  have own : ∀ a, a ∈ asK Z → (pick g₂ h₃ (asK Z)).get? a = h₃.get? a := fun a ha => by rw [pg, if_pos ha]
  have low : ∀ a, a ∈ asK Z → Z ≤ a := fun a ha => asK_low ha
  have gg : g₂.StaysIn (pick g₂ h₃ (asK Z)) := pick_gg k23 _
  have gh : (pick g₂ h₃ (asK Z)).StaysIn h₃ := pick_stays k23 _
  have n9 : (pick g₂ h₃ (asK Z)).get? (Z + 9) = none := by
    rw [pg, if_neg asK_9]
    exact stays_none S₂.gh (out _ (by exact Nat.le_add_right _ _))
  have S₃ : Sv B (lawA L) σ [] (pick g₂ h₃ (asK Z)) h₃ := S₂.jump gg gh (fun a h1 h2 => by
    rw [pg, if_neg (fun ha => h1 (out a (low a ha)))]
    exact h2) (fun a o e hd => K.keep a o e (fun q => by rw [q, t23] at e; cases e; exact hd _ rfl) (fun q => by rw [q, t78] at e; cases e; exact hd _ rfl))
  have m68 : (Z + 68) ∈ asK Z := by simp [asK]
  have m67 : (Z + 67) ∈ asK Z := by simp [asK]
  have m69 : (Z + 69) ∈ asK Z := by simp [asK]
  have m24 : (Z + 24) ∈ asK Z := by simp [asK]
  have m32 : (Z + 32) ∈ asK Z := by simp [asK]
  have m7 : (Z + 7) ∈ asK Z := by simp [asK]
  have m6 : (Z + 6) ∈ asK Z := by simp [asK]
  have m23 : (Z + 23) ∈ asK Z := by simp [asK]
  have m31 : (Z + 31) ∈ asK Z := by simp [asK]
  have bg₃ : B.StaysIn (pick g₂ h₃ (asK Z)) := S₃.bg
  have kb : KB w.params Z t c (pick g₂ h₃ (asK Z)) := by
    refine ⟨fun a o ha => ?_, c14, c22, codeRec_at ?_, codeRec_at ?_⟩
    · have hm := mem_of_lookup_f ha
      unfold kf at hm
      simp only [List.mem_cons, List.not_mem_nil, or_false, Prod.mk.injEq] at hm
      rcases hm with ⟨rfl, rfl⟩ | ⟨rfl, rfl⟩ | ⟨rfl, rfl⟩ | ⟨rfl, rfl⟩ | ⟨rfl, rfl⟩ | ⟨rfl, rfl⟩
      · rw [own _ m68]; exact l68
      · rw [own _ m67]; exact l67
      · rw [own _ m69]; exact l69
      · rw [own _ m24]; exact K.ini
      · rw [own _ m32]; exact K.lt
      · exact bg₃ _ _ (b.K _ _ rfl)
    · rw [own _ m23]; exact K.c23
    · rw [own _ m31]; exact K.c31
  obtain ⟨cn, nv, hcn, hcell, hrep⟩ := S₃.cl "numbers" _ hn (by rw [show (lawA L).env.kindOf "numbers" = some .cell from rfl]; decide)
  have ecn : cn = L + 6 := by
    rw [show (lawA L).env.cells.lookup ("numbers" : Str) = some (L + 6) from rfl] at hcn
    cases hcn; rfl
  subst ecn
  have C : Cs [(L + 6, nv), (Z + 9, Value.ref (Z + 7))] (pick g₂ h₃ (asK Z)) h₃ := fun p hp => by
    rcases List.mem_cons.mp hp with rfl | hp
    · exact ⟨hcell, (S₃.cells ("numbers", L + 6) (mem_of_lookup_k' hcn)).2⟩
    · rw [List.mem_singleton.mp hp]
      exact ⟨⟨_, K.cell, rfl⟩, n9⟩
  have kl : LamB Z L nums nv [(L + 6, nv), (Z + 9, Value.ref (Z + 7))] (pick g₂ h₃ (asK Z)) := by
    refine ⟨?_, codeRec_at ?_, .head _, .tail _ (.head _), hrep⟩
    · rw [own _ m7]; exact K.lam
    · rw [own _ m6]; exact K.c6
  have SC₃ : SC (pick g₂ h₃ (asK Z)) (lawA L).l [(L + 6, nv), (Z + 9, Value.ref (Z + 7))] (pick g₂ h₃ (asK Z)) h₃ := SC.rebase ⟨S₃.toSh, C⟩
  obtain ⟨r, tr, ur, vr, rfl, hr⟩ := rep_rng.mp r₂
  refine wpOne_of_any hΓ (sorted_keyed (s := ⟨h₃, s₂.gens, s₂.drawn, t₃, s₂.os⟩) (n := n) ok.hand (gh _ _ (gg _ _ hr)) h37 SC₃ (fun vs hvl hv => keyedK (n := 4) (b.mono bg₃) ((AOk.in1 (AOk.in1 ok.a))) kb kl (by omega) (by omega) fun i hi => hv i (by exact Nat.lt_of_lt_of_le ‹_› (Nat.le_of_eq ‹_›))) fun z s' g' p G Sm hp hs R => ?_)
  have S₄ := S₃.grow G
  rw [show swappedStores [.Name "places" p1] (.Call (.Name "sorted" p2) [.Call (.Name "range" p3) [.Name "size" p4] [] p5] [⟨some "key", keyE, p6⟩] p7) (lawE L) = pure none from rfl]
  refine wpOne_bind (wpOne_pure ?_)
  show wpOne _ _ (do assign (.Name "places" p1) (lawE L) z; pure Flow.next) _ _ _
  refine wpOne_bind (wpOne_of_any hΓ (tg_local (prog := PySem.Challenge.rw_oy0040_01.prog) (w := w) (σ := σ) (own := []) ok (x := "places") rfl s' g' z _ _ S₄ R fun s₅ S₅ G₅ Sm₅ => ?_))
  refine wpOne_pure (k s₅ g' p S₅ ?_ (((kx_grow G₁₂).rl (rl_of K)).kx ((kx_grow G).trans (kx_of (G₅.mono fun b _ m => mu_own m)))) hp hs)
  have : Same s₂ ⟨h₃, s₂.gens, s₂.drawn, t₃, s₂.os⟩ := ⟨rfl, rfl, rfl⟩
  exact (((Sm₁.trans Sm₂).trans this).trans Sm).trans Sm₅
end
end Mine
end
section
open PySem PySem.W PySem.W.X PyProof.Rows
set_option maxRecDepth 1000000
set_option maxHeartbeats 4000000
set_option linter.unusedVariables false
namespace Mine
/-! back = _byteswap(text, size) at law's one context -/
section
variable {prog : Program} {w : World} {Γ : Ctx} {E : Value → Shared → Prop} {s : Shared}
theorem wpOne_keep {M : Model} {α : Type} {vs : List Value} {m : Sem α} {Q : α → Shared → Prop} (h : wpOne M Γ m Q E s) : wpOne M Γ (m.keep vs) Q E s := fun p => by rw [Sem.wp_keep]; exact h p
theorem one_fn {pos : Pos} {a : Addr} {o : Obj} {fd : FuncData} {first : List Value} {args : List (Bool × Sem Value)} {Q : Value → Shared → Prop}
    (h : wpOne (model prog w) Γ (evalArgs (.ref a) true args []) (fun x s₁ => (s₁.heap.get? a = some o ∧ o.data = .func fd) ∧ wpOne (model prog w) Γ (call (.ref a) (first ++ x.pos) x.kw) Q E s₁) E s) :
    wpOne (model prog w) Γ (callWith pos (.ref a) first args []) Q E s := by
  unfold callWith
  refine wpOne_bind (wpOne_holding (wpOne_mono h (fun x s₁ h₁ => wpOne_bind (wpOne_standAt ?_)) fun _ _ x => x))
  have tail : ∀ {t : Sem Value}, wpOne (model prog w) Γ t Q E s₁ → wpOne (model prog w) Γ (t >>= fun r => holding [r] point >>= fun _ => pure r) Q E s₁ :=
    fun ht => wpOne_bind (wpOne_mono ht (fun r s₂ hr => wpOne_bind (wpOne_holding (wpOne_point (wpOne_pure hr)))) fun _ _ x => x)
  cases hs : args.any (·.1) <;> simp only [List.any_nil, Bool.or_false] <;>
    refine wpOne_bind (m := keeperOf (.ref a)) ?_ <;> unfold keeperOf <;>
    refine wpOne_bind (wpOne_of_any (in_any Γ) (wpAny_load h₁.1.1 ?_)) <;> rw [h₁.1.2] <;> refine wpOne_pure ?_
  · dsimp only
    by_cases hc : args.length + 2 * ([] : List (Option Str × Sem Value)).length > 30
    · rw [if_pos hc]; exact tail h₁.2
    · rw [if_neg hc]; refine tail ?_; unfold callMarked; exact wpOne_keep h₁.2
  · dsimp only
    refine tail ?_; unfold callMarked; exact wpOne_keep h₁.2
end
noncomputable def st8 : Stmt := (fB 15).getD 8 (.Pass default)
theorem st8_is : ∃ p1 p2 p3 p4 p5 p6, st8 = .Assign [.Name "back" p1] (.Call (.Name "_byteswap" p2) [.Name "text" p3, .Name "size" p4] [] p5) p6 := ⟨_, _, _, _, _, _, rfl⟩
theorem olds_b {P : Params} {B : Heap} (K : (heapP P).In B) : ∀ p ∈ bOlds P, B.get? p.1 = some p.2 := fun p hp => by
  unfold bOlds at hp
  simp only [List.mem_cons, List.not_mem_nil, or_false] at hp
  rcases hp with rfl | rfl | rfl | rfl | rfl <;> exact K _ _ rfl
section
variable {w : World} {B : Heap} {mg mb : Str → Option Value} {σ : Vars} {L : Addr} {p0 : Pos}
theorem back_one {f : Nat → UInt8} {n : Nat} {s : Shared} {g : Heap} {Q : Flow → Shared → Prop} {E : Value → Shared → Prop} (b : Bs w.params B mg mb) (hΓ : (lawΓ (fB 15) (lawE L) p0).In (lawA L).A) (ok : (lawA L).Ok 9) (S : Sv B (lawA L) σ [] g s.heap)
    (hn : σ.lookup ("text" : Str) = some (D.byt (bArr n f))) (hz : σ.lookup ("size" : Str) = some (D.int n)) (h37 : 3 ≤ n ∧ n ≤ 7)
    (k : ∀ s' g', Sv B (lawA L) (("back", .byt (bOut n f)) :: σ) [] g' s'.heap → Same s s' → Kx (lawA L) s.heap s'.heap → Q .next s') :
    wpOne (model PySem.Challenge.rw_oy0040_01.prog w) (lawΓ (fB 15) (lawE L) p0) (exec st8 (lawE L)) Q E s := by
  obtain ⟨p1, p2, p3, p4, p5, p6, e⟩ := st8_is
  rw [e, arm_exec_Assign]
  rw [show swapsWithSole [.Name "back" p1] (.Call (.Name "_byteswap" p2) [.Name "text" p3, .Name "size" p4] [] p5) p6.line (lawE L) = pure false from rfl]
  refine wpOne_bind (wpOne_standAt (wpOne_bind (wpOne_pure ?_)))
  rw [if_neg (by decide)]
  refine wpOne_bind ?_
  show wpOne _ _ (eval (.Name "_byteswap" p2) (lawE L) >>= fun f => callWith p5 f [] (backTo p5 (starEach [.Name "text" p3, .Name "size" p4] (lawE L))) []) _ E s
  refine wpOne_bind (wpOne_of_any hΓ (b.evg (prog := PySem.Challenge.rw_oy0040_01.prog) (w := w) (own := []) (σ := σ) ok (x := "_byteswap") (v := .ref 21) rfl rfl rfl s g _ _ S fun v₁ s₁ g₁ G₁ Sm₁ r₁ => ?_))
  rw [rep_val.mp r₁]
  have S₁ := S.grow G₁
  obtain ⟨o, ho, hd⟩ := b.fn (a := 21) (fd := fdOf 21) rfl
  refine one_fn (o := o) (fd := fdOf 21) (wpOne_of_any hΓ (evAll_args (prog := PySem.Challenge.rw_oy0040_01.prog) (w := w) (a := lawA L) (evAll_cons (ev_cell ok hn rfl rfl) (evAll_cons (ev_cell ok hz rfl rfl) evAll_nil fun _ => rfl) fun _ => rfl) S₁ ⟨_, _, rfl, rfl⟩ fun vs s₂ g₂ G₂ Sm₂ r₂ => ?_))
  have S₂ := S₁.grow G₂
  refine ⟨⟨S₂.gh _ _ (S₂.bg _ _ ho), hd⟩, ?_⟩
  obtain ⟨v1, r', rfl, q1, r'⟩ := repAll_cons.mp r₂
  obtain ⟨v2, r'', rfl, q2, r''⟩ := repAll_cons.mp r'
  rw [repAll_nil.mp r'']
  obtain ⟨t, rfl⟩ := rep_byt.mp q1
  obtain ⟨u, rfl⟩ := rep_int.mp q2
  refine bs_one (f := f) h37 (fun p hp => S₂.gh _ _ (S₂.bg _ _ (olds_b b.K p hp))) fun h' t' t'' keep => ?_
  have G : Grow (lawA L).fr g₂ s₂.heap g₂ h' := Grow.plain S₂.gh keep
  have S₃ := S₂.grow G
  rw [show swappedStores [.Name "back" p1] (.Call (.Name "_byteswap" p2) [.Name "text" p3, .Name "size" p4] [] p5) (lawE L) = pure none from rfl]
  refine wpOne_bind (wpOne_pure ?_)
  show wpOne _ _ (do assign (.Name "back" p1) (lawE L) (.bytes (bOut n f) t''); pure Flow.next) _ _ _
  refine wpOne_bind (wpOne_of_any hΓ (tg_cell (prog := PySem.Challenge.rw_oy0040_01.prog) (w := w) (σ := σ) (own := []) ok (x := "back") (c := L + 5) rfl rfl (List.mem_map_of_mem (f := (·.2)) (mem_of_lookup_k' (x := "back") rfl)) ⟨h', s₂.gens, s₂.drawn, t', s₂.os⟩ g₂ _ _ _ S₃ (rep_byt.mpr ⟨_, rfl⟩) fun s₅ S₅ G₅ Sm₅ => ?_))
  refine wpOne_pure (k s₅ g₂ S₅ ?_ ((((kx_grow G₁).trans (kx_grow G₂)).trans (kx_grow G)).trans (kx_of (G₅.mono fun b _ m => mu_own m))))
  have : Same s₂ ⟨h', s₂.gens, s₂.drawn, t', s₂.os⟩ := ⟨rfl, rfl, rfl⟩
  exact ((Sm₁.trans Sm₂).trans this).trans Sm₅
end
end Mine
end
section
open PySem PySem.W PySem.W.X PyProof.Rows
set_option maxRecDepth 100000
set_option maxHeartbeats 4000000
set_option linter.unusedVariables false
namespace Mine
/-! octets: len, bytes(list), slices, isinstance -/
section
variable {prog : Program} {w : World} {B : Heap} {A : Around} {l : List Env} {a : Act} {σ : Vars} {own : Owns} {n : Nat}
theorem op_len_byt (b : Array UInt8) (h : b.size ≤ 1000000) : Op prog w B A l own (fun vs => call (.builtin "len") vs) [.byt b] (.int b.size) := fun s g vs Q E S R k => by
  obtain ⟨v, r, rfl, r₁, r'⟩ := repAll_cons.mp R
  rw [repAll_nil.mp r']
  obtain ⟨t, rfl⟩ := rep_byt.mp r₁
  exact len_bytes (by omega) (k _ { s with toks := s.toks + 1 + 1 } g (.refl S.gh) ⟨rfl, rfl, rfl⟩ (rep_int.mpr ⟨_, rfl⟩))
theorem op_isi_byt (b : Array UInt8) : Op prog w B A l own (fun vs => call (.builtin "isinstance") vs) [.byt b, .val (.type "bytes")] (dBool true) := fun s g vs Q E S R k => by
  obtain ⟨v, r, rfl, r₁, r'⟩ := repAll_cons.mp R
  obtain ⟨v', r', rfl, r₂, r''⟩ := repAll_cons.mp r'
  rw [repAll_nil.mp r'', rep_val.mp r₂]
  obtain ⟨t, rfl⟩ := rep_byt.mp r₁
  exact call_isinstance (isinstance_true (Tx := "bytes") F.isi_meta_bytes F.sub_bytes_bytes) ⟨typeIs_bytes _ _ _, k _ s g (.refl S.gh) (.refl s) (rep_val.mpr rfl)⟩
theorem op_bytes (hh : A.handled = none) (ns : List Int) (hr : ∀ n ∈ ns, 0 ≤ n ∧ n < 256) (hz : ns.length ≤ 1000000) : Op prog w B A l own (fun vs => call (.type "bytes") vs) [.lst (ns.map .int)] (.byt (byteArr ns)) := fun s g vs Q E S R k => by
  obtain ⟨v, r, rfl, r₁, r'⟩ := repAll_cons.mp R
  rw [repAll_nil.mp r']
  obtain ⟨x, us, rfl, la, ra⟩ := rep_lst.mp r₁
  have hi := ints_of_rep ra
  refine call_bytes_ints (stays_isList S.gh la.isList) hi hr (by rw [hi.length, sizeLine_eq]; omega) hh fun h' t k' keep => ?_
  exact k _ { s with heap := h', toks := k' } g (Grow.plain S.gh keep) ⟨rfl, rfl, rfl⟩ (rep_byt.mpr ⟨_, rfl⟩)
theorem ev_bslice {value : Expr} {lower upper : Option Expr} {p pos : Pos} {b : Array UInt8} {lo hi : Option Int} (hv : Ev prog w B a σ own value (.byt b)) (hl : Pt prog w B a σ own lower lo) (hu : Pt prog w B a σ own upper hi)
    (hsz : b.size ≤ 1000000) (hf : SubForm (.Slice lower upper none p)) : Ev prog w B a σ own (.Subscript value (.Slice lower upper none p) pos) (.byt (KBy.picked b lo hi)) := fun s g Q E S k => by
  refine Subscript_ (hv s g _ _ S fun v s₁ g₁ G₁ S₁ r₁ => wpAny_Slice (hl s₁ g₁ _ _ (S.grow G₁) fun vl s₂ g₂ G₂ S₂ p₂ => hu s₂ g₂ _ _ ((S.grow G₁).grow G₂) fun vu s₃ g₃ G₃ S₃ p₃ => pt_none s₃ g₃ _ _ (((S.grow G₁).grow G₂).grow G₃) fun vk s₄ g₄ G₄ S₄ p₄ => ?_))
  obtain ⟨t, rfl⟩ := rep_byt.mp r₁
  have G := ((G₁.trans G₂).trans G₃).trans G₄
  cases p₄
  obtain ⟨ops, ho⟩ := hf (.bytes b t) (.ref s₄.heap.objs.size)
  have G' := grow_push G { cls := .type "slice", data := .fields #[vl, vu, .none] }
  refine tail_any (typeIs_bytes _ _ _) FB.slot_bytes_getitem.lookup (getItem_meets (typeIs_bytes _ _ _) (by decide) FB.slot_bytes_getitem FB.entry_bytes_getitem (FB.args_bytes_getitem_2 _ _) (KBc.meets_slice2 b t _ p₂ p₃)
    ⟨Heap.IsSliceOf.new _ _ _ _, Nat.le_trans (KBc.size_picked_le b lo hi) (by rw [sizeLine_eq]; omega), fun t' k' => ?_⟩) ho
  exact k _ { s₄ with heap := s₄.heap.push { cls := .type "slice", data := .fields #[vl, vu, .none] }, toks := k' } g₄ G' (((S₁.trans S₂).trans S₃).trans (S₄.trans ⟨rfl, rfl, rfl⟩)) (rep_byt.mpr ⟨_, rfl⟩)
end
end Mine
end
section
open PySem PySem.W PyProof.Rows
set_option maxRecDepth 10000
set_option linter.unusedVariables false
namespace Mine
noncomputable abbrev Tab := List (List Int)
noncomputable def rowA (R : Tab) (r : Nat) : List Int := R.getD r []
noncomputable def cellA (R : Tab) (r c : Nat) : Int := (rowA R r).getD c 0
noncomputable def okC (R : Tab) (p : Nat × Nat) : Bool := decide (p.1 < R.length) && decide (p.2 < (rowA R p.1).length)
noncomputable def nearOf (R : Tab) (a b : Nat) : List (List Int) := ([(a, b + 1), (a + 1, b)].filter (okC R)).map fun p => [cellA R p.1 p.2, p.1, p.2]
noncomputable def putC (R : Tab) (a b : Nat) (v : Int) : Tab := R.set a ((rowA R a).set b v)
noncomputable def slideF : Nat → Tab → Nat → Nat → Tab × Nat × Nat
  | 0, R, a, b => (R, a, b)
  | f + 1, R, a, b => if nearOf R a b = [] then (R, a, b) else
    slideF f (putC R a b ((minT (nearOf R a b)).getD 0 0)) ((minT (nearOf R a b)).getD 1 0).toNat ((minT (nearOf R a b)).getD 2 0).toNat
noncomputable def fuelE (R : Tab) : Nat := R.length + (rowA R 0).length
noncomputable def emptyStep (s : Tab × Tab) (label : Int) : Tab × Tab :=
  let r := slideF (fuelE s.1) s.1 0 0
  (r.1.set r.2.1 (rowA r.1 r.2.1).dropLast, putC s.2 r.2.1 r.2.2 label)
noncomputable def cellsN (R : Tab) : Nat := (R.map List.length).sum
noncomputable def emptyLoop (N m : Nat) (s : Tab × Tab) : Tab × Tab := (List.range m).foldl (fun s (i : Nat) => emptyStep s ((N : Int) - 1 + (i : Int) * (-1))) s
noncomputable def emptied (T : Tab) : Tab := (emptyLoop (cellsN T) (cellsN T) (T, T)).2

theorem rowA_set (R : Tab) (a : Nat) (x : List Int) (i : Nat) : rowA (R.set a x) i = if i = a ∧ a < R.length then x else rowA R i := by
  unfold rowA
  rw [List.getD_eq_getElem?_getD, List.getD_eq_getElem?_getD, List.getElem?_set]
  by_cases h : a = i
  · subst h
    by_cases h' : a < R.length
    · simp [h']
    · simp [h', List.getElem?_eq_none (Nat.le_of_not_lt h')]
  · rw [if_neg h, if_neg (fun z => h z.1.symm)]
theorem putC_len (R : Tab) (a b : Nat) (v : Int) (i : Nat) : (rowA (putC R a b v) i).length = (rowA R i).length := by
  unfold putC
  rw [rowA_set]
  split
  · rename_i h; rw [h.1, List.length_set]
  · rfl
theorem putC_size (R : Tab) (a b : Nat) (v : Int) : (putC R a b v).length = R.length := by unfold putC; rw [List.length_set]
theorem rowA_out {R : Tab} {i : Nat} (h : R.length ≤ i) : rowA R i = [] := by unfold rowA; rw [List.getD_eq_getElem?_getD, List.getElem?_eq_none h]; rfl
/-- rows that grow no longer -/
noncomputable def Shape (R : Tab) : Prop := ∀ i, (rowA R (i + 1)).length ≤ (rowA R i).length
theorem Shape.le {R : Tab} (h : Shape R) : ∀ {i j : Nat}, i ≤ j → (rowA R j).length ≤ (rowA R i).length := by
  intro i j hij
  induction hij with
  | refl => exact Nat.le_refl _
  | step _ ih => exact Nat.le_trans (h _) ih
theorem shape_putC {R : Tab} (h : Shape R) (a b : Nat) (v : Int) : Shape (putC R a b v) := fun i => by rw [putC_len, putC_len]; exact h i
theorem fuel_putC (R : Tab) (a b : Nat) (v : Int) : fuelE (putC R a b v) = fuelE R := by unfold fuelE; rw [putC_size, putC_len]
theorem okC_iff (R : Tab) (p : Nat × Nat) : okC R p = true ↔ p.2 < (rowA R p.1).length := by
  unfold okC
  simp only [Bool.and_eq_true, decide_eq_true_eq]
  refine ⟨fun h => h.2, fun h => ⟨?_, h⟩⟩
  exact Nat.lt_of_not_le fun z => by rw [rowA_out z] at h; simp at h
theorem minT_mem : ∀ {xs : List (List Int)}, xs ≠ [] → minT xs ∈ xs
  | [], h => absurd rfl h
  | x :: r, _ => by
    unfold minT
    have : ∀ (r : List (List Int)) (m : List Int), r.foldl (fun m y => if lexI y m then y else m) m = m ∨ r.foldl (fun m y => if lexI y m then y else m) m ∈ r := by
      intro r
      induction r with
      | nil => intro m; exact .inl rfl
      | cons y r ih =>
        intro m
        rw [List.foldl_cons]
        split
        · rcases ih y with e | e
          · right; rw [e]; exact .head _
          · right; exact .tail _ e
        · rcases ih m with e | e
          · left; exact e
          · right; exact .tail _ e
    rcases this r x with e | e
    · show r.foldl _ x ∈ _; rw [e]; exact .head _
    · exact .tail _ e
theorem near_mem {R : Tab} {a b : Nat} {x : List Int} (h : x ∈ nearOf R a b) : ∃ p : Nat × Nat, (p = (a, b + 1) ∨ p = (a + 1, b)) ∧ okC R p = true ∧ x = [cellA R p.1 p.2, (p.1 : Int), (p.2 : Int)] := by
  unfold nearOf at h
  obtain ⟨p, hp, rfl⟩ := List.mem_map.mp h
  obtain ⟨h1, h2⟩ := List.mem_filter.mp hp
  refine ⟨p, ?_, h2, rfl⟩
  rcases List.mem_cons.mp h1 with e | h1
  · exact .inl e
  · exact .inr (List.mem_singleton.mp h1)
theorem near_nil {R : Tab} {a b : Nat} (h : nearOf R a b = []) : (rowA R a).length ≤ b + 1 ∧ (rowA R (a + 1)).length ≤ b := by
  unfold nearOf at h
  have h := List.map_eq_nil_iff.mp h
  rw [List.filter_eq_nil_iff] at h
  have h1 := h (a, b + 1) (.head _)
  have h2 := h (a + 1, b) (.tail _ (.head _))
  rw [okC_iff] at h1 h2
  exact ⟨Nat.le_of_not_lt h1, Nat.le_of_not_lt h2⟩
/-- what holds while the hole slides -/
structure SlOk (R : Tab) (a b : Nat) : Prop where
  shape : Shape R
  cell : b < (rowA R a).length
theorem SlOk.row {R : Tab} {a b : Nat} (h : SlOk R a b) : a < R.length := Nat.lt_of_not_le fun z => by have := h.cell; rw [rowA_out z] at this; simp at this
theorem SlOk.fuel {R : Tab} {a b : Nat} (h : SlOk R a b) : a + b < fuelE R := by
  have h1 := h.row
  have h2 := h.shape.le (Nat.zero_le a)
  have h3 := h.cell
  unfold fuelE; omega
structure Step (R : Tab) (a b : Nat) (R' : Tab) (a' b' : Nat) : Prop where
  ok : SlOk R' a' b'
  sum : a' + b' = a + b + 1
  fuel : fuelE R' = fuelE R
  lens : ∀ i, (rowA R' i).length = (rowA R i).length
  size : R'.length = R.length
theorem sl_step {R : Tab} {a b : Nat} (h : SlOk R a b) (hn : nearOf R a b ≠ []) :
    ∃ (v : Int) (a' b' : Nat), minT (nearOf R a b) = [v, (a' : Int), (b' : Int)] ∧ Step R a b (putC R a b v) a' b' ∧ ∀ f, slideF (f + 1) R a b = slideF f (putC R a b v) a' b' := by
  obtain ⟨p, hp, ho, he⟩ := near_mem (minT_mem hn)
  refine ⟨cellA R p.1 p.2, p.1, p.2, he, ⟨⟨shape_putC h.shape _ _ _, ?_⟩, ?_, fuel_putC _ _ _ _, putC_len _ _ _ _, putC_size _ _ _ _⟩, fun f => ?_⟩
  · rw [putC_len]; exact (okC_iff R p).mp ho
  · rcases hp with rfl | rfl
    · show a + (b + 1) = a + b + 1; rfl
    · show a + 1 + b = a + b + 1; exact Nat.add_right_comm _ _ _
  · rw [slideF, if_neg hn, he]; rfl
theorem slide_end {R : Tab} {a b : Nat} (hn : nearOf R a b = []) (f : Nat) : slideF f R a b = (R, a, b) := by
  cases f with
  | zero => rfl
  | succ f => rw [slideF, if_pos hn]
/-- the slide's end -/
theorem slide_ok : ∀ (f : Nat) {R : Tab} {a b : Nat}, SlOk R a b → fuelE R ≤ f + (a + b) → ∃ R' a' b', slideF f R a b = (R', a', b') ∧ SlOk R' a' b' ∧ nearOf R' a' b' = [] ∧ (∀ i, (rowA R' i).length = (rowA R i).length) ∧ R'.length = R.length
  | 0, R, a, b, h, hf => by have := h.fuel; omega
  | f + 1, R, a, b, h, hf => by
    by_cases hn : nearOf R a b = []
    · exact ⟨R, a, b, slide_end hn _, h, hn, fun _ => rfl, rfl⟩
    · obtain ⟨v, a', b', _, st, e⟩ := sl_step h hn
      obtain ⟨R', a'', b'', h1, h2, h3, h4, h5⟩ := slide_ok f st.ok (by rw [st.fuel, st.sum]; exact Om.sf6 ‹_›)
      exact ⟨R', a'', b'', (e f).trans h1, h2, h3, fun i => (h4 i).trans (st.lens i), h5.trans st.size⟩
theorem cellsN_eq (R : Tab) : cellsN R = ((List.range R.length).map fun i => (rowA R i).length).sum := by
  unfold cellsN
  congr 1
  apply List.ext_getElem
  · simp
  · intro i h1 h2
    have : i < R.length := by simpa using h1
    simp [rowA, List.getD_eq_getElem?_getD, this]
/-- between the labels -/
structure EmOk (N k : Nat) (T : Tab) (s : Tab × Tab) : Prop where
  shape : Shape s.1
  r : s.1.length = T.length
  g : s.2.length = T.length
  le : ∀ i, (rowA s.1 i).length ≤ (rowA T i).length
  gl : ∀ i, (rowA s.2 i).length = (rowA T i).length
  sum : cellsN s.1 + k = N
theorem cells_set : ∀ (R : Tab) (a : Nat) (x : List Int), a < R.length → cellsN (R.set a x) + (rowA R a).length = cellsN R + x.length
  | [], a, x, h => by simp at h
  | r :: R, 0, x, h => by simp [cellsN, rowA]; omega
  | r :: R, a + 1, x, h => by
    have := cells_set R a x (by simpa using h)
    simp only [cellsN, List.set_cons_succ, List.map_cons, List.sum_cons] at this ⊢
    have e : rowA (r :: R) (a + 1) = rowA R a := by unfold rowA; rfl
    rw [e]; omega
theorem cells_lens {R R' : Tab} (h : ∀ i, (rowA R' i).length = (rowA R i).length) (hl : R'.length = R.length) : cellsN R' = cellsN R := by
  rw [cellsN_eq, cellsN_eq, hl]; congr 1; apply List.map_congr_left; intro i _; exact h i
theorem cells_zero {R : Tab} (hs : Shape R) (h0 : (rowA R 0).length = 0) : cellsN R = 0 := by
  rw [cellsN_eq]
  have : (List.range R.length).map (fun i => (rowA R i).length) = (List.range R.length).map fun _ => 0 := List.map_congr_left fun i _ => by
    have := hs.le (Nat.zero_le i); omega
  rw [this]
  generalize List.range R.length = l
  induction l with
  | nil => rfl
  | cons _ _ ih => simpa using ih
theorem em_start {N k : Nat} {T : Tab} {s : Tab × Tab} (h : EmOk N k T s) (hk : k < N) : SlOk s.1 0 0 := by
  refine ⟨h.shape, Nat.pos_of_ne_zero fun z => ?_⟩
  have := cells_zero h.shape z
  have := h.sum
  omega
theorem em_step {N k : Nat} {T : Tab} {s : Tab × Tab} (h : EmOk N k T s) {R' : Tab} {a b : Nat} (hs : SlOk R' a b) (hn : nearOf R' a b = []) (hl : ∀ i, (rowA R' i).length = (rowA s.1 i).length) (hz : R'.length = s.1.length) (hk : k < N) (label : Int) :
    EmOk N (k + 1) T (R'.set a (rowA R' a).dropLast, putC s.2 a b label) := by
  obtain ⟨h1, h2⟩ := near_nil hn
  have hc := hs.cell
  have ha := hs.row
  have hlen : ∀ i, (rowA (R'.set a (rowA R' a).dropLast) i).length = if i = a then b else (rowA R' i).length := fun i => by
    rw [rowA_set]
    by_cases e : i = a
    · rw [if_pos ⟨e, ha⟩, if_pos e, List.length_dropLast]; omega
    · rw [if_neg (fun z => e z.1), if_neg e]
  refine ⟨fun i => ?_, by simp [hz, h.r], by rw [putC_size]; exact h.g, fun i => ?_, fun i => by rw [putC_len]; exact h.gl i, ?_⟩
  · rw [hlen, hlen]
    have := hs.shape i
    by_cases e : i = a
    · subst e; rw [if_pos rfl, if_neg (Nat.succ_ne_self _)]; exact h2
    · rw [if_neg e]
      by_cases e' : i + 1 = a
      · rw [if_pos e']; rw [e'] at this; exact Nat.le_trans (Nat.le_of_lt ‹_›) ‹_›
      · rw [if_neg e']; exact this
  · rw [hlen]
    have h3 := h.le i
    rw [← hl i] at h3
    by_cases e : i = a
    · rw [if_pos e]; rw [e] at h3 ⊢; exact Nat.le_trans (Nat.le_of_lt ‹_›) ‹_›
    · rw [if_neg e]; exact h3
  · have h4 := cells_set R' a (rowA R' a).dropLast ha
    rw [List.length_dropLast] at h4
    have h5 := cells_lens hl hz
    have h6 := h.sum
    show cellsN (R'.set a (rowA R' a).dropLast) + (k + 1) = N
    omega
theorem emptyLoop_succ (N m : Nat) (s : Tab × Tab) : emptyLoop N (m + 1) s = emptyStep (emptyLoop N m s) ((N : Int) - 1 + (m : Int) * (-1)) := by unfold emptyLoop; rw [List.range_succ, List.foldl_append]; rfl
theorem em_loop {T : Tab} (hT : Shape T) : ∀ k, k ≤ cellsN T → EmOk (cellsN T) k T (emptyLoop (cellsN T) k (T, T))
  | 0, _ => ⟨hT, rfl, rfl, fun _ => Nat.le_refl _, fun _ => rfl, by simp [emptyLoop]⟩
  | k + 1, hk => by
    have h := em_loop hT k (by exact Nat.le_of_lt ‹_›)
    rw [emptyLoop_succ]
    obtain ⟨R', a, b, h1, h2, h3, h4, h5⟩ := slide_ok (fuelE (emptyLoop (cellsN T) k (T, T)).1) (em_start h (by assumption)) (by exact Nat.le_refl _)
    unfold emptyStep
    rw [h1]
    exact em_step h h2 h3 h4 h5 (by assumption) _
end Mine
end
section
open PySem PySem.W PyProof.Rows
set_option maxRecDepth 10000
set_option linter.unusedVariables false
namespace Mine
noncomputable def intsT (R : Tab) : List (List D) := R.map (List.map D.int)
theorem ownSet_app {pre own own' : Owns} {Z : Addr} {ds ds' : List D} (h : OwnSet own Z ds ds' own') : OwnSet (pre ++ own) Z ds ds' (pre ++ own') := by
  induction pre with
  | nil => exact h
  | cons p pre ih => exact .tail ih
theorem ownSet_zip : ∀ {Zs : List Addr} {dss : List (List D)} {i : Nat} {Z : Addr} {ds ds' : List D} {rest : Owns}, Zs[i]? = some Z → dss[i]? = some ds → OwnSet (Zs.zip dss ++ rest) Z ds ds' (Zs.zip (dss.set i ds') ++ rest)
  | [], _, _, _, _, _, _, h, _ => by simp at h
  | _ :: _, [], _, _, _, _, _, _, h => by simp at h
  | Y :: Zs, d :: dss, 0, Z, ds, ds', rest, h, h' => by
    have e : Y = Z := by simpa using h
    have e' : d = ds := by simpa using h'
    subst e e'
    exact .head
  | Y :: Zs, d :: dss, i + 1, Z, ds, ds', rest, h, h' => .tail (ownSet_zip (by simpa using h) (by simpa using h'))
theorem mem_zip_at : ∀ {Zs : List Addr} {dss : List (List D)} {i : Nat} {Z : Addr} {ds : List D}, Zs[i]? = some Z → dss[i]? = some ds → (Z, ds) ∈ Zs.zip dss
  | [], _, _, _, _, h, _ => by simp at h
  | _ :: _, [], _, _, _, _, h => by simp at h
  | Y :: Zs, d :: dss, 0, Z, ds, h, h' => by
    have e : Y = Z := by simpa using h
    have e' : d = ds := by simpa using h'
    subst e e'
    exact .head _
  | Y :: Zs, d :: dss, i + 1, Z, ds, h, h' => .tail _ (mem_zip_at (by simpa using h) (by simpa using h'))
theorem intsT_at {R : Tab} {a : Nat} (h : a < R.length) : (intsT R)[a]? = some ((rowA R a).map D.int) := by
  unfold intsT rowA
  rw [List.getElem?_map, List.getD_eq_getElem?_getD, List.getElem?_eq_getElem h]; rfl
theorem refs_at {Zs : List Addr} {a : Nat} {Z : Addr} (h : Zs[a]? = some Z) : (refsD Zs)[a]? = some (.val (.ref Z)) := by unfold refsD; rw [List.getElem?_map, h]; rfl
theorem intsT_put (R : Tab) (a b : Nat) (v : Int) : intsT (putC R a b v) = (intsT R).set a (((rowA R a).map D.int).set b (.int v)) := by
  unfold intsT putC; rw [List.map_set, List.map_set]
theorem cell_at {R : Tab} {r c : Nat} (h : c < (rowA R r).length) : ((rowA R r).map D.int)[c]? = some (.int (cellA R r c)) := by
  unfold cellA; rw [List.getElem?_map, List.getD_eq_getElem?_getD, List.getElem?_eq_getElem h]; rfl
noncomputable def ownE (Zg Zr : List Addr) (G R : Tab) : Owns := Zg.zip (intsT G) ++ (Zr.zip (intsT R) ++ [])
theorem subs_refs (own : Owns) : ∀ (Zs : List Addr) (dss : List (List D)), Zs.length = dss.length → (∀ p ∈ Zs.zip dss, own.lookup p.1 = some p.2) → subs own (refsD Zs) = dss.map .lst
  | [], [], _, _ => rfl
  | Z :: Zs, d :: dss, h, hl => by
    show sub own (.val (.ref Z)) :: subs own (refsD Zs) = _
    have h0 : own.lookup Z = some d := hl (Z, d) (.head _)
    rw [subs_refs own Zs dss (by simpa using h) fun p hp => hl p (.tail _ hp)]
    simp only [sub, h0, List.map_cons]
  | [], _ :: _, h, _ => by simp at h
  | _ :: _, [], h, _ => by simp at h
theorem own_lookup : ∀ {own : Owns} {p : Addr × List D}, OwnNd own → p ∈ own → own.lookup p.1 = some p.2
  | [], p, _, hp => nomatch hp
  | q :: r, p, nd, hp => by
    unfold OwnNd at nd
    rw [List.map_cons, List.nodup_cons] at nd
    rw [List.lookup_cons]
    rcases List.mem_cons.mp hp with rfl | hp
    · rw [beq_self_eq_true]
    · have : (p.1 == q.1) = false := by rw [beq_eq_false_iff_ne]; exact fun e => nd.1 (e ▸ List.mem_map_of_mem hp)
      rw [this]; exact own_lookup nd.2 hp
section
variable {prog : Program} {w : World} {B : Heap} {mg mb : Str → Option Value} {A : Around} {l : List Env} {own : Owns} {n : Nat} {P : Params} {a : Act} {σ : Vars}
theorem emp_fn (b : Bs P B mg mb) : ∃ o, B.get? 66 = some o ∧ o.data = .func (fdOf 66) := b.fn rfl
theorem emp_ok (b : Bs P B mg mb) : FnOk B (fdOf 66) ["table"] (bdOf 66) := b.ok rfl rfl rfl fun vs h => by
  match vs, h with
  | [x], _ => rfl
theorem it_down (hh : A.handled = none) {m : Nat} (h : m < 2 ^ 60) : It prog w B A l own (.rng ((m : Int) - 1) (-1) (-1)) ((List.range m).map fun (i : Nat) => D.int ((m : Int) - 1 + (i : Int) * (-1))) := by
  refine it_rng hh (PySem.W.small_down (by omega) (by omega) (by exact Int.natCast_nonneg _) (by exact Int.natCast_nonneg _)) ?_
  rw [PySem.W.rangeSize_downNat]; omega
noncomputable def esD : D → List D
  | .lst l => l
  | _ => []
set_option maxHeartbeats 4000000 in
/-- where the slide stands -/
structure NearI (Zr Zg : List Addr) (n : Nat) (s : Tab × Tab) (label : Int) (ne : D → Bool → Prop) (R : Tab) (x y : Nat) (fin : Bool) (dn : D) (m : Nat) (σ : Vars) (own : Owns) : Prop where
  own : own = ownE Zg Zr s.2 R
  V : VS [("label", .int label), ("rows", .lst (refsD Zr)), ("given", .lst (refsD Zg)), ("a", .int x), ("b", .int y), ("near", dn)] σ
  sl : SlOk R x y
  ln : ∀ i, (rowA R i).length = (rowA s.1 i).length
  rl : R.length = n
  op : ne dn fin
  f0 : fin = false → m = fuelE R - (x + y) + 1 ∧ slideF (fuelE R - (x + y)) R x y = slideF (fuelE s.1) s.1 0 0
  f1 : fin = true → m = 0 ∧ nearOf R x y = [] ∧ slideF (fuelE s.1) s.1 0 0 = (R, x, y)
theorem op_emp (b : Bs P B mg mb) (ok : AOk A l (n + 2)) (T : Tab) (hT : Shape T) (hl : T.length < 50) (hr : ∀ r ∈ T, r.length < 50) (hN : cellsN T < 200) :
    Op prog w B A l own (fun vs => call (.ref 66) vs) [eT2 T] (eT2 (emptied T)) := by
  obtain ⟨o, ho, hd⟩ := emp_fn b
  refine op_fn b.G ok ho hd (emp_ok b) rfl fun L => ?_
  have ok' : (fAct (fdOf 66) 66 L A l).Ok (n + 1) := fAct_ok ok (emp_ok b)
  have hsz : ∀ {m : Nat}, m < 300 → m ≤ sizeLine := fun h => by unfold sizeLine; exact Om.le_c ‹_› rfl
  have h63 : ∀ {m : Nat}, m < 300 → m < 2 ^ 63 := fun h => by exact Om.lt_c ‹_› rfl
  have hu : (fAct (fdOf 66) 66 L A l).A.units + 200 < cLine := by have := ok'.uni; exact Om.u_d ‹_› rfl
  have hrl : ∀ i, (rowA T i).length < 50 := fun i => by
    by_cases h : i < T.length
    · unfold rowA; exact hr _ (getD_mem h)
    · rw [rowA_out (Nat.le_of_not_lt h)]; decide
  have mk : ∀ {own : Owns} {pos : Pos} {σ : Vars}, True := trivial
  refine ex_assign (evK_tuple (evAllK_cons (evk_comp_own (ds := T.map eR) esD (fun _ => rfl) rfl (ev_local ok' rfl rfl rfl) (it_lst ok'.hand _) ok' (fun C own' okc d hd' => ?b1) (hsz (by simp; exact Om.lt_c ‹_› rfl)) fun Zr hZr =>
    evAllK_cons (evk_comp_own (ds := T.map eR) esD (fun _ => rfl) rfl (ev_local ok' rfl rfl rfl) (it_lst ok'.hand _) ok' (fun C own' okc d hd' => ?b2) (hsz (by simp; exact Om.lt_c ‹_› rfl)) fun Zg hZg => evAllK_nil ⟨hsz (m := 2) (by decide), _, tg_pair ok' (tg_cell ok' rfl rfl (.head _)) (tg_local ok' rfl) rfl, ?_⟩) fun _ => rfl) fun _ => rfl)) rfl rfl rfl
  case b1 =>
    obtain ⟨r, hr', rfl⟩ := List.mem_map.mp hd'
    exact ⟨_, tg_local okc rfl, evf_listcall (b.evb okc) (evAll_cons (ev_local okc rfl rfl rfl) evAll_nil fun _ => rfl) (fun _ => ⟨rfl, _, _, rfl, rfl⟩) (hsz (by have := hr r hr'; simp [esD]; exact Om.lt_c ‹_› rfl))⟩
  case b2 =>
    obtain ⟨r, hr', rfl⟩ := List.mem_map.mp hd'
    exact ⟨_, tg_local okc rfl, evf_listcall (b.evb okc) (evAll_cons (ev_local okc rfl rfl rfl) evAll_nil fun _ => rfl) (fun _ => ⟨rfl, _, _, rfl, rfl⟩) (hsz (by have := hr r hr'; simp [esD]; exact Om.lt_c ‹_› rfl))⟩
  have hes : (T.map eR).map esD = intsT T := by unfold intsT; rw [List.map_map]; rfl
  rw [hes]
  have hZr : Zr.length = T.length := by simpa using hZr
  have hZg : Zg.length = T.length := by simpa using hZg
  obtain ⟨N, hNd⟩ : ∃ N, N = cellsN T := ⟨_, rfl⟩
  refine ex_for (d := .rng ((N : Int) - 1) (-1) (-1)) (ds := (List.range N).map fun (i : Nat) => D.int ((N : Int) - 1 + (i : Int) * (-1)))
    (ev_call_t (b.evb ok') (evAll_cons (ev_binop ((ev_call_b (b.evb ok') (evAll_cons ((EvF.ev (Cp.evf (cp1 T eR (fun x y h => (enR 0).inj h) (fun _ => true) (fun r => .int (r.length : Nat)) [] (ev_local ok' rfl rfl rfl) (it_lst ok'.hand _) (fun C => vis_nil) ok' (fun C okc r hr' => ?cb) (hsz (by exact Om.lt_c ‹_› rfl)) (fun _ => rfl) rfl))).to
      (.lst ((T.map fun (r : List Int) => (r.length : Int)).map .int)) (by rw [filt_true, List.map_map]; rfl)) evAll_nil fun _ => rfl) (op_sum ok'.hand _) fun _ => ⟨rfl, _, _, rfl, rfl⟩).to (.int N) ?csum) ev_int (op_sub_int _ _)) (evAll_cons (ev_unary ev_int (op_neg_int _)) (evAll_cons (ev_unary ev_int (op_neg_int _)) evAll_nil fun _ => rfl) fun _ => rfl) fun _ => rfl) (op_range3 _ _ _ (by decide) ?pyl) fun _ => ⟨rfl, _, _, rfl, rfl⟩) (it_down ok'.hand (by exact Om.lt_g ‹_› ‹_› rfl))
    (fun k σ own => k ≤ N ∧ own = ownE Zg Zr (emptyLoop N k (T, T)).2 (emptyLoop N k (T, T)).1 ∧ VS [("rows", .lst (refsD Zr)), ("given", .lst (refsD Zg))] σ) ⟨by exact Nat.zero_le _, rfl, vs_cons rfl (vs_cons rfl vs_nil)⟩ (fun k d σ own hk hI => ?body) (fun σ own hI => ?fin) (fun _ => rfl)
  case cb => exact ⟨_, tg_local okc rfl, ts_nil, fun _ => (b.len okc (ev_local okc rfl rfl rfl) (by rw [List.length_map]; exact h63 (by have := hr r hr'; exact Om.lt_c ‹_› rfl))).to _ (by rw [List.length_map]), sub_cons rfl⟩
  case csum =>
    rw [sumD_eq, hNd]
    congr 1
    unfold cellsN
    generalize T = T
    induction T with
    | nil => rfl
    | cons r R ih => simp only [List.map_cons, List.sum_cons, Int.natCast_add] at ih ⊢; omega
  case pyl => exact PyProof.noPylong_small (by exact Nat.le_add_left _ _)
  case fin =>
    have hlen : ((List.range N).map fun (i : Nat) => D.int ((N : Int) - 1 + (i : Int) * (-1))).length = N := by simp
    rw [hlen] at hI
    obtain ⟨_, rfl, hV⟩ := hI
    refine hV.ex (ex_return (Ev.k (ev_local ok' rfl rfl rfl) ⟨_, rfl, fun nd => ?_⟩))
    have e : emptied T = (emptyLoop N N (T, T)).2 := by rw [hNd]; rfl
    have em := em_loop hT N (by exact Nat.le_of_eq ‹_›)
    rw [← hNd] at em
    rw [sub, subs_refs _ Zg (intsT (emptyLoop N N (T, T)).2) (by unfold intsT; rw [List.length_map, em.g]; exact hZg) fun p hp => own_lookup nd (List.mem_append.mpr (.inl hp)), e]
    unfold intsT; rw [List.map_map]; rfl
  case body =>
    obtain ⟨hk', rfl, hV⟩ := hI
    have hlt : k < N := by
      have := (List.getElem?_eq_some_iff.mp hk).1
      simpa using this
    have hd' : d = .int ((N : Int) - 1 + (k : Int) * (-1)) := by
      rw [List.getElem?_map, List.getElem?_range hlt] at hk
      cases hk; rfl
    subst hd'
    have em := em_loop hT k (by exact Nat.le_trans ‹_› (Nat.le_of_eq ‹_›))
    rw [← hNd] at em
    have hnext := emptyLoop_succ N k (T, T)
    rw [hnext]
    clear hnext
    generalize hs : emptyLoop N k (T, T) = s at em ⊢
    generalize hlb : (N : Int) - 1 + (k : Int) * (-1) = label
    refine ⟨_, tg_local ok' rfl, VS.ex (hV.up rfl) ?_⟩
    have sl0 := em_start em (by assumption)
    have zr : ∀ {i : Nat}, i < T.length → ∃ Z, Zr[i]? = some Z := fun {i} h => ⟨_, List.getElem?_eq_getElem (by rw [hZr]; exact h)⟩
    have zg : ∀ {i : Nat}, i < T.length → ∃ Z, Zg[i]? = some Z := fun {i} h => ⟨_, List.getElem?_eq_getElem (by rw [hZg]; exact h)⟩
    refine ex_swap3 ok' (evK_tuple (evAllK_cons (Ev.k ev_int (evAllK_cons (Ev.k ev_int (evAllK_cons (Ev.k (d := eR [0]) (ev_list (evAll_cons ev_int evAll_nil fun _ => rfl) (hsz (m := 1) (by decide))) (evAllK_nil ⟨hsz (m := 3) (by decide), _, _, _, rfl, ?_⟩)) fun _ => rfl)) fun _ => rfl)) fun _ => rfl)) rfl rfl rfl rfl rfl
    refine ex_while (fun m σ own => ∃ (R : Tab) (x y : Nat) (fin : Bool) (dn : D), NearI Zr Zg T.length s label (fun dn fin => ∀ own, Op prog w B (fAct (fdOf 66) 66 L A l).A (fAct (fdOf 66) 66 L A l).l own (t2 (compareOp .NotEq)) [dn, .lst []] (dBool (!fin))) R x y fin dn m σ own)
      (fuelE s.1 + 1) ⟨s.1, 0, 0, false, eR [0], rfl, vs_cons rfl (vs_cons rfl (vs_cons rfl (vs_cons rfl (vs_cons rfl (vs_cons rfl vs_nil))))), sl0, fun _ => rfl, em.r, fun own => op_ne (enR 0) [0] [] (by exact Om.u_c ‹_› rfl) (by decide), fun _ => ⟨rfl, rfl⟩, fun h => by cases h⟩ ?_
    rintro m σ own ⟨R, x, y, fin, dn, rfl, hV, sl, hln, hRl, hop, hf0, hf1⟩
    have hxT : x < T.length := by rw [← hRl]; exact sl.row
    obtain ⟨Zx, hZx⟩ := zr hxT
    have hRr : ∀ i, (rowA R i).length < 50 := fun i => by rw [hln]; exact Nat.lt_of_le_of_lt (em.le i) (hrl i)
    have hy50 : y < 50 := Nat.lt_trans sl.cell (hRr x)
    refine ⟨!fin, fun s' g Q E S k => (tr_compare (ev_local ok' rfl rfl rfl) (ev_list evAll_nil (by decide)) (hop _) rfl) s' g Q E (S.weaken (fun x d q => hV _ (mem_of_lookupD q)) fun _ q => q) k, fun htr => hV.ex ?_, fun hf => hV.ex ?_⟩
    · have hfin : fin = false := by simpa using htr
      obtain ⟨hm, hsl⟩ := hf0 hfin
      have memR : ∀ {i : Nat} {Z : Addr}, Zr[i]? = some Z → i < R.length → (Z, (rowA R i).map D.int) ∈ ownE Zg Zr s.2 R := fun h h' => List.mem_append.mpr (.inr (List.mem_append.mpr (.inl (mem_zip_at h (intsT_at h')))))
      have hrlen : (refsD Zr).length = R.length := by unfold refsD; rw [List.length_map, hZr, hRl]
      refine ex_assign_comp ok' ((cp1 [(x, y + 1), (x + 1, y)] (fun p : Nat × Nat => ePt ((p.1 : Int), (p.2 : Int))) (fun p q h => by
          have := (enPt 0).inj h
          simp only [Prod.mk.injEq] at this
          exact Prod.ext (by exact Int.ofNat_inj.mp (And.left ‹_›)) (by exact Int.ofNat_inj.mp (And.right ‹_›))) (okC R) (fun p => eTI [cellA R p.1 p.2, p.1, p.2]) [("rows", .lst (refsD Zr))] (d := .tup [ePt ((x : Int), ((y + 1 : Nat) : Int)), ePt (((x + 1 : Nat) : Int), (y : Int))])
        (ev_tuple (evAll_cons (ev_tuple (evAll_cons (ev_local ok' rfl rfl rfl) (evAll_cons (ev_binop (ev_local ok' rfl rfl rfl) ev_int (op_add_int _ _)) evAll_nil fun _ => rfl) fun _ => rfl) (hsz (m := 2) (by decide))) (evAll_cons (ev_tuple (evAll_cons (ev_binop (ev_local ok' rfl rfl rfl) ev_int (op_add_int _ _)) (evAll_cons (ev_local ok' rfl rfl rfl) evAll_nil fun _ => rfl) fun _ => rfl) (hsz (m := 2) (by decide))) evAll_nil fun _ => rfl) fun _ => rfl) (hsz (m := 2) (by decide)))
        (it_tup ok'.hand _) (fun C => vis_cons rfl rfl rfl rfl vis_nil) ok' (fun C okc p hp => ?nb) (hsz (m := 2) (by decide)) (fun _ => rfl) rfl).to (show _ = (nearOf R x y).map eTI by unfold nearOf; rw [List.map_map]; rfl)) rfl rfl ?_
      case nb =>
        obtain ⟨r, c⟩ := p
        have hrc : r < 100 ∧ c < 100 := by
          rcases List.mem_cons.mp hp with e | hp
          · cases e; omega
          · cases List.mem_singleton.mp hp; omega
        have hlenR : R.length < 50 := by exact Om.lt_g ‹_› ‹_› rfl
        refine ⟨_, tg_pair okc (tg_local okc rfl) (tg_local okc rfl) rfl, ts_one ((tr_and (c := decide ((c : Int) < (((rowA R r).map D.int).length : Nat))) (tr_compare (ev_local okc rfl rfl rfl) (b.len okc (ev_cell okc rfl rfl rfl) (by rw [hrlen]; exact Om.lt_c ‹_› rfl)) (op_lt_int _ _) rfl) fun h1 => ?t2).to ?t3), fun hok => ?el, fun z e h => sub_cons rfl z e (sub_cons rfl z e h)⟩
        case t2 =>
          have h1 : r < R.length := by rw [hrlen] at h1; simpa using h1
          obtain ⟨Z, hZ⟩ := zr (i := r) (by exact Nat.lt_of_lt_of_le ‹_› (Nat.le_of_eq ‹_›))
          exact tr_compare (ev_local okc rfl rfl rfl) (ev_call_b (b.evb okc) (evAll_cons (ev_sub (ev_cell okc rfl rfl rfl) (ev_local okc rfl rfl rfl) (op_item_lst _ _ (by exact Int.natCast_nonneg _) (by exact Om.lt_k ‹_› ‹_› rfl) (by rw [Int.toNat_natCast]; exact refs_at hZ) fun _ _ => ⟨_, rfl⟩)) evAll_nil fun _ => rfl) (op_len_own (memR hZ h1) (by rw [List.length_map]; exact h63 (by have := hRr r; exact Om.lt_c ‹_› rfl))) fun _ => ⟨rfl, _, _, rfl, rfl⟩) (op_lt_int _ _) rfl
        case t3 =>
          rw [hrlen, List.length_map]
          unfold okC
          simp
        case el =>
          have hc := (okC_iff R (r, c)).mp hok
          have h1 : r < R.length := Nat.lt_of_not_le fun z => by rw [rowA_out z] at hc; simp at hc
          obtain ⟨Z, hZ⟩ := zr (i := r) (by exact Nat.lt_of_lt_of_le ‹_› (Nat.le_of_eq ‹_›))
          exact ev_tuple (evAll_cons (ev_sub (ev_sub (ev_cell okc rfl rfl rfl) (ev_local okc rfl rfl rfl) (op_item_lst _ _ (by exact Int.natCast_nonneg _) (by exact Om.lt_k ‹_› ‹_› rfl) (by rw [Int.toNat_natCast]; exact refs_at hZ) fun _ _ => ⟨_, rfl⟩)) (ev_local okc rfl rfl rfl) (op_item_own (memR hZ h1) _ (by exact Int.natCast_nonneg _) (by exact Om.lt_i (And.right ‹_›) rfl) (by rw [Int.toNat_natCast]; exact cell_at hc) fun _ _ => ⟨_, rfl⟩)) (evAll_cons (ev_local okc rfl rfl rfl) (evAll_cons (ev_local okc rfl rfl rfl) evAll_nil fun _ => rfl) fun _ => rfl) fun _ => rfl) (hsz (m := 3) (by decide))
      have hopn : ∀ own, Op prog w B (fAct (fdOf 66) 66 L A l).A (fAct (fdOf 66) 66 L A l).l own (t2 (compareOp .NotEq)) [.lst ((nearOf R x y).map eTI), .lst []] (dBool (!decide (nearOf R x y = []))) := fun own => op_ne (encL (encTI 0)) (nearOf R x y) [] (by exact Om.u_c ‹_› rfl) (by decide)
      have hfu := sl.fuel
      refine ex_if (tr_compare (ev_local ok' rfl rfl rfl) (ev_list evAll_nil (by decide)) (hopn _) rfl) (fun h1 => ?_) (fun h2 => ?_)
      · have hne : nearOf R x y ≠ [] := by simpa using h1
        obtain ⟨v, x', y', hmin, st, hst⟩ := sl_step sl hne
        have hx'T : x' < T.length := by rw [← hRl, ← st.size]; exact st.ok.row
        refine ex_assign (Ev.k (d := eTI [v, (x' : Int), (y' : Int)]) ((ev_call_b (b.evb ok') (evAll_cons (ev_local ok' rfl rfl rfl) evAll_nil fun _ => rfl) (op_min_tup ok'.hand (by exact Om.u_c ‹_› rfl) _ hne) fun _ => ⟨rfl, _, _, rfl, rfl⟩).to _ (by rw [hmin])) ⟨_, tg_local ok' rfl, ?_⟩) rfl rfl rfl
        refine ex_setitem (ds := (rowA R x).map D.int) (k := y) (d := .int v) (ev_sub (ev_local ok' rfl rfl rfl) ev_int (op_item_tup _ 0 (by decide) (by decide) rfl fun _ _ => ⟨_, rfl⟩)) (ev_sub (ev_cell ok' rfl rfl rfl) (ev_local ok' rfl rfl rfl) (op_item_lst _ _ (by exact Int.natCast_nonneg _) (by exact Om.lt_k ‹_› ‹_› rfl) (by rw [Int.toNat_natCast]; exact refs_at hZx) fun _ _ => ⟨_, rfl⟩)) (ev_local ok' rfl rfl rfl) (ownSet_app (ownSet_zip hZx (intsT_at sl.row))) (by exact Int.natCast_nonneg _) (by have := sl.cell; simp; assumption) (by exact Om.lt_i ‹_› rfl) ?_ rfl
        refine ex_swap2 ok' (evK_tuple (evAllK_cons (Ev.k (ev_sub (ev_local ok' rfl rfl rfl) ev_int (op_item_tup _ 1 (by decide) (by decide) rfl fun _ _ => ⟨_, rfl⟩)) (evAllK_cons (Ev.k (ev_sub (ev_local ok' rfl rfl rfl) ev_int (op_item_tup _ 2 (by decide) (by decide) rfl fun _ _ => ⟨_, rfl⟩)) (evAllK_nil ⟨hsz (m := 2) (by decide), _, _, rfl, ex_nil (ex_nil ⟨fuelE R - (x + y), by exact Nat.le_of_eq (Eq.symm ‹_›), putC R x y v, x', y', false, _, ?_, vs_cons rfl (vs_cons rfl (vs_cons rfl (vs_cons rfl (vs_cons rfl (vs_cons rfl vs_nil))))), st.ok, fun i => (st.lens i).trans (hln i), st.size.trans hRl, fun own => ?_, fun _ => ⟨?_, ?_⟩, fun h => by cases h⟩)⟩)) fun _ => rfl)) fun _ => rfl)) rfl rfl rfl rfl
        · unfold ownE; rw [intsT_put, Int.toNat_natCast]
        · have := hopn own; rw [decide_eq_false hne] at this; exact this
        · rw [st.fuel, st.sum]; omega
        · rw [st.fuel, st.sum, ← hsl]
          have e : fuelE R - (x + y) = (fuelE R - (x + y + 1)) + 1 := by omega
          rw [e, hst]
      · have he : nearOf R x y = [] := by simpa using h2
        refine ex_nil (ex_nil ⟨0, by omega, R, x, y, true, _, rfl, vs_cons rfl (vs_cons rfl (vs_cons rfl (vs_cons rfl (vs_cons rfl (vs_cons rfl vs_nil))))), sl, hln, hRl, fun own => ?_, fun h => by (cases h), fun _ => ⟨rfl, he, ?_⟩⟩)
        · have := hopn own; rw [decide_eq_true he] at this; exact this
        · rw [← hsl]; exact slide_end he _
    · have hfin : fin = true := by simpa using hf
      obtain ⟨_, hnn, hsl⟩ := hf1 hfin
      obtain ⟨h1, h2⟩ := near_nil hnn
      have hcell := sl.cell
      obtain ⟨Zy, hZy⟩ := zg hxT
      have hgx : y < (rowA s.2 x).length := by rw [em.gl]; have := em.le x; rw [← hln x] at this; exact Nat.lt_of_lt_of_le ‹_› ‹_›
      have hgrow : x < s.2.length := by rw [em.g]; exact hxT
      refine ex_pop (ds := (rowA R x).map D.int) (i := cellA R x y) (ev_sub (ev_cell ok' rfl rfl rfl) (ev_local ok' rfl rfl rfl) (op_item_lst _ _ (by exact Int.natCast_nonneg _) (by omega) (by rw [Int.toNat_natCast]; exact refs_at hZx) fun _ _ => ⟨_, rfl⟩)) (ownSet_app (ownSet_zip hZx (intsT_at sl.row))) ?gl ?_ (hsz (by have := hRr x; simp; exact Om.lt_c ‹_› rfl)) rfl rfl rfl
      case gl =>
        rw [List.getLast?_eq_getElem?, List.length_map]
        have e : (rowA R x).length - 1 = y := by omega
        rw [e]; exact cell_at hcell
      refine ex_setitem (ds := (rowA s.2 x).map D.int) (k := y) (d := .int label) (ev_local ok' rfl rfl rfl) (ev_sub (ev_local ok' rfl rfl rfl) (ev_local ok' rfl rfl rfl) (op_item_lst _ _ (by exact Int.natCast_nonneg _) (by omega) (by rw [Int.toNat_natCast]; exact refs_at hZy) fun _ _ => ⟨_, rfl⟩)) (ev_local ok' rfl rfl rfl) (ownSet_zip hZy (intsT_at hgrow)) (by exact Int.natCast_nonneg _) (by simp; assumption) (by omega) (ex_nil ⟨by assumption, ?_, vs_cons rfl (vs_cons rfl vs_nil)⟩) rfl
      unfold emptyStep ownE
      rw [hsl]
      simp only
      rw [intsT_put, Int.toNat_natCast]
      unfold intsT
      rw [List.map_set, List.map_dropLast]
end
end Mine
end
section
open PySem PySem.W PyProof.Rows
set_option maxRecDepth 10000
set_option linter.unusedVariables false
namespace Mine
section
variable {prog : Program} {w : World} {B : Heap} {mg mb : Str → Option Value} {A : Around} {l : List Env} {own : Owns} {n : Nat} {P : Params} {a : Act} {σ : Vars}
theorem red_fn (b : Bs P B mg mb) : ∃ o, B.get? 37 = some o ∧ o.data = .func (fdOf 37) := b.fn rfl
theorem red_ok (b : Bs P B mg mb) : FnOk B (fdOf 37) ["function", "sequence", "initial"] (bdOf 37) := b.ok' rfl rfl rfl fun s vs up h => by
  match vs, h with
  | [x, y, z], _ => exact BindsTo.of_defaults (T := 30) rfl (up _ _ (b.K 30 _ rfl)) rfl rfl rfl
theorem lay_is (b : Bs P B mg mb) : ∃ o fd, B.get? 56 = some o ∧ o.data = .func fd := by obtain ⟨o, h1, h2⟩ := lay_fn b; exact ⟨o, _, h1, h2⟩
theorem op_is_missing (b : Bs P B mg mb) (ds : List D) : Op prog w B A l own (t2 (compareOp .Is)) [.tup ds, .val (.ref 29)] (dBool false) := .two fun s g v₁ v₂ Q E S r₁ r₂ k => by
  obtain ⟨x, vs, rfl, la, ra⟩ := rep_tup.mp r₁
  rw [rep_val.mp r₂]
  obtain ⟨o, ho, hc, _⟩ := stays_isTuple S.gh la
  have h29 : s.heap.get? 29 = some { cls := .type "object" } := S.gh _ _ (S.bg _ _ (b.K 29 _ rfl))
  have hne : x ≠ 29 := fun e => by rw [e, h29] at ho; cases ho; simp at hc
  show wpAny _ A (do return .bool (← isSame (.ref x) (.ref 29))) Q E s
  refine wpAny_bind ?_
  show wpAny _ A (if (x == 29) = true then pure true else _) _ E s
  rw [if_neg (by simpa using hne)]
  refine wpAny_bind (wpAny_load ho (wpAny_bind (wpAny_load h29 ?_)))
  rw [hc]
  exact wpAny_pure (wpAny_pure (k _ s g (.refl S.gh) (.refl s) (rep_val.mpr rfl)))
noncomputable abbrev St3 := List (List Int) × List (List Int) × Bool
theorem gst_fold {k : Nat} {st : St3} (h : GSt k st) : ∀ (xs : List Int), GSt (k + xs.length) (xs.foldl lay st)
  | [] => h
  | x :: xs => by
    have := gst_fold (gst_step h x) xs
    rw [List.foldl_cons, List.length_cons, Nat.add_comm xs.length 1, ← Nat.add_assoc]; exact this
set_option maxHeartbeats 2000000 in
theorem op_red (b : Bs P B mg mb) (ok : AOk A l (n + 3)) (hsld : SldC prog w B) (ws : Array UInt8) (hws : ws.size ≤ 8) :
    Op prog w B A l own (fun vs => call (.ref 37) vs) [.val (.ref 56), .byt ws, eSt ([], [], true)] (eSt ((KBw.bInts ws).foldl lay ([], [], true))) := by
  obtain ⟨o, ho, hd⟩ := red_fn b
  refine op_fn b.G ok ho hd (red_ok b) rfl fun L => ?_
  have ok' : (fAct (fdOf 37) 37 L A l).Ok (n + 2) := fAct_ok ok (red_ok b)
  have g0 : GSt 0 (([], [], true) : St3) := ⟨rfl, Nat.le_refl _, fun r hr => by simp at hr, fun r hr => by simp at hr⟩
  have hlen : (KBw.bInts ws).length ≤ 8 := by rw [KBw.ints_length]; exact hws
  refine ex_iter_for ok' (b := ws) (b.evb ok') (evAll_cons (ev_local ok' rfl rfl rfl) evAll_nil fun _ => rfl) (fun _ => ⟨rfl, _, _, rfl, rfl⟩) rfl rfl rfl rfl rfl
    (fun I => [("it", .val (.ref I)), ("value", eSt ([], [], true)), ("function", .val (.ref 56))]) (fun I => tr_compare (ev_local ok' rfl rfl rfl) (b.evg ok') (op_is_missing b _) rfl)
    (fun I => ex_assign (Ev.k (ev_local ok' rfl rfl rfl) ⟨_, tg_local ok' rfl, ex_nil ⟨rfl, rfl, vs_cons rfl (vs_cons rfl (vs_cons rfl vs_nil))⟩⟩) rfl rfl rfl) (fun I => rfl)
    (fun I i σ own => i ≤ (KBw.bInts ws).length ∧ own = [] ∧ VS [("value", eSt (((KBw.bInts ws).take i).foldl lay ([], [], true))), ("function", .val (.ref 56))] σ) (fun I σ' hV => ⟨Nat.zero_le _, rfl, vs_cons (hV _ (.tail _ (.head _))) (vs_cons (hV _ (.tail _ (.tail _ (.head _)))) vs_nil)⟩)
    (fun I i d σ own hi hI => ?body) (fun I σ own hI => ?fin) (fun _ => rfl)
  case fin =>
    obtain ⟨_, rfl, hV⟩ := hI
    have e : (bytD ws).length = (KBw.bInts ws).length := by unfold bytD; rw [List.length_map]
    rw [e, List.take_length] at hV
    exact hV.ex (ex_return (Ev.k (ev_local ok' rfl rfl rfl) ⟨_, rfl, fun _ => sub_ok (n := 3) ((encT (enT2 0) (enT2 0) (encBool 2)).ok _)⟩))
  case body =>
    obtain ⟨hle, rfl, hV⟩ := hI
    unfold bytD at hi
    rw [List.getElem?_map] at hi
    cases q : (KBw.bInts ws)[i]? with
    | none => rw [q] at hi; cases hi
    | some x =>
      rw [q] at hi; cases hi
      have hlt : i < (KBw.bInts ws).length := (List.getElem?_eq_some_iff.mp q).1
      have gi := gst_fold g0 ((KBw.bInts ws).take i)
      have hil : ((KBw.bInts ws).take i).length = i := by rw [List.length_take]; omega
      rw [hil, Nat.zero_add] at gi
      have htake : (KBw.bInts ws).take (i + 1) = (KBw.bInts ws).take i ++ [x] := by rw [List.take_add_one, q]; rfl
      refine ⟨_, tg_local ok' rfl, VS.ex (hV.up rfl) ?_⟩
      generalize hst : ((KBw.bInts ws).take i).foldl lay ([], [], true) = st at gi hV ⊢
      obtain ⟨R, T, f⟩ := st
      have hi1 : (i + 1) * (i + 1) ≤ 8 * 8 := Nat.mul_le_mul (by exact Nat.lt_of_lt_of_le ‹_› ‹_›) (by exact Nat.lt_of_lt_of_le ‹_› ‹_›)
      have hlR := gi.len
      refine ex_assign (Ev.k (d := eSt (lay (R, T, f) x)) (ev_call_f (ev_local ok' rfl rfl rfl) (lay_is b) (evAll_cons (ev_local ok' rfl rfl rfl) (evAll_cons (ev_local ok' rfl rfl rfl) evAll_nil fun _ => rfl) fun _ => rfl)
        (op_lay b ok'.a hsld R T f x (M := (i + 1) * (i + 1)) (by simp only at hlR; omega) (by simp only at hlR; omega) gi.tl gi.rs gi.ts (Nat.mul_pos (by exact Nat.succ_pos _) (by exact Nat.succ_pos _))) fun _ => ⟨rfl, _, _, rfl, rfl⟩) ⟨_, tg_local ok' rfl, ex_nil ⟨by assumption, rfl, ?_⟩⟩) rfl rfl rfl
      rw [htake, List.foldl_append, hst]
      exact vs_cons rfl (vs_cons rfl vs_nil)
end
end Mine
end
section
open PySem PySem.W PyProof.Rows
set_option maxRecDepth 10000
set_option linter.unusedVariables false
namespace Mine
noncomputable def redW (ws : Array UInt8) : St3 := (KBw.bInts ws).foldl lay ([], [], true)
noncomputable def picsL (R T Ro To : Tab) : List St3 := [(R, T, true), (mirrored R, mirrored To, true), (mirrored Ro, mirrored T, true), (Ro, To, true)]
noncomputable def pics (four : List (Array UInt8)) (R T Ro To : Tab) : Bool := decide (four.map redW = picsL R T Ro To)
structure TabOk (R : Tab) : Prop where
  ne : R ≠ []
  rs : ∀ r ∈ R, r.length < 100
  len : R.length < 100
section
variable {prog : Program} {w : World} {B : Heap} {mg mb : Str → Option Value} {A : Around} {l : List Env} {own : Owns} {n : Nat} {P : Params} {a : Act} {σ : Vars}
theorem pic_fn (b : Bs P B mg mb) : ∃ o, B.get? 76 = some o ∧ o.data = .func (fdOf 76) := b.fn rfl
theorem pic_ok (b : Bs P B mg mb) : FnOk B (fdOf 76) ["four", "rows", "turns", "rows_out", "turns_out"] (bdOf 76) := b.ok rfl rfl rfl fun vs h => by
  match vs, h with
  | [x, y, z, u, v], _ => rfl
theorem red_is (b : Bs P B mg mb) : ∃ o fd, B.get? 37 = some o ∧ o.data = .func fd := by obtain ⟨o, h1, h2⟩ := red_fn b; exact ⟨o, _, h1, h2⟩
theorem mir_is (b : Bs P B mg mb) : ∃ o fd, B.get? 71 = some o ∧ o.data = .func fd := by obtain ⟨o, h1, h2⟩ := mir_fn b; exact ⟨o, _, h1, h2⟩
set_option maxHeartbeats 2000000 in
theorem op_pic (b : Bs P B mg mb) (ok : AOk A l (n + 4)) (hsld : SldC prog w B) (four : List (Array UInt8)) (hf : ∀ ws ∈ four, ws.size ≤ 8) (hfl : four.length < 100) (R T Ro To : Tab) (hR : TabOk R) (hT : TabOk T) (hRo : TabOk Ro) (hTo : TabOk To) :
    Op prog w B A l own (fun vs => call (.ref 76) vs) [.lst (four.map .byt), eT2 R, eT2 T, eT2 Ro, eT2 To] (dBool (pics four R T Ro To)) := by
  obtain ⟨o, ho, hd⟩ := pic_fn b
  refine op_fn b.G ok ho hd (pic_ok b) rfl fun L => ?_
  have ok' : (fAct (fdOf 76) 76 L A l).Ok (n + 3) := fAct_ok ok (pic_ok b)
  have hsz : ∀ {m : Nat}, m < 200 → m ≤ sizeLine := fun h => by unfold sizeLine; exact Om.le_c ‹_› rfl
  have hu : (fAct (fdOf 76) 76 L A l).A.units + 200 < cLine := by have := ok'.uni; exact Om.u_d ‹_› rfl
  have enS : Enc 3 eSt := encT (enT2 0) (enT2 0) (encBool 2)
  have mirE : ∀ {e : Expr} {q p : Pos} {σ : Vars} {X : Tab}, TabOk X → Ev prog w B (fAct (fdOf 76) 76 L A l) σ [] e (eT2 X) → (∀ env, backTo p (starEach [e] env) = (false, eval e env) :: backTo p (starEach [] env)) → CallForm (.Name "_law_mirrored" q) e [] p → Ev prog w B (fAct (fdOf 76) 76 L A l) σ [] (.Call (.Name "_law_mirrored" q) [e] [] p) (eT2 (mirrored X)) :=
    fun hX he h1 h2 => ev_call_f (b.evg ok') (mir_is b) (evAll_cons he evAll_nil h1) (op_mir b ok'.a _ hX.ne hX.rs hX.len) h2
  refine ex_return (Ev.k (ev_compare (d₁ := eL eSt (four.map redW)) (d₂ := eL eSt (picsL R T Ro To)) ((EvF.ev (Cp.evf (cp1 four D.byt (fun x y h => by injection h) (fun _ => true) (fun ws => eSt (redW ws)) [] (ev_local ok' rfl rfl rfl) (it_lst ok'.hand _) (fun C => vis_nil) ok' (fun C okc ws hw => ?cb) (hsz (by exact Om.lt_c ‹_› rfl)) (fun _ => rfl) rfl))).to _ ?ce)
    (ev_list (evAll_cons (ev_tuple (evAll_cons (ev_local ok' rfl rfl rfl) (evAll_cons (ev_local ok' rfl rfl rfl) (evAll_cons ev_bool evAll_nil fun _ => rfl) fun _ => rfl) fun _ => rfl) (hsz (m := 3) (by decide)))
      (evAll_cons (ev_tuple (evAll_cons (mirE hR (ev_local ok' rfl rfl rfl) (fun _ => rfl) fun _ => ⟨rfl, _, _, rfl, rfl⟩) (evAll_cons (mirE hTo (ev_local ok' rfl rfl rfl) (fun _ => rfl) fun _ => ⟨rfl, _, _, rfl, rfl⟩) (evAll_cons ev_bool evAll_nil fun _ => rfl) fun _ => rfl) fun _ => rfl) (hsz (m := 3) (by decide)))
      (evAll_cons (ev_tuple (evAll_cons (mirE hRo (ev_local ok' rfl rfl rfl) (fun _ => rfl) fun _ => ⟨rfl, _, _, rfl, rfl⟩) (evAll_cons (mirE hT (ev_local ok' rfl rfl rfl) (fun _ => rfl) fun _ => ⟨rfl, _, _, rfl, rfl⟩) (evAll_cons ev_bool evAll_nil fun _ => rfl) fun _ => rfl) fun _ => rfl) (hsz (m := 3) (by decide)))
      (evAll_cons (ev_tuple (evAll_cons (ev_local ok' rfl rfl rfl) (evAll_cons (ev_local ok' rfl rfl rfl) (evAll_cons ev_bool evAll_nil fun _ => rfl) fun _ => rfl) fun _ => rfl) (hsz (m := 3) (by decide))) evAll_nil fun _ => rfl) fun _ => rfl) fun _ => rfl) fun _ => rfl) (hsz (m := 4) (by decide)))
    (op_eq (encL enS) _ _ (by exact Om.u_c ‹_› rfl) (by decide)) rfl) ⟨_, rfl, fun _ => rfl⟩)
  case cb =>
    exact ⟨_, tg_local okc rfl, ts_nil, fun _ => ev_call_f (b.evg okc) (red_is b) (evAll_cons (b.evg okc) (evAll_cons (ev_local okc rfl rfl rfl) (evAll_cons (ev_tuple (evAll_cons (ev_list evAll_nil (by decide)) (evAll_cons (ev_list evAll_nil (by decide)) (evAll_cons ev_bool evAll_nil fun _ => rfl) fun _ => rfl) fun _ => rfl) (hsz (m := 3) (by decide))) evAll_nil fun _ => rfl) fun _ => rfl) fun _ => rfl) (op_red b okc.a hsld ws (hf ws hw)) fun _ => ⟨rfl, _, _, rfl, rfl⟩, sub_cons rfl⟩
  case ce => rw [filt_true]; simp [eL, List.map_map, Function.comp_def]
end
end Mine
end
section
open PySem PySem.W PyProof.Rows
set_option maxRecDepth 10000
set_option linter.unusedVariables false
namespace Mine
/-! a letter into a row, into the rows -/
noncomputable def iR (x : Int) : List Int → Option Int × List Int
  | [] => (none, [x])
  | y :: r => if x < y then (some y, x :: r) else ((iR x r).1, y :: (iR x r).2)
noncomputable def iA (c : Int) : Tab → Tab → Int → Tab × Tab
  | [], _, x => ([[x]], [[c]])
  | row :: R, T, x => match (iR x row).1 with
    | none => ((iR x row).2 :: R, (T.headD [] ++ [c]) :: T.tail)
    | some y => ((iR x row).2 :: (iA c R T.tail y).1, T.headD [] :: (iA c R T.tail y).2)
theorem plc_cons (y x : Int) (r : List Int) : plc (y :: r) x = if y < x then plc r x + 1 else plc r x := by
  unfold plc; rw [List.filter_cons]; by_cases h : y < x <;> simp [h]
theorem plc_zero {x : Int} {r : List Int} (h : ∀ z ∈ r, x ≤ z) : plc r x = 0 := by
  unfold plc
  rw [List.length_eq_zero_iff, List.filter_eq_nil_iff]
  intro z hz; have := h z hz; simp; assumption
theorem iR_spec (x : Int) : ∀ {row : List Int}, SortedI row → x ∉ row → (iR x row).2 = freshR row x ∧ (row.drop (plc row x)).take 1 = (iR x row).1.toList
  | [], _, _ => ⟨rfl, rfl⟩
  | y :: r, hs, hx => by
    have hs' := List.pairwise_cons.mp hs
    unfold iR
    by_cases h : x < y
    · rw [if_pos h]
      have e : plc (y :: r) x = 0 := plc_zero fun z hz => by
        rcases List.mem_cons.mp hz with rfl | hz
        · exact Int.le_of_lt ‹_›
        · have := hs'.1 z hz; omega
      unfold freshR
      rw [e]
      exact ⟨rfl, rfl⟩
    · rw [if_neg h]
      have hne : x ≠ y := fun e => hx (e ▸ .head _)
      have hlt : y < x := by omega
      obtain ⟨h1, h2⟩ := iR_spec x hs'.2 fun hm => hx (.tail _ hm)
      unfold freshR at h1 ⊢
      rw [plc_cons, if_pos hlt]
      simp only [List.take_succ_cons, List.drop_succ_cons, List.cons_append]
      exact ⟨by rw [h1], h2⟩
theorem split3 (row : List Int) (p : Nat) : row = row.take p ++ (row.drop p).take 1 ++ row.drop (p + 1) := by
  conv => lhs; rw [← List.take_append_drop p row, ← List.take_append_drop 1 (row.drop p), List.drop_drop]
  rw [List.append_assoc]
theorem signs_eq {row : List Int} {x : Int} (hs : SortedI row) (hx : x ∉ row) : ((row ++ [x]).map fun z => sgn z x) = List.replicate (plc row x) (-1) ++ List.replicate (row.length - plc row x) 1 ++ [0] := by
  obtain ⟨h1, h2⟩ := plc_take hs x
  rw [List.map_append]
  have e0 : [x].map (fun z => sgn z x) = [0] := by simp [sgn]
  rw [e0]
  congr 1
  conv => lhs; rw [← List.take_append_drop (plc row x) row]
  rw [List.map_append]
  congr 1
  · rw [List.map_congr_left (g := fun _ => (-1 : Int)) fun z hz => ?_, List.map_const', List.length_take, Nat.min_eq_left (plc_le row x)]
    have := h1 z hz
    have h' : ¬ x < z := by omega
    simp [sgn, this, h', b2i_t, b2i_f]
  · rw [List.map_congr_left (g := fun _ => (1 : Int)) fun z hz => ?_, List.map_const', List.length_drop]
    have := h2 z hz
    have hne : z ≠ x := fun e => hx (e ▸ List.mem_of_mem_drop hz)
    have h' : x < z := by omega
    have h'' : ¬ z < x := by exact Int.not_lt.mpr ‹_›
    simp [sgn, h', h'', b2i_t, b2i_f]
theorem told_eq {row : List Int} {x : Int} (hs : SortedI row) (hx : x ∉ row) : sldS (freshR row x) row = ([x], (row.drop (plc row x)).take 1) := by
  have nd := sorted_nodup hs
  have e := split3 row (plc row x)
  obtain ⟨h1, h2⟩ := plc_take hs x
  unfold sldS
  refine Prod.ext ?_ ?_
  · show (freshR row x).filter _ = [x]
    unfold freshR
    rw [List.filter_append, List.filter_append]
    have a1 : (row.take (plc row x)).filter (fun z => !row.contains z) = [] := by
      rw [List.filter_eq_nil_iff]; intro z hz; simp [List.mem_of_mem_take hz]
    have a2 : (row.drop (plc row x + 1)).filter (fun z => !row.contains z) = [] := by
      rw [List.filter_eq_nil_iff]; intro z hz; simp [List.mem_of_mem_drop hz]
    rw [a1, a2]
    simp [hx]
  · show row.filter _ = _
    have nd' := nd
    rw [e] at nd'
    have q := List.nodup_append.mp nd'
    have q' := List.nodup_append.mp q.1
    conv => lhs; arg 2; rw [e]
    rw [List.filter_append, List.filter_append]
    have a1 : (row.take (plc row x)).filter (fun z => !(freshR row x).contains z) = [] := by
      rw [List.filter_eq_nil_iff]; intro z hz; unfold freshR; simp [hz]
    have a2 : (row.drop (plc row x + 1)).filter (fun z => !(freshR row x).contains z) = [] := by
      rw [List.filter_eq_nil_iff]; intro z hz; unfold freshR; simp [hz]
    rw [a1, a2, List.nil_append, List.append_nil, List.filter_eq_self]
    intro z hz
    have b1 : z ∉ row.take (plc row x) := fun hm => q'.2.2 z hm z hz rfl
    have b2 : z ∉ row.drop (plc row x + 1) := fun hm => q.2.2 z (List.mem_append_right _ hz) z hm rfl
    have b3 : z ≠ x := fun he => hx (he ▸ List.mem_of_mem_drop (List.mem_of_mem_take hz))
    unfold freshR
    simp [b1, b2, b3]
/-- one turn of the loop, where the letter is new -/
theorem layAt_new {c : Int} {k : Nat} {R T : Tab} {f : Bool} {x : Int} {row tr : List Int} (hr : R.getD k [] = row) (ht : T.getD k [] = tr) (hs : SortedI row) (hx : x ∉ row) :
    layAt c k ⟨R, T, f, [x]⟩ = ⟨R.set k (iR x row).2, if (iR x row).1 = none then T.set k (tr ++ [c]) else T, f, (iR x row).1.toList⟩ := by
  obtain ⟨h1, h2⟩ := iR_spec x hs hx
  unfold layAt
  rw [if_neg (by simp)]
  simp only [List.getD_cons_zero, place_eq, hr, ht]
  have e1 := signs_eq hs hx
  have e2 := told_eq hs hx
  have ef : row.take (plc row x) ++ [x] ++ row.drop (plc row x + 1) = freshR row x := rfl
  simp only [ef, e1, e2, decide_true, Bool.and_true, h2, h1]
  cases (iR x row).1 <;> simp
theorem layAt_idle {c : Int} {k : Nat} {R T : Tab} {f : Bool} : layAt c k ⟨R, T, f, []⟩ = ⟨R, T, f, []⟩ := by unfold layAt; rw [if_pos rfl]
theorem idle_loop {c : Int} {R T : Tab} {f : Bool} : ∀ (ks : List Nat), ks.foldl (fun s k => layAt c k s) ⟨R, T, f, []⟩ = ⟨R, T, f, []⟩
  | [] => rfl
  | k :: ks => by rw [List.foldl_cons, layAt_idle]; exact idle_loop ks
theorem getD_mid {α : Type} (pre post : List α) (x d : α) : (pre ++ x :: post).getD pre.length d = x := by
  simp [List.getD_eq_getElem?_getD]
theorem set_mid {α : Type} (pre post : List α) (x y : α) : (pre ++ x :: post).set pre.length y = pre ++ y :: post := by
  rw [List.set_append_right _ _ (Nat.le_refl _)]; simp
theorem iR_ne (x : Int) : ∀ row : List Int, (iR x row).2 ≠ []
  | [] => by simp [iR]
  | y :: r => by unfold iR; split <;> simp
theorem iR_perm (x : Int) : ∀ row : List Int, ((iR x row).1.toList ++ (iR x row).2).Perm (x :: row)
  | [] => .refl _
  | y :: r => by
    unfold iR
    split
    · exact List.Perm.swap x y r
    · refine (List.perm_middle (l₁ := (iR x r).1.toList)).trans (((iR_perm x r).cons y).trans (List.Perm.swap x y r))
theorem iA_ne {c : Int} : ∀ {R T : Tab} {x : Int}, (∀ r ∈ R, r ≠ []) → ∀ r ∈ (iA c R T x).1, r ≠ []
  | [], T, x, h, r, hr => by rw [List.mem_singleton.mp hr]; simp
  | row :: R, T, x, h, r, hr => by
    unfold iA at hr
    cases q : (iR x row).1 with
    | none =>
      simp only [q] at hr
      rcases List.mem_cons.mp hr with rfl | hr
      · exact iR_ne x row
      · exact h r (.tail _ hr)
    | some y =>
      simp only [q] at hr
      rcases List.mem_cons.mp hr with rfl | hr
      · exact iR_ne x row
      · exact iA_ne (fun r hr => h r (.tail _ hr)) r hr
theorem iA_perm {c : Int} : ∀ {R T : Tab} {x : Int}, (iA c R T x).1.flatten.Perm (x :: R.flatten)
  | [], T, x => .refl _
  | row :: R, T, x => by
    have hp := iR_perm x row
    unfold iA
    cases q : (iR x row).1 with
    | none =>
      rw [q] at hp
      simp only [List.flatten_cons]
      exact (hp.append_right _)
    | some y =>
      rw [q] at hp
      simp only [List.flatten_cons]
      refine ((iA_perm (c := c) (R := R) (T := T.tail) (x := y)).append_left _).trans ?_
      exact List.perm_middle.trans (hp.append_right R.flatten)
theorem fresh_sorted' {row : List Int} {x : Int} (hs : SortedI row) (hx : x ∉ row) : SortedI (iR x row).2 := by rw [(iR_spec x hs hx).1]; exact fresh_sorted hs x
theorem iA_sorted {c : Int} : ∀ {R T : Tab} {x : Int}, (∀ r ∈ R, SortedI r) → (x :: R.flatten).Nodup → ∀ r ∈ (iA c R T x).1, SortedI r
  | [], T, x, h, nd, r, hr => by rw [List.mem_singleton.mp hr]; simp [SortedI]
  | row :: R, T, x, h, nd, r, hr => by
    have hx : x ∉ row := fun hm => (List.nodup_cons.mp nd).1 (by simp [hm])
    have hp := iR_perm x row
    unfold iA at hr
    cases q : (iR x row).1 with
    | none =>
      simp only [q] at hr
      rcases List.mem_cons.mp hr with rfl | hr
      · exact fresh_sorted' (h _ (.head _)) hx
      · exact h r (.tail _ hr)
    | some y =>
      simp only [q] at hr
      rcases List.mem_cons.mp hr with rfl | hr
      · exact fresh_sorted' (h _ (.head _)) hx
      · refine iA_sorted (fun r hr => h r (.tail _ hr)) ?_ r hr
        rw [q] at hp
        have h2 : (y :: (iR x row).2 ++ R.flatten).Nodup := (hp.append_right R.flatten).nodup_iff.mpr nd
        exact List.Pairwise.sublist (List.Sublist.cons_cons y (List.sublist_append_right _ _)) h2
/-- the loop from row k on -/
theorem loop_new {c : Int} {f : Bool} : ∀ (R T pre pre' : Tab) (x : Int), pre.length = pre'.length → T.length = R.length → (∀ r ∈ R, SortedI r) → (∀ r ∈ R, r ≠ []) → (x :: R.flatten).Nodup →
    ∃ X Y, (List.range' pre.length (R.length + 1)).foldl (fun s k => layAt c k s) ⟨pre ++ R ++ [[]], pre' ++ T ++ [[]], f, [x]⟩ = ⟨pre ++ X, pre' ++ Y, f, []⟩ ∧ (X = (iA c R T x).1 ∨ X = (iA c R T x).1 ++ [[]]) ∧ (Y = (iA c R T x).2 ∨ Y = (iA c R T x).2 ++ [[]])
  | [], [], pre, pre', x, hl, _, _, _, _ => by
    refine ⟨[[x]], [[c]], ?_, .inl rfl, .inl rfl⟩
    rw [List.length_nil, Nat.zero_add, List.range'_one, List.foldl_cons, List.foldl_nil, List.append_nil, List.append_nil,
      layAt_new (row := []) (tr := []) (getD_mid pre [] [] []) (by rw [hl]; exact getD_mid pre' [] [] []) List.Pairwise.nil (by simp)]
    rw [set_mid pre []]
    simp only [iR, if_true]
    rw [hl, set_mid pre' []]
    rfl
  | [], _ :: _, _, _, _, _, h, _, _, _ => by simp at h
  | _ :: _, [], _, _, _, _, h, _, _, _ => by simp at h
  | row :: R, tr :: T, pre, pre', x, hl, hT, hs, hn, nd => by
    have hx : x ∉ row := fun hm => (List.nodup_cons.mp nd).1 (by simp [hm])
    have hp := iR_perm x row
    rw [List.length_cons, List.range'_succ, List.foldl_cons]
    have a1 : pre ++ row :: R ++ [[]] = pre ++ row :: (R ++ [[]]) := by simp
    have a2 : pre' ++ tr :: T ++ [[]] = pre' ++ tr :: (T ++ [[]]) := by simp
    rw [a1, a2, layAt_new (row := row) (tr := tr) (getD_mid pre _ row []) (by rw [hl]; exact getD_mid pre' _ tr []) (hs _ (.head _)) hx, set_mid]
    unfold iA
    cases q : (iR x row).1 with
    | none =>
      simp only [if_true, Option.toList_none, List.headD_cons, List.tail_cons]
      rw [idle_loop, hl, set_mid]
      exact ⟨(iR x row).2 :: (R ++ [[]]), (tr ++ [c]) :: (T ++ [[]]), rfl, .inr rfl, .inr rfl⟩
    | some y =>
      rw [q] at hp
      have h2 : (y :: (iR x row).2 ++ R.flatten).Nodup := (hp.append_right R.flatten).nodup_iff.mpr nd
      have nd' : (y :: R.flatten).Nodup := List.Pairwise.sublist (List.Sublist.cons_cons y (List.sublist_append_right _ _)) h2
      obtain ⟨X, Y, h1, hX, hY⟩ := loop_new R T (pre ++ [(iR x row).2]) (pre' ++ [tr]) y (by simp [hl]) (by simpa using hT) (fun r hr => hs r (.tail _ hr)) (fun r hr => hn r (.tail _ hr)) nd' (c := c) (f := f)
      simp only [reduceCtorEq, if_false, Option.toList_some, List.headD_cons, List.tail_cons]
      refine ⟨(iR x row).2 :: X, tr :: Y, ?_, ?_, ?_⟩
      · simpa using h1
      · rcases hX with rfl | rfl <;> simp
      · rcases hY with rfl | rfl <;> simp
theorem filt_ne {X Z : Tab} (h : ∀ r ∈ Z, r ≠ []) (hX : X = Z ∨ X = Z ++ [[]]) : X.filter (· ≠ []) = Z := by
  have e : Z.filter (· ≠ []) = Z := List.filter_eq_self.mpr fun r hr => by simpa using h r hr
  rcases hX with rfl | rfl
  · exact e
  · rw [List.filter_append, e]; simp
theorem iA_turns {c : Int} : ∀ {R T : Tab} {x : Int}, T.map List.length = R.map List.length → (iA c R T x).2.map List.length = (iA c R T x).1.map List.length
  | [], T, x, h => rfl
  | row :: R, [], x, h => by simp at h
  | row :: R, tr :: T, x, h => by
    simp only [List.map_cons, List.cons.injEq] at h
    have hp := (iR_perm x row).length_eq
    unfold iA
    cases q : (iR x row).1 with
    | none =>
      rw [q] at hp
      simp at hp ⊢
      exact ⟨by omega, h.2⟩
    | some y =>
      rw [q] at hp
      simp at hp ⊢
      exact ⟨by omega, iA_turns h.2⟩
theorem lens_ne {R T : Tab} (h : T.map List.length = R.map List.length) (hR : ∀ r ∈ R, r ≠ []) : ∀ r ∈ T, r ≠ [] := fun r hr e => by
  subst e
  have : 0 ∈ R.map List.length := h ▸ List.mem_map.mpr ⟨[], hr, rfl⟩
  obtain ⟨r, hr, e⟩ := List.mem_map.mp this
  exact hR r hr (List.length_eq_zero_iff.mp e)
theorem lay_new {R T : Tab} {f : Bool} {x : Int} (hT : T.map List.length = R.map List.length) (hs : ∀ r ∈ R, SortedI r) (hn : ∀ r ∈ R, r ≠ []) (nd : (x :: R.flatten).Nodup) :
    lay (R, T, f) x = ((iA R.flatten.length R T x).1, (iA R.flatten.length R T x).2, f) := by
  have hl : T.length = R.length := by have := congrArg List.length hT; simpa using this
  obtain ⟨X, Y, h, hX, hY⟩ := loop_new (c := (R.flatten.length : Nat)) (f := f) R T [] [] x rfl hl hs hn nd
  have e : (R.map List.length).sum = R.flatten.length := by rw [List.length_flatten]
  unfold lay layLoop
  simp only [e]
  rw [List.range_eq_range']
  simp only [List.length_nil, List.nil_append] at h
  rw [h]
  simp only
  rw [filt_ne (iA_ne hn) hX, filt_ne (lens_ne (iA_turns hT) (iA_ne hn)) hY]
end Mine
end
section
open PySem PySem.W PyProof.Rows
set_option maxRecDepth 10000
set_option linter.unusedVariables false
namespace Mine
/-! points (turn, letter) laid one behind the other -/
noncomputable def rskP : Tab → Tab → List Pnt → Tab × Tab
  | R, T, [] => (R, T)
  | R, T, p :: ps => rskP (iA p.1 R T p.2).1 (iA p.1 R T p.2).2 ps
noncomputable def rowP : List Int → List Int → List Pnt → List Int × List Int × List Pnt
  | row, tr, [] => (row, tr, [])
  | row, tr, p :: ps => match (iR p.2 row).1 with
    | none => rowP (iR p.2 row).2 (tr ++ [p.1]) ps
    | some y => ((rowP (iR p.2 row).2 tr ps).1, (rowP (iR p.2 row).2 tr ps).2.1, (p.1, y) :: (rowP (iR p.2 row).2 tr ps).2.2)
theorem iA_none {c : Int} {row : List Int} {R T : Tab} {x : Int} (h : (iR x row).1 = none) : iA c (row :: R) T x = ((iR x row).2 :: R, (T.headD [] ++ [c]) :: T.tail) := by rw [iA, h]
theorem iA_some {c : Int} {row : List Int} {R T : Tab} {x y : Int} (h : (iR x row).1 = some y) : iA c (row :: R) T x = ((iR x row).2 :: (iA c R T.tail y).1, T.headD [] :: (iA c R T.tail y).2) := by rw [iA, h]
theorem rowP_none {row tr : List Int} {p : Pnt} {ps : List Pnt} (h : (iR p.2 row).1 = none) : rowP row tr (p :: ps) = rowP (iR p.2 row).2 (tr ++ [p.1]) ps := by rw [rowP, h]
theorem rowP_some {row tr : List Int} {p : Pnt} {ps : List Pnt} {y : Int} (h : (iR p.2 row).1 = some y) : rowP row tr (p :: ps) = ((rowP (iR p.2 row).2 tr ps).1, (rowP (iR p.2 row).2 tr ps).2.1, (p.1, y) :: (rowP (iR p.2 row).2 tr ps).2.2) := by rw [rowP, h]
theorem rskP_row : ∀ (ps : List Pnt) (row tr : List Int) (R T : Tab), rskP (row :: R) (tr :: T) ps =
    ((rowP row tr ps).1 :: (rskP R T (rowP row tr ps).2.2).1, (rowP row tr ps).2.1 :: (rskP R T (rowP row tr ps).2.2).2)
  | [], row, tr, R, T => rfl
  | p :: ps, row, tr, R, T => by
    show rskP (iA p.1 (row :: R) (tr :: T) p.2).1 (iA p.1 (row :: R) (tr :: T) p.2).2 ps = _
    cases q : (iR p.2 row).1 with
    | none =>
      rw [iA_none q, rowP_none q, List.headD_cons, List.tail_cons, rskP_row ps]
    | some y =>
      rw [iA_some q, rowP_some q, List.headD_cons, List.tail_cons, rskP_row ps]
      rfl
theorem rskP_start (p : Pnt) (ps : List Pnt) : rskP [] [] (p :: ps) = ((rowP [] [] (p :: ps)).1 :: (rskP [] [] (rowP [] [] (p :: ps)).2.2).1, (rowP [] [] (p :: ps)).2.1 :: (rskP [] [] (rowP [] [] (p :: ps)).2.2).2) := by
  show rskP [[p.2]] [[p.1]] ps = _
  rw [rskP_row]
  rfl
theorem rowP_perm : ∀ (ps : List Pnt) (row tr : List Int), ((rowP row tr ps).2.2.map (·.2) ++ (rowP row tr ps).1).Perm (ps.map (·.2) ++ row)
  | [], row, tr => .refl _
  | p :: ps, row, tr => by
    have hp := iR_perm p.2 row
    cases q : (iR p.2 row).1 with
    | none =>
      rw [q] at hp
      rw [rowP_none q]
      refine (rowP_perm ps _ _).trans ?_
      rw [List.map_cons, List.cons_append]
      refine (List.Perm.append_left _ hp).trans ?_
      exact List.perm_middle
    | some y =>
      rw [q] at hp
      rw [rowP_some q]
      simp only [List.map_cons, List.cons_append]
      refine ((rowP_perm ps _ _).cons y).trans ?_
      refine (List.perm_middle (l₁ := ps.map (·.2)) (a := y)).symm.trans ?_
      refine (List.Perm.append_left _ hp).trans ?_
      exact List.perm_middle
theorem rowP_sub : ∀ (ps : List Pnt) (row tr : List Int), ((rowP row tr ps).2.2.map (·.1)).Sublist (ps.map (·.1))
  | [], row, tr => .slnil
  | p :: ps, row, tr => by
    cases q : (iR p.2 row).1 with
    | none => rw [rowP_none q]; exact (rowP_sub ps _ _).cons _
    | some y => rw [rowP_some q]; exact (rowP_sub ps _ _).cons_cons _

/-! columns -/
noncomputable abbrev Cols := List (List Pnt)
noncomputable def putP (p : Pnt) : Cols → Cols
  | [] => [[p]]
  | c :: cs => if p.2 < (c.getLastD (0, 0)).2 then (c ++ [p]) :: cs else c :: putP p cs
theorem rowOf_cons (c : List Pnt) (cs : Cols) : rowOf (c :: cs) = (c.getLastD (0, 0)).2 :: rowOf cs := rfl
theorem turnOf_cons (c : List Pnt) (cs : Cols) : turnOf (c :: cs) = (c.headD (0, 0)).1 :: turnOf cs := rfl
theorem corners_cons (c : List Pnt) (cs : Cols) : corners (c :: cs) = corners [c] ++ corners cs := by unfold corners; simp
theorem corners_snoc {c : List Pnt} (h : c ≠ []) (p : Pnt) : corners [c ++ [p]] = corners [c] ++ [(p.1, (c.getLastD (0, 0)).2)] := by
  obtain ⟨m, hm⟩ : ∃ m, c.length = m + 1 := ⟨c.length - 1, by have := List.length_pos_iff.mpr h; omega⟩
  unfold corners
  simp only [List.flatMap_cons, List.flatMap_nil, List.append_nil, List.length_append, List.length_cons, List.length_nil, hm]
  have e1 : m + 1 + (0 + 1) - 1 = m + 1 := by rfl
  have e2 : m + 1 - 1 = m := by rfl
  rw [e1, e2, List.range_succ, List.map_append]
  congr 1
  · refine List.map_congr_left fun i hi => ?_
    have hi := List.mem_range.mp hi
    simp only [List.getD_eq_getElem?_getD, List.getElem?_append_left (show i + 1 < c.length by omega), List.getElem?_append_left (show i < c.length by omega)]
  · have e3 : c.getLastD (0, 0) = (c[m]?).getD (0, 0) := by
      rw [List.getLastD_eq_getLast?, List.getLast?_eq_getElem?, hm]; rfl
    have e4 : (c ++ [p])[m + 1]? = some p := by rw [List.getElem?_append_right (by exact Nat.le_of_eq ‹_›)]; simp [hm]
    simp only [List.map_cons, List.map_nil, List.getD_eq_getElem?_getD, List.getElem?_append_left (show m < c.length by exact Nat.le_of_eq (Eq.symm ‹_›))]
    rw [e4, ← e3]; rfl
theorem putP_lt {p : Pnt} {c : List Pnt} {cs : Cols} (h : p.2 < (c.getLastD (0, 0)).2) : putP p (c :: cs) = (c ++ [p]) :: cs := by rw [putP, if_pos h]
theorem putP_ge {p : Pnt} {c : List Pnt} {cs : Cols} (h : ¬ p.2 < (c.getLastD (0, 0)).2) : putP p (c :: cs) = c :: putP p cs := by rw [putP, if_neg h]
theorem put_ne {p : Pnt} : ∀ {cs : Cols}, (∀ c ∈ cs, c ≠ []) → ∀ c ∈ putP p cs, c ≠ []
  | [], h, c, hc => by rw [List.mem_singleton.mp hc]; simp
  | d :: cs, h, c, hc => by
    unfold putP at hc
    split at hc
    · rcases List.mem_cons.mp hc with rfl | hc
      · simp
      · exact h c (.tail _ hc)
    · rcases List.mem_cons.mp hc with rfl | hc
      · exact h _ (.head _)
      · exact put_ne (fun c hc => h c (.tail _ hc)) c hc
theorem put_spec (p : Pnt) : ∀ {cs : Cols}, (∀ c ∈ cs, c ≠ []) → (iR p.2 (rowOf cs)).2 = rowOf (putP p cs) ∧ turnOf (putP p cs) = turnOf cs ++ (if (iR p.2 (rowOf cs)).1 = none then [p.1] else []) ∧
    (corners (putP p cs)).Perm ((iR p.2 (rowOf cs)).1.toList.map (fun y => (p.1, y)) ++ corners cs)
  | [], h => ⟨rfl, rfl, .refl _⟩
  | c :: cs, h => by
    obtain ⟨h1, h2, h3⟩ := put_spec p (cs := cs) fun c hc => h c (.tail _ hc)
    have hc := h c (.head _)
    rw [rowOf_cons]
    unfold iR putP
    by_cases hlt : p.2 < (c.getLastD (0, 0)).2
    · rw [if_pos hlt, if_pos hlt, rowOf_cons, turnOf_cons, turnOf_cons]
      refine ⟨by simp [List.getLastD_eq_getLast?], ?_, ?_⟩
      · cases c with
        | nil => exact absurd rfl hc
        | cons z c => simp
      · rw [corners_cons (c ++ [p]) cs, corners_snoc hc, corners_cons c cs]
        simp only [Option.toList_some, List.map_cons, List.map_nil, List.append_assoc]
        exact (List.perm_middle (l₁ := corners [c]) (a := (p.1, (c.getLastD (0, 0)).2)) (l₂ := corners cs))
    · rw [if_neg hlt, if_neg hlt, rowOf_cons, turnOf_cons, turnOf_cons]
      refine ⟨by rw [h1], by rw [h2]; rfl, ?_⟩
      rw [corners_cons, corners_cons c cs]
      refine (h3.append_left _).trans ?_
      rw [← List.append_assoc, ← List.append_assoc]
      exact List.perm_append_comm.append_right _
theorem rowP_cols : ∀ (ps : List Pnt) {cs : Cols}, (∀ c ∈ cs, c ≠ []) → (rowP (rowOf cs) (turnOf cs) ps).1 = rowOf (ps.foldl (fun cs p => putP p cs) cs) ∧ (rowP (rowOf cs) (turnOf cs) ps).2.1 = turnOf (ps.foldl (fun cs p => putP p cs) cs) ∧
    (corners (ps.foldl (fun cs p => putP p cs) cs)).Perm ((rowP (rowOf cs) (turnOf cs) ps).2.2 ++ corners cs)
  | [], cs, h => ⟨rfl, rfl, .refl _⟩
  | p :: ps, cs, h => by
    obtain ⟨h1, h2, h3⟩ := put_spec p h
    obtain ⟨k1, k2, k3⟩ := rowP_cols ps (put_ne (p := p) h)
    rw [List.foldl_cons]
    cases q : (iR p.2 (rowOf cs)).1 with
    | none =>
      rw [q] at h2 h3
      simp only [if_true] at h2
      rw [rowP_none q, h1, ← h2]
      refine ⟨k1, k2, k3.trans (List.Perm.append_left _ ?_)⟩
      simpa using h3
    | some y =>
      rw [q] at h2 h3
      simp only [reduceCtorEq, if_false, List.append_nil] at h2
      rw [rowP_some q, h1, ← h2]
      refine ⟨k1, k2, k3.trans ?_⟩
      refine (List.Perm.append_left _ h3).trans ?_
      simp only [Option.toList_some, List.map_cons, List.map_nil, List.cons_append]
      exact List.perm_middle

/-! the first column is the first line -/
noncomputable def tkP : Int → List Pnt → List Pnt
  | _, [] => []
  | m, p :: ps => if p.2 < m then p :: tkP p.2 ps else tkP m ps
noncomputable def ntP : Int → List Pnt → List Pnt
  | _, [] => []
  | m, p :: ps => if p.2 < m then ntP p.2 ps else p :: ntP m ps
theorem put_col : ∀ (ps : List Pnt) (c : List Pnt) (cs : Cols), ps.foldl (fun cs p => putP p cs) (c :: cs) = (c ++ tkP (c.getLastD (0, 0)).2 ps) :: (ntP (c.getLastD (0, 0)).2 ps).foldl (fun cs p => putP p cs) cs
  | [], c, cs => by simp [tkP, ntP]
  | p :: ps, c, cs => by
    rw [List.foldl_cons]
    by_cases h : p.2 < (c.getLastD (0, 0)).2
    · rw [putP_lt h, put_col ps, tkP, ntP, if_pos h, if_pos h]
      simp [List.getLastD_eq_getLast?]
    · rw [putP_ge h, put_col ps, tkP, ntP, if_neg h, if_neg h]
      rfl
structure Gen (pts : List Pnt) : Prop where
  x : pts.Pairwise fun p q => p.1 < q.1
  y : (pts.map (·.2)).Nodup
theorem scan {pre : List Pnt} {m : Int} : ∀ (ps : List Pnt), Gen (pre ++ ps) → (∃ q ∈ pre, q.2 = m) → (∀ q ∈ pre, m ≤ q.2) →
    ps.filter (fun z => decide (below (pre ++ ps) z = [])) = tkP m ps ∧ ps.filter (fun z => !decide (below (pre ++ ps) z = [])) = ntP m ps := by
  intro ps
  induction ps generalizing pre m with
  | nil => intro _ _ _; exact ⟨rfl, rfl⟩
  | cons z ps ih =>
    intro hg hm hle
    obtain ⟨q, hq, rfl⟩ := hm
    have hx := List.pairwise_append.mp hg.x
    have hz : decide (below (pre ++ z :: ps) z = []) = decide (z.2 < q.2) := by
      rw [decide_eq_decide]
      unfold below
      rw [List.filter_eq_nil_iff]
      constructor
      · intro h
        have h1 := h q (List.mem_append_left _ hq)
        have h2 := hx.2.2 q hq z (.head _)
        have h3 : q.2 ≠ z.2 := fun e => by
          have hy := hg.y
          rw [List.map_append] at hy
          exact (List.nodup_append.mp hy).2.2 _ (List.mem_map_of_mem hq) _ (List.mem_map_of_mem (.head _)) e
        simp at h1
        have := h1 h2
        omega
      · intro h r hr
        rcases List.mem_append.mp hr with hr | hr
        · have := hle r hr; simp; omega
        · rcases List.mem_cons.mp hr with rfl | hr
          · simp
          · have := (List.pairwise_cons.mp hx.2.1).1 r hr; simp; omega
    have e : pre ++ z :: ps = (pre ++ [z]) ++ ps := by simp
    have hg' : Gen ((pre ++ [z]) ++ ps) := e ▸ hg
    rw [List.filter_cons, List.filter_cons, hz]
    unfold tkP ntP
    by_cases hlt : z.2 < q.2
    · obtain ⟨i1, i2⟩ := ih (pre := pre ++ [z]) (m := z.2) hg' ⟨z, by simp, rfl⟩ (fun r hr => by
        rcases List.mem_append.mp hr with hr | hr
        · have := hle r hr; omega
        · rw [List.mem_singleton.mp hr]; exact Int.le_refl _)
      simp only [hlt, decide_true, if_true, Bool.not_true, Bool.false_eq_true, if_false]
      rw [e, i1, i2]
      exact ⟨rfl, rfl⟩
    · obtain ⟨i1, i2⟩ := ih (pre := pre ++ [z]) (m := q.2) hg' ⟨q, by simp [hq], rfl⟩ (fun r hr => by
        rcases List.mem_append.mp hr with hr | hr
        · exact hle r hr
        · rw [List.mem_singleton.mp hr]; exact Int.not_lt.mp ‹_›)
      simp only [hlt, decide_false, if_false, Bool.not_false, if_true, Bool.false_eq_true]
      rw [e, i1, i2]
      exact ⟨rfl, rfl⟩
theorem line_tk {p : Pnt} {ps : List Pnt} (hg : Gen (p :: ps)) : line1 (p :: ps) = p :: tkP p.2 ps ∧ left1 (p :: ps) = ntP p.2 ps := by
  obtain ⟨h1, h2⟩ := scan (pre := [p]) (m := p.2) ps hg ⟨p, .head _, rfl⟩ fun q hq => by rw [List.mem_singleton.mp hq]; exact Int.le_refl _
  have h0 : below (p :: ps) p = [] := by
    unfold below
    rw [List.filter_eq_nil_iff]
    intro r hr
    rcases List.mem_cons.mp hr with rfl | hr
    · simp
    · have := (List.pairwise_cons.mp hg.x).1 r hr; simp; omega
  have e : ∀ z ∈ p :: ps, (!decide (z ∈ line1 (p :: ps))) = !decide (below (p :: ps) z = []) := fun z hz => by
    congr 1
    rw [decide_eq_decide]
    unfold line1
    rw [List.mem_filter]
    simp [hz]
  refine ⟨?_, ?_⟩
  · unfold line1
    rw [List.filter_cons, h0]
    simp only [decide_true, if_true]
    rw [← h1]; rfl
  · unfold left1
    rw [List.filter_congr e, List.filter_cons, h0]
    simp only [decide_true, Bool.not_true, Bool.false_eq_true, if_false]
    rw [← h2]; rfl
theorem nt_sub : ∀ (m : Int) (ps : List Pnt), (ntP m ps).Sublist ps
  | _, [] => .slnil
  | m, p :: ps => by
    unfold ntP
    split
    · exact (nt_sub _ ps).cons _
    · exact (nt_sub _ ps).cons_cons _
theorem Gen.sub {a b : List Pnt} (h : Gen b) (s : a.Sublist b) : Gen a := ⟨h.x.sublist s, h.y.sublist (s.map _)⟩
theorem cols_lines : ∀ (n : Nat) (pts : List Pnt), pts.length ≤ n → Gen pts → pts.foldl (fun cs p => putP p cs) [] = linesF n pts
  | 0, [], _, _ => rfl
  | 0, _ :: _, h, _ => by simp at h
  | n + 1, [], _, _ => rfl
  | n + 1, p :: ps, h, hg => by
    obtain ⟨h1, h2⟩ := line_tk hg
    unfold linesF
    rw [if_neg (by simp), h1, h2, List.foldl_cons]
    show ps.foldl (fun cs p => putP p cs) [[p]] = _
    rw [put_col]
    have hs := nt_sub p.2 ps
    simp only [List.length_cons] at h
    rw [show (([p] : List Pnt).getLastD (0, 0)) = p from rfl, cols_lines n (ntP p.2 ps) (by have := hs.length_le; omega) ((hg.sub (List.sublist_cons_self p ps)).sub hs)]
    rfl
theorem shadows_rsk : ∀ (n : Nat) (pts : List Pnt), pts.length ≤ n → Gen pts → shadowsF isort n pts = rskP [] [] pts
  | 0, [], _, _ => rfl
  | 0, _ :: _, h, _ => by simp at h
  | n + 1, [], _, _ => rfl
  | n + 1, p :: ps, h, hg => by
    have hne : p :: ps ≠ [] := by simp
    obtain ⟨k1, k2, k3⟩ := rowP_cols (p :: ps) (cs := []) fun c hc => nomatch hc
    rw [cols_lines (p :: ps).length (p :: ps) (Nat.le_refl _) hg] at k1 k2 k3
    have e0 : rowOf [] = [] := rfl
    have e0' : turnOf [] = [] := rfl
    rw [e0, e0'] at k1 k2 k3
    have hb : (rowP [] [] (p :: ps)).2.2 = isort (corners (linesF (p :: ps).length (p :: ps))) := by
      refine sorted_unique ?_ ?_ (isort_sorted _)
      · refine (((isort_perm _).trans k3).trans ?_).symm
        have : corners [] = [] := rfl
        rw [this, List.append_nil]
      · have hx : ((p :: ps).map (·.1)).Pairwise (· < ·) := by rw [List.pairwise_map]; exact hg.x
        have := hx.sublist (rowP_sub (p :: ps) [] [])
        rw [List.pairwise_map] at this
        exact this.imp fun {a b} q => by rw [ple_iff]; omega
    have hgb : Gen (rowP [] [] (p :: ps)).2.2 := by
      refine ⟨?_, ?_⟩
      · have hx : ((p :: ps).map (·.1)).Pairwise (· < ·) := by rw [List.pairwise_map]; exact hg.x
        have := hx.sublist (rowP_sub (p :: ps) [] [])
        rwa [List.pairwise_map] at this
      · have hp := rowP_perm (p :: ps) [] []
        rw [List.append_nil] at hp
        exact (List.nodup_append.mp (hp.nodup_iff.mpr hg.y)).1
    have hlen : (isort (corners (linesF (p :: ps).length (p :: ps)))).length ≤ n := by
      rw [(isort_perm _).length_eq]
      have := corners_lt hne
      omega
    rw [rskP_start, ← shadows_rsk n _ (hb ▸ hlen) hgb]
    rw [shadowsF, if_neg hne, k1, k2, hb]
end Mine
end
section
open PySem PySem.W PyProof.Rows
set_option maxRecDepth 10000
set_option linter.unusedVariables false
namespace Mine
/-! the points mirrored in the diagonal: rows and turns exchanged -/
noncomputable def swp (p : Pnt) : Pnt := (p.2, p.1)
noncomputable def mirP (pts : List Pnt) : List Pnt := isort (pts.map swp)
noncomputable def flipL (l : List Pnt) : List Pnt := (l.map swp).reverse
theorem isort_congr {l l' : List Pnt} (h : l.Perm l') : isort l = isort l' :=
  sorted_unique ((isort_perm l).trans (h.trans (isort_perm l').symm)) (isort_sorted l) (isort_sorted l')
theorem isort_filter (p : Pnt → Bool) (l : List Pnt) : (isort l).filter p = isort (l.filter p) :=
  sorted_unique (((isort_perm l).filter p).trans (isort_perm _).symm) ((isort_sorted l).sublist List.filter_sublist) (isort_sorted _)
theorem mem_mir {pts : List Pnt} {q : Pnt} : q ∈ mirP pts ↔ swp q ∈ pts := by
  unfold mirP
  rw [(isort_perm _).mem_iff, List.mem_map]
  constructor
  · rintro ⟨p, hp, rfl⟩; exact hp
  · exact fun h => ⟨swp q, h, rfl⟩
theorem below_mir (pts : List Pnt) (z : Pnt) : decide (below (mirP pts) (swp z) = []) = decide (below pts z = []) := by
  rw [decide_eq_decide]
  unfold below
  rw [List.filter_eq_nil_iff, List.filter_eq_nil_iff]
  constructor
  · intro h q hq
    have := h (swp q) (mem_mir.mpr hq)
    rw [Bool.and_comm] at this
    exact this
  · intro h q hq
    have := h (swp q) (mem_mir.mp hq)
    rw [Bool.and_comm] at this
    exact this
theorem filter_mir (pts : List Pnt) (P P' : Pnt → Bool) (h : ∀ z, P' (swp z) = P z) : (mirP pts).filter P' = isort ((pts.filter P).map swp) := by
  unfold mirP
  rw [isort_filter, List.filter_map]
  congr 2
  congr 1
  funext z; exact h z
theorem line_fall {pts : List Pnt} (hg : Gen pts) : (line1 pts).Pairwise fun p q => q.2 < p.2 := by
  have hx : (line1 pts).Pairwise fun p q => p.1 < q.1 := hg.x.sublist List.filter_sublist
  have hy : ((line1 pts).map (·.2)).Nodup := hg.y.sublist (List.filter_sublist.map _)
  have hy' : (line1 pts).Pairwise fun p q => p.2 ≠ q.2 := by unfold List.Nodup at hy; rw [List.pairwise_map] at hy; exact hy
  refine (hx.and hy').imp_of_mem fun {p q} hp hq h => ?_
  have hb : below pts q = [] := by have := (List.mem_filter.mp hq).2; simpa using this
  unfold below at hb
  rw [List.filter_eq_nil_iff] at hb
  have := hb p (List.mem_filter.mp hp).1
  simp only [Bool.and_eq_true, decide_eq_true_eq] at this
  have h1 := h.1
  have h2 := h.2
  have : ¬ p.2 < q.2 := fun c => this ⟨h1, c⟩
  omega
theorem line_mir {pts : List Pnt} (hg : Gen pts) : line1 (mirP pts) = flipL (line1 pts) := by
  unfold line1
  rw [filter_mir pts (fun z => decide (below pts z = [])) _ (below_mir pts)]
  refine sorted_unique ((isort_perm _).trans (List.reverse_perm _).symm) (isort_sorted _) ?_
  unfold flipL
  rw [List.pairwise_reverse, List.pairwise_map]
  exact (line_fall hg).imp fun {p q} h => by rw [ple_iff]; exact .inl h
theorem left_eq (pts : List Pnt) : left1 pts = pts.filter fun z => !decide (below pts z = []) := by
  unfold left1
  refine List.filter_congr fun z hz => ?_
  congr 1
  rw [decide_eq_decide]
  unfold line1
  rw [List.mem_filter]
  simp [hz]
theorem left_mir (pts : List Pnt) : left1 (mirP pts) = mirP (left1 pts) := by
  rw [left_eq, left_eq, filter_mir pts (fun z => !decide (below pts z = [])) _ fun z => by rw [below_mir]]
  rfl
theorem mir_len (pts : List Pnt) : (mirP pts).length = pts.length := by unfold mirP; rw [(isort_perm _).length_eq, List.length_map]
theorem mir_nil {pts : List Pnt} : mirP pts = [] ↔ pts = [] := by
  rw [← List.length_eq_zero_iff, mir_len, List.length_eq_zero_iff]
theorem Gen.mir {pts : List Pnt} (hg : Gen pts) : Gen (mirP pts) := by
  refine ⟨?_, ?_⟩
  · have hp : ((mirP pts).map (·.1)).Perm (pts.map (·.2)) := by
      unfold mirP
      refine ((isort_perm _).map _).trans ?_
      rw [List.map_map]; exact .refl _
    have nd := hp.nodup_iff.mpr hg.y
    unfold List.Nodup at nd
    rw [List.pairwise_map] at nd
    refine ((isort_sorted (pts.map swp)).and nd).imp fun {p q} h => ?_
    have h1 := ple_iff.mp h.1
    have h2 := h.2
    omega
  · have hp : ((mirP pts).map (·.2)).Perm (pts.map (·.1)) := by
      unfold mirP
      refine ((isort_perm _).map _).trans ?_
      rw [List.map_map]; exact .refl _
    refine hp.nodup_iff.mpr ?_
    unfold List.Nodup
    rw [List.pairwise_map]
    exact hg.x.imp fun {p q} h e => by omega
theorem lines_mir : ∀ (n : Nat) {pts : List Pnt}, Gen pts → linesF n (mirP pts) = (linesF n pts).map flipL
  | 0, pts, hg => rfl
  | n + 1, pts, hg => by
    rw [linesF, linesF]
    by_cases h : pts = []
    · rw [if_pos h, if_pos (mir_nil.mpr h)]; rfl
    · rw [if_neg h, if_neg fun c => h (mir_nil.mp c), line_mir hg, left_mir, lines_mir n (pts := left1 pts) (hg.sub List.filter_sublist)]
      rfl
theorem flip_last {l : List Pnt} (h : l ≠ []) : (flipL l).getLastD (0, 0) = swp (l.headD (0, 0)) := by
  cases l with
  | nil => exact absurd rfl h
  | cons a r => simp [flipL, List.getLastD_eq_getLast?]
theorem flip_head {l : List Pnt} (h : l ≠ []) : (flipL l).headD (0, 0) = swp (l.getLastD (0, 0)) := by
  unfold flipL
  rw [List.headD_eq_head?_getD, List.head?_reverse, List.getLast?_map, List.getLastD_eq_getLast?, List.getLast?_eq_some_getLast h]
  rfl
theorem corners_consL {a : Pnt} {r : List Pnt} (h : r ≠ []) : corners [a :: r] = ((r.headD (0, 0)).1, a.2) :: corners [r] := by
  obtain ⟨b, r', rfl⟩ : ∃ b r', r = b :: r' := by
    cases r with
    | nil => exact absurd rfl h
    | cons b r' => exact ⟨b, r', rfl⟩
  unfold corners
  simp only [List.flatMap_cons, List.flatMap_nil, List.append_nil, List.length_cons, Nat.add_sub_cancel]
  rw [List.range_succ_eq_map, List.map_cons, List.map_map]
  rfl
theorem corners_flip : ∀ (l : List Pnt), corners [flipL l] = ((corners [l]).map swp).reverse
  | [] => rfl
  | [a] => rfl
  | a :: b :: r => by
    have ih := corners_flip (b :: r)
    have e : flipL (a :: b :: r) = flipL (b :: r) ++ [swp a] := by simp [flipL]
    rw [e, corners_snoc (by simp [flipL]), ih, flip_last (by simp), corners_consL (a := a) (r := b :: r) (by simp), List.map_cons, List.reverse_cons]
    rfl
theorem corners_mir : ∀ (ls : Cols), (corners (ls.map flipL)).Perm ((corners ls).map swp)
  | [] => .refl _
  | l :: ls => by
    rw [List.map_cons, corners_cons, corners_cons l ls, List.map_append, corners_flip]
    exact (List.reverse_perm _).append (corners_mir ls)
theorem gen_next {p : Pnt} {ps : List Pnt} (hg : Gen (p :: ps)) : Gen (isort (corners (linesF (p :: ps).length (p :: ps)))) := by
  obtain ⟨k1, k2, k3⟩ := rowP_cols (p :: ps) (cs := []) fun c hc => nomatch hc
  rw [cols_lines (p :: ps).length (p :: ps) (Nat.le_refl _) hg] at k3
  have hx : ((p :: ps).map (·.1)).Pairwise (· < ·) := by rw [List.pairwise_map]; exact hg.x
  have hx' := hx.sublist (rowP_sub (p :: ps) [] [])
  rw [List.pairwise_map] at hx'
  have hb : (rowP [] [] (p :: ps)).2.2 = isort (corners (linesF (p :: ps).length (p :: ps))) := by
    refine sorted_unique ?_ ?_ (isort_sorted _)
    · refine (((isort_perm _).trans k3).trans ?_).symm
      have : corners [] = [] := rfl
      rw [this, List.append_nil]
      exact .refl _
    · exact hx'.imp fun {a b} q => by rw [ple_iff]; omega
  rw [← hb]
  refine ⟨hx', ?_⟩
  have hp := rowP_perm (p :: ps) [] []
  rw [List.append_nil] at hp
  exact (List.nodup_append.mp (hp.nodup_iff.mpr hg.y)).1
theorem row_mir {ls : Cols} (h : ∀ l ∈ ls, l ≠ []) : rowOf (ls.map flipL) = turnOf ls ∧ turnOf (ls.map flipL) = rowOf ls := by
  unfold rowOf turnOf
  rw [List.map_map, List.map_map]
  exact ⟨List.map_congr_left fun l hl => by rw [Function.comp, flip_last (h l hl)]; rfl, List.map_congr_left fun l hl => by rw [Function.comp, flip_head (h l hl)]; rfl⟩
theorem shadows_mir : ∀ (n : Nat) {pts : List Pnt}, pts.length ≤ n → Gen pts → shadowsF isort n (mirP pts) = ((shadowsF isort n pts).2, (shadowsF isort n pts).1)
  | 0, pts, _, _ => rfl
  | n + 1, [], _, _ => rfl
  | n + 1, p :: ps, hl, hg => by
    have hne : p :: ps ≠ [] := by simp
    rw [shadowsF, shadowsF, if_neg hne, if_neg fun c => hne (mir_nil.mp c), mir_len, lines_mir _ hg]
    dsimp only
    have hn := row_mir fun l hl => ((linesF_mem (p :: ps).length (p :: ps) (Nat.le_refl _)).1 l hl).1
    have hlt := corners_lt hne
    have e : isort (corners ((linesF (p :: ps).length (p :: ps)).map flipL)) = mirP (isort (corners (linesF (p :: ps).length (p :: ps)))) := by
      unfold mirP
      exact (isort_congr (corners_mir _)).trans (isort_congr ((isort_perm _).map swp)).symm
    rw [hn.1, hn.2, e]
    have ih := shadows_mir n (pts := isort (corners (linesF (p :: ps).length (p :: ps)))) (by rw [(isort_perm _).length_eq]; omega) (gen_next hg)
    rw [ih]
theorem rsk_mir {pts : List Pnt} (hg : Gen pts) : rskP [] [] (mirP pts) = ((rskP [] [] pts).2, (rskP [] [] pts).1) := by
  rw [← shadows_rsk pts.length (mirP pts) (by rw [mir_len]; exact Nat.le_refl _) hg.mir, ← shadows_rsk pts.length pts (Nat.le_refl _) hg, shadows_mir pts.length (Nat.le_refl _) hg]
end Mine
end
section
set_option maxRecDepth 100000
set_option linter.unusedVariables false
namespace Mine
noncomputable abbrev TN := List (List Nat)
/-! a letter into a row, into the rows, a word: the row's number of each new cell, as one number to the base 8 -/
noncomputable def insR (x : Nat) : List Nat → Nat × List Nat
  | [] => (0, [x])
  | y :: r => if x < y then (y + 1, x :: r) else ((insR x r).1, y :: (insR x r).2)
noncomputable def insI : TN → Nat → Nat
  | [], _ => 0
  | row :: R, x => match (insR x row).1 with | 0 => 0 | y + 1 => insI R y + 1
noncomputable def insT : TN → Nat → TN
  | [], x => [[x]]
  | row :: R, x => match (insR x row).1 with | 0 => (insR x row).2 :: R | y + 1 => (insR x row).2 :: insT R y
noncomputable def qcF : TN → Nat → List Nat → Nat
  | _, c, [] => c
  | rows, c, x :: w => qcF (insT rows x) (c * 8 + insI rows x) w
noncomputable def qc (w : List Nat) : Nat := qcF [] 0 w
/-- the same by recursors, for the kernel -/
noncomputable def insK {α : Type} (x : Nat) (row : List Nat) : (Nat → List Nat → α) → α :=
  @List.rec Nat (fun _ => (Nat → List Nat → α) → α) (fun k => k 0 [x]) (fun y r ih k => @Bool.rec (fun _ => α) (ih fun b r' => k b (y :: r')) (k (Nat.succ y) (x :: r)) (Nat.ble (Nat.succ x) y)) row
theorem insR_cons (x y : Nat) (r : List Nat) : insR x (y :: r) = if x < y then (y + 1, x :: r) else ((insR x r).1, y :: (insR x r).2) := rfl
theorem insK_eq {α : Type} (x : Nat) : ∀ (row : List Nat) (k : Nat → List Nat → α), insK x row k = k (insR x row).1 (insR x row).2
  | [], k => rfl
  | y :: r, k => by
    show @Bool.rec (fun _ => α) (insK x r fun b r' => k b (y :: r')) (k (Nat.succ y) (x :: r)) (Nat.ble (Nat.succ x) y) = _
    rw [insK_eq x r, insR_cons]
    by_cases h : x < y
    · rw [Nat.ble_eq_true_of_le h, if_pos h]
    · rw [Bool.eq_false_iff.mpr fun q => h (Nat.le_of_ble_eq_true q), if_neg h]
noncomputable def stepK {α : Type} (rows : TN) : Nat → Nat → (Nat → TN → α) → α :=
  @List.rec (List Nat) (fun _ => Nat → Nat → (Nat → TN → α) → α) (fun x i k => k i [[x]])
    (fun row R ih x i k => insK x row fun b row' => @Nat.rec (fun _ => α) (k i (row' :: R)) (fun y _ => ih y (Nat.succ i) fun j R' => k j (row' :: R')) b) rows
theorem stepK_eq {α : Type} : ∀ (rows : TN) (x i : Nat) (k : Nat → TN → α), stepK rows x i k = k (i + insI rows x) (insT rows x)
  | [], x, i, k => rfl
  | row :: R, x, i, k => by
    show insK x row (fun b row' => @Nat.rec (fun _ => α) (k i (row' :: R)) (fun y _ => stepK R y (Nat.succ i) fun j R' => k j (row' :: R')) b) = _
    rw [insK_eq]
    unfold insI insT
    cases (insR x row).1 with
    | zero => rfl
    | succ y =>
      show stepK R y (Nat.succ i) _ = _
      rw [stepK_eq R]
      congr 1
      simp only [Nat.succ_eq_add_one]
      exact Nat.add_right_comm _ _ _
noncomputable def qcK (w : List Nat) : TN → Nat → (Nat → Bool) → Bool :=
  @List.rec Nat (fun _ => TN → Nat → (Nat → Bool) → Bool) (fun _ c k => k c) (fun x _ ih rows c k => stepK rows x 0 fun j rows' => ih rows' (Nat.add (Nat.mul c 8) j) k) w
theorem qcK_eq : ∀ (w : List Nat) (rows : TN) (c : Nat) (k : Nat → Bool), qcK w rows c k = k (qcF rows c w)
  | [], rows, c, k => rfl
  | x :: w, rows, c, k => by
    show stepK rows x 0 (fun j rows' => qcK w rows' (Nat.add (Nat.mul c 8) j) k) = _
    rw [stepK_eq, qcK_eq w, Nat.zero_add]
    rfl
/-! the tables: of each standard one's number the mirrored one's and the emptied one's -/
inductive KT3 where
  | nil
  | node (c t e : Nat) (l r : KT3)
noncomputable def KT3.get : KT3 → Nat → Option (Nat × Nat)
  | .nil, _ => none
  | .node c t e l r, x => match Nat.beq x c with
    | true => some (t, e)
    | false => match Nat.ble x c with
      | true => l.get x
      | false => r.get x
noncomputable def KT3.all (p : Nat → Nat → Nat → Bool) : KT3 → Bool
  | .nil => true
  | .node c t e l r => p c t e && (l.all p && r.all p)
theorem KT3.all_get {p : Nat → Nat → Nat → Bool} : ∀ {T : KT3}, T.all p = true → ∀ {c t e : Nat}, T.get c = some (t, e) → p c t e = true
  | .nil, _, c, t, e, h => by cases h
  | .node c' t' e' l r, ha, c, t, e, h => by
    simp only [KT3.all, Bool.and_eq_true] at ha
    unfold KT3.get at h
    cases q : Nat.beq c c' with
    | true =>
      rw [q] at h
      have e1 := Nat.eq_of_beq_eq_true q
      cases h
      rw [e1]; exact ha.1
    | false =>
      rw [q] at h
      cases q' : Nat.ble c c' with
      | true => rw [q'] at h; exact KT3.all_get ha.2.1 h
      | false => rw [q'] at h; exact KT3.all_get ha.2.2 h
/-- v told upside down, and backwards -/
noncomputable def comp (m : Nat) (v : List Nat) : List Nat := v.map fun x => m - x
noncomputable def chk (T : KT3) (m : Nat) (v : List Nat) : Bool := match T.get (qc v) with
  | none => false
  | some (t, e) => match T.get e with
    | none => false
    | some (te, _) => Nat.beq (qc (comp m v)) t && Nat.beq (qc v.reverse) te
noncomputable def compK (m : Nat) (v : List Nat) : List Nat := @List.rec Nat (fun _ => List Nat) [] (fun x _ ih => Nat.sub m x :: ih) v
theorem compK_eq (m : Nat) : ∀ v : List Nat, compK m v = comp m v
  | [] => rfl
  | x :: v => by show (m - x) :: compK m v = _; rw [compK_eq m v]; rfl
noncomputable def revK (v : List Nat) : List Nat → List Nat := @List.rec Nat (fun _ => List Nat → List Nat) (fun a => a) (fun x _ ih a => ih (x :: a)) v
theorem revK_eq : ∀ v a : List Nat, revK v a = v.reverse ++ a
  | [], a => rfl
  | x :: v, a => by show revK v (x :: a) = _; rw [revK_eq v]; simp
noncomputable def chkK (T : KT3) (m : Nat) (v : List Nat) : Bool := qcK v [] 0 fun q => match T.get q with
  | none => false
  | some (t, e) => match T.get e with
    | none => false
    | some (te, _) => match qcK (compK m v) [] 0 fun q => Nat.beq q t with
      | true => qcK (revK v []) [] 0 fun q => Nat.beq q te
      | false => false
theorem chkK_eq (T : KT3) (m : Nat) (v : List Nat) : chkK T m v = chk T m v := by
  unfold chkK chk
  rw [qcK_eq]
  show (match T.get (qc v) with | none => false | some (t, e) => _) = _
  cases T.get (qc v) with
  | none => rfl
  | some p =>
    obtain ⟨t, e⟩ := p
    simp only
    cases T.get e with
    | none => rfl
    | some p =>
      obtain ⟨te, z⟩ := p
      simp only [qcK_eq, compK_eq, revK_eq, List.append_nil]
      show (match Nat.beq (qc (comp m v)) t with | true => Nat.beq (qc v.reverse) te | false => false) = _
      cases Nat.beq (qc (comp m v)) t <;> rfl
/-- all ways to put x into w -/
noncomputable def inserts (x : Nat) : List Nat → List (List Nat)
  | [] => [[x]]
  | y :: r => (x :: y :: r) :: (inserts x r).map (y :: ·)
noncomputable def perms : Nat → List (List Nat)
  | 0 => [[]]
  | n + 1 => (perms n).flatMap (inserts n)
noncomputable def allK (p : List Nat → Bool) (l : List (List Nat)) : Bool := @List.rec (List Nat) (fun _ => Bool) true (fun v _ ih => @Bool.rec (fun _ => Bool) false ih (p v)) l
theorem allK_eq (p : List Nat → Bool) : ∀ {l : List (List Nat)}, allK p l = true → ∀ v ∈ l, p v = true
  | [], _, v, hv => nomatch hv
  | u :: l, h, v, hv => by
    have h : @Bool.rec (fun _ => Bool) false (allK p l) (p u) = true := h
    cases q : p u with
    | false => rw [q] at h; cases h
    | true =>
      rw [q] at h
      rcases List.mem_cons.mp hv with rfl | hv
      · exact q
      · exact allK_eq p h v hv
noncomputable def tree3 : KT3 := .node 8 1 1 (.node 1 8 8 (.node 0 10 0 .nil .nil) .nil) (.node 10 0 10 .nil .nil)
noncomputable def tree4 : KT3 := .node 64 10 1 (.node 8 66 8 (.node 1 80 64 (.node 0 83 0 .nil .nil) .nil) (.node 10 64 80 (.node 9 65 9 .nil .nil) .nil)) (.node 80 1 10 (.node 66 8 66 (.node 65 9 65 .nil .nil) .nil) (.node 83 0 83 .nil .nil))
noncomputable def tree5 : KT3 := .node 512 83 1 (.node 65 529 520 (.node 9 641 72 (.node 1 664 512 (.node 0 668 0 .nil .nil) (.node 8 643 64 .nil .nil)) (.node 64 531 8 (.node 10 640 640 .nil .nil) .nil)) (.node 80 514 80 (.node 72 522 9 (.node 66 528 528 .nil .nil) (.node 74 520 529 .nil .nil)) (.node 83 512 664 (.node 81 513 81 .nil .nil) .nil))) (.node 531 64 643 (.node 522 72 641 (.node 514 80 514 (.node 513 81 513 .nil .nil) (.node 520 74 65 .nil .nil)) (.node 529 65 74 (.node 528 66 66 .nil .nil) .nil)) (.node 643 8 531 (.node 641 9 522 (.node 640 10 10 .nil .nil) .nil) (.node 668 0 668 (.node 664 1 83 .nil .nil) .nil)))
noncomputable def tree6 : KT3 := .node 4096 668 1 (.node 522 4232 5128 (.node 73 5130 73 (.node 10 5312 5120 (.node 8 5316 512 (.node 1 5344 4096 (.node 0 5349 0 .nil .nil) .nil) (.node 9 5313 576 .nil .nil)) (.node 66 5144 4224 (.node 65 5145 4160 (.node 64 5148 64 .nil .nil) .nil) (.node 72 5131 72 .nil .nil))) (.node 512 4252 8 (.node 81 5121 648 (.node 80 5123 640 (.node 74 5128 4232 .nil .nil) .nil) (.node 83 5120 5312 .nil .nil)) (.node 520 4235 520 (.node 514 4248 4112 (.node 513 4249 4104 .nil .nil) .nil) (.node 521 4234 521 .nil .nil)))) (.node 640 4115 80 (.node 577 4178 4105 (.node 531 4224 5144 (.node 529 4225 592 (.node 528 4227 528 .nil .nil) .nil) (.node 576 4179 9 .nil .nil)) (.node 594 4161 594 (.node 592 4162 529 (.node 578 4176 4113 .nil .nil) .nil) (.node 595 4160 5145 .nil .nil))) (.node 651 4104 4249 (.node 648 4106 81 (.node 643 4112 4248 (.node 641 4113 4176 .nil .nil) .nil) (.node 650 4105 4178 .nil .nil)) (.node 665 4097 665 (.node 664 4098 664 .nil .nil) (.node 668 4096 5344 .nil .nil))))) (.node 4234 521 4234 (.node 4161 594 4161 (.node 4106 648 5121 (.node 4104 651 513 (.node 4098 664 4098 (.node 4097 665 4097 .nil .nil) .nil) (.node 4105 650 577 .nil .nil)) (.node 4115 640 5123 (.node 4113 641 578 (.node 4112 643 514 .nil .nil) .nil) (.node 4160 595 65 .nil .nil))) (.node 4224 531 66 (.node 4178 577 650 (.node 4176 578 641 (.node 4162 592 4225 .nil .nil) .nil) (.node 4179 576 5313 .nil .nil)) (.node 4227 528 4227 (.node 4225 529 4162 .nil .nil) (.node 4232 522 74 .nil .nil)))) (.node 5131 72 5131 (.node 5120 83 10 (.node 4249 513 651 (.node 4248 514 643 (.node 4235 520 4235 .nil .nil) .nil) (.node 4252 512 5316 .nil .nil)) (.node 5128 74 522 (.node 5123 80 4115 (.node 5121 81 4106 .nil .nil) .nil) (.node 5130 73 5130 .nil .nil))) (.node 5313 9 4179 (.node 5148 64 5148 (.node 5145 65 595 (.node 5144 66 531 .nil .nil) .nil) (.node 5312 10 83 .nil .nil)) (.node 5344 1 668 (.node 5316 8 4252 .nil .nil) (.node 5349 0 5349 .nil .nil)))))
noncomputable def tree7 : KT3 := .node 32768 5349 1 (.node 4178 33857 5200 (.node 593 41026 4233 (.node 512 41189 64 (.node 66 42528 33792 (.node 9 42753 4608 (.node 1 42792 32768 (.node 0 42798 0 .nil .nil) (.node 8 42757 4096 .nil .nil)) (.node 64 42533 512 (.node 10 42752 40960 .nil .nil) (.node 65 42529 33280 .nil .nil))) (.node 80 42500 5120 (.node 73 42506 584 (.node 72 42508 576 .nil .nil) (.node 74 42504 33856 .nil .nil)) (.node 83 42496 42496 (.node 81 42497 5184 .nil .nil) .nil))) (.node 531 41152 41152 (.node 521 41162 4168 (.node 514 41184 32896 (.node 513 41185 32832 .nil .nil) (.node 520 41164 4160 .nil .nil)) (.node 528 41156 4224 (.node 522 41160 41024 .nil .nil) (.node 529 41153 4736 .nil .nil))) (.node 584 41043 73 (.node 577 41050 32840 (.node 576 41052 72 .nil .nil) (.node 578 41048 32904 .nil .nil)) (.node 592 41027 4232 (.node 586 41040 32905 .nil .nil) .nil)))) (.node 4098 34016 32784 (.node 650 40969 33424 (.node 641 40985 33408 (.node 595 41024 41160 (.node 594 41025 4752 .nil .nil) (.node 640 40988 640 .nil .nil)) (.node 648 40971 648 (.node 643 40984 33984 .nil .nil) (.node 649 40970 649 .nil .nil))) (.node 668 40960 42752 (.node 664 40963 5312 (.node 651 40968 33992 .nil .nil) (.node 665 40961 5320 .nil .nil)) (.node 4097 34017 32776 (.node 4096 34021 8 .nil .nil) .nil))) (.node 4160 33884 520 (.node 4112 33988 4112 (.node 4105 33994 4616 (.node 4104 33996 4104 .nil .nil) (.node 4106 33992 40968 .nil .nil)) (.node 4115 33984 40984 (.node 4113 33985 4624 .nil .nil) .nil)) (.node 4170 33872 33801 (.node 4162 33880 33800 (.node 4161 33882 33288 .nil .nil) (.node 4168 33875 521 .nil .nil)) (.node 4177 33858 5129 (.node 4176 33859 5128 .nil .nil) .nil))))) (.node 4764 33280 42529 (.node 4616 33427 4105 (.node 4235 33800 33880 (.node 4227 33816 33816 (.node 4224 33820 528 (.node 4179 33856 42504 .nil .nil) (.node 4225 33817 33296 .nil .nil)) (.node 4233 33802 593 (.node 4232 33803 592 .nil .nil) (.node 4234 33801 33872 .nil .nil))) (.node 4608 33436 9 (.node 4249 33793 5208 (.node 4248 33795 5144 .nil .nil) (.node 4252 33792 42528 .nil .nil)) (.node 4610 33432 32785 (.node 4609 33434 32777 .nil .nil) .nil))) (.node 4737 33298 33297 (.node 4626 33409 4626 (.node 4624 33411 4113 (.node 4618 33424 40969 .nil .nil) (.node 4625 33410 4625 .nil .nil)) (.node 4736 33299 529 (.node 4627 33408 40985 .nil .nil) .nil)) (.node 4755 33288 33882 (.node 4739 33296 33817 (.node 4738 33297 33298 .nil .nil) (.node 4752 33290 594 .nil .nil)) (.node 4762 33281 5210 (.node 4760 33282 5145 .nil .nil) .nil)))) (.node 5200 32842 4178 (.node 5144 32899 4248 (.node 5128 32907 4176 (.node 5121 32921 32848 (.node 5120 32924 80 .nil .nil) (.node 5123 32920 32920 .nil .nil)) (.node 5130 32905 41040 (.node 5129 32906 4177 .nil .nil) (.node 5131 32904 41048 .nil .nil))) (.node 5185 32850 32849 (.node 5148 32896 41184 (.node 5145 32897 4760 .nil .nil) (.node 5184 32851 81 .nil .nil)) (.node 5187 32848 32921 (.node 5186 32849 32850 .nil .nil) .nil))) (.node 5316 32784 34016 (.node 5212 32832 41185 (.node 5208 32834 4249 (.node 5203 32840 41050 .nil .nil) (.node 5210 32833 4762 .nil .nil)) (.node 5313 32785 33432 (.node 5312 32787 664 .nil .nil) .nil)) (.node 5344 32770 5344 (.node 5322 32777 33434 (.node 5320 32778 665 .nil .nil) (.node 5324 32776 34017 .nil .nil)) (.node 5349 32768 42792 (.node 5345 32769 5345 .nil .nil) .nil)))))) (.node 33858 4177 32906 (.node 33281 4762 32833 (.node 32849 5186 5185 (.node 32787 5312 40963 (.node 32777 5322 4609 (.node 32770 5344 32770 (.node 32769 5345 32769 .nil .nil) (.node 32776 5324 4097 .nil .nil)) (.node 32784 5316 4098 (.node 32778 5320 40961 .nil .nil) (.node 32785 5313 4610 .nil .nil))) (.node 32840 5203 577 (.node 32833 5210 33281 (.node 32832 5212 513 .nil .nil) (.node 32834 5208 33793 .nil .nil)) (.node 32848 5187 5121 (.node 32842 5200 33857 .nil .nil) .nil))) (.node 32905 5130 586 (.node 32897 5145 33282 (.node 32851 5184 42497 (.node 32850 5185 5186 .nil .nil) (.node 32896 5148 514 .nil .nil)) (.node 32904 5131 578 (.node 32899 5144 33795 .nil .nil) .nil)) (.node 32921 5121 5187 (.node 32907 5128 33859 (.node 32906 5129 33858 .nil .nil) (.node 32920 5123 5123 .nil .nil)) (.node 33280 4764 65 (.node 32924 5120 42500 .nil .nil) .nil)))) (.node 33434 4609 5322 (.node 33408 4627 641 (.node 33296 4739 4225 (.node 33288 4755 4161 (.node 33282 4760 32897 .nil .nil) (.node 33290 4752 41025 .nil .nil)) (.node 33298 4737 4738 (.node 33297 4738 4737 .nil .nil) (.node 33299 4736 41153 .nil .nil))) (.node 33424 4618 650 (.node 33410 4625 33410 (.node 33409 4626 33409 .nil .nil) (.node 33411 4624 33985 .nil .nil)) (.node 33432 4610 5313 (.node 33427 4616 33994 .nil .nil) .nil))) (.node 33802 4233 41026 (.node 33795 4248 32899 (.node 33792 4252 66 (.node 33436 4608 42753 .nil .nil) (.node 33793 4249 32834 .nil .nil)) (.node 33801 4234 4170 (.node 33800 4235 4162 .nil .nil) .nil)) (.node 33820 4224 41156 (.node 33816 4227 4227 (.node 33803 4232 41027 .nil .nil) (.node 33817 4225 4739 .nil .nil)) (.node 33857 4178 32842 (.node 33856 4179 74 .nil .nil) .nil))))) (.node 41027 592 33803 (.node 34021 4096 42757 (.node 33985 4113 33411 (.node 33880 4162 4235 (.node 33872 4170 4234 (.node 33859 4176 32907 .nil .nil) (.node 33875 4168 41162 .nil .nil)) (.node 33884 4160 41164 (.node 33882 4161 4755 .nil .nil) (.node 33984 4115 643 .nil .nil))) (.node 33996 4104 33996 (.node 33992 4106 651 (.node 33988 4112 33988 .nil .nil) (.node 33994 4105 33427 .nil .nil)) (.node 34017 4097 5324 (.node 34016 4098 5316 .nil .nil) .nil))) (.node 40971 648 40971 (.node 40968 651 4106 (.node 40961 665 32778 (.node 40960 668 10 .nil .nil) (.node 40963 664 32787 .nil .nil)) (.node 40970 649 40970 (.node 40969 650 4618 .nil .nil) .nil)) (.node 41024 595 522 (.node 40985 641 4627 (.node 40984 643 4115 .nil .nil) (.node 40988 640 40988 .nil .nil)) (.node 41026 593 33802 (.node 41025 594 33290 .nil .nil) .nil)))) (.node 42496 83 83 (.node 41156 528 33820 (.node 41050 577 5203 (.node 41043 584 42506 (.node 41040 586 5130 .nil .nil) (.node 41048 578 5131 .nil .nil)) (.node 41152 531 531 (.node 41052 576 42508 .nil .nil) (.node 41153 529 33299 .nil .nil))) (.node 41184 514 5148 (.node 41162 521 33875 (.node 41160 522 595 .nil .nil) (.node 41164 520 33884 .nil .nil)) (.node 41189 512 42533 (.node 41185 513 5212 .nil .nil) .nil))) (.node 42529 65 4764 (.node 42506 73 41043 (.node 42500 80 32924 (.node 42497 81 32851 .nil .nil) (.node 42504 74 4179 .nil .nil)) (.node 42528 66 4252 (.node 42508 72 41052 .nil .nil) .nil)) (.node 42757 8 34021 (.node 42752 10 668 (.node 42533 64 41189 .nil .nil) (.node 42753 9 33436 .nil .nil)) (.node 42798 0 42798 (.node 42792 1 5349 .nil .nil) .nil))))))
theorem all3 : allK (chkK tree3 2) (perms 3) = true := by decide +kernel
theorem all4 : allK (chkK tree4 3) (perms 4) = true := by decide +kernel
theorem all5 : allK (chkK tree5 4) (perms 5) = true := by decide +kernel
theorem all6 : allK (chkK tree6 5) (perms 6) = true := by decide +kernel
noncomputable def part7 (i : Nat) : Bool := allK (chkK tree7 6) ((((perms 6).drop (120 * i)).take 120).flatMap (inserts 6))
theorem all7_0 : part7 0 = true := by decide +kernel
theorem all7_1 : part7 1 = true := by decide +kernel
theorem all7_2 : part7 2 = true := by decide +kernel
theorem all7_3 : part7 3 = true := by decide +kernel
theorem all7_4 : part7 4 = true := by decide +kernel
theorem all7_5 : part7 5 = true := by decide +kernel
theorem perms6_len : (perms 6).length = 720 := by decide +kernel
theorem all7 : ∀ v ∈ perms 7, chk tree7 6 v = true := by
  intro v hv
  obtain ⟨u, hu, hv⟩ := List.mem_flatMap.mp (show v ∈ (perms 6).flatMap (inserts 6) from hv)
  have part : ∀ i, u ∈ ((perms 6).drop (120 * i)).take 120 → part7 i = true → chk tree7 6 v = true := fun i hi h => by
    rw [← chkK_eq]
    exact allK_eq _ h v (List.mem_flatMap.mpr ⟨u, hi, hv⟩)
  obtain ⟨k, hk, rfl⟩ := List.mem_iff_getElem.mp hu
  have hk' : k < 720 := by rw [← perms6_len]; exact hk
  have mem : ∀ i, 120 * i ≤ k → k < 120 * i + 120 → (perms 6)[k] ∈ ((perms 6).drop (120 * i)).take 120 := fun i h1 h2 => by
    refine List.mem_iff_getElem.mpr ⟨k - 120 * i, by rw [List.length_take, List.length_drop]; omega, ?_⟩
    rw [List.getElem_take, List.getElem_drop]
    congr 1; exact Om.q3 ‹_›
  have : k < 120 ∨ (120 ≤ k ∧ k < 240) ∨ (240 ≤ k ∧ k < 360) ∨ (360 ≤ k ∧ k < 480) ∨ (480 ≤ k ∧ k < 600) ∨ (600 ≤ k ∧ k < 720) := by omega
  rcases this with h | h | h | h | h | h
  · exact part 0 (mem 0 (by exact Nat.zero_le _) (by assumption)) all7_0
  · exact part 1 (mem 1 (by exact (And.left ‹_›)) (by exact (And.right ‹_›))) all7_1
  · exact part 2 (mem 2 (by exact (And.left ‹_›)) (by exact (And.right ‹_›))) all7_2
  · exact part 3 (mem 3 (by exact (And.left ‹_›)) (by exact (And.right ‹_›))) all7_3
  · exact part 4 (mem 4 (by exact (And.left ‹_›)) (by exact (And.right ‹_›))) all7_4
  · exact part 5 (mem 5 (by exact (And.left ‹_›)) (by assumption)) all7_5
end Mine
end
section
open PySem PySem.W PyProof.Rows
set_option maxRecDepth 10000
set_option linter.unusedVariables false
namespace Mine
noncomputable def castR (r : List Nat) : List Int := r.map fun (x : Nat) => (x : Int)
noncomputable def castT (t : TN) : Tab := t.map castR
theorem iR_cast (x : Nat) : ∀ row : List Nat, iR (x : Int) (castR row) = ((match (insR x row).1 with | 0 => none | y + 1 => some (y : Int)), castR (insR x row).2)
  | [] => rfl
  | y :: r => by
    have ih := iR_cast x r
    show (if (x : Int) < (y : Int) then (some (y : Int), (x : Int) :: castR r) else ((iR (x : Int) (castR r)).1, (y : Int) :: (iR (x : Int) (castR r)).2)) = _
    rw [insR_cons]
    by_cases h : x < y
    · rw [if_pos h, if_pos (by exact Int.ofNat_le.mpr ‹_›)]; rfl
    · rw [if_neg h, if_neg (by omega), ih]; rfl
noncomputable def addRow (c : Nat) : Nat → TN → TN
  | _, [] => [[c]]
  | 0, y :: t => (y ++ [c]) :: t
  | r + 1, y :: t => y :: addRow c r t
theorem iA_cast (c : Nat) : ∀ (rows ts : TN) (x : Nat), ts.length = rows.length → iA (c : Int) (castT rows) (castT ts) (x : Int) = (castT (insT rows x), castT (addRow c (insI rows x) ts))
  | [], [], x, _ => rfl
  | [], _ :: _, x, h => by simp at h
  | _ :: _, [], x, h => by simp at h
  | row :: R, tr :: T, x, h => by
    have hc := iR_cast x row
    show iA (c : Int) (castR row :: castT R) (castR tr :: castT T) (x : Int) = _
    unfold insT insI
    cases q : (insR x row).1 with
    | zero =>
      rw [q] at hc
      rw [iA_none (by rw [hc]), hc]
      show _ = (castR (insR x row).2 :: castT R, castR (tr ++ [c]) :: castT T)
      simp [castR]
    | succ y =>
      rw [q] at hc
      rw [iA_some (y := (y : Int)) (by rw [hc]), hc, List.headD_cons, List.tail_cons, iA_cast c R T y (by simpa using h)]
      rfl
theorem insI_le : ∀ (rows : TN) (x : Nat), insI rows x ≤ rows.length
  | [], _ => Nat.le_refl _
  | row :: R, x => by
    unfold insI
    cases (insR x row).1 with
    | zero => exact Nat.zero_le _
    | succ y => have := insI_le R y; simp; exact this
theorem insT_len : ∀ (rows : TN) (x : Nat), (insT rows x).length ≤ rows.length + 1
  | [], _ => Nat.le_refl _
  | row :: R, x => by
    unfold insT
    cases (insR x row).1 with
    | zero => simp
    | succ y => have := insT_len R y; simp; exact this
theorem addRow_len (c : Nat) : ∀ (rows ts : TN) (x : Nat), ts.length = rows.length → (addRow c (insI rows x) ts).length = (insT rows x).length
  | [], [], x, _ => rfl
  | [], _ :: _, x, h => by simp at h
  | _ :: _, [], x, h => by simp at h
  | row :: R, tr :: T, x, h => by
    unfold insT insI
    cases (insR x row).1 with
    | zero => simpa [addRow] using h
    | succ y => have := addRow_len c R T y (by simpa using h); simpa [addRow] using this
/-- the turns that a number tells -/
noncomputable def tabC : Nat → Nat → TN
  | 0, _ => []
  | n + 1, c => addRow n (c % 8) (tabC n (c / 8))
noncomputable def ptsF (k : Nat) : List Nat → List Pnt
  | [] => []
  | x :: w => ((k : Int), (x : Int)) :: ptsF (k + 1) w
theorem rskP_cast : ∀ (w : List Nat) (rows : TN) (k c : Nat), (tabC k c).length = rows.length → rows.length ≤ k → k + w.length ≤ 8 →
    (rskP (castT rows) (castT (tabC k c)) (ptsF k w)).2 = castT (tabC (k + w.length) (qcF rows c w))
  | [], rows, k, c, _, _, _ => rfl
  | x :: w, rows, k, c, h1, h2, h3 => by
    simp only [List.length_cons] at h3
    show (rskP (iA (k : Int) (castT rows) (castT (tabC k c)) (x : Int)).1 (iA (k : Int) (castT rows) (castT (tabC k c)) (x : Int)).2 (ptsF (k + 1) w)).2 = _
    rw [iA_cast k rows (tabC k c) x h1]
    have hi := insI_le rows x
    have hl := insT_len rows x
    have e : tabC (k + 1) (c * 8 + insI rows x) = addRow k (insI rows x) (tabC k c) := by
      rw [tabC]
      have e1 : (c * 8 + insI rows x) % 8 = insI rows x := by omega
      have e2 : (c * 8 + insI rows x) / 8 = c := by omega
      rw [e1, e2]
    have ih := rskP_cast w (insT rows x) (k + 1) (c * 8 + insI rows x) (by rw [e]; exact addRow_len k rows _ x h1) (by omega) (by exact Om.sf1 ‹_›)
    rw [e] at ih
    rw [ih]
    have e3 : k + 1 + w.length = k + (x :: w).length := by simp; exact Nat.add_right_comm _ _ _
    rw [e3]; rfl
theorem lay_fold : ∀ (w : List Nat) (R T : Tab) (k : Nat), T.map List.length = R.map List.length → (∀ r ∈ R, SortedI r) → (∀ r ∈ R, r ≠ []) → (castR w ++ R.flatten).Nodup → R.flatten.length = k →
    (castR w).foldl lay (R, T, true) = ((rskP R T (ptsF k w)).1, (rskP R T (ptsF k w)).2, true)
  | [], R, T, k, _, _, _, _, _ => rfl
  | x :: w, R, T, k, h1, h2, h3, h4, h5 => by
    have h4' : ((x : Int) :: (castR w ++ R.flatten)).Nodup := h4
    have nd : ((x : Int) :: R.flatten).Nodup := List.Pairwise.sublist (List.Sublist.cons_cons _ (List.sublist_append_right _ _)) h4'
    show (castR w).foldl lay (lay (R, T, true) (x : Int)) = _
    rw [lay_new h1 h2 h3 nd, h5]
    have hp := iA_perm (c := (k : Int)) (R := R) (T := T) (x := (x : Int))
    refine lay_fold w _ _ (k + 1) (iA_turns h1) (iA_sorted h2 nd) (iA_ne h3) ?_ ?_
    · have : (castR w ++ (iA (k : Int) R T (x : Int)).1.flatten).Perm ((x : Int) :: (castR w ++ R.flatten)) := (hp.append_left _).trans List.perm_middle
      exact this.nodup_iff.mpr h4'
    · rw [hp.length_eq, List.length_cons, h5]
theorem ptsF_eq : ∀ (w : List Nat) (k : Nat), ptsF k w = (List.range w.length).map fun i => (((k + i : Nat) : Int), ((w.getD i 0 : Nat) : Int))
  | [], k => rfl
  | x :: w, k => by
    rw [ptsF, ptsF_eq w, List.length_cons, List.range_succ_eq_map, List.map_cons, List.map_map]
    simp only [List.getD_cons_zero, Nat.add_zero]
    congr 1
    refine List.map_congr_left fun i _ => ?_
    simp only [Function.comp, List.getD_cons_succ, Nat.succ_eq_add_one]
    have : k + 1 + i = k + (i + 1) := by exact Nat.add_right_comm _ _ _
    rw [this]
/-- inverse to one another -/
structure Pair (n : Nat) (w v : List Nat) : Prop where
  wp : w.Perm (List.range n)
  vp : v.Perm (List.range n)
  wv : ∀ i, i < n → w.getD (v.getD i 0) 0 = i
  vw : ∀ i, i < n → v.getD (w.getD i 0) 0 = i
theorem Pair.symm {n : Nat} {w v : List Nat} (h : Pair n w v) : Pair n v w := ⟨h.vp, h.wp, h.vw, h.wv⟩
theorem perm_len {n : Nat} {w : List Nat} (h : w.Perm (List.range n)) : w.length = n := by rw [h.length_eq, List.length_range]
theorem perm_lt {n : Nat} {w : List Nat} (h : w.Perm (List.range n)) {i : Nat} (hi : i < n) : w.getD i 0 < n := by
  have : w.getD i 0 ∈ w := getD_mem (by rw [perm_len h]; exact hi)
  exact List.mem_range.mp (h.mem_iff.mp this)
theorem ptsF_gen {w : List Nat} (h : w.Nodup) (k : Nat) : Gen (ptsF k w) := by
  refine ⟨?_, ?_⟩
  · rw [ptsF_eq, List.pairwise_map]
    exact List.pairwise_lt_range.imp fun {a b} q => by simp only; omega
  · have : (ptsF k w).map (·.2) = castR w := by
      clear h
      induction w generalizing k with
      | nil => rfl
      | cons x w ih => show (x : Int) :: (ptsF (k + 1) w).map (·.2) = (x : Int) :: castR w; rw [ih]
    rw [this]
    unfold castR List.Nodup
    rw [List.pairwise_map]
    exact h.imp fun {a b} q e => q (by exact Int.ofNat_inj.mp ‹_›)
theorem mir_pts {n : Nat} {w v : List Nat} (h : Pair n w v) : mirP (ptsF 0 w) = ptsF 0 v := by
  have e1 := perm_len h.wp
  have e2 := perm_len h.vp
  refine sorted_unique ((isort_perm _).trans ?_) (isort_sorted _) ?_
  · rw [ptsF_eq, ptsF_eq, e1, e2, List.map_map]
    refine (h.vp.symm.map _).trans ?_
    have : v = (List.range n).map fun i => v.getD i 0 := by rw [← e2]; exact (map_getD_range v 0).symm
    conv => lhs; rw [this]
    rw [List.map_map]
    refine .of_eq (List.map_congr_left fun i hi => ?_)
    have hi := List.mem_range.mp hi
    simp only [Function.comp, swp, Nat.zero_add, h.wv i hi]
  · have := (ptsF_gen (h.vp.nodup_iff.mpr List.nodup_range) 0).x
    exact this.imp fun {a b} q => by rw [ple_iff]; exact .inl q
noncomputable def Tb (n c : Nat) : Tab := castT (tabC n c)
theorem rsk_pair {n : Nat} {w v : List Nat} (h : Pair n w v) (hn : n ≤ 7) : rskP [] [] (ptsF 0 w) = (Tb n (qc v), Tb n (qc w)) := by
  have key : ∀ {u : List Nat}, u.length = n → (rskP [] [] (ptsF 0 u)).2 = Tb n (qc u) := fun {u} hu => by
    have := rskP_cast u [] 0 0 rfl (Nat.le_refl _) (by omega)
    rw [Nat.zero_add, hu] at this
    exact this
  have hm := rsk_mir (ptsF_gen (h.wp.nodup_iff.mpr List.nodup_range) 0)
  rw [mir_pts h] at hm
  refine Prod.ext ?_ (key (perm_len h.wp))
  have := congrArg Prod.snd hm
  rw [key (perm_len h.vp)] at this
  exact this.symm
theorem getD_rev {n : Nat} {w : List Nat} (hl : w.length = n) {i : Nat} (hi : i < n) : w.reverse.getD i 0 = w.getD (n - 1 - i) 0 := by
  rw [List.getD_eq_getElem?_getD, List.getD_eq_getElem?_getD, List.getElem?_reverse (by exact Nat.lt_of_lt_of_le ‹_› (Nat.le_of_eq (Eq.symm ‹_›))), hl]
theorem getD_comp {n m : Nat} {w : List Nat} (hl : w.length = n) {i : Nat} (hi : i < n) : (comp m w).getD i 0 = m - w.getD i 0 := by
  unfold comp
  rw [List.getD_eq_getElem?_getD, List.getD_eq_getElem?_getD, List.getElem?_map, List.getElem?_eq_getElem (by exact Nat.lt_of_lt_of_le ‹_› (Nat.le_of_eq (Eq.symm ‹_›)))]; rfl
theorem comp_perm {n : Nat} {w : List Nat} (h : w.Perm (List.range n)) : (comp (n - 1) w).Perm (List.range n) := by
  refine (h.map _).trans ?_
  have : (List.range n).map (fun x => n - 1 - x) = (List.range n).reverse := by
    apply List.ext_getElem
    · simp
    · intro i h1 h2
      simp at h1 ⊢
  rw [this]
  exact List.reverse_perm _
theorem Pair.rev {n : Nat} {w v : List Nat} (h : Pair n w v) : Pair n w.reverse (comp (n - 1) v) := by
  have e1 := perm_len h.wp
  have e2 := perm_len h.vp
  refine ⟨(List.reverse_perm w).trans h.wp, comp_perm h.vp, fun i hi => ?_, fun i hi => ?_⟩
  · have := perm_lt h.vp hi
    rw [getD_comp e2 hi, getD_rev e1 (by omega)]
    have e : n - 1 - (n - 1 - v.getD i 0) = v.getD i 0 := by omega
    rw [e, h.wv i hi]
  · have := perm_lt h.wp (i := n - 1 - i) (by omega)
    rw [getD_rev e1 hi, getD_comp e2 this, h.vw _ (by omega)]; omega
theorem Pair.comp {n : Nat} {w v : List Nat} (h : Pair n w v) : Pair n (comp (n - 1) w) v.reverse := h.symm.rev.symm
theorem mem_inserts (x : Nat) : ∀ (a b : List Nat), a ++ x :: b ∈ inserts x (a ++ b)
  | [], [] => .head _
  | [], y :: b => .head _
  | y :: a, b => .tail _ (List.mem_map.mpr ⟨_, mem_inserts x a b, rfl⟩)
theorem mem_perms : ∀ (n : Nat) {w : List Nat}, w.Perm (List.range n) → w ∈ perms n
  | 0, w, h => by rw [List.perm_nil.mp h]; exact .head _
  | n + 1, w, h => by
    have hm : n ∈ w := h.mem_iff.mpr (List.mem_range.mpr (Nat.lt_succ_self n))
    obtain ⟨a, b, rfl⟩ := List.append_of_mem hm
    refine List.mem_flatMap.mpr ⟨a ++ b, mem_perms n ?_, mem_inserts n a b⟩
    have h1 : (n :: (a ++ b)).Perm (List.range (n + 1)) := List.perm_middle.symm.trans h
    rw [List.range_succ] at h1
    exact (List.perm_cons n).mp (h1.trans (List.perm_append_comm (l₁ := List.range n) (l₂ := [n])))
noncomputable abbrev OkT (X : Tab) : Prop := X ≠ [] ∧ X.length < 50 ∧ (∀ r ∈ X, r.length < 50) ∧ cellsN X < 200 ∧ ∀ i, i < X.length → (rowA X (i + 1)).length ≤ (rowA X i).length
noncomputable def okE (T : KT3) (n c t e : Nat) : Bool := decide (OkT (Tb n c)) && (decide (mirrored (Tb n c) = Tb n t) && (decide (emptied (Tb n c) = Tb n e) && ((match T.get e with
  | some (te, _) => (match T.get te with | some (x, _) => Nat.beq x e | none => false)
  | none => false) && (match T.get t with
  | some (_, et) => (match T.get et with | some (x, _) => Nat.beq x e | none => false)
  | none => false))))
theorem ok3 : tree3.all (okE tree3 3) = true := by decide +kernel
theorem ok4 : tree4.all (okE tree4 4) = true := by decide +kernel
theorem ok5 : tree5.all (okE tree5 5) = true := by decide +kernel
theorem ok6 : tree6.all (okE tree6 6) = true := by decide +kernel
theorem ok7 : tree7.all (okE tree7 7) = true := by decide +kernel
theorem tables {n : Nat} (h3 : 3 ≤ n) (h7 : n ≤ 7) : ∃ T : KT3, T.all (okE T n) = true ∧ ∀ v ∈ perms n, chk T (n - 1) v = true := by
  have : n = 3 ∨ n = 4 ∨ n = 5 ∨ n = 6 ∨ n = 7 := by omega
  rcases this with rfl | rfl | rfl | rfl | rfl
  · exact ⟨_, ok3, fun v hv => by rw [← chkK_eq]; exact allK_eq _ all3 v hv⟩
  · exact ⟨_, ok4, fun v hv => by rw [← chkK_eq]; exact allK_eq _ all4 v hv⟩
  · exact ⟨_, ok5, fun v hv => by rw [← chkK_eq]; exact allK_eq _ all5 v hv⟩
  · exact ⟨_, ok6, fun v hv => by rw [← chkK_eq]; exact allK_eq _ all6 v hv⟩
  · exact ⟨_, ok7, all7⟩
end Mine
end
section
open PySem PySem.W PyProof.Rows
set_option maxRecDepth 10000
set_option linter.unusedVariables false
namespace Mine
theorem OkT.shape {X : Tab} (h : OkT X) : Shape X := fun i => by
  by_cases hi : i < X.length
  · exact h.2.2.2.2 i hi
  · have : rowA X (i + 1) = [] := by unfold rowA; rw [List.getD_eq_getElem?_getD, List.getElem?_eq_none (by exact Nat.le_of_not_le ‹_›)]; rfl
    rw [this]; exact Nat.zero_le _
theorem OkT.tab {X : Tab} (h : OkT X) : TabOk X := ⟨h.1, fun r hr => by have := h.2.2.1 r hr; exact Om.lt_c ‹_› rfl, by have := h.2.1; exact Om.lt_c ‹_› rfl⟩
/-- what an entry tells -/
structure Ent (n : Nat) (T : KT3) (c t e te : Nat) : Prop where
  ok : OkT (Tb n c)
  mir : mirrored (Tb n c) = Tb n t
  emp : emptied (Tb n c) = Tb n e
  oke : OkT (Tb n e)
  mire : mirrored (Tb n e) = Tb n te
  tte : ∃ x, T.get te = some (e, x)
  ett : ∃ x y, T.get t = some (x, y) ∧ ∃ z, T.get y = some (e, z)
theorem ent_of {n : Nat} {T : KT3} (hT : T.all (okE T n) = true) {c t e te z : Nat} (h : T.get c = some (t, e)) (h2 : T.get e = some (te, z)) : Ent n T c t e te := by
  have q := KT3.all_get hT h
  have q2 := KT3.all_get hT h2
  unfold okE at q q2
  simp only [Bool.and_eq_true, decide_eq_true_eq] at q q2
  obtain ⟨q1, q2', q3, q4, q5⟩ := q
  obtain ⟨r1, r2, r3, r4⟩ := q2
  rw [h2] at q4
  refine ⟨q1, q2', q3, r1, r2, ?_, ?_⟩
  · simp only at q4
    cases g : T.get te with
    | none => rw [g] at q4; cases q4
    | some p => rw [g] at q4; obtain ⟨x, y⟩ := p; exact ⟨y, by rw [Nat.eq_of_beq_eq_true q4]⟩
  · cases g : T.get t with
    | none => rw [g] at q5; cases q5
    | some p =>
      obtain ⟨x, y⟩ := p
      rw [g] at q5
      simp only at q5
      cases g' : T.get y with
      | none => rw [g'] at q5; cases q5
      | some p => rw [g'] at q5; obtain ⟨a, b⟩ := p; exact ⟨x, y, rfl, b, by rw [g', Nat.eq_of_beq_eq_true q5]⟩
theorem chk_of {T : KT3} {m : Nat} {v : List Nat} (h : chk T m v = true) : ∃ t e te z, T.get (qc v) = some (t, e) ∧ T.get e = some (te, z) ∧ qc (comp m v) = t ∧ qc v.reverse = te := by
  unfold chk at h
  cases g : T.get (qc v) with
  | none => rw [g] at h; cases h
  | some p =>
    obtain ⟨t, e⟩ := p
    rw [g] at h
    simp only at h
    cases g' : T.get e with
    | none => rw [g'] at h; cases h
    | some p =>
      obtain ⟨te, z⟩ := p
      rw [g'] at h
      simp only [Bool.and_eq_true] at h
      exact ⟨t, e, te, z, rfl, g', Nat.eq_of_beq_eq_true h.1, Nat.eq_of_beq_eq_true h.2⟩
theorem red_of {n : Nat} {w v : List Nat} (h : Pair n w v) (hn : n ≤ 7) {ws : Array UInt8} (hw : KBw.bInts ws = castR w) : redW ws = (Tb n (qc v), Tb n (qc w), true) := by
  unfold redW
  have nd : (castR w).Nodup := by
    have := h.wp.nodup_iff.mpr List.nodup_range
    unfold castR List.Nodup
    rw [List.pairwise_map]
    exact this.imp fun {a b} q e => q (by exact Int.ofNat_inj.mp ‹_›)
  rw [hw, lay_fold w [] [] 0 rfl (fun r hr => nomatch hr) (fun r hr => nomatch hr) (by simpa using nd) rfl, rsk_pair h hn]
theorem pics_of {n : Nat} {w v : List Nat} (h : Pair n w v) (h3 : 3 ≤ n) (h7 : n ≤ 7) : (OkT (Tb n (qc w)) ∧ OkT (emptied (Tb n (qc w)))) ∧ ∀ a b c d : Array UInt8, KBw.bInts a = castR w → KBw.bInts b = castR w.reverse → KBw.bInts c = castR (comp (n - 1) w) → KBw.bInts d = castR (comp (n - 1) w).reverse →
    pics [a, b, c, d] (Tb n (qc v)) (Tb n (qc w)) (emptied (Tb n (qc v))) (emptied (Tb n (qc w))) = true := by
  obtain ⟨T, hT, hC⟩ := tables h3 h7
  obtain ⟨tw, ew, tew, zw, gw, gew, cw, rw_⟩ := chk_of (hC w (mem_perms n h.wp))
  obtain ⟨tv, ev, tev, zv, gv, gev, cv, rv⟩ := chk_of (hC v (mem_perms n h.vp))
  have Ew := ent_of hT gw gew
  have Ev' := ent_of hT gv gev
  refine ⟨⟨Ew.ok, by rw [Ew.emp]; exact Ew.oke⟩, fun a b c d ha hb hc hd => ?_⟩
  -- comp of v backwards, comp of w backwards
  obtain ⟨t1, e1, te1, z1, g1, g1', c1, r1⟩ := chk_of (hC v.reverse (mem_perms n ((List.reverse_perm v).trans h.vp)))
  obtain ⟨t2, e2, te2, z2, g2, g2', c2, r2⟩ := chk_of (hC (comp (n - 1) w) (mem_perms n (comp_perm h.wp)))
  rw [rv] at g1
  rw [cw] at g2
  obtain ⟨x, hx⟩ := Ev'.tte
  rw [hx] at g1; cases g1
  obtain ⟨x, y, hx, z, hz⟩ := Ew.ett
  rw [hx] at g2; cases g2
  rw [hz] at g2'; cases g2'
  unfold pics
  rw [decide_eq_true_eq]
  unfold picsL
  have hrc := h.comp.rev
  rw [List.map_cons, List.map_cons, List.map_cons, List.map_cons, List.map_nil, red_of h h7 ha, red_of h.rev h7 hb, red_of h.comp h7 hc, red_of hrc h7 hd]
  rw [cw, rw_, cv, rv, c1, r2, Ew.mir, Ew.emp, Ev'.mir, Ev'.emp, Ew.mire, Ev'.mire]
theorem sha_of {n : Nat} {w v : List Nat} (h : Pair n w v) (h7 : n ≤ 7) : shadowsF isort n (ptsF 0 w) = (Tb n (qc v), Tb n (qc w)) := by
  have hl : (ptsF 0 w).length = n := by rw [ptsF_eq, List.length_map, List.length_range, perm_len h.wp]
  rw [shadows_rsk n _ (by exact Nat.le_of_eq ‹_›) (ptsF_gen (h.wp.nodup_iff.mpr List.nodup_range) 0), rsk_pair h h7]
end Mine
end
section
open PySem PySem.W PySem.Calls PyProof.Rows
set_option maxRecDepth 10000
set_option linter.unusedVariables false
namespace Mine
/-- an IndexError without a traceback -/
noncomputable def ExRaw (x : Addr) (c : Value) (h : Heap) : Prop := ∃ o t, h.get? x = some o ∧ o.cls = .type "IndexError" ∧ o.data = .fields #[t, .none, c, .none, .bool false, .none]
/-- an IndexError with one entry T -/
structure ExAt (x T : Addr) (c fl : Value) (h : Heap) : Prop where
  exc : ∃ o t, h.get? x = some o ∧ o.cls = .type "IndexError" ∧ o.data = .fields #[t, .ref T, c, .none, .bool false, .none]
  ne : T ≠ x
  ent : ∃ oT ts, h.get? T = some oT ∧ oT.data = .fields ts ∧ 3 < ts.size ∧ ts[3]? = some fl

theorem ExAt.keep {x T : Addr} {c fl : Value} {h h' : Heap} (e : ExAt x T c fl h) (kx : ∀ o, h.get? x = some o → ∃ sl, h'.get? x = some { o with slots := sl }) (kT : ∀ o, h.get? T = some o → ∃ sl, h'.get? T = some { o with slots := sl }) : ExAt x T c fl h' := by
  obtain ⟨⟨o, t, h1, h2, h3⟩, ne, oT, ts, h4, h5, h6, h7⟩ := e
  obtain ⟨sl, q⟩ := kx o h1
  obtain ⟨sl', q'⟩ := kT oT h4
  exact ⟨⟨_, t, q, h2, h3⟩, ne, _, ts, q', h5, h6, h7⟩
section
variable {M : Model} {A : Around} {E : Value → Shared → Prop} {s : Shared}
theorem note_raw {B : Heap} {env : Env} {l outer : List Env} {L x : Addr} {c : Value} {Q : Unit → Shared → Prop} (hfr : A.frames = some (env :: outer)) (hl : s.heap.FunFrames B (env :: outer)) (hf : env.frame = some L) (he : ExRaw x c s.heap)
    (h : ∀ h' T, ExAt x T c (rawInt L) h' → ExtX (· = x) ((env :: outer).filterMap (·.frame)) s.heap h' → s.heap.get? T = none → Q () { s with heap := h' }) : wpAny M A (noteFrame (.ref x) env) Q E s := by
  obtain ⟨o, t, ho, hc, hd⟩ := he
  have hxf : x ∉ (env :: outer).filterMap (·.frame) := fun hm => by
    obtain ⟨_, o', ho', hnf⟩ := hl.mem hm
    rw [ho] at ho'; cases ho'; exact hnf _ hd
  unfold noteFrame
  simp only [hf]
  refine wpAny_bind (wpAny_field ho hd (x := .none) rfl ?_)
  rw [if_neg (by decide)]
  refine wpAny_bind (wpAny_frameOf_fun hfr hl hf fun h₁ hs₁ => ?_)
  refine wpAny_bind (wpAny_entryPlaceOf fun pl hpl => ?_)
  unfold EntryCells.newEntry newFields
  refine wpAny_bind (wpAny_newObj_type ?_ (hpl.sizeOk5 _ _ _ _ _))
  have ho₁ : h₁.get? x = some o := (hs₁.2.1 x hxf).trans ho
  generalize hts : ([Value.none, .ref L, .none, rawInt L, .none] ++ (if pl.isEmpty then List.replicate 6 Value.none else pl)).toArray = ts
  have ho₂ := Heap.get?_push_of_some (h := h₁) { cls := .type "traceback", dict := none, data := .fields ts } ho₁
  have hTx : h₁.objs.size ≠ x := Nat.ne_of_gt (Heap.lt_size ho₁)
  refine wpAny_setField ho₂ hd (by simp) (h _ h₁.objs.size ⟨?_, hTx, ?_⟩ (fun b o' e hb => ?_) ?_)
  · refine ⟨_, t, Heap.get?_update_self _ ho₂ (Obj.isFreed_of_fields (Obj.data_mapFields hd _)), (Obj.cls_mapFields _ _).trans hc, ?_⟩
    rw [Obj.data_mapFields hd]; rfl
  · refine ⟨_, ts, (Heap.get?_update_other _ _ (Ne.symm hTx)).trans (Heap.get?_push_size h₁ rfl), rfl, ?_, ?_⟩
    · rw [← hts]; simp
    · rw [← hts]; simp
  · have hb : b ≠ x := hb
    obtain ⟨sl, q⟩ := hs₁.2.2 b o' e
    refine ⟨sl, (Heap.get?_update_other _ _ (Ne.symm hb)).trans (Heap.get?_push_of_some _ q), fun hn => ?_⟩
    have := hs₁.2.1 b hn
    rw [e, q] at this
    have := congrArg (fun o : Option Obj => o.map (·.slots)) this
    simpa using this
  · rw [hs₁.1]; exact get?_size_none _
theorem note_again {env : Env} {L x T : Addr} {c : Value} {Q : Unit → Shared → Prop} (hf : env.frame = some L) (he : ExAt x T c (rawInt L) s.heap) (h : Q () s) : wpAny M A (noteFrame (.ref x) env) Q E s := by
  obtain ⟨⟨o, t, h1, h2, h3⟩, ne, oT, ts, h4, h5, h6, h7⟩ := he
  unfold noteFrame
  simp only [hf]
  refine wpAny_bind (wpAny_field h1 h3 (x := .ref T) rfl ?_)
  rw [if_pos (by simp)]
  refine wpAny_bind (wpAny_field h4 h5 h7 ?_)
  rw [if_pos (by simp)]
  exact wpAny_pure h
theorem set_flight {x T : Addr} {c fl : Value} {Q : Unit → Shared → Prop} (f : Option Addr) (he : ExAt x T c fl s.heap)
    (h : ∀ h', ExAt x T c (f.elim .none fun f => rawInt f) h' → (∀ b o, b ≠ T → s.heap.get? b = some o → h'.get? b = some o) → Q () { s with heap := h' }) : wpAny M A (setFlight (.ref x) f) Q E s := by
  obtain ⟨⟨o, t, h1, h2, h3⟩, ne, oT, ts, h4, h5, h6, h7⟩ := he
  unfold setFlight
  refine wpAny_bind (wpAny_field h1 h3 (x := .ref T) rfl ?_)
  rw [if_pos (by simp)]
  refine wpAny_setField h4 h5 h6 (h _ ⟨⟨o, t, (Heap.get?_update_other _ _ ne).trans h1, h2, h3⟩, ne, _, _, Heap.get?_update_self _ h4 (Obj.isFreed_of_fields (Obj.data_mapFields h5 _)), Obj.data_mapFields h5 _, ?_, ?_⟩ fun b o' hb e => (Heap.get?_update_other _ _ (Ne.symm hb)).trans e)
  · simpa using h6
  · simp [h6]
theorem came_back {env : Env} {L x T : Addr} {c fl : Value} (hf : env.frame = some L) (he : ExAt x T c fl s.heap)
    (h : ∀ h', ExAt x T c (rawInt L) h' → (∀ b o, b ≠ T → s.heap.get? b = some o → h'.get? b = some o) → E (.ref x) { s with heap := h' }) : cameBackBy M A env E (.ref x) s := by
  obtain ⟨⟨o, t, h1, h2, h3⟩, _⟩ := id he
  unfold cameBackBy
  refine wpAny_bind (wpAny_field h1 h3 (x := .ref T) rfl ?_)
  rw [if_neg (by simp), hf]
  exact set_flight (some L) he h
theorem pass_on {α : Type} {env : Env} {L x T : Addr} {c fl : Value} {what : String} {Q : α → Shared → Prop} (hf : env.frame = some L) (he : ExAt x T c fl s.heap)
    (h : ∀ h', ExAt x T c (rawInt L) h' → (∀ b o, b ≠ T → s.heap.get? b = some o → h'.get? b = some o) → E (.ref x) { s with heap := h' }) : wpAny M A (PySem.passOn what (.ref x) env : Sem α) Q E s := by
  obtain ⟨⟨o, t, h1, h2, h3⟩, _⟩ := id he
  unfold PySem.passOn
  refine wpAny_bind (wpAny_field h1 h3 (x := .ref T) rfl ?_)
  rw [if_neg (by simp), hf]
  exact wpAny_bind (set_flight (some L) he fun h' e k => wpAny_throw (h h' e k))
end
end Mine
end
section
open PySem PySem.W PySem.Calls PyProof.Rows
set_option maxRecDepth 100000
set_option linter.unusedVariables false
namespace Mine
theorem entry_unchain : entryFor table "proto.unchain" = some Builtin.«proto.unchain» := entryFor_of_fast (by kernel_rfl)
theorem plain_unchain : plainId "proto.unchain" = true := by decide +kernel
section
variable {prog : Program} {w : World} {A : Around} {E : Value → Shared → Prop} {s : Shared}
theorem raise_new2 {α : Type} {x y : Addr} {oy ox : Obj} {ws vs : Array Value} {Q : α → Shared → Prop} (hh : A.handled = some (.ref y)) (hxy : y ≠ x) (hy : s.heap.get? y = some oy) (dy : oy.data = .fields ws) (wy : ws[2]? = some .none)
    (hx : s.heap.get? x = some ox) (dx : ox.data = .fields vs) (hz : 2 < vs.size) (h : E (.ref x) { s with heap := s.heap.update x (Obj.mapFields (·.setIfInBounds 2 (.ref y))) }) : wpAny (model prog w) A (raiseNew (.ref x) : Sem α) Q E s := by
  unfold raiseNew
  refine wpAny_bind (wpAny_handled ?_)
  rw [hh]
  dsimp only
  rw [if_pos (by simpa using hxy)]
  refine wpAny_bind (wpAny_holding (wpAny_runValue (codeAny_builtin entry_unchain ?_)))
  rw [Around.under_plainId plain_unchain _]
  show wpAny _ A.in1 (field (.ref y) 2 >>= _) _ _ s
  refine wpAny_bind (wpAny_field hy dy wy ?_)
  rw [if_pos (by decide)]
  refine wpAny_pure ?_
  show wpAny _ A (updateField x 2 (.ref y) >>= fun _ => throw (.ref x)) Q E s
  refine wpAny_bind ?_
  unfold updateField
  refine wpAny_bind (wpAny_load hx ?_)
  rw [dx]
  dsimp only
  rw [if_pos hz]
  exact wpAny_update hx (wpAny_throw h)
/-- a new IndexError while another one is handled -/
theorem raise_words2 {α : Type} {y Ty : Addr} {fl : Value} {msg : String} {Q : α → Shared → Prop} (hh : A.handled = some (.ref y)) (hy : ExAt y Ty .none fl s.heap)
    (h : ∀ h' tk e, (∀ b o, s.heap.get? b = some o → h'.get? b = some o) → s.heap.get? e = none → ExRaw e (.ref y) h' → E (.ref e) { s with heap := h', toks := tk }) :
    wpAny (model prog w) A (raiseErrorWords "IndexError" msg : Sem α) Q E s := by
  unfold raiseErrorWords
  refine wpAny_bind (wpAny_mkText (wpAny_bind ?_))
  unfold newExc newTuple
  refine wpAny_bind (wpAny_newObj_type ?_)
  refine wpAny_bind (m := firstArgMember _ _) (wpAny_of_eq (a := Value.none) (by simp only [firstArgMember, plainExc_IndexError.first]; rfl) ?_)
  rw [plainExc_IndexError.own]
  refine wpAny_newObj_type ?_
  obtain ⟨⟨oy, t, h1, h2, h3⟩, _⟩ := hy
  generalize hH1 : s.heap.push { cls := .type "tuple", dict := none, data := .seq [Value.str (Str.ofString msg) s.toks].toArray } = H1
  have hsz : H1.objs.size = s.heap.objs.size + 1 := by rw [← hH1]; exact Heap.size_push ..
  have k1 : ∀ b o, s.heap.get? b = some o → H1.get? b = some o := fun b o e => by rw [← hH1]; exact Heap.get?_push_of_some _ e
  have hyne : y ≠ H1.objs.size := fun e => by
    have := Heap.lt_size (k1 _ _ h1); rw [e] at this; exact absurd this (Nat.lt_irrefl _)
  have nx : s.heap.get? H1.objs.size = none := Heap.get?_none_of_le (by rw [hsz]; exact Nat.le_succ _)
  refine raise_new2 hh hyne (Heap.get?_push_of_some _ (k1 _ _ h1)) h3 rfl (Heap.get?_push_size _ rfl) rfl (by simp) ?_
  refine h _ _ _ (fun b o e => ?_) nx ⟨_, .ref s.heap.objs.size, Heap.get?_update_self _ (Heap.get?_push_size _ rfl) rfl, rfl, rfl⟩
  have hb : H1.objs.size ≠ b := fun z => by rw [← z, nx] at e; cases e
  exact (Heap.get?_update_other _ _ hb).trans (Heap.get?_push_of_some _ (k1 b o e))
theorem item_out {l : Addr} {items : Array Value} {k : Int} {t : Tok} {Q : Value → Shared → Prop} (hl : s.heap.IsList l items) (hout : (items.size : Int) ≤ k) (hhi : k < 2 ^ 63)
    (hR : ∀ (α : Type) (msg : String) (Q : α → Shared → Prop), wpAny (model prog w) A.in1 (raiseErrorWords "IndexError" msg : Sem α) Q E s) : wpAny (model prog w) A (getItem (.ref l) (.int k t)) Q E s := by
  obtain ⟨o, ho, hc, ne, hd⟩ := id hl
  unfold getItem
  try with_reducible refine wpAny_holding ?_
  first | refine wpAny_bind (wpAny_pure ?_) | skip
  refine wpAny_bind (wpAny_sequenceKey hl.typeIs (by decide) ?_)
  refine wpAny_bind (wpAny_callSpecial?_slot (name := Str.ofString "__getitem__") hl.typeIs slot_list_getitem
    (wpAny_call_entry slot_list_getitem hl.typeIs entry_list_getitem ?_ (args_list_getitem _ _)))
  show wpAny _ _ (Builtin.List.listSubscript? (.int k t) >>= _) _ _ s
  refine wpAny_bind (wpAny_listSubscript_int (fitsIndex_both (by omega) hhi) ?_)
  clear hhi
  cases k with
  | ofNat j =>
    have hx : items[j]? = none := Array.getElem?_eq_none (by have : (items.size : Int) ≤ (j : Int) := hout; exact Int.ofNat_le.mp ‹_›)
    show wpAny _ _ ((seqItemAt l j >>= fun r => pure (r.map (j, ·))) >>= _) _ _ s
    refine wpAny_bind (wpAny_bind (wpAny_seqItemAt ho hd (wpAny_pure ?_)))
    rw [hx]
    first
      | exact wpAny_bind (wpAny_rule (hR _ _ _))
      | exact wpAny_bind (wpAny_rule (wpAny_bind (hR _ _ _)))
      | exact wpAny_bind (wpAny_bind (wpAny_rule (hR _ _ _)))
      | exact wpAny_rule (hR _ _ _)
  | negSucc j => exact absurd hout (by have := Int.negSucc_lt_zero j; omega)
/-- the two ways an IndexError comes: none handled, or one handled -/
structure Hd1 (A : Around) (c : Value) (h : Heap) : Prop where
  go : (A.handled = none ∧ c = .none) ∨ ∃ y T fl, A.handled = some (.ref y) ∧ c = .ref y ∧ ExAt y T .none fl h
theorem raise_any {α : Type} {c : Value} {msg : String} {Q : α → Shared → Prop} (hd : Hd1 A c s.heap)
    (h : ∀ h' tk e, (∀ b o, s.heap.get? b = some o → h'.get? b = some o) → s.heap.get? e = none → ExRaw e c h' → E (.ref e) { s with heap := h', toks := tk }) :
    wpAny (model prog w) A (raiseErrorWords "IndexError" msg : Sem α) Q E s := by
  rcases hd.go with ⟨hh, rfl⟩ | ⟨y, T, fl, hh, rfl, hy⟩
  · refine wpAny_raiseErrorWords plainExc_IndexError hh fun h' tk e ne => h h' tk e ne.keeps ne.new ?_
    obtain ⟨ob, t, h1, h2, h3⟩ := ne.there
    exact ⟨ob, t, h1, h2, h3⟩
  · exact raise_words2 hh hy h
end
end Mine
end
section
open PySem PySem.W PySem.Calls PyProof.Rows
set_option maxRecDepth 100000
set_option linter.unusedVariables false
namespace Mine
/-- an exception on its way, as a statement leaves it -/
noncomputable def XSt (a : Act) (C : Value → Prop) (x : Addr) (h₀ g h : Heap) : Prop := g.get? x = none ∧ h₀.get? x = none ∧ ∃ c, C c ∧ (ExRaw x c h ∨ ∃ T, g.get? T = none ∧ h₀.get? T = none ∧ ExAt x T c (rawInt a.env.locals) h)
theorem XSt.back {a : Act} {C : Value → Prop} {x : Addr} {h₀ h₁ g h : Heap} (X : XSt a C x h₁ g h) (b : ∀ T, h₁.get? T = none → h₀.get? T = none) : XSt a C x h₀ g h := by
  obtain ⟨h1, h2, c, hC, q⟩ := X
  exact ⟨h1, b _ h2, c, hC, q.imp id fun ⟨T, q1, q2, q3⟩ => ⟨T, q1, b _ q2, q3⟩⟩
/-- statements that may raise an IndexError -/
noncomputable def ExX (prog : Program) (w : World) (B : Heap) (a : Act) (C : Value → Prop) (σ : Vars) (own : Owns) (ss : List Stmt) (Φ : Fl → Vars → Owns → Prop) (Ψ : Vars → Owns → Prop) : Prop :=
  ∀ (s : Shared) (g : Heap) (Q : Flow → Shared → Prop) (E : Value → Shared → Prop), Sv B a σ own g s.heap → OwnNd own →
    (∀ f fl σ' own' s' g', Φ fl σ' own' → FlRep g' fl f → Sv B a σ' own' g' s'.heap → OwnNd own' → OwnNew own s.heap own' → GrowX (Mu a own) a.fr g s.heap g' s'.heap → Same s s' → Q f s') →
    (∀ x σ' own' s' g', Ψ σ' own' → XSt a C x s.heap g' s'.heap → Sv B a σ' own' g' s'.heap → OwnNd own' → OwnNew own s.heap own' → GrowX (Mu a own) a.fr g s.heap g' s'.heap → Same s s' → E (.ref x) s') → wpAny (model prog w) a.A (execs ss a.env) Q E s
section
variable {M : Model} {A : Around} {E : Value → Shared → Prop} {s : Shared} {env : Env}
theorem exec_single {st : Stmt} {Q : Flow → Shared → Prop} (h : wpAny M A (execs [st] env) Q E s) : wpAny M A (exec st env) Q E s := fun Γ p hΓ => by
  have := h Γ p hΓ
  rw [execs_cons, Sem.wp_bind'] at this
  refine Sem.wp_mono M Γ _ (fun f p' s' h' => ?_) (fun _ _ _ h' => h') _ _ this
  cases f <;> exact h'
end
section
variable {prog : Program} {w : World} {B : Heap} {a : Act} {C : Value → Prop} {σ : Vars} {own : Owns} {n : Nat} {rest : List Stmt} {Φ : Fl → Vars → Owns → Prop} {Ψ : Vars → Owns → Prop}
theorem VS.exx {τ : Vars} {ss : List Stmt} (h : VS τ σ) (e : ExX prog w B a C τ own ss Φ Ψ) : ExX prog w B a C σ own ss Φ Ψ := fun s g Q E S nd k k' =>
  e s g Q E (S.weaken (fun x d q => h _ (mem_of_lookupD q)) fun _ q => q) nd k k'
theorem new_back {g h g' h' : Heap} {σ' : Vars} (S' : Sv B a σ' own g' h') (G : GrowX (Mu a own) a.fr g h g' h') {T : Addr} (n : h'.get? T = none) : h.get? T = none := by
  cases q : h.get? T with
  | none => rfl
  | some o =>
    exfalso
    by_cases hX : Mu a own T
    · rcases hX with (rfl | m) | ⟨p, hp, rfl⟩
      · obtain ⟨m, hn, _⟩ := S'.ns; exact ns_ne hn n
      · obtain ⟨p, hp, rfl⟩ := S'.mcs T m
        obtain ⟨⟨v, h1⟩, _⟩ := S'.cells p hp
        exact isCell_ne h1 n
      · obtain ⟨_, vs, L, _⟩ := S'.own p hp; exact plain_ne L n
    · obtain ⟨sl, e, _⟩ := G.ext T o q hX
      rw [n] at e; cases e
theorem new_backO {g h g' h' : Heap} {σ' : Vars} {own' : Owns} (S' : Sv B a σ' own' g' h') (on : OwnNew own h own') (G : GrowX (Mu a own) a.fr g h g' h') {T : Addr} (n : h'.get? T = none) : h.get? T = none ∨ ∃ p ∈ own, p.1 = T := by
  cases q : h.get? T with
  | none => exact .inl rfl
  | some o =>
    by_cases hX : Mu a own T
    · rcases hX with (rfl | m) | ⟨p, hp, e⟩
      · obtain ⟨m, hn, _⟩ := S'.ns; exact absurd n (ns_ne hn)
      · obtain ⟨p, hp, rfl⟩ := S'.mcs T m
        obtain ⟨⟨v, h1⟩, _⟩ := S'.cells p hp
        exact absurd n (isCell_ne h1)
      · exact .inr ⟨p, hp, e⟩
    · obtain ⟨sl, e, _⟩ := G.ext T o q hX
      rw [n] at e; cases e
/-- one statement that does not raise, then the rest -/
theorem exx_seq {st : Stmt} {Φ₁ : Vars → Owns → Prop} (h : Ex prog w B a σ own [st] fun fl σ' own' => fl = .next ∧ Φ₁ σ' own') (k : ∀ σ' own', Φ₁ σ' own' → ExX prog w B a C σ' own' rest Φ Ψ) (hkeys : ∀ σ' own', Φ₁ σ' own' → own'.map (·.1) = own.map (·.1)) : ExX prog w B a C σ own (st :: rest) Φ Ψ := fun s g Q E S nd k₁ k₂ => by
  refine wpAny_execs_cons (exec_single (h s g _ _ S nd fun f fl σ₁ own₁ s₁ g₁ p r S₁ nd₁ on₁ G₁ Sm₁ => ?_))
  obtain ⟨rfl, pp⟩ := p
  cases r
  have hno : ∀ b, (fun _ : Addr => False) b → s₁.heap.get? b ≠ none := fun _ z => z.elim
  refine k σ₁ own₁ pp s₁ g₁ Q E S₁ nd₁ (fun f fl σ₂ own₂ s₂ g₂ p r S₂ nd₂ on₂ G₂ Sm₂ => ?_) fun x σ₂ own₂ s₂ g₂ p xs S₂ nd₂ on₂ G₂ Sm₂ => ?_
  · exact k₁ f fl σ₂ own₂ s₂ g₂ p r S₂ nd₂ (step_new S₁ hno on₁ (muY_of G₁) on₂) (muY_no (step_grow on₁ (muY_of (Y := fun _ => False) G₁) (muY_of G₂))) (Sm₁.trans Sm₂)
  · exact k₂ x σ₂ own₂ s₂ g₂ p (xs.back fun T n => (new_backO S₁ on₁ G₁ n).elim id fun ⟨q, hq, e⟩ => by
      have hm : q.1 ∈ own₁.map (·.1) := by rw [hkeys _ _ pp]; exact List.mem_map_of_mem hq
      obtain ⟨q', hq', e'⟩ := List.mem_map.mp hm
      obtain ⟨_, us, L, _⟩ := S₁.own q' hq'
      exact absurd n (by rw [← e, ← e']; exact plain_ne L)) S₂ nd₂ (step_new S₁ hno on₁ (muY_of G₁) on₂) (muY_no (step_grow on₁ (muY_of (Y := fun _ => False) G₁) (muY_of G₂))) (Sm₁.trans Sm₂)
theorem exx_if {test : Expr} {body orelse : List Stmt} {pos : Pos} {b : Bool} (ht : Tr prog w B a σ own test b) (h1 : b = true → ExX prog w B a C σ own body Φ Ψ) (h2 : b = false → ExX prog w B a C σ own orelse Φ Ψ) (hΦ : ∀ fl σ' own', Φ fl σ' own' → fl = .next) :
    ExX prog w B a C σ own [.If test body orelse pos] Φ Ψ := fun s g Q E S nd k₁ k₂ => by
  refine wpAny_execs_cons (wpAny_If (ht s g _ _ S fun s₁ g₁ G₁ Sm₁ => ?_))
  have fin : ∀ {ss : List Stmt}, ExX prog w B a C σ own ss Φ Ψ → wpAny (model prog w) a.A (execs ss a.env) (fun f s' => match f with | .next => wpAny (model prog w) a.A (execs [] a.env) Q E s' | f => Q f s') E s₁ := fun h =>
    h s₁ g₁ _ E (S.grow G₁) nd (fun f fl σ' own' s' g' p r S' nd' on G Sm => by
      have := hΦ fl σ' own' p
      subst this
      cases r
      exact wpAny_execs_nil (k₁ .next .next σ' own' s' g' p rfl S' nd' (fun q hq e => on q hq (G₁.ext.some e)) ((G₁.toX (X := Mu a own)).trans G fun _ _ q => q) (Sm₁.trans Sm)))
      fun x σ' own' s' g' p xs S' nd' on G Sm => k₂ x σ' own' s' g' p (xs.back fun T n => fresh_of_grow G₁ n) S' nd' (fun q hq e => on q hq (G₁.ext.some e)) ((G₁.toX (X := Mu a own)).trans G fun _ _ q => q) (Sm₁.trans Sm)
  cases b with
  | true => rw [if_pos rfl]; exact fin (h1 rfl)
  | false => rw [if_neg (by decide)]; exact fin (h2 rfl)

/-- the place of a frame -/
structure FrOk (a : Act) : Prop where
  fr : a.env.frame = some a.env.locals
  A : ∃ outer, a.l = a.env :: outer ∧ a.A.frames = some (a.env :: outer)
theorem Hd1.grow {A : Around} {c : Value} {fr : List Addr} {h h' : Heap} (x : Hd1 A c h) (e : Ext fr h h') : Hd1 A c h' := by
  rcases x.go with q | ⟨y, T, fl, h1, h2, h3⟩
  · exact ⟨.inl q⟩
  · exact ⟨.inr ⟨y, T, fl, h1, h2, h3.keep (fun o ho => by obtain ⟨sl, q, _⟩ := e y o ho; exact ⟨sl, q⟩) fun o ho => by obtain ⟨sl, q, _⟩ := e T o ho; exact ⟨sl, q⟩⟩⟩
/-- what a raised exception leaves -/
structure Risen (a : Act) (c : Value) (g h₀ : Heap) (x T : Addr) (h : Heap) : Prop where
  at_ : ExAt x T c (rawInt a.env.locals) h
  grow : Grow a.fr g h₀ g h
  nx : h₀.get? x = none
  nT : h₀.get? T = none
/-- lst[k] == v, out of range: the test of a while -/
theorem while0 (hF : FrOk a) {o i r : Expr} {p p2 pos : Pos} {body : List Stmt} {ds : List D} {k v : Int} {c : Value} (hv : Ev prog w B a σ own o (.lst ds)) (hi : Ev prog w B a σ own i (.int k)) (hr : Ev prog w B a σ own r (.int v)) (h0 : 0 ≤ k) (h63 : k < 2 ^ 63) (hu : a.A.units + 64 < cLine)
    (hform : SubForm i) (hm : behindInMarks .Eq r = false) {s : Shared} {g : Heap} {Q : Flow → Shared → Prop} {E : Value → Shared → Prop} (S : Sv B a σ own g s.heap) (hd : Hd1 a.A c s.heap)
    (hin : ∀ d, ds[k.toNat]? = some d → ∃ z, d = .int z ∧ z ≠ v ∧ ∀ s' g', Grow a.fr g s.heap g' s'.heap → Same s s' → Q .next s')
    (hout : ds[k.toNat]? = none → ∀ x T s' g₁ h₁, Grow a.fr g s.heap g₁ h₁ → Risen a c g₁ h₁ x T s'.heap → Same s s' → E (.ref x) s') :
    wpAny (model prog w) a.A (exec (.While (.Compare (.Subscript o i p) [.Eq] [r] p2) body [] pos) a.env) Q E s := by
  refine wpAny_While (codeAny_whileLoop (fun _ s' => s' = s) ?_ 0 rfl)
  rintro m s' rfl
  refine wpAny_isTrue_Compare1 (Subscript_ (hv s' g _ _ S fun u s₁ g₁ G₁ S₁ r₁ => hi s₁ g₁ _ _ (S.grow G₁) fun z s₂ g₂ G₂ S₂ r₂ => ?_)) hm
  have S₂' := (S.grow G₁).grow G₂
  have G := G₁.trans G₂
  obtain ⟨l, vs, rfl, la, ra⟩ := rep_lst.mp (r₁.mono G₂.gg)
  obtain ⟨t, rfl⟩ := rep_int.mp r₂
  have L := stays_isList S₂'.gh la.isList
  obtain ⟨ops, hops⟩ := hform (.ref l) (.int k t)
  have hk : ((k.toNat : Nat) : Int) = k := Int.toNat_of_nonneg h0
  cases q : ds[k.toNat]? with
  | some d =>
    obtain ⟨z, rfl, hne, hQ⟩ := hin d q
    obtain ⟨u, hu1, hu2⟩ := ra.get q
    obtain ⟨t', rfl⟩ := rep_int.mp hu2
    refine tail_any L.typeIs slot_list_getitem.lookup (wpAny_getItem_list L h0 h63 (by simpa using hu1) ?_) hops
    refine hr s₂ g₂ _ _ S₂' fun u s₃ g₃ G₃ S₃ r₃ => ?_
    obtain ⟨t'', rfl⟩ := rep_int.mp r₃
    refine PyProof.Rows.eq_int ?_
    have hf : (z == v) = false := by simpa using hne
    rw [hf]
    refine wpAny_truthy_bool ?_
    rw [if_neg (by decide)]
    exact wpAny_execs_nil (hQ s₃ g₃ (G.trans G₃) ((S₁.trans S₂).trans S₃))
  | none =>
    have hlen : ds.length ≤ k.toNat := List.getElem?_eq_none_iff.mp q
    refine tail_any L.typeIs slot_list_getitem.lookup (item_out L (by simp only [List.size_toArray, ra.length]; omega) h63 fun α msg Q' => ?_) hops
    refine raise_any (A := a.A.in1) ⟨(hd.grow G.ext).go⟩ fun h' tk e up ne raw => ?_
    obtain ⟨outer, hl, hA⟩ := hF.A
    have ff : h'.FunFrames B (a.env :: outer) := by rw [← hl]; exact S₂'.ff.of_keeps fun b o e _ => ⟨o, up b o e, rfl⟩
    refine note_raw (l := []) hA ff hF.fr raw fun h'' T at' ext nT => ?_
    refine came_back hF.fr at' fun h₃ at₃ k₃ => ?_
    have hnT : s₂.heap.get? T = none := by
      cases z : s₂.heap.get? T with
      | none => rfl
      | some o => rw [up T o z] at nT; cases nT
    have hfr : (a.env :: outer).filterMap (·.frame) = a.fr := by unfold Act.fr; rw [hl]
    rw [hfr] at ext
    have E3 : Ext a.fr s₂.heap h₃ := fun b o eo => by
      have hbx : b ≠ e := fun z => by rw [z, ne] at eo; cases eo
      have hbT : b ≠ T := fun z => by rw [z, hnT] at eo; cases eo
      obtain ⟨sl, q1, q2⟩ := ext b o (up b o eo) hbx
      exact ⟨sl, k₃ b _ hbT q1, q2⟩
    have gst : g₂.StaysIn h₃ := fun b o eo => by
      have hb := S₂'.gh b o eo
      obtain ⟨sl, q1, q2⟩ := E3 b o hb
      have hnf : b ∉ a.fr := fun hf => by rw [(S₂'.fg b hf).1] at eo; cases eo
      rw [q2 hnf] at q1; exact q1
    exact hout q e T { s₂ with heap := h₃, toks := tk } g₂ s₂.heap G ⟨at₃, ⟨E3, stays_refl _, gst, fun _ _ q => q⟩, ne, hnT⟩ ((S₁.trans S₂).trans ⟨rfl, rfl, rfl⟩)
end
end Mine
end
section
open PySem PySem.W PySem.Calls PyProof.Rows
set_option maxRecDepth 100000
set_option linter.unusedVariables false
namespace Mine
noncomputable def Act.with (a : Act) (A : Around) : Act := { a with A := A }
section
variable {prog : Program} {w : World} {B : Heap} {a : Act} {C : Value → Prop} {σ : Vars} {own : Owns} {n : Nat} {rest : List Stmt} {Φ : Fl → Vars → Owns → Prop} {Ψ : Vars → Owns → Prop}
theorem Sv.with {g h : Heap} (S : Sv B a σ own g h) (A : Around) : Sv B (a.with A) σ own g h := ⟨S.toSh, S.ns, S.cl, S.cells, S.cnd, S.lg, S.mcs⟩
theorem ev_localK (hkd : a.env.scope.kind = .function) {x : Str} {p : Pos} {d : D} (hx : σ.lookup x = some d) (hk : a.env.kindOf x = some .local) (hd : (x == ("__debug__" : Str)) = false) :
    Ev prog w B a σ own (.Name x p) d := fun s g Q E S k => by
  obtain ⟨m, hn, hv⟩ := S.ns
  obtain ⟨v, h1, h2⟩ := hv x d hx hk
  exact wpAny_Name (wpAny_loadName_local hkd hk hn h1 (k v s g (.refl S.gh) (.refl s) h2)) hd
/-- x += 1 whatever stands around -/
theorem aug1 (hkd : a.env.scope.kind = .function) {x : Str} {p pos : Pos} {value : Expr} {i j : Int} (hx : σ.lookup x = some (.int i)) (hk : a.env.kindOf x = some .local) (hv : Ev prog w B a σ own value (.int j))
    {s : Shared} {g : Heap} {Q : Flow → Shared → Prop} {E : Value → Shared → Prop} (S : Sv B a σ own g s.heap)
    (k : ∀ s' g', Sv B a ((x, .int (i + j)) :: σ) own g' s'.heap → GrowX a.mu a.fr g s.heap g' s'.heap → Same s s' → Q .next s') : wpAny (model prog w) a.A (exec (.AugAssign (.Name x p) .Add value pos) a.env) Q E s := by
  obtain ⟨m, hn, hvs⟩ := S.ns
  obtain ⟨u, h1, h2⟩ := hvs x _ hx hk
  obtain ⟨t, rfl⟩ := rep_int.mp h2
  refine wpAny_AugAssign_Name (wpAny_loadName_local hkd hk hn h1 (hv s g _ _ S fun v s₁ g₁ G₁ Sm₁ r => ?_))
  obtain ⟨t', rfl⟩ := rep_int.mp r
  refine PyProof.Rows.iadd_int ?_
  have S₁ := S.grow G₁
  obtain ⟨m₁, hn₁, _⟩ := S₁.ns
  refine wpAny_storeName_local hk hn₁ (fun h' hn' hs' => ?_) (by rw [hkd]; rfl)
  exact k { s₁ with heap := h', toks := s₁.toks + 1 + 1 } g₁ (S₁.local hk hn₁ hn' hs' (rep_int.mpr ⟨_, rfl⟩)) ((G₁.toX (X := a.mu)).trans ((GrowX.one S₁.gh S₁.lg hs').mono fun b _ e => .inl e) fun _ _ q => q) (Sm₁.trans ⟨rfl, rfl, rfl⟩)
/-- x = lst[k]: an item, or an IndexError -/
theorem exx_item (hh : a.A.handled = none) (hkd : a.env.scope.kind = .function) {x : Str} {o i : Expr} {px p pos : Pos} {ds : List D} {k : Int} (hv : Ev prog w B a σ own o (.lst ds)) (hi : Ev prog w B a σ own i (.int k)) (h0 : 0 ≤ k) (h63 : k < 2 ^ 63) (hk : a.env.kindOf x = some .local) (hform : SubForm i) (hC : C .none)
    (hin : ∀ d, ds[k.toNat]? = some d → ExX prog w B a C ((x, d) :: σ) own rest Φ Ψ) (hout : ds[k.toNat]? = none → Ψ σ own)
    (hsw : swapsWithSole [.Name x px] (.Subscript o i p) pos.line a.env = pure false) (hss : swappedStores [.Name x px] (.Subscript o i p) a.env = pure none) (hae : (assignEach [.Name x px] a.env).map (·.2) = [assign (.Name x px) a.env]) :
    ExX prog w B a C σ own (.Assign [.Name x px] (.Subscript o i p) pos :: rest) Φ Ψ := fun s g Q E S nd k₁ k₂ => by
  refine wpAny_execs_cons ?_
  rw [arm_exec_Assign, hsw]
  refine wpAny_bind (wpAny_standAt (wpAny_bind (wpAny_pure ?_)))
  rw [if_neg (by decide)]
  refine wpAny_bind (Subscript_ (hv s g _ _ S fun u s₁ g₁ G₁ S₁ r₁ => hi s₁ g₁ _ _ (S.grow G₁) fun z s₂ g₂ G₂ S₂ r₂ => ?_))
  have S₂' := (S.grow G₁).grow G₂
  have G := G₁.trans G₂
  obtain ⟨l, vs, rfl, la, ra⟩ := rep_lst.mp (r₁.mono G₂.gg)
  obtain ⟨t, rfl⟩ := rep_int.mp r₂
  have L := stays_isList S₂'.gh la.isList
  obtain ⟨ops, hops⟩ := hform (.ref l) (.int k t)
  have hkk : ((k.toNat : Nat) : Int) = k := Int.toNat_of_nonneg h0
  cases q : ds[k.toNat]? with
  | some d =>
    obtain ⟨u, hu1, hu2⟩ := ra.get q
    refine tail_any L.typeIs slot_list_getitem.lookup (wpAny_getItem_list L h0 h63 (by simpa using hu1) ?_) hops
    rw [hss, hae]
    refine wpAny_bind (wpAny_pure ?_)
    show wpAny _ _ (do assign (.Name x px) a.env u; pure Flow.next) _ _ _
    obtain ⟨m, hn, _⟩ := S₂'.ns
    refine wpAny_bind (wpAny_assign_Name (wpAny_storeName_local hk hn (fun h' hn' hs' => wpAny_pure ?_) (by rw [hkd]; rfl)))
    have S₃ := S₂'.local hk hn hn' hs' hu2
    have GX : GrowX (Mu a own) a.fr g s.heap g₂ h' := (G.toX (X := Mu a own)).trans ((GrowX.one S₂'.gh S₂'.lg hs').mono fun b _ e => mu_own (.inl e)) fun _ _ q => q
    have hno : ∀ b, (fun _ : Addr => False) b → h'.get? b ≠ none := fun _ z => z.elim
    have Sm : Same s { s₂ with heap := h', toks := s₂.toks + 1 } := (S₁.trans S₂).trans ⟨rfl, rfl, rfl⟩
    refine hin d q { s₂ with heap := h', toks := s₂.toks + 1 } g₂ Q E S₃ nd (fun f fl σ₂ own₂ s₄ g₄ p r S₄ nd₄ on₄ G₄ Sm₄ => ?_) fun x σ₂ own₂ s₄ g₄ p xs S₄ nd₄ on₄ G₄ Sm₄ => ?_
    · exact k₁ f fl σ₂ own₂ s₄ g₄ p r S₄ nd₄ (step_new S₃ hno (.refl _ _) (muY_of GX) on₄) (muY_no (step_grow (.refl _ _) (muY_of (Y := fun _ => False) GX) (muY_of G₄))) (Sm.trans Sm₄)
    · exact k₂ x σ₂ own₂ s₄ g₄ p (xs.back fun T n => new_back S₃ GX n) S₄ nd₄ (step_new S₃ hno (.refl _ _) (muY_of GX) on₄) (muY_no (step_grow (.refl _ _) (muY_of (Y := fun _ => False) GX) (muY_of G₄))) (Sm.trans Sm₄)
  | none =>
    have hlen : ds.length ≤ k.toNat := List.getElem?_eq_none_iff.mp q
    refine tail_any L.typeIs slot_list_getitem.lookup (item_out L (by simp only [List.size_toArray, ra.length]; omega) h63 fun α msg Q' => ?_) hops
    refine raise_any (A := a.A.in1) (c := .none) ⟨.inl ⟨hh, rfl⟩⟩ fun h' tk e up ne raw => ?_
    have GP : Grow a.fr g₂ s₂.heap g₂ h' := Grow.plain S₂'.gh up
    exact k₂ e σ own { s₂ with heap := h', toks := tk } g₂ (hout q) ⟨stays_none S₂'.gh ne, fresh_of_grow G ne, .none, hC, .inl raw⟩ (S₂'.grow GP) nd (.refl _ _) (G.trans GP).toX ((S₁.trans S₂).trans ⟨rfl, rfl, rfl⟩)
theorem Risen.xst {c : Value} {g h₀ h : Heap} {x T : Addr} (r : Risen a c g h₀ x T h) (hC : C c) (st : g.StaysIn h₀) : XSt a C x h₀ g h := ⟨stays_none st r.nx, r.nx, c, hC, .inr ⟨T, stays_none st r.nT, r.nT, r.at_⟩⟩
/-- while lst[k] == v, at the end of a block -/
theorem exx_while (hh : a.A.handled = none) (hF : FrOk a) {o i r : Expr} {p p2 pos : Pos} {body : List Stmt} {ds : List D} {k v : Int} (hv : Ev prog w B a σ own o (.lst ds)) (hi : Ev prog w B a σ own i (.int k)) (hr : Ev prog w B a σ own r (.int v)) (h0 : 0 ≤ k) (h63 : k < 2 ^ 63) (hu : a.A.units + 64 < cLine)
    (hform : SubForm i) (hm : behindInMarks .Eq r = false) (hC : C .none) (hin : ∀ d, ds[k.toNat]? = some d → ∃ z, d = .int z ∧ z ≠ v ∧ Φ .next σ own) (hout : ds[k.toNat]? = none → Ψ σ own) :
    ExX prog w B a C σ own [.While (.Compare (.Subscript o i p) [.Eq] [r] p2) body [] pos] Φ Ψ := fun s g Q E S nd k₁ k₂ => by
  refine wpAny_execs_cons (while0 (c := .none) hF hv hi hr h0 h63 hu hform hm S ⟨.inl ⟨hh, rfl⟩⟩ (fun d hd => ?_) fun q x T s' g₁ h₁ G₁ R Sm => ?_)
  · obtain ⟨z, e, ne, hp⟩ := hin d hd
    exact ⟨z, e, ne, fun s' g' G Sm => wpAny_execs_nil (k₁ .next .next σ own s' g' hp rfl (S.grow G) nd (.refl _ _) G.toX Sm)⟩
  · exact k₂ x σ own s' g₁ (hout q) ((R.xst hC G₁.gh).back fun T n => fresh_of_grow G₁ n) ((S.grow G₁).grow R.grow) nd (.refl _ _) (G₁.trans R.grow).toX Sm
end
end Mine
end
section
open PySem PySem.W PySem.Calls PyProof.Rows
set_option maxRecDepth 100000
set_option linter.unusedVariables false
namespace Mine
section
variable {prog : Program} {w : World} {B : Heap} {a : Act} {C : Value → Prop} {σ : Vars} {own : Owns} {n : Nat} {rest : List Stmt} {Φ : Fl → Vars → Owns → Prop} {Ψ : Vars → Owns → Prop}
theorem fields_apart {g h : Heap} (S : Sv B a σ own g h) {x : Addr} {o : Obj} {vs : Array Value} (ho : h.get? x = some o) (hd : o.data = .fields vs) : ¬ Mu a own x ∧ x ∉ a.fr := by
  refine ⟨?_, fun hf => ?_⟩
  · rintro ((e | e) | ⟨p, hp, e⟩)
    · obtain ⟨m, ⟨o', es, ep, ho', hd', _⟩, _⟩ := S.ns
      rw [← e, ho] at ho'; cases ho'; rw [hd] at hd'; cases hd'
    · obtain ⟨p, hp, e⟩ := S.mcs x e
      obtain ⟨⟨v, o', ho', hd'⟩, _⟩ := S.cells p hp
      rw [e, ho] at ho'; cases ho'; rw [hd] at hd'; cases hd'
    · obtain ⟨_, us, ⟨k, eo⟩, _⟩ := S.own p hp
      rw [e, ho] at eo; cases eo; cases hd
  · obtain ⟨_, o', ho', hnf⟩ := S.ff.mem hf
    rw [ho] at ho'; cases ho'; exact hnf _ hd
theorem ExAt.stays {g h g' h' : Heap} {x T : Addr} {c fl : Value} (e : ExAt x T c fl h) (S : Sv B a σ own g h) (G : GrowX (Mu a own) a.fr g h g' h') : ExAt x T c fl h' := by
  obtain ⟨⟨o, t, h1, h2, h3⟩, ne, oT, ts, h4, h5, h6, h7⟩ := id e
  obtain ⟨q1, q2⟩ := fields_apart S h1 h3
  obtain ⟨q3, q4⟩ := fields_apart S h4 h5
  exact e.keep (fun o' e' => ⟨o'.slots, G.ext.keep e' q1 q2⟩) fun o' e' => ⟨o'.slots, G.ext.keep e' q3 q4⟩
/-- a change at a new place with fields -/
theorem Sv.atT {g h h' : Heap} (S : Sv B a σ own g h) {x T : Addr} {c fl : Value} (e : ExAt x T c fl h) (hgT : g.get? T = none) (up : ∀ b o, b ≠ T → h.get? b = some o → h'.get? b = some o) : Sv B a σ own g h' := by
  obtain ⟨_, _, oT, ts, h4, h5, _⟩ := e
  obtain ⟨q3, q4⟩ := fields_apart S h4 h5
  refine S.other (fun b o hb q => up b o hb q) (fun z => q3 (.inl (.inl z.symm))) (fun p hp z => ?_) (fun p hp z => q3 (.inr ⟨p, hp, z⟩)) q4 hgT
  obtain ⟨⟨v, o', ho', hd'⟩, _⟩ := S.cells p hp
  rw [z, h4] at ho'; cases ho'; rw [h5] at hd'; cases hd'

theorem FrOk.mark (hF : FrOk a) (v : Option Value) : FrOk (a.with (a.A.mark v)) := by
  obtain ⟨outer, h1, h2⟩ := hF.A
  exact ⟨hF.fr, outer, h1, h2⟩
/-- an entry's mark set: GrowX from before the raise -/
theorem growT {fr : List Addr} {X : Addr → Prop} {g₀ h₀ g h h' : Heap} {T : Addr} (G : GrowX X fr g₀ h₀ g h) (nT : h₀.get? T = none) (gT : g.get? T = none) (up : ∀ b o, b ≠ T → h.get? b = some o → h'.get? b = some o) : GrowX X fr g₀ h₀ g h' := by
  refine ⟨fun b o e nb => ?_, G.gg, fun b o e => up b o (fun z => by rw [z, gT] at e; cases e) (G.gh b o e), G.new⟩
  obtain ⟨sl, q1, q2⟩ := G.ext b o e nb
  exact ⟨sl, up b _ (fun z => by rw [z, nT] at e; cases e) q1, q2⟩
set_option maxHeartbeats 2000000 in
theorem exx_tryfin (hh : a.A.handled = none) (hF : FrOk a) (hkd : a.env.scope.kind = .function) {o1 i1 r1 o2 i2 r2 val : Expr} {p1 q1 s1 p2 q2 s2 px pa pos : Pos} {b1 b2 : List Stmt} {x : Str} {ds1 ds2 : List D} {k1 v1 k2 v2 j d1 : Int}
    (hv1 : Ev prog w B a σ own o1 (.lst ds1)) (hi1 : Ev prog w B a σ own i1 (.int k1)) (hr1 : Ev prog w B a σ own r1 (.int v1)) (h01 : 0 ≤ k1) (h631 : k1 < 2 ^ 63) (hu : a.A.units + 64 < cLine) (hf1 : SubForm i1) (hm1 : behindInMarks .Eq r1 = false)
    (hx : σ.lookup x = some (.int j)) (hk : a.env.kindOf x = some .local) (hval : ∀ A, Ev prog w B (a.with A) σ own val (.int d1))
    (hv2 : ∀ A, Ev prog w B (a.with A) ((x, .int (j + d1)) :: σ) own o2 (.lst ds2)) (hi2 : ∀ A, Ev prog w B (a.with A) ((x, .int (j + d1)) :: σ) own i2 (.int k2)) (hr2 : ∀ A, Ev prog w B (a.with A) ((x, .int (j + d1)) :: σ) own r2 (.int v2)) (h02 : 0 ≤ k2) (h632 : k2 < 2 ^ 63) (hf2 : SubForm i2) (hm2 : behindInMarks .Eq r2 = false)
    (hC : C .none) (hC' : ∀ y, C (.ref y)) (hin1 : ∀ d, ds1[k1.toNat]? = some d → ∃ z, d = .int z ∧ z ≠ v1) (hin2 : ∀ d, ds2[k2.toNat]? = some d → ∃ z, d = .int z ∧ z ≠ v2)
    (hΦ : ds1[k1.toNat]? ≠ none → ds2[k2.toNat]? ≠ none → Φ .next ((x, .int (j + d1)) :: σ) own) (hΨ : ds1[k1.toNat]? = none ∨ ds2[k2.toNat]? = none → Ψ ((x, .int (j + d1)) :: σ) own) :
    ExX prog w B a C σ own [.Try [.While (.Compare (.Subscript o1 i1 p1) [.Eq] [r1] q1) b1 [] s1] [] [] [.AugAssign (.Name x px) .Add val pa, .While (.Compare (.Subscript o2 i2 p2) [.Eq] [r2] q2) b2 [] s2] pos] Φ Ψ := fun s g Q E S nd k₁ k₂ => by
  refine wpAny_execs_cons (wpAny_Try_finally ?_)
  refine wpAny_execs_cons (while0 (c := .none) hF hv1 hi1 hr1 h01 h631 hu hf1 hm1 S ⟨.inl ⟨hh, rfl⟩⟩ (fun d hd => ?_) fun q y T s₁ g₁ h₁ G₁ R Sm₁ => ?_)
  · obtain ⟨z, e, ne⟩ := hin1 d hd
    refine ⟨z, e, ne, fun s₁ g₁ G₁ Sm₁ => wpAny_execs_nil (wpAny_execs_nil ?_)⟩
    have S₁ := S.grow G₁
    refine wpAny_execs_cons (aug1 hkd hx hk (hval a.A) S₁ fun s₂ g₂ S₂ G₂ Sm₂ => ?_)
    have GX : GrowX (Mu a own) a.fr g s.heap g₂ s₂.heap := (G₁.toX (X := Mu a own)).trans (G₂.mono fun b _ m => mu_own m) fun _ _ q => q
    refine wpAny_execs_cons (while0 (c := .none) hF (hv2 a.A) (hi2 a.A) (hr2 a.A) h02 h632 hu hf2 hm2 S₂ ⟨.inl ⟨hh, rfl⟩⟩ (fun d' hd' => ?_) fun q x' T s₃ g₃ h₃ G₃ R Sm₃ => ?_)
    · obtain ⟨z', e', ne'⟩ := hin2 d' hd'
      refine ⟨z', e', ne', fun s₃ g₃ G₃ Sm₃ => wpAny_execs_nil (wpAny_execs_nil (k₁ .next .next _ own s₃ g₃ (hΦ (by rw [hd]; exact fun z => by cases z) (by rw [hd']; exact fun z => by cases z)) rfl (S₂.grow G₃) nd (.refl _ _) (GX.trans (G₃.toX (X := Mu a own)) fun _ _ q => q) ((Sm₁.trans Sm₂).trans Sm₃)))⟩
    · have S₃ := (S₂.grow G₃).grow R.grow
      refine note_again hF.fr R.at_ (came_back hF.fr R.at_ fun h₄ at₄ up₄ => ?_)
      have gT : g₃.get? T = none := stays_none G₃.gh R.nT
      have GX₃ : GrowX (Mu a own) a.fr g s.heap g₃ s₃.heap := (GX.trans (G₃.toX (X := Mu a own)) fun _ _ q => q).trans (R.grow.toX (X := Mu a own)) fun _ _ q => q
      have nT : s.heap.get? T = none := new_back (S₂.grow G₃) (GX.trans (G₃.toX (X := Mu a own)) fun _ _ q => q) R.nT
      exact k₂ x' _ own { s₃ with heap := h₄ } g₃ (hΨ (.inr q)) ⟨stays_none G₃.gh R.nx, new_back (S₂.grow G₃) (GX.trans (G₃.toX (X := Mu a own)) fun _ _ q => q) R.nx, .none, hC, .inr ⟨T, gT, nT, at₄⟩⟩ (S₃.atT R.at_ gT up₄) nd (.refl _ _) (growT GX₃ nT gT up₄) ((Sm₁.trans Sm₂).trans ⟨Sm₃.gens, Sm₃.drawn, Sm₃.os⟩)
  · have gT : g₁.get? T = none := stays_none G₁.gh R.nT
    have gy : g₁.get? y = none := stays_none G₁.gh R.nx
    have S₁ := (S.grow G₁).grow R.grow
    have GX₁ : GrowX (Mu a own) a.fr g s.heap g₁ s₁.heap := (G₁.trans R.grow).toX
    have nT : s.heap.get? T = none := fresh_of_grow G₁ R.nT
    have ny : s.heap.get? y = none := fresh_of_grow G₁ R.nx
    refine note_again hF.fr R.at_ ⟨ref_ne_byPass y, note_again hF.fr R.at_ (set_flight none R.at_ fun h₂ at₂ up₂ => ?_)⟩
    have S₂ : Sv B a σ own g₁ h₂ := S₁.atT R.at_ gT up₂
    have GX₂ := growT GX₁ nT gT up₂
    have hFm := hF.mark (some (.ref y))
    refine wpAny_execs_cons (aug1 (a := a.with (a.A.mark (some (.ref y)))) (s := { s₁ with heap := h₂ }) hkd hx hk (hval _) (S₂.with _) fun s₃ g₃ S₃ G₃ Sm₃ => ?_)
    have S₃' : Sv B a ((x, .int (j + d1)) :: σ) own g₃ s₃.heap := S₃.with a.A
    have G₃' : GrowX (Mu a own) a.fr g₁ h₂ g₃ s₃.heap := G₃.mono fun b _ m => mu_own (a := a) m
    have at₃ : ExAt y T .none .none s₃.heap := at₂.stays S₂ G₃'
    have GX₃ := GX₂.trans G₃' fun _ _ q => q
    have ex2 : h₂.get? T ≠ none := by obtain ⟨_, _, oT, ts, h4, _⟩ := at₂; exact ne_of_some h4
    have ey2 : h₂.get? y ≠ none := by obtain ⟨⟨o, t, h1, _⟩, _⟩ := at₂; exact ne_of_some h1
    have apT : ¬ Mu a own T := by obtain ⟨_, _, oT, ts, h4, h5, _⟩ := at₂; exact (fields_apart S₂ h4 h5).1
    have apy : ¬ Mu a own y := by obtain ⟨⟨o, t, h1, h2, h3⟩, _⟩ := at₂; exact (fields_apart S₂ h1 h3).1
    have gT₃ : g₃.get? T = none := G₃'.none ex2 gT apT
    have gy₃ : g₃.get? y = none := G₃'.none ey2 gy apy
    refine wpAny_execs_cons (while0 (a := a.with (a.A.mark (some (.ref y)))) (c := .ref y) hFm (hv2 _) (hi2 _) (hr2 _) h02 h632 hu hf2 hm2 S₃ ⟨.inr ⟨y, T, .none, rfl, rfl, at₃⟩⟩ (fun d' hd' => ?_) fun q' x' T' s₄ g₄ h₄ G₄ R' Sm₄ => ?_)
    · obtain ⟨z', e', ne'⟩ := hin2 d' hd'
      refine ⟨z', e', ne', fun s₄ g₄ G₄ Sm₄ => wpAny_execs_nil ?_⟩
      have G₄ : Grow a.fr g₃ s₃.heap g₄ s₄.heap := G₄
      have S₄ := S₃'.grow G₄
      have at₄ : ExAt y T .none .none s₄.heap := at₃.stays S₃' (G₄.toX (X := Mu a own))
      have ex3 : s₃.heap.get? T ≠ none := by obtain ⟨_, _, oT, ts, h4, _⟩ := at₃; exact ne_of_some h4
      have ey3 : s₃.heap.get? y ≠ none := by obtain ⟨⟨o, t, h1, _⟩, _⟩ := at₃; exact ne_of_some h1
      have gT₄ : g₄.get? T = none := none_of_new G₄ ex3 gT₃
      have gy₄ : g₄.get? y = none := none_of_new G₄ ey3 gy₃
      have GX₄ := GX₃.trans (G₄.toX (X := Mu a own)) fun _ _ q => q
      refine pass_on hF.fr at₄ fun h₅ at₅ up₅ => ?_
      exact k₂ y _ own { s₄ with heap := h₅ } g₄ (hΨ (.inl q)) ⟨gy₄, ny, .none, hC, .inr ⟨T, gT₄, nT, at₅⟩⟩ (S₄.atT at₄ gT₄ up₅) nd (.refl _ _) (growT GX₄ nT gT₄ up₅) ((Sm₁.trans ⟨Sm₃.gens, Sm₃.drawn, Sm₃.os⟩).trans ⟨Sm₄.gens, Sm₄.drawn, Sm₄.os⟩)
    · have G₄ : Grow a.fr g₃ s₃.heap g₄ h₄ := G₄
      have RG : Grow a.fr g₄ h₄ g₄ s₄.heap := R'.grow
      have S₄ := (S₃'.grow G₄).grow RG
      have at' : ExAt x' T' (.ref y) (rawInt a.env.locals) s₄.heap := R'.at_
      have GX₄ := (GX₃.trans (G₄.toX (X := Mu a own)) fun _ _ q => q)
      have GX₅ := GX₄.trans (RG.toX (X := Mu a own)) fun _ _ q => q
      have gT' : g₄.get? T' = none := stays_none G₄.gh R'.nT
      have nT' : s.heap.get? T' = none := new_back (S₃'.grow G₄) GX₄ R'.nT
      refine note_again hF.fr at' (came_back hF.fr at' fun h₅ at₅ up₅ => ?_)
      exact k₂ x' _ own { s₄ with heap := h₅ } g₄ (hΨ (.inl q)) ⟨stays_none G₄.gh R'.nx, new_back (S₃'.grow G₄) GX₄ R'.nx, .ref y, hC' y, .inr ⟨T', gT', nT', at₅⟩⟩ (S₄.atT at' gT' up₅) nd (.refl _ _) (growT GX₅ nT' gT' up₅) ((Sm₁.trans ⟨Sm₃.gens, Sm₃.drawn, Sm₃.os⟩).trans ⟨Sm₄.gens, Sm₄.drawn, Sm₄.os⟩)
end
end Mine
end
section
open PySem PySem.W PySem.Calls PyProof.Rows
set_option maxRecDepth 100000
set_option linter.unusedVariables false
namespace Mine
theorem sub_Index : isSubtype (.type "IndexError") (.type "IndexError") = pure true := by rw [isSubtype_type]; kernel_rfl
theorem sub_IndexB : isSubtype (.type "IndexError") (.type "BaseException") = pure true := by rw [isSubtype_type]; kernel_rfl
theorem meta_Index : isSubtype (.type ((Manifest.find? "IndexError").elim "type" fun x => x.metatype)) (.type "tuple") = pure false := by rw [isSubtype_type]; kernel_rfl
theorem mem_of_lookup_c : ∀ {l : List (Str × Addr)} {x : Str} {c : Addr}, l.lookup x = some c → (x, c) ∈ l := PySem.mem_of_lookup
section
variable {prog : Program} {w : World} {B : Heap} {a : Act} {C : Value → Prop} {σ : Vars} {own : Owns} {n : Nat} {rest : List Stmt} {Φ : Fl → Vars → Owns → Prop} {Ψ : Vars → Owns → Prop}
theorem Sv.otherX {g h h' : Heap} {I : Addr} (S : Sv B a σ own g h) (x : ExtX (· = I) a.fr h h') (gst : g.StaysIn h') (hM : ¬ Mu a own I) (hf : I ∉ a.fr) (hc : ∀ p ∈ a.env.cells, p.2 ≠ I) : Sv B a σ own g h' := by
  obtain ⟨m, hn, hv⟩ := S.ns
  have hL : a.env.locals ≠ I := fun z => hM (.inl (.inl z.symm))
  have ff : ∀ (l : List Env), h.FunFrames B l → (∀ f ∈ l.filterMap (·.frame), f ≠ I) → h'.FunFrames B l := by
    intro l
    induction l with
    | nil => intro _ _; trivial
    | cons env r ih =>
      rintro ⟨hk, ⟨L, o, hf, hn, ho, hd⟩, hr⟩ hne
      have hL : L ≠ I := hne L (by rw [List.filterMap_cons, hf]; exact .head _)
      obtain ⟨sl, e, _⟩ := x L o ho hL
      exact ⟨hk, ⟨L, _, hf, hn, e, hd⟩, ih hr fun f hf' => hne f (by rw [List.filterMap_cons, hf]; exact .tail _ hf')⟩
  have cellK : ∀ {c : Addr} {v : Option Value}, c ≠ I → h.IsCell c v → h'.IsCell c v := fun hne hc' => by
    obtain ⟨o, h1, h2⟩ := hc'
    obtain ⟨sl, e, _⟩ := x _ o h1 hne
    exact ⟨_, e, h2⟩
  refine ⟨⟨S.bg, gst, ff _ S.ff fun f hf' z => hf (z ▸ hf'), S.fg, fun p hp => ?_⟩, ⟨m, ?_, hv⟩, fun y e hy hyk => ?_, fun p hp => ?_, S.cnd, S.lg, S.mcs⟩
  · obtain ⟨h1, vs, h2, h3⟩ := S.own p hp
    exact ⟨h1, vs, h2.at fun o e => x.keep e (fun z => hM (.inr ⟨p, hp, z⟩)) (fun q => (S.fg p.1 q).2 p hp rfl), h3⟩
  · obtain ⟨o, es, ep, h1, h2, r⟩ := hn
    obtain ⟨sl, e, _⟩ := x _ o h1 hL
    exact ⟨_, es, ep, e, h2, r⟩
  · obtain ⟨c, v, h1, h2, h3⟩ := S.cl y e hy hyk
    exact ⟨c, v, h1, cellK (hc _ (mem_of_lookup_c h1)) h2, h3⟩
  · obtain ⟨⟨v, h1⟩, h2⟩ := S.cells p hp
    exact ⟨⟨v, cellK (hc p hp) h1⟩, h2⟩
/-- from a statement's exception to the handler's begin -/
theorem land {x : Addr} {h₀ g₀ g : Heap} {s : Shared} {E : Value → Shared → Prop} {Q : Shared → Prop} {Y : Addr → Prop} (hF : FrOk a) (S : Sv B a σ own g s.heap) (X : XSt a C x h₀ g s.heap) (G : GrowX Y a.fr g₀ h₀ g s.heap) (hback : ∀ T, s.heap.get? T = none → h₀.get? T = none)
    (k : ∀ T c h', ExAt x T c .none h' → g.get? T = none → g.get? x = none → h₀.get? T = none → Sv B a σ own g h' → GrowX Y a.fr g₀ h₀ g h' → Q { s with heap := h' }) :
    wpAny (model prog w) a.A (noteFrame (.ref x) a.env) (fun _ s₂ => wpAny (model prog w) a.A (setFlight (.ref x) none) (fun _ s₃ => Q s₃) E s₂) E s := by
  obtain ⟨gx, nx, c, hC, raw | ⟨T, gT, nT, at_⟩⟩ := X
  · obtain ⟨outer, hl, hA⟩ := hF.A
    have hfr : (a.env :: outer).filterMap (·.frame) = a.fr := by unfold Act.fr; rw [hl]
    refine note_raw (l := []) hA (by rw [← hl]; exact S.ff) hF.fr raw fun h' T at_ ext nT => ?_
    rw [hfr] at ext
    have gT : g.get? T = none := stays_none S.gh nT
    obtain ⟨o, t, ho, _, hd⟩ := id raw
    obtain ⟨q1, q2⟩ := fields_apart S ho hd
    have gst : g.StaysIn h' := fun b o eo => by
      have hb : b ≠ x := fun z => by rw [z, gx] at eo; cases eo
      have hnf : b ∉ a.fr := fun hf => by rw [(S.fg b hf).1] at eo; cases eo
      exact ext.keep (S.gh b o eo) hb hnf
    have hcx : ∀ p ∈ a.env.cells, p.2 ≠ x := fun p hp z => by
      obtain ⟨⟨v, o', ho', hd'⟩, _⟩ := S.cells p hp
      rw [z, ho] at ho'; cases ho'; rw [hd] at hd'; cases hd'
    have S' := S.otherX ext gst q1 q2 hcx
    have G' : GrowX (fun b => Y b ∨ b = x) a.fr g₀ h₀ g h' := ((G.mono fun b _ y => Or.inl y).trans (⟨ext.mono fun b _ e => Or.inr e, stays_refl _, gst, fun _ _ q => .inl q⟩ : GrowX (fun b => Y b ∨ b = x) a.fr g s.heap g h') fun _ _ q => q)
    have G'' : GrowX Y a.fr g₀ h₀ g h' := G'.mono fun b e m => m.elim id fun z => absurd nx (z ▸ e)
    exact set_flight none at_ fun h'' at'' up => k T c h'' at'' gT gx (hback T nT) (S'.atT at_ gT up) (growT G'' (hback T nT) gT up)
  · refine note_again hF.fr at_ (set_flight none at_ fun h' at' up => ?_)
    exact k T c h' at' gT gx nT (S.atT at_ gT up) (growT G nT gT up)

set_option maxHeartbeats 1000000 in
theorem ex_tryexc (hF : FrOk a) {body suite : List Stmt} {b₀ : Stmt} {t : Expr} {hp pos : Pos} (hkeys : ∀ σ' own', Ψ σ' own' → own'.map (·.1) = own.map (·.1))
    (hb : ExX prog w B a C σ own body (fun fl σ' own' => fl = .next ∧ Ex prog w B a σ' own' rest Φ) Ψ) (ht : ∀ x σ own, Ev prog w B (a.with (a.A.mark (some (.ref x)))) σ own t (.val (.type "IndexError")))
    (hx : ∀ x σ' own', Ψ σ' own' → Ex prog w B (a.with (a.A.mark (some (.ref x)))) σ' own' (b₀ :: suite) fun fl σ'' own'' => fl = .brk ∧ Φ .brk σ'' own'') :
    Ex prog w B a σ own (.Try body [.ExceptHandler (some t) none (b₀ :: suite) hp] [] [] pos :: rest) Φ :=
  ex_step fun s g Q E S nd k₁ k₂ => by
    refine wpAny_Try_except (hb s g _ _ S nd (fun f fl σ₁ own₁ s₁ g₁ p r S₁ nd₁ on₁ G₁ Sm₁ => ?_) fun x σ₁ own₁ s₁ g₁ p X S₁ nd₁ on₁ G₁ Sm₁ => ?_)
    · obtain ⟨rfl, p⟩ := p
      cases r
      exact wpAny_execs_nil (k₁ s₁ g₁ σ₁ own₁ S₁ nd₁ on₁ G₁ Sm₁ p)
    · have hback : ∀ T, s₁.heap.get? T = none → s.heap.get? T = none := fun T nT => (new_backO S₁ on₁ G₁ nT).elim id fun ⟨q, hq, e⟩ => by
        have hm : q.1 ∈ own₁.map (·.1) := by rw [hkeys _ _ p]; exact List.mem_map_of_mem hq
        obtain ⟨q', hq', e'⟩ := List.mem_map.mp hm
        obtain ⟨_, us, L, _⟩ := S₁.own q' hq'
        exact absurd nT (by rw [← e, ← e']; exact plain_ne L)
      refine land hF S₁ X G₁ hback fun T c h₂ at₂ gT gx nT S₂ G₂ => ?_
      refine wpAny_handleBy_builtin (X := "IndexError") (b := true) sub_IndexB meta_Index sub_Index (ht x σ₁ own₁ { s₁ with heap := h₂ } g₁ _ _ (S₂.with _) fun v s₃ g₃ G₃ Sm₃ r₃ => ⟨rep_val.mp r₃, ?_, ?_⟩)
      · have G₃ : Grow a.fr g₁ h₂ g₃ s₃.heap := G₃
        obtain ⟨⟨o, t', h1, h2, _⟩, _⟩ := at₂
        obtain ⟨sl, e, _⟩ := G₃.ext x o h1
        exact ⟨_, e, h2⟩
      · have G₃ : Grow a.fr g₁ h₂ g₃ s₃.heap := G₃
        have S₃ := S₂.grow G₃
        have at₃ := at₂.stays S₂ (G₃.toX (X := Mu a own₁))
        have eT : h₂.get? T ≠ none := by obtain ⟨_, _, oT, ts, h4, _⟩ := at₂; exact ne_of_some h4
        have gT₃ : g₃.get? T = none := none_of_new G₃ eT gT
        have GX₃ : GrowX (Mu a own) a.fr g s.heap g₃ s₃.heap := G₂.trans (G₃.toX (X := Mu a own)) fun _ _ q => q
        rw [if_pos rfl]
        refine set_flight none at₃ fun h₄ at₄ up₄ => ?_
        have S₄ : Sv B a σ₁ own₁ g₃ h₄ := S₃.atT at₃ gT₃ up₄
        have GX₄ := growT GX₃ nT gT₃ up₄
        refine hx x σ₁ own₁ p { s₃ with heap := h₄ } g₃ _ _ (S₄.with _) nd₁ fun f fl σ₅ own₅ s₅ g₅ p₅ r₅ S₅ nd₅ on₅ G₅ Sm₅ => ?_
        obtain ⟨rfl, p₅⟩ := p₅
        cases r₅
        have G₅' : GrowX (Mu a own₁) a.fr g₃ h₄ g₅ s₅.heap := G₅
        have hno : ∀ b, (fun _ : Addr => False) b → h₄.get? b ≠ none := fun _ z => z.elim
        exact k₂ .brk .brk s₅ g₅ σ₅ own₅ (fun z => by cases z) p₅ rfl (S₅.with a.A) nd₅ (step_new S₄ hno on₁ (muY_of GX₄) on₅) (muY_no (step_grow on₁ (muY_of (Y := fun _ => False) GX₄) (muY_of G₅'))) ((Sm₁.trans ⟨Sm₃.gens, Sm₃.drawn, Sm₃.os⟩).trans ⟨Sm₅.gens, Sm₅.drawn, Sm₅.os⟩)
end
end Mine
end
section
open PySem PySem.W PySem.Calls PyProof.Rows
set_option maxRecDepth 100000
set_option linter.unusedVariables false
namespace Mine
section
variable {prog : Program} {w : World} {B : Heap} {a : Act} {σ : Vars} {own own' : Owns} {n : Nat} {rest : List Stmt} {Φ : Fl → Vars → Owns → Prop}
theorem ex_extend {o x : Expr} {apos cpos pos : Pos} {Z : Addr} {ds es : List D} (ho : Ev prog w B a σ own o (.val (.ref Z))) (hx : EvAll prog w B a σ own cpos [x] [.lst es]) (z : OwnSet own Z ds (ds ++ es) own') (hE : Ex prog w B a σ own' rest Φ) (hsz : ds.length + es.length ≤ sizeLine)
    {pl : Sem Bool} (he : eval (.Call (.Attribute o "extend" apos) [x] [] cpos) a.env = (do
      let ov ← eval o a.env
      standAt apos.atName
      let (f, first) ← holding [ov] (getMethod ov "extend" pl)
      callWith cpos f first (backTo cpos (starEach [x] a.env)) []))
    (h1 : starEach [x] a.env = (false, eval x a.env) :: starEach [] a.env) (hi : interactive a.env = false) (hs : swapsWith (.Call (.Attribute o "extend" apos) [x] [] cpos) none pos.line a.env = pure false) :
    Ex prog w B a σ own (.Expr (.Call (.Attribute o "extend" apos) [x] [] cpos) pos :: rest) Φ :=
  ex_step fun s g Q E S nd k₁ k₂ => by
    refine wpAny_Expr (MethodCall_ (pl := pl) (ho s g _ _ S fun v s₁ g₁ G₁ Sm₁ r₁ => ?_) he) hi hs
    rw [rep_val.mp r₁]
    have S₁ := S.grow G₁
    obtain ⟨hg, us, L, ru⟩ := S₁.own _ z.mem
    obtain ⟨en, eo⟩ := id L
    refine getMethod_list_of F.slot_list_extend (by rfl) L.isList ⟨_, eo, rfl⟩ (callWith_method1 (hx s₁ g₁ _ _ S₁ fun vs s₂ g₂ G₂ Sm₂ r₂ => ?_) h1)
    obtain ⟨v, r, rfl, q₁, r'⟩ := repAll_cons.mp r₂
    rw [repAll_nil.mp r']
    have S₂ := S₁.grow G₂
    obtain ⟨hg₂, us₂, L₂, ru₂⟩ := S₂.own _ z.mem
    have ru₂ : RepAll g₂ ds us₂ := ru₂
    obtain ⟨en₂, eo₂⟩ := id L₂
    obtain ⟨y, ws, rfl, lb, rb⟩ := rep_lst.mp q₁
    obtain ⟨en₃, eo₃⟩ := id lb
    have hb := S₂.gh _ _ eo₃
    have hsz' : us₂.toArray.size + ws.toArray.size ≤ sizeLine := by simp only [List.size_toArray, ru₂.length, rb.length]; exact hsz
    refine call_meets PySem.F.slot_list_extend ⟨_, eo₂, rfl⟩ PySem.F.entry_list_extend (PySem.F.args_list_extend_2 _ _) (PySem.AutoSeq1.list_extend_list_list_0 Z us₂.toArray en₂ y ws.toArray en₃ (extend_door hsz') (Nat.le_trans (Nat.le_add_right _ _) hsz') (Nat.le_succ_of_le hsz')) ⟨eo₂, hb, ?_⟩
    have hs₃ : Heap.SameBut Z s₂.heap (s₂.heap.update Z (Obj.mapSeq fun x => x ++ ws.toArray)) := Heap.SameBut.update ..
    have L₃ := plain_map (fun x => x ++ ws.toArray) eo₂
    have S₃ : Sv B a σ own' g₂ (s₂.heap.update Z (Obj.mapSeq fun x => x ++ ws.toArray)) := S₂.setOwn nd z hs₃ (vs := us₂ ++ ws) (by simpa using L₃) (ru₂.append rb)
    exact k₁ { s₂ with heap := _ } g₂ σ own' S₃ (z.nd nd) (z.new _) (((G₁.trans G₂).toX (X := Mu a own)).trans ((GrowX.one S₂.gh hg₂ hs₃).mono fun b _ e => .inr ⟨_, z.mem, e.symm⟩) fun _ _ q => q) ((Sm₁.trans Sm₂).trans ⟨rfl, rfl, rfl⟩) hE
end
end Mine
end
section
open PySem PySem.W PyProof.Rows
set_option maxRecDepth 10000
set_option linter.unusedVariables false
namespace Mine
theorem sld_nil_l (ys : List Int) : sldS [] ys = ([], ys) := by unfold sldS; simp
theorem sld_nil_r (xs : List Int) : sldS xs [] = (xs, []) := by unfold sldS; simp
theorem sld_lt {x y : Int} {xs ys : List Int} (hx : SortedI (x :: xs)) (hy : SortedI (y :: ys)) (h : x < y) : sldS (x :: xs) (y :: ys) = (x :: (sldS xs (y :: ys)).1, (sldS xs (y :: ys)).2) := by
  have hy' := List.pairwise_cons.mp hy
  have h1 : ∀ z ∈ y :: ys, x < z := fun z hz => by
    rcases List.mem_cons.mp hz with rfl | hz
    · exact h
    · have := hy'.1 z hz; exact Int.lt_trans ‹_› ‹_›
  have h2 : x ∉ y :: ys := fun hm => by have := h1 x hm; omega
  unfold sldS
  have e1 : (x :: xs).filter (fun z => !(y :: ys).contains z) = x :: xs.filter (fun z => !(y :: ys).contains z) := by
    rw [List.filter_cons, if_pos (by simpa using h2)]
  have e2 : (y :: ys).filter (fun z => !(x :: xs).contains z) = (y :: ys).filter (fun z => !xs.contains z) := by
    apply List.filter_congr
    intro z hz
    have : z ≠ x := fun e => by have := h1 z hz; omega
    simp [this]
  rw [e1, e2]
theorem sld_gt {x y : Int} {xs ys : List Int} (hx : SortedI (x :: xs)) (hy : SortedI (y :: ys)) (h : y < x) : sldS (x :: xs) (y :: ys) = ((sldS (x :: xs) ys).1, y :: (sldS (x :: xs) ys).2) := by
  have := sld_lt hy hx h
  unfold sldS at this ⊢
  simp only [Prod.mk.injEq] at this ⊢
  exact ⟨this.2, this.1⟩
theorem sld_eq {x : Int} {xs ys : List Int} (hx : SortedI (x :: xs)) (hy : SortedI (x :: ys)) : sldS (x :: xs) (x :: ys) = sldS xs ys := by
  have hx' := List.pairwise_cons.mp hx
  have hy' := List.pairwise_cons.mp hy
  unfold sldS
  have e1 : ∀ (us vs : List Int), (∀ z ∈ us, x < z) → (x :: us).filter (fun z => !(x :: vs).contains z) = us.filter (fun z => !vs.contains z) := fun us vs hu => by
    rw [List.filter_cons, if_neg (by simp)]
    apply List.filter_congr
    intro z hz
    have : z ≠ x := fun e => by have := hu z hz; omega
    simp [this]
  rw [e1 xs ys hx'.1, e1 ys xs hy'.1]
/-- where the loop of sorted_list_difference stands -/
structure SI (e a : List Int) (i j : Nat) (m u : List Int) : Prop where
  hi : i ≤ e.length
  hj : j ≤ a.length
  h1 : m ++ (sldS (e.drop i) (a.drop j)).1 = (sldS e a).1
  h2 : u ++ (sldS (e.drop i) (a.drop j)).2 = (sldS e a).2
  ml : m.length ≤ i
  ul : u.length ≤ j
theorem drop_cons {l : List Int} {i : Nat} {x : Int} (h : l[i]? = some x) : l.drop i = x :: l.drop (i + 1) := by
  obtain ⟨hl, e⟩ := List.getElem?_eq_some_iff.mp h
  rw [← e]; exact List.drop_eq_getElem_cons hl
theorem sorted_drop {l : List Int} (h : SortedI l) (i : Nat) : SortedI (l.drop i) := List.Pairwise.sublist (List.drop_sublist _ _) h
theorem get_lt {l : List Int} {i : Nat} {x : Int} (h : l[i]? = some x) : i < l.length := (List.getElem?_eq_some_iff.mp h).1
theorem SI.lt {e a : List Int} {i j : Nat} {m u : List Int} (I : SI e a i j m u) (he : SortedI e) (ha : SortedI a) {x y : Int} (hx : e[i]? = some x) (hy : a[j]? = some y) (h : x < y) : SI e a (i + 1) j (m ++ [x]) u := by
  have s1 := sorted_drop he i
  have s2 := sorted_drop ha j
  rw [drop_cons hx] at s1
  rw [drop_cons hy] at s2
  have h1 := I.h1
  have h2 := I.h2
  rw [drop_cons hx, drop_cons hy, sld_lt s1 s2 h] at h1 h2
  have := get_lt hx
  exact ⟨this, I.hj, by rw [← h1, drop_cons hy, List.append_assoc]; rfl, by rw [← h2, drop_cons hy], by have := I.ml; simp; assumption, I.ul⟩
theorem SI.gt {e a : List Int} {i j : Nat} {m u : List Int} (I : SI e a i j m u) (he : SortedI e) (ha : SortedI a) {x y : Int} (hx : e[i]? = some x) (hy : a[j]? = some y) (h : y < x) : SI e a i (j + 1) m (u ++ [y]) := by
  have s1 := sorted_drop he i
  have s2 := sorted_drop ha j
  rw [drop_cons hx] at s1
  rw [drop_cons hy] at s2
  have h1 := I.h1
  have h2 := I.h2
  rw [drop_cons hx, drop_cons hy, sld_gt s1 s2 h] at h1 h2
  have := get_lt hy
  exact ⟨I.hi, this, by rw [← h1, drop_cons hx], by rw [← h2, drop_cons hx, List.append_assoc]; rfl, I.ml, by have := I.ul; simp; assumption⟩
theorem SI.eq {e a : List Int} {i j : Nat} {m u : List Int} (I : SI e a i j m u) (he : SortedI e) (ha : SortedI a) {x y : Int} (hx : e[i]? = some x) (hy : a[j]? = some y) (h : x = y) : SI e a (i + 1) (j + 1) m u := by
  subst h
  have s1 := sorted_drop he i
  have s2 := sorted_drop ha j
  rw [drop_cons hx] at s1
  rw [drop_cons hy] at s2
  have h1 := I.h1
  have h2 := I.h2
  rw [drop_cons hx, drop_cons hy, sld_eq s1 s2] at h1 h2
  have := get_lt hx
  have := get_lt hy
  exact ⟨by assumption, by assumption, h1, h2, by have := I.ml; exact Nat.le_succ_of_le ‹_›, by have := I.ul; exact Nat.le_succ_of_le ‹_›⟩
theorem SI.fin {e a : List Int} {i j : Nat} {m u : List Int} (I : SI e a i j m u) (h : i = e.length ∨ j = a.length) : (m ++ e.drop i, u ++ a.drop j) = sldS e a := by
  have h1 := I.h1
  have h2 := I.h2
  rcases h with rfl | rfl
  · rw [List.drop_length, sld_nil_l] at h1 h2
    rw [List.drop_length]
    exact Prod.ext h1 h2
  · rw [List.drop_length, sld_nil_r] at h1 h2
    rw [List.drop_length]
    exact Prod.ext h1 h2
theorem ints_at {l : List Int} {i : Nat} {d : D} (h : (l.map D.int)[i]? = some d) : ∃ x, l[i]? = some x ∧ d = .int x := by
  rw [List.getElem?_map] at h
  cases q : l[i]? with
  | none => rw [q] at h; cases h
  | some x => rw [q] at h; cases h; exact ⟨x, rfl, rfl⟩
theorem ints_out {l : List Int} {i : Nat} (h : (l.map D.int)[i]? = none) : l.length ≤ i := by
  have := List.getElem?_eq_none_iff.mp h; simpa using this
theorem sorted_ne {l : List Int} (h : SortedI l) {i : Nat} {x z : Int} (hx : l[i]? = some x) (hz : l[i + 1]? = some z) : z ≠ x := by
  have s := sorted_drop h i
  rw [drop_cons hx] at s
  have := (List.pairwise_cons.mp s).1 z (by rw [drop_cons hz]; exact .head _)
  omega
section
variable {prog : Program} {w : World} {B : Heap} {mg mb : Str → Option Value} {A : Around} {l : List Env} {own : Owns} {n : Nat} {P : Params} {a : Act} {σ : Vars}
theorem sld_fn (b : Bs P B mg mb) : ∃ o, B.get? 44 = some o ∧ o.data = .func (fdOf 44) := b.fn rfl
theorem sld_ok (b : Bs P B mg mb) : FnOk B (fdOf 44) ["expected", "actual"] (bdOf 44) := b.ok rfl rfl rfl fun vs h => by
  match vs, h with
  | [x, y], _ => rfl
noncomputable def sldVars (Z₁ Z₂ : Addr) (e a : List Int) (i j : Nat) : Vars := [("i", .int i), ("j", .int j), ("missing", .val (.ref Z₁)), ("unexpected", .val (.ref Z₂)), ("expected", eR e), ("actual", eR a)]
noncomputable def sldOwn (Z₁ Z₂ : Addr) (m u : List Int) : Owns := [(Z₂, u.map D.int), (Z₁, m.map D.int)]
theorem ev_globalK (hkd : a.env.scope.kind = .function) (hgl : a.env.globals = mainGlobals) (hbl : a.env.builtins = builtinsNs) (G : Gl B mg mb) {x : Str} {p : Pos} {v : Value} (hx : Gn mg mb x v) (hk : a.env.kindOf x = some .globalImplicit) (hd : (x == ("__debug__" : Str)) = false) :
    Ev prog w B a σ own (.Name x p) (.val v) := fun s g Q E S k => by
  have hg : s.heap.Ns a.env.globals mg := by rw [hgl]; exact (G.g.keeps S.bg).keeps S.gh
  have hb : s.heap.Ns a.env.builtins mb := by rw [hbl]; exact (G.b.keeps S.bg).keeps S.gh
  have fin := k v s g (.refl S.gh) (.refl s) (rep_val.mpr rfl)
  refine Calls.Name_function_global hkd hk ?_ hd
  rcases hx with h | ⟨h1, h2⟩
  · exact Calls.loadGlobal_global hg h fin
  · exact Calls.loadGlobal_builtin hg h1 hb h2 fin
set_option maxHeartbeats 4000000 in
theorem op_sld (b : Bs P B mg mb) : SldC prog w B := by
  intro A l n own e a ok he ha hel hal
  obtain ⟨o, ho, hd⟩ := sld_fn b
  refine op_fn b.G ok ho hd (sld_ok b) rfl fun L => ?_
  have ok' : (fAct (fdOf 44) 44 L A l).Ok n := fAct_ok ok (sld_ok b)
  have hkd : (fAct (fdOf 44) 44 L A l).env.scope.kind = .function := ok'.kind
  have hkA : ∀ A', ((fAct (fdOf 44) 44 L A l).with A').env.scope.kind = .function := fun _ => ok'.kind
  have hF : FrOk (fAct (fdOf 44) 44 L A l) := ⟨rfl, l, rfl, ok'.frames⟩
  have hsz : ∀ {m : Nat}, m < 1000 → m ≤ sizeLine := fun h => by unfold sizeLine; exact Om.le_c ‹_› rfl
  have hu : (fAct (fdOf 44) 44 L A l).A.units + 64 < cLine := by have := ok'.uni; exact Om.u_d ‹_› rfl
  refine ex_assign2 ev_int (tg_local ok' rfl) (tg_local ok' rfl) ?_ rfl rfl rfl
  refine ex_assign (EvF.k (evf_list evAll_nil (by decide)) fun Z₁ => ⟨_, tg_local ok' rfl, ?_⟩) rfl rfl rfl
  refine ex_assign (EvF.k (evf_list evAll_nil (by decide)) fun Z₂ => ⟨_, tg_local ok' rfl, ?_⟩) rfl rfl rfl
  refine ex_while (fun t σ own => ∃ i j m u, t = (e.length - i) + (a.length - j) ∧ SI e a i j m u ∧ own = sldOwn Z₁ Z₂ m u ∧ VS (sldVars Z₁ Z₂ e a i j) σ) (e.length + a.length) ⟨0, 0, [], [], by rfl, ⟨by exact Nat.zero_le _, by exact Nat.zero_le _, rfl, rfl, by simp, by simp⟩, rfl, ?v0⟩ ?_
  case v0 => exact vs_cons rfl (vs_cons rfl (vs_cons rfl (vs_cons rfl (vs_cons rfl (vs_cons rfl vs_nil)))))
  rintro t σ own ⟨i, j, m, u, rfl, I, rfl, hV⟩
  refine ⟨true, tr_value ev_bool (fun _ => rfl), fun _ => hV.ex ?_, fun h => by cases h⟩
  have hil := I.hi
  have hjl := I.hj
  have hml := I.ml
  have hul := I.ul
  refine ex_tryexc hF (C := fun _ => True) (Ψ := fun σ own => ∃ i j m u, SI e a i j m u ∧ (i = e.length ∨ j = a.length) ∧ own = sldOwn Z₁ Z₂ m u ∧ VS (sldVars Z₁ Z₂ e a i j) σ) ?keys ?body ?ht ?hx
  case keys =>
    rintro σ' own' ⟨i, j, m, u, _, _, rfl, _⟩
    rfl
  case ht =>
    intro x σ own
    exact ev_globalK (a := (fAct (fdOf 44) 44 L A l).with ((fAct (fdOf 44) 44 L A l).A.mark (some (.ref x)))) ok'.kind rfl rfl b.G (b.b (x := "IndexError") (v := .type "IndexError") rfl rfl (by decide)) rfl rfl
  case hx =>
    rintro x σ' own' ⟨i, j, m, u, I, hij, rfl, hV⟩
    have hil := I.hi
    have hjl := I.hj
    have hml := I.ml
    have hul := I.ul
    refine hV.ex ?_
    unfold sldVars sldOwn
    refine ex_extend (ds := m.map .int) (es := (e.drop i).map .int) (ev_localK (hkA _) rfl rfl rfl) (evAll_cons ((EvF.ev (evf_slice (ds := e.map .int) (ev_localK (hkA _) rfl rfl rfl) (pt_some (i := (i : Nat)) (ev_localK (hkA _) rfl rfl rfl)) pt_none pt_none (by simp) (hsz (by simp; exact Om.lt_c ‹_› rfl)) fun _ _ => ⟨_, rfl⟩)).to (.lst ((e.drop i).map .int)) (by rw [pickL_from, List.map_drop])) evAll_nil fun _ => rfl) (.tail .head) ?_ (hsz (by simp; omega)) rfl rfl rfl rfl
    refine ex_extend (ds := u.map .int) (es := (a.drop j).map .int) (ev_localK (hkA _) rfl rfl rfl) (evAll_cons ((EvF.ev (evf_slice (ds := a.map .int) (ev_localK (hkA _) rfl rfl rfl) (pt_some (i := (j : Nat)) (ev_localK (hkA _) rfl rfl rfl)) pt_none pt_none (by simp) (hsz (by simp; exact Om.lt_c ‹_› rfl)) fun _ _ => ⟨_, rfl⟩)).to (.lst ((a.drop j).map .int)) (by rw [pickL_from, List.map_drop])) evAll_nil fun _ => rfl) .head ?_ (hsz (by simp; omega)) rfl rfl rfl rfl
    refine ex_break ⟨rfl, ?_⟩
    refine ex_return (Ev.k (ev_tuple (evAll_cons (ev_local ok' rfl rfl rfl) (evAll_cons (ev_local ok' rfl rfl rfl) evAll_nil fun _ => rfl) fun _ => rfl) (hsz (m := 2) (by decide))) ⟨_, rfl, fun nd => ?_⟩)
    have hZ : Z₁ ≠ Z₂ := fun e => by
      have := (List.nodup_cons.mp nd).1
      exact this (by rw [e]; exact .head _)
    have e1 : (Z₁ == Z₂) = false := by rw [beq_eq_false_iff_ne]; exact hZ
    have hfin := I.fin hij
    simp only [sub, subs, List.lookup_cons, e1, beq_self_eq_true]
    rw [← hfin]
    simp [eP, eR, eL]
  case body =>
    unfold sldVars sldOwn
    have vsl : ∀ {σ' : Vars} {i j : Nat}, σ'.lookup ("i" : Str) = some (.int (i : Nat)) → σ'.lookup ("j" : Str) = some (.int (j : Nat)) → σ'.lookup ("missing" : Str) = some (.val (.ref Z₁)) → σ'.lookup ("unexpected" : Str) = some (.val (.ref Z₂)) → σ'.lookup ("expected" : Str) = some (eR e) → σ'.lookup ("actual" : Str) = some (eR a) → VS (sldVars Z₁ Z₂ e a i j) σ' :=
      fun h1 h2 h3 h4 h5 h6 => vs_cons h1 (vs_cons h2 (vs_cons h3 (vs_cons h4 (vs_cons h5 (vs_cons h6 vs_nil)))))
    refine exx_item ok'.hand hkd (ds := e.map .int) (k := (i : Nat)) (ev_local ok' rfl rfl rfl) (ev_local ok' rfl rfl rfl) (by exact Int.natCast_nonneg _) (by exact Om.lt_j ‹_› ‹_› rfl) rfl (fun _ _ => ⟨_, rfl⟩) trivial (fun d hd => ?_) (fun hn => ⟨i, j, m, u, I, .inl (by have := ints_out hn; simp at this; exact Om.rd ‹_› ‹_›), rfl, vsl rfl rfl rfl rfl rfl rfl⟩) rfl rfl rfl
    obtain ⟨x, hx, rfl⟩ := ints_at hd
    have hx : e[i]? = some x := by simpa using hx
    refine exx_item ok'.hand hkd (ds := a.map .int) (k := (j : Nat)) (ev_local ok' rfl rfl rfl) (ev_local ok' rfl rfl rfl) (by exact Int.natCast_nonneg _) (by exact Om.lt_j ‹_› ‹_› rfl) rfl (fun _ _ => ⟨_, rfl⟩) trivial (fun d hd => ?_) (fun hn => ⟨i, j, m, u, I, .inr (by have := ints_out hn; simp at this; exact Om.rd ‹_› ‹_›), rfl, vsl rfl rfl rfl rfl rfl rfl⟩) rfl rfl rfl
    obtain ⟨y, hy, rfl⟩ := ints_at hd
    have hy : a[j]? = some y := by simpa using hy
    have hxl := get_lt hx
    have hyl := get_lt hy
    refine exx_if (tr_compare (ev_local ok' rfl rfl rfl) (ev_local ok' rfl rfl rfl) (op_lt_int x y) rfl) (fun h1 => ?_) (fun h1 => ?_) (fun fl σ' own' h => h.1)
    · have h1 : x < y := by simpa using h1
      have I' := I.lt he ha hx hy h1
      refine exx_seq (Φ₁ := fun σ' own' => own' = sldOwn Z₁ Z₂ (m ++ [x]) u ∧ VS (("e", .int x) :: sldVars Z₁ Z₂ e a i j) σ') (ex_append (ds := m.map .int) (d := .int x) (ev_local ok' rfl rfl rfl) (evAll_cons (ev_local ok' rfl rfl rfl) evAll_nil fun _ => rfl) (.tail .head) (ex_nil ⟨rfl, by simp [sldOwn], vs_cons rfl (vsl rfl rfl rfl rfl rfl rfl)⟩) (hsz (by simp; omega)) rfl rfl rfl rfl) (fun σ' own' h => ?_) (fun σ' own' h => by rw [h.1]; rfl)
      obtain ⟨rfl, hV'⟩ := h
      refine hV'.exx ?_
      refine exx_seq (Φ₁ := fun σ' own' => own' = sldOwn Z₁ Z₂ (m ++ [x]) u ∧ VS (("e", .int x) :: sldVars Z₁ Z₂ e a (i + 1) j) σ') (ex_aug ok' (i := (i : Nat)) (j := 1) rfl rfl ev_int (ex_nil ⟨rfl, rfl, vs_cons rfl (vsl rfl rfl rfl rfl rfl rfl)⟩)) (fun σ' own' h => ?_) (fun σ' own' h => by rw [h.1])
      obtain ⟨rfl, hV'⟩ := h
      refine hV'.exx ?_
      refine exx_while ok'.hand hF (ds := e.map .int) (k := (i + 1 : Nat)) (v := x) (ev_local ok' rfl rfl rfl) (ev_local ok' rfl rfl rfl) (ev_local ok' rfl rfl rfl) (by exact Int.natCast_nonneg _) (by exact Om.lt_j ‹_› ‹_› rfl) hu (fun _ _ => ⟨_, rfl⟩) rfl trivial (fun d hd => ?_) (fun hn => ⟨i + 1, j, m ++ [x], u, I', .inl (by have := ints_out hn; simp at this; exact Om.rd ‹_› ‹_›), rfl, vsl rfl rfl rfl rfl rfl rfl⟩)
      obtain ⟨z, hz, rfl⟩ := ints_at hd
      exact ⟨z, rfl, sorted_ne he hx (by simpa using hz), rfl, ex_nil ⟨_, by omega, i + 1, j, m ++ [x], u, rfl, I', rfl, vsl rfl rfl rfl rfl rfl rfl⟩⟩
    · have h1 : ¬ x < y := by simpa using h1
      refine exx_if (tr_compare (ev_local ok' rfl rfl rfl) (ev_local ok' rfl rfl rfl) (op_gt_int x y) rfl) (fun h2 => ?_) (fun h2 => ?_) (fun fl σ' own' h => h.1)
      · have h2 : y < x := by simpa using h2
        have I' := I.gt he ha hx hy h2
        refine exx_seq (Φ₁ := fun σ' own' => own' = sldOwn Z₁ Z₂ m (u ++ [y]) ∧ VS (("a", .int y) :: sldVars Z₁ Z₂ e a i j) σ') (ex_append (ds := u.map .int) (d := .int y) (ev_local ok' rfl rfl rfl) (evAll_cons (ev_local ok' rfl rfl rfl) evAll_nil fun _ => rfl) .head (ex_nil ⟨rfl, by simp [sldOwn], vs_cons rfl (vsl rfl rfl rfl rfl rfl rfl)⟩) (hsz (by simp; omega)) rfl rfl rfl rfl) (fun σ' own' h => ?_) (fun σ' own' h => by rw [h.1]; rfl)
        obtain ⟨rfl, hV'⟩ := h
        refine hV'.exx ?_
        refine exx_seq (Φ₁ := fun σ' own' => own' = sldOwn Z₁ Z₂ m (u ++ [y]) ∧ VS (("a", .int y) :: sldVars Z₁ Z₂ e a i (j + 1)) σ') (ex_aug ok' (i := (j : Nat)) (j := 1) rfl rfl ev_int (ex_nil ⟨rfl, rfl, vs_cons rfl (vsl rfl rfl rfl rfl rfl rfl)⟩)) (fun σ' own' h => ?_) (fun σ' own' h => by rw [h.1])
        obtain ⟨rfl, hV'⟩ := h
        refine hV'.exx ?_
        refine exx_while ok'.hand hF (ds := a.map .int) (k := (j + 1 : Nat)) (v := y) (ev_local ok' rfl rfl rfl) (ev_local ok' rfl rfl rfl) (ev_local ok' rfl rfl rfl) (by exact Int.natCast_nonneg _) (by exact Om.lt_j ‹_› ‹_› rfl) hu (fun _ _ => ⟨_, rfl⟩) rfl trivial (fun d hd => ?_) (fun hn => ⟨i, j + 1, m, u ++ [y], I', .inr (by have := ints_out hn; simp at this; exact Om.rd ‹_› ‹_›), rfl, vsl rfl rfl rfl rfl rfl rfl⟩)
        obtain ⟨z, hz, rfl⟩ := ints_at hd
        exact ⟨z, rfl, sorted_ne ha hy (by simpa using hz), rfl, ex_nil ⟨_, by omega, i, j + 1, m, u ++ [y], rfl, I', rfl, vsl rfl rfl rfl rfl rfl rfl⟩⟩
      · have h2 : ¬ y < x := by simpa using h2
        have I' := I.eq he ha hx hy (by omega)
        refine exx_seq (Φ₁ := fun σ' own' => own' = sldOwn Z₁ Z₂ m u ∧ VS (("e", .int x) :: ("a", .int y) :: sldVars Z₁ Z₂ e a (i + 1) j) σ') (ex_aug ok' (i := (i : Nat)) (j := 1) rfl rfl ev_int (ex_nil ⟨rfl, rfl, vs_cons rfl (vs_cons rfl (vsl rfl rfl rfl rfl rfl rfl))⟩)) (fun σ' own' h => ?_) (fun σ' own' h => by rw [h.1]; rfl)
        obtain ⟨rfl, hV'⟩ := h
        refine hV'.exx ?_
        refine exx_tryfin ok'.hand hF hkd (ds1 := e.map .int) (ds2 := a.map .int) (k1 := (i + 1 : Nat)) (v1 := x) (k2 := (j + 1 : Nat)) (v2 := y) (j := (j : Nat)) (d1 := 1) (ev_local ok' rfl rfl rfl) (ev_local ok' rfl rfl rfl) (ev_local ok' rfl rfl rfl) (by exact Int.natCast_nonneg _) (by exact Om.lt_j ‹_› ‹_› rfl) hu (fun _ _ => ⟨_, rfl⟩) rfl rfl rfl (fun A => ev_int)
          (fun A' => ev_localK (hkA A') rfl rfl rfl) (fun A' => ev_localK (hkA A') rfl rfl rfl) (fun A' => ev_localK (hkA A') rfl rfl rfl) (by exact Int.natCast_nonneg _) (by exact Om.lt_j ‹_› ‹_› rfl) (fun _ _ => ⟨_, rfl⟩) rfl trivial (fun _ => trivial) (fun d hd => ?_) (fun d hd => ?_) (fun q1 q2 => ?_) (fun q => ?_)
        · obtain ⟨z, hz, rfl⟩ := ints_at hd
          exact ⟨z, rfl, sorted_ne he hx (by simpa using hz)⟩
        · obtain ⟨z, hz, rfl⟩ := ints_at hd
          exact ⟨z, rfl, sorted_ne ha hy (by simpa using hz)⟩
        · exact ⟨rfl, ex_nil ⟨_, by omega, i + 1, j + 1, m, u, rfl, I', rfl, vsl rfl rfl rfl rfl rfl rfl⟩⟩
        · refine ⟨i + 1, j + 1, m, u, I', ?_, rfl, vsl rfl rfl rfl rfl rfl rfl⟩
          rcases q with q | q
          · exact .inl (by have := ints_out q; simp at this; exact Om.rd ‹_› ‹_›)
          · exact .inr (by have := ints_out q; simp at this; exact Om.rd ‹_› ‹_›)
end
end Mine
end
section
open PySem PySem.W PySem.W.X PyProof.Rows
set_option maxRecDepth 100000
set_option maxHeartbeats 4000000
set_option linter.unusedVariables false
namespace Mine
/-! law's first four statements -/
noncomputable def heardOf (script : List Int) : List Int := script.take 60
noncomputable def numsOf (script : List Int) : List Int := ((List.range (min 7 (heardOf script).length)).map (fun (k : Nat) => sumD (pickL (heardOf script) (some (k : Int)) none (some 7))) ++ [3, 7, 0]).take 7
noncomputable def rankOf (nums : List Int) (k : Nat) : Nat := ((List.range nums.length).filter fun (j : Nat) => lexI [nums.getD j 0, (j : Int)] [nums.getD k 0, (k : Int)]).length
noncomputable def wordOf (nums : List Int) : List Nat := (List.range nums.length).map (rankOf nums)
theorem heard_len (script : List Int) : (heardOf script).length ≤ 60 := by unfold heardOf; rw [List.length_take]; exact Nat.min_le_left _ _
theorem nums_len (script : List Int) : 3 ≤ (numsOf script).length ∧ (numsOf script).length ≤ 7 := by
  unfold numsOf
  rw [List.length_take, List.length_append, List.length_map, List.length_range]
  simp only [List.length_cons, List.length_nil]
  omega
noncomputable def pre0 : List Stmt := (fB 15).take 4
section
variable {prog : Program} {w : World} {B : Heap} {mg mb : Str → Option Value} {L : Addr}
theorem mcL {x : Str} {c : Addr} (h : (lawA L).env.cells.lookup x = some c) : c ∈ (lawA L).mc := List.mem_map_of_mem (f := (·.2)) (mem_of_lookup_k' h)
theorem seg1 (b : Bs w.params B mg mb) (ok : (lawA L).Ok 9) (script : List Int) (hsc : script.length ≤ 1000) :
    Ex prog w B (lawA L) [("script", .lst (script.map .int))] [] pre0 (fun fl σ' own' => fl = .next ∧ own' = [] ∧ VS [("numbers", .lst ((numsOf script).map .int)), ("size", .int ((numsOf script).length : Nat)), ("word", .lst ((wordOf (numsOf script)).map fun (i : Nat) => D.int i))] σ') := by
  have hsz : ∀ {m : Nat}, m < 2000 → m ≤ sizeLine := fun h => by unfold sizeLine; exact Om.le_c ‹_› rfl
  have hh := heard_len script
  have hn := nums_len script
  have hu : (lawA L).A.units + 200 < cLine := by have := ok.uni; exact Nat.le_add_left _ _
  refine ex_assign (Ev.k (d := .lst ((heardOf script).map .int)) (EvF.ev ((evf_slice (ev_local ok rfl rfl rfl) pt_none (pt_some ev_int) pt_none (by decide) (hsz (by rw [List.length_map]; omega)) fun _ _ => ⟨_, rfl⟩).to ?e1)) ⟨_, tg_cell ok rfl rfl (mcL (x := "heard") rfl), ?_⟩) rfl rfl rfl
  case e1 => rw [show (60 : Int) = ((60 : Nat) : Int) from rfl, pickL_upto, ← List.map_take]; rfl
  refine ex_assign (Ev.k (d := .lst ((numsOf script).map .int)) (EvF.ev ((evf_slice (ev_binop (EvF.ev (Cp.evf (cp1 (List.range (min 7 (heardOf script).length)) (fun (k : Nat) => D.int k) (fun x y h => by injection h with h; exact Int.ofNat_inj.mp ‹_›) (fun _ => true) (fun k => .int (sumD (pickL (heardOf script) (some (k : Int)) none (some 7)))) [("heard", .lst ((heardOf script).map .int))]
      (b.range1 ok ((ev_call_b (b.evb ok) (evAll_cons ev_int (evAll_cons (b.len ok (ev_cell ok rfl rfl rfl) (by rw [List.length_map]; omega)) evAll_nil fun _ => rfl) fun _ => rfl) (op_min2 ok.hand _ _) fun _ => ⟨rfl, _, _, rfl, rfl⟩).to (.int ((min 7 (heardOf script).length : Nat) : Int)) ?e2)) (it_range0 ok.hand (by omega)) (fun C => vis_cons rfl rfl rfl rfl vis_nil) ok (fun C okc k hk => ?c1) (hsz (by rw [List.length_range]; omega)) (fun _ => rfl) rfl)))
      (ev_list (evAll_cons ev_int (evAll_cons ev_int (evAll_cons ev_int evAll_nil fun _ => rfl) fun _ => rfl) fun _ => rfl) (hsz (m := 3) (by decide))) (op_add_lst _ _ ?e4)) pt_none (pt_some ev_int) pt_none (by decide) ?e5 fun _ _ => ⟨_, rfl⟩).to ?e3)) ⟨_, tg_cell ok rfl rfl (mcL (x := "numbers") rfl), ?_⟩) rfl rfl rfl
  case e2 => rw [List.length_map]; congr 1; split <;> omega
  case c1 =>
    exact ⟨_, tg_local okc rfl, ts_nil, fun _ => ev_call_b (b.evb okc) (evAll_cons ((EvF.ev (evf_slice (ev_cell okc rfl rfl rfl) (pt_some (ev_local okc rfl rfl rfl)) pt_none (pt_some ev_int) (by decide) (hsz (by rw [List.length_map]; omega)) fun _ _ => ⟨_, rfl⟩)).to _ (by rw [pickL_map])) evAll_nil fun _ => rfl) (op_sum okc.hand _) fun _ => ⟨rfl, _, _, rfl, rfl⟩, sub_cons rfl⟩
  case e4 => rw [filt_true, List.length_map, List.length_range]; exact hsz (by show _ + 3 < 2000; omega)
  case e5 => rw [filt_true, List.length_append, List.length_map, List.length_range]; exact hsz (by show _ + 3 < 2000; omega)
  case e3 =>
    rw [filt_true, show (7 : Int) = ((7 : Nat) : Int) from rfl, pickL_upto]
    unfold numsOf
    rw [List.map_take, List.map_append, List.map_map]
    rfl
  generalize hN : numsOf script = nums at hn
  refine ex_assign (Ev.k (d := .int (nums.length : Nat)) ((b.len ok (ev_cell ok rfl rfl rfl) (by rw [List.length_map]; omega)).to _ (by rw [List.length_map])) ⟨_, tg_cell ok rfl rfl (mcL (x := "size") rfl), ?_⟩) rfl rfl rfl
  refine ex_assign (Ev.k (d := .lst ((wordOf nums).map fun (i : Nat) => D.int i)) (EvF.ev ((Cp.evf (cp1 (List.range nums.length) (fun (k : Nat) => D.int k) (fun x y h => by injection h with h; exact Int.ofNat_inj.mp ‹_›) (fun _ => true) (fun k => .int (rankOf nums k : Nat)) [("numbers", .lst (nums.map .int)), ("size", .int (nums.length : Nat))]
      (b.range1 ok (ev_cell ok rfl rfl rfl)) (it_range0 ok.hand (by omega)) (fun C => vis_cons rfl rfl rfl rfl (vis_cons rfl rfl rfl rfl vis_nil)) ok (fun C okc k hk => ?c2) (hsz (by rw [List.length_range]; omega)) (fun _ => rfl) rfl)).to ?e6)) ⟨_, tg_cell ok rfl rfl (mcL (x := "word") rfl), ex_nil ⟨rfl, rfl, vs_cons rfl (vs_cons rfl (vs_cons rfl vs_nil))⟩⟩) rfl rfl rfl
  case e6 =>
    rw [filt_true]
    unfold wordOf
    rw [List.map_map]; rfl
  case c2 =>
    have hk : k < nums.length := List.mem_range.mp hk
    have huc := okc.uni
    refine ⟨_, tg_cell okc rfl rfl (.head _), ts_nil, fun _ => (b.len okc (EvF.ev (Cp.evf (cp1 (List.range nums.length) (fun (k : Nat) => D.int k) (fun x y h => by injection h with h; exact Int.ofNat_inj.mp ‹_›) (fun (j : Nat) => lexI [nums.getD j 0, (j : Int)] [nums.getD k 0, (k : Int)]) (fun j => .int (j : Nat)) [("k", .int k), ("numbers", .lst (nums.map .int))]
      (b.range1 okc (ev_cell okc rfl rfl rfl)) (it_range0 okc.hand (by omega)) (fun C => vis_cons rfl rfl rfl rfl (vis_cons rfl rfl rfl rfl vis_nil)) okc (fun C okd j hj => ?c3) (hsz (by rw [List.length_range]; omega)) (fun _ => rfl) rfl))) ?e7).to _ ?e8, sub_cons rfl⟩
    case e7 =>
      have := List.length_filter_le (fun (j : Nat) => lexI [nums.getD j 0, (j : Int)] [nums.getD k 0, (k : Int)]) (List.range nums.length)
      rw [List.length_range] at this
      rw [List.length_map]; omega
    case e8 => rw [List.length_map]; rfl
    case c3 =>
      have hj : j < nums.length := List.mem_range.mp hj
      have it : ∀ i, i < nums.length → (nums.map D.int)[((i : Nat) : Int).toNat]? = some (.int (nums.getD i 0)) := fun i hi => by
        rw [Int.toNat_natCast, List.getElem?_map, List.getD_eq_getElem?_getD, List.getElem?_eq_getElem hi]; rfl
      have hud := okd.uni
      exact ⟨_, tg_local okd rfl, ts_one (tr_compare (ev_tuple (evAll_cons (ev_sub (ev_cell okd rfl rfl rfl) (ev_local okd rfl rfl rfl) (op_item_lst _ _ (by exact Int.natCast_nonneg _) (by omega) (it j hj) fun _ _ => ⟨_, rfl⟩)) (evAll_cons (ev_local okd rfl rfl rfl) evAll_nil fun _ => rfl) fun _ => rfl) (hsz (m := 2) (by decide)))
        (ev_tuple (evAll_cons (ev_sub (ev_cell okd rfl rfl rfl) (ev_cell okd rfl rfl rfl) (op_item_lst _ _ (by exact Int.natCast_nonneg _) (by omega) (it k hk) fun _ _ => ⟨_, rfl⟩)) (evAll_cons (ev_cell okd rfl rfl rfl) evAll_nil fun _ => rfl) fun _ => rfl) (hsz (m := 2) (by decide)))
        (op_lt_tup [nums.getD j 0, (j : Int)] [nums.getD k 0, (k : Int)] (by exact Nat.le_add_left _ _)) rfl), fun _ => ev_local okd rfl rfl rfl, sub_cons rfl⟩
end
end Mine
end
section
open PySem PySem.W PySem.W.X PyProof.Rows
set_option maxRecDepth 100000
set_option maxHeartbeats 4000000
set_option linter.unusedVariables false
namespace Mine
/-! law's statements 5 to 7 -/
noncomputable def mid5 : List Stmt := [(fB 15).getD 5 (.Pass default), (fB 15).getD 6 (.Pass default), (fB 15).getD 7 (.Pass default)]
noncomputable def textOf (n : Nat) (w v : List Nat) : List Int := [w, v].flatMap fun u => castR u ++ u.map fun (y : Nat) => (n : Int) - 1 - (y : Int)
theorem map_inj {α β : Type} {f : α → β} (hf : ∀ i j, f i = f j → i = j) : ∀ {xs ys : List α}, xs.map f = ys.map f → xs = ys
  | [], [], _ => rfl
  | [], y :: ys, h => by simp at h
  | x :: xs, [], h => by simp at h
  | x :: xs, y :: ys, h => by
    rw [List.map_cons, List.map_cons, List.cons.injEq] at h
    rw [hf _ _ h.1, map_inj hf h.2]
section
variable {prog : Program} {w : World} {B : Heap} {mg mb : Str → Option Value} {L : Addr}
theorem sha_is (b : Bs w.params B mg mb) : ∃ o fd, B.get? 61 = some o ∧ o.data = .func fd := by obtain ⟨o, h1, h2⟩ := sha_fn b; exact ⟨o, _, h1, h2⟩
theorem emp_is (b : Bs w.params B mg mb) : ∃ o fd, B.get? 66 = some o ∧ o.data = .func fd := by obtain ⟨o, h1, h2⟩ := emp_fn b; exact ⟨o, _, h1, h2⟩
theorem seg5 (b : Bs w.params B mg mb) (ok : (lawA L).Ok 9) (wd pl : List Nat) (n : Nat) (R T : Tab) (hn : n ≤ 7) (hw : wd.length = n) (hp : pl.length = n) (hwl : ∀ x ∈ wd, x < n) (hpl : ∀ x ∈ pl, x < n) (hsha : shadowsF isort n (ptsF 0 wd) = (R, T)) (hR : OkT R) (hT : OkT T) :
    Ex prog w B (lawA L) [("size", .int (n : Nat)), ("word", .lst (wd.map fun (i : Nat) => D.int i)), ("places", .lst (pl.map fun (i : Nat) => D.int i))] [] mid5 (fun fl σ' own' => fl = .next ∧ own' = [] ∧
      VS [("size", .int (n : Nat)), ("rows", eT2 R), ("turns", eT2 T), ("rows_out", eT2 (emptied R)), ("turns_out", eT2 (emptied T)), ("text", .byt (byteArr (textOf n wd pl)))] σ') := by
  have hsz : ∀ {m : Nat}, m < 2000 → m ≤ sizeLine := fun h => by unfold sizeLine; exact Om.le_c ‹_› rfl
  have hu : (lawA L).A.units + 200 < cLine := by have := ok.uni; exact Nat.le_add_left _ _
  have hpts : (ptsF 0 wd).length = n := by rw [ptsF_eq, List.length_map, List.length_range, hw]
  refine ex_assign (Ev.k (d := eP eT2 eT2 (R, T)) ((ev_call_f (b.evg ok) (sha_is b) (evAll_cons ((EvF.ev (Cp.evf (cp1 (List.range n) (fun (k : Nat) => D.int k) (fun x y h => by injection h with h; exact Int.ofNat_inj.mp ‹_›) (fun _ => true) (fun k => ePt ((k : Nat), (wd.getD k 0 : Nat))) [("word", .lst (wd.map fun (i : Nat) => D.int i))]
      (b.range1 ok (ev_cell ok rfl rfl rfl)) (it_range0 ok.hand (by omega)) (fun C => vis_cons rfl rfl rfl rfl vis_nil) ok (fun C okc k hk => ?c1) (hsz (by rw [List.length_range]; omega)) (fun _ => rfl) rfl))).to (ePL (ptsF 0 wd)) ?e1) evAll_nil fun _ => rfl) (op_sha (n := 7) b ok.a srtC isort_len (ptsF 0 wd) (by omega)) fun _ => ⟨rfl, _, _, rfl, rfl⟩).to _ (by rw [hpts, hsha])) ⟨_, tg_pair ok (tg_local ok rfl) (tg_local ok rfl) rfl, ?_⟩) rfl rfl rfl
  case c1 =>
    have hk : k < n := List.mem_range.mp hk
    exact ⟨_, tg_local okc rfl, ts_nil, fun _ => ev_tuple (evAll_cons (ev_local okc rfl rfl rfl) (evAll_cons (ev_sub (ev_cell okc rfl rfl rfl) (ev_local okc rfl rfl rfl) (op_item_lst _ _ (by exact Int.natCast_nonneg _) (by omega) (d := .int (wd.getD k 0 : Nat)) (by
      rw [Int.toNat_natCast, List.getElem?_map, List.getD_eq_getElem?_getD, List.getElem?_eq_getElem (by exact Nat.lt_of_lt_of_le ‹_› (Nat.le_of_eq (Eq.symm ‹_›)))]; rfl) fun _ _ => ⟨_, rfl⟩)) evAll_nil fun _ => rfl) fun _ => rfl) (hsz (m := 2) (by decide)), sub_cons rfl⟩
  case e1 =>
    rw [filt_true, ptsF_eq]
    unfold ePL eL
    rw [List.map_map, hw]
    congr 1
    refine List.map_congr_left fun k hk => ?_
    simp
  refine ex_swap2 ok (evK_tuple (evAllK_cons (Ev.k (ev_call_f (b.evg ok) (emp_is b) (evAll_cons (ev_local ok rfl rfl rfl) evAll_nil fun _ => rfl) (op_emp (n := 7) b ok.a R ?r1 ?r2 ?r3 ?r4) fun _ => ⟨rfl, _, _, rfl, rfl⟩) (evAllK_cons (Ev.k (ev_call_f (b.evg ok) (emp_is b) (evAll_cons (ev_local ok rfl rfl rfl) evAll_nil fun _ => rfl) (op_emp (n := 7) b ok.a T ?t1 ?t2 ?t3 ?t4) fun _ => ⟨rfl, _, _, rfl, rfl⟩) (evAllK_nil ⟨hsz (m := 2) (by decide), _, _, rfl, ?_⟩)) fun _ => rfl)) fun _ => rfl)) rfl rfl rfl rfl
  case r1 => exact hR.shape
  case r2 => exact hR.2.1
  case r3 => exact hR.2.2.1
  case r4 => exact hR.2.2.2.1
  case t1 => exact hT.shape
  case t2 => exact hT.2.1
  case t3 => exact hT.2.2.1
  case t4 => exact hT.2.2.2.1
  have ht4 : (textOf n wd pl).length = 4 * n := by
    unfold textOf castR
    simp [hw, hp]; omega
  refine ex_assign (Ev.k (d := .byt (byteArr (textOf n wd pl))) (ev_call_t (b.evb ok) (evAll_cons ((EvF.ev (Cp.evf (cp2 [wd, pl] (fun u : List Nat => D.lst (u.map fun (i : Nat) => D.int i)) ?inj (fun u => castR u ++ u.map fun (y : Nat) => (n : Int) - 1 - (y : Int)) D.int (fun x y h => by injection h) (fun _ x => .int x) [("size", .int (n : Nat))] (ev_tuple (evAll_cons (ev_cell ok rfl rfl rfl) (evAll_cons (ev_local ok rfl rfl rfl) evAll_nil fun _ => rfl) fun _ => rfl) (hsz (m := 2) (by decide))) (it_tup ok.hand _) (fun C => vis_cons rfl rfl rfl rfl vis_nil) ok (fun C okc u hu =>
    ⟨_, .lst ((castR u ++ u.map fun (y : Nat) => (n : Int) - 1 - (y : Int)).map D.int), tg_local okc rfl, (ev_binop (ev_local okc rfl rfl rfl) (EvF.ev (Cp.evf (cp1 u (fun (i : Nat) => D.int i) (fun x y h => by injection h with h; exact Int.ofNat_inj.mp ‹_›) (fun _ => true) (fun y => .int ((n : Int) - 1 - (y : Int))) [("size", .int (n : Nat))] (ev_local okc rfl rfl rfl) (it_lst okc.hand _) (fun C => vis_cons rfl rfl rfl rfl vis_nil) okc (fun C' okd y hy => ?c2) ?z1 (fun _ => rfl) rfl))) (op_add_lst _ _ ?z2)).to _ ?e2, it_lst okc.hand _, sub_cons rfl, fun x hx => ?c3⟩) ?z3 (fun _ => rfl) (fun _ _ => rfl) rfl))).to (.lst ((textOf n wd pl).map D.int)) ?e3) evAll_nil fun _ => rfl) (op_bytes ok.hand (textOf n wd pl) ?z4 (by omega)) fun _ => ⟨rfl, _, _, rfl, rfl⟩)
      ⟨_, tg_cell ok rfl rfl (mcL (x := "text") rfl), ex_nil ⟨rfl, rfl, vs_cons rfl (vs_cons rfl (vs_cons rfl (vs_cons rfl (vs_cons rfl (vs_cons rfl vs_nil)))))⟩⟩) rfl rfl rfl
  case inj =>
    intro x y h
    injection h with h
    exact map_inj (fun i j q => by injection q with q; exact Int.ofNat_inj.mp ‹_›) h
  case c2 => exact ⟨_, tg_local okd rfl, ts_nil, fun _ => ev_binop (ev_binop (ev_cell okd rfl rfl rfl) ev_int (op_sub_int _ _)) (ev_local okd rfl rfl rfl) (op_sub_int _ _), sub_cons rfl⟩
  case c3 => exact ⟨_, tg_local okc rfl, ev_local okc rfl rfl rfl, sub_cons rfl⟩
  case e2 => rw [filt_true, List.map_append, castR, List.map_map, List.map_map]; rfl
  case e3 => unfold textOf; rw [List.map_flatMap]
  case z1 =>
    have : u.length = n := by rcases List.mem_cons.mp hu with rfl | hu; exact hw; rw [List.mem_singleton.mp hu]; exact hp
    exact hsz (by omega)
  case z2 =>
    have : u.length = n := by rcases List.mem_cons.mp hu with rfl | hu; exact hw; rw [List.mem_singleton.mp hu]; exact hp
    rw [filt_true, List.length_map, List.length_map]
    exact hsz (by omega)
  case z3 =>
    simp only [List.map_cons, List.map_nil, castR, List.length_append, List.length_map, List.sum_cons, List.sum_nil, hw, hp]
    exact hsz (by omega)
  case z4 =>
    intro x hx
    unfold textOf castR at hx
    simp only [List.mem_flatMap, List.mem_append, List.mem_map] at hx
    obtain ⟨u, hu, hx⟩ := hx
    have hul : ∀ x ∈ u, x < n := by rcases List.mem_cons.mp hu with rfl | hu; exact hwl; rw [List.mem_singleton.mp hu]; exact hpl
    rcases hx with ⟨y, hy, rfl⟩ | ⟨y, hy, rfl⟩ <;> have := hul y hy <;> omega
end
end Mine
end
section
open PySem PySem.W PySem.W.X PyProof.Rows
set_option maxRecDepth 100000
set_option maxHeartbeats 4000000
set_option linter.unusedVariables false
namespace Mine
/-! law's statements 9 to 12 -/
noncomputable def end9 : List Stmt := (fB 15).drop 9
/-- the i-th word of a text -/
noncomputable def partW (n : Nat) (X : Array UInt8) (i : Nat) : Array UInt8 := KBy.picked X (some (0 + (i : Int) * (n : Int))) (some (0 + (i : Int) * (n : Int) + (n : Int)))
section
variable {prog : Program} {w : World} {B : Heap} {mg mb : Str → Option Value} {L : Addr}
theorem pic_is (b : Bs w.params B mg mb) : ∃ o fd, B.get? 76 = some o ∧ o.data = .func fd := by obtain ⟨o, h1, h2⟩ := pic_fn b; exact ⟨o, _, h1, h2⟩
theorem inj_mul {n : Nat} (h : 3 ≤ n) (i j : Nat) (e : D.int (0 + (i : Int) * (n : Int)) = D.int (0 + (j : Int) * (n : Int))) : i = j := by
  injection e with e
  have e : (i : Int) * (n : Int) = (j : Int) * (n : Int) := by omega
  have := Int.eq_of_mul_eq_mul_right (by omega) e
  exact Int.ofNat_inj.mp ‹_›
theorem rng4 {n : Nat} (h : 3 ≤ n ∧ n ≤ 7) : Builtin.Range.small 0 ((4 * n : Nat) : Int) (n : Int) = true ∧ Builtin.Range.rangeSize 0 ((4 * n : Nat) : Int) (n : Int) = ((4 : Nat) : Int) ∧ Builtin.divisionGoesByPylong (((4 * n : Nat) : Int) - 0) (n : Int) = false := by
  have : n = 3 ∨ n = 4 ∨ n = 5 ∨ n = 6 ∨ n = 7 := by omega
  rcases this with rfl | rfl | rfl | rfl | rfl <;> refine ⟨by decide +kernel, by decide +kernel, by decide +kernel⟩
theorem seg9 (b : Bs w.params B mg mb) (ok : (lawA L).Ok 9) (n : Nat) (X Y : Array UInt8) (R T Ro To : Tab) (hn : 3 ≤ n ∧ n ≤ 7) (hX : X.size = 4 * n) (hY : Y.size = 4 * n) (hR : TabOk R) (hT : TabOk T) (hRo : TabOk Ro) (hTo : TabOk To)
    (h8 : ∀ i, i < 4 → (partW n X i).size ≤ 8 ∧ (partW n Y i).size ≤ 8)
    (h1 : pics [partW n X 0, partW n Y 0, partW n X 1, partW n Y 1] R T Ro To = true) (h2 : pics [partW n X 2, partW n Y 2, partW n X 3, partW n Y 3] T R To Ro = true) :
    Ex prog w B (lawA L) [("size", .int (n : Nat)), ("rows", eT2 R), ("turns", eT2 T), ("rows_out", eT2 Ro), ("turns_out", eT2 To), ("text", .byt X), ("back", .byt Y)] [] end9 (fun fl σ' own' => fl = .ret (dBool true)) := by
  have hsz : ∀ {m : Nat}, m < 2000 → m ≤ sizeLine := fun h => by unfold sizeLine; exact Om.le_c ‹_› rfl
  have hu : (lawA L).A.units + 200 < cLine := by have := ok.uni; exact Nat.le_add_left _ _
  obtain ⟨q1, q2, q3⟩ := rng4 hn
  refine ex_if (b := !true || !decide ((4 * n : Nat) = ((4 * n : Nat) : Int))) (tr_or (tr_not (tr_value (ev_call_b (b.evb ok) (evAll_cons (ev_cell ok rfl rfl rfl) (evAll_cons (b.evb ok) evAll_nil fun _ => rfl) fun _ => rfl) (op_isi_byt Y) fun _ => ⟨rfl, _, _, rfl, rfl⟩) fun _ => rfl)) fun _ => (tr_compare (ev_call_b (b.evb ok) (evAll_cons (ev_cell ok rfl rfl rfl) evAll_nil fun _ => rfl) (op_len_byt Y (by omega)) fun _ => ⟨rfl, _, _, rfl, rfl⟩) (ev_call_b (b.evb ok) (evAll_cons (ev_cell ok rfl rfl rfl) evAll_nil fun _ => rfl) (op_len_byt X (by omega)) fun _ => ⟨rfl, _, _, rfl, rfl⟩) (op_ne (encInt 0) _ _ (by exact Nat.le_add_left _ _) (by decide)) rfl).to ?b1) (fun h => ?f1) fun _ => ex_nil ?_
  case b1 => rw [hX, hY]
  case f1 => simp at h
  refine ex_assign_comp ok ((cp2 (List.range 4) (fun (i : Nat) => D.int (0 + (i : Int) * (n : Int))) ?inj (fun _ => [X, Y]) D.byt (fun x y h => by injection h) (fun i W => .byt (partW n W i)) [("size", .int (n : Nat)), ("text", .byt X), ("back", .byt Y)]
    (ev_call_t (b.evb ok) (evAll_cons ev_int (evAll_cons ((ev_call_b (b.evb ok) (evAll_cons (ev_cell ok rfl rfl rfl) evAll_nil fun _ => rfl) (op_len_byt X (by omega)) fun _ => ⟨rfl, _, _, rfl, rfl⟩).to (.int ((4 * n : Nat) : Int)) (by rw [hX])) (evAll_cons (ev_cell ok rfl rfl rfl) evAll_nil fun _ => rfl) fun _ => rfl) fun _ => rfl) (op_range3 0 ((4 * n : Nat) : Int) (n : Int) (by omega) q3) fun _ => ⟨rfl, _, _, rfl, rfl⟩) (it_rng ok.hand q1 q2) (fun C => vis_cons rfl rfl rfl rfl (vis_cons rfl rfl rfl rfl (vis_cons rfl rfl rfl rfl vis_nil))) ok (fun C okc i hi =>
      ⟨_, .tup [.byt X, .byt Y], tg_local okc rfl, ev_tuple (evAll_cons (ev_cell okc rfl rfl rfl) (evAll_cons (ev_cell okc rfl rfl rfl) evAll_nil fun _ => rfl) fun _ => rfl) (hsz (m := 2) (by decide)), it_tup okc.hand _, sub_cons rfl, fun W hW => ?c1⟩) ?z1 (fun _ => rfl) (fun _ _ => rfl) rfl)) rfl rfl ?_
  case inj => exact inj_mul hn.1
  case c1 =>
    have hWs : W.size ≤ 1000000 := by
      rcases List.mem_cons.mp hW with rfl | hW
      · omega
      · rw [List.mem_singleton.mp hW]; omega
    exact ⟨_, tg_local okc rfl, ev_bslice (ev_local okc rfl rfl rfl) (pt_some (ev_local okc rfl rfl rfl)) (pt_some (ev_binop (ev_local okc rfl rfl rfl) (ev_cell okc rfl rfl rfl) (op_add_int _ _))) hWs fun _ _ => ⟨_, rfl⟩, sub_cons rfl⟩
  case z1 => exact hsz (show 8 < 2000 by decide)
  have p1 : ∀ W ∈ [partW n X 0, partW n Y 0, partW n X 1, partW n Y 1], W.size ≤ 8 := by
    intro W hW
    simp only [List.mem_cons, List.not_mem_nil, or_false] at hW
    rcases hW with rfl | rfl | rfl | rfl
    · exact (h8 0 (by decide)).1
    · exact (h8 0 (by decide)).2
    · exact (h8 1 (by decide)).1
    · exact (h8 1 (by decide)).2
  have p2 : ∀ W ∈ [partW n X 2, partW n Y 2, partW n X 3, partW n Y 3], W.size ≤ 8 := by
    intro W hW
    simp only [List.mem_cons, List.not_mem_nil, or_false] at hW
    rcases hW with rfl | rfl | rfl | rfl
    · exact (h8 2 (by decide)).1
    · exact (h8 2 (by decide)).2
    · exact (h8 3 (by decide)).1
    · exact (h8 3 (by decide)).2
  refine VS.ex (τ := [("words", .lst ([partW n X 0, partW n Y 0, partW n X 1, partW n Y 1, partW n X 2, partW n Y 2, partW n X 3, partW n Y 3].map D.byt)), ("rows", eT2 R), ("turns", eT2 T), ("rows_out", eT2 Ro), ("turns_out", eT2 To)]) (vs_cons rfl (vs_cons rfl (vs_cons rfl (vs_cons rfl (vs_cons rfl vs_nil))))) ?_
  refine ex_if (b := !true) ((tr_not (tr_value ((ev_call_f (b.evg ok) (pic_is b) (evAll_cons (EvF.ev ((evf_slice (ev_local ok rfl rfl rfl) pt_none (pt_some ev_int) pt_none (by decide) ?l1 fun _ _ => ⟨_, rfl⟩).to (ds' := [partW n X 0, partW n Y 0, partW n X 1, partW n Y 1].map D.byt) (by rw [show (4 : Int) = ((4 : Nat) : Int) from rfl, pickL_upto]; rfl)))
    (evAll_cons (ev_local ok rfl rfl rfl) (evAll_cons (ev_local ok rfl rfl rfl) (evAll_cons (ev_local ok rfl rfl rfl) (evAll_cons (ev_local ok rfl rfl rfl) evAll_nil fun _ => rfl) fun _ => rfl) fun _ => rfl) fun _ => rfl) fun _ => rfl) (op_pic (n := 5) b ok.a (op_sld b) _ p1 (show 4 < 100 by decide) R T Ro To hR hT hRo hTo) fun _ => ⟨rfl, _, _, rfl, rfl⟩).to (dBool true) (by rw [h1])) fun _ => rfl))) (fun h => nomatch h) fun _ => ex_nil ?_
  case l1 => exact hsz (show 8 < 2000 by decide)
  refine ex_return (Ev.k (d := dBool true) ((ev_call_f (b.evg ok) (pic_is b) (evAll_cons (EvF.ev ((evf_slice (ev_local ok rfl rfl rfl) (pt_some ev_int) pt_none pt_none (by decide) ?l2 fun _ _ => ⟨_, rfl⟩).to (ds' := [partW n X 2, partW n Y 2, partW n X 3, partW n Y 3].map D.byt) (by rw [show (4 : Int) = ((4 : Nat) : Int) from rfl, pickL_from]; rfl)))
    (evAll_cons (ev_local ok rfl rfl rfl) (evAll_cons (ev_local ok rfl rfl rfl) (evAll_cons (ev_local ok rfl rfl rfl) (evAll_cons (ev_local ok rfl rfl rfl) evAll_nil fun _ => rfl) fun _ => rfl) fun _ => rfl) fun _ => rfl) fun _ => rfl) (op_pic (n := 5) b ok.a (op_sld b) _ p2 (show 4 < 100 by decide) T R To Ro hT hR hTo hRo) fun _ => ⟨rfl, _, _, rfl, rfl⟩).to (dBool true) (by rw [h2])) rfl)
  case l2 => exact hsz (show 8 < 2000 by decide)
end
end Mine
end
section
open PySem PySem.W PySem.W.X PyProof.Rows
set_option maxRecDepth 100000
set_option maxHeartbeats 4000000
set_option linter.unusedVariables false
namespace Mine
/-! the two words are inverse; the words of the two texts -/
section
variable {nums : List Int}
theorem lexI_ahead (a b : Int) (j k : Nat) : lexI [a, (j : Int)] [b, (k : Int)] = decide (a < b ∨ a = b ∧ j < k) := by
  unfold lexI
  by_cases h : a = b
  · subst h
    rw [if_pos rfl]
    unfold lexI
    by_cases h' : (j : Int) = k
    · rw [if_pos h']
      have : j = k := by exact Int.ofNat_inj.mp ‹_›
      subst this
      simp [lexI]
    · rw [if_neg h']
      simp
  · rw [if_neg h]; simp [h]
theorem filter_pos {v : List Nat} {p : Nat → Bool} {i : Nat} (hi : i ≤ v.length) (h : ∀ m, m < v.length → p (v.getD m 0) = decide (m < i)) : (v.filter p).length = i := by
  have e : v = v.take i ++ v.drop i := (List.take_append_drop i v).symm
  have h1 : (v.take i).filter p = v.take i := List.filter_eq_self.mpr fun x hx => by
    obtain ⟨m, hm, rfl⟩ := List.getElem_of_mem hx
    rw [List.length_take] at hm
    have := h m (by omega)
    rw [List.getD_eq_getElem?_getD, List.getElem?_eq_getElem (by omega)] at this
    rw [List.getElem_take]
    simpa [show m < i by omega] using this
  have h2 : (v.drop i).filter p = [] := List.filter_eq_nil_iff.mpr fun x hx => by
    obtain ⟨m, hm, rfl⟩ := List.getElem_of_mem hx
    rw [List.length_drop] at hm
    have := h (i + m) (by omega)
    rw [List.getD_eq_getElem?_getD, List.getElem?_eq_getElem (by omega)] at this
    rw [List.getElem_drop]
    rw [show decide (i + m < i) = false from decide_eq_false (by omega)] at this
    simpa using this
  rw [e, List.filter_append, h1, h2, List.append_nil, List.length_take]
  omega
theorem rank_at {p : Array Nat} (hp : PO nums.length p) (hs : Srt (fun i => nums.getD i 0) p nums.length) {i : Nat} (hi : i < nums.length) : rankOf nums (p.toList.getD i 0) = i := by
  have hl : p.toList.length = nums.length := by rw [Array.length_toList, hp.size]
  unfold rankOf
  rw [← (hp.perm.filter _).length_eq]
  refine filter_pos (by omega) fun m hm => ?_
  rw [lexI_ahead]
  have at_eq : ∀ j, j < nums.length → p.toList.getD j 0 = at_ p j := fun j hj => by
    unfold at_
    simp [Array.getD, hp.size, hj, List.getD_eq_getElem?_getD]
  rw [at_eq m (by exact Nat.lt_of_lt_of_le ‹_› (Nat.le_of_eq ‹_›)), at_eq i hi]
  rw [decide_eq_decide]
  constructor
  · intro h
    refine Nat.lt_of_not_le fun hle => ?_
    rcases Nat.lt_or_eq_of_le hle with h' | h'
    · have := hs i m h' (by exact Nat.lt_of_lt_of_le ‹_› (Nat.le_of_eq ‹_›))
      dsimp only [ahead] at this
      omega
    · subst h'; omega
  · intro h
    have := hs m i h hi
    dsimp only [ahead] at this
    assumption
theorem pair_of {p : Array Nat} (hp : PO nums.length p) (hs : Srt (fun i => nums.getD i 0) p nums.length) : Pair nums.length (wordOf nums) p.toList := by
  have hl : p.toList.length = nums.length := by rw [Array.length_toList, hp.size]
  have wAt : ∀ k, k < nums.length → (wordOf nums).getD k 0 = rankOf nums k := fun k hk => by
    unfold wordOf
    rw [List.getD_eq_getElem?_getD, List.getElem?_map, List.getElem?_range hk]; rfl
  have vlt : ∀ i, i < nums.length → p.toList.getD i 0 < nums.length := fun i hi => perm_lt hp.perm hi
  have wv : ∀ i, i < nums.length → (wordOf nums).getD (p.toList.getD i 0) 0 = i := fun i hi => by rw [wAt _ (vlt i hi), rank_at hp hs hi]
  refine ⟨?_, hp.perm, wv, fun i hi => ?_⟩
  · have h1 : (wordOf nums).Perm (p.toList.map (rankOf nums)) := (hp.perm.map (rankOf nums)).symm
    have h2 : p.toList.map (rankOf nums) = List.range nums.length := by
      apply List.ext_getElem
      · rw [List.length_map, List.length_range, hl]
      · intro i h1 h2
        rw [List.length_range] at h2
        rw [List.getElem_map, List.getElem_range]
        have := rank_at hp hs h2
        rw [List.getD_eq_getElem?_getD, List.getElem?_eq_getElem (by exact Nat.lt_of_lt_of_le ‹_› (Nat.le_of_eq (Eq.symm ‹_›)))] at this
        exact this
    rw [h2] at h1
    exact h1
  · have hm : i ∈ p.toList := hp.perm.mem_iff.mpr (List.mem_range.mpr hi)
    obtain ⟨m, hm, e⟩ := List.getElem_of_mem hm
    have e' : p.toList.getD m 0 = i := by rw [List.getD_eq_getElem?_getD, List.getElem?_eq_getElem hm]; exact e
    have := wv m (by exact Nat.lt_of_lt_of_le ‹_› (Nat.le_of_eq ‹_›))
    rw [e'] at this
    rw [this, e']
end
end Mine
end
section
open PySem PySem.W PySem.W.X PyProof.Rows
set_option maxRecDepth 100000
set_option maxHeartbeats 4000000
set_option linter.unusedVariables false
namespace Mine
/-! the words of the two texts -/
noncomputable def octF (ks : List Int) (k : Nat) : UInt8 := (ks.getD k 0).toNat.toUInt8
noncomputable def wrd (n : Nat) (ks : List Int) (i : Nat) : List Int := (ks.drop (i * n)).take n
theorem oct_nat {x : Int} (h : 0 ≤ x ∧ x < 256) : ((x.toNat.toUInt8.toNat : Nat) : Int) = x := by
  have : x.toNat < 256 := by omega
  rw [Nat.toUInt8_eq, UInt8.toNat_ofNat']; omega
theorem ints_byteArr {ks : List Int} (h : ∀ x ∈ ks, 0 ≤ x ∧ x < 256) : KBw.bInts (byteArr ks) = ks := by
  unfold KBw.bInts byteArr
  rw [List.map_map]
  conv => rhs; rw [← List.map_id ks]
  exact List.map_congr_left fun x hx => oct_nat (h x hx)
theorem byteArr_bArr {n : Nat} {ks : List Int} (hl : ks.length = 4 * n) : byteArr ks = bArr n (octF ks) := by
  unfold byteArr bArr
  congr 1
  apply List.ext_getElem
  · simp [hl]
  · intro i h1 h2
    rw [List.length_map] at h1
    simp [octF, List.getD_eq_getElem?_getD, h1]
theorem part_wrd {n : Nat} {X : Array UInt8} {ks : List Int} (hk : KBw.bInts X = ks) (hl : ks.length = 4 * n) {i : Nat} (hi : i < 4) : KBw.bInts (partW n X i) = wrd n ks i := by
  unfold partW
  rw [KBc.ints_picked hk]
  have e1 : (0 + (i : Int) * (n : Int)) = ((i * n : Nat) : Int) := by push_cast; omega
  have e2 : (0 + (i : Int) * (n : Int) + (n : Int)) = ((i * n + n : Nat) : Int) := by push_cast; omega
  rw [e2, e1]
  show (ks.drop (clipAt ks.length ((i * n : Nat) : Int))).take (clipAt ks.length ((i * n + n : Nat) : Int) - clipAt ks.length ((i * n : Nat) : Int)) = _
  have : i * n + n ≤ 4 * n := by
    have : (i + 1) * n ≤ 4 * n := Nat.mul_le_mul_right n (by assumption)
    rw [Nat.add_mul] at this; omega
  rw [clipAt_nat, clipAt_nat, Nat.min_eq_left (by exact Nat.le_trans ‹_› (Nat.le_of_eq (Eq.symm ‹_›))), Nat.min_eq_left (by omega)]
  unfold wrd
  congr 1
  exact Nat.add_sub_cancel_left _ _
theorem wrd_len {n : Nat} {ks : List Int} (hl : ks.length = 4 * n) {i : Nat} (hi : i < 4) : (wrd n ks i).length = n := by
  unfold wrd
  rw [List.length_take, List.length_drop, hl]
  have : (i + 1) * n ≤ 4 * n := Nat.mul_le_mul_right n (by assumption)
  rw [Nat.add_mul] at this; omega
noncomputable def turned (n : Nat) (ks : List Int) : List Int := (List.range (4 * n)).map fun k => ks.getD (k / n * n + (n - 1 - k % n)) 0
theorem ints_bOut {n : Nat} {ks : List Int} (h : ∀ x ∈ ks, 0 ≤ x ∧ x < 256) : KBw.bInts (bOut n (octF ks)) = turned n ks := by
  unfold KBw.bInts bOut turned
  rw [List.map_map]
  refine List.map_congr_left fun k hk => ?_
  show (((ks.getD (k / n * n + (n - 1 - k % n)) 0).toNat.toUInt8.toNat : Nat) : Int) = _
  refine oct_nat ?_
  rw [List.getD_eq_getElem?_getD]
  cases q : ks[k / n * n + (n - 1 - k % n)]? with
  | none => decide
  | some x => exact h x (List.mem_of_getElem? q)
theorem ext_getD {l l' : List Int} (hl : l.length = l'.length) (h : ∀ j, j < l.length → l.getD j 0 = l'.getD j 0) : l = l' := by
  apply List.ext_getElem hl
  intro j h1 h2
  have := h j h1
  rw [List.getD_eq_getElem?_getD, List.getD_eq_getElem?_getD, List.getElem?_eq_getElem h1, List.getElem?_eq_getElem h2] at this
  exact this
theorem wrd_getD {n : Nat} {ks : List Int} {i j : Nat} (h : j < n) : (wrd n ks i).getD j 0 = ks.getD (i * n + j) 0 := by
  unfold wrd
  rw [List.getD_eq_getElem?_getD, List.getD_eq_getElem?_getD, List.getElem?_take_of_lt h, List.getElem?_drop]
theorem turned_wrd {n : Nat} {ks : List Int} (h0 : 0 < n) (hl : ks.length = 4 * n) {i : Nat} (hi : i < 4) : wrd n (turned n ks) i = (wrd n ks i).reverse := by
  have hb : i * n + n ≤ 4 * n := by
    have : (i + 1) * n ≤ 4 * n := Nat.mul_le_mul_right n (by assumption)
    rw [Nat.add_mul] at this; omega
  have ht : (turned n ks).length = 4 * n := by simp [turned]
  have hw := wrd_len hl hi
  apply ext_getD
  · rw [List.length_reverse, hw, wrd_len ht hi]
  · intro j h1
    rw [wrd_len ht hi] at h1
    rw [wrd_getD h1]
    have e1 : (i * n + j) / n = i := by
      rw [Nat.mul_comm, Nat.mul_add_div h0, Nat.div_eq_of_lt h1]; rfl
    have e2 : (i * n + j) % n = j := by
      rw [Nat.mul_comm, Nat.mul_add_mod, Nat.mod_eq_of_lt h1]
    have e3 : (turned n ks).getD (i * n + j) 0 = ks.getD (i * n + (n - 1 - j)) 0 := by
      unfold turned
      rw [List.getD_eq_getElem?_getD, List.getElem?_map, List.getElem?_range (by omega)]
      show ks.getD ((i * n + j) / n * n + (n - 1 - (i * n + j) % n)) 0 = _
      rw [e1, e2]
    rw [e3, ← wrd_getD (show n - 1 - j < n by omega)]
    rw [List.getD_eq_getElem?_getD, List.getD_eq_getElem?_getD, List.getElem?_reverse (by rw [hw]; exact h1), hw]
theorem text_wrds {n : Nat} {w v : List Nat} (hw : w.length = n) (hv : v.length = n) (hwl : ∀ x ∈ w, x < n) (hvl : ∀ x ∈ v, x < n) (h0 : 0 < n) : (textOf n w v).length = 4 * n ∧ (∀ x ∈ textOf n w v, 0 ≤ x ∧ x < (n : Int)) ∧
    wrd n (textOf n w v) 0 = castR w ∧ wrd n (textOf n w v) 1 = castR (comp (n - 1) w) ∧ wrd n (textOf n w v) 2 = castR v ∧ wrd n (textOf n w v) 3 = castR (comp (n - 1) v) := by
  have hc : ∀ u : List Nat, (∀ x ∈ u, x < n) → (u.map fun (y : Nat) => (n : Int) - 1 - (y : Int)) = castR (comp (n - 1) u) := fun u hu => by
    unfold castR comp
    rw [List.map_map]
    refine List.map_congr_left fun y hy => ?_
    have := hu y hy
    show (n : Int) - 1 - (y : Int) = ((n - 1 - y : Nat) : Int)
    omega
  have e : textOf n w v = castR w ++ (castR (comp (n - 1) w) ++ (castR v ++ castR (comp (n - 1) v))) := by
    unfold textOf
    rw [List.flatMap_cons, List.flatMap_cons, List.flatMap_nil, hc w hwl, hc v hvl, List.append_nil, List.append_assoc]
  have l1 : (castR w).length = n := by unfold castR; rw [List.length_map, hw]
  have l2 : (castR (comp (n - 1) w)).length = n := by unfold castR comp; rw [List.length_map, List.length_map, hw]
  have l3 : (castR v).length = n := by unfold castR; rw [List.length_map, hv]
  have l4 : (castR (comp (n - 1) v)).length = n := by unfold castR comp; rw [List.length_map, List.length_map, hv]
  refine ⟨by rw [e]; simp only [List.length_append, l1, l2, l3, l4]; omega, fun x hx => ?_, ?_, ?_, ?_, ?_⟩
  · rw [e] at hx
    have c1 : ∀ u : List Nat, (∀ y ∈ u, y < n) → ∀ x ∈ castR u, 0 ≤ x ∧ x < (n : Int) := fun u hu x hx => by
      obtain ⟨y, hy, rfl⟩ := List.mem_map.mp hx
      have := hu y hy
      omega
    have c2 : ∀ u : List Nat, ∀ y ∈ comp (n - 1) u, y < n := fun u y hy => by
      obtain ⟨z, hz, rfl⟩ := List.mem_map.mp hy
      omega
    rcases List.mem_append.mp hx with hx | hx
    · exact c1 _ hwl _ hx
    · rcases List.mem_append.mp hx with hx | hx
      · exact c1 _ (c2 w) _ hx
      · rcases List.mem_append.mp hx with hx | hx
        · exact c1 _ hvl _ hx
        · exact c1 _ (c2 v) _ hx
  · unfold wrd
    rw [e, Nat.zero_mul, List.drop_zero, List.take_left' l1]
  · unfold wrd
    rw [e, Nat.one_mul, List.drop_append_of_le_length (by exact Nat.le_of_eq (Eq.symm ‹_›)), List.drop_eq_nil_of_le (by exact Nat.le_of_eq ‹_›), List.nil_append]
    rw [List.take_left' l2]
  · unfold wrd
    rw [e, ← List.append_assoc, List.drop_append_of_le_length (by rw [List.length_append]; omega), List.drop_eq_nil_of_le (by rw [List.length_append]; omega), List.nil_append]
    rw [List.take_left' l3]
  · unfold wrd
    rw [e, ← List.append_assoc, ← List.append_assoc, List.drop_append_of_le_length (by simp only [List.length_append]; omega), List.drop_eq_nil_of_le (by simp only [List.length_append]; omega), List.nil_append]
    rw [List.take_of_length_le (by exact Nat.le_of_eq ‹_›)]
end Mine
end
section
open PySem PySem.W PySem.W.X PyProof.Rows
set_option maxRecDepth 1000000
set_option maxHeartbeats 4000000
set_option linter.unusedVariables false
namespace Mine
/-! law's body at its one context -/
section
variable {M : Model} {Γ : Ctx} {E : Value → Shared → Prop} {s : Shared} {env : Env}
theorem wpOne_cons {st : Stmt} {rest : List Stmt} {Q : Flow → Shared → Prop} (h : wpOne M Γ (exec st env) (fun f s' => match f with | .next => wpOne M Γ (execs rest env) Q E s' | f => Q f s') E s) : wpOne M Γ (execs (st :: rest) env) Q E s := fun p => by
  rw [execs_cons, Sem.wp_bind']
  refine Sem.wp_mono M Γ _ (fun f p' s' h' => ?_) (fun _ _ _ h' => h') _ _ (h p)
  cases f <;> first | exact h' p' | exact h'
theorem wp_append {rest : List Stmt} {Q : Flow → Pos → Shared → Prop} {E : Value → Pos → Shared → Prop} : ∀ {pre : List Stmt} {p : Pos} {s : Shared}, Sem.wp M Γ (execs pre env) (fun f p s' => match f with | .next => Sem.wp M Γ (execs rest env) Q E p s' | f => Q f p s') E p s → Sem.wp M Γ (execs (pre ++ rest) env) Q E p s
  | [], p, s, h => h
  | st :: pre, p, s, h => by
    rw [List.cons_append, execs_cons, Sem.wp_bind']
    rw [execs_cons, Sem.wp_bind'] at h
    refine Sem.wp_mono M Γ _ (fun f p' s' h' => ?_) (fun _ _ _ h' => h') _ _ h
    cases f with
    | next => exact wp_append h'
    | _ => exact h'
theorem wpOne_append {rest pre : List Stmt} {Q : Flow → Shared → Prop} (h : wpOne M Γ (execs pre env) (fun f s' => match f with | .next => wpOne M Γ (execs rest env) Q E s' | f => Q f s') E s) : wpOne M Γ (execs (pre ++ rest) env) Q E s := fun p => by
  refine wp_append (Sem.wp_mono M Γ _ (fun f p' s' h' => ?_) (fun _ _ _ h' => h') _ _ (h p))
  cases f <;> first | exact h' p' | exact h'
end
section
variable {w : World} {B : Heap} {mg mb : Str → Option Value} {L : Addr} {p0 : Pos}
theorem tab_keep {a : Act} {σ : Vars} {g h g' h' : Heap} {b : Addr} {o : Obj} {vs : Array Value} (S : Sv B a σ [] g h) (G : GrowX (Mu a []) a.fr g h g' h') (e : h.get? b = some o) (hd : o.data = .fields vs) (hg : g.get? b = none) : h'.get? b = some o ∧ g'.get? b = none := by
  have nX : ¬ Mu a [] b := by
    rintro ((rfl | hm) | ⟨p, hp, _⟩)
    · obtain ⟨m, ⟨o', es, ep, e', hd', _⟩, _⟩ := S.ns
      rw [e] at e'; cases e'
      rw [hd] at hd'; cases hd'
    · obtain ⟨p, hp, rfl⟩ := S.mcs b hm
      obtain ⟨⟨v, o', e', hd'⟩, _⟩ := S.cells p hp
      rw [e] at e'; cases e'
      rw [hd] at hd'; cases hd'
    · exact nomatch hp
  have nf : b ∉ a.fr := fun hf => by
    obtain ⟨_, o', e', hd'⟩ := S.ff.mem hf
    rw [e] at e'; cases e'
    exact hd' _ hd
  refine ⟨?_, G.none (by rw [e]; exact fun z => nomatch z) hg nX⟩
  obtain ⟨sl, h1, h2⟩ := G.ext b o e nX
  rw [h2 nf] at h1
  exact h1
theorem nd_nil : OwnNd [] := List.nodup_nil
theorem law_body (b : Bs w.params B mg mb) (hΓ : (lawΓ (fB 15) (lawE L) p0).In (lawA L).A) (ok : (lawA L).Ok 9) {script : List Int} (hsc : script.length ≤ 1000) {s : Shared} {g : Heap} {Q : Flow → Shared → Prop} {E : Value → Shared → Prop} (S : Sv B (lawA L) [("script", .lst (script.map .int))] [] g s.heap)
    (h23 : s.heap.get? 23 = some { cls := .none, data := .fields #[] }) (h78 : s.heap.get? 78 = some { cls := .none, data := .fields #[] }) (g23 : g.get? 23 = none) (g78 : g.get? 78 = none) (k : ∀ s', Same s s' → Rl (lawA L) s.heap s'.heap → Q (.ret (.bool true)) s') :
    wpOne (model PySem.Challenge.rw_oy0040_01.prog w) (lawΓ (fB 15) (lawE L) p0) (execs (fB 15) (lawE L)) Q E s := by
  have hn := nums_len script
  show wpOne _ _ (execs (pre0 ++ (st4 :: (mid5 ++ (st8 :: end9)))) (lawE L)) Q E s
  refine wpOne_append (wpOne_of_any hΓ (seg1 (prog := PySem.Challenge.rw_oy0040_01.prog) (w := w) b ok script hsc s g _ _ S nd_nil fun f fl σ₁ own₁ s₁ g₁ hΦ r S₁ nd₁ on₁ G₁ Sm₁ => ?_))
  obtain ⟨rfl, rfl, V₁⟩ := hΦ
  have r : f = .next := r
  subst r
  generalize numsOf script = nums at hn V₁
  obtain ⟨t23, u23⟩ := tab_keep S G₁ h23 rfl g23
  obtain ⟨t78, u78⟩ := tab_keep S G₁ h78 rfl g78
  refine wpOne_cons (places_one (n := nums.length) (nums := nums) b hΓ ok S₁ (V₁ _ (.head _)) (V₁ _ (.tail _ (.head _))) rfl (by omega) t23 t78 u23 u78 fun s₂ g₂ p S₂ Sm₂ R₂ hp hs => ?_)
  have hP := pair_of hp hs
  have hwl : (wordOf nums).length = nums.length := perm_len hP.wp
  have hvl : p.toList.length = nums.length := perm_len hP.vp
  have hw : ∀ x ∈ wordOf nums, x < nums.length := fun x hx => List.mem_range.mp (hP.wp.mem_iff.mp hx)
  have hv : ∀ x ∈ p.toList, x < nums.length := fun x hx => List.mem_range.mp (hP.vp.mem_iff.mp hx)
  obtain ⟨⟨okT, okTo⟩, pic1⟩ := pics_of hP hn.1 hn.2
  obtain ⟨⟨okR, okRo⟩, pic2⟩ := pics_of hP.symm hn.1 hn.2
  have hsha := sha_of hP hn.2
  obtain ⟨tl, tr, w0, w1, w2, w3⟩ := text_wrds hwl hvl hw hv (show 0 < nums.length by omega)
  have V₂ : VS [("size", .int (nums.length : Nat)), ("word", .lst ((wordOf nums).map fun (i : Nat) => D.int i)), ("places", .lst (p.toList.map fun (i : Nat) => D.int i))] (("places", .lst (p.toList.map fun (i : Nat) => D.int i)) :: σ₁) := by
    refine vs_cons ?_ (vs_cons ?_ (vs_cons lookup_cons_self vs_nil))
    · rw [lookup_cons_ne (by decide)]; exact V₁ _ (.tail _ (.head _))
    · rw [lookup_cons_ne (by decide)]; exact V₁ _ (.tail _ (.tail _ (.head _)))
  refine wpOne_append (wpOne_of_any hΓ ((VS.ex V₂ (seg5 (prog := PySem.Challenge.rw_oy0040_01.prog) (w := w) b ok (wordOf nums) p.toList nums.length _ _ hn.2 hwl hvl hw hv hsha okR okT)) s₂ g₂ _ _ S₂ nd_nil fun f fl σ₃ own₃ s₃ g₃ hΦ r S₃ nd₃ on₃ G₃ Sm₃ => ?_))
  obtain ⟨rfl, rfl, V₃⟩ := hΦ
  have r : f = .next := r
  subst r
  have hb : byteArr (textOf nums.length (wordOf nums) p.toList) = bArr nums.length (octF (textOf nums.length (wordOf nums) p.toList)) := byteArr_bArr tl
  have lo : ∀ x ∈ textOf nums.length (wordOf nums) p.toList, 0 ≤ x ∧ x < 256 := fun x hx => by have := tr x hx; omega
  have V3 := V₃ ("text", .byt (byteArr (textOf nums.length (wordOf nums) p.toList))) (by simp)
  rw [hb] at V3
  refine wpOne_cons (back_one (n := nums.length) (f := octF (textOf nums.length (wordOf nums) p.toList)) b hΓ ok S₃ V3 (V₃ _ (.head _)) hn fun s₄ g₄ S₄ Sm₄ K₄ => ?_)
  have V₄ : VS [("size", .int (nums.length : Nat)), ("rows", eT2 (Tb nums.length (qc p.toList))), ("turns", eT2 (Tb nums.length (qc (wordOf nums)))), ("rows_out", eT2 (emptied (Tb nums.length (qc p.toList)))), ("turns_out", eT2 (emptied (Tb nums.length (qc (wordOf nums))))), ("text", .byt (byteArr (textOf nums.length (wordOf nums) p.toList))), ("back", .byt (bOut nums.length (octF (textOf nums.length (wordOf nums) p.toList))))]
      (("back", .byt (bOut nums.length (octF (textOf nums.length (wordOf nums) p.toList)))) :: σ₃) := by
    refine vs_cons ?_ (vs_cons ?_ (vs_cons ?_ (vs_cons ?_ (vs_cons ?_ (vs_cons ?_ (vs_cons lookup_cons_self vs_nil))))))
    · rw [lookup_cons_ne (by decide)]; exact V₃ _ (.head _)
    · rw [lookup_cons_ne (by decide)]; exact V₃ _ (.tail _ (.head _))
    · rw [lookup_cons_ne (by decide)]; exact V₃ _ (.tail _ (.tail _ (.head _)))
    · rw [lookup_cons_ne (by decide)]; exact V₃ _ (.tail _ (.tail _ (.tail _ (.head _))))
    · rw [lookup_cons_ne (by decide)]; exact V₃ _ (.tail _ (.tail _ (.tail _ (.tail _ (.head _)))))
    · rw [lookup_cons_ne (by decide)]; exact V₃ _ (.tail _ (.tail _ (.tail _ (.tail _ (.tail _ (.head _))))))
  have bx : KBw.bInts (byteArr (textOf nums.length (wordOf nums) p.toList)) = textOf nums.length (wordOf nums) p.toList := ints_byteArr lo
  have by_ : KBw.bInts (bOut nums.length (octF (textOf nums.length (wordOf nums) p.toList))) = turned nums.length (textOf nums.length (wordOf nums) p.toList) := ints_bOut lo
  have ty : (turned nums.length (textOf nums.length (wordOf nums) p.toList)).length = 4 * nums.length := by simp [turned]
  have px : ∀ i, i < 4 → KBw.bInts (partW nums.length (byteArr (textOf nums.length (wordOf nums) p.toList)) i) = wrd nums.length (textOf nums.length (wordOf nums) p.toList) i := fun i hi => part_wrd bx tl hi
  have py : ∀ i, i < 4 → KBw.bInts (partW nums.length (bOut nums.length (octF (textOf nums.length (wordOf nums) p.toList))) i) = (wrd nums.length (textOf nums.length (wordOf nums) p.toList) i).reverse := fun i hi => by
    rw [part_wrd by_ ty hi, turned_wrd (by omega) tl hi]
  have rev : ∀ u : List Nat, (castR u).reverse = castR u.reverse := fun u => by unfold castR; rw [List.map_reverse]
  refine wpOne_of_any hΓ ((VS.ex V₄ (seg9 (prog := PySem.Challenge.rw_oy0040_01.prog) (w := w) b ok nums.length _ _ _ _ _ _ hn (by rw [byteArr_size]; exact tl) (by unfold bOut; simp) okR.tab okT.tab okRo.tab okTo.tab (fun i hi => ⟨?_, ?_⟩) ?_ ?_)) s₄ g₄ _ _ S₄ nd_nil fun f fl σ₅ own₅ s₅ g₅ hΦ r S₅ nd₅ on₅ G₅ Sm₅ => ?_)
  · rw [← KBw.ints_length, px i hi, wrd_len tl hi]; omega
  · rw [← KBw.ints_length, py i hi, List.length_reverse, wrd_len tl hi]; omega
  · exact pic1 _ _ _ _ (by rw [px 0 (by decide), w0]) (by rw [py 0 (by decide), w0, rev]) (by rw [px 1 (by decide), w1]) (by rw [py 1 (by decide), w1]; unfold castR; rw [List.map_reverse])
  · exact pic2 _ _ _ _ (by rw [px 2 (by decide), w2]) (by rw [py 2 (by decide), w2, rev]) (by rw [px 3 (by decide), w3]) (by rw [py 3 (by decide), w3]; unfold castR; rw [List.map_reverse])
  · subst hΦ
    obtain ⟨v, rfl, hv⟩ := r
    rw [rep_val.mp hv]
    exact k s₅ ((((Sm₁.trans Sm₂).trans Sm₃).trans Sm₄).trans Sm₅) (((kx_of G₁).rl R₂).kx (((kx_of G₃).trans K₄).trans (kx_of G₅)))
end
end Mine
end
section
open PySem PySem.W PySem.W.X PySem.Calls PyProof.Rows
set_option maxRecDepth 100000
set_option maxHeartbeats 4000000
set_option linter.unusedVariables false
namespace Mine

noncomputable abbrev callΓ : Ctx := ⟨.builtin "claim.caller" {}, none, none, [], none⟩
theorem ends_one {prog : Program} {w : World} {t : Sem Fin} {s : Shared} {R : Result → Shared → Prop} (hz : s.asleep)
    (h : wpOne (model prog w) callΓ t (fun fin s' => ∃ f, fin = .done f ∧ (R (.ok f) s' ∧ leftWithCleanup s'.gens = false)) (fun e s' => R (.error e) s' ∧ leftWithCleanup s'.gens = false) s) :
    ∃ n r s' s'', runN (denote table) prog w n s ⟨t, .builtin "claim.caller" {}, default, []⟩ = .halted (outcomeOf r) s' ∧
      schedN (denote table) prog w n (.single s ⟨t, .builtin "claim.caller" {}, default, []⟩) = .halted (outcomeOf r) s' ∧ s'.forget = s''.forget ∧ R r s'' := by
  have z : Sem.wp (model prog w) callΓ t (Sem.finPost (model prog w) callΓ fun r s' => R r s' ∧ leftWithCleanup s'.gens = false) (fun e _ s' => R (.error e) s' ∧ leftWithCleanup s'.gens = false) default s :=
    Sem.wp_mono _ _ t (fun fin p' s' h' => by obtain ⟨f, rfl, hf⟩ := h'; exact hf) (fun _ _ _ h' => h') default s (h default)
  obtain ⟨n, r, s₁, s₂, hs, hn, hf, hR⟩ := wp_halts_full (M := model prog w) (R := R) hz z
  exact ⟨n, r, s₂, s₁, hn, hs, hf, hR⟩
theorem ends_free {r : Result} {N T : Prop} {D S : Value → Prop} {X K M W : Addr → Obj → Prop} {free : Addr → Prop} {E1 : Addr → Obj → Prop} {ι : Type} {E2 : ι → Obj → Prop} {E3 : ι → Prop} {E4 : Addr → Prop}
    (h : (∃ v, r = .ok (.ret v) ∧ N ∧ D v ∧ S v ∧ (∀ b o, X b o → M b o → W b o → K b o) ∧ T) ∨ (∃ e ob cls, r = .error (.ref e) ∧ E1 e ob ∧ E2 cls ob ∧ E3 cls ∧ E4 e ∧ (∀ b o, X b o → K b o))) :
    (∃ v, outcomeOf r = .done (.ret v) ∧ N ∧ D v ∧ S v ∧ (∀ b o, X b o → ¬ free b → M b o → W b o → K b o) ∧ T) ∨ (∃ e ob cls, outcomeOf r = .uncaught (.ref e) ∧ E1 e ob ∧ E2 cls ob ∧ E3 cls ∧ E4 e ∧ (∀ b o, X b o → ¬ free b → K b o)) :=
  h.imp (fun ⟨v, e, d1, d2, d3, d4, d5⟩ => ⟨v, by rw [e]; rfl, d1, d2, d3, fun b o y _ => d4 b o y, d5⟩) fun ⟨e, ob, cls, e', d1, d2, d3, d4, d5⟩ => ⟨e, ob, cls, by rw [e']; rfl, d1, d2, d3, d4, fun b o y _ => d5 b o y⟩
theorem ex_elim {α : Type} {G : Prop} {R2 R3 R4 R5 R6 : α → Prop} {β : Type} {S1 : β → Prop} {S2 : β → Prop} {T1 : β → α → Prop}
    (h : ∃ a, S1 a ∧ S2 a ∧ ∃ s, T1 a s ∧ R2 s ∧ R3 s ∧ R4 s ∧ R5 s ∧ R6 s) (k : ∀ a s, S1 a → S2 a → T1 a s → R2 s → R3 s → R4 s → R5 s → R6 s → G) : G := by
  obtain ⟨a, h1, h2, s, h3, h4, h5, h6, h7, h8⟩ := h
  exact k a s h1 h2 h3 h4 h5 h6 h7 h8
theorem call_in {α β γ δ : Type} {L : α → β → Prop} {H : α → β → Nat → γ → δ → Prop} {C : α → β → γ → δ → Prop} {G K I R : δ → Prop} (a : α) (b : β) (n : Nat) (o : γ) (s : δ) (h1 : L a b) (h2 : H a b n o s) (h3 : C a b o s) (h4 : G s) (h5 : K s) (h6 : I s) (h7 : R s) :
    ∃ a b, L a b ∧ ∃ n o s, H a b n o s ∧ C a b o s ∧ G s ∧ K s ∧ I s ∧ R s := ⟨a, b, h1, n, o, s, h2, h3, h4, h5, h6, h7⟩
theorem from_one {c : ClaimW} {tree : List Value → Sem Fin} {w : World} {s : Shared} {free : Addr → Prop} {gens : Prop} {kept : Heap → Prop} (hz : s.asleep) (hgens : s.gens = #[])
    (spec : ∀ args, c.pre args = true → WData.layableAll args = true → ∀ ord : List DictEntry → List DictEntry, (∀ l, (ord l).Perm l) →
      ∃ vs s₁, layAllW c.records (classAt s.heap) w.params ord args s = some (vs, s₁) ∧
        wpOne (model c.prog w) callΓ (tree vs) (fun fin s' => ∃ f, fin = .done f ∧ (c.Ends s args vs s₁ (.ok f) s' ∧ s'.os = s.os ∧ AllBare s'.gens ∧ kept s'.heap)) (fun e s' => c.Ends s args vs s₁ (.error e) s' ∧ s'.os = s.os ∧ AllBare s'.gens ∧ kept s'.heap) s₁) :
    c.CallFrom (fun vs => ⟨tree vs, .builtin "claim.caller" {}, default, []⟩) w free gens kept s := fun args hpre hlay ord hord => by
  obtain ⟨vs, s₁, hl, hc⟩ := spec args hpre hlay ord hord
  have rest := layAllW_rest _ _ _ hl
  obtain ⟨k, r, s', s'', hrun, hsched, hfo, hcase, hos, hkp⟩ := ends_one (prog := c.prog) (w := w) (t := tree vs) (s := s₁) (R := fun r s' => c.Ends s args vs s₁ r s' ∧ s'.os = s.os ∧ kept s'.heap) (Shared.asleep_of_life rest.2.2.2 hz)
    (wpOne_mono hc (fun fin s' h => by obtain ⟨f, e, h1, h2, h3, h4⟩ := h; exact ⟨f, e, ⟨h1, h2, h4⟩, leftWithCleanup_false_of_bare h3⟩) fun e s' h => ⟨⟨h.1, h.2.1, h.2.2.2⟩, leftWithCleanup_false_of_bare h.2.2.1⟩)
  obtain ⟨eh, _, _, eo, _⟩ := Shared.forget_eq hfo
  have hcase := hcase.congr eh
  rw [← eh] at hkp
  rw [← eo] at hos
  have hlife : s'.heap.life = s.heap.life := (runN_life _ _ _ hrun).trans rest.2.2.2
  exact call_in vs s₁ k _ s' hl hsched (ends_free hcase) (fun _ i x hx => by rw [hgens] at hx; simp at hx) hkp (by rw [hlife]) (Shared.rest_eq hos)
noncomputable abbrev WalkOne (q : Program) (loose : List Str) (XP : (Str → Option Value) → Heap → Prop) (YP : World → Heap → Prop) (r : RowW) (d : DefRec) (kwd : List (Str × Expr)) : Prop :=
  ∀ (w : World) (s₀ s₁ : Shared) (mg mb : Str → Option Value), Ground q loose r.records XP w s₀ mg mb s₁.heap → YP w s₁.heap → ∀ (a : Addr) (o : Obj) (pm cd doc dV kV : Value), s₁.heap.get? a = some o →
    o.data = .func { docDef d.name d.params d.body d.scope pm cd doc with defaults := dV, kwdefaults := kV } → s₁.heap.CodeRec cd d.name → Dflts mg s₁.heap d.params kwd dV kV → mg d.name = some (.ref a) → s₁.gens = #[] →
    ∀ (args : List WData) (vals : List Value) (as : List Addr), Laid r.records w s₀ s₁ args vals as → r.claim.pre args = true → WData.layableAll args = true → ReadsAllW r.records (classAt s₀.heap) s₁.heap vals args as → WellAll w.params s₁.heap vals args → (∀ a ∈ as, (a == sysModules) = false) →
      wpOne (model r.prog w) callΓ (call (.ref a) vals) (fun v s' => GoodWG r.claim (classAt s₀.heap) (ExcName.means s₀.heap) args s₁ (.ok (.ret v)) s')
        (fun e s' => GoodWG r.claim (classAt s₀.heap) (ExcName.means s₀.heap) args s₁ (.error e) s') s₁
theorem holds_one {r : OpenRow} {q : Program} {loose : List Str} {Xt : Shared → Bool} {XP : (Str → Option Value) → Heap → Prop} {α : Type} {Yf : Shared → α} {Ya : World → α} {YP : World → Heap → Prop} {d : DefRec} {kwd : List (Str × Expr)} {N : Nat}
    (left : LeftO r.prog q loose Xt Yf Ya N) (hY : ∀ w s, Yf s = Ya w → YP w s.heap) (hYk : ∀ w h h', YP w h → (∀ b o, h.get? b = some o → h'.get? b = some o) → YP w h')
    (hX : ∀ s, Xt s = true → XP (s.heap.nsMap mainGlobals) s.heap) (hXk : ∀ mg h h', XP mg h → (∀ b o, h.get? b = some o → h'.get? b = some o) → XP mg h')
    (hdef : defOf q r.name = some (d, kwd)) (hp : r.prog.theDef r.name = some (d.params, d.body, d.scope)) (hk : kwWritten? d.params.kwonlyargs d.params.kw_defaults = some kwd) (hRf : ∀ s, Xt s = true → RecFacts r.records s.heap) (hwr : (!r.writes || r.records.isEmpty) = true)
    (said : r.wellSaid = true) (ok : (chainsOk q && opensWell r.prog && (PySem.W.frees r.toRowW && r.within.isEmpty)) = true) (hb : r.prog.bare) (hw : r.toRowW.promised)
    (walk : WalkOne q loose XP YP r.toRowW d kwd) : r.Holds := by
  obtain ⟨ok1, ok2⟩ := Bool.and_eq_true_iff.mp ok
  obtain ⟨chains, opens⟩ := Bool.and_eq_true_iff.mp ok1
  obtain ⟨fr, within⟩ := Bool.and_eq_true_iff.mp ok2
  obtain ⟨same, u, ap, apart, makers⟩ := frees_parts fr
  refine ⟨said, hw, ⟨hb, opens, by show r.makers.map _ = []; rw [makers]; rfl⟩, hw.witness, fun w => ⟨(left.behind hX chains w).1, fun s' hs' => ?_⟩⟩
  refine ex_elim ((left.behind (XP := fun mg h => XP mg h ∧ RecFacts r.records h) (fun s hs => ⟨hX s hs, hRf s hs⟩) chains w).2 s' hs') fun s₀ s f0 g0 top asleep gens ns G0 y => ?_
  have G1 : Ground q loose [] XP w s (s.heap.nsMap mainGlobals) (s.heap.nsMap builtinsNs) s.heap := ⟨G0.T, G0.B, G0.D, G0.TE, G0.TD, G0.W, G0.X.1, G0.cls, G0.has, G0.apart, G0.once, G0.K⟩
  have recs := G0.X.2
  have top' := top
  refine ⟨s₀, f0, g0, s, top, fun n hn => ?_, recs.1, recs.2.1, ?_⟩
  · obtain rfl : n = r.name := by split at hn <;> simp_all
    exact pinned_of_view ns G1 hdef hp hk
  have gens : s.gens = #[] := Array.eq_empty_of_size_eq_zero (beq_iff_eq.mp gens)
  have G2 : Ground q loose r.records XP w s _ _ s.heap := recs.ground G1
  refine from_one (c := r.toRowW.claim) asleep gens fun args hpre hlay ord hord => ?_
  obtain ⟨⟨vs, s₁⟩, laid⟩ := Option.isSome_iff_exists.mp (layAllW_isSome (P := w.params) (ord := ord) G2.has args r.args s (pre_splitW hpre).1)
  have keeps := layAllW_keeps _ _ _ laid
  have rest := layAllW_rest _ _ _ laid
  obtain ⟨as, reads, inn, old⟩ := reads_layAllW hord _ _ _ laid hlay s₁.heap (fun _ _ e => e)
  have L : Laid r.records w s s₁ args vs as := ⟨⟨ord, hord, laid⟩, reads, inn, old, keeps, rest.1.trans gens, rest.2.2.1⟩
  have G3 := G2.keeps hXk keeps
  obtain ⟨a, o, pm, cd, doc, dV, kV, h1, h2, h3, h4, h5⟩ := G3.fn hdef
  have z := walk w s s₁ _ _ G3 (hYk _ _ _ (hY w s y) keeps) a o pm cd doc dV kV h2 h3 h4 h5 (defOf_name hdef ▸ h1) L.gens args vs as L hpre hlay L.reads L.well (L.low G2.low)
  have hi := ident_freeW u ap apart
  have hwi : r.toRowW.claim.within = [] := List.isEmpty_iff.mp within
  refine ⟨vs, s₁, laid, ?_⟩
  refine wpOne_bind (wpOne_of_any (in_any _) (wpAny_nsGet G3.T.g ?_))
  rw [h1]
  refine wpOne_bind (wpOne_mono z (fun v s' g => ?_) fun e s' g => ?_)
  · refine fun p => ?_
    have e : (ret v : Sem PySem.Fin) = pure (PySem.Fin.done (.ret v)) := rfl
    rw [e, Sem.wp_pure']
    have q := g.laid (c := r.toRowW.claim) same hwi hi L
    exact ⟨_, rfl, q.1, q.2.1, q.2.2, fun k => ⟨namesKept_of top' ns _ keeps g.2.1.old, noTable hwr k⟩⟩
  · have q := g.laid (c := r.toRowW.claim) same hwi hi L
    exact ⟨q.1, q.2.1, q.2.2, fun k => ⟨namesKept_of top' ns _ keeps g.2.1.old, noTable hwr k⟩⟩
end Mine
end
section
open PySem PySem.W PySem.W.X PyProof.Rows
set_option maxRecDepth 1000000
set_option maxHeartbeats 4000000
set_option linter.unusedVariables false
namespace Mine
/-! the call of law at claim.caller's context -/
section
variable {prog : Program} {w : World} {A : Around} {s : Shared}
theorem tree_call {a : Addr} {args : Args} {o : Obj} {fd : FuncData} {body : List Stmt} {P : Env → Shared → Prop} {E : Value → Shared → Prop} (room : A.depth < recursionLimit) (ho : s.heap.get? a = some o)
    (hd : o.data = .func fd) (co : fd.scope.isCoroutine = false) (gen : fd.scope.isGenerator = false) (hb : fd.body = .stmts body) (code : s.heap.CodeRec fd.code fd.qualname)
    (h : wpAny (model prog w) A (bindArgs fd args) (fun binds s₁ => wpAny (model prog w) A (newFunctionEnv fd.scope fd.globals fd.closure binds (fd.qualname ++ ".<locals>.") (some a) fd.code none fd.builtins) (fun env s₂ => s₂.heap.NoLimit ∧ P env s₂) E s₁) E s) :
    wpAny (model prog w) A (callAny (.ref a) args) (fun fin s' => ∃ env, fin = .again (.func body env) ∧ P env s') E s := by
  simp only [callAny]
  refine wpAny_bind (wpAny_load ho ?_)
  obtain ⟨c, oc, vs, tq, hc, hoc, hdc, hq⟩ := code
  simp only [hd, callFunction, co, gen, hb, hc]
  rw [hc] at h
  refine wpAny_bind (m := field (.ref c) 1) (wpAny_field hoc hdc hq (wpAny_bind (wpAny_pure ?_)))
  exact wpAny_bind (wpAny_mono h (fun binds s₁ h₁ => wpAny_bind (wpAny_mono h₁ (fun env s₂ h₂ => wpAny_bind (wpAny_enterFrame h₂.1 room (wpAny_pure ⟨env, rfl, h₂.2⟩))) fun _ _ h' => h')) fun _ _ h' => h')
end
theorem law_ok {P : Params} {B : Heap} {mg mb : Str → Option Value} (b : Bs P B mg mb) : FnOk B (fdOf 81) ["script"] (fB 15) := b.ok rfl rfl rfl fun vs h => by
  match vs, h with
  | [x], _ => rfl
theorem law_in {L : Addr} {p0 : Pos} : (lawΓ (fB 15) (lawE L) p0).In (lawA L).A := by
  refine ⟨rfl, Nat.le_of_ble_eq_true (by rfl), fun l h => ?_, fun l h => ?_, Nat.le_of_ble_eq_true (by rfl)⟩
  · cases h; rfl
  · cases h; rfl
theorem law_act {P : Params} {B : Heap} {mg mb : Str → Option Value} (b : Bs P B mg mb) {L : Addr} : (lawA L).Ok 9 := fAct_ok ⟨rfl, rfl, by decide, by decide⟩ (law_ok b)
theorem tab23 {P : Params} {h : Heap} (K : (heapP P).In h) (h23 : h.get? 23 = some { cls := .none, data := .fields #[] }) : ∃ c, h.TableAt c 23 #[] := table_of (vs := fieldsOf (oldAt P 27)) (K 27 _ rfl) (by kernel_rfl) (by kernel_rfl) (by kernel_rfl) h23
theorem tab78 {P : Params} {h : Heap} (K : (heapP P).In h) (h78 : h.get? 78 = some { cls := .none, data := .fields #[] }) : ∃ c, h.TableAt c 78 #[] := table_of (vs := fieldsOf (oldAt P 80)) (K 80 _ rfl) (by kernel_rfl) (by kernel_rfl) (by kernel_rfl) h78
section
variable {w : World} {B : Heap} {mg mb : Str → Option Value}
theorem law_call (b : Bs w.params B mg mb) {s : Shared} {g : Heap} (S : Sh B [] [] g s.heap) {script : List Int} (hsc : script.length ≤ 1000) {v : Value} (hv : Rep g (.lst (script.map .int)) v)
    (h23 : s.heap.get? 23 = some { cls := .none, data := .fields #[] }) (h78 : s.heap.get? 78 = some { cls := .none, data := .fields #[] }) (g23 : g.get? 23 = none) (g78 : g.get? 78 = none) {Q E : Value → Shared → Prop}
    (k : ∀ s', Same s s' → OldK s.heap s'.heap → Q (.bool true) s') : wpOne (model PySem.Challenge.rw_oy0040_01.prog w) callΓ (call (.ref 81) [v]) Q E s := fun p => by
  have up : ∀ b o, B.get? b = some o → s.heap.get? b = some o := fun b o e => S.gh _ _ (S.bg _ _ e)
  have F := law_ok b
  have kl : (heapP w.params).In s.heap := fun a o e => up _ _ (b.K _ _ e)
  show Sem.wp _ _ (runValue (.call (.ref 81) ⟨[v], []⟩)) _ _ _ _
  rw [Sem.wp_runValue, wpCode_iff_wp]
  obtain ⟨o, ho, hd⟩ := b.fn (a := 81) (fd := fdOf 81) rfl
  have hbs := F.bind s [v] up rfl
  have hkind : ∀ x ∈ (["script"] : List Str).zip [v], (fdOf 81).scope.names.lookup x.1 = some .local ∨ ((fdOf 81).scope.names.lookup x.1 = some .cell ∧ ((cellsFrom (s.heap.objs.size + 1) (fdOf 81).scope.names []).lookup x.1).isSome = true) := fun x hx =>
    (F.kinds x.1 (mem_zip_fst hx)).imp id fun q => ⟨q.1, q.2 _⟩
  let P : Env → Shared → Prop := fun env s₁ => env = lawE s.heap.objs.size ∧ InCallC s env.locals (bindL env.kindOf ((["script"] : List Str).zip [v]) fun _ => none) env.cells (bindC env.kindOf ((["script"] : List Str).zip [v]) fun _ => none) s₁
  let Γ₁ : Ctx := ⟨.call (.ref 81) ⟨[v], []⟩, none, none, [(.builtin "claim.caller" {}, p)], none⟩
  have room : (anyA Γ₁).depth < recursionLimit := Nat.le_of_ble_eq_true (by rfl)
  have T := wpOne_of_any (in_any Γ₁) (tree_call (prog := PySem.Challenge.rw_oy0040_01.prog) (w := w) (P := P) (E := fun _ _ => False) room (up _ _ ho) hd F.co F.gen F.body (F.code.keeps up) (hbs _ _ _ _ (by
    rw [F.clo]
    refine wpAny_newFunctionEnv_cells F.kind hkind fun env he s₁ X => ?_
    subst he
    exact ⟨(b.G.nolimit.keeps up).keeps X.toInCall.keep, rfl, X⟩)))
  refine Sem.wp_mono _ _ _ (fun fin p' s' h' => ?_) (fun _ _ _ h' => h'.elim) _ _ (T p)
  obtain ⟨env, rfl, rfl, X⟩ := h'
  refine ⟨by rfl, ?_⟩
  rw [wpCode_iff_wp]
  show Sem.wp _ (lawΓ (fB 15) (lawE s.heap.objs.size) p) (do point; match ← (execs (fB 15) (lawE s.heap.objs.size)).onRaise (leaving (lawE s.heap.objs.size)) with | .ret v => ret v | _ => ret .none) _ _ p' s'
  have hL : s.heap.get? s.heap.objs.size = none := get?_size_none _
  have hge : ∀ b : Nat, s.heap.objs.size ≤ b → s.heap.get? b = none := fun b hb => Heap.get?_none_of_le hb
  have hnd : ((cellsFrom (s.heap.objs.size + 1) (fdOf 81).scope.names []).map (·.1)).Nodup := by rw [cellsFrom_keys _ _ 0 [] [] rfl]; exact F.cnd
  have keep := X.toInCall.keep
  have gh₁ : g.StaysIn s'.heap := fun b o e => keep b o (S.gh b o e)
  have above : ∀ p ∈ cellsFrom (s.heap.objs.size + 1) (fdOf 81).scope.names [], s.heap.objs.size < p.2 := fun p hp => X.above p.1 p.2 hp
  have R : RepAll g [D.lst (script.map .int)] [v] := .cons hv .nil
  have SC : Sv B (lawA s.heap.objs.size) [("script", .lst (script.map .int))] [] g s'.heap := by
    refine ⟨⟨S.bg, gh₁, ⟨by show (fdOf 81).scope.kind ≠ .module; rw [F.kind]; decide, ?_, trivial⟩, fun f hf => ⟨?_, fun p hp => nomatch hp⟩, fun p hp => nomatch hp⟩, ⟨_, X.toInCall.ns, fun x d hx hk => ?_⟩, fun x d hx hk => ?_, fun p hp => ?_, X.apart, stays_none S.gh hL, fun b hb => ?_⟩
    · obtain ⟨o', es, ep, e, hd, _⟩ := X.toInCall.ns
      exact ⟨s.heap.objs.size, o', rfl, stays_none S.bg (stays_none S.gh hL), e, fun vs q => by rw [hd] at q; cases q⟩
    · have hf : f ∈ [s.heap.objs.size] := hf
      rw [List.mem_singleton.mp hf]
      exact stays_none S.gh hL
    · obtain ⟨v, q1, q2, _⟩ := bind_rep (names := ["script"]) (kindOf := (lawE s.heap.objs.size).kindOf) (fun _ => none) (fun _ => none) F.nd R hx
      exact ⟨v, q2 hk, q1⟩
    · obtain ⟨v, q1, _, q3⟩ := bind_rep (names := ["script"]) (kindOf := (lawE s.heap.objs.size).kindOf) (fun _ => none) (fun _ => none) F.nd R hx
      have hxm : x ∈ (["script"] : List Str) := mem_zip_fst (vs := [D.lst (script.map .int)]) (mem_of_lookup hx)
      rcases F.kinds x hxm with q | ⟨q, hc⟩
      · exact absurd q hk
      · obtain ⟨c, hc⟩ := Option.isSome_iff_exists.mp (hc (s.heap.objs.size + 1))
        have := X.cell x c hc
        rw [q3 hk] at this
        exact ⟨c, v, hc, this, q1⟩
    · refine ⟨⟨_, X.cell p.1 p.2 (lookup_of_mem hnd hp)⟩, stays_none S.gh (hge _ (Nat.le_of_lt (above p hp)))⟩
    · obtain ⟨p, hp, e⟩ := List.mem_map.mp hb
      exact ⟨p, hp, e⟩
  have newY : ∀ b, Mu (lawA s.heap.objs.size) [] b → s.heap.get? b = none := by
    rintro b ((rfl | hb) | ⟨p, hp, _⟩)
    · exact hL
    · obtain ⟨p, hp, rfl⟩ := List.mem_map.mp hb
      exact hge _ (Nat.le_of_lt (above p hp))
    · exact nomatch hp
  have Sm : Same s s' := by obtain ⟨h₁, tk, rfl, _⟩ := X.done; exact ⟨rfl, rfl, rfl⟩
  have body := law_body b law_in (law_act b) hsc SC (keep _ _ h23) (keep _ _ h78) g23 g78 (p0 := p) (Q := fun f s'' => ∃ v, f = .ret v ∧ Q v s'') (E := fun _ _ => False) fun s'' Sm' rl => ⟨_, rfl, k s'' (Sm.trans Sm') ⟨fun b o e => ?_, fun b o e => ?_⟩⟩
  · have z : Sem.wp (model PySem.Challenge.rw_oy0040_01.prog w) (lawΓ (fB 15) (lawE s.heap.objs.size) p) (do point; match ← (execs (fB 15) (lawE s.heap.objs.size)).onRaise (leaving (lawE s.heap.objs.size)) with | .ret v => ret v | _ => ret .none) (fun fin _ s'' => ∃ v, fin = PySem.Fin.done (.ret v) ∧ Q v s'') (fun _ _ _ => False) p' s' := by
      refine (wpOne_bind (wpOne_point (wpOne_bind ?_)) : wpOne _ _ _ (fun fin s'' => ∃ v, fin = PySem.Fin.done (.ret v) ∧ Q v s'') (fun _ _ => False) s') p'
      intro p2
      rw [Sem.wp_onRaise]
      refine Sem.wp_mono _ _ _ (fun f p3 s3 h3 => ?_) (fun _ _ _ h3 => h3.elim) _ _ (body p2)
      obtain ⟨v, rfl, hq⟩ := h3
      exact wpOne_pure ⟨v, rfl, hq⟩
    refine Sem.wp_mono _ _ _ (fun fin p3 s3 h3 => ?_) (fun _ _ _ h3 => h3.elim) _ _ z
    obtain ⟨v, rfl, hq⟩ := h3
    exact hq
  · have n2 : b ∉ (lawA s.heap.objs.size).fr := fun hm => by
      have hm : b ∈ [s.heap.objs.size] := hm
      rw [List.mem_singleton.mp hm, hL] at e; cases e
    rcases rl b o (keep b o e) (fun m => by have := newY b m; rw [e] at this; cases this) n2 with q | ⟨hb, hc, vs, more, hd, q⟩
    · exact .inl q
    · refine .inr (.inl ⟨?_, hc, vs, more, hd, q⟩)
      rcases hb with rfl | rfl
      · obtain ⟨c, ht⟩ := tab23 kl h23; exact ht.isCodeTable
      · obtain ⟨c, ht⟩ := tab78 kl h78; exact ht.isCodeTable
  · have n2 : b ∉ (lawA s.heap.objs.size).fr := fun hm => by
      have hm : b ∈ [s.heap.objs.size] := hm
      rw [List.mem_singleton.mp hm, hL] at e; cases e
    rcases rl b o (keep b o e) (fun m => by have := newY b m; rw [e] at this; cases this) n2 with q | ⟨hb, hc, vs, more, hd, q⟩
    · exact ⟨_, q⟩
    · exact ⟨_, q⟩
end
end Mine
end
section
open PySem PySem.W PySem.W.X PySem.Calls PyProof.Rows
set_option maxRecDepth 1000000
set_option maxHeartbeats 4000000
set_option linter.unusedVariables false
namespace Mine
/-! the walk that the head asks for -/
noncomputable def heapA (P : Params) : Frag := (23, ob23 P) :: (78, ob78 P) :: heapP P
noncomputable def asA : List Addr := 23 :: 78 :: ((List.range 82).filter fun a => a != 23 && a != 78)
theorem asA_eq (P : Params) : asA = (heapA P).map (·.1) := by kernel_rfl
theorem keysP (P : Params) : ((List.range 82).filter fun a => a != 23 && a != 78) = (heapP P).map (·.1) := by kernel_rfl
/-- the heap without the two tables that grow -/
noncomputable def dropT (h : Heap) : Heap := ⟨h.objs.mapIdx fun i o => if i = 23 ∨ i = 78 then { o with data := .freed } else o, h.life⟩
theorem dropT_get {h : Heap} {b : Addr} : (dropT h).get? b = if b = 23 ∨ b = 78 then none else h.get? b := by
  unfold Heap.get? dropT
  simp only [Array.getElem?_mapIdx]
  cases e : h.objs[b]? with
  | none => simp
  | some o => by_cases hb : b = 23 ∨ b = 78 <;> simp [hb]
theorem dropT_stays {h : Heap} : (dropT h).StaysIn h := fun b o e => by
  rw [dropT_get] at e
  split at e
  · cases e
  · exact e
theorem dropT_of {h : Heap} {b : Addr} {o : Obj} (e : h.get? b = some o) (h1 : b ≠ 23) (h2 : b ≠ 78) : (dropT h).get? b = some o := by
  rw [dropT_get, if_neg (fun q => q.elim h1 h2)]; exact e
theorem dropT_ns {h : Heap} {a : Addr} {m : Str → Option Value} (x : h.Ns a m) (h1 : a ≠ 23) (h2 : a ≠ 78) : (dropT h).Ns a m := by
  obtain ⟨o, es, ep, e, r⟩ := x
  exact ⟨o, es, ep, dropT_of e h1 h2, r⟩
theorem bs_of {P : Params} {h : Heap} {mg mb : Str → Option Value} (K : (heapA P).In h) (hg : h.Ns mainGlobals mg) (hb : h.Ns builtinsNs mb) (hl : h.NoLimit) (bl : ∀ x : Str, x ≠ "__name__" → mb x = bootBuiltins x) : Bs P (dropT h) mg mb := by
  refine ⟨fun a o e => ?_, ⟨dropT_ns hg (by decide) (by decide), dropT_ns hb (by decide) (by decide), ?_⟩, bl⟩
  · have hm : a ∈ (heapP P).map (·.1) := List.mem_map_of_mem (f := (·.1)) (mem_of_lookup_f e)
    rw [← keysP] at hm
    have hne : a ≠ 23 ∧ a ≠ 78 := by
      have := (List.mem_filter.mp hm).2
      simpa using this
    refine dropT_of (K a o ?_) hne.1 hne.2
    unfold heapA
    rw [lk_ne hne.1, lk_ne hne.2]
    exact e
  · obtain ⟨mc, h1, h2⟩ := hl
    exact ⟨mc, dropT_ns h1 (by decide) (by decide), h2⟩
theorem items_inv : ∀ {xs : List WData}, WShape.hasItems [] xs .int = true → ∃ ns : List Int, xs = ofPys (ns.map PyData.int)
  | [], _ => ⟨[], rfl⟩
  | x :: xs, h => by
    simp only [WShape.hasItems, Bool.and_eq_true] at h
    obtain ⟨i, rfl⟩ := hasW_int h.1
    obtain ⟨ns, rfl⟩ := items_inv h.2
    exact ⟨i :: ns, rfl⟩
theorem args_inv {args : List WData} (h : WShape.hasAll [] args [.list .int] = true) : ∃ ns : List Int, args = [ofPy (PyData.list (ns.map PyData.int))] := by
  obtain ⟨d, r, rfl, h1, h2⟩ := hasAllW_cons h
  obtain rfl := hasAllW_nil h2
  obtain ⟨xs, rfl, h3⟩ := hasW_list h1
  obtain ⟨ns, rfl⟩ := items_inv h3
  exact ⟨ns, by simp [ofPy]⟩
theorem ofPys_len : ∀ ns : List Int, (ofPys (ns.map PyData.int)).length = ns.length
  | [] => rfl
  | n :: ns => by rw [List.map_cons, ofPys, List.length_cons, List.length_cons, ofPys_len ns]
theorem ints_rep {g h : Heap} {cl : Str → Option Addr} : ∀ {ns : List Int} {vs : List Value} {as : List Addr}, ReadsAllW [] cl h vs (ofPys (ns.map PyData.int)) as → RepAll g (ns.map D.int) vs
  | [], vs, as, r => by
    have r' : ReadsAllW [] cl h vs [] as := by simpa [ofPys] using r
    rw [(readsAllW_nil_inv r').1]
    exact .nil
  | n :: ns, vs, as, r => by
    rw [List.map_cons, ofPys] at r
    obtain ⟨v, vs, a1, a2, rfl, rfl, r1, r2⟩ := readsAllW_cons_inv r
    obtain ⟨t, rfl, _⟩ := readsW_int_inv (by simpa [ofPy] using r1)
    exact .cons (rep_int.mpr ⟨t, rfl⟩) (ints_rep r2)
theorem most_of {ns : List Int} (h : PySem.Challenge.rw_oy0040_01.pre.holds [] { args := [ofPy (PyData.list (ns.map PyData.int))] } = true) : ns.length ≤ 63 := by
  have e : PySem.Challenge.rw_oy0040_01.pre = .and (.not (.lt (.lit (.int 63)) (.len (.arg 0)))) (.lit (.bool true)) := rfl
  rw [e] at h
  have hv : (WTm.and (.not (.lt (.lit (.int 63)) (.len (.arg 0)))) (.lit (.bool true))).value [] { args := [ofPy (PyData.list (ns.map PyData.int))] } = some (.bool (!(decide ((63 : Int) < ((ofPys (ns.map PyData.int)).length : Int))) && true)) :=
    w_and (w_not (w_lt (by rfl) (w_len_list (w_arg (by simp [ofPy]))))) (by rfl)
  rw [holdsW_of_value hv, ofPys_len] at h
  simp at h
  exact Int.ofNat_le.mp ‹_›
theorem walk_law {q : Program} {loose : List Str} {XP : (Str → Option Value) → Heap → Prop} {d : DefRec} {kwd : List (Str × Expr)} (hname : d.name = "law") : WalkOne q loose XP (kHook heapA asA asA_eq).says PySem.Challenge.rw_oy0040_01.row.toRowW d kwd := by
  intro w s₀ s₁ mg mb G Y a o pm cd doc dV kV ho hd hcd hD hmg hg args vals as L hpre hlay hrd hwl hlo
  have K : (heapA w.params).In s₁.heap := kIn_of Y
  have b := bs_of K G.T.g G.T.b G.T.nolimit G.T.builtins
  have e81 : a = 81 := by
    have h1 : mg "law" = some (.ref 81) := mg_of b.K b.G.g (by rfl)
    rw [hname, h1] at hmg
    cases hmg; rfl
  subst e81
  obtain ⟨ns, rfl⟩ := args_inv (pre_splitW hpre).1
  have hlen := most_of (pre_splitW hpre).2
  obtain ⟨v, vs, a1, a2, rfl, rfl, r1, r2⟩ := readsAllW_cons_inv hrd
  obtain ⟨rfl, rfl⟩ := readsAllW_nil_inv r2
  obtain ⟨x, its, as', rfl, hL, r3, rfl⟩ := readsW_list_inv (xs := ofPys (ns.map PyData.int)) (by simpa [ofPy] using r1)
  have hx := script_obj L hL
  have hx1 : x ≠ 23 := fun e => by rw [e, K 23 (ob23 w.params) (by unfold heapA; exact lk_eq)] at hx; cases hx
  have hx2 : x ≠ 78 := fun e => by rw [e, K 78 (ob78 w.params) (by unfold heapA; rw [lk_ne (by decide)]; exact lk_eq)] at hx; cases hx
  have rep : Rep (dropT s₁.heap) (.lst (ns.map .int)) (.ref x) := rep_lst.mpr ⟨x, its.toList, rfl, ⟨0, by rw [Array.toArray_toList]; exact dropT_of hx hx1 hx2⟩, ints_rep r3⟩
  have Sh0 : Sh (dropT s₁.heap) [] [] (dropT s₁.heap) s₁.heap := ⟨stays_refl _, dropT_stays, trivial, (fun f hf => nomatch hf), (fun p hp => nomatch hp)⟩
  refine law_call b Sh0 (by omega) rep (K 23 _ (by unfold heapA; exact lk_eq)) (K 78 _ (by unfold heapA; rw [lk_ne (by decide)]; exact lk_eq)) (by rw [dropT_get]; simp) (by rw [dropT_get]; simp) fun s' Sm old => ?_
  refine ⟨.inl ⟨.bool true, .bool true, [], rfl, fun cls => rfl, ?_, ?_, fun _ => ⟨List.nodup_nil, fun a ha => nomatch ha⟩⟩, old, Sm.os, ?_⟩
  · exact .bool _
  · exact postW_of (by rfl) (by rfl) (same_self _)
  · exact .of_eq (Sm.gens.trans hg)
end Mine
end
section
open PySem PySem.W PySem.W.X PySem.Calls PyProof.Rows
set_option maxRecDepth 1000000
set_option maxHeartbeats 0
set_option linter.unusedVariables false
namespace Mine
/-! the head by hand: the run of the text's top at the kit's boot heap, the end told by one's own objects -/
noncomputable def viewL : Program := view PySem.Challenge.pw_oy0040_01 [15]
noncomputable def heapF (P : Params) : Heap := { objs := ⟨[ob0 P, ob1 P, ob2 P, ob3 P, ob4 P, ob5 P, ob6 P, ob7 P, ob8 P, ob9 P, ob10 P, ob11 P, ob12 P, ob13 P, ob14 P, ob15 P, ob16 P, ob17 P, ob18 P, ob19 P, ob20 P, ob21 P, ob22 P, ob23 P, ob24 P, ob25 P, ob26 P, ob27 P, ob28 P, ob29 P, ob30 P, ob31 P, ob32 P, ob33 P, ob34 P, ob35 P, ob36 P, ob37 P, ob38 P, ob39 P, ob40 P, ob41 P, ob42 P, ob43 P, ob44 P, ob45 P, ob46 P, ob47 P, ob48 P, ob49 P, ob50 P, ob51 P, ob52 P, ob53 P, ob54 P, ob55 P, ob56 P, ob57 P, ob58 P, ob59 P, ob60 P, ob61 P, ob62 P, ob63 P, ob64 P, ob65 P, ob66 P, ob67 P, ob68 P, ob69 P, ob70 P, ob71 P, ob72 P, ob73 P, ob74 P, ob75 P, ob76 P, ob77 P, ob78 P, ob79 P, ob80 P, ob81 P]⟩ }
theorem run_ok : ∀ (w : World) (os : OsState), topRun treeTable PySem.Challenge.pw_oy0040_01 w 11 (some (.ref 6)) 401 ⟨boot_heap w.params, ⟨[]⟩, boot_drawn, boot_toks, os⟩ (topStub PySem.Challenge.pw_oy0040_01) = some ⟨heapF w.params, ⟨[]⟩, {}, 286, os⟩ := by
  rw [PySem.W.Fast.te14082659384304107361, PySem.W.Fast.te14364793385576792824]
  intro w os
  kernel_rfl
noncomputable def looseL : List Str := (["_byteswap", "cmp_to_key", "_initial_missing", "reduce", "sorted_list_difference", "three_way_cmp", "_law_lay", "_law_shadows", "_law_emptied", "_law_mirrored", "_law_pictures"] : List String).map Str.ofString
noncomputable abbrev hookL : Hook := kHook heapA asA asA_eq
noncomputable abbrev xtL : Shared → Bool := fun s => xlAt viewL [] s && recOk (RowW.records PySem.Challenge.rw_oy0040_01.row.toRowW) s
noncomputable abbrev endL (w : World) (os : OsState) : Shared := ⟨heapF w.params, ⟨[]⟩, {}, 286, os⟩
theorem size_ok : ∀ w : World, ((boot_heap w.params).isNs mainGlobals && (⟨[]⟩ : Array GenState).size == 0, (boot_heap w.params).objs.size, (boot_heap w.params).nsMap mainGlobals "__annotations__") = (true, 11, some (.ref 6)) := by
  intro w; kernel_rfl
theorem look1 : ∀ (w : World) (os : OsState), (staticsOk (importedModules PySem.Challenge.pw_oy0040_01.main.body) (boot_heap w.params) (heapF w.params) && namesBound PySem.Challenge.pw_oy0040_01 (heapF w.params) && gensDone (endL w os) && laidKept (boot_heap w.params) (heapF w.params)) = true := by
  intro w os; kernel_rfl
theorem look2 : ∀ (w : World) (os : OsState), openSeen viewL looseL (importedModules PySem.Challenge.pw_oy0040_01.main.body) xtL true (endL w os) = openGood viewL looseL := by
  rw [PySem.W.Fast.te4187177175401517315]
  intro w os; kernel_rfl
theorem look3 : ∀ (w : World) (os : OsState), hookL.obs (endL w os) = hookL.val w := by
  intro w os; kernel_rfl
theorem open_l : opening PySem.Challenge.pw_oy0040_01 = plainProg PySem.Challenge.pw_oy0040_01.main.scope.names := by kernel_rfl
theorem fence_l (s : Shared) : fenceModules? PySem.Challenge.pw_oy0040_01 s = some s := by kernel_rfl
theorem left_l : LeftO PySem.Challenge.pw_oy0040_01 viewL looseL xtL hookL.obs hookL.val 896 :=
  LeftO.of_pieces (boot_open open_l (by decide) fence_l) size_ok run_ok (by decide) fun w => funext fun os => looks_pair (look1 w os) (looks_pair (look2 w os) (look3 w os))
theorem said_l : OpenLaw.wellSaid PySem.Challenge.rw_oy0040_01 = true := by
  rw [PySem.W.Fast.te9446332074065402090]
  kernel_rfl
noncomputable def lawPos : Pos := match PySem.Challenge.pw_oy0040_01.main.body[15]? with
  | some s => match s with
    | .FunctionDef _ _ _ _ _ _ _ _ _ p => p
    | _ => default
  | none => default
noncomputable def lawD : DefRec := { name := "law", params := fP 15, body := fB 15, scope := fS 15, pos := lawPos }
theorem def_l : defOf viewL PySem.Challenge.rw_oy0040_01.row.name = some (lawD, []) := by kernel_rfl
theorem name_l : lawD.name = "law" := by kernel_rfl
theorem the_l : PySem.Challenge.rw_oy0040_01.row.prog.theDef PySem.Challenge.rw_oy0040_01.row.name = some (lawD.params, lawD.body, lawD.scope) := by kernel_rfl
theorem kw_l : kwWritten? lawD.params.kwonlyargs lawD.params.kw_defaults = some [] := by kernel_rfl
theorem law_holds : PySem.Challenge.rw_oy0040_01.Holds :=
  holds_law said_l fun said => holds_one (q := viewL) (loose := looseL) (Xt := xtL) (XP := XL viewL []) (Yf := hookL.obs) (Ya := hookL.val) (YP := hookL.says) (N := 896) left_l hookL.of hookL.keeps
    (fun s e => xl_of s (Bool.and_eq_true_iff.mp e).1) XL.keeps def_l the_l kw_l (fun s e => recFacts_of (Bool.and_eq_true_iff.mp e).2) (by kernel_rfl) said (by decide +kernel) ⟨rfl, rfl, rfl, rfl, rfl, by decide +kernel⟩
    ⟨[.list []], by decide +kernel, by decide +kernel⟩ (walk_law name_l)
end Mine
end
theorem PySem.Challenge.cw_oy0040_01_holds : PySem.Challenge.rw_oy0040_01.Holds :=
  Mine.law_holds
