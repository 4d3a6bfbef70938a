import PyProof.Rows.All
import Wide.All
import OpenK.AllK
import Wide.FinOn
import PySem.Challenge.RW_sl0015_01

set_option maxRecDepth 100000
set_option Elab.async false
namespace Mine
open PySem PySem.Spec PySem.Calls PyProof.Rows PySem.W PySem.W.X

/-! A simulator of the model's trees at a symbolic heap base, with an oracle for the addresses. -/

/-- Numbers written in one: k places to the base 4096, then the rest. -/
noncomputable def dc (k x : Nat) (rest : List Nat) : List Nat := Nat.rec (motive := fun _ => Nat → List Nat) (fun _ => rest) (fun _ ih x => Nat.mod x 4096 :: ih (Nat.div x 4096)) k x

inductive Ob where
  | n (a : Nat)
  | vs (l : List Value)
  | ss (x y : Str)
  | st (f : Pos → List (Code × Pos) → Sem Fin)
  | cs (f : Nat) (vs : List Value) (k : Nat) (os : List (Option Obj)) (tb : List Value)
  | bi (f : String) (vs : List Value) (k : Nat) (os : List (Option Obj))

inductive Kt where
  | base
  | ret (c : Option Code) (k : Result → Sem Fin) (κ : Kt)

inductive Out where
  | ok (r : Result) (T : KT) (m i : Nat) (tb : Array Value) (la lc : List Ob)
  | bad (n a : Nat)
  | word (w : String)
  | agn (c : Code) (T : KT) (m i : Nat) (tb : Array Value) (la lc : List Ob)

structure Spec where
  D : Nat
  U : Nat
  run : Code → KT → Nat → Nat → Array Value → Option (Value × KT × Nat × Nat × Array Value × Ob × Ob)

structure Vw where
  prog : Program
  P : Params
  den : Code → Sem Fin
  ent : Addr → FuncData → Args → Sem Fin
  quiet : Code → Bool
  n₁ : Nat
  t₀ : Nat
  kt : KT
  pa : Nat → Option (Addr × Obj)
  sp : Nat → Option Spec
  D : Nat
  U : Nat
  L : Nat
  lw : Nat → Option Addr
  cs : Code → Bool
  st : Code → Bool

/-- Where the own object i lies: the first L are older than the run. -/
noncomputable def adr (V : Vw) (i : Nat) : Nat := match V.lw i with
  | none => Nat.add V.n₁ i
  | some a => a

noncomputable abbrev Rest := KT → Nat → Nat → Array Value → List Ob → List Ob → Out
noncomputable abbrev SimTy := List Nat → List Nat → Option Code → Kt → Sem Fin → Rest

noncomputable def tabAt : Nat := 16

noncomputable def find (V : Vw) (T : KT) (tb : Array Value) (o : Nat) : Option (Nat × Obj) :=
  match Nat.mod o 4 with
  | 0 => match Nat.beq (Nat.div o 4) 16 with
    | true => none
    | false => match V.kt.get (Nat.div o 4) with
      | some x => some (Nat.div o 4, x)
      | none => none
  | 1 => match T.get (Nat.div o 4) with
    | some x => some (adr V (Nat.div o 4), x)
    | none => none
  | 2 => V.pa (Nat.div o 4)
  | _ => some (16, tableObj tb)

noncomputable def wB : Code → Nat
  | .builtin .. => 310
  | .call .. => 0
  | .func .. => 1
  | .expr .. => 1
  | .body .. => 1
  | .compStart .. => 1
  | .compLoop .. => 1
  | _ => 0
noncomputable def uB : Code → Nat
  | .builtin .. => 10
  | .call .. => 1
  | .func .. => 3
  | .expr .. => 3
  | .body .. => 3
  | .compStart .. => 3
  | .compLoop .. => 3
  | _ => 0
noncomputable def wtK : Kt → Nat
  | .base => 0
  | .ret c _ κ => match c with
    | none => 0
    | some c => wB c + wtK κ
noncomputable def utK : Kt → Nat
  | .base => 0
  | .ret c _ κ => match c with
    | none => 0
    | some c => uB c + utK κ

noncomputable def popK (ih : SimTy) (r : Result) (κ : Kt) (sl : List Nat) (orc : List Nat) : Rest := match κ with
  | .base => fun T m i tb la lc => .ok r T m i tb la lc
  | .ret c k κ => ih sl orc c κ (k r)

noncomputable def sLoad (V : Vw) (ih : SimTy) (sl : List Nat) (orc : List Nat) (c : Option Code) (κ : Kt) (a : Nat) (k : Obj → Sem Fin) : Rest := fun T m i tb la lc =>
  match orc with
  | [] => .bad 1 a
  | o :: orc => match find V T tb o with
    | some bx => match bx with
      | (b, x) => ih sl orc c κ (k x) T m i tb (.n a :: la) (.n b :: lc)
    | none => .bad 2 o

/-! Objects are written out anew at each store, so that no heap of suspended updates grows. -/
noncomputable def forceE {α : Type} (l : List DictEntry) (k : List DictEntry → α) : α := match l with
  | [] => k []
  | e :: r => match e with
    | ⟨h, x, v⟩ => forceE r fun r' => k (⟨h, x, v⟩ :: r')
theorem forceE_eq {α : Type} : ∀ (l : List DictEntry) (k : List DictEntry → α), forceE l k = k l
  | [], _ => rfl
  | ⟨_, _, _⟩ :: r, _ => forceE_eq r _
noncomputable def forceV {α : Type} (l : List Value) (k : List Value → α) : α := match l with
  | [] => k []
  | e :: r => forceV r fun r' => k (e :: r')
theorem forceV_eq {α : Type} : ∀ (l : List Value) (k : List Value → α), forceV l k = k l
  | [], _ => rfl
  | _ :: r, _ => forceV_eq r _
noncomputable def forceO {α : Type} (o : Obj) (k : Obj → α) : α := match o with
  | ⟨c, d, x, s⟩ => match x with
    | .dict es n => forceE es.toList fun l => k ⟨c, d, .dict ⟨l⟩ n, s⟩
    | .seq vs n => forceV vs.toList fun l => k ⟨c, d, .seq ⟨l⟩ n, s⟩
    | .fields vs => forceV vs.toList fun l => k ⟨c, d, .fields ⟨l⟩, s⟩
    | x => k ⟨c, d, x, s⟩
theorem forceO_eq {α : Type} (o : Obj) (k : Obj → α) : forceO o k = k o := by
  obtain ⟨c, d, x, s⟩ := o
  cases x <;> first | rfl | exact forceE_eq _ _ | exact forceV_eq _ _

noncomputable def sAlloc (V : Vw) (ih : SimTy) (sl : List Nat) (orc : List Nat) (c : Option Code) (κ : Kt) (x : Obj) (k : Addr → Sem Fin) : Rest := fun T m i tb la lc =>
  match x.isFreed with
  | true => .bad 3 0
  | false => match Nat.blt m 60000 with
    | true => forceO x fun x => ih sl orc c κ (k (Nat.add V.n₁ m)) (KT.put 16 T m x) (Nat.succ m) i tb la lc
    | false => .bad 3 1

noncomputable def sUpdate (V : Vw) (ih : SimTy) (sl : List Nat) (orc : List Nat) (c : Option Code) (κ : Kt) (a : Nat) (f : Obj → Obj) (k : Unit → Sem Fin) : Rest := fun T m i tb la lc =>
  match orc with
  | [] => .bad 1 a
  | o :: orc => match Nat.mod o 4 with
    | 1 => match T.get (Nat.div o 4) with
      | some x => match (f x).isFreed with
        | true => .bad 5 o
        | false => match Nat.blt (Nat.div o 4) 60000 with
          | true => forceO (f x) fun x => ih sl orc c κ (k ()) (KT.put 16 T (Nat.div o 4) x) m i tb (.n a :: la) (.n (adr V (Nat.div o 4)) :: lc)
          | false => .bad 5 1
      | none => .bad 4 o
    | 3 => match tabOf (f (tableObj tb)) with
      | some tb' => match strip tb.toList tb'.toList with
        | some _ => ih sl orc c κ (k ()) T m i tb' (.n a :: la) (.n 16 :: lc)
        | none => .bad 6 o
      | none => .bad 7 o
    | _ => .bad 8 o

noncomputable def sStack (ih : SimTy) (sl : List Nat) (orc : List Nat) (c : Option Code) (κ : Kt) (k : List (Code × Pos) → Sem Fin) : Rest := match c with
  | none => fun _ _ _ _ _ _ => .bad 10 0
  | some c => fun T m i tb la lc => ih sl orc (some c) κ (k [(c, ⟨0, 0, 0, 0⟩)]) T m i tb (.st (fun p b => k ((c, p) :: b)) :: la) (.st (fun _ _ => k [(c, ⟨0, 0, 0, 0⟩)]) :: lc)

noncomputable def funcOk (fd : FuncData) : Bool := match fd.body with
  | .stmts _ => !fd.scope.isGenerator && !fd.scope.isCoroutine
  | .expr _ => false

noncomputable def spSpec (V : Vw) (ih : SimTy) (sl : List Nat) (orc : List Nat) (j : Nat) (d u : Nat) (c' : Code) (nx : Value → Rest) : Rest := fun T m i tb la lc =>
  match V.sp j with
  | none => .bad 20 j
  | some S => match Nat.ble (V.D + d) S.D with
    | false => .bad 21 j
    | true => match Nat.ble (V.U + u) S.U with
      | false => .bad 22 j
      | true => match S.run c' T m i tb with
        | none => .bad 23 j
        | some q => match q with
          | (r, T', m', i', tb', x, y) => nx r T' m' i' tb' (x :: la) (y :: lc)

noncomputable def spUser (V : Vw) (ih : SimTy) (sl : List Nat) (orc : List Nat) (c : Option Code) (κ : Kt) (c' : Code) (k : Result → Sem Fin) (o : Nat) : Rest := fun T m i tb la lc =>
  match c' with
  | .call f args => match f with
    | .ref a => match find V T tb o with
      | none => .bad 24 o
      | some bx => match bx with
        | (b, x) => match x.data with
          | .func fd => match funcOk fd with
            | true => match Nat.blt (V.D + wtK (.ret c k κ)) 1000 with
              | true => ih sl orc (some c') (.ret c k κ) (V.ent a fd args) T m i tb (.n a :: la) (.n b :: lc)
              | false => .bad 27 o
            | false => .bad 26 o
          | _ => .bad 25 o
    | _ => .bad 25 1
  | _ => .bad 25 2


noncomputable def sCall (V : Vw) (ih : SimTy) (sl : List Nat) (orc : List Nat) (c : Option Code) (κ : Kt) (c' : Code) (hd : Option Value) (k : Result → Sem Fin) : Rest := match hd with
  | some _ => fun _ _ _ _ _ _ => .bad 11 0
  | none => match sl with
    | [] => ih [] orc (some c') (.ret c k κ) (V.den c')
    | e :: sl' => match e with
      | 0 => ih sl' orc (some c') (.ret c k κ) (V.den c')
      | e + 1 => match Nat.beq (Nat.mod e 2) 0 with
        | true => spSpec V ih sl' orc (Nat.div e 2) (wtK (.ret c k κ)) (utK (.ret c k κ)) c' fun r => ih sl' orc c κ (k (.ok (.ret r)))
        | false => spUser V ih sl' orc c κ c' k (Nat.div e 2)

noncomputable def isFor : Code → Bool
  | .forLoop .. => true
  | _ => false

noncomputable def sAgain (V : Vw) (ih : SimTy) (sl : List Nat) (orc : List Nat) (c : Option Code) (κ : Kt) (c' : Code) : Rest := match c with
  | none => fun _ _ _ _ _ _ => .bad 13 0
  | some _ => match V.quiet c' with
    | false => fun _ _ _ _ _ _ => .bad 14 0
    | true => match V.st c' with
      | true => match κ with
        | .base => fun T m i tb la lc => .agn c' T m i tb la lc
        | _ => fun _ _ _ _ _ _ => .bad 15 0
      | false => match V.cs c' with
        | false => ih sl orc (some c') κ (V.den c')
        | true => match sl with
          | [] => ih [] orc (some c') κ (V.den c')
          | e :: sl' => match e with
            | 0 => ih sl' orc (some c') κ (V.den c')
            | e + 1 => spSpec V ih sl' orc e (wtK κ) (utK κ) c' fun r => popK ih (.ok (.ret r)) κ sl' orc

noncomputable def step (V : Vw) (ih : SimTy) (sl : List Nat) (orc : List Nat) (c : Option Code) (κ : Kt) (t : Sem Fin) : Rest := match t with
  | .pure fin => match fin with
    | .done f => popK ih (.ok f) κ sl orc
    | .again c' => sAgain V ih sl orc c κ c'
  | .raise e => popK ih (.error e) κ sl orc
  | .rule _ k => ih sl orc c κ (k ())
  | .at _ k => ih sl orc c κ (k ())
  | .point _ k => ih sl orc c κ (k ())
  | .ask k => ih sl orc c κ (k ⟨V.prog, V.P⟩)
  | .load a _ k => sLoad V ih sl orc c κ a k
  | .loadIfAlive a k => sLoad V ih sl orc c κ a fun o => k (some o)
  | .alloc x k => sAlloc V ih sl orc c κ x k
  | .update a _ f k => sUpdate V ih sl orc c κ a f k
  | .fresh k => fun T m i tb la lc => ih sl orc c κ (k (Nat.add V.t₀ i)) T m (Nat.succ i) tb la lc
  | .handled own k => match own with
    | false => ih sl orc c κ (k none)
    | true => fun _ _ _ _ _ _ => .bad 9 0
  | .stack k => sStack ih sl orc c κ k
  | .call c' hd _ _ k => sCall V ih sl orc c κ c' hd k
  | .unsupported w => fun _ _ _ _ _ _ => .word w
  | _ => fun _ _ _ _ _ _ => .bad 12 0


noncomputable def loop (V : Vw) (n : Nat) : SimTy := Nat.rec (motive := fun _ => SimTy) (fun _ _ _ _ _ _ _ _ _ _ _ => .bad 0 0) (fun _ ih => step V ih) n
theorem loop_succ (V : Vw) (n : Nat) : loop V (n + 1) = step V (loop V n) := rfl
end Mine


set_option maxRecDepth 100000
set_option Elab.async false
namespace Mine
open PySem PySem.Spec PySem.Calls PyProof.Rows PySem.W PySem.W.X

/-! What a call of a plain def does before its body, the frames' count left out. -/
noncomputable def entName (fd : FuncData) : Sem Str := match fd.code with
  | .none => pure fd.qualname
  | c => (field c 1).bind fun v => match v with
    | .str q _ => pure q
    | _ => pure fd.qualname
noncomputable def entBody (fd : FuncData) : List Stmt := match fd.body with
  | .stmts b => b
  | .expr _ => []
noncomputable def entT (a : Addr) (fd : FuncData) (args : Args) : Sem Fin :=
  (entName fd).bind fun q => (bindArgs fd args).bind fun bs =>
    (newFunctionEnv fd.scope fd.globals fd.closure bs (q ++ ".<locals>.") (some a) fd.code none fd.builtins).bind fun env =>
      currentRecursionLimit.bind fun lim => match Nat.beq lim 1000 with
        | true => .pure (.again (.func (entBody fd) env))
        | false => .unsupported "limit"
end Mine


set_option maxRecDepth 100000
set_option Elab.async false
namespace Mine
open PySem PySem.Spec PySem.Calls PyProof.Rows PySem.W PySem.W.X

/-! The same trees, spelled with the library's quick twins. -/
noncomputable def denF : Code → Sem PySem.Fin := PySem.W.Fast.tw11892475500146522536 PySem.W.Fast.tw14364793385576792824
theorem denF_eq : denote table = denF := by
  rw [PySem.table_eq_tree, PySem.W.Fast.te14364793385576792824, PySem.W.Fast.te11892475500146522536]
  rfl
noncomputable def quietF : Code → Bool := PySem.W.ZFast.zw17772548960776305114
theorem quietF_eq : Code.quiet = quietF := by
  rw [PySem.W.ZFast.ze17772548960776305114]
  rfl
noncomputable def locs : Str := ⟨⟨[46, 60, 108, 111, 99, 97, 108, 115, 62, 46]⟩⟩
theorem locs_eq : (".<locals>." : Str) = locs := by decide +kernel
noncomputable def entNameF (fd : FuncData) : Sem Str := match fd.code with
  | .none => .pure fd.qualname
  | c => PySem.W.R.bindR (PySem.W.Fast.tw6609576154772507232 c 1) fun v => match v with
    | .str q _ => .pure q
    | _ => .pure fd.qualname
noncomputable def entF (a : Addr) (fd : FuncData) (args : Args) : Sem PySem.Fin :=
  PySem.W.R.bindR (entNameF fd) fun q => PySem.W.R.bindR (PySem.W.Fast.tw9782568553167038054 fd args) fun bs =>
    PySem.W.R.bindR (PySem.W.Fast.tw11113344188204177931 fd.scope fd.globals fd.closure bs (PySem.W.Fast.tw3133850215942858360 q locs) (some a) fd.code none fd.builtins) fun env =>
      PySem.W.R.bindR PySem.W.Fast.tw2211186353215096513 fun lim => match Nat.beq lim 1000 with
        | true => .pure (.again (.func (entBody fd) env))
        | false => .unsupported "limit"
theorem entName_eq : entName = entNameF := by
  funext fd
  unfold entName entNameF
  rw [← PySem.W.R.bindR_eq, ← PySem.W.Fast.te6609576154772507232]
  rfl
theorem entF_eq : entT = entF := by
  funext a fd args
  unfold entT entF
  rw [← PySem.W.R.bindR_eq, ← PySem.W.Fast.te9782568553167038054, ← PySem.W.Fast.te11113344188204177931, ← PySem.W.Fast.te3133850215942858360, ← PySem.W.Fast.te2211186353215096513, ← entName_eq, ← locs_eq]
  rfl
end Mine


set_option maxRecDepth 100000
set_option Elab.async false
namespace Mine
open PySem PySem.Calls PyProof.Rows PySem.W PySem.W.X

theorem pg1 {i n : Nat} (h : i + 1 < 2 ^ (n + 1)) (p : i % 2 = 1) : i / 2 + 1 < 2 ^ n := by rw [Nat.pow_succ] at h; omega
theorem pg2 {i n : Nat} (h : i + 1 < 2 ^ (n + 1)) (h0 : i ≠ 0) (p : ¬ i % 2 = 1) : i / 2 - 1 + 1 < 2 ^ n := by rw [Nat.pow_succ] at h; omega
theorem pg3 {i j : Nat} (p : i % 2 = 1) (q : j % 2 = 1) (e : j / 2 = i / 2) : j = i := by omega
theorem pg4 {i j : Nat} (h0 : i ≠ 0) (p : ¬ i % 2 = 1) (hj : j ≠ 0) (q : ¬ j % 2 = 1) (e : j / 2 - 1 = i / 2 - 1) : j = i := by omega
theorem pg_step {n i j : Nat} {v : Option Obj} {l r : KT} {o : Obj} (h : i + 1 < 2 ^ (n + 1))
    (ih : ∀ (t : KT) (i j : Nat), i + 1 < 2 ^ n → (KT.put n t i o).get j = if j = i then some o else t.get j) :
    (match Nat.beq i 0 with
      | true => KT.node (some o) l r
      | false => match Nat.beq (i % 2) 1 with
        | true => KT.node v (KT.put n l (i / 2) o) r
        | false => KT.node v l (KT.put n r (i / 2 - 1) o)).get j = if j = i then some o else (KT.node v l r).get j := by
  rw [BT.beq_eq, BT.beq_eq]
  by_cases h0 : i = 0
  · subst h0
    simp only [decide_true]
    rw [KT.get_node, KT.get_node]
    by_cases hj : j = 0
    · rw [if_pos hj, if_pos hj]
    · rw [if_neg hj, if_neg hj, if_neg hj]
  · rw [decide_eq_false h0]
    by_cases p : i % 2 = 1
    · rw [decide_eq_true p]
      simp only []
      rw [KT.get_node, KT.get_node]
      by_cases hj : j = 0
      · rw [if_pos hj, if_pos hj, if_neg (fun e : j = i => h0 (e ▸ hj))]
      · rw [if_neg hj, if_neg hj]
        by_cases q : j % 2 = 1
        · rw [if_pos q, if_pos q, ih l (i / 2) (j / 2) (pg1 h p)]
          by_cases e : j = i
          · rw [if_pos e, if_pos (by rw [e])]
          · rw [if_neg e, if_neg (fun z => e (pg3 p q z))]
        · rw [if_neg q, if_neg q, if_neg (fun e : j = i => q (e ▸ p))]
    · rw [decide_eq_false p]
      simp only []
      rw [KT.get_node, KT.get_node]
      by_cases hj : j = 0
      · rw [if_pos hj, if_pos hj, if_neg (fun e : j = i => h0 (e ▸ hj))]
      · rw [if_neg hj, if_neg hj]
        by_cases q : j % 2 = 1
        · rw [if_pos q, if_pos q, if_neg (fun e : j = i => p (e ▸ q))]
        · rw [if_neg q, if_neg q, ih r (i / 2 - 1) (j / 2 - 1) (pg2 h h0 p)]
          by_cases e : j = i
          · rw [if_pos e, if_pos (by rw [e])]
          · rw [if_neg e, if_neg (fun z => e (pg4 h0 p hj q z))]
theorem put_get (o : Obj) : ∀ (n : Nat) (t : KT) (i j : Nat), i + 1 < 2 ^ n → (KT.put n t i o).get j = if j = i then some o else t.get j
  | 0, _, i, _, h => absurd h (by simp)
  | n + 1, .nil, i, j, h => by
    have z := pg_step (v := none) (l := .nil) (r := .nil) (j := j) h (put_get o n)
    rw [KT.get_node (none : Option Obj)] at z
    refine (Eq.trans ?_ z).trans ?_
    · rfl
    · by_cases e : j = i
      · rw [if_pos e, if_pos e]
      · rw [if_neg e, if_neg e]
        show _ = none
        split
        · rfl
        · split <;> rfl
  | n + 1, .node v l r, i, j, h => pg_step h (put_get o n)

/-- What the heap holds, as the simulator sees it. -/
structure Rep (V : Vw) (h₀ h : Heap) (T : KT) (m : Nat) (tb : Array Value) : Prop where
  size : h.objs.size = V.n₁ + m
  own : ∀ i o, T.get i = some o → i < m ∧ h.get? (adr V i) = some o
  keep : ∀ b o, h₀.get? b = some o → b ≠ 16 → (∀ i, V.lw i ≠ some b) → h.get? b = some o
  least : V.L ≤ m
  tab : h.get? 16 = some (tableObj tb)
  more : ∀ tb₀, h₀.get? 16 = some (tableObj tb₀) → ∃ more, tb = tb₀ ++ more

structure Hyp (V : Vw) (w : World) (h₀ : Heap) (A₀ : Around) : Prop where
  den : V.den = denote table
  ent : V.ent = entT
  quiet : V.quiet = Code.quiet
  P : V.P = w.params
  size : h₀.objs.size = V.n₁ + V.L
  lwL : ∀ i a, V.lw i = some a → i < V.L ∧ a < V.n₁ + V.L ∧ a ≠ 16
  lwN : ∀ i, i < V.L → V.lw i ≠ none
  inj : ∀ i j a, V.lw i = some a → V.lw j = some a → i = j
  topL : ∀ a o i, V.kt.get a = some o → a ≠ 16 → V.lw i ≠ some a
  parL : ∀ j a o i, V.pa j = some (a, o) → V.lw i ≠ some a
  top : ∀ a o, V.kt.get a = some o → a ≠ 16 → h₀.get? a = some o
  par : ∀ j a o, V.pa j = some (a, o) → a ≠ 16 ∧ h₀.get? a = some o
  tab : ∃ tb₀, h₀.get? 16 = some (tableObj tb₀)
  depth : A₀.depth ≤ V.D
  units : A₀.units ≤ V.U
  handled : A₀.handled = none

section
variable {V : Vw} {w : World} {h₀ h : Heap} {A₀ : Around} {T : KT} {m : Nat} {tb : Array Value}
theorem Hyp.low (O : Hyp V w h₀ A₀) : 16 < V.n₁ + V.L := by
  obtain ⟨tb₀, e⟩ := O.tab
  exact O.size ▸ Heap.lt_size e
theorem Hyp.old (O : Hyp V w h₀ A₀) {b : Addr} {o : Obj} (e : h₀.get? b = some o) : b < V.n₁ + V.L := O.size ▸ Heap.lt_size e
theorem Hyp.high (O : Hyp V w h₀ A₀) {i : Nat} (hi : V.L ≤ i) : adr V i = V.n₁ + i := by
  unfold adr
  cases e : V.lw i with
  | none => rfl
  | some a => have := (O.lwL i a e).1; omega
theorem Hyp.adr_some (O : Hyp V w h₀ A₀) {i : Nat} (hi : i < V.L) : ∃ a, V.lw i = some a ∧ adr V i = a := by
  unfold adr
  cases e : V.lw i with
  | none => exact absurd e (O.lwN i hi)
  | some a => exact ⟨a, rfl, rfl⟩
theorem Hyp.adr_inj (O : Hyp V w h₀ A₀) {i j : Nat} (h : adr V i = adr V j) : i = j := by
  rcases Nat.lt_or_ge i V.L with hi | hi <;> rcases Nat.lt_or_ge j V.L with hj | hj
  · obtain ⟨a, ea, ha⟩ := O.adr_some hi
    obtain ⟨b, eb, hb⟩ := O.adr_some hj
    exact O.inj i j a ea (by rw [eb, ← hb, ← h, ha])
  · obtain ⟨a, ea, ha⟩ := O.adr_some hi
    have hb := O.high hj
    have h1 : (a : Nat) < V.n₁ + V.L := (O.lwL i a ea).2.1
    have h2 : (a : Nat) = V.n₁ + j := (ha.symm.trans h).trans hb
    exact absurd (h2 ▸ h1) (Nat.not_lt.mpr (Nat.add_le_add_left hj _))
  · obtain ⟨b, eb, hb⟩ := O.adr_some hj
    have ha := O.high hi
    have h1 : (b : Nat) < V.n₁ + V.L := (O.lwL j b eb).2.1
    have h2 : (b : Nat) = V.n₁ + i := (hb.symm.trans h.symm).trans ha
    exact absurd (h2 ▸ h1) (Nat.not_lt.mpr (Nat.add_le_add_left hi _))
  · rw [O.high hi, O.high hj] at h
    omega
theorem Hyp.adr_ne (O : Hyp V w h₀ A₀) (i : Nat) : adr V i ≠ 16 := by
  rcases Nat.lt_or_ge i V.L with hi | hi
  · obtain ⟨a, ea, ha⟩ := O.adr_some hi
    rw [ha]; exact (O.lwL i a ea).2.2
  · rw [O.high hi]
    intro q
    exact absurd (q ▸ O.low) (Nat.not_lt.mpr (Nat.add_le_add_left hi _))
/-- An old object that is none of the low ones is no own object. -/
theorem Hyp.adr_old (O : Hyp V w h₀ A₀) {b : Addr} {o : Obj} (e : h₀.get? b = some o) (hb : ∀ i, V.lw i ≠ some b) (i : Nat) : b ≠ adr V i := by
  rcases Nat.lt_or_ge i V.L with hi | hi
  · obtain ⟨a, ea, ha⟩ := O.adr_some hi
    rw [ha]
    intro q
    exact hb i (by rw [ea, q])
  · rw [O.high hi]
    intro q
    exact absurd (q ▸ O.old e) (Nat.not_lt.mpr (Nat.add_le_add_left hi _))
theorem find_ok (O : Hyp V w h₀ A₀) (D : Rep V h₀ h T m tb) {o : Nat} {b : Nat} {x : Obj} (e : find V T tb o = some (b, x)) : h.get? b = some x := by
  unfold find at e
  split at e
  · split at e
    · cases e
    · rename_i hb
      split at e
      · rename_i y hy
        cases e
        have hn : Nat.div o 4 ≠ 16 := Nat.ne_of_beq_eq_false hb
        exact D.keep _ _ (O.top _ _ hy hn) hn (fun i => O.topL _ _ i hy hn)
      · cases e
  · split at e
    · rename_i y hy
      cases e
      exact (D.own _ _ hy).2
    · cases e
  · obtain ⟨h1, h2⟩ := O.par _ _ _ e
    exact D.keep _ _ h2 h1 (fun i => O.parL _ _ _ i e)
  · cases e
    exact D.tab
theorem Rep.alloc (O : Hyp V w h₀ A₀) (D : Rep V h₀ h T m tb) {o : Obj} (hf : o.isFreed = false) (hm : Nat.blt m 60000 = true) : Rep V h₀ (h.push o) (KT.put 16 T m o) (m + 1) tb := by
  have hm' : m < 60000 := blt_true hm
  refine ⟨by rw [Heap.size_push, D.size, Nat.add_assoc], fun i o' e => ?_, fun b o' e q q' => Heap.get?_push_of_some _ (D.keep b o' e q q'), Nat.le_succ_of_le D.least, Heap.get?_push_of_some _ D.tab, D.more⟩
  rw [put_get o 16 T m i (by omega)] at e
  by_cases hi : i = m
  · subst hi
    rw [if_pos rfl] at e
    cases e
    refine ⟨Nat.lt_succ_self _, ?_⟩
    rw [O.high D.least, ← D.size]; exact Heap.get?_push_size _ hf
  · rw [if_neg hi] at e
    have z := D.own i o' e
    exact ⟨Nat.lt_succ_of_lt z.1, Heap.get?_push_of_some _ z.2⟩
theorem Rep.update (O : Hyp V w h₀ A₀) (D : Rep V h₀ h T m tb) {i : Nat} {o : Obj} {f : Obj → Obj} (e : T.get i = some o) (hf : (f o).isFreed = false) (hi : Nat.blt i 60000 = true) :
    h.get? (adr V i) = some o ∧ Rep V h₀ (h.update (adr V i) f) (KT.put 16 T i (f o)) m tb := by
  have hi' : i < 60000 := blt_true hi
  have z := D.own _ _ e
  have hl := O.low
  have hs : Heap.SameBut (adr V i) h (h.update (adr V i) f) := Heap.SameBut.update ..
  refine ⟨z.2, by rw [hs.1, D.size], fun j o' e' => ?_, fun b o' e' q q' => ?_, D.least, ?_, D.more⟩
  · rw [put_get (f o) 16 T i j (by omega)] at e'
    by_cases hj : j = i
    · subst hj
      rw [if_pos rfl] at e'
      cases e'
      refine ⟨z.1, ?_⟩
      first | exact Heap.get?_update_self f z.2 hf | exact Heap.get?_update_self _ z.2 hf
    · rw [if_neg hj] at e'
      have y := D.own j o' e'
      exact ⟨y.1, (hs.2 _ (fun q => hj (O.adr_inj q))).trans y.2⟩
  · exact (hs.2 b (O.adr_old e' q' i)).trans (D.keep b o' e' q q')
  · exact (hs.2 16 (Ne.symm (O.adr_ne i))).trans D.tab
theorem Rep.table (O : Hyp V w h₀ A₀) (D : Rep V h₀ h T m tb) {f : Obj → Obj} {tb' : Array Value} {more : List Value} (hn : f (tableObj tb) = tableObj tb') (hm : strip tb.toList tb'.toList = some more) :
    Rep V h₀ (h.update 16 f) T m tb' := by
  have hv : tb' = tb ++ more.toArray := by
    have := strip_eq hm
    apply Array.ext'
    rw [Array.toList_append, this]
  have hl := O.low
  have hs : Heap.SameBut 16 h (h.update 16 f) := Heap.SameBut.update ..
  have hf : (f (tableObj tb)).isFreed = false := by rw [hn]; rfl
  have ge : (h.update 16 f).get? 16 = some (tableObj tb') := by
    have : (h.update 16 f).get? 16 = some (f (tableObj tb)) := by first | exact Heap.get?_update_self f D.tab hf | exact Heap.get?_update_self _ D.tab hf
    rw [this, hn]
  refine ⟨by rw [hs.1, D.size], fun i o' e' => ?_, fun b o' e' q q' => (hs.2 b q).trans (D.keep b o' e' q q'), D.least, ge, fun tb₀ e0 => ?_⟩
  · have y := D.own i o' e'
    exact ⟨y.1, (hs.2 _ (O.adr_ne i)).trans y.2⟩
  · obtain ⟨mo, em⟩ := D.more tb₀ e0
    exact ⟨mo ++ more.toArray, by rw [hv, em, Array.append_assoc]⟩
end

/-! Levels -/
noncomputable def below (A₀ : Around) : Kt → Around
  | .base => A₀
  | .ret c _ κ => match c with
    | none => A₀
    | some c => (below A₀ κ).under c
noncomputable def Cond (A₀ : Around) (c : Option Code) (κ : Kt) (Γ : Ctx) : Prop := match c with
  | none => Γ.In A₀
  | some c => Γ.code = c ∧ Γ.Below (below A₀ κ)
noncomputable def postF (M : Model) (R : Result → Shared → Prop) (c : Option Code) (Γ : Ctx) : PySem.Fin → Pos → Shared → Prop
  | .done f, _, s => R (.ok f) s
  | .again c', p, s => c.isSome = true ∧ c'.quiet = true ∧ wpCode M (Γ.goto c') R p s
noncomputable def endOf (M : Model) (A₀ : Around) (R₀ : Result → Shared → Prop) : Kt → Result → Shared → Prop
  | .base => R₀
  | .ret c k κ => fun r s => ∀ Γ p, Cond A₀ c κ Γ → Sem.wp M Γ (k r) (postF M (endOf M A₀ R₀ κ) c Γ) (fun e _ s' => endOf M A₀ R₀ κ (.error e) s') p s
noncomputable def Means (M : Model) (A₀ : Around) (R₀ : Result → Shared → Prop) (c : Option Code) (κ : Kt) (t : Sem PySem.Fin) (s : Shared) : Prop :=
  ∀ Γ p, Cond A₀ c κ Γ → Sem.wp M Γ t (postF M (endOf M A₀ R₀ κ) c Γ) (fun e _ s' => endOf M A₀ R₀ κ (.error e) s') p s

section
variable {M : Model} {A₀ : Around} {R₀ : Result → Shared → Prop} {c : Option Code} {κ : Kt} {s : Shared}
theorem postF_fin {R : Result → Shared → Prop} {c' : Code} {Γ : Ctx} {fin : PySem.Fin} {p : Pos} {s : Shared} (h : postF M R (some c') Γ fin p s) : Sem.finPost M Γ R fin p s := by
  cases fin with
  | done f => exact h
  | again c'' => exact ⟨h.2.1, h.2.2⟩
theorem fin_postF {R : Result → Shared → Prop} {c' : Code} {Γ : Ctx} {fin : PySem.Fin} {p : Pos} {s : Shared} (h : Sem.finPost M Γ R fin p s) : postF M R (some c') Γ fin p s := by
  cases fin with
  | done f => exact h
  | again c'' => exact ⟨rfl, h.1, h.2⟩
theorem Means.code {c' : Code} (h : Means M A₀ R₀ (some c') κ (M.den c') s) {Γ : Ctx} {p : Pos} (hc : Γ.code = c') (hb : Γ.Below (below A₀ κ)) : wpCode M Γ (endOf M A₀ R₀ κ) p s := by
  rw [wpCode_iff_wp, hc]
  exact Sem.wp_mono M Γ _ (fun _ _ _ x => postF_fin x) (fun _ _ _ x => x) p s (h Γ p ⟨hc, hb⟩)
theorem mark_none (A : Around) : A.mark none = A := by
  cases A; simp [Around.mark]
theorem enter_below (c' : Code) (k : Result → Sem PySem.Fin) {Γ : Ctx} (h : Cond A₀ c κ Γ) (p : Pos) : (Γ.enter c' none p).Below (below A₀ (.ret c k κ)) := by
  cases c with
  | none =>
    have z := Ctx.In.enter (show Γ.In A₀ from h) c' none p (by simp)
    rw [mark_none] at z
    exact z
  | some c =>
    obtain ⟨h1, h2⟩ := h
    have y := h2.in
    rw [h1] at y
    have z := Ctx.In.enter y c' none p (by simp)
    rw [mark_none] at z
    exact z
theorem dite_le {c : Prop} [Decidable c] {a : c → Nat} {b : ¬ c → Nat} (ha : ∀ h, a h ≤ 3) (hb : ∀ h, b h ≤ 3) : (if h : c then a h else b h) ≤ 3 := by
  by_cases h : c
  · rw [dif_pos h]; exact ha h
  · rw [dif_neg h]; exact hb h
theorem ite_le {c : Prop} [Decidable c] : (if c then 1 else 0) ≤ 3 := by split <;> decide
theorem ite_le1 {c : Prop} [Decidable c] : (if c then 1 else 0) ≤ 1 := by split <;> decide
theorem frames_le (id : String) (args : Args) : (Code.builtin id args).frames ≤ 3 := by
  delta Code.frames Code.frames.match_1 Code.frames._sparseCasesOn_1
  dsimp only
  refine dite_le (fun h => by subst h; decide) fun _ => ?_
  refine dite_le (fun h => by subst h; decide) fun _ => ?_
  refine dite_le (fun h => by subst h; decide) fun _ => ?_
  refine dite_le (fun h => by subst h; decide) fun _ => ?_
  refine dite_le (fun h => by subst h; decide) fun _ => ?_
  refine dite_le (fun h => by subst h; decide) fun _ => ?_
  refine dite_le (fun h => by subst h; decide) fun _ => ?_
  refine dite_le (fun h => by subst h; decide) fun _ => ?_
  refine dite_le (fun h => by subst h; decide) fun _ => ?_
  exact ite_le
theorem weight_le (c : Code) : c.weight ≤ wB c := by
  cases c with
  | builtin id args =>
    have h1 := frames_le id args
    unfold Code.weight wB claimMargin
    simp only []
    have : claimMargin = 300 := rfl
    split <;> split <;> split <;> omega
  | compStart e d it acc env =>
    unfold Code.weight wB
    have h1 : (Code.compStart e d it acc env).frames ≤ 1 := ite_le1
    have h2 : (Code.compStart e d it acc env).isCreation = false := rfl
    have h3 : (Code.compStart e d it acc env).isGuard = false := rfl
    have h4 : (Code.compStart e d it acc env).isCaller = false := rfl
    rw [h2, h3, h4]
    simpa using h1
  | compLoop e d it acc env =>
    unfold Code.weight wB
    have h1 : (Code.compLoop e d it acc env).frames ≤ 1 := ite_le1
    have h2 : (Code.compLoop e d it acc env).isCreation = false := rfl
    have h3 : (Code.compLoop e d it acc env).isGuard = false := rfl
    have h4 : (Code.compLoop e d it acc env).isCaller = false := rfl
    rw [h2, h3, h4]
    simpa using h1
  | _ => exact Nat.le_of_eq rfl
theorem units_le (c : Code) : c.cUnits ≤ uB c := by
  cases c with
  | builtin id args =>
    have h1 := frames_le id args
    show 1 + 3 * (Code.builtin id args).frames ≤ 10
    omega
  | compStart e d it acc env =>
    have h1 : (Code.compStart e d it acc env).frames ≤ 1 := ite_le1
    show 3 * _ ≤ 3
    omega
  | compLoop e d it acc env =>
    have h1 : (Code.compLoop e d it acc env).frames ≤ 1 := ite_le1
    show 3 * _ ≤ 3
    omega
  | _ => exact Nat.le_of_eq rfl
theorem below_le {D U : Nat} (h1 : A₀.depth ≤ D) (h2 : A₀.units ≤ U) (h3 : A₀.handled = none) : ∀ κ : Kt, (below A₀ κ).depth ≤ D + wtK κ ∧ (below A₀ κ).units ≤ U + utK κ ∧ (below A₀ κ).handled = none
  | .base => ⟨h1, h2, h3⟩
  | .ret none _ _ => ⟨h1, h2, h3⟩
  | .ret (some c) _ κ => by
    obtain ⟨a, b, d⟩ := below_le h1 h2 h3 κ
    have := weight_le c
    have := units_le c
    refine ⟨?_, ?_, d⟩
    · show (below A₀ κ).depth + c.weight ≤ D + (wB c + wtK κ)
      omega
    · show (below A₀ κ).units + c.cUnits ≤ U + (uB c + utK κ)
      omega
theorem cond_handled (h3 : A₀.handled = none) {Γ : Ctx} (h : Cond A₀ c κ Γ) : Γ.handled = none := by
  cases c with
  | none => exact (show Γ.In A₀ from h).1.trans h3
  | some c => exact h.2.1.trans (below_le (Nat.le_refl _) (Nat.le_refl _) h3 κ).2.2
end
end Mine


set_option maxRecDepth 100000
set_option Elab.async false
namespace Mine
open PySem PySem.Calls PyProof.Rows PySem.W PySem.W.X

theorem wp_enter {M : Model} {Γ : Ctx} {A : Around} {X : Sem PySem.Fin} {Q : PySem.Fin → Pos → Shared → Prop} {E : Value → Pos → Shared → Prop} {p : Pos} {s : Shared} {wd : String} (hA : Γ.In A) (hd : A.depth < recursionLimit)
    (h : Sem.wp M Γ (currentRecursionLimit.bind fun lim => match Nat.beq lim 1000 with | true => X | false => .unsupported wd) Q E p s) :
    Sem.wp M Γ (enterFrame.bind fun _ => X) Q E p s := by
  rw [Sem.wp_bind] at h ⊢
  unfold enterFrame
  rw [Sem.wp_bind']
  show Sem.wp M Γ (do
      let limit ← currentRecursionLimit
      _) _ _ p s
  rw [Sem.wp_bind']
  refine Sem.wp_mono M Γ _ (fun lim p' s' h' => ?_) (fun _ _ _ h' => h') p s h
  cases hb : Nat.beq lim 1000 with
  | false => rw [hb] at h'; simp at h'
  | true =>
    rw [hb] at h'
    simp only [] at h'
    have hl : lim = recursionLimit := Nat.eq_of_beq_eq_true hb
    subst hl
    have hsum : ((((Γ.code, p) :: Γ.below).map (·.1)).map (·.frames)).sum + ((((Γ.code, p) :: Γ.below).map (·.1)).filter Code.isCreation).length < recursionLimit := by
      have hge := frameCount_ge ((Γ.code, p) :: Γ.below)
      rw [frameCount_cons] at hge
      have := hA.2.1
      omega
    have hlt : ¬ ((((Γ.code, p) :: Γ.below).map (·.1)).map (·.frames)).sum ≥ recursionLimit := by omega
    have hlt' : ¬ ((((Γ.code, p) :: Γ.below).map (·.1)).map (·.frames)).sum + ((((Γ.code, p) :: Γ.below).map (·.1)).filter Code.isCreation).length ≥ recursionLimit := by omega
    show Sem.wp M Γ (if nearTheLimitUnderAClaim (((Γ.code, p) :: Γ.below).map (·.1)) (((((Γ.code, p) :: Γ.below).map (·.1)).map (·.frames)).sum + ((((Γ.code, p) :: Γ.below).map (·.1)).filter Code.isCreation).length) recursionLimit = true then _ else _) _ _ p' s'
    rw [if_neg (by rw [not_nearTheLimit hA hd]; exact Bool.false_ne_true)]
    show Sem.wp M Γ (if ((((Γ.code, p) :: Γ.below).map (·.1)).map (·.frames)).sum ≥ recursionLimit then _ else _) _ _ p' s'
    rw [if_neg hlt]
    show Sem.wp M Γ (if ((((Γ.code, p) :: Γ.below).map (·.1)).map (·.frames)).sum + ((((Γ.code, p) :: Γ.below).map (·.1)).filter Code.isCreation).length ≥ recursionLimit then _ else _) _ _ p' s'
    rw [if_neg hlt']
    exact h'

theorem wp_ent {M : Model} {Γ : Ctx} {A : Around} {a : Addr} {args : Args} {o : Obj} {fd : FuncData} {Q : PySem.Fin → Pos → Shared → Prop} {E : Value → Pos → Shared → Prop} {p : Pos} {s : Shared}
    (ho : s.heap.get? a = some o) (hd : o.data = .func fd) (hok : funcOk fd = true) (hA : Γ.In A) (hdep : A.depth < recursionLimit) (h : Sem.wp M Γ (entT a fd args) Q E p s) :
    Sem.wp M Γ (callAny (.ref a) args) Q E p s := by
  unfold funcOk at hok
  cases hb : fd.body with
  | expr e => rw [hb] at hok; cases hok
  | stmts b =>
    rw [hb] at hok
    simp only [Bool.and_eq_true, Bool.not_eq_true'] at hok
    obtain ⟨hg, hc⟩ := hok
    simp only [callAny]
    rw [Sem.wp_bind', Sem.wp_load_of M Γ _ p s ho]
    simp only [hd, callFunction, hc, hg, hb]
    unfold entT at h
    rw [Sem.wp_bind] at h
    have key : ∀ (q : Str) p' s', Sem.wp M Γ ((bindArgs fd args).bind fun bs =>
        (newFunctionEnv fd.scope fd.globals fd.closure bs (q ++ ".<locals>.") (some a) fd.code none fd.builtins).bind fun env =>
          currentRecursionLimit.bind fun lim => match Nat.beq lim 1000 with
            | true => .pure (.again (.func (entBody fd) env))
            | false => .unsupported "limit") Q E p' s' → Sem.wp M Γ (do
          let env ← newFunctionEnv fd.scope fd.globals fd.closure (← bindArgs fd args) (q ++ ".<locals>.") (some a) fd.code none fd.builtins
          enterFrame
          again (.func b env)) Q E p' s' := by
      intro q p' s' h'
      rw [Sem.wp_bind] at h'
      rw [Sem.wp_bind']
      refine Sem.wp_mono M Γ _ (fun bs p1 s1 h1 => ?_) (fun _ _ _ x => x) p' s' h'
      rw [Sem.wp_bind] at h1
      rw [Sem.wp_bind']
      refine Sem.wp_mono M Γ _ (fun env p2 s2 h2 => ?_) (fun _ _ _ x => x) p1 s1 h1
      have e : entBody fd = b := by unfold entBody; rw [hb]
      rw [e] at h2
      exact wp_enter hA hdep h2
    unfold entName at h
    cases hcode : fd.code with
    | none =>
      simp only [hcode] at key h ⊢
      exact key _ _ _ h
    | _ =>
      simp only [hcode] at key h ⊢
      rw [Sem.wp_bind] at h
      rw [Sem.wp_bind']
      refine Sem.wp_mono M Γ _ (fun v p1 s1 h1 => ?_) (fun _ _ _ x => x) p s h
      cases v <;> exact key _ _ _ h1
end Mine


set_option maxRecDepth 100000
set_option Elab.async false
set_option linter.unusedSectionVars false
set_option linter.unusedVariables false
namespace Mine
open PySem PySem.Calls PyProof.Rows PySem.W PySem.W.X

noncomputable def SpecOk (V : Vw) (w : World) (h₀ : Heap) (gens : Array GenState) (d : Drawn) (os : OsState) (S : Spec) : Prop :=
  ∀ c' T m i tb r T' m' i' tb' x y, S.run c' T m i tb = some (r, T', m', i', tb', x, y) → x = y → ∀ h A (R : Result → Shared → Prop), Rep V h₀ h T m tb → A.depth ≤ S.D → A.units ≤ S.U → A.handled = none →
    (∀ h', Rep V h₀ h' T' m' tb' → R (.ok (.ret r)) ⟨h', gens, d, V.t₀ + i', os⟩) → codeAny (model V.prog w) A c' R ⟨h, gens, d, V.t₀ + i, os⟩

section
variable (V : Vw) (w : World) (h₀ : Heap) (A₀ : Around) (gens : Array GenState) (d : Drawn) (os : OsState)

noncomputable abbrev sh (h : Heap) (i : Nat) : Shared := ⟨h, gens, d, V.t₀ + i, os⟩

/-- What is owed for a run's end. -/
noncomputable def Owe : Out → (Result → Shared → Prop) → Prop
  | .ok r T' m' i' tb' _ _, R₀ => ∀ h', Rep V h₀ h' T' m' tb' → R₀ r (sh V gens d os h' i')
  | .agn c' T' m' i' tb' _ _, R₀ => ∀ h', Rep V h₀ h' T' m' tb' → codeAny (model V.prog w) A₀ c' R₀ (sh V gens d os h' i')
  | _, _ => False
noncomputable def lists : Out → Option (List Ob × List Ob)
  | .ok _ _ _ _ _ la lc => some (la, lc)
  | .agn _ _ _ _ _ la lc => some (la, lc)
  | _ => none
noncomputable def Snd (o : Out) (la lc : List Ob) (claim : (Result → Shared → Prop) → Prop) : Prop :=
  ∀ la' lc', lists o = some (la', lc') → la' = lc' → la = lc ∧ ∀ R₀ : Result → Shared → Prop, Owe V w h₀ A₀ gens d os o R₀ → claim R₀

noncomputable def MeansAt (c : Option Code) (κ : Kt) (t : Sem PySem.Fin) (T : KT) (m i : Nat) (tb : Array Value) (R₀ : Result → Shared → Prop) : Prop :=
  ∀ h, Rep V h₀ h T m tb → Means (model V.prog w) A₀ R₀ c κ t (sh V gens d os h i)

noncomputable def IHTy (ih : SimTy) : Prop := ∀ sl orc c κ t T m i tb la lc, Snd V w h₀ A₀ gens d os (ih sl orc c κ t T m i tb la lc) la lc (MeansAt V w h₀ A₀ gens d os c κ t T m i tb)

variable {V w h₀ A₀ gens d os}

theorem Snd.mono {o : Out} {la lc : List Ob} {P Q : (Result → Shared → Prop) → Prop} (h : Snd V w h₀ A₀ gens d os o la lc P) (hPQ : ∀ R₀, P R₀ → Q R₀) : Snd V w h₀ A₀ gens d os o la lc Q :=
  fun la' lc' e q => ⟨(h la' lc' e q).1, fun R₀ hR => hPQ R₀ ((h la' lc' e q).2 R₀ hR)⟩
theorem Snd.cons {o : Out} {x y : Ob} {la lc : List Ob} {P Q : (Result → Shared → Prop) → Prop} (h : Snd V w h₀ A₀ gens d os o (x :: la) (y :: lc) P) (hPQ : x = y → ∀ R₀, P R₀ → Q R₀) : Snd V w h₀ A₀ gens d os o la lc Q :=
  fun la' lc' e q => by
    obtain ⟨a, b⟩ := h la' lc' e q
    injection a with a1 a2
    exact ⟨a2, fun R₀ hR => hPQ a1 R₀ (b R₀ hR)⟩
theorem Snd.bad {n a : Nat} {la lc : List Ob} {P : (Result → Shared → Prop) → Prop} : Snd V w h₀ A₀ gens d os (.bad n a) la lc P := fun _ _ e => by cases e
theorem Snd.word {x : String} {la lc : List Ob} {P : (Result → Shared → Prop) → Prop} : Snd V w h₀ A₀ gens d os (.word x) la lc P := fun _ _ e => by cases e

section
variable {ih : SimTy} (IH : IHTy V w h₀ A₀ gens d os ih)
include IH

theorem popK_snd (r : Result) (κ : Kt) (sl orc T m i tb la lc) : Snd V w h₀ A₀ gens d os (popK ih r κ sl orc T m i tb la lc) la lc (fun R₀ => ∀ h, Rep V h₀ h T m tb → endOf (model V.prog w) A₀ R₀ κ r (sh V gens d os h i)) := by
  cases κ with
  | base =>
    intro la' lc' e q
    have e' : (la, lc) = (la', lc') := Option.some.inj e
    injection e' with e1 e2
    exact ⟨by rw [e1, e2, q], fun R₀ hR h D => hR h D⟩
  | ret c k κ => exact (IH sl orc c κ (k r) T m i tb la lc).mono fun R₀ z h D => z h D

variable (O : Hyp V w h₀ A₀)
include O

theorem sLoad_snd (sl orc) (c : Option Code) (κ : Kt) (a : Nat) (q : Option Value) (k : Obj → Sem PySem.Fin) (T m i tb la lc) :
    Snd V w h₀ A₀ gens d os (sLoad V ih sl orc c κ a k T m i tb la lc) la lc (MeansAt V w h₀ A₀ gens d os c κ (.load a q k) T m i tb) := by
  unfold sLoad
  cases orc with
  | nil => exact Snd.bad
  | cons o orc =>
    simp only []
    cases hf : find V T tb o with
    | none => exact Snd.bad
    | some bx =>
      obtain ⟨b, x⟩ := bx
      refine (IH sl orc c κ (k x) T m i tb (.n a :: la) (.n b :: lc)).cons fun e R₀ z h D Γ p hc => ?_
      injection e with e
      subst e
      exact ⟨x, find_ok O D hf, z h D Γ p hc⟩
theorem sAlive_snd (sl orc) (c : Option Code) (κ : Kt) (a : Nat) (k : Option Obj → Sem PySem.Fin) (T m i tb la lc) :
    Snd V w h₀ A₀ gens d os (sLoad V ih sl orc c κ a (fun o => k (some o)) T m i tb la lc) la lc (MeansAt V w h₀ A₀ gens d os c κ (.loadIfAlive a k) T m i tb) := by
  unfold sLoad
  cases orc with
  | nil => exact Snd.bad
  | cons o orc =>
    simp only []
    cases hf : find V T tb o with
    | none => exact Snd.bad
    | some bx =>
      obtain ⟨b, x⟩ := bx
      refine (IH sl orc c κ (k (some x)) T m i tb (.n a :: la) (.n b :: lc)).cons fun e R₀ z h D Γ p hc => ?_
      injection e with e
      subst e
      have y := z h D Γ p hc
      show Sem.wp _ Γ (k (h.get? a)) _ _ p _
      rw [find_ok O D hf]
      exact y
theorem sAlloc_snd (sl orc) (c : Option Code) (κ : Kt) (x : Obj) (k : Addr → Sem PySem.Fin) (T m i tb la lc) :
    Snd V w h₀ A₀ gens d os (sAlloc V ih sl orc c κ x k T m i tb la lc) la lc (MeansAt V w h₀ A₀ gens d os c κ (.alloc x k) T m i tb) := by
  unfold sAlloc
  cases hf : x.isFreed with
  | true => exact Snd.bad
  | false =>
    simp only []
    cases hm : Nat.blt m 60000 with
    | false => exact Snd.bad
    | true =>
      simp only []
      rw [forceO_eq]
      refine (IH sl orc c κ (k (Nat.add V.n₁ m)) (KT.put 16 T m x) (Nat.succ m) i tb la lc).mono fun R₀ z h D Γ p hc => ?_
      have y := z _ (D.alloc O hf hm) Γ p hc
      show Sem.wp _ Γ (k h.objs.size) _ _ p _
      rw [D.size]
      exact y
theorem sUpdate_snd (sl orc) (c : Option Code) (κ : Kt) (a : Nat) (q : Option Value) (f : Obj → Obj) (k : Unit → Sem PySem.Fin) (T m i tb la lc) :
    Snd V w h₀ A₀ gens d os (sUpdate V ih sl orc c κ a f k T m i tb la lc) la lc (MeansAt V w h₀ A₀ gens d os c κ (.update a q f k) T m i tb) := by
  unfold sUpdate
  cases orc with
  | nil => exact Snd.bad
  | cons o orc =>
    simp only []
    split
    · split
      · rename_i x hx
        split
        · exact Snd.bad
        · rename_i hf
          split
          · rename_i hi
            rw [forceO_eq]
            refine (IH sl orc c κ (k ()) (KT.put 16 T (Nat.div o 4) (f x)) m i tb (.n a :: la) (.n (adr V (Nat.div o 4)) :: lc)).cons fun e R₀ z h D Γ p hc => ?_
            injection e with e
            have e' : a = adr V (Nat.div o 4) := e
            subst e'
            obtain ⟨h1, h2⟩ := D.update O hx hf hi
            exact ⟨by show (h.get? _).isSome = true; rw [h1]; rfl, z _ h2 Γ p hc⟩
          · exact Snd.bad
      · exact Snd.bad
    · split
      · rename_i tb' ht
        split
        · rename_i more hm
          refine (IH sl orc c κ (k ()) T m i tb' (.n a :: la) (.n 16 :: lc)).cons fun e R₀ z h D Γ p hc => ?_
          injection e with e
          subst e
          have h2 := D.table O (tabOf_eq ht) hm
          exact ⟨by show (h.get? _).isSome = true; rw [D.tab]; rfl, z _ h2 Γ p hc⟩
        · exact Snd.bad
      · exact Snd.bad
    · exact Snd.bad
theorem sStack_snd (sl orc) (c : Option Code) (κ : Kt) (k : List (Code × Pos) → Sem PySem.Fin) (T m i tb la lc) :
    Snd V w h₀ A₀ gens d os (sStack ih sl orc c κ k T m i tb la lc) la lc (MeansAt V w h₀ A₀ gens d os c κ (.stack k) T m i tb) := by
  unfold sStack
  cases c with
  | none => exact Snd.bad
  | some c =>
    simp only []
    refine (IH sl orc (some c) κ (k [(c, ⟨0, 0, 0, 0⟩)]) T m i tb _ _).cons fun e R₀ z h D Γ p hc => ?_
    injection e with e
    have y := z h D Γ p hc
    show Sem.wp _ Γ (k ((Γ.code, p) :: Γ.below)) _ _ p _
    rw [hc.1]
    have e' : k ((c, p) :: Γ.below) = k [(c, ⟨0, 0, 0, 0⟩)] := congrFun (congrFun e p) Γ.below
    rw [e']
    exact y
theorem again_wp {c : Option Code} {c1 : Code} (hc1 : c = some c1) {κ : Kt} {c' : Code} {R₀ : Result → Shared → Prop} {s : Shared} (hq : c'.quiet = true)
    (h : ∀ Γ p, Γ.code = c' → Γ.Below (below A₀ κ) → wpCode (model V.prog w) Γ (endOf (model V.prog w) A₀ R₀ κ) p s) : Means (model V.prog w) A₀ R₀ c κ (.pure (.again c')) s := by
  subst hc1
  intro Γ p hc
  exact ⟨rfl, hq, h (Γ.goto c') p rfl (hc.2.goto c')⟩
variable (SO : ∀ j S, V.sp j = some S → SpecOk V w h₀ gens d os S)
include SO
theorem spSpec_snd {nx : Value → Rest} {j dd uu : Nat} {c' : Code} (sl orc T m i tb la lc) {P : (Result → Shared → Prop) → Prop}
    (hn : ∀ r T' m' i' tb' x y, Snd V w h₀ A₀ gens d os (nx r T' m' i' tb' (x :: la) (y :: lc)) (x :: la) (y :: lc) (fun R₀ => (∀ A (R : Result → Shared → Prop) h, Rep V h₀ h T m tb → A.depth ≤ V.D + dd → A.units ≤ V.U + uu → A.handled = none →
      (∀ h', Rep V h₀ h' T' m' tb' → R (.ok (.ret r)) (sh V gens d os h' i')) → codeAny (model V.prog w) A c' R (sh V gens d os h i)) → P R₀)) :
    Snd V w h₀ A₀ gens d os (spSpec V ih sl orc j dd uu c' nx T m i tb la lc) la lc P := by
  unfold spSpec
  cases hj : V.sp j with
  | none => exact Snd.bad
  | some S =>
    simp only []
    cases h1 : Nat.ble (V.D + dd) S.D with
    | false => exact Snd.bad
    | true =>
      simp only []
      cases h2 : Nat.ble (V.U + uu) S.U with
      | false => exact Snd.bad
      | true =>
        simp only []
        cases hr : S.run c' T m i tb with
        | none => exact Snd.bad
        | some q =>
          obtain ⟨r, T', m', i', tb', x, y⟩ := q
          refine (hn r T' m' i' tb' x y).cons fun e R₀ z => z fun A R h D ha hu hh hR => ?_
          exact SO j S hj c' T m i tb r T' m' i' tb' x y hr e h A R D (Nat.le_trans ha (Nat.le_of_ble_eq_true h1)) (Nat.le_trans hu (Nat.le_of_ble_eq_true h2)) hh hR
omit SO in
theorem spUser_snd (sl orc) (c : Option Code) (κ : Kt) (c' : Code) (g : Bool) (l : List Value) (k : Result → Sem PySem.Fin) (o : Nat) (T m i tb la lc) :
    Snd V w h₀ A₀ gens d os (spUser V ih sl orc c κ c' k o T m i tb la lc) la lc (MeansAt V w h₀ A₀ gens d os c κ (.call c' none g l k) T m i tb) := by
  unfold spUser
  split
  · rename_i f args
    split
    · rename_i a
      split
      · exact Snd.bad
      · rename_i bx hf
        obtain ⟨b, x⟩ := bx
        simp only []
        split
        · rename_i fd hfd
          split
          · rename_i hok
            split
            · rename_i hdep
              refine (IH sl orc (some (.call (.ref a) args)) (.ret c k κ) (V.ent a fd args) T m i tb (.n a :: la) (.n b :: lc)).cons fun e R₀ z h D Γ p hc => ?_
              injection e with e
              subst e
              have y := z h D
              rw [O.ent] at y
              have hb := enter_below (.call (.ref a) args) k hc p
              have hle := (below_le O.depth O.units O.handled (.ret c k κ)).1
              have hd' := blt_true hdep
              show wpCode _ _ _ _ _
              have u : wpCode (model V.prog w) (Γ.enter (.call (.ref a) args) none p) (endOf (model V.prog w) A₀ R₀ (.ret c k κ)) p (sh V gens d os h i) := by
                rw [wpCode_iff_wp]
                have v := y (Γ.enter (.call (.ref a) args) none p) p ⟨rfl, hb⟩
                have hin : (Γ.enter (.call (.ref a) args) none p).In ((below A₀ (.ret c k κ)).under (.call (.ref a) args)) := hb.in
                refine wp_ent (find_ok O D hf) hfd hok hin ?_ (Sem.wp_mono _ _ _ (fun _ _ _ q => postF_fin q) (fun _ _ _ q => q) p _ v)
                show (below A₀ (.ret c k κ)).depth + 0 < recursionLimit
                have : recursionLimit = 1000 := rfl
                omega
              exact wpCode_mono (fun r s' hr => hr Γ p hc) u
            · exact Snd.bad
          · exact Snd.bad
        · exact Snd.bad
    · exact Snd.bad
  · exact Snd.bad

theorem sCall_snd (sl orc) (c : Option Code) (κ : Kt) (c' : Code) (hd : Option Value) (g : Bool) (l : List Value) (k : Result → Sem PySem.Fin) (T m i tb la lc) :
    Snd V w h₀ A₀ gens d os (sCall V ih sl orc c κ c' hd k T m i tb la lc) la lc (MeansAt V w h₀ A₀ gens d os c κ (.call c' hd g l k) T m i tb) := by
  unfold sCall
  cases hd with
  | some _ => exact Snd.bad
  | none =>
    have plain : ∀ sl', Snd V w h₀ A₀ gens d os (ih sl' orc (some c') (.ret c k κ) (V.den c') T m i tb la lc) la lc (MeansAt V w h₀ A₀ gens d os c κ (.call c' none g l k) T m i tb) := by
      intro sl'
      refine (IH sl' orc (some c') (.ret c k κ) (V.den c') T m i tb la lc).mono fun R₀ z h D Γ p hc => ?_
      have y := z h D
      rw [O.den] at y
      have u := Means.code (M := model V.prog w) (c' := c') y (Γ := Γ.enter c' none p) (p := p) rfl (enter_below c' k hc p)
      show wpCode _ _ _ _ _
      exact wpCode_mono (fun r s' hr => hr Γ p hc) u
    cases sl with
    | nil => exact plain []
    | cons e sl' =>
      cases e with
      | zero => exact plain sl'
      | succ e =>
        simp only []
        cases Nat.beq (Nat.mod e 2) 0 with
        | false => exact spUser_snd IH O sl' orc c κ c' g l k (Nat.div e 2) T m i tb la lc
        | true =>
          refine spSpec_snd IH O SO sl' orc T m i tb la lc fun r T' m' i' tb' x y => ?_
          refine (IH sl' orc c κ (k (.ok (.ret r))) T' m' i' tb' (x :: la) (y :: lc)).mono fun R₀ z hs h D Γ p hc => ?_
          have hle := below_le O.depth O.units O.handled (.ret c k κ)
          have hb := enter_below c' k hc p
          show wpCode _ _ _ _ _
          exact hs (below A₀ (.ret c k κ)) (fun r s' => Sem.wp (model V.prog w) Γ (k r) _ _ p s') h D hle.1 hle.2.1 hle.2.2 (fun h' D' => z h' D' Γ p hc) _ p rfl hb
theorem sAgain_snd (sl orc) (c : Option Code) (κ : Kt) (c' : Code) (T m i tb la lc) :
    Snd V w h₀ A₀ gens d os (sAgain V ih sl orc c κ c' T m i tb la lc) la lc (MeansAt V w h₀ A₀ gens d os c κ (.pure (.again c')) T m i tb) := by
  unfold sAgain
  cases c with
  | none => exact Snd.bad
  | some c1 =>
    simp only []
    cases hq : V.quiet c' with
    | false => exact Snd.bad
    | true =>
      simp only []
      rw [O.quiet] at hq
      have plain : ∀ sl', Snd V w h₀ A₀ gens d os (ih sl' orc (some c') κ (V.den c') T m i tb la lc) la lc (MeansAt V w h₀ A₀ gens d os (some c1) κ (.pure (.again c')) T m i tb) := by
        intro sl'
        refine (IH sl' orc (some c') κ (V.den c') T m i tb la lc).mono fun R₀ z h D => ?_
        have y := z h D
        rw [O.den] at y
        exact again_wp IH O rfl hq fun Γ p h1 h2 => Means.code (M := model V.prog w) (c' := c') y h1 h2
      cases V.st c' with
      | true =>
        cases κ with
        | ret _ _ _ => exact Snd.bad
        | base =>
          intro la' lc' e q
          have e' : (la, lc) = (la', lc') := Option.some.inj e
          injection e' with e1 e2
          exact ⟨by rw [e1, e2, q], fun R₀ hR h D => again_wp IH O rfl hq fun Γ p h1 h2 => hR h D Γ p h1 h2⟩
      | false =>
       cases V.cs c' with
       | false => exact plain sl
       | true =>
        simp only []
        cases sl with
        | nil => exact plain []
        | cons e sl' =>
          cases e with
          | zero => exact plain sl'
          | succ e =>
            simp only []
            refine spSpec_snd IH O SO sl' orc T m i tb la lc fun r T' m' i' tb' x y => ?_
            refine (popK_snd IH (.ok (.ret r)) κ sl' orc T' m' i' tb' (x :: la) (y :: lc)).mono fun R₀ z hs h D => ?_
            have hle := below_le O.depth O.units O.handled κ
            refine again_wp IH O rfl hq fun Γ p h1 h2 => ?_
            exact hs (below A₀ κ) (endOf (model V.prog w) A₀ R₀ κ) h D hle.1 hle.2.1 hle.2.2 (fun h' D' => z h' D') Γ p h1 h2
theorem step_snd (sl orc) (c : Option Code) (κ : Kt) (t : Sem PySem.Fin) (T m i tb la lc) :
    Snd V w h₀ A₀ gens d os (step V ih sl orc c κ t T m i tb la lc) la lc (MeansAt V w h₀ A₀ gens d os c κ t T m i tb) := by
  cases t with
  | pure fin =>
    cases fin with
    | done f => exact (popK_snd IH (.ok f) κ sl orc T m i tb la lc).mono fun R₀ z h D Γ p hc => z h D
    | again c' => exact sAgain_snd IH O SO sl orc c κ c' T m i tb la lc
  | raise e => exact (popK_snd IH (.error e) κ sl orc T m i tb la lc).mono fun R₀ z h D Γ p hc => z h D
  | rule _ k => exact (IH sl orc c κ (k ()) T m i tb la lc).mono fun R₀ z h D Γ p hc => z h D Γ p hc
  | «at» q k => exact (IH sl orc c κ (k ()) T m i tb la lc).mono fun R₀ z h D Γ p hc => z h D Γ q hc
  | point _ k => exact (IH sl orc c κ (k ()) T m i tb la lc).mono fun R₀ z h D Γ p hc => z h D Γ p hc
  | ask k =>
    refine (IH sl orc c κ (k ⟨V.prog, V.P⟩) T m i tb la lc).mono fun R₀ z h D Γ p hc => ?_
    have y := z h D Γ p hc
    rw [O.P] at y
    exact y
  | load a q k => exact sLoad_snd IH O sl orc c κ a q k T m i tb la lc
  | loadIfAlive a k => exact sAlive_snd IH O sl orc c κ a k T m i tb la lc
  | alloc x k => exact sAlloc_snd IH O sl orc c κ x k T m i tb la lc
  | update a q f k => exact sUpdate_snd IH O sl orc c κ a q f k T m i tb la lc
  | fresh k => exact (IH sl orc c κ (k (Nat.add V.t₀ i)) T m (Nat.succ i) tb la lc).mono fun R₀ z h D Γ p hc => z h D Γ p hc
  | handled own k =>
    cases own with
    | true => exact Snd.bad
    | false =>
      refine (IH sl orc c κ (k none) T m i tb la lc).mono fun R₀ z h D Γ p hc => ?_
      have y := z h D Γ p hc
      show Sem.wp _ Γ (k Γ.handled) _ _ p _
      rw [cond_handled O.handled hc]
      exact y
  | stack k => exact sStack_snd IH O sl orc c κ k T m i tb la lc
  | call c' hd g l k => exact sCall_snd IH O SO sl orc c κ c' hd g l k T m i tb la lc
  | unsupported x => exact Snd.word
  | finish => exact Snd.bad
  | register => exact Snd.bad
  | choose => exact Snd.bad
  | os => exact Snd.bad
  | newGen => exact Snd.bad
  | genState => exact Snd.bad
  | resume => exact Snd.bad
  | yield => exact Snd.bad
  | fork => exact Snd.bad
  | thread => exact Snd.bad
  | await => exact Snd.bad

end
theorem loop_snd (O : Hyp V w h₀ A₀) (SO : ∀ j S, V.sp j = some S → SpecOk V w h₀ gens d os S) : ∀ n, IHTy V w h₀ A₀ gens d os (loop V n)
  | 0 => fun _ _ _ _ _ _ _ _ _ _ _ => Snd.bad
  | n + 1 => by
    rw [loop_succ]
    exact fun sl orc c κ t T m i tb la lc => step_snd (loop_snd O SO n) O SO sl orc c κ t T m i tb la lc
end
end Mine


set_option maxRecDepth 100000
set_option Elab.async false
set_option linter.unusedSectionVars false
set_option linter.unusedVariables false
namespace Mine
open PySem PySem.Calls PyProof.Rows PySem.W PySem.W.X

noncomputable def erase : Value → Value
  | .int i _ => .int i 0
  | .float b _ => .float b 0
  | .str s _ => .str s 0
  | .bytes b _ => .bytes b 0
  | v => v
noncomputable def eraseO : Obj → Obj
  | ⟨c, d, x, s⟩ => match x with
    | .seq vs _ => ⟨c, d, .seq ⟨vs.toList.map erase⟩ 0, s⟩
    | x => ⟨c, d, x, s⟩

/-- What a run leaves behind. -/
structure After (h h' : Heap) (n W : Nat) (tb tb' : Array Value) (new : List (Nat × Obj)) : Prop where
  size : h'.objs.size = n + W
  keep : ∀ b o, h.get? b = some o → b ≠ 16 → h'.get? b = some o
  tab : h'.get? 16 = some (tableObj tb')
  more : ∃ more, tb' = tb ++ more
  new : ∀ j o, (j, o) ∈ new → j < W ∧ h'.get? (n + j) = some o

noncomputable def outR (o : Out) (js : List Nat) : Option (Result × Nat × Nat × List Value × List (Option Obj)) := match o with
  | .ok r T m i tb _ _ => some (r, m, i, tb.toList, js.map T.get)
  | _ => none
noncomputable def outA (o : Out) : List Ob := match o with
  | .ok _ _ _ _ _ la _ => la
  | _ => []
noncomputable def outC (o : Out) : List Ob := match o with
  | .ok _ _ _ _ _ _ lc => lc
  | _ => []

noncomputable def runCall (V : Vw) (F : Nat) (sl : List Nat) (orc : List Nat) (f : Addr) (args : List Value) (tb : Array Value) : Out :=
  match V.kt.get f with
  | none => .bad 90 f
  | some o => match o.data with
    | .func fd => match funcOk fd with
      | true => loop V F sl orc (some (.call (.ref f) ⟨args, []⟩)) .base (V.ent f fd ⟨args, []⟩) .nil 0 0 tb [] []
      | false => .bad 92 f
    | _ => .bad 91 f

section
variable {V : Vw} {w : World} {h : Heap} {A : Around} {gens : Array GenState} {d : Drawn} {os : OsState} {tb : Array Value}

theorem zip_mem {α β : Type} {f : α → β} : ∀ {js : List α} {xs : List β} {j : α} {x : β}, js.map f = xs → (j, x) ∈ js.zip xs → f j = x
  | [], _, _, _, e, hm => by simp at hm
  | a :: js, [], _, _, e, hm => by simp at hm
  | a :: js, y :: xs, j, x, e, hm => by
    simp only [List.map_cons, List.cons.injEq] at e
    rw [List.zip_cons_cons, List.mem_cons] at hm
    rcases hm with hm | hm
    · cases hm; exact e.1
    · exact zip_mem e.2 hm

theorem rep_start (O : Hyp V w h A) (hL : V.L = 0) (ht : h.get? 16 = some (tableObj tb)) : Rep V h h .nil 0 tb :=
  ⟨by rw [O.size, hL], fun _ _ e => (nomatch e), fun _ _ e _ _ => e, by rw [hL]; exact Nat.le_refl _, ht, fun tb₀ e => ⟨#[], by
    rw [ht] at e
    have e1 := Option.some.inj e
    unfold tableObj at e1
    injection e1 with _ _ e2 _
    have e3 : tb = tb₀ := Data.fields.inj e2
    rw [e3]; simp⟩⟩

theorem after_of_rep (hl : ∀ i, V.lw i = none) {h' : Heap} {T : KT} {W : Nat} {tb' : Array Value} {js : List Nat} {new : List (Nat × Obj)} (O : Hyp V w h A) (ht : h.get? 16 = some (tableObj tb)) (D : Rep V h h' T W tb')
    (hn : ∀ j o, (j, o) ∈ new → T.get j = some o) : After h h' V.n₁ W tb tb' new :=
  ⟨D.size, fun b o e q => D.keep b o e q (fun i => by rw [hl i]; exact nofun), D.tab, D.more tb ht, fun j o hm => by
    have z := D.own j o (hn j o hm)
    unfold adr at z
    rw [hl j] at z
    exact z⟩

/-- The loop's word for a tree at the base. -/
theorem run_tree {n : Nat} {sl : List Nat} {orc : List Nat} {c : Option Code} {t : Sem PySem.Fin} {r : Result} {W Wt : Nat} {tb' : List Value} {js : List Nat} {objs : List Obj}
    (O : Hyp V w h A) (SO : ∀ j S, V.sp j = some S → SpecOk V w h gens d os S) (ht : h.get? 16 = some (tableObj tb))
    (h1 : outR (loop V n sl orc c .base t .nil 0 0 tb [] []) js = some (r, W, Wt, tb', objs.map some))
    (h2 : outA (loop V n sl orc c .base t .nil 0 0 tb [] []) = outC (loop V n sl orc c .base t .nil 0 0 tb [] []))
    (R : Result → Shared → Prop) (hR : ∀ h', After h h' V.n₁ W tb ⟨tb'⟩ (js.zip objs) → R r ⟨h', gens, d, V.t₀ + Wt, os⟩) (hl : ∀ i, V.lw i = none := by intro i; rfl) (hL : V.L = 0 := by rfl) :
    Means (model V.prog w) A R c .base t ⟨h, gens, d, V.t₀, os⟩ := by
  cases ho : loop V n sl orc c .base t .nil 0 0 tb [] [] with
  | bad _ _ => rw [ho] at h1; cases h1
  | word _ => rw [ho] at h1; cases h1
  | agn => rw [ho] at h1; cases h1
  | ok r0 T m i tb0 la lc =>
    rw [ho] at h1 h2
    have h3 : la = lc := h2
    simp only [outR, Option.some.injEq, Prod.mk.injEq] at h1
    obtain ⟨e1, e2, e3, e4, e5⟩ := h1
    subst e1 e2 e3
    have e4' : tb0 = ⟨tb'⟩ := Array.ext' e4
    subst e4'
    obtain ⟨_, z⟩ := loop_snd (gens := gens) (d := d) (os := os) O SO n sl orc c .base t .nil 0 0 tb [] [] la lc (by rw [ho]; rfl) h3
    rw [ho] at z
    refine z R (fun h' D => hR h' (after_of_rep hl (js := js) O ht D fun j o hm => ?_)) h (rep_start O hL ht)
    have : (j, some o) ∈ js.zip (objs.map some) := by
      rw [List.zip_map_right]
      exact List.mem_map.mpr ⟨(j, o), hm, rfl⟩
    exact zip_mem e5 this

theorem run_call {n : Nat} {sl : List Nat} {orc : List Nat} {f : Addr} {args : List Value} {r : Result} {W Wt : Nat} {tb' : List Value} {js : List Nat} {objs : List Obj}
    (O : Hyp V w h A) (SO : ∀ j S, V.sp j = some S → SpecOk V w h gens d os S) (ht : h.get? 16 = some (tableObj tb)) (hf : (f == 16) = false) (hD : Nat.blt V.D 1000 = true)
    (h1 : outR (runCall V n sl orc f args tb) js = some (r, W, Wt, tb', objs.map some))
    (h2 : outA (runCall V n sl orc f args tb) = outC (runCall V n sl orc f args tb))
    (R : Result → Shared → Prop) (hR : ∀ h', After h h' V.n₁ W tb ⟨tb'⟩ (js.zip objs) → R r ⟨h', gens, d, V.t₀ + Wt, os⟩) (hl : ∀ i, V.lw i = none := by intro i; rfl) (hL : V.L = 0 := by rfl) :
    codeAny (model V.prog w) A (.call (.ref f) ⟨args, []⟩) R ⟨h, gens, d, V.t₀, os⟩ := by
  unfold runCall at h1 h2
  split at h1
  · cases h1
  · rename_i o hk
    rw [hk] at h2
    simp only [] at h2
    split at h1
    · rename_i fd hfd
      rw [hfd] at h2
      simp only [] at h2
      split at h1
      · rename_i hok
        rw [hok] at h2
        simp only [] at h2
        have z := run_tree O SO ht h1 h2 R hR hl hL
        intro Γ p hc hb
        have ho : h.get? f = some o := O.top f o hk (by simpa using hf)
        have y := z Γ p ⟨hc, hb⟩
        rw [O.ent] at y
        rw [wpCode_iff_wp, hc]
        have hin := hb.in
        rw [hc] at hin
        refine wp_ent ho hfd hok hin ?_ (Sem.wp_mono _ _ _ (fun _ _ _ q => postF_fin q) (fun _ _ _ q => q) p _ y)
        show A.depth + 0 < recursionLimit
        have := blt_true hD
        have := O.depth
        have : recursionLimit = 1000 := rfl
        omega
      · cases h1
    · cases h1

/-! Contracts used inside a run. -/
noncomputable def putAll (T : KT) (m : Nat) : List (Nat × Obj) → KT
  | [] => T
  | p :: l => KT.put 16 (putAll T m l) (Nat.add m p.1) p.2
theorem putAll_get (T : KT) (m : Nat) : ∀ (l : List (Nat × Obj)), (∀ p ∈ l, m + p.1 < 60000) → ∀ i o, (putAll T m l).get i = some o → (∃ j, (j, o) ∈ l ∧ i = m + j) ∨ T.get i = some o
  | [], _, i, o, e => .inr e
  | (j, x) :: l, hl, i, o, e => by
    have hj := hl (j, x) (.head _)
    have e : (KT.put 16 (putAll T m l) (m + j) x).get i = some o := e
    rw [put_get x 16 _ (m + j) i (by show m + j + 1 < 2 ^ 16; have : m + j < 60000 := hj; omega)] at e
    by_cases hi : i = m + j
    · rw [if_pos hi] at e
      cases e
      exact .inl ⟨j, .head _, hi⟩
    · rw [if_neg hi] at e
      rcases putAll_get T m l (fun p hp => hl p (.tail _ hp)) i o e with ⟨j', hm, hj'⟩ | q
      · exact .inl ⟨j', .tail _ hm, hj'⟩
      · exact .inr q
noncomputable def allLow (m : Nat) (l : List (Nat × Obj)) : Bool := l.all fun p => Nat.blt (m + p.1) 60000

/-- A contract as data: what is asked of the code and the heap, and what it gives. -/
noncomputable def mkSpec (D U : Nat) (test : Code → KT → Array Value → Option Ob) (want : Ob) (r : Nat → Nat → Value) (W Wt : Nat) (new : Nat → Nat → List (Nat × Obj)) (tb' : Nat → Nat → Array Value → Array Value) : Spec where
  D := D
  U := U
  run := fun c T m i tb => match test c T tb with
    | none => none
    | some x => match allLow m (new m i) with
      | true => some (r m i, putAll T m (new m i), Nat.add m W, Nat.add i Wt, tb' m i tb, x, want)
      | false => none

theorem spec_okL {h₀ : Heap} {D U : Nat} {test : Code → KT → Array Value → Option Ob} {want : Ob} {r : Nat → Nat → Value} {W Wt : Nat} {new : Nat → Nat → List (Nat × Obj)} {tb' : Nat → Nat → Array Value → Array Value}
    (hA : ∀ j, V.L ≤ j → adr V j = V.n₁ + j) (h16 : ∀ j, adr V j ≠ 16) (H : ∀ c T m i tb h A (R : Result → Shared → Prop), test c T tb = some want → Rep V h₀ h T m tb → A.depth ≤ D → A.units ≤ U → A.handled = none →
      (∀ h', After h h' (V.n₁ + m) W tb (tb' m i tb) (new m i) → R (.ok (.ret (r m i))) ⟨h', gens, d, V.t₀ + i + Wt, os⟩) → codeAny (model V.prog w) A c R ⟨h, gens, d, V.t₀ + i, os⟩) :
    SpecOk V w h₀ gens d os (mkSpec D U test want r W Wt new tb') := by
  intro c T m i tb r' T' m' i' tb'' x y hr hxy h A R Dp h1 h2 h3 hR
  unfold mkSpec at hr
  simp only [] at hr
  split at hr
  · cases hr
  · rename_i x' hx
    split at hr
    · rename_i hlow
      simp only [Option.some.injEq, Prod.mk.injEq] at hr
      obtain ⟨e1, e2, e3, e4, e5, e6, e7⟩ := hr
      subst e1 e2 e3 e4 e5 e6 e7
      subst hxy
      refine H c T m i tb h A R hx Dp h1 h2 h3 fun h' F => ?_
      have hlow' : ∀ p ∈ new m i, m + p.1 < 60000 := fun p hp => blt_true (List.all_eq_true.mp hlow p hp)
      have D' : Rep V h₀ h' (putAll T m (new m i)) (Nat.add m W) (tb' m i tb) := by
        refine ⟨by rw [F.size]; exact Nat.add_assoc _ _ _, fun j o e => ?_, fun b o e q q' => F.keep b o (Dp.keep b o e q q') q, Nat.le_trans Dp.least (Nat.le_add_right _ _), F.tab, fun tb₀ e => ?_⟩
        · rcases putAll_get T m _ hlow' j o e with ⟨j', hm, hj⟩ | q
          · obtain ⟨a, b⟩ := F.new j' o hm
            subst hj
            refine ⟨Nat.add_lt_add_left a m, ?_⟩
            rw [hA _ (Nat.le_trans Dp.least (Nat.le_add_right _ _)), ← Nat.add_assoc]
            exact b
          · obtain ⟨a, b⟩ := Dp.own j o q
            refine ⟨Nat.lt_of_lt_of_le a (Nat.le_add_right _ _), F.keep _ _ b (h16 j)⟩
        · obtain ⟨m1, q1⟩ := Dp.more tb₀ e
          obtain ⟨m2, q2⟩ := F.more
          exact ⟨m1 ++ m2, by rw [q2, q1, Array.append_assoc]⟩
      have z := hR h' D'
      have e : V.t₀ + Nat.add i Wt = V.t₀ + i + Wt := (Nat.add_assoc _ _ _).symm
      rw [e] at z
      exact z
    · cases hr
theorem spec_ok {h₀ : Heap} {D U : Nat} {test : Code → KT → Array Value → Option Ob} {want : Ob} {r : Nat → Nat → Value} {W Wt : Nat} {new : Nat → Nat → List (Nat × Obj)} {tb' : Nat → Nat → Array Value → Array Value}
    (hlo : 16 < V.n₁) (H : ∀ c T m i tb h A (R : Result → Shared → Prop), test c T tb = some want → Rep V h₀ h T m tb → A.depth ≤ D → A.units ≤ U → A.handled = none →
      (∀ h', After h h' (V.n₁ + m) W tb (tb' m i tb) (new m i) → R (.ok (.ret (r m i))) ⟨h', gens, d, V.t₀ + i + Wt, os⟩) → codeAny (model V.prog w) A c R ⟨h, gens, d, V.t₀ + i, os⟩)
    (hA : ∀ j, adr V j = V.n₁ + j := by intro j; rfl) :
    SpecOk V w h₀ gens d os (mkSpec D U test want r W Wt new tb') :=
  spec_okL (fun j _ => hA j) (fun j q => by
    have q' := (hA j).symm.trans q
    have : V.n₁ ≤ 16 := q' ▸ Nat.le_add_right _ _
    omega) H
end
end Mine


set_option maxRecDepth 100000
set_option Elab.async false
set_option linter.unusedVariables false
namespace Mine
open PySem PySem.Spec PySem.Calls PySem.W PySem.W.X PyProof.Rows
/-- A view over any written top. -/
noncomputable def mkK (kt : KT) (P' : Params) (n t : Nat) (D U : Nat) : Vw :=
  { den := denF, ent := entF, quiet := quietF, prog := PySem.Challenge.pw_sl0015_01, P := P', n₁ := n, t₀ := t, kt := kt, pa := fun _ => none, sp := fun _ => none, D, U, L := 0, lw := fun _ => none, cs := isFor, st := fun _ => false }
noncomputable def mkP (P : Params) (b1 b2 : Bool) : Params := { P with followText := fun r => if r = "special-get-raises" then b1 else if r = "comprehension-iter-twice" then b2 else P.followText r }
theorem mkP_eq (P : Params) : mkP P (P.followText "special-get-raises") (P.followText "comprehension-iter-twice") = P := by
  have e : (fun r => if r = "special-get-raises" then P.followText "special-get-raises" else if r = "comprehension-iter-twice" then P.followText "comprehension-iter-twice" else P.followText r) = P.followText := by
    funext r
    split
    · rename_i h; rw [h]
    · split
      · rename_i h; rw [h]
      · rfl
  unfold mkP
  rw [e]
/-- A small row over the same text: it brings the text's own objects, written out. -/
def smallRow : OpenRow where
  prog := PySem.Challenge.pw_sl0015_01
  name := "_substitution_cost"
  records := []
  args := [.str, .str]
  returns := .int
  pre := .and (.eq (.arg 0) (.lit (.str ⟨#[114]⟩))) (.eq (.arg 1) (.lit (.str ⟨#[114]⟩)))
  post := .eq .res (.lit (.int 0))
  raises := []
  mutates := []
  within := []
  unshared := true
  same := none
  under := ⟨true, true, true⟩
  after := ⟨true, true, true⟩
  apart := false
  loose := []
  makers := []
  pinned := true
  writes := false
  keeps := []
noncomputable def strR : Str := ⟨#[114]⟩
noncomputable def runSmall (kt : KT) (P' : Params) (n t : Nat) (t1 t2 : Tok) : Out :=
  runCall (mkK kt P' n t 310 1740) 80 [] [192, 1, 1, 1, 1, 8, 1, 1] 49 [.str strR t1, .str strR t2] #[]
theorem top_hyp {kt : KT} {h : Heap} {w : World} {P' : Params} {A : Around} {t D U : Nat} (ZH : KT.Holds h 1 0 kt) (h16 : kt.get 16 = some (tableObj #[])) (hP : P' = w.params) (hd : A.depth ≤ D) (hu : A.units ≤ U) (hh : A.handled = none) :
    Hyp (mkK kt P' h.objs.size t D U) w h A :=
  { den := denF_eq.symm, ent := entF_eq.symm, quiet := quietF_eq.symm, P := hP, size := rfl, lwL := fun _ _ e => (nomatch e), lwN := fun i hi => absurd hi (Nat.not_lt_zero i), inj := fun _ _ _ e => (nomatch e), topL := fun _ _ _ _ _ => (nofun), parL := fun _ _ _ _ e => (nomatch e), top := fun a o e _ => kt_at ZH e, par := fun _ _ _ e => (nomatch e), tab := ⟨#[], kt_at ZH h16⟩, depth := hd, units := hu, handled := hh }
theorem small_end {kt : KT} {s₁ : Shared} {w : World} {x y : Str} {t1 t2 : Tok} {Q : Value → Shared → Prop} {E : Value → Shared → Prop} {W Wt : Nat} {tk : Nat → Nat} (ZH : KT.Holds s₁.heap 1 0 kt) (hx : (x == strR) = true) (hy : (y == strR) = true)
    (h16 : kt.get 16 = some (tableObj #[]))
    (hrun : ∀ (f g : Bool) (n t : Nat) (t1 t2 : Tok), (outR (runSmall kt (mkP w.params f g) n t t1 t2) [], outA (runSmall kt (mkP w.params f g) n t t1 t2)) = (some (.ok (.ret (.int 0 (tk t))), W, Wt, [], []), outC (runSmall kt (mkP w.params f g) n t t1 t2)))
    (hQ : ∀ h' t' tk, (∀ b o, s₁.heap.get? b = some o → h'.get? b = some o) → Q (.int 0 tk) ⟨h', s₁.gens, s₁.drawn, t', s₁.os⟩) :
    wpAny (model PySem.Challenge.pw_sl0015_01 w) callerA (call (.ref 49) [.str x t1, .str y t2]) Q E s₁ := by
  have ex : x = strR := by simpa using hx
  have ey : y = strR := by simpa using hy
  subst ex ey
  obtain ⟨h, gens, d, t, os⟩ := s₁
  refine wpAny_call ?_
  have O := top_hyp (t := t) (D := 310) (U := 1740) (A := callerA) ZH h16 (mkP_eq w.params) (by decide) (by decide) rfl
  have z := hrun (w.params.followText "special-get-raises") (w.params.followText "comprehension-iter-twice") h.objs.size t t1 t2
  have z1 := congrArg Prod.fst z
  have z2 := congrArg Prod.snd z
  refine run_call (objs := []) O (fun j S e => nomatch e) (kt_at ZH h16) rfl rfl z1 z2 _ fun h' F => ?_
  refine hQ h' _ _ fun b o e => ?_
  by_cases hb : b = 16
  · subst hb
    have e' : h.get? 16 = some (tableObj #[]) := kt_at ZH h16
    have e2 : h.get? 16 = some o := e
    rw [e'] at e2
    have e3 : tableObj #[] = o := Option.some.inj e2
    subst e3
    exact F.tab
  · exact F.keep b o e hb
end Mine


set_option maxRecDepth 100000
set_option Elab.async false
set_option maxHeartbeats 0
namespace Mine
open PySem PySem.W PySem.W.X PyProof.Rows
theorem small : smallRow.Holds := by
  w_on
  z_head
  (case hw => w_witness2)
  k_fill
  intro w s₀ s₁ mg mb G y fa o pm cd doc dV kV ho hd hcd hD hmg hg args vals as L hpre hlay hrd hwl hlo
  z_open y L KX ZH ZN ZT
  refine Ground.open G ?_
  intro T B D TE TW
  wrow_args hpre hlay hrd hwl hlo
  x_fa T KX hmg
  refine small_end (tk := fun t => Nat.add t 2) (W := 1) (Wt := 3) ZH (by assumption) (by assumption) (by kernel_rfl) (fun f g n t t1 t2 => by cases f <;> kernel_rfl) fun h' t' tk hk => ?_
  exact ⟨.inl ⟨_, _, [], rfl, fun _ => rfl, ReadsW.int 0 tk, (by first | rfl | wrow_post), fun _ => ⟨List.nodup_nil, fun _ hm => (nomatch hm)⟩⟩, .of_keep hk, rfl, by rw [hg]; exact AllBare.empty⟩
end Mine


set_option maxRecDepth 100000
set_option Elab.async false
namespace Mine
open PySem PySem.Calls PyProof.Rows PySem.W PySem.W.X

noncomputable def KTop (P : Params) : KT := small.ktop_171 P

noncomputable def mkV (P P' : Params) (n t : Nat) (pa : Nat → Option (Addr × Obj)) (sp : Nat → Option Spec) (D U : Nat) : Vw :=
  { den := denF, ent := entF, quiet := quietF, prog := PySem.Challenge.pw_sl0015_01, P := P', n₁ := n, t₀ := t, kt := KTop P, pa, sp, D, U, L := 0, lw := fun _ => none, cs := isFor, st := fun _ => false }

/-- The text's own objects and the table of inner codes. -/
structure Inv (P : Params) (h : Heap) (tb : Array Value) : Prop where
  top : ∀ a o, (KTop P).get a = some o → a ≠ 16 → h.get? a = some o
  tab : h.get? 16 = some (tableObj tb)

theorem mk_hyp {P P' : Params} {t : Nat} {pa : Nat → Option (Addr × Obj)} {sp : Nat → Option Spec} {D U : Nat} {w : World} {h : Heap} {A : Around} {tb : Array Value} (hP : P' = w.params) (I : Inv P h tb)
    (hpa : ∀ j a o, pa j = some (a, o) → a ≠ 16 ∧ h.get? a = some o) (hd : A.depth ≤ D) (hu : A.units ≤ U) (hh : A.handled = none) : Hyp (mkV P P' h.objs.size t pa sp D U) w h A :=
  { den := denF_eq.symm, ent := entF_eq.symm, quiet := quietF_eq.symm, P := hP, size := rfl, lwL := fun _ _ e => (nomatch e), lwN := fun i hi => absurd hi (Nat.not_lt_zero i), inj := fun _ _ _ e => (nomatch e), topL := fun _ _ _ _ _ => (nofun), parL := fun _ _ _ _ _ => (nofun), top := I.top, par := hpa, tab := ⟨tb, I.tab⟩, depth := hd, units := hu, handled := hh }

noncomputable def noSp : Nat → Option Spec := fun _ => none
noncomputable def lstO (vs : List Value) (e : Nat) : Obj := ⟨.type "list", none, .seq ⟨vs⟩ e, #[]⟩
end Mine


set_option maxRecDepth 100000
set_option Elab.async false
set_option linter.unusedSectionVars false
set_option linter.unusedVariables false
namespace Mine
open PySem PySem.Calls PyProof.Rows PySem.W PySem.W.X

theorem code_slot {prog : Program} {w : World} {A : Around} {s : Shared} {R : Result → Shared → Prop} {T : String} {name : Str} {id : String} {B : Builtin} {self : Value} {rest : List Value} {m : Made}
    (slot : Slot T name id) (hT : s.TypeIs self T) (entry : entryFor table id = some B) (args : argsOk id ⟨self :: rest, []⟩) (g : Gives (B ⟨self :: rest, []⟩) m) (h : m.post (fun v s' => R (.ok (.ret v)) s') s) :
    codeAny (model prog w) A (.call (.builtin id) ⟨self :: rest, []⟩) R s :=
  codeAny_call_builtin slot.plain entry (slot.check _ _ _ _ _ _ _ _ hT args (g prog w A R s h))

noncomputable def biTest (c : Code) (T : KT) (tb : Array Value) : Option Ob := match c with
  | .call f a => match f with
    | .builtin g => some (.bi g (a.pos.map erase) a.kw.length [])
    | _ => none
  | _ => none
/-- A built-in's contract: a value of the arguments alone, `Wt` tokens taken, no object made. -/
noncomputable def biSpec (id : String) (args : List Value) (r : Nat → Value) (Wt : Nat) : Spec :=
  mkSpec 100000 100000 biTest (.bi id args 0 []) (fun _ i => r i) 0 Wt (fun _ _ => []) (fun _ _ tb => tb)

theorem biTest_is {c : Code} {T : KT} {tb : Array Value} {id : String} {args : List Value} (h : biTest c T tb = some (.bi id args 0 [])) : ∃ vs : List Value, c = .call (.builtin id) ⟨vs, []⟩ ∧ vs.map erase = args := by
  unfold biTest at h
  split at h
  · rename_i f a
    split at h
    · rename_i g
      simp only [Option.some.injEq, Ob.bi.injEq, and_true] at h
      obtain ⟨h1, h2, h3⟩ := h
      subst h1
      obtain ⟨pos, kw⟩ := a
      have : kw = [] := List.length_eq_zero_iff.mp h3
      subst this
      exact ⟨pos, rfl, h2⟩
    · cases h
  · cases h
theorem erase_int {v : Value} {x : Int} (h : erase v = .int x 0) : ∃ t, v = .int x t := by
  cases v <;> simp [erase] at h
  subst h
  exact ⟨_, rfl⟩
theorem erase_str {v : Value} {x : Str} (h : erase v = .str x 0) : ∃ t, v = .str x t := by
  cases v <;> simp [erase] at h
  subst h
  exact ⟨_, rfl⟩
theorem erase_ref {v : Value} {a : Addr} (h : erase v = .ref a) : v = .ref a := by
  cases v <;> simp [erase] at h
  subst h
  rfl
theorem map_one {vs : List Value} {a : Value} (h : vs.map erase = [a]) : ∃ x, vs = [x] ∧ erase x = a := by
  obtain ⟨x, l, rfl, h1, h2⟩ := List.map_eq_cons_iff.mp h
  have h3 := List.map_eq_nil_iff.mp h2
  subst h3
  exact ⟨x, rfl, h1⟩
theorem map_two {vs : List Value} {a b : Value} (h : vs.map erase = [a, b]) : ∃ x y, vs = [x, y] ∧ erase x = a ∧ erase y = b := by
  obtain ⟨x, l, rfl, h1, h2⟩ := List.map_eq_cons_iff.mp h
  obtain ⟨y, rfl, h3⟩ := map_one h2
  exact ⟨x, y, rfl, h1, h3⟩
theorem map_three {vs : List Value} {a b c : Value} (h : vs.map erase = [a, b, c]) : ∃ x y z, vs = [x, y, z] ∧ erase x = a ∧ erase y = b ∧ erase z = c := by
  obtain ⟨x, l, rfl, h1, h2⟩ := List.map_eq_cons_iff.mp h
  obtain ⟨y, z, rfl, h3⟩ := map_two h2
  exact ⟨x, y, z, rfl, h1, h3⟩

section
variable {V : Vw} {w : World} {h₀ : Heap} {gens : Array GenState} {d : Drawn} {os : OsState}
theorem bi_ok {id : String} {args : List Value} {r : Nat → Value} {Wt : Nat} (hA : ∀ j, V.L ≤ j → adr V j = V.n₁ + j) (h16 : ∀ j, adr V j ≠ 16)
    (H : ∀ (vs : List Value) (h : Heap) (i : Nat) (A : Around) (R : Result → Shared → Prop), vs.map erase = args → R (.ok (.ret (r i))) ⟨h, gens, d, V.t₀ + i + Wt, os⟩ → codeAny (model V.prog w) A (.call (.builtin id) ⟨vs, []⟩) R ⟨h, gens, d, V.t₀ + i, os⟩) :
    SpecOk V w h₀ gens d os (biSpec id args r Wt) := by
  refine spec_okL hA h16 fun c T m i tb h A R ht D _ _ _ hR => ?_
  obtain ⟨vs, e, hv⟩ := biTest_is ht
  subst e
  exact H vs h i A R hv (hR h ⟨by rw [D.size]; rfl, fun _ _ e _ => e, D.tab, ⟨#[], by simp⟩, fun _ _ hm => by simp at hm⟩)
/-- An int's operation with an int for its value. -/
theorem bi_int {id : String} {name : Str} {B : Builtin} {x y z : Int} (hA : ∀ j, V.L ≤ j → adr V j = V.n₁ + j) (h16 : ∀ j, adr V j ≠ 16) (slot : Slot "int" name id) (entry : entryFor table id = some B) (args : ∀ a b, argsOk id ⟨[a, b], []⟩)
    (g : ∀ t u, Gives (B ⟨[.int x t, .int y u], []⟩) (.int z)) : SpecOk V w h₀ gens d os (biSpec id [.int x 0, .int y 0] (fun i => .int z (Nat.add V.t₀ i)) 1) := by
  refine bi_ok hA h16 fun vs h i A R hv hR => ?_
  obtain ⟨a, b, e, ea, eb⟩ := map_two hv
  subst e
  obtain ⟨t, rfl⟩ := erase_int ea
  obtain ⟨u, rfl⟩ := erase_int eb
  exact code_slot slot (typeIs_int _ x t) entry (args _ _) (g t u) hR
theorem bi_bool {id : String} {name : Str} {B : Builtin} {x y : Int} {z : Bool} (hA : ∀ j, V.L ≤ j → adr V j = V.n₁ + j) (h16 : ∀ j, adr V j ≠ 16) (slot : Slot "int" name id) (entry : entryFor table id = some B) (args : ∀ a b, argsOk id ⟨[a, b], []⟩)
    (g : ∀ t u, Gives (B ⟨[.int x t, .int y u], []⟩) (.val (.bool z))) : SpecOk V w h₀ gens d os (biSpec id [.int x 0, .int y 0] (fun i => .bool z) 0) := by
  refine bi_ok hA h16 fun vs h i A R hv hR => ?_
  obtain ⟨a, b, e, ea, eb⟩ := map_two hv
  subst e
  obtain ⟨t, rfl⟩ := erase_int ea
  obtain ⟨u, rfl⟩ := erase_int eb
  exact code_slot slot (typeIs_int _ x t) entry (args _ _) (g t u) hR
end
theorem adr_plain {V : Vw} (hl : ∀ i, V.lw i = none) : ∀ j, V.L ≤ j → adr V j = V.n₁ + j := fun j _ => by unfold adr; rw [hl j]; rfl
theorem adr_no16 {V : Vw} (hl : ∀ i, V.lw i = none) (hlo : 16 < V.n₁) : ∀ j, adr V j ≠ 16 := fun j q => by
  have q' : V.n₁ + j = 16 := by unfold adr at q; rw [hl j] at q; exact q
  omega
/-- What a run gives, with what it owes. -/
noncomputable def res (o : Out) (js : List Nat) : Option (Result × Nat × Nat × List Value × List (Option Obj)) × List Ob := (outR o js, outA o)
noncomputable def due (o : Out) (x : Result × Nat × Nat × List Value × List (Option Obj)) : Option (Result × Nat × Nat × List Value × List (Option Obj)) × List Ob := (some x, outC o)

/-! Runs of one built-in's call. -/
noncomputable def runCode (V : Vw) (F : Nat) (sl : List Nat) (orc : List Nat) (c : Code) (tb : Array Value) : Out :=
  loop V F sl orc (some c) .base (V.den c) .nil 0 0 tb [] []
section
variable {V : Vw} {w : World} {h : Heap} {A : Around} {gens : Array GenState} {d : Drawn} {os : OsState} {tb : Array Value}
theorem due_is {o : Out} {js : List Nat} {x : Result × Nat × Nat × List Value × List (Option Obj)} (h : res o js = due o x) : outR o js = some x ∧ outA o = outC o := ⟨congrArg Prod.fst h, congrArg Prod.snd h⟩
theorem run_code {n : Nat} {sl : List Nat} {orc : List Nat} {c : Code} {r : Result} {W Wt : Nat} {tb' : List Value} {js : List Nat} {objs : List Obj}
    (O : Hyp V w h A) (SO : ∀ j S, V.sp j = some S → SpecOk V w h gens d os S) (ht : h.get? 16 = some (tableObj tb))
    (h1 : res (runCode V n sl orc c tb) js = due (runCode V n sl orc c tb) (r, W, Wt, tb', objs.map some))
    (R : Result → Shared → Prop) (hR : ∀ h', After h h' V.n₁ W tb ⟨tb'⟩ (js.zip objs) → R r ⟨h', gens, d, V.t₀ + Wt, os⟩) (hl : ∀ i, V.lw i = none := by intro i; rfl) (hL : V.L = 0 := by rfl) :
    codeAny (model V.prog w) A c R ⟨h, gens, d, V.t₀, os⟩ := by
  obtain ⟨h2, h3⟩ := due_is h1
  have z := run_tree O SO ht h2 h3 R hR hl hL
  intro Γ p hc hb
  rw [O.den] at z
  exact Means.code (M := model V.prog w) (c' := c) z hc hb
end
/-- A built-in's contract with objects made. -/
noncomputable def cSpec (id : String) (args : List Value) (r : Nat → Nat → Value) (W Wt : Nat) (new : Nat → Nat → List (Nat × Obj)) : Spec :=
  mkSpec 100000 100000 biTest (.bi id args 0 []) r W Wt new (fun _ _ tb => tb)

/-- What a state bears, wherever a run stands. -/
structure Stand (P : Params) (h : Heap) (n : Nat) (tb : Array Value) (pa : Nat → Option (Addr × Obj)) : Prop where
  inv : Inv P h tb
  size : h.objs.size = n
  par : ∀ j a o, pa j = some (a, o) → a ≠ 16 ∧ h.get? a = some o
theorem Stand.hyp {P P' : Params} {h : Heap} {n : Nat} {tb : Array Value} {pa : Nat → Option (Addr × Obj)} (S : Stand P h n tb pa) {w : World} (hP : P' = w.params) {A : Around} {D U t : Nat} {sp : Nat → Option Spec} (hd : A.depth ≤ D) (hu : A.units ≤ U) (hh : A.handled = none) :
    Hyp (mkV P P' n t pa sp D U) w h A := by
  have := mk_hyp (t := t) (sp := sp) hP S.inv S.par hd hu hh
  rw [S.size] at this
  exact this
theorem Stand.low {P : Params} {h : Heap} {n : Nat} {tb : Array Value} {pa : Nat → Option (Addr × Obj)} (S : Stand P h n tb pa) : 16 < n := S.size ▸ Heap.lt_size S.inv.tab
theorem Stand.go {P P' : Params} {h₀ h : Heap} {n m t D U : Nat} {T : KT} {tb₀ tb : Array Value} {pa : Nat → Option (Addr × Obj)} {sp : Nat → Option Spec} (S : Stand P h₀ n tb₀ pa) (R : Rep (mkV P P' n t pa sp D U) h₀ h T m tb) : Stand P h (n + m) tb pa :=
  ⟨⟨fun a o e q => R.keep a o (S.inv.top a o e q) q (fun _ => nofun), R.tab⟩, R.size, fun j a o e => ⟨(S.par j a o e).1, R.keep a o (S.par j a o e).2 (S.par j a o e).1 (fun _ => nofun)⟩⟩
section
variable {P P' : Params} {h₀ : Heap} {n t D U : Nat} {tb₀ : Array Value} {pa : Nat → Option (Addr × Obj)} {sp : Nat → Option Spec} {w : World} {gens : Array GenState} {d : Drawn} {os : OsState}
theorem cspec_ok {id : String} {args : List Value} {r : Nat → Nat → Value} {W Wt : Nat} {new : Nat → Nat → List (Nat × Obj)} (S : Stand P h₀ n tb₀ pa)
    (H : ∀ (vs : List Value) (h : Heap) (m i : Nat) (tb : Array Value) (A : Around) (R : Result → Shared → Prop), vs.map erase = args → Stand P h (n + m) tb pa → A.depth ≤ 100000 → A.units ≤ 100000 → A.handled = none →
      (∀ h', After h h' (n + m) W tb tb (new m i) → R (.ok (.ret (r m i))) ⟨h', gens, d, t + i + Wt, os⟩) → codeAny (model PySem.Challenge.pw_sl0015_01 w) A (.call (.builtin id) ⟨vs, []⟩) R ⟨h, gens, d, t + i, os⟩) :
    SpecOk (mkV P P' n t pa sp D U) w h₀ gens d os (cSpec id args r W Wt new) := by
  refine spec_ok (V := mkV P P' n t pa sp D U) S.low fun c T m i tb h A R ht Dp h1 h2 h3 hR => ?_
  obtain ⟨vs, e, hv⟩ := biTest_is ht
  subst e
  exact H vs h m i tb A R hv (S.go Dp) h1 h2 h3 hR
/-- by a run of its own -/
theorem cspec_run {id : String} {args : List Value} {r : Nat → Nat → Value} {W Wt : Nat} {js : List Nat} {objs : Nat → Nat → List Obj} {F : Nat} {sl orc : List Nat} (S : Stand P h₀ n tb₀ pa) (hP : P' = w.params)
    (H : ∀ (vs : List Value) (m i : Nat) (tb : Array Value), vs.map erase = args →
      res (runCode (mkV P P' (n + m) (t + i) pa noSp 100000 100000) F sl orc (.call (.builtin id) ⟨vs, []⟩) tb) js = due (runCode (mkV P P' (n + m) (t + i) pa noSp 100000 100000) F sl orc (.call (.builtin id) ⟨vs, []⟩) tb) (.ok (.ret (r m i)), W, Wt, tb.toList, (objs m i).map some)) :
    SpecOk (mkV P P' n t pa sp D U) w h₀ gens d os (cSpec id args r W Wt fun m i => js.zip (objs m i)) := by
  refine cspec_ok S fun vs h m i tb A R hv St h1 h2 h3 hR => ?_
  have O := St.hyp (t := t + i) (sp := noSp) hP h1 h2 h3
  refine run_code (V := mkV P P' (n + m) (t + i) pa noSp 100000 100000) O (fun j S e => by cases e) St.inv.tab (H vs m i tb hv) R fun h' F => ?_
  exact hR h' F
end
end Mine


set_option maxRecDepth 100000
set_option Elab.async false
set_option linter.unusedVariables false
namespace Mine
open PySem PySem.Calls PyProof.Rows PySem.W PySem.W.X
noncomputable def slDigA : List Nat := (dc 32 52751168190530953055079534123394791960216830931250083404177039218760733710993583305828682818788066752200704 (dc 15 4116410705394821280409327595360314632858869061124096 []))
noncomputable def orcDigA : List Nat := (dc 32 471458206581072617682033246919124020123637403813492363004677429044532904069128913379293341892371154702991072710736 (dc 32 509964915362370549023391705412300889439754011465486196981898823100577151461098077007003413359567468625050084773937 (dc 32 586940751640682856917866396126516032078227259275253140777738485527913045931123635164176161473426796836291214348341 (dc 32 625297151399404017915095968453938746000937632289408642786885968068172846166758324596020237884585338492199995736125 (dc 32 702251850797271589117623798434977694933419259022379521959243130756855267500403650934000926652371785233803136520257 (dc 8 38695073267039970711851081 []))))))
noncomputable def slDigB : List Nat := (dc 32 25229184798650094915743855373093071483440237685510148617644545860010349740821422467240145399252339092619264 (dc 15 4116410705394821264832437019755831733756581191352320 []))
noncomputable def orcDigB : List Nat := (dc 32 240549488378476024694157026787371632966105744719648303265395103459618709875645046294862557967349306565260394647632 (dc 32 278990435667377465253901835028885898173974133289390591524104118552473406625419302522050207695205169426317975851016 (dc 32 355945135065245036456431708013780018509981749865358306431357823686720782503696338416558346556375984819495883558941 (dc 32 394435401748382984515182379253661818785445760924065579555668987130964173549382085039154423121044983137181674524709 (dc 32 471373661348170831303047009336734997272464826008252922434535089453110706174290583491361360207928816287697032269865 (dc 5 563087425937410 []))))))
noncomputable def bitsO (b0 b1 b2 b3 : Int) (k : Nat → Tok) (e : Nat) : Obj := lstO [.int b0 (k 0), .int b1 (k 1), .int b2 (k 2), .int b3 (k 3)] e
noncomputable def bitsV (b0 b1 b2 b3 : Int) : Int := 4 * (2 * b3 + b2) + (2 * b1 + b0)
noncomputable def tb3 (q : Addr) : List Value := [.int 4 0, .int 4 0, .ref q]
noncomputable def paD1 (a : Addr) (o : Obj) : Nat → Option (Addr × Obj)
  | 0 => some (a, o)
  | _ => none
noncomputable def paD2 (a : Addr) (o : Obj) (q : Addr) (oq : Obj) : Nat → Option (Addr × Obj)
  | 0 => some (a, o)
  | 1 => some (q, oq)
  | _ => none
noncomputable def innerName : Str := ⟨⟨[95, 100, 105, 103, 105, 116, 115, 50, 105, 110, 116, 46, 60, 108, 111, 99, 97, 108, 115, 62, 46, 105, 110, 110, 101, 114]⟩⟩
noncomputable def codeO (a : Value) (tk : Tok) (r : List Value) (sl : Array (Option Value)) : Obj := ⟨.type "code", none, .fields ⟨a :: .str innerName tk :: r⟩, sl⟩
noncomputable def cutPy : Str := ⟨⟨[47, 99, 108, 97, 105, 109, 47, 99, 117, 116, 46, 112, 121]⟩⟩
noncomputable def codeA (n t : Nat) : Obj := codeO (.str ⟨⟨[105, 110, 110, 101, 114]⟩⟩ t) (t + 1) [.str cutPy (t + 2), .int 4 0, .int 2 0, .int 0 0, .int 0 0, .int 19 0, .ref (n + 5), .bool true, .int 181 0, .ref (n + 6), .none, .ref (n + 7), .ref (n + 8), .ref (n + 9), .int (Int.ofNat (t + 10)) 0, .int 4 0, .str cutPy (t + 11)] #[]
noncomputable def shl : String := "int.__lshift__"
noncomputable def addI : String := "int.__add__"
noncomputable def digSp (b0 b1 b2 b3 : Int) (t₀ : Nat) : Nat → Option Spec
  | 0 => some (biSpec "int.__lshift__" [.int b3 0, .int 1 0] (fun i => .int (2 * b3) (Nat.add t₀ i)) 1)
  | 1 => some (biSpec "int.__add__" [.int (2 * b3) 0, .int b2 0] (fun i => .int (2 * b3 + b2) (Nat.add t₀ i)) 1)
  | 2 => some (biSpec "int.__lshift__" [.int (2 * b3 + b2) 0, .int 2 0] (fun i => .int (4 * (2 * b3 + b2)) (Nat.add t₀ i)) 1)
  | 3 => some (biSpec "int.__lshift__" [.int b1 0, .int 1 0] (fun i => .int (2 * b1) (Nat.add t₀ i)) 1)
  | 4 => some (biSpec "int.__add__" [.int (2 * b1) 0, .int b0 0] (fun i => .int (2 * b1 + b0) (Nat.add t₀ i)) 1)
  | 5 => some (biSpec "int.__add__" [.int (4 * (2 * b3 + b2)) 0, .int (2 * b1 + b0) 0] (fun i => .int (4 * (2 * b3 + b2) + (2 * b1 + b0)) (Nat.add t₀ i)) 1)
  | _ => none
noncomputable def runDA (P P' : Params) (n t : Nat) (a : Addr) (k : Nat → Tok) (e : Nat) (tok : Tok) (b0 b1 b2 b3 : Int) : Out :=
  runCall (mkV P P' n t (paD1 a (bitsO b0 b1 b2 b3 k e)) (digSp b0 b1 b2 b3 t) 400 2000) 700 slDigA orcDigA 21 [.ref a, .int 1 tok] #[]
noncomputable def runDB (P P' : Params) (n t : Nat) (a : Addr) (k : Nat → Tok) (e : Nat) (tok : Tok) (q : Addr) (c0 : Value) (tk : Tok) (rest : List Value) (sl : Array (Option Value)) (b0 b1 b2 b3 : Int) : Out :=
  runCall (mkV P P' n t (paD2 a (bitsO b0 b1 b2 b3 k e) q (codeO c0 tk rest sl)) (digSp b0 b1 b2 b3 t) 400 2000) 700 slDigB orcDigB 21 [.ref a, .int 1 tok] ⟨tb3 q⟩
set_option maxHeartbeats 0
noncomputable def digAW (n t : Nat) (v : Int) : Result × Nat × Nat × List Value × List (Option Obj) := (.ok (.ret (.int v (t + 71))), 19, 72, tb3 (n + 10), [codeA n t].map some)
noncomputable def digBW (n t q : Nat) (v : Int) : Result × Nat × Nat × List Value × List (Option Obj) := (.ok (.ret (.int v (t + 59))), 13, 60, tb3 q, [].map some)
theorem digA_t (P : Params) (x : Bool) (n t : Nat) (a : Addr) (k : Nat → Tok) (e : Nat) (tok : Tok) (b0 b1 b2 b3 : Int) :
    res (runDA P (mkP P true x) n t a k e tok b0 b1 b2 b3) [10] = due (runDA P (mkP P true x) n t a k e tok b0 b1 b2 b3) (digAW n t (bitsV b0 b1 b2 b3)) := by kernel_rfl
theorem digA_f (P : Params) (x : Bool) (n t : Nat) (a : Addr) (k : Nat → Tok) (e : Nat) (tok : Tok) (b0 b1 b2 b3 : Int) :
    res (runDA P (mkP P false x) n t a k e tok b0 b1 b2 b3) [10] = due (runDA P (mkP P false x) n t a k e tok b0 b1 b2 b3) (digAW n t (bitsV b0 b1 b2 b3)) := by kernel_rfl
theorem digB_t (P : Params) (x : Bool) (n t : Nat) (a : Addr) (k : Nat → Tok) (e : Nat) (tok : Tok) (q : Addr) (c0 : Value) (tk : Tok) (rest : List Value) (sl : Array (Option Value)) (b0 b1 b2 b3 : Int) :
    res (runDB P (mkP P true x) n t a k e tok q c0 tk rest sl b0 b1 b2 b3) [] = due (runDB P (mkP P true x) n t a k e tok q c0 tk rest sl b0 b1 b2 b3) (digBW n t q (bitsV b0 b1 b2 b3)) := by kernel_rfl
theorem digB_f (P : Params) (x : Bool) (n t : Nat) (a : Addr) (k : Nat → Tok) (e : Nat) (tok : Tok) (q : Addr) (c0 : Value) (tk : Tok) (rest : List Value) (sl : Array (Option Value)) (b0 b1 b2 b3 : Int) :
    res (runDB P (mkP P false x) n t a k e tok q c0 tk rest sl b0 b1 b2 b3) [] = due (runDB P (mkP P false x) n t a k e tok q c0 tk rest sl b0 b1 b2 b3) (digBW n t q (bitsV b0 b1 b2 b3)) := by kernel_rfl
end Mine


set_option maxRecDepth 100000
set_option Elab.async false
set_option linter.unusedVariables false
namespace Mine
open PySem PySem.Calls PyProof.Rows PySem.W PySem.W.X

/-! _law_way upon unknown letters: the path hangs on four tests alone. -/
structure Wp where
  c : Nat → Nat
  p : Nat → Int
  g : Nat → Int
  a0 : Addr
  ρ : Nat → Addr
  τ : Nat → Tok
  l : Nat → List Value
  e : Nat → Nat
  q : Addr
  oq : Obj
noncomputable def Wp.pa (x : Wp) : Nat → Option (Addr × Obj)
  | 0 => some (x.a0, lstO (x.l 0) (x.e 0))
  | 1 => some (x.ρ 0, lstO (x.l 1) (x.e 1))
  | 2 => some (x.ρ 1, lstO (x.l 2) (x.e 2))
  | 3 => some (x.ρ 2, lstO (x.l 3) (x.e 3))
  | 4 => some (x.ρ 3, lstO (x.l 4) (x.e 4))
  | 5 => some (x.q, x.oq)
  | _ => none
noncomputable def Wp.W (x : Wp) : Str := ⟨⟨[x.c 0, x.c 1, x.c 2, x.c 3]⟩⟩
noncomputable def rgbS : Str := ⟨⟨[114, 103, 98]⟩⟩
noncomputable abbrev Bt := Bool × Bool × Bool × Bool
noncomputable def Bt.at (b : Bt) : Nat → Bool
  | 0 => b.1
  | 1 => b.2.1
  | 2 => b.2.2.1
  | _ => b.2.2.2
noncomputable def bitB (b : Bool) : Int := cond b 0 1
noncomputable def Bt.val (b : Bt) : Int := bitsV (bitB b.2.2.2) (bitB b.2.2.1) (bitB b.2.1) (bitB b.1)
noncomputable def Bt.bits (b : Bt) : Obj := lstO [.int (bitB b.2.2.2) 0, .int (bitB b.2.2.1) 0, .int (bitB b.2.1) 0, .int (bitB b.1) 0] 0
noncomputable def all16 : List Bt := [true, false].flatMap fun a => [true, false].flatMap fun b => [true, false].flatMap fun c => [true, false].map fun d => (a, b, c, d)
noncomputable def digTest (idx : Nat) (c : Code) (T : KT) (tb : Array Value) : Option Ob := match c with
  | .call f a => match f with
    | .ref b => some (.cs b (a.pos.map erase) a.kw.length [(T.get idx).map eraseO] tb.toList)
    | _ => none
  | _ => none
noncomputable def digSpecB (q : Addr) (n t : Nat) (b : Bt) : Spec :=
  mkSpec 400 2000 (digTest 1) (.cs 21 [.ref (Nat.add n 1), .int 1 0] 0 [some b.bits] (tb3 q)) (fun _ i => .int b.val (Nat.add (Nat.add t i) 59)) 13 60 (fun _ _ => []) (fun _ _ tb => tb)
noncomputable def digSpecA (n t : Nat) (b : Bt) : Spec :=
  mkSpec 400 2000 (digTest 1) (.cs 21 [.ref (Nat.add n 1), .int 1 0] 0 [some b.bits] []) (fun _ i => .int b.val (Nat.add (Nat.add t i) 71)) 19 72 (fun m i => [(10, codeA (Nat.add n m) (Nat.add t i))]) (fun m _ _ => ⟨tb3 (Nat.add (Nat.add n m) 10)⟩)
noncomputable def iterO (s : Str) (t : Tok) : Obj := ⟨.type "str_ascii_iterator", none, .fields ⟨[.str s t, .int 0 0]⟩, #[]⟩
noncomputable def biTestX (c : Code) (T : KT) (tb : Array Value) : Option Ob := match c with
  | .call f a => match f with
    | .builtin g => some (.bi g a.pos a.kw.length [])
    | _ => none
  | _ => none
noncomputable def xSpec (id : String) (args : List Value) (r : Nat → Nat → Value) (W Wt : Nat) (new : Nat → Nat → List (Nat × Obj)) : Spec :=
  mkSpec 100000 100000 biTestX (.bi id args 0 []) r W Wt new (fun _ _ tb => tb)
noncomputable def wayIt (x : Wp) (b : Bt) (t : Nat) (k : Nat) : Nat → Option Spec
  | 0 => some (cSpec "str.index" [.str rgbS 0, .str ⟨⟨[x.c k]⟩⟩ 0] (fun _ i => .int (x.p k) (Nat.add t i)) 0 1 fun _ _ => [])
  | 1 => some (cSpec "int.__eq__" [.int (x.p k) 0, .int (x.g k) 0] (fun _ _ => .bool (b.at k)) 0 0 fun _ _ => [])
  | 2 => some (cSpec "list.__getitem__" [.ref x.a0, .int (x.p k) 0] (fun _ _ => .ref (x.ρ k)) 0 0 fun _ _ => [])
  | _ => some (cSpec "list.__getitem__" [.ref (x.ρ k), .int (x.g k) 0] (fun _ _ => .int (x.g (k + 1)) (x.τ k)) 0 0 fun _ _ => [])
noncomputable def waySp (dg : Spec) (x : Wp) (b : Bt) (n t : Nat) (t1 : Tok) : Nat → Option Spec
  | 0 => some dg
  | 1 => some (xSpec "str.__iter__" [.str x.W t1] (fun m _ => .ref (Nat.add n m)) 1 0 fun _ _ => [(0, iterO x.W t1)])
  | j + 2 => match Nat.blt j 16 with
    | true => wayIt x b t (j / 4) (j % 4)
    | false => none
noncomputable def slWay : List Nat := (dc 32 336764566576028764582710454178925674900196954368511860850414335625607424016299727702240249809273019798636871024643 (dc 4 68719476736 []))
noncomputable def orcWay : List Nat := (dc 32 48109895381636782637911558825850800557504659924797529090007901819667938087158416580546208071177067739424900518156 (dc 32 48100501211865623490544449966810058140390699643445812930898832131265369108866316363365089382138219426104167387141 (dc 32 9621981829197755874866563335929117641609387226816425220149388434343012452162156965072250772423062526028035411973 (dc 32 9631375999528851174403323822052054952310810574631033783601622823257321783748500039088676427969146501525367967749 (dc 26 171111520792838902523804899234443258401456076915622032796585599068440728310385718308926148609 [])))))
noncomputable def runWB (P P' : Params) (n t : Nat) (x : Wp) (b : Bt) (t1 t2 : Tok) : Out :=
  runCall (mkV P P' n t x.pa (waySp (digSpecB x.q n t b) x b n t t1) 390 1900) 600 slWay orcWay 68 [.str x.W t1, .int (x.g 0) t2, .ref x.a0] ⟨tb3 x.q⟩
noncomputable def runWA (P P' : Params) (n t : Nat) (x : Wp) (b : Bt) (t1 t2 : Tok) : Out :=
  runCall (mkV P P' n t x.pa (waySp (digSpecA n t b) x b n t t1) 390 1900) 600 slWay orcWay 68 [.str x.W t1, .int (x.g 0) t2, .ref x.a0] #[]
noncomputable def wayBW (n t q : Nat) (v : Int) : Result × Nat × Nat × List Value × List (Option Obj) := (.ok (.ret (.int v (t + 96))), 18, 97, tb3 q, [].map some)
noncomputable def wayAW (n t : Nat) (v : Int) : Result × Nat × Nat × List Value × List (Option Obj) := (.ok (.ret (.int v (t + 108))), 24, 109, tb3 (n + 15), [codeA (n + 5) (t + 37)].map some)
end Mine


set_option maxRecDepth 100000
set_option Elab.async false
set_option linter.unusedVariables false
namespace Mine
open PySem PySem.Calls PyProof.Rows PySem.W PySem.W.X
set_option maxHeartbeats 0
noncomputable abbrev WayBr (f b0 : Bool) : Prop := ∀ (P : Params) (y : Bool) (n t : Nat) (x : Wp) (t1 t2 : Tok) (b1 b2 b3 : Bool), res (runWB P (mkP P f y) n t x (b0, b1, b2, b3) t1 t2) [] = due (runWB P (mkP P f y) n t x (b0, b1, b2, b3) t1 t2) (wayBW n t x.q (Bt.val (b0, b1, b2, b3)))
theorem wayBtt : WayBr true true := by
  intro P y n t x t1 t2 b1 b2 b3
  cases b1 <;> cases b2 <;> cases b3 <;> kernel_rfl
theorem wayBtf : WayBr true false := by
  intro P y n t x t1 t2 b1 b2 b3
  cases b1 <;> cases b2 <;> cases b3 <;> kernel_rfl
theorem wayBft : WayBr false true := by
  intro P y n t x t1 t2 b1 b2 b3
  cases b1 <;> cases b2 <;> cases b3 <;> kernel_rfl
theorem wayBff : WayBr false false := by
  intro P y n t x t1 t2 b1 b2 b3
  cases b1 <;> cases b2 <;> cases b3 <;> kernel_rfl
theorem wayB (P : Params) (f y : Bool) (n t : Nat) (x : Wp) (t1 t2 : Tok) (b : Bt) : res (runWB P (mkP P f y) n t x b t1 t2) [] = due (runWB P (mkP P f y) n t x b t1 t2) (wayBW n t x.q b.val) := by
  obtain ⟨b0, b1, b2, b3⟩ := b
  cases f <;> cases b0
  · exact wayBff P y n t x t1 t2 b1 b2 b3
  · exact wayBft P y n t x t1 t2 b1 b2 b3
  · exact wayBtf P y n t x t1 t2 b1 b2 b3
  · exact wayBtt P y n t x t1 t2 b1 b2 b3
noncomputable abbrev WayAr (f b0 : Bool) : Prop := ∀ (P : Params) (y : Bool) (n t : Nat) (x : Wp) (t1 t2 : Tok) (b1 b2 b3 : Bool), res (runWA P (mkP P f y) n t x (b0, b1, b2, b3) t1 t2) [15] = due (runWA P (mkP P f y) n t x (b0, b1, b2, b3) t1 t2) (wayAW n t (Bt.val (b0, b1, b2, b3)))
theorem wayAtt : WayAr true true := by
  intro P y n t x t1 t2 b1 b2 b3
  cases b1 <;> cases b2 <;> cases b3 <;> kernel_rfl
theorem wayAtf : WayAr true false := by
  intro P y n t x t1 t2 b1 b2 b3
  cases b1 <;> cases b2 <;> cases b3 <;> kernel_rfl
theorem wayAft : WayAr false true := by
  intro P y n t x t1 t2 b1 b2 b3
  cases b1 <;> cases b2 <;> cases b3 <;> kernel_rfl
theorem wayAff : WayAr false false := by
  intro P y n t x t1 t2 b1 b2 b3
  cases b1 <;> cases b2 <;> cases b3 <;> kernel_rfl
theorem wayA (P : Params) (f y : Bool) (n t : Nat) (x : Wp) (t1 t2 : Tok) (b : Bt) : res (runWA P (mkP P f y) n t x b t1 t2) [15] = due (runWA P (mkP P f y) n t x b t1 t2) (wayAW n t b.val) := by
  obtain ⟨b0, b1, b2, b3⟩ := b
  cases f <;> cases b0
  · exact wayAff P y n t x t1 t2 b1 b2 b3
  · exact wayAft P y n t x t1 t2 b1 b2 b3
  · exact wayAtf P y n t x t1 t2 b1 b2 b3
  · exact wayAtt P y n t x t1 t2 b1 b2 b3
end Mine


set_option maxRecDepth 100000
set_option Elab.async false
set_option linter.unusedVariables false
set_option linter.unusedSectionVars false
namespace Mine
open PySem PySem.Calls PyProof.Rows PySem.W PySem.W.X
noncomputable def noPa : Nat → Option (Addr × Obj) := fun _ => none
theorem noPa_sub {pa : Nat → Option (Addr × Obj)} : ∀ j a o, noPa j = some (a, o) → ∃ j', pa j' = some (a, o) := fun _ _ _ e => nomatch e
theorem Stand.sub {P : Params} {h : Heap} {n : Nat} {tb : Array Value} {pa pa' : Nat → Option (Addr × Obj)} (S : Stand P h n tb pa) (Q : ∀ j a o, pa' j = some (a, o) → ∃ j', pa j' = some (a, o)) : Stand P h n tb pa' :=
  ⟨S.inv, S.size, fun j a o e => (Q j a o e).elim fun j' e' => S.par j' a o e'⟩
theorem paD1_sub {pa : Nat → Option (Addr × Obj)} {j' : Nat} {b : Addr} {x : Obj} (hj : pa j' = some (b, x)) : ∀ j a o, paD1 b x j = some (a, o) → ∃ j', pa j' = some (a, o) := by
  intro j a o e
  cases j with
  | zero => exact ⟨j', by rw [hj]; exact e⟩
  | succ j => cases e

/-- A value of concrete arguments, by a run: the code, for all tokens. -/
noncomputable abbrev Mini (P : Params) (pa : Nat → Option (Addr × Obj)) (F : Nat) (orc : List Nat) (id : String) (args : List Value) (r : Nat → Nat → Value) (W Wt : Nat) (js : List Nat) (objs : Nat → Nat → List Obj) : Prop :=
  ∀ (f y : Bool) (vs : List Value) (n t : Nat) (tb : Array Value), vs.map erase = args →
    res (runCode (mkV P (mkP P f y) n t pa noSp 100000 100000) F [] orc (.call (.builtin id) ⟨vs, []⟩) tb) js = due (runCode (mkV P (mkP P f y) n t pa noSp 100000 100000) F [] orc (.call (.builtin id) ⟨vs, []⟩) tb) (.ok (.ret (r n t)), W, Wt, tb.toList, (objs n t).map some)
section
variable {P : Params} {f y : Bool} {h₀ : Heap} {n t D U : Nat} {tb₀ : Array Value} {pa pa' : Nat → Option (Addr × Obj)} {sp : Nat → Option Spec} {w : World} {gens : Array GenState} {d : Drawn} {os : OsState}
theorem mini_ok {id : String} {args : List Value} {r : Nat → Nat → Value} {W Wt : Nat} {js : List Nat} {objs : Nat → Nat → List Obj} {F : Nat} {orc : List Nat} (S : Stand P h₀ n tb₀ pa) (hP : mkP P f y = w.params)
    (Q : ∀ j a o, pa' j = some (a, o) → ∃ j', pa j' = some (a, o)) (H : Mini P pa' F orc id args r W Wt js objs) :
    SpecOk (mkV P (mkP P f y) n t pa sp D U) w h₀ gens d os (cSpec id args (fun m i => r (n + m) (t + i)) W Wt fun m i => js.zip (objs (n + m) (t + i))) := by
  refine cspec_ok S fun vs h m i tb A R hv St h1 h2 h3 hR => ?_
  have O := (St.sub Q).hyp (t := t + i) (sp := noSp) hP h1 h2 h3
  refine run_code (V := mkV P (mkP P f y) (n + m) (t + i) pa' noSp 100000 100000) O (fun j S e => by cases e) St.inv.tab (H f y vs (n + m) (t + i) tb hv) R fun h' F => ?_
  exact hR h' F

theorem lsh_mini {a k z : Int} (hz : (a, k, z) ∈ [((0 : Int), (1 : Int), (0 : Int)), (1, 1, 2), (0, 2, 0), (1, 2, 4), (2, 2, 8), (3, 2, 12)]) :
    Mini P noPa 20 [] "int.__lshift__" [.int a 0, .int k 0] (fun _ t => .int z t) 0 1 [] (fun _ _ => []) := by
  intro f y vs n t tb hv
  obtain ⟨u, v, rfl, eu, ev⟩ := map_two hv
  obtain ⟨tu, rfl⟩ := erase_int eu
  obtain ⟨tv, rfl⟩ := erase_int ev
  simp only [List.mem_cons, Prod.mk.injEq, List.not_mem_nil, or_false] at hz
  rcases hz with ⟨rfl, rfl, rfl⟩ | ⟨rfl, rfl, rfl⟩ | ⟨rfl, rfl, rfl⟩ | ⟨rfl, rfl, rfl⟩ | ⟨rfl, rfl, rfl⟩ | ⟨rfl, rfl, rfl⟩ <;> cases f <;> kernel_rfl
end
end Mine


set_option maxRecDepth 100000
set_option Elab.async false
set_option linter.unusedVariables false
set_option linter.unusedSectionVars false
namespace Mine
open PySem PySem.Calls PyProof.Rows PySem.W PySem.W.X
theorem map_four {vs : List Value} {a b c e : Value} (h : vs.map erase = [a, b, c, e]) : ∃ x y z u, vs = [x, y, z, u] ∧ erase x = a ∧ erase y = b ∧ erase z = c ∧ erase u = e := by
  obtain ⟨x, l, rfl, h1, h2⟩ := List.map_eq_cons_iff.mp h
  obtain ⟨y, z, u, rfl, h3⟩ := map_three h2
  exact ⟨x, y, z, u, rfl, h1, h3⟩
theorem eraseO_lst {o : Obj} {l : List Value} (h : eraseO o = lstO l 0) : ∃ vs e, o = lstO vs e ∧ vs.map erase = l := by
  obtain ⟨c, d, x, s⟩ := o
  cases x with
  | seq a e =>
    unfold eraseO lstO at h
    simp only [Obj.mk.injEq, Data.seq.injEq, Array.mk.injEq, and_true] at h
    obtain ⟨rfl, rfl, h1, rfl⟩ := h
    exact ⟨a.toList, e, rfl, h1⟩
  | _ => simp [eraseO, lstO] at h
theorem digTest_is {idx f : Nat} {c : Code} {T : KT} {tb : Array Value} {args : List Value} {o' : Obj} {l : List Value} (h : digTest idx c T tb = some (.cs f args 0 [some o'] l)) :
    ∃ vs o, c = .call (.ref f) ⟨vs, []⟩ ∧ vs.map erase = args ∧ T.get idx = some o ∧ eraseO o = o' ∧ tb.toList = l := by
  unfold digTest at h
  split at h
  · rename_i f a
    split at h
    · rename_i b
      simp only [Option.some.injEq, Ob.cs.injEq, List.cons.injEq, and_true] at h
      obtain ⟨h1, h2, h3, h4, h5⟩ := h
      subst h1
      obtain ⟨pos, kw⟩ := a
      have : kw = [] := List.length_eq_zero_iff.mp h3
      subst this
      cases hT : T.get idx with
      | none => rw [hT] at h4; cases h4
      | some o =>
        rw [hT] at h4
        exact ⟨pos, o, rfl, h2, rfl, Option.some.inj h4, h5⟩
    · cases h
  · cases h
theorem Stand.go' {P P' : Params} {h₀ h : Heap} {n m t D U : Nat} {T : KT} {tb₀ tb : Array Value} {pa pa' : Nat → Option (Addr × Obj)} {sp : Nat → Option Spec} (S : Stand P h₀ n tb₀ pa) (R : Rep (mkV P P' n t pa sp D U) h₀ h T m tb)
    (Q : ∀ j a o, pa' j = some (a, o) → (∃ j', pa j' = some (a, o)) ∨ ∃ i, a = n + i ∧ T.get i = some o) : Stand P h (n + m) tb pa' :=
  ⟨⟨fun a o e q => R.keep a o (S.inv.top a o e q) q (fun _ => nofun), R.tab⟩, R.size, fun j a o e => by
    rcases Q j a o e with ⟨j', e'⟩ | ⟨i, rfl, e'⟩
    · exact ⟨(S.par j' a o e').1, R.keep a o (S.par j' a o e').2 (S.par j' a o e').1 (fun _ => nofun)⟩
    · have hl := S.low
      refine ⟨?_, (R.own i o e').2⟩
      intro q
      have q' : n + i = 16 := q
      omega⟩
section
variable {P : Params} {f y : Bool} {h₀ : Heap} {n t D U : Nat} {tb₀ : Array Value} {pa pa' : Nat → Option (Addr × Obj)} {sp : Nat → Option Spec} {w : World} {gens : Array GenState} {d : Drawn} {os : OsState}
theorem add_ok {a b : Int} (S : Stand P h₀ n tb₀ pa) : SpecOk (mkV P (mkP P f y) n t pa sp D U) w h₀ gens d os (biSpec addI [.int a 0, .int b 0] (fun i => .int (a + b) (Nat.add t i)) 1) :=
  bi_int (V := mkV P (mkP P f y) n t pa sp D U) (adr_plain fun _ => rfl) (adr_no16 (fun _ => rfl) S.low) F.slot_int_add F.entry_int_add F.args_int_add_2 fun t u => AutoIntG4.int___add___int_int_0 a t b u
theorem lsh_ok {a k z : Int} (S : Stand P h₀ n tb₀ pa) (hP : mkP P f y = w.params) (hz : (a, k, z) ∈ [((0 : Int), (1 : Int), (0 : Int)), (1, 1, 2), (0, 2, 0), (1, 2, 4), (2, 2, 8), (3, 2, 12)]) :
    SpecOk (mkV P (mkP P f y) n t pa sp D U) w h₀ gens d os (biSpec shl [.int a 0, .int k 0] (fun i => .int z (Nat.add t i)) 1) :=
  mini_ok (r := fun _ t => .int z t) (objs := fun _ _ => []) (js := []) S hP noPa_sub (lsh_mini hz)
theorem bit_cases (b : Bool) : bitB b = 0 ∨ bitB b = 1 := by cases b <;> simp [bitB]
theorem digSp_ok (b0 b1 b2 b3 : Bool) (S : Stand P h₀ n tb₀ pa) (hP : mkP P f y = w.params) : ∀ j X, digSp (bitB b0) (bitB b1) (bitB b2) (bitB b3) t j = some X → SpecOk (mkV P (mkP P f y) n t pa sp D U) w h₀ gens d os X := by
  intro j X e
  match j, e with
  | 0, e => cases e; exact lsh_ok S hP (by cases b3 <;> decide)
  | 1, e => cases e; exact add_ok S
  | 2, e => cases e; exact lsh_ok S hP (by cases b3 <;> cases b2 <;> decide)
  | 3, e => cases e; exact lsh_ok S hP (by cases b1 <;> decide)
  | 4, e => cases e; exact add_ok S
  | 5, e => cases e; exact add_ok S
  | _ + 6, e => cases e
theorem digB_ok {q : Addr} {j : Nat} {c0 : Value} {tk : Tok} {rest : List Value} {sl : Array (Option Value)} (b : Bt) (S : Stand P h₀ n tb₀ pa) (hP : mkP P f y = w.params) (hq : pa j = some (q, codeO c0 tk rest sl)) :
    SpecOk (mkV P (mkP P f y) n t pa sp D U) w h₀ gens d os (digSpecB q n t b) := by
  refine spec_ok (V := mkV P (mkP P f y) n t pa sp D U) S.low fun c T m i tb h A R ht Dp h1 h2 h3 hR => ?_
  obtain ⟨vs, o, rfl, hv, hT, ho, htb⟩ := digTest_is ht
  obtain ⟨u, v, rfl, eu, ev⟩ := map_two hv
  obtain ⟨tok, rfl⟩ := erase_int ev
  have eu' := erase_ref eu
  subst eu'
  obtain ⟨ws, e, rfl, hw⟩ := eraseO_lst ho
  obtain ⟨v0, v1, v2, v3, rfl, e0, e1, e2, e3⟩ := map_four hw
  obtain ⟨k0, rfl⟩ := erase_int e0
  obtain ⟨k1, rfl⟩ := erase_int e1
  obtain ⟨k2, rfl⟩ := erase_int e2
  obtain ⟨k3, rfl⟩ := erase_int e3
  have htb' : tb = ⟨tb3 q⟩ := Array.ext' htb
  subst htb'
  let k : Nat → Tok := fun j => match j with | 0 => k0 | 1 => k1 | 2 => k2 | _ => k3
  have St : Stand P h (n + m) ⟨tb3 q⟩ (paD2 (n + 1) (bitsO (bitB b.2.2.2) (bitB b.2.2.1) (bitB b.2.1) (bitB b.1) k e) q (codeO c0 tk rest sl)) := by
    refine S.go' Dp fun j' a o' e' => ?_
    match j', e' with
    | 0, e' => cases e'; exact .inr ⟨1, rfl, hT⟩
    | 1, e' => cases e'; exact .inl ⟨j, hq⟩
  have O := St.hyp (t := t + i) (sp := digSp (bitB b.2.2.2) (bitB b.2.2.1) (bitB b.2.1) (bitB b.1) (t + i)) hP h1 h2 h3
  have z : res (runDB P (mkP P f y) (n + m) (t + i) (n + 1) k e tok q c0 tk rest sl (bitB b.2.2.2) (bitB b.2.2.1) (bitB b.2.1) (bitB b.1)) [] = due (runDB P (mkP P f y) (n + m) (t + i) (n + 1) k e tok q c0 tk rest sl (bitB b.2.2.2) (bitB b.2.2.1) (bitB b.2.1) (bitB b.1)) (digBW (n + m) (t + i) q (bitsV (bitB b.2.2.2) (bitB b.2.2.1) (bitB b.2.1) (bitB b.1))) := by
    cases f
    · exact digB_f ..
    · exact digB_t ..
  obtain ⟨z1, z2⟩ := due_is z
  refine run_call O (digSp_ok _ _ _ _ St hP) St.inv.tab rfl rfl z1 z2 R fun h' F => ?_
  exact hR h' F
theorem digA_ok (b : Bt) (S : Stand P h₀ n tb₀ pa) (hP : mkP P f y = w.params) :
    SpecOk (mkV P (mkP P f y) n t pa sp D U) w h₀ gens d os (digSpecA n t b) := by
  refine spec_ok (V := mkV P (mkP P f y) n t pa sp D U) S.low fun c T m i tb h A R ht Dp h1 h2 h3 hR => ?_
  obtain ⟨vs, o, rfl, hv, hT, ho, htb⟩ := digTest_is ht
  obtain ⟨u, v, rfl, eu, ev⟩ := map_two hv
  obtain ⟨tok, rfl⟩ := erase_int ev
  have eu' := erase_ref eu
  subst eu'
  obtain ⟨ws, e, rfl, hw⟩ := eraseO_lst ho
  obtain ⟨v0, v1, v2, v3, rfl, e0, e1, e2, e3⟩ := map_four hw
  obtain ⟨k0, rfl⟩ := erase_int e0
  obtain ⟨k1, rfl⟩ := erase_int e1
  obtain ⟨k2, rfl⟩ := erase_int e2
  obtain ⟨k3, rfl⟩ := erase_int e3
  have htb' : tb = #[] := Array.ext' htb
  subst htb'
  let k : Nat → Tok := fun j => match j with | 0 => k0 | 1 => k1 | 2 => k2 | _ => k3
  have St : Stand P h (n + m) #[] (paD1 (n + 1) (bitsO (bitB b.2.2.2) (bitB b.2.2.1) (bitB b.2.1) (bitB b.1) k e)) := by
    refine S.go' Dp fun j' a o' e' => ?_
    match j', e' with
    | 0, e' => cases e'; exact .inr ⟨1, rfl, hT⟩
  have O := St.hyp (t := t + i) (sp := digSp (bitB b.2.2.2) (bitB b.2.2.1) (bitB b.2.1) (bitB b.1) (t + i)) hP h1 h2 h3
  have z : res (runDA P (mkP P f y) (n + m) (t + i) (n + 1) k e tok (bitB b.2.2.2) (bitB b.2.2.1) (bitB b.2.1) (bitB b.1)) [10] = due (runDA P (mkP P f y) (n + m) (t + i) (n + 1) k e tok (bitB b.2.2.2) (bitB b.2.2.1) (bitB b.2.1) (bitB b.1)) (digAW (n + m) (t + i) (bitsV (bitB b.2.2.2) (bitB b.2.2.1) (bitB b.2.1) (bitB b.1))) := by
    cases f
    · exact digA_f ..
    · exact digA_t ..
  obtain ⟨z1, z2⟩ := due_is z
  refine run_call O (digSp_ok _ _ _ _ St hP) St.inv.tab rfl rfl z1 z2 R fun h' F => ?_
  exact hR h' F
end
end Mine


set_option maxRecDepth 100000
set_option Elab.async false
set_option linter.unusedVariables false
set_option linter.unusedSectionVars false
namespace Mine
open PySem PySem.Calls PyProof.Rows PySem.W PySem.W.X
theorem biTestX_is {c : Code} {T : KT} {tb : Array Value} {id : String} {args : List Value} (h : biTestX c T tb = some (.bi id args 0 [])) : c = .call (.builtin id) ⟨args, []⟩ := by
  unfold biTestX at h
  split at h
  · rename_i f a
    split at h
    · rename_i g
      simp only [Option.some.injEq, Ob.bi.injEq, and_true] at h
      obtain ⟨h1, h2, h3⟩ := h
      subst h1
      obtain ⟨pos, kw⟩ := a
      have : kw = [] := List.length_eq_zero_iff.mp h3
      subst this
      have h2 : pos = args := h2
      subst h2
      rfl
    · cases h
  · cases h
noncomputable abbrev MiniX (P : Params) (pa : Nat → Option (Addr × Obj)) (F : Nat) (orc : List Nat) (id : String) (args : List Value) (r : Nat → Nat → Value) (W Wt : Nat) (js : List Nat) (objs : Nat → Nat → List Obj) : Prop :=
  ∀ (f y : Bool) (n t : Nat) (tb : Array Value),
    res (runCode (mkV P (mkP P f y) n t pa noSp 100000 100000) F [] orc (.call (.builtin id) ⟨args, []⟩) tb) js = due (runCode (mkV P (mkP P f y) n t pa noSp 100000 100000) F [] orc (.call (.builtin id) ⟨args, []⟩) tb) (.ok (.ret (r n t)), W, Wt, tb.toList, (objs n t).map some)
section
variable {P : Params} {f y : Bool} {h₀ : Heap} {n t D U : Nat} {tb₀ : Array Value} {pa pa' : Nat → Option (Addr × Obj)} {sp : Nat → Option Spec} {w : World} {gens : Array GenState} {d : Drawn} {os : OsState}
theorem miniX_ok {id : String} {args : List Value} {r : Nat → Nat → Value} {W Wt : Nat} {js : List Nat} {objs : Nat → Nat → List Obj} {F : Nat} {orc : List Nat} (S : Stand P h₀ n tb₀ pa) (hP : mkP P f y = w.params)
    (Q : ∀ j a o, pa' j = some (a, o) → ∃ j', pa j' = some (a, o)) (H : MiniX P pa' F orc id args r W Wt js objs) :
    SpecOk (mkV P (mkP P f y) n t pa sp D U) w h₀ gens d os (xSpec id args (fun m i => r (n + m) (t + i)) W Wt fun m i => js.zip (objs (n + m) (t + i))) := by
  refine spec_ok (V := mkV P (mkP P f y) n t pa sp D U) S.low fun c T m i tb h A R ht Dp h1 h2 h3 hR => ?_
  have e := biTestX_is ht
  subst e
  have O := ((S.go Dp).sub Q).hyp (t := t + i) (sp := noSp) hP h1 h2 h3
  refine run_code (V := mkV P (mkP P f y) (n + m) (t + i) pa' noSp 100000 100000) O (fun j S e => by cases e) (S.go Dp).inv.tab (H f y (n + m) (t + i) tb) R fun h' F => ?_
  exact hR h' F

noncomputable def lett (p : Nat) : Nat := match p with
  | 0 => 114
  | 1 => 103
  | _ => 98
theorem lt3 {p : Nat} (h : p < 3) : p = 0 ∨ p = 1 ∨ p = 2 := by omega
noncomputable def wordS (p : Nat → Nat) : Str := ⟨⟨[lett (p 0), lett (p 1), lett (p 2), lett (p 3)]⟩⟩
theorem iter_mini0 (a b c e : Nat) (ha : a < 3) (hb : b < 3) (hc : c < 3) (he : e < 3) {t1 : Tok} : MiniX P noPa 20 [] "str.__iter__" [.str ⟨⟨[lett a, lett b, lett c, lett e]⟩⟩ t1] (fun n _ => .ref n) 1 0 [0] (fun _ _ => [iterO ⟨⟨[lett a, lett b, lett c, lett e]⟩⟩ t1]) := by
  intro f y n t tb
  rcases lt3 ha with rfl | rfl | rfl <;> rcases lt3 hb with rfl | rfl | rfl <;> rcases lt3 hc with rfl | rfl | rfl <;> rcases lt3 he with rfl | rfl | rfl <;> kernel_rfl
theorem iter_mini {p : Nat → Nat} (hp : ∀ k, p k < 3) {t1 : Tok} : MiniX P noPa 20 [] "str.__iter__" [.str (wordS p) t1] (fun n _ => .ref n) 1 0 [0] (fun _ _ => [iterO (wordS p) t1]) :=
  iter_mini0 (p 0) (p 1) (p 2) (p 3) (hp 0) (hp 1) (hp 2) (hp 3)
theorem index_mini {p : Nat} (hp : p < 3) : Mini P noPa 20 [] "str.index" [.str rgbS 0, .str ⟨⟨[lett p]⟩⟩ 0] (fun _ t => .int (p : Int) t) 0 1 [] (fun _ _ => []) := by
  intro f y vs n t tb hv
  obtain ⟨u, v, rfl, eu, ev⟩ := map_two hv
  obtain ⟨tu, rfl⟩ := erase_str eu
  obtain ⟨tv, rfl⟩ := erase_str ev
  match p, hp with
  | 0, _ => cases f <;> kernel_rfl
  | 1, _ => cases f <;> kernel_rfl
  | 2, _ => cases f <;> kernel_rfl
noncomputable def nth3 (a b c : Value) (i : Nat) : Value := match i with
  | 0 => a
  | 1 => b
  | _ => c
theorem get_mini {i : Nat} (hi : i < 3) {a : Addr} {v0 v1 v2 : Value} {e : Nat} : Mini P (paD1 a (lstO [v0, v1, v2] e)) 20 [2, 2] "list.__getitem__" [.ref a, .int (i : Int) 0] (fun _ _ => nth3 v0 v1 v2 i) 0 0 [] (fun _ _ => []) := by
  intro f y vs n t tb hv
  obtain ⟨u, v, rfl, eu, ev⟩ := map_two hv
  obtain ⟨tv, rfl⟩ := erase_int ev
  have eu' := erase_ref eu
  subst eu'
  match i, hi with
  | 0, _ => cases f <;> kernel_rfl
  | 1, _ => cases f <;> kernel_rfl
  | 2, _ => cases f <;> kernel_rfl
end
end Mine


set_option maxRecDepth 100000
set_option Elab.async false
set_option linter.unusedVariables false
set_option linter.unusedSectionVars false
namespace Mine
open PySem PySem.Calls PyProof.Rows PySem.W PySem.W.X
theorem Stand.goX {P P' : Params} {h₀ h : Heap} {n m t D U : Nat} {T : KT} {tb₀ tb : Array Value} {pa pa' : Nat → Option (Addr × Obj)} {sp : Nat → Option Spec} (S : Stand P h₀ n tb₀ pa') (R : Rep (mkV P P' n t pa sp D U) h₀ h T m tb) : Stand P h (n + m) tb pa' :=
  ⟨⟨fun a o e q => R.keep a o (S.inv.top a o e q) q (fun _ => nofun), R.tab⟩, R.size, fun j a o e => ⟨(S.par j a o e).1, R.keep a o (S.par j a o e).2 (S.par j a o e).1 (fun _ => nofun)⟩⟩
section
variable {P : Params} {f y : Bool} {h₀ : Heap} {n t D U : Nat} {tb₀ : Array Value} {pa pa' : Nat → Option (Addr × Obj)} {sp : Nat → Option Spec} {w : World} {gens : Array GenState} {d : Drawn} {os : OsState}
theorem mini_at {id : String} {args : List Value} {r : Nat → Nat → Value} {W Wt : Nat} {js : List Nat} {objs : Nat → Nat → List Obj} {F : Nat} {orc : List Nat} (S : Stand P h₀ n tb₀ pa') (hP : mkP P f y = w.params)
    (H : Mini P pa' F orc id args r W Wt js objs) :
    SpecOk (mkV P (mkP P f y) n t pa sp D U) w h₀ gens d os (cSpec id args (fun m i => r (n + m) (t + i)) W Wt fun m i => js.zip (objs (n + m) (t + i))) := by
  refine spec_ok (V := mkV P (mkP P f y) n t pa sp D U) S.low fun c T m i tb h A R ht Dp h1 h2 h3 hR => ?_
  obtain ⟨vs, e, hv⟩ := biTest_is ht
  subst e
  have O := (S.goX Dp).hyp (t := t + i) (sp := noSp) hP h1 h2 h3
  refine run_code (V := mkV P (mkP P f y) (n + m) (t + i) pa' noSp 100000 100000) O (fun j S e => by cases e) (S.goX Dp).inv.tab (H f y vs (n + m) (t + i) tb hv) R fun h' F => ?_
  exact hR h' F
theorem miniX_at {id : String} {args : List Value} {r : Nat → Nat → Value} {W Wt : Nat} {js : List Nat} {objs : Nat → Nat → List Obj} {F : Nat} {orc : List Nat} (S : Stand P h₀ n tb₀ pa') (hP : mkP P f y = w.params)
    (H : MiniX P pa' F orc id args r W Wt js objs) :
    SpecOk (mkV P (mkP P f y) n t pa sp D U) w h₀ gens d os (xSpec id args (fun m i => r (n + m) (t + i)) W Wt fun m i => js.zip (objs (n + m) (t + i))) := by
  refine spec_ok (V := mkV P (mkP P f y) n t pa sp D U) S.low fun c T m i tb h A R ht Dp h1 h2 h3 hR => ?_
  have e := biTestX_is ht
  subst e
  have O := (S.goX Dp).hyp (t := t + i) (sp := noSp) hP h1 h2 h3
  refine run_code (V := mkV P (mkP P f y) (n + m) (t + i) pa' noSp 100000 100000) O (fun j S e => by cases e) (S.goX Dp).inv.tab (H f y (n + m) (t + i) tb) R fun h' F => ?_
  exact hR h' F
theorem Stand.bare {h : Heap} (S : Stand P h n tb₀ pa) : Stand P h n tb₀ noPa := S.sub noPa_sub
theorem Stand.one {h : Heap} {j : Nat} {a : Addr} {o : Obj} (S : Stand P h n tb₀ pa) (e : pa j = some (a, o)) : Stand P h n tb₀ (paD1 a o) := S.sub (paD1_sub e)
theorem eq_ok {a b : Int} {z : Bool} (S : Stand P h₀ n tb₀ pa') (hz : (a == b) = z) : SpecOk (mkV P (mkP P f y) n t pa sp D U) w h₀ gens d os (cSpec "int.__eq__" [.int a 0, .int b 0] (fun _ _ => .bool z) 0 0 fun _ _ => []) := by
  subst hz
  exact bi_bool (V := mkV P (mkP P f y) n t pa sp D U) (adr_plain fun _ => rfl) (adr_no16 (fun _ => rfl) S.low) F.slot_int_eq F.entry_int_eq F.args_int_eq_2 fun t u => AutoIntG7.int___eq___int_int_0 a t b u
end

/-! The thirds, as the text makes them. -/
structure Th where
  a : Addr
  r : Nat → Addr
  e : Nat → Nat
  τ : Nat → Nat → Tok
noncomputable def th (p g : Nat) : Nat := (6 - p - g) % 3
noncomputable def Th.row (X : Th) (j : Nat) : List Value := [.int (th j 0 : Nat) (X.τ j 0), .int (th j 1 : Nat) (X.τ j 1), .int (th j 2 : Nat) (X.τ j 2)]
noncomputable def Th.all (X : Th) : List Value := [.ref (X.r 0), .ref (X.r 1), .ref (X.r 2)]
noncomputable def Th.pa (X : Th) (q : Addr) (oq : Obj) : Nat → Option (Addr × Obj)
  | 0 => some (X.a, lstO X.all (X.e 0))
  | 1 => some (X.r 0, lstO (X.row 0) (X.e 1))
  | 2 => some (X.r 1, lstO (X.row 1) (X.e 2))
  | 3 => some (X.r 2, lstO (X.row 2) (X.e 3))
  | 4 => some (q, oq)
  | _ => none
noncomputable def gs (p : Nat → Nat) (g : Nat) : Nat → Nat
  | 0 => g
  | k + 1 => th (p k) (gs p g k)
theorem gs_lt {p : Nat → Nat} {g : Nat} (hg : g < 3) : ∀ k, gs p g k < 3
  | 0 => hg
  | k + 1 => Nat.mod_lt _ (by decide)
noncomputable def wpOf (X : Th) (p : Nat → Nat) (g : Nat) (q : Addr) (oq : Obj) : Wp where
  c k := lett (p k)
  p k := (p k : Nat)
  g k := (gs p g k : Nat)
  a0 := X.a
  ρ k := X.r (p k)
  τ k := X.τ (p k) (gs p g k)
  l k := match k with
    | 0 => X.all
    | k + 1 => X.row (p k)
  e k := match k with
    | 0 => X.e 0
    | k + 1 => X.e (p k + 1)
  q := q
  oq := oq
noncomputable def btOf (p : Nat → Nat) (g : Nat) : Bt := ((p 0 : Int) == gs p g 0, (p 1 : Int) == gs p g 1, (p 2 : Int) == gs p g 2, (p 3 : Int) == gs p g 3)
noncomputable def wayV (p : Nat → Nat) (g : Nat) : Int := (btOf p g).val
section
variable {P : Params} {f y : Bool} {h : Heap} {n t D U : Nat} {tb : Array Value} {pa : Nat → Option (Addr × Obj)} {sp : Nat → Option Spec} {w : World} {gens : Array GenState} {d : Drawn} {os : OsState} {X : Th} {q : Addr} {oq : Obj} {p : Nat → Nat} {g : Nat}
theorem Th.row_at (S : Stand P h n tb (X.pa q oq)) {j : Nat} (hj : j < 3) : Stand P h n tb (paD1 (X.r j) (lstO (X.row j) (X.e (j + 1)))) := by
  match j, hj with
  | 0, _ => exact S.one (j := 1) rfl
  | 1, _ => exact S.one (j := 2) rfl
  | 2, _ => exact S.one (j := 3) rfl
theorem Th.stand (S : Stand P h n tb (X.pa q oq)) (hp : ∀ k, p k < 3) : Stand P h n tb (wpOf X p g q oq).pa := by
  refine ⟨S.inv, S.size, fun j a o e => ?_⟩
  match j, e with
  | 0, e => cases e; exact S.par 0 _ _ rfl
  | 1, e => cases e; exact (Th.row_at S (hp 0)).par 0 _ _ rfl
  | 2, e => cases e; exact (Th.row_at S (hp 1)).par 0 _ _ rfl
  | 3, e => cases e; exact (Th.row_at S (hp 2)).par 0 _ _ rfl
  | 4, e => cases e; exact (Th.row_at S (hp 3)).par 0 _ _ rfl
  | 5, e => cases e; exact S.par 4 _ _ rfl
theorem nth_all {i : Nat} (hi : i < 3) : nth3 (.ref (X.r 0)) (.ref (X.r 1)) (.ref (X.r 2)) i = .ref (X.r i) := by
  match i, hi with
  | 0, _ => rfl
  | 1, _ => rfl
  | 2, _ => rfl
theorem nth_row {i j : Nat} (hi : i < 3) : nth3 (.int (th j 0 : Nat) (X.τ j 0)) (.int (th j 1 : Nat) (X.τ j 1)) (.int (th j 2 : Nat) (X.τ j 2)) i = .int (th j i : Nat) (X.τ j i) := by
  match i, hi with
  | 0, _ => rfl
  | 1, _ => rfl
  | 2, _ => rfl
theorem way_sp {dg : Spec} {t1 : Tok} (S : Stand P h n tb (X.pa q oq)) (hP : mkP P f y = w.params) (hp : ∀ k, p k < 3) (hg : g < 3)
    (hd : SpecOk (mkV P (mkP P f y) n t pa sp D U) w h gens d os dg) :
    ∀ j Z, waySp dg (wpOf X p g q oq) (btOf p g) n t t1 j = some Z → SpecOk (mkV P (mkP P f y) n t pa sp D U) w h gens d os Z := by
  have hI : ∀ k, SpecOk (mkV P (mkP P f y) n t pa sp D U) w h gens d os (cSpec "str.index" [.str rgbS 0, .str ⟨⟨[lett (p k)]⟩⟩ 0] (fun _ i => .int (p k : Nat) (Nat.add t i)) 0 1 fun _ _ => []) := fun k =>
    mini_at (r := fun _ t => .int (p k : Nat) t) (objs := fun _ _ => []) (js := []) S.bare hP (index_mini (hp k))
  have hA : ∀ k, SpecOk (mkV P (mkP P f y) n t pa sp D U) w h gens d os (cSpec "list.__getitem__" [.ref X.a, .int (p k : Nat) 0] (fun _ _ => .ref (X.r (p k))) 0 0 fun _ _ => []) := fun k => by
    have z := mini_at (t := t) (pa := pa) (sp := sp) (D := D) (U := U) (gens := gens) (d := d) (os := os) (r := fun _ _ => nth3 (.ref (X.r 0)) (.ref (X.r 1)) (.ref (X.r 2)) (p k)) (objs := fun _ _ => []) (js := []) (S.one (j := 0) rfl) hP (get_mini (hp k))
    rw [nth_all (hp k)] at z
    exact z
  have hB : ∀ k, SpecOk (mkV P (mkP P f y) n t pa sp D U) w h gens d os (cSpec "list.__getitem__" [.ref (X.r (p k)), .int (gs p g k : Nat) 0] (fun _ _ => .int (gs p g (k + 1) : Nat) (X.τ (p k) (gs p g k))) 0 0 fun _ _ => []) := fun k => by
    have z := mini_at (t := t) (pa := pa) (sp := sp) (D := D) (U := U) (gens := gens) (d := d) (os := os) (r := fun _ _ => nth3 (.int (th (p k) 0 : Nat) (X.τ (p k) 0)) (.int (th (p k) 1 : Nat) (X.τ (p k) 1)) (.int (th (p k) 2 : Nat) (X.τ (p k) 2)) (gs p g k)) (objs := fun _ _ => []) (js := []) (Th.row_at S (hp k)) hP (get_mini (gs_lt hg k))
    rw [nth_row (gs_lt hg k)] at z
    exact z
  have hE : ∀ k (z : Bool), ((p k : Int) == gs p g k) = z → SpecOk (mkV P (mkP P f y) n t pa sp D U) w h gens d os (cSpec "int.__eq__" [.int (p k : Nat) 0, .int (gs p g k : Nat) 0] (fun _ _ => .bool z) 0 0 fun _ _ => []) := fun k z hz => eq_ok S.bare hz
  intro j Z e
  match j, e with
  | 0, e => cases e; exact hd
  | 1, e => cases e; exact miniX_at (r := fun n _ => .ref n) (objs := fun _ _ => [iterO (wordS p) t1]) (js := [0]) S.bare hP (iter_mini hp)
  | 2, e => cases e; exact hI 0
  | 3, e => cases e; exact hE 0 _ rfl
  | 4, e => cases e; exact hA 0
  | 5, e => cases e; exact hB 0
  | 6, e => cases e; exact hI 1
  | 7, e => cases e; exact hE 1 _ rfl
  | 8, e => cases e; exact hA 1
  | 9, e => cases e; exact hB 1
  | 10, e => cases e; exact hI 2
  | 11, e => cases e; exact hE 2 _ rfl
  | 12, e => cases e; exact hA 2
  | 13, e => cases e; exact hB 2
  | 14, e => cases e; exact hI 3
  | 15, e => cases e; exact hE 3 _ rfl
  | 16, e => cases e; exact hA 3
  | 17, e => cases e; exact hB 3
  | j + 18, e =>
    have e' : (match Nat.blt (j + 16) 16 with
      | true => wayIt (wpOf X p g q oq) (btOf p g) t ((j + 16) / 4) ((j + 16) % 4)
      | false => none) = some Z := e
    have hb : Nat.blt (j + 16) 16 = false := by
      cases hb : Nat.blt (j + 16) 16 with
      | false => rfl
      | true => have := blt_true hb; omega
    rw [hb] at e'
    cases e'
theorem wayB_go {c0 : Value} {tk : Tok} {rest : List Value} {sl : Array (Option Value)} {A : Around} {R : Result → Shared → Prop} (S : Stand P h n ⟨tb3 q⟩ (X.pa q (codeO c0 tk rest sl))) (hP : mkP P f y = w.params) (hp : ∀ k, p k < 3) (hg : g < 3)
    (hd : A.depth ≤ 390) (hu : A.units ≤ 1900) (hh : A.handled = none) (t1 t2 : Tok)
    (hR : ∀ h', After h h' n 18 ⟨tb3 q⟩ ⟨tb3 q⟩ [] → R (.ok (.ret (.int (wayV p g) (t + 96)))) ⟨h', gens, d, t + 97, os⟩) :
    codeAny (model PySem.Challenge.pw_sl0015_01 w) A (.call (.ref 68) ⟨[.str (wordS p) t1, .int (g : Nat) t2, .ref X.a], []⟩) R ⟨h, gens, d, t, os⟩ := by
  have St := Th.stand (g := g) S hp
  have O := St.hyp (t := t) (sp := waySp (digSpecB q n t (btOf p g)) (wpOf X p g q (codeO c0 tk rest sl)) (btOf p g) n t t1) hP hd hu hh
  obtain ⟨z1, z2⟩ := due_is (wayB P f y n t (wpOf X p g q (codeO c0 tk rest sl)) t1 t2 (btOf p g))
  refine run_call O (way_sp S hP hp hg (digB_ok (j := 5) (btOf p g) St hP rfl)) St.inv.tab rfl rfl z1 z2 R fun h' F => ?_
  exact hR h' F
theorem wayA_go {A : Around} {R : Result → Shared → Prop} (S : Stand P h n #[] (X.pa q oq)) (hP : mkP P f y = w.params) (hp : ∀ k, p k < 3) (hg : g < 3)
    (hd : A.depth ≤ 390) (hu : A.units ≤ 1900) (hh : A.handled = none) (t1 t2 : Tok)
    (hR : ∀ h', After h h' n 24 #[] ⟨tb3 (n + 15)⟩ [(15, codeA (n + 5) (t + 37))] → R (.ok (.ret (.int (wayV p g) (t + 108)))) ⟨h', gens, d, t + 109, os⟩) :
    codeAny (model PySem.Challenge.pw_sl0015_01 w) A (.call (.ref 68) ⟨[.str (wordS p) t1, .int (g : Nat) t2, .ref X.a], []⟩) R ⟨h, gens, d, t, os⟩ := by
  have St := Th.stand (g := g) S hp
  have O := St.hyp (t := t) (sp := waySp (digSpecA n t (btOf p g)) (wpOf X p g q oq) (btOf p g) n t t1) hP hd hu hh
  obtain ⟨z1, z2⟩ := due_is (wayA P f y n t (wpOf X p g q oq) t1 t2 (btOf p g))
  refine run_call O (way_sp S hP hp hg (digA_ok (btOf p g) St hP)) St.inv.tab rfl rfl z1 z2 R fun h' F => ?_
  exact hR h' F
end
end Mine


set_option maxRecDepth 100000
set_option Elab.async false
set_option linter.unusedVariables false
set_option linter.unusedSectionVars false
namespace Mine
open PySem PySem.Calls PyProof.Rows PySem.W PySem.W.X
noncomputable def dots (l : List Nat) : Str := ⟨⟨46 :: 46 :: 46 :: l⟩⟩
noncomputable def strL (l : List Nat) : Str := ⟨⟨l⟩⟩
noncomputable def ellSp (wd suf : List Nat) (b : Bool) : Nat → Option Spec
  | 0 => some (cSpec "str.endswith" [.str (strL wd) 0, .str (strL suf) 0] (fun _ _ => .bool b) 0 0 fun _ _ => [])
  | _ => none
noncomputable def slEll : List Nat := (dc 19 105312291668557186697918027683670432318895095400549111254310977536 [])
noncomputable def orcEllT : List Nat := (dc 32 125076339786476775182259995961305901047014884970897871664050819623276980599209734242944299598805848320626778968228 (dc 32 48109895381636645901366462451827093061797084503405765057270400116902909610055324692960744134944671575609238933517 (dc 32 240549488378475990384871372918237666203850921980834565352395562907757044887789172233084059350895278211587354152965 (dc 27 275393017182276912984717012390008327924518110253371569824503562495697859405007574443254484062233 []))))
noncomputable def orcEllF : List Nat := (dc 32 125076339786476775182259995961305901047014884970897871664050819623276980599209734242944299598805848320626778968228 (dc 32 48109895381636645901366462451827093061797084503405765057270400116902909610055324692960744134944671575609238933517 (dc 8 19347536633519984827453445 [])))
noncomputable def runEll (P P' : Params) (n t : Nat) (c0 c1 c2 c3 : Nat) (suf : List Nat) (b : Bool) (t1 t2 : Tok) (tb : Array Value) : Out :=
  runCall (mkV P P' n t noPa (ellSp [c0, c1, c2, c3] suf b) 395 1950) 600 slEll (cond b orcEllT orcEllF) 42 [.str (dots suf) t1, .str (strL [c0, c1, c2, c3]) t2] tb
noncomputable def ellW (b : Bool) (tb : Array Value) : Result × Nat × Nat × List Value × List (Option Obj) := (.ok (.ret (.bool b)), cond b 9 6, cond b 36 22, tb.toList, [].map some)
end Mine


set_option maxRecDepth 100000
set_option Elab.async false
set_option linter.unusedVariables false
set_option linter.unusedSectionVars false
namespace Mine
open PySem PySem.Calls PyProof.Rows PySem.W PySem.W.X
set_option maxHeartbeats 0
noncomputable def sufA (p : Nat) : List Nat := [lett p]
noncomputable def sufB (o t m : Nat) : List Nat := lett o :: List.replicate m (lett t)
theorem ellA (P : Params) (f y : Bool) (n t c0 c1 c2 c3 : Nat) (t1 t2 : Tok) (tb : Array Value) (p : Nat) (hp : p < 3) (b : Bool) :
    res (runEll P (mkP P f y) n t c0 c1 c2 c3 (sufA p) b t1 t2 tb) [] = due (runEll P (mkP P f y) n t c0 c1 c2 c3 (sufA p) b t1 t2 tb) (ellW b tb) := by
  rcases lt3 hp with rfl | rfl | rfl <;> cases f <;> cases b <;> kernel_rfl
noncomputable abbrev EllBr (o p : Nat) : Prop := ∀ (P : Params) (f y : Bool) (n t c0 c1 c2 c3 : Nat) (t1 t2 : Tok) (tb : Array Value) (m : Nat) (hm : m < 3) (b : Bool),
    res (runEll P (mkP P f y) n t c0 c1 c2 c3 (sufB o p (m + 1)) b t1 t2 tb) [] = due (runEll P (mkP P f y) n t c0 c1 c2 c3 (sufB o p (m + 1)) b t1 t2 tb) (ellW b tb)
theorem ellB01 : EllBr 0 1 := by
  intro P f y n t c0 c1 c2 c3 t1 t2 tb m hm b
  rcases lt3 hm with rfl | rfl | rfl <;> cases f <;> cases b <;> kernel_rfl
theorem ellB02 : EllBr 0 2 := by
  intro P f y n t c0 c1 c2 c3 t1 t2 tb m hm b
  rcases lt3 hm with rfl | rfl | rfl <;> cases f <;> cases b <;> kernel_rfl
theorem ellB10 : EllBr 1 0 := by
  intro P f y n t c0 c1 c2 c3 t1 t2 tb m hm b
  rcases lt3 hm with rfl | rfl | rfl <;> cases f <;> cases b <;> kernel_rfl
theorem ellB12 : EllBr 1 2 := by
  intro P f y n t c0 c1 c2 c3 t1 t2 tb m hm b
  rcases lt3 hm with rfl | rfl | rfl <;> cases f <;> cases b <;> kernel_rfl
theorem ellB20 : EllBr 2 0 := by
  intro P f y n t c0 c1 c2 c3 t1 t2 tb m hm b
  rcases lt3 hm with rfl | rfl | rfl <;> cases f <;> cases b <;> kernel_rfl
theorem ellB21 : EllBr 2 1 := by
  intro P f y n t c0 c1 c2 c3 t1 t2 tb m hm b
  rcases lt3 hm with rfl | rfl | rfl <;> cases f <;> cases b <;> kernel_rfl
theorem ellB (P : Params) (f y : Bool) (n t c0 c1 c2 c3 : Nat) (t1 t2 : Tok) (tb : Array Value) (o p m : Nat) (ho : o < 3) (hp : p < 3) (hm : m < 3) (hop : o ≠ p) (b : Bool) :
    res (runEll P (mkP P f y) n t c0 c1 c2 c3 (sufB o p (m + 1)) b t1 t2 tb) [] = due (runEll P (mkP P f y) n t c0 c1 c2 c3 (sufB o p (m + 1)) b t1 t2 tb) (ellW b tb) := by
  rcases lt3 ho with rfl | rfl | rfl <;> rcases lt3 hp with rfl | rfl | rfl
  · exact absurd rfl hop
  · exact ellB01 P f y n t c0 c1 c2 c3 t1 t2 tb m hm b
  · exact ellB02 P f y n t c0 c1 c2 c3 t1 t2 tb m hm b
  · exact ellB10 P f y n t c0 c1 c2 c3 t1 t2 tb m hm b
  · exact absurd rfl hop
  · exact ellB12 P f y n t c0 c1 c2 c3 t1 t2 tb m hm b
  · exact ellB20 P f y n t c0 c1 c2 c3 t1 t2 tb m hm b
  · exact ellB21 P f y n t c0 c1 c2 c3 t1 t2 tb m hm b
  · exact absurd rfl hop
end Mine


set_option maxRecDepth 100000
set_option Elab.async false
set_option linter.unusedVariables false
set_option linter.unusedSectionVars false
namespace Mine
open PySem PySem.Calls PyProof.Rows PySem.W PySem.W.X

/-! Runs of a part of a body: the frame and what else is older stands low. -/
noncomputable def execsF := PySem.W.Fast.tw12563942051412417395
theorem execsF_eq : execs = execsF := PySem.W.Fast.te12563942051412417395
noncomputable def evalF := PySem.W.Fast.tw14044960220447912780
theorem evalF_eq : eval = evalF := PySem.W.Fast.te14044960220447912780
noncomputable def isTrueF := PySem.W.Fast.tw15418851999007992765
theorem isTrueF_eq : PySem.isTrue = isTrueF := PySem.W.Fast.te15418851999007992765
noncomputable def assignF := PySem.W.Fast.tw17772580674575903948
theorem assignF_eq : assign = assignF := PySem.W.Fast.te17772580674575903948
noncomputable def pyNextF := PySem.W.Fast.tw9404975358583537561
theorem pyNextF_eq : pyNext = pyNextF := PySem.W.Fast.te9404975358583537561

/-- What such a run leaves behind. -/
structure AfterL (V : Vw) (h h' : Heap) (W : Nat) (tb tb' : Array Value) (new : List (Nat × Obj)) : Prop where
  size : h'.objs.size = V.n₁ + W
  keep : ∀ b o, h.get? b = some o → b ≠ 16 → (∀ i, V.lw i ≠ some b) → h'.get? b = some o
  tab : h'.get? 16 = some (tableObj tb')
  more : ∃ more, tb' = tb ++ more
  new : ∀ j o, (j, o) ∈ new → j < W ∧ h'.get? (adr V j) = some o

noncomputable def encT {α : Type} (enc : α → Flow) (t : Sem α) : Sem PySem.Fin := PySem.W.R.bindR t fun a => .pure (.done (enc a))
noncomputable def runEnc {α : Type} (V : Vw) (F : Nat) (sl orc : List Nat) (enc : α → Flow) (t : Sem α) (T₀ : KT) (m₀ : Nat) (tb : Array Value) : Out :=
  loop V F sl orc none .base (encT enc t) T₀ m₀ 0 tb [] []

theorem run_enc {α : Type} {V : Vw} {w : World} {h₀ h : Heap} {A : Around} {gens : Array GenState} {d : Drawn} {os : OsState} {tb₀ tb : Array Value} {T₀ : KT} {m₀ n : Nat} {sl orc : List Nat} {enc : α → Flow} {t : Sem α} {r : Result} {W Wt : Nat} {tb' : List Value} {js : List Nat} {objs : List Obj}
    (O : Hyp V w h₀ A) (SO : ∀ j S, V.sp j = some S → SpecOk V w h₀ gens d os S) (ht : h₀.get? 16 = some (tableObj tb₀)) (D₀ : Rep V h₀ h T₀ m₀ tb)
    (h1 : res (runEnc V n sl orc enc t T₀ m₀ tb) js = due (runEnc V n sl orc enc t T₀ m₀ tb) (r, W, Wt, tb', objs.map some))
    (R : Result → Shared → Prop) (hR : ∀ h', AfterL V h₀ h' W tb₀ ⟨tb'⟩ (js.zip objs) → R r ⟨h', gens, d, V.t₀ + Wt, os⟩) :
    wpAny (model V.prog w) A t (fun a s => R (.ok (enc a)) s) (fun e s => R (.error e) s) ⟨h, gens, d, V.t₀, os⟩ := by
  obtain ⟨z1, z2⟩ := due_is h1
  unfold runEnc at z1 z2
  cases ho : loop V n sl orc none .base (encT enc t) T₀ m₀ 0 tb [] [] with
  | bad _ _ => rw [ho] at z1; cases z1
  | word _ => rw [ho] at z1; cases z1
  | agn => rw [ho] at z1; cases z1
  | ok r0 T m i tb0 la lc =>
    rw [ho] at z1 z2
    have h3 : la = lc := z2
    simp only [outR, Option.some.injEq, Prod.mk.injEq] at z1
    obtain ⟨e1, e2, e3, e4, e5⟩ := z1
    subst e1 e2 e3
    have e4' : tb0 = ⟨tb'⟩ := Array.ext' e4
    subst e4'
    obtain ⟨_, z⟩ := loop_snd (gens := gens) (d := d) (os := os) O SO n sl orc none .base (encT enc t) T₀ m₀ 0 tb [] [] la lc (by rw [ho]; rfl) h3
    rw [ho] at z
    have y := z R (fun h' D => hR h' ⟨D.size, D.keep, D.tab, D.more tb₀ ht, fun j o hm => by
      have : (j, some o) ∈ js.zip (objs.map some) := by
        rw [List.zip_map_right]
        exact List.mem_map.mpr ⟨(j, o), hm, rfl⟩
      exact D.own j o (zip_mem e5 this)⟩) h D₀
    intro Γ p hΓ
    have x := y Γ p hΓ
    unfold encT at x
    rw [← PySem.W.R.bindR_eq, Sem.wp_bind] at x
    exact Sem.wp_mono _ Γ _ (fun a p' s' q => q) (fun _ _ _ q => q) p _ x
/-! The same, with any look at what the run owns. -/
noncomputable def outG {β : Type} (g : KT → β) (o : Out) : Option (Result × Nat × Nat × List Value × β) := match o with
  | .ok r T m i tb _ _ => some (r, m, i, tb.toList, g T)
  | _ => none
noncomputable def resG {β : Type} (g : KT → β) (o : Out) : Option (Result × Nat × Nat × List Value × β) × List Ob := (outG g o, outA o)
noncomputable def dueG {β : Type} (o : Out) (x : Result × Nat × Nat × List Value × β) : Option (Result × Nat × Nat × List Value × β) × List Ob := (some x, outC o)
theorem run_encG {α β : Type} {g : KT → β} {y : β} {V : Vw} {w : World} {h₀ h : Heap} {A : Around} {gens : Array GenState} {d : Drawn} {os : OsState} {tb : Array Value} {T₀ : KT} {m₀ n : Nat} {sl orc : List Nat} {enc : α → Flow} {t : Sem α} {r : Result} {W Wt : Nat} {tb' : List Value}
    (O : Hyp V w h₀ A) (SO : ∀ j S, V.sp j = some S → SpecOk V w h₀ gens d os S) (D₀ : Rep V h₀ h T₀ m₀ tb)
    (h1 : resG g (runEnc V n sl orc enc t T₀ m₀ tb) = dueG (runEnc V n sl orc enc t T₀ m₀ tb) (r, W, Wt, tb', y))
    (R : Result → Shared → Prop) (hR : ∀ h' T, Rep V h₀ h' T W ⟨tb'⟩ → g T = y → R r ⟨h', gens, d, V.t₀ + Wt, os⟩) :
    wpAny (model V.prog w) A t (fun a s => R (.ok (enc a)) s) (fun e s => R (.error e) s) ⟨h, gens, d, V.t₀, os⟩ := by
  have z1 := congrArg Prod.fst h1
  have z2 := congrArg Prod.snd h1
  simp only [resG, dueG] at z1 z2
  unfold runEnc at z1 z2
  cases ho : loop V n sl orc none .base (encT enc t) T₀ m₀ 0 tb [] [] with
  | bad _ _ => rw [ho] at z1; cases z1
  | word _ => rw [ho] at z1; cases z1
  | agn => rw [ho] at z1; cases z1
  | ok r0 T m i tb0 la lc =>
    rw [ho] at z1 z2
    have h3 : la = lc := z2
    simp only [outG, Option.some.injEq, Prod.mk.injEq] at z1
    obtain ⟨e1, e2, e3, e4, e5⟩ := z1
    subst e1 e2 e3
    have e4' : tb0 = ⟨tb'⟩ := Array.ext' e4
    subst e4'
    obtain ⟨_, z⟩ := loop_snd (gens := gens) (d := d) (os := os) O SO n sl orc none .base (encT enc t) T₀ m₀ 0 tb [] [] la lc (by rw [ho]; rfl) h3
    rw [ho] at z
    have y := z R (fun h' D => hR h' T D e5) h D₀
    intro Γ p hΓ
    have x := y Γ p hΓ
    unfold encT at x
    rw [← PySem.W.R.bindR_eq, Sem.wp_bind] at x
    exact Sem.wp_mono _ Γ _ (fun a p' s' q => q) (fun _ _ _ q => q) p _ x
end Mine


set_option maxRecDepth 100000
set_option Elab.async false
set_option linter.unusedVariables false
set_option linter.unusedSectionVars false
namespace Mine
open PySem PySem.Calls PyProof.Rows PySem.W PySem.W.X
/-! A call's entry, run as far as its body. -/
noncomputable def isFunc : Code → Bool
  | .func .. => true
  | _ => false
noncomputable def outN {β : Type} (g : KT → β) (o : Out) : Option (Code × Nat × Nat × List Value × β) := match o with
  | .agn c T m i tb _ _ => some (c, m, i, tb.toList, g T)
  | _ => none
noncomputable def outNA (o : Out) : List Ob := match o with
  | .agn _ _ _ _ _ la _ => la
  | _ => []
noncomputable def outNC (o : Out) : List Ob := match o with
  | .agn _ _ _ _ _ _ lc => lc
  | _ => []
noncomputable def resN {β : Type} (g : KT → β) (o : Out) : Option (Code × Nat × Nat × List Value × β) × List Ob := (outN g o, outNA o)
noncomputable def dueN {β : Type} (o : Out) (x : Code × Nat × Nat × List Value × β) : Option (Code × Nat × Nat × List Value × β) × List Ob := (some x, outNC o)
theorem run_callN {β : Type} {V : Vw} {w : World} {h : Heap} {A : Around} {gens : Array GenState} {d : Drawn} {os : OsState} {tb : Array Value} {g : KT → β} {yv : β} {n : Nat} {sl orc : List Nat} {f : Addr} {args : List Value} {c' : Code} {W Wt : Nat} {tb' : List Value} {R : Result → Shared → Prop}
    (O : Hyp V w h A) (SO : ∀ j S, V.sp j = some S → SpecOk V w h gens d os S) (hL : V.L = 0) (ht : h.get? 16 = some (tableObj tb)) (hf : (f == 16) = false) (hD : Nat.blt V.D 1000 = true)
    (h1 : resN g (runCall V n sl orc f args tb) = dueN (runCall V n sl orc f args tb) (c', W, Wt, tb', yv))
    (hR : ∀ h' T, Rep V h h' T W ⟨tb'⟩ → g T = yv → codeAny (model V.prog w) A c' R ⟨h', gens, d, V.t₀ + Wt, os⟩) :
    codeAny (model V.prog w) A (.call (.ref f) ⟨args, []⟩) R ⟨h, gens, d, V.t₀, os⟩ := by
  have z1 := congrArg Prod.fst h1
  have z2 := congrArg Prod.snd h1
  simp only [resN, dueN] at z1 z2
  unfold runCall at z1 z2
  split at z1
  · cases z1
  · rename_i o hk
    rw [hk] at z2
    simp only [] at z2
    split at z1
    · rename_i fd hfd
      rw [hfd] at z2
      simp only [] at z2
      split at z1
      · rename_i hok
        rw [hok] at z2
        simp only [] at z2
        cases ho : loop V n sl orc (some (.call (.ref f) ⟨args, []⟩)) .base (V.ent f fd ⟨args, []⟩) .nil 0 0 tb [] [] with
        | bad _ _ => rw [ho] at z1; cases z1
        | word _ => rw [ho] at z1; cases z1
        | ok => rw [ho] at z1; cases z1
        | agn c0 T m i tb0 la lc =>
          rw [ho] at z1 z2
          have h3 : la = lc := z2
          simp only [outN, Option.some.injEq, Prod.mk.injEq] at z1
          obtain ⟨e1, e2, e3, e4, e5⟩ := z1
          subst e1 e2 e3
          have e4' : tb0 = ⟨tb'⟩ := Array.ext' e4
          subst e4'
          obtain ⟨_, z⟩ := loop_snd (gens := gens) (d := d) (os := os) O SO n sl orc (some (.call (.ref f) ⟨args, []⟩)) .base (V.ent f fd ⟨args, []⟩) .nil 0 0 tb [] [] la lc (by rw [ho]; rfl) h3
          rw [ho] at z
          have zm := z R (fun h' D => hR h' T D e5) h (rep_start O hL ht)
          intro Γ p hc hb
          have hof : h.get? f = some o := O.top f o hk (by simpa using hf)
          have y := zm Γ p ⟨hc, hb⟩
          rw [O.ent] at y
          rw [wpCode_iff_wp, hc]
          have hin := hb.in
          rw [hc] at hin
          refine wp_ent hof hfd hok hin ?_ (Sem.wp_mono _ _ _ (fun _ _ _ q => postF_fin q) (fun _ _ _ q => q) p _ y)
          show A.depth + 0 < recursionLimit
          have := blt_true hD
          have := O.depth
          have : recursionLimit = 1000 := rfl
          omega
      · cases z1
    · cases z1
noncomputable def mkVE (P P' : Params) (n t : Nat) (D U : Nat) : Vw := { mkV P P' n t noPa noSp D U with st := isFunc }
theorem mkVE_hyp {P P' : Params} {n t D U : Nat} {w : World} {h : Heap} {A : Around} (O : Hyp (mkV P P' n t noPa noSp D U) w h A) : Hyp (mkVE P P' n t D U) w h A :=
  ⟨O.den, O.ent, O.quiet, O.P, O.size, O.lwL, O.lwN, O.inj, O.topL, O.parL, O.top, O.par, O.tab, O.depth, O.units, O.handled⟩
/-! Two runs, one behind the other, over the same base. -/
theorem Rep.move {P P' P'' : Params} {n t t' D U D' U' : Nat} {pa pa' : Nat → Option (Addr × Obj)} {sp sp' : Nat → Option Spec} {h₀ h : Heap} {T : KT} {m : Nat} {tb : Array Value} (R : Rep (mkV P P' n t pa sp D U) h₀ h T m tb) : Rep (mkV P P'' n t' pa' sp' D' U') h₀ h T m tb :=
  ⟨R.size, R.own, R.keep, R.least, R.tab, R.more⟩
theorem Rep.of_entry {P P' P'' : Params} {n t t' D U D' U' : Nat} {pa' : Nat → Option (Addr × Obj)} {sp' : Nat → Option Spec} {h₀ h : Heap} {T : KT} {m : Nat} {tb : Array Value} (R : Rep (mkVE P P' n t D U) h₀ h T m tb) : Rep (mkV P P'' n t' pa' sp' D' U') h₀ h T m tb :=
  ⟨R.size, R.own, R.keep, R.least, R.tab, R.more⟩
theorem Rep.sub {V : Vw} {h₀ h : Heap} {T T₀ : KT} {m : Nat} {tb : Array Value} (R : Rep V h₀ h T m tb) (hT : ∀ i o, T₀.get i = some o → T.get i = some o) : Rep V h₀ h T₀ m tb :=
  ⟨R.size, fun i o e => R.own i o (hT i o e), R.keep, R.least, R.tab, R.more⟩
theorem run_own {α β : Type} {g : KT → β} {yv : β} {enc : α → Flow} {tr : Sem α} {fl : Flow} {V : Vw} {w : World} {h₀ h : Heap} {A : Around} {E : Value → Shared → Prop} {gens : Array GenState} {d : Drawn} {os : OsState} {tb : Array Value} {T₀ : KT} {m₀ F W Wt : Nat} {sl orc : List Nat} {tb' : List Value} {Q : α → Shared → Prop}
    (O : Hyp V w h₀ A) (SO : ∀ j S, V.sp j = some S → SpecOk V w h₀ gens d os S) (D₀ : Rep V h₀ h T₀ m₀ tb)
    (h1 : resG g (runEnc V F sl orc enc tr T₀ m₀ tb) = dueG (runEnc V F sl orc enc tr T₀ m₀ tb) (.ok fl, W, Wt, tb', yv))
    (hR : ∀ h' T a, enc a = fl → Rep V h₀ h' T W ⟨tb'⟩ → g T = yv → Q a ⟨h', gens, d, V.t₀ + Wt, os⟩) : wpAny (model V.prog w) A tr Q E ⟨h, gens, d, V.t₀, os⟩ := by
  have z := run_encG (α := α) (h := h) O SO D₀ h1 (fun r s => match r with | .ok fl' => ∀ a, enc a = fl' → Q a s | .error e => E e s) (fun h' T D eg a ea => hR h' T a ea D eg)
  exact wpAny_mono z (fun a s q => q a rfl) (fun _ _ q => q)
section
variable {M : Model} {A : Around} {E : Value → Shared → Prop} {s : Shared} {env : Env}
theorem wp_execs_app {Γ : Ctx} {l2 : List Stmt} {Q : Flow → Pos → Shared → Prop} {E : Value → Pos → Shared → Prop} : ∀ (l1 : List Stmt) (p : Pos) (s : Shared),
    Sem.wp M Γ (execs l1 env) (fun f p' s' => match f with | .next => Sem.wp M Γ (execs l2 env) Q E p' s' | f => Q f p' s') E p s → Sem.wp M Γ (execs (l1 ++ l2) env) Q E p s
  | [], p, s, h => by
    rw [execs_nil, Sem.wp_pure'] at h
    exact h
  | st :: l1, p, s, h => by
    rw [List.cons_append, execs_cons, Sem.wp_bind']
    rw [execs_cons, Sem.wp_bind'] at h
    refine Sem.wp_mono M Γ _ (fun f p' s' h' => ?_) (fun _ _ _ h' => h') _ _ h
    cases f with
    | next => exact wp_execs_app l1 p' s' h'
    | _ => exact h'
theorem wpAny_execs_app {l1 l2 : List Stmt} {Q : Flow → Shared → Prop}
    (h : wpAny M A (execs l1 env) (fun f s' => match f with | .next => wpAny M A (execs l2 env) Q E s' | f => Q f s') E s) : wpAny M A (execs (l1 ++ l2) env) Q E s := fun Γ p hΓ =>
  wp_execs_app l1 p s (Sem.wp_mono M Γ _ (fun f p' s' h' => by cases f <;> first | exact h' Γ p' hΓ | exact h') (fun _ _ _ h' => h') _ _ (h Γ p hΓ))
end
end Mine


set_option maxRecDepth 100000
set_option Elab.async false
set_option linter.unusedVariables false
set_option linter.unusedSectionVars false
namespace Mine
open PySem PySem.Calls PyProof.Rows PySem.W PySem.W.X
noncomputable def usTest (c : Code) (T : KT) (tb : Array Value) : Option Ob := match c with
  | .call f a => match f with
    | .ref b => some (.cs b (a.pos.map erase) a.kw.length [] [])
    | _ => none
  | _ => none
noncomputable def ellSpec (wd suf : List Nat) (b : Bool) : Spec :=
  mkSpec 395 1950 usTest (.cs 42 [.str (dots suf) 0, .str (strL wd) 0] 0 [] []) (fun _ _ => .bool b) (cond b 9 6) (cond b 36 22) (fun _ _ => []) (fun _ _ tb => tb)
/-- The other pegs. -/
noncomputable def oth (p j : Nat) : Nat := match p, j with
  | 0, 0 => 1
  | 0, _ => 2
  | 1, 0 => 0
  | 1, _ => 2
  | _, 0 => 0
  | _, _ => 1
noncomputable def mvSp (wd : List Nat) (p k : Nat) (j : Nat) : Option Spec := match j with
  | 0 => some (ellSpec wd (sufA 0) (Nat.beq p 0))
  | 1 => some (ellSpec wd (sufA 1) (Nat.beq p 1))
  | 2 => some (ellSpec wd (sufA 2) (Nat.beq p 2))
  | 3 => some (ellSpec wd (sufB (oth p 0) p 1) (Nat.beq k 1))
  | 4 => some (ellSpec wd (sufB (oth p 1) p 1) (Nat.beq k 2))
  | 5 => some (ellSpec wd (sufB (oth p 0) p 2) (Nat.beq k 3))
  | 6 => some (ellSpec wd (sufB (oth p 1) p 2) (Nat.beq k 4))
  | 7 => some (ellSpec wd (sufB (oth p 0) p 3) (Nat.beq k 5))
  | 8 => some (ellSpec wd (sufB (oth p 1) p 3) (Nat.beq k 6))
  | _ => none
noncomputable def mv3 (c0 c1 c2 c3 p t : Nat) (k : Nat) : List Value := match k with
  | 0 => []
  | 1 => [.str (strL [c0, c1, lett (oth p 1), c3]) (t + 169)]
  | 2 => [.str (strL [c0, c1, lett (oth p 0), c3]) (t + 196)]
  | 3 => [.str (strL [c0, lett (oth p 1), c2, c3]) (t + 229)]
  | 4 => [.str (strL [c0, lett (oth p 0), c2, c3]) (t + 257)]
  | 5 => [.str (strL [lett (oth p 1), c1, c2, c3]) (t + 289)]
  | _ => [.str (strL [lett (oth p 0), c1, c2, c3]) (t + 317)]
noncomputable def mvL (c0 c1 c2 c3 p t k : Nat) : List Value := .str (strL [c0, c1, c2, lett (oth p 0)]) (t + 105) :: .str (strL [c0, c1, c2, lett (oth p 1)]) (t + 109) :: mv3 c0 c1 c2 c3 p t k
noncomputable def mvW (k : Nat) : Nat := match k with
  | 0 => 93
  | _ => 98
noncomputable def mvWt (k : Nat) : Nat := match k with
  | 0 => 295
  | 1 => 319
  | 2 => 319
  | 3 => 319
  | 4 => 319
  | _ => 318
noncomputable def mvE (k : Nat) : Nat := match k with
  | 0 => 2
  | _ => 3
end Mine


set_option maxRecDepth 100000
set_option Elab.async false
set_option linter.unusedVariables false
set_option linter.unusedSectionVars false
namespace Mine
open PySem PySem.Calls PyProof.Rows PySem.W PySem.W.X
set_option maxHeartbeats 0
theorem lt7 {k : Nat} (h : k < 7) : k = 0 ∨ k = 1 ∨ k = 2 ∨ k = 3 ∨ k = 4 ∨ k = 5 ∨ k = 6 := by omega
/-! The moves, in two parts: what tells the pegs; the loop. -/
noncomputable def movFd (P : Params) : FuncData := match (KTop P).get 73 with
  | some o => match o.data with
    | .func fd => fd
    | _ => default
  | none => default
noncomputable def movBody (P : Params) : List Stmt := entBody (movFd P)
noncomputable def movA (P : Params) : List Stmt := (movBody P).take 3
noncomputable def movB (P : Params) : List Stmt := (movBody P).drop 3
theorem mov_split (P : Params) : movBody P = movA P ++ movB P := by kernel_rfl
noncomputable def movName : Str := strL [95, 108, 97, 119, 95, 109, 111, 118, 101, 115, 46, 60, 108, 111, 99, 97, 108, 115, 62, 46]
noncomputable def movEnv (P : Params) (a : Addr) : Env := { scope := (movFd P).scope, locals := a, globals := 3, cells := [(strL [116, 111, 112], Nat.add a 2), (strL [119, 111, 114, 100], Nat.add a 1)], qual := movName, func := some 73, code := .ref 72, frame := some a, builtins := 0 }
noncomputable def celM (v : Option Value) : Obj := ⟨.type "cell", none, .cell v, #[]⟩
/-- The frame: two names, with marks and tokens of their own. -/
noncomputable def frM (h1 h2 : Int) (k1 k2 : Tok) (v1 v2 : Value) : Obj := ⟨.type "frame", none, .dict ⟨[⟨h1, .str (strL [111, 116, 104, 101, 114, 115]) k1, v1⟩, ⟨h2, .str (strL [97, 102, 116, 101, 114]) k2, v2⟩]⟩ 2, #[]⟩
noncomputable def eraseEnM : List DictEntry → List DictEntry
  | [] => []
  | ⟨_, k, v⟩ :: r => ⟨0, erase k, v⟩ :: eraseEnM r
noncomputable def eraseFrM : Obj → Obj
  | ⟨c, d, x, s⟩ => match x with
    | .dict es n => ⟨c, d, .dict ⟨eraseEnM es.toList⟩ n, s⟩
    | x => ⟨c, d, x, s⟩
noncomputable def eraseCM : Obj → Obj
  | ⟨c, d, x, s⟩ => match x with
    | .cell v => ⟨c, d, .cell (v.map erase), s⟩
    | x => ⟨c, d, x, s⟩
noncomputable def lookM (T : KT) : Option Obj × Option Obj × Option Obj × Option Obj × Option Obj := ((T.get 0).map eraseFrM, (T.get 1).map eraseCM, (T.get 2).map eraseCM, (T.get 30).map eraseO, T.get 35)
noncomputable def lookM0 (T : KT) : Option Obj × Option Obj × Option Obj := (T.get 0, T.get 1, T.get 2)
noncomputable def frM0 : Obj := ⟨.type "frame", none, .dict ⟨[]⟩ 0, #[]⟩
theorem mov_entry (P : Params) (f y : Bool) (n t : Nat) (w : Str) (t1 : Tok) (tb : Array Value) :
    resN lookM0 (runCall (mkVE P (mkP P f y) n t 380 1850) 60 [] [288, 5, 5, 8] 73 [.str w t1] tb) = dueN (runCall (mkVE P (mkP P f y) n t 380 1850) 60 [] [288, 5, 5, 8] 73 [.str w t1] tb)
      (.func (movBody P) (movEnv P n), 3, 0, tb.toList, some frM0, some (celM (some (.str w t1))), some (celM none)) := by
  kernel_rfl
noncomputable def slMa (p : Nat) (y : Bool) : List Nat := match p, y with
  | 0, true => (dc 32 27222589353912761564612761888797065478144 (dc 5 0 []))
  | 0, false => (dc 32 111503725993626671368653872696512780198477824 (dc 8 0 []))
  | 1, true => (dc 32 27222589353675135105509310378216819523584 (dc 5 0 []))
  | 1, false => (dc 32 111503725992653353392166135309176092768600064 (dc 8 0 []))
  | _, true => (dc 32 6646139978982607803860818976764329984 (dc 5 0 []))
  | _, false => (dc 32 27222589353912761564613914528826695614464 (dc 8 0 []))
noncomputable def orcMa (p : Nat) (y : Bool) : List Nat := match p, y with
  | 0, true => (dc 32 125085822828759641157366927471323820393386852383361017799152432323194718329971515171038097227684107469003281190925 (dc 32 1125771605611270833735204422452199756652410423345158724021935192035429946426675125416128772203511896595132827357197 (dc 32 1202475010952781605616986962355796914337897333752479868588615160160872251980602101864626110467329032084594360799349 (dc 32 1433336758309742583072995760426345938776976197376797171431283245869252840908207092665335567681623068585282463305849 (dc 32 1164297109609386239501072035999195894403839118154571759042902956766722607970112668746722394100130961589250028032149 (dc 8 2805392811819855498265006217 []))))))
  | 0, false => (dc 32 202040433354675168244658091915388508006828182919733214216539469319687270389196074344149866986195776754543946158093 (dc 32 1125517901073866805863558686444291390595631823439629922774496143077938722041890733189859651017285890642148831428613 (dc 32 1125771605611830907558641702397773414005740976451770423898253936503053442588521139842373881695558780196479971053685 (dc 32 1318211196314051626944441043109356643474781322195023536839577093754801109516781584924643601204012638685132598235253 (dc 32 1472162784015708307750334929768676038724080472372433837912174035684474337487847875498543502399282701118758663524489 (dc 20 62562350278183966491036808567765625297471709183211306507954897017213081 []))))))
  | 1, true => (dc 32 125085736250866559427348988283382761142919166348270650474135675901404999893187463174396858594810675820456495337485 (dc 32 1125771605611270833735204422452199756652410423345158724021935192035429946426675125416128772203511896595132827357197 (dc 32 1202475010952781605616986962355796914337699448607082628202000531663081104880099866463047160303456849752316759724149 (dc 32 1433336758309742583072995760426345938776976197376797171431283245869252840908207092665335567681623068585282463305849 (dc 32 1164297109609386239501072035999195894403839118154571759042902956766722607970112668746722394100130961589250028032149 (dc 8 2805392811819855498265006217 []))))))
  | 1, false => (dc 32 163573654411999935284221829344691242509595140780917398299445256361111602645005491996469913502959819432335964688397 (dc 32 1125517901073866805863558686444291390595631823439629922774496143077938722041890733189859651017285890642148830810129 (dc 32 1125771605596152831099950313476813035849039945865232311766528460997964864441766920984830230726030535452750969786485 (dc 32 1318211196314051626944441043109356643474781322195023536839577093754801109516781584924643601204012638685132598235253 (dc 32 1472162784015708307750334929768676038724080472372433837912174035684474337487847875498543502399282701118758663524489 (dc 20 62562350278183966491036808567765625297471709183211306507954897017213081 []))))))
  | _, true => (dc 32 202042777309140837726654133153195331776234923669061214065837299600509284934888613725656030840803187440631538569229 (dc 32 1125771605611270833735204422452199756652410423345158724021935192035429946426675076414777830383606742844049247485973 (dc 32 1125771605611270834636552152994930178151916661427330138018449562041478395893459044495562291106058939580520312819829 (dc 32 1433336758309742583072995760426345938776976197376797171431283245869252840908207092665335567681623068577585949036669 (dc 32 1164297109609386239501072035999195894403839118154571759042902956766722607970112668746722394100130961589250028032149 (dc 8 2805392811819855498265006217 []))))))
  | _, false => (dc 32 125085733978505124365425998102865796700788573576277873921731924444464082367581536648017198177393123706797241192461 (dc 32 1125517901073866805863558686444291390595631823439629922774496143064146067926751293935475321939723513731670998044685 (dc 32 1164259526029647642018746144718638481657846513069871836144241792914612384719190876333282946051597231178289693282421 (dc 32 1318211196314051626944441043109356643474781322195023536839577093754801108907000901612695987392402365731644239220857 (dc 32 1472162784015708307750334929768676038724080472372433837912174035684474337487847875498543502399282701118758663524489 (dc 20 62562350278183966491036808567765625297471709183211306507954897017213081 []))))))
noncomputable def mT0 (w : Str) (t1 : Tok) : KT := KT.put 16 (KT.put 16 (KT.put 16 .nil 2 (celM none)) 1 (celM (some (.str w t1)))) 0 frM0
noncomputable def runMa (P P' : Params) (y : Bool) (n t c0 c1 c2 c3 p k : Nat) (t1 : Tok) (tb : Array Value) : Out :=
  runEnc (mkV P P' n t noPa (mvSp [c0, c1, c2, c3] p k) 385 1860) 700 (slMa p y) (orcMa p y) (fun f : Flow => f) (execsF (movA P) (movEnv P n)) (mT0 (strL [c0, c1, c2, c3]) t1) 3 tb
noncomputable def afterO (c0 c1 c2 p t : Nat) : Obj := lstO [.str (strL [c0, c1, c2, lett (oth p 0)]) (t + 105), .str (strL [c0, c1, c2, lett (oth p 1)]) (t + 109)] 2
noncomputable def maWant (n t c0 c1 c2 c3 p : Nat) (tb : Array Value) : Result × Nat × Nat × List Value × (Option Obj × Option Obj × Option Obj × Option Obj × Option Obj) :=
  (.ok .next, 41, 111, tb.toList, some (frM 0 0 0 0 (.ref (Nat.add n 30)) (.ref (Nat.add n 35))), some (celM (some (.str (strL [c0, c1, c2, c3]) 0))), some (celM (some (.str (strL [lett p]) 0))), some (lstO [.str (strL [lett (oth p 0)]) 0, .str (strL [lett (oth p 1)]) 0] 0), some (afterO c0 c1 c2 p t))
noncomputable abbrev MaRun (p : Nat) : Prop := ∀ (P : Params) (f y : Bool) (n t c0 c1 c2 c3 k : Nat) (t1 : Tok) (tb : Array Value),
    resG lookM (runMa P (mkP P f y) y n t c0 c1 c2 c3 p k t1 tb) = dueG (runMa P (mkP P f y) y n t c0 c1 c2 c3 p k t1 tb) (maWant n t c0 c1 c2 c3 p tb)
theorem ma0 : MaRun 0 := by intro P f y n t c0 c1 c2 c3 k t1 tb; cases f <;> cases y <;> kernel_rfl
theorem ma1 : MaRun 1 := by intro P f y n t c0 c1 c2 c3 k t1 tb; cases f <;> cases y <;> kernel_rfl
theorem ma2 : MaRun 2 := by intro P f y n t c0 c1 c2 c3 k t1 tb; cases f <;> cases y <;> kernel_rfl
theorem ma_run (p : Nat) (hp : p < 3) : MaRun p := by
  match p, hp with
  | 0, _ => exact ma0
  | 1, _ => exact ma1
  | 2, _ => exact ma2
noncomputable def slMb (k : Nat) : List Nat := match k with
  | 0 => (dc 32 18333323787010374776416011195864380510420222453854126010067474255671918433173703153204330496 (dc 32 334243113205869977312728115210531525414860916701435625969025024 (dc 14 5516815412193254355313652349857792 [])))
  | 1 => (dc 32 179977060957006910860699754342210211482486735303672797553754112 (dc 32 108468091667858715121622196017581003528022718079600871778393581402729941499204193154651115225088 (dc 23 1790308958365472173864606470642335769357990359902891997227491786752 [])))
  | 2 => (dc 32 18333323787010374776416011195864380510420222453854126010067474255671918433173703153204330496 (dc 32 108468091667858715121622196017581003528022718079600871778393581402729941499204193154650964230144 (dc 23 1790308958365472173864606470642335769357990359902891997227491786752 [])))
  | 3 => (dc 32 18333323787010374776416011195864380510420222453854126010067474255671918433173703153204330496 (dc 32 108468091667858715121622196016422568319668589025923773473873210216926185692492147545569769816064 (dc 23 1790308958365472173864606470642335769357990359902891997227491786752 [])))
  | 4 => (dc 32 18333323787010374776416011195864380510420222453854126010067474255671918433173703153204330496 (dc 32 334243113205869977312728115210531525414860916701435625969025024 (dc 23 1790308958365472173864606470642335769357990359902891997227491786752 [])))
  | 5 => (dc 32 18333323787010374776416011195864380510420222453854126010067474255671918433173703153204330496 (dc 32 334243113205869977312728115210531525414860916701435625969025024 (dc 23 1790308958365472173864606470622397349421216621809334891323286679552 [])))
  | _ => (dc 32 18333323787010374776416011195864380510420222453854126010067474255671918433173703153204330496 (dc 32 334243113205869977312728115210531525414860916701435625969025024 (dc 23 5516815412193254355313652349857792 [])))
noncomputable def orcMb (k : Nat) : List Nat := match k with
  | 0 => (dc 32 1664602459579058584547699756233135024702194856924123045146513364261093109135781041272458883228480451764954450624524 (dc 32 1703090377719614543381266196479455301339526689434757515119634607650890634338950330979724816055427161427950340591789 (dc 32 1626114541438502316697230258184791970018714873241656591174807475515219319056955063687648770955846013193618830594225 (dc 32 1163977629821673399645679255647656710110307921213959201376127425056629002145473818141872365493789271492516324741289 (dc 32 2318725489009950203854138590011173183442487005288335122324902740669149585267474002400685409231583001769163079782521 (dc 32 2934703758217415286888625564369413814698107530007536020664597313885435527183644251888939545278411540050822986404081 (dc 32 115437914187162438957918956690201908018268570907165042574533994600124579378976780554810066507738925510513917104433 (dc 24 132356213034434544614732386161534455816562090856888863548916775300901973922334904321 []))))))))
  | 1 => (dc 32 1664602459579058584547699756233135024702194856924123045146513364261093109135781041272458883228480451764954450624524 (dc 32 1356699114435011596858791473484282481692797164702748597765163589155462626213838907057031880356304225463245329846445 (dc 32 1703090377719614852398874260734436143342701263272907321504988471981263550153229079211598778636646241382627568275597 (dc 32 9622075885604001273812289507419749551723592813981111143944141078478320128229222726364436985385230616645897031857 (dc 32 1164259523751827101485877598425190501587830899000180298400727795724608907287867576952155709986512429279410290425868 (dc 32 2511336658671296476489650970829667768691349016789049326593721379735744727781715707417563172607104610653770828746761 (dc 32 3127143348920196762879288896836308960611789039397472194893921385323408666291824127945597988324622699854353343877437 (dc 32 1164259454930066811056008228155720774556224954368844019272796287138128190484327574533933735193369009148077878300997 (dc 20 472329974355039906922475250814383120610565184954872910755419023446137 [])))))))))
  | 2 => (dc 32 1664602459579058584547699756233135024702194856924123045146513364261093109135781041272458883228480451764954450624524 (dc 32 1703090377719614543381266196479455301339526689434757515119634607650890634338950330979724816055427161427950340591789 (dc 32 9622117178660401692369048582439769361024678316260979598838156970203133372017354527808753344613580197636491382961 (dc 32 9622075885604001273812289507419749551723592813981111143944130989004889637509944653092717470800500087274911273081 (dc 32 1164259523751827101485877598425190501587830899000180298400727795724608907287867576952155709986512429279410290425868 (dc 32 2511336658671296476489650970829667768691349016789049326593721379735744727781715707417563172607104610653770828746761 (dc 32 3127143348920196762879288896836308960611789039397472194893921385323408666291824127945597988324622699854353343877437 (dc 32 1164259454930066811056008228155720774556224954368844019272796287138128190484327574533933735193369009148077878300997 (dc 20 472329974355039906922475250814383120610565184954872910755419023446137 [])))))))))
  | 3 => (dc 32 1664602459579058584547699756233135024702194856924123045146513364261093109135781041272458883228480451764954450624524 (dc 32 1703090377719614543381266196479455301339526689434757515119634607650890634338950330979724816055427161427950340591789 (dc 32 1626114541438502316697230258184791970018714873241656591174807475515219319056955063687648770955846013193618830594225 (dc 32 1163977629821673399645679255647656710110307921213959201376127425056629002145473818141872365493789271492516324741289 (dc 32 2742264167514624376109407524283463357143038777790885407667239999974018435141823704637333181018945665308902721818745 (dc 32 2318897067968515137402455622720221846900094355144347920809569872792939507775870149089401324633005897060481845743757 (dc 32 3127143348920196762879288896836308960611789039397472194893921385323408666291824127945597988324622699854353343877437 (dc 32 1164259454930066811056008228155720774556224954368844019272796287138128190484327574533933735193369009148077878300997 (dc 20 472329974355039906922475250814383120610565184954872910755419023446137 [])))))))))
  | 4 => (dc 32 1664602459579058584547699756233135024702194856924123045146513364261093109135781041272458883228480451764954450624524 (dc 32 1703090377719614543381266196479455301339526689434757515119634607650890634338950330979724816055427161427950340591789 (dc 32 1626114541438502316697230258184791970018714873241656591174807475515219319056955063687648770955846013193618830594225 (dc 32 1163977629821673399645679255647656710110307921213959201376127425056629002145473818141872365493789271492516324741289 (dc 32 10014188439961187509663584143383312051096032409500356624807424014126825218809318138130745859419975940649720975481 (dc 32 2318897067968515137177452846559505541688779195197381129430319524558341379814515714449118170936399521524249029824653 (dc 32 3127143348920196762879288896836308960611789039397472194893921385323408666291824127945597988324622699854353343877437 (dc 32 1164259454930066811056008228155720774556224954368844019272796287138128190484327574533933735193369009148077878300997 (dc 20 472329974355039906922475250814383120610565184954872910755419023446137 [])))))))))
  | 5 => (dc 32 1664602459579058584547699756233135024702194856924123045146513364261093109135781041272458883228480451764954450624524 (dc 32 1703090377719614543381266196479455301339526689434757515119634607650890634338950330979724816055427161427950340591789 (dc 32 1626114541438502316697230258184791970018714873241656591174807475515219319056955063687648770955846013193618830594225 (dc 32 1163977629821673399645679255647656710110307921213959201376127425056629002145473818141872365493789271492516324741289 (dc 32 2318725489009950203854138590011173183442487005288335122324902740669149585267474002400685409231583001769163079782521 (dc 32 2934703758217415286888625564369413814698107530007536020664597313885435527183644251888939545278411540050822986404081 (dc 32 10430075472660509168726201156091346722264598577811347167010744591720815117980295405407424299621797426186931081521 (dc 32 1164259454930066811056008218206827117244937597746398654636018042707542947534997114792172491911335781285661852012545 (dc 20 472329974355039906922475250705466172143993155054052861139720392380537 [])))))))))
  | _ => (dc 32 1664602459579058584547699756233135024702194856924123045146513364261093109135781041272458883228480451764954450624524 (dc 32 1703090377719614543381266196479455301339526689434757515119634607650890634338950330979724816055427161427950340591789 (dc 32 1626114541438502316697230258184791970018714873241656591174807475515219319056955063687648770955846013193618830594225 (dc 32 1163977629821673399645679255647656710110307921213959201376127425056629002145473818141872365493789271492516324741289 (dc 32 2318725489009950203854138590011173183442487005288335122324902740669149585267474002400685409231583001769163079782521 (dc 32 2934703758217415286888625564369413814698107530007536020664597313885435527183644251888939545278411540050822986404081 (dc 32 115437914187162438957918956690201908018268570907165042574533994600124579378976780554810066507738925510513917104433 (dc 32 3588124497728922845949644201814268691246535157135990111707828687172330088441954168870985792143776661482883206090753 (dc 20 472329974355039906922475250705466172143993154926705802842438442111349 [])))))))))
noncomputable def mT1 (fr : Obj) (w tp : Str) (t1 t2 : Tok) (l1 l2 : Obj) : KT := KT.put 16 (KT.put 16 (KT.put 16 (KT.put 16 (KT.put 16 .nil 35 l2) 30 l1) 2 (celM (some (.str tp t2)))) 1 (celM (some (.str w t1)))) 0 fr
noncomputable def runMb (P P' : Params) (n t c0 c1 c2 c3 p k : Nat) (fr : Obj) (t1 t2 u0 u1 v0 v1 : Tok) (e : Nat) (tb : Array Value) : Out :=
  runEnc (mkV P P' n t noPa (mvSp [c0, c1, c2, c3] p k) 385 1860) 1200 (slMb k) (orcMb k) (fun f : Flow => f) (execsF (movB P) (movEnv P n))
    (mT1 fr (strL [c0, c1, c2, c3]) (strL [lett p]) t1 t2 (lstO [.str (strL [lett (oth p 0)]) u0, .str (strL [lett (oth p 1)]) u1] e) (lstO [.str (strL [c0, c1, c2, lett (oth p 0)]) v0, .str (strL [c0, c1, c2, lett (oth p 1)]) v1] 2)) 41 tb
noncomputable def mbTok (k : Nat) : Nat := match k with
  | 0 => 184
  | 1 => 208
  | 2 => 208
  | 3 => 208
  | 4 => 208
  | _ => 207
noncomputable def mb3 (c0 c1 c2 c3 p t : Nat) (k : Nat) : List Value := match k with
  | 0 => []
  | 1 => [.str (strL [c0, c1, lett (oth p 1), c3]) (t + 58)]
  | 2 => [.str (strL [c0, c1, lett (oth p 0), c3]) (t + 85)]
  | 3 => [.str (strL [c0, lett (oth p 1), c2, c3]) (t + 118)]
  | 4 => [.str (strL [c0, lett (oth p 0), c2, c3]) (t + 146)]
  | 5 => [.str (strL [lett (oth p 1), c1, c2, c3]) (t + 178)]
  | _ => [.str (strL [lett (oth p 0), c1, c2, c3]) (t + 206)]
noncomputable def mbWant (n t c0 c1 c2 c3 p k : Nat) (v0 v1 : Tok) (tb : Array Value) : Result × Nat × Nat × List Value × Option Obj :=
  (.ok (.ret (.ref (Nat.add n 35))), mvW k, mbTok k, tb.toList, some (lstO (.str (strL [c0, c1, c2, lett (oth p 0)]) v0 :: .str (strL [c0, c1, c2, lett (oth p 1)]) v1 :: mb3 c0 c1 c2 c3 p t k) (mvE k)))
noncomputable abbrev MbRun (k : Nat) : Prop := ∀ (P : Params) (f y : Bool) (n t c0 c1 c2 c3 p : Nat) (h1 h2 : Int) (k1 k2 t1 t2 u0 u1 v0 v1 : Tok) (e : Nat) (tb : Array Value),
  resG (fun T => T.get 35) (runMb P (mkP P f y) n t c0 c1 c2 c3 p k (frM h1 h2 k1 k2 (.ref (Nat.add n 30)) (.ref (Nat.add n 35))) t1 t2 u0 u1 v0 v1 e tb) = dueG (runMb P (mkP P f y) n t c0 c1 c2 c3 p k (frM h1 h2 k1 k2 (.ref (Nat.add n 30)) (.ref (Nat.add n 35))) t1 t2 u0 u1 v0 v1 e tb) (mbWant n t c0 c1 c2 c3 p k v0 v1 tb)
theorem mb0 : MbRun 0 := by intro P f y n t c0 c1 c2 c3 p h1 h2 k1 k2 t1 t2 u0 u1 v0 v1 e tb; cases f <;> kernel_rfl
theorem mb1 : MbRun 1 := by intro P f y n t c0 c1 c2 c3 p h1 h2 k1 k2 t1 t2 u0 u1 v0 v1 e tb; cases f <;> kernel_rfl
theorem mb2 : MbRun 2 := by intro P f y n t c0 c1 c2 c3 p h1 h2 k1 k2 t1 t2 u0 u1 v0 v1 e tb; cases f <;> kernel_rfl
theorem mb3r : MbRun 3 := by intro P f y n t c0 c1 c2 c3 p h1 h2 k1 k2 t1 t2 u0 u1 v0 v1 e tb; cases f <;> kernel_rfl
theorem mb4 : MbRun 4 := by intro P f y n t c0 c1 c2 c3 p h1 h2 k1 k2 t1 t2 u0 u1 v0 v1 e tb; cases f <;> kernel_rfl
theorem mb5 : MbRun 5 := by intro P f y n t c0 c1 c2 c3 p h1 h2 k1 k2 t1 t2 u0 u1 v0 v1 e tb; cases f <;> kernel_rfl
theorem mb6 : MbRun 6 := by intro P f y n t c0 c1 c2 c3 p h1 h2 k1 k2 t1 t2 u0 u1 v0 v1 e tb; cases f <;> kernel_rfl
theorem mb_run (k : Nat) (hk : k < 7) : MbRun k := by
  match k, hk with
  | 0, _ => exact mb0
  | 1, _ => exact mb1
  | 2, _ => exact mb2
  | 3, _ => exact mb3r
  | 4, _ => exact mb4
  | 5, _ => exact mb5
  | 6, _ => exact mb6
end Mine


set_option maxRecDepth 100000
set_option Elab.async false
set_option linter.unusedVariables false
set_option linter.unusedSectionVars false
namespace Mine
open PySem PySem.Calls PyProof.Rows PySem.W PySem.W.X
theorem usTest_is {f : Nat} {c : Code} {T : KT} {tb : Array Value} {args : List Value} (h : usTest c T tb = some (.cs f args 0 [] [])) :
    ∃ vs, c = .call (.ref f) ⟨vs, []⟩ ∧ vs.map erase = args := by
  unfold usTest at h
  split at h
  · rename_i f a
    split at h
    · rename_i b
      simp only [Option.some.injEq, Ob.cs.injEq, and_true] at h
      obtain ⟨h1, h2, h3⟩ := h
      subst h1
      obtain ⟨pos, kw⟩ := a
      have : kw = [] := List.length_eq_zero_iff.mp h3
      subst this
      exact ⟨pos, rfl, h2⟩
    · cases h
  · cases h
noncomputable def endsB (x y : List Nat) : Bool := decide (0 + (strL y).length ≤ (strL x).length) && Builtin.Str.subAt (strL x) (strL y) ((strL x).length - (strL y).length)
/-- The wants that the text brings. -/
inductive Suf : List Nat → Prop where
  | a (p : Nat) : p < 3 → Suf (sufA p)
  | b (o p m : Nat) : o < 3 → p < 3 → m < 3 → o ≠ p → Suf (sufB o p (m + 1))
section
variable {P : Params} {f y : Bool} {h₀ : Heap} {n t D U : Nat} {tb₀ : Array Value} {pa pa' : Nat → Option (Addr × Obj)} {sp : Nat → Option Spec} {w : World} {gens : Array GenState} {d : Drawn} {os : OsState}
theorem ends_ok {x s : List Nat} {b : Bool} (S : Stand P h₀ n tb₀ pa') (hz : endsB x s = b) : SpecOk (mkV P (mkP P f y) n t pa sp D U) w h₀ gens d os (cSpec "str.endswith" [.str (strL x) 0, .str (strL s) 0] (fun _ _ => .bool b) 0 0 fun _ _ => []) := by
  subst hz
  refine bi_ok (V := mkV P (mkP P f y) n t pa sp D U) (adr_plain fun _ => rfl) (adr_no16 (fun _ => rfl) S.low) fun vs h i A R hv hR => ?_
  obtain ⟨u, v, rfl, eu, ev⟩ := map_two hv
  obtain ⟨tu, rfl⟩ := erase_str eu
  obtain ⟨tv, rfl⟩ := erase_str ev
  exact code_slot F.slot_str_endswith (typeIs_str _ _ _) F.entry_str_endswith (F.args_str_endswith_2 _ _) (gives_str_endswith _ _ _ _) hR
theorem ell_sp {wd s : List Nat} {b : Bool} (S : Stand P h₀ n tb₀ pa') (hz : endsB wd s = b) : ∀ j Z, ellSp wd s b j = some Z → SpecOk (mkV P (mkP P f y) n t pa sp D U) w h₀ gens d os Z := by
  intro j Z e
  match j, e with
  | 0, e => cases e; exact ends_ok S hz
  | _ + 1, e => cases e
theorem ell_ok {c0 c1 c2 c3 : Nat} {s : List Nat} {b : Bool} (S : Stand P h₀ n tb₀ pa') (hP : mkP P f y = w.params) (hs : Suf s) (hz : endsB [c0, c1, c2, c3] s = b) :
    SpecOk (mkV P (mkP P f y) n t pa sp D U) w h₀ gens d os (ellSpec [c0, c1, c2, c3] s b) := by
  refine spec_ok (V := mkV P (mkP P f y) n t pa sp D U) S.low fun c T m i tb h A R ht Dp h1 h2 h3 hR => ?_
  obtain ⟨vs, rfl, hv⟩ := usTest_is ht
  obtain ⟨u, v, rfl, eu, ev⟩ := map_two hv
  obtain ⟨tu, rfl⟩ := erase_str eu
  obtain ⟨tv, rfl⟩ := erase_str ev
  have St := (S.goX Dp).bare
  have O := St.hyp (t := t + i) (sp := ellSp [c0, c1, c2, c3] s b) hP h1 h2 h3
  have z : res (runEll P (mkP P f y) (n + m) (t + i) c0 c1 c2 c3 s b tu tv tb) [] = due (runEll P (mkP P f y) (n + m) (t + i) c0 c1 c2 c3 s b tu tv tb) (ellW b tb) := by
    cases hs with
    | a p hp => exact ellA _ _ _ _ _ _ _ _ _ _ _ _ _ hp _
    | b o p m ho hp hm hop => exact ellB _ _ _ _ _ _ _ _ _ _ _ _ _ _ _ ho hp hm hop _
  obtain ⟨z1, z2⟩ := due_is z
  refine run_call O (ell_sp St hz) St.inv.tab rfl rfl z1 z2 R fun h' F => ?_
  exact hR h' F
end
end Mine


set_option maxRecDepth 100000
set_option Elab.async false
set_option linter.unusedVariables false
set_option linter.unusedSectionVars false
namespace Mine
open PySem PySem.Calls PyProof.Rows PySem.W PySem.W.X
/-- Which lesser disc lies next: its place and its peg's turn. -/
noncomputable def pat (a b c e : Nat) : Nat :=
  if c ≠ e then (if c = oth e 0 then 1 else 2) else if b ≠ e then (if b = oth e 0 then 3 else 4) else if a ≠ e then (if a = oth e 0 then 5 else 6) else 0
theorem pat_lt (a b c e : Nat) : pat a b c e < 7 := by unfold pat; split <;> (try split) <;> (try split) <;> (try split) <;> omega
noncomputable def patB (a b c e : Nat) : Bool :=
  let w := [lett a, lett b, lett c, lett e]
  let k := pat a b c e
  (endsB w (sufA 0) == Nat.beq e 0) && ((endsB w (sufA 1) == Nat.beq e 1) && ((endsB w (sufA 2) == Nat.beq e 2) && ((endsB w (sufB (oth e 0) e 1) == Nat.beq k 1) && ((endsB w (sufB (oth e 1) e 1) == Nat.beq k 2) &&
    ((endsB w (sufB (oth e 0) e 2) == Nat.beq k 3) && ((endsB w (sufB (oth e 1) e 2) == Nat.beq k 4) && ((endsB w (sufB (oth e 0) e 3) == Nat.beq k 5) && (endsB w (sufB (oth e 1) e 3) == Nat.beq k 6))))))))
theorem pat_all : ∀ a < 3, ∀ b < 3, ∀ c < 3, ∀ e < 3, patB a b c e = true := by decide +kernel
theorem oth_ne : ∀ e < 3, ∀ j < 2, oth e j < 3 ∧ oth e j ≠ e := by decide
theorem someM {o : Option Obj} {g : Obj → Obj} {x : Obj} (h : o.map g = some x) : ∃ y, o = some y ∧ g y = x := by
  cases o with
  | none => cases h
  | some y => exact ⟨y, rfl, Option.some.inj h⟩
theorem eraseFrM_is {o : Obj} {a b : Value} (h : eraseFrM o = frM 0 0 0 0 a b) : ∃ h1 h2 k1 k2, o = frM h1 h2 k1 k2 a b := by
  obtain ⟨c, d, x, s⟩ := o
  cases x with
  | dict es n =>
    unfold eraseFrM frM at h
    simp only [Obj.mk.injEq, Data.dict.injEq, Array.mk.injEq] at h
    obtain ⟨rfl, rfl, ⟨h1, rfl⟩, rfl⟩ := h
    obtain ⟨l⟩ := es
    match l, h1 with
    | [⟨a1, b1, c1⟩, ⟨a2, b2, c2⟩], h1 =>
      simp only [eraseEnM, List.cons.injEq, DictEntry.mk.injEq, true_and, and_true] at h1
      obtain ⟨⟨z1, z2⟩, z3, z4⟩ := h1
      obtain ⟨k1, rfl⟩ := erase_str z1
      obtain ⟨k2, rfl⟩ := erase_str z3
      subst z2 z4
      exact ⟨a1, a2, k1, k2, rfl⟩
    | [], h1 => cases h1
    | [⟨_, _, _⟩], h1 => simp [eraseEnM] at h1
    | ⟨_, _, _⟩ :: ⟨_, _, _⟩ :: ⟨_, _, _⟩ :: _, h1 => simp [eraseEnM] at h1
  | _ => simp [eraseFrM, frM] at h
theorem eraseCM_is {o : Obj} {x : Str} (h : eraseCM o = celM (some (.str x 0))) : ∃ t, o = celM (some (.str x t)) := by
  obtain ⟨c, d, z, s⟩ := o
  cases z with
  | cell u =>
    unfold eraseCM celM at h
    simp only [Obj.mk.injEq, Data.cell.injEq] at h
    obtain ⟨rfl, rfl, h1, rfl⟩ := h
    cases u with
    | none => cases h1
    | some v =>
      obtain ⟨t, rfl⟩ := erase_str (Option.some.inj h1)
      exact ⟨t, rfl⟩
  | _ => simp [eraseCM, celM] at h
theorem mT0_get {T : KT} {w : Str} {t1 : Tok} (e0 : T.get 0 = some frM0) (e1 : T.get 1 = some (celM (some (.str w t1)))) (e2 : T.get 2 = some (celM none)) (i : Nat) (o : Obj) (e : (mT0 w t1).get i = some o) : T.get i = some o := by
  unfold mT0 at e
  rw [put_get _ 16 _ 0 i (by decide), put_get _ 16 _ 1 i (by decide), put_get _ 16 _ 2 i (by decide)] at e
  by_cases h0 : i = 0
  · rw [if_pos h0] at e; rw [h0, e0, e]
  · rw [if_neg h0] at e
    by_cases h1 : i = 1
    · rw [if_pos h1] at e; rw [h1, e1, e]
    · rw [if_neg h1] at e
      by_cases h2 : i = 2
      · rw [if_pos h2] at e; rw [h2, e2, e]
      · rw [if_neg h2] at e; cases e
theorem mT1_get {T : KT} {fr l1 l2 : Obj} {w tp : Str} {t1 t2 : Tok} (e0 : T.get 0 = some fr) (e1 : T.get 1 = some (celM (some (.str w t1)))) (e2 : T.get 2 = some (celM (some (.str tp t2)))) (e3 : T.get 30 = some l1) (e5 : T.get 35 = some l2) (i : Nat) (o : Obj) (e : (mT1 fr w tp t1 t2 l1 l2).get i = some o) : T.get i = some o := by
  unfold mT1 at e
  rw [put_get _ 16 _ 0 i (by decide), put_get _ 16 _ 1 i (by decide), put_get _ 16 _ 2 i (by decide), put_get _ 16 _ 30 i (by decide), put_get _ 16 _ 35 i (by decide)] at e
  by_cases h0 : i = 0
  · rw [if_pos h0] at e; rw [h0, e0, e]
  · rw [if_neg h0] at e
    by_cases h1 : i = 1
    · rw [if_pos h1] at e; rw [h1, e1, e]
    · rw [if_neg h1] at e
      by_cases h2 : i = 2
      · rw [if_pos h2] at e; rw [h2, e2, e]
      · rw [if_neg h2] at e
        by_cases h3 : i = 30
        · rw [if_pos h3] at e; rw [h3, e3, e]
        · rw [if_neg h3] at e
          by_cases h5 : i = 35
          · rw [if_pos h5] at e; rw [h5, e5, e]
          · rw [if_neg h5] at e; cases e
theorem mv_toks {t : Nat} (k : Nat) (hk : k < 7) : t + 111 + mbTok k = t + mvWt k := by
  rcases lt7 hk with rfl | rfl | rfl | rfl | rfl | rfl | rfl <;> rfl
theorem mv_lists (c0 c1 c2 c3 p t k : Nat) (hk : k < 7) : .str (strL [c0, c1, c2, lett (oth p 0)]) (t + 105) :: .str (strL [c0, c1, c2, lett (oth p 1)]) (t + 109) :: mb3 c0 c1 c2 c3 p (t + 111) k = mvL c0 c1 c2 c3 p t k := by
  rcases lt7 hk with rfl | rfl | rfl | rfl | rfl | rfl | rfl <;> rfl
section
variable {P : Params} {f y : Bool} {h : Heap} {n t D U : Nat} {tb : Array Value} {pa pa' : Nat → Option (Addr × Obj)} {sp : Nat → Option Spec} {w : World} {gens : Array GenState} {d : Drawn} {os : OsState}
theorem mv_sp {a b c e : Nat} (S : Stand P h n tb pa') (hP : mkP P f y = w.params) (ha : a < 3) (hb : b < 3) (hc : c < 3) (he : e < 3) :
    ∀ j Z, mvSp [lett a, lett b, lett c, lett e] e (pat a b c e) j = some Z → SpecOk (mkV P (mkP P f y) n t pa sp D U) w h gens d os Z := by
  have hb := pat_all a ha b hb c hc e he
  simp only [patB, Bool.and_eq_true, beq_iff_eq] at hb
  obtain ⟨h0, h1, h2, h3, h4, h5, h6, h7, h8⟩ := hb
  have o0 := oth_ne e he 0 (by decide)
  have o1 := oth_ne e he 1 (by decide)
  intro j Z q
  match j, q with
  | 0, q => cases q; exact ell_ok S hP (.a 0 (by decide)) h0
  | 1, q => cases q; exact ell_ok S hP (.a 1 (by decide)) h1
  | 2, q => cases q; exact ell_ok S hP (.a 2 (by decide)) h2
  | 3, q => cases q; exact ell_ok S hP (.b _ _ 0 o0.1 he (by decide) o0.2) h3
  | 4, q => cases q; exact ell_ok S hP (.b _ _ 0 o1.1 he (by decide) o1.2) h4
  | 5, q => cases q; exact ell_ok S hP (.b _ _ 1 o0.1 he (by decide) o0.2) h5
  | 6, q => cases q; exact ell_ok S hP (.b _ _ 1 o1.1 he (by decide) o1.2) h6
  | 7, q => cases q; exact ell_ok S hP (.b _ _ 2 o0.1 he (by decide) o0.2) h7
  | 8, q => cases q; exact ell_ok S hP (.b _ _ 2 o1.1 he (by decide) o1.2) h8
  | _ + 9, q => cases q
theorem mov_go {p : Nat → Nat} {A : Around} {R : Result → Shared → Prop} (S : Stand P h n tb pa') (hP : mkP P f y = w.params) (hp : ∀ k, p k < 3)
    (hd : A.depth ≤ 380) (hu : A.units ≤ 1850) (hh : A.handled = none) (t1 : Tok)
    (hR : ∀ h', After h h' n (mvW (pat (p 0) (p 1) (p 2) (p 3))) tb tb [(35, lstO (mvL (lett (p 0)) (lett (p 1)) (lett (p 2)) (lett (p 3)) (p 3) t (pat (p 0) (p 1) (p 2) (p 3))) (mvE (pat (p 0) (p 1) (p 2) (p 3))))] →
      R (.ok (.ret (.ref (n + 35)))) ⟨h', gens, d, t + mvWt (pat (p 0) (p 1) (p 2) (p 3)), os⟩) :
    codeAny (model PySem.Challenge.pw_sl0015_01 w) A (.call (.ref 73) ⟨[.str (wordS p) t1], []⟩) R ⟨h, gens, d, t, os⟩ := by
  have Sb := S.bare
  have O := mkVE_hyp (Sb.hyp (t := t) (sp := noSp) (D := 380) (U := 1850) hP hd hu hh)
  refine run_callN O (fun j S e => nomatch e) rfl S.inv.tab rfl rfl (mov_entry P f y n t (wordS p) t1 tb) fun h1 T D el => ?_
  have e0 : T.get 0 = some frM0 := congrArg Prod.fst el
  have e1 : T.get 1 = some (celM (some (.str (wordS p) t1))) := congrArg (fun x => x.2.1) el
  have e2 : T.get 2 = some (celM none) := congrArg (fun x => x.2.2) el
  have hd' : (A.deeper (movEnv P n)).depth ≤ 385 := Nat.le_trans (Nat.add_le_add_right hd 1) (by decide)
  have hu' : (A.deeper (movEnv P n)).units ≤ 1860 := Nat.le_trans (Nat.add_le_add_right hu 3) (by decide)
  have hpt := pat_lt (p 0) (p 1) (p 2) (p 3)
  refine codeAny_func ?_
  rw [mov_split]
  refine wpAny_execs_app ?_
  rw [execsF_eq]
  have OA := Sb.hyp (t := t) (sp := mvSp [lett (p 0), lett (p 1), lett (p 2), lett (p 3)] (p 3) (pat (p 0) (p 1) (p 2) (p 3))) (A := A.deeper (movEnv P n)) hP hd' hu' hh
  have DA : Rep (mkV P (mkP P f y) n t noPa (mvSp [lett (p 0), lett (p 1), lett (p 2), lett (p 3)] (p 3) (pat (p 0) (p 1) (p 2) (p 3))) 385 1860) h h1 (mT0 (wordS p) t1) 3 tb := D.of_entry.sub (mT0_get e0 e1 e2)
  refine run_own (V := mkV P (mkP P f y) n t noPa (mvSp [lett (p 0), lett (p 1), lett (p 2), lett (p 3)] (p 3) (pat (p 0) (p 1) (p 2) (p 3))) 385 1860) OA (mv_sp S hP (hp 0) (hp 1) (hp 2) (hp 3)) DA (ma_run (p 3) (hp 3) P f y n t (lett (p 0)) (lett (p 1)) (lett (p 2)) (lett (p 3)) (pat (p 0) (p 1) (p 2) (p 3)) t1 tb) fun h2 T2 a ea D2 el2 => ?_
  have ea' : a = .next := ea
  subst ea'
  obtain ⟨o0, i0, j0⟩ := someM (congrArg Prod.fst el2)
  obtain ⟨o1, i1, j1⟩ := someM (congrArg (fun x => x.2.1) el2)
  obtain ⟨o2, i2, j2⟩ := someM (congrArg (fun x => x.2.2.1) el2)
  obtain ⟨o3, i3, j3⟩ := someM (congrArg (fun x => x.2.2.2.1) el2)
  have i5 : T2.get 35 = some (afterO (lett (p 0)) (lett (p 1)) (lett (p 2)) (p 3) t) := congrArg (fun x => x.2.2.2.2) el2
  obtain ⟨q1, q2, k1, k2, rfl⟩ := eraseFrM_is j0
  obtain ⟨ta, rfl⟩ := eraseCM_is j1
  obtain ⟨tc, rfl⟩ := eraseCM_is j2
  obtain ⟨vs, e, rfl, hv⟩ := eraseO_lst j3
  obtain ⟨x1, x2, rfl, z1, z2⟩ := map_two hv
  obtain ⟨u0, rfl⟩ := erase_str z1
  obtain ⟨u1, rfl⟩ := erase_str z2
  show wpAny _ (A.deeper (movEnv P n)) (execsF (movB P) (movEnv P n)) _ _ ⟨h2, gens, d, t + 111, os⟩
  have OB := Sb.hyp (t := t + 111) (sp := mvSp [lett (p 0), lett (p 1), lett (p 2), lett (p 3)] (p 3) (pat (p 0) (p 1) (p 2) (p 3))) (A := A.deeper (movEnv P n)) hP hd' hu' hh
  have DB : Rep (mkV P (mkP P f y) n (t + 111) noPa (mvSp [lett (p 0), lett (p 1), lett (p 2), lett (p 3)] (p 3) (pat (p 0) (p 1) (p 2) (p 3))) 385 1860) h h2 (mT1 _ _ _ ta tc _ _) 41 tb := D2.move.sub (mT1_get i0 i1 i2 i3 i5)
  refine run_own (V := mkV P (mkP P f y) n (t + 111) noPa (mvSp [lett (p 0), lett (p 1), lett (p 2), lett (p 3)] (p 3) (pat (p 0) (p 1) (p 2) (p 3))) 385 1860) OB (mv_sp S hP (hp 0) (hp 1) (hp 2) (hp 3)) DB (mb_run _ hpt P f y n (t + 111) (lett (p 0)) (lett (p 1)) (lett (p 2)) (lett (p 3)) (p 3) q1 q2 k1 k2 ta tc u0 u1 _ _ e tb) fun h3 T3 a ea D3 el3 => ?_
  have ea' : a = .ret (.ref (Nat.add n 35)) := ea
  subst ea'
  have z := hR h3 (after_of_rep (js := [35]) (fun _ => rfl) (Sb.hyp (t := t + 111) (sp := mvSp [lett (p 0), lett (p 1), lett (p 2), lett (p 3)] (p 3) (pat (p 0) (p 1) (p 2) (p 3))) (D := 385) (U := 1860) (A := A.deeper (movEnv P n)) hP hd' hu' hh) S.inv.tab D3 fun j o hm => ?_)
  · rw [← mv_toks _ hpt] at z
    exact z
  · have hm' := List.mem_singleton.mp (show (j, o) ∈ [(35, lstO (mvL (lett (p 0)) (lett (p 1)) (lett (p 2)) (lett (p 3)) (p 3) t (pat (p 0) (p 1) (p 2) (p 3))) (mvE (pat (p 0) (p 1) (p 2) (p 3))))] from hm)
    obtain ⟨rfl, rfl⟩ := Prod.mk.inj hm'
    have e' := mv_lists (lett (p 0)) (lett (p 1)) (lett (p 2)) (lett (p 3)) (p 3) t _ hpt
    rw [← e']
    exact el3
end
end Mine


set_option maxRecDepth 100000
set_option Elab.async false
set_option linter.unusedVariables false
set_option linter.unusedSectionVars false
namespace Mine
open PySem PySem.Calls PyProof.Rows PySem.W PySem.W.X

theorem run_tree2 {V : Vw} {w : World} {h₀ h : Heap} {A : Around} {gens : Array GenState} {d : Drawn} {os : OsState} {tb₀ tb : Array Value} {T₀ : KT} {m₀ n : Nat} {sl orc : List Nat} {c : Option Code} {t : Sem PySem.Fin} {r : Result} {W Wt : Nat} {tb' : List Value} {js : List Nat} {objs : List Obj}
    (O : Hyp V w h₀ A) (SO : ∀ j S, V.sp j = some S → SpecOk V w h₀ gens d os S) (ht : h₀.get? 16 = some (tableObj tb₀)) (D₀ : Rep V h₀ h T₀ m₀ tb)
    (h1 : outR (loop V n sl orc c .base t T₀ m₀ 0 tb [] []) js = some (r, W, Wt, tb', objs.map some))
    (h2 : outA (loop V n sl orc c .base t T₀ m₀ 0 tb [] []) = outC (loop V n sl orc c .base t T₀ m₀ 0 tb [] []))
    (R : Result → Shared → Prop) (hR : ∀ h', After h₀ h' V.n₁ W tb₀ ⟨tb'⟩ (js.zip objs) → R r ⟨h', gens, d, V.t₀ + Wt, os⟩) (hl : ∀ i, V.lw i = none := by intro i; rfl) :
    Means (model V.prog w) A R c .base t ⟨h, gens, d, V.t₀, os⟩ := by
  cases ho : loop V n sl orc c .base t T₀ m₀ 0 tb [] [] with
  | bad _ _ => rw [ho] at h1; cases h1
  | word _ => rw [ho] at h1; cases h1
  | agn => rw [ho] at h1; cases h1
  | ok r0 T m i tb0 la lc =>
    rw [ho] at h1 h2
    have h3 : la = lc := h2
    simp only [outR, Option.some.injEq, Prod.mk.injEq] at h1
    obtain ⟨e1, e2, e3, e4, e5⟩ := h1
    subst e1 e2 e3
    have e4' : tb0 = ⟨tb'⟩ := Array.ext' e4
    subst e4'
    obtain ⟨_, z⟩ := loop_snd (gens := gens) (d := d) (os := os) O SO n sl orc c .base t T₀ m₀ 0 tb [] [] la lc (by rw [ho]; rfl) h3
    rw [ho] at z
    refine z R (fun h' D => hR h' (after_of_rep hl (js := js) O ht D fun j o hm => ?_)) h D₀
    have : (j, some o) ∈ js.zip (objs.map some) := by
      rw [List.zip_map_right]
      exact List.mem_map.mpr ⟨(j, o), hm, rfl⟩
    exact zip_mem e5 this

/-! A list of a range with one member. -/
noncomputable def rhs {α : Sort _} {a b : α} (_ : a = b) : α := b
theorem sameF (S r : Addr) (h : S ≠ r) : Builtin.List.listSameRef (.ref S) (.ref r) = false := by simp [Builtin.List.listSameRef, h]
noncomputable def tInit (S r : Addr) (h : S ≠ r) : Sem PySem.Fin :=
  rhs (show Builtin.«list.__init__» ⟨[.ref S, .ref r], []⟩ = _ by
    unfold Builtin.«list.__init__» Builtin.List.listExtendWith
    simp only [sameF S r h]
    exact rfl)
theorem tInit_eq (S r : Addr) (h : S ≠ r) : Builtin.«list.__init__» ⟨[.ref S, .ref r], []⟩ = tInit S r h := by
  unfold tInit rhs Builtin.«list.__init__» Builtin.List.listExtendWith
  simp only [sameF S r h]
theorem den_builtin {id : String} {args : Args} {b : Builtin} (hb : entryFor table id = some b) : denote table (.builtin id args) = b args := by
  show (match entryFor table id with | some b => b args | none => unsupported ((withoutEnding? id "#data").getD id)) = _
  rw [hb]
theorem den_init (S r : Addr) (h : S ≠ r) : denote table (.builtin "list.__init__" ⟨[.ref S, .ref r], []⟩) = tInit S r h :=
  (den_builtin F.entry_list_init).trans (tInit_eq S r h)
noncomputable def rangeO (a b c : Value) : Obj := ⟨.type "range", none, .fields ⟨[a, b, c]⟩, #[]⟩
noncomputable def lst0 : Obj := lstO [] 0
noncomputable def orcInit : List Nat := (dc 32 48109897675695334813527519500018110790587143169469069315971485482800905128698233613007910267648581476652224090113 (dc 11 17281586934209748735871569280416894981 []))
noncomputable def rg (k : Nat → Tok) : Obj := rangeO (.int 2 (k 0)) (.int 4 (k 1)) (.int 2 (k 2))
noncomputable def runInit (P P' : Params) (n t : Nat) (r : Addr) (h : n ≠ r) (k : Nat → Tok) (tb : Array Value) : Out :=
  loop (mkV P P' n t (paD1 r (rg k)) noSp 100000 100000) 100 [] orcInit (some (.builtin "list.__init__" ⟨[.ref n, .ref r], []⟩)) .base (tInit n r h) (KT.put 16 .nil 0 lst0) 1 0 tb [] []
theorem init_run (P : Params) (f y : Bool) (n t : Nat) (r : Addr) (h : n ≠ r) (k : Nat → Tok) (tb : Array Value) :
    res (runInit P (mkP P f y) n t r h k tb) [0] = due (runInit P (mkP P f y) n t r h k tb) (.ok (.ret .none), 4, 3, tb.toList, [lstO [.int 2 (t + 2)] 3].map some) := by
  cases f <;> kernel_rfl
noncomputable def initSpec (r : Addr) (n t : Nat) : Spec where
  D := 100000
  U := 100000
  run := fun c T m i tb => match c with
    | .call f a => match f with
      | .builtin id => match Nat.beq m 1 with
        | true => some (.none, KT.put 16 T 0 (lstO [.int 2 (Nat.add (Nat.add t i) 2)] 3), 4, Nat.add i 3, tb, .bi id a.pos a.kw.length [T.get 0], .bi "list.__init__" [.ref n, .ref r] 0 [some lst0])
        | false => none
      | _ => none
    | _ => none
noncomputable def listSp (r : Addr) (n t : Nat) : Nat → Option Spec
  | 0 => some (initSpec r n t)
  | _ => none
end Mine


set_option maxRecDepth 100000
set_option Elab.async false
set_option linter.unusedVariables false
set_option linter.unusedSectionVars false
namespace Mine
open PySem PySem.Calls PyProof.Rows PySem.W PySem.W.X
section
variable {P : Params} {f y : Bool} {h₀ : Heap} {n t D U : Nat} {tb₀ : Array Value} {pa pa' : Nat → Option (Addr × Obj)} {sp : Nat → Option Spec} {w : World} {gens : Array GenState} {d : Drawn} {os : OsState}
theorem init_ok {r : Addr} {k : Nat → Tok} (S : Stand P h₀ n tb₀ (paD1 r (rg k))) (hP : mkP P f y = w.params) : SpecOk (mkV P (mkP P f y) n t pa sp D U) w h₀ gens d os (initSpec r n t) := by
  intro c T m i tb r' T' m' i' tb'' x yy hrun hxy h A R Dp h1 h2 h3 hR
  unfold initSpec at hrun
  simp only [] at hrun
  split at hrun
  · rename_i g a
    split at hrun
    · rename_i id
      split at hrun
      · rename_i hm
        have hm' : m = 1 := Nat.eq_of_beq_eq_true hm
        subst hm'
        simp only [Option.some.injEq, Prod.mk.injEq] at hrun
        obtain ⟨rfl, rfl, rfl, rfl, rfl, rfl, rfl⟩ := hrun
        simp only [Ob.bi.injEq, List.cons.injEq, and_true] at hxy
        obtain ⟨rfl, e2, e3, e4⟩ := hxy
        obtain ⟨pos, kw⟩ := a
        have : kw = [] := List.length_eq_zero_iff.mp e3
        subst this
        have e2 : pos = [.ref n, .ref r] := e2
        subst e2
        have hr := (S.par 0 r (rg k) rfl).2
        have hrn : r < n := S.size ▸ Heap.lt_size hr
        have hne : n ≠ r := Nat.ne_of_gt hrn
        have hown := (Dp.own 0 lst0 e4).2
        have hown : h.get? n = some lst0 := hown
        have O := S.hyp (t := t + i) (sp := noSp) (D := 100000) (U := 100000) hP h1 h2 h3
        have D0 : Rep (mkV P (mkP P f y) n (t + i) (paD1 r (rg k)) noSp 100000 100000) h₀ h (KT.put 16 .nil 0 lst0) 1 tb := by
          refine ⟨Dp.size, fun j o e => ?_, Dp.keep, Dp.least, Dp.tab, Dp.more⟩
          rw [put_get lst0 16 _ 0 j (by decide)] at e
          by_cases hj : j = 0
          · subst hj
            rw [if_pos rfl] at e
            cases e
            exact ⟨by decide, hown⟩
          · rw [if_neg hj] at e
            cases e
        obtain ⟨z1, z2⟩ := due_is (init_run P f y n (t + i) r hne k tb)
        have z := run_tree2 (gens := gens) (d := d) (os := os) O (fun j S e => by cases e) S.inv.tab D0 z1 z2 R (fun h' F => by
          have D1 : Rep (mkV P (mkP P f y) n t pa sp D U) h₀ h' (KT.put 16 T 0 (lstO [.int 2 (Nat.add (Nat.add t i) 2)] 3)) 4 tb := by
            refine ⟨F.size, fun j o e => ?_, fun b o e q _ => F.keep b o e q, Nat.zero_le _, F.tab, Dp.more⟩
            rw [put_get _ 16 _ 0 j (by decide)] at e
            by_cases hj : j = 0
            · subst hj
              rw [if_pos rfl] at e
              cases e
              exact ⟨by decide, (F.new 0 _ (by simp)).2⟩
            · rw [if_neg hj] at e
              have := (Dp.own j o e).1
              omega
          have zz := hR h' D1
          have e : t + Nat.add i 3 = t + i + 3 := (Nat.add_assoc _ _ _).symm
          have zz : R (.ok (.ret .none)) ⟨h', gens, d, t + Nat.add i 3, os⟩ := zz
          rw [e] at zz
          exact zz)
        rw [← den_init] at z
        refine codeAny_call_builtin_code (plainId_quiet F.slot_list_init.plain _) (F.slot_list_init.check _ _ _ _ _ _ _ _ ⟨_, hown, rfl⟩ (F.args_list_init_2 _ _) ?_)
        intro Γ p hc hb
        exact Means.code (M := model PySem.Challenge.pw_sl0015_01 w) (c' := .builtin "list.__init__" ⟨[.ref n, .ref r], []⟩) z hc hb
      · cases hrun
    · cases hrun
  · cases hrun
/-- list(range(2, 4, 2)). -/
noncomputable def runList (P P' : Params) (n t : Nat) (r : Addr) (k : Nat → Tok) (tb : Array Value) : Out :=
  runCode (mkV P P' n t (paD1 r (rg k)) (listSp r n t) 9000 9000) 60 [0, 1] [1, 1] (.call (.type "list") ⟨[.ref r], []⟩) tb
theorem list_run (P : Params) (f y : Bool) (n t : Nat) (r : Addr) (k : Nat → Tok) (tb : Array Value) :
    res (runList P (mkP P f y) n t r k tb) [0] = due (runList P (mkP P f y) n t r k tb) (.ok (.ret (.ref n)), 4, 3, tb.toList, [lstO [.int 2 (t + 2)] 3].map some) := by
  cases f <;> kernel_rfl
theorem list_go {r : Addr} {k : Nat → Tok} {A : Around} {R : Result → Shared → Prop} (S : Stand P h₀ n tb₀ (paD1 r (rg k))) (hP : mkP P f y = w.params) (h1 : A.depth ≤ 9000) (h2 : A.units ≤ 9000) (h3 : A.handled = none)
    (hR : ∀ h', After h₀ h' n 4 tb₀ tb₀ [(0, lstO [.int 2 (t + 2)] 3)] → R (.ok (.ret (.ref n))) ⟨h', gens, d, t + 3, os⟩) :
    codeAny (model PySem.Challenge.pw_sl0015_01 w) A (.call (.type "list") ⟨[.ref r], []⟩) R ⟨h₀, gens, d, t, os⟩ := by
  have O := S.hyp (t := t) (sp := listSp r n t) hP h1 h2 h3
  refine run_code (V := mkV P (mkP P f y) n t (paD1 r (rg k)) (listSp r n t) 9000 9000) O (fun j Z e => ?_) S.inv.tab (list_run P f y n t r k tb₀) R fun h' F => hR h' F
  match j, e with
  | 0, e => cases e; exact init_ok S hP
  | _ + 1, e => cases e
end
end Mine


set_option maxRecDepth 100000
set_option Elab.async false
set_option linter.unusedVariables false
set_option linter.unusedSectionVars false
namespace Mine
open PySem PySem.Calls PyProof.Rows PySem.W PySem.W.X
noncomputable def eraseF : Obj → Obj
  | ⟨c, d, x, s⟩ => match x with
    | .fields vs => ⟨c, d, .fields ⟨vs.toList.map erase⟩, s⟩
    | x => ⟨c, d, x, s⟩
noncomputable def tyTest (c : Code) (T : KT) (tb : Array Value) : Option Ob := match c with
  | .call f a => match f with
    | .type g => some (.bi g (a.pos.map erase) a.kw.length [(T.get 15).map eraseF])
    | _ => none
  | _ => none
noncomputable def listSpec (n t : Nat) : Spec :=
  mkSpec 9000 9000 tyTest (.bi "list" [.ref (Nat.add n 15)] 0 [some (rg fun _ => 0)]) (fun m _ => .ref (Nat.add n m)) 4 3 (fun _ i => [(0, lstO [.int 2 (Nat.add (Nat.add t i) 2)] 3)]) (fun _ _ tb => tb)
noncomputable def eqS (a b : List Nat) (z : Bool) : Spec := cSpec "str.__eq__" [.str (strL a) 0, .str (strL b) 0] (fun _ _ => .bool z) 0 0 fun _ _ => []
noncomputable def lowS (t : Nat) (a : Nat) : Spec := cSpec "str.lower" [.str (strL [a]) 0] (fun _ i => .str (strL [a]) (Nat.add t i)) 0 1 fun _ _ => []
noncomputable def at4 (c0 c1 c2 c3 : Nat) (j : Nat) : Nat := match j with
  | 0 => c0
  | 1 => c1
  | 2 => c2
  | _ => c3
noncomputable def ot4 (c0 c1 c2 c3 x : Nat) (d : Nat) : List Nat := match d with
  | 0 => [x, c1, c2, c3]
  | 1 => [c0, x, c2, c3]
  | 2 => [c0, c1, x, c3]
  | _ => [c0, c1, c2, x]
noncomputable def plS (c0 c1 c2 c3 x d j : Nat) : Spec := match Nat.beq j d with
  | true => eqS [at4 c0 c1 c2 c3 j] [x] false
  | false => eqS [at4 c0 c1 c2 c3 j] [at4 c0 c1 c2 c3 j] true
noncomputable def lvSp (c0 c1 c2 c3 x d n t : Nat) (j : Nat) : Option Spec := match j with
  | 0 => some (eqS [c0, c1, c2, c3] (ot4 c0 c1 c2 c3 x d) false)
  | 1 => some (plS c0 c1 c2 c3 x d 0)
  | 2 => some (plS c0 c1 c2 c3 x d 1)
  | 3 => some (plS c0 c1 c2 c3 x d 2)
  | 4 => some (plS c0 c1 c2 c3 x d 3)
  | 5 => some (listSpec n t)
  | 6 => some (eqS [x] [at4 c0 c1 c2 c3 d] false)
  | 7 => some (lowS t x)
  | 8 => some (lowS t (at4 c0 c1 c2 c3 d))
  | _ => none
noncomputable def slLev (d : Nat) : List Nat := match d with
  | 0 => (dc 32 75093294231594495084199981857523316529001330864101073943454669208987266982094355757925601902593 (dc 32 148213874223764730142170860811120522052185580372020476567643307380491960746770432 (dc 32 844424930131968 (dc 31 30540803045386058279198062467480403861276687692193520437033729663278625175419725644872405299957968510981767168 []))))
  | 1 => (dc 32 8834235323891921647916487503714592583125103471732842409319452187304132609 (dc 32 737186041679900306885426193785693026232265667803846312054967238656 (dc 32 5 (dc 27 108502728740895045260110629454716515813845090904243024130812961172689146761952818724496713187328 []))))
  | 2 => (dc 32 16439798079416832595226364177525359200464013166250160742867524304440055758927362575978735398012833108527677441 (dc 32 979888324702789342118880997748694371678219905040162538818517642071982484931174991920211190574907129856 (dc 32 25833968410512165506784286564682707301132508037991518577780200686854299276260692878100688982232455733351284736 (dc 23 385479128584958080452731470638797318222561795068667664064367390511340071988232192 []))))
  | _ => (dc 32 16439798079416832595226364177525359200464013166250160742867524304440055758927362575978735398012833108527677441 (dc 32 4475909127688079779398440233321387560904105357176129456964888845501063852151142275350528 (dc 32 91780692949726605102911088936972942424334959945012423708661944086111003842136898633799152173056 (dc 19 1369496973015877758160497530464273972308439635514317217486163935232 []))))
noncomputable def orcLev (d : Nat) : List Nat := match d with
  | 0 => (dc 32 125085727074631803778663928359481905710688781687503585052687660573718335018673988226184599104451177082870430699740 (dc 32 9621979535139066962754405100063784716453653630839910394098465126026967853793060318757922011815623557551845593101 (dc 32 394501160940700378105466562337555103618013380828989510504181379837272017382648476540003746447719033439826229596161 (dc 32 9621979542420014949975546721663862283450643116569043535981243257387113848232163625568612895227621221876541427713 (dc 32 115437920451718056767178716715834834865711529558226802461545124622459907153459267465876557205736895719407901446145 (dc 32 779380342346264423979145848134708843916979164229274211626877162059846050508538518120109361469513343681547397545984 (dc 32 856356178615055321310626622829804032402531289364066047293408981519908500760450510024696807616415350765396366282837 (dc 32 933122994618622624225345320770037809702179931603803653782406750435552577614018233514181068662120548263703131557977 (dc 32 1048786372865208578504274750331376491790219317016442353757290721651208654456943362416657663714871850917733436100705 (dc 32 1164259523735024914816113801264769834842061875220147746002273461266846258057661763571562606411235689951956702777453 (dc 32 1241235360034059373823537561889938350593923315568491248372225005463400484375476507433191925972818199303139541651581 (dc 31 2436280806385048039281751994153429381682373449816688994805176900358158701082656646391841482434719255818670081 []))))))))))))
  | 1 => (dc 32 9621979535139066962705504298930940096790724852974946929234407249308810507939378711735301547862408567008379539676 (dc 32 9621979538499504495291677724284519450395831644467633579472870446840971559664117904314082645484694632995882061825 (dc 32 394501160940700378105466562337555103618013380828989510504181379837272017382648476540003746447719033439826229596161 (dc 32 9621979542420014949975546721663862283450643116569043535981243257387113848232163625568612895227621221876541427713 (dc 32 115437920451718056767178716715834834865711529558226802461545124622459907153459267465876557205736895719407901446145 (dc 32 779380342346264423979145848134708843916979164229274211626877162059846050508538518120109361469513343681547397545984 (dc 32 856356178615055321310626622829804032402531289364066047293408981519908500760450510024696807616415350765396366282837 (dc 32 933122994618622624225345320770037809702179931603803653782406750435552577614018233514181068662120548263703131557977 (dc 32 1048786372865208578504274750331376491790219317016442353757290721651208654456943362416657663714871850917733436100705 (dc 32 1164259523735024914816113801264769834842061875220147746002273461266846258057661763571562606411235689951956702777453 (dc 32 1241235360034059373823537561889938350593923315568491248372225005463400484375476507433191925972818199303139541651581 (dc 31 2436280806385048039281751994153429381682373449816688994805176900358158701082656646391841482434719255818670081 []))))))))))))
  | 2 => (dc 32 9621979535139066962705504298930940096790724852974946929234407249308810507939378711735301547862408567008379539676 (dc 32 9621993299491200435671858528206792712366193042261190317980711102885765691085476995444854272775237422474483257345 (dc 32 394501160940700378105466562337555103618013380828989510504230431670124141941267337861887289546749105612406531297281 (dc 32 9621979542420014949975546721663862283450643116569043535981243257387113848232163625568612895227621221876541427713 (dc 32 115437920451718056767178716715834834865711529558226802461545124622459907153459267465876557205736895719407901446145 (dc 32 779380342346264423979145848134708843916979164229274211626877162059846050508538518120109361469513343681547397545984 (dc 32 856356178615055321310626622829804032402531289364066047293408981519908500760450510024696807616415350765396366282837 (dc 32 933122994618622624225345320770037809702179931603803653782406750435552577614018233514181068662120548263703131557977 (dc 32 1048786372865208578504274750331376491790219317016442353757290721651208654456943362416657663714871850917733436100705 (dc 32 1164259523735024914816113801264769834842061875220147746002273461266846258057661763571562606411235689951956702777453 (dc 32 1241235360034059373823537561889938350593923315568491248372225005463400484375476507433191925972818199303139541651581 (dc 31 2436280806385048039281751994153429381682373449816688994805176900358158701082656646391841482434719255818670081 []))))))))))))
  | _ => (dc 32 9621979535139066962705504298930940096790724852974946929234407249308810507939378711735301547862408567008379539676 (dc 32 9621993299491200435671858528206792712366193042261190317980711102885765691085476995444854272775237422474483257345 (dc 32 394407196296803903320564533405457884611533351190115414970179017739143077815184696553236384490805506699603816222721 (dc 32 9621979542420014949975546721663862283450643116569043535981243257387113848232163625568612895227621221877212680233 (dc 32 115437920451718056767178716715834834865711529558226802461545124622459907153459267465876557205736895719407901446145 (dc 32 779380342346264423979145848134708843916979164229274211626877162059846050508538518120109361469513343681547397545984 (dc 32 856356178615055321310626622829804032402531289364066047293408981519908500760450510024696807616415350765396366282837 (dc 32 933122994618622624225345320770037809702179931603803653782406750435552577614018233514181068662120548263703131557977 (dc 32 1048786372865208578504274750331376491790219317016442353757290721651208654456943362416657663714871850917733436100705 (dc 32 1164259523735024914816113801264769834842061875220147746002273461266846258057661763571562606411235689951956702777453 (dc 32 1241235360034059373823537561889938350593923315568491248372225005463400484375476507433191925972818199303139541651581 (dc 31 2436280806385048039281751994153429381682373449816688994805176900358158701082656646391841482434719255818670081 []))))))))))))
noncomputable def lvWt (d : Nat) : Nat := match d with
  | 0 => 134
  | 1 => 132
  | 2 => 128
  | _ => 122
noncomputable def runLev (P P' : Params) (n t c0 c1 c2 c3 x d : Nat) (t1 t2 t3 : Tok) (tb : Array Value) : Out :=
  runCall (mkV P P' n t noPa (lvSp c0 c1 c2 c3 x d n t) 380 1850) 1600 (slLev d) (orcLev d) 56 [.str (strL [c0, c1, c2, c3]) t1, .str (strL (ot4 c0 c1 c2 c3 x d)) t2, .int 2 t3] tb
noncomputable def lvWant (t d : Nat) (tb : Array Value) : Result × Nat × Nat × List Value × List (Option Obj) := (.ok (.ret (.int 2 (match d with | 0 => t + 130 | 1 => t + 128 | 2 => t + 124 | _ => t + 118))), 39, lvWt d, tb.toList, [].map some)
end Mine


set_option maxRecDepth 100000
set_option Elab.async false
set_option linter.unusedVariables false
set_option linter.unusedSectionVars false
namespace Mine
open PySem PySem.Calls PyProof.Rows PySem.W PySem.W.X
set_option maxHeartbeats 0
noncomputable abbrev LevRun (d : Nat) (f : Bool) : Prop := ∀ (P : Params) (y : Bool) (n t c0 c1 c2 c3 x : Nat) (t1 t2 t3 : Tok) (tb : Array Value),
    res (runLev P (mkP P f y) n t c0 c1 c2 c3 x d t1 t2 t3 tb) [] = due (runLev P (mkP P f y) n t c0 c1 c2 c3 x d t1 t2 t3 tb) (lvWant t d tb)
theorem lr0t : LevRun 0 true := by intro P y n t c0 c1 c2 c3 x t1 t2 t3 tb; kernel_rfl
theorem lr0f : LevRun 0 false := by intro P y n t c0 c1 c2 c3 x t1 t2 t3 tb; kernel_rfl
theorem lr1t : LevRun 1 true := by intro P y n t c0 c1 c2 c3 x t1 t2 t3 tb; kernel_rfl
theorem lr1f : LevRun 1 false := by intro P y n t c0 c1 c2 c3 x t1 t2 t3 tb; kernel_rfl
theorem lr2t : LevRun 2 true := by intro P y n t c0 c1 c2 c3 x t1 t2 t3 tb; kernel_rfl
theorem lr2f : LevRun 2 false := by intro P y n t c0 c1 c2 c3 x t1 t2 t3 tb; kernel_rfl
theorem lr3t : LevRun 3 true := by intro P y n t c0 c1 c2 c3 x t1 t2 t3 tb; kernel_rfl
theorem lr3f : LevRun 3 false := by intro P y n t c0 c1 c2 c3 x t1 t2 t3 tb; kernel_rfl
theorem lev_run (f : Bool) (d : Nat) (hd : d < 4) : LevRun d f := by
  match f, d, hd with
  | true, 0, _ => exact lr0t
  | false, 0, _ => exact lr0f
  | true, 1, _ => exact lr1t
  | false, 1, _ => exact lr1f
  | true, 2, _ => exact lr2t
  | false, 2, _ => exact lr2f
  | true, 3, _ => exact lr3t
  | false, 3, _ => exact lr3f
end Mine


set_option maxRecDepth 100000
set_option Elab.async false
set_option linter.unusedVariables false
set_option linter.unusedSectionVars false
namespace Mine
open PySem PySem.Calls PyProof.Rows PySem.W PySem.W.X
theorem low_mini {P : Params} {q : Nat} (hq : q < 3) : Mini P noPa 30 [] "str.lower" [.str (strL [lett q]) 0] (fun _ t => .str (strL [lett q]) t) 0 1 [] (fun _ _ => []) := by
  intro f y vs n t tb hv
  obtain ⟨u, rfl, eu⟩ := map_one hv
  obtain ⟨tu, rfl⟩ := erase_str eu
  rcases lt3 hq with rfl | rfl | rfl <;> cases f <;> kernel_rfl
theorem tyTest_is {g : String} {c : Code} {T : KT} {tb : Array Value} {args : List Value} {o' : Obj} (h : tyTest c T tb = some (.bi g args 0 [some o'])) :
    ∃ vs o, c = .call (.type g) ⟨vs, []⟩ ∧ vs.map erase = args ∧ T.get 15 = some o ∧ eraseF o = o' := by
  unfold tyTest at h
  split at h
  · rename_i f a
    split at h
    · rename_i b
      simp only [Option.some.injEq, Ob.bi.injEq, List.cons.injEq, and_true] at h
      obtain ⟨h1, h2, h3, h4⟩ := h
      subst h1
      obtain ⟨pos, kw⟩ := a
      have : kw = [] := List.length_eq_zero_iff.mp h3
      subst this
      cases hT : T.get 15 with
      | none => rw [hT] at h4; cases h4
      | some o =>
        rw [hT] at h4
        exact ⟨pos, o, rfl, h2, rfl, Option.some.inj h4⟩
    · cases h
  · cases h
theorem eraseF_rg {o : Obj} (h : eraseF o = rg fun _ => 0) : ∃ k, o = rg k := by
  obtain ⟨c, d, x, s⟩ := o
  cases x with
  | fields a =>
    unfold eraseF rg rangeO at h
    simp only [Obj.mk.injEq, Data.fields.injEq, Array.mk.injEq] at h
    obtain ⟨rfl, rfl, h1, rfl⟩ := h
    obtain ⟨x0, x1, x2, e, e0, e1, e2⟩ := map_three h1
    obtain ⟨k0, rfl⟩ := erase_int e0
    obtain ⟨k1, rfl⟩ := erase_int e1
    obtain ⟨k2, rfl⟩ := erase_int e2
    refine ⟨fun j => match j with | 0 => k0 | 1 => k1 | _ => k2, ?_⟩
    unfold rg rangeO
    have : a = ⟨[.int 2 k0, .int 4 k1, .int 2 k2]⟩ := Array.ext' e
    rw [this]
    rfl
  | _ => simp [eraseF, rg, rangeO] at h
section
variable {P : Params} {f y : Bool} {h₀ : Heap} {n t D U : Nat} {tb₀ : Array Value} {pa pa' : Nat → Option (Addr × Obj)} {sp : Nat → Option Spec} {w : World} {gens : Array GenState} {d : Drawn} {os : OsState}
theorem eqS_ok {a b : List Nat} {z : Bool} (S : Stand P h₀ n tb₀ pa') (hz : (a == b) = z) : SpecOk (mkV P (mkP P f y) n t pa sp D U) w h₀ gens d os (eqS a b z) := by
  subst hz
  refine bi_ok (V := mkV P (mkP P f y) n t pa sp D U) (adr_plain fun _ => rfl) (adr_no16 (fun _ => rfl) S.low) fun vs h i A R hv hR => ?_
  obtain ⟨u, v, rfl, eu, ev⟩ := map_two hv
  obtain ⟨tu, rfl⟩ := erase_str eu
  obtain ⟨tv, rfl⟩ := erase_str ev
  exact code_slot F.slot_str_eq (typeIs_str _ _ _) F.entry_str_eq (F.args_str_eq_2 _ _) (gives_str_eq _ _ _ _) hR
theorem lowS_ok {q : Nat} (S : Stand P h₀ n tb₀ pa') (hP : mkP P f y = w.params) (hq : q < 3) : SpecOk (mkV P (mkP P f y) n t pa sp D U) w h₀ gens d os (lowS t (lett q)) :=
  mini_at (r := fun _ t => .str (strL [lett q]) t) (objs := fun _ _ => []) (js := []) S.bare hP (low_mini hq)
theorem listSpec_ok (S : Stand P h₀ n tb₀ pa') (hP : mkP P f y = w.params) : SpecOk (mkV P (mkP P f y) n t pa sp D U) w h₀ gens d os (listSpec n t) := by
  refine spec_ok (V := mkV P (mkP P f y) n t pa sp D U) S.low fun c T m i tb h A R ht Dp h1 h2 h3 hR => ?_
  obtain ⟨vs, o, rfl, hv, hT, ho⟩ := tyTest_is ht
  obtain ⟨u, rfl, eu⟩ := map_one hv
  have eu' := erase_ref eu
  subst eu'
  obtain ⟨k, rfl⟩ := eraseF_rg ho
  have St : Stand P h (n + m) tb (paD1 (n + 15) (rg k)) := by
    refine ⟨(S.goX Dp).inv, (S.goX Dp).size, fun j a o e => ?_⟩
    match j, e with
    | 0, e =>
      cases e
      have hl := S.low
      refine ⟨fun q => ?_, (Dp.own _ _ hT).2⟩
      have q' : n + 15 = 16 := q
      omega
  refine list_go (t := t + i) St hP h1 h2 h3 fun h' F => ?_
  exact hR h' F
theorem lett_inj : ∀ a < 3, ∀ b < 3, a ≠ b → (lett a == lett b) = false := by decide
theorem at_lett {p : Nat → Nat} {d : Nat} (hd : d < 4) : at4 (lett (p 0)) (lett (p 1)) (lett (p 2)) (lett (p 3)) d = lett (p d) := by
  match d, hd with
  | 0, _ => rfl
  | 1, _ => rfl
  | 2, _ => rfl
  | 3, _ => rfl
theorem one_ne {a b : Nat} (h : (a == b) = false) : (([a] : List Nat) == [b]) = false := by
  simp only [List.cons_beq_cons, h, Bool.false_and]
theorem ot_ne {c0 c1 c2 c3 x d : Nat} (hd : d < 4) (h : (at4 c0 c1 c2 c3 d == x) = false) : ([c0, c1, c2, c3] == ot4 c0 c1 c2 c3 x d) = false := by
  have e1 : at4 c0 c1 c2 c3 d ≠ x := by simpa using h
  have : [c0, c1, c2, c3] ≠ ot4 c0 c1 c2 c3 x d := by
    match d, hd with
    | 0, _ => intro q; simp [ot4, at4] at q e1; exact e1 q
    | 1, _ => intro q; simp [ot4, at4] at q e1; exact e1 q
    | 2, _ => intro q; simp [ot4, at4] at q e1; exact e1 q
    | 3, _ => intro q; simp [ot4, at4] at q e1; exact e1 q
  simpa using this
theorem lv_sp {p : Nat → Nat} {q e : Nat} (S : Stand P h₀ n tb₀ pa') (hP : mkP P f y = w.params) (hp : ∀ k, p k < 3) (hq : q < 3) (he : e < 4) (hne : p e ≠ q) :
    ∀ j Z, lvSp (lett (p 0)) (lett (p 1)) (lett (p 2)) (lett (p 3)) (lett q) e n t j = some Z → SpecOk (mkV P (mkP P f y) n t pa sp D U) w h₀ gens d os Z := by
  have hl := lett_inj (p e) (hp e) q hq hne
  have hl' : (at4 (lett (p 0)) (lett (p 1)) (lett (p 2)) (lett (p 3)) e == lett q) = false := by rw [at_lett he]; exact hl
  have hr' : (lett q == at4 (lett (p 0)) (lett (p 1)) (lett (p 2)) (lett (p 3)) e) = false := by rw [at_lett he]; exact lett_inj q hq (p e) (hp e) (Ne.symm hne)
  have pl : ∀ j, SpecOk (mkV P (mkP P f y) n t pa sp D U) w h₀ gens d os (plS (lett (p 0)) (lett (p 1)) (lett (p 2)) (lett (p 3)) (lett q) e j) := by
    intro j
    unfold plS
    cases hj : Nat.beq j e with
    | true =>
      have : j = e := Nat.eq_of_beq_eq_true hj
      subst this
      exact eqS_ok S (one_ne hl')
    | false => exact eqS_ok S (by simp)
  intro j Z z
  match j, z with
  | 0, z => cases z; exact eqS_ok S (ot_ne he hl')
  | 1, z => cases z; exact pl 0
  | 2, z => cases z; exact pl 1
  | 3, z => cases z; exact pl 2
  | 4, z => cases z; exact pl 3
  | 5, z => cases z; exact listSpec_ok S hP
  | 6, z => cases z; exact eqS_ok S (one_ne hr')
  | 7, z => cases z; exact lowS_ok S hP hq
  | 8, z => cases z; rw [at_lett he]; exact lowS_ok S hP (hp e)
  | _ + 9, z => cases z
noncomputable def lvTok (t d : Nat) : Nat := match d with
  | 0 => t + 130
  | 1 => t + 128
  | 2 => t + 124
  | _ => t + 118
theorem lev_go {p : Nat → Nat} {q e : Nat} {A : Around} {R : Result → Shared → Prop} (S : Stand P h₀ n tb₀ pa') (hP : mkP P f y = w.params) (hp : ∀ k, p k < 3) (hq : q < 3) (he : e < 4) (hne : p e ≠ q)
    (h1 : A.depth ≤ 380) (h2 : A.units ≤ 1850) (h3 : A.handled = none) (t1 t2 t3 : Tok)
    (hR : ∀ h', After h₀ h' n 39 tb₀ tb₀ [] → R (.ok (.ret (.int 2 (lvTok t e)))) ⟨h', gens, d, t + lvWt e, os⟩) :
    codeAny (model PySem.Challenge.pw_sl0015_01 w) A (.call (.ref 56) ⟨[.str (wordS p) t1, .str (strL (ot4 (lett (p 0)) (lett (p 1)) (lett (p 2)) (lett (p 3)) (lett q) e)) t2, .int 2 t3], []⟩) R ⟨h₀, gens, d, t, os⟩ := by
  have O := S.bare.hyp (t := t) (sp := lvSp (lett (p 0)) (lett (p 1)) (lett (p 2)) (lett (p 3)) (lett q) e n t) hP h1 h2 h3
  obtain ⟨z1, z2⟩ := due_is (lev_run f e he P y n t (lett (p 0)) (lett (p 1)) (lett (p 2)) (lett (p 3)) (lett q) t1 t2 t3 tb₀)
  refine run_call O (lv_sp S hP hp hq he hne) S.inv.tab rfl rfl z1 z2 R fun h' F => ?_
  exact hR h' F
end
end Mine


set_option maxRecDepth 100000
set_option Elab.async false
set_option linter.unusedVariables false
set_option linter.unusedSectionVars false
namespace Mine
open PySem PySem.Calls PyProof.Rows PySem.W PySem.W.X
noncomputable def slThA (y : Bool) : List Nat := cond y [] [0]
noncomputable def slThB : List Nat := (dc 32 662289008342220970264833528294593041719942478792146203539456053972082945082319581062217790842605981091279929344 (dc 32 34239539225478474874955516107764520729572420538293959062063193721648188026741799780352 (dc 32 0 (dc 32 15530601742336 (dc 32 129582671803439040406011380584567912155005921888007883491173769425361142498999391655956048250722101290336256 (dc 32 0 (dc 32 112395051428611781127116388081181509862703090080200584141544858777854046324832542870470656 (dc 32 0 (dc 32 460370130651593855496668725580519464397631856968501592643767741554090173746514095597447806976 (dc 32 0 (dc 32 399307436639914858485825235167899584577011360693889884535483001492132069376 (dc 32 0 (dc 32 1418624992197389852626888409644932610039132330448871799914496 (dc 32 0 (dc 32 97487167148416713497515926554662984515871914231906710091670654661165056 (dc 32 0 (dc 32 84556638729416719235592389681633270385213633206419456 (dc 32 0 (dc 12 1230461038786113483883562580473273852624896 [])))))))))))))))))))
noncomputable def orcThA (y : Bool) : List Nat := cond y (dc 14 456830792621136931697366687637812518621011804400 []) (dc 18 231455586084740704201119810087532515334990758762180333837254896 [])
noncomputable def orcThB : List Nat := (dc 32 202061570237920406216772808025734200209982982327986577877518753442165699473701281650225847610356120771932134084617 (dc 32 86597815816251602664357688815318385519633034043069960315213354137769512558364406989763734708177947576082991501333 (dc 32 279037406519032941918459624640821685066498764061291771013772404305018169529771273807705531121722723597888434245641 (dc 32 163573647509246760541655154722001626464392746426071192075407583465299921947127226523242738708216217245411476361245 (dc 32 356013242800145477620103659024496632671050147254510751334331344552686070505540233419027434020215884834324963463180 (dc 32 9621979537379358651063694012383027883169131301049470115483703206796174184119676267348271869778132718918278729765 (dc 32 240493115899259163103976797072860155465937863550124673219887231413062746880267844346489606773912279861949022392333 (dc 32 240549488375117056954370901133147336416774131981376870355211193748287037363877987851714546666277199487854685818905 (dc 32 779380342346264287242584453482609943826330794288022255781869416138824693850220832511943855603265652148795082903577 (dc 32 663754505804028948175585224654636284957753456078639217959938990776109067334957577141303354191099761122248390660173 (dc 32 933332014909049568304531612473112812967384736031479026529930831288429547486498837184931694413244209426704825077829 (dc 32 663916587924595620426679796559196423089255680015168698434342640329301076068610499438975514561985937328955841695841 (dc 32 1125771603317212145724285142219067526646292976992913106897917827992138098032113038657067383138307836102751029579845 (dc 32 9621979535143305729090248922770288411205413386753741870612376760646270582614361171161421282387861054462601154677 (dc 32 9678358321477772433141211530656408656403208591591002534356592904039325333718756204396433488871209485457531342849 (dc 32 1241186030877890519603075709534361414934040702721989103736373925061319887105897616821406080964675862228814876774433 (dc 32 1279732674637885690318295786292585150715382475692905557090033602547853072667706818512067652389646656241118673899649 (dc 32 1472162868872916807761093136395020024600408324987502416386721948429311863774845864476930720094212175507806529032329 (dc 32 1549138705157389644259024797319359419871844626190088372723569924636332198417891006995832985953440898653161148518557 (dc 32 1241235360032939638189010054436758530123391053941402349246722795884663762765156140035239194375246329084540147585181 (dc 32 1703080983549283757065962700826642326940254618772416988711218139856100510271265788994292767461881030159230501916801 (dc 32 9621979535139066962705504297964823995164378347031655610638268421867544535857929851586549042801063323526079647921 (dc 32 394501138003475293881819769861879071402090073814283783825215877027605564001209275757806921428038892952620055400449 (dc 32 1818554132129942315422867863849065365226982085424428679020730064165739347715345806106388887021934456762613159333929 (dc 32 1895529966128897575662912837076953420922241272471186269155757847051034581025845911428661173222290829738771472961725 (dc 32 2126448078507285325400368788140682873307623949589991785430731942780260937647259072431924612478819239140817885745353 (dc 32 2087969561418676146863791146831739629067076087094323439406752957361971724014022768704958756045395038861524640567513 (dc 32 1818554132141283655951340312314320637157526427867636000059152003272879466376794335913963593624018675571750503026905 (dc 32 2280409149827398933975660067563730843614638145499227422077362834688573860019476349193636031749284575283190667399357 (dc 32 9621979535139066962705504297959368451000135408194769053665561627124979825510260740226687157649866634666275950829 (dc 32 548452833502366743952116021562042785077967125553424496330808540878190958873041837245506105136203764634957803409469 (dc 32 240549474618605123971403932901838725528449740903374813918653361835739078596277613714697588149904057553681020670009 (dc 32 2549824576789870018935098146558358667194390454035295508125538097963696814088870082937504230137285585408350113337369 (dc 32 2626800410799466664828531163721865423165479412777748893518168176409441138933974850736960131798821889286661792108809 (dc 32 2857718523177854414565987114776364945461901675585788804738646228300180869849068694311463510422423688807804220543253 (dc 32 2819240006089805308984873818339579037984678437948795698730337990226001438952500402752471731619270932583479210299685 (dc 32 2549824576811852745116958638959232639400764568174198624421562332631286024284923275222262552200637378551311852785957 (dc 32 3011679594497968023141278394208642845857876285805790046439773164046980417927605288501934990325903278262752017158409 (dc 32 9621979535139066962705504297959368451134448576418762198540277665901846141090976839655696358916636726006346125625 (dc 32 317525324659588116143919250326696972386039600778896271070670081228194030994586235351193989511744383406359658369281 (dc 32 3127143348920196761068272102002654167123574224557321650764054647093308832994494031293343876087097326803237048684577 (dc 32 3242607101047806740816415440302408194562749286485579836279476022876024552859279797525319108804125752443343009251653 (dc 32 3396549379439700033170642609368399417367790231740634608704400662022414397238192481644111467651355459307284804735313 (dc 32 3396558775904090774538213314128609390693072411221250907604797113808430638872356988813329716501061927961821156086117 (dc 32 3127143348920196762879288896836794746434899942100432275233991540019501727896604016778910020380114188744101394256221 (dc 32 3588998366606312040903608652086204952892011659732023697252202371435196121539286030061118378675865412193984661705029 (dc 32 2472848740494895542401061960682250600881296575404944799663944797998376001803355351661361504820261003658235502612853 (dc 32 317450175885057824930327576902968509241496954160428216385194998443815803296500300108420395629026763248287128535297 (dc 32 115454574172310449279333248876203298124599465512281480493516663694294221322423334940478745205302815975941492314145 (dc 32 3781447353774043100554961006632831541936167881768785727362748409224005117587620557202967481115550269191028884377600 (dc 32 3973877550305933134850891528221174111101187134696311903432130053493392742315907180903580028761698434139749717938569 (dc 32 3973877545718936039607301765435691220393076762707876584347105608208796561012230033869603349464761668825094689509789 (dc 32 3704462121028540780641619154714356853469035316026665926046420747407717431508284758338093408578923692727609029431721 (dc 32 4166317138715215994851475212872501201151998539659041270450187914573031077435219520565875491764272042219301932372353 (dc 32 2472848740494895542401061960682250600880625013015552129806736874808414054317436176163420524625216685086243429224877 (dc 32 548349497629284768212178457703741201070297240069249656305090859830771048696177119770982788393328497293435837923585 (dc 32 240549488378476673867421423366135168666029281548619445761573857656749457722907843965959662655441727348963620687929 (dc 32 4435732565699109869806518234040862620389194188151639596086411966189973846808265304345112968333897800179901570125825 (dc 32 4512708404273721021465578229917500478610444657584504772818955628392477679183081881954820792420011378436821982691336 (dc 32 4705147992683563680915153105181907528514840522907312529313730225720119243539611765084436065039021929864612185723349 (dc 32 4666669471006837261190625149040113227286045896509081079709414761617415773792484177733673520726554262396199958893033 (dc 32 4435732565699109869807237481359268855712273456333228550408831076766123989416413697646392367155579298202517187236329 (dc 32 4897587583385785084017093539517413203395236679965603894812598243931437635343348459874174450340890745198863282131405 (dc 32 4358756729354709093908553622601473575709886707011206309582753124506877706540537035226110797247747331784206373081593 (dc 32 394407214649273414317471662735782902329994056009966249679043330232100141704755683789657117989763941012009235038661 (dc 32 115454652170305872293086360695916412400780794206218256503724158473085700029121616937518540835169842295795525783593 (dc 32 5090036570552956207482909591155305651213541396001582002537587945970627379107430238070449828042131106101822878683136 (dc 32 5282466767084846241778840112743648219394087599211110657237792889206066750164769454303142497174585268539906314015249 (dc 32 5282466762497849146535250349958165329670450276940672859521945144955418822532039714737085696391342505735888683815461 (dc 32 5013051337807453887569567739236830962746408830259462201221260284154339693028094439205575755505504529638403023737393 (dc 32 5474906355494129101779423797394975310429372053891837545625027451319653338955029201433357838690852879130095926678025 (dc 32 4358756729354709093908553622601473575709886707011207852619993689447342144899917015745265652853540746423199110238773 (dc 32 394407219237390792141810077099533076600765125328133498517024692197077094801259272514380916005525012799910571983301 (dc 32 115454686581186205975624498263436904076672526262299713800956954483848338099653102954482105552543335852929404014633 (dc 32 5667345946196910577736712328447020345027338215331524619527944538073643117220846697139579513289735928474799807156224 (dc 32 5859785539193190259541170370621210325993896627673521872152055904961658224215738104332361233239098778881855255269961 (dc 32 5859785534606193164297580607835727436704585650866906510334374352343634526143720456296269084741304639667121328362081 (dc 32 5590370109915797905331897997114393069780544204185695852033689491542555396639775180764759143855466663569635668284013 (dc 32 6052225127602473119541754055272537417463507427818071196437456658707869042566709942992541227040815013061328571224645 (dc 32 28442313139805300976647350656585281311338711784950736707133842727415532247091860284185716999793193863860408945 (dc 32 11153261415927747262785085729521351864084337885281413917280730814983490805359978784319628864329321179734192443393 [])))))))))))))))))))))))))))))))))))))))))))))))))))))))))))))))))))))))))))))))))
noncomputable def runTh (P P' : Params) (y : Bool) (n t : Nat) (tb : Array Value) : Out :=
  runCall (mkV P P' n t noPa noSp 380 1850) 8000 (slThA y ++ slThB) (orcThA y ++ orcThB) 61 [] tb
end Mine


set_option maxRecDepth 100000
set_option Elab.async false
set_option linter.unusedVariables false
set_option linter.unusedSectionVars false
namespace Mine
open PySem PySem.Calls PyProof.Rows PySem.W PySem.W.X
set_option maxHeartbeats 0
/-- The thirds of a run at n, t. -/
noncomputable def thX (n t : Nat) : Th where
  a := n + 13
  r j := match j with
    | 0 => n + 15
    | 1 => n + 64
    | _ => n + 113
  e _ := 3
  τ j i := match j, i with
    | 0, 0 => t + 179
    | 0, 1 => t + 235
    | 0, _ => t + 291
    | 1, 0 => t + 349
    | 1, 1 => t + 404
    | 1, _ => t + 462
    | _, 0 => t + 520
    | _, 1 => t + 578
    | _, _ => t + 633
noncomputable def thObjs (n t : Nat) : List Obj := [lstO (thX n t).all 3, lstO ((thX n t).row 0) 3, lstO ((thX n t).row 1) 3, lstO ((thX n t).row 2) 3]
noncomputable abbrev ThRun (f y : Bool) : Prop := ∀ (P : Params) (n t : Nat) (tb : Array Value),
    res (runTh P (mkP P f y) y n t tb) [13, 15, 64, 113] = due (runTh P (mkP P f y) y n t tb) (.ok (.ret (.ref (n + 13))), 164, 634, tb.toList, (thObjs n t).map some)
theorem thTT : ThRun true true := by intro P n t tb; kernel_rfl
theorem thTF : ThRun true false := by intro P n t tb; kernel_rfl
theorem thFT : ThRun false true := by intro P n t tb; kernel_rfl
theorem thFF : ThRun false false := by intro P n t tb; kernel_rfl
theorem th_run (f y : Bool) : ThRun f y := by
  match f, y with
  | true, true => exact thTT
  | true, false => exact thTF
  | false, true => exact thFT
  | false, false => exact thFF
section
variable {P : Params} {f y : Bool} {h : Heap} {n t : Nat} {tb : Array Value} {pa' : Nat → Option (Addr × Obj)} {w : World} {gens : Array GenState} {d : Drawn} {os : OsState}
theorem th_go {A : Around} {R : Result → Shared → Prop} (S : Stand P h n tb pa') (hP : mkP P f y = w.params)
    (hd : A.depth ≤ 380) (hu : A.units ≤ 1850) (hh : A.handled = none)
    (hR : ∀ h', After h h' n 164 tb tb ([13, 15, 64, 113].zip (thObjs n t)) → R (.ok (.ret (.ref (n + 13)))) ⟨h', gens, d, t + 634, os⟩) :
    codeAny (model PySem.Challenge.pw_sl0015_01 w) A (.call (.ref 61) ⟨[], []⟩) R ⟨h, gens, d, t, os⟩ := by
  have O := S.bare.hyp (t := t) (sp := noSp) hP hd hu hh
  obtain ⟨z1, z2⟩ := due_is (th_run f y P n t tb)
  refine run_call O (fun j S e => by cases e) S.inv.tab rfl rfl z1 z2 R fun h' F => hR h' F
end
end Mine


set_option maxRecDepth 100000
set_option Elab.async false
set_option linter.unusedVariables false
set_option linter.unusedSectionVars false
namespace Mine
open PySem PySem.Calls PyProof.Rows PySem.W PySem.W.X

/-! One turn of the walk, upon words unknown. -/
noncomputable def mkVL (P P' : Params) (n t : Nat) (pa : Nat → Option (Addr × Obj)) (sp : Nat → Option Spec) (D U L : Nat) (lw : Nat → Option Addr) : Vw :=
  { den := denF, ent := entF, quiet := quietF, prog := PySem.Challenge.pw_sl0015_01, P := P', n₁ := n, t₀ := t, kt := KTop P, pa, sp, D, U, L, lw, cs := isFor, st := fun _ => false }
noncomputable def fdOf (T : KT) (a : Nat) : FuncData := match T.get a with
  | some o => match o.data with
    | .func fd => fd
    | _ => default
  | none => default
noncomputable def walkFd (P : Params) : FuncData := fdOf (KTop P) 80
noncomputable def forBody : Stmt → List Stmt
  | .For _ _ b _ _ => b
  | _ => []
noncomputable def forTarget : Stmt → Expr
  | .For t _ _ _ _ => t
  | _ => default
noncomputable def stmtAt (l : List Stmt) (i : Nat) : Stmt := (l[i]?).getD default
noncomputable def walkBody (P : Params) : List Stmt := forBody (stmtAt (entBody (walkFd P)) 0)
noncomputable def walkTarget (P : Params) : Expr := forTarget (stmtAt (entBody (walkFd P)) 0)
noncomputable def wName : Str := ⟨⟨[95, 108, 97, 119, 95, 119, 97, 108, 107, 46, 60, 108, 111, 99, 97, 108, 115, 62, 46]⟩⟩
noncomputable def walkEnv (P : Params) (a : Addr) : Env := { scope := (walkFd P).scope, locals := a, globals := 3, cells := [], qual := wName, func := some 80, code := .ref 79, frame := some a, builtins := 0 }
/-- The frame's entries: names with their marks. -/
noncomputable def nmS (l : List Nat) : Str := ⟨⟨l⟩⟩
noncomputable def wNames : Nat → List Nat
  | 0 => [119, 111, 114, 100]
  | 1 => [103, 111, 97, 108]
  | 2 => [116, 104, 105, 114, 100, 115]
  | 3 => [115, 116, 101, 112]
  | 4 => [102, 97, 114]
  | 5 => [110, 101, 97, 114]
  | 6 => [111, 116, 104, 101, 114]
  | _ => [119, 97, 121]
noncomputable def entr (H : Nat → Int) (k : Nat → Tok) (i : Nat) : List Value → List DictEntry
  | [] => []
  | v :: r => ⟨H i, .str (nmS (wNames i)) (k i), v⟩ :: entr H k (i + 1) r
noncomputable def frW (H : Nat → Int) (k : Nat → Tok) (n : Nat) (vs : List Value) : Obj := ⟨.type "frame", none, .dict ⟨entr H k 0 vs⟩ n, #[]⟩
noncomputable def wtTest (c : Code) (T : KT) (tb : Array Value) : Option Ob := match c with
  | .call f a => match f with
    | .ref b => some (.cs b (a.pos.map erase) a.kw.length [] tb.toList)
    | _ => none
  | _ => none
noncomputable def wayS (t : Nat) (q a : Addr) (w : Str) (g v : Int) : Spec :=
  mkSpec 390 1900 wtTest (.cs 68 [.str w 0, .int g 0, .ref a] 0 [] (tb3 q)) (fun _ i => .int v (Nat.add (Nat.add t i) 96)) 18 97 (fun _ _ => []) (fun _ _ tb => tb)
noncomputable def movS (n t : Nat) (w : Str) (vs : Nat → List Value) (e W Wt : Nat) : Spec :=
  mkSpec 380 1850 usTest (.cs 73 [.str w 0] 0 [] []) (fun m _ => .ref (Nat.add (Nat.add n m) 35)) W Wt (fun _ i => [(35, lstO (vs (Nat.add t i)) e)]) (fun _ _ tb => tb)
noncomputable def levS (t : Nat) (w o : Str) (tk : Nat → Tok) (Wt : Nat) : Spec :=
  mkSpec 380 1850 usTest (.cs 56 [.str w 0, .str o 0, .int 2 0] 0 [] []) (fun _ i => .int 2 (tk (Nat.add t i))) 39 Wt (fun _ _ => []) (fun _ _ tb => tb)
noncomputable def neS (a b : Int) (z : Bool) : Spec := cSpec "int.__ne__" [.int a 0, .int b 0] (fun _ _ => .bool z) 0 0 fun _ _ => []
noncomputable def ieS (a b : Int) (z : Bool) : Spec := cSpec "int.__eq__" [.int a 0, .int b 0] (fun _ _ => .bool z) 0 0 fun _ _ => []
/-- A turn: the word, its moves, how far each stands. -/
structure Tn where
  w : Str
  o : Nat → Str
  g : Int
  a : Addr
  q : Addr
  F : Int
  V : Nat → Int
  τ : Nat → Nat → Tok
  e : Nat
  W : Nat
  mWt : Nat
  lt : Nat → Nat → Tok
  lWt : Nat → Nat
noncomputable def Tn.vs (x : Tn) (three : Bool) (t : Nat) : List Value := .str (x.o 0) (x.τ 0 t) :: .str (x.o 1) (x.τ 1 t) :: cond three [.str (x.o 2) (x.τ 2 t)] []
noncomputable def tnSp (x : Tn) (three : Bool) (oc : Nat → Nat) (z : Bool) (n t : Nat) (j : Nat) : Option Spec := match j with
  | 0 => some (wayS t x.q x.a x.w x.g x.F)
  | 1 => some (movS n t x.w (x.vs three) x.e (cond three 98 93) x.mWt)
  | 2 => some (levS t x.w (x.o 0) (x.lt 0) (x.lWt 0))
  | 3 => some (wayS t x.q x.a (x.o 0) x.g (x.V 0))
  | 4 => some (levS t x.w (x.o 1) (x.lt 1) (x.lWt 1))
  | 5 => some (wayS t x.q x.a (x.o 1) x.g (x.V 1))
  | 6 => cond three (some (levS t x.w (x.o 2) (x.lt 2) (x.lWt 2))) none
  | 7 => cond three (some (wayS t x.q x.a (x.o 2) x.g (x.V 2))) none
  | 8 => some (biSpec "int.__sub__" [.int x.F 0, .int 1 0] (fun i => .int (x.F - 1) (Nat.add t i)) 1)
  | 9 => some (biSpec "int.__add__" [.int x.F 0, .int 1 0] (fun i => .int (x.F + 1) (Nat.add t i)) 1)
  | 10 => some (ieS (x.V 0) (x.F - 1) (Nat.beq (oc 0) 0))
  | 11 => some (neS (x.V 0) x.F (cond (Nat.beq (oc 0) 1) false true))
  | 12 => some (neS (x.V 0) (x.F + 1) (cond (Nat.beq (oc 0) 2) false true))
  | 13 => some (ieS (x.V 1) (x.F - 1) (Nat.beq (oc 1) 0))
  | 14 => some (neS (x.V 1) x.F (cond (Nat.beq (oc 1) 1) false true))
  | 15 => some (neS (x.V 1) (x.F + 1) (cond (Nat.beq (oc 1) 2) false true))
  | 16 => cond three (some (ieS (x.V 2) (x.F - 1) (Nat.beq (oc 2) 0))) none
  | 17 => cond three (some (neS (x.V 2) x.F (cond (Nat.beq (oc 2) 1) false true))) none
  | 18 => cond three (some (neS (x.V 2) (x.F + 1) (cond (Nat.beq (oc 2) 2) false true))) none
  | 19 => some (ieS x.F 0 z)
  | _ => none
noncomputable def encF (f : Flow) : Flow := f
noncomputable def lw1 (a : Addr) (i : Nat) : Option Addr := match i with
  | 0 => some a
  | _ => none
noncomputable def runTn (P P' : Params) (n t : Nat) (fa : Addr) (x : Tn) (three : Bool) (oc : Nat → Nat) (fr : Obj) (sl orc : List Nat) : Out :=
  runEnc (mkVL P P' n t noPa (tnSp x three oc false n t) 340 1800 1 (lw1 fa)) 500 sl orc encF (execsF (walkBody P) (walkEnv P fa)) (KT.put 16 .nil 0 fr) 1 ⟨tb3 x.q⟩
end Mine


set_option maxRecDepth 100000
set_option Elab.async false
set_option linter.unusedVariables false
set_option linter.unusedSectionVars false
namespace Mine
open PySem PySem.Calls PyProof.Rows PySem.W PySem.W.X
noncomputable def eraseEn : List DictEntry → List DictEntry
  | [] => []
  | ⟨_, k, v⟩ :: r => ⟨0, erase k, erase v⟩ :: eraseEn r
noncomputable def eraseFr : Obj → Obj
  | ⟨c, d, x, s⟩ => match x with
    | .dict es n => ⟨c, d, .dict ⟨eraseEn es.toList⟩ n, s⟩
    | x => ⟨c, d, x, s⟩
/-- A pattern: which move comes nearer, and whether the others keep (true) or grow (false). -/
noncomputable def ocOf (jn : Nat) (b b2 : Bool) (j : Nat) : Nat := match Nat.beq j jn with
  | true => 0
  | false => match Nat.beq j (match jn with | 0 => 1 | _ => 0) with
    | true => cond b 1 2
    | false => cond b2 1 2
noncomputable def slTn (three : Bool) (jn : Nat) (b b2 : Bool) : List Nat := match three, jn, b, b2 with
  | true, 0, true, true => (dc 30 22361611506195293946416350963710554515518453980615997785068105375271369904785941259540419306029384246243329 [])
  | true, 0, true, false => (dc 32 375165586347803274504418988857942221976721078781755130086052241054953678453407420772780273156635391086457243316225 [])
  | true, 0, false, true => (dc 32 375165586347523784722519546049980134586631984663374950251862262504675340601078085705631131192646662601695077347329 [])
  | true, 0, false, false => (dc 32 86906974581627348813948529944738640456820608557607210148281067727820914982976445676993590198534619670849269761 (dc 2 159744 []))
  | true, 1, true, true => (dc 30 22361611506195293946416350963710554515515399924157609626653865752468574034492596354838880169365395675820033 [])
  | true, 1, true, false => (dc 32 375165586347803274504418988857942221976721078778701073627664082640714055650611550479435368455096254422468672892929 [])
  | true, 1, false, true => (dc 32 375165586347523784722519546049980134586577215853975834750051262964167844379283080678302168201754467858691766890497 [])
  | true, 1, false, false => (dc 32 86906974581627348813948529944738640402051799158491708337281527220324693187971418348030599306339876667538812929 (dc 2 159744 []))
  | true, 2, true, true => (dc 30 22361611505903264468849039038383110141628085527447659276152156754380203382210400209471424143393318846345217 [])
  | true, 2, true, false => (dc 32 375165586342624343099005599339385729597888512804983850726661466647081614442750363231327582189702780647549884706817 [])
  | true, 2, false, true => (dc 32 375165586342624343099005599339385729597884982560463308370408382734095662857883782993104959083519324921997612298241 [])
  | true, 2, false, false => (dc 32 18923743823343568990249102710853226747627628224203247055436468736656710021496891690964794191984810889588737 (dc 2 159744 []))
  | false, 0, true, _ => (dc 22 282243217519012977107305141210060624756444923261546318387051174928314471034881 [])
  | false, 0, false, _ => (dc 24 4735255424854995068252855888244772387620332962247302508593784929647697151951500226561 [])
  | false, 1, true, _ => (dc 22 282243217515958920648916982795821001953649052968201413685512038264325900611585 [])
  | false, 1, false, _ => (dc 24 4735255424800226258853740386433772847112836740452297481264821938755502408948189769729 [])
  | _, _, _, _ => []
noncomputable def orcTn (three : Bool) (jn : Nat) (b b2 : Bool) : List Nat := match three, jn, b, b2 with
  | true, 0, true, true => (dc 32 9621985873476703279527714808114856469661921015058419363055762101194539111092529547068692860382963530965022937100 (dc 32 9621985873476703279527714808114856469661921015058419362448839977058560929237074833632918456221320507199744704513 (dc 32 9621979535139066963257541047546014259948739926430249208816861815532548984238010855180278232540616808746460446721 (dc 23 29650147930777031546860599315112697106004241788709438952734040201416977351021017 []))))
  | true, 0, true, false => (dc 32 9621985873476703279527714808114856469661921015058419363055762101194539111092529547068692860382963530965022937100 (dc 32 9621985873476703279527714808114856469661921015058419362448839977058560929237074833632918456221320507199744704513 (dc 32 9621979535139066963257541047546014259948739926430249208816861815532548984238010855180278232540616808746460446721 (dc 25 497446936266599306100494396599097783690008061405404618548832783011856135085187422752769 []))))
  | true, 0, false, true => (dc 32 9621985873476703279527714808114856469661921015058419363055762101194539111092529547068692860382963530965022937100 (dc 32 9621985873476703279527714808114856469661921015058419362448839977058560929237074833632918456221320507199744704513 (dc 32 9621979535148328602493257365418828466882447464911565437044147007241317631652739998001168657593185282650830602241 (dc 25 497446936266599306100494396599097783690008061405404618548832783011856135085187422752769 []))))
  | true, 0, false, false => (dc 32 9621985873476703279527714808114856469661921015058419363055762101194539111092529547068692860382963530965022937100 (dc 32 9621985873476703279527714808114856469661921015058419362448839977058560929237074833632918456221320507199744704513 (dc 32 9621979535148328602493257365418828466882447464911565437044147007241317631652739998001168657593185282650830602241 (dc 27 8345774698282970143898112198532728922088542287939736852791374148471040939249367792006520115201 []))))
  | true, 1, true, true => (dc 32 9621985873476703279527714808114856469661921015058419363055762101194539111092529547068692860382963530965022937100 (dc 32 740713891382302255472341292905679473533889214671394591680513712089623089666315160871655921633725574987775690735617 (dc 32 9621979535139066963257541047546014259948739926430249208816861815532548984238010855181748645324764322365564047437 (dc 23 29650147930777031546860599315112697106004241788709438952734040201416977351021017 []))))
  | true, 1, true, false => (dc 32 9621985873476703279527714808114856469661921015058419363055762101194539111092529547068692860382963530965022937100 (dc 32 740713891382302255472341292905679473533889214671394591680513712089623089666315160871655921633725574987775690735617 (dc 32 9621979535139066963257541047546014259948739926430249208816861815532548984238010855181748645324764322365564047437 (dc 25 497446936266599306100494396599097783690008061405404618548832783011856135085187422752769 []))))
  | true, 1, false, true => (dc 32 9621985873476703279527714808114856469661921015058419363055762101194539111092529547068692860382963530965022937100 (dc 32 9621979535148328602493257365418828466882447464911565437044147007241317631652739998001168657593185282650830602241 (dc 32 9621979535148328602493257365418828466882447464911565437044147007241317631652764667434057461805035944109398085633 (dc 25 497446936266599306100494396599097783690008061405404618548832783011856135085187422752769 []))))
  | true, 1, false, false => (dc 32 9621985873476703279527714808114856469661921015058419363055762101194539111092529547068692860382963530965022937100 (dc 32 9621979535148328602493257365418828466882447464911565437044147007241317631652739998001168657593185282650830602241 (dc 32 9621979535148328602493257365418828466882447464911565437044147007241317631652764667434057461805035944109398085633 (dc 27 8345774698282970143898112198532728922088542287939736852791374148471040939249367792006520115201 []))))
  | true, 2, true, true => (dc 32 9621985873476703279527714808114856469661921015058419363055762101194539111092529547068692860382963530965022937100 (dc 32 9621979535139066963257541047546014259948739926430249208816861815532548984238010855180278232540616808746460446721 (dc 32 740892424205705558768088151116208924946377422760594713600023646912640114249103704820370716913474661323071211540953 (dc 23 29650147930777031546860599315112697106004241788709438952734040201416977351021017 []))))
  | true, 2, true, false => (dc 32 9621985873476703279527714808114856469661921015058419363055762101194539111092529547068692860382963530965022937100 (dc 32 9621979535139066963257541047546014259948739926430249208816861815532548984238010855180278232540616808746460446721 (dc 32 740892380629234452316965072531478462171263349803634754157417102725489437127799353556569928251254385373930160394241 (dc 25 497446936266599306100494396599097783690008061405404618548832783011856135085187423064141 []))))
  | true, 2, false, true => (dc 32 9621985873476703279527714808114856469661921015058419363055762101194539111092529547068692860382963530965022937100 (dc 32 9621979535148328602493257365418828466882447464911565437044147007241317631652739998001168657593185282650830602241 (dc 32 740892380629234452316965072531478462171263349803634754157417102725489437127799353556569928251254385373930160394241 (dc 25 497446936266599306100494396599097783690008061405404618548832783011856135085187423064141 []))))
  | true, 2, false, false => (dc 32 9621985873476703279527714808114856469661921015058419363055762101194539111092529547068692860382963530965022937100 (dc 32 9621979535148328602493257365418828466882447464911565437044147007241317631652739998001168657593185282650830602241 (dc 32 9800512358544966984964075255720413944624673860714904562575731390879055824906694744213507642076040944374725480449 (dc 27 8345774698282970143898112198532728922088542287939736852791374148471040939249367797230475726925 []))))
  | false, 0, true, _ => (dc 32 9621985873476703279527714808114263469424905780202912732826060835404150670475831848336847056559192662176696373260 (dc 32 9621985873476703279527714808114263469424905780202912732249788622085490265787544075444078836069924420855090184193 (dc 31 2349126738831581126445420108109363931119853315228577248197490354304486795537689401124136599231254729107505153 [])))
  | false, 0, false, _ => (dc 32 9621985873476703279527714808114263469424905780202912732826060835404150670475831848336847056559192662176696373260 (dc 32 9621985873476703279527714808114263469424905780202912732249788622085490265787544075444078836069924420855090184193 (dc 32 9800512358544967619085264350536489927161687440483197746612927837182966386440612156016283923278900432850205605889 (dc 1 1 []))))
  | false, 1, true, _ => (dc 32 9621985873476703279527714808114263469424905780202912732826060835404150670475831848336847056559192662176696373260 (dc 32 740713891382302255472341292905679473533889214671394591680513704604907829376511642554463329040903387640468429930497 (dc 31 2349126738831581126445420108109363931119853315228577248197490354304486795537689402594549383378768348211105869 [])))
  | false, 1, false, _ => (dc 32 9621985873476703279527714808114263469424905780202912732826060835404150670475831848336847056559192662176696373260 (dc 32 9621979535148328602493257365418828466882447464911565311471462386863061407285243358471390770874944349754998456321 (dc 32 9800512358544967619085264350536489927161687440483197746612927837182966386440636825449172727490751094308773089281 (dc 1 1 []))))
  | _, _, _, _ => []
noncomputable def ccW (k : Nat) : Nat := match k with
  | 2 => 105
  | _ => 103
noncomputable def tnWt (x : Tn) (three : Bool) (oc : Nat → Nat) : Nat :=
  cond three ((((((((99 + x.mWt) + 2 + x.lWt 0) + ccW (oc 0)) + x.lWt 1) + ccW (oc 1)) + x.lWt 2) + ccW (oc 2)) + 4)
    ((((((99 + x.mWt) + 2 + x.lWt 0) + ccW (oc 0)) + x.lWt 1) + ccW (oc 1)) + 4)
noncomputable def lastM (three : Bool) : Nat := cond three 2 1
noncomputable def runTnP (P P' : Params) (n t : Nat) (fa : Addr) (x : Tn) (three : Bool) (jn : Nat) (b b2 : Bool) (fr : Obj) : Out :=
  runTn P P' n t fa x three (ocOf jn b b2) fr (slTn three jn b b2) (orcTn three jn b b2)
noncomputable def tnLook (T : KT) : Option Obj := (T.get 0).map eraseFr
noncomputable def tnWant (n t : Nat) (x : Tn) (three : Bool) (jn : Nat) (b b2 : Bool) (s : Int) : Result × Nat × Nat × List Value × Option Obj :=
  (.ok .next, cond three 292 230, tnWt x three (ocOf jn b b2), tb3 x.q,
    some (frW (fun _ => 0) (fun _ => 0) 8 [.str (x.o jn) 0, .int x.g 0, .ref x.a, .int s 0, .int x.F 0, .ref (Nat.add n 19), .str (x.o (lastM three)) 0, .int (x.V (lastM three)) 0]))
noncomputable abbrev TnRun (three : Bool) (jn : Nat) (b b2 f : Bool) : Prop := ∀ (P : Params) (y : Bool) (n t : Nat) (fa : Addr) (x : Tn) (H : Nat → Int) (k : Nat → Tok) (s : Int) (ts tg tw : Tok),
  (∀ v1 v2 v3 v4 : Value, resG tnLook (runTnP P (mkP P f y) n t fa x three jn b b2 (frW H k 8 [.str x.w tw, .int x.g tg, .ref x.a, .int s ts, v1, v2, v3, v4])) = dueG (runTnP P (mkP P f y) n t fa x three jn b b2 (frW H k 8 [.str x.w tw, .int x.g tg, .ref x.a, .int s ts, v1, v2, v3, v4])) (tnWant n t x three jn b b2 s)) ∧
  resG tnLook (runTnP P (mkP P f y) n t fa x three jn b b2 (frW H k 4 [.str x.w tw, .int x.g tg, .ref x.a, .int s ts])) = dueG (runTnP P (mkP P f y) n t fa x three jn b b2 (frW H k 4 [.str x.w tw, .int x.g tg, .ref x.a, .int s ts])) (tnWant n t x three jn b b2 s)
set_option maxHeartbeats 0
theorem tn30ttt : TnRun true 0 true true true := by
  intro P y n t fa x H k s ts tg tw
  exact ⟨fun v1 v2 v3 v4 => by kernel_rfl, by kernel_rfl⟩
theorem tn30ttf : TnRun true 0 true true false := by
  intro P y n t fa x H k s ts tg tw
  exact ⟨fun v1 v2 v3 v4 => by kernel_rfl, by kernel_rfl⟩
theorem tn30tft : TnRun true 0 true false true := by
  intro P y n t fa x H k s ts tg tw
  exact ⟨fun v1 v2 v3 v4 => by kernel_rfl, by kernel_rfl⟩
theorem tn30tff : TnRun true 0 true false false := by
  intro P y n t fa x H k s ts tg tw
  exact ⟨fun v1 v2 v3 v4 => by kernel_rfl, by kernel_rfl⟩
theorem tn30ftt : TnRun true 0 false true true := by
  intro P y n t fa x H k s ts tg tw
  exact ⟨fun v1 v2 v3 v4 => by kernel_rfl, by kernel_rfl⟩
theorem tn30ftf : TnRun true 0 false true false := by
  intro P y n t fa x H k s ts tg tw
  exact ⟨fun v1 v2 v3 v4 => by kernel_rfl, by kernel_rfl⟩
theorem tn30fft : TnRun true 0 false false true := by
  intro P y n t fa x H k s ts tg tw
  exact ⟨fun v1 v2 v3 v4 => by kernel_rfl, by kernel_rfl⟩
theorem tn30fff : TnRun true 0 false false false := by
  intro P y n t fa x H k s ts tg tw
  exact ⟨fun v1 v2 v3 v4 => by kernel_rfl, by kernel_rfl⟩
theorem tn31ttt : TnRun true 1 true true true := by
  intro P y n t fa x H k s ts tg tw
  exact ⟨fun v1 v2 v3 v4 => by kernel_rfl, by kernel_rfl⟩
theorem tn31ttf : TnRun true 1 true true false := by
  intro P y n t fa x H k s ts tg tw
  exact ⟨fun v1 v2 v3 v4 => by kernel_rfl, by kernel_rfl⟩
theorem tn31tft : TnRun true 1 true false true := by
  intro P y n t fa x H k s ts tg tw
  exact ⟨fun v1 v2 v3 v4 => by kernel_rfl, by kernel_rfl⟩
theorem tn31tff : TnRun true 1 true false false := by
  intro P y n t fa x H k s ts tg tw
  exact ⟨fun v1 v2 v3 v4 => by kernel_rfl, by kernel_rfl⟩
theorem tn31ftt : TnRun true 1 false true true := by
  intro P y n t fa x H k s ts tg tw
  exact ⟨fun v1 v2 v3 v4 => by kernel_rfl, by kernel_rfl⟩
theorem tn31ftf : TnRun true 1 false true false := by
  intro P y n t fa x H k s ts tg tw
  exact ⟨fun v1 v2 v3 v4 => by kernel_rfl, by kernel_rfl⟩
theorem tn31fft : TnRun true 1 false false true := by
  intro P y n t fa x H k s ts tg tw
  exact ⟨fun v1 v2 v3 v4 => by kernel_rfl, by kernel_rfl⟩
theorem tn31fff : TnRun true 1 false false false := by
  intro P y n t fa x H k s ts tg tw
  exact ⟨fun v1 v2 v3 v4 => by kernel_rfl, by kernel_rfl⟩
theorem tn32ttt : TnRun true 2 true true true := by
  intro P y n t fa x H k s ts tg tw
  exact ⟨fun v1 v2 v3 v4 => by kernel_rfl, by kernel_rfl⟩
theorem tn32ttf : TnRun true 2 true true false := by
  intro P y n t fa x H k s ts tg tw
  exact ⟨fun v1 v2 v3 v4 => by kernel_rfl, by kernel_rfl⟩
theorem tn32tft : TnRun true 2 true false true := by
  intro P y n t fa x H k s ts tg tw
  exact ⟨fun v1 v2 v3 v4 => by kernel_rfl, by kernel_rfl⟩
theorem tn32tff : TnRun true 2 true false false := by
  intro P y n t fa x H k s ts tg tw
  exact ⟨fun v1 v2 v3 v4 => by kernel_rfl, by kernel_rfl⟩
theorem tn32ftt : TnRun true 2 false true true := by
  intro P y n t fa x H k s ts tg tw
  exact ⟨fun v1 v2 v3 v4 => by kernel_rfl, by kernel_rfl⟩
theorem tn32ftf : TnRun true 2 false true false := by
  intro P y n t fa x H k s ts tg tw
  exact ⟨fun v1 v2 v3 v4 => by kernel_rfl, by kernel_rfl⟩
theorem tn32fft : TnRun true 2 false false true := by
  intro P y n t fa x H k s ts tg tw
  exact ⟨fun v1 v2 v3 v4 => by kernel_rfl, by kernel_rfl⟩
theorem tn32fff : TnRun true 2 false false false := by
  intro P y n t fa x H k s ts tg tw
  exact ⟨fun v1 v2 v3 v4 => by kernel_rfl, by kernel_rfl⟩
theorem tn20t_t (b2 : Bool) : TnRun false 0 true b2 true := by
  intro P y n t fa x H k s ts tg tw
  exact ⟨fun v1 v2 v3 v4 => by kernel_rfl, by kernel_rfl⟩
theorem tn20t_f (b2 : Bool) : TnRun false 0 true b2 false := by
  intro P y n t fa x H k s ts tg tw
  exact ⟨fun v1 v2 v3 v4 => by kernel_rfl, by kernel_rfl⟩
theorem tn20f_t (b2 : Bool) : TnRun false 0 false b2 true := by
  intro P y n t fa x H k s ts tg tw
  exact ⟨fun v1 v2 v3 v4 => by kernel_rfl, by kernel_rfl⟩
theorem tn20f_f (b2 : Bool) : TnRun false 0 false b2 false := by
  intro P y n t fa x H k s ts tg tw
  exact ⟨fun v1 v2 v3 v4 => by kernel_rfl, by kernel_rfl⟩
theorem tn21t_t (b2 : Bool) : TnRun false 1 true b2 true := by
  intro P y n t fa x H k s ts tg tw
  exact ⟨fun v1 v2 v3 v4 => by kernel_rfl, by kernel_rfl⟩
theorem tn21t_f (b2 : Bool) : TnRun false 1 true b2 false := by
  intro P y n t fa x H k s ts tg tw
  exact ⟨fun v1 v2 v3 v4 => by kernel_rfl, by kernel_rfl⟩
theorem tn21f_t (b2 : Bool) : TnRun false 1 false b2 true := by
  intro P y n t fa x H k s ts tg tw
  exact ⟨fun v1 v2 v3 v4 => by kernel_rfl, by kernel_rfl⟩
theorem tn21f_f (b2 : Bool) : TnRun false 1 false b2 false := by
  intro P y n t fa x H k s ts tg tw
  exact ⟨fun v1 v2 v3 v4 => by kernel_rfl, by kernel_rfl⟩
theorem tn_run (three : Bool) (jn : Nat) (hj : jn < cond three 3 2) (b b2 f : Bool) : TnRun three jn b b2 f := by
  match three, jn, hj, b, b2, f with
  | true, 0, _, true, true, true => exact tn30ttt
  | true, 0, _, true, true, false => exact tn30ttf
  | true, 0, _, true, false, true => exact tn30tft
  | true, 0, _, true, false, false => exact tn30tff
  | true, 0, _, false, true, true => exact tn30ftt
  | true, 0, _, false, true, false => exact tn30ftf
  | true, 0, _, false, false, true => exact tn30fft
  | true, 0, _, false, false, false => exact tn30fff
  | true, 1, _, true, true, true => exact tn31ttt
  | true, 1, _, true, true, false => exact tn31ttf
  | true, 1, _, true, false, true => exact tn31tft
  | true, 1, _, true, false, false => exact tn31tff
  | true, 1, _, false, true, true => exact tn31ftt
  | true, 1, _, false, true, false => exact tn31ftf
  | true, 1, _, false, false, true => exact tn31fft
  | true, 1, _, false, false, false => exact tn31fff
  | true, 2, _, true, true, true => exact tn32ttt
  | true, 2, _, true, true, false => exact tn32ttf
  | true, 2, _, true, false, true => exact tn32tft
  | true, 2, _, true, false, false => exact tn32tff
  | true, 2, _, false, true, true => exact tn32ftt
  | true, 2, _, false, true, false => exact tn32ftf
  | true, 2, _, false, false, true => exact tn32fft
  | true, 2, _, false, false, false => exact tn32fff
  | false, 0, _, true, b2, true => exact tn20t_t b2
  | false, 0, _, true, b2, false => exact tn20t_f b2
  | false, 0, _, false, b2, true => exact tn20f_t b2
  | false, 0, _, false, b2, false => exact tn20f_f b2
  | false, 1, _, true, b2, true => exact tn21t_t b2
  | false, 1, _, true, b2, false => exact tn21t_f b2
  | false, 1, _, false, b2, true => exact tn21f_t b2
  | false, 1, _, false, b2, false => exact tn21f_f b2
end Mine


set_option maxRecDepth 100000
set_option Elab.async false
set_option linter.unusedVariables false
set_option linter.unusedSectionVars false
namespace Mine
open PySem PySem.Calls PyProof.Rows PySem.W PySem.W.X
/-- The text's own objects stand below 87. -/
noncomputable abbrev TopLow (P : Params) : Prop := ∀ a o, (KTop P).get a = some o → a ≠ 16 → a < 87
structure Away (P : Params) (fa : Addr) (pa : Nat → Option (Addr × Obj)) : Prop where
  top : TopLow P
  high : 87 ≤ fa
  par : ∀ j a o, pa j = some (a, o) → a ≠ fa
theorem lw1_ne {fa b : Addr} (h : b ≠ fa) : ∀ i, lw1 fa i ≠ some b := by
  intro i
  match i with
  | 0 => intro q; exact h (Option.some.inj q).symm
  | _ + 1 => exact nofun
section
variable {P P' : Params} {h₀ h : Heap} {n m t D U : Nat} {T : KT} {tb₀ tb : Array Value} {pa pa' : Nat → Option (Addr × Obj)} {sp : Nat → Option Spec} {fa : Addr}
theorem Away.keepTop (W : Away P fa pa') {a : Addr} {o : Obj} (e : (KTop P).get a = some o) (q : a ≠ 16) : a ≠ fa := fun z => by
  have h1 : (a : Nat) < 87 := W.top a o e q
  exact absurd (Nat.lt_of_lt_of_le h1 (z ▸ W.high)) (Nat.lt_irrefl _)
theorem Stand.goL (S : Stand P h₀ (n + 1) tb₀ pa') (W : Away P fa pa') (R : Rep (mkVL P P' n t pa sp D U 1 (lw1 fa)) h₀ h T m tb) : Stand P h (n + m) tb pa' :=
  ⟨⟨fun a o e q => R.keep a o (S.inv.top a o e q) q (lw1_ne (W.keepTop e q)), R.tab⟩, R.size, fun j a o e => ⟨(S.par j a o e).1, R.keep a o (S.par j a o e).2 (S.par j a o e).1 (lw1_ne (W.par j a o e))⟩⟩
theorem adrL_plain : ∀ j, (mkVL P P' n t pa sp D U 1 (lw1 fa)).L ≤ j → adr (mkVL P P' n t pa sp D U 1 (lw1 fa)) j = n + j := by
  intro j hj
  match j, hj with
  | j + 1, _ => rfl
theorem adrL_no16 (S : Stand P h₀ (n + 1) tb₀ pa') (W : Away P fa pa') : ∀ j, adr (mkVL P P' n t pa sp D U 1 (lw1 fa)) j ≠ 16 := by
  intro j
  match j with
  | 0 =>
    intro q
    exact absurd (q ▸ W.high : (87 : Nat) ≤ 16) (by decide)
  | j + 1 =>
    intro q
    have q' : n + (j + 1) = 16 := q
    have := S.low
    omega
theorem Stand.hypL {w : World} {A : Around} {o : Obj} (S : Stand P h (n + 1) tb pa) (W : Away P fa pa) (hf : h.get? fa = some o) (hP : P' = w.params) (hd : A.depth ≤ D) (hu : A.units ≤ U) (hh : A.handled = none) :
    Hyp (mkVL P P' n t pa sp D U 1 (lw1 fa)) w h A :=
  { den := denF_eq.symm, ent := entF_eq.symm, quiet := quietF_eq.symm, P := hP, size := S.size,
    lwL := fun i a e => by
      match i, e with
      | 0, e =>
        cases e
        refine ⟨Nat.zero_lt_one, ?_, ?_⟩
        · have := Heap.lt_size hf
          rw [S.size] at this
          exact this
        · intro q
          exact absurd (q ▸ W.high : (87 : Nat) ≤ 16) (by decide)
    lwN := fun i hi => by
      have : i = 0 := Nat.lt_one_iff.mp hi
      subst this
      exact nofun
    inj := fun i j a e e' => by
      match i, j, e, e' with
      | 0, 0, _, _ => rfl
    topL := fun a o i e q => lw1_ne (W.keepTop e q) i
    parL := fun j a o i e => lw1_ne (W.par j a o e) i
    top := S.inv.top, par := S.par, tab := ⟨tb, S.inv.tab⟩, depth := hd, units := hu, handled := hh }
theorem repL {w : World} {A : Around} {o : Obj} (O : Hyp (mkVL P P' n t pa sp D U 1 (lw1 fa)) w h A) (S : Stand P h (n + 1) tb pa) (hf : h.get? fa = some o) :
    Rep (mkVL P P' n t pa sp D U 1 (lw1 fa)) h h (KT.put 16 .nil 0 o) 1 tb := by
  refine ⟨S.size, fun j o' e => ?_, fun _ _ e _ _ => e, Nat.le_refl 1, S.inv.tab, fun tb₀ e => ⟨#[], ?_⟩⟩
  · rw [put_get o 16 _ 0 j (by decide)] at e
    by_cases hj : j = 0
    · subst hj
      rw [if_pos rfl] at e
      cases e
      exact ⟨Nat.zero_lt_one, hf⟩
    · rw [if_neg hj] at e
      cases e
  · have e' := S.inv.tab
    rw [e'] at e
    have e1 := Option.some.inj e
    unfold tableObj at e1
    injection e1 with _ _ e2 _
    have e3 : tb = tb₀ := Data.fields.inj e2
    rw [e3]; simp
end
end Mine


set_option maxRecDepth 100000
set_option Elab.async false
set_option linter.unusedVariables false
set_option linter.unusedSectionVars false
namespace Mine
open PySem PySem.Calls PyProof.Rows PySem.W PySem.W.X
theorem wtTest_is {f : Nat} {c : Code} {T : KT} {tb : Array Value} {args : List Value} {l : List Value} (h : wtTest c T tb = some (.cs f args 0 [] l)) :
    ∃ vs, c = .call (.ref f) ⟨vs, []⟩ ∧ vs.map erase = args ∧ tb.toList = l := by
  unfold wtTest at h
  split at h
  · rename_i f a
    split at h
    · rename_i b
      simp only [Option.some.injEq, Ob.cs.injEq, true_and] at h
      obtain ⟨h1, h2, h3, h4⟩ := h
      subst h1
      obtain ⟨pos, kw⟩ := a
      have : kw = [] := List.length_eq_zero_iff.mp h3
      subst this
      exact ⟨pos, rfl, h2, h4⟩
    · cases h
  · cases h
section
variable {P : Params} {f y : Bool} {h₀ : Heap} {n t D U : Nat} {tb₀ : Array Value} {pa : Nat → Option (Addr × Obj)} {sp : Nat → Option Spec} {w : World} {gens : Array GenState} {d : Drawn} {os : OsState} {fa : Addr} {X : Th} {q : Addr} {c0 : Value} {tk : Tok} {rest : List Value} {sl : Array (Option Value)}
theorem wayS_ok {p : Nat → Nat} {g : Nat} (S : Stand P h₀ (n + 1) tb₀ (X.pa q (codeO c0 tk rest sl))) (W : Away P fa (X.pa q (codeO c0 tk rest sl))) (hP : mkP P f y = w.params) (hp : ∀ k, p k < 3) (hg : g < 3) :
    SpecOk (mkVL P (mkP P f y) n t pa sp D U 1 (lw1 fa)) w h₀ gens d os (wayS t q X.a (wordS p) (g : Nat) (wayV p g)) := by
  refine spec_okL (V := mkVL P (mkP P f y) n t pa sp D U 1 (lw1 fa)) adrL_plain (adrL_no16 S W) fun c T m i tb h A R ht Dp h1 h2 h3 hR => ?_
  obtain ⟨vs, rfl, hv, htb⟩ := wtTest_is ht
  obtain ⟨u, v, x, rfl, eu, ev, ex⟩ := map_three hv
  obtain ⟨t1, rfl⟩ := erase_str eu
  obtain ⟨t2, rfl⟩ := erase_int ev
  have ex' := erase_ref ex
  subst ex'
  have htb' : tb = ⟨tb3 q⟩ := Array.ext' htb
  subst htb'
  exact wayB_go (t := t + i) (S.goL W Dp) hP hp hg h1 h2 h3 t1 t2 fun h' F => hR h' F
theorem movS_ok {p : Nat → Nat} {pa' : Nat → Option (Addr × Obj)} (S : Stand P h₀ (n + 1) tb₀ pa') (W : Away P fa pa') (hP : mkP P f y = w.params) (hp : ∀ k, p k < 3) :
    SpecOk (mkVL P (mkP P f y) n t pa sp D U 1 (lw1 fa)) w h₀ gens d os (movS n t (wordS p) (fun t => mvL (lett (p 0)) (lett (p 1)) (lett (p 2)) (lett (p 3)) (p 3) t (pat (p 0) (p 1) (p 2) (p 3))) (mvE (pat (p 0) (p 1) (p 2) (p 3))) (mvW (pat (p 0) (p 1) (p 2) (p 3))) (mvWt (pat (p 0) (p 1) (p 2) (p 3)))) := by
  refine spec_okL (V := mkVL P (mkP P f y) n t pa sp D U 1 (lw1 fa)) adrL_plain (adrL_no16 S W) fun c T m i tb h A R ht Dp h1 h2 h3 hR => ?_
  obtain ⟨vs, rfl, hv⟩ := usTest_is ht
  obtain ⟨u, rfl, eu⟩ := map_one hv
  obtain ⟨t1, rfl⟩ := erase_str eu
  exact mov_go (t := t + i) (S.goL W Dp) hP hp h1 h2 h3 t1 fun h' F => hR h' F
theorem levS_ok {p : Nat → Nat} {r e : Nat} {pa' : Nat → Option (Addr × Obj)} (S : Stand P h₀ (n + 1) tb₀ pa') (W : Away P fa pa') (hP : mkP P f y = w.params) (hp : ∀ k, p k < 3) (hr : r < 3) (he : e < 4) (hne : p e ≠ r) :
    SpecOk (mkVL P (mkP P f y) n t pa sp D U 1 (lw1 fa)) w h₀ gens d os (levS t (wordS p) (strL (ot4 (lett (p 0)) (lett (p 1)) (lett (p 2)) (lett (p 3)) (lett r) e)) (fun t => lvTok t e) (lvWt e)) := by
  refine spec_okL (V := mkVL P (mkP P f y) n t pa sp D U 1 (lw1 fa)) adrL_plain (adrL_no16 S W) fun c T m i tb h A R ht Dp h1 h2 h3 hR => ?_
  obtain ⟨vs, rfl, hv⟩ := usTest_is ht
  obtain ⟨u, v, x, rfl, eu, ev, ex⟩ := map_three hv
  obtain ⟨t1, rfl⟩ := erase_str eu
  obtain ⟨t2, rfl⟩ := erase_str ev
  obtain ⟨t3, rfl⟩ := erase_int ex
  exact lev_go (t := t + i) (S.goL W Dp) hP hp hr he hne h1 h2 h3 t1 t2 t3 fun h' F => hR h' F
theorem ieS_ok {a b : Int} {z : Bool} {pa' : Nat → Option (Addr × Obj)} (S : Stand P h₀ (n + 1) tb₀ pa') (W : Away P fa pa') (hz : (a == b) = z) : SpecOk (mkVL P (mkP P f y) n t pa sp D U 1 (lw1 fa)) w h₀ gens d os (ieS a b z) := by
  subst hz
  exact bi_bool (V := mkVL P (mkP P f y) n t pa sp D U 1 (lw1 fa)) adrL_plain (adrL_no16 S W) F.slot_int_eq F.entry_int_eq F.args_int_eq_2 fun t u => AutoIntG7.int___eq___int_int_0 a t b u
theorem neS_ok {a b : Int} {z : Bool} {pa' : Nat → Option (Addr × Obj)} (S : Stand P h₀ (n + 1) tb₀ pa') (W : Away P fa pa') (hz : (a != b) = z) : SpecOk (mkVL P (mkP P f y) n t pa sp D U 1 (lw1 fa)) w h₀ gens d os (neS a b z) := by
  subst hz
  exact bi_bool (V := mkVL P (mkP P f y) n t pa sp D U 1 (lw1 fa)) adrL_plain (adrL_no16 S W) F.slot_int_ne F.entry_int_ne F.args_int_ne_2 fun t u => AutoIntG6.int___ne___int_int_0 a t b u
theorem addL_ok {a b : Int} {pa' : Nat → Option (Addr × Obj)} (S : Stand P h₀ (n + 1) tb₀ pa') (W : Away P fa pa') : SpecOk (mkVL P (mkP P f y) n t pa sp D U 1 (lw1 fa)) w h₀ gens d os (biSpec addI [.int a 0, .int b 0] (fun i => .int (a + b) (Nat.add t i)) 1) :=
  bi_int (V := mkVL P (mkP P f y) n t pa sp D U 1 (lw1 fa)) adrL_plain (adrL_no16 S W) F.slot_int_add F.entry_int_add F.args_int_add_2 fun t u => AutoIntG4.int___add___int_int_0 a t b u
theorem subL_ok {a b : Int} {pa' : Nat → Option (Addr × Obj)} (S : Stand P h₀ (n + 1) tb₀ pa') (W : Away P fa pa') : SpecOk (mkVL P (mkP P f y) n t pa sp D U 1 (lw1 fa)) w h₀ gens d os (biSpec "int.__sub__" [.int a 0, .int b 0] (fun i => .int (a - b) (Nat.add t i)) 1) :=
  bi_int (V := mkVL P (mkP P f y) n t pa sp D U 1 (lw1 fa)) adrL_plain (adrL_no16 S W) F.slot_int_sub F.entry_int_sub F.args_int_sub_2 fun t u => AutoIntG9.int___sub___int_int_0 a t b u
end
end Mine


set_option maxRecDepth 100000
set_option Elab.async false
set_option linter.unusedVariables false
namespace Mine
open PySem PySem.Calls PyProof.Rows PySem.W PySem.W.X
/-! The plain law of the tower. -/
noncomputable def mk4 (a b c e : Nat) (k : Nat) : Nat := match k with
  | 0 => a
  | 1 => b
  | 2 => c
  | _ => e
noncomputable def up4 (a b c e d r : Nat) : Nat → Nat := match d with
  | 0 => mk4 r b c e
  | 1 => mk4 a r c e
  | 2 => mk4 a b r e
  | _ => mk4 a b c r
/-- The j-th move: place and peg. -/
noncomputable def mvD (k j : Nat) : Nat := match j with
  | 0 => 3
  | 1 => 3
  | _ => match k with
    | 1 => 2
    | 2 => 2
    | 3 => 1
    | 4 => 1
    | _ => 0
noncomputable def mvR (e k j : Nat) : Nat := match j with
  | 0 => oth e 0
  | 1 => oth e 1
  | _ => match k with
    | 1 => oth e 1
    | 2 => oth e 0
    | 3 => oth e 1
    | 4 => oth e 0
    | 5 => oth e 1
    | _ => oth e 0
noncomputable def nxt (a b c e j : Nat) : Nat → Nat := up4 a b c e (mvD (pat a b c e) j) (mvR e (pat a b c e) j)
/-- 0 nearer, 1 same, 2 farther, 3 none of them. -/
noncomputable def kindOf (F v : Int) : Nat := if v == F - 1 then 0 else if v == F then 1 else if v == F + 1 then 2 else 3
noncomputable def turnOk (a b c e g : Nat) : Bool :=
  let F := wayV (mk4 a b c e) g
  let k := pat a b c e
  let v := fun j => kindOf F (wayV (nxt a b c e j) g)
  if F == 0 then (k == 0) && ((v 0 == 2) && ((v 1 == 2) && ((a == g) && ((b == g) && ((c == g) && (e == g)))))) else
  decide (0 < F) && (decide (F < 16) && (if k == 0 then (v 0 == 0 && (v 1 == 1 || v 1 == 2)) || (v 1 == 0 && (v 0 == 1 || v 0 == 2)) else
    (v 0 == 0 && ((v 1 == 1 || v 1 == 2) && (v 2 == 1 || v 2 == 2))) || ((v 1 == 0 && ((v 0 == 1 || v 0 == 2) && (v 2 == 1 || v 2 == 2))) || (v 2 == 0 && ((v 0 == 1 || v 0 == 2) && (v 1 == 1 || v 1 == 2))))))
theorem turn_all : ∀ a < 3, ∀ b < 3, ∀ c < 3, ∀ e < 3, ∀ g < 3, turnOk a b c e g = true := by decide +kernel
end Mine


set_option maxRecDepth 100000
set_option Elab.async false
set_option linter.unusedVariables false
set_option linter.unusedSectionVars false
namespace Mine
open PySem PySem.Calls PyProof.Rows PySem.W PySem.W.X
noncomputable def nxK (a b c e k j : Nat) : Nat → Nat := up4 a b c e (mvD k j) (mvR e k j)
noncomputable def mvTok (k j t : Nat) : Nat := match j with
  | 0 => t + 105
  | 1 => t + 109
  | _ => match k with
    | 1 => t + 169
    | 2 => t + 196
    | 3 => t + 229
    | 4 => t + 257
    | 5 => t + 289
    | _ => t + 317
noncomputable def three (k : Nat) : Bool := match k with
  | 0 => false
  | _ => true
noncomputable def tnOf (X : Th) (q : Addr) (a b c e g k : Nat) : Tn where
  w := wordS (mk4 a b c e)
  o j := wordS (nxK a b c e k j)
  g := (g : Nat)
  a := X.a
  q := q
  F := wayV (mk4 a b c e) g
  V j := wayV (nxK a b c e k j) g
  τ j t := mvTok k j t
  e := mvE k
  W := mvW k
  mWt := mvWt k
  lt j t := lvTok t (mvD k j)
  lWt j := lvWt (mvD k j)
theorem vs_eq (X : Th) (q : Addr) (a b c e g k t : Nat) (hk : k < 7) : mvL (lett a) (lett b) (lett c) (lett e) e t k = (tnOf X q a b c e g k).vs (three k) t := by
  rcases lt7 hk with rfl | rfl | rfl | rfl | rfl | rfl | rfl <;> rfl
theorem W_eq (k : Nat) : cond (three k) 98 93 = mvW k := by
  match k with
  | 0 => rfl
  | _ + 1 => rfl
theorem word_up (a b c e d r : Nat) (hd : d < 4) : strL (ot4 (lett a) (lett b) (lett c) (lett e) (lett r) d) = wordS (up4 a b c e d r) := by
  match d, hd with
  | 0, _ => rfl
  | 1, _ => rfl
  | 2, _ => rfl
  | 3, _ => rfl
theorem mvD_lt (k j : Nat) : mvD k j < 4 := by
  unfold mvD
  split <;> (try split) <;> decide
theorem mk4_lt {a b c e : Nat} (ha : a < 3) (hb : b < 3) (hc : c < 3) (he : e < 3) : ∀ k, mk4 a b c e k < 3 := by
  intro k
  match k with
  | 0 => exact ha
  | 1 => exact hb
  | 2 => exact hc
  | _ + 3 => exact he
theorem oth_lt : ∀ e < 3, ∀ j, oth e j < 3 := by
  intro e he j
  match e, he with
  | 0, _ => match j with
    | 0 => decide
    | _ + 1 => show 2 < 3; decide
  | 1, _ => match j with
    | 0 => decide
    | _ + 1 => show 2 < 3; decide
  | 2, _ => match j with
    | 0 => decide
    | _ + 1 => show 1 < 3; decide
theorem mvR_lt {e k j : Nat} (he : e < 3) : mvR e k j < 3 := by
  unfold mvR
  split <;> (try split) <;> exact oth_lt e he _
/-- Each move sets one disc upon another peg. -/
noncomputable def movOk (a b c e : Nat) : Bool :=
  let k := pat a b c e
  (mk4 a b c e (mvD k 0) != mvR e k 0) && ((mk4 a b c e (mvD k 1) != mvR e k 1) && (mk4 a b c e (mvD k 2) != mvR e k 2))
theorem mov_all : ∀ a < 3, ∀ b < 3, ∀ c < 3, ∀ e < 3, movOk a b c e = true := by decide +kernel
end Mine


set_option maxRecDepth 100000
set_option Elab.async false
set_option linter.unusedVariables false
set_option linter.unusedSectionVars false
namespace Mine
open PySem PySem.Calls PyProof.Rows PySem.W PySem.W.X
theorem kind_facts {F v : Int} {o : Nat} (h : kindOf F v = o) (ho : o < 3) :
    (v == F - 1) = Nat.beq o 0 ∧ (v != F) = cond (Nat.beq o 1) false true ∧ (v != F + 1) = cond (Nat.beq o 2) false true := by
  subst h
  unfold kindOf at ho ⊢
  by_cases h0 : v = F - 1
  · subst h0
    have e1 : (F - 1 == F - 1) = true := by simp
    have e2 : (F - 1 != F) = true := by simp; omega
    have e3 : (F - 1 != F + 1) = true := by simp; omega
    rw [e1, e2, e3]; exact ⟨rfl, rfl, rfl⟩
  · have e1 : (v == F - 1) = false := by simpa using h0
    by_cases h1 : v = F
    · subst h1
      have e2 : (v == v) = true := by simp
      have e4 : (v != v) = false := by simp
      have e3 : (v != v + 1) = true := by simp; omega
      rw [e1, e2, e3, e4]; exact ⟨rfl, rfl, rfl⟩
    · have e2 : (v == F) = false := by simpa using h1
      have e5 : (v != F) = true := by simpa using h1
      by_cases h2 : v = F + 1
      · have e3 : (v == F + 1) = true := by simpa using h2
        have e4 : (v != F + 1) = false := by simpa using h2
        rw [e1, e2, e3, e4, e5]; exact ⟨rfl, rfl, rfl⟩
      · have e3 : (v == F + 1) = false := by simpa using h2
        rw [e1, e2, e3] at ho
        exact absurd ho (by decide)
section
variable {P : Params} {f y : Bool} {h₀ : Heap} {n t D U : Nat} {tb₀ : Array Value} {pa : Nat → Option (Addr × Obj)} {sp : Nat → Option Spec} {w : World} {gens : Array GenState} {d : Drawn} {os : OsState} {fa : Addr} {X : Th} {q : Addr} {c0 : Value} {tk : Tok} {rest : List Value} {sl : Array (Option Value)}
theorem up4_lt {a b c e dd r : Nat} (ha : a < 3) (hb : b < 3) (hc : c < 3) (he : e < 3) (hr : r < 3) : ∀ i, up4 a b c e dd r i < 3 := by
  intro i
  unfold up4
  split <;> exact mk4_lt (by assumption) (by assumption) (by assumption) (by assumption) i
theorem tn_sp {a b c e g : Nat} {oc : Nat → Nat} {z : Bool} (S : Stand P h₀ (n + 1) tb₀ (X.pa q (codeO c0 tk rest sl))) (W : Away P fa (X.pa q (codeO c0 tk rest sl))) (hP : mkP P f y = w.params)
    (ha : a < 3) (hb : b < 3) (hc : c < 3) (he : e < 3) (hg : g < 3)
    (hoc : ∀ j, j < 2 ∨ (j = 2 ∧ three (pat a b c e) = true) → oc j < 3 ∧ kindOf (wayV (mk4 a b c e) g) (wayV (nxK a b c e (pat a b c e) j) g) = oc j)
    (hz : (wayV (mk4 a b c e) g == 0) = z) :
    ∀ j Z, tnSp (tnOf X q a b c e g (pat a b c e)) (three (pat a b c e)) oc z n t j = some Z → SpecOk (mkVL P (mkP P f y) n t pa sp D U 1 (lw1 fa)) w h₀ gens d os Z := by
  have hw := mk4_lt ha hb hc he
  have hk := pat_lt a b c e
  have hm := mov_all a ha b hb c hc e he
  simp only [movOk, Bool.and_eq_true, bne_iff_ne] at hm
  obtain ⟨m0, m1, m2⟩ := hm
  have wy : ∀ j, SpecOk (mkVL P (mkP P f y) n t pa sp D U 1 (lw1 fa)) w h₀ gens d os (wayS t q X.a (wordS (nxK a b c e (pat a b c e) j)) (g : Nat) (wayV (nxK a b c e (pat a b c e) j) g)) :=
    fun j => wayS_ok S W hP (up4_lt ha hb hc he (mvR_lt he)) hg
  have lv : ∀ j, mk4 a b c e (mvD (pat a b c e) j) ≠ mvR e (pat a b c e) j → SpecOk (mkVL P (mkP P f y) n t pa sp D U 1 (lw1 fa)) w h₀ gens d os (levS t (wordS (mk4 a b c e)) (wordS (nxK a b c e (pat a b c e) j)) (fun t => lvTok t (mvD (pat a b c e) j)) (lvWt (mvD (pat a b c e) j))) := fun j hne => by
    have z := levS_ok (t := t) (pa := pa) (sp := sp) (D := D) (U := U) (gens := gens) (d := d) (os := os) S W hP hw (mvR_lt (k := pat a b c e) (j := j) he) (mvD_lt (pat a b c e) j) hne
    have e1 := word_up a b c e (mvD (pat a b c e) j) (mvR e (pat a b c e) j) (mvD_lt _ _)
    have z' : SpecOk (mkVL P (mkP P f y) n t pa sp D U 1 (lw1 fa)) w h₀ gens d os (levS t (wordS (mk4 a b c e)) (strL (ot4 (lett a) (lett b) (lett c) (lett e) (lett (mvR e (pat a b c e) j)) (mvD (pat a b c e) j))) (fun t => lvTok t (mvD (pat a b c e) j)) (lvWt (mvD (pat a b c e) j))) := z
    rw [e1] at z'
    exact z'
  have kf : ∀ j, j < 2 ∨ (j = 2 ∧ three (pat a b c e) = true) → _ := fun j hj => kind_facts (hoc j hj).2 (hoc j hj).1
  intro j Z e'
  match j, e' with
  | 0, e' => cases e'; exact wayS_ok S W hP hw hg
  | 1, e' =>
    cases e'
    have z := movS_ok (t := t) (pa := pa) (sp := sp) (D := D) (U := U) (gens := gens) (d := d) (os := os) S W hP hw
    have e2 : (fun t => mvL (lett a) (lett b) (lett c) (lett e) e t (pat a b c e)) = (tnOf X q a b c e g (pat a b c e)).vs (three (pat a b c e)) := funext fun t => vs_eq X q a b c e g _ t hk
    have z' : SpecOk (mkVL P (mkP P f y) n t pa sp D U 1 (lw1 fa)) w h₀ gens d os (movS n t (wordS (mk4 a b c e)) (fun t => mvL (lett a) (lett b) (lett c) (lett e) e t (pat a b c e)) (mvE (pat a b c e)) (mvW (pat a b c e)) (mvWt (pat a b c e))) := z
    rw [e2, ← W_eq] at z'
    exact z'
  | 2, e' => cases e'; exact lv 0 m0
  | 3, e' => cases e'; exact wy 0
  | 4, e' => cases e'; exact lv 1 m1
  | 5, e' => cases e'; exact wy 1
  | 6, e' =>
    cases h3 : three (pat a b c e) with
    | false => rw [h3] at e'; cases e'
    | true => rw [h3] at e'; cases e'; exact lv 2 m2
  | 7, e' =>
    cases h3 : three (pat a b c e) with
    | false => rw [h3] at e'; cases e'
    | true => rw [h3] at e'; cases e'; exact wy 2
  | 8, e' => cases e'; exact subL_ok S W
  | 9, e' => cases e'; exact addL_ok S W
  | 10, e' => cases e'; exact ieS_ok S W (kf 0 (.inl (by decide))).1
  | 11, e' => cases e'; exact neS_ok S W (kf 0 (.inl (by decide))).2.1
  | 12, e' => cases e'; exact neS_ok S W (kf 0 (.inl (by decide))).2.2
  | 13, e' => cases e'; exact ieS_ok S W (kf 1 (.inl (by decide))).1
  | 14, e' => cases e'; exact neS_ok S W (kf 1 (.inl (by decide))).2.1
  | 15, e' => cases e'; exact neS_ok S W (kf 1 (.inl (by decide))).2.2
  | 16, e' =>
    cases h3 : three (pat a b c e) with
    | false => rw [h3] at e'; cases e'
    | true => rw [h3] at e'; cases e'; exact ieS_ok S W (kf 2 (.inr ⟨rfl, h3⟩)).1
  | 17, e' =>
    cases h3 : three (pat a b c e) with
    | false => rw [h3] at e'; cases e'
    | true => rw [h3] at e'; cases e'; exact neS_ok S W (kf 2 (.inr ⟨rfl, h3⟩)).2.1
  | 18, e' =>
    cases h3 : three (pat a b c e) with
    | false => rw [h3] at e'; cases e'
    | true => rw [h3] at e'; cases e'; exact neS_ok S W (kf 2 (.inr ⟨rfl, h3⟩)).2.2
  | 19, e' => cases e'; exact ieS_ok S W hz
  | _ + 20, e' => cases e'
end
end Mine


set_option maxRecDepth 100000
set_option Elab.async false
set_option linter.unusedVariables false
set_option linter.unusedSectionVars false
namespace Mine
open PySem PySem.Calls PyProof.Rows PySem.W PySem.W.X
theorem eraseEn_entr : ∀ (es : List DictEntry) (i : Nat) (vals : List Value), eraseEn es = entr (fun _ => 0) (fun _ => 0) i vals →
    ∃ (H : Nat → Int) (k : Nat → Tok) (vs : List Value), es = entr H k i vs ∧ vs.map erase = vals
  | [], i, [], _ => ⟨fun _ => 0, fun _ => 0, [], rfl, rfl⟩
  | [], i, _ :: _, e => by cases e
  | _ :: _, i, [], e => by cases e
  | ⟨h, ky, v⟩ :: r, i, v' :: vals, e => by
    simp only [eraseEn, entr, List.cons.injEq, DictEntry.mk.injEq, true_and] at e
    obtain ⟨⟨e1, e2⟩, e3⟩ := e
    obtain ⟨H, k, vs, e4, e5⟩ := eraseEn_entr r (i + 1) vals e3
    obtain ⟨t, rfl⟩ := erase_str e1
    refine ⟨fun j => if j = i then h else H j, fun j => if j = i then t else k j, v :: vs, ?_, by rw [List.map_cons, e2, e5]⟩
    have key : ∀ (l : List Value) (j : Nat), i < j → entr H k j l = entr (fun j => if j = i then h else H j) (fun j => if j = i then t else k j) j l := by
      intro l
      induction l with
      | nil => intro j _; rfl
      | cons a l ih =>
        intro j hj
        have : j ≠ i := by omega
        simp only [entr, if_neg this]
        rw [ih (j + 1) (by omega)]
    simp only [entr, if_pos rfl]
    rw [e4, key vs (i + 1) (by omega)]
    rfl
theorem eraseFr_is {o : Obj} {m : Nat} {vals : List Value} (h : eraseFr o = frW (fun _ => 0) (fun _ => 0) m vals) : ∃ (H : Nat → Int) (k : Nat → Tok) (vs : List Value), o = frW H k m vs ∧ vs.map erase = vals := by
  obtain ⟨c, d, x, s⟩ := o
  cases x with
  | dict es n =>
    unfold eraseFr frW at h
    simp only [Obj.mk.injEq, Data.dict.injEq, Array.mk.injEq] at h
    obtain ⟨rfl, rfl, ⟨h1, rfl⟩, rfl⟩ := h
    obtain ⟨H, k, vs, e, e'⟩ := eraseEn_entr _ _ _ h1
    refine ⟨H, k, vs, ?_, e'⟩
    unfold frW
    have : es = ⟨entr H k 0 vs⟩ := Array.ext' e
    rw [this]
  | _ => simp [eraseFr, frW] at h
end Mine


set_option maxRecDepth 100000
set_option Elab.async false
set_option linter.unusedVariables false
set_option linter.unusedSectionVars false
namespace Mine
open PySem PySem.Calls PyProof.Rows PySem.W PySem.W.X
/-! Parts of statements. -/
noncomputable def ifTest : Stmt → Expr
  | .If t _ _ _ => t
  | _ => default
noncomputable def ifBody : Stmt → List Stmt
  | .If _ b _ _ => b
  | _ => []
noncomputable def retE : Stmt → Expr
  | .Return (some e) _ => e
  | _ => default
noncomputable def ifeTest : Expr → Expr
  | .IfExp t _ _ _ => t
  | _ => default
noncomputable def ifeBody : Expr → Expr
  | .IfExp _ b _ _ => b
  | _ => default
noncomputable def boolArg (j : Nat) : Expr → Expr
  | .BoolOp _ l _ => (l[j]?).getD default
  | _ => default
noncomputable def cmpL : Expr → Expr
  | .Compare l _ _ _ => l
  | _ => default
noncomputable def cmpR : Expr → Expr
  | .Compare _ _ r _ => (r[0]?).getD default
  | _ => default
noncomputable def encU (_ : Unit) : Flow := .next
noncomputable def encB (b : Bool) : Flow := .ret (.bool b)
noncomputable def encV (v : Value) : Flow := .ret v
/-- The step's value, with its token. -/
noncomputable def stepV (o : Obj) : Option Value := match o.data with
  | .dict es _ => (es.toList[3]?).map (·.val)
  | _ => none
noncomputable def tnLookS (T : KT) : Option Obj × Option Value := ((T.get 0).map eraseFr, (T.get 0).bind stepV)
/-! The turn's first act: the step's name. -/
noncomputable def runAs (P P' : Params) (n t : Nat) (fa : Addr) (v : Value) (fr : Obj) (tb : Array Value) : Out :=
  runEnc (mkVL P P' n t noPa noSp 340 1800 1 (lw1 fa)) 20 [] [1, 1] encU (assignF (walkTarget P) (walkEnv P fa) v) (KT.put 16 .nil 0 fr) 1 tb
noncomputable def asWant (tb : Array Value) (vals : List Value) (sv : Value) : Result × Nat × Nat × List Value × (Option Obj × Option Value) := (.ok .next, 1, 1, tb.toList, some (frW (fun _ => 0) (fun _ => 0) vals.length vals), some sv)
noncomputable abbrev AsRun : Prop := ∀ (P : Params) (f y : Bool) (n t : Nat) (fa : Addr) (H : Nat → Int) (k : Nat → Tok) (tb : Array Value) (w : Str) (g s : Int) (a : Addr) (tw tg ts : Tok),
  (∀ v0 v1 v2 v3 v4 : Value, resG tnLookS (runAs P (mkP P f y) n t fa (.int s ts) (frW H k 8 [.str w tw, .int g tg, .ref a, v0, v1, v2, v3, v4]) tb) = dueG (runAs P (mkP P f y) n t fa (.int s ts) (frW H k 8 [.str w tw, .int g tg, .ref a, v0, v1, v2, v3, v4]) tb) (asWant tb [.str w 0, .int g 0, .ref a, .int s 0, erase v1, erase v2, erase v3, erase v4] (.int s ts))) ∧
  resG tnLookS (runAs P (mkP P f y) n t fa (.int s ts) (frW H k 3 [.str w tw, .int g tg, .ref a]) tb) = dueG (runAs P (mkP P f y) n t fa (.int s ts) (frW H k 3 [.str w tw, .int g tg, .ref a]) tb) (asWant tb [.str w 0, .int g 0, .ref a, .int s 0] (.int s ts))
theorem as_run : AsRun := by
  intro P f y n t fa H k tb w g s a tw tg ts
  exact ⟨fun v0 v1 v2 v3 v4 => by kernel_rfl, by kernel_rfl⟩
end Mine


set_option maxRecDepth 100000
set_option Elab.async false
set_option linter.unusedVariables false
set_option linter.unusedSectionVars false
namespace Mine
open PySem PySem.Calls PyProof.Rows PySem.W PySem.W.X
/-! The last turn. -/
noncomputable def slFinA : List Nat := (dc 25 919063574543524005988658936934784747128833578117745187309072045017601591644008449 [])
noncomputable def orcFinA : List Nat := (dc 32 9621985873476703279527714808114263469424905780202912732826060835404150670475831848336847056559192662176696373260 (dc 32 9621979535148328602493257365418828466882447464911565311471462386863061407285243358471390770874944349754998456321 (dc 12 4993225174770522698442112300737088368676865 [])))
noncomputable def oc2 (_ : Nat) : Nat := 2
noncomputable def walkA (P : Params) : List Stmt := (walkBody P).take 3
noncomputable def walkC (P : Params) : Stmt := stmtAt (walkBody P) 3
noncomputable def walkB (P : Params) : List Stmt := (walkBody P).drop 4
noncomputable def runFin {α : Type} (P P' : Params) (n t : Nat) (fa : Addr) (x : Tn) (fr : Obj) (F : Nat) (sl orc : List Nat) (enc : α → Flow) (tr : Sem α) : Out :=
  runEnc (mkVL P P' n t noPa (tnSp x false oc2 true n t) 340 1800 1 (lw1 fa)) F sl orc enc tr (KT.put 16 .nil 0 fr) 1 ⟨tb3 x.q⟩
noncomputable def finLook (T : KT) : (Option Obj × Option Value) × Option Obj := (((T.get 0).map eraseFr, (T.get 0).bind stepV), T.get 19)
noncomputable def finWt (x : Tn) : Nat := (((((99 + x.mWt) + 2 + x.lWt 0) + 105) + x.lWt 1) + 103)
noncomputable def fr8E (n : Nat) (x : Tn) (s : Int) : Obj := frW (fun _ => 0) (fun _ => 0) 8 [.str x.w 0, .int x.g 0, .ref x.a, .int s 0, .int x.F 0, .ref (Nat.add n 19), .str (x.o 1) 0, .int (x.V 1) 0]
noncomputable def finAW (n t : Nat) (x : Tn) (s : Int) (ts : Tok) : Result × Nat × Nat × List Value × ((Option Obj × Option Value) × Option Obj) :=
  (.ok .next, 230, finWt x, tb3 x.q, ((some (fr8E n x s), some (.int s ts)), some (lstO [] 0)))
noncomputable abbrev FinA : Prop := ∀ (P : Params) (f y : Bool) (n t : Nat) (fa : Addr) (x : Tn) (H : Nat → Int) (k : Nat → Tok) (s : Int) (ts tg tw : Tok),
  (∀ v1 v2 v3 v4 : Value, resG finLook (runFin P (mkP P f y) n t fa x (frW H k 8 [.str x.w tw, .int x.g tg, .ref x.a, .int s ts, v1, v2, v3, v4]) 500 slFinA orcFinA encF (execsF (walkA P) (walkEnv P fa))) = dueG (runFin P (mkP P f y) n t fa x (frW H k 8 [.str x.w tw, .int x.g tg, .ref x.a, .int s ts, v1, v2, v3, v4]) 500 slFinA orcFinA encF (execsF (walkA P) (walkEnv P fa))) (finAW n t x s ts)) ∧
  resG finLook (runFin P (mkP P f y) n t fa x (frW H k 4 [.str x.w tw, .int x.g tg, .ref x.a, .int s ts]) 500 slFinA orcFinA encF (execsF (walkA P) (walkEnv P fa))) = dueG (runFin P (mkP P f y) n t fa x (frW H k 4 [.str x.w tw, .int x.g tg, .ref x.a, .int s ts]) 500 slFinA orcFinA encF (execsF (walkA P) (walkEnv P fa))) (finAW n t x s ts)
set_option maxHeartbeats 0
theorem finA : FinA := by
  intro P f y n t fa x H k s ts tg tw
  cases f
  · exact ⟨fun v1 v2 v3 v4 => by kernel_rfl, by kernel_rfl⟩
  · exact ⟨fun v1 v2 v3 v4 => by kernel_rfl, by kernel_rfl⟩
/-! Its fourth statement, part by part. -/
noncomputable def fT (P : Params) : Expr := ifTest (walkC P)
noncomputable def fE (P : Params) : Expr := retE (stmtAt (ifBody (walkC P)) 0)
noncomputable def fN (P : Params) : Expr := boolArg 0 (ifeTest (fE P))
noncomputable def fM (P : Params) : Expr := boolArg 1 (ifeTest (fE P))
noncomputable def runBare {α : Type} (P P' : Params) (n t : Nat) (fa : Addr) (fr : Obj) (F : Nat) (sl orc : List Nat) (enc : α → Flow) (tr : Sem α) (tb : Array Value) : Out :=
  runEnc (mkVL P P' n t noPa noSp 340 1800 1 (lw1 fa)) F sl orc enc tr (KT.put 16 .nil 0 fr) 1 tb
noncomputable def look0 (T : KT) : Option Obj := T.get 0
noncomputable def look01 (T : KT) : Option Obj × Option Obj := (T.get 0, T.get 1)
noncomputable def fr8 (H : Nat → Int) (k : Nat → Tok) (w : Str) (g s F : Int) (a ne : Addr) (tw tg ts tF : Tok) (v6 v7 : Value) : Obj := frW H k 8 [.str w tw, .int g tg, .ref a, .int s ts, .int F tF, .ref ne, v6, v7]
theorem finB (P : Params) (f y : Bool) (n t : Nat) (fa : Addr) (x : Tn) (H : Nat → Int) (k : Nat → Tok) (s : Int) (ne : Addr) (tw tg ts tF : Tok) (v6 v7 : Value) :
    resG look0 (runFin P (mkP P f y) n t fa x (fr8 H k x.w x.g s x.F x.a ne tw tg ts tF v6 v7) 60 [39] [1] encB (isTrueF (fT P) (walkEnv P fa) (evalF (fT P) (walkEnv P fa)))) =
    dueG (runFin P (mkP P f y) n t fa x (fr8 H k x.w x.g s x.F x.a ne tw tg ts tF v6 v7) 60 [39] [1] encB (isTrueF (fT P) (walkEnv P fa) (evalF (fT P) (walkEnv P fa)))) (.ok (.ret (.bool true)), 1, 1, tb3 x.q, some (fr8 H k x.w x.g s x.F x.a ne tw tg ts tF v6 v7)) := by
  cases f <;> kernel_rfl
theorem finC (P : Params) (f y : Bool) (n t : Nat) (fa : Addr) (w : Str) (g F : Int) (a : Addr) (H : Nat → Int) (k : Nat → Tok) (s : Int) (ne : Addr) (tw tg ts tF : Tok) (v6 v7 : Value) (tb : Array Value) :
    resG look0 (runBare P (mkP P f y) n t fa (fr8 H k w g s F a ne tw tg ts tF v6 v7) 60 [] [1] encV (evalF (cmpL (fN P)) (walkEnv P fa)) tb) =
    dueG (runBare P (mkP P f y) n t fa (fr8 H k w g s F a ne tw tg ts tF v6 v7) 60 [] [1] encV (evalF (cmpL (fN P)) (walkEnv P fa)) tb) (.ok (.ret (.ref ne)), 1, 0, tb.toList, some (fr8 H k w g s F a ne tw tg ts tF v6 v7)) := by
  kernel_rfl
theorem finD (P : Params) (f y : Bool) (n t : Nat) (fa : Addr) (w : Str) (g F : Int) (a : Addr) (H : Nat → Int) (k : Nat → Tok) (s : Int) (ne : Addr) (tw tg ts tF : Tok) (v6 v7 : Value) (tb : Array Value) :
    resG look01 (runBare P (mkP P f y) n t fa (fr8 H k w g s F a ne tw tg ts tF v6 v7) 60 [] [] encV (evalF (cmpR (fN P)) (walkEnv P fa)) tb) =
    dueG (runBare P (mkP P f y) n t fa (fr8 H k w g s F a ne tw tg ts tF v6 v7) 60 [] [] encV (evalF (cmpR (fN P)) (walkEnv P fa)) tb) (.ok (.ret (.ref (Nat.add n 1))), 2, 0, tb.toList, (some (fr8 H k w g s F a ne tw tg ts tF v6 v7), some (lstO [] 0))) := by
  kernel_rfl
theorem finE {g : Nat} (hg : g < 3) (P : Params) (f y : Bool) (n t : Nat) (fa : Addr) (F : Int) (a : Addr) (H : Nat → Int) (k : Nat → Tok) (s : Int) (ne : Addr) (tw tg ts tF : Tok) (v6 v7 : Value) (tb : Array Value) :
    resG look0 (runBare P (mkP P f y) n t fa (fr8 H k (wordS fun _ => g) (g : Nat) s F a ne tw tg ts tF v6 v7) 60 [] [1, 1] encB (isTrueF (fM P) (walkEnv P fa) (evalF (fM P) (walkEnv P fa))) tb) =
    dueG (runBare P (mkP P f y) n t fa (fr8 H k (wordS fun _ => g) (g : Nat) s F a ne tw tg ts tF v6 v7) 60 [] [1, 1] encB (isTrueF (fM P) (walkEnv P fa) (evalF (fM P) (walkEnv P fa))) tb) (.ok (.ret (.bool true)), 1, 4, tb.toList, some (fr8 H k (wordS fun _ => g) (g : Nat) s F a ne tw tg ts tF v6 v7)) := by
  match g, hg with
  | 0, _ => cases f <;> kernel_rfl
  | 1, _ => cases f <;> kernel_rfl
  | 2, _ => cases f <;> kernel_rfl
theorem finF (P : Params) (f y : Bool) (n t : Nat) (fa : Addr) (w : Str) (g F : Int) (a : Addr) (H : Nat → Int) (k : Nat → Tok) (s : Int) (ne : Addr) (tw tg ts tF : Tok) (v6 v7 : Value) (tb : Array Value) :
    resG look0 (runBare P (mkP P f y) n t fa (fr8 H k w g s F a ne tw tg ts tF v6 v7) 60 [] [1] encV (evalF (ifeBody (fE P)) (walkEnv P fa)) tb) =
    dueG (runBare P (mkP P f y) n t fa (fr8 H k w g s F a ne tw tg ts tF v6 v7) 60 [] [1] encV (evalF (ifeBody (fE P)) (walkEnv P fa)) tb) (.ok (.ret (.int s ts)), 1, 0, tb.toList, some (fr8 H k w g s F a ne tw tg ts tF v6 v7)) := by
  kernel_rfl
end Mine


set_option maxRecDepth 100000
set_option Elab.async false
set_option linter.unusedVariables false
set_option linter.unusedSectionVars false
namespace Mine
open PySem PySem.Calls PyProof.Rows PySem.W PySem.W.X
/-! Rules by the parts of a statement. -/
section
variable {M : Model} {A : Around} {E : Value → Shared → Prop} {s : Shared} {env : Env}
noncomputable def ifElse : Stmt → List Stmt
  | .If _ _ e _ => e
  | _ => []
noncomputable def isIf : Stmt → Bool
  | .If .. => true
  | _ => false
noncomputable def isRet : Stmt → Bool
  | .Return (some _) _ => true
  | _ => false
noncomputable def ifeElse : Expr → Expr
  | .IfExp _ _ e _ => e
  | _ => default
noncomputable def isIfe : Expr → Bool
  | .IfExp .. => true
  | _ => false
noncomputable def isAnd2 : Expr → Bool
  | .BoolOp .And [_, _] _ => true
  | _ => false
noncomputable def isCmp (eq : Bool) : Expr → Bool
  | .Compare _ [.Eq] [r] _ => eq && !behindInMarks .Eq r
  | .Compare _ [.NotEq] [r] _ => !eq && !behindInMarks .NotEq r
  | _ => false
theorem wpAny_ifSt {st : Stmt} {Q : Flow → Shared → Prop} (hs : isIf st = true)
    (h : wpAny M A (isTrue (ifTest st) env (eval (ifTest st) env)) (fun b s₂ => if b then wpAny M A (execs (ifBody st) env) Q E s₂ else wpAny M A (execs (ifElse st) env) Q E s₂) E s) :
    wpAny M A (exec st env) Q E s := by
  cases st <;> first | exact wpAny_If h | cases hs
theorem wpAny_retSt {st : Stmt} {Q : Flow → Shared → Prop} (hs : isRet st = true) (h : wpAny M A (eval (retE st) env) (fun v => Q (.ret v)) E s) :
    wpAny M A (exec st env) Q E s := by
  cases st with
  | Return e p => cases e with
    | none => cases hs
    | some e => exact wpAny_Return_some h
  | _ => cases hs
theorem wpAny_ife {e : Expr} {Q : Value → Shared → Prop} (he : isIfe e = true)
    (h : wpAny M A (isTrue (ifeTest e) env (eval (ifeTest e) env)) (fun b s₁ => if b then wpAny M A (eval (ifeBody e) env) Q E s₁ else wpAny M A (eval (ifeElse e) env) Q E s₁) E s) :
    wpAny M A (eval e env) Q E s := by
  cases e <;> first | exact wpAny_IfExp h | cases he
theorem isTrue_and2 {e : Expr} {whole : Sem Value} {Q : Bool → Shared → Prop} (he : isAnd2 e = true)
    (h : wpAny M A (isTrue (boolArg 0 e) env (eval (boolArg 0 e) env)) (fun c s' => if c then wpAny M A (isTrue (boolArg 1 e) env (eval (boolArg 1 e) env)) Q E s' else Q false s') E s) :
    wpAny M A (isTrue e env whole) Q E s := by
  unfold isAnd2 at he
  split at he
  · rename_i x y p
    refine isTrue_and (wpAny_mono h (fun c s' h' => ?_) fun _ _ x => x)
    cases c with
    | false => exact h'
    | true =>
      refine isTrue_and (wpAny_mono h' (fun c' s'' h'' => ?_) fun _ _ x => x)
      cases c' with
      | false => exact h''
      | true => exact isTrue_and_nil h''
  · cases he
theorem isTrue_eq {e : Expr} {whole : Sem Value} {Q : Bool → Shared → Prop} (he : isCmp true e = true)
    (h : wpAny M A (eval (cmpL e) env) (fun a s₁ => wpAny M A (eval (cmpR e) env) (fun b s₂ => wpAny M A (compareOp .Eq a b) (fun c s₃ => wpAny M A (truthy c) Q E s₃) E s₂) E s₁) E s) :
    wpAny M A (isTrue e env whole) Q E s := by
  unfold isCmp at he
  split at he
  · rename_i l r p
    exact wpAny_isTrue_Compare1 h (by simpa using he)
  · cases he
  · cases he
theorem isTrue_ne {e : Expr} {whole : Sem Value} {Q : Bool → Shared → Prop} (he : isCmp false e = true)
    (h : wpAny M A (eval (cmpL e) env) (fun a s₁ => wpAny M A (eval (cmpR e) env) (fun b s₂ => wpAny M A (compareOp .NotEq a b) (fun c s₃ => wpAny M A (truthy c) Q E s₃) E s₂) E s₁) E s) :
    wpAny M A (isTrue e env whole) Q E s := by
  unfold isCmp at he
  split at he
  · cases he
  · rename_i l r p
    exact wpAny_isTrue_Compare1 h (by simpa using he)
  · cases he
end
end Mine


set_option maxRecDepth 100000
set_option Elab.async false
set_option linter.unusedVariables false
set_option linter.unusedSectionVars false
namespace Mine
open PySem PySem.Calls PyProof.Rows PySem.W PySem.W.X
/-! The text's own objects stand low. -/
noncomputable def ktLow : KT → Nat → Nat → Bool
  | .nil, _, _ => true
  | .node v l r, s, b => (match v with | none => true | some _ => Nat.blt b 87) && (ktLow l (2 * s) (s + b) && ktLow r (2 * s) (2 * s + b))
theorem ktLow_get : ∀ (t : KT) (s b : Nat), ktLow t s b = true → ∀ j o, t.get j = some o → s * j + b < 87
  | .nil, _, _, _, _, _, e => by cases e
  | .node v l r, s, b, h, j, o, e => by
    simp only [ktLow, Bool.and_eq_true] at h
    obtain ⟨h1, h2, h3⟩ := h
    rw [KT.get_node] at e
    by_cases h0 : j = 0
    · subst h0
      rw [if_pos rfl] at e
      subst e
      have := blt_true h1
      omega
    · rw [if_neg h0] at e
      by_cases p : j % 2 = 1
      · rw [if_pos p] at e
        have z := ktLow_get l _ _ h2 _ _ e
        have : 2 * s * (j / 2) + (s + b) = s * j + b := by
          have hj : j = 2 * (j / 2) + 1 := by omega
          generalize j / 2 = q at hj
          subst hj
          rw [Nat.mul_add, Nat.mul_one, ← Nat.mul_assoc, Nat.mul_comm s 2]; omega
        omega
      · rw [if_neg p] at e
        have z := ktLow_get r _ _ h3 _ _ e
        have : 2 * s * (j / 2 - 1) + (2 * s + b) = s * j + b := by
          have hj : j = 2 * (j / 2 - 1) + 2 := by omega
          generalize j / 2 - 1 = q at hj
          subst hj
          rw [Nat.mul_add, ← Nat.mul_assoc, Nat.mul_comm s 2]; omega
        omega
theorem topLow (P : Params) : TopLow P := fun a o e _ => by
  have h : ktLow (KTop P) 1 0 = true := by kernel_rfl
  have := ktLow_get (KTop P) 1 0 h a o e
  omega

/-! A run with the frame alone low. -/
noncomputable def Grown (fa : Addr) (h h' : Heap) : Prop := ∀ b o, b ≠ 16 → b ≠ fa → h.get? b = some o → h'.get? b = some o
theorem Grown.trans {fa : Addr} {h h' h'' : Heap} (a : Grown fa h h') (b : Grown fa h' h'') : Grown fa h h'' := fun c o q q' e => b c o q q' (a c o q q' e)
section
variable {P : Params} {f y : Bool} {h : Heap} {n t : Nat} {tb : Array Value} {pa' : Nat → Option (Addr × Obj)} {sp : Nat → Option Spec} {w : World} {gens : Array GenState} {d : Drawn} {os : OsState} {fa : Addr} {A : Around} {E : Value → Shared → Prop}
theorem run_low {α β : Type} {g : KT → β} {yv : β} {enc : α → Flow} {tr : Sem α} {fl : Flow} {fr : Obj} {W Wt F : Nat} {tb' : List Value} {sl orc : List Nat} {Q : α → Shared → Prop}
    (S : Stand P h (n + 1) tb pa') (W' : Away P fa pa') (hf : h.get? fa = some fr) (hP : mkP P f y = w.params) (hd : A.depth ≤ 340) (hu : A.units ≤ 1800) (hh : A.handled = none)
    (SO : ∀ j Z, sp j = some Z → SpecOk (mkVL P (mkP P f y) n t noPa sp 340 1800 1 (lw1 fa)) w h gens d os Z)
    (h1 : resG g (runEnc (mkVL P (mkP P f y) n t noPa sp 340 1800 1 (lw1 fa)) F sl orc enc tr (KT.put 16 .nil 0 fr) 1 tb) = dueG (runEnc (mkVL P (mkP P f y) n t noPa sp 340 1800 1 (lw1 fa)) F sl orc enc tr (KT.put 16 .nil 0 fr) 1 tb) (.ok fl, W, Wt, tb', yv))
    (hR : ∀ h' T a, enc a = fl → Grown fa h h' → Stand P h' (n + W) ⟨tb'⟩ pa' → (∀ o, T.get 0 = some o → h'.get? fa = some o) → (∀ j o, T.get (j + 1) = some o → h'.get? (n + (j + 1)) = some o) → g T = yv → Q a ⟨h', gens, d, t + Wt, os⟩) :
    wpAny (model PySem.Challenge.pw_sl0015_01 w) A tr Q E ⟨h, gens, d, t, os⟩ := by
  have Wb : Away P fa noPa := ⟨W'.top, W'.high, fun _ _ _ e => nomatch e⟩
  have O := S.bare.hypL (n := n) (t := t) (D := 340) (U := 1800) (sp := sp) Wb hf hP hd hu hh
  have D₀ := repL O S.bare hf
  have z := run_encG (α := α) (h := h) O SO D₀ h1 (fun r s => match r with | .ok fl' => ∀ a, enc a = fl' → Q a s | .error e => E e s) (fun h' T D eg a ea => by
    refine hR h' T a ea (fun b o q q' e => D.keep b o e q (lw1_ne q')) (S.goL W' D) (fun o e => (D.own 0 o e).2) (fun j o e => (D.own (j + 1) o e).2) eg)
  exact wpAny_mono z (fun a s q => q a rfl) (fun _ _ q => q)
end
end Mine


set_option maxRecDepth 100000
set_option Elab.async false
set_option linter.unusedVariables false
set_option linter.unusedSectionVars false
namespace Mine
open PySem PySem.Calls PyProof.Rows PySem.W PySem.W.X
theorem map_eight {vs : List Value} {a b c e a' b' c' e' : Value} (h : vs.map erase = [a, b, c, e, a', b', c', e']) : ∃ x y z u x' y' z' u', vs = [x, y, z, u, x', y', z', u'] ∧ erase x = a ∧ erase y = b ∧ erase z = c ∧ erase u = e ∧ erase x' = a' ∧ erase y' = b' ∧ erase z' = c' ∧ erase u' = e' := by
  obtain ⟨x, l, rfl, h1, h⟩ := List.map_eq_cons_iff.mp h
  obtain ⟨y, l, rfl, h2, h⟩ := List.map_eq_cons_iff.mp h
  obtain ⟨z, l, rfl, h3, h⟩ := List.map_eq_cons_iff.mp h
  obtain ⟨u, l, rfl, h4, h⟩ := List.map_eq_cons_iff.mp h
  obtain ⟨x', y', z', u', rfl, h5⟩ := map_four h
  exact ⟨x, y, z, u, x', y', z', u', rfl, h1, h2, h3, h4, h5⟩
/-- The frame between two turns. -/
noncomputable def FrOk (h : Heap) (fa : Addr) (w : Str) (g : Int) (a : Addr) : Prop := ∃ (H : Nat → Int) (k : Nat → Tok) (tw tg : Tok),
  h.get? fa = some (frW H k 3 [.str w tw, .int g tg, .ref a]) ∨ ∃ v0 v1 v2 v3 v4, h.get? fa = some (frW H k 8 [.str w tw, .int g tg, .ref a, v0, v1, v2, v3, v4])
/-- The frame within a turn. -/
noncomputable def FrStep (h : Heap) (fa : Addr) (w : Str) (g : Int) (a : Addr) (s : Int) (ts : Tok) : Prop := ∃ (H : Nat → Int) (k : Nat → Tok) (tw tg : Tok),
  h.get? fa = some (frW H k 4 [.str w tw, .int g tg, .ref a, .int s ts]) ∨ ∃ v1 v2 v3 v4, h.get? fa = some (frW H k 8 [.str w tw, .int g tg, .ref a, .int s ts, v1, v2, v3, v4])
theorem lookS_is {T : KT} {m : Nat} {vals : List Value} {v : Value} (h : tnLookS T = (some (frW (fun _ => 0) (fun _ => 0) m vals), some v)) : ∃ (H : Nat → Int) (k : Nat → Tok) (vs : List Value), T.get 0 = some (frW H k m vs) ∧ vs.map erase = vals ∧ stepV (frW H k m vs) = some v := by
  have h1 := congrArg Prod.fst h
  have h2 := congrArg Prod.snd h
  simp only [tnLookS] at h1 h2
  cases hT : T.get 0 with
  | none => rw [hT] at h1; cases h1
  | some o =>
    rw [hT] at h1 h2
    obtain ⟨H, k, vs, rfl, e⟩ := eraseFr_is (Option.some.inj h1)
    exact ⟨H, k, vs, rfl, e, h2⟩
theorem look_is {T : KT} {m : Nat} {vals : List Value} (h : tnLook T = some (frW (fun _ => 0) (fun _ => 0) m vals)) : ∃ (H : Nat → Int) (k : Nat → Tok) (vs : List Value), T.get 0 = some (frW H k m vs) ∧ vs.map erase = vals := by
  unfold tnLook at h
  cases hT : T.get 0 with
  | none => rw [hT] at h; cases h
  | some o =>
    rw [hT] at h
    obtain ⟨H, k, vs, rfl, e⟩ := eraseFr_is (Option.some.inj h)
    exact ⟨H, k, vs, rfl, e⟩
section
variable {P : Params} {f y : Bool} {h : Heap} {n t : Nat} {tb : Array Value} {pa' : Nat → Option (Addr × Obj)} {w : World} {gens : Array GenState} {d : Drawn} {os : OsState} {fa : Addr} {A : Around} {E : Value → Shared → Prop}
theorem as_go {wd : Str} {g s : Int} {a : Addr} {ts : Tok} {Q : Unit → Shared → Prop} (S : Stand P h (n + 1) tb pa') (W' : Away P fa pa') (hf : FrOk h fa wd g a) (hP : mkP P f y = w.params) (hd : A.depth ≤ 340) (hu : A.units ≤ 1800) (hh : A.handled = none)
    (hQ : ∀ h', Grown fa h h' → Stand P h' (n + 1) tb pa' → FrStep h' fa wd g a s ts → Q () ⟨h', gens, d, t + 1, os⟩) :
    wpAny (model PySem.Challenge.pw_sl0015_01 w) A (assign (walkTarget P) (walkEnv P fa) (.int s ts)) Q E ⟨h, gens, d, t, os⟩ := by
  rw [assignF_eq]
  obtain ⟨H, k, tw, tg, hf | ⟨v0, v1, v2, v3, v4, hf⟩⟩ := hf
  · refine run_low (sp := noSp) S W' hf hP hd hu hh (fun j Z e => nomatch e) (as_run P f y n t fa H k tb wd g s a tw tg ts).2 fun h' T u _ hg S' h0 _ el => ?_
    obtain ⟨H', k', vs, hT, hv, hs⟩ := lookS_is el
    obtain ⟨x, y, z, u', rfl, e1, e2, e3, e4⟩ := map_four hv
    obtain ⟨t1, rfl⟩ := erase_str e1
    obtain ⟨t2, rfl⟩ := erase_int e2
    have e3' := erase_ref e3
    subst e3'
    have e4' := Option.some.inj hs
    have e5' : u' = .int s ts := e4'
    subst e5'
    exact hQ h' hg S' ⟨H', k', t1, t2, .inl (h0 _ hT)⟩
  · refine run_low (sp := noSp) S W' hf hP hd hu hh (fun j Z e => nomatch e) ((as_run P f y n t fa H k tb wd g s a tw tg ts).1 v0 v1 v2 v3 v4) fun h' T u _ hg S' h0 _ el => ?_
    obtain ⟨H', k', vs, hT, hv, hs⟩ := lookS_is el
    obtain ⟨x, y, z, u', x5, x6, x7, x8, rfl, e1, e2, e3, e4, e5, e6, e7, e8⟩ := map_eight hv
    obtain ⟨t1, rfl⟩ := erase_str e1
    obtain ⟨t2, rfl⟩ := erase_int e2
    have e3' := erase_ref e3
    subst e3'
    have e4' := Option.some.inj hs
    have e5' : u' = .int s ts := e4'
    subst e5'
    exact hQ h' hg S' ⟨H', k', t1, t2, .inr ⟨x5, x6, x7, x8, h0 _ hT⟩⟩
variable {X : Th} {q : Addr} {c0 : Value} {tk : Tok} {rest : List Value} {sl : Array (Option Value)}
/-- A turn that is not the last. -/
theorem turn_go {a b c e g jn : Nat} {b1 b2 : Bool} {s : Int} {ts : Tok} {Q : Flow → Shared → Prop} (S : Stand P h (n + 1) ⟨tb3 q⟩ (X.pa q (codeO c0 tk rest sl))) (W' : Away P fa (X.pa q (codeO c0 tk rest sl))) (hf : FrStep h fa (wordS (mk4 a b c e)) (g : Nat) X.a s ts)
    (hP : mkP P f y = w.params) (hd : A.depth ≤ 340) (hu : A.units ≤ 1800) (hh : A.handled = none)
    (ha : a < 3) (hb : b < 3) (hc : c < 3) (he : e < 3) (hg : g < 3) (hj : jn < cond (three (pat a b c e)) 3 2)
    (hoc : ∀ j, j < 2 ∨ (j = 2 ∧ three (pat a b c e) = true) → kindOf (wayV (mk4 a b c e) g) (wayV (nxK a b c e (pat a b c e) j) g) = ocOf jn b1 b2 j)
    (hz : (wayV (mk4 a b c e) g == 0) = false)
    (hQ : ∀ h', Grown fa h h' → Stand P h' (n + cond (three (pat a b c e)) 292 230) ⟨tb3 q⟩ (X.pa q (codeO c0 tk rest sl)) → FrOk h' fa (wordS (nxK a b c e (pat a b c e) jn)) (g : Nat) X.a →
      Q .next ⟨h', gens, d, t + tnWt (tnOf X q a b c e g (pat a b c e)) (three (pat a b c e)) (ocOf jn b1 b2), os⟩) :
    wpAny (model PySem.Challenge.pw_sl0015_01 w) A (execs (walkBody P) (walkEnv P fa)) Q E ⟨h, gens, d, t, os⟩ := by
  have hol : ∀ j, ocOf jn b1 b2 j < 3 := by
    intro j
    unfold ocOf
    split
    · decide
    · split
      · cases b1 <;> decide
      · cases b2 <;> decide
  have Wb : Away P fa noPa := ⟨W'.top, W'.high, fun _ _ _ e => nomatch e⟩
  have sp := fun (j : Nat) (Z : Spec) (e' : tnSp (tnOf X q a b c e g (pat a b c e)) (three (pat a b c e)) (ocOf jn b1 b2) false n t j = some Z) =>
    tn_sp (pa := noPa) (D := 340) (U := 1800) (sp := tnSp (tnOf X q a b c e g (pat a b c e)) (three (pat a b c e)) (ocOf jn b1 b2) false n t) (gens := gens) (d := d) (os := os) S W' hP ha hb hc he hg (fun j hj => ⟨hol j, hoc j hj⟩) hz j Z e'
  rw [execsF_eq]
  obtain ⟨H, k, tw, tg, hf | ⟨v1, v2, v3, v4, hf⟩⟩ := hf
  · have z := (tn_run (three (pat a b c e)) jn hj b1 b2 f P y n t fa (tnOf X q a b c e g (pat a b c e)) H k s ts tg tw).2
    unfold runTnP runTn tnWant at z
    refine run_low S W' hf hP hd hu hh sp z fun h' T u eu hg S' h0 _ el => ?_
    have eu' : u = .next := eu
    subst eu'
    obtain ⟨H', k', vs, hT, hv⟩ := look_is el
    obtain ⟨x, y, z, u', x5, x6, x7, x8, rfl, e1, e2, e3, e4, e5, e6, e7, e8⟩ := map_eight hv
    obtain ⟨t1, rfl⟩ := erase_str e1
    obtain ⟨t2, rfl⟩ := erase_int e2
    have e3' := erase_ref e3
    subst e3'
    exact hQ h' hg S' ⟨H', k', t1, t2, .inr ⟨u', x5, x6, x7, x8, h0 _ hT⟩⟩
  · have z := (tn_run (three (pat a b c e)) jn hj b1 b2 f P y n t fa (tnOf X q a b c e g (pat a b c e)) H k s ts tg tw).1 v1 v2 v3 v4
    unfold runTnP runTn tnWant at z
    refine run_low S W' hf hP hd hu hh sp z fun h' T u eu hg S' h0 _ el => ?_
    have eu' : u = .next := eu
    subst eu'
    obtain ⟨H', k', vs, hT, hv⟩ := look_is el
    obtain ⟨x, y, z, u', x5, x6, x7, x8, rfl, e1, e2, e3, e4, e5, e6, e7, e8⟩ := map_eight hv
    obtain ⟨t1, rfl⟩ := erase_str e1
    obtain ⟨t2, rfl⟩ := erase_int e2
    have e3' := erase_ref e3
    subst e3'
    exact hQ h' hg S' ⟨H', k', t1, t2, .inr ⟨u', x5, x6, x7, x8, h0 _ hT⟩⟩
end
end Mine


set_option maxRecDepth 100000
set_option Elab.async false
set_option linter.unusedVariables false
set_option linter.unusedSectionVars false
namespace Mine
open PySem PySem.Calls PyProof.Rows PySem.W PySem.W.X PySem.SeqAt
theorem walk_split (P : Params) : walkBody P = walkA P ++ (walkC P :: walkB P) := by kernel_rfl
theorem walkC_if (P : Params) : isIf (walkC P) = true := by kernel_rfl
theorem walkC_body (P : Params) : ifBody (walkC P) = [stmtAt (ifBody (walkC P)) 0] := by kernel_rfl
theorem walkC_ret (P : Params) : isRet (stmtAt (ifBody (walkC P)) 0) = true := by kernel_rfl
theorem fE_ife (P : Params) : isIfe (fE P) = true := by kernel_rfl
theorem fE_and (P : Params) : isAnd2 (ifeTest (fE P)) = true := by kernel_rfl
theorem fN_cmp (P : Params) : isCmp true (fN P) = true := by kernel_rfl
theorem pat_self {g : Nat} : pat g g g g = 0 := by simp [pat]
theorem word_self (g : Nat) : wordS (mk4 g g g g) = wordS fun _ => g := rfl
theorem low_at : ∀ (F N : Nat), 87 ≤ F → F < N + 1 → F ≠ N + 19 ∧ 87 ≤ N := by omega
theorem no16_at : ∀ (N : Nat), 87 ≤ N → N + 19 ≠ 16 := by omega
section
variable {P : Params} {f y : Bool} {h : Heap} {n t : Nat} {w : World} {gens : Array GenState} {d : Drawn} {os : OsState} {fa : Addr} {A : Around} {E : Value → Shared → Prop}
variable {X : Th} {q : Addr} {c0 : Value} {tk : Tok} {rest : List Value} {sl : Array (Option Value)}
noncomputable def lastWt : Nat := 109 + mvWt 0 + lvWt 3 + 105 + lvWt 3 + 103
/-- The last turn. -/
theorem last_go {g : Nat} {s : Int} {ts : Tok} {Q : Flow → Shared → Prop} (S : Stand P h (n + 1) ⟨tb3 q⟩ (X.pa q (codeO c0 tk rest sl))) (W' : Away P fa (X.pa q (codeO c0 tk rest sl))) (hf : FrStep h fa (wordS (mk4 g g g g)) (g : Nat) X.a s ts)
    (hP : mkP P f y = w.params) (hd : A.depth ≤ 340) (hu : A.units ≤ 1800) (hh : A.handled = none) (hg : g < 3)
    (hoc : ∀ j, j < 2 → kindOf (wayV (mk4 g g g g) g) (wayV (nxK g g g g 0 j) g) = 2)
    (hz : (wayV (mk4 g g g g) g == 0) = true)
    (hQ : ∀ h', Grown fa h h' → Stand P h' (n + 231) ⟨tb3 q⟩ (X.pa q (codeO c0 tk rest sl)) → Q (.ret (.int s ts)) ⟨h', gens, d, t + (finWt (tnOf X q g g g g g 0) + 5), os⟩) :
    wpAny (model PySem.Challenge.pw_sl0015_01 w) A (execs (walkBody P) (walkEnv P fa)) Q E ⟨h, gens, d, t, os⟩ := by
  have Wb : Away P fa noPa := ⟨W'.top, W'.high, fun _ _ _ e => nomatch e⟩
  have sp : ∀ {h : Heap} {n t : Nat}, Stand P h (n + 1) ⟨tb3 q⟩ (X.pa q (codeO c0 tk rest sl)) → ∀ (j : Nat) (Z : Spec), tnSp (tnOf X q g g g g g 0) false oc2 true n t j = some Z →
      SpecOk (mkVL P (mkP P f y) n t noPa (tnSp (tnOf X q g g g g g 0) false oc2 true n t) 340 1800 1 (lw1 fa)) w h gens d os Z := by
    intro h n t S j Z e'
    have z := tn_sp (t := t) (f := f) (y := y) (w := w) (oc := oc2) (z := true) (pa := noPa) (D := 340) (U := 1800) (sp := tnSp (tnOf X q g g g g g 0) false oc2 true n t) (gens := gens) (d := d) (os := os) S W' hP hg hg hg hg hg
    rw [pat_self] at z
    exact z (fun j hj => ⟨(by show 2 < 3; decide), by
      rcases hj with hj | ⟨_, hj⟩
      · exact hoc j hj
      · cases hj⟩) hz j Z e'
  have hlt : ∀ o, h.get? fa = some o → fa ≠ n + 19 ∧ (87 : Nat) ≤ n := fun o e => by
    have h1 := Heap.lt_size e
    rw [S.size] at h1
    exact low_at fa n W'.high h1
  rw [walk_split]
  refine wpAny_execs_app ?_
  rw [execsF_eq]
  have A8 : ∀ (fr : Obj), h.get? fa = some fr → resG finLook (runFin P (mkP P f y) n t fa (tnOf X q g g g g g 0) fr 500 slFinA orcFinA encF (execsF (walkA P) (walkEnv P fa))) = dueG (runFin P (mkP P f y) n t fa (tnOf X q g g g g g 0) fr 500 slFinA orcFinA encF (execsF (walkA P) (walkEnv P fa))) (finAW n t (tnOf X q g g g g g 0) s ts) →
      wpAny (model PySem.Challenge.pw_sl0015_01 w) A (execsF (walkA P) (walkEnv P fa)) (fun f s' => match f with
        | .next => wpAny (model PySem.Challenge.pw_sl0015_01 w) A (execsF (walkC P :: walkB P) (walkEnv P fa)) Q E s'
        | f => Q f s') E ⟨h, gens, d, t, os⟩ := by
    intro fr hfr z
    unfold runFin finAW at z
    refine run_low S W' hfr hP hd hu hh (sp S) z fun h1 T u eu hg1 S1 h0 hn el => ?_
    have eu' : u = .next := eu
    subst eu'
    have el1 := congrArg Prod.fst el
    have el2 : T.get 19 = some (lstO [] 0) := congrArg Prod.snd el
    obtain ⟨H, k, vs, hT, hv, hs⟩ := lookS_is el1
    obtain ⟨x, y, z, u', x5, x6, x7, x8, rfl, e1, e2, e3, e4, e5, e6, e7, e8⟩ := map_eight hv
    obtain ⟨t1, rfl⟩ := erase_str e1
    obtain ⟨t2, rfl⟩ := erase_int e2
    have e3' := erase_ref e3
    subst e3'
    have e4' : u' = .int s ts := Option.some.inj hs
    subst e4'
    obtain ⟨t5, rfl⟩ := erase_int e5
    have e6' := erase_ref e6
    subst e6'
    have f1 : h1.get? fa = some (fr8 H k (wordS fun _ => g) (g : Nat) s (wayV (mk4 g g g g) g) X.a (Nat.add n 19) t1 t2 ts t5 x7 x8) := h0 _ hT
    have n1 : h1.get? (n + 19) = some (lstO [] 0) := hn 18 _ el2
    obtain ⟨q1, q2⟩ := hlt _ hfr
    show wpAny _ A (execsF (walkC P :: walkB P) (walkEnv P fa)) Q E _
    rw [← execsF_eq]
    refine wpAny_execs_cons (wpAny_ifSt (walkC_if P) ?_)
    show wpAny _ A (isTrue (fT P) (walkEnv P fa) (eval (fT P) (walkEnv P fa))) _ E _
    rw [isTrueF_eq, evalF_eq]
    have zB := finB P f y (n + 229) (t + finWt (tnOf X q g g g g g 0)) fa (tnOf X q g g g g g 0) H k s (Nat.add n 19) t1 t2 ts t5 x7 x8
    unfold runFin at zB
    refine run_low (n := n + 229) S1 W' f1 hP hd hu hh (sp S1) zB fun h2 T2 b eb hg2 S2 h02 _ el' => ?_
    have eb' : b = true := by cases b with | true => rfl | false => cases eb
    subst eb'
    have f2 := h02 _ el'
    rw [if_pos rfl, walkC_body]
    refine wpAny_execs_cons (wpAny_retSt (walkC_ret P) ?_)
    show wpAny _ A (eval (fE P) (walkEnv P fa)) _ E _
    refine wpAny_ife (fE_ife P) (isTrue_and2 (fE_and P) (isTrue_eq (fN_cmp P) ?_))
    rw [evalF_eq]
    have zC := finC P f y (n + 229) (t + finWt (tnOf X q g g g g g 0) + 1) fa (wordS fun _ => g) (g : Nat) (wayV (mk4 g g g g) g) X.a H k s (Nat.add n 19) t1 t2 ts t5 x7 x8 ⟨tb3 q⟩
    unfold runBare at zC
    refine run_low (n := n + 229) (sp := noSp) S2 W' f2 hP hd hu hh (fun j Z e => nomatch e) zC fun h3 T3 v ev hg3 S3 h03 _ el3 => ?_
    have ev' : v = .ref (Nat.add n 19) := Flow.ret.inj ev
    subst ev'
    have f3 := h03 _ el3
    have zD := finD P f y (n + 229) (t + finWt (tnOf X q g g g g g 0) + 1) fa (wordS fun _ => g) (g : Nat) (wayV (mk4 g g g g) g) X.a H k s (Nat.add n 19) t1 t2 ts t5 x7 x8 ⟨tb3 q⟩
    unfold runBare at zD
    refine run_low (n := n + 229) (sp := noSp) S3 W' f3 hP hd hu hh (fun j Z e => nomatch e) zD fun h4 T4 v ev hg4 S4 h04 hn4 el4 => ?_
    have ev' : v = .ref (Nat.add (n + 229) 1) := Flow.ret.inj ev
    subst ev'
    have f4 := h04 _ (congrArg Prod.fst el4)
    have m4 := hn4 0 _ (congrArg Prod.snd el4)
    have n4 : h4.get? (n + 19) = some (lstO [] 0) := ((hg2.trans hg3).trans hg4) _ _ (no16_at n q2) (Ne.symm q1) n1
    refine eq_dataH (da := .list []) (db := .list []) (.list n4 rfl rfl .nil) (.list m4 rfl rfl .nil) (by decide) (by decide) (by have : cLine = 9900 := rfl; omega) ?_
    refine wpAny_truthy_bool ?_
    have eq1 : PyData.eqv (.list []) (.list []) = true := by decide
    rw [eq1, if_pos rfl]
    have zE := finE hg P f y (n + 230) (t + finWt (tnOf X q g g g g g 0) + 1) fa (wayV (mk4 g g g g) g) X.a H k s (Nat.add n 19) t1 t2 ts t5 x7 x8 ⟨tb3 q⟩
    unfold runBare at zE
    show wpAny _ A (isTrue (fM P) (walkEnv P fa) (evalF (fM P) (walkEnv P fa))) _ E _
    rw [isTrueF_eq]
    refine run_low (n := n + 230) (sp := noSp) S4 W' f4 hP hd hu hh (fun j Z e => nomatch e) zE fun h5 T5 b eb hg5 S5 h05 _ el5 => ?_
    have eb' : b = true := by cases b with | true => rfl | false => cases eb
    subst eb'
    have f5 := h05 _ el5
    rw [if_pos rfl]
    have zF := finF P f y (n + 230) (t + finWt (tnOf X q g g g g g 0) + 1 + 4) fa (wordS fun _ => g) (g : Nat) (wayV (mk4 g g g g) g) X.a H k s (Nat.add n 19) t1 t2 ts t5 x7 x8 ⟨tb3 q⟩
    unfold runBare at zF
    refine run_low (n := n + 230) (sp := noSp) S5 W' f5 hP hd hu hh (fun j Z e => nomatch e) zF fun h6 T6 v ev hg6 S6 h06 _ el6 => ?_
    have ev' : v = .int s ts := Flow.ret.inj ev
    subst ev'
    exact hQ h6 (((((hg1.trans hg2).trans hg3).trans hg4).trans hg5).trans hg6) S6
  obtain ⟨H, k, tw, tg, hf | ⟨v1, v2, v3, v4, hf⟩⟩ := hf
  · exact A8 _ hf (finA P f y n t fa (tnOf X q g g g g g 0) H k s ts tg tw).2
  · exact A8 _ hf ((finA P f y n t fa (tnOf X q g g g g g 0) H k s ts tg tw).1 v1 v2 v3 v4)
end
end Mine


set_option maxRecDepth 100000
set_option Elab.async false
set_option linter.unusedVariables false
set_option linter.unusedSectionVars false
namespace Mine
open PySem PySem.Calls PyProof.Rows PySem.W PySem.W.X
/-! The plain law of all turns. -/
noncomputable def kd (a b c e g j : Nat) : Nat := kindOf (wayV (mk4 a b c e) g) (wayV (nxK a b c e (pat a b c e) j) g)
noncomputable def nearJ (a b c e g : Nat) : Nat := if kd a b c e g 0 = 0 then 0 else if kd a b c e g 1 = 0 then 1 else 2
theorem nxt_eq (a b c e j : Nat) : nxt a b c e j = nxK a b c e (pat a b c e) j := rfl
noncomputable def turnOk2 (a b c e g : Nat) : Bool :=
  let F := wayV (mk4 a b c e) g
  let k := pat a b c e
  let v := kd a b c e g
  if F == 0 then (v 0 == 2) && ((v 1 == 2) && ((a == g) && ((b == g) && ((c == g) && (e == g))))) else
  decide (0 < F) && (decide (F < 16) && (if k == 0 then (v 0 == 0 && (v 1 == 1 || v 1 == 2)) || (v 1 == 0 && (v 0 == 1 || v 0 == 2)) else
    (v 0 == 0 && ((v 1 == 1 || v 1 == 2) && (v 2 == 1 || v 2 == 2))) || ((v 1 == 0 && ((v 0 == 1 || v 0 == 2) && (v 2 == 1 || v 2 == 2))) || (v 2 == 0 && ((v 0 == 1 || v 0 == 2) && (v 1 == 1 || v 1 == 2))))))
theorem turn_all2 {a b c e g : Nat} (ha : a < 3) (hb : b < 3) (hc : c < 3) (he : e < 3) (hg : g < 3) : turnOk2 a b c e g = true := by
  have := turn_all a ha b hb c hc e he g hg
  unfold turnOk at this
  unfold turnOk2
  simp only [nxt_eq] at this
  unfold kd
  by_cases h : wayV (mk4 a b c e) g == 0
  · rw [if_pos h] at this ⊢
    simp only [Bool.and_eq_true] at this ⊢
    exact this.2
  · rw [if_neg h] at this ⊢
    exact this
noncomputable def bOf (v : Nat) : Bool := v == 1
theorem bOf_is {v : Nat} (h : v = 1 ∨ v = 2) : cond (bOf v) 1 2 = v := by rcases h with rfl | rfl <;> rfl
theorem three_zero {k : Nat} (h : three k = true) : k ≠ 0 := by rintro rfl; cases h
theorem three_pos {k : Nat} (h : k ≠ 0) : three k = true := by cases k with | zero => exact absurd rfl h | succ => rfl
theorem turn_cases {a b c e g : Nat} (ha : a < 3) (hb : b < 3) (hc : c < 3) (he : e < 3) (hg : g < 3) :
    (wayV (mk4 a b c e) g = 0 ∧ a = g ∧ b = g ∧ c = g ∧ e = g ∧ ∀ j, j < 2 → kd a b c e g j = 2) ∨
    (0 < wayV (mk4 a b c e) g ∧ wayV (mk4 a b c e) g < 16 ∧ nearJ a b c e g < cond (three (pat a b c e)) 3 2 ∧ kd a b c e g (nearJ a b c e g) = 0 ∧
      ∃ b1 b2, ∀ j, j < 2 ∨ (j = 2 ∧ three (pat a b c e) = true) → kd a b c e g j = ocOf (nearJ a b c e g) b1 b2 j) := by
  have h := turn_all2 ha hb hc he hg
  unfold turnOk2 at h
  simp only [] at h
  by_cases h0 : wayV (mk4 a b c e) g == 0
  · rw [if_pos h0] at h
    simp only [Bool.and_eq_true, beq_iff_eq] at h h0
    obtain ⟨h1, h2, h3, h4, h5, h6⟩ := h
    refine .inl ⟨h0, h3, h4, h5, h6, fun j hj => ?_⟩
    match j, hj with
    | 0, _ => exact h1
    | 1, _ => exact h2
  · rw [if_neg h0] at h
    simp only [Bool.and_eq_true, decide_eq_true_eq] at h
    obtain ⟨h1, h2, h3⟩ := h
    refine .inr ⟨h1, h2, ?_⟩
    by_cases hk : pat a b c e = 0
    · rw [if_pos (by simpa using hk)] at h3
      simp only [Bool.and_eq_true, Bool.or_eq_true, beq_iff_eq] at h3
      rw [hk]
      rcases h3 with ⟨p0, p1⟩ | ⟨p1, p0⟩
      · have hn : nearJ a b c e g = 0 := by unfold nearJ; rw [if_pos p0]
        rw [hn]
        refine ⟨by decide, p0, bOf (kd a b c e g 1), true, fun j hj => ?_⟩
        rcases hj with hj | ⟨_, hj⟩
        · match j, hj with
          | 0, _ => exact p0
          | 1, _ => exact (bOf_is p1).symm
        · cases hj
      · have hn : nearJ a b c e g = 1 := by unfold nearJ; rw [if_neg (by omega), if_pos p1]
        rw [hn]
        refine ⟨by decide, p1, bOf (kd a b c e g 0), true, fun j hj => ?_⟩
        rcases hj with hj | ⟨_, hj⟩
        · match j, hj with
          | 0, _ => exact (bOf_is p0).symm
          | 1, _ => exact p1
        · cases hj
    · rw [if_neg (by simpa using hk)] at h3
      simp only [Bool.and_eq_true, Bool.or_eq_true, beq_iff_eq] at h3
      rw [three_pos hk]
      rcases h3 with ⟨p0, p1, p2⟩ | ⟨p1, p0, p2⟩ | ⟨p2, p0, p1⟩
      · have hn : nearJ a b c e g = 0 := by unfold nearJ; rw [if_pos p0]
        rw [hn]
        refine ⟨by decide, p0, bOf (kd a b c e g 1), bOf (kd a b c e g 2), fun j hj => ?_⟩
        have hj' : j < 3 := by omega
        match j, hj' with
        | 0, _ => exact p0
        | 1, _ => exact (bOf_is p1).symm
        | 2, _ => exact (bOf_is p2).symm
      · have hn : nearJ a b c e g = 1 := by unfold nearJ; rw [if_neg (by omega), if_pos p1]
        rw [hn]
        refine ⟨by decide, p1, bOf (kd a b c e g 0), bOf (kd a b c e g 2), fun j hj => ?_⟩
        have hj' : j < 3 := by omega
        match j, hj' with
        | 0, _ => exact (bOf_is p0).symm
        | 1, _ => exact p1
        | 2, _ => exact (bOf_is p2).symm
      · have hn : nearJ a b c e g = 2 := by unfold nearJ; rw [if_neg (by omega), if_neg (by omega)]
        rw [hn]
        refine ⟨by decide, p2, bOf (kd a b c e g 0), bOf (kd a b c e g 1), fun j hj => ?_⟩
        have hj' : j < 3 := by omega
        match j, hj' with
        | 0, _ => exact (bOf_is p0).symm
        | 1, _ => exact (bOf_is p1).symm
        | 2, _ => exact p2
theorem kind_zero {F v : Int} (h : kindOf F v = 0) : v = F - 1 := by
  unfold kindOf at h
  split at h
  · rename_i q; simpa using q
  · split at h
    · cases h
    · split at h <;> cases h
noncomputable def nextW (a b c e g : Nat) : Nat → Nat := nxK a b c e (pat a b c e) (nearJ a b c e g)
theorem near_way {a b c e g : Nat} (h : kd a b c e g (nearJ a b c e g) = 0) : wayV (nextW a b c e g) g = wayV (mk4 a b c e) g - 1 := kind_zero h
theorem mk4_self (p : Nat → Nat) : wordS (mk4 (p 0) (p 1) (p 2) (p 3)) = wordS p := rfl
theorem way_self (p : Nat → Nat) (g : Nat) : wayV (mk4 (p 0) (p 1) (p 2) (p 3)) g = wayV p g := rfl
/-- What grows till the last turn: objects, tokens. -/
noncomputable def rem (X : Th) (q : Addr) (g : Nat) : Nat → Nat → Nat → Nat → Nat → Nat × Nat
  | 0, _, _, _, _ => (0, 0)
  | k + 1, a, b, c, e =>
    let r := rem X q g k (nextW a b c e g 0) (nextW a b c e g 1) (nextW a b c e g 2) (nextW a b c e g 3)
    (cond (three (pat a b c e)) 291 229 + r.1, (2 + tnWt (tnOf X q a b c e g (pat a b c e)) (three (pat a b c e)) (kd a b c e g)) + r.2)
theorem tnWt_congr {x : Tn} {th : Bool} {o o' : Nat → Nat} (h : ∀ j, j < 2 ∨ (j = 2 ∧ th = true) → o j = o' j) : tnWt x th o = tnWt x th o' := by
  unfold tnWt
  rw [h 0 (.inl (by decide)), h 1 (.inl (by decide))]
  cases th with
  | false => rfl
  | true => rw [h 2 (.inr ⟨rfl, rfl⟩)]
end Mine


set_option maxRecDepth 100000
set_option Elab.async false
set_option linter.unusedVariables false
set_option linter.unusedSectionVars false
namespace Mine
open PySem PySem.Calls PyProof.Rows PySem.W PySem.W.X
/-! All turns. -/
noncomputable def isName : Expr → Bool
  | .Name .. => true
  | _ => false
theorem owned_name {e : Expr} (h : isName e = true) (it : Value) : ∀ v, letOwnedTupleGo e it v = pure () := by
  cases e <;> first | (intro _; rfl) | cases h
theorem walkT_name (P : Params) : isName (walkTarget P) = true := by kernel_rfl
noncomputable def walkLoop (P : Params) (fa ia : Addr) : Code := .forLoop (walkTarget P) (.ref ia) (walkBody P) [] (walkEnv P fa)
section
variable {P : Params} {f y : Bool} {h : Heap} {n t : Nat} {tb : Array Value} {pa' : Nat → Option (Addr × Obj)} {w : World} {gens : Array GenState} {d : Drawn} {os : OsState} {fa ia : Addr} {A : Around} {E : Value → Shared → Prop}
theorem Stand.same {h' : Heap} (S : Stand P h n tb pa') (W : Away P ia pa') (hs : Heap.SameBut ia h h') : Stand P h' n tb pa' :=
  ⟨⟨fun a o e q => (hs.2 a (W.keepTop e q)).trans (S.inv.top a o e q), (hs.2 16 (fun z => absurd (show (87 : Nat) ≤ 16 from z ▸ W.high) (by decide))).trans S.inv.tab⟩, hs.1.trans S.size, fun j a o e => ⟨(S.par j a o e).1, (hs.2 a (W.par j a o e)).trans (S.par j a o e).2⟩⟩
theorem FrOk.same {h' : Heap} {wd : Str} {g : Int} {a : Addr} (F : FrOk h fa wd g a) (hn : fa ≠ ia) (hs : Heap.SameBut ia h h') : FrOk h' fa wd g a := by
  obtain ⟨H, k, tw, tg, F⟩ := F
  refine ⟨H, k, tw, tg, ?_⟩
  rw [hs.2 fa hn]
  exact F
variable {X : Th} {q : Addr} {c0 : Value} {tk : Tok} {rest : List Value} {sl : Array (Option Value)}
noncomputable def endWt (X : Th) (q : Addr) (g : Nat) : Nat := 2 + (finWt (tnOf X q g g g g g 0) + 5)
noncomputable def WalkInv (P : Params) (X : Th) (q : Addr) (oq : Obj) (hB : Heap) (gens : Array GenState) (d : Drawn) (os : OsState) (fa ia : Addr) (g : Nat) (K : Int) (SZ TT : Nat) (k : Nat) (s : Shared) : Prop :=
  ∃ a b c e n t j hh, a < 3 ∧ b < 3 ∧ c < 3 ∧ e < 3 ∧ s = ⟨hh, gens, d, t, os⟩ ∧ wayV (mk4 a b c e) g = (k : Int) ∧ j + (k : Int) = K ∧ Stand P hh (n + 1) ⟨tb3 q⟩ (X.pa q oq) ∧ FrOk hh fa (wordS (mk4 a b c e)) (g : Nat) X.a ∧
    IsRangeIter hh ia j (16 - j) 1 ∧ n + 1 + (rem X q g k a b c e).1 = SZ ∧ t + (rem X q g k a b c e).2 = TT ∧ ∀ x o, hB.get? x = some o → x ≠ 16 → hh.get? x = some o
theorem cond_size (b : Bool) (n : Nat) : n + cond b 292 230 = (n + cond b 291 229) + 1 := by cases b <;> rfl
theorem loop_go {hB : Heap} {g : Nat} {K : Int} {SZ TT k : Nat} {s : Shared} {R : Result → Shared → Prop} (hP : mkP P f y = w.params) (hd : A.depth ≤ 340) (hu : A.units ≤ 1800) (hh : A.handled = none) (hg : g < 3) (hK : K < 16)
    (W' : Away P fa (X.pa q (codeO c0 tk rest sl))) (W2 : Away P ia (X.pa q (codeO c0 tk rest sl))) (hn : fa ≠ ia) (hB1 : hB.get? fa = none) (hB2 : hB.get? ia = none)
    (I : WalkInv P X q (codeO c0 tk rest sl) hB gens d os fa ia g K SZ TT k s)
    (hR : ∀ h', Stand P h' (SZ + 230) ⟨tb3 q⟩ (X.pa q (codeO c0 tk rest sl)) → (∀ x o, hB.get? x = some o → x ≠ 16 → h'.get? x = some o) → R (.ok (.ret (.int K TT))) ⟨h', gens, d, TT + endWt X q g, os⟩) :
    codeAny (model PySem.Challenge.pw_sl0015_01 w) A (walkLoop P fa ia) R s := by
  refine codeAny_forLoop (WalkInv P X q (codeO c0 tk rest sl) hB gens d os fa ia g K SZ TT) ?_ k I (owned_name (walkT_name P) _)
  rintro k s ⟨a, b, c, e, n, t, j, hh', ha, hb, hc, he, rfl, hway, hj, S, F, hit, hsz, htk, hk⟩
  have hcase := turn_cases ha hb hc he hg
  refine wpAny_pyNext_range_item (x := j) (left := 16 - j) (step := 1) hit (by omega) fun h1 hit1 hs1 => ?_
  show wpAny _ A (assign (walkTarget P) (walkEnv P fa) (.int j t)) _ _ ⟨h1, gens, d, t + 1, os⟩
  have ia16 : ia ≠ 16 := fun z => absurd (show (87 : Nat) ≤ 16 from z ▸ W2.high) (by decide)
  refine as_go (S.same W2 hs1) W' (F.same hn hs1) hP hd hu hh fun h2 hg2 S2 F2 => ?_
  have it2 : IsRangeIter h2 ia (j + 1) (16 - j - 1) 1 := hg2 ia _ ia16 (Ne.symm hn) hit1
  have k2 : ∀ x o, hB.get? x = some o → x ≠ 16 → h2.get? x = some o := fun x o e q => hg2 x o q (fun z => by rw [z, hB1] at e; cases e) ((hs1.2 x (fun z => by rw [z, hB2] at e; cases e)).trans (hk x o e q))
  rcases hcase with ⟨h0, e1, e2, e3, e4, h5⟩ | ⟨h0, h4, h5, h6, b1, b2, h7⟩
  · subst e1 e2 e3 e4
    have hk0 : k = 0 := by omega
    subst hk0
    refine last_go S2 W' F2 hP hd hu hh hg (fun j hj => ?_) (by rw [h0]; rfl) fun h3 hg3 S3 => ?_
    · have z := h5 j hj
      unfold kd at z
      rw [pat_self] at z
      exact z
    · have hz1 : n + 231 = SZ + 230 := by rw [← hsz]; rfl
      have hz2 : t = TT := by rw [← htk]; rfl
      have hz3 : j = K := by omega
      rw [hz1] at S3
      subst hz2 hz3
      have z := hR h3 S3 fun x o e q => hg3 x o q (fun z => by rw [z, hB1] at e; cases e) (k2 x o e q)
      exact z
  · refine turn_go S2 W' F2 hP hd hu hh ha hb hc he hg h5 h7 (by simpa using (by omega : wayV (mk4 a b c e) g ≠ 0)) fun h3 hg3 S3 F3 => ?_
    obtain ⟨m, rfl⟩ : ∃ m, k = m + 1 := ⟨k - 1, by omega⟩
    refine ⟨m, Nat.lt_succ_self m, nextW a b c e g 0, nextW a b c e g 1, nextW a b c e g 2, nextW a b c e g 3, n + cond (three (pat a b c e)) 291 229, _, j + 1, h3, up4_lt ha hb hc he (mvR_lt he) 0, up4_lt ha hb hc he (mvR_lt he) 1, up4_lt ha hb hc he (mvR_lt he) 2, up4_lt ha hb hc he (mvR_lt he) 3, rfl, ?_, by omega, ?_, F3, ?_, ?_, ?_, fun x o e q => hg3 x o q (fun z => by rw [z, hB1] at e; cases e) (k2 x o e q)⟩
    · have z := near_way h6
      rw [way_self, z]
      omega
    · rw [cond_size] at S3
      exact S3
    · have z := hg3 ia _ ia16 (Ne.symm hn) it2
      have e1 : (16 : Int) - (j + 1) = 16 - j - 1 := by omega
      rw [e1]
      exact z
    · rw [← hsz]
      simp only [rem]
      omega
    · rw [← htk]
      simp only [rem]
      rw [tnWt_congr (o := kd a b c e g) h7]
      omega
end
end Mine


set_option maxRecDepth 100000
set_option Elab.async false
set_option linter.unusedVariables false
set_option linter.unusedSectionVars false
namespace Mine
open PySem PySem.Calls PyProof.Rows PySem.W PySem.W.X
/-! The walk's call. -/
noncomputable def loopTree (o0 o2 : Obj) (tb : Array Value) (c : Code) : Sem PySem.Fin := .alloc o0 fun _ => .alloc o2 fun _ => .alloc (tableObj tb) fun _ => .pure (.again c)
noncomputable def itW : Obj := { cls := .type "range_iterator", dict := none, data := .fields #[rawInt 0, rawInt 16, rawInt 1], slots := #[] }
noncomputable def loopSpec (P : Params) (n t : Nat) (wd : Str) (g K : Int) (a q : Addr) (W Wt tx : Nat) : Spec where
  D := 340
  U := 1800
  run := fun c T m i tb => match T.get 0 with
    | none => none
    | some o0 => match T.get 2 with
      | none => none
      | some o2 => some (.int K (Nat.add (Nat.add t i) tx), .nil, Nat.add m W, Nat.add i Wt, tb, .st (fun _ _ => loopTree (eraseFr o0) o2 tb c), .st (fun _ _ => loopTree (frW (fun _ => 0) (fun _ => 0) 3 [.str wd 0, .int g 0, .ref a]) itW ⟨tb3 q⟩ (walkLoop P n (Nat.add n 2))))
noncomputable def oneSp (S : Spec) : Nat → Option Spec
  | 0 => some S
  | _ => none
noncomputable def slWalk : List Nat := [0, 0, 0, 0, 1]
noncomputable def orcWalk : List Nat := (dc 21 15903780905428875796932929396186563246250162196034673032568926191300383036 [])
noncomputable def runWalk (P P' : Params) (n t : Nat) (wd : Str) (g K : Int) (a q : Addr) (W Wt tx : Nat) (t1 t2 : Tok) : Out :=
  runCall (mkV P P' n t noPa (oneSp (loopSpec P n t wd g K a q W Wt tx)) 330 1770) 100 slWalk orcWalk 80 [.str wd t1, .int g t2, .ref a] ⟨tb3 q⟩
theorem walk_run (P : Params) (f y : Bool) (n t : Nat) (wd : Str) (g K : Int) (a q : Addr) (W Wt tx : Nat) (t1 t2 : Tok) :
    res (runWalk P (mkP P f y) n t wd g K a q W Wt tx t1 t2) [] = due (runWalk P (mkP P f y) n t wd g K a q W Wt tx t1 t2) (.ok (.ret (.int K (Nat.add (Nat.add t 6) tx))), Nat.add 3 W, Nat.add 6 Wt, tb3 q, [].map some) := by
  cases f <;> kernel_rfl
section
variable {P : Params} {f y : Bool} {h : Heap} {n t : Nat} {w : World} {gens : Array GenState} {d : Drawn} {os : OsState} {A : Around}
variable {X : Th} {q : Addr} {c0 : Value} {tk : Tok} {rest : List Value} {sl : Array (Option Value)}
theorem loopTree_inj {o0 o2 o0' o2' : Obj} {tb tb' : Array Value} {c c' : Code} (h : Ob.st (fun _ _ => loopTree o0 o2 tb c) = Ob.st (fun _ _ => loopTree o0' o2' tb' c')) : o0 = o0' ∧ o2 = o2' ∧ tb = tb' ∧ c = c' := by
  injection h with h
  have h1 := congrFun (congrFun h ⟨0, 0, 0, 0⟩) []
  unfold loopTree at h1
  simp only [Sem.alloc.injEq] at h1
  obtain ⟨e1, h2⟩ := h1
  have h2 := congrFun h2 0
  simp only [Sem.alloc.injEq] at h2
  obtain ⟨e2, h3⟩ := h2
  have h3 := congrFun h3 0
  simp only [Sem.alloc.injEq] at h3
  obtain ⟨e3, h4⟩ := h3
  have h4 := congrFun h4 0
  injection h4 with h4
  injection h4 with h4
  refine ⟨e1, e2, ?_, h4⟩
  unfold tableObj at e3
  injection e3 with _ _ e4 _
  exact Data.fields.inj e4
structure WalkOk (p : Nat → Nat) (g : Nat) : Prop where
  lt : ∀ k, p k < 3
  goal : g < 3
noncomputable def walkRem (X : Th) (q : Addr) (p : Nat → Nat) (g : Nat) : Nat × Nat := rem X q g (wayV p g).toNat (p 0) (p 1) (p 2) (p 3)
theorem way_range {p : Nat → Nat} {g : Nat} (hp : ∀ k, p k < 3) (hg : g < 3) : 0 ≤ wayV p g ∧ wayV p g < 16 := by
  rcases turn_cases (hp 0) (hp 1) (hp 2) (hp 3) hg with ⟨h, _⟩ | ⟨h1, h2, _⟩
  · rw [way_self] at h; omega
  · rw [way_self] at h1 h2; omega
theorem Away.of {a : Addr} {pa : Nat → Option (Addr × Obj)} (S : Stand P h n ⟨tb3 q⟩ pa) (h1 : 87 ≤ n) (h2 : n ≤ a) : Away P a pa :=
  ⟨topLow P, Nat.le_trans h1 h2, fun j x o e z => by
    have := Heap.lt_size (S.par j x o e).2
    rw [S.size, z] at this
    exact absurd (Nat.lt_of_lt_of_le this h2) (Nat.lt_irrefl _)⟩
theorem none_of_size {b : Addr} (S : h.objs.size = n) (hb : n ≤ b) : h.get? b = none := by
  cases e : h.get? b with
  | none => rfl
  | some o =>
    have := Heap.lt_size e
    rw [S] at this
    exact absurd (Nat.lt_of_lt_of_le this hb) (Nat.lt_irrefl _)
theorem loopSpec_ok {p : Nat → Nat} {g D U : Nat} {sp : Nat → Option Spec} (S : Stand P h n ⟨tb3 q⟩ (X.pa q (codeO c0 tk rest sl))) (hP : mkP P f y = w.params) (hp : ∀ k, p k < 3) (hg : g < 3) (hn : 87 ≤ n) :
    SpecOk (mkV P (mkP P f y) n t noPa sp D U) w h gens d os (loopSpec P n t (wordS p) (g : Nat) (wayV p g) X.a q ((walkRem X q p g).1 + 230) ((walkRem X q p g).2 + endWt X q g) (walkRem X q p g).2) := by
  intro c T m i tb r' T' m' i' tb' x' y' hr hxy h1 A R Dp hd hu hh hR
  unfold loopSpec at hr
  simp only [] at hr
  split at hr
  · cases hr
  · rename_i o0 e0
    split at hr
    · cases hr
    · rename_i o2 e2
      simp only [Option.some.injEq, Prod.mk.injEq] at hr
      obtain ⟨h01, h02, h03, h04, h05, h06, h07⟩ := hr
      subst h01 h02 h03 h04 h05 h06 h07
      obtain ⟨q1, q2, q3, q4⟩ := loopTree_inj hxy
      subst q2 q3 q4
      obtain ⟨H, k, vs, rfl, ev⟩ := eraseFr_is q1
      obtain ⟨x1, x2, x3, rfl, z1, z2, z3⟩ := map_three ev
      obtain ⟨t1, rfl⟩ := erase_str z1
      obtain ⟨t2, rfl⟩ := erase_int z2
      have z3' := erase_ref z3
      subst z3'
      have W0 := Away.of (a := n) S hn (Nat.le_refl _)
      have W2 := Away.of (a := Nat.add n 2) S hn (Nat.le_add_right _ _)
      have hm : 0 < m := (Dp.own 0 _ e0).1
      obtain ⟨m0, rfl⟩ : ∃ m0, m = m0 + 1 := ⟨m - 1, by omega⟩
      obtain ⟨r1, r2⟩ := way_range hp hg
      refine loop_go (gens := gens) (d := d) (os := os) (fa := n) (ia := Nat.add n 2) (hB := h) (K := wayV p g) (SZ := n + m0 + 1 + (walkRem X q p g).1) (TT := t + i + (walkRem X q p g).2) (k := (wayV p g).toNat) hP hd hu hh hg r2 W0 W2 (fun z => ?_) (none_of_size S.size (Nat.le_refl _)) (none_of_size S.size (Nat.le_add_right _ _)) ?_ fun h' S' hk => ?_
      · have z' : n = n + 2 := z
        omega
      · refine ⟨p 0, p 1, p 2, p 3, n + m0, t + i, 0, h1, hp 0, hp 1, hp 2, hp 3, rfl, ?_, ?_, S.goX Dp, ?_, ?_, rfl, rfl, fun x o e q' => Dp.keep x o e q' (fun _ => nofun)⟩
        · rw [way_self]; omega
        · omega
        · exact ⟨H, k, t1, t2, .inl (Dp.own 0 _ e0).2⟩
        · exact (Dp.own 2 _ e2).2
      · have z := hR h' ⟨?_, fun _ _ e => (nomatch e), fun b o e q' _ => hk b o e q', Nat.zero_le _, S'.inv.tab, fun tb₀ e => Dp.more tb₀ e⟩
        · have e1 : t + i + (walkRem X q p g).2 + endWt X q g = t + Nat.add i ((walkRem X q p g).2 + endWt X q g) := by
            show _ = t + (i + _)
            omega
          rw [e1]
          exact z
        · rw [S'.size]
          show n + m0 + 1 + (walkRem X q p g).1 + 230 = n + (m0 + 1 + ((walkRem X q p g).1 + 230))
          omega
theorem walk_go {p : Nat → Nat} {g : Nat} {R : Result → Shared → Prop} (S : Stand P h n ⟨tb3 q⟩ (X.pa q (codeO c0 tk rest sl))) (hP : mkP P f y = w.params) (hp : ∀ k, p k < 3) (hg : g < 3) (hn : 87 ≤ n)
    (hd : A.depth ≤ 330) (hu : A.units ≤ 1770) (hh : A.handled = none) (t1 t2 : Tok)
    (hR : ∀ h', After h h' n (3 + ((walkRem X q p g).1 + 230)) ⟨tb3 q⟩ ⟨tb3 q⟩ [] → R (.ok (.ret (.int (wayV p g) (t + 6 + (walkRem X q p g).2)))) ⟨h', gens, d, t + (6 + ((walkRem X q p g).2 + endWt X q g)), os⟩) :
    codeAny (model PySem.Challenge.pw_sl0015_01 w) A (.call (.ref 80) ⟨[.str (wordS p) t1, .int (g : Nat) t2, .ref X.a], []⟩) R ⟨h, gens, d, t, os⟩ := by
  have O := S.bare.hyp (t := t) (sp := oneSp (loopSpec P n t (wordS p) (g : Nat) (wayV p g) X.a q ((walkRem X q p g).1 + 230) ((walkRem X q p g).2 + endWt X q g) (walkRem X q p g).2)) hP hd hu hh
  have z := walk_run P f y n t (wordS p) (g : Nat) (wayV p g) X.a q ((walkRem X q p g).1 + 230) ((walkRem X q p g).2 + endWt X q g) (walkRem X q p g).2 t1 t2
  obtain ⟨z1, z2⟩ := due_is z
  refine run_call O (fun j Z e => ?_) S.inv.tab rfl rfl z1 z2 R fun h' F => hR h' F
  match j, e with
  | 0, e => cases e; exact loopSpec_ok S hP hp hg hn
end
end Mine


set_option maxRecDepth 100000
set_option Elab.async false
set_option linter.unusedVariables false
set_option linter.unusedSectionVars false
namespace Mine
open PySem PySem.Calls PyProof.Rows PySem.W PySem.W.X
/-! Runs with the first L own objects low, side by side. -/
noncomputable def lwN (fa : Addr) (L : Nat) (i : Nat) : Option Addr := match Nat.blt i L with
  | true => some (Nat.add fa i)
  | false => none
noncomputable def GrownN (fa : Addr) (L : Nat) (h h' : Heap) : Prop := ∀ b o, b ≠ 16 → (∀ i, i < L → b ≠ Nat.add fa i) → h.get? b = some o → h'.get? b = some o
theorem GrownN.trans {fa : Addr} {L : Nat} {h h' h'' : Heap} (a : GrownN fa L h h') (b : GrownN fa L h' h'') : GrownN fa L h h'' := fun c o q q' e => b c o q q' (a c o q q' e)
structure AwayN (P : Params) (fa : Addr) (L : Nat) (pa : Nat → Option (Addr × Obj)) : Prop where
  top : TopLow P
  high : 87 ≤ fa
  par : ∀ j a o, pa j = some (a, o) → ∀ i, i < L → a ≠ Nat.add fa i
theorem blt_of {i L : Nat} (h : i < L) : Nat.blt i L = true := by simp [Nat.blt]; omega
theorem blt_not {i L : Nat} (h : ¬ i < L) : Nat.blt i L = false := by
  cases e : Nat.blt i L with
  | false => rfl
  | true => exact absurd (blt_true e) h
theorem lwN_lt {fa : Addr} {L i : Nat} (h : i < L) : lwN fa L i = some (Nat.add fa i) := by unfold lwN; rw [blt_of h]
theorem lwN_ge {fa : Addr} {L i : Nat} (h : ¬ i < L) : lwN fa L i = none := by unfold lwN; rw [blt_not h]
theorem lwN_ne {fa b : Addr} {L : Nat} (h : ∀ i, i < L → b ≠ Nat.add fa i) : ∀ i, lwN fa L i ≠ some b := by
  intro i
  by_cases hi : i < L
  · rw [lwN_lt hi]; intro q; exact h i hi (Option.some.inj q).symm
  · rw [lwN_ge hi]; exact nofun
theorem lwN_some {fa a : Addr} {L i : Nat} (h : lwN fa L i = some a) : i < L ∧ a = Nat.add fa i := by
  by_cases hi : i < L
  · rw [lwN_lt hi] at h; exact ⟨hi, (Option.some.inj h).symm⟩
  · rw [lwN_ge hi] at h; cases h
section
variable {P P' : Params} {h₀ h : Heap} {n m t D U L : Nat} {T : KT} {tb₀ tb : Array Value} {pa pa' : Nat → Option (Addr × Obj)} {sp : Nat → Option Spec} {fa : Addr}
theorem AwayN.sub (W : AwayN P fa L pa') (Q : ∀ j a o, pa j = some (a, o) → ∃ j', pa' j' = some (a, o)) : AwayN P fa L pa :=
  ⟨W.top, W.high, fun j a o e => (Q j a o e).elim fun j' e' => W.par j' a o e'⟩
theorem AwayN.keepTop (W : AwayN P fa L pa') {a : Addr} {o : Obj} (e : (KTop P).get a = some o) (q : a ≠ 16) : ∀ i, i < L → a ≠ Nat.add fa i := fun i _ z => by
  have h1 : (a : Nat) < 87 := W.top a o e q
  have h2 : (87 : Nat) ≤ Nat.add fa i := Nat.le_trans W.high (Nat.le_add_right _ _)
  exact absurd (Nat.lt_of_lt_of_le h1 (z ▸ h2)) (Nat.lt_irrefl _)
theorem Stand.goN (S : Stand P h₀ (n + L) tb₀ pa') (W : AwayN P fa L pa') (R : Rep (mkVL P P' n t pa sp D U L (lwN fa L)) h₀ h T m tb) : Stand P h (n + m) tb pa' :=
  ⟨⟨fun a o e q => R.keep a o (S.inv.top a o e q) q (lwN_ne (W.keepTop e q)), R.tab⟩, R.size, fun j a o e => ⟨(S.par j a o e).1, R.keep a o (S.par j a o e).2 (S.par j a o e).1 (lwN_ne (W.par j a o e))⟩⟩
theorem adrN_plain : ∀ j, (mkVL P P' n t pa sp D U L (lwN fa L)).L ≤ j → adr (mkVL P P' n t pa sp D U L (lwN fa L)) j = n + j := by
  intro j hj
  have : ¬ j < L := Nat.not_lt.mpr hj
  show (match lwN fa L j with | none => Nat.add n j | some a => a) = n + j
  rw [lwN_ge this]; rfl
theorem adrN_low {j : Nat} (hj : j < L) : adr (mkVL P P' n t pa sp D U L (lwN fa L)) j = Nat.add fa j := by
  show (match lwN fa L j with | none => Nat.add n j | some a => a) = Nat.add fa j
  rw [lwN_lt hj]
theorem adrN_no16 (S : Stand P h₀ (n + L) tb₀ pa') (W : AwayN P fa L pa') : ∀ j, adr (mkVL P P' n t pa sp D U L (lwN fa L)) j ≠ 16 := by
  intro j
  by_cases hj : j < L
  · rw [adrN_low hj]
    intro q
    have h2 : (87 : Nat) ≤ Nat.add fa j := Nat.le_trans W.high (Nat.le_add_right _ _)
    exact absurd (q ▸ h2 : (87 : Nat) ≤ 16) (by decide)
  · rw [adrN_plain j (Nat.not_lt.mp hj)]
    have := S.low
    intro q
    have q' : n + j = 16 := q
    omega
theorem Stand.hypN {w : World} {A : Around} (S : Stand P h (n + L) tb pa) (W : AwayN P fa L pa) (hfa : fa ≤ n) (hP : P' = w.params) (hd : A.depth ≤ D) (hu : A.units ≤ U) (hh : A.handled = none) :
    Hyp (mkVL P P' n t pa sp D U L (lwN fa L)) w h A :=
  { den := denF_eq.symm, ent := entF_eq.symm, quiet := quietF_eq.symm, P := hP, size := S.size,
    lwL := fun i a e => by
      obtain ⟨hi, rfl⟩ := lwN_some e
      refine ⟨hi, Nat.add_lt_add_of_le_of_lt hfa hi, fun q => ?_⟩
      have h2 : (87 : Nat) ≤ Nat.add fa i := Nat.le_trans W.high (Nat.le_add_right _ _)
      exact absurd (q ▸ h2 : (87 : Nat) ≤ 16) (by decide)
    lwN := fun i hi => by
      have hi' : i < L := hi
      show lwN fa L i ≠ none
      rw [lwN_lt hi']; exact nofun
    inj := fun i j a e e' => by
      obtain ⟨_, h1⟩ := lwN_some e
      obtain ⟨_, h2⟩ := lwN_some e'
      have h3 : fa + i = fa + j := h1.symm.trans h2
      exact Nat.add_left_cancel h3
    topL := fun a o i e q => lwN_ne (W.keepTop e q) i
    parL := fun j a o i e => lwN_ne (W.par j a o e) i
    top := S.inv.top, par := S.par, tab := ⟨tb, S.inv.tab⟩, depth := hd, units := hu, handled := hh }
theorem repN {T₀ : KT} (S : Stand P h (n + L) tb pa) (hT : ∀ i o, T₀.get i = some o → i < L ∧ h.get? (Nat.add fa i) = some o) :
    Rep (mkVL P P' n t pa sp D U L (lwN fa L)) h h T₀ L tb := by
  refine ⟨S.size, fun j o' e => ?_, fun _ _ e _ _ => e, Nat.le_refl L, S.inv.tab, fun tb₀ e => ⟨#[], ?_⟩⟩
  · obtain ⟨h1, h2⟩ := hT j o' e
    rw [adrN_low h1]
    exact ⟨h1, h2⟩
  · have e' := S.inv.tab
    rw [e'] at e
    have e1 := Option.some.inj e
    unfold tableObj at e1
    injection e1 with _ _ e2 _
    have e3 : tb = tb₀ := Data.fields.inj e2
    rw [e3]; simp
end
section
variable {P : Params} {f y : Bool} {h : Heap} {n t D U L : Nat} {tb : Array Value} {pa pa' : Nat → Option (Addr × Obj)} {sp : Nat → Option Spec} {w : World} {gens : Array GenState} {d : Drawn} {os : OsState} {fa : Addr} {A : Around} {E : Value → Shared → Prop}
theorem run_lowN {α β : Type} {g : KT → β} {yv : β} {enc : α → Flow} {tr : Sem α} {fl : Flow} {T₀ : KT} {W Wt F : Nat} {tb' : List Value} {sl orc : List Nat} {Q : α → Shared → Prop}
    (S : Stand P h (n + L) tb pa') (W' : AwayN P fa L pa') (Qp : ∀ j a o, pa j = some (a, o) → ∃ j', pa' j' = some (a, o)) (hfa : fa ≤ n) (hT : ∀ i o, T₀.get i = some o → i < L ∧ h.get? (Nat.add fa i) = some o)
    (hP : mkP P f y = w.params) (hd : A.depth ≤ D) (hu : A.units ≤ U) (hh : A.handled = none)
    (SO : ∀ j Z, sp j = some Z → SpecOk (mkVL P (mkP P f y) n t pa sp D U L (lwN fa L)) w h gens d os Z)
    (h1 : resG g (runEnc (mkVL P (mkP P f y) n t pa sp D U L (lwN fa L)) F sl orc enc tr T₀ L tb) = dueG (runEnc (mkVL P (mkP P f y) n t pa sp D U L (lwN fa L)) F sl orc enc tr T₀ L tb) (.ok fl, W, Wt, tb', yv))
    (hR : ∀ h' T a, enc a = fl → GrownN fa L h h' → Stand P h' (n + W) ⟨tb'⟩ pa' → (∃ more, (⟨tb'⟩ : Array Value) = tb ++ more) → (∀ i o, i < L → T.get i = some o → h'.get? (Nat.add fa i) = some o) → (∀ j o, L ≤ j → T.get j = some o → h'.get? (n + j) = some o) → g T = yv → Q a ⟨h', gens, d, t + Wt, os⟩) :
    wpAny (model PySem.Challenge.pw_sl0015_01 w) A tr Q E ⟨h, gens, d, t, os⟩ := by
  have Sb : Stand P h (n + L) tb pa := S.sub Qp
  have O := Sb.hypN (n := n) (t := t) (D := D) (U := U) (sp := sp) (W'.sub Qp) hfa hP hd hu hh
  have D₀ := repN (t := t) (D := D) (U := U) (sp := sp) (P' := mkP P f y) Sb hT
  have z := run_encG (α := α) (h := h) O SO D₀ h1 (fun r s => match r with | .ok fl' => ∀ a, enc a = fl' → Q a s | .error e => E e s) (fun h' T D eg a ea => by
    refine hR h' T a ea (fun b o q q' e => D.keep b o e q (lwN_ne q')) (S.goN W' D) (D.more tb S.inv.tab) (fun i o hi e => ?_) (fun j o hj e => ?_) eg
    · have z := (D.own i o e).2
      rw [adrN_low hi] at z
      exact z
    · have z := (D.own j o e).2
      rw [adrN_plain j hj] at z
      exact z)
  exact wpAny_mono z (fun a s q => q a rfl) (fun _ _ q => q)
end
end Mine


set_option maxRecDepth 100000
set_option Elab.async false
set_option linter.unusedVariables false
set_option linter.unusedSectionVars false
namespace Mine
open PySem PySem.Calls PyProof.Rows PySem.W PySem.W.X
/-! The law's own call: its frame, its cells. -/
noncomputable def lawFd (P : Params) : FuncData := fdOf (KTop P) 85
noncomputable def lawBody (P : Params) : List Stmt := entBody (lawFd P)
noncomputable def lName : Str := nmS [108, 97, 119, 46, 60, 108, 111, 99, 97, 108, 115, 62, 46]
noncomputable def sThirds : Str := nmS [116, 104, 105, 114, 100, 115]
noncomputable def sWord : Str := nmS [119, 111, 114, 100]
noncomputable def sNumber : Str := nmS [110, 117, 109, 98, 101, 114]
noncomputable def lEnv (fd : FuncData) (a : Addr) : Env := { scope := fd.scope, locals := a, globals := 3, cells := [(sThirds, Nat.add a 3), (sWord, Nat.add a 2), (sNumber, Nat.add a 1)], qual := lName, func := some 85, code := .ref 84, frame := some a, builtins := 0 }
noncomputable def lawEnv (P : Params) (a : Addr) : Env := lEnv (lawFd P) a
noncomputable def lNames : Nat → List Nat
  | 0 => [115, 99, 114, 105, 112, 116]
  | 1 => [103, 111, 97, 108]
  | _ => [119, 97, 121, 115]
noncomputable def entrL (H : Nat → Int) (k : Nat → Tok) (i : Nat) : List Value → List DictEntry
  | [] => []
  | v :: r => ⟨H i, .str (nmS (lNames i)) (k i), v⟩ :: entrL H k (i + 1) r
noncomputable def frL (H : Nat → Int) (k : Nat → Tok) (n : Nat) (vs : List Value) : Obj := ⟨.type "frame", none, .dict ⟨entrL H k 0 vs⟩ n, #[]⟩
noncomputable def cellO (v : Option Value) : Obj := ⟨.type "cell", none, .cell v, #[]⟩
noncomputable def eraseC : Obj → Obj
  | ⟨c, d, x, s⟩ => match x with
    | .cell v => ⟨c, d, .cell (v.map erase), s⟩
    | x => ⟨c, d, x, s⟩
noncomputable def lowT (fr c1 c2 c3 : Obj) : KT := KT.put 16 (KT.put 16 (KT.put 16 (KT.put 16 .nil 3 c3) 2 c2) 1 c1) 0 fr
noncomputable def lookL (T : KT) : Option Obj × Option Obj × Option Obj × Option Obj := ((T.get 0).map eraseFr, (T.get 1).map eraseC, (T.get 2).map eraseC, (T.get 3).map eraseC)
/-! Parts. -/
noncomputable def asgV : Stmt → Expr
  | .Assign _ v _ => v
  | _ => default
noncomputable def asgT : Stmt → Expr
  | .Assign (t :: _) _ _ => t
  | _ => default
noncomputable def binL : Expr → Expr
  | .BinOp l _ _ _ => l
  | _ => default
noncomputable def binR : Expr → Expr
  | .BinOp _ _ r _ => r
  | _ => default
noncomputable def callF : Expr → Expr
  | .Call f _ _ _ => f
  | _ => default
noncomputable def callA : Expr → Expr
  | .Call _ (a :: _) _ _ => a
  | _ => default
noncomputable def subV : Expr → Expr
  | .Subscript v _ _ => v
  | _ => default
noncomputable def subS : Expr → Expr
  | .Subscript _ s _ => s
  | _ => default
end Mine


set_option maxRecDepth 100000
set_option Elab.async false
set_option linter.unusedVariables false
set_option linter.unusedSectionVars false
namespace Mine
open PySem PySem.Calls PyProof.Rows PySem.W PySem.W.X
/-! The word: a number's digits by three. -/
noncomputable def dv (k : Nat) : Int := match k with
  | 0 => 1
  | 1 => 3
  | 2 => 9
  | _ => 27
noncomputable def wdIt (N : Int) (qq : Nat → Int) (p : Nat → Nat) (t k r : Nat) : Option Spec := match r with
  | 0 => some (biSpec "int.__floordiv__" [.int N 0, .int (dv k) 0] (fun i => .int (qq k) (Nat.add t i)) 1)
  | 1 => some (biSpec "int.__mod__" [.int (qq k) 0, .int 3 0] (fun i => .int (p k : Nat) (Nat.add t i)) 1)
  | 2 => some (cSpec "str.__getitem__" [.str rgbS 0, .int (p k : Nat) 0] (fun _ i => .str (strL [lett (p k)]) (Nat.add t i)) 0 1 fun _ _ => [])
  | _ => none
noncomputable def wdSp (N : Int) (qq : Nat → Int) (p : Nat → Nat) (t : Nat) (j : Nat) : Option Spec := match Nat.blt j 12 with
  | true => wdIt N qq p t (Nat.div j 3) (Nat.mod j 3)
  | false => none
end Mine


set_option maxRecDepth 100000
set_option Elab.async false
set_option linter.unusedVariables false
set_option linter.unusedSectionVars false
set_option maxHeartbeats 0
namespace Mine
open PySem PySem.Calls PyProof.Rows PySem.W PySem.W.X
/-! The law's statements, run part by part. -/
noncomputable def runL {α : Type} (P P' : Params) (n t : Nat) (fa : Addr) (pa : Nat → Option (Addr × Obj)) (sp : Nat → Option Spec) (T₀ : KT) (F : Nat) (sl orc : List Nat) (enc : α → Flow) (tr : Sem α) (tb : Array Value) : Out :=
  runEnc (mkVL P P' n t pa sp 320 1750 4 (lwN fa 4)) F sl orc enc tr T₀ 4 tb
noncomputable abbrev LOk {β : Type} (g : KT → β) (o : Out) (x : Result × Nat × Nat × List Value × β) : Prop := resG g o = dueG o x
noncomputable def lS (P : Params) (i : Nat) : Stmt := stmtAt (lawBody P) i
/-- The calls of sum. -/
noncomputable def lSum (P : Params) (i : Nat) : Expr := match i with
  | 0 => binR (binL (asgV (lS P 0)))
  | 1 => binL (asgV (lS P 1))
  | _ => cmpL (boolArg 0 (ifTest (lS P 6)))
noncomputable def look4 (T : KT) : Option Obj × Option Obj × Option Obj × Option Obj := (T.get 0, T.get 1, T.get 2, T.get 3)
noncomputable def low4 (fr c1 c2 c3 : Obj) : Option Obj × Option Obj × Option Obj × Option Obj := (some fr, some c1, some c2, some c3)
section
variable (P : Params) (f y : Bool) (n t : Nat) (fa : Addr) (fr c1 c2 c3 : Obj) (H : Nat → Int) (k : Nat → Tok) (tb : Array Value)
theorem nmSum {i : Nat} (hi : i < 3) : LOk look4 (runL P (mkP P f y) n t fa noPa noSp (lowT fr c1 c2 c3) 30 [] [12, 0] encV (evalF (callF (lSum P i)) (lawEnv P fa)) tb) (.ok (.ret (.builtin "sum")), 4, 0, tb.toList, low4 fr c1 c2 c3) := by
  match i, hi with
  | 0, _ => kernel_rfl
  | 1, _ => kernel_rfl
  | 2, _ => kernel_rfl
theorem nmScr {i : Nat} (hi : i < 2) (a : Addr) : LOk look4 (runL P (mkP P f y) n t fa noPa noSp (lowT (frL H k 1 [.ref a]) c1 c2 c3) 30 [] [1] encV (evalF (subV (callA (lSum P i))) (lawEnv P fa)) tb) (.ok (.ret (.ref a)), 4, 0, tb.toList, low4 (frL H k 1 [.ref a]) c1 c2 c3) := by
  match i, hi with
  | 0, _ => kernel_rfl
  | 1, _ => kernel_rfl
noncomputable def sliceO (a b c : Value) : Obj := ⟨.type "slice", none, .fields ⟨[a, b, c]⟩, #[]⟩
noncomputable def slW (i t : Nat) : Obj := match i with
  | 0 => sliceO .none (.int 20 t) (.int 2 (Nat.succ t))
  | _ => sliceO (.int 1 t) (.int 20 (Nat.succ t)) (.int 2 (Nat.succ (Nat.succ t)))
noncomputable def slWt (i : Nat) : Nat := match i with
  | 0 => 2
  | _ => 3
theorem slc {i : Nat} (hi : i < 2) : LOk (fun T => (look4 T, T.get 4)) (runL P (mkP P f y) n t fa noPa noSp (lowT fr c1 c2 c3) 30 [] [] encV (evalF (subS (callA (lSum P i))) (lawEnv P fa)) tb) (.ok (.ret (.ref (Nat.add n 4))), 5, slWt i, tb.toList, low4 fr c1 c2 c3, some (slW i t)) := by
  match i, hi with
  | 0, _ => kernel_rfl
  | 1, _ => kernel_rfl
theorem asN (N : Int) (tN : Tok) : LOk look4 (runL P (mkP P f y) n t fa noPa noSp (lowT fr (cellO none) c2 c3) 30 [] [5, 5] encU (assignF (asgT (lS P 0)) (lawEnv P fa) (.int N tN)) tb) (.ok .next, 4, 0, tb.toList, low4 fr (cellO (some (.int N tN))) c2 c3) := by
  kernel_rfl
theorem asG (a : Addr) (G : Int) (tg : Tok) : LOk lookL (runL P (mkP P f y) n t fa noPa noSp (lowT (frL H k 1 [.ref a]) c1 c2 c3) 30 [] [1, 1] encU (assignF (asgT (lS P 1)) (lawEnv P fa) (.int G tg)) tb) (.ok .next, 4, 1, tb.toList, some (frL (fun _ => 0) (fun _ => 0) 2 [.ref a, .int G 0]), some (eraseC c1), some (eraseC c2), some (eraseC c3)) := by
  kernel_rfl
noncomputable def slWd (y : Bool) : List Nat := cond y (dc 31 786218485609118847831923149198325768064051165169641138053960886510227418648081734463138854206439424 []) (dc 32 3220350917054950800719557219116342345990353572534850101469023791145891506782542784361016746829575880704 [])
noncomputable def orcWd (y : Bool) : List Nat := cond y (dc 32 202061572531979095128992937626726951573403337388931027793640725080796710694450394721636525179957795598053339561996 (dc 32 240549488378476810603942069338620882118881936227425646551456056200664604659199624383880169219711135872227557330965 (dc 30 5161632596998601856802679649237243700216866491929430385902261015772880579126958916518806531958246071160853 []))) (dc 32 240549490669175745866523810037433727627808321821168829392342282942822979700935884818241600656249896568751648669708 (dc 32 278981041497046096447883784090111615527013839448639223310758589965699603051930750817026469013339403856476406648857 (dc 32 240549490672535363046540111225798331123512485670266853515389411888005302435945486948292808026233951918093238374425 (dc 2 36873 []))))
theorem wdRun (N : Int) (qq : Nat → Int) (p : Nat → Nat) (t1 : Tok) : LOk lookL (runL P (mkP P f y) n t fa noPa (wdSp N qq p t) (lowT fr (cellO (some (.int N t1))) (cellO none) c3) 400 (slWd y) (orcWd y) encF (execsF [lS P 2] (lawEnv P fa)) tb)
    (.ok .next, 10, 41, tb.toList, some (eraseFr fr), some (cellO (some (.int N 0))), some (cellO (some (.str (wordS p) 0))), some (eraseC c3)) := by
  cases f <;> cases y <;> kernel_rfl
noncomputable def thS (n t : Nat) : Spec := mkSpec 380 1850 usTest (.cs 61 [] 0 [] []) (fun m _ => .ref (Nat.add (Nat.add n m) 13)) 164 634 (fun m i => [13, 15, 64, 113].zip (thObjs (Nat.add n m) (Nat.add t i))) (fun _ _ tb => tb)
noncomputable def lookT (T : KT) : (Option Obj × Option Obj × Option Obj × Option Obj) × (Option Obj × Option Obj × Option Obj × Option Obj) := (lookL T, T.get 17, T.get 19, T.get 68, T.get 117)
theorem thSt : LOk lookT (runL P (mkP P f y) n t fa noPa (oneSp (thS n t)) (lowT fr c1 c2 (cellO none)) 60 [1] [12, 244, 13, 13] encF (execsF [lS P 3] (lawEnv P fa)) tb)
    (.ok .next, 168, 634, tb.toList, (some (eraseFr fr), some (eraseC c1), some (eraseC c2), some (cellO (some (.ref (Nat.add (Nat.add n 4) 13))))), (some (lstO (thX (Nat.add n 4) t).all 3), some (lstO ((thX (Nat.add n 4) t).row 0) 3), some (lstO ((thX (Nat.add n 4) t).row 1) 3), some (lstO ((thX (Nat.add n 4) t).row 2) 3))) := by
  cases f <;> kernel_rfl
theorem thN (xa : Addr) : LOk look4 (runL P (mkP P f y) n t fa noPa noSp (lowT fr c1 c2 (cellO (some (.ref xa)))) 30 [] [13] encV (evalF (cmpL (ifTest (lS P 4))) (lawEnv P fa)) tb) (.ok (.ret (.ref xa)), 4, 0, tb.toList, low4 fr c1 c2 (cellO (some (.ref xa)))) := by
  kernel_rfl
noncomputable def orcTh (y : Bool) : List Nat := cond y (dc 32 356013242800145477620028276259805560531215983906185016951754404916272502006903863315729457071544693758180909383692 (dc 32 471458204293034712682408176411927102215327296035667024140554504876581179411993394692093135784356211519547519422501 (dc 32 471477001807691367308517338700470783914049877686005065884078812204805599183982053848740031861323493426644006342705 (dc 32 625428669784039215839304532859165386561566034302607589563891795910837396171079727580038319853323674086252491149361 (dc 32 625438066248429136854240012592294598033197577701999943050119703707261551221477400342880876211783792893134526222401 (dc 32 202061570238480479138913311695324438362475008345482354260881340122858690157131289686740170927045380931771921862721 (dc 32 933332010320372117558095498558751102509899507487741068720607613240614709793866435189230021057186093441944142303253 (dc 32 856356178627376959680789882518383910700688608426229836766400541442185014824082374748905656990251080440324764864545 (dc 27 942880815776305580441847980916045145619182649381857618859089503055314076192735945879691781869665 []))))))))) (dc 32 356013221581783541815711660636161576618136161262514102314554237328832140029236727379101993295125999003191146971148 (dc 32 394501163234760434383103027564500211863074932607400229905683848347184484965575771125057131717466037595603770429477 (dc 32 432989079081258149924801750170336691205104822520635367070266974987048571590604924410867427701090678636104168673321 (dc 32 586940751643483084724911478608725986905254862833222214636739762218574517094416154659038259463031163701296271364137 (dc 32 625428669784039352575865929501043018722466951068183925501989581097659311866052152707911767712096674406676509741117 (dc 32 625428669784039489312411025876037112124511051670966817356807290433229555361378262671214888615932163065953319653441 (dc 32 817868260486820691829967865326546317683083970050373049598007053082686479171173288514687489731657502040571339149377 (dc 32 933313221979709926892272382713976787842635595176653944489196987488593065637220095625471858491412857330534923472985 (dc 32 933332019494366581518381545002520469541358176821936996533931433153878096744510466344779777962066843231423194861665 (dc 11 150209580077520031668248779407352762465 []))))))))))
noncomputable def lookC (T : KT) : (Option Obj × Option Obj × Option Obj × Option Obj) × (Option Obj × Option Obj × Option Obj × Option Obj) := (look4 T, (T.get 6).map eraseO, (T.get 11).map eraseO, (T.get 17).map eraseO, (T.get 23).map eraseO)
noncomputable def iv3 (a b c : Int) : Obj := lstO [.int a 0, .int b 0, .int c 0] 0
theorem thC : LOk lookC (runL P (mkP P f y) n t fa noPa noSp (lowT fr c1 c2 c3) 900 [] (orcTh y) encV (evalF (cmpR (ifTest (lS P 4))) (lawEnv P fa)) tb)
    (.ok (.ret (.ref (Nat.add n 6))), 29, 69, tb.toList, low4 fr c1 c2 c3, (some (lstO [.ref (Nat.add n 11), .ref (Nat.add n 17), .ref (Nat.add n 23)] 0), some (iv3 0 2 1), some (iv3 2 1 0), some (iv3 1 0 2))) := by
  cases f <;> cases y <;> kernel_rfl
noncomputable def slYs (y : Bool) : List Nat := cond y (dc 15 111503725993626671368658593910074145236844544 []) (dc 16 456719261669894845926025600655663698890115252224 [])
noncomputable def orcYs (y : Bool) : List Nat := cond y (dc 32 240549488413052323448838761530655487324347137322744273734275528737095740499012257434758942918262797944719176368140 (dc 32 279037401930915564094121206297514047871219821211317923687861011449465394285340198256366242190032254656299168518169 (dc 20 12512470055641816297182072817041036579947710144558260608232859222708236 []))) (dc 32 125123308344494198756556848954445795893662266296275998450454886757532518831660387540105002347146652704816003809292 (dc 32 202061570237920406216815592246925468924641258247782189257126678924711454938765502606618276917010089565787567264016 (dc 24 3521947217504560826707923416297101302223018685953812835795284702927510188868631613461 [])))
/-- The first count of the way: the inner code is laid. -/
noncomputable def wayAS (n t : Nat) (a : Addr) (w : Str) (v : Int) : Spec :=
  mkSpec 390 1900 wtTest (.cs 68 [.str w 0, .int 0 0, .ref a] 0 [] []) (fun _ i => .int v (Nat.add (Nat.add t i) 108)) 24 109 (fun m i => [(15, codeA (Nat.add (Nat.add n m) 5) (Nat.add (Nat.add t i) 37))]) (fun m _ _ => ⟨tb3 (Nat.add (Nat.add n m) 15)⟩)
noncomputable def wiTest (idx : Nat) (c : Code) (T : KT) (tb : Array Value) : Option Ob := match c with
  | .call f a => match f with
    | .ref b => some (.cs b (a.pos.map erase) a.kw.length [T.get idx] tb.toList)
    | _ => none
  | _ => none
noncomputable def wayIS (idx n t : Nat) (o : Obj) (a : Addr) (w : Str) (g v : Int) : Spec :=
  mkSpec 390 1900 (wiTest idx) (.cs 68 [.str w 0, .int g 0, .ref a] 0 [some o] (tb3 (Nat.add n idx))) (fun _ i => .int v (Nat.add (Nat.add t i) 96)) 18 97 (fun _ _ => []) (fun _ _ tb => tb)
noncomputable def ysCode (n t : Nat) : Obj := codeA (Nat.add (Nat.add n 8) 5) (Nat.add (Nat.add t 5) 37)
noncomputable def ysSp (n t : Nat) (a : Addr) (w : Str) (v : Nat → Int) (j : Nat) : Option Spec := match j with
  | 0 => some (wayAS n t a w (v 0))
  | 1 => some (wayIS 23 n t (ysCode n t) a w 1 (v 1))
  | 2 => some (wayIS 23 n t (ysCode n t) a w 2 (v 2))
  | _ => none
noncomputable def lookY (T : KT) : (Option Obj × Option Obj × Option Obj × Option Obj) × (Option Obj × Option Obj) := (lookL T, (T.get 6).map eraseO, T.get 23)
theorem ysRun (a xa : Addr) (w : Str) (v : Nat → Int) (G : Int) (tg t2 : Tok) : LOk lookY (runL P (mkP P f y) n t fa noPa (ysSp n t xa w v) (lowT (frL H k 2 [.ref a, .int G tg]) c1 (cellO (some (.str w t2))) (cellO (some (.ref xa)))) 300 (slYs y) (orcYs y) encF (execsF [lS P 5] (lawEnv P fa)) #[])
    (.ok .next, 70, 313, tb3 (Nat.add n 23), (some (frL (fun _ => 0) (fun _ => 0) 3 [.ref a, .int G 0, .ref (Nat.add n 6)]), some (eraseC c1), some (cellO (some (.str w 0))), some (cellO (some (.ref xa)))), (some (lstO [.int (v 0) 0, .int (v 1) 0, .int (v 2) 0] 0), some (ysCode n t))) := by
  cases f <;> cases y <;> kernel_rfl
theorem nmWays (a wa : Addr) (G : Int) (tg : Tok) : LOk look4 (runL P (mkP P f y) n t fa noPa noSp (lowT (frL H k 3 [.ref a, .int G tg, .ref wa]) c1 c2 c3) 30 [] [1] encV (evalF (callA (lSum P 2)) (lawEnv P fa)) tb) (.ok (.ret (.ref wa)), 4, 0, tb.toList, low4 (frL H k 3 [.ref a, .int G tg, .ref wa]) c1 c2 c3) := by
  kernel_rfl
noncomputable def waysO (v : Nat → Int) (u : Nat → Tok) (e : Nat) : Obj := lstO [.int (v 0) (u 0), .int (v 1) (u 1), .int (v 2) (u 2)] e
noncomputable def xorV (v : Nat → Int) : Int := Builtin.bitXor (Builtin.bitXor (15 - v 0) (15 - v 1)) (15 - v 2)
theorem xorRun (a wa : Addr) (G : Int) (tg : Tok) (v : Nat → Int) (u : Nat → Tok) (e : Nat) : LOk look4 (runL P (mkP P f y) n t fa (paD1 wa (waysO v u e)) (oneSp (neS (xorV v) 15 false)) (lowT (frL H k 3 [.ref a, .int G tg, .ref wa]) c1 c2 c3) 150 [0, 0, 0, 0, 0, 0, 0, 0, 1] [1, 2, 2, 2, 2, 2, 1, 2, 2, 2, 2, 2, 1, 2, 2, 2, 2, 2] encB (isTrueF (boolArg 1 (ifTest (lS P 6))) (lawEnv P fa) (evalF (boolArg 1 (ifTest (lS P 6))) (lawEnv P fa))) tb)
    (.ok (.ret (.bool false)), 4, 12, tb.toList, low4 (frL H k 3 [.ref a, .int G tg, .ref wa]) c1 c2 c3) := by
  cases f <;> kernel_rfl
/-- The walk's call. -/
noncomputable def walkS (t : Nat) (q a : Addr) (w : Str) (g v : Int) (W Wt tx : Nat) : Spec :=
  mkSpec 330 1770 wtTest (.cs 80 [.str w 0, .int g 0, .ref a] 0 [] (tb3 q)) (fun _ i => .int v (Nat.add (Nat.add (Nat.add t i) 6) tx)) (Nat.add 3 W) (Nat.add 6 Wt) (fun _ _ => []) (fun _ _ tb => tb)
noncomputable def rtSp (t : Nat) (q a : Addr) (w : Str) (g v : Int) (W Wt tx : Nat) (j : Nat) : Option Spec := match j with
  | 0 => some (walkS t q a w g v W Wt tx)
  | 1 => some (ieS v v true)
  | _ => none
theorem retRun {g : Nat} (hg : g < 3) (a xa wa q : Addr) (w : Str) (tg t2 : Tok) (v : Nat → Int) (u : Nat → Tok) (e W Wt tx : Nat) : LOk (fun _ => ()) (runL P (mkP P f y) n t fa (paD1 wa (waysO v u e)) (rtSp t q xa w (g : Nat) (v g) W Wt tx) (lowT (frL H k 3 [.ref a, .int (g : Nat) tg, .ref wa]) c1 (cellO (some (.str w t2))) (cellO (some (.ref xa)))) 80 [1, 0, 3] [12, 9, 1, 13, 320, 1, 1, 2, 2, 2, 2, 2] encF (execsF ((lawBody P).drop 7) (lawEnv P fa)) ⟨tb3 q⟩)
    (.ok (.ret (.bool true)), Nat.add 4 (Nat.add 3 W), Nat.add 0 (Nat.add 6 Wt), tb3 q, ()) := by
  match g, hg with
  | 0, _ => cases f <;> kernel_rfl
  | 1, _ => cases f <;> kernel_rfl
  | 2, _ => cases f <;> kernel_rfl
end
end Mine


set_option maxRecDepth 100000
set_option Elab.async false
set_option linter.unusedVariables false
set_option linter.unusedSectionVars false
namespace Mine
open PySem PySem.Calls PyProof.Rows PySem.W PySem.W.X
theorem strget_mini {p : Nat} (hp : p < 3) : Mini P noPa 30 [] "str.__getitem__" [.str rgbS 0, .int (p : Nat) 0] (fun _ t => .str (strL [lett p]) t) 0 1 [] (fun _ _ => []) := by
  intro f y vs n t tb hv
  obtain ⟨u, v, rfl, eu, ev⟩ := map_two hv
  obtain ⟨tu, rfl⟩ := erase_str eu
  obtain ⟨tv, rfl⟩ := erase_int ev
  rcases lt3 hp with rfl | rfl | rfl <;> cases f <;> kernel_rfl
section
variable {P : Params} {f y : Bool} {h₀ : Heap} {n t D U : Nat} {tb₀ : Array Value} {pa pa' : Nat → Option (Addr × Obj)} {sp : Nat → Option Spec} {w : World} {gens : Array GenState} {d : Drawn} {os : OsState} {fa : Addr}
theorem miniN {id : String} {args : List Value} {r : Nat → Nat → Value} {W Wt : Nat} {js : List Nat} {objs : Nat → Nat → List Obj} {F : Nat} {orc : List Nat} (S : Stand P h₀ (n + 4) tb₀ pa') (Wy : AwayN P fa 4 pa') (hP : mkP P f y = w.params)
    (H : Mini P pa' F orc id args r W Wt js objs) :
    SpecOk (mkVL P (mkP P f y) n t pa sp D U 4 (lwN fa 4)) w h₀ gens d os (cSpec id args (fun m i => r (n + m) (t + i)) W Wt fun m i => js.zip (objs (n + m) (t + i))) := by
  refine spec_okL (V := mkVL P (mkP P f y) n t pa sp D U 4 (lwN fa 4)) adrN_plain (adrN_no16 S Wy) fun c T m i tb h A R ht Dp h1 h2 h3 hR => ?_
  obtain ⟨vs, e, hv⟩ := biTest_is ht
  subst e
  have O := (S.goN Wy Dp).hyp (t := t + i) (sp := noSp) hP h1 h2 h3
  refine run_code (V := mkV P (mkP P f y) (n + m) (t + i) pa' noSp 100000 100000) O (fun j S e => by cases e) (S.goN Wy Dp).inv.tab (H f y vs (n + m) (t + i) tb hv) R fun h' F => ?_
  exact hR h' F
theorem AwayN.bare (W : AwayN P fa 4 pa') : AwayN P fa 4 noPa := W.sub noPa_sub
theorem fdN_ok {a b : Int} (S : Stand P h₀ (n + 4) tb₀ pa') (Wy : AwayN P fa 4 pa') (h0 : ¬(b == 0) = true) (h1 : ¬(Builtin.divisionGoesByPylong a b) = true) :
    SpecOk (mkVL P (mkP P f y) n t pa sp D U 4 (lwN fa 4)) w h₀ gens d os (biSpec "int.__floordiv__" [.int a 0, .int b 0] (fun i => .int (a.fdiv b) (Nat.add t i)) 1) :=
  bi_int (V := mkVL P (mkP P f y) n t pa sp D U 4 (lwN fa 4)) adrN_plain (adrN_no16 S Wy) F.slot_int_floordiv F.entry_int_floordiv F.args_int_floordiv_2 fun t u => AutoIntG4.int___floordiv___int_int_1 a t b u h0 h1
theorem mdN_ok {a b : Int} (S : Stand P h₀ (n + 4) tb₀ pa') (Wy : AwayN P fa 4 pa') (h0 : ¬(b == 0) = true) :
    SpecOk (mkVL P (mkP P f y) n t pa sp D U 4 (lwN fa 4)) w h₀ gens d os (biSpec "int.__mod__" [.int a 0, .int b 0] (fun i => .int (a.fmod b) (Nat.add t i)) 1) :=
  bi_int (V := mkVL P (mkP P f y) n t pa sp D U 4 (lwN fa 4)) adrN_plain (adrN_no16 S Wy) F.slot_int_mod F.entry_int_mod F.args_int_mod_2 fun t u => AutoIntG6.int___mod___int_int_1 a t b u h0
theorem neN_ok {a b : Int} {z : Bool} (S : Stand P h₀ (n + 4) tb₀ pa') (Wy : AwayN P fa 4 pa') (hz : (a != b) = z) : SpecOk (mkVL P (mkP P f y) n t pa sp D U 4 (lwN fa 4)) w h₀ gens d os (neS a b z) := by
  subst hz
  exact bi_bool (V := mkVL P (mkP P f y) n t pa sp D U 4 (lwN fa 4)) adrN_plain (adrN_no16 S Wy) F.slot_int_ne F.entry_int_ne F.args_int_ne_2 fun t u => AutoIntG6.int___ne___int_int_0 a t b u
theorem ieN_ok {a b : Int} {z : Bool} (S : Stand P h₀ (n + 4) tb₀ pa') (Wy : AwayN P fa 4 pa') (hz : (a == b) = z) : SpecOk (mkVL P (mkP P f y) n t pa sp D U 4 (lwN fa 4)) w h₀ gens d os (ieS a b z) := by
  subst hz
  exact bi_bool (V := mkVL P (mkP P f y) n t pa sp D U 4 (lwN fa 4)) adrN_plain (adrN_no16 S Wy) F.slot_int_eq F.entry_int_eq F.args_int_eq_2 fun t u => AutoIntG7.int___eq___int_int_0 a t b u
/-- A number's digits by three. -/
noncomputable def digQ (N : Int) (k : Nat) : Int := N.fdiv (dv k)
noncomputable def digP (N : Int) (k : Nat) : Nat := ((digQ N k).fmod 3).toNat
theorem digP_lt (N : Int) (k : Nat) : digP N k < 3 := by
  unfold digP
  have := Int.fmod_lt_of_pos (digQ N k) (b := 3) (by decide)
  have := Int.fmod_nonneg_of_pos (digQ N k) (b := 3) (by decide)
  omega
theorem digP_int (N : Int) (k : Nat) : ((digP N k : Nat) : Int) = (digQ N k).fmod 3 := by
  unfold digP
  have := Int.fmod_nonneg_of_pos (digQ N k) (b := 3) (by decide)
  omega
theorem wd_it (N : Int) {k r : Nat} {Z : Spec} (S : Stand P h₀ (n + 4) tb₀ pa') (Wy : AwayN P fa 4 pa') (hP : mkP P f y = w.params) (e : wdIt N (digQ N) (digP N) t k r = some Z) :
    SpecOk (mkVL P (mkP P f y) n t pa sp D U 4 (lwN fa 4)) w h₀ gens d os Z := by
  match r, e with
  | 0, e =>
    cases e
    have h0 : ¬(dv k == 0) = true := by unfold dv; split <;> decide
    have h1 : ¬(Builtin.divisionGoesByPylong N (dv k)) = true := by
      have : Builtin.divisionGoesByPylong N (dv k) = false := by
        unfold dv
        split <;> rfl
      rw [this]; exact Bool.false_ne_true
    exact fdN_ok S Wy h0 h1
  | 1, e =>
    cases e
    have z := mdN_ok (P := P) (f := f) (y := y) (t := t) (pa := pa) (sp := sp) (D := D) (U := U) (w := w) (gens := gens) (d := d) (os := os) (a := digQ N k) (b := 3) S Wy (by decide)
    rw [← digP_int] at z
    exact z
  | 2, e =>
    cases e
    exact miniN (r := fun _ t => .str (strL [lett (digP N k)]) t) (objs := fun _ _ => []) (js := []) S.bare Wy.bare hP (strget_mini (digP_lt N k))
  | _ + 3, e => cases e
theorem wd_sp (N : Int) (S : Stand P h₀ (n + 4) tb₀ pa') (Wy : AwayN P fa 4 pa') (hP : mkP P f y = w.params) : ∀ j Z, wdSp N (digQ N) (digP N) t j = some Z → SpecOk (mkVL P (mkP P f y) n t pa sp D U 4 (lwN fa 4)) w h₀ gens d os Z := by
  intro j Z e
  unfold wdSp at e
  split at e
  · exact wd_it N S Wy hP e
  · cases e
theorem thS_ok (S : Stand P h₀ (n + 4) tb₀ pa') (Wy : AwayN P fa 4 pa') (hP : mkP P f y = w.params) : SpecOk (mkVL P (mkP P f y) n t pa sp D U 4 (lwN fa 4)) w h₀ gens d os (thS n t) := by
  refine spec_okL (V := mkVL P (mkP P f y) n t pa sp D U 4 (lwN fa 4)) adrN_plain (adrN_no16 S Wy) fun c T m i tb h A R ht Dp h1 h2 h3 hR => ?_
  obtain ⟨vs, rfl, hv⟩ := usTest_is ht
  have : vs = [] := List.map_eq_nil_iff.mp hv
  subst this
  exact th_go (t := t + i) (S.goN Wy Dp) hP h1 h2 h3 fun h' F => hR h' F
variable {X : Th} {q : Addr} {c0 : Value} {tk : Tok} {rest : List Value} {sl : Array (Option Value)}
/-- The thirds alone. -/
noncomputable def Th.pa0 (X : Th) : Nat → Option (Addr × Obj) := X.pa X.a (lstO X.all (X.e 0))
theorem wayAS_ok {p : Nat → Nat} (S : Stand P h₀ (n + 4) tb₀ X.pa0) (Wy : AwayN P fa 4 X.pa0) (hP : mkP P f y = w.params) (hp : ∀ k, p k < 3) :
    SpecOk (mkVL P (mkP P f y) n t pa sp D U 4 (lwN fa 4)) w h₀ gens d os (wayAS n t X.a (wordS p) (wayV p 0)) := by
  refine spec_okL (V := mkVL P (mkP P f y) n t pa sp D U 4 (lwN fa 4)) adrN_plain (adrN_no16 S Wy) fun c T m i tb h A R ht Dp h1 h2 h3 hR => ?_
  obtain ⟨vs, rfl, hv, htb⟩ := wtTest_is ht
  obtain ⟨u, v, x, rfl, eu, ev, ex⟩ := map_three hv
  obtain ⟨t1, rfl⟩ := erase_str eu
  obtain ⟨t2, rfl⟩ := erase_int ev
  have ex' := erase_ref ex
  subst ex'
  have htb' : tb = #[] := Array.ext' htb
  subst htb'
  exact wayA_go (g := 0) (t := t + i) (S.goN Wy Dp) hP hp (by decide) h1 h2 h3 t1 t2 fun h' F => hR h' F
theorem wiTest_is {idx f : Nat} {c : Code} {T : KT} {tb : Array Value} {args : List Value} {o : Obj} {l : List Value} (h : wiTest idx c T tb = some (.cs f args 0 [some o] l)) :
    ∃ vs, c = .call (.ref f) ⟨vs, []⟩ ∧ vs.map erase = args ∧ T.get idx = some o ∧ tb.toList = l := by
  unfold wiTest at h
  split at h
  · rename_i f a
    split at h
    · rename_i b
      simp only [Option.some.injEq, Ob.cs.injEq, List.cons.injEq, and_true] at h
      obtain ⟨h1, h2, h3, h4, h5⟩ := h
      subst h1
      obtain ⟨pos, kw⟩ := a
      have : kw = [] := List.length_eq_zero_iff.mp h3
      subst this
      exact ⟨pos, rfl, h2, h4, h5⟩
    · cases h
  · cases h
/-- The thirds, with a code object more. -/
theorem Th.stand4 {h : Heap} {N : Nat} {tb : Array Value} {a : Addr} {o : Obj} (S : Stand P h N tb X.pa0) (h16 : a ≠ 16) (ho : h.get? a = some o) : Stand P h N tb (X.pa a o) := by
  refine ⟨S.inv, S.size, fun j b x e => ?_⟩
  match j, e with
  | 0, e => cases e; exact S.par 0 _ _ rfl
  | 1, e => cases e; exact S.par 1 _ _ rfl
  | 2, e => cases e; exact S.par 2 _ _ rfl
  | 3, e => cases e; exact S.par 3 _ _ rfl
  | 4, e => cases e; exact ⟨h16, ho⟩
theorem wayIS_ok {p : Nat → Nat} {g idx : Nat} {o : Obj} (ho : o = codeO c0 tk rest sl) (hidx : 4 ≤ idx) (S : Stand P h₀ (n + 4) tb₀ X.pa0) (Wy : AwayN P fa 4 X.pa0) (hP : mkP P f y = w.params) (hp : ∀ k, p k < 3) (hg : g < 3) :
    SpecOk (mkVL P (mkP P f y) n t pa sp D U 4 (lwN fa 4)) w h₀ gens d os (wayIS idx n t o X.a (wordS p) (g : Nat) (wayV p g)) := by
  subst ho
  refine spec_okL (V := mkVL P (mkP P f y) n t pa sp D U 4 (lwN fa 4)) adrN_plain (adrN_no16 S Wy) fun c T m i tb h A R ht Dp h1 h2 h3 hR => ?_
  obtain ⟨vs, rfl, hv, hT, htb⟩ := wiTest_is ht
  obtain ⟨u, v, x, rfl, eu, ev, ex⟩ := map_three hv
  obtain ⟨t1, rfl⟩ := erase_str eu
  obtain ⟨t2, rfl⟩ := erase_int ev
  have ex' := erase_ref ex
  subst ex'
  have htb' : tb = ⟨tb3 (Nat.add n idx)⟩ := Array.ext' htb
  subst htb'
  have hq := (Dp.own idx _ hT).2
  rw [adrN_plain idx hidx] at hq
  have S' := Th.stand4 (S.goN Wy Dp) (fun z => adrN_no16 (P' := mkP P f y) (t := t) (pa := pa) (sp := sp) (D := D) (U := U) S Wy idx ((adrN_plain idx hidx).trans z)) hq
  exact wayB_go (t := t + i) S' hP hp hg h1 h2 h3 t1 t2 fun h' F => hR h' F
theorem ys_sp {p : Nat → Nat} (S : Stand P h₀ (n + 4) tb₀ X.pa0) (Wy : AwayN P fa 4 X.pa0) (hP : mkP P f y = w.params) (hp : ∀ k, p k < 3) :
    ∀ j Z, ysSp n t X.a (wordS p) (wayV p) j = some Z → SpecOk (mkVL P (mkP P f y) n t pa sp D U 4 (lwN fa 4)) w h₀ gens d os Z := by
  intro j Z e
  match j, e with
  | 0, e => cases e; exact wayAS_ok S Wy hP hp
  | 1, e => cases e; exact wayIS_ok rfl (by decide) S Wy hP hp (g := 1) (by decide)
  | 2, e => cases e; exact wayIS_ok rfl (by decide) S Wy hP hp (g := 2) (by decide)
  | _ + 3, e => cases e
theorem walkS_ok {p : Nat → Nat} {g : Nat} (S : Stand P h₀ (n + 4) tb₀ (X.pa q (codeO c0 tk rest sl))) (Wy : AwayN P fa 4 (X.pa q (codeO c0 tk rest sl))) (hP : mkP P f y = w.params) (hp : ∀ k, p k < 3) (hg : g < 3) (hn : 87 ≤ n) :
    SpecOk (mkVL P (mkP P f y) n t pa sp D U 4 (lwN fa 4)) w h₀ gens d os (walkS t q X.a (wordS p) (g : Nat) (wayV p g) ((walkRem X q p g).1 + 230) ((walkRem X q p g).2 + endWt X q g) (walkRem X q p g).2) := by
  refine spec_okL (V := mkVL P (mkP P f y) n t pa sp D U 4 (lwN fa 4)) adrN_plain (adrN_no16 S Wy) fun c T m i tb h A R ht Dp h1 h2 h3 hR => ?_
  obtain ⟨vs, rfl, hv, htb⟩ := wtTest_is ht
  obtain ⟨u, v, x, rfl, eu, ev, ex⟩ := map_three hv
  obtain ⟨t1, rfl⟩ := erase_str eu
  obtain ⟨t2, rfl⟩ := erase_int ev
  have ex' := erase_ref ex
  subst ex'
  have htb' : tb = ⟨tb3 q⟩ := Array.ext' htb
  subst htb'
  exact walk_go (t := t + i) (S.goN Wy Dp) hP hp hg (Nat.le_trans hn (Nat.le_add_right _ _)) h1 h2 h3 t1 t2 fun h' F => hR h' F
theorem rt_sp {p : Nat → Nat} {g : Nat} (S : Stand P h₀ (n + 4) tb₀ (X.pa q (codeO c0 tk rest sl))) (Wy : AwayN P fa 4 (X.pa q (codeO c0 tk rest sl))) (hP : mkP P f y = w.params) (hp : ∀ k, p k < 3) (hg : g < 3) (hn : 87 ≤ n) :
    ∀ j Z, rtSp t q X.a (wordS p) (g : Nat) (wayV p g) ((walkRem X q p g).1 + 230) ((walkRem X q p g).2 + endWt X q g) (walkRem X q p g).2 j = some Z → SpecOk (mkVL P (mkP P f y) n t pa sp D U 4 (lwN fa 4)) w h₀ gens d os Z := by
  intro j Z e
  match j, e with
  | 0, e => cases e; exact walkS_ok S Wy hP hp hg hn
  | 1, e => cases e; exact ieN_ok S Wy (by simp)
  | _ + 2, e => cases e
end
end Mine


set_option maxRecDepth 100000
set_option Elab.async false
set_option linter.unusedVariables false
set_option linter.unusedSectionVars false
namespace Mine
open PySem PySem.Calls PyProof.Rows PySem.W PySem.W.X PySem.SeqAt
/-! Rules by the parts of an expression. -/
noncomputable def isConstI (c : Int) : Expr → Bool
  | .Constant (.int i) _ _ => i == c
  | _ => false
noncomputable def isBin (m : Bool) : Expr → Bool
  | .BinOp _ .Add _ _ => !m
  | .BinOp _ .Mod _ _ => m
  | _ => false
noncomputable def isSumSl : Expr → Bool
  | .Call (.Name _ _) [.Subscript (.Name _ _) (.Slice _ _ (some _) _) _] [] _ => true
  | _ => false
noncomputable def isSumNm : Expr → Bool
  | .Call (.Name _ _) [.Name _ _] [] _ => true
  | _ => false
noncomputable def isAsgB : Stmt → Bool
  | .Assign [.Name _ _] (.BinOp _ _ _ _) _ => true
  | _ => false
noncomputable def isOr2 : Expr → Bool
  | .BoolOp .Or [_, _] _ => true
  | _ => false
section
variable {M : Model} {A : Around} {E : Value → Shared → Prop} {s : Shared} {env : Env}
theorem eval_constI {e : Expr} {c : Int} {Q : Value → Shared → Prop} (he : isConstI c e = true) (h : Q (.int c s.toks) { s with toks := s.toks + 1 }) : wpAny M A (eval e env) Q E s := by
  unfold isConstI at he
  split at he
  · rename_i i k p
    have e : i = c := by simpa using he
    subst e
    exact wpAny_Constant_int h
  · cases he
theorem eval_add {e : Expr} {Q : Value → Shared → Prop} (he : isBin false e = true)
    (h : wpAny M A (eval (binL e) env) (fun a s₁ => wpAny M A (eval (binR e) env) (fun b s₂ => wpAny M A (binaryOp .Add a b) Q E s₂) E s₁) E s) : wpAny M A (eval e env) Q E s := by
  unfold isBin at he
  split at he
  · exact wpAny_BinOp h
  · cases he
  · cases he
theorem eval_mod {e : Expr} {Q : Value → Shared → Prop} (he : isBin true e = true)
    (h : wpAny M A (eval (binL e) env) (fun a s₁ => wpAny M A (eval (binR e) env) (fun b s₂ => wpAny M A (binaryOp .Mod a b) Q E s₂) E s₁) E s) : wpAny M A (eval e env) Q E s := by
  unfold isBin at he
  split at he
  · cases he
  · exact wpAny_BinOp h
  · cases he
theorem exec_asgB {st : Stmt} {Q : Flow → Shared → Prop} (hs : isAsgB st = true)
    (h : wpAny M A (eval (asgV st) env) (fun v s₁ => wpAny M A (assign (asgT st) env v) (fun _ => Q .next) E s₁) E s) : wpAny M A (exec st env) Q E s := by
  unfold isAsgB at hs
  split at hs
  · rename_i x p l op r p2 pos
    rw [exec_Assign_Name env x p (.BinOp l op r p2) pos rfl]
    refine wpAny_bind (wpAny_standAt (wpAny_bind (wpAny_mono h (fun v s₁ h₁ => ?_) fun _ _ q => q)))
    show wpAny M A ((assign (.Name x p) env v).bind fun _ => pure .next) Q E s₁
    exact wpAny_bind (wpAny_mono h₁ (fun _ _ q => wpAny_pure q) fun _ _ q => q)
  · cases hs
theorem isTrue_or2 {e : Expr} {whole : Sem Value} {Q : Bool → Shared → Prop} (he : isOr2 e = true)
    (h : wpAny M A (isTrue (boolArg 0 e) env (eval (boolArg 0 e) env)) (fun c s' => if c then Q true s' else wpAny M A (isTrue (boolArg 1 e) env (eval (boolArg 1 e) env)) Q E s') E s) :
    wpAny M A (isTrue e env whole) Q E s := by
  unfold isOr2 at he
  split at he
  · rename_i x y p
    refine isTrue_or (wpAny_mono h (fun c s' h' => ?_) fun _ _ x => x)
    cases c with
    | true => exact h'
    | false =>
      refine isTrue_or (wpAny_mono h' (fun c' s'' h'' => ?_) fun _ _ x => x)
      cases c' with
      | true => exact h''
      | false => exact isTrue_or_nil h''
  · cases he
end
section
variable {prog : Program} {w : World} {A : Around} {E : Value → Shared → Prop} {s : Shared} {env : Env}
theorem eval_sumNm {e : Expr} {Q : Value → Shared → Prop} (he : isSumNm e = true)
    (h : wpAny (model prog w) A (eval (callF e) env) (fun f s₁ => f = .builtin "sum" ∧ wpAny (model prog w) A (eval (callA e) env) (fun v s₂ => wpAny (model prog w) A (call (.builtin "sum") [v]) Q E s₂) E s₁) E s) : wpAny (model prog w) A (eval e env) Q E s := by
  unfold isSumNm at he
  split at he
  · refine Call_Name1 (wpAny_mono h (fun f s₁ h₁ => ?_) fun _ _ q => q)
    obtain ⟨rfl, h₁⟩ := h₁
    exact callWith_builtin1 h₁
  · cases he
theorem eval_sumSl {e : Expr} {Q : Value → Shared → Prop} (he : isSumSl e = true)
    (h : wpAny (model prog w) A (eval (callF e) env) (fun f s₁ => f = .builtin "sum" ∧ wpAny (model prog w) A (eval (subV (callA e)) env) (fun o s₂ => wpAny (model prog w) A (eval (subS (callA e)) env) (fun i s₃ =>
      ∃ l a, o = .ref l ∧ i = .ref a ∧ s₃.TypeIs (.ref l) "list" ∧ wpAny (model prog w) A (getItem (.ref l) (.ref a)) (fun v s₄ => wpAny (model prog w) A (call (.builtin "sum") [v]) Q E s₄) E s₃) E s₂) E s₁) E s) :
    wpAny (model prog w) A (eval e env) Q E s := by
  unfold isSumSl at he
  split at he
  · refine Call_Name1 (wpAny_mono h (fun f s₁ h₁ => ?_) fun _ _ q => q)
    obtain ⟨rfl, h₁⟩ := h₁
    refine callWith_builtin1 (Subscript_ (wpAny_mono h₁ (fun o s₂ h₂ => wpAny_mono h₂ (fun i s₃ h₃ => ?_) fun _ _ q => q) fun _ _ q => q))
    obtain ⟨l, a, rfl, rfl, hT, h₃⟩ := h₃
    exact subscriptTail_ops hT list_getitem_lookup h₃ (by with_unfolding_all rfl) (by intro _; with_unfolding_all rfl)
  · cases he
end
theorem lS0 (P : Params) : isAsgB (lS P 0) = true ∧ isBin true (asgV (lS P 0)) = true ∧ isBin false (binL (asgV (lS P 0))) = true ∧ isConstI 75 (binL (binL (asgV (lS P 0)))) = true ∧ isConstI 81 (binR (asgV (lS P 0))) = true ∧ isSumSl (lSum P 0) = true := by
  refine ⟨?_, ?_, ?_, ?_, ?_, ?_⟩ <;> kernel_rfl
theorem lS1 (P : Params) : isAsgB (lS P 1) = true ∧ isBin true (asgV (lS P 1)) = true ∧ isConstI 3 (binR (asgV (lS P 1))) = true ∧ isSumSl (lSum P 1) = true := by
  refine ⟨?_, ?_, ?_, ?_⟩ <;> kernel_rfl
theorem lS4 (P : Params) : isIf (lS P 4) = true ∧ isCmp false (ifTest (lS P 4)) = true ∧ ifElse (lS P 4) = [] := by
  refine ⟨?_, ?_, ?_⟩ <;> kernel_rfl
theorem lS6 (P : Params) : isIf (lS P 6) = true ∧ isOr2 (ifTest (lS P 6)) = true ∧ isCmp false (boolArg 0 (ifTest (lS P 6))) = true ∧ isSumNm (lSum P 2) = true ∧ isConstI 30 (cmpR (boolArg 0 (ifTest (lS P 6)))) = true ∧ ifElse (lS P 6) = [] := by
  refine ⟨?_, ?_, ?_, ?_, ?_, ?_⟩ <;> kernel_rfl
theorem law_split (P : Params) : lawBody P = lS P 0 :: lS P 1 :: ([lS P 2] ++ ([lS P 3] ++ (lS P 4 :: ([lS P 5] ++ (lS P 6 :: (lawBody P).drop 7))))) := by kernel_rfl
end Mine


set_option maxRecDepth 100000
set_option Elab.async false
set_option linter.unusedVariables false
set_option linter.unusedSectionVars false
namespace Mine
open PySem PySem.Calls PyProof.Rows PySem.W PySem.W.X PySem.SeqAt
/-- Where the law's call stands. -/
structure LSt (P : Params) (h : Heap) (n : Nat) (tb : Array Value) (pa : Nat → Option (Addr × Obj)) (fa : Addr) (fr c1 c2 c3 : Obj) : Prop where
  stand : Stand P h (n + 4) tb pa
  away : AwayN P fa 4 pa
  hfa : fa ≤ n
  f0 : h.get? (Nat.add fa 0) = some fr
  f1 : h.get? (Nat.add fa 1) = some c1
  f2 : h.get? (Nat.add fa 2) = some c2
  f3 : h.get? (Nat.add fa 3) = some c3
theorem lowT_get (fr c1 c2 c3 : Obj) (i : Nat) (o : Obj) (e : (lowT fr c1 c2 c3).get i = some o) : (i = 0 ∧ fr = o) ∨ (i = 1 ∧ c1 = o) ∨ (i = 2 ∧ c2 = o) ∨ (i = 3 ∧ c3 = o) := by
  unfold lowT at e
  rw [put_get _ 16 _ 0 i (by decide), put_get _ 16 _ 1 i (by decide), put_get _ 16 _ 2 i (by decide), put_get _ 16 _ 3 i (by decide)] at e
  by_cases h0 : i = 0
  · rw [if_pos h0] at e; exact .inl ⟨h0, Option.some.inj e⟩
  · rw [if_neg h0] at e
    by_cases h1 : i = 1
    · rw [if_pos h1] at e; exact .inr (.inl ⟨h1, Option.some.inj e⟩)
    · rw [if_neg h1] at e
      by_cases h2 : i = 2
      · rw [if_pos h2] at e; exact .inr (.inr (.inl ⟨h2, Option.some.inj e⟩))
      · rw [if_neg h2] at e
        by_cases h3 : i = 3
        · rw [if_pos h3] at e; exact .inr (.inr (.inr ⟨h3, Option.some.inj e⟩))
        · rw [if_neg h3] at e; cases e
section
variable {P : Params} {f y : Bool} {h : Heap} {n t : Nat} {tb : Array Value} {pa : Nat → Option (Addr × Obj)} {w : World} {gens : Array GenState} {d : Drawn} {os : OsState} {fa : Addr} {A : Around} {E : Value → Shared → Prop} {fr c1 c2 c3 : Obj}
theorem LSt.get (L : LSt P h n tb pa fa fr c1 c2 c3) : ∀ i o, (lowT fr c1 c2 c3).get i = some o → i < 4 ∧ h.get? (Nat.add fa i) = some o := by
  intro i o e
  rcases lowT_get fr c1 c2 c3 i o e with ⟨rfl, rfl⟩ | ⟨rfl, rfl⟩ | ⟨rfl, rfl⟩ | ⟨rfl, rfl⟩
  · exact ⟨by decide, L.f0⟩
  · exact ⟨by decide, L.f1⟩
  · exact ⟨by decide, L.f2⟩
  · exact ⟨by decide, L.f3⟩
theorem LSt.keep {h' : Heap} (L : LSt P h n tb pa fa fr c1 c2 c3) (hk : ∀ b o, h.get? b = some o → h'.get? b = some o) : ∃ n', LSt P h' n' tb pa fa fr c1 c2 c3 := by
  have h3 := Heap.lt_size (hk _ _ L.f3)
  have key : ∀ (F N : Nat), F + 3 < N → F ≤ N - 4 ∧ N = (N - 4) + 4 := by omega
  obtain ⟨k1, k2⟩ := key fa h'.objs.size h3
  exact ⟨h'.objs.size - 4, ⟨⟨fun a o e q => hk _ _ (L.stand.inv.top a o e q), hk _ _ L.stand.inv.tab⟩, k2, fun j a o e => ⟨(L.stand.par j a o e).1, hk _ _ (L.stand.par j a o e).2⟩⟩, L.away, k1, hk _ _ L.f0, hk _ _ L.f1, hk _ _ L.f2, hk _ _ L.f3⟩
theorem LSt.run {α β : Type} {g : KT → β} {yv : β} {enc : α → Flow} {tr : Sem α} {fl : Flow} {W Wt F : Nat} {tb' : List Value} {sl orc : List Nat} {paV : Nat → Option (Addr × Obj)} {sp : Nat → Option Spec} {Q : α → Shared → Prop}
    (L : LSt P h n tb pa fa fr c1 c2 c3) (hP : mkP P f y = w.params) (hd : A.depth ≤ 320) (hu : A.units ≤ 1750) (hh : A.handled = none) (Qp : ∀ j a o, paV j = some (a, o) → ∃ j', pa j' = some (a, o))
    (SO : ∀ j Z, sp j = some Z → SpecOk (mkVL P (mkP P f y) n t paV sp 320 1750 4 (lwN fa 4)) w h gens d os Z)
    (h1 : LOk g (runL P (mkP P f y) n t fa paV sp (lowT fr c1 c2 c3) F sl orc enc tr tb) (.ok fl, W, Wt, tb', yv))
    (hR : ∀ h' T a, enc a = fl → GrownN fa 4 h h' → Stand P h' (n + W) ⟨tb'⟩ pa → (∃ more, (⟨tb'⟩ : Array Value) = tb ++ more) → (∀ i o, i < 4 → T.get i = some o → h'.get? (Nat.add fa i) = some o) → (∀ j o, 4 ≤ j → T.get j = some o → h'.get? (n + j) = some o) → g T = yv → Q a ⟨h', gens, d, t + Wt, os⟩) :
    wpAny (model PySem.Challenge.pw_sl0015_01 w) A tr Q E ⟨h, gens, d, t, os⟩ := by
  unfold LOk runL at h1
  exact run_lowN L.stand L.away Qp L.hfa L.get hP hd hu hh SO h1 hR
/-- A run that leaves the low objects as told. -/
theorem LSt.run4 {α : Type} {enc : α → Flow} {tr : Sem α} {fl : Flow} {W Wt F : Nat} {tb' : List Value} {sl orc : List Nat} {paV : Nat → Option (Addr × Obj)} {sp : Nat → Option Spec} {Q : α → Shared → Prop} {fr' c1' c2' c3' : Obj}
    (L : LSt P h n tb pa fa fr c1 c2 c3) (hP : mkP P f y = w.params) (hd : A.depth ≤ 320) (hu : A.units ≤ 1750) (hh : A.handled = none) (Qp : ∀ j a o, paV j = some (a, o) → ∃ j', pa j' = some (a, o))
    (SO : ∀ j Z, sp j = some Z → SpecOk (mkVL P (mkP P f y) n t paV sp 320 1750 4 (lwN fa 4)) w h gens d os Z)
    (h1 : LOk look4 (runL P (mkP P f y) n t fa paV sp (lowT fr c1 c2 c3) F sl orc enc tr tb) (.ok fl, W + 4, Wt, tb', low4 fr' c1' c2' c3'))
    (hR : ∀ h' a, enc a = fl → GrownN fa 4 h h' → LSt P h' (n + W) ⟨tb'⟩ pa fa fr' c1' c2' c3' → Q a ⟨h', gens, d, t + Wt, os⟩) :
    wpAny (model PySem.Challenge.pw_sl0015_01 w) A tr Q E ⟨h, gens, d, t, os⟩ := by
  refine L.run hP hd hu hh Qp SO h1 fun h' T a ea hg S' hm hl ho el => hR h' a ea hg ?_
  have e0 : T.get 0 = some fr' := congrArg Prod.fst el
  have e1 : T.get 1 = some c1' := congrArg (fun x => x.2.1) el
  have e2 : T.get 2 = some c2' := congrArg (fun x => x.2.2.1) el
  have e3 : T.get 3 = some c3' := congrArg (fun x => x.2.2.2) el
  exact ⟨S', L.away, Nat.le_trans L.hfa (Nat.le_add_right _ _), hl 0 _ (by decide) e0, hl 1 _ (by decide) e1, hl 2 _ (by decide) e2, hl 3 _ (by decide) e3⟩
theorem no_sp {V : Vw} {w : World} {h : Heap} {gens : Array GenState} {d : Drawn} {os : OsState} : ∀ j Z, noSp j = some Z → SpecOk V w h gens d os Z := fun _ _ e => nomatch e
/-- The script, as the call finds it. -/
structure Scr (o : Obj) (vs : List Value) (ns : List Int) : Prop where
  cls : o.cls = .type "list"
  data : ∃ e, o.data = .seq vs.toArray e
  nums : IntsAre vs ns
  few : ns.length ≤ 63
noncomputable def scrO (a : Addr) (o : Obj) : Nat → Option (Addr × Obj) := paD1 a o
theorem call_sum {s : Shared} {l : Addr} {items : Array Value} {Q : Value → Shared → Prop} (hh : A.handled = none) (hl : s.heap.IsList l items) (hi : AllInts items)
    (h : ∀ S h' tk t', (∀ b o, s.heap.get? b = some o → h'.get? b = some o) → Q (.int S t') { s with heap := h', toks := tk }) :
    wpAny (model PySem.Challenge.pw_sl0015_01 w) A (call (.builtin "sum") [.ref l]) Q E s := by
  obtain ⟨xs, rfl⟩ := hi.items
  exact sum_intListG hh hl fun h' tk t' hk => h _ h' tk t' hk
theorem isList_of {l : Addr} {o : Obj} {vs : List Value} {ns : List Int} (X : Scr o vs ns) (e : h.get? l = some o) : h.IsList l vs.toArray := let ⟨n, hn⟩ := X.data; ⟨o, e, X.cls, n, hn⟩
theorem sum_go {i : Nat} (hi : i < 2) {a : Addr} {so : Obj} {vs : List Value} {ns : List Int} {H : Nat → Int} {k : Nat → Tok} {Q : Value → Shared → Prop} (X : Scr so vs ns)
    (L : LSt P h n tb (scrO a so) fa (frL H k 1 [.ref a]) c1 c2 c3) (hP : mkP P f y = w.params) (hd : A.depth ≤ 320) (hu : A.units ≤ 1750) (hh : A.handled = none)
    (hQ : ∀ S tk h' n' t', LSt P h' n' tb (scrO a so) fa (frL H k 1 [.ref a]) c1 c2 c3 → GrownN fa 4 h h' → Q (.int S tk) ⟨h', gens, d, t', os⟩) :
    wpAny (model PySem.Challenge.pw_sl0015_01 w) A (eval (lSum P i) (lawEnv P fa)) Q E ⟨h, gens, d, t, os⟩ := by
  have hS : isSumSl (lSum P i) = true := by
    match i, hi with
    | 0, _ => exact (lS0 P).2.2.2.2.2
    | 1, _ => exact (lS1 P).2.2.2
  refine eval_sumSl hS ?_
  rw [evalF_eq]
  refine L.run4 hP hd hu hh noPa_sub no_sp (nmSum P f y n t fa _ c1 c2 c3 tb (Nat.lt_succ_of_lt hi)) fun h1 v ev g1 L1 => ?_
  have ev' : v = .builtin "sum" := Flow.ret.inj ev
  subst ev'
  refine ⟨rfl, ?_⟩
  refine L1.run4 hP hd hu hh noPa_sub no_sp (nmScr P f y n t fa c1 c2 c3 H k tb hi a) fun h2 v ev g2 L2 => ?_
  have ev' : v = .ref a := Flow.ret.inj ev
  subst ev'
  refine L2.run hP hd hu hh noPa_sub no_sp (slc P f y n t fa _ c1 c2 c3 tb hi) fun h3 T v ev g3 S3 _ hl3 ho3 el => ?_
  have ev' : v = .ref (Nat.add n 4) := Flow.ret.inj ev
  subst ev'
  have el1 := congrArg Prod.fst el
  have el2 : T.get 4 = some (slW i t) := congrArg Prod.snd el
  have e0 : T.get 0 = some (frL H k 1 [.ref a]) := congrArg Prod.fst el1
  have e1 : T.get 1 = some c1 := congrArg (fun x => x.2.1) el1
  have e2 : T.get 2 = some c2 := congrArg (fun x => x.2.2.1) el1
  have e3 : T.get 3 = some c3 := congrArg (fun x => x.2.2.2) el1
  have L3 : LSt P h3 (n + 1) tb (scrO a so) fa (frL H k 1 [.ref a]) c1 c2 c3 := ⟨S3, L.away, Nat.le_trans L.hfa (Nat.le_add_right _ _), hl3 0 _ (by decide) e0, hl3 1 _ (by decide) e1, hl3 2 _ (by decide) e2, hl3 3 _ (by decide) e3⟩
  have hs := (L3.stand.par 0 _ _ rfl).2
  have hl := isList_of X hs
  have hsl := ho3 4 _ (by decide) el2
  have hle : vs.toArray.size ≤ sizeLine := by
    have := X.nums.length
    have := X.few
    have e : vs.toArray.size = vs.length := by simp
    have : sizeLine ≥ 63 := by decide
    omega
  refine ⟨a, Nat.add n 4, rfl, rfl, ⟨so, hs, X.cls⟩, ?_⟩
  have fin : ∀ (lo hi st : Option Int) (s' : Shared), s' = ⟨h3, gens, d, t + 0 + 0 + slWt i, os⟩ → wpAny (model PySem.Challenge.pw_sl0015_01 w) A (call (.builtin "sum") [.ref s'.heap.objs.size]) Q E { s' with heap := s'.heap.push { cls := .type "list", data := .seq (slicePick vs.toArray lo hi st) } } := by
    intro lo hi st s' es
    subst es
    refine call_sum hh (items := slicePick vs.toArray lo hi st) ⟨_, Heap.get?_push_size _ rfl, rfl, _, rfl⟩ (X.nums.pick lo hi st).allInts fun S h' tk t' hk => ?_
    obtain ⟨n', L'⟩ := L3.keep (h' := h') fun b o e => hk b o (Heap.get?_push_of_some _ e)
    exact hQ S t' h' n' tk L' ((((g1.trans g2).trans g3)).trans fun b o _ _ e => hk b o (Heap.get?_push_of_some _ e))
  match i, hi with
  | 0, _ =>
    exact wpAny_getItem_list_slice hl ⟨_, hsl, rfl, rfl⟩ .none (.int 20 _) (.int 2 _) (by decide) (fin none (some 20) (some 2) _ rfl) hle
  | 1, _ =>
    exact wpAny_getItem_list_slice hl ⟨_, hsl, rfl, rfl⟩ (.int 1 _) (.int 20 _) (.int 2 _) (by decide) (fin (some 1) (some 20) (some 2) _ rfl) hle
end
end Mine


set_option maxRecDepth 100000
set_option Elab.async false
set_option linter.unusedVariables false
set_option linter.unusedSectionVars false
namespace Mine
open PySem PySem.Calls PyProof.Rows PySem.W PySem.W.X PySem.SeqAt
theorem eraseEn_entrL : ∀ (es : List DictEntry) (i : Nat) (vals : List Value), eraseEn es = entrL (fun _ => 0) (fun _ => 0) i vals →
    ∃ (H : Nat → Int) (k : Nat → Tok) (vs : List Value), es = entrL H k i vs ∧ vs.map erase = vals
  | [], i, [], _ => ⟨fun _ => 0, fun _ => 0, [], rfl, rfl⟩
  | [], i, _ :: _, e => by cases e
  | _ :: _, i, [], e => by cases e
  | ⟨h, ky, v⟩ :: r, i, v' :: vals, e => by
    simp only [eraseEn, entrL, List.cons.injEq, DictEntry.mk.injEq, true_and] at e
    obtain ⟨⟨e1, e2⟩, e3⟩ := e
    obtain ⟨H, k, vs, e4, e5⟩ := eraseEn_entrL r (i + 1) vals e3
    obtain ⟨t, rfl⟩ := erase_str e1
    refine ⟨fun j => if j = i then h else H j, fun j => if j = i then t else k j, v :: vs, ?_, by rw [List.map_cons, e2, e5]⟩
    have key : ∀ (l : List Value) (j : Nat), i < j → entrL H k j l = entrL (fun j => if j = i then h else H j) (fun j => if j = i then t else k j) j l := by
      intro l
      induction l with
      | nil => intro j _; rfl
      | cons a l ih =>
        intro j hj
        have : j ≠ i := by omega
        simp only [entrL, if_neg this]
        rw [ih (j + 1) (by omega)]
    simp only [entrL, if_pos rfl]
    rw [e4, key vs (i + 1) (by omega)]
    rfl
theorem eraseFrL_is {o : Obj} {m : Nat} {vals : List Value} (h : eraseFr o = frL (fun _ => 0) (fun _ => 0) m vals) : ∃ (H : Nat → Int) (k : Nat → Tok) (vs : List Value), o = frL H k m vs ∧ vs.map erase = vals := by
  obtain ⟨c, d, x, s⟩ := o
  cases x with
  | dict es n =>
    unfold eraseFr frL at h
    simp only [Obj.mk.injEq, Data.dict.injEq, Array.mk.injEq] at h
    obtain ⟨rfl, rfl, ⟨h1, rfl⟩, rfl⟩ := h
    obtain ⟨H, k, vs, e, e'⟩ := eraseEn_entrL _ _ _ h1
    refine ⟨H, k, vs, ?_, e'⟩
    unfold frL
    have : es = ⟨entrL H k 0 vs⟩ := Array.ext' e
    rw [this]
  | _ => simp [eraseFr, frL] at h
theorem eraseC_is {o : Obj} {v : Option Value} (h : eraseC o = cellO v) : ∃ u, o = cellO u ∧ u.map erase = v := by
  obtain ⟨c, d, x, s⟩ := o
  cases x with
  | cell u =>
    unfold eraseC cellO at h
    simp only [Obj.mk.injEq, Data.cell.injEq] at h
    obtain ⟨rfl, rfl, h1, rfl⟩ := h
    exact ⟨u, rfl, h1⟩
  | _ => simp [eraseC, cellO] at h
theorem some_map {α : Type} {o : Option α} {g : α → α} {x : α} (h : o.map g = some x) : ∃ y, o = some y ∧ g y = x := by
  cases o with
  | none => cases h
  | some y => exact ⟨y, rfl, Option.some.inj h⟩
theorem cell_none {u : Option Value} (h : u.map erase = none) : u = none := by cases u with | none => rfl | some _ => cases h
theorem cell_some {u : Option Value} {v : Value} (h : u.map erase = some v) : ∃ x, u = some x ∧ erase x = v := by cases u with | none => cases h | some x => exact ⟨x, rfl, Option.some.inj h⟩
/-- What a look at the low objects tells. -/
theorem lookL_is {T : KT} {m : Nat} {vals : List Value} {v1 v2 v3 : Option Value} (h : lookL T = (some (frL (fun _ => 0) (fun _ => 0) m vals), some (cellO v1), some (cellO v2), some (cellO v3))) :
    ∃ (H : Nat → Int) (k : Nat → Tok) (vs : List Value) (u1 u2 u3 : Option Value), T.get 0 = some (frL H k m vs) ∧ vs.map erase = vals ∧ T.get 1 = some (cellO u1) ∧ u1.map erase = v1 ∧ T.get 2 = some (cellO u2) ∧ u2.map erase = v2 ∧ T.get 3 = some (cellO u3) ∧ u3.map erase = v3 := by
  obtain ⟨o0, e0, h0⟩ := some_map (congrArg Prod.fst h)
  obtain ⟨o1, e1, h1⟩ := some_map (congrArg (fun x => x.2.1) h)
  obtain ⟨o2, e2, h2⟩ := some_map (congrArg (fun x => x.2.2.1) h)
  obtain ⟨o3, e3, h3⟩ := some_map (congrArg (fun x => x.2.2.2) h)
  obtain ⟨H, k, vs, rfl, a0⟩ := eraseFrL_is h0
  obtain ⟨u1, rfl, a1⟩ := eraseC_is h1
  obtain ⟨u2, rfl, a2⟩ := eraseC_is h2
  obtain ⟨u3, rfl, a3⟩ := eraseC_is h3
  exact ⟨H, k, vs, u1, u2, u3, e0, a0, e1, a1, e2, a2, e3, a3⟩
section
variable {P : Params} {f y : Bool} {h : Heap} {n t : Nat} {tb : Array Value} {pa : Nat → Option (Addr × Obj)} {w : World} {gens : Array GenState} {d : Drawn} {os : OsState} {fa : Addr} {A : Around} {E : Value → Shared → Prop} {fr c1 c2 c3 : Obj} {H : Nat → Int} {k : Nat → Tok} {a : Addr} {so : Obj} {vs : List Value} {ns : List Int}
theorem st0_go {Q : Flow → Shared → Prop} (X : Scr so vs ns) (L : LSt P h n tb (scrO a so) fa (frL H k 1 [.ref a]) (cellO none) c2 c3) (hP : mkP P f y = w.params) (hd : A.depth ≤ 320) (hu : A.units ≤ 1750) (hh : A.handled = none)
    (hQ : ∀ N tN h' n' t', LSt P h' n' tb (scrO a so) fa (frL H k 1 [.ref a]) (cellO (some (.int N tN))) c2 c3 → GrownN fa 4 h h' → Q .next ⟨h', gens, d, t', os⟩) :
    wpAny (model PySem.Challenge.pw_sl0015_01 w) A (exec (lS P 0) (lawEnv P fa)) Q E ⟨h, gens, d, t, os⟩ := by
  obtain ⟨q1, q2, q3, q4, q5, q6⟩ := lS0 P
  refine exec_asgB q1 (eval_mod q2 (eval_add q3 (eval_constI q4 ?_)))
  show wpAny _ A (eval (lSum P 0) (lawEnv P fa)) _ E ⟨h, gens, d, t + 1, os⟩
  refine sum_go (by decide) X L hP hd hu hh fun S tk h1 n1 t1 L1 g1 => ?_
  refine wpAny_add_int ?_
  refine eval_constI q5 ?_
  refine mod_int (by decide) ?_
  rw [assignF_eq]
  show wpAny _ A _ _ E ⟨h1, gens, d, t1 + 1 + 1 + 1, os⟩
  refine L1.run4 hP hd hu hh noPa_sub no_sp (asN P f y n1 _ fa _ c2 c3 tb _ _) fun h2 u _ g2 L2 => ?_
  exact hQ _ _ h2 _ _ L2 (g1.trans g2)
theorem st1_go {Q : Flow → Shared → Prop} {N : Int} {tN : Tok} (X : Scr so vs ns) (L : LSt P h n tb (scrO a so) fa (frL H k 1 [.ref a]) (cellO (some (.int N tN))) (cellO none) (cellO none)) (hP : mkP P f y = w.params) (hd : A.depth ≤ 320) (hu : A.units ≤ 1750) (hh : A.handled = none)
    (hQ : ∀ (g : Nat) H k tG tN h' n' t', g < 3 → LSt P h' n' tb (scrO a so) fa (frL H k 2 [.ref a, .int (g : Nat) tG]) (cellO (some (.int N tN))) (cellO none) (cellO none) → GrownN fa 4 h h' → Q .next ⟨h', gens, d, t', os⟩) :
    wpAny (model PySem.Challenge.pw_sl0015_01 w) A (exec (lS P 1) (lawEnv P fa)) Q E ⟨h, gens, d, t, os⟩ := by
  obtain ⟨q1, q2, q3, q4⟩ := lS1 P
  refine exec_asgB q1 (eval_mod q2 ?_)
  show wpAny _ A (eval (lSum P 1) (lawEnv P fa)) _ E ⟨h, gens, d, t, os⟩
  refine sum_go (by decide) X L hP hd hu hh fun S tk h1 n1 t1 L1 g1 => ?_
  refine eval_constI q3 ?_
  refine mod_int (by decide) ?_
  have hg0 := Int.fmod_nonneg_of_pos S (b := 3) (by decide)
  have hg3 := Int.fmod_lt_of_pos S (b := 3) (by decide)
  obtain ⟨g, hg⟩ : ∃ g : Nat, S.fmod 3 = (g : Int) := ⟨(S.fmod 3).toNat, by omega⟩
  rw [hg]
  rw [assignF_eq]
  show wpAny _ A _ _ E ⟨h1, gens, d, t1 + 1 + 1, os⟩
  refine L1.run hP hd hu hh noPa_sub no_sp (asG P f y n1 _ fa _ _ _ H k tb a (g : Nat) _) fun h2 T u _ g2 S2 _ hl2 _ el => ?_
  obtain ⟨H', k', vs', u1, u2, u3, a0, b0, a1, b1, a2, b2, a3, b3⟩ := lookL_is el
  obtain ⟨x1, x2, rfl, z1, z2⟩ := map_two b0
  have z1' := erase_ref z1
  subst z1'
  obtain ⟨tG, rfl⟩ := erase_int z2
  obtain ⟨x3, rfl, z3⟩ := cell_some b1
  obtain ⟨tN', rfl⟩ := erase_int z3
  have z4 := cell_none b2
  have z5 := cell_none b3
  subst z4 z5
  exact hQ g H' k' tG tN' h2 n1 _ (by omega) ⟨S2, L1.away, L1.hfa, hl2 0 _ (by decide) a0, hl2 1 _ (by decide) a1, hl2 2 _ (by decide) a2, hl2 3 _ (by decide) a3⟩ (g1.trans g2)
theorem st2_go {Q : Flow → Shared → Prop} {N : Int} {tN tG : Tok} {g : Nat} (L : LSt P h n tb pa fa (frL H k 2 [.ref a, .int (g : Nat) tG]) (cellO (some (.int N tN))) (cellO none) (cellO none)) (hP : mkP P f y = w.params) (hd : A.depth ≤ 320) (hu : A.units ≤ 1750) (hh : A.handled = none)
    (hQ : ∀ p, (∀ k, p k < 3) → ∀ H k tG tN tw h' n' t', LSt P h' n' tb pa fa (frL H k 2 [.ref a, .int (g : Nat) tG]) (cellO (some (.int N tN))) (cellO (some (.str (wordS p) tw))) (cellO none) → GrownN fa 4 h h' → Q .next ⟨h', gens, d, t', os⟩) :
    wpAny (model PySem.Challenge.pw_sl0015_01 w) A (execs [lS P 2] (lawEnv P fa)) Q E ⟨h, gens, d, t, os⟩ := by
  rw [execsF_eq]
  refine L.run hP hd hu hh noPa_sub (wd_sp N L.stand L.away hP) (wdRun P f y n t fa _ _ tb N _ _ _) fun h2 T u eu g2 S2 _ hl2 _ el => ?_
  have eu' : u = .next := eu
  subst eu'
  obtain ⟨H', k', vs', u1, u2, u3, a0, b0, a1, b1, a2, b2, a3, b3⟩ := lookL_is (vals := [.ref a, .int (g : Nat) 0]) (v3 := none) el
  obtain ⟨x1, x2, rfl, z1, z2⟩ := map_two b0
  have z1' := erase_ref z1
  subst z1'
  obtain ⟨tG, rfl⟩ := erase_int z2
  obtain ⟨x3, rfl, z3⟩ := cell_some b1
  obtain ⟨tN', rfl⟩ := erase_int z3
  obtain ⟨x4, rfl, z4⟩ := cell_some b2
  obtain ⟨tw, rfl⟩ := erase_str z4
  have z5 := cell_none b3
  subst z5
  exact hQ (digP N) (digP_lt N) H' k' tG tN' tw h2 (n + 6) _ ⟨S2, L.away, Nat.le_trans L.hfa (Nat.le_add_right _ _), hl2 0 _ (by decide) a0, hl2 1 _ (by decide) a1, hl2 2 _ (by decide) a2, hl2 3 _ (by decide) a3⟩ g2
theorem Th.away {X : Th} {N : Nat} (hN : fa + 4 ≤ N) (h0 : N ≤ X.a) (h1 : ∀ j, j < 3 → N ≤ X.r j) (hi : 87 ≤ fa) : AwayN P fa 4 X.pa0 := by
  have key : ∀ b : Addr, N ≤ b → ∀ i, i < 4 → b ≠ Nat.add fa i := fun b hb i hi z => by
    have k2 : ∀ (F I B N : Nat), F + 4 ≤ N → N ≤ B → I < 4 → B ≠ F + I := by omega
    exact k2 fa i b N hN hb hi z
  refine ⟨topLow P, hi, fun j b o e => ?_⟩
  match j, e with
  | 0, e => cases e; exact key _ h0
  | 1, e => cases e; exact key _ (h1 0 (by decide))
  | 2, e => cases e; exact key _ (h1 1 (by decide))
  | 3, e => cases e; exact key _ (h1 2 (by decide))
  | 4, e => cases e; exact key _ h0
theorem st3_go {Q : Flow → Shared → Prop} {p : Nat → Nat} {N : Int} {tN tG tw : Tok} {g : Nat} (L : LSt P h n tb pa fa (frL H k 2 [.ref a, .int (g : Nat) tG]) (cellO (some (.int N tN))) (cellO (some (.str (wordS p) tw))) (cellO none)) (hP : mkP P f y = w.params) (hd : A.depth ≤ 320) (hu : A.units ≤ 1750) (hh : A.handled = none)
    (hQ : ∀ X : Th, (∀ j, X.e j = 3) → ∀ H k tG tN tw h' n' t', LSt P h' n' tb X.pa0 fa (frL H k 2 [.ref a, .int (g : Nat) tG]) (cellO (some (.int N tN))) (cellO (some (.str (wordS p) tw))) (cellO (some (.ref X.a))) → GrownN fa 4 h h' → Q .next ⟨h', gens, d, t', os⟩) :
    wpAny (model PySem.Challenge.pw_sl0015_01 w) A (execs [lS P 3] (lawEnv P fa)) Q E ⟨h, gens, d, t, os⟩ := by
  rw [execsF_eq]
  refine L.run hP hd hu hh noPa_sub (fun j Z e => ?_) (thSt P f y n t fa _ _ _ tb) fun h2 T u eu g2 S2 _ hl2 ho2 el => ?_
  · match j, e with
    | 0, e => cases e; exact thS_ok L.stand L.away hP
  have eu' : u = .next := eu
  subst eu'
  have el1 := congrArg Prod.fst el
  have e0 : T.get 17 = some (lstO (thX (Nat.add n 4) t).all 3) := congrArg (fun x => x.2.1) el
  have e1 : T.get 19 = some (lstO ((thX (Nat.add n 4) t).row 0) 3) := congrArg (fun x => x.2.2.1) el
  have e2 : T.get 68 = some (lstO ((thX (Nat.add n 4) t).row 1) 3) := congrArg (fun x => x.2.2.2.1) el
  have e3 : T.get 117 = some (lstO ((thX (Nat.add n 4) t).row 2) 3) := congrArg (fun x => x.2.2.2.2) el
  obtain ⟨H', k', vs', u1, u2, u3, a0, b0, a1, b1, a2, b2, a3, b3⟩ := lookL_is (vals := [.ref a, .int (g : Nat) 0]) (v1 := some (.int N 0)) (v2 := some (.str (wordS p) 0)) el1
  obtain ⟨x1, x2, rfl, z1, z2⟩ := map_two b0
  have z1' := erase_ref z1
  subst z1'
  obtain ⟨tG, rfl⟩ := erase_int z2
  obtain ⟨x3, rfl, z3⟩ := cell_some b1
  obtain ⟨tN', rfl⟩ := erase_int z3
  obtain ⟨x4, rfl, z4⟩ := cell_some b2
  obtain ⟨tw, rfl⟩ := erase_str z4
  obtain ⟨x5, rfl, z5⟩ := cell_some b3
  have z5' := erase_ref z5
  subst z5'
  have hfa := L.hfa
  have hfa4 : (fa : Nat) + 4 ≤ n + 4 := Nat.add_le_add_right hfa 4
  have AW : AwayN P fa 4 (thX (Nat.add n 4) t).pa0 := Th.away (N := n + 4) hfa4 (Nat.le_add_right _ _) (fun j hj => by
    match j, hj with
    | 0, _ => exact Nat.le_add_right (n + 4) 15
    | 1, _ => exact Nat.le_add_right (n + 4) 64
    | 2, _ => exact Nat.le_add_right (n + 4) 113) L.away.high
  have no : ∀ j, 4 ≤ j → n + j ≠ 16 := fun j _ z => by
    have h87 : (87 : Nat) ≤ n := Nat.le_trans L.away.high L.hfa
    omega
  refine hQ (thX (Nat.add n 4) t) (fun _ => rfl) H' k' tG tN' tw h2 (n + 164) _ ⟨⟨S2.inv, S2.size, fun j b o e => ?_⟩, AW, Nat.le_trans L.hfa (Nat.le_add_right _ _), hl2 0 _ (by decide) a0, hl2 1 _ (by decide) a1, hl2 2 _ (by decide) a2, hl2 3 _ (by decide) a3⟩ g2
  match j, e with
  | 0, e => cases e; exact ⟨no 17 (by decide), ho2 17 _ (by decide) e0⟩
  | 1, e => cases e; exact ⟨no 19 (by decide), ho2 19 _ (by decide) e1⟩
  | 2, e => cases e; exact ⟨no 68 (by decide), ho2 68 _ (by decide) e2⟩
  | 3, e => cases e; exact ⟨no 117 (by decide), ho2 117 _ (by decide) e3⟩
  | 4, e => cases e; exact ⟨no 17 (by decide), ho2 17 _ (by decide) e0⟩
end
end Mine


set_option maxRecDepth 100000
set_option Elab.async false
set_option linter.unusedVariables false
set_option linter.unusedSectionVars false
namespace Mine
open PySem PySem.Calls PyProof.Rows PySem.W PySem.W.X PySem.SeqAt
noncomputable def rowD (a b c : Int) : PyData := .list [.int a, .int b, .int c]
noncomputable def thD : PyData := .list [rowD 0 2 1, rowD 2 1 0, rowD 1 0 2]
theorem thD_ok : SeqAt.shaped thD = true ∧ PyData.eqv thD thD = true := by decide
theorem reads_row {h : Heap} {b : Addr} {x y z : Int} {tx ty tz : Tok} {e : Nat} (hb : h.get? b = some (lstO [.int x tx, .int y ty, .int z tz] e)) : Reads h (.ref b) (rowD x y z) [b] :=
  .list hb rfl rfl (.cons (.int x tx) (.cons (.int y ty) (.cons (.int z tz) .nil)))
theorem reads_rows {h : Heap} {b r0 r1 r2 : Addr} {d0 d1 d2 : PyData} {e : Nat} (hb : h.get? b = some (lstO [.ref r0, .ref r1, .ref r2] e)) (h0 : Reads h (.ref r0) d0 [r0]) (h1 : Reads h (.ref r1) d1 [r1]) (h2 : Reads h (.ref r2) d2 [r2]) :
    Reads h (.ref b) (.list [d0, d1, d2]) [b, r0, r1, r2] :=
  .list hb rfl rfl (.cons h0 (.cons h1 (.cons h2 .nil)))
theorem iv3_is {o : Obj} {x y z : Int} (h : eraseO o = iv3 x y z) : ∃ tx ty tz e, o = lstO [.int x tx, .int y ty, .int z tz] e := by
  obtain ⟨vs, e, rfl, hv⟩ := eraseO_lst h
  obtain ⟨a, b, c, rfl, h1, h2, h3⟩ := map_three hv
  obtain ⟨tx, rfl⟩ := erase_int h1
  obtain ⟨ty, rfl⟩ := erase_int h2
  obtain ⟨tz, rfl⟩ := erase_int h3
  exact ⟨tx, ty, tz, e, rfl⟩
section
variable {P : Params} {f y : Bool} {h : Heap} {n t : Nat} {tb : Array Value} {pa : Nat → Option (Addr × Obj)} {w : World} {gens : Array GenState} {d : Drawn} {os : OsState} {fa : Addr} {A : Around} {E : Value → Shared → Prop} {fr c1 c2 c3 : Obj} {H : Nat → Int} {k : Nat → Tok} {a : Addr}
theorem Th.reads {X : Th} {N : Nat} (S : Stand P h N tb X.pa0) : Reads h (.ref X.a) thD [X.a, X.r 0, X.r 1, X.r 2] :=
  reads_rows (S.par 0 _ _ rfl).2 (reads_row (S.par 1 _ _ rfl).2) (reads_row (S.par 2 _ _ rfl).2) (reads_row (S.par 3 _ _ rfl).2)
theorem st4_go {Q : Flow → Shared → Prop} {X : Th} (L : LSt P h n tb X.pa0 fa fr c1 c2 (cellO (some (.ref X.a)))) (hP : mkP P f y = w.params) (hd : A.depth ≤ 320) (hu : A.units ≤ 1750) (hh : A.handled = none)
    (hQ : ∀ h' n' t', LSt P h' n' tb X.pa0 fa fr c1 c2 (cellO (some (.ref X.a))) → GrownN fa 4 h h' → Q .next ⟨h', gens, d, t', os⟩) :
    wpAny (model PySem.Challenge.pw_sl0015_01 w) A (exec (lS P 4) (lawEnv P fa)) Q E ⟨h, gens, d, t, os⟩ := by
  obtain ⟨q1, q2, q3⟩ := lS4 P
  refine wpAny_ifSt q1 (isTrue_ne q2 ?_)
  rw [evalF_eq]
  refine L.run4 hP hd hu hh noPa_sub no_sp (thN P f y n t fa _ _ _ tb _) fun h1 v ev g1 L1 => ?_
  have ev' : v = .ref X.a := Flow.ret.inj ev
  subst ev'
  refine L1.run hP hd hu hh noPa_sub no_sp (thC P f y n _ fa _ _ _ _ tb) fun h2 T v ev g2 S2 _ hl2 ho2 el => ?_
  have ev' : v = .ref (Nat.add n 6) := Flow.ret.inj ev
  subst ev'
  have el1 := congrArg Prod.fst el
  have e0 : T.get 0 = some fr := congrArg Prod.fst el1
  have e1 : T.get 1 = some c1 := congrArg (fun x => x.2.1) el1
  have e2 : T.get 2 = some c2 := congrArg (fun x => x.2.2.1) el1
  have e3 : T.get 3 = some (cellO (some (.ref X.a))) := congrArg (fun x => x.2.2.2) el1
  obtain ⟨o6, i6, j6⟩ := some_map (congrArg (fun x => x.2.1) el)
  obtain ⟨o11, i11, j11⟩ := some_map (congrArg (fun x => x.2.2.1) el)
  obtain ⟨o17, i17, j17⟩ := some_map (congrArg (fun x => x.2.2.2.1) el)
  obtain ⟨o23, i23, j23⟩ := some_map (congrArg (fun x => x.2.2.2.2) el)
  obtain ⟨vs, e, rfl, hv⟩ := eraseO_lst j6
  obtain ⟨x, y', z, rfl, a1, a2, a3⟩ := map_three hv
  have a1' := erase_ref a1
  have a2' := erase_ref a2
  have a3' := erase_ref a3
  subst a1' a2' a3'
  obtain ⟨_, _, _, _, rfl⟩ := iv3_is j11
  obtain ⟨_, _, _, _, rfl⟩ := iv3_is j17
  obtain ⟨_, _, _, _, rfl⟩ := iv3_is j23
  have R2 : Reads h2 (.ref (Nat.add n 6)) thD _ := reads_rows (ho2 6 _ (by decide) i6) (reads_row (ho2 11 _ (by decide) i11)) (reads_row (ho2 17 _ (by decide) i17)) (reads_row (ho2 23 _ (by decide) i23))
  have R1 : Reads h2 (.ref X.a) thD _ := Th.reads S2
  refine ne_dataH R1 R2 thD_ok.1 thD_ok.1 (by have : cLine = 9900 := rfl; omega) ?_
  rw [thD_ok.2]
  refine wpAny_truthy_bool ?_
  rw [if_neg (by decide), q3]
  refine wpAny_execs_nil ?_
  exact hQ h2 (n + 25) _ ⟨S2, L.away, Nat.le_trans L.hfa (Nat.le_add_right _ _), hl2 0 _ (by decide) e0, hl2 1 _ (by decide) e1, hl2 2 _ (by decide) e2, hl2 3 _ (by decide) e3⟩ (g1.trans g2)
/-- The thirds, a code object, the list of the ways. -/
noncomputable def paY (X : Th) (q : Addr) (oq : Obj) (wa : Addr) (wo : Obj) (j : Nat) : Option (Addr × Obj) := match j with
  | 5 => some (wa, wo)
  | j => X.pa q oq j
theorem paY_sub {X : Th} {q : Addr} {oq : Obj} {wa : Addr} {wo : Obj} : ∀ j b o, X.pa q oq j = some (b, o) → ∃ j', paY X q oq wa wo j' = some (b, o) := by
  intro j b o e
  match j, e with
  | 0, e => exact ⟨0, e⟩
  | 1, e => exact ⟨1, e⟩
  | 2, e => exact ⟨2, e⟩
  | 3, e => exact ⟨3, e⟩
  | 4, e => exact ⟨4, e⟩
theorem paY_ways {X : Th} {q : Addr} {oq : Obj} {wa : Addr} {wo : Obj} : ∀ j b o, paD1 wa wo j = some (b, o) → ∃ j', paY X q oq wa wo j' = some (b, o) := by
  intro j b o e
  match j, e with
  | 0, e => exact ⟨5, e⟩
theorem paY_cases {X : Th} {q : Addr} {oq : Obj} {wa : Addr} {wo : Obj} {Z : Addr → Obj → Prop} (h0 : ∀ j b o, X.pa0 j = some (b, o) → Z b o) (h1 : Z q oq) (h2 : Z wa wo) : ∀ j b o, paY X q oq wa wo j = some (b, o) → Z b o := by
  intro j b o e
  match j, e with
  | 0, e => exact h0 0 _ _ e
  | 1, e => exact h0 1 _ _ e
  | 2, e => exact h0 2 _ _ e
  | 3, e => exact h0 3 _ _ e
  | 4, e => cases e; exact h1
  | 5, e => cases e; exact h2
theorem st5_go {Q : Flow → Shared → Prop} {X : Th} {p : Nat → Nat} {g : Nat} {tG tw : Tok} (L : LSt P h n #[] X.pa0 fa (frL H k 2 [.ref a, .int (g : Nat) tG]) c1 (cellO (some (.str (wordS p) tw))) (cellO (some (.ref X.a)))) (hp : ∀ k, p k < 3)
    (hP : mkP P f y = w.params) (hd : A.depth ≤ 320) (hu : A.units ≤ 1750) (hh : A.handled = none)
    (hQ : ∀ (q wa : Addr) (c0 : Value) (tk : Tok) (rest : List Value) (sl : Array (Option Value)) (u : Nat → Tok) (e : Nat) H k tG tw c1 h' n' t', LSt P h' n' ⟨tb3 q⟩ (paY X q (codeO c0 tk rest sl) wa (waysO (wayV p) u e)) fa (frL H k 3 [.ref a, .int (g : Nat) tG, .ref wa]) c1 (cellO (some (.str (wordS p) tw))) (cellO (some (.ref X.a))) → GrownN fa 4 h h' → Q .next ⟨h', gens, d, t', os⟩) :
    wpAny (model PySem.Challenge.pw_sl0015_01 w) A (execs [lS P 5] (lawEnv P fa)) Q E ⟨h, gens, d, t, os⟩ := by
  rw [execsF_eq]
  refine L.run hP hd hu hh noPa_sub (ys_sp L.stand L.away hP hp) (ysRun P f y n t fa c1 H k a X.a (wordS p) (wayV p) (g : Nat) tG tw) fun h2 T u eu g2 S2 _ hl2 ho2 el => ?_
  have eu' : u = .next := eu
  subst eu'
  have el1 := congrArg Prod.fst el
  obtain ⟨o0, e0, h0⟩ := some_map (congrArg Prod.fst el1)
  obtain ⟨o1, e1, h1⟩ := some_map (congrArg (fun x => x.2.1) el1)
  obtain ⟨o2, e2, h2'⟩ := some_map (congrArg (fun x => x.2.2.1) el1)
  obtain ⟨o3, e3, h3⟩ := some_map (congrArg (fun x => x.2.2.2) el1)
  obtain ⟨H', k', vs, rfl, a0⟩ := eraseFrL_is h0
  obtain ⟨u2, rfl, a2⟩ := eraseC_is h2'
  obtain ⟨u3, rfl, a3⟩ := eraseC_is h3
  obtain ⟨x1, x2, x3, rfl, z1, z2, z3⟩ := map_three a0
  have z1' := erase_ref z1
  have z3' := erase_ref z3
  subst z1' z3'
  obtain ⟨tG', rfl⟩ := erase_int z2
  obtain ⟨x4, rfl, z4⟩ := cell_some a2
  obtain ⟨tw', rfl⟩ := erase_str z4
  obtain ⟨x5, rfl, z5⟩ := cell_some a3
  have z5' := erase_ref z5
  subst z5'
  obtain ⟨ow, iw, jw⟩ := some_map (congrArg (fun x => x.2.1) el)
  have iq : T.get 23 = some (ysCode n t) := congrArg (fun x => x.2.2) el
  obtain ⟨vs, e, rfl, hv⟩ := eraseO_lst jw
  obtain ⟨w0, w1, w2, rfl, b0, b1, b2⟩ := map_three hv
  obtain ⟨t0, rfl⟩ := erase_int b0
  obtain ⟨t1, rfl⟩ := erase_int b1
  obtain ⟨t2, rfl⟩ := erase_int b2
  have h87 : (87 : Nat) ≤ n := Nat.le_trans L.away.high L.hfa
  have no : ∀ j, 4 ≤ j → n + j ≠ 16 := fun j _ z => by omega
  have far : ∀ j, 4 ≤ j → ∀ i, i < 4 → Nat.add n j ≠ Nat.add fa i := fun j hj i hi z => by
    have k2 : ∀ (F I J N : Nat), F ≤ N → 4 ≤ J → I < 4 → N + J ≠ F + I := by omega
    exact k2 fa i j n L.hfa hj hi z
  obtain ⟨c0, tk, rest, sl, hc⟩ : ∃ c0 tk rest sl, ysCode n t = codeO c0 tk rest sl := ⟨_, _, _, _, rfl⟩
  rw [hc] at iq
  refine hQ (Nat.add n 23) (Nat.add n 6) c0 tk rest sl (fun j => match j with | 0 => t0 | 1 => t1 | _ => t2) e H' k' tG' tw' o1 h2 (n + 66) _ ⟨⟨S2.inv, S2.size, ?_⟩, ⟨topLow P, L.away.high, ?_⟩, Nat.le_trans L.hfa (Nat.le_add_right _ _), hl2 0 _ (by decide) e0, hl2 1 _ (by decide) e1, hl2 2 _ (by decide) e2, hl2 3 _ (by decide) e3⟩ g2
  · exact paY_cases (oq := codeO c0 tk rest sl) (Z := fun b o => b ≠ 16 ∧ h2.get? b = some o) S2.par ⟨no 23 (by decide), ho2 23 _ (by decide) iq⟩ ⟨no 6 (by decide), ho2 6 _ (by decide) iw⟩
  · exact paY_cases (oq := codeO c0 tk rest sl) (wo := waysO (wayV p) (fun j => match j with | 0 => t0 | 1 => t1 | _ => t2) e) (Z := fun b o => ∀ i, i < 4 → b ≠ Nat.add fa i) L.away.par (far 23 (by decide)) (far 6 (by decide))
noncomputable def sumsOk (a b c e : Nat) : Bool := (0 + wayV (mk4 a b c e) 0 + wayV (mk4 a b c e) 1 + wayV (mk4 a b c e) 2 == 30) && (xorV (wayV (mk4 a b c e)) == 15)
theorem sums_all : ∀ a < 3, ∀ b < 3, ∀ c < 3, ∀ e < 3, sumsOk a b c e = true := by decide +kernel
theorem sums {p : Nat → Nat} (hp : ∀ k, p k < 3) : 0 + wayV p 0 + wayV p 1 + wayV p 2 = 30 ∧ xorV (wayV p) = 15 := by
  have z := sums_all (p 0) (hp 0) (p 1) (hp 1) (p 2) (hp 2) (p 3) (hp 3)
  simp only [sumsOk, Bool.and_eq_true, beq_iff_eq, way_self] at z
  refine ⟨z.1, ?_⟩
  have e : wayV (mk4 (p 0) (p 1) (p 2) (p 3)) = wayV p := funext fun g => way_self p g
  rw [e] at z
  exact z.2
theorem lSum2 (P : Params) : lSum P 2 = cmpL (boolArg 0 (ifTest (lS P 6))) := rfl
theorem st6_go {Q : Flow → Shared → Prop} {X : Th} {p : Nat → Nat} {g : Nat} {tG : Tok} {q wa : Addr} {oq : Obj} {u : Nat → Tok} {e : Nat} (L : LSt P h n tb (paY X q oq wa (waysO (wayV p) u e)) fa (frL H k 3 [.ref a, .int (g : Nat) tG, .ref wa]) c1 c2 c3) (hp : ∀ k, p k < 3)
    (hP : mkP P f y = w.params) (hd : A.depth ≤ 320) (hu : A.units ≤ 1750) (hh : A.handled = none)
    (hQ : ∀ h' n' t', LSt P h' n' tb (paY X q oq wa (waysO (wayV p) u e)) fa (frL H k 3 [.ref a, .int (g : Nat) tG, .ref wa]) c1 c2 c3 → GrownN fa 4 h h' → Q .next ⟨h', gens, d, t', os⟩) :
    wpAny (model PySem.Challenge.pw_sl0015_01 w) A (exec (lS P 6) (lawEnv P fa)) Q E ⟨h, gens, d, t, os⟩ := by
  obtain ⟨q1, q2, q3, q4, q5, q6⟩ := lS6 P
  obtain ⟨s1, s2⟩ := sums hp
  refine wpAny_ifSt q1 (isTrue_or2 q2 (isTrue_ne q3 ?_))
  rw [← lSum2]
  refine eval_sumNm q4 ?_
  rw [evalF_eq]
  refine L.run4 hP hd hu hh noPa_sub no_sp (nmSum P f y n t fa _ c1 c2 c3 tb (by decide)) fun h1 v ev g1 L1 => ?_
  have ev' : v = .builtin "sum" := Flow.ret.inj ev
  subst ev'
  refine ⟨rfl, ?_⟩
  refine L1.run4 hP hd hu hh noPa_sub no_sp (nmWays P f y n _ fa c1 c2 c3 H k tb a wa (g : Nat) tG) fun h2 v ev g2 L2 => ?_
  have ev' : v = .ref wa := Flow.ret.inj ev
  subst ev'
  have hw := (L2.stand.par 5 _ _ rfl).2
  have hi : intItems #[(wayV p 0, u 0), (wayV p 1, u 1), (wayV p 2, u 2)] = ⟨[.int (wayV p 0) (u 0), .int (wayV p 1) (u 1), .int (wayV p 2) (u 2)]⟩ := by simp [intItems]
  refine sum_intListG (xs := #[(wayV p 0, u 0), (wayV p 1, u 1), (wayV p 2, u 2)]) hh ⟨_, hw, rfl, e, by rw [hi]; rfl⟩ fun h3 tk t' hk => ?_
  obtain ⟨n3, L3⟩ := L2.keep hk
  have sm : preSum (numAt #[(wayV p 0, u 0), (wayV p 1, u 1), (wayV p 2, u 2)]) (#[(wayV p 0, u 0), (wayV p 1, u 1), (wayV p 2, u 2)] : Array (Int × Tok)).size = 30 := s1
  rw [sm, ← evalF_eq]
  refine eval_constI q5 ?_
  refine ne_int ?_
  refine wpAny_truthy_bool ?_
  rw [if_neg (by decide), evalF_eq, isTrueF_eq]
  show wpAny _ A _ _ E ⟨h3, gens, d, tk + 1, os⟩
  refine L3.run4 hP hd hu hh paY_ways (fun j Z e => ?_) (xorRun P f y n3 _ fa c1 c2 c3 H k tb a wa (g : Nat) tG (wayV p) u _) fun h4 v ev g4 L4 => ?_
  · match j, e with
    | 0, e => cases e; exact neN_ok L3.stand L3.away (by rw [s2]; decide)
  have ev' : v = false := by cases v with | false => rfl | true => cases ev
  subst ev'
  rw [if_neg (by decide), q6]
  refine wpAny_execs_nil ?_
  exact hQ h4 _ _ L4 (((g1.trans g2).trans fun b o _ _ e => hk b o e).trans g4)
theorem st7_go {Q : Flow → Shared → Prop} {X : Th} {p : Nat → Nat} {g : Nat} {tG tw : Tok} {q wa : Addr} {c0 : Value} {tk : Tok} {rest : List Value} {sl : Array (Option Value)} {u : Nat → Tok} {e : Nat} (L : LSt P h n ⟨tb3 q⟩ (paY X q (codeO c0 tk rest sl) wa (waysO (wayV p) u e)) fa (frL H k 3 [.ref a, .int (g : Nat) tG, .ref wa]) c1 (cellO (some (.str (wordS p) tw))) (cellO (some (.ref X.a)))) (hp : ∀ k, p k < 3) (hg : g < 3)
    (hP : mkP P f y = w.params) (hd : A.depth ≤ 320) (hu : A.units ≤ 1750) (hh : A.handled = none)
    (hQ : ∀ h' t', h'.get? 16 = some (tableObj ⟨tb3 q⟩) → GrownN fa 4 h h' → Q (.ret (.bool true)) ⟨h', gens, d, t', os⟩) :
    wpAny (model PySem.Challenge.pw_sl0015_01 w) A (execs ((lawBody P).drop 7) (lawEnv P fa)) Q E ⟨h, gens, d, t, os⟩ := by
  have h87 : (87 : Nat) ≤ n := Nat.le_trans L.away.high L.hfa
  rw [execsF_eq]
  refine L.run hP hd hu hh paY_ways (rt_sp (L.stand.sub paY_sub) (L.away.sub paY_sub) hP hp hg h87) (retRun P f y n t fa c1 H k hg a X.a wa q (wordS p) tG tw (wayV p) u e _ _ _) fun h2 T v ev g2 S2 _ hl2 ho2 el => ?_
  have ev' : v = .ret (.bool true) := ev
  subst ev'
  exact hQ h2 _ S2.inv.tab g2
theorem law_body {Q : Flow → Shared → Prop} {so : Obj} {vs : List Value} {ns : List Int} (X : Scr so vs ns) (L : LSt P h n #[] (scrO a so) fa (frL H k 1 [.ref a]) (cellO none) (cellO none) (cellO none))
    (hP : mkP P f y = w.params) (hd : A.depth ≤ 320) (hu : A.units ≤ 1750) (hh : A.handled = none)
    (hQ : ∀ q h' t', h'.get? 16 = some (tableObj ⟨tb3 q⟩) → GrownN fa 4 h h' → Q (.ret (.bool true)) ⟨h', gens, d, t', os⟩) :
    wpAny (model PySem.Challenge.pw_sl0015_01 w) A (execs (lawBody P) (lawEnv P fa)) Q E ⟨h, gens, d, t, os⟩ := by
  rw [law_split]
  refine wpAny_execs_cons (st0_go X L hP hd hu hh fun N tN h1 n1 t1 L1 g1 => ?_)
  refine wpAny_execs_cons (st1_go X L1 hP hd hu hh fun g H k tG tN h2 n2 t2 hg L2 g2 => ?_)
  refine wpAny_execs_app (st2_go L2 hP hd hu hh fun p hp H k tG tN tw h3 n3 t3 L3 g3 => ?_)
  refine wpAny_execs_app (st3_go L3 hP hd hu hh fun Y _ H k tG tN tw h4 n4 t4 L4 g4 => ?_)
  refine wpAny_execs_cons (st4_go L4 hP hd hu hh fun h5 n5 t5 L5 g5 => ?_)
  refine wpAny_execs_app (st5_go L5 hp hP hd hu hh fun q wa c0 tk rest sl u e H k tG tw c1 h6 n6 t6 L6 g6 => ?_)
  refine wpAny_execs_cons (st6_go L6 hp hP hd hu hh fun h7 n7 t7 L7 g7 => ?_)
  exact st7_go L7 hp hg hP hd hu hh fun h8 t8 ht g8 => hQ q h8 t8 ht (((((((g1.trans g2).trans g3).trans g4).trans g5).trans g6).trans g7).trans g8)
end
end Mine


set_option maxRecDepth 100000
set_option Elab.async false
set_option linter.unusedVariables false
set_option linter.unusedSectionVars false
namespace Mine
open PySem PySem.Calls PyProof.Rows PySem.W PySem.W.X
theorem law_entry (P : Params) (f y : Bool) (n t : Nat) (a : Addr) (tb : Array Value) :
    resN lookL (runCall (mkVE P (mkP P f y) n t 310 1740) 60 [] [336, 1, 1, 8] 85 [.ref a] tb) = dueN (runCall (mkVE P (mkP P f y) n t 310 1740) 60 [] [336, 1, 1, 8] 85 [.ref a] tb)
      (.func (lawBody P) (lawEnv P n), 4, 1, tb.toList, some (frL (fun _ => 0) (fun _ => 0) 1 [.ref a]), some (cellO none), some (cellO none), some (cellO none)) := by
  kernel_rfl
section
variable {P : Params} {f y : Bool} {h : Heap} {n t : Nat} {w : World} {gens : Array GenState} {d : Drawn} {os : OsState} {A : Around} {R : Result → Shared → Prop} {a : Addr} {so : Obj} {vs : List Value} {ns : List Int}
theorem law_go (S : Stand P h n #[] (scrO a so)) (X : Scr so vs ns) (hP : mkP P f y = w.params) (hn : 87 ≤ n) (hd : A.depth ≤ 310) (hu : A.units ≤ 1740) (hh : A.handled = none)
    (hR : ∀ q h' t', h'.get? 16 = some (tableObj ⟨tb3 q⟩) → (∀ b o, b ≠ 16 → h.get? b = some o → h'.get? b = some o) → R (.ok (.ret (.bool true))) ⟨h', gens, d, t', os⟩) :
    codeAny (model PySem.Challenge.pw_sl0015_01 w) A (.call (.ref 85) ⟨[.ref a], []⟩) R ⟨h, gens, d, t, os⟩ := by
  have O := S.bare.hyp (t := t) (sp := noSp) hP hd hu hh
  have O' : Hyp (mkVE P (mkP P f y) n t 310 1740) w h A := ⟨O.den, O.ent, O.quiet, O.P, O.size, O.lwL, O.lwN, O.inj, O.topL, O.parL, O.top, O.par, O.tab, O.depth, O.units, O.handled⟩
  refine run_callN O' (fun j S e => nomatch e) rfl S.inv.tab rfl rfl (law_entry P f y n t a #[]) fun h1 T D el => ?_
  have hR' : ∀ {i o}, T.get i = some o → h1.get? (n + i) = some o := fun {i o} e => (D.own i o e).2
  obtain ⟨H, k, vs', u1, u2, u3, a0, b0, a1, b1, a2, b2, a3, b3⟩ := lookL_is (v1 := none) (v2 := none) (v3 := none) el
  obtain ⟨x1, rfl, z1⟩ := map_one b0
  have z1' := erase_ref z1
  subst z1'
  have z2 := cell_none b1
  have z3 := cell_none b2
  have z4 := cell_none b3
  subst z2 z3 z4
  have L : LSt P h1 n #[] (scrO a so) n (frL H k 1 [.ref a]) (cellO none) (cellO none) (cellO none) := by
    refine ⟨⟨⟨fun b o e q => D.keep b o (S.inv.top b o e q) q (fun _ => nofun), D.tab⟩, D.size, fun j b o e => ⟨(S.par j b o e).1, D.keep b o (S.par j b o e).2 (S.par j b o e).1 (fun _ => nofun)⟩⟩, ⟨topLow P, hn, fun j b o e i hi z => ?_⟩, Nat.le_refl _, hR' a0, hR' a1, hR' a2, hR' a3⟩
    have h2 := Heap.lt_size (S.par j b o e).2
    rw [S.size, z] at h2
    exact absurd (Nat.lt_of_lt_of_le h2 (Nat.le_add_right n i)) (Nat.lt_irrefl _)
  refine codeAny_func (law_body X L hP (Nat.le_trans (Nat.add_le_add_right hd 1) (by decide)) (Nat.le_trans (Nat.add_le_add_right hu 3) (by decide)) hh fun q h2 t2 ht g => ?_)
  refine hR q h2 t2 ht fun b o hb e => g b o hb (fun i hi z => ?_) (D.keep b o e hb (fun _ => nofun))
  have h2 := Heap.lt_size e
  rw [S.size, z] at h2
  exact absurd (Nat.lt_of_lt_of_le h2 (Nat.le_add_right n i)) (Nat.lt_irrefl _)
end
end Mine


set_option maxRecDepth 100000
set_option Elab.async false
set_option linter.unusedVariables false
set_option maxHeartbeats 0
namespace Mine
open PySem PySem.Spec PySem.Calls PyProof.Rows PySem.W PySem.W.X
/-- What the call leaves of the old objects: all but the table of inner codes, which grows. -/
theorem old_table {h h' : Heap} {q : Addr} (ht : ∃ c, h.TableAt c 16 #[]) (h16 : h'.get? 16 = some (tableObj ⟨tb3 q⟩)) (hk : ∀ b o, b ≠ 16 → h.get? b = some o → h'.get? b = some o) : OldK h h' := by
  obtain ⟨c, hc⟩ := ht
  have hne : c ≠ 16 := fun e => by
    subst e
    obtain ⟨⟨o, vs, e1, e2, _⟩, e4⟩ := hc
    rw [e1] at e4
    have e5 := Option.some.inj e4
    rw [e5] at e2
    cases e2
  obtain ⟨⟨o, vs, e1, e2, e3, e4⟩, e5⟩ := id hc
  have ht' : h'.TableAt c 16 (#[] ++ ⟨tb3 q⟩) := ⟨⟨o, vs, hk c o hne e1, e2, e3, e4⟩, by rw [Array.empty_append]; exact h16⟩
  exact (OldK.refl h).step_table hc hc ht' (fun b o hb e => hk b o hb e) (by decide)
theorem top16 (P : Params) : (KTop P).get 16 = some (tableObj #[]) := by kernel_rfl
theorem top20c (P : Params) : ((KTop P).get 20).map (fun o => o.cls) = some (.type "code") := by kernel_rfl
noncomputable def field11 (o : Obj) : Option Value := match o.data with
  | .fields vs => vs.toList[11]?
  | _ => none
theorem top20f (P : Params) : ((KTop P).get 20).bind field11 = some (.ref 16) := by kernel_rfl
theorem top_table {P : Params} {h : Heap} (ZH : KT.Holds h 1 0 (KTop P)) : ∃ c, h.TableAt c 16 #[] := by
  have h1 := top20c P
  have h2 := top20f P
  cases e : (KTop P).get 20 with
  | none => rw [e] at h1; cases h1
  | some o =>
    rw [e] at h1 h2
    have h1' : o.cls = .type "code" := Option.some.inj h1
    have h2' : field11 o = some (.ref 16) := h2
    unfold field11 at h2'
    split at h2'
    · rename_i vs hd
      exact ⟨20, ⟨o, vs, kt_at ZH e, h1', hd, by rw [← Array.getElem?_toList]; exact h2'⟩, kt_at ZH (top16 P)⟩
    · cases h2'
theorem law_end {kt : KT} {s₁ : Shared} {w : World} {vs : List Value} {ns : List Int} {Q : Value → Shared → Prop} {E : Value → Shared → Prop} (ZH : KT.Holds s₁.heap 1 0 kt) (hk : kt = KTop w.params) (hsz : s₁.heap.objs.size = 86 + 1)
    (hL : s₁.heap.IsList 86 vs.toArray) (hi : IntsAre vs ns) (hc : ¬ ((63 : Int) < ns.length))
    (hQ : ∀ h' t', OldK s₁.heap h' → Q (.bool true) ⟨h', s₁.gens, s₁.drawn, t', s₁.os⟩) :
    wpAny (model PySem.Challenge.pw_sl0015_01 w) callerA (call (.ref 85) [.ref 86]) Q E s₁ := by
  subst hk
  have h16 := top16 w.params
  have ht := top_table ZH
  obtain ⟨h, gens, d, t, os⟩ := s₁
  obtain ⟨so, hso, hcls, e, hdata⟩ := hL
  have S : Stand w.params h 87 #[] (scrO 86 so) := ⟨⟨fun a o e _ => kt_at ZH e, kt_at ZH h16⟩, hsz, fun j a o e => by
    match j, e with
    | 0, e => cases e; exact ⟨by decide, hso⟩⟩
  have X : Scr so vs ns := ⟨hcls, ⟨e, hdata⟩, hi, by omega⟩
  refine wpAny_call ?_
  refine law_go (t := t) S X (mkP_eq w.params) (Nat.le_refl _) (by decide) (by decide) rfl fun q h' t' h1 h2 => ?_
  exact hQ h' t' (old_table ht h1 h2)
end Mine
open PySem PySem.W PySem.W.X PyProof.Rows
theorem PySem.Challenge.cw_sl0015_01_holds : PySem.Challenge.rw_sl0015_01.Holds := by
  w_on
  o_law
  z_head
  (case hw => w_witness2)
  k_fill
  intro w s₀ s₁ mg mb G y fa o pm cd doc dV kV ho hd hcd hD hmg hg args vals as L hpre hlay hrd hwl hlo
  z_open y L KX ZH ZN ZT
  refine Ground.open G ?_
  intro T B D TE TW
  wrow_args hpre hlay hrd hwl hlo
  obtain ⟨hat, hsz⟩ := script_at L
  rw [ZN] at hat hsz
  subst hat
  x_fa T KX hmg
  all_lens
  refine Mine.law_end ZH (by kernel_rfl) hsz (by assumption) (by assumption) (by omega) fun h' t' hold => ?_
  exact ⟨.inl ⟨_, _, [], rfl, fun _ => rfl, ReadsW.bool true, (by first | rfl | wrow_post), fun _ => ⟨List.nodup_nil, fun _ hm => (nomatch hm)⟩⟩, hold, rfl, by rw [hg]; exact AllBare.empty⟩

