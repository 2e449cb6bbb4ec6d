import PyProof.Rows.All
import Wide.All
import Open.Line
import OpenK.KWalk
import Wide.FinOn
import PySem.Challenge.RW_ty0027_01

open PySem PySem.W PyProof.Rows
set_option Elab.async false
set_option maxRecDepth 100000
set_option linter.unusedVariables false
set_option linter.unusedSimpArgs false

namespace Mine
/-! data, and what a value tells in a heap -/
inductive D where
  | bool (b : Bool)
  | int (i : Int)
  | str (l : List Nat)
  | tup (l : List D)
  | lst (l : List D)
  | rng (a b : Int)
  | obj (raw : List Nat) (n nt : Int) (cs : List Int) (b : Int) (simple : Bool)
  | plc (a : Nat)

noncomputable abbrev Ext (h h' : Heap) : Prop := ∀ b o, h.get? b = some o → h'.get? b = some o
noncomputable abbrev Av := Addr → Prop
noncomputable def XOk (X : Av) (h : Heap) : Prop := ∀ b, X b → ∃ o, h.get? b = some o
noncomputable def PL (h : Heap) (a : Addr) (vs : List Value) : Prop := ∃ n, h.get? a = some { cls := .type "list", dict := none, data := .seq ⟨vs⟩ n, slots := #[] }
noncomputable def PT (h : Heap) (a : Addr) (vs : List Value) : Prop := ∃ o, h.get? a = some o ∧ o.cls = .type "tuple" ∧ ∃ n, o.data = .seq ⟨vs⟩ n
noncomputable def PR (h : Heap) (a : Addr) (i j : Int) : Prop := ∃ t u v, IsRange h a i j 1 t u v
noncomputable def attrL : List Str := [Str.ofString "raw", Str.ofString "n", Str.ofString "nt", Str.ofString "norm", Str.ofString "is_simple"]
/-- an object of Whitespace: its attributes -/
noncomputable def PI (h : Heap) (X : Av) (a : Addr) (m : Str → Option Value) : Prop :=
  ∃ dA o, ¬ X dA ∧ h.get? a = some o ∧ o.cls = .ref 83 ∧ o.dict = some dA ∧ ((∀ c, o.data ≠ .cls c) ∧ dA ≠ a) ∧ h.Ns1 dA m ∧ ∀ y, y ∉ attrL → m y = none

theorem PL.ext {h h' : Heap} {a : Addr} {vs} (k : ∀ o, h.get? a = some o → h'.get? a = some o) (x : PL h a vs) : PL h' a vs := let ⟨n, e⟩ := x; ⟨n, k _ e⟩
theorem PT.ext {h h' : Heap} {a : Addr} {vs} (k : ∀ o, h.get? a = some o → h'.get? a = some o) (x : PT h a vs) : PT h' a vs := let ⟨n, e, r⟩ := x; ⟨n, k _ e, r⟩
theorem PR.ext {h h' : Heap} {a : Addr} {i j} (k : ∀ o, h.get? a = some o → h'.get? a = some o) (x : PR h a i j) : PR h' a i j := let ⟨t, u, v, e⟩ := x; ⟨t, u, v, k _ e⟩
theorem PI.keep {h h' : Heap} {X : Av} {a : Addr} {m} (k : ∀ b o, ¬ X b → h.get? b = some o → h'.get? b = some o) (ha : ¬ X a) (x : PI h X a m) : PI h' X a m :=
  let ⟨dA, o, hX, e, c1, c2, c3, n, q⟩ := x; ⟨dA, o, hX, k _ _ ha e, c1, c2, c3, n.at fun o e => k _ _ hX e, q⟩
theorem PL.isList {h : Heap} {a : Addr} {vs} (x : PL h a vs) : h.IsList a ⟨vs⟩ := let ⟨n, e⟩ := x; ⟨_, e, rfl, n, rfl⟩
theorem PT.isTuple {h : Heap} {a : Addr} {vs} (x : PT h a vs) : h.IsTuple a ⟨vs⟩ := x

/-- the code that stands for the sign -/
noncomputable def SP : Nat := 2097152
noncomputable def den (sg c : Nat) : Nat := match Nat.beq c 2097152 with | true => sg | false => c
variable {sg : Nat}

mutual
inductive Rd (sg : Nat) (h : Heap) (X : Av) : Value → D → Prop
  | bool (b) : Rd sg h X (.bool b) (.bool b)
  | int (i t) : Rd sg h X (.int i t) (.int i)
  | str (l t) : Rd sg h X (.str ⟨⟨l.map (den sg)⟩⟩ t) (.str l)
  | tup {a vs ds} : ¬ X a → PT h a vs → RdL sg h X vs ds → Rd sg h X (.ref a) (.tup ds)
  | lst {a vs ds} : ¬ X a → PL h a vs → RdL sg h X vs ds → Rd sg h X (.ref a) (.lst ds)
  | rng {a i j} : ¬ X a → PR h a i j → Rd sg h X (.ref a) (.rng i j)
  | obj {a m t1 t2 nA cA bt vs raw n nt cs b simple} : ¬ X a → PI h X a m → m (Str.ofString "n") = some (.int n t1) → m (Str.ofString "nt") = some (.int nt t2) →
      m (Str.ofString "norm") = some (.ref nA) → ¬ X nA → PT h nA [.ref cA, .int b bt] → ¬ X cA → PT h cA vs → IntsAre vs cs → m (Str.ofString "is_simple") = some (.bool simple) → Rd sg h X (.ref a) (.obj raw n nt cs b simple)
  | plc (a : Nat) : Rd sg h X (.ref a) (.plc a)
inductive RdL (sg : Nat) (h : Heap) (X : Av) : List Value → List D → Prop
  | nil : RdL sg h X [] []
  | cons {v vs d ds} : Rd sg h X v d → RdL sg h X vs ds → RdL sg h X (v :: vs) (d :: ds)
end

mutual
theorem Rd.move {h h' : Heap} {X X' : Av} (k : ∀ b o, ¬ X b → h.get? b = some o → h'.get? b = some o ∧ ¬ X' b) : ∀ {v : Value} {d : D}, Rd sg h X v d → Rd sg h' X' v d
  | _, _, .bool b => .bool b
  | _, _, .int i t => .int i t
  | _, _, .plc a => .plc a
  | _, _, .str l t => .str l t
  | _, _, .tup ha ht hl => .tup (let ⟨_, e, _⟩ := ht; (k _ _ ha e).2) (ht.ext fun o e => (k _ o ha e).1) (hl.move k)
  | _, _, .lst ha ht hl => .lst (let ⟨_, e⟩ := ht; (k _ _ ha e).2) (ht.ext fun o e => (k _ o ha e).1) (hl.move k)
  | _, _, .rng ha hr => .rng (let ⟨_, _, _, e⟩ := hr; (k _ _ ha e).2) (hr.ext fun o e => (k _ o ha e).1)
  | _, _, .obj ha hi h1 h2 h3 hn hT hc hC hI h4 => by
    obtain ⟨dA, o, hX, e, c1, c2, c3, n, q⟩ := hi
    refine .obj (k _ _ ha e).2 ⟨dA, o, ?_, (k _ _ ha e).1, c1, c2, c3, n.at fun o e => (k _ o hX e).1, q⟩ h1 h2 h3 (let ⟨_, e, _⟩ := hT; (k _ _ hn e).2) (hT.ext fun o e => (k _ o hn e).1) (let ⟨_, e, _⟩ := hC; (k _ _ hc e).2) (hC.ext fun o e => (k _ o hc e).1) hI h4
    obtain ⟨od, _, _, ed, _⟩ := n
    exact (k _ _ hX ed).2
theorem RdL.move {h h' : Heap} {X X' : Av} (k : ∀ b o, ¬ X b → h.get? b = some o → h'.get? b = some o ∧ ¬ X' b) : ∀ {vs : List Value} {ds : List D}, RdL sg h X vs ds → RdL sg h' X' vs ds
  | _, _, .nil => .nil
  | _, _, .cons hv hl => .cons (hv.move k) (hl.move k)
end
theorem Rd.keep {h h' : Heap} {X : Av} {v : Value} {d : D} (r : Rd sg h X v d) (k : ∀ b o, ¬ X b → h.get? b = some o → h'.get? b = some o) : Rd sg h' X v d := r.move fun b o hb e => ⟨k b o hb e, hb⟩
theorem RdL.keep {h h' : Heap} {X : Av} {vs : List Value} {ds : List D} (r : RdL sg h X vs ds) (k : ∀ b o, ¬ X b → h.get? b = some o → h'.get? b = some o) : RdL sg h' X vs ds := r.move fun b o hb e => ⟨k b o hb e, hb⟩
theorem Rd.ext {h h' : Heap} {X : Av} {v : Value} {d : D} (r : Rd sg h X v d) (k : Ext h h') : Rd sg h' X v d := r.keep fun b o _ e => k b o e
theorem RdL.ext {h h' : Heap} {X : Av} {vs : List Value} {ds : List D} (r : RdL sg h X vs ds) (k : Ext h h') : RdL sg h' X vs ds := r.keep fun b o _ e => k b o e
theorem XOk.ext {X : Av} {h h' : Heap} (x : XOk X h) (k : Ext h h') : XOk X h' := fun b hb => let ⟨o, e⟩ := x b hb; ⟨o, k b o e⟩
theorem XOk.fresh {X : Av} {h : Heap} (x : XOk X h) {a : Addr} (ha : h.objs.size ≤ a) : ¬ X a := fun hx => let ⟨_, e⟩ := x a hx; absurd (Heap.lt_size e) (Nat.not_lt.mpr ha)
theorem Ext.refl (h : Heap) : Ext h h := fun _ _ e => e
theorem Ext.trans {h₁ h₂ h₃ : Heap} (a : Ext h₁ h₂) (b : Ext h₂ h₃) : Ext h₁ h₃ := fun x o e => b x o (a x o e)
theorem Ext.push (h : Heap) (o : Obj) : Ext h (h.push o) := fun _ _ e => Heap.get?_push_of_some _ e
/-- a new place among those to be kept away from -/
theorem Rd.add {h : Heap} {X : Av} {v : Value} {d : D} (r : Rd sg h X v d) {a : Addr} (ha : h.get? a = none) : Rd sg h (fun b => X b ∨ b = a) v d :=
  r.move fun b o hb e => ⟨e, fun q => q.elim hb fun e' => by rw [e', ha] at e; cases e⟩
theorem RdL.length {h : Heap} {X : Av} : ∀ {vs : List Value} {ds : List D}, RdL sg h X vs ds → vs.length = ds.length
  | _, _, .nil => rfl
  | _, _, .cons _ r => by rw [List.length_cons, List.length_cons, r.length]
theorem RdL.append {h : Heap} {X : Av} : ∀ {vs vs' : List Value} {ds ds' : List D}, RdL sg h X vs ds → RdL sg h X vs' ds' → RdL sg h X (vs ++ vs') (ds ++ ds')
  | _, _, _, _, .nil, r => r
  | _, _, _, _, .cons a b, r => .cons a (b.append r)
theorem RdL.get {h : Heap} {X : Av} : ∀ {vs : List Value} {ds : List D}, RdL sg h X vs ds → ∀ {i : Nat} {d : D}, ds[i]? = some d → ∃ v, vs[i]? = some v ∧ Rd sg h X v d
  | _, _, .cons a _, 0, _, e => by cases e; exact ⟨_, rfl, a⟩
  | _, _, .cons _ b, i + 1, _, e => by
    rw [List.getElem?_cons_succ] at e
    obtain ⟨v, e1, r⟩ := b.get e
    exact ⟨v, by rw [List.getElem?_cons_succ]; exact e1, r⟩

/-- t, from s, gives a value that tells d and adds to the heap alone -/
noncomputable def Gives (sg : Nat) (M : Model) (A : Around) (X : Av) (s : Shared) (t : Sem Value) (d : D) : Prop :=
  ∀ (Q : Value → Shared → Prop) (E : Value → Shared → Prop), (∀ v h' tk, Ext s.heap h' → Rd sg h' X v d → Q v { s with heap := h', toks := tk }) → wpAny M A t Q E s
noncomputable def GivesB (M : Model) (A : Around) (s : Shared) (t : Sem Bool) (b : Bool) : Prop :=
  ∀ (Q : Bool → Shared → Prop) (E : Value → Shared → Prop), (∀ h' tk, Ext s.heap h' → Q b { s with heap := h', toks := tk }) → wpAny M A t Q E s
end Mine

namespace Mine
variable {sg : Nat}
/-! operators -/
noncomputable def lim : Nat := 1000000
noncomputable def small (i : Int) : Bool := decide (i.natAbs < 1000000000)
noncomputable def repl : Nat → List Nat → List Nat
  | 0, _ => []
  | n + 1, l => l ++ repl n l
noncomputable def replD : Nat → List D → List D
  | 0, _ => []
  | n + 1, l => l ++ replD n l
noncomputable def bAdd (a b : D) : Option D := match a, b with
  | .int a, .int b => some (.int (a + b))
  | .str a, .str b => if decide (a.length + b.length ≤ lim) then some (.str (a ++ b)) else none
  | .lst a, .lst b => if decide (a.length + b.length ≤ lim) then some (.lst (a ++ b)) else none
  | _, _ => none
noncomputable def bMul (a b : D) : Option D := match a, b with
  | .int a, .int b => if small a && small b then some (.int (a * b)) else none
  | .str a, .int n => if decide (a.length * n.toNat ≤ lim) && small n && decide (a.length ≤ lim) then some (.str (repl n.toNat a)) else none
  | .lst a, .int n => if decide (a.length * n.toNat ≤ lim) && small n then some (.lst (replD n.toNat a)) else none
  | _, _ => none
noncomputable def two (f : Int → Int → Option Int) (a b : D) : Option D := match a, b with
  | .int a, .int b => (match f a b with | some i => some (.int i) | none => none)
  | _, _ => none
noncomputable def binop : Operator → D → D → Option D
  | .Add => bAdd
  | .Sub => two fun a b => some (a - b)
  | .Mult => bMul
  | .FloorDiv => two fun a b => if small b && decide (b ≠ 0) then some (a.fdiv b) else none
  | .Mod => two fun a b => if decide (b ≠ 0) then some (a.fmod b) else none
  | .Pow => two fun a b => if decide (a = 2) && decide (0 ≤ b) && decide (b ≤ 1000) then some (a ^ b.toNat) else none
  | .LShift => two fun a b => if small a && decide (0 ≤ b) && decide (b ≤ 1000) then some (a * 2 ^ b.toNat) else none
  | .BitAnd => two fun a b => some (Builtin.bitAnd a b)
  | _ => fun _ _ => none

theorem small_lt {i : Int} (h : small i = true) : i.natAbs < 1000000000 := of_decide_eq_true h
theorem sizeLine_lim : lim ≤ sizeLine := by decide
theorem repl_foldl (l : List Nat) : ∀ (n : Nat) (acc : Array Nat), (List.replicate n (⟨l⟩ : Array Nat)).foldl (· ++ ·) acc = ⟨acc.toList ++ repl n l⟩
  | 0, acc => by simp [repl]
  | n + 1, acc => by rw [List.replicate_succ, List.foldl_cons, repl_foldl]; simp [repl]
theorem replD_rd {h : Heap} {X : Av} {vs : List Value} {ds : List D} (r : RdL sg h X vs ds) : ∀ n, RdL sg h X (List.replicate n vs).flatten (replD n ds)
  | 0 => .nil
  | n + 1 => by rw [List.replicate_succ, List.flatten_cons]; exact r.append (replD_rd r n)
theorem repl_flat (vs : List Value) : ∀ (n : Nat) (acc : Array Value), (List.replicate n (⟨vs⟩ : Array Value)).foldl (fun x1 x2 => x1 ++ x2) acc = ⟨acc.toList ++ (List.replicate n vs).flatten⟩
  | 0, acc => by simp
  | n + 1, acc => by rw [List.replicate_succ, List.foldl_cons, repl_flat]; simp [List.replicate_succ]

section
variable {prog : Program} {w : World} {A : Around} {X : Av} {s : Shared} {E : Value → Shared → Prop}

theorem g_int {t : Sem Value} {i : Int} (h : ∀ (Q : Value → Shared → Prop) E, Q (.int i s.toks) { s with toks := s.toks + 1 } → wpAny (model prog w) A t Q E s) : Gives sg (model prog w) A X s t (.int i) :=
  fun Q E k => h Q E (k _ _ _ (Ext.refl _) (.int ..))

theorem add_listsE {l b : Addr} {vs ws : List Value} {Q : Value → Shared → Prop} (hl : PL s.heap l vs) (hb : PL s.heap b ws) (hsz : vs.length + ws.length ≤ sizeLine)
    (h : Q (.ref s.heap.objs.size) { s with heap := s.heap.push { cls := .type "list", data := .seq ⟨vs ++ ws⟩ } }) : wpAny (model prog w) A (binaryOp .Add (.ref l) (.ref b)) Q E s := by
  obtain ⟨n, ho⟩ := hl
  obtain ⟨m, ho2⟩ := hb
  refine concat_meets ⟨_, ho, rfl⟩ ⟨_, ho2, rfl⟩ noFill_list_add seq_list_add PySem.F.slot_list_add PySem.F.entry_list_add (PySem.F.args_list_add_2 _ _) (AutoSeq1.list___add___list_list_0 l ⟨vs⟩ n b ⟨ws⟩ m (by simpa using hsz)) ⟨ho, ho2, ?_⟩
  have e : (⟨vs⟩ : Array Value) ++ ⟨ws⟩ = ⟨vs ++ ws⟩ := by simp
  rw [e]
  exact h
theorem mul_listE {l : Addr} {vs : List Value} {x : Int} {u : Tok} {Q : Value → Shared → Prop} (hl : PL s.heap l vs) (hx : small x = true) (hsz : vs.length * x.toNat ≤ lim)
    (h : Q (.ref s.heap.objs.size) { s with heap := s.heap.push { cls := .type "list", data := .seq ⟨(List.replicate x.toNat vs).flatten⟩ } }) : wpAny (model prog w) A (binaryOp .Mult (.ref l) (.int x u)) Q E s := by
  obtain ⟨k, hl⟩ := hl
  have hx' := small_lt hx
  have hsz' : (⟨vs⟩ : Array Value).size * x.toNat ≤ 1000000 := by simpa [lim] using hsz
  refine wpAny_binaryOp_repeat_ref (T := "list") (U := "int") (by decide) ⟨_, hl, rfl⟩ (fun s' => typeIs_int s' x u) noFill_list_mul PySem.F.fills_int_mul PySem.F.slot_int_rmul repeat_list PySem.F.slot_int_index.lookup
    (call_meets PySem.F.slot_int_rmul (typeIs_int s x u) PySem.F.entry_int_rmul (PySem.F.args_int_rmul_2 _ _) (int___rmul___int_list x u l ⟨vs⟩ k)
      ⟨hl, rfl, ⟨_, hl, rfl⟩, call_meets PySem.F.slot_list_mul ⟨_, hl, rfl⟩ PySem.F.entry_list_mul (PySem.F.args_list_mul_2 _ _)
        (AutoListH.list___mul___list_int_3 l ⟨vs⟩ k x u (by simp [Builtin.List.listFitsIndex]; omega) (by omega) (by simp [Builtin.List.listTooLong, sizeLine]; simp at hsz'; omega))
        ⟨hl, ?_⟩⟩)
  have e : List.foldl (fun x1 x2 => x1 ++ x2) #[] (List.replicate (if (⟨vs⟩ : Array Value).isEmpty = true then 0 else x.toNat) (⟨vs⟩ : Array Value)) = (⟨(List.replicate x.toNat vs).flatten⟩ : Array Value) := by
    rw [repl_flat]
    by_cases he : (⟨vs⟩ : Array Value).isEmpty = true
    · have : vs = [] := by simpa using he
      subst this
      simp
    · rw [if_neg he]; simp
  rw [e]
  exact h

theorem repl_length (a : List Nat) : ∀ m, (repl m a).length = a.length * m
  | 0 => rfl
  | m + 1 => by rw [repl, List.length_append, repl_length a m, Nat.mul_succ, Nat.add_comm]
theorem repl_nil : ∀ m, repl m [] = []
  | 0 => rfl
  | m + 1 => by rw [repl, repl_nil m]; rfl
theorem repl_map (f : Nat → Nat) (a : List Nat) : ∀ m, (repl m a).map f = repl m (a.map f)
  | 0 => rfl
  | m + 1 => by rw [repl, repl, List.map_append, repl_map f a m]
theorem mul_strE {b : List Nat} {n : Int} {t u : Tok} (h1 : b.length * n.toNat ≤ lim) (h2 : n.natAbs < 1000000000) (h3 : b.length ≤ lim) : Gives sg (model prog w) A X s (binaryOp .Mult (.str ⟨⟨b.map (den sg)⟩⟩ t) (.int n u)) (.str (repl n.toNat b)) := by
  intro Q E k
  replace k : ∀ v h' tk, Ext s.heap h' → (∃ t, v = .str ⟨⟨repl n.toNat (b.map (den sg))⟩⟩ t) → Q v { s with heap := h', toks := tk } := fun v h' tk e hv => k v h' tk e (by obtain ⟨t, rfl⟩ := hv; rw [← repl_map]; exact .str _ _)
  rw [← List.length_map (f := den sg)] at h1 h3
  generalize b.map (den sg) = a at h1 h3 k ⊢
  have h1' : a.length * n.toNat ≤ 1000000 := h1
  have := sizeLine_lim
  refine P.mul_str ?_ ?_ ?_ ?_
  · rw [Bool.or_eq_false_iff]; exact ⟨decide_eq_false (by omega), decide_eq_false (by omega)⟩
  · intro hn _
    have hp : ((a.length : Int)) * n ≤ 1000000 := by
      have e : n = ((n.toNat : Nat) : Int) := by omega
      rw [e]
      have h : ((a.length * n.toNat : Nat) : Int) ≤ ((1000000 : Nat) : Int) := Int.ofNat_le.mpr h1'
      rw [Int.natCast_mul] at h
      exact h
    have hq : (a.length : Int) ≤ (2 ^ 63 - 1) / n := (Int.le_ediv_iff_mul_le (by omega)).mpr (by omega)
    show ¬ ((a.length : Int) > (2 ^ 63 - 1) / n)
    omega
  · intro _ _
    exact decide_eq_false (by show ¬ (a.length * n.toNat > sizeLine); omega)
  · split
    · rename_i hn
      have e : n.toNat = 0 := by omega
      rw [e] at k
      exact ⟨by decide, k _ _ _ (Ext.refl _) ⟨_, rfl⟩⟩
    · split
      · rename_i hn hc
        have e : repl n.toNat a = a := by
          rcases Bool.or_eq_true_iff.mp hc with h | h
          · have : n = 1 := by simpa using h
            subst this; simp [repl]
          · have : a = [] := by simpa [Str.length] using h
            subst this
            exact repl_nil _
        rw [e] at k
        exact k _ _ _ (Ext.refl _) ⟨_, rfl⟩
      · rw [repl_foldl]
        refine ⟨?_, k _ _ _ (Ext.refl _) ⟨_, rfl⟩⟩
        show (#[].toList ++ repl n.toNat a).length ≤ sizeLine
        simp [repl_length]
        omega

theorem Rd.int_inv {h : Heap} {v : Value} {i : Int} (r : Rd sg h X v (.int i)) : ∃ t, v = .int i t := by cases r; exact ⟨_, rfl⟩
theorem Rd.str_inv {h : Heap} {v : Value} {l : List Nat} (r : Rd sg h X v (.str l)) : ∃ t, v = .str ⟨⟨l.map (den sg)⟩⟩ t := by cases r; exact ⟨_, rfl⟩
theorem Rd.lst_inv {h : Heap} {v : Value} {l : List D} (r : Rd sg h X v (.lst l)) : ∃ a vs, v = .ref a ∧ ¬ X a ∧ PL h a vs ∧ RdL sg h X vs l := by cases r with | lst h1 h2 h3 => exact ⟨_, _, rfl, h1, h2, h3⟩
theorem two_sound {f : Int → Int → Option Int} {op : Operator} {a b d : D} {va vb : Value} (e : two f a b = some d) (ra : Rd sg s.heap X va a) (rb : Rd sg s.heap X vb b)
    (h : ∀ i j k t u, f i j = some k → Gives sg (model prog w) A X s (binaryOp op (.int i t) (.int j u)) (.int k)) : Gives sg (model prog w) A X s (binaryOp op va vb) d := by
  unfold two at e
  split at e
  · obtain ⟨t, rfl⟩ := ra.int_inv
    obtain ⟨u, rfl⟩ := rb.int_inv
    split at e
    · rename_i k hk
      cases e
      exact h _ _ _ _ _ hk
    · cases e
  · cases e
theorem if_some {α : Type} {c : Bool} {x y : α} (h : (if c = true then some x else none) = some y) : c = true ∧ x = y := by
  cases c
  · cases h
  · exact ⟨rfl, Option.some.inj h⟩
theorem bAdd_sound {a b d : D} {va vb : Value} (e : bAdd a b = some d) (ra : Rd sg s.heap X va a) (rb : Rd sg s.heap X vb b) (hX : XOk X s.heap) : Gives sg (model prog w) A X s (binaryOp .Add va vb) d := by
  unfold bAdd at e
  split at e
  · obtain ⟨t, rfl⟩ := ra.int_inv
    obtain ⟨u, rfl⟩ := rb.int_inv
    cases e
    exact g_int fun Q E h => PyProof.Rows.add_int h
  · obtain ⟨h1, rfl⟩ := if_some e
    have h1 := of_decide_eq_true h1
    obtain ⟨t, rfl⟩ := ra.str_inv
    obtain ⟨u, rfl⟩ := rb.str_inv
    intro Q E k
    refine PyProof.Rows.add_str (fun t' tk => k _ _ _ (Ext.refl _) ?_) (by have := sizeLine_lim; simp only [Str.length, List.size_toArray] at *; simp; omega)
    have e : ∀ x y : List Nat, (⟨⟨x⟩⟩ : Str) ++ ⟨⟨y⟩⟩ = ⟨⟨x ++ y⟩⟩ := fun x y => by show Str.mk (_ ++ _) = _; simp
    rw [e, ← List.map_append]
    exact .str ..
  · obtain ⟨h1, rfl⟩ := if_some e
    have h1 := of_decide_eq_true h1
    obtain ⟨a, vs, rfl, hxa, pa, la⟩ := ra.lst_inv
    obtain ⟨b, ws, rfl, hxb, pb, lb⟩ := rb.lst_inv
    intro Q E k
    exact add_listsE pa pb (by have := sizeLine_lim; rw [la.length, lb.length]; omega) (k _ _ _ (Ext.push _ _) (.lst (hX.fresh (Nat.le_refl _)) ⟨0, Heap.get?_push_size _ rfl⟩ ((la.append lb).ext (Ext.push _ _))))
  · cases e
theorem bMul_sound {a b d : D} {va vb : Value} (e : bMul a b = some d) (ra : Rd sg s.heap X va a) (rb : Rd sg s.heap X vb b) (hX : XOk X s.heap) : Gives sg (model prog w) A X s (binaryOp .Mult va vb) d := by
  unfold bMul at e
  split at e
  · obtain ⟨hc, rfl⟩ := if_some e
    obtain ⟨t, rfl⟩ := ra.int_inv
    obtain ⟨u, rfl⟩ := rb.int_inv
    have h1 := small_lt (Bool.and_eq_true_iff.mp hc).1
    exact g_int fun Q E h => PyProof.Rows.mul_int h (.of_left (PySem.intBits_le_64 (by omega) (by omega)))
  · obtain ⟨hc, rfl⟩ := if_some e
    obtain ⟨t, rfl⟩ := ra.str_inv
    obtain ⟨u, rfl⟩ := rb.int_inv
    obtain ⟨hc, h3⟩ := Bool.and_eq_true_iff.mp hc
    obtain ⟨h1, h2⟩ := Bool.and_eq_true_iff.mp hc
    exact mul_strE (of_decide_eq_true h1) (small_lt h2) (of_decide_eq_true h3)
  · obtain ⟨hc, rfl⟩ := if_some e
    obtain ⟨a, vs, rfl, hxa, pa, la⟩ := ra.lst_inv
    obtain ⟨u, rfl⟩ := rb.int_inv
    obtain ⟨h1, h2⟩ := Bool.and_eq_true_iff.mp hc
    have h1 := of_decide_eq_true h1
    intro Q E k
    exact mul_listE pa h2 (by rw [la.length]; exact h1) (k _ _ _ (Ext.push _ _) (.lst (hX.fresh (Nat.le_refl _)) ⟨0, Heap.get?_push_size _ rfl⟩ ((replD_rd la _).ext (Ext.push _ _))))
  · cases e
theorem binop_sound {op : Operator} {a b d : D} {va vb : Value} (e : binop op a b = some d) (ra : Rd sg s.heap X va a) (rb : Rd sg s.heap X vb b) (hX : XOk X s.heap) : Gives sg (model prog w) A X s (binaryOp op va vb) d := by
  cases op with
  | Add => exact bAdd_sound e ra rb hX
  | Sub => exact two_sound (f := fun a b => some (a - b)) e ra rb fun i j k t u hk => by cases hk; exact g_int fun Q E h => PyProof.Rows.sub_int h
  | Mult => exact bMul_sound e ra rb hX
  | FloorDiv =>
    exact two_sound e ra rb fun i j k t u hk => by
      obtain ⟨hc, rfl⟩ := if_some hk
      have h1 := small_lt (Bool.and_eq_true_iff.mp hc).1
      have h2 := of_decide_eq_true (Bool.and_eq_true_iff.mp hc).2
      exact g_int fun Q E h => PyProof.Rows.floordiv_int h2 h (.inl (PyProof.noPylong_small (by omega)))
  | Mod =>
    exact two_sound e ra rb fun i j k t u hk => by
      obtain ⟨hc, rfl⟩ := if_some hk
      exact g_int fun Q E h => PyProof.Rows.mod_int (of_decide_eq_true hc) h
  | Pow =>
    exact two_sound e ra rb fun i j k t u hk => by
      obtain ⟨hc, rfl⟩ := if_some hk
      obtain ⟨hc, h3⟩ := Bool.and_eq_true_iff.mp hc
      obtain ⟨h1, h2⟩ := Bool.and_eq_true_iff.mp hc
      have h1 := of_decide_eq_true h1
      subst h1
      have h2 := of_decide_eq_true h2
      have h3 := of_decide_eq_true h3
      exact g_int fun Q E h => PyProof.Rows.pow_int h2 (by
        have : Builtin.Int.intBits 2 = 2 := by decide
        rw [this]; omega) h
  | LShift =>
    exact two_sound e ra rb fun i j k t u hk => by
      obtain ⟨hc, rfl⟩ := if_some hk
      obtain ⟨hc, h3⟩ := Bool.and_eq_true_iff.mp hc
      obtain ⟨h1, h2⟩ := Bool.and_eq_true_iff.mp hc
      have h1 := small_lt h1
      have h2 := of_decide_eq_true h2
      have h3 := of_decide_eq_true h3
      exact g_int fun Q E h => PyProof.Rows.lshift_int_small h2 (by omega) (by omega) h
  | BitAnd => exact two_sound (f := fun a b => some (Builtin.bitAnd a b)) e ra rb fun i j k t u hk => by cases hk; exact g_int fun Q E h => PyProof.Rows.and_int h
  | _ => cases e
end
end Mine

namespace Mine
variable {sg : Nat}
/-! comparisons -/
noncomputable def okPy : Nat → D → Bool
  | _, .bool _ => true
  | _, .int _ => true
  | _, .str l => l.all (· < 0x110000)
  | n + 1, .tup l => l.all (okPy n)
  | n + 1, .lst l => l.all (okPy n)
  | _, _ => false
noncomputable def toPy : Nat → D → PyData
  | _, .bool b => .bool b
  | _, .int i => .int i
  | _, .str l => .str ⟨⟨l⟩⟩
  | n + 1, .tup l => .tuple (l.map (toPy n))
  | n + 1, .lst l => .list (l.map (toPy n))
  | _, _ => .none
noncomputable def eqNats : List Nat → List Nat → Bool
  | [], [] => true
  | x :: xs, y :: ys => Nat.beq x y && eqNats xs ys
  | _, _ => false
noncomputable def eqL (f : D → D → Bool) : List D → List D → Bool
  | [], [] => true
  | x :: xs, y :: ys => f x y && eqL f xs ys
  | _, _ => false
noncomputable def eqb : Nat → D → D → Bool
  | _, .bool a, .bool b => a == b
  | _, .bool a, .int j => (if a then 1 else 0) == j
  | _, .int i, .bool b => i == (if b then 1 else 0)
  | _, .int i, .int j => i == j
  | _, .str x, .str y => eqNats x y
  | n + 1, .tup xs, .tup ys => eqL (eqb n) xs ys
  | n + 1, .lst xs, .lst ys => eqL (eqb n) xs ys
  | _, _, _ => false
theorem eqNats_eq : ∀ x y : List Nat, eqNats x y = (x == y)
  | [], [] => rfl
  | [], _ :: _ => rfl
  | _ :: _, [] => rfl
  | x :: xs, y :: ys => by rw [eqNats, eqNats_eq xs ys, Bool.eq_iff_iff]; simp [Nat.beq_eq]
theorem strBeq (x y : List Nat) : ((⟨⟨x⟩⟩ : Str) == ⟨⟨y⟩⟩) = eqNats x y := by
  rw [eqNats_eq, Bool.eq_iff_iff, beq_iff_eq, beq_iff_eq]
  exact ⟨fun h => by injection h with h; injection h, fun h => by rw [h]⟩
theorem eqv_all {n : Nat} (ih : ∀ a b, okPy n a = true → okPy n b = true → PyData.eqv (toPy n a) (toPy n b) = eqb n a b) :
    ∀ xs ys : List D, xs.all (okPy n) = true → ys.all (okPy n) = true → PyData.eqvAll (xs.map (toPy n)) (ys.map (toPy n)) = eqL (eqb n) xs ys
  | [], [], _, _ => rfl
  | [], _ :: _, _, _ => rfl
  | _ :: _, [], _, _ => rfl
  | x :: xs, y :: ys, hx, hy => by
    rw [List.all_cons, Bool.and_eq_true_iff] at hx hy
    rw [List.map_cons, List.map_cons, PyData.eqvAll, ih x y hx.1 hy.1, eqv_all ih xs ys hx.2 hy.2]; rfl
theorem eqv_eq : ∀ (n : Nat) (a b : D), okPy n a = true → okPy n b = true → PyData.eqv (toPy n a) (toPy n b) = eqb n a b := by
  intro n
  induction n with
  | zero =>
    intro a b ha hb
    cases a <;> first | (cases ha; done) | skip
    all_goals (cases b <;> first | (cases hb; done) | skip)
    all_goals first | rfl | exact strBeq _ _
  | succ n ih =>
    intro a b ha hb
    cases a <;> first | (cases ha; done) | skip
    all_goals (cases b <;> first | (cases hb; done) | skip)
    all_goals first | rfl | exact strBeq _ _ | exact eqv_all ih _ _ (by simpa [okPy] using ha) (by simpa [okPy] using hb)
theorem canLay_all {n : Nat} (ih : ∀ a, okPy n a = true → (toPy n a).canLay0 = true) : ∀ xs : List D, xs.all (okPy n) = true → PyData.canLayAll0 (xs.map (toPy n)) = true
  | [], _ => rfl
  | x :: xs, h => by
    rw [List.all_cons, Bool.and_eq_true_iff] at h
    rw [List.map_cons, PyData.canLayAll0, ih x h.1, canLay_all ih xs h.2]; rfl
theorem canLay_of : ∀ (n : Nat) (a : D), okPy n a = true → (toPy n a).canLay0 = true := by
  intro n
  induction n with
  | zero =>
    intro a ha
    cases a <;> first | rfl | (cases ha; done) | skip
    rename_i l
    show PyData.strOk _ = true
    unfold PyData.strOk
    simpa [okPy] using ha
  | succ n ih =>
    intro a ha
    cases a <;> first | rfl | (cases ha; done) | exact canLay_all ih _ (by simpa [okPy] using ha) | skip
    show PyData.strOk _ = true
    unfold PyData.strOk
    simpa [okPy] using ha
theorem depth_all {n : Nat} (ih : ∀ a, (toPy n a).depth ≤ n) : ∀ xs : List D, PyData.depthAll (xs.map (toPy n)) ≤ n
  | [] => Nat.zero_le _
  | x :: xs => by
    rw [List.map_cons, PyData.depthAll]
    exact Nat.max_le.mpr ⟨ih x, depth_all ih xs⟩
theorem depth_of : ∀ (n : Nat) (a : D), (toPy n a).depth ≤ n := by
  intro n
  induction n with
  | zero => intro a; cases a <;> exact Nat.zero_le _
  | succ n ih => intro a; cases a <;> first | exact Nat.zero_le _ | exact Nat.succ_le_succ (depth_all ih _)
section
variable {h : Heap} {X : Av}
theorem den_plain : ∀ {l : List Nat}, l.all (· < 0x110000) = true → l.map (den sg) = l
  | [], _ => rfl
  | c :: l, e => by
    rw [List.all_cons, Bool.and_eq_true_iff] at e
    rw [List.map_cons, den_plain e.2]
    have h : Nat.beq c 2097152 = false := by
      rw [Bool.eq_false_iff]; intro h
      have := of_decide_eq_true e.1
      have := Nat.eq_of_beq_eq_true h
      omega
    unfold den; rw [h]
theorem reads_all {n : Nat} (ih : ∀ v a, Rd sg h X v a → okPy n a = true → ∃ as, Reads h v (toPy n a) as) : ∀ (vs : List Value) (ds : List D), RdL sg h X vs ds → ds.all (okPy n) = true → ∃ as, ReadsAll h vs (ds.map (toPy n)) as
  | _, _, .nil, _ => ⟨_, .nil⟩
  | _, _, .cons hv hl, e => by
    rw [List.all_cons, Bool.and_eq_true_iff] at e
    obtain ⟨as, r⟩ := ih _ _ hv e.1
    obtain ⟨bs, q⟩ := reads_all ih _ _ hl e.2
    exact ⟨_, .cons r q⟩
theorem reads_of : ∀ (n : Nat) (v : Value) (a : D), Rd sg h X v a → okPy n a = true → ∃ as, Reads h v (toPy n a) as := by
  intro n
  induction n with
  | zero =>
    intro v a r e
    cases r <;> first | (cases e; done) | exact ⟨_, .bool _⟩ | exact ⟨_, .int _ _⟩ | exact ⟨_, by rw [den_plain (by simpa [okPy] using e)]; exact .str _ _⟩
  | succ n ih =>
    intro v a r e
    cases r with
    | bool => exact ⟨_, .bool _⟩
    | int => exact ⟨_, .int _ _⟩
    | str => exact ⟨_, by rw [den_plain (by simpa [okPy] using e)]; exact .str _ _⟩
    | tup _ ht hl =>
      obtain ⟨o, e1, c1, k, d1⟩ := ht
      obtain ⟨as, q⟩ := reads_all ih _ _ hl (by simpa [okPy] using e)
      exact ⟨_, .tuple e1 c1 d1 q⟩
    | lst _ ht hl =>
      obtain ⟨k, e1⟩ := ht
      obtain ⟨as, q⟩ := reads_all ih _ _ hl (by simpa [okPy] using e)
      exact ⟨_, .list e1 rfl rfl q⟩
    | rng => cases e
    | obj => cases e
    | plc => cases e
end
noncomputable def anyEq (x : D) : List D → Bool
  | [] => false
  | y :: l => eqb 0 y x || anyEq x l
noncomputable def nrm (l : List Nat) : Bool := l.all fun c => Nat.blt c 35 || Nat.beq c 2097152
noncomputable def SgOk (sg : Nat) : Prop := 35 ≤ sg ∧ sg < 0x110000
theorem den_inj (hs : SgOk sg) : ∀ {a b : List Nat}, nrm a = true → nrm b = true → eqNats (a.map (den sg)) (b.map (den sg)) = eqNats a b
  | [], [], _, _ => rfl
  | [], _ :: _, _, _ => rfl
  | _ :: _, [], _, _ => rfl
  | c :: a, d :: b, ha, hb => by
    unfold nrm at ha hb
    rw [List.all_cons, Bool.and_eq_true_iff] at ha hb
    rw [List.map_cons, List.map_cons, eqNats, eqNats, den_inj hs ha.2 hb.2]
    congr 1
    have h1 := ha.1
    have h2 := hb.1
    rw [Bool.or_eq_true_iff] at h1 h2
    have k : ∀ {x : Nat}, Nat.blt x 35 = true → Nat.beq x 2097152 = false := fun {x} h => by
      rw [Bool.eq_false_iff]; intro h'
      have := Nat.le_of_ble_eq_true h
      have := Nat.eq_of_beq_eq_true h'
      omega
    have hlt : ∀ {x : Nat}, Nat.blt x 35 = true → x < 35 := fun h => Nat.le_of_ble_eq_true h
    have ne : ∀ {x y : Nat}, x ≠ y → Nat.beq x y = false := fun h => by rw [Bool.eq_false_iff]; intro h'; exact h (Nat.eq_of_beq_eq_true h')
    unfold den
    rcases h1 with h1 | h1 <;> rcases h2 with h2 | h2
    · rw [k h1, k h2]
    · rw [k h1, h2]
      have := hlt h1
      have := Nat.eq_of_beq_eq_true h2
      have := hs.1
      show Nat.beq c sg = Nat.beq c d
      rw [ne (by omega), ne (by omega)]
    · rw [h1, k h2]
      have := hlt h2
      have := Nat.eq_of_beq_eq_true h1
      have := hs.1
      show Nat.beq sg d = Nat.beq c d
      rw [ne (by omega), ne (by omega)]
    · rw [h1, h2]
      rw [Nat.eq_of_beq_eq_true h1, Nat.eq_of_beq_eq_true h2]
      show Nat.beq sg sg = Nat.beq 2097152 2097152
      rw [Nat.beq_refl, Nat.beq_refl]
noncomputable def cmpop : CmpOp → D → D → Option Bool
  | .Eq, .str a, .str b => if nrm a && nrm b then some (eqNats a b) else if okPy 0 (.str a) && okPy 0 (.str b) then some (eqNats a b) else none
  | .NotEq, .str a, .str b => if nrm a && nrm b then some (!eqNats a b) else if okPy 0 (.str a) && okPy 0 (.str b) then some (!eqNats a b) else none
  | .Eq, a, b => if okPy 4 a && okPy 4 b then some (eqb 4 a b) else none
  | .NotEq, a, b => if okPy 4 a && okPy 4 b then some (!eqb 4 a b) else none
  | .Lt, .int a, .int b => some (decide (a < b))
  | .LtE, .int a, .int b => some (decide (a ≤ b))
  | .Gt, .int a, .int b => some (decide (b < a))
  | .GtE, .int a, .int b => some (decide (b ≤ a))
  | .In, a, .lst l => if okPy 0 a && l.all (okPy 0) then some (anyEq a l) else none
  | .Is, .bool a, .bool b => some (a == b)
  | .IsNot, .bool a, .bool b => some (!(a == b))
  | _, _, _ => none
/-- what a frame has room for: k nested calls -/
noncomputable def AOk (k : Nat) (A : Around) : Prop := A.handled = none ∧ A.depth + k < 900 ∧ A.units + 5 * k < 9000
section
variable {prog : Program} {w : World} {A : Around} {X : Av} {s : Shared} {E : Value → Shared → Prop} {k : Nat}
theorem g_bool {t : Sem Value} {b : Bool} (h : ∀ (Q : Value → Shared → Prop) E, Q (.bool b) s → wpAny (model prog w) A t Q E s) : Gives sg (model prog w) A X s t (.bool b) :=
  fun Q E k => h Q E (k _ _ _ (Ext.refl _) (.bool b))
theorem boolBeq (a b : Bool) : (Value.bool a == Value.bool b) = (a == b) := by cases a <;> cases b <;> rfl
noncomputable def flatD : Value → D
  | .bool b => .bool b
  | .int i _ => .int i
  | .str s _ => .str s.cps.toList
  | _ => .rng 0 0
theorem flatD_of {h : Heap} {v : Value} {d : D} (r : Rd sg h X v d) (e : okPy 0 d = true) : flatD v = d := by
  cases r with
  | str l t => exact congrArg D.str (den_plain (by simpa [okPy] using e))
  | bool => rfl
  | int => rfl
  | tup => cases e
  | lst => cases e
  | rng => cases e
  | obj => cases e
  | plc => cases e
theorem in_flat {h : Heap} {a : D} : ∀ {vs : List Value} {l : List D}, RdL sg h X vs l → l.all (okPy 0) = true → vs.any (fun y => eqb 0 (flatD y) a) = anyEq a l
  | _, _, .nil, _ => rfl
  | _, _, .cons hv hl, e => by
    rw [List.all_cons, Bool.and_eq_true_iff] at e
    rw [List.any_cons, anyEq, flatD_of hv e.1, in_flat hl e.2]
theorem RdL.mem {h : Heap} : ∀ {vs : List Value} {l : List D}, RdL sg h X vs l → ∀ y ∈ vs, ∃ d, d ∈ l ∧ Rd sg h X y d
  | _, _, .cons hv hl, y, m => by
    rcases List.mem_cons.mp m with e | m
    · subst e; exact ⟨_, List.mem_cons_self, hv⟩
    · obtain ⟨d, h1, h2⟩ := hl.mem y m
      exact ⟨d, List.mem_cons_of_mem _ h1, h2⟩
theorem cLine_is : cLine = 9900 := rfl
theorem cmpop_sound {op : CmpOp} {a b : D} {r : Bool} {va vb : Value} (e : cmpop op a b = some r) (ra : Rd sg s.heap X va a) (rb : Rd sg s.heap X vb b) (hA : AOk k A) (hs : SgOk sg) : Gives sg (model prog w) A X s (compareOp op va vb) (.bool r) := by
  have hu : ∀ x : PyData, x.depth ≤ 4 → ∀ y : PyData, A.units + min x.depth y.depth < cLine := fun x hx y => by
    have := hA.2.2
    rw [cLine_is]
    omega
  unfold cmpop at e
  split at e
  · split at e
    · rename_i hc
      cases e
      obtain ⟨h1, h2⟩ := Bool.and_eq_true_iff.mp hc
      cases ra; cases rb
      exact g_bool fun Q E h => P.eq_str (by show Q (.bool ((List.map (den sg) _ == List.map (den sg) _))) s; rw [← eqNats_eq, den_inj hs h1 h2]; exact h)
    · split at e
      · rename_i hc
        cases e
        obtain ⟨h1, h2⟩ := Bool.and_eq_true_iff.mp hc
        cases ra; cases rb
        exact g_bool fun Q E h => P.eq_str (by show Q (.bool ((List.map (den sg) _ == List.map (den sg) _))) s; rw [← eqNats_eq, den_plain (by simpa [okPy] using h1), den_plain (by simpa [okPy] using h2)]; exact h)
      · cases e
  · split at e
    · rename_i hc
      cases e
      obtain ⟨h1, h2⟩ := Bool.and_eq_true_iff.mp hc
      cases ra; cases rb
      exact g_bool fun Q E h => P.ne_str (by show Q (.bool (!(List.map (den sg) _ == List.map (den sg) _))) s; rw [← eqNats_eq, den_inj hs h1 h2]; exact h)
    · split at e
      · rename_i hc
        cases e
        obtain ⟨h1, h2⟩ := Bool.and_eq_true_iff.mp hc
        cases ra; cases rb
        exact g_bool fun Q E h => P.ne_str (by show Q (.bool (!(List.map (den sg) _ == List.map (den sg) _))) s; rw [← eqNats_eq, den_plain (by simpa [okPy] using h1), den_plain (by simpa [okPy] using h2)]; exact h)
      · cases e
  · split at e
    · rename_i hc
      cases e
      obtain ⟨h1, h2⟩ := Bool.and_eq_true_iff.mp hc
      obtain ⟨as, r1⟩ := reads_of 4 _ _ ra h1
      obtain ⟨bs, r2⟩ := reads_of 4 _ _ rb h2
      exact g_bool fun Q E h => SeqAt.compareEq_reads r1 r2 (canLay_of 4 _ h1) (canLay_of 4 _ h2) (hu _ (depth_of 4 _) _) (by rw [eqv_eq 4 _ _ h1 h2]; exact h)
    · cases e
  · split at e
    · rename_i hc
      cases e
      obtain ⟨h1, h2⟩ := Bool.and_eq_true_iff.mp hc
      obtain ⟨as, r1⟩ := reads_of 4 _ _ ra h1
      obtain ⟨bs, r2⟩ := reads_of 4 _ _ rb h2
      exact g_bool fun Q E h => SeqAt.compareNe_reads r1 r2 (canLay_of 4 _ h1) (canLay_of 4 _ h2) (hu _ (depth_of 4 _) _) (by rw [eqv_eq 4 _ _ h1 h2]; exact h)
    · cases e
  · cases ra; cases rb; cases e; exact g_bool fun Q E h => PyProof.Rows.lt_int h
  · cases ra; cases rb; cases e; exact g_bool fun Q E h => PyProof.Rows.le_int h
  · cases ra; cases rb; cases e; exact g_bool fun Q E h => PyProof.Rows.gt_int h
  · cases ra; cases rb; cases e; exact g_bool fun Q E h => PyProof.Rows.ge_int h
  · split at e
    · rename_i hc
      cases e
      obtain ⟨h1, h2⟩ := Bool.and_eq_true_iff.mp hc
      cases rb with
      | lst hx hp hl =>
        refine g_bool fun Q E h => SeqAt.in_listAt (fun y => eqb 0 (flatD y) _) hp.isList (fun y hy => ?_) (by rw [List.any_toArray, in_flat hl h2]; exact h)
        obtain ⟨d, hd, rd⟩ := hl.mem y (by simpa using hy)
        have h3 := List.all_eq_true.mp h2 d hd
        obtain ⟨as, r1⟩ := reads_of 0 _ _ rd h3
        obtain ⟨bs, r2⟩ := reads_of 0 _ _ ra h1
        have z := SeqAt.eqAt_reads _ _ A.in1 s _ _ _ _ r1 r2 (canLay_of 0 _ h3) (canLay_of 0 _ h1) (by
          have := hA.2.2
          have := depth_of 0 d
          rw [cLine_is]
          show A.units + 1 + _ < _
          omega)
        rw [eqv_eq 0 _ _ h3 h1] at z
        rw [flatD_of rd h3]
        exact z
    · cases e
  · cases ra; cases rb; cases e; exact g_bool fun Q E h => wpAny_is_plain rfl (by rw [boolBeq]; exact h)
  · cases ra; cases rb; cases e; exact g_bool fun Q E h => wpAny_isNot_plain rfl (by rw [boolBeq]; exact h)
  · cases e
end
end Mine

namespace Mine
variable {sg : Nat}
/-! names as numbers, the syntax, frames -/
noncomputable def nmL : List (List Nat) := [
  [46, 48],
  [67, 79, 77, 80, 73, 76, 69, 82, 95, 70, 76, 65, 71, 95, 78, 65, 77, 69, 83],
  [69, 114, 114, 111, 114],
  [69, 120, 99, 101, 112, 116, 105, 111, 110],
  [83],
  [84],
  [87, 104, 105, 116, 101, 115, 112, 97, 99, 101],
  [95, 95, 105, 110, 105, 116, 95, 95],
  [95, 95, 110, 97, 109, 101, 95, 95],
  [95, 108, 97, 119, 95, 99, 111, 108, 117, 109, 110],
  [95, 108, 97, 119, 95, 108, 111, 110, 103, 101, 115, 116],
  [95, 108, 97, 119, 95, 110, 97, 109, 101, 100],
  [95, 108, 97, 119, 95, 110, 97, 109, 101, 115],
  [95, 108, 97, 119, 95, 111, 112, 101, 110, 101, 100],
  [95, 108, 97, 119, 95, 114, 101, 97, 100],
  [95, 108, 97, 119, 95, 114, 117, 110, 115],
  [95, 108, 97, 119, 95, 115, 101, 101, 110],
  [95, 108, 97, 119, 95, 116, 121, 112, 101, 100],
  [95, 108, 97, 119, 95, 119, 105, 116, 110, 101, 115, 115, 101, 115],
  [95, 119, 97, 108, 108],
  [97],
  [97, 98, 111, 118, 101],
  [97, 104, 101, 97, 100],
  [97, 112, 112, 101, 110, 100],
  [98],
  [98, 101, 102, 111, 114, 101],
  [98, 101, 104, 105, 110, 100],
  [99],
  [99, 104],
  [99, 104, 114],
  [99, 111, 108, 117, 109, 110],
  [99, 111, 108, 117, 109, 110, 115],
  [99, 111, 117, 110, 116],
  [99, 111, 117, 110, 116, 115],
  [99, 114, 101, 97, 115, 101],
  [100, 105, 114, 110, 97, 109, 101],
  [100, 114, 97, 119],
  [100, 114, 97, 119, 115],
  [101, 110, 117, 109, 101, 114, 97, 116, 101],
  [101, 113, 117, 97, 108],
  [101, 114, 114, 111, 114, 95, 114, 101, 112, 108, 121],
  [102, 97, 115, 116],
  [102, 105, 114, 115, 116],
  [102, 108, 97, 103],
  [102, 108, 97, 103, 115],
  [102, 111, 108, 100],
  [102, 111, 108, 100, 101, 100],
  [102, 111, 108, 100, 115],
  [103, 101, 116],
  [104, 101, 97, 114, 100],
  [104, 101, 120],
  [105],
  [105, 108],
  [105, 110, 100, 101, 110, 116, 95, 108, 101, 118, 101, 108],
  [105, 110, 100, 101, 120],
  [105, 115, 95, 115, 105, 109, 112, 108, 101],
  [106, 111, 105, 110],
  [107],
  [108, 97, 115, 116],
  [108, 101, 97, 100],
  [108, 101, 97, 100, 115],
  [108, 101, 110],
  [108, 101, 115, 115],
  [108, 111, 110, 103, 101, 115, 116, 95, 114, 117, 110, 95, 111, 102, 95, 115, 112, 97, 99, 101, 115],
  [109, 97, 120],
  [109, 101, 109, 98, 101, 114, 115],
  [110],
  [110, 97, 109, 101],
  [110, 97, 109, 101, 115],
  [110, 111, 114, 109],
  [110, 111, 116, 95, 101, 113, 117, 97, 108, 95, 119, 105, 116, 110, 101, 115, 115],
  [110, 111, 116, 95, 108, 101, 115, 115, 95, 119, 105, 116, 110, 101, 115, 115],
  [110, 116],
  [110, 117, 109, 98, 101, 114],
  [111, 110, 101],
  [111, 116, 104, 101, 114],
  [111, 119, 110],
  [112, 97, 114, 115, 101, 50, 53, 55],
  [112, 97, 114, 116],
  [112, 108, 97, 99, 101],
  [112, 108, 97, 99, 101, 115],
  [112, 111, 112],
  [112, 114, 101, 116, 116, 121, 95, 102, 108, 97, 103, 115],
  [114, 97, 110, 103, 101],
  [114, 97, 119],
  [114, 101, 115, 112],
  [114, 111, 119],
  [114, 111, 119, 115],
  [114, 117, 110],
  [114, 117, 110, 115],
  [115, 99, 114, 105, 112, 116],
  [115, 101, 101, 110],
  [115, 101, 108, 102],
  [115, 104, 105, 102, 116],
  [115, 105, 103, 110],
  [115, 105, 122, 101],
  [115, 105, 122, 101, 115],
  [115, 112, 108, 105, 116],
  [115, 116, 114, 105, 112],
  [115, 117, 109],
  [116, 97, 98],
  [116, 97, 98, 115, 105, 122, 101],
  [116, 101, 120, 116],
  [116, 104, 105, 114, 100],
  [116, 104, 114, 101, 101],
  [116, 105, 109, 101, 115],
  [116, 111, 108, 100],
  [116, 114, 97, 105, 108, 105, 110, 103],
  [116, 115],
  [116, 117, 112, 108, 101],
  [116, 117, 114, 110, 101, 100],
  [116, 121, 112, 101, 100],
  [117, 112],
  [117, 112, 115],
  [119, 111, 114, 100],
  [119, 111, 114, 100, 115],
  [119, 115],
  [120],
  [122, 105, 112]]
noncomputable def nmAt : List (List Nat) → Nat → Nat → List Nat
  | [], _, i => [i + 1000]
  | a :: _, 0, _ => a
  | _ :: l, n + 1, i => nmAt l n i
noncomputable def nm (i : Nat) : Str := ⟨⟨nmAt nmL i i⟩⟩
theorem nmAt_big : ∀ (l : List (List Nat)) (n i : Nat), l.length ≤ n → nmAt l n i = [i + 1000]
  | [], _, _, _ => rfl
  | _ :: l, n + 1, i, h => nmAt_big l n i (Nat.le_of_succ_le_succ h)
theorem nmAt_small : ∀ (l : List (List Nat)) (n i j : Nat), n < l.length → nmAt l n i = nmAt l n j
  | _ :: _, 0, _, _, _ => rfl
  | _ :: l, n + 1, i, j, h => nmAt_small l n i j (Nat.lt_of_succ_lt_succ h)
theorem nm_len : nmL.length = 119 := by decide +kernel
noncomputable def nmOk : Bool := (List.range 119).all fun i => (List.range 119).all fun j => (Nat.beq i j || !eqNats (nmAt nmL i 0) (nmAt nmL j 0))
noncomputable def nmHd : Bool := (List.range 119).all fun i => (nmAt nmL i 0).all (· < 1000) && !eqNats (nmAt nmL i 0) [95, 95, 100, 101, 98, 117, 103, 95, 95] && !eqNats (nmAt nmL i 0) [95, 95, 99, 108, 97, 115, 115, 100, 105, 99, 116, 95, 95]
theorem nmOk_is : nmOk = true := by decide +kernel
theorem nmHd_is : nmHd = true := by decide +kernel
theorem nmHd_at {i : Nat} (h : i < 119) : (nmAt nmL i i).all (· < 1000) = true ∧ nmAt nmL i i ≠ [95, 95, 100, 101, 98, 117, 103, 95, 95] ∧ nmAt nmL i i ≠ [95, 95, 99, 108, 97, 115, 115, 100, 105, 99, 116, 95, 95] := by
  have z := List.all_eq_true.mp nmHd_is i (List.mem_range.mpr h)
  rw [nmAt_small nmL i i 0 (by rw [nm_len]; exact h)]
  simp only [Bool.and_eq_true, Bool.not_eq_true', eqNats_eq, beq_eq_false_iff_ne] at z
  exact ⟨z.1.1, z.1.2, z.2⟩
theorem nm_inj {i j : Nat} (h : nm i = nm j) : i = j := by
  have e : nmAt nmL i i = nmAt nmL j j := by injection h with h; injection h
  by_cases hi : i < 119
  · by_cases hj : j < 119
    · rw [nmAt_small nmL i i 0 (by rw [nm_len]; exact hi), nmAt_small nmL j j 0 (by rw [nm_len]; exact hj)] at e
      have z := List.all_eq_true.mp (List.all_eq_true.mp nmOk_is i (List.mem_range.mpr hi)) j (List.mem_range.mpr hj)
      rw [Bool.or_eq_true_iff] at z
      rcases z with z | z
      · exact Nat.eq_of_beq_eq_true z
      · rw [eqNats_eq, e] at z; simp at z
    · rw [nmAt_big nmL j j (by rw [nm_len]; omega)] at e
      have z := (nmHd_at hi).1
      rw [e] at z; simp at z; omega
  · rw [nmAt_big nmL i i (by rw [nm_len]; omega)] at e
    by_cases hj : j < 119
    · have z := (nmHd_at hj).1
      rw [← e] at z; simp at z; omega
    · rw [nmAt_big nmL j j (by rw [nm_len]; omega)] at e
      simpa using e
theorem nm_ne {i : Nat} {l : List Nat} (hl : l.length ≠ 1) (h : i < 119 → nmAt nmL i i ≠ l) : (nm i == (⟨⟨l⟩⟩ : Str)) = false := by
  rw [beq_eq_false_iff_ne]
  intro e
  have e : nmAt nmL i i = l := by injection e with h; injection h
  by_cases hi : i < 119
  · exact h hi e
  · rw [nmAt_big nmL i i (by rw [nm_len]; omega)] at e
    rw [← e] at hl; exact hl rfl
theorem nm_debug (i : Nat) : (nm i == ("__debug__" : Str)) = false := nm_ne (l := [95, 95, 100, 101, 98, 117, 103, 95, 95]) (by decide) fun h => (nmHd_at h).2.1
theorem nm_classdict (i : Nat) : (nm i == ("__classdict__" : Str)) = false := nm_ne (l := [95, 95, 99, 108, 97, 115, 115, 100, 105, 99, 116, 95, 95]) (by decide) fun h => (nmHd_at h).2.2

inductive Tg where
  | one (x : Nat) (p : Pos)
  | many (xs : List (Nat × Pos)) (k : Nat) (p : Pos)
mutual
inductive PE where
  | int (i : Int) (k : Nat) (p : Pos)
  | str (l : List Nat) (k : Nat) (p : Pos)
  | bool (b : Bool) (k : Nat) (p : Pos)
  | nm (x : Nat) (p : Pos)
  | bin (l : PE) (op : Operator) (r : PE) (p : Pos)
  | cmp (l : PE) (op : CmpOp) (r : PE) (p : Pos)
  | band (a b : PE) (p : Pos)
  | bor (a b : PE) (p : Pos)
  | ite (t a b : PE) (p : Pos)
  | unot (a : PE) (p : Pos)
  | neg (a : PE) (p : Pos)
  | lst (es : PEs) (p : Pos)
  | tup (es : PEs) (k : Nat) (p : Pos)
  | sub (v i : PE) (p : Pos)
  | slc (v : PE) (lo up st : PO) (sp p : Pos)
  | call (f : Nat) (fp : Pos) (args : PEs) (p : Pos)
  | meth (o : PE) (m : Nat) (ap : Pos) (args : PEs) (p : Pos)
  | attr (o : PE) (m : Nat) (p : Pos)
  | comp (elt : PE) (t : Tg) (iter : PE) (c : PEs) (names : List (Nat × NameKind)) (p : Pos)
inductive PEs where
  | nil
  | cons (e : PE) (r : PEs)
inductive PO where
  | none
  | some (e : PE)
end
noncomputable def Tg.toE : Tg → Expr
  | .one x p => .Name (Mine.nm x) p
  | .many xs k p => .Tuple (xs.map fun x => .Name (Mine.nm x.1) x.2) k p
noncomputable def scopeOf (names : List (Nat × NameKind)) : Scope := { kind := .function, names := names.map fun x => (nm x.1, x.2), isGenerator := false, isCoroutine := false, more := [] }
mutual
noncomputable def PE.toE : PE → Expr
  | .int i k p => .Constant (.int i) k p
  | .str l k p => .Constant (.str ⟨⟨l⟩⟩) k p
  | .bool b k p => .Constant (.bool b) k p
  | .nm x p => .Name (Mine.nm x) p
  | .bin l op r p => .BinOp l.toE op r.toE p
  | .cmp l op r p => .Compare l.toE [op] [r.toE] p
  | .band a b p => .BoolOp .And [a.toE, b.toE] p
  | .bor a b p => .BoolOp .Or [a.toE, b.toE] p
  | .ite t a b p => .IfExp t.toE a.toE b.toE p
  | .unot a p => .UnaryOp .Not a.toE p
  | .neg a p => .UnaryOp .USub a.toE p
  | .lst es p => .List es.toL p
  | .tup es k p => .Tuple es.toL k p
  | .sub v i p => .Subscript v.toE i.toE p
  | .slc v lo up st sp p => .Subscript v.toE (.Slice lo.toO up.toO st.toO sp) p
  | .call f fp args p => .Call (.Name (Mine.nm f) fp) args.toL [] p
  | .meth o m ap args p => .Call (.Attribute o.toE (Mine.nm m) ap) args.toL [] p
  | .attr o m p => .Attribute o.toE (Mine.nm m) p
  | .comp elt t iter c names p => .ListComp elt.toE [⟨t.toE, iter.toE, c.toL, 0⟩] (scopeOf names) p
noncomputable def PEs.toL : PEs → List Expr
  | .nil => []
  | .cons e r => e.toE :: r.toL
noncomputable def PO.toO : PO → Option Expr
  | .none => Option.none
  | .some e => Option.some e.toE
end
theorem star_toE {e : PE} {rest : List Expr} {env : Env} : starEach (e.toE :: rest) env = (false, eval e.toE env) :: starEach rest env := by cases e <;> rfl

noncomputable abbrev Rho := List (Nat × D)
noncomputable def getR : Rho → Nat → Option D
  | [], _ => none
  | (y, d) :: r, x => match Nat.beq y x with | true => some d | false => getR r x
noncomputable def memN : List Nat → Nat → Bool
  | [], _ => false
  | y :: r, x => match Nat.beq y x with | true => true | false => memN r x
theorem memN_mem : ∀ {l : List Nat} {x : Nat}, memN l x = true → x ∈ l
  | y :: r, x, h => by
    unfold memN at h
    split at h
    · rename_i e; rw [Nat.eq_of_beq_eq_true e]; exact List.mem_cons_self
    · exact List.mem_cons_of_mem _ (memN_mem h)
/-- where a frame keeps a variable -/
noncomputable def Ld (env : Env) (x : Str) (v : Value) (h : Heap) : Prop :=
  (env.kindOf x = some .local ∧ ∃ m, h.Ns env.locals m ∧ m x = some v) ∨
  ((env.kindOf x = some .cell ∨ env.kindOf x = some .free) ∧ ∃ c, env.cells.lookup x = some c ∧ h.IsCell c (some v))
theorem Ld.keep {env : Env} {x : Str} {v : Value} {h h' : Heap} (l : Ld env x v h) (k : ∀ b o, h.get? b = some o → h'.get? b = some o) : Ld env x v h' := by
  rcases l with ⟨e, m, n, r⟩ | ⟨e, c, n, r⟩
  · exact .inl ⟨e, m, n.keeps k, r⟩
  · exact .inr ⟨e, c, n, r.keeps k⟩
noncomputable def lookN : List (Nat × NameKind) → Nat → Option NameKind
  | [], _ => none
  | (y, k) :: r, x => match Nat.beq y x with | true => some k | false => lookN r x
noncomputable def KindOk (env : Env) (x : Str) : NameKind → Prop
  | .local => env.kindOf x = some .local
  | .cell => env.kindOf x = some .cell ∧ ∃ c, env.cells.lookup x = some c
  | .free => (env.kindOf x = some .cell ∨ env.kindOf x = some .free) ∧ ∃ c, env.cells.lookup x = some c
  | .globalImplicit => env.kindOf x = some .globalImplicit
  | _ => True
structure EOk (sg : Nat) (B : Heap) (nk : List (Nat × NameKind)) (env : Env) (X : Av) (ρ : Rho) (h : Heap) : Prop where
  fn : env.scope.kind = .function
  ge : env.globals = 3
  be : env.builtins = 0
  ext : Ext B h
  xok : XOk X h
  xlo : ∀ b, X b → B.get? b = none
  kin : ∀ x k, lookN nk x = some k → KindOk env (nm x) k
  loc : X env.locals ∧ ∃ m, h.Ns env.locals m
  cel : ∀ x c, env.cells.lookup x = some c → X c ∧ c ≠ env.locals ∧ ∃ v, h.IsCell c v
  apart : ∀ x y c, env.cells.lookup x = some c → env.cells.lookup y = some c → x = y
  var : ∀ x d, getR ρ x = some d → ∃ v, Rd sg h X v d ∧ Ld env (nm x) v h
theorem Ld.keep' {env : Env} {x : Str} {v : Value} {h h' : Heap} (l : Ld env x v h) (k1 : ∀ o, h.get? env.locals = some o → h'.get? env.locals = some o)
    (k2 : ∀ c o, env.cells.lookup x = some c → h.get? c = some o → h'.get? c = some o) : Ld env x v h' := by
  rcases l with ⟨e, m, n, r⟩ | ⟨e, c, n, o, ho, r⟩
  · exact .inl ⟨e, m, n.at' k1, r⟩
  · exact .inr ⟨e, c, n, o, k2 _ _ n ho, r⟩
/-- a step that changes places of W alone -/
theorem EOk.step {B : Heap} {nk} {env : Env} {X W : Av} {ρ : Rho} {h h' : Heap} (o : EOk sg B nk env X ρ h) (k : ∀ b o, ¬ W b → h.get? b = some o → h'.get? b = some o)
    (hW : ∀ b, W b → X b) (hx : XOk X h') (hl : ¬ W env.locals) (hc : ∀ x c, env.cells.lookup x = some c → ¬ W c) : EOk sg B nk env X ρ h' where
  fn := o.fn
  ge := o.ge
  be := o.be
  ext := fun b ob e => k b ob (fun w => by rw [o.xlo b (hW b w)] at e; cases e) (o.ext b ob e)
  xok := hx
  xlo := o.xlo
  kin := o.kin
  loc := ⟨o.loc.1, let ⟨m, n⟩ := o.loc.2; ⟨m, n.at' fun o e => k _ o hl e⟩⟩
  cel := fun x c e => let ⟨a, b, v, ob, ho, r⟩ := o.cel x c e; ⟨a, b, v, ob, k _ _ (hc x c e) ho, r⟩
  apart := o.apart
  var := fun x d e => let ⟨v, r, l⟩ := o.var x d e; ⟨v, r.keep fun b ob hb => k b ob fun w => hb (hW b w), l.keep' (fun ob => k _ ob hl) fun c ob e => k _ ob (hc _ c e)⟩
theorem EOk.keep {B : Heap} {nk} {env : Env} {X : Av} {ρ : Rho} {h h' : Heap} (o : EOk sg B nk env X ρ h) (k : Ext h h') : EOk sg B nk env X ρ h' :=
  o.step (W := fun _ => False) (fun b ob _ => k b ob) (fun _ f => f.elim) (o.xok.ext k) (fun f => f) fun _ _ _ f => f
theorem EOk.weak {B : Heap} {nk} {env : Env} {X : Av} {ρ ρ' : Rho} {h : Heap} (o : EOk sg B nk env X ρ h) (k : ∀ x d, getR ρ' x = some d → getR ρ x = some d) : EOk sg B nk env X ρ' h :=
  { o with var := fun x d e => o.var x d (k x d e) }
/-- the places a frame keeps its variables in -/
noncomputable def Own (env : Env) (xs : List Nat) (b : Addr) : Prop := b = env.locals ∨ ∃ x, x ∈ xs ∧ env.kindOf (nm x) = some .cell ∧ env.cells.lookup (nm x) = some b
noncomputable def setOk (nk : List (Nat × NameKind)) (x : Nat) : Bool := match lookN nk x with | some .local => true | some .cell => true | _ => false
theorem SameBut.live {h h' : Heap} {p : Addr} (k : Heap.SameBut p h h') {X : Av} (hx : XOk X h) (hp : ∃ o, h'.get? p = some o) : XOk X h' := fun b hb => by
  by_cases e : b = p
  · subst e; exact hp
  · obtain ⟨o, ho⟩ := hx b hb
    exact ⟨o, k.extBut b o e ho⟩
section
variable {M : Model} {A : Around} {B : Heap} {nk : List (Nat × NameKind)} {env : Env} {X : Av} {ρ : Rho} {s : Shared} {E : Value → Shared → Prop}
theorem getR_cons {x y : Nat} {d : D} : getR ((x, d) :: ρ) y = if x = y then some d else getR ρ y := by
  show (match Nat.beq x y with | true => some d | false => getR ρ y) = _
  by_cases h : x = y
  · subst h; rw [Nat.beq_refl, if_pos rfl]
  · have : Nat.beq x y = false := by rw [Bool.eq_false_iff]; intro h'; exact h (Nat.eq_of_beq_eq_true h')
    rw [this, if_neg h]
theorem wp_store {x : Nat} {v : Value} {d : D} {Q : Unit → Shared → Prop} (o : EOk sg B nk env X ρ s.heap) (r : Rd sg s.heap X v d) (hx : setOk nk x = true)
    (h : ∀ h' tk, EOk sg B nk env X ((x, d) :: ρ) h' → (∀ b ob, ¬ Own env [x] b → s.heap.get? b = some ob → h'.get? b = some ob) → (∀ y v', y ≠ x → Ld env (nm y) v' s.heap → Ld env (nm y) v' h') → Ld env (nm x) v h' → Q () { s with heap := h', toks := tk }) : wpAny M A (storeName env (nm x) v) Q E s := by
  unfold setOk at hx
  have base : ∀ (p : Addr) (h' : Heap) (tk : Nat), Own env [x] p → X p → Heap.SameBut p s.heap h' → (∃ ob, h'.get? p = some ob) → (∃ m, h'.Ns env.locals m) → (∀ y c, env.cells.lookup y = some c → ∃ u, h'.IsCell c u) →
      (∀ y v', nm y ≠ nm x → Ld env (nm y) v' s.heap → Ld env (nm y) v' h') → Ld env (nm x) v h' → Q () { s with heap := h', toks := tk } := by
    intro p h' tk hp hX hs hl hn hcel hld hldx
    have kk : ∀ b ob, b ≠ p → s.heap.get? b = some ob → h'.get? b = some ob := fun b ob e => hs.extBut b ob e
    refine h h' tk ⟨o.fn, o.ge, o.be, fun b ob e => kk b ob (fun e' => by rw [e', o.xlo p hX] at e; cases e) (o.ext b ob e), SameBut.live hs o.xok hl, o.xlo, o.kin, ⟨o.loc.1, hn⟩, fun y c e => ⟨(o.cel y c e).1, (o.cel y c e).2.1, hcel y c e⟩, o.apart, ?_⟩ (fun b ob hb => kk b ob fun e => hb (e ▸ hp)) (fun y v' hyx => hld y v' fun e => hyx (nm_inj e)) hldx
    intro y d' e
    rw [getR_cons] at e
    split at e
    · rename_i exy
      cases e; subst exy
      exact ⟨v, r.keep fun b ob hb => kk b ob fun e => hb (e ▸ hX), hldx⟩
    · rename_i exy
      obtain ⟨v', r', l'⟩ := o.var y d' e
      exact ⟨v', r'.keep fun b ob hb => kk b ob fun e => hb (e ▸ hX), hld y v' (fun e => exy (nm_inj e).symm) l'⟩
  split at hx
  · rename_i hk
    have hk' : env.kindOf (nm x) = some .local := o.kin _ _ hk
    obtain ⟨m, hn⟩ := o.loc.2
    refine wpAny_storeName_local hk' hn (fun h' hn' hs' => ?_) (by rw [o.fn]; rfl)
    refine base env.locals h' _ (.inl rfl) o.loc.1 hs' (let ⟨ob, _, _, e, _⟩ := hn'; ⟨ob, e⟩) ⟨_, hn'⟩ (fun y c e => ?_) (fun y v' hne l => ?_) (.inl ⟨hk', _, hn', by simp⟩)
    · obtain ⟨_, hcl, u, hu⟩ := o.cel y c e
      exact ⟨u, hu.sameBut hs' hcl⟩
    · rcases l with ⟨e, m', n, hm⟩ | ⟨e, c, n, hc⟩
      · have key : ∀ z, m' z = m z := fun z => Heap.Ns.agree n hn z
        exact .inl ⟨e, _, hn', by simp only [if_neg hne]; rw [← key]; exact hm⟩
      · exact .inr ⟨e, c, n, hc.sameBut hs' (o.cel _ _ n).2.1⟩
  · rename_i hk
    obtain ⟨hk', c, hc⟩ := (o.kin _ _ hk : KindOk env (nm x) .cell)
    obtain ⟨hXc, hcl, u, hu⟩ := o.cel _ _ hc
    refine wpAny_storeName_cell o.fn hk' hc hu fun h' hc' hs' => ?_
    refine base c h' _ (.inr ⟨x, List.mem_singleton.mpr rfl, hk', hc⟩) hXc hs' (let ⟨ob, e, _⟩ := hc'; ⟨ob, e⟩) ?_ (fun y c' e => ?_) (fun y v' hne l => ?_) (.inr ⟨.inl hk', c, hc, hc'⟩)
    · obtain ⟨m, n⟩ := o.loc.2; exact ⟨m, n.sameBut hs' hcl.symm⟩
    · by_cases ec : c' = c
      · subst ec; exact ⟨_, hc'⟩
      · obtain ⟨_, _, u, hu⟩ := o.cel y c' e
        exact ⟨u, hu.sameBut hs' ec⟩
    · rcases l with ⟨e, m', n, hm⟩ | ⟨e, c', n, hcc⟩
      · exact .inl ⟨e, m', n.sameBut hs' hcl.symm, hm⟩
      · have ec : c' ≠ c := fun ec => hne (o.apart _ _ _ n (ec ▸ hc))
        exact .inr ⟨e, c', n, hcc.sameBut hs' ec⟩
  · cases hx
end
end Mine

namespace Mine
/-! expressions: one rule for each form -/
section
/-- a frame, and what surrounds it -/
structure Fr where
  sg : Nat
  prog : Program
  w : World
  A : Around
  B : Heap
  nk : List (Nat × NameKind)
  env : Env
  X : Av
  ρ : Rho
noncomputable def Fr.Ok (F : Fr) (h : Heap) : Prop := EOk F.sg F.B F.nk F.env F.X F.ρ h
theorem Fr.Ok.keep {F : Fr} {h h' : Heap} (o : F.Ok h) (k : Ext h h') : F.Ok h' := EOk.keep o k
noncomputable abbrev Fr.M (F : Fr) : Model := model F.prog F.w
variable {F : Fr} {k : Nat}
/-- e gives d wherever the frame is so -/
noncomputable def EV (F : Fr) (e : Expr) (d : D) : Prop := ∀ s, F.Ok s.heap → Gives F.sg F.M F.A F.X s (eval e F.env) d
noncomputable def BV (F : Fr) (e : Expr) (b : Bool) : Prop := ∀ s, F.Ok s.heap → GivesB F.M F.A s (isTrue e F.env (eval e F.env)) b
noncomputable def LV (F : Fr) (es : List Expr) (ds : List D) : Prop :=
  ∀ s, F.Ok s.heap → ∀ (pos : Pos) (Q : List Value → Shared → Prop) (E : Value → Shared → Prop), (∀ vs h' tk, Ext s.heap h' → RdL F.sg h' F.X vs ds → Q vs { s with heap := h', toks := tk }) →
    wpAny F.M F.A (spliced (backTo pos (starEach es F.env))) Q E s

theorem ev_int {i k p} : EV F (.Constant (.int i) k p) (.int i) := fun _ _ _ _ h => wpAny_Constant_int (h _ _ _ (Ext.refl _) (.int ..))
theorem ev_bool {b k p} : EV F (.Constant (.bool b) k p) (.bool b) := fun _ _ _ _ h => wpAny_Constant_bool (h _ _ _ (Ext.refl _) (.bool ..))
theorem Rd.plain {sg : Nat} {h : Heap} {X : Av} {l : List Nat} {t : Tok} (hp : l.all (· < 0x110000) = true) : Rd sg h X (.str ⟨⟨l⟩⟩ t) (.str l) := by
  have z := Rd.str (sg := sg) (h := h) (X := X) l t
  rwa [den_plain hp] at z
theorem ev_str {l k p} (hp : l.all (· < 0x110000) = true) : EV F (.Constant (.str ⟨⟨l⟩⟩) k p) (.str l) := fun _ _ _ _ h => wpAny_Constant_str (h _ _ _ (Ext.refl _) (.plain hp))
theorem ev_nm {x : Nat} {p} {d} (e : getR F.ρ x = some d) : EV F (.Name (nm x) p) d := fun s o Q E h => by
  obtain ⟨v, r, l⟩ := o.var x d e
  refine wpAny_Name ?_ (nm_debug x)
  rcases l with ⟨hk, m, hn, hm⟩ | ⟨hk | hk, c, hc, hv⟩
  · exact wpAny_loadName_local o.fn hk hn hm (h _ _ _ (Ext.refl _) r)
  · exact wpAny_loadName_cell o.fn hk hc hv (h _ _ _ (Ext.refl _) r)
  · exact wpAny_loadName_free o.fn hk hc hv (h _ _ _ (Ext.refl _) r) (nm_classdict x)
theorem ev_bin {l r : Expr} {op p} {a b d} (h1 : EV F l a) (h2 : EV F r b) (e : binop op a b = some d) : EV F (.BinOp l op r p) d := fun s o Q E h => by
  refine wpAny_BinOp (h1 s o _ _ fun va h₁ t₁ k₁ r₁ => h2 _ (o.keep k₁) _ _ fun vb h₂ t₂ k₂ r₂ => ?_)
  exact binop_sound e (r₁.ext k₂) r₂ (o.xok.ext (k₁.trans k₂)) _ _ fun v h₃ t₃ k₃ r₃ => h _ _ _ ((k₁.trans k₂).trans k₃) r₃
theorem ev_cmp {l r : Expr} {op p} {a b d} (h1 : EV F l a) (h2 : EV F r b) (e : cmpop op a b = some d) (hA : AOk k F.A) (hs : SgOk F.sg) (hm : behindInMarks op r = false) : EV F (.Compare l [op] [r] p) (.bool d) := fun s o Q E h => by
  refine wpAny_Compare1 (h1 s o _ _ fun va h₁ t₁ k₁ r₁ => h2 _ (o.keep k₁) _ _ fun vb h₂ t₂ k₂ r₂ => ?_) hm
  exact cmpop_sound e (r₁.ext k₂) r₂ hA hs _ _ fun v h₃ t₃ k₃ r₃ => h _ _ _ ((k₁.trans k₂).trans k₃) r₃
theorem bv_cmp {l r : Expr} {op p} {a b d} (h1 : EV F l a) (h2 : EV F r b) (e : cmpop op a b = some d) (hA : AOk k F.A) (hs : SgOk F.sg) (hm : behindInMarks op r = false) : BV F (.Compare l [op] [r] p) d := fun s o Q E h => by
  refine wpAny_isTrue_Compare1 (h1 s o _ _ fun va h₁ t₁ k₁ r₁ => h2 _ (o.keep k₁) _ _ fun vb h₂ t₂ k₂ r₂ => ?_) hm
  refine cmpop_sound e (r₁.ext k₂) r₂ hA hs _ _ fun v h₃ t₃ k₃ r₃ => ?_
  cases r₃
  exact wpAny_truthy_bool (h _ _ ((k₁.trans k₂).trans k₃))
theorem ev_ite {t a b : Expr} {p} {c : Bool} {d} (h1 : BV F t c) (h2 : if c then EV F a d else EV F b d) : EV F (.IfExp t a b p) d := fun s o Q E h => by
  refine wpAny_IfExp (h1 s o _ _ fun h₁ t₁ k₁ => ?_)
  cases c
  · exact h2 _ (o.keep k₁) _ _ fun v h₂ t₂ k₂ r₂ => h _ _ _ (k₁.trans k₂) r₂
  · exact h2 _ (o.keep k₁) _ _ fun v h₂ t₂ k₂ r₂ => h _ _ _ (k₁.trans k₂) r₂
theorem bv_and {a b : Expr} {p} {x y : Bool} (h1 : BV F a x) (h2 : x = true → BV F b y) : BV F (.BoolOp .And [a, b] p) (x && y) := fun s o Q E h => by
  refine wpAny_isTrue_BoolOp (wpAny_allTrue_And_cons (h1 s o _ _ fun h₁ t₁ k₁ => ?_))
  cases x
  · exact h _ _ k₁
  · refine wpAny_allTrue_And_cons (h2 rfl _ (o.keep k₁) _ _ fun h₂ t₂ k₂ => ?_)
    cases y
    · exact h _ _ (k₁.trans k₂)
    · exact wpAny_allTrue_And_nil (h _ _ (k₁.trans k₂))
theorem bv_or {a b : Expr} {p} {x y : Bool} (h1 : BV F a x) (h2 : x = false → BV F b y) : BV F (.BoolOp .Or [a, b] p) (x || y) := fun s o Q E h => by
  refine wpAny_isTrue_BoolOp (wpAny_allTrue_Or_cons (h1 s o _ _ fun h₁ t₁ k₁ => ?_))
  cases x
  · refine wpAny_allTrue_Or_cons (h2 rfl _ (o.keep k₁) _ _ fun h₂ t₂ k₂ => ?_)
    cases y
    · exact wpAny_allTrue_Or_nil (h _ _ (k₁.trans k₂))
    · exact h _ _ (k₁.trans k₂)
  · exact h _ _ k₁
theorem bv_not {a : Expr} {p} {x : Bool} (h1 : BV F a x) : BV F (.UnaryOp .Not a p) (!x) := fun s o Q E h =>
  wpAny_isTrue_Not (h1 s o _ _ fun h₁ t₁ k₁ => h _ _ k₁)
noncomputable def truthD : D → Option Bool
  | .bool b => some b
  | .int i => some (i != 0)
  | _ => none
theorem truth_sound {v : Value} {d : D} {b : Bool} {s : Shared} (e : truthD d = some b) (r : Rd F.sg s.heap F.X v d) : GivesB F.M F.A s (truthy v) b := fun Q E h => by
  unfold truthD at e
  split at e
  · cases r; cases e; exact wpAny_truthy_bool (h _ _ (Ext.refl _))
  · cases r; cases e; exact P.truthy_int (h _ _ (Ext.refl _))
  · cases e
theorem bv_val {a : Expr} {d} {b : Bool} (h1 : EV F a d) (e : truthD d = some b) (hf : ∀ whole, isTrue a F.env whole = (do let v ← whole; standAt a.pos; holding [v] (truthy v))) : BV F a b := fun s o Q E h =>
  wpAny_isTrue_value (h1 s o _ _ fun v h₁ t₁ k₁ r₁ => truth_sound e r₁ _ _ fun h₂ t₂ k₂ => h _ _ (k₁.trans k₂)) (hf _)
theorem ev_not {a : Expr} {p d} {b : Bool} (h1 : EV F a d) (e : truthD d = some b) : EV F (.UnaryOp .Not a p) (.bool (!b)) := fun s o Q E h =>
  wpAny_UnaryOp (h1 s o _ _ fun v h₁ t₁ k₁ r₁ => not_value (truth_sound e r₁ _ _ fun h₂ t₂ k₂ => h _ _ _ (k₁.trans k₂) (.bool _)))
theorem ev_neg {a : Expr} {p} {i : Int} (h1 : EV F a (.int i)) : EV F (.UnaryOp .USub a p) (.int (-i)) := fun s o Q E h =>
  wpAny_UnaryOp (h1 s o _ _ fun v h₁ t₁ k₁ r₁ => by cases r₁; exact P.neg_int (h _ _ _ k₁ (.int ..)))
theorem lv_nil : LV F [] [] := fun s o pos Q E h => wpAny_pure (h _ _ _ (Ext.refl _) .nil)
theorem lv_cons {e : Expr} {r : List Expr} {d ds} (hs : starEach (e :: r) F.env = (false, eval e F.env) :: starEach r F.env) (h1 : EV F e d) (h2 : LV F r ds) : LV F (e :: r) (d :: ds) := fun s o pos Q E h => by
  rw [hs]
  exact Calls.spliced_cons (h1 s o _ _ fun v h₁ t₁ k₁ r₁ => h2 _ (o.keep k₁) _ _ _ fun vs h₂ t₂ k₂ r₂ => h _ _ _ (k₁.trans k₂) (.cons (r₁.ext k₂) r₂))
end
end Mine

namespace Mine
/-! displays, items, slices -/
section
variable {F : Fr} {k : Nat}
theorem ev_list {es : List Expr} {p ds} (h1 : LV F es ds) (hl : ds.length ≤ lim) : EV F (.List es p) (.lst ds) := fun s o Q E h =>
  wpAny_List (h1 s o _ _ _ fun vs h₁ t₁ k₁ r₁ => ⟨by rw [r₁.length]; exact Nat.le_trans hl sizeLine_lim, h _ _ _ (k₁.trans (Ext.push _ _)) (.lst ((o.keep k₁).xok.fresh (Nat.le_refl _)) ⟨0, Heap.get?_push_size _ rfl⟩ (r₁.ext (Ext.push _ _)))⟩)
theorem ev_tuple {es : List Expr} {c p ds} (h1 : LV F es ds) (hl : ds.length ≤ lim) : EV F (.Tuple es c p) (.tup ds) := fun s o Q E h =>
  wpAny_Tuple (h1 s o _ _ _ fun vs h₁ t₁ k₁ r₁ => ⟨by rw [r₁.length]; exact Nat.le_trans hl sizeLine_lim, h _ _ _ (k₁.trans (Ext.push _ _)) (.tup ((o.keep k₁).xok.fresh (Nat.le_refl _)) ⟨_, Heap.get?_push_size _ rfl, rfl, 0, rfl⟩ (r₁.ext (Ext.push _ _)))⟩)

/-- the subscript's own frame, for a value of a built-in type -/
theorem wp_subscript {A : Around} {env : Env} {s : Shared} {E : Value → Shared → Prop} {prog : Program} {w : World} {value sl : Expr} {pos : Pos} {Q : Value → Shared → Prop}
    (h : wpAny (model prog w) A (eval value env) (fun o s₁ => wpAny (model prog w) A (eval sl env) (fun i s₂ => ∃ T id, typeLookup (.type T) "__getitem__" = pure (some (.builtin id)) ∧ s₂.TypeIs o T ∧
      wpAny (model prog w) A (getItem o i) Q E s₂) E s₁) E s) :
    wpAny (model prog w) A (eval (.Subscript value sl pos) env) Q E s := by
  rw [eval_Subscript]
  refine wpAny_bind (wpAny_mono h (fun o s₁ h₁ => wpAny_bind (wpAny_holding (wpAny_mono h₁ (fun i s₂ h₂ => wpAny_bind (wpAny_standAt ?_)) fun _ _ x => x))) fun _ _ x => x)
  obtain ⟨T, id, hl, hT, hg⟩ := h₂
  have fin : ∀ vs, wpAny (model prog w) A (operate vs (getItem o i)) (fun r s₃ => wpAny (model prog w) A (letTemporaryGo value o r >>= fun _ => pure r) Q E s₃) E s₂ := fun vs =>
    wpAny_operating (wpAny_mono hg (fun r s₃ h₃ => wpAny_bind (wpAny_letTemporaryGo (wpAny_pure h₃))) fun _ _ x => x)
  have sub : wpAny (model prog w) A (subscripted sl false o i) (fun r s₃ => wpAny (model prog w) A (letTemporaryGo value o r >>= fun _ => pure r) Q E s₃) E s₂ := by
    unfold subscripted
    split
    · exact fin _
    · rename_i e; cases e
    · exact fin _
  refine wpAny_bind ?_
  rw [getitemInPython_of_ne hT.not_modules]
  exact wpAny_bind (wpAny_specialOf hT hl (wpAny_pure (wpAny_bind sub)))

/-- where an index points -/
noncomputable def pickAt (n : Nat) (i : Int) : Option Nat :=
  if decide (0 ≤ i) && decide (i < n) then some i.toNat else if decide (i < 0) && decide (-(n : Int) ≤ i) then some (i + n).toNat else none
theorem pickAt_seq {n : Nat} {i : Int} {j : Nat} (e : pickAt n i = some j) : seqIndex? i n = some j ∧ j < n ∧ -(n : Int) ≤ i ∧ i < n := by
  unfold pickAt at e
  split at e
  · rename_i hc
    cases e
    simp only [Bool.and_eq_true, decide_eq_true_eq] at hc
    exact ⟨seqIndex_of hc.1 hc.2, by omega, by omega, hc.2⟩
  · split at e
    · rename_i hc
      cases e
      simp only [Bool.and_eq_true, decide_eq_true_eq] at hc
      refine ⟨?_, by omega, by omega, by omega⟩
      unfold seqIndex?
      have h1 : i + (n : Int) < n := by omega
      have h2 : 0 ≤ i + (n : Int) := by omega
      simp [hc.1, h1, h2]
    · cases e
noncomputable def atD : List D → Nat → Option D
  | [], _ => none
  | d :: _, 0 => some d
  | _ :: l, n + 1 => atD l n
noncomputable def atN : List Nat → Nat → Option Nat
  | [], _ => none
  | d :: _, 0 => some d
  | _ :: l, n + 1 => atN l n
theorem atD_eq : ∀ (l : List D) (n : Nat), atD l n = l[n]?
  | [], _ => rfl
  | _ :: _, 0 => rfl
  | _ :: l, n + 1 => by rw [atD, atD_eq l n, List.getElem?_cons_succ]
theorem atN_eq : ∀ (l : List Nat) (n : Nat), atN l n = l[n]?
  | [], _ => rfl
  | _ :: _, 0 => rfl
  | _ :: l, n + 1 => by rw [atN, atN_eq l n, List.getElem?_cons_succ]
noncomputable def idxop : D → D → Option D
  | .lst l, .int i => if decide (l.length ≤ lim) then match pickAt l.length i with | some j => atD l j | none => none else none
  | .tup l, .int i => if decide (l.length ≤ lim) then match pickAt l.length i with | some j => atD l j | none => none else none
  | .str l, .int i => if decide (l.length ≤ lim) then match pickAt l.length i with | some j => (match atN l j with | some c => some (.str [c]) | none => none) | none => none else none
  | _, _ => none
theorem lim_is : lim = 1000000 := rfl
theorem idx_sound {a b d : D} {va vb : Value} {s : Shared} (e : idxop a b = some d) (ra : Rd F.sg s.heap F.X va a) (rb : Rd F.sg s.heap F.X vb b) :
    ∀ (Q : Value → Shared → Prop) (E : Value → Shared → Prop), (∀ v h' tk, Ext s.heap h' → Rd F.sg h' F.X v d → Q v { s with heap := h', toks := tk }) →
      ∃ T id, typeLookup (.type T) "__getitem__" = pure (some (.builtin id)) ∧ s.TypeIs va T ∧ wpAny F.M F.A (getItem va vb) Q E s := by
  intro Q E h
  have hl := lim_is
  unfold idxop at e
  split at e
  · split at e
    · rename_i l i hc
      have hc := of_decide_eq_true hc
      split at e
      · rename_i j hp
        obtain ⟨h1, h2, h3, h4⟩ := pickAt_seq hp
        cases ra with | lst hx pl rl => cases rb with | int _ t =>
        rw [atD_eq] at e
        obtain ⟨v, hv, rv⟩ := rl.get e
        have hz := rl.length
        refine ⟨"list", _, slot_list_getitem.lookup, pl.isList.typeIs, ?_⟩
        by_cases hn : 0 ≤ i
        · have ej : j = i.toNat := by
            rw [seqIndex_of hn h4] at h1; cases h1; rfl
          subst ej
          exact wpAny_getItem_list pl.isList hn (by omega) (by simpa using hv) (h _ _ _ (Ext.refl _) rv)
        · refine wpAny_getItem_list_neg pl.isList (by omega) (by simp only [List.size_toArray]; omega) (by omega) (x := v) ?_ (h _ _ _ (Ext.refl _) rv)
          have ej : j = (i + (l.length : Int)).toNat := by
            unfold pickAt at hp
            rw [if_neg (by simp; omega)] at hp
            split at hp
            · cases hp; rfl
            · cases hp
          subst ej
          simp only [List.size_toArray, hz, List.getElem?_toArray]
          exact hv
      · cases e
    · cases e
  · split at e
    · rename_i l i hc
      have hc := of_decide_eq_true hc
      split at e
      · rename_i j hp
        obtain ⟨h1, h2, h3, h4⟩ := pickAt_seq hp
        cases ra with | tup hx pl rl => cases rb with | int _ t =>
        rw [atD_eq] at e
        obtain ⟨v, hv, rv⟩ := rl.get e
        have hz := rl.length
        refine ⟨"tuple", _, PySem.F.slot_tuple_getitem.lookup, ⟨_, pl.choose_spec.1, pl.choose_spec.2.1⟩, ?_⟩
        exact PyProof.Rows.getItem_tuple (t := _) pl (by omega) (by omega) (by simp only [List.size_toArray, hz]; exact h1) (by simpa using hv) (h _ _ _ (Ext.refl _) rv)
      · cases e
    · cases e
  · split at e
    · rename_i l i hc
      have hc := of_decide_eq_true hc
      split at e
      · rename_i j hp
        obtain ⟨h1, h2, h3, h4⟩ := pickAt_seq hp
        split at e
        · rename_i c hcc
          cases e
          cases ra with | str _ t => cases rb with | int _ u =>
          rw [atN_eq] at hcc
          refine ⟨"str", _, PySem.F.slot_str_getitem.lookup, typeIs_str _ _ _, ?_⟩
          refine P.getItem_str (c := den F.sg c) ?_ ?_ (h _ _ _ (Ext.refl _) (.str [c] _))
          · rw [Bool.or_eq_false_iff]; exact ⟨decide_eq_false (by omega), decide_eq_false (by omega)⟩
          · have hz : Str.length ⟨⟨l.map (den F.sg)⟩⟩ = l.length := by simp [Str.length]
            rw [hz, h1]
            simp [hcc]
        · cases e
      · cases e
    · cases e
  · cases e
theorem ev_sub {v i : Expr} {p} {a b d} (h1 : EV F v a) (h2 : EV F i b) (e : idxop a b = some d) : EV F (.Subscript v i p) d := fun s o Q E h => by
  refine wp_subscript (h1 s o _ _ fun va h₁ t₁ k₁ r₁ => h2 _ (o.keep k₁) _ _ fun vb h₂ t₂ k₂ r₂ => ?_)
  exact idx_sound e (r₁.ext k₂) r₂ _ _ fun v h₃ t₃ k₃ r₃ => h _ _ _ ((k₁.trans k₂).trans k₃) r₃

noncomputable def pickD (l : List D) : List Nat → List D
  | [] => []
  | i :: r => match atD l i with | some d => d :: pickD l r | none => pickD l r
noncomputable def pickN (l : List Nat) : List Nat → List Nat
  | [] => []
  | i :: r => match atN l i with | some d => d :: pickN l r | none => pickN l r
noncomputable def slop (a : D) (lo hi st : Option Int) : Option D :=
  match a with
  | .lst l => if decide (l.length ≤ lim) && decide (st ≠ some 0) then
      some (.lst (pickD l (sliceRange (sliceBounds lo hi st l.length).1 (sliceBounds lo hi st l.length).2.1 (sliceBounds lo hi st l.length).2.2))) else none
  | .str l =>
    if decide (l.length ≤ lim) && decide (st ≠ some 0) && decide ((Builtin.Str.strSliceIndices lo hi (st.getD 1) l.length).length ≤ lim) then
      some (.str (if st.getD 1 == 1 && (Builtin.Str.strSliceIndices lo hi (st.getD 1) l.length).length == l.length then l else pickN l (Builtin.Str.strSliceIndices lo hi (st.getD 1) l.length))) else none
  | _ => none
theorem pickD_rd {sg : Nat} {h : Heap} {X : Av} {vs : List Value} {ds : List D} (r : RdL sg h X vs ds) : ∀ is : List Nat, RdL sg h X (is.filterMap (vs[·]?)) (pickD ds is)
  | [] => .nil
  | i :: is => by
    have ih := pickD_rd r is
    unfold pickD
    cases e : atD ds i with
    | none =>
      have hv : vs[i]? = none := by
        rw [atD_eq] at e
        rw [List.getElem?_eq_none_iff] at e ⊢
        rw [r.length]; exact e
      rw [List.filterMap_cons_none hv]; exact ih
    | some d =>
      rw [atD_eq] at e
      obtain ⟨v, hv, rv⟩ := r.get e
      rw [List.filterMap_cons_some hv]; exact .cons rv ih
theorem pickN_map (f : Nat → Nat) (l : List Nat) : ∀ is : List Nat, is.filterMap ((l.map f)[·]?) = (pickN l is).map f
  | [] => rfl
  | i :: is => by
    have ih := pickN_map f l is
    unfold pickN
    cases e : atN l i with
    | none =>
      have hv : (l.map f)[i]? = none := by
        rw [atN_eq] at e; simp [e]
      rw [List.filterMap_cons_none hv]; exact ih
    | some d =>
      have hv : (l.map f)[i]? = some (f d) := by
        rw [atN_eq] at e; simp [e]
      rw [List.filterMap_cons_some hv, ih]; rfl
theorem pickN_len (l : List Nat) : ∀ is : List Nat, (pickN l is).length ≤ is.length
  | [] => Nat.le_refl _
  | i :: is => by
    have := pickN_len l is
    unfold pickN
    split <;> simp only [List.length_cons] <;> omega
/-- a part of a slice, evaluated -/
noncomputable def OV (F : Fr) : Option Expr → Option Int → Prop
  | none, none => True
  | some e, some i => EV F e (.int i)
  | _, _ => False
theorem wp_part {x : Option Expr} {i : Option Int} {s : Shared} (hv : OV F x i) (o : F.Ok s.heap) {Q : Value → Shared → Prop} {E : Value → Shared → Prop}
    (h : ∀ t h' tk, Ext s.heap h' → Q (partValue (i.map (·, t))) { s with heap := h', toks := tk }) : wpAny F.M F.A (evalPart x F.env) Q E s := by
  cases x with
  | none =>
    cases i with
    | none => exact wpAny_pure (h 0 _ _ (Ext.refl _))
    | some _ => exact hv.elim
  | some e =>
    cases i with
    | none => exact hv.elim
    | some i => exact hv s o _ _ fun v h₁ t₁ k₁ r₁ => by cases r₁ with | int _ t => exact h t _ _ k₁
theorem isPart {i : Option Int} {t : Tok} : IsPart (partValue (i.map (·, t))) i := by cases i with | none => exact .none | some i => exact .int i t
theorem ev_slc {v : Expr} {lo up st : Option Expr} {a b c : Option Int} {sp p} {x d} (h1 : EV F v x) (hl : OV F lo a) (hu : OV F up b) (ht : OV F st c) (e : slop x a b c = some d) :
    EV F (.Subscript v (.Slice lo up st sp) p) d := fun s o Q E h => by
  refine wp_subscript (h1 s o _ _ fun va h₁ t₁ k₁ r₁ => ?_)
  have o₁ := o.keep k₁
  refine wpAny_Slice (wp_part hl o₁ fun u₁ h₂ t₂ k₂ => wp_part hu (o₁.keep k₂) fun u₂ h₃ t₃ k₃ => wp_part ht ((o₁.keep k₂).keep k₃) fun u₃ h₄ t₄ k₄ => ?_)
  have o₄ := ((o₁.keep k₂).keep k₃).keep k₄
  have k₁₄ := (k₂.trans k₃).trans k₄
  have r₄ := r₁.ext k₁₄
  have hlim := lim_is
  have hsl := sizeLine_lim
  unfold slop at e
  split at e
  · split at e
    · rename_i l hc
      cases e
      obtain ⟨hc, h0⟩ := Bool.and_eq_true_iff.mp hc
      have hc := of_decide_eq_true hc
      have h0 := of_decide_eq_true h0
      cases r₄ with | lst hx pl rl =>
      rename_i ad vs
      have hz := rl.length
      refine ⟨"list", _, slot_list_getitem.lookup, ((pl.ext fun o e => Heap.get?_push_of_some _ e).isList).typeIs, ?_⟩
      refine wpAny_getItem_list_slice (pl.ext fun o e => Heap.get?_push_of_some _ e).isList (Heap.IsSliceOf.new ..) isPart isPart isPart h0 ?_ (by simp only [List.size_toArray]; omega)
      refine h _ _ _ ((k₁.trans k₁₄).trans ((Ext.push _ _).trans (Ext.push _ _))) (.lst ?_ ⟨0, Heap.get?_push_size _ rfl⟩ ?_)
      · exact (o₄.keep (Ext.push _ _)).xok.fresh (Nat.le_refl _)
      · unfold slicePick
        have z := (pickD_rd rl (sliceRange (sliceBounds a b c l.length).1 (sliceBounds a b c l.length).2.1 (sliceBounds a b c l.length).2.2)).ext ((Ext.push h₄ { cls := .type "slice", data := .fields #[partValue (a.map (·, u₁)), partValue (b.map (·, u₂)), partValue (c.map (·, u₃))] }).trans (Ext.push _ { cls := .type "list", data := .seq (slicePick ⟨vs⟩ a b c) }))
        simpa [hz, slicePick] using z
    · cases e
  · split at e
    · rename_i l hc
      cases e
      obtain ⟨hc, h2⟩ := Bool.and_eq_true_iff.mp hc
      obtain ⟨hc, h0⟩ := Bool.and_eq_true_iff.mp hc
      have hc := of_decide_eq_true hc
      have h0 := of_decide_eq_true h0
      have h2 := of_decide_eq_true h2
      cases r₄ with | str _ t =>
      refine ⟨"str", _, PySem.F.slot_str_getitem.lookup, typeIs_str _ _ _, ?_⟩
      refine wpAny_getItem_str_slice (l := a.map (·, u₁)) (u := b.map (·, u₂)) (st := c.map (·, u₃)) ⟨_, Heap.get?_push_size _ rfl, rfl, rfl⟩ ?_ ?_
      · cases c with
        | none => rfl
        | some c =>
          have : c ≠ 0 := fun e => h0 (by rw [e])
          simpa using this
      · have e1 : ∀ (i : Option Int) (u : Tok), (i.map (·, u)).map (·.1) = i := fun i u => by cases i <;> rfl
        have hz : Str.length ⟨⟨l.map (den F.sg)⟩⟩ = l.length := by simp [Str.length]
        unfold sliceMade slicePicked
        rw [e1, e1, e1, hz]
        by_cases hq : (c.getD 1 == 1 && (Builtin.Str.strSliceIndices a b (c.getD 1) l.length).length == l.length) = true
        · rw [if_pos hq]
          rw [if_pos hq] at h
          exact h _ _ _ ((k₁.trans k₁₄).trans (Ext.push _ _)) (.str ..)
        · rw [if_neg hq]
          rw [if_neg hq] at h
          have e2 : ((Builtin.Str.strSliceIndices a b (c.getD 1) l.length).filterMap ((⟨⟨l.map (den F.sg)⟩⟩ : Str).cps[·]?)) = (pickN l (Builtin.Str.strSliceIndices a b (c.getD 1) l.length)).map (den F.sg) := by
            rw [← pickN_map]; simp
          rw [e2]
          refine ⟨?_, h _ _ _ ((k₁.trans k₁₄).trans (Ext.push _ _)) (.str ..)⟩
          have := pickN_len l (Builtin.Str.strSliceIndices a b (c.getD 1) l.length)
          show (List.map (den F.sg) (pickN l (Builtin.Str.strSliceIndices a b (c.getD 1) l.length))).length ≤ sizeLine
          rw [List.length_map]
          omega
    · cases e
  · cases e
end
end Mine

namespace Mine
variable {sg : Nat}
/-! targets, and what walks -/
noncomputable def bindL : List (Nat × Pos) → List D → Rho → Option Rho
  | [], [], ρ => some ρ
  | (x, _) :: xs, d :: ds, ρ => bindL xs ds ((x, d) :: ρ)
  | _, _, _ => none
noncomputable def bindT (t : Tg) (d : D) (ρ : Rho) : Option Rho :=
  match t with
  | .one x _ => some ((x, d) :: ρ)
  | .many xs _ _ => match d with | .tup ds => bindL xs ds ρ | _ => none
noncomputable def allSet (nk : List (Nat × NameKind)) : List (Nat × Pos) → Bool
  | [] => true
  | (x, _) :: r => setOk nk x && allSet nk r
noncomputable def tgSet (nk : List (Nat × NameKind)) : Tg → Bool
  | .one x _ => setOk nk x
  | .many xs _ _ => allSet nk xs
theorem assignEach_names (env : Env) : ∀ xs : List (Nat × Pos), assignEach (xs.map fun x => Expr.Name (nm x.1) x.2) env = xs.map fun x => (false, assign (.Name (nm x.1) x.2) env)
  | [] => rfl
  | x :: xs => by
    rw [List.map_cons, List.map_cons, ← assignEach_names env xs]; rfl
section
variable {prog : Program} {w : World} {A : Around} {B : Heap} {nk : List (Nat × NameKind)} {env : Env} {X : Av} {E : Value → Shared → Prop}
noncomputable def tgNames : Tg → List Nat
  | .one x _ => [x]
  | .many xs _ _ => xs.map (·.1)
theorem Own.mono {env : Env} {xs ys : List Nat} {b : Addr} (q : Own env xs b) (h : ∀ x ∈ xs, x ∈ ys) : Own env ys b := q.imp id fun ⟨x, a, r⟩ => ⟨x, h x a, r⟩
theorem own_X {B : Heap} {nk : List (Nat × NameKind)} {env : Env} {X : Av} {ρ : Rho} {h : Heap} (o : EOk sg B nk env X ρ h) {b : Addr} {xs : List Nat} (q : Own env xs b) : X b := by
  rcases q with e | ⟨y, _, _, e⟩
  · rw [e]; exact o.loc.1
  · exact (o.cel _ _ e).1
noncomputable def storeEach (env : Env) (xs : List (Nat × Pos)) : List (Value → Sem Unit) := xs.map fun x => assign (.Name (nm x.1) x.2) env
theorem wp_assignL (xs : List (Nat × Pos)) : ∀ (ds : List D) (vs : List Value) (ρ ρ' : Rho) (s : Shared) (Q : Unit → Shared → Prop), EOk sg B nk env X ρ s.heap → RdL sg s.heap X vs ds → allSet nk xs = true → bindL xs ds ρ = some ρ' →
    (∀ h' tk, EOk sg B nk env X ρ' h' → (∀ b ob, ¬ Own env (xs.map (·.1)) b → s.heap.get? b = some ob → h'.get? b = some ob) → (∀ y v', y ∉ xs.map (·.1) → Ld env (nm y) v' s.heap → Ld env (nm y) v' h') → Q () { s with heap := h', toks := tk }) →
    wpAny (model prog w) A (assignInOrder (storeEach env xs) vs) Q E s := by
  induction xs with
  | nil =>
    intro ds vs ρ ρ' s Q o r ht e h
    cases ds with
    | nil => cases e; cases r; exact wpAny_pure (h s.heap s.toks o (fun _ _ _ e => e) fun _ _ _ l => l)
    | cons _ _ => cases e
  | cons x xs ih =>
    intro ds vs ρ ρ' s Q o r ht e h
    cases ds with
    | nil => cases e
    | cons d ds =>
      cases r with
      | cons r rl =>
        obtain ⟨h1, h2⟩ := Bool.and_eq_true_iff.mp ht
        refine wpAny_bind (wpAny_holding (wpAny_assign_Name (wp_store o r h1 fun h₁ tk o₁ k₁ l₁ _ => ?_)))
        refine ih ds _ _ _ _ Q o₁ (rl.keep fun b ob hb e => k₁ b ob (fun q => hb (own_X o q)) e) h2 e fun h₂ t₂ o₂ k₂ l₂ => ?_
        exact h h₂ t₂ o₂ (fun b ob q e => k₂ b ob (fun q' => q (q'.mono fun y hy => List.mem_cons_of_mem _ hy)) (k₁ b ob (fun q' => q (q'.mono fun y hy => by rw [List.mem_singleton.mp hy]; exact List.mem_cons_self)) e)) fun y v' hy l => l₂ y v' (fun m => hy (List.mem_cons_of_mem _ m)) (l₁ y v' (fun e => hy (by rw [e]; exact List.mem_cons_self)) l)
theorem RdL.arr {h : Heap} {vs : List Value} {ds : List D} (r : RdL sg h X vs ds) : (⟨vs⟩ : Array Value).size = ds.length := r.length
theorem bindL_len (xs : List (Nat × Pos)) : ∀ {ds : List D} {ρ ρ' : Rho}, bindL xs ds ρ = some ρ' → xs.length = ds.length := by
  induction xs with
  | nil => intro ds ρ ρ' e; cases ds with | nil => rfl | cons _ _ => cases e
  | cons x xs ih => intro ds ρ ρ' e; cases ds with | nil => cases e | cons d ds => exact congrArg (· + 1) (ih e)
theorem wp_assign {t : Tg} {v : Value} {d : D} {ρ ρ' : Rho} {s : Shared} {Q : Unit → Shared → Prop} (o : EOk sg B nk env X ρ s.heap) (r : Rd sg s.heap X v d) (ht : tgSet nk t = true) (e : bindT t d ρ = some ρ') (hh : A.handled = none)
    (h : ∀ h' tk, EOk sg B nk env X ρ' h' → (∀ b ob, ¬ Own env (tgNames t) b → s.heap.get? b = some ob → h'.get? b = some ob) → (∀ y v', y ∉ tgNames t → Ld env (nm y) v' s.heap → Ld env (nm y) v' h') → Q () { s with heap := h', toks := tk }) : wpAny (model prog w) A (assign t.toE env v) Q E s := by
  cases t with
  | one x p => cases e; dsimp only [Tg.toE]; exact wpAny_assign_Name (wp_store o r ht fun h' tk a b c _ => h h' tk a b fun y v' hy => c y v' fun e => hy (List.mem_singleton.mpr e))
  | many xs k p =>
    cases d with
    | tup ds =>
      cases r with
      | tup hx hp hl =>
      have hlen := bindL_len xs e
      dsimp only [Tg.toE]
      have z := @wpAny_assign_Tuple prog w A E s env (xs.map fun x => Expr.Name (nm x.1) x.2) k p _ _ Q hh hp.isTuple
      refine z ?_ ?_ fun h' he => ?_
      · rw [assignEach_names, List.length_map, hl.arr, hlen]
      · rw [assignEach_names, List.findIdx?_map]
        exact List.findIdx?_eq_none_iff.mpr fun x _ => rfl
      · have k : Ext s.heap h' := fun b ob e => he b ob (Nat.ne_of_lt (Heap.lt_size e)) e
        have e2 : (assignEach (xs.map fun x => Expr.Name (nm x.1) x.2) env).map (·.2) = storeEach env xs := by rw [assignEach_names, List.map_map]; rfl
        rw [e2]
        exact wp_assignL xs _ _ ρ ρ' { s with heap := h' } Q (o.keep k) (hl.ext k) ht e fun h₂ t₂ o₂ k₂ l₂ => h h₂ t₂ o₂ (fun b ob q e => k₂ b ob q (k b ob e)) fun y v' hy l => l₂ y v' hy (l.keep k)
    | _ => cases e
end

/-- which targets a walk is for: 0 any, 1 many names, 2 one name -/
noncomputable def okT (md : Nat) (t : Tg) (d : D) : Prop := match t with
  | .one .. => md ≠ 1
  | .many .. => md ≠ 2 ∧ ∃ l, d = .tup l
structure Wk (sg : Nat) (prog : Program) (w : World) (A : Around) (X : Av) (I : Addr) (ds : List D) (St : Nat → Heap → Prop) (Wr : Av) (md : Nat) : Prop where
  wX : ∀ b, Wr b → X b
  live : ∀ i h, St i h → ∀ b, Wr b → ∃ o, h.get? b = some o
  frame : ∀ i h h', St i h → (∀ b o, Wr b ∨ ¬ X b → h.get? b = some o → h'.get? b = some o) → St i h'
  item : ∀ i d (s : Shared) (Q : Option Value → Shared → Prop) (E : Value → Shared → Prop), ds[i]? = some d → St i s.heap → XOk X s.heap →
    (∀ v h' tk, Rd sg h' X v d → (∀ b o, ¬ Wr b → s.heap.get? b = some o → h'.get? b = some o) → (∀ b, Wr b → ∃ o, h'.get? b = some o) →
      (∀ (t : Tg) (s' : Shared) (Q' : Unit → Shared → Prop) (E' : Value → Shared → Prop), s'.heap = h' → okT md t d → (∀ h'', St (i + 1) h'' → Rd sg h'' X v d → (∀ b o, ¬ Wr b → h'.get? b = some o → h''.get? b = some o) → Q' () { s' with heap := h'' }) →
        wpAny (model prog w) A (letOwnedTupleGo t.toE (.ref I) v) Q' E' s') →
      Q (some v) { s with heap := h', toks := tk }) → wpAny (model prog w) A (pyNext (.ref I)) Q E s
  done : ∀ (s : Shared) (Q : Option Value → Shared → Prop) (E : Value → Shared → Prop), St ds.length s.heap →
    (∀ h' tk, (∀ b o, ¬ Wr b → s.heap.get? b = some o → h'.get? b = some o) → Q none { s with heap := h', toks := tk }) → wpAny (model prog w) A (pyNext (.ref I)) Q E s
  self : ∀ i (s : Shared) (Q : Value → Shared → Prop) (E : Value → Shared → Prop), St i s.heap → Q (.ref I) s → wpAny (model prog w) A (pyIter (.ref I)) Q E s

section
variable {prog : Program} {w : World} {A : Around} {X : Av}
theorem go_one {x : Nat} {p : Pos} {I : Addr} {v : Value} {s : Shared} {Q : Unit → Shared → Prop} {E : Value → Shared → Prop} (h : Q () s) : wpAny (model prog w) A (letOwnedTupleGo (Tg.one x p).toE (.ref I) v) Q E s := wpAny_pure h
/-- a walk of the library's, for one name -/
theorem Wk.ofWalks {I : Addr} {fp wr : List Addr} {n : Nat} {P : Nat → Value → Prop} {St : Nat → Heap → Prop} {ds : List D} {R : Heap → Prop} (W : Walks prog w A I fp wr n P St) (hn : n = ds.length)
    (hwr : ∀ b ∈ wr, X b) (hfp : ∀ b ∈ fp, b ∈ wr ∨ ¬ X b) (hlive : ∀ i h, St i h → ∀ b ∈ wr, ∃ o, h.get? b = some o)
    (hR : ∀ h h', R h → (∀ b o, ¬ X b → h.get? b = some o → h'.get? b = some o) → R h') (hP : ∀ i v d h, P i v → ds[i]? = some d → R h → Rd sg h X v d)
    (hgo : ∀ i T l (s : Shared) (Q : Unit → Shared → Prop) (E : Value → Shared → Prop) xs k p, ds[i]? = some (.tup l) → St (i + 1) s.heap → Q () s → wpAny (model prog w) A (letOwnedTupleGo (Tg.many xs k p).toE (.ref I) (.ref T)) Q E s) :
    Wk sg prog w A X I ds (fun i h => St i h ∧ R h) (fun b => b ∈ wr) 0 where
  wX := hwr
  live := fun i h st => hlive i h st.1
  frame := fun i h h' st k => ⟨W.frame _ _ _ st.1 fun b hb o e => k b o (hfp b hb) e, hR _ _ st.2 fun b o hb e => k b o (.inr hb) e⟩
  item := fun i d s Q E hd st hx h => by
    have hlt : i < n := by rw [hn]; exact (List.getElem?_eq_some_iff.mp hd).1
    refine W.item i s Q E hlt st.1 fun v h' tk hp hs hk => ?_
    have hr : R h' := hR _ _ st.2 fun b o hb e => hk b o (fun q => hb (hwr b q)) e
    have rd := hP i v d h' hp hd hr
    refine h v h' tk rd hk (hlive _ _ hs) ?_
    rintro t s' Q' E' rfl hok h2
    cases t with
    | one x p => exact go_one (h2 _ ⟨hs, hr⟩ rd fun _ _ _ e => e)
    | many xs k p =>
      obtain ⟨_, l, rfl⟩ := hok
      cases rd with
      | tup a b c => exact hgo _ _ _ _ _ _ _ _ _ hd hs (h2 _ ⟨hs, hr⟩ (.tup a b c) fun _ _ _ e => e)
  done := fun s Q E st h => W.done s Q E (hn ▸ st.1) fun h' tk k => h h' tk k
  self := fun i s Q E st h => W.self i s Q E st.1 h
theorem Wk.ofWalksT {I : Addr} {fp wr : List Addr} {n : Nat} {Pt : Nat → Array Value → Prop} {St : Nat → Heap → Prop} {Mid : Nat → Addr → Heap → Prop} {ds : List D} {R : Heap → Prop} (W : WalksT prog w A I fp wr n Pt St Mid) (hn : n = ds.length)
    (hwr : ∀ b ∈ wr, X b) (hfp : ∀ b ∈ fp, b ∈ wr ∨ ¬ X b) (hlive : ∀ i h, St i h → ∀ b ∈ wr, ∃ o, h.get? b = some o) (hliveM : ∀ i T h, Mid i T h → ∀ b ∈ wr, ∃ o, h.get? b = some o)
    (hR : ∀ h h', R h → (∀ b o, ¬ X b → h.get? b = some o → h'.get? b = some o) → R h') (hP : ∀ i vs d h, Pt i vs → ds[i]? = some d → R h → ∃ l, d = .tup l ∧ RdL sg h X vs.toList l) :
    Wk sg prog w A X I ds (fun i h => St i h ∧ R h) (fun b => b ∈ wr) 1 where
  wX := hwr
  live := fun i h st => hlive i h st.1
  frame := fun i h h' st k => ⟨W.frame _ _ _ st.1 fun b hb o e => k b o (hfp b hb) e, hR _ _ st.2 fun b o hb e => k b o (.inr hb) e⟩
  item := fun i d s Q E hd st hx h => by
    have hlt : i < n := by rw [hn]; exact (List.getElem?_eq_some_iff.mp hd).1
    refine W.item i s Q E hlt st.1 fun T vals h' tk hp hT ht hm hk => ?_
    have hr : R h' := hR _ _ st.2 fun b o hb e => hk b o (fun q => hb (hwr b q)) e
    obtain ⟨l, rfl, rl⟩ := hP i vals d h' hp hd hr
    have hTX : ¬ X T := hx.fresh hT
    refine h _ h' tk (.tup hTX ht rl) hk (hliveM _ _ _ hm) ?_
    rintro t s' Q' E' rfl hok h2
    cases t with
    | one x p => exact (hok rfl).elim
    | many xs k p =>
      refine W.go _ _ _ i T s' Q' E' hm fun h'' hs'' hk'' => ?_
      have kX : ∀ b o, ¬ X b → s'.heap.get? b = some o → h''.get? b = some o := fun b o hb e => hk'' b o (fun q => hb (hwr b q)) e
      exact h2 h'' ⟨hs'', hR _ _ hr kX⟩ (Rd.keep (.tup hTX ht rl) kX) hk''
  done := fun s Q E st h => W.done s Q E (hn ▸ st.1) fun h' tk k => h h' tk k
  self := fun i s Q E st h => W.self i s Q E st.1 h
end
end Mine

namespace Mine
variable {sg : Nat}
/-! enumerate of a tuple -/
section
variable {prog : Program} {w : World} {A : Around} {E : Value → Shared → Prop} {s : Shared}
theorem nextOf_tuple_item {it l : Addr} {i : Nat} {items} {x : Value} {Q : Value → Shared → Prop} (hit : s.heap.IsTupleIter it l i)
    (hl : s.heap.IsTuple l items) (hx : items[i]? = some x) (hQ : ∀ h', h'.IsTupleIter it l (i + 1) → Heap.SameBut it s.heap h' → Q x { s with heap := h' }) :
    wpAny (model prog w) A (Builtin.SmallTypes.nextOf (.ref it)) Q E s := by
  obtain ⟨o, ho, hc, hd⟩ := id hit
  obtain ⟨ol, hol, _, nl, hdl⟩ := hl
  unfold Builtin.SmallTypes.nextOf
  refine wpAny_bind (wpAny_callSpecial?_slot (name := Str.ofString "__next__") hit.typeIs F.slot_tuple_iterator_next
    (wpAny_call_entry F.slot_tuple_iterator_next hit.typeIs F.entry_tuple_iterator_next ?_ (F.args_tuple_iterator_next_1 _)))
  show wpAny _ _ (field (.ref it) 0 >>= _) _ _ s
  refine wpAny_bind (wpAny_field ho hd (x := .ref l) rfl ?_)
  show wpAny _ _ (if (Value.ref l == Value.none) = true then _ else _) _ _ s
  rw [if_neg (show ¬ ((Value.ref l == Value.none) = true) from Bool.false_ne_true)]
  show wpAny _ _ (field (.ref it) 1 >>= _) _ _ s
  refine wpAny_bind (wpAny_field ho hd (x := .int i 0) rfl ?_)
  show wpAny _ _ (seqItems? (.ref l) >>= _) _ _ s
  refine wpAny_bind (wpAny_seqItems hol hdl ?_)
  simp only [Int.toNat_natCast, hx]
  refine wpAny_bind (wpAny_setField ho hd (by simp) (wpAny_pure ⟨x, rfl, wpAny_pure (hQ _ ?_ (Heap.SameBut.update ..))⟩))
  exact ⟨_, Heap.get?_update_self _ ho (Obj.isFreed_of_fields (Obj.data_mapFields hd _)), (Obj.cls_mapFields ..).trans hc, by
    rw [Obj.data_mapFields hd]; simp [rawInt]⟩
theorem nextOf_tuple_end {it l : Addr} {i : Nat} {items} {Q : Value → Shared → Prop} (hh : A.handled = none)
    (hit : s.heap.IsTupleIter it l i) (hl : s.heap.IsTuple l items) (hx : items[i]? = none)
    (hE : ∀ h' e, Heap.ExtBut it s.heap h' → (∃ o, h'.get? e = some o ∧ o.cls = .type "StopIteration") → E (.ref e) { s with heap := h' }) :
    wpAny (model prog w) A (Builtin.SmallTypes.nextOf (.ref it)) Q E s := by
  obtain ⟨o, ho, hc, hd⟩ := id hit
  obtain ⟨ol, hol, _, nl, hdl⟩ := hl
  unfold Builtin.SmallTypes.nextOf
  refine wpAny_bind (wpAny_callSpecial?_slot (name := Str.ofString "__next__") hit.typeIs F.slot_tuple_iterator_next
    (wpAny_call_entry F.slot_tuple_iterator_next hit.typeIs F.entry_tuple_iterator_next ?_ (F.args_tuple_iterator_next_1 _)))
  show wpAny _ _ (field (.ref it) 0 >>= _) _ _ s
  refine wpAny_bind (wpAny_field ho hd (x := .ref l) rfl ?_)
  show wpAny _ _ (if (Value.ref l == Value.none) = true then _ else _) _ _ s
  rw [if_neg (show ¬ ((Value.ref l == Value.none) = true) from Bool.false_ne_true)]
  show wpAny _ _ (field (.ref it) 1 >>= _) _ _ s
  refine wpAny_bind (wpAny_field ho hd (x := .int i 0) rfl ?_)
  show wpAny _ _ (seqItems? (.ref l) >>= _) _ _ s
  refine wpAny_bind (wpAny_seqItems hol hdl ?_)
  simp only [Int.toNat_natCast, hx]
  refine wpAny_bind (wpAny_rule (wpAny_bind (wpAny_setField ho hd (by simp) ?_)))
  show wpAny _ _ (newExc (.type "StopIteration") [] >>= _) _ _ _
  refine wpAny_bind ?_
  simp only [newExc, newTuple]
  refine wpAny_bind (wpAny_newObj_type ?_ (by size_fits))
  refine wpAny_bind (m := firstArgMember _ _) (wpAny_of_eq (a := Value.none) (by first | rfl | (simp only [firstArgMember]; rfl)) ?_)
  refine wpAny_newObj_type ?_ (by size_fits)
  simp only [raiseNew]
  refine wpAny_bind (wpAny_handled ?_)
  first | rw [show A.in1.handled = none from hh] | rw [hh]
  refine wpAny_bind (wpAny_pure (wpAny_throw ?_))
  exact hE _ _ (((Heap.SameBut.update ..).extBut.push _).push _) ⟨_, Heap.get?_push_size _ rfl, rfl⟩
theorem drawsTuple (hh : A.handled = none) (it l : Addr) (hne : l ≠ it) (items : Array Value) :
    Draws prog w A it [it, l] items.size (fun i v => items[i]? = some v) (fun i h => h.IsTupleIter it l i ∧ h.IsTuple l items) where
  live := fun _ _ st => let ⟨o, ho, _⟩ := st.1; ⟨o, ho⟩
  frame := fun _ _ _ st hk => ⟨let ⟨o, ho, r⟩ := st.1; ⟨o, hk it (by simp) o ho, r⟩, let ⟨o, ho, r⟩ := st.2; ⟨o, hk l (by simp) o ho, r⟩⟩
  item := fun i s Q E hi st hQ => by
    refine nextOf_tuple_item st.1 st.2 (x := items[i]) (by simp [hi]) fun h' hit' hs' => ?_
    exact hQ _ h' s.toks (by simp [hi]) ⟨hit', st.2.extBut hs'.extBut hne⟩ hs'
  done := fun s Q E st hE => nextOf_tuple_end hh st.1 st.2 (by simp) hE
end
theorem meets_enumerate_newT (l : Addr) (items : Array Value) (o : Obj) (n : Nat) (hc : o.cls = .type "tuple") (hd : o.data = .seq items n) :
    Meets (Builtin.«enumerate.__new__» ⟨[.type "enumerate", .ref l], []⟩) (fun _ R s => s.heap.get? l = some o ∧
      R (.ok (.ret (.ref (s.heap.push { cls := .type "tuple_iterator", data := .fields #[.ref l, .int 0 0] }).objs.size)))
        { s with heap := (s.heap.push { cls := .type "tuple_iterator", data := .fields #[.ref l, .int 0 0] }).push { cls := .type "enumerate", data := .fields #[.none, .bool false, .ref s.heap.objs.size, rawInt 0, .none, .none] } }) :=
  .of_wp fun prog w A R s h => by
    obtain ⟨hp, g, d, tk, os⟩ := s; obtain ⟨hl, h⟩ := h
    have hsub := sub_enumerate
    have hL : Heap.IsTuple (Shared.heap ⟨hp, g, d, tk, os⟩) l items := ⟨_, hl, hc, n, hd⟩
    wp_walk using AutoSeq1.wpAny_loadPart' hl
    refine wpAny_stack_any fun st => wpAny_pure ?_
    split
    · rename_i c _ _ _ _ _
      cases (c == Value.type "enumerate")
      · wp_walk using AutoSeq1.wpAny_loadPart' hl, wpAny_pyIter_tuple hL
        exact ⟨_, rfl, h⟩
      · wp_walk using AutoSeq1.wpAny_loadPart' hl, wpAny_pyIter_tuple hL
        exact ⟨_, rfl, h⟩
    · wp_walk using AutoSeq1.wpAny_loadPart' hl, wpAny_pyIter_tuple hL
      exact ⟨_, rfl, h⟩
theorem call_enumerate_tuple {prog : Program} {w : World} {A : Around} {E : Value → Shared → Prop} {s : Shared} {l : Addr} {items : Array Value} {Q : Value → Shared → Prop} (hL : s.heap.IsTuple l items)
    (h : ∀ h', IsEnum h' (s.heap.objs.size + 1) s.heap.objs.size 0 .none → h'.IsTupleIter s.heap.objs.size l 0 → h'.objs.size = s.heap.objs.size + 2 →
      (∀ b o, s.heap.get? b = some o → h'.get? b = some o) → Q (.ref (s.heap.objs.size + 1)) { s with heap := h' }) :
    wpAny (model prog w) A (call (.type "enumerate") [.ref l]) Q E s := by
  obtain ⟨o, hl, hc, n, hd⟩ := hL
  refine callType_new F.called_enumerate (by decide) (F.typeCall_enumerate_1 _) (F.newCall_enumerate_1 _) (fun obj => F.args_object_init_2 obj _) F.entry_enumerate_new
    (meets_enumerate_newT l items o n hc hd) ⟨hl, ?_⟩
  have hz : (s.heap.push { cls := .type "tuple_iterator", data := .fields #[.ref l, .int 0 0] }).objs.size = s.heap.objs.size + 1 := Heap.size_push ..
  show _ ∧ _
  rw [hz]
  have he : IsEnum ((s.heap.push { cls := .type "tuple_iterator", data := .fields #[.ref l, .int 0 0] }).push
      { cls := .type "enumerate", data := .fields #[.none, .bool false, .ref s.heap.objs.size, rawInt 0, .none, .none] }) (s.heap.objs.size + 1) s.heap.objs.size 0 .none := by
    have := Heap.get?_push_size (s.heap.push { cls := .type "tuple_iterator", data := .fields #[.ref l, .int 0 0] })
      (o := { cls := .type "enumerate", data := .fields #[.none, .bool false, .ref s.heap.objs.size, rawInt 0, .none, .none] }) rfl
    rw [hz] at this; exact this
  refine ⟨⟨_, he, rfl⟩, h _ he ⟨_, Heap.get?_push_of_some _ (Heap.get?_push_size _ rfl), rfl, rfl⟩ (by rw [Heap.size_push, hz]) fun b o x => Heap.get?_push_of_some _ (Heap.get?_push_of_some _ x)⟩
end Mine

namespace Mine
/-! names of the top, and what a loop walks over -/
/-- what a name of the top stands for -/
noncomputable def GlobV (B : Heap) (x : Str) (v : Value) : Prop :=
  (∃ mg, B.Ns 3 mg ∧ mg x = some v) ∨ (∃ mg mb, B.Ns 3 mg ∧ mg x = none ∧ B.Ns 0 mb ∧ mb x = some v)
section
variable {F : Fr}
theorem wp_glob {x : Nat} {v : Value} {p : Pos} {s : Shared} {Q : Value → Shared → Prop} {E : Value → Shared → Prop} (o : F.Ok s.heap) (hk : lookN F.nk x = some .globalImplicit) (hv : GlobV F.B (nm x) v) (h : Q v s) :
    wpAny F.M F.A (eval (.Name (nm x) p) F.env) Q E s := by
  refine Calls.Name_function_global o.fn (o.kin _ _ hk : KindOk F.env (nm x) .globalImplicit) ?_ (nm_debug x)
  rcases hv with ⟨mg, h1, h2⟩ | ⟨mg, mb, h1, h2, h3, h4⟩
  · exact Calls.loadGlobal_global (mg := mg) (by rw [o.ge]; exact h1.keeps o.ext) h2 h
  · exact Calls.loadGlobal_builtin (mg := mg) (mb := mb) (by rw [o.ge]; exact h1.keeps o.ext) h2 (by rw [o.be]; exact h3.keeps o.ext) h4 h
theorem plain_args {es : PEs} {env : Env} {p : Pos} : (backTo p (starEach es.toL env)).any (·.1) = false := by
  cases es with
  | nil => rfl
  | cons e r =>
    show (backTo p (starEach (e.toE :: r.toL) env)).any (·.1) = false
    rw [star_toE]
    show (false || (backTo p (starEach r.toL env)).any (·.1)) = false
    rw [Bool.false_or]
    exact plain_args
inductive LP (F : Fr) : PEs → List D → Prop
  | nil : LP F .nil []
  | cons {e r d ds} : EV F e.toE d → LP F r ds → LP F (.cons e r) (d :: ds)
theorem LP.lv {es : PEs} {ds : List D} (l : LP F es ds) : LV F es.toL ds := by
  induction l with
  | nil => exact lv_nil
  | cons h _ ih => exact lv_cons star_toE h ih
theorem args_given {es : PEs} {ds : List D} {p : Pos} {s : Shared} {f : Value} (l : LP F es ds) (o : F.Ok s.heap) {Q : Args → Shared → Prop} {E : Value → Shared → Prop}
    (h : ∀ vs h' tk, Ext s.heap h' → RdL F.sg h' F.X vs ds → Q ⟨vs, []⟩ { s with heap := h', toks := tk }) : wpAny F.M F.A (evalArgs f true (backTo p (starEach es.toL F.env)) []) Q E s := by
  cases l with
  | nil => exact PySem.evalArgs_none (h [] s.heap s.toks (Ext.refl _) .nil)
  | @cons e r d ds h1 hr =>
    have e1 : backTo p (starEach (PEs.cons e r).toL F.env) = (false, eval e.toE F.env) :: backTo p (starEach r.toL F.env) := by
      show backTo p (starEach (e.toE :: r.toL) F.env) = _
      rw [star_toE]; rfl
    have z := (LP.cons h1 hr).lv s o p (fun vs s' => Q ⟨vs, []⟩ s') E h
    rw [e1] at z ⊢
    exact Calls.evalArgs_plain z

/-- the value walks over ds -/
noncomputable def WalksD (F : Fr) (s : Shared) (t : Sem Value) (ds : List D) (md : Nat) : Prop :=
  ∀ (Q : Value → Shared → Prop) (E : Value → Shared → Prop), (∀ (I : Addr) (h' : Heap) (tk : Nat) (Wr : Av), Ext s.heap h' → (∀ b, Wr b → s.heap.get? b = none) → (∀ b, Wr b → ∃ o, h'.get? b = some o) →
      (∀ X' : Av, (∀ b, F.X b → X' b) → (∀ b, Wr b → X' b) → (∀ b, X' b → F.X b ∨ Wr b ∨ h'.get? b = none) → ∃ St, Wk F.sg F.prog F.w F.A X' I ds St Wr md ∧ St 0 h') → Q (.ref I) { s with heap := h', toks := tk }) →
    wpAny F.M F.A t (fun x s₁ => wpAny F.M F.A (pyIter x) Q E s₁) E s
noncomputable def IV (F : Fr) (iter : Expr) (ds : List D) (md : Nat) : Prop := ∀ s, F.Ok s.heap → WalksD F s (eval iter F.env) ds md
theorem move_to {sg : Nat} {h h' : Heap} {X X' Wr : Av} (k : Ext h h') (hw : ∀ b, Wr b → h.get? b = none) (hx : ∀ b, X' b → X b ∨ Wr b ∨ h'.get? b = none) :
    ∀ b o, ¬ X b → h.get? b = some o → h'.get? b = some o ∧ ¬ X' b := fun b o hb e => ⟨k b o e, fun q => (hx b q).elim hb fun q => q.elim (fun q => by rw [hw b q] at e; cases e) fun q => by rw [k b o e] at q; cases q⟩
noncomputable def upList (a : Int) : Nat → List D
  | 0 => []
  | n + 1 => .int a :: upList (a + 1) n
theorem upList_len : ∀ (n : Nat) (a : Int), (upList a n).length = n
  | 0, _ => rfl
  | n + 1, a => by rw [upList, List.length_cons, upList_len]
theorem upList_at : ∀ (n : Nat) (a : Int) (i : Nat) (d : D), (upList a n)[i]? = some d → d = .int (a + i)
  | n + 1, a, 0, d, e => by cases e; simp
  | n + 1, a, i + 1, d, e => by
    rw [upList, List.getElem?_cons_succ] at e
    rw [upList_at n (a + 1) i d e]
    congr 1; push_cast; omega
noncomputable def chars : List Nat → List D
  | [] => []
  | c :: l => .str [c] :: chars l
theorem chars_len : ∀ l, (chars l).length = l.length
  | [] => rfl
  | _ :: l => by rw [chars, List.length_cons, chars_len, List.length_cons]
theorem chars_at : ∀ (l : List Nat) (i : Nat) (d : D), (chars l)[i]? = some d → ∃ c, l[i]? = some c ∧ d = .str [c]
  | c :: l, 0, d, e => by cases e; exact ⟨c, rfl, rfl⟩
  | c :: l, i + 1, d, e => by
    rw [chars, List.getElem?_cons_succ] at e
    obtain ⟨c', h1, h2⟩ := chars_at l i d e
    exact ⟨c', by rw [List.getElem?_cons_succ]; exact h1, h2⟩
noncomputable def itemsOf : D → Option (List D)
  | .lst l => some l
  | .rng a b => if small a && small b then some (upList a (b - a).toNat) else none
  | .str l => some (chars l)
  | _ => none
theorem walk_val {v : Value} {d : D} {ds : List D} {s : Shared} (r₁ : Rd F.sg s.heap F.X v d) (hi : itemsOf d = some ds) (hh : F.A.handled = none) {Q : Value → Shared → Prop} {E : Value → Shared → Prop}
    (h : ∀ (I : Addr) (h' : Heap) (tk : Nat) (Wr : Av), Ext s.heap h' → (∀ b, Wr b → s.heap.get? b = none) → (∀ b, Wr b → ∃ o, h'.get? b = some o) →
      (∀ X' : Av, (∀ b, F.X b → X' b) → (∀ b, Wr b → X' b) → (∀ b, X' b → F.X b ∨ Wr b ∨ h'.get? b = none) → ∃ St, Wk F.sg F.prog F.w F.A X' I ds St Wr 0 ∧ St 0 h') → Q (.ref I) { s with heap := h', toks := tk }) :
    wpAny F.M F.A (pyIter v) Q E s := by
  obtain ⟨h₁, g₁, dr₁, t₁, os₁⟩ := s
  have k₁ : Ext h₁ h₁ := Ext.refl h₁
  unfold itemsOf at hi
  split at hi
  · cases hi
    cases r₁ with | lst hx pl rl =>
    rename_i ax vs
    refine wpAny_pyIter_list pl.isList ?_
    have hlt : ax < h₁.objs.size := let ⟨_, e⟩ := pl; Heap.lt_size e
    have hI : h₁.get? h₁.objs.size = none := by
      cases e : h₁.get? h₁.objs.size with
      | none => rfl
      | some o' => exact absurd (Heap.lt_size e) (Nat.lt_irrefl _)
    have hI0 : h₁.get? h₁.objs.size = none := by
      cases e : h₁.get? h₁.objs.size with
      | none => rfl
      | some o' => rw [k₁ _ _ e] at hI; cases hI
    have hIs : (h₁.push { cls := .type "list_iterator", data := .fields #[.ref ax, .int 0 0] }).get? h₁.objs.size = some _ := Heap.get?_push_size _ rfl
    refine h _ _ _ (fun b => b ∈ [h₁.objs.size]) (k₁.trans (Ext.push _ _)) (fun b q => by rw [List.mem_singleton.mp q]; exact hI0) (fun b q => by rw [List.mem_singleton.mp q]; exact ⟨_, hIs⟩) fun X' x1 x2 x3 => ?_
    have mv := move_to (sg := F.sg) (X := F.X) (X' := X') (Wr := fun b => b ∈ [h₁.objs.size]) (Ext.push h₁ { cls := .type "list_iterator", data := .fields #[.ref ax, .int 0 0] }) (fun b q => by rw [List.mem_singleton.mp q]; exact hI) x3
    refine ⟨_, Wk.ofWalks (R := fun h => RdL F.sg h X' vs ds) (Walks.list hh h₁.objs.size ax (Nat.ne_of_lt hlt) ⟨vs⟩) rl.length x2 ?_ ?_ (fun _ _ r k => r.keep k) ?_ ?_, ⟨⟨_, hIs, rfl, rfl⟩, ⟨_, Heap.get?_push_of_some _ pl.choose_spec, rfl, _, rfl⟩⟩, rl.move mv⟩
    · intro b q
      rcases List.mem_cons.mp q with e | q
      · exact .inl (by rw [e]; exact List.mem_singleton.mpr rfl)
      · rw [List.mem_singleton.mp q]; exact .inr (mv _ _ hx pl.choose_spec).2
    · intro i h st b q
      rw [List.mem_singleton.mp q]
      obtain ⟨⟨ob, e, _⟩, _⟩ := st
      exact ⟨ob, e⟩
    · intro i v d h hp hd r
      obtain ⟨v', hv', rv⟩ := r.get hd
      have : vs[i]? = some v := by simpa using hp
      rw [this] at hv'; cases hv'; exact rv
    · intro i T l s Q E xs k p _ st hq
      exact wpAny_letOwnedTupleGo_listiter st.1 hq
  · split at hi
    · rename_i a b hc
      cases hi
      obtain ⟨ha, hb⟩ := Bool.and_eq_true_iff.mp hc
      have ha := small_lt ha
      have hb := small_lt hb
      cases r₁ with | rng hx pr =>
      obtain ⟨t, u, z, pr⟩ := pr
      refine wpAny_pyIter_range pr (small_one (by omega) (by omega) (by omega) (by omega)) ?_
      have hI : h₁.get? h₁.objs.size = none := by
        cases e : h₁.get? h₁.objs.size with
        | none => rfl
        | some o' => exact absurd (Heap.lt_size e) (Nat.lt_irrefl _)
      have hI0 : h₁.get? h₁.objs.size = none := by
        cases e : h₁.get? h₁.objs.size with
        | none => rfl
        | some o' => rw [k₁ _ _ e] at hI; cases hI
      have hsz : Builtin.Range.rangeSize a b 1 = ((b - a).toNat : Int) := by rw [rangeSize_one]; split <;> omega
      have hIs : (h₁.push { cls := .type "range_iterator", data := .fields #[rawInt a, rawInt (Builtin.Range.rangeSize a b 1), rawInt 1] }).get? h₁.objs.size = some _ := Heap.get?_push_size _ rfl
      refine h _ _ _ (fun b => b ∈ [h₁.objs.size]) (k₁.trans (Ext.push _ _)) (fun b q => by rw [List.mem_singleton.mp q]; exact hI0) (fun b q => by rw [List.mem_singleton.mp q]; exact ⟨_, hIs⟩) fun X' x1 x2 x3 => ?_
      refine ⟨_, Wk.ofWalks (R := fun _ => True) (Walks.range hh h₁.objs.size a 1 (b - a).toNat) (upList_len _ _).symm x2 (fun b q => .inl q) ?_ (fun _ _ r k => r) ?_ ?_, ?_, trivial⟩
      · intro i h st b q
        rw [List.mem_singleton.mp q]
        exact ⟨_, st⟩
      · rintro i v d h ⟨t, rfl⟩ hd _
        rw [upList_at _ _ _ _ hd, Int.mul_one]
        exact .int _ _
      · intro i T l s Q E xs k p hd
        have := upList_at _ _ _ _ hd
        cases this
      · have e1 : a + ((0 : Nat) : Int) * 1 = a := by simp
        have e2 : (((b - a).toNat : Nat) : Int) - ((0 : Nat) : Int) = Builtin.Range.rangeSize a b 1 := by rw [hsz]; simp
        show IsRangeIter _ _ _ _ _
        rw [e1, e2]
        exact hIs
    · cases hi
  · cases hi
    rename_i l
    cases r₁ with | str _ t =>
    have hI : h₁.get? h₁.objs.size = none := by
      cases e : h₁.get? h₁.objs.size with
      | none => rfl
      | some o' => exact absurd (Heap.lt_size e) (Nat.lt_irrefl _)
    have hI0 : h₁.get? h₁.objs.size = none := by
      cases e : h₁.get? h₁.objs.size with
      | none => rfl
      | some o' => rw [k₁ _ _ e] at hI; cases hI
    have hP : ∀ (X' : Av) (i : Nat) (v : Value) (d : D) (h : Heap), SignAt ⟨⟨l.map (den F.sg)⟩⟩ i v → (chars l)[i]? = some d → Rd F.sg h X' v d := by
      rintro X' i v d h ⟨c, u, hc, rfl⟩ hd
      obtain ⟨c', h1, rfl⟩ := chars_at _ _ _ hd
      have hc : (l.map (den F.sg))[i]? = some c := by simpa using hc
      rw [List.getElem?_map, h1] at hc
      cases hc
      exact .str [c'] u
    have hgo : ∀ (i : Nat) (l' : List D), (chars l)[i]? = some (.tup l') → False := fun i l' hd => by obtain ⟨c', _, h2⟩ := chars_at _ _ _ hd; cases h2
    have hlen : (⟨⟨l.map (den F.sg)⟩⟩ : Str).cps.size = (chars l).length := by rw [chars_len]; simp
    cases ha : (⟨⟨l.map (den F.sg)⟩⟩ : Str).cps.all (· < 128)
    · refine wpAny_pyIter_wide ha ?_
      have hIs : (h₁.push { cls := .type "str_iterator", data := .fields #[.str ⟨⟨l.map (den F.sg)⟩⟩ t, .int 0 0] }).get? h₁.objs.size = some _ := Heap.get?_push_size _ rfl
      refine h _ _ _ (fun b => b ∈ [h₁.objs.size]) (k₁.trans (Ext.push _ _)) (fun b q => by rw [List.mem_singleton.mp q]; exact hI0) (fun b q => by rw [List.mem_singleton.mp q]; exact ⟨_, hIs⟩) fun X' x1 x2 x3 => ?_
      refine ⟨_, Wk.ofWalks (R := fun _ => True) (Walks.strWide hh h₁.objs.size _ t) hlen x2 (fun b q => .inl q) ?_ (fun _ _ r k => r) (fun i v d h a b _ => hP X' i v d h a b) (fun i T l s Q E xs k p hd => (hgo _ _ hd).elim), ⟨_, hIs, rfl, rfl⟩, trivial⟩
      intro i h st b q
      rw [List.mem_singleton.mp q]
      obtain ⟨ob, e, _⟩ := st
      exact ⟨ob, e⟩
    · refine wpAny_pyIter_ascii ha ?_
      have hIs : (h₁.push { cls := .type "str_ascii_iterator", data := .fields #[.str ⟨⟨l.map (den F.sg)⟩⟩ t, .int 0 0] }).get? h₁.objs.size = some _ := Heap.get?_push_size _ rfl
      refine h _ _ _ (fun b => b ∈ [h₁.objs.size]) (k₁.trans (Ext.push _ _)) (fun b q => by rw [List.mem_singleton.mp q]; exact hI0) (fun b q => by rw [List.mem_singleton.mp q]; exact ⟨_, hIs⟩) fun X' x1 x2 x3 => ?_
      refine ⟨_, Wk.ofWalks (R := fun _ => True) (Walks.strAscii hh h₁.objs.size _ t) hlen x2 (fun b q => .inl q) ?_ (fun _ _ r k => r) (fun i v d h a b _ => hP X' i v d h a b) (fun i T l s Q E xs k p hd => (hgo _ _ hd).elim), ⟨_, hIs, rfl, rfl⟩, trivial⟩
      intro i h st b q
      rw [List.mem_singleton.mp q]
      obtain ⟨ob, e, _⟩ := st
      exact ⟨ob, e⟩
  · cases hi
theorem iv_gives {t : Sem Value} {d : D} {ds : List D} {s : Shared} (h1 : Gives F.sg F.M F.A F.X s t d) (hi : itemsOf d = some ds) (hh : F.A.handled = none) : WalksD F s t ds 0 := fun Q E h =>
  h1 _ _ fun v h₁ t₁ k₁ r₁ => walk_val r₁ hi hh fun I h' tk Wr a b c d => h I h' tk Wr (k₁.trans a) (fun x q => by
    cases e : s.heap.get? x with
    | none => rfl
    | some o => have z := b x q; rw [k₁ _ _ e] at z; cases z) c d
theorem iv_of {e : Expr} {d : D} {ds : List D} (h1 : EV F e d) (hi : itemsOf d = some ds) (hh : F.A.handled = none) : IV F e ds 0 := fun s o => iv_gives (h1 s o) hi hh
end
end Mine

namespace Mine
/-! enumerate and zip -/
noncomputable def enumD (i : Int) : List D → List D
  | [] => []
  | d :: l => .tup [.int i, d] :: enumD (i + 1) l
theorem enumD_len : ∀ (l : List D) (i : Int), (enumD i l).length = l.length
  | [], _ => rfl
  | _ :: l, i => by rw [enumD, List.length_cons, enumD_len, List.length_cons]
theorem enumD_at : ∀ (l : List D) (a : Int) (i : Nat) (d : D), (enumD a l)[i]? = some d → ∃ x, l[i]? = some x ∧ d = .tup [.int (a + i), x]
  | x :: l, a, 0, d, e => by cases e; exact ⟨x, rfl, by simp⟩
  | x :: l, a, i + 1, d, e => by
    rw [enumD, List.getElem?_cons_succ] at e
    obtain ⟨x', h1, h2⟩ := enumD_at l (a + 1) i d e
    refine ⟨x', by rw [List.getElem?_cons_succ]; exact h1, ?_⟩
    rw [h2]
    congr 3; push_cast; omega
noncomputable def zipD : List D → List D → List D
  | x :: l, y :: m => .tup [x, y] :: zipD l m
  | _, _ => []
theorem zipD_len : ∀ (l m : List D), (zipD l m).length = min l.length m.length
  | x :: l, y :: m => by rw [zipD, List.length_cons, zipD_len, List.length_cons, List.length_cons]; omega
  | [], m => by simp [zipD]
  | _ :: _, [] => by simp [zipD]
theorem zipD_at : ∀ (l m : List D) (i : Nat) (d : D), (zipD l m)[i]? = some d → ∃ x y, l[i]? = some x ∧ m[i]? = some y ∧ d = .tup [x, y]
  | x :: l, y :: m, 0, d, e => by cases e; exact ⟨x, y, rfl, rfl, rfl⟩
  | x :: l, y :: m, i + 1, d, e => by
    rw [zipD, List.getElem?_cons_succ] at e
    obtain ⟨x', y', h1, h2, h3⟩ := zipD_at l m i d e
    exact ⟨x', y', by rw [List.getElem?_cons_succ]; exact h1, by rw [List.getElem?_cons_succ]; exact h2, h3⟩
  | [], m, _, _, e => by simp [zipD] at e
  | _ :: _, [], _, _, e => by simp [zipD] at e
section
variable {F : Fr}
theorem new_none {h : Heap} {a : Addr} (ha : h.objs.size ≤ a) : h.get? a = none := by
  cases e : h.get? a with
  | none => rfl
  | some o => exact absurd (Heap.lt_size e) (Nat.not_lt.mpr ha)
theorem ext_none {h h' : Heap} {a : Addr} (k : Ext h h') (ha : h'.get? a = none) : h.get? a = none := by
  cases e : h.get? a with
  | none => rfl
  | some o => rw [k _ _ e] at ha; cases ha
theorem enum_walk {h₁ h' : Heap} {s : Shared} {tk : Nat} {ax : Addr} {vs : List Value} {l : List D} {St : Nat → Heap → Prop} {o : Obj} (k₁ : Ext s.heap h₁) (k : Ext h₁ h') (hx : ¬ F.X ax) (ho : h₁.get? ax = some o) (rl : RdL F.sg h₁ F.X vs l)
    (he : IsEnum h' (h₁.objs.size + 1) h₁.objs.size 0 .none) (hz : h'.objs.size = h₁.objs.size + 2) (Dr : Draws F.prog F.w F.A.in1 h₁.objs.size [h₁.objs.size, ax] (⟨vs⟩ : Array Value).size (fun i v => (⟨vs⟩ : Array Value)[i]? = some v) St) (st : St 0 h') (hs0 : ∃ o, h'.get? h₁.objs.size = some o)
    {Q : Value → Shared → Prop} (h : ∀ (I : Addr) (h' : Heap) (tk : Nat) (Wr : Av), Ext s.heap h' → (∀ b, Wr b → s.heap.get? b = none) → (∀ b, Wr b → ∃ o, h'.get? b = some o) →
      (∀ X' : Av, (∀ b, F.X b → X' b) → (∀ b, Wr b → X' b) → (∀ b, X' b → F.X b ∨ Wr b ∨ h'.get? b = none) → ∃ St, Wk F.sg F.prog F.w F.A X' I (enumD 0 l) St Wr 1 ∧ St 0 h') → Q (.ref I) { s with heap := h', toks := tk }) :
    Q (.ref (h₁.objs.size + 1)) { s with heap := h', toks := tk } := by
  have hlt : ax < h₁.objs.size := Heap.lt_size ho
  have hw : ∀ b, b ∈ [h₁.objs.size + 1, h₁.objs.size] → h₁.get? b = none := fun b q => by
    rcases List.mem_cons.mp q with e | q
    · exact new_none (by omega)
    · rw [List.mem_singleton.mp q]; exact new_none (Nat.le_refl _)
  refine h _ h' tk (fun b => b ∈ [h₁.objs.size + 1, h₁.objs.size]) (k₁.trans k) (fun b q => ext_none k₁ (hw b q)) (fun b q => ?_) fun X' x1 x2 x3 => ?_
  · rcases List.mem_cons.mp q with e | q
    · rw [e]; exact ⟨_, he⟩
    · rw [List.mem_singleton.mp q]; exact hs0
  have mv := move_to (sg := F.sg) (X := F.X) (X' := X') (Wr := fun b => b ∈ [h₁.objs.size + 1, h₁.objs.size]) k hw x3
  have hsz : (⟨vs⟩ : Array Value).size = l.length := rl.length
  have ne : ∀ {x y : Nat}, x < y → x ≠ y := fun h => Nat.ne_of_lt h
  refine ⟨_, Wk.ofWalksT (R := fun h => RdL F.sg h X' vs l) (WalksT.enumerateD Dr (h₁.objs.size + 1) (Nat.succ_ne_self _) ?_ List.mem_cons_self) (by rw [enumD_len]; exact hsz) x2 ?_ ?_ ?_ (fun _ _ r k => r.keep k) ?_, ⟨⟨_, he⟩, st⟩, rl.move mv⟩
  · intro q
    rcases List.mem_cons.mp q with e | q
    · exact Nat.succ_ne_self _ e
    · exact Nat.ne_of_gt (Nat.lt_succ_of_lt hlt) (List.mem_singleton.mp q)
  · intro b q
    rcases List.mem_cons.mp q with e | q
    · exact .inl (by rw [e]; exact List.mem_cons_self)
    · rcases List.mem_cons.mp q with e | q
      · exact .inl (by rw [e]; exact List.mem_cons_of_mem _ (List.mem_singleton.mpr rfl))
      · rw [List.mem_singleton.mp q]; exact .inr (mv _ _ hx ho).2
  · rintro i h ⟨⟨old, e⟩, st⟩ b q
    rcases List.mem_cons.mp q with e' | q
    · rw [e']; exact ⟨_, e⟩
    · rw [List.mem_singleton.mp q]; exact Dr.live _ _ st
  · rintro i T h ⟨⟨x, e⟩, st, _⟩ b q
    rcases List.mem_cons.mp q with e' | q
    · rw [e']; exact ⟨_, e⟩
    · rw [List.mem_singleton.mp q]; exact Dr.live _ _ st
  · rintro i vals d h ⟨t, x, hx, rfl⟩ hd r
    obtain ⟨y, hy, rfl⟩ := enumD_at _ _ _ _ hd
    obtain ⟨v', hv', rv⟩ := r.get hy
    have : vs[i]? = some x := by simpa using hx
    rw [this] at hv'; cases hv'
    exact ⟨_, rfl, .cons (by rw [Int.zero_add]; exact .int _ _) (.cons rv .nil)⟩
theorem iv_enum {e : PE} {fp p : Pos} {f : Nat} {d : D} {l : List D} (h1 : EV F e.toE d) (hd : d = .lst l ∨ d = .tup l) (hh : F.A.handled = none) (hk : lookN F.nk f = some .globalImplicit) (hv : GlobV F.B (nm f) (.type "enumerate")) :
    IV F (PE.call f fp (.cons e .nil) p).toE (enumD 0 l) 1 := by
  intro s o Q E h
  refine wpAny_Call_NameR (wp_glob o hk hv ?_)
  refine PySem.callWith_type plain_args (args_given (.cons h1 .nil) o fun vs h₁ t₁ k₁ r₁ => ?_)
  cases r₁ with | cons r₁ r₂ =>
  cases r₂
  show wpAny _ _ (call (.type "enumerate") [_]) _ _ _
  rcases hd with rfl | rfl
  · cases r₁ with | lst hx pl rl =>
    refine call_enumerate_list pl.isList fun h' he hi hz hk' => ?_
    refine wpAny_pyIter_enum he ?_
    have hlt := Heap.lt_size pl.choose_spec
    exact enum_walk k₁ hk' hx pl.choose_spec rl he hz (Draws.list (A := F.A.in1) hh h₁.objs.size _ (Nat.ne_of_lt hlt) _) ⟨hi, _, hk' _ _ pl.choose_spec, rfl, _, rfl⟩ (let ⟨o, e, _⟩ := hi; ⟨o, e⟩) h
  · cases r₁ with | tup hx pl rl =>
    refine call_enumerate_tuple pl.isTuple fun h' he hi hz hk' => ?_
    refine wpAny_pyIter_enum he ?_
    have hlt := Heap.lt_size pl.choose_spec.1
    exact enum_walk k₁ hk' hx pl.choose_spec.1 rl he hz (drawsTuple (A := F.A.in1) hh h₁.objs.size _ (Nat.ne_of_lt hlt) _) ⟨hi, _, hk' _ _ pl.choose_spec.1, pl.choose_spec.2.1, pl.choose_spec.2.2⟩ (let ⟨o, e, _⟩ := hi; ⟨o, e⟩) h
theorem iv_zip {e1 e2 : PE} {fp p : Pos} {f : Nat} {l1 l2 : List D} (h1 : EV F e1.toE (.lst l1)) (h2 : EV F e2.toE (.lst l2)) (hh : F.A.handled = none) (hk : lookN F.nk f = some .globalImplicit) (hv : GlobV F.B (nm f) (.type "zip")) :
    IV F (PE.call f fp (.cons e1 (.cons e2 .nil)) p).toE (zipD l1 l2) 1 := by
  intro s o Q E h
  refine wpAny_Call_NameR (wp_glob o hk hv ?_)
  refine PySem.callWith_type plain_args (args_given (.cons h1 (.cons h2 .nil)) o fun vs h₁ t₁ k₁ r₁ => ?_)
  cases r₁ with | cons r₁ r₂ =>
  cases r₂ with | cons r₂ r₃ =>
  cases r₃
  show wpAny _ _ (call (.type "zip") [_, _]) _ _ _
  cases r₁ with | @lst ax xs _ hx pl rl =>
  cases r₂ with | @lst ay ys _ hy pm rm =>
  refine call_zip_2 pl.isList pm.isList fun h' hz hTI hTO hi1 hi2 hsz hk' => ?_
  refine wpAny_pyIter_zip hz ?_
  dsimp only at hz hTI hTO hi1 hi2 hsz hk' ⊢
  have h1t : @LT.lt Nat instLTNat ax h₁.objs.size := Heap.lt_size pl.choose_spec
  have h2t : @LT.lt Nat instLTNat ay h₁.objs.size := Heap.lt_size pm.choose_spec
  generalize hn : h₁.objs.size = n at *
  have hw : ∀ b, b ∈ [n + 4, n + 3, n, n + 1] → h₁.get? b = none := fun b q => by
    refine new_none ?_
    rw [hn]
    simp only [List.mem_cons, List.not_mem_nil, or_false] at q
    omega
  refine h _ h' _ (fun b => b ∈ [n + 4, n + 3, n, n + 1]) (k₁.trans hk') (fun b q => ext_none k₁ (hw b q)) (fun b q => ?_) fun X' x1 x2 x3 => ?_
  · simp only [List.mem_cons, List.not_mem_nil, or_false] at q
    obtain ⟨o1, e1, _⟩ := hi1
    obtain ⟨o2, e2, _⟩ := hi2
    rcases q with e | e | e | e <;> rw [e]
    · exact ⟨_, hz⟩
    · exact ⟨_, hTO⟩
    · exact ⟨_, e1⟩
    · exact ⟨_, e2⟩
  have mv := move_to (sg := F.sg) (X := F.X) (X' := X') (Wr := fun b => b ∈ [n + 4, n + 3, n, n + 1]) hk' hw x3
  have D0 : ZipApart (n + 4) (n + 2) (n + 3) n (n + 1) ax ay := by
    have ne : ∀ x y : Nat, x ≠ y → @Ne Addr x y := fun _ _ h => h
    constructor <;> (refine ne _ _ ?_; omega)
  have hTIX : ¬ X' (n + 2) := fun q => by
    rcases x3 _ q with q | q | q
    · exact (o.keep k₁).xok.fresh (a := n + 2) (by show h₁.objs.size ≤ n + 2; rw [hn]; exact Nat.le_add_right _ _) q
    · simp only [List.mem_cons, List.not_mem_nil, or_false] at q
      rcases q with e | e | e | e <;> (have e2 : @Eq Nat _ _ := e; omega)
    · rw [hTI] at q; cases q
  refine ⟨_, Wk.ofWalksT (R := fun h => RdL F.sg h X' xs l1 ∧ RdL F.sg h X' ys l2) (WalksT.zip2 hh (n + 4) (n + 2) (n + 3) n (n + 1) ax ay D0 ⟨xs⟩ ⟨ys⟩) ?_ x2 ?_ ?_ ?_ (fun _ _ r k => ⟨r.1.keep k, r.2.keep k⟩) ?_,
    ⟨hz, hTI, ⟨_, _, hTO⟩, hi1, hi2, ⟨_, hk' _ _ pl.choose_spec, rfl, _, rfl⟩, ⟨_, hk' _ _ pm.choose_spec, rfl, _, rfl⟩⟩, rl.move mv, rm.move mv⟩
  · rw [zipD_len, rl.arr, rm.arr]
  · intro b q
    simp only [List.mem_cons, List.not_mem_nil, or_false] at q ⊢
    rcases q with e | e | e | e | e | e | e
    · exact .inl (.inl e)
    · rw [e]; exact .inr hTIX
    · exact .inl (.inr (.inl e))
    · exact .inl (.inr (.inr (.inl e)))
    · exact .inl (.inr (.inr (.inr e)))
    · rw [e]; exact .inr (mv _ _ hx pl.choose_spec).2
    · rw [e]; exact .inr (mv _ _ hy pm.choose_spec).2
  · rintro i h ⟨a1, a2, ⟨_, _, a3⟩, ⟨o1, a4, _⟩, ⟨o2, a5, _⟩, _⟩ b q
    simp only [List.mem_cons, List.not_mem_nil, or_false] at q
    rcases q with e | e | e | e <;> rw [e] <;> exact ⟨_, by assumption⟩
  · rintro i T h ⟨a1, a2, ⟨_, _, a3⟩, ⟨o1, a4, _⟩, ⟨o2, a5, _⟩, _⟩ b q
    simp only [List.mem_cons, List.not_mem_nil, or_false] at q
    rcases q with e | e | e | e <;> rw [e] <;> exact ⟨_, by assumption⟩
  · rintro i vals d h ⟨x, y, hx, hy, rfl⟩ hd ⟨r1, r2⟩
    obtain ⟨x', y', e1, e2, rfl⟩ := zipD_at _ _ _ _ hd
    obtain ⟨v1, hv1, rv1⟩ := r1.get e1
    obtain ⟨v2, hv2, rv2⟩ := r2.get e2
    have q1 : xs[i]? = some x := by simpa using hx
    have q2 : ys[i]? = some y := by simpa using hy
    rw [q1] at hv1; cases hv1
    rw [q2] at hv2; cases hv2
    exact ⟨_, rfl, .cons rv1 (.cons rv2 .nil)⟩
end
end Mine

namespace Mine
/-! comprehensions: the frame -/
noncomputable def cellsOf : List (Nat × NameKind) → List Nat
  | [] => []
  | (x, k) :: r => match k with | .cell => x :: cellsOf r | _ => cellsOf r
noncomputable def freeRho : List (Nat × NameKind) → Rho → Rho
  | [], _ => []
  | (x, k) :: r, ρ => match k with
    | .free => (match getR ρ x with | some d => (x, d) :: freeRho r ρ | none => freeRho r ρ)
    | _ => freeRho r ρ
noncomputable def kEq : NameKind → NameKind → Bool
  | .local, .local => true
  | .cell, .cell => true
  | .free, .free => true
  | .globalImplicit, .globalImplicit => true
  | _, _ => false
theorem kEq_eq {a b : NameKind} (h : kEq a b = true) : a = b := by cases a <;> cases b <;> first | rfl | cases h
noncomputable def compOkAt (nk names : List (Nat × NameKind)) : List (Nat × NameKind) → Bool
  | [] => true
  | (x, k) :: r => (match lookN names x with | some k' => kEq k' k | none => false) &&
      (match k with | .free => (match lookN nk x with | some .cell => true | some .free => true | _ => false) | _ => true) && compOkAt nk names r
noncomputable def compOk (nk names : List (Nat × NameKind)) : Bool := compOkAt nk names names && Nat.ble (cellsOf names).length 1
theorem compOkAt_mem {nk names : List (Nat × NameKind)} : ∀ {l : List (Nat × NameKind)}, compOkAt nk names l = true → ∀ {x : Nat} {k : NameKind}, (x, k) ∈ l →
    lookN names x = some k ∧ (k = .free → lookN nk x = some .cell ∨ lookN nk x = some .free)
  | (y, k') :: r, h, x, k, m => by
    unfold compOkAt at h
    obtain ⟨h, h3⟩ := Bool.and_eq_true_iff.mp h
    obtain ⟨h1, h2⟩ := Bool.and_eq_true_iff.mp h
    rcases List.mem_cons.mp m with e | m
    · cases e
      constructor
      · split at h1
        · rename_i e; rw [e, kEq_eq h1]
        · cases h1
      · rintro rfl
        simp only at h2
        split at h2
        · exact .inl ‹_›
        · exact .inr ‹_›
        · cases h2
    · exact compOkAt_mem h3 m
theorem lookN_mem : ∀ {l : List (Nat × NameKind)} {x : Nat} {k : NameKind}, lookN l x = some k → (x, k) ∈ l
  | (y, k') :: r, x, k, h => by
    unfold lookN at h
    split at h
    · rename_i e; cases h; rw [Nat.eq_of_beq_eq_true e]; exact List.mem_cons_self
    · exact List.mem_cons_of_mem _ (lookN_mem h)
theorem freeRho_get : ∀ {l : List (Nat × NameKind)} {ρ : Rho} {x : Nat} {d : D}, getR (freeRho l ρ) x = some d → (x, .free) ∈ l ∧ getR ρ x = some d
  | (y, k) :: r, ρ, x, d, h => by
    have tl : getR (freeRho r ρ) x = some d → (x, NameKind.free) ∈ (y, k) :: r ∧ getR ρ x = some d := fun h => ⟨List.mem_cons_of_mem _ (freeRho_get h).1, (freeRho_get h).2⟩
    unfold freeRho at h
    split at h
    · split at h
      · rename_i e
        rw [getR_cons] at h
        split at h
        · rename_i exy; cases h; subst exy; exact ⟨List.mem_cons_self, e⟩
        · exact tl h
      · exact tl h
    · exact tl h
noncomputable def nmap (l : List (Nat × NameKind)) : List (Str × NameKind) := l.map fun x => (nm x.1, x.2)
theorem nm_beq {x y : Nat} : (nm x == nm y) = Nat.beq x y := by
  by_cases h : x = y
  · subst h; rw [Nat.beq_refl, beq_self_eq_true]
  · have h1 : Nat.beq x y = false := by rw [Bool.eq_false_iff]; intro h'; exact h (Nat.eq_of_beq_eq_true h')
    rw [h1, beq_eq_false_iff_ne]; exact fun e => h (nm_inj e)
theorem beq_comm' (x y : Nat) : Nat.beq x y = Nat.beq y x := by
  by_cases h : x = y
  · rw [h]
  · have a : ∀ {x y : Nat}, x ≠ y → Nat.beq x y = false := fun h => by rw [Bool.eq_false_iff]; intro h'; exact h (Nat.eq_of_beq_eq_true h')
    rw [a h, a (Ne.symm h)]
theorem lookup_map (f : NameKind → NameKind) (g : Str × NameKind → Str × NameKind) (hg : ∀ x k, g (nm x, k) = (nm x, f k)) : ∀ (l : List (Nat × NameKind)) (x : Nat), ((nmap l).map g).lookup (nm x) = (lookN l x).map f
  | [], _ => rfl
  | (y, k) :: r, x => by
    show List.lookup (nm x) (g (nm y, k) :: (nmap r).map g) = _
    rw [hg, List.lookup_cons, nm_beq, lookup_map f g hg r x]
    show _ = Option.map f (match Nat.beq y x with | true => some k | false => lookN r x)
    rw [beq_comm' x y]
    cases Nat.beq y x <;> rfl
/-- what the inner frame calls a name of kind k -/
noncomputable def reK (env : Env) (x : Nat) (k : NameKind) : NameKind := if (k == .free && env.scope.kind == .function && env.kindOf (nm x) == some .cell) then .cell else k
theorem relabel_lookup {env : Env} : ∀ {l : List (Nat × NameKind)} {x : Nat} {k : NameKind}, lookN l x = some k →
    (relabel (scopeOf l) env).names.lookup (nm x) = some (reK env x k)
  | (y, k') :: r, x, k, h => by
    show List.lookup (nm x) ((if (k' == .free && env.scope.kind == .function && env.kindOf (nm y) == some .cell) then (nm y, NameKind.cell) else (nm y, k')) :: (relabel (scopeOf r) env).names) = _
    have e1 : (if (k' == .free && env.scope.kind == .function && env.kindOf (nm y) == some .cell) then (nm y, NameKind.cell) else (nm y, k')) = (nm y, reK env y k') := by
      unfold reK; split <;> rfl
    rw [e1, List.lookup_cons, nm_beq, beq_comm' x y]
    unfold lookN at h
    split at h
    · rename_i e
      cases h
      rw [e]
      rw [Nat.eq_of_beq_eq_true e]
    · rename_i e
      rw [e]
      exact relabel_lookup h
/-- the cells that a comprehension's frame takes from around it -/
noncomputable def clF (env : Env) : List (Nat × NameKind) → List (Str × Addr) → List (Str × Addr)
  | [], acc => acc
  | (x, k) :: r, acc => if k == .free then clF env r ((nm x, (env.cells.lookup (nm x)).getD 0) :: acc) else clF env r acc
theorem closure_is {env : Env} {l : List (Nat × NameKind)} (h : ∀ x, (x, NameKind.free) ∈ l → ∃ c, env.cells.lookup (nm x) = some c) : closureFor (scopeOf l) env = pure (clF env l []) := by
  have key : ∀ (l : List (Nat × NameKind)) (acc : List (Str × Addr)), (∀ x, (x, NameKind.free) ∈ l → ∃ c, env.cells.lookup (nm x) = some c) →
      (forIn (nmap l) acc fun x cs => (if (x.2 == NameKind.free) = true then do let a ← cellOf env x.1; pure (ForInStep.yield ((x.1, a) :: cs)) else pure (ForInStep.yield cs) : Sem (ForInStep (List (Str × Addr))))) = pure (clF env l acc) := by
    intro l
    induction l with
    | nil => intro acc _; rfl
    | cons y r ih =>
      intro acc h
      obtain ⟨y, k⟩ := y
      have hr : ∀ x, (x, NameKind.free) ∈ r → ∃ c, env.cells.lookup (nm x) = some c := fun x m => h x (List.mem_cons_of_mem _ m)
      rw [show nmap ((y, k) :: r) = (nm y, k) :: nmap r from rfl, List.forIn_cons]
      by_cases hk : (k == NameKind.free) = true
      · obtain ⟨c, hc⟩ := h y (by rw [← beq_iff_eq.mp hk]; exact List.mem_cons_self)
        have e1 : cellOf env (nm y) = pure c := by unfold cellOf; rw [hc]
        simp only [hk, if_true, e1, clF, hc, Option.getD_some, pure_bind]
        exact ih _ hr
      · simp only [hk, clF, pure_bind]
        exact ih _ hr
  unfold closureFor
  have z := key l [] h
  show (forIn (nmap l) [] _ >>= fun cs => pure cs) = _
  rw [bind_pure]
  exact z
theorem clF_sub {env : Env} : ∀ (l : List (Nat × NameKind)) (acc : List (Str × Addr)), (∀ x, (x, NameKind.free) ∈ l → ∃ c, env.cells.lookup (nm x) = some c) → (∀ y c, acc.lookup y = some c → env.cells.lookup y = some c) →
    ∀ y c, (clF env l acc).lookup y = some c → env.cells.lookup y = some c
  | [], acc, _, ha, y, c, h => ha y c h
  | (x, k) :: r, acc, hf, ha, y, c, h => by
    have hr : ∀ x, (x, NameKind.free) ∈ r → ∃ c, env.cells.lookup (nm x) = some c := fun x m => hf x (List.mem_cons_of_mem _ m)
    unfold clF at h
    split at h
    · rename_i hk
      obtain ⟨c', hc⟩ := hf x (by rw [← beq_iff_eq.mp hk]; exact List.mem_cons_self)
      refine clF_sub r _ hr (fun y c h => ?_) y c h
      rw [List.lookup_cons] at h
      split at h
      · rename_i e
        cases h
        rw [beq_iff_eq.mp e, hc]; rfl
      · exact ha y c h
    · exact clF_sub r _ hr ha y c h
theorem clF_has {env : Env} : ∀ (l : List (Nat × NameKind)) (acc : List (Str × Addr)) (y : Str), ((acc.lookup y).isSome = true ∨ ∃ x, (x, NameKind.free) ∈ l ∧ nm x = y) → ((clF env l acc).lookup y).isSome = true
  | [], acc, y, h => by
    rcases h with h | ⟨_, h, _⟩
    · exact h
    · cases h
  | (x, k) :: r, acc, y, h => by
    unfold clF
    split
    · rename_i hk
      refine clF_has r _ y ?_
      by_cases e : nm x = y
      · left; rw [List.lookup_cons, e, beq_self_eq_true]; rfl
      · rcases h with h | ⟨z, hz, e2⟩
        · left
          rw [List.lookup_cons]
          split
          · rfl
          · exact h
        · rcases List.mem_cons.mp hz with e3 | hz
          · cases e3; exact (e e2).elim
          · exact .inr ⟨z, hz, e2⟩
    · rename_i hk
      refine clF_has r _ y ?_
      rcases h with h | ⟨z, hz, e2⟩
      · exact .inl h
      · rcases List.mem_cons.mp hz with e3 | hz
        · cases e3; exact (hk rfl).elim
        · exact .inr ⟨z, hz, e2⟩
theorem cells_none : ∀ (l : List (Nat × NameKind)) (k : Nat) (acc : List (Str × Addr)) (h : Heap), cellsOf l = [] → cellsFrom k (nmap l) acc = acc ∧ pushCells h (nmap l) = h
  | [], _, _, _, _ => ⟨rfl, rfl⟩
  | (x, kd) :: r, k, acc, h, e => by
    have hk : (kd == NameKind.cell) = false := by cases kd <;> first | rfl | (simp [cellsOf] at e)
    have er : cellsOf r = [] := by cases kd <;> first | exact e | (simp [cellsOf] at e)
    obtain ⟨h1, h2⟩ := cells_none r k acc h er
    constructor
    · show (if kd == .cell then _ else cellsFrom k (nmap r) acc) = _
      rw [if_neg (by rw [hk]; exact Bool.false_ne_true)]; exact h1
    · show (if kd == .cell then _ else pushCells h (nmap r)) = _
      rw [if_neg (by rw [hk]; exact Bool.false_ne_true)]; exact h2
theorem cells_one : ∀ (l : List (Nat × NameKind)) (k : Nat) (acc : List (Str × Addr)) (h : Heap) (y : Nat), cellsOf l = [y] → cellsFrom k (nmap l) acc = (nm y, k) :: acc ∧ pushCells h (nmap l) = h.push { cls := .type "cell", data := .cell none }
  | (x, kd) :: r, k, acc, h, y, e => by
    by_cases hk : kd = .cell
    · subst hk
      have e : x :: cellsOf r = [y] := e
      injection e with e1 e2
      subst e1
      exact ⟨(cells_none r (k + 1) ((nm x, k) :: acc) h e2).1, (cells_none r (k + 1) acc _ e2).2⟩
    · have er : cellsOf r = [y] := by cases kd <;> first | exact e | exact (hk rfl).elim
      obtain ⟨h1, h2⟩ := cells_one r k acc h y er
      have hk' : ¬ (kd == NameKind.cell) = true := fun q => hk (beq_iff_eq.mp q)
      constructor
      · show (if kd == .cell then _ else cellsFrom k (nmap r) acc) = _
        rw [if_neg hk']; exact h1
      · show (if kd == .cell then _ else pushCells h (nmap r)) = _
        rw [if_neg hk']; exact h2
end Mine

namespace Mine
variable {sg : Nat}
/-! comprehensions: the inner frame is as it must be -/
noncomputable def cEnv (names : List (Nat × NameKind)) (env : Env) (C : Addr) : Env :=
  { scope := relabel (scopeOf names) env, locals := C, globals := env.globals, cells := cellsFrom (C + 1) (nmap names) (clF env names []), qual := env.qual, func := none, code := env.code, frame := env.frame, builtins := env.builtins }
theorem wp_compEnv {M : Model} {A : Around} {env : Env} {names : List (Nat × NameKind)} {cl : List (Str × Addr)} {s : Shared} {Q : Env → Shared → Prop} {E : Value → Shared → Prop}
    (h : Q (newEnv (scopeOf names) s.heap.objs.size env.globals (cellsFrom (s.heap.objs.size + 1) (nmap names) cl) env.qual none .none (some env) builtinsNs) { s with heap := pushCells (s.heap.push { cls := .type "dict", data := .dict #[] }) (nmap names) }) :
    wpAny M A (newFunctionEnv (scopeOf names) env.globals cl [] env.qual none .none (some env)) Q E s := by
  simp only [newFunctionEnv, Option.isSome_some, if_true]
  refine wpAny_bind (wpAny_alloc ?_)
  refine wpAny_bind (wpAny_layCells _ (fun name kind cells => by cases hkc : kind == NameKind.cell <;> simp [hkc]) _ _ _ _ ?_)
  rw [show ({ s with heap := s.heap.push { cls := .type "dict", data := .dict #[] } } : Shared).heap.objs.size = s.heap.objs.size + 1 from Heap.size_push ..]
  exact wpAny_bind (wpAny_pure (wpAny_pure h))
noncomputable def cX (X Wr : Av) (Dn C : Addr) (names : List (Nat × NameKind)) : Av := fun b => X b ∨ Wr b ∨ b = Dn ∨ b = C ∨ (∃ y, cellsOf names = [y] ∧ b = C + 1)
theorem comp_ok {B : Heap} {nk names : List (Nat × NameKind)} {env : Env} {X Wr : Av} {ρ : Rho} {h1 h2 h4 : Heap} {C Dn : Addr} (o₁ : EOk sg B nk env X ρ h1) (k12 : Ext h1 h2) (hc : compOk nk names = true)
    (hW : ∀ b, Wr b → h1.get? b = none) (hWl : ∀ b, Wr b → ∃ ob, h2.get? b = some ob) (hD : h2.get? Dn = none) (hDl : ∃ ob, h4.get? Dn = some ob) (hDC : Dn ≠ C) (hCn : h2.get? C = none) (hC1 : h2.get? (C + 1) = none) (hDC1 : Dn ≠ C + 1)
    (k4 : Ext h2 h4) (hsz : h4.objs.size = C + 1) (hns : h4.Ns C fun _ => none) :
    EOk sg B names (cEnv names env C) (cX X Wr Dn C names) (freeRho names ρ) (pushCells h4 (nmap names)) := by
  obtain ⟨hc1, hc2⟩ := Bool.and_eq_true_iff.mp hc
  have o := o₁.keep k12
  have hfree : ∀ x, (x, NameKind.free) ∈ names → (env.kindOf (nm x) = some .cell ∨ env.kindOf (nm x) = some .free) ∧ ∃ c, env.cells.lookup (nm x) = some c := fun x m => by
    rcases (compOkAt_mem hc1 m).2 rfl with e | e
    · have z : KindOk env (nm x) .cell := o.kin _ _ e
      exact ⟨.inl z.1, z.2⟩
    · exact (o.kin _ _ e : KindOk env (nm x) .free)
  have hcl : ∀ x, (x, NameKind.free) ∈ names → ∃ c, env.cells.lookup (nm x) = some c := fun x m => (hfree x m).2
  have hsub := clF_sub names [] hcl (fun y c h => by cases h)
  have kp : Ext h4 (pushCells h4 (nmap names)) := fun b ob e => pushCells_keeps _ _ b ob e
  have k5 : Ext h2 (pushCells h4 (nmap names)) := k4.trans kp
  have cases1 : cellsOf names = [] ∨ ∃ y, cellsOf names = [y] := by
    cases e : cellsOf names with
    | nil => exact .inl rfl
    | cons y r =>
      rw [e] at hc2
      cases r with
      | nil => exact .inr ⟨y, rfl⟩
      | cons z r => exact absurd (Nat.le_of_ble_eq_true hc2) (by simp)
  -- the cells of the inner frame
  have hcells : ∀ y c, (cEnv names env C).cells.lookup y = some c → (env.cells.lookup y = some c) ∨ (∃ x, cellsOf names = [x] ∧ nm x = y ∧ c = C + 1) := fun y c h => by
    change (cellsFrom (C + 1) (nmap names) (clF env names [])).lookup y = some c at h
    rcases cases1 with e | ⟨x, e⟩
    · rw [(cells_none names (C + 1) _ h4 e).1] at h
      exact .inl (hsub y c h)
    · rw [(cells_one names (C + 1) _ h4 x e).1, List.lookup_cons] at h
      split at h
      · rename_i q
        cases h
        exact .inr ⟨x, e, (beq_iff_eq.mp q).symm, rfl⟩
      · exact .inl (hsub y c h)
  have hcell1 : ∀ x, cellsOf names = [x] → (pushCells h4 (nmap names)).get? (C + 1) = some { cls := .type "cell", data := .cell none } := fun x e => by
    rw [(cells_one names (C + 1) [] h4 x e).2, ← hsz]; exact Heap.get?_push_size _ rfl
  have hfreeL : ∀ x, (x, NameKind.free) ∈ names → ∃ c, (cEnv names env C).cells.lookup (nm x) = some c ∧ env.cells.lookup (nm x) = some c := fun x m => by
    have z := clF_has (env := env) names [] (nm x) (.inr ⟨x, m, rfl⟩)
    obtain ⟨c, hcc⟩ := Option.isSome_iff_exists.mp z
    refine ⟨c, ?_, hsub _ _ hcc⟩
    show (cellsFrom (C + 1) (nmap names) (clF env names [])).lookup (nm x) = some c
    rcases cases1 with e | ⟨y, e⟩
    · rw [(cells_none names (C + 1) _ h4 e).1]; exact hcc
    · rw [(cells_one names (C + 1) _ h4 y e).1, List.lookup_cons]
      split
      · rename_i q
        have exy := nm_inj (beq_iff_eq.mp q)
        subst exy
        have hm : (x, NameKind.cell) ∈ names := by
          have : ∀ (l : List (Nat × NameKind)), x ∈ cellsOf l → (x, NameKind.cell) ∈ l := by
            intro l
            induction l with
            | nil => intro h; cases h
            | cons p r ih =>
              obtain ⟨y, kd⟩ := p
              intro h
              by_cases hk : kd = .cell
              · subst hk
                rcases List.mem_cons.mp (show x ∈ y :: cellsOf r from h) with e | h
                · rw [e]; exact List.mem_cons_self
                · exact List.mem_cons_of_mem _ (ih h)
              · exact List.mem_cons_of_mem _ (ih (by cases kd <;> first | exact h | exact (hk rfl).elim))
          exact this names (by rw [e]; exact List.mem_cons_self)
        have e1 := (compOkAt_mem hc1 m).1
        have e2 := (compOkAt_mem hc1 hm).1
        rw [e1] at e2; cases e2
      · exact hcc
  have hkind : ∀ x k, lookN names x = some k → (cEnv names env C).kindOf (nm x) = some (reK env x k) := fun x k h => relabel_lookup h
  have oc : ∀ y c, env.cells.lookup y = some c → ∃ v, h2.IsCell c v := fun y c h => (o.cel y c h).2.2
  have live2 : ∀ {y c}, env.cells.lookup y = some c → ∃ ob, h2.get? c = some ob := fun h => let ⟨v, ob, e, _⟩ := oc _ _ h; ⟨ob, e⟩
  refine ⟨rfl, o.ge, o.be, o.ext.trans k5, ?_, ?_, ?_, ?_, ?_, ?_, ?_⟩
  · rintro b (h | h | h | h | ⟨y, e, h⟩)
    · obtain ⟨ob, e⟩ := o.xok b h; exact ⟨ob, k5 _ _ e⟩
    · obtain ⟨ob, e⟩ := hWl b h; exact ⟨ob, k5 _ _ e⟩
    · rw [h]; obtain ⟨ob, e⟩ := hDl; exact ⟨ob, kp _ _ e⟩
    · rw [h]; obtain ⟨ob, _, _, e, _⟩ := hns; exact ⟨ob, kp _ _ e⟩
    · rw [h]; exact ⟨_, hcell1 y e⟩
  · rintro b (h | h | h | h | ⟨y, e, h⟩)
    · exact o.xlo b h
    · exact ext_none o₁.ext (hW b h)
    · rw [h]; exact ext_none o.ext hD
    · rw [h]; exact ext_none o.ext hCn
    · rw [h]; exact ext_none o.ext hC1
  · intro x k h
    have hk := hkind x k h
    have hm := lookN_mem h
    cases k with
    | «local» => exact hk
    | globalImplicit => exact hk
    | cell =>
      refine ⟨hk, C + 1, ?_⟩
      show (cellsFrom (C + 1) (nmap names) (clF env names [])).lookup (nm x) = some (C + 1)
      have hin : ∀ (l : List (Nat × NameKind)), (x, NameKind.cell) ∈ l → x ∈ cellsOf l := by
        intro l
        induction l with
        | nil => intro h; cases h
        | cons p r ih =>
          obtain ⟨y, kd⟩ := p
          intro h
          rcases List.mem_cons.mp h with e | h
          · cases e; exact List.mem_cons_self
          · have := ih h
            cases kd <;> first | exact this | exact List.mem_cons_of_mem _ this
      have hx := hin names hm
      rcases cases1 with e | ⟨y, e⟩
      · rw [e] at hx; cases hx
      · rw [e] at hx
        have exy := List.mem_singleton.mp hx
        subst exy
        rw [(cells_one names (C + 1) _ h4 x e).1, List.lookup_cons, beq_self_eq_true]
    | free =>
      obtain ⟨c, h1, _⟩ := hfreeL x hm
      refine ⟨?_, c, h1⟩
      rw [hk]
      unfold reK
      split
      · exact .inl rfl
      · exact .inr rfl
    | _ => trivial
  · exact ⟨.inr (.inr (.inr (.inl rfl))), _, hns.keeps kp⟩
  · intro y c h
    rcases hcells y c h with h1 | ⟨x, e, e2, rfl⟩
    · obtain ⟨a1, a2, v, hv⟩ := o.cel y c h1
      refine ⟨.inl a1, ?_, v, hv.keeps k5⟩
      intro q
      obtain ⟨ob, e⟩ := live2 h1
      rw [show c = C from q, hCn] at e; cases e
    · exact ⟨.inr (.inr (.inr (.inr ⟨x, e, rfl⟩))), Nat.succ_ne_self C, none, _, hcell1 x e, rfl⟩
  · intro y z c hy hz
    rcases hcells y c hy with h1 | ⟨x, e, e2, rfl⟩
    · rcases hcells z c hz with h3 | ⟨x', e', e3, rfl⟩
      · exact o.apart y z c h1 h3
      · obtain ⟨ob, e⟩ := live2 h1; rw [hC1] at e; cases e
    · rcases hcells z _ hz with h3 | ⟨x', e', e3, _⟩
      · obtain ⟨ob, e⟩ := live2 h3; rw [hC1] at e; cases e
      · rw [e] at e'; cases e'; rw [← e2, ← e3]
  · intro x d h
    obtain ⟨hm, hr⟩ := freeRho_get h
    obtain ⟨v, rv, l⟩ := o₁.var x d hr
    have k15 := k12.trans k5
    obtain ⟨hk, _⟩ := hfree x hm
    obtain ⟨c, h1, h2'⟩ := hfreeL x hm
    refine ⟨v, rv.move fun b ob hb e => ⟨k15 b ob e, ?_⟩, .inr ⟨?_, c, h1, ?_⟩⟩
    · rintro (q | q | q | q | ⟨y, _, q⟩)
      · exact hb q
      · rw [hW b q] at e; cases e
      · rw [q, ext_none k12 hD] at e; cases e
      · rw [q, ext_none k12 hCn] at e; cases e
      · rw [q, ext_none k12 hC1] at e; cases e
    · rw [hkind x _ (compOkAt_mem hc1 hm).1]
      unfold reK
      split
      · exact .inl rfl
      · exact .inr rfl
    · rcases l with ⟨q, _⟩ | ⟨_, c', hc', hv'⟩
      · rw [q] at hk; rcases hk with hk | hk <;> cases hk
      · rw [h2'] at hc'; cases hc'; exact hv'.keeps k15
end Mine

namespace Mine
/-! comprehensions: the loop -/
section
variable {prog : Program} {w : World} {A : Around} {E : Value → Shared → Prop} {R : Result → Shared → Prop} {s : Shared}
theorem compLoop_own {elt target iter : Expr} {ifs : List Expr} {scope : Scope} {pos : Pos} {it acc : Value} {env : Env} (I : Nat → Shared → Prop)
    (turn : ∀ n s, I n s → ∀ NE : Value → Shared → Prop, wpAny (model prog w) A (pyNext it) (fun r s₁ => match r with
      | none => R (.ok .next) s₁
      | some v => wpAny (model prog w) A (letOwnedTupleGo target it v) (fun _ s₁' => wpAny (model prog w) A (assign target env v) (fun _ s₂ =>
          wpAny (model prog w) A (forIn ifs true fun c r => if r = true then do let ok ← isTrue c env (eval c env); pure (ForInStep.yield ok) else pure (ForInStep.yield r)) (fun ok s₃ =>
            if ok = true then wpAny (model prog w) A (eval elt env) (fun x s₄ =>
              wpAny (model prog w) A (call (.builtin "list.append") [acc, x]) (fun _ s₅ => ∃ m, m < n ∧ I m s₅) NE s₄) NE s₃
            else ∃ m, m < n ∧ I m s₃) NE s₂) NE s₁') NE s₁) NE s)
    (n : Nat) (h : I n s) :
    codeAny (model prog w) A (.compLoop (.ListComp elt [⟨target, iter, ifs, 0⟩] scope pos) 0 it acc env) R s := by
  refine codeAny_loop rfl I (fun n s hI => ?_) n h
  show wpAny _ A ((compTurn (.ListComp elt [⟨target, iter, ifs, 0⟩] scope pos) 0 it acc env).onRaise (fun x => do noteFrame x env; theTreesLotGoes x)) _ _ s
  refine wpAny_noted ?_
  rw [compTurn_list]
  refine wpAny_bind (wpAny_standAt (wpAny_bind (wpAny_mono (turn n s hI _) (fun r s₁ h₁ => ?_) fun _ _ h' => h')))
  cases r with
  | none => exact wpAny_pure h₁
  | some v =>
    refine wpAny_bind (wpAny_mono h₁ (fun _ s₁' h₁' => ?_) fun _ _ h' => h')
    refine wpAny_bind (wpAny_mono h₁' (fun _ s₂ h₂ => wpAny_bind (wpAny_mono h₂ (fun ok s₃ h₃ => ?_) fun _ _ h' => h')) fun _ _ h' => h')
    cases ok with
    | false => exact wpAny_pure ⟨rfl, h₃⟩
    | true =>
      exact wpAny_bind (wpAny_bind (wpAny_mono h₃ (fun x s₄ h₄ => wpAny_bind (wpAny_mono h₄ (fun _ s₅ h₅ => wpAny_pure (wpAny_pure ⟨rfl, h₅⟩)) fun _ _ h' => h')) fun _ _ h' => h'))
end
/-- the tests of a comprehension -/
noncomputable def CV (F : Fr) : PEs → Bool → Prop
  | .nil, b => b = true
  | .cons e .nil, b => BV F e.toE b
  | _, _ => False
theorem cv_tests {F : Fr} {c : PEs} {b : Bool} {s : Shared} (h1 : CV F c b) (o : F.Ok s.heap) {Q : Bool → Shared → Prop} {E : Value → Shared → Prop}
    (h : ∀ h' tk, Ext s.heap h' → Q b { s with heap := h', toks := tk }) :
    wpAny F.M F.A (forIn c.toL true fun c r => if r = true then do let ok ← isTrue c F.env (eval c F.env); pure (ForInStep.yield ok) else pure (ForInStep.yield r)) Q E s := by
  cases c with
  | nil => cases h1; exact wpAny_tests_nil (h _ _ (Ext.refl _))
  | cons e r =>
    cases r with
    | nil => exact wpAny_tests_one (h1 s o _ _ h)
    | cons _ _ => exact h1.elim
/-- one turn: what is bound, tested and given -/
noncomputable def TurnP (F : Fr) (names : List (Nat × NameKind)) (t : Tg) (c : PEs) (elt : PE) (md : Nat) (d : D) (r : Option D) : Prop :=
  okT md t d ∧ ∃ ρ', bindT t d (freeRho names F.ρ) = some ρ' ∧ ∀ env' X', CV { F with nk := names, env := env', X := X', ρ := ρ' } c r.isSome ∧ ∀ y, r = some y → EV { F with nk := names, env := env', X := X', ρ := ρ' } elt.toE y
inductive Turns (P : D → Option D → Prop) : List D → List D → Prop
  | nil : Turns P [] []
  | keep {d r ds rs} : P d (some r) → Turns P ds rs → Turns P (d :: ds) (r :: rs)
  | skip {d ds rs} : P d none → Turns P ds rs → Turns P (d :: ds) rs
theorem Turns.len {P : D → Option D → Prop} {ds rs : List D} (t : Turns P ds rs) : rs.length ≤ ds.length := by
  induction t with
  | nil => exact Nat.le_refl _
  | keep _ _ ih => exact Nat.succ_le_succ ih
  | skip _ _ ih => exact Nat.le_succ_of_le ih
theorem bindL_keep {nk : List (Nat × NameKind)} {x : Nat} {d : D} (hx : setOk nk x = false) : ∀ (xs : List (Nat × Pos)) (ds : List D) (ρ ρ' : Rho), allSet nk xs = true → bindL xs ds ρ = some ρ' → getR ρ x = some d → getR ρ' x = some d
  | [], [], _, _, _, e, h => by cases e; exact h
  | (y, _) :: xs, d' :: ds, ρ, ρ', a, e, h => by
    obtain ⟨a1, a2⟩ := Bool.and_eq_true_iff.mp a
    refine bindL_keep hx xs ds _ ρ' a2 e ?_
    rw [getR_cons]
    split
    · rename_i q; rw [q, hx] at a1; cases a1
    · exact h
theorem bindT_keep {nk : List (Nat × NameKind)} {x : Nat} {d d' : D} {t : Tg} {ρ ρ' : Rho} (hx : setOk nk x = false) (ht : tgSet nk t = true) (e : bindT t d' ρ = some ρ') (h : getR ρ x = some d) : getR ρ' x = some d := by
  cases t with
  | one y p =>
    cases e
    rw [getR_cons]
    split
    · rename_i q; rw [← q] at hx; rw [show setOk nk y = true from ht] at hx; cases hx
    · exact h
  | many xs k p =>
    cases d' with
    | tup ds => exact bindL_keep hx xs ds _ _ ht e h
    | _ => cases e
theorem free_not_set {nk names : List (Nat × NameKind)} {ρ : Rho} {x : Nat} {d : D} (hc : compOk nk names = true) (h : getR (freeRho names ρ) x = some d) : setOk names x = false := by
  have := (compOkAt_mem (Bool.and_eq_true_iff.mp hc).1 (freeRho_get h).1).1
  unfold setOk; rw [this]
theorem comp_loop {F : Fr} {names : List (Nat × NameKind)} {t : Tg} {c : PEs} {elt : PE} {iter : Expr} {md : Nat} {ds rs : List D} {p : Pos} {s₀ : Shared} {h4 : Heap} {tk4 : Nat} {I Dn : Addr} {Wr : Av} {St : Nat → Heap → Prop} {R : Result → Shared → Prop} {env' : Env} {X' : Av}
    (hh : F.A.handled = none) (hc : compOk F.nk names = true) (ht : tgSet names t = true) (hds : ds.length ≤ lim) (hT : Turns (TurnP F names t c elt md) ds rs)
    (W : Wk F.sg F.prog F.w F.A X' I ds St Wr md) (st : St 0 h4) (o : EOk F.sg F.B names env' X' (freeRho names F.ρ) h4) (hD : PL h4 Dn []) (hDX : X' Dn) (hDW : ¬ Wr Dn) (hDl : Dn ≠ env'.locals) (hDc : ∀ x, env'.cells.lookup x ≠ some Dn)
    (hWl : ¬ Wr env'.locals) (hWc : ∀ x b, env'.cells.lookup x = some b → ¬ Wr b) (k4 : Ext s₀.heap h4) (hnW : ∀ b, Wr b → s₀.heap.get? b = none) (hnD : s₀.heap.get? Dn = none) (hnO : ∀ b, Own env' (tgNames t) b → s₀.heap.get? b = none) (hDO : ¬ Own env' (tgNames t) Dn) (hWO : ∀ b, Own env' (tgNames t) b → ¬ Wr b) (hOX : ∀ b, Own env' (tgNames t) b → X' b)
    (hR : ∀ h' tk ys, Ext s₀.heap h' → PL h' Dn ys → RdL F.sg h' X' ys rs → (∃ m, h'.Ns env'.locals m) → R (.ok .next) { s₀ with heap := h', toks := tk }) :
    codeAny F.M F.A (.compLoop (.ListComp elt.toE [⟨t.toE, iter, c.toL, 0⟩] (scopeOf names) p) 0 (.ref I) (.ref Dn) env') R { s₀ with heap := h4, toks := tk4 } := by
  refine compLoop_own (fun n s => ∃ i h tk ys pre rest, s = { s₀ with heap := h, toks := tk } ∧ EOk F.sg F.B names env' X' (freeRho names F.ρ) h ∧ St i h ∧ PL h Dn ys ∧ RdL F.sg h X' ys pre ∧ Turns (TurnP F names t c elt md) (ds.drop i) rest ∧ rs = pre ++ rest ∧ pre.length ≤ i ∧
      Ext s₀.heap h ∧ i ≤ ds.length ∧ n = ds.length + 1 - i) ?_ (ds.length + 1) ⟨0, h4, tk4, [], [], rs, rfl, o, st, hD, .nil, hT, rfl, Nat.le_refl _, k4, Nat.zero_le _, rfl⟩
  rintro n s ⟨i, h, tk, ys, pre, rest, rfl, o, st, hD, hY, hT, hrs, hpl, k, hi, rfl⟩ NE
  by_cases hlt : i < ds.length
  · have hdr : ds.drop i = ds[i] :: ds.drop (i + 1) := List.drop_eq_getElem_cons hlt
    have hat : ds[i]? = some ds[i] := List.getElem?_eq_getElem hlt
    rw [hdr] at hT
    refine W.item i ds[i] _ _ _ hat st o.xok fun v h₁ tk₁ rv hk₁ hl₁ hgo => ?_
    -- both kinds of turn alike
    have main : ∀ r : Option D, TurnP F names t c elt md ds[i] r → (∀ h₅ tk₅ ys', EOk F.sg F.B names env' X' (freeRho names F.ρ) h₅ → St (i + 1) h₅ → PL h₅ Dn ys' → RdL F.sg h₅ X' ys' (match r with | some y => pre ++ [y] | none => pre) → Ext s₀.heap h₅ →
        ∃ m, m < ds.length + 1 - i ∧ ∃ i h tk ys pre rest, ({ s₀ with heap := h₅, toks := tk₅ } : Shared) = { s₀ with heap := h, toks := tk } ∧ EOk F.sg F.B names env' X' (freeRho names F.ρ) h ∧ St i h ∧ PL h Dn ys ∧ RdL F.sg h X' ys pre ∧ Turns (TurnP F names t c elt md) (ds.drop i) rest ∧ rs = pre ++ rest ∧ pre.length ≤ i ∧ Ext s₀.heap h ∧ i ≤ ds.length ∧ m = ds.length + 1 - i) →
        wpAny (model F.prog F.w) F.A (letOwnedTupleGo t.toE (.ref I) v) (fun _ s₁' => wpAny (model F.prog F.w) F.A (assign t.toE env' v) (fun _ s₂ =>
          wpAny (model F.prog F.w) F.A (forIn c.toL true fun c r => if r = true then do let ok ← isTrue c env' (eval c env'); pure (ForInStep.yield ok) else pure (ForInStep.yield r)) (fun ok s₃ =>
            if ok = true then wpAny (model F.prog F.w) F.A (eval elt.toE env') (fun x s₄ =>
              wpAny (model F.prog F.w) F.A (call (.builtin "list.append") [.ref Dn, x]) (fun _ s₅ => ∃ m, m < ds.length + 1 - i ∧ ∃ i h tk ys pre rest, s₅ = { s₀ with heap := h, toks := tk } ∧ EOk F.sg F.B names env' X' (freeRho names F.ρ) h ∧ St i h ∧ PL h Dn ys ∧ RdL F.sg h X' ys pre ∧ Turns (TurnP F names t c elt md) (ds.drop i) rest ∧ rs = pre ++ rest ∧ pre.length ≤ i ∧ Ext s₀.heap h ∧ i ≤ ds.length ∧ m = ds.length + 1 - i) NE s₄) NE s₃
            else ∃ m, m < ds.length + 1 - i ∧ ∃ i h tk ys pre rest, s₃ = { s₀ with heap := h, toks := tk } ∧ EOk F.sg F.B names env' X' (freeRho names F.ρ) h ∧ St i h ∧ PL h Dn ys ∧ RdL F.sg h X' ys pre ∧ Turns (TurnP F names t c elt md) (ds.drop i) rest ∧ rs = pre ++ rest ∧ pre.length ≤ i ∧ Ext s₀.heap h ∧ i ≤ ds.length ∧ m = ds.length + 1 - i) NE s₂) NE s₁') NE { s₀ with heap := h₁, toks := tk₁ } := by
      rintro r ⟨hok, ρ', hb, hP⟩ fin
      refine hgo t _ _ _ rfl hok fun h₂ st₂ rv₂ hk₂ => ?_
      have kW : ∀ b ob, ¬ Wr b → h.get? b = some ob → h₂.get? b = some ob := fun b ob hb e => hk₂ b ob hb (hk₁ b ob hb e)
      have live₂ : XOk X' h₂ := fun b hb => by
        by_cases q : Wr b
        · exact W.live _ _ st₂ b q
        · obtain ⟨ob, e⟩ := o.xok b hb; exact ⟨ob, kW b ob q e⟩
      have o₂ := o.step kW W.wX live₂ hWl hWc
      refine wp_assign o₂ rv₂ ht hb hh fun h₃ tk₃ o₃ hk₃ _ => ?_
      have st₃ : St (i + 1) h₃ := W.frame _ _ _ st₂ fun b ob hb e => hk₃ b ob (fun q => hb.elim (hWO b q) fun nx => nx (hOX b q)) e
      have k₃ : Ext s₀.heap h₃ := fun b ob e => hk₃ b ob (fun q => by rw [hnO b q] at e; cases e) (kW b ob (fun q => by rw [hnW b q] at e; cases e) (k b ob e))
      have hD₃ : PL h₃ Dn ys := hD.ext fun ob e => hk₃ _ ob hDO (kW _ ob hDW e)
      have hY₃ : RdL F.sg h₃ X' ys pre := hY.keep fun b ob hb e => hk₃ b ob (fun q => hb (hOX b q)) (kW b ob (fun q => hb (W.wX b q)) e)
      obtain ⟨hcv, hev⟩ := hP env' X'
      refine cv_tests (F := { F with nk := names, env := env', X := X', ρ := ρ' }) (s := { s₀ with heap := h₃, toks := tk₃ }) hcv o₃ fun h₄ tk₄ k₄ => ?_
      have o₄ := o₃.keep k₄
      have drop : ∀ {h}, EOk F.sg F.B names env' X' ρ' h → EOk F.sg F.B names env' X' (freeRho names F.ρ) h := fun o => o.weak fun x d e => bindT_keep (free_not_set hc e) ht hb e
      cases r with
      | none =>
        simp only [Option.isSome_none, Bool.false_eq_true, if_false]
        exact fin h₄ tk₄ ys (drop o₄) (W.frame _ _ _ st₃ fun b ob _ e => k₄ b ob e) (hD₃.ext fun ob e => k₄ _ ob e) (hY₃.ext k₄) (k₃.trans k₄)
      | some y =>
        simp only [Option.isSome_some, if_true]
        refine hev y rfl { s₀ with heap := h₄, toks := tk₄ } o₄ _ _ fun x h₅ tk₅ k₅ rx => ?_
        have hDn₅ : PL h₅ Dn ys := hD₃.ext fun ob e => k₅ _ ob (k₄ _ ob e)
        refine wpAny_list_append_plain hDn₅ (fun h₆ hp₆ hs₆ => ?_) (by
          have := hY.length
          have := lim_is
          have := sizeLine_lim
          simp only [List.size_toArray]
          omega)
        have kD : ∀ b ob, b ≠ Dn → h₅.get? b = some ob → h₆.get? b = some ob := fun b ob hb e => hs₆.extBut b ob hb e
        have hD₆ : PL h₆ Dn (ys ++ [x]) := by
          obtain ⟨n, e⟩ := hp₆
          refine ⟨n, ?_⟩
          rw [e]; simp
        refine fin h₆ _ (ys ++ [x]) (drop ((o₄.keep k₅).step (W := fun b => b = Dn) kD (fun b q => by rw [q]; exact hDX) (SameBut.live hs₆ (o₄.keep k₅).xok (let ⟨_, e⟩ := hD₆; ⟨_, e⟩)) (fun q => hDl q.symm) fun z b e q => hDc z (by rw [e, q]))) ?_ hD₆ ?_ ?_
        · exact W.frame _ _ _ st₃ fun b ob hb e => kD b ob (fun q => by rw [q] at hb; exact hb.elim hDW fun nx => nx hDX) (k₅ b ob (k₄ b ob e))
        · exact ((hY₃.ext (k₄.trans k₅)).append (.cons rx .nil)).keep fun b ob hb e => kD b ob (fun q => hb (by rw [q]; exact hDX)) e
        · exact fun b ob e => kD b ob (fun q => by rw [q, hnD] at e; cases e) (k₅ b ob (k₄ b ob (k₃ b ob e)))
    generalize hdi : ds[i] = di at hT main
    generalize htl : ds.drop (i + 1) = tl at hT
    cases hT with
    | @keep _ r _ rs' hp hT' =>
      refine main (some r) hp fun h₅ tk₅ ys' a1 a2 a3 a4 a5 => ?_
      exact ⟨ds.length + 1 - (i + 1), by omega, i + 1, h₅, tk₅, ys', pre ++ [r], rs', rfl, a1, a2, a3, a4, by rw [htl]; exact hT', by rw [hrs, List.append_assoc]; rfl, by rw [List.length_append, List.length_singleton]; omega, a5, hlt, rfl⟩
    | skip hp hT' =>
      refine main none hp fun h₅ tk₅ ys' a1 a2 a3 a4 a5 => ?_
      exact ⟨ds.length + 1 - (i + 1), by omega, i + 1, h₅, tk₅, ys', pre, rest, rfl, a1, a2, a3, a4, by rw [htl]; exact hT', hrs, by omega, a5, hlt, rfl⟩
  · have hin : i = ds.length := by omega
    subst hin
    rw [List.drop_length] at hT
    cases hT
    refine W.done _ _ _ st fun h₁ tk₁ hk₁ => ?_
    refine hR h₁ tk₁ ys (fun b ob e => hk₁ b ob (fun q => by rw [hnW b q] at e; cases e) (k b ob e)) (hD.ext fun ob e => hk₁ _ ob hDW e) ?_ ?_
    · rw [hrs, List.append_nil]
      exact hY.keep fun b ob hb e => hk₁ b ob (fun q => hb (W.wX b q)) e
    · obtain ⟨m, n⟩ := o.loc.2
      exact ⟨m, n.at' fun ob e => hk₁ _ ob hWl e⟩
end Mine

namespace Mine
/-! comprehensions: the whole -/
theorem cells_mem : ∀ (l : List (Nat × NameKind)) {x : Nat}, (x, NameKind.cell) ∈ l → x ∈ cellsOf l
  | (y, kd) :: r, x, h => by
    rcases List.mem_cons.mp h with e | h
    · cases e; exact List.mem_cons_self
    · have := cells_mem r h
      cases kd <;> first | exact this | exact List.mem_cons_of_mem _ this
theorem cells_short {nk names : List (Nat × NameKind)} (hc : compOk nk names = true) : cellsOf names = [] ∨ ∃ y, cellsOf names = [y] := by
  have hc2 := (Bool.and_eq_true_iff.mp hc).2
  cases e : cellsOf names with
  | nil => exact .inl rfl
  | cons y r =>
    rw [e] at hc2
    cases r with
    | nil => exact .inr ⟨y, rfl⟩
    | cons z r => exact absurd (Nat.le_of_ble_eq_true hc2) (by simp)
theorem free_cells {sg : Nat} {B : Heap} {nk names : List (Nat × NameKind)} {env : Env} {X : Av} {ρ : Rho} {h : Heap} (o : EOk sg B nk env X ρ h) (hc : compOk nk names = true) : ∀ x, (x, NameKind.free) ∈ names → ∃ c, env.cells.lookup (nm x) = some c := fun x m => by
  rcases (compOkAt_mem (Bool.and_eq_true_iff.mp hc).1 m).2 rfl with e | e
  · exact (o.kin _ _ e : KindOk env (nm x) .cell).2
  · exact (o.kin _ _ e : KindOk env (nm x) .free).2
theorem cEnv_cells {nk names : List (Nat × NameKind)} {env : Env} {C : Addr} (hc : compOk nk names = true) (hcl : ∀ x, (x, NameKind.free) ∈ names → ∃ c, env.cells.lookup (nm x) = some c) :
    ∀ y c, (cEnv names env C).cells.lookup y = some c → (env.cells.lookup y = some c) ∨ ((∃ x, cellsOf names = [x]) ∧ c = C + 1) := fun y c h => by
  have hsub := clF_sub names [] hcl (fun y c h => by cases h)
  change (cellsFrom (C + 1) (nmap names) (clF env names [])).lookup y = some c at h
  rcases cells_short hc with e | ⟨x, e⟩
  · rw [(cells_none names (C + 1) _ default e).1] at h
    exact .inl (hsub y c h)
  · rw [(cells_one names (C + 1) _ default x e).1, List.lookup_cons] at h
    split at h
    · cases h; exact .inr ⟨⟨x, e⟩, rfl⟩
    · exact .inl (hsub y c h)
theorem allSet_mem {nk : List (Nat × NameKind)} : ∀ {xs : List (Nat × Pos)}, allSet nk xs = true → ∀ x ∈ xs.map (·.1), setOk nk x = true
  | (y, p) :: r, h, x, m => by
    obtain ⟨h1, h2⟩ := Bool.and_eq_true_iff.mp h
    rcases List.mem_cons.mp m with e | m
    · rw [e]; exact h1
    · exact allSet_mem h2 x m
theorem tgSet_mem {nk : List (Nat × NameKind)} {t : Tg} (h : tgSet nk t = true) : ∀ x ∈ tgNames t, setOk nk x = true := by
  cases t with
  | one y p => intro x m; rw [List.mem_singleton.mp m]; exact h
  | many xs k p => exact allSet_mem h
theorem own_c {nk names : List (Nat × NameKind)} {env : Env} {C : Addr} {t : Tg} {b : Addr} (hc : compOk nk names = true) (ht : tgSet names t = true) (q : Own (cEnv names env C) (tgNames t) b) : b = C ∨ ((∃ y, cellsOf names = [y]) ∧ b = C + 1) := by
  rcases q with q | ⟨x, hx, hk, hb⟩
  · exact .inl q
  · have hs := tgSet_mem ht x hx
    unfold setOk at hs
    split at hs
    · rename_i e
      have : (cEnv names env C).kindOf (nm x) = some (reK env x .local) := relabel_lookup e
      rw [this] at hk; cases hk
    · rename_i e
      have hm := cells_mem names (lookN_mem e)
      right
      rcases cells_short hc with e2 | ⟨y, e2⟩
      · rw [e2] at hm; cases hm
      · rw [e2] at hm
        have exy := List.mem_singleton.mp hm
        subst exy
        refine ⟨⟨x, e2⟩, ?_⟩
        change (cellsFrom (C + 1) (nmap names) (clF env names [])).lookup (nm x) = some b at hb
        rw [(cells_one names (C + 1) _ default x e2).1, List.lookup_cons, beq_self_eq_true] at hb
        cases hb; rfl
    · cases hs
theorem nmap_local {nk names : List (Nat × NameKind)} (hc : compOk nk names = true) : ∀ x ∈ (scopeOf names).names, x.2 = .local → (scopeOf names).names.lookup x.1 = some .local := by
  rintro ⟨n, k⟩ hm hk
  dsimp only at hk
  subst hk
  obtain ⟨⟨x, k⟩, hx, e⟩ := List.mem_map.mp hm
  cases e
  have z := lookup_map id id (fun _ _ => rfl) names x
  rw [List.map_id, (compOkAt_mem (Bool.and_eq_true_iff.mp hc).1 hx).1] at z
  exact z
section
variable {F : Fr}
theorem wp_comp {names : List (Nat × NameKind)} {t : Tg} {c : PEs} {elt : PE} {iter : Expr} {md : Nat} {ds rs : List D} {p pos' : Pos} {s : Shared} {use : Option (Value → Sem Unit)} {Q : Value → Shared → Prop} {E : Value → Shared → Prop}
    (hit : IV F iter ds md) (hfold : ∀ x, foldedSetIterable iter F.env x = pure x) (hh : F.A.handled = none) (hc : compOk F.nk names = true) (ht : tgSet names t = true) (hds : ds.length ≤ lim) (hT : Turns (TurnP F names t c elt md) ds rs) (o : F.Ok s.heap)
    (hQ : ∀ Dn C h' tk, Ext s.heap h' → s.heap.get? C = none → s.heap.get? Dn = none → Dn ≠ C → (∃ m, h'.Ns C m) → Rd F.sg h' (fun b => F.X b ∨ b = C) (.ref Dn) (.lst rs) → compPost F.M F.A E use Q (.ref Dn) C (.ok .next) { s with heap := h', toks := tk }) :
    wpAny F.M F.A (comprehension (.ListComp elt.toE [⟨t.toE, iter, c.toL, 0⟩] (scopeOf names) p) (scopeOf names) F.env pos' (newList []) false (eval iter F.env) use) Q E s := by
  have hcl := free_cells o hc
  refine wpAny_comprehension_free (cl := clF F.env names []) (use := use) rfl hfold (closure_is hcl) rfl (nmap_local hc) ?_
  refine hit s o _ _ fun I h₂ tk₂ Wr k₂ hWn hWl hWk => ?_
  refine wpAny_newObj_type (wp_compEnv ?_)
  dsimp only
  generalize hL : ({ cls := .type "list", dict := none, data := .seq ([] : List Value).toArray } : Obj) = L
  have hDn : h₂.get? h₂.objs.size = none := new_none (Nat.le_refl _)
  have hsz3 : (h₂.push L).objs.size = h₂.objs.size + 1 := Heap.size_push ..
  have hCn : h₂.get? (h₂.push L).objs.size = none := new_none (by rw [hsz3]; exact Nat.le_succ _)
  have hC1 : h₂.get? ((h₂.push L).objs.size + 1) = none := new_none (by rw [hsz3]; exact Nat.le_succ_of_le (Nat.le_succ _))
  have hDC : h₂.objs.size ≠ (h₂.push L).objs.size := by rw [hsz3]; exact (Nat.succ_ne_self _).symm
  have hDC1 : h₂.objs.size ≠ (h₂.push L).objs.size + 1 := by rw [hsz3]; exact Nat.ne_of_lt (Nat.lt_succ_of_lt (Nat.lt_succ_self _))
  generalize hC : (h₂.push L).objs.size = C at *
  generalize hD : h₂.objs.size = Dn at *
  have hLat : (h₂.push L).get? Dn = some L := by rw [← hD]; exact Heap.get?_push_size _ (by rw [← hL]; rfl)
  have k24 : Ext h₂ ((h₂.push L).push { cls := .type "dict", data := .dict #[] }) := (Ext.push _ _).trans (Ext.push _ _)
  have hns : ((h₂.push L).push { cls := .type "dict", data := .dict #[] }).Ns C fun _ => none := by rw [← hC]; exact Heap.Ns.new _ _
  have hsz4 : ((h₂.push L).push { cls := .type "dict", data := .dict #[] }).objs.size = C + 1 := by rw [Heap.size_push, hC]
  have hLat4 := Heap.get?_push_of_some { cls := .type "dict", data := .dict #[] } hLat
  generalize h3e : (h₂.push L).push { cls := .type "dict", data := .dict #[] } = h3 at *
  have ok := comp_ok (names := names) o k₂ hc hWn hWl hDn ⟨_, hLat4⟩ hDC hCn hC1 hDC1 k24 hsz4 hns
  have kp : Ext h3 (pushCells h3 (nmap names)) := fun b ob e => pushCells_keeps _ _ b ob e
  generalize h4e : pushCells h3 (nmap names) = h4 at *
  have k2f : Ext h₂ h4 := k24.trans kp
  have own := fun b => own_c (env := F.env) (C := C) (b := b) hc ht
  obtain ⟨St, W, st⟩ := hWk (cX F.X Wr Dn C names) (fun b h => .inl h) (fun b h => .inr (.inl h)) (by
    rintro b (q | q | q | q | ⟨y, _, q⟩)
    · exact .inl q
    · exact .inr (.inl q)
    · rw [q]; exact .inr (.inr hDn)
    · rw [q]; exact .inr (.inr hCn)
    · rw [q]; exact .inr (.inr hC1))
  have ownN : ∀ b, Own (cEnv names F.env C) (tgNames t) b → h₂.get? b = none := fun b q => by
    rcases own b q with q | ⟨_, q⟩
    · rw [q]; exact hCn
    · rw [q]; exact hC1
  have st4 : St 0 h4 := W.frame _ _ _ st fun b ob _ e => k2f b ob e
  have loop : codeAny F.M F.A (.compLoop (.ListComp elt.toE [⟨t.toE, iter, c.toL, 0⟩] (scopeOf names) p) 0 (.ref I) (.ref Dn) (cEnv names F.env C)) (compPost F.M F.A E use Q (.ref Dn) C) { s with heap := h4, toks := tk₂ } := by
    refine comp_loop (s₀ := s) hh hc ht hds hT W st4 ok ⟨0, ?_⟩ ?_ ?_ ?_ ?_ ?_ ?_ ?_ ?_ ?_ ?_ ?_ ?_ ?_ ?_
    · rw [kp _ _ hLat4, ← hL]
    · exact .inr (.inr (.inl rfl))
    · intro q; obtain ⟨ob, e⟩ := hWl _ q; rw [hDn] at e; cases e
    · exact hDC
    · intro x e
      rcases cEnv_cells hc hcl x Dn e with e | ⟨_, e⟩
      · obtain ⟨_, _, v, ob, e2, _⟩ := o.cel x Dn e
        rw [ext_none k₂ hDn] at e2; cases e2
      · exact hDC1 e
    · intro q; obtain ⟨ob, e⟩ := hWl _ q; rw [show (cEnv names F.env C).locals = C from rfl, hCn] at e; cases e
    · intro x b e q
      rcases cEnv_cells hc hcl x b e with e | ⟨_, e⟩
      · obtain ⟨_, _, v, ob, e2, _⟩ := o.cel x b e
        rw [hWn b q] at e2; cases e2
      · obtain ⟨ob, e2⟩ := hWl _ q; rw [e, hC1] at e2; cases e2
    · exact k₂.trans k2f
    · exact hWn
    · exact ext_none k₂ hDn
    · exact fun b q => ext_none k₂ (ownN b q)
    · intro q
      rcases own _ q with q | ⟨_, q⟩
      · exact hDC q
      · exact hDC1 q
    · intro b q q2; obtain ⟨ob, e⟩ := hWl _ q2; rw [ownN b q] at e; cases e
    · intro b q
      rcases own b q with q | ⟨⟨y, e⟩, q⟩
      · exact .inr (.inr (.inr (.inl q)))
      · exact .inr (.inr (.inr (.inr ⟨y, e, q⟩)))
    · intro h' tk ys k hp hr hn
      refine hQ Dn C h' tk k (ext_none k₂ hCn) (ext_none k₂ hDn) hDC hn (.lst ?_ hp (hr.move fun b ob hb e => ⟨e, fun q => hb ?_⟩))
      · rintro (q | q)
        · obtain ⟨ob, e⟩ := o.xok _ q; rw [ext_none k₂ hDn] at e; cases e
        · exact hDC q
      · rcases q with q | q
        · exact .inl q
        · exact .inr (.inr (.inr (.inl q)))
  exact codeAny_compStart_list loop (W.self 0 _ _ _ st4 loop)
theorem ev_comp {names : List (Nat × NameKind)} {t : Tg} {c : PEs} {elt iter : PE} {md : Nat} {ds rs : List D} {p : Pos}
    (hit : IV F iter.toE ds md) (hfold : ∀ x, foldedSetIterable iter.toE F.env x = pure x) (hh : F.A.handled = none) (hc : compOk F.nk names = true) (ht : tgSet names t = true) (hds : ds.length ≤ lim) (hT : Turns (TurnP F names t c elt md) ds rs) :
    EV F (PE.comp elt t iter c names p).toE (.lst rs) := fun s o Q E h => by
  show wpAny F.M F.A (eval (.ListComp elt.toE [⟨t.toE, iter.toE, c.toL, 0⟩] (scopeOf names) p) F.env) Q E s
  rw [eval_ListComp]
  refine wp_comp (use := none) hit hfold hh hc ht hds hT o fun Dn C h' tk k hC hD hDC hn r => ?_
  obtain ⟨m, hn⟩ := hn
  refine ⟨m, hn, fun h'' hs => ?_⟩
  refine h _ h'' tk (fun b ob e => hs.extBut b ob (fun q => by rw [q, hC] at e; cases e) (k b ob e)) (r.move fun b ob hb e => ⟨hs.extBut b ob (fun q => hb (.inr q)) e, fun q => hb (.inl q)⟩)
end
end Mine

namespace Mine
/-! the evaluator -/
inductive Bi where
  | len | range | sum | max | tuple | hex
noncomputable def biTab : List (Nat × Bi) := [(61, .len), (83, .range), (99, .sum), (64, .max), (109, .tuple), (50, .hex)]
noncomputable def biAt : List (Nat × Bi) → Nat → Option Bi
  | [], _ => none
  | (y, b) :: r, x => match Nat.beq y x with | true => some b | false => biAt r x
noncomputable def sumD : List D → Option Int
  | [] => some 0
  | .int i :: l => match sumD l with | some s => some (i + s) | none => none
  | _ :: _ => none
noncomputable def hexTab : List (Int × List Nat) := [(0, [48, 120, 48]), (1, [48, 120, 49]), (2, [48, 120, 50]), (4, [48, 120, 52]), (8, [48, 120, 56]), (16, [48, 120, 49, 48]), (32, [48, 120, 50, 48]), (64, [48, 120, 52, 48]), (128, [48, 120, 56, 48]),
  (256, [48, 120, 49, 48, 48]), (512, [48, 120, 50, 48, 48]), (1024, [48, 120, 52, 48, 48]), (2048, [48, 120, 56, 48, 48]), (4096, [48, 120, 49, 48, 48, 48])]
noncomputable def intAt {α : Type} : List (Int × α) → Int → Option α
  | [], _ => none
  | (y, b) :: r, x => match decide (y = x) with | true => some b | false => intAt r x
noncomputable def one (f : D → Option D) (ds : List D) : Option D := match ds with
  | [a] => f a
  | _ => none
noncomputable def two2 (f : D → D → Option D) (ds : List D) : Option D := match ds with
  | [a, b] => f a b
  | _ => none
noncomputable def ints2 (f : Int → Int → D) (a b : D) : Option D := match a, b with
  | .int a, .int b => some (f a b)
  | _, _ => none
noncomputable def lenD (a : D) : Option D := match a with
  | .lst l => if decide (l.length ≤ lim) then some (.int l.length) else none
  | .tup l => if decide (l.length ≤ lim) then some (.int l.length) else none
  | .str l => if decide (l.length ≤ lim) then some (.int l.length) else none
  | _ => none
noncomputable def rangeD (ds : List D) : Option D := match ds with
  | [a] => (match a with | .int n => some (.rng 0 n) | _ => none)
  | ds => two2 (ints2 .rng) ds
noncomputable def sumO (a : D) : Option D := match a with
  | .lst l => (match sumD l with | some s => some (.int s) | none => none)
  | _ => none
noncomputable def tupO (a : D) : Option D := match a with
  | .lst l => if decide (l.length ≤ lim) then some (.tup l) else none
  | _ => none
noncomputable def hexO (a : D) : Option D := match a with
  | .int i => (match intAt hexTab i with | some t => some (.str t) | none => none)
  | _ => none
noncomputable def biop : Bi → List D → Option D
  | .len => one lenD
  | .range => rangeD
  | .sum => one sumO
  | .max => two2 (ints2 fun a b => .int (if b > a then b else a))
  | .tuple => one tupO
  | .hex => one hexO
/-- what walks, and for which targets -/
noncomputable def okTb (md : Nat) (t : Tg) (d : D) : Bool := match t with
  | .one .. => !Nat.beq md 1
  | .many .. => match d with | .tup _ => !Nat.beq md 2 | _ => false
noncomputable def mapE (f : PE → Option D) : PEs → Option (List D)
  | .nil => some []
  | .cons e r => match f e with | some d => (match mapE f r with | some ds => some (d :: ds) | none => none) | none => none
noncomputable def turnL (f : D → Option (Option D)) : List D → Option (List D)
  | [] => some []
  | d :: l => match f d with
    | some (some r) => (match turnL f l with | some rs => some (r :: rs) | none => none)
    | some none => turnL f l
    | none => none
/-- where the commas stand -/
noncomputable def occL : List Nat → Nat → Nat → List Nat
  | [], _, _ => []
  | c :: l, i, fr => match Nat.ble fr i && Nat.beq c 44 && (match l with | d :: _ => Nat.beq d 32 | [] => false) with
    | true => i :: occL l (i + 1) (i + 2)
    | false => occL l (i + 1) fr
noncomputable def takeN : Nat → List Nat → List Nat
  | 0, _ => []
  | _, [] => []
  | n + 1, c :: l => c :: takeN n l
noncomputable def dropN : Nat → List Nat → List Nat
  | 0, l => l
  | _, [] => []
  | n + 1, _ :: l => dropN n l
noncomputable def partsL (l : List Nat) : Nat → List Nat → List D
  | a, [] => [.str (dropN a l)]
  | a, c :: r => .str (dropN a (takeN c l)) :: partsL l (c + 2) r
noncomputable def joinL (sep : List Nat) : List D → Option (List Nat)
  | [] => some []
  | [.str x] => some x
  | .str x :: l => match joinL sep l with | some t => some (x ++ (sep ++ t)) | none => none
  | _ => none
noncomputable def indexD (x : D) : Nat → List D → Option Nat
  | _, [] => none
  | i, y :: l => match eqb 0 y x with | true => some i | false => indexD x (i + 1) l
noncomputable abbrev Orc := Nat → List D → Option D
noncomputable abbrev NK := List (Nat × NameKind)
noncomputable def plainS (l : List Nat) : Bool := l.all (· < 0x110000)
noncomputable def isMeth (g : Nat) : Bool := memN [63, 53, 39, 70] g
noncomputable def methop (o : Orc) (m : Nat) (a : D) (ds : List D) : Option D :=
  match a with
  | .str l => match Nat.beq m 97 with
    | true => (match ds with | [.str s] => if eqNats s [44, 32] && plainS l && decide (l.length ≤ lim) && decide (2 ≤ l.length) then some (.lst (partsL l 0 (occL l 0 0))) else none | _ => none)
    | false => match Nat.beq m 56 with
      | true => (match ds with | [.lst ws] => (match joinL l ws with | some t => if okPy 0 (.str l) && ws.all (okPy 0) && decide (ws.length ≤ 1000) && decide (t.length ≤ lim) && decide (l.length ≤ 1000) then some (.str t) else none | none => none) | _ => none)
      | false => none
  | .lst l => match Nat.beq m 54 with
    | true => (match ds with | [x] => if okPy 0 x && l.all (okPy 0) && decide (l.length ≤ lim) then (match indexD x 0 l with | some i => some (.int i) | none => none) else none | _ => none)
    | false => none
  | .obj .. => (match isMeth m with | true => o m (a :: ds) | false => none)
  | _ => none
noncomputable def flagTab : List (Int × List Nat) := [(1, [79, 80, 84, 73, 77, 73, 90, 69, 68]), (2, [78, 69, 87, 76, 79, 67, 65, 76, 83]), (4, [86, 65, 82, 65, 82, 71, 83]), (8, [86, 65, 82, 75, 69, 89, 87, 79, 82, 68, 83]), (16, [78, 69, 83, 84, 69, 68]),
  (32, [71, 69, 78, 69, 82, 65, 84, 79, 82]), (64, [78, 79, 70, 82, 69, 69]), (128, [67, 79, 82, 79, 85, 84, 73, 78, 69]), (256, [73, 84, 69, 82, 65, 66, 76, 69, 95, 67, 79, 82, 79, 85, 84, 73, 78, 69]), (512, [65, 83, 89, 78, 67, 95, 71, 69, 78, 69, 82, 65, 84, 79, 82])]
noncomputable def getop : List D → Option D
  | [.int i, .str t] => if plainS t then (match intAt flagTab i with | some l => some (.str l) | none => some (.str t)) else none
  | _ => none
noncomputable def attrop (a : D) (m : Nat) : Option D :=
  match a with
  | .obj raw n nt cs b simple => match Nat.beq m 66 with
    | true => some (.int n)
    | false => match Nat.beq m 72 with
      | true => some (.int nt)
      | false => match Nat.beq m 69 with
        | true => some (.tup [.tup (cs.map .int), .int b])
        | false => match Nat.beq m 55 with
          | true => some (.bool simple)
          | false => none
  | _ => none
noncomputable def isGlob (nk : NK) (f : Nat) : Bool := match lookN nk f with | some .globalImplicit => true | _ => false
noncomputable def noCall0 : PE → Bool
  | .call _ _ .nil _ => false
  | _ => true
noncomputable def isFlagTab : PE → Bool
  | .nm x _ => Nat.beq x 1
  | _ => false
noncomputable def asInt : Option D → Option (Option Int)
  | some (.int i) => some (some i)
  | _ => none
noncomputable def evPO (f : PE → Option D) : PO → Option (Option Int)
  | .none => some none
  | .some e => asInt (f e)
noncomputable def iterE (f : PE → Option D) (nk : NK) : PE → Option (List D × Nat)
  | .call g gp args p => match isGlob nk g with
    | false => none
    | true => match Nat.beq g 38, args with
      | true, .cons e .nil => (match f e with | some (.lst l) => some (enumD 0 l, 1) | some (.tup l) => some (enumD 0 l, 1) | _ => none)
      | true, _ => none
      | false, _ => match Nat.beq g 118, args with
        | true, .cons e (.cons e' .nil) => (match f e, f e' with | some (.lst l), some (.lst l') => some (zipD l l', 1) | _, _ => none)
        | true, _ => none
        | false, _ => (match f (.call g gp args p) with | some d => (match itemsOf d with | some ds => some (ds, 0) | none => none) | none => none)
  | e => match f e with | some d => (match itemsOf d with | some ds => some (ds, 0) | none => none) | none => none
noncomputable def addF : D → D → Option D
  | .int a, .int b => some (.int (a + b))
  | .str a, .str b => match Nat.ble (a.length + b.length) 1000000 with | true => some (.str (a ++ b)) | false => none
  | .lst a, .lst b => match Nat.ble (a.length + b.length) 1000000 with | true => some (.lst (a ++ b)) | false => none
  | _, _ => none
noncomputable def subF : D → D → Option D
  | .int a, .int b => some (.int (a - b))
  | _, _ => none
noncomputable def binopF (op : Operator) (a b : D) : Option D :=
  match op with
  | .Add => addF a b
  | .Sub => subF a b
  | op => binop op a b
noncomputable def eqF (a b : D) : Option Bool :=
  match a with
  | .int i => (match b with | .int j => some (decide (i = j)) | _ => cmpop .Eq a b)
  | _ => cmpop .Eq a b
noncomputable def cmpopF (op : CmpOp) (a b : D) : Option Bool :=
  match op with
  | .Eq => eqF a b
  | op => cmpop op a b
noncomputable abbrev Ev := Bool → PE → Option D
noncomputable abbrev Evs := NK → Rho → Bool → PE → Option D
noncomputable def bin2 (f : Ev) (l : PE) (op : Operator) (r : PE) : Option D :=
  match f false l with | none => none | some a => match f false r with | none => none | some b => binopF op a b
noncomputable def cmp2 (f : Ev) (l : PE) (op : CmpOp) (r : PE) : Option D :=
  match f false l with | none => none | some a => match f false r with | none => none | some b => match cmpopF op a b with | some c => some (.bool c) | none => none
noncomputable def and2 (f : Ev) (a b : PE) : Option D := match f true a with | some (.bool true) => f true b | some (.bool false) => some (.bool false) | _ => none
noncomputable def or2 (f : Ev) (a b : PE) : Option D := match f true a with | some (.bool true) => some (.bool true) | some (.bool false) => f true b | _ => none
noncomputable def not1 (f : Ev) (a : PE) : Option D := match f true a with | some (.bool c) => some (.bool (!c)) | _ => none
noncomputable def tru1 (f : Ev) (e : PE) : Option D := match f false e with | none => none | some d => match truthD d with | some c => some (.bool c) | none => none
noncomputable def ite3 (f : Ev) (t a b : PE) : Option D := match f true t with | some (.bool true) => f false a | some (.bool false) => f false b | _ => none
noncomputable def neg1 (f : Ev) (a : PE) : Option D := match f false a with | some (.int i) => some (.int (-i)) | _ => none
noncomputable def lstN (f : Ev) (es : PEs) : Option D := match mapE (f false) es with | some ds => if decide (ds.length ≤ lim) then some (.lst ds) else none | none => none
noncomputable def tupN (f : Ev) (es : PEs) : Option D := match mapE (f false) es with | some ds => if decide (ds.length ≤ lim) then some (.tup ds) else none | none => none
noncomputable def sub2 (f : Ev) (v i : PE) : Option D := match f false v with | none => none | some a => match f false i with | none => none | some b => idxop a b
noncomputable def slc4 (f : Ev) (v : PE) (lo up st : PO) : Option D :=
  match f false v, evPO (f false) lo, evPO (f false) up, evPO (f false) st with | some a, some l, some u, some t => slop a l u t | _, _, _, _ => none
noncomputable def callN (f : Ev) (o : Orc) (nk : NK) (g : Nat) (args : PEs) : Option D :=
  match isGlob nk g with
  | false => none
  | true => match mapE (f false) args with
    | none => none
    | some ds => match biAt biTab g with | some b => biop b ds | none => (match isMeth g with | true => none | false => o g ds)
noncomputable def methN (f : Ev) (o : Orc) (nk : NK) (ob : PE) (m : Nat) (ap : Pos) (args : PEs) (p : Pos) : Option D :=
  match ap.endLine == p.line && noCall0 ob with
  | false => none
  | true => match mapE (f false) args with
    | none => none
    | some ds => match isFlagTab ob with
      | true => if isGlob nk 1 && Nat.beq m 48 then getop ds else none
      | false => (match f false ob with | none => none | some a => methop o m a ds)
noncomputable def isNm : PE → Bool
  | .nm .. => true
  | _ => false
noncomputable def attr1 (f : Ev) (ob : PE) (m : Nat) : Option D := match isNm ob with | false => none | true => (match f false ob with | none => none | some a => attrop a m)
noncomputable def condE (f : Ev) (elt : PE) (c : PEs) : Option (Option D) :=
  match c with
  | .nil => (match f false elt with | some r => some (some r) | none => none)
  | .cons e .nil => (match f true e with
    | some (.bool true) => (match f false elt with | some r => some (some r) | none => none)
    | some (.bool false) => some none
    | _ => none)
  | _ => none
noncomputable def turnE (g : Evs) (names : NK) (ρ0 : Rho) (md : Nat) (t : Tg) (c : PEs) (elt : PE) (d : D) : Option (Option D) :=
  match okTb md t d with
  | false => none
  | true => match bindT t d ρ0 with
    | none => none
    | some ρ' => condE (g names ρ') elt c
noncomputable def compN (g : Evs) (nk : NK) (ρ : Rho) (elt : PE) (t : Tg) (iter : PE) (c : PEs) (names : NK) : Option D :=
  match compOk nk names && tgSet names t with
  | false => none
  | true => match iterE (g nk ρ false) nk iter with
    | none => none
    | some (ds, md) => match decide (ds.length ≤ lim) with
      | false => none
      | true => match turnL (turnE g names (freeRho names ρ) md t c elt) ds with
        | some rs => some (.lst rs)
        | none => none
noncomputable def evT (f : Ev) : PE → Option D
  | .cmp l op r _ => cmp2 f l op r
  | .band a b _ => and2 f a b
  | .bor a b _ => or2 f a b
  | .unot a _ => not1 f a
  | .ite .. => none
  | e => tru1 f e
noncomputable def evF (g : Evs) (o : Orc) (nk : NK) (ρ : Rho) : PE → Option D
  | .int i _ _ => some (.int i)
  | .str l _ _ => if plainS l then some (.str l) else none
  | .bool b _ _ => some (.bool b)
  | .nm x _ => getR ρ x
  | .bin l op r _ => bin2 (g nk ρ) l op r
  | .cmp l op r _ => cmp2 (g nk ρ) l op r
  | .ite t a b _ => ite3 (g nk ρ) t a b
  | .neg a _ => neg1 (g nk ρ) a
  | .lst es _ => lstN (g nk ρ) es
  | .tup es _ _ => tupN (g nk ρ) es
  | .sub v i _ => sub2 (g nk ρ) v i
  | .slc v lo up st _ _ => slc4 (g nk ρ) v lo up st
  | .call f _ args _ => callN (g nk ρ) o nk f args
  | .meth ob m ap args p => methN (g nk ρ) o nk ob m ap args p
  | .attr ob m _ => attr1 (g nk ρ) ob m
  | .comp elt t iter c names _ => compN g nk ρ elt t iter c names
  | .band .. => none
  | .bor .. => none
  | .unot .. => none
/-- false: the value; true: the truth -/
noncomputable def ev : Nat → Orc → Evs
  | 0, _, _, _, _, _ => none
  | n + 1, o, nk, ρ, b, e => match b with
    | true => evT (ev n o nk ρ) e
    | false => evF (ev n o) o nk ρ e
mutual
inductive PS where
  | asg (x : Nat) (xp : Pos) (e : PE) (p : Pos)
  | own (x : Nat) (xp : Pos) (e : PE) (p : Pos)
  | asgT (t : Tg) (e : PE) (p : Pos)
  | setI (x : Nat) (xp : Pos) (i : PE) (sp : Pos) (e : PE) (p : Pos)
  | aug (x : Nat) (xp : Pos) (op : Operator) (e : PE) (p : Pos)
  | ifS (t : PE) (a b : PSs) (p : Pos)
  | forS (t : Tg) (iter : PE) (a b : PSs) (p : Pos)
  | whl (t : PE) (a : PSs) (p : Pos)
  | ret (e : PE) (p : Pos)
  | brk (p : Pos)
  | app (x : Nat) (xp ap cp : Pos) (e : PE) (p : Pos)
  | pop (x : Nat) (xp ap cp : Pos) (p : Pos)
  | rse (e : PE) (p : Pos)
inductive PSs where
  | nil
  | cons (s : PS) (r : PSs)
end
mutual
noncomputable def PS.toS : PS → Stmt
  | .asg x xp e p => .Assign [.Name (nm x) xp] e.toE p
  | .own x xp e p => .Assign [.Name (nm x) xp] e.toE p
  | .asgT t e p => .Assign [t.toE] e.toE p
  | .setI x xp i sp e p => .Assign [.Subscript (.Name (nm x) xp) i.toE sp] e.toE p
  | .aug x xp op e p => .AugAssign (.Name (nm x) xp) op e.toE p
  | .ifS t a b p => .If t.toE a.toL b.toL p
  | .forS t iter a b p => .For t.toE iter.toE a.toL b.toL p
  | .whl t a p => .While t.toE a.toL [] p
  | .ret e p => .Return (some e.toE) p
  | .brk p => .Break p
  | .app x xp ap cp e p => .Expr (.Call (.Attribute (.Name (nm x) xp) (nm 23) ap) [e.toE] [] cp) p
  | .pop x xp ap cp p => .Expr (.Call (.Attribute (.Name (nm x) xp) (nm 81) ap) [] [] cp) p
  | .rse e p => .Raise (some e.toE) none p
noncomputable def PSs.toL : PSs → List Stmt
  | .nil => []
  | .cons s r => s.toS :: r.toL
end
inductive Fl where
  | next
  | brk
  | ret (d : D)
noncomputable abbrev Ow := Option (Nat × List D)
noncomputable def withOw (ρ : Rho) : Ow → Rho
  | none => ρ
  | some (x, l) => (x, .lst l) :: ρ
noncomputable def noLst : Nat → D → Bool
  | _, .bool _ => true
  | _, .int _ => true
  | _, .str _ => true
  | _, .rng _ _ => true
  | n + 1, .tup l => l.all (noLst n)
  | _, _ => false
/-- a value that may be kept beside what is owned -/
noncomputable def keepOk (w : Ow) (d : D) : Bool := match w with | none => true | some _ => noLst 4 d
noncomputable def notOw (w : Ow) (x : Nat) : Bool := match w with | none => true | some (y, _) => !Nat.beq y x
noncomputable def isOw (w : Ow) (x : Nat) : Bool := match w with | none => false | some (y, _) => Nat.beq y x
noncomputable def augop : Operator → D → D → Option D
  | .BitXor, .int a, .int b => some (.int (Builtin.bitXor a b))
  | _, _, _ => none
noncomputable def setL : List D → Nat → D → Option (List D)
  | [], _, _ => none
  | _ :: l, 0, d => some (d :: l)
  | x :: l, n + 1, d => match setL l n d with | some l' => some (x :: l') | none => none
noncomputable def notNames (w : Ow) : List Nat → Bool
  | [] => true
  | x :: r => notOw w x && notNames w r
noncomputable abbrev Res := Rho × Ow × Fl
noncomputable def exL (f : PS → Rho → Ow → Option Res) : PSs → Rho → Ow → Option Res
  | .nil, ρ, w => some (ρ, w, .next)
  | .cons s r, ρ, w => match f s ρ w with
    | some (ρ', w', .next) => exL f r ρ' w'
    | other => other
noncomputable def forL (b : D → Rho → Ow → Option Res) (fin : Rho → Ow → Option Res) : List D → Rho → Ow → Option Res
  | [], ρ, w => fin ρ w
  | d :: ds, ρ, w => match b d ρ w with
    | some (ρ', w', .next) => forL b fin ds ρ' w'
    | some (ρ', w', .brk) => some (ρ', w', .next)
    | other => other
noncomputable def whlL (t : Rho → Ow → Option D) (b : Rho → Ow → Option Res) : Nat → Rho → Ow → Option Res
  | 0, _, _ => none
  | n + 1, ρ, w => match t ρ w with
    | some (.bool false) => some (ρ, w, .next)
    | some (.bool true) => (match b ρ w with
      | some (ρ', w', .next) => whlL t b n ρ' w'
      | some (ρ', w', .brk) => some (ρ', w', .next)
      | other => other)
    | _ => none
noncomputable def isDisp : PE → Bool
  | .lst .. => true
  | _ => false
noncomputable def isGrow (x : Nat) : PE → Bool
  | .bin (.nm y _) .Add _ _ => Nat.beq y x
  | _ => false
noncomputable def isComp : PE → Bool
  | .comp .. => true
  | _ => false
noncomputable def sAsg (f : Ev) (nk : NK) (x : Nat) (e : PE) (ρ : Rho) (w : Ow) : Option Res :=
  match f false e with
  | none => none
  | some d => match keepOk w d && notOw w x && setOk nk x && (match w with | none => true | some _ => !isComp e) with
    | true => some ((x, d) :: ρ, w, .next)
    | false => none
noncomputable def notIn (ρ : Rho) (x : Nat) : Bool := match getR ρ x with | none => true | some _ => false
noncomputable def sOwn (f : Ev) (nk : NK) (x : Nat) (e : PE) (ρ : Rho) (w : Ow) : Option Res :=
  match f false e with
  | some (.lst l) => (match (isDisp e && (match w with | none => true | some (y, _) => Nat.beq y x) || isGrow x e && isOw w x) && setOk nk x && notIn ρ x with
    | true => some (ρ, some (x, l), .next)
    | false => none)
  | _ => none
noncomputable def notTupD : PE → Bool
  | .tup .. => false
  | .comp .. => false
  | _ => true
noncomputable def isMany : Tg → Bool
  | .many .. => true
  | .one .. => false
noncomputable def sAsgT (f : Ev) (nk : NK) (t : Tg) (e : PE) (ρ : Rho) (w : Ow) : Option Res :=
  match f false e with
  | none => none
  | some d => match keepOk w d && notNames w (tgNames t) && tgSet nk t && notTupD e && isMany t with
    | true => (match bindT t d ρ with | some ρ' => some (ρ', w, .next) | none => none)
    | false => none
noncomputable def sSetI (f : Ev) (x : Nat) (i e : PE) (ρ : Rho) (w : Ow) : Option Res :=
  match f false e, f false i, w with
  | some d, some (.int k), some (y, l) => (match Nat.beq y x && noLst 4 d && decide (l.length ≤ lim) && decide (0 ≤ k) with
    | true => (match setL l k.toNat d with | some l' => some (ρ, some (y, l'), .next) | none => none)
    | false => none)
  | _, _, _ => none
noncomputable def sAug (f : Ev) (nk : NK) (x : Nat) (op : Operator) (e : PE) (ρ : Rho) (w : Ow) : Option Res :=
  match getR ρ x, f false e with
  | some a, some b => (match augop op a b with
    | some d => (match notOw w x && setOk nk x with | true => some ((x, d) :: ρ, w, .next) | false => none)
    | none => none)
  | _, _ => none
noncomputable abbrev Xs := PS → Rho → Ow → Option Res
noncomputable def sIf (f : Ev) (k : Xs) (t : PE) (a b : PSs) (ρ : Rho) (w : Ow) : Option Res :=
  match f true t with
  | some (.bool true) => exL k a ρ w
  | some (.bool false) => exL k b ρ w
  | _ => none
/-- nothing is owned after, where nothing was before -/
noncomputable def sameOw (w : Ow) (r : Option Res) : Option Res := match w with
  | some _ => r
  | none => match r with | some (_, some _, _) => none | r => r
noncomputable def sTurn (k : Xs) (md : Nat) (t : Tg) (a : PSs) (d : D) (ρ : Rho) (w : Ow) : Option Res :=
  match okTb md t d && keepOk w d && notNames w (tgNames t) with
  | false => none
  | true => match bindT t d ρ with
    | none => none
    | some ρ' => sameOw w (exL k a ρ' w)
noncomputable def iterV (f : Ev) (iter : PE) : Option (List D × Nat) :=
  match f false iter with
  | some d => if noLst 4 d then (match itemsOf d with | some ds => some (ds, 0) | none => none) else none
  | none => none
noncomputable def sFor (f : Ev) (k : Xs) (nk : NK) (t : Tg) (iter : PE) (a b : PSs) (ρ : Rho) (w : Ow) : Option Res :=
  match (match w with | none => iterE (f false) nk iter | some _ => iterV f iter) with
  | some (ds, md) => (match tgSet nk t && notNames w (tgNames t) with
    | true => forL (sTurn k md t a) (exL k b) ds ρ w
    | false => none)
  | none => none
noncomputable def sRet (f : Ev) (e : PE) (ρ : Rho) (w : Ow) : Option Res := match f false e with | some d => some (ρ, w, .ret d) | none => none
noncomputable def sApp (f : Ev) (x : Nat) (ap cp : Pos) (e : PE) (ρ : Rho) (w : Ow) : Option Res :=
  match f false e, w with
  | some d, some (y, l) => (match Nat.beq y x && noLst 4 d && decide (l.length ≤ lim) && ap.endLine == cp.line with
    | true => some (ρ, some (y, l ++ [d]), .next)
    | false => none)
  | _, _ => none
noncomputable def sPop (x : Nat) (ap cp : Pos) (ρ : Rho) (w : Ow) : Option Res :=
  match w with
  | some (y, l) => (match Nat.beq y x && decide (l.length ≤ lim) && decide (1 ≤ l.length) && ap.endLine == cp.line with
    | true => some (ρ, some (y, l.dropLast), .next)
    | false => none)
  | _ => none
/-- how deep an expression may be -/
noncomputable def deepE : Nat := 30
noncomputable def exS (g : Evs) (k : Xs) (nk : NK) (s : PS) (ρ : Rho) (w : Ow) : Option Res :=
  match s with
  | .asg x _ e _ => sAsg (g nk (withOw ρ w)) nk x e ρ w
  | .own x _ e _ => sOwn (g nk (withOw ρ w)) nk x e ρ w
  | .asgT t e _ => sAsgT (g nk (withOw ρ w)) nk t e ρ w
  | .setI x _ i _ e _ => sSetI (g nk (withOw ρ w)) x i e ρ w
  | .aug x _ op e _ => sAug (g nk (withOw ρ w)) nk x op e ρ w
  | .ifS t a b _ => sIf (g nk (withOw ρ w)) k t a b ρ w
  | .forS t iter a b _ => sFor (g nk (withOw ρ w)) k nk t iter a b ρ w
  | .whl t a _ => whlL (fun ρ w => g nk (withOw ρ w) true t) (exL k a) 1000 ρ w
  | .ret e _ => sRet (g nk (withOw ρ w)) e ρ w
  | .brk _ => some (ρ, w, .brk)
  | .app x _ ap cp e _ => sApp (g nk (withOw ρ w)) x ap cp e ρ w
  | .pop x _ ap cp _ => sPop x ap cp ρ w
  | .rse .. => none
noncomputable def ex : Nat → Orc → NK → Xs
  | 0, _, _, _, _, _ => none
  | n + 1, o, nk, s, ρ, w => exS (ev deepE o) (ex n o nk) nk s ρ w
end Mine

namespace Mine
/-! the bodies -/
noncomputable def b_initfor : PSs := (.cons (.ifS (.cmp (.nm 28 ⟨14, 15, 14, 17⟩) .Eq (.nm 4 ⟨14, 21, 14, 22⟩) ⟨14, 15, 14, 22⟩) (.cons (.asg 66 ⟨15, 16, 15, 17⟩ (.bin (.nm 66 ⟨15, 20, 15, 21⟩) .Add (.int 1 0 ⟨15, 24, 15, 25⟩) ⟨15, 20, 15, 25⟩) ⟨15, 16, 15, 25⟩) (.cons (.asg 24 ⟨16, 16, 16, 17⟩ (.bin (.nm 24 ⟨16, 20, 16, 21⟩) .Add (.int 1 0 ⟨16, 24, 16, 25⟩) ⟨16, 20, 16, 25⟩) ⟨16, 16, 16, 25⟩) .nil)) (.cons (.ifS (.cmp (.nm 28 ⟨17, 17, 17, 19⟩) .Eq (.nm 5 ⟨17, 23, 17, 24⟩) ⟨17, 17, 17, 24⟩) (.cons (.asg 66 ⟨18, 16, 18, 17⟩ (.bin (.nm 66 ⟨18, 20, 18, 21⟩) .Add (.int 1 0 ⟨18, 24, 18, 25⟩) ⟨18, 20, 18, 25⟩) ⟨18, 16, 18, 25⟩) (.cons (.asg 72 ⟨19, 16, 19, 18⟩ (.bin (.nm 72 ⟨19, 21, 19, 23⟩) .Add (.int 1 0 ⟨19, 26, 19, 27⟩) ⟨19, 21, 19, 27⟩) ⟨19, 16, 19, 27⟩) (.cons (.ifS (.cmp (.nm 24 ⟨20, 19, 20, 20⟩) .GtE (.call 61 ⟨20, 24, 20, 27⟩ (.cons (.nm 32 ⟨20, 28, 20, 33⟩) .nil) ⟨20, 24, 20, 34⟩) ⟨20, 19, 20, 34⟩) (.cons (.own 32 ⟨21, 20, 21, 25⟩ (.bin (.nm 32 ⟨21, 28, 21, 33⟩) .Add (.bin (.lst (.cons (.int 0 0 ⟨21, 37, 21, 38⟩) .nil) ⟨21, 36, 21, 39⟩) .Mult (.bin (.bin (.nm 24 ⟨21, 43, 21, 44⟩) .Sub (.call 61 ⟨21, 47, 21, 50⟩ (.cons (.nm 32 ⟨21, 51, 21, 56⟩) .nil) ⟨21, 47, 21, 57⟩) ⟨21, 43, 21, 57⟩) .Add (.int 1 0 ⟨21, 60, 21, 61⟩) ⟨21, 43, 21, 61⟩) ⟨21, 36, 21, 62⟩) ⟨21, 28, 21, 62⟩) ⟨21, 20, 21, 62⟩) .nil) .nil ⟨20, 16, 21, 62⟩) (.cons (.setI 32 ⟨22, 16, 22, 21⟩ (.nm 24 ⟨22, 22, 22, 23⟩) ⟨22, 16, 22, 24⟩ (.bin (.sub (.nm 32 ⟨22, 27, 22, 32⟩) (.nm 24 ⟨22, 33, 22, 34⟩) ⟨22, 27, 22, 35⟩) .Add (.int 1 0 ⟨22, 38, 22, 39⟩) ⟨22, 27, 22, 39⟩) ⟨22, 16, 22, 39⟩) (.cons (.asg 24 ⟨23, 16, 23, 17⟩ (.int 0 0 ⟨23, 20, 23, 21⟩) ⟨23, 16, 23, 21⟩) .nil))))) (.cons (.brk ⟨25, 16, 25, 21⟩) .nil) ⟨17, 12, 25, 21⟩) .nil) ⟨14, 12, 25, 21⟩) .nil)
noncomputable def n_init : NK := [(92, .local), (116, .local), (4, .local), (5, .local), (32, .local), (24, .local), (66, .local), (72, .local), (28, .local), (6, .globalImplicit), (61, .globalImplicit), (109, .globalImplicit)]
noncomputable def b_longest_run_of_spaces : PSs := (.cons (.asgT (.many [(32, ⟨32, 8, 32, 13⟩), (107, ⟨32, 15, 32, 23⟩)] 0 ⟨32, 8, 32, 23⟩) (.attr (.nm 92 ⟨32, 26, 32, 30⟩) 69 ⟨32, 26, 32, 35⟩) ⟨32, 8, 32, 35⟩) (.cons (.ret (.call 64 ⟨33, 15, 33, 18⟩ (.cons (.bin (.call 61 ⟨33, 19, 33, 22⟩ (.cons (.nm 32 ⟨33, 23, 33, 28⟩) .nil) ⟨33, 19, 33, 29⟩) .Sub (.int 1 0 ⟨33, 32, 33, 33⟩) ⟨33, 19, 33, 33⟩) (.cons (.nm 107 ⟨33, 35, 33, 43⟩) .nil)) ⟨33, 15, 33, 44⟩) ⟨33, 8, 33, 44⟩) .nil))
noncomputable def n_longest_run_of_spaces : NK := [(92, .local), (32, .local), (107, .local), (64, .globalImplicit), (61, .globalImplicit)]
noncomputable def p_longest_run_of_spaces : List Nat := [92]
noncomputable def b_indent_level : PSs := (.cons (.asgT (.many [(32, ⟨36, 8, 36, 13⟩), (107, ⟨36, 15, 36, 23⟩)] 0 ⟨36, 8, 36, 23⟩) (.attr (.nm 92 ⟨36, 26, 36, 30⟩) 69 ⟨36, 26, 36, 35⟩) ⟨36, 8, 36, 35⟩) (.cons (.asg 52 ⟨37, 8, 37, 10⟩ (.int 0 0 ⟨37, 13, 37, 14⟩) ⟨37, 8, 37, 14⟩) (.cons (.forS (.one 51 ⟨38, 12, 38, 13⟩) (.call 83 ⟨38, 17, 38, 22⟩ (.cons (.nm 101 ⟨38, 23, 38, 30⟩) (.cons (.call 61 ⟨38, 32, 38, 35⟩ (.cons (.nm 32 ⟨38, 36, 38, 41⟩) .nil) ⟨38, 32, 38, 42⟩) .nil)) ⟨38, 17, 38, 43⟩) (.cons (.asg 52 ⟨39, 12, 39, 14⟩ (.bin (.nm 52 ⟨39, 17, 39, 19⟩) .Add (.bin (.bin (.nm 51 ⟨39, 22, 39, 23⟩) .FloorDiv (.nm 101 ⟨39, 27, 39, 34⟩) ⟨39, 22, 39, 34⟩) .Mult (.sub (.nm 32 ⟨39, 37, 39, 42⟩) (.nm 51 ⟨39, 43, 39, 44⟩) ⟨39, 37, 39, 45⟩) ⟨39, 22, 39, 45⟩) ⟨39, 17, 39, 45⟩) ⟨39, 12, 39, 45⟩) .nil) .nil ⟨38, 8, 39, 45⟩) (.cons (.ret (.bin (.nm 107 ⟨40, 15, 40, 23⟩) .Add (.bin (.nm 101 ⟨40, 26, 40, 33⟩) .Mult (.bin (.nm 52 ⟨40, 37, 40, 39⟩) .Add (.attr (.nm 92 ⟨40, 42, 40, 46⟩) 72 ⟨40, 42, 40, 49⟩) ⟨40, 37, 40, 49⟩) ⟨40, 26, 40, 50⟩) ⟨40, 15, 40, 50⟩) ⟨40, 8, 40, 50⟩) .nil))))
noncomputable def n_indent_level : NK := [(92, .local), (101, .local), (32, .local), (107, .local), (52, .local), (51, .local), (83, .globalImplicit), (61, .globalImplicit)]
noncomputable def p_indent_level : List Nat := [92, 101]
noncomputable def b_equal : PSs := (.cons (.ret (.cmp (.attr (.nm 92 ⟨43, 15, 43, 19⟩) 69 ⟨43, 15, 43, 24⟩) .Eq (.attr (.nm 75 ⟨43, 28, 43, 33⟩) 69 ⟨43, 28, 43, 38⟩) ⟨43, 15, 43, 38⟩) ⟨43, 8, 43, 38⟩) .nil)
noncomputable def n_equal : NK := [(92, .local), (75, .local)]
noncomputable def p_equal : List Nat := [92, 75]
noncomputable def b_not_equal_witness : PSs := (.cons (.asg 66 ⟨46, 8, 46, 9⟩ (.bin (.call 64 ⟨46, 12, 46, 15⟩ (.cons (.meth (.nm 92 ⟨46, 16, 46, 20⟩) 63 ⟨46, 16, 46, 42⟩ .nil ⟨46, 16, 46, 44⟩) (.cons (.meth (.nm 75 ⟨46, 46, 46, 51⟩) 63 ⟨46, 46, 46, 73⟩ .nil ⟨46, 46, 46, 75⟩) .nil)) ⟨46, 12, 46, 76⟩) .Add (.int 1 0 ⟨46, 79, 46, 80⟩) ⟨46, 12, 46, 80⟩) ⟨46, 8, 46, 80⟩) (.cons (.own 20 ⟨47, 8, 47, 9⟩ (.lst .nil ⟨47, 12, 47, 14⟩) ⟨47, 8, 47, 14⟩) (.cons (.forS (.one 108 ⟨48, 12, 48, 14⟩) (.call 83 ⟨48, 18, 48, 23⟩ (.cons (.int 1 0 ⟨48, 24, 48, 25⟩) (.cons (.bin (.nm 66 ⟨48, 27, 48, 28⟩) .Add (.int 1 0 ⟨48, 31, 48, 32⟩) ⟨48, 27, 48, 32⟩) .nil)) ⟨48, 18, 48, 33⟩) (.cons (.ifS (.cmp (.meth (.nm 92 ⟨49, 15, 49, 19⟩) 53 ⟨49, 15, 49, 32⟩ (.cons (.nm 108 ⟨49, 33, 49, 35⟩) .nil) ⟨49, 15, 49, 36⟩) .NotEq (.meth (.nm 75 ⟨49, 40, 49, 45⟩) 53 ⟨49, 40, 49, 58⟩ (.cons (.nm 108 ⟨49, 59, 49, 61⟩) .nil) ⟨49, 40, 49, 62⟩) ⟨49, 15, 49, 62⟩) (.cons (.app 20 ⟨50, 16, 50, 17⟩ ⟨50, 16, 50, 24⟩ ⟨50, 16, 50, 77⟩ (.tup (.cons (.nm 108 ⟨50, 26, 50, 28⟩) (.cons (.meth (.nm 92 ⟨50, 30, 50, 34⟩) 53 ⟨50, 30, 50, 47⟩ (.cons (.nm 108 ⟨50, 48, 50, 50⟩) .nil) ⟨50, 30, 50, 51⟩) (.cons (.meth (.nm 75 ⟨50, 53, 50, 58⟩) 53 ⟨50, 53, 50, 71⟩ (.cons (.nm 108 ⟨50, 72, 50, 74⟩) .nil) ⟨50, 53, 50, 75⟩) .nil))) 0 ⟨50, 25, 50, 76⟩) ⟨50, 16, 50, 77⟩) .nil) .nil ⟨49, 12, 50, 77⟩) .nil) .nil ⟨48, 8, 50, 77⟩) (.cons (.ret (.nm 20 ⟨51, 15, 51, 16⟩) ⟨51, 8, 51, 16⟩) .nil))))
noncomputable def n_not_equal_witness : NK := [(92, .local), (75, .local), (66, .local), (20, .local), (108, .local), (64, .globalImplicit), (83, .globalImplicit)]
noncomputable def p_not_equal_witness : List Nat := [92, 75]
noncomputable def b_pretty_flags : PSs := (.cons (.own 68 ⟨61, 4, 61, 9⟩ (.lst .nil ⟨61, 12, 61, 14⟩) ⟨61, 4, 61, 14⟩) (.cons (.forS (.one 51 ⟨62, 8, 62, 9⟩) (.call 83 ⟨62, 13, 62, 18⟩ (.cons (.int 32 0 ⟨62, 19, 62, 21⟩) .nil) ⟨62, 13, 62, 22⟩) (.cons (.asg 43 ⟨63, 8, 63, 12⟩ (.bin (.int 1 0 ⟨63, 15, 63, 16⟩) .LShift (.nm 51 ⟨63, 20, 63, 21⟩) ⟨63, 15, 63, 21⟩) ⟨63, 8, 63, 21⟩) (.cons (.ifS (.bin (.nm 44 ⟨64, 11, 64, 16⟩) .BitAnd (.nm 43 ⟨64, 19, 64, 23⟩) ⟨64, 11, 64, 23⟩) (.cons (.app 68 ⟨65, 12, 65, 17⟩ ⟨65, 12, 65, 24⟩ ⟨65, 12, 65, 66⟩ (.meth (.nm 1 ⟨65, 25, 65, 44⟩) 48 ⟨65, 25, 65, 48⟩ (.cons (.nm 43 ⟨65, 49, 65, 53⟩) (.cons (.call 50 ⟨65, 55, 65, 58⟩ (.cons (.nm 43 ⟨65, 59, 65, 63⟩) .nil) ⟨65, 55, 65, 64⟩) .nil)) ⟨65, 25, 65, 65⟩) ⟨65, 12, 65, 66⟩) (.cons (.aug 44 ⟨66, 12, 66, 17⟩ .BitXor (.nm 43 ⟨66, 21, 66, 25⟩) ⟨66, 12, 66, 25⟩) (.cons (.ifS (.unot (.nm 44 ⟨67, 19, 67, 24⟩) ⟨67, 15, 67, 24⟩) (.cons (.brk ⟨68, 16, 68, 21⟩) .nil) .nil ⟨67, 12, 68, 21⟩) .nil))) .nil ⟨64, 8, 68, 21⟩) .nil)) (.cons (.app 68 ⟨70, 8, 70, 13⟩ ⟨70, 8, 70, 20⟩ ⟨70, 8, 70, 32⟩ (.call 50 ⟨70, 21, 70, 24⟩ (.cons (.nm 44 ⟨70, 25, 70, 30⟩) .nil) ⟨70, 21, 70, 31⟩) ⟨70, 8, 70, 32⟩) .nil) ⟨62, 4, 70, 32⟩) (.cons (.ret (.meth (.str [44, 32] 0 ⟨71, 11, 71, 15⟩) 56 ⟨71, 11, 71, 20⟩ (.cons (.nm 68 ⟨71, 21, 71, 26⟩) .nil) ⟨71, 11, 71, 27⟩) ⟨71, 4, 71, 27⟩) .nil)))
noncomputable def n_pretty_flags : NK := [(44, .local), (68, .local), (51, .local), (43, .local), (83, .globalImplicit), (1, .globalImplicit), (50, .globalImplicit)]
noncomputable def p_pretty_flags : List Nat := [44]
noncomputable def b_parse257 : PSs := (.cons (.ifS (.cmp (.slc (.nm 85 ⟨78, 7, 78, 11⟩) .none (.some (.int 3 0 ⟨78, 13, 78, 14⟩)) .none ⟨78, 12, 78, 14⟩ ⟨78, 7, 78, 15⟩) .NotEq (.str [50, 53, 55] 0 ⟨78, 19, 78, 24⟩) ⟨78, 7, 78, 24⟩) (.cons (.rse (.call 40 ⟨79, 14, 79, 25⟩ (.cons (.nm 85 ⟨79, 26, 79, 30⟩) .nil) ⟨79, 14, 79, 31⟩) ⟨79, 8, 79, 31⟩) .nil) .nil ⟨78, 4, 79, 31⟩) (.cons (.ifS (.cmp (.slc (.nm 85 ⟨80, 7, 80, 11⟩) (.some (.int 3 0 ⟨80, 12, 80, 13⟩)) (.some (.int 5 0 ⟨80, 14, 80, 15⟩)) .none ⟨80, 12, 80, 15⟩ ⟨80, 7, 80, 16⟩) .NotEq (.str [32, 34] 0 ⟨80, 20, 80, 24⟩) ⟨80, 7, 80, 24⟩) (.cons (.ret (.str [] 0 ⟨81, 15, 81, 17⟩) ⟨81, 8, 81, 17⟩) .nil) .nil ⟨80, 4, 81, 17⟩) (.cons (.asg 35 ⟨82, 4, 82, 11⟩ (.str [] 0 ⟨82, 14, 82, 16⟩) ⟨82, 4, 82, 16⟩) (.cons (.asg 51 ⟨83, 4, 83, 5⟩ (.int 5 0 ⟨83, 8, 83, 9⟩) ⟨83, 4, 83, 9⟩) (.cons (.asg 66 ⟨84, 4, 84, 5⟩ (.call 61 ⟨84, 8, 84, 11⟩ (.cons (.nm 85 ⟨84, 12, 84, 16⟩) .nil) ⟨84, 8, 84, 17⟩) ⟨84, 4, 84, 17⟩) (.cons (.whl (.cmp (.nm 51 ⟨85, 10, 85, 11⟩) .Lt (.nm 66 ⟨85, 14, 85, 15⟩) ⟨85, 10, 85, 15⟩) (.cons (.asg 27 ⟨86, 8, 86, 9⟩ (.sub (.nm 85 ⟨86, 12, 86, 16⟩) (.nm 51 ⟨86, 17, 86, 18⟩) ⟨86, 12, 86, 19⟩) ⟨86, 8, 86, 19⟩) (.cons (.asg 51 ⟨87, 8, 87, 9⟩ (.bin (.nm 51 ⟨87, 12, 87, 13⟩) .Add (.int 1 0 ⟨87, 16, 87, 17⟩) ⟨87, 12, 87, 17⟩) ⟨87, 8, 87, 17⟩) (.cons (.ifS (.cmp (.nm 27 ⟨88, 11, 88, 12⟩) .Eq (.str [34] 0 ⟨88, 16, 88, 19⟩) ⟨88, 11, 88, 19⟩) (.cons (.ifS (.bor (.cmp (.nm 51 ⟨89, 15, 89, 16⟩) .GtE (.nm 66 ⟨89, 20, 89, 21⟩) ⟨89, 15, 89, 21⟩) (.cmp (.sub (.nm 85 ⟨89, 25, 89, 29⟩) (.nm 51 ⟨89, 30, 89, 31⟩) ⟨89, 25, 89, 32⟩) .NotEq (.str [34] 0 ⟨89, 36, 89, 39⟩) ⟨89, 25, 89, 39⟩) ⟨89, 15, 89, 39⟩) (.cons (.brk ⟨90, 16, 90, 21⟩) .nil) .nil ⟨89, 12, 90, 21⟩) (.cons (.asg 51 ⟨91, 12, 91, 13⟩ (.bin (.nm 51 ⟨91, 16, 91, 17⟩) .Add (.int 1 0 ⟨91, 20, 91, 21⟩) ⟨91, 16, 91, 21⟩) ⟨91, 12, 91, 21⟩) .nil)) .nil ⟨88, 8, 91, 21⟩) (.cons (.asg 35 ⟨92, 8, 92, 15⟩ (.bin (.nm 35 ⟨92, 18, 92, 25⟩) .Add (.nm 27 ⟨92, 28, 92, 29⟩) ⟨92, 18, 92, 29⟩) ⟨92, 8, 92, 29⟩) .nil)))) ⟨85, 4, 92, 29⟩) (.cons (.ret (.nm 35 ⟨93, 11, 93, 18⟩) ⟨93, 4, 93, 18⟩) .nil)))))))
noncomputable def n_parse257 : NK := [(85, .local), (35, .local), (51, .local), (66, .local), (27, .local), (40, .globalImplicit), (61, .globalImplicit)]
noncomputable def p_parse257 : List Nat := [85]
noncomputable def b_law_names : PSs := (.cons (.ret (.lst (.cons (.str [79, 80, 84, 73, 77, 73, 90, 69, 68] 0 ⟨96, 12, 96, 23⟩) (.cons (.str [78, 69, 87, 76, 79, 67, 65, 76, 83] 0 ⟨96, 25, 96, 36⟩) (.cons (.str [86, 65, 82, 65, 82, 71, 83] 0 ⟨96, 38, 96, 47⟩) (.cons (.str [86, 65, 82, 75, 69, 89, 87, 79, 82, 68, 83] 0 ⟨96, 49, 96, 62⟩) (.cons (.str [78, 69, 83, 84, 69, 68] 0 ⟨96, 64, 96, 72⟩) (.cons (.str [71, 69, 78, 69, 82, 65, 84, 79, 82] 0 ⟨96, 74, 96, 85⟩) (.cons (.str [78, 79, 70, 82, 69, 69] 0 ⟨96, 87, 96, 95⟩) (.cons (.str [67, 79, 82, 79, 85, 84, 73, 78, 69] 0 ⟨96, 97, 96, 108⟩) (.cons (.str [73, 84, 69, 82, 65, 66, 76, 69, 95, 67, 79, 82, 79, 85, 84, 73, 78, 69] 0 ⟨96, 110, 96, 130⟩) (.cons (.str [65, 83, 89, 78, 67, 95, 71, 69, 78, 69, 82, 65, 84, 79, 82] 0 ⟨96, 132, 96, 149⟩) (.cons (.call 50 ⟨96, 151, 96, 154⟩ (.cons (.bin (.int 2 0 ⟨96, 155, 96, 156⟩) .Pow (.int 10 0 ⟨96, 160, 96, 162⟩) ⟨96, 155, 96, 162⟩) .nil) ⟨96, 151, 96, 163⟩) (.cons (.call 50 ⟨96, 165, 96, 168⟩ (.cons (.bin (.int 2 0 ⟨96, 169, 96, 170⟩) .Pow (.int 11 0 ⟨96, 174, 96, 176⟩) ⟨96, 169, 96, 176⟩) .nil) ⟨96, 165, 96, 177⟩) .nil)))))))))))) ⟨96, 11, 96, 178⟩) ⟨96, 4, 96, 178⟩) .nil)
noncomputable def n_law_names : NK := [(50, .globalImplicit)]
noncomputable def p_law_names : List Nat := []
noncomputable def b_law_read : PSs := (.cons (.asg 105 ⟨98, 4, 98, 9⟩ (.int 0 0 ⟨98, 12, 98, 13⟩) ⟨98, 4, 98, 13⟩) (.cons (.asg 67 ⟨99, 4, 99, 8⟩ (.call 77 ⟨99, 11, 99, 19⟩ (.cons (.bin (.bin (.str [50, 53, 55, 32, 34] 0 ⟨99, 20, 99, 27⟩) .Add (.bin (.str [34] 0 ⟨99, 30, 99, 33⟩) .Mult (.nm 73 ⟨99, 36, 99, 42⟩) ⟨99, 30, 99, 42⟩) ⟨99, 20, 99, 42⟩) .Add (.nm 94 ⟨99, 45, 99, 49⟩) ⟨99, 20, 99, 49⟩) .nil) ⟨99, 11, 99, 50⟩) ⟨99, 4, 99, 50⟩) (.cons (.whl (.band (.cmp (.nm 105 ⟨100, 10, 100, 15⟩) .Lt (.int 6 0 ⟨100, 18, 100, 19⟩) ⟨100, 10, 100, 19⟩) (.cmp (.slc (.nm 67 ⟨100, 24, 100, 28⟩) (.some (.neg (.int 1 0 ⟨100, 30, 100, 31⟩) ⟨100, 29, 100, 31⟩)) .none .none ⟨100, 29, 100, 32⟩ ⟨100, 24, 100, 33⟩) .Eq (.nm 94 ⟨100, 37, 100, 41⟩) ⟨100, 24, 100, 41⟩) ⟨100, 10, 100, 41⟩) (.cons (.asg 105 ⟨101, 8, 101, 13⟩ (.bin (.nm 105 ⟨101, 16, 101, 21⟩) .Add (.int 1 0 ⟨101, 24, 101, 25⟩) ⟨101, 16, 101, 25⟩) ⟨101, 8, 101, 25⟩) (.cons (.asg 67 ⟨102, 8, 102, 12⟩ (.call 77 ⟨102, 15, 102, 23⟩ (.cons (.bin (.str [50, 53, 55, 32, 34] 0 ⟨102, 24, 102, 31⟩) .Add (.nm 67 ⟨102, 34, 102, 38⟩) ⟨102, 24, 102, 38⟩) .nil) ⟨102, 15, 102, 39⟩) ⟨102, 8, 102, 39⟩) .nil)) ⟨100, 4, 102, 39⟩) (.cons (.ret (.tup (.cons (.nm 105 ⟨103, 12, 103, 17⟩) (.cons (.nm 67 ⟨103, 19, 103, 23⟩) (.cons (.cmp (.slc (.call 77 ⟨103, 25, 103, 33⟩ (.cons (.bin (.bin (.str [50, 53, 55, 32, 34] 0 ⟨103, 34, 103, 41⟩) .Add (.nm 67 ⟨103, 44, 103, 48⟩) ⟨103, 34, 103, 48⟩) .Add (.nm 94 ⟨103, 51, 103, 55⟩) ⟨103, 34, 103, 55⟩) .nil) ⟨103, 25, 103, 56⟩) (.some (.neg (.int 1 0 ⟨103, 58, 103, 59⟩) ⟨103, 57, 103, 59⟩)) .none .none ⟨103, 57, 103, 60⟩ ⟨103, 25, 103, 61⟩) .NotEq (.nm 94 ⟨103, 65, 103, 69⟩) ⟨103, 25, 103, 69⟩) .nil))) 0 ⟨103, 11, 103, 70⟩) ⟨103, 4, 103, 70⟩) .nil))))
noncomputable def n_law_read : NK := [(73, .local), (94, .local), (105, .local), (67, .local), (77, .globalImplicit)]
noncomputable def p_law_read : List Nat := [73, 94]
noncomputable def b_law_named : PSs := (.cons (.asg 80 ⟨105, 4, 105, 10⟩ (.comp (.meth (.nm 68 ⟨105, 14, 105, 19⟩) 54 ⟨105, 14, 105, 25⟩ (.cons (.nm 114 ⟨105, 26, 105, 30⟩) .nil) ⟨105, 14, 105, 31⟩) (.one 114 ⟨105, 36, 105, 40⟩) (.meth (.call 82 ⟨105, 44, 105, 56⟩ (.cons (.bin (.nm 73 ⟨105, 57, 105, 63⟩) .Mult (.bin (.int 2 0 ⟨105, 66, 105, 67⟩) .Pow (.nm 93 ⟨105, 71, 105, 76⟩) ⟨105, 66, 105, 76⟩) ⟨105, 57, 105, 76⟩) .nil) ⟨105, 44, 105, 77⟩) 97 ⟨105, 44, 105, 83⟩ (.cons (.str [44, 32] 0 ⟨105, 84, 105, 88⟩) .nil) ⟨105, 44, 105, 89⟩) .nil [(0, .local), (114, .local), (68, .free)] ⟨105, 13, 105, 90⟩) ⟨105, 4, 105, 90⟩) (.cons (.asg 21 ⟨106, 4, 106, 9⟩ (.call 99 ⟨106, 12, 106, 15⟩ (.cons (.comp (.bin (.int 2 0 ⟨106, 17, 106, 18⟩) .Pow (.bin (.bin (.nm 79 ⟨106, 23, 106, 28⟩) .Sub (.sub (.nm 80 ⟨106, 31, 106, 37⟩) (.int 0 0 ⟨106, 38, 106, 39⟩) ⟨106, 31, 106, 40⟩) ⟨106, 23, 106, 40⟩) .Sub (.int 1 0 ⟨106, 43, 106, 44⟩) ⟨106, 23, 106, 44⟩) ⟨106, 17, 106, 45⟩) (.one 79 ⟨106, 50, 106, 55⟩) (.slc (.nm 80 ⟨106, 59, 106, 65⟩) (.some (.int 1 0 ⟨106, 66, 106, 67⟩)) .none .none ⟨106, 66, 106, 68⟩ ⟨106, 59, 106, 69⟩) .nil [(0, .local), (79, .local), (80, .free)] ⟨106, 16, 106, 70⟩) .nil) ⟨106, 12, 106, 71⟩) ⟨106, 4, 106, 71⟩) (.cons (.ret (.tup (.cons (.bin (.sub (.nm 80 ⟨107, 12, 107, 18⟩) (.int 0 0 ⟨107, 19, 107, 20⟩) ⟨107, 12, 107, 21⟩) .Sub (.nm 93 ⟨107, 24, 107, 29⟩) ⟨107, 12, 107, 29⟩) (.cons (.bin (.str [34] 0 ⟨107, 31, 107, 34⟩) .Mult (.nm 21 ⟨107, 37, 107, 42⟩) ⟨107, 31, 107, 42⟩) (.cons (.cmp (.bin (.sub (.nm 80 ⟨107, 44, 107, 50⟩) (.int 0 0 ⟨107, 51, 107, 52⟩) ⟨107, 44, 107, 53⟩) .Add (.int 1 0 ⟨107, 56, 107, 57⟩) ⟨107, 44, 107, 57⟩) .In (.nm 80 ⟨107, 61, 107, 67⟩) ⟨107, 44, 107, 67⟩) .nil))) 0 ⟨107, 11, 107, 68⟩) ⟨107, 4, 107, 68⟩) .nil)))
noncomputable def n_law_named : NK := [(73, .local), (93, .local), (68, .cell), (80, .cell), (21, .local), (82, .globalImplicit), (99, .globalImplicit)]
noncomputable def p_law_named : List Nat := [73, 93, 68]
noncomputable def b_law_typed : PSs := (.cons (.asg 115 ⟨109, 4, 109, 9⟩ (.meth (.call 82 ⟨109, 12, 109, 24⟩ (.cons (.nm 112 ⟨109, 25, 109, 27⟩) .nil) ⟨109, 12, 109, 28⟩) 97 ⟨109, 12, 109, 34⟩ (.cons (.str [44, 32] 0 ⟨109, 35, 109, 39⟩) .nil) ⟨109, 12, 109, 40⟩) ⟨109, 4, 109, 40⟩) (.cons (.ret (.meth (.str [] 0 ⟨110, 11, 110, 13⟩) 56 ⟨110, 11, 110, 18⟩ (.cons (.comp (.ite (.cmp (.cmp (.sub (.nm 68 ⟨110, 28, 110, 33⟩) (.nm 105 ⟨110, 34, 110, 39⟩) ⟨110, 28, 110, 40⟩) .In (.nm 115 ⟨110, 44, 110, 49⟩) ⟨110, 28, 110, 49⟩) .NotEq (.nm 110 ⟨110, 54, 110, 60⟩) ⟨110, 27, 110, 60⟩) (.str [32] 0 ⟨110, 20, 110, 23⟩) (.str [9] 0 ⟨110, 66, 110, 70⟩) ⟨110, 20, 110, 70⟩) (.many [(105, ⟨110, 75, 110, 80⟩), (67, ⟨110, 82, 110, 86⟩), (110, ⟨110, 88, 110, 94⟩)] 0 ⟨110, 75, 110, 94⟩) (.nm 49 ⟨110, 98, 110, 103⟩) .nil [(0, .local), (105, .local), (67, .local), (110, .local), (68, .free), (115, .free)] ⟨110, 19, 110, 104⟩) .nil) ⟨110, 11, 110, 105⟩) ⟨110, 4, 110, 105⟩) .nil))
noncomputable def n_law_typed : NK := [(112, .local), (49, .local), (68, .cell), (115, .cell), (82, .globalImplicit)]
noncomputable def p_law_typed : List Nat := [112, 49, 68]
noncomputable def b_law_opened : PSs := (.cons (.asg 98 ⟨112, 4, 112, 9⟩ (.lst .nil ⟨112, 12, 112, 14⟩) ⟨112, 4, 112, 14⟩) (.cons (.forS (.one 112 ⟨113, 8, 113, 10⟩) (.bin (.nm 113 ⟨113, 14, 113, 17⟩) .Add (.lst (.cons (.int 1 0 ⟨113, 21, 113, 22⟩) .nil) ⟨113, 20, 113, 23⟩) ⟨113, 14, 113, 23⟩) (.cons (.asg 98 ⟨114, 8, 114, 13⟩ (.bin (.bin (.nm 98 ⟨114, 16, 114, 21⟩) .Add (.lst (.cons (.nm 112 ⟨114, 25, 114, 27⟩) .nil) ⟨114, 24, 114, 28⟩) ⟨114, 16, 114, 28⟩) .Add (.comp (.bin (.int 1 0 ⟨114, 32, 114, 33⟩) .Sub (.nm 34 ⟨114, 36, 114, 42⟩) ⟨114, 32, 114, 42⟩) (.one 34 ⟨114, 47, 114, 53⟩) (.slc (.nm 98 ⟨114, 57, 114, 62⟩) .none .none (.some (.neg (.int 1 0 ⟨114, 66, 114, 67⟩) ⟨114, 65, 114, 67⟩)) ⟨114, 63, 114, 67⟩ ⟨114, 57, 114, 68⟩) .nil [(0, .local), (34, .local)] ⟨114, 31, 114, 69⟩) ⟨114, 16, 114, 69⟩) ⟨114, 8, 114, 69⟩) .nil) .nil ⟨113, 4, 114, 69⟩) (.cons (.ret (.meth (.str [] 0 ⟨115, 11, 115, 13⟩) 56 ⟨115, 11, 115, 18⟩ (.cons (.comp (.sub (.str [9, 32] 0 ⟨115, 20, 115, 25⟩) (.nm 34 ⟨115, 26, 115, 32⟩) ⟨115, 20, 115, 33⟩) (.one 34 ⟨115, 38, 115, 44⟩) (.slc (.nm 98 ⟨115, 48, 115, 53⟩) (.some (.nm 22 ⟨115, 54, 115, 59⟩)) (.some (.bin (.nm 22 ⟨115, 60, 115, 65⟩) .Add (.nm 95 ⟨115, 68, 115, 72⟩) ⟨115, 60, 115, 72⟩)) .none ⟨115, 54, 115, 72⟩ ⟨115, 48, 115, 73⟩) .nil [(0, .local), (34, .local)] ⟨115, 19, 115, 74⟩) .nil) ⟨115, 11, 115, 75⟩) ⟨115, 4, 115, 75⟩) .nil)))
noncomputable def n_law_opened : NK := [(113, .local), (22, .local), (95, .local), (98, .local), (112, .local)]
noncomputable def p_law_opened : List Nat := [113, 22, 95]
noncomputable def b_law_seen : PSs := (.cons (.asg 42 ⟨117, 4, 117, 9⟩ (.ite (.cmp (.nm 22 ⟨117, 27, 117, 32⟩) .Gt (.int 0 0 ⟨117, 35, 117, 36⟩) ⟨117, 27, 117, 36⟩) (.bin (.int 1 0 ⟨117, 12, 117, 13⟩) .Sub (.sub (.nm 113 ⟨117, 16, 117, 19⟩) (.neg (.int 1 0 ⟨117, 21, 117, 22⟩) ⟨117, 20, 117, 22⟩) ⟨117, 16, 117, 23⟩) ⟨117, 12, 117, 23⟩) (.sub (.nm 113 ⟨117, 42, 117, 45⟩) (.neg (.int 1 0 ⟨117, 47, 117, 48⟩) ⟨117, 46, 117, 48⟩) ⟨117, 42, 117, 49⟩) ⟨117, 12, 117, 49⟩) ⟨117, 4, 117, 49⟩) (.cons (.ifS (.band (.cmp (.sub (.nm 113 ⟨118, 7, 118, 10⟩) (.int 0 0 ⟨118, 11, 118, 12⟩) ⟨118, 7, 118, 13⟩) .Eq (.int 1 0 ⟨118, 17, 118, 18⟩) ⟨118, 7, 118, 18⟩) (.cmp (.nm 42 ⟨118, 23, 118, 28⟩) .Eq (.int 1 0 ⟨118, 32, 118, 33⟩) ⟨118, 23, 118, 33⟩) ⟨118, 7, 118, 33⟩) (.cons (.ret (.tup (.cons (.int 1 0 ⟨119, 16, 119, 17⟩) (.cons (.int 1 0 ⟨119, 19, 119, 20⟩) (.cons (.int 1 0 ⟨119, 22, 119, 23⟩) .nil))) 0 ⟨119, 15, 119, 24⟩) ⟨119, 8, 119, 24⟩) .nil) .nil ⟨118, 4, 119, 24⟩) (.cons (.ret (.tup (.cons (.sub (.nm 113 ⟨120, 12, 120, 15⟩) (.int 0 0 ⟨120, 16, 120, 17⟩) ⟨120, 12, 120, 18⟩) (.cons (.sub (.nm 113 ⟨120, 20, 120, 23⟩) (.int 1 0 ⟨120, 24, 120, 25⟩) ⟨120, 20, 120, 26⟩) (.cons (.nm 42 ⟨120, 28, 120, 33⟩) .nil))) 0 ⟨120, 11, 120, 34⟩) ⟨120, 4, 120, 34⟩) .nil)))
noncomputable def n_law_seen : NK := [(113, .local), (22, .local), (42, .local)]
noncomputable def p_law_seen : List Nat := [113, 22]
noncomputable def b_law_runs : PSs := (.cons (.asgT (.many [(58, ⟨122, 4, 122, 8⟩), (25, ⟨122, 10, 122, 16⟩), (42, ⟨122, 18, 122, 23⟩)] 0 ⟨122, 4, 122, 23⟩) (.nm 91 ⟨122, 26, 122, 30⟩) ⟨122, 4, 122, 30⟩) (.cons (.asg 78 ⟨123, 4, 123, 8⟩ (.bin (.int 2 0 ⟨123, 11, 123, 12⟩) .Pow (.bin (.nm 47 ⟨123, 17, 123, 22⟩) .Sub (.int 4 0 ⟨123, 25, 123, 26⟩) ⟨123, 17, 123, 26⟩) ⟨123, 11, 123, 27⟩) ⟨123, 4, 123, 27⟩) (.cons (.own 33 ⟨124, 4, 124, 10⟩ (.lst (.cons (.bin (.bin (.int 4 0 ⟨124, 14, 124, 15⟩) .Mult (.nm 78 ⟨124, 18, 124, 22⟩) ⟨124, 14, 124, 22⟩) .Sub (.nm 42 ⟨124, 25, 124, 30⟩) ⟨124, 14, 124, 30⟩) (.cons (.nm 78 ⟨124, 32, 124, 36⟩) (.cons (.bin (.bin (.bin (.int 2 0 ⟨124, 38, 124, 39⟩) .Mult (.nm 78 ⟨124, 42, 124, 46⟩) ⟨124, 38, 124, 46⟩) .Add (.int 1 0 ⟨124, 49, 124, 50⟩) ⟨124, 38, 124, 50⟩) .Sub (.nm 42 ⟨124, 53, 124, 58⟩) ⟨124, 38, 124, 58⟩) (.cons (.bin (.bin (.nm 78 ⟨124, 60, 124, 64⟩) .Sub (.int 1 0 ⟨124, 67, 124, 68⟩) ⟨124, 60, 124, 68⟩) .Add (.nm 42 ⟨124, 71, 124, 76⟩) ⟨124, 60, 124, 76⟩) .nil)))) ⟨124, 13, 124, 77⟩) ⟨124, 4, 124, 77⟩) (.cons (.ifS (.cmp (.nm 58 ⟨125, 7, 125, 11⟩) .NotEq (.nm 25 ⟨125, 15, 125, 21⟩) ⟨125, 7, 125, 21⟩) (.cons (.own 33 ⟨126, 8, 126, 14⟩ (.lst (.cons (.bin (.bin (.int 4 0 ⟨126, 18, 126, 19⟩) .Mult (.nm 78 ⟨126, 22, 126, 26⟩) ⟨126, 18, 126, 26⟩) .Sub (.nm 42 ⟨126, 29, 126, 34⟩) ⟨126, 18, 126, 34⟩) (.cons (.bin (.bin (.nm 78 ⟨126, 36, 126, 40⟩) .Add (.int 1 0 ⟨126, 43, 126, 44⟩) ⟨126, 36, 126, 44⟩) .Sub (.nm 42 ⟨126, 47, 126, 52⟩) ⟨126, 36, 126, 52⟩) (.cons (.bin (.bin (.bin (.int 2 0 ⟨126, 54, 126, 55⟩) .Mult (.nm 78 ⟨126, 58, 126, 62⟩) ⟨126, 54, 126, 62⟩) .Sub (.int 1 0 ⟨126, 65, 126, 66⟩) ⟨126, 54, 126, 66⟩) .Add (.nm 42 ⟨126, 69, 126, 74⟩) ⟨126, 54, 126, 74⟩) (.cons (.nm 78 ⟨126, 76, 126, 80⟩) .nil)))) ⟨126, 17, 126, 81⟩) ⟨126, 8, 126, 81⟩) .nil) .nil ⟨125, 4, 126, 81⟩) (.cons (.asg 26 ⟨127, 4, 127, 10⟩ (.int 0 0 ⟨127, 13, 127, 14⟩) ⟨127, 4, 127, 14⟩) (.cons (.ifS (.cmp (.nm 58 ⟨128, 7, 128, 11⟩) .Eq (.int 0 0 ⟨128, 15, 128, 16⟩) ⟨128, 7, 128, 16⟩) (.cons (.asg 26 ⟨129, 8, 129, 14⟩ (.bin (.int 2 0 ⟨129, 17, 129, 18⟩) .Sub (.nm 25 ⟨129, 21, 129, 27⟩) ⟨129, 17, 129, 27⟩) ⟨129, 8, 129, 27⟩) (.cons (.setI 33 ⟨130, 8, 130, 14⟩ (.int 0 0 ⟨130, 15, 130, 16⟩) ⟨130, 8, 130, 17⟩ (.bin (.sub (.nm 33 ⟨130, 20, 130, 26⟩) (.int 0 0 ⟨130, 27, 130, 28⟩) ⟨130, 20, 130, 29⟩) .Add (.int 1 0 ⟨130, 32, 130, 33⟩) ⟨130, 20, 130, 33⟩) ⟨130, 8, 130, 33⟩) (.cons (.setI 33 ⟨131, 8, 131, 14⟩ (.nm 26 ⟨131, 15, 131, 21⟩) ⟨131, 8, 131, 22⟩ (.bin (.sub (.nm 33 ⟨131, 25, 131, 31⟩) (.nm 26 ⟨131, 32, 131, 38⟩) ⟨131, 25, 131, 39⟩) .Sub (.int 1 0 ⟨131, 42, 131, 43⟩) ⟨131, 25, 131, 43⟩) ⟨131, 8, 131, 43⟩) .nil))) .nil ⟨128, 4, 131, 43⟩) (.cons (.ifS (.cmp (.sub (.nm 33 ⟨132, 7, 132, 13⟩) (.int 3 0 ⟨132, 14, 132, 15⟩) ⟨132, 7, 132, 16⟩) .Eq (.int 0 0 ⟨132, 20, 132, 21⟩) ⟨132, 7, 132, 21⟩) (.cons (.pop 33 ⟨133, 8, 133, 14⟩ ⟨133, 8, 133, 18⟩ ⟨133, 8, 133, 20⟩ ⟨133, 8, 133, 20⟩) .nil) .nil ⟨132, 4, 133, 20⟩) (.cons (.ret (.tup (.cons (.call 109 ⟨134, 12, 134, 17⟩ (.cons (.nm 33 ⟨134, 18, 134, 24⟩) .nil) ⟨134, 12, 134, 25⟩) (.cons (.nm 26 ⟨134, 27, 134, 33⟩) .nil)) 0 ⟨134, 11, 134, 34⟩) ⟨134, 4, 134, 34⟩) .nil))))))))
noncomputable def n_law_runs : NK := [(91, .local), (47, .local), (58, .local), (25, .local), (42, .local), (78, .local), (33, .local), (26, .local), (109, .globalImplicit)]
noncomputable def p_law_runs : List Nat := [91, 47]
noncomputable def b_law_column : PSs := (.cons (.asgT (.many [(33, ⟨136, 4, 136, 10⟩), (26, ⟨136, 12, 136, 18⟩)] 0 ⟨136, 4, 136, 18⟩) (.nm 89 ⟨136, 21, 136, 25⟩) ⟨136, 4, 136, 25⟩) (.cons (.ret (.bin (.nm 26 ⟨137, 11, 137, 17⟩) .Add (.bin (.nm 95 ⟨137, 20, 137, 24⟩) .Mult (.call 99 ⟨137, 27, 137, 30⟩ (.cons (.comp (.bin (.nm 32 ⟨137, 32, 137, 37⟩) .Mult (.bin (.bin (.nm 88 ⟨137, 41, 137, 44⟩) .FloorDiv (.nm 95 ⟨137, 48, 137, 52⟩) ⟨137, 41, 137, 52⟩) .Add (.int 1 0 ⟨137, 55, 137, 56⟩) ⟨137, 41, 137, 56⟩) ⟨137, 32, 137, 57⟩) (.many [(88, ⟨137, 62, 137, 65⟩), (32, ⟨137, 67, 137, 72⟩)] 0 ⟨137, 62, 137, 72⟩) (.call 38 ⟨137, 76, 137, 85⟩ (.cons (.nm 33 ⟨137, 86, 137, 92⟩) .nil) ⟨137, 76, 137, 93⟩) .nil [(0, .local), (88, .local), (32, .local), (95, .free)] ⟨137, 31, 137, 94⟩) .nil) ⟨137, 27, 137, 95⟩) ⟨137, 20, 137, 95⟩) ⟨137, 11, 137, 95⟩) ⟨137, 4, 137, 95⟩) .nil))
noncomputable def n_law_column : NK := [(89, .local), (95, .cell), (33, .local), (26, .local), (99, .globalImplicit), (38, .globalImplicit)]
noncomputable def p_law_column : List Nat := [89, 95]
noncomputable def b_law_longest : PSs := (.cons (.asgT (.many [(33, ⟨139, 4, 139, 10⟩), (26, ⟨139, 12, 139, 18⟩)] 0 ⟨139, 4, 139, 18⟩) (.nm 89 ⟨139, 21, 139, 25⟩) ⟨139, 4, 139, 25⟩) (.cons (.ret (.call 64 ⟨140, 11, 140, 14⟩ (.cons (.bin (.call 61 ⟨140, 15, 140, 18⟩ (.cons (.nm 33 ⟨140, 19, 140, 25⟩) .nil) ⟨140, 15, 140, 26⟩) .Sub (.int 1 0 ⟨140, 29, 140, 30⟩) ⟨140, 15, 140, 30⟩) (.cons (.nm 26 ⟨140, 32, 140, 38⟩) .nil)) ⟨140, 11, 140, 39⟩) ⟨140, 4, 140, 39⟩) .nil))
noncomputable def n_law_longest : NK := [(89, .local), (33, .local), (26, .local), (64, .globalImplicit), (61, .globalImplicit)]
noncomputable def p_law_longest : List Nat := [89]
noncomputable def b_law_witnesses : PSs := (.cons (.asg 96 ⟨142, 4, 142, 9⟩ (.call 83 ⟨142, 12, 142, 17⟩ (.cons (.int 1 0 ⟨142, 18, 142, 19⟩) (.cons (.bin (.call 64 ⟨142, 21, 142, 24⟩ (.cons (.call 10 ⟨142, 25, 142, 37⟩ (.cons (.nm 74 ⟨142, 38, 142, 41⟩) .nil) ⟨142, 25, 142, 42⟩) (.cons (.call 10 ⟨142, 44, 142, 56⟩ (.cons (.nm 75 ⟨142, 57, 142, 62⟩) .nil) ⟨142, 44, 142, 63⟩) .nil)) ⟨142, 21, 142, 64⟩) .Add (.int 2 0 ⟨142, 67, 142, 68⟩) ⟨142, 21, 142, 68⟩) .nil)) ⟨142, 12, 142, 69⟩) ⟨142, 4, 142, 69⟩) (.cons (.asg 87 ⟨143, 4, 143, 8⟩ (.comp (.tup (.cons (.nm 95 ⟨143, 13, 143, 17⟩) (.cons (.call 9 ⟨143, 19, 143, 30⟩ (.cons (.nm 74 ⟨143, 31, 143, 34⟩) (.cons (.nm 95 ⟨143, 36, 143, 40⟩) .nil)) ⟨143, 19, 143, 41⟩) (.cons (.call 9 ⟨143, 43, 143, 54⟩ (.cons (.nm 75 ⟨143, 55, 143, 60⟩) (.cons (.nm 95 ⟨143, 62, 143, 66⟩) .nil)) ⟨143, 43, 143, 67⟩) .nil))) 0 ⟨143, 12, 143, 68⟩) (.one 95 ⟨143, 73, 143, 77⟩) (.nm 96 ⟨143, 81, 143, 86⟩) .nil [(0, .local), (95, .local), (9, .globalImplicit), (74, .free), (75, .free)] ⟨143, 11, 143, 87⟩) ⟨143, 4, 143, 87⟩) (.cons (.ret (.comp (.nm 86 ⟨144, 12, 144, 15⟩) (.one 86 ⟨144, 20, 144, 23⟩) (.nm 87 ⟨144, 27, 144, 31⟩) (.cons (.cmp (.sub (.nm 86 ⟨144, 35, 144, 38⟩) (.int 1 0 ⟨144, 39, 144, 40⟩) ⟨144, 35, 144, 41⟩) .NotEq (.sub (.nm 86 ⟨144, 45, 144, 48⟩) (.int 2 0 ⟨144, 49, 144, 50⟩) ⟨144, 45, 144, 51⟩) ⟨144, 35, 144, 51⟩) .nil) [(0, .local), (86, .local)] ⟨144, 11, 144, 52⟩) ⟨144, 4, 144, 52⟩) .nil)))
noncomputable def n_law_witnesses : NK := [(74, .cell), (75, .cell), (96, .local), (87, .local), (83, .globalImplicit), (64, .globalImplicit), (10, .globalImplicit)]
noncomputable def p_law_witnesses : List Nat := [74, 75]
noncomputable def b_law : PSs := (.cons (.asg 37 ⟨146, 4, 146, 9⟩ (.comp (.bin (.nm 76 ⟨146, 13, 146, 16⟩) .Add (.call 99 ⟨146, 19, 146, 22⟩ (.cons (.comp (.bin (.nm 117 ⟨146, 24, 146, 25⟩) .Mod (.int 1000000 0 ⟨146, 28, 146, 35⟩) ⟨146, 24, 146, 35⟩) (.one 117 ⟨146, 40, 146, 41⟩) (.slc (.nm 90 ⟨146, 45, 146, 51⟩) (.some (.nm 79 ⟨146, 52, 146, 57⟩)) (.some (.int 60 0 ⟨146, 58, 146, 60⟩)) (.some (.int 4 0 ⟨146, 61, 146, 62⟩)) ⟨146, 52, 146, 62⟩ ⟨146, 45, 146, 63⟩) .nil [(0, .local), (117, .local)] ⟨146, 23, 146, 64⟩) .nil) ⟨146, 19, 146, 65⟩) ⟨146, 13, 146, 65⟩) (.many [(79, ⟨146, 70, 146, 75⟩), (76, ⟨146, 77, 146, 80⟩)] 0 ⟨146, 70, 146, 80⟩) (.call 38 ⟨146, 84, 146, 93⟩ (.cons (.tup (.cons (.int 0 0 ⟨146, 95, 146, 96⟩) (.cons (.int 11 0 ⟨146, 98, 146, 100⟩) (.cons (.int 13 0 ⟨146, 102, 146, 104⟩) (.cons (.int 18 0 ⟨146, 106, 146, 108⟩) .nil)))) 0 ⟨146, 94, 146, 109⟩) .nil) ⟨146, 84, 146, 110⟩) .nil [(0, .local), (79, .local), (76, .local), (99, .globalImplicit), (90, .free)] ⟨146, 12, 146, 111⟩) ⟨146, 4, 146, 111⟩) (.cons (.asgT (.many [(47, ⟨147, 4, 147, 9⟩), (22, ⟨147, 11, 147, 16⟩)] 0 ⟨147, 4, 147, 16⟩) (.sub (.tup (.cons (.tup (.cons (.int 4 0 ⟨147, 21, 147, 22⟩) (.cons (.int 0 0 ⟨147, 24, 147, 25⟩) .nil)) 0 ⟨147, 20, 147, 26⟩) (.cons (.tup (.cons (.int 4 0 ⟨147, 29, 147, 30⟩) (.cons (.int 16 0 ⟨147, 32, 147, 34⟩) .nil)) 0 ⟨147, 28, 147, 35⟩) (.cons (.tup (.cons (.int 5 0 ⟨147, 38, 147, 39⟩) (.cons (.int 0 0 ⟨147, 41, 147, 42⟩) .nil)) 0 ⟨147, 37, 147, 43⟩) .nil))) 0 ⟨147, 19, 147, 44⟩) (.bin (.sub (.nm 37 ⟨147, 45, 147, 50⟩) (.int 0 0 ⟨147, 51, 147, 52⟩) ⟨147, 45, 147, 53⟩) .Mod (.int 3 0 ⟨147, 56, 147, 57⟩) ⟨147, 45, 147, 57⟩) ⟨147, 19, 147, 58⟩) ⟨147, 4, 147, 58⟩) (.cons (.asg 93 ⟨148, 4, 148, 9⟩ (.bin (.sub (.nm 37 ⟨148, 12, 148, 17⟩) (.int 3 0 ⟨148, 18, 148, 19⟩) ⟨148, 12, 148, 20⟩) .Mod (.int 8 0 ⟨148, 23, 148, 24⟩) ⟨148, 12, 148, 24⟩) ⟨148, 4, 148, 24⟩) (.cons (.asg 94 ⟨149, 4, 149, 8⟩ (.call 29 ⟨149, 11, 149, 14⟩ (.cons (.bin (.int 35 0 ⟨149, 15, 149, 17⟩) .Add (.bin (.bin (.sub (.nm 37 ⟨149, 20, 149, 25⟩) (.int 3 0 ⟨149, 26, 149, 27⟩) ⟨149, 20, 149, 28⟩) .FloorDiv (.int 8 0 ⟨149, 32, 149, 33⟩) ⟨149, 20, 149, 33⟩) .Mod (.int 50000 0 ⟨149, 36, 149, 41⟩) ⟨149, 20, 149, 41⟩) ⟨149, 15, 149, 41⟩) .nil) ⟨149, 11, 149, 42⟩) ⟨149, 4, 149, 42⟩) (.cons (.asg 95 ⟨150, 4, 150, 8⟩ (.bin (.bin (.int 2 0 ⟨150, 11, 150, 12⟩) .Pow (.nm 47 ⟨150, 16, 150, 21⟩) ⟨150, 11, 150, 21⟩) .Sub (.int 1 0 ⟨150, 24, 150, 25⟩) ⟨150, 11, 150, 25⟩) ⟨150, 4, 150, 25⟩) (.cons (.asg 68 ⟨151, 4, 151, 9⟩ (.call 12 ⟨151, 12, 151, 22⟩ .nil ⟨151, 12, 151, 24⟩) ⟨151, 4, 151, 24⟩) (.cons (.asg 49 ⟨152, 4, 152, 9⟩ (.comp (.call 14 ⟨152, 13, 152, 22⟩ (.cons (.nm 73 ⟨152, 23, 152, 29⟩) (.cons (.nm 94 ⟨152, 31, 152, 35⟩) .nil)) ⟨152, 13, 152, 36⟩) (.one 73 ⟨152, 41, 152, 47⟩) (.call 83 ⟨152, 51, 152, 56⟩ (.cons (.bin (.nm 22 ⟨152, 57, 152, 62⟩) .Add (.int 1 0 ⟨152, 65, 152, 66⟩) ⟨152, 57, 152, 66⟩) (.cons (.bin (.bin (.nm 22 ⟨152, 68, 152, 73⟩) .Add (.nm 95 ⟨152, 76, 152, 80⟩) ⟨152, 68, 152, 80⟩) .Add (.int 1 0 ⟨152, 83, 152, 84⟩) ⟨152, 68, 152, 84⟩) .nil)) ⟨152, 51, 152, 85⟩) .nil [(0, .local), (73, .local), (14, .globalImplicit), (94, .free)] ⟨152, 12, 152, 86⟩) ⟨152, 4, 152, 86⟩) (.cons (.ifS (.cmp (.nm 49 ⟨153, 7, 153, 12⟩) .NotEq (.comp (.call 11 ⟨153, 17, 153, 27⟩ (.cons (.nm 73 ⟨153, 28, 153, 34⟩) (.cons (.nm 93 ⟨153, 36, 153, 41⟩) (.cons (.nm 68 ⟨153, 43, 153, 48⟩) .nil))) ⟨153, 17, 153, 49⟩) (.one 73 ⟨153, 54, 153, 60⟩) (.call 83 ⟨153, 64, 153, 69⟩ (.cons (.bin (.nm 22 ⟨153, 70, 153, 75⟩) .Add (.int 1 0 ⟨153, 78, 153, 79⟩) ⟨153, 70, 153, 79⟩) (.cons (.bin (.bin (.nm 22 ⟨153, 81, 153, 86⟩) .Add (.nm 95 ⟨153, 89, 153, 93⟩) ⟨153, 81, 153, 93⟩) .Add (.int 1 0 ⟨153, 96, 153, 97⟩) ⟨153, 81, 153, 97⟩) .nil)) ⟨153, 64, 153, 98⟩) .nil [(0, .local), (73, .local), (11, .globalImplicit), (68, .free), (93, .free)] ⟨153, 16, 153, 99⟩) ⟨153, 7, 153, 99⟩) (.cons (.ret (.bool false 0 ⟨154, 15, 154, 20⟩) ⟨154, 8, 154, 20⟩) .nil) .nil ⟨153, 4, 154, 20⟩) (.cons (.asg 46 ⟨155, 4, 155, 10⟩ (.comp (.comp (.bin (.bin (.nm 36 ⟨155, 15, 155, 19⟩) .FloorDiv (.bin (.int 2 0 ⟨155, 23, 155, 24⟩) .Pow (.nm 45 ⟨155, 28, 155, 32⟩) ⟨155, 23, 155, 32⟩) ⟨155, 15, 155, 32⟩) .Mod (.int 2 0 ⟨155, 35, 155, 36⟩) ⟨155, 15, 155, 36⟩) (.one 45 ⟨155, 41, 155, 45⟩) (.call 83 ⟨155, 49, 155, 54⟩ (.cons (.nm 47 ⟨155, 55, 155, 60⟩) .nil) ⟨155, 49, 155, 61⟩) .nil [(0, .local), (45, .local), (36, .free)] ⟨155, 14, 155, 62⟩) (.one 36 ⟨155, 67, 155, 71⟩) (.slc (.nm 37 ⟨155, 75, 155, 80⟩) (.some (.int 1 0 ⟨155, 81, 155, 82⟩)) (.some (.int 3 0 ⟨155, 83, 155, 84⟩)) .none ⟨155, 81, 155, 84⟩ ⟨155, 75, 155, 85⟩) .nil [(0, .local), (36, .cell), (83, .globalImplicit), (47, .free)] ⟨155, 13, 155, 86⟩) ⟨155, 4, 155, 86⟩) (.cons (.asg 111 ⟨156, 4, 156, 9⟩ (.comp (.call 17 ⟨156, 13, 156, 23⟩ (.cons (.bin (.nm 36 ⟨156, 24, 156, 28⟩) .Mod (.bin (.int 2 0 ⟨156, 31, 156, 32⟩) .Pow (.nm 47 ⟨156, 36, 156, 41⟩) ⟨156, 31, 156, 41⟩) ⟨156, 24, 156, 41⟩) (.cons (.nm 49 ⟨156, 43, 156, 48⟩) (.cons (.nm 68 ⟨156, 50, 156, 55⟩) .nil))) ⟨156, 13, 156, 56⟩) (.one 36 ⟨156, 61, 156, 65⟩) (.slc (.nm 37 ⟨156, 69, 156, 74⟩) (.some (.int 1 0 ⟨156, 75, 156, 76⟩)) (.some (.int 3 0 ⟨156, 77, 156, 78⟩)) .none ⟨156, 75, 156, 78⟩ ⟨156, 69, 156, 79⟩) .nil [(0, .local), (36, .local), (17, .globalImplicit), (47, .free), (49, .free), (68, .free)] ⟨156, 12, 156, 80⟩) ⟨156, 4, 156, 80⟩) (.cons (.ifS (.cmp (.nm 111 ⟨157, 7, 157, 12⟩) .NotEq (.comp (.call 13 ⟨157, 17, 157, 28⟩ (.cons (.nm 113 ⟨157, 29, 157, 32⟩) (.cons (.nm 22 ⟨157, 34, 157, 39⟩) (.cons (.nm 95 ⟨157, 41, 157, 45⟩) .nil))) ⟨157, 17, 157, 46⟩) (.one 113 ⟨157, 51, 157, 54⟩) (.nm 46 ⟨157, 58, 157, 64⟩) .nil [(0, .local), (113, .local), (13, .globalImplicit), (22, .free), (95, .free)] ⟨157, 16, 157, 65⟩) ⟨157, 7, 157, 65⟩) (.cons (.ret (.bool false 0 ⟨158, 15, 158, 20⟩) ⟨158, 8, 158, 20⟩) .nil) .nil ⟨157, 4, 158, 20⟩) (.cons (.asg 91 ⟨159, 4, 159, 8⟩ (.comp (.call 16 ⟨159, 12, 159, 21⟩ (.cons (.nm 113 ⟨159, 22, 159, 25⟩) (.cons (.nm 22 ⟨159, 27, 159, 32⟩) .nil)) ⟨159, 12, 159, 33⟩) (.one 113 ⟨159, 38, 159, 41⟩) (.nm 46 ⟨159, 45, 159, 51⟩) .nil [(0, .local), (113, .local), (16, .globalImplicit), (22, .free)] ⟨159, 11, 159, 52⟩) ⟨159, 4, 159, 52⟩) (.cons (.asg 89 ⟨160, 4, 160, 8⟩ (.comp (.call 15 ⟨160, 12, 160, 21⟩ (.cons (.nm 104 ⟨160, 22, 160, 27⟩) (.cons (.nm 47 ⟨160, 29, 160, 34⟩) .nil)) ⟨160, 12, 160, 35⟩) (.one 104 ⟨160, 40, 160, 45⟩) (.nm 91 ⟨160, 49, 160, 53⟩) .nil [(0, .local), (104, .local), (15, .globalImplicit), (47, .free)] ⟨160, 11, 160, 54⟩) ⟨160, 4, 160, 54⟩) (.cons (.asg 60 ⟨161, 4, 161, 9⟩ (.comp (.call 6 ⟨161, 13, 161, 23⟩ (.cons (.nm 102 ⟨161, 24, 161, 28⟩) .nil) ⟨161, 13, 161, 29⟩) (.one 102 ⟨161, 34, 161, 38⟩) (.nm 111 ⟨161, 42, 161, 47⟩) .nil [(0, .local), (102, .local), (6, .globalImplicit)] ⟨161, 12, 161, 48⟩) ⟨161, 4, 161, 48⟩) (.cons (.asg 65 ⟨162, 4, 162, 11⟩ (.comp (.tup (.cons (.attr (.nm 59 ⟨162, 16, 162, 20⟩) 66 ⟨162, 16, 162, 22⟩) (.cons (.attr (.nm 59 ⟨162, 24, 162, 28⟩) 72 ⟨162, 24, 162, 31⟩) (.cons (.attr (.nm 59 ⟨162, 33, 162, 37⟩) 69 ⟨162, 33, 162, 42⟩) (.cons (.cmp (.attr (.nm 59 ⟨162, 44, 162, 48⟩) 55 ⟨162, 44, 162, 58⟩) .Is (.bool false 0 ⟨162, 62, 162, 67⟩) ⟨162, 44, 162, 67⟩) (.cons (.meth (.nm 59 ⟨162, 69, 162, 73⟩) 63 ⟨162, 69, 162, 95⟩ .nil ⟨162, 69, 162, 97⟩) .nil))))) 0 ⟨162, 15, 162, 98⟩) (.one 59 ⟨162, 103, 162, 107⟩) (.nm 60 ⟨162, 111, 162, 116⟩) .nil [(0, .local), (59, .local)] ⟨162, 14, 162, 117⟩) ⟨162, 4, 162, 117⟩) (.cons (.ifS (.cmp (.nm 65 ⟨163, 7, 163, 14⟩) .NotEq (.comp (.tup (.cons (.nm 95 ⟨163, 20, 163, 24⟩) (.cons (.bin (.bin (.int 2 0 ⟨163, 26, 163, 27⟩) .Pow (.bin (.nm 47 ⟨163, 32, 163, 37⟩) .Sub (.int 1 0 ⟨163, 40, 163, 41⟩) ⟨163, 32, 163, 41⟩) ⟨163, 26, 163, 42⟩) .Sub (.sub (.nm 104 ⟨163, 45, 163, 50⟩) (.int 2 0 ⟨163, 51, 163, 52⟩) ⟨163, 45, 163, 53⟩) ⟨163, 26, 163, 53⟩) (.cons (.nm 106 ⟨163, 55, 163, 59⟩) (.cons (.bool true 0 ⟨163, 61, 163, 65⟩) (.cons (.call 10 ⟨163, 67, 163, 79⟩ (.cons (.nm 106 ⟨163, 80, 163, 84⟩) .nil) ⟨163, 67, 163, 85⟩) .nil))))) 0 ⟨163, 19, 163, 86⟩) (.many [(104, ⟨163, 91, 163, 96⟩), (106, ⟨163, 98, 163, 102⟩)] 0 ⟨163, 91, 163, 102⟩) (.call 118 ⟨163, 106, 163, 109⟩ (.cons (.nm 91 ⟨163, 110, 163, 114⟩) (.cons (.nm 89 ⟨163, 116, 163, 120⟩) .nil)) ⟨163, 106, 163, 121⟩) .nil [(0, .local), (104, .local), (106, .local), (10, .globalImplicit), (47, .free), (95, .free)] ⟨163, 18, 163, 122⟩) ⟨163, 7, 163, 122⟩) (.cons (.ret (.bool false 0 ⟨164, 15, 164, 20⟩) ⟨164, 8, 164, 20⟩) .nil) .nil ⟨163, 4, 164, 20⟩) (.cons (.ifS (.cmp (.meth (.sub (.nm 60 ⟨165, 7, 165, 12⟩) (.int 0 0 ⟨165, 13, 165, 14⟩) ⟨165, 7, 165, 15⟩) 39 ⟨165, 7, 165, 21⟩ (.cons (.sub (.nm 60 ⟨165, 22, 165, 27⟩) (.int 1 0 ⟨165, 28, 165, 29⟩) ⟨165, 22, 165, 30⟩) .nil) ⟨165, 7, 165, 31⟩) .IsNot (.cmp (.sub (.nm 91 ⟨165, 40, 165, 44⟩) (.int 0 0 ⟨165, 45, 165, 46⟩) ⟨165, 40, 165, 47⟩) .Eq (.sub (.nm 91 ⟨165, 51, 165, 55⟩) (.int 1 0 ⟨165, 56, 165, 57⟩) ⟨165, 51, 165, 58⟩) ⟨165, 40, 165, 58⟩) ⟨165, 7, 165, 59⟩) (.cons (.ret (.bool false 0 ⟨166, 15, 166, 20⟩) ⟨166, 8, 166, 20⟩) .nil) .nil ⟨165, 4, 166, 20⟩) (.cons (.asg 103 ⟨167, 4, 167, 9⟩ (.call 6 ⟨167, 12, 167, 22⟩ (.cons (.bin (.sub (.nm 111 ⟨167, 23, 167, 28⟩) (.int 0 0 ⟨167, 29, 167, 30⟩) ⟨167, 23, 167, 31⟩) .Add (.bin (.str [32] 0 ⟨167, 34, 167, 37⟩) .Mult (.int 4 0 ⟨167, 40, 167, 41⟩) ⟨167, 34, 167, 41⟩) ⟨167, 23, 167, 41⟩) .nil) ⟨167, 12, 167, 42⟩) ⟨167, 4, 167, 42⟩) (.cons (.asg 31 ⟨168, 4, 168, 11⟩ (.comp (.call 9 ⟨168, 15, 168, 26⟩ (.cons (.sub (.nm 89 ⟨168, 27, 168, 31⟩) (.int 0 0 ⟨168, 32, 168, 33⟩) ⟨168, 27, 168, 34⟩) (.cons (.nm 100 ⟨168, 36, 168, 39⟩) .nil)) ⟨168, 15, 168, 40⟩) (.one 100 ⟨168, 45, 168, 48⟩) (.call 83 ⟨168, 52, 168, 57⟩ (.cons (.int 1 0 ⟨168, 58, 168, 59⟩) (.cons (.bin (.sub (.sub (.nm 89 ⟨168, 61, 168, 65⟩) (.int 0 0 ⟨168, 66, 168, 67⟩) ⟨168, 61, 168, 68⟩) (.int 1 0 ⟨168, 69, 168, 70⟩) ⟨168, 61, 168, 71⟩) .Add (.int 6 0 ⟨168, 74, 168, 75⟩) ⟨168, 61, 168, 75⟩) .nil)) ⟨168, 52, 168, 76⟩) .nil [(0, .local), (100, .local), (9, .globalImplicit), (89, .free)] ⟨168, 14, 168, 77⟩) ⟨168, 4, 168, 77⟩) (.cons (.ifS (.bor (.cmp (.meth (.sub (.nm 60 ⟨169, 7, 169, 12⟩) (.int 0 0 ⟨169, 13, 169, 14⟩) ⟨169, 7, 169, 15⟩) 39 ⟨169, 7, 169, 21⟩ (.cons (.nm 103 ⟨169, 22, 169, 27⟩) .nil) ⟨169, 7, 169, 28⟩) .IsNot (.bool false 0 ⟨169, 36, 169, 41⟩) ⟨169, 7, 169, 41⟩) (.cmp (.meth (.sub (.nm 60 ⟨169, 45, 169, 50⟩) (.int 0 0 ⟨169, 51, 169, 52⟩) ⟨169, 45, 169, 53⟩) 70 ⟨169, 45, 169, 71⟩ (.cons (.nm 103 ⟨169, 72, 169, 77⟩) .nil) ⟨169, 45, 169, 78⟩) .NotEq (.comp (.tup (.cons (.bin (.nm 79 ⟨169, 84, 169, 89⟩) .Add (.int 1 0 ⟨169, 92, 169, 93⟩) ⟨169, 84, 169, 93⟩) (.cons (.nm 30 ⟨169, 95, 169, 101⟩) (.cons (.bin (.nm 30 ⟨169, 103, 169, 109⟩) .Add (.int 4 0 ⟨169, 112, 169, 113⟩) ⟨169, 103, 169, 113⟩) .nil))) 0 ⟨169, 83, 169, 114⟩) (.many [(79, ⟨169, 119, 169, 124⟩), (30, ⟨169, 126, 169, 132⟩)] 0 ⟨169, 119, 169, 132⟩) (.call 38 ⟨169, 136, 169, 145⟩ (.cons (.nm 31 ⟨169, 146, 169, 153⟩) .nil) ⟨169, 136, 169, 154⟩) .nil [(0, .local), (79, .local), (30, .local)] ⟨169, 82, 169, 155⟩) ⟨169, 45, 169, 155⟩) ⟨169, 7, 169, 155⟩) (.cons (.ret (.bool false 0 ⟨170, 15, 170, 20⟩) ⟨170, 8, 170, 20⟩) .nil) .nil ⟨169, 4, 170, 20⟩) (.cons (.ret (.cmp (.meth (.sub (.nm 60 ⟨171, 11, 171, 16⟩) (.int 0 0 ⟨171, 17, 171, 18⟩) ⟨171, 11, 171, 19⟩) 70 ⟨171, 11, 171, 37⟩ (.cons (.sub (.nm 60 ⟨171, 38, 171, 43⟩) (.int 1 0 ⟨171, 44, 171, 45⟩) ⟨171, 38, 171, 46⟩) .nil) ⟨171, 11, 171, 47⟩) .Eq (.call 18 ⟨171, 51, 171, 65⟩ (.cons (.sub (.nm 89 ⟨171, 66, 171, 70⟩) (.int 0 0 ⟨171, 71, 171, 72⟩) ⟨171, 66, 171, 73⟩) (.cons (.sub (.nm 89 ⟨171, 75, 171, 79⟩) (.int 1 0 ⟨171, 80, 171, 81⟩) ⟨171, 75, 171, 82⟩) .nil)) ⟨171, 51, 171, 83⟩) ⟨171, 11, 171, 83⟩) ⟨171, 4, 171, 83⟩) .nil)))))))))))))))))))))
noncomputable def n_law : NK := [(90, .cell), (37, .local), (47, .cell), (22, .cell), (93, .cell), (94, .cell), (95, .cell), (68, .cell), (49, .cell), (46, .local), (111, .local), (91, .local), (89, .cell), (60, .local), (65, .local), (103, .local), (31, .local), (38, .globalImplicit), (29, .globalImplicit), (12, .globalImplicit), (83, .globalImplicit), (118, .globalImplicit), (6, .globalImplicit), (18, .globalImplicit)]
noncomputable def p_law : List Nat := [90]

/-- a function: its parameters, names and body -/
structure Fn where
  ps : List Nat
  nk : NK
  body : PSs
noncomputable def fns : List (Nat × Fn) := [(63, ⟨p_longest_run_of_spaces, n_longest_run_of_spaces, b_longest_run_of_spaces⟩), (53, ⟨p_indent_level, n_indent_level, b_indent_level⟩), (39, ⟨p_equal, n_equal, b_equal⟩), (70, ⟨p_not_equal_witness, n_not_equal_witness, b_not_equal_witness⟩),
  (82, ⟨p_pretty_flags, n_pretty_flags, b_pretty_flags⟩), (77, ⟨p_parse257, n_parse257, b_parse257⟩), (12, ⟨p_law_names, n_law_names, b_law_names⟩), (14, ⟨p_law_read, n_law_read, b_law_read⟩), (11, ⟨p_law_named, n_law_named, b_law_named⟩),
  (17, ⟨p_law_typed, n_law_typed, b_law_typed⟩), (13, ⟨p_law_opened, n_law_opened, b_law_opened⟩), (16, ⟨p_law_seen, n_law_seen, b_law_seen⟩), (15, ⟨p_law_runs, n_law_runs, b_law_runs⟩), (9, ⟨p_law_column, n_law_column, b_law_column⟩),
  (10, ⟨p_law_longest, n_law_longest, b_law_longest⟩), (18, ⟨p_law_witnesses, n_law_witnesses, b_law_witnesses⟩)]
noncomputable def fnAt : List (Nat × Fn) → Nat → Option Fn
  | [], _ => none
  | (y, b) :: r, x => match Nat.beq y x with | true => some b | false => fnAt r x
noncomputable def bindP : List Nat → List D → Option Rho
  | [], [] => some []
  | x :: xs, d :: ds => match bindP xs ds with | some r => some ((x, d) :: r) | none => none
  | _, _ => none
noncomputable def runF (o : Orc) (f : Fn) (ds : List D) : Option D :=
  match bindP f.ps ds with
  | none => none
  | some ρ => match exL (ex 12 o f.nk) f.body ρ none with
    | some (_, _, .ret d) => some d
    | _ => none
noncomputable def orc : Nat → Orc
  | 0, _, _ => none
  | k + 1, f, ds => match fnAt fns f with | some fn => runF (orc k) fn ds | none => none
end Mine

namespace Mine
/-! the built-in functions are as the evaluator has them -/
theorem ble_is (n m : Nat) : Nat.ble n m = decide (n ≤ m) := by
  by_cases h : n ≤ m
  · rw [Nat.ble_eq_true_of_le h, decide_eq_true h]
  · rw [decide_eq_false h, Bool.eq_false_iff]
    exact fun h' => h (Nat.le_of_ble_eq_true h')
theorem ble_if {α : Type} (n m : Nat) (x : α) : (match Nat.ble n m with | true => some x | false => none) = if decide (n ≤ m) = true then some x else none := by
  rw [ble_is]
  cases decide (n ≤ m) <;> rfl
theorem addF_eq (a b : D) : addF a b = bAdd a b := by
  unfold addF bAdd
  split <;> first | rfl | exact ble_if _ _ _ | (rename_i h1 h2 h3; split <;> first | rfl | exact (h1 _ _ rfl rfl).elim | exact (h2 _ _ rfl rfl).elim | exact (h3 _ _ rfl rfl).elim)
theorem subF_eq (a b : D) : subF a b = two (fun a b => some (a - b)) a b := by
  unfold subF two
  split <;> first | rfl | (rename_i h1; split <;> first | rfl | exact (h1 _ _ rfl rfl).elim)
theorem binopF_eq (op : Operator) (a b : D) : binopF op a b = binop op a b := by
  cases op <;> first | rfl | exact addF_eq a b | exact subF_eq a b
theorem cmpopF_eq (op : CmpOp) (a b : D) : cmpopF op a b = cmpop op a b := by
  cases op <;> first | rfl | skip
  cases a <;> first | rfl | skip
  cases b <;> rfl
noncomputable def biV : Bi → Value
  | .len => .builtin "len"
  | .range => .type "range"
  | .sum => .builtin "sum"
  | .max => .builtin "max"
  | .tuple => .type "tuple"
  | .hex => .builtin "hex"
theorem hex_tab : (hexTab.all fun e => eqNats ((PySem.baseText "0x" 16 e.1).cps.toList) e.2 && e.2.all (· < 0x110000)) = true := by decide +kernel
theorem intAt_mem {α : Type} : ∀ {l : List (Int × α)} {i : Int} {b : α}, intAt l i = some b → (i, b) ∈ l
  | (y, b') :: r, i, b, h => by
    unfold intAt at h
    split at h
    · rename_i e; cases h; rw [of_decide_eq_true e]; exact List.mem_cons_self
    · exact List.mem_cons_of_mem _ (intAt_mem h)
noncomputable def valAt (l : List D) (i : Nat) : Int := match l[i]? with | some (.int j) => j | _ => 0
theorem preSum_le (val val' : Nat → Int) : ∀ n, (∀ i, i < n → val i = val' i) → preSum val n = preSum val' n
  | 0, _ => rfl
  | n + 1, h => by rw [preSum, preSum, preSum_le val val' n (fun i hi => h i (Nat.lt_succ_of_lt hi)), h n (Nat.lt_succ_self n)]
theorem preSum_shift (val : Nat → Int) : ∀ n, preSum val (n + 1) = val 0 + preSum (fun i => val (i + 1)) n
  | 0 => by simp [preSum]
  | n + 1 => by rw [preSum, preSum_shift val n, preSum]; omega
theorem sumD_is : ∀ {l : List D} {s : Int}, sumD l = some s → preSum (valAt l) l.length = s ∧ ∀ i, i < l.length → l[i]? = some (.int (valAt l i))
  | [], s, h => by cases h; exact ⟨rfl, fun i hi => absurd hi (Nat.not_lt_zero _)⟩
  | .int i :: l, s, h => by
    unfold sumD at h
    split at h
    · rename_i s' hs
      cases h
      obtain ⟨h1, h2⟩ := sumD_is hs
      constructor
      · rw [List.length_cons, preSum_shift]
        show i + preSum (fun j => valAt (.int i :: l) (j + 1)) l.length = _
        have e : (fun j => valAt (.int i :: l) (j + 1)) = valAt l := by funext j; unfold valAt; rw [List.getElem?_cons_succ]
        rw [e, h1]
      · intro j hj
        cases j with
        | zero => rfl
        | succ j =>
          have := h2 j (Nat.lt_of_succ_lt_succ hj)
          rw [List.getElem?_cons_succ, this]
          unfold valAt
          rw [List.getElem?_cons_succ]
    · cases h
theorem one_inv {f : D → Option D} {ds : List D} {d : D} (e : one f ds = some d) : ∃ a, ds = [a] ∧ f a = some d := by
  unfold one at e
  split at e
  · exact ⟨_, rfl, e⟩
  · cases e
theorem two2_inv {f : Int → Int → D} {ds : List D} {d : D} (e : two2 (ints2 f) ds = some d) : ∃ a b, ds = [.int a, .int b] ∧ d = f a b := by
  unfold two2 at e
  split at e
  · unfold ints2 at e
    split at e
    · exact ⟨_, _, rfl, (Option.some.inj e).symm⟩
    · cases e
  · cases e
theorem RdL.one_inv {sg : Nat} {h : Heap} {X : Av} {vs : List Value} {a : D} (r : RdL sg h X vs [a]) : ∃ v, vs = [v] ∧ Rd sg h X v a := by
  cases r with | cons r1 r2 => cases r2; exact ⟨_, rfl, r1⟩
theorem RdL.ints_inv {sg : Nat} {h : Heap} {X : Av} {vs : List Value} {a b : Int} (r : RdL sg h X vs [.int a, .int b]) : ∃ t u, vs = [.int a t, .int b u] := by
  cases r with | cons r1 r2 =>
  obtain ⟨v, rfl, r3⟩ := r2.one_inv
  obtain ⟨t, rfl⟩ := r1.int_inv
  obtain ⟨u, rfl⟩ := r3.int_inv
  exact ⟨t, u, rfl⟩
theorem Rd.tup_inv {sg : Nat} {X : Av} {h : Heap} {v : Value} {l : List D} (r : Rd sg h X v (.tup l)) : ∃ a vs, v = .ref a ∧ ¬ X a ∧ PT h a vs ∧ RdL sg h X vs l := by cases r with | tup h1 h2 h3 => exact ⟨_, _, rfl, h1, h2, h3⟩
section
variable {F : Fr}
theorem len_sound {a d : D} {v : Value} {s : Shared} (e : lenD a = some d) (r : Rd F.sg s.heap F.X v a) : Gives F.sg F.M F.A F.X s (call (.builtin "len") [v]) d := by
  have hl := lim_is
  have hsl := sizeLine_lim
  unfold lenD at e
  split at e
  · obtain ⟨hc, rfl⟩ := if_some e
    have hc := of_decide_eq_true hc
    obtain ⟨a, vs, rfl, hx, pl, rl⟩ := r.lst_inv
    have hz := rl.arr
    intro Q E h
    refine Calls.call_len_list pl.isList (by omega) ?_
    rw [hz]
    exact h _ _ _ (Ext.refl _) (.int _ _)
  · obtain ⟨hc, rfl⟩ := if_some e
    have hc := of_decide_eq_true hc
    obtain ⟨a, vs, rfl, hx, pl, rl⟩ := r.tup_inv
    have hz := rl.arr
    intro Q E h
    refine PyProof.Rows.len_tuple pl (by omega) ?_
    rw [hz]
    exact h _ _ _ (Ext.refl _) (.int _ _)
  · rename_i l
    obtain ⟨hc, rfl⟩ := if_some e
    have hc := of_decide_eq_true hc
    obtain ⟨t, rfl⟩ := r.str_inv
    have hz : Str.length ⟨⟨l.map (den F.sg)⟩⟩ = l.length := by simp [Str.length]
    intro Q E h
    refine PySem.P.len_str (by omega) ?_
    rw [hz]
    exact h _ _ _ (Ext.refl _) (.int _ _)
  · cases e
theorem sum_sound {a d : D} {v : Value} {s : Shared} (e : sumO a = some d) (r : Rd F.sg s.heap F.X v a) (hX : XOk F.X s.heap) (hh : F.A.handled = none) : Gives F.sg F.M F.A F.X s (call (.builtin "sum") [v]) d := by
  unfold sumO at e
  split at e
  · rename_i l
    split at e
    · rename_i s' hs
      cases e
      obtain ⟨ax, vs, rfl, hx, pl, rl⟩ := r.lst_inv
      obtain ⟨h1, h2⟩ := sumD_is hs
      have hz := rl.arr
      have hlt := Heap.lt_size pl.choose_spec
      intro Q E h
      refine call_sum_walkG (wpAny_pyIter_list pl.isList ⟨_, [s.heap.objs.size, ax], [s.heap.objs.size], _, _, _, valAt l, rfl, Walks.list (A := F.A.in1) hh s.heap.objs.size ax (Nat.ne_of_lt hlt) ⟨vs⟩, ⟨⟨_, Heap.get?_push_size _ rfl, rfl, rfl⟩, ⟨_, Heap.get?_push_of_some _ pl.choose_spec, rfl, _, rfl⟩⟩, ?_, ?_, ?_⟩)
      · intro b hb
        rw [Heap.size_push]
        rcases List.mem_cons.mp hb with e | hb
        · rw [e]; exact Nat.lt_succ_self _
        · rw [List.mem_singleton.mp hb]; exact Nat.lt_succ_of_lt hlt
      · intro i v hv
        have hv : vs[i]? = some v := by simpa using hv
        have hi : i < l.length := by rw [← rl.length]; exact (List.getElem?_eq_some_iff.mp hv).1
        obtain ⟨v', e1, rv⟩ := rl.get (h2 i hi)
        rw [hv] at e1; cases e1
        exact rv.int_inv
      · intro h' tk t' k
        rw [hz, h1]
        exact h _ _ _ (fun b o e => k b o (fun q => by rw [List.mem_singleton.mp q, new_none (Nat.le_refl _)] at e; cases e) (Heap.get?_push_of_some _ e)) (.int _ _)
    · cases e
  · cases e
theorem tuple_sound {a d : D} {v : Value} {s : Shared} (e : tupO a = some d) (r : Rd F.sg s.heap F.X v a) (hX : XOk F.X s.heap) : Gives F.sg F.M F.A F.X s (call (.type "tuple") [v]) d := by
  have hl := lim_is
  have hsl := sizeLine_lim
  unfold tupO at e
  split at e
  · obtain ⟨hc, rfl⟩ := if_some e
    have hc := of_decide_eq_true hc
    obtain ⟨a, vs, rfl, hx, pl, rl⟩ := r.lst_inv
    have hz := rl.arr
    intro Q E h
    refine call_tuple_list pl.isList (fun h' k => ?_) (by omega)
    exact h _ _ _ (Ext.trans k (Ext.push _ _)) (.tup ((hX.ext k).fresh (Nat.le_refl _)) ⟨_, Heap.get?_push_size _ rfl, rfl, _, rfl⟩ (rl.ext (Ext.trans k (Ext.push _ _))))
  · cases e
theorem hex_sound {a d : D} {v : Value} {s : Shared} (e : hexO a = some d) (r : Rd F.sg s.heap F.X v a) : Gives F.sg F.M F.A F.X s (call (.builtin "hex") [v]) d := by
  have hl := lim_is
  have hsl := sizeLine_lim
  unfold hexO at e
  split at e
  · rename_i i
    split at e
    · rename_i t ht
      cases e
      obtain ⟨u, rfl⟩ := r.int_inv
      have hm := List.all_eq_true.mp hex_tab _ (intAt_mem ht)
      obtain ⟨m1, m2⟩ := Bool.and_eq_true_iff.mp hm
      rw [eqNats_eq, beq_iff_eq] at m1
      dsimp only at m1 m2
      have e1 : PySem.baseText "0x" 16 i = ⟨⟨t⟩⟩ := by rw [← m1]
      intro Q E h
      refine PySem.P.hex_of_int ?_ ?_
      · rw [e1]; exact h _ _ _ (Ext.refl _) (.plain m2)
      · rw [e1]
        have z : (hexTab.all fun e => Nat.ble e.2.length 10) = true := by decide
        have := Nat.le_of_ble_eq_true (List.all_eq_true.mp z _ (intAt_mem ht))
        show t.length ≤ sizeLine
        dsimp only at this
        omega
    · cases e
  · cases e
theorem range_sound {ds : List D} {d : D} {vs : List Value} {s : Shared} (e : rangeD ds = some d) (r : RdL F.sg s.heap F.X vs ds) (hX : XOk F.X s.heap) : Gives F.sg F.M F.A F.X s (call (.type "range") vs) d := by
  unfold rangeD at e
  split at e
  · split at e
    · cases e
      obtain ⟨v, rfl, r1⟩ := r.one_inv
      obtain ⟨t, rfl⟩ := r1.int_inv
      intro Q E h
      exact call_range_1 (h _ _ _ (Ext.push _ _) (.rng (hX.fresh (Nat.le_refl _)) ⟨_, _, _, IsRange.new ..⟩))
    · cases e
  · obtain ⟨a, b, rfl, rfl⟩ := two2_inv e
    obtain ⟨t, u, rfl⟩ := r.ints_inv
    intro Q E h
    exact call_range_2 (h _ _ _ (Ext.push _ _) (.rng (hX.fresh (Nat.le_refl _)) ⟨_, _, _, IsRange.new ..⟩))
theorem max_sound {a b : Int} {t u : Tok} {s : Shared} (hh : F.A.handled = none) : Gives F.sg F.M F.A F.X s (call (.builtin "max") [.int a t, .int b u]) (.int (if b > a then b else a)) := by
  intro Q E h
  refine max_two_ints hh fun h' tk k => ?_
  split
  · rename_i hc; rw [if_pos hc] at h; exact h _ _ _ k (.int _ _)
  · rename_i hc; rw [if_neg hc] at h; exact h _ _ _ k (.int _ _)
theorem bi_sound {b : Bi} {ds : List D} {d : D} {vs : List Value} {s : Shared} (e : biop b ds = some d) (r : RdL F.sg s.heap F.X vs ds) (hX : XOk F.X s.heap) (hh : F.A.handled = none) : Gives F.sg F.M F.A F.X s (call (biV b) vs) d := by
  cases b with
  | len => obtain ⟨a, rfl, e⟩ := one_inv e; obtain ⟨v, rfl, r1⟩ := r.one_inv; exact len_sound e r1
  | range => exact range_sound e r hX
  | sum => obtain ⟨a, rfl, e⟩ := one_inv e; obtain ⟨v, rfl, r1⟩ := r.one_inv; exact sum_sound e r1 hX hh
  | max => obtain ⟨a, b, rfl, rfl⟩ := two2_inv e; obtain ⟨t, u, rfl⟩ := r.ints_inv; exact max_sound hh
  | tuple => obtain ⟨a, rfl, e⟩ := one_inv e; obtain ⟨v, rfl, r1⟩ := r.one_inv; exact tuple_sound e r1 hX
  | hex => obtain ⟨a, rfl, e⟩ := one_inv e; obtain ⟨v, rfl, r1⟩ := r.one_inv; exact hex_sound e r1
end
end Mine

namespace Mine
/-! methods of texts and lists -/
noncomputable abbrev com : Str := ⟨⟨[44, 32]⟩⟩
noncomputable def comAt (c : Nat) : List Nat → Bool
  | [] => false
  | d :: _ => Nat.beq c 44 && Nat.beq d 32
theorem natBeq (x y : Nat) : Nat.beq x y = decide (x = y) := by
  by_cases h : x = y
  · subst h; rw [Nat.beq_refl]; simp
  · rw [decide_eq_false h, Bool.eq_false_iff]; exact fun h' => h (Nat.eq_of_beq_eq_true h')
theorem subAt_is (p t : List Nat) (c : Nat) : Builtin.Str.subAt ⟨⟨p ++ c :: t⟩⟩ com p.length = comAt c t := by
  unfold Builtin.Str.subAt
  have e1 : ((⟨⟨p ++ c :: t⟩⟩ : Str).cps.extract p.length (p.length + (com : Str).length)).toList = (c :: t).take 2 := by
    rw [Array.toList_extract]
    show List.extract (p ++ c :: t) p.length (p.length + 2) = _
    rw [List.extract_eq_take_drop]
    rw [show p.length + 2 - p.length = 2 by omega, List.drop_left]
  rw [Bool.eq_iff_iff, beq_iff_eq]
  constructor
  · intro h
    rw [h] at e1
    have e1 : [44, 32] = (c :: t).take 2 := e1
    cases t with
    | nil => simp at e1
    | cons d t => simp at e1; rw [comAt, natBeq, natBeq, ← e1.1, ← e1.2]; rfl
  · intro h
    cases t with
    | nil => cases h
    | cons d t =>
      rw [comAt, Bool.and_eq_true_iff] at h
      have h1 := Nat.eq_of_beq_eq_true h.1
      have h2 := Nat.eq_of_beq_eq_true h.2
      apply Array.ext'
      rw [e1, h1, h2]; rfl
theorem occ_run (l : List Nat) : ∀ (t p : List Nat) (st : Array Nat × Nat), l = p ++ t → st.fst.size ≤ p.length →
    (forIn (List.range' p.length (t.length + 1)) st (StrLaws.occBody ⟨⟨l⟩⟩ com l.length (l.length + 1))).run.fst.toList = st.fst.toList ++ occL t p.length st.snd
  | [], p, st, hl, hs => by
    rw [show List.range' p.length ([].length + 1) = [p.length] from rfl, List.forIn_cons]
    unfold StrLaws.occBody
    have hlen : l.length = p.length := by rw [hl, List.append_nil]
    rw [if_neg (by
      rintro ⟨⟨_, h⟩, _⟩
      have : (com : Str).length = 2 := rfl
      omega)]
    simp [occL]
  | c :: t, p, st, hl, hs => by
    have hlen : l.length = p.length + (t.length + 1) := by rw [hl, List.length_append, List.length_cons]
    rw [show List.range' p.length ((c :: t).length + 1) = p.length :: List.range' (p.length + 1) (t.length + 1) from rfl, List.forIn_cons]
    have hc : StrLaws.occBody ⟨⟨l⟩⟩ com l.length (l.length + 1) p.length st = if (Nat.ble st.snd p.length && comAt c t) = true then pure (ForInStep.yield (st.fst.push p.length, p.length + 2)) else pure (ForInStep.yield (st.fst, st.snd)) := by
      unfold StrLaws.occBody
      have e1 : Builtin.Str.subAt ⟨⟨l⟩⟩ com p.length = comAt c t := by rw [hl]; exact subAt_is p t c
      have e2 : (com : Str).length = 2 := rfl
      rw [e1, e2]
      by_cases h : (Nat.ble st.snd p.length && comAt c t) = true
      · rw [if_pos h]
        obtain ⟨h1, h2⟩ := Bool.and_eq_true_iff.mp h
        have h1 := Nat.le_of_ble_eq_true h1
        have h3 : 1 ≤ t.length := by cases t with | nil => cases h2 | cons _ _ => simp
        rw [if_pos ⟨⟨⟨by omega, h1⟩, by omega⟩, h2⟩]
      · rw [if_neg h, if_neg]
        rintro ⟨⟨⟨_, h1⟩, _⟩, h2⟩
        exact h (by rw [Nat.ble_eq_true_of_le h1, h2]; rfl)
    rw [hc]
    have ep : l = (p ++ [c]) ++ t := by rw [hl]; simp
    have epl : (p ++ [c]).length = p.length + 1 := by simp
    have eo : occL (c :: t) p.length st.snd = match (Nat.ble st.snd p.length && comAt c t) with | true => p.length :: occL t (p.length + 1) (p.length + 2) | false => occL t (p.length + 1) st.snd := by
      cases t with
      | nil =>
        show (match Nat.ble st.snd p.length && Nat.beq c 44 && false with | true => _ | false => _) = _
        rw [Bool.and_false]
        show _ = (match Nat.ble st.snd p.length && false with | true => _ | false => _)
        rw [Bool.and_false]
      | cons d t =>
        show (match Nat.ble st.snd p.length && Nat.beq c 44 && Nat.beq d 32 with | true => _ | false => _) = _
        rw [Bool.and_assoc]; rfl
    rw [eo]
    cases h : (Nat.ble st.snd p.length && comAt c t)
    · rw [if_neg (by decide)]
      have z := occ_run l t (p ++ [c]) (st.fst, st.snd) ep (by rw [epl]; exact Nat.le_succ_of_le hs)
      rw [epl] at z
      exact z
    · rw [if_pos rfl]
      have z := occ_run l t (p ++ [c]) (st.fst.push p.length, p.length + 2) ep (by rw [epl, Array.size_push]; omega)
      rw [epl] at z
      refine Eq.trans z ?_
      rw [Array.toList_push, List.append_assoc]; rfl
theorem occ_is (l : List Nat) : Builtin.Str.occurrences ⟨⟨l⟩⟩ com 0 (Str.length ⟨⟨l⟩⟩) (Str.length ⟨⟨l⟩⟩ + 1) = occL l 0 0 := by
  have e : Str.length ⟨⟨l⟩⟩ = l.length := rfl
  rw [StrLaws.occ_eq, e]
  have z := occ_run l l [] (#[], 0) rfl (Nat.le_refl _)
  exact z
theorem takeN_is : ∀ (n : Nat) (l : List Nat), takeN n l = l.take n
  | 0, l => by rw [List.take_zero]; cases l <;> rfl
  | n + 1, [] => rfl
  | n + 1, c :: l => by rw [takeN, takeN_is n l]; rfl
theorem dropN_is : ∀ (n : Nat) (l : List Nat), dropN n l = l.drop n
  | 0, l => by cases l <;> rfl
  | n + 1, [] => rfl
  | n + 1, c :: l => by rw [dropN, dropN_is n l]; rfl
theorem strSub_is (l : List Nat) (a c : Nat) : Builtin.Str.strSub ⟨⟨l⟩⟩ a c = ⟨⟨(l.take c).drop a⟩⟩ := by
  unfold Builtin.Str.strSub
  have : ((⟨l⟩ : Array Nat).extract a c) = ⟨(l.take c).drop a⟩ := by
    apply Array.ext'
    rw [Array.toList_extract]
    show List.extract l a c = _
    rw [List.extract_eq_take_drop, List.drop_take]
  exact congrArg Str.mk this
theorem parts_rd {sg : Nat} {h : Heap} {X : Av} {l : List Nat} (hp : ∀ c ∈ l, c < 0x110000) : ∀ (cuts : List Nat) (a tk : Nat), RdL sg h X (strsFrom tk (StrLaws.partsFrom ⟨⟨l⟩⟩ 2 a cuts)) (partsL l a cuts)
  | [], a, tk => by
    refine .cons ?_ .nil
    rw [strSub_is, dropN_is, show Str.length ⟨⟨l⟩⟩ = l.length from rfl, List.take_length]
    exact .plain (List.all_eq_true.mpr fun c hc => decide_eq_true (hp c (List.mem_of_mem_drop hc)))
  | c :: r, a, tk => by
    refine .cons ?_ (parts_rd hp r (c + 2) (tk + 1))
    rw [strSub_is, dropN_is, takeN_is]
    exact .plain (List.all_eq_true.mpr fun c hc => decide_eq_true (hp c (List.mem_of_mem_take (List.mem_of_mem_drop hc))))
theorem occL_len : ∀ (l : List Nat) (i fr : Nat), (occL l i fr).length ≤ l.length
  | [], _, _ => Nat.le_refl _
  | c :: l, i, fr => by
    unfold occL
    split
    · exact Nat.succ_le_succ (occL_len l _ _)
    · exact Nat.le_succ_of_le (occL_len l _ _)
theorem partsFrom_len (x : Str) (w : Nat) : ∀ (a : Nat) (cuts : List Nat), (StrLaws.partsFrom x w a cuts).length = cuts.length + 1
  | _, [] => rfl
  | _, _ :: r => by rw [StrLaws.partsFrom, List.length_cons, partsFrom_len x w _ r, List.length_cons]
section
variable {prog : Program} {w : World} {A : Around} {X : Av} {s : Shared} {sg : Nat}
theorem split_gives {l : List Nat} {t u : Tok} (hp : plainS l = true) (hl : l.length ≤ lim) (h2 : 2 ≤ l.length) (hX : XOk X s.heap) : Gives sg (model prog w) A X s (call (.builtin "str.split") [.str ⟨⟨l⟩⟩ t, .str com u]) (.lst (partsL l 0 (occL l 0 0))) := by
  intro Q E h
  have hlim := lim_is
  have hsl : 16777216 ≤ sizeLine := by decide
  have hm : ∀ c ∈ l, c < 0x110000 := fun c hc => of_decide_eq_true (List.all_eq_true.mp hp c hc)
  have e1 : Str.length ⟨⟨l⟩⟩ = l.length := rfl
  have e2 : (com : Str).length = 2 := rfl
  have h1 : (decide (Str.length ⟨⟨l⟩⟩ < (com : Str).length) || decide (Builtin.Str.strKind ⟨⟨l⟩⟩ < Builtin.Str.strKind com)) = false := by
    have k : Builtin.Str.strKind com = 1 := by decide +kernel
    rw [k, e1, e2, Bool.or_eq_false_iff]
    refine ⟨decide_eq_false (by omega), decide_eq_false ?_⟩
    unfold Builtin.Str.strKind
    split
    · omega
    · split <;> omega
  cases hf : (Builtin.Str.occurrences ⟨⟨l⟩⟩ com 0 (Str.length ⟨⟨l⟩⟩) (Str.length ⟨⟨l⟩⟩ + 1)).isEmpty
  · have hparts : Builtin.Str.partsBetween ⟨⟨l⟩⟩ (Builtin.Str.occurrences ⟨⟨l⟩⟩ com 0 (Str.length ⟨⟨l⟩⟩) (Str.length ⟨⟨l⟩⟩ + 1)) (com : Str).length = StrLaws.partsFrom ⟨⟨l⟩⟩ 2 0 (occL l 0 0) := by
      rw [StrLaws.partsBetween_eq, occ_is]; rfl
    refine call_meets F.slot_str_split (typeIs_str _ _ _) F.entry_str_split (F.args_str_split_2 _ _) (meets_str_split_sep ⟨⟨l⟩⟩ com t u h1 rfl hf (by rw [e1]; omega) ?_) ?_
    · rw [hparts, partsFrom_len]
      have := occL_len l 0 0
      omega
    · rw [hparts]
      show Q _ _
      exact h _ _ _ (Ext.push _ _) (.lst (hX.fresh (Nat.le_refl _)) ⟨0, Heap.get?_push_size _ rfl⟩ (parts_rd hm _ _ _))
  · refine call_meets F.slot_str_split (typeIs_str _ _ _) F.entry_str_split (F.args_str_split_2 _ _) (meets_str_split_not_found ⟨⟨l⟩⟩ com t u h1 rfl hf) ?_
    rw [occ_is] at hf
    have e3 : occL l 0 0 = [] := by simpa using hf
    rw [e3] at h
    refine h _ _ s.toks (Ext.push _ _) (.lst (hX.fresh (Nat.le_refl _)) ⟨0, Heap.get?_push_size _ rfl⟩ (.cons ?_ .nil))
    show Rd sg _ X (.str ⟨⟨l⟩⟩ t) (.str (dropN 0 l))
    rw [dropN_is]
    exact .plain hp
end
end Mine

namespace Mine
/-! join and index -/
noncomputable def restL (sep : List Nat) : List (List Nat) → List Nat
  | [] => []
  | p :: ps => sep ++ (p ++ restL sep ps)
theorem glue_fold (sep : Str) : ∀ (ps : List (List Nat)) (acc : Array Nat), ((ps.map fun p => (⟨⟨p⟩⟩ : Str)).foldl (fun acc p => acc ++ sep.cps ++ p.cps) acc).toList = acc.toList ++ restL sep.cps.toList ps
  | [], acc => by simp [restL]
  | p :: ps, acc => by
    rw [List.map_cons, List.foldl_cons, glue_fold sep ps]
    simp [restL]
/-- the words of a list of texts -/
noncomputable def wordsOf : List D → List (List Nat)
  | [] => []
  | .str x :: l => x :: wordsOf l
  | _ :: l => [] :: wordsOf l
theorem joinL_is (sep : List Nat) : ∀ (ws : List D) (t : List Nat), joinL sep ws = some t → (match wordsOf ws with | [] => [] | x :: r => x ++ restL sep r) = t ∧ ∀ d ∈ ws, ∃ x, d = .str x
  | [], t, h => by cases h; exact ⟨rfl, fun d hd => by cases hd⟩
  | [.str x], t, h => by
    cases h
    exact ⟨by simp [wordsOf, restL], fun d hd => ⟨x, List.mem_singleton.mp hd⟩⟩
  | .str x :: y :: l, t, h => by
    change (match joinL sep (y :: l) with | some t => some (x ++ (sep ++ t)) | none => none) = some t at h
    split at h
    · rename_i t' ht
      cases h
      obtain ⟨h1, h2⟩ := joinL_is sep (y :: l) t' ht
      obtain ⟨z, rfl⟩ := h2 y List.mem_cons_self
      constructor
      · rw [← h1]; rfl
      · intro d hd
        rcases List.mem_cons.mp hd with e | hd
        · exact ⟨x, e⟩
        · exact h2 d hd
    · cases h
theorem strs_of {sg : Nat} {h : Heap} {X : Av} : ∀ {vs : List Value} {ws : List D}, RdL sg h X vs ws → (∀ d ∈ ws, ∃ x, d = .str x ∧ x.all (· < 0x110000) = true) → ∃ l : List (Str × Tok), vs = strValues l ∧ l.map (·.1) = (wordsOf ws).map fun p => ⟨⟨p⟩⟩
  | _, _, .nil, _ => ⟨[], rfl, rfl⟩
  | _, _, .cons r rl, hw => by
    obtain ⟨x, rfl, hx⟩ := hw _ List.mem_cons_self
    obtain ⟨l, e1, e2⟩ := strs_of rl fun d hd => hw d (List.mem_cons_of_mem _ hd)
    cases r with | str _ t =>
    rw [den_plain hx]
    exact ⟨(⟨⟨x⟩⟩, t) :: l, by rw [e1]; rfl, by rw [List.map_cons, e2]; rfl⟩
theorem sum_words (sep : List Nat) : ∀ ps : List (List Nat), (ps.map List.length).sum ≤ (restL sep ps).length
  | [] => Nat.le_refl _
  | p :: ps => by
    have := sum_words sep ps
    simp only [restL, List.map_cons, List.sum_cons, List.length_append]
    omega
section
variable {prog : Program} {w : World} {A : Around} {X : Av} {s : Shared} {sg : Nat} {k : Nat}
theorem join_gives {sep t : List Nat} {ws : List D} {u : Tok} {v : Value} (hj : joinL sep ws = some t) (hs : okPy 0 (.str sep) = true) (hw : ws.all (okPy 0) = true) (h1 : ws.length ≤ 1000) (h2 : t.length ≤ lim) (h3 : sep.length ≤ 1000)
    (r : Rd sg s.heap X v (.lst ws)) : Gives sg (model prog w) A X s (call (.builtin "str.join") [.str ⟨⟨sep⟩⟩ u, v]) (.str t) := by
  intro Q E h
  cases r with | lst hx pl rl =>
  obtain ⟨j1, j2⟩ := joinL_is sep ws t hj
  have hall : ∀ d ∈ ws, ∃ x, d = .str x ∧ x.all (· < 0x110000) = true := fun d hd => by
    obtain ⟨x, rfl⟩ := j2 d hd
    exact ⟨x, rfl, by simpa [okPy] using List.all_eq_true.mp hw _ hd⟩
  obtain ⟨l, e1, e2⟩ := strs_of rl hall
  have hlim := lim_is
  have hsl : 16777216 ≤ sizeLine := by decide
  have hwl : (wordsOf ws).length = ws.length := by
    have : ∀ ws : List D, (wordsOf ws).length = ws.length := by
      intro ws
      induction ws with
      | nil => rfl
      | cons d ws ih => cases d <;> simp [wordsOf, ih]
    exact this ws
  have ht : Txt.join ⟨⟨sep⟩⟩ ((wordsOf ws).map fun p => (⟨⟨p⟩⟩ : Str)) = ⟨⟨t⟩⟩ := by
    rw [← j1]
    unfold Txt.join Builtin.Str.glued
    cases wordsOf ws with
    | nil => rfl
    | cons x r =>
      have z := glue_fold ⟨⟨sep⟩⟩ r ⟨x⟩
      refine congrArg Str.mk (Array.ext' ?_)
      exact z
  have hsum : ((wordsOf ws).map List.length).sum ≤ t.length := by
    rw [← j1]
    cases wordsOf ws with
    | nil => exact Nat.le_refl _
    | cons x r =>
      have := sum_words sep r
      simp only [List.map_cons, List.sum_cons, List.length_append]
      omega
  have hok : JoinOk ⟨⟨sep⟩⟩ ((wordsOf ws).map fun p => (⟨⟨p⟩⟩ : Str)) = true := by
    unfold JoinOk
    rw [StrLaws.joinTotal, Bool.not_eq_true']
    refine decide_eq_false ?_
    have e3 : ((((wordsOf ws).map fun p => (⟨⟨p⟩⟩ : Str)).map (·.length)).sum) = ((wordsOf ws).map List.length).sum := by rw [List.map_map]; rfl
    rw [e3, List.length_map, hwl]
    have e4 : Str.length ⟨⟨sep⟩⟩ = sep.length := rfl
    rw [e4]
    have : ws.length * sep.length ≤ 1000 * 1000 := Nat.mul_le_mul h1 h3
    omega
  have hpt : t.all (· < 0x110000) = true := by
    rw [← j1]
    have hws : ∀ x ∈ wordsOf ws, x.all (· < 0x110000) = true := by
      have : ∀ ws : List D, (∀ d ∈ ws, ∃ x, d = .str x ∧ x.all (· < 0x110000) = true) → ∀ x ∈ wordsOf ws, x.all (· < 0x110000) = true := by
        intro ws
        induction ws with
        | nil => intro _ x hx; cases hx
        | cons d ws ih =>
          intro hd x hx
          obtain ⟨y, rfl, hy⟩ := hd _ List.mem_cons_self
          rcases List.mem_cons.mp (show x ∈ y :: wordsOf ws from hx) with e | hx
          · rw [e]; exact hy
          · exact ih (fun d h => hd d (List.mem_cons_of_mem _ h)) x hx
      exact this ws hall
    have hsep : sep.all (· < 0x110000) = true := by simpa [okPy] using hs
    have hr : ∀ ps : List (List Nat), (∀ x ∈ ps, x.all (· < 0x110000) = true) → (restL sep ps).all (· < 0x110000) = true := by
      intro ps
      induction ps with
      | nil => intro _; rfl
      | cons p ps ih =>
        intro hp
        rw [restL, List.all_append, List.all_append, hsep, hp p List.mem_cons_self, ih fun x hx => hp x (List.mem_cons_of_mem _ hx)]; rfl
    cases hq : wordsOf ws with
    | nil => rfl
    | cons x r =>
      rw [hq] at hws
      show (x ++ restL sep r).all _ = true
      rw [List.all_append, hws x List.mem_cons_self, hr r fun y hy => hws y (List.mem_cons_of_mem _ hy)]; rfl
  have hil := pl.isList
  rw [e1] at hil
  refine SC.join hil e2 hok fun t' k => ?_
  rw [ht]
  exact h _ _ _ (Ext.refl _) (.plain hpt)
theorem indexD_is {x : D} : ∀ {l : List D} {i j : Nat}, indexD x i l = some j → i ≤ j ∧ ∃ h : j - i < l.length, eqb 0 (l[j - i]) x = true ∧ ∀ m (hm : m < l.length), m < j - i → eqb 0 (l[m]) x = false
  | y :: l, i, j, h => by
    unfold indexD at h
    split at h
    · rename_i e
      cases h
      refine ⟨Nat.le_refl _, ?_⟩
      simp only [Nat.sub_self]
      exact ⟨Nat.zero_lt_succ _, e, fun m _ hm => absurd hm (Nat.not_lt_zero _)⟩
    · rename_i e
      obtain ⟨h1, h2, h3, h4⟩ := indexD_is h
      have es : j - i = j - (i + 1) + 1 := by omega
      refine ⟨by omega, ?_⟩
      rw [es]
      refine ⟨Nat.succ_lt_succ h2, h3, fun m hm hlt => ?_⟩
      cases m with
      | zero => exact e
      | succ m => exact h4 m (Nat.lt_of_succ_lt_succ hm) (Nat.lt_of_succ_lt_succ hlt)
theorem index_gives {l : List D} {x : D} {j : Nat} {v xv : Value} (hj : indexD x 0 l = some j) (hx : okPy 0 x = true) (hl : l.all (okPy 0) = true) (hn : l.length ≤ lim) (r : Rd sg s.heap X v (.lst l)) (rx : Rd sg s.heap X xv x) (hA : AOk k A) :
    Gives sg (model prog w) A X s (call (.builtin "list.index") [v, xv]) (.int j) := by
  intro Q E h
  cases r with | @lst a vs _ hxa pl rl =>
  obtain ⟨_, hjj⟩ := indexD_is hj
  simp only [Nat.sub_zero] at hjj
  obtain ⟨h2, h3, h4⟩ := hjj
  have hlim := lim_is
  have hlen := rl.arr
  obtain ⟨n, pl⟩ := pl
  have at_ : ∀ m (hm : m < (⟨vs⟩ : Array Value).size), flatD ((⟨vs⟩ : Array Value)[m]) = l[m]'(by rw [← hlen]; exact hm) := fun m hm => by
    have hm' : m < l.length := by rw [← hlen]; exact hm
    obtain ⟨v, e1, rv⟩ := rl.get (List.getElem?_eq_getElem hm')
    have e2 : (⟨vs⟩ : Array Value)[m] = v := by
      have : vs[m]? = some ((⟨vs⟩ : Array Value)[m]) := by simp
      rw [e1] at this; exact (Option.some.inj this).symm
    rw [e2]
    exact flatD_of rv (List.all_eq_true.mp hl _ (List.getElem_mem hm'))
  refine call_meets F.slot_list_index ⟨_, pl, rfl⟩ F.entry_list_index (F.args_list_index_2 _ _) (SeqAt.list_indexAt a ⟨vs⟩ n none #[] xv (fun y => eqb 0 (flatD y) x) j (by rw [hlen]; exact h2) (by omega) ?_ ?_) ⟨pl, ?_, ?_⟩
  · rw [at_]; exact h3
  · intro m hm hlt
    rw [at_]; exact h4 m (by rw [← hlen]; exact hm) hlt
  · intro y hy
    obtain ⟨d, hd, rd⟩ := rl.mem y (by simpa using hy)
    have h5 := List.all_eq_true.mp hl d hd
    obtain ⟨as, r1⟩ := reads_of 0 _ _ rd h5
    obtain ⟨bs, r2⟩ := reads_of 0 _ _ rx hx
    have z := SeqAt.eqAt_reads _ _ A.in1 s _ _ _ _ r1 r2 (canLay_of 0 _ h5) (canLay_of 0 _ hx) (by
      have := hA.2.2
      have := depth_of 0 d
      rw [cLine_is]
      show A.units + 1 + _ < _
      omega)
    rw [eqv_eq 0 _ _ h5 hx] at z
    rw [flatD_of rd h5]
    exact z
  · exact h _ _ _ (Ext.refl _) (.int _ _)
end
end Mine

namespace Mine
/-! the evaluator of expressions is sound -/
noncomputable def CallsG (F : Fr) (f : Nat) (ds : List D) (d : D) : Prop := ∀ (p fp : Pos) (args : PEs), LP F args ds → lookN F.nk f = some .globalImplicit → EV F (PE.call f fp args p).toE d
noncomputable def MethG (F : Fr) (m : Nat) (a : D) (ds : List D) (d : D) : Prop := ∀ (ob : PE) (ap p : Pos) (args : PEs), (ap.endLine == p.line) = true → noCall0 ob = true → EV F ob.toE a → LP F args ds → EV F (PE.meth ob m ap args p).toE d
noncomputable def AttrG (F : Fr) (m : Nat) (a : D) (d : D) : Prop := ∀ (ob : PE) (p : Pos), isNm ob = true → EV F ob.toE a → EV F (PE.attr ob m p).toE d
noncomputable def GetG (F : Fr) (ds : List D) (d : D) : Prop := ∀ (xp ap p : Pos) (args : PEs), (ap.endLine == p.line) = true → lookN F.nk 1 = some .globalImplicit → LP F args ds → EV F (PE.meth (.nm 1 xp) 48 ap args p).toE d
noncomputable abbrev Fr.to (F : Fr) (nk : NK) (env : Env) (X : Av) (ρ : Rho) : Fr := { F with nk := nk, env := env, X := X, ρ := ρ }
structure Hyp (F : Fr) (o : Orc) (k : Nat) : Prop where
  hh : F.A.handled = none
  hA : AOk k F.A
  hs : SgOk F.sg
  bi : ∀ f b, biAt biTab f = some b → ∀ nk env X ρ ds d, biop b ds = some d → CallsG (F.to nk env X ρ) f ds d
  enum : GlobV F.B (nm 38) (.type "enumerate")
  zip : GlobV F.B (nm 118) (.type "zip")
  call : ∀ f ds d, o f ds = some d → biAt biTab f = none → isMeth f = false → ∀ nk env X ρ, CallsG (F.to nk env X ρ) f ds d
  meth : ∀ m a ds d, methop o m a ds = some d → ∀ nk env X ρ, MethG (F.to nk env X ρ) m a ds d
  attr : ∀ m a d, attrop a m = some d → ∀ nk env X ρ, AttrG (F.to nk env X ρ) m a d
  get : ∀ ds d, getop ds = some d → ∀ nk env X ρ, GetG (F.to nk env X ρ) ds d
theorem Hyp.to {F : Fr} {o : Orc} {k : Nat} (h : Hyp F o k) (nk : NK) (env : Env) (X : Av) (ρ : Rho) : Hyp (F.to nk env X ρ) o k :=
  ⟨h.hh, h.hA, h.hs, h.bi, h.enum, h.zip, h.call, h.meth, h.attr, h.get⟩
section
variable {F : Fr} {o : Orc} {k : Nat}
theorem mapE_sound {f : PE → Option D} (hf : ∀ e d, f e = some d → EV F e.toE d) : ∀ (es : PEs) (ds : List D), mapE f es = some ds → LP F es ds := by
  intro es
  induction es using PEs.rec (motive_1 := fun _ => True) (motive_3 := fun _ => True) with
  | nil => intro ds h; cases h; exact .nil
  | cons e r _ ih =>
    intro ds h
    unfold mapE at h
    split at h
    · rename_i d hd
      split at h
      · rename_i ds' hr
        cases h
        exact .cons (hf e d hd) (ih ds' hr)
      · cases h
    · cases h
  | _ => trivial
theorem evPO_sound {f : PE → Option D} (hf : ∀ e d, f e = some d → EV F e.toE d) {x : PO} {i : Option Int} (h : evPO f x = some i) : OV F x.toO i := by
  cases x with
  | none => cases h; trivial
  | some e =>
    change asInt (f e) = some i at h
    unfold asInt at h
    split at h
    · rename_i j hj; cases h; exact hf e _ hj
    · cases h
theorem glob_of {nk : NK} {f : Nat} (h : isGlob nk f = true) : lookN nk f = some .globalImplicit := by
  unfold isGlob at h
  split at h
  · assumption
  · cases h
theorem notSet (e : PE) (env : Env) (x : Value) : foldedSetIterable e.toE env x = pure x := by cases e <;> rfl
theorem iterE_sound {f : PE → Option D} (hf : ∀ e d, f e = some d → EV F e.toE d) (h : Hyp F o k) {iter : PE} {ds : List D} {md : Nat} (e : iterE f F.nk iter = some (ds, md)) : IV F iter.toE ds md := by
  unfold iterE at e
  split at e
  · rename_i g gp args p
    split at e
    · cases e
    · rename_i hg
      have hg := glob_of hg
      split at e
      · rename_i hq
        have hq := Nat.eq_of_beq_eq_true hq
        subst hq
        split at e
        · rename_i l hl; cases e; exact iv_enum (hf _ _ hl) (.inl rfl) h.hh hg h.enum
        · rename_i l hl; cases e; exact iv_enum (hf _ _ hl) (.inr rfl) h.hh hg h.enum
        · cases e
      · cases e
      · split at e
        · rename_i hq
          have hq := Nat.eq_of_beq_eq_true hq
          subst hq
          split at e
          · rename_i l l' hl hl'; cases e; exact iv_zip (hf _ _ hl) (hf _ _ hl') h.hh hg h.zip
          · cases e
        · cases e
        · split at e
          · rename_i d hd
            split at e
            · rename_i ds' hds; cases e; exact iv_of (hf _ _ hd) hds h.hh
            · cases e
          · cases e
  · split at e
    · rename_i d hd
      split at e
      · rename_i ds' hds; cases e; exact iv_of (hf _ _ hd) hds h.hh
      · cases e
    · cases e
theorem okTb_sound {md : Nat} {t : Tg} {d : D} (h : okTb md t d = true) : okT md t d := by
  cases t with
  | one x p =>
    intro e
    subst e
    cases h
  | many xs kk p =>
    cases d with
    | tup l => exact ⟨fun e => (by subst e; cases h), l, rfl⟩
    | _ => cases h
theorem turnL_sound {f : D → Option (Option D)} {P : D → Option D → Prop} (hf : ∀ d r, f d = some r → P d r) : ∀ (ds rs : List D), turnL f ds = some rs → Turns P ds rs
  | [], rs, h => by cases h; exact .nil
  | d :: ds, rs, h => by
    unfold turnL at h
    split at h
    · rename_i r hr
      split at h
      · rename_i rs' hrs; cases h; exact .keep (hf _ _ hr) (turnL_sound hf ds rs' hrs)
      · cases h
    · rename_i hr; exact .skip (hf _ _ hr) (turnL_sound hf ds rs h)
    · cases h
theorem noMarks (op : CmpOp) (r : PE) : behindInMarks op r.toE = false := by cases r <;> rfl
/-- what an evaluation tells -/
noncomputable def Tells (F : Fr) (f : Ev) : Prop := (∀ e d, f false e = some d → EV F e.toE d) ∧ (∀ e d, f true e = some d → ∃ b, d = .bool b ∧ BV F e.toE b)
theorem bin2_sound {f : Ev} (hf : Tells F f) {l r : PE} {op : Operator} {p : Pos} {d : D} (e : bin2 f l op r = some d) : EV F (PE.bin l op r p).toE d := by
  unfold bin2 at e
  split at e
  · cases e
  · rename_i a ha
    split at e
    · cases e
    · rename_i b hb
      rw [binopF_eq] at e
      exact ev_bin (hf.1 _ _ ha) (hf.1 _ _ hb) e
theorem cmp2_sound {f : Ev} (hf : Tells F f) (h : Hyp F o k) {l r : PE} {op : CmpOp} {p : Pos} {d : D} (e : cmp2 f l op r = some d) : EV F (PE.cmp l op r p).toE d ∧ ∃ b, d = .bool b ∧ BV F (PE.cmp l op r p).toE b := by
  unfold cmp2 at e
  split at e
  · cases e
  · rename_i a ha
    split at e
    · cases e
    · rename_i b hb
      split at e
      · rename_i c hc
        rw [cmpopF_eq] at hc
        cases e
        exact ⟨ev_cmp (hf.1 _ _ ha) (hf.1 _ _ hb) hc h.hA h.hs (noMarks _ _), c, rfl, bv_cmp (hf.1 _ _ ha) (hf.1 _ _ hb) hc h.hA h.hs (noMarks _ _)⟩
      · cases e
theorem condE_sound {F' : Fr} {f : Ev} (hf : Tells F' f) {elt : PE} {c : PEs} {r : Option D} (e : condE f elt c = some r) : CV F' c r.isSome ∧ ∀ y, r = some y → EV F' elt.toE y := by
  unfold condE at e
  split at e
  · split at e
    · rename_i y hy
      cases e
      exact ⟨rfl, fun z hz => by cases hz; exact hf.1 _ _ hy⟩
    · cases e
  · split at e
    · rename_i ht
      split at e
      · rename_i y hy
        cases e
        obtain ⟨b, hb, hv⟩ := hf.2 _ _ ht
        cases hb
        exact ⟨hv, fun z hz => by cases hz; exact hf.1 _ _ hy⟩
      · cases e
    · rename_i ht
      cases e
      obtain ⟨b, hb, hv⟩ := hf.2 _ _ ht
      cases hb
      exact ⟨hv, fun z hz => by cases hz⟩
    · cases e
  · cases e
theorem compN_sound {g : Evs} (hg : ∀ nk env X ρ, Tells (F.to nk env X ρ) (g nk ρ)) (h : Hyp F o k) {elt : PE} {t : Tg} {iter : PE} {c : PEs} {names : NK} {p : Pos} {d : D} (e : compN g F.nk F.ρ elt t iter c names = some d) :
    EV F (PE.comp elt t iter c names p).toE d := by
  unfold compN at e
  split at e
  · cases e
  · rename_i hc
    obtain ⟨hc, ht⟩ := Bool.and_eq_true_iff.mp hc
    split at e
    · cases e
    · rename_i ds md hi
      split at e
      · cases e
      · rename_i hl
        split at e
        · rename_i rs hr
          cases e
          refine ev_comp (iterE_sound (hg F.nk F.env F.X F.ρ).1 h hi) (notSet _ _) h.hh hc ht (of_decide_eq_true hl) (turnL_sound (fun d r e => ?_) _ _ hr)
          unfold turnE at e
          split at e
          · cases e
          · rename_i hok
            split at e
            · cases e
            · rename_i ρ' hb
              exact ⟨okTb_sound hok, ρ', hb, fun env' X' => condE_sound (hg names env' X' ρ') e⟩
        · cases e
theorem evT_sound {f : Ev} (hf : Tells F f) (h : Hyp F o k) {e : PE} {d : D} (ev : evT f e = some d) : ∃ b, d = .bool b ∧ BV F e.toE b := by
  have val : ∀ {e : PE} {d : D}, tru1 f e = some d → (∀ whole, isTrue e.toE F.env whole = (do let v ← whole; standAt e.toE.pos; holding [v] (truthy v))) → ∃ b, d = .bool b ∧ BV F e.toE b := by
    intro e d h1 h2
    unfold tru1 at h1
    split at h1
    · cases h1
    · rename_i v hv
      split at h1
      · rename_i c hc; cases h1; exact ⟨c, rfl, bv_val (hf.1 _ _ hv) hc h2⟩
      · cases h1
  cases e with
  | cmp l op r p => exact (cmp2_sound hf h ev).2
  | band a b p =>
    change and2 f a b = some d at ev
    unfold and2 at ev
    split at ev
    · rename_i ha
      obtain ⟨x, hx, vx⟩ := hf.2 _ _ ha
      cases hx
      obtain ⟨y, rfl, vy⟩ := hf.2 _ _ ev
      exact ⟨y, rfl, bv_and (F := F) (a := a.toE) (b := b.toE) (p := p) (x := true) (y := y) vx fun _ => vy⟩
    · rename_i ha
      obtain ⟨x, hx, vx⟩ := hf.2 _ _ ha
      cases hx
      cases ev
      exact ⟨false, rfl, bv_and (F := F) (a := a.toE) (b := b.toE) (p := p) (x := false) (y := false) vx fun q => by cases q⟩
    · cases ev
  | bor a b p =>
    change or2 f a b = some d at ev
    unfold or2 at ev
    split at ev
    · rename_i ha
      obtain ⟨x, hx, vx⟩ := hf.2 _ _ ha
      cases hx
      cases ev
      exact ⟨true, rfl, bv_or (F := F) (a := a.toE) (b := b.toE) (p := p) (x := true) (y := true) vx fun q => by cases q⟩
    · rename_i ha
      obtain ⟨x, hx, vx⟩ := hf.2 _ _ ha
      cases hx
      obtain ⟨y, rfl, vy⟩ := hf.2 _ _ ev
      exact ⟨y, rfl, bv_or (F := F) (a := a.toE) (b := b.toE) (p := p) (x := false) (y := y) vx fun _ => vy⟩
    · cases ev
  | unot a p =>
    change not1 f a = some d at ev
    unfold not1 at ev
    split at ev
    · rename_i c ha
      obtain ⟨x, hx, vx⟩ := hf.2 _ _ ha
      cases hx
      cases ev
      exact ⟨_, rfl, bv_not vx⟩
    · cases ev
  | ite t a b p => cases ev
  | _ => exact val ev fun _ => rfl
theorem evF_sound {g : Evs} (hg : ∀ nk env X ρ, Tells (F.to nk env X ρ) (g nk ρ)) (h : Hyp F o k) {e : PE} {d : D} (ev : evF g o F.nk F.ρ e = some d) : EV F e.toE d := by
  have hf : Tells F (g F.nk F.ρ) := hg F.nk F.env F.X F.ρ
  unfold evF at ev
  split at ev
  · cases ev; exact ev_int
  · split at ev
    · rename_i hp; cases ev; exact ev_str hp
    · cases ev
  · cases ev; exact ev_bool
  · exact ev_nm ev
  · exact bin2_sound hf ev
  · exact (cmp2_sound hf h ev).1
  · unfold ite3 at ev
    split at ev
    · rename_i ht
      obtain ⟨x, hx, vx⟩ := hf.2 _ _ ht
      cases hx
      exact ev_ite vx (hf.1 _ _ ev)
    · rename_i ht
      obtain ⟨x, hx, vx⟩ := hf.2 _ _ ht
      cases hx
      exact ev_ite vx (hf.1 _ _ ev)
    · cases ev
  · unfold neg1 at ev
    split at ev
    · rename_i i hi; cases ev; exact ev_neg (hf.1 _ _ hi)
    · cases ev
  · unfold lstN at ev
    split at ev
    · rename_i ds hds
      split at ev
      · rename_i hl; cases ev; exact ev_list (mapE_sound hf.1 _ _ hds).lv (of_decide_eq_true hl)
      · cases ev
    · cases ev
  · unfold tupN at ev
    split at ev
    · rename_i ds hds
      split at ev
      · rename_i hl; cases ev; exact ev_tuple (mapE_sound hf.1 _ _ hds).lv (of_decide_eq_true hl)
      · cases ev
    · cases ev
  · unfold sub2 at ev
    split at ev
    · cases ev
    · rename_i a ha
      split at ev
      · cases ev
      · rename_i b hb; exact ev_sub (hf.1 _ _ ha) (hf.1 _ _ hb) ev
  · unfold slc4 at ev
    split at ev
    · rename_i a l u t ha hl hu ht
      exact ev_slc (hf.1 _ _ ha) (evPO_sound hf.1 hl) (evPO_sound hf.1 hu) (evPO_sound hf.1 ht) ev
    · cases ev
  · unfold callN at ev
    split at ev
    · cases ev
    · rename_i hgl
      split at ev
      · cases ev
      · rename_i ds hds
        split at ev
        · rename_i b hb; exact h.bi _ _ hb F.nk F.env F.X F.ρ _ _ ev _ _ _ (mapE_sound hf.1 _ _ hds) (glob_of hgl)
        · rename_i hb
          split at ev
          · cases ev
          · rename_i hm; exact h.call _ _ _ ev hb hm F.nk F.env F.X F.ρ _ _ _ (mapE_sound hf.1 _ _ hds) (glob_of hgl)
  · unfold methN at ev
    split at ev
    · cases ev
    · rename_i hp
      obtain ⟨hp1, hn⟩ := Bool.and_eq_true_iff.mp hp
      split at ev
      · cases ev
      · rename_i ds hds
        split at ev
        · rename_i hft
          split at ev
          · rename_i hm
            obtain ⟨hm1, hm2⟩ := Bool.and_eq_true_iff.mp hm
            have hm2 := Nat.eq_of_beq_eq_true hm2
            subst hm2
            unfold isFlagTab at hft
            split at hft
            · have hx := Nat.eq_of_beq_eq_true hft
              subst hx
              exact h.get _ _ ev F.nk F.env F.X F.ρ _ _ _ _ hp1 (glob_of hm1) (mapE_sound hf.1 _ _ hds)
            · cases hft
          · cases ev
        · split at ev
          · cases ev
          · rename_i a ha; exact h.meth _ _ _ _ ev F.nk F.env F.X F.ρ _ _ _ _ hp1 hn (hf.1 _ _ ha) (mapE_sound hf.1 _ _ hds)
  · unfold attr1 at ev
    split at ev
    · cases ev
    · rename_i hn
      split at ev
      · cases ev
      · rename_i a ha; exact h.attr _ _ _ ev F.nk F.env F.X F.ρ _ _ hn (hf.1 _ _ ha)
  · exact compN_sound hg h ev
  · cases ev
  · cases ev
  · cases ev
theorem ev_sound : ∀ (n : Nat) (F : Fr) (h : Hyp F o k), Tells F (ev n o F.nk F.ρ)
  | 0, F, h => ⟨fun e d q => (by cases q), fun e d q => (by cases q)⟩
  | n + 1, F, h => by
    have ih : ∀ nk env X ρ, Tells (F.to nk env X ρ) (ev n o nk ρ) := fun nk env X ρ => ev_sound n (F.to nk env X ρ) (h.to nk env X ρ)
    exact ⟨fun e d q => evF_sound ih h q, fun e d q => evT_sound (ih F.nk F.env F.X F.ρ) h q⟩
end
end Mine

namespace Mine
/-! statements: what a frame holds between two of them. P: places of loops around, kept by the bodies -/
noncomputable def Xe (F : Fr) (P : Av) : Av := fun b => F.X b ∨ P b
noncomputable def Xl (F : Fr) (P : Av) (l : Addr) : Av := fun b => Xe F P b ∨ b = l
/-- the frame's own places: new since it was made, and kept away from -/
structure NewFr (F : Fr) (h₀ : Heap) : Prop where
  nl : h₀.get? F.env.locals = none
  nc : ∀ x c, F.env.cells.lookup x = some c → h₀.get? c = none
  xl : F.X F.env.locals
  xc : ∀ x c, F.env.cells.lookup x = some c → F.X c
structure OwOk (F : Fr) (h₀ : Heap) (P : Av) (ρ : Rho) (x : Nat) (ds : List D) (h : Heap) (l : Addr) (vs : List Value) : Prop where
  nx : ¬ Xe F P l
  nh : h₀.get? l = none
  ld : Ld F.env (nm x) (.ref l) h
  pl : PL h l vs
  rl : RdL F.sg h (Xl F P l) vs ds
  ok : EOk F.sg F.B F.nk F.env (Xl F P l) ρ h
structure SOk (F : Fr) (h₀ : Heap) (P : Av) (ρ : Rho) (w : Ow) (h : Heap) : Prop where
  pn : ∀ b, P b → h₀.get? b = none ∧ b ≠ F.env.locals ∧ ∀ y, F.env.cells.lookup y ≠ some b
  ext : Ext h₀ h
  ok : match w with | none => EOk F.sg F.B F.nk F.env (Xe F P) ρ h | some (x, ds) => ∃ l vs, OwOk F h₀ P ρ x ds h l vs
section
variable {F : Fr} {h₀ : Heap} {P : Av} {ρ : Rho} {w : Ow}
theorem SOk.keep {h h' : Heap} (o : SOk F h₀ P ρ w h) (k : Ext h h') : SOk F h₀ P ρ w h' where
  pn := o.pn
  ext := o.ext.trans k
  ok := by
    have z := o.ok
    cases w with
    | none => exact EOk.keep z k
    | some p =>
      obtain ⟨l, vs, a⟩ := z
      exact ⟨l, vs, a.nx, a.nh, a.ld.keep k, a.pl.ext fun ob e => k _ ob e, a.rl.ext k, a.ok.keep k⟩
theorem rng_ne {h : Heap} {l a : Addr} {vs : List Value} {i j : Int} (hl : PL h l vs) (hr : PR h a i j) (q : a = l) : False := by
  obtain ⟨t, u, v, e1⟩ := hr
  obtain ⟨m, e2⟩ := hl
  have e1 : h.get? a = some _ := e1
  rw [q, e2] at e1
  have e3 := congrArg Obj.cls (Option.some.inj e1)
  exact absurd e3 (by simp)
theorem noLst_move {sg : Nat} {h : Heap} {X' X : Av} {l : Addr} {vs : List Value} (hl : PL h l vs) (hx : ∀ b, X b → X' b ∨ b = l) : ∀ (n : Nat) (v : Value) (d : D), Rd sg h X' v d → noLst n d = true → Rd sg h X v d := by
  have all : ∀ (n : Nat), (∀ v d, Rd sg h X' v d → noLst n d = true → Rd sg h X v d) → ∀ (vs : List Value) (ds : List D), RdL sg h X' vs ds → ds.all (noLst n) = true → RdL sg h X vs ds := by
    intro n ih vs
    induction vs with
    | nil => intro ds r _; cases r; exact .nil
    | cons v vs ihv =>
      intro ds r e
      cases r with
      | cons r rl =>
        rw [List.all_cons, Bool.and_eq_true_iff] at e
        exact .cons (ih _ _ r e.1) (ihv _ rl e.2)
  intro n
  induction n with
  | zero =>
    intro v d r e
    cases r with
    | bool => exact .bool _
    | int => exact .int _ _
    | str => exact .str _ _
    | tup => cases e
    | lst => cases e
    | rng ha hr => exact .rng (fun q => (hx _ q).elim ha fun q => rng_ne hl hr q) hr
    | obj => cases e
    | plc => cases e
  | succ n ih =>
    intro v d r e
    cases r with
    | bool => exact .bool _
    | int => exact .int _ _
    | str => exact .str _ _
    | @tup a _ _ ha ht hr =>
      refine .tup (fun q => ?_) ht (all n ih _ _ hr (by simpa [noLst] using e))
      rcases hx a q with q | q
      · exact ha q
      · obtain ⟨o, e1, c1, _⟩ := ht
        obtain ⟨m, e2⟩ := hl
        rw [q, e2] at e1
        have e3 := Option.some.inj e1
        rw [← e3] at c1
        exact absurd c1 (by simp)
    | lst => cases e
    | rng ha hr => exact .rng (fun q => (hx _ q).elim ha fun q => rng_ne hl hr q) hr
    | obj => cases e
    | plc => cases e
theorem EOk.less {sg : Nat} {B : Heap} {nk : NK} {env : Env} {X X' : Av} {ρ : Rho} {h : Heap} (o : EOk sg B nk env X ρ h) (h1 : ∀ b, X' b → X b) (h2 : X' env.locals) (h3 : ∀ x c, env.cells.lookup x = some c → X' c) : EOk sg B nk env X' ρ h :=
  ⟨o.fn, o.ge, o.be, o.ext, fun b q => o.xok b (h1 b q), fun b q => o.xlo b (h1 b q), o.kin, ⟨h2, o.loc.2⟩, fun x c e => ⟨h3 x c e, (o.cel x c e).2⟩, o.apart, fun x d e => let ⟨v, r, l⟩ := o.var x d e; ⟨v, r.move fun b ob hb e => ⟨e, fun q => hb (h1 b q)⟩, l⟩⟩
/-- the frame as an expression sees it -/
theorem SOk.seen (n : NewFr F h₀) {h : Heap} (o : SOk F h₀ P ρ w h) : EOk F.sg F.B F.nk F.env (Xe F P) (withOw ρ w) h := by
  have z := o.ok
  cases w with
  | none => exact z
  | some p =>
    obtain ⟨x, ds⟩ := p
    obtain ⟨l, vs, a⟩ := z
    have o' : EOk F.sg F.B F.nk F.env (Xe F P) ρ h := a.ok.less (fun b q => .inl q) (.inl n.xl) fun x c e => .inl (n.xc x c e)
    refine { o' with var := fun y d e => ?_ }
    change getR ((x, .lst ds) :: ρ) y = some d at e
    rw [getR_cons] at e
    split at e
    · rename_i q
      cases e; subst q
      exact ⟨.ref l, .lst a.nx a.pl (a.rl.move fun b ob hb e => ⟨e, fun q => hb (.inl q)⟩), a.ld⟩
    · exact o'.var y d e
/-- what a value may be kept under -/
noncomputable def KeepsV (F : Fr) (h₀ : Heap) (P : Av) (ρ : Rho) (w : Ow) (h : Heap) (v : Value) (d : D) : Prop :=
  match w with | none => True | some (x, ds) => ∀ l vs, OwOk F h₀ P ρ x ds h l vs → Rd F.sg h (Xl F P l) v d
theorem use_val {e : Expr} {d : D} {s : Shared} {Q : Value → Shared → Prop} {E : Value → Shared → Prop} (n : NewFr F h₀) (so : SOk F h₀ P ρ w s.heap) (hev : ∀ X', EV (F.to F.nk F.env X' (withOw ρ w)) e d)
    (h : ∀ v h' tk, Ext s.heap h' → Rd F.sg h' (Xe F P) v d → (keepOk w d = true → KeepsV F h₀ P ρ w h' v d) → Q v { s with heap := h', toks := tk }) :
    wpAny F.M F.A (eval e F.env) Q E s := by
  refine hev (Xe F P) s (so.seen n) Q E fun v h' tk k r => h v h' tk k r fun hk => ?_
  cases w with
  | none => trivial
  | some p =>
    intro l vs a
    exact noLst_move a.pl (fun b q => q) 4 v d r hk
theorem use_test {e : Expr} {c : Bool} {s : Shared} {Q : Bool → Shared → Prop} {E : Value → Shared → Prop} (n : NewFr F h₀) (so : SOk F h₀ P ρ w s.heap) (hev : ∀ X', BV (F.to F.nk F.env X' (withOw ρ w)) e c)
    (h : ∀ h' tk, Ext s.heap h' → Q c { s with heap := h', toks := tk }) : wpAny F.M F.A (isTrue e F.env (eval e F.env)) Q E s :=
  hev (Xe F P) s (so.seen n) Q E h
theorem NewFr.own {xs : List Nat} {b : Addr} (n : NewFr F h₀) (q : Own F.env xs b) : h₀.get? b = none ∧ F.X b := by
  rcases q with e | ⟨x, _, _, e⟩
  · rw [e]; exact ⟨n.nl, n.xl⟩
  · exact ⟨n.nc _ _ e, n.xc _ _ e⟩
theorem notOwn_mem {x : Nat} {ds : List D} : ∀ {xs : List Nat}, notNames (some (x, ds)) xs = true → x ∉ xs
  | y :: ys, hh, m => by
    obtain ⟨h1, h2⟩ := Bool.and_eq_true_iff.mp hh
    rcases List.mem_cons.mp m with e | m
    · rw [← e] at h1
      change (!Nat.beq x x) = true at h1
      rw [Nat.beq_refl] at h1; cases h1
    · exact notOwn_mem h2 m
/-- what a step keeps -/
structure Kp (F : Fr) (P : Av) (w w' : Ow) (h h' : Heap) : Prop where
  pk : ∀ b ob, P b → h.get? b = some ob → h'.get? b = some ob
  ck : w' = none → w = none ∧ ∀ b ob, ¬ F.X b → h.get? b = some ob → h'.get? b = some ob
theorem Kp.trans {w w' w'' : Ow} {h h' h'' : Heap} (a : Kp F P w w' h h') (b : Kp F P w' w'' h' h'') : Kp F P w w'' h h'' :=
  ⟨fun x ob hp e => b.pk x ob hp (a.pk x ob hp e), fun e => ⟨(a.ck (b.ck e).1).1, fun x ob hx q => (b.ck e).2 x ob hx ((a.ck (b.ck e).1).2 x ob hx q)⟩⟩
theorem Kp.ext {h h' : Heap} (k : Ext h h') : Kp F P w w h h' := ⟨fun b ob _ e => k b ob e, fun e => ⟨e, fun b ob _ q => k b ob q⟩⟩
/-- what a flow is -/
noncomputable def FlR (F : Fr) (X₀ : Av) : Fl → Flow → Heap → Prop
  | .next, .next, _ => True
  | .brk, .brk, _ => True
  | .ret d, .ret v, h => Rd F.sg h X₀ v d
  | _, _, _ => False
/-- running t, from any frame of this kind, gives the result -/
noncomputable def XV (F : Fr) (h₀ : Heap) (X₀ : Av) (t : Sem Flow) (ρ : Rho) (w : Ow) (r : Res) : Prop :=
  ∀ P s, SOk F h₀ P ρ w s.heap → ∀ (Q : Flow → Shared → Prop) (E : Value → Shared → Prop), (∀ fl h' tk, SOk F h₀ P r.1 r.2.1 h' → Kp F P w r.2.1 s.heap h' → FlR F X₀ r.2.2 fl h' → Q fl { s with heap := h', toks := tk }) → wpAny F.M F.A t Q E s
/-- names that are not owned, stored -/
theorem wp_bind {t : Tg} {v : Value} {d : D} {ρ' : Rho} {s : Shared} {Q : Unit → Shared → Prop} {E : Value → Shared → Prop} (n : NewFr F h₀) (so : SOk F h₀ P ρ w s.heap) (r : Rd F.sg s.heap (Xe F P) v d) (hk : KeepsV F h₀ P ρ w s.heap v d)
    (ht : tgSet F.nk t = true) (hn : notNames w (tgNames t) = true) (e : bindT t d ρ = some ρ') (hh : F.A.handled = none)
    (h : ∀ h' tk, SOk F h₀ P ρ' w h' → Kp F P w w s.heap h' → Q () { s with heap := h', toks := tk }) : wpAny F.M F.A (assign t.toE F.env v) Q E s := by
  have kp : ∀ {h' : Heap}, (∀ b ob, ¬ Own F.env (tgNames t) b → s.heap.get? b = some ob → h'.get? b = some ob) → Kp F P w w s.heap h' ∧ Ext h₀ h' := fun k =>
    ⟨⟨fun b ob hp e => k b ob (fun q => by
        rcases q with q | ⟨x, _, _, q⟩
        · exact (so.pn b hp).2.1 q
        · exact (so.pn b hp).2.2 _ q) e, fun e => ⟨e, fun b ob hx q => k b ob (fun q' => hx (n.own q').2) q⟩⟩,
      fun b ob e => k b ob (fun q => by rw [(n.own q).1] at e; cases e) (so.ext b ob e)⟩
  have z := so.ok
  cases w with
  | none =>
    refine wp_assign z r ht e hh fun h' tk ok k l => ?_
    exact h h' tk ⟨so.pn, (kp k).2, ok⟩ (kp k).1
  | some p =>
    obtain ⟨x, ds⟩ := p
    obtain ⟨a, vs, oo⟩ := z
    refine wp_assign oo.ok (hk a vs oo) ht e hh fun h' tk ok k l => ?_
    have hown : ¬ Own F.env (tgNames t) a := fun q => oo.nx (.inl (n.own q).2)
    exact h h' tk ⟨so.pn, (kp k).2, a, vs, oo.nx, oo.nh, l x _ (notOwn_mem hn) oo.ld, oo.pl.ext fun ob e => k _ ob hown e, oo.rl.keep fun b ob hb e => k b ob (fun q => hb (own_X oo.ok q)) e, ok⟩ (kp k).1
theorem wp_bindS {x : Nat} {v : Value} {d : D} {s : Shared} {Q : Unit → Shared → Prop} {E : Value → Shared → Prop} (n : NewFr F h₀) (so : SOk F h₀ P ρ w s.heap) (r : Rd F.sg s.heap (Xe F P) v d) (hk : KeepsV F h₀ P ρ w s.heap v d)
    (ht : setOk F.nk x = true) (hn : notNames w [x] = true) (h : ∀ h' tk, SOk F h₀ P ((x, d) :: ρ) w h' → Kp F P w w s.heap h' → Q () { s with heap := h', toks := tk }) : wpAny F.M F.A (storeName F.env (nm x) v) Q E s := by
  have kp : ∀ {h' : Heap}, (∀ b ob, ¬ Own F.env [x] b → s.heap.get? b = some ob → h'.get? b = some ob) → Kp F P w w s.heap h' ∧ Ext h₀ h' := fun k =>
    ⟨⟨fun b ob hp e => k b ob (fun q => by
        rcases q with q | ⟨x, _, _, q⟩
        · exact (so.pn b hp).2.1 q
        · exact (so.pn b hp).2.2 _ q) e, fun e => ⟨e, fun b ob hx q => k b ob (fun q' => hx (n.own q').2) q⟩⟩,
      fun b ob e => k b ob (fun q => by rw [(n.own q).1] at e; cases e) (so.ext b ob e)⟩
  have z := so.ok
  cases w with
  | none =>
    refine wp_store z r ht fun h' tk ok k l _ => ?_
    exact h h' tk ⟨so.pn, (kp k).2, ok⟩ (kp k).1
  | some p =>
    obtain ⟨y, ds⟩ := p
    obtain ⟨a, vs, oo⟩ := z
    refine wp_store oo.ok (hk a vs oo) ht fun h' tk ok k l _ => ?_
    have hown : ¬ Own F.env [x] a := fun q => oo.nx (.inl (n.own q).2)
    exact h h' tk ⟨so.pn, (kp k).2, a, vs, oo.nx, oo.nh, l y _ (fun e => notOwn_mem hn (by rw [e]; exact List.mem_singleton.mpr rfl)) oo.ld, oo.pl.ext fun ob e => k _ ob hown e, oo.rl.keep fun b ob hb e => k b ob (fun q => hb (own_X oo.ok q)) e, ok⟩ (kp k).1
end
end Mine

namespace Mine
/-! statements: one rule for each -/
section
variable {F : Fr} {h₀ : Heap} {X₀ P : Av} {ρ : Rho} {w : Ow} {o : Orc} {k : Nat}
/-- expressions in a frame, whatever it keeps away from -/
noncomputable def TellsX (F : Fr) (ρ' : Rho) (f : Ev) : Prop := ∀ X', Tells (F.to F.nk F.env X' ρ') f
theorem tells_ev (h : Hyp F o k) (n : Nat) (ρ' : Rho) : TellsX F ρ' (ev n o F.nk ρ') := fun X' => ev_sound n (F.to F.nk F.env X' ρ') (h.to _ _ _ _)
theorem noSwap (e : PE) (hc : isComp e = false) (t : Expr) (n : Nat) (env : Env) : swapsWith e.toE (some t) n env = pure false := by cases e <;> first | rfl | cases hc
theorem notNames_one {x : Nat} (h : notOw w x = true) : notNames w [x] = true := by
  show (notOw w x && true) = true
  rw [h]; rfl
theorem asg_sound {f : Ev} (hf : TellsX F (withOw ρ w) f) (hh : F.A.handled = none) (n : NewFr F h₀) {x : Nat} {xp p : Pos} {e : PE} {r : Res} (hc : isComp e = false) (ev : sAsg f F.nk x e ρ w = some r) :
    XV F h₀ X₀ (exec (PS.asg x xp e p).toS F.env) ρ w r := by
  unfold sAsg at ev
  split at ev
  · cases ev
  · rename_i d hd
    split at ev
    · rename_i hk
      cases ev
      obtain ⟨hk, _⟩ := Bool.and_eq_true_iff.mp hk
      obtain ⟨hk, h3⟩ := Bool.and_eq_true_iff.mp hk
      obtain ⟨h1, h2⟩ := Bool.and_eq_true_iff.mp hk
      intro P s so Q E h
      refine wpAny_Assign_stores (targets := [(Tg.one x xp).toE]) (use_val n so (fun X' => (hf X').1 e d hd) fun v h' tk kk r hr => ?_) ?_ ?_
      · show wpAny _ _ (assign (Tg.one x xp).toE F.env v) _ _ _
        refine wp_bind (ρ' := (x, d) :: ρ) n (so.keep kk) r (hr h1) h3 (notNames_one h2) rfl hh fun h'' tk' so'' k' => ?_
        exact h .next h'' tk' so'' ((Kp.ext kk).trans k') trivial
      · show swapsWith e.toE (some (Tg.one x xp).toE) p.line F.env = pure false
        exact noSwap e hc _ _ _
      · cases e <;> rfl
    · cases ev
theorem asgT_sound {f : Ev} (hf : TellsX F (withOw ρ w) f) (hh : F.A.handled = none) (n : NewFr F h₀) {t : Tg} {p : Pos} {e : PE} {r : Res} (ev : sAsgT f F.nk t e ρ w = some r) :
    XV F h₀ X₀ (exec (PS.asgT t e p).toS F.env) ρ w r := by
  unfold sAsgT at ev
  split at ev
  · cases ev
  · rename_i d hd
    split at ev
    · rename_i hk
      obtain ⟨hk, h5⟩ := Bool.and_eq_true_iff.mp hk
      obtain ⟨hk, h4⟩ := Bool.and_eq_true_iff.mp hk
      cases t with
      | one x p => cases h5
      | many xs kk pp =>
      have hc : isComp e = false := by cases e <;> first | rfl | cases h4
      obtain ⟨hk, h3⟩ := Bool.and_eq_true_iff.mp hk
      obtain ⟨h1, h2⟩ := Bool.and_eq_true_iff.mp hk
      split at ev
      · rename_i ρ' hb
        cases ev
        intro P s so Q E h
        refine wpAny_Assign_stores (targets := [(Tg.many xs kk pp).toE]) (use_val n so (fun X' => (hf X').1 e d hd) fun v h' tk kk' r hr => ?_) ?_ ?_
        · show wpAny _ _ (assign (Tg.many xs kk pp).toE F.env v) _ _ _
          refine wp_bind n (so.keep kk') r (hr h1) h3 h2 hb hh fun h'' tk' so'' k' => ?_
          exact h .next h'' tk' so'' ((Kp.ext kk').trans k') trivial
        · show swapsWith e.toE (some (Tg.many xs kk pp).toE) p.line F.env = pure false
          exact noSwap e hc _ _ _
        · cases e <;> first | rfl | cases h4
      · cases ev
    · cases ev
theorem ret_sound {f : Ev} (hf : TellsX F (withOw ρ w) f) (n : NewFr F h₀) (hX : ∀ b, X₀ b → F.X b) {p : Pos} {e : PE} {r : Res} (ev : sRet f e ρ w = some r) :
    XV F h₀ X₀ (exec (PS.ret e p).toS F.env) ρ w r := by
  unfold sRet at ev
  split at ev
  · rename_i d hd
    cases ev
    intro P s so Q E h
    exact wpAny_Return_some (use_val n so (fun X' => (hf X').1 e d hd) fun v h' tk kk r _ => h (.ret v) h' tk (so.keep kk) (Kp.ext kk) (r.move fun b ob hb e => ⟨e, fun q => hb (.inl (hX b q))⟩))
  · cases ev
theorem brk_sound {p : Pos} : XV F h₀ X₀ (exec (PS.brk p).toS F.env) ρ w (ρ, w, .brk) := fun P s so Q E h => wpAny_Break (h .brk s.heap s.toks so (Kp.ext (Ext.refl _)) trivial)
theorem if_sound {f : Ev} (hf : TellsX F (withOw ρ w) f) (n : NewFr F h₀) {kx : Xs} {t : PE} {a b : PSs} {p : Pos} {r : Res} (ha : ∀ r, exL kx a ρ w = some r → XV F h₀ X₀ (execs a.toL F.env) ρ w r) (hb : ∀ r, exL kx b ρ w = some r → XV F h₀ X₀ (execs b.toL F.env) ρ w r)
    (ev : sIf f kx t a b ρ w = some r) : XV F h₀ X₀ (exec (PS.ifS t a b p).toS F.env) ρ w r := by
  unfold sIf at ev
  intro P s so Q E h
  split at ev
  · rename_i ht
    refine wpAny_If (use_test n so (c := true) (fun X' => by obtain ⟨c, hc, hv⟩ := (hf X').2 _ _ ht; cases hc; exact hv) fun h' tk kk => ?_)
    exact ha r ev P { s with heap := h', toks := tk } (so.keep kk) Q E fun fl h'' tk' so'' k' hfl => h fl h'' tk' so'' ((Kp.ext kk).trans k') hfl
  · rename_i ht
    refine wpAny_If (use_test n so (c := false) (fun X' => by obtain ⟨c, hc, hv⟩ := (hf X').2 _ _ ht; cases hc; exact hv) fun h' tk kk => ?_)
    exact hb r ev P { s with heap := h', toks := tk } (so.keep kk) Q E fun fl h'' tk' so'' k' hfl => h fl h'' tk' so'' ((Kp.ext kk).trans k') hfl
  · cases ev
theorem aug_sound {f : Ev} (hf : TellsX F (withOw ρ w) f) (hh : F.A.handled = none) (n : NewFr F h₀) {x : Nat} {xp p : Pos} {op : Operator} {e : PE} {r : Res} (ev : sAug f F.nk x op e ρ w = some r) :
    XV F h₀ X₀ (exec (PS.aug x xp op e p).toS F.env) ρ w r := by
  unfold sAug at ev
  split at ev
  · rename_i a b ha hb
    split at ev
    · rename_i d hd
      split at ev
      · rename_i hk
        cases ev
        obtain ⟨h2, h3⟩ := Bool.and_eq_true_iff.mp hk
        unfold augop at hd
        split at hd
        · cases hd
          intro P s so Q E h
          have seen := so.seen n
          have ha' : getR (withOw ρ w) x = getR ρ x := by
            cases w with
            | none => rfl
            | some p =>
              obtain ⟨y, ds⟩ := p
              change getR ((y, .lst ds) :: ρ) x = _
              rw [getR_cons, if_neg (fun q => by
                subst q
                change (!Nat.beq y y) = true at h2
                rw [Nat.beq_refl] at h2; cases h2)]
          rw [ha] at ha'
          obtain ⟨v, rv, l⟩ := seen.var x _ ha'
          cases rv
          refine wpAny_AugAssign_Name ?_
          have load : ∀ {Q' : Value → Shared → Prop} {v : Value}, Ld F.env (nm x) v s.heap → Q' v s → wpAny F.M F.A (loadName F.env (nm x)) Q' E s := fun l hq => by
            rcases l with ⟨hk, m, hn, hm⟩ | ⟨hk | hk, c, hc, hv⟩
            · exact wpAny_loadName_local seen.fn hk hn hm hq
            · exact wpAny_loadName_cell seen.fn hk hc hv hq
            · exact wpAny_loadName_free seen.fn hk hc hv hq (nm_classdict x)
          refine load l (use_val n so (fun X' => (hf X').1 e _ hb) fun v2 h' tk kk r2 _ => ?_)
          cases r2
          refine PyProof.Rows.ixor_int ?_
          refine wp_bindS (s := { s with heap := h', toks := _ }) n (so.keep kk) (.int _ _) ?_ h3 (notNames_one h2) fun h'' tk' so'' k' => ?_
          · unfold KeepsV; split
            · trivial
            · intro l vs _; exact .int _ _
          · exact h .next h'' tk' so'' ((Kp.ext kk).trans k') trivial
        · cases hd
      · cases ev
    · cases ev
  · cases ev
theorem exL_sound {kx : Xs} (hk : ∀ st ρ w r, kx st ρ w = some r → XV F h₀ X₀ (exec st.toS F.env) ρ w r) : ∀ (l : PSs) (ρ : Rho) (w : Ow) (r : Res), exL kx l ρ w = some r → XV F h₀ X₀ (execs l.toL F.env) ρ w r := by
  intro l
  induction l using PSs.rec (motive_1 := fun _ => True) with
  | nil =>
    intro ρ w r e P s so Q E h
    cases e
    exact wpAny_execs_nil (h .next s.heap s.toks so (Kp.ext (Ext.refl _)) trivial)
  | cons st rest _ ih =>
    intro ρ w r e P s so Q E h
    unfold exL at e
    split at e
    · rename_i ρ' w' hs
      refine wpAny_execs_cons (hk st ρ w _ hs P s so _ E fun fl h' tk so' kk hfl => ?_)
      cases fl with
      | next => exact ih ρ' w' r e P { s with heap := h', toks := tk } so' Q E fun fl h'' tk' so'' k' hfl => h fl h'' tk' so'' (kk.trans k') hfl
      | _ => exact hfl.elim
    · rename_i hno
      refine wpAny_execs_cons (hk st ρ w r e P s so _ E fun fl h' tk so' kk hfl => ?_)
      obtain ⟨ρ', w', fr⟩ := r
      cases fr with
      | next => exact (hno _ _ e).elim
      | brk => cases fl <;> first | exact hfl.elim | exact h _ h' tk so' kk hfl
      | ret d => cases fl <;> first | exact hfl.elim | exact h _ h' tk so' kk hfl
  | _ => trivial
end
end Mine

namespace Mine
/-! loops -/
section
variable {F : Fr} {h₀ : Heap} {X₀ P : Av} {ρ : Rho} {w : Ow} {o : Orc} {k : Nat}
theorem whl_sound {g : Rho → Ow → Ev} (hg : ∀ ρ w, TellsX F (withOw ρ w) (g ρ w)) (n : NewFr F h₀) {kx : Xs} {t : PE} {a : PSs} {p : Pos} {N : Nat} {r : Res} (ha : ∀ ρ w r, exL kx a ρ w = some r → XV F h₀ X₀ (execs a.toL F.env) ρ w r)
    (e : whlL (fun ρ w => g ρ w true t) (exL kx a) N ρ w = some r) : XV F h₀ X₀ (exec (PS.whl t a p).toS F.env) ρ w r := by
  intro P s so Q E h
  refine wpAny_While (codeAny_whileLoop (fun m s' => ∃ ρ' w' h' tk, s' = { s with heap := h', toks := tk } ∧ SOk F h₀ P ρ' w' h' ∧ Kp F P w w' s.heap h' ∧ whlL (fun ρ w => g ρ w true t) (exL kx a) m ρ' w' = some r) ?_ N ⟨ρ, w, s.heap, s.toks, rfl, so, Kp.ext (Ext.refl _), e⟩)
  rintro m s' ⟨ρ', w', h', tk, rfl, so', kp, e⟩
  cases m with
  | zero => cases e
  | succ m =>
    unfold whlL at e
    split at e
    · rename_i ht
      cases e
      refine use_test (s := { s with heap := h', toks := tk }) n so' (c := false) (fun X' => by obtain ⟨c, hc, hv⟩ := (hg ρ' w' X').2 _ _ ht; cases hc; exact hv) fun h'' tk' kk => ?_
      exact wpAny_execs_nil (h .next h'' tk' (so'.keep kk) (kp.trans (Kp.ext kk)) trivial)
    · rename_i ht
      refine use_test (s := { s with heap := h', toks := tk }) n so' (c := true) (fun X' => by obtain ⟨c, hc, hv⟩ := (hg ρ' w' X').2 _ _ ht; cases hc; exact hv) fun h'' tk' kk => ?_
      have so'' := so'.keep kk
      have kp' := kp.trans (Kp.ext kk)
      simp only [if_true]
      split at e
      · rename_i ρ₂ w₂ hb
        refine ha _ _ _ hb P { s with heap := h'', toks := tk' } so'' _ _ fun fl h3 tk3 so3 kp3 hfl => ?_
        cases fl with
        | next => exact ⟨m, Nat.lt_succ_self m, ρ₂, w₂, h3, tk3, rfl, so3, kp'.trans kp3, e⟩
        | _ => exact hfl.elim
      · rename_i ρ₂ w₂ hb
        cases e
        refine ha _ _ _ hb P { s with heap := h'', toks := tk' } so'' _ _ fun fl h3 tk3 so3 kp3 hfl => ?_
        cases fl with
        | brk => exact h .next h3 tk3 so3 (kp'.trans kp3) trivial
        | _ => exact hfl.elim
      · rename_i hn1 hn2
        refine ha _ _ _ e P { s with heap := h'', toks := tk' } so'' _ _ fun fl h3 tk3 so3 kp3 hfl => ?_
        obtain ⟨ρ₂, w₂, fr⟩ := r
        cases fr with
        | next => exact (hn1 _ _ e).elim
        | brk => exact (hn2 _ _ e).elim
        | ret d => cases fl <;> first | exact hfl.elim | exact h _ h3 tk3 so3 (kp'.trans kp3) hfl
    · cases e
/-- a walk over plain items: for whatever is kept away from -/
theorem walk_flat {v : Value} {d : D} {ds : List D} {X : Av} {s : Shared} (r₁ : Rd F.sg s.heap X v d) (hn : noLst 4 d = true) (hi : itemsOf d = some ds) (hh : F.A.handled = none) {Q : Value → Shared → Prop} {E : Value → Shared → Prop}
    (h : ∀ (I : Addr) (h' : Heap) (tk : Nat) (Wr : Av) (St : Nat → Heap → Prop), Ext s.heap h' → (∀ b, Wr b → s.heap.get? b = none) → (∀ b, Wr b → ∃ o, h'.get? b = some o) →
      (∀ X' : Av, (∀ b, Wr b → X' b) → Wk F.sg F.prog F.w F.A X' I ds St Wr 0) → St 0 h' → Q (.ref I) { s with heap := h', toks := tk }) :
    wpAny F.M F.A (pyIter v) Q E s := by
  obtain ⟨h₁, g₁, dr₁, t₁, os₁⟩ := s
  have hI : h₁.get? h₁.objs.size = none := new_none (Nat.le_refl _)
  unfold itemsOf at hi
  split at hi
  · cases hn
  · split at hi
    · rename_i a b hc
      cases hi
      obtain ⟨ha, hb⟩ := Bool.and_eq_true_iff.mp hc
      have ha := small_lt ha
      have hb := small_lt hb
      cases r₁ with | rng hx pr =>
      obtain ⟨t, u, z, pr⟩ := pr
      refine wpAny_pyIter_range pr (small_one (by omega) (by omega) (by omega) (by omega)) ?_
      have hsz : Builtin.Range.rangeSize a b 1 = ((b - a).toNat : Int) := by rw [rangeSize_one]; split <;> omega
      have hIs : (h₁.push { cls := .type "range_iterator", data := .fields #[rawInt a, rawInt (Builtin.Range.rangeSize a b 1), rawInt 1] }).get? h₁.objs.size = some _ := Heap.get?_push_size _ rfl
      refine h _ _ _ (fun b => b ∈ [h₁.objs.size]) _ (Ext.push _ _) (fun b q => by rw [List.mem_singleton.mp q]; exact hI) (fun b q => by rw [List.mem_singleton.mp q]; exact ⟨_, hIs⟩)
        (fun X' x2 => Wk.ofWalks (R := fun _ => True) (Walks.range hh h₁.objs.size a 1 (b - a).toNat) (upList_len _ _).symm x2 (fun b q => .inl q) ?_ (fun _ _ r k => r) ?_ ?_) ⟨?_, trivial⟩
      · intro i h st b q
        rw [List.mem_singleton.mp q]
        exact ⟨_, st⟩
      · rintro i v d h ⟨t, rfl⟩ hd _
        rw [upList_at _ _ _ _ hd, Int.mul_one]
        exact .int _ _
      · intro i T l s Q E xs k p hd
        have := upList_at _ _ _ _ hd
        cases this
      · have e1 : a + ((0 : Nat) : Int) * 1 = a := by simp
        have e2 : (((b - a).toNat : Nat) : Int) - ((0 : Nat) : Int) = Builtin.Range.rangeSize a b 1 := by rw [hsz]; simp
        show IsRangeIter _ _ _ _ _
        rw [e1, e2]
        exact hIs
    · cases hi
  · cases hi
    rename_i l
    cases r₁ with | str _ t =>
    have hP : ∀ (X' : Av) (i : Nat) (v : Value) (d : D) (h : Heap), SignAt ⟨⟨l.map (den F.sg)⟩⟩ i v → (chars l)[i]? = some d → Rd F.sg h X' v d := by
      rintro X' i v d h ⟨c, u, hc, rfl⟩ hd
      obtain ⟨c', h1, rfl⟩ := chars_at _ _ _ hd
      have hc : (l.map (den F.sg))[i]? = some c := by simpa using hc
      rw [List.getElem?_map, h1] at hc
      cases hc
      exact .str [c'] u
    have hgo : ∀ (i : Nat) (l' : List D), (chars l)[i]? = some (.tup l') → False := fun i l' hd => by obtain ⟨c', _, h2⟩ := chars_at _ _ _ hd; cases h2
    have hlen : (⟨⟨l.map (den F.sg)⟩⟩ : Str).cps.size = (chars l).length := by rw [chars_len]; simp
    cases ha : (⟨⟨l.map (den F.sg)⟩⟩ : Str).cps.all (· < 128)
    · refine wpAny_pyIter_wide ha ?_
      have hIs : (h₁.push { cls := .type "str_iterator", data := .fields #[.str ⟨⟨l.map (den F.sg)⟩⟩ t, .int 0 0] }).get? h₁.objs.size = some _ := Heap.get?_push_size _ rfl
      refine h _ _ _ (fun b => b ∈ [h₁.objs.size]) _ (Ext.push _ _) (fun b q => by rw [List.mem_singleton.mp q]; exact hI) (fun b q => by rw [List.mem_singleton.mp q]; exact ⟨_, hIs⟩)
        (fun X' x2 => Wk.ofWalks (R := fun _ => True) (Walks.strWide hh h₁.objs.size _ t) hlen x2 (fun b q => .inl q) ?_ (fun _ _ r k => r) (fun i v d h a b _ => hP X' i v d h a b) (fun i T l s Q E xs k p hd => (hgo _ _ hd).elim)) ⟨⟨_, hIs, rfl, rfl⟩, trivial⟩
      intro i h st b q
      rw [List.mem_singleton.mp q]
      obtain ⟨ob, e, _⟩ := st
      exact ⟨ob, e⟩
    · refine wpAny_pyIter_ascii ha ?_
      have hIs : (h₁.push { cls := .type "str_ascii_iterator", data := .fields #[.str ⟨⟨l.map (den F.sg)⟩⟩ t, .int 0 0] }).get? h₁.objs.size = some _ := Heap.get?_push_size _ rfl
      refine h _ _ _ (fun b => b ∈ [h₁.objs.size]) _ (Ext.push _ _) (fun b q => by rw [List.mem_singleton.mp q]; exact hI) (fun b q => by rw [List.mem_singleton.mp q]; exact ⟨_, hIs⟩)
        (fun X' x2 => Wk.ofWalks (R := fun _ => True) (Walks.strAscii hh h₁.objs.size _ t) hlen x2 (fun b q => .inl q) ?_ (fun _ _ r k => r) (fun i v d h a b _ => hP X' i v d h a b) (fun i T l s Q E xs k p hd => (hgo _ _ hd).elim)) ⟨⟨_, hIs, rfl, rfl⟩, trivial⟩
      intro i h st b q
      rw [List.mem_singleton.mp q]
      obtain ⟨ob, e, _⟩ := st
      exact ⟨ob, e⟩
  · cases hi
end
end Mine

namespace Mine
/-! the for statement -/
section
variable {F : Fr} {h₀ : Heap} {X₀ P P' : Av} {ρ : Rho} {w : Ow} {o : Orc} {k : Nat}
theorem EOk.grow {sg : Nat} {B : Heap} {nk : NK} {env : Env} {X X' : Av} {ρ : Rho} {h h' : Heap} (o : EOk sg B nk env X ρ h) (k : Ext h h') (h1 : ∀ b, X b → X' b) (h2 : ∀ b, X' b → X b ∨ (h.get? b = none ∧ ∃ ob, h'.get? b = some ob)) : EOk sg B nk env X' ρ h' := by
  have o' := o.keep k
  refine ⟨o.fn, o.ge, o.be, o'.ext, fun b q => ?_, fun b q => ?_, o.kin, ⟨h1 _ o.loc.1, o'.loc.2⟩, fun x c e => ⟨h1 _ (o.cel x c e).1, (o'.cel x c e).2⟩, o.apart, fun x d e => ?_⟩
  · rcases h2 b q with q | q
    · exact o'.xok b q
    · exact q.2
  · rcases h2 b q with q | q
    · exact o.xlo b q
    · exact ext_none o.ext q.1
  · obtain ⟨v, r, l⟩ := o.var x d e
    refine ⟨v, r.move fun b ob hb e => ⟨k b ob e, fun q => ?_⟩, l.keep k⟩
    rcases h2 b q with q | q
    · exact hb q
    · rw [q.1] at e; cases e
/-- fewer places to keep away from -/
theorem SOk.less {h : Heap} (n : NewFr F h₀) (so : SOk F h₀ P' ρ w h) (hp : ∀ b, P b → P' b) : SOk F h₀ P ρ w h where
  pn := fun b q => so.pn b (hp b q)
  ext := so.ext
  ok := by
    have z := so.ok
    have sub : ∀ b, Xe F P b → Xe F P' b := fun b q => q.imp id (hp b)
    cases w with
    | none => exact EOk.less z sub (.inl n.xl) fun x c e => .inl (n.xc x c e)
    | some p =>
      obtain ⟨l, vs, a⟩ := z
      have sub' : ∀ b, Xl F P l b → Xl F P' l b := fun b q => q.imp (sub b) id
      exact ⟨l, vs, fun q => a.nx (sub _ q), a.nh, a.ld, a.pl, a.rl.move fun b ob hb e => ⟨e, fun q => hb (sub' b q)⟩, a.ok.less sub' (.inl (.inl n.xl)) fun x c e => .inl (.inl (n.xc x c e))⟩
/-- after a step that changes the walk's own places -/
theorem SOk.stepW {h h' : Heap} {Wr : Av} (so : SOk F h₀ P' ρ w h) (n : NewFr F h₀) (hW : ∀ b, Wr b → P' b) (k : ∀ b ob, ¬ Wr b → h.get? b = some ob → h'.get? b = some ob) (lv : ∀ b, Wr b → ∃ ob, h'.get? b = some ob) : SOk F h₀ P' ρ w h' where
  pn := so.pn
  ext := fun b ob e => k b ob (fun q => by rw [(so.pn b (hW b q)).1] at e; cases e) (so.ext b ob e)
  ok := by
    have z := so.ok
    have hl : ¬ Wr F.env.locals := fun q => (so.pn _ (hW _ q)).2.1 rfl
    have hc : ∀ x c, F.env.cells.lookup x = some c → ¬ Wr c := fun x c e q => (so.pn _ (hW _ q)).2.2 x e
    have live : ∀ {X : Av}, XOk X h → XOk X h' := fun hx b q => by
      by_cases e : Wr b
      · exact lv b e
      · obtain ⟨ob, q⟩ := hx b q; exact ⟨ob, k b ob e q⟩
    cases w with
    | none => exact EOk.step z k (fun b q => .inr (hW b q)) (live z.xok) hl hc
    | some p =>
      obtain ⟨l, vs, a⟩ := z
      have hlw : ¬ Wr l := fun q => a.nx (.inr (hW _ q))
      exact ⟨l, vs, a.nx, a.nh, a.ld.keep' (fun ob => k _ ob hl) fun c ob e => k _ ob (hc _ c e), a.pl.ext fun ob e => k _ ob hlw e, a.rl.keep fun b ob hb e => k b ob (fun q => hb (.inl (.inr (hW b q)))) e,
        a.ok.step k (fun b q => .inl (.inr (hW b q))) (live a.ok.xok) hl hc⟩
/-- a walk, as a statement sees it; pure: nothing may be owned -/
structure Wlk (F : Fr) (h₀ : Heap) (P P' : Av) (I : Addr) (ds : List D) (St : Nat → Heap → Prop) (Wr : Av) (md : Nat) (pure : Bool) : Prop where
  item : ∀ i d ρ w (s : Shared) (Q : Option Value → Shared → Prop) (E : Value → Shared → Prop), ds[i]? = some d → (pure = true → w = none) → SOk F h₀ P' ρ w s.heap → St i s.heap →
    (∀ v h₁ tk₁, (∀ (t : Tg) (Q' : Unit → Shared → Prop) (E' : Value → Shared → Prop), okT md t d → (∀ h₂, SOk F h₀ P' ρ w h₂ → St (i + 1) h₂ → Rd F.sg h₂ (Xe F P') v d → (∀ b ob, ¬ Wr b → s.heap.get? b = some ob → h₂.get? b = some ob) → Q' () { s with heap := h₂, toks := tk₁ }) →
      wpAny F.M F.A (letOwnedTupleGo t.toE (.ref I) v) Q' E' { s with heap := h₁, toks := tk₁ }) → Q (some v) { s with heap := h₁, toks := tk₁ }) → wpAny F.M F.A (pyNext (.ref I)) Q E s
  done : ∀ ρ w (s : Shared) (Q : Option Value → Shared → Prop) (E : Value → Shared → Prop), (pure = true → w = none) → SOk F h₀ P' ρ w s.heap → St ds.length s.heap → (∀ h' tk, SOk F h₀ P ρ w h' → (∀ b ob, ¬ Wr b → s.heap.get? b = some ob → h'.get? b = some ob) → Q none { s with heap := h', toks := tk }) → wpAny F.M F.A (pyNext (.ref I)) Q E s
  frame : ∀ i w w' h h', (pure = true → w' = none) → Kp F P' w w' h h' → St i h → St i h'
  sub : ∀ b, P b → P' b
theorem Kp.less {w w' : Ow} {h h' : Heap} (a : Kp F P' w w' h h') (hp : ∀ b, P b → P' b) : Kp F P w w' h h' := ⟨fun b ob q e => a.pk b ob (hp b q) e, a.ck⟩
theorem Kp.stepW {w w' : Ow} {h h' h'' : Heap} {Wr : Av} (a : Kp F P w w' h h') (k : ∀ b ob, ¬ Wr b → h'.get? b = some ob → h''.get? b = some ob) (hW : ∀ b, Wr b → h.get? b = none) : Kp F P w w' h h'' :=
  ⟨fun b ob q e => k b ob (fun q' => by rw [hW b q'] at e; cases e) (a.pk b ob q e), fun e => ⟨(a.ck e).1, fun b ob q e' => k b ob (fun q' => by rw [hW b q'] at e'; cases e') ((a.ck e).2 b ob q e')⟩⟩
theorem keepsV_of {d : D} {v : Value} {h : Heap} (hk : keepOk w d = true) (r : Rd F.sg h (Xe F P) v d) : KeepsV F h₀ P ρ w h v d := by
  cases w with
  | none => trivial
  | some p => intro l vs a; exact noLst_move a.pl (fun b q => q) 4 v d r hk
theorem sTurn_is {kx : Xs} {md : Nat} {t : Tg} {a : PSs} {d : D} {rt : Res} (e : sTurn kx md t a d ρ w = some rt) :
    okTb md t d = true ∧ keepOk w d = true ∧ notNames w (tgNames t) = true ∧ (w = none → rt.2.1 = none) ∧ ∃ ρb, bindT t d ρ = some ρb ∧ exL kx a ρb w = some rt := by
  unfold sTurn at e
  split at e
  · cases e
  · rename_i hk
    obtain ⟨hk, h3⟩ := Bool.and_eq_true_iff.mp hk
    obtain ⟨h1, h2⟩ := Bool.and_eq_true_iff.mp hk
    split at e
    · cases e
    · rename_i ρb hb
      unfold sameOw at e
      split at e
      · exact ⟨h1, h2, h3, (fun q => (by cases q)), ρb, hb, e⟩
      · split at e
        · cases e
        · rename_i hno
          refine ⟨h1, h2, h3, fun _ => ?_, ρb, hb, e⟩
          obtain ⟨r1, r2, r3⟩ := rt
          cases r2 with
          | none => rfl
          | some p => exact (hno _ _ _ e).elim
theorem forS_loop {I : Addr} {ds : List D} {St : Nat → Heap → Prop} {Wr : Av} {md : Nat} {pure : Bool} (W : Wlk F h₀ P P' I ds St Wr md pure) (n : NewFr F h₀) (hh : F.A.handled = none) {kx : Xs} {t : Tg} {a b : PSs} (ht : tgSet F.nk t = true)
    (ha : ∀ ρ w r, exL kx a ρ w = some r → XV F h₀ X₀ (execs a.toL F.env) ρ w r) (hb : ∀ ρ w r, exL kx b ρ w = some r → XV F h₀ X₀ (execs b.toL F.env) ρ w r)
    {r : Res} {s₀ : Shared} {hs : Heap} {tks : Nat} {ρ : Rho} {w : Ow} (hpu : pure = true → w = none) (so : SOk F h₀ P' ρ w hs) (st : St 0 hs) (kp₀ : Kp F P w w s₀.heap hs) (hWs : ∀ b, Wr b → s₀.heap.get? b = none)
    (e : forL (sTurn kx md t a) (exL kx b) ds ρ w = some r) {R : Result → Shared → Prop}
    (hR : ∀ fl h' tk, SOk F h₀ P r.1 r.2.1 h' → Kp F P w r.2.1 s₀.heap h' → FlR F X₀ r.2.2 fl h' → R (.ok fl) { s₀ with heap := h', toks := tk }) :
    codeAny F.M F.A (.forLoop t.toE (.ref I) a.toL b.toL F.env) R { s₀ with heap := hs, toks := tks } := by
  refine codeAny_forLoop_any (fun m s' => ∃ i ρ' w' h' tk, s' = { s₀ with heap := h', toks := tk } ∧ SOk F h₀ P' ρ' w' h' ∧ St i h' ∧ Kp F P w w' s₀.heap h' ∧ (pure = true → w' = none) ∧ forL (sTurn kx md t a) (exL kx b) (ds.drop i) ρ' w' = some r ∧ i ≤ ds.length ∧ m = ds.length + 1 - i) ?_ (ds.length + 1)
    ⟨0, ρ, w, hs, tks, rfl, so, st, kp₀, hpu, e, Nat.zero_le _, rfl⟩
  rintro m s' ⟨i, ρ', w', h', tk, rfl, so', st', kp, hpw, e, hi, rfl⟩
  by_cases hlt : i < ds.length
  · have hdr : ds.drop i = ds[i] :: ds.drop (i + 1) := List.drop_eq_getElem_cons hlt
    rw [hdr] at e
    have ht0 : ∃ rt, sTurn kx md t a ds[i] ρ' w' = some rt := by
      unfold forL at e
      split at e
      · exact ⟨_, by assumption⟩
      · exact ⟨_, by assumption⟩
      · exact ⟨_, e⟩
    obtain ⟨rt, hrt⟩ := ht0
    obtain ⟨h1, h2, h3, h4, ρb, hbd, hex⟩ := sTurn_is hrt
    unfold forL at e
    rw [hrt] at e
    refine W.item i ds[i] ρ' w' { s₀ with heap := h', toks := tk } _ _ (List.getElem?_eq_getElem hlt) hpw so' st' fun v h₁ tk₁ hgo => ?_
    refine hgo t _ _ (okTb_sound h1) fun h₂ so₂ st₂ rv kp₂ => ?_
    refine wp_bind (s := { s₀ with heap := h₂, toks := tk₁ }) n so₂ rv (keepsV_of h2 rv) ht h3 hbd hh fun h₃ tk₃ so₃ kp₃ => ?_
    refine ha ρb w' rt hex P' { s₀ with heap := h₃, toks := tk₃ } so₃ _ _ fun fl h₄ tk₄ so₄ kp₄ hfl => ?_
    have kpl : Kp F P w rt.2.1 s₀.heap h₄ := (kp.stepW kp₂ hWs).trans (Kp.less (kp₃.trans kp₄) W.sub)
    obtain ⟨ρ₂, w₂, fr⟩ := rt
    cases fr with
    | next =>
      cases fl with
      | next =>
        exact ⟨ds.length + 1 - (i + 1), by omega, i + 1, ρ₂, w₂, h₄, tk₄, rfl, so₄, W.frame (i + 1) w' w₂ h₂ h₄ (fun q => h4 (hpw q)) (kp₃.trans kp₄) st₂, kpl, fun q => h4 (hpw q), e, hlt, rfl⟩
      | _ => exact hfl.elim
    | brk =>
      cases e
      cases fl with
      | brk => exact hR .next h₄ tk₄ (so₄.less n W.sub) kpl trivial
      | _ => exact hfl.elim
    | ret d =>
      cases e
      cases fl with
      | ret v => exact hR (.ret v) h₄ tk₄ (so₄.less n W.sub) kpl hfl
      | _ => exact hfl.elim
  · have hin : i = ds.length := by omega
    subst hin
    rw [List.drop_length] at e
    refine W.done ρ' w' { s₀ with heap := h', toks := tk } _ _ hpw so' st' fun h₁ tk₁ so₁ kp₁ => ?_
    refine hb ρ' w' r e P { s₀ with heap := h₁, toks := tk₁ } so₁ _ _ fun fl h₄ tk₄ so₄ kp₄ hfl => ?_
    exact hR fl h₄ tk₄ so₄ ((kp.stepW kp₁ hWs).trans kp₄) hfl
end
end Mine

namespace Mine
/-! the for statement: its walks -/
section
variable {F : Fr} {h₀ : Heap} {X₀ P : Av} {ρ : Rho} {w : Ow} {o : Orc} {k : Nat}
noncomputable def Pw (P Wr : Av) : Av := fun b => P b ∨ Wr b
theorem EOk.doneW {sg : Nat} {B : Heap} {nk : NK} {env : Env} {X X1 Wr : Av} {ρ : Rho} {h h' : Heap} (o : EOk sg B nk env X1 ρ h) (k : ∀ b ob, ¬ Wr b → h.get? b = some ob → h'.get? b = some ob) (hW : ∀ b, Wr b → X1 b) (hX : ∀ b, X b → X1 b) (hd : ∀ b, X b → ¬ Wr b)
    (hl : X env.locals) (hc : ∀ x c, env.cells.lookup x = some c → X c) : EOk sg B nk env X ρ h' where
  fn := o.fn
  ge := o.ge
  be := o.be
  ext := fun b ob e => k b ob (fun q => by rw [o.xlo b (hW b q)] at e; cases e) (o.ext b ob e)
  xok := fun b q => let ⟨ob, e⟩ := o.xok b (hX b q); ⟨ob, k b ob (hd b q) e⟩
  xlo := fun b q => o.xlo b (hX b q)
  kin := o.kin
  loc := ⟨hl, let ⟨m, n⟩ := o.loc.2; ⟨m, n.at' fun ob e => k _ ob (hd _ hl) e⟩⟩
  cel := fun x c e => let ⟨a, b, v, ob, ho, r⟩ := o.cel x c e; ⟨hc x c e, b, v, ob, k _ _ (hd _ (hc x c e)) ho, r⟩
  apart := o.apart
  var := fun x d e => let ⟨v, r, l⟩ := o.var x d e; ⟨v, r.move fun b ob hb e => ⟨k b ob (fun q => hb (hW b q)) e, fun q => hb (hX b q)⟩, l.keep' (fun ob => k _ ob (hd _ hl)) fun c ob e => k _ ob (hd _ (hc _ c e))⟩
theorem SOk.doneW {h h' : Heap} {Wr : Av} (so : SOk F h₀ (Pw P Wr) ρ w h) (n : NewFr F h₀) (hd : ∀ b, Xe F P b → ¬ Wr b) (k : ∀ b ob, ¬ Wr b → h.get? b = some ob → h'.get? b = some ob) : SOk F h₀ P ρ w h' where
  pn := fun b q => so.pn b (.inl q)
  ext := fun b ob e => k b ob (fun q => by rw [(so.pn b (.inr q)).1] at e; cases e) (so.ext b ob e)
  ok := by
    have z := so.ok
    have up : ∀ b, Xe F P b → Xe F (Pw P Wr) b := fun b q => q.imp id .inl
    cases w with
    | none => exact EOk.doneW z k (fun b q => .inr (.inr q)) up hd (.inl n.xl) fun x c e => .inl (n.xc x c e)
    | some p =>
      obtain ⟨l, vs, a⟩ := z
      have hlw : ¬ Wr l := fun q => a.nx (.inr (.inr q))
      have hl0 : ¬ Wr F.env.locals := hd _ (.inl n.xl)
      exact ⟨l, vs, fun q => a.nx (up _ q), a.nh, a.ld.keep' (fun ob => k _ ob hl0) fun c ob e => k _ ob (hd _ (.inl (n.xc _ c e))), a.pl.ext fun ob e => k _ ob hlw e,
        a.rl.move fun b ob hb e => ⟨k b ob (fun q => hb (.inl (.inr (.inr q)))) e, fun q => hb (q.imp (up b) id)⟩,
        a.ok.doneW k (fun b q => .inl (.inr (.inr q))) (fun b q => q.imp (up b) id) (fun b q => q.elim (hd b) fun e => by rw [e]; exact hlw) (.inl (.inl n.xl)) fun x c e => .inl (.inl (n.xc x c e))⟩
theorem wlk_pure {I : Addr} {ds : List D} {St : Nat → Heap → Prop} {Wr : Av} {md : Nat} (n : NewFr F h₀) (hd : ∀ b, Xe F P b → ¬ Wr b) (W : Wk F.sg F.prog F.w F.A (Xe F (Pw P Wr)) I ds St Wr md) : Wlk F h₀ P (Pw P Wr) I ds St Wr md true where
  item := fun i d ρ w s Q E hd hpu so st h => by
    have hw := hpu rfl
    subst hw
    have ok : EOk F.sg F.B F.nk F.env (Xe F (Pw P Wr)) ρ s.heap := so.ok
    refine W.item i d s Q E hd st ok.xok fun v h₁ tk rv hk lv hgo => h v h₁ tk fun t Q' E' hok h2 => ?_
    refine hgo t { s with heap := h₁, toks := tk } Q' E' rfl hok fun h'' st'' rv'' hk'' => ?_
    have kk : ∀ b ob, ¬ Wr b → s.heap.get? b = some ob → h''.get? b = some ob := fun b ob q e => hk'' b ob q (hk b ob q e)
    exact h2 h'' (so.stepW n (fun b q => .inr q) kk (W.live _ _ st'')) st'' rv'' kk
  done := fun ρ w s Q E hpu so st h => W.done s Q E st fun h' tk hk => h h' tk (so.doneW n hd hk) hk
  frame := fun i w w' h h' hpu kp st => W.frame i h h' st fun b ob q e => by
    rcases q with q | q
    · exact kp.pk b ob (.inr q) e
    · exact (kp.ck (hpu rfl)).2 b ob (fun q' => q (.inl q')) e
  sub := fun b q => .inl q
theorem wlk_flat {I : Addr} {ds : List D} {St : Nat → Heap → Prop} {Wr : Av} {md : Nat} (n : NewFr F h₀) (hd : ∀ b, Xe F P b → ¬ Wr b) (W : ∀ X' : Av, (∀ b, Wr b → X' b) → Wk F.sg F.prog F.w F.A X' I ds St Wr md) : Wlk F h₀ P (Pw P Wr) I ds St Wr md false where
  item := fun i d ρ w s Q E hd hpu so st h => by
    have hx : XOk (Xe F (Pw P Wr)) s.heap := (so.seen n).xok
    refine (W (Xe F (Pw P Wr)) fun b q => .inr (.inr q)).item i d s Q E hd st hx fun v h₁ tk rv hk lv hgo => h v h₁ tk fun t Q' E' hok h2 => ?_
    refine hgo t { s with heap := h₁, toks := tk } Q' E' rfl hok fun h'' st'' rv'' hk'' => ?_
    have kk : ∀ b ob, ¬ Wr b → s.heap.get? b = some ob → h''.get? b = some ob := fun b ob q e => hk'' b ob q (hk b ob q e)
    exact h2 h'' (so.stepW n (fun b q => .inr q) kk ((W (Xe F (Pw P Wr)) fun b q => .inr (.inr q)).live _ _ st'')) st'' rv'' kk
  done := fun ρ w s Q E hpu so st h => (W (Xe F (Pw P Wr)) fun b q => .inr (.inr q)).done s Q E st fun h' tk hk => h h' tk (so.doneW n hd hk) hk
  frame := fun i w w' h h' hpu kp st => (W (fun _ => True) fun _ _ => trivial).frame i h h' st fun b ob q e => by
    rcases q with q | q
    · exact kp.pk b ob (.inr q) e
    · exact (q trivial).elim
  sub := fun b q => .inl q
end
end Mine

namespace Mine
/-! the for statement is sound -/
section
variable {F : Fr} {h₀ : Heap} {X₀ P : Av} {ρ : Rho} {w : Ow} {o : Orc} {k : Nat}
theorem SOk.growW {h h' : Heap} {Wr : Av} (so : SOk F h₀ P ρ w h) (n : NewFr F h₀) (kk : Ext h h') (hW : ∀ b, Wr b → h.get? b = none) (hl : ∀ b, Wr b → ∃ ob, h'.get? b = some ob) : SOk F h₀ (Pw P Wr) ρ w h' where
  pn := fun b q => by
    rcases q with q | q
    · exact so.pn b q
    · have seen := so.seen n
      refine ⟨ext_none so.ext (hW b q), fun e => ?_, fun y e => ?_⟩
      · obtain ⟨m, ob, _, _, e2, _⟩ := seen.loc.2
        rw [← e, hW b q] at e2; cases e2
      · obtain ⟨_, _, v, ob, e2, _⟩ := seen.cel y b e
        rw [hW b q] at e2; cases e2
  ext := so.ext.trans kk
  ok := by
    have z := so.ok
    cases w with
    | none =>
      exact EOk.grow z kk (fun b q => q.imp id .inl) fun b q => by
        rcases q with q | q | q
        · exact .inl (.inl q)
        · exact .inl (.inr q)
        · exact .inr ⟨hW b q, hl b q⟩
    | some p =>
      obtain ⟨l, vs, a⟩ := z
      have hlw : ¬ Wr l := fun q => by obtain ⟨m, e⟩ := a.pl; rw [hW l q] at e; cases e
      refine ⟨l, vs, fun q => ?_, a.nh, a.ld.keep kk, a.pl.ext fun ob e => kk _ ob e, a.rl.move fun b ob hb e => ⟨kk b ob e, fun q => ?_⟩, a.ok.grow kk (fun b q => q.imp (fun q => q.imp id .inl) id) fun b q => ?_⟩
      · rcases q with q | q | q
        · exact a.nx (.inl q)
        · exact a.nx (.inr q)
        · exact hlw q
      · rcases q with (q | q | q) | q
        · exact hb (.inl (.inl q))
        · exact hb (.inl (.inr q))
        · rw [hW b q] at e; cases e
        · exact hb (.inr q)
      · rcases q with (q | q | q) | q
        · exact .inl (.inl (.inl q))
        · exact .inl (.inl (.inr q))
        · exact .inr ⟨hW b q, hl b q⟩
        · exact .inl (.inr q)
theorem for_sound {f : Ev} (hf : TellsX F (withOw ρ w) f) (hy : Hyp F o k) (n : NewFr F h₀) {kx : Xs} {t : Tg} {iter : PE} {a b : PSs} {p : Pos} {r : Res}
    (ha : ∀ ρ w r, exL kx a ρ w = some r → XV F h₀ X₀ (execs a.toL F.env) ρ w r) (hb : ∀ ρ w r, exL kx b ρ w = some r → XV F h₀ X₀ (execs b.toL F.env) ρ w r)
    (e : sFor f kx F.nk t iter a b ρ w = some r) : XV F h₀ X₀ (exec (PS.forS t iter a b p).toS F.env) ρ w r := by
  intro P s so Q E h
  unfold sFor at e
  split at e
  · rename_i ds md hi
    split at e
    · rename_i hc
      obtain ⟨ht, hn⟩ := Bool.and_eq_true_iff.mp hc
      have seen := so.seen n
      have dis : ∀ {Wr : Av}, (∀ b, Wr b → s.heap.get? b = none) → ∀ b, Xe F P b → ¬ Wr b := fun hW b q q' => by
        obtain ⟨ob, e⟩ := seen.xok b q
        rw [hW b q'] at e; cases e
      have hsi : ∀ x, foldedSetIterable iter.toE F.env x = pure x := notSet _ _
      cases w with
      | none =>
        have hi : iterE (f false) F.nk iter = some (ds, md) := hi
        have iv := iterE_sound (F := F.to F.nk F.env (Xe F P) ρ) (o := o) (k := k) (hf (Xe F P)).1 (hy.to _ _ _ _) hi
        refine wpAny_For (iv s seen _ E fun I h' tk Wr kk hW hl hWk => ?_) hsi
        obtain ⟨St, W, st⟩ := hWk (Xe F (Pw P Wr)) (fun b q => q.imp id .inl) (fun b q => .inr (.inr q)) fun b q => by
          rcases q with q | q | q
          · exact .inl (.inl q)
          · exact .inl (.inr q)
          · exact .inr (.inl q)
        exact forS_loop (wlk_pure n (dis hW) W) n hy.hh ht ha hb (fun _ => rfl) (so.growW n kk hW hl) st (Kp.ext kk) hW e fun fl h'' tk' so'' kp hfl => h fl h'' tk' so'' kp hfl
      | some ow =>
        have hi : iterV f iter = some (ds, md) := hi
        unfold iterV at hi
        split at hi
        · rename_i d hd
          split at hi
          · rename_i hnl
            split at hi
            · rename_i ds' hit
              cases hi
              refine wpAny_For (use_val n so (fun X' => (hf X').1 iter d hd) fun v h₁ tk₁ k₁ rv _ => ?_) hsi
              refine walk_flat (F := F) (X := Xe F P) (s := { s with heap := h₁, toks := tk₁ }) rv hnl hit hy.hh fun I h' tk Wr St kk hW hl hWk st => ?_
              have hW0 : ∀ b, Wr b → s.heap.get? b = none := fun b q => ext_none k₁ (hW b q)
              exact forS_loop (wlk_flat n (dis hW0) hWk) n hy.hh ht ha hb (fun q => by cases q) (so.growW n (k₁.trans kk) hW0 hl) st (Kp.ext (k₁.trans kk)) hW0 e fun fl h'' tk' so'' kp hfl => h fl h'' tk' so'' kp hfl
            · cases hi
          · cases hi
        · cases hi
    · cases e
  · cases e
end
end Mine

namespace Mine
/-! what changes an owned list -/
section
variable {prog : Program} {w : World} {A : Around} {E : Value → Shared → Prop} {s : Shared}
theorem setItemE {l : Addr} {vs : List Value} {k : Int} {t : Tok} {v : Value} {Q : Unit → Shared → Prop} (hl : PL s.heap l vs) (h0 : 0 ≤ k) (hfit : k < 2 ^ 63) (hn : k < vs.length)
    (hQ : ∀ h', PL h' l (vs.set k.toNat v) → Heap.SameBut l s.heap h' → Q () { s with heap := h' }) :
    wpAny (model prog w) A (setItem (.ref l) (.int k t) v) Q E s := by
  obtain ⟨ne, ho⟩ := hl
  have hil : s.heap.IsList l ⟨vs⟩ := ⟨_, ho, rfl, ne, rfl⟩
  unfold setItem
  try with_reducible refine wpAny_holding ?_
  first | refine wpAny_bind (wpAny_pure ?_) | skip
  refine wpAny_bind (wpAny_sequenceKey hil.typeIs (by decide) ?_)
  refine wpAny_bind (wpAny_callSpecial?_slot (name := Str.ofString "__setitem__") hil.typeIs slot_list_setitem
    (wpAny_call_entry slot_list_setitem hil.typeIs entry_list_setitem ?_ (args_list_setitem _ _ _)))
  show wpAny _ _ (Builtin.List.listSubscript? (.int k t) >>= _) _ _ s
  refine wpAny_bind (wpAny_listSubscript_int (fitsIndex_of h0 hfit) ?_)
  clear hfit
  obtain ⟨j, rfl⟩ := Int.eq_ofNat_of_zero_le h0
  have hj : j < (⟨vs⟩ : Array Value).size := by simp only [List.size_toArray]; omega
  have hx' : (⟨vs⟩ : Array Value)[j]? = some (⟨vs⟩ : Array Value)[j] := Array.getElem?_eq_getElem hj
  show wpAny _ _ ((seqItemAt l j >>= fun r => pure (r.map (j, ·))) >>= _) _ _ s
  refine wpAny_bind (wpAny_bind (wpAny_seqItemAt ho rfl (wpAny_pure ?_)))
  rw [hx']
  show wpAny _ _ (setSeqItemAt l j v >>= _) _ _ s
  have hfin : PL (s.heap.update l (Obj.mapSeq (·.setIfInBounds j v))) l (vs.set j v) := by
    have e := Heap.get?_update_self (Obj.mapSeq (·.setIfInBounds j v)) ho rfl
    obtain ⟨n', hd'⟩ := Obj.data_mapSeq (o := { cls := .type "list", dict := none, data := .seq ⟨vs⟩ ne, slots := #[] }) rfl (·.setIfInBounds j v)
    refine ⟨n', e.trans ?_⟩
    have c1 : (Obj.mapSeq (·.setIfInBounds j v) { cls := .type "list", dict := none, data := .seq ⟨vs⟩ ne, slots := #[] } : Obj) = { cls := .type "list", dict := none, data := .seq ((⟨vs⟩ : Array Value).setIfInBounds j v) n', slots := #[] } := by
      rw [← hd']; rfl
    rw [c1]
    congr 3
    simp
  refine wpAny_bind (wpAny_setSeqItemAt ho rfl ?_)
  first
    | exact wpAny_bind (wpAny_pure (wpAny_pure ⟨.none, rfl, wpAny_pure (hQ _ hfin (Heap.SameBut.update ..))⟩))
    | exact wpAny_pure ⟨.none, rfl, wpAny_pure (hQ _ hfin (Heap.SameBut.update ..))⟩
end
end Mine

namespace Mine
/-! statements on an owned list -/
section
variable {F : Fr} {h₀ : Heap} {X₀ P : Av} {ρ : Rho} {w : Ow} {o : Orc} {k : Nat}
/-- after a change of the owned list's place alone -/
theorem OwOk.changed (n : NewFr F h₀) {x : Nat} {ds ds' : List D} {h h' : Heap} {l : Addr} {vs vs' : List Value} (a : OwOk F h₀ P ρ x ds h l vs) (hs : Heap.SameBut l h h') (pl : PL h' l vs') (rl : RdL F.sg h (Xl F P l) vs' ds') : OwOk F h₀ P ρ x ds' h' l vs' := by
  have kl : ∀ b ob, ¬ (b = l) → h.get? b = some ob → h'.get? b = some ob := fun b ob q e => hs.extBut b ob q e
  have nl : F.env.locals ≠ l := fun e => a.nx (.inl (e ▸ n.xl))
  have nc : ∀ y c, F.env.cells.lookup y = some c → c ≠ l := fun y c e q => a.nx (.inl (q ▸ n.xc y c e))
  exact ⟨a.nx, a.nh, a.ld.keep' (fun ob => kl _ ob nl) fun c ob e => kl _ ob (nc _ c e), pl, rl.keep fun b ob hb e => kl b ob (fun q => hb (.inr q)) e,
    a.ok.step kl (fun b q => .inr q) (SameBut.live hs a.ok.xok (let ⟨_, e⟩ := pl; ⟨_, e⟩)) nl nc⟩
theorem SOk.changed (n : NewFr F h₀) {x : Nat} {ds ds' : List D} {h h' : Heap} {l : Addr} {vs vs' : List Value} (so : SOk F h₀ P ρ (some (x, ds)) h) (a : OwOk F h₀ P ρ x ds h l vs) (hs : Heap.SameBut l h h') (pl : PL h' l vs') (rl : RdL F.sg h (Xl F P l) vs' ds') :
    SOk F h₀ P ρ (some (x, ds')) h' ∧ Kp F P (some (x, ds)) (some (x, ds')) h h' :=
  ⟨⟨so.pn, fun b ob e => hs.extBut b ob (fun q => by rw [q, a.nh] at e; cases e) (so.ext b ob e), l, vs', a.changed n hs pl rl⟩,
    fun b ob q e => hs.extBut b ob (fun q' => a.nx (.inr (q' ▸ q))) e, fun e => by cases e⟩
theorem setL_is : ∀ (l : List D) (i : Nat) (d : D) (l' : List D), setL l i d = some l' → i < l.length ∧ l' = l.set i d
  | _ :: l, 0, d, l', e => by cases e; exact ⟨Nat.zero_lt_succ _, rfl⟩
  | x :: l, i + 1, d, l', e => by
    unfold setL at e
    split at e
    · rename_i l'' hl
      cases e
      obtain ⟨h1, h2⟩ := setL_is l i d l'' hl
      exact ⟨Nat.succ_lt_succ h1, by rw [h2]; rfl⟩
    · cases e
theorem RdL.set {sg : Nat} {h : Heap} {X : Av} : ∀ {vs : List Value} {ds : List D} (i : Nat) {v : Value} {d : D}, RdL sg h X vs ds → Rd sg h X v d → RdL sg h X (vs.set i v) (ds.set i d)
  | _, _, _, _, _, .nil, _ => .nil
  | _, _, 0, _, _, .cons _ rl, r => .cons r rl
  | _, _, i + 1, _, _, .cons r0 rl, r => .cons r0 (rl.set i r)
end
end Mine

namespace Mine
section
variable {F : Fr} {h₀ : Heap} {X₀ P : Av} {ρ : Rho} {w : Ow} {o : Orc} {k : Nat}
theorem wp_load {x : Nat} {v : Value} {p : Pos} {s : Shared} {Q : Value → Shared → Prop} {E : Value → Shared → Prop} (fn : F.env.scope.kind = .function) (l : Ld F.env (nm x) v s.heap) (h : Q v s) : wpAny F.M F.A (eval (.Name (nm x) p) F.env) Q E s := by
  refine wpAny_Name ?_ (nm_debug x)
  rcases l with ⟨hk, m, hn, hm⟩ | ⟨hk | hk, c, hc, hv⟩
  · exact wpAny_loadName_local fn hk hn hm h
  · exact wpAny_loadName_cell fn hk hc hv h
  · exact wpAny_loadName_free fn hk hc hv h (nm_classdict x)
theorem setI_sound {f : Ev} (hf : TellsX F (withOw ρ w) f) (n : NewFr F h₀) {x : Nat} {xp sp p : Pos} {i e : PE} {r : Res} (hc : isComp e = false) (ev : sSetI f x i e ρ w = some r) : XV F h₀ X₀ (exec (PS.setI x xp i sp e p).toS F.env) ρ w r := by
  unfold sSetI at ev
  split at ev
  · rename_i d kk y l hd hi
    split at ev
    · rename_i hcond
      split at ev
      · rename_i l' hl'
        cases ev
        obtain ⟨hcond, h4⟩ := Bool.and_eq_true_iff.mp hcond
        obtain ⟨hcond, h3⟩ := Bool.and_eq_true_iff.mp hcond
        obtain ⟨h1, h2⟩ := Bool.and_eq_true_iff.mp hcond
        have h1 := Nat.eq_of_beq_eq_true h1
        subst h1
        have h3 := of_decide_eq_true h3
        have h4 := of_decide_eq_true h4
        obtain ⟨hlt, hset⟩ := setL_is _ _ _ _ hl'
        have hlim := lim_is
        intro P s so Q E h
        show wpAny F.M F.A (exec (.Assign [.Subscript (.Name (nm y) xp) i.toE sp] e.toE p) F.env) Q E s
        rw [exec_Assign_Subscript _ _ _ _ _ (noSwap e hc _ _ _)]
        refine wpAny_bind (wpAny_standAt (wpAny_bind (use_val n so (fun X' => (hf X').1 e d hd) fun v h₁ tk₁ k₁ rv hkv => ?_)))
        rw [arm_assign_Subscript]
        have so1 := so.keep k₁
        obtain ⟨a, vs, oo⟩ := so1.ok
        have rv' := hkv h2 a vs oo
        refine wpAny_bind (wpAny_bind (wpAny_holding (wp_load oo.ok.fn oo.ld ?_)))
        refine wpAny_bind (wpAny_holding (use_val (s := { s with heap := h₁, toks := tk₁ }) n so1 (fun X' => (hf X').1 i _ hi) fun iv h₂ tk₂ k₂ ri _ => ?_))
        cases ri with | int _ t =>
        have oo2 : OwOk F h₀ P ρ y l h₂ a vs := ⟨oo.nx, oo.nh, oo.ld.keep k₂, oo.pl.ext fun ob e => k₂ _ ob e, oo.rl.ext k₂, oo.ok.keep k₂⟩
        refine wpAny_bind (wpAny_standAt (wpAny_bind (wpAny_holding (setItemE oo2.pl h4 (by omega) (by have := oo2.rl.length; omega) fun h₃ pl₃ hs₃ => ?_))))
        refine wpAny_release (wpAny_pure ?_)
        have z := (so1.keep k₂).changed n oo2 hs₃ pl₃ (ds' := l') (by rw [hset]; exact oo2.rl.set _ (rv'.ext k₂))
        exact h .next h₃ _ z.1 ((Kp.ext (k₁.trans k₂)).trans z.2) trivial
      · cases ev
    · cases ev
  · cases ev
end
end Mine

namespace Mine
section
variable {F : Fr} {h₀ : Heap} {X₀ P : Av} {ρ : Rho} {w : Ow} {o : Orc} {k : Nat}
theorem app_sound {f : Ev} (hf : TellsX F (withOw ρ w) f) (n : NewFr F h₀) {x : Nat} {xp ap cp p : Pos} {e : PE} {r : Res} (hi : interactive F.env = false) (ev : sApp f x ap cp e ρ w = some r) : XV F h₀ X₀ (exec (PS.app x xp ap cp e p).toS F.env) ρ w r := by
  unfold sApp at ev
  split at ev
  · rename_i d y l hd
    split at ev
    · rename_i hcond
      cases ev
      obtain ⟨hcond, h4⟩ := Bool.and_eq_true_iff.mp hcond
      obtain ⟨hcond, h3⟩ := Bool.and_eq_true_iff.mp hcond
      obtain ⟨h1, h2⟩ := Bool.and_eq_true_iff.mp hcond
      have h1 := Nat.eq_of_beq_eq_true h1
      subst h1
      have h3 := of_decide_eq_true h3
      have hlim := lim_is
      have hsl := sizeLine_lim
      intro P s so Q E h
      obtain ⟨a, vs, oo⟩ := so.ok
      have ht : backTo cp (starEach [e.toE] F.env) = [(false, eval e.toE F.env)] := by rw [star_toE]; rfl
      refine wpAny_Expr_any (e := .Call (.Attribute (.Name (nm y) xp) (nm 23) ap) [e.toE] [] cp) ?_ hi rfl
      refine wpAny_Call_append (o := .Name (nm y) xp) rfl (by rw [ht]; rfl) h4 ht (wp_load oo.ok.fn oo.ld ⟨a, ⟨vs⟩, rfl, ⟨_, _, oo.pl.choose_spec, rfl, rfl, rfl⟩, ?_⟩)
      · refine use_val n so (fun X' => (hf X').1 e d hd) fun v h₁ tk₁ k₁ rv hkv => ?_
        have so1 := so.keep k₁
        have oo1 : OwOk F h₀ P ρ y l h₁ a vs := ⟨oo.nx, oo.nh, oo.ld.keep k₁, oo.pl.ext fun ob e => k₁ _ ob e, oo.rl.ext k₁, oo.ok.keep k₁⟩
        have rv' := hkv h2 a vs oo1
        refine wpAny_list_append_plain oo1.pl (fun h₂ hp hs => ?_) (by have := oo1.rl.length; simp only [List.size_toArray]; omega)
        have hpl : PL h₂ a (vs ++ [v]) := by
          obtain ⟨m, e⟩ := hp
          exact ⟨m, by rw [e]; simp⟩
        have z := so1.changed n oo1 hs hpl (ds' := l ++ [d]) (oo1.rl.append (.cons rv' .nil))
        exact h .next h₂ tk₁ z.1 ((Kp.ext k₁).trans z.2) trivial
    · cases ev
  · cases ev
end
end Mine

namespace Mine
section
variable {F : Fr} {h₀ : Heap} {X₀ P : Av} {ρ : Rho} {w : Ow} {o : Orc} {k : Nat}
theorem RdL.dropLast {sg : Nat} {h : Heap} {X : Av} : ∀ {vs : List Value} {ds : List D}, RdL sg h X vs ds → RdL sg h X vs.dropLast ds.dropLast
  | _, _, .nil => .nil
  | _, _, .cons _ .nil => .nil
  | _, _, .cons r (.cons r2 rl) => .cons r (RdL.dropLast (.cons r2 rl))
theorem pop_sound (n : NewFr F h₀) {x : Nat} {xp ap cp p : Pos} {r : Res} (hi : interactive F.env = false) (ev : sPop x ap cp ρ w = some r) : XV F h₀ X₀ (exec (PS.pop x xp ap cp p).toS F.env) ρ w r := by
  unfold sPop at ev
  split at ev
  · rename_i y l
    split at ev
    · rename_i hcond
      cases ev
      obtain ⟨hcond, h4⟩ := Bool.and_eq_true_iff.mp hcond
      obtain ⟨hcond, h3⟩ := Bool.and_eq_true_iff.mp hcond
      obtain ⟨h1, h2⟩ := Bool.and_eq_true_iff.mp hcond
      have h1 := Nat.eq_of_beq_eq_true h1
      subst h1
      have h2 := of_decide_eq_true h2
      have h3 := of_decide_eq_true h3
      have hlim := lim_is
      have hsl := sizeLine_lim
      intro P s so Q E h
      obtain ⟨a, vs, oo⟩ := so.ok
      have hlen := oo.rl.length
      obtain ⟨m, hm⟩ := oo.pl
      have hlast : ∃ y, (⟨vs⟩ : Array Value)[(⟨vs⟩ : Array Value).size - 1]? = some y := ⟨_, Array.getElem?_eq_getElem (by simp only [List.size_toArray]; omega)⟩
      obtain ⟨yv, hy⟩ := hlast
      refine wpAny_Expr_any (e := .Call (.Attribute (.Name (nm y) xp) (nm 81) ap) [] [] cp) ?_ hi rfl
      refine wpAny_Call_method0_late (o := .Name (nm y) xp) rfl h4 (wp_load oo.ok.fn oo.ld ⟨"list", "list.pop", PySem.F.plainAttrs_list, PySem.F.slot_list_pop, PySem.F.type_list_pop, ⟨_, hm, rfl⟩, fun b e => (by cases e; exact ⟨_, hm, rfl⟩), ?_⟩)
      refine PySem.P.pop_list hm hy ?_ (by simp only [List.size_toArray]; omega)
      have e := Heap.get?_update_self (Obj.mapSeq fun xs => xs.eraseIdxIfInBounds ((⟨vs⟩ : Array Value).size - 1)) hm rfl
      obtain ⟨n', hd'⟩ := Obj.data_mapSeq (o := { cls := .type "list", dict := none, data := .seq ⟨vs⟩ m, slots := #[] }) rfl (fun xs => xs.eraseIdxIfInBounds ((⟨vs⟩ : Array Value).size - 1))
      have hpl : PL (s.heap.update a (Obj.mapSeq fun xs => xs.eraseIdxIfInBounds ((⟨vs⟩ : Array Value).size - 1))) a vs.dropLast := by
        refine ⟨n', e.trans ?_⟩
        have c1 : (Obj.mapSeq (fun xs => xs.eraseIdxIfInBounds ((⟨vs⟩ : Array Value).size - 1)) { cls := .type "list", dict := none, data := .seq ⟨vs⟩ m, slots := #[] } : Obj) = { cls := .type "list", dict := none, data := .seq ((⟨vs⟩ : Array Value).eraseIdxIfInBounds ((⟨vs⟩ : Array Value).size - 1)) n', slots := #[] } := by
          rw [← hd']; rfl
        rw [c1]
        have c2 : (⟨vs⟩ : Array Value).eraseIdxIfInBounds ((⟨vs⟩ : Array Value).size - 1) = ⟨vs.dropLast⟩ := by
          have hv : vs ≠ [] := by rintro rfl; simp at hlen; omega
          have hs : vs.length - 1 < vs.length := by cases vs with | nil => exact (hv rfl).elim | cons _ _ => simp
          apply Array.ext'
          unfold Array.eraseIdxIfInBounds
          rw [dif_pos (by simpa using hs)]
          simp [List.eraseIdx_eq_take_drop_succ, List.dropLast_eq_take]
          omega
        rw [c2]
      have z := so.changed n oo (Heap.SameBut.update ..) hpl (ds' := l.dropLast) oo.rl.dropLast
      exact h .next _ s.toks z.1 z.2 trivial
    · cases ev
  · cases ev
end
end Mine

namespace Mine
/-! a list that a frame owns -/
section
variable {F : Fr} {h₀ : Heap} {X₀ P : Av} {ρ : Rho} {w : Ow} {o : Orc} {k : Nat}
theorem SOk.bare (n : NewFr F h₀) {h : Heap} (o : SOk F h₀ P ρ w h) : EOk F.sg F.B F.nk F.env (Xe F P) ρ h := by
  have z := o.ok
  cases w with
  | none => exact z
  | some p =>
    obtain ⟨x, ds⟩ := p
    obtain ⟨l, vs, a⟩ := z
    exact a.ok.less (fun b q => .inl q) (.inl n.xl) fun x c e => .inl (n.xc x c e)
theorem notIn_is {x : Nat} (h : notIn ρ x = true) : getR ρ x = none := by
  unfold notIn at h
  split at h
  · assumption
  · cases h
theorem own_store {x : Nat} {vs : List Value} {ds : List D} {h₁ : Heap} {s : Shared} {Q : Unit → Shared → Prop} {E : Value → Shared → Prop} (n : NewFr F h₀) (so : SOk F h₀ P ρ w h₁) (hx : setOk F.nk x = true) (hni : notIn ρ x = true)
    (r : RdL F.sg h₁ (Xe F P) vs ds) (hs : s.heap = h₁.push { cls := .type "list", data := .seq vs.toArray })
    (h : ∀ h' tk, SOk F h₀ P ρ (some (x, ds)) h' → Kp F P w (some (x, ds)) h₁ h' → Q () { s with heap := h', toks := tk }) : wpAny F.M F.A (storeName F.env (nm x) (.ref h₁.objs.size)) Q E s := by
  have k₁ : Ext h₁ s.heap := by rw [hs]; exact Ext.push _ _
  have ha : h₁.get? h₁.objs.size = none := new_none (Nat.le_refl _)
  have b1 := so.bare n
  have hnx : ¬ Xe F P h₁.objs.size := b1.xok.fresh (Nat.le_refl _)
  have hpl : PL s.heap h₁.objs.size vs := ⟨0, by rw [hs]; exact Heap.get?_push_size _ rfl⟩
  have hrl : RdL F.sg s.heap (Xl F P h₁.objs.size) vs ds := r.move fun b ob hb e => ⟨k₁ _ _ e, fun q => q.elim hb fun q => by rw [q, ha] at e; cases e⟩
  have hnh : h₀.get? h₁.objs.size = none := by
    cases e : h₀.get? h₁.objs.size with
    | none => rfl
    | some ob => rw [so.ext _ _ e] at ha; cases ha
  have hBn : F.B.get? h₁.objs.size = none := by
    cases e : F.B.get? h₁.objs.size with
    | none => rfl
    | some ob => rw [b1.ext _ _ e] at ha; cases ha
  generalize haa : h₁.objs.size = a at *
  refine wp_store (X := Xe F P) (b1.keep k₁) (.lst hnx hpl (hrl.move fun b ob hb e => ⟨e, fun q => hb (.inl q)⟩)) hx fun h' tk ok kk hld hldx => ?_
  have hown : ∀ b, Own F.env [x] b → F.X b := fun b q => (n.own q).2
  have hna : ¬ Own F.env [x] a := fun q => hnx (.inl (hown a q))
  refine h h' tk ⟨so.pn, fun b ob e => kk b ob (fun q => by rw [(n.own q).1] at e; cases e) (k₁ _ _ (so.ext b ob e)), a, vs, hnx, hnh, hldx, hpl.ext fun ob e => kk _ ob hna e, hrl.keep fun b ob hb e => kk b ob (fun q => hb (.inl (.inl (hown b q)))) e, ?_⟩ ⟨fun b ob hp e => kk b ob (fun q => ?_) (k₁ _ _ e), fun e => by cases e⟩
  · refine { ok with xok := ?_, xlo := ?_, loc := ⟨.inl ok.loc.1, ok.loc.2⟩, cel := fun y c e => ⟨.inl (ok.cel y c e).1, (ok.cel y c e).2⟩, var := ?_ }
    · rintro b (q | q)
      · exact ok.xok b q
      · rw [q]; obtain ⟨m, e⟩ := hpl; exact ⟨_, kk _ _ hna e⟩
    · rintro b (q | q)
      · exact ok.xlo b q
      · rw [q]; exact hBn
    · intro y d e
      have hyx : y ≠ x := fun q => by rw [q, notIn_is hni] at e; cases e
      obtain ⟨v, rv, lv⟩ := b1.var y d e
      refine ⟨v, rv.move fun b ob hb e => ⟨kk b ob (fun q => hb (.inl (hown b q))) (k₁ _ _ e), fun q => q.elim hb fun q => by rw [q, ha] at e; cases e⟩, hld y v hyx (lv.keep k₁)⟩
  · rcases q with q | ⟨y, _, _, q⟩
    · exact (so.pn b hp).2.1 q
    · exact (so.pn b hp).2.2 _ q
theorem own_sound (hy : Hyp F o k) (n : NewFr F h₀) {m : Nat} {x : Nat} {xp p : Pos} {e : PE} {r : Res} (e1 : sOwn (ev (m + 1) o F.nk (withOw ρ w)) F.nk x e ρ w = some r) :
    XV F h₀ X₀ (exec (PS.own x xp e p).toS F.env) ρ w r := by
  unfold sOwn at e1
  split at e1
  · rename_i l hl
    split at e1
    · rename_i hcond
      cases e1
      obtain ⟨hcond, h4⟩ := Bool.and_eq_true_iff.mp hcond
      obtain ⟨hcond, h3⟩ := Bool.and_eq_true_iff.mp hcond
      intro P s so Q E h
      have hf : TellsX F (withOw ρ w) (ev m o F.nk (withOw ρ w)) := tells_ev hy m _
      rcases Bool.or_eq_true_iff.mp hcond with hd | hg
      · obtain ⟨hd, _⟩ := Bool.and_eq_true_iff.mp hd
        cases e with
        | lst es lp =>
          change lstN (ev m o F.nk (withOw ρ w)) es = some _ at hl
          unfold lstN at hl
          split at hl
          · rename_i ds hds
            split at hl
            · rename_i hlim
              cases hl
              have lv := (mapE_sound (F := F.to F.nk F.env (Xe F P) (withOw ρ w)) (hf (Xe F P)).1 es _ hds).lv
              refine wpAny_Assign_stores (targets := [(Tg.one x xp).toE]) (wpAny_List (lv s (so.seen n) _ _ _ fun vs h' tk kk rl => ⟨by rw [rl.length]; exact Nat.le_trans (of_decide_eq_true hlim) sizeLine_lim, ?_⟩)) rfl rfl
              show wpAny _ _ (assign (.Name (nm x) xp) F.env _) _ _ _
              refine wpAny_assign_Name (own_store (h₁ := h') n (so.keep kk) h3 h4 rl rfl fun h'' tk' so'' k' => ?_)
              exact h .next h'' tk' so'' ((Kp.ext kk).trans k') trivial
            · cases hl
          · cases hl
        | _ => cases hd
      · obtain ⟨hg, hw⟩ := Bool.and_eq_true_iff.mp hg
        have he : ∃ y yp re bp, e = .bin (.nm y yp) .Add re bp := by
          unfold isGrow at hg
          split at hg
          · exact ⟨_, _, _, _, rfl⟩
          · cases hg
        obtain ⟨y, yp, re, bp, rfl⟩ := he
        · have hg : y = x := Nat.eq_of_beq_eq_true hg
          subst hg
          cases w with
          | none => cases hw
          | some pw =>
          obtain ⟨z, zs⟩ := pw
          have hw : z = y := Nat.eq_of_beq_eq_true hw
          subst hw
          change bin2 (ev m o F.nk (withOw ρ (some (z, zs)))) (.nm z yp) .Add re = some _ at hl
          unfold bin2 at hl
          split at hl
          · cases hl
          · rename_i a ha
            split at hl
            · cases hl
            · rename_i b hb
              have ha' : a = .lst zs := by
                cases m with
                | zero => cases ha
                | succ m =>
                  change getR ((z, .lst zs) :: ρ) z = some a at ha
                  rw [getR_cons, if_pos rfl] at ha
                  cases ha; rfl
              subst ha'
              change addF (.lst zs) b = some _ at hl
              cases b with
              | lst bs =>
                change (match Nat.ble (zs.length + bs.length) 1000000 with | true => some (D.lst (zs ++ bs)) | false => none) = some (D.lst l) at hl
                split at hl
                · rename_i hle
                  cases hl
                  have hle := Nat.le_of_ble_eq_true hle
                  refine wpAny_Assign_stores (targets := [(Tg.one z xp).toE]) (Q := Q) ?_ rfl rfl
                  obtain ⟨a0, vs0, oo⟩ := so.ok
                  refine wpAny_BinOp (l := .Name (nm z) yp) (r := re.toE) (op := .Add) (pos := bp) (wp_load oo.ok.fn oo.ld ?_)
                  refine use_val n so (fun X' => (hf X').1 re _ hb) fun v h' tk kk rv _ => ?_
                  cases rv with | @lst ab vsb _ hab plb rlb =>
                  have oo' : OwOk F h₀ P ρ z zs h' a0 vs0 := ⟨oo.nx, oo.nh, oo.ld.keep kk, oo.pl.ext fun ob e => kk _ ob e, oo.rl.ext kk, oo.ok.keep kk⟩
                  refine add_listsE oo'.pl plb (by rw [oo'.rl.length, rlb.length]; exact Nat.le_trans hle sizeLine_lim) ?_
                  show wpAny _ _ (assign (.Name (nm z) xp) F.env _) _ _ _
                  refine wpAny_assign_Name (own_store (h₁ := h') n (so.keep kk) h3 h4 ((oo'.rl.move fun b ob hb e => ⟨e, fun q => hb (.inl q)⟩).append rlb) rfl fun h'' tk' so'' k' => ?_)
                  exact h .next h'' tk' so'' ((Kp.ext kk).trans k') trivial
                · cases hl
              | _ => cases hl
    · cases e1
  · cases e1
/-- a place new since the frame's state, among those to be kept away from -/
theorem EOk.grow1 {sg : Nat} {B : Heap} {nk : NK} {env : Env} {X : Av} {ρ : Rho} {h h' : Heap} {C : Addr} (o : EOk sg B nk env X ρ h) (k : Ext h h') (hC : h.get? C = none) (hl : ∃ ob, h'.get? C = some ob) : EOk sg B nk env (fun b => X b ∨ b = C) ρ h' :=
  ⟨o.fn, o.ge, o.be, (o.keep k).ext, fun b q => q.elim ((o.keep k).xok b) fun q => q ▸ hl, fun b q => q.elim (o.xlo b) (fun q => by
      rw [q]
      cases e : B.get? C with
      | none => rfl
      | some ob => rw [o.ext _ _ e] at hC; cases hC), o.kin, ⟨.inl o.loc.1, (o.keep k).loc.2⟩, fun y c e => ⟨.inl (o.cel y c e).1, ((o.keep k).cel y c e).2⟩, o.apart, fun y d e => by
    obtain ⟨v, r, l⟩ := o.var y d e
    exact ⟨v, r.move fun b ob hb e => ⟨k _ _ e, fun q => q.elim hb fun q => by rw [q, hC] at e; cases e⟩, l.keep k⟩⟩
/-- such a place let go again -/
theorem EOk.drop1 {sg : Nat} {B : Heap} {nk : NK} {env : Env} {X : Av} {ρ : Rho} {h h' : Heap} {C : Addr} (o : EOk sg B nk env (fun b => X b ∨ b = C) ρ h) (k : ∀ b ob, ¬ (b = C) → h.get? b = some ob → h'.get? b = some ob) (hC : ¬ X C) (hl : X env.locals) (hc : ∀ y c, env.cells.lookup y = some c → X c) : EOk sg B nk env X ρ h' :=
  ⟨o.fn, o.ge, o.be, fun b ob e => k b ob (fun q => by rw [q, o.xlo C (.inr rfl)] at e; cases e) (o.ext b ob e), fun b q => let ⟨ob, e⟩ := o.xok b (.inl q); ⟨ob, k b ob (fun q' => hC (q' ▸ q)) e⟩, fun b q => o.xlo b (.inl q), o.kin,
    ⟨hl, let ⟨m, n⟩ := o.loc.2; ⟨m, n.at' fun ob e => k _ ob (fun q => hC (q ▸ hl)) e⟩⟩, fun y c e => ⟨hc y c e, (o.cel y c e).2.1, let ⟨v, ob, e2, r⟩ := (o.cel y c e).2.2; ⟨v, ob, k _ _ (fun q => hC (q ▸ hc y c e)) e2, r⟩⟩, o.apart, fun y d e => by
    obtain ⟨v, r, l⟩ := o.var y d e
    exact ⟨v, r.move fun b ob hb e => ⟨k b ob (fun q => hb (.inr q)) e, fun q => hb (.inl q)⟩, l.keep' (fun ob => k _ ob fun q => hC (q ▸ hl)) fun c ob e => k _ ob fun q => hC (q ▸ hc _ c e)⟩⟩
theorem asgComp_ev (hh : F.A.handled = none) (n : NewFr F h₀) {x : Nat} {xp p : Pos} {elt : PE} {t : Tg} {iter : PE} {c : PEs} {names : NK} {cp : Pos} {ds rs : List D} {md : Nat} (hit : ∀ X', IV (F.to F.nk F.env X' ρ) iter.toE ds md) (hc : compOk F.nk names = true) (ht : tgSet names t = true) (hds : ds.length ≤ lim)
    (hT : ∀ X', Turns (TurnP (F.to F.nk F.env X' ρ) names t c elt md) ds rs) (h3 : setOk F.nk x = true) : XV F h₀ X₀ (exec (PS.asg x xp (.comp elt t iter c names cp) p).toS F.env) ρ none ((x, .lst rs) :: ρ, none, .next) := by
  intro P s so Q E h
  have hsw : swapsWith (.ListComp elt.toE [⟨t.toE, iter.toE, c.toL, 0⟩] (scopeOf names) cp) (some (.Name (nm x) xp)) p.line F.env = pure (F.env.blockKind == .function && F.env.kindOf (nm x) == some .local && xp.line == cp.line && !((scopeOf names).names.any fun (q, k) => q == nm x && (k == .local || k == .cell))) := rfl
  cases hb : (F.env.blockKind == .function && F.env.kindOf (nm x) == some .local && xp.line == cp.line && !((scopeOf names).names.any fun (q, k) => q == nm x && (k == .local || k == .cell)))
  · rw [hb] at hsw
    have hev : ∀ X', EV (F.to F.nk F.env X' ρ) (PE.comp elt t iter c names cp).toE (.lst rs) := fun X' => ev_comp (F := F.to F.nk F.env X' ρ) (hit X') (notSet _ _) hh hc ht hds (hT X')
    refine wpAny_Assign_stores (targets := [(Tg.one x xp).toE]) (use_val n so hev fun v h' tk kk r hr => ?_) hsw rfl
    show wpAny _ _ (assign (Tg.one x xp).toE F.env v) _ _ _
    refine wp_bind (ρ' := (x, .lst rs) :: ρ) n (so.keep kk) r (hr rfl) h3 (notNames_one rfl) rfl hh fun h'' tk' so'' k' => ?_
    exact h .next h'' tk' so'' ((Kp.ext kk).trans k') trivial
  · rw [hb] at hsw
    show wpAny F.M F.A (exec (.Assign [.Name (nm x) xp] (.ListComp elt.toE [⟨t.toE, iter.toE, c.toL, 0⟩] (scopeOf names) cp) p) F.env) Q E s
    rw [exec_Assign_Name_used _ _ _ _ hsw]
    refine wpAny_bind (wpAny_standAt (wpAny_bind ?_))
    show wpAny F.M F.A (do let _ ← comprehension (.ListComp elt.toE [⟨t.toE, iter.toE, c.toL, 0⟩] (scopeOf names) cp) (scopeOf names) F.env _ (newList []) false (eval iter.toE F.env) (some (assign (.Name (nm x) xp) F.env))) _ _ s
    refine wpAny_bind (wpAny_mono (wp_comp (F := F.to F.nk F.env (Xe F P) ρ) (use := some (assign (.Name (nm x) xp) F.env)) (Q := fun _ s' => Q .next s') (hit _) (notSet _ _) hh hc ht hds (hT _) so.ok fun Dn C h' tk kk hC hD hDC hn r => ?_) (fun _ s' hq => wpAny_pure (wpAny_pure hq)) fun _ _ e => e)
    obtain ⟨mC, hn⟩ := hn
    have hCl : ∃ ob, h'.get? C = some ob := let ⟨ob, _, _, e, _⟩ := hn; ⟨ob, e⟩
    have okg := EOk.grow1 so.ok kk hC hCl
    have hCB : h₀.get? C = none := by
      cases e : h₀.get? C with
      | none => rfl
      | some ob => rw [so.ext _ _ e] at hC; cases hC
    have hCX : ¬ F.X C := fun q => by obtain ⟨ob, e⟩ := so.ok.xok C (.inl q); rw [hC] at e; cases e
    have hCP : ¬ P C := fun q => by obtain ⟨ob, e⟩ := so.ok.xok C (.inr q); rw [hC] at e; cases e
    show wpAny F.M F.A (assign (.Name (nm x) xp) F.env (.ref Dn)) _ _ _
    refine wpAny_assign_Name (wp_store okg r h3 fun h'' tk' ok kk' _ _ => ?_)
    have hown : ¬ Own F.env [x] C := fun q => hCX (n.own q).2
    refine ⟨mC, hn.at' fun ob e => kk' _ ob hown e, fun h3' hs => ?_⟩
    have kC : ∀ b ob, ¬ (b = C) → h''.get? b = some ob → h3'.get? b = some ob := fun b ob q e => hs.extBut b ob q e
    have ok4 : EOk F.sg F.B F.nk F.env (Xe F P) ((x, .lst rs) :: ρ) h3' := ok.drop1 kC (fun q => q.elim hCX hCP) so.ok.loc.1 fun y c e => (so.ok.cel y c e).1
    refine h .next h3' _ ⟨so.pn, fun b ob e => ?_, ok4⟩ ⟨fun b ob hp e => ?_, fun _ => ⟨rfl, fun b ob hb e => ?_⟩⟩ trivial
    · exact kC b ob (fun q => by rw [q, hCB] at e; cases e) (kk' b ob (fun q => by rw [(n.own q).1] at e; cases e) (kk _ _ (so.ext _ _ e)))
    · exact kC b ob (fun q => hCP (q ▸ hp)) (kk' b ob (fun q => by
        rcases q with q | ⟨y, _, _, q⟩
        · exact (so.pn b hp).2.1 q
        · exact (so.pn b hp).2.2 _ q) (kk _ _ e))
    · exact kC b ob (fun q => by rw [q, hC] at e; cases e) (kk' b ob (fun q => hb (n.own q).2) (kk _ _ e))
theorem asgC_sound (hy : Hyp F o k) (n : NewFr F h₀) {m : Nat} {x : Nat} {xp p : Pos} {elt : PE} {t : Tg} {iter : PE} {c : PEs} {names : NK} {cp : Pos} {r : Res} (e1 : sAsg (ev (m + 1) o F.nk (withOw ρ w)) F.nk x (.comp elt t iter c names cp) ρ w = some r) :
    XV F h₀ X₀ (exec (PS.asg x xp (.comp elt t iter c names cp) p).toS F.env) ρ w r := by
  unfold sAsg at e1
  split at e1
  · cases e1
  · rename_i d hd
    split at e1
    · rename_i hk
      cases e1
      obtain ⟨hk, h4⟩ := Bool.and_eq_true_iff.mp hk
      obtain ⟨hk, h3⟩ := Bool.and_eq_true_iff.mp hk
      cases w with
      | some _ => cases h4
      | none =>
      have hd : compN (ev m o) F.nk ρ elt t iter c names = some d := hd
      have hg : ∀ X nk env X' ρ', Tells (Fr.to (F.to F.nk F.env X ρ) nk env X' ρ') (ev m o nk ρ') := fun X nk env X' ρ' => ev_sound m (F.to nk env X' ρ') (hy.to nk env X' ρ')
      unfold compN at hd
      split at hd
      · cases hd
      · rename_i hc
        obtain ⟨hc, ht⟩ := Bool.and_eq_true_iff.mp hc
        split at hd
        · cases hd
        · rename_i ds md hit
          split at hd
          · cases hd
          · rename_i hl
            split at hd
            · rename_i rs hr
              cases hd
              refine asgComp_ev hy.hh n (fun X => iterE_sound (F := F.to F.nk F.env X ρ) (hg X F.nk F.env X ρ).1 (hy.to F.nk F.env X ρ) hit) hc ht (of_decide_eq_true hl) (fun X => turnL_sound (fun d r e => ?_) _ _ hr) h3
              unfold turnE at e
              split at e
              · cases e
              · rename_i hok
                split at e
                · cases e
                · rename_i ρ' hb
                  exact ⟨okTb_sound hok, ρ', hb, fun env' X' => condE_sound (hg X names env' X' ρ') e⟩
            · cases hd
    · cases e1
end
end Mine

namespace Mine
/-! the evaluator of statements is sound -/
section
variable {F : Fr} {h₀ : Heap} {X₀ : Av} {o : Orc} {k : Nat}
theorem ex_sound (hy : Hyp F o k) (n : NewFr F h₀) (hX : ∀ b, X₀ b → F.X b) (hi : interactive F.env = false) : ∀ (N : Nat) (st : PS) (ρ : Rho) (w : Ow) (r : Res), ex N o F.nk st ρ w = some r → XV F h₀ X₀ (exec st.toS F.env) ρ w r
  | 0, _, _, _, _, e => by cases e
  | N + 1, st, ρ, w, r, e => by
    have ih := fun (l : PSs) => exL_sound (F := F) (h₀ := h₀) (X₀ := X₀) (ex_sound hy n hX hi N) l
    have hf : TellsX F (withOw ρ w) (ev deepE o F.nk (withOw ρ w)) := tells_ev hy _ _
    cases st with
    | asg x xp e1 p =>
      cases hc : isComp e1
      · exact asg_sound hf hy.hh n hc e
      · cases e1 with
        | comp elt t iter c names cp => exact asgC_sound hy n (m := 29) e
        | _ => cases hc
    | own x xp e1 p => exact own_sound hy n (m := 29) e
    | asgT t e1 p => exact asgT_sound hf hy.hh n e
    | setI x xp i sp e1 p =>
      refine setI_sound hf n ?_ e
      cases hc : isComp e1
      · rfl
      · cases e1 with
        | comp elt t iter c names cp =>
          change sSetI (ev deepE o F.nk (withOw ρ w)) x i (.comp elt t iter c names cp) ρ w = some r at e
          unfold sSetI at e
          split at e
          · rename_i d kk y l hd _
            change compN (ev 29 o) F.nk (withOw ρ (some (y, l))) elt t iter c names = some d at hd
            unfold compN at hd
            split at hd
            · cases hd
            · split at hd
              · cases hd
              · split at hd
                · cases hd
                · split at hd
                  · cases hd
                    split at e
                    · rename_i hcond
                      obtain ⟨hcond, _⟩ := Bool.and_eq_true_iff.mp hcond
                      obtain ⟨hcond, _⟩ := Bool.and_eq_true_iff.mp hcond
                      obtain ⟨_, h2⟩ := Bool.and_eq_true_iff.mp hcond
                      cases h2
                    · cases e
                  · cases hd
          · cases e
        | _ => cases hc
    | aug x xp op e1 p => exact aug_sound hf hy.hh n e
    | ifS t a b p => exact if_sound hf n (fun r => ih a ρ w r) (fun r => ih b ρ w r) e
    | forS t iter a b p => exact for_sound hf hy n (ih a) (ih b) e
    | whl t a p => exact whl_sound (g := fun ρ w => ev deepE o F.nk (withOw ρ w)) (fun ρ w => tells_ev hy _ _) n (ih a) e
    | ret e1 p => exact ret_sound hf n hX e
    | brk p =>
      change some (ρ, w, Fl.brk) = some r at e
      cases e
      exact brk_sound
    | app x xp ap cp e1 p => exact app_sound hf n hi e
    | pop x xp ap cp p => exact pop_sound n hi e
    | rse e1 p => cases e
theorem body_sound (hy : Hyp F o k) (n : NewFr F h₀) (hX : ∀ b, X₀ b → F.X b) (hi : interactive F.env = false) (N : Nat) (l : PSs) (ρ : Rho) (w : Ow) (r : Res) (e : exL (ex N o F.nk) l ρ w = some r) : XV F h₀ X₀ (execs l.toL F.env) ρ w r :=
  exL_sound (ex_sound hy n hX hi N) l ρ w r e
end
end Mine

namespace Mine
/-! a function of the program, called -/
theorem nmap_lookup : ∀ (l : NK) (x : Nat), (nmap l).lookup (nm x) = lookN l x
  | [], _ => rfl
  | (y, k) :: r, x => by
    show List.lookup (nm x) ((nm y, k) :: nmap r) = _
    rw [List.lookup_cons, nm_beq, nmap_lookup r x]
    show _ = (match Nat.beq y x with | true => some k | false => lookN r x)
    rw [beq_comm' x y]
    cases Nat.beq y x <;> rfl
theorem cells_keep : ∀ (l : NK) (n : Nat) (acc : List (Str × Addr)) (y : Str), (acc.lookup y).isSome = true → ((cellsFrom n (nmap l) acc).lookup y).isSome = true
  | [], _, _, _, h => h
  | (x, k) :: r, n, acc, y, h => by
    show ((if k == .cell then cellsFrom (n + 1) (nmap r) ((nm x, n) :: acc) else cellsFrom n (nmap r) acc).lookup y).isSome = true
    split
    · refine cells_keep r _ _ y ?_
      rw [List.lookup_cons]
      cases y == nm x
      · exact h
      · rfl
    · exact cells_keep r _ _ y h
theorem cells_has : ∀ (l : NK) (n : Nat) (acc : List (Str × Addr)) (x : Nat), (x, NameKind.cell) ∈ l → ((cellsFrom n (nmap l) acc).lookup (nm x)).isSome = true
  | (y, k) :: r, n, acc, x, h => by
    show ((if k == .cell then cellsFrom (n + 1) (nmap r) ((nm y, n) :: acc) else cellsFrom n (nmap r) acc).lookup (nm x)).isSome = true
    rcases List.mem_cons.mp h with e | h
    · cases e
      rw [if_pos (by rfl)]
      refine cells_keep r _ _ _ ?_
      rw [List.lookup_cons, beq_self_eq_true]; rfl
    · split
      · exact cells_has r _ _ x h
      · exact cells_has r _ _ x h
theorem pair_eq {cs : List (Str × Addr)} (h : cs.Pairwise fun x y => x.2 ≠ y.2) : ∀ {x y : Str} {c : Addr}, (x, c) ∈ cs → (y, c) ∈ cs → x = y := by
  induction h with
  | nil => intro x y c m; cases m
  | cons h _ ih =>
    intro x y c m1 m2
    rcases List.mem_cons.mp m1 with e1 | m1
    · rcases List.mem_cons.mp m2 with e2 | m2
      · rw [← e1] at e2; cases e2; rfl
      · exact absurd (by rw [← e1]) (h _ m2)
    · rcases List.mem_cons.mp m2 with e2 | m2
      · exact absurd (by rw [← e2]) (h _ m1)
      · exact ih m1 m2
noncomputable def noFree : NK → Bool
  | [] => true
  | (_, k) :: r => match k with | .free => false | _ => noFree r
theorem noFree_at : ∀ {l : NK} {x : Nat}, noFree l = true → lookN l x ≠ some .free
  | [], _, _, e => by cases e
  | (y, k) :: r, x, h, e => by
    have hr : noFree r = true ∧ k ≠ .free := by
      cases k <;> first | exact ⟨h, by simp⟩ | cases h
    unfold lookN at e
    split at e
    · cases e; exact hr.2 rfl
    · exact noFree_at hr.1 e
noncomputable def psOk (nk : NK) : List Nat → Bool
  | [] => true
  | x :: r => setOk nk x && !memN r x && psOk nk r
theorem mem_memN : ∀ {l : List Nat} {x : Nat}, x ∈ l → memN l x = true
  | y :: r, x, h => by
    unfold memN
    rcases List.mem_cons.mp h with e | h
    · subst e; rw [Nat.beq_refl]
    · split
      · rfl
      · exact mem_memN h
theorem bindL_keepS (kindOf : Str → Option NameKind) : ∀ (ps : List Nat) (vs : List Value) (m : Str → Option Value) (x : Nat), x ∉ ps → PySem.bindL kindOf ((ps.map nm).zip vs) m (nm x) = m (nm x)
  | [], _, _, _, _ => rfl
  | p :: ps, [], _, _, _ => rfl
  | p :: ps, v :: vs, m, x, h => by
    show PySem.bindL kindOf ((ps.map nm).zip vs) (if kindOf (nm p) = some .local then fun y => if y = nm p then some v else m y else m) (nm x) = _
    rw [bindL_keepS kindOf ps vs _ x (fun q => h (List.mem_cons_of_mem _ q))]
    split
    · exact if_neg fun q => h (by rw [nm_inj q]; exact List.mem_cons_self)
    · rfl
theorem bindC_keepS (kindOf : Str → Option NameKind) : ∀ (ps : List Nat) (vs : List Value) (m : Str → Option Value) (x : Nat), x ∉ ps → PySem.bindC kindOf ((ps.map nm).zip vs) m (nm x) = m (nm x)
  | [], _, _, _, _ => rfl
  | p :: ps, [], _, _, _ => rfl
  | p :: ps, v :: vs, m, x, h => by
    show PySem.bindC kindOf ((ps.map nm).zip vs) (if kindOf (nm p) = some .local then m else fun y => if y = nm p then some v else m y) (nm x) = _
    rw [bindC_keepS kindOf ps vs _ x (fun q => h (List.mem_cons_of_mem _ q))]
    split
    · rfl
    · exact if_neg fun q => h (by rw [nm_inj q]; exact List.mem_cons_self)
theorem bound {sg : Nat} {h : Heap} {X : Av} {nk : NK} : ∀ {ps : List Nat} {vs : List Value} {ds : List D} {ρ : Rho} {x : Nat} {d : D}, RdL sg h X vs ds → bindP ps ds = some ρ → psOk nk ps = true → getR ρ x = some d →
    setOk nk x = true ∧ ∃ v, Rd sg h X v d ∧ (∀ kindOf m, kindOf (nm x) = some NameKind.local → PySem.bindL kindOf ((ps.map nm).zip vs) m (nm x) = some v) ∧ (∀ kindOf m, kindOf (nm x) ≠ some NameKind.local → PySem.bindC kindOf ((ps.map nm).zip vs) m (nm x) = some v)
  | [], _, _, ρ, x, d, r, e, _, g => by
    cases r with
    | nil => cases e; cases g
    | cons _ _ => cases e
  | p :: ps, _, _, ρ, x, d, r, e, hp, g => by
    cases r with
    | nil => cases e
    | @cons v vs d0 ds rv rl =>
      unfold bindP at e
      split at e
      · rename_i ρ' e'
        cases e
        obtain ⟨hp, hps⟩ := Bool.and_eq_true_iff.mp hp
        obtain ⟨hs, hn⟩ := Bool.and_eq_true_iff.mp hp
        rw [getR_cons] at g
        split at g
        · rename_i q
          cases g; subst q
          have hx : p ∉ ps := fun q => by rw [mem_memN q] at hn; cases hn
          refine ⟨hs, v, rv, fun kindOf m hk => ?_, fun kindOf m hk => ?_⟩
          · show PySem.bindL kindOf ((ps.map nm).zip vs) (if kindOf (nm p) = some .local then fun y => if y = nm p then some v else m y else m) (nm p) = _
            rw [bindL_keepS kindOf ps vs _ p hx, if_pos hk]; exact if_pos rfl
          · show PySem.bindC kindOf ((ps.map nm).zip vs) (if kindOf (nm p) = some .local then m else fun y => if y = nm p then some v else m y) (nm p) = _
            rw [bindC_keepS kindOf ps vs _ p hx, if_neg hk]; exact if_pos rfl
        · obtain ⟨h1, u, h2, h3, h4⟩ := bound rl e' hps g
          exact ⟨h1, u, h2, fun kindOf m hk => h3 kindOf _ hk, fun kindOf m hk => h4 kindOf _ hk⟩
      · cases e
theorem bindP_len : ∀ {ps : List Nat} {ds : List D} {ρ : Rho}, bindP ps ds = some ρ → ps.length = ds.length
  | [], [], _, _ => rfl
  | _ :: ps, _ :: ds, _, e => by
    unfold bindP at e
    split at e
    · rename_i r h; rw [List.length_cons, List.length_cons, bindP_len h]
    · cases e
  | [], _ :: _, _, e => by cases e
  | _ :: _, [], _, e => by cases e
/-- a function of the program lies at fa -/
noncomputable def FnAt (B : Heap) (fa : Addr) (ps : List Nat) (nk : NK) (body : List Stmt) : Prop :=
  ∃ o fd, B.get? fa = some o ∧ o.data = .func fd ∧ B.CodeRec fd.code fd.qualname ∧ fd.body = .stmts body ∧ (∀ vs : List Value, vs.length = ps.length → bindArgs fd ⟨vs, []⟩ = pure ((ps.map nm).zip vs)) ∧ fd.closure = [] ∧
    fd.scope.names = nmap nk ∧ fd.scope.kind = .function ∧ fd.scope.isCoroutine = false ∧ fd.scope.isGenerator = false ∧ fd.globals = 3 ∧ fd.builtins = 0 ∧ psOk nk ps = true ∧ noFree nk = true
noncomputable def FnOk (B : Heap) (fa : Addr) (fn : Fn) : Prop := FnAt B fa fn.ps fn.nk fn.body.toL
theorem zip_mem : ∀ {ps : List Nat} {vs : List Value} {x : Str × Value} {nk : NK}, x ∈ (ps.map nm).zip vs → psOk nk ps = true → ∃ y, x.1 = nm y ∧ setOk nk y = true
  | [], _, _, _, h, _ => by cases h
  | p :: ps, [], _, _, h, _ => by cases h
  | p :: ps, v :: vs, x, nk, h, hp => by
    obtain ⟨hp, hps⟩ := Bool.and_eq_true_iff.mp hp
    obtain ⟨hs, _⟩ := Bool.and_eq_true_iff.mp hp
    rcases List.mem_cons.mp h with e | h
    · rw [e]; exact ⟨p, rfl, hs⟩
    · exact zip_mem h hps
theorem setOk_is {nk : NK} {x : Nat} (h : setOk nk x = true) : lookN nk x = some .local ∨ lookN nk x = some .cell := by
  unfold setOk at h
  split at h
  · rename_i e; exact .inl e
  · rename_i e; exact .inr e
  · cases h
theorem run_body {F : Fr} {h₀ : Heap} {X₀ : Av} {o : Orc} {k : Nat} {l : PSs} {d : D} {ρ1 : Rho} {w1 : Ow} (hy : Hyp F o k) (n : NewFr F h₀) (hX : ∀ b, X₀ b → F.X b) (hi : interactive F.env = false) (e : exL (ex 12 o F.nk) l F.ρ none = some (ρ1, w1, .ret d)) {s : Shared}
    (x : Ext h₀ s.heap) (ok : EOk F.sg F.B F.nk F.env F.X F.ρ s.heap) {Q : Flow → Shared → Prop} {E : Value → Shared → Prop} (h : ∀ v h' tk, Ext h₀ h' → Rd F.sg h' X₀ v d → Q (.ret v) { s with heap := h', toks := tk }) : wpAny F.M F.A (execs l.toL F.env) Q E s := by
  refine body_sound hy n hX hi 12 l F.ρ none _ e (fun _ => False) s ⟨fun b q => q.elim, x, ok.less (fun b q => q.elim id False.elim) (.inl n.xl) fun x c q => .inl (n.xc x c q)⟩ Q E fun fl h' tk so' kp hfl => ?_
  cases fl with
  | ret v => exact h v h' tk so'.ext hfl
  | _ => exact hfl.elim
/-- a function's frame, entered -/
theorem enter {F : Fr} {fa : Addr} {ps : List Nat} {nk : NK} {body : List Stmt} {k : Nat} {ds : List D} {ρ : Rho} (fo : FnAt F.B fa ps nk body) (hA : AOk (k + 1) F.A) (hlim : F.B.NoLimit)
    (hρ : bindP ps ds = some ρ) {s : Shared} {vs : List Value} (hB : Ext F.B s.heap) (hX : XOk F.X s.heap) (hXB : ∀ b, F.X b → F.B.get? b = none) (r : RdL F.sg s.heap F.X vs ds) {Q : Value → Shared → Prop} {E : Value → Shared → Prop}
    (h : ∀ (env : Env) (X' : Av) (h₁ : Heap) (tk : Nat), Ext s.heap h₁ → EOk F.sg F.B nk env X' ρ h₁ → NewFr ({ F with A := F.A.deeper env, nk := nk, env := env, X := X', ρ := ρ } : Fr) s.heap → (∀ b, F.X b → X' b) → (∀ b, X' b → F.X b ∨ s.heap.get? b = none) → interactive env = false → AOk k (F.A.deeper env) →
      ∀ E', wpAny F.M (F.A.deeper env) (execs body env) (fun f s' => Q (match f with | .ret v => v | _ => .none) s') E' { s with heap := h₁, toks := tk }) : wpAny F.M F.A (call (.ref fa) vs) Q E s := by
  obtain ⟨ob, fd, ho, hdata, hcd, hbody, hbind, hclo, hnames, hsk, hsc, hsg, hglob, hbuilt, hps, hnf⟩ := fo
  have hlen : vs.length = ps.length := by rw [r.length, bindP_len hρ]
  have hcell : ∀ (x n : Nat), lookN nk x = some .cell → ((cellsFrom n fd.scope.names []).lookup (nm x)).isSome = true := fun x n q => by rw [hnames]; exact cells_has _ _ _ _ (lookN_mem q)
  refine wpAny_call (codeAny_call_cells (o := ob) (fd := fd) (binds := (ps.map nm).zip vs) (by have := hA.2.1; show F.A.depth < 1000; omega) (hB _ _ ho) hdata (hlim.keeps hB) (hcd.keeps hB) hbody (hbind vs hlen) hclo (fun x hx => ?_) (fun s₁ X1 => ?_) hsc hsg hsk)
  · obtain ⟨y, e1, e2⟩ := zip_mem hx hps
    rw [e1, hnames, nmap_lookup]
    rcases setOk_is e2 with q | q
    · exact .inl q
    · exact .inr ⟨q, by rw [← hnames]; exact hcell y _ q⟩
  · generalize hL : s.heap.objs.size = L at *
    have hLn : ∀ b, L ≤ b → s.heap.get? b = none := fun b q => new_none (by rw [hL]; exact q)
    have henv : callEnvC fd L fa = { scope := fd.scope, locals := L, globals := fd.globals, cells := cellsFrom (L + 1) fd.scope.names [], qual := fd.qualname ++ ".<locals>.", func := some fa, code := fd.code, frame := some L, builtins := fd.builtins } := rfl
    generalize hE : callEnvC fd L fa = env at *
    have e1 : env.scope = fd.scope := by rw [henv]
    have e2 : env.locals = L := by rw [henv]
    have e3 : env.globals = 3 := by rw [henv]; exact hglob
    have e4 : env.builtins = 0 := by rw [henv]; exact hbuilt
    have e5 : ∀ (x n : Nat), lookN nk x = some .cell → ∃ c, env.cells.lookup (nm x) = some c := fun x n q => Option.isSome_iff_exists.mp (by rw [henv]; exact hcell x (L + 1) q)
    have e6 : ∀ x, env.kindOf (nm x) = lookN nk x := fun x => by
      show env.scope.names.lookup (nm x) = _
      rw [e1, hnames]; exact nmap_lookup _ _
    clear henv
    obtain ⟨h₁, tk₁, hs₁, kk₁⟩ := X1.done
    subst hs₁
    have cLt : ∀ x c, env.cells.lookup x = some c → (@LT.lt Nat instLTNat L c) := fun x c q => by
      have := X1.above x c (mem_of_lookup q)
      rw [e2] at this; exact this
    have cN : ∀ x c, env.cells.lookup x = some c → s.heap.get? c = none := fun x c q => hLn c (Nat.le_of_lt (cLt x c q))
    have LN : s.heap.get? L = none := hLn L (Nat.le_refl _)
    have bN : ∀ b, s.heap.get? b = none → F.B.get? b = none := fun b q => ext_none hB q
    let X' : Av := fun b => F.X b ∨ b = L ∨ ∃ x, env.cells.lookup x = some b
    have mv : ∀ b ob', ¬ F.X b → s.heap.get? b = some ob' → h₁.get? b = some ob' ∧ ¬ X' b := fun b ob' hb q => ⟨kk₁ _ _ q, fun q' => by
      rcases q' with q' | q' | ⟨x, q'⟩
      · exact hb q'
      · rw [q', LN] at q; cases q
      · rw [cN _ _ q'] at q; cases q⟩
    have ns := X1.toInCall.ns
    have ok : EOk F.sg F.B nk env X' ρ h₁ := by
      refine ⟨by rw [e1]; exact hsk, e3, e4, hB.trans kk₁, ?_, ?_, ?_, ⟨.inr (.inl e2), _, ns⟩, ?_, ?_, ?_⟩
      · rintro b (q | q | ⟨x, q⟩)
        · obtain ⟨ob', e'⟩ := hX b q; exact ⟨ob', kk₁ _ _ e'⟩
        · obtain ⟨ob', _, _, e', _⟩ := ns; rw [q, ← e2]; exact ⟨ob', e'⟩
        · obtain ⟨ob', e', _⟩ := X1.cell x b q; exact ⟨ob', e'⟩
      · rintro b (q | q | ⟨x, q⟩)
        · exact hXB b q
        · rw [q]; exact bN _ LN
        · exact bN _ (cN _ _ q)
      · intro x kd q
        have z := e6 x
        rw [q] at z
        cases kd with
        | «local» => exact z
        | cell => exact ⟨z, e5 x 0 q⟩
        | free => exact (noFree_at hnf q).elim
        | globalImplicit => exact z
        | _ => exact trivial
      · intro x c q
        exact ⟨.inr (.inr ⟨x, q⟩), fun q' => by have := cLt x c q; rw [q', e2] at this; exact Nat.lt_irrefl _ this, _, X1.cell x c q⟩
      · intro x y c q1 q2
        exact pair_eq X1.apart (mem_of_lookup q1) (mem_of_lookup q2)
      · intro x dx q
        obtain ⟨hso, v, rv, b1, b2⟩ := bound r hρ hps q
        refine ⟨v, rv.move mv, ?_⟩
        rcases setOk_is hso with q' | q'
        · exact .inl ⟨by rw [e6, q'], _, ns, b1 _ _ (by rw [e6, q'])⟩
        · obtain ⟨c, hc⟩ := e5 x 0 q'
          refine .inr ⟨.inl (by rw [e6, q']), c, hc, ?_⟩
          have := X1.cell _ _ hc
          rw [b2 _ _ (by rw [e6, q']; simp)] at this
          exact this
    have hi : interactive env = false := by
      show (env.scope.kind == .module && _) = false
      rw [e1, hsk]; rfl
    have hA' : AOk k (F.A.deeper env) := ⟨hA.1, by have := hA.2.1; show F.A.depth + 1 + k < 900; omega, by have := hA.2.2; show F.A.units + 3 + 5 * k < 9000; omega⟩
    exact wpAny_mono (h env X' h₁ tk₁ kk₁ ok ⟨(by show s.heap.get? env.locals = none; rw [e2]; exact LN), cN, .inr (.inl e2), fun x c q => .inr (.inr ⟨x, q⟩)⟩ (fun b q => .inl q) (fun b q => by
      rcases q with q | q | ⟨x, q⟩
      · exact .inl q
      · rw [q]; exact .inr LN
      · exact .inr (cN _ _ q)) hi hA' _) (fun f s' hq => hq) fun _ _ e => e
theorem fn_call {F : Fr} {fa : Addr} {fn : Fn} {o : Orc} {k : Nat} {ds : List D} {d : D} (fo : FnOk F.B fa fn) (hA : AOk (k + 1) F.A) (hlim : F.B.NoLimit) (IH : ∀ A', AOk k A' → Hyp { F with A := A' } o k)
    (e : runF o fn ds = some d) {s : Shared} {vs : List Value} (hB : Ext F.B s.heap) (hX : XOk F.X s.heap) (hXB : ∀ b, F.X b → F.B.get? b = none) (r : RdL F.sg s.heap F.X vs ds) : Gives F.sg F.M F.A F.X s (call (.ref fa) vs) d := by
  unfold runF at e
  split at e
  · cases e
  rename_i ρ hρ
  split at e
  · rename_i ρ1 w1 d1 hex
    cases e
    intro Q E h
    refine enter fo hA hlim hρ hB hX hXB r fun env X' h₁ tk kk ok nf hsub hsub2 hi hA' E' => ?_
    exact run_body (F := ⟨F.sg, F.prog, F.w, F.A.deeper env, F.B, fn.nk, env, X', ρ⟩) (X₀ := F.X) ((IH _ hA').to fn.nk env X' ρ) nf hsub hi hex kk ok fun v h' tk k' rv => h v h' tk k' rv
  · cases e
end Mine

namespace Mine
/-! the oracle of the evaluator is sound -/
noncomputable def tabD : List (PyData × PyData) := (flagTab.map fun e => (e.1, PyData.str ⟨⟨e.2⟩⟩)).map fun p => (PyData.int p.1, p.2)
structure ClsOk (B : Heap) (N : Addr) (mN : Str → Option Value) : Prop where
  at_ : ClsAt B 83 N mN
  ga : mN "__getattribute__" = none
  gh : mN "__getattr__" = none
  nas : ∀ x ∈ attrL, mN x = none
  meth : ∀ f fn, fnAt fns f = some fn → isMeth f = true → ∃ fa o, mN (nm f) = some (.ref fa) ∧ B.get? fa = some o ∧ o.cls = .type "function" ∧ FnOk B fa fn
/-- what lies in the heap after the program's start -/
structure Base (prog : Program) (w : World) (B : Heap) : Prop where
  lim : B.NoLimit
  bi : ∀ f b, biAt biTab f = some b → GlobV B (nm f) (biV b)
  enum : GlobV B (nm 38) (.type "enumerate")
  zip : GlobV B (nm 118) (.type "zip")
  fn : ∀ f fn, fnAt fns f = some fn → isMeth f = false → ∃ fa, GlobV B (nm f) (.ref fa) ∧ FnOk B fa fn
  tab : GlobV B (nm 1) (.ref 88) ∧ IntTab prog w B 88 tabD ∧ ∃ o, B.get? 88 = some o ∧ o.cls = .type "dict" ∧ o.dict = none
  cls : ∃ N mN, ClsOk B N mN
section
variable {F : Fr} {k : Nat}
theorem fnOk_fd {B : Heap} {fa : Addr} {fn : Fn} (fo : FnOk B fa fn) : ∃ o fd, B.get? fa = some o ∧ o.data = .func fd := let ⟨o, fd, h1, h2, _⟩ := fo; ⟨o, fd, h1, h2⟩
/-- a method called on a value -/
theorem wp_meth {M : Model} {A : Around} {o : Expr} {name : Str} {env : Env} {apos pos : Pos} {args : List Expr} {s : Shared} {Q : Value → Shared → Prop} {E : Value → Shared → Prop} (hbase : attributeBase o name env (eval o env) = eval o env)
    (hany : (backTo pos (starEach args env)).any (·.1) = false) (hlen : args.length < 30) (hline : (apos.endLine == pos.line) = true)
    (h : wpAny M A (eval o env) (fun ov s₁ => ∀ pl, wpAny M A (getMethod ov name pl) (fun r s₂ => wpAny M A (callWith pos r.1 r.2 (backTo pos (starEach args env)) []) Q E s₂) E s₁) E s) :
    wpAny M A (eval (.Call (.Attribute o name apos) args [] pos) env) Q E s := by
  rw [arm_eval_Call, hbase]
  refine wpAny_bind (wpAny_mono h (fun ov s₁ h₁ => ?_) fun _ _ e => e)
  refine wpAny_bind (wpAny_standAt ?_)
  have hall : ((backTo pos (starEach args env)).all fun x => !x.1) = true := by
    rw [List.all_eq_not_any_not]
    simp only [Bool.not_not]
    rw [hany]; rfl
  have hform : methodCallForm (args.length + ([] : List Keyword).length) (backTo pos (starEach args env)) (backToKw pos (keywordEach [] env)) = true := by
    unfold methodCallForm
    rw [hall]
    show (true && true && decide (args.length + 0 + 0 < 30)) = true
    rw [Bool.and_self, Bool.true_and, decide_eq_true_iff]
    exact hlen
  have hpos : methodCallPos true o env apos pos = pure pos := by unfold methodCallPos; simp [hline]
  unfold methodCall
  rw [hform]
  refine wpAny_bind (wpAny_holding (wpAny_mono (h₁ _) (fun r s₂ h₂ => ?_) fun _ _ e => e))
  exact wpAny_bind (wpAny_of_eq hpos h₂)
theorem LP.len {es : PEs} {ds : List D} (l : LP F es ds) : es.toL.length = ds.length := by
  induction l with
  | nil => rfl
  | cons _ _ ih => exact congrArg (· + 1) ih
theorem base_ok (ob : PE) (name : Str) (env : Env) (h : noCall0 ob = true) : attributeBase ob.toE name env (eval ob.toE env) = eval ob.toE env := by
  cases ob with
  | call f fp args p =>
    cases args with
    | nil => cases h
    | cons e r => rfl
  | _ => rfl
theorem bi_calls (b : Base F.prog F.w F.B) (hh : F.A.handled = none) {f : Nat} {bi : Bi} (hf : biAt biTab f = some bi) {ds : List D} {d : D} (e : biop bi ds = some d) : CallsG F f ds d := by
  intro p fp args lp hk s o Q E h
  refine wpAny_Call_NameR (wp_glob o hk (b.bi _ _ hf) ?_)
  have key : ∀ {v : Value}, v = biV bi → wpAny F.M F.A (evalArgs v true (backTo p (starEach args.toL F.env)) []) (fun a s₁ => wpAny F.M F.A (call v ([] ++ a.pos) a.kw) Q E s₁) E s := fun hv => by
    subst hv
    exact args_given lp o fun vs h₁ t₁ k₁ r₁ => bi_sound e r₁ (o.keep k₁).xok hh Q E fun v h₂ t₂ k₂ r₂ => h v h₂ t₂ (k₁.trans k₂) r₂
  cases bi with
  | len => exact Calls.callWith_builtin plain_args (key rfl)
  | sum => exact Calls.callWith_builtin plain_args (key rfl)
  | max => exact Calls.callWith_builtin plain_args (key rfl)
  | hex => exact Calls.callWith_builtin plain_args (key rfl)
  | range => exact PySem.callWith_type plain_args (key rfl)
  | tuple => exact PySem.callWith_type plain_args (key rfl)
theorem fn_calls (b : Base F.prog F.w F.B) {o : Orc} {f : Nat} {fn : Fn} (hf : fnAt fns f = some fn) (hm : isMeth f = false) (hA : AOk (k + 1) F.A) (IH : ∀ A', AOk k A' → Hyp { F with A := A' } o k) {ds : List D} {d : D} (e : runF o fn ds = some d) : CallsG F f ds d := by
  intro p fp args lp hk s ok Q E h
  obtain ⟨fa, hg, fo⟩ := b.fn _ _ hf hm
  obtain ⟨ob, fd, h1, h2⟩ := fnOk_fd fo
  refine wpAny_Call_NameR (wp_glob ok hk hg ?_)
  refine Calls.callWith_function (o := ob) (fd := fd) (args_given lp ok fun vs h₁ t₁ k₁ r₁ => ⟨⟨(ok.keep k₁).ext _ _ h1, h2⟩, ?_⟩)
  exact fn_call fo hA b.lim IH e (ok.keep k₁).ext (ok.keep k₁).xok ok.xlo r₁ Q E fun v h₂ t₂ k₂ r₂ => h v h₂ t₂ (k₁.trans k₂) r₂
noncomputable def okeys : Bool := fns.all fun p => decide (p.2.ps.length < 29)
theorem fnAt_mem : ∀ {l : List (Nat × Fn)} {x : Nat} {f : Fn}, fnAt l x = some f → (x, f) ∈ l
  | (y, b) :: r, x, f, h => by
    unfold fnAt at h
    split at h
    · rename_i e
      cases h
      rw [Nat.eq_of_beq_eq_true e]; exact List.mem_cons_self
    · exact List.mem_cons_of_mem _ (fnAt_mem h)
theorem fns_short {f : Nat} {fn : Fn} (h : fnAt fns f = some fn) : fn.ps.length < 29 :=
  of_decide_eq_true (List.all_eq_true.mp (show okeys = true from by decide +kernel) _ (fnAt_mem h))
theorem runF_len {o : Orc} {fn : Fn} {ds : List D} {d : D} (e : runF o fn ds = some d) : fn.ps.length = ds.length := by
  unfold runF at e
  split at e
  · cases e
  · rename_i h; exact bindP_len h
noncomputable def noAttr (f : Nat) : Bool := attrL.all fun x => !(x == nm f)
theorem no_attr {f : Nat} (h : isMeth f = true) : nm f ∉ attrL ∧ ∃ y, typeLookup (.type "object") (nm f) = pure y := by
  have m := memN_mem (l := [63, 53, 39, 70]) h
  have key : ∀ f, noAttr f = true → nm f ∉ attrL := fun f h q => by
    have := List.all_eq_true.mp h _ q
    rw [beq_self_eq_true] at this
    cases this
  simp only [List.mem_cons, List.not_mem_nil, or_false] at m
  rcases m with e | e | e | e <;> subst e
  · exact ⟨key _ (by decide +kernel), _, by rw [typeLookup_type, builtinLookup_eq_fast]; exact rfl⟩
  · exact ⟨key _ (by decide +kernel), _, by rw [typeLookup_type, builtinLookup_eq_fast]; exact rfl⟩
  · exact ⟨key _ (by decide +kernel), _, by rw [typeLookup_type, builtinLookup_eq_fast]; exact rfl⟩
  · exact ⟨key _ (by decide +kernel), _, by rw [typeLookup_type, builtinLookup_eq_fast]; exact rfl⟩
theorem PI.inst {h : Heap} {X : Av} {a : Addr} {m : Str → Option Value} (x : PI h X a m) : h.Inst a 83 m := by
  obtain ⟨dA, o, hX, e, c1, c2, c3, n, _⟩ := x
  exact ⟨o, e, c1, c3.1, .inr ⟨dA, c2, c3.2, n⟩⟩
end
end Mine

namespace Mine
section
variable {F : Fr} {k : Nat}
theorem str_meth {id : String} {m : Nat} {l : List Nat} {ds : List D} {d : D} (slot : Slot "str" (nm m) id) (ty : typeOf (.builtin id) = pure (.type "method_descriptor")) (hlen : ds.length < 30)
    (hg : ∀ s : Shared, XOk F.X s.heap → ∀ t vs, RdL F.sg s.heap F.X vs ds → Gives F.sg F.M F.A F.X s (call (.builtin id) ([.str ⟨⟨l.map (den F.sg)⟩⟩ t] ++ vs)) d) : MethG F m (.str l) ds d := by
  intro ob ap p args hl hn he lp s ok Q E h
  refine wp_meth (base_ok ob _ _ hn) plain_args (by rw [lp.len]; exact hlen) hl (he s ok _ _ fun v h₁ t₁ k₁ r₁ pl => ?_)
  cases r₁ with | str _ t =>
  refine getMethod_builtin (T := "str") (typeIs_str _ _ _) PySem.F.plainAttrs_str slot ty (fun a q => by cases q) ?_
  refine Calls.callWith_builtin plain_args (args_given (s := { s with heap := h₁, toks := t₁ }) lp (ok.keep k₁) fun vs h₂ t₂ k₂ r₂ => ?_)
  exact hg { s with heap := h₂, toks := t₂ } (ok.keep (k₁.trans k₂)).xok t vs r₂ Q E fun v h₃ t₃ k₃ r₃ => h v h₃ t₃ ((k₁.trans k₂).trans k₃) r₃
theorem lst_meth {id : String} {m : Nat} {l : List D} {ds : List D} {d : D} (slot : Slot "list" (nm m) id) (ty : typeOf (.builtin id) = pure (.type "method_descriptor")) (hlen : ds.length < 30)
    (hg : ∀ s : Shared, XOk F.X s.heap → ∀ v vs, Rd F.sg s.heap F.X v (.lst l) → RdL F.sg s.heap F.X vs ds → Gives F.sg F.M F.A F.X s (call (.builtin id) ([v] ++ vs)) d) : MethG F m (.lst l) ds d := by
  intro ob ap p args hl hn he lp s ok Q E h
  refine wp_meth (base_ok ob _ _ hn) plain_args (by rw [lp.len]; exact hlen) hl (he s ok _ _ fun v h₁ t₁ k₁ r₁ pl => ?_)
  have hv : ∃ a ob, v = .ref a ∧ h₁.get? a = some ob ∧ ob.cls = .type "list" ∧ ob.dict = none := by
    cases r₁ with | @lst a vs _ hx pl rl => obtain ⟨n, e⟩ := pl; exact ⟨a, _, rfl, e, rfl, rfl⟩
  obtain ⟨a, oa, rfl, ha, hc, hd⟩ := hv
  refine getMethod_builtin (T := "list") ⟨oa, ha, hc⟩ PySem.F.plainAttrs_list slot ty (fun b q => by cases q; exact ⟨oa, ha, hd⟩) ?_
  refine Calls.callWith_builtin plain_args (args_given (s := { s with heap := h₁, toks := t₁ }) lp (ok.keep k₁) fun vs h₂ t₂ k₂ r₂ => ?_)
  exact hg { s with heap := h₂, toks := t₂ } (ok.keep (k₁.trans k₂)).xok _ vs (r₁.ext k₂) r₂ Q E fun v h₃ t₃ k₃ r₃ => h v h₃ t₃ ((k₁.trans k₂).trans k₃) r₃
theorem obj_meth (b : Base F.prog F.w F.B) {o : Orc} {m : Nat} {fn : Fn} (hf : fnAt fns m = some fn) (hm : isMeth m = true) (hA : AOk (k + 1) F.A) (IH : ∀ A', AOk k A' → Hyp { F with A := A' } o k)
    {raw : List Nat} {n nt : Int} {cs : List Int} {bb : Int} {simple : Bool} {ds : List D} {d : D} (e : runF o fn (.obj raw n nt cs bb simple :: ds) = some d) : MethG F m (.obj raw n nt cs bb simple) ds d := by
  intro ob ap p args hl hn he lp s ok Q E h
  have hsh := fns_short hf
  have hln := runF_len e
  rw [List.length_cons] at hln
  refine wp_meth (base_ok ob _ _ hn) plain_args (by rw [lp.len]; omega) hl (he s ok _ _ fun v h₁ t₁ k₁ r₁ pl => ?_)
  have hv : ∃ a mA, v = .ref a ∧ PI h₁ F.X a mA := by cases r₁ with | obj hx hi => exact ⟨_, _, rfl, hi⟩
  obtain ⟨a, mA, rfl, hpi⟩ := hv
  obtain ⟨N, mN, C⟩ := b.cls
  obtain ⟨fa, of, hmf, hof, hfc, fo⟩ := C.meth _ _ hf hm
  obtain ⟨ob', fd, h1, h2⟩ := fnOk_fd fo
  have kB := (ok.keep k₁).ext
  obtain ⟨nm', q, bs, sn, sub, col, dd, k0, k1, k2, k3, k5, hC⟩ := (C.at_.keeps kB).obj
  obtain ⟨hna, y, hty⟩ := no_attr hm
  refine method_of hC (C.at_.keeps kB).ns C.ga C.gh hmf (kB _ _ hof) hfc hty hpi.inst (by obtain ⟨_, _, _, _, _, _, _, _, q⟩ := hpi; exact q _ hna) ?_
  refine Calls.callWith_function (o := ob') (fd := fd) (args_given (s := { s with heap := h₁, toks := t₁ }) lp (ok.keep k₁) fun vs h₂ t₂ k₂ r₂ => ⟨⟨(ok.keep (k₁.trans k₂)).ext _ _ h1, h2⟩, ?_⟩)
  have o2 := ok.keep (k₁.trans k₂)
  exact fn_call (s := { s with heap := h₂, toks := t₂ }) fo hA b.lim IH e o2.ext o2.xok o2.xlo (.cons (r₁.ext k₂) r₂) Q E fun v h₃ t₃ k₃ r₃ => h v h₃ t₃ ((k₁.trans k₂).trans k₃) r₃
theorem attr_get (b : Base F.prog F.w F.B) {a : Addr} {mA : Str → Option Value} {val : Value} {m : Nat} {x : Str} {s : Shared} {Q : Value → Shared → Prop} {E : Value → Shared → Prop} (kB : Ext F.B s.heap) (hm : nm m = x) (hx : x ∈ attrL) (hpi : PI s.heap F.X a mA) (hv : mA x = some val) (hh : handedOut val = pure val)
    (hB : typeLookup (.type "object") (nm m) = pure none) (hq : Q val { s with toks := s.toks + 1 }) : wpAny F.M F.A (getAttr (.ref a) (nm m) true) Q E s := by
  obtain ⟨N, mN, C⟩ := b.cls
  obtain ⟨nm', q, bs, sn, sub, col, dd, k0, k1, k2, k3, k5, hC⟩ := (C.at_.keeps kB).obj
  subst hm
  obtain ⟨h, g, d, t, os⟩ := s
  exact load_attr hC (C.at_.keeps kB).ns C.ga (C.nas _ hx) hB hpi.inst hv hh hq
theorem at_n : nm 66 = Str.ofString "n" ∧ nm 72 = Str.ofString "nt" ∧ nm 69 = Str.ofString "norm" ∧ nm 55 = Str.ofString "is_simple" ∧ nm 84 = Str.ofString "raw" := by decide +kernel
theorem ty_n : typeLookup (.type "object") (nm 66) = pure none := by rw [typeLookup_type, builtinLookup_eq_fast]; exact rfl
theorem ty_nt : typeLookup (.type "object") (nm 72) = pure none := by rw [typeLookup_type, builtinLookup_eq_fast]; exact rfl
theorem ty_norm : typeLookup (.type "object") (nm 69) = pure none := by rw [typeLookup_type, builtinLookup_eq_fast]; exact rfl
theorem ty_simple : typeLookup (.type "object") (nm 55) = pure none := by rw [typeLookup_type, builtinLookup_eq_fast]; exact rfl
theorem ty_raw : typeLookup (.type "object") (nm 84) = pure none := by rw [typeLookup_type, builtinLookup_eq_fast]; exact rfl
theorem ints_rd {sg : Nat} {h : Heap} {X : Av} : ∀ {vs : List Value} {cs : List Int}, IntsAre vs cs → RdL sg h X vs (cs.map .int)
  | _, _, .nil => .nil
  | _, _, .cons _ _ r => .cons (.int _ _) (ints_rd r)
theorem obj_attr (b : Base F.prog F.w F.B) {m : Nat} {a d : D} (e : attrop a m = some d) : AttrG F m a d := by
  intro ob p hn he s ok Q E h
  cases ob with
  | nm x xp =>
    show wpAny F.M F.A (eval (.Attribute (.Name (nm x) xp) (nm m) p) F.env) Q E s
    rw [arm_eval_Attribute]
    refine wpAny_bind (he s ok _ _ fun v h₁ t₁ k₁ r₁ => wpAny_bind (wpAny_standAt (wpAny_bind (wpAny_holding ?_))))
    have kB := (ok.keep k₁).ext
    cases r₁ with
    | @obj aa mA t1 t2 nA cA bt vs raw n nt cs bb simple hx hi q1 q2 q3 hnA hT hcA hC hI q4 =>
      have fin : ∀ {val : Value} {tk : Nat}, Rd F.sg h₁ F.X val d → wpAny F.M F.A (do letTemporaryGo (.Name (nm x) xp) (.ref aa) val; pure val) Q E { s with heap := h₁, toks := tk } := fun r => by
        show wpAny F.M F.A (pure () >>= fun _ => pure _) Q E _
        exact wpAny_bind (wpAny_pure (wpAny_pure (h _ h₁ _ k₁ r)))
      unfold attrop at e
      dsimp only at e
      split at e
      · rename_i hm
        cases e; rw [Nat.eq_of_beq_eq_true hm]
        exact attr_get b kB at_n.1 (by unfold attrL; simp) hi q1 rfl ty_n (fin (.int _ _))
      split at e
      · rename_i hm
        cases e; rw [Nat.eq_of_beq_eq_true hm]
        exact attr_get b kB at_n.2.1 (by unfold attrL; simp) hi q2 rfl ty_nt (fin (.int _ _))
      split at e
      · rename_i hm
        cases e; rw [Nat.eq_of_beq_eq_true hm]
        exact attr_get b kB at_n.2.2.1 (by unfold attrL; simp) hi q3 rfl ty_norm (fin (.tup hnA hT (.cons (.tup hcA hC (ints_rd hI)) (.cons (.int _ _) .nil))))
      split at e
      · rename_i hm
        cases e; rw [Nat.eq_of_beq_eq_true hm]
        exact attr_get b kB at_n.2.2.2.1 (by unfold attrL; simp) hi q4 rfl ty_simple (fin (.bool _))
      · cases e
    | _ => cases e
  | _ => cases hn
end
end Mine

namespace Mine
section
variable {F : Fr} {k : Nat}
theorem intAt_find : ∀ (l : List (Int × List Nat)) (i : Int), ((l.map fun e => (e.1, PyData.str ⟨⟨e.2⟩⟩)).find? fun p => decide (p.1 = i)) = (intAt l i).map fun t => (i, PyData.str ⟨⟨t⟩⟩)
  | [], _ => rfl
  | (y, t) :: r, i => by
    unfold intAt
    rw [List.map_cons, List.find?_cons]
    by_cases h : y = i
    · subst h
      simp
    · have h' : decide (y = i) = false := decide_eq_false h
      simp only [h']
      exact intAt_find r i
theorem flag_plain : (flagTab.all fun e => plainS e.2) = true := by decide +kernel
theorem get_sound (b : Base F.prog F.w F.B) {ds : List D} {d : D} (e : getop ds = some d) : GetG F ds d := by
  intro xp ap p args hl hk lp s ok Q E h
  obtain ⟨hg, T, oT, hoT, hcT, hdT⟩ := b.tab
  refine wp_meth (o := .Name (nm 1) xp) rfl plain_args ?_ hl (wp_glob ok hk hg fun pl => ?_)
  · rw [lp.len]
    unfold getop at e
    split at e
    · exact (by decide : 2 < 30)
    · cases e
  · refine getMethod_builtin (T := "dict") ⟨oT, ok.ext _ _ hoT, hcT⟩ PySem.F.plainAttrs_dict (id := "dict.get") ?_ PySem.F.type_dict_get (fun b q => by cases q; exact ⟨oT, ok.ext _ _ hoT, hdT⟩) ?_
    · rw [show nm 48 = Str.ofString "get" from by decide +kernel]; exact PySem.F.slot_dict_get
    refine Calls.callWith_builtin plain_args (args_given lp ok fun vs h₂ t₂ k₂ r₂ => ?_)
    unfold getop at e
    split at e
    · rename_i i t
      split at e
      · rename_i hp
        cases r₂ with | cons r1 r2 =>
        cases r1 with | int _ ti =>
        cases r2 with | cons r3 r4 =>
        cases r4
        cases r3 with | str _ tt =>
        have T2 : IntTab F.prog F.w h₂ 88 tabD := T.keep fun b o e => (ok.keep k₂).ext b o e
        refine call_get2_intTab (s := { s with heap := h₂, toks := t₂ }) T2 (PyProof.V.Flat.str _ _) fun v hv => ?_
        have hlk : PySem.Spec.lookup (.int i) tabD = (intAt flagTab i).map fun t => PyData.str ⟨⟨t⟩⟩ := by
          unfold tabD
          rw [PyProof.V.lookup_enc PyProof.V.same_int, intAt_find]
          cases intAt flagTab i <;> rfl
        rw [hlk] at hv
        cases hi : intAt flagTab i with
        | none =>
          rw [hi] at hv e
          cases e
          have hv' : Reads h₂ v (.str ⟨⟨t.map (den F.sg)⟩⟩) [] := hv h₂
          cases hv'
          exact h _ h₂ _ k₂ (.str _ _)
        | some l =>
          rw [hi] at hv e
          cases e
          have hv' : Reads h₂ v (.str ⟨⟨l⟩⟩) [] := hv h₂
          cases hv'
          exact h _ h₂ _ k₂ (.plain (List.all_eq_true.mp flag_plain _ (intAt_mem hi)))
      · cases e
    · cases e
theorem meth_sound (b : Base F.prog F.w F.B) (hA : AOk k F.A) {o : Orc} (ho : ∀ m a ds d, isMeth m = true → (∃ raw n nt cs bb simple, a = .obj raw n nt cs bb simple) → o m (a :: ds) = some d → MethG F m a ds d) {m : Nat} {a : D} {ds : List D} {d : D} (e : methop o m a ds = some d) : MethG F m a ds d := by
  have hlim := lim_is
  unfold methop at e
  split at e
  · rename_i l
    split at e
    · rename_i hm
      have hm := Nat.eq_of_beq_eq_true hm
      subst hm
      split at e
      · rename_i sp
        split at e
        · rename_i hc
          cases e
          obtain ⟨hc, h4⟩ := Bool.and_eq_true_iff.mp hc
          obtain ⟨hc, h3⟩ := Bool.and_eq_true_iff.mp hc
          obtain ⟨h1, h2⟩ := Bool.and_eq_true_iff.mp hc
          rw [eqNats_eq, beq_iff_eq] at h1
          subst h1
          refine str_meth (id := "str.split") (by rw [show nm 97 = Str.ofString "split" from by decide +kernel]; exact PySem.F.slot_str_split) PySem.F.type_str_split (by decide) fun s hX t vs r => ?_
          cases r with | cons r1 r2 =>
          cases r2
          cases r1 with | str _ u =>
          rw [den_plain h2]
          exact split_gives h2 (of_decide_eq_true h3) (of_decide_eq_true h4) hX
        · cases e
      · cases e
    · split at e
      · rename_i hm
        have hm := Nat.eq_of_beq_eq_true hm
        subst hm
        split at e
        · rename_i ws
          split at e
          · rename_i t hj
            split at e
            · rename_i hc
              cases e
              obtain ⟨hc, h5⟩ := Bool.and_eq_true_iff.mp hc
              obtain ⟨hc, h4⟩ := Bool.and_eq_true_iff.mp hc
              obtain ⟨hc, h3⟩ := Bool.and_eq_true_iff.mp hc
              obtain ⟨h1, h2⟩ := Bool.and_eq_true_iff.mp hc
              refine str_meth (id := "str.join") (by rw [show nm 56 = Str.ofString "join" from by decide +kernel]; exact PySem.F.slot_str_join) PySem.F.type_str_join (by show 1 < 30; decide) fun s hX t vs r => ?_
              cases r with | cons r1 r2 =>
              cases r2
              rw [den_plain (show plainS l = true from h1)]
              exact join_gives hj h1 h2 (of_decide_eq_true h3) (of_decide_eq_true h4) (of_decide_eq_true h5) r1
            · cases e
          · cases e
        · cases e
      · cases e
  · rename_i l
    split at e
    · rename_i hm
      have hm := Nat.eq_of_beq_eq_true hm
      subst hm
      split at e
      · rename_i x
        split at e
        · rename_i hc
          obtain ⟨hc, h3⟩ := Bool.and_eq_true_iff.mp hc
          obtain ⟨h1, h2⟩ := Bool.and_eq_true_iff.mp hc
          split at e
          · rename_i i hi
            cases e
            refine lst_meth (id := "list.index") (by rw [show nm 54 = Str.ofString "index" from by decide +kernel]; exact PySem.F.slot_list_index) PySem.F.type_list_index (by show 1 < 30; decide) fun s hX v vs rv r => ?_
            cases r with | cons r1 r2 =>
            cases r2
            exact index_gives hi h1 h2 (of_decide_eq_true h3) rv r1 hA
          · cases e
        · cases e
      · cases e
    · cases e
  · split at e
    · rename_i hm
      exact ho _ _ _ _ hm ⟨_, _, _, _, _, _, rfl⟩ e
    · cases e
  · cases e
theorem hyp_orc (hs : SgOk F.sg) : ∀ (k : Nat) (A : Around), Base F.prog F.w F.B → AOk k A → Hyp { F with A := A } (orc k) k
  | 0, A, b, hA => ⟨hA.1, hA, hs, fun f bi hf nk env X ρ ds d e => bi_calls (F := Fr.to { F with A := A } nk env X ρ) b hA.1 hf e, b.enum, b.zip, (fun f ds d e => by cases e), fun m a ds d e nk env X ρ => meth_sound (F := Fr.to { F with A := A } nk env X ρ) b hA (fun m a ds d _ _ e => by cases e) e,
      fun m a d e nk env X ρ => obj_attr (F := Fr.to { F with A := A } nk env X ρ) b e, fun ds d e nk env X ρ => get_sound (F := Fr.to { F with A := A } nk env X ρ) b e⟩
  | k + 1, A, b, hA => by
    have IH : ∀ (F' : Fr), F'.prog = F.prog → F'.w = F.w → F'.B = F.B → F'.sg = F.sg → ∀ A', AOk k A' → Hyp { F' with A := A' } (orc k) k := fun F' e1 e2 e3 e4 A' hA' => by
      have z := (hyp_orc hs k A' b hA').to F'.nk F'.env F'.X F'.ρ
      obtain ⟨sg, prog, w, A0, B0, nk, env, X, ρ⟩ := F'
      dsimp only at e1 e2 e3 e4
      subst e1 e2 e3 e4
      exact z
    refine ⟨hA.1, hA, hs, fun f bi hf nk env X ρ ds d e => bi_calls (F := Fr.to { F with A := A } nk env X ρ) b hA.1 hf e, b.enum, b.zip, fun f ds d e hb hm nk env X ρ => ?_, fun m a ds d e nk env X ρ => meth_sound (F := Fr.to { F with A := A } nk env X ρ) b hA (fun m a ds d hm ha e => ?_) e,
      fun m a d e nk env X ρ => obj_attr (F := Fr.to { F with A := A } nk env X ρ) b e, fun ds d e nk env X ρ => get_sound (F := Fr.to { F with A := A } nk env X ρ) b e⟩
    · unfold orc at e
      split at e
      · rename_i fn hf
        exact fn_calls (F := Fr.to { F with A := A } nk env X ρ) b hf hm hA (IH _ rfl rfl rfl rfl) e
      · cases e
    · obtain ⟨raw, n, nt, cs, bb, simple, rfl⟩ := ha
      unfold orc at e
      split at e
      · rename_i fn hf
        exact obj_meth (F := Fr.to { F with A := A } nk env X ρ) b hf hm hA (IH _ rfl rfl rfl rfl) e
      · cases e
end
end Mine

namespace Mine
/-! an object of Whitespace, made -/
noncomputable def FnRaw (B : Heap) (fa : Addr) (ps : List Nat) (nk : NK) (body : List Stmt) : Prop := FnAt B fa ps nk body ∧ ∃ o, B.get? fa = some o ∧ o.cls = .type "function"
noncomputable def noOrc : Orc := orc 0
noncomputable def initFin (x : Nat) (raw : List Nat) : Option Res :=
  forL (sTurn (ex 11 noOrc n_init) 0 (.one 28 ⟨13, 12, 13, 14⟩) b_initfor) (exL (ex 11 noOrc n_init) .nil) (chars raw) [(72, .int 0), (66, .int 0), (24, .int 0), (4, .str [32]), (5, .str [9]), (92, .plc x), (116, .str raw)] (some (32, []))
noncomputable def intsD : List D → Option (List Int)
  | [] => some []
  | .int i :: l => match intsD l with | some r => some (i :: r) | none => none
  | _ :: _ => none
noncomputable def objOf (ρ : Rho) (l : List D) : Option (Nat × D) :=
  match getR ρ 92, getR ρ 66, getR ρ 72, getR ρ 24, intsD l with
  | some (.plc x), some (.int n), some (.int nt), some (.int b), some cs => if decide (l.length ≤ lim) then some (x, .obj [] n nt cs b (decide (l.length ≤ 1))) else none
  | _, _, _, _, _ => none
/-- the object made at x of a text -/
noncomputable def wsDx (x : Nat) (raw : List Nat) : Option (Nat × D) :=
  match initFin x raw with
  | some (ρ, some (y, l), .next) => (match Nat.beq y 32 with | true => objOf ρ l | false => none)
  | _ => none
noncomputable def rawT : List Nat := [32, 32, 32, 32, 32, 32, 32, 9, 9, 32, 9, 9, 32, 32, 9]
noncomputable def p_init : List Nat := [92, 116]
noncomputable def forBody : Stmt := .For (Tg.one 28 ⟨13, 12, 13, 14⟩).toE (.Attribute (.Name (nm 92) ⟨13, 18, 13, 22⟩) (nm 84) ⟨13, 18, 13, 26⟩) b_initfor.toL [] ⟨13, 8, 25, 21⟩
noncomputable def initBody : List Stmt := [
  .Assign [(.Attribute (.Name (nm 92) ⟨9, 8, 9, 12⟩) (nm 84) ⟨9, 8, 9, 16⟩)] (.Name (nm 116) ⟨9, 19, 9, 21⟩) ⟨9, 8, 9, 21⟩,
  .Assign [(.Tuple [(.Name (nm 4) ⟨10, 8, 10, 9⟩), (.Name (nm 5) ⟨10, 11, 10, 12⟩)] 0 ⟨10, 8, 10, 12⟩)] (.Tuple [(.Attribute (.Name (nm 6) ⟨10, 16, 10, 26⟩) (nm 4) ⟨10, 16, 10, 28⟩), (.Attribute (.Name (nm 6) ⟨10, 30, 10, 40⟩) (nm 5) ⟨10, 30, 10, 42⟩)] 0 ⟨10, 15, 10, 43⟩) ⟨10, 8, 10, 43⟩,
  (PS.own 32 ⟨11, 8, 11, 13⟩ (.lst .nil ⟨11, 16, 11, 18⟩) ⟨11, 8, 11, 18⟩).toS,
  .Assign [(.Name (nm 24) ⟨12, 8, 12, 9⟩), (.Name (nm 66) ⟨12, 12, 12, 13⟩), (.Name (nm 72) ⟨12, 16, 12, 18⟩)] (.Constant (.int 0) 0 ⟨12, 21, 12, 22⟩) ⟨12, 8, 12, 22⟩,
  forBody,
  .Assign [(.Attribute (.Name (nm 92) ⟨26, 8, 26, 12⟩) (nm 66) ⟨26, 8, 26, 14⟩)] (.Name (nm 66) ⟨26, 17, 26, 18⟩) ⟨26, 8, 26, 18⟩,
  .Assign [(.Attribute (.Name (nm 92) ⟨27, 8, 27, 12⟩) (nm 72) ⟨27, 8, 27, 15⟩)] (.Name (nm 72) ⟨27, 18, 27, 20⟩) ⟨27, 8, 27, 20⟩,
  .Assign [(.Attribute (.Name (nm 92) ⟨28, 8, 28, 12⟩) (nm 69) ⟨28, 8, 28, 17⟩)] (.Tuple [(.Call (.Name (nm 109) ⟨28, 21, 28, 26⟩) [(.Name (nm 32) ⟨28, 27, 28, 32⟩)] [] ⟨28, 21, 28, 33⟩), (.Name (nm 24) ⟨28, 35, 28, 36⟩)] 0 ⟨28, 20, 28, 37⟩) ⟨28, 8, 28, 37⟩,
  .Assign [(.Attribute (.Name (nm 92) ⟨29, 8, 29, 12⟩) (nm 55) ⟨29, 8, 29, 22⟩)] (.Compare (.Call (.Name (nm 61) ⟨29, 25, 29, 28⟩) [(.Name (nm 32) ⟨29, 29, 29, 34⟩)] [] ⟨29, 25, 29, 35⟩) [.LtE] [(.Constant (.int 1) 0 ⟨29, 39, 29, 40⟩)] ⟨29, 25, 29, 40⟩) ⟨29, 8, 29, 40⟩]
end Mine

namespace Mine
/-! __init__ -/
structure IN (x dx : Addr) (mA : Str → Option Value) (h : Heap) : Prop where
  obj : ∃ o, h.get? x = some o ∧ o.cls = .ref 83 ∧ (∀ c, o.data ≠ .cls c) ∧ o.dict = some dx
  ne : dx ≠ x
  ns : h.Ns1 dx mA
noncomputable def P2 (x dx : Addr) : Av := fun b => b = x ∨ b = dx
noncomputable def upd (mA : Str → Option Value) (f : Nat) (v : Value) : Str → Option Value := fun y => if y = nm f then some v else mA y
theorem IN.inst {x dx : Addr} {mA} {h : Heap} (I : IN x dx mA h) : h.Inst x 83 mA := let ⟨o, e, c1, c2, c3⟩ := I.obj; ⟨o, e, c1, c2, .inr ⟨dx, c3, I.ne, I.ns⟩⟩
theorem IN.keep {x dx : Addr} {mA} {h h' : Heap} (I : IN x dx mA h) (k : ∀ b ob, P2 x dx b → h.get? b = some ob → h'.get? b = some ob) : IN x dx mA h' :=
  ⟨let ⟨o, e, r⟩ := I.obj; ⟨o, k _ _ (.inl rfl) e, r⟩, I.ne, I.ns.at fun o e => k _ _ (.inr rfl) e⟩
structure InitOk (prog : Program) (w : World) (B : Heap) : Prop where
  cls : ∃ N mN, ClsOk B N mN ∧ mN "__setattr__" = none ∧ ∃ fI, mN "__init__" = some (.ref fI) ∧ FnRaw B fI p_init n_init initBody
  glob : GlobV B (nm 6) (.ref 83)
  S : ∀ (A : Around) (s : Shared) (Q E : Value → Shared → Prop), Ext B s.heap → (∀ t, Q (.str ⟨⟨[32]⟩⟩ t) { s with toks := s.toks + 1 }) → wpAny (model prog w) A (getAttr (.ref 83) (nm 4) true) Q E s
  T : ∀ (A : Around) (s : Shared) (Q E : Value → Shared → Prop), Ext B s.heap → (∀ t, Q (.str ⟨⟨[9]⟩⟩ t) { s with toks := s.toks + 1 }) → wpAny (model prog w) A (getAttr (.ref 83) (nm 5) true) Q E s
section
variable {F : Fr} {h₀ : Heap} {ρ : Rho} {w : Ow} {k : Nat} {x dx : Addr} {mA : Str → Option Value} {N : Addr} {mN : Str → Option Value}
theorem set_at (n : NewFr F h₀) (C : ClsOk F.B N mN) (hsa : mN "__setattr__" = none) {s : Shared} {E : Value → Shared → Prop} {Q : Unit → Shared → Prop} (so : SOk F h₀ (P2 x dx) ρ w s.heap) (I : IN x dx mA s.heap) (hx : x ≠ 83) {f : Nat} {v : Value} (hf : nm f ∈ attrL)
    (hB : typeLookup (.type "object") (nm f) = pure none) {ns : List Str} (hw : Within mA ns) (hsz : ns.length ≤ sizeLine)
    (h : ∀ h' tk, SOk F h₀ (P2 x dx) ρ w h' → IN x dx (upd mA f v) h' → (∀ b ob, ¬ P2 x dx b → s.heap.get? b = some ob → h'.get? b = some ob) → Q () { s with heap := h', toks := tk }) : wpAny F.M F.A (setAttr (.ref x) (nm f) v) Q E s := by
  have kB := (so.bare n).ext
  obtain ⟨hh, g, d, t, os⟩ := s
  obtain ⟨nm', q, bs, sn, sub, col, dd, k0, k1, k2, k3, k5, hC⟩ := (C.at_.keeps kB).obj
  obtain ⟨ox, hox, hcx, hdx, hddx⟩ := I.obj
  refine store_attr PySem.F.store_object hC (C.at_.keeps kB).ns hsa (C.nas _ hf) hB hx I.inst (fun h' tk' I' hk hsame => ?_) hw hsz
  have kk : ∀ b ob, ¬ P2 x dx b → hh.get? b = some ob → h'.get? b = some ob := fun b ob hb e => hk b ob (fun q => hb (.inl q)) (fun o₀ d' e₀ ed => by
    obtain rfl := Option.some.inj (hox.symm.trans e₀); obtain rfl := Option.some.inj (hddx.symm.trans ed); exact fun q => hb (.inr q)) e
  obtain ⟨o₁, e₁, c₁, dt₁, _, dk₁⟩ := hsame ox hox
  have IN' : IN x dx (upd mA f v) h' := by
    obtain ⟨o', e', _, _, hd'⟩ := I'
    obtain rfl := Option.some.inj (e₁.symm.trans e')
    rcases hd' with ⟨hn0, _⟩ | ⟨d', hd', _, hns'⟩
    · rw [dk₁ dx hddx] at hn0; cases hn0
    · obtain rfl := Option.some.inj ((dk₁ dx hddx).symm.trans hd')
      exact ⟨⟨o₁, e₁, c₁.trans hcx, fun c => dt₁ ▸ hdx c, dk₁ _ hddx⟩, I.ne, hns'⟩
  refine h h' tk' (so.stepW (Wr := P2 x dx) n (fun b q => q) kk fun b q => ?_) IN' kk
  rcases q with q | q
  · rw [q]; exact ⟨_, e₁⟩
  · rw [q]; obtain ⟨o, _, _, e, _⟩ := IN'.ns; exact ⟨o, e⟩
theorem attr_stmt (n : NewFr F h₀) (C : ClsOk F.B N mN) (hsa : mN "__setattr__" = none) {s : Shared} {E : Value → Shared → Prop} {Q : Flow → Shared → Prop} (so : SOk F h₀ (P2 x dx) ρ w s.heap) (I : IN x dx mA s.heap) (hx : x ≠ 83) {f : Nat} (hf : nm f ∈ attrL)
    (hB : typeLookup (.type "object") (nm f) = pure none) {ns : List Str} (hw : Within mA ns) (hsz : ns.length ≤ sizeLine) {e : Expr} {d : D} {p1 p2 p3 : Pos} (hev : ∀ X', EV (F.to F.nk F.env X' (withOw ρ w)) e d) (hself : getR (withOw ρ w) 92 = some (.plc x))
    (hsw : swapsWith e (some (.Attribute (.Name (nm 92) p1) (nm f) p2)) p3.line F.env = pure false)
    (h : ∀ v hm h' tk, Ext s.heap hm → Rd F.sg hm (Xe F (P2 x dx)) v d → SOk F h₀ (P2 x dx) ρ w h' → IN x dx (upd mA f v) h' → (∀ b ob, ¬ P2 x dx b → hm.get? b = some ob → h'.get? b = some ob) → Q .next { s with heap := h', toks := tk }) :
    wpAny F.M F.A (exec (.Assign [.Attribute (.Name (nm 92) p1) (nm f) p2] e p3) F.env) Q E s := by
  refine plainObj_wpAny_Assign_Attribute ?_ hsw
  refine use_val n so hev fun v h₁ tk₁ k₁ rv _ => ?_
  refine use_val (s := { s with heap := h₁, toks := tk₁ }) n (so.keep k₁) (fun X' => ev_nm (F := F.to F.nk F.env X' (withOw ρ w)) hself) fun v2 h₂ tk₂ k₂ rv2 _ => ?_
  cases rv2
  refine set_at (s := { s with heap := h₂, toks := tk₂ }) n C hsa (so.keep (k₁.trans k₂)) (I.keep fun b ob _ q => (k₁.trans k₂) b ob q) hx hf hB hw hsz fun h' tk so' I' kk => ?_
  exact h v h₂ h' tk (k₁.trans k₂) (rv.ext k₂) so' I' kk
theorem ints_are {sg : Nat} {h : Heap} {X : Av} : ∀ {vs : List Value} {l : List D} {cs : List Int}, RdL sg h X vs l → intsD l = some cs → IntsAre vs cs
  | _, _, _, .nil, e => by cases e; exact .nil
  | _, _, _, .cons (d := d) r rl, e => by
    cases r with
    | int i t =>
      unfold intsD at e
      split at e
      · rename_i r hr
        cases e
        exact .cons _ _ (ints_are rl hr)
      · cases e
    | _ => cases e
end
end Mine

namespace Mine
section
variable {F : Fr} {h₀ : Heap} {ρ : Rho} {w : Ow} {k : Nat} {x dx : Addr} {mA : Str → Option Value} {N : Addr} {mN : Str → Option Value}
theorem EOk.up {sg : Nat} {B : Heap} {nk : NK} {env : Env} {X X' : Av} {ρ : Rho} {h : Heap} (o : EOk sg B nk env X ρ h) (h1 : ∀ b, X b ↔ X' b) : EOk sg B nk env X' ρ h := by
  have : X = X' := funext fun b => propext (h1 b)
  rw [← this]; exact o
/-- the class's two signs, stored -/
theorem st_stmt (b : InitOk F.prog F.w F.B) (n : NewFr F h₀) (hh : F.A.handled = none) {P : Av} {s : Shared} {E : Value → Shared → Prop} {Q : Flow → Shared → Prop} (so : SOk F h₀ P ρ none s.heap) (h4 : lookN F.nk 4 = some .local) (h5 : lookN F.nk 5 = some .local) (h6 : lookN F.nk 6 = some .globalImplicit) {p1 p2 p3 p4 p5 p6 p7 p8 p9 : Pos} (hl : p1.line = p3.line) (hl2 : p2.line = p3.line) (hl1 : p1.line = p1.line)
    (h : ∀ h' tk, SOk F h₀ P ((4, .str [32]) :: (5, .str [9]) :: ρ) none h' → Kp F P none none s.heap h' → Q .next { s with heap := h', toks := tk }) :
    wpAny F.M F.A (exec (.Assign [(.Tuple [(.Name (nm 4) p1), (.Name (nm 5) p2)] 0 p3)] (.Tuple [(.Attribute (.Name (nm 6) p4) (nm 4) p5), (.Attribute (.Name (nm 6) p6) (nm 5) p7)] 0 p8) p9) F.env) Q E s := by
  have so0 : EOk F.sg F.B F.nk F.env (Xe F P) ρ s.heap := so.ok
  have hk4 : F.env.kindOf (nm 4) = some .local := so0.kin 4 _ h4
  have hk5 : F.env.kindOf (nm 5) = some .local := so0.kin 5 _ h5
  have hat : ∀ (m : Nat) (d : List Nat) (pa pb : Pos), (∀ (A : Around) (s : Shared) (Q E : Value → Shared → Prop), Ext F.B s.heap → (∀ t, Q (.str ⟨⟨d⟩⟩ t) { s with toks := s.toks + 1 }) → wpAny F.M A (getAttr (.ref 83) (nm m) true) Q E s) → plainS d = true →
      ∀ X', EV (F.to F.nk F.env X' ρ) (.Attribute (.Name (nm 6) pa) (nm m) pb) (.str d) := fun m d pa pb hg hp X' s' o' Q' E' h' => by
    rw [arm_eval_Attribute]
    refine wpAny_bind (wp_glob (F := F.to F.nk F.env X' ρ) o' h6 b.glob (wpAny_bind (wpAny_standAt (wpAny_bind (wpAny_holding (hg _ _ _ _ (EOk.ext o') fun t => ?_))))))
    show wpAny _ _ (pure () >>= fun _ => pure _) _ _ _
    exact wpAny_bind (wpAny_pure (wpAny_pure (h' _ s'.heap _ (Ext.refl _) (.plain hp))))
  have hev : ∀ X', EV (F.to F.nk F.env X' (withOw ρ none)) (.Tuple [(.Attribute (.Name (nm 6) p4) (nm 4) p5), (.Attribute (.Name (nm 6) p6) (nm 5) p7)] 0 p8) (.tup [.str [32], .str [9]]) := fun X' =>
    ev_tuple (lv_cons rfl (hat 4 [32] p4 p5 b.S (by decide) X') (lv_cons rfl (hat 5 [9] p6 p7 b.T (by decide) X') lv_nil)) (by decide)
  have hbk : F.env.blockKind = .function := by unfold Env.blockKind; rw [so0.fn]; rfl
  refine PyProof.Rows.Assign_Tuple_swapped (names := [nm 4, nm 5]) ?_ rfl ?_
  · refine use_val n so hev fun v h₁ tk₁ k₁ rv _ => ?_
    cases rv with | @tup a vs _ hx pt rl =>
    cases rl with | @cons v1 _ _ _ r1 rl =>
    cases rl with | @cons v2 _ _ _ r2 rl =>
    cases rl
    refine wpAny_unpackItems_tuple (items := ⟨[v1, v2]⟩) hh pt.isTuple fun h₂ he => ?_
    have k₂ : Ext h₁ h₂ := fun b ob e => he b ob (Nat.ne_of_lt (Heap.lt_size e)) e
    show wpAny F.M F.A (assignInOrder [fun n => bindName F.env (nm 5) n, fun n => bindName F.env (nm 4) n] [v2, v1]) _ _ _
    refine wpAny_bind (wpAny_holding (wpAny_bindName (wp_bindS (s := { s with heap := h₂, toks := tk₁ }) n (so.keep (k₁.trans k₂)) (r2.ext k₂) trivial (by unfold setOk; rw [h5]) rfl fun h₃ tk₃ so₃ kp₃ => ?_)))
    have r1' : Rd F.sg h₃ (Xe F P) v1 (.str [32]) := by cases r1; exact .str _ _
    refine wpAny_bind (wpAny_holding (wpAny_bindName (wp_bindS (s := { s with heap := h₃, toks := tk₃ }) n so₃ r1' trivial (by unfold setOk; rw [h4]) rfl fun h₄ tk₄ so₄ kp₄ => ?_)))
    exact wpAny_pure (h h₄ tk₄ so₄ (((Kp.ext (k₁.trans k₂)).trans kp₃).trans kp₄))
  · have hne : (nm 5 == nm 4) = false := by rw [nm_beq]; rfl
    have f1 : foldedForSure 8 (.Attribute (.Name (nm 6) p4) (nm 4) p5) = false := rfl
    have c1 : constantsAlone 8 (.Attribute (.Name (nm 6) p4) (nm 4) p5) = false := rfl
    have q1 : Expr.pos (.Name (nm 4) p1) = p1 := rfl
    unfold swappedStores
    simp [hbk, hk4, hk5, hl, hl2, f1, c1, q1, List.eraseDups_cons, hne]
end
end Mine

namespace Mine
section
variable {F : Fr} {h₀ : Heap} {ρ : Rho} {w : Ow} {k : Nat} {x dx : Addr} {mA : Str → Option Value} {N : Addr} {mN : Str → Option Value}
theorem zero_stmt (n : NewFr F h₀) {P : Av} {s : Shared} {E : Value → Shared → Prop} {Q : Flow → Shared → Prop} {z : Nat × List D} (so : SOk F h₀ P ρ (some z) s.heap) (h24 : setOk F.nk 24 = true) (h66 : setOk F.nk 66 = true) (h72 : setOk F.nk 72 = true) (hz : notNames (some z) [24] = true) (hz2 : notNames (some z) [66] = true) (hz3 : notNames (some z) [72] = true) {p1 p2 p3 p4 p5 : Pos}
    (h : ∀ h' tk, SOk F h₀ P ((72, .int 0) :: (66, .int 0) :: (24, .int 0) :: ρ) (some z) h' → Kp F P (some z) (some z) s.heap h' → Q .next { s with heap := h', toks := tk }) :
    wpAny F.M F.A (exec (.Assign [(.Name (nm 24) p1), (.Name (nm 66) p2), (.Name (nm 72) p3)] (.Constant (.int 0) 0 p4) p5) F.env) Q E s := by
  obtain ⟨y, zs⟩ := z
  have kv : ∀ {ρ : Rho} {h : Heap} {t : Tok}, KeepsV F h₀ P ρ (some (y, zs)) h (.int 0 t) (.int 0) := fun l vs _ => .int _ _
  refine wpAny_Assign_three (wpAny_Constant_int ?_)
  refine wpAny_assign_Name (wp_bindS (s := { s with toks := _ }) n so (.int 0 _) kv h24 hz fun h₁ tk₁ so₁ kp₁ => ?_)
  refine wpAny_assign_Name (wp_bindS (s := { s with heap := h₁, toks := tk₁ }) n so₁ (.int 0 _) kv h66 hz2 fun h₂ tk₂ so₂ kp₂ => ?_)
  refine wpAny_assign_Name (wp_bindS (s := { s with heap := h₂, toks := tk₂ }) n so₂ (.int 0 _) kv h72 hz3 fun h₃ tk₃ so₃ kp₃ => ?_)
  exact h h₃ tk₃ so₃ ((kp₁.trans kp₂).trans kp₃)
/-- the loop over the text -/
theorem loop_stmt (hy : Hyp F noOrc 0) (b : Base F.prog F.w F.B) (n : NewFr F h₀) (hi : interactive F.env = false) (hnk : F.nk = n_init) {s : Shared} {E : Value → Shared → Prop} {Q : Flow → Shared → Prop} {z : Nat × List D} (so : SOk F h₀ (P2 x dx) ρ (some z) s.heap) (I : IN x dx mA s.heap) (hself : getR (withOw ρ (some z)) 92 = some (.plc x))
    {raw : List Nat} {t0 : Tok} (hraw : mA (nm 84) = some (.str ⟨⟨raw.map (den F.sg)⟩⟩ t0)) {r : Res} (hr : forL (sTurn (ex 11 noOrc n_init) 0 (.one 28 ⟨13, 12, 13, 14⟩) b_initfor) (exL (ex 11 noOrc n_init) .nil) (chars raw) ρ (some z) = some r)
    (h : ∀ fl h' tk, SOk F h₀ (P2 x dx) r.1 r.2.1 h' → Kp F (P2 x dx) (some z) r.2.1 s.heap h' → FlR F F.X r.2.2 fl h' → Q fl { s with heap := h', toks := tk }) : wpAny F.M F.A (exec forBody F.env) Q E s := by
  have seen := so.seen n
  have dis : ∀ {Wr : Av}, (∀ b, Wr b → s.heap.get? b = none) → ∀ b, Xe F (P2 x dx) b → ¬ Wr b := fun hW b q q' => by
    obtain ⟨ob, e⟩ := seen.xok b q
    rw [hW b q'] at e; cases e
  rw [← hnk] at hr
  unfold forBody
  refine wpAny_For ?_ (fun _ => rfl)
  rw [arm_eval_Attribute]
  refine wpAny_bind (use_val n so (fun X' => ev_nm (F := F.to F.nk F.env X' (withOw ρ (some z))) hself) fun v h₁ tk₁ k₁ rv _ => ?_)
  cases rv
  refine wpAny_bind (wpAny_standAt (wpAny_bind (wpAny_holding ?_)))
  obtain ⟨N, mN, C⟩ := b.cls
  have kB : Ext F.B h₁ := seen.ext.trans k₁
  obtain ⟨nm', q, bs, sn, sub, col, dd, k0, k1, k2, k3, k5, hC⟩ := (C.at_.keeps kB).obj
  refine load_attr (name := nm 84) hC (C.at_.keeps kB).ns C.ga (C.nas _ (by rw [at_n.2.2.2.2]; unfold attrL; simp)) ty_raw (I.keep fun b ob _ q => k₁ b ob q).inst hraw rfl ?_
  show wpAny _ _ (pure () >>= fun _ => pure _) _ _ _
  refine wpAny_bind (wpAny_pure (wpAny_pure ?_))
  refine walk_flat (F := F) (X := Xe F (P2 x dx)) (s := { s with heap := h₁, toks := tk₁ + 1 }) (Rd.str raw t0) rfl rfl hy.hh fun I' h' tk Wr St kk hW hl hWk st => ?_
  have hW0 : ∀ b, Wr b → s.heap.get? b = none := fun b q => ext_none k₁ (hW b q)
  exact forS_loop (X₀ := F.X) (t := .one 28 ⟨13, 12, 13, 14⟩) (a := b_initfor) (b := .nil) (wlk_flat n (dis hW0) hWk) n hy.hh (by rw [hnk]; rfl) (fun ρ w r e => body_sound hy n (fun _ q => q) hi 11 _ ρ w r e) (fun ρ w r e => body_sound hy n (fun _ q => q) hi 11 _ ρ w r e) (fun q => by cases q) (so.growW n (k₁.trans kk) hW0 hl) st (Kp.ext (k₁.trans kk)) hW0 hr fun fl h'' tk' so'' kp hfl => h fl h'' tk' so'' kp hfl
end
end Mine

namespace Mine
section
variable {F : Fr} {h₀ : Heap} {ρ : Rho} {w : Ow} {k : Nat} {x dx : Addr} {mA : Str → Option Value} {N : Addr} {mN : Str → Option Value}
theorem cons_next {M : Model} {A : Around} {st : Stmt} {l : List Stmt} {env : Env} {s : Shared} {Q : Flow → Shared → Prop} {E : Value → Shared → Prop}
    (h : ∀ Q' : Flow → Shared → Prop, (∀ h' tk, wpAny M A (execs l env) Q E { s with heap := h', toks := tk } → Q' .next { s with heap := h', toks := tk }) → wpAny M A (exec st env) Q' E s) : wpAny M A (execs (st :: l) env) Q E s :=
  wpAny_execs_cons (h _ fun h' tk q => q)
theorem upd_same {f : Nat} {v : Value} : upd mA f v (nm f) = some v := if_pos rfl
theorem upd_other {f g : Nat} {v : Value} (h : g ≠ f) : upd mA f v (nm g) = mA (nm g) := if_neg fun e => h (nm_inj e)
theorem Within.upd {ns : List Str} (f : Nat) (v : Value) (h : Within mA ns) : Within (upd mA f v) (nm f :: ns) := Within.cons (nm f) v h
theorem at_in : nm 66 ∈ attrL ∧ nm 72 ∈ attrL ∧ nm 69 ∈ attrL ∧ nm 55 ∈ attrL ∧ nm 84 ∈ attrL := by
  obtain ⟨a, b, c, d, e⟩ := at_n
  rw [a, b, c, d, e]; unfold attrL; simp
theorem objOf_is {l : List D} {y : Nat} {obj : D} (h : objOf ρ l = some (y, obj)) : ∃ n nt b cs, getR ρ 92 = some (.plc y) ∧ getR ρ 66 = some (.int n) ∧ getR ρ 72 = some (.int nt) ∧ getR ρ 24 = some (.int b) ∧ intsD l = some cs ∧ l.length ≤ lim ∧ obj = .obj [] n nt cs b (decide (l.length ≤ 1)) := by
  unfold objOf at h
  split at h
  · rename_i x n nt b cs h1 h2 h3 h4 h5
    split at h
    · rename_i hl
      cases h
      exact ⟨n, nt, b, cs, h1, h2, h3, h4, h5, of_decide_eq_true hl, rfl⟩
    · cases h
  · cases h
theorem init_body (b : Base F.prog F.w F.B) (bi : InitOk F.prog F.w F.B) (hy : Hyp F noOrc 0) (n : NewFr F h₀) (hi : interactive F.env = false) (hnk : F.nk = n_init) (hx : x ≠ 83) {raw : List Nat} (hρ : ρ = [(92, .plc x), (116, .str raw)]) {s : Shared} {E : Value → Shared → Prop} {Q : Flow → Shared → Prop}
    (so : SOk F h₀ (P2 x dx) ρ none s.heap) (I : IN x dx (fun _ => none) s.heap) {obj : D} (hw : wsDx x raw = some (x, obj))
    (h : ∀ h' tk, Ext h₀ h' → (∀ X : Av, (∀ b, X b → Xe F (P2 x dx) b) → ¬ X x → ¬ X dx → Rd F.sg h' X (.ref x) obj) → Q .next { s with heap := h', toks := tk }) : wpAny F.M F.A (execs initBody F.env) Q E s := by
  obtain ⟨N, mN, C, hsa, _⟩ := bi.cls
  obtain ⟨i66, i72, i69, i55, i84⟩ := at_in
  have lk : ∀ y, lookN F.nk y = lookN n_init y := fun y => by rw [hnk]
  have sz : ∀ {l : List Str}, l.length ≤ 5 → l.length ≤ sizeLine := fun q => Nat.le_trans q (by decide)
  unfold initBody
  refine cons_next fun Q1 hQ1 => ?_
  refine attr_stmt (w := none) n C hsa so I hx i84 ty_raw Within.nil (sz (by decide)) (d := .str raw) (fun X' => ev_nm (by rw [hρ]; rfl)) (by rw [hρ]; rfl) rfl fun v1 hm h1 t1 k1 r1 so1 I1 kk1 => hQ1 h1 t1 ?_
  cases r1 with | str _ t0 =>
  refine cons_next fun Q2 hQ2 => ?_
  refine st_stmt (s := { s with heap := h1, toks := t1 }) bi n hy.hh so1 (by rw [lk]; rfl) (by rw [lk]; rfl) (by rw [lk]; rfl) rfl rfl rfl fun h2 t2 so2 kp2 => hQ2 h2 t2 ?_
  have I2 := I1.keep kp2.pk
  refine cons_next fun Q3 hQ3 => ?_
  refine own_sound (X₀ := F.X) (r := ((4, .str [32]) :: (5, .str [9]) :: ρ, some (32, []), .next)) hy n (m := 29) (by rw [hnk, hρ]; rfl) (P2 x dx) { s with heap := h2, toks := t2 } so2 _ _ fun fl h3 t3 so3 kp3 hfl => ?_
  cases fl with
  | next =>
    refine hQ3 h3 t3 ?_
    have I3 := I2.keep kp3.pk
    refine cons_next fun Q4 hQ4 => ?_
    refine zero_stmt (s := { s with heap := h3, toks := t3 }) n so3 (by unfold setOk; rw [lk]; rfl) (by unfold setOk; rw [lk]; rfl) (by unfold setOk; rw [lk]; rfl) rfl rfl rfl fun h4 t4 so4 kp4 => hQ4 h4 t4 ?_
    have I4 := I3.keep kp4.pk
    unfold wsDx at hw
    split at hw
    · rename_i ρ' y l hfin
      split at hw
      · rename_i hy32
        have hy32 := Nat.eq_of_beq_eq_true hy32
        subst hy32
        obtain ⟨nn, nt, bb, cs, g92, g66, g72, g24, hcs, hlim, rfl⟩ := objOf_is hw
        refine cons_next fun Q5 hQ5 => ?_
        refine loop_stmt (s := { s with heap := h4, toks := t4 }) (r := (ρ', some (32, l), .next)) hy b n hi hnk so4 I4 (by rw [hρ]; rfl) upd_same (by rw [hρ]; exact hfin) fun fl h5 t5 so5 kp5 hfl => ?_
        cases fl with
        | next =>
          refine hQ5 h5 t5 ?_
          have I5 := I4.keep kp5.pk
          have gw : ∀ {y : Nat} {d : D}, y ≠ 32 → getR ρ' y = some d → getR (withOw ρ' (some (32, l))) y = some d := fun hy q => by
            change getR ((32, .lst l) :: ρ') _ = _
            rw [getR_cons, if_neg (Ne.symm hy)]; exact q
          have gl : getR (withOw ρ' (some (32, l))) 32 = some (.lst l) := by
            change getR ((32, .lst l) :: ρ') _ = _
            rw [getR_cons, if_pos rfl]
          have w0 : Within (upd (fun _ => none) 84 (.str ⟨⟨raw.map (den F.sg)⟩⟩ t0)) [nm 84] := Within.upd _ _ Within.nil
          refine cons_next fun Q6 hQ6 => ?_
          refine attr_stmt (s := { s with heap := h5, toks := t5 }) n C hsa so5 I5 hx i66 ty_n w0 (sz (by decide)) (d := .int nn) (fun X' => ev_nm (gw (by decide) g66)) (gw (by decide) g92) rfl fun v6 hm6 h6 t6 k6 r6 so6 I6 kk6 => hQ6 h6 t6 ?_
          cases r6 with | int _ tn =>
          refine cons_next fun Q7 hQ7 => ?_
          refine attr_stmt (s := { s with heap := h6, toks := t6 }) n C hsa so6 I6 hx i72 ty_nt (Within.upd _ _ w0) (sz (by decide)) (d := .int nt) (fun X' => ev_nm (gw (by decide) g72)) (gw (by decide) g92) rfl fun v7 hm7 h7 t7 k7 r7 so7 I7 kk7 => hQ7 h7 t7 ?_
          cases r7 with | int _ tnt =>
          have lp : ∀ (X' : Av) (pp : Pos), LP (F.to F.nk F.env X' (withOw ρ' (some (32, l)))) (.cons (.nm 32 pp) .nil) [.lst l] := fun X' pp => .cons (ev_nm gl) .nil
          have g109 : lookN F.nk 109 = some .globalImplicit := by rw [lk]; rfl
          have g61 : lookN F.nk 61 = some .globalImplicit := by rw [lk]; rfl
          refine cons_next fun Q8 hQ8 => ?_
          refine attr_stmt (s := { s with heap := h7, toks := t7 }) n C hsa so7 I7 hx i69 ty_norm (Within.upd _ _ (Within.upd _ _ w0)) (sz (by decide)) (d := .tup [.tup l, .int bb]) (fun X' => ?_) (gw (by decide) g92) rfl fun v8 hm8 h8 t8 k8 r8 so8 I8 kk8 => hQ8 h8 t8 ?_
          · exact ev_tuple (lv_cons rfl (bi_calls (F := F.to F.nk F.env X' (withOw ρ' (some (32, l)))) b hy.hh (bi := .tuple) (f := 109) rfl (ds := [.lst l]) (d := .tup l) (if_pos (decide_eq_true hlim)) ⟨28, 21, 28, 33⟩ ⟨28, 21, 28, 26⟩ _ (lp X' ⟨28, 27, 28, 32⟩) g109) (lv_cons rfl (ev_nm (gw (by decide) g24)) lv_nil)) (show 2 ≤ lim by decide)
          refine cons_next fun Q9 hQ9 => ?_
          refine attr_stmt (s := { s with heap := h8, toks := t8 }) n C hsa so8 I8 hx i55 ty_simple (Within.upd _ _ (Within.upd _ _ (Within.upd _ _ w0))) (sz (by decide)) (d := .bool (decide ((l.length : Int) ≤ 1))) (fun X' => ?_) (gw (by decide) g92) rfl fun v9 hm9 h9 t9 k9 r9 so9 I9 kk9 => hQ9 h9 t9 ?_
          · exact ev_cmp (bi_calls (F := F.to F.nk F.env X' (withOw ρ' (some (32, l)))) b hy.hh (bi := .len) (f := 61) rfl (ds := [.lst l]) (d := .int l.length) (if_pos (decide_eq_true hlim)) ⟨29, 25, 29, 35⟩ ⟨29, 25, 29, 28⟩ _ (lp X' ⟨29, 29, 29, 34⟩) g61) ev_int rfl hy.hA hy.hs rfl
          refine wpAny_execs_nil (h h9 t9 so9.ext fun X hsub hnx hnd => ?_)
          have hXx : ∀ b, P2 x dx b → Xe F (P2 x dx) b := fun b q => .inr q
          cases r8 with | @tup nA vs _ hnA pt rl =>
          cases rl with | @cons vt _ _ _ rt rl =>
          cases rl with | @cons vb _ _ _ rb rl =>
          cases rl
          cases rb with | int _ tb =>
          cases rt with | @tup cA vs _ hcA pc rc =>
          have kf : ∀ bb ob, ¬ Xe F (P2 x dx) bb → hm8.get? bb = some ob → h9.get? bb = some ob := fun bb ob hb e => kk9 bb ob (fun q => hb (.inr q)) (k9 _ _ (kk8 bb ob (fun q => hb (.inr q)) e))
          obtain ⟨ox, e1, c1, c2, c3⟩ := I9.obj
          cases r9 with | bool _ =>
          have eq1 : decide ((l.length : Int) ≤ 1) = decide (l.length ≤ 1) := decide_eq_decide.mpr (by omega)
          rw [eq1] at I9
          obtain ⟨an, ant, anorm, asim, araw⟩ := at_n
          refine .obj (nA := nA) (cA := cA) (vs := vs) (t1 := tn) (t2 := tnt) (bt := tb) hnx ⟨dx, ox, hnd, e1, c1, c3, ⟨c2, I9.ne⟩, I9.ns, fun y hy => ?_⟩ ?_ ?_ ?_ (fun q => hnA (hsub _ q)) (pt.ext fun ob e => kf _ ob hnA e) (fun q => hcA (hsub _ q)) (pc.ext fun ob e => kf _ ob hcA e) (ints_are rc hcs) ?_
          · have ne : ∀ {f : Nat}, nm f ∈ attrL → y ≠ nm f := fun hf q => hy (q ▸ hf)
            unfold upd
            rw [if_neg (ne i55), if_neg (ne i69), if_neg (ne i72), if_neg (ne i66), if_neg (ne i84)]
          · rw [← an, upd_other (by decide), upd_other (by decide), upd_other (by decide), upd_same]
          · rw [← ant, upd_other (by decide), upd_other (by decide), upd_same]
          · rw [← anorm, upd_other (by decide), upd_same]
          · rw [← asim, upd_same]
        | _ => exact hfl.elim
      · cases hw
    · cases hw
  | _ => exact hfl.elim
end
end Mine

namespace Mine
section
variable {F : Fr} {k : Nat}
theorem ws_call (b : Base F.prog F.w F.B) (bi : InitOk F.prog F.w F.B) (hs : SgOk F.sg) (hA : AOk (k + 2) F.A) {raw : List Nat} {obj : D} (hw : ∀ x, wsDx x raw = some (x, obj)) {s : Shared} {v : Value} (hB : Ext F.B s.heap) (hX : XOk F.X s.heap) (hXB : ∀ b, F.X b → F.B.get? b = none)
    (r : Rd F.sg s.heap F.X v (.str raw)) : Gives F.sg F.M F.A F.X s (call (.ref 83) [v]) obj := by
  intro Q E h
  obtain ⟨N, mN, C, hsa, fI, hinit, fo⟩ := bi.cls
  obtain ⟨fo, oI, hoI, hfc⟩ := fo
  obtain ⟨hh, g, d, t, os⟩ := s
  dsimp only at hB hX r
  obtain ⟨nm', q, bs, sn, sub, col, dd, k0, k1, k2, k3, k5, hC⟩ := (C.at_.keeps hB).obj
  refine wpAny_call_obj_init PySem.F.objNew hC (C.at_.keeps hB).ns hinit (hB _ _ hoI) hfc fun h' x dx Mk => ?_
  have hAu : AOk (k + 1) (F.A.under (.builtin "type.__call__" ⟨[.ref 83, v], []⟩)) := by
    have h1 := hA.2.1
    have h2 := hA.2.2
    have e1 : (F.A.under (.builtin "type.__call__" ⟨[.ref 83, v], []⟩)).depth = F.A.depth + 1 := rfl
    have e2 : (F.A.under (.builtin "type.__call__" ⟨[.ref 83, v], []⟩)).units = F.A.units + 1 := rfl
    exact ⟨hA.1, by rw [e1]; omega, by rw [e2]; omega⟩
  have I0 : IN x dx (fun _ => none) h' := by
    obtain ⟨o, e, c1, c2, c3⟩ := Mk.inst
    have hd := Mk.dict o e
    refine ⟨⟨o, e, c1, c2, hd⟩, ?_, ?_⟩
    · rcases c3 with ⟨c3, _⟩ | ⟨d', c3, c4, _⟩
      · rw [hd] at c3; cases c3
      · rw [hd] at c3; cases c3; exact c4
    · rcases c3 with ⟨c3, _⟩ | ⟨d', c3, _, c4⟩
      · rw [hd] at c3; cases c3
      · rw [hd] at c3; cases c3; exact c4
  have lx : ∃ o, h'.get? x = some o := let ⟨o, e, _⟩ := I0.obj; ⟨o, e⟩
  have ldx : ∃ o, h'.get? dx = some o := by obtain ⟨o, _, _, e, _⟩ := I0.ns; exact ⟨o, e⟩
  have hx83 : x ≠ 83 := fun q => by have := Mk.newX; rw [q, hC] at this; cases this
  let X1 : Av := fun b => F.X b ∨ P2 x dx b
  have kk0 : Ext hh h' := Mk.keeps
  refine enter (F := ⟨F.sg, F.prog, F.w, F.A.under (.builtin "type.__call__" ⟨[.ref 83, v], []⟩), F.B, F.nk, F.env, X1, F.ρ⟩) (k := k) fo hAu b.lim (ds := [.plc x, .str raw]) rfl (s := ⟨h', g, d, t, os⟩) (vs := [.ref x, v]) (hB.trans kk0) ?_ ?_ ?_ fun env X' h₁ tk kk ok nf hsub hsub2 hi hA2 E' => ?_
  · rintro b (q | q | q)
    · exact hX.ext kk0 b q
    · rw [q]; exact lx
    · rw [q]; exact ldx
  · rintro b (q | q | q)
    · exact hXB b q
    · rw [q]; exact ext_none hB Mk.newX
    · rw [q]; exact ext_none hB Mk.newD
  · refine .cons (.plc x) (.cons (r.move fun b ob hb e => ⟨kk0 _ _ e, fun q => ?_⟩) .nil)
    rcases q with q | q | q
    · exact hb q
    · rw [q, Mk.newX] at e; cases e
    · rw [q, Mk.newD] at e; cases e
  · have hy := (hyp_orc (F := F) hs 0 (F.A.under (.builtin "type.__call__" ⟨[.ref 83, v], []⟩) |>.deeper env) b ⟨hA2.1, Nat.lt_of_le_of_lt (Nat.add_le_add_left (Nat.zero_le k) _) hA2.2.1, Nat.lt_of_le_of_lt (Nat.add_le_add_left (Nat.mul_le_mul_left 5 (Nat.zero_le k)) _) hA2.2.2⟩).to n_init env X' [(92, .plc x), (116, .str raw)]
    have nf' : NewFr ({ F with A := (F.A.under (.builtin "type.__call__" ⟨[.ref 83, v], []⟩)).deeper env, nk := n_init, env := env, X := X', ρ := [(92, .plc x), (116, .str raw)] } : Fr) hh := ⟨ext_none kk0 nf.nl, fun y c e => ext_none kk0 (nf.nc y c e), nf.xl, nf.xc⟩
    refine init_body (F := { F with A := (F.A.under (.builtin "type.__call__" ⟨[.ref 83, v], []⟩)).deeper env, nk := n_init, env := env, X := X', ρ := [(92, .plc x), (116, .str raw)] }) (h₀ := hh) b bi hy nf' hi rfl hx83 rfl (s := ⟨h₁, g, d, tk, os⟩) ⟨?_, kk0.trans kk, ?_⟩ (I0.keep fun b ob _ e => kk _ _ e) (hw x) fun h9 t9 k9 fin => ⟨rfl, ?_⟩
    · rintro b (q | q) <;> rw [q]
      · exact ⟨Mk.newX, (fun e => by obtain ⟨o, e2⟩ := lx; rw [e, show h'.get? env.locals = none from nf.nl] at e2; cases e2), (fun y e => by obtain ⟨o, e2⟩ := lx; rw [show h'.get? x = none from nf.nc y x e] at e2; cases e2)⟩
      · exact ⟨Mk.newD, (fun e => by obtain ⟨o, e2⟩ := ldx; rw [e, show h'.get? env.locals = none from nf.nl] at e2; cases e2), (fun y e => by obtain ⟨o, e2⟩ := ldx; rw [show h'.get? dx = none from nf.nc y dx e] at e2; cases e2)⟩
    · exact EOk.less ok (fun b q => q.elim id fun q => hsub b (.inr q)) (.inl nf.xl) fun y c e => .inl (nf.xc y c e)
    · refine h _ h9 t9 k9 (fin F.X (fun b q => .inl (hsub b (.inl q))) (fun q => ?_) (fun q => ?_))
      · obtain ⟨o, e⟩ := hX x q; rw [Mk.newX] at e; cases e
      · obtain ⟨o, e⟩ := hX dx q; rw [Mk.newD] at e; cases e
/-- the class called in an expression -/
theorem ev_ws (b : Base F.prog F.w F.B) (bi : InitOk F.prog F.w F.B) (hs : SgOk F.sg) (hA : AOk (k + 2) F.A) {raw : List Nat} {obj : D} (hw : ∀ x, wsDx x raw = some (x, obj)) {e : PE} (hk : lookN F.nk 6 = some .globalImplicit) {fp p : Pos} (he : EV F e.toE (.str raw)) :
    EV F (PE.call 6 fp (.cons e .nil) p).toE obj := by
  intro s o Q E h
  refine wpAny_Call_NameR (wp_glob o hk bi.glob ?_)
  obtain ⟨N, mN, C, _⟩ := bi.cls
  refine PyProof.Rows.callWith_cls (h₀ := F.B) C.at_ (?_) star_toE rfl
  exact (LP.cons he .nil).lv s o _ _ _ fun vs h₁ t₁ k₁ r₁ => ⟨(o.keep k₁).ext, by
    cases r₁ with | cons r₁ r₂ =>
    cases r₂
    exact ws_call (s := { s with heap := h₁, toks := t₁ }) b bi hs hA hw (o.keep k₁).ext (o.keep k₁).xok o.xlo r₁ Q E fun v h₂ t₂ k₂ r₂ => h v h₂ t₂ (k₁.trans k₂) r₂⟩
end
end Mine

namespace Mine
/-! tables; printed by gen44.py -/
noncomputable def foldsC : Nat → Nat
  | 2 => 5
  | _ => 4
noncomputable def aheadC : Nat → Nat
  | 1 => 16
  | _ => 0
noncomputable def sizeC : Nat → Nat
  | 2 => 31
  | _ => 15
noncomputable def numC : Nat → Nat
  | 2 => 32
  | _ => 16
noncomputable def texts0 : List (List Nat) := [
  [9, 9, 32, 9, 9, 32, 32, 9, 9, 9, 32, 32, 9, 32, 32],
  [32, 9, 9, 9, 32, 32, 9, 9, 32, 9, 9, 32, 32, 32, 9],
  [9, 32, 32, 9, 9, 9, 32, 9, 9, 32, 32, 32, 9, 9, 32],
  [32, 32, 9, 9, 32, 9, 9, 9, 32, 32, 9, 32, 32, 9, 9],
  [9, 9, 32, 32, 9, 32, 32, 9, 9, 9, 32, 9, 9, 32, 32],
  [32, 9, 9, 32, 32, 32, 9, 9, 32, 9, 9, 9, 32, 32, 9],
  [9, 32, 32, 32, 9, 9, 32, 9, 9, 32, 32, 9, 9, 9, 32],
  [32, 32, 9, 32, 32, 9, 9, 9, 32, 32, 9, 9, 32, 9, 9],
  [9, 9, 32, 9, 9, 32, 32, 32, 9, 9, 32, 32, 9, 32, 32],
  [32, 9, 9, 9, 32, 32, 9, 32, 32, 9, 9, 32, 32, 32, 9],
  [9, 32, 32, 9, 9, 9, 32, 32, 9, 32, 32, 32, 9, 9, 32],
  [32, 32, 9, 9, 32, 9, 9, 32, 32, 32, 9, 32, 32, 9, 9],
  [9, 9, 32, 32, 9, 32, 32, 32, 9, 9, 32, 9, 9, 32, 32],
  [32, 9, 9, 32, 32, 32, 9, 32, 32, 9, 9, 9, 32, 32, 9],
  [9, 32, 32, 32, 9, 9, 32, 32, 9, 32, 32, 9, 9, 9, 32],
  [32, 32, 9, 32, 32, 9, 9, 32, 32, 32, 9, 9, 32, 9, 9]]
noncomputable def texts1 : List (List Nat) := [
  [9, 9, 32, 9, 9, 32, 32, 32, 9, 9, 32, 32, 9, 32, 32],
  [32, 9, 9, 9, 32, 32, 9, 32, 32, 9, 9, 32, 32, 32, 9],
  [9, 32, 32, 9, 9, 9, 32, 32, 9, 32, 32, 32, 9, 9, 32],
  [32, 32, 9, 9, 32, 9, 9, 32, 32, 32, 9, 32, 32, 9, 9],
  [9, 9, 32, 32, 9, 32, 32, 32, 9, 9, 32, 9, 9, 32, 32],
  [32, 9, 9, 32, 32, 32, 9, 32, 32, 9, 9, 9, 32, 32, 9],
  [9, 32, 32, 32, 9, 9, 32, 32, 9, 32, 32, 9, 9, 9, 32],
  [32, 32, 9, 32, 32, 9, 9, 32, 32, 32, 9, 9, 32, 9, 9],
  [9, 9, 32, 9, 9, 32, 32, 9, 9, 9, 32, 32, 9, 32, 32],
  [32, 9, 9, 9, 32, 32, 9, 9, 32, 9, 9, 32, 32, 32, 9],
  [9, 32, 32, 9, 9, 9, 32, 9, 9, 32, 32, 32, 9, 9, 32],
  [32, 32, 9, 9, 32, 9, 9, 9, 32, 32, 9, 32, 32, 9, 9],
  [9, 9, 32, 32, 9, 32, 32, 9, 9, 9, 32, 9, 9, 32, 32],
  [32, 9, 9, 32, 32, 32, 9, 9, 32, 9, 9, 9, 32, 32, 9],
  [9, 32, 32, 32, 9, 9, 32, 9, 9, 32, 32, 9, 9, 9, 32],
  [32, 32, 9, 32, 32, 9, 9, 9, 32, 32, 9, 9, 32, 9, 9]]
noncomputable def texts2 : List (List Nat) := [
  [9, 9, 32, 9, 9, 32, 32, 9, 9, 9, 32, 32, 9, 32, 32, 9, 9, 9, 32, 9, 9, 32, 32, 32, 9, 9, 32, 32, 9, 32, 32],
  [32, 9, 9, 9, 32, 32, 9, 9, 32, 9, 9, 32, 32, 32, 9, 9, 32, 9, 9, 9, 32, 32, 9, 32, 32, 9, 9, 32, 32, 32, 9],
  [9, 32, 32, 9, 9, 9, 32, 9, 9, 32, 32, 32, 9, 9, 32, 9, 9, 32, 32, 9, 9, 9, 32, 32, 9, 32, 32, 32, 9, 9, 32],
  [32, 32, 9, 9, 32, 9, 9, 9, 32, 32, 9, 32, 32, 9, 9, 9, 32, 32, 9, 9, 32, 9, 9, 32, 32, 32, 9, 32, 32, 9, 9],
  [9, 9, 32, 32, 9, 32, 32, 9, 9, 9, 32, 9, 9, 32, 32, 9, 9, 9, 32, 32, 9, 32, 32, 32, 9, 9, 32, 9, 9, 32, 32],
  [32, 9, 9, 32, 32, 32, 9, 9, 32, 9, 9, 9, 32, 32, 9, 9, 32, 9, 9, 32, 32, 32, 9, 32, 32, 9, 9, 9, 32, 32, 9],
  [9, 32, 32, 32, 9, 9, 32, 9, 9, 32, 32, 9, 9, 9, 32, 9, 9, 32, 32, 32, 9, 9, 32, 32, 9, 32, 32, 9, 9, 9, 32],
  [32, 32, 9, 32, 32, 9, 9, 9, 32, 32, 9, 9, 32, 9, 9, 9, 32, 32, 9, 32, 32, 9, 9, 32, 32, 32, 9, 9, 32, 9, 9],
  [9, 9, 32, 9, 9, 32, 32, 32, 9, 9, 32, 32, 9, 32, 32, 9, 9, 9, 32, 9, 9, 32, 32, 9, 9, 9, 32, 32, 9, 32, 32],
  [32, 9, 9, 9, 32, 32, 9, 32, 32, 9, 9, 32, 32, 32, 9, 9, 32, 9, 9, 9, 32, 32, 9, 9, 32, 9, 9, 32, 32, 32, 9],
  [9, 32, 32, 9, 9, 9, 32, 32, 9, 32, 32, 32, 9, 9, 32, 9, 9, 32, 32, 9, 9, 9, 32, 9, 9, 32, 32, 32, 9, 9, 32],
  [32, 32, 9, 9, 32, 9, 9, 32, 32, 32, 9, 32, 32, 9, 9, 9, 32, 32, 9, 9, 32, 9, 9, 9, 32, 32, 9, 32, 32, 9, 9],
  [9, 9, 32, 32, 9, 32, 32, 32, 9, 9, 32, 9, 9, 32, 32, 9, 9, 9, 32, 32, 9, 32, 32, 9, 9, 9, 32, 9, 9, 32, 32],
  [32, 9, 9, 32, 32, 32, 9, 32, 32, 9, 9, 9, 32, 32, 9, 9, 32, 9, 9, 32, 32, 32, 9, 9, 32, 9, 9, 9, 32, 32, 9],
  [9, 32, 32, 32, 9, 9, 32, 32, 9, 32, 32, 9, 9, 9, 32, 9, 9, 32, 32, 32, 9, 9, 32, 9, 9, 32, 32, 9, 9, 9, 32],
  [32, 32, 9, 32, 32, 9, 9, 32, 32, 32, 9, 9, 32, 9, 9, 9, 32, 32, 9, 32, 32, 9, 9, 9, 32, 32, 9, 9, 32, 9, 9],
  [9, 9, 32, 9, 9, 32, 32, 9, 9, 9, 32, 32, 9, 32, 32, 32, 9, 9, 32, 9, 9, 32, 32, 32, 9, 9, 32, 32, 9, 32, 32],
  [32, 9, 9, 9, 32, 32, 9, 9, 32, 9, 9, 32, 32, 32, 9, 32, 32, 9, 9, 9, 32, 32, 9, 32, 32, 9, 9, 32, 32, 32, 9],
  [9, 32, 32, 9, 9, 9, 32, 9, 9, 32, 32, 32, 9, 9, 32, 32, 9, 32, 32, 9, 9, 9, 32, 32, 9, 32, 32, 32, 9, 9, 32],
  [32, 32, 9, 9, 32, 9, 9, 9, 32, 32, 9, 32, 32, 9, 9, 32, 32, 32, 9, 9, 32, 9, 9, 32, 32, 32, 9, 32, 32, 9, 9],
  [9, 9, 32, 32, 9, 32, 32, 9, 9, 9, 32, 9, 9, 32, 32, 32, 9, 9, 32, 32, 9, 32, 32, 32, 9, 9, 32, 9, 9, 32, 32],
  [32, 9, 9, 32, 32, 32, 9, 9, 32, 9, 9, 9, 32, 32, 9, 32, 32, 9, 9, 32, 32, 32, 9, 32, 32, 9, 9, 9, 32, 32, 9],
  [9, 32, 32, 32, 9, 9, 32, 9, 9, 32, 32, 9, 9, 9, 32, 32, 9, 32, 32, 32, 9, 9, 32, 32, 9, 32, 32, 9, 9, 9, 32],
  [32, 32, 9, 32, 32, 9, 9, 9, 32, 32, 9, 9, 32, 9, 9, 32, 32, 32, 9, 32, 32, 9, 9, 32, 32, 32, 9, 9, 32, 9, 9],
  [9, 9, 32, 9, 9, 32, 32, 32, 9, 9, 32, 32, 9, 32, 32, 32, 9, 9, 32, 9, 9, 32, 32, 9, 9, 9, 32, 32, 9, 32, 32],
  [32, 9, 9, 9, 32, 32, 9, 32, 32, 9, 9, 32, 32, 32, 9, 32, 32, 9, 9, 9, 32, 32, 9, 9, 32, 9, 9, 32, 32, 32, 9],
  [9, 32, 32, 9, 9, 9, 32, 32, 9, 32, 32, 32, 9, 9, 32, 32, 9, 32, 32, 9, 9, 9, 32, 9, 9, 32, 32, 32, 9, 9, 32],
  [32, 32, 9, 9, 32, 9, 9, 32, 32, 32, 9, 32, 32, 9, 9, 32, 32, 32, 9, 9, 32, 9, 9, 9, 32, 32, 9, 32, 32, 9, 9],
  [9, 9, 32, 32, 9, 32, 32, 32, 9, 9, 32, 9, 9, 32, 32, 32, 9, 9, 32, 32, 9, 32, 32, 9, 9, 9, 32, 9, 9, 32, 32],
  [32, 9, 9, 32, 32, 32, 9, 32, 32, 9, 9, 9, 32, 32, 9, 32, 32, 9, 9, 32, 32, 32, 9, 9, 32, 9, 9, 9, 32, 32, 9],
  [9, 32, 32, 32, 9, 9, 32, 32, 9, 32, 32, 9, 9, 9, 32, 32, 9, 32, 32, 32, 9, 9, 32, 9, 9, 32, 32, 9, 9, 9, 32],
  [32, 32, 9, 32, 32, 9, 9, 32, 32, 32, 9, 9, 32, 9, 9, 32, 32, 32, 9, 32, 32, 9, 9, 9, 32, 32, 9, 9, 32, 9, 9]]
noncomputable def textsC : Nat → List (List Nat)
  | 0 => texts0
  | 1 => texts1
  | _ => texts2
noncomputable def cls0 : List Nat := [0, 4, 2, 5, 0, 4, 2, 5, 1, 6, 3, 6, 1, 6, 3, 6]
noncomputable def cls1 : List Nat := [1, 6, 3, 6, 1, 6, 3, 6, 0, 4, 2, 5, 0, 4, 2, 5]
noncomputable def cls2 : List Nat := [0, 4, 2, 5, 0, 4, 2, 5, 0, 4, 2, 5, 0, 4, 2, 5, 1, 6, 3, 6, 1, 6, 3, 6, 1, 6, 3, 6, 1, 6, 3, 6]
noncomputable def clsC : Nat → List Nat
  | 0 => cls0
  | 1 => cls1
  | _ => cls2
noncomputable def seenL : List D := [.tup [.int 0, .int 0, .int 0], .tup [.int 0, .int 0, .int 1], .tup [.int 0, .int 1, .int 0], .tup [.int 0, .int 1, .int 1], .tup [.int 1, .int 0, .int 0], .tup [.int 1, .int 1, .int 0], .tup [.int 1, .int 1, .int 1]]
noncomputable def runs0 : List D := [.tup [.tup [.int 5, .int 1, .int 2], .int 2], .tup [.tup [.int 4, .int 1, .int 1, .int 1], .int 2], .tup [.tup [.int 5, .int 1, .int 1, .int 1], .int 1], .tup [.tup [.int 4, .int 0, .int 2, .int 1], .int 1], .tup [.tup [.int 4, .int 2, .int 1, .int 1], .int 0], .tup [.tup [.int 4, .int 1, .int 3], .int 0], .tup [.tup [.int 3, .int 1, .int 2, .int 1], .int 0]]
noncomputable def objs0 : List D := [.obj [] 15 8 [5, 1, 2] 2 false, .obj [] 15 7 [4, 1, 1, 1] 2 false, .obj [] 15 8 [5, 1, 1, 1] 1 false, .obj [] 15 7 [4, 0, 2, 1] 1 false, .obj [] 15 8 [4, 2, 1, 1] 0 false, .obj [] 15 8 [4, 1, 3] 0 false, .obj [] 15 7 [3, 1, 2, 1] 0 false]
noncomputable def thrs0 : List D := [.obj [] 19 8 [5, 1, 2] 6 false, .obj [] 19 7 [4, 1, 1, 1] 6 false, .obj [] 19 8 [5, 1, 1, 1] 5 false, .obj [] 19 7 [4, 0, 2, 1] 5 false, .obj [] 19 8 [4, 2, 1, 1] 4 false, .obj [] 19 8 [4, 1, 3] 4 false, .obj [] 19 7 [3, 1, 2, 1] 4 false]
noncomputable def runs1 : List D := [.tup [.tup [.int 5, .int 1, .int 2], .int 2], .tup [.tup [.int 4, .int 1, .int 1, .int 1], .int 2], .tup [.tup [.int 5, .int 1, .int 1, .int 1], .int 1], .tup [.tup [.int 4, .int 0, .int 2, .int 1], .int 1], .tup [.tup [.int 4, .int 2, .int 1, .int 1], .int 0], .tup [.tup [.int 4, .int 1, .int 3], .int 0], .tup [.tup [.int 3, .int 1, .int 2, .int 1], .int 0]]
noncomputable def objs1 : List D := [.obj [] 15 8 [5, 1, 2] 2 false, .obj [] 15 7 [4, 1, 1, 1] 2 false, .obj [] 15 8 [5, 1, 1, 1] 1 false, .obj [] 15 7 [4, 0, 2, 1] 1 false, .obj [] 15 8 [4, 2, 1, 1] 0 false, .obj [] 15 8 [4, 1, 3] 0 false, .obj [] 15 7 [3, 1, 2, 1] 0 false]
noncomputable def thrs1 : List D := [.obj [] 19 8 [5, 1, 2] 6 false, .obj [] 19 7 [4, 1, 1, 1] 6 false, .obj [] 19 8 [5, 1, 1, 1] 5 false, .obj [] 19 7 [4, 0, 2, 1] 5 false, .obj [] 19 8 [4, 2, 1, 1] 4 false, .obj [] 19 8 [4, 1, 3] 4 false, .obj [] 19 7 [3, 1, 2, 1] 4 false]
noncomputable def runs2 : List D := [.tup [.tup [.int 9, .int 2, .int 4, .int 1], .int 2], .tup [.tup [.int 8, .int 2, .int 3, .int 2], .int 2], .tup [.tup [.int 9, .int 2, .int 3, .int 2], .int 1], .tup [.tup [.int 8, .int 1, .int 4, .int 2], .int 1], .tup [.tup [.int 8, .int 3, .int 3, .int 2], .int 0], .tup [.tup [.int 8, .int 2, .int 5, .int 1], .int 0], .tup [.tup [.int 7, .int 2, .int 4, .int 2], .int 0]]
noncomputable def objs2 : List D := [.obj [] 31 16 [9, 2, 4, 1] 2 false, .obj [] 31 15 [8, 2, 3, 2] 2 false, .obj [] 31 16 [9, 2, 3, 2] 1 false, .obj [] 31 15 [8, 1, 4, 2] 1 false, .obj [] 31 16 [8, 3, 3, 2] 0 false, .obj [] 31 16 [8, 2, 5, 1] 0 false, .obj [] 31 15 [7, 2, 4, 2] 0 false]
noncomputable def thrs2 : List D := [.obj [] 35 16 [9, 2, 4, 1] 6 false, .obj [] 35 15 [8, 2, 3, 2] 6 false, .obj [] 35 16 [9, 2, 3, 2] 5 false, .obj [] 35 15 [8, 1, 4, 2] 5 false, .obj [] 35 16 [8, 3, 3, 2] 4 false, .obj [] 35 16 [8, 2, 5, 1] 4 false, .obj [] 35 15 [7, 2, 4, 2] 4 false]
noncomputable def runsC : Nat → List D
  | 0 => runs0
  | 1 => runs1
  | _ => runs2
noncomputable def objsC : Nat → List D
  | 0 => objs0
  | 1 => objs1
  | _ => objs2
noncomputable def thrsC : Nat → List D
  | 0 => thrs0
  | 1 => thrs1
  | _ => thrs2
noncomputable def hdL : List D := [
  .tup [.int 0, .str [], .bool false],
  .tup [.int 1, .str [], .bool false],
  .tup [.int 0, .str [34], .bool true],
  .tup [.int 2, .str [], .bool false],
  .tup [.int 0, .str [34, 34], .bool false],
  .tup [.int 1, .str [34], .bool true],
  .tup [.int 0, .str [34, 34, 34], .bool true],
  .tup [.int 3, .str [], .bool false],
  .tup [.int 0, .str [34, 34, 34, 34], .bool false],
  .tup [.int 1, .str [34, 34], .bool false],
  .tup [.int 0, .str [34, 34, 34, 34, 34], .bool true],
  .tup [.int 2, .str [34], .bool true],
  .tup [.int 0, .str [34, 34, 34, 34, 34, 34], .bool false],
  .tup [.int 1, .str [34, 34, 34], .bool true],
  .tup [.int 0, .str [34, 34, 34, 34, 34, 34, 34], .bool true],
  .tup [.int 4, .str [], .bool false],
  .tup [.int 0, .str [34, 34, 34, 34, 34, 34, 34, 34], .bool false],
  .tup [.int 1, .str [34, 34, 34, 34], .bool false],
  .tup [.int 0, .str [34, 34, 34, 34, 34, 34, 34, 34, 34], .bool true],
  .tup [.int 2, .str [34, 34], .bool false],
  .tup [.int 0, .str [34, 34, 34, 34, 34, 34, 34, 34, 34, 34], .bool false],
  .tup [.int 1, .str [34, 34, 34, 34, 34], .bool true],
  .tup [.int 0, .str [34, 34, 34, 34, 34, 34, 34, 34, 34, 34, 34], .bool true],
  .tup [.int 3, .str [34], .bool true],
  .tup [.int 0, .str [34, 34, 34, 34, 34, 34, 34, 34, 34, 34, 34, 34], .bool false],
  .tup [.int 1, .str [34, 34, 34, 34, 34, 34], .bool false],
  .tup [.int 0, .str [34, 34, 34, 34, 34, 34, 34, 34, 34, 34, 34, 34, 34], .bool true],
  .tup [.int 2, .str [34, 34, 34], .bool true],
  .tup [.int 0, .str [34, 34, 34, 34, 34, 34, 34, 34, 34, 34, 34, 34, 34, 34], .bool false],
  .tup [.int 1, .str [34, 34, 34, 34, 34, 34, 34], .bool true],
  .tup [.int 0, .str [34, 34, 34, 34, 34, 34, 34, 34, 34, 34, 34, 34, 34, 34, 34], .bool true]]
noncomputable def namesT : D := .lst [.str [79, 80, 84, 73, 77, 73, 90, 69, 68], .str [78, 69, 87, 76, 79, 67, 65, 76, 83], .str [86, 65, 82, 65, 82, 71, 83], .str [86, 65, 82, 75, 69, 89, 87, 79, 82, 68, 83], .str [78, 69, 83, 84, 69, 68], .str [71, 69, 78, 69, 82, 65, 84, 79, 82], .str [78, 79, 70, 82, 69, 69], .str [67, 79, 82, 79, 85, 84, 73, 78, 69], .str [73, 84, 69, 82, 65, 66, 76, 69, 95, 67, 79, 82, 79, 85, 84, 73, 78, 69], .str [65, 83, 89, 78, 67, 95, 71, 69, 78, 69, 82, 65, 84, 79, 82], .str [48, 120, 52, 48, 48], .str [48, 120, 56, 48, 48]]
noncomputable def numL : List Nat := [1, 2, 3, 4, 5, 6, 7, 8, 9, 10, 11, 12, 13, 14, 15, 16, 17, 18, 19, 20, 21, 22, 23, 24, 25, 26, 27, 28, 29, 30, 31]
noncomputable def upto16 : List Nat := [0, 1, 2, 3, 4, 5, 6, 7, 8, 9, 10, 11, 12, 13, 14, 15]
noncomputable def upto32 : List Nat := [0, 1, 2, 3, 4, 5, 6, 7, 8, 9, 10, 11, 12, 13, 14, 15, 16, 17, 18, 19, 20, 21, 22, 23, 24, 25, 26, 27, 28, 29, 30, 31]
noncomputable def uptoC : Nat → List Nat
  | 2 => upto32
  | _ => upto16
noncomputable def heardT (c : Nat) : D := .lst ((hdL.drop (aheadC c)).take (sizeC c))
noncomputable def bits : Nat → Nat → List D
  | 0, _ => []
  | k + 1, a => .int ((a % 2 : Nat) : Int) :: bits k (a / 2)
noncomputable def bitsT (c a : Nat) : D := .lst (bits (foldsC c) a)
end Mine

namespace Mine
/-! statements, by what their expressions give -/
section
variable {F : Fr} {h₀ : Heap} {X₀ : Av} {ρ : Rho} {k : Nat}
theorem asg_ev (hh : F.A.handled = none) (n : NewFr F h₀) {x : Nat} {xp p : Pos} {e : PE} {d : D} (hc : isComp e = false) (h3 : setOk F.nk x = true) (hev : ∀ X', EV (F.to F.nk F.env X' ρ) e.toE d) : XV F h₀ X₀ (exec (PS.asg x xp e p).toS F.env) ρ none ((x, d) :: ρ, none, .next) := by
  intro P s so Q E h
  refine wpAny_Assign_stores (targets := [(Tg.one x xp).toE]) (use_val n so hev fun v h' tk kk r hr => ?_) ?_ ?_
  · show wpAny _ _ (assign (Tg.one x xp).toE F.env v) _ _ _
    refine wp_bind (ρ' := (x, d) :: ρ) n (so.keep kk) r (hr rfl) h3 (notNames_one rfl) rfl hh fun h'' tk' so'' k' => ?_
    exact h .next h'' tk' so'' ((Kp.ext kk).trans k') trivial
  · show swapsWith e.toE (some (Tg.one x xp).toE) p.line F.env = pure false
    exact noSwap e hc _ _ _
  · cases e <;> rfl
theorem asgT_ev (hh : F.A.handled = none) (n : NewFr F h₀) {xs : List (Nat × Pos)} {kk : Nat} {pp p : Pos} {e : PE} {d : D} {ρ' : Rho} (h4 : notTupD e = true) (h3 : tgSet F.nk (.many xs kk pp) = true) (hb : bindT (.many xs kk pp) d ρ = some ρ') (hev : ∀ X', EV (F.to F.nk F.env X' ρ) e.toE d) : XV F h₀ X₀ (exec (PS.asgT (.many xs kk pp) e p).toS F.env) ρ none (ρ', none, .next) := by
  have hc : isComp e = false := by cases e <;> first | rfl | cases h4
  intro P s so Q E h
  refine wpAny_Assign_stores (targets := [(Tg.many xs kk pp).toE]) (use_val n so hev fun v h' tk kk' r hr => ?_) ?_ ?_
  · show wpAny _ _ (assign (Tg.many xs kk pp).toE F.env v) _ _ _
    have hn : ∀ l : List Nat, notNames none l = true := fun l => by
      induction l with
      | nil => rfl
      | cons a l ih => show (notOw none a && notNames none l) = true; rw [ih]; rfl
    refine wp_bind n (so.keep kk') r (hr rfl) h3 (hn _) hb hh fun h'' tk' so'' k' => ?_
    exact h .next h'' tk' so'' ((Kp.ext kk').trans k') trivial
  · show swapsWith e.toE (some (Tg.many xs kk pp).toE) p.line F.env = pure false
    exact noSwap e hc _ _ _
  · cases e <;> first | rfl | cases h4
theorem if_ev (n : NewFr F h₀) {t : PE} {a : PSs} {p : Pos} (hb : ∀ X', BV (F.to F.nk F.env X' ρ) t.toE false) : XV F h₀ X₀ (exec (PS.ifS t a .nil p).toS F.env) ρ none (ρ, none, .next) := by
  intro P s so Q E h
  refine wpAny_If (use_test n so (c := false) hb fun h' tk kk => ?_)
  exact wpAny_execs_nil (h .next h' tk (so.keep kk) (Kp.ext kk) trivial)
theorem seq_ev {st : PS} {l : PSs} {ρ1 : Rho} {r : Res} (h1 : XV F h₀ X₀ (exec st.toS F.env) ρ none (ρ1, none, .next)) (h2 : XV F h₀ X₀ (execs l.toL F.env) ρ1 none r) : XV F h₀ X₀ (execs (PSs.cons st l).toL F.env) ρ none r := by
  intro P s so Q E h
  refine wpAny_execs_cons (h1 P s so _ E fun fl h' tk so' kk hfl => ?_)
  cases fl with
  | next => exact h2 P { s with heap := h', toks := tk } so' Q E fun fl h'' tk' so'' k' hfl => h fl h'' tk' so'' (kk.trans k') hfl
  | _ => exact hfl.elim
theorem turns_one {names : NK} {x : Nat} {xp : Pos} {elt : PE} : ∀ {ds rs : List D}, ds.length = rs.length → (∀ (i : Nat) d r, ds[i]? = some d → rs[i]? = some r → ∀ env' X', EV (F.to names env' X' ((x, d) :: freeRho names F.ρ)) elt.toE r) → Turns (TurnP F names (.one x xp) .nil elt 0) ds rs
  | [], [], _, _ => .nil
  | d :: ds, r :: rs, e, h => .keep ⟨(fun q => by cases q), _, rfl, fun env' X' => ⟨rfl, fun y q => by cases q; exact h 0 d r rfl rfl env' X'⟩⟩ (turns_one (Nat.succ.inj e) fun i d r h1 h2 => h (i + 1) d r h1 h2)
  | [], _ :: _, e, _ => by cases e
  | _ :: _, [], e, _ => by cases e
theorem map_at {α β γ : Type} {f : α → γ} {g : β → γ} {l : List α} {m : List β} (h : l.map f = m.map g) {i : Nat} {x : α} {y : β} (hx : l[i]? = some x) (hy : m[i]? = some y) : f x = g y := by
  have e : (l.map f)[i]? = (m.map g)[i]? := by rw [h]
  rw [List.getElem?_map, List.getElem?_map, hx, hy] at e
  exact Option.some.inj e
end
end Mine

namespace Mine
/-! what the law's functions give, checked by the kernel -/
theorem names_is : orc 5 12 [] = some namesT := by kernel_rfl
theorem reads_is : numL.map (fun n => orc 5 14 [.int ((n : Nat) : Int), .str [SP]]) = hdL.map some := by kernel_rfl
theorem named_0 : numL.map (fun n => orc 5 11 [.int ((n : Nat) : Int), .int 0, namesT]) = hdL.map some := by kernel_rfl
theorem named_1 : numL.map (fun n => orc 5 11 [.int ((n : Nat) : Int), .int 1, namesT]) = hdL.map some := by kernel_rfl
theorem named_2 : numL.map (fun n => orc 5 11 [.int ((n : Nat) : Int), .int 2, namesT]) = hdL.map some := by kernel_rfl
theorem named_3 : numL.map (fun n => orc 5 11 [.int ((n : Nat) : Int), .int 3, namesT]) = hdL.map some := by kernel_rfl
theorem named_4 : numL.map (fun n => orc 5 11 [.int ((n : Nat) : Int), .int 4, namesT]) = hdL.map some := by kernel_rfl
theorem named_5 : numL.map (fun n => orc 5 11 [.int ((n : Nat) : Int), .int 5, namesT]) = hdL.map some := by kernel_rfl
theorem named_6 : numL.map (fun n => orc 5 11 [.int ((n : Nat) : Int), .int 6, namesT]) = hdL.map some := by kernel_rfl
theorem named_7 : numL.map (fun n => orc 5 11 [.int ((n : Nat) : Int), .int 7, namesT]) = hdL.map some := by kernel_rfl
theorem named_is (s : Nat) (hs : s < 8) : numL.map (fun n => orc 5 11 [.int ((n : Nat) : Int), .int (s : Int), namesT]) = hdL.map some :=
  match s, hs with
  | 0, _ => named_0 | 1, _ => named_1 | 2, _ => named_2 | 3, _ => named_3 | 4, _ => named_4 | 5, _ => named_5 | 6, _ => named_6 | 7, _ => named_7
theorem typed_0 : (uptoC 0).map (fun a => orc 5 17 [.int ((a : Nat) : Int), heardT 0, namesT]) = (textsC 0).map (fun t => some (.str t)) := by kernel_rfl
theorem typed_1 : (uptoC 1).map (fun a => orc 5 17 [.int ((a : Nat) : Int), heardT 1, namesT]) = (textsC 1).map (fun t => some (.str t)) := by kernel_rfl
theorem typed_2 : (uptoC 2).map (fun a => orc 5 17 [.int ((a : Nat) : Int), heardT 2, namesT]) = (textsC 2).map (fun t => some (.str t)) := by kernel_rfl
theorem typed_is (c : Nat) (hc : c < 3) : (uptoC c).map (fun a => orc 5 17 [.int ((a : Nat) : Int), heardT c, namesT]) = (textsC c).map (fun t => some (.str t)) :=
  match c, hc with
  | 0, _ => typed_0 | 1, _ => typed_1 | 2, _ => typed_2
theorem opened_0 : (uptoC 0).map (fun a => orc 5 13 [bitsT 0 a, .int (aheadC 0 : Nat), .int (sizeC 0 : Nat)]) = (textsC 0).map (fun t => some (.str t)) := by kernel_rfl
theorem opened_1 : (uptoC 1).map (fun a => orc 5 13 [bitsT 1 a, .int (aheadC 1 : Nat), .int (sizeC 1 : Nat)]) = (textsC 1).map (fun t => some (.str t)) := by kernel_rfl
theorem opened_2 : (uptoC 2).map (fun a => orc 5 13 [bitsT 2 a, .int (aheadC 2 : Nat), .int (sizeC 2 : Nat)]) = (textsC 2).map (fun t => some (.str t)) := by kernel_rfl
theorem opened_is (c : Nat) (hc : c < 3) : (uptoC c).map (fun a => orc 5 13 [bitsT c a, .int (aheadC c : Nat), .int (sizeC c : Nat)]) = (textsC c).map (fun t => some (.str t)) :=
  match c, hc with
  | 0, _ => opened_0 | 1, _ => opened_1 | 2, _ => opened_2
theorem seen_is (c : Nat) (hc : c < 3) : (uptoC c).map (fun a => orc 5 16 [bitsT c a, .int (aheadC c : Nat)]) = (clsC c).map (fun i => seenL[i]?) :=
  match c, hc with
  | 0, _ => by kernel_rfl
  | 1, _ => by kernel_rfl
  | 2, _ => by kernel_rfl
theorem runs_is (c : Nat) (hc : c < 3) : seenL.map (fun s => orc 5 15 [s, .int (foldsC c : Nat)]) = (runsC c).map some :=
  match c, hc with
  | 0, _ => by kernel_rfl
  | 1, _ => by kernel_rfl
  | 2, _ => by kernel_rfl
theorem ws_0 (x : Nat) : (textsC 0).map (wsDx x) = (clsC 0).map (fun i => (objsC 0)[i]?.map fun o => (x, o)) := by kernel_rfl
theorem ws_1 (x : Nat) : (textsC 1).map (wsDx x) = (clsC 1).map (fun i => (objsC 1)[i]?.map fun o => (x, o)) := by kernel_rfl
theorem ws_2 (x : Nat) : (textsC 2).map (wsDx x) = (clsC 2).map (fun i => (objsC 2)[i]?.map fun o => (x, o)) := by kernel_rfl
theorem ws_is (c : Nat) (hc : c < 3) (x : Nat) : (textsC c).map (wsDx x) = (clsC c).map (fun i => (objsC c)[i]?.map fun o => (x, o)) :=
  match c, hc with
  | 0, _ => ws_0 x | 1, _ => ws_1 x | 2, _ => ws_2 x
noncomputable def four : List Nat := [32, 32, 32, 32]
theorem th_0 (x : Nat) : (textsC 0).map (fun t => wsDx x (t ++ four)) = (clsC 0).map (fun i => (thrsC 0)[i]?.map fun o => (x, o)) := by kernel_rfl
theorem th_1 (x : Nat) : (textsC 1).map (fun t => wsDx x (t ++ four)) = (clsC 1).map (fun i => (thrsC 1)[i]?.map fun o => (x, o)) := by kernel_rfl
theorem th_2 (x : Nat) : (textsC 2).map (fun t => wsDx x (t ++ four)) = (clsC 2).map (fun i => (thrsC 2)[i]?.map fun o => (x, o)) := by kernel_rfl
theorem th_is (c : Nat) (hc : c < 3) (x : Nat) : (textsC c).map (fun t => wsDx x (t ++ four)) = (clsC c).map (fun i => (thrsC c)[i]?.map fun o => (x, o)) :=
  match c, hc with
  | 0, _ => th_0 x | 1, _ => th_1 x | 2, _ => th_2 x
end Mine

namespace Mine
/-! the law: its draws -/
noncomputable def pickZ (l : List Int) : List Nat → List Int
  | [] => []
  | i :: r => match l[i]? with | some d => d :: pickZ l r | none => pickZ l r
noncomputable def idxs (n : Nat) (place : Int) : List Nat :=
  sliceRange (sliceBounds (some place) (some 60) (some 4) n).1 (sliceBounds (some place) (some 60) (some 4) n).2.1 (sliceBounds (some place) (some 60) (some 4) n).2.2
noncomputable def sumZ : List Int → Int
  | [] => 0
  | i :: l => i + sumZ l
noncomputable def drawZ (ns : List Int) (place own : Int) : Int := own + sumZ ((pickZ ns (idxs ns.length place)).map fun y => y.fmod 1000000)
theorem pick_map (ns : List Int) : ∀ is : List Nat, pickD (ns.map .int) is = (pickZ ns is).map .int
  | [] => rfl
  | i :: r => by
    unfold pickD pickZ
    rw [atD_eq, List.getElem?_map, pick_map ns r]
    cases ns[i]? <;> rfl
theorem pickZ_len (ns : List Int) : ∀ is : List Nat, (pickZ ns is).length ≤ is.length
  | [] => Nat.le_refl _
  | i :: r => by
    unfold pickZ
    split
    · exact Nat.succ_le_succ (pickZ_len ns r)
    · exact Nat.le_succ_of_le (pickZ_len ns r)
theorem sumD_map : ∀ l : List Int, sumD (l.map .int) = some (sumZ l)
  | [] => rfl
  | i :: l => by
    show (match sumD (l.map .int) with | some s => some (i + s) | none => none) = _
    rw [sumD_map l]; rfl
noncomputable def idxsOk : Bool := (List.range 64).all fun n => (List.range 4).all fun p => decide ((idxs n p).length ≤ 100)
theorem idxs_len {n p : Nat} (hn : n ≤ 63) (hp : p < 4) : (idxs n p).length ≤ 100 :=
  of_decide_eq_true (List.all_eq_true.mp (List.all_eq_true.mp (show idxsOk = true from by decide +kernel) n (List.mem_range.mpr (by omega))) p (List.mem_range.mpr hp))
noncomputable def dr4 (ns : List Int) : List D := [.int (drawZ ns 0 0), .int (drawZ ns 1 11), .int (drawZ ns 2 13), .int (drawZ ns 3 18)]
section
variable {F : Fr} {h₀ : Heap} {X₀ : Av} {ρ : Rho} {k : Nat}
noncomputable def sliceE (p1 p2 p3 p4 p5 p6 : Pos) : PE := .slc (.nm 90 p1) (.some (.nm 79 p2)) (.some (.int 60 0 p3)) (.some (.int 4 0 p4)) p5 p6
theorem slice_ev {ns : List Int} {i : Nat} (hn : ns.length ≤ 63) (h90 : getR F.ρ 90 = some (.lst (ns.map .int))) (h79 : getR F.ρ 79 = some (.int (i : Int))) {p1 p2 p3 p4 p5 p6 : Pos} : EV F (sliceE p1 p2 p3 p4 p5 p6).toE (.lst ((pickZ ns (idxs ns.length i)).map .int)) := by
  have hlim := lim_is
  refine ev_slc (x := .lst (ns.map .int)) (a := some (i : Int)) (b := some 60) (c := some 4) (ev_nm h90) (ev_nm h79) ev_int ev_int ?_
  show (if (decide ((ns.map D.int).length ≤ lim) && decide (some (4 : Int) ≠ some 0)) = true then _ else _) = _
  rw [List.length_map, if_pos (by rw [Bool.and_eq_true]; exact ⟨decide_eq_true (by omega), by decide⟩), pick_map]
  rfl
theorem own_ev {o : Orc} (hy : Hyp F o k) {ns : List Int} {i : Nat} {own : Int} (hn : ns.length ≤ 63) (hi : i < 4) (h90 : getR F.ρ 90 = some (.lst (ns.map .int))) (h79 : getR F.ρ 79 = some (.int (i : Int))) (h76 : getR F.ρ 76 = some (.int own)) (h99 : lookN F.nk 99 = some .globalImplicit) (hc : compOk F.nk [(0, .local), (117, .local)] = true)
    {p0 p1 p2 p3 p4 p5 p6 p7 p8 p9 p10 p11 p12 p13 q1 : Pos} : EV F (PE.bin (.nm 76 p0) .Add (.call 99 p1 (.cons (.comp (.bin (.nm 117 p2) .Mod (.int 1000000 0 p3) p4) (.one 117 p5) (sliceE p6 p7 p8 p9 p10 p11) .nil [(0, .local), (117, .local)] p12) .nil) p13) q1).toE (.int (drawZ ns i own)) := by
  have hlim := lim_is
  have hil := idxs_len hn hi
  have hpl := pickZ_len ns (idxs ns.length i)
  refine ev_bin (a := .int own) (b := .int (sumZ ((pickZ ns (idxs ns.length i)).map fun y => y.fmod 1000000))) (ev_nm h76) ?_ rfl
  refine hy.bi 99 .sum rfl F.nk F.env F.X F.ρ [.lst (((pickZ ns (idxs ns.length i)).map fun y => y.fmod 1000000).map .int)] _ (by show (match sumD _ with | some s => some (D.int s) | none => none) = _; rw [sumD_map]) p13 p1 _ (.cons ?_ .nil) h99
  refine ev_comp (iv_of (slice_ev hn h90 h79) rfl hy.hh) (notSet _ _) hy.hh hc rfl (by rw [List.length_map]; omega) (turns_one (by rw [List.length_map, List.length_map, List.length_map]) fun j d r h1 h2 env' X' => ?_)
  rw [List.getElem?_map] at h1 h2
  rw [List.getElem?_map] at h2
  cases hz : (pickZ ns (idxs ns.length i))[j]? with
  | none => rw [hz] at h1; cases h1
  | some y =>
    rw [hz] at h1 h2
    cases h1; cases h2
    exact ev_bin (a := .int y) (b := .int 1000000) (ev_nm rfl) ev_int rfl
theorem draws_ev {o : Orc} (hy : Hyp F o k) (n : NewFr F h₀) (hnk : F.nk = n_law) {ns : List Int} (hn : ns.length ≤ 63) (hρ : ρ = [(90, .lst (ns.map .int))]) {st : PS} (hst : ∃ xp elt iter cp p p1 p2 pt q0 q1 q2 q3 q4 q5 q6 q7 q8 q9 q10 q11 q12 q13 q14 e0 e1 e2 e3 e4 e5 e6,
      elt = PE.bin (.nm 76 q0) .Add (.call 99 q1 (.cons (.comp (.bin (.nm 117 q2) .Mod (.int 1000000 0 q3) q4) (.one 117 q5) (sliceE q6 q7 q8 q9 q10 q11) .nil [(0, .local), (117, .local)] q12) .nil) q13) q14 ∧
      iter = PE.call 38 e0 (.cons (.tup (.cons (.int 0 0 e1) (.cons (.int 11 0 e2) (.cons (.int 13 0 e3) (.cons (.int 18 0 e4) .nil)))) 0 e5) .nil) e6 ∧
      st = .asg 37 xp (.comp elt (.many [(79, p1), (76, p2)] 0 pt) iter .nil [(0, .local), (79, .local), (76, .local), (99, .globalImplicit), (90, .free)] cp) p) :
    XV F h₀ X₀ (exec st.toS F.env) ρ none ((37, .lst (dr4 ns)) :: ρ, none, .next) := by
  obtain ⟨xp, elt, iter, cp, p, p1, p2, pt, q0, q1, q2, q3, q4, q5, q6, q7, q8, q9, q10, q11, q12, q13, q14, e0, e1, e2, e3, e4, e5, e6, rfl, rfl, rfl⟩ := hst
  subst hρ
  refine asgComp_ev hy.hh n (md := 1) (ds := enumD 0 [.int 0, .int 11, .int 13, .int 18]) (fun X' => ?_) (by rw [hnk]; rfl) rfl (by decide) (fun X' => ?_) (by rw [hnk]; rfl)
  · refine iv_enum (F := F.to F.nk F.env X' _) (d := .tup [.int 0, .int 11, .int 13, .int 18]) ?_ (.inr rfl) hy.hh (by show lookN F.nk 38 = _; rw [hnk]; rfl) hy.enum
    exact ev_tuple (lv_cons rfl ev_int (lv_cons rfl ev_int (lv_cons rfl ev_int (lv_cons rfl ev_int lv_nil)))) (by decide)
  · have one : ∀ (i : Nat) (own : Int), i < 4 → TurnP (F.to F.nk F.env X' [(90, .lst (ns.map .int))]) [(0, .local), (79, .local), (76, .local), (99, .globalImplicit), (90, .free)] (.many [(79, p1), (76, p2)] 0 pt) .nil (PE.bin (.nm 76 q0) .Add (.call 99 q1 (.cons (.comp (.bin (.nm 117 q2) .Mod (.int 1000000 0 q3) q4) (.one 117 q5) (sliceE q6 q7 q8 q9 q10 q11) .nil [(0, .local), (117, .local)] q12) .nil) q13) q14) 1 (.tup [.int (i : Int), .int own]) (some (.int (drawZ ns i own))) := fun i own hi =>
      ⟨⟨(fun q => by cases q), _, rfl⟩, _, rfl, fun env' X'' => ⟨rfl, fun y q => by
        cases q
        exact own_ev (F := F.to [(0, .local), (79, .local), (76, .local), (99, .globalImplicit), (90, .free)] env' X'' _) (hy.to _ _ _ _) hn hi rfl rfl rfl rfl rfl⟩⟩
    exact .keep (one 0 0 (by decide)) (.keep (one 1 11 (by decide)) (.keep (one 2 13 (by decide)) (.keep (one 3 18 (by decide)) .nil)))
end
end Mine

namespace Mine
/-! the law's last lines, by classes -/
noncomputable def PSs.drop : Nat → PSs → PSs
  | 0, l => l
  | n + 1, .cons _ r => PSs.drop n r
  | _ + 1, .nil => .nil
noncomputable def PSs.take : Nat → PSs → PSs
  | 0, _ => .nil
  | n + 1, .cons s r => .cons s (PSs.take n r)
  | _ + 1, .nil => .nil
noncomputable def memT : D → D
  | .obj _ n nt cs b _ => .tup [.int n, .int nt, .tup [.tup (cs.map .int), .int b], .bool true, .int (if b > (cs.length : Int) - 1 then b else (cs.length : Int) - 1)]
  | d => d
noncomputable def nD (l : List D) (i : Nat) : D := match atD l i with | some d => d | none => .int 0
noncomputable def rhoT (c i j : Nat) (ty : D) : Rho := [(60, .lst [nD (objsC c) i, nD (objsC c) j]), (89, .lst [nD (runsC c) i, nD (runsC c) j]), (91, .lst [nD seenL i, nD seenL j]), (111, ty), (95, .int (sizeC c : Nat)), (47, .int (foldsC c : Nat))]
noncomputable def mid : PSs := (b_law.drop 14).take 3
noncomputable def run1 (c i j : Nat) (ty : D) : Option Res := exL (ex 12 (orc 5) n_law) mid (rhoT c i j ty) none
noncomputable def out1 (c i j : Nat) (ty : D) : Option Res := some ((65, .lst [memT (nD (objsC c) i), memT (nD (objsC c) j)]) :: rhoT c i j ty, none, .next)
noncomputable def rhoU (c i j : Nat) : Rho := [(103, nD (thrsC c) i), (60, .lst [nD (objsC c) i, nD (objsC c) j]), (89, .lst [nD (runsC c) i, nD (runsC c) j])]
noncomputable def fin : PSs := b_law.drop 18
noncomputable def run2 (c i j : Nat) : Bool := match exL (ex 12 (orc 5) n_law) fin (rhoU c i j) none with | some (_, none, .ret (.bool true)) => true | _ => false
end Mine

namespace Mine
/-! the last lines, for all classes; printed by gen49.py -/
noncomputable def upto7 : List Nat := [0, 1, 2, 3, 4, 5, 6]
theorem r1_0_0 (ty : D) : upto7.map (fun j => run1 0 0 j ty) = upto7.map (fun j => out1 0 0 j ty) := by kernel_rfl
theorem r2_0_0 : upto7.all (run2 0 0) = true := by decide +kernel
theorem r1_0_1 (ty : D) : upto7.map (fun j => run1 0 1 j ty) = upto7.map (fun j => out1 0 1 j ty) := by kernel_rfl
theorem r2_0_1 : upto7.all (run2 0 1) = true := by decide +kernel
theorem r1_0_2 (ty : D) : upto7.map (fun j => run1 0 2 j ty) = upto7.map (fun j => out1 0 2 j ty) := by kernel_rfl
theorem r2_0_2 : upto7.all (run2 0 2) = true := by decide +kernel
theorem r1_0_3 (ty : D) : upto7.map (fun j => run1 0 3 j ty) = upto7.map (fun j => out1 0 3 j ty) := by kernel_rfl
theorem r2_0_3 : upto7.all (run2 0 3) = true := by decide +kernel
theorem r1_0_4 (ty : D) : upto7.map (fun j => run1 0 4 j ty) = upto7.map (fun j => out1 0 4 j ty) := by kernel_rfl
theorem r2_0_4 : upto7.all (run2 0 4) = true := by decide +kernel
theorem r1_0_5 (ty : D) : upto7.map (fun j => run1 0 5 j ty) = upto7.map (fun j => out1 0 5 j ty) := by kernel_rfl
theorem r2_0_5 : upto7.all (run2 0 5) = true := by decide +kernel
theorem r1_0_6 (ty : D) : upto7.map (fun j => run1 0 6 j ty) = upto7.map (fun j => out1 0 6 j ty) := by kernel_rfl
theorem r2_0_6 : upto7.all (run2 0 6) = true := by decide +kernel
theorem r1_1_0 (ty : D) : upto7.map (fun j => run1 1 0 j ty) = upto7.map (fun j => out1 1 0 j ty) := by kernel_rfl
theorem r2_1_0 : upto7.all (run2 1 0) = true := by decide +kernel
theorem r1_1_1 (ty : D) : upto7.map (fun j => run1 1 1 j ty) = upto7.map (fun j => out1 1 1 j ty) := by kernel_rfl
theorem r2_1_1 : upto7.all (run2 1 1) = true := by decide +kernel
theorem r1_1_2 (ty : D) : upto7.map (fun j => run1 1 2 j ty) = upto7.map (fun j => out1 1 2 j ty) := by kernel_rfl
theorem r2_1_2 : upto7.all (run2 1 2) = true := by decide +kernel
theorem r1_1_3 (ty : D) : upto7.map (fun j => run1 1 3 j ty) = upto7.map (fun j => out1 1 3 j ty) := by kernel_rfl
theorem r2_1_3 : upto7.all (run2 1 3) = true := by decide +kernel
theorem r1_1_4 (ty : D) : upto7.map (fun j => run1 1 4 j ty) = upto7.map (fun j => out1 1 4 j ty) := by kernel_rfl
theorem r2_1_4 : upto7.all (run2 1 4) = true := by decide +kernel
theorem r1_1_5 (ty : D) : upto7.map (fun j => run1 1 5 j ty) = upto7.map (fun j => out1 1 5 j ty) := by kernel_rfl
theorem r2_1_5 : upto7.all (run2 1 5) = true := by decide +kernel
theorem r1_1_6 (ty : D) : upto7.map (fun j => run1 1 6 j ty) = upto7.map (fun j => out1 1 6 j ty) := by kernel_rfl
theorem r2_1_6 : upto7.all (run2 1 6) = true := by decide +kernel
theorem r1_2_0 (ty : D) : upto7.map (fun j => run1 2 0 j ty) = upto7.map (fun j => out1 2 0 j ty) := by kernel_rfl
theorem r2_2_0 : upto7.all (run2 2 0) = true := by decide +kernel
theorem r1_2_1 (ty : D) : upto7.map (fun j => run1 2 1 j ty) = upto7.map (fun j => out1 2 1 j ty) := by kernel_rfl
theorem r2_2_1 : upto7.all (run2 2 1) = true := by decide +kernel
theorem r1_2_2 (ty : D) : upto7.map (fun j => run1 2 2 j ty) = upto7.map (fun j => out1 2 2 j ty) := by kernel_rfl
theorem r2_2_2 : upto7.all (run2 2 2) = true := by decide +kernel
theorem r1_2_3 (ty : D) : upto7.map (fun j => run1 2 3 j ty) = upto7.map (fun j => out1 2 3 j ty) := by kernel_rfl
theorem r2_2_3 : upto7.all (run2 2 3) = true := by decide +kernel
theorem r1_2_4 (ty : D) : upto7.map (fun j => run1 2 4 j ty) = upto7.map (fun j => out1 2 4 j ty) := by kernel_rfl
theorem r2_2_4 : upto7.all (run2 2 4) = true := by decide +kernel
theorem r1_2_5 (ty : D) : upto7.map (fun j => run1 2 5 j ty) = upto7.map (fun j => out1 2 5 j ty) := by kernel_rfl
theorem r2_2_5 : upto7.all (run2 2 5) = true := by decide +kernel
theorem r1_2_6 (ty : D) : upto7.map (fun j => run1 2 6 j ty) = upto7.map (fun j => out1 2 6 j ty) := by kernel_rfl
theorem r2_2_6 : upto7.all (run2 2 6) = true := by decide +kernel
theorem r1_is (c i : Nat) (hc : c < 3) (hi : i < 7) (ty : D) : upto7.map (fun j => run1 c i j ty) = upto7.map (fun j => out1 c i j ty) :=
  match c, i, hc, hi with
  | 0, 0, _, _ => r1_0_0 ty | 0, 1, _, _ => r1_0_1 ty | 0, 2, _, _ => r1_0_2 ty | 0, 3, _, _ => r1_0_3 ty | 0, 4, _, _ => r1_0_4 ty | 0, 5, _, _ => r1_0_5 ty | 0, 6, _, _ => r1_0_6 ty
  | 1, 0, _, _ => r1_1_0 ty | 1, 1, _, _ => r1_1_1 ty | 1, 2, _, _ => r1_1_2 ty | 1, 3, _, _ => r1_1_3 ty | 1, 4, _, _ => r1_1_4 ty | 1, 5, _, _ => r1_1_5 ty | 1, 6, _, _ => r1_1_6 ty
  | 2, 0, _, _ => r1_2_0 ty | 2, 1, _, _ => r1_2_1 ty | 2, 2, _, _ => r1_2_2 ty | 2, 3, _, _ => r1_2_3 ty | 2, 4, _, _ => r1_2_4 ty | 2, 5, _, _ => r1_2_5 ty | 2, 6, _, _ => r1_2_6 ty
theorem r2_is (c i : Nat) (hc : c < 3) (hi : i < 7) : upto7.all (run2 c i) = true :=
  match c, i, hc, hi with
  | 0, 0, _, _ => r2_0_0 | 0, 1, _, _ => r2_0_1 | 0, 2, _, _ => r2_0_2 | 0, 3, _, _ => r2_0_3 | 0, 4, _, _ => r2_0_4 | 0, 5, _, _ => r2_0_5 | 0, 6, _, _ => r2_0_6
  | 1, 0, _, _ => r2_1_0 | 1, 1, _, _ => r2_1_1 | 1, 2, _, _ => r2_1_2 | 1, 3, _, _ => r2_1_3 | 1, 4, _, _ => r2_1_4 | 1, 5, _, _ => r2_1_5 | 1, 6, _, _ => r2_1_6
  | 2, 0, _, _ => r2_2_0 | 2, 1, _, _ => r2_2_1 | 2, 2, _, _ => r2_2_2 | 2, 3, _, _ => r2_2_3 | 2, 4, _, _ => r2_2_4 | 2, 5, _, _ => r2_2_5 | 2, 6, _, _ => r2_2_6
theorem upto7_at {j : Nat} (h : j < 7) : upto7[j]? = some j :=
  match j, h with
  | 0, _ => rfl | 1, _ => rfl | 2, _ => rfl | 3, _ => rfl | 4, _ => rfl | 5, _ => rfl | 6, _ => rfl
theorem run1_is {c i j : Nat} (hc : c < 3) (hi : i < 7) (hj : j < 7) (ty : D) : run1 c i j ty = out1 c i j ty := map_at (r1_is c i hc hi ty) (upto7_at hj) (upto7_at hj)
theorem run2_is {c i j : Nat} (hc : c < 3) (hi : i < 7) (hj : j < 7) : run2 c i j = true := List.all_eq_true.mp (r2_is c i hc hi) j (List.mem_of_getElem? (upto7_at hj))
end Mine

namespace Mine
/-! numbers of the law -/
theorem fm {i : Int} {n : Nat} (hn : 0 < n) : i.fmod (n : Int) = i % (n : Int) := Int.fmod_eq_emod_of_nonneg _ (Int.natCast_nonneg n)
theorem fd {i : Int} {n : Nat} : i.fdiv (n : Int) = i / (n : Int) := Int.fdiv_eq_ediv_of_nonneg _ (Int.natCast_nonneg n)
/-- the bits that the law reads of a draw -/
noncomputable def bitsZ (d : Int) : Nat → Nat → List D
  | 0, _ => []
  | k + 1, j => .int ((d.fdiv (2 ^ j)).fmod 2) :: bitsZ d k (j + 1)
theorem bit_at (d : Int) (j : Nat) (hj : 2 ^ j = n) : (d.fdiv (2 ^ j)).fmod 2 = d / (n : Nat) % 2 := by
  subst hj
  rw [show ((2 : Int) ^ j) = ((2 ^ j : Nat) : Int) by push_cast; rfl, fd, show (2 : Int) = ((2 : Nat) : Int) from rfl, fm (by decide)]
theorem bit_of (d : Int) (m q a : Nat) (h : d % ((m * (2 * q) : Nat) : Int) = (a : Int)) (hm : 0 < m) : d / (m : Int) % 2 = ((a / m % 2 : Nat) : Int) := by
  have e : (a : Int) = d % ((m : Int) * (2 * (q : Int))) := by rw [← h]; push_cast; rfl
  rw [Int.natCast_emod, Int.natCast_ediv, e]
  have h1 : d % ((m : Int) * (2 * (q : Int))) = d - (m : Int) * (2 * (q : Int)) * (d / ((m : Int) * (2 * (q : Int)))) := Int.emod_def _ _
  rw [h1]
  generalize d / ((m : Int) * (2 * (q : Int))) = t
  have h2 : d - (m : Int) * (2 * (q : Int)) * t = d + (m : Int) * (-(2 * ((q : Int) * t))) := by
    rw [Int.mul_neg, Int.mul_assoc, Int.mul_assoc]; rfl
  rw [h2, Int.add_mul_ediv_left _ _ (by omega)]
  omega
theorem bits4 (d : Int) (a : Nat) (h : d % 16 = a) : bitsZ d 4 0 = bits 4 a := by
  simp only [bitsZ, bits]
  rw [bit_at (n := 1) d 0 rfl, bit_at (n := 2) d (0 + 1) rfl, bit_at (n := 4) d (0 + 1 + 1) rfl, bit_at (n := 8) d (0 + 1 + 1 + 1) rfl,
    bit_of d 1 8 a h (by decide), bit_of d 2 4 a h (by decide), bit_of d 4 2 a h (by decide), bit_of d 8 1 a h (by decide), Nat.div_one, Nat.div_div_eq_div_mul, Nat.div_div_eq_div_mul]
theorem bits5 (d : Int) (a : Nat) (h : d % 32 = a) : bitsZ d 5 0 = bits 5 a := by
  simp only [bitsZ, bits]
  rw [bit_at (n := 1) d 0 rfl, bit_at (n := 2) d (0 + 1) rfl, bit_at (n := 4) d (0 + 1 + 1) rfl, bit_at (n := 8) d (0 + 1 + 1 + 1) rfl, bit_at (n := 16) d (0 + 1 + 1 + 1 + 1) rfl,
    bit_of d 1 16 a h (by decide), bit_of d 2 8 a h (by decide), bit_of d 4 4 a h (by decide), bit_of d 8 2 a h (by decide), bit_of d 16 1 a h (by decide), Nat.div_one, Nat.div_div_eq_div_mul, Nat.div_div_eq_div_mul, Nat.div_div_eq_div_mul]
end Mine

namespace Mine
section
variable {F : Fr} {h₀ : Heap} {X₀ : Av} {ρ : Rho} {k : Nat} {o : Orc}
theorem seq_w {st : PS} {l : PSs} {ρ1 : Rho} {w w1 : Ow} {r : Res} (h1 : XV F h₀ X₀ (exec st.toS F.env) ρ w (ρ1, w1, .next)) (h2 : XV F h₀ X₀ (execs l.toL F.env) ρ1 w1 r) : XV F h₀ X₀ (execs (PSs.cons st l).toL F.env) ρ w r := by
  intro P s so Q E h
  refine wpAny_execs_cons (h1 P s so _ E fun fl h' tk so' kk hfl => ?_)
  cases fl with
  | next => exact h2 P { s with heap := h', toks := tk } so' Q E fun fl h'' tk' so'' k' hfl => h fl h'' tk' so'' (kk.trans k') hfl
  | _ => exact hfl.elim
noncomputable def PSs.app : PSs → PSs → PSs
  | .nil, l => l
  | .cons s r, l => .cons s (r.app l)
theorem app_ev {kx : Xs} (hk : ∀ st ρ w r, kx st ρ w = some r → XV F h₀ X₀ (exec st.toS F.env) ρ w r) {l2 : PSs} {ρ1 : Rho} {w1 : Ow} {r : Res} (h2 : XV F h₀ X₀ (execs l2.toL F.env) ρ1 w1 r) : ∀ (l1 : PSs) (ρ : Rho) (w : Ow), exL kx l1 ρ w = some (ρ1, w1, .next) → XV F h₀ X₀ (execs (l1.app l2).toL F.env) ρ w r := by
  intro l1
  induction l1 using PSs.rec (motive_1 := fun _ => True) with
  | nil => intro ρ w e; cases e; exact h2
  | cons st rest _ ih =>
    intro ρ w e
    unfold exL at e
    split at e
    · rename_i ρ' w' hs
      exact seq_w (hk _ _ _ _ hs) (ih ρ' w' e)
    · rename_i hno
      exact (hno _ _ e).elim
  | _ => trivial
/-- fewer names -/
noncomputable def SubR (ρ' ρ : Rho) : Prop := ∀ x d, getR ρ' x = some d → getR ρ x = some d
theorem SubR.nil : SubR [] ρ := fun x d e => by cases e
theorem SubR.cons {ρ' : Rho} {x : Nat} {d : D} (h : getR ρ x = some d) (s : SubR ρ' ρ) : SubR ((x, d) :: ρ') ρ := fun y e q => by
  rw [getR_cons] at q
  split at q
  · rename_i e1; cases q; rw [← e1]; exact h
  · exact s y e q
theorem XV.weak {t : Sem Flow} {ρ' : Rho} {r : Res} (h : XV F h₀ X₀ t ρ' none r) (s : SubR ρ' ρ) : XV F h₀ X₀ t ρ none r := by
  intro P sh so Q E hq
  have ok : EOk F.sg F.B F.nk F.env (Xe F P) ρ sh.heap := so.ok
  exact h P sh ⟨so.pn, so.ext, ok.weak s⟩ Q E hq
theorem evG (hy : Hyp F o k) {e : PE} {d : D} (h : ev 30 o F.nk F.ρ false e = some d) : EV F e.toE d := (ev_sound 30 F hy).1 e d h
theorem chr_ev {e : PE} {i : Int} {p1 p2 : Pos} (hg : GlobV F.B (nm 29) (.builtin "chr")) (hk : lookN F.nk 29 = some .globalImplicit) (hs : SgOk F.sg) (hi : i = (F.sg : Int)) (he : EV F e.toE (.int i)) : EV F (PE.call 29 p1 (.cons e .nil) p2).toE (.str [SP]) := by
  intro s ok Q E h
  refine wpAny_Call_NameR (wp_glob ok hk hg ?_)
  refine Calls.callWith_builtin plain_args (args_given (.cons he .nil) ok fun vs h₁ t₁ k₁ r₁ => ?_)
  cases r₁ with | cons r₁ r₂ =>
  cases r₂
  cases r₁ with | int _ t =>
  obtain ⟨s1, s2⟩ := hs
  refine PySem.P.chr_of_int (s := { s with heap := h₁, toks := t₁ }) (by rw [hi]; simp; omega) ?_
  have e1 : (⟨#[i.toNat]⟩ : Str) = ⟨⟨[SP].map (den F.sg)⟩⟩ := by
    rw [hi, Int.toNat_natCast]; rfl
  rw [e1]
  exact h _ h₁ _ k₁ (.str _ _)
/-- a function of the program, called in an expression -/
theorem call_ev (hy : Hyp F o k) {f : Nat} {ds : List D} {d : D} (e : o f ds = some d) (hb : biAt biTab f = none) (hm : isMeth f = false) {p fp : Pos} {args : PEs} (lp : LP F args ds) (hk : lookN F.nk f = some .globalImplicit) : EV F (PE.call f fp args p).toE d :=
  hy.call f ds d e hb hm F.nk F.env F.X F.ρ p fp args lp hk
theorem iv_ev (hy : Hyp F o k) {e : PE} {d : D} {ds : List D} (h : ev 30 o F.nk F.ρ false e = some d) (hi : itemsOf d = some ds) : IV F e.toE ds 0 := iv_of (evG hy h) hi hy.hh
theorem numL_at {i : Nat} (h : i < 31) : numL[i]? = some (i + 1) := by
  have key : ((List.range 31).all fun i => decide (numL[i]? = some (i + 1))) = true := by decide +kernel
  exact of_decide_eq_true (List.all_eq_true.mp key i (List.mem_range.mpr h))
theorem hdL_at {c i : Nat} {r : D} (h : ((hdL.drop (aheadC c)).take (sizeC c))[i]? = some r) : hdL[aheadC c + i]? = some r := by
  rw [List.getElem?_take] at h
  split at h
  · rwa [List.getElem?_drop] at h
  · cases h
theorem hdL_len : hdL.length = 31 := by decide +kernel
theorem upto_at {c a : Nat} (hc : c < 3) (ha : a < numC c) : (uptoC c)[a]? = some a := by
  have key : ((List.range 3).all fun c => (List.range (numC c)).all fun a => decide ((uptoC c)[a]? = some a)) = true := by decide +kernel
  exact of_decide_eq_true (List.all_eq_true.mp (List.all_eq_true.mp key c (List.mem_range.mpr hc)) a (List.mem_range.mpr ha))
theorem tab_at {c a : Nat} (hc : c < 3) (ha : a < numC c) : ∃ T i, (textsC c)[a]? = some T ∧ (clsC c)[a]? = some i ∧ i < 7 ∧ plainS T = true ∧ T.length ≤ 31 := by
  have key : ((List.range 3).all fun c => (List.range (numC c)).all fun a => match (textsC c)[a]?, (clsC c)[a]? with | some T, some i => decide (i < 7) && plainS T && decide (T.length ≤ 31) | _, _ => false) = true := by decide +kernel
  have z := List.all_eq_true.mp (List.all_eq_true.mp key c (List.mem_range.mpr hc)) a (List.mem_range.mpr ha)
  split at z
  · rename_i T i h1 h2
    obtain ⟨z, h5⟩ := Bool.and_eq_true_iff.mp z
    obtain ⟨h3, h4⟩ := Bool.and_eq_true_iff.mp z
    exact ⟨T, i, h1, h2, of_decide_eq_true h3, h4, of_decide_eq_true h5⟩
  · cases z
end
/-! the same, shut off from unfolding -/
structure EW (F : Fr) (e : PE) (d : D) : Prop where
  ev : EV F e.toE d
structure BW (F : Fr) (e : PE) (b : Bool) : Prop where
  bv : BV F e.toE b
structure IW (F : Fr) (e : PE) (ds : List D) (md : Nat) : Prop where
  iv : IV F e.toE ds md
structure TW (F : Fr) (names : NK) (t : Tg) (c : PEs) (elt : PE) (md : Nat) (ds rs : List D) : Prop where
  t : Turns (TurnP F names t c elt md) ds rs
structure XW (F : Fr) (h₀ : Heap) (X₀ : Av) (st : PS) (ρ : Rho) (w : Ow) (r : Res) : Prop where
  xv : XV F h₀ X₀ (exec st.toS F.env) ρ w r
structure XL (F : Fr) (h₀ : Heap) (X₀ : Av) (l : PSs) (ρ : Rho) (w : Ow) (r : Res) : Prop where
  xv : XV F h₀ X₀ (execs l.toL F.env) ρ w r
section
variable {F : Fr} {h₀ : Heap} {X₀ : Av} {ρ : Rho} {k : Nat} {o : Orc}
theorem ew_G (hy : Hyp F o k) {e : PE} {d : D} (h : ev 30 o F.nk F.ρ false e = some d) : EW F e d := ⟨evG hy h⟩
theorem ew_nm {x : Nat} {p : Pos} {d : D} (h : getR F.ρ x = some d) : EW F (.nm x p) d := ⟨ev_nm h⟩
theorem ew_sub {v i : PE} {p : Pos} {a b d : D} (h1 : EW F v a) (h2 : EW F i b) (e : idxop a b = some d) : EW F (.sub v i p) d := ⟨ev_sub h1.ev h2.ev e⟩
theorem ew_bin {l r : PE} {op : Operator} {p : Pos} {a b d : D} (h1 : EW F l a) (h2 : EW F r b) (e : binop op a b = some d) : EW F (.bin l op r p) d := ⟨ev_bin h1.ev h2.ev e⟩
theorem ew_chr {e : PE} {i : Int} {p1 p2 : Pos} (hg : GlobV F.B (nm 29) (.builtin "chr")) (hk : lookN F.nk 29 = some .globalImplicit) (hs : SgOk F.sg) (hi : i = (F.sg : Int)) (he : EW F e (.int i)) : EW F (.call 29 p1 (.cons e .nil) p2) (.str [SP]) := ⟨chr_ev hg hk hs hi he.ev⟩
theorem ew_call (hy : Hyp F o k) {f : Nat} {ds : List D} {d : D} (e : o f ds = some d) (hb : biAt biTab f = none) (hm : isMeth f = false) {p fp : Pos} {args : PEs} (lp : LP F args ds) (hk : lookN F.nk f = some .globalImplicit) : EW F (.call f fp args p) d := ⟨call_ev hy e hb hm lp hk⟩
theorem lw_nil : LP F .nil [] := .nil
theorem lw_cons {e : PE} {r : PEs} {d : D} {ds : List D} (h : EW F e d) (l : LP F r ds) : LP F (.cons e r) (d :: ds) := .cons h.ev l
theorem ew_ws (b : Base F.prog F.w F.B) (bi : InitOk F.prog F.w F.B) (hs : SgOk F.sg) (hA : AOk (k + 2) F.A) {raw : List Nat} {obj : D} (hw : ∀ x, wsDx x raw = some (x, obj)) {e : PE} (hk : lookN F.nk 6 = some .globalImplicit) {fp p : Pos} (he : EW F e (.str raw)) : EW F (.call 6 fp (.cons e .nil) p) obj := ⟨ev_ws b bi hs hA hw hk he.ev⟩
theorem ew_comp {names : NK} {t : Tg} {c : PEs} {elt iter : PE} {md : Nat} {ds rs : List D} {p : Pos} (hh : F.A.handled = none) (hit : IW F iter ds md) (hc : compOk F.nk names = true) (ht : tgSet names t = true) (hds : ds.length ≤ lim) (hT : TW F names t c elt md ds rs) : EW F (.comp elt t iter c names p) (.lst rs) := ⟨ev_comp hit.iv (notSet _ _) hh hc ht hds hT.t⟩
theorem bw_cmp {l r : PE} {op : CmpOp} {p : Pos} {a b : D} {d : Bool} (h1 : EW F l a) (h2 : EW F r b) (e : cmpop op a b = some d) (hA : AOk k F.A) (hs : SgOk F.sg) : BW F (.cmp l op r p) d := ⟨bv_cmp h1.ev h2.ev e hA hs (noMarks _ _)⟩
theorem iw_of (hh : F.A.handled = none) {e : PE} {d : D} {ds : List D} (h : EW F e d) (hi : itemsOf d = some ds) : IW F e ds 0 := ⟨iv_of h.ev hi hh⟩
theorem iw_G (hy : Hyp F o k) {e : PE} {d : D} {ds : List D} (h : ev 30 o F.nk F.ρ false e = some d) (hi : itemsOf d = some ds) : IW F e ds 0 := iw_of hy.hh (ew_G hy h) hi
theorem tw_one {names : NK} {x : Nat} {xp : Pos} {elt : PE} {ds rs : List D} (hl : ds.length = rs.length) (h : ∀ (i : Nat) d r, ds[i]? = some d → rs[i]? = some r → ∀ env' X', EW (F.to names env' X' ((x, d) :: freeRho names F.ρ)) elt r) : TW F names (.one x xp) .nil elt 0 ds rs := ⟨turns_one hl fun i d r h1 h2 env' X' => (h i d r h1 h2 env' X').ev⟩
theorem xw_asg (hh : F.A.handled = none) (n : NewFr F h₀) {x : Nat} {xp p : Pos} {e : PE} {d : D} (hc : isComp e = false) (h3 : setOk F.nk x = true) (hev : ∀ X', EW (F.to F.nk F.env X' ρ) e d) : XW F h₀ X₀ (.asg x xp e p) ρ none ((x, d) :: ρ, none, .next) := ⟨asg_ev hh n hc h3 fun X' => (hev X').ev⟩
theorem xw_asgT (hh : F.A.handled = none) (n : NewFr F h₀) {xs : List (Nat × Pos)} {kk : Nat} {pp p : Pos} {e : PE} {d : D} {ρ' : Rho} (h4 : notTupD e = true) (h3 : tgSet F.nk (.many xs kk pp) = true) (hb : bindT (.many xs kk pp) d ρ = some ρ') (hev : ∀ X', EW (F.to F.nk F.env X' ρ) e d) : XW F h₀ X₀ (.asgT (.many xs kk pp) e p) ρ none (ρ', none, .next) := ⟨asgT_ev hh n h4 h3 hb fun X' => (hev X').ev⟩
theorem xw_if (n : NewFr F h₀) {t : PE} {a : PSs} {p : Pos} (hb : ∀ X', BW (F.to F.nk F.env X' ρ) t false) : XW F h₀ X₀ (.ifS t a .nil p) ρ none (ρ, none, .next) := ⟨if_ev n fun X' => (hb X').bv⟩
theorem xw_comp (hh : F.A.handled = none) (n : NewFr F h₀) {x : Nat} {xp p : Pos} {elt : PE} {t : Tg} {iter : PE} {c : PEs} {names : NK} {cp : Pos} {ds rs : List D} {md : Nat} (hit : ∀ X', IW (F.to F.nk F.env X' ρ) iter ds md) (hc : compOk F.nk names = true) (ht : tgSet names t = true) (hds : ds.length ≤ lim)
    (hT : ∀ X', TW (F.to F.nk F.env X' ρ) names t c elt md ds rs) (h3 : setOk F.nk x = true) : XW F h₀ X₀ (.asg x xp (.comp elt t iter c names cp) p) ρ none ((x, .lst rs) :: ρ, none, .next) := ⟨asgComp_ev hh n (fun X' => (hit X').iv) hc ht hds (fun X' => (hT X').t) h3⟩
theorem xw_ex (hy : Hyp F o k) (n : NewFr F h₀) (hX : ∀ b, X₀ b → F.X b) (hi : interactive F.env = false) {st : PS} {w : Ow} {r : Res} (e : ex 12 o F.nk st ρ w = some r) : XW F h₀ X₀ st ρ w r := ⟨ex_sound hy n hX hi 12 st ρ w r e⟩
theorem xl_ex (hy : Hyp F o k) (n : NewFr F h₀) (hX : ∀ b, X₀ b → F.X b) (hi : interactive F.env = false) {l : PSs} {w : Ow} {r : Res} (e : exL (ex 12 o F.nk) l ρ w = some r) : XL F h₀ X₀ l ρ w r := ⟨body_sound hy n hX hi 12 l ρ w r e⟩
theorem xl_cons {st : PS} {l : PSs} {ρ1 : Rho} {w w1 : Ow} {r : Res} (h1 : XW F h₀ X₀ st ρ w (ρ1, w1, .next)) (h2 : XL F h₀ X₀ l ρ1 w1 r) : XL F h₀ X₀ (.cons st l) ρ w r := ⟨seq_w h1.xv h2.xv⟩
theorem xl_app (hy : Hyp F o k) (n : NewFr F h₀) (hX : ∀ b, X₀ b → F.X b) (hi : interactive F.env = false) {l1 l2 : PSs} {ρ1 : Rho} {w w1 : Ow} {r : Res} (h1 : exL (ex 12 o F.nk) l1 ρ w = some (ρ1, w1, .next)) (h2 : XL F h₀ X₀ l2 ρ1 w1 r) : XL F h₀ X₀ (l1.app l2) ρ w r := ⟨app_ev (ex_sound hy n hX hi 12) h2.xv l1 ρ w h1⟩
theorem xl_weak {l : PSs} {ρ' : Rho} {r : Res} (h : XL F h₀ X₀ l ρ' none r) (s : SubR ρ' ρ) : XL F h₀ X₀ l ρ none r := ⟨h.xv.weak s⟩
end
end Mine

namespace Mine
/-! the law, statement by statement -/
noncomputable def st0 : PS := (.asg 37 ⟨146, 4, 146, 9⟩ (.comp (.bin (.nm 76 ⟨146, 13, 146, 16⟩) .Add (.call 99 ⟨146, 19, 146, 22⟩ (.cons (.comp (.bin (.nm 117 ⟨146, 24, 146, 25⟩) .Mod (.int 1000000 0 ⟨146, 28, 146, 35⟩) ⟨146, 24, 146, 35⟩) (.one 117 ⟨146, 40, 146, 41⟩) (.slc (.nm 90 ⟨146, 45, 146, 51⟩) (.some (.nm 79 ⟨146, 52, 146, 57⟩)) (.some (.int 60 0 ⟨146, 58, 146, 60⟩)) (.some (.int 4 0 ⟨146, 61, 146, 62⟩)) ⟨146, 52, 146, 62⟩ ⟨146, 45, 146, 63⟩) .nil [(0, .local), (117, .local)] ⟨146, 23, 146, 64⟩) .nil) ⟨146, 19, 146, 65⟩) ⟨146, 13, 146, 65⟩) (.many [(79, ⟨146, 70, 146, 75⟩), (76, ⟨146, 77, 146, 80⟩)] 0 ⟨146, 70, 146, 80⟩) (.call 38 ⟨146, 84, 146, 93⟩ (.cons (.tup (.cons (.int 0 0 ⟨146, 95, 146, 96⟩) (.cons (.int 11 0 ⟨146, 98, 146, 100⟩) (.cons (.int 13 0 ⟨146, 102, 146, 104⟩) (.cons (.int 18 0 ⟨146, 106, 146, 108⟩) .nil)))) 0 ⟨146, 94, 146, 109⟩) .nil) ⟨146, 84, 146, 110⟩) .nil [(0, .local), (79, .local), (76, .local), (99, .globalImplicit), (90, .free)] ⟨146, 12, 146, 111⟩) ⟨146, 4, 146, 111⟩)
noncomputable def st1 : PS := (.asgT (.many [(47, ⟨147, 4, 147, 9⟩), (22, ⟨147, 11, 147, 16⟩)] 0 ⟨147, 4, 147, 16⟩) (.sub (.tup (.cons (.tup (.cons (.int 4 0 ⟨147, 21, 147, 22⟩) (.cons (.int 0 0 ⟨147, 24, 147, 25⟩) .nil)) 0 ⟨147, 20, 147, 26⟩) (.cons (.tup (.cons (.int 4 0 ⟨147, 29, 147, 30⟩) (.cons (.int 16 0 ⟨147, 32, 147, 34⟩) .nil)) 0 ⟨147, 28, 147, 35⟩) (.cons (.tup (.cons (.int 5 0 ⟨147, 38, 147, 39⟩) (.cons (.int 0 0 ⟨147, 41, 147, 42⟩) .nil)) 0 ⟨147, 37, 147, 43⟩) .nil))) 0 ⟨147, 19, 147, 44⟩) (.bin (.sub (.nm 37 ⟨147, 45, 147, 50⟩) (.int 0 0 ⟨147, 51, 147, 52⟩) ⟨147, 45, 147, 53⟩) .Mod (.int 3 0 ⟨147, 56, 147, 57⟩) ⟨147, 45, 147, 57⟩) ⟨147, 19, 147, 58⟩) ⟨147, 4, 147, 58⟩)
noncomputable def st2 : PS := (.asg 93 ⟨148, 4, 148, 9⟩ (.bin (.sub (.nm 37 ⟨148, 12, 148, 17⟩) (.int 3 0 ⟨148, 18, 148, 19⟩) ⟨148, 12, 148, 20⟩) .Mod (.int 8 0 ⟨148, 23, 148, 24⟩) ⟨148, 12, 148, 24⟩) ⟨148, 4, 148, 24⟩)
noncomputable def st3 : PS := (.asg 94 ⟨149, 4, 149, 8⟩ (.call 29 ⟨149, 11, 149, 14⟩ (.cons (.bin (.int 35 0 ⟨149, 15, 149, 17⟩) .Add (.bin (.bin (.sub (.nm 37 ⟨149, 20, 149, 25⟩) (.int 3 0 ⟨149, 26, 149, 27⟩) ⟨149, 20, 149, 28⟩) .FloorDiv (.int 8 0 ⟨149, 32, 149, 33⟩) ⟨149, 20, 149, 33⟩) .Mod (.int 50000 0 ⟨149, 36, 149, 41⟩) ⟨149, 20, 149, 41⟩) ⟨149, 15, 149, 41⟩) .nil) ⟨149, 11, 149, 42⟩) ⟨149, 4, 149, 42⟩)
noncomputable def st4 : PS := (.asg 95 ⟨150, 4, 150, 8⟩ (.bin (.bin (.int 2 0 ⟨150, 11, 150, 12⟩) .Pow (.nm 47 ⟨150, 16, 150, 21⟩) ⟨150, 11, 150, 21⟩) .Sub (.int 1 0 ⟨150, 24, 150, 25⟩) ⟨150, 11, 150, 25⟩) ⟨150, 4, 150, 25⟩)
noncomputable def st5 : PS := (.asg 68 ⟨151, 4, 151, 9⟩ (.call 12 ⟨151, 12, 151, 22⟩ .nil ⟨151, 12, 151, 24⟩) ⟨151, 4, 151, 24⟩)
noncomputable def st6 : PS := (.asg 49 ⟨152, 4, 152, 9⟩ (.comp (.call 14 ⟨152, 13, 152, 22⟩ (.cons (.nm 73 ⟨152, 23, 152, 29⟩) (.cons (.nm 94 ⟨152, 31, 152, 35⟩) .nil)) ⟨152, 13, 152, 36⟩) (.one 73 ⟨152, 41, 152, 47⟩) (.call 83 ⟨152, 51, 152, 56⟩ (.cons (.bin (.nm 22 ⟨152, 57, 152, 62⟩) .Add (.int 1 0 ⟨152, 65, 152, 66⟩) ⟨152, 57, 152, 66⟩) (.cons (.bin (.bin (.nm 22 ⟨152, 68, 152, 73⟩) .Add (.nm 95 ⟨152, 76, 152, 80⟩) ⟨152, 68, 152, 80⟩) .Add (.int 1 0 ⟨152, 83, 152, 84⟩) ⟨152, 68, 152, 84⟩) .nil)) ⟨152, 51, 152, 85⟩) .nil [(0, .local), (73, .local), (14, .globalImplicit), (94, .free)] ⟨152, 12, 152, 86⟩) ⟨152, 4, 152, 86⟩)
noncomputable def st7 : PS := (.ifS (.cmp (.nm 49 ⟨153, 7, 153, 12⟩) .NotEq (.comp (.call 11 ⟨153, 17, 153, 27⟩ (.cons (.nm 73 ⟨153, 28, 153, 34⟩) (.cons (.nm 93 ⟨153, 36, 153, 41⟩) (.cons (.nm 68 ⟨153, 43, 153, 48⟩) .nil))) ⟨153, 17, 153, 49⟩) (.one 73 ⟨153, 54, 153, 60⟩) (.call 83 ⟨153, 64, 153, 69⟩ (.cons (.bin (.nm 22 ⟨153, 70, 153, 75⟩) .Add (.int 1 0 ⟨153, 78, 153, 79⟩) ⟨153, 70, 153, 79⟩) (.cons (.bin (.bin (.nm 22 ⟨153, 81, 153, 86⟩) .Add (.nm 95 ⟨153, 89, 153, 93⟩) ⟨153, 81, 153, 93⟩) .Add (.int 1 0 ⟨153, 96, 153, 97⟩) ⟨153, 81, 153, 97⟩) .nil)) ⟨153, 64, 153, 98⟩) .nil [(0, .local), (73, .local), (11, .globalImplicit), (68, .free), (93, .free)] ⟨153, 16, 153, 99⟩) ⟨153, 7, 153, 99⟩) (.cons (.ret (.bool false 0 ⟨154, 15, 154, 20⟩) ⟨154, 8, 154, 20⟩) .nil) .nil ⟨153, 4, 154, 20⟩)
noncomputable def st8 : PS := (.asg 46 ⟨155, 4, 155, 10⟩ (.comp (.comp (.bin (.bin (.nm 36 ⟨155, 15, 155, 19⟩) .FloorDiv (.bin (.int 2 0 ⟨155, 23, 155, 24⟩) .Pow (.nm 45 ⟨155, 28, 155, 32⟩) ⟨155, 23, 155, 32⟩) ⟨155, 15, 155, 32⟩) .Mod (.int 2 0 ⟨155, 35, 155, 36⟩) ⟨155, 15, 155, 36⟩) (.one 45 ⟨155, 41, 155, 45⟩) (.call 83 ⟨155, 49, 155, 54⟩ (.cons (.nm 47 ⟨155, 55, 155, 60⟩) .nil) ⟨155, 49, 155, 61⟩) .nil [(0, .local), (45, .local), (36, .free)] ⟨155, 14, 155, 62⟩) (.one 36 ⟨155, 67, 155, 71⟩) (.slc (.nm 37 ⟨155, 75, 155, 80⟩) (.some (.int 1 0 ⟨155, 81, 155, 82⟩)) (.some (.int 3 0 ⟨155, 83, 155, 84⟩)) .none ⟨155, 81, 155, 84⟩ ⟨155, 75, 155, 85⟩) .nil [(0, .local), (36, .cell), (83, .globalImplicit), (47, .free)] ⟨155, 13, 155, 86⟩) ⟨155, 4, 155, 86⟩)
noncomputable def st9 : PS := (.asg 111 ⟨156, 4, 156, 9⟩ (.comp (.call 17 ⟨156, 13, 156, 23⟩ (.cons (.bin (.nm 36 ⟨156, 24, 156, 28⟩) .Mod (.bin (.int 2 0 ⟨156, 31, 156, 32⟩) .Pow (.nm 47 ⟨156, 36, 156, 41⟩) ⟨156, 31, 156, 41⟩) ⟨156, 24, 156, 41⟩) (.cons (.nm 49 ⟨156, 43, 156, 48⟩) (.cons (.nm 68 ⟨156, 50, 156, 55⟩) .nil))) ⟨156, 13, 156, 56⟩) (.one 36 ⟨156, 61, 156, 65⟩) (.slc (.nm 37 ⟨156, 69, 156, 74⟩) (.some (.int 1 0 ⟨156, 75, 156, 76⟩)) (.some (.int 3 0 ⟨156, 77, 156, 78⟩)) .none ⟨156, 75, 156, 78⟩ ⟨156, 69, 156, 79⟩) .nil [(0, .local), (36, .local), (17, .globalImplicit), (47, .free), (49, .free), (68, .free)] ⟨156, 12, 156, 80⟩) ⟨156, 4, 156, 80⟩)
noncomputable def st10 : PS := (.ifS (.cmp (.nm 111 ⟨157, 7, 157, 12⟩) .NotEq (.comp (.call 13 ⟨157, 17, 157, 28⟩ (.cons (.nm 113 ⟨157, 29, 157, 32⟩) (.cons (.nm 22 ⟨157, 34, 157, 39⟩) (.cons (.nm 95 ⟨157, 41, 157, 45⟩) .nil))) ⟨157, 17, 157, 46⟩) (.one 113 ⟨157, 51, 157, 54⟩) (.nm 46 ⟨157, 58, 157, 64⟩) .nil [(0, .local), (113, .local), (13, .globalImplicit), (22, .free), (95, .free)] ⟨157, 16, 157, 65⟩) ⟨157, 7, 157, 65⟩) (.cons (.ret (.bool false 0 ⟨158, 15, 158, 20⟩) ⟨158, 8, 158, 20⟩) .nil) .nil ⟨157, 4, 158, 20⟩)
noncomputable def st11 : PS := (.asg 91 ⟨159, 4, 159, 8⟩ (.comp (.call 16 ⟨159, 12, 159, 21⟩ (.cons (.nm 113 ⟨159, 22, 159, 25⟩) (.cons (.nm 22 ⟨159, 27, 159, 32⟩) .nil)) ⟨159, 12, 159, 33⟩) (.one 113 ⟨159, 38, 159, 41⟩) (.nm 46 ⟨159, 45, 159, 51⟩) .nil [(0, .local), (113, .local), (16, .globalImplicit), (22, .free)] ⟨159, 11, 159, 52⟩) ⟨159, 4, 159, 52⟩)
noncomputable def st12 : PS := (.asg 89 ⟨160, 4, 160, 8⟩ (.comp (.call 15 ⟨160, 12, 160, 21⟩ (.cons (.nm 104 ⟨160, 22, 160, 27⟩) (.cons (.nm 47 ⟨160, 29, 160, 34⟩) .nil)) ⟨160, 12, 160, 35⟩) (.one 104 ⟨160, 40, 160, 45⟩) (.nm 91 ⟨160, 49, 160, 53⟩) .nil [(0, .local), (104, .local), (15, .globalImplicit), (47, .free)] ⟨160, 11, 160, 54⟩) ⟨160, 4, 160, 54⟩)
noncomputable def st13 : PS := (.asg 60 ⟨161, 4, 161, 9⟩ (.comp (.call 6 ⟨161, 13, 161, 23⟩ (.cons (.nm 102 ⟨161, 24, 161, 28⟩) .nil) ⟨161, 13, 161, 29⟩) (.one 102 ⟨161, 34, 161, 38⟩) (.nm 111 ⟨161, 42, 161, 47⟩) .nil [(0, .local), (102, .local), (6, .globalImplicit)] ⟨161, 12, 161, 48⟩) ⟨161, 4, 161, 48⟩)
noncomputable def st14 : PS := (.asg 65 ⟨162, 4, 162, 11⟩ (.comp (.tup (.cons (.attr (.nm 59 ⟨162, 16, 162, 20⟩) 66 ⟨162, 16, 162, 22⟩) (.cons (.attr (.nm 59 ⟨162, 24, 162, 28⟩) 72 ⟨162, 24, 162, 31⟩) (.cons (.attr (.nm 59 ⟨162, 33, 162, 37⟩) 69 ⟨162, 33, 162, 42⟩) (.cons (.cmp (.attr (.nm 59 ⟨162, 44, 162, 48⟩) 55 ⟨162, 44, 162, 58⟩) .Is (.bool false 0 ⟨162, 62, 162, 67⟩) ⟨162, 44, 162, 67⟩) (.cons (.meth (.nm 59 ⟨162, 69, 162, 73⟩) 63 ⟨162, 69, 162, 95⟩ .nil ⟨162, 69, 162, 97⟩) .nil))))) 0 ⟨162, 15, 162, 98⟩) (.one 59 ⟨162, 103, 162, 107⟩) (.nm 60 ⟨162, 111, 162, 116⟩) .nil [(0, .local), (59, .local)] ⟨162, 14, 162, 117⟩) ⟨162, 4, 162, 117⟩)
noncomputable def st15 : PS := (.ifS (.cmp (.nm 65 ⟨163, 7, 163, 14⟩) .NotEq (.comp (.tup (.cons (.nm 95 ⟨163, 20, 163, 24⟩) (.cons (.bin (.bin (.int 2 0 ⟨163, 26, 163, 27⟩) .Pow (.bin (.nm 47 ⟨163, 32, 163, 37⟩) .Sub (.int 1 0 ⟨163, 40, 163, 41⟩) ⟨163, 32, 163, 41⟩) ⟨163, 26, 163, 42⟩) .Sub (.sub (.nm 104 ⟨163, 45, 163, 50⟩) (.int 2 0 ⟨163, 51, 163, 52⟩) ⟨163, 45, 163, 53⟩) ⟨163, 26, 163, 53⟩) (.cons (.nm 106 ⟨163, 55, 163, 59⟩) (.cons (.bool true 0 ⟨163, 61, 163, 65⟩) (.cons (.call 10 ⟨163, 67, 163, 79⟩ (.cons (.nm 106 ⟨163, 80, 163, 84⟩) .nil) ⟨163, 67, 163, 85⟩) .nil))))) 0 ⟨163, 19, 163, 86⟩) (.many [(104, ⟨163, 91, 163, 96⟩), (106, ⟨163, 98, 163, 102⟩)] 0 ⟨163, 91, 163, 102⟩) (.call 118 ⟨163, 106, 163, 109⟩ (.cons (.nm 91 ⟨163, 110, 163, 114⟩) (.cons (.nm 89 ⟨163, 116, 163, 120⟩) .nil)) ⟨163, 106, 163, 121⟩) .nil [(0, .local), (104, .local), (106, .local), (10, .globalImplicit), (47, .free), (95, .free)] ⟨163, 18, 163, 122⟩) ⟨163, 7, 163, 122⟩) (.cons (.ret (.bool false 0 ⟨164, 15, 164, 20⟩) ⟨164, 8, 164, 20⟩) .nil) .nil ⟨163, 4, 164, 20⟩)
noncomputable def st16 : PS := (.ifS (.cmp (.meth (.sub (.nm 60 ⟨165, 7, 165, 12⟩) (.int 0 0 ⟨165, 13, 165, 14⟩) ⟨165, 7, 165, 15⟩) 39 ⟨165, 7, 165, 21⟩ (.cons (.sub (.nm 60 ⟨165, 22, 165, 27⟩) (.int 1 0 ⟨165, 28, 165, 29⟩) ⟨165, 22, 165, 30⟩) .nil) ⟨165, 7, 165, 31⟩) .IsNot (.cmp (.sub (.nm 91 ⟨165, 40, 165, 44⟩) (.int 0 0 ⟨165, 45, 165, 46⟩) ⟨165, 40, 165, 47⟩) .Eq (.sub (.nm 91 ⟨165, 51, 165, 55⟩) (.int 1 0 ⟨165, 56, 165, 57⟩) ⟨165, 51, 165, 58⟩) ⟨165, 40, 165, 58⟩) ⟨165, 7, 165, 59⟩) (.cons (.ret (.bool false 0 ⟨166, 15, 166, 20⟩) ⟨166, 8, 166, 20⟩) .nil) .nil ⟨165, 4, 166, 20⟩)
noncomputable def st17 : PS := (.asg 103 ⟨167, 4, 167, 9⟩ (.call 6 ⟨167, 12, 167, 22⟩ (.cons (.bin (.sub (.nm 111 ⟨167, 23, 167, 28⟩) (.int 0 0 ⟨167, 29, 167, 30⟩) ⟨167, 23, 167, 31⟩) .Add (.bin (.str [32] 0 ⟨167, 34, 167, 37⟩) .Mult (.int 4 0 ⟨167, 40, 167, 41⟩) ⟨167, 34, 167, 41⟩) ⟨167, 23, 167, 41⟩) .nil) ⟨167, 12, 167, 42⟩) ⟨167, 4, 167, 42⟩)
noncomputable def st18 : PS := (.asg 31 ⟨168, 4, 168, 11⟩ (.comp (.call 9 ⟨168, 15, 168, 26⟩ (.cons (.sub (.nm 89 ⟨168, 27, 168, 31⟩) (.int 0 0 ⟨168, 32, 168, 33⟩) ⟨168, 27, 168, 34⟩) (.cons (.nm 100 ⟨168, 36, 168, 39⟩) .nil)) ⟨168, 15, 168, 40⟩) (.one 100 ⟨168, 45, 168, 48⟩) (.call 83 ⟨168, 52, 168, 57⟩ (.cons (.int 1 0 ⟨168, 58, 168, 59⟩) (.cons (.bin (.sub (.sub (.nm 89 ⟨168, 61, 168, 65⟩) (.int 0 0 ⟨168, 66, 168, 67⟩) ⟨168, 61, 168, 68⟩) (.int 1 0 ⟨168, 69, 168, 70⟩) ⟨168, 61, 168, 71⟩) .Add (.int 6 0 ⟨168, 74, 168, 75⟩) ⟨168, 61, 168, 75⟩) .nil)) ⟨168, 52, 168, 76⟩) .nil [(0, .local), (100, .local), (9, .globalImplicit), (89, .free)] ⟨168, 14, 168, 77⟩) ⟨168, 4, 168, 77⟩)
noncomputable def st19 : PS := (.ifS (.bor (.cmp (.meth (.sub (.nm 60 ⟨169, 7, 169, 12⟩) (.int 0 0 ⟨169, 13, 169, 14⟩) ⟨169, 7, 169, 15⟩) 39 ⟨169, 7, 169, 21⟩ (.cons (.nm 103 ⟨169, 22, 169, 27⟩) .nil) ⟨169, 7, 169, 28⟩) .IsNot (.bool false 0 ⟨169, 36, 169, 41⟩) ⟨169, 7, 169, 41⟩) (.cmp (.meth (.sub (.nm 60 ⟨169, 45, 169, 50⟩) (.int 0 0 ⟨169, 51, 169, 52⟩) ⟨169, 45, 169, 53⟩) 70 ⟨169, 45, 169, 71⟩ (.cons (.nm 103 ⟨169, 72, 169, 77⟩) .nil) ⟨169, 45, 169, 78⟩) .NotEq (.comp (.tup (.cons (.bin (.nm 79 ⟨169, 84, 169, 89⟩) .Add (.int 1 0 ⟨169, 92, 169, 93⟩) ⟨169, 84, 169, 93⟩) (.cons (.nm 30 ⟨169, 95, 169, 101⟩) (.cons (.bin (.nm 30 ⟨169, 103, 169, 109⟩) .Add (.int 4 0 ⟨169, 112, 169, 113⟩) ⟨169, 103, 169, 113⟩) .nil))) 0 ⟨169, 83, 169, 114⟩) (.many [(79, ⟨169, 119, 169, 124⟩), (30, ⟨169, 126, 169, 132⟩)] 0 ⟨169, 119, 169, 132⟩) (.call 38 ⟨169, 136, 169, 145⟩ (.cons (.nm 31 ⟨169, 146, 169, 153⟩) .nil) ⟨169, 136, 169, 154⟩) .nil [(0, .local), (79, .local), (30, .local)] ⟨169, 82, 169, 155⟩) ⟨169, 45, 169, 155⟩) ⟨169, 7, 169, 155⟩) (.cons (.ret (.bool false 0 ⟨170, 15, 170, 20⟩) ⟨170, 8, 170, 20⟩) .nil) .nil ⟨169, 4, 170, 20⟩)
noncomputable def st20 : PS := (.ret (.cmp (.meth (.sub (.nm 60 ⟨171, 11, 171, 16⟩) (.int 0 0 ⟨171, 17, 171, 18⟩) ⟨171, 11, 171, 19⟩) 70 ⟨171, 11, 171, 37⟩ (.cons (.sub (.nm 60 ⟨171, 38, 171, 43⟩) (.int 1 0 ⟨171, 44, 171, 45⟩) ⟨171, 38, 171, 46⟩) .nil) ⟨171, 11, 171, 47⟩) .Eq (.call 18 ⟨171, 51, 171, 65⟩ (.cons (.sub (.nm 89 ⟨171, 66, 171, 70⟩) (.int 0 0 ⟨171, 71, 171, 72⟩) ⟨171, 66, 171, 73⟩) (.cons (.sub (.nm 89 ⟨171, 75, 171, 79⟩) (.int 1 0 ⟨171, 80, 171, 81⟩) ⟨171, 75, 171, 82⟩) .nil)) ⟨171, 51, 171, 83⟩) ⟨171, 11, 171, 83⟩) ⟨171, 4, 171, 83⟩)
theorem b_law_is : b_law = (.cons st0 (.cons st1 (.cons st2 (.cons st3 (.cons st4 (.cons st5 (.cons st6 (.cons st7 (.cons st8 (.cons st9 (.cons st10 (.cons st11 (.cons st12 (.cons st13 (.cons st14 (.cons st15 (.cons st16 (.cons st17 (.cons st18 (.cons st19 (.cons st20 .nil))))))))))))))))))))) := rfl
noncomputable abbrev LF (F : Fr) : Fr := { F with nk := n_law }
noncomputable def R0 (ns : List Int) : Rho := [(37, .lst (dr4 ns)), (90, .lst (ns.map .int))]
noncomputable def R1 (ns : List Int) (c : Nat) : Rho := (22, .int (aheadC c : Nat)) :: (47, .int (foldsC c : Nat)) :: R0 ns
noncomputable def R2 (ns : List Int) (c s : Nat) : Rho := (93, .int (s : Nat)) :: R1 ns c
noncomputable def R3 (ns : List Int) (c s : Nat) : Rho := (94, .str [SP]) :: R2 ns c s
noncomputable def R4 (ns : List Int) (c s : Nat) : Rho := (95, .int (sizeC c : Nat)) :: R3 ns c s
noncomputable def R5 (ns : List Int) (c s : Nat) : Rho := (68, namesT) :: R4 ns c s
noncomputable def R6 (ns : List Int) (c s : Nat) : Rho := (49, heardT c) :: R5 ns c s
structure LH (F : Fr) (h₀ : Heap) (ns : List Int) (c s a1 a2 : Nat) : Prop where
  b : Base F.prog F.w F.B
  bi : InitOk F.prog F.w F.B
  hy : Hyp (LF F) (orc 5) 5
  n : NewFr (LF F) h₀
  hi : interactive F.env = false
  chr : GlobV F.B (nm 29) (.builtin "chr")
  len : ns.length ≤ 63
  sg : 35 + ((drawZ ns 3 18).fdiv 8).fmod 50000 = (F.sg : Int)
  hc : c < 3
  h0 : (drawZ ns 0 0).fmod 3 = (c : Int)
  hs : s < 8
  hs8 : (drawZ ns 3 18).fmod 8 = (s : Int)
  ha1 : a1 < numC c
  h1 : (drawZ ns 1 11).fmod (numC c : Nat) = (a1 : Int)
  ha2 : a2 < numC c
  h2 : (drawZ ns 2 13).fmod (numC c : Nat) = (a2 : Int)
section
variable {F : Fr} {h₀ : Heap} {X₀ : Av} {ns : List Int} {c s a1 a2 : Nat}
theorem c_is (h : c < 3) : c = 0 ∨ c = 1 ∨ c = 2 := by omega
theorem draws_xw {F : Fr} {h₀ : Heap} {X₀ : Av} {ρ : Rho} {k : Nat} {o : Orc} (hy : Hyp F o k) (n : NewFr F h₀) (hnk : F.nk = n_law) {ns : List Int} (hn : ns.length ≤ 63) (hρ : ρ = [(90, .lst (ns.map .int))]) {st : PS} (hst : ∃ xp elt iter cp p p1 p2 pt q0 q1 q2 q3 q4 q5 q6 q7 q8 q9 q10 q11 q12 q13 q14 e0 e1 e2 e3 e4 e5 e6,
      elt = PE.bin (.nm 76 q0) .Add (.call 99 q1 (.cons (.comp (.bin (.nm 117 q2) .Mod (.int 1000000 0 q3) q4) (.one 117 q5) (sliceE q6 q7 q8 q9 q10 q11) .nil [(0, .local), (117, .local)] q12) .nil) q13) q14 ∧
      iter = PE.call 38 e0 (.cons (.tup (.cons (.int 0 0 e1) (.cons (.int 11 0 e2) (.cons (.int 13 0 e3) (.cons (.int 18 0 e4) .nil)))) 0 e5) .nil) e6 ∧
      st = .asg 37 xp (.comp elt (.many [(79, p1), (76, p2)] 0 pt) iter .nil [(0, .local), (79, .local), (76, .local), (99, .globalImplicit), (90, .free)] cp) p) : XW F h₀ X₀ st ρ none ((37, .lst (dr4 ns)) :: ρ, none, .next) := ⟨draws_ev hy n hnk hn hρ hst⟩
theorem stage0 (H : LH F h₀ ns c s a1 a2) : XW (LF F) h₀ X₀ st0 [(90, .lst (ns.map .int))] none (R0 ns, none, .next) := by
  refine draws_xw (F := LF F) H.hy H.n rfl H.len rfl ?_
  exact ⟨_, _, _, _, _, _, _, _, _, _, _, _, _, _, _, _, _, _, _, _, _, _, _, _, _, _, _, _, _, _, rfl, rfl, rfl⟩
theorem stage1 (H : LH F h₀ ns c s a1 a2) : XW (LF F) h₀ X₀ st1 (R0 ns) none (R1 ns c, none, .next) := by
  refine xw_asgT (F := LF F) (d := .tup [.int (foldsC c : Nat), .int (aheadC c : Nat)]) H.hy.hh H.n rfl (by kernel_rfl) rfl fun X' => ?_
  refine ew_sub (F := (LF F).to n_law F.env X' (R0 ns)) (a := .tup [.tup [.int 4, .int 0], .tup [.int 4, .int 16], .tup [.int 5, .int 0]]) (b := .int (c : Nat)) (ew_G (H.hy.to _ _ _ _) (by kernel_rfl)) ?_ (by rcases c_is H.hc with rfl | rfl | rfl <;> rfl)
  rw [← H.h0]
  exact ew_G (F := (LF F).to n_law F.env X' (R0 ns)) (H.hy.to _ _ _ _) (by kernel_rfl)
theorem stage2 (H : LH F h₀ ns c s a1 a2) : XW (LF F) h₀ X₀ st2 (R1 ns c) none (R2 ns c s, none, .next) := by
  refine xw_asg (F := LF F) H.hy.hh H.n rfl (by kernel_rfl) fun X' => ?_
  rw [← H.hs8]
  exact ew_G (F := (LF F).to n_law F.env X' (R1 ns c)) (H.hy.to _ _ _ _) (by kernel_rfl)
theorem stage3 (H : LH F h₀ ns c s a1 a2) : XW (LF F) h₀ X₀ st3 (R2 ns c s) none (R3 ns c s, none, .next) := by
  refine xw_asg (F := LF F) H.hy.hh H.n rfl (by kernel_rfl) fun X' => ?_
  refine ew_chr (F := (LF F).to n_law F.env X' (R2 ns c s)) H.chr (by kernel_rfl) H.hy.hs H.sg ?_
  exact ew_G (F := (LF F).to n_law F.env X' (R2 ns c s)) (H.hy.to _ _ _ _) (by kernel_rfl)
theorem stage4 (H : LH F h₀ ns c s a1 a2) : XW (LF F) h₀ X₀ st4 (R3 ns c s) none (R4 ns c s, none, .next) := by
  refine xw_asg (F := LF F) H.hy.hh H.n rfl (by kernel_rfl) fun X' => ?_
  refine ew_G (F := (LF F).to n_law F.env X' (R3 ns c s)) (H.hy.to _ _ _ _) ?_
  rcases c_is H.hc with rfl | rfl | rfl <;> kernel_rfl
theorem stage5 (H : LH F h₀ ns c s a1 a2) : XW (LF F) h₀ X₀ st5 (R4 ns c s) none (R5 ns c s, none, .next) := by
  refine xw_asg (F := LF F) H.hy.hh H.n rfl (by kernel_rfl) fun X' => ?_
  exact ew_G (F := (LF F).to n_law F.env X' (R4 ns c s)) (H.hy.to _ _ _ _) (by kernel_rfl)
theorem heard_len (hc : c < 3) : (upList ((aheadC c : Nat) + 1 : Int) (sizeC c)).length = ((hdL.drop (aheadC c)).take (sizeC c)).length := by
  rcases c_is hc with rfl | rfl | rfl <;> decide +kernel
theorem size_le (hc : c < 3) : aheadC c + sizeC c ≤ 31 := by rcases c_is hc with rfl | rfl | rfl <;> decide
theorem heard_at (hc : c < 3) {i : Nat} {d r : D} (e1 : (upList ((aheadC c : Nat) + 1 : Int) (sizeC c))[i]? = some d) (e2 : ((hdL.drop (aheadC c)).take (sizeC c))[i]? = some r) : ∃ m, numL[m]? = some (m + 1) ∧ d = .int ((m + 1 : Nat) : Int) ∧ hdL[m]? = some r := by
  have hlt : i < sizeC c := by
    have := (List.getElem?_eq_some_iff.mp e1).1
    rwa [upList_len] at this
  have := size_le hc
  refine ⟨aheadC c + i, numL_at (by omega), ?_, hdL_at e2⟩
  rw [upList_at _ _ _ _ e1]
  congr 1; push_cast; omega
noncomputable def rangeE (p1 p2 p3 p4 p5 p6 p7 p8 p9 p10 : Pos) : PE := .call 83 p1 (.cons (.bin (.nm 22 p2) .Add (.int 1 0 p3) p4) (.cons (.bin (.bin (.nm 22 p5) .Add (.nm 95 p6) p7) .Add (.int 1 0 p8) p9) .nil)) p10
theorem range_iw (H : LH F h₀ ns c s a1 a2) {X' : Av} {ρ : Rho} (h22 : getR ρ 22 = some (.int (aheadC c : Nat))) (h95 : getR ρ 95 = some (.int (sizeC c : Nat))) {p1 p2 p3 p4 p5 p6 p7 p8 p9 p10 : Pos} : IW ((LF F).to n_law F.env X' ρ) (rangeE p1 p2 p3 p4 p5 p6 p7 p8 p9 p10) (upList ((aheadC c : Nat) + 1 : Int) (sizeC c)) 0 := by
  have hb : ∀ {d}, biop .range [.int ((aheadC c : Nat) + 1 : Int), .int ((aheadC c : Nat) + (sizeC c : Nat) + 1 : Int)] = some d → EW ((LF F).to n_law F.env X' ρ) (rangeE p1 p2 p3 p4 p5 p6 p7 p8 p9 p10) d := fun e =>
    ⟨H.hy.bi 83 .range rfl n_law F.env X' ρ _ _ e p10 p1 _ (lw_cons (ew_bin (ew_nm h22) (ew_G (d := .int 1) (H.hy.to _ _ _ _) (by kernel_rfl)) rfl) (lw_cons (ew_bin (ew_bin (ew_nm h22) (ew_nm h95) rfl) (ew_G (d := .int 1) (H.hy.to _ _ _ _) (by kernel_rfl)) rfl) lw_nil)) (by kernel_rfl)⟩
  refine iw_of (F := (LF F).to n_law F.env X' ρ) H.hy.hh (hb rfl) ?_
  rcases c_is H.hc with rfl | rfl | rfl <;> kernel_rfl
theorem stage6 (H : LH F h₀ ns c s a1 a2) : XW (LF F) h₀ X₀ st6 (R5 ns c s) none (R6 ns c s, none, .next) := by
  refine xw_comp (F := LF F) (md := 0) (ds := upList ((aheadC c : Nat) + 1 : Int) (sizeC c)) H.hy.hh H.n (fun X' => range_iw H rfl rfl) (by kernel_rfl) (by kernel_rfl) ?_ (fun X' => ?_) (by kernel_rfl)
  · have := size_le H.hc
    have hl := lim_is
    rw [upList_len]; omega
  · refine tw_one (heard_len H.hc) fun i d r e1 e2 env' X'' => ?_
    obtain ⟨m, h1, rfl, h3⟩ := heard_at H.hc e1 e2
    exact ew_call (H.hy.to _ _ _ _) (map_at reads_is h1 h3) rfl rfl (lw_cons (ew_nm rfl) (lw_cons (ew_nm rfl) lw_nil)) rfl
theorem heard_ne (hc : c < 3) : cmpop .NotEq (heardT c) (.lst ((hdL.drop (aheadC c)).take (sizeC c))) = some false := by
  rcases c_is hc with rfl | rfl | rfl <;> kernel_rfl
theorem stage7 (H : LH F h₀ ns c s a1 a2) : XW (LF F) h₀ X₀ st7 (R6 ns c s) none (R6 ns c s, none, .next) := by
  refine xw_if (F := LF F) H.n fun X' => ?_
  refine bw_cmp (F := (LF F).to n_law F.env X' (R6 ns c s)) (a := heardT c) (b := .lst ((hdL.drop (aheadC c)).take (sizeC c))) (ew_nm rfl) ?_ (heard_ne H.hc) H.hy.hA H.hy.hs
  refine ew_comp (F := (LF F).to n_law F.env X' (R6 ns c s)) (md := 0) (ds := upList ((aheadC c : Nat) + 1 : Int) (sizeC c)) H.hy.hh (range_iw H rfl rfl) (by kernel_rfl) (by kernel_rfl) ?_ ?_
  · have := size_le H.hc
    have hl := lim_is
    rw [upList_len]; omega
  · refine tw_one (heard_len H.hc) fun i d r e1 e2 env' X'' => ?_
    obtain ⟨m, h1, rfl, h3⟩ := heard_at H.hc e1 e2
    exact ew_call (H.hy.to _ _ _ _) (map_at (named_is s H.hs) h1 h3) rfl rfl (lw_cons (ew_nm rfl) (lw_cons (ew_nm rfl) (lw_cons (ew_nm rfl) lw_nil))) rfl
end
end Mine

namespace Mine
noncomputable def R8 (ns : List Int) (c s a1 a2 : Nat) : Rho := (46, .lst [bitsT c a1, bitsT c a2]) :: R6 ns c s
noncomputable def R9 (ns : List Int) (c s a1 a2 : Nat) (T1 T2 : List Nat) : Rho := (111, .lst [.str T1, .str T2]) :: R8 ns c s a1 a2
noncomputable def R11 (ns : List Int) (c s a1 a2 : Nat) (T1 T2 : List Nat) (i j : Nat) : Rho := (91, .lst [nD seenL i, nD seenL j]) :: R9 ns c s a1 a2 T1 T2
noncomputable def R12 (ns : List Int) (c s a1 a2 : Nat) (T1 T2 : List Nat) (i j : Nat) : Rho := (89, .lst [nD (runsC c) i, nD (runsC c) j]) :: R11 ns c s a1 a2 T1 T2 i j
noncomputable def R13 (ns : List Int) (c s a1 a2 : Nat) (T1 T2 : List Nat) (i j : Nat) : Rho := (60, .lst [nD (objsC c) i, nD (objsC c) j]) :: R12 ns c s a1 a2 T1 T2 i j
theorem nD_at {l : List D} {i : Nat} (h : i < l.length) : l[i]? = some (nD l i) := by
  unfold nD
  rw [atD_eq, List.getElem?_eq_getElem h]
theorem lens (hc : c < 3) {i : Nat} (hi : i < 7) : i < seenL.length ∧ i < (runsC c).length ∧ i < (objsC c).length ∧ i < (thrsC c).length := by
  rcases c_is hc with rfl | rfl | rfl <;> exact ⟨hi, hi, hi, hi⟩
theorem eqNats_refl (l : List Nat) : eqNats l l = true := by rw [eqNats_eq]; simp
theorem two_eq {T1 T2 : List Nat} (h1 : plainS T1 = true) (h2 : plainS T2 = true) : cmpop .NotEq (.lst [.str T1, .str T2]) (.lst [.str T1, .str T2]) = some false := by
  have o1 : ∀ n, okPy n (.str T1) = true := fun n => by cases n <;> exact h1
  have o2 : ∀ n, okPy n (.str T2) = true := fun n => by cases n <;> exact h2
  have ok : okPy 4 (.lst [.str T1, .str T2]) = true := by
    show ([D.str T1, D.str T2].all (okPy 3)) = true
    rw [List.all_cons, List.all_cons, o1, o2]; rfl
  have e1 : ∀ n T, eqb n (.str T) (.str T) = true := fun n T => by cases n <;> exact eqNats_refl T
  show (if (okPy 4 (.lst [.str T1, .str T2]) && okPy 4 (.lst [.str T1, .str T2])) = true then some (!eqb 4 (.lst [.str T1, .str T2]) (.lst [.str T1, .str T2])) else none) = some false
  rw [ok]
  have e2 : eqb 4 (.lst [.str T1, .str T2]) (.lst [.str T1, .str T2]) = true := by
    show (eqb 3 (.str T1) (.str T1) && (eqb 3 (.str T2) (.str T2) && true)) = true
    rw [e1, e1]; rfl
  rw [e2]; rfl
section
variable {F : Fr} {h₀ : Heap} {X₀ : Av} {ns : List Int} {c s a1 a2 : Nat} {T1 T2 : List Nat} {i j : Nat}
theorem stage8 (H : LH F h₀ ns c s a1 a2) (hX : ∀ b, X₀ b → F.X b) : XW (LF F) h₀ X₀ st8 (R6 ns c s) none (R8 ns c s a1 a2, none, .next) := by
  have h1 := H.h1
  have h2 := H.h2
  have key : ex 12 (orc 5) n_law st8 (R6 ns c s) none = some ((46, .lst [.lst (bitsZ (drawZ ns 1 11) (foldsC c) 0), .lst (bitsZ (drawZ ns 2 13) (foldsC c) 0)]) :: R6 ns c s, none, .next) := by
    rcases c_is H.hc with rfl | rfl | rfl <;> kernel_rfl
  have e1 : bitsZ (drawZ ns 1 11) (foldsC c) 0 = bits (foldsC c) a1 := by
    rcases c_is H.hc with rfl | rfl | rfl
    · exact bits4 _ _ (by rw [← h1]; exact (fm (by decide)).symm)
    · exact bits4 _ _ (by rw [← h1]; exact (fm (by decide)).symm)
    · exact bits5 _ _ (by rw [← h1]; exact (fm (by decide)).symm)
  have e2 : bitsZ (drawZ ns 2 13) (foldsC c) 0 = bits (foldsC c) a2 := by
    rcases c_is H.hc with rfl | rfl | rfl
    · exact bits4 _ _ (by rw [← h2]; exact (fm (by decide)).symm)
    · exact bits4 _ _ (by rw [← h2]; exact (fm (by decide)).symm)
    · exact bits5 _ _ (by rw [← h2]; exact (fm (by decide)).symm)
  rw [e1, e2] at key
  exact xw_ex (F := LF F) H.hy H.n hX H.hi key
theorem stage9 (H : LH F h₀ ns c s a1 a2) (t1 : (textsC c)[a1]? = some T1) (t2 : (textsC c)[a2]? = some T2) : XW (LF F) h₀ X₀ st9 (R8 ns c s a1 a2) none (R9 ns c s a1 a2 T1 T2, none, .next) := by
  refine xw_comp (F := LF F) (md := 0) (ds := [.int (drawZ ns 1 11), .int (drawZ ns 2 13)]) H.hy.hh H.n (fun X' => iw_G (F := (LF F).to n_law F.env X' (R8 ns c s a1 a2)) (H.hy.to _ _ _ _) (d := .lst [.int (drawZ ns 1 11), .int (drawZ ns 2 13)]) (by kernel_rfl) rfl) (by kernel_rfl) (by kernel_rfl) (by show 2 ≤ lim; decide) (fun X' => ?_) (by kernel_rfl)
  refine tw_one rfl fun m d r e1 e2 env' X'' => ?_
  have hm : ∃ dz a T, d = .int dz ∧ dz.fmod (numC c : Nat) = ((a : Nat) : Int) ∧ a < numC c ∧ (textsC c)[a]? = some T ∧ r = .str T := by
    match m, e1, e2 with
    | 0, e1, e2 => exact ⟨_, a1, _, (Option.some.inj e1).symm, H.h1, H.ha1, t1, (Option.some.inj e2).symm⟩
    | 1, e1, e2 => exact ⟨_, a2, _, (Option.some.inj e1).symm, H.h2, H.ha2, t2, (Option.some.inj e2).symm⟩
    | m + 2, e1, e2 => cases e1
  obtain ⟨dz, a, T, rfl, hm, ha, ht, rfl⟩ := hm
  refine ew_call (H.hy.to _ _ _ _) (map_at (typed_is c H.hc) (upto_at H.hc ha) ht) rfl rfl (lw_cons ?_ (lw_cons (ew_nm rfl) (lw_cons (ew_nm rfl) lw_nil))) (by kernel_rfl)
  rw [← hm]
  refine ew_G (H.hy.to _ _ _ _) ?_
  rcases c_is H.hc with rfl | rfl | rfl <;> kernel_rfl
theorem stage10 (H : LH F h₀ ns c s a1 a2) (t1 : (textsC c)[a1]? = some T1) (t2 : (textsC c)[a2]? = some T2) (p1 : plainS T1 = true) (p2 : plainS T2 = true) : XW (LF F) h₀ X₀ st10 (R9 ns c s a1 a2 T1 T2) none (R9 ns c s a1 a2 T1 T2, none, .next) := by
  refine xw_if (F := LF F) H.n fun X' => ?_
  refine bw_cmp (F := (LF F).to n_law F.env X' (R9 ns c s a1 a2 T1 T2)) (a := .lst [.str T1, .str T2]) (b := .lst [.str T1, .str T2]) (ew_nm rfl) ?_ (two_eq p1 p2) H.hy.hA H.hy.hs
  refine ew_comp (F := (LF F).to n_law F.env X' (R9 ns c s a1 a2 T1 T2)) (md := 0) (ds := [bitsT c a1, bitsT c a2]) H.hy.hh (iw_of (F := (LF F).to n_law F.env X' (R9 ns c s a1 a2 T1 T2)) H.hy.hh (ew_nm rfl) rfl) (by kernel_rfl) (by kernel_rfl) (by show 2 ≤ lim; decide) ?_
  refine tw_one rfl fun m d r e1 e2 env' X'' => ?_
  have hm : ∃ a T, d = bitsT c a ∧ a < numC c ∧ (textsC c)[a]? = some T ∧ r = .str T := by
    match m, e1, e2 with
    | 0, e1, e2 => exact ⟨a1, _, (Option.some.inj e1).symm, H.ha1, t1, (Option.some.inj e2).symm⟩
    | 1, e1, e2 => exact ⟨a2, _, (Option.some.inj e1).symm, H.ha2, t2, (Option.some.inj e2).symm⟩
    | m + 2, e1, e2 => cases e1
  obtain ⟨a, T, rfl, ha, ht, rfl⟩ := hm
  exact ew_call (H.hy.to _ _ _ _) (map_at (opened_is c H.hc) (upto_at H.hc ha) ht) rfl rfl (lw_cons (ew_nm rfl) (lw_cons (ew_nm rfl) (lw_cons (ew_nm rfl) lw_nil))) (by kernel_rfl)
theorem stage11 (H : LH F h₀ ns c s a1 a2) (i1 : (clsC c)[a1]? = some i) (i2 : (clsC c)[a2]? = some j) (hi : i < 7) (hj : j < 7) : XW (LF F) h₀ X₀ st11 (R9 ns c s a1 a2 T1 T2) none (R11 ns c s a1 a2 T1 T2 i j, none, .next) := by
  refine xw_comp (F := LF F) (md := 0) (ds := [bitsT c a1, bitsT c a2]) H.hy.hh H.n (fun X' => iw_of (F := (LF F).to n_law F.env X' (R9 ns c s a1 a2 T1 T2)) H.hy.hh (ew_nm rfl) rfl) (by kernel_rfl) (by kernel_rfl) (by show 2 ≤ lim; decide) (fun X' => ?_) (by kernel_rfl)
  refine tw_one rfl fun m d r e1 e2 env' X'' => ?_
  have hm : ∃ a i, d = bitsT c a ∧ a < numC c ∧ (clsC c)[a]? = some i ∧ i < 7 ∧ r = nD seenL i := by
    match m, e1, e2 with
    | 0, e1, e2 => exact ⟨a1, i, (Option.some.inj e1).symm, H.ha1, i1, hi, (Option.some.inj e2).symm⟩
    | 1, e1, e2 => exact ⟨a2, j, (Option.some.inj e1).symm, H.ha2, i2, hj, (Option.some.inj e2).symm⟩
    | m + 2, e1, e2 => cases e1
  obtain ⟨a, i, rfl, ha, ht, hi, rfl⟩ := hm
  exact ew_call (H.hy.to _ _ _ _) ((map_at (seen_is c H.hc) (upto_at H.hc ha) ht).trans (nD_at (lens H.hc hi).1)) rfl rfl (lw_cons (ew_nm rfl) (lw_cons (ew_nm rfl) lw_nil)) (by kernel_rfl)
theorem stage12 (H : LH F h₀ ns c s a1 a2) (hi : i < 7) (hj : j < 7) : XW (LF F) h₀ X₀ st12 (R11 ns c s a1 a2 T1 T2 i j) none (R12 ns c s a1 a2 T1 T2 i j, none, .next) := by
  refine xw_comp (F := LF F) (md := 0) (ds := [nD seenL i, nD seenL j]) H.hy.hh H.n (fun X' => iw_of (F := (LF F).to n_law F.env X' (R11 ns c s a1 a2 T1 T2 i j)) H.hy.hh (ew_nm rfl) rfl) (by kernel_rfl) (by kernel_rfl) (by show 2 ≤ lim; decide) (fun X' => ?_) (by kernel_rfl)
  refine tw_one rfl fun m d r e1 e2 env' X'' => ?_
  have hm : ∃ i, d = nD seenL i ∧ i < 7 ∧ r = nD (runsC c) i := by
    match m, e1, e2 with
    | 0, e1, e2 => exact ⟨i, (Option.some.inj e1).symm, hi, (Option.some.inj e2).symm⟩
    | 1, e1, e2 => exact ⟨j, (Option.some.inj e1).symm, hj, (Option.some.inj e2).symm⟩
    | m + 2, e1, e2 => cases e1
  obtain ⟨i, rfl, hi, rfl⟩ := hm
  exact ew_call (H.hy.to _ _ _ _) (map_at (runs_is c H.hc) (nD_at (lens H.hc hi).1) (nD_at (lens H.hc hi).2.1)) rfl rfl (lw_cons (ew_nm rfl) (lw_cons (ew_nm rfl) lw_nil)) (by kernel_rfl)
theorem stage13 (H : LH F h₀ ns c s a1 a2) (t1 : (textsC c)[a1]? = some T1) (t2 : (textsC c)[a2]? = some T2) (i1 : (clsC c)[a1]? = some i) (i2 : (clsC c)[a2]? = some j) (hi : i < 7) (hj : j < 7) : XW (LF F) h₀ X₀ st13 (R12 ns c s a1 a2 T1 T2 i j) none (R13 ns c s a1 a2 T1 T2 i j, none, .next) := by
  refine xw_comp (F := LF F) (md := 0) (ds := [.str T1, .str T2]) H.hy.hh H.n (fun X' => iw_of (F := (LF F).to n_law F.env X' (R12 ns c s a1 a2 T1 T2 i j)) H.hy.hh (ew_nm rfl) rfl) (by kernel_rfl) (by kernel_rfl) (by show 2 ≤ lim; decide) (fun X' => ?_) (by kernel_rfl)
  refine tw_one rfl fun m d r e1 e2 env' X'' => ?_
  have hm : ∃ (T : List Nat) (a i : Nat), d = .str T ∧ (textsC c)[a]? = some T ∧ (clsC c)[a]? = some i ∧ i < 7 ∧ r = nD (objsC c) i := by
    match m, e1, e2 with
    | 0, e1, e2 => exact ⟨_, a1, i, (Option.some.inj e1).symm, t1, i1, hi, (Option.some.inj e2).symm⟩
    | 1, e1, e2 => exact ⟨_, a2, j, (Option.some.inj e1).symm, t2, i2, hj, (Option.some.inj e2).symm⟩
    | m + 2, e1, e2 => cases e1
  obtain ⟨T, a, i, rfl, ht, hi', hi, rfl⟩ := hm
  · refine ew_ws (F := Fr.to (LF F) _ env' X'' _) (k := 3) (raw := T) H.b H.bi H.hy.hs H.hy.hA (fun x => ?_) (by kernel_rfl) (ew_nm rfl)
    rw [map_at (ws_is c H.hc x) ht hi', nD_at (lens H.hc hi).2.2.1]; rfl
theorem stage17 (H : LH F h₀ ns c s a1 a2) {ρ : Rho} (hρ : getR ρ 111 = some (.lst [.str T1, .str T2])) (t1 : (textsC c)[a1]? = some T1) (i1 : (clsC c)[a1]? = some i) (hi : i < 7) (hl : T1.length ≤ 31) : XW (LF F) h₀ X₀ st17 ρ none ((103, nD (thrsC c) i) :: ρ, none, .next) := by
  have hlim := lim_is
  refine xw_asg (F := LF F) H.hy.hh H.n rfl (by kernel_rfl) fun X' => ?_
  refine ew_ws (F := (LF F).to n_law F.env X' ρ) (k := 3) (raw := T1 ++ four) H.b H.bi H.hy.hs H.hy.hA (fun x => ?_) (by kernel_rfl) ?_
  · rw [map_at (th_is c H.hc x) t1 i1, nD_at (lens H.hc hi).2.2.2]; rfl
  · refine ew_bin (F := (LF F).to n_law F.env X' ρ) (a := .str T1) (b := .str four) (ew_sub (a := .lst [.str T1, .str T2]) (b := .int 0) (ew_nm hρ) (ew_G (H.hy.to _ _ _ _) (by kernel_rfl)) rfl) (ew_G (H.hy.to _ _ _ _) (by kernel_rfl)) ?_
    have h4 : four.length = 4 := rfl
    exact if_pos (decide_eq_true (by omega))
end
end Mine

namespace Mine
section
variable {F : Fr} {h₀ : Heap} {X₀ : Av} {ns : List Int} {c s a1 a2 : Nat}
theorem run2_gives {c i j : Nat} (h : run2 c i j = true) : ∃ ρ', exL (ex 12 (orc 5) n_law) fin (rhoU c i j) none = some (ρ', none, .ret (.bool true)) := by
  unfold run2 at h
  split at h
  · rename_i ρ' e; exact ⟨ρ', e⟩
  · cases h
theorem law_split : b_law = .cons st0 (.cons st1 (.cons st2 (.cons st3 (.cons st4 (.cons st5 (.cons st6 (.cons st7 (.cons st8 (.cons st9 (.cons st10 (.cons st11 (.cons st12 (.cons st13 (mid.app (.cons st17 fin))))))))))))))) := by kernel_rfl
theorem law_list (H : LH F h₀ ns c s a1 a2) (hX : ∀ b, X₀ b → F.X b) : ∃ ρ', XL (LF F) h₀ X₀ b_law [(90, .lst (ns.map .int))] none (ρ', none, .ret (.bool true)) := by
  obtain ⟨T1, i, t1, i1, hi, p1, l1⟩ := tab_at H.hc H.ha1
  obtain ⟨T2, j, t2, i2, hj, p2, l2⟩ := tab_at H.hc H.ha2
  obtain ⟨ρ', hr⟩ := run2_gives (run2_is H.hc hi hj)
  refine ⟨ρ', ?_⟩
  rw [law_split]
  refine xl_cons (stage0 H) (xl_cons (stage1 H) (xl_cons (stage2 H) (xl_cons (stage3 H) (xl_cons (stage4 H) (xl_cons (stage5 H) (xl_cons (stage6 H) (xl_cons (stage7 H) (xl_cons (stage8 H hX) (xl_cons (stage9 H t1 t2) (xl_cons (stage10 H t1 t2 p1 p2) (xl_cons (stage11 H i1 i2 hi hj) (xl_cons (stage12 H hi hj) (xl_cons (stage13 H t1 t2 i1 i2 hi hj) ?_)))))))))))))
  refine xl_weak (ρ' := rhoT c i j (.lst [.str T1, .str T2])) ?_ ?_
  · refine xl_app (F := LF F) H.hy H.n hX H.hi (run1_is H.hc hi hj _) (xl_cons (stage17 (T2 := T2) H rfl t1 i1 hi l1) (xl_weak (ρ' := rhoU c i j) (xl_ex (F := LF F) H.hy H.n hX H.hi hr) ?_))
    exact SubR.cons rfl (SubR.cons rfl (SubR.cons rfl SubR.nil))
  · exact SubR.cons rfl (SubR.cons rfl (SubR.cons rfl (SubR.cons rfl (SubR.cons rfl (SubR.cons rfl SubR.nil)))))
end
theorem fm_range (d : Int) (n : Nat) (hn : 0 < n) : ∃ a : Nat, a < n ∧ d.fmod (n : Nat) = (a : Int) := by
  rw [fm hn]
  have h1 := Int.emod_nonneg d (b := (n : Int)) (by omega)
  have h2 := Int.emod_lt_of_pos d (b := (n : Int)) (by omega)
  exact ⟨(d % (n : Int)).toNat, by omega, by omega⟩
theorem ints_rd' {sg : Nat} {h : Heap} {X : Av} {vs : List Value} {ns : List Int} (hi : IntsAre vs ns) : RdL sg h X vs (ns.map .int) := ints_rd hi
/-- the law's call -/
theorem law_call {prog : Program} {w : World} {A : Around} {B : Heap} {fa a : Addr} {s : Shared} {vs : List Value} {ns : List Int} (b : Base prog w B) (bi : InitOk prog w B) (hchr : GlobV B (nm 29) (.builtin "chr")) (hlaw : FnAt B fa p_law n_law b_law.toL) (hA : AOk 6 A)
    (hB : Ext B s.heap) (hn : ns.length ≤ 63) (hl : PL s.heap a vs) (hi : IntsAre vs ns) :
    wpAny (model prog w) A (call (.ref fa) [.ref a]) (fun v s' => v = .bool true ∧ Ext s.heap s'.heap ∧ s'.os = s.os ∧ s'.gens = s.gens) (fun _ _ => False) s := by
  obtain ⟨c, hc, h0⟩ := fm_range (drawZ ns 0 0) 3 (by decide)
  obtain ⟨z, hz, hs8⟩ := fm_range (drawZ ns 3 18) 8 (by decide)
  obtain ⟨g, hg, hsg⟩ := fm_range ((drawZ ns 3 18).fdiv 8) 50000 (by decide)
  have hN : 0 < numC c := by rcases c_is hc with rfl | rfl | rfl <;> decide
  obtain ⟨a1, ha1, h1⟩ := fm_range (drawZ ns 1 11) (numC c) hN
  obtain ⟨a2, ha2, h2⟩ := fm_range (drawZ ns 2 13) (numC c) hN
  have hs : SgOk (35 + g) := ⟨by omega, by omega⟩
  have key := enter (F := ⟨35 + g, prog, w, A, B, [], default, fun _ => False, []⟩) (k := 5) hlaw hA b.lim (ds := [.lst (ns.map .int)]) rfl (s := s) (vs := [.ref a]) (Q := fun v s' => v = .bool true ∧ Ext s.heap s'.heap ∧ s'.os = s.os ∧ s'.gens = s.gens) (E := fun _ _ => False) hB (fun b q => q.elim) (fun b q => q.elim)
    (.cons (.lst (fun q => q) hl (ints_rd hi)) .nil)
  refine key fun env X' h₁ tk kk ok nf hsub hsub2 hint hA2 E' => ?_
  have hy := (hyp_orc (F := ⟨35 + g, prog, w, A, B, [], default, fun _ => False, []⟩) hs 5 (A.deeper env) b hA2).to n_law env X' [(90, .lst (ns.map .int))]
  have H : LH ⟨35 + g, prog, w, A.deeper env, B, n_law, env, X', [(90, .lst (ns.map .int))]⟩ s.heap ns c z a1 a2 :=
    { b := b, bi := bi, hy := hy, n := nf, hi := hint, chr := hchr, len := hn, sg := (by rw [show (8 : Int) = ((8 : Nat) : Int) from rfl, show (50000 : Int) = ((50000 : Nat) : Int) from rfl] at *; rw [hsg]; push_cast; rfl), hc := hc, h0 := h0, hs := hz, hs8 := hs8, ha1 := ha1, h1 := h1, ha2 := ha2, h2 := h2 }
  obtain ⟨ρ', hx⟩ := law_list (X₀ := fun _ => False) H (fun b q => q.elim)
  refine hx.xv (fun _ => False) { s with heap := h₁, toks := tk } ⟨fun b q => q.elim, kk, ?_⟩ _ _ fun fl h' tk' so' kp hfl => ?_
  · exact EOk.less ok (fun b q => q.elim id False.elim) (.inl nf.xl) fun y c e => .inl (nf.xc y c e)
  · cases fl with
    | ret v =>
      have hr : Rd (35 + g) h' (fun _ => False) v (.bool true) := hfl
      cases hr
      exact ⟨rfl, so'.ext, rfl, rfl⟩
    | _ => exact hfl.elim
end Mine

namespace Mine
/-! the start heap -/
theorem glob_at {h : Heap} {a : Addr} {mg : Str → Option Value} {o : Obj} {es : Array DictEntry} {ep : Nat} (g : h.Ns a mg) (ho : h.get? a = some o) (hd : o.data = .dict es ep) (x : Str) : mg x = nsFind es x := by
  obtain ⟨o', es', ep', ho', hd', _, hf⟩ := g
  rw [ho] at ho'
  cases ho'
  rw [hd] at hd'
  cases hd'
  exact (hf x).symm
theorem GlobV.top {h : Heap} {mg : Str → Option Value} {x : Str} {v : Value} (g : h.Ns 3 mg) (e : mg x = some v) : GlobV h x v := .inl ⟨mg, g, e⟩
theorem GlobV.blt {h : Heap} {mg mb : Str → Option Value} {x : Str} {v : Value} (g : h.Ns 3 mg) (e : mg x = none) (gb : h.Ns 0 mb) (e2 : mb x = some v) : GlobV h x v := .inr ⟨mg, mb, g, e, gb, e2⟩
/-- a function of the program, as an object of the start heap -/
theorem fnOk_of {B : Heap} {fa : Addr} {fn : Fn} {o : Obj} {fd : FuncData} (h1 : B.get? fa = some o) (h2 : o.data = .func fd) (h3 : B.CodeRec fd.code fd.qualname) (h4 : fd.body = .stmts fn.body.toL) (h5 : ∀ vs : List Value, vs.length = fn.ps.length → bindArgs fd ⟨vs, []⟩ = pure ((fn.ps.map nm).zip vs))
    (h6 : fd.closure = []) (h7 : fd.scope.names = nmap fn.nk) (h8 : fd.scope.kind = .function) (h9 : fd.scope.isCoroutine = false) (h10 : fd.scope.isGenerator = false) (h11 : fd.globals = 3) (h12 : fd.builtins = 0) (h13 : psOk fn.nk fn.ps = true) (h14 : noFree fn.nk = true) : FnOk B fa fn :=
  ⟨o, fd, h1, h2, h3, h4, h5, h6, h7, h8, h9, h10, h11, h12, h13, h14⟩
theorem rec_of {B : Heap} {c : Addr} {o : Obj} {vs : Array Value} {q : Str} {t : Tok} (h1 : B.get? c = some o) (h2 : o.data = .fields vs) (h3 : vs[1]? = some (.str q t)) : B.CodeRec (.ref c) q := ⟨c, o, vs, t, rfl, h1, h2, h3⟩
theorem len0 {P : List Value → Prop} (h : P []) (vs : List Value) (e : vs.length = 0) : P vs := by
  rw [List.length_eq_zero_iff.mp e]; exact h
theorem len1 {P : List Value → Prop} (h : ∀ a, P [a]) (vs : List Value) (e : vs.length = 1) : P vs := by
  obtain ⟨a, rfl⟩ := List.length_eq_one_iff.mp e; exact h a
theorem len2 {P : List Value → Prop} (h : ∀ a b, P [a, b]) (vs : List Value) (e : vs.length = 2) : P vs := by
  cases vs with
  | nil => cases e
  | cons a l => exact len1 (P := fun l => P (a :: l)) (h a) l (Nat.succ.inj e)
theorem len3 {P : List Value → Prop} (h : ∀ a b c, P [a, b, c]) (vs : List Value) (e : vs.length = 3) : P vs := by
  cases vs with
  | nil => cases e
  | cons a l => exact len2 (P := fun l => P (a :: l)) (h a) l (Nat.succ.inj e)
theorem fns_all {P : Nat → Fn → Prop} (h : ∀ p ∈ fns, P p.1 p.2) (f : Nat) (fn : Fn) (e : fnAt fns f = some fn) : P f fn := h _ (fnAt_mem e)
noncomputable def strKeysB (es : Array DictEntry) : Bool := es.toList.all fun e => match e.key with | .str .. => true | _ => false
theorem strKeys_of {es : Array DictEntry} (h : strKeysB es = true) : StrKeys es := fun e he => by
  have z := List.all_eq_true.mp h e (Array.mem_toList_iff.mpr he)
  split at z
  · rename_i n t q; exact ⟨n, t, q⟩
  · cases z
theorem ns_of {h : Heap} {a : Addr} {o : Obj} {es : Array DictEntry} {ep : Nat} (h1 : h.get? a = some o) (h2 : o.data = .dict es ep) (h3 : strKeysB es = true) : h.Ns a (nsFind es) := ⟨o, es, ep, h1, h2, strKeys_of h3, fun _ => rfl⟩
end Mine

namespace Mine
/-! the table of flags, as an object -/
noncomputable def entB : List DictEntry → List (Int × List Nat) → Bool
  | [], [] => true
  | e :: es, (i, t) :: l => (match e.key with | .int j _ => decide (j = i) | _ => false) && decide (e.hash = hashInt i) && (match e.val with | .str ⟨⟨x⟩⟩ _ => eqNats x t | _ => false) && entB es l
  | _, _ => false
noncomputable def kvsOf : List DictEntry → List (Int × List Nat) → List (Int × Value)
  | e :: es, (i, _) :: l => (i, e.val) :: kvsOf es l
  | _, _ => []
theorem ent_cons {e : DictEntry} {es : List DictEntry} {i : Int} {t : List Nat} {l : List (Int × List Nat)} (h : entB (e :: es) ((i, t) :: l) = true) : Value.isInt i e.key = true ∧ e.hash = hashInt i ∧ (∃ u, e.val = .str ⟨⟨t⟩⟩ u) ∧ entB es l = true := by
  unfold entB at h
  obtain ⟨h, h4⟩ := Bool.and_eq_true_iff.mp h
  obtain ⟨h, h3⟩ := Bool.and_eq_true_iff.mp h
  obtain ⟨h1, h2⟩ := Bool.and_eq_true_iff.mp h
  refine ⟨?_, of_decide_eq_true h2, ?_, h4⟩
  · split at h1
    · rename_i j u q
      rw [q]
      show (j == i) = true
      rw [of_decide_eq_true h1, beq_self_eq_true]
    · cases h1
  · split at h3
    · rename_i x u q
      rw [eqNats_eq, beq_iff_eq] at h3
      rw [q, h3]; exact ⟨u, rfl⟩
    · cases h3
theorem ent_keys {prog : Program} {w : World} : ∀ (es : List DictEntry) (l : List (Int × List Nat)), entB es l = true → ∀ e ∈ es, ∃ k, (intKind prog w).is k e.key = true ∧ e.hash = (intKind prog w).hash k
  | e :: es, (i, t) :: l, h, x, m => by
    obtain ⟨h1, h2, _, h4⟩ := ent_cons h
    rcases List.mem_cons.mp m with q | m
    · rw [q]; exact ⟨i, h1, h2⟩
    · exact ent_keys es l h4 x m
  | [], _, _, _, m => by cases m
  | _ :: _, [], h, _, _ => by cases h
theorem ent_pairs {prog : Program} {w : World} : ∀ (es : List DictEntry) (l : List (Int × List Nat)), entB es l = true → Pairs (intKind prog w) es (kvsOf es l)
  | e :: es, (i, t) :: l, h => by
    obtain ⟨h1, h2, _, h4⟩ := ent_cons h
    exact .cons h1 rfl (ent_pairs es l h4)
  | [], [], _ => .nil
  | [], _ :: _, h => by cases h
  | _ :: _, [], h => by cases h
theorem ent_flat : ∀ (es : List DictEntry) (l : List (Int × List Nat)), entB es l = true → PyProof.V.FlatPairs PyData.int (kvsOf es l) ((l.map fun e => (e.1, PyData.str ⟨⟨e.2⟩⟩)).map fun p => (PyData.int p.1, p.2))
  | e :: es, (i, t) :: l, h => by
    obtain ⟨_, _, ⟨u, h3⟩, h4⟩ := ent_cons h
    refine .cons ?_ (ent_flat es l h4)
    rw [h3]
    exact PyProof.V.Flat.str _ _
  | [], [], _ => .nil
  | [], _ :: _, h => by cases h
  | _ :: _, [], h => by cases h
theorem ent_map : ∀ (es : List DictEntry) (l : List (Int × List Nat)), entB es l = true → (kvsOf es l).map (·.1) = l.map (·.1)
  | e :: es, (i, t) :: l, h => by
    obtain ⟨_, _, _, h4⟩ := ent_cons h
    show i :: (kvsOf es l).map (·.1) = i :: l.map (·.1)
    rw [ent_map es l h4]
  | [], [], _ => rfl
  | [], _ :: _, h => by cases h
  | _ :: _, [], h => by cases h
theorem flagTab_of {prog : Program} {w : World} {h : Heap} {o : Obj} {es : Array DictEntry} {ep : Nat} (ho : h.get? 88 = some o) (hx : o.ExactDict) (hd : o.data = .dict es ep) (hb : entB es.toList flagTab = true) : IntTab prog w h 88 tabD :=
  TabAt.ofObj (kvs := kvsOf es.toList flagTab) (by decide) ho ⟨es, ep, hx, hd, fun e he => ent_keys _ _ hb e (Array.mem_toList_iff.mpr he), ent_pairs _ _ hb, by rw [ent_map _ _ hb]; decide⟩ (ent_flat _ _ hb)
theorem nas_of {es : Array DictEntry} (h : attrL.all (fun x => (nsFind es x).isNone) = true) : ∀ x ∈ attrL, nsFind es x = none := fun x hx => Option.isNone_iff_eq_none.mp (List.all_eq_true.mp h x hx)
theorem biAt_mem : ∀ {l : List (Nat × Bi)} {x : Nat} {f : Bi}, biAt l x = some f → (x, f) ∈ l
  | (y, b) :: r, x, f, h => by
    unfold biAt at h
    split at h
    · rename_i e
      cases h
      rw [Nat.eq_of_beq_eq_true e]; exact List.mem_cons_self
    · exact List.mem_cons_of_mem _ (biAt_mem h)
theorem bi_all {P : Nat → Bi → Prop} (h : ∀ p ∈ biTab, P p.1 p.2) (f : Nat) (b : Bi) (e : biAt biTab f = some b) : P f b := h _ (biAt_mem e)
end Mine

namespace Mine
/-! the part of the start heap that the proof reads (printed by genkb.py) -/
noncomputable def ko2 (p : Params) : Obj := { cls := Value.none, data := Data.dict #[{ hash := PyData.keyHash p ⟨⟨[116, 121, 112, 101, 46, 95, 95, 115, 117, 98, 99, 108, 97, 115, 115, 101, 115, 95, 95, 46, 69, 120, 99, 101, 112, 116, 105, 111, 110, 46, 48]⟩⟩, key := Value.str ⟨⟨[116, 121, 112, 101, 46, 95, 95, 115, 117, 98, 99, 108, 97, 115, 115, 101, 115, 95, 95, 46, 69, 120, 99, 101, 112, 116, 105, 111, 110, 46, 48]⟩⟩ 358, val := Value.int 105 0 }, { hash := PyData.keyHash p ⟨⟨[116, 121, 112, 101, 46, 95, 95, 115, 117, 98, 99, 108, 97, 115, 115, 101, 115, 95, 95, 46, 69, 120, 99, 101, 112, 116, 105, 111, 110, 46, 110]⟩⟩, key := Value.str ⟨⟨[116, 121, 112, 101, 46, 95, 95, 115, 117, 98, 99, 108, 97, 115, 115, 101, 115, 95, 95, 46, 69, 120, 99, 101, 112, 116, 105, 111, 110, 46, 110]⟩⟩ 359, val := Value.int 1 0 }] 2 }
noncomputable def ko3 (p : Params) : Obj := { cls := Value.type "dict", data := Data.dict #[{ hash := PyData.keyHash p ⟨⟨[95, 95, 110, 97, 109, 101, 95, 95]⟩⟩, key := Value.str ⟨⟨[95, 95, 110, 97, 109, 101, 95, 95]⟩⟩ 165, val := Value.str ⟨⟨[108, 97, 119, 95, 116, 121, 48, 48, 50, 55, 95, 48, 49]⟩⟩ 389 }, { hash := PyData.keyHash p ⟨⟨[95, 95, 100, 111, 99, 95, 95]⟩⟩, key := Value.str ⟨⟨[95, 95, 100, 111, 99, 95, 95]⟩⟩ 166, val := Value.none }, { hash := PyData.keyHash p ⟨⟨[95, 95, 112, 97, 99, 107, 97, 103, 101, 95, 95]⟩⟩, key := Value.str ⟨⟨[95, 95, 112, 97, 99, 107, 97, 103, 101, 95, 95]⟩⟩ 167, val := Value.none }, { hash := PyData.keyHash p ⟨⟨[95, 95, 108, 111, 97, 100, 101, 114, 95, 95]⟩⟩, key := Value.str ⟨⟨[95, 95, 108, 111, 97, 100, 101, 114, 95, 95]⟩⟩ 168, val := Value.builtin "__main__.__loader__#opaque" }, { hash := PyData.keyHash p ⟨⟨[95, 95, 115, 112, 101, 99, 95, 95]⟩⟩, key := Value.str ⟨⟨[95, 95, 115, 112, 101, 99, 95, 95]⟩⟩ 169, val := Value.none }, { hash := PyData.keyHash p ⟨⟨[95, 95, 97, 110, 110, 111, 116, 97, 116, 105, 111, 110, 115, 95, 95]⟩⟩, key := Value.str ⟨⟨[95, 95, 97, 110, 110, 111, 116, 97, 116, 105, 111, 110, 115, 95, 95]⟩⟩ 170, val := Value.ref 6 }, { hash := PyData.keyHash p ⟨⟨[95, 95, 98, 117, 105, 108, 116, 105, 110, 115, 95, 95]⟩⟩, key := Value.str ⟨⟨[95, 95, 98, 117, 105, 108, 116, 105, 110, 115, 95, 95]⟩⟩ 171, val := Value.ref 4 }, { hash := PyData.keyHash p ⟨⟨[95, 95, 102, 105, 108, 101, 95, 95]⟩⟩, key := Value.str ⟨⟨[95, 95, 102, 105, 108, 101, 95, 95]⟩⟩ 173, val := Value.str ⟨⟨[47, 99, 108, 97, 105, 109, 47, 99, 117, 116, 46, 112, 121]⟩⟩ 172 }, { hash := PyData.keyHash p ⟨⟨[95, 95, 99, 97, 99, 104, 101, 100, 95, 95]⟩⟩, key := Value.str ⟨⟨[95, 95, 99, 97, 99, 104, 101, 100, 95, 95]⟩⟩ 174, val := Value.none }, { hash := PyData.keyHash p ⟨⟨[95, 119, 97, 108, 108]⟩⟩, key := Value.str ⟨⟨[95, 119, 97, 108, 108]⟩⟩ 193, val := Value.ref 21 }, { hash := PyData.keyHash p ⟨⟨[87, 104, 105, 116, 101, 115, 112, 97, 99, 101]⟩⟩, key := Value.str ⟨⟨[87, 104, 105, 116, 101, 115, 112, 97, 99, 101]⟩⟩ 296, val := Value.ref 83 }, { hash := PyData.keyHash p ⟨⟨[67, 79, 77, 80, 73, 76, 69, 82, 95, 70, 76, 65, 71, 95, 78, 65, 77, 69, 83]⟩⟩, key := Value.str ⟨⟨[67, 79, 77, 80, 73, 76, 69, 82, 95, 70, 76, 65, 71, 95, 78, 65, 77, 69, 83]⟩⟩ 329, val := Value.ref 88 }, { hash := PyData.keyHash p ⟨⟨[112, 114, 101, 116, 116, 121, 95, 102, 108, 97, 103, 115]⟩⟩, key := Value.str ⟨⟨[112, 114, 101, 116, 116, 121, 95, 102, 108, 97, 103, 115]⟩⟩ 339, val := Value.ref 95 }, { hash := PyData.keyHash p ⟨⟨[69, 114, 114, 111, 114]⟩⟩, key := Value.str ⟨⟨[69, 114, 114, 111, 114]⟩⟩ 361, val := Value.ref 105 }, { hash := PyData.keyHash p ⟨⟨[101, 114, 114, 111, 114, 95, 114, 101, 112, 108, 121]⟩⟩, key := Value.str ⟨⟨[101, 114, 114, 111, 114, 95, 114, 101, 112, 108, 121]⟩⟩ 377, val := Value.ref 118 }, { hash := PyData.keyHash p ⟨⟨[112, 97, 114, 115, 101, 50, 53, 55]⟩⟩, key := Value.str ⟨⟨[112, 97, 114, 115, 101, 50, 53, 55]⟩⟩ 388, val := Value.ref 127 }, { hash := PyData.keyHash p ⟨⟨[95, 108, 97, 119, 95, 110, 97, 109, 101, 115]⟩⟩, key := Value.str ⟨⟨[95, 108, 97, 119, 95, 110, 97, 109, 101, 115]⟩⟩ 396, val := Value.ref 134 }, { hash := PyData.keyHash p ⟨⟨[95, 108, 97, 119, 95, 114, 101, 97, 100]⟩⟩, key := Value.str ⟨⟨[95, 108, 97, 119, 95, 114, 101, 97, 100]⟩⟩ 406, val := Value.ref 141 }, { hash := PyData.keyHash p ⟨⟨[95, 108, 97, 119, 95, 110, 97, 109, 101, 100]⟩⟩, key := Value.str ⟨⟨[95, 108, 97, 119, 95, 110, 97, 109, 101, 100]⟩⟩ 412, val := Value.ref 146 }, { hash := PyData.keyHash p ⟨⟨[95, 108, 97, 119, 95, 116, 121, 112, 101, 100]⟩⟩, key := Value.str ⟨⟨[95, 108, 97, 119, 95, 116, 121, 112, 101, 100]⟩⟩ 418, val := Value.ref 151 }, { hash := PyData.keyHash p ⟨⟨[95, 108, 97, 119, 95, 111, 112, 101, 110, 101, 100]⟩⟩, key := Value.str ⟨⟨[95, 108, 97, 119, 95, 111, 112, 101, 110, 101, 100]⟩⟩ 424, val := Value.ref 156 }, { hash := PyData.keyHash p ⟨⟨[95, 108, 97, 119, 95, 115, 101, 101, 110]⟩⟩, key := Value.str ⟨⟨[95, 108, 97, 119, 95, 115, 101, 101, 110]⟩⟩ 433, val := Value.ref 163 }, { hash := PyData.keyHash p ⟨⟨[95, 108, 97, 119, 95, 114, 117, 110, 115]⟩⟩, key := Value.str ⟨⟨[95, 108, 97, 119, 95, 114, 117, 110, 115]⟩⟩ 447, val := Value.ref 170 }, { hash := PyData.keyHash p ⟨⟨[95, 108, 97, 119, 95, 99, 111, 108, 117, 109, 110]⟩⟩, key := Value.str ⟨⟨[95, 108, 97, 119, 95, 99, 111, 108, 117, 109, 110]⟩⟩ 453, val := Value.ref 175 }, { hash := PyData.keyHash p ⟨⟨[95, 108, 97, 119, 95, 108, 111, 110, 103, 101, 115, 116]⟩⟩, key := Value.str ⟨⟨[95, 108, 97, 119, 95, 108, 111, 110, 103, 101, 115, 116]⟩⟩ 462, val := Value.ref 182 }, { hash := PyData.keyHash p ⟨⟨[95, 108, 97, 119, 95, 119, 105, 116, 110, 101, 115, 115, 101, 115]⟩⟩, key := Value.str ⟨⟨[95, 108, 97, 119, 95, 119, 105, 116, 110, 101, 115, 115, 101, 115]⟩⟩ 468, val := Value.ref 187 }, { hash := PyData.keyHash p ⟨⟨[108, 97, 119]⟩⟩, key := Value.str ⟨⟨[108, 97, 119]⟩⟩ 474, val := Value.ref 192 }] 27 }
noncomputable def ko37 (p : Params) : Obj := { cls := Value.type "code", data := Data.fields #[Value.str ⟨⟨[95, 95, 105, 110, 105, 116, 95, 95]⟩⟩ 213, Value.str ⟨⟨[87, 104, 105, 116, 101, 115, 112, 97, 99, 101, 46, 95, 95, 105, 110, 105, 116, 95, 95]⟩⟩ 214, Value.str ⟨⟨[47, 99, 108, 97, 105, 109, 47, 99, 117, 116, 46, 112, 121]⟩⟩ 215, Value.int 8 0, Value.int 2 0, Value.int 0 0, Value.int 0 0, Value.int 3 0, Value.ref 32, Value.bool true, Value.int 181 0, Value.ref 33, Value.none, Value.ref 34, Value.ref 35, Value.ref 36, Value.int 225 0, Value.int 8 0, Value.str ⟨⟨[47, 99, 108, 97, 105, 109, 47, 99, 117, 116, 46, 112, 121]⟩⟩ 226] }
noncomputable def ko38 (p : Params) : Obj := { cls := Value.type "function", data := Data.func { name := ⟨⟨[95, 95, 105, 110, 105, 116, 95, 95]⟩⟩, qualname := ⟨⟨[87, 104, 105, 116, 101, 115, 112, 97, 99, 101, 46, 95, 95, 105, 110, 105, 116, 95, 95]⟩⟩, params := { posonlyargs := [], args := [{ arg := ⟨⟨[115, 101, 108, 102]⟩⟩, annotation := none, pos := ⟨8, 17, 8, 21⟩ }, { arg := ⟨⟨[119, 115]⟩⟩, annotation := none, pos := ⟨8, 23, 8, 25⟩ }], vararg := none, kwonlyargs := [], kw_defaults := [], kwarg := none, defaults := [] }, body := FuncBody.stmts (initBody), scope := { kind := ScopeKind.function, names := (nmap n_init), isGenerator := false, isCoroutine := false }, globals := 3, closure := [], defaults := Value.none, kwdefaults := Value.none, pyModule := Value.str ⟨⟨[99, 112, 121, 51, 49, 51, 46, 116, 97, 98, 110, 97, 110, 110, 121]⟩⟩ 194, code := Value.ref 37 } }
noncomputable def ko44 (p : Params) : Obj := { cls := Value.type "code", data := Data.fields #[Value.str ⟨⟨[108, 111, 110, 103, 101, 115, 116, 95, 114, 117, 110, 95, 111, 102, 95, 115, 112, 97, 99, 101, 115]⟩⟩ 228, Value.str ⟨⟨[87, 104, 105, 116, 101, 115, 112, 97, 99, 101, 46, 108, 111, 110, 103, 101, 115, 116, 95, 114, 117, 110, 95, 111, 102, 95, 115, 112, 97, 99, 101, 115]⟩⟩ 229, Value.str ⟨⟨[47, 99, 108, 97, 105, 109, 47, 99, 117, 116, 46, 112, 121]⟩⟩ 230, Value.int 31 0, Value.int 1 0, Value.int 0 0, Value.int 0 0, Value.int 3 0, Value.ref 39, Value.bool true, Value.int 181 0, Value.ref 40, Value.none, Value.ref 41, Value.ref 42, Value.ref 43, Value.int 234 0, Value.int 31 0, Value.str ⟨⟨[47, 99, 108, 97, 105, 109, 47, 99, 117, 116, 46, 112, 121]⟩⟩ 235] }
noncomputable def ko45 (p : Params) : Obj := { cls := Value.type "function", data := Data.func { name := ⟨⟨[108, 111, 110, 103, 101, 115, 116, 95, 114, 117, 110, 95, 111, 102, 95, 115, 112, 97, 99, 101, 115]⟩⟩, qualname := ⟨⟨[87, 104, 105, 116, 101, 115, 112, 97, 99, 101, 46, 108, 111, 110, 103, 101, 115, 116, 95, 114, 117, 110, 95, 111, 102, 95, 115, 112, 97, 99, 101, 115]⟩⟩, params := { posonlyargs := [], args := [{ arg := ⟨⟨[115, 101, 108, 102]⟩⟩, annotation := none, pos := ⟨31, 30, 31, 34⟩ }], vararg := none, kwonlyargs := [], kw_defaults := [], kwarg := none, defaults := [] }, body := FuncBody.stmts (b_longest_run_of_spaces.toL), scope := { kind := ScopeKind.function, names := (nmap n_longest_run_of_spaces), isGenerator := false, isCoroutine := false }, globals := 3, closure := [], defaults := Value.none, kwdefaults := Value.none, pyModule := Value.str ⟨⟨[99, 112, 121, 51, 49, 51, 46, 116, 97, 98, 110, 97, 110, 110, 121]⟩⟩ 194, code := Value.ref 44 } }
noncomputable def ko51 (p : Params) : Obj := { cls := Value.type "code", data := Data.fields #[Value.str ⟨⟨[105, 110, 100, 101, 110, 116, 95, 108, 101, 118, 101, 108]⟩⟩ 237, Value.str ⟨⟨[87, 104, 105, 116, 101, 115, 112, 97, 99, 101, 46, 105, 110, 100, 101, 110, 116, 95, 108, 101, 118, 101, 108]⟩⟩ 238, Value.str ⟨⟨[47, 99, 108, 97, 105, 109, 47, 99, 117, 116, 46, 112, 121]⟩⟩ 239, Value.int 35 0, Value.int 2 0, Value.int 0 0, Value.int 0 0, Value.int 3 0, Value.ref 46, Value.bool true, Value.int 181 0, Value.ref 47, Value.none, Value.ref 48, Value.ref 49, Value.ref 50, Value.int 246 0, Value.int 35 0, Value.str ⟨⟨[47, 99, 108, 97, 105, 109, 47, 99, 117, 116, 46, 112, 121]⟩⟩ 247] }
noncomputable def ko52 (p : Params) : Obj := { cls := Value.type "function", data := Data.func { name := ⟨⟨[105, 110, 100, 101, 110, 116, 95, 108, 101, 118, 101, 108]⟩⟩, qualname := ⟨⟨[87, 104, 105, 116, 101, 115, 112, 97, 99, 101, 46, 105, 110, 100, 101, 110, 116, 95, 108, 101, 118, 101, 108]⟩⟩, params := { posonlyargs := [], args := [{ arg := ⟨⟨[115, 101, 108, 102]⟩⟩, annotation := none, pos := ⟨35, 21, 35, 25⟩ }, { arg := ⟨⟨[116, 97, 98, 115, 105, 122, 101]⟩⟩, annotation := none, pos := ⟨35, 27, 35, 34⟩ }], vararg := none, kwonlyargs := [], kw_defaults := [], kwarg := none, defaults := [] }, body := FuncBody.stmts (b_indent_level.toL), scope := { kind := ScopeKind.function, names := (nmap n_indent_level), isGenerator := false, isCoroutine := false }, globals := 3, closure := [], defaults := Value.none, kwdefaults := Value.none, pyModule := Value.str ⟨⟨[99, 112, 121, 51, 49, 51, 46, 116, 97, 98, 110, 97, 110, 110, 121]⟩⟩ 194, code := Value.ref 51 } }
noncomputable def ko58 (p : Params) : Obj := { cls := Value.type "code", data := Data.fields #[Value.str ⟨⟨[101, 113, 117, 97, 108]⟩⟩ 249, Value.str ⟨⟨[87, 104, 105, 116, 101, 115, 112, 97, 99, 101, 46, 101, 113, 117, 97, 108]⟩⟩ 250, Value.str ⟨⟨[47, 99, 108, 97, 105, 109, 47, 99, 117, 116, 46, 112, 121]⟩⟩ 251, Value.int 42 0, Value.int 2 0, Value.int 0 0, Value.int 0 0, Value.int 3 0, Value.ref 53, Value.bool true, Value.int 181 0, Value.ref 54, Value.none, Value.ref 55, Value.ref 56, Value.ref 57, Value.int 254 0, Value.int 42 0, Value.str ⟨⟨[47, 99, 108, 97, 105, 109, 47, 99, 117, 116, 46, 112, 121]⟩⟩ 255] }
noncomputable def ko59 (p : Params) : Obj := { cls := Value.type "function", data := Data.func { name := ⟨⟨[101, 113, 117, 97, 108]⟩⟩, qualname := ⟨⟨[87, 104, 105, 116, 101, 115, 112, 97, 99, 101, 46, 101, 113, 117, 97, 108]⟩⟩, params := { posonlyargs := [], args := [{ arg := ⟨⟨[115, 101, 108, 102]⟩⟩, annotation := none, pos := ⟨42, 14, 42, 18⟩ }, { arg := ⟨⟨[111, 116, 104, 101, 114]⟩⟩, annotation := none, pos := ⟨42, 20, 42, 25⟩ }], vararg := none, kwonlyargs := [], kw_defaults := [], kwarg := none, defaults := [] }, body := FuncBody.stmts (b_equal.toL), scope := { kind := ScopeKind.function, names := (nmap n_equal), isGenerator := false, isCoroutine := false }, globals := 3, closure := [], defaults := Value.none, kwdefaults := Value.none, pyModule := Value.str ⟨⟨[99, 112, 121, 51, 49, 51, 46, 116, 97, 98, 110, 97, 110, 110, 121]⟩⟩ 194, code := Value.ref 58 } }
noncomputable def ko65 (p : Params) : Obj := { cls := Value.type "code", data := Data.fields #[Value.str ⟨⟨[110, 111, 116, 95, 101, 113, 117, 97, 108, 95, 119, 105, 116, 110, 101, 115, 115]⟩⟩ 257, Value.str ⟨⟨[87, 104, 105, 116, 101, 115, 112, 97, 99, 101, 46, 110, 111, 116, 95, 101, 113, 117, 97, 108, 95, 119, 105, 116, 110, 101, 115, 115]⟩⟩ 258, Value.str ⟨⟨[47, 99, 108, 97, 105, 109, 47, 99, 117, 116, 46, 112, 121]⟩⟩ 259, Value.int 45 0, Value.int 2 0, Value.int 0 0, Value.int 0 0, Value.int 3 0, Value.ref 60, Value.bool true, Value.int 181 0, Value.ref 61, Value.none, Value.ref 62, Value.ref 63, Value.ref 64, Value.int 265 0, Value.int 45 0, Value.str ⟨⟨[47, 99, 108, 97, 105, 109, 47, 99, 117, 116, 46, 112, 121]⟩⟩ 266] }
noncomputable def ko66 (p : Params) : Obj := { cls := Value.type "function", data := Data.func { name := ⟨⟨[110, 111, 116, 95, 101, 113, 117, 97, 108, 95, 119, 105, 116, 110, 101, 115, 115]⟩⟩, qualname := ⟨⟨[87, 104, 105, 116, 101, 115, 112, 97, 99, 101, 46, 110, 111, 116, 95, 101, 113, 117, 97, 108, 95, 119, 105, 116, 110, 101, 115, 115]⟩⟩, params := { posonlyargs := [], args := [{ arg := ⟨⟨[115, 101, 108, 102]⟩⟩, annotation := none, pos := ⟨45, 26, 45, 30⟩ }, { arg := ⟨⟨[111, 116, 104, 101, 114]⟩⟩, annotation := none, pos := ⟨45, 32, 45, 37⟩ }], vararg := none, kwonlyargs := [], kw_defaults := [], kwarg := none, defaults := [] }, body := FuncBody.stmts (b_not_equal_witness.toL), scope := { kind := ScopeKind.function, names := (nmap n_not_equal_witness), isGenerator := false, isCoroutine := false }, globals := 3, closure := [], defaults := Value.none, kwdefaults := Value.none, pyModule := Value.str ⟨⟨[99, 112, 121, 51, 49, 51, 46, 116, 97, 98, 110, 97, 110, 110, 121]⟩⟩ 194, code := Value.ref 65 } }
noncomputable def ko82 (p : Params) : Obj := { cls := Value.type "dict", data := Data.dict #[{ hash := PyData.keyHash p ⟨⟨[95, 95, 109, 111, 100, 117, 108, 101, 95, 95]⟩⟩, key := Value.str ⟨⟨[95, 95, 109, 111, 100, 117, 108, 101, 95, 95]⟩⟩ 203, val := Value.str ⟨⟨[99, 112, 121, 51, 49, 51, 46, 116, 97, 98, 110, 97, 110, 110, 121]⟩⟩ 194 }, { hash := PyData.keyHash p ⟨⟨[95, 95, 102, 105, 114, 115, 116, 108, 105, 110, 101, 110, 111, 95, 95]⟩⟩, key := Value.str ⟨⟨[95, 95, 102, 105, 114, 115, 116, 108, 105, 110, 101, 110, 111, 95, 95]⟩⟩ 207, val := Value.int 5 206 }, { hash := PyData.keyHash p ⟨⟨[83]⟩⟩, key := Value.str ⟨⟨[83]⟩⟩ 211, val := Value.str ⟨⟨[32]⟩⟩ 209 }, { hash := PyData.keyHash p ⟨⟨[84]⟩⟩, key := Value.str ⟨⟨[84]⟩⟩ 212, val := Value.str ⟨⟨[9]⟩⟩ 210 }, { hash := PyData.keyHash p ⟨⟨[95, 95, 105, 110, 105, 116, 95, 95]⟩⟩, key := Value.str ⟨⟨[95, 95, 105, 110, 105, 116, 95, 95]⟩⟩ 227, val := Value.ref 38 }, { hash := PyData.keyHash p ⟨⟨[108, 111, 110, 103, 101, 115, 116, 95, 114, 117, 110, 95, 111, 102, 95, 115, 112, 97, 99, 101, 115]⟩⟩, key := Value.str ⟨⟨[108, 111, 110, 103, 101, 115, 116, 95, 114, 117, 110, 95, 111, 102, 95, 115, 112, 97, 99, 101, 115]⟩⟩ 236, val := Value.ref 45 }, { hash := PyData.keyHash p ⟨⟨[105, 110, 100, 101, 110, 116, 95, 108, 101, 118, 101, 108]⟩⟩, key := Value.str ⟨⟨[105, 110, 100, 101, 110, 116, 95, 108, 101, 118, 101, 108]⟩⟩ 248, val := Value.ref 52 }, { hash := PyData.keyHash p ⟨⟨[101, 113, 117, 97, 108]⟩⟩, key := Value.str ⟨⟨[101, 113, 117, 97, 108]⟩⟩ 256, val := Value.ref 59 }, { hash := PyData.keyHash p ⟨⟨[110, 111, 116, 95, 101, 113, 117, 97, 108, 95, 119, 105, 116, 110, 101, 115, 115]⟩⟩, key := Value.str ⟨⟨[110, 111, 116, 95, 101, 113, 117, 97, 108, 95, 119, 105, 116, 110, 101, 115, 115]⟩⟩ 267, val := Value.ref 66 }, { hash := PyData.keyHash p ⟨⟨[108, 101, 115, 115]⟩⟩, key := Value.str ⟨⟨[108, 101, 115, 115]⟩⟩ 275, val := Value.ref 73 }, { hash := PyData.keyHash p ⟨⟨[110, 111, 116, 95, 108, 101, 115, 115, 95, 119, 105, 116, 110, 101, 115, 115]⟩⟩, key := Value.str ⟨⟨[110, 111, 116, 95, 108, 101, 115, 115, 95, 119, 105, 116, 110, 101, 115, 115]⟩⟩ 283, val := Value.ref 80 }, { hash := PyData.keyHash p ⟨⟨[95, 95, 115, 116, 97, 116, 105, 99, 95, 97, 116, 116, 114, 105, 98, 117, 116, 101, 115, 95, 95]⟩⟩, key := Value.str ⟨⟨[95, 95, 115, 116, 97, 116, 105, 99, 95, 97, 116, 116, 114, 105, 98, 117, 116, 101, 115, 95, 95]⟩⟩ 289, val := Value.ref 81 }, { hash := PyData.keyHash p ⟨⟨[95, 95, 100, 105, 99, 116, 95, 95]⟩⟩, key := Value.str ⟨⟨[95, 95, 100, 105, 99, 116, 95, 95]⟩⟩ 291, val := Value.ref 84 }, { hash := PyData.keyHash p ⟨⟨[95, 95, 119, 101, 97, 107, 114, 101, 102, 95, 95]⟩⟩, key := Value.str ⟨⟨[95, 95, 119, 101, 97, 107, 114, 101, 102, 95, 95]⟩⟩ 293, val := Value.ref 85 }, { hash := PyData.keyHash p ⟨⟨[95, 95, 100, 111, 99, 95, 95]⟩⟩, key := Value.str ⟨⟨[95, 95, 100, 111, 99, 95, 95]⟩⟩ 294, val := Value.none }] 4 }
noncomputable def ko83 (p : Params) : Obj := { cls := Value.type "type", data := Data.cls { name := ⟨⟨[87, 104, 105, 116, 101, 115, 112, 97, 99, 101]⟩⟩, bases := [Value.type "object"], mro := [Value.ref 83, Value.type "object"], ns := 82, qualname := ⟨⟨[87, 104, 105, 116, 101, 115, 112, 97, 99, 101]⟩⟩ }, slots := #[none, none, some (Value.str ⟨⟨[87, 104, 105, 116, 101, 115, 112, 97, 99, 101]⟩⟩ 196), some (Value.str ⟨⟨[87, 104, 105, 116, 101, 115, 112, 97, 99, 101]⟩⟩ 204), some (Value.builtin "object.__new__"), some (Value.bool true)] }
noncomputable def ko88 (p : Params) : Obj := { cls := Value.type "dict", data := Data.dict #[{ hash := 1, key := Value.int 1 299, val := Value.str ⟨⟨[79, 80, 84, 73, 77, 73, 90, 69, 68]⟩⟩ 300 }, { hash := 2, key := Value.int 2 301, val := Value.str ⟨⟨[78, 69, 87, 76, 79, 67, 65, 76, 83]⟩⟩ 302 }, { hash := 4, key := Value.int 4 303, val := Value.str ⟨⟨[86, 65, 82, 65, 82, 71, 83]⟩⟩ 304 }, { hash := 8, key := Value.int 8 305, val := Value.str ⟨⟨[86, 65, 82, 75, 69, 89, 87, 79, 82, 68, 83]⟩⟩ 306 }, { hash := 16, key := Value.int 16 307, val := Value.str ⟨⟨[78, 69, 83, 84, 69, 68]⟩⟩ 308 }, { hash := 32, key := Value.int 32 309, val := Value.str ⟨⟨[71, 69, 78, 69, 82, 65, 84, 79, 82]⟩⟩ 310 }, { hash := 64, key := Value.int 64 311, val := Value.str ⟨⟨[78, 79, 70, 82, 69, 69]⟩⟩ 312 }, { hash := 128, key := Value.int 128 313, val := Value.str ⟨⟨[67, 79, 82, 79, 85, 84, 73, 78, 69]⟩⟩ 314 }, { hash := 256, key := Value.int 256 315, val := Value.str ⟨⟨[73, 84, 69, 82, 65, 66, 76, 69, 95, 67, 79, 82, 79, 85, 84, 73, 78, 69]⟩⟩ 316 }, { hash := 512, key := Value.int 512 317, val := Value.str ⟨⟨[65, 83, 89, 78, 67, 95, 71, 69, 78, 69, 82, 65, 84, 79, 82]⟩⟩ 318 }] 10 }
noncomputable def ko94 (p : Params) : Obj := { cls := Value.type "code", data := Data.fields #[Value.str ⟨⟨[112, 114, 101, 116, 116, 121, 95, 102, 108, 97, 103, 115]⟩⟩ 330, Value.str ⟨⟨[112, 114, 101, 116, 116, 121, 95, 102, 108, 97, 103, 115]⟩⟩ 331, Value.str ⟨⟨[47, 99, 108, 97, 105, 109, 47, 99, 117, 116, 46, 112, 121]⟩⟩ 332, Value.int 60 0, Value.int 1 0, Value.int 0 0, Value.int 0 0, Value.int 3 0, Value.ref 89, Value.bool true, Value.int 181 0, Value.ref 90, Value.none, Value.ref 91, Value.ref 92, Value.ref 93, Value.int 337 0, Value.int 60 0, Value.str ⟨⟨[47, 99, 108, 97, 105, 109, 47, 99, 117, 116, 46, 112, 121]⟩⟩ 338] }
noncomputable def ko95 (p : Params) : Obj := { cls := Value.type "function", data := Data.func { name := ⟨⟨[112, 114, 101, 116, 116, 121, 95, 102, 108, 97, 103, 115]⟩⟩, qualname := ⟨⟨[112, 114, 101, 116, 116, 121, 95, 102, 108, 97, 103, 115]⟩⟩, params := { posonlyargs := [], args := [{ arg := ⟨⟨[102, 108, 97, 103, 115]⟩⟩, annotation := none, pos := ⟨60, 17, 60, 22⟩ }], vararg := none, kwonlyargs := [], kw_defaults := [], kwarg := none, defaults := [] }, body := FuncBody.stmts (b_pretty_flags.toL), scope := { kind := ScopeKind.function, names := (nmap n_pretty_flags), isGenerator := false, isCoroutine := false }, globals := 3, closure := [], defaults := Value.none, kwdefaults := Value.none, pyModule := Value.str ⟨⟨[99, 112, 121, 51, 49, 51, 46, 100, 105, 115]⟩⟩ 297, code := Value.ref 94 } }
noncomputable def ko126 (p : Params) : Obj := { cls := Value.type "code", data := Data.fields #[Value.str ⟨⟨[112, 97, 114, 115, 101, 50, 53, 55]⟩⟩ 378, Value.str ⟨⟨[112, 97, 114, 115, 101, 50, 53, 55]⟩⟩ 379, Value.str ⟨⟨[47, 99, 108, 97, 105, 109, 47, 99, 117, 116, 46, 112, 121]⟩⟩ 380, Value.int 77 0, Value.int 1 0, Value.int 0 0, Value.int 0 0, Value.int 3 0, Value.ref 121, Value.bool true, Value.int 181 0, Value.ref 122, Value.none, Value.ref 123, Value.ref 124, Value.ref 125, Value.int 386 0, Value.int 77 0, Value.str ⟨⟨[47, 99, 108, 97, 105, 109, 47, 99, 117, 116, 46, 112, 121]⟩⟩ 387] }
noncomputable def ko127 (p : Params) : Obj := { cls := Value.type "function", data := Data.func { name := ⟨⟨[112, 97, 114, 115, 101, 50, 53, 55]⟩⟩, qualname := ⟨⟨[112, 97, 114, 115, 101, 50, 53, 55]⟩⟩, params := { posonlyargs := [], args := [{ arg := ⟨⟨[114, 101, 115, 112]⟩⟩, annotation := none, pos := ⟨77, 13, 77, 17⟩ }], vararg := none, kwonlyargs := [], kw_defaults := [], kwarg := none, defaults := [] }, body := FuncBody.stmts (b_parse257.toL), scope := { kind := ScopeKind.function, names := (nmap n_parse257), isGenerator := false, isCoroutine := false }, globals := 3, closure := [], defaults := Value.none, kwdefaults := Value.none, pyModule := Value.str ⟨⟨[99, 112, 121, 51, 49, 51, 46, 102, 116, 112, 108, 105, 98]⟩⟩ 340, code := Value.ref 126 } }
noncomputable def ko133 (p : Params) : Obj := { cls := Value.type "code", data := Data.fields #[Value.str ⟨⟨[95, 108, 97, 119, 95, 110, 97, 109, 101, 115]⟩⟩ 391, Value.str ⟨⟨[95, 108, 97, 119, 95, 110, 97, 109, 101, 115]⟩⟩ 392, Value.str ⟨⟨[47, 99, 108, 97, 105, 109, 47, 99, 117, 116, 46, 112, 121]⟩⟩ 393, Value.int 95 0, Value.int 0 0, Value.int 0 0, Value.int 0 0, Value.int 3 0, Value.ref 128, Value.bool true, Value.int 181 0, Value.ref 129, Value.none, Value.ref 130, Value.ref 131, Value.ref 132, Value.int 394 0, Value.int 95 0, Value.str ⟨⟨[47, 99, 108, 97, 105, 109, 47, 99, 117, 116, 46, 112, 121]⟩⟩ 395] }
noncomputable def ko134 (p : Params) : Obj := { cls := Value.type "function", data := Data.func { name := ⟨⟨[95, 108, 97, 119, 95, 110, 97, 109, 101, 115]⟩⟩, qualname := ⟨⟨[95, 108, 97, 119, 95, 110, 97, 109, 101, 115]⟩⟩, params := { posonlyargs := [], args := [], vararg := none, kwonlyargs := [], kw_defaults := [], kwarg := none, defaults := [] }, body := FuncBody.stmts (b_law_names.toL), scope := { kind := ScopeKind.function, names := (nmap n_law_names), isGenerator := false, isCoroutine := false }, globals := 3, closure := [], defaults := Value.none, kwdefaults := Value.none, pyModule := Value.str ⟨⟨[108, 97, 119, 95, 116, 121, 48, 48, 50, 55, 95, 48, 49]⟩⟩ 389, code := Value.ref 133 } }
noncomputable def ko140 (p : Params) : Obj := { cls := Value.type "code", data := Data.fields #[Value.str ⟨⟨[95, 108, 97, 119, 95, 114, 101, 97, 100]⟩⟩ 397, Value.str ⟨⟨[95, 108, 97, 119, 95, 114, 101, 97, 100]⟩⟩ 398, Value.str ⟨⟨[47, 99, 108, 97, 105, 109, 47, 99, 117, 116, 46, 112, 121]⟩⟩ 399, Value.int 97 0, Value.int 2 0, Value.int 0 0, Value.int 0 0, Value.int 3 0, Value.ref 135, Value.bool true, Value.int 181 0, Value.ref 136, Value.none, Value.ref 137, Value.ref 138, Value.ref 139, Value.int 404 0, Value.int 97 0, Value.str ⟨⟨[47, 99, 108, 97, 105, 109, 47, 99, 117, 116, 46, 112, 121]⟩⟩ 405] }
noncomputable def ko141 (p : Params) : Obj := { cls := Value.type "function", data := Data.func { name := ⟨⟨[95, 108, 97, 119, 95, 114, 101, 97, 100]⟩⟩, qualname := ⟨⟨[95, 108, 97, 119, 95, 114, 101, 97, 100]⟩⟩, params := { posonlyargs := [], args := [{ arg := ⟨⟨[110, 117, 109, 98, 101, 114]⟩⟩, annotation := none, pos := ⟨97, 14, 97, 20⟩ }, { arg := ⟨⟨[115, 105, 103, 110]⟩⟩, annotation := none, pos := ⟨97, 22, 97, 26⟩ }], vararg := none, kwonlyargs := [], kw_defaults := [], kwarg := none, defaults := [] }, body := FuncBody.stmts (b_law_read.toL), scope := { kind := ScopeKind.function, names := (nmap n_law_read), isGenerator := false, isCoroutine := false }, globals := 3, closure := [], defaults := Value.none, kwdefaults := Value.none, pyModule := Value.str ⟨⟨[108, 97, 119, 95, 116, 121, 48, 48, 50, 55, 95, 48, 49]⟩⟩ 389, code := Value.ref 140 } }
noncomputable def ko145 (p : Params) : Obj := { cls := Value.type "code", data := Data.fields #[Value.str ⟨⟨[95, 108, 97, 119, 95, 110, 97, 109, 101, 100]⟩⟩ 407, Value.str ⟨⟨[95, 108, 97, 119, 95, 110, 97, 109, 101, 100]⟩⟩ 408, Value.str ⟨⟨[47, 99, 108, 97, 105, 109, 47, 99, 117, 116, 46, 112, 121]⟩⟩ 409, Value.int 104 0, Value.int 3 0, Value.int 0 0, Value.int 0 0, Value.int 3 0, Value.ref 142, Value.bool true, Value.int 181 0, Value.ref 143, Value.none, Value.none, Value.none, Value.ref 144, Value.int 410 0, Value.int 104 0, Value.str ⟨⟨[47, 99, 108, 97, 105, 109, 47, 99, 117, 116, 46, 112, 121]⟩⟩ 411] }
noncomputable def ko146 (p : Params) : Obj := { cls := Value.type "function", data := Data.func { name := ⟨⟨[95, 108, 97, 119, 95, 110, 97, 109, 101, 100]⟩⟩, qualname := ⟨⟨[95, 108, 97, 119, 95, 110, 97, 109, 101, 100]⟩⟩, params := { posonlyargs := [], args := [{ arg := ⟨⟨[110, 117, 109, 98, 101, 114]⟩⟩, annotation := none, pos := ⟨104, 15, 104, 21⟩ }, { arg := ⟨⟨[115, 104, 105, 102, 116]⟩⟩, annotation := none, pos := ⟨104, 23, 104, 28⟩ }, { arg := ⟨⟨[110, 97, 109, 101, 115]⟩⟩, annotation := none, pos := ⟨104, 30, 104, 35⟩ }], vararg := none, kwonlyargs := [], kw_defaults := [], kwarg := none, defaults := [] }, body := FuncBody.stmts (b_law_named.toL), scope := { kind := ScopeKind.function, names := (nmap n_law_named), isGenerator := false, isCoroutine := false, more := [(⟨⟨[102, 97, 115, 116]⟩⟩, Const.str ⟨⟨[110, 117, 109, 98, 101, 114]⟩⟩), (⟨⟨[102, 97, 115, 116]⟩⟩, Const.str ⟨⟨[115, 104, 105, 102, 116]⟩⟩), (⟨⟨[102, 97, 115, 116]⟩⟩, Const.str ⟨⟨[110, 97, 109, 101, 115]⟩⟩), (⟨⟨[102, 97, 115, 116]⟩⟩, Const.str ⟨⟨[119, 111, 114, 100]⟩⟩), (⟨⟨[102, 97, 115, 116]⟩⟩, Const.str ⟨⟨[112, 108, 97, 99, 101, 115]⟩⟩), (⟨⟨[102, 97, 115, 116]⟩⟩, Const.str ⟨⟨[112, 108, 97, 99, 101]⟩⟩), (⟨⟨[102, 97, 115, 116]⟩⟩, Const.str ⟨⟨[97, 98, 111, 118, 101]⟩⟩)] }, globals := 3, closure := [], defaults := Value.none, kwdefaults := Value.none, pyModule := Value.str ⟨⟨[108, 97, 119, 95, 116, 121, 48, 48, 50, 55, 95, 48, 49]⟩⟩ 389, code := Value.ref 145 } }
noncomputable def ko150 (p : Params) : Obj := { cls := Value.type "code", data := Data.fields #[Value.str ⟨⟨[95, 108, 97, 119, 95, 116, 121, 112, 101, 100]⟩⟩ 413, Value.str ⟨⟨[95, 108, 97, 119, 95, 116, 121, 112, 101, 100]⟩⟩ 414, Value.str ⟨⟨[47, 99, 108, 97, 105, 109, 47, 99, 117, 116, 46, 112, 121]⟩⟩ 415, Value.int 108 0, Value.int 3 0, Value.int 0 0, Value.int 0 0, Value.int 3 0, Value.ref 147, Value.bool true, Value.int 181 0, Value.ref 148, Value.none, Value.none, Value.none, Value.ref 149, Value.int 416 0, Value.int 108 0, Value.str ⟨⟨[47, 99, 108, 97, 105, 109, 47, 99, 117, 116, 46, 112, 121]⟩⟩ 417] }
noncomputable def ko151 (p : Params) : Obj := { cls := Value.type "function", data := Data.func { name := ⟨⟨[95, 108, 97, 119, 95, 116, 121, 112, 101, 100]⟩⟩, qualname := ⟨⟨[95, 108, 97, 119, 95, 116, 121, 112, 101, 100]⟩⟩, params := { posonlyargs := [], args := [{ arg := ⟨⟨[117, 112]⟩⟩, annotation := none, pos := ⟨108, 15, 108, 17⟩ }, { arg := ⟨⟨[104, 101, 97, 114, 100]⟩⟩, annotation := none, pos := ⟨108, 19, 108, 24⟩ }, { arg := ⟨⟨[110, 97, 109, 101, 115]⟩⟩, annotation := none, pos := ⟨108, 26, 108, 31⟩ }], vararg := none, kwonlyargs := [], kw_defaults := [], kwarg := none, defaults := [] }, body := FuncBody.stmts (b_law_typed.toL), scope := { kind := ScopeKind.function, names := (nmap n_law_typed), isGenerator := false, isCoroutine := false, more := [(⟨⟨[102, 97, 115, 116]⟩⟩, Const.str ⟨⟨[117, 112]⟩⟩), (⟨⟨[102, 97, 115, 116]⟩⟩, Const.str ⟨⟨[104, 101, 97, 114, 100]⟩⟩), (⟨⟨[102, 97, 115, 116]⟩⟩, Const.str ⟨⟨[110, 97, 109, 101, 115]⟩⟩), (⟨⟨[102, 97, 115, 116]⟩⟩, Const.str ⟨⟨[119, 111, 114, 100, 115]⟩⟩), (⟨⟨[102, 97, 115, 116]⟩⟩, Const.str ⟨⟨[116, 105, 109, 101, 115]⟩⟩), (⟨⟨[102, 97, 115, 116]⟩⟩, Const.str ⟨⟨[110, 97, 109, 101]⟩⟩), (⟨⟨[102, 97, 115, 116]⟩⟩, Const.str ⟨⟨[116, 117, 114, 110, 101, 100]⟩⟩)] }, globals := 3, closure := [], defaults := Value.none, kwdefaults := Value.none, pyModule := Value.str ⟨⟨[108, 97, 119, 95, 116, 121, 48, 48, 50, 55, 95, 48, 49]⟩⟩ 389, code := Value.ref 150 } }
noncomputable def ko155 (p : Params) : Obj := { cls := Value.type "code", data := Data.fields #[Value.str ⟨⟨[95, 108, 97, 119, 95, 111, 112, 101, 110, 101, 100]⟩⟩ 419, Value.str ⟨⟨[95, 108, 97, 119, 95, 111, 112, 101, 110, 101, 100]⟩⟩ 420, Value.str ⟨⟨[47, 99, 108, 97, 105, 109, 47, 99, 117, 116, 46, 112, 121]⟩⟩ 421, Value.int 111 0, Value.int 3 0, Value.int 0 0, Value.int 0 0, Value.int 3 0, Value.ref 152, Value.bool true, Value.int 181 0, Value.ref 153, Value.none, Value.none, Value.none, Value.ref 154, Value.int 422 0, Value.int 111 0, Value.str ⟨⟨[47, 99, 108, 97, 105, 109, 47, 99, 117, 116, 46, 112, 121]⟩⟩ 423] }
noncomputable def ko156 (p : Params) : Obj := { cls := Value.type "function", data := Data.func { name := ⟨⟨[95, 108, 97, 119, 95, 111, 112, 101, 110, 101, 100]⟩⟩, qualname := ⟨⟨[95, 108, 97, 119, 95, 111, 112, 101, 110, 101, 100]⟩⟩, params := { posonlyargs := [], args := [{ arg := ⟨⟨[117, 112, 115]⟩⟩, annotation := none, pos := ⟨111, 16, 111, 19⟩ }, { arg := ⟨⟨[97, 104, 101, 97, 100]⟩⟩, annotation := none, pos := ⟨111, 21, 111, 26⟩ }, { arg := ⟨⟨[115, 105, 122, 101]⟩⟩, annotation := none, pos := ⟨111, 28, 111, 32⟩ }], vararg := none, kwonlyargs := [], kw_defaults := [], kwarg := none, defaults := [] }, body := FuncBody.stmts (b_law_opened.toL), scope := { kind := ScopeKind.function, names := (nmap n_law_opened), isGenerator := false, isCoroutine := false, more := [(⟨⟨[102, 97, 115, 116]⟩⟩, Const.str ⟨⟨[117, 112, 115]⟩⟩), (⟨⟨[102, 97, 115, 116]⟩⟩, Const.str ⟨⟨[97, 104, 101, 97, 100]⟩⟩), (⟨⟨[102, 97, 115, 116]⟩⟩, Const.str ⟨⟨[115, 105, 122, 101]⟩⟩), (⟨⟨[102, 97, 115, 116]⟩⟩, Const.str ⟨⟨[115, 116, 114, 105, 112]⟩⟩), (⟨⟨[102, 97, 115, 116]⟩⟩, Const.str ⟨⟨[117, 112]⟩⟩), (⟨⟨[102, 97, 115, 116]⟩⟩, Const.str ⟨⟨[99, 114, 101, 97, 115, 101]⟩⟩)] }, globals := 3, closure := [], defaults := Value.none, kwdefaults := Value.none, pyModule := Value.str ⟨⟨[108, 97, 119, 95, 116, 121, 48, 48, 50, 55, 95, 48, 49]⟩⟩ 389, code := Value.ref 155 } }
noncomputable def ko162 (p : Params) : Obj := { cls := Value.type "code", data := Data.fields #[Value.str ⟨⟨[95, 108, 97, 119, 95, 115, 101, 101, 110]⟩⟩ 425, Value.str ⟨⟨[95, 108, 97, 119, 95, 115, 101, 101, 110]⟩⟩ 426, Value.str ⟨⟨[47, 99, 108, 97, 105, 109, 47, 99, 117, 116, 46, 112, 121]⟩⟩ 427, Value.int 116 0, Value.int 2 0, Value.int 0 0, Value.int 0 0, Value.int 3 0, Value.ref 157, Value.bool true, Value.int 181 0, Value.ref 158, Value.none, Value.ref 159, Value.ref 160, Value.ref 161, Value.int 431 0, Value.int 116 0, Value.str ⟨⟨[47, 99, 108, 97, 105, 109, 47, 99, 117, 116, 46, 112, 121]⟩⟩ 432] }
noncomputable def ko163 (p : Params) : Obj := { cls := Value.type "function", data := Data.func { name := ⟨⟨[95, 108, 97, 119, 95, 115, 101, 101, 110]⟩⟩, qualname := ⟨⟨[95, 108, 97, 119, 95, 115, 101, 101, 110]⟩⟩, params := { posonlyargs := [], args := [{ arg := ⟨⟨[117, 112, 115]⟩⟩, annotation := none, pos := ⟨116, 14, 116, 17⟩ }, { arg := ⟨⟨[97, 104, 101, 97, 100]⟩⟩, annotation := none, pos := ⟨116, 19, 116, 24⟩ }], vararg := none, kwonlyargs := [], kw_defaults := [], kwarg := none, defaults := [] }, body := FuncBody.stmts (b_law_seen.toL), scope := { kind := ScopeKind.function, names := (nmap n_law_seen), isGenerator := false, isCoroutine := false }, globals := 3, closure := [], defaults := Value.none, kwdefaults := Value.none, pyModule := Value.str ⟨⟨[108, 97, 119, 95, 116, 121, 48, 48, 50, 55, 95, 48, 49]⟩⟩ 389, code := Value.ref 162 } }
noncomputable def ko169 (p : Params) : Obj := { cls := Value.type "code", data := Data.fields #[Value.str ⟨⟨[95, 108, 97, 119, 95, 114, 117, 110, 115]⟩⟩ 434, Value.str ⟨⟨[95, 108, 97, 119, 95, 114, 117, 110, 115]⟩⟩ 435, Value.str ⟨⟨[47, 99, 108, 97, 105, 109, 47, 99, 117, 116, 46, 112, 121]⟩⟩ 436, Value.int 121 0, Value.int 2 0, Value.int 0 0, Value.int 0 0, Value.int 3 0, Value.ref 164, Value.bool true, Value.int 181 0, Value.ref 165, Value.none, Value.ref 166, Value.ref 167, Value.ref 168, Value.int 445 0, Value.int 121 0, Value.str ⟨⟨[47, 99, 108, 97, 105, 109, 47, 99, 117, 116, 46, 112, 121]⟩⟩ 446] }
noncomputable def ko170 (p : Params) : Obj := { cls := Value.type "function", data := Data.func { name := ⟨⟨[95, 108, 97, 119, 95, 114, 117, 110, 115]⟩⟩, qualname := ⟨⟨[95, 108, 97, 119, 95, 114, 117, 110, 115]⟩⟩, params := { posonlyargs := [], args := [{ arg := ⟨⟨[115, 101, 101, 110]⟩⟩, annotation := none, pos := ⟨121, 14, 121, 18⟩ }, { arg := ⟨⟨[102, 111, 108, 100, 115]⟩⟩, annotation := none, pos := ⟨121, 20, 121, 25⟩ }], vararg := none, kwonlyargs := [], kw_defaults := [], kwarg := none, defaults := [] }, body := FuncBody.stmts (b_law_runs.toL), scope := { kind := ScopeKind.function, names := (nmap n_law_runs), isGenerator := false, isCoroutine := false }, globals := 3, closure := [], defaults := Value.none, kwdefaults := Value.none, pyModule := Value.str ⟨⟨[108, 97, 119, 95, 116, 121, 48, 48, 50, 55, 95, 48, 49]⟩⟩ 389, code := Value.ref 169 } }
noncomputable def ko174 (p : Params) : Obj := { cls := Value.type "code", data := Data.fields #[Value.str ⟨⟨[95, 108, 97, 119, 95, 99, 111, 108, 117, 109, 110]⟩⟩ 448, Value.str ⟨⟨[95, 108, 97, 119, 95, 99, 111, 108, 117, 109, 110]⟩⟩ 449, Value.str ⟨⟨[47, 99, 108, 97, 105, 109, 47, 99, 117, 116, 46, 112, 121]⟩⟩ 450, Value.int 135 0, Value.int 2 0, Value.int 0 0, Value.int 0 0, Value.int 3 0, Value.ref 171, Value.bool true, Value.int 181 0, Value.ref 172, Value.none, Value.none, Value.none, Value.ref 173, Value.int 451 0, Value.int 135 0, Value.str ⟨⟨[47, 99, 108, 97, 105, 109, 47, 99, 117, 116, 46, 112, 121]⟩⟩ 452] }
noncomputable def ko175 (p : Params) : Obj := { cls := Value.type "function", data := Data.func { name := ⟨⟨[95, 108, 97, 119, 95, 99, 111, 108, 117, 109, 110]⟩⟩, qualname := ⟨⟨[95, 108, 97, 119, 95, 99, 111, 108, 117, 109, 110]⟩⟩, params := { posonlyargs := [], args := [{ arg := ⟨⟨[114, 117, 110, 115]⟩⟩, annotation := none, pos := ⟨135, 16, 135, 20⟩ }, { arg := ⟨⟨[115, 105, 122, 101]⟩⟩, annotation := none, pos := ⟨135, 22, 135, 26⟩ }], vararg := none, kwonlyargs := [], kw_defaults := [], kwarg := none, defaults := [] }, body := FuncBody.stmts (b_law_column.toL), scope := { kind := ScopeKind.function, names := (nmap n_law_column), isGenerator := false, isCoroutine := false, more := [(⟨⟨[102, 97, 115, 116]⟩⟩, Const.str ⟨⟨[114, 117, 110, 115]⟩⟩), (⟨⟨[102, 97, 115, 116]⟩⟩, Const.str ⟨⟨[115, 105, 122, 101]⟩⟩), (⟨⟨[102, 97, 115, 116]⟩⟩, Const.str ⟨⟨[99, 111, 117, 110, 116, 115]⟩⟩), (⟨⟨[102, 97, 115, 116]⟩⟩, Const.str ⟨⟨[98, 101, 104, 105, 110, 100]⟩⟩), (⟨⟨[102, 97, 115, 116]⟩⟩, Const.str ⟨⟨[114, 117, 110]⟩⟩), (⟨⟨[102, 97, 115, 116]⟩⟩, Const.str ⟨⟨[99, 111, 117, 110, 116]⟩⟩)] }, globals := 3, closure := [], defaults := Value.none, kwdefaults := Value.none, pyModule := Value.str ⟨⟨[108, 97, 119, 95, 116, 121, 48, 48, 50, 55, 95, 48, 49]⟩⟩ 389, code := Value.ref 174 } }
noncomputable def ko181 (p : Params) : Obj := { cls := Value.type "code", data := Data.fields #[Value.str ⟨⟨[95, 108, 97, 119, 95, 108, 111, 110, 103, 101, 115, 116]⟩⟩ 454, Value.str ⟨⟨[95, 108, 97, 119, 95, 108, 111, 110, 103, 101, 115, 116]⟩⟩ 455, Value.str ⟨⟨[47, 99, 108, 97, 105, 109, 47, 99, 117, 116, 46, 112, 121]⟩⟩ 456, Value.int 138 0, Value.int 1 0, Value.int 0 0, Value.int 0 0, Value.int 3 0, Value.ref 176, Value.bool true, Value.int 181 0, Value.ref 177, Value.none, Value.ref 178, Value.ref 179, Value.ref 180, Value.int 460 0, Value.int 138 0, Value.str ⟨⟨[47, 99, 108, 97, 105, 109, 47, 99, 117, 116, 46, 112, 121]⟩⟩ 461] }
noncomputable def ko182 (p : Params) : Obj := { cls := Value.type "function", data := Data.func { name := ⟨⟨[95, 108, 97, 119, 95, 108, 111, 110, 103, 101, 115, 116]⟩⟩, qualname := ⟨⟨[95, 108, 97, 119, 95, 108, 111, 110, 103, 101, 115, 116]⟩⟩, params := { posonlyargs := [], args := [{ arg := ⟨⟨[114, 117, 110, 115]⟩⟩, annotation := none, pos := ⟨138, 17, 138, 21⟩ }], vararg := none, kwonlyargs := [], kw_defaults := [], kwarg := none, defaults := [] }, body := FuncBody.stmts (b_law_longest.toL), scope := { kind := ScopeKind.function, names := (nmap n_law_longest), isGenerator := false, isCoroutine := false }, globals := 3, closure := [], defaults := Value.none, kwdefaults := Value.none, pyModule := Value.str ⟨⟨[108, 97, 119, 95, 116, 121, 48, 48, 50, 55, 95, 48, 49]⟩⟩ 389, code := Value.ref 181 } }
noncomputable def ko186 (p : Params) : Obj := { cls := Value.type "code", data := Data.fields #[Value.str ⟨⟨[95, 108, 97, 119, 95, 119, 105, 116, 110, 101, 115, 115, 101, 115]⟩⟩ 463, Value.str ⟨⟨[95, 108, 97, 119, 95, 119, 105, 116, 110, 101, 115, 115, 101, 115]⟩⟩ 464, Value.str ⟨⟨[47, 99, 108, 97, 105, 109, 47, 99, 117, 116, 46, 112, 121]⟩⟩ 465, Value.int 141 0, Value.int 2 0, Value.int 0 0, Value.int 0 0, Value.int 3 0, Value.ref 183, Value.bool true, Value.int 181 0, Value.ref 184, Value.none, Value.none, Value.none, Value.ref 185, Value.int 466 0, Value.int 141 0, Value.str ⟨⟨[47, 99, 108, 97, 105, 109, 47, 99, 117, 116, 46, 112, 121]⟩⟩ 467] }
noncomputable def ko187 (p : Params) : Obj := { cls := Value.type "function", data := Data.func { name := ⟨⟨[95, 108, 97, 119, 95, 119, 105, 116, 110, 101, 115, 115, 101, 115]⟩⟩, qualname := ⟨⟨[95, 108, 97, 119, 95, 119, 105, 116, 110, 101, 115, 115, 101, 115]⟩⟩, params := { posonlyargs := [], args := [{ arg := ⟨⟨[111, 110, 101]⟩⟩, annotation := none, pos := ⟨141, 19, 141, 22⟩ }, { arg := ⟨⟨[111, 116, 104, 101, 114]⟩⟩, annotation := none, pos := ⟨141, 24, 141, 29⟩ }], vararg := none, kwonlyargs := [], kw_defaults := [], kwarg := none, defaults := [] }, body := FuncBody.stmts (b_law_witnesses.toL), scope := { kind := ScopeKind.function, names := (nmap n_law_witnesses), isGenerator := false, isCoroutine := false, more := [(⟨⟨[102, 97, 115, 116]⟩⟩, Const.str ⟨⟨[111, 110, 101]⟩⟩), (⟨⟨[102, 97, 115, 116]⟩⟩, Const.str ⟨⟨[111, 116, 104, 101, 114]⟩⟩), (⟨⟨[102, 97, 115, 116]⟩⟩, Const.str ⟨⟨[115, 105, 122, 101, 115]⟩⟩), (⟨⟨[102, 97, 115, 116]⟩⟩, Const.str ⟨⟨[115, 105, 122, 101]⟩⟩), (⟨⟨[102, 97, 115, 116]⟩⟩, Const.str ⟨⟨[114, 111, 119, 115]⟩⟩), (⟨⟨[102, 97, 115, 116]⟩⟩, Const.str ⟨⟨[114, 111, 119]⟩⟩)] }, globals := 3, closure := [], defaults := Value.none, kwdefaults := Value.none, pyModule := Value.str ⟨⟨[108, 97, 119, 95, 116, 121, 48, 48, 50, 55, 95, 48, 49]⟩⟩ 389, code := Value.ref 186 } }
noncomputable def ko191 (p : Params) : Obj := { cls := Value.type "code", data := Data.fields #[Value.str ⟨⟨[108, 97, 119]⟩⟩ 469, Value.str ⟨⟨[108, 97, 119]⟩⟩ 470, Value.str ⟨⟨[47, 99, 108, 97, 105, 109, 47, 99, 117, 116, 46, 112, 121]⟩⟩ 471, Value.int 145 0, Value.int 1 0, Value.int 0 0, Value.int 0 0, Value.int 3 0, Value.ref 188, Value.bool true, Value.int 181 0, Value.ref 189, Value.none, Value.none, Value.none, Value.ref 190, Value.int 472 0, Value.int 145 0, Value.str ⟨⟨[47, 99, 108, 97, 105, 109, 47, 99, 117, 116, 46, 112, 121]⟩⟩ 473] }
noncomputable def ko192 (p : Params) : Obj := { cls := Value.type "function", data := Data.func { name := ⟨⟨[108, 97, 119]⟩⟩, qualname := ⟨⟨[108, 97, 119]⟩⟩, params := { posonlyargs := [], args := [{ arg := ⟨⟨[115, 99, 114, 105, 112, 116]⟩⟩, annotation := none, pos := ⟨145, 8, 145, 14⟩ }], vararg := none, kwonlyargs := [], kw_defaults := [], kwarg := none, defaults := [] }, body := FuncBody.stmts (b_law.toL), scope := { kind := ScopeKind.function, names := (nmap n_law), isGenerator := false, isCoroutine := false, more := [(⟨⟨[102, 97, 115, 116]⟩⟩, Const.str ⟨⟨[115, 99, 114, 105, 112, 116]⟩⟩), (⟨⟨[102, 97, 115, 116]⟩⟩, Const.str ⟨⟨[112, 108, 97, 99, 101]⟩⟩), (⟨⟨[102, 97, 115, 116]⟩⟩, Const.str ⟨⟨[111, 119, 110]⟩⟩), (⟨⟨[102, 97, 115, 116]⟩⟩, Const.str ⟨⟨[120]⟩⟩), (⟨⟨[102, 97, 115, 116]⟩⟩, Const.str ⟨⟨[100, 114, 97, 119, 115]⟩⟩), (⟨⟨[102, 97, 115, 116]⟩⟩, Const.str ⟨⟨[102, 111, 108, 100, 115]⟩⟩), (⟨⟨[102, 97, 115, 116]⟩⟩, Const.str ⟨⟨[97, 104, 101, 97, 100]⟩⟩), (⟨⟨[102, 97, 115, 116]⟩⟩, Const.str ⟨⟨[115, 104, 105, 102, 116]⟩⟩), (⟨⟨[102, 97, 115, 116]⟩⟩, Const.str ⟨⟨[115, 105, 103, 110]⟩⟩), (⟨⟨[102, 97, 115, 116]⟩⟩, Const.str ⟨⟨[115, 105, 122, 101]⟩⟩), (⟨⟨[102, 97, 115, 116]⟩⟩, Const.str ⟨⟨[110, 97, 109, 101, 115]⟩⟩), (⟨⟨[102, 97, 115, 116]⟩⟩, Const.str ⟨⟨[110, 117, 109, 98, 101, 114]⟩⟩), (⟨⟨[102, 97, 115, 116]⟩⟩, Const.str ⟨⟨[104, 101, 97, 114, 100]⟩⟩), (⟨⟨[102, 97, 115, 116]⟩⟩, Const.str ⟨⟨[100, 114, 97, 119]⟩⟩), (⟨⟨[102, 97, 115, 116]⟩⟩, Const.str ⟨⟨[102, 111, 108, 100]⟩⟩), (⟨⟨[102, 97, 115, 116]⟩⟩, Const.str ⟨⟨[102, 111, 108, 100, 101, 100]⟩⟩), (⟨⟨[102, 97, 115, 116]⟩⟩, Const.str ⟨⟨[116, 121, 112, 101, 100]⟩⟩), (⟨⟨[102, 97, 115, 116]⟩⟩, Const.str ⟨⟨[117, 112, 115]⟩⟩), (⟨⟨[102, 97, 115, 116]⟩⟩, Const.str ⟨⟨[115, 101, 101, 110]⟩⟩), (⟨⟨[102, 97, 115, 116]⟩⟩, Const.str ⟨⟨[116, 104, 114, 101, 101]⟩⟩), (⟨⟨[102, 97, 115, 116]⟩⟩, Const.str ⟨⟨[114, 117, 110, 115]⟩⟩), (⟨⟨[102, 97, 115, 116]⟩⟩, Const.str ⟨⟨[116, 101, 120, 116]⟩⟩), (⟨⟨[102, 97, 115, 116]⟩⟩, Const.str ⟨⟨[108, 101, 97, 100, 115]⟩⟩), (⟨⟨[102, 97, 115, 116]⟩⟩, Const.str ⟨⟨[108, 101, 97, 100]⟩⟩), (⟨⟨[102, 97, 115, 116]⟩⟩, Const.str ⟨⟨[109, 101, 109, 98, 101, 114, 115]⟩⟩), (⟨⟨[102, 97, 115, 116]⟩⟩, Const.str ⟨⟨[116, 111, 108, 100]⟩⟩), (⟨⟨[102, 97, 115, 116]⟩⟩, Const.str ⟨⟨[116, 104, 105, 114, 100]⟩⟩), (⟨⟨[102, 97, 115, 116]⟩⟩, Const.str ⟨⟨[116, 97, 98]⟩⟩), (⟨⟨[102, 97, 115, 116]⟩⟩, Const.str ⟨⟨[99, 111, 108, 117, 109, 110, 115]⟩⟩), (⟨⟨[102, 97, 115, 116]⟩⟩, Const.str ⟨⟨[99, 111, 108, 117, 109, 110]⟩⟩)] }, globals := 3, closure := [], defaults := Value.none, kwdefaults := Value.none, pyModule := Value.str ⟨⟨[108, 97, 119, 95, 116, 121, 48, 48, 50, 55, 95, 48, 49]⟩⟩ 389, code := Value.ref 191 } }
noncomputable def KB (p : Params) : PySem.W.Frag := [(2, ko2 p), (3, ko3 p), (37, ko37 p), (38, ko38 p), (44, ko44 p), (45, ko45 p), (51, ko51 p), (52, ko52 p), (58, ko58 p), (59, ko59 p), (65, ko65 p), (66, ko66 p), (82, ko82 p), (83, ko83 p), (88, ko88 p), (94, ko94 p), (95, ko95 p), (126, ko126 p), (127, ko127 p), (133, ko133 p), (134, ko134 p), (140, ko140 p), (141, ko141 p), (145, ko145 p), (146, ko146 p), (150, ko150 p), (151, ko151 p), (155, ko155 p), (156, ko156 p), (162, ko162 p), (163, ko163 p), (169, ko169 p), (170, ko170 p), (174, ko174 p), (175, ko175 p), (181, ko181 p), (182, ko182 p), (186, ko186 p), (187, ko187 p), (191, ko191 p), (192, ko192 p)]
noncomputable def asB : List Addr := [2, 3, 37, 38, 44, 45, 51, 52, 58, 59, 65, 66, 82, 83, 88, 94, 95, 126, 127, 133, 134, 140, 141, 145, 146, 150, 151, 155, 156, 162, 163, 169, 170, 174, 175, 181, 182, 186, 187, 191, 192]
/-- the script's list -/
theorem wells_ints {P : Params} {h : Heap} : ∀ {ns : List Int} {vs : List Value}, WellAll P h vs (ofPys (ns.map PyData.int)) → IntsAre vs ns
  | [], _, x => by
    rw [List.map_nil, show ofPys [] = [] from by simp [ofPys]] at x
    cases x; exact .nil
  | n :: ns, _, x => by
    rw [List.map_cons, show ofPys (PyData.int n :: ns.map PyData.int) = WData.int n :: ofPys (ns.map PyData.int) from by simp [ofPys, ofPy]] at x
    cases x with | cons a b =>
    cases a
    exact .cons _ _ (wells_ints b)
theorem well_ints {P : Params} {h : Heap} {a : Addr} {ns : List Int} (x : Well P h (.ref a) (ofPy (PyData.list (ns.map PyData.int)))) : ∃ vs, PL h a vs ∧ IntsAre vs ns := by
  rw [show ofPy (PyData.list (ns.map PyData.int)) = WData.list (ofPys (ns.map PyData.int)) from by simp [ofPy]] at x
  cases x with | list e r => exact ⟨_, ⟨0, e⟩, wells_ints r⟩
end Mine

open Mine
set_option maxHeartbeats 8000000 in
theorem PySem.Challenge.cw_ty0027_01_holds : PySem.Challenge.rw_ty0027_01.Holds := by
  (w_on; o_law; o_head (kHook Mine.KB Mine.asB (fun _ => by kernel_rfl)); (case hw => w_witness2))
  intro w s₀ s₁ mg mb G Y fa o pm cd doc dV kV ho hd hcd hD hmg hg args vals as hpre hlay hrd hwl hlo
  have KX := kIn_of Y
  refine Ground.open G ?_
  intro T B D TE TW
  wrow_args hpre hlay hrd hwl hlo
  have gl := glob_at T.g (KX 3 _ rfl) rfl
  have blt : ∀ {x : Str} {v : Value}, nsFind _ x = none → (x == ("__name__" : Str)) = false → bootBuiltins x = some v → Mine.GlobV s₁.heap x v := fun e1 e2 e3 => .blt T.g ((gl _).trans e1) T.b ((T.builtins _ (fun q => by rw [q, beq_self_eq_true] at e2; cases e2)).trans e3)
  have f_pretty_flags : Mine.FnOk s₁.heap 95 ⟨p_pretty_flags, n_pretty_flags, b_pretty_flags⟩ := by
    refine fnOk_of (KX 95 _ rfl) rfl (rec_of (KX _ _ rfl) rfl rfl) (by kernel_rfl) (len1 fun a => by rfl) rfl (by kernel_rfl) rfl rfl rfl rfl rfl (by kernel_rfl) (by kernel_rfl)
  have g_pretty_flags : Mine.GlobV s₁.heap (nm 82) (.ref 95) := .top T.g ((gl _).trans (by kernel_rfl))
  have f_parse257 : Mine.FnOk s₁.heap 127 ⟨p_parse257, n_parse257, b_parse257⟩ := by
    refine fnOk_of (KX 127 _ rfl) rfl (rec_of (KX _ _ rfl) rfl rfl) (by kernel_rfl) (len1 fun a => by rfl) rfl (by kernel_rfl) rfl rfl rfl rfl rfl (by kernel_rfl) (by kernel_rfl)
  have g_parse257 : Mine.GlobV s₁.heap (nm 77) (.ref 127) := .top T.g ((gl _).trans (by kernel_rfl))
  have f_law_names : Mine.FnOk s₁.heap 134 ⟨p_law_names, n_law_names, b_law_names⟩ := by
    refine fnOk_of (KX 134 _ rfl) rfl (rec_of (KX _ _ rfl) rfl rfl) (by kernel_rfl) (len0 (by rfl)) rfl (by kernel_rfl) rfl rfl rfl rfl rfl (by kernel_rfl) (by kernel_rfl)
  have g_law_names : Mine.GlobV s₁.heap (nm 12) (.ref 134) := .top T.g ((gl _).trans (by kernel_rfl))
  have f_law_read : Mine.FnOk s₁.heap 141 ⟨p_law_read, n_law_read, b_law_read⟩ := by
    refine fnOk_of (KX 141 _ rfl) rfl (rec_of (KX _ _ rfl) rfl rfl) (by kernel_rfl) (len2 fun a b => by rfl) rfl (by kernel_rfl) rfl rfl rfl rfl rfl (by kernel_rfl) (by kernel_rfl)
  have g_law_read : Mine.GlobV s₁.heap (nm 14) (.ref 141) := .top T.g ((gl _).trans (by kernel_rfl))
  have f_law_named : Mine.FnOk s₁.heap 146 ⟨p_law_named, n_law_named, b_law_named⟩ := by
    refine fnOk_of (KX 146 _ rfl) rfl (rec_of (KX _ _ rfl) rfl rfl) (by kernel_rfl) (len3 fun a b c => by rfl) rfl (by kernel_rfl) rfl rfl rfl rfl rfl (by kernel_rfl) (by kernel_rfl)
  have g_law_named : Mine.GlobV s₁.heap (nm 11) (.ref 146) := .top T.g ((gl _).trans (by kernel_rfl))
  have f_law_typed : Mine.FnOk s₁.heap 151 ⟨p_law_typed, n_law_typed, b_law_typed⟩ := by
    refine fnOk_of (KX 151 _ rfl) rfl (rec_of (KX _ _ rfl) rfl rfl) (by kernel_rfl) (len3 fun a b c => by rfl) rfl (by kernel_rfl) rfl rfl rfl rfl rfl (by kernel_rfl) (by kernel_rfl)
  have g_law_typed : Mine.GlobV s₁.heap (nm 17) (.ref 151) := .top T.g ((gl _).trans (by kernel_rfl))
  have f_law_opened : Mine.FnOk s₁.heap 156 ⟨p_law_opened, n_law_opened, b_law_opened⟩ := by
    refine fnOk_of (KX 156 _ rfl) rfl (rec_of (KX _ _ rfl) rfl rfl) (by kernel_rfl) (len3 fun a b c => by rfl) rfl (by kernel_rfl) rfl rfl rfl rfl rfl (by kernel_rfl) (by kernel_rfl)
  have g_law_opened : Mine.GlobV s₁.heap (nm 13) (.ref 156) := .top T.g ((gl _).trans (by kernel_rfl))
  have f_law_seen : Mine.FnOk s₁.heap 163 ⟨p_law_seen, n_law_seen, b_law_seen⟩ := by
    refine fnOk_of (KX 163 _ rfl) rfl (rec_of (KX _ _ rfl) rfl rfl) (by kernel_rfl) (len2 fun a b => by rfl) rfl (by kernel_rfl) rfl rfl rfl rfl rfl (by kernel_rfl) (by kernel_rfl)
  have g_law_seen : Mine.GlobV s₁.heap (nm 16) (.ref 163) := .top T.g ((gl _).trans (by kernel_rfl))
  have f_law_runs : Mine.FnOk s₁.heap 170 ⟨p_law_runs, n_law_runs, b_law_runs⟩ := by
    refine fnOk_of (KX 170 _ rfl) rfl (rec_of (KX _ _ rfl) rfl rfl) (by kernel_rfl) (len2 fun a b => by rfl) rfl (by kernel_rfl) rfl rfl rfl rfl rfl (by kernel_rfl) (by kernel_rfl)
  have g_law_runs : Mine.GlobV s₁.heap (nm 15) (.ref 170) := .top T.g ((gl _).trans (by kernel_rfl))
  have f_law_column : Mine.FnOk s₁.heap 175 ⟨p_law_column, n_law_column, b_law_column⟩ := by
    refine fnOk_of (KX 175 _ rfl) rfl (rec_of (KX _ _ rfl) rfl rfl) (by kernel_rfl) (len2 fun a b => by rfl) rfl (by kernel_rfl) rfl rfl rfl rfl rfl (by kernel_rfl) (by kernel_rfl)
  have g_law_column : Mine.GlobV s₁.heap (nm 9) (.ref 175) := .top T.g ((gl _).trans (by kernel_rfl))
  have f_law_longest : Mine.FnOk s₁.heap 182 ⟨p_law_longest, n_law_longest, b_law_longest⟩ := by
    refine fnOk_of (KX 182 _ rfl) rfl (rec_of (KX _ _ rfl) rfl rfl) (by kernel_rfl) (len1 fun a => by rfl) rfl (by kernel_rfl) rfl rfl rfl rfl rfl (by kernel_rfl) (by kernel_rfl)
  have g_law_longest : Mine.GlobV s₁.heap (nm 10) (.ref 182) := .top T.g ((gl _).trans (by kernel_rfl))
  have f_law_witnesses : Mine.FnOk s₁.heap 187 ⟨p_law_witnesses, n_law_witnesses, b_law_witnesses⟩ := by
    refine fnOk_of (KX 187 _ rfl) rfl (rec_of (KX _ _ rfl) rfl rfl) (by kernel_rfl) (len2 fun a b => by rfl) rfl (by kernel_rfl) rfl rfl rfl rfl rfl (by kernel_rfl) (by kernel_rfl)
  have g_law_witnesses : Mine.GlobV s₁.heap (nm 18) (.ref 187) := .top T.g ((gl _).trans (by kernel_rfl))
  have m_equal : Mine.FnOk s₁.heap 59 ⟨p_equal, n_equal, b_equal⟩ := by
    refine fnOk_of (KX 59 _ rfl) rfl (rec_of (KX _ _ rfl) rfl rfl) (by kernel_rfl) (len2 fun a b => by rfl) rfl (by kernel_rfl) rfl rfl rfl rfl rfl (by kernel_rfl) (by kernel_rfl)
  have m_indent_level : Mine.FnOk s₁.heap 52 ⟨p_indent_level, n_indent_level, b_indent_level⟩ := by
    refine fnOk_of (KX 52 _ rfl) rfl (rec_of (KX _ _ rfl) rfl rfl) (by kernel_rfl) (len2 fun a b => by rfl) rfl (by kernel_rfl) rfl rfl rfl rfl rfl (by kernel_rfl) (by kernel_rfl)
  have m_longest_run_of_spaces : Mine.FnOk s₁.heap 45 ⟨p_longest_run_of_spaces, n_longest_run_of_spaces, b_longest_run_of_spaces⟩ := by
    refine fnOk_of (KX 45 _ rfl) rfl (rec_of (KX _ _ rfl) rfl rfl) (by kernel_rfl) (len1 fun a => by rfl) rfl (by kernel_rfl) rfl rfl rfl rfl rfl (by kernel_rfl) (by kernel_rfl)
  have m_not_equal_witness : Mine.FnOk s₁.heap 66 ⟨p_not_equal_witness, n_not_equal_witness, b_not_equal_witness⟩ := by
    refine fnOk_of (KX 66 _ rfl) rfl (rec_of (KX _ _ rfl) rfl rfl) (by kernel_rfl) (len2 fun a b => by rfl) rfl (by kernel_rfl) rfl rfl rfl rfl rfl (by kernel_rfl) (by kernel_rfl)
  have k82 := KX 82 _ rfl
  have cl : Mine.ClsOk s₁.heap 82 (nsFind _) := {
    at_ := ⟨⟨_, _, _, _, _, _, _, _, _, _, _, _, KX 83 _ rfl⟩, ns_of k82 rfl (by kernel_rfl)⟩
    ga := by kernel_rfl
    gh := by kernel_rfl
    nas := nas_of (by kernel_rfl)
    meth := fns_all (P := fun f fn => isMeth f = true → ∃ fa o, nsFind _ (nm f) = some (.ref fa) ∧ s₁.heap.get? fa = some o ∧ o.cls = .type "function" ∧ Mine.FnOk s₁.heap fa fn) fun p hp => by
      unfold fns at hp
      simp only [List.mem_cons, List.not_mem_nil, or_false] at hp
      rcases hp with e | e | e | e | e | e | e | e | e | e | e | e | e | e | e | e <;> subst e <;> intro hm
      · exact ⟨45, _, by kernel_rfl, KX 45 _ rfl, rfl, m_longest_run_of_spaces⟩
      · exact ⟨52, _, by kernel_rfl, KX 52 _ rfl, rfl, m_indent_level⟩
      · exact ⟨59, _, by kernel_rfl, KX 59 _ rfl, rfl, m_equal⟩
      · exact ⟨66, _, by kernel_rfl, KX 66 _ rfl, rfl, m_not_equal_witness⟩
      all_goals cases hm }
  have f_init : Mine.FnRaw s₁.heap 38 p_init n_init initBody :=
    ⟨⟨_, _, KX 38 _ rfl, rfl, rec_of (KX _ _ rfl) rfl rfl, by kernel_rfl, len2 fun a b => by rfl, rfl, by kernel_rfl, rfl, rfl, rfl, rfl, rfl, by kernel_rfl, by kernel_rfl⟩, _, KX 38 _ rfl, rfl⟩
  have f_law : Mine.FnAt s₁.heap 192 p_law n_law b_law.toL :=
    ⟨_, _, KX 192 _ rfl, rfl, rec_of (KX _ _ rfl) rfl rfl, by kernel_rfl, len1 fun a => by rfl, rfl, by kernel_rfl, rfl, rfl, rfl, rfl, rfl, by kernel_rfl, by kernel_rfl⟩
  have k88 := KX 88 _ rfl
  have bse : Mine.Base PySem.Challenge.rw_ty0027_01.row.prog w s₁.heap := {
    lim := T.nolimit
    bi := bi_all (P := fun f b => Mine.GlobV s₁.heap (nm f) (biV b)) fun p hp => by
      unfold biTab at hp
      simp only [List.mem_cons, List.not_mem_nil, or_false] at hp
      rcases hp with e | e | e | e | e | e <;> subst e <;> exact blt (by kernel_rfl) (by kernel_rfl) (by kernel_rfl)
    enum := blt (by kernel_rfl) (by kernel_rfl) (by kernel_rfl)
    zip := blt (by kernel_rfl) (by kernel_rfl) (by kernel_rfl)
    fn := fns_all (P := fun f fn => isMeth f = false → ∃ fa, Mine.GlobV s₁.heap (nm f) (.ref fa) ∧ Mine.FnOk s₁.heap fa fn) fun p hp => by
      unfold fns at hp
      simp only [List.mem_cons, List.not_mem_nil, or_false] at hp
      rcases hp with e | e | e | e | e | e | e | e | e | e | e | e | e | e | e | e <;> subst e <;> intro hm
      · cases hm
      · cases hm
      · cases hm
      · cases hm
      · exact ⟨_, g_pretty_flags, f_pretty_flags⟩
      · exact ⟨_, g_parse257, f_parse257⟩
      · exact ⟨_, g_law_names, f_law_names⟩
      · exact ⟨_, g_law_read, f_law_read⟩
      · exact ⟨_, g_law_named, f_law_named⟩
      · exact ⟨_, g_law_typed, f_law_typed⟩
      · exact ⟨_, g_law_opened, f_law_opened⟩
      · exact ⟨_, g_law_seen, f_law_seen⟩
      · exact ⟨_, g_law_runs, f_law_runs⟩
      · exact ⟨_, g_law_column, f_law_column⟩
      · exact ⟨_, g_law_longest, f_law_longest⟩
      · exact ⟨_, g_law_witnesses, f_law_witnesses⟩
    tab := ⟨.top T.g ((gl _).trans (by kernel_rfl)), flagTab_of k88 ⟨rfl, rfl, rfl⟩ rfl (by kernel_rfl), _, k88, rfl, rfl⟩
    cls := ⟨82, _, cl⟩ }
  have ini : Mine.InitOk PySem.Challenge.rw_ty0027_01.row.prog w s₁.heap := {
    cls := ⟨82, _, cl, by kernel_rfl, 38, by kernel_rfl, f_init⟩
    glob := .top T.g ((gl _).trans (by kernel_rfl))
    S := fun A s Q E k hq => cls_value (mc := .type "type") (v := .str ⟨⟨[32]⟩⟩ 209) (KX.keeps k) (by kernel_rfl) (by kernel_rfl) (by kernel_rfl) (hq _)
    T := fun A s Q E k hq => cls_value (mc := .type "type") (v := .str ⟨⟨[9]⟩⟩ 210) (KX.keeps k) (by kernel_rfl) (by kernel_rfl) (by kernel_rfl) (hq _) }
  have hfa : fa = 192 := by
    have e := hmg.symm.trans ((gl _).trans (show _ = some (Value.ref 192) by kernel_rfl))
    exact Value.ref.inj (Option.some.inj e)
  subst hfa
  obtain ⟨vs, hol, hi⟩ := Mine.well_ints (by assumption)
  have z := Mine.law_call bse ini (blt (by kernel_rfl) (by kernel_rfl) (by kernel_rfl)) f_law (A := callerA) ⟨rfl, by decide, by decide⟩ (Mine.Ext.refl s₁.heap) (by omega) hol hi
  refine wpAny_mono z (fun v s' h => ?_) (fun _ _ h => h.elim)
  obtain ⟨rfl, h1, h2, h3⟩ := h
  exact ⟨.inl ⟨_, _, [], rfl, fun _ => rfl, ReadsW.bool true, (by kernel_rfl), fun _ => ⟨List.nodup_nil, fun _ hm => (nomatch hm)⟩⟩, OldK.of_keep h1, h2, AllBare.of_eq (h3.trans hg)⟩
