import PyProof.Rows.All
import Wide.All
import OpenK.AllK
import Wide.FinOn
import PySem.Challenge.RW_xo0035_01

set_option Elab.async false
set_option compiler.extract_closed false

section TCore
open PySem PySem.W PySem.Calls
set_option autoImplicit false
set_option linter.unusedVariables false
set_option Elab.async false
namespace Mine

/-! ## Data, representation -/
noncomputable abbrev Mp := Addr → Option Obj
noncomputable def Sub (I J : Mp) : Prop := ∀ b o, I b = some o → J b = some o
theorem Sub.refl (I : Mp) : Sub I I := fun _ _ e => e
theorem Sub.trans {I J K : Mp} (h : Sub I J) (k : Sub J K) : Sub I K := fun b o e => k b o (h b o e)

inductive D where
  | none
  | bool (b : Bool)
  | int (i : Int)
  | str (x : Str)
  | tup (ds : List D)
  | lst (ds : List D)
  | sd (pr : Program) (w : World) (kvs : List (Str × D))
  | rng (a b : Int)
  | num (i : Int)
  | raw (v : Value)

noncomputable def lobj (vs : List Value) (n : Nat) : Obj := { cls := .type "list", data := .seq vs.toArray n }
noncomputable def tobj (vs : List Value) (n : Nat) : Obj := { cls := .type "tuple", data := .seq vs.toArray n }
noncomputable def robj (a b : Int) (t u v : Tok) : Obj := { cls := .type "range", data := .fields #[.int a t, .int b u, .int 1 v] }
noncomputable def dobj (es : List DictEntry) (n : Nat) : Obj := { cls := .type "dict", data := .dict es.toArray n }

/-- a dict's object, by strs -/
noncomputable def SdObj (pr : Program) (w : World) (o : Obj) (kvs : List (Str × Value)) : Prop :=
  o.ExactDict ∧ ∃ es ep, o.data = .dict es ep ∧ KeysOf (strKind pr w) es ∧ Pairs (strKind pr w) es.toList kvs ∧ (kvs.map (·.1)).Nodup
mutual
inductive Rep (I : Mp) : Value → D → Prop
  | none : Rep I .none .none
  | bool (b : Bool) : Rep I (.bool b) (.bool b)
  | int (i : Int) (t : Tok) : Rep I (.int i t) (.int i)
  | str (x : Str) (t : Tok) : Rep I (.str x t) (.str x)
  | tup {a : Addr} {vs : List Value} {n : Nat} {ds : List D} : I a = some (tobj vs n) → Reps I vs ds → Rep I (.ref a) (.tup ds)
  | lst {a : Addr} {vs : List Value} {n : Nat} {ds : List D} : I a = some (lobj vs n) → Reps I vs ds → Rep I (.ref a) (.lst ds)
  | sd {a : Addr} {o : Obj} {pr : Program} {w : World} {kvsV : List (Str × Value)} {kvs : List (Str × D)} : I a = some o → (a == sysModules) = false → SdObj pr w o kvsV → KV I kvsV kvs → Rep I (.ref a) (.sd pr w kvs)
  | rng {r : Addr} {a b : Int} {t u v : Tok} : I r = some (robj a b t u v) → Rep I (.ref r) (.rng a b)
  | num (i : Int) (t : Tok) : Rep I (.int i t) (.num i)
  | raw (v : Value) : Rep I v (.raw v)
inductive KV (I : Mp) : List (Str × Value) → List (Str × D) → Prop
  | nil : KV I [] []
  | cons {k : Str} {v : Value} {d : D} {r : List (Str × Value)} {r' : List (Str × D)} : Rep I v d → KV I r r' → KV I ((k, v) :: r) ((k, d) :: r')
inductive Reps (I : Mp) : List Value → List D → Prop
  | nil : Reps I [] []
  | cons {v : Value} {vs : List Value} {d : D} {ds : List D} : Rep I v d → Reps I vs ds → Reps I (v :: vs) (d :: ds)
end
/-- fewer facts: cells may go -/
noncomputable def Few (I J : Mp) : Prop := ∀ b o, I b = some o → (∀ v, o.data ≠ .cell v) → J b = some o
theorem Sub.few {I J : Mp} (hs : Sub I J) : Few I J := fun b o e _ => hs b o e
theorem SdObj.nocell {pr : Program} {w : World} {o : Obj} {kvs : List (Str × Value)} (h : SdObj pr w o kvs) : ∀ v, o.data ≠ .cell v := fun v e => by obtain ⟨_, es, ep, hd, _⟩ := h; rw [hd] at e; cases e
theorem Rep.few {I J : Mp} (hs : Few I J) {v : Value} {d : D} (h : Rep I v d) : Rep J v d :=
  Rep.rec (motive_1 := fun v d _ => Rep J v d) (motive_2 := fun r r' _ => KV J r r') (motive_3 := fun vs ds _ => Reps J vs ds) .none .bool .int .str (fun h _ r => .tup (hs _ _ h nofun) r) (fun h _ r => .lst (hs _ _ h nofun) r) (fun h n o _ r => .sd (hs _ _ h o.nocell) n o r)
    (fun h => .rng (hs _ _ h nofun)) .num .raw .nil (fun _ _ h r => .cons h r) .nil (fun _ _ h r => .cons h r) h
theorem Reps.few {I J : Mp} (hs : Few I J) {vs : List Value} {ds : List D} (h : Reps I vs ds) : Reps J vs ds := by
  induction vs generalizing ds with
  | nil => cases h; exact .nil
  | cons v vs ih => cases h with | cons h r => exact .cons (h.few hs) (ih r)
theorem Rep.mono {I J : Mp} (hs : Sub I J) {v : Value} {d : D} (h : Rep I v d) : Rep J v d := h.few hs.few
theorem Reps.mono {I J : Mp} (hs : Sub I J) {vs : List Value} {ds : List D} (h : Reps I vs ds) : Reps J vs ds := h.few hs.few
section
variable {I : Mp} {v : Value} {d : D} {vs ws : List Value} {ds es : List D}
theorem Reps.length (h : Reps I vs ds) : vs.length = ds.length := by
  induction vs generalizing ds with
  | nil => cases h; rfl
  | cons v vs ih => cases h with | cons _ r => rw [List.length_cons, List.length_cons, ih r]
theorem Reps.append (h : Reps I vs ds) (k : Reps I ws es) : Reps I (vs ++ ws) (ds ++ es) := by
  induction vs generalizing ds with
  | nil => cases h; exact k
  | cons v vs ih => cases h with | cons h r => exact .cons h (ih r)
theorem Reps.get (h : Reps I vs ds) {k : Nat} (hd : ds[k]? = some d) : ∃ v, vs[k]? = some v ∧ Rep I v d := by
  induction vs generalizing ds k with
  | nil => cases h; cases hd
  | cons v vs ih =>
    cases h with
    | cons h r =>
      cases k with
      | zero => cases hd; exact ⟨v, rfl, h⟩
      | succ k => exact ih r hd
theorem Reps.getV (h : Reps I vs ds) {k : Nat} (hv : vs[k]? = some v) : ∃ d, ds[k]? = some d ∧ Rep I v d := by
  induction vs generalizing ds k with
  | nil => cases hv
  | cons u vs ih =>
    cases h with
    | cons h r =>
      cases k with
      | zero => cases hv; exact ⟨_, rfl, h⟩
      | succ k => exact ih r hv
theorem Reps.drop (h : Reps I vs ds) : ∀ k, Reps I (vs.drop k) (ds.drop k) := by
  intro k
  induction k generalizing vs ds with
  | zero => exact h
  | succ k ih => cases h with | nil => exact .nil | cons _ r => exact ih r
theorem Reps.take (h : Reps I vs ds) : ∀ k, Reps I (vs.take k) (ds.take k) := by
  intro k
  induction k generalizing vs ds with
  | zero => exact .nil
  | succ k ih => cases h with | nil => exact .nil | cons q r => exact .cons q (ih r)
theorem Rep.int_inv {i : Int} (h : Rep I v (.int i)) : ∃ t, v = .int i t := by cases h; exact ⟨_, rfl⟩
theorem Rep.str_inv {x : Str} (h : Rep I v (.str x)) : ∃ t, v = .str x t := by cases h; exact ⟨_, rfl⟩
theorem Rep.bool_inv {b : Bool} (h : Rep I v (.bool b)) : v = .bool b := by cases h; rfl
theorem Rep.none_inv (h : Rep I v .none) : v = .none := by cases h; rfl
theorem Rep.raw_inv {u : Value} (h : Rep I v (.raw u)) : v = u := by cases h; rfl
theorem Rep.lst_inv (h : Rep I v (.lst ds)) : ∃ a vs n, v = .ref a ∧ I a = some (lobj vs n) ∧ Reps I vs ds := by cases h with | lst h r => exact ⟨_, _, _, rfl, h, r⟩
theorem Rep.rng_inv {a b : Int} (h : Rep I v (.rng a b)) : ∃ r t u w, v = .ref r ∧ I r = some (robj a b t u w) := by cases h with | rng h => exact ⟨_, _, _, _, rfl, h⟩
theorem Rep.sd_inv {pr : Program} {w : World} {kvs : List (Str × D)} (h : Rep I v (.sd pr w kvs)) : ∃ a o kvsV, v = .ref a ∧ I a = some o ∧ (a == sysModules) = false ∧ SdObj pr w o kvsV ∧ KV I kvsV kvs := by cases h with | sd h n o r => exact ⟨_, _, _, rfl, h, n, o, r⟩
theorem Rep.tup_inv (h : Rep I v (.tup ds)) : ∃ a vs n, v = .ref a ∧ I a = some (tobj vs n) ∧ Reps I vs ds := by cases h with | tup h r => exact ⟨_, _, _, rfl, h, r⟩
end

/-- what a name or a temporary stands for: data, or a mutable object of the frame's own -/
inductive Vl where
  | d (d : D)
  | m (i : Nat)
inductive RepV (I : Mp) (ρ : List Addr) : Value → Vl → Prop
  | d {v : Value} {d : D} : Rep I v d → RepV I ρ v (.d d)
  | m {a : Addr} {i : Nat} : ρ[i]? = some a → RepV I ρ (.ref a) (.m i)
theorem RepV.mono {I J : Mp} {ρ ρ' : List Addr} (hs : Sub I J) (hr : ∀ (i : Nat) (a : Addr), ρ[i]? = some a → ρ'[i]? = some a) {v : Value} {x : Vl} (h : RepV I ρ v x) : RepV J ρ' v x := by
  cases h with
  | d h => exact .d (h.mono hs)
  | m h => exact .m (hr _ _ h)
theorem RepV.d_inv {I : Mp} {ρ : List Addr} {v : Value} {d : D} (h : RepV I ρ v (.d d)) : Rep I v d := by cases h with | d h => exact h
theorem RepV.m_inv {I : Mp} {ρ : List Addr} {v : Value} {i : Nat} (h : RepV I ρ v (.m i)) : ∃ a, v = .ref a ∧ ρ[i]? = some a := by cases h with | m h => exact ⟨_, rfl, h⟩

inductive RepVs (I : Mp) (ρ : List Addr) : List Value → List Vl → Prop
  | nil : RepVs I ρ [] []
  | cons {v : Value} {vs : List Value} {x : Vl} {xs : List Vl} : RepV I ρ v x → RepVs I ρ vs xs → RepVs I ρ (v :: vs) (x :: xs)
theorem RepVs.mono {I J : Mp} {ρ ρ' : List Addr} (hs : Sub I J) (hr : ∀ (i : Nat) (a : Addr), ρ[i]? = some a → ρ'[i]? = some a) {vs : List Value} {xs : List Vl} (h : RepVs I ρ vs xs) : RepVs J ρ' vs xs := by
  induction h with
  | nil => exact .nil
  | cons h _ ih => exact .cons (h.mono hs hr) ih
section
variable {I : Mp} {ρ : List Addr} {v : Value} {x : Vl} {vs ws : List Value} {xs ys : List Vl}
theorem RepVs.length (h : RepVs I ρ vs xs) : vs.length = xs.length := by
  induction h with
  | nil => rfl
  | cons _ _ ih => rw [List.length_cons, List.length_cons, ih]
theorem RepVs.append (h : RepVs I ρ vs xs) (k : RepVs I ρ ws ys) : RepVs I ρ (vs ++ ws) (xs ++ ys) := by
  induction h with
  | nil => exact k
  | cons h _ ih => exact .cons h ih
theorem RepVs.get (h : RepVs I ρ vs xs) {k : Nat} (hx : xs[k]? = some x) : ∃ v, vs[k]? = some v ∧ RepV I ρ v x := by
  induction h generalizing k with
  | nil => cases hx
  | cons h _ ih =>
    cases k with
    | zero => cases hx; exact ⟨_, rfl, h⟩
    | succ k => exact ih hx
theorem RepVs.set (h : RepVs I ρ vs xs) (q : RepV I ρ v x) : ∀ k, RepVs I ρ (vs.set k v) (xs.set k x) := by
  induction h with
  | nil => intro k; exact .nil
  | cons h r ih => intro k; cases k with | zero => exact .cons q r | succ k => exact .cons h (ih k)
theorem RepVs.take (h : RepVs I ρ vs xs) : ∀ k, RepVs I ρ (vs.take k) (xs.take k) := by
  induction h with
  | nil => intro k; cases k <;> exact .nil
  | cons h _ ih => intro k; cases k with | zero => exact .nil | succ k => exact .cons h (ih k)
theorem RepVs.ofReps {ds : List D} (h : Reps I vs ds) : RepVs I ρ vs (ds.map .d) := by
  induction vs generalizing ds with
  | nil => cases h; exact .nil
  | cons v vs ih => cases h with | cons h r => exact .cons (.d h) (ih r)
theorem RepVs.toReps {ds : List D} (h : RepVs I ρ vs (ds.map .d)) : Reps I vs ds := by
  induction ds generalizing vs with
  | nil => cases h; exact .nil
  | cons d ds ih => cases h with | cons h r => exact .cons h.d_inv (ih r)
end

/-- the frame's own mutable objects -/
inductive MO where
  | list (vs : List Vl)
  | idict (kvs : List (Int × D))
  | sdict (kvs : List (Str × D))
  | cell (v : Option Vl)
  | gone
inductive DEnts (I : Mp) : (Str → Int) → List DictEntry → List (Str × D) → Prop
  | nil {hk : Str → Int} : DEnts I hk [] []
  | cons {hk : Str → Int} {e : DictEntry} {es : List DictEntry} {k : Str} {d : D} {kvs : List (Str × D)} : (∃ t, e.key = .str k t) → e.hash = hk k → Rep I e.val d → DEnts I hk es kvs → DEnts I hk (e :: es) ((k, d) :: kvs)
inductive IEnts (I : Mp) : List DictEntry → List (Int × D) → Prop
  | nil : IEnts I [] []
  | cons {e : DictEntry} {es : List DictEntry} {k : Int} {d : D} {kvs : List (Int × D)} : (∃ t, e.key = .int k t) → e.hash = hashInt k → Rep I e.val d → IEnts I es kvs → IEnts I (e :: es) ((k, d) :: kvs)
theorem DEnts.mono {I J : Mp} (hs : Sub I J) {hk : Str → Int} {es : List DictEntry} {kvs : List (Str × D)} (h : DEnts I hk es kvs) : DEnts J hk es kvs := by
  induction h with
  | nil => exact .nil
  | cons a b c _ ih => exact .cons a b (c.mono hs) ih
theorem IEnts.mono {I J : Mp} (hs : Sub I J) {es : List DictEntry} {kvs : List (Int × D)} (h : IEnts I es kvs) : IEnts J es kvs := by
  induction h with
  | nil => exact .nil
  | cons a b c _ ih => exact .cons a b (c.mono hs) ih

inductive MoIs (P : Params) (I : Mp) (ρ : List Addr) : Obj → MO → Prop
  | list {vs : List Value} {n : Nat} {xs : List Vl} : RepVs I ρ vs xs → MoIs P I ρ (lobj vs n) (.list xs)
  | idict {es : List DictEntry} {n : Nat} {kvs : List (Int × D)} : IEnts I es kvs → MoIs P I ρ (dobj es n) (.idict kvs)
  | sdict {es : List DictEntry} {n : Nat} {kvs : List (Str × D)} : DEnts I (PyData.keyHash P) es kvs → MoIs P I ρ (dobj es n) (.sdict kvs)
  | cell0 {o : Obj} : o.data = .cell none → MoIs P I ρ o (.cell none)
  | cell1 {o : Obj} {v : Value} {x : Vl} : o.data = .cell (some v) → RepV I ρ v x → MoIs P I ρ o (.cell (some x))
theorem MoIs.mono {P : Params} {I J : Mp} {ρ ρ' : List Addr} (hs : Sub I J) (hr : ∀ (i : Nat) (a : Addr), ρ[i]? = some a → ρ'[i]? = some a) {o : Obj} {mo : MO} (h : MoIs P I ρ o mo) : MoIs P J ρ' o mo := by
  cases h with
  | list h => exact .list (h.mono hs hr)
  | idict h => exact .idict (h.mono hs)
  | sdict h => exact .sdict (h.mono hs)
  | cell0 h => exact .cell0 h
  | cell1 h k => exact .cell1 h (k.mono hs hr)
theorem MoIs.not_gone {P : Params} {I : Mp} {ρ : List Addr} {o : Obj} (h : MoIs P I ρ o .gone) : False := by cases h

/-! ## The state of a frame -/
structure Sg where
  loc : List (Str × Vl)
  mu : List MO := []
  cix : List (Str × Nat) := []
  fce : List (Str × D) := []

structure Cx where
  prog : Program
  w : World
  A : Around
  env : Env
  B : Mp
  Ia : Mp
  wr : Bool := true

noncomputable def MuOk (c : Cx) (h : Heap) (I : Mp) (ρ : List Addr) (a : Addr) : MO → Prop
  | .gone => ∃ o, I a = some o
  | mo => (∃ o, h.get? a = some o ∧ MoIs c.w.params I ρ o mo) ∧ I a = none ∧ c.B a = none ∧ a ≠ c.env.locals

structure StI (c : Cx) (σ : Sg) (fr : List (Addr × Obj)) (tmp : List (Value × Vl)) (h : Heap) (I : Mp) (ρ : List Addr) (m : Str → Option Value) : Prop where
  base : Sub c.B h.get?
  imm : Sub I h.get?
  orig : ∀ (b : Addr) (o : Obj), I b = some o → c.Ia b = some o ∨ c.B b = none
  ia : Sub c.Ia I
  ns : h.Ns c.env.locals m
  loc : ∀ (x : Str) (v : Vl), σ.loc.lookup x = some v → ∃ u, m x = some u ∧ RepV I ρ u v
  wr : c.wr = true → c.B c.env.locals = none ∧ I c.env.locals = none
  len : ρ.length = σ.mu.length
  mu : ∀ (i : Nat) (a : Addr) (mo : MO), ρ[i]? = some a → σ.mu[i]? = some mo → MuOk c h I ρ a mo
  nd : ρ.Nodup
  cel : ∀ (x : Str) (k : Nat), σ.cix.lookup x = some k → ∃ a, c.env.cells.lookup x = some a ∧ ρ[k]? = some a
  fce : ∀ (x : Str) (d : D), σ.fce.lookup x = some d → ∃ a o u, c.env.cells.lookup x = some a ∧ I a = some o ∧ o.data = .cell (some u) ∧ Rep I u d
  frk : ∀ p ∈ fr, h.get? p.1 = some p.2 ∧ I p.1 = none ∧ c.B p.1 = none ∧ p.1 ≠ c.env.locals ∧ p.1 ∉ ρ
  frnd : (fr.map (·.1)).Nodup
  tmk : ∀ p ∈ tmp, RepV I ρ p.1 p.2

noncomputable def St (c : Cx) (σ : Sg) (fr : List (Addr × Obj)) (tmp : List (Value × Vl)) (h : Heap) : Prop := ∃ I ρ m, StI c σ fr tmp h I ρ m

section
variable {c : Cx} {σ : Sg} {fr : List (Addr × Obj)} {tmp : List (Value × Vl)} {h h' : Heap} {I J : Mp} {ρ : List Addr} {m : Str → Option Value}

theorem MuOk.own {a : Addr} {mo : MO} {o : Obj} (g : h.get? a = some o) (q : MoIs c.w.params I ρ o mo) (n1 : I a = none) (n2 : c.B a = none) (n3 : a ≠ c.env.locals) : MuOk c h I ρ a mo :=
  match mo, q with
  | .gone, q => q.not_gone.elim
  | .list _, q => ⟨⟨o, g, q⟩, n1, n2, n3⟩
  | .idict _, q => ⟨⟨o, g, q⟩, n1, n2, n3⟩
  | .sdict _, q => ⟨⟨o, g, q⟩, n1, n2, n3⟩
  | .cell _, q => ⟨⟨o, g, q⟩, n1, n2, n3⟩
theorem MuOk.un {a : Addr} : ∀ {mo : MO}, MuOk c h I ρ a mo → mo ≠ .gone → (∃ o, h.get? a = some o ∧ MoIs c.w.params I ρ o mo) ∧ I a = none ∧ c.B a = none ∧ a ≠ c.env.locals
  | .gone, _, g => absurd rfl g
  | .list _, x, _ => x
  | .idict _, x, _ => x
  | .sdict _, x, _ => x
  | .cell _, x, _ => x
theorem MuOk.map {ρ' : List Addr} {a : Addr} {mo : MO} (x : MuOk c h I ρ a mo) (hI : Sub I J) (f : ∀ o, h.get? a = some o → I a = none → c.B a = none → a ≠ c.env.locals → h'.get? a = some o ∧ J a = none)
    (q : ∀ o, MoIs c.w.params I ρ o mo → MoIs c.w.params J ρ' o mo) : MuOk c h' J ρ' a mo := by
  by_cases hg : mo = .gone
  · subst hg; exact x.imp fun o => hI a o
  · let ⟨⟨o, g, m⟩, n1, n2, n3⟩ := x.un hg
    exact .own (f o g n1 n2 n3).1 (q o m) (f o g n1 n2 n3).2 n2 n3
theorem MuOk.get {a : Addr} {mo : MO} (x : MuOk c h I ρ a mo) (hi : Sub I h.get?) : ∃ o, h.get? a = some o := by
  by_cases hg : mo = .gone
  · subst hg; exact x.imp fun o => hi a o
  · exact (x.un hg).1.imp fun _ => And.left

theorem StI.mem (S : StI c σ fr tmp h I ρ m) {a : Addr} (ha : a ∈ ρ) : ∃ o, h.get? a = some o := by
  obtain ⟨i, hi, rfl⟩ := List.getElem_of_mem ha
  have hi' : i < σ.mu.length := S.len ▸ hi
  exact (S.mu i _ _ (List.getElem?_eq_getElem hi) (List.getElem?_eq_getElem hi')).get S.imm

theorem StI.extX {os : List (Addr × Obj)} (S : StI c σ (os ++ fr) tmp h I ρ m) (k : ∀ b o, b ∉ os.map (·.1) → h.get? b = some o → h'.get? b = some o) (hIJ : Sub I J) (hJ : Sub J h'.get?)
    (hf : ∀ b o, J b = some o → I b = some o ∨ h.get? b = none) : StI c σ fr tmp h' J ρ m := by
  have jn : ∀ {b o}, h.get? b = some o → I b = none → J b = none := fun {b o} e ei => by
    cases ej : J b with
    | none => rfl
    | some o' => rcases hf b o' ej with x | x
                 · rw [ei] at x; cases x
                 · rw [e] at x; cases x
  have hr : ∀ (i : Nat) (a : Addr), ρ[i]? = some a → ρ[i]? = some a := fun _ _ e => e
  have os_of : ∀ {b}, b ∈ os.map (·.1) → I b = none ∧ c.B b = none ∧ b ≠ c.env.locals ∧ b ∉ ρ := fun {b} hb => by
    obtain ⟨p, hp, rfl⟩ := List.mem_map.mp hb
    exact (S.frk p (List.mem_append_left _ hp)).2
  refine ⟨fun b o e => k b o (fun hb => by rw [(os_of hb).2.1] at e; cases e) (S.base b o e), hJ, fun b o e => ?_, S.ia.trans hIJ, S.ns.at' fun o e => k _ o (fun hb => (os_of hb).2.2.1 rfl) e, fun x v e => ?_, fun e => ⟨(S.wr e).1, ?_⟩, S.len, fun i a mo e1 e2 => ?_, S.nd, S.cel, fun x d e => ?_, fun p hp => ?_, ?_, fun p hp => (S.tmk p hp).mono hIJ hr⟩
  · rcases hf b o e with x | x
    · exact S.orig b o x
    · right
      cases eb : c.B b with
      | none => rfl
      | some o' => rw [S.base b o' eb] at x; cases x
  · obtain ⟨u, h1, h2⟩ := S.loc x v e; exact ⟨u, h1, h2.mono hIJ hr⟩
  · obtain ⟨o, _, _, ho, _⟩ := S.ns; exact jn ho (S.wr e).2
  · exact (S.mu i a mo e1 e2).map hIJ (fun o g n _ _ => ⟨k _ _ (fun hb => (os_of hb).2.2.2 (List.mem_of_getElem? e1)) g, jn g n⟩) fun _ q => q.mono hIJ hr
  · obtain ⟨a, o, u, h1, h2, h3, h4⟩ := S.fce x d e; exact ⟨a, o, u, h1, hIJ _ _ h2, h3, h4.mono hIJ⟩
  · obtain ⟨h1, h2, h3⟩ := S.frk p (List.mem_append_right _ hp)
    have hpo : p.1 ∉ os.map (·.1) := fun hb => by
      have := S.frnd
      rw [List.map_append, List.nodup_append] at this
      exact this.2.2 _ hb _ (List.mem_map_of_mem hp) rfl
    exact ⟨k _ _ hpo h1, jn h1 h2, h3⟩
  · have := S.frnd
    rw [List.map_append, List.nodup_append] at this
    exact this.2.1
theorem StI.ext (S : StI c σ fr tmp h I ρ m) (k : ∀ b o, h.get? b = some o → h'.get? b = some o) (hIJ : Sub I J) (hJ : Sub J h'.get?)
    (hf : ∀ b o, J b = some o → I b = some o ∨ h.get? b = none) : StI c σ fr tmp h' J ρ m := StI.extX (os := []) S (fun b o _ => k b o) hIJ hJ hf

theorem StI.ffr (S : StI c σ fr tmp h I ρ m) : h.objs.size ∉ fr.map (·.1) := fun hm => by
  obtain ⟨p, hp, e⟩ := List.mem_map.mp hm
  exact absurd (Heap.lt_size (e ▸ (S.frk p hp).1)) (Nat.lt_irrefl _)
theorem StI.pushed (S : StI c σ fr tmp h I ρ m) (o : Obj) : StI c σ fr tmp (h.push o) I ρ m := S.ext (fun b o' e => Heap.get?_push_of_some _ e) (Sub.refl I) (fun b o' e => Heap.get?_push_of_some _ (S.imm _ _ e)) fun b o' e => .inl e
theorem StI.sub {tmp' : List (Value × Vl)} (S : StI c σ fr tmp h I ρ m) (hs : ∀ p ∈ tmp', p ∈ tmp) : StI c σ fr tmp' h I ρ m :=
  { S with tmk := fun p hp => S.tmk p (hs p hp) }
theorem StI.push {v : Value} {x : Vl} (S : StI c σ fr tmp h I ρ m) (hv : RepV I ρ v x) : StI c σ fr ((v, x) :: tmp) h I ρ m :=
  { S with tmk := fun p hp => by rcases List.mem_cons.mp hp with rfl | hp; exact hv; exact S.tmk p hp }

theorem upd_none (I : Mp) {a : Addr} {o : Obj} (e : I a = none) : Sub I (fun b => if b = a then some o else I b) := fun b o' e' => by
  by_cases hb : b = a
  · subst hb; rw [e] at e'; cases e'
  · simp [hb, e']

theorem StI.fresh (S : StI c σ fr tmp h I ρ m) : I h.objs.size = none ∧ c.B h.objs.size = none ∧ h.objs.size ≠ c.env.locals ∧ h.objs.size ∉ ρ := by
  have gn : h.get? h.objs.size = none := by
    cases e : h.get? h.objs.size with
    | none => rfl
    | some o => exact absurd (Heap.lt_size e) (Nat.lt_irrefl _)
  refine ⟨?_, ?_, fun e => ?_, fun hm => ?_⟩
  · cases e : I h.objs.size with
    | none => rfl
    | some o => rw [S.imm _ _ e] at gn; cases gn
  · cases e : c.B h.objs.size with
    | none => rfl
    | some o => rw [S.base _ _ e] at gn; cases gn
  · exact absurd S.ns.lt (e ▸ Nat.lt_irrefl _)
  · obtain ⟨o, e⟩ := S.mem hm; rw [gn] at e; cases e

/-- a new object that stays as it is -/
theorem StI.alloc (S : StI c σ fr tmp h I ρ m) (o : Obj) (ho : o.isFreed = false := by rfl) :
    StI c σ fr tmp (h.push o) (fun b => if b = h.objs.size then some o else I b) ρ m := by
  refine S.ext (fun b o' e => Heap.get?_push_of_some _ e) (upd_none I S.fresh.1) (fun b o' e => ?_) fun b o' e => ?_
  · by_cases hb : b = h.objs.size
    · subst hb; simp only [if_true] at e; cases e; exact Heap.get?_push_size _ ho
    · simp only [if_neg hb] at e; exact Heap.get?_push_of_some _ (S.imm _ _ e)
  · by_cases hb : b = h.objs.size
    · subst hb
      right
      cases e' : h.get? h.objs.size with
      | none => rfl
      | some o => exact absurd (Heap.lt_size e') (Nat.lt_irrefl _)
    · simp only [if_neg hb] at e; exact .inl e

theorem snoc_get {ρ : List Addr} {x : Addr} : ∀ (i : Nat) (a : Addr), ρ[i]? = some a → (ρ ++ [x])[i]? = some a := fun i a e => by
  rw [List.getElem?_append_left (List.getElem?_eq_some_iff.mp e).1]; exact e

/-- an object that stands becomes the frame's own -/
theorem StI.addMu {a : Addr} {o : Obj} (S : StI c σ fr tmp h I ρ m) {mo : MO} (hg : h.get? a = some o) (hm : MoIs c.w.params I ρ o mo) (f1 : I a = none) (f2 : c.B a = none) (f3 : a ≠ c.env.locals) (f4 : a ∉ ρ) (f5 : a ∉ fr.map (·.1)) :
    StI c { σ with mu := σ.mu ++ [mo] } fr ((.ref a, .m σ.mu.length) :: tmp) h I (ρ ++ [a]) m := by
  have last : ∀ {α : Type} {l : List α} {x : α}, (l ++ [x])[l.length]? = some x := fun {_ _ _} => by simp
  have hs := Sub.refl I
  refine ⟨S.base, S.imm, S.orig, S.ia, S.ns, fun x v e => (S.loc x v e).imp fun u h => ⟨h.1, h.2.mono hs snoc_get⟩, S.wr, by rw [List.length_append, List.length_append, S.len]; rfl, fun i b mo' e1 e2 => ?_, ?_, fun x k e => (S.cel x k e).imp fun a h => ⟨h.1, snoc_get _ _ h.2⟩, S.fce, fun p hp => ?_, S.frnd, fun p hp => ?_⟩
  · rcases Nat.lt_trichotomy i ρ.length with hi | hi | hi
    · exact (S.mu i b mo' ((List.getElem?_append_left hi).symm.trans e1) ((List.getElem?_append_left (S.len ▸ hi)).symm.trans e2)).map hs (fun _ g n _ _ => ⟨g, n⟩) fun _ q => q.mono hs snoc_get
    · subst hi
      cases Option.some.inj (e1.symm.trans last)
      cases Option.some.inj ((S.len ▸ e2).symm.trans last)
      exact .own hg (hm.mono hs snoc_get) f1 f2 f3
    · have := (List.getElem?_eq_some_iff.mp e1).1
      rw [List.length_append] at this
      exact absurd this (Nat.not_lt.mpr hi)
  · exact List.nodup_append.mpr ⟨S.nd, List.nodup_cons.mpr ⟨List.not_mem_nil, .nil⟩, fun b hb d hd e => f4 (List.mem_singleton.mp hd ▸ e ▸ hb)⟩
  · let ⟨h1, h2, h3, h4, h5⟩ := S.frk p hp
    exact ⟨h1, h2, h3, h4, fun hm' => (List.mem_append.mp hm').elim h5 fun hm' => f5 (List.mem_map.mpr ⟨p, hp, List.mem_singleton.mp hm'⟩)⟩
  · rcases List.mem_cons.mp hp with rfl | hp
    · exact .m (S.len ▸ last)
    · exact (S.tmk p hp).mono hs snoc_get

/-- a new object of the frame's own -/
theorem StI.allocMut (S : StI c σ fr tmp h I ρ m) (o : Obj) {mo : MO} (hm : MoIs c.w.params I ρ o mo) (ho : o.isFreed = false := by rfl) :
    StI c { σ with mu := σ.mu ++ [mo] } fr ((.ref h.objs.size, .m σ.mu.length) :: tmp) (h.push o) I (ρ ++ [h.objs.size]) m :=
  let ⟨f1, f2, f3, f4⟩ := S.fresh
  (S.pushed o).addMu (Heap.get?_push_size _ ho) hm f1 f2 f3 f4 S.ffr

/-- a name of the frame is stored -/
theorem StI.setLoc (S : StI c σ fr tmp h I ρ m) (hw : c.wr = true) {x : Str} {v : Value} {y : Vl} (hv : RepV I ρ v y) (hn : h'.Ns c.env.locals (fun z => if z = x then some v else m z)) (hs : Heap.SameBut c.env.locals h h') :
    StI c { σ with loc := (x, y) :: σ.loc } fr tmp h' I ρ (fun z => if z = x then some v else m z) := by
  obtain ⟨w1, w2⟩ := S.wr hw
  refine ⟨fun b o e => (hs.2 b (by rintro rfl; rw [w1] at e; cases e)).trans (S.base b o e), fun b o e => (hs.2 b (by rintro rfl; rw [w2] at e; cases e)).trans (S.imm b o e), S.orig, S.ia, hn, fun z u e => ?_, S.wr, S.len,
    fun i a mo e1 e2 => ?_, S.nd, S.cel, S.fce, fun p hp => ?_, S.frnd, S.tmk⟩
  · have e' : ((x, y) :: σ.loc).lookup z = some u := e
    rw [List.lookup_cons] at e'
    by_cases hz : z = x
    · subst hz; simp at e'; subst e'; exact ⟨v, by simp, hv⟩
    · have hb : (z == x) = false := beq_eq_false_iff_ne.mpr hz
      rw [hb] at e'; simp only [if_neg hz]; exact S.loc z u e'
  · exact (S.mu i a mo e1 e2).map (Sub.refl I) (fun o g n1 n2 n3 => ⟨(hs.2 a n3).trans g, n1⟩) fun _ q => q
  · obtain ⟨h1, h2, h3, h4, h5⟩ := S.frk p hp; exact ⟨(hs.2 _ h4).trans h1, h2, h3, h4, h5⟩

/-- an object of the frame's own is changed -/
theorem StI.nei (S : StI c σ fr tmp h I ρ m) {i j : Nat} {a b : Addr} (hi : ρ[i]? = some a) (hj : ρ[j]? = some b) (hij : j ≠ i) : b ≠ a := fun e =>
  hij ((List.getElem_inj S.nd).mp ((List.getElem?_eq_some_iff.mp hj).2.trans (e.trans (List.getElem?_eq_some_iff.mp hi).2.symm)))
theorem StI.setMu (S : StI c σ fr tmp h I ρ m) {i : Nat} {a : Addr} {mo mo' : MO} {o : Obj} (hi : ρ[i]? = some a) (hm : σ.mu[i]? = some mo) (hg : mo ≠ .gone) (hn : h'.get? a = some o) (hs : Heap.SameBut a h h') (hq : MoIs c.w.params I ρ o mo') :
    StI c { σ with mu := σ.mu.set i mo' } fr tmp h' I ρ m := by
  obtain ⟨_, n1, n2, n3⟩ := (S.mu i a mo hi hm).un hg
  refine ⟨fun b o e => (hs.2 b (by rintro rfl; rw [n2] at e; cases e)).trans (S.base b o e), fun b o e => (hs.2 b (by rintro rfl; rw [n1] at e; cases e)).trans (S.imm b o e), S.orig, S.ia, S.ns.sameBut hs (Ne.symm n3), S.loc, S.wr, S.len.trans List.length_set.symm,
    fun j b mb e1 e2 => ?_, S.nd, S.cel, S.fce, fun p hp => ?_, S.frnd, S.tmk⟩
  · by_cases hj : j = i
    · subst hj
      cases Option.some.inj (hi.symm.trans e1)
      cases Option.some.inj ((List.getElem?_set_self (List.getElem?_eq_some_iff.mp hm).1).symm.trans e2)
      exact .own hn hq n1 n2 n3
    · exact (S.mu j b mb e1 ((List.getElem?_set_ne (Ne.symm hj)).symm.trans e2)).map (Sub.refl I) (fun _ g n _ _ => ⟨(hs.2 b (S.nei hi e1 hj)).trans g, n⟩) fun _ q => q
  · let ⟨h1, h5⟩ := S.frk p hp
    exact ⟨(hs.2 _ fun e : p.1 = a => h5.2.2.2 (e ▸ List.mem_of_getElem? hi)).trans h1, h5⟩

/-- an object held aside (an iterator) -/
theorem StI.addFr {a : Addr} {o : Obj} (S : StI c σ fr tmp h I ρ m) (hg : h.get? a = some o) (h1 : I a = none) (h2 : c.B a = none) (h3 : a ≠ c.env.locals) (h4 : a ∉ ρ) (h5 : a ∉ fr.map (·.1)) : StI c σ ((a, o) :: fr) tmp h I ρ m :=
  { S with
    frk := fun p hp => (List.mem_cons.mp hp).elim (fun e => e ▸ ⟨hg, h1, h2, h3, h4⟩) (S.frk p)
    frnd := List.nodup_cons.mpr ⟨h5, S.frnd⟩ }
theorem StI.pushFr (S : StI c σ fr tmp h I ρ m) (o : Obj) (ho : o.isFreed = false := by rfl) : StI c σ ((h.objs.size, o) :: fr) tmp (h.push o) I ρ m :=
  let ⟨f1, f2, f3, f4⟩ := S.fresh
  (S.pushed o).addFr (Heap.get?_push_size _ ho) f1 f2 f3 f4 S.ffr
theorem StI.dropFr {a : Addr} {o : Obj} (S : StI c σ ((a, o) :: fr) tmp h I ρ m) (k : Heap.ExtBut a h h') : StI c σ fr tmp h' I ρ m :=
  have n2 : I a = none := (S.frk _ (.head _)).2.1
  StI.extX (os := [(a, o)]) S (fun b o' hb => k b o' fun e => hb (e ▸ .head _)) (Sub.refl I) (fun b o' e => k b o' (fun e' => by rw [e', n2] at e; cases e) (S.imm b o' e)) fun _ _ => .inl
theorem StI.setFr {a : Addr} {o o' : Obj} (S : StI c σ ((a, o) :: fr) tmp h I ρ m) (hn : h'.get? a = some o') (hs : Heap.SameBut a h h') : StI c σ ((a, o') :: fr) tmp h' I ρ m :=
  let ⟨_, n1, n2, n3, n4⟩ := S.frk _ (.head _)
  (S.dropFr fun b o'' hb e => (hs.2 b hb).trans e).addFr hn n1 n2 n3 n4 (List.nodup_cons.mp S.frnd).1
/-- an object held aside becomes data -/
theorem StI.freezeFr {a : Addr} {o : Obj} (S : StI c σ ((a, o) :: fr) tmp h I ρ m) : StI c σ fr tmp h (fun b => if b = a then some o else I b) ρ m := by
  obtain ⟨g, n2, n3, n4, n5⟩ := S.frk _ (List.mem_cons_self ..)
  have n2 : I a = none := n2
  have n3 : c.B a = none := n3
  have n4 : a ≠ c.env.locals := n4
  have n5 : a ∉ ρ := n5
  have hs := upd_none I (o := o) n2
  have hr : ∀ (i : Nat) (b : Addr), ρ[i]? = some b → ρ[i]? = some b := fun _ _ e => e
  refine ⟨S.base, fun b o' e => ?_, fun b o' e => ?_, S.ia.trans hs, S.ns, fun x v e => ?_, fun e => ⟨(S.wr e).1, ?_⟩, S.len, fun j b mb e1 e2 => ?_, S.nd, S.cel, fun x d e => ?_, fun p hp => ?_, ?_, fun p hp => (S.tmk p hp).mono hs hr⟩
  · by_cases hb : b = a
    · subst hb; simp only [if_true] at e; cases e; exact g
    · simp only [if_neg hb] at e; exact S.imm _ _ e
  · by_cases hb : b = a
    · subst hb; exact .inr n3
    · simp only [if_neg hb] at e; exact S.orig _ _ e
  · obtain ⟨u, h1, h2⟩ := S.loc x v e; exact ⟨u, h1, h2.mono hs hr⟩
  · simp only [if_neg (Ne.symm n4)]; exact (S.wr e).2
  · exact (S.mu j b mb e1 e2).map hs (fun _ g n _ _ => ⟨g, (if_neg fun e : b = a => n5 (e ▸ List.mem_of_getElem? e1)).trans n⟩) fun _ q => q.mono hs hr
  · obtain ⟨a', o', u, h1, h2, h3, h4⟩ := S.fce x d e; exact ⟨a', o', u, h1, hs _ _ h2, h3, h4.mono hs⟩
  · obtain ⟨h1, h2, h3, h4, h5⟩ := S.frk p (List.mem_cons_of_mem _ hp)
    refine ⟨h1, ?_, h3, h4, h5⟩
    have hpa : p.1 ≠ a := by
      have := S.frnd
      rw [List.map_cons, List.nodup_cons] at this
      rintro e
      exact this.1 (List.mem_map.mpr ⟨p, hp, e⟩)
    simp only [if_neg hpa]; exact h2
  · have := S.frnd; rw [List.map_cons, List.nodup_cons] at this; exact this.2
end
end Mine
end TCore

section TJudg
open PySem PySem.W PySem.Calls
set_option autoImplicit false
set_option linter.unusedVariables false
set_option Elab.async false
namespace Mine

section
variable {c : Cx} {σ : Sg} {fr : List (Addr × Obj)} {tmp tmp' : List (Value × Vl)} {h h' : Heap}

theorem St.sub (S : St c σ fr tmp h) (hs : ∀ p ∈ tmp', p ∈ tmp) : St c σ fr tmp' h := let ⟨I, ρ, m, S⟩ := S; ⟨I, ρ, m, S.sub hs⟩
theorem St.imm {v : Value} {d : D} (S : St c σ fr tmp h) (hv : ∀ I, Rep I v d) : St c σ fr ((v, .d d) :: tmp) h := let ⟨I, ρ, m, S⟩ := S; ⟨I, ρ, m, S.push (.d (hv I))⟩
theorem St.pop {p : Value × Vl} (S : St c σ fr (p :: tmp) h) : St c σ fr tmp h := S.sub fun _ h => List.mem_cons_of_mem _ h
theorem St.pop2 {p q : Value × Vl} (S : St c σ fr (p :: q :: tmp) h) : St c σ fr tmp h := S.pop.pop
theorem St.int {v : Value} {i : Int} (S : St c σ fr tmp h) (hm : (v, .d (.int i)) ∈ tmp) : ∃ t, v = .int i t := let ⟨_, _, _, S⟩ := S; (S.tmk _ hm).d_inv.int_inv
theorem St.str {v : Value} {x : Str} (S : St c σ fr tmp h) (hm : (v, .d (.str x)) ∈ tmp) : ∃ t, v = .str x t := let ⟨_, _, _, S⟩ := S; (S.tmk _ hm).d_inv.str_inv
theorem St.bool {v : Value} {b : Bool} (S : St c σ fr tmp h) (hm : (v, .d (.bool b)) ∈ tmp) : v = .bool b := let ⟨_, _, _, S⟩ := S; (S.tmk _ hm).d_inv.bool_inv
theorem St.none {v : Value} (S : St c σ fr tmp h) (hm : (v, .d .none) ∈ tmp) : v = .none := let ⟨_, _, _, S⟩ := S; (S.tmk _ hm).d_inv.none_inv
theorem St.raw {v u : Value} (S : St c σ fr tmp h) (hm : (v, .d (.raw u)) ∈ tmp) : v = u := let ⟨_, _, _, S⟩ := S; (S.tmk _ hm).d_inv.raw_inv
theorem St.base (S : St c σ fr tmp h) : Sub c.B h.get? := let ⟨_, _, _, S⟩ := S; S.base
end

theorem vs1 {α : Type} {P : List α → Prop} (h : ∀ a, P [a]) : ∀ vs : List α, vs.length = 1 → P vs
  | [a], _ => h a
theorem vs2 {α : Type} {P : List α → Prop} (h : ∀ a b, P [a, b]) : ∀ vs : List α, vs.length = 2 → P vs
  | [a, b], _ => h a b
theorem vs3 {α : Type} {P : List α → Prop} (h : ∀ a b c, P [a, b, c]) : ∀ vs : List α, vs.length = 3 → P vs
  | [a, b, c], _ => h a b c
theorem tkne {t : Nat} (h : 1 ≤ t) : t ≠ 0 := by omega

/-! ## Judgments -/
noncomputable abbrev Cx.M (c : Cx) : Model := model c.prog c.w

/-- a tree that takes the temporaries `tmp` gives the value `x` and the state `σ'` -/
noncomputable def Cm (c : Cx) (σ : Sg) (tmp : List (Value × Vl)) (t : Sem Value) (x : Vl) (σ' : Sg) : Prop :=
  ∀ (fr : List (Addr × Obj)) (tm : List (Value × Vl)) (s : Shared) (Q : Value → Shared → Prop) (E : Value → Shared → Prop), 1 ≤ s.toks → St c σ fr (tmp ++ tm) s.heap →
    (∀ v h' tk, 1 ≤ tk → St c σ' fr ((v, x) :: tm) h' → Q v { s with heap := h', toks := tk }) → wpAny c.M c.A t Q E s
noncomputable def Ev (c : Cx) (σ : Sg) (e : Expr) (x : Vl) (σ' : Sg) : Prop := Cm c σ [] (eval e c.env) x σ'
noncomputable def Op1 (c : Cx) (σ : Sg) (a : Vl) (t : Value → Sem Value) (x : Vl) (σ' : Sg) : Prop := ∀ v, Cm c σ [(v, a)] (t v) x σ'
noncomputable def Op2 (c : Cx) (σ : Sg) (a b : Vl) (t : Value → Value → Sem Value) (x : Vl) (σ' : Sg) : Prop := ∀ v w, Cm c σ [(w, b), (v, a)] (t v w) x σ'
/-- a test -/
noncomputable def Tr (c : Cx) (σ : Sg) (e : Expr) (b : Bool) (σ' : Sg) : Prop :=
  ∀ (fr : List (Addr × Obj)) (tm : List (Value × Vl)) (s : Shared) (Q : Bool → Shared → Prop) (E : Value → Shared → Prop), 1 ≤ s.toks → St c σ fr tm s.heap →
    (∀ h' tk, 1 ≤ tk → St c σ' fr tm h' → Q b { s with heap := h', toks := tk }) → wpAny c.M c.A (isTrue e c.env (eval e c.env)) Q E s
/-- arguments, from left to right; the last stands first among the temporaries -/
noncomputable def Evs (c : Cx) (σ : Sg) (es : List Expr) (xs : List Vl) (σ' : Sg) : Prop :=
  ∀ (fr : List (Addr × Obj)) (tm : List (Value × Vl)) (s : Shared) (Q : List Value → Shared → Prop) (E : Value → Shared → Prop) (pos : Pos), 1 ≤ s.toks → St c σ fr tm s.heap →
    (∀ vs h' tk, vs.length = xs.length → 1 ≤ tk → St c σ' fr (vs.zip xs ++ tm) h' → Q vs { s with heap := h', toks := tk }) → wpAny c.M c.A (spliced (backTo pos (starEach es c.env))) Q E s

/-- tokens only grow: a leaf need not say so -/
theorem Cm.mk {c : Cx} {σ : Sg} {tmp : List (Value × Vl)} {t : Sem Value} {x : Vl} {σ' : Sg}
    (h : ∀ (fr : List (Addr × Obj)) (tm : List (Value × Vl)) (s : Shared) (Q : Value → Shared → Prop) (E : Value → Shared → Prop), 1 ≤ s.toks → St c σ fr (tmp ++ tm) s.heap →
      (∀ v h' tk, St c σ' fr ((v, x) :: tm) h' → Q v { s with heap := h', toks := tk }) → wpAny c.M c.A t Q E s) : Cm c σ tmp t x σ' := fun fr tm s Q E ht S hQ =>
  wpAny_mono (wpAny_toks_of ht (h fr tm s (fun v s' => 1 ≤ s'.toks → Q v s') E ht S fun v h' tk S' ht' => hQ v h' tk ht' S')) (fun _ _ q => q.2 q.1) fun _ _ e => e.2

inductive FD where
  | next | brk | cont
  | ret (x : Vl)
/-- data that are held aside while a statement runs -/
noncomputable def dt (tm : List (Value × D)) : List (Value × Vl) := tm.map fun p => (p.1, .d p.2)
noncomputable def FlowSt (c : Cx) (σ : Sg) (fr : List (Addr × Obj)) (tm : List (Value × D)) : Flow → FD → Heap → Prop
  | .next, .next, h => St c σ fr (dt tm) h
  | .brk, .brk, h => St c σ fr (dt tm) h
  | .cont, .cont, h => St c σ fr (dt tm) h
  | .ret v, .ret x, h => St c σ fr ((v, x) :: dt tm) h
  | _, _, _ => False
noncomputable def Post (c : Cx) (fr : List (Addr × Obj)) (tm : List (Value × D)) (R : FD → Sg → Prop) (Q : Flow → Shared → Prop) (s : Shared) : Prop :=
  ∀ f fd σ' h' tk, 1 ≤ tk → R fd σ' → FlowSt c σ' fr tm f fd h' → Q f { s with heap := h', toks := tk }
noncomputable def Wx (c : Cx) (σ : Sg) (st : Stmt) (R : FD → Sg → Prop) : Prop :=
  ∀ (fr : List (Addr × Obj)) (tm : List (Value × D)) (s : Shared) (Q : Flow → Shared → Prop) (E : Value → Shared → Prop), 1 ≤ s.toks → St c σ fr (dt tm) s.heap → Post c fr tm R Q s → wpAny c.M c.A (exec st c.env) Q E s
noncomputable def Ws (c : Cx) (σ : Sg) (sts : List Stmt) (R : FD → Sg → Prop) : Prop :=
  ∀ (fr : List (Addr × Obj)) (tm : List (Value × D)) (s : Shared) (Q : Flow → Shared → Prop) (E : Value → Shared → Prop), 1 ≤ s.toks → St c σ fr (dt tm) s.heap → Post c fr tm R Q s → wpAny c.M c.A (execs sts c.env) Q E s
/-- a value goes to a target -/
noncomputable def As (c : Cx) (σ : Sg) (t : Expr) (x : Vl) (σ' : Sg) : Prop :=
  ∀ (fr : List (Addr × Obj)) (tm : List (Value × Vl)) (s : Shared) (Q : Unit → Shared → Prop) (E : Value → Shared → Prop) (v : Value), 1 ≤ s.toks → St c σ fr ((v, x) :: tm) s.heap →
    (∀ h' tk, 1 ≤ tk → St c σ' fr tm h' → Q () { s with heap := h', toks := tk }) → wpAny c.M c.A (assign t c.env v) Q E s

/-! the judgments once more, closed to the unifier -/
structure Ew (c : Cx) (σ : Sg) (e : Expr) (x : Vl) (σ' : Sg) : Prop where run : Ev c σ e x σ'
structure EWs (c : Cx) (σ : Sg) (es : List Expr) (xs : List Vl) (σ' : Sg) : Prop where run : Evs c σ es xs σ'
structure WX (c : Cx) (σ : Sg) (st : Stmt) (R : FD → Sg → Prop) : Prop where run : Wx c σ st R
structure WS (c : Cx) (σ : Sg) (sts : List Stmt) (R : FD → Sg → Prop) : Prop where run : Ws c σ sts R
structure TrW (c : Cx) (σ : Sg) (e : Expr) (b : Bool) (σ' : Sg) : Prop where run : Tr c σ e b σ'
structure AsW (c : Cx) (σ : Sg) (t : Expr) (x : Vl) (σ' : Sg) : Prop where run : As c σ t x σ'
theorem FlowSt.inv {c : Cx} {σ : Sg} {fr : List (Addr × Obj)} {tm : List (Value × D)} {f : Flow} {fd : FD} {h : Heap} (S : FlowSt c σ fr tm f fd h) :
    (f = .next ∧ fd = .next ∧ St c σ fr (dt tm) h) ∨ (f = .brk ∧ fd = .brk ∧ St c σ fr (dt tm) h) ∨ (f = .cont ∧ fd = .cont ∧ St c σ fr (dt tm) h) ∨ ∃ v x, f = .ret v ∧ fd = .ret x ∧ St c σ fr ((v, x) :: dt tm) h := by
  cases f <;> cases fd <;> first | exact S.elim | exact .inl ⟨rfl, rfl, S⟩ | exact .inr (.inl ⟨rfl, rfl, S⟩) | exact .inr (.inr (.inl ⟨rfl, rfl, S⟩)) | exact .inr (.inr (.inr ⟨_, _, rfl, rfl, S⟩))

/-- what a state says, another says too -/
noncomputable def Sle (c : Cx) (σ σ' : Sg) : Prop := ∀ (fr : List (Addr × Obj)) (tm : List (Value × D)) (h : Heap), St c σ fr (dt tm) h → St c σ' fr (dt tm) h
theorem Sle.refl {c : Cx} (σ : Sg) : Sle c σ σ := fun _ _ _ S => S
theorem Sle.trans {c : Cx} {σ σ' σ'' : Sg} (h : Sle c σ σ') (k : Sle c σ' σ'') : Sle c σ σ'' := fun fr tm h' S => k fr tm h' (h fr tm h' S)

section
variable {c : Cx} {σ σ₁ σ₂ σ₃ : Sg} {R R' : FD → Sg → Prop}

/-! ### statements -/
theorem Ws.nil (h : R .next σ) : Ws c σ [] R := fun fr tm s Q E ht S hQ => wpAny_execs_nil (hQ .next .next σ s.heap s.toks ht h S)
theorem Ws.cons {st : Stmt} {rest : List Stmt} (h : Wx c σ st (fun fd σ' => match fd with | .next => Ws c σ' rest R | fd => R fd σ')) : Ws c σ (st :: rest) R := fun fr tm s Q E ht S hQ => by
  refine wpAny_execs_cons (h fr tm s _ E ht S fun f fd σ' h' tk ht hr hf => ?_)
  rcases hf.inv with ⟨rfl, rfl, S'⟩ | ⟨rfl, rfl, S'⟩ | ⟨rfl, rfl, S'⟩ | ⟨v, x, rfl, rfl, S'⟩
  · exact hr fr tm _ Q E ht S' hQ
  · exact hQ .brk .brk σ' h' tk ht hr S'
  · exact hQ .cont .cont σ' h' tk ht hr S'
  · exact hQ (.ret v) (.ret x) σ' h' tk ht hr S'
theorem Wx.mono {st : Stmt} (h : Wx c σ st R) (hr : ∀ fd σ', R fd σ' → R' fd σ') : Wx c σ st R' := fun fr tm s Q E ht S hQ => h fr tm s Q E ht S fun f fd σ' h' tk ht r => hQ f fd σ' h' tk ht (hr fd σ' r)
theorem Ws.le {sts : List Stmt} (hs : Sle c σ σ₁) (h : Ws c σ₁ sts R) : Ws c σ sts R := fun fr tm s Q E ht S hQ => h fr tm s Q E ht (hs _ _ _ S) hQ
/-- a statement that falls through, its state told -/
theorem Ws.step {st : Stmt} {rest : List Stmt} (h : Wx c σ st (fun fd σ' => fd = .next ∧ Sle c σ' σ₁)) (k : Ws c σ₁ rest R) : Ws c σ (st :: rest) R :=
  Ws.cons (h.mono fun fd σ' ⟨e, hs⟩ => by subst e; exact k.le hs)

theorem Wx.ret {e : Expr} {pos : Pos} {x : Vl} (h : Ev c σ e x σ₁) (hr : R (.ret x) σ₁) : Wx c σ (.Return (some e) pos) R := fun fr tm s Q E ht S hQ =>
  wpAny_Return_some (h fr (dt tm) s _ E ht S fun v h' tk ht S' => hQ (.ret v) (.ret x) σ₁ h' tk ht hr S')
theorem Wx.if_ {test : Expr} {body orelse : List Stmt} {pos : Pos} {b : Bool} (h : Tr c σ test b σ₁) (hbt : b = true → Ws c σ₁ body R) (hbf : b = false → Ws c σ₁ orelse R) : Wx c σ (.If test body orelse pos) R := fun fr tm s Q E ht S hQ => by
  refine wpAny_If (h fr (dt tm) s _ E ht S fun h' tk ht S' => ?_)
  cases b with
  | true => simp only [if_true]; exact hbt rfl fr tm _ Q E ht S' hQ
  | false => simp only [Bool.false_eq_true, if_false]; exact hbf rfl fr tm _ Q E ht S' hQ
theorem Wx.ite {test : Expr} {body orelse : List Stmt} {pos : Pos} {b : Bool} (h : Tr c σ test b σ₁) (k : Ws c σ₁ (if b then body else orelse) R) : Wx c σ (.If test body orelse pos) R :=
  Wx.if_ h (fun e => by subst e; exact k) (fun e => by subst e; exact k)
theorem Wx.assign_name {x : Str} {p pos : Pos} {e : Expr} {y : Vl} (h : Ev c σ e y σ₁) (ha : As c σ₁ (.Name x p) y σ₂) (hr : R .next σ₂) (hs : swapsWith e (some (.Name x p)) pos.line c.env = pure false := by rfl) :
    Wx c σ (.Assign [.Name x p] e pos) R := fun fr tm s Q E ht S hQ => by
  rw [exec_Assign_Name c.env x p e pos hs]
  have e0 : assign (.Name x p) c.env = fun v => (do standAt p; bindName c.env x v) := rfl
  refine wpAny_bind (wpAny_standAt (wpAny_bind (h fr (dt tm) s _ E ht S fun v h' tk ht S' => ?_)))
  have := ha fr (dt tm) { s with heap := h', toks := tk } (fun _ s' => Q .next s') E v ht S' fun h'' tk' ht S'' => hQ .next .next σ₂ h'' tk' ht hr S''
  rw [e0] at this
  intro Γ p' hΓ
  have := this Γ p' hΓ
  rw [Sem.wp_bind'] at this ⊢
  refine Sem.wp_mono _ _ _ (fun a p1 s1 h1 => ?_) (fun _ _ _ x => x) _ _ this
  rw [Sem.wp_bind']
  exact Sem.wp_mono _ _ _ (fun a p2 s2 h2 => h2) (fun _ _ _ x => x) _ _ h1
theorem WX.expr {e : Expr} {pos : Pos} (h : Ew c σ e (.d .none) σ₁) (hr : R .next σ₁) (hi : interactive c.env = false := by rfl) (hs : swapsWith e none pos.line c.env = pure false := by rfl) : WX c σ (.Expr e pos) R := ⟨fun fr tm s Q E ht S hQ =>
  wpAny_Expr (h.run fr (dt tm) s _ E ht S fun v h' tk ht S' => by rw [S'.none (.head _)]; exact hQ .next .next σ₁ h' tk ht hr S'.pop) hi hs⟩
theorem Wx.assign_tup {ts : List Expr} {k : Nat} {tp pos : Pos} {e : Expr} {y : Vl} (h : Ev c σ e y σ₁) (ha : As c σ₁ (.Tuple ts k tp) y σ₂) (hr : R .next σ₂)
    (hs : swapsWithSole [.Tuple ts k tp] e pos.line c.env = pure false := by rfl) (hw : swappedStores [.Tuple ts k tp] e c.env = pure none := by rfl) :
    Wx c σ (.Assign [.Tuple ts k tp] e pos) R := fun fr tm s Q E ht S hQ =>
  PyProof.Rows.Assign_Tuple (h fr (dt tm) s _ E ht S fun v h' tk ht S' => ha fr (dt tm) _ _ E v ht S' fun h'' tk' ht S'' => hQ .next .next σ₂ h'' tk' ht hr S'') hs hw

/-! ### targets -/
theorem As.local_ {x : Str} {p : Pos} {y : Vl} (hw : c.wr = true) (hl : c.env.kindOf x = some .local) (hp : (c.env.scope.kind == .class || (c.env.scope.kind == .module && c.env.locals != c.env.globals)) = false := by rfl) :
    As c σ (.Name x p) y { σ with loc := (x, y) :: σ.loc } := fun fr tm s Q E v ht S hQ => by
  obtain ⟨I, ρ, m, S⟩ := S
  exact wpAny_assign_Name (wpAny_storeName_local hl S.ns (fun h' hn hs => hQ h' _ (by show 1 ≤ s.toks + 1; omega) ⟨I, ρ, _, (S.sub fun _ hq => .tail _ hq).setLoc hw (S.tmk _ (.head _)) hn hs⟩) hp)
theorem AsW.cell_ {x : Str} {p : Pos} {y : Vl} {k : Nat} {o : Option Vl} (hx : σ.cix.lookup x = some k) (hm : σ.mu[k]? = some (.cell o)) (hl : c.env.kindOf x = some .cell) (hk : c.env.scope.kind = .function := by rfl) : AsW c σ (.Name x p) y { σ with mu := σ.mu.set k (.cell (some y)) } := ⟨fun fr tm s Q E v ht S hQ => by
  obtain ⟨I, ρ, m, S⟩ := S
  obtain ⟨a, h1, h2⟩ := S.cel x k hx
  obtain ⟨⟨o', g, q⟩, _⟩ := S.mu k a _ h2 hm
  have hv := S.tmk _ (.head _)
  have go : ∀ v₀, s.heap.IsCell a v₀ → wpAny c.M c.A (assign (.Name x p) c.env v) Q E s := fun v₀ hc =>
    wpAny_assign_Name (wpAny_storeName_cell hk hl h1 hc fun h' ⟨o'', g', hd⟩ hs => hQ h' _ ht ⟨I, ρ, m, (S.sub fun _ hq => .tail _ hq).setMu h2 hm (by simp) g' hs (.cell1 hd hv)⟩)
  cases q with
  | cell0 hd => exact go _ ⟨o', g, hd⟩
  | cell1 hd _ => exact go _ ⟨o', g, hd⟩⟩

/-! ### expressions -/
theorem Ev.const_int {i : Int} {k : Nat} {p : Pos} : Ev c σ (.Constant (.int i) k p) (.d (.int i)) σ := fun fr tm s Q E ht S hQ =>
  wpAny_Constant_int (hQ _ s.heap (s.toks + 1) (by first | decide | omega) (S.imm fun _ => .int _ _))
theorem Ev.const_str {x : Str} {k : Nat} {p : Pos} : Ev c σ (.Constant (.str x) k p) (.d (.str x)) σ := fun fr tm s Q E ht S hQ =>
  Constant_str (hQ _ s.heap (s.toks + 1) (by first | decide | omega) (S.imm fun _ => .str _ _))
theorem Ev.const_none {k : Nat} {p : Pos} : Ev c σ (.Constant .none k p) (.d .none) σ := fun fr tm s Q E ht S hQ =>
  wpAny_pure (hQ _ s.heap s.toks ht (S.imm fun _ => .none))
theorem Ev.const_bool {b : Bool} {k : Nat} {p : Pos} : Ev c σ (.Constant (.bool b) k p) (.d (.bool b)) σ := fun fr tm s Q E ht S hQ =>
  wpAny_pure (hQ _ s.heap s.toks ht (S.imm fun _ => .bool _))

theorem Ev.local_ {x : Str} {p : Pos} {y : Vl} (hv : σ.loc.lookup x = some y) (hl : c.env.kindOf x = some .local) (hk : c.env.scope.kind = .function) (hd : (x == ("__debug__" : Str)) = false) :
    Ev c σ (.Name x p) y σ := fun fr tm s Q E ht S hQ => by
  obtain ⟨I, ρ, m, S⟩ := S
  obtain ⟨u, h1, h2⟩ := S.loc x y hv
  exact wpAny_Name (wpAny_loadName_local hk hl S.ns h1 (hQ u s.heap s.toks ht ⟨I, ρ, m, S.push h2⟩)) hd

theorem Ev.cell_ {x : Str} {p : Pos} {y : Vl} {k : Nat} (hx : σ.cix.lookup x = some k) (hv : σ.mu[k]? = some (.cell (some y))) (hl : c.env.kindOf x = some .cell) (hk : c.env.scope.kind = .function) (hd : (x == ("__debug__" : Str)) = false) :
    Ev c σ (.Name x p) y σ := fun fr tm s Q E ht S hQ => by
  obtain ⟨I, ρ, m, S⟩ := S
  obtain ⟨a, h1, h2⟩ := S.cel x k hx
  obtain ⟨⟨o, g, q⟩, _⟩ := S.mu k a _ h2 hv
  cases q with
  | cell1 hd' q => exact wpAny_Name (wpAny_loadName_cell hk hl h1 ⟨o, g, hd'⟩ (hQ _ s.heap s.toks ht ⟨I, ρ, m, S.push q⟩)) hd

theorem Ev.fce_ {x : Str} {p : Pos} {d : D} (hx : σ.fce.lookup x = some d) (hl : c.env.kindOf x = some .cell) (hk : c.env.scope.kind = .function) (hd : (x == ("__debug__" : Str)) = false) :
    Ev c σ (.Name x p) (.d d) σ := fun fr tm s Q E ht S hQ => by
  obtain ⟨I, ρ, m, S⟩ := S
  obtain ⟨a, o, u, h1, h2, h3, h4⟩ := S.fce x d hx
  exact wpAny_Name (wpAny_loadName_cell hk hl h1 ⟨o, S.imm _ _ h2, h3⟩ (hQ _ s.heap s.toks ht ⟨I, ρ, m, S.push (.d h4)⟩)) hd

/-- a namespace, as a part of the heap that is kept -/
noncomputable def NsM (B : Mp) (a : Addr) (m : Str → Option Value) : Prop := ∃ o es ep, B a = some o ∧ o.data = .dict es ep ∧ StrKeys es ∧ ∀ name, nsFind es name = m name
theorem NsM.mono {B B' : Mp} {a : Addr} {m : Str → Option Value} (x : NsM B a m) (k : Sub B B') : NsM B' a m := let ⟨o, es, ep, e, r⟩ := x; ⟨o, es, ep, k _ _ e, r⟩
theorem NsM.ns {h : Heap} {a : Addr} {m : Str → Option Value} (x : NsM h.get? a m) : h.Ns a m := x
noncomputable def NoLimM (B : Mp) : Prop := ∃ mc, NsM B cStatics mc ∧ mc "sys.recursionlimit" = none
theorem NoLimM.mono {B B' : Mp} (x : NoLimM B) (k : Sub B B') : NoLimM B' := let ⟨mc, a, b⟩ := x; ⟨mc, a.mono k, b⟩

theorem Ev.glob {x : Str} {p : Pos} {mg : Str → Option Value} {v : Value} {d : D} (hg : NsM c.B c.env.globals mg) (hv : mg x = some v) (hr : ∀ I, Rep I v d) (hl : c.env.kindOf x = some .globalImplicit) (hk : c.env.scope.kind = .function)
    (hd : (x == ("__debug__" : Str)) = false) : Ev c σ (.Name x p) (.d d) σ := fun fr tm s Q E ht S hQ =>
  Name_function_global hk hl (loadGlobal_global (hg.mono S.base).ns hv (hQ v s.heap s.toks ht (S.imm hr))) hd
theorem Ev.blt {x : Str} {p : Pos} {mg mb : Str → Option Value} {v : Value} {d : D} (hg : NsM c.B c.env.globals mg) (hm : mg x = none) (hb : NsM c.B c.env.builtins mb) (hv : mb x = some v) (hr : ∀ I, Rep I v d)
    (hl : c.env.kindOf x = some .globalImplicit) (hk : c.env.scope.kind = .function) (hd : (x == ("__debug__" : Str)) = false) : Ev c σ (.Name x p) (.d d) σ := fun fr tm s Q E ht S hQ =>
  Name_function_global hk hl (loadGlobal_builtin (hg.mono S.base).ns hm (hb.mono S.base).ns hv (hQ v s.heap s.toks ht (S.imm hr))) hd

theorem Ev.binop {l r : Expr} {op : Operator} {p : Pos} {a b x : Vl} (h1 : Ev c σ l a σ₁) (h2 : Ev c σ₁ r b σ₂) (h3 : Op2 c σ₂ a b (binaryOp op) x σ₃) : Ev c σ (.BinOp l op r p) x σ₃ := fun fr tm s Q E ht S hQ =>
  wpAny_BinOp (h1 fr tm s _ E ht S fun v _ _ ht S1 => h2 fr ((v, a) :: tm) _ _ E ht S1 fun w _ _ ht S2 => h3 v w fr tm _ Q E ht S2 hQ)
theorem Ev.cmp {l r : Expr} {op : CmpOp} {p : Pos} {a b x : Vl} (h1 : Ev c σ l a σ₁) (h2 : Ev c σ₁ r b σ₂) (h3 : Op2 c σ₂ a b (compareOp op) x σ₃) (hm : behindInMarks op r = false := by with_unfolding_all rfl) :
    Ev c σ (.Compare l [op] [r] p) x σ₃ := fun fr tm s Q E ht S hQ =>
  wpAny_Compare1 (h1 fr tm s _ E ht S fun v _ _ ht S1 => h2 fr ((v, a) :: tm) _ _ E ht S1 fun w _ _ ht S2 => h3 v w fr tm _ Q E ht S2 hQ) hm
theorem Tr.cmp {l r : Expr} {op : CmpOp} {p : Pos} {a b : Vl} {t : Bool} (h1 : Ev c σ l a σ₁) (h2 : Ev c σ₁ r b σ₂) (h3 : Op2 c σ₂ a b (compareOp op) (.d (.bool t)) σ₃) (hm : behindInMarks op r = false := by with_unfolding_all rfl) :
    Tr c σ (.Compare l [op] [r] p) t σ₃ := fun fr tm s Q E ht S hQ =>
  wpAny_isTrue_Compare1 (h1 fr tm s _ E ht S fun v _ _ ht S1 => h2 fr ((v, a) :: tm) _ _ E ht S1 fun w _ _ ht S2 => h3 v w fr tm _ _ E ht S2 fun u h' tk ht S3 => by
    rw [S3.bool (.head _)]; exact wpAny_truthy_bool (hQ h' tk ht S3.pop)) hm
theorem Ew.ifexp {test body orelse : Expr} {p : Pos} {b : Bool} {x : Vl} (h : TrW c σ test b σ₁) (hbt : b = true → Ew c σ₁ body x σ₂) (hbf : b = false → Ew c σ₁ orelse x σ₂) : Ew c σ (.IfExp test body orelse p) x σ₂ := ⟨fun fr tm s Q E ht S hQ => by
  refine wpAny_IfExp (h.run fr tm s _ E ht S fun h' tk ht S' => ?_)
  cases b with
  | true => simp only [if_true]; exact (fun e => (hbt e).run) rfl fr tm _ Q E ht S' hQ
  | false => simp only [Bool.false_eq_true, if_false]; exact (fun e => (hbf e).run) rfl fr tm _ Q E ht S' hQ⟩

/-! ### arguments, displays -/
theorem Evs.nil : Evs c σ [] [] σ := fun fr tm s Q E pos ht S hQ => wpAny_pure (hQ [] s.heap s.toks rfl ht S)
end
end Mine
end TJudg

section TCore2
open PySem PySem.W PySem.Calls
set_option autoImplicit false
set_option linter.unusedVariables false
set_option Elab.async false
namespace Mine

section
variable {c : Cx} {σ : Sg} {fr : List (Addr × Obj)} {tmp : List (Value × Vl)} {h h' : Heap} {I J : Mp} {ρ : List Addr} {m : Str → Option Value}

/-! ### an object of the frame's own becomes data -/
noncomputable def Frz (c : Cx) (mo : MO) (d : D) : Prop := ∀ (I : Mp) (ρ : List Addr) (o : Obj) (a : Addr) (J : Mp), MoIs c.w.params I ρ o mo → Sub I J → J a = some o → Rep J (.ref a) d
theorem Frz.list {xs : List Vl} {ds : List D} (h : xs = ds.map .d) : Frz c (.list xs) (.lst ds) := fun I ρ o a J hm hs ha => by
  subst h
  cases hm with
  | list hv => exact .lst ha (hv.toReps.mono hs)

theorem StI.freeze (S : StI c σ fr tmp h I ρ m) {i : Nat} {a : Addr} {mo : MO} {d : D} (hi : ρ[i]? = some a) (hm : σ.mu[i]? = some mo) (hg : mo ≠ .gone) (hf : Frz c mo d) :
    ∃ J, StI c { σ with mu := σ.mu.set i .gone } fr tmp h J ρ m ∧ Rep J (.ref a) d := by
  obtain ⟨⟨o, g, q⟩, n1, n2, n3⟩ := (S.mu i a mo hi hm).un hg
  have hs : Sub I (fun b => if b = a then some o else I b) := upd_none I n1
  refine ⟨fun b => if b = a then some o else I b, ?_, hf I ρ o a _ q hs (by simp)⟩
  have hr : ∀ (j : Nat) (b : Addr), ρ[j]? = some b → ρ[j]? = some b := fun _ _ e => e
  refine ⟨S.base, fun b o' e => ?_, fun b o' e => ?_, S.ia.trans hs, S.ns, fun x v e => ?_, fun e => ⟨(S.wr e).1, ?_⟩, by simp [S.len], fun j b mb e1 e2 => ?_, S.nd, S.cel, fun x d e => ?_, fun p hp => ?_, S.frnd, fun p hp => (S.tmk p hp).mono hs hr⟩
  · by_cases hb : b = a
    · subst hb; simp only [if_true] at e; cases e; exact g
    · simp only [if_neg hb] at e; exact S.imm _ _ e
  · by_cases hb : b = a
    · subst hb; exact .inr n2
    · simp only [if_neg hb] at e; exact S.orig _ _ e
  · obtain ⟨u, h1, h2⟩ := S.loc x v e; exact ⟨u, h1, h2.mono hs hr⟩
  · simp only [if_neg (Ne.symm n3)]; exact (S.wr e).2
  · by_cases hj : j = i
    · subst hj
      cases Option.some.inj (hi.symm.trans e1)
      cases Option.some.inj ((List.getElem?_set_self (List.getElem?_eq_some_iff.mp hm).1).symm.trans e2)
      exact ⟨o, if_pos rfl⟩
    · exact (S.mu j b mb e1 ((List.getElem?_set_ne (Ne.symm hj)).symm.trans e2)).map hs (fun _ g n _ _ => ⟨g, (if_neg (S.nei hi e1 hj)).trans n⟩) fun _ q => q.mono hs hr
  · obtain ⟨a', o', u, h1, h2, h3, h4⟩ := S.fce x d e; exact ⟨a', o', u, h1, hs _ _ h2, h3, h4.mono hs⟩
  · obtain ⟨h1, h2, h3, h4, h5⟩ := S.frk p hp
    refine ⟨h1, ?_, h3, h4, h5⟩
    have : p.1 ≠ a := by rintro e; exact h5 (e ▸ List.mem_of_getElem? hi)
    simp only [if_neg this]; exact h2

/-! ### a state is told anew -/
noncomputable def Vl.lt (k : Nat) : Vl → Bool
  | .d _ => true
  | .m i => decide (i < k)
noncomputable def MO.lt (k : Nat) : MO → Bool
  | .list vs => vs.all (Vl.lt k)
  | .cell (some v) => v.lt k
  | _ => true
noncomputable def Sup (L : List (Str × Vl)) : List (Str × Vl) → Prop
  | [] => True
  | (x, v) :: r => L.lookup x = some v ∧ Sup L r
theorem Sup.get {L : List (Str × Vl)} : ∀ {l : List (Str × Vl)}, Sup L l → ∀ {x : Str} {v : Vl}, l.lookup x = some v → L.lookup x = some v
  | (y, w) :: r, h, x, v, e => by
    rw [List.lookup_cons] at e
    cases hb : x == y with
    | true => rw [hb] at e; cases e; rw [eq_of_beq hb]; exact h.1
    | false => rw [hb] at e; exact Sup.get h.2 e
theorem Sle.loc {l : List (Str × Vl)} (hl : Sup σ.loc l) : Sle c σ { σ with loc := l } := fun fr tm h ⟨I, ρ, m, S⟩ =>
  ⟨I, ρ, m, { S with loc := fun x v e => S.loc x v (hl.get e) }⟩

theorem RepV.trim {k : Nat} {v : Value} {x : Vl} (h : RepV I ρ v x) (hk : x.lt k = true) : RepV I (ρ.take k) v x := by
  cases h with
  | d h => exact .d h
  | m h => exact .m (by rw [List.getElem?_take_of_lt (of_decide_eq_true hk)]; exact h)
theorem RepVs.trim {k : Nat} {vs : List Value} {xs : List Vl} (h : RepVs I ρ vs xs) (hk : xs.all (Vl.lt k) = true) : RepVs I (ρ.take k) vs xs := by
  induction h with
  | nil => exact .nil
  | cons h _ ih =>
    rw [List.all_cons, Bool.and_eq_true] at hk
    exact .cons (h.trim hk.1) (ih hk.2)
theorem MoIs.trim {P : Params} {k : Nat} {o : Obj} {mo : MO} (h : MoIs P I ρ o mo) (hk : mo.lt k = true) : MoIs P I (ρ.take k) o mo := by
  cases h with
  | list h => exact .list (h.trim hk)
  | idict h => exact .idict h
  | sdict h => exact .sdict h
  | cell0 h => exact .cell0 h
  | cell1 h q => exact .cell1 h (q.trim hk)
theorem take_get {α : Type} {l : List α} {k i : Nat} {a : α} (h : (l.take k)[i]? = some a) : i < k ∧ l[i]? = some a := by
  rw [List.getElem?_take] at h
  split at h
  · rename_i hi; exact ⟨hi, h⟩
  · cases h
/-- what was made behind the first k objects is forgotten -/
theorem Sle.trim {k : Nat} {l : List (Str × Vl)} (hl : Sup σ.loc l) (h1 : l.all (fun p => p.2.lt k) = true) (h2 : (σ.mu.take k).all (MO.lt k) = true) (h3 : σ.cix.all (fun p => decide (p.2 < k)) = true) :
    Sle c σ { σ with loc := l, mu := σ.mu.take k } := fun fr tm h ⟨I, ρ, m, S⟩ => by
  refine ⟨I, ρ.take k, m, S.base, S.imm, S.orig, S.ia, S.ns, fun x v e => ?_, S.wr, by simp [S.len], fun i a mo e1 e2 => ?_, S.nd.sublist (List.take_sublist _ _), fun x j e => ?_, S.fce, fun p hp => ?_, S.frnd, fun p hp => ?_⟩
  · obtain ⟨u, e1, e2⟩ := S.loc x v (hl.get e)
    have : (x, v) ∈ l := PySem.mem_of_lookup e
    exact ⟨u, e1, e2.trim (List.all_eq_true.mp h1 _ this)⟩
  · obtain ⟨hi, e1⟩ := take_get e1
    have e2' : (σ.mu.take k)[i]? = some mo := e2
    have hmo : mo.lt k = true := List.all_eq_true.mp h2 _ (List.mem_of_getElem? e2')
    exact (S.mu i a mo e1 (take_get e2').2).map (Sub.refl I) (fun _ g n _ _ => ⟨g, n⟩) fun _ q => q.trim hmo
  · obtain ⟨a, e1, e2⟩ := S.cel x j e
    have : decide (j < k) = true := List.all_eq_true.mp h3 (x, j) (PySem.mem_of_lookup e)
    exact ⟨a, e1, by rw [List.getElem?_take_of_lt (of_decide_eq_true this)]; exact e2⟩
  · obtain ⟨g1, g2, g3, g4, g5⟩ := S.frk p hp
    exact ⟨g1, g2, g3, g4, fun hm => g5 (List.mem_of_mem_take hm)⟩
  · obtain ⟨q, hq, e⟩ := List.mem_map.mp hp
    have := S.tmk p hp
    subst e
    exact this.trim rfl
end

section
variable {c : Cx} {σ σ₁ σ₂ σ₃ : Sg} {R : FD → Sg → Prop}
theorem Ew.frz {e : Expr} {i : Nat} {mo : MO} {d : D} (h : Ew c σ e (.m i) σ₁) (hm : σ₁.mu[i]? = some mo) (hf : Frz c mo d) (hg : mo ≠ .gone := by intro e; cases e) : Ew c σ e (.d d) { σ₁ with mu := σ₁.mu.set i .gone } := ⟨fun fr tm s Q E ht S hQ =>
  h.run fr tm s Q E ht S fun v h' tk ht ⟨I, ρ, m, S'⟩ => by
    obtain ⟨a, rfl, hi⟩ := (S'.tmk _ (.head _)).m_inv
    obtain ⟨J, S'', hr⟩ := (S'.sub fun _ hq => .tail _ hq).freeze hi hm hg hf
    exact hQ _ h' tk ht ⟨J, ρ, m, S''.push (.d hr)⟩⟩
/-- a local name that holds an object of the frame's own: data from here on -/
theorem Sle.frz {x : Str} {i : Nat} {mo : MO} {d : D} (hx : σ.loc.lookup x = some (.m i)) (hm : σ.mu[i]? = some mo) (hf : Frz c mo d) (hg : mo ≠ .gone := by intro e; cases e) :
    Sle c σ { σ with loc := (x, .d d) :: σ.loc, mu := σ.mu.set i .gone } := fun fr tm h ⟨I, ρ, m, S⟩ => by
  obtain ⟨u, hu, hv⟩ := S.loc x _ hx
  obtain ⟨a, rfl, hi⟩ := hv.m_inv
  obtain ⟨J, S', hr⟩ := S.freeze hi hm hg hf
  refine ⟨J, ρ, m, { S' with loc := fun z v e => ?_ }⟩
  have e' : ((x, Vl.d d) :: σ.loc).lookup z = some v := e
  rw [List.lookup_cons] at e'
  cases hb : z == x with
  | true => rw [hb] at e'; cases e'; rw [eq_of_beq hb]; exact ⟨_, hu, .d hr⟩
  | false => rw [hb] at e'; exact S'.loc z v e'
/-- the same for a cell -/
theorem Sle.frzCell {x : Str} {k i : Nat} {mo : MO} {d : D} (hx : σ.cix.lookup x = some k) (hk : σ.mu[k]? = some (.cell (some (.m i)))) (hm : σ.mu[i]? = some mo) (hf : Frz c mo d) (hg : mo ≠ .gone := by intro e; cases e) (hc : ∀ v, mo ≠ .cell v := by intro v e; cases e) :
    Sle c σ { σ with mu := (σ.mu.set i .gone).set k (.cell (some (.d d))) } := fun fr tm h ⟨I, ρ, m, S⟩ => by
  obtain ⟨ak, _, hak⟩ := S.cel x k hx
  obtain ⟨⟨o, g, q⟩, _⟩ := S.mu k ak _ hak hk
  cases q with
  | cell1 hd hv =>
    obtain ⟨a, rfl, hi⟩ := hv.m_inv
    obtain ⟨J, S', hr⟩ := S.freeze hi hm hg hf
    have hki : k ≠ i := by rintro rfl; rw [hk] at hm; exact hc _ (Option.some.inj hm).symm
    have hk' : (σ.mu.set i .gone)[k]? = some (.cell (some (.m i))) := by rw [List.getElem?_set_ne (Ne.symm hki)]; exact hk
    exact ⟨J, ρ, m, S'.setMu (h' := h) (σ := { σ with mu := σ.mu.set i .gone }) hak hk' (by simp) g (Heap.SameBut.refl _ _) (.cell1 hd (.d hr))⟩
end
end Mine
end TCore2

section TR1
open PySem PySem.W PySem.Calls PyProof.Rows
set_option autoImplicit false
set_option linter.unusedVariables false
set_option Elab.async false
namespace Mine

noncomputable def allD : List Vl → Option (List D)
  | [] => some []
  | .d d :: r => (allD r).map (d :: ·)
  | .m _ :: _ => none
theorem allD_eq : ∀ {xs : List Vl} {ds : List D}, allD xs = some ds → xs = ds.map .d
  | [], ds, h => by cases h; rfl
  | .d d :: r, ds, h => by
    rw [allD] at h
    obtain ⟨es, e1, e2⟩ := Option.map_eq_some_iff.mp h
    subst e2
    rw [List.map_cons, allD_eq e1]
  | .m _ :: _, _, h => by cases h

section
variable {c : Cx} {σ σ₁ σ₂ σ₃ : Sg} {fr : List (Addr × Obj)} {tmp : List (Value × Vl)} {h h' : Heap} {I : Mp} {ρ : List Addr} {m : Str → Option Value} {R : FD → Sg → Prop}

theorem StI.newLst {vs : List Value} {ds : List D} (S : StI c σ fr tmp h I ρ m) (hr : Reps I vs ds) :
    StI c σ fr ((.ref h.objs.size, .d (.lst ds)) :: tmp) (h.push (lobj vs 0)) (fun b => if b = h.objs.size then some (lobj vs 0) else I b) ρ m :=
  (S.alloc (lobj vs 0)).push (.d (.lst (n := 0) (vs := vs) (by simp) (hr.mono (upd_none I S.fresh.1))))
theorem StI.newTup {vs : List Value} {ds : List D} (S : StI c σ fr tmp h I ρ m) (hr : Reps I vs ds) :
    StI c σ fr ((.ref h.objs.size, .d (.tup ds)) :: tmp) (h.push (tobj vs 0)) (fun b => if b = h.objs.size then some (tobj vs 0) else I b) ρ m :=
  (S.alloc (tobj vs 0)).push (.d (.tup (n := 0) (vs := vs) (by simp) (hr.mono (upd_none I S.fresh.1))))

theorem RepVs.ofZip {vs : List Value} {xs : List Vl} (hl : vs.length = xs.length) (hz : ∀ p ∈ vs.zip xs, RepV I ρ p.1 p.2) : RepVs I ρ vs xs := by
  induction vs generalizing xs with
  | nil => cases xs with | nil => exact .nil | cons => cases hl
  | cons v vs ih =>
    cases xs with
    | nil => cases hl
    | cons x xs =>
      rw [List.zip_cons_cons] at hz
      exact .cons (hz _ (.head _)) (ih (by simpa using hl) fun p hp => hz p (.tail _ hp))
theorem StI.repVs {vs : List Value} {xs : List Vl} {tm : List (Value × Vl)} (S : StI c σ fr (vs.zip xs ++ tm) h I ρ m) (hl : vs.length = xs.length) : RepVs I ρ vs xs :=
  RepVs.ofZip hl fun p hp => S.tmk p (List.mem_append_left _ hp)
theorem StI.tail {tl tm : List (Value × Vl)} (S : StI c σ fr (tl ++ tm) h I ρ m) : StI c σ fr tm h I ρ m := S.sub fun _ hp => List.mem_append_right _ hp

/-! ### displays, arguments -/
theorem Evs.cons {e : Expr} {es : List Expr} {x : Vl} {xs : List Vl} (h1 : Ev c σ e x σ₁) (h2 : Evs c σ₁ es xs σ₂) (he : starEach (e :: es) c.env = (false, eval e c.env) :: starEach es c.env := by rfl) :
    Evs c σ (e :: es) (x :: xs) σ₂ := fun fr tm s Q E pos ht S hQ => by
  rw [he]
  refine spliced_cons (h1 fr tm s _ E ht S fun v h' tk ht S1 => h2 fr ((v, x) :: tm) _ _ E pos ht S1 fun vs h'' tk' hl ht S2 => hQ (v :: vs) h'' tk' (by simp [hl]) ht (S2.sub fun p hp => ?_))
  rw [List.zip_cons_cons, List.cons_append] at hp
  rcases List.mem_cons.mp hp with rfl | hp
  · exact List.mem_append_right _ (.head _)
  · rcases List.mem_append.mp hp with hp | hp
    · exact List.mem_append_left _ hp
    · exact List.mem_append_right _ (.tail _ hp)

theorem Ev.tup {es : List Expr} {k : Nat} {p : Pos} {xs : List Vl} {ds : List D} (h : Evs c σ es xs σ₁) (hd : allD xs = some ds) (hsz : xs.length ≤ sizeLine) : Ev c σ (.Tuple es k p) (.d (.tup ds)) σ₁ := fun fr tm s Q E ht S hQ => by
  refine Tuple_ (h fr tm s _ E p ht S fun vs h' tk hl ht S1 => ?_)
  obtain ⟨I, ρ, m, S1⟩ := S1
  have hr : Reps I vs ds := RepVs.toReps (ρ := ρ) (allD_eq hd ▸ S1.repVs hl)
  exact wpAny_newObj_type (hQ _ _ _ ht ⟨_, ρ, m, S1.tail.newTup hr⟩) (by show vs.toArray.size ≤ sizeLine; rw [List.size_toArray, hl]; exact hsz)
theorem Ew.lst {es : List Expr} {p : Pos} {xs : List Vl} {ds : List D} (h : EWs c σ es xs σ₁) (hd : allD xs = some ds) (hsz : xs.length ≤ sizeLine) : Ew c σ (.List es p) (.d (.lst ds)) σ₁ := ⟨fun fr tm s Q E ht S hQ => by
  refine List_ (h.run fr tm s _ E p ht S fun vs h' tk hl ht S1 => ?_)
  obtain ⟨I, ρ, m, S1⟩ := S1
  have hr : Reps I vs ds := RepVs.toReps (ρ := ρ) (allD_eq hd ▸ S1.repVs hl)
  exact wpAny_newObj_type (hQ _ _ _ ht ⟨_, ρ, m, S1.tail.newLst hr⟩) (by show vs.toArray.size ≤ sizeLine; rw [List.size_toArray, hl]; exact hsz)⟩
theorem Ew.lstM {es : List Expr} {p : Pos} {xs : List Vl} (h : EWs c σ es xs σ₁) (hsz : xs.length ≤ sizeLine) : Ew c σ (.List es p) (.m σ₁.mu.length) { σ₁ with mu := σ₁.mu ++ [.list xs] } := ⟨fun fr tm s Q E ht S hQ => by
  refine List_ (h.run fr tm s _ E p ht S fun vs h' tk hl ht S1 => ?_)
  obtain ⟨I, ρ, m, S1⟩ := S1
  exact wpAny_newObj_type (hQ _ _ _ ht ⟨_, _, m, S1.tail.allocMut (lobj vs 0) (.list (S1.repVs hl))⟩) (by show vs.toArray.size ≤ sizeLine; rw [List.size_toArray, hl]; exact hsz)⟩

/-! ### operators on data -/
theorem Op2.imm {a b : Vl} {t : Value → Value → Sem Value} {d : D}
    (h : ∀ fr tm h', St c σ fr tm h' → ∀ v w, (v, a) ∈ tm → (w, b) ∈ tm → ∀ (s : Shared) (Q : Value → Shared → Prop) (E : Value → Shared → Prop), 1 ≤ s.toks → s.heap = h' → (∀ u tk, (∀ I, Rep I u d) → Q u { s with toks := tk }) → wpAny c.M c.A (t v w) Q E s) :
    Op2 c σ a b t (.d d) σ := fun v w => Cm.mk fun fr tm s Q E ht S hQ =>
  h fr _ s.heap S v w (.tail _ (.head _)) (.head _) s Q E ht rfl fun u tk hu => hQ u s.heap tk (S.pop2.imm hu)

theorem Op2.add_int {a b : Int} : Op2 c σ (.d (.int a)) (.d (.int b)) (binaryOp .Add) (.d (.int (a + b))) σ := Op2.imm fun fr tm h' S v w hv hw s Q E ht e hQ => by
  obtain ⟨t, rfl⟩ := S.int hv; obtain ⟨u, rfl⟩ := S.int hw
  exact PyProof.Rows.add_int (hQ _ _ fun _ => .int _ _)
theorem Op2.sub_int {a b : Int} : Op2 c σ (.d (.int a)) (.d (.int b)) (binaryOp .Sub) (.d (.int (a - b))) σ := Op2.imm fun fr tm h' S v w hv hw s Q E ht e hQ => by
  obtain ⟨t, rfl⟩ := S.int hv; obtain ⟨u, rfl⟩ := S.int hw
  exact PyProof.Rows.sub_int (hQ _ _ fun _ => .int _ _)
theorem Op2.mul_int {a b : Int} (hok : IntMulOk a b) : Op2 c σ (.d (.int a)) (.d (.int b)) (binaryOp .Mult) (.d (.int (a * b))) σ := Op2.imm fun fr tm h' S v w hv hw s Q E ht e hQ => by
  obtain ⟨t, rfl⟩ := S.int hv; obtain ⟨u, rfl⟩ := S.int hw
  exact PyProof.Rows.mul_int (hQ _ _ fun _ => .int _ _) hok
theorem Op2.mod_int {a b : Int} (hb : b ≠ 0) : Op2 c σ (.d (.int a)) (.d (.int b)) (binaryOp .Mod) (.d (.int (a.fmod b))) σ := Op2.imm fun fr tm h' S v w hv hw s Q E ht e hQ => by
  obtain ⟨t, rfl⟩ := S.int hv; obtain ⟨u, rfl⟩ := S.int hw
  exact PyProof.Rows.mod_int' hb (hQ _ _ fun _ => .int _ _)
theorem Op2.fdiv_int {a b : Int} (hb : b ≠ 0) (hp : Builtin.divisionGoesByPylong a b = false) : Op2 c σ (.d (.int a)) (.d (.int b)) (binaryOp .FloorDiv) (.d (.int (a.fdiv b))) σ := Op2.imm fun fr tm h' S v w hv hw s Q E ht e hQ => by
  obtain ⟨t, rfl⟩ := S.int hv; obtain ⟨u, rfl⟩ := S.int hw
  exact PyProof.Rows.floordiv_int hb (hQ _ _ fun _ => .int _ _) (.inl hp)
theorem Op2.pow_int {a n : Int} (h0 : 0 ≤ n) (hb : ((Builtin.Int.intBits a : Nat) : Int) * n ≤ 2 ^ 27) : Op2 c σ (.d (.int a)) (.d (.int n)) (binaryOp .Pow) (.d (.int (a ^ n.toNat))) σ := Op2.imm fun fr tm h' S v w hv hw s Q E ht e hQ => by
  obtain ⟨t, rfl⟩ := S.int hv; obtain ⟨u, rfl⟩ := S.int hw
  exact PyProof.Rows.pow_int h0 hb (hQ _ _ fun _ => .int _ _)
theorem Op2.iadd_int {a b : Int} : Op2 c σ (.d (.int a)) (.d (.int b)) (inplaceOp .Add) (.d (.int (a + b))) σ := Op2.imm fun fr tm h' S v w hv hw s Q E ht e hQ => by
  obtain ⟨t, rfl⟩ := S.int hv; obtain ⟨u, rfl⟩ := S.int hw
  exact PyProof.Rows.iadd_int (hQ _ _ fun _ => .int _ _)
theorem Op2.imul_int {a b : Int} (hok : IntMulOk a b) : Op2 c σ (.d (.int a)) (.d (.int b)) (inplaceOp .Mult) (.d (.int (a * b))) σ := Op2.imm fun fr tm h' S v w hv hw s Q E ht e hQ => by
  obtain ⟨t, rfl⟩ := S.int hv; obtain ⟨u, rfl⟩ := S.int hw
  exact PyProof.Rows.imul_int (hQ _ _ fun _ => .int _ _) hok
theorem Op2.eq_int {a b : Int} : Op2 c σ (.d (.int a)) (.d (.int b)) (compareOp .Eq) (.d (.bool (a == b))) σ := Op2.imm fun fr tm h' S v w hv hw s Q E ht e hQ => by
  obtain ⟨t, rfl⟩ := S.int hv; obtain ⟨u, rfl⟩ := S.int hw
  exact PyProof.Rows.eq_int (hQ _ _ fun _ => .bool _)
theorem Op2.ne_int {a b : Int} : Op2 c σ (.d (.int a)) (.d (.int b)) (compareOp .NotEq) (.d (.bool (a != b))) σ := Op2.imm fun fr tm h' S v w hv hw s Q E ht e hQ => by
  obtain ⟨t, rfl⟩ := S.int hv; obtain ⟨u, rfl⟩ := S.int hw
  exact PyProof.Rows.ne_int (hQ _ _ fun _ => .bool _)
theorem Op2.lt_int {a b : Int} : Op2 c σ (.d (.int a)) (.d (.int b)) (compareOp .Lt) (.d (.bool (decide (a < b)))) σ := Op2.imm fun fr tm h' S v w hv hw s Q E ht e hQ => by
  obtain ⟨t, rfl⟩ := S.int hv; obtain ⟨u, rfl⟩ := S.int hw
  exact PyProof.Rows.lt_int (hQ _ _ fun _ => .bool _)
theorem Op2.ge_int {a b : Int} : Op2 c σ (.d (.int a)) (.d (.int b)) (compareOp .GtE) (.d (.bool (decide (b ≤ a)))) σ := Op2.imm fun fr tm h' S v w hv hw s Q E ht e hQ => by
  obtain ⟨t, rfl⟩ := S.int hv; obtain ⟨u, rfl⟩ := S.int hw
  exact PyProof.Rows.ge_int (hQ _ _ fun _ => .bool _)
theorem Op2.eq_str {a b : Str} : Op2 c σ (.d (.str a)) (.d (.str b)) (compareOp .Eq) (.d (.bool (a == b))) σ := Op2.imm fun fr tm h' S v w hv hw s Q E ht e hQ => by
  obtain ⟨t, rfl⟩ := S.str hv; obtain ⟨u, rfl⟩ := S.str hw
  exact PyProof.Rows.eq_str (hQ _ _ fun _ => .bool _)
theorem str_app_nil {x y : Str} (h : (y.length == 0) = true) : x ++ y = x := by
  obtain ⟨x⟩ := x; obtain ⟨y⟩ := y
  have hy : y = #[] := Array.size_eq_zero_iff.mp (beq_iff_eq.mp h)
  subst hy
  show Str.mk (x ++ #[]) = ⟨x⟩
  rw [Array.append_empty]
theorem str_nil_app {x y : Str} (h : (x.length == 0) = true) : x ++ y = y := by
  obtain ⟨x⟩ := x; obtain ⟨y⟩ := y
  have hx : x = #[] := Array.size_eq_zero_iff.mp (beq_iff_eq.mp h)
  subst hx
  show Str.mk (#[] ++ y) = ⟨y⟩
  rw [Array.empty_append]
/-- what a built-in makes, as data -/
inductive MadeIs : Made → D → Prop
  | val {v : Value} {d : D} : (∀ I, Rep I v d) → MadeIs (.val v) d
  | int (i : Int) : MadeIs (.int i) (.int i)
  | str (x : Str) : x.length ≤ sizeLine → MadeIs (.str x) (.str x)
  | either {a b : Made} {d : D} : MadeIs a d → MadeIs b d → MadeIs (.either a b) d
theorem MadeIs.post {m : Made} {d : D} (hm : MadeIs m d) {s : Shared} {Q : Value → Shared → Prop} (ht : 1 ≤ s.toks) (hQ : ∀ v tk, (∀ I, Rep I v d) → Q v { s with toks := tk }) : m.post Q s := by
  induction hm with
  | val h => exact hQ _ _ h
  | int i => exact hQ _ _ fun _ => .int _ _
  | str x h => exact ⟨h, hQ _ _ fun _ => .str _ _⟩
  | either _ _ h1 h2 => exact ⟨h1 hQ, h2 hQ⟩
theorem Op2.add_str {a b : Str} (hsz : (a ++ b).length ≤ sizeLine) : Op2 c σ (.d (.str a)) (.d (.str b)) (binaryOp .Add) (.d (.str (a ++ b))) σ := fun v w => Cm.mk fun fr tm s Q E ht S hQ => by
  obtain ⟨t, rfl⟩ := S.str (.tail _ (.head _)); obtain ⟨u, rfl⟩ := S.str (.head _)
  refine PySem.P.add_str ?_
  have key : MadeIs (if a.length == 0 then Made.val (.str b u) else if b.length == 0 then Made.val (.str a t) else Made.str (a ++ b)) (.str (a ++ b)) := by
    split
    · rename_i h; rw [str_nil_app h]; exact .val fun _ => .str _ _
    · split
      · rename_i h; rw [str_app_nil h]; exact .val fun _ => .str _ _
      · exact .str _ hsz
  exact key.post ht fun v tk hr => hQ v s.heap tk (S.pop2.imm hr)

/-- the object of a list: its items, and the heap's word of it -/
theorem StI.lstAt {v : Value} {ds : List D} (S : StI c σ fr tmp h I ρ m) (hv : (v, .d (.lst ds)) ∈ tmp) : ∃ a vs n, v = .ref a ∧ I a = some (lobj vs n) ∧ h.get? a = some (lobj vs n) ∧ Reps I vs ds := by
  obtain ⟨a, vs, n, rfl, h1, h2⟩ := (S.tmk _ hv).d_inv.lst_inv
  exact ⟨a, vs, n, rfl, h1, S.imm _ _ h1, h2⟩
theorem StI.tupAt {v : Value} {ds : List D} (S : StI c σ fr tmp h I ρ m) (hv : (v, .d (.tup ds)) ∈ tmp) : ∃ a vs n, v = .ref a ∧ I a = some (tobj vs n) ∧ h.get? a = some (tobj vs n) ∧ Reps I vs ds := by
  obtain ⟨a, vs, n, rfl, h1, h2⟩ := (S.tmk _ hv).d_inv.tup_inv
  exact ⟨a, vs, n, rfl, h1, S.imm _ _ h1, h2⟩
theorem StI.mutAt {v : Value} {i : Nat} {xs : List Vl} (S : StI c σ fr tmp h I ρ m) (hv : (v, .m i) ∈ tmp) (hm : σ.mu[i]? = some (.list xs)) :
    ∃ a vs n, v = .ref a ∧ ρ[i]? = some a ∧ h.get? a = some (lobj vs n) ∧ RepVs I ρ vs xs := by
  obtain ⟨a, rfl, h1⟩ := (S.tmk _ hv).m_inv
  obtain ⟨⟨o, g, q⟩, _⟩ := S.mu i a _ h1 hm
  cases q with
  | list q => exact ⟨a, _, _, rfl, h1, g, q⟩
theorem lobj_isList {vs : List Value} {n : Nat} {a : Addr} (e : h.get? a = some (lobj vs n)) : h.IsList a vs.toArray := ⟨_, e, rfl, n, rfl⟩

/-- two lists joined: the new one's object -/
theorem add_lists_at {M : Model} {prog : Program} {w : World} {A : Around} {s : Shared} {a b : Addr} {vs ws : List Value} {n k : Nat} {Q : Value → Shared → Prop} {E : Value → Shared → Prop}
    (ha : s.heap.get? a = some (lobj vs n)) (hb : s.heap.get? b = some (lobj ws k)) (hsz : vs.length + ws.length ≤ sizeLine)
    (hQ : Q (.ref s.heap.objs.size) { s with heap := s.heap.push (lobj (vs ++ ws) 0) }) : wpAny (model prog w) A (binaryOp .Add (.ref a) (.ref b)) Q E s := by
  have e : vs.toArray ++ ws.toArray = (vs ++ ws).toArray := by simp
  refine concat_meets ⟨_, ha, rfl⟩ ⟨_, hb, rfl⟩ noFill_list_add seq_list_add PySem.F.slot_list_add PySem.F.entry_list_add (PySem.F.args_list_add_2 _ _) (list_addW a b vs.toArray ws.toArray n k none none #[] #[] (by simpa using hsz)) ⟨ha, hb, ?_⟩
  rw [e]
  exact hQ
theorem Op2.add_lst {as bs : List D} (hsz : as.length + bs.length ≤ sizeLine) : Op2 c σ (.d (.lst as)) (.d (.lst bs)) (binaryOp .Add) (.d (.lst (as ++ bs))) σ := fun v w fr tm s Q E ht S hQ => by
  obtain ⟨I, ρ, m, S⟩ := S
  obtain ⟨a, vs, n, rfl, _, g1, r1⟩ := S.lstAt (.tail _ (.head _))
  obtain ⟨b, ws, k, rfl, _, g2, r2⟩ := S.lstAt (.head _)
  exact add_lists_at (M := c.M) g1 g2 (by rw [r1.length, r2.length]; exact hsz) (hQ _ _ _ ht ⟨_, ρ, m, (S.sub fun _ hp => .tail _ (.tail _ hp)).newLst (r1.append r2)⟩)
theorem Op2.add_lstM {as bs : List D} (hsz : as.length + bs.length ≤ sizeLine) : Op2 c σ (.d (.lst as)) (.d (.lst bs)) (binaryOp .Add) (.m σ.mu.length) { σ with mu := σ.mu ++ [.list ((as ++ bs).map .d)] } := fun v w fr tm s Q E ht S hQ => by
  obtain ⟨I, ρ, m, S⟩ := S
  obtain ⟨a, vs, n, rfl, _, g1, r1⟩ := S.lstAt (.tail _ (.head _))
  obtain ⟨b, ws, k, rfl, _, g2, r2⟩ := S.lstAt (.head _)
  exact add_lists_at (M := c.M) g1 g2 (by rw [r1.length, r2.length]; exact hsz) (hQ _ _ _ ht ⟨_, _, m, (S.sub fun _ hp => .tail _ (.tail _ hp)).allocMut _ (.list (RepVs.ofReps (r1.append r2)))⟩)

theorem Reps.replicate {v : Value} {d : D} (hr : Rep I v d) : ∀ k, Reps I (List.replicate k v) (List.replicate k d)
  | 0 => .nil
  | k + 1 => .cons hr (Reps.replicate hr k)
/-- a list of one item, n times -/
theorem Op2.mul_lst1 {d : D} {n : Int} (h0 : 0 ≤ n) (hn : n ≤ 2 ^ 24) : Op2 c σ (.d (.lst [d])) (.d (.int n)) (binaryOp .Mult) (.d (.lst (List.replicate n.toNat d))) σ := fun v w fr tm s Q E ht S hQ => by
  obtain ⟨I, ρ, m, S⟩ := S
  obtain ⟨a, vs, k, rfl, _, g1, r1⟩ := S.lstAt (.tail _ (.head _))
  obtain ⟨u, rfl⟩ := (S.tmk _ (List.Mem.head _)).d_inv.int_inv
  obtain ⟨x, rfl, rx⟩ : ∃ x, vs = [x] ∧ Rep I x d := by
    cases r1 with
    | cons r1 r0 => cases r0; exact ⟨_, rfl, r1⟩
  refine wpAny_binaryOp_repeat_ref (T := "list") (U := "int") (by decide) ⟨_, g1, rfl⟩ (fun s' => typeIs_int s' n u) noFill_list_mul F.fills_int_mul F.slot_int_rmul repeat_list F.slot_int_index.lookup
    (call_meets F.slot_int_rmul (typeIs_int s n u) F.entry_int_rmul (F.args_int_rmul_2 _ _) (int___rmul___int_list n u a #[x] k)
      ⟨g1, rfl, ⟨_, g1, rfl⟩, call_meets F.slot_list_mul ⟨_, g1, rfl⟩ F.entry_list_mul (F.args_list_mul_2 _ _)
        (AutoListH.list___mul___list_int_3 a #[x] k n u (by simp [Builtin.List.listFitsIndex]; omega) (by simp; omega) (by simp [Builtin.List.listTooLong, sizeLine]; omega)) ⟨g1, ?_⟩⟩)
  have e : ∀ (k : Nat) (acc : List Value), List.foldl (fun x1 x2 => x1 ++ x2) acc.toArray (List.replicate k #[x]) = (acc ++ List.replicate k x).toArray := by
    intro k
    induction k with
    | zero => intro acc; simp
    | succ k ih => intro acc; rw [List.replicate_succ, List.foldl_cons, List.replicate_succ]; have := ih (acc ++ [x]); simp at this ⊢; exact this
  have e' : List.foldl (fun x1 x2 => x1 ++ x2) #[] (List.replicate (if (#[x] : Array Value).isEmpty = true then 0 else n.toNat) #[x]) = (List.replicate n.toNat x).toArray := by
    have := e n.toNat []
    simpa using this
  rw [e']
  exact hQ _ _ _ ht ⟨_, ρ, m, (S.sub fun _ hp => .tail _ (.tail _ hp)).newLst (Reps.replicate rx n.toNat)⟩
end
end Mine
end TR1

section TLoop
open PySem PySem.W PySem.Calls
set_option autoImplicit false
set_option linter.unusedVariables false
set_option Elab.async false
namespace Mine


/-- an iterator: what it reads (`src`), its own objects (at `ads`) as its turns go (`P`), its items -/
structure Itr (c : Cx) (src : List (Value × D)) (a : Addr) (ads : List Addr) (n : Nat) (it : Nat → D) (P : Nat → List (Addr × Obj) → Prop) : Prop where
  item : ∀ (target : Expr) (σ : Sg) (fr : List (Addr × Obj)) (tm : List (Value × Vl)) (i : Nat) (os : List (Addr × Obj)) (s : Shared) (K : Value → Shared → Prop) (E : Value → Shared → Prop),
    i < n → P i os → (∀ p ∈ dt src, p ∈ tm) → 1 ≤ s.toks → St c σ (os ++ fr) tm s.heap →
    (∀ v h' tk os', P (i + 1) os' → 1 ≤ tk → St c σ (os' ++ fr) ((v, .d (it i)) :: tm) h' → K v { s with heap := h', toks := tk }) →
    wpAny c.M c.A (pyNext (.ref a)) (fun r s₁ => ∃ v, r = some v ∧ wpAny c.M c.A (letOwnedTupleGo target (.ref a) v) (fun _ s₂ => K v s₂) E s₁) E s
  done : ∀ (σ : Sg) (fr : List (Addr × Obj)) (tm : List (Value × Vl)) (os : List (Addr × Obj)) (s : Shared) (K : Shared → Prop) (E : Value → Shared → Prop),
    P n os → (∀ p ∈ dt src, p ∈ tm) → 1 ≤ s.toks → St c σ (os ++ fr) tm s.heap → (∀ h' tk, 1 ≤ tk → (∀ b o, b ∉ ads → s.heap.get? b = some o → h'.get? b = some o) → K { s with heap := h', toks := tk }) →
    wpAny c.M c.A (pyNext (.ref a)) (fun r s₁ => r = none ∧ K s₁) E s
  self : ∀ (σ : Sg) (fr : List (Addr × Obj)) (tm : List (Value × Vl)) (i : Nat) (os : List (Addr × Obj)) (s : Shared) (Q : Value → Shared → Prop) (E : Value → Shared → Prop),
    P i os → (∀ p ∈ dt src, p ∈ tm) → St c σ (os ++ fr) tm s.heap → Q (.ref a) s → wpAny c.M c.A (pyIter (.ref a)) Q E s
  fix : ∀ (i : Nat) (os : List (Addr × Obj)), P i os → os.map (·.1) = ads

theorem StI.dropL {c : Cx} {σ : Sg} {os fr : List (Addr × Obj)} {tmp : List (Value × Vl)} {h : Heap} {I : Mp} {ρ : List Addr} {m : Str → Option Value} (S : StI c σ (os ++ fr) tmp h I ρ m) : StI c σ fr tmp h I ρ m :=
  { S with frk := fun q hq => S.frk q (List.mem_append_right _ hq), frnd := by have := S.frnd; rw [List.map_append, List.nodup_append] at this; exact this.2.1 }
theorem St.dropL {c : Cx} {σ : Sg} {os fr : List (Addr × Obj)} {tmp : List (Value × Vl)} {h : Heap} (S : St c σ (os ++ fr) tmp h) : St c σ fr tmp h := let ⟨I, ρ, m, S⟩ := S; ⟨I, ρ, m, S.dropL⟩

/-- an expression that is gone through -/
noncomputable def ItE (c : Cx) (σ : Sg) (e : Expr) (n : Nat) (it : Nat → D) (σ' : Sg) : Prop :=
  ∀ (fr : List (Addr × Obj)) (tm : List (Value × Vl)) (s : Shared) (Q : Value → Shared → Prop) (E : Value → Shared → Prop), 1 ≤ s.toks → St c σ fr tm s.heap →
    (∀ a ads src P os h' tk, (∀ (B Ia : Mp) (env : Env) (wr : Bool), Itr { c with B := B, Ia := Ia, env := env, wr := wr } src a ads n it P) → P 0 os → 1 ≤ tk → St c σ' (os ++ fr) (dt src ++ tm) h' → Q (.ref a) { s with heap := h', toks := tk }) →
    wpAny c.M c.A (eval e c.env) (fun x s₁ => wpAny c.M c.A (pyIter x) Q E s₁) E s

structure ItW (c : Cx) (σ : Sg) (e : Expr) (n : Nat) (it : Nat → D) (σ' : Sg) : Prop where run : ItE c σ e n it σ'
section
variable {c : Cx} {σ σ₁ σ₂ σ₃ : Sg} {R : FD → Sg → Prop}


theorem letGo_plain {M : Model} {A : Around} {E : Value → Shared → Prop} {s : Shared} {target : Expr} {a : Addr} {v : Value} {o : Obj} {n : String} {Q : Unit → Shared → Prop} (ho : s.heap.get? a = some o) (hc : o.cls = .type n)
    (hn : (["enumerate", "zip", "dict_itemiterator", "dict_reverseitemiterator", "odict_iterator", "itertools.zip_longest", "itertools.pairwise"].contains n) = false) (hQ : Q () s) :
    wpAny M A (letOwnedTupleGo target (.ref a) v) Q E s := by
  unfold letOwnedTupleGo
  split
  all_goals (try exact wpAny_pure hQ)
  all_goals
    split
    · rename_i r b he
      cases he
      refine wpAny_bind (wpAny_load ho ?_)
      rw [hc]
      split
      · rename_i hcl hdt
        cases hcl
        rw [hn]
        exact wpAny_pure hQ
      · exact wpAny_pure hQ
    · exact wpAny_pure hQ

noncomputable def PList (a ax : Addr) (i : Nat) (os : List (Addr × Obj)) : Prop := ∃ o, os = [(a, o)] ∧ o.cls = .type "list_iterator" ∧ o.data = .fields #[.ref ax, .int i 0]
theorem Itr.list (hh : c.A.handled = none) (a ax : Addr) (ds : List D) : Itr c [(.ref ax, .lst ds)] a [a] ds.length (fun i => ds.getD i .none) (PList a ax) where
  item := by
    rintro target σ fr tm i os s K E hi ⟨o, rfl, hc, hd⟩ hsrc ht ⟨I, ρ, m, S⟩ hK
    have hm : (Value.ref ax, Vl.d (.lst ds)) ∈ tm := hsrc _ (.head _)
    obtain ⟨ax', vs, n, e, h1, r⟩ := (S.tmk _ hm).d_inv.lst_inv
    cases e
    obtain ⟨g, n1, n2, n3, n4⟩ := S.frk _ (List.mem_append_left _ (.head _))
    have hlen := r.length
    have hx : vs[i]? = some (vs[i]'(by first | decide | omega)) := List.getElem?_eq_getElem (by first | decide | omega)
    obtain ⟨d, hd', hr⟩ := r.getV hx
    refine PySem.wpAny_pyNext_list_item (it := a) (l := ax) (i := i) (items := vs.toArray) (x := vs[i]'(by first | decide | omega)) ⟨o, g, hc, hd⟩ ⟨_, S.imm _ _ h1, rfl, n, rfl⟩ (by rw [List.getElem?_toArray]; exact hx) fun h' ⟨o', g', hc', hd''⟩ hs => ⟨_, rfl, ?_⟩
    refine letGo_plain g' hc' (by decide) ?_
    have S' := S.setFr g' hs
    refine hK _ h' s.toks [(a, o')] ⟨o', rfl, hc', hd''⟩ ht ⟨I, ρ, m, S'.push (.d ?_)⟩
    rw [List.getD_eq_getElem?_getD, hd']; exact hr
  done := by
    rintro σ fr tm os s K E ⟨o, rfl, hc, hd⟩ hsrc ht ⟨I, ρ, m, S⟩ hK
    have hm : (Value.ref ax, Vl.d (.lst ds)) ∈ tm := hsrc _ (.head _)
    obtain ⟨ax', vs, n, e, h1, r⟩ := (S.tmk _ hm).d_inv.lst_inv
    cases e
    obtain ⟨g, n1, n2, n3, n4⟩ := S.frk _ (List.mem_append_left _ (.head _))
    refine PySem.wpAny_pyNext_list_end (it := a) (l := ax) (items := vs.toArray) hh ⟨o, g, hc, hd⟩ ⟨_, S.imm _ _ h1, rfl, n, rfl⟩ (by simp [r.length]) fun h' he => ⟨rfl, hK h' _ ht fun b o hb e => he b o (fun q => hb (q ▸ .head _)) e⟩
  self := by
    rintro σ fr tm i os s Q E ⟨o, rfl, hc, hd⟩ hsrc ⟨I, ρ, m, S⟩ hQ
    obtain ⟨g, n1, n2, n3, n4⟩ := S.frk _ (List.mem_append_left _ (.head _))
    exact PySem.wpAny_pyIter_listiter ⟨o, g, hc, hd⟩ hQ
  fix := by rintro i os ⟨o, rfl, _⟩; rfl

theorem ItE.list {e : Expr} {ds : List D} (hh : c.A.handled = none) (he : Ev c σ e (.d (.lst ds)) σ₁) : ItE c σ e ds.length (fun i => ds.getD i .none) σ₁ := fun fr tm s Q E ht S hQ => by
  refine he fr tm s _ E ht S fun v h' tk ht S' => ?_
  obtain ⟨I, ρ, m, S'⟩ := S'
  obtain ⟨ax, vs, n, rfl, h1, r⟩ := (S'.tmk _ (.head _)).d_inv.lst_inv
  refine PySem.wpAny_pyIter_list (items := vs.toArray) ⟨_, S'.imm _ _ h1, rfl, n, rfl⟩ ?_
  exact hQ h'.objs.size [h'.objs.size] [(.ref ax, .lst ds)] (PList h'.objs.size ax) [(h'.objs.size, { cls := .type "list_iterator", data := .fields #[.ref ax, .int 0 0] })] _ _ (fun B Ia env wr => Itr.list (c := { c with B := B, Ia := Ia, env := env, wr := wr }) hh _ ax ds) ⟨_, rfl, rfl, rfl⟩ ht ⟨I, ρ, m, S'.pushFr _⟩

noncomputable def PRng (x b : Int) (a : Addr) (i : Nat) (os : List (Addr × Obj)) : Prop := os = [(a, { cls := .type "range_iterator", data := .fields #[rawInt (x + i), rawInt (((b - x).toNat : Int) - i), rawInt 1] })]
theorem Itr.range (hh : c.A.handled = none) (a : Addr) (x b : Int) : Itr c [] a [a] (b - x).toNat (fun i => .int (x + i)) (PRng x b a) where
  item := by
    rintro target σ fr tm i os s K E hi rfl hsrc ht ⟨I, ρ, m, S⟩ hK
    obtain ⟨g, n1, n2, n3, n4⟩ := S.frk _ (List.mem_append_left _ (.head _))
    refine PySem.wpAny_pyNext_range_item (it := a) (x := x + i) (left := ((b - x).toNat : Int) - i) (step := 1) g (by first | decide | omega) fun h' g' hs => ⟨_, rfl, ?_⟩
    refine letGo_plain g' rfl (by decide) ?_
    have S' := S.setFr g' hs
    refine hK _ h' _ [(a, { cls := .type "range_iterator", data := .fields #[rawInt (x + i + 1), rawInt (((b - x).toNat : Int) - i - 1), rawInt 1] })] ?_ (by first | decide | omega) ⟨I, ρ, m, S'.push (.d (.int _ _))⟩
    show _ = _
    rw [show x + (i : Int) + 1 = x + ((i + 1 : Nat) : Int) by omega, show ((b - x).toNat : Int) - i - 1 = ((b - x).toNat : Int) - ((i + 1 : Nat) : Int) by omega]
  done := by
    rintro σ fr tm os s K E rfl hsrc ht ⟨I, ρ, m, S⟩ hK
    obtain ⟨g, n1, n2, n3, n4⟩ := S.frk _ (List.mem_append_left _ (.head _))
    exact PySem.wpAny_pyNext_range_end (it := a) hh g (by first | decide | omega) fun h' he => ⟨rfl, hK h' _ ht fun b o hb e => he b o (fun q => hb (q ▸ .head _)) e⟩
  self := by
    rintro σ fr tm i os s Q E rfl hsrc ⟨I, ρ, m, S⟩ hQ
    obtain ⟨g, n1, n2, n3, n4⟩ := S.frk _ (List.mem_append_left _ (.head _))
    have hT : s.TypeIs (.ref a) "range_iterator" := ⟨_, g, rfl⟩
    refine wpAny_pyIter_slot hT F.slot_range_iterator_iter (wpAny_call_entry F.slot_range_iterator_iter hT F.entry_range_iterator_iter ?_ (F.args_range_iterator_iter_1 _))
    show wpAny _ _ (PySem.ret (.ref a)) _ _ s
    exact wpAny_pure ⟨_, rfl, "range_iterator", _, hT, F.slot_range_iterator_next.lookup, hQ⟩
  fix := by rintro i os rfl; rfl

theorem ItE.rng {e : Expr} {x b : Int} (hh : c.A.handled = none) (he : Ev c σ e (.d (.rng x b)) σ₁) (h1 : -(2 ^ 62) ≤ x) (h2 : x < 2 ^ 62) (h3 : -(2 ^ 62) ≤ b) (h4 : b < 2 ^ 62) : ItE c σ e (b - x).toNat (fun i => .int (x + i)) σ₁ := fun fr tm s Q E ht S hQ => by
  refine he fr tm s _ E ht S fun v h' tk ht S' => ?_
  obtain ⟨I, ρ, m, S'⟩ := S'
  obtain ⟨r, t, u, w, rfl, h1'⟩ := (S'.tmk _ (.head _)).d_inv.rng_inv
  refine PySem.wpAny_pyIter_range (r := r) (a := x) (b := b) (c := 1) (t := t) (u := u) (v := w) (S'.imm _ _ h1') (PySem.small_one h1 h2 h3 h4) ?_
  refine hQ h'.objs.size [h'.objs.size] [] (PRng x b h'.objs.size) _ _ _ (fun B Ia env wr => Itr.range (c := { c with B := B, Ia := Ia, env := env, wr := wr }) hh _ x b) rfl ht ⟨I, ρ, m, ?_⟩
  have := (S'.sub (tmp' := tm) fun _ hq => .tail _ hq).pushFr { cls := .type "range_iterator", data := .fields #[rawInt x, rawInt (Builtin.Range.rangeSize x b 1), rawInt 1] }
  have e1 : Builtin.Range.rangeSize x b 1 = ((b - x).toNat : Int) - (0 : Nat) := by rw [PySem.rangeSize_one]; split <;> omega
  rw [e1] at this
  simpa [List.nil_append, e1, dt] using this

/-! ### for -/
noncomputable def LoopR (c : Cx) (R : FD → Sg → Prop) (K : Sg → Prop) : FD → Sg → Prop
  | .next, σ => ∃ σ', Sle c σ σ' ∧ K σ'
  | .cont, σ => ∃ σ', Sle c σ σ' ∧ K σ'
  | .brk, σ => R .next σ
  | .ret x, σ => R (.ret x) σ
/-- the state of a loop at its head: k turns at most to go -/
inductive TurnI (c : Cx) (Inv : Nat → Sg → Prop) (P : Nat → List (Addr × Obj) → Prop) (fr : List (Addr × Obj)) (tm : List (Value × Vl)) (n : Nat) (s : Shared) : Nat → Shared → Prop
  | mk {i : Nat} {σ : Sg} {os : List (Addr × Obj)} {h : Heap} {tk : Nat} : 1 ≤ tk → P i os → Inv i σ → St c σ (os ++ fr) tm h → i ≤ n → TurnI c Inv P fr tm n s (n + 1 - i) { s with heap := h, toks := tk }
noncomputable def TurnK (I : Nat → Shared → Prop) (k : Nat) (RR : Result → Shared → Prop) (f : Flow) (s : Shared) : Prop :=
  match f with
  | .next | .cont => ∃ m, m < k ∧ I m s
  | .brk => RR (.ok .next) s
  | .ret v => RR (.ok (.ret v)) s
section
variable {Inv : Nat → Sg → Prop} {P : Nat → List (Addr × Obj) → Prop} {fr os : List (Addr × Obj)} {tm tm' : List (Value × D)} {n i : Nat} {s : Shared} {h : Heap} {tk : Nat} {RR : Result → Shared → Prop} {E : Value → Shared → Prop} {a : Addr} {it : Nat → D}
theorem TurnI.go {ts : List (Value × Vl)} (hlt : i < n) (ht : 1 ≤ tk) (hP : P (i + 1) os) (hr : Inv (i + 1) σ) (S : St c σ (os ++ fr) ts h) : ∃ m, m < n + 1 - i ∧ TurnI c Inv P fr ts n s m { s with heap := h, toks := tk } :=
  ⟨n + 1 - (i + 1), Nat.sub_lt_sub_left (Nat.lt_succ_of_lt hlt) (Nat.lt_succ_self i), .mk ht hP hr S hlt⟩
theorem turn_body {body : List Stmt} (hb : Ws c σ body (LoopR c R (Inv (i + 1)))) (hlt : i < n) (hP : P (i + 1) os) (ht : 1 ≤ tk) (S : St c σ (os ++ fr) (dt tm') h) (hsub : ∀ p ∈ dt tm, p ∈ dt tm') (hQ : Post c fr tm R (fun f s' => RR (.ok f) s') s) :
    wpAny c.M c.A (execs body c.env) (TurnK (TurnI c Inv P fr (dt tm') n s) (n + 1 - i) RR) E { s with heap := h, toks := tk } := by
  refine hb (os ++ fr) tm' _ _ E ht S fun f fd σ'' h₃ tk₃ ht hr hf => ?_
  rcases hf.inv with ⟨rfl, rfl, S₃⟩ | ⟨rfl, rfl, S₃⟩ | ⟨rfl, rfl, S₃⟩ | ⟨v, x, rfl, rfl, S₃⟩
  · obtain ⟨σ₃, hle, hI⟩ := hr
    exact TurnI.go hlt ht hP hI (hle _ _ _ S₃)
  · exact hQ .next .next σ'' h₃ tk₃ ht hr (S₃.dropL.sub hsub)
  · obtain ⟨σ₃, hle, hI⟩ := hr
    exact TurnI.go hlt ht hP hI (hle _ _ _ S₃)
  · exact hQ (.ret v) (.ret x) σ'' h₃ tk₃ ht hr (S₃.dropL.sub (List.cons_subset_cons _ hsub))
/-- an item is given -/
noncomputable def ItemOk (c : Cx) (target : Expr) (a : Addr) (fr : List (Addr × Obj)) (tm : List (Value × Vl)) (n : Nat) (it : Nat → D) (P : Nat → List (Addr × Obj) → Prop) : Prop :=
  ∀ (σ : Sg) (i : Nat) (os : List (Addr × Obj)) (s : Shared) (K : Value → Shared → Prop) (E : Value → Shared → Prop), i < n → P i os → 1 ≤ s.toks → St c σ (os ++ fr) tm s.heap →
    (∀ v h' tk os', P (i + 1) os' → 1 ≤ tk → St c σ (os' ++ fr) ((v, .d (it i)) :: tm) h' → K v { s with heap := h', toks := tk }) →
    wpAny c.M c.A (pyNext (.ref a)) (fun r s₁ => ∃ v, r = some v ∧ wpAny c.M c.A (letOwnedTupleGo target (.ref a) v) (fun _ s₂ => K v s₂) E s₁) E s
/-- none is left -/
noncomputable def DoneOk (c : Cx) (a : Addr) (fr : List (Addr × Obj)) (tm : List (Value × Vl)) (n : Nat) (P : Nat → List (Addr × Obj) → Prop) : Prop :=
  ∀ (σ : Sg) (os : List (Addr × Obj)) (s : Shared) (K : Shared → Prop) (E : Value → Shared → Prop), P n os → 1 ≤ s.toks → St c σ (os ++ fr) tm s.heap →
    (∀ h' tk, 1 ≤ tk → St c σ fr tm h' → K { s with heap := h', toks := tk }) → wpAny c.M c.A (pyNext (.ref a)) (fun r s₁ => r = none ∧ K s₁) E s
theorem for_core {target : Expr} {body orelse : List Stmt} (hit : ItemOk c target a fr (dt tm') n it P) (hdn : DoneOk c a fr (dt tm') n P) (hsub : ∀ p ∈ dt tm, p ∈ dt tm')
    (step : ∀ i σ, i < n → Inv i σ → ∃ σ', As c σ target (.d (it i)) σ' ∧ Ws c σ' body (LoopR c R (Inv (i + 1)))) (done : ∀ σ, Inv n σ → Ws c σ orelse R)
    (ht : 1 ≤ tk) (hP : P 0 os) (hI : Inv 0 σ) (S : St c σ (os ++ fr) (dt tm') h) (hQ : Post c fr tm R (fun f s' => RR (.ok f) s') s) :
    codeAny c.M c.A (.forLoop target (.ref a) body orelse c.env) RR { s with heap := h, toks := tk } := by
  refine codeAny_forLoop_any (TurnI c Inv P fr (dt tm') n s) ?_ _ (.mk ht hP hI S (Nat.zero_le _))
  rintro _ _ @⟨i, σ, os, h, tk, ht, hPi, hIi, Si, hin⟩
  by_cases hlt : i < n
  · obtain ⟨σ', ha, hb⟩ := step i σ hlt hIi
    refine wpAny_mono (hit σ i os _ (fun v s₂ => wpAny c.M c.A (assign target c.env v) (fun _ s₂ => wpAny c.M c.A (execs body c.env) (TurnK (TurnI c Inv P fr (dt tm') n s) (n + 1 - i) RR)
      (notedBy c.M c.A c.env fun e s' => RR (.error e) s') s₂) (notedBy c.M c.A c.env fun e s' => RR (.error e) s') s₂) _ hlt hPi ht Si fun v h₁ tk₁ os' hP' ht S₁ => ?_) (fun r s₁ hr => ?_) fun _ _ e => e
    · exact ha (os' ++ fr) (dt tm') _ _ _ v ht S₁ fun h₂ tk₂ ht S₂ => turn_body hb hlt hP' ht S₂ hsub hQ
    · obtain ⟨v, rfl, hv⟩ := hr
      exact hv
  · cases Nat.le_antisymm hin (Nat.not_lt.mp hlt)
    refine wpAny_mono (hdn σ os _ (fun s₁ => wpAny c.M c.A (execs orelse c.env) (fun f s₃ => RR (.ok f) s₃) (notedBy c.M c.A c.env fun e s' => RR (.error e) s') s₁) _ hPi ht Si fun h₁ tk₁ ht S₁ => ?_) (fun r s₁ hr => ?_) fun _ _ e => e
    · exact done σ hIi fr tm _ _ _ ht (S₁.sub hsub) fun f fd σ' h₂ tk₂ ht hr hf => hQ f fd σ' h₂ tk₂ ht hr hf
    · obtain ⟨rfl, hr⟩ := hr
      exact hr
end
theorem Itr.itemOk {src : List (Value × D)} {a : Addr} {ads : List Addr} {n : Nat} {it : Nat → D} {P : Nat → List (Addr × Obj) → Prop} (I : Itr c src a ads n it P) (target : Expr) (fr : List (Addr × Obj)) {tm : List (Value × Vl)} (hsrc : ∀ p ∈ dt src, p ∈ tm) : ItemOk c target a fr tm n it P :=
  fun σ i os s K E hlt hP => I.item target σ fr tm i os s K E hlt hP hsrc
theorem Itr.doneOk {src : List (Value × D)} {a : Addr} {ads : List Addr} {n : Nat} {it : Nat → D} {P : Nat → List (Addr × Obj) → Prop} (I : Itr c src a ads n it P) (fr : List (Addr × Obj)) {tm : List (Value × Vl)} (hsrc : ∀ p ∈ dt src, p ∈ tm) : DoneOk c a fr tm n P := fun σ os s K E hPi ht Si hK => by
  obtain ⟨J, ρ, m, SI⟩ := Si
  refine I.done σ fr tm os s K E hPi hsrc ht ⟨J, ρ, m, SI⟩ fun h₁ tk₁ ht hk => hK h₁ tk₁ ht ?_
  rw [← I.fix _ _ hPi] at hk
  exact ⟨J, ρ, m, SI.extX hk (Sub.refl J) (fun b o e => hk b o (fun hb => by
    obtain ⟨p, hp, rfl⟩ := List.mem_map.mp hb
    rw [(SI.frk p (List.mem_append_left _ hp)).2.1] at e; cases e) (SI.imm b o e)) fun b o e => .inl e⟩
theorem WX.for_ {target iter : Expr} {body orelse : List Stmt} {pos : Pos} {n : Nat} {it : Nat → D} (Inv : Nat → Sg → Prop) (hi : ItW c σ iter n it σ₁) (h0 : ∃ σ', Sle c σ₁ σ' ∧ Inv 0 σ') (step : ∀ i σ, i < n → Inv i σ → ∃ σ', AsW c σ target (.d (it i)) σ' ∧ WS c σ' body (LoopR c R (Inv (i + 1)))) (done : ∀ σ, Inv n σ → WS c σ orelse R) (hs : ∀ x, foldedSetIterable iter c.env x = pure x := by intro _; rfl) : WX c σ (.For target iter body orelse pos) R := ⟨fun fr tm s Q E ht S hQ => by
  obtain ⟨σ₀, hle₀, h0⟩ := h0
  refine wpAny_For (hi.run fr (dt tm) s _ E ht S fun a ads src P os h' tk I₀ hP ht S' => ?_) hs
  have hdt : dt src ++ dt tm = dt (src ++ tm) := (List.map_append ..).symm
  rw [hdt] at S'
  have hsrc : ∀ p ∈ dt src, p ∈ dt (src ++ tm) := fun p hp => hdt ▸ List.mem_append_left _ hp
  exact for_core ((I₀ c.B c.Ia c.env c.wr).itemOk target fr hsrc) ((I₀ c.B c.Ia c.env c.wr).doneOk fr hsrc) (fun p hp => hdt ▸ List.mem_append_right _ hp) (fun i σ hi hI => let ⟨σ', a, b⟩ := step i σ hi hI; ⟨σ', a.run, b.run⟩) (fun σ hI => (done σ hI).run) ht hP h0 (hle₀ _ _ _ S') hQ⟩

theorem Itr.congr {src : List (Value × D)} {a : Addr} {ads : List Addr} {n : Nat} {it it' : Nat → D} {P : Nat → List (Addr × Obj) → Prop} (I : Itr c src a ads n it P) (h : ∀ i, i < n → it i = it' i) : Itr c src a ads n it' P where
  item := fun target σ fr tm i os s K E hi => h i hi ▸ I.item target σ fr tm i os s K E hi
  done := I.done
  self := I.self
  fix := I.fix
theorem ItE.congr {e : Expr} {n : Nat} {it it' : Nat → D} (I : ItE c σ e n it σ₁) (h : ∀ i, i < n → it i = it' i) : ItE c σ e n it' σ₁ := fun fr tm s Q E ht S hQ =>
  I fr tm s Q E ht S fun a ads src P os h' tk J => hQ a ads src P os h' tk fun B Ia env wr => (J B Ia env wr).congr h
theorem ItW.lstMap {α : Type} {e : Expr} (f : α → D) (l : List α) (a0 : α) (hh : c.A.handled = none) (he : Ew c σ e (.d (.lst (l.map f))) σ₁) : ItW c σ e l.length (fun i => f (l.getD i a0)) σ₁ := ⟨by
  have := ItE.list hh he.run
  rw [List.length_map] at this
  refine this.congr fun i hi => ?_
  simp [List.getD_eq_getElem?_getD, List.getElem?_map, List.getElem?_eq_getElem hi]⟩
theorem ItW.range1 {e : Expr} {b : Int} {n : Nat} (hh : c.A.handled = none) (he : Ew c σ e (.d (.rng 0 b)) σ₁) (hn : b.toNat = n) (h4 : b < 2 ^ 62) (h3 : -(2 ^ 62) ≤ b) : ItW c σ e n (fun i => .int i) σ₁ := ⟨by
  have := ItE.rng hh he.run (by first | decide | omega) (by first | decide | omega) h3 h4
  rw [show (b - 0).toNat = n by rw [← hn]; congr 1; omega] at this
  exact this.congr fun i _ => by simp⟩
end
end Mine
end TLoop

section TCall
open PySem PySem.W PySem.Calls PyProof.Rows
set_option autoImplicit false
set_option linter.unusedVariables false
set_option Elab.async false
namespace Mine

noncomputable abbrev pw : Program := PySem.Challenge.pw_xo0035_01

/-- room left: for calls of the text's own, and for built-in ones -/
structure Room (A : Around) (k : Nat) : Prop where
  handled : A.handled = none
  depth : A.depth + k < recursionLimit
  units : A.units + 3 * k + 3 < cLine
theorem Room.le {A : Around} {k j : Nat} (h : Room A k) (hj : j ≤ k) : Room A j := ⟨h.handled, by have := h.depth; omega, by have := h.units; omega⟩
theorem Room.deeper {A : Around} {k : Nat} (h : Room A (k + 1)) (env : Env) : Room (A.deeper env) k := ⟨h.handled, by have := h.depth; show A.depth + 1 + k < _; omega, by have := h.units; show A.units + 3 + 3 * k + 3 < _; omega⟩
theorem Room.in1 {A : Around} {k : Nat} (h : Room A (k + 1)) : Room A.in1 k := ⟨h.handled, by have := h.depth; show A.depth + k < _; omega, by have := h.units; show A.units + 1 + 3 * k + 3 < _; omega⟩

noncomputable def CodeM (B : Mp) (cd : Value) (q : Str) : Prop := ∃ c o vs t, cd = .ref c ∧ B c = some o ∧ o.data = .fields vs ∧ vs[1]? = some (.str q t)
theorem CodeM.mono {B B' : Mp} {cd : Value} {q : Str} (h : CodeM B cd q) (hs : Sub B B') : CodeM B' cd q := let ⟨c, o, vs, t, e, g, r⟩ := h; ⟨c, o, vs, t, e, hs _ _ g, r⟩

/-- what a call asks of its function: the arguments' data, and the answer's -/
noncomputable def FnOk (c : Cx) (f : Value) (args : List D) (ret : D) : Prop :=
  ∀ (I : Mp) (s : Shared) (vs : List Value) (Q : Value → Shared → Prop) (E : Value → Shared → Prop), 1 ≤ s.toks → Sub c.B s.heap.get? → Sub I s.heap.get? → Reps I vs args →
    (∀ v h' tk J, 1 ≤ tk → Sub s.heap.get? h'.get? → Sub I J → Sub J h'.get? → (∀ b o, J b = some o → I b = some o ∨ s.heap.get? b = none) → Rep J v ret → Q v { s with heap := h', toks := tk }) →
    wpAny c.M c.A (call f vs) Q E s
theorem FnOk.mk {c : Cx} {f : Value} {args : List D} {ret : D}
    (h : ∀ (I : Mp) (s : Shared) (vs : List Value) (Q : Value → Shared → Prop) (E : Value → Shared → Prop), 1 ≤ s.toks → Sub c.B s.heap.get? → Sub I s.heap.get? → Reps I vs args →
    (∀ v h' tk J, Sub s.heap.get? h'.get? → Sub I J → Sub J h'.get? → (∀ b o, J b = some o → I b = some o ∨ s.heap.get? b = none) → Rep J v ret → Q v { s with heap := h', toks := tk }) →
    wpAny c.M c.A (call f vs) Q E s) : FnOk c f args ret := fun I s vs Q E ht hB hI hv hQ =>
  wpAny_mono (wpAny_toks_of ht (h I s vs (fun v s' => 1 ≤ s'.toks → Q v s') E ht hB hI hv fun v h' tk J h1 h2 h3 h4 h5 ht' => hQ v h' tk J ht' h1 h2 h3 h4 h5)) (fun _ _ q => q.2 q.1) fun _ _ e => e.2
/-- a def of the text's own, in the part of the heap that is kept -/
noncomputable def IsFn (c : Cx) (f : Value) : Prop := ∃ a o fd, f = .ref a ∧ c.B a = some o ∧ o.data = .func fd

section
variable {c : Cx} {σ σ₁ σ₂ σ₃ : Sg} {R : FD → Sg → Prop}

/-- a state after a call -/
theorem StI.called {fr : List (Addr × Obj)} {tmp : List (Value × Vl)} {h h' : Heap} {I J : Mp} {ρ : List Addr} {m : Str → Option Value} (S : StI c σ fr tmp h I ρ m)
    (k : Sub h.get? h'.get?) (hIJ : Sub I J) (hJ : Sub J h'.get?) (ho : ∀ b o, J b = some o → I b = some o ∨ h.get? b = none) : StI c σ fr tmp h' J ρ m := S.ext k hIJ hJ ho

theorem callOp {f : Value} {args : List D} {ret : D} (hok : FnOk c f args ret) {fr : List (Addr × Obj)} {tm : List (Value × Vl)} {s : Shared} {vs : List Value} {xs : List Vl} {Q : Value → Shared → Prop} {E : Value → Shared → Prop}
    (hx : allD xs = some args) (hl : vs.length = xs.length) (ht : 1 ≤ s.toks) (S : St c σ fr (vs.zip xs ++ tm) s.heap) (hQ : ∀ v h' tk, 1 ≤ tk → St c σ fr ((v, .d ret) :: tm) h' → Q v { s with heap := h', toks := tk }) :
    wpAny c.M c.A (call f vs) Q E s := by
  obtain ⟨I, ρ, m, S⟩ := S
  have hr : Reps I vs args := RepVs.toReps (ρ := ρ) (allD_eq hx ▸ S.repVs hl)
  exact hok I s vs Q E ht S.base S.imm hr fun v h' tk J ht k hIJ hJ ho hv => hQ v h' tk ht ⟨J, ρ, m, (S.tail.called k hIJ hJ ho).push (.d hv)⟩

theorem Ev.call {x : Str} {p pos : Pos} {a : Expr} {as : List Expr} {f : Value} {xs : List Vl} {args : List D} {ret : D} (hf : Ev c σ (.Name x p) (.d (.raw f)) σ₁) (hi : IsFn c f) (ha : Evs c σ₁ (a :: as) xs σ₂) (hx : allD xs = some args) (hok : FnOk c f args ret)
    (he : starEach (a :: as) c.env = (false, eval a c.env) :: starEach as c.env := by rfl) : Ev c σ (.Call (.Name x p) (a :: as) [] pos) (.d ret) σ₂ := fun fr tm s Q E ht S hQ => by
  refine wpAny_Call_NameR (hf fr tm s _ E ht S fun v h' tk ht S' => ?_)
  rw [S'.raw (.head _)]
  obtain ⟨ad, o, fd, rfl, hb, hd⟩ := hi
  refine callWith_def hd (ha fr tm _ _ E pos ht S'.pop fun vs h'' tk'' hl ht S'' => ⟨S''.base _ _ hb, ?_⟩) he
  exact callOp hok hx hl ht S'' fun v h₃ tk₃ ht S₃ => hQ v h₃ tk₃ ht S₃
/-- a call of a built-in function -/
theorem Ew.callB {x : Str} {p pos : Pos} {a : Expr} {as : List Expr} {id : String} {xs : List Vl} {args : List D} {ret : D} (hf : Ew c σ (.Name x p) (.d (.raw (.builtin id))) σ₁) (ha : EWs c σ₁ (a :: as) xs σ₂) (hx : allD xs = some args) (hok : FnOk c (.builtin id) args ret) (he : starEach (a :: as) c.env = (false, eval a c.env) :: starEach as c.env := by rfl) (hp : (backTo pos (starEach as c.env)).any (·.1) = false := by rfl) : Ew c σ (.Call (.Name x p) (a :: as) [] pos) (.d ret) σ₂ := ⟨fun fr tm s Q E ht S hQ => by
  refine wpAny_Call_NameR (hf.run fr tm s _ E ht S fun v h' tk ht S' => ?_)
  rw [S'.raw (.head _)]
  have hse : backTo pos (starEach (a :: as) c.env) = (false, eval a c.env) :: backTo pos (starEach as c.env) := by rw [he]; rfl
  have key := ha.run fr tm { s with heap := h', toks := tk } (fun vs s₁ => wpAny c.M c.A (PySem.call (.builtin id) vs) Q E s₁) E pos ht S'.pop fun vs h'' tk'' hl ht S'' => callOp (s := { s with heap := h'', toks := tk'' }) hok hx hl ht S'' fun v h₃ tk₃ ht S₃ => hQ v h₃ tk₃ ht S₃
  rw [hse] at key ⊢
  exact Calls.callWith_builtin (by show (false || _) = false; rw [hp]; rfl) (evalArgs_plain key)⟩
/-- a call of a built-in class -/
theorem Ew.callT {x : Str} {p pos : Pos} {a : Expr} {as : List Expr} {T : String} {xs : List Vl} {args : List D} {ret : D} (hf : Ew c σ (.Name x p) (.d (.raw (.type T))) σ₁) (ha : EWs c σ₁ (a :: as) xs σ₂) (hx : allD xs = some args) (hok : FnOk c (.type T) args ret) (he : starEach (a :: as) c.env = (false, eval a c.env) :: starEach as c.env := by rfl) (hp : (backTo pos (starEach as c.env)).any (·.1) = false := by rfl) : Ew c σ (.Call (.Name x p) (a :: as) [] pos) (.d ret) σ₂ := ⟨fun fr tm s Q E ht S hQ => by
  refine wpAny_Call_NameR (hf.run fr tm s _ E ht S fun v h' tk ht S' => ?_)
  rw [S'.raw (.head _)]
  have hse : backTo pos (starEach (a :: as) c.env) = (false, eval a c.env) :: backTo pos (starEach as c.env) := by rw [he]; rfl
  have key := ha.run fr tm { s with heap := h', toks := tk } (fun vs s₁ => wpAny c.M c.A (PySem.call (.type T) vs) Q E s₁) E pos ht S'.pop fun vs h'' tk'' hl ht S'' => callOp (s := { s with heap := h'', toks := tk'' }) hok hx hl ht S'' fun v h₃ tk₃ ht S₃ => hQ v h₃ tk₃ ht S₃
  rw [hse] at key ⊢
  exact PySem.callWith_type (by show (false || _) = false; rw [hp]; rfl) (evalArgs_plain key)⟩
end

/-! ### a def's frame -/
theorem bindL_eq {kindOf : Str → Option NameKind} : ∀ (binds : List (Str × Value)) (m : Str → Option Value) (y : Str), (∀ x ∈ binds, kindOf x.1 = some .local) → bindL kindOf binds m y = (binds.reverse.lookup y).or (m y)
  | [], m, y, _ => rfl
  | (n, v) :: r, m, y, h => by
    unfold bindL
    rw [if_pos (h _ (.head _)), bindL_eq r _ y fun x hx => h x (.tail _ hx), List.reverse_cons, List.lookup_append]
    cases List.lookup y r.reverse with
    | some u => rfl
    | none =>
      simp only [Option.none_or, List.lookup_cons, List.lookup_nil]
      by_cases hy : y = n
      · subst hy; simp
      · simp [hy, beq_eq_false_iff_ne.mpr hy]
theorem bindC_eq {kindOf : Str → Option NameKind} : ∀ (binds : List (Str × Value)) (m : Str → Option Value), (∀ x ∈ binds, kindOf x.1 = some .local) → bindC kindOf binds m = m
  | [], m, _ => rfl
  | (n, v) :: r, m, h => by unfold bindC; rw [if_pos (h _ (.head _)), bindC_eq r m fun x hx => h x (.tail _ hx)]

/-- the numbers of a scope's cells -/
noncomputable def cixOf (names : List (Str × NameKind)) : List (Str × Nat) := ((cellsFrom 0 names []).map (·.1)).zipIdx
theorem lookup_zipIdx {x : Str} {j : Nat} : ∀ {l : List (Str × Addr)} {k : Nat}, ((l.map (·.1)).zipIdx k).lookup x = some j → k ≤ j ∧ ∃ a, l.lookup x = some a ∧ (l.map (·.2))[j - k]? = some a
  | (n, a) :: r, k, h => by
    rw [List.map_cons, List.zipIdx_cons, List.lookup_cons] at h
    cases hb : x == n with
    | true => rw [hb] at h; cases h; exact ⟨Nat.le_refl _, a, by rw [List.lookup_cons, hb], by simp⟩
    | false =>
      rw [hb] at h
      obtain ⟨h1, a', h2, h3⟩ := lookup_zipIdx (l := r) h
      refine ⟨by omega, a', by rw [List.lookup_cons, hb]; exact h2, ?_⟩
      rw [List.map_cons, show j - k = (j - (k + 1)) + 1 by omega, List.getElem?_cons_succ]; exact h3
noncomputable def sg0 (names : List Str) (sc : Scope) (args : List D) : Sg := { loc := (names.zip (args.map .d)).reverse, mu := (cixOf sc.names).map fun _ => .cell none, cix := cixOf sc.names }

theorem lookup_rev_zip {I : Mp} {ρ : List Addr} {x : Str} {y : Vl} : ∀ {ns : List Str} {vs : List Value} {xs : List Vl}, RepVs I ρ vs xs → (ns.zip xs).reverse.lookup x = some y → ∃ u, (ns.zip vs).reverse.lookup x = some u ∧ RepV I ρ u y := by
  intro ns vs xs h
  induction h generalizing ns with
  | nil => intro e; simp at e
  | @cons v vs w xs hv _ ih =>
    intro e
    cases ns with
    | nil => simp at e
    | cons n ns =>
      rw [List.zip_cons_cons, List.reverse_cons, List.lookup_append] at e
      rw [List.zip_cons_cons, List.reverse_cons, List.lookup_append]
      cases hq : List.lookup x (ns.zip xs).reverse with
      | some z =>
        rw [hq] at e; cases e
        obtain ⟨u, h1, h2⟩ := ih hq
        exact ⟨u, by rw [h1]; rfl, h2⟩
      | none =>
        rw [hq] at e
        have hn : List.lookup x (ns.zip vs).reverse = none := by
          cases hz : List.lookup x (ns.zip vs).reverse with
          | none => rfl
          | some u =>
            exfalso
            rename_i hr
            have hlen := hr.length
            rw [List.lookup_eq_none_iff] at hq
            have := PySem.mem_of_lookup hz
            rw [List.mem_reverse] at this
            obtain ⟨k, hk⟩ := List.getElem?_of_mem this
            rw [List.getElem?_zip_eq_some] at hk
            obtain ⟨y', hy⟩ : ∃ y', xs[k]? = some y' := ⟨_, List.getElem?_eq_getElem (by have := (List.getElem?_eq_some_iff.mp hk.2).1; omega)⟩
            have hm : (x, y') ∈ (ns.zip xs).reverse := List.mem_reverse.mpr (List.mem_of_getElem? (i := k) (List.getElem?_zip_eq_some.mpr ⟨hk.1, hy⟩))
            have := hq _ hm
            simp at this
        rw [hn]
        simp only [Option.none_or, List.lookup_cons, List.lookup_nil] at e ⊢
        cases hb : x == n with
        | true => rw [hb] at e; cases e; exact ⟨v, rfl, hv⟩
        | false => rw [hb] at e; cases e

noncomputable def RetIs (ret : D) : FD → Sg → Prop
  | .ret x, _ => x = .d ret
  | .next, _ => ret = .none
  | _, _ => False

theorem call_cells_tk {prog : Program} {w : World} {A : Around} {R : Result → Shared → Prop} {s : Shared} {name : Str} {params : Arguments} {body : List Stmt} {scope : Scope}
    {pm cd doc : Value} {a : Addr} {o : Obj} {args : List Value} {binds : List (Str × Value)} (ht : 1 ≤ s.toks)
    (hroom : A.depth < recursionLimit) (ho : s.heap.get? a = some o) (hdata : o.data = .func (docDef name params body scope pm cd doc)) (hlim : s.heap.NoLimit) (hcd : s.heap.CodeRec cd name)
    (hbind : bindArgs (docDef name params body scope pm cd doc) ⟨args, []⟩ = pure binds)
    (hkind : ∀ x ∈ binds, scope.names.lookup x.1 = some .local ∨ (scope.names.lookup x.1 = some .cell ∧ ((cellsFrom (s.heap.objs.size + 1) scope.names []).lookup x.1).isSome = true))
    (h : ∀ h₁ tk, 1 ≤ tk → Fr s.heap s.heap.objs.size h₁ (bindL (envOfC name scope s.heap.objs.size a cd).kindOf binds fun _ => none) →
      Cl s.heap.objs.size (cellsFrom (s.heap.objs.size + 1) scope.names []) h₁ (bindC (envOfC name scope s.heap.objs.size a cd).kindOf binds fun _ => none) →
      wpAny (model prog w) (A.deeper (envOfC name scope s.heap.objs.size a cd)) (execs body (envOfC name scope s.heap.objs.size a cd))
        (fun f s' => R (.ok (.ret (match f with | .ret v => v | _ => .none))) s') (fun _ _ => False) { s with heap := h₁, toks := tk })
    (hco : scope.isCoroutine = false) (hgen : scope.isGenerator = false) (hk : scope.kind = .function) :
    codeAny (model prog w) A (.call (.ref a) ⟨args, []⟩) R s := by
  refine codeAny_call_function hroom ho hdata hco hgen rfl hcd ?_
  rw [hbind]
  refine wpAny_pure (wpAny_mono (wpAny_toks_of ht (wpAny_newFunctionEnv_cells (Q := fun env s' => env = envOfC name scope s.heap.objs.size a cd ∧
    InCallC s env.locals (bindL env.kindOf binds fun _ => none) env.cells (bindC env.kindOf binds fun _ => none) s') hk hkind fun env he s' x => ⟨he, x⟩)) (fun env s' q => ?_) fun _ _ e => e.2)
  obtain ⟨ht', he, X⟩ := q
  subst he
  refine ⟨hlim.keeps X.toInCall.keep, codeAny_func ?_⟩
  obtain ⟨h₁, tk, rfl, _⟩ := X.done
  exact wpAny_mono (h h₁ tk ht' ⟨X.toInCall.ns, X.toInCall.keep, X.toInCall.fresh⟩ ⟨X.cell, X.apart, X.above⟩) (fun _ _ x => x) fun _ _ x => x.elim

theorem FnOk.entry {c : Cx} {n : Str} {ps : Arguments} {bd : List Stmt} {sc : Scope} {args : List D} {ret : D} {a : Addr} {o : Obj} {pm code doc : Value} (hlim : NoLimM c.B) (hr : Room c.A 1)
    (ho : c.B a = some o) (hdata : o.data = .func (docDef n ps bd sc pm code doc)) (hcd : CodeM c.B code n)
    (hbind : ∀ vs : List Value, vs.length = args.length → bindArgs (docDef n ps bd sc pm code doc) ⟨vs, []⟩ = pure ((ps.args.map (·.arg)).zip vs))
    (hloc : ∀ x ∈ ps.args.map (·.arg), sc.names.lookup x = some .local)
    (body : ∀ (B Ia : Mp) (L : Addr), Sub c.B B → Ws { c with env := envOfC n sc L a code, A := c.A.deeper (envOfC n sc L a code), B := B, Ia := Ia, wr := true } (sg0 (ps.args.map (·.arg)) sc args) bd (RetIs ret))
    (hco : sc.isCoroutine = false := by rfl) (hgen : sc.isGenerator = false := by rfl) (hk : sc.kind = .function := by rfl)
    (hnd : ((cellsFrom 0 sc.names []).map (·.1)).Nodup := by decide +kernel) : FnOk c (.ref a) args ret := fun I s vs Q E ht hB hI hv hQ => by
  have hlim' : s.heap.NoLimit := (hlim.mono hB)
  have hcd' : s.heap.CodeRec code n := hcd.mono hB
  have hnm : ∀ x ∈ (ps.args.map (·.arg)).zip vs, sc.names.lookup x.1 = some .local := fun x hx => hloc x.1 (List.of_mem_zip hx).1
  refine wpAny_call (call_cells_tk ht (by have := hr.depth; omega) (hB _ _ ho) hdata hlim' hcd' (hbind vs hv.length) (fun x hx => .inl (hnm x hx)) (fun h₁ tk ht F X => ?_) hco hgen hk)
  have hko : ∀ x ∈ (ps.args.map (·.arg)).zip vs, (envOfC n sc s.heap.objs.size a code).kindOf x.1 = some .local := hnm
  rw [bindC_eq _ _ hko] at X
  have none_above : ∀ b, s.heap.objs.size ≤ b → s.heap.get? b = none := fun b hb => by
    cases e : s.heap.get? b with
    | none => rfl
    | some o => exact absurd (Heap.lt_size e) (Nat.not_lt.mpr hb)
  have inone : ∀ b, s.heap.objs.size ≤ b → I b = none := fun b hb => by
    cases e : I b with
    | none => rfl
    | some o => have := hI _ _ e; rw [none_above b hb] at this; cases this
  have S : StI { c with env := envOfC n sc s.heap.objs.size a code, A := c.A.deeper (envOfC n sc s.heap.objs.size a code), B := s.heap.get?, Ia := I, wr := true } (sg0 (ps.args.map (·.arg)) sc args) [] [] h₁ I
      ((cellsFrom (s.heap.objs.size + 1) sc.names []).map (·.2)) (bindL (envOfC n sc s.heap.objs.size a code).kindOf ((ps.args.map (·.arg)).zip vs) fun _ => none) := by
    have hcn : (cellsFrom (s.heap.objs.size + 1) sc.names []).map (·.1) = (cellsFrom 0 sc.names []).map (·.1) := cellsFrom_names _ _ _ _ _ rfl
    refine ⟨F.keep, fun b o e => F.keep b o (hI _ _ e), fun b o e => .inl e, Sub.refl I, F.ns, fun x v e => ?_, fun _ => ⟨none_above _ (Nat.le_refl _), inone _ (Nat.le_refl _)⟩, ?_, fun i b mo e1 e2 => ?_, ?_, fun x k e => ?_, fun x d e => ?_, fun p hp => ?_, ?_, fun p hp => ?_⟩
    · rw [bindL_eq _ _ _ hko]
      obtain ⟨u, h1, h2⟩ := lookup_rev_zip (RepVs.ofReps (ρ := ((cellsFrom (s.heap.objs.size + 1) sc.names []).map (·.2))) hv) e
      exact ⟨u, by rw [h1]; rfl, h2⟩
    · show _ = ((cixOf sc.names).map fun _ => MO.cell none).length
      have := congrArg List.length hcn
      simpa [cixOf] using this
    · have hm : b ∈ (cellsFrom (s.heap.objs.size + 1) sc.names []).map (·.2) := List.mem_of_getElem? e1
      obtain ⟨q, hq, rfl⟩ := List.mem_map.mp hm
      have e2' : ((cixOf sc.names).map fun _ => MO.cell none)[i]? = some mo := e2
      rw [List.getElem?_map] at e2'
      obtain ⟨_, _, rfl⟩ := Option.map_eq_some_iff.mp e2'
      have hlt := X.above q.1 q.2 hq
      have hc : h₁.IsCell q.2 none := by
        exact X.cell q.1 q.2 (lookup_of_mem_nodup (hcn ▸ hnd) hq)
      obtain ⟨o', g, hd⟩ := hc
      exact ⟨⟨o', g, .cell0 hd⟩, inone _ (Nat.le_of_lt hlt), none_above _ (Nat.le_of_lt hlt), Nat.ne_of_gt hlt⟩
    · rw [List.nodup_iff_pairwise_ne, List.pairwise_map]; exact X.apart
    · have e' : (cixOf sc.names).lookup x = some k := e
      unfold cixOf at e'
      rw [← hcn] at e'
      obtain ⟨_, a', h2, h3⟩ := lookup_zipIdx e'
      exact ⟨a', h2, by simpa using h3⟩
    · exact absurd e (by simp [sg0])
    · cases hp
    · exact .nil
    · cases hp
  refine body _ I _ hB [] [] { s with heap := h₁, toks := tk } _ _ ht ⟨I, _, _, S⟩ fun f fd σ' h' tk' ht hr hf => ?_
  have fin : ∀ v x, x = Vl.d ret → St { c with env := envOfC n sc s.heap.objs.size a code, A := c.A.deeper (envOfC n sc s.heap.objs.size a code), B := s.heap.get?, Ia := I, wr := true } σ' [] [(v, x)] h' → Q v { s with heap := h', toks := tk' } := fun v x hx ⟨J, ρ, m, S'⟩ => by
    subst hx
    exact hQ v h' tk' J ht S'.base S'.ia S'.imm S'.orig (S'.tmk _ (.head _)).d_inv
  rcases hf.inv with ⟨rfl, rfl, S'⟩ | ⟨rfl, rfl, S'⟩ | ⟨rfl, rfl, S'⟩ | ⟨v, x, rfl, rfl, S'⟩
  · have hr : ret = .none := hr
    exact fin .none (.d .none) (by rw [hr]) (S'.imm fun _ => .none)
  · exact hr.elim
  · exact hr.elim
  · exact fin v x hr S'
end Mine
end TCall

section TG
open PySem PySem.W PySem.Calls PyProof.Rows
set_option autoImplicit false
set_option linter.unusedVariables false
set_option Elab.async false
namespace Mine

/-- the names that stand for built-in things, and no global of the text's -/
noncomputable def bltNames : List Str := ["range", "len", "ord", "chr", "sum", "isinstance", "int", "tuple", "list", "sorted", "enumerate"]
noncomputable def intNames : List (Str × Int) := [("NT_OFFSET", 256), ("AMPER", 19), ("LBRACE", 25), ("RBRACE", 26), ("DOT", 23), ("AT", 49), ("ENDMARKER", 0)]
noncomputable def fnNames : List Str := ["_strcoll", "_strxfrm", "_append_modifier", "_build_localename", "ISNONTERMINAL", "ISEOF", "_escape_cdata_c14n", "_law_joined", "_law_ways", "_law_turned", "_law_sums", "_law_read", "_law_made"]

noncomputable def tokTable : List (Str × Int) := (("!" : Str), (54 : Int)) :: (("!=" : Str), (28 : Int)) :: (("%" : Str), (24 : Int)) :: (("%=" : Str), (40 : Int)) :: (("&" : Str), (19 : Int)) :: (("&=" : Str), (41 : Int)) :: (("(" : Str), (7 : Int)) :: ((")" : Str), (8 : Int)) :: (("*" : Str), (16 : Int)) :: (("**" : Str), (35 : Int)) :: (("**=" : Str), (46 : Int)) :: (("*=" : Str), (38 : Int)) :: (("+" : Str), (14 : Int)) :: (("+=" : Str), (36 : Int)) :: (("," : Str), (12 : Int)) :: (("-" : Str), (15 : Int)) :: (("-=" : Str), (37 : Int)) :: (("->" : Str), (51 : Int)) :: (("." : Str), (23 : Int)) :: (("..." : Str), (52 : Int)) :: (("/" : Str), (17 : Int)) :: (("//" : Str), (47 : Int)) :: (("//=" : Str), (48 : Int)) :: (("/=" : Str), (39 : Int)) :: ((":" : Str), (11 : Int)) :: ((":=" : Str), (53 : Int)) :: ((";" : Str), (13 : Int)) :: (("<" : Str), (20 : Int)) :: (("<<" : Str), (33 : Int)) :: (("<<=" : Str), (44 : Int)) :: (("<=" : Str), (29 : Int)) :: (("=" : Str), (22 : Int)) :: (("==" : Str), (27 : Int)) :: ((">" : Str), (21 : Int)) :: ((">=" : Str), (30 : Int)) :: ((">>" : Str), (34 : Int)) :: ((">>=" : Str), (45 : Int)) :: (("@" : Str), (49 : Int)) :: (("@=" : Str), (50 : Int)) :: (("[" : Str), (9 : Int)) :: (("]" : Str), (10 : Int)) :: (("^" : Str), (32 : Int)) :: (("^=" : Str), (43 : Int)) :: (("{" : Str), (25 : Int)) :: (("|" : Str), (18 : Int)) :: (("|=" : Str), (42 : Int)) :: (("}" : Str), (26 : Int)) :: (("~" : Str), (31 : Int)) :: []
noncomputable def qnInit : Option (Arguments × List Stmt × Scope) := (pw.theClass "QName").bind fun q => theDefIn q.2.1 "__init__"
noncomputable def qnDef : Arguments × List Stmt × Scope := qnInit.getD ({ posonlyargs := [], args := [], vararg := none, kwonlyargs := [], kw_defaults := [], kwarg := none, defaults := [] }, [], { kind := .function, names := [], isGenerator := false, isCoroutine := false })
/-- what is read of the class QName, in a part of the heap -/
structure QNf (K : Frag) (C fI T : Addr) (cdv : Value) : Prop where
  keep : keepIn K (.ref C) = true
  makes : makesIn K C = true
  init : findIn K (.ref C) "__init__" = some (some (.ref fI))
  fty : typeIn K (.ref fI) = some (.type "function")
  fn : ∃ oc od osl kV doc pm an ct, K.lookup fI = some ⟨oc, od, .func (fnOf "__init__" "QName.__init__" qnDef.1 qnDef.2.1 qnDef.2.2 (.ref T) kV doc pm an cdv ct), osl⟩
  dfl : ∃ o n, K.lookup T = some o ∧ o.data = .seq #[.none] n
  code : codeIn K cdv "QName.__init__" = true
  over : plainOver K C = true
  taker : takerIn K C "text" = some none
  hasd : hasDictIn K C = true
  seta : findIn K (.ref C) "__setattr__" = some (some (.builtin "object.__setattr__"))
  get : plainGet K C "text" = true
  findt : findIn K (.ref C) "text" = some none
noncomputable def QN (mg : Str → Option Value) (B : Mp) : Prop := ∃ (K : Frag) (C fI T : Addr) (cdv : Value), (∀ a o, K.lookup a = some o → B a = some o) ∧ mg "QName" = some (.ref C) ∧ QNf K C fI T cdv
/-- what the top has left, in a part of the heap that is kept -/
structure GX (mg mb : Str → Option Value) (c : Cx) : Prop where
  g : NsM c.B mainGlobals mg
  b : NsM c.B builtinsNs mb
  lim : NoLimM c.B
  bl : ∀ x : Str, x ≠ "__name__" → mb x = bootBuiltins x
  free : ∀ x ∈ bltNames, mg x = none
  int : ∀ x ∈ intNames, ∃ t, mg x.1 = some (.int x.2 t)
  fn : ∀ n ∈ fnNames, ∀ ps bd sc, pw.theDef n = some (ps, bd, sc) → ∃ a o pm code doc, mg n = some (.ref a) ∧ c.B a = some o ∧ o.data = .func (docDef n ps bd sc pm code doc) ∧ CodeM c.B code n
  sysm : ∃ o, c.B sysModules = some o
  ett : ∃ a o kvsV, mg "EXACT_TOKEN_TYPES" = some (.ref a) ∧ c.B a = some o ∧ (a == sysModules) = false ∧ SdObj c.prog c.w o kvsV ∧ ∀ I, KV I kvsV (tokTable.map fun p => (p.1, D.int p.2))
  qn : QN mg c.B

section
variable {mg mb : Str → Option Value} {c c' : Cx} {σ : Sg}
theorem GX.mono (G : GX mg mb c) (hs : Sub c.B c'.B) (hp : c.prog = c'.prog := by rfl) (hw : c.w = c'.w := by rfl) : GX mg mb c' where
  g := G.g.mono hs
  b := G.b.mono hs
  lim := G.lim.mono hs
  bl := G.bl
  free := G.free
  int := G.int
  fn := fun n hn ps bd sc e => let ⟨a, o, pm, code, doc, h1, h2, h3, h4⟩ := G.fn n hn ps bd sc e; ⟨a, o, pm, code, doc, h1, hs _ _ h2, h3, h4.mono hs⟩
  sysm := let ⟨o, e⟩ := G.sysm; ⟨o, hs _ _ e⟩
  ett := let ⟨a, o, kvsV, h1, h2, h3, h4, h5⟩ := G.ett; ⟨a, o, kvsV, h1, hs _ _ h2, h3, hp ▸ hw ▸ h4, h5⟩
  qn := let ⟨K, C, fI, T, cdv, h1, h2, h3⟩ := G.qn; ⟨K, C, fI, T, cdv, fun a o e => hs _ _ (h1 a o e), h2, h3⟩

theorem Ev.gval (G : GX mg mb c) {x : Str} {p : Pos} {v : Value} (hv : mg x = some v) (hg : c.env.globals = mainGlobals := by rfl) (hl : c.env.kindOf x = some .globalImplicit := by rfl) (hk : c.env.scope.kind = .function := by rfl)
    (hd : (x == ("__debug__" : Str)) = false := by rfl) : Ev c σ (.Name x p) (.d (.raw v)) σ := Ev.glob (hg ▸ G.g) hv (fun _ => .raw v) hl hk hd
theorem Ev.gint (G : GX mg mb c) {x : Str} {p : Pos} {i : Int} (hm : (x, i) ∈ intNames := by simp [intNames]) (hg : c.env.globals = mainGlobals := by rfl) (hl : c.env.kindOf x = some .globalImplicit := by rfl) (hk : c.env.scope.kind = .function := by rfl)
    (hd : (x == ("__debug__" : Str)) = false := by rfl) : Ev c σ (.Name x p) (.d (.int i)) σ := by
  obtain ⟨t, ht⟩ := G.int (x, i) hm
  exact Ev.glob (hg ▸ G.g) ht (fun _ => .int i t) hl hk hd
theorem Ev.gblt (G : GX mg mb c) {x : Str} {p : Pos} {v : Value} (hm : x ∈ bltNames) (hv : bootBuiltins x = some v) (hg : c.env.globals = mainGlobals := by rfl) (hb : c.env.builtins = builtinsNs := by rfl) (hl : c.env.kindOf x = some .globalImplicit := by rfl)
    (hk : c.env.scope.kind = .function := by rfl) (hd : (x == ("__debug__" : Str)) = false := by rfl) (hn : x ≠ "__name__" := by decide +kernel) : Ev c σ (.Name x p) (.d (.raw v)) σ :=
  Ev.blt (hg ▸ G.g) (G.free x hm) (hb ▸ G.b) ((G.bl x hn).trans hv) (fun _ => .raw v) hl hk hd
end

theorem blt_range : bootBuiltins "range" = some (.type "range") := by decide +kernel
theorem blt_len : bootBuiltins "len" = some (.builtin "len") := by decide +kernel
theorem blt_ord : bootBuiltins "ord" = some (.builtin "ord") := by decide +kernel
theorem blt_chr : bootBuiltins "chr" = some (.builtin "chr") := by decide +kernel
theorem blt_sum : bootBuiltins "sum" = some (.builtin "sum") := by decide +kernel
theorem blt_isinstance : bootBuiltins "isinstance" = some (.builtin "isinstance") := by decide +kernel
theorem blt_int : bootBuiltins "int" = some (.type "int") := by decide +kernel
theorem blt_tuple : bootBuiltins "tuple" = some (.type "tuple") := by decide +kernel
theorem blt_list : bootBuiltins "list" = some (.type "list") := by decide +kernel
theorem blt_sorted : bootBuiltins "sorted" = some (.builtin "sorted") := by decide +kernel
theorem blt_enumerate : bootBuiltins "enumerate" = some (.type "enumerate") := by decide +kernel

/-- the frame of a def's call -/
noncomputable abbrev cxIn (c : Cx) (n : Str) (sc : Scope) (L a : Addr) (code : Value) (B Ia : Mp) : Cx := { c with env := envOfC n sc L a code, A := c.A.deeper (envOfC n sc L a code), B := B, Ia := Ia, wr := true }
theorem FnOk.def_ {mg mb : Str → Option Value} {c : Cx} {n : Str} {ps : Arguments} {bd : List Stmt} {sc : Scope} {args : List D} {ret : D} {k : Nat} (G : GX mg mb c) (hr : Room c.A (k + 1)) (hn : n ∈ fnNames)
    (hd : pw.theDef n = some (ps, bd, sc))
    (hbind : ∀ (pm code doc : Value) (vs : List Value), vs.length = args.length → bindArgs (docDef n ps bd sc pm code doc) ⟨vs, []⟩ = pure ((ps.args.map (·.arg)).zip vs))
    (hloc : ∀ x ∈ ps.args.map (·.arg), sc.names.lookup x = some .local)
    (body : ∀ (a : Addr) (code : Value) (B Ia : Mp) (L : Addr), GX mg mb (cxIn c n sc L a code B Ia) → Room (cxIn c n sc L a code B Ia).A k → WS (cxIn c n sc L a code B Ia) (sg0 (ps.args.map (·.arg)) sc args) bd (RetIs ret))
    (hco : sc.isCoroutine = false := by rfl) (hgen : sc.isGenerator = false := by rfl) (hk : sc.kind = .function := by rfl)
    (hnd : ((cellsFrom 0 sc.names []).map (·.1)).Nodup := by decide +kernel) : ∃ f, mg n = some f ∧ IsFn c f ∧ FnOk c f args ret := by
  obtain ⟨a, o, pm, code, doc, h1, h2, h3, h4⟩ := G.fn n hn _ _ _ hd
  exact ⟨_, h1, ⟨a, o, _, rfl, h2, h3⟩, FnOk.entry G.lim (hr.le (by first | decide | omega)) h2 h3 h4 (hbind pm code doc) hloc (fun B Ia L hB => (body a code B Ia L (G.mono hB) (hr.deeper _)).run) hco hgen hk hnd⟩
end Mine
end TG

section TR2
open PySem PySem.W PySem.Calls PyProof.Rows
set_option autoImplicit false
set_option linter.unusedVariables false
set_option Elab.async false
namespace Mine

section
variable {c : Cx} {σ σ₁ σ₂ σ₃ σ₄ : Sg} {fr : List (Addr × Obj)} {tmp : List (Value × Vl)} {h h' : Heap} {I : Mp} {ρ : List Addr} {m : Str → Option Value} {R : FD → Sg → Prop}

/-! ### kinds -/
noncomputable def HasT (c : Cx) (σ : Sg) (b : Vl) (T : String) : Prop := ∀ (fr : List (Addr × Obj)) (tm : List (Value × Vl)) (s : Shared) (v : Value), St c σ fr tm s.heap → (v, b) ∈ tm →
  s.TypeIs v T ∧ ∀ a, v = .ref a → ∃ o, s.heap.get? a = some o ∧ o.dict = none
theorem HasT.lst {ds : List D} : HasT c σ (.d (.lst ds)) "list" := fun fr tm s v ⟨I, ρ, m, S⟩ hv => by
  obtain ⟨a, vs, n, rfl, _, g, _⟩ := S.lstAt hv
  exact ⟨⟨_, g, rfl⟩, fun _ e => by cases e; exact ⟨_, g, rfl⟩⟩
theorem HasT.mut {i : Nat} {xs : List Vl} (hm : σ.mu[i]? = some (.list xs)) : HasT c σ (.m i) "list" := fun fr tm s v ⟨I, ρ, m, S⟩ hv => by
  obtain ⟨a, vs, n, rfl, _, g, _⟩ := S.mutAt hv hm
  exact ⟨⟨_, g, rfl⟩, fun _ e => by cases e; exact ⟨_, g, rfl⟩⟩
theorem HasT.tup {ds : List D} : HasT c σ (.d (.tup ds)) "tuple" := fun fr tm s v ⟨I, ρ, m, S⟩ hv => by
  obtain ⟨a, vs, n, rfl, _, g, _⟩ := S.tupAt hv
  exact ⟨⟨_, g, rfl⟩, fun _ e => by cases e; exact ⟨_, g, rfl⟩⟩
theorem HasT.str {x : Str} : HasT c σ (.d (.str x)) "str" := fun fr tm s v S hv => by
  obtain ⟨t, rfl⟩ := S.str hv
  exact ⟨PySem.typeIs_str _ _ _, fun _ e => by cases e⟩

/-! ### methods -/
noncomputable def OpN (c : Cx) (σ : Sg) (b : Vl) (xs : List Vl) (t : Value → List Value → Sem Value) (x : Vl) (σ' : Sg) : Prop :=
  ∀ (v : Value) (vs : List Value), vs.length = xs.length → Cm c σ (vs.zip xs ++ [(v, b)]) (t v vs) x σ'
theorem Ev.meth {o a : Expr} {as : List Expr} {name : Str} {apos pos : Pos} {T id : String} {b x : Vl} {xs : List Vl} (h1 : Ev c σ o b σ₁) (h2 : Evs c σ₁ (a :: as) xs σ₂) (hty : HasT c σ₁ b T)
    (h3 : OpN c σ₂ b xs (fun ov vs => PySem.call (.builtin id) (ov :: vs)) x σ₃) (pa : PlainAttrs T) (slot : Slot T name id) (ty : typeOf (.builtin id) = pure (.type "method_descriptor"))
    (hline : (apos.endLine == pos.line) = true := by rfl) (he : starEach (a :: as) c.env = (false, eval a c.env) :: starEach as c.env := by rfl) (hp : (backTo pos (starEach as c.env)).any (·.1) = false := by rfl)
    (hbase : attributeBase o name c.env (eval o c.env) = eval o c.env := by rfl)
    (hfew : ((backTo pos (starEach (a :: as) c.env)).all (fun x => !x.1) && (backToKw pos (keywordEach [] c.env)).all (fun x => x.1.isSome) && decide ((a :: as).length + ([] : List Keyword).length + (if ([] : List Keyword).isEmpty then 0 else 1) < 30)) = true := by rfl) :
    Ev c σ (.Call (.Attribute o name apos) (a :: as) [] pos) x σ₃ := fun fr tm s Q E ht S hQ => by
  refine wpAny_Call_method_lateS hbase hfew hline (h1 fr tm s _ E ht S fun v h' tk ht S1 => ?_)
  have hT := hty fr _ { s with heap := h', toks := tk } v S1 (.head _)
  refine ⟨T, id, pa, slot, ty, hT.1, hT.2, ?_⟩
  have hse : backTo pos (starEach (a :: as) c.env) = (false, eval a c.env) :: backTo pos (starEach as c.env) := by rw [he]; rfl
  have key := h2 fr ((v, b) :: tm) { s with heap := h', toks := tk } (fun vs s₁ => wpAny c.M c.A (PySem.call (.builtin id) (v :: vs)) Q E s₁) E pos ht S1 fun vs h'' tk'' hl ht S2 =>
    h3 v vs hl fr tm { s with heap := h'', toks := tk'' } Q E ht (S2.sub fun p hp => by
      rcases List.mem_append.mp hp with hp | hp
      · rcases List.mem_append.mp hp with hp | hp
        · exact List.mem_append_left _ hp
        · rw [List.mem_singleton.mp hp]; exact List.mem_append_right _ (.head _)
      · exact List.mem_append_right _ (.tail _ hp)) fun u h3 tk3 ht S3 => hQ u h3 tk3 ht S3
  rw [hse] at key ⊢
  exact Calls.callWith_builtin (by show (false || _) = false; rw [hp]; rfl) (evalArgs_plain key)
theorem Ev.meth0 {o : Expr} {name : Str} {apos pos : Pos} {T id : String} {b x : Vl} (h1 : Ev c σ o b σ₁) (hty : HasT c σ₁ b T)
    (h3 : OpN c σ₁ b [] (fun ov vs => PySem.call (.builtin id) (ov :: vs)) x σ₃) (pa : PlainAttrs T) (slot : Slot T name id) (ty : typeOf (.builtin id) = pure (.type "method_descriptor"))
    (hline : (apos.endLine == pos.line) = true := by rfl) (hbase : attributeBase o name c.env (eval o c.env) = eval o c.env := by rfl) :
    Ev c σ (.Call (.Attribute o name apos) [] [] pos) x σ₃ := fun fr tm s Q E ht S hQ => by
  refine wpAny_Call_method_lateS hbase rfl hline (h1 fr tm s _ E ht S fun v h' tk ht S1 => ?_)
  have hT := hty fr _ { s with heap := h', toks := tk } v S1 (.head _)
  refine ⟨T, id, pa, slot, ty, hT.1, hT.2, ?_⟩
  have key := h3 v [] rfl fr tm { s with heap := h', toks := tk } Q E ht S1 fun u h3 tk3 ht S3 => hQ u h3 tk3 ht S3
  exact Calls.callWith_builtin rfl (evalArgs_nil3 key)

/-! ### one of a frame's own lists is changed -/
theorem setItem_plain {prog : Program} {w : World} {A : Around} {E : Value → Shared → Prop} {s : Shared} {l : Addr} {vs : List Value} {n : Nat} {k : Int} {t : Tok} {v : Value} {Q : Unit → Shared → Prop} (ho : s.heap.get? l = some (lobj vs n))
    (h0 : 0 ≤ k) (hfit : k < 2 ^ 63) (hn : k < vs.length) (hQ : ∀ h', h'.get? l = some (lobj (vs.set k.toNat v) n) → Heap.SameBut l s.heap h' → Q () { s with heap := h' }) :
    wpAny (model prog w) A (setItem (.ref l) (.int k t) v) Q E s := by
  have hl : s.heap.IsList l vs.toArray := lobj_isList ho
  have hd : (lobj vs n).data = .seq vs.toArray n := rfl
  unfold setItem
  try with_reducible refine wpAny_holding ?_
  first | refine wpAny_bind (wpAny_pure ?_) | skip
  refine wpAny_bind (wpAny_sequenceKey hl.typeIs (by decide) ?_)
  refine wpAny_bind (wpAny_callSpecial?_slot (name := Str.ofString "__setitem__") hl.typeIs slot_list_setitem
    (wpAny_call_entry slot_list_setitem hl.typeIs entry_list_setitem ?_ (args_list_setitem _ _ _)))
  show wpAny _ _ (Builtin.List.listSubscript? (.int k t) >>= _) _ _ s
  refine wpAny_bind (wpAny_listSubscript_int (fitsIndex_of h0 hfit) ?_)
  clear hfit
  obtain ⟨j, rfl⟩ := Int.eq_ofNat_of_zero_le h0
  have hj : j < vs.toArray.size := by simp; omega
  have hx' : vs.toArray[j]? = some vs.toArray[j] := Array.getElem?_eq_getElem hj
  show wpAny _ _ ((seqItemAt l j >>= fun r => pure (r.map (j, ·))) >>= _) _ _ s
  refine wpAny_bind (wpAny_bind (wpAny_seqItemAt ho hd (wpAny_pure ?_)))
  rw [hx']
  show wpAny _ _ (setSeqItemAt l j v >>= _) _ _ s
  have hfin : (s.heap.update l (Obj.mapSeq (·.setIfInBounds j v))).get? l = some (lobj (vs.set j v) n) := by
    have := IsL.update (h := s.heap) (l := l) (items := vs.toArray) (n := n) ho (·.setIfInBounds j v)
    simpa [lobj, IsL] using this
  refine wpAny_bind (wpAny_setSeqItemAt ho hd ?_)
  first
    | exact wpAny_bind (wpAny_pure (wpAny_pure ⟨.none, rfl, wpAny_pure (hQ _ hfin (Heap.SameBut.update ..))⟩))
    | exact wpAny_pure ⟨.none, rfl, wpAny_pure (hQ _ hfin (Heap.SameBut.update ..))⟩

/-- the names' and temporaries' words of an object of the frame's own, and how it turns -/
theorem StI.mutSet {v : Value} {i : Nat} {xs ys : List Vl} {vs ws : List Value} {n k : Nat} {a : Addr} (S : StI c σ fr tmp h I ρ m) (hv : (v, .m i) ∈ tmp) (hm : σ.mu[i]? = some (.list xs)) (hva : v = .ref a) (hr : RepVs I ρ ws ys)
    (hg : h'.get? a = some (lobj ws k)) (hs : Heap.SameBut a h h') : StI c { σ with mu := σ.mu.set i (.list ys) } fr tmp h' I ρ m := by
  obtain ⟨a', rfl, h1⟩ := (S.tmk _ hv).m_inv
  cases hva
  exact S.setMu h1 hm (by simp) hg hs (.list hr)

/-- x[i] op= value -/
theorem AugAssign_Subscript {M : Model} {A : Around} {E : Value → Shared → Prop} {s : Shared} {env : Env} {o i value : Expr} {spos pos : Pos} {op : Operator} {Q : Flow → Shared → Prop}
    (h : wpAny M A (eval o env) (fun ov s₁ => wpAny M A (eval i env) (fun iv s₂ => wpAny M A (getItem ov iv) (fun old s₃ =>
      wpAny M A (eval value env) (fun v s₄ => wpAny M A (inplaceOp op old v) (fun new s₅ =>
        wpAny M A (setItem ov iv new) (fun _ => Q .next) E s₅) E s₄) E s₃) E s₂) E s₁) E s)
    (hi : ∀ ov iv new, augStore i ov iv new = (do holding [new, ov, iv] (setItem ov iv new); release [new, ov, iv] []; pure .next)) :
    wpAny M A (exec (.AugAssign (.Subscript o i spos) op value pos) env) Q E s := fun Γ p hΓ => by
  rw [arm_exec_AugAssign_3]
  simp only [hi, Sem.wp_bind', Sem.wp_holding, Sem.wp_cmd_standAt, Sem.wp_operate, Sem.wp_release, Sem.wp_pure']
  exact Sem.wp_mono M Γ _ (fun ov p₁ s₁ h₁ => Sem.wp_mono M Γ _ (fun iv p₂ s₂ h₂ => Sem.wp_mono M Γ _ (fun old p₃ s₃ h₃ => Sem.wp_mono M Γ _ (fun v p₄ s₄ h₄ => Sem.wp_mono M Γ _ (fun new p₅ s₅ h₅ => h₅ Γ _ hΓ)
    (fun _ _ _ h' => h') _ _ (h₄ Γ _ hΓ)) (fun _ _ _ h' => h') _ _ (h₃ Γ _ hΓ)) (fun _ _ _ h' => h') _ _ (h₂ Γ _ hΓ)) (fun _ _ _ h' => h') _ _ (h₁ Γ _ hΓ)) (fun _ _ _ h' => h') _ _ (h Γ _ hΓ)

theorem Wx.augL {o i value : Expr} {spos pos : Pos} {op : Operator} {k : Nat} {j : Int} {xs ys : List Vl} {a b y : Vl} (h1 : Ev c σ o (.m k) σ₁) (h2 : Ev c σ₁ i (.d (.int j)) σ₂) (hm : σ₂.mu[k]? = some (.list xs)) (h0 : 0 ≤ j) (hj : j < 2 ^ 63)
    (hx : xs[j.toNat]? = some a) (h3 : Ev c σ₂ value b σ₃) (h4 : Op2 c σ₃ a b (inplaceOp op) y σ₄) (hm' : σ₄.mu[k]? = some (.list ys)) (hlen : j < ys.length) (hr : R .next { σ₄ with mu := σ₄.mu.set k (.list (ys.set j.toNat y)) })
    (hi : ∀ ov iv new, augStore i ov iv new = (do holding [new, ov, iv] (setItem ov iv new); release [new, ov, iv] []; pure .next) := by intro _ _ _; rfl) :
    Wx c σ (.AugAssign (.Subscript o i spos) op value pos) R := fun fr tm s Q E ht S hQ => by
  refine AugAssign_Subscript (h1 fr (dt tm) s _ E ht S fun ov h' tk ht S1 => h2 fr _ _ _ E ht S1 fun iv h'' tk'' ht S2 => ?_) hi
  obtain ⟨t, rfl⟩ := S2.int (.head _)
  obtain ⟨I, ρ, m, S2'⟩ := id S2
  obtain ⟨ad, vs, n, rfl, hi1, g, r⟩ := S2'.mutAt (.tail _ (.head _)) hm
  obtain ⟨v, hv, hrv⟩ := r.get hx
  refine wpAny_getItem_list (lobj_isList g) h0 hj (by rw [List.getElem?_toArray]; exact hv) ?_
  have S3 : St c σ₂ fr ((v, a) :: (Value.int j t, Vl.d (.int j)) :: (Value.ref ad, Vl.m k) :: dt tm) h'' := ⟨I, ρ, m, S2'.push hrv⟩
  refine h3 fr _ { s with heap := h'', toks := tk'' } _ E ht S3 fun w h3 tk3 ht S4 => ?_
  refine h4 v w fr _ _ _ E ht S4 fun u h4 tk4 ht S5 => ?_
  obtain ⟨I, ρ, m, S5⟩ := S5
  obtain ⟨ad', ws, n', e, hi2, g', r'⟩ := S5.mutAt (.tail _ (.tail _ (.head _))) hm'
  cases e
  refine setItem_plain g' h0 hj (by rw [r'.length]; exact hlen) fun h5 g5 hs5 => ?_
  refine hQ .next .next _ h5 _ ht hr ⟨I, ρ, m, (S5.mutSet (n := n') (vs := ws) (.tail _ (.tail _ (.head _))) hm' rfl (r'.set (S5.tmk _ (.head _)) _) g5 hs5).sub fun _ hp => .tail _ (.tail _ (.tail _ hp))⟩

/-- x[i] = value -/
theorem Wx.setL {o i value : Expr} {spos pos : Pos} {k : Nat} {j : Int} {xs : List Vl} {y : Vl} (h1 : Ev c σ value y σ₁) (h2 : Ev c σ₁ o (.m k) σ₂) (h3 : Ev c σ₂ i (.d (.int j)) σ₃) (hm : σ₃.mu[k]? = some (.list xs)) (h0 : 0 ≤ j) (hj : j < 2 ^ 63)
    (hlen : j < xs.length) (hr : R .next { σ₃ with mu := σ₃.mu.set k (.list (xs.set j.toNat y)) }) (hs : swapsWith value (some (.Subscript o i spos)) pos.line c.env = pure false := by rfl) :
    Wx c σ (.Assign [.Subscript o i spos] value pos) R := fun fr tm s Q E ht S hQ => by
  refine wpAny_Assign_Subscript (h1 fr (dt tm) s _ E ht S fun v h' tk ht S1 => h2 fr _ _ _ E ht S1 fun ov h2 tk2 ht S2 => h3 fr _ _ _ E ht S2 fun iv h3 tk3 ht S3 => ?_) hs
  obtain ⟨t, rfl⟩ := S3.int (.head _)
  obtain ⟨I, ρ, m, S3⟩ := S3
  obtain ⟨ad, vs, n, rfl, hi1, g, r⟩ := S3.mutAt (.tail _ (.head _)) hm
  refine setItem_plain g h0 hj (by rw [r.length]; exact hlen) fun h5 g5 hs5 => ?_
  refine hQ .next .next _ h5 _ ht hr ⟨I, ρ, m, (S3.mutSet (n := n) (vs := vs) (.tail _ (.head _)) hm rfl (r.set (S3.tmk _ (.tail _ (.tail _ (.head _)))) _) g5 hs5).sub fun _ hp => .tail _ (.tail _ (.tail _ hp))⟩

/-! ### items -/
theorem Ew.sub {value slice : Expr} {pos : Pos} {a b x : Vl} (h1 : Ew c σ value a σ₁) (h2 : Ew c σ₁ slice b σ₂) (h3 : Op2 c σ₂ a b (subscriptTail value slice) x σ₃) : Ew c σ (.Subscript value slice pos) x σ₃ := ⟨fun fr tm s Q E ht S hQ =>
  Subscript_ (h1.run fr tm s _ E ht S fun v h' tk ht S1 => h2.run fr _ _ _ E ht S1 fun w h'' tk'' ht S2 => h3 v w fr tm _ Q E ht S2 hQ)⟩
/-- an item, behind a subscript -/
theorem Op2.tail {value slice : Expr} {T id : String} {a b x : Vl} (ht : HasT c σ a T) (hl : typeLookup (.type T) "__getitem__" = pure (some (.builtin id))) (h : Op2 c σ a b getItem x σ₁)
    (hs : ∀ o i, subscripted slice false o i = operate [o, i] (getItem o i)) : Op2 c σ a b (subscriptTail value slice) x σ₁ := fun v w fr tm s Q E htk S hQ =>
  tail_any (ht fr _ s v S (.tail _ (.head _))).1 hl (h v w fr tm s Q E htk S hQ) (hs v w)

theorem Op2.get_lst {ds : List D} {j : Int} {d : D} (h0 : 0 ≤ j) (hj : j < 2 ^ 63) (hd : ds[j.toNat]? = some d) : Op2 c σ (.d (.lst ds)) (.d (.int j)) getItem (.d d) σ := fun v w => Cm.mk fun fr tm s Q E ht S hQ => by
  obtain ⟨t, rfl⟩ := S.int (.head _)
  obtain ⟨I, ρ, m, S⟩ := S
  obtain ⟨a, vs, n, rfl, _, g, r⟩ := S.lstAt (.tail _ (.head _))
  obtain ⟨v, hv, hr⟩ := r.get hd
  exact wpAny_getItem_list (lobj_isList g) h0 hj (by rw [List.getElem?_toArray]; exact hv) (hQ _ s.heap s.toks ⟨I, ρ, m, (S.sub fun _ hp => .tail _ (.tail _ hp)).push (.d hr)⟩)
theorem Op2.get_mut {xs : List Vl} {k : Nat} {j : Int} {x : Vl} (hm : σ.mu[k]? = some (.list xs)) (h0 : 0 ≤ j) (hj : j < 2 ^ 63) (hd : xs[j.toNat]? = some x) : Op2 c σ (.m k) (.d (.int j)) getItem x σ := fun v w => Cm.mk fun fr tm s Q E ht S hQ => by
  obtain ⟨t, rfl⟩ := S.int (.head _)
  obtain ⟨I, ρ, m, S⟩ := S
  obtain ⟨a, vs, n, rfl, _, g, r⟩ := S.mutAt (.tail _ (.head _)) hm
  obtain ⟨v, hv, hr⟩ := r.get hd
  exact wpAny_getItem_list (lobj_isList g) h0 hj (by rw [List.getElem?_toArray]; exact hv) (hQ _ s.heap s.toks ⟨I, ρ, m, (S.sub fun _ hp => .tail _ (.tail _ hp)).push hr⟩)
theorem Op2.get_mut_neg {xs : List Vl} {k : Nat} {j : Int} {x : Vl} (hm : σ.mu[k]? = some (.list xs)) (h0 : j < 0) (h1 : -(xs.length : Int) ≤ j) (hj : -(2 ^ 63) ≤ j) (hd : xs[(j + xs.length).toNat]? = some x) : Op2 c σ (.m k) (.d (.int j)) getItem x σ := fun v w => Cm.mk fun fr tm s Q E ht S hQ => by
  obtain ⟨t, rfl⟩ := S.int (.head _)
  obtain ⟨I, ρ, m, S⟩ := S
  obtain ⟨a, vs, n, rfl, _, g, r⟩ := S.mutAt (.tail _ (.head _)) hm
  have hlen : (vs.toArray.size : Int) = xs.length := by simp [r.length]
  obtain ⟨v, hv, hr⟩ := r.get hd
  exact wpAny_getItem_list_neg (lobj_isList g) h0 (by rw [hlen]; exact h1) hj (by rw [hlen, List.getElem?_toArray]; exact hv) (hQ _ s.heap s.toks ⟨I, ρ, m, (S.sub fun _ hp => .tail _ (.tail _ hp)).push hr⟩)
theorem Op2.get_tup {ds : List D} {j : Int} {d : D} (h0 : 0 ≤ j) (hj : j < 2 ^ 63) (hd : ds[j.toNat]? = some d) : Op2 c σ (.d (.tup ds)) (.d (.int j)) getItem (.d d) σ := fun v w => Cm.mk fun fr tm s Q E ht S hQ => by
  obtain ⟨t, rfl⟩ := S.int (.head _)
  obtain ⟨I, ρ, m, S⟩ := S
  obtain ⟨a, vs, n, rfl, _, g, r⟩ := S.tupAt (.tail _ (.head _))
  obtain ⟨v, hv, hr⟩ := r.get hd
  have hlt : j.toNat < vs.toArray.size := by have := (List.getElem?_eq_some_iff.mp hv).1; simpa using this
  refine getItem_tuple (items := vs.toArray) (j := j.toNat) ⟨_, g, rfl, n, rfl⟩ (by first | decide | omega) hj ?_ (by rw [List.getElem?_toArray]; exact hv) (hQ _ s.heap s.toks ⟨I, ρ, m, (S.sub fun _ hp => .tail _ (.tail _ hp)).push (.d hr)⟩)
  have hlt' : j.toNat < vs.length := by simpa using hlt
  have hn : ¬ j < 0 := by omega
  have hl' : j < (vs.length : Int) := by omega
  simp [seqIndex?, hn, h0, hl']

theorem Op2.sub_lst {value slice : Expr} {ds : List D} {j : Int} {d : D} (h0 : 0 ≤ j) (hj : j < 2 ^ 63) (hd : ds[j.toNat]? = some d) (hs : ∀ o i, subscripted slice false o i = operate [o, i] (getItem o i) := by intro _ _; rfl) :
    Op2 c σ (.d (.lst ds)) (.d (.int j)) (subscriptTail value slice) (.d d) σ := Op2.tail HasT.lst slot_list_getitem.lookup (Op2.get_lst h0 hj hd) hs
theorem Op2.sub_mut {value slice : Expr} {xs : List Vl} {k : Nat} {j : Int} {x : Vl} (hm : σ.mu[k]? = some (.list xs)) (h0 : 0 ≤ j) (hj : j < 2 ^ 63) (hd : xs[j.toNat]? = some x) (hs : ∀ o i, subscripted slice false o i = operate [o, i] (getItem o i) := by intro _ _; rfl) :
    Op2 c σ (.m k) (.d (.int j)) (subscriptTail value slice) x σ := Op2.tail (HasT.mut hm) slot_list_getitem.lookup (Op2.get_mut hm h0 hj hd) hs
theorem Op2.sub_mut_neg {value slice : Expr} {xs : List Vl} {k : Nat} {j : Int} {x : Vl} (hm : σ.mu[k]? = some (.list xs)) (h0 : j < 0) (h1 : -(xs.length : Int) ≤ j) (hj : -(2 ^ 63) ≤ j) (hd : xs[(j + xs.length).toNat]? = some x)
    (hs : ∀ o i, subscripted slice false o i = operate [o, i] (getItem o i) := by intro _ _; rfl) : Op2 c σ (.m k) (.d (.int j)) (subscriptTail value slice) x σ := Op2.tail (HasT.mut hm) slot_list_getitem.lookup (Op2.get_mut_neg hm h0 h1 hj hd) hs
theorem Op2.sub_tup {value slice : Expr} {ds : List D} {j : Int} {d : D} (h0 : 0 ≤ j) (hj : j < 2 ^ 63) (hd : ds[j.toNat]? = some d) (hs : ∀ o i, subscripted slice false o i = operate [o, i] (getItem o i) := by intro _ _; rfl) :
    Op2 c σ (.d (.tup ds)) (.d (.int j)) (subscriptTail value slice) (.d d) σ := Op2.tail HasT.tup slot_tuple_getitem.lookup (Op2.get_tup h0 hj hd) hs
end
end Mine
end TR2

section TR3
open PySem PySem.W PySem.Calls PyProof.Rows
set_option autoImplicit false
set_option linter.unusedVariables false
set_option Elab.async false
namespace Mine

theorem none_above {s : Shared} {b : Addr} (h : s.heap.objs.size ≤ b) : s.heap.get? b = none := by
  cases e : s.heap.get? b with
  | none => rfl
  | some o => exact absurd (Heap.lt_size e) (Nat.not_lt.mpr h)
theorem sub_push {h : Heap} {o : Obj} : Sub h.get? (h.push o).get? := fun b o' e => Heap.get?_push_of_some _ e

/-- an answer that is no object of the heap's -/
theorem FnOk.imm {c : Cx} {f : Value} {args : List D} {ret : D}
    (h : ∀ (I : Mp) (s : Shared) (vs : List Value) (Q : Value → Shared → Prop) (E : Value → Shared → Prop), 1 ≤ s.toks → Sub c.B s.heap.get? → Sub I s.heap.get? → Reps I vs args →
      (∀ v h' tk, Sub s.heap.get? h'.get? → (∀ J, Rep J v ret) → Q v { s with heap := h', toks := tk }) → wpAny c.M c.A (call f vs) Q E s) : FnOk c f args ret := FnOk.mk fun I s vs Q E ht hB hI hv hQ =>
  h I s vs Q E ht hB hI hv fun v h' tk hs hr => hQ v h' tk I hs (Sub.refl I) (hI.trans hs) (fun _ _ e => .inl e) (hr I)
/-- an answer that is a new object -/
theorem fnNew {I : Mp} {s : Shared} {ret : D} {Q : Value → Shared → Prop} {o : Obj} {tk : Nat} (hI : Sub I s.heap.get?) (ho : o.isFreed = false)
    (hQ : ∀ v h' tk J, Sub s.heap.get? h'.get? → Sub I J → Sub J h'.get? → (∀ b o, J b = some o → I b = some o ∨ s.heap.get? b = none) → Rep J v ret → Q v { s with heap := h', toks := tk })
    (hr : ∀ J : Mp, Sub I J → J s.heap.objs.size = some o → Rep J (.ref s.heap.objs.size) ret) : Q (.ref s.heap.objs.size) { s with heap := s.heap.push o, toks := tk } := by
  have hn : I s.heap.objs.size = none := by
    cases e : I s.heap.objs.size with
    | none => rfl
    | some o => have := hI _ _ e; rw [none_above (Nat.le_refl _)] at this; cases this
  refine hQ _ _ tk (fun b => if b = s.heap.objs.size then some o else I b) sub_push (upd_none I hn) (fun b o' e => ?_) (fun b o' e => ?_) (hr _ (upd_none I hn) (by simp))
  · by_cases hb : b = s.heap.objs.size
    · subst hb; simp only [if_true] at e; cases e; exact Heap.get?_push_size _ ho
    · simp only [if_neg hb] at e; exact Heap.get?_push_of_some _ (hI _ _ e)
  · by_cases hb : b = s.heap.objs.size
    · subst hb; exact .inr (none_above (Nat.le_refl _))
    · simp only [if_neg hb] at e; exact .inl e

theorem Reps.ints {I : Mp} : ∀ {vs : List Value} {ns : List Int}, Reps I vs (ns.map .int) → IntsAre vs ns
  | [], ns, h => by cases ns with | nil => exact .nil | cons => cases h
  | v :: vs, ns, h => by
    cases ns with
    | nil => cases h
    | cons n ns =>
      cases h with
      | cons h r => obtain ⟨t, rfl⟩ := h.int_inv; exact .cons _ _ (Reps.ints r)
section
variable {c : Cx} {σ σ₁ σ₂ σ₃ σ₄ : Sg} {R : FD → Sg → Prop}

theorem fn_sum {ns : List Int} (hr : Room c.A 1) : FnOk c (.builtin "sum") [.lst (ns.map .int)] (.int ns.sum) := FnOk.imm fun I s vs Q E ht hB hI hv hQ => by
  cases hv with
  | cons hv h0 =>
    cases h0
    obtain ⟨a, ws, n, rfl, h1, r⟩ := hv.lst_inv
    have hl : s.heap.IsList a ws.toArray := lobj_isList (hI _ _ h1)
    have hi := r.ints
    refine call_sum_walkG (wpAny_pyIter_list hl ?_)
    have hne : a ≠ s.heap.objs.size := Nat.ne_of_lt (Heap.lt_size (hI _ _ h1))
    refine ⟨_, [s.heap.objs.size, a], [s.heap.objs.size], ws.toArray.size, _, _, fun i => ns.getD i 0, rfl, Walks.list hr.in1.handled _ a hne ws.toArray, ⟨⟨_, Heap.get?_push_size _ rfl, rfl, rfl⟩, hl.push _⟩, ?_, ?_, ?_⟩
    · intro b hb
      have hlt := Heap.lt_size (hI _ _ h1)
      rw [Heap.size_push]
      rcases List.mem_cons.mp hb with rfl | hb
      · exact Nat.lt_succ_self _
      · rw [List.mem_singleton.mp hb]; exact Nat.lt_succ_of_lt hlt
    · intro i v hv
      exact hi.int_at i v (by simpa using hv)
    · intro h' tk t' hk
      have hlen : ws.toArray.size = ns.length := by have := r.length; simpa using this
      rw [hlen, preSum_getD, List.take_length]
      exact hQ _ _ _ (fun b o e => hk b o (by
        intro hm
        rw [List.mem_singleton.mp hm] at e
        rw [none_above (Nat.le_refl _)] at e; cases e) (Heap.get?_push_of_some _ e)) fun J => .int _ _
theorem fn_range1 {b : Int} : FnOk c (.type "range") [.int b] (.rng 0 b) := FnOk.mk fun I s vs Q E ht hB hI hv hQ => by
  cases hv with
  | cons hv h0 =>
    cases h0
    obtain ⟨t, rfl⟩ := hv.int_inv
    exact call_range_1 (fnNew (s := s) hI rfl hQ fun J hJ e => .rng e)
theorem fn_range2 {a b : Int} : FnOk c (.type "range") [.int a, .int b] (.rng a b) := FnOk.mk fun I s vs Q E ht hB hI hv hQ => by
  cases hv with
  | cons hv h0 =>
    cases h0 with
    | cons hw h0 =>
      cases h0
      obtain ⟨t, rfl⟩ := hv.int_inv
      obtain ⟨u, rfl⟩ := hw.int_inv
      exact call_range_2 (fnNew (s := s) hI rfl hQ fun J hJ e => .rng e)

/-- x op= e, x a local name -/
theorem WX.augName {x : Str} {p pos : Pos} {op : Operator} {e : Expr} {a b y : Vl} (h1 : σ.loc.lookup x = some a) (hl : c.env.kindOf x = some .local) (h2 : Ew c σ e b σ₁) (h3 : Op2 c σ₁ a b (inplaceOp op) y σ₂) (hr : R .next { σ₂ with loc := (x, y) :: σ₂.loc }) (hw : c.wr = true := by rfl) (hk : c.env.scope.kind = .function := by rfl) (hp : (c.env.scope.kind == .class || (c.env.scope.kind == .module && c.env.locals != c.env.globals)) = false := by rfl) : WX c σ (.AugAssign (.Name x p) op e pos) R := ⟨fun fr tm s Q E ht S hQ => by
  obtain ⟨I, ρ, m, S0⟩ := id S
  obtain ⟨u, hu, hv⟩ := S0.loc x a h1
  refine wpAny_AugAssign_Name (wpAny_loadName_local hk hl S0.ns hu (h2.run fr ((u, a) :: dt tm) s _ E ht ⟨I, ρ, m, S0.push hv⟩ fun v h' tk ht S1 => h3 u v fr _ _ _ E ht S1 fun w _ tk2 ht ⟨I2, ρ2, m2, S2⟩ => ?_))
  exact wpAny_storeName_local hl S2.ns (fun h3 hn hs => hQ .next .next _ h3 _ (by show 1 ≤ tk2 + 1; omega) hr ⟨I2, ρ2, _, (S2.sub fun _ hq => .tail _ hq).setLoc hw (S2.tmk _ (.head _)) hn hs⟩) hp⟩

noncomputable def vints (l : List Int) : List Vl := l.map fun x => .d (.int x)
theorem vints_set (l : List Int) (k : Nat) (x : Int) : (vints l).set k (.d (.int x)) = vints (l.set k x) := (List.map_set ..).symm
theorem vints_get {l : List Int} {k : Nat} (h : k < l.length) : (vints l)[k]? = some (.d (.int (l.getD k 0))) := by
  simp [vints, List.getElem?_map, List.getElem?_eq_getElem h, List.getD_eq_getElem?_getD]
theorem vints_length (l : List Int) : (vints l).length = l.length := List.length_map ..
theorem WX.augInt {o i value : Expr} {spos pos : Pos} {op : Operator} {k : Nat} {j : Int} {l : List Int} {b : Vl} {y : Int} (h1 : Ew c σ o (.m k) σ₁) (h2 : Ew c σ₁ i (.d (.int j)) σ₂) (hm : σ₂.mu[k]? = some (.list (vints l))) (h0 : 0 ≤ j) (hj : j < 2 ^ 63) (hlen : j.toNat < l.length) (h3 : Ew c σ₂ value b σ₃) (h4 : Op2 c σ₃ (.d (.int (l.getD j.toNat 0))) b (inplaceOp op) (.d (.int y)) σ₃) (hm' : σ₃.mu[k]? = some (.list (vints l))) (hr : R .next { σ₃ with mu := σ₃.mu.set k (.list (vints (l.set j.toNat y))) }) (hi : ∀ ov iv new, augStore i ov iv new = (do holding [new, ov, iv] (setItem ov iv new); release [new, ov, iv] []; pure .next) := by intro _ _ _; rfl) : WX c σ (.AugAssign (.Subscript o i spos) op value pos) R :=
 ⟨Wx.augL h1.run h2.run hm h0 hj (vints_get hlen) h3.run h4 hm' (by rw [vints_length]; omega) (by rw [vints_set]; exact hr) hi⟩
theorem WX.setInt {o i value : Expr} {spos pos : Pos} {k : Nat} {j : Int} {l : List Int} {y : Int} (h1 : Ew c σ value (.d (.int y)) σ₁) (h2 : Ew c σ₁ o (.m k) σ₂) (h3 : Ew c σ₂ i (.d (.int j)) σ₃) (hm : σ₃.mu[k]? = some (.list (vints l))) (h0 : 0 ≤ j) (hj : j < 2 ^ 63) (hlen : j.toNat < l.length) (hr : R .next { σ₃ with mu := σ₃.mu.set k (.list (vints (l.set j.toNat y))) }) (hs : swapsWith value (some (.Subscript o i spos)) pos.line c.env = pure false := by rfl) : WX c σ (.Assign [.Subscript o i spos] value pos) R :=
 ⟨Wx.setL h1.run h2.run h3.run hm h0 hj (by rw [vints_length]; omega) (by rw [vints_set]; exact hr) hs⟩
theorem LoopR.next {K : Sg → Prop} (h : ∃ σ', Sle c σ σ' ∧ K σ') : LoopR c R K .next σ := h
theorem Sle.to {σ' : Sg} (hl : Sup σ.loc σ'.loc) (hm : σ.mu = σ'.mu := by rfl) (hc : σ.cix = σ'.cix := by rfl) (hf : σ.fce = σ'.fce := by rfl) : Sle c σ σ' := by
  obtain ⟨l, m, ci, f⟩ := σ'
  dsimp only at hm hc hf hl
  subst hm hc hf
  exact Sle.loc hl
end
end Mine
end TR3

section TComp
open PySem PySem.W PySem.Calls PyProof.Rows
set_option autoImplicit false
set_option linter.unusedVariables false
set_option Elab.async false
namespace Mine

section
variable {c : Cx} {σ σ₁ σ₂ : Sg} {R : FD → Sg → Prop}

/-- the cells that a comprehension looks into, and what they hold -/
noncomputable def Caps (c : Cx) (σ : Sg) (cl : List (Str × Addr)) : List (Str × D) → Prop
  | [] => True
  | (x, d) :: r => cl.lookup x = c.env.cells.lookup x ∧ (∃ k, σ.cix.lookup x = some k ∧ σ.mu[k]? = some (.cell (some (.d d)))) ∧ Caps c σ cl r
theorem Caps.get {cl : List (Str × Addr)} : ∀ {fl : List (Str × D)}, Caps c σ cl fl → ∀ {x : Str} {d : D}, fl.lookup x = some d → cl.lookup x = c.env.cells.lookup x ∧ ∃ k, σ.cix.lookup x = some k ∧ σ.mu[k]? = some (.cell (some (.d d)))
  | (y, e) :: r, h, x, d, hx => by
    rw [List.lookup_cons] at hx
    cases hb : x == y with
    | true => rw [hb] at hx; cases hx; rw [eq_of_beq hb]; exact ⟨h.1, h.2.1⟩
    | false => rw [hb] at hx; exact Caps.get h.2.2 hx

noncomputable abbrev cxComp (c : Cx) (scope : Scope) (cl : List (Str × Addr)) (C : Addr) (B Ia : Mp) : Cx := { c with env := compEnvC scope cl C c.env, B := B, Ia := Ia, wr := true }
noncomputable def sgC (loc : List (Str × Vl)) (xs : List Vl) (fl : List (Str × D)) : Sg := { loc := loc, mu := [.list xs], fce := fl }

theorem codeAny_compLoop_any {prog : Program} {w : World} {A : Around} {R : Result → Shared → Prop} {s : Shared} {elt target iter : Expr} {scope : Scope} {pos : Pos} {it acc : Value} {env : Env} (I : Nat → Shared → Prop)
    (turn : ∀ n s, I n s → wpAny (model prog w) A (pyNext it) (fun r s₁ => match r with
      | none => R (.ok .next) s₁
      | some v => wpAny (model prog w) A (letOwnedTupleGo target it v) (fun _ s₁ => wpAny (model prog w) A (assign target env v) (fun _ s₂ => wpAny (model prog w) A (eval elt env) (fun x s₃ =>
          wpAny (model prog w) A (call (.builtin "list.append") [acc, x]) (fun _ s₄ => ∃ m, m < n ∧ I m s₄) (notedBy (model prog w) A env fun e s' => R (.error e) s') s₃)
          (notedBy (model prog w) A env fun e s' => R (.error e) s') s₂) (notedBy (model prog w) A env fun e s' => R (.error e) s') s₁) (notedBy (model prog w) A env fun e s' => R (.error e) s') s₁) (notedBy (model prog w) A env fun e s' => R (.error e) s') s)
    (n : Nat) (h : I n s) :
    codeAny (model prog w) A (.compLoop (.ListComp elt [⟨target, iter, [], 0⟩] scope pos) 0 it acc env) R s := by
  refine codeAny_loop rfl I (fun n s hI => ?_) n h
  show wpAny _ _ ((compTurn (.ListComp elt [⟨target, iter, [], 0⟩] scope pos) 0 it acc env).onRaise (fun x => do noteFrame x env; theTreesLotGoes x)) _ _ s
  refine wpAny_noted ?_
  rw [compTurn_list1]
  refine wpAny_bind (wpAny_standAt (wpAny_bind (wpAny_mono (turn n s hI) (fun r s₁ h₁ => ?_) fun _ _ h' => h')))
  cases r with
  | none => exact wpAny_pure h₁
  | some v =>
    refine wpAny_bind (wpAny_mono h₁ (fun _ s₂ h₁ => ?_) fun _ _ h' => h')
    exact wpAny_bind (wpAny_mono h₁ (fun _ s₂ h₂ => wpAny_bind (wpAny_bind (wpAny_mono h₂ (fun x s₃ h₃ => wpAny_bind (wpAny_mono h₃
      (fun _ s₄ h₄ => wpAny_pure (wpAny_pure ⟨rfl, h₄⟩)) fun _ _ h' => h')) fun _ _ h' => h'))) fun _ _ h' => h')

theorem adr1 {b D C : Nat} (h : b < D) (e : C = D + 1) : b ≠ C := by omega
theorem adr2 {D C : Nat} (e : C = D + 1) : D ≤ C := by omega
theorem adr3 {b D : Nat} (h : b < D) : b ≠ D := by omega
theorem adr4 {D C : Nat} (e : C = D + 1) : D ≠ C := by omega
theorem adr5 {b D C : Nat} (h : b < D) (e : D ≤ C) : C ≠ b := by omega

/-! the turns -/
noncomputable def elsOf (el : Nat → D) (i : Nat) : List Vl := ((List.range i).map el).map .d
theorem elsOf_length {el : Nat → D} {i : Nat} : (elsOf el i).length = i := by simp [elsOf]
theorem elsOf_succ {el : Nat → D} {i : Nat} : elsOf el (i + 1) = elsOf el i ++ [.d (el i)] := by simp [elsOf, List.range_succ]
/-- the state of a comprehension at its head: k turns at most to go -/
inductive CompI (c : Cx) (P : Nat → List (Addr × Obj) → Prop) (el : Nat → D) (fl : List (Str × D)) (Dd : Addr) (tm : List (Value × Vl)) (n : Nat) (s : Shared) : Nat → Shared → Prop
  | mk {i : Nat} {os : List (Addr × Obj)} {h : Heap} {tk : Nat} : 1 ≤ tk → P i os → St c (sgC [] (elsOf el i) fl) (os ++ []) ((.ref Dd, .m 0) :: tm) h → i ≤ n → CompI c P el fl Dd tm n s (n + 1 - i) { s with heap := h, toks := tk }
section
variable {P : Nat → List (Addr × Obj) → Prop} {el it : Nat → D} {fl : List (Str × D)} {Dd a : Addr} {ads : List Addr} {src : List (Value × D)} {n i : Nat} {s : Shared} {os : List (Addr × Obj)} {h : Heap} {tk : Nat} {RR : Result → Shared → Prop}
theorem comp_app {tm : List (Value × Vl)} {lo : List (Str × Vl)} {y : Value} {E : Value → Shared → Prop} (hlt : i < n) (hsz : n ≤ sizeLine) (ht : 1 ≤ tk) (hP : P (i + 1) os) (S : St c (sgC lo (elsOf el i) fl) (os ++ []) ((y, .d (el i)) :: (.ref Dd, .m 0) :: tm) h) :
    wpAny c.M c.A (call (.builtin "list.append") [.ref Dd, y]) (fun _ s₄ => ∃ m, m < n + 1 - i ∧ CompI c P el fl Dd tm n s m s₄) E { s with heap := h, toks := tk } := by
  obtain ⟨I3, ρ3, m3, S3⟩ := S
  obtain ⟨a', vs, n', e, hi0, g, r⟩ := S3.mutAt (.tail _ (.head _)) rfl
  cases e
  refine wpAny_list_append_plain (items := vs.toArray) ⟨n', g⟩ (fun h₄ ⟨n4, g4⟩ hs4 => ⟨n + 1 - (i + 1), Nat.sub_lt_sub_left (Nat.lt_succ_of_lt hlt) (Nat.lt_succ_self i), .mk ht hP ?_ hlt⟩) (by rw [List.size_toArray, r.length, elsOf_length]; exact Nat.le_of_lt (Nat.lt_of_lt_of_le hlt hsz))
  have g4' : h₄.get? Dd = some (lobj (vs ++ [y]) n4) := by rw [g4]; simp [lobj]
  have S4 := S3.mutSet (ws := vs ++ [y]) (ys := elsOf el i ++ [.d (el i)]) (.tail _ (.head _)) rfl (n := n') (vs := vs) rfl (r.append (.cons (S3.tmk _ (.head _)) .nil)) g4' hs4
  rw [elsOf_succ]
  exact ⟨I3, ρ3, m3, { (S4.sub (tmp' := (.ref Dd, .m 0) :: tm) fun _ hp => .tail _ hp) with loc := fun z v e => nomatch e }⟩
theorem comp_loop {elt iter : Expr} {x : Str} {px : Pos} {scope : Scope} {pos : Pos} (IT : Itr c src a ads n it P) (hw : c.wr = true) (hx : c.env.kindOf x = some .local) (hkind : (c.env.scope.kind == .class || (c.env.scope.kind == .module && c.env.locals != c.env.globals)) = false)
    (hsz : n ≤ sizeLine) (helt : ∀ i xs, i < n → Ev c (sgC [(x, .d (it i))] xs fl) elt (.d (el i)) (sgC [(x, .d (it i))] xs fl))
    (hfin : ∀ os h h₁ tk₁, P n os → St c (sgC [] (elsOf el n) fl) (os ++ []) ((.ref Dd, .m 0) :: dt src) h → 1 ≤ tk₁ → (∀ b o, b ∉ ads → h.get? b = some o → h₁.get? b = some o) → RR (.ok .next) { s with heap := h₁, toks := tk₁ })
    (ht : 1 ≤ tk) (hP : P 0 os) (S : St c (sgC [] (elsOf el 0) fl) (os ++ []) ((.ref Dd, .m 0) :: dt src) h) :
    codeAny c.M c.A (.compLoop (.ListComp elt [⟨.Name x px, iter, [], 0⟩] scope pos) 0 (.ref a) (.ref Dd) c.env) RR { s with heap := h, toks := tk } := by
  refine codeAny_compLoop_any (CompI c P el fl Dd (dt src) n s) ?_ _ (.mk ht hP S (Nat.zero_le _))
  rintro _ _ @⟨i, os, h, tk, ht, hPi, Si, hin⟩
  by_cases hlt : i < n
  · refine wpAny_mono (IT.item (.Name x px) _ [] _ i os _ (fun v s₂ => wpAny c.M c.A (assign (.Name x px) c.env v) (fun _ s₂ => wpAny c.M c.A (eval elt c.env) (fun y s₃ =>
        wpAny c.M c.A (call (.builtin "list.append") [.ref Dd, y]) (fun _ s₄ => ∃ m, m < n + 1 - i ∧ CompI c P el fl Dd (dt src) n s m s₄)
          (notedBy c.M c.A c.env fun e s' => RR (.error e) s') s₃) (notedBy c.M c.A c.env fun e s' => RR (.error e) s') s₂) (notedBy c.M c.A c.env fun e s' => RR (.error e) s') s₂) _ hlt hPi (fun p hp => .tail _ hp) ht Si fun v h₁ tk₁ os' hP' ht S₁ => ?_) (fun r s₁ hr => ?_) fun _ _ e => e
    · exact As.local_ (σ := sgC [] (elsOf el i) fl) (x := x) (p := px) hw hx hkind (os' ++ []) _ _ _ _ v ht S₁ fun h₂ tk₂ ht S₂ =>
        helt i (elsOf el i) hlt (os' ++ []) _ _ _ _ ht S₂ fun y h₃ tk₃ ht S₃ => comp_app hlt hsz ht hP' S₃
    · obtain ⟨v, rfl, hv⟩ := hr
      exact hv
  · cases Nat.le_antisymm hin (Nat.not_lt.mp hlt)
    refine wpAny_mono (IT.done _ [] _ os _ (fun s₁ => RR (.ok .next) s₁) _ hPi (fun p hp => .tail _ hp) ht Si fun h₁ tk₁ ht hk => hfin os h h₁ tk₁ hPi Si ht hk) (fun r s₁ hr => ?_) fun _ _ e => e
    obtain ⟨rfl, hr⟩ := hr
    exact hr
end

/-! the block's own view of the heap -/
theorem nabove {H : Heap} {b : Addr} (hb : H.objs.size ≤ b) : H.get? b = none := by
  cases e : H.get? b with
  | none => rfl
  | some o => exact absurd (Heap.lt_size e) (Nat.not_lt.mpr hb)
noncomputable def cpB (ads : List Addr) (H : Heap) : Mp := fun b => if b ∈ ads then none else H.get? b
theorem cpB_of {ads : List Addr} {H : Heap} {b : Addr} {o : Obj} (h : b ∉ ads) (e : H.get? b = some o) : cpB ads H b = some o := by unfold cpB; rw [if_neg h]; exact e
theorem cpB_mem {ads : List Addr} {H : Heap} {b : Addr} (h : b ∈ ads) : cpB ads H b = none := if_pos h
theorem cpB_none {ads : List Addr} {H : Heap} {b : Addr} (e : H.get? b = none) : cpB ads H b = none := by unfold cpB; rw [e]; split <;> rfl
theorem cpB_some {ads : List Addr} {H : Heap} {b : Addr} {o : Obj} (e : cpB ads H b = some o) : b ∉ ads ∧ H.get? b = some o := by
  unfold cpB at e; split at e
  · cases e
  · rename_i h; exact ⟨h, e⟩
noncomputable def Cas (cl : List (Str × Addr)) (fl : List (Str × D)) (b : Addr) : Prop := ∃ x d, fl.lookup x = some d ∧ cl.lookup x = some b
open Classical in
noncomputable def cpI (I : Mp) (cas : Addr → Prop) (H : Heap) : Mp := fun b => match I b with | some o => some o | none => if cas b then H.get? b else none
section
variable {I J : Mp} {cas : Addr → Prop} {H : Heap} {b : Addr} {o : Obj}
theorem cpI_of (e : I b = some o) : cpI I cas H b = some o := by unfold cpI; rw [e]
theorem cpI_none (e : I b = none) (hc : ¬ cas b) : cpI I cas H b = none := by unfold cpI; rw [e]; exact if_neg hc
theorem cpI_cas (e : I b = none) (hc : cas b) : cpI I cas H b = H.get? b := by unfold cpI; rw [e]; exact if_pos hc
theorem cpI_cases (e : cpI I cas H b = some o) : I b = some o ∨ (cas b ∧ H.get? b = some o) := by
  cases ei : I b with
  | some o' => rw [cpI_of ei] at e; exact .inl e
  | none =>
    by_cases hc : cas b
    · rw [cpI_cas ei hc] at e; exact .inr ⟨hc, e⟩
    · rw [cpI_none ei hc] at e; cases e
open Classical in
noncomputable def cpJ (H : Heap) (I J : Mp) : Mp := fun b => if (H.get? b).isSome = true ∧ I b = none then none else J b
theorem cpJ_some (e : cpJ H I J b = some o) : J b = some o ∧ ¬ ((H.get? b).isSome = true ∧ I b = none) := by
  unfold cpJ at e; split at e
  · cases e
  · rename_i h; exact ⟨e, h⟩
theorem cpJ_none (e : J b = none) : cpJ H I J b = none := by unfold cpJ; rw [e]; split <;> rfl
theorem cpJ_of (h : ¬ ((H.get? b).isSome = true ∧ I b = none)) (e : J b = some o) : cpJ H I J b = some o := by unfold cpJ; rw [if_neg h]; exact e
end
/-- what stands outside of a comprehension -/
structure CpS (c : Cx) (σ : Sg) (fr os : List (Addr × Obj)) (src : List (Value × D)) (tm : List (Value × Vl)) (H : Heap) (I : Mp) (ρ : List Addr) (m : Str → Option Value) (ads : List Addr) (cl : List (Str × Addr)) (fl : List (Str × D)) : Prop where
  S : StI c σ (os ++ fr) (dt src ++ tm) H I ρ m
  ads : os.map (·.1) = ads
  caps : Caps c σ cl fl
section
variable {fr os : List (Addr × Obj)} {src : List (Value × D)} {tm : List (Value × Vl)} {H : Heap} {I : Mp} {ρ : List Addr} {m : Str → Option Value} {ads : List Addr} {cl : List (Str × Addr)} {fl : List (Str × D)} {b : Addr} {o : Obj}
theorem CpS.ni (K : CpS c σ fr os src tm H I ρ m ads cl fl) (hb : H.objs.size ≤ b) : I b = none := by
  cases e : I b with
  | none => rfl
  | some o => have := K.S.imm _ _ e; rw [nabove hb] at this; cases this
theorem CpS.nB (K : CpS c σ fr os src tm H I ρ m ads cl fl) (hb : H.objs.size ≤ b) : c.B b = none := by
  cases e : c.B b with
  | none => rfl
  | some o => have := K.S.base _ _ e; rw [nabove hb] at this; cases this
theorem CpS.nρ (K : CpS c σ fr os src tm H I ρ m ads cl fl) (hb : H.objs.size ≤ b) : b ∉ ρ := fun hm => by obtain ⟨o, e⟩ := K.S.mem hm; rw [nabove hb] at e; cases e
theorem CpS.nfr (K : CpS c σ fr os src tm H I ρ m ads cl fl) (hb : H.objs.size ≤ b) : b ∉ fr.map (·.1) := fun hm => by
  obtain ⟨p, hp, rfl⟩ := List.mem_map.mp hm
  have := (K.S.frk p (List.mem_append_right _ hp)).1
  rw [nabove hb] at this; cases this
theorem CpS.cap (K : CpS c σ fr os src tm H I ρ m ads cl fl) {x : Str} {d : D} (e : fl.lookup x = some d) : ∃ ad o u, cl.lookup x = some ad ∧ ad ∈ ρ ∧ H.get? ad = some o ∧ o.data = .cell (some u) ∧ Rep I u d := by
  obtain ⟨h1, k, h2, h3⟩ := K.caps.get e
  obtain ⟨ad, h4, h5⟩ := K.S.cel x k h2
  obtain ⟨⟨o, g, q⟩, _⟩ := K.S.mu k ad _ h5 h3
  cases q with
  | cell1 hd hv => exact ⟨ad, o, _, h1.trans h4, List.mem_of_getElem? h5, g, hd, hv.d_inv⟩
theorem CpS.cas (K : CpS c σ fr os src tm H I ρ m ads cl fl) (hb : Cas cl fl b) : b ∈ ρ ∧ ∃ o u, H.get? b = some o ∧ o.data = .cell (some u) := by
  obtain ⟨x, d, h1, h2⟩ := hb
  obtain ⟨ad, o, u, h3, h4, h5, h6, _⟩ := K.cap h1
  rw [h2] at h3; cases h3
  exact ⟨h4, o, u, h5, h6⟩
theorem CpS.subB (K : CpS c σ fr os src tm H I ρ m ads cl fl) : Sub c.B (cpB ads H) := fun b o e => cpB_of (fun hb => by
  rw [← K.ads] at hb
  obtain ⟨p, hp, rfl⟩ := List.mem_map.mp hb
  rw [(K.S.frk p (List.mem_append_left _ hp)).2.2.1] at e; cases e) (K.S.base b o e)
theorem CpS.newI (K : CpS c σ fr os src tm H I ρ m ads cl fl) (hb : H.objs.size ≤ b) : cpI I (Cas cl fl) H b = none := cpI_none (K.ni hb) fun hc => by
  obtain ⟨o, u, g, _⟩ := (K.cas hc).2
  rw [nabove hb] at g; cases g
/-- into the block -/
theorem CpS.enter (K : CpS c σ fr os src tm H I ρ m ads cl fl) {scope : Scope} {el : Nat → D} {h₂ : Heap} {Dd C : Nat} {m₀ : Str → Option Value} (hD : H.objs.size = Dd) (hC : C = Dd + 1) (old : ∀ b o, H.get? b = some o → h₂.get? b = some o) (gD : h₂.get? Dd = some (lobj [] 0)) (hns : h₂.Ns C m₀) :
    StI (cxComp c scope cl C (cpB ads H) (cpI I (Cas cl fl) H)) (sgC [] (elsOf el 0) fl) (os ++ []) ((.ref Dd, .m 0) :: dt src) h₂ (cpI I (Cas cl fl) H) [Dd] m₀ := by
  subst hD
  refine ⟨fun b o e => old b o (cpB_some e).2, fun b o e => ?_, fun b o e => .inl e, Sub.refl _, hns, fun x v e => (nomatch e), fun _ => ⟨cpB_none (nabove (adr2 hC)), K.newI (adr2 hC)⟩, rfl, fun i b mo e1 e2 => ?_, by simp, fun x k e => (nomatch e), fun x d e => ?_, fun p hp => ?_, ?_, fun p hp => ?_⟩
  · rcases cpI_cases e with e | ⟨_, e⟩
    · exact old _ _ (K.S.imm _ _ e)
    · exact old _ _ e
  · cases i with
    | succ i => cases e1
    | zero =>
      cases e1; cases e2
      exact ⟨⟨_, gD, .list .nil⟩, K.newI (Nat.le_refl _), cpB_none (nabove (Nat.le_refl _)), adr4 hC⟩
  · obtain ⟨ad, o, u, h1, h2, h3, h4, h5⟩ := K.cap e
    refine ⟨ad, o, u, h1, ?_, h4, h5.mono fun b o e => cpI_of e⟩
    cases ei : I ad with
    | some o' =>
      have := K.S.imm _ _ ei
      rw [h3] at this; cases this
      exact cpI_of ei
    | none => rw [cpI_cas ei ⟨x, d, e, h1⟩]; exact h3
  · rw [List.append_nil] at hp
    obtain ⟨g, h1, h2, h3, h4⟩ := K.S.frk p (List.mem_append_left _ hp)
    exact ⟨old _ _ g, cpI_none h1 fun hc => h4 (K.cas hc).1, cpB_mem (K.ads ▸ List.mem_map_of_mem hp), adr1 (Heap.lt_size g) hC, by rw [List.mem_singleton]; exact adr3 (Heap.lt_size g)⟩
  · have := K.S.frnd
    rw [List.map_append, List.nodup_append] at this
    rw [List.append_nil]; exact this.1
  · rcases List.mem_cons.mp hp with rfl | hp
    · exact .m rfl
    · have := K.S.tmk p (List.mem_append_left _ hp)
      obtain ⟨q, hq, rfl⟩ := List.mem_map.mp hp
      exact .d (this.d_inv.mono fun b o e => cpI_of e)
/-- out of the block, the block's own names held aside -/
theorem CpS.leave (K : CpS c σ fr os src tm H I ρ m ads cl fl) {scope : Scope} {C : Addr} {σx : Sg} {tmx : List (Value × Vl)} {h h₁ : Heap} {J : Mp} {ρx : List Addr} {m' : Str → Option Value} {os' : List (Addr × Obj)}
    (SJ : StI (cxComp c scope cl C (cpB ads H) (cpI I (Cas cl fl) H)) σx (os' ++ []) tmx h J ρx m') (hos : os'.map (·.1) = ads) (hC : H.objs.size ≤ C) (hk : ∀ b o, b ∉ ads → h.get? b = some o → h₁.get? b = some o) :
    ∃ oC, StI c σ ((C, oC) :: fr) tm h₁ (cpJ H I J) ρ m ∧ Few J (cpJ H I J) ∧ h₁.get? C = some oC ∧ ∀ h'' : Heap, h''.get? C = some oC → h''.Ns C m' := by
  have os_of : ∀ {b}, b ∈ ads → J b = none ∧ b ≠ C := fun {b} hb => by
    rw [← hos] at hb
    obtain ⟨p, hp, rfl⟩ := List.mem_map.mp hb
    exact ⟨(SJ.frk p (List.mem_append_left _ hp)).2.1, (SJ.frk p (List.mem_append_left _ hp)).2.2.2.1⟩
  have hfew : Few J (cpJ H I J) := fun b o e hcl => cpJ_of (fun ⟨h1, h2⟩ => by
    obtain ⟨o', e'⟩ := Option.isSome_iff_exists.mp h1
    rcases SJ.orig b o e with h3 | h3
    · rcases cpI_cases h3 with h3 | ⟨h4, h5⟩
      · rw [h2] at h3; cases h3
      · obtain ⟨o2, u, g, hd⟩ := (K.cas h4).2
        rw [h5] at g; cases g
        exact hcl _ hd
    · by_cases hb : b ∈ ads
      · rw [(os_of hb).1] at e; cases e
      · rw [show (cxComp c scope cl C (cpB ads H) (cpI I (Cas cl fl) H)).B b = some o' from cpB_of hb e'] at h3; cases h3) e
  have Sout := StI.extX K.S (h' := h₁) (J := cpJ H I J) (fun b o hb e => hk b o (K.ads ▸ hb) (SJ.base b o (cpB_of (K.ads ▸ hb) e))) (fun b o e => cpJ_of (fun ⟨_, h2⟩ => by rw [e] at h2; cases h2) (SJ.ia _ _ (cpI_of e)))
    (fun b o e => hk b o (fun hb => by have := (cpJ_some e).1; rw [(os_of hb).1] at this; cases this) (SJ.imm b o (cpJ_some e).1)) (fun b o e => by
      obtain ⟨h1, h2⟩ := cpJ_some e
      cases eh : H.get? b with
      | none => exact .inr rfl
      | some o' =>
        left
        cases ei : I b with
        | none => exact absurd ⟨by rw [eh]; rfl, ei⟩ h2
        | some o2 => rw [SJ.ia _ _ (cpI_of ei)] at h1; exact h1)
  obtain ⟨oC, es, ep, gC, hdC, hkC, hfC⟩ := SJ.ns
  have gC1 : h₁.get? C = some oC := hk _ _ (fun hb => (os_of hb).2 rfl) gC
  exact ⟨oC, (Sout.addFr gC1 (cpJ_none (SJ.wr rfl).2) (K.nB hC) (adr5 K.S.ns.lt hC) (K.nρ hC) (K.nfr hC)).sub fun _ hp => List.mem_append_right _ hp, hfew, gC1, fun h'' g'' => ⟨oC, es, ep, g'', hdC, hkC, hfC⟩⟩
/-- the end of the block: the list as data, and as an object of one's own -/
theorem CpS.fin (K : CpS c σ fr os src tm H I ρ m ads cl fl) {scope : Scope} {Dd C : Nat} {n : Nat} {el : Nat → D} {h h₁ : Heap} {os' : List (Addr × Obj)} (hD : H.objs.size = Dd) (hCD : C = Dd + 1)
    (SC : St (cxComp c scope cl C (cpB ads H) (cpI I (Cas cl fl) H)) (sgC [] (elsOf el n) fl) (os' ++ []) ((.ref Dd, .m 0) :: dt src) h) (hos : os'.map (·.1) = ads) (hk : ∀ b o, b ∉ ads → h.get? b = some o → h₁.get? b = some o) :
    ∃ m' oC, St c σ ((C, oC) :: fr) ((.ref Dd, .d (.lst ((List.range n).map el))) :: tm) h₁ ∧ St c { σ with mu := σ.mu ++ [.list (elsOf el n)] } ((C, oC) :: fr) ((.ref Dd, .m σ.mu.length) :: tm) h₁ ∧ ∀ h'' : Heap, h''.get? C = some oC → h''.Ns C m' := by
  subst hD
  obtain ⟨J, ρ', m', SJ⟩ := SC
  obtain ⟨a', e, hi0⟩ := (SJ.tmk _ (.head _)).m_inv
  cases e
  obtain ⟨⟨oD, gD', qD⟩, nD1, nD2, nD3⟩ := SJ.mu 0 _ _ hi0 rfl
  obtain ⟨J2, SJ2, hrep⟩ := SJ.freeze hi0 (mo := .list (elsOf el n)) rfl (by simp) (Frz.list rfl)
  obtain ⟨oC, S1', hfew, gC1, hns'⟩ := K.leave SJ2 hos (adr2 hCD) hk
  obtain ⟨oC2, S2', hfewM, gC2, _⟩ := K.leave SJ hos (adr2 hCD) hk
  cases Option.some.inj (gC1.symm.trans gC2)
  refine ⟨m', oC, ⟨_, ρ, m, S1'.push (.d (hrep.few hfew))⟩, ⟨_, _, m, S2'.addMu (hk _ _ (fun hb => ?_) gD') ?_ (cpJ_none nD1) (K.nB (Nat.le_refl _)) (fun e => absurd K.S.ns.lt (by rw [← e]; exact Nat.lt_irrefl _)) (K.nρ (Nat.le_refl _)) fun hm => ?_⟩, hns'⟩
  · rw [← hos] at hb
    obtain ⟨p, hp, e⟩ := List.mem_map.mp hb
    exact (SJ.frk p (List.mem_append_left _ hp)).2.2.2.2 (e ▸ List.mem_of_getElem? hi0)
  · cases qD with
    | list hv => exact .list (RepVs.ofReps (hv.toReps.few hfewM))
  · rw [List.map_cons] at hm
    rcases List.mem_cons.mp hm with e | hm
    · exact adr4 hCD e
    · exact K.nfr (Nat.le_refl _) hm
end
/-- the block of a comprehension: behind it the list is data, and the block's own names (at C) are held aside -/
theorem comp_core {elt iter : Expr} {x : Str} {px : Pos} {scope : Scope} {cl : List (Str × Addr)} {fl : List (Str × D)} {pos : Pos} {n : Nat} {it el : Nat → D} {fr os : List (Addr × Obj)} {tm : List (Value × Vl)} {s : Shared} {a : Addr} {ads : List Addr}
    {src : List (Value × D)} {P : Nat → List (Addr × Obj) → Prop} {RR : Value → Addr → Result → Shared → Prop} {E : Value → Shared → Prop}
    (I₀ : ∀ (B Ia : Mp) (env : Env) (wr : Bool), Itr { c with B := B, Ia := Ia, env := env, wr := wr } src a ads n it P) (hP : P 0 os) (ht : 1 ≤ s.toks) (S : St c σ (os ++ fr) (dt src ++ tm) s.heap)
    (hcaps : Caps c σ cl fl) (hcell : ∀ y ∈ scope.names, y.2 ≠ .cell) (hkind : scope.kind = .function) (hx : scope.names.lookup x = some .local) (hsz : n ≤ sizeLine)
    (helt : ∀ (C : Addr) (B Ia : Mp) (i : Nat) (xs : List Vl), i < n → Sub c.B B → Ev (cxComp c scope cl C B Ia) (sgC [(x, .d (it i))] xs fl) elt (.d (el i)) (sgC [(x, .d (it i))] xs fl))
    (hRR : ∀ (Dd C : Addr) (oC : Obj) (m' : Str → Option Value) (h' : Heap) (tk : Nat), 1 ≤ tk → St c σ ((C, oC) :: fr) ((.ref Dd, .d (.lst ((List.range n).map el))) :: tm) h' → St c { σ with mu := σ.mu ++ [.list (((List.range n).map el).map .d)] } ((C, oC) :: fr) ((.ref Dd, .m σ.mu.length) :: tm) h' → (∀ h'' : Heap, h''.get? C = some oC → h''.Ns C m') →
      RR (.ref Dd) C (.ok .next) { s with heap := h', toks := tk }) :
    wpAny c.M c.A (newList []) (fun acc s₃ => wpAny c.M c.A (newFunctionEnv scope c.env.globals cl [] c.env.qual none .none (some c.env)) (fun cenv s₄ =>
      codeAny c.M c.A (.compStart (.ListComp elt [⟨.Name x px, iter, [], 0⟩] scope pos) 0 (.ref a) acc { cenv with scope := relabel scope c.env }) (RR acc cenv.locals) s₄) E s₃) E s := by
  obtain ⟨I, ρ, m, S⟩ := S
  have K : CpS c σ fr os src tm s.heap I ρ m ads cl fl := ⟨S, (I₀ c.B c.Ia c.env c.wr).fix _ _ hP, hcaps⟩
  refine wpAny_newObj_type (wpAny_newFunctionEnv hcell (by intro y hy; cases hy) (fun h₂ hns hsb => ?_) hkind)
  dsimp only at hns hsb ⊢
  generalize hH1 : s.heap.push { cls := Value.type "list", dict := none, data := .seq ([] : List Value).toArray } = h₁ at hns hsb ⊢
  have hC : h₁.objs.size = s.heap.objs.size + 1 := by rw [← hH1, Heap.size_push]
  generalize h₁.objs.size = C at hns hsb hC ⊢
  have S0 : StI (cxComp c scope cl C (cpB ads s.heap) (cpI I (Cas cl fl) s.heap)) (sgC [] (elsOf el 0) fl) (os ++ []) ((.ref s.heap.objs.size, .m 0) :: dt src) h₂ (cpI I (Cas cl fl) s.heap) [s.heap.objs.size] (fun z => ([] : List (Str × Value)).reverse.lookup z) :=
    K.enter rfl hC (fun b o e => hsb.extBut b o (adr1 (Heap.lt_size e) hC) (Heap.get?_push_of_some _ (hH1 ▸ Heap.get?_push_of_some _ e)))
      (hsb.extBut _ _ (adr4 hC) (Heap.get?_push_of_some _ (hH1 ▸ Heap.get?_push_size s.heap (o := lobj [] 0) rfl))) hns
  have IT : Itr (cxComp c scope cl C (cpB ads s.heap) (cpI I (Cas cl fl) s.heap)) src a ads n it P := I₀ _ _ (compEnvC scope cl C c.env) true
  have loop := comp_loop (RR := RR (.ref s.heap.objs.size) C) (s := s) (elt := elt) (iter := iter) (x := x) (px := px) (scope := scope) (pos := pos) (tk := s.toks + ([] : List (Str × Value)).length) IT rfl (lookup_relabel_local hx) (by show (scope.kind == .class || (scope.kind == .module && _)) = false; rw [hkind]; rfl) hsz
    (fun i xs hi => helt C _ _ i xs hi K.subB) (fun os' h h₁ tk₁ hP' SC ht hk => by
      obtain ⟨m', oC, q1, q2, q3⟩ := K.fin rfl hC SC (IT.fix _ _ hP') hk
      exact hRR _ C oC m' h₁ tk₁ ht q1 q2 q3) ht hP ⟨_, _, _, S0⟩
  exact codeAny_compStart_list loop (IT.self _ [] _ 0 os { s with heap := h₂, toks := s.toks + ([] : List (Str × Value)).length } _ _ hP (fun p hp => .tail _ hp) ⟨_, _, _, S0⟩ loop)

theorem Ev.comp {elt iter : Expr} {x : Str} {px : Pos} {scope : Scope} {cl : List (Str × Addr)} {fl : List (Str × D)} {pos : Pos} {n : Nat} {it el : Nat → D} (hi : ItE c σ iter n it σ₁) (hclos : closureFor scope c.env = pure cl) (hcaps : Caps c σ₁ cl fl)
    (hsz : n ≤ sizeLine) (hx : scope.names.lookup x = some .local)
    (helt : ∀ (C : Addr) (B Ia : Mp) (i : Nat) (xs : List Vl), i < n → Sub c.B B → Ev (cxComp c scope cl C B Ia) (sgC [(x, .d (it i))] xs fl) elt (.d (el i)) (sgC [(x, .d (it i))] xs fl))
    (hcell : ∀ y ∈ scope.names, y.2 ≠ .cell := by decide +kernel) (hnames : ∀ y ∈ scope.names, y.2 = .local → scope.names.lookup y.1 = some .local := by decide +kernel)
    (hkind : scope.kind = .function := by rfl) (hs : ∀ x, foldedSetIterable iter c.env x = pure x := by intro _; rfl) :
    Ev c σ (.ListComp elt [⟨.Name x px, iter, [], 0⟩] scope pos) (.d (.lst ((List.range n).map el))) σ₁ := fun fr tm s Q E ht S hQ => by
  rw [eval_ListComp]
  refine wpAny_comprehension_free (use := none) rfl hs hclos hkind hnames (hi fr tm s _ E ht S fun a ads src P os h tk I₀ hP ht S1 => ?_)
  refine comp_core (RR := fun acc C => compPost c.M c.A E none Q acc C) I₀ hP ht S1 hcaps hcell hkind hx hsz helt fun Dd C oC m' h' tk' ht S2 S2M hns => ?_
  obtain ⟨I, ρ, m, S2⟩ := S2
  exact ⟨m', hns _ (S2.frk _ (.head _)).1, fun h'' hs => hQ _ h'' _ ht ⟨I, ρ, m, S2.dropFr hs.extBut⟩⟩
theorem Wx.assign_comp {elt iter : Expr} {x y : Str} {px py : Pos} {scope : Scope} {cl : List (Str × Addr)} {fl : List (Str × D)} {pos spos : Pos} {n : Nat} {it el : Nat → D} (hi : ItE c σ iter n it σ₁) (hclos : closureFor scope c.env = pure cl) (hcaps : Caps c σ₁ cl fl)
    (hsz : n ≤ sizeLine) (hx : scope.names.lookup x = some .local)
    (helt : ∀ (C : Addr) (B Ia : Mp) (i : Nat) (xs : List Vl), i < n → Sub c.B B → Ev (cxComp c scope cl C B Ia) (sgC [(x, .d (it i))] xs fl) elt (.d (el i)) (sgC [(x, .d (it i))] xs fl))
    (ha : As c σ₁ (.Name y py) (.d (.lst ((List.range n).map el))) σ₂) (hr : R .next σ₂)
    (hsw : swapsWith (.ListComp elt [⟨.Name x px, iter, [], 0⟩] scope pos) (some (.Name y py)) spos.line c.env = pure true := by rfl)
    (hcell : ∀ y ∈ scope.names, y.2 ≠ .cell := by decide +kernel) (hnames : ∀ y ∈ scope.names, y.2 = .local → scope.names.lookup y.1 = some .local := by decide +kernel)
    (hkind : scope.kind = .function := by rfl) (hs : ∀ x, foldedSetIterable iter c.env x = pure x := by intro _; rfl) :
    Wx c σ (.Assign [.Name y py] (.ListComp elt [⟨.Name x px, iter, [], 0⟩] scope pos) spos) R := fun fr tm s Q E ht S hQ => by
  rw [exec_Assign_Name_used _ _ _ _ hsw]
  refine wpAny_bind (wpAny_standAt (wpAny_bind ?_))
  show wpAny _ c.A (do let _ ← comprehension (.ListComp elt [⟨.Name x px, iter, [], 0⟩] scope pos) scope c.env _ (newList []) false (eval iter c.env) (some (assign (.Name y py) c.env))) _ _ s
  refine wpAny_bind (wpAny_mono (wpAny_comprehension_free (use := some (assign (.Name y py) c.env)) (Q := fun _ s' => Q .next s') rfl hs hclos hkind hnames
    (hi fr (dt tm) s _ E ht S fun a ads src P os h tk I₀ hP ht S1 => ?_)) (fun _ s' hq => wpAny_pure (wpAny_pure hq)) fun _ _ e => e)
  refine comp_core (RR := fun acc C => compPost c.M c.A E (some (assign (.Name y py) c.env)) (fun _ s' => Q .next s') acc C) I₀ hP ht S1 hcaps hcell hkind hx hsz helt fun Dd C oC m' h' tk' ht S2 S2M hns => ?_
  refine ha ((C, oC) :: fr) (dt tm) _ _ E _ ht S2 fun h3 tk3 ht ⟨I, ρ, m, S3⟩ => ?_
  exact ⟨m', hns _ (S3.frk _ (.head _)).1, fun h'' hs => hQ .next .next σ₂ h'' _ ht hr ⟨I, ρ, m, S3.dropFr hs.extBut⟩⟩
theorem Wx.assign_compM {elt iter : Expr} {x y : Str} {px py : Pos} {scope : Scope} {cl : List (Str × Addr)} {fl : List (Str × D)} {pos spos : Pos} {n : Nat} {it el : Nat → D} (hi : ItE c σ iter n it σ₁) (hclos : closureFor scope c.env = pure cl) (hcaps : Caps c σ₁ cl fl)
    (hsz : n ≤ sizeLine) (hx : scope.names.lookup x = some .local)
    (helt : ∀ (C : Addr) (B Ia : Mp) (i : Nat) (xs : List Vl), i < n → Sub c.B B → Ev (cxComp c scope cl C B Ia) (sgC [(x, .d (it i))] xs fl) elt (.d (el i)) (sgC [(x, .d (it i))] xs fl))
    (ha : As c { σ₁ with mu := σ₁.mu ++ [.list (((List.range n).map el).map .d)] } (.Name y py) (.m σ₁.mu.length) σ₂) (hr : R .next σ₂)
    (hsw : swapsWith (.ListComp elt [⟨.Name x px, iter, [], 0⟩] scope pos) (some (.Name y py)) spos.line c.env = pure true := by rfl)
    (hcell : ∀ y ∈ scope.names, y.2 ≠ .cell := by decide +kernel) (hnames : ∀ y ∈ scope.names, y.2 = .local → scope.names.lookup y.1 = some .local := by decide +kernel)
    (hkind : scope.kind = .function := by rfl) (hs : ∀ x, foldedSetIterable iter c.env x = pure x := by intro _; rfl) :
    Wx c σ (.Assign [.Name y py] (.ListComp elt [⟨.Name x px, iter, [], 0⟩] scope pos) spos) R := fun fr tm s Q E ht S hQ => by
  rw [exec_Assign_Name_used _ _ _ _ hsw]
  refine wpAny_bind (wpAny_standAt (wpAny_bind ?_))
  show wpAny _ c.A (do let _ ← comprehension (.ListComp elt [⟨.Name x px, iter, [], 0⟩] scope pos) scope c.env _ (newList []) false (eval iter c.env) (some (assign (.Name y py) c.env))) _ _ s
  refine wpAny_bind (wpAny_mono (wpAny_comprehension_free (use := some (assign (.Name y py) c.env)) (Q := fun _ s' => Q .next s') rfl hs hclos hkind hnames
    (hi fr (dt tm) s _ E ht S fun a ads src P os h tk I₀ hP ht S1 => ?_)) (fun _ s' hq => wpAny_pure (wpAny_pure hq)) fun _ _ e => e)
  refine comp_core (RR := fun acc C => compPost c.M c.A E (some (assign (.Name y py) c.env)) (fun _ s' => Q .next s') acc C) I₀ hP ht S1 hcaps hcell hkind hx hsz helt fun Dd C oC m' h' tk' ht S2 S2M hns => ?_
  refine ha ((C, oC) :: fr) (dt tm) _ _ E _ ht S2M fun h3 tk3 ht ⟨I, ρ, m, S3⟩ => ?_
  exact ⟨m', hns _ (S3.frk _ (.head _)).1, fun h'' hs => hQ .next .next σ₂ h'' _ ht hr ⟨I, ρ, m, S3.dropFr hs.extBut⟩⟩
end
end Mine
end TComp

section TR4
open PySem PySem.W PySem.Calls PyProof.Rows
set_option autoImplicit false
set_option linter.unusedVariables false
set_option Elab.async false
namespace Mine

section
variable {c : Cx} {σ σ₁ σ₂ σ₃ σ₄ : Sg} {R : FD → Sg → Prop}

/-! ### strs -/
theorem Op2.gt_str {a b : Str} : Op2 c σ (.d (.str a)) (.d (.str b)) (compareOp .Gt) (.d (.bool (decide (b.cps.toList < a.cps.toList)))) σ := Op2.imm fun fr tm h' S v w hv hw s Q E ht e hQ => by
  obtain ⟨t, rfl⟩ := S.str hv; obtain ⟨u, rfl⟩ := S.str hw
  exact PySem.P.gt_str (hQ _ _ fun _ => .bool _)
theorem Op2.lt_str {a b : Str} : Op2 c σ (.d (.str a)) (.d (.str b)) (compareOp .Lt) (.d (.bool (decide (a.cps.toList < b.cps.toList)))) σ := Op2.imm fun fr tm h' S v w hv hw s Q E ht e hQ => by
  obtain ⟨t, rfl⟩ := S.str hv; obtain ⟨u, rfl⟩ := S.str hw
  exact PySem.P.lt_str (hQ _ _ fun _ => .bool _)
theorem Op2.in_str {x y : Str} : Op2 c σ (.d (.str y)) (.d (.str x)) (compareOp .In) (.d (.bool !(Builtin.Str.occurrences x y 0 x.length 1).isEmpty)) σ := Op2.imm fun fr tm h' S v w hv hw s Q E ht e hQ => by
  obtain ⟨t, rfl⟩ := S.str hv; obtain ⟨u, rfl⟩ := S.str hw
  exact PyProof.Rows.in_str (hQ _ _ fun _ => .bool _)
theorem Op2.sub_bool {p q : Bool} : Op2 c σ (.d (.bool p)) (.d (.bool q)) (binaryOp .Sub) (.d (.int (b2i p - b2i q))) σ := Op2.imm fun fr tm h' S v w hv hw s Q E ht e hQ => by
  rw [S.bool hv, S.bool hw]
  exact PyProof.Rows.sub_bool (hQ _ _ fun _ => .int _ _)
theorem Op2.str_is_none {x : Str} : Op2 c σ (.d (.str x)) (.d .none) (compareOp .Is) (.d (.bool false)) σ := Op2.imm fun fr tm h' S v w hv hw s Q E ht e hQ => by
  obtain ⟨t, rfl⟩ := S.str hv; rw [S.none hw]
  exact wpAny_is_other rfl (by simp) (hQ _ _ fun _ => .bool _)
theorem Ev.neg {e : Expr} {p : Pos} {i : Int} (h : Ev c σ e (.d (.int i)) σ₁) : Ev c σ (.UnaryOp .USub e p) (.d (.int (-i))) σ₁ := fun fr tm s Q E ht S hQ =>
  wpAny_UnaryOp (h fr tm s _ E ht S fun v h' tk ht S' => by
    obtain ⟨t, rfl⟩ := S'.int (.head _)
    exact PySem.P.neg_int (hQ _ h' (tk + 1) (by first | decide | omega) (S'.pop.imm fun _ => .int _ _)))
theorem Op2.get_str {x : Str} {j : Int} {ch : Nat} (h0 : 0 ≤ j) (hj : j < 2 ^ 63) (hc : x.cps[j.toNat]? = some ch) : Op2 c σ (.d (.str x)) (.d (.int j)) getItem (.d (.str ⟨#[ch]⟩)) σ := fun v w => Cm.mk fun fr tm s Q E ht S hQ => by
  obtain ⟨u, rfl⟩ := S.int (.head _); obtain ⟨t, rfl⟩ := S.str (.tail _ (.head _))
  have hlt := (Array.getElem?_eq_some_iff.mp hc).1
  have hl : j < (x.length : Int) := by unfold Str.length; omega
  have hn : ¬ j < 0 := by omega
  refine PySem.P.getItem_str (c := ch) (by simp; omega) ?_ (hQ _ s.heap (s.toks + 1) (S.pop2.imm fun _ => .str _ _))
  simp [seqIndex?, hn, h0, hl, hc]
theorem Op2.sub_str {value slice : Expr} {x : Str} {j : Int} {ch : Nat} (h0 : 0 ≤ j) (hj : j < 2 ^ 63) (hc : x.cps[j.toNat]? = some ch) (hs : ∀ o i, subscripted slice false o i = operate [o, i] (getItem o i) := by intro _ _; rfl) :
    Op2 c σ (.d (.str x)) (.d (.int j)) (subscriptTail value slice) (.d (.str ⟨#[ch]⟩)) σ := Op2.tail HasT.str F.slot_str_getitem.lookup (Op2.get_str h0 hj hc) hs
theorem Op2.mul_str {x : Str} {n : Int} (h0 : 0 ≤ n) (hn : n ≤ 1000) (hx : x.length ≤ 1000) : Op2 c σ (.d (.str x)) (.d (.int n)) (binaryOp .Mult) (.d (.str ⟨(List.replicate n.toNat x.cps.toList).flatten.toArray⟩)) σ := fun v w => Cm.mk fun fr tm s Q E ht S hQ => by
  obtain ⟨u, rfl⟩ := S.int (.head _); obtain ⟨t, rfl⟩ := S.str (.tail _ (.head _))
  have hfold : ∀ (k : Nat) (acc : Array Nat), (List.replicate k x.cps).foldl (· ++ ·) acc = acc ++ (List.replicate k x.cps.toList).flatten.toArray := by
    intro k
    induction k with
    | zero => intro acc; simp
    | succ k ih => intro acc; rw [List.replicate_succ, List.foldl_cons, ih, List.replicate_succ, List.flatten_cons]; apply Array.toList_inj.mp; simp
  have hlen : ∀ k : Nat, (Str.mk (List.replicate k x.cps.toList).flatten.toArray).length = k * x.length := by
    intro k; simp [Str.length, List.length_flatten]
  have hmul : x.length * n.toNat ≤ 1000000 := Nat.mul_le_mul hx (show n.toNat ≤ 1000 by omega)
  refine PySem.P.mul_str (by simp; omega) (fun hn1 _ => ?_) (fun _ _ => ?_) ?_
  · have h1n : 1 ≤ n := by omega
    have h2 : (x.length : Int) * n ≤ 1000 * 1000 := Int.mul_le_mul (by first | decide | omega) hn h0 (by first | decide | omega)
    have := Int.le_ediv_of_mul_le (by omega : 0 < n) (show (x.length : Int) * n ≤ 2 ^ 63 - 1 by omega)
    omega
  · unfold Builtin.Str.tooLong; rw [sizeLine_eq]; exact decide_eq_false (by first | decide | omega)
  · refine MadeIs.post (d := .str ⟨(List.replicate n.toNat x.cps.toList).flatten.toArray⟩) ?_ ht fun v tk hr => hQ v s.heap tk (S.pop2.imm hr)
    split
    · have : n = 0 := by omega
      subst this
      exact .str _ (by decide)
    · split
      · rename_i hh
        have e : (⟨(List.replicate n.toNat x.cps.toList).flatten.toArray⟩ : Str) = x := by
          simp only [Bool.or_eq_true, beq_iff_eq] at hh
          obtain ⟨x⟩ := x
          rcases hh with rfl | hh
          · simp
          · have hx0 : x = #[] := Array.size_eq_zero_iff.mp hh
            subst hx0
            simp
        rw [e]; exact .val fun _ => .str _ _
      · rw [hfold, Array.empty_append]
        exact .str _ (by rw [hlen, sizeLine_eq, Nat.mul_comm]; omega)

/-! ### tests -/
theorem TrW.and_nil {pos : Pos} : TrW c σ (.BoolOp .And [] pos) true σ := ⟨fun fr tm s Q E ht S hQ => isTrue_and_nil (hQ s.heap s.toks ht S)⟩
theorem TrW.or_nil {pos : Pos} : TrW c σ (.BoolOp .Or [] pos) false σ := ⟨fun fr tm s Q E ht S hQ => isTrue_or_nil (hQ s.heap s.toks ht S)⟩
theorem TrW.and_t {x : Expr} {rest : List Expr} {pos : Pos} {b : Bool} (h : TrW c σ x true σ₁) (k : TrW c σ₁ (.BoolOp .And rest pos) b σ₂) : TrW c σ (.BoolOp .And (x :: rest) pos) b σ₂ := ⟨fun fr tm s Q E ht S hQ =>
  isTrue_and (h.run fr tm s _ E ht S fun h' tk ht S' => by simp only [if_true]; exact k.run fr tm _ Q E ht S' hQ)⟩
theorem TrW.and_f {x : Expr} {rest : List Expr} {pos : Pos} (h : TrW c σ x false σ₁) : TrW c σ (.BoolOp .And (x :: rest) pos) false σ₁ := ⟨fun fr tm s Q E ht S hQ =>
  isTrue_and (h.run fr tm s _ E ht S fun h' tk ht S' => by simp only [Bool.false_eq_true, if_false]; exact hQ h' tk ht S')⟩
theorem TrW.or_f {x : Expr} {rest : List Expr} {pos : Pos} {b : Bool} (h : TrW c σ x false σ₁) (k : TrW c σ₁ (.BoolOp .Or rest pos) b σ₂) : TrW c σ (.BoolOp .Or (x :: rest) pos) b σ₂ := ⟨fun fr tm s Q E ht S hQ =>
  isTrue_or (h.run fr tm s _ E ht S fun h' tk ht S' => by simp only [Bool.false_eq_true, if_false]; exact k.run fr tm _ Q E ht S' hQ)⟩
theorem TrW.or_t {x : Expr} {rest : List Expr} {pos : Pos} (h : TrW c σ x true σ₁) : TrW c σ (.BoolOp .Or (x :: rest) pos) true σ₁ := ⟨fun fr tm s Q E ht S hQ =>
  isTrue_or (h.run fr tm s _ E ht S fun h' tk ht S' => by simp only [if_true]; exact hQ h' tk ht S')⟩
theorem TrW.of_bool {e : Expr} {b : Bool} (h : Ew c σ e (.d (.bool b)) σ₁) (he : ∀ whole, isTrue e c.env whole = (do let v ← whole; standAt e.pos; holding [v] (truthy v)) := by intro _; rfl) : TrW c σ e b σ₁ := ⟨fun fr tm s Q E ht S hQ =>
  isTrue_plain (h.run fr tm s _ E ht S fun v h' tk ht S' => by rw [S'.bool (.head _)]; exact wpAny_truthy_bool (hQ h' tk ht S'.pop)) (he _)⟩
theorem Tr.of_int {e : Expr} {i : Int} (h : Ev c σ e (.d (.int i)) σ₁) (he : ∀ whole, isTrue e c.env whole = (do let v ← whole; standAt e.pos; holding [v] (truthy v)) := by intro _; rfl) : Tr c σ e (i != 0) σ₁ := fun fr tm s Q E ht S hQ =>
  isTrue_plain (h fr tm s _ E ht S fun v h' tk ht S' => by obtain ⟨t, rfl⟩ := S'.int (.head _); exact PySem.P.truthy_int (hQ h' tk ht S'.pop)) (he _)
theorem Tr.of_str {e : Expr} {x : Str} (hx : x.length ≤ 1000000) (h : Ev c σ e (.d (.str x)) σ₁) (he : ∀ whole, isTrue e c.env whole = (do let v ← whole; standAt e.pos; holding [v] (truthy v)) := by intro _; rfl) : Tr c σ e ((x.length : Int) != 0) σ₁ := fun fr tm s Q E ht S hQ =>
  isTrue_plain (h fr tm s _ E ht S fun v h' tk ht S' => by obtain ⟨t, rfl⟩ := S'.str (.head _); exact PySem.P.truthy_str (by first | decide | omega) (hQ h' (tk + 1 + 1) (by first | decide | omega) S'.pop)) (he _)

/-- the parts of a tuple go to targets, one by one -/
noncomputable def AsL (c : Cx) (σ : Sg) : List Expr → List D → Sg → Prop
  | [], [], σ' => σ = σ'
  | t :: ts, d :: ds, σ' => ∃ σ₁, As c σ t (.d d) σ₁ ∧ AsL c σ₁ ts ds σ'
  | _, _, _ => False

/-! ### slices -/
/-- a bound of a slice -/
noncomputable def EvP (c : Cx) (σ : Sg) : Option Expr → Option Int → Sg → Prop
  | none, none, σ' => σ = σ'
  | some e, some i, σ' => Ev c σ e (.d (.int i)) σ'
  | _, _, _ => False
theorem EvP.run {o : Option Expr} {k : Option Int} (h : EvP c σ o k σ₁) {fr : List (Addr × Obj)} {tm : List (Value × Vl)} {s : Shared} {Q : Value → Shared → Prop} {E : Value → Shared → Prop} (ht : 1 ≤ s.toks) (S : St c σ fr tm s.heap)
    (hQ : ∀ v h' tk, IsPart v k → 1 ≤ tk → St c σ₁ fr tm h' → Q v { s with heap := h', toks := tk }) : wpAny c.M c.A (evalPart o c.env) Q E s := by
  cases o with
  | none =>
    cases k with
    | some => exact h.elim
    | none => cases h; exact wpAny_pure (hQ _ s.heap s.toks .none ht S)
  | some e =>
    cases k with
    | none => exact h.elim
    | some i => exact h fr tm s Q E ht S fun v h' tk ht S' => by obtain ⟨t, rfl⟩ := S'.int (.head _); exact hQ _ h' tk (.int i t) ht S'.pop
theorem ew_slice_lst {value : Expr} {lower upper : Option Expr} {p pos : Pos} {ds : List D} {lo hi : Option Int} (h1 : Ew c σ value (.d (.lst ds)) σ₁) (h2 : EvP c σ₁ lower lo σ₂) (h3 : EvP c σ₂ upper hi σ₃) (hsz : ds.length ≤ 1000000) (ht : ∀ o r, letTemporaryGo value o r = pure () := by intro _ _; rfl) : Ew c σ (.Subscript value (.Slice lower upper none p) pos) (.d (.lst ((ds.drop (lo.elim 0 (clipAt ds.length))).take (hi.elim ds.length (clipAt ds.length) - lo.elim 0 (clipAt ds.length))))) σ₃ := ⟨fun fr tm s Q E htk S hQ => by
  refine wpAny_Subscript_list_slice (h1.run fr tm s _ E htk S fun v h' tk htk S1 => h2.run htk S1 fun vl h' tk pl htk S2 => h3.run htk S2 fun vu h' tk pu htk S3 => ?_) ht
  obtain ⟨I, ρ, m, S3⟩ := S3
  obtain ⟨a, vs, n, rfl, h1', g, r⟩ := S3.lstAt (.head _)
  refine ⟨a, vs.toArray, lo, hi, rfl, lobj_isList g, by rw [List.size_toArray, r.length, sizeLine_eq]; omega, pl, pu, ?_⟩
  rw [slicePick_plain]
  have e : vs.toArray.size = ds.length := by simp [r.length]
  rw [e]
  have S4 := (S3.sub (tmp' := tm) fun _ hp => .tail _ hp).alloc { cls := .type "slice", data := .fields #[vl, vu, .none] }
  have r4 := ((r.mono (upd_none I S3.fresh.1 (o := { cls := .type "slice", data := .fields #[vl, vu, .none] }))).drop (lo.elim 0 (clipAt ds.length))).take (hi.elim ds.length (clipAt ds.length) - lo.elim 0 (clipAt ds.length))
  have S5 := S4.newLst r4
  rw [Heap.size_push] at S5
  exact hQ _ _ tk htk ⟨_, ρ, m, S5⟩⟩

/-- try: nothing is raised -/
theorem Wx.try_ {body orelse : List Stmt} {h₀ : ExceptHandler} {hs : List ExceptHandler} {pos : Pos} (h : Ws c σ body (fun fd σ' => match fd with | .next => Ws c σ' orelse R | fd => R fd σ')) : Wx c σ (.Try body (h₀ :: hs) orelse [] pos) R := fun fr tm s Q E ht S hQ => by
  rw [arm_exec_Try]
  refine wpAny_bind (wpAny_standAt (wpAny_tryStmt_except (h fr tm s _ _ ht S fun f fd σ' h' tk ht hr hf => ?_)))
  rcases hf.inv with ⟨rfl, rfl, S'⟩ | ⟨rfl, rfl, S'⟩ | ⟨rfl, rfl, S'⟩ | ⟨v, x, rfl, rfl, S'⟩
  · exact hr fr tm _ Q E ht S' hQ
  · exact hQ .brk .brk σ' h' tk ht hr S'
  · exact hQ .cont .cont σ' h' tk ht hr S'
  · exact hQ (.ret v) (.ret x) σ' h' tk ht hr S'
structure AsLW (c : Cx) (σ : Sg) (ts : List Expr) (ds : List D) (σ' : Sg) : Prop where run : AsL c σ ts ds σ'
theorem AsL.run : ∀ {ts : List Expr} {ds : List D} {σ σ₁ : Sg}, AsL c σ ts ds σ₁ → ∀ {vs : List Value} {fr : List (Addr × Obj)} {tm : List (Value × Vl)} {s : Shared} {Q : Unit → Shared → Prop} {E : Value → Shared → Prop}, vs.length = ds.length → 1 ≤ s.toks →
    St c σ fr (vs.zip (ds.map Vl.d) ++ tm) s.heap → (∀ h' tk, 1 ≤ tk → St c σ₁ fr tm h' → Q () { s with heap := h', toks := tk }) → wpAny c.M c.A (assignInOrder (ts.map fun t => assign t c.env) vs) Q E s
  | [], [], σ, σ₁, h, vs, fr, tm, s, Q, E, hl, ht, S, hQ => by
    cases h
    obtain rfl := List.length_eq_zero_iff.mp hl
    exact wpAny_pure (hQ s.heap s.toks ht S)
  | t :: ts, d :: ds, σ, σ₁, ⟨σ₂, h1, h2⟩, vs, fr, tm, s, Q, E, hl, ht, S, hQ => by
    cases vs with
    | nil => cases hl
    | cons v vs =>
      rw [List.map_cons]
      show wpAny _ _ (do holding vs (assign t c.env v); assignInOrder (ts.map fun t => assign t c.env) vs) Q E s
      refine wpAny_bind (wpAny_holding (h1 fr (vs.zip (ds.map Vl.d) ++ tm) s _ E v ht S fun h' tk ht S' => ?_))
      exact AsL.run h2 (by simpa using hl) ht S' hQ
/-- a, b, .. = t -/
theorem As.tup {ts : List Expr} {k : Nat} {p : Pos} {ds : List D} (hh : c.A.handled = none) (h : AsL c σ ts ds σ₁) (hlen : ts.length = ds.length := by rfl) (hall : assignEach ts c.env = ts.map fun t => (false, assign t c.env) := by rfl) :
    As c σ (.Tuple ts k p) (.d (.tup ds)) σ₁ := fun fr tm s Q E v ht S hQ => by
  obtain ⟨I, ρ, m, S⟩ := S
  obtain ⟨a, vs, n, rfl, h1, g, r⟩ := S.tupAt (.head _)
  have hmap : (assignEach ts c.env).map (·.2) = ts.map fun t => assign t c.env := by rw [hall, List.map_map]; rfl
  refine wpAny_assign_Tuple (items := vs.toArray) hh ⟨_, g, rfl, n, rfl⟩ (by rw [hall, List.length_map, List.size_toArray, r.length, hlen]) (by rw [hall]; simp [List.findIdx?_eq_none_iff]) fun h' he => ?_
  rw [hmap]
  have keep : ∀ b o, s.heap.get? b = some o → h'.get? b = some o := fun b o e => he b o (Nat.ne_of_lt (Heap.lt_size e)) e
  have S' := (S.ext keep (Sub.refl I) (fun b o e => keep b o (S.imm b o e)) fun b o e => .inl e).sub (tmp' := tm) fun _ hp => .tail _ hp
  refine h.run (tm := tm) r.length ht ⟨I, ρ, m, ?_⟩ fun h'' tk ht S'' => hQ h'' tk ht S''
  refine { S' with tmk := fun p hp => ?_ }
  rcases List.mem_append.mp hp with hp | hp
  · have key : ∀ {vs : List Value} {ds : List D}, Reps I vs ds → ∀ p ∈ vs.zip (ds.map Vl.d), RepV I ρ p.1 p.2 := by
      intro vs
      induction vs with
      | nil => intro ds hr p hp; cases hp
      | cons v vs ih =>
        intro ds hr p hp
        cases hr with
        | cons h1 h2 =>
          rw [List.map_cons, List.zip_cons_cons] at hp
          rcases List.mem_cons.mp hp with rfl | hp
          · exact .d h1
          · exact ih h2 p hp
    exact key r p hp
  · exact S'.tmk p hp

/-! ### the same, closed to the unifier -/
theorem Ew.int {i : Int} {k : Nat} {p : Pos} : Ew c σ (.Constant (.int i) k p) (.d (.int i)) σ := ⟨Ev.const_int⟩
theorem Ew.str {x : Str} {k : Nat} {p : Pos} : Ew c σ (.Constant (.str x) k p) (.d (.str x)) σ := ⟨Ev.const_str⟩
theorem Ew.non {k : Nat} {p : Pos} : Ew c σ (.Constant .none k p) (.d .none) σ := ⟨Ev.const_none⟩
theorem Ew.bool {b : Bool} {k : Nat} {p : Pos} : Ew c σ (.Constant (.bool b) k p) (.d (.bool b)) σ := ⟨Ev.const_bool⟩
theorem Ew.loc {x : Str} {p : Pos} {y : Vl} (hv : σ.loc.lookup x = some y) (hl : c.env.kindOf x = some .local) (hk : c.env.scope.kind = .function) (hd : (x == ("__debug__" : Str)) = false) : Ew c σ (.Name x p) y σ := ⟨Ev.local_ hv hl hk hd⟩
theorem Ew.cel {x : Str} {p : Pos} {y : Vl} {k : Nat} (hx : σ.cix.lookup x = some k) (hv : σ.mu[k]? = some (.cell (some y))) (hl : c.env.kindOf x = some .cell) (hk : c.env.scope.kind = .function) (hd : (x == ("__debug__" : Str)) = false) : Ew c σ (.Name x p) y σ := ⟨Ev.cell_ hx hv hl hk hd⟩
theorem Ew.fce {x : Str} {p : Pos} {d : D} (hx : σ.fce.lookup x = some d) (hl : c.env.kindOf x = some .cell) (hk : c.env.scope.kind = .function) (hd : (x == ("__debug__" : Str)) = false) : Ew c σ (.Name x p) (.d d) σ := ⟨Ev.fce_ hx hl hk hd⟩
theorem Ew.gint {mg mb : Str → Option Value} (G : GX mg mb c) {x : Str} {p : Pos} {i : Int} (hm : intNames.lookup x = some i) (hg : c.env.globals = mainGlobals) (hl : c.env.kindOf x = some .globalImplicit) (hk : c.env.scope.kind = .function)
    (hd : (x == ("__debug__" : Str)) = false) : Ew c σ (.Name x p) (.d (.int i)) σ := ⟨Ev.gint G (PySem.mem_of_lookup hm) hg hl hk hd⟩
theorem Ew.neg {e : Expr} {p : Pos} {i : Int} (h : Ew c σ e (.d (.int i)) σ₁) : Ew c σ (.UnaryOp .USub e p) (.d (.int (-i))) σ₁ := ⟨Ev.neg h.run⟩
theorem Ew.bin {l r : Expr} {op : Operator} {p : Pos} {a b x : Vl} (h1 : Ew c σ l a σ₁) (h2 : Ew c σ₁ r b σ₂) (h3 : Op2 c σ₂ a b (binaryOp op) x σ₃) : Ew c σ (.BinOp l op r p) x σ₃ := ⟨Ev.binop h1.run h2.run h3⟩
theorem Ew.cmp {l r : Expr} {op : CmpOp} {p : Pos} {a b x : Vl} (h1 : Ew c σ l a σ₁) (h2 : Ew c σ₁ r b σ₂) (h3 : Op2 c σ₂ a b (compareOp op) x σ₃) (hm : behindInMarks op r = false) : Ew c σ (.Compare l [op] [r] p) x σ₃ := ⟨Ev.cmp h1.run h2.run h3 hm⟩
end
end Mine
end TR4

section TR5
open PySem PySem.W PySem.Calls PyProof.Rows
set_option autoImplicit false
set_option linter.unusedVariables false
set_option Elab.async false
namespace Mine

/-! ### dicts -/
noncomputable def putE (is : Value → Bool) (e0 : DictEntry) : List DictEntry → List DictEntry
  | [] => [e0]
  | e :: r => if is e.key then { e with val := e0.val } :: r else e :: putE is e0 r
theorem putE_none {is : Value → Bool} {e0 : DictEntry} : ∀ {es : List DictEntry}, (es.findIdx? fun e => is e.key) = none → putE is e0 es = es ++ [e0]
  | [], _ => rfl
  | e :: r, h => by
    rw [List.findIdx?_cons] at h
    cases hb : is e.key with
    | true => rw [hb] at h; cases h
    | false =>
      rw [hb] at h
      simp only [Bool.false_eq_true, if_false, Option.map_eq_none_iff] at h
      rw [putE, hb, putE_none h]; rfl
theorem putE_some {is : Value → Bool} {e0 : DictEntry} : ∀ {es : List DictEntry} {i : Nat}, (es.findIdx? fun e => is e.key) = some i → es.modify i (fun e => { e with val := e0.val }) = putE is e0 es
  | e :: r, i, h => by
    rw [List.findIdx?_cons] at h
    cases hb : is e.key with
    | true => rw [hb] at h; cases h; rw [putE, hb]; rfl
    | false =>
      rw [hb] at h
      simp only [Bool.false_eq_true, if_false, Option.map_eq_some_iff] at h
      obtain ⟨j, hj, rfl⟩ := h
      rw [putE, hb, List.modify_succ_cons, putE_some hj]; rfl

theorem setItem_dobj {prog : Program} {w : World} {K : Type} [DecidableEq K] {knd : PySem.KeyKind prog w K} {A : Around} {E : Value → Shared → Prop} {s : Shared} {d : Addr} {es : List DictEntry} {n : Nat} {k : K} {key v : Value} {Q : Unit → Shared → Prop}
    (hkey : knd.is k key = true) (ho : s.heap.get? d = some (dobj es n)) (hk : PySem.KeysOf knd es.toArray) (hsz : es.length ≤ sizeLine)
    (hQ : ∀ h' n', h'.get? d = some (dobj (putE (knd.is k) ⟨knd.hash k, key, v⟩ es) n') → Heap.SameBut d s.heap h' → Q () { s with heap := h', toks := s.toks + 1 }) :
    wpAny (model prog w) A (setItem (.ref d) key v) Q E s := by
  have hty : s.TypeIs (.ref d) "dict" := ⟨_, ho, rfl⟩
  have hd : (dobj es n).data = .dict es.toArray n := rfl
  unfold setItem
  try with_reducible refine wpAny_holding ?_
  refine wpAny_bind (wpAny_sequenceKey hty (by decide) ?_)
  refine wpAny_bind (wpAny_callSpecial?_slot (name := Str.ofString "__setitem__") hty slot_dict_setitem
    (wpAny_call_entry slot_dict_setitem hty entry_dict_setitem ?_ (args_dict_setitem _ _ _)))
  show wpAny _ _ (Builtin.Dict.notOrdered "__setitem__" ⟨[.ref d, key, v], []⟩ >>= _) _ _ s
  refine wpAny_bind (wpAny_notOrdered_dict hty ?_)
  show wpAny _ _ (dictSet d key v >>= _) _ _ s
  refine wpAny_bind ?_
  unfold dictSet
  try with_reducible refine wpAny_holding ?_
  refine wpAny_bind (knd.pyHash hkey ?_)
  unfold dictSetHashed
  try with_reducible refine wpAny_holding ?_
  refine wpAny_bind (wpAny_dictFind_of (s := { s with toks := s.toks + 1 }) hkey ho hd hk ?_)
  cases hi : es.toArray.findIdx? fun e => knd.is k e.key with
  | some i =>
    refine wpAny_bind (wpAny_rule (wpAny_bind (wpAny_updateDict (s := { s with toks := s.toks + 1 }) ho hd (wpAny_point (wpAny_pure ⟨Value.none, rfl, wpAny_pure (hQ _ n ?_ (Heap.SameBut.update ..))⟩)))))
    rw [Heap.get?_update_self _ ho rfl, ← putE_some (i := i) (by simpa using hi)]
    simp [Obj.mapDict, dobj]
  | none =>
    refine wpAny_bind (wpAny_rule (wpAny_updateDictKeys (hz := by simpa using hsz) (s := { s with toks := s.toks + 1 }) ho hd (wpAny_pure ⟨Value.none, rfl, wpAny_pure (hQ _ (n + 1) ?_ (Heap.SameBut.update ..))⟩)))
    rw [Heap.get?_update_self _ ho rfl, putE_none (by simpa using hi)]
    simp [Obj.mapDictKeys, dobj]

noncomputable def putKV {K : Type} [DecidableEq K] : List (K × D) → K → D → List (K × D)
  | [], k, d => [(k, d)]
  | (k', d') :: r, k, d => if k' = k then (k', d) :: r else (k', d') :: putKV r k d

theorem IEnts.keys {I : Mp} {es : List DictEntry} {kvs : List (Int × D)} {prog : Program} {w : World} (h : IEnts I es kvs) : PySem.KeysOf (PySem.intKind prog w) es.toArray := by
  induction h with
  | nil => intro e he; cases he with | mk h => cases h
  | @cons e es k d kvs hk hh hv _ ih =>
    intro e' he'
    rw [List.mem_toArray] at he'
    rcases List.mem_cons.mp he' with rfl | he'
    · obtain ⟨t, e1⟩ := hk
      exact ⟨k, by rw [e1]; simp [PySem.intKind, Value.isInt], hh⟩
    · exact ih e' (List.mem_toArray.mpr he')
theorem IEnts.length {I : Mp} {es : List DictEntry} {kvs : List (Int × D)}  (h : IEnts I es kvs) : es.length = kvs.length := by
  induction h with
  | nil => rfl
  | cons _ _ _ _ ih => rw [List.length_cons, List.length_cons, ih]
theorem IEnts.put {I : Mp} {es : List DictEntry} {kvs : List (Int × D)}  (h : IEnts I es kvs) {k : Int} {t : Tok} {v : Value} {d : D} (hv : Rep I v d) :
    IEnts I (putE (Value.isInt k) ⟨hashInt k, .int k t, v⟩ es) (putKV kvs k d) := by
  induction h with
  | nil => exact .cons ⟨t, rfl⟩ rfl hv .nil
  | @cons e es k' d' kvs hk hh hv' r ih =>
    obtain ⟨t', e1⟩ := hk
    rw [putE, putKV]
    have hb : Value.isInt k e.key = decide (k' = k) := by rw [e1, Bool.eq_iff_iff]; simp [Value.isInt]
    rw [hb]
    by_cases hkk : k' = k
    · subst hkk
      simp only [decide_true, if_true]
      exact .cons ⟨t', e1⟩ hh hv r
    · simp only [decide_eq_false hkk, Bool.false_eq_true, if_false]
      rw [if_neg hkk]
      exact .cons ⟨t', e1⟩ hh hv' ih
theorem IEnts.find {I : Mp} {es : List DictEntry} {kvs : List (Int × D)}  (h : IEnts I es kvs) {k : Int} {d : D} (hl : kvs.lookup k = some d) : ∃ v, findBy Value.isInt es.toArray k = some v ∧ Rep I v d := by
  induction h with
  | nil => cases hl
  | @cons e es k' d' kvs hk hh hv' r ih =>
    obtain ⟨t', e1⟩ := hk
    have hb : Value.isInt k e.key = decide (k' = k) := by rw [e1, Bool.eq_iff_iff]; simp [Value.isInt]
    rw [List.lookup_cons] at hl
    unfold findBy
    rw [List.find?_toArray, List.find?_cons, hb]
    by_cases hkk : k' = k
    · subst hkk
      rw [beq_self_eq_true] at hl; cases hl
      simp only [decide_true]
      exact ⟨_, rfl, hv'⟩
    · rw [beq_eq_false_iff_ne.mpr (Ne.symm hkk)] at hl
      simp only [decide_eq_false hkk]
      obtain ⟨v, h1, h2⟩ := ih hl
      unfold findBy at h1
      rw [List.find?_toArray] at h1
      exact ⟨v, h1, h2⟩

theorem DEnts.keys {I : Mp} {es : List DictEntry} {kvs : List (Str × D)} {prog : Program} {w : World} {hk₀ : Str → Int} (h : DEnts I hk₀ es kvs) (hE : hk₀ = hashStr w) : PySem.KeysOf (PySem.strKind prog w) es.toArray := by
  induction h with
  | nil => intro e he; cases he with | mk h => cases h
  | @cons e es k d kvs hk hh hv _ ih =>
    intro e' he'
    rw [List.mem_toArray] at he'
    rcases List.mem_cons.mp he' with rfl | he'
    · obtain ⟨t, e1⟩ := hk
      exact ⟨k, by rw [e1]; simp [PySem.strKind, Value.isStrOf], by rw [hh, hE]; rfl⟩
    · exact ih e' (List.mem_toArray.mpr he')
theorem DEnts.length {I : Mp} {es : List DictEntry} {kvs : List (Str × D)} {hk₀ : Str → Int} (h : DEnts I hk₀ es kvs) : es.length = kvs.length := by
  induction h with
  | nil => rfl
  | cons _ _ _ _ ih => rw [List.length_cons, List.length_cons, ih]
theorem DEnts.put {I : Mp} {es : List DictEntry} {kvs : List (Str × D)} {hk₀ : Str → Int} (h : DEnts I hk₀ es kvs) {k : Str} {t : Tok} {v : Value} {d : D} (hv : Rep I v d) :
    DEnts I hk₀ (putE (Value.isStrOf k) ⟨hk₀ k, .str k t, v⟩ es) (putKV kvs k d) := by
  induction h with
  | nil => exact .cons ⟨t, rfl⟩ rfl hv .nil
  | @cons e es k' d' kvs hk hh hv' r ih =>
    obtain ⟨t', e1⟩ := hk
    rw [putE, putKV]
    have hb : Value.isStrOf k e.key = decide (k' = k) := by rw [e1, Bool.eq_iff_iff]; simp [Value.isStrOf]
    rw [hb]
    by_cases hkk : k' = k
    · subst hkk
      simp only [decide_true, if_true]
      exact .cons ⟨t', e1⟩ hh hv r
    · simp only [decide_eq_false hkk, Bool.false_eq_true, if_false]
      rw [if_neg hkk]
      exact .cons ⟨t', e1⟩ hh hv' ih
theorem DEnts.find {I : Mp} {es : List DictEntry} {kvs : List (Str × D)} {hk₀ : Str → Int} (h : DEnts I hk₀ es kvs) {k : Str} {d : D} (hl : kvs.lookup k = some d) : ∃ v, findBy Value.isStrOf es.toArray k = some v ∧ Rep I v d := by
  induction h with
  | nil => cases hl
  | @cons e es k' d' kvs hk hh hv' r ih =>
    obtain ⟨t', e1⟩ := hk
    have hb : Value.isStrOf k e.key = decide (k' = k) := by rw [e1, Bool.eq_iff_iff]; simp [Value.isStrOf]
    rw [List.lookup_cons] at hl
    unfold findBy
    rw [List.find?_toArray, List.find?_cons, hb]
    by_cases hkk : k' = k
    · subst hkk
      rw [beq_self_eq_true] at hl; cases hl
      simp only [decide_true]
      exact ⟨_, rfl, hv'⟩
    · rw [beq_eq_false_iff_ne.mpr (Ne.symm hkk)] at hl
      simp only [decide_eq_false hkk]
      obtain ⟨v, h1, h2⟩ := ih hl
      unfold findBy at h1
      rw [List.find?_toArray] at h1
      exact ⟨v, h1, h2⟩

section
variable {c : Cx} {σ σ₁ σ₂ σ₃ : Sg} {fr : List (Addr × Obj)} {tmp : List (Value × Vl)} {h h' : Heap} {I : Mp} {ρ : List Addr} {m : Str → Option Value} {R : FD → Sg → Prop}
theorem StI.idictAt {v : Value} {i : Nat} {kvs : List (Int × D)} (S : StI c σ fr tmp h I ρ m) (hv : (v, .m i) ∈ tmp) (hm : σ.mu[i]? = some (.idict kvs)) :
    ∃ a es n, v = .ref a ∧ ρ[i]? = some a ∧ h.get? a = some (dobj es n) ∧ IEnts I es kvs := by
  obtain ⟨a, rfl, h1⟩ := (S.tmk _ hv).m_inv
  obtain ⟨⟨o, g, q⟩, _⟩ := S.mu i a _ h1 hm
  cases q with
  | idict q => exact ⟨a, _, _, rfl, h1, g, q⟩
theorem StI.sdictAt {v : Value} {i : Nat} {kvs : List (Str × D)} (S : StI c σ fr tmp h I ρ m) (hv : (v, .m i) ∈ tmp) (hm : σ.mu[i]? = some (.sdict kvs)) :
    ∃ a es n, v = .ref a ∧ ρ[i]? = some a ∧ h.get? a = some (dobj es n) ∧ DEnts I (hashStr c.w) es kvs := by
  obtain ⟨a, rfl, h1⟩ := (S.tmk _ hv).m_inv
  obtain ⟨⟨o, g, q⟩, _⟩ := S.mu i a _ h1 hm
  cases q with
  | sdict q => exact ⟨a, _, _, rfl, h1, g, q⟩
theorem HasT.idict {i : Nat} {kvs : List (Int × D)} (hm : σ.mu[i]? = some (.idict kvs)) : HasT c σ (.m i) "dict" := fun fr tm s v ⟨I, ρ, m, S⟩ hv => by
  obtain ⟨a, vs, n, rfl, _, g, _⟩ := S.idictAt hv hm
  exact ⟨⟨_, g, rfl⟩, fun _ e => by cases e; exact ⟨_, g, rfl⟩⟩
theorem HasT.sdict {i : Nat} {kvs : List (Str × D)} (hm : σ.mu[i]? = some (.sdict kvs)) : HasT c σ (.m i) "dict" := fun fr tm s v ⟨I, ρ, m, S⟩ hv => by
  obtain ⟨a, vs, n, rfl, _, g, _⟩ := S.sdictAt hv hm
  exact ⟨⟨_, g, rfl⟩, fun _ e => by cases e; exact ⟨_, g, rfl⟩⟩
theorem Ew.dictI {p : Pos} : Ew c σ (.Dict [] [] p) (.m σ.mu.length) { σ with mu := σ.mu ++ [.idict []] } := ⟨fun fr tm s Q E ht S hQ => by
  obtain ⟨I, ρ, m, S⟩ := S
  exact wpAny_Dict_empty (hQ _ _ _ ht ⟨_, _, m, S.allocMut (dobj [] 0) (.idict .nil)⟩)⟩
theorem Ew.dictS {p : Pos} : Ew c σ (.Dict [] [] p) (.m σ.mu.length) { σ with mu := σ.mu ++ [.sdict []] } := ⟨fun fr tm s Q E ht S hQ => by
  obtain ⟨I, ρ, m, S⟩ := S
  exact wpAny_Dict_empty (hQ _ _ _ ht ⟨_, _, m, S.allocMut (dobj [] 0) (.sdict .nil)⟩)⟩
theorem WX.setI {o i value : Expr} {spos pos : Pos} {k : Nat} {j : Int} {kvs : List (Int × D)} {y : D} (h1 : Ew c σ value (.d y) σ₁) (h2 : Ew c σ₁ o (.m k) σ₂) (h3 : Ew c σ₂ i (.d (.int j)) σ₃) (hm : σ₃.mu[k]? = some (.idict kvs)) (hlen : kvs.length ≤ 1000000) (hr : R .next { σ₃ with mu := σ₃.mu.set k (.idict (putKV kvs j y)) }) (hs : swapsWith value (some (.Subscript o i spos)) pos.line c.env = pure false := by rfl) : WX c σ (.Assign [.Subscript o i spos] value pos) R := ⟨fun fr tm s Q E ht S hQ => by
  refine wpAny_Assign_Subscript (h1.run fr (dt tm) s _ E ht S fun v h' tk ht S1 => h2.run fr _ _ _ E ht S1 fun ov _ tk2 ht S2 => h3.run fr _ _ _ E ht S2 fun iv _ tk3 ht S3 => ?_) hs
  obtain ⟨t, rfl⟩ := S3.int (.head _)
  obtain ⟨I, ρ, m, S3⟩ := S3
  obtain ⟨ad, es, n, rfl, hi1, g, r⟩ := S3.idictAt (.tail _ (.head _)) hm
  refine setItem_dobj (knd := PySem.intKind c.prog c.w) (k := j) (by simp [PySem.intKind, Value.isInt]) g r.keys (by rw [r.length, sizeLine_eq]; omega) fun h5 n5 g5 hs5 => ?_
  refine hQ .next .next _ h5 _ (by show 1 ≤ tk3 + 1; omega) hr ⟨I, ρ, m, ?_⟩
  exact (S3.sub fun _ hp => .tail _ (.tail _ (.tail _ hp))).setMu hi1 hm (by simp) g5 hs5 (.idict (r.put (S3.tmk _ (.tail _ (.tail _ (.head _)))).d_inv))⟩
theorem WX.setS {o i value : Expr} {spos pos : Pos} {k : Nat} {x : Str} {kvs : List (Str × D)} {y : D} (h1 : Ew c σ value (.d y) σ₁) (h2 : Ew c σ₁ o (.m k) σ₂) (h3 : Ew c σ₂ i (.d (.str x)) σ₃) (hm : σ₃.mu[k]? = some (.sdict kvs)) (hlen : kvs.length ≤ 1000000) (hr : R .next { σ₃ with mu := σ₃.mu.set k (.sdict (putKV kvs x y)) }) (hs : swapsWith value (some (.Subscript o i spos)) pos.line c.env = pure false := by rfl) : WX c σ (.Assign [.Subscript o i spos] value pos) R := ⟨fun fr tm s Q E ht S hQ => by
  refine wpAny_Assign_Subscript (h1.run fr (dt tm) s _ E ht S fun v h' tk ht S1 => h2.run fr _ _ _ E ht S1 fun ov _ tk2 ht S2 => h3.run fr _ _ _ E ht S2 fun iv _ tk3 ht S3 => ?_) hs
  obtain ⟨t, rfl⟩ := S3.str (.head _)
  obtain ⟨I, ρ, m, S3⟩ := S3
  obtain ⟨ad, es, n, rfl, hi1, g, r⟩ := S3.sdictAt (.tail _ (.head _)) hm
  refine setItem_dobj (knd := PySem.strKind c.prog c.w) (k := x) (by simp [PySem.strKind, Value.isStrOf]) g (r.keys rfl) (by rw [r.length, sizeLine_eq]; omega) fun h5 n5 g5 hs5 => ?_
  refine hQ .next .next _ h5 _ (by show 1 ≤ tk3 + 1; omega) hr ⟨I, ρ, m, ?_⟩
  exact (S3.sub fun _ hp => .tail _ (.tail _ (.tail _ hp))).setMu hi1 hm (by simp) g5 hs5 (.sdict (r.put (S3.tmk _ (.tail _ (.tail _ (.head _)))).d_inv))⟩
theorem Op2.get_idict {kvs : List (Int × D)} {k : Nat} {j : Int} {d : D} (hm : σ.mu[k]? = some (.idict kvs)) (hd : kvs.lookup j = some d) : Op2 c σ (.m k) (.d (.int j)) getItem (.d d) σ := fun v w => Cm.mk fun fr tm s Q E ht S hQ => by
  obtain ⟨t, rfl⟩ := S.int (.head _)
  obtain ⟨I, ρ, m, S⟩ := S
  obtain ⟨a, es, n, rfl, _, g, r⟩ := S.idictAt (.tail _ (.head _)) hm
  obtain ⟨v, hv, hr⟩ := r.find hd
  exact wpAny_getItem_of (knd := PySem.intKind c.prog c.w) (k := j) (by simp [PySem.intKind, Value.isInt]) ⟨_, es.toArray, n, g, ⟨rfl, rfl, rfl⟩, rfl, r.keys, fun _ => rfl⟩ hv (hQ _ s.heap _ ⟨I, ρ, m, (S.sub fun _ hp => .tail _ (.tail _ hp)).push (.d hr)⟩)
theorem Op2.get_sdict {kvs : List (Str × D)} {k : Nat} {x : Str} {d : D} (hm : σ.mu[k]? = some (.sdict kvs)) (hd : kvs.lookup x = some d) : Op2 c σ (.m k) (.d (.str x)) getItem (.d d) σ := fun v w => Cm.mk fun fr tm s Q E ht S hQ => by
  obtain ⟨t, rfl⟩ := S.str (.head _)
  obtain ⟨I, ρ, m, S⟩ := S
  obtain ⟨a, es, n, rfl, _, g, r⟩ := S.sdictAt (.tail _ (.head _)) hm
  obtain ⟨v, hv, hr⟩ := r.find hd
  exact wpAny_getItem_of (knd := PySem.strKind c.prog c.w) (k := x) (by simp [PySem.strKind, Value.isStrOf]) ⟨_, es.toArray, n, g, ⟨rfl, rfl, rfl⟩, rfl, (r.keys rfl), fun _ => rfl⟩ hv (hQ _ s.heap _ ⟨I, ρ, m, (S.sub fun _ hp => .tail _ (.tail _ hp)).push (.d hr)⟩)
theorem Op2.sub_idict {value slice : Expr} {kvs : List (Int × D)} {k : Nat} {j : Int} {d : D} (hm : σ.mu[k]? = some (.idict kvs)) (hd : kvs.lookup j = some d) (hs : ∀ o i, subscripted slice false o i = operate [o, i] (getItem o i) := by intro _ _; rfl) :
    Op2 c σ (.m k) (.d (.int j)) (subscriptTail value slice) (.d d) σ := Op2.tail (HasT.idict hm) slot_dict_getitem.lookup (Op2.get_idict hm hd) hs
theorem Op2.sub_sdict {value slice : Expr} {kvs : List (Str × D)} {k : Nat} {x : Str} {d : D} (hm : σ.mu[k]? = some (.sdict kvs)) (hd : kvs.lookup x = some d) (hs : ∀ o i, subscripted slice false o i = operate [o, i] (getItem o i) := by intro _ _; rfl) :
    Op2 c σ (.m k) (.d (.str x)) (subscriptTail value slice) (.d d) σ := Op2.tail (HasT.sdict hm) slot_dict_getitem.lookup (Op2.get_sdict hm hd) hs

/-! ### dicts that stay -/
theorem KV.find {I : Mp} {kvsV : List (Str × Value)} {kvs : List (Str × D)} (h : KV I kvsV kvs) (x : Str) : (valueAt kvsV x = none ∧ kvs.lookup x = none) ∨ ∃ v d, valueAt kvsV x = some v ∧ kvs.lookup x = some d ∧ Rep I v d := by
  induction kvsV generalizing kvs with
  | nil => cases h; exact .inl ⟨rfl, rfl⟩
  | cons kv r ih =>
    cases h with
    | @cons k v d _ r' hv hr =>
      rw [List.lookup_cons]
      unfold valueAt
      rw [List.find?_cons]
      by_cases hk : k = x
      · subst hk
        simp only [decide_true, beq_self_eq_true]
        exact .inr ⟨v, d, rfl, rfl, hv⟩
      · simp only [decide_eq_false hk, beq_eq_false_iff_ne.mpr (Ne.symm hk)]
        exact ih hr
end
end Mine
end TR5

section TR6
open PySem PySem.W PySem.Calls PyProof.Rows
set_option autoImplicit false
set_option linter.unusedVariables false
set_option Elab.async false
namespace Mine

/-! ### the model's equality, of plain data -/
noncomputable abbrev EqV (A : Around) (s : Shared) (v w : Value) (b : Bool) : Prop := SeqAt.EqAt A s v w b
noncomputable def isIntV (x : Int) : Value → Bool
  | .int y _ => y == x
  | _ => false
noncomputable def isStrV (x : Str) : Value → Bool
  | .str y _ => y == x
  | _ => false
/-- the trees of the law: a tree as data -/
inductive Sh where
  | leaf (n : Int)
  | node (g : Int) (l r : Sh)
noncomputable def Sh.d : Sh → D
  | .leaf n => .int n
  | .node g l r => .tup [.int g, l.d, r.d]
noncomputable def Sh.py : Sh → PyData
  | .leaf n => .int n
  | .node g l r => .tuple [.int g, l.py, r.py]
noncomputable def Sh.eqb : Sh → Sh → Bool
  | .leaf a, .leaf b => a == b
  | .node g l r, .node g' l' r' => g == g' && (l.eqb l' && r.eqb r')
  | _, _ => false
noncomputable def Sh.depth : Sh → Nat
  | .leaf _ => 0
  | .node _ l r => max l.depth r.depth + 1
theorem Sh.py_depth : ∀ s : Sh, s.py.depth = s.depth
  | .leaf n => by simp [Sh.py, Sh.depth, PyData.depth]
  | .node g l r => by
    have h1 := Sh.py_depth l
    have h2 := Sh.py_depth r
    simp [Sh.py, Sh.depth, PyData.depth, PyData.depthAll, h1, h2]
theorem Sh.py_lay : ∀ s : Sh, s.py.canLay0 = true
  | .leaf n => by simp [Sh.py, PyData.canLay0]
  | .node g l r => by
    have h1 := Sh.py_lay l
    have h2 := Sh.py_lay r
    simp [Sh.py, PyData.canLay0, PyData.canLayAll0, h1, h2]
theorem Sh.py_eqv : ∀ a b : Sh, PyData.eqv a.py b.py = a.eqb b
  | .leaf a, .leaf b => by simp [Sh.py, PyData.eqv, Sh.eqb]
  | .leaf a, .node _ _ _ => by simp [Sh.py, PyData.eqv, Sh.eqb]
  | .node _ _ _, .leaf a => by simp [Sh.py, PyData.eqv, Sh.eqb]
  | .node g l r, .node g' l' r' => by
    have h1 := Sh.py_eqv l l'
    have h2 := Sh.py_eqv r r'
    simp [Sh.py, PyData.eqv, PyData.eqvAll, Sh.eqb, h1, h2]
theorem Sh.reads {h : Heap} {I : Mp} (hI : Sub I h.get?) : ∀ {s : Sh} {v : Value}, Rep I v s.d → ∃ as, Reads h v s.py as
  | .leaf n, v, r => by
    obtain ⟨t, rfl⟩ := r.int_inv
    exact ⟨[], .int n t⟩
  | .node g l r, v, hr => by
    obtain ⟨a, vs, n, rfl, h1, rs⟩ := hr.tup_inv
    cases rs with
    | cons r1 rs =>
      cases rs with
      | cons r2 rs =>
        cases rs with
        | cons r3 rs =>
          cases rs
          obtain ⟨t, rfl⟩ := r1.int_inv
          obtain ⟨a2, q2⟩ := Sh.reads hI r2
          obtain ⟨a3, q3⟩ := Sh.reads hI r3
          exact ⟨_, .tuple (hI _ _ h1) rfl rfl (.cons (.int g t) (.cons q2 (.cons q3 .nil)))⟩
noncomputable def Sh.pys (L : List Sh) : List PyData := L.map Sh.py
theorem Sh.readsAll {h : Heap} {I : Mp} (hI : Sub I h.get?) : ∀ {L : List Sh} {vs : List Value}, Reps I vs (L.map Sh.d) → ∃ as, ReadsAll h vs (L.map Sh.py) as
  | [], vs, r => by cases r; exact ⟨[], .nil⟩
  | x :: L, vs, r => by
    cases r with
    | cons r1 rs =>
      obtain ⟨a1, q1⟩ := Sh.reads hI r1
      obtain ⟨a2, q2⟩ := Sh.readsAll hI rs
      exact ⟨_, .cons q1 q2⟩
theorem Sh.pys_lay : ∀ L : List Sh, PyData.canLayAll0 (L.map Sh.py) = true
  | [] => by simp [PyData.canLayAll0]
  | x :: L => by simp [PyData.canLayAll0, Sh.py_lay, Sh.pys_lay L]

/-- items and what is sought: one function of the values says which are equal -/
noncomputable def EqAll (A : Around) (s : Shared) (vs : List Value) (x : Value) (e : Value → Bool) : Prop := ∀ y ∈ vs, EqV A s y x (e y)
theorem EqAll.ints {A : Around} {s : Shared} {I : Mp} {x : Int} {t : Tok} : ∀ {L : List Int} {vs : List Value}, Reps I vs (L.map .int) → EqAll A s vs (.int x t) (isIntV x) ∧ vs.map (isIntV x) = L.map (· == x)
  | [], vs, r => by cases r; exact ⟨fun _ h => (nomatch h), rfl⟩
  | y :: L, vs, r => by
    cases r with
    | cons r1 rs =>
      obtain ⟨u, rfl⟩ := r1.int_inv
      obtain ⟨h1, h2⟩ := EqAll.ints (A := A) (s := s) (x := x) (t := t) rs
      refine ⟨fun z hz => ?_, by rw [List.map_cons, List.map_cons, h2]; rfl⟩
      rcases List.mem_cons.mp hz with rfl | hz
      · exact SeqAt.EqAt.int_int y u x t
      · exact h1 z hz
theorem EqAll.strs {A : Around} {s : Shared} {I : Mp} {x : Str} {t : Tok} : ∀ {L : List Str} {vs : List Value}, Reps I vs (L.map .str) → EqAll A s vs (.str x t) (isStrV x) ∧ vs.map (isStrV x) = L.map (· == x)
  | [], vs, r => by cases r; exact ⟨fun _ h => (nomatch h), rfl⟩
  | y :: L, vs, r => by
    cases r with
    | cons r1 rs =>
      obtain ⟨u, rfl⟩ := r1.str_inv
      obtain ⟨h1, h2⟩ := EqAll.strs (A := A) (s := s) (x := x) (t := t) rs
      refine ⟨fun z hz => ?_, by rw [List.map_cons, List.map_cons, h2]; rfl⟩
      rcases List.mem_cons.mp hz with rfl | hz
      · exact SeqAt.EqAt.str_str y u x t
      · exact h1 z hz
theorem EqAll.shs {A : Around} {s : Shared} {I : Mp} (hI : Sub I s.heap.get?) {x : Sh} {v : Value} (hv : Rep I v x.d) (hx : x.depth ≤ 60) (hu : A.units + 64 < cLine) {L : List Sh} {vs : List Value} (r : Reps I vs (L.map Sh.d)) :
    EqAll A s vs v (fun y => PyData.eqv (SeqAt.readOf s.heap y) x.py) ∧ vs.map (fun y => PyData.eqv (SeqAt.readOf s.heap y) x.py) = L.map (fun y => y.eqb x) := by
  obtain ⟨as, q⟩ := Sh.readsAll hI r
  obtain ⟨bs, qx⟩ := Sh.reads hI hv
  refine ⟨fun y hy => ?_, ?_⟩
  · obtain ⟨dy, cs, ry, hcy, hle⟩ := SeqAt.readsAll_mem _ _ _ (Sh.pys_lay L) q y hy
    show EqV A s y v ((SeqAt.readOf s.heap y).eqv x.py)
    rw [SeqAt.readOf_eq hcy ry]
    refine SeqAt.eqAt_reads dy x.py A s y v _ _ ry qx hcy (Sh.py_lay x) ?_
    have := Nat.min_le_right dy.depth x.py.depth
    rw [Sh.py_depth] at this ⊢
    omega
  · have := SeqAt.readsAll_map _ _ _ (Sh.pys_lay L) q
    show List.map ((fun d => PyData.eqv d x.py) ∘ SeqAt.readOf s.heap) vs = _
    rw [← List.map_map, this, List.map_map]
    exact List.map_congr_left fun y _ => Sh.py_eqv y x

theorem findIdx_map {α : Type} (p : α → Bool) : ∀ (l : List α), l.findIdx p = (l.map p).findIdx id
  | [] => rfl
  | a :: l => by rw [List.map_cons, List.findIdx_cons, List.findIdx_cons, findIdx_map p l]; rfl
theorem countP_map' {α : Type} (p : α → Bool) : ∀ (l : List α), l.countP p = (l.map p).countP id
  | [] => rfl
  | a :: l => by rw [List.map_cons, List.countP_cons, List.countP_cons, countP_map' p l]; rfl

section
variable {c : Cx} {σ σ₁ σ₂ σ₃ : Sg} {fr : List (Addr × Obj)} {tmp : List (Value × Vl)} {h h' : Heap} {I : Mp} {ρ : List Addr} {m : Str → Option Value} {R : FD → Sg → Prop}

theorem count_core {A : Around} {prog : Program} {w : World} {s : Shared} {Q : Value → Shared → Prop} {E : Value → Shared → Prop} {a : Addr} {vs : List Value} {n : Nat} {x : Value} {e : Value → Bool} (g : s.heap.get? a = some (lobj vs n))
    (he : EqAll A.in1 s vs x e) (hQ : Q (.int ((vs.map e).countP id : Nat) s.toks) { s with toks := s.toks + 1 }) : wpAny (model prog w) A (call (.builtin "list.count") [.ref a, x]) Q E s :=
  call_meets F.slot_list_count ⟨_, g, rfl⟩ F.entry_list_count (F.args_list_count_2 _ _) (SeqAt.list_countAt a vs.toArray n none #[] x e)
    ⟨g, fun y hy => he y (by simpa using hy), by rw [← countP_map'] at hQ; exact hQ⟩
theorem index_core {A : Around} {prog : Program} {w : World} {s : Shared} {Q : Value → Shared → Prop} {E : Value → Shared → Prop} {a : Addr} {vs : List Value} {n : Nat} {x : Value} {e : Value → Bool} (g : s.heap.get? a = some (lobj vs n))
    (he : EqAll A.in1 s vs x e) {j : Nat} (hj : (vs.map e).findIdx id = j) (hlt : j < vs.length) (hsm : vs.length ≤ 1000000) (hQ : Q (.int j s.toks) { s with toks := s.toks + 1 }) :
    wpAny (model prog w) A (call (.builtin "list.index") [.ref a, x]) Q E s := by
  rw [← findIdx_map] at hj
  have h1 : e vs[j] = true := by subst hj; exact List.findIdx_getElem (w := hlt)
  have h2 : ∀ i (hi : i < vs.length), i < j → e vs[i] = false := fun i hi hij => by
    have := List.not_of_lt_findIdx (hj ▸ hij)
    simpa using this
  exact call_meets F.slot_list_index ⟨_, g, rfl⟩ F.entry_list_index (F.args_list_index_2 _ _) (SeqAt.list_indexAt a vs.toArray n none #[] x e j (by simpa using hlt) (by first | decide | omega) (by simpa using h1) (fun i hi hij => by simpa using h2 i (by simpa using hi) hij))
    ⟨g, fun y hy => he y (by simpa using hy), hQ⟩

theorem OpN.count_int {L : List Int} {x : Int} : OpN c σ (.d (.lst (L.map .int))) [.d (.int x)] (fun ov vs => PySem.call (.builtin "list.count") (ov :: vs)) (.d (.int (L.countP (· == x)))) σ := fun v vs hl => by
  revert vs
  refine vs1 fun y => ?_
  next =>
    refine Cm.mk fun fr tm s Q E ht S hQ => ?_
    obtain ⟨t, rfl⟩ := S.int (.head _)
    obtain ⟨I, ρ, m, S⟩ := S
    obtain ⟨a, ws, n, rfl, h1, g, r⟩ := S.lstAt (.tail _ (.head _))
    obtain ⟨e1, e2⟩ := EqAll.ints (A := c.A.in1) (s := s) (x := x) (t := t) r
    refine count_core g e1 ?_
    rw [e2, ← countP_map']
    exact hQ _ s.heap _ ⟨I, ρ, m, (S.sub fun _ hp => .tail _ (.tail _ hp)).push (.d (.int _ _))⟩
theorem OpN.count_str {L : List Str} {x : Str} : OpN c σ (.d (.lst (L.map .str))) [.d (.str x)] (fun ov vs => PySem.call (.builtin "list.count") (ov :: vs)) (.d (.int (L.countP (· == x)))) σ := fun v vs hl => by
  revert vs
  refine vs1 fun y => ?_
  next =>
    refine Cm.mk fun fr tm s Q E ht S hQ => ?_
    obtain ⟨t, rfl⟩ := S.str (.head _)
    obtain ⟨I, ρ, m, S⟩ := S
    obtain ⟨a, ws, n, rfl, h1, g, r⟩ := S.lstAt (.tail _ (.head _))
    obtain ⟨e1, e2⟩ := EqAll.strs (A := c.A.in1) (s := s) (x := x) (t := t) r
    refine count_core g e1 ?_
    rw [e2, ← countP_map']
    exact hQ _ s.heap _ ⟨I, ρ, m, (S.sub fun _ hp => .tail _ (.tail _ hp)).push (.d (.int _ _))⟩
theorem OpN.index_int {L : List Int} {x : Int} (hlt : L.findIdx (· == x) < L.length) (hsm : L.length ≤ 1000000) :
    OpN c σ (.d (.lst (L.map .int))) [.d (.int x)] (fun ov vs => PySem.call (.builtin "list.index") (ov :: vs)) (.d (.int (L.findIdx (· == x)))) σ := fun v vs hl => by
  revert vs
  refine vs1 fun y => ?_
  next =>
    refine Cm.mk fun fr tm s Q E ht S hQ => ?_
    obtain ⟨t, rfl⟩ := S.int (.head _)
    obtain ⟨I, ρ, m, S⟩ := S
    obtain ⟨a, ws, n, rfl, h1, g, r⟩ := S.lstAt (.tail _ (.head _))
    have hlen := r.length
    rw [List.length_map] at hlen
    obtain ⟨e1, e2⟩ := EqAll.ints (A := c.A.in1) (s := s) (x := x) (t := t) r
    exact index_core g e1 (by rw [e2, ← findIdx_map]) (by first | decide | omega) (by first | decide | omega) (hQ _ s.heap _ ⟨I, ρ, m, (S.sub fun _ hp => .tail _ (.tail _ hp)).push (.d (.int _ _))⟩)
theorem OpN.index_str {L : List Str} {x : Str} (hlt : L.findIdx (· == x) < L.length) (hsm : L.length ≤ 1000000) :
    OpN c σ (.d (.lst (L.map .str))) [.d (.str x)] (fun ov vs => PySem.call (.builtin "list.index") (ov :: vs)) (.d (.int (L.findIdx (· == x)))) σ := fun v vs hl => by
  revert vs
  refine vs1 fun y => ?_
  next =>
    refine Cm.mk fun fr tm s Q E ht S hQ => ?_
    obtain ⟨t, rfl⟩ := S.str (.head _)
    obtain ⟨I, ρ, m, S⟩ := S
    obtain ⟨a, ws, n, rfl, h1, g, r⟩ := S.lstAt (.tail _ (.head _))
    have hlen := r.length
    rw [List.length_map] at hlen
    obtain ⟨e1, e2⟩ := EqAll.strs (A := c.A.in1) (s := s) (x := x) (t := t) r
    exact index_core g e1 (by rw [e2, ← findIdx_map]) (by first | decide | omega) (by first | decide | omega) (hQ _ s.heap _ ⟨I, ρ, m, (S.sub fun _ hp => .tail _ (.tail _ hp)).push (.d (.int _ _))⟩)
theorem OpN.index_sh {L : List Sh} {x : Sh} (hr : Room c.A 30) (hx : x.depth ≤ 60) (hlt : L.findIdx (·.eqb x) < L.length) (hsm : L.length ≤ 1000000) :
    OpN c σ (.d (.lst (L.map Sh.d))) [.d x.d] (fun ov vs => PySem.call (.builtin "list.index") (ov :: vs)) (.d (.int (L.findIdx (·.eqb x)))) σ := fun v vs hl => by
  revert vs
  refine vs1 fun y => ?_
  next =>
    refine Cm.mk fun fr tm s Q E ht S hQ => ?_
    obtain ⟨I, ρ, m, S⟩ := S
    have hy := (S.tmk _ (.head _)).d_inv
    obtain ⟨a, ws, n, rfl, h1, g, r⟩ := S.lstAt (.tail _ (.head _))
    have hlen := r.length
    rw [List.length_map] at hlen
    obtain ⟨e1, e2⟩ := EqAll.shs (A := c.A.in1) (s := s) S.imm hy hx (by have := hr.units; show c.A.units + 1 + 64 < cLine; omega) r
    exact index_core g e1 (by rw [e2, ← findIdx_map]) (by first | decide | omega) (by first | decide | omega) (hQ _ s.heap _ ⟨I, ρ, m, (S.sub fun _ hp => .tail _ (.tail _ hp)).push (.d (.int _ _))⟩)

/-! ### lists that change -/
theorem OpN.append {k : Nat} {xs : List Vl} {x : Vl} (hm : σ.mu[k]? = some (.list xs)) (hsm : xs.length ≤ 1000000) :
    OpN c σ (.m k) [x] (fun ov vs => PySem.call (.builtin "list.append") (ov :: vs)) (.d .none) { σ with mu := σ.mu.set k (.list (xs ++ [x])) } := fun v vs hl => by
  revert vs
  refine vs1 fun y => ?_
  next =>
    refine Cm.mk fun fr tm s Q E ht S hQ => ?_
    obtain ⟨I, ρ, m, S⟩ := S
    have hy := S.tmk _ (.head _)
    obtain ⟨a, ws, n, rfl, h1, g, r⟩ := S.mutAt (.tail _ (.head _)) hm
    refine wpAny_list_append_plain (items := ws.toArray) ⟨n, g⟩ (fun h₄ ⟨n4, g4⟩ hs4 => ?_) (by rw [List.size_toArray, r.length, sizeLine_eq]; omega)
    have g4' : h₄.get? a = some (lobj (ws ++ [y]) n4) := by rw [g4]; simp [lobj]
    exact hQ _ h₄ s.toks ⟨I, ρ, m, ((S.setMu h1 hm (by simp) g4' hs4 (.list (r.append (.cons hy .nil)))).sub fun _ hp => .tail _ (.tail _ hp)).push (.d .none)⟩
theorem OpN.extend {k : Nat} {xs : List Vl} {ds : List D} (hm : σ.mu[k]? = some (.list xs)) (hsm : xs.length + ds.length ≤ 1000000) :
    OpN c σ (.m k) [.d (.lst ds)] (fun ov vs => PySem.call (.builtin "list.extend") (ov :: vs)) (.d .none) { σ with mu := σ.mu.set k (.list (xs ++ ds.map .d)) } := fun v vs hl => by
  revert vs
  refine vs1 fun y => ?_
  next =>
    refine Cm.mk fun fr tm s Q E ht S hQ => ?_
    obtain ⟨I, ρ, m, S⟩ := S
    obtain ⟨b, us, k2, rfl, hb, gb, rb⟩ := S.lstAt (.head _)
    obtain ⟨a, ws, n, rfl, h1, g, r⟩ := S.mutAt (.tail _ (.head _)) hm
    have l1 := r.length
    have l2 := rb.length
    refine call_meets F.slot_list_extend ⟨_, g, rfl⟩ F.entry_list_extend (F.args_list_extend_2 _ _) (AutoSeq1.list_extend_list_list_0 a ws.toArray n b us.toArray k2 ?_ (by rw [List.size_toArray, sizeLine_eq]; omega) (by rw [List.size_toArray, List.size_toArray, sizeLine_eq]; omega)) ⟨g, gb, ?_⟩
    · have : Builtin.List.listTooLong (ws.toArray.size + us.toArray.size) = false := by
        unfold Builtin.List.listTooLong
        rw [List.size_toArray, List.size_toArray]
        exact decide_eq_false (by rw [sizeLine_eq]; omega)
      rw [this]; simp
    · obtain ⟨n', g4⟩ : ∃ n', (s.heap.update a (Obj.mapSeq fun x => x ++ us.toArray)).get? a = some (lobj (ws ++ us) n') := by
        rw [Heap.get?_update_self _ g rfl]
        simp only [lobj, Obj.mapSeq, List.append_toArray]
        exact ⟨_, rfl⟩
      exact hQ _ _ s.toks ⟨I, ρ, m, ((S.setMu h1 hm (by simp) g4 (Heap.SameBut.update ..) (.list (r.append (RepVs.ofReps rb)))).sub fun _ hp => .tail _ (.tail _ hp)).push (.d .none)⟩
theorem OpN.pop {k : Nat} {xs : List Vl} {x : Vl} (hm : σ.mu[k]? = some (.list (xs ++ [x]))) (hsm : xs.length ≤ 1000000) :
    OpN c σ (.m k) [] (fun ov vs => PySem.call (.builtin "list.pop") (ov :: vs)) x { σ with mu := σ.mu.set k (.list xs) } := fun v vs hl => by
  match vs, hl with
  | [], _ =>
    refine Cm.mk fun fr tm s Q E ht S hQ => ?_
    obtain ⟨I, ρ, m, S⟩ := S
    obtain ⟨a, ws, n, rfl, h1, g, r⟩ := S.mutAt (.head _) hm
    have l1 := r.length
    rw [List.length_append, List.length_singleton] at l1
    obtain ⟨u, hu, hru⟩ := r.get (k := xs.length) (x := x) (by simp)
    have hsz : ws.toArray.size - 1 = xs.length := by rw [List.size_toArray]; omega
    refine call_meets F.slot_list_pop ⟨_, g, rfl⟩ F.entry_list_pop (F.args_list_pop_1 _) (MeetsSeq.list_pop_last a ws.toArray n u (by rw [hsz, List.getElem?_toArray]; exact hu) (by rw [List.size_toArray, sizeLine_eq]; omega)) ⟨g, ?_⟩
    obtain ⟨n', g4⟩ : ∃ n', (s.heap.update a (Obj.mapSeq fun xs => xs.eraseIdxIfInBounds (ws.toArray.size - 1))).get? a = some (lobj (ws.take xs.length) n') := by
      rw [Heap.get?_update_self _ g rfl, hsz]
      simp only [lobj, Obj.mapSeq, List.eraseIdxIfInBounds_toArray]
      have e : ws.eraseIdx xs.length = ws.take xs.length := by rw [List.eraseIdx_eq_take_drop_succ, List.drop_of_length_le (by first | decide | omega), List.append_nil]
      rw [e]
      exact ⟨_, rfl⟩
    have r' : RepVs I ρ (ws.take xs.length) xs := by have := r.take xs.length; simpa using this
    exact hQ _ _ s.toks ⟨I, ρ, m, ((S.setMu h1 hm (by simp) g4 (Heap.SameBut.update ..) (.list r')).sub fun _ hp => .tail _ hp).push hru⟩
end
end Mine
end TR6

section TR7
open PySem PySem.W PySem.Calls PyProof.Rows
set_option autoImplicit false
set_option linter.unusedVariables false
set_option Elab.async false
namespace Mine

section
variable {c : Cx} {σ σ₁ σ₂ σ₃ : Sg} {fr : List (Addr × Obj)} {tmp : List (Value × Vl)} {h h' : Heap} {I : Mp} {ρ : List Addr} {m : Str → Option Value} {R : FD → Sg → Prop}

/-! ### built-in functions -/
theorem fn_len_lst {ds : List D} (hs : ds.length ≤ 1000000) : FnOk c (.builtin "len") [.lst ds] (.int ds.length) := FnOk.imm fun I s vs Q E ht hB hI hv hQ => by
  cases hv with
  | cons hv h0 =>
    cases h0
    obtain ⟨a, ws, n, rfl, h1, r⟩ := hv.lst_inv
    have hl := r.length
    refine call_len_list (lobj_isList (hI _ _ h1)) (by rw [List.size_toArray]; omega) ?_
    rw [List.size_toArray, hl]
    exact hQ _ s.heap _ (Sub.refl _) fun _ => .int _ _
theorem fn_len_str {x : Str} (hs : x.length ≤ 1000000) : FnOk c (.builtin "len") [.str x] (.int x.length) := FnOk.imm fun I s vs Q E ht hB hI hv hQ => by
  cases hv with
  | cons hv h0 =>
    cases h0
    obtain ⟨t, rfl⟩ := hv.str_inv
    refine call_len_gives (PySem.typeIs_str s x t) F.slot_str_len F.entry_str_len (F.args_str_len_1 _) (gives_str_len x t) (by first | decide | omega) (by first | decide | omega) ?_
    exact hQ _ s.heap _ (Sub.refl _) fun _ => .int _ _
theorem fn_ord {ch : Nat} : FnOk c (.builtin "ord") [.str ⟨#[ch]⟩] (.int ch) := FnOk.imm fun I s vs Q E ht hB hI hv hQ => by
  cases hv with
  | cons hv h0 =>
    cases h0
    obtain ⟨t, rfl⟩ := hv.str_inv
    exact PySem.P.ord_of_char (hQ _ s.heap _ (Sub.refl _) fun _ => .int _ _)
theorem fn_chr {i : Int} (h0 : 0 ≤ i) (h1 : i ≤ 1000) : FnOk c (.builtin "chr") [.int i] (.str ⟨#[i.toNat]⟩) := FnOk.imm fun I s vs Q E ht hB hI hv hQ => by
  cases hv with
  | cons hv hn =>
    cases hn
    obtain ⟨t, rfl⟩ := hv.int_inv
    refine PySem.P.chr_of_int ?_ (hQ _ s.heap _ (Sub.refl _) fun _ => .str _ _)
    rw [Bool.or_eq_false_iff]
    exact ⟨decide_eq_false (by first | decide | omega), decide_eq_false (by first | decide | omega)⟩
theorem fn_isint_int {i : Int} : FnOk c (.builtin "isinstance") [.int i, .raw (.type "int")] (.bool true) := FnOk.imm fun I s vs Q E ht hB hI hv hQ => by
  cases hv with
  | cons hv hn => cases hn with | cons hw hn => cases hn; obtain ⟨t, rfl⟩ := hv.int_inv; rw [hw.raw_inv]; exact PySem.IsiPair.int_int (hQ _ s.heap _ (Sub.refl _) fun _ => .bool _)
theorem fn_istup_int {i : Int} : FnOk c (.builtin "isinstance") [.int i, .raw (.type "tuple")] (.bool false) := FnOk.imm fun I s vs Q E ht hB hI hv hQ => by
  cases hv with
  | cons hv hn => cases hn with | cons hw hn => cases hn; obtain ⟨t, rfl⟩ := hv.int_inv; rw [hw.raw_inv]; exact PySem.IsiPair.int_tuple (hQ _ s.heap _ (Sub.refl _) fun _ => .bool _)
theorem fn_isint_tup {ds : List D} : FnOk c (.builtin "isinstance") [.tup ds, .raw (.type "int")] (.bool false) := FnOk.imm fun I s vs Q E ht hB hI hv hQ => by
  cases hv with
  | cons hv hn => cases hn with | cons hw hn => cases hn; obtain ⟨a, ws, n, rfl, h1, r⟩ := hv.tup_inv; rw [hw.raw_inv]; exact PySem.IsiPair.tuple_int (hI _ _ h1) rfl (hQ _ s.heap _ (Sub.refl _) fun _ => .bool _)
theorem fn_istup_tup {ds : List D} : FnOk c (.builtin "isinstance") [.tup ds, .raw (.type "tuple")] (.bool true) := FnOk.imm fun I s vs Q E ht hB hI hv hQ => by
  cases hv with
  | cons hv hn => cases hn with | cons hw hn => cases hn; obtain ⟨a, ws, n, rfl, h1, r⟩ := hv.tup_inv; rw [hw.raw_inv]; exact PySem.IsiPair.tuple_tuple (hI _ _ h1) rfl (hQ _ s.heap _ (Sub.refl _) fun _ => .bool _)

/-! ### lists beside lists -/
theorem ne_core {prog : Program} {w : World} {A : Around} {s : Shared} {Q : Value → Shared → Prop} {E : Value → Shared → Prop} {a b : Addr} {vs us : List Value} {e : Nat → Bool} {r : Bool} (hl : s.heap.IsList a vs.toArray) (hb : s.heap.IsList b us.toArray) (hu : A.units < cLine)
    (he : ∀ j (h1 : j < vs.length) (h2 : j < us.length), EqV A.in1 s vs[j] us[j] (e j)) (hr : vs.length = us.length → (List.range vs.length).all e = !r) (hn : vs.length ≠ us.length → r = true) (hQ : Q (.bool r) s) :
    wpAny (model prog w) A (compareOp .NotEq (.ref a) (.ref b)) Q E s := by
  by_cases hlen : vs.length = us.length
  · refine SeqAt.RcNeAt.lists (e := e) hl hb (by simpa using hlen) hu (fun j h1 h2 => by simpa using he j (by simpa using h1) (by simpa using h2)) prog w E Q ?_
    rw [List.size_toArray, hr hlen, Bool.not_not]; exact hQ
  · exact SeqAt.RcNeAt.lists_lengths hl hb (by simpa using hlen) hu prog w E Q (hn hlen ▸ hQ)
theorem all_range_eq {α : Type} [BEq α] [LawfulBEq α] (a0 : α) {l m : List α} (h : l.length = m.length) : (List.range l.length).all (fun j => l.getD j a0 == m.getD j a0) = (l == m) := by
  rw [Bool.eq_iff_iff, beq_iff_eq, List.all_eq_true]
  constructor
  · intro q
    apply List.ext_getElem h
    intro i h1 h2
    have := q i (List.mem_range.mpr h1)
    simpa [List.getD_eq_getElem?_getD, h1, h2] using this
  · rintro rfl i hi
    exact beq_self_eq_true _
theorem Reps.getInt {I : Mp} {vs : List Value} {L : List Int} (r : Reps I vs (L.map .int)) {j : Nat} (h : j < vs.length) : ∃ t, vs[j] = .int (L.getD j 0) t := by
  obtain ⟨d, h1, h2⟩ := r.getV (List.getElem?_eq_getElem h)
  rw [List.getElem?_map] at h1
  obtain ⟨x, h3, rfl⟩ := Option.map_eq_some_iff.mp h1
  obtain ⟨t, e⟩ := h2.int_inv
  exact ⟨t, by rw [e, List.getD_eq_getElem?_getD, h3]; rfl⟩
theorem Reps.getStr {I : Mp} {vs : List Value} {L : List Str} (r : Reps I vs (L.map .str)) {j : Nat} (h : j < vs.length) : ∃ t, vs[j] = .str (L.getD j ⟨#[]⟩) t := by
  obtain ⟨d, h1, h2⟩ := r.getV (List.getElem?_eq_getElem h)
  rw [List.getElem?_map] at h1
  obtain ⟨x, h3, rfl⟩ := Option.map_eq_some_iff.mp h1
  obtain ⟨t, e⟩ := h2.str_inv
  exact ⟨t, by rw [e, List.getD_eq_getElem?_getD, h3]; rfl⟩
theorem Op2.ne_ints {L M : List Int} (hr : Room c.A 1) : Op2 c σ (.d (.lst (L.map .int))) (.d (.lst (M.map .int))) (compareOp .NotEq) (.d (.bool (L != M))) σ := fun v w => Cm.mk fun fr tm s Q E ht S hQ => by
  obtain ⟨I, ρ, m, S⟩ := S
  obtain ⟨b, us, k2, rfl, _, gb, rb⟩ := S.lstAt (.head _)
  obtain ⟨a, vs, k1, rfl, _, ga, ra⟩ := S.lstAt (.tail _ (.head _))
  have l1 := ra.length
  have l2 := rb.length
  rw [List.length_map] at l1 l2
  refine ne_core (lobj_isList ga) (lobj_isList gb) (by have := hr.units; omega) (e := fun j => L.getD j 0 == M.getD j 0) (fun j h1 h2 => ?_) (fun hl => ?_) (fun hl => ?_) (hQ _ s.heap s.toks ⟨I, ρ, m, (S.sub fun _ hp => .tail _ (.tail _ hp)).push (.d (.bool _))⟩)
  · obtain ⟨t, e1⟩ := ra.getInt h1
    obtain ⟨u, e2⟩ := rb.getInt h2
    rw [e1, e2]; exact SeqAt.EqAt.int_int _ t _ u
  · rw [l1, all_range_eq 0 (by first | decide | omega)]; simp [bne]
  · rw [bne_iff_ne]; rintro rfl; omega
theorem Op2.ne_strs {L M : List Str} (hr : Room c.A 1) : Op2 c σ (.d (.lst (L.map .str))) (.d (.lst (M.map .str))) (compareOp .NotEq) (.d (.bool (L != M))) σ := fun v w => Cm.mk fun fr tm s Q E ht S hQ => by
  obtain ⟨I, ρ, m, S⟩ := S
  obtain ⟨b, us, k2, rfl, _, gb, rb⟩ := S.lstAt (.head _)
  obtain ⟨a, vs, k1, rfl, _, ga, ra⟩ := S.lstAt (.tail _ (.head _))
  have l1 := ra.length
  have l2 := rb.length
  rw [List.length_map] at l1 l2
  refine ne_core (lobj_isList ga) (lobj_isList gb) (by have := hr.units; omega) (e := fun j => L.getD j ⟨#[]⟩ == M.getD j ⟨#[]⟩) (fun j h1 h2 => ?_) (fun hl => ?_) (fun hl => ?_) (hQ _ s.heap s.toks ⟨I, ρ, m, (S.sub fun _ hp => .tail _ (.tail _ hp)).push (.d (.bool _))⟩)
  · obtain ⟨t, e1⟩ := ra.getStr h1
    obtain ⟨u, e2⟩ := rb.getStr h2
    rw [e1, e2]; exact SeqAt.EqAt.str_str _ t _ u
  · rw [l1, all_range_eq (α := Str) ⟨#[]⟩ (by first | decide | omega)]; simp [bne]
  · rw [bne_iff_ne]; rintro rfl; omega
/-- an own list beside an empty one -/
theorem Op2.ne_empty {k : Nat} {xs : List Vl} (hr : Room c.A 1) (hm : σ.mu[k]? = some (.list xs)) : Op2 c σ (.m k) (.d (.lst [])) (compareOp .NotEq) (.d (.bool (!xs.isEmpty))) σ := fun v w => Cm.mk fun fr tm s Q E ht S hQ => by
  obtain ⟨I, ρ, m, S⟩ := S
  obtain ⟨b, us, k2, rfl, _, gb, rb⟩ := S.lstAt (.head _)
  obtain ⟨a, vs, k1, rfl, _, ga, ra⟩ := S.mutAt (.tail _ (.head _)) hm
  cases rb
  have l1 := ra.length
  refine ne_core (lobj_isList ga) (lobj_isList gb) (by have := hr.units; omega) (e := fun _ => true) (fun j h1 h2 => absurd h2 (Nat.not_lt_zero _)) (fun hl => ?_) (fun hl => ?_) (hQ _ s.heap s.toks ⟨I, ρ, m, (S.sub fun _ hp => .tail _ (.tail _ hp)).push (.d (.bool _))⟩)
  · have : xs = [] := List.length_eq_zero_iff.mp (by rw [← l1, hl]; rfl)
    subst this; simp
  · cases xs with
    | nil => exact absurd l1 hl
    | cons => rfl

/-! ### dicts that stay -/
theorem HasT.sd {pr : Program} {w : World} {kvs : List (Str × D)} : HasT c σ (.d (.sd pr w kvs)) "dict" := fun fr tm s v ⟨I, ρ, m, S⟩ hv => by
  obtain ⟨a, o, kvsV, rfl, h1, hns, h2, _⟩ := (S.tmk _ hv).d_inv.sd_inv
  exact ⟨⟨_, S.imm _ _ h1, h2.1.1⟩, fun _ e => by cases e; exact ⟨_, S.imm _ _ h1, h2.1.2.1⟩⟩
theorem SdObj.mapOf {pr : Program} {w : World} {o : Obj} {kvsV : List (Str × Value)} (h : SdObj pr w o kvsV) {hp : Heap} {a : Addr} (g : hp.get? a = some o) : hp.MapOf (PySem.strKind pr w) a (valueAt kvsV) := by
  obtain ⟨hx, es, ep, hd, hk, hp', hn⟩ := h
  exact Heap.DictOf.mapOf ⟨o, es, ep, g, hx, hd, hk, hp', hn⟩
theorem Op2.get_sd {kvs : List (Str × D)} {x : Str} {d : D} (hd : kvs.lookup x = some d) : Op2 c σ (.d (.sd c.prog c.w kvs)) (.d (.str x)) getItem (.d d) σ := fun v w => Cm.mk fun fr tm s Q E ht S hQ => by
  obtain ⟨t, rfl⟩ := S.str (.head _)
  obtain ⟨I, ρ, m, S⟩ := S
  obtain ⟨a, o, kvsV, rfl, h1, hns, h2, h3⟩ := (S.tmk _ (.tail _ (.head _))).d_inv.sd_inv
  rcases h3.find x with ⟨_, e⟩ | ⟨v, d', e1, e2, e3⟩
  · rw [hd] at e; cases e
  · rw [hd] at e2; cases e2
    exact wpAny_getItem_of (knd := PySem.strKind c.prog c.w) (k := x) (by simp [PySem.strKind, Value.isStrOf]) (h2.mapOf (S.imm _ _ h1)) e1 (hQ _ s.heap _ ⟨I, ρ, m, (S.sub fun _ hp => .tail _ (.tail _ hp)).push (.d e3)⟩)
theorem Op2.sub_sd {value slice : Expr} {kvs : List (Str × D)} {x : Str} {d : D} (hd : kvs.lookup x = some d) (hs : ∀ o i, subscripted slice false o i = operate [o, i] (getItem o i) := by intro _ _; rfl) :
    Op2 c σ (.d (.sd c.prog c.w kvs)) (.d (.str x)) (subscriptTail value slice) (.d d) σ := Op2.tail HasT.sd slot_dict_getitem.lookup (Op2.get_sd hd) hs

theorem dget_core {prog : Program} {w : World} {A : Around} {s : Shared} {Q : Value → Shared → Prop} {E : Value → Shared → Prop} {a : Addr} {f : Str → Option Value} {x : Str} {t : Tok} {y : Value} (ha : (a == sysModules) = false) (hm : s.heap.MapOf (PySem.strKind prog w) a f)
    (hQ : Q ((f x).getD y) { s with toks := s.toks + 1 }) : wpAny (model prog w) A (call (.builtin "dict.get") [.ref a, .str x t, y]) Q E s :=
  call_meetsIn F.slot_dict_get hm.typeIs F.entry_dict_get (F.args_dict_get_3 _ _ _) (meets_dict_get_default (PySem.strKind prog w) a (k := x) (by simp [PySem.strKind, Value.isStrOf]) ha y) ⟨f, hm, hQ⟩

theorem OpN.dget {kvs : List (Str × D)} {x : Str} {y : D} : OpN c σ (.d (.sd c.prog c.w kvs)) [.d (.str x), .d y] (fun ov vs => PySem.call (.builtin "dict.get") (ov :: vs)) (.d ((kvs.lookup x).getD y)) σ := fun v vs hl => by
  match vs, hl with
  | [k, u], _ =>
    refine Cm.mk fun fr tm s Q E ht S hQ => ?_
    obtain ⟨t, rfl⟩ := S.str (.head _)
    obtain ⟨I, ρ, m, S⟩ := S
    have hu := S.tmk (u, .d y) (.tail _ (.head _))
    obtain ⟨a, o, kvsV, rfl, h1, hns, h2, h3⟩ := (S.tmk _ (.tail _ (.tail _ (.head _)))).d_inv.sd_inv
    have S' := S.sub (tmp' := tm) fun _ hp => .tail _ (.tail _ (.tail _ hp))
    refine dget_core hns (h2.mapOf (S.imm _ _ h1)) ?_
    rcases h3.find x with ⟨e1, e2⟩ | ⟨v', d', e1, e2, e3⟩
    · rw [e1]; exact hQ _ s.heap _ ⟨I, ρ, m, S'.push (by rw [e2]; exact hu)⟩
    · rw [e1]; exact hQ _ s.heap _ ⟨I, ρ, m, S'.push (by rw [e2]; exact .d e3)⟩
/-- a dict of the text's own, out of the part of the heap that is kept -/
theorem HasT.rawd {a : Addr} {o : Obj} (hb : c.B a = some o) (hx : o.ExactDict) : HasT c σ (.d (.raw (.ref a))) "dict" := fun fr tm s v S hv => by
  rw [S.raw hv]
  exact ⟨⟨_, S.base _ _ hb, hx.1⟩, fun _ e => by cases e; exact ⟨_, S.base _ _ hb, hx.2.1⟩⟩
theorem OpN.dgetB {a : Addr} {o : Obj} {kvsV : List (Str × Value)} {kvs : List (Str × D)} {x : Str} {y : D} (hb : c.B a = some o) (hns : (a == sysModules) = false) (h2 : SdObj c.prog c.w o kvsV) (h3 : ∀ I, KV I kvsV kvs) :
    OpN c σ (.d (.raw (.ref a))) [.d (.str x), .d y] (fun ov vs => PySem.call (.builtin "dict.get") (ov :: vs)) (.d ((kvs.lookup x).getD y)) σ := fun v vs hl => by
  match vs, hl with
  | [k, u], _ =>
    refine Cm.mk fun fr tm s Q E ht S hQ => ?_
    obtain ⟨t, rfl⟩ := S.str (.head _)
    have hv := S.raw (v := v) (.tail _ (.tail _ (.head _)))
    subst hv
    obtain ⟨I, ρ, m, S⟩ := S
    have hu := S.tmk (u, .d y) (.tail _ (.head _))
    have S' := S.sub (tmp' := tm) fun _ hp => .tail _ (.tail _ (.tail _ hp))
    refine dget_core hns (h2.mapOf (S.base _ _ hb)) ?_
    rcases (h3 I).find x with ⟨e1, e2⟩ | ⟨v', d', e1, e2, e3⟩
    · rw [e1]; exact hQ _ s.heap _ ⟨I, ρ, m, S'.push (by rw [e2]; exact hu)⟩
    · rw [e1]; exact hQ _ s.heap _ ⟨I, ρ, m, S'.push (by rw [e2]; exact .d e3)⟩

/-! ### a dict's display, by strs -/
inductive Ps (c : Cx) : Sg → List (Expr × Expr) → List (Str × D) → Sg → Prop
  | nil {σ : Sg} : Ps c σ [] [] σ
  | cons {σ σ₁ σ₂ σ₃ : Sg} {k v : Expr} {r : List (Expr × Expr)} {x : Str} {d : D} {kvs : List (Str × D)} : Ev c σ k (.d (.str x)) σ₁ → Ev c σ₁ v (.d d) σ₂ → Ps c σ₂ r kvs σ₃ → Ps c σ ((k, v) :: r) ((x, d) :: kvs) σ₃
noncomputable def tmpOf (vs : List (Value × Value)) (kvs : List (Str × D)) : List (Value × Vl) := (vs.zip kvs).map fun p => (p.1.2, Vl.d p.2.2)
noncomputable def kvsOf (vs : List (Value × Value)) (kvs : List (Str × D)) : List (Str × Value) := (vs.zip kvs).map fun p => (p.2.1, p.1.2)
inductive KeysStr : List (Value × Value) → List (Str × D) → Prop
  | nil : KeysStr [] []
  | cons {x : Str} {t : Tok} {v : Value} {d : D} {vs : List (Value × Value)} {kvs : List (Str × D)} : KeysStr vs kvs → KeysStr ((.str x t, v) :: vs) ((x, d) :: kvs)
theorem Ps.run {ps : List (Expr × Expr)} {kvs : List (Str × D)} (h : Ps c σ ps kvs σ₁) (pos : Pos) : ∀ {fr : List (Addr × Obj)} {tm : List (Value × Vl)} {s : Shared} {Q : List (Value × Value) → Shared → Prop} {E : Value → Shared → Prop}, 1 ≤ s.toks → St c σ fr tm s.heap →
    (∀ vs h' tk, KeysStr vs kvs → 1 ≤ tk → St c σ₁ fr (tmpOf vs kvs ++ tm) h' → Q vs { s with heap := h', toks := tk }) →
    wpAny c.M c.A (evalPairs (ps.map fun p => (eval p.1 c.env, (do let x ← eval p.2 c.env; standAt pos; pure x)))) Q E s := by
  induction h with
  | nil => intro fr tm s Q E ht S hQ; exact evalPairs_nil (hQ [] s.heap s.toks .nil ht S)
  | cons hk hv _ ih =>
    intro fr tm s Q E ht S hQ
    refine evalPairs_cons (hk fr tm s _ E ht S fun k h1 tk1 ht S1 => ?_)
    obtain ⟨t, rfl⟩ := S1.str (.head _)
    refine wpAny_bind (hv fr tm _ _ E ht S1.pop fun v h2 tk2 ht S2 => wpAny_bind (wpAny_standAt (wpAny_pure ?_)))
    refine ih ht S2 fun vs h3 tk3 hks ht S3 => hQ ((.str _ t, v) :: vs) h3 tk3 (.cons hks) ht (S3.sub fun p hp => ?_)
    show p ∈ tmpOf vs _ ++ _
    have hp' : p ∈ (v, Vl.d _) :: (tmpOf vs _ ++ tm) := hp
    rcases List.mem_cons.mp hp' with rfl | hp'
    · exact List.mem_append_right _ (.head _)
    · rcases List.mem_append.mp hp' with hp' | hp'
      · exact List.mem_append_left _ hp'
      · exact List.mem_append_right _ (.tail _ hp')
theorem KeysStr.carries {prog : Program} {w : World} {vs : List (Value × Value)} {kvs : List (Str × D)} (h : KeysStr vs kvs) : Carries (PySem.strKind prog w) vs (kvsOf vs kvs) := by
  induction h with
  | nil => exact trivial
  | cons _ ih => exact ⟨by simp [PySem.strKind, Value.isStrOf], rfl, ih⟩
theorem KeysStr.keys {vs : List (Value × Value)} {kvs : List (Str × D)} (h : KeysStr vs kvs) : (kvsOf vs kvs).map (·.1) = kvs.map (·.1) := by
  induction h with
  | nil => rfl
  | cons _ ih => exact congrArg _ ih
theorem KeysStr.kv {vs : List (Value × Value)} {kvs : List (Str × D)} (h : KeysStr vs kvs) (hv : ∀ p ∈ tmpOf vs kvs, RepV I ρ p.1 p.2) : KV I (kvsOf vs kvs) kvs := by
  induction h with
  | nil => exact .nil
  | cons _ ih => exact .cons (hv _ (.head _)).d_inv (ih fun p hp => hv p (.tail _ hp))
theorem merged_new : ∀ (kvs acc : List (Str × Value)), ((acc ++ kvs).map (·.1)).Nodup → merged acc kvs = acc ++ kvs
  | [], acc, _ => by simp [merged]
  | (k, v) :: r, acc, h => by
    have hn : k ∉ acc.map (·.1) := fun hm => by
      rw [List.map_append, List.nodup_append] at h
      exact h.2.2 k hm k (.head _) rfl
    have hs : stored acc k v = acc ++ [(k, v)] := by
      unfold stored
      rw [if_neg]
      rw [List.any_eq_true]
      rintro ⟨q, hq, e⟩
      exact hn (List.mem_map.mpr ⟨q, hq, of_decide_eq_true e⟩)
    have := merged_new r (acc ++ [(k, v)]) (by simpa using h)
    show merged (stored acc k v) r = _
    rw [hs, this]; simp
theorem Ev.dict {keys : List (Option Expr)} {values : List Expr} {pos : Pos} {ps : List (Expr × Expr)} {kvs : List (Str × D)} (hps : Ps c σ ps kvs σ₁) (hn : (kvs.map (·.1)).Nodup) (h0 : ps ≠ []) (hlen : ps.length ≤ 15) (hm : ∃ o, c.B sysModules = some o)
    (hshape : (evalEachOpt keys c.env).zip ((evalEach values c.env).map fun v => do let x ← v; standAt pos; pure x) = ps.map fun p => (some (eval p.1 c.env), (do let x ← eval p.2 c.env; standAt pos; pure x)) := by rfl) :
    Ev c σ (.Dict keys values pos) (.d (.sd c.prog c.w kvs)) σ₁ := fun fr tm s Q E ht S hQ => by
  refine wpAny_Dict_pairs (knd := PySem.strKind c.prog c.w) (pairs := ps.map fun p => (eval p.1 c.env, (do let x ← eval p.2 c.env; standAt pos; pure x))) (by rw [hshape, List.map_map]; rfl) (by simpa using h0) (by simpa using hlen) ?_
  obtain ⟨I, ρ, m, S⟩ := S
  have hsys : (s.heap.objs.size == sysModules) = false := by
    rw [beq_eq_false_iff_ne]
    rintro e
    obtain ⟨o, ho⟩ := hm
    exact absurd (Heap.lt_size (S.base _ _ ho)) (e ▸ Nat.lt_irrefl _)
  have S0 := S.pushFr { cls := .type "dict", data := .dict #[] }
  refine hps.run pos (s := { s with heap := s.heap.push { cls := .type "dict", data := .dict #[] } }) ht ⟨I, ρ, m, S0⟩ fun vs h' tk hks ht S1 => ?_
  obtain ⟨I1, ρ1, m1, S1⟩ := S1
  have g1 := (S1.frk _ (.head _)).1
  refine ⟨kvsOf vs kvs, hks.carries, ⟨_, #[], 0, g1, ⟨rfl, rfl, rfl⟩, rfl, fun _ he => by simp at he, Pairs.nil, List.nodup_nil⟩, fun h2 ⟨o, es, ep, g2, r⟩ hs2 => ?_⟩
  have S2 := (S1.setFr g2 hs2).freezeFr
  rw [merged_new _ _ (by rw [List.nil_append, hks.keys]; exact hn), List.nil_append] at r
  refine hQ _ h2 _ (by show 1 ≤ tk + vs.length; omega) ⟨_, ρ1, m1, S2.tail.push (.d (.sd (o := o) (by simp) hsys ⟨r.1, es, ep, r.2⟩ (hks.kv fun p hp => S2.tmk p (List.mem_append_left _ hp))))⟩
end
end Mine
end TR7

section TR8
open PySem PySem.W PySem.Calls PyProof.Rows
set_option autoImplicit false
set_option linter.unusedVariables false
set_option Elab.async false
set_option maxRecDepth 100000
namespace Mine

/-! ### sorted(l, key=f), by strs -/
noncomputable def leS (a b : Str) : Prop := ¬ b.cps.toList < a.cps.toList
noncomputable def StrsOf (vs : List Value) (ss : List Str) : Prop := StrsAre vs ss

theorem strsAre_snoc {x : Str} {t : Tok} : ∀ {vs : List Value} {ss : List Str}, StrsAre vs ss → StrsAre (vs ++ [.str x t]) (ss ++ [x])
  | _, _, .nil => .cons x t .nil
  | _, _, .cons y u h => .cons y u (strsAre_snoc h)
theorem strsAre_length : ∀ {vs : List Value} {ss : List Str}, StrsAre vs ss → vs.length = ss.length
  | _, _, .nil => rfl
  | _, _, .cons y u h => by rw [List.length_cons, List.length_cons, strsAre_length h]

/-- what the sorting gives: pairs, in order -/
noncomputable def SkOut (ks : List Str) (vs out : List Value) : Prop := ∃ ps : List (Str × Value), ps.Perm (ks.zip vs) ∧ out = ps.map Prod.snd ∧ ps.Pairwise fun p q => leS p.1 q.1

section
variable {prog : Program} {w : World} {A : Around} {E : Value → Shared → Prop} {s s₀ : Shared} {a kS : Addr} {vs : List Value} {kz : List Str} {keys : Array Value} {e e1 : Nat} {P : PySem.Fin → Shared → Prop}

theorem sk_out (hk : StrsAre keys.toList kz) {xs : Array Keyed} (hp : xs.Perm (keys.zip vs.toArray)) (hs : SortedToK PyProof.Rows.strKind xs xs.size) : SkOut kz vs (xs.map (·.2)).toList := by
  have hl : xs.toList.Perm (keys.toList.zip vs) := by rw [← ksk_zip]; exact Array.perm_iff_toList_perm.mp hp
  have hmem : ∀ p, p ∈ xs.toList → p.1 ∈ keys.toList := fun p hp' => (List.of_mem_zip (hl.mem_iff.mp hp')).1
  refine ⟨xs.toList.map fun p : Keyed => (strOf p.1, p.2), ?_, ?_, ?_⟩
  · have e2 : (keys.toList.zip vs).map (fun p : Keyed => (strOf p.1, p.2)) = kz.zip vs := by
      rw [← hk.strs, List.zip_map_left]
      exact List.map_congr_left fun ⟨x, y⟩ _ => rfl
    rw [← e2]
    exact hl.map _
  · rw [Array.toList_map, List.map_map]; rfl
  · rw [List.pairwise_iff_getElem]
    intro i j hi hj hij
    have hi' : i < xs.size := by simpa using hi
    have hj' : j < xs.size := by simpa using hj
    have h1 := hs i j (Nat.le_of_lt hij) hj'
    obtain ⟨x, t, ex⟩ := hk.all _ (hmem xs[i] (by simp))
    obtain ⟨y, u, ey⟩ := hk.all _ (hmem xs[j] (by simp))
    rw [KK_str hi' (x := x) (t := t) (q := xs[i].2) (Prod.ext ex rfl), KK_str hj' (x := y) (t := u) (q := xs[j].2) (Prod.ext ey rfl)] at h1
    change decide (y.cps.toList < x.cps.toList) = false at h1
    simp only [List.getElem_map, Array.getElem_toList]
    rw [show strOf xs[i].1 = x by rw [ex]; rfl, show strOf xs[j].1 = y by rw [ey]; rfl]
    exact of_decide_eq_false h1

theorem sk_keys (hk : StrsAre keys.toList kz) : PyProof.Rows.KeysOf PyProof.Rows.strKind (keys.zip vs.toArray) := by
  intro p hp
  rw [ksk_zip] at hp
  obtain ⟨x, y⟩ := p
  obtain ⟨x', t, e⟩ := hk.all _ (List.of_mem_zip hp).1
  exact ⟨x'.cps.toList, by show _ = _; subst e; rfl⟩
theorem sk_kind (hk : StrsAre keys.toList kz) (h2 : 2 ≤ keys.size) : keyKind' keys = pure oneType' := by
  obtain ⟨v₁, v₂, rest, e⟩ : ∃ v₁ v₂ rest, keys.toList = v₁ :: v₂ :: rest := by
    have hl : 2 ≤ keys.toList.length := by rw [Array.length_toList]; exact h2
    cases q : keys.toList with
    | nil => rw [q] at hl; simp at hl
    | cons v₁ r =>
      cases r with
      | nil => rw [q] at hl; simp at hl
      | cons v₂ rest => exact ⟨v₁, v₂, rest, rfl⟩
  have ek : keys = (v₁ :: v₂ :: rest).toArray := by rw [← e, Array.toArray_toList]
  rw [e] at hk
  rw [ek]
  exact keyKind_strs hk

/-- while the sorting goes on: what stood before, and its two lists -/
structure SkSt (s₀ : Shared) (a kS : Addr) (keys : Array Value) (e e1 : Nat) (s : Shared) : Prop where
  keep : Sub s₀.heap.get? s.heap.get?
  na : s₀.heap.get? a = none
  nk : s₀.heap.get? kS = none
  ne : kS ≠ a
  ga : s.heap.get? a = some (seqObj "list" #[] e1)
  gk : s.heap.get? kS = some (seqObj "list" keys e)

set_option maxHeartbeats 4000000 in
theorem sk_tail {st : SortSt} (S : SkSt s₀ a kS keys e e1 s) (hk : StrsAre keys.toList kz) (hlen : kz.length = vs.length) (h64 : vs.length < 64) (hp : (arrOf st).Perm (keys.zip vs.toArray)) (hs : SortedToK PyProof.Rows.strKind (arrOf st) (arrOf st).size) (hfl : failedOf st = none)
    (h : ∀ h' out c, Sub s₀.heap.get? h'.get? → h'.get? a = some (seqObj "list" out c) → SkOut kz vs out.toList → P (.done (.ret .none)) { s with heap := h' }) :
    wpAny (model prog w) A (ksk_tail a false e1 (.ref kS) st) P E s := by
  have hsz : keys.size = vs.length := by
    have h1 := strsAre_length hk
    rw [Array.length_toList] at h1
    omega
  have hsz2 : (arrOf st).size = vs.length := by rw [hp.size_eq, Array.size_zip, hsz, List.size_toArray, Nat.min_self]
  have s1 := Heap.SameBut.update s.heap kS (Obj.mapSeq fun _ => (#[] : Array Value))
  have na1 : (s.heap.update kS (Obj.mapSeq fun _ => (#[] : Array Value))).get? a = some (seqObj "list" #[] e1) := (s1.2 a S.ne.symm).trans S.ga
  have so := sk_out hk hp hs
  unfold ksk_tail
  try dsimp only
  simp only [Bool.false_eq_true, if_false]
  have hout : ((arrOf st).map (·.2)).size = vs.length := by rw [Array.size_map]; exact hsz2
  generalize (arrOf st).map (·.2) = out at *
  have s2 := Heap.SameBut.update (s.heap.update kS (Obj.mapSeq fun _ => (#[] : Array Value))) a (Obj.mapSeq fun _ => out)
  obtain ⟨c2, hc2⟩ : ∃ c2, ((s.heap.update kS (Obj.mapSeq fun _ => (#[] : Array Value))).update a (Obj.mapSeq fun _ => out)).get? a = some (seqObj "list" out c2) := ⟨_, get?_update_seq na1 fun _ => out⟩
  refine wpAny_bind (listUpdate_at S.gk rfl ?_ (by rw [hsz, sizeLine_eq]; omega) (Nat.zero_le _))
  refine wpAny_bind (wpAny_letGo ?_)
  refine wpAny_bind (seqEpoch_at na1 rfl ?_)
  refine wpAny_bind (listUpdate_at na1 rfl ?_ (Nat.zero_le _) (Nat.le_trans (Nat.le_of_eq hout) (by rw [sizeLine_eq]; omega)))
  rw [hfl]
  simp only [bne_self_eq_false, Bool.false_eq_true, if_false]
  refine wpAny_pure (h _ _ c2 (fun b o q => ?_) hc2 so)
  rw [s2.2 b (by rintro rfl; rw [S.na] at q; cases q), s1.2 b (by rintro rfl; rw [S.nk] at q; cases q)]
  exact S.keep _ _ q

theorem sk_end (S : SkSt s₀ a kS keys e e1 s) (hk : StrsAre keys.toList kz) (hlen : kz.length = vs.length) (h64 : vs.length < 64)
    (h : ∀ h' out c, Sub s₀.heap.get? h'.get? → h'.get? a = some (seqObj "list" out c) → SkOut kz vs out.toList → P (.done (.ret .none)) { s with heap := h' }) :
    wpAny (model prog w) A (ksk_end a false vs.toArray e1 (.ref kS) keys) P E s := by
  have hsz : keys.size = vs.length := by
    have h1 := strsAre_length hk
    rw [Array.length_toList] at h1
    omega
  have hzs : (keys.zip vs.toArray).size = vs.length := by rw [Array.size_zip, hsz, List.size_toArray, Nat.min_self]
  unfold ksk_end
  try dsimp only
  simp only [Bool.false_eq_true, if_false]
  by_cases h2 : vs.toArray.size < 2
  · rw [if_pos h2, if_pos h2]
    refine wpAny_bind (wpAny_pure ?_)
    rw [StateT.run_pure]
    refine wpAny_bind (wpAny_pure ?_)
    try dsimp only
    refine sk_tail (st := SortSt.mk' general' (keys.zip vs.toArray) #[] 7 none) S hk hlen h64 (Array.Perm.refl _) ?_ rfl h
    intro i j hij hj
    have hj2 : j < (keys.zip vs.toArray).size := hj
    rw [hzs] at hj2
    rw [List.size_toArray] at h2
    have : i = j := by omega
    subst this
    exact KeyOrd.kle_refl _
  · rw [if_neg h2, if_neg h2]
    rw [List.size_toArray] at h2
    rw [sk_kind hk (by rw [hsz]; omega)]
    refine wpAny_bind (wpAny_pure ?_)
    refine wpAny_bind (wpAny_mono (wpS_sortRunsK (κ := PyProof.Rows.strKind) strKind_oneLt (a₀ := keys.zip vs.toArray) (st := SortSt.mk' oneType' (keys.zip vs.toArray) #[] 7 none)
      (Q := fun _ st' => (arrOf st').Perm (keys.zip vs.toArray) ∧ failedOf st' = none ∧ SortedToK PyProof.Rows.strKind (arrOf st') (keys.zip vs.toArray).size)
      (sk_keys hk) ⟨Array.Perm.refl _, rfl, rfl, rfl⟩ (by rw [hzs]; omega) (by rw [hzs]; exact h64) fun st' a1 a2 a3 => ⟨a1, a2, a3⟩) ?_ fun _ _ e => e)
    rintro ⟨⟨⟩, st'⟩ s' ⟨rfl, hp, hf, hs⟩
    try dsimp only
    exact sk_tail S hk hlen h64 hp (by rw [hp.size_eq]; exact hs) hf h

theorem sk_rest {f : Value} (S : SkSt s₀ a kS #[] 0 e1 s) (hlen : kz.length = vs.length) (h64 : vs.length < 64) (ht : 1 ≤ s.toks)
    (turn : ∀ (i : Nat) (v : Value) (k : Str), vs[i]? = some v → kz[i]? = some k → ∀ (h : Heap) (tk : Nat), 1 ≤ tk → Sub s₀.heap.get? h.get? →
      wpAny (model prog w) A (call f [v]) (fun u s₂ => ∃ h' tk' t', s₂ = { s with heap := h', toks := tk' } ∧ 1 ≤ tk' ∧ u = .str k t' ∧ Sub h.get? h'.get?) (fun _ _ => False) { s with heap := h, toks := tk })
    (h : ∀ h' tk out c, 1 ≤ tk → Sub s₀.heap.get? h'.get? → h'.get? a = some (seqObj "list" out c) → SkOut kz vs out.toList → P (.done (.ret .none)) { s with heap := h', toks := tk }) :
    wpAny (model prog w) A (ksk_rest a f false vs.toArray e1 (.ref kS)) P E s := by
  unfold ksk_rest
  refine wpAny_bind (wpAny_rule ?_)
  first
    | rw [List.forIn_toArray]
    | (rw [← Array.forIn_toList]; simp only [List.toList_toArray])
    | rw [← Array.forIn_toList]
  refine wpAny_bind (ksk_fold (fun i s' => ∃ h' tk kA e, s' = { s with heap := h', toks := tk } ∧ 1 ≤ tk ∧ SkSt s₀ a kS kA e e1 s' ∧ StrsAre kA.toList (kz.take i)) vs 0 s
    ⟨s.heap, s.toks, #[], 0, rfl, ht, S, by simpa using StrsAre.nil⟩ ?step ?done)
  case step =>
    rintro j x s' hx ⟨h', tk, kA, e, rfl, ht', S', hk⟩
    simp only [Nat.zero_add] at hk ⊢
    have hj : j < vs.length := (List.getElem?_eq_some_iff.mp hx).1
    obtain ⟨k, hkj⟩ : ∃ k, kz[j]? = some k := ⟨_, List.getElem?_eq_getElem (by first | decide | omega)⟩
    have hz : kA.size ≤ vs.length := by
      have h1 := strsAre_length hk
      rw [Array.length_toList, List.length_take] at h1
      omega
    refine wpAny_bind (wpAny_attempt (wpAny_mono (turn j x k hx hkj h' tk ht' S'.keep) (fun v s'' he => ?_) fun _ _ hF => hF.elim))
    obtain ⟨g, tk2, t2, rfl, ht2, rfl, hsub⟩ := he
    try dsimp only
    have gk : g.get? kS = some (seqObj "list" kA e) := hsub _ _ S'.gk
    have s1 := Heap.SameBut.update g kS (Obj.mapSeq (·.push (.str k t2)))
    obtain ⟨c2, hc2⟩ : ∃ c2, (g.update kS (Obj.mapSeq (·.push (.str k t2)))).get? kS = some (seqObj "list" (kA.push (.str k t2)) c2) := ⟨_, get?_update_seq gk (·.push (.str k t2))⟩
    have ek : kz.take (j + 1) = kz.take j ++ [k] := by rw [List.take_add_one, hkj]; simp
    have ea : (kA.push (Value.str k t2)).toList = kA.toList ++ [Value.str k t2] := by simp
    refine wpAny_bind (listUpdate_at gk rfl ?_ (by rw [sizeLine_eq]; omega) (Nat.le_trans (Nat.le_of_eq (Array.size_push ..)) (by rw [sizeLine_eq]; omega)))
    refine wpAny_pure ⟨rfl, _, _, kA.push (.str k t2), c2, rfl, ht2, ⟨fun b o q => ?_, S'.na, S'.nk, S'.ne, ?_, hc2⟩, by rw [ea, ek]; exact strsAre_snoc hk⟩
    · rw [s1.2 b (by rintro rfl; rw [S.nk] at q; cases q)]; exact hsub _ _ (S'.keep _ _ q)
    · exact (s1.2 a S.ne.symm).trans (hsub _ _ S'.ga)
  case done =>
    rintro s' ⟨h', tk, kA, e, rfl, ht', S', hk⟩
    have hk' : StrsAre kA.toList kz := by
      have e3 : kz.take (0 + vs.length) = kz := List.take_of_length_le (by first | decide | omega)
      rw [e3] at hk
      exact hk
    try dsimp only
    refine wpAny_bind (listItems_at S'.gk rfl ?_)
    exact sk_end S' hk' hlen h64 fun h3 out c k1 k2 k3 => h h3 tk out c ht' k1 k2 k3

theorem sk_sorted {f : Value} {kw : List (Str × Value)} {l : Addr} {Q : Value → Shared → Prop} (hl : s.heap.IsList l vs.toArray) (hlen : kz.length = vs.length) (h64 : vs.length < 64) (htk : 1 ≤ s.toks)
    (ha1 : argsOk "sorted" ⟨[.ref l], kw⟩) (ha2 : ∀ x, argsOk "list.sort" ⟨[.ref x], kw⟩) (ht : ∀ x, Builtin.«list.sort» ⟨[.ref x], kw⟩ = ksk_tree x f false)
    (turn : ∀ (i : Nat) (v : Value) (k : Str), vs[i]? = some v → kz[i]? = some k → ∀ (h : Heap) (tk : Nat), 1 ≤ tk → Sub s.heap.get? h.get? →
      wpAny (model prog w) A.in1.in1 (call f [v]) (fun u s₂ => ∃ h' tk' t', s₂ = { s with heap := h', toks := tk' } ∧ 1 ≤ tk' ∧ u = .str k t' ∧ Sub h.get? h'.get?) (fun _ _ => False) { s with heap := h, toks := tk })
    (h : ∀ D h' tk out c, 1 ≤ tk → Sub s.heap.get? h'.get? → s.heap.get? D = none → h'.get? D = some (seqObj "list" out c) → SkOut kz vs out.toList → Q (.ref D) { s with heap := h', toks := tk }) :
    wpAny (model prog w) A (call (.builtin "sorted") [.ref l] kw) Q E s := by
  refine call_function_entry_kw kind_sorted plain_sorted entry_sorted ha1 ?_
  unfold Builtin.«sorted»
  refine wpAny_bind (m := checkCount "sorted" 1 1 _) (wpAny_pure ?_)
  refine wpAny_bind (collect_list hl ?_ (by rw [sizeLine_eq]; omega))
  refine wpAny_bind (wpAny_newList ?_ (by rw [sizeLine_eq]; omega))
  generalize hH : ((s.heap.push (seqObj "list" #[] 0)).update s.heap.objs.size (Obj.mapSeq (· ++ vs.toArray))) = h1
  have hsz : h1.objs.size = s.heap.objs.size + 1 := by rw [← hH, Heap.size_update, size_push']
  have hoL : (h1.push (seqObj "list" vs.toArray 0)).get? (s.heap.objs.size + 1) = some (seqObj "list" vs.toArray 0) := by
    rw [← hsz]; exact Heap.get?_push_size _ rfl
  have keep : Sub s.heap.get? (h1.push (seqObj "list" vs.toArray 0)).get? := fun b o q => by
    have hlt : b < s.heap.objs.size := Heap.lt_size q
    rw [Heap.get?_push_ne _ _ _ (by rw [hsz]; exact Nat.ne_of_lt (Nat.lt_succ_of_lt hlt)), ← hH, Heap.get?_update_ne _ _ _ _ (Nat.ne_of_lt hlt), Heap.get?_push_ne _ _ _ (Nat.ne_of_lt hlt)]
    exact q
  show wpAny _ _ _ _ _ { s with heap := h1.push (seqObj "list" vs.toArray 0) }
  rw [hsz]
  refine wpAny_bind (wpAny_holding (wpAny_call_entry_kw slot_list_sort ⟨_, hoL, rfl⟩ entry_list_sort ?body (ha2 _)))
  case body =>
    rw [ht]
    have ha : s.heap.objs.size + 1 < (h1.push (seqObj "list" vs.toArray 0)).objs.size := Heap.lt_size hoL
    have hsa : (h1.push (seqObj "list" vs.toArray 0)).objs.size = s.heap.objs.size + 2 := by rw [size_push', hsz]
    generalize hH2 : h1.push (seqObj "list" vs.toArray 0) = h2 at *
    have nb : ∀ b, s.heap.objs.size ≤ b → s.heap.get? b = none := fun b hb => none_above hb
    have s1 := Heap.SameBut.update h2 (s.heap.objs.size + 1) (Obj.mapSeq fun _ => (#[] : Array Value))
    obtain ⟨e1, ho1⟩ : ∃ e1, (h2.update (s.heap.objs.size + 1) (Obj.mapSeq fun _ => (#[] : Array Value))).get? (s.heap.objs.size + 1) = some (seqObj "list" #[] e1) := ⟨_, get?_update_seq hoL fun _ => #[]⟩
    unfold ksk_tree
    refine wpAny_bind (listItems_at hoL rfl ?_)
    refine wpAny_bind (listUpdate_at hoL rfl ?_ (by rw [List.size_toArray, sizeLine_eq]; omega) (Nat.zero_le _))
    refine wpAny_bind (seqEpoch_at ho1 rfl ?_)
    refine wpAny_bind (wpAny_newTuple ?_ (by show vs.length ≤ _; rw [sizeLine_eq]; omega))
    refine wpAny_bind (wpAny_newList ?_ (Nat.zero_le _))
    refine wpAny_holding ?_
    have hk0 : ((h2.update (s.heap.objs.size + 1) (Obj.mapSeq fun _ => (#[] : Array Value))).push (seqObj "tuple" vs.toArray 0)).objs.size = s.heap.objs.size + 3 := by rw [size_push', Heap.size_update, hsa]
    have g3 : ∀ b o, (h2.update (s.heap.objs.size + 1) (Obj.mapSeq fun _ => (#[] : Array Value))).get? b = some o → (((h2.update (s.heap.objs.size + 1) (Obj.mapSeq fun _ => (#[] : Array Value))).push (seqObj "tuple" vs.toArray 0)).push (seqObj "list" #[] 0)).get? b = some o :=
      fun b o q => Heap.get?_push_of_some _ (Heap.get?_push_of_some _ q)
    refine sk_rest (s₀ := s) (s := { s with heap := ((h2.update (s.heap.objs.size + 1) (Obj.mapSeq fun _ => (#[] : Array Value))).push (seqObj "tuple" vs.toArray 0)).push (seqObj "list" #[] 0) })
      (kS := ((h2.update (s.heap.objs.size + 1) (Obj.mapSeq fun _ => (#[] : Array Value))).push (seqObj "tuple" vs.toArray 0)).objs.size)
      ⟨fun b o q => ?_, nb _ (Nat.le_succ _), nb _ (by rw [hk0]; exact Nat.le_add_right _ 3), by rw [hk0]; exact Nat.ne_of_gt (Nat.lt_succ_of_lt (Nat.lt_succ_self _)), g3 _ _ ho1, Heap.get?_push_size _ rfl⟩ hlen h64 htk turn fun h' tk out c t1 k1 k2 k3 => ?_
    · have hlt : b < s.heap.objs.size := Heap.lt_size q
      exact g3 _ _ ((s1.2 b (Nat.ne_of_lt (Nat.lt_succ_of_lt hlt))).trans (keep _ _ q))
    · exact ⟨_, rfl, wpAny_pure ⟨_, rfl, h _ h' tk out c t1 k1 (nb _ (Nat.le_succ _)) k2 k3⟩⟩
end
end Mine
end TR8

section TR9
open PySem PySem.W PySem.Calls PyProof.Rows
set_option autoImplicit false
set_option linter.unusedVariables false
set_option Elab.async false
set_option maxRecDepth 100000
namespace Mine

section
variable {c : Cx} {σ σ₁ σ₂ σ₃ : Sg} {fr : List (Addr × Obj)} {tmp : List (Value × Vl)} {h h' : Heap} {I : Mp} {ρ : List Addr} {m : Str → Option Value} {R : FD → Sg → Prop}

/-! ### strs -/
noncomputable def hitsOf (x y : Str) : List Nat := Builtin.Str.occurrences x y 0 x.length (x.length + 1)
noncomputable def replFn (x y z : Str) : Str := if ((hitsOf x y).isEmpty || (y.length == 0 && z.length == 0)) = true then x else Builtin.Str.glued z (Builtin.Str.partsBetween x (hitsOf x y) y.length)
theorem Ev.replace {o : Expr} {x y z : Str} {k1 k2 : Nat} {p1 p2 apos pos : Pos} (h1 : Ev c σ o (.d (.str x)) σ₁) (hyz : (y == z) = false) (hx : x.length ≤ 100000) (hz : z.length ≤ 100) (hr : (replFn x y z).length ≤ 1000000)
    (hline : (apos.endLine == pos.line) = true := by rfl) (hbase : attributeBase o "replace" c.env (eval o c.env) = eval o c.env := by rfl) :
    Ev c σ (.Call (.Attribute o "replace" apos) [.Constant (.str y) k1 p1, .Constant (.str z) k2 p2] [] pos) (.d (.str (replFn x y z))) σ₁ := Cm.mk fun fr tm s Q E ht S hQ => by
  refine wpAny_Call_method_lateS hbase rfl hline (h1 fr tm s _ E ht S fun v h' tk ht S1 => ?_)
  obtain ⟨t, rfl⟩ := S1.str (.head _)
  refine ⟨"str", "str.replace", F.plainAttrs_str, F.slot_str_replace, F.type_str_replace, PySem.typeIs_str _ _ _, fun _ e => (nomatch e), ?_⟩
  have e1 : backTo pos (starEach [.Constant (.str y) k1 p1, .Constant (.str z) k2 p2] c.env) = [(false, eval (.Constant (.str y) k1 p1) c.env), (false, eval (.Constant (.str z) k2 p2) c.env)] := rfl
  rw [e1]
  refine Calls.callWith_builtin rfl (Calls.evalArgs_plain ?_)
  refine Calls.spliced_cons ?_
  refine Constant_str ?_
  refine Calls.spliced_cons ?_
  refine Constant_str ?_
  refine Calls.spliced_nil ?_
  show wpAny _ _ (PySem.call (.builtin "str.replace") [Value.str x t, Value.str y tk, Value.str z (tk + 1)]) Q E _
  have key := gives_str_replace x y z t tk (tk + 1) (fun _ => ⟨by rw [Bool.or_eq_false_iff]; exact ⟨beq_eq_false_iff_ne.mpr (tkne ht), beq_eq_false_iff_ne.mpr (Nat.succ_ne_zero tk)⟩, beq_eq_false_iff_ne.mpr (Nat.ne_of_lt (Nat.lt_succ_self tk)), hyz, by
    unfold Builtin.Str.tooLong
    have h1 := StrLaws.occ_length_le x y 0 x.length (x.length + 1)
    have h2 : (Builtin.Str.occurrences x y 0 x.length (x.length + 1)).length * z.length ≤ 100001 * 100 := Nat.mul_le_mul (by first | decide | omega) hz
    rw [sizeLine_eq]; exact decide_eq_false (by first | decide | omega)⟩)
  refine call_gives F.slot_str_replace (PySem.typeIs_str _ _ _) F.entry_str_replace (F.args_str_replace_3 _ _ _) key ?_
  refine MadeIs.post (d := .str (replFn x y z)) ?_ (by show 1 ≤ tk + 1 + 1; omega) fun v tk' hv => ?_
  · unfold replFn hitsOf at hr ⊢
    split
    · exact .val fun _ => .str _ _
    · rename_i hc; rw [if_neg hc] at hr; exact .str _ (by rw [sizeLine_eq]; omega)
  · exact hQ v h' tk' (S1.pop.imm hv)

theorem OpN.join {sep : Str} {L : List Str} (h2 : 2 ≤ L.length) (hs : (L.map (·.length)).sum + L.length * sep.length ≤ 1000000) (hg : (Builtin.Str.glued sep L).length ≤ 1000000) :
    OpN c σ (.d (.str sep)) [.d (.lst (L.map .str))] (fun ov vs => PySem.call (.builtin "str.join") (ov :: vs)) (.d (.str (Builtin.Str.glued sep L))) σ := fun v vs hl => by
  revert vs
  refine vs1 fun y => ?_
  next =>
    refine Cm.mk fun fr tm s Q E ht S hQ => ?_
    obtain ⟨t, e⟩ := S.str (v := v) (.tail _ (.head _))
    subst e
    obtain ⟨I, ρ, m, S⟩ := S
    obtain ⟨a, ws, n, rfl, h1, g, r⟩ := S.lstAt (.head _)
    have key : ∀ {L : List Str} {ws : List Value}, Reps I ws (L.map .str) → ∃ l : List (Str × Tok), ws = strValues l ∧ l.map (·.1) = L := by
      intro L
      induction L with
      | nil => intro ws r; cases r; exact ⟨[], rfl, rfl⟩
      | cons x L ih =>
        intro ws r
        cases r with
        | cons r1 rs =>
          obtain ⟨t, rfl⟩ := r1.str_inv
          obtain ⟨l, e1, e2⟩ := ih rs
          exact ⟨(x, t) :: l, by rw [e1]; rfl, by rw [List.map_cons, e2]⟩
    obtain ⟨l, e1, e2⟩ := key r
    subst e1
    have hll : l.length = L.length := by rw [← e2, List.length_map]
    refine call_meets F.slot_str_join (PySem.typeIs_str _ _ _) F.entry_str_join (F.args_str_join_2 _ _) (meets_str_join_list sep t a l ?_) ⟨⟨_, g, rfl, n, rfl⟩, ?_⟩
    · rw [e2]
      have hfold : ∀ (L : List Str) (k : Nat), L.foldl (fun x1 x2 => x1 + x2.length + sep.length) k = k + ((L.map (·.length)).sum + L.length * sep.length) := by
        intro L
        induction L with
        | nil => intro k; simp
        | cons x L ih => intro k; rw [List.foldl_cons, ih, List.map_cons, List.sum_cons, List.length_cons, Nat.succ_mul]; omega
      rw [List.foldl_toArray, hfold]
      unfold Builtin.Str.tooLong
      rw [sizeLine_eq]; exact decide_eq_false (by first | decide | omega)
    · have ej : joinMade sep l = .str (Builtin.Str.glued sep L) := by
        match l, hll with
        | [], hll => simp at hll; omega
        | [_], hll => simp at hll; omega
        | p :: q :: r, _ => rw [← e2]; rfl
      rw [ej]
      exact ⟨by rw [sizeLine_eq]; omega, hQ _ s.heap _ ⟨I, ρ, m, (S.sub fun _ hp => .tail _ (.tail _ hp)).push (.d (.str _ _))⟩⟩

open Builtin Builtin.Str Builtin.Int in
theorem gives_str_index_from (x y : Str) (i : Int) (t u v : Tok) (k : Nat) (rest : List Nat) (h : Builtin.Str.occurrences x y (fromIndex x.length i) x.length 1 = k :: rest) : Gives (Builtin.«str.index» ⟨[.str x t, .str y u, .int i v], []⟩) (.int k) := by
  show Gives (match Builtin.Str.occurrences x y (fromIndex x.length i) (min x.length x.length) 1 with | k :: _ => retInt k | [] => (do rule "str.index.not-found"; raiseError "ValueError" "substring not found")) _
  rw [Nat.min_self, h]
  exact .of_eq rfl
theorem OpN.str_index {x y : Str} {i : Int} {k : Nat} {rest : List Nat} (h : Builtin.Str.occurrences x y (fromIndex x.length i) x.length 1 = k :: rest) :
    OpN c σ (.d (.str x)) [.d (.str y), .d (.int i)] (fun ov vs => PySem.call (.builtin "str.index") (ov :: vs)) (.d (.int k)) σ := fun v vs hl => by
  match vs, hl with
  | [y', i'], _ =>
    refine Cm.mk fun fr tm s Q E ht S hQ => ?_
    obtain ⟨t, e⟩ := S.str (v := v) (.tail _ (.tail _ (.head _))); subst e
    obtain ⟨u, e⟩ := S.str (v := y') (.head _); subst e
    obtain ⟨w, e⟩ := S.int (v := i') (.tail _ (.head _)); subst e
    exact call_gives F.slot_str_index (PySem.typeIs_str _ _ _) F.entry_str_index (F.args_str_index_3 _ _ _) (gives_str_index_from x y i t u w k rest h) (hQ _ s.heap _ ((S.sub fun _ hp => .tail _ (.tail _ (.tail _ hp))).imm fun _ => .int _ _))
theorem isPart_tok {v : Value} {k : Option Int} (h : IsPart v k) : ∃ p : Option (Int × Tok), v = partValue p ∧ p.map (·.1) = k := by
  cases h with
  | none => exact ⟨none, rfl, rfl⟩
  | int i t => exact ⟨some (i, t), rfl, rfl⟩
theorem Ev.slice_str {value : Expr} {lower upper : Option Expr} {p pos : Pos} {x : Str} {lo hi : Option Int} (h1 : Ev c σ value (.d (.str x)) σ₁) (h2 : EvP c σ₁ lower lo σ₂) (h3 : EvP c σ₂ upper hi σ₃)
    (hsz : (StrLaws.sliceText x lo hi).length ≤ 1000000) (ht : ∀ o r, letTemporaryGo value o r = pure () := by intro _ _; rfl) :
    Ev c σ (.Subscript value (.Slice lower upper none p) pos) (.d (.str (StrLaws.sliceText x lo hi))) σ₃ := Cm.mk fun fr tm s Q E htk S hQ => by
  refine wpAny_Subscript_str_slice (h1 fr tm s _ E htk S fun v h' tk htk S1 => h2.run htk S1 fun vl h' tk pl htk S2 => h3.run htk S2 fun vu h' tk pu htk S3 => ?_) ht
  obtain ⟨t, rfl⟩ := S3.str (.head _)
  obtain ⟨l, e1, e2⟩ := isPart_tok pl
  obtain ⟨u, e3, e4⟩ := isPart_tok pu
  refine ⟨x, t, l, u, rfl, e1, e3, ?_⟩
  obtain ⟨I, ρ, m, S3⟩ := S3
  have S4 := ((S3.sub (tmp' := tm) fun _ hp => .tail _ hp).alloc { cls := .type "slice", data := .fields #[vl, vu, .none] })
  refine MadeIs.post (d := .str (StrLaws.sliceText x lo hi)) ?_ htk fun v tk' hv => hQ v _ tk' ⟨_, ρ, m, S4.push (.d (hv _))⟩
  unfold sliceMade slicePicked
  unfold StrLaws.sliceText at hsz ⊢
  rw [e2, e4]
  show MadeIs (if ((1 : Int) == 1 && (Builtin.Str.strSliceIndices lo hi 1 x.length).length == x.length) = true then _ else _) _
  split
  · exact .val fun _ => .str _ _
  · rename_i hc; rw [if_neg hc] at hsz; exact .str _ (by rw [sizeLine_eq]; exact Nat.le_trans hsz (by decide))

/-! ### lists out of other things -/
theorem Reps.ofGet {vs : List Value} {ds : List D} (hl : vs.length = ds.length) (h : ∀ (j : Nat) (v : Value) (d : D), vs[j]? = some v → ds[j]? = some d → Rep I v d) : Reps I vs ds := by
  induction vs generalizing ds with
  | nil => cases ds with | nil => exact .nil | cons => cases hl
  | cons v vs ih =>
    cases ds with
    | nil => cases hl
    | cons d ds => exact .cons (h 0 v d rfl rfl) (ih (by simpa using hl) fun j u e h1 h2 => h (j + 1) u e h1 h2)
theorem fnNewAt {I : Mp} {s : Shared} {ret : D} {Q : Value → Shared → Prop} {h' : Heap} {o : Obj} {D₀ : Addr} {tk : Nat} (hI : Sub I s.heap.get?) (hD : s.heap.get? D₀ = none) (hs : Sub s.heap.get? h'.get?) (g : h'.get? D₀ = some o)
    (hQ : ∀ v h' tk J, Sub s.heap.get? h'.get? → Sub I J → Sub J h'.get? → (∀ b o, J b = some o → I b = some o ∨ s.heap.get? b = none) → Rep J v ret → Q v { s with heap := h', toks := tk })
    (hr : ∀ J : Mp, Sub I J → J D₀ = some o → Rep J (.ref D₀) ret) : Q (.ref D₀) { s with heap := h', toks := tk } := by
  have hn : I D₀ = none := by
    cases e : I D₀ with
    | none => rfl
    | some o => have := hI _ _ e; rw [hD] at this; cases this
  refine hQ _ h' tk (fun b => if b = D₀ then some o else I b) hs (upd_none I hn) (fun b o' e => ?_) (fun b o' e => ?_) (hr _ (upd_none I hn) (by simp))
  · by_cases hb : b = D₀
    · subst hb; simp only [if_true] at e; cases e; exact g
    · simp only [if_neg hb] at e; exact hs _ _ (hI _ _ e)
  · by_cases hb : b = D₀
    · subst hb; exact .inr hD
    · simp only [if_neg hb] at e; exact .inl e
theorem fn_list_rng {a b : Int} (hr : Room c.A 1) (h0 : 0 ≤ a) (hab : a ≤ b) (hb : b ≤ 1000) : FnOk c (.type "list") [.rng a b] (.lst ((List.range (b - a).toNat).map fun (i : Nat) => .int (a + (i : Int)))) := FnOk.mk fun I s vs Q E ht hB hI hv hQ => by
  cases hv with
  | cons hv h0' =>
    cases h0'
    obtain ⟨r, t, u, w, rfl, h1⟩ := hv.rng_inv
    refine call_list_range (n := (b - a).toNat) hr.handled (hI _ _ h1) ?_ ?_ ?_ fun h' tk acc' c' hk g hit => ?_
    · exact PySem.small_one (by first | decide | omega) (by first | decide | omega) (by first | decide | omega) (by first | decide | omega)
    · rw [PySem.rangeSize_one]; split <;> omega
    · have : (b - a).toNat ≤ 1000 := by omega
      exact Nat.le_trans this (by decide)
    · obtain ⟨hsz, hit⟩ := hit
      refine fnNewAt hI (none_above (Nat.le_refl _)) (fun _ _ e => hk _ _ e) g hQ fun J hJ e => .lst (vs := acc'.toList) (n := c') (by rw [e]; simp [lobj]) (Reps.ofGet (by simp [hsz]) fun j v d e1 e2 => ?_)
      rw [Array.getElem?_toList] at e1
      obtain ⟨t', rfl⟩ := hit j v e1
      rw [List.getElem?_map] at e2
      obtain ⟨i, e3, rfl⟩ := Option.map_eq_some_iff.mp e2
      have hj := (List.getElem?_eq_some_iff.mp e3)
      obtain ⟨hj1, hj2⟩ := hj
      rw [List.getElem_range] at hj2
      subst hj2
      rw [Int.mul_one]
      exact .int _ _
theorem Ew.list_sdict {x : Str} {p pos : Pos} {e : Expr} {k : Nat} {kvs : List (Str × D)} (hf : Ew c σ (.Name x p) (.d (.raw (.type "list"))) σ₁) (ha : Ew c σ₁ e (.m k) σ₂) (hm : σ₂.mu[k]? = some (.sdict kvs)) (hn : kvs.length ≤ 1000) (hr : Room c.A 1) (hsys : ∃ o, c.B sysModules = some o) (hnd : (kvs.map (·.1)).Nodup) (he : starEach [e] c.env = [(false, eval e c.env)] := by rfl) : Ew c σ (.Call (.Name x p) [e] [] pos) (.d (.lst (kvs.map fun q => .str q.1))) σ₂ := ⟨Cm.mk fun fr tm s Q E ht S hQ => by
  refine wpAny_Call_NameR (hf.run fr tm s _ E ht S fun v h' tk ht S' => ?_)
  rw [S'.raw (.head _)]
  have e1 : backTo pos (starEach [e] c.env) = [(false, eval e c.env)] := by rw [he]; rfl
  rw [e1]
  refine PySem.callWith_type rfl (Calls.evalArgs_plain (Calls.spliced_cons (ha.run fr tm _ _ E ht S'.pop fun v h2 tk2 ht2 S2 => Calls.spliced_nil ?_)))
  obtain ⟨I, ρ, m, S2⟩ := S2
  obtain ⟨a, es, n, rfl, hi, g, r⟩ := S2.sdictAt (.head _) hm
  have hns : (a == sysModules) = false := by
    rw [beq_eq_false_iff_ne]
    rintro rfl
    obtain ⟨o, ho⟩ := hsys
    have := S2.mu k _ _ hi hm
    have hcb : c.B sysModules = Option.none := this.2.2.1
    rw [ho] at hcb; cases hcb
  have hpairs : ∀ {es : List DictEntry} {kvs : List (Str × D)}, DEnts I (hashStr c.w) es kvs → ∃ kvsV : List (Str × Value), Pairs (PySem.strKind c.prog c.w) es kvsV ∧ kvsV.map (·.1) = kvs.map (·.1) := by
    intro es kvs r
    generalize hashStr c.w = hk at r
    induction r with
    | nil => exact ⟨[], .nil, rfl⟩
    | @cons e es k d kvs hk hh hv _ ih =>
      obtain ⟨t, e1⟩ := hk
      obtain ⟨kvsV, p1, p2⟩ := ih
      exact ⟨(k, e.val) :: kvsV, .cons (by rw [e1]; simp [PySem.strKind, Value.isStrOf]) rfl p1, by rw [List.map_cons, List.map_cons, p2]⟩
  obtain ⟨kvsV, p1, p2⟩ := hpairs r
  have hlen : kvsV.length = kvs.length := by have := congrArg List.length p2; simpa using this
  refine kdl_call (kdl_dict (knd := PySem.strKind c.prog c.w) (kvs := kvsV) (ep := n) hns) hr.handled ⟨_, es.toArray, g, ⟨rfl, rfl, rfl⟩, rfl, r.keys rfl, p1, by rw [p2]; exact hnd⟩ (by rw [hlen, sizeLine_eq]; omega) fun h3 tk3 acc' c' hk g3 ⟨hsz, hit⟩ => ?_
  have S3 := S2.sub (tmp' := tm) fun _ hp => .tail _ hp
  have fr3 := S2.fresh
  refine hQ _ h3 tk3 ⟨fun b => if b = h2.objs.size then some (lobj acc'.toList c') else I b, ρ, m, ((S3.ext (h' := h3) hk (upd_none I fr3.1) (fun b o' e => ?_) fun b o' e => ?_).push (.d (.lst (vs := acc'.toList) (n := c') (by simp) (Reps.ofGet (by simp [hsz, hlen]) fun j v d e1 e2 => ?_))))⟩
  · by_cases hb : b = h2.objs.size
    · subst hb; simp only [if_true] at e; cases e; rw [g3]; simp [lobj]
    · simp only [if_neg hb] at e; exact hk _ _ (S3.imm _ _ e)
  · by_cases hb : b = h2.objs.size
    · subst hb
      right
      cases e' : h2.get? h2.objs.size with
      | none => rfl
      | some o => exact absurd (Heap.lt_size e') (Nat.lt_irrefl _)
    · simp only [if_neg hb] at e; exact .inl e
  · rw [Array.getElem?_toList] at e1
    obtain ⟨k', x', q1, q2⟩ := hit j v e1
    obtain ⟨t', rfl⟩ := Value.isStrOf_shape q2
    have q3 : (kvsV.map (·.1))[j]? = some k' := by rw [List.getElem?_map, q1]; rfl
    rw [p2, List.getElem?_map] at q3
    rw [List.getElem?_map] at e2
    obtain ⟨q, e3, rfl⟩ := Option.map_eq_some_iff.mp e2
    rw [e3] at q3
    cases q3
    exact .str _ _⟩
end
end Mine
end TR9

section TR10
open PySem PySem.W PySem.Calls PyProof.Rows
set_option autoImplicit false
set_option linter.unusedVariables false
set_option Elab.async false
set_option maxRecDepth 100000
namespace Mine

/-! ### order of strs, and sorting -/
noncomputable def leB (a b : Str) : Bool := decide (¬ b.cps.toList < a.cps.toList)
noncomputable def sortS (l : List Str) : List Str := l.mergeSort leB
theorem cps_ext {a b : Str} (h : a.cps.toList = b.cps.toList) : a = b := by
  cases a; cases b
  simp only [Str.mk.injEq]
  exact Array.toList_inj.mp h
theorem leS_antisymm {a b : Str} (h : leS a b) (k : leS b a) : a = b := cps_ext (List.le_antisymm (Std.not_lt.mp h) (Std.not_lt.mp k))
theorem leB_trans (a b c : Str) (h : leB a b = true) (k : leB b c = true) : leB a c = true := by
  have h' := Std.not_lt.mp (of_decide_eq_true h)
  have k' := Std.not_lt.mp (of_decide_eq_true k)
  exact decide_eq_true (Std.not_lt.mpr (List.le_trans h' k'))
theorem leB_total (a b : Str) : (leB a b || leB b a) = true := by
  rw [Bool.or_eq_true]
  rcases List.le_total a.cps.toList b.cps.toList with h | h
  · exact .inl (decide_eq_true (Std.not_lt.mpr h))
  · exact .inr (decide_eq_true (Std.not_lt.mpr h))
theorem sortS_perm (l : List Str) : (sortS l).Perm l := List.mergeSort_perm l leB
theorem sortS_sorted (l : List Str) : (sortS l).Pairwise leS := (List.pairwise_mergeSort leB_trans leB_total l).imp fun h => of_decide_eq_true h
theorem sortS_unique {l l' : List Str} (hp : l'.Perm l) (hs : l'.Pairwise leS) : l' = sortS l :=
  List.Perm.eq_of_pairwise (le := leS) (fun a b _ _ => leS_antisymm) hs (sortS_sorted l) (hp.trans (sortS_perm l).symm)

section
variable {c : Cx} {σ σ₁ σ₂ σ₃ : Sg} {fr : List (Addr × Obj)} {tmp : List (Value × Vl)} {h h' : Heap} {I : Mp} {ρ : List Addr} {m : Str → Option Value} {R : FD → Sg → Prop}

theorem Ew.sorted {x y : Str} {p q pos kp : Pos} {e : Expr} {f : Addr} {L : List Str} (hf : Ew c σ (.Name x p) (.d (.raw (.builtin "sorted"))) σ₁) (ha : Ew c σ₁ e (.d (.lst (L.map .str))) σ₂) (hk : Ew c σ₂ (.Name y q) (.d (.raw (.ref f))) σ₃) (hok : ∀ x ∈ L, FnOk { c with A := c.A.in1.in1 } (.ref f) [.str x] (.str x)) (h64 : L.length < 64) (he : starEach [e] c.env = (false, eval e c.env) :: starEach [] c.env := by rfl) : Ew c σ (.Call (.Name x p) [e] [⟨some (Str.ofString "key"), .Name y q, kp⟩] pos) (.d (.lst ((sortS L).map .str))) σ₃ := ⟨fun fr tm s Q E ht S hQ => by
  refine wpAny_Call_Name_kw (hf.run fr tm s _ E ht S fun v h' tk ht S' => ?_)
  rw [S'.raw (.head _)]
  have hb : backTo pos (starEach [e] c.env) = [(false, eval e c.env)] := by rw [he]; rfl
  refine callWith_builtin_kwB (by rw [hb]; rfl) rfl (evalArgs_kw2 rfl ?_ he)
  rw [hb]
  refine Calls.spliced_cons (ha.run fr tm _ _ E ht S'.pop fun l h2 tk2 ht2 S2 => Calls.spliced_nil (kwAll_cons (hk.run fr ((l, _) :: tm) _ _ E ht2 S2 fun fv h3 tk3 ht3 S3 => kwAll_nil ?_)))
  rw [S3.raw (.head _)]
  obtain ⟨I, ρ, m, S3⟩ := S3
  obtain ⟨a, vs, n, rfl, h1, g, r⟩ := S3.lstAt (.tail _ (.head _))
  have hl := r.length
  rw [List.length_map] at hl
  refine sk_sorted (kz := L) (f := .ref f) (lobj_isList g) hl.symm (by first | decide | omega) ht3 (ksk_s1 _ _) (fun _ => ksk_l1 _ _) (fun b => ksk_t1 f b) (fun i v k hv hk' h₄ tk₄ ht₄ hsub => ?_) fun D₀ h₄ tk₄ out c' ht₄ hsub hD gD ⟨ps, hp, ho, hpw⟩ => ?_
  · obtain ⟨d, e1, e2⟩ := r.getV hv
    rw [List.getElem?_map, hk'] at e1
    cases e1
    refine hok k (List.mem_of_getElem? hk') I { s with heap := h₄, toks := tk₄ } [v] _ _ ht₄ (fun b o q => hsub _ _ (S3.base b o q)) (fun b o q => hsub _ _ (S3.imm b o q)) (.cons e2 .nil) fun u h₅ tk₅ J ht₅ k1 _ _ _ k2 => ?_
    obtain ⟨t, rfl⟩ := k2.str_inv
    exact ⟨h₅, tk₅, t, rfl, ht₅, rfl, k1⟩
  · have e1 : ps.map Prod.fst = sortS L := by
      refine sortS_unique ?_ ?_
      · have := hp.map Prod.fst
        rwa [List.map_fst_zip (by first | decide | omega)] at this
      · rw [List.pairwise_map]; exact hpw
    have hreps : ∀ {ps : List (Str × Value)}, (∀ q ∈ ps, q ∈ L.zip vs) → Reps I (ps.map Prod.snd) ((ps.map Prod.fst).map .str) := by
      intro ps
      induction ps with
      | nil => intro _; exact .nil
      | cons q ps ih =>
        intro hq
        refine .cons ?_ (ih fun q' h' => hq q' (.tail _ h'))
        have hm := hq q (.head _)
        obtain ⟨i, hi⟩ := List.getElem?_of_mem hm
        rw [List.getElem?_zip_eq_some] at hi
        obtain ⟨d, e1, e2⟩ := r.getV hi.2
        rw [List.getElem?_map, hi.1] at e1
        cases e1
        exact e2
    have hR := hreps (ps := ps) fun q hq => hp.mem_iff.mp hq
    rw [e1, ← ho] at hR
    have hIn : I D₀ = none := by
      cases e : I D₀ with
      | none => rfl
      | some o => have := S3.imm _ _ e; rw [hD] at this; cases this
    have S4 := S3.sub (tmp' := tm) fun _ hp => .tail _ (.tail _ hp)
    refine hQ _ h₄ tk₄ ht₄ ⟨fun b => if b = D₀ then some (lobj out.toList c') else I b, ρ, m, ((S4.ext (h' := h₄) hsub (upd_none I hIn) (fun b o' e => ?_) fun b o' e => ?_).push (.d (.lst (vs := out.toList) (n := c') (by simp) (hR.mono (upd_none I hIn)))))⟩
    · by_cases hb : b = D₀
      · subst hb; simp only [if_true] at e; cases e; rw [gD]; simp [lobj, seqObj]
      · simp only [if_neg hb] at e; exact hsub _ _ (S4.imm _ _ e)
    · by_cases hb : b = D₀
      · subst hb; exact .inr hD
      · simp only [if_neg hb] at e; exact .inl e⟩

/-! ### list >= list -/
noncomputable def geI : List Int → List Int → Bool
  | _, [] => true
  | [], _ :: _ => false
  | a :: r, b :: t => if a = b then geI r t else decide (b ≤ a)
theorem ge_loop {l b : Addr} {L M : List Int} {items items2 : Array Value} {n n2 : Nat} (h1 : ∀ j (h : j < L.length), ∃ t, items[j]? = some (.int L[j] t)) (h2 : ∀ j (h : j < M.length), ∃ t, items2[j]? = some (.int M[j] t)) (z1 : items.size = L.length) (z2 : items2.size = M.length)
    (hLM : L.length = M.length) : ∀ (k i : Nat), L.length - i = k →
    Meets (Builtin.«list.__eq__.loop» ⟨[.ref l, .ref b, rawInt i, rawInt 5], []⟩)
      (fun A R s => s.heap.get? l = some { cls := .type "list", dict := none, data := .seq items n, slots := #[] } ∧ s.heap.get? b = some { cls := .type "list", dict := none, data := .seq items2 n2, slots := #[] } ∧
        R (.ok (.ret (.bool (geI (L.drop i) (M.drop i))))) s) := by
  intro k
  induction k with
  | zero =>
    intro i hk prog w A R s h
    obtain ⟨hp, g, d, tk, os⟩ := s; obtain ⟨hl, hb, h⟩ := h
    wp_walk using AutoSeq1.wpAny_loadPart' hl, AutoSeq1.wpAny_loadPart' hb
    have hi1 : items[((i : Nat) : Int).toNat]? = none := by simp; omega
    have hi2 : items2[((i : Nat) : Int).toNat]? = none := by simp; omega
    rw [List.drop_of_length_le (by first | decide | omega), List.drop_of_length_le (by first | decide | omega)] at h
    rw [hi1, hi2]
    wp_walk using AutoSeq1.wpAny_loadPart' hl, AutoSeq1.wpAny_loadPart' hb
    show R (.ok (.ret (.bool (decide (items.size ≥ items2.size))))) _
    rw [decide_eq_true (by first | decide | omega)]
    exact h
  | succ k ih =>
    intro i hk prog w A R s h
    obtain ⟨hp, g, d, tk, os⟩ := s; obtain ⟨hl, hb, h⟩ := h
    wp_walk using AutoSeq1.wpAny_loadPart' hl, AutoSeq1.wpAny_loadPart' hb
    have hlt : i < L.length := by omega
    have hlt2 : i < M.length := by omega
    obtain ⟨t, q1⟩ := h1 i hlt
    obtain ⟨u, q2⟩ := h2 i hlt2
    have hi1 : items[((i : Nat) : Int).toNat]? = some (.int L[i] t) := by rw [Int.toNat_natCast]; exact q1
    have hi2 : items2[((i : Nat) : Int).toNat]? = some (.int M[i] u) := by rw [Int.toNat_natCast]; exact q2
    have hc : ((i : Int) + 1) = ((i + 1 : Nat) : Int) := by push_cast; rfl
    rw [List.drop_eq_getElem_cons hlt, List.drop_eq_getElem_cons hlt2, geI] at h
    rw [hi1, hi2]
    refine wpAny_bind (SeqAt.EqAt.int_int L[i] t M[i] u prog w _ _ ?_)
    by_cases hb' : L[i] = M[i]
    · rw [if_pos hb'] at h
      rw [beq_iff_eq.mpr hb']
      wp_walk
      rw [hc]
      exact ⟨plainId_quiet MeetsSeq3.plain_eq_loop _, codeAny_builtin MeetsSeq3.entry_eq_loop (by
        rw [Around.under_plainId MeetsSeq3.plain_eq_loop _]
        exact ih (i + 1) (by first | decide | omega) prog w A R _ ⟨hl, hb, h⟩)⟩
    · rw [if_neg hb'] at h
      rw [beq_eq_false_iff_ne.mpr hb']
      wp_walk using AutoSeq1.wpAny_loadPart' hl, AutoSeq1.wpAny_loadPart' hb
      rw [hi1, hi2]
      refine wpAny_bind ?_
      exact PyProof.Rows.ge_int (wpAny_pure h)
theorem list_geAt {l b : Addr} {L M : List Int} {items items2 : Array Value} {n n2 : Nat} (h1 : ∀ j (h : j < L.length), ∃ t, items[j]? = some (.int L[j] t)) (h2 : ∀ j (h : j < M.length), ∃ t, items2[j]? = some (.int M[j] t)) (z1 : items.size = L.length) (z2 : items2.size = M.length)
    (hLM : L.length = M.length) : Meets (Builtin.«list.__ge__» ⟨[.ref l, .ref b], []⟩)
      (fun A R s => s.heap.get? l = some { cls := .type "list", dict := none, data := .seq items n, slots := #[] } ∧ s.heap.get? b = some { cls := .type "list", dict := none, data := .seq items2 n2, slots := #[] } ∧
        R (.ok (.ret (.bool (geI L M)))) s) := by
  intro prog w A R s h
  obtain ⟨hp, g, d, tk, os⟩ := s; obtain ⟨hl, hb, h⟩ := h
  have f3 := AutoSeq1.sub_list_list
  wp_walk using AutoSeq1.wpAny_loadPart' hl, AutoSeq1.wpAny_loadPart' hb
  exact ⟨plainId_quiet MeetsSeq3.plain_eq_loop _, codeAny_builtin MeetsSeq3.entry_eq_loop (by
    rw [Around.under_plainId MeetsSeq3.plain_eq_loop _]
    exact ge_loop h1 h2 z1 z2 hLM _ 0 rfl prog w A R _ ⟨hl, hb, by simpa using h⟩)⟩
theorem Op2.ge_ints {L M : List Int} (hr : Room c.A 1) (hLM : L.length = M.length) : Op2 c σ (.d (.lst (L.map .int))) (.d (.lst (M.map .int))) (compareOp .GtE) (.d (.bool (geI L M))) σ := fun v w => Cm.mk fun fr tm s Q E ht S hQ => by
  obtain ⟨I, ρ, m, S⟩ := S
  obtain ⟨b, us, k2, rfl, _, gb, rb⟩ := S.lstAt (.head _)
  obtain ⟨a, vs, k1, rfl, _, ga, ra⟩ := S.lstAt (.tail _ (.head _))
  have l1 := ra.length
  have l2 := rb.length
  rw [List.length_map] at l1 l2
  have getter : ∀ {L : List Int} {vs : List Value}, Reps I vs (L.map .int) → ∀ j (h : j < L.length), ∃ t, vs.toArray[j]? = some (.int L[j] t) := fun {L vs} r j h => by
    obtain ⟨v, e1, e2⟩ := r.get (k := j) (d := .int L[j]) (by rw [List.getElem?_map, List.getElem?_eq_getElem h]; rfl)
    obtain ⟨t, rfl⟩ := e2.int_inv
    exact ⟨t, by rw [List.getElem?_toArray]; exact e1⟩
  show wpAny _ _ (richCompare .GtE (.ref a) (.ref b)) Q E s
  exact richCompare_meets_room (op := .GtE) ⟨_, ga, rfl⟩ ⟨_, gb, rfl⟩ F.slot_list_ge F.entry_list_ge (F.args_list_ge_2 _ _) (list_geAt (getter ra) (getter rb) (by simpa using l1) (by simpa using l2) hLM)
    ⟨ga, gb, show Value.bool (geI L M) ≠ Value.notImplemented ∧ Q (.bool (geI L M)) s from ⟨(fun x => nomatch x), hQ _ s.heap s.toks ⟨I, ρ, m, (S.sub fun _ hp => .tail _ (.tail _ hp)).push (.d (.bool _))⟩⟩⟩ (by have := hr.units; omega)
end
end Mine
end TR10

section TR11
open PySem PySem.W PySem.Calls PyProof.Rows
set_option autoImplicit false
set_option linter.unusedVariables false
set_option Elab.async false
set_option maxRecDepth 100000
namespace Mine

section
variable {c : Cx} {σ σ₁ σ₂ σ₃ : Sg} {R : FD → Sg → Prop}
theorem while_core {test : Expr} {body orelse : List Stmt} {n : Nat} {Inv : Nat → Sg → Prop} {fr : List (Addr × Obj)} {tm : List (Value × D)} {s : Shared} {RR : Result → Shared → Prop}
    (step : ∀ i σ, i < n → Inv i σ → ∃ σ', Tr c σ test true σ' ∧ Ws c σ' body (LoopR c R (Inv (i + 1)))) (done : ∀ σ, Inv n σ → ∃ σ', Tr c σ test false σ' ∧ Ws c σ' orelse R) (ht : 1 ≤ s.toks) (hI : Inv 0 σ) (S : St c σ fr (dt tm) s.heap)
    (hQ : Post c fr tm R (fun f s' => RR (.ok f) s') s) : codeAny c.M c.A (.whileLoop test body orelse c.env) RR s := by
  refine codeAny_whileLoop (TurnI c Inv (fun _ os => os = []) fr (dt tm) n s) ?_ _ (.mk (os := []) ht rfl hI S (Nat.zero_le _))
  rintro _ _ @⟨i, σ, _, h, tk, ht, rfl, hIi, Si, hin⟩
  by_cases hlt : i < n
  · obtain ⟨σ', ha, hb⟩ := step i σ hlt hIi
    refine ha fr (dt tm) { s with heap := h, toks := tk } _ _ ht Si fun h₂ tk₂ ht S₂ => ?_
    rw [if_pos rfl]
    exact turn_body (s := s) (RR := RR) (P := fun _ os => os = []) (os := []) hb hlt rfl ht S₂ (fun _ hp => hp) hQ
  · cases Nat.le_antisymm hin (Nat.not_lt.mp hlt)
    obtain ⟨σ', ha, hb⟩ := done σ hIi
    refine ha fr (dt tm) { s with heap := h, toks := tk } _ _ ht Si fun h₂ tk₂ ht S₂ => ?_
    rw [if_neg Bool.false_ne_true]
    exact hb fr tm _ _ _ ht S₂ fun f fd σ'' h₃ tk₃ ht hr hf => hQ f fd σ'' h₃ tk₃ ht hr hf
theorem WX.while_ {test : Expr} {body orelse : List Stmt} {pos : Pos} {n : Nat} (Inv : Nat → Sg → Prop) (h0 : ∃ σ', Sle c σ σ' ∧ Inv 0 σ') (step : ∀ i σ, i < n → Inv i σ → ∃ σ', TrW c σ test true σ' ∧ WS c σ' body (LoopR c R (Inv (i + 1)))) (done : ∀ σ, Inv n σ → ∃ σ', TrW c σ test false σ' ∧ WS c σ' orelse R) : WX c σ (.While test body orelse pos) R := ⟨fun fr tm s Q E ht S hQ => by
  obtain ⟨σ₀, hle₀, h0⟩ := h0
  exact wpAny_While (while_core (fun i σ hi hI => let ⟨σ', a, b⟩ := step i σ hi hI; ⟨σ', a.run, b.run⟩) (fun σ hI => let ⟨σ', a, b⟩ := done σ hI; ⟨σ', a.run, b.run⟩) ht h0 (hle₀ _ _ _ S) hQ)⟩

/-! ### methods, as expressions -/
theorem Ew.append {o a : Expr} {apos pos : Pos} {k : Nat} {xs : List Vl} {x : Vl} (h1 : Ew c σ o (.m k) σ₁) (h2 : Ew c σ₁ a x σ₂) (hm0 : ∃ ys, σ₁.mu[k]? = some (.list ys)) (hm : σ₂.mu[k]? = some (.list xs)) (hsm : xs.length ≤ 1000000) (hline : (apos.endLine == pos.line) = true := by rfl) (he : starEach [a] c.env = (false, eval a c.env) :: starEach [] c.env := by rfl) (hbase : attributeBase o "append" c.env (eval o c.env) = eval o c.env := by rfl) (hfew : ((backTo pos (starEach [a] c.env)).all (fun x => !x.1) && (backToKw pos (keywordEach [] c.env)).all (fun x => x.1.isSome) && decide ([a].length + ([] : List Keyword).length + (if ([] : List Keyword).isEmpty then 0 else 1) < 30)) = true := by rfl) : Ew c σ (.Call (.Attribute o "append" apos) [a] [] pos) (.d .none) { σ₂ with mu := σ₂.mu.set k (.list (xs ++ [x])) } := ⟨by
  obtain ⟨ys, hm0⟩ := hm0
  exact Ev.meth h1.run (Evs.cons h2.run Evs.nil he) (HasT.mut hm0) (OpN.append hm hsm) F.plainAttrs_list F.slot_list_append F.type_list_append hline he rfl hbase hfew⟩
theorem Ew.extend {o a : Expr} {apos pos : Pos} {k : Nat} {xs : List Vl} {ds : List D} (h1 : Ew c σ o (.m k) σ₁) (h2 : Ew c σ₁ a (.d (.lst ds)) σ₂) (hm0 : ∃ ys, σ₁.mu[k]? = some (.list ys)) (hm : σ₂.mu[k]? = some (.list xs)) (hsm : xs.length + ds.length ≤ 1000000) (hline : (apos.endLine == pos.line) = true := by rfl) (he : starEach [a] c.env = (false, eval a c.env) :: starEach [] c.env := by rfl) (hbase : attributeBase o "extend" c.env (eval o c.env) = eval o c.env := by rfl) (hfew : ((backTo pos (starEach [a] c.env)).all (fun x => !x.1) && (backToKw pos (keywordEach [] c.env)).all (fun x => x.1.isSome) && decide ([a].length + ([] : List Keyword).length + (if ([] : List Keyword).isEmpty then 0 else 1) < 30)) = true := by rfl) : Ew c σ (.Call (.Attribute o "extend" apos) [a] [] pos) (.d .none) { σ₂ with mu := σ₂.mu.set k (.list (xs ++ ds.map .d)) } := ⟨by
  obtain ⟨ys, hm0⟩ := hm0
  exact Ev.meth h1.run (Evs.cons h2.run Evs.nil he) (HasT.mut hm0) (OpN.extend hm hsm) F.plainAttrs_list F.slot_list_extend F.type_list_extend hline he rfl hbase hfew⟩
theorem Ew.pop {o : Expr} {apos pos : Pos} {k : Nat} {xs : List Vl} {x : Vl} (h1 : Ew c σ o (.m k) σ₁) (hm : σ₁.mu[k]? = some (.list (xs ++ [x]))) (hsm : xs.length ≤ 1000000) (hline : (apos.endLine == pos.line) = true := by rfl) (hbase : attributeBase o "pop" c.env (eval o c.env) = eval o c.env := by rfl) : Ew c σ (.Call (.Attribute o "pop" apos) [] [] pos) x { σ₁ with mu := σ₁.mu.set k (.list xs) } :=
 ⟨Ev.meth0 h1.run (HasT.mut hm) (OpN.pop hm hsm) F.plainAttrs_list F.slot_list_pop F.type_list_pop hline hbase⟩
/-- a method of data -/
theorem Ew.methL {o a : Expr} {as : List Expr} {name : Str} {apos pos : Pos} {id : String} {ds : List D} {xs : List Vl} {x : Vl} (h1 : Ew c σ o (.d (.lst ds)) σ₁) (h2 : EWs c σ₁ (a :: as) xs σ₂) (h3 : OpN c σ₂ (.d (.lst ds)) xs (fun ov vs => PySem.call (.builtin id) (ov :: vs)) x σ₃) (slot : Slot "list" name id) (ty : typeOf (.builtin id) = pure (.type "method_descriptor")) (hline : (apos.endLine == pos.line) = true := by rfl) (he : starEach (a :: as) c.env = (false, eval a c.env) :: starEach as c.env := by rfl) (hp : (backTo pos (starEach as c.env)).any (·.1) = false := by rfl) (hbase : attributeBase o name c.env (eval o c.env) = eval o c.env := by rfl) (hfew : ((backTo pos (starEach (a :: as) c.env)).all (fun x => !x.1) && (backToKw pos (keywordEach [] c.env)).all (fun x => x.1.isSome) && decide ((a :: as).length + ([] : List Keyword).length + (if ([] : List Keyword).isEmpty then 0 else 1) < 30)) = true := by rfl) : Ew c σ (.Call (.Attribute o name apos) (a :: as) [] pos) x σ₃ := ⟨Ev.meth h1.run h2.run HasT.lst h3 F.plainAttrs_list slot ty hline he hp hbase hfew⟩
theorem Ew.methS {o a : Expr} {as : List Expr} {name : Str} {apos pos : Pos} {id : String} {y : Str} {xs : List Vl} {x : Vl} (h1 : Ew c σ o (.d (.str y)) σ₁) (h2 : EWs c σ₁ (a :: as) xs σ₂) (h3 : OpN c σ₂ (.d (.str y)) xs (fun ov vs => PySem.call (.builtin id) (ov :: vs)) x σ₃) (slot : Slot "str" name id) (ty : typeOf (.builtin id) = pure (.type "method_descriptor")) (hline : (apos.endLine == pos.line) = true := by rfl) (he : starEach (a :: as) c.env = (false, eval a c.env) :: starEach as c.env := by rfl) (hp : (backTo pos (starEach as c.env)).any (·.1) = false := by rfl) (hbase : attributeBase o name c.env (eval o c.env) = eval o c.env := by rfl) (hfew : ((backTo pos (starEach (a :: as) c.env)).all (fun x => !x.1) && (backToKw pos (keywordEach [] c.env)).all (fun x => x.1.isSome) && decide ((a :: as).length + ([] : List Keyword).length + (if ([] : List Keyword).isEmpty then 0 else 1) < 30)) = true := by rfl) : Ew c σ (.Call (.Attribute o name apos) (a :: as) [] pos) x σ₃ := ⟨Ev.meth h1.run h2.run HasT.str h3 F.plainAttrs_str slot ty hline he hp hbase hfew⟩

/-! ### comprehensions, their items told as a list -/
theorem comp_items {α β : Type} (L : List α) (a0 : α) (f : α → D) (g : β → D) (h : α → β) (hf : ∀ a, f a = g (h a)) : (List.range L.length).map (fun i => f (L.getD i a0)) = (L.map h).map g := by
  apply List.ext_getElem (by simp)
  intro i h1 h2
  simp only [List.length_map, List.length_range] at h1
  simp [List.getElem?_eq_getElem h1, hf]
theorem Ew.compL {elt iter : Expr} {x : Str} {px : Pos} {scope : Scope} {cl : List (Str × Addr)} {pos : Pos} {n : Nat} {it : Nat → D} (fl : List (Str × D)) (el : Nat → D) (ds : List D) (hi : ItW c σ iter n it σ₁) (hclos : closureFor scope c.env = pure cl) (hcaps : Caps c σ₁ cl fl) (hsz : n ≤ sizeLine) (hx : scope.names.lookup x = some .local) (helt : ∀ (C : Addr) (B Ia : Mp) (i : Nat) (xs : List Vl), i < n → Sub c.B B → Ew (cxComp c scope cl C B Ia) (sgC [(x, .d (it i))] xs fl) elt (.d (el i)) (sgC [(x, .d (it i))] xs fl)) (hd : (List.range n).map el = ds) (hcell : ∀ y ∈ scope.names, y.2 ≠ .cell := by decide +kernel) (hnames : ∀ y ∈ scope.names, y.2 = .local → scope.names.lookup y.1 = some .local := by decide +kernel) (hkind : scope.kind = .function := by rfl) (hs : ∀ x, foldedSetIterable iter c.env x = pure x := by intro _; rfl) : Ew c σ (.ListComp elt [⟨.Name x px, iter, [], 0⟩] scope pos) (.d (.lst ds)) σ₁ := ⟨hd ▸ Ev.comp hi.run hclos hcaps hsz hx (fun C B Ia i xs hi hB => (helt C B Ia i xs hi hB).run) hcell hnames hkind hs⟩
theorem WX.assign_compL {elt iter : Expr} {x y : Str} {px py : Pos} {scope : Scope} {cl : List (Str × Addr)} {pos spos : Pos} {n : Nat} {it : Nat → D} (fl : List (Str × D)) (el : Nat → D) (ds : List D) (hi : ItW c σ iter n it σ₁) (hclos : closureFor scope c.env = pure cl) (hcaps : Caps c σ₁ cl fl) (hsz : n ≤ sizeLine) (hx : scope.names.lookup x = some .local) (helt : ∀ (C : Addr) (B Ia : Mp) (i : Nat) (xs : List Vl), i < n → Sub c.B B → Ew (cxComp c scope cl C B Ia) (sgC [(x, .d (it i))] xs fl) elt (.d (el i)) (sgC [(x, .d (it i))] xs fl)) (hd : (List.range n).map el = ds) (ha : AsW c σ₁ (.Name y py) (.d (.lst ds)) σ₂) (hr : R .next σ₂) (hsw : swapsWith (.ListComp elt [⟨.Name x px, iter, [], 0⟩] scope pos) (some (.Name y py)) spos.line c.env = pure true := by rfl) (hcell : ∀ y ∈ scope.names, y.2 ≠ .cell := by decide +kernel) (hnames : ∀ y ∈ scope.names, y.2 = .local → scope.names.lookup y.1 = some .local := by decide +kernel) (hkind : scope.kind = .function := by rfl) (hs : ∀ x, foldedSetIterable iter c.env x = pure x := by intro _; rfl) : WX c σ (.Assign [.Name y py] (.ListComp elt [⟨.Name x px, iter, [], 0⟩] scope pos) spos) R := ⟨by subst hd; exact Wx.assign_comp hi.run hclos hcaps hsz hx (fun C B Ia i xs hi hB => (helt C B Ia i xs hi hB).run) ha.run hr hsw hcell hnames hkind hs⟩
theorem WX.assign_compML {elt iter : Expr} {x y : Str} {px py : Pos} {scope : Scope} {cl : List (Str × Addr)} {pos spos : Pos} {n : Nat} {it : Nat → D} (fl : List (Str × D)) (el : Nat → D) (ds : List D) (hi : ItW c σ iter n it σ₁) (hclos : closureFor scope c.env = pure cl) (hcaps : Caps c σ₁ cl fl) (hsz : n ≤ sizeLine) (hx : scope.names.lookup x = some .local) (helt : ∀ (C : Addr) (B Ia : Mp) (i : Nat) (xs : List Vl), i < n → Sub c.B B → Ew (cxComp c scope cl C B Ia) (sgC [(x, .d (it i))] xs fl) elt (.d (el i)) (sgC [(x, .d (it i))] xs fl)) (hd : (List.range n).map el = ds) (ha : AsW c { σ₁ with mu := σ₁.mu ++ [.list (ds.map .d)] } (.Name y py) (.m σ₁.mu.length) σ₂) (hr : R .next σ₂) (hsw : swapsWith (.ListComp elt [⟨.Name x px, iter, [], 0⟩] scope pos) (some (.Name y py)) spos.line c.env = pure true := by rfl) (hcell : ∀ y ∈ scope.names, y.2 ≠ .cell := by decide +kernel) (hnames : ∀ y ∈ scope.names, y.2 = .local → scope.names.lookup y.1 = some .local := by decide +kernel) (hkind : scope.kind = .function := by rfl) (hs : ∀ x, foldedSetIterable iter c.env x = pure x := by intro _; rfl) : WX c σ (.Assign [.Name y py] (.ListComp elt [⟨.Name x px, iter, [], 0⟩] scope pos) spos) R := ⟨by subst hd; exact Wx.assign_compM hi.run hclos hcaps hsz hx (fun C B Ia i xs hi hB => (helt C B Ia i xs hi hB).run) ha.run hr hsw hcell hnames hkind hs⟩
end
end Mine
end TR11

section TR12
open PySem PySem.W PySem.Calls PyProof.Rows
set_option autoImplicit false
set_option linter.unusedVariables false
set_option Elab.async false
namespace Mine
variable {c : Cx}
theorem Ew.dictZ {σ σ₁ : Sg} {keys : List (Option Expr)} {values : List Expr} {pos : Pos} {kvs : List (Str × D)} (hps : Ps c σ ((keys.filterMap id).zip values) kvs σ₁) (hn : (kvs.map (·.1)).Nodup) (h0 : ((keys.filterMap id).zip values).isEmpty = false) (hlen : ((keys.filterMap id).zip values).length ≤ 15) (hm : ∃ o, c.B sysModules = some o) (hshape : (evalEachOpt keys c.env).zip ((evalEach values c.env).map fun v => do let x ← v; standAt pos; pure x) = ((keys.filterMap id).zip values).map fun p => (some (eval p.1 c.env), (do let x ← eval p.2 c.env; standAt pos; pure x))) : Ew c σ (.Dict keys values pos) (.d (.sd c.prog c.w kvs)) σ₁ := ⟨Ev.dict hps hn (by intro e; rw [e] at h0; cases h0) hlen hm hshape⟩

theorem ew_slice_strE {σ σ₁ σ₂ σ₃ : Sg} {value : Expr} {lower upper : Option Expr} {p pos : Pos} {x y : Str} {lo hi : Option Int} (hy : StrLaws.sliceText x lo hi = y) (h1 : Ew c σ value (.d (.str x)) σ₁) (h2 : EvP c σ₁ lower lo σ₂) (h3 : EvP c σ₂ upper hi σ₃) (hsz : y.length ≤ 1000000) (ht : ∀ o r, letTemporaryGo value o r = pure () := by intro _ _; rfl) : Ew c σ (.Subscript value (.Slice lower upper none p) pos) (.d (.str y)) σ₃ := ⟨by subst hy; exact Ev.slice_str h1.run h2 h3 hsz ht⟩
theorem Ev.cast {σ σ₁ σ₂ : Sg} {e : Expr} {x : Vl} (h : Ev c σ e x σ₁) (he : σ₁ = σ₂) : Ev c σ e x σ₂ := he ▸ h
theorem TrW.of_intB {σ σ₁ : Sg} {e : Expr} {i : Int} {b : Bool} (hb : (i != 0) = b) (h : Ew c σ e (.d (.int i)) σ₁) (he : ∀ whole, isTrue e c.env whole = (do let v ← whole; standAt e.pos; holding [v] (truthy v)) := by intro _; rfl) : TrW c σ e b σ₁ := ⟨hb ▸ Tr.of_int h.run he⟩
end Mine
end TR12

section TE1
open PySem PySem.W PySem.Calls
set_option autoImplicit false
set_option linter.unusedVariables false
set_option Elab.async false
namespace Mine

noncomputable def enumObj (it : Addr) (i : Int) (old : Value) : Obj := { cls := .type "enumerate", dict := none, data := .fields #[.none, .bool false, .ref it, rawInt i, .none, old], slots := #[] }
noncomputable def PEn (ae ai ax : Addr) (i : Nat) (os : List (Addr × Obj)) : Prop := ∃ o old, os = [(ae, enumObj ai i old), (ai, o)] ∧ o.cls = .type "list_iterator" ∧ o.data = .fields #[.ref ax, .int i 0]

section
variable {c : Cx} {σ σ₁ σ₂ σ₃ : Sg} {R : FD → Sg → Prop}

theorem enum_item {ts : List Expr} {x1 : Nat} {tp : Pos} {ae ai ax : Addr} {ds : List D} {d : D} {fr : List (Addr × Obj)} {tm : List (Value × Vl)} {i : Nat} {os : List (Addr × Obj)} {s : Shared} {K : Value → Shared → Prop} {E : Value → Shared → Prop}
    (hP : PEn ae ai ax i os) (hd : ds[i]? = some d) (hm : (Value.ref ax, Vl.d (.lst ds)) ∈ tm) (ht : 1 ≤ s.toks) (S : St c σ (os ++ fr) tm s.heap)
    (hK : ∀ v h' tk os', PEn ae ai ax (i + 1) os' → 1 ≤ tk → St c σ (os' ++ fr) ((v, .d (.tup [.int i, d])) :: tm) h' → K v { s with heap := h', toks := tk }) :
    wpAny c.M c.A (pyNext (.ref ae)) (fun r s₁ => ∃ v, r = some v ∧ wpAny c.M c.A (letOwnedTupleGo (.Tuple ts x1 tp) (.ref ae) v) (fun _ s₂ => K v s₂) E s₁) E s := by
  obtain ⟨o, old, rfl, hc, hdt⟩ := hP
  obtain ⟨I, ρ, m, S⟩ := S
  obtain ⟨ax', vs, n, e, h1, r⟩ := (S.tmk _ hm).d_inv.lst_inv
  cases e
  obtain ⟨ge, e1, e2, e3, e4⟩ := S.frk _ (List.mem_append_left _ (.head _))
  obtain ⟨gi, i1, i2, i3, i4⟩ := S.frk _ (List.mem_append_left _ (.tail _ (.head _)))
  have hnd := S.frnd
  rw [List.map_append, List.nodup_append] at hnd
  obtain ⟨hnd1, hnd2, hnd3⟩ := hnd
  have hne : ae ≠ ai := fun q => by subst q; simp at hnd1
  obtain ⟨v, hv, hr⟩ := r.get hd
  refine wpAny_pyNext_enum_item (l := ax) (items := vs.toArray) (i := i) (x := v) ge ⟨o, gi, hc, hdt⟩ ⟨_, S.imm _ _ h1, rfl, n, rfl⟩ (by rw [List.getElem?_toArray]; exact hv) hne fun h₁ heo hit₁ ht₁ hz₁ hk₁ => ⟨_, rfl, ?_⟩
  refine wpAny_letOwnedTupleGo_enum heo fun h₂ he₂ hs₂ => ?_
  have f0 := S.fresh
  have hk₂ : ∀ b o, b ≠ ae → b ≠ ai → s.heap.get? b = some o → h₂.get? b = some o := fun b o hb1 hb2 e => (hs₂.2 b hb1).trans (hk₁ b o hb1 hb2 e)
  have above : s.heap.get? s.heap.objs.size = none := by
    cases e : s.heap.get? s.heap.objs.size with
    | none => rfl
    | some o => exact absurd (Heap.lt_size e) (Nat.lt_irrefl _)
  have hnes : s.heap.objs.size ≠ ae := fun q => by rw [q, ge] at above; cases above
  have hnis : s.heap.objs.size ≠ ai := fun q => by rw [q, gi] at above; cases above
  have gt : h₂.get? s.heap.objs.size = some (tobj [.int i s.toks, v] 0) := (hs₂.2 _ hnes).trans ht₁
  obtain ⟨oi', gi', hc', hd'⟩ : h₂.IsListIter ai ax (i + 1) := hit₁.extBut hs₂.extBut (Ne.symm hne)
  have hJ : Sub I (fun b => if b = s.heap.objs.size then some (tobj [.int i s.toks, v] 0) else I b) := upd_none I f0.1
  have S₂ : StI c σ fr tm h₂ (fun b => if b = s.heap.objs.size then some (tobj [.int i s.toks, v] 0) else I b) ρ m := by
    refine S.extX (os := [(ae, enumObj ai i old), (ai, o)]) (fun b o' hb e => ?_) hJ (fun b o' e => ?_) fun b o' e => ?_
    · simp only [List.map_cons, List.map_nil, List.mem_cons, List.not_mem_nil, or_false, not_or] at hb
      exact hk₂ b o' hb.1 hb.2 e
    · by_cases hb : b = s.heap.objs.size
      · subst hb; simp only [if_true] at e; cases e; exact gt
      · simp only [if_neg hb] at e
        exact hk₂ b o' (fun q => by rw [q, e1] at e; cases e) (fun q => by rw [q, i1] at e; cases e) (S.imm b o' e)
    · by_cases hb : b = s.heap.objs.size
      · subst hb; exact .inr above
      · simp only [if_neg hb] at e; exact .inl e
  have hae : ae ∉ fr.map (·.1) := fun q => hnd3 ae (by simp) ae q rfl
  have hai : ai ∉ fr.map (·.1) := fun q => hnd3 ai (by simp) ai q rfl
  have S₃ := S₂.addFr gi' (by simp only [if_neg (Ne.symm hnis)]; exact i1) i2 i3 i4 hai
  have S₄ := S₃.addFr he₂ (by simp only [if_neg (Ne.symm hnes)]; exact e1) e2 e3 e4 (by rw [List.map_cons, List.mem_cons, not_or]; exact ⟨hne, hae⟩)
  have hcast : ((i + 1 : Nat) : Int) = (i : Int) + 1 := by push_cast; rfl
  refine hK (.ref s.heap.objs.size) h₂ (s.toks + 1) [(ae, enumObj ai ((i + 1 : Nat) : Int) v), (ai, oi')] ⟨oi', v, rfl, hc', hd'⟩ (by first | decide | omega) ⟨(fun b => if b = s.heap.objs.size then some (tobj [.int i s.toks, v] 0) else I b), ρ, m, ?_⟩
  rw [hcast]
  refine StI.push S₄ (.d (.tup (n := 0) (vs := [.int i s.toks, v]) (by simp) (.cons (.int _ _) (.cons (hr.mono hJ) .nil))))

theorem enum_done (hh : c.A.handled = none) {ae ai ax : Addr} {ds : List D} {fr : List (Addr × Obj)} {tm : List (Value × Vl)} {os : List (Addr × Obj)} {s : Shared} {K : Shared → Prop} {E : Value → Shared → Prop}
    (hP : PEn ae ai ax ds.length os) (hm : (Value.ref ax, Vl.d (.lst ds)) ∈ tm) (ht : 1 ≤ s.toks) (S : St c σ (os ++ fr) tm s.heap) (hK : ∀ h', St c σ fr tm h' → K { s with heap := h' }) :
    wpAny c.M c.A (pyNext (.ref ae)) (fun r s₁ => r = none ∧ K s₁) E s := by
  obtain ⟨o, old, rfl, hc, hdt⟩ := hP
  obtain ⟨I, ρ, m, S⟩ := S
  obtain ⟨ax', vs, n, e, h1, r⟩ := (S.tmk _ hm).d_inv.lst_inv
  cases e
  obtain ⟨ge, e1, e2, e3, e4⟩ := S.frk _ (List.mem_append_left _ (.head _))
  obtain ⟨gi, i1, i2, i3, i4⟩ := S.frk _ (List.mem_append_left _ (.tail _ (.head _)))
  refine wpAny_pyNext_enum_end hh (l := ax) (items := vs.toArray) ge ⟨o, gi, hc, hdt⟩ ⟨_, S.imm _ _ h1, rfl, n, rfl⟩ (by simp [r.length]) fun h' he => ⟨rfl, hK h' ⟨I, ρ, m, ?_⟩⟩
  refine S.extX (os := [(ae, enumObj ai ds.length old), (ai, o)]) (fun b o' hb e => ?_) (Sub.refl I) (fun b o' e => ?_) fun b o' e => .inl e
  · simp only [List.map_cons, List.map_nil, List.mem_cons, List.not_mem_nil, or_false, not_or] at hb
    exact he b o' hb.2 e
  · exact he b o' (fun q => by rw [q, i1] at e; cases e) (S.imm b o' e)

theorem enum_start {p1 p2 : Pos} {x : Str} {e : Expr} {ds : List D} (hn : Ev c σ (.Name x p1) (.d (.raw (.type "enumerate"))) σ₁) (hev : Ev c σ₁ e (.d (.lst ds)) σ₂)
    (he : starEach [e] c.env = (false, eval e c.env) :: starEach [] c.env) (hp : (backTo p2 (starEach [] c.env)).any (·.1) = false)
    {fr : List (Addr × Obj)} {tm : List (Value × Vl)} {s : Shared} {Q : Value → Shared → Prop} {E : Value → Shared → Prop} (ht : 1 ≤ s.toks) (S : St c σ fr tm s.heap)
    (hQ : ∀ ae ai ax os h' tk, PEn ae ai ax 0 os → 1 ≤ tk → St c σ₂ (os ++ fr) ((.ref ax, .d (.lst ds)) :: tm) h' → Q (.ref ae) { s with heap := h', toks := tk }) :
    wpAny c.M c.A (eval (.Call (.Name x p1) [e] [] p2) c.env) (fun y s₁ => wpAny c.M c.A (pyIter y) Q E s₁) E s := by
  refine wpAny_Call_NameR (hn fr tm s _ E ht S fun v h' tk ht S' => ?_)
  rw [S'.raw (.head _)]
  have hse : backTo p2 (starEach [e] c.env) = (false, eval e c.env) :: backTo p2 (starEach [] c.env) := by rw [he]; rfl
  have key := Evs.cons hev Evs.nil (he := he) fr tm { s with heap := h', toks := tk } (fun vs s₁ => wpAny c.M c.A (PySem.call (.type "enumerate") vs) (fun y s₁ => wpAny c.M c.A (pyIter y) Q E s₁) E s₁) E p2 ht S'.pop fun vs h'' tk'' hl ht S'' => ?_
  · rw [hse] at key ⊢
    exact PySem.callWith_type (by show (false || _) = false; rw [hp]; rfl) (evalArgs_plain key)
  · match vs, hl with
    | [v], _ =>
    obtain ⟨I, ρ, m, S⟩ := S''
    obtain ⟨ax, vs, n, rfl, h1, r⟩ := (S.tmk _ (.head _)).d_inv.lst_inv
    refine call_enumerate_list (l := ax) (items := vs.toArray) ⟨_, S.imm _ _ h1, rfl, n, rfl⟩ fun h₃ he₃ hit hz hk => wpAny_pyIter_enum he₃ ?_
    obtain ⟨oi, gi, hc, hd⟩ := hit
    have above : ∀ b, h''.objs.size ≤ b → h''.get? b = none := fun b hb => by
      cases e : h''.get? b with
      | none => rfl
      | some o => exact absurd (Heap.lt_size e) (Nat.not_lt.mpr hb)
    have iabove : ∀ b, h''.objs.size ≤ b → I b = none := fun b hb => by
      cases e : I b with
      | none => rfl
      | some o => have := S.imm _ _ e; rw [above b hb] at this; cases this
    have babove : ∀ b, h''.objs.size ≤ b → c.B b = none := fun b hb => by
      cases e : c.B b with
      | none => rfl
      | some o => have := S.base _ _ e; rw [above b hb] at this; cases this
    have rabove : ∀ b, h''.objs.size ≤ b → b ∉ ρ := fun b hb hm => by
      obtain ⟨o, e⟩ := S.mem hm; rw [above b hb] at e; cases e
    have fabove : ∀ b, h''.objs.size ≤ b → b ∉ fr.map (·.1) := fun b hb hm => by
      obtain ⟨p, hp, rfl⟩ := List.mem_map.mp hm
      have := (S.frk p hp).1; rw [above _ hb] at this; cases this
    have labove : ∀ b, h''.objs.size ≤ b → b ≠ c.env.locals := fun b hb q => by
      have := S.ns.lt; rw [← q] at this; exact absurd this (Nat.not_lt.mpr hb)
    have S1 := S.ext hk (Sub.refl I) (fun b o e => hk b o (S.imm b o e)) fun b o e => .inl e
    have S2 := S1.addFr gi (iabove _ (Nat.le_refl _)) (babove _ (Nat.le_refl _)) (labove _ (Nat.le_refl _)) (rabove _ (Nat.le_refl _)) (fabove _ (Nat.le_refl _))
    have S3 := S2.addFr he₃ (iabove _ (Nat.le_succ _)) (babove _ (Nat.le_succ _)) (labove _ (Nat.le_succ _)) (rabove _ (Nat.le_succ _)) (by rw [List.map_cons, List.mem_cons, not_or]; exact ⟨Nat.succ_ne_self _, fabove _ (Nat.le_succ _)⟩)
    exact hQ (h''.objs.size + 1) h''.objs.size ax [(h''.objs.size + 1, enumObj h''.objs.size ((0 : Nat) : Int) .none), (h''.objs.size, oi)] h₃ _ ⟨oi, .none, rfl, hc, hd⟩ ht ⟨I, ρ, m, S3⟩

theorem getD_getElem? {ds : List D} {i : Nat} (h : i < ds.length) : ds[i]? = some (ds.getD i .none) := by
  rw [List.getD_eq_getElem?_getD, List.getElem?_eq_getElem h]; rfl
theorem WX.for_enum {ts : List Expr} {x1 : Nat} {tp p1 p2 pos : Pos} {x : Str} {e : Expr} {body orelse : List Stmt} {ds : List D} (Inv : Nat → Sg → Prop) (hh : c.A.handled = none) (hn : Ew c σ (.Name x p1) (.d (.raw (.type "enumerate"))) σ₁) (hev : Ew c σ₁ e (.d (.lst ds)) σ₂) (h0 : ∃ σ', Sle c σ₂ σ' ∧ Inv 0 σ') (step : ∀ i σ d, ds[i]? = some d → Inv i σ → ∃ σ', AsW c σ (.Tuple ts x1 tp) (.d (.tup [.int i, d])) σ' ∧ WS c σ' body (LoopR c R (Inv (i + 1)))) (done : ∀ σ, Inv ds.length σ → WS c σ orelse R) (hs : ∀ y, foldedSetIterable (.Call (.Name x p1) [e] [] p2) c.env y = pure y := by intro _; rfl) (he : starEach [e] c.env = (false, eval e c.env) :: starEach [] c.env := by rfl) (hp : (backTo p2 (starEach [] c.env)).any (·.1) = false := by rfl) : WX c σ (.For (.Tuple ts x1 tp) (.Call (.Name x p1) [e] [] p2) body orelse pos) R := ⟨fun fr tm s Q E ht S hQ => by
  obtain ⟨σ₀, hle₀, h0⟩ := h0
  refine wpAny_For (enum_start hn.run hev.run he hp ht S fun ae ai ax os h' tk hP ht S' => ?_) hs
  exact for_core (tm' := (.ref ax, .lst ds) :: tm) (it := fun i => .tup [.int i, ds.getD i .none]) (P := PEn ae ai ax)
    (fun σ i os s K E hlt hPi ht Si hK => enum_item hPi (getD_getElem? hlt) (.head _) ht Si fun v h₁ tk₁ os' hP' ht S₁ => hK v h₁ tk₁ os' hP' ht S₁)
    (fun σ os s K E hPi ht Si hK => enum_done hh hPi (.head _) ht Si fun h₁ S₁ => hK h₁ _ ht S₁)
    (fun p hp => .tail _ hp) (fun i σ hlt hI => let ⟨σ', a, b⟩ := step i σ _ (getD_getElem? hlt) hI; ⟨σ', a.run, b.run⟩) (fun σ hI => (done σ hI).run) ht hP h0 (hle₀ _ _ _ S') hQ⟩
end
end Mine
end TE1

section TW
open PySem PySem.W PySem.Calls PyProof.Rows
set_option autoImplicit false
set_option linter.unusedVariables false
set_option Elab.async false
set_option maxRecDepth 100000
set_option maxHeartbeats 4000000
namespace Mine
/-! the rules once more, for judgments closed to the unifier (printed by mkw.py) -/
section
variable {c : Cx} {σ σ₁ σ₂ σ₃ : Sg} {R : FD → Sg → Prop} {mg mb : Str → Option Value}
theorem WS.nil (h : R .next σ) : WS c σ [] R := ⟨Ws.nil h⟩
/-- behind a statement: the rest, or the way out -/
noncomputable def WK (c : Cx) (rest : List Stmt) (R : FD → Sg → Prop) : FD → Sg → Prop
  | .next, σ => WS c σ rest R
  | fd, σ => R fd σ
theorem WS.cons {st : Stmt} {rest : List Stmt} (h : WX c σ st (WK c rest R)) : WS c σ (st :: rest) R :=
  ⟨Ws.cons (h.run.mono fun fd σ' hr => by cases fd <;> first | exact hr.run | exact hr)⟩
/-- falls through into a state -/
noncomputable abbrev SN (c : Cx) (σ₁ : Sg) : FD → Sg → Prop := fun fd σ' => fd = .next ∧ Sle c σ' σ₁
theorem SN.mk : SN c σ .next σ := ⟨rfl, Sle.refl _⟩
theorem WS.le {sts : List Stmt} (hs : Sle c σ σ₁) (h : WS c σ₁ sts R) : WS c σ sts R := ⟨Ws.le hs h.run⟩
theorem WX.mono {st : Stmt} {R' : FD → Sg → Prop} (h : WX c σ st R) (hr : ∀ fd σ', R fd σ' → R' fd σ') : WX c σ st R' := ⟨h.run.mono hr⟩
theorem WS.step {st : Stmt} {rest : List Stmt} (h : WX c σ st (SN c σ₁)) (k : WS c σ₁ rest R) : WS c σ (st :: rest) R := ⟨Ws.step h.run k.run⟩
theorem WX.if_f {test : Expr} {body orelse : List Stmt} {pos : Pos} (h : TrW c σ test false σ₁) (k : WS c σ₁ orelse R) : WX c σ (.If test body orelse pos) R := ⟨Wx.ite h.run k.run⟩
theorem AsLW.nil : AsLW c σ [] [] σ := ⟨rfl⟩
theorem AsLW.cons {t : Expr} {ts : List Expr} {d : D} {ds : List D} (h : AsW c σ t (.d d) σ₁) (k : AsLW c σ₁ ts ds σ₂) : AsLW c σ (t :: ts) (d :: ds) σ₂ := ⟨⟨σ₁, h.run, k.run⟩⟩
theorem Ew.gval (G : GX mg mb c) {x : Str} {p : Pos} {v : Value} (hv : mg x = some v) (hg : c.env.globals = mainGlobals := by rfl) (hl : c.env.kindOf x = some .globalImplicit := by rfl) (hk : c.env.scope.kind = .function := by rfl)
    (hd : (x == ("__debug__" : Str)) = false := by rfl) : Ew c σ (.Name x p) (.d (.raw v)) σ := ⟨Ev.gval G hv hg hl hk hd⟩
theorem Ew.gblt (G : GX mg mb c) {x : Str} {p : Pos} {v : Value} (hm : x ∈ bltNames) (hv : bootBuiltins x = some v) (hg : c.env.globals = mainGlobals := by rfl) (hb : c.env.builtins = builtinsNs := by rfl) (hl : c.env.kindOf x = some .globalImplicit := by rfl)
    (hk : c.env.scope.kind = .function := by rfl) (hd : (x == ("__debug__" : Str)) = false := by rfl) (hn : x ≠ "__name__" := by decide +kernel) : Ew c σ (.Name x p) (.d (.raw v)) σ := ⟨Ev.gblt G hm hv hg hb hl hk hd hn⟩
theorem AsW.local_ {x : Str} {p : Pos} {y : Vl} (hw : c.wr = true) (hl : c.env.kindOf x = some .local) (hp : (c.env.scope.kind == .class || (c.env.scope.kind == .module && c.env.locals != c.env.globals)) = false := by rfl) : AsW c σ (.Name x p) y { σ with loc := (x, y) :: σ.loc } := ⟨As.local_ (hw := hw) (hl := hl) (hp := hp)⟩
theorem AsW.tup {ts : List Expr} {k : Nat} {p : Pos} {ds : List D} (hh : c.A.handled = none) (h : AsLW c σ ts ds σ₁) (hlen : ts.length = ds.length := by rfl) (hall : assignEach ts c.env = ts.map fun t => (false, assign t c.env) := by rfl) : AsW c σ (.Tuple ts k p) (.d (.tup ds)) σ₁ := ⟨As.tup (hh := hh) (h := h.run) (hlen := hlen) (hall := hall)⟩
theorem EWs.nil  : EWs c σ [] [] σ := ⟨Evs.nil ⟩
theorem EWs.cons {e : Expr} {es : List Expr} {x : Vl} {xs : List Vl} (h1 : Ew c σ e x σ₁) (h2 : EWs c σ₁ es xs σ₂) (he : starEach (e :: es) c.env = (false, eval e c.env) :: starEach es c.env := by rfl) : EWs c σ (e :: es) (x :: xs) σ₂ := ⟨Evs.cons (h1 := h1.run) (h2 := h2.run) (he := he)⟩
theorem WX.assign_name {x : Str} {p pos : Pos} {e : Expr} {y : Vl} (h : Ew c σ e y σ₁) (ha : AsW c σ₁ (.Name x p) y σ₂) (hr : R .next σ₂) (hs : swapsWith e (some (.Name x p)) pos.line c.env = pure false := by rfl) : WX c σ (.Assign [.Name x p] e pos) R := ⟨Wx.assign_name (h := h.run) (ha := ha.run) (hr := hr) (hs := hs)⟩
theorem WX.ret {e : Expr} {pos : Pos} {x : Vl} (h : Ew c σ e x σ₁) (hr : R (.ret x) σ₁) : WX c σ (.Return (some e) pos) R := ⟨Wx.ret (h := h.run) (hr := hr)⟩
theorem Ew.call {x : Str} {p pos : Pos} {a : Expr} {as : List Expr} {f : Value} {xs : List Vl} {args : List D} {ret : D} (hf : Ew c σ (.Name x p) (.d (.raw f)) σ₁) (hi : IsFn c f) (ha : EWs c σ₁ (a :: as) xs σ₂) (hx : allD xs = some args) (hok : FnOk c f args ret) (he : starEach (a :: as) c.env = (false, eval a c.env) :: starEach as c.env := by rfl) : Ew c σ (.Call (.Name x p) (a :: as) [] pos) (.d ret) σ₂ := ⟨Ev.call (hf := hf.run) (hi := hi) (ha := ha.run) (hx := hx) (hok := hok) (he := he)⟩
theorem Ew.meth {o a : Expr} {as : List Expr} {name : Str} {apos pos : Pos} {T id : String} {b x : Vl} {xs : List Vl} (h1 : Ew c σ o b σ₁) (h2 : EWs c σ₁ (a :: as) xs σ₂) (hty : HasT c σ₁ b T) (h3 : OpN c σ₂ b xs (fun ov vs => PySem.call (.builtin id) (ov :: vs)) x σ₃) (pa : PlainAttrs T) (slot : Slot T name id) (ty : typeOf (.builtin id) = pure (.type "method_descriptor")) (hline : (apos.endLine == pos.line) = true := by rfl) (he : starEach (a :: as) c.env = (false, eval a c.env) :: starEach as c.env := by rfl) (hp : (backTo pos (starEach as c.env)).any (·.1) = false := by rfl) (hbase : attributeBase o name c.env (eval o c.env) = eval o c.env := by rfl) (hfew : ((backTo pos (starEach (a :: as) c.env)).all (fun x => !x.1) && (backToKw pos (keywordEach [] c.env)).all (fun x => x.1.isSome) && decide ((a :: as).length + ([] : List Keyword).length + (if ([] : List Keyword).isEmpty then 0 else 1) < 30)) = true := by rfl) : Ew c σ (.Call (.Attribute o name apos) (a :: as) [] pos) x σ₃ := ⟨Ev.meth (h1 := h1.run) (h2 := h2.run) (hty := hty) (h3 := h3) (pa := pa) (slot := slot) (ty := ty) (hline := hline) (he := he) (hp := hp) (hbase := hbase) (hfew := hfew)⟩
theorem TrW.cmp {l r : Expr} {op : CmpOp} {p : Pos} {a b : Vl} {t : Bool} (h1 : Ew c σ l a σ₁) (h2 : Ew c σ₁ r b σ₂) (h3 : Op2 c σ₂ a b (compareOp op) (.d (.bool t)) σ₃) (hm : behindInMarks op r = false := by with_unfolding_all rfl) : TrW c σ (.Compare l [op] [r] p) t σ₃ := ⟨Tr.cmp (h1 := h1.run) (h2 := h2.run) (h3 := h3) (hm := hm)⟩
theorem ItW.rng {e : Expr} {x b : Int} (hh : c.A.handled = none) (he : Ew c σ e (.d (.rng x b)) σ₁) (h1 : -(2 ^ 62) ≤ x) (h2 : x < 2 ^ 62) (h3 : -(2 ^ 62) ≤ b) (h4 : b < 2 ^ 62) : ItW c σ e (b - x).toNat (fun i => .int (x + i)) σ₁ := ⟨ItE.rng (hh := hh) (he := he.run) (h1 := h1) (h2 := h2) (h3 := h3) (h4 := h4)⟩
theorem WX.ite {test : Expr} {body orelse : List Stmt} {pos : Pos} {b : Bool} (h : TrW c σ test b σ₁) (k : WS c σ₁ (if b then body else orelse) R) : WX c σ (.If test body orelse pos) R := ⟨Wx.ite (h := h.run) (k := k.run)⟩
theorem WX.assign_tup {ts : List Expr} {k : Nat} {tp pos : Pos} {e : Expr} {y : Vl} (h : Ew c σ e y σ₁) (ha : AsW c σ₁ (.Tuple ts k tp) y σ₂) (hr : R .next σ₂) (hs : swapsWithSole [.Tuple ts k tp] e pos.line c.env = pure false := by rfl) (hw : swappedStores [.Tuple ts k tp] e c.env = pure none := by rfl) : WX c σ (.Assign [.Tuple ts k tp] e pos) R := ⟨Wx.assign_tup (h := h.run) (ha := ha.run) (hr := hr) (hs := hs) (hw := hw)⟩
theorem Ew.tup {es : List Expr} {k : Nat} {p : Pos} {xs : List Vl} {ds : List D} (h : EWs c σ es xs σ₁) (hd : allD xs = some ds) (hsz : xs.length ≤ sizeLine) : Ew c σ (.Tuple es k p) (.d (.tup ds)) σ₁ := ⟨Ev.tup (h := h.run) (hd := hd) (hsz := hsz)⟩
theorem Ew.binop {l r : Expr} {op : Operator} {p : Pos} {a b x : Vl} (h1 : Ew c σ l a σ₁) (h2 : Ew c σ₁ r b σ₂) (h3 : Op2 c σ₂ a b (binaryOp op) x σ₃) : Ew c σ (.BinOp l op r p) x σ₃ := ⟨Ev.binop (h1 := h1.run) (h2 := h2.run) (h3 := h3)⟩
theorem Ew.cast {σ σ₁ σ₂ : Sg} {e : Expr} {x : Vl} (h : Ew c σ e x σ₁) (he : σ₁ = σ₂) : Ew c σ e x σ₂ := ⟨Ev.cast (h := h.run) (he := he)⟩
theorem ItW.congr {e : Expr} {n : Nat} {it it' : Nat → D} (I : ItW c σ e n it σ₁) (h : ∀ i, i < n → it i = it' i) : ItW c σ e n it' σ₁ := ⟨ItE.congr (I := I.run) (h := h)⟩
end
/-- one step of a walk: an expression's value, an operator -/
theorem OpA {P : Prop} (h : P := by with_reducible first
  | exact Op2.add_int | exact Op2.sub_int | exact Op2.iadd_int | exact Op2.ge_int | exact Op2.lt_int | exact Op2.eq_int | exact Op2.ne_int | exact Op2.eq_str
  | exact Op2.gt_str | exact Op2.lt_str | exact Op2.sub_bool | exact Op2.str_is_none | exact Op2.in_str) : P := h
theorem EwA {P : Prop} (h : P := by repeat' (first
  | exact Ew.loc rfl rfl rfl rfl | exact Ew.gint (by assumption) rfl rfl rfl rfl rfl | exact Ew.cel rfl rfl rfl rfl rfl | exact Ew.fce rfl rfl rfl rfl
  | exact Ew.int | exact Ew.str | exact Ew.non | exact Ew.bool | apply Ew.bin | apply Ew.cmp | apply Ew.neg
  | (with_reducible first
    | exact Op2.add_int | exact Op2.sub_int | exact Op2.iadd_int | exact Op2.ge_int | exact Op2.lt_int | exact Op2.eq_int | exact Op2.ne_int | exact Op2.eq_str
    | exact Op2.gt_str | exact Op2.lt_str | exact Op2.sub_bool | exact Op2.str_is_none | exact Op2.in_str)
  | with_unfolding_all rfl)) : P := h
end Mine
end TW

section TF1
open PySem PySem.W PySem.Calls PyProof.Rows
set_option autoImplicit false
set_option linter.unusedVariables false
set_option Elab.async false
set_option maxRecDepth 100000
namespace Mine

noncomputable def stepHigh (row : List Int) (h : Nat) : List Int := row.set (h + 1) (row.getD (h + 1) 0 + row.getD h 0)
noncomputable def stepOne (total : Int) (st : List Int × Int) (one : Int) : List Int × Int :=
  ((List.range (st.2 + one).toNat).foldl (fun r l => r.set l 0) ((List.range total.toNat).foldl stepHigh st.1), st.2 + one)
noncomputable def sumsFn (closing : List Int) : Int := ((closing.foldl (stepOne closing.sum) (1 :: List.replicate closing.sum.toNat 0, 0)).1).getD closing.sum.toNat 0

variable {mg mb : Str → Option Value} {c : Cx}
theorem sum_le_take {l : List Int} (h : ∀ x ∈ l, 0 ≤ x) (i : Nat) : 0 ≤ (l.take i).sum ∧ (l.take i).sum ≤ l.sum := by
  induction l generalizing i with
  | nil => simp
  | cons x l ih =>
    have h1 := ih (fun y hy => h y (.tail _ hy))
    have hx := h x (.head _)
    cases i with
    | zero => have := h1 l.length; rw [List.take_length] at this; simp; omega
    | succ i => have := h1 i; simp; omega
theorem take_snoc {α : Type} {l : List α} {i : Nat} (a0 : α) (h : i < l.length) : l.take (i + 1) = l.take i ++ [l.getD i a0] := by
  rw [List.take_succ_eq_append_getElem h, List.getD_eq_getElem?_getD, List.getElem?_eq_getElem h]; rfl
theorem len_high (total : Nat) (row : List Int) : ((List.range total).foldl stepHigh row).length = row.length := by
  induction total generalizing row with
  | zero => rfl
  | succ n ih => rw [List.range_succ, List.foldl_append]; simp only [List.foldl_cons, List.foldl_nil, stepHigh, List.length_set]; exact ih row
theorem len_low (n : Nat) (row : List Int) : ((List.range n).foldl (fun r l => r.set l (0 : Int)) row).length = row.length := by
  induction n generalizing row with
  | zero => rfl
  | succ n ih => rw [List.range_succ, List.foldl_append]; simp only [List.foldl_cons, List.foldl_nil, List.length_set]; exact ih row

set_option maxHeartbeats 1000000 in
theorem sums_ok {closing : List Int} (G : GX mg mb c) (hr : Room c.A 4) (hpos : ∀ x ∈ closing, 0 ≤ x) (hsum : closing.sum ≤ 1000) :
    ∃ f, mg "_law_sums" = some f ∧ IsFn c f ∧ FnOk c f [.lst (closing.map .int)] (.int (sumsFn closing)) := by
  refine FnOk.def_ (k := 3) G hr (by decide +kernel) rfl (fun _ _ _ => vs1 fun _ => rfl) (by decide +kernel) fun a code B Ia L G' hr' => ?_
  have hh := hr'.handled
  refine WS.le (σ₁ := { loc := [("closing", .d (.lst (closing.map .int)))] }) (Sle.refl _) ?_
  refine WS.step (WX.assign_name (Ew.callB (Ew.gblt G' (by decide +kernel) blt_sum) (EWs.cons EwA EWs.nil) (by rfl) (fn_sum (hr'.le (by first | decide | omega)))) (AsW.local_ rfl rfl) SN.mk) ?_
  have hs0 := sum_le_take hpos closing.length
  rw [List.take_length] at hs0
  generalize htot : closing.sum = total at *
  refine WS.cons (WX.assign_name (Ew.binop (Ew.lst (ds := [.int 1]) (EWs.cons EwA EWs.nil) rfl (by decide)) (Ew.binop (Ew.lst (ds := [.int 0]) (EWs.cons EwA EWs.nil) rfl (by decide)) EwA (Op2.mul_lst1 (by first | decide | omega) (by first | decide | omega)))
    (Op2.add_lstM (by rw [sizeLine_eq]; simp; omega))) (AsW.local_ rfl rfl) ?_)
  refine WS.step (WX.assign_name EwA (AsW.local_ rfl rfl) SN.mk) ?_
  let S (row : List Int) (due : Int) : Sg := { loc := [("closing", .d (.lst (closing.map .int))), ("total", .d (.int total)), ("row", .m 0), ("due", .d (.int due))], mu := [.list (vints row)] }
  refine WS.cons (WX.for_ (fun i σ => ∃ row due, σ = S row due ∧ (row, due) = (closing.take i).foldl (stepOne total) (1 :: List.replicate total.toNat 0, 0) ∧ row.length = total.toNat + 1 ∧ due = (closing.take i).sum)
    (ItW.lstMap .int closing 0 hh EwA) ⟨S (1 :: List.replicate total.toNat 0) 0, Sle.to (by repeat (first | exact trivial | refine ⟨rfl, ?_⟩)) ?_, 1 :: List.replicate total.toNat 0, 0, rfl, rfl, by simp, by simp⟩ ?_ ?_)
  · simp [S, vints]
  · rintro i σ hi ⟨row, due, rfl, he, hlen, hdue⟩
    refine ⟨_, AsW.local_ rfl rfl, ?_⟩
    have hone := hpos _ (List.getElem_mem hi)
    have hd0 := sum_le_take hpos i
    have hd1 := sum_le_take hpos (i + 1)
    rw [take_snoc 0 hi, List.sum_append, List.sum_singleton, ← hdue, htot] at hd1
    rw [← hdue, htot] at hd0
    have hst := take_snoc 0 hi
    generalize hone' : closing.getD i 0 = one at *
    refine WS.step (WX.augName rfl rfl EwA OpA SN.mk) ?_
    let S1 (row : List Int) : Sg := { loc := ("one", .d (.int one)) :: (S row (due + one)).loc, mu := (S row (due + one)).mu }
    refine WS.cons (WX.for_ (fun k σ => σ = S1 ((List.range k).foldl stepHigh row)) 
      (ItW.rng (x := 1) (b := total + 1) hh (Ew.callT (Ew.gblt G' (by decide +kernel) blt_range) (EWs.cons EwA (EWs.cons EwA EWs.nil)) (by rfl) fn_range2) (by first | decide | omega) (by first | decide | omega) (by first | decide | omega) (by first | decide | omega))
      ⟨_, Sle.to (by repeat (first | exact trivial | refine ⟨rfl, ?_⟩)), rfl⟩ ?_ ?_)
    · rintro k σ hk rfl
      refine ⟨_, AsW.local_ rfl rfl, ?_⟩
      have hk' : k < total.toNat := by omega
      have hl := len_high k row
      refine WS.cons (WX.augInt EwA EwA rfl (by first | decide | omega) (by first | decide | omega) (by first | decide | omega) (Ew.sub EwA EwA (Op2.sub_mut rfl (by first | decide | omega) (by first | decide | omega) (vints_get (by first | decide | omega)))) OpA rfl ?_)
      refine WS.nil (LoopR.next ⟨_, Sle.to (by repeat (first | exact trivial | refine ⟨rfl, ?_⟩)) ?_, rfl⟩)
      have e1 : ((1 : Int) + k).toNat = k + 1 := by omega
      have e2 : ((1 : Int) + k - 1).toNat = k := by omega
      rw [List.range_succ, List.foldl_append]
      simp [S1, S, stepHigh, e1, e2]
    rintro σ rfl
    refine WS.nil ?_
    have hl := len_high total.toNat row
    rw [show (total + 1 - 1).toNat = total.toNat by congr 1; omega]
    generalize hr1 : (List.range total.toNat).foldl stepHigh row = row1 at *
    refine WS.cons (WX.for_ (fun k σ => σ = S1 ((List.range k).foldl (fun r l => r.set l 0) row1)) 
      (ItW.range1 (b := due + one) hh (Ew.callT (Ew.gblt G' (by decide +kernel) blt_range) (EWs.cons EwA EWs.nil) (by rfl) fn_range1) rfl (by first | decide | omega) (by first | decide | omega))
      ⟨_, Sle.to (by repeat (first | exact trivial | refine ⟨rfl, ?_⟩)), rfl⟩ ?_ ?_)
    · rintro k σ hk rfl
      refine ⟨_, AsW.local_ rfl rfl, ?_⟩
      have hl2 := len_low k row1
      refine WS.cons (WX.setInt EwA EwA EwA rfl (by first | decide | omega) (by first | decide | omega) (by first | decide | omega) ?_)
      refine WS.nil (LoopR.next ⟨_, Sle.to (by repeat (first | exact trivial | refine ⟨rfl, ?_⟩)) ?_, rfl⟩)
      rw [List.range_succ, List.foldl_append]
      simp [S1, S]
    rintro σ rfl
    refine WS.nil (WS.nil (LoopR.next ⟨S _ (due + one), Sle.to (by repeat (first | exact trivial | refine ⟨rfl, ?_⟩)), _, _, rfl, ?_, ?_, ?_⟩))
    · rw [hst, List.foldl_append, ← he]
      simp [stepOne, hr1]
    · rw [len_low, ← hr1, len_high, hlen]
    · rw [hst, List.sum_append, ← hdue]; simp
  · rintro σ ⟨row, due, rfl, he, hlen, hdue⟩
    refine WS.nil (WS.cons (WX.ret (Ew.sub EwA EwA (Op2.sub_mut rfl (by first | decide | omega) (by first | decide | omega) (vints_get (by first | decide | omega)))) ?_))
    show _ = _
    rw [List.take_length] at he
    unfold sumsFn
    rw [htot, ← he]
end Mine
end TF1

section TF2
open PySem PySem.W PySem.Calls PyProof.Rows
set_option autoImplicit false
set_option linter.unusedVariables false
set_option Elab.async false
set_option maxRecDepth 100000
namespace Mine
variable {mg mb : Str → Option Value} {c : Cx}

theorem isnt_ok {i : Int} (G : GX mg mb c) (hr : Room c.A 2) : ∃ f, mg "ISNONTERMINAL" = some f ∧ IsFn c f ∧ FnOk c f [.int i] (.bool (decide (256 ≤ i))) := by
  refine FnOk.def_ (k := 1) G hr (by decide +kernel) rfl (fun _ _ _ => vs1 fun _ => rfl) (by decide +kernel) fun a code B Ia L G' hr' => ?_
  refine WS.le (σ₁ := { loc := [("x", .d (.int i))] }) (Sle.refl _) ?_
  exact WS.cons (WX.ret EwA (by rfl))
theorem iseof_ok {i : Int} (G : GX mg mb c) (hr : Room c.A 2) : ∃ f, mg "ISEOF" = some f ∧ IsFn c f ∧ FnOk c f [.int i] (.bool (i == 0)) := by
  refine FnOk.def_ (k := 1) G hr (by decide +kernel) rfl (fun _ _ _ => vs1 fun _ => rfl) (by decide +kernel) fun a code B Ia L G' hr' => ?_
  refine WS.le (σ₁ := { loc := [("x", .d (.int i))] }) (Sle.refl _) ?_
  exact WS.cons (WX.ret EwA (by rfl))
theorem strxfrm_ok {x : Str} (G : GX mg mb c) (hr : Room c.A 2) : ∃ f, mg "_strxfrm" = some f ∧ IsFn c f ∧ FnOk c f [.str x] (.str x) := by
  refine FnOk.def_ (k := 1) G hr (by decide +kernel) rfl (fun _ _ _ => vs1 fun _ => rfl) (by decide +kernel) fun a code B Ia L G' hr' => ?_
  refine WS.le (σ₁ := { loc := [("s", .d (.str x))] }) (Sle.refl _) ?_
  exact WS.cons (WX.ret EwA (by rfl))
noncomputable def collFn (a b : Str) : Int := b2i (decide (b.cps.toList < a.cps.toList)) - b2i (decide (a.cps.toList < b.cps.toList))
theorem strcoll_ok {x y : Str} (G : GX mg mb c) (hr : Room c.A 2) : ∃ f, mg "_strcoll" = some f ∧ IsFn c f ∧ FnOk c f [.str x, .str y] (.int (collFn x y)) := by
  refine FnOk.def_ (k := 1) G hr (by decide +kernel) rfl (fun _ _ _ => vs2 fun _ _ => rfl) (by decide +kernel) fun a code B Ia L G' hr' => ?_
  refine WS.le (σ₁ := { loc := [("b", .d (.str y)), ("a", .d (.str x))] }) (Sle.refl _) ?_
  exact WS.cons (WX.ret EwA (by rfl))
theorem str_len_app (x y : Str) : (x ++ y).length = x.length + y.length := by
  show (x.cps ++ y.cps).size = x.cps.size + y.cps.size
  exact Array.size_append
theorem append_ok {x y : Str} (hne : (y == ("euro" : Str)) = false) (hx : x.length ≤ 1000) (hy : y.length ≤ 1000) (G : GX mg mb c) (hr : Room c.A 2) :
    ∃ f, mg "_append_modifier" = some f ∧ IsFn c f ∧ FnOk c f [.str x, .str y] (.str (x ++ ("@" : Str) ++ y)) := by
  refine FnOk.def_ (k := 1) G hr (by decide +kernel) rfl (fun _ _ _ => vs2 fun _ _ => rfl) (by decide +kernel) fun a code B Ia L G' hr' => ?_
  refine WS.le (σ₁ := { loc := [("modifier", .d (.str y)), ("code", .d (.str x))] }) (Sle.refl _) ?_
  refine WS.cons (WX.ite (b := false) (TrW.cmp EwA EwA (hne ▸ Op2.eq_str)) (WS.nil ?_))
  have h1 : (("@" : Str)).length = 1 := by decide +kernel
  exact WS.cons (WX.ret (Ew.binop (Ew.binop EwA EwA (Op2.add_str (by rw [str_len_app, h1, sizeLine_eq]; omega))) EwA (Op2.add_str (by rw [str_len_app, str_len_app, h1, sizeLine_eq]; omega))) rfl)
theorem build_ok {x y : Str} (hx : x.length ≤ 1000) (hy : y.length ≤ 1000) (G : GX mg mb c) (hr : Room c.A 2) :
    ∃ f, mg "_build_localename" = some f ∧ IsFn c f ∧ FnOk c f [.tup [.str x, .str y]] (.str (x ++ ("." : Str) ++ y)) := by
  refine FnOk.def_ (k := 1) G hr (by decide +kernel) rfl (fun _ _ _ => vs1 fun _ => rfl) (by decide +kernel) fun a code B Ia L G' hr' => ?_
  refine WS.le (σ₁ := { loc := [("localetuple", .d (.tup [.str x, .str y]))] }) (Sle.refl _) ⟨?_⟩
  have h1 : (("." : Str)).length = 1 := by decide +kernel
  refine Ws.cons (Wx.try_ ?_)
  refine Ws.cons (Wx.assign_tup (Ew.run EwA) (As.tup (ds := [.str x, .str y]) hr'.handled ⟨_, As.local_ rfl rfl, _, As.local_ rfl rfl, rfl⟩) ?_)
  refine Ws.cons (Wx.ite (b := false) (Tr.cmp (Ew.run EwA) (Ew.run EwA) OpA) (Ws.nil ?_))
  refine Ws.cons (Wx.ite (b := false) (Tr.cmp (Ew.run EwA) (Ew.run EwA) OpA) ?_)
  exact Ws.cons (Wx.ret (Ev.binop (Ev.binop (Ew.run EwA) (Ew.run EwA) (Op2.add_str (by rw [str_len_app, h1, sizeLine_eq]; omega))) (Ew.run EwA) (Op2.add_str (by rw [str_len_app, str_len_app, h1, sizeLine_eq]; omega))) rfl)
end Mine
end TF2

section TF3
open PySem PySem.W PySem.Calls PyProof.Rows
set_option autoImplicit false
set_option linter.unusedVariables false
set_option Elab.async false
set_option maxRecDepth 100000
namespace Mine
variable {mg mb : Str → Option Value} {c : Cx}

noncomputable def rotFn (g : Int) (l r : Sh) : List Sh := match l with
  | .leaf _ => []
  | .node g' a b => [.node g' a (.node g b r)]
noncomputable def turnFn (kinds : List Int) : Sh → List Sh
  | .leaf _ => []
  | .node g l r => ((turnFn kinds l).map (fun x => Sh.node g x r) ++ (turnFn kinds r).map (fun x => Sh.node g l x)) ++ (if kinds.getD g.toNat 0 != 0 then rotFn g l r else [])
noncomputable def Sh.gapsOk (n : Nat) : Sh → Bool
  | .leaf _ => true
  | .node g l r => decide (0 ≤ g) && decide (g < n) && l.gapsOk n && r.gapsOk n

set_option maxHeartbeats 1000000 in
theorem turned_ok (kinds : List Int) (hkl : kinds.length ≤ 1000) : ∀ (sh : Sh) {c : Cx}, GX mg mb c → Room c.A (sh.depth + 4) → sh.gapsOk kinds.length = true → (turnFn kinds sh).length ≤ 1000 →
    (∀ x ∈ turnFn kinds sh, True) → ∃ f, mg "_law_turned" = some f ∧ IsFn c f ∧ FnOk c f [sh.d, .lst (kinds.map .int)] (.lst ((turnFn kinds sh).map Sh.d))
  | .leaf n, c, G, hr, _, _, _ => by
    refine FnOk.def_ (k := 3) G (hr.le (by simp [Sh.depth])) (by decide +kernel) rfl (fun _ _ _ => vs2 fun _ _ => rfl) (by decide +kernel) fun a code B Ia L G' hr' => ?_
    refine WS.le (σ₁ := { loc := [("kinds", .d (.lst (kinds.map .int))), ("shape", .d (.int n))], mu := [.cell none, .cell none, .cell none], cix := [("right", 0), ("left", 1), ("gap", 2)] }) (Sle.refl _) ?_
    refine WS.cons (WX.ite (b := true) (TrW.of_bool (Ew.callB (Ew.gblt G' (by decide +kernel) blt_isinstance) (EWs.cons EwA (EWs.cons (Ew.gblt G' (by decide +kernel) blt_int) EWs.nil)) (by rfl) fn_isint_int)) ?_)
    exact WS.cons (WX.ret (Ew.lst (ds := []) EWs.nil rfl (by decide)) (by rfl))
  | .node g l r, c, G, hr, hg, hlen, _ => by
    rw [Sh.gapsOk, Bool.and_eq_true, Bool.and_eq_true, Bool.and_eq_true] at hg
    obtain ⟨⟨⟨hg0, hg1⟩, hgl⟩, hgr⟩ := hg
    replace hg0 := of_decide_eq_true hg0
    replace hg1 := of_decide_eq_true hg1
    have hlen' := hlen
    rw [turnFn, List.length_append, List.length_append, List.length_map, List.length_map] at hlen'
    have hdl : l.depth ≤ max l.depth r.depth := Nat.le_max_left ..
    have hdr : r.depth ≤ max l.depth r.depth := Nat.le_max_right ..
    refine FnOk.def_ (k := max l.depth r.depth + 4) G (hr.le (by simp [Sh.depth])) (by decide +kernel) rfl (fun _ _ _ => vs2 fun _ _ => rfl) (by decide +kernel) fun a code B Ia L G' hr' => ?_
    have hh := hr'.handled
    obtain ⟨fl, hfl, hil, hokl⟩ := turned_ok kinds hkl l G' (hr'.le (by first | decide | omega)) hgl (by first | decide | omega) (fun _ _ => trivial)
    obtain ⟨fr, hfr, hir, hokr⟩ := turned_ok kinds hkl r G' (hr'.le (by first | decide | omega)) hgr (by first | decide | omega) (fun _ _ => trivial)
    refine WS.le (σ₁ := { loc := [("kinds", .d (.lst (kinds.map .int))), ("shape", .d (.tup [.int g, l.d, r.d]))], mu := [.cell none, .cell none, .cell none], cix := [("right", 0), ("left", 1), ("gap", 2)] }) (Sle.refl _) ?_
    refine WS.cons (WX.ite (b := false) (TrW.of_bool (Ew.callB (Ew.gblt G' (by decide +kernel) blt_isinstance) (EWs.cons EwA (EWs.cons (Ew.gblt G' (by decide +kernel) blt_int) EWs.nil)) (by rfl) fn_isint_tup)) ?_)
    refine WS.nil (WS.cons (WX.assign_tup EwA (AsW.tup (ds := [.int g, l.d, r.d]) hh (AsLW.cons (AsW.cell_ rfl rfl rfl) (AsLW.cons (AsW.cell_ rfl rfl rfl) (AsLW.cons (AsW.cell_ rfl rfl rfl) AsLW.nil)))) ?_))
    have h3 : (3 : Nat) ≤ sizeLine := by rw [sizeLine_eq]; omega
    refine WS.cons (WX.assign_compML [("gap", .int g), ("right", r.d)] _ (((turnFn kinds l).map fun x => Sh.node g x r).map Sh.d) (ItW.lstMap Sh.d (turnFn kinds l) (.leaf 0) hh (Ew.call (Ew.gval G' hfl) hil (EWs.cons EwA (EWs.cons EwA EWs.nil)) (by rfl) hokl)) rfl
      ⟨rfl, ⟨2, rfl, rfl⟩, rfl, ⟨0, rfl, rfl⟩, trivial⟩ (by rw [sizeLine_eq]; omega) rfl (fun C B Ia i xs hi hB => Ew.tup (EWs.cons EwA (EWs.cons EwA (EWs.cons EwA EWs.nil))) (by rfl) h3)
      (comp_items (turnFn kinds l) (.leaf 0) (fun x => .tup [.int g, x.d, r.d]) Sh.d (fun x => .node g x r) fun _ => rfl) (AsW.local_ rfl rfl) ?_)
    refine WS.cons (WX.expr (Ew.extend EwA (Ew.compL [("gap", .int g), ("left", l.d)] _ (((turnFn kinds r).map fun x => Sh.node g l x).map Sh.d) (ItW.lstMap Sh.d (turnFn kinds r) (.leaf 0) hh (Ew.call (Ew.gval G' hfr) hir (EWs.cons EwA (EWs.cons EwA EWs.nil)) (by rfl) hokr)) rfl
      ⟨rfl, ⟨2, rfl, rfl⟩, rfl, ⟨1, rfl, rfl⟩, trivial⟩ (by rw [sizeLine_eq]; omega) rfl (fun C B Ia i xs hi hB => Ew.tup (EWs.cons EwA (EWs.cons EwA (EWs.cons EwA EWs.nil))) (by rfl) h3)
      (comp_items (turnFn kinds r) (.leaf 0) (fun x => .tup [.int g, l.d, x.d]) Sh.d (fun x => .node g l x) fun _ => rfl)) ⟨_, rfl⟩ rfl (by simp; omega)) ?_)
    have hkg : (kinds.map D.int)[g.toNat]? = some (.int (kinds.getD g.toNat 0)) := by
      have : g.toNat < kinds.length := by omega
      simp [List.getElem?_map, List.getElem?_eq_getElem this, List.getD_eq_getElem?_getD]
    have hfin : ∀ {fd : List Sh} {σ' : Sg}, σ'.loc.lookup (Str.ofString "found") = some (.m 3) → σ'.mu[3]? = some (.list ((fd.map Sh.d).map .d)) → fd = turnFn kinds (.node g l r) →
        ∀ pp qq, WS (cxIn c "_law_turned" ((pw.theDef "_law_turned").get rfl).2.2 L a code B Ia) σ' [.Return (some (.Name "found" pp)) qq] (RetIs (.lst ((turnFn kinds (.node g l r)).map Sh.d))) := fun {fd σ'} h1 h2 h3 pp qq => by
      subst h3
      exact WS.cons (WX.ret (Ew.frz (Ew.loc h1 rfl rfl rfl) h2 (Frz.list rfl)) rfl)
    have hsz2 : (turnFn kinds l).length + (turnFn kinds r).length ≤ 1000 := by omega
    have hT : turnFn kinds (.node g l r) = ((turnFn kinds l).map (fun x => Sh.node g x r) ++ (turnFn kinds r).map (fun x => Sh.node g l x)) ++ (if kinds.getD g.toNat 0 != 0 then rotFn g l r else []) := rfl
    cases hcond : (kinds.getD g.toNat 0 != 0) with
    | false =>
      refine WS.step (WX.ite (b := false) (TrW.and_f (TrW.cmp (Ew.sub EwA EwA (Op2.sub_lst hg0 (by first | decide | omega) hkg)) EwA (hcond ▸ Op2.ne_int))) (WS.nil SN.mk)) ?_
      refine hfin (fd := (turnFn kinds l).map (fun x => Sh.node g x r) ++ (turnFn kinds r).map (fun x => Sh.node g l x)) rfl ?_ ?_ _ _
      · simp
      · rw [hT, hcond]; simp
    | true =>
      cases l with
      | leaf n =>
        refine WS.cons (WX.ite (b := false) (TrW.and_t (TrW.cmp (Ew.sub EwA EwA (Op2.sub_lst hg0 (by first | decide | omega) hkg)) EwA (hcond ▸ Op2.ne_int))
          (TrW.and_f (TrW.of_bool (Ew.callB (Ew.gblt G' (by decide +kernel) blt_isinstance) (EWs.cons EwA (EWs.cons (Ew.gblt G' (by decide +kernel) blt_tuple) EWs.nil)) (by rfl) fn_istup_int)))) (WS.nil ?_))
        refine hfin (fd := (turnFn kinds (.leaf n)).map (fun x => Sh.node g x r) ++ (turnFn kinds r).map (fun x => Sh.node g (.leaf n) x)) rfl ?_ ?_ _ _
        · simp
        · rw [hT, hcond]; simp [rotFn]
      | node g' a' b' =>
        refine WS.cons (WX.ite (b := true) (TrW.and_t (TrW.cmp (Ew.sub EwA EwA (Op2.sub_lst hg0 (by first | decide | omega) hkg)) EwA (hcond ▸ Op2.ne_int))
          (TrW.and_t (TrW.of_bool (Ew.callB (Ew.gblt G' (by decide +kernel) blt_isinstance) (EWs.cons EwA (EWs.cons (Ew.gblt G' (by decide +kernel) blt_tuple) EWs.nil)) (by rfl) fn_istup_tup)) TrW.and_nil)) ?_)
        refine WS.cons (WX.expr (Ew.append EwA (Ew.tup (EWs.cons (Ew.sub EwA EwA (Op2.sub_tup (d := .int g') (by first | decide | omega) (by first | decide | omega) rfl)) (EWs.cons (Ew.sub EwA EwA (Op2.sub_tup (d := a'.d) (by first | decide | omega) (by first | decide | omega) rfl)) (EWs.cons (Ew.tup (ds := [.int g, b'.d, r.d])
          (EWs.cons EwA (EWs.cons (Ew.sub EwA EwA (Op2.sub_tup (d := b'.d) (by first | decide | omega) (by first | decide | omega) rfl)) (EWs.cons EwA EWs.nil))) (by rfl) h3) EWs.nil))) (ds := [.int g', a'.d, .tup [.int g, b'.d, r.d]]) (by rfl) h3) ⟨_, rfl⟩ rfl (by simp; omega)) ?_)
        refine WS.nil (hfin (fd := ((turnFn kinds (.node g' a' b')).map (fun x => Sh.node g x r) ++ (turnFn kinds r).map (fun x => Sh.node g (.node g' a' b') x)) ++ [.node g' a' (.node g b' r)]) rfl ?_ ?_ _ _)
        · simp [Sh.d]
        · rw [hT, hcond]; simp [rotFn]
end Mine
end TF3

section TS1
open PySem PySem.W PySem.Calls PyProof.Rows
set_option autoImplicit false
set_option linter.unusedVariables false
set_option Elab.async false
set_option maxRecDepth 100000
namespace Mine

/-! ### strs, one sign at a time -/
noncomputable def sbL (c : Nat) (z : List Nat) : List Nat → List Nat := List.flatMap fun k => if k = c then z else [k]
theorem sbL_append (c : Nat) (z a b : List Nat) : sbL c z (a ++ b) = sbL c z a ++ sbL c z b := List.flatMap_append ..
theorem sbL_free (c : Nat) (z : List Nat) : ∀ l : List Nat, c ∉ l → sbL c z l = l
  | [], _ => rfl
  | k :: r, h => by
    have h1 : ¬ k = c := fun e => h (e ▸ List.mem_cons_self ..)
    have h2 : c ∉ r := fun m => h (List.mem_cons_of_mem _ m)
    show (if k = c then z else [k]) ++ sbL c z r = _
    rw [if_neg h1, sbL_free c z r h2]; rfl
theorem sbL_join (c : Nat) (z : Str) : ∀ parts : List Str, (∀ p ∈ parts, c ∉ p.cps.toList) → sbL c z.cps.toList (Str.join ⟨#[c]⟩ parts).cps.toList = (Str.join z parts).cps.toList
  | [], _ => rfl
  | [p], h => sbL_free c _ _ (h p (List.mem_singleton.mpr rfl))
  | p :: q :: r, h => by
    have ih := sbL_join c z (q :: r) fun a ha => h a (List.mem_cons_of_mem _ ha)
    show sbL c z.cps.toList (p ++ ⟨#[c]⟩ ++ Str.join ⟨#[c]⟩ (q :: r)).cps.toList = (p ++ z ++ Str.join z (q :: r)).cps.toList
    simp only [Str.cps_append, Array.toList_append]
    rw [sbL_append, sbL_append, ih, sbL_free c _ _ (h p (List.mem_cons_self ..))]
    show p.cps.toList ++ sbL c z.cps.toList [c] ++ _ = _
    have : sbL c z.cps.toList [c] = z.cps.toList := by simp [sbL]
    rw [this]
theorem replFn_one (x z : Str) (c : Nat) : (replFn x ⟨#[c]⟩ z).cps.toList = sbL c z.cps.toList x.cps.toList := by
  show (Txt.replace x ⟨#[c]⟩ z).cps.toList = _
  rw [StrLaws.replace_one, ← sbL_join c z _ (StrLaws.split_free x c), StrLaws.join_split]
theorem in_one (x : Str) (c : Nat) : (!(Builtin.Str.occurrences x ⟨#[c]⟩ 0 x.length 1).isEmpty) = decide (c ∈ x.cps.toList) := StrLaws.found_one x c
theorem index_at {x : Str} {c lo k : Nat} (h1 : lo ≤ k) (h2 : x.cps.toList[k]? = some c) (h3 : ∀ j, lo ≤ j → j < k → x.cps.toList[j]? ≠ some c) : ∃ rest, Builtin.Str.occurrences x ⟨#[c]⟩ lo x.length 1 = k :: rest := by
  rcases StrLaws.occ_head_from x ⟨#[c]⟩ lo 1 (Nat.le_refl _) with ⟨_, hn⟩ | ⟨i, r, h4, h5, h6, h7⟩
  · exact absurd ((StrLaws.subAt_one x c k).mpr h2) (hn k h1)
  · have e6 := (StrLaws.subAt_one x c i).mp h6
    have : i = k := by
      rcases Nat.lt_trichotomy i k with h | h | h
      · exact absurd e6 (h3 i h5 h)
      · exact h
      · exact absurd ((StrLaws.subAt_one x c k).mpr h2) (h7 k h1 h)
    subst this
    exact ⟨r, h4⟩
end Mine
end TS1

section TF4
open PySem PySem.W PySem.Calls PyProof.Rows
set_option autoImplicit false
set_option linter.unusedVariables false
set_option Elab.async false
set_option maxRecDepth 100000
namespace Mine
variable {mg mb : Str → Option Value} {c : Cx}

noncomputable def strL (l : List Nat) : Str := ⟨l.toArray⟩
theorem strL_cps (l : List Nat) : (strL l).cps.toList = l := rfl
theorem strL_len (l : List Nat) : (strL l).length = l.length := List.size_toArray ..
theorem strL_of (x : Str) : strL x.cps.toList = x := by cases x; simp [strL]
theorem sbL_len (c : Nat) (z : List Nat) (hz : 1 ≤ z.length) : ∀ l : List Nat, (sbL c z l).length ≤ z.length * l.length
  | [] => Nat.zero_le _
  | k :: r => by
    have ih := sbL_len c z hz r
    show ((if k = c then z else [k]) ++ sbL c z r).length ≤ _
    rw [List.length_append, List.length_cons, Nat.mul_succ]
    have : (if k = c then z else [k]).length ≤ z.length := by split <;> simp [hz]
    omega
theorem esc_step {c : Cx} {x : List Nat} {ch : Nat} {z : Str} {k1 k2 k3 : Nat} {p1 p2 p3 p4 p5 p6 p7 p8 p9 p10 pos : Pos} (hx : x.length ≤ 10000) (hz : z.length ≤ 10) (hz1 : 1 ≤ z.length) (hne : ((⟨#[ch]⟩ : Str) == z) = false)
    (hk : c.env.kindOf "text" = some .local) (hs : c.env.scope.kind = .function) (hw : c.wr = true) (hline : (p5.endLine == p6.line) = true) (hbase : attributeBase (.Name "text" p4) "replace" c.env (eval (.Name "text" p4) c.env) = eval (.Name "text" p4) c.env)
    (hsw : swapsWith (.Call (.Attribute (.Name "text" p4) "replace" p5) [.Constant (.str ⟨#[ch]⟩) k2 p7, .Constant (.str z) k3 p8] [] p6) (some (.Name "text" p3)) pos.line c.env = pure false) (hp : (c.env.scope.kind == .class || (c.env.scope.kind == .module && c.env.locals != c.env.globals)) = false) :
    Wx c { loc := [("text", .d (.str (strL x)))] } (.If (.Compare (.Constant (.str ⟨#[ch]⟩) k1 p1) [.In] [.Name "text" p2] p9) [.Assign [.Name "text" p3] (.Call (.Attribute (.Name "text" p4) "replace" p5) [.Constant (.str ⟨#[ch]⟩) k2 p7, .Constant (.str z) k3 p8] [] p6) pos] [] p10)
      (fun fd σ' => fd = .next ∧ Sle c σ' { loc := [("text", .d (.str (strL (sbL ch z.cps.toList x))))] }) := by
  have hr : (replFn (strL x) ⟨#[ch]⟩ z) = strL (sbL ch z.cps.toList x) := by rw [← strL_of (replFn (strL x) ⟨#[ch]⟩ z), replFn_one]; rfl
  have hzz : z.cps.toList.length = z.length := by simp [Str.length]
  have hlen : (sbL ch z.cps.toList x).length ≤ 100000 := by
    have h1 := sbL_len ch z.cps.toList (by first | decide | omega) x
    have h2 : z.cps.toList.length * x.length ≤ 10 * 10000 := Nat.mul_le_mul (by first | decide | omega) hx
    omega
  refine Wx.if_ (Tr.cmp Ev.const_str (Ev.local_ rfl hk hs rfl) Op2.in_str rfl) (fun hb => ?_) fun hb => ?_
  · refine Ws.cons (Wx.assign_name (Ev.replace (Ev.local_ rfl hk hs rfl) hne (by rw [strL_len]; omega) (by first | decide | omega) (by rw [hr, strL_len]; omega) hline hbase) (As.local_ hw hk hp) ?_ hsw)
    refine Ws.nil ⟨rfl, ?_⟩
    rw [hr]
    exact Sle.to ⟨rfl, trivial⟩
  · rw [in_one] at hb
    refine Ws.nil ⟨rfl, ?_⟩
    rw [sbL_free _ _ x (of_decide_eq_false hb)]
    exact Sle.refl _
noncomputable def escL (l : List Nat) : List Nat := sbL 13 ("&#xD;" : Str).cps.toList (sbL 62 ("&gt;" : Str).cps.toList (sbL 60 ("&lt;" : Str).cps.toList (sbL 38 ("&amp;" : Str).cps.toList l)))
set_option maxHeartbeats 1000000 in
theorem esc_ok {x : List Nat} (hx : x.length ≤ 100) (G : GX mg mb c) (hr : Room c.A 2) : ∃ f, mg "_escape_cdata_c14n" = some f ∧ IsFn c f ∧ FnOk c f [.str (strL x)] (.str (strL (escL x))) := by
  refine FnOk.def_ (k := 1) G hr (by decide +kernel) rfl (fun _ _ _ => vs1 fun _ => rfl) (by decide +kernel) fun a code B Ia L G' hr' => ?_
  refine WS.le (σ₁ := { loc := [("text", .d (.str (strL x)))] }) (Sle.refl _) ⟨?_⟩
  have h1 : (sbL 38 ("&amp;" : Str).cps.toList x).length ≤ 5 * x.length := sbL_len _ _ (by decide) x
  have h2 : (sbL 60 ("&lt;" : Str).cps.toList (sbL 38 ("&amp;" : Str).cps.toList x)).length ≤ 4 * (sbL 38 ("&amp;" : Str).cps.toList x).length := sbL_len _ _ (by decide) _
  have h3 : (sbL 62 ("&gt;" : Str).cps.toList (sbL 60 ("&lt;" : Str).cps.toList (sbL 38 ("&amp;" : Str).cps.toList x))).length ≤ 4 * (sbL 60 ("&lt;" : Str).cps.toList (sbL 38 ("&amp;" : Str).cps.toList x)).length := sbL_len _ _ (by decide) _
  refine Ws.cons (Wx.try_ ?_)
  refine Ws.step (esc_step (ch := 38) (z := "&amp;") (by first | decide | omega) (by decide) (by decide) (by decide +kernel) rfl rfl rfl rfl rfl rfl rfl) ?_
  refine Ws.step (esc_step (ch := 60) (z := "&lt;") (by first | decide | omega) (by decide) (by decide) (by decide +kernel) rfl rfl rfl rfl rfl rfl rfl) ?_
  refine Ws.step (esc_step (ch := 62) (z := "&gt;") (by first | decide | omega) (by decide) (by decide) (by decide +kernel) rfl rfl rfl rfl rfl rfl rfl) ?_
  refine Ws.step (esc_step (ch := 13) (z := "&#xD;") (by first | decide | omega) (by decide) (by decide) (by decide +kernel) rfl rfl rfl rfl rfl rfl rfl) ?_
  exact Ws.cons (Wx.ret (Ew.run EwA) (by rfl))
end Mine
end TF4

section TF5
open PySem PySem.W PySem.Calls PyProof.Rows
set_option autoImplicit false
set_option linter.unusedVariables false
set_option Elab.async false
set_option maxRecDepth 100000
namespace Mine
variable {mg mb : Str → Option Value} {c : Cx}

inductive Pc where
  | ch (n : Nat)
  | esc (k : Nat)
noncomputable def escName (k : Nat) : List Nat := if k = 38 then [97, 109, 112] else if k = 60 then [108, 116] else if k = 62 then [103, 116] else [35, 120, 68]
noncomputable def Pc.cps : Pc → List Nat
  | .ch n => [n]
  | .esc k => 38 :: (escName k ++ [59])
noncomputable def tokOf (n : Nat) : Int := (tokTable.lookup (strL [n])).getD (256 + n)
noncomputable def Pc.sym : Pc → Int
  | .ch n => tokOf n
  | .esc k => 256 + k
noncomputable def Pc.ok : Pc → Bool
  | .ch n => n != 38
  | .esc k => k == 38 || k == 60 || k == 62 || k == 13
theorem tokTable_amp : ∀ p ∈ tokTable, p.2 = 19 → p.1 = ("&" : Str) := by decide +kernel
theorem strL_inj {a b : List Nat} (h : strL a = strL b) : a = b := by
  have := congrArg (fun s : Str => s.cps.toList) h; simpa [strL] using this
theorem tokOf_amp {n : Nat} (h : n ≠ 38) : tokOf n ≠ 19 := by
  unfold tokOf
  cases e : tokTable.lookup (strL [n]) with
  | none => simp; omega
  | some v =>
    rintro rfl
    have := tokTable_amp _ (PySem.mem_of_lookup e) rfl
    have h2 : strL [n] = strL [38] := this.trans (by decide +kernel)
    exact h (by have := strL_inj h2; simpa using this)
theorem tokOf_38 : tokOf 38 = 19 := by decide +kernel
theorem lookup_map_int (x : Str) (d : Int) : ∀ (l : List (Str × Int)), ((l.map fun p => (p.1, D.int p.2)).lookup x).getD (.int d) = .int ((l.lookup x).getD d)
  | [] => rfl
  | (k, v) :: r => by
    rw [List.map_cons, List.lookup_cons, List.lookup_cons]
    cases x == k
    · exact lookup_map_int x d r
    · rfl
noncomputable def readSpell : List (Str × D) := [("amp", .str "&"), ("lt", .str "<"), ("gt", .str ">"), ("#xD", .str "\r")]
theorem spell_at {k : Nat} (h : (Pc.esc k).ok = true) : readSpell.lookup (strL (escName k)) = some (.str (strL [k])) := by
  simp only [Pc.ok, Bool.or_eq_true, beq_iff_eq] at h
  rcases h with ((rfl | rfl) | rfl) | rfl <;> rfl
noncomputable def flat (L : List Pc) : List Nat := L.flatMap Pc.cps
theorem flat_split {L : List Pc} {i : Nat} (h : i < L.length) : flat L = flat (L.take i) ++ (L[i].cps ++ flat (L.drop (i + 1))) := by
  conv => lhs; rw [← List.take_append_drop i L, List.drop_eq_getElem_cons h]
  unfold flat
  rw [List.flatMap_append, List.flatMap_cons]
theorem flat_take_succ {L : List Pc} {i : Nat} (h : i < L.length) : flat (L.take (i + 1)) = flat (L.take i) ++ L[i].cps := by
  unfold flat
  rw [List.take_succ_eq_append_getElem h, List.flatMap_append]; simp
theorem Pc.cps_pos (p : Pc) : 1 ≤ p.cps.length := by cases p <;> simp [Pc.cps]

theorem escName_ok (k : Nat) : 59 ∉ escName k ∧ (escName k).length ≤ 3 := by
  unfold escName
  split
  · decide
  · split
    · decide
    · split <;> decide
set_option maxHeartbeats 4000000 in
theorem read_ok {L : List Pc} (hL : ∀ p ∈ L, p.ok = true) (hsz : (flat L).length ≤ 1000) (G : GX mg mb c) (hr : Room c.A 3) : ∃ f, mg "_law_read" = some f ∧ IsFn c f ∧ FnOk c f [.str (strL (flat L))] (.lst ((L.map Pc.sym ++ [0]).map .int)) := by
  refine FnOk.def_ (k := 2) G hr (by decide +kernel) rfl (fun _ _ _ => vs1 fun _ => rfl) (by decide +kernel) fun a code B Ia Lo G' hr' => ?_
  obtain ⟨ae, oe, kvsV, e1, e2, e3, e4, e5⟩ := G'.ett
  refine WS.le (σ₁ := { loc := [("page", .d (.str (strL (flat L))))] }) (Sle.refl _) ?_
  refine WS.step (WX.assign_name (Ew.dictZ (kvs := readSpell) (by exact Ps.cons Ev.const_str Ev.const_str (Ps.cons Ev.const_str Ev.const_str (Ps.cons Ev.const_str Ev.const_str (Ps.cons Ev.const_str Ev.const_str Ps.nil)))) (by decide +kernel) rfl (by decide) G'.sysm rfl) (AsW.local_ rfl rfl) SN.mk) ?_
  refine WS.step (WX.assign_name (Ew.lstM EWs.nil (by decide)) (AsW.local_ rfl rfl) SN.mk) ?_
  refine WS.step (WX.assign_name EwA (AsW.local_ rfl rfl) SN.mk) ?_
  let S (i : Nat) : Sg := { loc := [("page", .d (.str (strL (flat L)))), ("spelled", .d (.sd c.prog c.w readSpell)), ("symbols", .m 0), ("place", .d (.int (flat (L.take i)).length))], mu := [.list (vints ((L.take i).map Pc.sym))] }
  have hplc : ∀ i, i ≤ L.length → (flat (L.take i)).length ≤ (flat L).length := fun i hi => by
    have : flat L = flat (L.take i) ++ flat (L.drop i) := by
      conv => lhs; rw [← List.take_append_drop i L]
      unfold flat
      rw [List.flatMap_append]
    rw [this, List.length_append]; omega
  have hLn : L.length ≤ (flat L).length := by
    have : ∀ M : List Pc, M.length ≤ (flat M).length := fun M => by
      induction M with
      | nil => exact Nat.zero_le _
      | cons p M ih =>
        have := p.cps_pos
        show _ ≤ (p.cps ++ flat M).length
        rw [List.length_append, List.length_cons]; omega
    exact this L
  refine WS.cons (WX.while_ (n := L.length) (fun i σ => σ = S i) ⟨_, Sle.to (by repeat (first | exact trivial | refine ⟨rfl, ?_⟩)), rfl⟩ ?_ ?_)
  · rintro i σ hi rfl
    have hpc := hL _ (List.getElem_mem hi)
    have hsp := flat_split hi
    have hts := flat_take_succ hi
    have hlen1 := congrArg List.length hts
    have hlen2 := hplc (i + 1) hi
    have hmap : (L.take (i + 1)).map Pc.sym = (L.take i).map Pc.sym ++ [L[i].sym] := by rw [List.take_succ_eq_append_getElem hi, List.map_append]; rfl
    have hsyms : ((L.take i).map Pc.sym).length ≤ 1000 := by rw [List.length_map, List.length_take]; omega
    generalize hpre : flat (L.take i) = pre at *
    generalize hpost : flat (L.drop (i + 1)) = post at *
    generalize hp : L[i] = p at *
    rw [List.length_append] at hlen1
    have hpos := p.cps_pos
    have hS : S i = { loc := [("page", .d (.str (strL (flat L)))), ("spelled", .d (.sd c.prog c.w readSpell)), ("symbols", .m 0), ("place", .d (.int pre.length))], mu := [.list (vints ((L.take i).map Pc.sym))] } := by simp only [S, hpre]
    have hS1 : S (i + 1) = { loc := [("page", .d (.str (strL (flat L)))), ("spelled", .d (.sd c.prog c.w readSpell)), ("symbols", .m 0), ("place", .d (.int (pre.length + p.cps.length : Nat)))], mu := [.list (vints ((L.take i).map Pc.sym ++ [p.sym]))] } := by simp only [S, hmap, hlen1]
    rw [hS]
    have htest : decide ((pre.length : Int) < ((strL (flat L)).length : Int)) = true := decide_eq_true (by rw [strL_len]; omega)
    refine ⟨_, TrW.cmp EwA (Ew.callB (Ew.gblt G' (by decide +kernel) blt_len) (EWs.cons EwA EWs.nil) (by rfl) (fn_len_str (by rw [strL_len]; omega))) (htest ▸ Op2.lt_int), ?_⟩
    have hx : ∀ j, (strL (flat L)).cps.toList[pre.length + j]? = (p.cps ++ post)[j]? := fun j => by
      rw [strL_cps, hsp, List.getElem?_append_right (Nat.le_add_right _ _), Nat.add_sub_cancel_left]
    have hx' : ∀ (ch : Nat), p.cps[0]? = some ch → (strL (flat L)).cps[(pre.length : Int).toNat]? = some ch := fun ch h => by
      have := hx 0
      rw [Nat.add_zero, List.getElem?_append_left (by first | decide | omega), h] at this
      rw [Int.toNat_natCast, ← Array.getElem?_toList]; exact this
    have hfirst : ∀ (ch : Nat), p.cps[0]? = some ch → ∀ {σ' : Sg}, σ'.loc.lookup (Str.ofString "page") = some (.d (.str (strL (flat L)))) → σ'.loc.lookup (Str.ofString "place") = some (.d (.int pre.length)) → True := fun _ _ _ _ _ => trivial
    obtain ⟨ch, hch⟩ : ∃ ch, p.cps[0]? = some ch := ⟨_, List.getElem?_eq_getElem (by first | decide | omega)⟩
    have hcell := hx' ch hch
    refine WS.cons (WX.assign_name (y := .d (.int (tokOf ch))) (by
      have key := @OpN.dgetB
      unfold tokOf
      rw [← lookup_map_int]
      exact Ew.meth (Ew.gval G' e1) (EWs.cons (Ew.sub EwA EwA (Op2.sub_str (by first | decide | omega) (by first | decide | omega) hcell)) (EWs.cons (Ew.binop EwA (Ew.callB (Ew.gblt G' (by decide +kernel) blt_ord) (EWs.cons (Ew.sub EwA EwA (Op2.sub_str (by first | decide | omega) (by first | decide | omega) hcell)) EWs.nil) (by rfl) fn_ord) OpA) EWs.nil))
        (HasT.rawd e2 e4.1) (OpN.dgetB e2 e3 e4 e5) F.plainAttrs_dict F.slot_dict_get F.type_dict_get) (AsW.local_ rfl rfl) ?_)
    have hvl : (vints ((L.take i).map Pc.sym)).length ≤ 1000000 := by rw [vints_length]; omega
    have hfin : ∀ (l : List Int) (y : Int), vints l ++ [Vl.d (.int y)] = vints (l ++ [y]) := fun l y => by simp [vints]
    cases p with
    | ch n =>
      have hn : ch = n := by simpa [Pc.cps] using hch.symm
      subst hn
      have hne : (tokOf ch == 19) = false := beq_eq_false_iff_ne.mpr (tokOf_amp (by simpa [Pc.ok] using hpc))
      refine WS.step (WX.ite (b := false) (TrW.cmp EwA EwA (hne ▸ Op2.eq_int)) (WS.nil SN.mk)) ?_
      refine WS.step (WX.expr (Ew.append EwA EwA ⟨_, rfl⟩ rfl hvl) SN.mk) ?_
      refine WS.step (WX.augName rfl rfl EwA Op2.iadd_int SN.mk) ?_
      refine WS.nil (LoopR.next ⟨S (i + 1), ?_, rfl⟩)
      refine Sle.to (σ' := S (i + 1)) (by rw [hS1]; repeat (first | exact trivial | refine ⟨rfl, ?_⟩)) ?_
      rw [hS1]
      simp [hfin, Pc.sym]
    | esc k =>
      have hn : ch = 38 := by simpa [Pc.cps] using hch.symm
      subst hn
      have heq : (tokOf 38 == 19) = true := by rw [tokOf_38]; rfl
      have hnm : 59 ∉ escName k ∧ (escName k).length ≤ 3 := escName_ok k
      have hcl : (Pc.esc k).cps.length = (escName k).length + 2 := by simp [Pc.cps]
      have hat : (strL (flat L)).cps.toList[pre.length + 1 + (escName k).length]? = some 59 := by
        rw [Nat.add_assoc, hx, List.getElem?_append_left (by first | decide | omega)]
        show (38 :: (escName k ++ [59]))[1 + (escName k).length]? = some 59
        rw [Nat.add_comm, List.getElem?_cons_succ, List.getElem?_append_right (Nat.le_refl _), Nat.sub_self]; rfl
      have hbefore : ∀ j, pre.length ≤ j → j < pre.length + 1 + (escName k).length → (strL (flat L)).cps.toList[j]? ≠ some 59 := fun j h1 h2 => by
        obtain ⟨j', rfl⟩ := Nat.exists_eq_add_of_le h1
        rw [hx, List.getElem?_append_left (by first | decide | omega)]
        show (38 :: (escName k ++ [59]))[j']? ≠ some 59
        cases j' with
        | zero => simp
        | succ j' =>
          rw [List.getElem?_cons_succ, List.getElem?_append_left (by first | decide | omega)]
          intro e
          exact hnm.1 (List.mem_of_getElem? e)
      obtain ⟨rest, hocc⟩ := index_at (Nat.le_trans (Nat.le_succ _) (Nat.le_add_right _ _)) hat hbefore
      have hfrom : fromIndex (strL (flat L)).length (pre.length : Int) = pre.length := by unfold fromIndex; rw [if_neg (by first | decide | omega)]; omega
      have hsl : StrLaws.sliceText (strL (flat L)) (some ((pre.length : Int) + 1)) (some ((pre.length + 1 + (escName k).length : Nat) : Int)) = strL (escName k) := by
        rw [StrLaws.sliceText_plain ⟨by omega, by omega, by rw [strL_cps]; omega⟩, strL_cps, hsp]
        have t1 : ((pre.length : Int) + 1).toNat = pre.length + 1 := by omega
        have t2 : (((pre.length + 1 + (escName k).length : Nat) : Int) - ((pre.length : Int) + 1)).toNat = (escName k).length := by omega
        rw [t1, t2, List.drop_append, List.drop_of_length_le (Nat.le_succ _), Nat.add_sub_cancel_left]
        show strL (([] ++ ((38 :: (escName k ++ [59])) ++ post).drop 1).take (escName k).length) = _
        simp
      refine WS.cons (WX.ite (b := true) (TrW.cmp EwA EwA (heq ▸ Op2.eq_int)) ?_)
      refine WS.step (WX.assign_name (Ew.methS EwA (EWs.cons EwA (EWs.cons EwA EWs.nil)) (OpN.str_index (y := ⟨#[59]⟩) (hfrom ▸ hocc)) F.slot_str_index F.type_str_index) (AsW.local_ rfl rfl) SN.mk) ?_
      refine WS.step (WX.assign_name (y := .d (.int (256 + (k : Nat)))) (Ew.binop EwA (Ew.callB (Ew.gblt G' (by decide +kernel) blt_ord) (EWs.cons (Ew.sub EwA (ew_slice_strE hsl EwA (by show Ev _ _ _ _ _; exact Ew.run EwA) (by show Ev _ _ _ _ _; exact Ew.run EwA) (by rw [strL_len]; omega)) (Op2.sub_sd (spell_at hpc))) EWs.nil) (by rfl) fn_ord) OpA) (AsW.local_ rfl rfl) SN.mk) ?_
      refine WS.step (WX.assign_name EwA (AsW.local_ rfl rfl) SN.mk) ?_
      refine WS.nil ?_
      refine WS.step (WX.expr (Ew.append EwA EwA ⟨_, rfl⟩ rfl hvl) SN.mk) ?_
      refine WS.step (WX.augName rfl rfl EwA Op2.iadd_int SN.mk) ?_
      refine WS.nil (LoopR.next ⟨S (i + 1), ?_, rfl⟩)
      have hpl : ((pre.length + 1 + (escName k).length : Nat) : Int) + 1 = ((pre.length + (Pc.esc k).cps.length : Nat) : Int) := by omega
      refine Sle.to (σ' := S (i + 1)) (by rw [hS1, ← hpl]; repeat (first | exact trivial | refine ⟨rfl, ?_⟩)) ?_
      rw [hS1]
      simp [hfin, Pc.sym]
  · rintro σ rfl
    have hS : S L.length = { loc := [("page", .d (.str (strL (flat L)))), ("spelled", .d (.sd c.prog c.w readSpell)), ("symbols", .m 0), ("place", .d (.int (flat L).length))], mu := [.list (vints (L.map Pc.sym))] } := by simp only [S, List.take_length]
    rw [hS]
    have htest : decide (((flat L).length : Int) < ((strL (flat L)).length : Int)) = false := decide_eq_false (by rw [strL_len]; omega)
    refine ⟨_, TrW.cmp EwA (Ew.callB (Ew.gblt G' (by decide +kernel) blt_len) (EWs.cons EwA EWs.nil) (by rfl) (fn_len_str (by rw [strL_len]; omega))) (htest ▸ Op2.lt_int), ?_⟩
    refine WS.nil (WS.cons (WX.ret (Ew.binop (Ew.frz EwA rfl (Frz.list (ds := (L.map Pc.sym).map .int) (by simp [vints]))) (Ew.lst (ds := [.int 0]) (EWs.cons EwA EWs.nil) rfl (by decide)) (Op2.add_lst (by rw [sizeLine_eq]; simp; omega))) ?_))
    show _ = _
    simp
end Mine
end TF5

section TF6
open PySem PySem.W PySem.Calls PyProof.Rows
set_option autoImplicit false
set_option linter.unusedVariables false
set_option Elab.async false
set_option maxRecDepth 100000
namespace Mine
variable {mg mb : Str → Option Value} {c : Cx}

/-- the state of the reading: open levels (the top first), leaves, made -/
structure Md where
  stk : List (List Int)
  lvs : List Int
  made : Int
noncomputable def Md.step (s : Md) (y : Int) : Option Md :=
  if 256 ≤ y then some { s with lvs := s.lvs ++ [y - 256] }
  else if y = 25 then some { s with stk := [] :: s.stk }
  else if y = 26 then match s.stk with
    | t :: u :: r => if s.made.natAbs ≤ 1000000 ∧ (sumsFn t).natAbs ≤ 1000000 then some { s with stk := (u ++ [0]) :: r, made := s.made * sumsFn t } else none
    | _ => none
  else if y = 0 then match s.stk with
    | t :: r => if s.made.natAbs ≤ 1000000 ∧ (sumsFn t).natAbs ≤ 1000000 then some { s with stk := r, made := s.made * sumsFn t } else none
    | _ => none
  else if y = 23 ∨ y = 49 then match s.stk with
    | u :: r => some { s with stk := (u ++ [1]) :: r }
    | _ => none
  else some s
noncomputable def Md.run : Md → List Int → Option Md
  | s, [] => some s
  | s, y :: r => (s.step y).bind fun s' => s'.run r
noncomputable def Md.fin (s : Md) (signs : List Int) : Int := if s.stk.isEmpty = false ∨ s.lvs ≠ signs then 0 else s.made
inductive Lives (mu : List MO) : List Nat → List (List Int) → Prop
  | nil : Lives mu [] []
  | cons {i : Nat} {is : List Nat} {l : List Int} {ls : List (List Int)} : mu[i]? = some (.list (vints l)) → Lives mu is ls → Lives mu (i :: is) (l :: ls)
theorem Lives.length {mu : List MO} {is : List Nat} {ls : List (List Int)} (h : Lives mu is ls) : is.length = ls.length := by
  induction h with
  | nil => rfl
  | cons _ _ ih => simp [ih]
theorem Lives.set {mu : List MO} {is : List Nat} {ls : List (List Int)} (h : Lives mu is ls) {k : Nat} (hk : k ∉ is) (m : MO) : Lives (mu.set k m) is ls := by
  induction h with
  | nil => exact .nil
  | cons h1 _ ih =>
    rw [List.mem_cons, not_or] at hk
    exact .cons (by rw [List.getElem?_set_ne hk.1]; exact h1) (ih hk.2)
theorem Lives.app {mu : List MO} {is : List Nat} {ls : List (List Int)} (h : Lives mu is ls) (m : MO) : Lives (mu ++ [m]) is ls := by
  induction h with
  | nil => exact .nil
  | cons h1 _ ih => exact .cons (by rw [List.getElem?_append_left (List.getElem?_eq_some_iff.mp h1).1]; exact h1) ih
theorem Lives.lt {mu : List MO} {is : List Nat} {ls : List (List Int)} (h : Lives mu is ls) : ∀ i ∈ is, i < mu.length := by
  induction h with
  | nil => intro i hi; cases hi
  | cons h1 _ ih =>
    intro i hi
    rcases List.mem_cons.mp hi with rfl | hi
    · exact (List.getElem?_eq_some_iff.mp h1).1
    · exact ih i hi
structure MdInv (syms signs : D) (n : Nat) (s : Md) (σ : Sg) : Prop where
  loc : σ.loc = ([("symbols", .d syms), ("signs", .d signs), ("levels", .m 1), ("leaves", .m 2), ("made", .d (.int s.made))] : List (Str × Vl))
  cix : σ.cix = []
  fce : σ.fce = []
  ids : ∃ ids : List Nat, σ.mu[1]? = some (.list (ids.reverse.map .m)) ∧ σ.mu[2]? = some (.list (vints s.lvs)) ∧ Lives σ.mu ids s.stk ∧ ids.Nodup ∧ 1 ∉ ids ∧ 2 ∉ ids
  pos : ∀ l ∈ s.stk, (∀ x ∈ l, 0 ≤ x) ∧ l.sum ≤ n ∧ l.length ≤ n
  few : s.lvs.length ≤ n ∧ s.stk.length ≤ n + 1
theorem Md.run_append : ∀ (a b : List Int) (s : Md), s.run (a ++ b) = (s.run a).bind fun s' => s'.run b
  | [], b, s => rfl
  | y :: a, b, s => by
    rw [List.cons_append, Md.run, Md.run]
    cases h : s.step y with
    | none => rfl
    | some s' => exact Md.run_append a b s'
theorem Md.step_of {syms : List Int} {s0 s s' : Md} {i : Nat} (hi : i < syms.length) (hrun : s0.run syms = some s') (h : s0.run (syms.take i) = some s) : ∃ s2, s.step (syms.getD i 0) = some s2 ∧ s0.run (syms.take (i + 1)) = some s2 := by
  have hy : syms.getD i 0 = syms[i] := by rw [List.getD_eq_getElem?_getD, List.getElem?_eq_getElem hi]; rfl
  have e : syms = syms.take i ++ (syms[i] :: syms.drop (i + 1)) := by rw [← List.drop_eq_getElem_cons hi, List.take_append_drop]
  have h1 := hrun
  rw [e, Md.run_append, h] at h1
  have h2 : (s.step syms[i]).bind (fun s' => s'.run (syms.drop (i + 1))) = some s' := h1
  cases hs : s.step syms[i] with
  | none => rw [hs] at h2; cases h2
  | some s2 =>
    refine ⟨s2, by rw [hy]; exact hs, ?_⟩
    rw [List.take_succ_eq_append_getElem hi, Md.run_append, h]
    show (s.step syms[i]).bind (fun s' => s'.run []) = _
    rw [hs]; rfl
set_option maxHeartbeats 4000000 in
theorem made_ok {syms : List Int} {signs : List Nat} {s' : Md} (hrun : (Md.mk [[]] [] 1).run syms = some s') (hn : syms.length ≤ 900) (hs : signs.length ≤ 900) (G : GX mg mb c) (hr : Room c.A 8) :
    ∃ f, mg "_law_made" = some f ∧ IsFn c f ∧ FnOk c f [.lst (syms.map .int), .lst (signs.map fun n => .str ⟨#[n]⟩)] (.int (s'.fin (signs.map fun (n : Nat) => (n : Int)))) := by
  refine FnOk.def_ (k := 7) G hr (by decide +kernel) rfl (fun _ _ _ => vs2 fun _ _ => rfl) (by decide +kernel) fun a code B Ia L G' hr' => ?_
  have hh := hr'.handled
  refine WS.le (σ₁ := { loc := [("signs", .d (.lst (signs.map fun n => .str ⟨#[n]⟩))), ("symbols", .d (.lst (syms.map .int)))] }) (Sle.refl _) ?_
  refine WS.step (WX.assign_name (Ew.lstM (EWs.cons (Ew.lstM EWs.nil (by decide)) EWs.nil) (by show (1 : Nat) ≤ sizeLine; decide)) (AsW.local_ rfl rfl) SN.mk) ?_
  refine WS.step (WX.assign_name (Ew.lstM EWs.nil (by decide)) (AsW.local_ rfl rfl) SN.mk) ?_
  refine WS.step (WX.assign_name EwA (AsW.local_ rfl rfl) SN.mk) ?_
  refine WS.cons (WX.for_ (fun i σ => ∃ s, (Md.mk [[]] [] 1).run (syms.take i) = some s ∧ MdInv (.lst (syms.map .int)) (.lst (signs.map fun n => .str ⟨#[n]⟩)) i s σ)
    (ItW.lstMap .int syms 0 hh EwA) ⟨_, Sle.to (σ' := { loc := [("symbols", .d (.lst (syms.map .int))), ("signs", .d (.lst (signs.map fun n => .str ⟨#[n]⟩))), ("levels", .m 1), ("leaves", .m 2), ("made", .d (.int 1))], mu := [.list [], .list [.m 0], .list []] }) (by repeat (first | exact trivial | refine ⟨rfl, ?_⟩)),
      ⟨[[]], [], 1⟩, rfl, ⟨rfl, rfl, rfl, ⟨[0], rfl, rfl, .cons rfl .nil, by simp, by simp, by simp⟩, by simp, by simp⟩⟩ ?_ ?_)
  · rintro i σ hi ⟨s, hrs, hinv⟩
    obtain ⟨s2, hst, hr2⟩ := Md.step_of hi hrun hrs
    obtain ⟨loc, cix, fce, ⟨ids, m1, m2, hlv, hnd, hn1, hn2⟩, hpos, hfew⟩ := hinv
    obtain ⟨lo, mu, ci, fc⟩ := σ
    dsimp only at loc cix fce m1 m2 hlv
    subst loc cix fce
    generalize hy : syms.getD i 0 = y at *
    refine ⟨_, AsW.local_ rfl rfl, ?_⟩
    obtain ⟨f1, hf1, hi1, ok1⟩ := isnt_ok (i := y) G' (hr'.le (by first | decide | omega))
    obtain ⟨f2, hf2, hi2, ok2⟩ := iseof_ok (i := y) G' (hr'.le (by first | decide | omega))
    have hp' : ∀ {l : List Int}, l ∈ s.stk → (∀ x ∈ l, 0 ≤ x) ∧ l.sum ≤ (i + 1 : Nat) ∧ l.length ≤ i + 1 := fun hl => ⟨(hpos _ hl).1, by have := (hpos _ hl).2.1; omega, by have := (hpos _ hl).2.2; omega⟩
    have hvl : (vints s.lvs).length ≤ 1000000 := by rw [vints_length]; omega
    by_cases h256 : 256 ≤ y
    · rw [decide_eq_true h256] at ok1
      have hs2 : s2 = { s with lvs := s.lvs ++ [y - 256] } := by unfold Md.step at hst; rw [if_pos h256] at hst; exact (Option.some.inj hst).symm
      subst hs2
      refine WS.cons (WX.ite (b := true) (TrW.of_bool (Ew.call (Ew.gval G' hf1) hi1 (EWs.cons EwA EWs.nil) (by rfl) ok1)) ?_)
      refine WS.step (WX.expr (Ew.append EwA EwA ⟨_, m2⟩ m2 hvl) SN.mk) ?_
      refine WS.nil (WS.nil (LoopR.next ⟨{ loc := _, mu := mu.set 2 (.list (vints s.lvs ++ [.d (.int (y - 256))])) }, Sle.to (by exact ⟨rfl, rfl, rfl, rfl, rfl, trivial⟩), _, hr2, rfl, rfl, rfl, ⟨ids, ?_, ?_, hlv.set hn2 _, hnd, hn1, hn2⟩, fun l hl => hp' hl, ?_⟩))
      · rw [List.getElem?_set_ne (by decide)]; exact m1
      · rw [List.getElem?_set_self (List.getElem?_eq_some_iff.mp m2).1]; simp [vints]
      · simp; omega
    · rw [decide_eq_false h256] at ok1
      unfold Md.step at hst
      rw [if_neg h256] at hst
      have l1 := (List.getElem?_eq_some_iff.mp m1).1
      have l2 := (List.getElem?_eq_some_iff.mp m2).1
      have top : ∀ {mu' : List MO} {iu : Nat} {ir : List Nat} {u : List Int} {z : Int}, mu'[1]? = some (.list ((iu :: ir).reverse.map .m)) → mu'[iu]? = some (.list (vints u)) → u.length ≤ 1000000 → (iu :: ir).length ≤ 1000 → ∀ {mk : Int} {zk : Nat} {p1 p2 p3 p4 p5 p6 p7 : Pos}, (p4.endLine == p5.line) = true →
          Ew (cxIn c "_law_made" ((pw.theDef "_law_made").get rfl).2.2 L a code B Ia) { loc := [("symbol", .d (.int y)), ("symbols", .d (.lst (syms.map .int))), ("signs", .d (.lst (signs.map fun n => .str ⟨#[n]⟩))), ("levels", .m 1), ("leaves", .m 2), ("made", .d (.int mk))], mu := mu' }
            (.Call (.Attribute (.Subscript (.Name "levels" p1) (.UnaryOp .USub (.Constant (.int 1) zk p2) p3) p6) "append" p4) [.Constant (.int z) zk p7] [] p5) (.d .none)
            { loc := [("symbol", .d (.int y)), ("symbols", .d (.lst (syms.map .int))), ("signs", .d (.lst (signs.map fun n => .str ⟨#[n]⟩))), ("levels", .m 1), ("leaves", .m 2), ("made", .d (.int mk))], mu := mu'.set iu (.list (vints (u ++ [z]))) } := by
        intro mu' iu ir u z q1 q2 q3 q4 mk zk p1 p2 p3 p4 p5 p6 p7 hl
        have e : vints (u ++ [z]) = vints u ++ [Vl.d (.int z)] := by simp [vints]
        rw [e]
        have hlen : ((iu :: ir).reverse.map Vl.m).length = ir.length + 1 := by simp
        refine Ew.cast (Ew.append (Ew.sub EwA EwA (Op2.sub_mut_neg q1 (by first | decide | omega) (by rw [hlen]; omega) (by first | decide | omega) ?_)) EwA ⟨_, q2⟩ q2 (by rw [vints_length]; exact q3) hl) rfl
        have e2 : ((-1 : Int) + ((iu :: ir).reverse.map Vl.m).length).toNat = ir.length := by rw [hlen]; omega
        rw [e2]
        simp
      by_cases h25 : y = 25
      · rw [if_pos h25] at hst
        cases hst
        refine WS.cons (WX.ite (b := false) (TrW.of_bool (Ew.call (Ew.gval G' hf1) hi1 (EWs.cons EwA EWs.nil) (by rfl) ok1)) ?_)
        refine WS.cons (WX.ite (b := true) (TrW.cmp EwA EwA (beq_iff_eq.mpr h25 ▸ Op2.eq_int)) ?_)
        have m1' : (mu ++ [MO.list []])[1]? = some (.list (ids.reverse.map .m)) := by rw [List.getElem?_append_left l1]; exact m1
        have m2' : (mu ++ [MO.list []])[2]? = some (.list (vints s.lvs)) := by rw [List.getElem?_append_left l2]; exact m2
        have hil : ids.length ≤ 1000 := by rw [hlv.length]; omega
        refine WS.step (WX.expr (Ew.append EwA (Ew.lstM EWs.nil (by decide)) ⟨_, m1⟩ m1' (by simp; omega)) SN.mk) ?_
        have hni : mu.length ∉ ids := fun hm => Nat.lt_irrefl _ (hlv.lt _ hm)
        refine WS.nil (WS.nil (WS.nil (LoopR.next ⟨{ loc := _, mu := (mu ++ [MO.list []]).set 1 (.list (ids.reverse.map .m ++ [.m mu.length])) }, Sle.to (by exact ⟨rfl, rfl, rfl, rfl, rfl, trivial⟩), _, hr2, rfl, rfl, rfl, ⟨mu.length :: ids, ?_, ?_, .cons ?_ ((hlv.app _).set hn1 _), ?_, ?_, ?_⟩, ?_, ?_⟩)))
        · rw [List.getElem?_set_self (by rw [List.length_append]; omega)]; simp
        · rw [List.getElem?_set_ne (by decide)]; exact m2'
        · rw [List.getElem?_set_ne (by first | decide | omega), List.getElem?_append_right (Nat.le_refl _), Nat.sub_self]; rfl
        · rw [List.nodup_cons]; exact ⟨hni, hnd⟩
        · rw [List.mem_cons, not_or]; exact ⟨by omega, hn1⟩
        · rw [List.mem_cons, not_or]; exact ⟨by omega, hn2⟩
        · intro l hl
          rcases List.mem_cons.mp hl with rfl | hl
          · exact ⟨(fun x hx => (nomatch hx)), Int.natCast_nonneg _, Nat.zero_le _⟩
          · exact hp' hl
        · simp; omega
      rw [if_neg h25] at hst
      have hlast : ∀ {it : Nat} {ir : List Nat} {t : List Int} {r : List (List Int)}, ids = it :: ir → s.stk = t :: r → mu[1]? = some (.list (ir.reverse.map .m ++ [.m it])) := fun e1 e2 => by rw [m1, e1]; simp
      have hlens : ∀ u ∈ s.stk, u.length ≤ 1000000 := fun u hu => by have := (hpos u hu).2.2; omega
      have bits : ∀ {x : Int}, x.natAbs ≤ 1000000 → Builtin.Int.intBits x ≤ 64 := fun {x} hx => by
        unfold Builtin.Int.intBits
        split
        · omega
        · rename_i hz
          have hz' : x.natAbs ≠ 0 := fun e => hz (by rw [beq_iff_eq]; omega)
          have : x.natAbs.log2 < 20 := (Nat.log2_lt hz').mpr (by first | decide | omega)
          omega
      have pops : ∀ {it : Nat} {ir : List Nat} {t : List Int} {r : List (List Int)}, ids = it :: ir → s.stk = t :: r → s.made.natAbs ≤ 1000000 →
          ∃ f, mg "_law_sums" = some f ∧ IsFn (cxIn c "_law_made" ((pw.theDef "_law_made").get rfl).2.2 L a code B Ia) f ∧ FnOk (cxIn c "_law_made" ((pw.theDef "_law_made").get rfl).2.2 L a code B Ia) f [.lst (t.map .int)] (.int (sumsFn t)) ∧
          (mu.set 1 (.list (ir.reverse.map .m)))[it]? = some (.list (vints t)) := fun e1 e2 h => by
        have ht := hpos _ (e2 ▸ List.mem_cons_self ..)
        obtain ⟨f, h1, h2, h3⟩ := sums_ok (closing := _) G' (hr'.le (by first | decide | omega)) ht.1 (by have := ht.2.1; omega)
        refine ⟨f, h1, h2, h3, ?_⟩
        rw [e1] at hlv hn1
        rw [e2] at hlv
        rw [List.mem_cons, not_or] at hn1
        cases hlv with
        | cons q _ => rw [List.getElem?_set_ne hn1.1]; exact q
      by_cases h26 : y = 26
      · rw [if_pos h26] at hst
        have hst0 := hst
        cases hstk : s.stk with
        | nil => rw [hstk] at hst; cases hst
        | cons t r1 =>
          cases r1 with
          | nil => rw [hstk] at hst; cases hst
          | cons u r =>
            rw [hstk] at hst
            replace hst : (if s.made.natAbs ≤ 1000000 ∧ (sumsFn t).natAbs ≤ 1000000 then some { s with stk := (u ++ [0]) :: r, made := s.made * sumsFn t } else none) = some s2 := hst
            split at hst
            · rename_i hg
              cases hst
              rw [hstk] at hlv
              cases hlv with
              | @cons it ids' _ _ q1 hlv' =>
                cases hlv' with
                | @cons iu ir _ _ q2 hlv'' =>
                  obtain ⟨fs, hfs, his, oks, q3⟩ := pops rfl hstk hg.1
                  rw [List.nodup_cons] at hnd
                  have hnd2 := hnd.2
                  rw [List.nodup_cons] at hnd2
                  simp only [List.mem_cons, not_or] at hn1 hn2 hnd
                  refine WS.cons (WX.ite (b := false) (TrW.of_bool (Ew.call (Ew.gval G' hf1) hi1 (EWs.cons EwA EWs.nil) (by rfl) ok1)) ?_)
                  refine WS.cons (WX.ite (b := false) (TrW.cmp EwA EwA (beq_eq_false_iff_ne.mpr h25 ▸ Op2.eq_int)) ?_)
                  refine WS.cons (WX.ite (b := true) (TrW.cmp EwA EwA (beq_iff_eq.mpr h26 ▸ Op2.eq_int)) ?_)
                  refine WS.step (WX.augName rfl rfl (Ew.call (Ew.gval G' hfs) his (EWs.cons (Ew.frz (Ew.pop EwA (hlast rfl hstk) (by have := hlv''.length; have := hfew.2; rw [hstk] at this; simp at this ⊢; omega)) q3 (Frz.list (ds := t.map .int) (by simp [vints]))) EWs.nil) (by rfl) oks) (Op2.imul_int (IntMulOk.of_left (bits hg.1))) SN.mk) ?_
                  have hul : u.length ≤ 1000000 := hlens u (by rw [hstk]; simp)
                  have hir : ir.length ≤ 900 := by have := hlv''.length; have := hfew.2; rw [hstk] at this; simp at this; omega
                  refine WS.le (σ₁ := { loc := [("symbol", .d (.int y)), ("symbols", .d (.lst (syms.map .int))), ("signs", .d (.lst (signs.map fun n => .str ⟨#[n]⟩))), ("levels", .m 1), ("leaves", .m 2), ("made", .d (.int (s.made * sumsFn t)))], mu := (mu.set 1 (.list ((iu :: ir).reverse.map .m))).set it .gone }) (Sle.to (by exact ⟨rfl, rfl, rfl, rfl, rfl, rfl, trivial⟩)) ?_
                  have g1 : ((mu.set 1 (MO.list ((iu :: ir).reverse.map .m))).set it .gone)[1]? = some (.list ((iu :: ir).reverse.map .m)) := by
                    rw [List.getElem?_set_ne (Ne.symm hn1.1), List.getElem?_set_self l1]
                  have g2 : ((mu.set 1 (MO.list ((iu :: ir).reverse.map .m))).set it .gone)[iu]? = some (.list (vints u)) := by
                    rw [List.getElem?_set_ne hnd.1.1, List.getElem?_set_ne hn1.2.1]; exact q2
                  refine WS.step (WX.expr (top g1 g2 hul (by simp; omega) rfl) SN.mk) ?_
                  refine WS.nil (WS.nil (WS.nil (WS.nil (LoopR.next ⟨{ loc := _, mu := ((mu.set 1 (MO.list ((iu :: ir).reverse.map .m))).set it .gone).set iu (.list (vints (u ++ [0]))) }, Sle.to (by exact ⟨rfl, rfl, rfl, rfl, rfl, trivial⟩), _, hr2, rfl, rfl, rfl, ⟨iu :: ir, ?_, ?_, .cons ?_ (((hlv''.set hn1.2.2 _).set hnd.1.2 _).set hnd2.1 _), ?_, ?_, ?_⟩, ?_, ?_⟩))))
                  · rw [List.getElem?_set_ne (Ne.symm hn1.2.1)]; exact g1
                  · rw [List.getElem?_set_ne (Ne.symm hn2.2.1), List.getElem?_set_ne (Ne.symm hn2.1), List.getElem?_set_ne (by decide)]; exact m2
                  · rw [List.getElem?_set_self (by have := (List.getElem?_eq_some_iff.mp g2).1; exact this)]
                  · rw [List.nodup_cons]; exact hnd2
                  · rw [List.mem_cons, not_or]; exact hn1.2
                  · rw [List.mem_cons, not_or]; exact hn2.2
                  · intro l hl
                    rcases List.mem_cons.mp hl with rfl | hl
                    · have := hpos u (by rw [hstk]; simp)
                      refine ⟨fun x hx => ?_, by rw [List.sum_append]; have := this.2.1; simp; omega, by rw [List.length_append]; have := this.2.2; simp; omega⟩
                      rcases List.mem_append.mp hx with hx | hx
                      · exact this.1 x hx
                      · rw [List.mem_singleton.mp hx]; exact Int.le_refl _
                    · exact hp' (by rw [hstk]; simp [hl])
                  · have := hfew.2; rw [hstk] at this; simp at this ⊢; omega
            · cases hst
      rw [if_neg h26] at hst
      refine WS.cons (WX.ite (b := false) (TrW.of_bool (Ew.call (Ew.gval G' hf1) hi1 (EWs.cons EwA EWs.nil) (by rfl) ok1)) ?_)
      refine WS.cons (WX.ite (b := false) (TrW.cmp EwA EwA (beq_eq_false_iff_ne.mpr h25 ▸ Op2.eq_int)) ?_)
      refine WS.cons (WX.ite (b := false) (TrW.cmp EwA EwA (beq_eq_false_iff_ne.mpr h26 ▸ Op2.eq_int)) ?_)
      by_cases h0 : y = 0
      · rw [if_pos h0] at hst
        rw [beq_iff_eq.mpr h0] at ok2
        cases hstk : s.stk with
        | nil => rw [hstk] at hst; cases hst
        | cons t r =>
          rw [hstk] at hst
          replace hst : (if s.made.natAbs ≤ 1000000 ∧ (sumsFn t).natAbs ≤ 1000000 then some { s with stk := r, made := s.made * sumsFn t } else none) = some s2 := hst
          split at hst
          · rename_i hg
            cases hst
            rw [hstk] at hlv
            cases hlv with
            | @cons it ir _ _ q1 hlv' =>
              obtain ⟨fs, hfs, his, oks, q3⟩ := pops rfl hstk hg.1
              rw [List.nodup_cons] at hnd
              simp only [List.mem_cons, not_or] at hn1 hn2
              have hir : ir.length ≤ 900 := by have := hlv'.length; have := hfew.2; rw [hstk] at this; simp at this; omega
              refine WS.cons (WX.ite (b := true) (TrW.of_bool (Ew.call (Ew.gval G' hf2) hi2 (EWs.cons EwA EWs.nil) (by rfl) ok2)) ?_)
              refine WS.step (WX.augName rfl rfl (Ew.call (Ew.gval G' hfs) his (EWs.cons (Ew.frz (Ew.pop EwA (hlast rfl hstk) (by simp; omega)) q3 (Frz.list (ds := t.map .int) (by simp [vints]))) EWs.nil) (by rfl) oks) (Op2.imul_int (IntMulOk.of_left (bits hg.1))) SN.mk) ?_
              refine WS.nil (WS.nil (WS.nil (WS.nil (WS.nil (LoopR.next ⟨{ loc := _, mu := (mu.set 1 (MO.list (ir.reverse.map .m))).set it .gone }, Sle.to (by exact ⟨rfl, rfl, rfl, rfl, rfl, trivial⟩), _, hr2, rfl, rfl, rfl, ⟨ir, ?_, ?_, ((hlv'.set hn1.2 _).set hnd.1 _), hnd.2, hn1.2, hn2.2⟩, ?_, ?_⟩)))))
              · rw [List.getElem?_set_ne (Ne.symm hn1.1), List.getElem?_set_self l1]
              · rw [List.getElem?_set_ne (Ne.symm hn2.1), List.getElem?_set_ne (by decide)]; exact m2
              · intro l hl
                exact hp' (by rw [hstk]; exact .tail _ hl)
              · have := hfew.2; rw [hstk] at this; simp at this ⊢; omega
          · cases hst
      rw [if_neg h0] at hst
      rw [beq_eq_false_iff_ne.mpr h0] at ok2
      refine WS.cons (WX.ite (b := false) (TrW.of_bool (Ew.call (Ew.gval G' hf2) hi2 (EWs.cons EwA EWs.nil) (by rfl) ok2)) ?_)
      by_cases h23 : y = 23 ∨ y = 49
      · rw [if_pos h23] at hst
        cases hstk : s.stk with
        | nil => rw [hstk] at hst; cases hst
        | cons u r =>
          rw [hstk] at hst
          replace hst : some { s with stk := (u ++ [1]) :: r } = some s2 := hst
          cases hst
          rw [hstk] at hlv
          cases hlv with
          | @cons iu ir _ _ q2 hlv'' =>
            have hnd2 := hnd
            rw [List.nodup_cons] at hnd2
            have hn1' := hn1
            have hn2' := hn2
            simp only [List.mem_cons, not_or] at hn1' hn2'
            have hul : u.length ≤ 1000000 := hlens u (by rw [hstk]; simp)
            have hir : ir.length ≤ 900 := by have := hlv''.length; have := hfew.2; rw [hstk] at this; simp at this; omega
            refine WS.cons (WX.ite (b := true) (by
              by_cases h : y = 23
              · exact TrW.or_t (TrW.cmp EwA EwA (beq_iff_eq.mpr h ▸ Op2.eq_int))
              · exact TrW.or_f (TrW.cmp EwA EwA (beq_eq_false_iff_ne.mpr h ▸ Op2.eq_int)) (TrW.or_t (TrW.cmp EwA EwA (beq_iff_eq.mpr (h23.resolve_left h) ▸ Op2.eq_int)))) ?_)
            refine WS.step (WX.expr (top m1 q2 hul (by simp; omega) rfl) SN.mk) ?_
            refine WS.nil (WS.nil (WS.nil (WS.nil (WS.nil (WS.nil (LoopR.next ⟨{ loc := _, mu := mu.set iu (.list (vints (u ++ [1]))) }, Sle.to (by exact ⟨rfl, rfl, rfl, rfl, rfl, trivial⟩), _, hr2, rfl, rfl, rfl, ⟨iu :: ir, ?_, ?_, .cons ?_ (hlv''.set hnd2.1 _), hnd, hn1, hn2⟩, ?_, ?_⟩))))))
            · rw [List.getElem?_set_ne (Ne.symm hn1'.1)]; exact m1
            · rw [List.getElem?_set_ne (Ne.symm hn2'.1)]; exact m2
            · rw [List.getElem?_set_self (List.getElem?_eq_some_iff.mp q2).1]
            · intro l hl
              rcases List.mem_cons.mp hl with rfl | hl
              · have := hpos u (by rw [hstk]; simp)
                refine ⟨fun x hx => ?_, by rw [List.sum_append]; have := this.2.1; simp; omega, by rw [List.length_append]; have := this.2.2; simp; omega⟩
                rcases List.mem_append.mp hx with hx | hx
                · exact this.1 x hx
                · rw [List.mem_singleton.mp hx]; decide
              · exact hp' (by rw [hstk]; simp [hl])
            · have := hfew.2; rw [hstk] at this; simp at this ⊢; omega
      · rw [if_neg h23] at hst
        cases hst
        rw [not_or] at h23
        refine WS.cons (WX.ite (b := false) (TrW.or_f (TrW.cmp EwA EwA (beq_eq_false_iff_ne.mpr h23.1 ▸ Op2.eq_int)) (TrW.or_f (TrW.cmp EwA EwA (beq_eq_false_iff_ne.mpr h23.2 ▸ Op2.eq_int)) TrW.or_nil)) ?_)
        exact WS.nil (WS.nil (WS.nil (WS.nil (WS.nil (WS.nil (LoopR.next ⟨{ loc := _, mu := mu }, Sle.to (by exact ⟨rfl, rfl, rfl, rfl, rfl, trivial⟩), _, hr2, rfl, rfl, rfl, ⟨ids, m1, m2, hlv, hnd, hn1, hn2⟩, fun l hl => hp' hl, by omega, by omega⟩))))))
  · rintro σ ⟨s, hrs, hinv⟩
    rw [List.take_length, hrun] at hrs
    cases hrs
    obtain ⟨loc, cix, fce, ⟨ids, m1, m2, hlv, hnd, hn1, hn2⟩, hpos, hfew⟩ := hinv
    obtain ⟨lo, mu, ci, fc⟩ := σ
    dsimp only at loc cix fce m1 m2 hlv
    subst loc cix fce
    refine WS.nil ?_
    have hem : (ids.reverse.map Vl.m).isEmpty = s'.stk.isEmpty := by
      have := hlv.length
      cases hx : s'.stk with
      | nil => rw [hx] at this; rw [List.length_eq_zero_iff.mp this]; rfl
      | cons a l =>
        rw [hx] at this
        cases ids with
        | nil => simp at this
        | cons b l' => simp
    cases hse : s'.stk.isEmpty with
    | false =>
      refine WS.cons (WX.ite (b := true) (TrW.or_t (TrW.cmp EwA (Ew.lst (ds := []) EWs.nil rfl (by decide)) ((by rw [hem, hse]; rfl : (!(ids.reverse.map Vl.m).isEmpty) = true) ▸ Op2.ne_empty (hr'.le (by first | decide | omega)) m1))) ?_)
      refine WS.cons (WX.ret EwA ?_)
      show _ = _
      unfold Md.fin
      rw [if_pos (.inl hse)]
    | true =>
      by_cases heq : s'.lvs = signs.map (fun (n : Nat) => (n : Int))
      · refine WS.cons (WX.ite (b := false) (TrW.or_f (TrW.cmp EwA (Ew.lst (ds := []) EWs.nil rfl (by decide)) ((by rw [hem, hse]; rfl : (!(ids.reverse.map Vl.m).isEmpty) = false) ▸ Op2.ne_empty (hr'.le (by first | decide | omega)) m1))
          (TrW.or_f (TrW.cmp (Ew.frz EwA m2 (Frz.list (ds := s'.lvs.map .int) (by simp [vints]))) (Ew.compL [] _ ((signs.map (fun (n : Nat) => (n : Int))).map .int) (ItW.lstMap (fun n => .str ⟨#[n]⟩) signs 0 hh EwA) rfl trivial (by rw [sizeLine_eq]; omega) rfl
            (fun C B Ia i xs hi hB => Ew.callB (Ew.gblt (G'.mono hB) (by decide +kernel) blt_ord) (EWs.cons EwA EWs.nil) (by rfl) fn_ord) (comp_items signs 0 (fun n => .int (n : Nat)) .int (fun (n : Nat) => (n : Int)) fun _ => rfl)) ((by rw [heq]; simp : (s'.lvs != signs.map (fun (n : Nat) => (n : Int))) = false) ▸ Op2.ne_ints (hr'.le (by first | decide | omega)))) TrW.or_nil)) ?_)
        refine WS.nil (WS.cons (WX.ret EwA ?_))
        show _ = _
        unfold Md.fin
        rw [if_neg (by rw [hse]; simp [heq])]
      · refine WS.cons (WX.ite (b := true) (TrW.or_f (TrW.cmp EwA (Ew.lst (ds := []) EWs.nil rfl (by decide)) ((by rw [hem, hse]; rfl : (!(ids.reverse.map Vl.m).isEmpty) = false) ▸ Op2.ne_empty (hr'.le (by first | decide | omega)) m1))
          (TrW.or_t (TrW.cmp (Ew.frz EwA m2 (Frz.list (ds := s'.lvs.map .int) (by simp [vints]))) (Ew.compL [] _ ((signs.map (fun (n : Nat) => (n : Int))).map .int) (ItW.lstMap (fun n => .str ⟨#[n]⟩) signs 0 hh EwA) rfl trivial (by rw [sizeLine_eq]; omega) rfl
            (fun C B Ia i xs hi hB => Ew.callB (Ew.gblt (G'.mono hB) (by decide +kernel) blt_ord) (EWs.cons EwA EWs.nil) (by rfl) fn_ord) (comp_items signs 0 (fun n => .int (n : Nat)) .int (fun (n : Nat) => (n : Int)) fun _ => rfl)) ((bne_iff_ne.mpr heq) ▸ Op2.ne_ints (hr'.le (by first | decide | omega)))))) ?_)
        refine WS.cons (WX.ret EwA ?_)
        show _ = _
        unfold Md.fin
        rw [if_pos (.inr heq)]
end Mine
end TF6

section TF7
open PySem PySem.W PySem.Calls PyProof.Rows
set_option autoImplicit false
set_option linter.unusedVariables false
set_option Elab.async false
set_option maxRecDepth 100000
namespace Mine
variable {mg mb : Str → Option Value} {c : Cx}

/-- one way to join a stretch of signs -/
structure Wy where
  sh : Sh
  tx : Str
  br : List Int
noncomputable def Wy.d (w : Wy) : D := .tup [w.sh.d, .str w.tx, .lst (w.br.map .int)]
noncomputable def joinS (k : Int) (l r : Str) : Str := if k = 0 then ("{" : Str) ++ l ++ ("}" : Str) ++ r else if k = 1 then l ++ ("." : Str) ++ r else l ++ ("@" : Str) ++ r
noncomputable def Wy.join (kinds : List Int) (first gap : Nat) (l r : Wy) : Wy :=
  ⟨.node gap l.sh r.sh, joinS (kinds.getD gap 0) l.tx r.tx, (if kinds.getD gap 0 = 0 then [(first : Int)] else []) ++ l.br ++ r.br⟩
noncomputable def cell (signs : List Str) (kinds : List Int) : Nat → Nat → Nat → List Wy
  | 0, _, _ => []
  | _ + 1, 0, first => [⟨.leaf first, signs.getD first ⟨#[]⟩, []⟩]
  | f + 1, w + 1, first => (List.range (w + 1)).flatMap fun g => (cell signs kinds f g first).flatMap fun l => (cell signs kinds f (w - g) (first + g + 1)).map fun r => Wy.join kinds first (first + g) l r
theorem lookup_putKV {k k' : Int} {d : D} : ∀ (kvs : List (Int × D)), (putKV kvs k d).lookup k' = if k' = k then some d else kvs.lookup k'
  | [] => by
    show List.lookup k' [(k, d)] = _
    rw [List.lookup_cons]
    by_cases h : k' = k
    · subst h; simp
    · rw [if_neg h, beq_eq_false_iff_ne.mpr h]
  | (a, b) :: r => by
    rw [putKV]
    by_cases ha : a = k
    · subst ha
      rw [if_pos rfl, List.lookup_cons, List.lookup_cons]
      by_cases h : k' = a
      · subst h; simp
      · rw [if_neg h, beq_eq_false_iff_ne.mpr h]
    · rw [if_neg ha, List.lookup_cons, List.lookup_cons, lookup_putKV r]
      by_cases h : k' = k
      · subst h
        rw [beq_eq_false_iff_ne.mpr (Ne.symm ha)]
      · simp only [if_neg h]
theorem length_putKV {k : Int} {d : D} : ∀ (kvs : List (Int × D)), (putKV kvs k d).length ≤ kvs.length + 1
  | [] => Nat.le_refl _
  | (a, b) :: r => by
    rw [putKV]
    split
    · simp
    · have := length_putKV (k := k) (d := d) r; simp; omega
/-- what is found before the stretch (w, f) -/
noncomputable def Found (signs : List Str) (kinds : List Int) (w f : Nat) (kvs : List (Int × D)) : Prop :=
  kvs.length ≤ 5 * w + f ∧ ∀ w' f' : Nat, (w' < w ∨ (w' = w ∧ f' < f)) → f' + w' ≤ 4 → kvs.lookup (8 * (f' : Int) + ((f' + w' : Nat) : Int)) = some (.lst ((cell signs kinds 6 w' f').map Wy.d))

theorem cell_P {signs : List Str} {kinds : List Int} {P : Nat → Str → Prop} (hPs : ∀ i, i < 5 → P 0 (signs.getD i ⟨#[]⟩)) (hPj : ∀ k a b l r, P a l → P b r → P (a + b + 1) (joinS k l r)) :
    ∀ f w first, first + w ≤ 4 → ∀ e ∈ cell signs kinds f w first, P w e.tx
  | 0, _, _, _, e, he => nomatch he
  | f + 1, 0, first, hw, e, he => by
    rw [cell, List.mem_singleton] at he
    subst he
    exact hPs first (by first | decide | omega)
  | f + 1, w + 1, first, hw, e, he => by
    rw [cell] at he
    obtain ⟨g, hg, he⟩ := List.mem_flatMap.mp he
    obtain ⟨l, hl, he⟩ := List.mem_flatMap.mp he
    obtain ⟨r, hr, rfl⟩ := List.mem_map.mp he
    have hgw := List.mem_range.mp hg
    have h1 := cell_P hPs hPj f g first (by first | decide | omega) l hl
    have h2 := cell_P hPs hPj f (w - g) (first + g + 1) (by first | decide | omega) r hr
    have : g + (w - g) + 1 = w + 1 := by omega
    rw [← this]
    exact hPj _ _ _ _ _ h1 h2
theorem cell_fuel {signs : List Str} {kinds : List Int} : ∀ (f f' w first : Nat), w < f → w < f' → cell signs kinds f w first = cell signs kinds f' w first
  | 0, _, _, _, h, _ => absurd h (Nat.not_lt_zero _)
  | _, 0, _, _, _, h => absurd h (Nat.not_lt_zero _)
  | f + 1, f' + 1, 0, first, _, _ => by rw [cell, cell]
  | f + 1, f' + 1, w + 1, first, h, h' => by
    rw [cell, cell]
    have e : ∀ g ∈ List.range (w + 1), ((cell signs kinds f g first).flatMap fun l => (cell signs kinds f (w - g) (first + g + 1)).map fun r => Wy.join kinds first (first + g) l r) = ((cell signs kinds f' g first).flatMap fun l => (cell signs kinds f' (w - g) (first + g + 1)).map fun r => Wy.join kinds first (first + g) l r) := fun g hg => by
      have := List.mem_range.mp hg
      rw [cell_fuel f f' g first (by first | decide | omega) (by first | decide | omega), cell_fuel f f' (w - g) (first + g + 1) (by first | decide | omega) (by first | decide | omega)]
    rw [List.flatMap_def, List.flatMap_def, List.map_congr_left e]
noncomputable def W0 (signs : List Str) (w f : Nat) : List Wy := if w = 0 then [⟨.leaf f, signs.getD f ⟨#[]⟩, []⟩] else []
noncomputable def part (signs : List Str) (kinds : List Int) (w f g : Nat) : List Wy := (cell signs kinds 6 g f).flatMap fun l => (cell signs kinds 6 (w - 1 - g) (f + g + 1)).map fun r => Wy.join kinds f (f + g) l r
theorem cell_parts {signs : List Str} {kinds : List Int} {w f : Nat} (hw : w ≤ 4) : cell signs kinds 6 w f = W0 signs w f ++ (List.range w).flatMap (part signs kinds w f) := by
  cases w with
  | zero => rw [cell]; rfl
  | succ w =>
    rw [cell, W0, if_neg (Nat.succ_ne_zero _), List.nil_append]
    have e : ∀ g ∈ List.range (w + 1), ((cell signs kinds 5 g f).flatMap fun l => (cell signs kinds 5 (w - g) (f + g + 1)).map fun r => Wy.join kinds f (f + g) l r) = part signs kinds (w + 1) f g := fun g hg => by
      have := List.mem_range.mp hg
      rw [part, cell_fuel 5 6 g f (by first | decide | omega) (by first | decide | omega), cell_fuel 5 6 (w - g) (f + g + 1) (by first | decide | omega) (by first | decide | omega)]
      rfl
    rw [List.flatMap_def, List.flatMap_def, List.map_congr_left e]
theorem length_flatMap_le {α β : Type} {B : Nat} {h : α → List β} : ∀ {l : List α}, (∀ x ∈ l, (h x).length ≤ B) → (l.flatMap h).length ≤ l.length * B
  | [], _ => Nat.zero_le _
  | x :: l, hb => by
    have ih := length_flatMap_le (l := l) fun y hy => hb y (.tail _ hy)
    have := hb x (.head _)
    rw [List.flatMap_cons, List.length_append, List.length_cons, Nat.succ_mul]
    omega
theorem getD_mem {α : Type} {l : List α} {i : Nat} {a0 : α} (h : i < l.length) : l.getD i a0 ∈ l := by
  rw [List.getD_eq_getElem?_getD, List.getElem?_eq_getElem h]; exact List.getElem_mem h
noncomputable def dW : Wy := ⟨.leaf 0, ⟨#[]⟩, []⟩
set_option maxHeartbeats 4000000 in
theorem ways_ok {signs : List Str} {kinds : List Int} {P : Nat → Str → Prop} (hPs : ∀ i, i < 5 → P 0 (signs.getD i ⟨#[]⟩)) (hPj : ∀ k a b l r, P a l → P b r → P (a + b + 1) (joinS k l r)) (hsn : signs.length = 5) (hkn : kinds.length = 4) (hk3 : ∀ k ∈ kinds, 0 ≤ k ∧ k ≤ 2)
    (hJ : ∀ (c' : Cx), GX mg mb c' → Room c'.A 6 → ∀ (k : Int) (a b : Nat) (l r : Str), 0 ≤ k → k ≤ 2 → P a l → P b r → a + b ≤ 3 → ∃ f, mg "_law_joined" = some f ∧ IsFn c' f ∧ FnOk c' f [.int k, .str l, .str r] (.str (joinS k l r)))
    (hJ0 : ∃ f, mg "_law_joined" = some f)
    (hsmall : ∀ w first, w ≤ 4 → (cell signs kinds 6 w first).length ≤ 14) (hbr : ∀ w first, w ≤ 4 → ∀ e ∈ cell signs kinds 6 w first, e.br.length ≤ 100)
    (G : GX mg mb c) (hr : Room c.A 8) :
    ∃ f, mg "_law_ways" = some f ∧ IsFn c f ∧ FnOk c f [.lst (signs.map .str), .lst (kinds.map .int)] (.lst ((cell signs kinds 6 4 0).map Wy.d)) := by
  refine FnOk.def_ (k := 7) G hr (by decide +kernel) rfl (fun _ _ _ => vs2 fun _ _ => rfl) (by decide +kernel) fun a code B Ia L G' hr' => ?_
  have hh := hr'.handled
  refine WS.le (σ₁ := { loc := [("kinds", .d (.lst (kinds.map .int))), ("signs", .d (.lst (signs.map .str)))] }) (Sle.refl _) ?_
  refine WS.step (WX.assign_name Ew.dictI (AsW.local_ rfl rfl) SN.mk) ?_
  let S (kvs : List (Int × D)) : Sg := { loc := [("kinds", .d (.lst (kinds.map .int))), ("signs", .d (.lst (signs.map .str))), ("found", .m 0)], mu := [.idict kvs] }
  refine WS.cons (WX.for_ (fun w σ => ∃ kvs, σ = S kvs ∧ Found signs kinds w 0 kvs) (ItW.range1 (b := 5) hh (Ew.callT (Ew.gblt G' (by decide +kernel) blt_range) (EWs.cons EwA EWs.nil) (by rfl) fn_range1) rfl (by first | decide | omega) (by first | decide | omega))
    ⟨S [], Sle.to (by repeat (first | exact trivial | refine ⟨rfl, ?_⟩)), [], rfl, by simp, fun w' f' h => by omega⟩ ?_ ?_)
  · rintro w σ hw ⟨kvs, rfl, hF⟩
    refine ⟨_, AsW.local_ rfl rfl, ?_⟩
    have hw5 : w < 5 := by simpa using hw
    refine WS.cons (WX.for_ (fun f σ => ∃ kvs, σ = { loc := ("width", .d (.int w)) :: (S kvs).loc, mu := (S kvs).mu } ∧ Found signs kinds w f kvs) (ItW.range1 (b := 5 - (w : Int)) hh (Ew.callT (Ew.gblt G' (by decide +kernel) blt_range) (EWs.cons EwA EWs.nil) (by rfl) fn_range1) rfl (by first | decide | omega) (by first | decide | omega))
      ⟨_, Sle.to (by repeat (first | exact trivial | refine ⟨rfl, ?_⟩)), kvs, rfl, hF⟩ ?_ ?_)
    · rintro f σ hf ⟨kvs, rfl, hF⟩
      refine ⟨_, AsW.local_ rfl rfl, ?_⟩
      have hf5 : f + w ≤ 4 := by omega
      refine WS.step (WX.assign_name EwA (AsW.local_ rfl rfl) SN.mk) ?_
      let S2 (W : List Wy) : Sg := { loc := [("kinds", .d (.lst (kinds.map .int))), ("signs", .d (.lst (signs.map .str))), ("found", .m 0), ("width", .d (.int w)), ("first", .d (.int f)), ("last", .d (.int ((f : Int) + w))), ("ways", .m 1)], mu := [.idict kvs, .list ((W.map Wy.d).map .d)] }
      have hsg : (signs.map D.str)[f]? = some (.str (signs.getD f ⟨#[]⟩)) := by
        have : f < signs.length := by omega
        simp [List.getElem?_map, List.getElem?_eq_getElem this, List.getD_eq_getElem?_getD]
      have h3 : (3 : Nat) ≤ sizeLine := by rw [sizeLine_eq]; omega
      have h1s : (1 : Nat) ≤ sizeLine := by rw [sizeLine_eq]; omega
      have start : ∀ {rest : List Stmt} {R : FD → Sg → Prop} {e : Expr} {p pp : Pos}, True := fun {_ _ _ _ _} => trivial
      refine WS.step (σ₁ := S2 (W0 signs w f)) ?_ ?_
      · cases w with
        | zero =>
          refine WX.assign_name (Ew.ifexp (b := false) (TrW.of_intB (i := ((0 : Nat) : Int)) (by decide) EwA) (fun e => nomatch e) (fun _ => Ew.lstM (EWs.cons (Ew.tup (ds := [.int f, .str (signs.getD f ⟨#[]⟩), .lst []]) (EWs.cons EwA (EWs.cons (Ew.sub EwA EwA (Op2.sub_lst (by first | decide | omega) (by first | decide | omega) hsg)) (EWs.cons (Ew.lst (ds := []) EWs.nil rfl (by decide)) EWs.nil))) (by rfl) h3) EWs.nil) h1s)) (AsW.local_ rfl rfl) ?_
          exact ⟨rfl, Sle.to (by repeat (first | exact trivial | refine ⟨rfl, ?_⟩))⟩
        | succ w =>
          refine WX.assign_name (Ew.ifexp (b := true) (TrW.of_intB (i := ((w + 1 : Nat) : Int)) (by rw [bne_iff_ne]; omega) EwA) (fun _ => Ew.lstM EWs.nil (by decide)) (fun e => nomatch e)) (AsW.local_ rfl rfl) ?_
          exact ⟨rfl, Sle.to (by repeat (first | exact trivial | refine ⟨rfl, ?_⟩))⟩
      refine WS.cons (WX.for_ (fun g σ => σ = S2 (W0 signs w f ++ (List.range g).flatMap (part signs kinds w f))) (ItW.congr (ItW.rng (x := f) (b := (f : Int) + w) hh (Ew.callT (Ew.gblt G' (by decide +kernel) blt_range) (EWs.cons EwA (EWs.cons EwA EWs.nil)) (by rfl) fn_range2) (by first | decide | omega) (by first | decide | omega) (by first | decide | omega) (by first | decide | omega)) (fun _ _ => rfl)) ⟨_, Sle.refl _, by simp⟩ ?_ ?_)
      · rintro g σ hg rfl
        have hgw : g < w := by omega
        refine ⟨_, AsW.local_ rfl rfl, ?_⟩
        have hgk : f + g < kinds.length := by omega
        have e0 : ((f : Int) + g).toNat = f + g := by omega
        have hkg : (kinds.map D.int)[((f : Int) + g).toNat]? = some (.int (kinds.getD (f + g) 0)) := by
          rw [e0]; simp [List.getElem?_map, List.getElem?_eq_getElem hgk, List.getD_eq_getElem?_getD]
        have hk3' := hk3 _ (getD_mem (a0 := 0) hgk)
        generalize hkk : kinds.getD (f + g) 0 = k at *
        let bl : List Int := if k = 0 then [(f : Int)] else []
        have hbl : bl.length ≤ 1 := by simp only [bl]; split <;> simp
        let cL := cell signs kinds 6 g f
        let cR := cell signs kinds 6 (w - 1 - g) (f + g + 1)
        let J (l r : Wy) : Wy := Wy.join kinds f (f + g) l r
        let pre := W0 signs w f ++ (List.range g).flatMap (part signs kinds w f)
        have hcL : cL.length ≤ 14 := hsmall g f (by first | decide | omega)
        have hcR : cR.length ≤ 14 := hsmall (w - 1 - g) (f + g + 1) (by first | decide | omega)
        have hpre : pre.length ≤ 1000 := by
          have h1 : (W0 signs w f).length ≤ 1 := by unfold W0; split <;> simp
          have h2 : ((List.range g).flatMap (part signs kinds w f)).length ≤ (List.range g).length * 196 := length_flatMap_le fun g' hg' => by
            have hg'' := List.mem_range.mp hg'
            have : (part signs kinds w f g').length ≤ (cell signs kinds 6 g' f).length * 14 := length_flatMap_le fun l hl => by
              rw [List.length_map]; exact hsmall _ _ (by first | decide | omega)
            have h3 := hsmall g' f (by first | decide | omega)
            omega
          rw [List.length_range] at h2
          show (W0 signs w f ++ _).length ≤ _
          rw [List.length_append]
          omega
        let S3 (W : List Wy) : Sg := { loc := [("kinds", .d (.lst (kinds.map .int))), ("signs", .d (.lst (signs.map .str))), ("found", .m 0), ("width", .d (.int w)), ("first", .d (.int f)), ("last", .d (.int ((f : Int) + w))), ("ways", .m 1), ("gap", .d (.int ((f : Int) + g))), ("braced", .d (.lst (bl.map .int)))], mu := [.idict kvs, .list ((W.map Wy.d).map .d)] }
        refine WS.step (σ₁ := S3 pre) ?_ ?_
        · by_cases hk0 : k = 0
          · refine WX.assign_name (Ew.ifexp (b := true) (TrW.cmp (Ew.sub EwA EwA (Op2.sub_lst (by first | decide | omega) (by first | decide | omega) hkg)) EwA (beq_iff_eq.mpr hk0 ▸ Op2.eq_int)) (fun _ => Ew.lst (ds := [.int f]) (EWs.cons EwA EWs.nil) rfl h1s) (fun e => nomatch e)) (AsW.local_ rfl rfl) ?_
            refine ⟨rfl, Sle.to (σ' := S3 pre) ?_⟩
            have : bl = [(f : Int)] := if_pos hk0
            simp only [S3, this]
            repeat (first | exact trivial | refine ⟨rfl, ?_⟩)
          · refine WX.assign_name (Ew.ifexp (b := false) (TrW.cmp (Ew.sub EwA EwA (Op2.sub_lst (by first | decide | omega) (by first | decide | omega) hkg)) EwA (beq_eq_false_iff_ne.mpr hk0 ▸ Op2.eq_int)) (fun e => nomatch e) (fun _ => Ew.lst (ds := []) EWs.nil rfl (by decide))) (AsW.local_ rfl rfl) ?_
            refine ⟨rfl, Sle.to (σ' := S3 pre) ?_⟩
            have : bl = [] := if_neg hk0
            simp only [S3, this]
            repeat (first | exact trivial | refine ⟨rfl, ?_⟩)
        have look1 : kvs.lookup ((8 : Int) * f + ((f : Int) + g)) = some (.lst (cL.map Wy.d)) := hF.2 g f (by first | decide | omega) (by first | decide | omega)
        have look2 : kvs.lookup ((8 : Int) * ((f : Int) + g) + 8 + ((f : Int) + w)) = some (.lst (cR.map Wy.d)) := by
          have := hF.2 (w - 1 - g) (f + g + 1) (by first | decide | omega) (by first | decide | omega)
          rw [← this]; congr 1; omega
        let LL (i : Nat) : List Wy := (cL.take i).flatMap fun l => cR.map (J l)
        have hLL : ∀ i, (LL i).length ≤ 196 := fun i => by
          have : ((cL.take i).flatMap fun l => cR.map (J l)).length ≤ (cL.take i).length * 14 := length_flatMap_le fun l _ => by rw [List.length_map]; exact hcR
          rw [List.length_take] at this
          show ((cL.take i).flatMap fun l => cR.map (J l)).length ≤ 196
          omega
        refine WS.cons (WX.for_ (fun i σ => σ = S3 (pre ++ LL i)) (ItW.lstMap Wy.d cL dW hh (Ew.sub EwA (Ew.binop (Ew.binop EwA EwA (Op2.mul_int (IntMulOk.of_left (by decide +kernel)))) EwA OpA) (Op2.sub_idict rfl look1))) ⟨_, Sle.refl _, by simp [LL]⟩ ?_ ?_)
        · rintro i σ hi rfl
          refine ⟨_, AsW.local_ rfl rfl, ?_⟩
          have hlm := getD_mem (a0 := dW) hi
          have hLs : LL (i + 1) = LL i ++ cR.map (J (cL.getD i dW)) := by
            have e : cL.getD i dW = cL[i] := by rw [List.getD_eq_getElem?_getD, List.getElem?_eq_getElem hi]; rfl
            show (cL.take (i + 1)).flatMap _ = _
            rw [List.take_succ_eq_append_getElem hi, List.flatMap_append, e]; simp [LL]
          generalize cL.getD i dW = l at *
          have hlP := cell_P hPs hPj 6 g f (by first | decide | omega) l hlm
          have hlb := hbr g f (by first | decide | omega) l hlm
          let S4 (W : List Wy) : Sg := { loc := ("left", .d l.d) :: (S3 W).loc, mu := (S3 W).mu }
          refine WS.cons (WX.for_ (fun j σ => σ = S4 (pre ++ LL i ++ (cR.take j).map (J l))) (ItW.lstMap Wy.d cR dW hh (Ew.sub EwA (Ew.binop (Ew.binop (Ew.binop EwA EwA (Op2.mul_int (IntMulOk.of_left (by decide +kernel)))) EwA OpA) EwA OpA) (Op2.sub_idict rfl look2))) ⟨S4 (pre ++ LL i), Sle.refl _, by simp⟩ ?_ ?_)
          · rintro j σ hj rfl
            refine ⟨_, AsW.local_ rfl rfl, ?_⟩
            have hrm := getD_mem (a0 := dW) hj
            have hRs : (cR.take (j + 1)).map (J l) = (cR.take j).map (J l) ++ [J l (cR.getD j dW)] := by
              have e : cR.getD j dW = cR[j] := by rw [List.getD_eq_getElem?_getD, List.getElem?_eq_getElem hj]; rfl
              rw [List.take_succ_eq_append_getElem hj, List.map_append, e]; rfl
            generalize cR.getD j dW = r at *
            have hrP := cell_P hPs hPj 6 (w - 1 - g) (f + g + 1) (by first | decide | omega) r hrm
            have hrb := hbr (w - 1 - g) (f + g + 1) (by first | decide | omega) r hrm
            obtain ⟨fj, hfj, hij, hokj⟩ := hJ _ G' (hr'.le (by first | decide | omega)) k g (w - 1 - g) l.tx r.tx hk3'.1 hk3'.2 hlP hrP (by first | decide | omega)
            refine WS.step (WX.assign_name (Ew.call (Ew.gval G' hfj) hij (EWs.cons (Ew.sub EwA EwA (Op2.sub_lst (by first | decide | omega) (by first | decide | omega) hkg)) (EWs.cons (Ew.sub EwA EwA (Op2.sub_tup (ds := [l.sh.d, .str l.tx, .lst (l.br.map .int)]) (d := .str l.tx) (by first | decide | omega) (by first | decide | omega) rfl)) (EWs.cons (Ew.sub EwA EwA (Op2.sub_tup (ds := [r.sh.d, .str r.tx, .lst (r.br.map .int)]) (d := .str r.tx) (by first | decide | omega) (by first | decide | omega) rfl)) EWs.nil))) (by rfl) hokj) (AsW.local_ rfl rfl) SN.mk) ?_
            have hWc : (((pre ++ LL i ++ (cR.take j).map (J l)).map Wy.d).map Vl.d).length ≤ 1000000 := by
              have := hLL i
              rw [List.length_map, List.length_map, List.length_append, List.length_append, List.length_map, List.length_take]; omega
            have hJd : (J l r).d = .tup [.tup [.int ((f : Int) + g), l.sh.d, r.sh.d], .str (joinS k l.tx r.tx), .lst ((bl.map .int ++ l.br.map .int) ++ r.br.map .int)] := by
              show (Wy.join kinds f (f + g) l r).d = _
              unfold Wy.join Wy.d
              rw [hkk]
              simp [Sh.d, bl]
            refine WS.cons (WX.expr (Ew.append EwA (Ew.tup (ds := [.tup [.int ((f : Int) + g), l.sh.d, r.sh.d], .str (joinS k l.tx r.tx), .lst ((bl.map .int ++ l.br.map .int) ++ r.br.map .int)])
              (EWs.cons (Ew.tup (ds := [.int ((f : Int) + g), l.sh.d, r.sh.d]) (EWs.cons EwA (EWs.cons (Ew.sub EwA EwA (Op2.sub_tup (ds := [l.sh.d, .str l.tx, .lst (l.br.map .int)]) (d := l.sh.d) (by first | decide | omega) (by first | decide | omega) rfl)) (EWs.cons (Ew.sub EwA EwA (Op2.sub_tup (ds := [r.sh.d, .str r.tx, .lst (r.br.map .int)]) (d := r.sh.d) (by first | decide | omega) (by first | decide | omega) rfl)) EWs.nil))) (by rfl) h3)
                (EWs.cons EwA (EWs.cons (Ew.binop (Ew.binop EwA (Ew.sub EwA EwA (Op2.sub_tup (ds := [l.sh.d, .str l.tx, .lst (l.br.map .int)]) (d := .lst (l.br.map .int)) (by first | decide | omega) (by first | decide | omega) rfl)) (Op2.add_lst (by rw [sizeLine_eq]; simp; omega)))
                  (Ew.sub EwA EwA (Op2.sub_tup (ds := [r.sh.d, .str r.tx, .lst (r.br.map .int)]) (d := .lst (r.br.map .int)) (by first | decide | omega) (by first | decide | omega) rfl)) (Op2.add_lst (by rw [sizeLine_eq]; simp; omega))) EWs.nil))) (by rfl) h3) ⟨_, rfl⟩ rfl hWc) ?_)
            refine WS.nil (LoopR.next ⟨S4 (pre ++ LL i ++ (cR.take (j + 1)).map (J l)), ?_, rfl⟩)
            rw [hRs, ← List.append_assoc]
            refine Sle.to (by repeat (first | exact trivial | refine ⟨rfl, ?_⟩)) ?_
            show [MO.idict kvs, MO.list (((pre ++ LL i ++ (cR.take j).map (J l)).map Wy.d).map .d ++ [.d (.tup [.tup [.int ((f : Int) + g), l.sh.d, r.sh.d], .str (joinS k l.tx r.tx), .lst ((bl.map .int ++ l.br.map .int) ++ r.br.map .int)])])] = [MO.idict kvs, MO.list (((pre ++ LL i ++ (cR.take j).map (J l) ++ [J l r]).map Wy.d).map .d)]
            simp only [List.map_append, List.map_cons, List.map_nil, hJd]
          · rintro σ rfl
            refine WS.nil (WS.nil (LoopR.next ⟨S3 (pre ++ LL (i + 1)), ?_, rfl⟩))
            show Sle _ (S4 (pre ++ LL i ++ (cR.take cR.length).map (J l))) _
            rw [List.take_length, hLs, ← List.append_assoc]
            exact Sle.to (by repeat (first | exact trivial | refine ⟨rfl, ?_⟩))
        · rintro σ rfl
          refine WS.nil (WS.nil (LoopR.next ⟨_, ?_, rfl⟩))
          have e : W0 signs w f ++ (List.range (g + 1)).flatMap (part signs kinds w f) = pre ++ LL cL.length := by
            rw [List.range_succ, List.flatMap_append, ← List.append_assoc]; simp [LL, pre, part, cL, cR, J]
          rw [e]
          exact Sle.to (by repeat (first | exact trivial | refine ⟨rfl, ?_⟩))
      · rintro σ rfl
        have e : ((f : Int) + w - f).toNat = w := by omega
        rw [e, ← cell_parts (by first | decide | omega)]
        refine WS.nil (WS.cons (WX.setI (Ew.frz EwA rfl (Frz.list rfl)) EwA (Ew.binop (Ew.binop EwA EwA (Op2.mul_int (IntMulOk.of_left (by decide +kernel)))) EwA OpA) rfl (by have := hF.1; omega) ?_))
        have hkey : (8 : Int) * f + ((f : Int) + w) = 8 * (f : Int) + ((f + w : Nat) : Int) := by omega
        refine WS.nil (LoopR.next ⟨{ loc := ("width", .d (.int w)) :: (S (putKV kvs (8 * (f : Int) + ((f + w : Nat) : Int)) (.lst ((cell signs kinds 6 w f).map Wy.d)))).loc, mu := [.idict (putKV kvs (8 * (f : Int) + ((f + w : Nat) : Int)) (.lst ((cell signs kinds 6 w f).map Wy.d)))] }, ?_, _, rfl, ?_, ?_⟩)
        · rw [← hkey]
          exact Sle.trim (k := 1) (by repeat (first | exact trivial | refine ⟨rfl, ?_⟩)) rfl rfl rfl
        · have := length_putKV (k := 8 * (f : Int) + ((f + w : Nat) : Int)) (d := .lst ((cell signs kinds 6 w f).map Wy.d)) kvs
          have := hF.1
          omega
        · intro w' f' h hle
          rw [lookup_putKV]
          by_cases hk : 8 * (f' : Int) + ((f' + w' : Nat) : Int) = 8 * (f : Int) + ((f + w : Nat) : Int)
          · rw [if_pos hk]
            have e1 : f' = f := by omega
            have e2 : w' = w := by omega
            rw [e1, e2]
          · rw [if_neg hk]
            refine hF.2 w' f' ?_ hle
            rcases h with h | ⟨rfl, h⟩
            · exact .inl h
            · refine .inr ⟨rfl, ?_⟩
              rcases Nat.lt_or_ge f' f with h' | h'
              · exact h'
              · exact absurd (by have : f' = f := by omega
                                 rw [this]) hk
    · rintro σ ⟨kvs, rfl, hF⟩
      refine WS.nil (WS.nil (LoopR.next ⟨S kvs, Sle.to (by repeat (first | exact trivial | refine ⟨rfl, ?_⟩)), kvs, rfl, ?_⟩))
      obtain ⟨h1, h2⟩ := hF
      have e : (5 - (w : Int)).toNat = 5 - w := by omega
      rw [e] at h1 h2
      exact ⟨by omega, fun w' f' h hle => h2 w' f' (by first | decide | omega) hle⟩
  · rintro σ ⟨kvs, rfl, hF⟩
    refine WS.nil (WS.cons (WX.ret (Ew.sub EwA EwA (Op2.sub_idict rfl (hF.2 4 0 (by left; decide) (by first | decide | omega)))) rfl))
end Mine
end TF7

section TF9
open PySem PySem.W PySem.Calls PyProof.Rows
set_option autoImplicit false
set_option linter.unusedVariables false
set_option Elab.async false
set_option maxRecDepth 100000
namespace Mine
variable {mg mb : Str → Option Value} {c : Cx}

noncomputable def braceS (l r : Str) : Str := ("{" : Str) ++ l ++ ("}" : Str) ++ r
theorem lenB {n : Nat} (h : n ≠ 0) : ((n : Int) != 0) = true := by rw [bne_iff_ne]; omega

theorem Ev.fvs {σ σ₁ : Sg} {e : Expr} {p : Pos} {x : Str} (hx : x.length ≤ 1000) (h : Ev c σ e (.d (.str x)) σ₁) : Ev c σ (.FormattedValue e 115 none p) (.d (.str x)) σ₁ := Cm.mk fun fr tm s Q E ht S hQ => by
  refine wpAny_FormattedValue_s (h fr tm s _ E ht S fun v h' tk ht S' => ?_)
  obtain ⟨t, rfl⟩ := S'.str (.head _)
  show wpAny c.M c.A (habitSame "fstring-hands-on-the-str" (.str x t)) _ E _
  refine habitSame_str (fun t' tk' => formatField_str (fun t'' tk'' => ?_) (by rw [sizeLine_eq]; omega)) (by rw [sizeLine_eq]; omega)
  exact hQ _ _ _ (S'.pop.imm fun _ => .str _ _)
theorem Ev.brace {σ σ₁ σ₂ : Sg} {e1 e2 : Expr} {p p1 p2 p3 p4 : Pos} {k1 k2 : Nat} {l r : Str} (h1 : l.length ≤ 1000) (h2 : r.length ≤ 1000) (a : Ev c σ e1 (.d (.str l)) σ₁) (b : Ev c σ₁ e2 (.d (.str r)) σ₂) :
    Ev c σ (.JoinedStr [.Constant (.str "{") k1 p1, .FormattedValue e1 115 none p2, .Constant (.str "}") k2 p3, .FormattedValue e2 115 none p4] p) (.d (.str (braceS l r))) σ₂ := Cm.mk fun fr tm s Q E ht S hQ => by
  have l1 : (Str.ofString "{").length = 1 := rfl
  have l2 : (Str.ofString "}").length = 1 := rfl
  have l0 : Str.empty.length = 0 := rfl
  refine JoinedStr_many (joinParts_cons (Ev.const_str fr tm s _ E ht S fun v h' tk ht S => ?_))
  obtain ⟨t, rfl⟩ := S.str (.head _)
  refine ⟨by rw [strLen_append, l1, l0, sizeLine_eq]; omega, joinParts_cons (Ev.fvs h1 a fr tm _ _ E ht S.pop fun v h' tk ht S => ?_)⟩
  obtain ⟨t, rfl⟩ := S.str (.head _)
  refine ⟨by rw [strLen_append, strLen_append, l1, l0, sizeLine_eq]; omega, joinParts_cons (Ev.const_str fr tm _ _ E ht S.pop fun v h' tk ht S => ?_)⟩
  obtain ⟨t, rfl⟩ := S.str (.head _)
  refine ⟨by rw [strLen_append, strLen_append, strLen_append, l1, l2, l0, sizeLine_eq]; omega, joinParts_cons (Ev.fvs h2 b fr tm _ _ E ht S.pop fun v h' tk ht S => ?_)⟩
  obtain ⟨t, rfl⟩ := S.str (.head _)
  have hz : (Str.empty ++ Str.ofString "{" ++ l ++ Str.ofString "}" ++ r).length ≤ sizeLine := by rw [strLen_append, strLen_append, strLen_append, strLen_append, l1, l2, l0, sizeLine_eq]; omega
  refine ⟨hz, joinParts_nil ?_ hz⟩
  have hb : Str.empty ++ Str.ofString "{" ++ l ++ Str.ofString "}" ++ r = braceS l r := by rw [PySem.Str.empty_append]; rfl
  exact hQ _ _ _ (S.pop.imm fun _ => hb ▸ .str _ _)

structure QnOk (ps : Arguments) (bd : List Stmt) (sc : Scope) : Prop where
  bind : ∀ (T : Addr) (kV doc pm cdv ct : Value) (an : Option Addr) (v0 v1 v2 : Value), ∃ k, bindArgs (fnOf "__init__" "QName.__init__" ps bd sc (.ref T) kV doc pm an cdv ct) ⟨[v0, v1, v2], []⟩ = seqItems? (.ref T) >>= k ∧ k (some #[.none]) = pure [(("self" : Str), v0), ("text_or_uri", v1), ("tag", v2)]
  kind : sc.kind = .function
  gen : sc.isGenerator = false
  co : sc.isCoroutine = false
  cell : ∀ x ∈ sc.names, x.2 ≠ .cell
  l1 : sc.names.lookup ("self" : Str) = some .local
  l2 : sc.names.lookup ("text_or_uri" : Str) = some .local
  l3 : sc.names.lookup ("tag" : Str) = some .local
  body : ∃ st1 p1 p2 p3 p4, bd = [st1, .Assign [.Attribute (.Name "self" p1) "text" p2] (.Name "text_or_uri" p3) p4] ∧
    ∀ (c2 : Cx) (L a : Addr) (cdv v0 : Value) (l r : Str), c2.env = envOf "QName.__init__" sc L a cdv → c2.wr = true → l.length ≤ 1000 → r.length ≤ 1000 → r.length ≠ 0 →
      Wx c2 { loc := [("tag", .d (.str r)), ("text_or_uri", .d (.str l)), ("self", .d (.raw v0))] } st1 fun fd σ' => fd = .next ∧ Sle c2 σ' { loc := [("text_or_uri", .d (.str (braceS l r))), ("tag", .d (.str r)), ("text_or_uri", .d (.str l)), ("self", .d (.raw v0))] }

set_option maxHeartbeats 4000000 in
theorem qn_ok : ∃ ps bd sc, qnInit = some (ps, bd, sc) ∧ QnOk ps bd sc := by
  refine ⟨_, _, _, rfl, ?_, rfl, rfl, rfl, by decide +kernel, rfl, rfl, rfl, ?_⟩
  · intro T kV doc pm cdv ct an v0 v1 v2
    exact ⟨_, rfl, rfl⟩
  · refine ⟨_, _, _, _, _, rfl, ?_⟩
    rintro ⟨prog, w, A, env, B, Ia, wr⟩ L a cdv v0 l r henv hwr h1 h2 h3
    dsimp only at henv hwr
    subst henv hwr
    refine Wx.ite (b := true) (σ₁ := { loc := [("tag", .d (.str r)), ("text_or_uri", .d (.str l)), ("self", .d (.raw v0))] }) ((lenB h3) ▸ Tr.of_str (by first | decide | omega) (Ew.run EwA)) ?_
    show Ws _ _ [_] _
    refine Ws.cons (Wx.assign_name (σ₁ := { loc := [("tag", .d (.str r)), ("text_or_uri", .d (.str l)), ("self", .d (.raw v0))] }) (y := .d (.str (braceS l r))) ?_ (As.local_ rfl rfl) (Ws.nil ⟨rfl, Sle.refl _⟩))
    exact Ev.brace h1 h2 (Ew.run EwA) (Ew.run EwA)

theorem Room.under {A : Around} {k : Nat} (h : Room A (k + 1)) (C : Addr) (vs : List Value) : Room (A.under (.builtin "type.__call__" ⟨.ref C :: vs, []⟩)) k := ⟨h.handled, by have := h.depth; rw [depth_under_make]; omega, by have := h.units; rw [units_under_make]; omega⟩

noncomputable def cxQ (c : Cx) (sc : Scope) (C fI : Addr) (cdv v1 v2 : Value) (h : Heap) (I : Mp) : Cx :=
  { c with env := envOf "QName.__init__" sc (h.objs.size + 2) fI cdv, A := (c.A.under (.builtin "type.__call__" ⟨.ref C :: ([] ++ [v1, v2]), []⟩)).deeper (envOf "QName.__init__" sc (h.objs.size + 2) fI cdv), B := h.get?, Ia := I, wr := true }
noncomputable def sgQ1 (l r : Str) (x : Addr) : Sg := { loc := [("tag", .d (.str r)), ("text_or_uri", .d (.str l)), ("self", .d (.raw (.ref x)))] }
noncomputable def sgQ2 (l r : Str) (x : Addr) : Sg := { loc := [("text_or_uri", .d (.str (braceS l r))), ("tag", .d (.str r)), ("text_or_uri", .d (.str l)), ("self", .d (.raw (.ref x)))] }
/-- the frame of the call that makes a QName -/
theorem qname_frame {c : Cx} {sc : Scope} {C fI : Addr} {cdv v1 v2 : Value} {h h₁ : Heap} {I : Mp} {l r : Str} (hI : Sub I h.get?) (r1 : Rep I v1 (.str l)) (r2 : Rep I v2 (.str r)) (k : ∀ b o, h.get? b = some o → h₁.get? b = some o)
    (hns : h₁.Ns (h.objs.size + 2) (fun x => [(("self" : Str), Value.ref (h.objs.size + 1)), ("text_or_uri", v1), ("tag", v2)].reverse.lookup x)) (gx : h₁.get? (h.objs.size + 1) = some (instObj C h.objs.size)) (gd : h₁.get? h.objs.size = some emptyDict) :
    StI (cxQ c sc C fI cdv v1 v2 h I) (sgQ1 l r (h.objs.size + 1)) [(h.objs.size + 1, instObj C h.objs.size), (h.objs.size, emptyDict)] [] h₁ I [] (fun x => [(("self" : Str), Value.ref (h.objs.size + 1)), ("text_or_uri", v1), ("tag", v2)].reverse.lookup x) := by
  have above : ∀ b, h.objs.size ≤ b → h.get? b = none := fun b hb => by
    cases e : h.get? b with
    | none => rfl
    | some o => exact absurd (Heap.lt_size e) (Nat.not_lt.mpr hb)
  have iabove : ∀ b, h.objs.size ≤ b → I b = none := fun b hb => by
    cases e : I b with
    | none => rfl
    | some o => have := hI _ _ e; rw [above b hb] at this; cases this
  refine ⟨k, fun b o e => k b o (hI b o e), fun b o e => .inl e, Sub.refl I, hns, fun x v e => ?_, fun _ => ⟨above _ (Nat.le_add_right _ _), iabove _ (Nat.le_add_right _ _)⟩, rfl, fun i b mo e1 e2 => ?_, .nil, fun x k e => ?_, fun x d e => ?_, fun p hp => ?_, ?_, fun p hp => ?_⟩
  · exact lookup_rev_zip (ns := [("self" : Str), "text_or_uri", "tag"]) (vs := [.ref (h.objs.size + 1), v1, v2]) (xs := [.d (.raw (.ref (h.objs.size + 1))), .d (.str l), .d (.str r)]) (.cons (.d (.raw _)) (.cons (.d r1) (.cons (.d r2) .nil))) e
  · cases e1
  · cases e
  · cases e
  · rcases List.mem_cons.mp hp with rfl | hp
    · exact ⟨gx, iabove _ (Nat.le_succ _), above _ (Nat.le_succ _), Nat.ne_of_lt (Nat.lt_succ_self _), (fun q => nomatch q)⟩
    · rw [List.mem_singleton.mp hp]
      exact ⟨gd, iabove _ (Nat.le_refl _), above _ (Nat.le_refl _), Nat.ne_of_lt (Nat.lt_trans (Nat.lt_succ_self _) (Nat.lt_succ_self _)), (fun q => nomatch q)⟩
  · exact List.nodup_cons.mpr ⟨fun q => Nat.succ_ne_self _ (List.mem_singleton.mp q), List.nodup_cons.mpr ⟨(fun q => nomatch q), .nil⟩⟩
  · cases hp


/-- the body of __init__: behind it the object's dict holds the text -/
theorem qname_body {c : Cx} {K : Frag} {C fI T : Addr} {cdv v1 v2 : Value} {ps : Arguments} {bd : List Stmt} {sc : Scope} {h : Heap} {s : Shared} {I : Mp} {l r : Str} {m : Str → Option Value} {Q : Flow → Shared → Prop} {E : Value → Shared → Prop} (X : K.In h) (F : QNf K C fI T cdv) (O : QnOk ps bd sc)
    (h1 : l.length ≤ 1000) (h2 : r.length ≤ 1000) (h3 : r.length ≠ 0) (ht : 1 ≤ s.toks)
    (S0 : StI (cxQ c sc C fI cdv v1 v2 h I) (sgQ1 l r (h.objs.size + 1)) [(h.objs.size + 1, instObj C h.objs.size), (h.objs.size, emptyDict)] [] s.heap I [] m)
    (hQ : ∀ L m' h' tk es n u, Fr h L h' m' → InstAt h' (h.objs.size + 1) (instObj C h.objs.size) C (some (dictOf es n)) → getL "text" es = some (some (.str (braceS l r) u)) → Q .next { s with heap := h', toks := tk }) :
    wpAny (model c.prog c.w) (cxQ c sc C fI cdv v1 v2 h I).A (execs bd (cxQ c sc C fI cdv v1 v2 h I).env) Q E s := by
  obtain ⟨st1, p1, p2, p3, p4, rfl, hst⟩ := O.body
  refine wpAny_execs_cons (hst (cxQ c sc C fI cdv v1 v2 h I) (h.objs.size + 2) fI cdv (.ref (h.objs.size + 1)) l r rfl rfl h1 h2 h3 _ [] _ _ _ ht ⟨I, [], _, S0⟩ fun f fd σ' h₂ tk₂ ht hR hf => ?_)
  obtain ⟨rfl, hle⟩ := hR
  rcases hf.inv with ⟨rfl, _, S₂⟩ | ⟨_, e, _⟩ | ⟨_, e, _⟩ | ⟨_, _, _, e, _⟩
  · have S₂ := hle _ _ _ S₂
    have e1 : Ev (cxQ c sc C fI cdv v1 v2 h I) (sgQ2 l r (h.objs.size + 1)) (.Name "text_or_uri" p3) (.d (.str (braceS l r))) (sgQ2 l r (h.objs.size + 1)) := Ev.local_ rfl O.l2 O.kind rfl
    have e2 : Ev (cxQ c sc C fI cdv v1 v2 h I) (sgQ2 l r (h.objs.size + 1)) (.Name "self" p1) (.d (.raw (.ref (h.objs.size + 1)))) (sgQ2 l r (h.objs.size + 1)) := Ev.local_ rfl O.l1 O.kind rfl
    refine wpAny_execs_cons (plainObj_wpAny_Assign_Attribute (e1 _ _ _ _ _ ht S₂ fun v h₃ tk₃ ht S₃ => e2 _ _ _ _ _ ht S₃ fun v' h₄ tk₄ ht S₄ => ?_))
    rw [S₄.raw (.head _)]
    obtain ⟨t, rfl⟩ := S₄.str (.tail _ (.head _))
    obtain ⟨I4, ρ4, m4, S₄⟩ := S₄
    have F4 : Fr h (h.objs.size + 2) h₄ m4 := ⟨S₄.ns, S₄.base, Nat.le_add_right _ _⟩
    have N4 : News h (h.objs.size + 2) h₄ [(h.objs.size + 1, instObj C h.objs.size), (h.objs.size, dictOf [] 0)] := fun p hp => let ⟨a1, _, a3, a4, _⟩ := S₄.frk p hp; ⟨a1, a4, a3⟩
    exact set_dict (es := []) (n := 0) F4 X N4 (InstAt.of_news N4 (.head _) (.tail _ (.head _))) rfl F.seta F.over F.taker F.hasd rfl rfl (.tail (Nat.succ_ne_self _) (.head fun _ hp => nomatch hp)) (Nat.le_of_ble_eq_true rfl) fun h₅ F5 N5 =>
      wpAny_execs_nil (hQ _ _ h₅ _ _ _ _ F5 (InstAt.of_news N5 (.head _) (.tail _ (.head _))) rfl)
  · cases e
  · cases e
  · cases e
theorem qname_make {c : Cx} {K : Frag} {C fI T : Addr} {cdv v1 v2 : Value} {h : Heap} {g : Array GenState} {d : Drawn} {t : Nat} {os : OsState} {I : Mp} {l r : Str} {k : Nat} {R : Result → Shared → Prop} (X : K.In h) (F : QNf K C fI T cdv) (hlim0 : h.NoLimit) (hr : Room c.A (k + 2))
    (hI : Sub I h.get?) (r1 : Rep I v1 (.str l)) (r2 : Rep I v2 (.str r)) (h1 : l.length ≤ 1000) (h2 : r.length ≤ 1000) (h3 : r.length ≠ 0)
    (hR : ∀ L m' h' tk es n u, Fr h L h' m' → InstAt h' (h.objs.size + 1) (instObj C h.objs.size) C (some (dictOf es n)) → getL "text" es = some (some (.str (braceS l r) u)) → R (.ok (.ret (.ref (h.objs.size + 1)))) ⟨h', g, d, tk, os⟩) :
    codeAny (model c.prog c.w) c.A (.call (.ref C) ⟨[] ++ [v1, v2], []⟩) R ⟨h, g, d, t, os⟩ := by
  obtain ⟨ps, bd, sc, hd, O⟩ := qn_ok
  have hqd : qnDef = (ps, bd, sc) := by unfold qnDef; rw [hd]; rfl
  have hF := F.fn
  rw [hqd] at hF
  obtain ⟨oc, od, osl, kV, doc, pm, an, ct, hfn⟩ := hF
  obtain ⟨oT, nT, hT1, hT2⟩ := F.dfl
  refine make_core (makes_of X F.makes) (looks_findIn X F.init) (fun self => bind_fn X self F.fty) (.inl rfl) ?_
  have k1 : ∀ b o, h.get? b = some o → ((h.push emptyDict).push (instObj C h.objs.size)).get? b = some o := fun b o e => Heap.get?_push_of_some _ (Heap.get?_push_of_some _ e)
  have gx : ((h.push emptyDict).push (instObj C h.objs.size)).get? (h.objs.size + 1) = some (instObj C h.objs.size) := by heap_get
  have gd : ((h.push emptyDict).push (instObj C h.objs.size)).get? h.objs.size = some emptyDict := by heap_get
  have hL : ((h.push emptyDict).push (instObj C h.objs.size)).objs.size = h.objs.size + 2 := by rw [Heap.size_push, Heap.size_push]
  obtain ⟨kb, hb1, hb2⟩ := O.bind T kV doc pm cdv ct an (.ref (h.objs.size + 1)) v1 v2
  have R1 := hr.under C ([] ++ [v1, v2])
  refine codeAny_call_def (fd := fnOf "__init__" "QName.__init__" ps bd sc (.ref T) kV doc pm an cdv ct) (body := bd) (by have := R1.depth; omega) (k1 _ _ (X _ _ hfn)) rfl (hlim0.keeps k1) ((codeRec_of X F.code).keeps k1) rfl
    (BindsTo.of_defaults rfl (k1 _ _ (X _ _ hT1)) hT2 hb1 hb2) O.cell (fun x hx => ?_) (fun h₁ hns hk₁ => ?_) O.co O.gen O.kind
  · simp only [List.mem_cons, List.not_mem_nil, or_false] at hx
    rcases hx with rfl | rfl | rfl
    · exact O.l1
    · exact O.l2
    · exact O.l3
  rw [hL]
  exact qname_body (c := c) X F O h1 h2 h3 (Nat.le_add_left _ _) (qname_frame hI r1 r2 (fun b o e => hk₁ b o (k1 b o e)) (hL ▸ hns) (hk₁ _ _ gx) (hk₁ _ _ gd)) fun L m' h' tk es n u F5 I5 e5 => ⟨rfl, hR L m' h' tk es n u F5 I5 e5⟩

set_option maxHeartbeats 8000000 in
theorem Ev.qname (G : GX mg mb c) {k : Nat} (hr : Room c.A (k + 2)) {σ σ₂ : Sg} {e1 e2 : Expr} {p pos pos' : Pos} {l r : Str} (ha : Evs c σ [e1, e2] [.d (.str l), .d (.str r)] σ₂) (h1 : l.length ≤ 1000) (h2 : r.length ≤ 1000) (h3 : r.length ≠ 0)
    (hg : c.env.globals = mainGlobals := by rfl) (hl : c.env.kindOf "QName" = some .globalImplicit := by rfl) (hk : c.env.scope.kind = .function := by rfl)
    (he : starEach [e1, e2] c.env = (false, eval e1 c.env) :: starEach [e2] c.env := by rfl) (hp : (backTo pos (starEach [e2] c.env)).any (·.1) = false := by rfl)
    (hat : eval (.Attribute (.Call (.Name "QName" p) [e1, e2] [] pos) "text" pos') c.env = (do
      let o ← eval (.Call (.Name "QName" p) [e1, e2] [] pos) c.env
      standAt pos'.atName
      let r ← holding [o] (getAttr o "text" true)
      letTemporaryGo (.Call (.Name "QName" p) [e1, e2] [] pos) o r
      pure r) := by with_unfolding_all rfl) :
    Ev c σ (.Attribute (.Call (.Name "QName" p) [e1, e2] [] pos) "text" pos') (.d (.str (braceS l r))) σ₂ := Cm.mk fun fr tm s Q E ht S hQ => by
  obtain ⟨K, C, fI, T, cdv, hK, hm, F⟩ := G.qn
  have X : ∀ {h : Heap}, Sub c.B h.get? → K.In h := fun hs a o e => hs a o (hK a o e)
  refine Attribute_any_ (wpAny_Call_NameR (Ev.gval G hm hg hl hk rfl fr tm s _ E ht S fun v h' tk ht S' => ?_)) hat
  rw [S'.raw (.head _)]
  refine callWith_K (X S'.base) F.keep (ha fr tm _ _ E pos ht S'.pop fun vs h'' tk'' hlen ht S'' => ⟨X S''.base, ?_⟩) he hp
  obtain ⟨I, ρ, m, S⟩ := S''
  revert S
  revert vs
  refine vs2 fun v1 v2 S => ?_
  refine wpAny_call (qname_make (X S.base) F (G.lim.mono S.base) hr S.imm (S.tmk _ (.head _)).d_inv (S.tmk _ (.tail _ (.head _))).d_inv h1 h2 h3 fun L m' h₅ tk₅ es n u F5 I5 e5 => ?_)
  exact get_own F5 (X S.base) I5 F.get F.hasd F.findt rfl e5 rfl (hQ _ _ _ ⟨I, ρ, m, ((S.ext F5.keep (Sub.refl I) (fun b o e => F5.keep b o (S.imm b o e)) fun b o e => .inl e).sub fun p hp => .tail _ (.tail _ hp)).push (.d (.str _ _))⟩)
end Mine
end TF9

section TF10
open PySem PySem.W PySem.Calls PyProof.Rows
set_option autoImplicit false
set_option linter.unusedVariables false
set_option Elab.async false
set_option maxRecDepth 100000
namespace Mine
variable {mg mb : Str → Option Value} {c : Cx}

theorem deuro : ∀ x : Int, 0 ≤ x → x ≤ 2 → x = 0 ∨ x = 1 ∨ x = 2 := fun x h1 h2 => by omega
set_option maxHeartbeats 4000000 in
theorem joined_ok {k : Int} {l r : Str} (k0 : 0 ≤ k) (k2 : k ≤ 2) (h1 : l.length ≤ 1000) (h2 : r.length ≤ 1000) (h3 : r.length ≠ 0) (hne : (r == ("euro" : Str)) = false) (G : GX mg mb c) (hr : Room c.A 6) :
    ∃ f, mg "_law_joined" = some f ∧ IsFn c f ∧ FnOk c f [.int k, .str l, .str r] (.str (joinS k l r)) := by
  refine FnOk.def_ (k := 5) G hr (by decide +kernel) rfl (fun _ _ _ => vs3 fun _ _ _ => rfl) (by decide +kernel) fun a code B Ia L G' hr' => ?_
  refine WS.le (σ₁ := { loc := [("right", .d (.str r)), ("left", .d (.str l)), ("kind", .d (.int k))] }) (Sle.refl _) ⟨?_⟩
  by_cases e0 : k = 0
  · subst e0
    refine Ws.cons (Wx.ite (b := true) (Tr.cmp (Ew.run EwA) (Ew.run EwA) (beq_self_eq_true (0 : Int) ▸ Op2.eq_int)) ?_)
    refine Ws.cons (Wx.ret (Ev.qname (k := 3) G' hr' (Evs.cons (Ew.run EwA) (Evs.cons (Ew.run EwA) Evs.nil)) h1 h2 h3) rfl)
  · refine Ws.cons (Wx.ite (b := false) (Tr.cmp (Ew.run EwA) (Ew.run EwA) (beq_eq_false_iff_ne.mpr e0 ▸ Op2.eq_int)) (Ws.nil ?_))
    by_cases e1 : k = 1
    · subst e1
      refine Ws.cons (Wx.ite (b := true) (Tr.cmp (Ew.run EwA) (Ew.run EwA) (beq_self_eq_true (1 : Int) ▸ Op2.eq_int)) ?_)
      obtain ⟨f, hf, hi, hok⟩ := build_ok h1 h2 G' (hr'.le (by first | decide | omega))
      exact Ws.cons (Wx.ret (Ev.call (Ev.gval G' hf) hi (Evs.cons (Ev.tup (Evs.cons (Ew.run EwA) (Evs.cons (Ew.run EwA) Evs.nil)) rfl (by show 2 ≤ sizeLine; rw [sizeLine_eq]; omega)) Evs.nil) rfl hok) rfl)
    · refine Ws.cons (Wx.ite (b := false) (Tr.cmp (Ew.run EwA) (Ew.run EwA) (beq_eq_false_iff_ne.mpr e1 ▸ Op2.eq_int)) (Ws.nil ?_))
      obtain ⟨f, hf, hi, hok⟩ := append_ok hne h1 h2 G' (hr'.le (by first | decide | omega))
      refine Ws.cons (Wx.ret (Ev.call (Ev.gval G' hf) hi (Evs.cons (Ew.run EwA) (Evs.cons (Ew.run EwA) Evs.nil)) rfl hok) ?_)
      show _ = _
      rw [joinS, if_neg e0, if_neg e1]

/-- the texts that the ways make -/
noncomputable def PW (w : Nat) (x : Str) : Prop := 1 ≤ x.length ∧ x.length ≤ 3 * w + 1 ∧ (w = 0 ∨ ∃ ch ∈ x.cps.toList, ch = 123 ∨ ch = 46 ∨ ch = 64)
theorem PW.ne {w : Nat} {x : Str} (h : PW w x) : (x == ("euro" : Str)) = false := by
  rw [beq_eq_false_iff_ne]
  rintro rfl
  obtain ⟨_, h2, h3⟩ := h
  have hl : (Str.ofString "euro").length = 4 := by decide +kernel
  have hc : (Str.ofString "euro").cps.toList = [101, 117, 114, 111] := by decide +kernel
  rcases h3 with rfl | ⟨ch, hm, h⟩
  · omega
  · rw [hc] at hm
    simp only [List.mem_cons, List.not_mem_nil, or_false] at hm
    omega
theorem cps_app (a b : Str) : (a ++ b).cps.toList = a.cps.toList ++ b.cps.toList := by rw [Str.cps_append, Array.toList_append]
theorem PW.join (k : Int) (a b : Nat) (l r : Str) (h1 : PW a l) (h2 : PW b r) : PW (a + b + 1) (joinS k l r) := by
  obtain ⟨p1, p2, _⟩ := h1
  obtain ⟨q1, q2, _⟩ := h2
  have l1 : (Str.ofString "{").length = 1 := by decide +kernel
  have l2 : (Str.ofString "}").length = 1 := by decide +kernel
  have l3 : (Str.ofString ".").length = 1 := by decide +kernel
  have l4 : (Str.ofString "@").length = 1 := by decide +kernel
  have c1 : (Str.ofString "{").cps.toList = [123] := by decide +kernel
  have c3 : (Str.ofString ".").cps.toList = [46] := by decide +kernel
  have c4 : (Str.ofString "@").cps.toList = [64] := by decide +kernel
  unfold joinS
  split
  · refine ⟨by simp only [strLen_append, l1, l2]; omega, by simp only [strLen_append, l1, l2]; omega, .inr ⟨123, by simp only [cps_app, c1]; simp, .inl rfl⟩⟩
  · split
    · refine ⟨by simp only [strLen_append, l3]; omega, by simp only [strLen_append, l3]; omega, .inr ⟨46, by simp only [cps_app, c3]; simp, .inr (.inl rfl)⟩⟩
    · refine ⟨by simp only [strLen_append, l4]; omega, by simp only [strLen_append, l4]; omega, .inr ⟨64, by simp only [cps_app, c4]; simp, .inr (.inr rfl)⟩⟩

theorem ways_ok' {signs : List Str} {kinds : List Int} (hs1 : ∀ i, i < 5 → (signs.getD i ⟨#[]⟩).length = 1) (hsn : signs.length = 5) (hkn : kinds.length = 4) (hk3 : ∀ k ∈ kinds, 0 ≤ k ∧ k ≤ 2)
    (hsmall : ∀ w first, w ≤ 4 → (cell signs kinds 6 w first).length ≤ 14) (hbr : ∀ w first, w ≤ 4 → ∀ e ∈ cell signs kinds 6 w first, e.br.length ≤ 100)
    (G : GX mg mb c) (hr : Room c.A 8) :
    ∃ f, mg "_law_ways" = some f ∧ IsFn c f ∧ FnOk c f [.lst (signs.map .str), .lst (kinds.map .int)] (.lst ((cell signs kinds 6 4 0).map Wy.d)) :=
  ways_ok (P := PW) (fun i hi => by have := hs1 i hi; exact ⟨by omega, by omega, .inl rfl⟩) PW.join hsn hkn hk3
    (fun c' G' hr' k a b l r k0 k2 h1 h2 hab => joined_ok k0 k2 (by have := h1.2.1; omega) (by have := h2.2.1; omega) (by have := h2.1; omega) h2.ne G' hr')
    (let ⟨f, h, _⟩ := joined_ok (k := 0) (l := "") (r := "a") (by first | decide | omega) (by first | decide | omega) (by decide +kernel) (by decide +kernel) (by decide +kernel) (by decide +kernel) G (hr.le (by first | decide | omega)); ⟨f, h⟩) hsmall hbr G hr
end Mine
end TF10

section TL1
open PySem PySem.W PySem.Calls PyProof.Rows
set_option autoImplicit false
set_option linter.unusedVariables false
set_option Elab.async false
set_option maxRecDepth 100000
set_option maxHeartbeats 4000000
namespace Mine
variable {mg mb : Str → Option Value} {c : Cx}

noncomputable def cixLaw : List (Str × Nat) := [("new", 0), ("old", 1), ("kin", 2), ("ahead", 3), ("braced", 4), ("pages", 5), ("marks", 6), ("written", 7), ("signs", 8)]
noncomputable def cells9 : List MO := [.cell none, .cell none, .cell none, .cell none, .cell none, .cell none, .cell none, .cell none, .cell none]
noncomputable def cells0 : List Int := [3, 1, 2, 0, 0, 4, 1, 15, 2]
/-- the statement number i of law, what it does said of all frames -/
noncomputable def LawSt (i : Nat) (P : Scope → Stmt → Prop) : Prop := ∃ ps bd sc s, pw.theDef "law" = some (ps, bd, sc) ∧ bd[i]? = some s ∧ P sc s

theorem law0 : LawSt 0 fun sc s => ∀ (c : Cx) (L a : Addr) (code : Value) (B Ia : Mp) (x : D),
    WX (cxIn c "law" sc L a code B Ia) { loc := [("script", .d x)], mu := cells9, cix := cixLaw } s fun fd σ' => fd = .next ∧ Sle (cxIn c "law" sc L a code B Ia) σ' { loc := [("script", .d x), ("cells", .m 9)], mu := cells9 ++ [.list (vints cells0)], cix := cixLaw } := by
  refine ⟨_, _, _, _, rfl, rfl, ?_⟩
  intro c L a code B Ia x
  refine WX.assign_name (Ew.lstM (xs := vints cells0) (EWs.cons Ew.int (EWs.cons Ew.int (EWs.cons Ew.int (EWs.cons Ew.int (EWs.cons Ew.int (EWs.cons Ew.int (EWs.cons Ew.int (EWs.cons Ew.int (EWs.cons Ew.int EWs.nil))))))))) (by show 9 ≤ sizeLine; rw [sizeLine_eq]; omega)) (AsW.local_ rfl rfl) ⟨rfl, ?_⟩
  exact Sle.to (by repeat (first | exact trivial | refine ⟨rfl, ?_⟩))

theorem fmod_bd (a : Int) {b : Int} (h : 0 < b) : 0 ≤ a.fmod b ∧ a.fmod b < b := ⟨Int.fmod_nonneg_of_pos a h, Int.fmod_lt_of_pos a h⟩
theorem law1 : LawSt 1 fun sc s => ∀ (c : Cx) (L a : Addr) (code : Value) (B Ia : Mp) (xs : List Int), GX mg mb (cxIn c "law" sc L a code B Ia) → Room (cxIn c "law" sc L a code B Ia).A 1 → xs.length ≤ 1000 →
    WX (cxIn c "law" sc L a code B Ia) { loc := [("script", .d (.lst (xs.map .int))), ("cells", .m 9)], mu := cells9 ++ [.list (vints cells0)], cix := cixLaw } s fun fd σ' => fd = .next ∧
      ∃ cs : List Int, cs.length = 9 ∧ (∀ x ∈ cs, 0 ≤ x ∧ x ≤ 100000000) ∧ Sle (cxIn c "law" sc L a code B Ia) σ' { loc := [("cells", .d (.lst (cs.map .int)))], mu := cells9, cix := cixLaw } := by
  refine ⟨_, _, _, _, rfl, rfl, ?_⟩
  intro c L a code B Ia xs G' hr' hxs
  have hh := hr'.handled
  let S (cs : List Int) : Sg := { loc := [("script", .d (.lst (xs.map .int))), ("cells", .m 9)], mu := cells9 ++ [.list (vints cs)], cix := cixLaw }
  refine WX.for_enum (ds := ((xs.map D.int).drop 0).take (clipAt (xs.map D.int).length 60 - 0)) (fun i σ => ∃ cs : List Int, σ = S cs ∧ cs.length = 9 ∧ ∀ x ∈ cs, 0 ≤ x ∧ x ≤ 15 + (i : Int) * 1000000) hh (Ew.gblt G' (by decide +kernel) blt_enumerate)
    (ew_slice_lst (σ₁ := S cells0) (σ₂ := S cells0) (lo := none) (hi := some 60) EwA rfl (by show Ev _ _ _ _ _; exact Ew.run EwA) (by rw [List.length_map]; omega) (by intro _ _; rfl)) ⟨S cells0, Sle.refl _, cells0, rfl, rfl, by decide⟩ ?_ ?_
  · rintro i σ d hd ⟨cs, rfl, hlen, hbd⟩
    obtain ⟨v, hv, rfl⟩ : ∃ v, v ∈ xs ∧ D.int v = d := List.mem_map.mp (List.mem_of_mem_drop (List.mem_of_mem_take (List.mem_of_getElem? hd)))
    have hi60 : i < 1000 := by
      have := (List.getElem?_eq_some_iff.mp hd).1
      rw [List.length_take, List.length_drop, List.length_map] at this; omega
    refine ⟨_, AsW.tup hh (AsLW.cons (AsW.local_ rfl rfl) (AsLW.cons (AsW.local_ rfl rfl) AsLW.nil)), ?_⟩
    have hm9 := fmod_bd (i : Int) (b := 9) (by first | decide | omega)
    have hj : ((i : Int).fmod 9).toNat < cs.length := by rw [hlen]; omega
    refine WS.cons (WX.augInt (k := 9) (j := (i : Int).fmod 9) (l := cs) (y := cs.getD ((i : Int).fmod 9).toNat 0 + v.fmod (10 ^ (6 : Int).toNat)) EwA (Ew.bin EwA EwA (Op2.mod_int (by first | decide | omega))) rfl hm9.1 (by first | decide | omega) hj
      (Ew.bin EwA (Ew.bin EwA EwA (Op2.pow_int (by first | decide | omega) (by decide +kernel))) (Op2.mod_int (by decide))) Op2.iadd_int rfl (WS.nil (LoopR.next ⟨S (cs.set ((i : Int).fmod 9).toNat (cs.getD ((i : Int).fmod 9).toNat 0 + v.fmod (10 ^ (6 : Int).toNat))), Sle.to (by repeat (first | exact trivial | refine ⟨rfl, ?_⟩)), _, rfl, by rw [List.length_set]; exact hlen, ?_⟩)))
    intro x hx
    have hv6 := fmod_bd v (b := 10 ^ (6 : Int).toNat) (by decide)
    have e6 : (10 : Int) ^ (6 : Int).toNat = 1000000 := by decide
    rcases List.mem_or_eq_of_mem_set hx with hx | rfl
    · have := hbd x hx; push_cast; omega
    · have hmem : cs.getD ((i : Int).fmod 9).toNat 0 ∈ cs := by
        rw [List.getD_eq_getElem?_getD, List.getElem?_eq_getElem hj]; exact List.getElem_mem hj
      have := hbd _ hmem
      rw [e6] at hv6 ⊢
      push_cast; omega
  · rintro σ ⟨cs, rfl, hlen, hbd⟩
    have hn : (((xs.map D.int).drop 0).take (clipAt (xs.map D.int).length 60 - 0)).length ≤ 60 := by
      rw [List.length_take]
      have : clipAt (xs.map D.int).length 60 ≤ 60 := by unfold clipAt; simp; omega
      omega
    refine WS.nil ⟨rfl, cs, hlen, fun x hx => ?_, ?_⟩
    · have := hbd x hx; omega
    · refine Sle.trans (Sle.frz (x := "cells") (i := 9) (mo := .list (vints cs)) (d := .lst (cs.map .int)) rfl rfl (Frz.list (by simp [vints]))) ?_
      exact Sle.trim (k := 9) (l := [("cells", .d (.lst (cs.map .int)))]) (by repeat (first | exact trivial | refine ⟨rfl, ?_⟩)) rfl rfl rfl
end Mine
end TL1

section TL2
open PySem PySem.W PySem.Calls PyProof.Rows
set_option autoImplicit false
set_option linter.unusedVariables false
set_option Elab.async false
set_option maxRecDepth 100000
set_option maxHeartbeats 4000000
namespace Mine
variable {mg mb : Str → Option Value} {c : Cx}

noncomputable def signOf (x : Int) : Nat := if x.fmod 8 < 4 then ([38, 60, 62, 13] : List Nat).getD (x.fmod 8).toNat 0 else (97 + (x.fdiv 8).fmod 26).toNat
noncomputable def chS (n : Nat) : Str := ⟨#[n]⟩
noncomputable def markN (k : Int) : Nat := ([125, 46, 64] : List Nat).getD k.toNat 0
noncomputable def writtenD : List (Str × D) := [("&", .str "&amp;"), ("<", .str "&lt;"), (">", .str "&gt;"), ("\r", .str "&#xD;")]
noncomputable def kindsD (ks : List Int) : D := .lst (ks.map .int)
noncomputable def signsD (sg : List Nat) : D := .lst (sg.map fun n => .str (chS n))
noncomputable def marksD (ks : List Int) : D := .lst (ks.map (fun k => .str (chS (markN k))) ++ [.str ⟨#[]⟩])
/-- the frame of law, the signs read: ahead, braced, pages -/
noncomputable def muLaw (c : Cx) (ks : List Int) (sg : List Nat) (ah br pg : Option Vl) : List MO := [.cell none, .cell none, .cell none, .cell ah, .cell br, .cell pg, .cell (some (.d (marksD ks))), .cell (some (.d (.sd c.prog c.w writtenD))), .cell (some (.d (signsD sg)))]

theorem Ew.castV {σ σ₁ : Sg} {e : Expr} {x y : Vl} (h : Ew c σ e x σ₁) (he : x = y) : Ew c σ e y σ₁ := he ▸ h
theorem law2 : LawSt 2 fun sc s => ∀ (c : Cx) (L a : Addr) (code : Value) (B Ia : Mp) (cs : List Int), Room (cxIn c "law" sc L a code B Ia).A 1 → cs.length = 9 →
    WX (cxIn c "law" sc L a code B Ia) { loc := [("cells", .d (.lst (cs.map .int)))], mu := cells9, cix := cixLaw } s fun fd σ' => fd = .next ∧ Sle (cxIn c "law" sc L a code B Ia) σ' { loc := [("cells", .d (.lst (cs.map .int))), ("kinds", .d (kindsD ((cs.take 4).map fun x => x.fmod 3)))], mu := cells9, cix := cixLaw } := by
  refine ⟨_, _, _, _, rfl, rfl, ?_⟩
  intro c L a code B Ia cs hr' hlen
  have hh := hr'.handled
  have hn : (cs.take 4).length = 4 := by rw [List.length_take]; omega
  refine WX.assign_compL [] (fun i => .int (((cs.take 4).getD i 0).fmod 3)) (((cs.take 4).map fun x => x.fmod 3).map .int) (ItW.lstMap D.int (cs.take 4) 0 hh (Ew.castV (ew_slice_lst (lo := none) (hi := some 4) EwA rfl (by show Ev _ _ _ _ _; exact Ew.run EwA) (by rw [List.length_map]; omega) (by intro _ _; rfl)) ?_))
    rfl trivial (by rw [hn, sizeLine_eq]; omega) rfl (fun C B Ia i xs hi hB => Ew.bin EwA EwA (Op2.mod_int (by first | decide | omega))) (comp_items (cs.take 4) 0 (fun x => .int (x.fmod 3)) .int (fun x => x.fmod 3) fun _ => rfl) (AsW.local_ rfl rfl) ⟨rfl, Sle.to (by repeat (first | exact trivial | refine ⟨rfl, ?_⟩))⟩
  have : clipAt (cs.map D.int).length 4 = 4 := by rw [List.length_map, hlen]; decide
  show Vl.d (.lst (List.take (clipAt (cs.map D.int).length 4 - 0) ((cs.map D.int).drop 0))) = _
  rw [this, List.drop_zero, List.map_take]

theorem cps_amps (j : Nat) (h : j < 4) : (Str.ofString "&<>\r").cps[j]? = some (([38, 60, 62, 13] : List Nat).getD j 0) := by
  have : (Str.ofString "&<>\r").cps = #[38, 60, 62, 13] := by decide +kernel
  rw [this]
  match j, h with
  | 0, _ => rfl
  | 1, _ => rfl
  | 2, _ => rfl
  | 3, _ => rfl
theorem cps_marks (j : Nat) (h : j < 3) : (Str.ofString "}.@").cps[j]? = some (([125, 46, 64] : List Nat).getD j 0) := by
  have : (Str.ofString "}.@").cps = #[125, 46, 64] := by decide +kernel
  rw [this]
  match j, h with
  | 0, _ => rfl
  | 1, _ => rfl
  | 2, _ => rfl
theorem law3 : LawSt 3 fun sc s => ∀ (c : Cx) (L a : Addr) (code : Value) (B Ia : Mp) (cs : List Int), GX mg mb (cxIn c "law" sc L a code B Ia) → Room (cxIn c "law" sc L a code B Ia).A 1 → cs.length = 9 → (∀ x ∈ cs, 0 ≤ x ∧ x ≤ 100000000) → ∀ kD : D,
    WX (cxIn c "law" sc L a code B Ia) { loc := [("cells", .d (.lst (cs.map .int))), ("kinds", .d kD)], mu := cells9, cix := cixLaw } s fun fd σ' => fd = .next ∧
      Sle (cxIn c "law" sc L a code B Ia) σ' { loc := [("kinds", .d kD)], mu := [.cell none, .cell none, .cell none, .cell none, .cell none, .cell none, .cell none, .cell none, .cell (some (.d (signsD ((cs.drop 4).map signOf))))], cix := cixLaw } := by
  refine ⟨_, _, _, _, rfl, rfl, ?_⟩
  intro c L a code B Ia cs G' hr' hlen hbd kD
  have hh := hr'.handled
  have hn : (cs.drop 4).length = 5 := by rw [List.length_drop]; omega
  refine WX.assign_name (Ew.compL (c := cxIn c "law" _ L a code B Ia) [] (fun i => .str (chS (signOf ((cs.drop 4).getD i 0)))) (((cs.drop 4).map signOf).map fun n => .str (chS n)) (ItW.lstMap D.int (cs.drop 4) 0 hh (Ew.castV (ew_slice_lst (lo := some 4) (hi := none) EwA (by show Ev _ _ _ _ _; exact Ew.run EwA) rfl (by rw [List.length_map]; omega) (by intro _ _; rfl)) ?hc))
    rfl trivial (by rw [hn, sizeLine_eq]; omega) rfl ?he (comp_items (cs.drop 4) 0 (fun x => .str (chS (signOf x))) (fun n => .str (chS n)) signOf fun _ => rfl)) (AsW.cell_ rfl rfl rfl) ⟨rfl, Sle.to (by repeat (first | exact trivial | refine ⟨rfl, ?_⟩))⟩
  case hc =>
    have e4 : clipAt (cs.map D.int).length 4 = 4 := by rw [List.length_map, hlen]; decide
    show Vl.d (.lst (List.take ((cs.map D.int).length - clipAt (cs.map D.int).length 4) ((cs.map D.int).drop (clipAt (cs.map D.int).length 4)))) = _
    rw [e4, ← List.map_drop, List.take_of_length_le (by rw [List.length_map, List.length_drop, List.length_map]; omega)]
  case he =>
    intro C B1 Ia1 i xs hi hB
    have hmem : (cs.drop 4).getD i 0 ∈ cs := by
      rw [List.getD_eq_getElem?_getD, List.getElem?_eq_getElem hi]; exact List.mem_of_mem_drop (List.getElem_mem hi)
    generalize (cs.drop 4).getD i 0 = x at hmem ⊢
    obtain ⟨hx0, hx1⟩ := hbd x hmem
    have h8 := fmod_bd x (b := 8) (by first | decide | omega)
    refine Ew.ifexp (b := decide (x.fmod 8 < 4)) (TrW.cmp (Ew.bin EwA EwA (Op2.mod_int (by first | decide | omega))) EwA Op2.lt_int) (fun e => ?_) (fun e => ?_)
    · have e := of_decide_eq_true e
      have hs : signOf x = ([38, 60, 62, 13] : List Nat).getD (x.fmod 8).toNat 0 := by rw [signOf, if_pos e]
      rw [hs]
      exact Ew.sub Ew.str (Ew.bin EwA EwA (Op2.mod_int (by first | decide | omega))) (Op2.sub_str h8.1 (by first | decide | omega) (cps_amps _ (by first | decide | omega)))
    · have e := of_decide_eq_false e
      have hs : signOf x = (97 + (x.fdiv 8).fmod 26).toNat := by rw [signOf, if_neg e]
      have h26 := fmod_bd (x.fdiv 8) (b := 26) (by first | decide | omega)
      rw [hs]
      exact Ew.callB (Ew.gblt (G'.mono hB) (by decide +kernel) blt_chr) (EWs.cons (Ew.bin EwA (Ew.bin (Ew.bin EwA EwA (Op2.fdiv_int (by first | decide | omega) (PyProof.noPylong_small (by decide)))) EwA (Op2.mod_int (by first | decide | omega))) Op2.add_int) EWs.nil) rfl (fn_chr (by first | decide | omega) (by first | decide | omega))

theorem law4 : LawSt 4 fun sc s => ∀ (c : Cx) (L a : Addr) (code : Value) (B Ia : Mp) (sD : D), GX mg mb (cxIn c "law" sc L a code B Ia) → ∀ kD : D,
    WX (cxIn c "law" sc L a code B Ia) { loc := [("kinds", .d kD)], mu := [.cell none, .cell none, .cell none, .cell none, .cell none, .cell none, .cell none, .cell none, .cell (some (.d sD))], cix := cixLaw } s fun fd σ' => fd = .next ∧
      Sle (cxIn c "law" sc L a code B Ia) σ' { loc := [("kinds", .d kD)], mu := [.cell none, .cell none, .cell none, .cell none, .cell none, .cell none, .cell none, .cell (some (.d (.sd c.prog c.w writtenD))), .cell (some (.d sD))], cix := cixLaw } := by
  refine ⟨_, _, _, _, rfl, rfl, ?_⟩
  intro c L a code B Ia sD G' kD
  exact WX.assign_name (Ew.dictZ (kvs := writtenD) (by exact Ps.cons Ev.const_str Ev.const_str (Ps.cons Ev.const_str Ev.const_str (Ps.cons Ev.const_str Ev.const_str (Ps.cons Ev.const_str Ev.const_str Ps.nil)))) (by decide +kernel) rfl (by decide) G'.sysm rfl) (AsW.cell_ rfl rfl rfl) ⟨rfl, Sle.to (by repeat (first | exact trivial | refine ⟨rfl, ?_⟩))⟩

theorem law5 : LawSt 5 fun sc s => ∀ (c : Cx) (L a : Addr) (code : Value) (B Ia : Mp) (ks : List Int) (sg : List Nat), Room (cxIn c "law" sc L a code B Ia).A 1 → ks.length = 4 → (∀ k ∈ ks, 0 ≤ k ∧ k ≤ 2) →
    WX (cxIn c "law" sc L a code B Ia) { loc := [("kinds", .d (kindsD ks))], mu := [.cell none, .cell none, .cell none, .cell none, .cell none, .cell none, .cell none, .cell (some (.d (.sd c.prog c.w writtenD))), .cell (some (.d (signsD sg)))], cix := cixLaw } s fun fd σ' => fd = .next ∧
      Sle (cxIn c "law" sc L a code B Ia) σ' { loc := [("kinds", .d (kindsD ks))], mu := muLaw c ks sg none none none, cix := cixLaw } := by
  refine ⟨_, _, _, _, rfl, rfl, ?_⟩
  intro c L a code B Ia ks sg hr' hlen hk
  have hh := hr'.handled
  refine WX.assign_name (Ew.bin (Ew.compL (c := cxIn c "law" _ L a code B Ia) [] (fun i => .str (chS (markN (ks.getD i 0)))) (ks.map fun k => .str (chS (markN k))) (ItW.lstMap D.int ks 0 hh EwA)
    rfl trivial (by rw [hlen, sizeLine_eq]; omega) rfl ?he ?hd) (Ew.lst (ds := [.str ⟨#[]⟩]) (EWs.cons Ew.str EWs.nil) rfl (by show 1 ≤ sizeLine; rw [sizeLine_eq]; omega)) (Op2.add_lst ?hz)) (AsW.cell_ rfl rfl rfl) ⟨rfl, Sle.to (by repeat (first | exact trivial | refine ⟨rfl, ?_⟩))⟩
  case hz => rw [List.length_map, hlen, sizeLine_eq]; show 4 + 1 ≤ _; omega
  case hd =>
    have := comp_items ks 0 (fun k => D.str (chS (markN k))) .str (fun k => chS (markN k)) fun _ => rfl
    rw [List.map_map] at this; exact this
  case he =>
    intro C B1 Ia1 i xs hi hB
    have hmem : ks.getD i 0 ∈ ks := by
      rw [List.getD_eq_getElem?_getD, List.getElem?_eq_getElem hi]; exact List.getElem_mem hi
    generalize ks.getD i 0 = x at hmem ⊢
    obtain ⟨hx0, hx1⟩ := hk x hmem
    exact Ew.sub Ew.str EwA (Op2.sub_str hx0 (by first | decide | omega) (cps_marks _ (by first | decide | omega)))
end Mine
end TL2

section TL3
open PySem PySem.W PySem.Calls PyProof.Rows
set_option autoImplicit false
set_option linter.unusedVariables false
set_option Elab.async false
set_option maxRecDepth 100000
set_option maxHeartbeats 4000000
namespace Mine
variable {mg mb : Str → Option Value} {c : Cx}

noncomputable def wys (ks : List Int) (sg : List Nat) : List Wy := cell (sg.map chS) ks 6 4 0
noncomputable def pageOf (w : Wy) : Str := strL (escL w.tx.cps.toList)
noncomputable def aheadOf (w : Wy) : List Int := (List.range 5).map fun (s : Nat) => ((w.br.countP (· == (s : Int)) : Nat) : Int)
noncomputable def wrS (n : Nat) : Str := if n = 38 then "&amp;" else if n = 60 then "&lt;" else if n = 62 then "&gt;" else if n = 13 then "&#xD;" else chS n
noncomputable def pieceS (a : Int) (n : Nat) (mk : Str) : Str := ((⟨(List.replicate a.toNat ("{" : Str).cps.toList).flatten.toArray⟩ : Str) ++ wrS n) ++ mk
noncomputable def mkAt (ks : List Int) (i : Nat) : Str := if i < 4 then chS (markN (ks.getD i 0)) else ⟨#[]⟩
noncomputable def piecesOf (ks : List Int) (sg : List Nat) (w : Wy) : List Str := (List.range 5).map fun i => pieceS ((aheadOf w).getD i 0) (sg.getD i 0) (mkAt ks i)
noncomputable def dueOf (ks : List Int) (sg : List Nat) (w : Wy) : Str := Builtin.Str.glued ("" : Str) (piecesOf ks sg w)
noncomputable def headsOf (W : List Wy) : List (Str × D) := W.foldl (fun kv w => putKV kv (pageOf w) (.lst ((aheadOf w).map .int))) []

theorem chS_beq (n m : Nat) : (chS n == chS m) = (n == m) := by
  rw [Bool.eq_iff_iff, beq_iff_eq, beq_iff_eq]
  constructor
  · intro h
    have := congrArg (fun x : Str => x.cps.toList) h
    simpa [chS] using this
  · rintro rfl; rfl
theorem written_get (n : Nat) : (writtenD.lookup (chS n)).getD (.str (chS n)) = .str (wrS n) := by
  have e1 : ("&" : Str) = chS 38 := by decide +kernel
  have e2 : ("<" : Str) = chS 60 := by decide +kernel
  have e3 : (">" : Str) = chS 62 := by decide +kernel
  have e4 : ("\r" : Str) = chS 13 := by decide +kernel
  unfold writtenD wrS
  rw [e1, e2, e3, e4]
  simp only [List.lookup_cons, List.lookup_nil, chS_beq]
  by_cases h1 : n = 38
  · subst h1; rfl
  by_cases h2 : n = 60
  · subst h2; rfl
  by_cases h3 : n = 62
  · subst h3; rfl
  by_cases h4 : n = 13
  · subst h4; rfl
  rw [beq_eq_false_iff_ne.mpr h1, beq_eq_false_iff_ne.mpr h2, beq_eq_false_iff_ne.mpr h3, beq_eq_false_iff_ne.mpr h4, if_neg h1, if_neg h2, if_neg h3, if_neg h4]
  rfl
theorem wrS_len (n : Nat) : (wrS n).length ≤ 5 := by
  have e1 : (Str.ofString "&amp;").length = 5 := by decide +kernel
  have e2 : (Str.ofString "&lt;").length = 4 := by decide +kernel
  have e3 : (Str.ofString "&gt;").length = 4 := by decide +kernel
  have e4 : (Str.ofString "&#xD;").length = 5 := by decide +kernel
  have e5 : (chS n).length = 1 := rfl
  unfold wrS
  repeat' split
  all_goals omega
theorem mkAt_len (ks : List Int) (i : Nat) : (mkAt ks i).length ≤ 1 := by
  unfold mkAt
  split
  · exact Nat.le_refl _
  · exact Nat.zero_le _
theorem braceN_len (k : Nat) : (⟨(List.replicate k ("{" : Str).cps.toList).flatten.toArray⟩ : Str).length = k := by
  have e : ("{" : Str).cps.toList = [123] := by decide +kernel
  rw [e]
  show Array.size _ = k
  rw [List.size_toArray]
  simp
theorem pieceS_len (a : Int) (n : Nat) (mk : Str) : (pieceS a n mk).length = a.toNat + (wrS n).length + mk.length := by
  unfold pieceS
  rw [strLen_append, strLen_append, braceN_len]
theorem ahead_getD (w : Wy) (i : Nat) (hi : i < 5) : (aheadOf w).getD i 0 = ((w.br.countP (· == (i : Int)) : Nat) : Int) := by
  unfold aheadOf
  simp [List.getD_eq_getElem?_getD, List.getElem?_map, List.getElem?_range hi]
theorem ahead_bd (w : Wy) (hb : w.br.length ≤ 100) (i : Nat) (hi : i < 5) : 0 ≤ (aheadOf w).getD i 0 ∧ (aheadOf w).getD i 0 ≤ 100 := by
  rw [ahead_getD w i hi]
  have := List.countP_le_length (p := (· == (i : Int))) (l := w.br)
  omega

structure WaysOk (ks : List Int) (sg : List Nat) : Prop where
  kl : ks.length = 4
  kb : ∀ k ∈ ks, 0 ≤ k ∧ k ≤ 2
  sl : sg.length = 5
  small : ∀ w first, w ≤ 4 → (cell (sg.map chS) ks 6 w first).length ≤ 14
  br : ∀ w first, w ≤ 4 → ∀ e ∈ cell (sg.map chS) ks 6 w first, e.br.length ≤ 100
  n14 : (wys ks sg).length = 14
  tx : ∀ w ∈ wys ks sg, w.tx.length ≤ 100

noncomputable def muWays (c : Cx) (ks : List Int) (sg : List Nat) (ah br : Option Vl) (W : List Wy) : List MO :=
  muLaw c ks sg ah br (some (.m 10)) ++ [.list ((W.map fun w => w.sh.d).map .d), .list ((W.map fun w => .str (pageOf w)).map .d), .list ((W.map fun w => .str (dueOf ks sg w)).map .d), .sdict (headsOf W)]
noncomputable def sgWays (c : Cx) (ks : List Int) (sg : List Nat) (ah br : Option Vl) (W : List Wy) : Sg :=
  { loc := [("kinds", .d (kindsD ks)), ("shapes", .m 9), ("dues", .m 11), ("heads", .m 12)], mu := muWays c ks sg ah br W, cix := cixLaw }

theorem law6 : LawSt 6 fun sc s => ∀ (c : Cx) (L a : Addr) (code : Value) (B Ia : Mp) (ks : List Int) (sg : List Nat),
    WX (cxIn c "law" sc L a code B Ia) { loc := [("kinds", .d (kindsD ks))], mu := muLaw c ks sg none none none, cix := cixLaw } s fun fd σ' => fd = .next ∧
      Sle (cxIn c "law" sc L a code B Ia) σ' { loc := [("kinds", .d (kindsD ks)), ("shapes", .m 9)], mu := muLaw c ks sg none none none ++ [.list []], cix := cixLaw } := by
  refine ⟨_, _, _, _, rfl, rfl, ?_⟩
  intro c L a code B Ia ks sg
  exact WX.assign_name (Ew.lstM EWs.nil (by decide)) (AsW.local_ rfl rfl) ⟨rfl, Sle.to (by repeat (first | exact trivial | refine ⟨rfl, ?_⟩))⟩
theorem law7 : LawSt 7 fun sc s => ∀ (c : Cx) (L a : Addr) (code : Value) (B Ia : Mp) (ks : List Int) (sg : List Nat),
    WX (cxIn c "law" sc L a code B Ia) { loc := [("kinds", .d (kindsD ks)), ("shapes", .m 9)], mu := muLaw c ks sg none none none ++ [.list []], cix := cixLaw } s fun fd σ' => fd = .next ∧
      Sle (cxIn c "law" sc L a code B Ia) σ' { loc := [("kinds", .d (kindsD ks)), ("shapes", .m 9)], mu := muLaw c ks sg none none (some (.m 10)) ++ [.list [], .list []], cix := cixLaw } := by
  refine ⟨_, _, _, _, rfl, rfl, ?_⟩
  intro c L a code B Ia ks sg
  exact WX.assign_name (Ew.lstM EWs.nil (by decide)) (AsW.cell_ rfl rfl rfl) ⟨rfl, Sle.to (by repeat (first | exact trivial | refine ⟨rfl, ?_⟩))⟩
theorem law8 : LawSt 8 fun sc s => ∀ (c : Cx) (L a : Addr) (code : Value) (B Ia : Mp) (ks : List Int) (sg : List Nat),
    WX (cxIn c "law" sc L a code B Ia) { loc := [("kinds", .d (kindsD ks)), ("shapes", .m 9)], mu := muLaw c ks sg none none (some (.m 10)) ++ [.list [], .list []], cix := cixLaw } s fun fd σ' => fd = .next ∧
      Sle (cxIn c "law" sc L a code B Ia) σ' { loc := [("kinds", .d (kindsD ks)), ("shapes", .m 9), ("dues", .m 11)], mu := muLaw c ks sg none none (some (.m 10)) ++ [.list [], .list [], .list []], cix := cixLaw } := by
  refine ⟨_, _, _, _, rfl, rfl, ?_⟩
  intro c L a code B Ia ks sg
  exact WX.assign_name (Ew.lstM EWs.nil (by decide)) (AsW.local_ rfl rfl) ⟨rfl, Sle.to (by repeat (first | exact trivial | refine ⟨rfl, ?_⟩))⟩
theorem law9 : LawSt 9 fun sc s => ∀ (c : Cx) (L a : Addr) (code : Value) (B Ia : Mp) (ks : List Int) (sg : List Nat),
    WX (cxIn c "law" sc L a code B Ia) { loc := [("kinds", .d (kindsD ks)), ("shapes", .m 9), ("dues", .m 11)], mu := muLaw c ks sg none none (some (.m 10)) ++ [.list [], .list [], .list []], cix := cixLaw } s fun fd σ' => fd = .next ∧
      Sle (cxIn c "law" sc L a code B Ia) σ' (sgWays c ks sg none none []) := by
  refine ⟨_, _, _, _, rfl, rfl, ?_⟩
  intro c L a code B Ia ks sg
  exact WX.assign_name Ew.dictS (AsW.local_ rfl rfl) ⟨rfl, Sle.to (by repeat (first | exact trivial | refine ⟨rfl, ?_⟩))⟩

theorem length_putKVg {K : Type} [DecidableEq K] {k : K} {d : D} : ∀ (kvs : List (K × D)), (putKV kvs k d).length ≤ kvs.length + 1
  | [] => Nat.le_refl _
  | (a, b) :: r => by
    rw [putKV]
    split
    · simp
    · have := length_putKVg (k := k) (d := d) r; simp; omega
theorem headsOf_len (W : List Wy) : ∀ kv : List (Str × D), (W.foldl (fun kv w => putKV kv (pageOf w) (.lst ((aheadOf w).map .int))) kv).length ≤ kv.length + W.length := by
  induction W with
  | nil => intro kv; simp
  | cons w W ih =>
    intro kv
    rw [List.foldl_cons, List.length_cons]
    have := ih (putKV kv (pageOf w) (.lst ((aheadOf w).map .int)))
    have := length_putKVg (k := pageOf w) (d := .lst ((aheadOf w).map .int)) kv
    omega
theorem headsOf_snoc (W : List Wy) (w : Wy) : headsOf (W ++ [w]) = putKV (headsOf W) (pageOf w) (.lst ((aheadOf w).map .int)) := by
  unfold headsOf; rw [List.foldl_append]; rfl

theorem law10 : LawSt 10 fun sc s => ∀ (c : Cx) (L a : Addr) (code : Value) (B Ia : Mp) (ks : List Int) (sg : List Nat), GX mg mb (cxIn c "law" sc L a code B Ia) → Room (cxIn c "law" sc L a code B Ia).A 20 → WaysOk ks sg →
    WX (cxIn c "law" sc L a code B Ia) (sgWays c ks sg none none []) s fun fd σ' => fd = .next ∧ ∃ ah br, Sle (cxIn c "law" sc L a code B Ia) σ' (sgWays c ks sg ah br (wys ks sg)) := by
  refine ⟨_, _, _, _, rfl, rfl, ?_⟩
  intro c L a code B Ia ks sg G' hr' O
  have hh := hr'.handled
  obtain ⟨fw, hfw, hiw, hokw⟩ := ways_ok' (signs := sg.map chS) (kinds := ks) (fun i hi => by
    have : i < sg.length := by rw [O.sl]; exact hi
    rw [List.getD_eq_getElem?_getD, List.getElem?_map, List.getElem?_eq_getElem this]; rfl) (by rw [List.length_map, O.sl]) O.kl O.kb O.small O.br G' (hr'.le (by first | decide | omega))
  have hn : (wys ks sg).length = 14 := O.n14
  have hsg : Vl.d (signsD sg) = Vl.d (.lst ((sg.map chS).map .str)) := by rw [signsD, List.map_map]; rfl
  refine WX.for_ (fun i σ => ∃ ah br, σ = sgWays c ks sg ah br ((wys ks sg).take i)) (ItW.lstMap Wy.d (wys ks sg) dW hh (Ew.call (Ew.gval G' hfw) hiw (EWs.cons (Ew.castV EwA hsg) (EWs.cons EwA EWs.nil)) rfl hokw)) ⟨_, Sle.refl _, none, none, rfl⟩ ?_ ?_
  · rintro i σ hi ⟨ah, br, rfl⟩
    have hwm : (wys ks sg).getD i dW ∈ wys ks sg := by rw [List.getD_eq_getElem?_getD, List.getElem?_eq_getElem hi]; exact List.getElem_mem hi
    have htk := Mine.take_snoc dW hi
    have hlen : ((wys ks sg).take i).length ≤ 14 := by rw [List.length_take]; omega
    generalize (wys ks sg).take i = W at htk hlen ⊢
    generalize (wys ks sg).getD i dW = w at hwm htk ⊢
    have htx := O.tx w hwm
    have hbr := O.br 4 0 (by first | decide | omega) w hwm
    refine ⟨_, AsW.tup (ds := [w.sh.d, .str w.tx, .lst (w.br.map .int)]) hh (AsLW.cons (AsW.local_ rfl rfl) (AsLW.cons (AsW.local_ rfl rfl) (AsLW.cons (AsW.cell_ rfl rfl rfl) AsLW.nil))), ?_⟩
    let S1 (ah : Option Vl) (pg : List (Str × Vl)) : Sg := { loc := pg ++ ([("kinds", .d (kindsD ks)), ("shapes", .m 9), ("dues", .m 11), ("heads", .m 12), ("whole", .d (.str w.tx)), ("shape", .d w.sh.d)] : List (Str × Vl)), mu := muWays c ks sg ah (some (.d (.lst (w.br.map .int)))) W, cix := cixLaw }
    refine WS.le (σ₁ := S1 ah []) (Sle.to (by repeat (first | exact trivial | refine ⟨rfl, ?_⟩))) ?_
    have hx100 : w.tx.cps.toList.length ≤ 100 := by rw [Array.length_toList]; exact htx
    obtain ⟨fe, hfe, hie, hoke⟩ := esc_ok (x := w.tx.cps.toList) hx100 G' (hr'.le (by first | decide | omega))
    rw [strL_of] at hoke
    refine WS.step (σ₁ := S1 ah [("page", .d (.str (pageOf w)))]) (WX.assign_name (Ew.call (Ew.gval G' hfe) hie (EWs.cons EwA EWs.nil) rfl hoke) (AsW.local_ rfl rfl) ⟨rfl, Sle.to (by repeat (first | exact trivial | refine ⟨rfl, ?_⟩))⟩) ?_
    refine WS.step (σ₁ := S1 (some (.d (.lst ((aheadOf w).map .int)))) [("page", .d (.str (pageOf w)))]) (WX.assign_name (Ew.compL (c := cxIn c "law" _ L a code B Ia) (it := fun i => .int i) [("braced", .lst (w.br.map .int))] (fun i => .int ((w.br.countP (· == (i : Int)) : Nat) : Int)) ((aheadOf w).map .int)
      (ItW.range1 (n := 5) hh (Ew.callT (Ew.gblt G' (by decide +kernel) blt_range) (EWs.cons EwA EWs.nil) rfl fn_range1) rfl (by first | decide | omega) (by first | decide | omega)) rfl ⟨rfl, ⟨4, rfl, rfl⟩, trivial⟩ (by rw [sizeLine_eq]; omega) rfl
      (fun C B1 Ia1 j xs hj hB => Ew.methL EwA (EWs.cons EwA EWs.nil) OpN.count_int F.slot_list_count F.type_list_count) (by unfold aheadOf; rw [List.map_map]; rfl)) (AsW.cell_ rfl rfl rfl) ⟨rfl, Sle.to (by repeat (first | exact trivial | refine ⟨rfl, ?_⟩))⟩) ?_
    let S2 (mu : List MO) : Sg := { loc := [("page", .d (.str (pageOf w))), ("kinds", .d (kindsD ks)), ("shapes", .m 9), ("dues", .m 11), ("heads", .m 12), ("whole", .d (.str w.tx)), ("shape", .d w.sh.d)], mu := mu, cix := cixLaw }
    let AH : Option Vl := some (.d (.lst ((aheadOf w).map .int)))
    let BR : Option Vl := some (.d (.lst (w.br.map .int)))
    let shL (W : List Wy) : MO := .list ((W.map fun w => w.sh.d).map .d)
    let pgL (W : List Wy) : MO := .list ((W.map fun w => .str (pageOf w)).map .d)
    let duL (W : List Wy) : MO := .list ((W.map fun w => .str (dueOf ks sg w)).map .d)
    have hsh : ∀ W : List Wy, ((W.map fun w => w.sh.d).map Vl.d) ++ [Vl.d w.sh.d] = (((W ++ [w]).map fun w => w.sh.d).map .d) := fun W => by simp
    have hpg : ∀ W : List Wy, ((W.map fun w => D.str (pageOf w)).map Vl.d) ++ [Vl.d (.str (pageOf w))] = (((W ++ [w]).map fun w => D.str (pageOf w)).map .d) := fun W => by simp
    have hdu : ∀ W : List Wy, ((W.map fun w => D.str (dueOf ks sg w)).map Vl.d) ++ [Vl.d (.str (dueOf ks sg w))] = (((W ++ [w]).map fun w => D.str (dueOf ks sg w)).map .d) := fun W => by simp
    have hpl : ∀ (x : Str), x ∈ piecesOf ks sg w → x.length ≤ 110 := fun x hx => by
      obtain ⟨j, hj, rfl⟩ := List.mem_map.mp hx
      have hj5 := List.mem_range.mp hj
      have b := ahead_bd w hbr j hj5
      have b1 := wrS_len (sg.getD j 0)
      have b2 := mkAt_len ks j
      rw [pieceS_len]; omega
    have hps : ((piecesOf ks sg w).map (·.length)).sum ≤ 550 := by
      have : ∀ l : List Str, (∀ x ∈ l, x.length ≤ 110) → (l.map (·.length)).sum ≤ l.length * 110 := fun l => by
        induction l with
        | nil => intro _; simp
        | cons x l ih => intro h; have := ih fun y hy => h y (.tail _ hy); have := h x (.head _); simp; omega
      have := this _ hpl
      have h5 : (piecesOf ks sg w).length = 5 := by simp [piecesOf]
      omega
    refine WS.step (σ₁ := S2 (muLaw c ks sg AH BR (some (.m 10)) ++ [shL W, pgL W, duL (W ++ [w]), .sdict (headsOf W)])) (WX.expr (Ew.append (x := .d (.str (dueOf ks sg w))) EwA (Ew.methS Ew.str (EWs.cons (Ew.compL (c := cxIn c "law" _ L a code B Ia) (it := fun i => .int i)
      [("ahead", .lst ((aheadOf w).map .int)), ("marks", marksD ks), ("signs", signsD sg), ("written", .sd c.prog c.w writtenD)] (fun i => .str (pieceS ((aheadOf w).getD i 0) (sg.getD i 0) (mkAt ks i))) ((piecesOf ks sg w).map .str)
      (ItW.range1 (n := 5) hh (Ew.callT (Ew.gblt G' (by decide +kernel) blt_range) (EWs.cons EwA EWs.nil) rfl fn_range1) rfl (by first | decide | omega) (by first | decide | omega)) rfl ⟨rfl, ⟨3, rfl, rfl⟩, rfl, ⟨6, rfl, rfl⟩, rfl, ⟨8, rfl, rfl⟩, rfl, ⟨7, rfl, rfl⟩, trivial⟩ (by rw [sizeLine_eq]; omega) rfl
      ?helt (by unfold piecesOf; rw [List.map_map]; rfl)) EWs.nil) (OpN.join (by simp [piecesOf]) ?hj1 ?hj2) F.slot_str_join F.type_str_join) ⟨_, rfl⟩ rfl (by simp; omega)) ⟨rfl, Sle.to (by repeat (first | exact trivial | refine ⟨rfl, ?_⟩)) ?hmu⟩) ?_
    case hmu => exact congrArg (fun q => muLaw c ks sg AH BR (some (.m 10)) ++ [shL W, pgL W, .list q, .sdict (headsOf W)]) (hdu W)
    case hj1 =>
      have e0 : (Str.ofString "").length = 0 := by decide +kernel
      rw [e0]; omega
    case hj2 =>
      have e0 : (Str.ofString "").length = 0 := by decide +kernel
      show (Builtin.Str.glued ("" : Str) (piecesOf ks sg w)).length ≤ _
      rw [PySem.size_glued, e0]; omega
    case helt =>
      intro C B1 Ia1 j xs hj hB
      have b := ahead_bd w hbr j hj
      have hA : ((aheadOf w).map D.int)[((j : Int)).toNat]? = some (.int ((aheadOf w).getD j 0)) := by
        have : j < (aheadOf w).length := by simp [aheadOf]; exact hj
        rw [Int.toNat_natCast, List.getElem?_map, List.getD_eq_getElem?_getD, List.getElem?_eq_getElem this]; rfl
      have hS : (sg.map fun n => D.str (chS n))[((j : Int)).toNat]? = some (.str (chS (sg.getD j 0))) := by
        have : j < sg.length := by rw [O.sl]; exact hj
        rw [Int.toNat_natCast, List.getElem?_map, List.getD_eq_getElem?_getD, List.getElem?_eq_getElem this]; rfl
      have hM : ((ks.map fun k => D.str (chS (markN k))) ++ [.str ⟨#[]⟩])[((j : Int)).toNat]? = some (.str (mkAt ks j)) := by
        rw [Int.toNat_natCast]
        unfold mkAt
        by_cases h4 : j < 4
        · rw [if_pos h4, List.getElem?_append_left (by rw [List.length_map, O.kl]; exact h4), List.getElem?_map, List.getD_eq_getElem?_getD, List.getElem?_eq_getElem (by rw [O.kl]; exact h4)]; rfl
        · have : j = 4 := by omega
          subst this
          rw [if_neg h4, List.getElem?_append_right (by rw [List.length_map, O.kl]; omega), List.length_map, O.kl]; rfl
      have e1 : (Str.ofString "{").length ≤ 1000 := by decide +kernel
      have b1 := wrS_len (sg.getD j 0)
      have b2 := mkAt_len ks j
      have b3 := braceN_len ((aheadOf w).getD j 0).toNat
      refine Ew.bin (Ew.bin (Ew.bin Ew.str (Ew.sub EwA EwA (Op2.sub_lst (by first | decide | omega) (by first | decide | omega) hA)) (Op2.mul_str b.1 (by first | decide | omega) e1))
        (Ew.castV (Ew.meth EwA (EWs.cons (Ew.sub EwA EwA (Op2.sub_lst (by first | decide | omega) (by first | decide | omega) hS)) (EWs.cons (Ew.sub EwA EwA (Op2.sub_lst (by first | decide | omega) (by first | decide | omega) hS)) EWs.nil)) HasT.sd OpN.dget F.plainAttrs_dict F.slot_dict_get F.type_dict_get) (congrArg Vl.d (written_get (sg.getD j 0))))
        (Op2.add_str (by rw [strLen_append, b3, sizeLine_eq]; omega))) (Ew.sub EwA EwA (Op2.sub_lst (by first | decide | omega) (by first | decide | omega) hM)) (Op2.add_str (by rw [strLen_append, strLen_append, b3, sizeLine_eq]; omega))
    refine WS.step (σ₁ := S2 (muLaw c ks sg AH BR (some (.m 10)) ++ [shL (W ++ [w]), pgL W, duL (W ++ [w]), .sdict (headsOf W)])) (WX.expr (Ew.append (x := .d w.sh.d) EwA EwA ⟨_, rfl⟩ rfl (by simp; omega)) ⟨rfl, Sle.to (by repeat (first | exact trivial | refine ⟨rfl, ?_⟩)) ?hmu2⟩) ?_
    case hmu2 => exact congrArg (fun q => muLaw c ks sg AH BR (some (.m 10)) ++ [.list q, pgL W, duL (W ++ [w]), .sdict (headsOf W)]) (hsh W)
    refine WS.step (σ₁ := S2 (muLaw c ks sg AH BR (some (.m 10)) ++ [shL (W ++ [w]), pgL (W ++ [w]), duL (W ++ [w]), .sdict (headsOf W)])) (WX.expr (Ew.append (x := .d (.str (pageOf w))) EwA EwA ⟨_, rfl⟩ rfl (by simp; omega)) ⟨rfl, Sle.to (by repeat (first | exact trivial | refine ⟨rfl, ?_⟩)) ?hmu3⟩) ?_
    case hmu3 => exact congrArg (fun q => muLaw c ks sg AH BR (some (.m 10)) ++ [shL (W ++ [w]), .list q, duL (W ++ [w]), .sdict (headsOf W)]) (hpg W)
    have hl := headsOf_len W []
    refine WS.cons (WX.setS (k := 12) EwA EwA EwA rfl (by show (headsOf W).length ≤ _; unfold headsOf; simp at hl; omega) (WS.nil (LoopR.next ⟨sgWays c ks sg AH BR (W ++ [w]), Sle.to (by repeat (first | exact trivial | refine ⟨rfl, ?_⟩)) ?hmu4, AH, BR, by rw [htk]⟩)))
    case hmu4 => show _ = muWays c ks sg AH BR (W ++ [w]); unfold muWays; rw [headsOf_snoc]; rfl
  · rintro σ ⟨ah, br, rfl⟩
    exact WS.nil ⟨rfl, ah, br, by rw [List.take_length]; exact Sle.refl _⟩
end Mine
end TL3

section TL4
open PySem PySem.W PySem.Calls PyProof.Rows
set_option autoImplicit false
set_option linter.unusedVariables false
set_option Elab.async false
set_option maxRecDepth 100000
set_option maxHeartbeats 4000000
namespace Mine
variable {mg mb : Str → Option Value} {c : Cx}

noncomputable def pagesD (W : List Wy) : D := .lst ((W.map pageOf).map .str)
noncomputable def duesD (ks : List Int) (sg : List Nat) (W : List Wy) : D := .lst ((W.map (dueOf ks sg)).map .str)
noncomputable def shapesD (W : List Wy) : D := .lst ((W.map Wy.sh).map Sh.d)
noncomputable def muT (c : Cx) (ks : List Int) (sg : List Nat) (nw od kn ah br : Option Vl) (W : List Wy) : List MO :=
  [.cell nw, .cell od, .cell kn, .cell ah, .cell br, .cell (some (.d (pagesD W))), .cell (some (.d (marksD ks))), .cell (some (.d (.sd c.prog c.w writtenD))), .cell (some (.d (signsD sg))), .gone, .gone, .gone, .sdict (headsOf W)]
noncomputable def locT (ks : List Int) (sg : List Nat) (W : List Wy) : List (Str × Vl) := [("kinds", .d (kindsD ks)), ("shapes", .d (shapesD W)), ("dues", .d (duesD ks sg W)), ("heads", .m 12)]
noncomputable def sgT (c : Cx) (ks : List Int) (sg : List Nat) (nw od kn ah br : Option Vl) (W : List Wy) (l : List (Str × Vl)) : Sg := { loc := l ++ locT ks sg W, mu := muT c ks sg nw od kn ah br W, cix := cixLaw }

theorem TrW.castB {c : Cx} {σ σ₁ : Sg} {e : Expr} {b b' : Bool} (h : TrW c σ e b σ₁) (he : b = b') : TrW c σ e b' σ₁ := he ▸ h
theorem law_frz {c : Cx} {c' : Cx} {ks : List Int} {sg : List Nat} {ah br : Option Vl} {W : List Wy} : Sle c' (sgWays c ks sg ah br W) (sgT c ks sg none none none ah br W []) := by
  have e1 : D.lst (W.map fun w => w.sh.d) = shapesD W := by unfold shapesD; rw [List.map_map]; rfl
  have e2 : D.lst (W.map fun w => .str (pageOf w)) = pagesD W := by unfold pagesD; rw [List.map_map]; rfl
  have e3 : D.lst (W.map fun w => .str (dueOf ks sg w)) = duesD ks sg W := by unfold duesD; rw [List.map_map]; rfl
  have s1 : Sle c' (sgWays c ks sg ah br W) _ := Sle.frz (x := "shapes") (i := 9) (d := shapesD W) rfl rfl (e1 ▸ Frz.list rfl)
  refine s1.trans ?_
  refine Sle.trans (Sle.frzCell (x := "pages") (k := 5) (i := 10) (d := pagesD W) rfl rfl rfl (e2 ▸ Frz.list rfl)) ?_
  refine Sle.trans (Sle.frz (x := "dues") (i := 11) (d := duesD ks sg W) rfl rfl (e3 ▸ Frz.list rfl)) ?_
  exact Sle.to (by repeat (first | exact trivial | refine ⟨rfl, ?_⟩))

theorem law11 : LawSt 11 fun sc s => ∀ (c : Cx) (L a : Addr) (code : Value) (B Ia : Mp) (ks : List Int) (sg : List Nat) (ah br : Option Vl) (W : List Wy), GX mg mb (cxIn c "law" sc L a code B Ia) → Room (cxIn c "law" sc L a code B Ia).A 20 → W.length = 14 → ((headsOf W).map (·.1)).Nodup →
    WX (cxIn c "law" sc L a code B Ia) (sgT c ks sg none none none ah br W []) s fun fd σ' => fd = .next ∧ Sle (cxIn c "law" sc L a code B Ia) σ' (sgT c ks sg none none none ah br W [("rising", .d (.lst ((sortS ((headsOf W).map (·.1))).map .str)))]) := by
  refine ⟨_, _, _, _, rfl, rfl, ?_⟩
  intro c L a code B Ia ks sg ah br W G' hr' hW hnd
  have hh := hr'.handled
  have hl := headsOf_len W []
  have hl' : (headsOf W).length ≤ 14 := by unfold headsOf; simp at hl; omega
  have hcast : Vl.d (.lst ((headsOf W).map fun q => .str q.1)) = Vl.d (.lst (((headsOf W).map (·.1)).map .str)) := by rw [List.map_map]; rfl
  obtain ⟨f, hf, ⟨af, of, fd, rfl, hb, hd⟩, -⟩ := strxfrm_ok (x := "") G' (hr'.le (by first | decide | omega))
  refine WX.assign_name (Ew.sorted (Ew.gblt G' (by decide +kernel) blt_sorted) (Ew.castV (Ew.list_sdict (k := 12) (kvs := headsOf W) (Ew.gblt G' (by decide +kernel) blt_list) EwA rfl (by first | decide | omega) (hr'.le (by first | decide | omega)) G'.sysm hnd) hcast) (Ew.gval G' hf) ?_ (by rw [List.length_map]; omega)) (AsW.local_ rfl rfl) ⟨rfl, Sle.to (by repeat (first | exact trivial | refine ⟨rfl, ?_⟩))⟩
  intro x _
  obtain ⟨f', hf', -, hok⟩ := strxfrm_ok (mg := mg) (mb := mb) (c := { (cxIn c "law" _ L a code B Ia) with A := (cxIn c "law" _ L a code B Ia).A.in1.in1 }) (x := x) (G'.mono (Sub.refl _)) (((hr'.le (j := 4) (by first | decide | omega)).in1).in1)
  rw [hf] at hf'
  cases hf'
  exact hok

theorem law12 : LawSt 12 fun sc s => ∀ (c : Cx) (L a : Addr) (code : Value) (B Ia : Mp) (ks : List Int) (sg : List Nat) (ah br : Option Vl) (W : List Wy) (R : List Str), GX mg mb (cxIn c "law" sc L a code B Ia) → Room (cxIn c "law" sc L a code B Ia).A 20 → ks.length = 4 → R.length ≤ 1000 →
    (R.length : Int) = sumsFn (ks.map fun k => if k = 0 then 1 else 0) →
    WX (cxIn c "law" sc L a code B Ia) (sgT c ks sg none none none ah br W [("rising", .d (.lst (R.map .str)))]) s fun fd σ' => fd = .next ∧ Sle (cxIn c "law" sc L a code B Ia) σ' (sgT c ks sg none none none ah br W [("rising", .d (.lst (R.map .str)))]) := by
  refine ⟨_, _, _, _, rfl, rfl, ?_⟩
  intro c L a code B Ia ks sg ah br W R G' hr' hk hR hsum
  have hh := hr'.handled
  have hs : ∀ l : List Int, (l.map fun k => if k = 0 then (1 : Int) else 0).sum ≤ l.length := fun l => by
    induction l with
    | nil => simp
    | cons x l ih => simp only [List.map_cons, List.sum_cons, List.length_cons]; split <;> omega
  have hs4 := hs ks
  obtain ⟨f, hf, hi, hok⟩ := sums_ok (closing := ks.map fun k => if k = 0 then 1 else 0) G' (hr'.le (by first | decide | omega)) (fun x hx => by obtain ⟨k, _, rfl⟩ := List.mem_map.mp hx; split <;> omega) (by first | decide | omega)
  have hne : ((R.length : Int) != sumsFn (ks.map fun k => if k = 0 then 1 else 0)) = false := by rw [hsum]; simp
  have hlen : Vl.d (.int ((R.map D.str).length : Nat)) = Vl.d (.int (R.length : Nat)) := by rw [List.length_map]
  refine WX.if_f (TrW.castB (TrW.cmp (Ew.castV (Ew.callB (Ew.gblt G' (by decide +kernel) blt_len) (EWs.cons EwA EWs.nil) rfl (fn_len_lst (by rw [List.length_map]; omega))) hlen) (Ew.call (Ew.gval G' hf) hi (EWs.cons (Ew.compL (c := cxIn c "law" _ L a code B Ia) [] (fun i => .int (if ks.getD i 0 = 0 then 1 else 0)) ((ks.map fun k => if k = 0 then (1 : Int) else 0).map .int)
    (ItW.lstMap D.int ks 0 hh EwA) rfl trivial (by rw [hk, sizeLine_eq]; omega) rfl ?he (comp_items ks 0 (fun k => .int (if k = 0 then 1 else 0)) .int (fun k => if k = 0 then 1 else 0) fun _ => rfl)) EWs.nil) rfl hok) Op2.ne_int) hne) (WS.nil SN.mk)
  case he =>
    intro C B1 Ia1 i xs hi hB
    refine Ew.ifexp (b := (ks.getD i 0 == 0)) (TrW.cmp EwA EwA Op2.eq_int) (fun e => ?_) (fun e => ?_)
    · rw [if_pos (beq_iff_eq.mp e)]; exact EwA
    · rw [if_neg (beq_eq_false_iff_ne.mp e)]; exact EwA

noncomputable def kin0 : List Int := (List.range 14).map fun (i : Nat) => (i : Int)
theorem law13 : LawSt 13 fun sc s => ∀ (c : Cx) (L a : Addr) (code : Value) (B Ia : Mp) (ks : List Int) (sg : List Nat) (ah br : Option Vl) (W : List Wy) (l : List (Str × Vl)), GX mg mb (cxIn c "law" sc L a code B Ia) → Room (cxIn c "law" sc L a code B Ia).A 20 →
    WX (cxIn c "law" sc L a code B Ia) (sgT c ks sg none none none ah br W l) s fun fd σ' => fd = .next ∧ Sle (cxIn c "law" sc L a code B Ia) σ' (sgT c ks sg none none (some (.d (.lst (kin0.map .int)))) ah br W l) := by
  refine ⟨_, _, _, _, rfl, rfl, ?_⟩
  intro c L a code B Ia ks sg ah br W l G' hr'
  have hk : ((List.range ((14 : Int) - 0).toNat).map fun (i : Nat) => D.int (0 + (i : Int))) = kin0.map .int := by
    unfold kin0; rw [List.map_map]; exact List.map_congr_left fun i _ => by simp
  exact WX.assign_name (Ew.castV (Ew.callT (Ew.gblt G' (by decide +kernel) blt_list) (EWs.cons (Ew.callT (Ew.gblt G' (by decide +kernel) blt_range) (EWs.cons EwA EWs.nil) rfl fn_range1) EWs.nil) rfl (fn_list_rng (hr'.le (by first | decide | omega)) (by first | decide | omega) (by first | decide | omega) (by first | decide | omega))) (congrArg (fun q => Vl.d (.lst q)) hk)) (AsW.cell_ rfl rfl rfl) SN.mk
end Mine
end TL4

section TL5
open PySem PySem.W PySem.Calls PyProof.Rows
set_option autoImplicit false
set_option linter.unusedVariables false
set_option Elab.async false
set_option maxRecDepth 100000
set_option maxHeartbeats 4000000
namespace Mine
variable {mg mb : Str → Option Value} {c : Cx}

noncomputable def dSh : Sh := .leaf 0
noncomputable def shAt (W : List Wy) (i : Nat) : Sh := (W.map Wy.sh).getD i dSh
noncomputable def kinStep (W : List Wy) (i : Nat) (kin : List Int) (o : Sh) : List Int := kin.map fun m => if m = kin.getD ((W.map Wy.sh).findIdx (·.eqb o)) 0 then kin.getD i 0 else m
noncomputable def kinSpot (ks : List Int) (W : List Wy) (kin : List Int) (i : Nat) : List Int := (turnFn ks (shAt W i)).foldl (kinStep W i) kin
noncomputable def kinRun (ks : List Int) (W : List Wy) (n : Nat) : List Int := (List.range n).foldl (kinSpot ks W) kin0
structure TurnOk (ks : List Int) (W : List Wy) : Prop where
  ok : ∀ i, i < 14 → (shAt W i).gapsOk ks.length = true ∧ (shAt W i).depth ≤ 4 ∧ (turnFn ks (shAt W i)).length ≤ 100 ∧ ∀ o ∈ turnFn ks (shAt W i), o.depth ≤ 60 ∧ (W.map Wy.sh).findIdx (·.eqb o) < 14
theorem kinStep_len (W : List Wy) (i : Nat) (kin : List Int) (o : Sh) : (kinStep W i kin o).length = kin.length := List.length_map ..
theorem kinFold_len (W : List Wy) (i : Nat) : ∀ (l : List Sh) (kin : List Int), (l.foldl (kinStep W i) kin).length = kin.length
  | [], kin => rfl
  | o :: l, kin => by rw [List.foldl_cons, kinFold_len W i l, kinStep_len]
theorem kinRun_len (ks : List Int) (W : List Wy) (n : Nat) : (kinRun ks W n).length = 14 := by
  induction n with
  | zero => rfl
  | succ n ih => unfold kinRun at ih ⊢; rw [List.range_succ, List.foldl_append]; show (kinSpot ks W _ n).length = 14; unfold kinSpot; rw [kinFold_len]; exact ih

theorem law14 : LawSt 14 fun sc s => ∀ (c : Cx) (L a : Addr) (code : Value) (B Ia : Mp) (ks : List Int) (sg : List Nat) (ah br : Option Vl) (W : List Wy) (rD : D), GX mg mb (cxIn c "law" sc L a code B Ia) → Room (cxIn c "law" sc L a code B Ia).A 40 → W.length = 14 → ks.length = 4 → TurnOk ks W →
    WX (cxIn c "law" sc L a code B Ia) (sgT c ks sg none none (some (.d (.lst (kin0.map .int)))) ah br W [("rising", .d rD)]) s fun fd σ' => fd = .next ∧
      ∃ nw od, Sle (cxIn c "law" sc L a code B Ia) σ' (sgT c ks sg nw od (some (.d (.lst ((kinRun ks W 14).map .int)))) ah br W [("rising", .d rD)]) := by
  refine ⟨_, _, _, _, rfl, rfl, ?_⟩
  intro c L a code B Ia ks sg ah br W rD G' hr' hW hk T
  have hh := hr'.handled
  let S (nw od : Option Vl) (kin : List Int) (l : List (Str × Vl)) : Sg := sgT c ks sg nw od (some (.d (.lst (kin.map .int)))) ah br W l
  refine WX.for_ (it := fun i => .int i) (fun i σ => ∃ nw od, σ = S nw od (kinRun ks W i) [("rising", .d rD)]) (ItW.range1 (n := 14) hh (Ew.callT (Ew.gblt G' (by decide +kernel) blt_range) (EWs.cons EwA EWs.nil) rfl fn_range1) rfl (by first | decide | omega) (by first | decide | omega)) ⟨_, Sle.refl _, none, none, rfl⟩ ?_ ?_
  · rintro i σ hi ⟨nw, od, rfl⟩
    refine ⟨_, AsW.local_ rfl rfl, ?_⟩
    obtain ⟨t1, t2, t3, t4⟩ := T.ok i hi
    have hlen := kinRun_len ks W i
    have hnext : kinRun ks W (i + 1) = kinSpot ks W (kinRun ks W i) i := by unfold kinRun; rw [List.range_succ, List.foldl_append]; rfl
    obtain ⟨f, hf, hi', hok⟩ := turned_ok ks (by first | decide | omega) (shAt W i) G' (hr'.le (by first | decide | omega)) t1 (by first | decide | omega) fun _ _ => trivial
    have hsh : ((W.map Wy.sh).map Sh.d)[((i : Int)).toNat]? = some (shAt W i).d := by
      have : i < (W.map Wy.sh).length := by rw [List.length_map, hW]; exact hi
      rw [Int.toNat_natCast, List.getElem?_map, List.getElem?_eq_getElem this]
      unfold shAt
      rw [List.getD_eq_getElem?_getD, List.getElem?_eq_getElem this]; rfl
    refine WS.cons (WX.for_ (fun j σ => ∃ nw od, σ = S nw od (((turnFn ks (shAt W i)).take j).foldl (kinStep W i) (kinRun ks W i)) [("rising", .d rD), ("spot", .d (.int i))])
      (ItW.lstMap Sh.d (turnFn ks (shAt W i)) dSh hh (Ew.call (Ew.gval G' hf) hi' (EWs.cons (Ew.sub EwA EwA (Op2.sub_lst (by first | decide | omega) (by first | decide | omega) hsh)) (EWs.cons EwA EWs.nil)) rfl hok)) ⟨S nw od (kinRun ks W i) [("rising", .d rD), ("spot", .d (.int i))], Sle.to (by repeat (first | exact trivial | refine ⟨rfl, ?_⟩)), nw, od, rfl⟩ ?_ ?_)
    · rintro j σ hj ⟨nw, od, rfl⟩
      refine ⟨_, AsW.local_ rfl rfl, ?_⟩
      have htk := Mine.take_snoc dSh hj
      have hom : (turnFn ks (shAt W i)).getD j dSh ∈ turnFn ks (shAt W i) := by rw [List.getD_eq_getElem?_getD, List.getElem?_eq_getElem hj]; exact List.getElem_mem hj
      obtain ⟨o1, o2⟩ := t4 _ hom
      have hkl := kinFold_len W i ((turnFn ks (shAt W i)).take j) (kinRun ks W i)
      rw [hlen] at hkl
      have hfold : ((turnFn ks (shAt W i)).take (j + 1)).foldl (kinStep W i) (kinRun ks W i) = kinStep W i (((turnFn ks (shAt W i)).take j).foldl (kinStep W i) (kinRun ks W i)) ((turnFn ks (shAt W i)).getD j dSh) := by rw [htk, List.foldl_append]; rfl
      generalize ((turnFn ks (shAt W i)).take j).foldl (kinStep W i) (kinRun ks W i) = kin at hkl hfold ⊢
      generalize (turnFn ks (shAt W i)).getD j dSh = o at o1 o2 hfold ⊢
      have hget : ∀ n : Nat, n < 14 → (kin.map D.int)[((n : Int)).toNat]? = some (.int (kin.getD n 0)) := fun n hn => by
        have : n < kin.length := by omega
        rw [Int.toNat_natCast, List.getElem?_map, List.getD_eq_getElem?_getD, List.getElem?_eq_getElem this]; rfl
      have hix := hget _ o2
      have hii := hget i hi
      let S2 (nw od : Option Vl) (kin : List Int) : Sg := S nw od kin [("rising", .d rD), ("spot", .d (.int i)), ("other", .d o.d)]
      refine WS.step (σ₁ := S2 nw (some (.d (.int (kin.getD ((W.map Wy.sh).findIdx (·.eqb o)) 0)))) kin) (WX.assign_name (Ew.sub EwA (Ew.methL EwA (EWs.cons EwA EWs.nil) (OpN.index_sh (hr'.le (by first | decide | omega)) o1 (by rw [List.length_map, hW]; exact o2) (by rw [List.length_map]; omega)) F.slot_list_index F.type_list_index) (Op2.sub_lst (by first | decide | omega) (by first | decide | omega) hix)) (AsW.cell_ rfl rfl rfl) ⟨rfl, Sle.to (by repeat (first | exact trivial | refine ⟨rfl, ?_⟩))⟩) ?_
      refine WS.step (σ₁ := S2 (some (.d (.int (kin.getD i 0)))) (some (.d (.int (kin.getD ((W.map Wy.sh).findIdx (·.eqb o)) 0)))) kin) (WX.assign_name (Ew.sub EwA EwA (Op2.sub_lst (by first | decide | omega) (by first | decide | omega) hii)) (AsW.cell_ rfl rfl rfl) ⟨rfl, Sle.to (by repeat (first | exact trivial | refine ⟨rfl, ?_⟩))⟩) ?_
      refine WS.cons (WX.assign_name (Ew.compL (c := cxIn c "law" _ L a code B Ia) [("new", .int (kin.getD i 0)), ("old", .int (kin.getD ((W.map Wy.sh).findIdx (·.eqb o)) 0))] (fun n => .int (if kin.getD n 0 = kin.getD ((W.map Wy.sh).findIdx (·.eqb o)) 0 then kin.getD i 0 else kin.getD n 0)) ((kinStep W i kin o).map .int)
        (ItW.lstMap D.int kin 0 hh EwA) rfl ⟨rfl, ⟨0, rfl, rfl⟩, rfl, ⟨1, rfl, rfl⟩, trivial⟩ (by rw [sizeLine_eq]; omega) rfl ?he (comp_items kin 0 (fun m => .int (if m = kin.getD ((W.map Wy.sh).findIdx (·.eqb o)) 0 then kin.getD i 0 else m)) .int (fun m => if m = kin.getD ((W.map Wy.sh).findIdx (·.eqb o)) 0 then kin.getD i 0 else m) fun _ => rfl)) (AsW.cell_ rfl rfl rfl)
        (WS.nil (LoopR.next ⟨S (some (.d (.int (kin.getD i 0)))) (some (.d (.int (kin.getD ((W.map Wy.sh).findIdx (·.eqb o)) 0)))) (kinStep W i kin o) [("rising", .d rD), ("spot", .d (.int i))], Sle.to (by repeat (first | exact trivial | refine ⟨rfl, ?_⟩)), _, _, by rw [hfold]⟩)))
      case he =>
        intro C B1 Ia1 n xs hn hB
        refine Ew.ifexp (b := (kin.getD n 0 == kin.getD ((W.map Wy.sh).findIdx (·.eqb o)) 0)) (TrW.cmp EwA EwA Op2.eq_int) (fun e => ?_) (fun e => ?_)
        · rw [if_pos (beq_iff_eq.mp e)]; exact EwA
        · rw [if_neg (beq_eq_false_iff_ne.mp e)]; exact EwA
    · rintro σ ⟨nw, od, rfl⟩
      refine WS.nil (WS.nil (LoopR.next ⟨S nw od (kinRun ks W (i + 1)) [("rising", .d rD)], Sle.to (by repeat (first | exact trivial | refine ⟨rfl, ?_⟩)) ?_, nw, od, rfl⟩))
      rw [List.take_length, hnext]; rfl
  · rintro σ ⟨nw, od, rfl⟩
    exact WS.nil ⟨rfl, nw, od, Sle.refl _⟩
end Mine
end TL5

section TL6
open PySem PySem.W PySem.Calls PyProof.Rows
set_option autoImplicit false
set_option linter.unusedVariables false
set_option Elab.async false
set_option maxRecDepth 100000
set_option maxHeartbeats 4000000
namespace Mine
variable {mg mb : Str → Option Value} {c : Cx}

noncomputable def idxI (l : List Int) : List Int := l.map fun m => ((l.findIdx (· == m) : Nat) : Int)
noncomputable def idxS (l : List Str) : List Int := l.map fun m => ((l.findIdx (· == m) : Nat) : Int)
theorem findIdx_mem_lt {α : Type} [BEq α] [LawfulBEq α] {l : List α} {x : α} (h : x ∈ l) : l.findIdx (· == x) < l.length := List.findIdx_lt_length_of_exists ⟨x, h, beq_self_eq_true x⟩
theorem getD_mem' {α : Type} {l : List α} {i : Nat} (a0 : α) (h : i < l.length) : l.getD i a0 ∈ l := by
  rw [List.getD_eq_getElem?_getD, List.getElem?_eq_getElem h]; exact List.getElem_mem h

theorem law15 : LawSt 15 fun sc s => ∀ (c : Cx) (L a : Addr) (code : Value) (B Ia : Mp) (ks : List Int) (sg : List Nat) (nw od ah br : Option Vl) (W : List Wy) (rD : D) (kin : List Int), Room (cxIn c "law" sc L a code B Ia).A 40 → W.length = 14 → kin.length = 14 → idxS (W.map pageOf) = idxI kin →
    WX (cxIn c "law" sc L a code B Ia) (sgT c ks sg nw od (some (.d (.lst (kin.map .int)))) ah br W [("rising", .d rD)]) s fun fd σ' => fd = .next ∧
      Sle (cxIn c "law" sc L a code B Ia) σ' (sgT c ks sg nw od (some (.d (.lst (kin.map .int)))) ah br W [("rising", .d rD)]) := by
  refine ⟨_, _, _, _, rfl, rfl, ?_⟩
  intro c L a code B Ia ks sg nw od ah br W rD kin hr' hW hk heq
  have hh := hr'.handled
  have hn : (W.map pageOf).length = 14 := by rw [List.length_map, hW]
  have hne : (idxS (W.map pageOf) != idxI kin) = false := by rw [heq]; simp
  refine WX.if_f (TrW.castB (TrW.cmp
    (Ew.compL (c := cxIn c "law" _ L a code B Ia) [("pages", pagesD W)] (fun n => .int (((W.map pageOf).findIdx (· == (W.map pageOf).getD n "") : Nat) : Int)) ((idxS (W.map pageOf)).map .int) (ItW.lstMap D.str (W.map pageOf) "" hh EwA) rfl ⟨rfl, ⟨5, rfl, rfl⟩, trivial⟩ (by rw [sizeLine_eq]; omega) rfl ?h1
      (comp_items (W.map pageOf) "" (fun m => .int (((W.map pageOf).findIdx (· == m) : Nat) : Int)) .int (fun m => (((W.map pageOf).findIdx (· == m) : Nat) : Int)) fun _ => rfl))
    (Ew.compL (c := cxIn c "law" _ L a code B Ia) [("kin", .lst (kin.map .int))] (fun n => .int ((kin.findIdx (· == kin.getD n 0) : Nat) : Int)) ((idxI kin).map .int) (ItW.lstMap D.int kin 0 hh EwA) rfl ⟨rfl, ⟨2, rfl, rfl⟩, trivial⟩ (by rw [sizeLine_eq]; omega) rfl ?h2
      (comp_items kin 0 (fun m => .int ((kin.findIdx (· == m) : Nat) : Int)) .int (fun m => ((kin.findIdx (· == m) : Nat) : Int)) fun _ => rfl)) (Op2.ne_ints (hr'.le (by first | decide | omega)))) hne) (WS.nil SN.mk)
  case h1 =>
    intro C B1 Ia1 n xs hn' hB
    exact Ew.methL EwA (EWs.cons EwA EWs.nil) (OpN.index_str (findIdx_mem_lt (getD_mem' ("" : Str) hn')) (by first | decide | omega)) F.slot_list_index F.type_list_index
  case h2 =>
    intro C B1 Ia1 n xs hn' hB
    exact Ew.methL EwA (EWs.cons EwA EWs.nil) (OpN.index_int (findIdx_mem_lt (getD_mem' 0 hn')) (by first | decide | omega)) F.slot_list_index F.type_list_index

theorem law16 : LawSt 16 fun sc s => ∀ (c : Cx) (L a : Addr) (code : Value) (B Ia : Mp) (ks : List Int) (sg : List Nat) (nw od kn ah br : Option Vl) (W : List Wy) (rD : D), Room (cxIn c "law" sc L a code B Ia).A 40 → W.map pageOf = W.map (dueOf ks sg) →
    WX (cxIn c "law" sc L a code B Ia) (sgT c ks sg nw od kn ah br W [("rising", .d rD)]) s fun fd σ' => fd = .next ∧ Sle (cxIn c "law" sc L a code B Ia) σ' (sgT c ks sg nw od kn ah br W [("rising", .d rD)]) := by
  refine ⟨_, _, _, _, rfl, rfl, ?_⟩
  intro c L a code B Ia ks sg nw od kn ah br W rD hr' heq
  have hne : (W.map pageOf != W.map (dueOf ks sg)) = false := by rw [heq]; simp
  exact WX.if_f (TrW.castB (TrW.cmp EwA EwA (Op2.ne_strs (hr'.le (by first | decide | omega)))) hne) (WS.nil SN.mk)

structure MadeOk (sg : List Nat) (pages : List Str) (p : Str) : Prop where
  ok : ∃ (P : List Pc) (s' : Md), (∀ x ∈ P, x.ok = true) ∧ (flat P).length ≤ 800 ∧ P.length ≤ 800 ∧ p = strL (flat P) ∧ (Md.mk [[]] [] 1).run (P.map Pc.sym ++ [0]) = some s' ∧ s'.fin (sg.map fun (n : Nat) => (n : Int)) = ((pages.countP (· == p) : Nat) : Int)
theorem coll_self (p : Str) : collFn p p = 0 := by unfold collFn; simp [b2i]
theorem law17 : LawSt 17 fun sc s => ∀ (c : Cx) (L a : Addr) (code : Value) (B Ia : Mp) (ks : List Int) (sg : List Nat) (nw od kn ah br : Option Vl) (W : List Wy) (R : List Str), GX mg mb (cxIn c "law" sc L a code B Ia) → Room (cxIn c "law" sc L a code B Ia).A 40 → W.length = 14 → sg.length = 5 → R.length ≤ 1000 →
    (∀ p ∈ R, MadeOk sg (W.map pageOf) p) →
    WX (cxIn c "law" sc L a code B Ia) (sgT c ks sg nw od kn ah br W [("rising", .d (.lst (R.map .str)))]) s fun fd σ' => fd = .next ∧ Sle (cxIn c "law" sc L a code B Ia) σ' (sgT c ks sg nw od kn ah br W [("rising", .d (.lst (R.map .str)))]) := by
  refine ⟨_, _, _, _, rfl, rfl, ?_⟩
  intro c L a code B Ia ks sg nw od kn ah br W R G' hr' hW hsg hR hm
  have hh := hr'.handled
  let S (l : List (Str × Vl)) : Sg := sgT c ks sg nw od kn ah br W (("rising", .d (.lst (R.map .str))) :: l)
  refine WX.for_ (fun i σ => σ = S []) (ItW.lstMap D.str R "" hh EwA) ⟨_, Sle.refl _, rfl⟩ ?_ ?_
  · rintro i σ hi rfl
    refine ⟨_, AsW.local_ rfl rfl, ?_⟩
    have hp := hm _ (getD_mem' ("" : Str) hi)
    generalize R.getD i "" = p at hp ⊢
    obtain ⟨⟨P, s', h1, h2, h3, h4, h5, h6⟩⟩ := hp
    subst h4
    refine WS.le (σ₁ := S [("page", .d (.str (strL (flat P))))]) (Sle.to (by repeat (first | exact trivial | refine ⟨rfl, ?_⟩))) ?_
    obtain ⟨f1, hf1, hi1, hok1⟩ := read_ok h1 (by first | decide | omega) G' (hr'.le (by first | decide | omega))
    obtain ⟨f2, hf2, hi2, hok2⟩ := made_ok (signs := sg) h5 (by simp; omega) (by first | decide | omega) G' (hr'.le (by first | decide | omega))
    obtain ⟨f3, hf3, hi3, hok3⟩ := strcoll_ok (x := strL (flat P)) (y := strL (flat P)) G' (hr'.le (by first | decide | omega))
    have hb1 : (s'.fin (sg.map fun (n : Nat) => (n : Int)) != (((W.map pageOf).countP (· == strL (flat P)) : Nat) : Int)) = false := by rw [h6]; simp
    have hb2 : (collFn (strL (flat P)) (strL (flat P)) != 0) = false := by rw [coll_self]; rfl
    exact WS.cons (WX.if_f (TrW.or_f (TrW.castB (TrW.cmp (Ew.call (Ew.gval G' hf2) hi2 (EWs.cons (Ew.call (Ew.gval G' hf1) hi1 (EWs.cons EwA EWs.nil) rfl hok1) (EWs.cons EwA EWs.nil)) rfl hok2)
      (Ew.methL EwA (EWs.cons EwA EWs.nil) OpN.count_str F.slot_list_count F.type_list_count) Op2.ne_int) hb1)
      (TrW.or_f (TrW.castB (TrW.cmp (Ew.call (Ew.gval G' hf3) hi3 (EWs.cons EwA (EWs.cons EwA EWs.nil)) rfl hok3) EwA Op2.ne_int) hb2) TrW.or_nil)) (WS.nil (WS.nil (LoopR.next ⟨S [], Sle.to (by repeat (first | exact trivial | refine ⟨rfl, ?_⟩)), rfl⟩))))
  · rintro σ rfl
    exact WS.nil SN.mk

structure RiseOk (kv : List (Str × D)) (x y : Str) : Prop where
  ok : ∃ a b : List Int, kv.lookup x = some (.lst (a.map .int)) ∧ kv.lookup y = some (.lst (b.map .int)) ∧ a.length = b.length ∧ geI a b = false ∧ collFn x y = -1 ∧ collFn y x = 1
theorem law18 : LawSt 18 fun sc s => ∀ (c : Cx) (L a : Addr) (code : Value) (B Ia : Mp) (ks : List Int) (sg : List Nat) (nw od kn ah br : Option Vl) (W : List Wy) (R : List Str), GX mg mb (cxIn c "law" sc L a code B Ia) → Room (cxIn c "law" sc L a code B Ia).A 40 → R.length ≤ 1000 →
    (∀ i, i + 1 < R.length → RiseOk (headsOf W) (R.getD i "") (R.getD (i + 1) "")) →
    WX (cxIn c "law" sc L a code B Ia) (sgT c ks sg nw od kn ah br W [("rising", .d (.lst (R.map .str)))]) s fun fd σ' => fd = .next ∧ Sle (cxIn c "law" sc L a code B Ia) σ' (sgT c ks sg nw od kn ah br W [("rising", .d (.lst (R.map .str)))]) := by
  refine ⟨_, _, _, _, rfl, rfl, ?_⟩
  intro c L a code B Ia ks sg nw od kn ah br W R G' hr' hR hm
  have hh := hr'.handled
  have hlen : Vl.d (.int ((R.map D.str).length : Nat)) = Vl.d (.int (R.length : Nat)) := by rw [List.length_map]
  let S (l : List (Str × Vl)) : Sg := sgT c ks sg nw od kn ah br W (("rising", .d (.lst (R.map .str))) :: l)
  refine WX.for_ (fun i σ => σ = S []) (ItW.rng (x := 1) (b := (R.length : Nat)) hh (Ew.callT (Ew.gblt G' (by decide +kernel) blt_range) (EWs.cons EwA (EWs.cons (Ew.castV (Ew.callB (Ew.gblt G' (by decide +kernel) blt_len) (EWs.cons EwA EWs.nil) rfl (fn_len_lst (by rw [List.length_map]; omega))) hlen) EWs.nil)) rfl fn_range2) (by first | decide | omega) (by first | decide | omega) (by first | decide | omega) (by first | decide | omega)) ⟨_, Sle.refl _, rfl⟩ ?_ ?_
  · rintro i σ hi rfl
    refine ⟨_, AsW.local_ rfl rfl, ?_⟩
    have hi' : i + 1 < R.length := by omega
    obtain ⟨⟨a', b', k1, k2, k3, k4, k5, k6⟩⟩ := hm i hi'
    have g1 : (R.map D.str)[((1 : Int) + (i : Int) - 1).toNat]? = some (.str (R.getD i "")) := by
      have e : ((1 : Int) + (i : Int) - 1).toNat = i := by omega
      rw [e, List.getElem?_map, List.getD_eq_getElem?_getD, List.getElem?_eq_getElem (by omega : i < R.length)]; rfl
    have g2 : (R.map D.str)[((1 : Int) + (i : Int)).toNat]? = some (.str (R.getD (i + 1) "")) := by
      have e : ((1 : Int) + (i : Int)).toNat = i + 1 := by omega
      rw [e, List.getElem?_map, List.getD_eq_getElem?_getD, List.getElem?_eq_getElem hi']; rfl
    generalize R.getD i "" = x at k1 k5 k6 g1
    generalize R.getD (i + 1) "" = y at k2 k5 k6 g2
    refine WS.le (σ₁ := S [("spot", .d (.int (1 + (i : Int))))]) (Sle.to (by repeat (first | exact trivial | refine ⟨rfl, ?_⟩))) ?_
    refine WS.step (σ₁ := S [("spot", .d (.int (1 + (i : Int)))), ("below", .d (.str x))]) (WX.assign_name (Ew.sub EwA EwA (Op2.sub_lst (by first | decide | omega) (by first | decide | omega) g1)) (AsW.local_ rfl rfl) ⟨rfl, Sle.to (by repeat (first | exact trivial | refine ⟨rfl, ?_⟩))⟩) ?_
    refine WS.step (σ₁ := S [("spot", .d (.int (1 + (i : Int)))), ("below", .d (.str x)), ("above", .d (.str y))]) (WX.assign_name (Ew.sub EwA EwA (Op2.sub_lst (by first | decide | omega) (by first | decide | omega) g2)) (AsW.local_ rfl rfl) ⟨rfl, Sle.to (by repeat (first | exact trivial | refine ⟨rfl, ?_⟩))⟩) ?_
    obtain ⟨f1, hf1, hi1, hok1⟩ := strcoll_ok (x := x) (y := y) G' (hr'.le (by first | decide | omega))
    obtain ⟨f2, hf2, hi2, hok2⟩ := strcoll_ok (x := y) (y := x) G' (hr'.le (by first | decide | omega))
    rw [hf1] at hf2
    cases hf2
    have hb1 : (collFn x y != -1) = false := by rw [k5]; rfl
    have hb2 : (collFn y x != 1) = false := by rw [k6]; rfl
    exact WS.cons (WX.if_f (TrW.or_f (TrW.castB (TrW.cmp (Ew.sub EwA EwA (Op2.sub_sdict (k := 12) rfl k1)) (Ew.sub EwA EwA (Op2.sub_sdict (k := 12) rfl k2)) (Op2.ge_ints (hr'.le (by first | decide | omega)) k3)) k4)
      (TrW.or_f (TrW.castB (TrW.cmp (Ew.call (Ew.gval G' hf1) hi1 (EWs.cons EwA (EWs.cons EwA EWs.nil)) rfl hok1) EwA Op2.ne_int) hb1)
      (TrW.or_f (TrW.castB (TrW.cmp (Ew.call (Ew.gval G' hf1) hi2 (EWs.cons EwA (EWs.cons EwA EWs.nil)) rfl hok2) EwA Op2.ne_int) hb2) TrW.or_nil))) (WS.nil (WS.nil (LoopR.next ⟨S [], Sle.to (by repeat (first | exact trivial | refine ⟨rfl, ?_⟩)), rfl⟩))))
  · rintro σ rfl
    exact WS.nil SN.mk

theorem law19 : LawSt 19 fun sc s => ∀ (c : Cx) (L a : Addr) (code : Value) (B Ia : Mp) (σ : Sg), WX (cxIn c "law" sc L a code B Ia) σ s fun fd σ' => fd = .ret (.d (.bool true)) := by
  refine ⟨_, _, _, _, rfl, rfl, ?_⟩
  intro c L a code B Ia σ
  exact WX.ret EwA rfl
end Mine
end TL6

section TL7
open PySem PySem.W PySem.Calls PyProof.Rows
set_option autoImplicit false
set_option linter.unusedVariables false
set_option Elab.async false
set_option maxRecDepth 100000
set_option maxHeartbeats 4000000
namespace Mine
variable {mg mb : Str → Option Value} {c : Cx}

/-- the signs that a cell can tell -/
noncomputable def SgOk (n : Nat) : Prop := n = 38 ∨ n = 60 ∨ n = 62 ∨ n = 13 ∨ (97 ≤ n ∧ n ≤ 122)
noncomputable def risingOf (W : List Wy) : List Str := sortS ((headsOf W).map (·.1))
structure PlainOk (ks : List Int) (sg : List Nat) : Prop where
  ways : WaysOk ks sg
  due : (wys ks sg).map pageOf = (wys ks sg).map (dueOf ks sg)
  nd : ((headsOf (wys ks sg)).map (·.1)).Nodup
  len : ((risingOf (wys ks sg)).length : Int) = sumsFn (ks.map fun k => if k = 0 then 1 else 0)
  turn : TurnOk ks (wys ks sg)
  kin : idxS ((wys ks sg).map pageOf) = idxI (kinRun ks (wys ks sg) 14)
  made : ∀ p ∈ risingOf (wys ks sg), MadeOk sg ((wys ks sg).map pageOf) p
  rise : ∀ i, i + 1 < (risingOf (wys ks sg)).length → RiseOk (headsOf (wys ks sg)) ((risingOf (wys ks sg)).getD i "") ((risingOf (wys ks sg)).getD (i + 1) "")

theorem LawSt.get {i : Nat} {P : Scope → Stmt → Prop} (h : LawSt i P) {ps : Arguments} {bd : List Stmt} {sc : Scope} (e : pw.theDef "law" = some (ps, bd, sc)) : ∃ s, bd[i]? = some s ∧ P sc s := by
  obtain ⟨ps', bd', sc', s, e', g, p⟩ := h
  have := e.symm.trans e'
  injection this with this
  injection this with h1 h2
  injection h2 with h2 h3
  subst h1 h2 h3
  exact ⟨s, g, p⟩
theorem drop_of {α : Type} {l : List α} {i : Nat} {x : α} (h : l[i]? = some x) : l.drop i = x :: l.drop (i + 1) := by
  obtain ⟨hi, e⟩ := List.getElem?_eq_some_iff.mp h
  rw [List.drop_eq_getElem_cons hi, e]
theorem WS.at_ {c : Cx} {σ σ₁ : Sg} {R : FD → Sg → Prop} {bd : List Stmt} {i : Nat} {s : Stmt} (g : bd[i]? = some s) (h : WX c σ s fun fd σ' => fd = .next ∧ Sle c σ' σ₁) (k : WS c σ₁ (bd.drop (i + 1)) R) : WS c σ (bd.drop i) R := by
  rw [drop_of g]; exact WS.step h k
theorem WS.atX {c : Cx} {σ : Sg} {R : FD → Sg → Prop} {bd : List Stmt} {i : Nat} {s : Stmt} {Q : Sg → Prop} (g : bd[i]? = some s) (h : WX c σ s fun fd σ' => fd = .next ∧ Q σ') (k : ∀ σ', Q σ' → WS c σ' (bd.drop (i + 1)) R) : WS c σ (bd.drop i) R := by
  rw [drop_of g]; exact WS.cons (h.mono fun fd σ' ⟨e, q⟩ => by subst e; exact k σ' q)

theorem law_walk (hP : ∀ (ks : List Int) (sg : List Nat), ks.length = 4 → (∀ k ∈ ks, 0 ≤ k ∧ k ≤ 2) → sg.length = 5 → (∀ n ∈ sg, SgOk n) → PlainOk ks sg) {ps : Arguments} {bd : List Stmt} {sc : Scope} (e : pw.theDef "law" = some (ps, bd, sc))
    (c : Cx) (L a : Addr) (code : Value) (B Ia : Mp) (xs : List Int) (G' : GX mg mb (cxIn c "law" sc L a code B Ia)) (hr' : Room (cxIn c "law" sc L a code B Ia).A 40) (hxs : xs.length ≤ 1000) :
    Ws (cxIn c "law" sc L a code B Ia) { loc := [("script", .d (.lst (xs.map .int)))], mu := cells9, cix := cixLaw } bd (RetIs (.bool true)) := by
  obtain ⟨s0, g0, p0⟩ := LawSt.get law0 e
  obtain ⟨s1, g1, p1⟩ := LawSt.get (law1 (mg := mg) (mb := mb)) e
  obtain ⟨s2, g2, p2⟩ := LawSt.get law2 e
  obtain ⟨s3, g3, p3⟩ := LawSt.get (law3 (mg := mg) (mb := mb)) e
  obtain ⟨s4, g4, p4⟩ := LawSt.get (law4 (mg := mg) (mb := mb)) e
  obtain ⟨s5, g5, p5⟩ := LawSt.get law5 e
  obtain ⟨s6, g6, p6⟩ := LawSt.get law6 e
  obtain ⟨s7, g7, p7⟩ := LawSt.get law7 e
  obtain ⟨s8, g8, p8⟩ := LawSt.get law8 e
  obtain ⟨s9, g9, p9⟩ := LawSt.get law9 e
  obtain ⟨s10, g10, p10⟩ := LawSt.get (law10 (mg := mg) (mb := mb)) e
  obtain ⟨s11, g11, p11⟩ := LawSt.get (law11 (mg := mg) (mb := mb)) e
  obtain ⟨s12, g12, p12⟩ := LawSt.get (law12 (mg := mg) (mb := mb)) e
  obtain ⟨s13, g13, p13⟩ := LawSt.get (law13 (mg := mg) (mb := mb)) e
  obtain ⟨s14, g14, p14⟩ := LawSt.get (law14 (mg := mg) (mb := mb)) e
  obtain ⟨s15, g15, p15⟩ := LawSt.get law15 e
  obtain ⟨s16, g16, p16⟩ := LawSt.get law16 e
  obtain ⟨s17, g17, p17⟩ := LawSt.get (law17 (mg := mg) (mb := mb)) e
  obtain ⟨s18, g18, p18⟩ := LawSt.get (law18 (mg := mg) (mb := mb)) e
  obtain ⟨s19, g19, p19⟩ := LawSt.get law19 e
  refine WS.run ?_
  rw [← List.drop_zero (l := bd)]
  refine WS.at_ g0 (p0 c L a code B Ia (.lst (xs.map .int))) ?_
  refine WS.atX g1 (p1 c L a code B Ia xs G' (hr'.le (by first | decide | omega)) hxs) fun σ' ⟨cs, hlen, hbd, hle⟩ => WS.le hle ?_
  refine WS.at_ g2 (p2 c L a code B Ia cs (hr'.le (by first | decide | omega)) hlen) ?_
  refine WS.at_ g3 (p3 c L a code B Ia cs G' (hr'.le (by first | decide | omega)) hlen hbd (kindsD ((cs.take 4).map fun x => x.fmod 3))) ?_
  refine WS.at_ g4 (p4 c L a code B Ia (signsD ((cs.drop 4).map signOf)) G' (kindsD ((cs.take 4).map fun x => x.fmod 3))) ?_
  have hk4 : ((cs.take 4).map fun x : Int => x.fmod 3).length = 4 := by rw [List.length_map, List.length_take, hlen]; rfl
  have hkb : ∀ k ∈ ((cs.take 4).map fun x : Int => x.fmod 3), 0 ≤ k ∧ k ≤ 2 := fun k hk => by
    obtain ⟨x, _, rfl⟩ := List.mem_map.mp hk
    have := fmod_bd x (b := 3) (by first | decide | omega)
    omega
  have hs5 : ((cs.drop 4).map signOf).length = 5 := by rw [List.length_map, List.length_drop, hlen]
  have hsb : ∀ n ∈ ((cs.drop 4).map signOf), SgOk n := fun n hn => by
    obtain ⟨x, _, rfl⟩ := List.mem_map.mp hn
    have h8 := fmod_bd x (b := 8) (by first | decide | omega)
    have h26 := fmod_bd (x.fdiv 8) (b := 26) (by first | decide | omega)
    unfold signOf SgOk
    by_cases h : x.fmod 8 < 4
    · rw [if_pos h]
      obtain h | h | h | h : x.fmod 8 = 0 ∨ x.fmod 8 = 1 ∨ x.fmod 8 = 2 ∨ x.fmod 8 = 3 := by omega
      all_goals rw [h]
      · exact .inl rfl
      · exact .inr (.inl rfl)
      · exact .inr (.inr (.inl rfl))
      · exact .inr (.inr (.inr (.inl rfl)))
    · rw [if_neg h]; omega
  have PO := hP _ _ hk4 hkb hs5 hsb
  generalize ((cs.take 4).map fun x : Int => x.fmod 3) = ks at hk4 hkb PO ⊢
  generalize ((cs.drop 4).map signOf) = sg at hs5 hsb PO ⊢
  have h14 : (wys ks sg).length = 14 := PO.ways.n14
  have hhl := headsOf_len (wys ks sg) []
  have hrl : (risingOf (wys ks sg)).length ≤ 14 := by
    have : (risingOf (wys ks sg)).length = (headsOf (wys ks sg)).length := by unfold risingOf; rw [(sortS_perm _).length_eq, List.length_map]
    rw [this]; unfold headsOf; simp at hhl; omega
  refine WS.at_ g5 (p5 c L a code B Ia ks sg (hr'.le (by first | decide | omega)) hk4 hkb) ?_
  refine WS.at_ g6 (p6 c L a code B Ia ks sg) ?_
  refine WS.at_ g7 (p7 c L a code B Ia ks sg) ?_
  refine WS.at_ g8 (p8 c L a code B Ia ks sg) ?_
  refine WS.at_ g9 (p9 c L a code B Ia ks sg) ?_
  refine WS.atX g10 (p10 c L a code B Ia ks sg G' (hr'.le (by first | decide | omega)) PO.ways) fun σ' ⟨ah, br, hle⟩ => WS.le (hle.trans law_frz) ?_
  refine WS.at_ g11 (p11 c L a code B Ia ks sg ah br (wys ks sg) G' (hr'.le (by first | decide | omega)) h14 PO.nd) ?_
  refine WS.at_ g12 (p12 c L a code B Ia ks sg ah br (wys ks sg) (risingOf (wys ks sg)) G' (hr'.le (by first | decide | omega)) hk4 (by first | decide | omega) PO.len) ?_
  refine WS.at_ g13 (p13 c L a code B Ia ks sg ah br (wys ks sg) _ G' (hr'.le (by first | decide | omega))) ?_
  refine WS.atX g14 (p14 c L a code B Ia ks sg ah br (wys ks sg) _ G' hr' h14 hk4 PO.turn) fun σ' ⟨nw, od, hle⟩ => WS.le hle ?_
  refine WS.at_ g15 (p15 c L a code B Ia ks sg nw od ah br (wys ks sg) _ (kinRun ks (wys ks sg) 14) hr' h14 (kinRun_len _ _ _) PO.kin) ?_
  refine WS.at_ g16 (p16 c L a code B Ia ks sg nw od _ ah br (wys ks sg) _ hr' PO.due) ?_
  refine WS.at_ g17 (p17 c L a code B Ia ks sg nw od _ ah br (wys ks sg) (risingOf (wys ks sg)) G' hr' h14 hs5 (by first | decide | omega) PO.made) ?_
  refine WS.at_ g18 (p18 c L a code B Ia ks sg nw od _ ah br (wys ks sg) (risingOf (wys ks sg)) G' hr' (by first | decide | omega) PO.rise) ?_
  rw [drop_of g19]
  exact WS.cons ((p19 c L a code B Ia _).mono fun fd σ' e => by subst e; rfl)
end Mine
end TL7

section TL8
open PySem PySem.W PySem.Calls PyProof.Rows
set_option autoImplicit false
set_option linter.unusedVariables false
set_option Elab.async false
set_option maxRecDepth 100000
set_option maxHeartbeats 4000000
namespace Mine
variable {mg mb : Str → Option Value} {c : Cx}

section
variable {M : Model} {A : Around} {E : Value → Shared → Prop} {s₀ s : Shared} {env : Env}
/-- one parameter of a frame: a token goes for its name -/
theorem bind1 {n : Str} {v : Value} {m cm : Str → Option Value} (f : Str × Value → PUnit → Sem (ForInStep PUnit)) (hf : ∀ n v u, f (n, v) u = (do storeName env n v; pure (.yield ⟨⟩))) (hk : env.scope.kind = .function) {Q : PUnit → Shared → Prop}
    (x : InCallC s₀ env.locals m env.cells cm s) (hl : env.kindOf n = some .local)
    (h : ∀ s', InCallC s₀ env.locals (fun y => if y = n then some v else m y) env.cells cm s' → 1 ≤ s'.toks → Q ⟨⟩ s') : wpAny M A (forIn [(n, v)] ⟨⟩ f) Q E s := by
  rw [List.forIn_cons, hf]
  refine wpAny_bind (wpAny_bind (wpAny_storeName_local hl x.toInCall.ns (fun h' hn' hs' => wpAny_pure ?_) (by rw [hk]; rfl)))
  show wpAny M A (forIn [] PUnit.unit f) Q E _
  rw [List.forIn_nil]
  refine wpAny_pure (h _ ⟨⟨?_, hn', fun b o e => ?_, x.toInCall.fresh⟩, fun k c hc => ?_, x.apart, x.above⟩ (by show 1 ≤ s.toks + 1; omega))
  · obtain ⟨h₁, tk, rfl⟩ := x.toInCall.same
    exact ⟨h', _, rfl⟩
  · exact hs'.extBut b o (Nat.ne_of_lt (Nat.lt_of_lt_of_le (Heap.lt_size e) x.toInCall.fresh)) (x.toInCall.keep b o e)
  · exact (x.cell k c hc).sameBut hs' (Nat.ne_of_gt (x.above k c (mem_of_lookup hc)))
theorem newEnv1 {scope : Scope} {globals : Addr} {n : Str} {v : Value} {qual : Str} {func : Option Addr} {code : Value} {builtins : Addr} {Q : Env → Shared → Prop} (hk : scope.kind = .function) (hl : scope.names.lookup n = some .local)
    (hQ : ∀ env, env = newEnv scope s.heap.objs.size globals (cellsFrom (s.heap.objs.size + 1) scope.names []) qual func code none builtins →
      ∀ s', InCallC s env.locals (fun y => if y = n then some v else none) env.cells (fun _ => none) s' → 1 ≤ s'.toks → Q env s') :
    wpAny M A (newFunctionEnv scope globals [] [(n, v)] qual func code none builtins) Q E s := by
  simp only [newFunctionEnv, Option.isSome_none, Bool.false_eq_true, if_false]
  refine wpAny_bind (wpAny_alloc ?_)
  refine wpAny_bind (wpAny_layCells _ (fun name kind cells => by cases hkc : kind == NameKind.cell <;> simp [hkc]) _ _ _ _ ?_)
  have ok := cellsFrom_ok scope.names (s.heap.push { cls := .type "frame", data := .dict #[] }) (s.heap.objs.size + 1) [] ⟨fun _ _ hm => (nomatch hm), List.Pairwise.nil⟩ (by rw [Heap.size_push]; exact Nat.le_refl _)
  rw [Heap.size_push] at ok
  rw [show ({ s with heap := s.heap.push { cls := .type "frame", data := .dict #[] } } : Shared).heap.objs.size = s.heap.objs.size + 1 from Heap.size_push ..]
  refine wpAny_bind (bind1 (s₀ := s) (env := newEnv scope s.heap.objs.size globals (cellsFrom (s.heap.objs.size + 1) scope.names []) qual func code none builtins) (m := fun _ => none) (cm := fun _ => none)
    _ (fun _ _ _ => rfl) hk
    ⟨⟨⟨_, _, rfl⟩, (Heap.Ns.new s.heap (.type "frame")).keeps (pushCells_keeps _ _), fun b o e => pushCells_keeps _ _ b o (Heap.get?_push_of_some _ e), Nat.le_refl _⟩,
      fun n c hc => (ok.empty n c (mem_of_lookup hc)).1, ok.apart, fun n c hm => (ok.empty n c hm).2⟩
    hl fun s' x ht => wpAny_pure (hQ _ rfl s' x ht))
end

theorem law_code {prog : Program} {w : World} {A : Around} {R : Result → Shared → Prop} {s : Shared} {n : Str} {ps : Arguments} {bd : List Stmt} {sc : Scope} {pm code doc : Value} {a : Addr} {o : Obj} {v : Value} {d ret : D} {x : Str} {I : Mp}
    (hroom : A.depth < recursionLimit) (ho : s.heap.get? a = some o) (hdata : o.data = .func (docDef n ps bd sc pm code doc)) (hlim : s.heap.NoLimit) (hcd : s.heap.CodeRec code n)
    (hbind : bindArgs (docDef n ps bd sc pm code doc) ⟨[v], []⟩ = pure [(x, v)]) (hloc : sc.names.lookup x = some .local) (hI : Sub I s.heap.get?) (hv : Rep I v d)
    (body : Ws { prog := prog, w := w, env := envOfC n sc s.heap.objs.size a code, A := A.deeper (envOfC n sc s.heap.objs.size a code), B := s.heap.get?, Ia := I, wr := true } { loc := [(x, .d d)], mu := (cixOf sc.names).map fun _ => .cell none, cix := cixOf sc.names } bd (RetIs ret))
    (hQ : ∀ v h' tk J, Sub s.heap.get? h'.get? → Sub J h'.get? → Rep J v ret → R (.ok (.ret v)) { s with heap := h', toks := tk })
    (hnd : ((cellsFrom 0 sc.names []).map (·.1)).Nodup)
    (hco : sc.isCoroutine = false := by rfl) (hgen : sc.isGenerator = false := by rfl) (hk : sc.kind = .function := by rfl) : codeAny (model prog w) A (.call (.ref a) ⟨[v], []⟩) R s := by
  refine codeAny_call_function hroom ho hdata hco hgen rfl hcd ?_
  rw [hbind]
  refine wpAny_pure (newEnv1 hk hloc fun env he s' X ht => ?_)
  subst he
  refine ⟨hlim.keeps X.toInCall.keep, codeAny_func ?_⟩
  obtain ⟨h₁, tk, rfl, _⟩ := X.done
  have F : Fr s.heap s.heap.objs.size h₁ (fun y => if y = x then some v else none) := ⟨X.toInCall.ns, X.toInCall.keep, X.toInCall.fresh⟩
  have X' : Cl s.heap.objs.size (cellsFrom (s.heap.objs.size + 1) sc.names []) h₁ (fun _ => none) := ⟨X.cell, X.apart, X.above⟩
  have none_above : ∀ b, s.heap.objs.size ≤ b → s.heap.get? b = none := fun b hb => by
    cases e : s.heap.get? b with
    | none => rfl
    | some o => exact absurd (Heap.lt_size e) (Nat.not_lt.mpr hb)
  have inone : ∀ b, s.heap.objs.size ≤ b → I b = none := fun b hb => by
    cases e : I b with
    | none => rfl
    | some o => have := hI _ _ e; rw [none_above b hb] at this; cases this
  have S : StI { prog := prog, w := w, env := envOfC n sc s.heap.objs.size a code, A := A.deeper (envOfC n sc s.heap.objs.size a code), B := s.heap.get?, Ia := I, wr := true } { loc := [(x, .d d)], mu := (cixOf sc.names).map fun _ => .cell none, cix := cixOf sc.names } [] [] h₁ I
      ((cellsFrom (s.heap.objs.size + 1) sc.names []).map (·.2)) (fun y => if y = x then some v else none) := by
    have hcn : (cellsFrom (s.heap.objs.size + 1) sc.names []).map (·.1) = (cellsFrom 0 sc.names []).map (·.1) := cellsFrom_names _ _ _ _ _ rfl
    refine ⟨F.keep, fun b o e => F.keep b o (hI _ _ e), fun b o e => .inl e, Sub.refl I, F.ns, fun y u e => ?_, fun _ => ⟨none_above _ (Nat.le_refl _), inone _ (Nat.le_refl _)⟩, ?_, fun i b mo e1 e2 => ?_, ?_, fun y k e => ?_, fun y d e => ?_, fun p hp => ?_, ?_, fun p hp => ?_⟩
    · have e' : ([(x, Vl.d d)] : List (Str × Vl)).lookup y = some u := e
      rw [List.lookup_cons, List.lookup_nil] at e'
      cases hb : y == x with
      | true => rw [hb] at e'; cases e'; exact ⟨v, by rw [if_pos (eq_of_beq hb)], .d hv⟩
      | false => rw [hb] at e'; cases e'
    · show _ = ((cixOf sc.names).map fun _ => MO.cell none).length
      have := congrArg List.length hcn
      simpa [cixOf] using this
    · have hm : b ∈ (cellsFrom (s.heap.objs.size + 1) sc.names []).map (·.2) := List.mem_of_getElem? e1
      obtain ⟨q, hq, rfl⟩ := List.mem_map.mp hm
      have e2' : ((cixOf sc.names).map fun _ => MO.cell none)[i]? = some mo := e2
      rw [List.getElem?_map] at e2'
      obtain ⟨_, _, rfl⟩ := Option.map_eq_some_iff.mp e2'
      have hlt := X'.above q.1 q.2 hq
      have hc : h₁.IsCell q.2 none := X'.cell q.1 q.2 (lookup_of_mem_nodup (hcn ▸ hnd) hq)
      obtain ⟨o', g, hd⟩ := hc
      exact ⟨⟨o', g, .cell0 hd⟩, inone _ (Nat.le_of_lt hlt), none_above _ (Nat.le_of_lt hlt), Nat.ne_of_gt hlt⟩
    · rw [List.nodup_iff_pairwise_ne, List.pairwise_map]; exact X'.apart
    · have e' : (cixOf sc.names).lookup y = some k := e
      unfold cixOf at e'
      rw [← hcn] at e'
      obtain ⟨_, a', h2, h3⟩ := lookup_zipIdx e'
      exact ⟨a', h2, by simpa using h3⟩
    · cases e
    · cases hp
    · exact .nil
    · cases hp
  refine wpAny_mono (body [] [] { s with heap := h₁, toks := tk } (fun f s' => R (.ok (.ret (match f with | .ret v => v | _ => .none))) s') (fun _ _ => False) ht ⟨I, _, _, S⟩ fun f fd σ' h' tk' ht hr hf => ?_) (fun _ _ x => x) fun _ _ x => x.elim
  have fin : ∀ v x, x = Vl.d ret → St { prog := prog, w := w, env := envOfC n sc s.heap.objs.size a code, A := A.deeper (envOfC n sc s.heap.objs.size a code), B := s.heap.get?, Ia := I, wr := true } σ' [] [(v, x)] h' → R (.ok (.ret v)) { s with heap := h', toks := tk' } := fun v x hx ⟨J, ρ, m, S'⟩ => by
    subst hx
    exact hQ v h' tk' J S'.base S'.imm (S'.tmk _ (.head _)).d_inv
  rcases hf.inv with ⟨rfl, rfl, S'⟩ | ⟨rfl, rfl, S'⟩ | ⟨rfl, rfl, S'⟩ | ⟨v, x, rfl, rfl, S'⟩
  · have hr : ret = .none := hr
    exact fin .none (.d .none) (by rw [hr]) (S'.imm fun _ => .none)
  · exact hr.elim
  · exact hr.elim
  · exact fin v x hr S'
end Mine
end TL8

section TP1
open PySem PySem.W PySem.Calls PyProof.Rows
set_option autoImplicit false
set_option linter.unusedVariables false
set_option Elab.async false
set_option maxRecDepth 100000
set_option maxHeartbeats 1000000
namespace Mine

theorem sbL_app (c : Nat) (z : List Nat) : ∀ l m : List Nat, sbL c z (l ++ m) = sbL c z l ++ sbL c z m
  | [], m => rfl
  | k :: r, m => by
    show (if k = c then z else [k]) ++ sbL c z (r ++ m) = ((if k = c then z else [k]) ++ sbL c z r) ++ sbL c z m
    rw [sbL_app c z r m, List.append_assoc]
theorem escL_app (l m : List Nat) : escL (l ++ m) = escL l ++ escL m := by
  unfold escL; rw [sbL_app, sbL_app, sbL_app, sbL_app]
theorem sbL_one {c n : Nat} {z : List Nat} (h : n ≠ c) : sbL c z [n] = [n] := by
  show (if n = c then z else [n]) ++ [] = [n]
  rw [if_neg h, List.append_nil]
theorem escL_one {n : Nat} (h1 : n ≠ 38) (h2 : n ≠ 60) (h3 : n ≠ 62) (h4 : n ≠ 13) : escL [n] = [n] := by
  unfold escL; rw [sbL_one h1, sbL_one h2, sbL_one h3, sbL_one h4]
noncomputable def escN (n : Nat) : List Nat := escL [n]
theorem escN_wr {n : Nat} (h : SgOk n) : (wrS n).cps.toList = escN n := by
  rcases h with rfl | rfl | rfl | rfl | h
  · decide +kernel
  · decide +kernel
  · decide +kernel
  · decide +kernel
  · rw [escN, escL_one (by first | decide | omega) (by first | decide | omega) (by first | decide | omega) (by first | decide | omega)]
    unfold wrS
    rw [if_neg (by first | decide | omega), if_neg (by first | decide | omega), if_neg (by first | decide | omega), if_neg (by first | decide | omega)]; rfl
theorem escN_head {n : Nat} (h : SgOk n) : ∃ c r, escN n = c :: r ∧ c < 123 := by
  rcases h with rfl | rfl | rfl | rfl | h
  · exact ⟨38, _, rfl, by decide⟩
  · exact ⟨38, _, rfl, by decide⟩
  · exact ⟨38, _, rfl, by decide⟩
  · exact ⟨38, _, rfl, by decide⟩
  · rw [escN, escL_one (by first | decide | omega) (by first | decide | omega) (by first | decide | omega) (by first | decide | omega)]
    exact ⟨n, [], rfl, by omega⟩

/-! ### a page's codes, of how many braces each sign has ahead -/
noncomputable def pt (ks : List Int) (sg : List Nat) (a : Nat → Nat) : Nat → Nat → List Nat
  | first, 0 => List.replicate (a first) 123 ++ escN (sg.getD first 0)
  | first, w + 1 => List.replicate (a first) 123 ++ (escN (sg.getD first 0) ++ (markN (ks.getD first 0) :: pt ks sg a (first + 1) w))
theorem pt_congr (ks : List Int) (sg : List Nat) {a b : Nat → Nat} : ∀ (w first : Nat), (∀ i, first ≤ i → i ≤ first + w → a i = b i) → pt ks sg a first w = pt ks sg b first w
  | 0, first, h => by rw [pt, pt, h first (by first | decide | omega) (by first | decide | omega)]
  | w + 1, first, h => by rw [pt, pt, h first (by first | decide | omega) (by first | decide | omega), pt_congr ks sg w (first + 1) fun i h1 h2 => h i (by first | decide | omega) (by first | decide | omega)]
theorem pt_split (ks : List Int) (sg : List Nat) (a : Nat → Nat) (m : Nat) : ∀ (g first : Nat), pt ks sg a first (g + 1 + m) = pt ks sg a first g ++ (markN (ks.getD (first + g) 0) :: pt ks sg a (first + g + 1) m)
  | 0, first => by
    rw [show 0 + 1 + m = m + 1 by omega, pt, pt]; simp
  | g + 1, first => by
    rw [show g + 1 + 1 + m = (g + 1 + m) + 1 by omega, pt, pt_split ks sg a m g (first + 1), pt]
    rw [show first + 1 + g = first + (g + 1) by omega]
    simp
theorem pt_head (ks : List Int) (sg : List Nat) {a b : Nat → Nat} (w first : Nat) (h0 : b first = a first + 1) (h : ∀ i, first < i → i ≤ first + w → a i = b i) : pt ks sg b first w = 123 :: pt ks sg a first w := by
  cases w with
  | zero => rw [pt, pt, h0, List.replicate_succ]; rfl
  | succ w =>
    rw [pt, pt, h0, List.replicate_succ, pt_congr ks sg (a := b) (b := a) w (first + 1) fun i h1 h2 => (h i (by first | decide | omega) (by first | decide | omega)).symm]; rfl

noncomputable def cnt (br : List Int) (i : Nat) : Nat := br.countP (· == (i : Int))
theorem cnt_app (l m : List Int) (i : Nat) : cnt (l ++ m) i = cnt l i + cnt m i := List.countP_append
theorem cnt_zero {l : List Int} {i : Nat} (h : ∀ b ∈ l, b ≠ (i : Int)) : cnt l i = 0 := by
  unfold cnt; rw [List.countP_eq_zero]; intro b hb; simpa using h b hb

/-- the braces of a stretch's ways stand within it -/
theorem cell_br {signs : List Str} {ks : List Int} : ∀ (f w first : Nat), ∀ e ∈ cell signs ks f w first, (∀ b ∈ e.br, (first : Int) ≤ b ∧ b ≤ ((first + w : Nat) : Int)) ∧ e.br.length ≤ w
  | 0, w, first, e, he => nomatch he
  | f + 1, 0, first, e, he => by
    rw [cell, List.mem_singleton] at he
    subst he
    exact ⟨(by intro b hb; cases hb), Nat.le_refl _⟩
  | f + 1, w + 1, first, e, he => by
    rw [cell] at he
    obtain ⟨g, hg, he⟩ := List.mem_flatMap.mp he
    obtain ⟨l, hl, he⟩ := List.mem_flatMap.mp he
    obtain ⟨r, hr, rfl⟩ := List.mem_map.mp he
    have hgw := List.mem_range.mp hg
    obtain ⟨h1, h1'⟩ := cell_br f g first l hl
    obtain ⟨h2, h2'⟩ := cell_br f (w - g) (first + g + 1) r hr
    refine ⟨fun b hb => ?_, ?_⟩
    · simp only [Wy.join, List.mem_append] at hb
      rcases hb with (hb | hb) | hb
      · split at hb
        · rw [List.mem_singleton] at hb; subst hb; omega
        · cases hb
      · have := h1 b hb; omega
      · have := h2 b hb; omega
    · simp only [Wy.join, List.length_append]
      split
      · simp; omega
      · simp; omega

theorem markN_esc {k : Int} (h0 : 0 ≤ k) (h2 : k ≤ 2) : escL [markN k] = [markN k] := by
  obtain rfl | rfl | rfl : k = 0 ∨ k = 1 ∨ k = 2 := by omega
  all_goals decide +kernel
theorem joinS_cps {k : Int} (h0 : 0 ≤ k) (h2 : k ≤ 2) (l r : Str) : (joinS k l r).cps.toList = (if k = 0 then [123] else []) ++ (l.cps.toList ++ (markN k :: r.cps.toList)) := by
  have c1 : (Str.ofString "{").cps.toList = [123] := by decide +kernel
  have c2 : (Str.ofString "}").cps.toList = [125] := by decide +kernel
  have c3 : (Str.ofString ".").cps.toList = [46] := by decide +kernel
  have c4 : (Str.ofString "@").cps.toList = [64] := by decide +kernel
  obtain rfl | rfl | rfl : k = 0 ∨ k = 1 ∨ k = 2 := by omega
  · simp [joinS, cps_app, c1, c2, markN]
  · simp [joinS, cps_app, c3, markN]
  · simp [joinS, cps_app, c4, markN]

/-- the pages of a stretch's ways -/
theorem cell_page {ks : List Int} {sg : List Nat} (hk : ∀ i, i < 4 → 0 ≤ ks.getD i 0 ∧ ks.getD i 0 ≤ 2) (hs : sg.length = 5) : ∀ (f w first : Nat), first + w ≤ 4 → ∀ e ∈ cell (sg.map chS) ks f w first, escL e.tx.cps.toList = pt ks sg (cnt e.br) first w
  | 0, w, first, _, e, he => nomatch he
  | f + 1, 0, first, hw, e, he => by
    rw [cell, List.mem_singleton] at he
    subst he
    have h1 : first < sg.length := by omega
    show escL ((sg.map chS).getD first ⟨#[]⟩).cps.toList = pt ks sg (cnt []) first 0
    rw [List.getD_eq_getElem?_getD, List.getElem?_map, List.getElem?_eq_getElem h1, pt, List.getD_eq_getElem?_getD, List.getElem?_eq_getElem h1]
    rfl
  | f + 1, w + 1, first, hw, e, he => by
    rw [cell] at he
    obtain ⟨g, hg, he⟩ := List.mem_flatMap.mp he
    obtain ⟨l, hl, he⟩ := List.mem_flatMap.mp he
    obtain ⟨r, hr, rfl⟩ := List.mem_map.mp he
    have hgw := List.mem_range.mp hg
    have i1 := cell_page hk hs f g first (by first | decide | omega) l hl
    have i2 := cell_page hk hs f (w - g) (first + g + 1) (by first | decide | omega) r hr
    obtain ⟨b1, _⟩ := cell_br f g first l hl
    obtain ⟨b2, _⟩ := cell_br f (w - g) (first + g + 1) r hr
    obtain ⟨k0, k2⟩ := hk (first + g) (by first | decide | omega)
    show escL (joinS (ks.getD (first + g) 0) l.tx r.tx).cps.toList = pt ks sg (cnt ((if ks.getD (first + g) 0 = 0 then [(first : Int)] else []) ++ l.br ++ r.br)) first (w + 1)
    generalize hkk : ks.getD (first + g) 0 = k at k0 k2 ⊢
    rw [joinS_cps k0 k2, escL_app, escL_app, show markN k :: r.tx.cps.toList = [markN k] ++ r.tx.cps.toList from rfl, escL_app, markN_esc k0 k2, i1, i2]
    rw [show w + 1 = g + 1 + (w - g) by omega, pt_split, hkk]
    have hr' : pt ks sg (cnt ((if k = 0 then [(first : Int)] else []) ++ l.br ++ r.br)) (first + g + 1) (w - g) = pt ks sg (cnt r.br) (first + g + 1) (w - g) := pt_congr ks sg _ _ fun i h1 h2 => by
      rw [cnt_app, cnt_app, cnt_zero (l := l.br) fun b hb => by have := b1 b hb; omega, cnt_zero (l := if k = 0 then [(first : Int)] else []) fun b hb => by
        split at hb
        · rw [List.mem_singleton] at hb; omega
        · cases hb]
      omega
    rw [hr']
    have hrz : ∀ i, first ≤ i → i ≤ first + g → cnt r.br i = 0 := fun i h1 h2 => cnt_zero fun b hb => by have := b2 b hb; omega
    by_cases hz : k = 0
    · rw [if_pos hz, if_pos hz]
      have he1 : escL [123] = [123] := by decide +kernel
      rw [he1, pt_head ks sg (a := cnt l.br) (b := cnt ([(first : Int)] ++ l.br ++ r.br)) g first (by rw [cnt_app, cnt_app, hrz first (by first | decide | omega) (by first | decide | omega)]; simp [cnt]; omega) (fun i h1 h2 => by
        rw [cnt_app, cnt_app, hrz i (by first | decide | omega) h2, cnt_zero (l := [(first : Int)]) fun b hb => by rw [List.mem_singleton] at hb; omega]; omega)]
      simp
    · rw [if_neg hz, if_neg hz]
      have he0 : escL [] = [] := rfl
      rw [he0, pt_congr ks sg (a := cnt ([] ++ l.br ++ r.br)) (b := cnt l.br) g first fun i h1 h2 => by rw [cnt_app, cnt_app, hrz i h1 h2]; simp [cnt]]
      simp
end Mine
end TP1

section TP2
open PySem PySem.W PySem.Calls PyProof.Rows
set_option autoImplicit false
set_option linter.unusedVariables false
set_option Elab.async false
set_option maxRecDepth 100000
set_option maxHeartbeats 1000000
namespace Mine

noncomputable def vat (v : List Int) (i : Nat) : Nat := (v.getD i 0).toNat
noncomputable def enc (ks : List Int) (sg : List Nat) (v : List Int) : Str := strL (pt ks sg (vat v) 0 4)

theorem kb_getD {ks : List Int} (hl : ks.length = 4) (hk : ∀ k ∈ ks, 0 ≤ k ∧ k ≤ 2) : ∀ i, i < 4 → 0 ≤ ks.getD i 0 ∧ ks.getD i 0 ≤ 2 := fun i hi => hk _ (getD_mem' 0 (by first | decide | omega))
theorem vat_ahead (w : Wy) (i : Nat) (hi : i < 5) : vat (aheadOf w) i = cnt w.br i := by
  unfold vat; rw [ahead_getD w i hi]; rfl
theorem page_enc {ks : List Int} {sg : List Nat} (hl : ks.length = 4) (hk : ∀ k ∈ ks, 0 ≤ k ∧ k ≤ 2) (hs : sg.length = 5) {w : Wy} (hw : w ∈ wys ks sg) : pageOf w = enc ks sg (aheadOf w) := by
  unfold pageOf enc
  rw [cell_page (kb_getD hl hk) hs 6 4 0 (by first | decide | omega) w hw]
  rw [pt_congr ks sg (a := vat (aheadOf w)) (b := cnt w.br) 4 0 fun i _ h => vat_ahead w i (by first | decide | omega)]

theorem piece_cps (a : Int) (n : Nat) (h : SgOk n) (mk : Str) : (pieceS a n mk).cps.toList = List.replicate a.toNat 123 ++ (escN n ++ mk.cps.toList) := by
  have c1 : (Str.ofString "{").cps.toList = [123] := by decide +kernel
  unfold pieceS
  rw [cps_app, cps_app, escN_wr h, c1]
  show (List.replicate a.toNat [123]).flatten ++ escN n ++ mk.cps.toList = _
  rw [List.flatten_replicate_singleton, List.append_assoc]
theorem due_enc {ks : List Int} {sg : List Nat} (hl : ks.length = 4) (hs : sg.length = 5) (hg : ∀ n ∈ sg, SgOk n) (w : Wy) : dueOf ks sg w = enc ks sg (aheadOf w) := by
  have hgn : ∀ i, i < 5 → SgOk (sg.getD i 0) := fun i hi => hg _ (getD_mem' 0 (by first | decide | omega))
  apply cps_ext
  show (Builtin.Str.glued ("" : Str) [pieceS ((aheadOf w).getD 0 0) (sg.getD 0 0) (mkAt ks 0), pieceS ((aheadOf w).getD 1 0) (sg.getD 1 0) (mkAt ks 1), pieceS ((aheadOf w).getD 2 0) (sg.getD 2 0) (mkAt ks 2), pieceS ((aheadOf w).getD 3 0) (sg.getD 3 0) (mkAt ks 3), pieceS ((aheadOf w).getD 4 0) (sg.getD 4 0) (mkAt ks 4)]).cps.toList = pt ks sg (vat (aheadOf w)) 0 4
  have e0 : (Str.ofString "").cps.toList = [] := by decide +kernel
  have em : ∀ i, i < 4 → (mkAt ks i).cps.toList = [markN (ks.getD i 0)] := fun i hi => by unfold mkAt; rw [if_pos hi]; rfl
  have em4 : (mkAt ks 4).cps.toList = [] := rfl
  simp only [Builtin.Str.glued, List.drop_succ_cons, List.drop_zero, List.headD_cons, List.foldl_cons, List.foldl_nil, Array.toList_append, e0, List.append_nil, piece_cps _ _ (hgn 0 (by first | decide | omega)), piece_cps _ _ (hgn 1 (by first | decide | omega)), piece_cps _ _ (hgn 2 (by first | decide | omega)), piece_cps _ _ (hgn 3 (by first | decide | omega)), piece_cps _ _ (hgn 4 (by first | decide | omega)), em 0 (by first | decide | omega), em 1 (by first | decide | omega), em 2 (by first | decide | omega), em 3 (by first | decide | omega), em4, pt, vat]
  simp

/-! ### the order -/
theorem rep_lt {a b : Nat} {n : Nat} (h : SgOk n) (hab : a < b) (x y : List Nat) : List.replicate a 123 ++ (escN n ++ x) < List.replicate b 123 ++ (escN n ++ y) := by
  obtain ⟨d, rfl⟩ : ∃ d, b = a + (d + 1) := ⟨b - a - 1, by omega⟩
  rw [← List.replicate_append_replicate, List.append_assoc]
  refine List.append_left_lt ?_
  obtain ⟨c, r, hc, hlt⟩ := escN_head h
  rw [hc, List.replicate_succ]
  exact List.cons_lt_cons_iff.mpr (.inl hlt)
theorem pt_lt {ks : List Int} {sg : List Nat} (hg : ∀ i, i < 5 → SgOk (sg.getD i 0)) {a b : Nat → Nat} {j : Nat} : ∀ (w first : Nat), first ≤ j → j ≤ first + w → first + w ≤ 4 → (∀ i, first ≤ i → i < j → a i = b i) → a j < b j → pt ks sg a first w < pt ks sg b first w
  | 0, first, h1, h2, h3, h4, h5 => by
    have : j = first := by omega
    subst this
    rw [pt, pt]
    have := rep_lt (hg j (by first | decide | omega)) h5 [] []
    rwa [List.append_nil] at this
  | w + 1, first, h1, h2, h3, h4, h5 => by
    rw [pt, pt]
    by_cases hj : j = first
    · subst hj
      exact rep_lt (hg j (by first | decide | omega)) h5 _ _
    · rw [h4 first (by first | decide | omega) (by first | decide | omega)]
      refine List.append_left_lt (List.append_left_lt (List.cons_lt_cons_iff.mpr (.inr ⟨rfl, ?_⟩)))
      exact pt_lt hg w (first + 1) (by first | decide | omega) (by first | decide | omega) (by first | decide | omega) (fun i h1 h2 => h4 i (by first | decide | omega) h2) h5
noncomputable def ltV : List Int → List Int → Bool
  | a :: r, b :: t => if a = b then ltV r t else decide (a < b)
  | _, _ => false
theorem ltV_at : ∀ {v u : List Int}, ltV v u = true → ∃ j, j < v.length ∧ (∀ i, i < j → v.getD i 0 = u.getD i 0) ∧ v.getD j 0 < u.getD j 0
  | a :: r, b :: t, h => by
    unfold ltV at h
    by_cases e : a = b
    · subst e
      rw [if_pos rfl] at h
      obtain ⟨j, h1, h2, h3⟩ := ltV_at h
      refine ⟨j + 1, by simpa using h1, fun i hi => ?_, h3⟩
      cases i with
      | zero => rfl
      | succ i => exact h2 i (by first | decide | omega)
    · rw [if_neg e] at h
      exact ⟨0, by simp, fun i hi => absurd hi (Nat.not_lt_zero _), of_decide_eq_true h⟩
  | [], _, h => by simp [ltV] at h
  | _ :: _, [], h => by simp [ltV] at h
theorem ltV_tri : ∀ {v u : List Int}, v.length = u.length → v = u ∨ ltV v u = true ∨ ltV u v = true
  | [], [], _ => .inl rfl
  | a :: r, b :: t, h => by
    have ih := ltV_tri (v := r) (u := t) (by simpa using h)
    unfold ltV
    by_cases e : a = b
    · subst e
      rw [if_pos rfl, if_pos rfl]
      rcases ih with rfl | ih | ih
      · exact .inl rfl
      · exact .inr (.inl ih)
      · exact .inr (.inr ih)
    · rw [if_neg e, if_neg (Ne.symm e)]
      simp only [decide_eq_true_eq]
      omega
  | [], _ :: _, h => by simp at h
  | _ :: _, [], h => by simp at h
theorem ltV_ge : ∀ {v u : List Int}, ltV v u = true → geI v u = false
  | a :: r, b :: t, h => by
    unfold ltV at h
    unfold geI
    by_cases e : a = b
    · rw [if_pos e] at h ⊢; exact ltV_ge h
    · rw [if_neg e] at h ⊢
      have := of_decide_eq_true h
      exact decide_eq_false (by first | decide | omega)
  | [], _, h => by simp [ltV] at h
  | _ :: _, [], h => by simp [ltV] at h

noncomputable def VOk (v : List Int) : Prop := v.length = 5 ∧ ∀ x ∈ v, 0 ≤ x ∧ x ≤ 4
theorem enc_lt {ks : List Int} {sg : List Nat} (hs : sg.length = 5) (hg : ∀ n ∈ sg, SgOk n) {v u : List Int} (hv : VOk v) (hu : VOk u) (h : ltV v u = true) : (enc ks sg v).cps.toList < (enc ks sg u).cps.toList := by
  obtain ⟨j, h1, h2, h3⟩ := ltV_at h
  have hj : j < 5 := by rw [hv.1] at h1; exact h1
  refine pt_lt (j := j) (fun i hi => hg _ (getD_mem' 0 (by first | decide | omega))) 4 0 (by first | decide | omega) (by first | decide | omega) (by first | decide | omega) (fun i _ hi => ?_) ?_
  · unfold vat; rw [h2 i hi]
  · unfold vat
    have := (hv.2 _ (getD_mem' 0 h1)).1
    omega
theorem enc_inj {ks : List Int} {sg : List Nat} (hs : sg.length = 5) (hg : ∀ n ∈ sg, SgOk n) {v u : List Int} (hv : VOk v) (hu : VOk u) (h : enc ks sg v = enc ks sg u) : v = u := by
  rcases ltV_tri (v := v) (u := u) (hv.1.trans hu.1.symm) with e | e | e
  · exact e
  · have := enc_lt (ks := ks) hs hg hv hu e; rw [h] at this; exact absurd this (List.lt_irrefl _)
  · have := enc_lt (ks := ks) hs hg hu hv e; rw [h] at this; exact absurd this (List.lt_irrefl _)
theorem coll_lt {x y : Str} (h : x.cps.toList < y.cps.toList) : collFn x y = -1 ∧ collFn y x = 1 := by
  have h' : ¬ y.cps.toList < x.cps.toList := List.lt_asymm h
  unfold collFn
  rw [decide_eq_true h, decide_eq_false h']
  exact ⟨rfl, rfl⟩

/-! ### the dict of the heads -/
theorem lookup_putKVg {k k' : Str} {d : D} : ∀ (kvs : List (Str × D)), (putKV kvs k d).lookup k' = if k' = k then some d else kvs.lookup k'
  | [] => by
    show List.lookup k' [(k, d)] = _
    rw [List.lookup_cons]
    by_cases h : k' = k
    · subst h; simp
    · rw [if_neg h, beq_eq_false_iff_ne.mpr h]
  | (a, b) :: r => by
    rw [putKV]
    by_cases ha : a = k
    · subst ha
      rw [if_pos rfl, List.lookup_cons, List.lookup_cons]
      by_cases h : k' = a
      · subst h; simp
      · rw [if_neg h, beq_eq_false_iff_ne.mpr h]
    · rw [if_neg ha, List.lookup_cons, List.lookup_cons, lookup_putKVg r]
      by_cases h : k' = k
      · subst h
        rw [beq_eq_false_iff_ne.mpr (Ne.symm ha)]
      · simp only [if_neg h]
theorem keys_putKV {k : Str} {d : D} : ∀ (kvs : List (Str × D)), (∀ p, p ∈ (putKV kvs k d).map (·.1) ↔ p = k ∨ p ∈ kvs.map (·.1)) ∧ ((kvs.map (·.1)).Nodup → ((putKV kvs k d).map (·.1)).Nodup)
  | [] => ⟨fun p => by simp [putKV], fun _ => by simp [putKV]⟩
  | (a, b) :: r => by
    obtain ⟨i1, i2⟩ := keys_putKV (k := k) (d := d) r
    rw [putKV]
    by_cases ha : a = k
    · subst ha
      rw [if_pos rfl]
      refine ⟨fun p => ?_, fun h => h⟩
      simp only [List.map_cons, List.mem_cons]
      constructor
      · rintro (h | h)
        · exact .inl h
        · exact .inr (.inr h)
      · rintro (h | h | h)
        · exact .inl h
        · exact .inl h
        · exact .inr h
    · rw [if_neg ha]
      refine ⟨fun p => ?_, fun h => ?_⟩
      · simp only [List.map_cons, List.mem_cons, i1 p]
        constructor
        · rintro (h | h | h)
          · exact .inr (.inl h)
          · exact .inl h
          · exact .inr (.inr h)
        · rintro (h | h | h)
          · exact .inr (.inl h)
          · exact .inl h
          · exact .inr (.inr h)
      · rw [List.map_cons, List.nodup_cons] at h ⊢
        refine ⟨fun hm => ?_, i2 h.2⟩
        rcases (i1 a).mp hm with e | e
        · exact ha e
        · exact h.1 e
theorem heads_fold (W : List Wy) : ∀ kv : List (Str × D), (kv.map (·.1)).Nodup →
    ((W.foldl (fun kv w => putKV kv (pageOf w) (.lst ((aheadOf w).map .int))) kv).map (·.1)).Nodup ∧
    (∀ p, p ∈ (W.foldl (fun kv w => putKV kv (pageOf w) (.lst ((aheadOf w).map .int))) kv).map (·.1) ↔ (∃ w ∈ W, pageOf w = p) ∨ p ∈ kv.map (·.1)) ∧
    ∀ p d, (W.foldl (fun kv w => putKV kv (pageOf w) (.lst ((aheadOf w).map .int))) kv).lookup p = some d → (∃ w ∈ W, pageOf w = p ∧ d = .lst ((aheadOf w).map .int)) ∨ kv.lookup p = some d := by
  induction W with
  | nil => intro kv h; exact ⟨h, fun p => by simp, fun p d e => .inr e⟩
  | cons w W ih =>
    intro kv h
    rw [List.foldl_cons]
    obtain ⟨k1, k2⟩ := keys_putKV (k := pageOf w) (d := .lst ((aheadOf w).map .int)) kv
    obtain ⟨i1, i2, i3⟩ := ih _ (k2 h)
    refine ⟨i1, fun p => ?_, fun p d e => ?_⟩
    · rw [i2 p, k1 p]
      constructor
      · rintro (⟨u, hu, e⟩ | e | e)
        · exact .inl ⟨u, .tail _ hu, e⟩
        · exact .inl ⟨w, .head _, e.symm⟩
        · exact .inr e
      · rintro (⟨u, hu, e⟩ | e)
        · rcases List.mem_cons.mp hu with rfl | hu
          · exact .inr (.inl e.symm)
          · exact .inl ⟨u, hu, e⟩
        · exact .inr (.inr e)
    · rcases i3 p d e with ⟨u, hu, e1, e2⟩ | e
      · exact .inl ⟨u, .tail _ hu, e1, e2⟩
      · rw [lookup_putKVg] at e
        by_cases hp : p = pageOf w
        · rw [if_pos hp] at e; cases e; exact .inl ⟨w, .head _, hp.symm, rfl⟩
        · rw [if_neg hp] at e; exact .inr e
theorem lookup_of_key {p : Str} : ∀ {kv : List (Str × D)}, p ∈ kv.map (·.1) → ∃ d, kv.lookup p = some d
  | (a, b) :: r, h => by
    rw [List.lookup_cons]
    cases hb : p == a with
    | true => exact ⟨b, rfl⟩
    | false =>
      rw [List.map_cons, List.mem_cons] at h
      rcases h with h | h
      · subst h; simp at hb
      · exact lookup_of_key h
end Mine
end TP2

section TP3
open PySem PySem.W PySem.Calls PyProof.Rows
set_option autoImplicit false
set_option linter.unusedVariables false
set_option Elab.async false
set_option maxRecDepth 100000
set_option maxHeartbeats 1000000
namespace Mine

/-- what of a way the signs have no part in -/
noncomputable def Wy.key (e : Wy) : Sh × List Int := (e.sh, e.br)
noncomputable def jnK (ks : List Int) (first gap : Nat) (l r : Sh × List Int) : Sh × List Int := (.node gap l.1 r.1, (if ks.getD gap 0 = 0 then [(first : Int)] else []) ++ l.2 ++ r.2)
noncomputable def cellK (ks : List Int) : Nat → Nat → Nat → List (Sh × List Int)
  | 0, _, _ => []
  | _ + 1, 0, first => [(.leaf first, [])]
  | f + 1, w + 1, first => (List.range (w + 1)).flatMap fun g => (cellK ks f g first).flatMap fun l => (cellK ks f (w - g) (first + g + 1)).map fun r => jnK ks first (first + g) l r
theorem cell_key (signs : List Str) (ks : List Int) : ∀ (f w first : Nat), (cell signs ks f w first).map Wy.key = cellK ks f w first
  | 0, w, first => rfl
  | f + 1, 0, first => rfl
  | f + 1, w + 1, first => by
    rw [cell, cellK, List.map_flatMap]
    congr 1
    funext g
    rw [List.map_flatMap, ← cell_key signs ks f g first, List.flatMap_map]
    congr 1
    funext l
    rw [List.map_map, ← cell_key signs ks f (w - g) (first + g + 1), List.map_map]
    rfl
noncomputable def ahK (br : List Int) : List Int := (List.range 5).map fun (s : Nat) => ((br.countP (· == (s : Int)) : Nat) : Int)
noncomputable def wyK (ks : List Int) : List (Sh × List Int) := cellK ks 6 4 0
theorem wys_sh (ks : List Int) (sg : List Nat) : (wys ks sg).map Wy.sh = (wyK ks).map (·.1) := by
  unfold wyK; rw [← cell_key (sg.map chS) ks 6 4 0, List.map_map]; rfl
theorem wys_ahead (ks : List Int) (sg : List Nat) : (wys ks sg).map aheadOf = (wyK ks).map fun p => ahK p.2 := by
  unfold wyK; rw [← cell_key (sg.map chS) ks 6 4 0, List.map_map]; rfl

/-! ### how many ways -/
noncomputable def catL : Nat → Nat → Nat
  | 0, _ => 0
  | _ + 1, 0 => 1
  | f + 1, w + 1 => ((List.range (w + 1)).map fun g => catL f g * catL f (w - g)).sum
theorem cell_len (signs : List Str) (ks : List Int) : ∀ (f w first : Nat), (cell signs ks f w first).length = catL f w
  | 0, w, first => rfl
  | f + 1, 0, first => rfl
  | f + 1, w + 1, first => by
    rw [cell, catL, List.length_flatMap]
    congr 1
    apply List.map_congr_left
    intro g _
    rw [List.length_flatMap]
    have : ∀ l : Wy, ((cell signs ks f (w - g) (first + g + 1)).map fun r => Wy.join ks first (first + g) l r).length = catL f (w - g) := fun l => by rw [List.length_map, cell_len]
    simp only [this]
    rw [List.map_const', List.sum_replicate_nat, cell_len]

theorem ways_of {ks : List Int} {sg : List Nat} (hl : ks.length = 4) (hk : ∀ k ∈ ks, 0 ≤ k ∧ k ≤ 2) (hs : sg.length = 5) : WaysOk ks sg where
  kl := hl
  kb := hk
  sl := hs
  small := fun w first hw => by
    rw [cell_len]
    match w, hw with
    | 0, _ => decide
    | 1, _ => decide
    | 2, _ => decide
    | 3, _ => decide
    | 4, _ => decide
  br := fun w first hw e he => by have := (cell_br 6 w first e he).2; omega
  n14 := by unfold wys; rw [cell_len]; decide
  tx := fun w hw => by
    have := (cell_P (P := PW) (fun i hi => by
      have h1 : i < sg.length := by omega
      have : ((sg.map chS).getD i ⟨#[]⟩).length = 1 := by rw [List.getD_eq_getElem?_getD, List.getElem?_map, List.getElem?_eq_getElem h1]; rfl
      exact ⟨by omega, by omega, .inl rfl⟩) PW.join 6 4 0 (by first | decide | omega) w hw).2.1
    omega

/-! ### what the kinds alone tell -/
noncomputable def insV (v : List Int) : List (List Int) → List (List Int)
  | [] => [v]
  | u :: r => if v = u then u :: r else if ltV v u then v :: u :: r else u :: insV v r
noncomputable def dvs (V : List (List Int)) : List (List Int) := V.foldr insV []
noncomputable def pairB : List (List Int) → Bool
  | [] => true
  | v :: r => r.all (ltV v) && pairB r
noncomputable def shB (ks : List Int) (S : List Sh) : Bool := S.all fun s => s.gapsOk 4 && decide (s.depth ≤ 4) && decide ((turnFn ks s).length ≤ 100) && (turnFn ks s).all fun o => decide (o.depth ≤ 60) && decide (S.findIdx (·.eqb o) < 14)
noncomputable def kinStepS (S : List Sh) (i : Nat) (kin : List Int) (o : Sh) : List Int := kin.map fun m => if m = kin.getD (S.findIdx (·.eqb o)) 0 then kin.getD i 0 else m
noncomputable def kinRunS (ks : List Int) (S : List Sh) (n : Nat) : List Int := (List.range n).foldl (fun kin i => (turnFn ks (S.getD i dSh)).foldl (kinStepS S i) kin) kin0
noncomputable def idxV (V : List (List Int)) : List Int := V.map fun m => ((V.findIdx (· == m) : Nat) : Int)
noncomputable def tokM (k : Int) : Int := ([26, 23, 49] : List Int).getD k.toNat 0
noncomputable def symsK (ks : List Int) (v : List Int) : List Int := ((List.range 5).flatMap fun i => List.replicate (vat v i) 25 ++ (256 :: (if i < 4 then [tokM (ks.getD i 0)] else []))) ++ [0]
noncomputable def runB (ks : List Int) (V : List (List Int)) (v : List Int) : Bool := match (Md.mk [[]] [] 1).run (symsK ks v) with
  | some s => s.stk.isEmpty && decide (s.made = ((V.countP (· == v) : Nat) : Int))
  | none => false
noncomputable def okB (ks : List Int) : Bool :=
  let K := wyK ks
  let V := K.map fun p => ahK p.2
  let S := K.map (·.1)
  let T := dvs V
  decide (V.length = 14) && V.all (fun v => decide (v.length = 5) && v.all fun x => decide (0 ≤ x) && decide (x ≤ 4)) && pairB T && V.all (fun v => T.contains v) && T.all (fun v => V.contains v) &&
    decide ((T.length : Int) = sumsFn (ks.map fun k => if k = 0 then 1 else 0)) && shB ks S && decide (idxV V = idxI (kinRunS ks S 14)) && T.all (runB ks V)

theorem ok_00 : ((([0, 1, 2] : List Int).all fun c => ([0, 1, 2] : List Int).all fun d => okB [0, 0, c, d]) = true) := by decide +kernel
theorem ok_01 : ((([0, 1, 2] : List Int).all fun c => ([0, 1, 2] : List Int).all fun d => okB [0, 1, c, d]) = true) := by decide +kernel
theorem ok_02 : ((([0, 1, 2] : List Int).all fun c => ([0, 1, 2] : List Int).all fun d => okB [0, 2, c, d]) = true) := by decide +kernel
theorem ok_10 : ((([0, 1, 2] : List Int).all fun c => ([0, 1, 2] : List Int).all fun d => okB [1, 0, c, d]) = true) := by decide +kernel
theorem ok_11 : ((([0, 1, 2] : List Int).all fun c => ([0, 1, 2] : List Int).all fun d => okB [1, 1, c, d]) = true) := by decide +kernel
theorem ok_12 : ((([0, 1, 2] : List Int).all fun c => ([0, 1, 2] : List Int).all fun d => okB [1, 2, c, d]) = true) := by decide +kernel
theorem ok_20 : ((([0, 1, 2] : List Int).all fun c => ([0, 1, 2] : List Int).all fun d => okB [2, 0, c, d]) = true) := by decide +kernel
theorem ok_21 : ((([0, 1, 2] : List Int).all fun c => ([0, 1, 2] : List Int).all fun d => okB [2, 1, c, d]) = true) := by decide +kernel
theorem ok_22 : ((([0, 1, 2] : List Int).all fun c => ([0, 1, 2] : List Int).all fun d => okB [2, 2, c, d]) = true) := by decide +kernel
theorem ok_all {ks : List Int} (hl : ks.length = 4) (hk : ∀ k ∈ ks, 0 ≤ k ∧ k ≤ 2) : okB ks = true := by
  match ks, hl, hk with
  | [a, b, c, d], _, hk =>
    have ha := hk a (by simp)
    have hb := hk b (by simp)
    have hc := hk c (by simp)
    have hd := hk d (by simp)
    have mc : c ∈ ([0, 1, 2] : List Int) := by simp; omega
    have md : d ∈ ([0, 1, 2] : List Int) := by simp; omega
    have key : ∀ {a b : Int}, ((([0, 1, 2] : List Int).all fun c => ([0, 1, 2] : List Int).all fun d => okB [a, b, c, d]) = true) → okB [a, b, c, d] = true := fun h => List.all_eq_true.mp (List.all_eq_true.mp h c mc) d md
    obtain rfl | rfl | rfl : a = 0 ∨ a = 1 ∨ a = 2 := by omega
    · obtain rfl | rfl | rfl : b = 0 ∨ b = 1 ∨ b = 2 := by omega
      · exact key ok_00
      · exact key ok_01
      · exact key ok_02
    · obtain rfl | rfl | rfl : b = 0 ∨ b = 1 ∨ b = 2 := by omega
      · exact key ok_10
      · exact key ok_11
      · exact key ok_12
    · obtain rfl | rfl | rfl : b = 0 ∨ b = 1 ∨ b = 2 := by omega
      · exact key ok_20
      · exact key ok_21
      · exact key ok_22
end Mine
end TP3

section TP4
open PySem PySem.W PySem.Calls PyProof.Rows
set_option autoImplicit false
set_option linter.unusedVariables false
set_option Elab.async false
set_option maxRecDepth 100000
set_option maxHeartbeats 1000000
namespace Mine

theorem pairB_iff : ∀ {T : List (List Int)}, pairB T = true → T.Pairwise fun v u => ltV v u = true
  | [], _ => .nil
  | v :: r, h => by
    rw [pairB, Bool.and_eq_true, List.all_eq_true] at h
    exact .cons h.1 (pairB_iff h.2)

structure KOk (ks : List Int) (V T : List (List Int)) (S : List Sh) : Prop where
  n : V.length = 14
  v : ∀ v ∈ V, VOk v
  pair : T.Pairwise fun v u => ltV v u = true
  vt : ∀ v, v ∈ V ↔ v ∈ T
  len : (T.length : Int) = sumsFn (ks.map fun k => if k = 0 then 1 else 0)
  sh : shB ks S = true
  kin : idxV V = idxI (kinRunS ks S 14)
  run : ∀ v ∈ T, runB ks V v = true
theorem kOk {ks : List Int} (hl : ks.length = 4) (hk : ∀ k ∈ ks, 0 ≤ k ∧ k ≤ 2) : KOk ks ((wyK ks).map fun p => ahK p.2) (dvs ((wyK ks).map fun p => ahK p.2)) ((wyK ks).map (·.1)) := by
  have h := ok_all hl hk
  unfold okB at h
  simp only [Bool.and_eq_true, decide_eq_true_eq] at h
  obtain ⟨⟨⟨⟨⟨⟨⟨⟨h1, h2⟩, h3⟩, h4⟩, h5⟩, h6⟩, h7⟩, h8⟩, h9⟩ := h
  refine ⟨h1, fun v hv => ?_, pairB_iff h3, fun v => ⟨fun hv => ?_, fun hv => ?_⟩, h6, h7, h8, fun v hv => List.all_eq_true.mp h9 v hv⟩
  · have := List.all_eq_true.mp h2 v hv
    rw [Bool.and_eq_true, decide_eq_true_eq, List.all_eq_true] at this
    refine ⟨this.1, fun x hx => ?_⟩
    have := this.2 x hx
    rw [Bool.and_eq_true, decide_eq_true_eq, decide_eq_true_eq] at this
    exact this
  · have := List.all_eq_true.mp h4 v hv
    exact List.contains_iff_mem.mp this
  · have := List.all_eq_true.mp h5 v hv
    exact List.contains_iff_mem.mp this

/-! ### the reading of a page -/
noncomputable def pcN (n : Nat) : Pc := if n = 38 ∨ n = 60 ∨ n = 62 ∨ n = 13 then .esc n else .ch n
noncomputable def pcsOf (ks : List Int) (sg : List Nat) (v : List Int) : List Pc := (List.range 5).flatMap fun i => List.replicate (vat v i) (.ch 123) ++ (pcN (sg.getD i 0) :: (if i < 4 then [.ch (markN (ks.getD i 0))] else []))
theorem pcN_cps {n : Nat} (h : SgOk n) : (pcN n).cps = escN n := by
  rcases h with rfl | rfl | rfl | rfl | h
  · decide +kernel
  · decide +kernel
  · decide +kernel
  · decide +kernel
  · rw [escN, escL_one (by first | decide | omega) (by first | decide | omega) (by first | decide | omega) (by first | decide | omega)]
    unfold pcN; rw [if_neg (by first | decide | omega)]; rfl
theorem pcN_ok {n : Nat} (h : SgOk n) : (pcN n).ok = true := by
  rcases h with rfl | rfl | rfl | rfl | h
  · rfl
  · rfl
  · rfl
  · rfl
  · unfold pcN; rw [if_neg (by first | decide | omega)]; show (n != 38) = true; rw [bne_iff_ne]; omega
theorem tok_letters : ((List.range 26).all fun i => decide (tokOf (97 + i) = 256 + ((97 + i : Nat) : Int))) = true := by decide +kernel
theorem pcN_sym {n : Nat} (h : SgOk n) : (pcN n).sym = 256 + (n : Int) := by
  rcases h with rfl | rfl | rfl | rfl | h
  · rfl
  · rfl
  · rfl
  · rfl
  · unfold pcN; rw [if_neg (by first | decide | omega)]
    have := List.all_eq_true.mp tok_letters (n - 97) (List.mem_range.mpr (by first | decide | omega))
    rw [decide_eq_true_eq, show 97 + (n - 97) = n by omega] at this
    exact this
theorem mark_ok {k : Int} (h0 : 0 ≤ k) (h2 : k ≤ 2) : (Pc.ch (markN k)).ok = true ∧ (Pc.ch (markN k)).sym = tokM k ∧ tokM k < 256 := by
  obtain rfl | rfl | rfl : k = 0 ∨ k = 1 ∨ k = 2 := by omega
  all_goals decide +kernel
theorem flat_app (a b : List Pc) : flat (a ++ b) = flat a ++ flat b := List.flatMap_append
theorem flat_rep (n : Nat) : flat (List.replicate n (.ch 123)) = List.replicate n 123 := by
  induction n with
  | zero => rfl
  | succ n ih => rw [List.replicate_succ, List.replicate_succ]; show [123] ++ flat _ = _; rw [ih]; rfl
theorem flat_cons (p : Pc) (b : List Pc) : flat (p :: b) = p.cps ++ flat b := rfl
theorem pcs_flat {ks : List Int} {sg : List Nat} (hg : ∀ i, i < 5 → SgOk (sg.getD i 0)) (v : List Int) : flat (pcsOf ks sg v) = pt ks sg (vat v) 0 4 := by
  show flat ((List.replicate (vat v 0) (.ch 123) ++ (pcN (sg.getD 0 0) :: [.ch (markN (ks.getD 0 0))])) ++ ((List.replicate (vat v 1) (.ch 123) ++ (pcN (sg.getD 1 0) :: [.ch (markN (ks.getD 1 0))])) ++ ((List.replicate (vat v 2) (.ch 123) ++ (pcN (sg.getD 2 0) :: [.ch (markN (ks.getD 2 0))])) ++
    ((List.replicate (vat v 3) (.ch 123) ++ (pcN (sg.getD 3 0) :: [.ch (markN (ks.getD 3 0))])) ++ ((List.replicate (vat v 4) (.ch 123) ++ (pcN (sg.getD 4 0) :: [])) ++ []))))) = _
  simp only [flat_app, flat_cons, flat_rep, pcN_cps (hg 0 (by first | decide | omega)), pcN_cps (hg 1 (by first | decide | omega)), pcN_cps (hg 2 (by first | decide | omega)), pcN_cps (hg 3 (by first | decide | omega)), pcN_cps (hg 4 (by first | decide | omega)), pt]
  simp [flat, Pc.cps]
theorem pcs_len {ks : List Int} {sg : List Nat} {v : List Int} (hv : VOk v) : (pcsOf ks sg v).length ≤ 100 := by
  have : (pcsOf ks sg v).length ≤ (List.range 5).length * 20 := length_flatMap_le fun i hi => by
    have hi5 := List.mem_range.mp hi
    have : vat v i ≤ 4 := by
      have := hv.2 _ (getD_mem' 0 (by rw [hv.1]; exact hi5) : v.getD i 0 ∈ v)
      unfold vat; omega
    rw [List.length_append, List.length_replicate, List.length_cons]
    split
    · simp; omega
    · simp; omega
  simpa using this
theorem pcs_ok {ks : List Int} {sg : List Nat} (hg : ∀ i, i < 5 → SgOk (sg.getD i 0)) (hk : ∀ i, i < 4 → 0 ≤ ks.getD i 0 ∧ ks.getD i 0 ≤ 2) (v : List Int) : ∀ x ∈ pcsOf ks sg v, x.ok = true := fun x hx => by
  obtain ⟨i, hi, hx⟩ := List.mem_flatMap.mp hx
  have hi5 := List.mem_range.mp hi
  rcases List.mem_append.mp hx with hx | hx
  · rw [(List.mem_replicate.mp hx).2]; rfl
  · rcases List.mem_cons.mp hx with rfl | hx
    · exact pcN_ok (hg i hi5)
    · split at hx
      · rename_i h4
        rw [List.mem_singleton.mp hx]
        exact (mark_ok (hk i h4).1 (hk i h4).2).1
      · cases hx
theorem pc_len (p : Pc) : p.cps.length ≤ 6 := by
  cases p with
  | ch n => simp [Pc.cps]
  | esc k =>
    simp only [Pc.cps, List.length_cons, List.length_append, List.length_nil]
    unfold escName
    repeat' split
    all_goals simp

/-! ### the symbols, with the signs blotted out -/
noncomputable def spotG (ks v : List Int) (f : Nat → Int) (i : Nat) : List Int := List.replicate (vat v i) 25 ++ (f i :: (if i < 4 then [tokM (ks.getD i 0)] else []))
noncomputable def symsG (ks v : List Int) (f : Nat → Int) : List Int := (List.range 5).flatMap (spotG ks v f) ++ [0]
theorem pcs_sym {ks : List Int} {sg : List Nat} (hg : ∀ i, i < 5 → SgOk (sg.getD i 0)) (hk : ∀ i, i < 4 → 0 ≤ ks.getD i 0 ∧ ks.getD i 0 ≤ 2) (v : List Int) : (pcsOf ks sg v).map Pc.sym ++ [0] = symsG ks v fun i => 256 + (sg.getD i 0 : Nat) := by
  unfold pcsOf symsG
  rw [List.map_flatMap]
  congr 1
  rw [List.flatMap_def, List.flatMap_def]
  congr 1
  apply List.map_congr_left
  intro i hi
  have hi5 := List.mem_range.mp hi
  have e25 : (Pc.ch 123).sym = 25 := by decide +kernel
  rw [spotG, List.map_append, List.map_replicate, List.map_cons, pcN_sym (hg i hi5), e25]
  congr 2
  by_cases h4 : i < 4
  · rw [if_pos h4, if_pos h4, List.map_cons, (mark_ok (hk i h4).1 (hk i h4).2).2.1]; rfl
  · rw [if_neg h4, if_neg h4]; rfl
noncomputable def blot (y : Int) : Int := if 256 ≤ y then 256 else y
theorem spot_blot {ks v : List Int} {f : Nat → Int} {i : Nat} (hf : 256 ≤ f i) (hk : ∀ i, i < 4 → 0 ≤ ks.getD i 0 ∧ ks.getD i 0 ≤ 2) : (spotG ks v f i).map blot = spotG ks v (fun _ => 256) i ∧ (spotG ks v f i).filter (fun y => decide (256 ≤ y)) = [f i] := by
  unfold spotG
  have b25 : blot 25 = 25 := by decide
  have bf : blot (f i) = 256 := by unfold blot; rw [if_pos hf]
  constructor
  · rw [List.map_append, List.map_replicate, List.map_cons, b25, bf]
    congr 2
    by_cases h4 : i < 4
    · rw [if_pos h4]
      have := (mark_ok (hk i h4).1 (hk i h4).2).2.2
      rw [List.map_cons]
      unfold blot
      rw [if_neg (by first | decide | omega)]; rfl
    · rw [if_neg h4]; rfl
  · rw [List.filter_append, List.filter_replicate, if_neg (by decide), List.nil_append, List.filter_cons_of_pos (by simpa using hf)]
    congr 1
    by_cases h4 : i < 4
    · rw [if_pos h4]
      have := (mark_ok (hk i h4).1 (hk i h4).2).2.2
      rw [List.filter_cons_of_neg (by simpa using this)]; rfl
    · rw [if_neg h4]; rfl
theorem syms_blot {ks v : List Int} {f : Nat → Int} (hf : ∀ i, 256 ≤ f i) (hk : ∀ i, i < 4 → 0 ≤ ks.getD i 0 ∧ ks.getD i 0 ≤ 2) : (symsG ks v f).map blot = symsK ks v ∧ (symsG ks v f).filter (fun y => decide (256 ≤ y)) = (List.range 5).map f := by
  constructor
  · unfold symsG symsK
    rw [List.map_append, List.map_flatMap]
    have : (fun i => (spotG ks v f i).map blot) = spotG ks v fun _ => 256 := by funext i; exact (spot_blot (hf i) hk).1
    rw [this]; rfl
  · unfold symsG
    rw [List.filter_append, List.filter_flatMap]
    have : (fun i => (spotG ks v f i).filter fun y => decide (256 ≤ y)) = fun i => [f i] := by funext i; exact (spot_blot (hf i) hk).2
    rw [this]
    rw [List.filter_cons_of_neg (by decide), List.filter_nil, List.append_nil]
    rfl
theorem step_rel {y : Int} (hy : ¬ 256 ≤ y) {l : List Int} {t t' : Md} (h : t.step y = some t') : ∃ s', (Md.mk t.stk l t.made).step y = some s' ∧ s'.stk = t'.stk ∧ s'.made = t'.made ∧ s'.lvs = l := by
  obtain ⟨stk, lvs, made⟩ := t
  unfold Md.step at h ⊢
  rw [if_neg hy] at h ⊢
  dsimp only at h ⊢
  by_cases h1 : y = 25
  · rw [if_pos h1] at h ⊢; cases h; exact ⟨_, rfl, rfl, rfl, rfl⟩
  rw [if_neg h1] at h ⊢
  by_cases h2 : y = 26
  · rw [if_pos h2] at h ⊢
    match stk, h with
    | t :: u :: r, h =>
      dsimp only at h ⊢
      split at h
      · rename_i hc
        rw [if_pos hc]; cases h; exact ⟨_, rfl, rfl, rfl, rfl⟩
      · cases h
  rw [if_neg h2] at h ⊢
  by_cases h3 : y = 0
  · rw [if_pos h3] at h ⊢
    match stk, h with
    | t :: r, h =>
      dsimp only at h ⊢
      split at h
      · rename_i hc
        rw [if_pos hc]; cases h; exact ⟨_, rfl, rfl, rfl, rfl⟩
      · cases h
  rw [if_neg h3] at h ⊢
  by_cases h4 : y = 23 ∨ y = 49
  · rw [if_pos h4] at h ⊢
    match stk, h with
    | t :: r, h => dsimp only at h ⊢; cases h; exact ⟨_, rfl, rfl, rfl, rfl⟩
  rw [if_neg h4] at h ⊢
  cases h; exact ⟨_, rfl, rfl, rfl, rfl⟩
theorem run_rel : ∀ (ys : List Int) (l : List Int) (t t' : Md), t.run (ys.map blot) = some t' → ∃ s', (Md.mk t.stk l t.made).run ys = some s' ∧ s'.stk = t'.stk ∧ s'.made = t'.made ∧ s'.lvs = l ++ (ys.filter fun y => decide (256 ≤ y)).map (· - 256)
  | [], l, t, t', h => by
    cases h; exact ⟨_, rfl, rfl, rfl, by simp⟩
  | y :: ys, l, t, t', h => by
    rw [List.map_cons, Md.run] at h
    obtain ⟨u, h1, h2⟩ := Option.bind_eq_some_iff.mp h
    by_cases hy : 256 ≤ y
    · have hb : blot y = 256 := by unfold blot; rw [if_pos hy]
      rw [hb] at h1
      have hu : u = { t with lvs := t.lvs ++ [256 - 256] } := by
        have : t.step 256 = some { t with lvs := t.lvs ++ [256 - 256] } := by unfold Md.step; rw [if_pos (by decide)]
        rw [this] at h1; cases h1; rfl
      subst hu
      obtain ⟨s', k1, k2, k3, k4⟩ := run_rel ys (l ++ [y - 256]) _ t' h2
      refine ⟨s', ?_, k2, k3, ?_⟩
      · rw [Md.run]
        have : (Md.mk t.stk l t.made).step y = some (Md.mk t.stk (l ++ [y - 256]) t.made) := by unfold Md.step; rw [if_pos hy]
        rw [this]; exact k1
      · rw [k4, List.filter_cons_of_pos (by simpa using hy), List.map_cons]; simp
    · have hb : blot y = y := by unfold blot; rw [if_neg hy]
      rw [hb] at h1
      obtain ⟨s1, j1, j2, j3, j4⟩ := step_rel hy (l := l) h1
      obtain ⟨s', k1, k2, k3, k4⟩ := run_rel ys l u t' h2
      have hs1 : s1 = Md.mk u.stk l u.made := by
        obtain ⟨a, b, c⟩ := s1
        dsimp only at j2 j3 j4
        rw [j2, j3, j4]
      refine ⟨s', ?_, k2, k3, ?_⟩
      · rw [Md.run, j1, hs1]; exact k1
      · rw [k4, List.filter_cons_of_neg (by simpa using hy)]
theorem made_of {ks : List Int} {sg : List Nat} {V : List (List Int)} {v : List Int} (hl : ks.length = 4) (hk : ∀ k ∈ ks, 0 ≤ k ∧ k ≤ 2) (hs : sg.length = 5) (hg : ∀ n ∈ sg, SgOk n) (hv : VOk v) (hr : runB ks V v = true) (pages : List Str) (hc : pages.countP (· == enc ks sg v) = V.countP (· == v)) :
    MadeOk sg pages (enc ks sg v) := by
  have hg5 : ∀ i, i < 5 → SgOk (sg.getD i 0) := fun i hi => hg _ (getD_mem' 0 (by first | decide | omega))
  have hk4 := kb_getD hl hk
  have hf : ∀ i : Nat, (256 : Int) ≤ (fun i => 256 + ((sg.getD i 0 : Nat) : Int)) i := fun i => by show (256 : Int) ≤ 256 + _; omega
  obtain ⟨b1, b2⟩ := syms_blot (v := v) hf hk4
  unfold runB at hr
  split at hr
  · rename_i t ht
    rw [Bool.and_eq_true, decide_eq_true_eq] at hr
    rw [← b1] at ht
    obtain ⟨s', k1, k2, k3, k4⟩ := run_rel _ [] _ t ht
    refine ⟨pcsOf ks sg v, s', pcs_ok hg5 hk4 v, ?_, by have := pcs_len (ks := ks) (sg := sg) hv; omega, ?_, ?_, ?_⟩
    · have h1 : (flat (pcsOf ks sg v)).length ≤ (pcsOf ks sg v).length * 6 := length_flatMap_le fun p _ => pc_len p
      have h2 := pcs_len (ks := ks) (sg := sg) hv
      omega
    · rw [pcs_flat hg5]; rfl
    · rw [pcs_sym hg5 hk4]; exact k1
    · have hlv : s'.lvs = sg.map fun (n : Nat) => (n : Int) := by
        rw [k4, b2, List.map_map, List.nil_append]
        match sg, hs with
        | [a, b, c, d, e], _ => simp [List.range, List.range.loop]; omega
      unfold Md.fin
      rw [if_neg (by rw [k2, hr.1, hlv]; simp), k3, hr.2, hc]
  · cases hr
end Mine
end TP4

section TP5
open PySem PySem.W PySem.Calls PyProof.Rows
set_option autoImplicit false
set_option linter.unusedVariables false
set_option Elab.async false
set_option maxRecDepth 100000
set_option maxHeartbeats 1000000
namespace Mine

theorem findIdx_enc {ks : List Int} {sg : List Nat} (hs : sg.length = 5) (hg : ∀ n ∈ sg, SgOk n) {V : List (List Int)} (hV : ∀ v ∈ V, VOk v) {v : List Int} (hv : VOk v) : (V.map (enc ks sg)).findIdx (· == enc ks sg v) = V.findIdx (· == v) ∧ (V.map (enc ks sg)).countP (· == enc ks sg v) = V.countP (· == v) := by
  have e : (V.map (enc ks sg)).map (· == enc ks sg v) = V.map (· == v) := by
    rw [List.map_map]
    apply List.map_congr_left
    intro u hu
    show (enc ks sg u == enc ks sg v) = (u == v)
    rw [Bool.eq_iff_iff, beq_iff_eq, beq_iff_eq]
    exact ⟨fun h => enc_inj hs hg (hV u hu) hv h, fun h => by rw [h]⟩
  constructor
  · rw [Mine.findIdx_map, e, ← Mine.findIdx_map]
  · rw [countP_map', e, ← countP_map']

theorem heads_facts (W : List Wy) : ((headsOf W).map (·.1)).Nodup ∧ (∀ p, p ∈ (headsOf W).map (·.1) ↔ ∃ w ∈ W, pageOf w = p) ∧ ∀ p d, (headsOf W).lookup p = some d → ∃ w ∈ W, pageOf w = p ∧ d = .lst ((aheadOf w).map .int) := by
  obtain ⟨k1, k2, k3⟩ := heads_fold W [] .nil
  refine ⟨k1, fun p => (k2 p).trans ⟨fun h => ?_, fun h => .inl h⟩, fun p d h => ?_⟩
  · rcases h with h | h
    · exact h
    · cases h
  · rcases k3 p d h with h | h
    · exact h
    · cases h

theorem plainW {ks : List Int} {sg : List Nat} {W : List Wy} {V T : List (List Int)} {S : List Sh} (hl : ks.length = 4) (hk : ∀ k ∈ ks, 0 ≤ k ∧ k ≤ 2) (hs : sg.length = 5) (hg : ∀ n ∈ sg, SgOk n) (O : KOk ks V T S)
    (hSh : W.map Wy.sh = S) (hAh : W.map aheadOf = V) (hpg : ∀ w ∈ W, pageOf w = enc ks sg (aheadOf w)) (h14 : W.length = 14) :
    W.map pageOf = W.map (dueOf ks sg) ∧ ((risingOf W).length : Int) = sumsFn (ks.map fun k => if k = 0 then 1 else 0) ∧ TurnOk ks W ∧ idxS (W.map pageOf) = idxI (kinRun ks W 14) ∧ (∀ p ∈ risingOf W, MadeOk sg (W.map pageOf) p) ∧
      ∀ i, i + 1 < (risingOf W).length → RiseOk (headsOf W) ((risingOf W).getD i "") ((risingOf W).getD (i + 1) "") := by
  have hPg : W.map pageOf = V.map (enc ks sg) := by
    rw [← hAh, List.map_map]
    exact List.map_congr_left hpg
  have hmemV : ∀ v, v ∈ V ↔ ∃ w ∈ W, aheadOf w = v := fun v => by rw [← hAh, List.mem_map]
  have hTv : ∀ v ∈ T, VOk v := fun v hv => O.v v ((O.vt v).mpr hv)
  obtain ⟨k1, k2, k3⟩ := heads_facts W
  have hrise : risingOf W = T.map (enc ks sg) := by
    symm
    refine sortS_unique ?_ ?_
    · refine (List.perm_ext_iff_of_nodup ?_ k1).mpr fun p => ?_
      · rw [List.nodup_iff_pairwise_ne, List.pairwise_map]
        refine O.pair.imp_of_mem fun {v u} hv hu h e => ?_
        have := enc_lt (ks := ks) hs hg (hTv v hv) (hTv u hu) h
        rw [e] at this
        exact absurd this (List.lt_irrefl _)
      · rw [List.mem_map, k2 p]
        constructor
        · rintro ⟨v, hv, rfl⟩
          obtain ⟨w, hw, e⟩ := (hmemV v).mp ((O.vt v).mpr hv)
          exact ⟨w, hw, by rw [hpg w hw, e]⟩
        · rintro ⟨w, hw, rfl⟩
          exact ⟨aheadOf w, (O.vt _).mp ((hmemV _).mpr ⟨w, hw, rfl⟩), (hpg w hw).symm⟩
    · rw [List.pairwise_map]
      refine O.pair.imp_of_mem fun {v u} hv hu h => ?_
      exact List.lt_asymm (enc_lt (ks := ks) hs hg (hTv v hv) (hTv u hu) h)
  refine ⟨?_, ?_, ?_, ?_, ?_, ?_⟩
  · exact List.map_congr_left fun w hw => by rw [hpg w hw, due_enc hl hs hg w]
  · rw [hrise, List.length_map]; exact O.len
  · refine ⟨fun i hi => ?_⟩
    have hSl : S.length = 14 := by rw [← hSh, List.length_map]; exact h14
    have hm : shAt W i ∈ S := by unfold shAt; rw [hSh]; exact getD_mem' dSh (by first | decide | omega)
    have := List.all_eq_true.mp O.sh _ hm
    simp only [Bool.and_eq_true, decide_eq_true_eq, List.all_eq_true] at this
    obtain ⟨⟨⟨t1, t2⟩, t3⟩, t4⟩ := this
    refine ⟨hl ▸ t1, t2, t3, fun o ho => ?_⟩
    rw [hSh]
    exact t4 o ho
  · have e1 : kinRun ks W 14 = kinRunS ks (W.map Wy.sh) 14 := rfl
    rw [hPg, e1, hSh, ← O.kin]
    unfold idxS idxV
    rw [List.map_map]
    apply List.map_congr_left
    intro v hv
    show ((List.findIdx _ _ : Nat) : Int) = _
    rw [(findIdx_enc hs hg O.v (O.v v hv)).1]
  · intro p hp
    rw [hrise] at hp
    obtain ⟨v, hv, rfl⟩ := List.mem_map.mp hp
    refine made_of hl hk hs hg (hTv v hv) (O.run v hv) _ ?_
    rw [hPg]
    exact (findIdx_enc hs hg O.v (hTv v hv)).2
  · intro i hi
    rw [hrise] at hi ⊢
    rw [List.length_map] at hi
    have g : ∀ j, j < T.length → (T.map (enc ks sg)).getD j "" = enc ks sg (T.getD j []) ∧ T.getD j [] ∈ T := fun j hj => by
      refine ⟨?_, getD_mem' [] hj⟩
      rw [List.getD_eq_getElem?_getD, List.getElem?_map, List.getD_eq_getElem?_getD, List.getElem?_eq_getElem hj]; rfl
    obtain ⟨g1, m1⟩ := g i (by first | decide | omega)
    obtain ⟨g2, m2⟩ := g (i + 1) hi
    rw [g1, g2]
    have hlt : ltV (T.getD i []) (T.getD (i + 1) []) = true := by
      have := List.pairwise_iff_getElem.mp O.pair i (i + 1) (by first | decide | omega) hi (by first | decide | omega)
      rw [List.getD_eq_getElem?_getD, List.getElem?_eq_getElem (by omega : i < T.length), List.getD_eq_getElem?_getD, List.getElem?_eq_getElem hi]; exact this
    generalize T.getD i [] = v at m1 hlt ⊢
    generalize T.getD (i + 1) [] = u at m2 hlt ⊢
    have hlook : ∀ v ∈ T, (headsOf W).lookup (enc ks sg v) = some (.lst (v.map .int)) := fun v hv => by
      obtain ⟨w, hw, e⟩ := (hmemV v).mp ((O.vt v).mpr hv)
      have hkey : enc ks sg v ∈ (headsOf W).map (·.1) := (k2 _).mpr ⟨w, hw, by rw [hpg w hw, e]⟩
      obtain ⟨d, hd⟩ := lookup_of_key hkey
      obtain ⟨w', hw', e1, e2⟩ := k3 _ d hd
      rw [hpg w' hw'] at e1
      have := enc_inj hs hg (O.v _ ((hmemV _).mpr ⟨w', hw', rfl⟩)) (hTv v hv) e1
      rw [hd, e2, this]
    obtain ⟨c1, c2⟩ := coll_lt (enc_lt (ks := ks) hs hg (hTv v m1) (hTv u m2) hlt)
    exact ⟨v, u, hlook v m1, hlook u m2, (hTv v m1).1.trans (hTv u m2).1.symm, ltV_ge hlt, c1, c2⟩

theorem plain (ks : List Int) (sg : List Nat) (hl : ks.length = 4) (hk : ∀ k ∈ ks, 0 ≤ k ∧ k ≤ 2) (hs : sg.length = 5) (hg : ∀ n ∈ sg, SgOk n) : PlainOk ks sg := by
  have hW := ways_of hl hk hs
  obtain ⟨a, b, c, d, e, f⟩ := plainW hl hk hs hg (kOk hl hk) (wys_sh ks sg) (wys_ahead ks sg) (fun w hw => page_enc hl hk hs hw) hW.n14
  exact ⟨hW, a, (heads_facts _).1, b, c, d, e, f⟩
end Mine
end TP5

section TJ3
open PySem PySem.W PySem.Calls PyProof.Rows
set_option autoImplicit false
set_option linter.unusedVariables false
set_option Elab.async false
set_option maxRecDepth 100000
set_option maxHeartbeats 4000000
namespace Mine
noncomputable def ofE (e : DictEntry) : Str × Tok × Int × Tok := match e.key, e.val with
  | .str k t, .int v u => (k, t, v, u)
  | _, _ => (⟨#[]⟩, 0, 0, 0)
noncomputable def mkE (P : Params) (q : Str × Tok × Int × Tok) : DictEntry := { hash := PyData.keyHash P q.1, key := .str q.1 q.2.1, val := .int q.2.2.1 q.2.2.2 }
theorem et_obj {pr : Program} {w : World} {o : Obj} {es : Array DictEntry} {n : Nat} (l : List (Str × Tok × Int × Tok)) (hx : o.ExactDict) (hd : o.data = .dict es n) (hl : es.toList = l.map (mkE w.params)) (hk : l.map (fun q => (q.1, q.2.2.1)) = tokTable) :
    ∃ kvsV, SdObj pr w o kvsV ∧ ∀ I, KV I kvsV (tokTable.map fun p => (p.1, D.int p.2)) := by
  have hpairs : ∀ l : List (Str × Tok × Int × Tok), PySem.Pairs (PySem.strKind pr w) (l.map (mkE w.params)) (l.map fun q => (q.1, .int q.2.2.1 q.2.2.2)) := fun l => by
    induction l with
    | nil => exact .nil
    | cons q l ih => exact .cons (by show Value.isStrOf q.1 (.str q.1 q.2.1) = true; simp [Value.isStrOf]) rfl ih
  have hkv : ∀ (I : Mp) (l : List (Str × Tok × Int × Tok)), KV I (l.map fun q => (q.1, Value.int q.2.2.1 q.2.2.2)) ((l.map fun q => (q.1, q.2.2.1)).map fun p => (p.1, D.int p.2)) := fun I l => by
    induction l with
    | nil => exact .nil
    | cons q l ih => exact .cons (.int _ _) ih
  refine ⟨l.map fun q => (q.1, .int q.2.2.1 q.2.2.2), ⟨hx, es, n, hd, fun e he => ?_, hl ▸ hpairs l, ?_⟩, fun I => hk ▸ hkv I l⟩
  · have he' : e ∈ es.toList := Array.mem_toList_iff.mpr he
    rw [hl] at he'
    obtain ⟨q, _, rfl⟩ := List.mem_map.mp he'
    exact ⟨q.1, by show Value.isStrOf q.1 (.str q.1 q.2.1) = true; simp [Value.isStrOf], rfl⟩
  · have : (l.map fun q => (q.1, Value.int q.2.2.1 q.2.2.2)).map (·.1) = tokTable.map (·.1) := by rw [← hk, List.map_map, List.map_map]; rfl
    rw [this]; decide +kernel
theorem fn_of {V : Program} {n : Str} (h : ∃ d, (recsOf V).find? (fun e => e.name == n) = some d ∧ pw.theDef n = some (d.params, d.body, d.scope) ∧ d.params.defaults = []) (ps : Arguments) (bd : List Stmt) (sc : Scope) (hd' : pw.theDef n = some (ps, bd, sc)) :
    ∃ e ∈ (recsOf V).map itemOf, e.params.defaults = [] ∧ e.name = n ∧ e.params = ps ∧ e.body = bd ∧ e.scope = sc := by
  obtain ⟨d, h1, h2, h3⟩ := h
  rw [h2] at hd'
  injection hd' with hd'
  injection hd' with e1 e2
  injection e2 with e2 e3
  exact ⟨itemOf d, List.mem_map.mpr ⟨d, List.mem_of_find?_eq_some h1, rfl⟩, h3, beq_iff_eq.mp (List.find?_some (p := fun e : DefRec => e.name == n) h1), e1, e2, e3⟩

/-- what is looked at in the head: the view of the text, the objects written out -/
structure HeadOk (V : Program) (K : Params → Frag) : Prop where
  qnf : ∀ P, QNf (K P) 337 278 271 (.ref 277)
  et : ∀ P, ∃ o es n, (K P).lookup 247 = some o ∧ o.ExactDict ∧ o.data = .dict es n ∧ es.toList = (es.toList.map ofE).map (mkE P) ∧ (es.toList.map ofE).map (fun q => (q.1, q.2.2.1)) = tokTable
  int : ∀ P, ∀ x ∈ intNames, ∃ t, nsIn (K P) mainGlobals x.1 = some (some (.int x.2 t))
  free : ∀ P, ∀ x ∈ bltNames, nsIn (K P) mainGlobals x = some none
  ett : ∀ P, nsIn (K P) mainGlobals "EXACT_TOKEN_TYPES" = some (some (.ref 247))
  qn : ∀ P, nsIn (K P) mainGlobals "QName" = some (some (.ref 337))
  fn : ∀ n ∈ fnNames, ∃ d, (recsOf V).find? (fun e => e.name == n) = some d ∧ pw.theDef n = some (d.params, d.body, d.scope) ∧ d.params.defaults = []
  law : ∃ d, (recsOf V).find? (fun e => e.name == ("law" : Str)) = some d ∧ pw.theDef "law" = some (d.params, d.body, d.scope) ∧ d.params.defaults = []
  imp : importsNone V = true
theorem gx_head {V : Program} {K : Params → Frag} (HO : HeadOk V K) {loose : List Str} {mean : ExcName → Option Value} {mg mb : Str → Option Value} {w : World} {h : Heap} (T : Top V loose mean mg mb h) (TA : ∀ e ∈ (recsOf V).map itemOf, e.params.defaults = [] → e.At mg h)
    (KX : (K w.params).In h) (A : Around) (env : Env) (Ia : Mp) (wr : Bool) : GX mg mb { prog := pw, w := w, A := A, env := env, B := h.get?, Ia := Ia, wr := wr } where
  g := T.g
  b := T.b
  lim := T.nolimit
  bl := T.builtins
  free := fun x hx => mg_none_of KX T.g (HO.free _ x hx)
  int := fun x hx => let ⟨t, e⟩ := HO.int _ x hx; ⟨t, mg_of KX T.g e⟩
  fn := fun n hn ps bd sc hd' => by
    obtain ⟨e, he, hdf, rfl, rfl, rfl, rfl⟩ := fn_of (HO.fn n hn) ps bd sc hd'
    obtain ⟨a, cc, P, o, pm, doc, h1, h2, h3, h4, _⟩ := TA e he hdf
    exact ⟨a, o, pm, .ref cc, doc, h1, h2, h3, h4⟩
  sysm := let ⟨mm, ⟨o, _, _, e, _⟩, _⟩ := (T.seer HO.imp).mods; ⟨o, e⟩
  ett := by
    obtain ⟨o, es, n, h1, h2, h3, h4, h5⟩ := HO.et w.params
    obtain ⟨kvsV, k1, k2⟩ := et_obj (pr := pw) (w := w) _ h2 h3 h4 h5
    exact ⟨247, o, kvsV, mg_of KX T.g (HO.ett _), KX _ _ h1, rfl, k1, k2⟩
  qn := ⟨K w.params, 337, 278, 271, .ref 277, KX, mg_of KX T.g (HO.qn _), HO.qnf _⟩

theorem law_def : ∃ ps bd sc, pw.theDef "law" = some (ps, bd, sc) ∧ cixOf sc.names = cixLaw ∧ ((cellsFrom 0 sc.names []).map (·.1)).Nodup ∧
    sc.names.lookup ("script" : Str) = some .local ∧ (sc.isCoroutine = false ∧ sc.isGenerator = false ∧ sc.kind = .function) ∧ ∀ (pm code doc v : Value), bindArgs (docDef "law" ps bd sc pm code doc) ⟨[v], []⟩ = pure [(("script" : Str), v)] :=
  ⟨_, _, _, rfl, rfl, by decide +kernel, rfl, ⟨rfl, rfl, rfl⟩, fun _ _ _ _ => rfl⟩

theorem well_ints {P : Params} {h : Heap} : ∀ {vs : List Value} {xs : List Int}, WellAll P h vs (ofPys (xs.map PyData.int)) → ∀ I, Reps I vs (xs.map .int)
  | vs, [], w, I => by cases w; exact .nil
  | vs, x :: xs, w, I => by
    cases w with
    | cons h1 h2 => cases h1; exact .cons (.int _ _) (well_ints h2 I)

theorem law_done {V : Program} {K : Params → Frag} (HO : HeadOk V K) (hP : ∀ (ks : List Int) (sg : List Nat), ks.length = 4 → (∀ k ∈ ks, 0 ≤ k ∧ k ≤ 2) → sg.length = 5 → (∀ n ∈ sg, SgOk n) → PlainOk ks sg)
    {loose : List Str} {mean : ExcName → Option Value} {mg mb : Str → Option Value} {w : World} {s : Shared} {R : Result → Shared → Prop} {fa l : Addr} {xs : List Int} (T : Top V loose mean mg mb s.heap) (TA : ∀ e ∈ (recsOf V).map itemOf, e.params.defaults = [] → e.At mg s.heap)
    (KX : (K w.params).In s.heap) (hmg : mg "law" = some (.ref fa)) (w1 : Well w.params s.heap (.ref l) (ofPy (.list (xs.map PyData.int)))) (hx : xs.length ≤ 63)
    (hR : ∀ h' tk, (∀ b o, s.heap.get? b = some o → h'.get? b = some o) → R (.ok (.ret (.bool true))) { s with heap := h', toks := tk }) : codeAny (model pw w) callerA (.call (.ref fa) ⟨[.ref l], []⟩) R s := by
  obtain ⟨ps, bd, sc, hd', hcix, hnd, hsc, ⟨hco, hgen, hkd⟩, hbind⟩ := law_def
  obtain ⟨e, he, hdf, e1, rfl, rfl, rfl⟩ := fn_of HO.law ps bd sc hd'
  obtain ⟨a, cc, P, o, pm, doc, h1, h2, h3, h4, _⟩ := TA e he hdf
  rw [e1] at h1 h3 h4
  rw [hmg] at h1
  cases h1
  cases w1 with
  | @list _ vs _ g wa =>
  have hI : Sub (fun b => if b = l then some (lobj vs 0) else none) s.heap.get? := fun b o' e => by
    by_cases hb : b = l
    · subst hb; simp only [if_true] at e; cases e; exact g
    · simp only [if_neg hb] at e; cases e
  refine law_code (d := .lst (xs.map .int)) (ret := .bool true) (by decide) h2 h3 T.nolimit h4 (hbind _ _ _ _) hsc hI (.lst (n := 0) (vs := vs) (by simp) (well_ints wa _)) ?_ (fun v h' tk J k _ hv => by cases hv; exact hR h' tk k) hnd hco hgen hkd
  have GXh := gx_head HO T TA KX (callerA.deeper (envOfC "law" e.scope s.heap.objs.size fa (.ref cc))) (envOfC "law" e.scope s.heap.objs.size fa (.ref cc)) (fun b => if b = l then some (lobj vs 0) else none) true
  have key := law_walk hP hd' { prog := pw, w := w, A := callerA, env := envOfC "law" e.scope s.heap.objs.size fa (.ref cc), B := s.heap.get?, Ia := fun b => if b = l then some (lobj vs 0) else none, wr := true } s.heap.objs.size fa (.ref cc) s.heap.get? (fun b => if b = l then some (lobj vs 0) else none) xs GXh
    ⟨rfl, by show callerA.depth + 1 + 40 < recursionLimit; decide, by show callerA.units + 3 + 3 * 40 + 3 < cLine; decide⟩ (by first | decide | omega)
  rw [hcix]
  exact key
end Mine
end TJ3

section TJ5
open PySem PySem.W PySem.Calls PyProof.Rows
set_option autoImplicit false
set_option linter.unusedVariables false
set_option maxRecDepth 100000
namespace Mine
/-! names that the head would give to its twins: with the names taken it makes none (the compiled file stays small) -/
theorem law_holds.tw11223184984439025696 : True := trivial
theorem law_holds.tw1377309892636839040 : True := trivial
theorem law_holds.tw2152083551845799040 : True := trivial
theorem law_holds.tw1099259369241382048 : True := trivial
theorem law_holds.tw4370086069003782432 : True := trivial
theorem law_holds.tw8806649888931605024 : True := trivial
theorem law_holds.tw1031057903888850656 : True := trivial
theorem law_holds.tw545109181885906688 : True := trivial
theorem law_holds.tw7205925804402219904 : True := trivial
theorem law_holds.tw10465528174321978529 : True := trivial
theorem law_holds.tw2124134355350193313 : True := trivial
theorem law_holds.tw2558664710541493025 : True := trivial
theorem law_holds.tw1419976552520188833 : True := trivial
theorem law_holds.tw8652346329174877282 : True := trivial
theorem law_holds.tw8720880381367431298 : True := trivial
theorem law_holds.tw15154110283740273250 : True := trivial
theorem law_holds.tw5769158387606399586 : True := trivial
theorem law_holds.tw11067727234611919522 : True := trivial
theorem law_holds.tw8386679336120195906 : True := trivial
theorem law_holds.tw445335354869643106 : True := trivial
theorem law_holds.tw16893121556090616931 : True := trivial
theorem law_holds.tw8369274380968253667 : True := trivial
theorem law_holds.tw16836969012518115619 : True := trivial
theorem law_holds.tw14828999820898988419 : True := trivial
theorem law_holds.tw2782584491509435139 : True := trivial
theorem law_holds.tw18116031599527039140 : True := trivial
theorem law_holds.tw12459966957829302596 : True := trivial
theorem law_holds.tw4037582482628031876 : True := trivial
theorem law_holds.tw5640673133297012132 : True := trivial
theorem law_holds.tw18254337876149969668 : True := trivial
theorem law_holds.tw723553956927101924 : True := trivial
theorem law_holds.tw17169043682955552997 : True := trivial
theorem law_holds.tw6709271908398517637 : True := trivial
theorem law_holds.tw12831907817818079685 : True := trivial
theorem law_holds.tw13478230802861573701 : True := trivial
theorem law_holds.tw2127001594154878533 : True := trivial
theorem law_holds.tw10222300733896627045 : True := trivial
theorem law_holds.tw17237755526102222789 : True := trivial
theorem law_holds.tw7304591109411159013 : True := trivial
theorem law_holds.tw4329158554759489670 : True := trivial
theorem law_holds.tw12253411696296436870 : True := trivial
theorem law_holds.tw4507691559827018278 : True := trivial
theorem law_holds.tw8549365171731915398 : True := trivial
theorem law_holds.tw15527639110640922598 : True := trivial
theorem law_holds.tw2644310842459337959 : True := trivial
theorem law_holds.tw12496508351571488999 : True := trivial
theorem law_holds.tw9758593294864014727 : True := trivial
theorem law_holds.tw2387193687640843687 : True := trivial
theorem law_holds.tw3136910860242942599 : True := trivial
theorem law_holds.tw13342518741750886279 : True := trivial
theorem law_holds.tw17470365217354309832 : True := trivial
theorem law_holds.tw17253691774821329096 : True := trivial
theorem law_holds.tw14064573792008682920 : True := trivial
theorem law_holds.tw17993387198741990920 : True := trivial
theorem law_holds.tw12213744687394265672 : True := trivial
theorem law_holds.tw15567558954438479688 : True := trivial
theorem law_holds.tw2055734563569237896 : True := trivial
theorem law_holds.tw3110860835449505704 : True := trivial
theorem law_holds.tw2442502879453312968 : True := trivial
theorem law_holds.tw10666784280354678857 : True := trivial
theorem law_holds.tw18051328159682125866 : True := trivial
theorem law_holds.tw13336368349410954346 : True := trivial
theorem law_holds.tw194939583717160490 : True := trivial
theorem law_holds.tw13766487248619392586 : True := trivial
theorem law_holds.tw2322801206320994539 : True := trivial
theorem law_holds.tw1832781179975386347 : True := trivial
theorem law_holds.tw2102315897755806987 : True := trivial
theorem law_holds.tw7408322871517469003 : True := trivial
theorem law_holds.tw13642005409729077643 : True := trivial
theorem law_holds.tw13280740594461564331 : True := trivial
theorem law_holds.tw9884440891127344651 : True := trivial
theorem law_holds.tw2006301483956418059 : True := trivial
theorem law_holds.tw4581845663705801772 : True := trivial
theorem law_holds.tw17046799393618780204 : True := trivial
theorem law_holds.tw7775064044895347852 : True := trivial
theorem law_holds.tw11470271118054631628 : True := trivial
theorem law_holds.tw3776956092104397036 : True := trivial
theorem law_holds.tw5981114437932730796 : True := trivial
theorem law_holds.tw11666318101497114028 : True := trivial
theorem law_holds.tw14774650325386425613 : True := trivial
theorem law_holds.tw15352839923633478061 : True := trivial
theorem law_holds.tw13087128984098923117 : True := trivial
theorem law_holds.tw15341342317828512493 : True := trivial
theorem law_holds.tw17458534234597298029 : True := trivial
theorem law_holds.tw3896150654470677357 : True := trivial
theorem law_holds.tw6723812968561706957 : True := trivial
theorem law_holds.tw14571795756577361901 : True := trivial
theorem law_holds.tw13092103797297032270 : True := trivial
theorem law_holds.tw11803358882649189518 : True := trivial
theorem law_holds.tw2139172203440323022 : True := trivial
theorem law_holds.tw4492043994082249198 : True := trivial
theorem law_holds.tw4991859449750346478 : True := trivial
theorem law_holds.tw8984712037535005518 : True := trivial
theorem law_holds.tw4008084134468147086 : True := trivial
theorem law_holds.tw12916433639463454735 : True := trivial
theorem law_holds.tw12108977868540685583 : True := trivial
theorem law_holds.tw7696488724909661519 : True := trivial
theorem law_holds.tw9032369906271771983 : True := trivial
theorem law_holds.tw8854015012368427407 : True := trivial
theorem law_holds.tw2748878608749494831 : True := trivial
theorem law_holds.tw5506821171919863439 : True := trivial
theorem law_holds.tw2887994833065977647 : True := trivial
theorem law_holds.tw17580165497215679439 : True := trivial
theorem law_holds.tw16106779387088534511 : True := trivial
theorem law_holds.tw9403268196540146800 : True := trivial
theorem law_holds.tw10954758410522031216 : True := trivial
theorem law_holds.tw9187647767651647856 : True := trivial
theorem law_holds.tw18405825783785185168 : True := trivial
theorem law_holds.tw15514866124879379921 : True := trivial
theorem law_holds.tw3682559726232862161 : True := trivial
theorem law_holds.tw9207643191828677137 : True := trivial
theorem law_holds.tw2731376850318366449 : True := trivial
theorem law_holds.tw13431030151845061361 : True := trivial
theorem law_holds.tw2043166853727251185 : True := trivial
theorem law_holds.tw15617896438947887921 : True := trivial
theorem law_holds.tw14925382992726071281 : True := trivial
theorem law_holds.tw13882729330811710610 : True := trivial
theorem law_holds.tw9645634856123762962 : True := trivial
theorem law_holds.tw11347954631545130290 : True := trivial
theorem law_holds.tw12303009252429188658 : True := trivial
theorem law_holds.tw498061464947678834 : True := trivial
theorem law_holds.tw15644819842384902770 : True := trivial
theorem law_holds.tw293627430662643474 : True := trivial
theorem law_holds.tw11100686419730198450 : True := trivial
theorem law_holds.tw6861490101519172755 : True := trivial
theorem law_holds.tw3426384778480675251 : True := trivial
theorem law_holds.tw9650042593237643699 : True := trivial
theorem law_holds.tw15609566024721092083 : True := trivial
theorem law_holds.tw8860054118572591635 : True := trivial
theorem law_holds.tw12645607732203181651 : True := trivial
theorem law_holds.tw10007947361888340627 : True := trivial
theorem law_holds.tw14596297492920191028 : True := trivial
theorem law_holds.tw3420713379713995892 : True := trivial
theorem law_holds.tw6553333263825352884 : True := trivial
theorem law_holds.tw7731979676555859252 : True := trivial
theorem law_holds.tw6776455111828631412 : True := trivial
theorem law_holds.tw4503035019201841076 : True := trivial
theorem law_holds.tw179590077315354965 : True := trivial
theorem law_holds.tw3253820488102484341 : True := trivial
theorem law_holds.tw8061732933902216757 : True := trivial
theorem law_holds.tw8970147916757833333 : True := trivial
theorem law_holds.tw11764581739189218997 : True := trivial
theorem law_holds.tw6911747868599837429 : True := trivial
theorem law_holds.tw3674665740742831893 : True := trivial
theorem law_holds.tw15726739188670627701 : True := trivial
theorem law_holds.tw8544438784908759957 : True := trivial
theorem law_holds.tw11297062200503488469 : True := trivial
theorem law_holds.tw4441770287765753910 : True := trivial
theorem law_holds.tw18221580467831097590 : True := trivial
theorem law_holds.tw687851300278632918 : True := trivial
theorem law_holds.tw5389484754426515990 : True := trivial
theorem law_holds.tw6860709855171689206 : True := trivial
theorem law_holds.tw1710076424337546998 : True := trivial
theorem law_holds.tw9423440377400516374 : True := trivial
theorem law_holds.tw11677100312832694166 : True := trivial
theorem law_holds.tw12949845418750544790 : True := trivial
theorem law_holds.tw16691439815215545270 : True := trivial
theorem law_holds.tw15759456685926392790 : True := trivial
theorem law_holds.tw16805829885119392726 : True := trivial
theorem law_holds.tw7408472829698581751 : True := trivial
theorem law_holds.tw14997073306097389879 : True := trivial
theorem law_holds.tw5087963091746180759 : True := trivial
theorem law_holds.tw10242277825702978295 : True := trivial
theorem law_holds.tw9682718004065560343 : True := trivial
theorem law_holds.tw15739221030334482584 : True := trivial
theorem law_holds.tw17183477848116922584 : True := trivial
theorem law_holds.tw2782419253953178936 : True := trivial
theorem law_holds.tw3035144380315620824 : True := trivial
theorem law_holds.tw9552830710289189752 : True := trivial
theorem law_holds.tw4273555757443719353 : True := trivial
theorem law_holds.tw17499823404086765753 : True := trivial
theorem law_holds.tw14228406130034108761 : True := trivial
theorem law_holds.tw17264387287909652857 : True := trivial
theorem law_holds.tw14498155544194170393 : True := trivial
theorem law_holds.tw18261290160731607033 : True := trivial
theorem law_holds.tw14531881819706719225 : True := trivial
theorem law_holds.tw13190703287169160282 : True := trivial
theorem law_holds.tw12684681026606017882 : True := trivial
theorem law_holds.tw8957123355933967898 : True := trivial
theorem law_holds.tw2667362832866536986 : True := trivial
theorem law_holds.tw1186782194237197914 : True := trivial
theorem law_holds.tw12115171985352901274 : True := trivial
theorem law_holds.tw10346744231138586394 : True := trivial
theorem law_holds.tw4464252984393422682 : True := trivial
theorem law_holds.tw10027879121665395642 : True := trivial
theorem law_holds.tw3234938669768167354 : True := trivial
theorem law_holds.tw3253568177066640346 : True := trivial
theorem law_holds.tw7185456241796803578 : True := trivial
theorem law_holds.tw3028213030429885723 : True := trivial
theorem law_holds.tw3572487005457819259 : True := trivial
theorem law_holds.tw14904137174637212347 : True := trivial
theorem law_holds.tw8285764192309689115 : True := trivial
theorem law_holds.tw1341266762083198811 : True := trivial
theorem law_holds.tw724200737284857819 : True := trivial
theorem law_holds.tw784011647948385275 : True := trivial
theorem law_holds.tw3258674603298201628 : True := trivial
theorem law_holds.tw11315637435222106236 : True := trivial
theorem law_holds.tw10609929442622069884 : True := trivial
theorem law_holds.tw16612359704951912572 : True := trivial
theorem law_holds.tw10566571302883470556 : True := trivial
theorem law_holds.tw201773371166282204 : True := trivial
theorem law_holds.tw10517181812226103804 : True := trivial
theorem law_holds.tw11404014056486942332 : True := trivial
theorem law_holds.tw10817052189556005596 : True := trivial
theorem law_holds.tw13294052699122959228 : True := trivial
theorem law_holds.tw16963379459963715452 : True := trivial
theorem law_holds.tw9843604407834444796 : True := trivial
theorem law_holds.tw607795012822917213 : True := trivial
theorem law_holds.tw11126432536435168541 : True := trivial
theorem law_holds.tw9992725586745946429 : True := trivial
theorem law_holds.tw15274831704391544125 : True := trivial
theorem law_holds.tw16768317535328552349 : True := trivial
theorem law_holds.tw11924911360389889469 : True := trivial
theorem law_holds.tw1376783240425437725 : True := trivial
theorem law_holds.tw17942499455142895165 : True := trivial
theorem law_holds.tw1778412455037948541 : True := trivial
theorem law_holds.tw15140378357190847165 : True := trivial
theorem law_holds.tw10371022188087798493 : True := trivial
theorem law_holds.tw2142710703020379005 : True := trivial
theorem law_holds.tw15661869461025623997 : True := trivial
theorem law_holds.tw9529696498207198238 : True := trivial
theorem law_holds.tw12116493165278983582 : True := trivial
theorem law_holds.tw4781243967656130014 : True := trivial
theorem law_holds.tw4643041051132140158 : True := trivial
theorem law_holds.tw9871626496009991038 : True := trivial
theorem law_holds.tw3049941959672503198 : True := trivial
theorem law_holds.tw15150646450996357022 : True := trivial
theorem law_holds.tw2503670479209048990 : True := trivial
theorem law_holds.tw17713402740875732926 : True := trivial
theorem law_holds.tw7221428835167493151 : True := trivial
theorem law_holds.tw811035903429128223 : True := trivial
theorem law_holds.tw14289194402921355359 : True := trivial
theorem law_holds.tw13154458805202713791 : True := trivial
theorem law_holds.tw11037684851510583519 : True := trivial
theorem law_holds.tw3329330481660614911 : True := trivial
theorem law_holds.tw12780804625047726367 : True := trivial
theorem law_holds.tw12874571214893485439 : True := trivial
theorem law_holds.tw9853128532771029439 : True := trivial
theorem law_holds.tw2175471002772951711 : True := trivial
theorem law_holds.tw7698266285781116935 : True := trivial
set_option Elab.async true in
set_option maxHeartbeats 0 in
theorem law_holds : PySem.Challenge.rw_xo0035_01.Holds := by
  w_on
  o_law
  k_head
  (case hw => w_witness2)
  k_fill
  intro w s₀ s₁ mg mb G Y fa o pm cd doc dV kV ho hd hcd hD hmg hg args vals as hpre hlay hrd hwl hlo
  have KX := kIn_of Y
  refine Ground.open G ?_
  intro T B D TE TW
  try (refine guard_noD D (by decide +kernel) ?_; clear D)
  have TA := at_of_top T
  wrow_args hpre hlay hrd hwl hlo
  first | refine callC_kw (enter_call ?_) | refine enter_call ?_ | refine callC_kw (enter_callW ?_) | refine enter_callW ?_ | w_how
  w_top on
  try refine codeAny_mono ?_ (fun _ _ g => GoodW.toG g)
  refine law_done ?HO plain T TA KX hmg (by assumption) (by omega) fun h' tk hk => ?post
  case post =>
    refine ⟨.inl ⟨.bool true, .bool true, [], rfl, raisesW_false ?_, .bool true, ?_, fun _ => ⟨.nil, fun a h => nomatch h⟩⟩, hk, rfl, hg⟩
    · wrow_none_raised
    · wrow_post
  case HO =>
    refine ⟨fun P => ⟨?q1, ?q2, ?q3, ?q4, ⟨_, _, _, _, _, _, _, _, rfl⟩, ⟨_, _, rfl, rfl⟩, ?q5, ?q6, ?q7, ?q8, ?q9, ?q10, ?q11⟩, fun P => ⟨_, _, _, rfl, ⟨rfl, rfl, rfl⟩, rfl, ?e1, ?e2⟩, ?i1, ?f1, fun P => ?g1, fun P => ?g2, ?fn, ⟨_, rfl, rfl, rfl⟩, ?im⟩
    case i1 =>
      intro P x hx
      simp only [intNames, List.mem_cons, List.not_mem_nil, or_false] at hx
      rcases hx with rfl | rfl | rfl | rfl | rfl | rfl | rfl <;> exact ⟨_, rfl⟩
    case f1 =>
      intro P x hx
      simp only [bltNames, List.mem_cons, List.not_mem_nil, or_false] at hx
      rcases hx with rfl | rfl | rfl | rfl | rfl | rfl | rfl | rfl | rfl | rfl | rfl <;> kernel_rfl
    case fn =>
      intro n hn
      simp only [fnNames, List.mem_cons, List.not_mem_nil, or_false] at hn
      rcases hn with rfl | rfl | rfl | rfl | rfl | rfl | rfl | rfl | rfl | rfl | rfl | rfl | rfl <;> exact ⟨_, rfl, rfl, rfl⟩
    case im => decide +kernel
    all_goals kernel_rfl
end Mine
end TJ5

theorem PySem.Challenge.cw_xo0035_01_holds : PySem.Challenge.rw_xo0035_01.Holds :=
  Mine.law_holds
