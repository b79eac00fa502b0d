import PyProof.Rows.All
import Wide.All
import OpenK.AllK
import Wide.FinOn
import PySem.Challenge.RW_sc0078_01
set_option Elab.async false
noncomputable section
open PySem PySem.W PyProof.Rows
set_option Elab.async false
set_option linter.unusedVariables false
set_option maxRecDepth 100000
namespace PL

inductive PV where
  | none
  | bool (b : Bool)
  | int (i : Int)
  | str (x : Str)
  | tup (l : List PV)
  | list (l : List PV)
  | ws (raw : Str) (n nt : Int) (count : List Int) (b : Int) (simple : Bool)
  | obj (a : Addr)
  | half (a d : Addr) (raw : Str)
noncomputable def wsNames : List Str := ["raw", "n", "nt", "norm", "is_simple"]

/-- an object of a class and the place of its names -/
noncomputable def InstD (h : Heap) (a C d : Addr) : Prop := ∃ o, h.get? a = some o ∧ o.cls = .ref C ∧ (∀ c, o.data ≠ .cls c) ∧ o.dict = some d ∧ d ≠ a
theorem InstD.by {h h' : Heap} {a C d : Addr} (x : InstD h a C d) (e : ∀ o, h.get? a = some o → h'.get? a = some o) : InstD h' a C d := let ⟨o, ho, r⟩ := x; ⟨o, e _ ho, r⟩
section
variable (C : Addr) (V : Addr → Prop) (h : Heap)

noncomputable def IntsV : List Int → List Value → Prop
  | [], vs => vs = []
  | i :: is, vs => ∃ t vs', vs = .int i t :: vs' ∧ IntsV is vs'

mutual
noncomputable def Rep : PV → Value → Prop
  | .none, v => v = .none
  | .bool b, v => v = .bool b
  | .int i, v => ∃ t, v = .int i t
  | .str x, v => ∃ t, v = .str x t
  | .tup ps, v => ∃ a vs, v = .ref a ∧ ¬ V a ∧ IsTup h a vs.toArray ∧ Reps ps vs
  | .list ps, v => ∃ a vs, v = .ref a ∧ ¬ V a ∧ h.IsList a vs.toArray ∧ Reps ps vs
  | .ws raw n nt count b simple, v => ∃ a d m tr tn tt r q cs tb, v = .ref a ∧ ¬ V a ∧ ¬ V d ∧ ¬ V r ∧ ¬ V q ∧ InstD h a C d ∧ (h.Ns1 d m ∧ ∀ k, k ∉ wsNames → m k = none) ∧
      m "raw" = some (.str raw tr) ∧ m "n" = some (.int n tn) ∧ m "nt" = some (.int nt tt) ∧ m "is_simple" = some (.bool simple) ∧ m "norm" = some (.ref r) ∧
      IsTup h r #[.ref q, .int b tb] ∧ IsTup h q cs.toArray ∧ IntsV count cs
  | .obj a, v => v = .ref a
  | .half a d raw, v => v = .ref a ∧ ¬ V a ∧ ¬ V d ∧ InstD h a C d ∧ ∃ m tr, h.Ns1 d m ∧ m "raw" = some (.str raw tr) ∧ ∀ k : Str, k ≠ ("raw" : Str) → m k = none
noncomputable def Reps : List PV → List Value → Prop
  | [], vs => vs = []
  | p :: ps, vs => ∃ v vs', vs = v :: vs' ∧ Rep p v ∧ Reps ps vs'
end
end

variable {C : Addr}

theorem tup_by {h h' : Heap} {d : Addr} {m : Array Value} (hn : IsTup h d m) (e : ∀ o, h.get? d = some o → h'.get? d = some o) : IsTup h' d m :=
  let ⟨o, x, r⟩ := hn; ⟨o, e _ x, r⟩
theorem Ns.by {h h' : Heap} {d : Addr} {m : Str → Option Value} (hn : h.Ns d m) (e : ∀ o, h.get? d = some o → h'.get? d = some o) : h'.Ns d m :=
  let ⟨o, es, ep, x, r⟩ := hn; ⟨o, es, ep, e _ x, r⟩

mutual
theorem Rep.mono {V V' : Addr → Prop} {h h' : Heap} (hV : ∀ b o, ¬ V b → h.get? b = some o → ¬ V' b ∧ h'.get? b = some o) : ∀ (p : PV) {v : Value}, Rep C V h p v → Rep C V' h' p v
  | .none, _, r => r
  | .bool _, _, r => r
  | .int _, _, r => r
  | .str _, _, r => r
  | .tup ps, v, r => by
    simp only [Rep] at r ⊢
    obtain ⟨a, vs, e, nV, ho, rs⟩ := r
    exact ⟨a, vs, e, let ⟨o, x, _⟩ := ho; (hV _ _ nV x).1, tup_by ho fun o e => (hV _ _ nV e).2, Reps.mono hV ps rs⟩
  | .list ps, v, r => by
    simp only [Rep] at r ⊢
    obtain ⟨a, vs, e, nV, ho, rs⟩ := r
    exact ⟨a, vs, e, let ⟨o, x, _⟩ := ho; (hV _ _ nV x).1, ho.at fun o e => (hV _ _ nV e).2, Reps.mono hV ps rs⟩
  | .ws .., v, r => by
    simp only [Rep] at r ⊢
    obtain ⟨a, d, m, tr, tn, tt, r', q, cs, tb, e, na, nd, nr, nq, ho, hn, h1, h2, h3, h4, h5, h6, h7, h8⟩ := r
    have hd : ∀ o, h.get? d = some o → h'.get? d = some o := fun o e => (hV _ _ nd e).2
    have hd' : ¬ V' d := by obtain ⟨⟨o, _, _, e', _⟩, _⟩ := hn; exact (hV _ _ nd e').1
    exact ⟨a, d, m, tr, tn, tt, r', q, cs, tb, e, let ⟨o, x, _⟩ := ho; (hV _ _ na x).1, hd', let ⟨o, x, _⟩ := h6; (hV _ _ nr x).1, let ⟨o, x, _⟩ := h7; (hV _ _ nq x).1, ho.by fun o e => (hV _ _ na e).2, ⟨hn.1.at hd, hn.2⟩, h1, h2, h3, h4, h5,
      tup_by h6 fun o e => (hV _ _ nr e).2, tup_by h7 fun o e => (hV _ _ nq e).2, h8⟩
  | .obj _, _, r => r
  | .half .., v, r => by
    simp only [Rep] at r ⊢
    obtain ⟨e, na, nd, ho, m, tr, hn, h1, h2⟩ := r
    exact ⟨e, let ⟨o, x, _⟩ := ho; (hV _ _ na x).1, by obtain ⟨o, _, _, e', _⟩ := hn; exact (hV _ _ nd e').1, ho.by fun o e => (hV _ _ na e).2, m, tr, hn.at fun o e => (hV _ _ nd e).2, h1, h2⟩
theorem Reps.mono {V V' : Addr → Prop} {h h' : Heap} (hV : ∀ b o, ¬ V b → h.get? b = some o → ¬ V' b ∧ h'.get? b = some o) : ∀ (ps : List PV) {vs : List Value}, Reps C V h ps vs → Reps C V' h' ps vs
  | [], _, r => r
  | p :: ps, vs, r => by
    simp only [Reps] at r ⊢
    obtain ⟨v, vs', e, r1, r2⟩ := r
    exact ⟨v, vs', e, Rep.mono hV p r1, Reps.mono hV ps r2⟩
end

theorem Reps.length {V : Addr → Prop} {h : Heap} : ∀ {ps : List PV} {vs : List Value}, Reps C V h ps vs → vs.length = ps.length
  | [], _, r => by simp only [Reps] at r; subst r; rfl
  | p :: ps, vs, r => by
    simp only [Reps] at r
    obtain ⟨v, vs', rfl, _, r2⟩ := r
    simp [Reps.length r2]
theorem Reps.get {V : Addr → Prop} {h : Heap} : ∀ {ps : List PV} {vs : List Value}, Reps C V h ps vs → ∀ {i : Nat} {p : PV}, ps[i]? = some p → ∃ v, vs[i]? = some v ∧ Rep C V h p v
  | [], _, r, i, p, e => by simp at e
  | q :: ps, vs, r, i, p, e => by
    simp only [Reps] at r
    obtain ⟨v, vs', rfl, r1, r2⟩ := r
    cases i with
    | zero => simp at e; subst e; exact ⟨v, rfl, r1⟩
    | succ i => simp at e; obtain ⟨v', e', r'⟩ := Reps.get r2 e; exact ⟨v', by simpa using e', r'⟩
theorem Reps.append {V : Addr → Prop} {h : Heap} : ∀ {ps qs : List PV} {vs us : List Value}, Reps C V h ps vs → Reps C V h qs us → Reps C V h (ps ++ qs) (vs ++ us)
  | [], _, _, _, r, r' => by simp only [Reps] at r; subst r; exact r'
  | p :: ps, qs, vs, us, r, r' => by
    simp only [Reps] at r
    obtain ⟨v, vs', rfl, r1, r2⟩ := r
    show Reps C V h (p :: (ps ++ qs)) (v :: (vs' ++ us))
    simp only [Reps]
    exact ⟨v, _, rfl, r1, Reps.append r2 r'⟩
theorem Reps.take {V : Addr → Prop} {h : Heap} : ∀ (n : Nat) {ps : List PV} {vs : List Value}, Reps C V h ps vs → Reps C V h (ps.take n) (vs.take n)
  | 0, _, _, _ => by simp [Reps]
  | n + 1, [], _, r => by simp only [Reps] at r; subst r; simp [Reps]
  | n + 1, p :: ps, vs, r => by
    simp only [Reps] at r
    obtain ⟨v, vs', rfl, r1, r2⟩ := r
    simp only [List.take_succ_cons, Reps]
    exact ⟨v, _, rfl, r1, Reps.take n r2⟩
theorem Reps.drop {V : Addr → Prop} {h : Heap} : ∀ (n : Nat) {ps : List PV} {vs : List Value}, Reps C V h ps vs → Reps C V h (ps.drop n) (vs.drop n)
  | 0, _, _, r => r
  | n + 1, [], _, r => by simp only [Reps] at r; subst r; simp [Reps]
  | n + 1, p :: ps, vs, r => by
    simp only [Reps] at r
    obtain ⟨v, vs', rfl, r1, r2⟩ := r
    simpa using Reps.drop n r2
theorem Reps.one {V : Addr → Prop} {h : Heap} {p : PV} {v : Value} (r : Rep C V h p v) : Reps C V h [p] [v] := by simp only [Reps]; exact ⟨v, [], rfl, r, rfl⟩
theorem Reps.cons {V : Addr → Prop} {h : Heap} {p : PV} {v : Value} {ps : List PV} {vs : List Value} (r : Rep C V h p v) (rs : Reps C V h ps vs) : Reps C V h (p :: ps) (v :: vs) := by simp only [Reps]; exact ⟨v, vs, rfl, r, rs⟩
theorem Reps.nil {V : Addr → Prop} {h : Heap} : Reps C V h [] [] := by simp only [Reps]

/-! the state grows -/
noncomputable def GG (g g' : Array GenState) : Prop := (∀ (i : Nat) (x : GenState), g[i]? = some x → g'[i]? = some x) ∧ (AllBare g → AllBare g')
theorem GG.refl (g : Array GenState) : GG g g := ⟨fun _ _ e => e, id⟩
theorem GG.trans {a b c : Array GenState} (x : GG a b) (y : GG b c) : GG a c := ⟨fun i z e => y.1 i z (x.1 i z e), fun h => y.2 (x.2 h)⟩

structure Grow (s s' : Shared) : Prop where
  keep : ∀ b o, s.heap.get? b = some o → s'.heap.get? b = some o
  os : s'.os = s.os
  gens : GG s.gens s'.gens
theorem Grow.refl (s : Shared) : Grow s s := ⟨fun _ _ e => e, rfl, .refl _⟩
theorem Grow.trans {a b c : Shared} (x : Grow a b) (y : Grow b c) : Grow a c := ⟨fun i z e => y.keep i z (x.keep i z e), y.os.trans x.os, x.gens.trans y.gens⟩
theorem Grow.toks {s : Shared} {t : Nat} : Grow s { s with toks := t } := ⟨fun _ _ e => e, rfl, .refl _⟩
theorem Grow.heap {s : Shared} {h : Heap} {t : Nat} (k : ∀ b o, s.heap.get? b = some o → h.get? b = some o) : Grow s { s with heap := h, toks := t } := ⟨k, rfl, .refl _⟩
theorem Grow.push {s : Shared} {o : Obj} : Grow s { s with heap := s.heap.push o } := ⟨fun _ _ e => Heap.get?_push_of_some _ e, rfl, .refl _⟩

/-- the volatile places are alive and none of the base's -/
structure Vol (base : Heap) (V : Addr → Prop) (s : Shared) : Prop where
  keep : ∀ b o, base.get? b = some o → s.heap.get? b = some o
  live : ∀ b, V b → ∃ o, s.heap.get? b = some o
  apart : ∀ b, V b → base.get? b = none
theorem Vol.grow {base : Heap} {V : Addr → Prop} {s s' : Shared} (x : Vol base V s) (g : Grow s s') : Vol base V s' :=
  ⟨fun b o e => g.keep b o (x.keep b o e), fun b hb => let ⟨o, e⟩ := x.live b hb; ⟨o, g.keep _ _ e⟩, x.apart⟩
theorem Vol.not_new {base : Heap} {V : Addr → Prop} {s : Shared} (x : Vol base V s) : ¬ V s.heap.objs.size := fun hb => by
  obtain ⟨o, e⟩ := x.live _ hb
  exact absurd (Heap.lt_size e) (Nat.lt_irrefl _)
theorem Rep.grow {V : Addr → Prop} {s s' : Shared} (g : Grow s s') {p : PV} {v : Value} (r : Rep C V s.heap p v) : Rep C V s'.heap p v := Rep.mono (fun b o nb e => ⟨nb, g.keep b o e⟩) p r
theorem Reps.grow {V : Addr → Prop} {s s' : Shared} (g : Grow s s') {p : List PV} {v : List Value} (r : Reps C V s.heap p v) : Reps C V s'.heap p v := Reps.mono (fun b o nb e => ⟨nb, g.keep b o e⟩) p r
end PL
end
noncomputable section
open PySem PySem.W PyProof.Rows
set_option Elab.async false
set_option linter.unusedVariables false
set_option maxRecDepth 100000
namespace PL

structure Cx where
  prog : Program
  w : World
  A : Around
  base : Heap
  C : Addr
  env : Env

inductive VK where
  | loc
  | cell (c : Addr)
  | free (c : Addr)
inductive VV where
  | no
  | val (p : PV)
  | mu (pl : Bool) (l : List PV)
noncomputable abbrev Vars := List (Str × VK × VV)

noncomputable def ownOf (O : Str → Addr) : Str × VK × VV → Option Addr
  | (_, .cell c, _) => some c
  | (x, .loc, .mu ..) => some (O x)
  | _ => none
noncomputable def owned (env : Env) (O : Str → Addr) (ρ : Vars) : List Addr := env.locals :: ρ.filterMap (ownOf O)

noncomputable def VarAt (C : Addr) (env : Env) (O : Str → Addr) (m : Str → Option Value) (V : Addr → Prop) (h : Heap) : Str × VK × VV → Prop
  | (x, .loc, .no) => env.kindOf x = some .local
  | (x, .loc, .val p) => env.kindOf x = some .local ∧ ∃ v, m x = some v ∧ Rep C V h p v
  | (x, .loc, .mu pl l) => env.kindOf x = some .local ∧ m x = some (.ref (O x)) ∧ ∃ vs, h.IsList (O x) vs.toArray ∧ (pl = true → h.PlainList (O x) vs.toArray) ∧ Reps C V h l vs
  | (x, .cell c, q) => env.kindOf x = some .cell ∧ env.cells.lookup x = some c ∧ ∃ v0, h.IsCell c v0 ∧ ∀ p, q = .val p → ∃ v, v0 = some v ∧ Rep C V h p v
  | (x, .free c, q) => env.kindOf x = some .cell ∧ env.cells.lookup x = some c ∧ V c ∧ ∃ v0, h.IsCell c v0 ∧ ∀ p, q = .val p → ∃ v, v0 = some v ∧ Rep C V h p v

structure Frm (C : Addr) (base : Heap) (env : Env) (V : Addr → Prop) (O : Str → Addr) (ρ : Vars) (s : Shared) : Prop where
  vol : Vol base V s
  kind : env.scope.kind = .function
  vars : ∃ m, s.heap.Ns env.locals m ∧ ∀ e ∈ ρ, VarAt C env O m V s.heap e
  own : ∀ b ∈ owned env O ρ, V b
  nodup : (owned env O ρ).Nodup
  names : (ρ.map (·.1)).Nodup
  free : ∀ x c q, (x, VK.free c, q) ∈ ρ → c ∉ owned env O ρ

theorem IsCell.by {h h' : Heap} {c : Addr} {v : Option Value} (x : h.IsCell c v) (e : ∀ o, h.get? c = some o → h'.get? c = some o) : h'.IsCell c v := let ⟨o, ho, r⟩ := x; ⟨o, e _ ho, r⟩

/-- a variable stands as it stood if its own place does -/
theorem VarAt.mono {C : Addr} {env : Env} {O : Str → Addr} {m : Str → Option Value} {V V' : Addr → Prop} {h h' : Heap} (hV : ∀ b o, ¬ V b → h.get? b = some o → ¬ V' b ∧ h'.get? b = some o) (hVV : ∀ b, V b → V' b) {e : Str × VK × VV}
    (ho : ∀ b, ownOf O e = some b → ∀ o, h.get? b = some o → h'.get? b = some o) (hf : ∀ x c q, e = (x, VK.free c, q) → ∀ o, h.get? c = some o → h'.get? c = some o) (r : VarAt C env O m V h e) : VarAt C env O m V' h' e := by
  obtain ⟨x, k, q⟩ := e
  cases k with
  | loc =>
    cases q with
    | no => exact r
    | val p => obtain ⟨a, v, b, c⟩ := r; exact ⟨a, v, b, Rep.mono hV p c⟩
    | mu pl l => obtain ⟨a, b, vs, c, c', d⟩ := r; exact ⟨a, b, vs, c.at fun o e => ho _ rfl o e, fun hp => (c' hp).at fun o e => ho _ rfl o e, Reps.mono hV l d⟩
  | cell c =>
    obtain ⟨a, b, v0, d, e⟩ := r
    exact ⟨a, b, v0, IsCell.by d (ho c (by cases q <;> rfl)), fun p hp => let ⟨v, e1, e2⟩ := e p hp; ⟨v, e1, Rep.mono hV p e2⟩⟩
  | free c =>
    obtain ⟨a, b, v, v0, d, e⟩ := r
    exact ⟨a, b, hVV c v, v0, IsCell.by d (hf x c q rfl), fun p hp => let ⟨v, e1, e2⟩ := e p hp; ⟨v, e1, Rep.mono hV p e2⟩⟩

section
variable {C : Addr} {base : Heap} {env : Env} {V : Addr → Prop} {O : Str → Addr} {ρ : Vars} {s s' : Shared}

theorem Frm.grow (F : Frm C base env V O ρ s) (g : Grow s s') : Frm C base env V O ρ s' :=
  ⟨F.vol.grow g, F.kind, let ⟨m, hn, hv⟩ := F.vars; ⟨m, hn.keeps g.keep, fun e he => VarAt.mono (fun b o nb e => ⟨nb, g.keep b o e⟩) (fun _ h => h) (fun _ _ o e => g.keep _ o e) (fun _ _ _ _ o e => g.keep _ o e) (hv e he)⟩, F.own, F.nodup, F.names, F.free⟩

inductive At : Vars → Str → PV → Prop
  | here {x k p ρ} : At ((x, k, .val p) :: ρ) x p
  | there {x p e ρ} : At ρ x p → At (e :: ρ) x p
inductive AtMut : Vars → Str → Bool → List PV → Prop
  | here {x pl l ρ} : AtMut ((x, .loc, .mu pl l) :: ρ) x pl l
  | there {x pl l e ρ} : AtMut ρ x pl l → AtMut (e :: ρ) x pl l
/-- the name's value is set (its kind stays) -/
inductive Put : Vars → Str → PV → Vars → Prop
  | loc {x p q ρ} : Put ((x, .loc, .val q) :: ρ) x p ((x, .loc, .val p) :: ρ)
  | locNo {x p ρ} : Put ((x, .loc, .no) :: ρ) x p ((x, .loc, .val p) :: ρ)
  | cell {x p c q ρ} : Put ((x, .cell c, q) :: ρ) x p ((x, .cell c, .val p) :: ρ)
  | there {x p e ρ ρ'} : Put ρ x p ρ' → Put (e :: ρ) x p (e :: ρ')
/-- an own list's items are set -/
inductive PutMut : Vars → Str → Bool → List PV → Vars → Prop
  | here {x pl l pl' l' ρ} : PutMut ((x, .loc, .mu pl l) :: ρ) x pl' l' ((x, .loc, .mu pl' l') :: ρ)
  | there {x pl p e ρ ρ'} : PutMut ρ x pl p ρ' → PutMut (e :: ρ) x pl p (e :: ρ')
/-- a name is bound to a fresh list -/
inductive PutNew : Vars → Str → List PV → Vars → Prop
  | no {x l ρ} : PutNew ((x, .loc, .no) :: ρ) x l ((x, .loc, .mu true l) :: ρ)
  | val {x p l ρ} : PutNew ((x, .loc, .val p) :: ρ) x l ((x, .loc, .mu true l) :: ρ)
  | mu {x pl l' l ρ} : PutNew ((x, .loc, .mu pl l') :: ρ) x l ((x, .loc, .mu true l) :: ρ)
  | there {x l e ρ ρ'} : PutNew ρ x l ρ' → PutNew (e :: ρ) x l (e :: ρ')
/-- an own list as plain data -/
inductive Thaw : Vars → Str → Vars → Prop
  | here {x pl l ρ} : Thaw ((x, .loc, .mu pl l) :: ρ) x ((x, .loc, .val (.list l)) :: ρ)
  | there {x e ρ ρ'} : Thaw ρ x ρ' → Thaw (e :: ρ) x (e :: ρ')

theorem At.mem {x : Str} {p : PV} (h : At ρ x p) : ∃ k, (x, k, VV.val p) ∈ ρ := by
  induction h with
  | here => exact ⟨_, List.mem_cons_self ..⟩
  | there _ ih => obtain ⟨k, h⟩ := ih; exact ⟨k, List.mem_cons_of_mem _ h⟩
theorem AtMut.mem {x : Str} {pl : Bool} {l : List PV} (h : AtMut ρ x pl l) : (x, VK.loc, VV.mu pl l) ∈ ρ := by
  induction h with
  | here => exact List.mem_cons_self ..
  | there _ ih => exact List.mem_cons_of_mem _ ih
theorem Put.keys {ρ ρ' : Vars} {x : Str} {p : PV} (h : Put ρ x p ρ') : ρ'.map (·.1) = ρ.map (·.1) := by
  induction h with
  | there _ ih => simp [ih]
  | _ => rfl
theorem Put.owned {ρ ρ' : Vars} {x : Str} {p : PV} (h : Put ρ x p ρ') (O : Str → Addr) : ρ'.filterMap (ownOf O) = ρ.filterMap (ownOf O) := by
  induction h with
  | there _ ih => simp [List.filterMap_cons, ih]
  | _ => rfl
theorem Put.mem {ρ ρ' : Vars} {x : Str} {p : PV} (h : Put ρ x p ρ') : ∃ k, (∃ q, (x, k, q) ∈ ρ ∧ (∀ pl l, q ≠ VV.mu pl l ∨ k ≠ VK.loc)) ∧ (x, k, VV.val p) ∈ ρ' ∧ (∀ c, k ≠ .free c) ∧ ∀ e ∈ ρ', e = (x, k, VV.val p) ∨ e ∈ ρ := by
  induction h with
  | loc => exact ⟨_, ⟨_, List.mem_cons_self .., fun _ _ => .inl nofun⟩, List.mem_cons_self .., nofun, fun e he => by rcases List.mem_cons.mp he with h | h; exact .inl h; exact .inr (List.mem_cons_of_mem _ h)⟩
  | locNo => exact ⟨_, ⟨_, List.mem_cons_self .., fun _ _ => .inl nofun⟩, List.mem_cons_self .., nofun, fun e he => by rcases List.mem_cons.mp he with h | h; exact .inl h; exact .inr (List.mem_cons_of_mem _ h)⟩
  | cell => exact ⟨_, ⟨_, List.mem_cons_self .., fun _ _ => .inr nofun⟩, List.mem_cons_self .., nofun, fun e he => by rcases List.mem_cons.mp he with h | h; exact .inl h; exact .inr (List.mem_cons_of_mem _ h)⟩
  | there _ ih =>
    obtain ⟨k, ⟨q, h1, h2⟩, h3, h4, h5⟩ := ih
    exact ⟨k, ⟨q, List.mem_cons_of_mem _ h1, h2⟩, List.mem_cons_of_mem _ h3, h4, fun e he => by
      rcases List.mem_cons.mp he with h | h
      · exact .inr (h ▸ List.mem_cons_self ..)
      · rcases h5 e h with h | h
        · exact .inl h
        · exact .inr (List.mem_cons_of_mem _ h)⟩

/-- a step of the frame's own: only its own places turn -/
structure Step (own : List Addr) (s s' : Shared) : Prop where
  keep : ∀ b o, b ∉ own → s.heap.get? b = some o → s'.heap.get? b = some o
  os : s'.os = s.os
  gens : GG s.gens s'.gens
theorem Step.refl (own : List Addr) (s : Shared) : Step own s s := ⟨fun _ _ _ e => e, rfl, .refl _⟩
theorem Grow.step {s s' : Shared} (g : Grow s s') (own : List Addr) : Step own s s' := ⟨fun b o _ e => g.keep b o e, g.os, g.gens⟩
theorem Step.trans {own own' : List Addr} {a b c : Shared} (x : Step own a b) (y : Step own' b c) (h : ∀ p ∈ own', p ∈ own ∨ a.heap.get? p = none) : Step own a c :=
  ⟨fun p o hp e => y.keep p o (fun hq => (h p hq).elim hp fun e' => by rw [e'] at e; cases e) (x.keep p o hp e), y.os.trans x.os, x.gens.trans y.gens⟩
/-- the new own places are the old ones, or fresh -/
noncomputable def Fresh (own own' : List Addr) (s : Shared) : Prop := ∀ b ∈ own', b ∈ own ∨ s.heap.get? b = none
theorem Fresh.refl (own : List Addr) (s : Shared) : Fresh own own s := fun _ h => .inl h
theorem Fresh.trans {a b c : List Addr} {s s' : Shared} (x : Fresh a b s) (st : Step a s s') (y : Fresh b c s') : Fresh a c s := fun p hp => by
  rcases y p hp with h | h
  · exact x p h
  · by_cases hm : p ∈ a
    · exact .inl hm
    · right
      cases e : s.heap.get? p with
      | none => rfl
      | some o => rw [st.keep p o hm e] at h; cases h
end

section
variable {C : Addr} {base : Heap} {env : Env} {V : Addr → Prop} {O : Str → Addr} {ρ ρ' : Vars} {s : Shared} {M : Model} {A : Around}

theorem Frm.load (F : Frm C base env V O ρ s) {x : Str} {p : PV} (h : At ρ x p) {Q : Value → Shared → Prop} {E : Value → Shared → Prop} (hQ : ∀ v, Rep C V s.heap p v → Q v s) : wpAny M A (loadName env x) Q E s := by
  obtain ⟨k, hk⟩ := h.mem
  obtain ⟨m, hn, hv⟩ := F.vars
  have z := hv _ hk
  cases k with
  | loc => obtain ⟨a, v, b, c⟩ := z; exact wpAny_loadName_local F.kind a hn b (hQ v c)
  | cell c => obtain ⟨a, b, v0, d, e⟩ := z; obtain ⟨v, rfl, r⟩ := e p rfl; exact wpAny_loadName_cell F.kind a b d (hQ v r)
  | free c => obtain ⟨a, b, _, v0, d, e⟩ := z; obtain ⟨v, rfl, r⟩ := e p rfl; exact wpAny_loadName_cell F.kind a b d (hQ v r)

theorem owned_unique {ρ : Vars} (hn : (ρ.map (·.1)).Nodup) {x : Str} {k k' : VK} {q q' : VV} (h1 : (x, k, q) ∈ ρ) (h2 : (x, k', q') ∈ ρ) : (k, q) = (k', q') := by
  induction ρ with
  | nil => cases h1
  | cons e ρ ih =>
    simp only [List.map_cons, List.nodup_cons] at hn
    rcases List.mem_cons.mp h1 with e1 | h1 <;> rcases List.mem_cons.mp h2 with e2 | h2
    · have := e1.trans e2.symm; cases this; rfl
    · exact absurd (List.mem_map.mpr ⟨_, h2, by rw [← e1]⟩) hn.1
    · exact absurd (List.mem_map.mpr ⟨_, h1, by rw [← e2]⟩) hn.1
    · exact ih hn.2 h1 h2
theorem own_apart {ρ : Vars} {O : Str → Addr} (hd : (ρ.filterMap (ownOf O)).Nodup) {e e' : Str × VK × VV} {b : Addr} (h1 : e ∈ ρ) (h2 : e' ∈ ρ) (o1 : ownOf O e = some b) (o2 : ownOf O e' = some b) : e = e' := by
  induction ρ with
  | nil => cases h1
  | cons f ρ ih =>
    have inTail : ∀ g, g ∈ ρ → ownOf O g = some b → b ∈ ρ.filterMap (ownOf O) := fun g hg og => List.mem_filterMap.mpr ⟨g, hg, og⟩
    cases hf : ownOf O f with
    | none =>
      rw [List.filterMap_cons_none hf] at hd
      rcases List.mem_cons.mp h1 with rfl | h1
      · rw [hf] at o1; cases o1
      · rcases List.mem_cons.mp h2 with rfl | h2
        · rw [hf] at o2; cases o2
        · exact ih hd h1 h2
    | some c =>
      rw [List.filterMap_cons_some hf, List.nodup_cons] at hd
      rcases List.mem_cons.mp h1 with e1 | h1 <;> rcases List.mem_cons.mp h2 with e2 | h2
      · exact e1.trans e2.symm
      · rw [e1, hf] at o1; cases o1; exact absurd (inTail _ h2 o2) hd.1
      · rw [e2, hf] at o2; cases o2; exact absurd (inTail _ h1 o1) hd.1
      · exact ih hd.2 h1 h2

/-- a value into a name -/
theorem Frm.store (F : Frm C base env V O ρ s) {x : Str} {p : PV} (h : Put ρ x p ρ') {v : Value} (r : Rep C V s.heap p v) {Q : Unit → Shared → Prop} {E : Value → Shared → Prop}
    (hQ : ∀ s', Frm C base env V O ρ' s' → Step (owned env O ρ) s s' → owned env O ρ' = owned env O ρ → Q () s') : wpAny M A (storeName env x v) Q E s := by
  obtain ⟨k, ⟨q, hk, hq⟩, hk', hfree, hall⟩ := h.mem
  have ho := h.owned O
  have hoo : owned env O ρ' = owned env O ρ := by unfold owned; rw [ho]
  obtain ⟨m, hn, hv⟩ := F.vars
  have hLV : V env.locals := F.own _ (List.mem_cons_self ..)
  have hnd := F.nodup
  unfold owned at hnd
  rw [List.nodup_cons] at hnd
  have keysN : (ρ'.map (·.1)).Nodup := h.keys ▸ F.names
  have freeN : ∀ x c q, (x, VK.free c, q) ∈ ρ' → c ∉ owned env O ρ' := fun y c q' hm => by
    rw [hoo]
    rcases hall _ hm with e | e
    · cases e; exact absurd rfl (hfree c)
    · exact F.free y c q' e
  have nameNe : ∀ y k' q', (y, k', q') ∈ ρ' → (y, k', q') ≠ (x, k, VV.val p) → y ≠ x := fun y k' q' hm hne e => by
    subst e
    exact hne (by have := owned_unique keysN hm hk'; cases this; rfl)
  cases k with
  | free c => exact absurd rfl (hfree c)
  | loc =>
    have hkind : env.kindOf x = some .local := by
      have z := hv _ hk
      cases q with
      | no => exact z
      | val _ => exact z.1
      | mu pl l => exact ((hq pl l).elim (fun e => absurd rfl e) (fun e => absurd rfl e))
    refine wpAny_storeName_local hkind hn (fun h' hn' hs => ?_) (by rw [F.kind]; rfl)
    have up : ∀ b o, b ≠ env.locals → s.heap.get? b = some o → h'.get? b = some o := fun b o hb e => (hs.2 b hb).trans e
    have hV : ∀ b o, ¬ V b → s.heap.get? b = some o → ¬ V b ∧ h'.get? b = some o := fun b o nb e => ⟨nb, up b o (fun e' => nb (e' ▸ hLV)) e⟩
    refine hQ _ ⟨⟨fun b o e => up b o (fun e' => by rw [e', F.vol.apart _ hLV] at e; cases e) (F.vol.keep b o e), fun b hb => ?_, F.vol.apart⟩, F.kind, ⟨_, hn', fun e he => ?_⟩, fun b hb => F.own b (hoo ▸ hb), hoo ▸ F.nodup, keysN, freeN⟩
      ⟨fun b o hb e => up b o (fun e' => hb (e' ▸ List.mem_cons_self ..)) e, rfl, .refl _⟩ hoo
    · by_cases hb' : b = env.locals
      · subst hb'; obtain ⟨o, _, _, e, _⟩ := hn'; exact ⟨o, e⟩
      · obtain ⟨o, e⟩ := F.vol.live b hb; exact ⟨o, up b o hb' e⟩
    · by_cases hx : e = (x, VK.loc, VV.val p)
      · subst hx
        exact ⟨hkind, v, by simp, Rep.mono hV p r⟩
      · obtain ⟨y, k', q'⟩ := e
        have hne := nameNe y k' q' he hx
        have hin : (y, k', q') ∈ ρ := (hall _ he).resolve_left hx
        have z := VarAt.mono (C := C) (env := env) (m := m) (V' := V) (h' := h') hV (fun _ h => h) (fun b hb o e => up b o (fun e' => hnd.1 (e' ▸ List.mem_filterMap.mpr ⟨_, hin, hb⟩)) e)
          (fun y' c q'' e0 o e => up c o (fun e' => F.free y' c q'' (e0 ▸ hin) (e' ▸ List.mem_cons_self ..)) e) (hv _ hin)
        cases k' with
        | loc => cases q' with
          | no => exact z
          | val _ => obtain ⟨a, v, b, c⟩ := z; exact ⟨a, v, by simpa [hne] using b, c⟩
          | mu pl l => obtain ⟨a, b, c⟩ := z; exact ⟨a, by simpa [hne] using b, c⟩
        | cell c => exact z
        | free c => exact z
  | cell c =>
    obtain ⟨hkind, hc, v0, hcell, _⟩ := hv _ hk
    have hown : ownOf O (x, VK.cell c, q) = some c := by cases q <;> rfl
    have hcm : c ∈ ρ.filterMap (ownOf O) := List.mem_filterMap.mpr ⟨_, hk, hown⟩
    have hcV : V c := F.own c (List.mem_cons_of_mem _ hcm)
    have hLc : env.locals ≠ c := fun e => hnd.1 (e ▸ hcm)
    refine wpAny_storeName_cell F.kind hkind hc hcell fun h' hcell' hs => ?_
    have up : ∀ b o, b ≠ c → s.heap.get? b = some o → h'.get? b = some o := fun b o hb e => (hs.2 b hb).trans e
    have hV : ∀ b o, ¬ V b → s.heap.get? b = some o → ¬ V b ∧ h'.get? b = some o := fun b o nb e => ⟨nb, up b o (fun e' => nb (e' ▸ hcV)) e⟩
    refine hQ _ ⟨⟨fun b o e => up b o (fun e' => by rw [e', F.vol.apart _ hcV] at e; cases e) (F.vol.keep b o e), fun b hb => ?_, F.vol.apart⟩, F.kind, ⟨m, hn.sameBut hs hLc, fun e he => ?_⟩, fun b hb => F.own b (hoo ▸ hb), hoo ▸ F.nodup, keysN, freeN⟩
      ⟨fun b o hb e => up b o (fun e' => hb (e' ▸ List.mem_cons_of_mem _ hcm)) e, rfl, .refl _⟩ hoo
    · by_cases hb' : b = c
      · subst hb'; obtain ⟨o, e, _⟩ := hcell'; exact ⟨o, e⟩
      · obtain ⟨o, e⟩ := F.vol.live b hb; exact ⟨o, up b o hb' e⟩
    · by_cases hx : e = (x, VK.cell c, VV.val p)
      · subst hx
        exact ⟨hkind, hc, _, hcell', fun p' hp => by cases hp; exact ⟨v, rfl, Rep.mono hV p r⟩⟩
      · obtain ⟨y, k', q'⟩ := e
        have hne := nameNe y k' q' he hx
        have hin : (y, k', q') ∈ ρ := (hall _ he).resolve_left hx
        exact VarAt.mono (C := C) (env := env) (m := m) (V' := V) (h' := h') hV (fun _ h => h) (fun b hb o e => up b o (fun e' => by
            subst e'
            exact hne (congrArg Prod.fst (own_apart hnd.2 hin hk hb hown))) e)
          (fun y' c' q'' e0 o e => up c' o (fun e' => F.free y' c' q'' (e0 ▸ hin) (e' ▸ List.mem_cons_of_mem _ hcm)) e) (hv _ hin)
end
end PL
end
noncomputable section
open PySem PySem.W PyProof.Rows
set_option Elab.async false
set_option linter.unusedVariables false
set_option maxRecDepth 100000
namespace PL

noncomputable abbrev Cx.M (X : Cx) : Model := model X.prog X.w

/-- what every frame of the law stands on -/
structure Wd (X : Cx) (mg mb : Str → Option Value) : Prop where
  g : X.base.Ns X.env.globals mg
  b : X.base.Ns X.env.builtins mb
  lim : X.base.NoLimit
  kind : X.env.scope.kind = .function
  handled : X.A.handled = none

noncomputable abbrev Cx.F (X : Cx) := Frm X.C X.base X.env
noncomputable abbrev Cx.R (X : Cx) (V : Addr → Prop) (s : Shared) := Rep X.C V s.heap
noncomputable abbrev Cx.Rs (X : Cx) (V : Addr → Prop) (s : Shared) := Reps X.C V s.heap

noncomputable def Ev (X : Cx) (e : Expr) (ρ : Vars) (p : PV) : Prop :=
  ∀ V O s (Q : Value → Shared → Prop) (E : Value → Shared → Prop), X.F V O ρ s → (∀ v s', Grow s s' → X.R V s' p v → Q v s') → wpAny X.M X.A (eval e X.env) Q E s
noncomputable def It (X : Cx) (e : Expr) (ρ : Vars) (b : Bool) : Prop :=
  ∀ V O s (Q : Bool → Shared → Prop) (E : Value → Shared → Prop), X.F V O ρ s → (∀ s', Grow s s' → Q b s') → wpAny X.M X.A (isTrue e X.env (eval e X.env)) Q E s
/-- trees over values alone -/
noncomputable def Op2 (X : Cx) (t : Value → Value → Sem Value) (p q r : PV) : Prop :=
  ∀ V s u v (Q : Value → Shared → Prop) (E : Value → Shared → Prop), Vol X.base V s → X.R V s p u → X.R V s q v → (∀ x s', Grow s s' → X.R V s' r x → Q x s') → wpAny X.M X.A (t u v) Q E s
noncomputable def Op1 (X : Cx) (t : Value → Sem Value) (p r : PV) : Prop :=
  ∀ V s u (Q : Value → Shared → Prop) (E : Value → Shared → Prop), Vol X.base V s → X.R V s p u → (∀ x s', Grow s s' → X.R V s' r x → Q x s') → wpAny X.M X.A (t u) Q E s
noncomputable def OpN (X : Cx) (t : List Value → Sem Value) (ps : List PV) (r : PV) : Prop :=
  ∀ V s us (Q : Value → Shared → Prop) (E : Value → Shared → Prop), Vol X.base V s → X.Rs V s ps us → (∀ x s', Grow s s' → X.R V s' r x → Q x s') → wpAny X.M X.A (t us) Q E s
noncomputable def Tr (X : Cx) (p : PV) (b : Bool) : Prop :=
  ∀ V s u (Q : Bool → Shared → Prop) (E : Value → Shared → Prop), Vol X.base V s → X.R V s p u → (∀ s', Grow s s' → Q b s') → wpAny X.M X.A (truthy u) Q E s
noncomputable def Evs (X : Cx) (pos : Pos) (es : List Expr) (ρ : Vars) (ps : List PV) : Prop :=
  ∀ V O s (Q : List Value → Shared → Prop) (E : Value → Shared → Prop), X.F V O ρ s → (∀ vs s', Grow s s' → X.Rs V s' ps vs → Q vs s') → wpAny X.M X.A (spliced (backTo pos (starEach es X.env))) Q E s

section
variable {X : Cx} {ρ : Vars} {mg mb : Str → Option Value}

theorem ev_name {x : Str} {pos : Pos} {p : PV} (h : At ρ x p) (hd : (x == ("__debug__" : Str)) = false := by decide) : Ev X (.Name x pos) ρ p := fun V O s Q E F hQ =>
  wpAny_Name (F.load h fun v r => hQ v s (.refl s) r) hd
theorem ev_int {i : Int} {k : Nat} {pos : Pos} : Ev X (.Constant (.int i) k pos) ρ (.int i) := fun V O s Q E F hQ =>
  wpAny_Constant_int (hQ _ _ .toks ⟨_, rfl⟩)
theorem ev_str {x : Str} {k : Nat} {pos : Pos} : Ev X (.Constant (.str x) k pos) ρ (.str x) := fun V O s Q E F hQ =>
  wpAny_Constant_str (hQ _ _ .toks ⟨_, rfl⟩)
theorem ev_none {k : Nat} {pos : Pos} : Ev X (.Constant .none k pos) ρ .none := fun V O s Q E F hQ => wpAny_Constant_none (hQ _ _ (.refl s) rfl)
theorem ev_bool {b : Bool} {k : Nat} {pos : Pos} : Ev X (.Constant (.bool b) k pos) ρ (.bool b) := fun V O s Q E F hQ => wpAny_Constant_bool (hQ _ _ (.refl s) rfl)

theorem ev_binop {l r : Expr} {op : Operator} {pos : Pos} {p q t : PV} (hl : Ev X l ρ p) (hr : Ev X r ρ q) (ho : Op2 X (binaryOp op) p q t) : Ev X (.BinOp l op r pos) ρ t := fun V O s Q E F hQ =>
  wpAny_BinOp (hl V O s _ E F fun u s₁ g₁ r₁ => hr V O s₁ _ E (F.grow g₁) fun v s₂ g₂ r₂ => ho V s₂ u v Q E ((F.grow g₁).grow g₂).vol (r₁.grow g₂) r₂ fun x s₃ g₃ r₃ => hQ x s₃ ((g₁.trans g₂).trans g₃) r₃)
theorem ev_compare {l r : Expr} {op : CmpOp} {pos : Pos} {p q t : PV} (hl : Ev X l ρ p) (hr : Ev X r ρ q) (ho : Op2 X (compareOp op) p q t) (hm : behindInMarks op r = false := by with_unfolding_all rfl) : Ev X (.Compare l [op] [r] pos) ρ t := fun V O s Q E F hQ =>
  wpAny_Compare1 (hl V O s _ E F fun u s₁ g₁ r₁ => hr V O s₁ _ E (F.grow g₁) fun v s₂ g₂ r₂ => ho V s₂ u v Q E ((F.grow g₁).grow g₂).vol (r₁.grow g₂) r₂ fun x s₃ g₃ r₃ => hQ x s₃ ((g₁.trans g₂).trans g₃) r₃) hm
theorem ev_unary {x : Expr} {op : UnaryOp} {pos : Pos} {p t : PV} (hl : Ev X x ρ p) (ho : Op1 X (unaryOp op) p t) : Ev X (.UnaryOp op x pos) ρ t := fun V O s Q E F hQ =>
  wpAny_UnaryOp (hl V O s _ E F fun u s₁ g₁ r₁ => ho V s₁ u Q E (F.grow g₁).vol r₁ fun x s₃ g₃ r₃ => hQ x s₃ (g₁.trans g₃) r₃)
theorem tr_bool {b : Bool} : Tr X (.bool b) b := fun V s u Q E F r hQ => by cases r; exact wpAny_truthy_bool (hQ s (.refl s))

theorem it_cmp {l r : Expr} {op : CmpOp} {pos : Pos} {p q : PV} {b : Bool} (hl : Ev X l ρ p) (hr : Ev X r ρ q) (ho : Op2 X (compareOp op) p q (.bool b)) (hm : behindInMarks op r = false := by with_unfolding_all rfl) : It X (.Compare l [op] [r] pos) ρ b := fun V O s Q E F hQ =>
  wpAny_isTrue_Compare1 (hl V O s _ E F fun u s₁ g₁ r₁ => hr V O s₁ _ E (F.grow g₁) fun v s₂ g₂ r₂ => ho V s₂ u v _ E ((F.grow g₁).grow g₂).vol (r₁.grow g₂) r₂ fun x s₃ g₃ r₃ =>
    tr_bool V s₃ x Q E (((F.grow g₁).grow g₂).grow g₃).vol r₃ fun s₄ g₄ => hQ s₄ (((g₁.trans g₂).trans g₃).trans g₄)) hm
theorem it_value {e : Expr} {p : PV} {b : Bool} (he : Ev X e ρ p) (ht : Tr X p b) (hi : isTrue e X.env (eval e X.env) = (do let v ← eval e X.env; standAt e.pos; holding [v] (truthy v)) := by rfl) : It X e ρ b := fun V O s Q E F hQ =>
  wpAny_isTrue_value (he V O s _ E F fun u s₁ g₁ r₁ => ht V s₁ u Q E (F.grow g₁).vol r₁ fun s₂ g₂ => hQ s₂ (g₁.trans g₂)) hi
theorem it_not {e : Expr} {pos : Pos} {b : Bool} (he : It X e ρ b) : It X (.UnaryOp .Not e pos) ρ (!b) := fun V O s Q E F hQ =>
  wpAny_isTrue_Not (he V O s _ E F fun s₁ g₁ => hQ s₁ g₁)

noncomputable def Its (X : Cx) (op : BoolOp) (es : List Expr) (ρ : Vars) (b : Bool) : Prop :=
  ∀ V O s (Q : Bool → Shared → Prop) (E : Value → Shared → Prop), X.F V O ρ s → (∀ s', Grow s s' → Q b s') → wpAny X.M X.A (allTrue op es X.env) Q E s
theorem its_and_nil : Its X .And [] ρ true := fun V O s Q E F hQ => wpAny_allTrue_And_nil (hQ s (.refl s))
theorem its_or_nil : Its X .Or [] ρ false := fun V O s Q E F hQ => wpAny_allTrue_Or_nil (hQ s (.refl s))
theorem its_and {e : Expr} {es : List Expr} {b c : Bool} (he : It X e ρ b) (hes : b = true → Its X .And es ρ c) : Its X .And (e :: es) ρ (b && c) := fun V O s Q E F hQ =>
  wpAny_allTrue_And_cons (he V O s _ E F fun s₁ g₁ => by
    cases b with
    | false => exact hQ s₁ g₁
    | true => exact hes rfl V O s₁ Q E (F.grow g₁) fun s₂ g₂ => hQ s₂ (g₁.trans g₂))
theorem its_or {e : Expr} {es : List Expr} {b c : Bool} (he : It X e ρ b) (hes : b = false → Its X .Or es ρ c) : Its X .Or (e :: es) ρ (b || c) := fun V O s Q E F hQ =>
  wpAny_allTrue_Or_cons (he V O s _ E F fun s₁ g₁ => by
    cases b with
    | true => exact hQ s₁ g₁
    | false => exact hes rfl V O s₁ Q E (F.grow g₁) fun s₂ g₂ => hQ s₂ (g₁.trans g₂))
theorem it_boolop {op : BoolOp} {es : List Expr} {pos : Pos} {b : Bool} (h : Its X op es ρ b) : It X (.BoolOp op es pos) ρ b := fun V O s Q E F hQ => wpAny_isTrue_BoolOp (h V O s Q E F hQ)

theorem ev_ifexp {test body orelse : Expr} {pos : Pos} {b : Bool} {p : PV} (ht : It X test ρ b) (h1 : b = true → Ev X body ρ p) (h2 : b = false → Ev X orelse ρ p) : Ev X (.IfExp test body orelse pos) ρ p := fun V O s Q E F hQ =>
  wpAny_IfExp (ht V O s _ E F fun s₁ g₁ => by
    cases b with
    | true => exact h1 rfl V O s₁ Q E (F.grow g₁) fun x s₂ g₂ r => hQ x s₂ (g₁.trans g₂) r
    | false => exact h2 rfl V O s₁ Q E (F.grow g₁) fun x s₂ g₂ r => hQ x s₂ (g₁.trans g₂) r)
theorem ev_or2 {x y : Expr} {pos : Pos} {p q : PV} {b : Bool} (hx : Ev X x ρ p) (ht : Tr X p b) (h1 : b = true → q = p) (h2 : b = false → Ev X y ρ q) : Ev X (.BoolOp .Or [x, y] pos) ρ q := fun V O s Q E F hQ =>
  wpAny_Or2 (hx V O s _ E F fun u s₁ g₁ r₁ => ht V s₁ u _ E (F.grow g₁).vol r₁ fun s₂ g₂ => by
    cases b with
    | true => cases h1 rfl; exact hQ u s₂ (g₁.trans g₂) (r₁.grow g₂)
    | false => exact h2 rfl V O s₂ Q E ((F.grow g₁).grow g₂) fun x s₃ g₃ r => hQ x s₃ ((g₁.trans g₂).trans g₃) r)

theorem evs_nil {pos : Pos} : Evs X pos [] ρ [] := fun V O s Q E F hQ => wpAny_items_nil (hQ [] s (.refl s) .nil)
theorem evs_cons {pos : Pos} {e : Expr} {es : List Expr} {p : PV} {ps : List PV} (he : Ev X e ρ p) (hes : Evs X pos es ρ ps) (hse : starEach (e :: es) X.env = (false, eval e X.env) :: starEach es X.env := by rfl) : Evs X pos (e :: es) ρ (p :: ps) := fun V O s Q E F hQ =>
  wpAny_items_cons (he V O s _ E F fun u s₁ g₁ r₁ => hes V O s₁ _ E (F.grow g₁) fun vs s₂ g₂ rs => hQ (u :: vs) s₂ (g₁.trans g₂) (.cons (r₁.grow g₂) rs)) hse

theorem Tup.new {V : Addr → Prop} {s : Shared} (vol : Vol X.base V s) {ps : List PV} {vs : List Value} (rs : X.Rs V s ps vs) : X.R V { s with heap := s.heap.push { cls := .type "tuple", data := .seq vs.toArray } } (.tup ps) (.ref s.heap.objs.size) := by
  show Rep _ _ _ _ _
  simp only [Rep]
  exact ⟨_, vs, rfl, vol.not_new, ⟨_, Heap.get?_push_size _ rfl, rfl, _, rfl⟩, rs.grow Grow.push⟩
theorem List.new {V : Addr → Prop} {s : Shared} (vol : Vol X.base V s) {ps : List PV} {vs : List Value} (rs : X.Rs V s ps vs) : X.R V { s with heap := s.heap.push { cls := .type "list", data := .seq vs.toArray } } (.list ps) (.ref s.heap.objs.size) := by
  show Rep _ _ _ _ _
  simp only [Rep]
  exact ⟨_, vs, rfl, vol.not_new, ⟨_, Heap.get?_push_size _ rfl, rfl, _, rfl⟩, rs.grow Grow.push⟩
theorem new_tuple {ps : List PV} (hn : ps.length ≤ sizeLine) : OpN X newTuple ps (.tup ps) := fun V s us Q E vol rs hQ =>
  wpAny_newObj_type (hQ _ _ .push (Tup.new vol rs)) (by show us.toArray.size ≤ sizeLine; rw [List.size_toArray, rs.length]; exact hn)
theorem new_list {ps : List PV} (hn : ps.length ≤ sizeLine) : OpN X newList ps (.list ps) := fun V s us Q E vol rs hQ =>
  wpAny_newObj_type (hQ _ _ .push (List.new vol rs)) (by show us.toArray.size ≤ sizeLine; rw [List.size_toArray, rs.length]; exact hn)
theorem ev_tuple {elts : List Expr} {k : Nat} {pos : Pos} {ps : List PV} (h : Evs X pos elts ρ ps) (hn : ps.length ≤ sizeLine := by simp only [List.length_cons, List.length_nil]; decide) : Ev X (.Tuple elts k pos) ρ (.tup ps) := fun V O s Q E F hQ =>
  Tuple_ (h V O s _ E F fun vs s₁ g₁ rs => new_tuple hn V s₁ vs Q E (F.grow g₁).vol rs fun x s₂ g₂ r => hQ x s₂ (g₁.trans g₂) r)
theorem ev_list {elts : List Expr} {pos : Pos} {ps : List PV} (h : Evs X pos elts ρ ps) (hn : ps.length ≤ sizeLine := by simp only [List.length_cons, List.length_nil]; decide) : Ev X (.List elts pos) ρ (.list ps) := fun V O s Q E F hQ =>
  List_ (h V O s _ E F fun vs s₁ g₁ rs => new_list hn V s₁ vs Q E (F.grow g₁).vol rs fun x s₂ g₂ r => hQ x s₂ (g₁.trans g₂) r)

/-! names of the module and of the interpreter -/
noncomputable def EvV (X : Cx) (e : Expr) (ρ : Vars) (f : Value) : Prop :=
  ∀ V O s (Q : Value → Shared → Prop) (E : Value → Shared → Prop), X.F V O ρ s → Q f s → wpAny X.M X.A (eval e X.env) Q E s
theorem evv_global (W : Wd X mg mb) {x : Str} {pos : Pos} {v : Value} (hv : mg x = some v) (hx : X.env.kindOf x = some .globalImplicit) (hd : (x == ("__debug__" : Str)) = false := by decide) : EvV X (.Name x pos) ρ v := fun V O s Q E F hQ =>
  Calls.Name_function_global W.kind hx (Calls.loadGlobal_global (W.g.keeps F.vol.keep) hv hQ) hd
theorem evv_builtin (W : Wd X mg mb) {x : Str} {pos : Pos} {v : Value} (hm : mg x = none) (hv : mb x = some v) (hx : X.env.kindOf x = some .globalImplicit) (hd : (x == ("__debug__" : Str)) = false := by decide) : EvV X (.Name x pos) ρ v := fun V O s Q E F hQ =>
  Calls.Name_function_global W.kind hx (Calls.loadGlobal_builtin (W.g.keeps F.vol.keep) hm (W.b.keeps F.vol.keep) hv hQ) hd
theorem ev_global (W : Wd X mg mb) {x : Str} {pos : Pos} {v : Value} {p : PV} (hv : mg x = some v) (hp : ∀ V s, X.R V s p v) (hx : X.env.kindOf x = some .globalImplicit) (hd : (x == ("__debug__" : Str)) = false := by decide) : Ev X (.Name x pos) ρ p := fun V O s Q E F hQ =>
  evv_global W hv hx hd V O s Q E F (hQ v s (.refl s) (hp V s))

/-! calls of a built-in by its name -/
theorem ev_call_builtin {x id : Str} {b : String} {p pos : Pos} {args : List Expr} {e : Expr} {ps : List PV} {r : PV} (hf : EvV X (.Name x p) ρ (.builtin b)) (ha : Evs X pos (e :: args) ρ ps) (ho : OpN X (fun vs => call (.builtin b) vs) ps r)
    (hplain : (backTo pos (starEach (e :: args) X.env)).any (·.1) = false := by rfl) (hse : ∃ y ys, backTo pos (starEach (e :: args) X.env) = (false, y) :: ys := by exact ⟨_, _, rfl⟩) : Ev X (.Call (.Name x p) (e :: args) [] pos) ρ r := fun V O s Q E F hQ => by
  rw [arm_eval_Call_Name']
  refine wpAny_bind (hf V O s _ E F ?_)
  refine Calls.callWith_builtin hplain ?_
  obtain ⟨y, ys, he⟩ := hse
  have key := ha V O s (fun vs s' => wpAny X.M X.A (call (.builtin b) vs) Q E s') E F fun vs s₁ g₁ rs => ho V s₁ vs Q E (F.grow g₁).vol rs fun x s₂ g₂ r => hQ x s₂ (g₁.trans g₂) r
  rw [he] at key ⊢
  exact Calls.evalArgs_plain key
end
end PL
end
noncomputable section
open PySem PySem.W PyProof.Rows
set_option Elab.async false
set_option linter.unusedVariables false
set_option maxRecDepth 100000
namespace PL

inductive PF where
  | next | brk | cont
  | ret (p : PV)
noncomputable def FlRep (C : Addr) (V : Addr → Prop) (h : Heap) : PF → Flow → Prop
  | .next, f => f = .next
  | .brk, f => f = .brk
  | .cont, f => f = .cont
  | .ret p, f => ∃ v, f = .ret v ∧ Rep C V h p v

structure VExt (own : List Addr) (V V' : Addr → Prop) (s : Shared) : Prop where
  up : ∀ b, V b → V' b ∨ b ∈ own
  fresh : ∀ b, V' b → V b ∨ s.heap.get? b = none
theorem VExt.refl (own : List Addr) (V : Addr → Prop) (s : Shared) : VExt own V V s := ⟨fun _ h => .inl h, fun _ h => .inl h⟩

/-- where a statement's run stands -/
structure Ran (X : Cx) (V : Addr → Prop) (O : Str → Addr) (ρ : Vars) (s : Shared) (V' : Addr → Prop) (O' : Str → Addr) (ρ' : Vars) (s' : Shared) : Prop where
  frm : X.F V' O' ρ' s'
  vext : VExt (owned X.env O ρ) V V' s
  fresh : Fresh (owned X.env O ρ) (owned X.env O' ρ') s
  step : Step (owned X.env O ρ) s s'
  frees : ∀ x c q, (x, VK.free c, q) ∈ ρ' → ∃ q', (x, VK.free c, q') ∈ ρ

theorem Ran.refl {X : Cx} {V O ρ s} (F : X.F V O ρ s) : Ran X V O ρ s V O ρ s := ⟨F, .refl _ _ _, .refl _ _, .refl _ _, fun _ _ q h => ⟨q, h⟩⟩
theorem Ran.grow {X : Cx} {V O ρ s s'} (F : X.F V O ρ s) (g : Grow s s') : Ran X V O ρ s V O ρ s' := ⟨F.grow g, .refl _ _ _, .refl _ _, g.step _, fun _ _ q h => ⟨q, h⟩⟩
theorem Ran.trans {X : Cx} {V O ρ s V₁ O₁ ρ₁ s₁ V₂ O₂ ρ₂ s₂} (x : Ran X V O ρ s V₁ O₁ ρ₁ s₁) (y : Ran X V₁ O₁ ρ₁ s₁ V₂ O₂ ρ₂ s₂) (F : X.F V O ρ s) : Ran X V O ρ s V₂ O₂ ρ₂ s₂ := by
  refine ⟨y.frm, ⟨fun b h => ?_, fun b h => ?_⟩, x.fresh.trans x.step y.fresh, x.step.trans y.step x.fresh, fun a c q h => let ⟨q', h'⟩ := y.frees a c q h; x.frees a c q' h'⟩
  · rcases x.vext.up b h with h1 | h1
    · rcases y.vext.up b h1 with h2 | h2
      · exact .inl h2
      · rcases x.fresh b h2 with h3 | h3
        · exact .inr h3
        · obtain ⟨o, e⟩ := F.vol.live b h; rw [e] at h3; cases h3
    · exact .inr h1
  · rcases y.vext.fresh b h with h' | h'
    · exact x.vext.fresh b h'
    · by_cases hm : b ∈ owned X.env O ρ
      · exact .inl (F.own b hm)
      · right
        cases e : s.heap.get? b with
        | none => rfl
        | some o => rw [x.step.keep b o hm e] at h'; cases h'

noncomputable def Ex1 (X : Cx) (st : Stmt) (ρ : Vars) (fl : PF) (ρ' : Vars) : Prop :=
  ∀ V O s (Q : Flow → Shared → Prop) (E : Value → Shared → Prop), X.F V O ρ s → (∀ V' O' s' f, Ran X V O ρ s V' O' ρ' s' → FlRep X.C V' s'.heap fl f → Q f s') → wpAny X.M X.A (exec st X.env) Q E s
noncomputable def Exs (X : Cx) (ss : List Stmt) (ρ : Vars) (fl : PF) (ρ' : Vars) : Prop :=
  ∀ V O s (Q : Flow → Shared → Prop) (E : Value → Shared → Prop), X.F V O ρ s → (∀ V' O' s' f, Ran X V O ρ s V' O' ρ' s' → FlRep X.C V' s'.heap fl f → Q f s') → wpAny X.M X.A (execs ss X.env) Q E s
/-- a value put to a target -/
noncomputable def Asg (X : Cx) (t : Expr) (p : PV) (ρ ρ' : Vars) : Prop :=
  ∀ V O s v (Q : Unit → Shared → Prop) (E : Value → Shared → Prop), X.F V O ρ s → X.R V s p v → (∀ V' O' s', Ran X V O ρ s V' O' ρ' s' → X.R V' s' p v → Q () s') → wpAny X.M X.A (assign t X.env v) Q E s

section
variable {X : Cx} {ρ ρ' ρ'' : Vars} {mg mb : Str → Option Value}

theorem _root_.PL.Put.frees {ρ ρ' : Vars} {x : Str} {p : PV} (h : Put ρ x p ρ') : ∀ y c q, (y, VK.free c, q) ∈ ρ' → ∃ q', (y, VK.free c, q') ∈ ρ := fun y c q hm => by
  obtain ⟨k, _, _, hf, ha⟩ := h.mem
  rcases ha _ hm with e | e
  · cases e; exact absurd rfl (hf c)
  · exact ⟨q, e⟩
theorem exs_nil : Exs X [] ρ .next ρ := fun V O s Q E F hQ => wpAny_execs_nil (hQ V O s .next (.refl F) rfl)
theorem exs_cons {st : Stmt} {ss : List Stmt} {fl : PF} (h1 : Ex1 X st ρ .next ρ') (h2 : Exs X ss ρ' fl ρ'') : Exs X (st :: ss) ρ fl ρ'' := fun V O s Q E F hQ =>
  wpAny_execs_cons (h1 V O s _ E F fun V' O' s' f R hf => by
    cases hf
    exact h2 V' O' s' Q E R.frm fun V₂ O₂ s₂ f₂ R₂ hf₂ => hQ V₂ O₂ s₂ f₂ (R.trans R₂ F) hf₂)
theorem exs_stop {st : Stmt} {ss : List Stmt} {fl : PF} (h1 : Ex1 X st ρ fl ρ') (hn : fl ≠ .next := by intro h; cases h) : Exs X (st :: ss) ρ fl ρ' := fun V O s Q E F hQ =>
  wpAny_execs_cons (h1 V O s _ E F fun V' O' s' f R hf => by
    cases fl with
    | next => exact absurd rfl hn
    | brk => cases hf; exact hQ V' O' s' _ R rfl
    | cont => cases hf; exact hQ V' O' s' _ R rfl
    | ret p => obtain ⟨v, rfl, r⟩ := hf; exact hQ V' O' s' _ R ⟨v, rfl, r⟩)
theorem exs_one {st : Stmt} {fl : PF} (h1 : Ex1 X st ρ fl ρ') : Exs X [st] ρ fl ρ' := by
  cases fl with
  | next => exact exs_cons h1 exs_nil
  | _ => exact exs_stop h1

theorem asg_name {x : Str} {pos : Pos} {p : PV} (h : Put ρ x p ρ') : Asg X (.Name x pos) p ρ ρ' := fun V O s v Q E F r hQ =>
  PySem.wpAny_assign_Name (F.store h r fun s' F' st he => hQ V O s' ⟨F', .refl _ _ _, fun b hb => .inl (he ▸ hb), st, h.frees⟩
    (Rep.mono (fun b o nb e => ⟨nb, st.keep b o (fun hm => nb (F.own b hm)) e⟩) p r))

theorem ran_store {V O s} {x : Str} {p : PV} (h : Put ρ x p ρ') (F : X.F V O ρ s) {s'} (F' : X.F V O ρ' s') (st : Step (owned X.env O ρ) s s') (he : owned X.env O ρ' = owned X.env O ρ) : Ran X V O ρ s V O ρ' s' :=
  ⟨F', .refl _ _ _, fun b hb => .inl (he ▸ hb), st, h.frees⟩

theorem ex_assign {x : Str} {pos' pos : Pos} {e : Expr} {p : PV} (he : Ev X e ρ p) (h : Put ρ x p ρ') (hs : swapsWith e (some (.Name x pos')) pos.line X.env = pure false := by rfl) : Ex1 X (.Assign [.Name x pos'] e pos) ρ .next ρ' := fun V O s Q E F hQ =>
  wpAny_Assign_Name (he V O s _ E F fun v s₁ g r => (F.grow g).store h r fun s' F' st ho => hQ V O s' .next ((Ran.grow F g).trans (ran_store h (F.grow g) F' st ho) F) rfl) hs
theorem Ran.rep {V O s V' O' s'} (R : Ran X V O ρ s V' O' ρ' s') (F : X.F V O ρ s) {p : PV} {v : Value} (r : X.R V s p v) : X.R V' s' p v :=
  Rep.mono (fun b o nb e => ⟨fun h => (R.vext.fresh b h).elim nb (fun h' => by rw [h'] at e; cases e), R.step.keep b o (fun hm => nb (F.own b hm)) e⟩) p r
theorem Ran.reps {V O s V' O' s'} (R : Ran X V O ρ s V' O' ρ' s') (F : X.F V O ρ s) {p : List PV} {v : List Value} (r : X.Rs V s p v) : X.Rs V' s' p v :=
  Reps.mono (fun b o nb e => ⟨fun h => (R.vext.fresh b h).elim nb (fun h' => by rw [h'] at e; cases e), R.step.keep b o (fun hm => nb (F.own b hm)) e⟩) p r

theorem ex_assign2 {t₁ t₂ : Expr} {pos : Pos} {e : Expr} {p : PV} (he : Ev X e ρ p) (h1 : Asg X t₁ p ρ ρ') (h2 : Asg X t₂ p ρ' ρ'') (ht : (assignEach [t₁, t₂] X.env).map (·.2) = [assign t₁ X.env, assign t₂ X.env] := by rfl)
    (hw : swappedStores [t₁, t₂] e X.env = pure none := by rfl) : Ex1 X (.Assign [t₁, t₂] e pos) ρ .next ρ'' := fun V O s Q E F hQ =>
  wpAny_Assign_two (he V O s _ E F fun v s₁ g r => h1 V O s₁ v _ E (F.grow g) r fun V₁ O₁ s₂ R₁ r₁ => h2 V₁ O₁ s₂ v _ E R₁.frm r₁ fun V₂ O₂ s₃ R₂ _ =>
    hQ V₂ O₂ s₃ .next (((Ran.grow F g).trans R₁ F).trans R₂ F) rfl) ht hw
theorem ex_assign3 {ρ₃ : Vars} {t₁ t₂ t₃ : Expr} {pos : Pos} {e : Expr} {p : PV} (he : Ev X e ρ p) (h1 : Asg X t₁ p ρ ρ') (h2 : Asg X t₂ p ρ' ρ'') (h3 : Asg X t₃ p ρ'' ρ₃) (ht : (assignEach [t₁, t₂, t₃] X.env).map (·.2) = [assign t₁ X.env, assign t₂ X.env, assign t₃ X.env] := by rfl)
    (hw : swappedStores [t₁, t₂, t₃] e X.env = pure none := by rfl) : Ex1 X (.Assign [t₁, t₂, t₃] e pos) ρ .next ρ₃ := fun V O s Q E F hQ =>
  wpAny_Assign_three (he V O s _ E F fun v s₁ g r => h1 V O s₁ v _ E (F.grow g) r fun V₁ O₁ s₂ R₁ r₁ => h2 V₁ O₁ s₂ v _ E R₁.frm r₁ fun V₂ O₂ s₃ R₂ r₂ => h3 V₂ O₂ s₃ v _ E R₂.frm r₂ fun V₃ O₃ s₄ R₃ _ =>
    hQ V₃ O₃ s₄ .next ((((Ran.grow F g).trans R₁ F).trans R₂ F).trans R₃ F) rfl) ht hw

theorem ex_aug {x : Str} {pos' pos : Pos} {op : Operator} {e : Expr} {p q r : PV} (hx : At ρ x p) (he : Ev X e ρ q) (ho : Op2 X (inplaceOp op) p q r) (h : Put ρ x r ρ') : Ex1 X (.AugAssign (.Name x pos') op e pos) ρ .next ρ' := fun V O s Q E F hQ =>
  wpAny_AugAssign_Name (F.load hx fun u ru => he V O s _ E F fun v s₁ g₁ rv => ho V s₁ u v _ E (F.grow g₁).vol (ru.grow g₁) rv fun z s₂ g₂ rz => ((F.grow g₁).grow g₂).store h rz fun s' F' st hoo =>
    hQ V O s' .next ((Ran.grow F (g₁.trans g₂)).trans (ran_store h (F.grow (g₁.trans g₂)) F' st hoo) F) rfl)

theorem ex_if {test : Expr} {body orelse : List Stmt} {pos : Pos} {b : Bool} {fl : PF} (ht : It X test ρ b) (h1 : b = true → Exs X body ρ fl ρ') (h2 : b = false → Exs X orelse ρ fl ρ') : Ex1 X (.If test body orelse pos) ρ fl ρ' := fun V O s Q E F hQ =>
  wpAny_If (ht V O s _ E F fun s₁ g₁ => by
    cases b with
    | true => exact h1 rfl V O s₁ Q E (F.grow g₁) fun V' O' s' f R hf => hQ V' O' s' f ((Ran.grow F g₁).trans R F) hf
    | false => exact h2 rfl V O s₁ Q E (F.grow g₁) fun V' O' s' f R hf => hQ V' O' s' f ((Ran.grow F g₁).trans R F) hf)
theorem ex_return {e : Expr} {pos : Pos} {p : PV} (he : Ev X e ρ p) : Ex1 X (.Return (some e) pos) ρ (.ret p) ρ := fun V O s Q E F hQ =>
  wpAny_Return_some (he V O s _ E F fun v s₁ g r => hQ V O s₁ _ (.grow F g) ⟨v, rfl, r⟩)
theorem ex_break {pos : Pos} : Ex1 X (.Break pos) ρ .brk ρ := fun V O s Q E F hQ => wpAny_Break (hQ V O s _ (.refl F) rfl)

/-! tuple targets -/
theorem owned_size {V O ρ s} (F : X.F V O ρ s) : ¬ V s.heap.objs.size := F.vol.not_new
theorem ExtSize.grow {s : Shared} {h' : Heap} (e : Heap.ExtBut s.heap.objs.size s.heap h') : Grow s { s with heap := h' } :=
  ⟨fun b o hb => e b o (Nat.ne_of_lt (Heap.lt_size hb)) hb, rfl, .refl _⟩
theorem asg_tuple2 {t₁ t₂ : Expr} {k : Nat} {pos : Pos} {p q : PV} (hh : X.A.handled = none) (h1 : Asg X t₁ p ρ ρ') (h2 : Asg X t₂ q ρ' ρ'') (ha : assignEach [t₁, t₂] X.env = [(false, assign t₁ X.env), (false, assign t₂ X.env)] := by rfl) : Asg X (.Tuple [t₁, t₂] k pos) (.tup [p, q]) ρ ρ'' := fun V O s v Q E F r hQ => by
  have r0 := r
  simp only [Cx.R, Rep, Reps] at r
  obtain ⟨a, vs, rfl, hV, ht, u, us, rfl, ru, w, ws, rfl, rw', rfl⟩ := r
  refine assign_Tuple_tuple hh ht (by rw [ha]; simp) (by rw [ha]; rfl) fun h' e => ?_
  have g := ExtSize.grow e
  rw [ha]
  refine assignInOrder_cons (h1 V O _ u _ E (F.grow g) (ru.grow g) fun V₁ O₁ s₁ R₁ _ => ?_)
  have rw₁ : X.R V₁ s₁ q w := R₁.rep (F.grow g) (rw'.grow g)
  refine assignInOrder_cons (h2 V₁ O₁ s₁ w _ E R₁.frm rw₁ fun V₂ O₂ s₂ R₂ _ => ?_)
  have R := ((Ran.grow F g).trans R₁ F).trans R₂ F
  exact assignInOrder_nil (hQ V₂ O₂ s₂ R (R.rep F r0))
theorem ex_assignT {elts : List Expr} {k : Nat} {tpos pos : Pos} {e : Expr} {p : PV} (he : Ev X e ρ p) (h1 : Asg X (.Tuple elts k tpos) p ρ ρ') (hs : swapsWithSole [.Tuple elts k tpos] e pos.line X.env = pure false := by rfl)
    (hw : swappedStores [.Tuple elts k tpos] e X.env = pure none := by rfl) : Ex1 X (.Assign [.Tuple elts k tpos] e pos) ρ .next ρ' := fun V O s Q E F hQ =>
  Assign_Tuple (he V O s _ E F fun v s₁ g r => h1 V O s₁ v _ E (F.grow g) r fun V₁ O₁ s₂ R₁ _ => hQ V₁ O₁ s₂ .next ((Ran.grow F g).trans R₁ F) rfl) hs hw
/-- a, b = (b, a): the stores exchanged -/
theorem ex_swap {elts : List Expr} {k : Nat} {tpos pos : Pos} {e : Expr} {p q : PV} {x y : Str} (hh : X.A.handled = none) (he : Ev X e ρ (.tup [p, q])) (h1 : Put ρ y q ρ') (h2 : Put ρ' x p ρ'')
    (hs : swapsWithSole [.Tuple elts k tpos] e pos.line X.env = pure false := by rfl)
    (hw : swappedStores [.Tuple elts k tpos] e X.env = pure (some [x, y]) := by rfl) : Ex1 X (.Assign [.Tuple elts k tpos] e pos) ρ .next ρ'' := fun V O s Q E F hQ =>
  Assign_Tuple_swapped (he V O s _ E F fun v s₁ g r => by
    simp only [Cx.R, Rep, Reps] at r
    obtain ⟨a, vs, rfl, hV, ht, u, us, rfl, ru, w, ws, rfl, rw', rfl⟩ := r
    refine unpackItems_tuple (items := [u, w].toArray) hh ht fun h' e' => ?_
    have g' := ExtSize.grow (s := s₁) e'
    have F' := (F.grow g).grow g'
    show wpAny X.M X.A (assignInOrder [bindName X.env y, bindName X.env x] [w, u]) _ E _
    refine assignInOrder_cons (wpAny_bindName (F'.store h1 (rw'.grow g') fun s₂ F₂ st₂ ho₂ => ?_))
    have R₂ := ran_store h1 F' F₂ st₂ ho₂
    refine assignInOrder_cons (wpAny_bindName (F₂.store h2 (R₂.rep F' (ru.grow g')) fun s₃ F₃ st₃ ho₃ => ?_))
    exact assignInOrder_nil (hQ V O s₃ .next (((Ran.grow F (g.trans g')).trans R₂ F).trans (ran_store h2 F₂ F₃ st₃ ho₃) F) rfl)) hs hw

/-! while -/
inductive Whl (X : Cx) (test : Expr) (body : List Stmt) : Nat → Vars → PF → Vars → Prop
  | stop {n ρ} : It X test ρ false → Whl X test body n ρ .next ρ
  | step {n ρ ρ₁ ρ₂ fl} : It X test ρ true → Exs X body ρ .next ρ₁ → Whl X test body n ρ₁ fl ρ₂ → Whl X test body (n + 1) ρ fl ρ₂
  | brk {n ρ ρ₁} : It X test ρ true → Exs X body ρ .brk ρ₁ → Whl X test body n ρ .next ρ₁
  | ret {n ρ ρ₁ p} : It X test ρ true → Exs X body ρ (.ret p) ρ₁ → Whl X test body n ρ (.ret p) ρ₁

theorem ex_while {test : Expr} {body : List Stmt} {pos : Pos} {n : Nat} {fl : PF} (h : Whl X test body n ρ fl ρ') : Ex1 X (.While test body [] pos) ρ fl ρ' := fun V O s Q E F hQ => by
  refine wpAny_While (codeAny_whileLoop (prog := X.prog) (w := X.w)
    (fun k s' => ∃ ρ₁ V₁ O₁, Whl X test body k ρ₁ fl ρ' ∧ Ran X V O ρ s V₁ O₁ ρ₁ s') ?_ n ⟨ρ, V, O, h, .refl F⟩)
  rintro k s' ⟨ρ₁, V₁, O₁, hw, R⟩
  cases hw with
  | stop ht => exact ht V₁ O₁ s' _ _ R.frm fun s₂ g₂ => wpAny_execs_nil (hQ V₁ O₁ s₂ .next (R.trans (.grow R.frm g₂) F) rfl)
  | step ht hb hr =>
    refine ht V₁ O₁ s' _ _ R.frm fun s₂ g₂ => ?_
    refine hb V₁ O₁ s₂ _ _ (R.frm.grow g₂) fun V₂ O₂ s₃ f R₂ hf => ?_
    cases hf
    exact ⟨_, Nat.lt_succ_self _, _, V₂, O₂, hr, (R.trans (.grow R.frm g₂) F).trans R₂ F⟩
  | brk ht hb =>
    refine ht V₁ O₁ s' _ _ R.frm fun s₂ g₂ => ?_
    refine hb V₁ O₁ s₂ _ _ (R.frm.grow g₂) fun V₂ O₂ s₃ f R₂ hf => ?_
    cases hf
    exact hQ V₂ O₂ s₃ .next ((R.trans (.grow R.frm g₂) F).trans R₂ F) rfl
  | ret ht hb =>
    refine ht V₁ O₁ s' _ _ R.frm fun s₂ g₂ => ?_
    refine hb V₁ O₁ s₂ _ _ (R.frm.grow g₂) fun V₂ O₂ s₃ f R₂ hf => ?_
    obtain ⟨v, rfl, r⟩ := hf
    exact hQ V₂ O₂ s₃ _ ((R.trans (.grow R.frm g₂) F).trans R₂ F) ⟨v, rfl, r⟩

/-! iteration -/
noncomputable def VW (V : Addr → Prop) (wr : List Addr) : Addr → Prop := fun b => V b ∨ b ∈ wr
/-- generator states but these stand -/
noncomputable def GX (G : List Nat) (g g' : Array GenState) : Prop := (∀ (i : Nat) (x : GenState), i ∉ G → g[i]? = some x → g'[i]? = some x) ∧ (AllBare g → AllBare g')
theorem GG.gx {g g' : Array GenState} (h : GG g g') (G : List Nat) : GX G g g' := ⟨fun i x _ e => h.1 i x e, h.2⟩
theorem GX.gg {g g' : Array GenState} (h : GX [] g g') : GG g g' := ⟨fun i x e => h.1 i x (by simp) e, h.2⟩

/-- an iterator that gives these items -/
structure Yields (X : Cx) (it : Value) (wr : List Addr) (G : List Nat) (items : Nat → Option PV) (St : (Addr → Prop) → Nat → Shared → Prop) : Prop where
  frame : ∀ V V' i s s', St V i s → (∀ b ∈ wr, V b) → (∀ b ∈ wr, ∀ o, s.heap.get? b = some o → s'.heap.get? b = some o) → (∀ b o, ¬ V b → s.heap.get? b = some o → ¬ V' b ∧ s'.heap.get? b = some o) → GG s.gens s'.gens → St V' i s'
  live : ∀ V i s, St V i s → ∀ b ∈ wr, ∃ o, s.heap.get? b = some o
  item : ∀ V i p s (Q : Option Value → Shared → Prop) (E : Value → Shared → Prop), items i = some p → St V i s → (∀ b ∈ wr, V b) → Vol X.base V s →
    (∀ v s', X.R V s' p v → St V (i + 1) s' → (∀ b o, b ∉ wr → s.heap.get? b = some o → s'.heap.get? b = some o) → s'.os = s.os → GX G s.gens s'.gens → Q (some v) s') → wpAny X.M X.A (pyNext it) Q E s
  done : ∀ V i s (Q : Option Value → Shared → Prop) (E : Value → Shared → Prop), items i = none → St V i s → (∀ b ∈ wr, V b) → Vol X.base V s →
    (∀ s', (∀ b o, b ∉ wr → s.heap.get? b = some o → s'.heap.get? b = some o) → s'.os = s.os → GX G s.gens s'.gens → Q none s') → wpAny X.M X.A (pyNext it) Q E s
  self : ∀ V i s (Q : Value → Shared → Prop) (E : Value → Shared → Prop), St V i s → Q it s → wpAny X.M X.A (pyIter it) Q E s

/-- an expression whose value is walked -/
noncomputable def IterTo (X : Cx) (e : Expr) (ρ : Vars) (items : Nat → Option PV) : Prop :=
  ∀ V O s (Q : Value → Shared → Prop) (E : Value → Shared → Prop), X.F V O ρ s →
    (∀ it s' wr G St, Grow s s' → Yields X it wr G items St → (∀ b ∈ wr, s.heap.get? b = none) → (∀ g ∈ G, s.gens[g]? = none) → St (VW V wr) 0 s' → Q it s') → wpAny X.M X.A (eval e X.env) (fun v s₁ => wpAny X.M X.A (pyIter v) Q E s₁) E s

inductive Loop (X : Cx) (target : Expr) (body : List Stmt) (items : Nat → Option PV) : Nat → Nat → Vars → PF → Vars → Prop
  | done {n i ρ} : items i = none → Loop X target body items n i ρ .next ρ
  | step {n i p ρ ρ₁ ρ₂ ρ₃ fl} : items i = some p → Asg X target p ρ ρ₁ → Exs X body ρ₁ .next ρ₂ → Loop X target body items n (i + 1) ρ₂ fl ρ₃ → Loop X target body items (n + 1) i ρ fl ρ₃
  | brk {n i p ρ ρ₁ ρ₂} : items i = some p → Asg X target p ρ ρ₁ → Exs X body ρ₁ .brk ρ₂ → Loop X target body items n i ρ .next ρ₂
  | ret {n i p ρ ρ₁ ρ₂ q} : items i = some p → Asg X target p ρ ρ₁ → Exs X body ρ₁ (.ret q) ρ₂ → Loop X target body items n i ρ (.ret q) ρ₂

theorem Vol.widen {base : Heap} {V : Addr → Prop} {s : Shared} (x : Vol base V s) {wr : List Addr} (h1 : ∀ b ∈ wr, ∃ o, s.heap.get? b = some o) (h2 : ∀ b ∈ wr, base.get? b = none) : Vol base (VW V wr) s :=
  ⟨x.keep, fun b hb => hb.elim (x.live b) (h1 b), fun b hb => hb.elim (x.apart b) (h2 b)⟩
theorem Frm.widen {V O s} (F : X.F V O ρ s) {wr : List Addr} (hl : ∀ b ∈ wr, ∃ o, s.heap.get? b = some o) (hb : ∀ b ∈ wr, X.base.get? b = none) {s₀ : Shared} (F₀ : X.F V O ρ s₀) (g : Grow s₀ s) (hn : ∀ b ∈ wr, s₀.heap.get? b = none) : X.F (VW V wr) O ρ s := by
  refine ⟨F.vol.widen hl hb, F.kind, ?_, fun b h => .inl (F.own b h), F.nodup, F.names, F.free⟩
  obtain ⟨m, hn', hv⟩ := F₀.vars
  refine ⟨m, hn'.keeps g.keep, fun e he => VarAt.mono (fun b o nb e => ⟨fun h => h.elim nb (fun h => by rw [hn b h] at e; cases e), g.keep b o e⟩) (fun _ h => .inl h) (fun _ _ o e => g.keep _ o e) (fun _ _ _ _ o e => g.keep _ o e) (hv e he)⟩
/-- the iterator moves: the frame stands -/
theorem Frm.moved {V O s s'} (F : X.F V O ρ s) {wr : List Addr} (hw : ∀ b ∈ wr, V b) (ho : ∀ b ∈ wr, b ∉ owned X.env O ρ) (hf : ∀ x c q, (x, VK.free c, q) ∈ ρ → c ∉ wr) (hl : ∀ b ∈ wr, ∃ o, s'.heap.get? b = some o) (hk : ∀ b o, b ∉ wr → s.heap.get? b = some o → s'.heap.get? b = some o) : X.F V O ρ s' := by
  have ow : ∀ b ∈ owned X.env O ρ, b ∉ wr := fun b h hm => ho b hm h
  refine ⟨⟨fun b o e => hk b o (fun hm => by rw [F.vol.apart b (hw b hm)] at e; cases e) (F.vol.keep b o e), fun b hb => ?_, F.vol.apart⟩, F.kind, ?_, F.own, F.nodup, F.names, F.free⟩
  · by_cases hm : b ∈ wr
    · exact hl b hm
    · obtain ⟨o, e⟩ := F.vol.live b hb; exact ⟨o, hk b o hm e⟩
  · obtain ⟨m, hn', hv⟩ := F.vars
    refine ⟨m, Ns.by hn' fun o e => hk _ o (ow _ (List.mem_cons_self ..)) e, fun e he => VarAt.mono (fun b o nb e => ⟨nb, hk b o (fun hm => nb (hw b hm)) e⟩) (fun _ h => h)
      (fun b hb o e' => hk b o (ow b (List.mem_cons_of_mem _ (List.mem_filterMap.mpr ⟨e, he, hb⟩))) e') (fun x c q e0 o e' => hk c o (hf x c q (e0 ▸ he)) e') (hv e he)⟩

/-- the iterator has ended: its places are let go -/
theorem Frm.leave {V O s s'} (F : X.F V O ρ s) {wr : List Addr} (hw : ∀ b ∈ wr, V b) (ho : ∀ b ∈ wr, b ∉ owned X.env O ρ) (hf : ∀ x c q, (x, VK.free c, q) ∈ ρ → c ∉ wr) (hk : ∀ b o, b ∉ wr → s.heap.get? b = some o → s'.heap.get? b = some o) : X.F (fun b => V b ∧ b ∉ wr) O ρ s' := by
  have ow : ∀ b ∈ owned X.env O ρ, b ∉ wr := fun b h hm => ho b hm h
  refine ⟨⟨fun b o e => hk b o (fun hm => by rw [F.vol.apart b (hw b hm)] at e; cases e) (F.vol.keep b o e), fun b hb => ?_, fun b hb => F.vol.apart b hb.1⟩, F.kind, ?_, fun b hb => ⟨F.own b hb, ow b hb⟩, F.nodup, F.names, F.free⟩
  · obtain ⟨o, e⟩ := F.vol.live b hb.1; exact ⟨o, hk b o hb.2 e⟩
  · obtain ⟨m, hn', hv⟩ := F.vars
    refine ⟨m, Ns.by hn' fun o e => hk _ o (ow _ (List.mem_cons_self ..)) e, fun e he => ?_⟩
    have hR : ∀ b o, ¬ V b → s.heap.get? b = some o → ¬ (V b ∧ b ∉ wr) ∧ s'.heap.get? b = some o := fun b o nb e => ⟨fun h => nb h.1, hk b o (fun hm => nb (hw b hm)) e⟩
    obtain ⟨x, k, q⟩ := e
    cases k with
    | free c =>
      obtain ⟨a, b, v, v0, d, e'⟩ := hv _ he
      exact ⟨a, b, ⟨v, hf x c q he⟩, v0, IsCell.by d (fun o e => hk c o (hf x c q he) e), fun p hp => let ⟨v', e1, e2⟩ := e' p hp; ⟨v', e1, Rep.mono hR p e2⟩⟩
    | loc =>
      have z := hv _ he
      cases q with
      | no => exact z
      | val p => obtain ⟨a, v, b, c⟩ := z; exact ⟨a, v, b, Rep.mono hR p c⟩
      | mu pl l =>
        obtain ⟨a, b, vs, c, c', d⟩ := z
        have hup : ∀ o, s.heap.get? (O x) = some o → s'.heap.get? (O x) = some o := fun o e => hk _ o (ow _ (List.mem_cons_of_mem _ (List.mem_filterMap.mpr ⟨_, he, rfl⟩))) e
        exact ⟨a, b, vs, c.at hup, fun hp => (c' hp).at hup, Reps.mono hR l d⟩
    | cell c =>
      obtain ⟨a, b, v0, d, e'⟩ := hv _ he
      have hc : ownOf O (x, VK.cell c, q) = some c := by cases q <;> rfl
      exact ⟨a, b, v0, IsCell.by d (fun o e => hk c o (ow c (List.mem_cons_of_mem _ (List.mem_filterMap.mpr ⟨_, he, hc⟩))) e), fun p hp => let ⟨v, e1, e2⟩ := e' p hp; ⟨v, e1, Rep.mono hR p e2⟩⟩

/-- the loop's state: the frame, the iterator, what the run has done since s₀ -/
structure InLoop (X : Cx) (wr : List Addr) (G : List Nat) (St : (Addr → Prop) → Nat → Shared → Prop) (V₀ : Addr → Prop) (O₀ : Str → Addr) (ρ₀ : Vars) (s₀ : Shared) (i : Nat) (V : Addr → Prop) (O : Str → Addr) (ρ : Vars) (s : Shared) : Prop where
  frm : X.F V O ρ s
  st : St V i s
  wrV : ∀ b ∈ wr, V b
  wrO : ∀ b ∈ wr, b ∉ owned X.env O ρ
  wrF : ∀ x c q, (x, VK.free c, q) ∈ ρ → c ∉ wr
  vext : VExt (owned X.env O₀ ρ₀) V₀ V s₀
  fresh : Fresh (owned X.env O₀ ρ₀) (owned X.env O ρ) s₀
  keep : ∀ b o, b ∉ owned X.env O₀ ρ₀ → s₀.heap.get? b = some o → s.heap.get? b = some o
  os : s.os = s₀.os
  gens : GX G s₀.gens s.gens
  frees : ∀ x c q, (x, VK.free c, q) ∈ ρ → ∃ q', (x, VK.free c, q') ∈ ρ₀

theorem GX.trans {G : List Nat} {a b c : Array GenState} (x : GX G a b) (y : GX G b c) : GX G a c := ⟨fun i z h e => y.1 i z h (x.1 i z h e), fun h => y.2 (x.2 h)⟩

theorem InLoop.ran {wr G St V₀ O₀ ρ₀ s₀ i V O ρ s V' O' ρ' s'} (it : Value) (items) (Y : Yields X it wr G items St) (F₀ : X.F V₀ O₀ ρ₀ s₀) (hwr : ∀ b ∈ wr, s₀.heap.get? b = none) (L : InLoop X wr G St V₀ O₀ ρ₀ s₀ i V O ρ s) (R : Ran X V O ρ s V' O' ρ' s') : InLoop X wr G St V₀ O₀ ρ₀ s₀ i V' O' ρ' s' := by
  have live : ∀ b ∈ wr, ∃ o, s.heap.get? b = some o := Y.live V i s L.st
  have fr2 : ∀ x c q, (x, VK.free c, q) ∈ ρ' → ∃ q', (x, VK.free c, q') ∈ ρ₀ := fun x c q h => let ⟨q', h'⟩ := R.frees x c q h; L.frees x c q' h'
  refine ⟨R.frm, Y.frame V V' i s s' L.st L.wrV (fun b hb o e => R.step.keep b o (L.wrO b hb) e) (fun b o nb e => ⟨fun h => (R.vext.fresh b h).elim nb (fun h' => by rw [h'] at e; cases e), R.step.keep b o (fun hm => nb (L.frm.own b hm)) e⟩) R.step.gens,
    fun b hb => (R.vext.up b (L.wrV b hb)).resolve_right (L.wrO b hb), fun b hb hm => ?_, fun x c q h hm => ?_, ⟨fun b h => ?_, fun b h => ?_⟩, fun b hb => ?_, fun b o hb e => ?_, R.step.os.trans L.os, L.gens.trans (R.step.gens.gx G), fr2⟩
  · rcases R.fresh b hm with h | h
    · exact L.wrO b hb h
    · obtain ⟨o, e⟩ := live b hb; rw [e] at h; cases h
  · obtain ⟨q', h'⟩ := R.frees x c q h
    exact L.wrF x c q' h' hm
  · rcases L.vext.up b h with h1 | h1
    · rcases R.vext.up b h1 with h2 | h2
      · exact .inl h2
      · rcases L.fresh b h2 with h3 | h3
        · exact .inr h3
        · obtain ⟨o, e⟩ := F₀.vol.live b h; rw [e] at h3; cases h3
    · exact .inr h1
  · rcases R.vext.fresh b h with h' | h'
    · exact L.vext.fresh b h'
    · by_cases hm : b ∈ owned X.env O₀ ρ₀
      · exact .inl (F₀.own b hm)
      · right
        cases e : s₀.heap.get? b with
        | none => rfl
        | some o => rw [L.keep b o hm e] at h'; cases h'
  · rcases R.fresh b hb with h | h
    · exact L.fresh b h
    · by_cases hm : b ∈ owned X.env O₀ ρ₀
      · exact .inl hm
      · right
        cases e : s₀.heap.get? b with
        | none => rfl
        | some o => rw [L.keep b o hm e] at h; cases h
  · refine R.step.keep b o (fun hm => ?_) (L.keep b o hb e)
    rcases L.fresh b hm with h | h
    · exact hb h
    · rw [h] at e; cases e
theorem InLoop.done {wr G St V₀ O₀ ρ₀ s₀ i V O ρ s} (L : InLoop X wr G St V₀ O₀ ρ₀ s₀ i V O ρ s) (hG : ∀ g ∈ G, s₀.gens[g]? = none) : Ran X V₀ O₀ ρ₀ s₀ V O ρ s :=
  ⟨L.frm, L.vext, L.fresh, ⟨L.keep, L.os, ⟨fun j x e => L.gens.1 j x (fun h => by rw [hG j h] at e; cases e) e, L.gens.2⟩⟩, L.frees⟩

theorem ex_for {target iter : Expr} {body : List Stmt} {pos : Pos} {items : Nat → Option PV} {n : Nat} {fl : PF} (hi : IterTo X iter ρ items) (h : Loop X target body items n 0 ρ fl ρ') (hs : ∀ x, foldedSetIterable iter X.env x = pure x := by intro _; rfl)
    (ht : ∀ it v, letOwnedTupleGo target it v = pure () := by intro _ _; rfl) :
    Ex1 X (.For target iter body [] pos) ρ fl ρ' := fun V₀ O₀ s₀ Q E F₀ hQ => by
  refine wpAny_For (hi V₀ O₀ s₀ _ E F₀ fun it s₁ wr G St g Y hwr hG hst => ?_) hs
  refine codeAny_forLoop (prog := X.prog) (w := X.w)
    (fun k s' => ∃ i ρ₁ V₁ O₁, Loop X target body items k i ρ₁ fl ρ' ∧ InLoop X wr G St V₀ O₀ ρ s₀ i V₁ O₁ ρ₁ s') ?_ n ⟨0, ρ, VW V₀ wr, O₀, h, ?_⟩ (ht it)
  · rintro k s' ⟨i, ρ₁, V₁, O₁, hl, L⟩
    have stepI : ∀ {p : PV} {Q' : Option Value → Shared → Prop} {E' : Value → Shared → Prop}, items i = some p → (∀ v s₂, X.R V₁ s₂ p v → InLoop X wr G St V₀ O₀ ρ s₀ (i + 1) V₁ O₁ ρ₁ s₂ → Q' (some v) s₂) → wpAny X.M X.A (pyNext it) Q' E' s' := fun {p Q' E'} hp hq =>
      Y.item V₁ i p s' Q' E' hp L.st L.wrV L.frm.vol fun v s₂ r st₂ hk hos hg => hq v s₂ r
        ⟨L.frm.moved L.wrV L.wrO L.wrF (Y.live V₁ _ s₂ st₂) hk, st₂, L.wrV, L.wrO, L.wrF, L.vext, L.fresh, fun b o hb e => hk b o (fun hm => by rw [hwr b hm] at e; cases e) (L.keep b o hb e), hos.trans L.os, L.gens.trans hg, L.frees⟩
    cases hl with
    | done hn =>
      refine Y.done V₁ i s' _ _ hn L.st L.wrV L.frm.vol fun s₂ hk hos hg => ?_
      have L₂ : Ran X V₀ O₀ ρ s₀ (fun b => V₁ b ∧ b ∉ wr) O₁ ρ' s₂ :=
        ⟨L.frm.leave L.wrV L.wrO L.wrF hk, ⟨fun b h => (L.vext.up b h).imp (fun h' => ⟨h', fun hm => by obtain ⟨o, e⟩ := F₀.vol.live b h; rw [hwr b hm] at e; cases e⟩) id, fun b h => L.vext.fresh b h.1⟩, L.fresh, ⟨fun b o hb e => hk b o (fun hm => by rw [hwr b hm] at e; cases e) (L.keep b o hb e), hos.trans L.os,
          ⟨fun j x e => (L.gens.trans hg).1 j x (fun h => by rw [hG j h] at e; cases e) e, (L.gens.trans hg).2⟩⟩, L.frees⟩
      exact wpAny_execs_nil (hQ _ O₁ s₂ .next L₂ rfl)
    | step hp ha hb hr =>
      refine stepI hp fun v s₂ r L₂ => ?_
      refine ha V₁ O₁ s₂ v _ _ L₂.frm r fun V₂ O₂ s₃ R₂ _ => ?_
      have L₃ := L₂.ran it items Y F₀ hwr R₂
      refine hb V₂ O₂ s₃ _ _ L₃.frm fun V₃ O₃ s₄ f R₃ hf => ?_
      cases hf
      exact ⟨_, Nat.lt_succ_self _, _, _, _, _, hr, L₃.ran it items Y F₀ hwr R₃⟩
    | brk hp ha hb =>
      refine stepI hp fun v s₂ r L₂ => ?_
      refine ha V₁ O₁ s₂ v _ _ L₂.frm r fun V₂ O₂ s₃ R₂ _ => ?_
      have L₃ := L₂.ran it items Y F₀ hwr R₂
      refine hb V₂ O₂ s₃ _ _ L₃.frm fun V₃ O₃ s₄ f R₃ hf => ?_
      cases hf
      exact hQ _ _ _ .next ((L₃.ran it items Y F₀ hwr R₃).done hG) rfl
    | ret hp ha hb =>
      refine stepI hp fun v s₂ r L₂ => ?_
      refine ha V₁ O₁ s₂ v _ _ L₂.frm r fun V₂ O₂ s₃ R₂ _ => ?_
      have L₃ := L₂.ran it items Y F₀ hwr R₂
      refine hb V₂ O₂ s₃ _ _ L₃.frm fun V₃ O₃ s₄ f R₃ hf => ?_
      obtain ⟨v', rfl, r'⟩ := hf
      exact hQ _ _ _ _ ((L₃.ran it items Y F₀ hwr R₃).done hG) ⟨v', rfl, r'⟩
  · have hl := Y.live _ 0 s₁ hst
    have hb : ∀ b ∈ wr, X.base.get? b = none := fun b hm => by
      cases e : X.base.get? b with
      | none => rfl
      | some o => have := F₀.vol.keep b o e; rw [hwr b hm] at this; cases this
    have live₀ : ∀ b, V₀ b → b ∉ wr := fun b hb hm => by obtain ⟨o, e⟩ := F₀.vol.live b hb; rw [hwr b hm] at e; cases e
    refine ⟨(F₀.grow g).widen hl hb F₀ g hwr, hst, fun b h => .inr h, fun b h hm => live₀ b (F₀.own b hm) h, fun x c q h => ?_, ⟨fun b h => .inl (.inl h), fun b h => h.imp id (hwr b)⟩, .refl _ _, fun b o _ e => g.keep b o e, g.os, g.gens.gx G, fun _ _ q h => ⟨q, h⟩⟩
    obtain ⟨m, _, hv⟩ := F₀.vars
    obtain ⟨_, _, hc, _⟩ := hv _ h
    exact live₀ c hc

/-! a list walked -/
inductive LoopL (X : Cx) (target : Expr) (body : List Stmt) : List PV → Vars → PF → Vars → Prop
  | nil {r : Vars} : LoopL X target body [] r .next r
  | cons {p ps} {r ρ₁ ρ₂ ρ₃ : Vars} {fl} : Asg X target p r ρ₁ → Exs X body ρ₁ .next ρ₂ → LoopL X target body ps ρ₂ fl ρ₃ → LoopL X target body (p :: ps) r fl ρ₃
  | brk {p ps} {r ρ₁ ρ₂ : Vars} : Asg X target p r ρ₁ → Exs X body ρ₁ .brk ρ₂ → LoopL X target body (p :: ps) r .next ρ₂
  | ret {p ps} {r ρ₁ ρ₂ : Vars} {q} : Asg X target p r ρ₁ → Exs X body ρ₁ (.ret q) ρ₂ → LoopL X target body (p :: ps) r (.ret q) ρ₂
theorem LoopL.to {target : Expr} {body : List Stmt} {fl : PF} (l₀ : List PV) : ∀ {l : List PV} {ρ ρ' : Vars}, LoopL X target body l ρ fl ρ' → ∀ i, l₀.drop i = l → Loop X target body (fun i => l₀[i]?) l.length i ρ fl ρ' := by
  intro l ρ ρ' h
  have first : ∀ (i : Nat) (p : PV) (ps : List PV), l₀.drop i = p :: ps → l₀[i]? = some p ∧ l₀.drop (i + 1) = ps := fun i p ps e => by
    refine ⟨?_, ?_⟩
    · have := List.getElem?_drop (xs := l₀) (i := i) (j := 0)
      rw [e] at this; simpa using this.symm
    · rw [← List.drop_drop, e]; rfl
  induction h with
  | nil => intro i e; exact .done (List.getElem?_eq_none (List.drop_eq_nil_iff.mp e))
  | cons ha hb _ ih => intro i e; exact .step (first i _ _ e).1 ha hb (ih (i + 1) (first i _ _ e).2)
  | brk ha hb => intro i e; exact .brk (first i _ _ e).1 ha hb
  | ret ha hb => intro i e; exact .ret (first i _ _ e).1 ha hb
theorem ex_forL {target iter : Expr} {body : List Stmt} {pos : Pos} {l : List PV} {fl : PF} (hi : IterTo X iter ρ (fun i => l[i]?)) (h : LoopL X target body l ρ fl ρ') (hs : ∀ x, foldedSetIterable iter X.env x = pure x := by intro _; rfl)
    (ht : ∀ it v, letOwnedTupleGo target it v = pure () := by intro _ _; rfl) : Ex1 X (.For target iter body [] pos) ρ fl ρ' := ex_for hi (h.to l 0 rfl) hs ht
end
end PL
end
noncomputable section
open PySem PySem.W PyProof.Rows
set_option Elab.async false
set_option linter.unusedVariables false
set_option maxRecDepth 100000
namespace PL

structure Room (A : Around) (n : Nat) : Prop where
  handled : A.handled = none
  depth : A.depth + n < recursionLimit
  units : A.units + 10 * n + 20 < cLine
theorem Room.deeper {A : Around} {n : Nat} (h : Room A (n + 1)) (env : Env) : Room (A.deeper env) n := ⟨h.handled, by have := h.depth; show A.depth + 1 + n < _; omega, by have := h.units; show A.units + 3 + 10 * n + 20 < _; omega⟩
theorem Room.less {A : Around} {n m : Nat} (h : Room A n) (hm : m ≤ n := by decide) : Room A m := ⟨h.handled, by have := h.depth; omega, by have := h.units; omega⟩

/-- what a function of the text gives back -/
structure FnS (X : Cx) (f : Addr) (ps : List PV) (r : PV) (n : Nat) : Prop where
  obj : ∃ o fd, X.base.get? f = some o ∧ o.data = .func fd
  run : ∀ A, Room A n → ∀ V s vs (Q : Value → Shared → Prop) (E : Value → Shared → Prop), Vol X.base V s → Reps X.C V s.heap ps vs → (∀ v s', Grow s s' → Rep X.C V s'.heap r v → Q v s') → wpAny X.M A (call (.ref f) vs) Q E s
theorem FnS.less {X : Cx} {f : Addr} {ps : List PV} {r : PV} {n m : Nat} (h : FnS X f ps r n) (hm : n ≤ m := by decide) : FnS X f ps r m := ⟨h.obj, fun A hA => h.run A (hA.less hm)⟩

theorem bindL_last {k : Str → Option NameKind} : ∀ {bs : List (Str × Value)} {m : Str → Option Value} {x : Str}, x ∉ bs.map (·.1) → bindL k bs m x = m x
  | [], _, _, _ => rfl
  | (n, v) :: r, m, x, h => by
    simp only [List.map_cons, List.mem_cons, not_or] at h
    rw [bindL, bindL_last h.2]
    split
    · simp [h.1]
    · rfl
theorem bindC_last {k : Str → Option NameKind} : ∀ {bs : List (Str × Value)} {m : Str → Option Value} {x : Str}, x ∉ bs.map (·.1) → bindC k bs m x = m x
  | [], _, _, _ => rfl
  | (n, v) :: r, m, x, h => by
    simp only [List.map_cons, List.mem_cons, not_or] at h
    rw [bindC, bindC_last h.2]
    split
    · rfl
    · simp [h.1]

/-- the frame at its start -/
inductive Ini (k : Str → Option NameKind) (cs : List (Str × Addr)) : List Str → List PV → Vars → Prop
  | nil : Ini k cs [] [] []
  | argL {x xs p ps r} : k x = some .local → Ini k cs xs ps r → Ini k cs (x :: xs) (p :: ps) ((x, .loc, .val p) :: r)
  | argC {x xs p ps r c} : k x = some .cell → cs.lookup x = some c → Ini k cs xs ps r → Ini k cs (x :: xs) (p :: ps) ((x, .cell c, .val p) :: r)
  | loc {x xs ps r} : k x = some .local → Ini k cs xs ps r → Ini k cs xs ps ((x, .loc, .no) :: r)
  | cell {x xs ps r c} : k x = some .cell → cs.lookup x = some c → Ini k cs xs ps r → Ini k cs xs ps ((x, .cell c, .no) :: r)

theorem Ini.vars {C : Addr} {env : Env} {O : Str → Addr} {V : Addr → Prop} {h : Heap} {m cm : Str → Option Value} : ∀ {xs : List Str} {ps : List PV} {ρ : Vars}, Ini env.kindOf env.cells xs ps ρ → ∀ {vs : List Value}, Reps C V h ps vs →
    (∀ x v, (x, v) ∈ xs.zip vs → (env.kindOf x = some .local → m x = some v) ∧ (env.kindOf x = some .cell → cm x = some v)) → (∀ n c, env.cells.lookup n = some c → h.IsCell c (cm n)) → ∀ e ∈ ρ, VarAt C env O m V h e := by
  intro xs ps ρ hI
  induction hI with
  | nil => intro vs _ _ _ e he; cases he
  | argL hk _ ih =>
    intro vs rs hm hc e he
    simp only [Reps] at rs
    obtain ⟨v, vs', rfl, r, rs⟩ := rs
    rcases List.mem_cons.mp he with rfl | he
    · exact ⟨hk, v, (hm _ _ (List.mem_cons_self ..)).1 hk, r⟩
    · exact ih rs (fun x v hx => hm x v (List.mem_cons_of_mem _ hx)) hc e he
  | argC hk hl _ ih =>
    intro vs rs hm hc e he
    simp only [Reps] at rs
    obtain ⟨v, vs', rfl, r, rs⟩ := rs
    rcases List.mem_cons.mp he with rfl | he
    · exact ⟨hk, hl, _, hc _ _ hl, fun p hp => by cases hp; exact ⟨v, (hm _ _ (List.mem_cons_self ..)).2 hk, r⟩⟩
    · exact ih rs (fun x v hx => hm x v (List.mem_cons_of_mem _ hx)) hc e he
  | loc hk _ ih =>
    intro vs rs hm hc e he
    rcases List.mem_cons.mp he with rfl | he
    · exact hk
    · exact ih rs hm hc e he
  | cell hk hl _ ih =>
    intro vs rs hm hc e he
    rcases List.mem_cons.mp he with rfl | he
    · exact ⟨hk, hl, _, hc _ _ hl, fun p hp => by cases hp⟩
    · exact ih rs hm hc e he
theorem Ini.cellsIn {k : Str → Option NameKind} {cs : List (Str × Addr)} {O : Str → Addr} {xs : List Str} {ps : List PV} {ρ : Vars} (h : Ini k cs xs ps ρ) : (∀ b ∈ ρ.filterMap (ownOf O), ∃ n, cs.lookup n = some b) ∧ ∀ x c q, (x, VK.free c, q) ∉ ρ := by
  induction h with
  | nil => exact ⟨by simp, by simp⟩
  | argL _ _ ih => exact ⟨by simpa [List.filterMap_cons, ownOf] using ih.1, fun x c q hm => by rcases List.mem_cons.mp hm with e | e; cases e; exact ih.2 _ _ _ e⟩
  | argC _ hl _ ih => exact ⟨fun b hb => by
      simp only [List.filterMap_cons, ownOf, List.mem_cons] at hb
      rcases hb with rfl | hb
      · exact ⟨_, hl⟩
      · exact ih.1 b hb, fun x c q hm => by rcases List.mem_cons.mp hm with e | e; cases e; exact ih.2 _ _ _ e⟩
  | loc _ _ ih => exact ⟨by simpa [List.filterMap_cons, ownOf] using ih.1, fun x c q hm => by rcases List.mem_cons.mp hm with e | e; cases e; exact ih.2 _ _ _ e⟩
  | cell _ hl _ ih => exact ⟨fun b hb => by
      simp only [List.filterMap_cons, ownOf, List.mem_cons] at hb
      rcases hb with rfl | hb
      · exact ⟨_, hl⟩
      · exact ih.1 b hb, fun x c q hm => by rcases List.mem_cons.mp hm with e | e; cases e; exact ih.2 _ _ _ e⟩

theorem zip_binds {k : Str → Option NameKind} : ∀ {xs : List Str} {vs : List Value} {m cm : Str → Option Value}, xs.Nodup → ∀ x v, (x, v) ∈ xs.zip vs →
    (k x = some .local → bindL k (xs.zip vs) m x = some v) ∧ (k x = some .cell → bindC k (xs.zip vs) cm x = some v)
  | [], _, _, _, _, x, v, h => by cases h
  | y :: xs, [], _, _, _, x, v, h => by cases h
  | y :: xs, u :: vs, m, cm, hn, x, v, h => by
    rw [List.nodup_cons] at hn
    simp only [List.zip_cons_cons, List.mem_cons] at h
    rcases h with e | h
    · cases e
      have hx : y ∉ (xs.zip vs).map (·.1) := fun hm => by
        obtain ⟨⟨a, b⟩, h1, h2⟩ := List.mem_map.mp hm
        exact hn.1 (h2 ▸ (List.of_mem_zip h1).1)
      refine ⟨fun hk => ?_, fun hk => ?_⟩
      · simp only [List.zip_cons_cons, bindL]
        rw [bindL_last hx, if_pos hk]; simp
      · simp only [List.zip_cons_cons, bindC]
        rw [bindC_last hx, if_neg (by rw [hk]; decide)]; simp
    · have ih := zip_binds (k := k) (m := (if k y = some .local then fun z => if z = y then some u else m z else m)) (cm := (if k y = some .local then cm else fun z => if z = y then some u else cm z)) hn.2 x v h
      exact ih

/-- a function of the text, by its body -/
theorem fn_intro {X : Cx} {f : Addr} {o : Obj} {fd : FuncData} {body : List Stmt} {xs : List Str} {ps : List PV} {r : PV} {n : Nat} (ρ₀ : Addr → Vars)
    (ho : X.base.get? f = some o) (hdata : o.data = .func fd) (hlim : X.base.NoLimit) (hcd : X.base.CodeRec fd.code fd.qualname) (hbody : fd.body = .stmts body) (hclo : fd.closure = [])
    (hbind : ∀ vs : List Value, vs.length = ps.length → bindArgs fd ⟨vs, []⟩ = pure (xs.zip vs)) (hxs : xs.Nodup)
    (hkind : ∀ L x, x ∈ xs → fd.scope.names.lookup x = some .local ∨ (fd.scope.names.lookup x = some .cell ∧ ((cellsFrom (L + 1) fd.scope.names []).lookup x).isSome = true))
    (hini : ∀ L, Ini (callEnvC fd L f).kindOf (callEnvC fd L f).cells xs ps (ρ₀ L)) (hnd : ∀ L O, (owned (callEnvC fd L f) O (ρ₀ L)).Nodup) (hnames : ∀ L, ((ρ₀ L).map (·.1)).Nodup)
    (hrun : ∀ (A : Around) (L : Addr), Room (A.deeper (callEnvC fd L f)) n → ∃ fl ρ', Exs { X with A := A.deeper (callEnvC fd L f), env := callEnvC fd L f } body (ρ₀ L) fl ρ' ∧ (fl = .ret r ∨ (fl = .next ∧ r = .none)))
    (hco : fd.scope.isCoroutine = false := by rfl) (hgen : fd.scope.isGenerator = false := by rfl) (hk : fd.scope.kind = .function := by rfl) : FnS X f ps r (n + 1) := by
  refine ⟨⟨o, fd, ho, hdata⟩, fun A hA V s vs Q E vol rs hQ => wpAny_call (codeAny_call_cells (by have := hA.depth; omega) (vol.keep _ _ ho) hdata (hlim.keeps vol.keep) (hcd.keeps vol.keep) hbody (hbind vs rs.length) hclo (fun x hx => ?_) (fun s₁ I => ?_) hco hgen hk)⟩
  · obtain ⟨y, v⟩ := x
    exact hkind _ _ (List.of_mem_zip hx).1
  · obtain ⟨fl, ρ', hex, hfl⟩ := hrun A s.heap.objs.size (hA.deeper _)
    generalize henv : callEnvC fd s.heap.objs.size f = env at I hex ⊢
    have hL : env.locals = s.heap.objs.size := by rw [← henv]; rfl
    let O : Str → Addr := fun _ => 0
    have hI : Ini env.kindOf env.cells xs ps (ρ₀ s.heap.objs.size) := henv ▸ hini _
    have dead : ∀ b ∈ owned env O (ρ₀ s.heap.objs.size), s.heap.get? b = none := fun b hb => by
      have hge : s.heap.objs.size ≤ b := by
        rcases List.mem_cons.mp hb with rfl | hb
        · rw [hL]; exact Nat.le_refl _
        · obtain ⟨m, hm⟩ := hI.cellsIn.1 b hb
          have := I.above m b (mem_of_lookup hm)
          rw [hL] at this; exact Nat.le_of_lt this
      cases e : s.heap.get? b with
      | none => rfl
      | some o' => exact absurd (Heap.lt_size e) (Nat.not_lt.mpr hge)
    have live : ∀ b ∈ owned env O (ρ₀ s.heap.objs.size), ∃ o, s₁.heap.get? b = some o := fun b hb => by
      rcases List.mem_cons.mp hb with rfl | hb
      · obtain ⟨o', _, _, e, _⟩ := I.toInCall.ns; exact ⟨o', e⟩
      · obtain ⟨m, hm⟩ := hI.cellsIn.1 b hb
        obtain ⟨o', e, _⟩ := I.cell m b hm; exact ⟨o', e⟩
    obtain ⟨h₁, tk₁, hs₁⟩ := I.toInCall.same
    have g : Grow s s₁ := ⟨I.toInCall.keep, by rw [hs₁], by rw [hs₁]; exact .refl _⟩
    have vol₁ : Vol X.base (VW V (owned env O (ρ₀ s.heap.objs.size))) s₁ := (vol.grow g).widen live fun b hb => by
      cases e : X.base.get? b with
      | none => rfl
      | some o' => have := vol.keep b o' e; rw [dead b hb] at this; cases this
    have hup : ∀ b o, ¬ V b → s.heap.get? b = some o → ¬ VW V (owned env O (ρ₀ s.heap.objs.size)) b ∧ s₁.heap.get? b = some o := fun b o nb e => ⟨fun h => h.elim nb (fun h => by rw [dead b h] at e; cases e), I.toInCall.keep b o e⟩
    have F : Frm X.C X.base env (VW V (owned env O (ρ₀ s.heap.objs.size))) O (ρ₀ s.heap.objs.size) s₁ :=
      ⟨vol₁, by rw [← henv]; exact hk, ⟨_, I.toInCall.ns, Ini.vars hI (Reps.mono hup ps rs) (fun x v hx => zip_binds hxs x v hx) I.cell⟩, fun b hb => .inr hb, by rw [← henv]; exact hnd _ _, hnames _, fun x c q hm => absurd hm ((hI.cellsIn (O := O)).2 x c q)⟩
    refine hex _ O s₁ _ _ F fun V' O' s' fl' R hfr => ?_
    have gr : Grow s s' := ⟨fun b o' e => R.step.keep b o' (fun hm => by rw [dead b hm] at e; cases e) (I.toInCall.keep b o' e), R.step.os.trans g.os, g.gens.trans R.step.gens⟩
    rcases hfl with rfl | ⟨rfl, rfl⟩
    · obtain ⟨v, rfl, rv⟩ := hfr
      exact hQ v s' gr (Rep.mono (fun b o' nb e => ⟨fun hv => (R.vext.up b (.inl hv)).elim nb (fun hm => by obtain ⟨o'', e''⟩ := vol.live b hv; rw [dead b hm] at e''; cases e''), e⟩) r rv)
    · cases hfr
      exact hQ .none s' gr rfl

section
variable {X : Cx} {ρ : Vars} {mg mb : Str → Option Value}
theorem ev_call_fn {x : Str} {p pos : Pos} {f : Addr} {args : List Expr} {e : Expr} {ps : List PV} {r : PV} {n : Nat} (hf : EvV X (.Name x p) ρ (.ref f)) (ha : Evs X pos (e :: args) ρ ps) (ho : FnS X f ps r n) (hA : Room X.A n)
    (hse : ∃ y ys, backTo pos (starEach (e :: args) X.env) = (false, y) :: ys := by exact ⟨_, _, rfl⟩) : Ev X (.Call (.Name x p) (e :: args) [] pos) ρ r := fun V O s Q E F hQ => by
  rw [arm_eval_Call_Name']
  refine wpAny_bind (hf V O s _ E F ?_)
  obtain ⟨o, fd, hob, hda⟩ := ho.obj
  refine Calls.callWith_function (o := o) (fd := fd) ?_
  obtain ⟨y, ys, he⟩ := hse
  have key := ha V O s (fun vs s' => (s'.heap.get? f = some o ∧ o.data = .func fd) ∧ wpAny X.M X.A (call (.ref f) ([] ++ vs) []) Q E s') E F fun vs s₁ g₁ rs =>
    ⟨⟨(F.grow g₁).vol.keep _ _ hob, hda⟩, ho.run X.A hA V s₁ vs Q E (F.grow g₁).vol rs fun x s₂ g₂ r => hQ x s₂ (g₁.trans g₂) r⟩
  rw [he] at key ⊢
  exact Calls.evalArgs_plain key
end
end PL
end
noncomputable section
open PySem PySem.W PyProof.Rows
set_option Elab.async false
set_option linter.unusedVariables false
set_option maxRecDepth 100000
namespace PL

theorem rep_int {C V h i} {v : Value} (r : Rep C V h (.int i) v) : ∃ t, v = .int i t := r
theorem rep_str {C V h x} {v : Value} (r : Rep C V h (.str x) v) : ∃ t, v = .str x t := r
theorem rep_bool {C V h x} {v : Value} (r : Rep C V h (.bool x) v) : v = .bool x := r
theorem rep_list {C V h l} {v : Value} (r : Rep C V h (.list l) v) : ∃ a vs, v = .ref a ∧ ¬ V a ∧ h.IsList a vs.toArray ∧ Reps C V h l vs := by simpa only [Rep] using r
theorem rep_tup {C V h l} {v : Value} (r : Rep C V h (.tup l) v) : ∃ a vs, v = .ref a ∧ ¬ V a ∧ IsTup h a vs.toArray ∧ Reps C V h l vs := by simpa only [Rep] using r
theorem mk_int {C V h i t} : Rep C V h (.int i) (.int i t) := ⟨t, rfl⟩
theorem mk_str {C V h x t} : Rep C V h (.str x) (.str x t) := ⟨t, rfl⟩
theorem mk_bool {C V h b} : Rep C V h (.bool b) (.bool b) := rfl

section
variable {X : Cx} {a b : Int} {x y : Str}

/-! ints -/
theorem op_add : Op2 X (binaryOp .Add) (.int a) (.int b) (.int (a + b)) := fun V s u v Q E vol ru rv hQ => by
  obtain ⟨t, rfl⟩ := ru; obtain ⟨t', rfl⟩ := rv; exact add_int (hQ _ _ .toks mk_int)
theorem op_sub : Op2 X (binaryOp .Sub) (.int a) (.int b) (.int (a - b)) := fun V s u v Q E vol ru rv hQ => by
  obtain ⟨t, rfl⟩ := ru; obtain ⟨t', rfl⟩ := rv; exact PyProof.Rows.sub_int (hQ _ _ .toks mk_int)
theorem op_mul (hm : IntMulOk a b) : Op2 X (binaryOp .Mult) (.int a) (.int b) (.int (a * b)) := fun V s u v Q E vol ru rv hQ => by
  obtain ⟨t, rfl⟩ := ru; obtain ⟨t', rfl⟩ := rv; exact PyProof.Rows.mul_int (hQ _ _ .toks mk_int) hm
theorem op_mod (hb : b ≠ 0) : Op2 X (binaryOp .Mod) (.int a) (.int b) (.int (a.fmod b)) := fun V s u v Q E vol ru rv hQ => by
  obtain ⟨t, rfl⟩ := ru; obtain ⟨t', rfl⟩ := rv; exact mod_int' hb (hQ _ _ .toks mk_int)
theorem op_floordiv (hb : b ≠ 0) (hp : Builtin.divisionGoesByPylong a b = false) : Op2 X (binaryOp .FloorDiv) (.int a) (.int b) (.int (a.fdiv b)) := fun V s u v Q E vol ru rv hQ => by
  obtain ⟨t, rfl⟩ := ru; obtain ⟨t', rfl⟩ := rv; exact floordiv_int hb (hQ _ _ .toks mk_int) (.inl hp)
theorem op_pow (h0 : 0 ≤ b) (hm : ((Builtin.Int.intBits a : Nat) : Int) * b ≤ 2 ^ 27) : Op2 X (binaryOp .Pow) (.int a) (.int b) (.int (a ^ b.toNat)) := fun V s u v Q E vol ru rv hQ => by
  obtain ⟨t, rfl⟩ := ru; obtain ⟨t', rfl⟩ := rv; exact pow_int h0 hm (hQ _ _ .toks mk_int)
theorem op_iadd : Op2 X (inplaceOp .Add) (.int a) (.int b) (.int (a + b)) := fun V s u v Q E vol ru rv hQ => by
  obtain ⟨t, rfl⟩ := ru; obtain ⟨t', rfl⟩ := rv; exact PyProof.Rows.iadd_int (hQ _ _ .toks mk_int)
theorem op_isub : Op2 X (inplaceOp .Sub) (.int a) (.int b) (.int (a - b)) := fun V s u v Q E vol ru rv hQ => by
  obtain ⟨t, rfl⟩ := ru; obtain ⟨t', rfl⟩ := rv; exact isub_int (hQ _ _ .toks mk_int)
theorem op_neg : Op1 X (unaryOp .USub) (.int a) (.int (-a)) := fun V s u Q E vol ru hQ => by
  obtain ⟨t, rfl⟩ := ru; exact PyProof.Rows.neg_int (hQ _ _ .toks mk_int)
theorem op_lt : Op2 X (compareOp .Lt) (.int a) (.int b) (.bool (decide (a < b))) := fun V s u v Q E vol ru rv hQ => by
  obtain ⟨t, rfl⟩ := ru; obtain ⟨t', rfl⟩ := rv; exact lt_int (hQ _ _ (.refl s) mk_bool)
theorem op_gt : Op2 X (compareOp .Gt) (.int a) (.int b) (.bool (decide (b < a))) := fun V s u v Q E vol ru rv hQ => by
  obtain ⟨t, rfl⟩ := ru; obtain ⟨t', rfl⟩ := rv; exact gt_int (hQ _ _ (.refl s) mk_bool)
theorem op_le : Op2 X (compareOp .LtE) (.int a) (.int b) (.bool (decide (a ≤ b))) := fun V s u v Q E vol ru rv hQ => by
  obtain ⟨t, rfl⟩ := ru; obtain ⟨t', rfl⟩ := rv; exact le_int (hQ _ _ (.refl s) mk_bool)
theorem op_ge : Op2 X (compareOp .GtE) (.int a) (.int b) (.bool (decide (b ≤ a))) := fun V s u v Q E vol ru rv hQ => by
  obtain ⟨t, rfl⟩ := ru; obtain ⟨t', rfl⟩ := rv; exact ge_int (hQ _ _ (.refl s) mk_bool)
theorem op_eq : Op2 X (compareOp .Eq) (.int a) (.int b) (.bool (a == b)) := fun V s u v Q E vol ru rv hQ => by
  obtain ⟨t, rfl⟩ := ru; obtain ⟨t', rfl⟩ := rv; exact eq_int (hQ _ _ (.refl s) mk_bool)
theorem op_ne : Op2 X (compareOp .NotEq) (.int a) (.int b) (.bool (a != b)) := fun V s u v Q E vol ru rv hQ => by
  obtain ⟨t, rfl⟩ := ru; obtain ⟨t', rfl⟩ := rv; exact PyProof.Rows.ne_int (hQ _ _ (.refl s) mk_bool)
theorem op_min (hh : X.A.handled = none) : OpN X (fun vs => call (.builtin "min") vs) [.int a, .int b] (.int (if b < a then b else a)) := fun V s us Q E vol rs hQ => by
  simp only [Cx.Rs, Reps] at rs
  obtain ⟨v, _, rfl, ⟨t, rfl⟩, v', _, rfl, ⟨t', rfl⟩, rfl⟩ := rs
  refine min_two_ints hh fun h' tk hk => hQ _ _ (.heap hk) ?_
  split <;> exact mk_int
theorem op_max (hh : X.A.handled = none) : OpN X (fun vs => call (.builtin "max") vs) [.int a, .int b] (.int (if b > a then b else a)) := fun V s us Q E vol rs hQ => by
  simp only [Cx.Rs, Reps] at rs
  obtain ⟨v, _, rfl, ⟨t, rfl⟩, v', _, rfl, ⟨t', rfl⟩, rfl⟩ := rs
  refine max_two_ints hh fun h' tk hk => hQ _ _ (.heap hk) ?_
  split <;> exact mk_int
theorem tr_int : Tr X (.int a) (a != 0) := fun V s u Q E vol r hQ => by obtain ⟨t, rfl⟩ := r; exact P.truthy_int (hQ s (.refl s))
theorem tr_none : Tr X .none false := fun V s u Q E vol r hQ => by cases r; exact truthy_none (hQ s (.refl s))

/-! bools -/
theorem op_bsub {p q : Bool} : Op2 X (binaryOp .Sub) (.bool p) (.bool q) (.int (b2i p - b2i q)) := fun V s u v Q E vol ru rv hQ => by
  cases ru; cases rv; exact sub_bool (hQ _ _ .toks mk_int)
theorem op_not {p : PV} {c : Bool} (h : Tr X p c) : Op1 X (unaryOp .Not) p (.bool (!c)) := fun V s u Q E vol ru hQ =>
  not_of (h V s u _ E vol ru fun s' g => hQ _ s' g mk_bool)

/-! texts -/
theorem op_seq : Op2 X (compareOp .Eq) (.str x) (.str y) (.bool (x == y)) := fun V s u v Q E vol ru rv hQ => by
  obtain ⟨t, rfl⟩ := ru; obtain ⟨t', rfl⟩ := rv; exact PyProof.Rows.eq_str (hQ _ _ (.refl s) mk_bool)
theorem op_sne : Op2 X (compareOp .NotEq) (.str x) (.str y) (.bool (x != y)) := fun V s u v Q E vol ru rv hQ => by
  obtain ⟨t, rfl⟩ := ru; obtain ⟨t', rfl⟩ := rv; exact PyProof.Rows.ne_str (hQ _ _ (.refl s) mk_bool)
theorem op_slt : Op2 X (compareOp .Lt) (.str x) (.str y) (.bool (x.cps.toList < y.cps.toList)) := fun V s u v Q E vol ru rv hQ => by
  obtain ⟨t, rfl⟩ := ru; obtain ⟨t', rfl⟩ := rv; exact PyProof.Rows.lt_str (hQ _ _ (.refl s) mk_bool)
theorem op_sadd (hsz : x.length + y.length ≤ sizeLine) : Op2 X (binaryOp .Add) (.str x) (.str y) (.str (x ++ y)) := fun V s u v Q E vol ru rv hQ => by
  obtain ⟨t, rfl⟩ := ru; obtain ⟨t', rfl⟩ := rv; exact PyProof.Rows.add_str (fun t' tk => hQ _ _ .toks mk_str) hsz
theorem op_slen (hfit : x.length ≤ sizeLine) : OpN X (fun vs => call (.builtin "len") vs) [.str x] (.int x.length) := fun V s us Q E vol rs hQ => by
  simp only [Cx.Rs, Reps] at rs
  obtain ⟨v, _, rfl, ⟨t, rfl⟩, rfl⟩ := rs
  exact PyProof.Rows.len_str (by have : sizeLine = 2 ^ 24 := rfl; omega) (hQ _ _ .toks mk_int)
theorem tr_str (hfit : x.length ≤ sizeLine) : Tr X (.str x) (x.length != 0) := fun V s u Q E vol r hQ => by
  obtain ⟨t, rfl⟩ := r
  refine P.truthy_str (by have : sizeLine = 2 ^ 24 := rfl; omega) ?_
  have e : ((x.length : Int) != 0) = (x.length != 0) := by rw [Bool.eq_iff_iff]; simp
  rw [e]; exact hQ _ .toks

/-! lists -/
theorem op_len {l : List PV} (hfit : l.length ≤ sizeLine) : OpN X (fun vs => call (.builtin "len") vs) [.list l] (.int l.length) := fun V s us Q E vol rs hQ => by
  simp only [Cx.Rs, Reps] at rs
  obtain ⟨v, _, rfl, r, rfl⟩ := rs
  obtain ⟨a, vs, rfl, _, hl, rs⟩ := rep_list r
  refine Calls.call_len_list hl (by rw [List.size_toArray, rs.length]; have : sizeLine = 2 ^ 24 := rfl; omega) ?_
  rw [List.size_toArray, rs.length]; exact hQ _ _ .toks mk_int
theorem op_ltup {l : List PV} (hfit : l.length ≤ sizeLine) : OpN X (fun vs => call (.builtin "len") vs) [.tup l] (.int l.length) := fun V s us Q E vol rs hQ => by
  simp only [Cx.Rs, Reps] at rs
  obtain ⟨v, _, rfl, r, rfl⟩ := rs
  obtain ⟨a, vs, rfl, _, hl, rs⟩ := rep_tup r
  refine PyProof.Rows.len_tuple hl (by rw [List.size_toArray, rs.length]; have : sizeLine = 2 ^ 24 := rfl; omega) ?_
  rw [List.size_toArray, rs.length]; exact hQ _ _ .toks mk_int
theorem tr_list {l : List PV} (hfit : l.length ≤ sizeLine) : Tr X (.list l) (!l.isEmpty) := fun V s u Q E vol r hQ => by
  obtain ⟨a, vs, rfl, _, hl, rs⟩ := rep_list r
  refine wpAny_truthy_list hl (by rw [List.size_toArray, rs.length]; have : sizeLine = 2 ^ 24 := rfl; omega) ?_
  have e : vs.toArray.isEmpty = l.isEmpty := by
    have := rs.length
    cases vs <;> cases l <;> simp_all
  rw [e]; exact hQ _ .toks
theorem op_ladd {l m : List PV} (hsz : l.length + m.length ≤ sizeLine) : Op2 X (binaryOp .Add) (.list l) (.list m) (.list (l ++ m)) := fun V s u v Q E vol ru rv hQ => by
  obtain ⟨a, vs, rfl, _, hl, rs⟩ := rep_list ru
  obtain ⟨b, ws, rfl, _, hb, rs'⟩ := rep_list rv
  obtain ⟨⟨cls, dd, data, sl⟩, ho, hc, n, hd⟩ := id hl
  obtain ⟨⟨cls2, dd2, data2, sl2⟩, ho2, hc2, n2, hd2⟩ := id hb
  simp only at hc hd hc2 hd2
  subst hc hd hc2 hd2
  have e : vs.toArray ++ ws.toArray = (vs ++ ws).toArray := by simp
  refine concat_meets ⟨_, ho, rfl⟩ ⟨_, ho2, rfl⟩ noFill_list_add seq_list_add PySem.F.slot_list_add PySem.F.entry_list_add (PySem.F.args_list_add_2 _ _) (list_addW a b vs.toArray ws.toArray n n2 dd dd2 sl sl2 (by simp only [List.size_toArray, rs.length, rs'.length]; exact hsz)) ⟨ho, ho2, ?_⟩
  rw [e]
  exact hQ _ _ .push (List.new vol (rs.append rs'))

/-! items -/
theorem seqIndex_pos {k : Nat} {n : Nat} (h : k < n) : seqIndex? (k : Int) n = some k := by
  unfold seqIndex?
  simp
  omega
theorem ev_item {value slice : Expr} {pos : Pos} {ρ : Vars} {l : List PV} {k : Nat} {p : PV} (hv : Ev X value ρ (.list l)) (hs : Ev X slice ρ (.int (k : Int))) (hp : l[k]? = some p) (hfit : l.length ≤ sizeLine)
    (hss : ∀ o i, subscripted slice false o i = operate [o, i] (getItem o i) := by intro _ _; with_unfolding_all rfl) : Ev X (.Subscript value slice pos) ρ p := fun V O s Q E F hQ =>
  Subscript_ (hv V O s _ E F fun u s₁ g₁ ru => hs V O s₁ _ E (F.grow g₁) fun v s₂ g₂ rv => by
    obtain ⟨a, vs, rfl, _, hl, rs⟩ := rep_list (ru.grow g₂)
    obtain ⟨t, rfl⟩ := rv
    obtain ⟨w, hw, rw'⟩ := rs.get hp
    have hk : k < l.length := (List.getElem?_eq_some_iff.mp hp).1
    refine tail_any hl.typeIs slot_list_getitem.lookup (wpAny_getItem_list hl (by omega) (by have : sizeLine = 2 ^ 24 := rfl; omega) (x := w) (by simpa using hw) (hQ w s₂ (g₁.trans g₂) rw')) (hss _ _))
theorem ev_item_neg {value slice : Expr} {pos : Pos} {ρ : Vars} {l : List PV} {k : Nat} {i : Int} {p : PV} (hv : Ev X value ρ (.list l)) (hs : Ev X slice ρ (.int i)) (hi : i < 0) (hk : i + l.length = k) (hp : l[k]? = some p) (hfit : l.length ≤ sizeLine)
    (hss : ∀ o i, subscripted slice false o i = operate [o, i] (getItem o i) := by intro _ _; with_unfolding_all rfl) : Ev X (.Subscript value slice pos) ρ p := fun V O s Q E F hQ =>
  Subscript_ (hv V O s _ E F fun u s₁ g₁ ru => hs V O s₁ _ E (F.grow g₁) fun v s₂ g₂ rv => by
    obtain ⟨a, vs, rfl, _, hl, rs⟩ := rep_list (ru.grow g₂)
    obtain ⟨t, rfl⟩ := rv
    obtain ⟨w, hw, rw'⟩ := rs.get hp
    have hlen : vs.toArray.size = l.length := by rw [List.size_toArray, rs.length]
    refine tail_any hl.typeIs slot_list_getitem.lookup (wpAny_getItem_list_neg hl hi (by rw [hlen]; omega) (by have : sizeLine = 2 ^ 24 := rfl; omega) (x := w) (by rw [hlen, hk]; simpa using hw) (hQ w s₂ (g₁.trans g₂) rw')) (hss _ _))
theorem ev_titem {value slice : Expr} {pos : Pos} {ρ : Vars} {l : List PV} {k : Nat} {p : PV} (hv : Ev X value ρ (.tup l)) (hs : Ev X slice ρ (.int (k : Int))) (hp : l[k]? = some p) (hfit : l.length ≤ sizeLine)
    (hss : ∀ o i, subscripted slice false o i = operate [o, i] (getItem o i) := by intro _ _; with_unfolding_all rfl) : Ev X (.Subscript value slice pos) ρ p := fun V O s Q E F hQ =>
  Subscript_ (hv V O s _ E F fun u s₁ g₁ ru => hs V O s₁ _ E (F.grow g₁) fun v s₂ g₂ rv => by
    obtain ⟨a, vs, rfl, _, hl, rs⟩ := rep_tup (ru.grow g₂)
    obtain ⟨t, rfl⟩ := rv
    obtain ⟨w, hw, rw'⟩ := rs.get hp
    have hk : k < l.length := (List.getElem?_eq_some_iff.mp hp).1
    have hlen : vs.toArray.size = l.length := by rw [List.size_toArray, rs.length]
    exact item_tupleT hl (by omega) (by have : sizeLine = 2 ^ 24 := rfl; omega) (by rw [rs.length]; exact seqIndex_pos hk) (by simpa using hw) (hQ w s₂ (g₁.trans g₂) rw') (hss _ _))
theorem ev_sitem {value slice : Expr} {pos : Pos} {ρ : Vars} {i : Int} {c : Nat} (hv : Ev X value ρ (.str x)) (hs : Ev X slice ρ (.int i)) (hlo : -(2 ^ 63) ≤ i) (hhi : i < 2 ^ 63) (hc : (seqIndex? i x.length).bind (x.cps[·]?) = some c)
    (hss : ∀ o i, subscripted slice false o i = operate [o, i] (getItem o i) := by intro _ _; with_unfolding_all rfl) : Ev X (.Subscript value slice pos) ρ (.str ⟨#[c]⟩) := fun V O s Q E F hQ =>
  Subscript_ (hv V O s _ E F fun u s₁ g₁ ru => hs V O s₁ _ E (F.grow g₁) fun v s₂ g₂ rv => by
    obtain ⟨t, rfl⟩ := ru
    obtain ⟨t', rfl⟩ := rv
    exact tail_any (typeIs_str s₂ x t) slot_str_getitem.lookup (getItem_str (by simp only [Bool.or_eq_false_iff, decide_eq_false_iff_not]; omega) hc (hQ _ _ ((g₁.trans g₂).trans .toks) mk_str)) (hss _ _))
end
end PL
end
noncomputable section
open PySem PySem.W PyProof.Rows PySem.Builtin.Str
set_option Elab.async false
set_option linter.unusedVariables false
set_option maxRecDepth 100000
namespace PL

noncomputable def clipN (n : Nat) (d : Nat) : Option Int → Nat
  | none => d
  | some i => (max 0 (min (if i < 0 then i + n else i) n)).toNat
/-- l[lo:hi] -/
noncomputable def sl {α : Type} (l : List α) (lo hi : Option Int) : List α := (l.drop (clipN l.length 0 lo)).take (clipN l.length l.length hi - clipN l.length 0 lo)
/-- the text of these signs -/
noncomputable abbrev T (l : List Nat) : Str := ⟨l.toArray⟩
theorem T_cps (x : Str) : x = T x.cps.toList := by cases x; rfl
theorem T_len (l : List Nat) : (T l).length = l.length := by simp [Str.length]

theorem clipN_le (n d : Nat) (hd : d ≤ n) (o : Option Int) : clipN n d o ≤ n := by
  cases o with
  | none => exact hd
  | some i => show (max 0 (min _ (n : Int))).toNat ≤ n; omega
theorem sl_len_le {α : Type} (l : List α) (lo hi : Option Int) : (sl l lo hi).length ≤ l.length := by
  unfold sl; simp only [List.length_take, List.length_drop]; omega

theorem range_pick {α : Type} (l : List α) (a b : Nat) (hb : b ≤ l.length) : ((List.range (b - a)).map (a + ·)).filterMap (l[·]?) = (l.drop a).take (b - a) := by
  rw [List.filterMap_map]
  apply List.ext_getElem?
  intro i
  have key : ∀ n, a + n ≤ l.length → List.filterMap ((fun x => l[x]?) ∘ fun x => a + x) (List.range n) = (l.drop a).take n := by
    intro n
    induction n with
    | zero => intro _; simp
    | succ n ih =>
      intro hn
      rw [List.range_succ, List.filterMap_append, ih (by omega)]
      have hlt : a + n < l.length := by omega
      have e : l[a + n]? = some l[a + n] := by simp [hlt]
      simp only [List.filterMap_cons, Function.comp, e, List.filterMap_nil]
      rw [List.take_add_one]
      congr 1
      rw [List.getElem?_drop, e]; rfl
  by_cases h : a ≤ b
  · rw [key (b - a) (by omega)]
  · rw [show b - a = 0 by omega]; simp
theorem sliceRange_one (a b : Nat) : sliceRange (a : Int) (b : Int) 1 = (List.range (b - a)).map (a + ·) := by
  unfold sliceRange
  simp only [show (1 : Int) > 0 by decide, if_true]
  have e : ((if (a : Int) < b then ((b : Int) - a + 1 - 1) / 1 else 0) : Int).toNat = b - a := by split <;> omega
  rw [e]
  apply List.map_congr_left
  intro k _
  omega
theorem clip_int (n : Nat) (i : Int) : max (0 : Int) (min (if i < 0 then i + n else i) n) = ((clipN n 0 (some i) : Nat) : Int) := by
  show _ = (((max 0 (min _ (n : Int))).toNat : Nat) : Int)
  omega
theorem slicePick_eq (vs : List Value) (lo hi : Option Int) : slicePick vs.toArray lo hi none = (sl vs lo hi).toArray := by
  unfold slicePick sliceBounds sl
  congr 1
  have e0 : (Option.getD (none : Option Int) 1) = 1 := rfl
  simp only [e0, show (1 : Int) > 0 by decide, if_true, List.size_toArray]
  have eA : (match lo with | none => (0 : Int) | some i => max 0 (min (if i < 0 then i + (vs.length : Int) else i) (vs.length : Int))) = ((clipN vs.length 0 lo : Nat) : Int) := by
    cases lo with
    | none => rfl
    | some i => exact clip_int _ _
  have eB : (match hi with | none => (vs.length : Int) | some i => max 0 (min (if i < 0 then i + (vs.length : Int) else i) (vs.length : Int))) = ((clipN vs.length vs.length hi : Nat) : Int) := by
    cases hi with
    | none => rfl
    | some i => exact clip_int _ _
  have fin : (sliceRange ((clipN vs.length 0 lo : Nat) : Int) ((clipN vs.length vs.length hi : Nat) : Int) 1).filterMap (vs.toArray[·]?) = (vs.drop (clipN vs.length 0 lo)).take (clipN vs.length vs.length hi - clipN vs.length 0 lo) := by
    rw [sliceRange_one, ← range_pick vs _ _ (clipN_le _ _ (Nat.le_refl _) _)]
    simp
  rw [← fin, ← eA, ← eB]
  cases lo <;> cases hi <;> rfl
theorem strIdx_eq (n : Nat) (lo hi : Option Int) : strSliceIndices lo hi 1 n = (List.range (clipN n n hi - clipN n 0 lo)).map (clipN n 0 lo + ·) := by
  rw [← sliceRange_one]
  unfold strSliceIndices
  simp only [show (1 : Int) > 0 by decide, if_true]
  congr 1
  · cases lo with
    | none => rfl
    | some i => exact clip_int _ _
  · cases hi with
    | none => rfl
    | some i => exact clip_int _ _
theorem txt_slice (x : Str) (lo hi : Option Int) : Txt.slice x lo hi = T (sl x.cps.toList lo hi) := by
  have e : (strSliceIndices lo hi 1 x.length).filterMap (x.cps[·]?) = sl x.cps.toList lo hi := by
    rw [strIdx_eq]
    have := range_pick x.cps.toList (clipN x.length 0 lo) (clipN x.length x.length hi) (by rw [Array.length_toList]; exact clipN_le _ _ (Nat.le_refl _) _)
    unfold sl
    rw [Array.length_toList]
    rw [← show x.length = x.cps.size from rfl, ← this]
    simp
  unfold Txt.slice
  split
  · rename_i h
    have hl : (strSliceIndices lo hi 1 x.length).length = x.length := by simpa using h
    rw [strIdx_eq] at hl
    simp at hl
    have h1 := clipN_le x.length x.length (Nat.le_refl _) hi
    have h0 : x.length = 0 ∨ clipN x.length 0 lo = 0 := by omega
    have hx : sl x.cps.toList lo hi = x.cps.toList := by
      unfold sl
      rw [Array.length_toList, ← show x.length = x.cps.size from rfl, hl]
      rcases h0 with h | h
      · have : x.cps.toList = [] := List.eq_nil_of_length_eq_zero (by rw [Array.length_toList]; exact h)
        simp [this]
      · rw [h, List.drop_zero]; exact List.take_of_length_le (by rw [Array.length_toList]; exact Nat.le_refl _)
    rw [hx]
  · rw [e]

/-- a part of a slice -/
noncomputable def EvO (X : Cx) (e : Option Expr) (ρ : Vars) (i : Option Int) : Prop :=
  ∀ V O s (Q : Value → Shared → Prop) (E : Value → Shared → Prop), X.F V O ρ s → (∀ v s', Grow s s' → IsPart v i → Q v s') → wpAny X.M X.A (evalPart e X.env) Q E s
section
variable {X : Cx} {ρ : Vars}
theorem evo_nil : EvO X none ρ none := fun V O s Q E F hQ => wpAny_pure (hQ _ _ (.refl s) .none)
theorem evo_int {e : Expr} {i : Int} (h : Ev X e ρ (.int i)) : EvO X (some e) ρ (some i) := fun V O s Q E F hQ => by
  refine h V O s Q E F fun v s' g r => ?_
  obtain ⟨t, rfl⟩ := r
  exact hQ _ s' g (.int i t)
theorem evo_none {e : Expr} (h : Ev X e ρ .none) : EvO X (some e) ρ none := fun V O s Q E F hQ => by
  refine h V O s Q E F fun v s' g r => ?_
  cases r
  exact hQ _ s' g .none

theorem isPart_pair {v : Value} {i : Option Int} (h : IsPart v i) : ∃ l : Option (Int × Tok), v = partValue l ∧ l.map (·.1) = i := by
  cases h with
  | none => exact ⟨none, rfl, rfl⟩
  | int i t => exact ⟨some (i, t), rfl, rfl⟩

theorem ev_sslice {value : Expr} {lo hi : Option Expr} {p pos : Pos} {x : Str} {i j : Option Int} (hv : Ev X value ρ (.str x)) (hl : EvO X lo ρ i) (hh : EvO X hi ρ j) (hfit : x.length ≤ sizeLine) : Ev X (.Subscript value (.Slice lo hi none p) pos) ρ (.str (T (sl x.cps.toList i j))) := fun V O s Q E F hQ =>
  Subscript_ (hv V O s _ E F fun u s₁ g₁ ru => wpAny_Slice (hl V O s₁ _ E (F.grow g₁) fun a s₂ g₂ ha => hh V O s₂ _ E ((F.grow g₁).grow g₂) fun b s₃ g₃ hb => wpAny_pure (by
    obtain ⟨t, rfl⟩ := ru
    obtain ⟨l, rfl, hl'⟩ := isPart_pair ha
    obtain ⟨r, rfl, hr'⟩ := isPart_pair hb
    have g : Grow s { s₃ with heap := s₃.heap.push { cls := .type "slice", data := .fields #[partValue l, partValue r, .none] } } := ((g₁.trans g₂).trans g₃).trans .push
    refine tail_any (ops := [.ref s₃.heap.objs.size, .str x t]) (typeIs_str _ x t) PySem.F.slot_str_getitem.lookup (wpAny_getItem_str_slice (l := l) (u := r) (st := none) ⟨_, Heap.get?_push_size _ rfl, rfl, rfl⟩ rfl
      (post_val_or_str ?_)) rfl
    have e : Txt.slice x (l.map (·.1)) (r.map (·.1)) = T (sl x.cps.toList i j) := by rw [hl', hr', txt_slice]
    refine ⟨Nat.le_trans (Txt.slice_le x _ _) hfit, fun t' k => ?_⟩
    show Q (.str (Txt.slice x (l.map (·.1)) (r.map (·.1))) t') _
    rw [e]
    exact hQ _ _ (g.trans .toks) mk_str)))

theorem Reps.sl {C V h} {ps : List PV} {vs : List Value} (r : Reps C V h ps vs) (i j : Option Int) : Reps C V h (sl ps i j) (sl vs i j) := by
  unfold PL.sl
  rw [r.length]
  exact (r.drop _).take _
theorem ev_lslice {value : Expr} {lo hi : Option Expr} {p pos : Pos} {l : List PV} {i j : Option Int} (hv : Ev X value ρ (.list l)) (hl : EvO X lo ρ i) (hh : EvO X hi ρ j) (hfit : l.length ≤ sizeLine) : Ev X (.Subscript value (.Slice lo hi none p) pos) ρ (.list (sl l i j)) := fun V O s Q E F hQ =>
  Subscript_ (hv V O s _ E F fun u s₁ g₁ ru => wpAny_Slice (hl V O s₁ _ E (F.grow g₁) fun a s₂ g₂ ha => hh V O s₂ _ E ((F.grow g₁).grow g₂) fun b s₃ g₃ hb => wpAny_pure (by
    have g : Grow s₃ { s₃ with heap := s₃.heap.push { cls := .type "slice", data := .fields #[a, b, .none] } } := .push
    obtain ⟨c, vs, rfl, _, hls, rs⟩ := rep_list (((ru.grow g₂).grow g₃).grow g)
    have vol := (((F.grow g₁).grow g₂).grow g₃).vol.grow g
    refine tail_any (ops := [.ref s₃.heap.objs.size, .ref c]) hls.typeIs PySem.slot_list_getitem.lookup (wpAny_getItem_list_slice (vl := a) (vu := b) (vs := .none) (st := none) hls (Heap.IsSliceOf.new _ _ _ _) ha hb .none (by simp) ?_ (by rw [List.size_toArray, rs.length]; exact hfit)) rfl
    rw [slicePick_eq]
    exact hQ _ _ ((((g₁.trans g₂).trans g₃).trans g).trans .push) (List.new vol (rs.sl i j)))))
end
end PL
end
noncomputable section
open PySem PySem.W PyProof.Rows
set_option Elab.async false
set_option linter.unusedVariables false
set_option maxRecDepth 100000
namespace PL

/-- a body that gives back p -/
noncomputable def Rt (X : Cx) (ss : List Stmt) (ρ : Vars) (p : PV) : Prop := ∃ ρ', Exs X ss ρ (.ret p) ρ'
section
variable {X : Cx} {ρ ρ' : Vars} {p : PV}
theorem rt_cons {st : Stmt} {ss : List Stmt} (h : Ex1 X st ρ .next ρ') (r : Rt X ss ρ' p) : Rt X (st :: ss) ρ p := let ⟨_, r⟩ := r; ⟨_, exs_cons h r⟩
theorem rt_return {e : Expr} {pos : Pos} {ss : List Stmt} (he : Ev X e ρ p) : Rt X (.Return (some e) pos :: ss) ρ p := ⟨_, exs_stop (ex_return he)⟩
theorem rt_if {test : Expr} {body : List Stmt} {pos : Pos} {ss : List Stmt} {b : Bool} (ht : It X test ρ b) (h1 : b = true → Rt X body ρ p) (h2 : b = false → Rt X ss ρ p) : Rt X (.If test body [] pos :: ss) ρ p := by
  cases b with
  | true => obtain ⟨ρ₁, r⟩ := h1 rfl; exact ⟨ρ₁, exs_stop (ex_if ht (fun _ => r) (fun h => by cases h))⟩
  | false => obtain ⟨ρ₁, r⟩ := h2 rfl; exact ⟨ρ₁, exs_cons (ex_if ht (fun h => by cases h) (fun _ => exs_nil)) r⟩
theorem rt_eq {ss : List Stmt} {q : PV} (e : q = p) (r : Rt X ss ρ q) : Rt X ss ρ p := e ▸ r
/-- a statement that returns -/
theorem rt_stop {st : Stmt} {ss : List Stmt} (h : Ex1 X st ρ (.ret p) ρ') : Rt X (st :: ss) ρ p := ⟨_, exs_stop h⟩
end
noncomputable def mb (i : Nat) : Stmt := PySem.Challenge.pw_sc0078_01.main.body.getD i (.Pass default)
noncomputable def fparams : Stmt → Arguments
  | .FunctionDef _ a _ _ _ _ _ _ _ _ => a
  | _ => default
noncomputable def fbody : Stmt → List Stmt
  | .FunctionDef _ _ b _ _ _ _ _ _ _ => b
  | _ => []
noncomputable def fscope : Stmt → Scope
  | .FunctionDef _ _ _ _ _ _ s _ _ _ => s
  | _ => default
noncomputable def cbody : Stmt → List Stmt
  | .ClassDef _ _ _ b _ _ _ _ _ _ _ => b
  | _ => []
noncomputable def cm (i j : Nat) : Stmt := (cbody (mb i)).getD j (.Pass default)

/-- the function's data at its place -/
noncomputable abbrev fdat (n q : Str) (st : Stmt) (doc pm : Value) (an : Option Addr) (code ct : Value) : FuncData :=
  { name := n, qualname := q, params := fparams st, body := .stmts (fbody st), scope := fscope st, globals := mainGlobals, closure := [], defaults := .none, kwdefaults := .none, doc := doc, pyModule := pm, annotations := an, code := code, closureTuple := ct, builtins := builtinsNs }
noncomputable def FnAt (base : Heap) (a : Addr) (st : Stmt) : Prop :=
  ∃ o n q doc pm an code ct, base.get? a = some o ∧ o.data = .func (fdat n q st doc pm an code ct) ∧ base.CodeRec code q
noncomputable abbrev fenv (q : Str) (st : Stmt) (code : Value) (L a : Addr) : Env :=
  { scope := fscope st, locals := L, globals := mainGlobals, cells := cellsFrom (L + 1) (fscope st).names [], qual := q ++ ".<locals>.", func := some a, code := code, frame := some L, builtins := builtinsNs }

/-- the law's world -/
structure Gw (X : Cx) (mg mb' : Str → Option Value) : Prop where
  g : X.base.Ns mainGlobals mg
  b : X.base.Ns builtinsNs mb'
  lim : X.base.NoLimit

theorem fn_of {X : Cx} {f : Addr} {st : Stmt} {xs : List Str} {ps : List PV} {r : PV} {n : Nat} {mg mb' : Str → Option Value} (G : Gw X mg mb') (ρ₀ : Addr → Vars) (hf : FnAt X.base f st)
    (hbind : ∀ n q doc pm an code ct (vs : List Value), vs.length = ps.length → bindArgs (fdat n q st doc pm an code ct) ⟨vs, []⟩ = pure (xs.zip vs)) (hxs : xs.Nodup)
    (hkind : ∀ L x, x ∈ xs → (fscope st).names.lookup x = some .local ∨ ((fscope st).names.lookup x = some .cell ∧ ((cellsFrom (L + 1) (fscope st).names []).lookup x).isSome = true))
    (hini : ∀ L, Ini (fun x => (fscope st).names.lookup x) (cellsFrom (L + 1) (fscope st).names []) xs ps (ρ₀ L)) (hnd : ∀ L O, (L :: (ρ₀ L).filterMap (ownOf O)).Nodup) (hnames : ∀ L, ((ρ₀ L).map (·.1)).Nodup)
    (hrun : ∀ (A : Around) (q : Str) (code : Value) (L : Addr), Room A n → Rt { X with A := A, env := fenv q st code L f } (fbody st) (ρ₀ L) r)
    (hco : (fscope st).isCoroutine = false := by rfl) (hgen : (fscope st).isGenerator = false := by rfl) (hk : (fscope st).kind = .function := by rfl) : FnS X f ps r (n + 1) := by
  obtain ⟨o, nm, q, doc, pm, an, code, ct, ho, hd, hc⟩ := hf
  exact fn_intro ρ₀ ho hd G.lim hc rfl rfl (hbind nm q doc pm an code ct) hxs hkind hini hnd hnames (fun A L hA => let ⟨ρ', h⟩ := hrun _ q code L hA; ⟨_, ρ', h, .inl rfl⟩) hco hgen hk
theorem Gw.wd {X : Cx} {mg mb' : Str → Option Value} (G : Gw X mg mb') {A : Around} {n : Nat} (hA : Room A n) {q : Str} {st : Stmt} {code : Value} {L f : Addr} (hk : (fscope st).kind = .function := by rfl) : Wd { X with A := A, env := fenv q st code L f } mg mb' :=
  ⟨G.g, G.b, G.lim, hk, hA.handled⟩
end PL
end
noncomputable section
open PySem PySem.W PyProof.Rows PySem.Builtin.Str
set_option Elab.async false
set_option linter.unusedVariables false
set_option maxRecDepth 100000
namespace PL
section
variable {X : Cx} {ρ : Vars} {mg mb' : Str → Option Value}

/-- a method of a built-in kind -/
theorem ev_method {o e : Expr} {name : Str} {apos pos : Pos} {args : List Expr} {T id : String} {p r : PV} {ps : List PV} (ho : Ev X o ρ p)
    (hT : ∀ V s v, X.R V s p v → s.TypeIs v T) (hd : ∀ V s v, X.R V s p v → ∀ a, v = .ref a → ∃ ob, s.heap.get? a = some ob ∧ ob.dict = none) (pa : PlainAttrs T) (slot : Slot T name id) (hty : typeOf (.builtin id) = pure (.type "method_descriptor"))
    (ha : Evs X pos (e :: args) ρ ps) (hm : OpN X (fun vs => call (.builtin id) vs) (p :: ps) r)
    (hbase : attributeBase o name X.env (eval o X.env) = eval o X.env := by rfl)
    (hfew : ((backTo pos (starEach (e :: args) X.env)).all (fun x => !x.1) && (backToKw pos (keywordEach [] X.env)).all (fun x => x.1.isSome)
      && decide ((e :: args).length + ([] : List Keyword).length + (if ([] : List Keyword).isEmpty then 0 else 1) < 30)) = true := by rfl)
    (hline : (apos.endLine == pos.line) = true := by rfl) (hplain : (backTo pos (starEach (e :: args) X.env)).any (·.1) = false := by rfl)
    (hse : ∃ y ys, backTo pos (starEach (e :: args) X.env) = (false, y) :: ys := by exact ⟨_, _, rfl⟩) : Ev X (.Call (.Attribute o name apos) (e :: args) [] pos) ρ r := fun V O s Q E F hQ => by
  refine wpAny_Call_method hbase hfew hline pa slot hty (ho V O s _ E F fun v s₁ g₁ rv => ⟨hT V s₁ v rv, hd V s₁ v rv, ?_⟩)
  refine Calls.callWith_builtin hplain ?_
  have key := ha V O s₁ (fun vs s' => wpAny X.M X.A (call (.builtin id) (v :: vs)) Q E s') E (F.grow g₁) fun vs s₂ g₂ rs => hm V s₂ (v :: vs) Q E ((F.grow g₁).grow g₂).vol (.cons (rv.grow g₂) rs) fun x s₃ g₃ r => hQ x s₃ ((g₁.trans g₂).trans g₃) r
  obtain ⟨y, ys, he⟩ := hse
  rw [he] at key ⊢
  exact Calls.evalArgs_plain key
theorem ev_method0 {o : Expr} {name : Str} {apos pos : Pos} {T id : String} {p r : PV} (ho : Ev X o ρ p)
    (hT : ∀ V s v, X.R V s p v → s.TypeIs v T) (hd : ∀ V s v, X.R V s p v → ∀ a, v = .ref a → ∃ ob, s.heap.get? a = some ob ∧ ob.dict = none) (pa : PlainAttrs T) (slot : Slot T name id) (hty : typeOf (.builtin id) = pure (.type "method_descriptor"))
    (hm : OpN X (fun vs => call (.builtin id) vs) [p] r)
    (hbase : attributeBase o name X.env (eval o X.env) = eval o X.env := by rfl)
    (hline : (apos.endLine == pos.line) = true := by rfl) : Ev X (.Call (.Attribute o name apos) [] [] pos) ρ r := fun V O s Q E F hQ => by
  refine wpAny_Call_method hbase rfl hline pa slot hty (ho V O s _ E F fun v s₁ g₁ rv => ⟨hT V s₁ v rv, hd V s₁ v rv, ?_⟩)
  refine Calls.callWith_builtin rfl (PySem.evalArgs_none ?_)
  exact hm V s₁ [v] Q E (F.grow g₁).vol (.one rv) fun x s₂ g₂ r => hQ x s₂ (g₁.trans g₂) r

theorem str_type {x : Str} : ∀ V s v, X.R V s (.str x) v → s.TypeIs v "str" := fun V s v r => by obtain ⟨t, rfl⟩ := r; exact typeIs_str s x t
theorem str_ref {x : Str} : ∀ V s v, X.R V s (.str x) v → ∀ a, v = .ref a → ∃ ob, s.heap.get? a = some ob ∧ ob.dict = none := fun V s v r a e => by obtain ⟨t, rfl⟩ := r; cases e

theorem op_lower {x : Str} (hfit : (Txt.lower x).length ≤ sizeLine) : OpN X (fun vs => call (.builtin "str.lower") vs) [.str x] (.str (Txt.lower x)) := fun V s us Q E vol rs hQ => by
  simp only [Cx.Rs, Reps] at rs
  obtain ⟨v, _, rfl, ⟨t, rfl⟩, rfl⟩ := rs
  exact SC.lower (by simp only [tooLong, decide_eq_false_iff_not]; rw [sizeLine_eq] at hfit; simp only [sizeLine]; omega) (hQ _ _ .toks mk_str)
theorem ev_lower {o : Expr} {apos pos : Pos} {x : Str} (ho : Ev X o ρ (.str x)) (hfit : (Txt.lower x).length ≤ sizeLine) (hbase : attributeBase o "lower" X.env (eval o X.env) = eval o X.env := by rfl)
    (hline : (apos.endLine == pos.line) = true := by rfl) : Ev X (.Call (.Attribute o "lower" apos) [] [] pos) ρ (.str (Txt.lower x)) :=
  ev_method0 ho str_type str_ref F.plainAttrs_str F.slot_str_lower F.type_str_lower (op_lower hfit) hbase hline
end
end PL
end
noncomputable section
open PySem PySem.W PyProof.Rows PySem.Builtin.Str
set_option Elab.async false
set_option linter.unusedVariables false
set_option maxRecDepth 100000
namespace PL

/-- a library's walk as ours: the items stand by themselves -/
theorem Yields.of {X : Cx} {I : Addr} {fp wr : List Addr} {n : Nat} {P : Nat → Value → Prop} {St : Nat → Heap → Prop} (W : Walks X.prog X.w X.A I fp wr n P St) (items : Nat → Option PV) (hlen : ∀ i p, items i = some p → i < n) (hnone : ∀ i, items i = none → n ≤ i) (Inv : (Addr → Prop) → Heap → Prop)
    (hle : ∀ i h, St i h → i ≤ n) (hfp : ∀ V i h, Inv V h → St i h → ∀ b ∈ fp, b ∈ wr ∨ ¬ V b)
    (hlive : ∀ i h, St i h → ∀ b ∈ wr, ∃ o, h.get? b = some o)
    (hmono : ∀ V V' h h', (∀ b o, ¬ V b → h.get? b = some o → ¬ V' b ∧ h'.get? b = some o) → Inv V h → Inv V' h')
    (hitem : ∀ V h i p v, Inv V h → items i = some p → P i v → Rep X.C V h p v) :
    Yields X (.ref I) wr [] items (fun V i s => St i s.heap ∧ Inv V s.heap) where
  frame := fun V V' i s s' st hw hk hV hg => ⟨W.frame i _ _ st.1 fun b hb o e => (hfp V i _ st.2 st.1 b hb).elim (fun h => hk b h o e) fun h => (hV b o h e).2, hmono V V' _ _ hV st.2⟩
  live := fun V i s st b hb => hlive i _ st.1 b hb
  item := fun V i p s Q E hp st hw vol hQ => by
    refine W.item i s Q E (hlen i p hp) st.1 fun v h' tk hP hst hk => ?_
    have inv' : Inv V h' := hmono V V _ _ (fun b o nb e => ⟨nb, hk b o (fun hm => nb (hw b hm)) e⟩) st.2
    exact hQ v _ (hitem V h' i p v inv' hp hP) ⟨hst, inv'⟩ hk rfl ((GG.refl _).gx [])
  done := fun V i s Q E hp st hw vol hQ => by
    have e : i = n := Nat.le_antisymm (hle i _ st.1) (hnone i hp)
    subst e
    exact W.done s Q E st.1 fun h' tk hk => hQ _ hk rfl ((GG.refl _).gx [])
  self := fun V i s Q E st hq => W.self i s Q E st.1 hq

section
variable {X : Cx} {ρ : Vars} {mg mb' : Str → Option Value}

/-- a call of a built-in kind -/
theorem evs_type {x : Str} {T : String} {p pos : Pos} {args : List Expr} {e : Expr} {ps : List PV} {V O s} {Q : Value → Shared → Prop} {E : Value → Shared → Prop} (F : X.F V O ρ s) (hf : EvV X (.Name x p) ρ (.type T)) (ha : Evs X pos (e :: args) ρ ps)
    (hQ : ∀ vs s₁, Grow s s₁ → X.Rs V s₁ ps vs → wpAny X.M X.A (call (.type T) vs) Q E s₁)
    (hplain : (backTo pos (starEach (e :: args) X.env)).any (·.1) = false := by rfl) (hse : ∃ y ys, backTo pos (starEach (e :: args) X.env) = (false, y) :: ys := by exact ⟨_, _, rfl⟩) : wpAny X.M X.A (eval (.Call (.Name x p) (e :: args) [] pos) X.env) Q E s := by
  rw [arm_eval_Call_Name']
  refine wpAny_bind (hf V O s _ E F ?_)
  refine PyProof.Rows.callWith_type hplain ?_
  obtain ⟨y, ys, he⟩ := hse
  have key := ha V O s (fun vs s' => wpAny X.M X.A (call (.type T) vs) Q E s') E F fun vs s₁ g₁ rs => hQ vs s₁ g₁ rs
  rw [he] at key ⊢
  exact Calls.evalArgs_plain key
theorem ev_call_type {x : Str} {T : String} {p pos : Pos} {args : List Expr} {e : Expr} {ps : List PV} {r : PV} (hf : EvV X (.Name x p) ρ (.type T)) (ha : Evs X pos (e :: args) ρ ps) (ho : OpN X (fun vs => call (.type T) vs) ps r)
    (hplain : (backTo pos (starEach (e :: args) X.env)).any (·.1) = false := by rfl) (hse : ∃ y ys, backTo pos (starEach (e :: args) X.env) = (false, y) :: ys := by exact ⟨_, _, rfl⟩) : Ev X (.Call (.Name x p) (e :: args) [] pos) ρ r := fun V O s Q E F hQ =>
  evs_type F hf ha (fun vs s₁ g₁ rs => ho V s₁ vs Q E (F.grow g₁).vol rs fun x s₂ g₂ r => hQ x s₂ (g₁.trans g₂) r) hplain hse

/-- the numbers of a range -/
noncomputable def rng (a c : Int) (n : Nat) : List PV := (List.range n).map fun i => .int (a + (i : Nat) * c)
theorem rng_get {a c : Int} {n i : Nat} {p : PV} (h : (rng a c n)[i]? = some p) : i < n ∧ p = .int (a + (i : Nat) * c) := by
  unfold rng at h
  rw [List.getElem?_map] at h
  by_cases hi : i < n
  · rw [List.getElem?_range hi] at h; simp at h; exact ⟨hi, h.symm⟩
  · rw [List.getElem?_eq_none (by simpa using hi)] at h; simp at h

theorem range_yields (hh : X.A.handled = none) (I : Addr) (a c : Int) (n : Nat) : Yields X (.ref I) [I] [] (fun i => (rng a c n)[i]?) (fun V i s => (i ≤ n ∧ IsRangeIter s.heap I (a + (i : Nat) * c) ((n : Int) - (i : Nat)) c) ∧ True) := by
  have W := Walks.range (prog := X.prog) (w := X.w) hh I a c n
  have W' : Walks X.prog X.w X.A I [I] [I] n (fun i v => ∃ t, v = .int (a + (i : Nat) * c) t) (fun i h => i ≤ n ∧ IsRangeIter h I (a + (i : Nat) * c) ((n : Int) - (i : Nat)) c) :=
    ⟨W.sub, fun i h h' st hk => ⟨st.1, W.frame i h h' st.2 hk⟩, fun i s Q E hi st hQ => W.item i s Q E hi st.2 fun v h' tk hP hst hk => hQ v h' tk hP ⟨hi, hst⟩ hk, fun s Q E st hQ => W.done s Q E st.2 hQ, fun i s Q E st hQ => W.self i s Q E st.2 hQ⟩
  refine Yields.of W' _ (fun i p h => (rng_get h).1) (fun i h => ?_) (fun _ _ => True) (fun i h st => st.1) (fun V i h _ st b hb => .inl hb) (fun i h st b hb => ?_) (fun _ _ _ _ _ _ => trivial) (fun V h i p v _ hp hP => ?_)
  · have := List.getElem?_eq_none_iff.mp h
    unfold rng at this; simpa using this
  · rw [List.mem_singleton.mp hb]; exact ⟨_, st.2⟩
  · obtain ⟨t, rfl⟩ := hP
    rw [(rng_get hp).2]; exact mk_int

theorem fresh_size {s : Shared} {h : Heap} (k : ∀ b o, s.heap.get? b = some o → h.get? b = some o) : s.heap.get? h.objs.size = none := by
  cases e : s.heap.get? h.objs.size with
  | none => rfl
  | some o => exact absurd (Heap.lt_size (k _ _ e)) (Nat.lt_irrefl _)
theorem it_range1 (hh : X.A.handled = none) {x : Str} {p pos : Pos} {e : Expr} {n : Nat} (hf : EvV X (.Name x p) ρ (.type "range")) (he : Ev X e ρ (.int (n : Int))) (hn : n ≤ sizeLine)
    (hplain : (backTo pos (starEach [e] X.env)).any (·.1) = false := by rfl) (hse : ∃ y ys, backTo pos (starEach [e] X.env) = (false, y) :: ys := by exact ⟨_, _, rfl⟩) (hse' : starEach [e] X.env = (false, eval e X.env) :: starEach [] X.env := by rfl) : IterTo X (.Call (.Name x p) [e] [] pos) ρ (fun i => (rng 0 1 n)[i]?) := fun V O s Q E F hQ => by
  refine evs_type F hf (evs_cons he evs_nil hse') (fun vs s₁ g₁ rs => ?_) hplain hse
  simp only [Cx.Rs, Reps] at rs
  obtain ⟨v, _, rfl, ⟨t, rfl⟩, rfl⟩ := rs
  refine call_range_1 ?_
  have hsz : sizeLine = 2 ^ 24 := rfl
  refine wpAny_pyIter_range (IsRange.new _ _ _ _ _ _ _) (small_one (by omega) (by omega) (by omega) (by omega)) ?_
  have hrs : Builtin.Range.rangeSize 0 (n : Int) 1 = (n : Int) := by rw [rangeSize_one]; split <;> omega
  have g : Grow s₁ { s₁ with heap := (s₁.heap.push { cls := .type "range", data := .fields #[.int 0 s₁.toks, .int (n : Int) t, .int 1 (s₁.toks + 1)] }).push { cls := .type "range_iterator", data := .fields #[rawInt 0, rawInt (Builtin.Range.rangeSize 0 (n : Int) 1), rawInt 1] }, toks := s₁.toks + 1 + 1 } :=
    .heap fun b o e => Heap.get?_push_of_some _ (Heap.get?_push_of_some _ e)
  refine hQ _ _ _ _ _ (g₁.trans g) (range_yields hh _ 0 1 n) (fun b hb => ?_) (by simp) ⟨⟨Nat.zero_le _, ?_⟩, trivial⟩
  · rw [List.mem_singleton.mp hb]
    exact fresh_size fun b o e => Heap.get?_push_of_some _ (g₁.keep _ _ e)
  · have e1 : (0 : Int) + ((0 : Nat) : Int) * 1 = 0 := by omega
    have e2 : (n : Int) - ((0 : Nat) : Int) = n := by omega
    rw [hrs, e1, e2]
    exact Heap.get?_push_size _ rfl
theorem it_range2 (hh : X.A.handled = none) {x : Str} {p pos : Pos} {e e' : Expr} {a b : Int} {n : Nat} (hf : EvV X (.Name x p) ρ (.type "range")) (he : Ev X e ρ (.int a)) (he' : Ev X e' ρ (.int b)) (hn : n = (b - a).toNat) (ha : -(2 ^ 62) ≤ a) (ha' : a < 2 ^ 62) (hb : -(2 ^ 62) ≤ b) (hb' : b < 2 ^ 62)
    (hplain : (backTo pos (starEach [e, e'] X.env)).any (·.1) = false := by rfl) (hse : ∃ y ys, backTo pos (starEach [e, e'] X.env) = (false, y) :: ys := by exact ⟨_, _, rfl⟩) (hse1 : starEach [e, e'] X.env = (false, eval e X.env) :: starEach [e'] X.env := by rfl) (hse2 : starEach [e'] X.env = (false, eval e' X.env) :: starEach [] X.env := by rfl) : IterTo X (.Call (.Name x p) [e, e'] [] pos) ρ (fun i => (rng a 1 n)[i]?) := fun V O s Q E F hQ => by
  refine evs_type F hf (evs_cons he (evs_cons he' evs_nil hse2) hse1) (fun vs s₁ g₁ rs => ?_) hplain hse
  simp only [Cx.Rs, Reps] at rs
  obtain ⟨v, _, rfl, ⟨t, rfl⟩, v', _, rfl, ⟨t', rfl⟩, rfl⟩ := rs
  refine call_range_2 ?_
  refine wpAny_pyIter_range (IsRange.new _ _ _ _ _ _ _) (small_one (by omega) (by omega) (by omega) (by omega)) ?_
  have hrs : Builtin.Range.rangeSize a b 1 = (n : Int) := by rw [rangeSize_one]; split <;> omega
  have g : Grow s₁ { s₁ with heap := (s₁.heap.push { cls := .type "range", data := .fields #[.int a t, .int b t', .int 1 s₁.toks] }).push { cls := .type "range_iterator", data := .fields #[rawInt a, rawInt (Builtin.Range.rangeSize a b 1), rawInt 1] }, toks := s₁.toks + 1 } :=
    .heap fun b o e => Heap.get?_push_of_some _ (Heap.get?_push_of_some _ e)
  refine hQ _ _ _ _ _ (g₁.trans g) (range_yields hh _ a 1 n) (fun b hb => ?_) (by simp) ⟨⟨Nat.zero_le _, ?_⟩, trivial⟩
  · rw [List.mem_singleton.mp hb]
    exact fresh_size fun b o e => Heap.get?_push_of_some _ (g₁.keep _ _ e)
  · have e1 : a + ((0 : Nat) : Int) * 1 = a := by omega
    have e2 : (n : Int) - ((0 : Nat) : Int) = n := by omega
    rw [hrs, e1, e2]
    exact Heap.get?_push_size _ rfl

/-! a list walked -/
theorem list_yields (hh : X.A.handled = none) (I ax : Addr) (hne : ax ≠ I) (l : List PV) (vs : List Value) (hl : vs.length = l.length) :
    Yields X (.ref I) [I] [] (fun i => l[i]?) (fun V i s => (i ≤ vs.length ∧ s.heap.IsListIter I ax i ∧ s.heap.IsList ax vs.toArray) ∧ ¬ V ax ∧ Reps X.C V s.heap l vs ∧ ∃ o, s.heap.get? ax = some o) := by
  have W := Walks.list (prog := X.prog) (w := X.w) hh I ax hne vs.toArray
  have W' : Walks X.prog X.w X.A I [I, ax] [I] vs.length (fun i v => vs[i]? = some v) (fun i h => i ≤ vs.length ∧ h.IsListIter I ax i ∧ h.IsList ax vs.toArray) :=
    ⟨W.sub, fun i h h' st hk => ⟨st.1, W.frame i h h' st.2 hk⟩, fun i s Q E hi st hQ => W.item i s Q E (by simpa using hi) st.2 fun v h' tk hP hst hk => hQ v h' tk (by simpa using hP) ⟨hi, hst⟩ hk, fun s Q E st hQ => W.done s Q E (by simpa using st.2) hQ, fun i s Q E st hQ => W.self i s Q E st.2 hQ⟩
  refine Yields.of W' _ (fun i p h => by rw [hl]; exact (List.getElem?_eq_some_iff.mp h).1) (fun i h => by rw [hl]; exact List.getElem?_eq_none_iff.mp h) (fun V h => ¬ V ax ∧ Reps X.C V h l vs ∧ ∃ o, h.get? ax = some o) (fun i h st => st.1) (fun V i h inv st b hb => ?_) (fun i h st b hb => ?_) (fun V V' h h' hk inv => ?_) (fun V h i p v inv hp hP => ?_)
  · rcases List.mem_cons.mp hb with rfl | hb
    · exact .inl (List.mem_singleton_self _)
    · rw [List.mem_singleton.mp hb]; exact .inr inv.1
  · rw [List.mem_singleton.mp hb]; obtain ⟨o, e, _⟩ := st.2.1; exact ⟨o, e⟩
  · obtain ⟨h1, h2, o, h3⟩ := inv
    exact ⟨(hk _ _ h1 h3).1, Reps.mono hk _ h2, o, (hk _ _ h1 h3).2⟩
  · obtain ⟨w, hw, r⟩ := inv.2.1.get hp
    rw [hP] at hw; cases hw; exact r
theorem it_list (hh : X.A.handled = none) {e : Expr} {l : List PV} (he : Ev X e ρ (.list l)) : IterTo X e ρ (fun i => l[i]?) := fun V O s Q E F hQ => by
  refine he V O s _ E F fun v s₁ g₁ r => ?_
  obtain ⟨ax, vs, rfl, hV, hl, rs⟩ := rep_list r
  refine wpAny_pyIter_list hl ?_
  have hlt : ax < s₁.heap.objs.size := by obtain ⟨o, e, _⟩ := hl; exact Heap.lt_size e
  have g : Grow s₁ { s₁ with heap := s₁.heap.push { cls := .type "list_iterator", data := .fields #[.ref ax, .int 0 0] } } := .push
  refine hQ _ _ _ _ _ (g₁.trans g) (list_yields hh _ ax (Nat.ne_of_lt hlt) l vs rs.length) (fun b hb => ?_) (by simp) ⟨⟨Nat.zero_le _, ⟨_, Heap.get?_push_size _ rfl, rfl, rfl⟩, hl.push _⟩, ?_, ?_, ?_⟩
  · rw [List.mem_singleton.mp hb]
    exact fresh_size g₁.keep
  · rintro (h | h)
    · exact hV h
    · exact absurd (List.mem_singleton.mp h) (Nat.ne_of_lt hlt)
  · refine Reps.mono (fun b o nb e => ⟨?_, g.keep b o e⟩) l rs
    rintro (h | h)
    · exact nb h
    · exact absurd (List.mem_singleton.mp h) (Nat.ne_of_lt (Heap.lt_size e))
  · obtain ⟨o, e, _⟩ := hl; exact ⟨o, g.keep _ _ e⟩
end
end PL
end
noncomputable section
open PySem PySem.W PyProof.Rows PySem.Builtin.Str
set_option Elab.async false
set_option linter.unusedVariables false
set_option maxRecDepth 100000
namespace PL

noncomputable def setO (O : Str → Addr) (x : Str) (a : Addr) : Str → Addr := fun y => if y = x then a else O y
section
variable {X : Cx} {ρ ρ' ρ'' : Vars} {mg mb' : Str → Option Value}

theorem PutNew.keys {x : Str} {l : List PV} (h : PutNew ρ x l ρ') : ρ'.map (·.1) = ρ.map (·.1) := by
  induction h with
  | there _ ih => simp [ih]
  | _ => rfl
theorem PutNew.name {x : Str} {l : List PV} (h : PutNew ρ x l ρ') : x ∈ ρ.map (·.1) := by
  induction h with
  | there _ ih => exact List.mem_cons_of_mem _ ih
  | _ => exact List.mem_cons_self ..
theorem PutNew.mem {x : Str} {l : List PV} (h : PutNew ρ x l ρ') : (∃ q, (x, VK.loc, q) ∈ ρ) ∧ (x, VK.loc, VV.mu true l) ∈ ρ' ∧ ∀ e ∈ ρ', e = (x, VK.loc, VV.mu true l) ∨ e ∈ ρ := by
  have fin : ∀ (q : VV) (r : Vars), (∃ q', (x, VK.loc, q') ∈ (x, VK.loc, q) :: r) ∧ (x, VK.loc, VV.mu true l) ∈ (x, VK.loc, VV.mu true l) :: r ∧ ∀ e ∈ (x, VK.loc, VV.mu true l) :: r, e = (x, VK.loc, VV.mu true l) ∨ e ∈ (x, VK.loc, q) :: r := fun q r =>
    ⟨⟨q, List.mem_cons_self ..⟩, List.mem_cons_self .., fun e he => by rcases List.mem_cons.mp he with h | h; exact .inl h; exact .inr (List.mem_cons_of_mem _ h)⟩
  induction h with
  | no => exact fin _ _
  | val => exact fin _ _
  | mu => exact fin _ _
  | there _ ih =>
    obtain ⟨⟨q, h1⟩, h2, h3⟩ := ih fin
    exact ⟨⟨q, List.mem_cons_of_mem _ h1⟩, List.mem_cons_of_mem _ h2, fun e he => by
      rcases List.mem_cons.mp he with h | h
      · exact .inr (h ▸ List.mem_cons_self ..)
      · exact (h3 e h).imp id (List.mem_cons_of_mem _)⟩
theorem ownOf_setO {O : Str → Addr} {x : Str} {a : Addr} {e : Str × VK × VV} (h : e.1 ≠ x) : ownOf (setO O x a) e = ownOf O e := by
  obtain ⟨y, k, q⟩ := e
  cases k <;> cases q <;> first | rfl | (show some (setO O x a y) = _; unfold setO; rw [if_neg h]; rfl)
theorem filter_setO {O : Str → Addr} {x : Str} {a : Addr} {r : Vars} (h : x ∉ r.map (·.1)) : r.filterMap (ownOf (setO O x a)) = r.filterMap (ownOf O) := by
  induction r with
  | nil => rfl
  | cons e r ih =>
    simp only [List.map_cons, List.mem_cons, not_or] at h
    rw [List.filterMap_cons, List.filterMap_cons, ownOf_setO (Ne.symm h.1), ih h.2]
theorem PutNew.owned {x : Str} {l : List PV} (h : PutNew ρ x l ρ') (O : Str → Addr) (a : Addr) (hn : (ρ.map (·.1)).Nodup) : (∀ b ∈ ρ'.filterMap (ownOf (setO O x a)), b = a ∨ b ∈ ρ.filterMap (ownOf O)) ∧
    (a ∉ ρ.filterMap (ownOf O) → (ρ.filterMap (ownOf O)).Nodup → (ρ'.filterMap (ownOf (setO O x a))).Nodup) := by
  have fin : ∀ (q : VV) (r : Vars), x ∉ r.map (·.1) → (∀ b ∈ ((x, VK.loc, VV.mu true l) :: r).filterMap (ownOf (setO O x a)), b = a ∨ b ∈ ((x, VK.loc, q) :: r).filterMap (ownOf O)) ∧
      (a ∉ ((x, VK.loc, q) :: r).filterMap (ownOf O) → (((x, VK.loc, q) :: r).filterMap (ownOf O)).Nodup → (((x, VK.loc, VV.mu true l) :: r).filterMap (ownOf (setO O x a))).Nodup) := fun q r hx => by
    have e : ((x, VK.loc, VV.mu true l) :: r).filterMap (ownOf (setO O x a)) = a :: r.filterMap (ownOf O) := by
      rw [List.filterMap_cons, filter_setO hx]
      have : ownOf (setO O x a) (x, VK.loc, VV.mu true l) = some a := by show some (setO O x a x) = _; unfold setO; rw [if_pos rfl]
      rw [this]
    have sub : ∀ b ∈ r.filterMap (ownOf O), b ∈ ((x, VK.loc, q) :: r).filterMap (ownOf O) := fun b hb => by
      rw [List.filterMap_cons]; cases ownOf O (x, VK.loc, q) with
      | none => exact hb
      | some c => exact List.mem_cons_of_mem _ hb
    rw [e]
    refine ⟨fun b hb => ?_, fun ha hnd => ?_⟩
    · rcases List.mem_cons.mp hb with h | h
      · exact .inl h
      · exact .inr (sub b h)
    · refine List.nodup_cons.mpr ⟨fun h => ha (sub a h), ?_⟩
      rw [List.filterMap_cons] at hnd
      cases hq : ownOf O (x, VK.loc, q) with
      | none => rw [hq] at hnd; exact hnd
      | some c => rw [hq] at hnd; exact (List.nodup_cons.mp hnd).2
  induction h with
  | no => exact fin _ _ (List.nodup_cons.mp hn).1
  | val => exact fin _ _ (List.nodup_cons.mp hn).1
  | mu => exact fin _ _ (List.nodup_cons.mp hn).1
  | @there x l e r r' h ih =>
    have hn' := List.nodup_cons.mp hn
    have hne : e.1 ≠ x := fun he => hn'.1 (by show e.1 ∈ _; rw [he]; exact h.name)
    obtain ⟨i1, i2⟩ := ih hn'.2 fin
    rw [List.filterMap_cons, List.filterMap_cons, ownOf_setO hne]
    cases ho : ownOf O e with
    | none => exact ⟨i1, i2⟩
    | some c =>
      refine ⟨fun b hb => ?_, fun ha hnd => ?_⟩
      · rcases List.mem_cons.mp hb with h | h
        · exact .inr (h ▸ List.mem_cons_self ..)
        · exact (i1 b h).imp id (List.mem_cons_of_mem _)
      · simp only [List.mem_cons, not_or] at ha
        have hnd' := List.nodup_cons.mp hnd
        refine List.nodup_cons.mpr ⟨fun h => ?_, i2 ha.2 hnd'.2⟩
        rcases i1 c h with h | h
        · exact ha.1 h.symm
        · exact hnd'.1 h

/-- a fresh list into a name -/
theorem Frm.storeNew {V O s₀ s₁} {x : Str} {l : List PV} {a : Addr} {vs : List Value} (F₀ : X.F V O ρ s₀) (g : Grow s₀ s₁) (ha : s₀.heap.get? a = none) (hp : s₁.heap.PlainList a vs.toArray) (rs : Reps X.C (VW V [a]) s₁.heap l vs) (h : PutNew ρ x l ρ') {M : Model} {A : Around} {Q : Unit → Shared → Prop} {E : Value → Shared → Prop}
    (hQ : ∀ s', Ran X V O ρ s₀ (VW V [a]) (setO O x a) ρ' s' → Q () s') : wpAny M A (storeName X.env x (.ref a)) Q E s₁ := by
  have hbase : X.base.get? a = none := by
    cases e : X.base.get? a with
    | none => rfl
    | some o => have := F₀.vol.keep a o e; rw [ha] at this; cases this
  have hVa : ¬ V a := fun h => by obtain ⟨o, e⟩ := F₀.vol.live a h; rw [ha] at e; cases e
  have one : ∀ b ∈ [a], b = a := fun b hb => List.mem_singleton.mp hb
  have F₁ : X.F (VW V [a]) O ρ s₁ := (F₀.grow g).widen (fun b hb => by rw [one b hb]; obtain ⟨n, e⟩ := hp; exact ⟨_, e⟩) (fun b hb => by rw [one b hb]; exact hbase) F₀ g (fun b hb => by rw [one b hb]; exact ha)
  obtain ⟨⟨q, hk⟩, hk', hall⟩ := h.mem
  obtain ⟨ow1, ow2⟩ := h.owned O a F₀.names
  obtain ⟨m, hn, hv⟩ := F₁.vars
  have hLV : V X.env.locals := F₀.own _ (List.mem_cons_self ..)
  have hLa : X.env.locals ≠ a := fun e => hVa (e ▸ hLV)
  have hnd := F₀.nodup
  unfold PL.owned at hnd
  rw [List.nodup_cons] at hnd
  have haO : a ∉ ρ.filterMap (ownOf O) := fun hm => hVa (F₀.own a (List.mem_cons_of_mem _ hm))
  have keysN : (ρ'.map (·.1)).Nodup := h.keys ▸ F₀.names
  have hkind : X.env.kindOf x = some .local := by
    have z := hv _ hk
    cases q with
    | no => exact z
    | val _ => exact z.1
    | mu _ _ => exact z.1
  have nameNe : ∀ y k' q', (y, k', q') ∈ ρ' → (y, k', q') ≠ (x, VK.loc, VV.mu true l) → y ≠ x := fun y k' q' hm hne e => by
    subst e
    exact hne (by have := owned_unique keysN hm hk'; cases this; rfl)
  have own' : ∀ b ∈ PL.owned X.env (setO O x a) ρ', b = a ∨ b ∈ PL.owned X.env O ρ := fun b hb => by
    rcases List.mem_cons.mp hb with h | h
    · exact .inr (h ▸ List.mem_cons_self ..)
    · exact (ow1 b h).imp id (List.mem_cons_of_mem _)
  refine wpAny_storeName_local hkind hn (fun h' hn' hs => ?_) (by rw [F₁.kind]; rfl)
  have up : ∀ b o, b ≠ X.env.locals → s₁.heap.get? b = some o → h'.get? b = some o := fun b o hb e => (hs.2 b hb).trans e
  have hLW : VW V [a] X.env.locals := .inl hLV
  have hV : ∀ b o, ¬ VW V [a] b → s₁.heap.get? b = some o → ¬ VW V [a] b ∧ h'.get? b = some o := fun b o nb e => ⟨nb, up b o (fun e' => nb (e' ▸ hLW)) e⟩
  have free' : ∀ y c q', (y, VK.free c, q') ∈ ρ' → (y, VK.free c, q') ∈ ρ := fun y c q' hm => (hall _ hm).resolve_left (by intro e; cases e)
  have FF : X.F (VW V [a]) (setO O x a) ρ' { s₁ with heap := h', toks := s₁.toks + 1 } := by
    refine ⟨⟨fun b o e => up b o (fun e' => by rw [e', F₁.vol.apart _ hLW] at e; cases e) (F₁.vol.keep b o e), fun b hb => ?_, F₁.vol.apart⟩, F₁.kind, ⟨_, hn', fun e he => ?_⟩, fun b hb => ?_, ?_, keysN, fun y c q' hm hc => ?_⟩
    · by_cases hb' : b = X.env.locals
      · subst hb'; obtain ⟨o, _, _, e, _⟩ := hn'; exact ⟨o, e⟩
      · obtain ⟨o, e⟩ := F₁.vol.live b hb; exact ⟨o, up b o hb' e⟩
    · by_cases hx : e = (x, VK.loc, VV.mu true l)
      · subst hx
        have hO : setO O x a x = a := by unfold setO; rw [if_pos rfl]
        refine ⟨hkind, by simp [hO], vs, ?_, fun _ => ?_, Reps.mono hV l rs⟩
        · rw [hO]; exact hp.isList.at fun o e => up a o (Ne.symm hLa) e
        · rw [hO]; exact hp.at fun o e => up a o (Ne.symm hLa) e
      · obtain ⟨y, k', q'⟩ := e
        have hne := nameNe y k' q' he hx
        have hin : (y, k', q') ∈ ρ := (hall _ he).resolve_left hx
        have z := VarAt.mono (C := X.C) (env := X.env) (m := m) (V' := VW V [a]) (h' := h') hV (fun _ h => h) (fun b hb o e => up b o (fun e' => hnd.1 (e' ▸ List.mem_filterMap.mpr ⟨_, hin, hb⟩)) e)
          (fun y' c q'' e0 o e => up c o (fun e' => F₀.free y' c q'' (e0 ▸ hin) (e' ▸ List.mem_cons_self ..)) e) (hv _ hin)
        cases k' with
        | loc => cases q' with
          | no => exact z
          | val _ => obtain ⟨a1, v, b, c⟩ := z; exact ⟨a1, v, by simpa [hne] using b, c⟩
          | mu pl l' =>
            obtain ⟨a1, b, c⟩ := z
            have hO : setO O x a y = O y := by unfold setO; rw [if_neg hne]
            refine ⟨a1, by simpa [hne, hO] using b, ?_⟩
            rw [hO]; exact c
        | cell c => exact z
        | free c => exact z
    · rcases own' b hb with h | h
      · exact .inr (h ▸ List.mem_singleton_self _)
      · exact .inl (F₀.own b h)
    · unfold PL.owned
      refine List.nodup_cons.mpr ⟨fun hm => ?_, ow2 haO hnd.2⟩
      rcases ow1 _ hm with h | h
      · exact hLa h
      · exact hnd.1 h
    · rcases own' c hc with h | h
      · obtain ⟨m₀, _, hv₀⟩ := F₀.vars
        obtain ⟨_, _, hcV, _⟩ := hv₀ _ (free' y c q' hm)
        exact hVa (h ▸ hcV)
      · exact F₀.free y c q' (free' y c q' hm) h
  refine hQ _ ⟨FF, ⟨fun b hb => .inl (.inl hb), fun b hb => hb.imp id fun h => by rw [one b h]; exact ha⟩, fun b hb => ?_, ⟨fun b o hb e => up b o (fun e' => hb (e' ▸ List.mem_cons_self ..)) (g.keep b o e), g.os, g.gens⟩, fun y c q' hm => ⟨q', free' y c q' hm⟩⟩
  rcases own' b hb with h | h
  · right; rw [h]; exact ha
  · exact .inl h

noncomputable def EvNew (X : Cx) (e : Expr) (ρ : Vars) (l : List PV) : Prop :=
  ∀ V O s (Q : Value → Shared → Prop) (E : Value → Shared → Prop), X.F V O ρ s → (∀ a vs s', Grow s s' → s.heap.get? a = none → s'.heap.PlainList a vs.toArray → Reps X.C (VW V [a]) s'.heap l vs → Q (.ref a) s') → wpAny X.M X.A (eval e X.env) Q E s
theorem ex_assign_new {x : Str} {pos' pos : Pos} {e : Expr} {l : List PV} (he : EvNew X e ρ l) (h : PutNew ρ x l ρ') (hs : swapsWith e (some (.Name x pos')) pos.line X.env = pure false := by rfl) : Ex1 X (.Assign [.Name x pos'] e pos) ρ .next ρ' := fun V O s Q E F hQ =>
  wpAny_Assign_Name (he V O s _ E F fun a vs s₁ g ha hp rs => F.storeNew g ha hp rs h fun s' R => hQ _ _ s' .next R rfl) hs
theorem evn_list {elts : List Expr} {pos : Pos} {ps : List PV} (h : Evs X pos elts ρ ps) (hn : ps.length ≤ sizeLine := by simp only [List.length_cons, List.length_nil]; decide) : EvNew X (.List elts pos) ρ ps := fun V O s Q E F hQ =>
  List_ (h V O s _ E F fun vs s₁ g₁ rs => wpAny_newObj_type (hQ _ vs _ (g₁.trans .push) (fresh_size g₁.keep) ⟨_, Heap.get?_push_size _ rfl⟩
    (Reps.mono (fun b o nb e => ⟨fun h => h.elim nb fun h => absurd (List.mem_singleton.mp h) (Nat.ne_of_lt (Heap.lt_size e)), Heap.get?_push_of_some _ e⟩) ps rs)) (by show vs.toArray.size ≤ sizeLine; rw [List.size_toArray, rs.length]; exact hn))

/-! plain items -/
noncomputable def Flat : PV → Prop
  | .none | .bool _ | .int _ | .str _ | .obj _ => True
  | _ => False
theorem Rep.flat {C V V' h h'} {p : PV} {v : Value} (hp : Flat p) (r : Rep C V h p v) : Rep C V' h' p v := by
  cases p <;> first | exact r | exact hp.elim

/-! an own list read -/
theorem Thaw.mem {x : Str} (h : Thaw ρ x ρ') : ∃ pl l, (x, VK.loc, VV.mu pl l) ∈ ρ ∧ ∀ e ∈ ρ', e = (x, VK.loc, VV.val (.list l)) ∨ (e ∈ ρ) := by
  induction h with
  | here => exact ⟨_, _, List.mem_cons_self .., fun e he => by rcases List.mem_cons.mp he with h | h; exact .inl h; exact .inr (List.mem_cons_of_mem _ h)⟩
  | there _ ih =>
    obtain ⟨pl, l, h1, h2⟩ := ih
    exact ⟨pl, l, List.mem_cons_of_mem _ h1, fun e he => by
      rcases List.mem_cons.mp he with h | h
      · exact .inr (h ▸ List.mem_cons_self ..)
      · exact (h2 e h).imp id (List.mem_cons_of_mem _)⟩
theorem Thaw.keys {x : Str} (h : Thaw ρ x ρ') : ρ'.map (·.1) = ρ.map (·.1) := by
  induction h with
  | there _ ih => simp [ih]
  | _ => rfl
theorem Thaw.sub {x : Str} (h : Thaw ρ x ρ') (O : Str → Addr) : (ρ'.filterMap (ownOf O)).Sublist (ρ.filterMap (ownOf O)) := by
  induction h with
  | here => rw [List.filterMap_cons, List.filterMap_cons]; exact List.Sublist.cons _ (List.Sublist.refl _)
  | @there x e r r' _ ih =>
    rw [List.filterMap_cons, List.filterMap_cons]
    cases ownOf O e with
    | none => exact ih
    | some c => exact ih.cons_cons c
theorem Thaw.notIn {x : Str} (h : Thaw ρ x ρ') (O : Str → Addr) (hn : (ρ.filterMap (ownOf O)).Nodup) (hk : (ρ.map (·.1)).Nodup) : O x ∉ ρ'.filterMap (ownOf O) ∧ O x ∈ ρ.filterMap (ownOf O) := by
  induction h with
  | @here x pl l r =>
    rw [List.filterMap_cons] at hn
    have hn' := List.nodup_cons.mp hn
    exact ⟨by rw [List.filterMap_cons]; exact hn'.1, by rw [List.filterMap_cons]; exact List.mem_cons_self ..⟩
  | @there x e r r' h ih =>
    rw [List.filterMap_cons] at hn
    cases ho : ownOf O e with
    | none =>
      rw [ho] at hn
      have := ih hn (List.nodup_cons.mp hk).2
      simpa [List.filterMap_cons, ho] using this
    | some c =>
      rw [ho] at hn
      have hn' := List.nodup_cons.mp hn
      obtain ⟨i1, i2⟩ := ih hn'.2 (List.nodup_cons.mp hk).2
      rw [List.filterMap_cons, List.filterMap_cons, ho]
      exact ⟨fun hm => (List.mem_cons.mp hm).elim (fun e' => hn'.1 (e' ▸ i2)) i1, List.mem_cons_of_mem _ i2⟩

/-- the frame with the list as plain data -/
theorem Frm.thaw {V O s} {x : Str} (F : X.F V O ρ s) (h : Thaw ρ x ρ') : X.F (fun b => V b ∧ b ≠ O x) O ρ' s := by
  obtain ⟨pl, l, hx, hall⟩ := h.mem
  have hnd := F.nodup
  unfold PL.owned at hnd
  rw [List.nodup_cons] at hnd
  obtain ⟨n1, n2⟩ := h.notIn O hnd.2 F.names
  obtain ⟨m, hn, hv⟩ := F.vars
  have hLx : X.env.locals ≠ O x := fun e => hnd.1 (e ▸ n2)
  have hR : ∀ b o, ¬ V b → s.heap.get? b = some o → ¬ (V b ∧ b ≠ O x) ∧ s.heap.get? b = some o := fun b o nb e => ⟨fun h => nb h.1, e⟩
  refine ⟨⟨F.vol.keep, fun b hb => F.vol.live b hb.1, fun b hb => F.vol.apart b hb.1⟩, F.kind, ⟨m, hn, fun e he => ?_⟩, fun b hb => ?_, ?_, h.keys ▸ F.names, fun y c q hm hc => ?_⟩
  · rcases hall e he with rfl | hin
    · obtain ⟨a, b, vs, c, _, d⟩ := hv _ hx
      refine ⟨a, _, b, ?_⟩
      simp only [Rep]
      exact ⟨_, vs, rfl, fun h => h.2 rfl, c, Reps.mono hR l d⟩
    · obtain ⟨y, k, q⟩ := e
      have z := hv _ hin
      cases k with
      | free c =>
        obtain ⟨a, b, v, v0, d, e'⟩ := z
        exact ⟨a, b, ⟨v, fun e => F.free y c q hin (e ▸ List.mem_cons_of_mem _ n2)⟩, v0, d, fun p hp => let ⟨v', e1, e2⟩ := e' p hp; ⟨v', e1, Rep.mono hR p e2⟩⟩
      | loc => cases q with
        | no => exact z
        | val p => obtain ⟨a, v, b, c⟩ := z; exact ⟨a, v, b, Rep.mono hR p c⟩
        | mu pl l => obtain ⟨a, b, vs, c, c', d⟩ := z; exact ⟨a, b, vs, c, c', Reps.mono hR l d⟩
      | cell c => obtain ⟨a, b, v0, d, e'⟩ := z; exact ⟨a, b, v0, d, fun p hp => let ⟨v', e1, e2⟩ := e' p hp; ⟨v', e1, Rep.mono hR p e2⟩⟩
  · rcases List.mem_cons.mp hb with h' | h'
    · exact ⟨F.own b (h' ▸ List.mem_cons_self ..), fun e => hLx (h'.symm.trans e)⟩
    · exact ⟨F.own b (List.mem_cons_of_mem _ ((h.sub O).subset h')), fun e => n1 (e ▸ h')⟩
  · unfold PL.owned
    exact List.nodup_cons.mpr ⟨fun hm => hnd.1 ((h.sub O).subset hm), (h.sub O).nodup hnd.2⟩
  · have hin : (y, VK.free c, q) ∈ ρ := (hall _ hm).resolve_left (by intro e; cases e)
    refine F.free y c q hin ?_
    rcases List.mem_cons.mp hc with h' | h'
    · exact h' ▸ List.mem_cons_self ..
    · exact List.mem_cons_of_mem _ ((h.sub O).subset h')
theorem ev_thaw {e : Expr} {x : Str} {p : PV} (h : Thaw ρ x ρ') (he : Ev X e ρ' p) (hp : Flat p) : Ev X e ρ p := fun V O s Q E F hQ =>
  he _ O s Q E (F.thaw h) fun v s' g r => hQ v s' g (r.flat hp)
theorem it_thaw {e : Expr} {x : Str} {b : Bool} (h : Thaw ρ x ρ') (he : It X e ρ' b) : It X e ρ b := fun V O s Q E F hQ => he _ O s Q E (F.thaw h) hQ
/-- from here on the list is plain data -/
theorem exs_thaw {ss : List Stmt} {x : Str} {fl : PF} (h : Thaw ρ x ρ') (he : Exs X ss ρ' fl ρ'') : Exs X ss ρ fl ρ'' := fun V O s Q E F hQ =>
  he _ O s Q E (F.thaw h) fun V' O' s' f R hf => by
    have n2 : O x ∈ PL.owned X.env O ρ := by
      have hnd := F.nodup
      unfold PL.owned at hnd
      rw [List.nodup_cons] at hnd
      exact List.mem_cons_of_mem _ (h.notIn O hnd.2 F.names).2
    have sub : ∀ b ∈ PL.owned X.env O ρ', b ∈ PL.owned X.env O ρ := fun b hb => by
      rcases List.mem_cons.mp hb with h' | h'
      · exact h' ▸ List.mem_cons_self ..
      · exact List.mem_cons_of_mem _ ((h.sub O).subset h')
    refine hQ V' O' s' f ⟨R.frm, ⟨fun b hb => ?_, fun b hb => (R.vext.fresh b hb).imp (fun h => h.1) id⟩, fun b hb => (R.fresh b hb).imp (sub b) id, ⟨fun b o hb e => R.step.keep b o (fun hm => hb (sub b hm)) e, R.step.os, R.step.gens⟩, fun y c q hm => ?_⟩ hf
    · by_cases hx : b = O x
      · exact .inr (hx ▸ n2)
      · exact (R.vext.up b ⟨hb, hx⟩).imp id (sub b)
    · obtain ⟨q', h'⟩ := R.frees y c q hm
      obtain ⟨pl, l, _, hall⟩ := h.mem
      exact ⟨q', (hall _ h').resolve_left (by intro e; cases e)⟩
theorem rt_thaw {ss : List Stmt} {x : Str} {p : PV} (h : Thaw ρ x ρ') (he : Rt X ss ρ' p) : Rt X ss ρ p := let ⟨_, r⟩ := he; ⟨_, exs_thaw h r⟩
theorem evn_thaw {e : Expr} {x : Str} {l : List PV} (h : Thaw ρ x ρ') (he : EvNew X e ρ' l) (hp : ∀ p ∈ l, Flat p) : EvNew X e ρ l := fun V O s Q E F hQ =>
  he _ O s Q E (F.thaw h) fun a vs s' g ha hpl rs => hQ a vs s' g ha hpl (by
    have key : ∀ {l : List PV} {vs : List Value} {V V' : Addr → Prop} {h h' : Heap}, (∀ p ∈ l, Flat p) → Reps X.C V h l vs → Reps X.C V' h' l vs := by
      intro l
      induction l with
      | nil => intro vs V V' h h' _ r; exact r
      | cons p l ih =>
        intro vs V V' h h' hp r
        simp only [Reps] at r ⊢
        obtain ⟨v, vs', e, r1, r2⟩ := r
        exact ⟨v, vs', e, r1.flat (hp p (List.mem_cons_self ..)), ih (fun q hq => hp q (List.mem_cons_of_mem _ hq)) r2⟩
    exact key hp rs)
end
end PL
end
noncomputable section
open PySem PySem.W PyProof.Rows PySem.Builtin.Str
set_option Elab.async false
set_option linter.unusedVariables false
set_option maxRecDepth 100000
namespace PL
section
variable {X : Cx} {ρ ρ' ρ'' : Vars} {mg mb' : Str → Option Value}

theorem PutMut.keys {x : Str} {pl : Bool} {l : List PV} (h : PutMut ρ x pl l ρ') : ρ'.map (·.1) = ρ.map (·.1) := by
  induction h with
  | there _ ih => simp [ih]
  | _ => rfl
theorem PutMut.owned {x : Str} {pl : Bool} {l : List PV} (h : PutMut ρ x pl l ρ') (O : Str → Addr) : ρ'.filterMap (ownOf O) = ρ.filterMap (ownOf O) := by
  induction h with
  | there _ ih => simp [List.filterMap_cons, ih]
  | _ => rfl
theorem PutMut.mem {x : Str} {pl : Bool} {l : List PV} (h : PutMut ρ x pl l ρ') : (∃ pl' l', (x, VK.loc, VV.mu pl' l') ∈ ρ) ∧ (x, VK.loc, VV.mu pl l) ∈ ρ' ∧ ∀ e ∈ ρ', e = (x, VK.loc, VV.mu pl l) ∨ e ∈ ρ := by
  induction h with
  | here => exact ⟨⟨_, _, List.mem_cons_self ..⟩, List.mem_cons_self .., fun e he => by rcases List.mem_cons.mp he with h | h; exact .inl h; exact .inr (List.mem_cons_of_mem _ h)⟩
  | there _ ih =>
    obtain ⟨⟨pl', l', h1⟩, h2, h3⟩ := ih
    exact ⟨⟨pl', l', List.mem_cons_of_mem _ h1⟩, List.mem_cons_of_mem _ h2, fun e he => by
      rcases List.mem_cons.mp he with h | h
      · exact .inr (h ▸ List.mem_cons_self ..)
      · exact (h3 e h).imp id (List.mem_cons_of_mem _)⟩

/-- an own list turned -/
theorem Frm.turn {V O s} {x : Str} {pl : Bool} {l : List PV} {vs : List Value} {h' : Heap} (F : X.F V O ρ s) (h : PutMut ρ x pl l ρ') (hs : Heap.SameBut (O x) s.heap h') (hl : h'.IsList (O x) vs.toArray) (hp : pl = true → h'.PlainList (O x) vs.toArray) (rs : X.Rs V s l vs) : Ran X V O ρ s V O ρ' { s with heap := h' } := by
  obtain ⟨⟨pl₀, l₀, hk⟩, hk', hall⟩ := h.mem
  have ho := h.owned O
  have hoo : PL.owned X.env O ρ' = PL.owned X.env O ρ := by unfold PL.owned; rw [ho]
  obtain ⟨m, hn, hv⟩ := F.vars
  have hnd := F.nodup
  unfold PL.owned at hnd
  rw [List.nodup_cons] at hnd
  have hxm : O x ∈ ρ.filterMap (ownOf O) := List.mem_filterMap.mpr ⟨_, hk, rfl⟩
  have hxV : V (O x) := F.own _ (List.mem_cons_of_mem _ hxm)
  have hLx : X.env.locals ≠ O x := fun e => hnd.1 (e ▸ hxm)
  have keysN : (ρ'.map (·.1)).Nodup := h.keys ▸ F.names
  have up : ∀ b o, b ≠ O x → s.heap.get? b = some o → h'.get? b = some o := fun b o hb e => (hs.2 b hb).trans e
  have hV : ∀ b o, ¬ V b → s.heap.get? b = some o → ¬ V b ∧ h'.get? b = some o := fun b o nb e => ⟨nb, up b o (fun e' => nb (e' ▸ hxV)) e⟩
  have fr : ∀ y c q, (y, VK.free c, q) ∈ ρ' → (y, VK.free c, q) ∈ ρ := fun y c q hm => (hall _ hm).resolve_left (by intro e; cases e)
  obtain ⟨hkind, hmx, _⟩ := hv _ hk
  have FF : X.F V O ρ' { s with heap := h' } := by
    refine ⟨⟨fun b o e => up b o (fun e' => by rw [e', F.vol.apart _ hxV] at e; cases e) (F.vol.keep b o e), fun b hb => ?_, F.vol.apart⟩, F.kind, ⟨m, hn.sameBut hs hLx, fun e he => ?_⟩, fun b hb => F.own b (hoo ▸ hb), hoo ▸ F.nodup, keysN, fun y c q hm => hoo ▸ F.free y c q (fr y c q hm)⟩
    · by_cases hb' : b = O x
      · subst hb'; obtain ⟨o, e, _⟩ := hl; exact ⟨o, e⟩
      · obtain ⟨o, e⟩ := F.vol.live b hb; exact ⟨o, up b o hb' e⟩
    · rcases hall e he with rfl | hin
      · exact ⟨hkind, hmx, vs, hl, hp, Reps.mono hV l rs⟩
      · by_cases hx : e = (x, VK.loc, VV.mu pl₀ l₀)
        · subst hx
          have := owned_unique keysN he hk'
          cases this
          exact ⟨hkind, hmx, vs, hl, hp, Reps.mono hV _ rs⟩
        · exact VarAt.mono (C := X.C) (env := X.env) (m := m) (V' := V) (h' := h') hV (fun _ h => h) (fun b hb o e' => up b o (fun e'' => hx (own_apart hnd.2 hin hk hb (by rw [e'']; rfl))) e')
            (fun y c q e0 o e' => up c o (fun e'' => F.free y c q (e0 ▸ hin) (e'' ▸ List.mem_cons_of_mem _ hxm)) e') (hv _ hin)
  exact ⟨FF, .refl _ _ _, fun b hb => .inl (hoo ▸ hb), ⟨fun b o hb e => up b o (fun e' => hb (e' ▸ List.mem_cons_of_mem _ hxm)) e, rfl, .refl _⟩, fun y c q hm => ⟨q, fr y c q hm⟩⟩

theorem Frm.loadMut {V O s} (F : X.F V O ρ s) {x : Str} {pl : Bool} {l : List PV} (h : AtMut ρ x pl l) {M : Model} {A : Around} {Q : Value → Shared → Prop} {E : Value → Shared → Prop}
    (hQ : ∀ vs, s.heap.IsList (O x) vs.toArray → (pl = true → s.heap.PlainList (O x) vs.toArray) → X.Rs V s l vs → Q (.ref (O x)) s) : wpAny M A (loadName X.env x) Q E s := by
  obtain ⟨m, hn, hv⟩ := F.vars
  obtain ⟨hk, hm, vs, h1, h2, h3⟩ := hv _ h.mem
  exact wpAny_loadName_local F.kind hk hn hm (hQ vs h1 h2 h3)
theorem Reps.set {C V h} : ∀ {ps : List PV} {vs : List Value} (k : Nat) {p : PV} {v : Value}, Reps C V h ps vs → Rep C V h p v → Reps C V h (ps.set k p) (vs.set k v)
  | [], _, k, p, v, r, r' => by simp only [Reps] at r; subst r; simp [Reps]
  | q :: ps, vs, k, p, v, r, r' => by
    simp only [Reps] at r
    obtain ⟨u, us, rfl, r1, r2⟩ := r
    cases k with
    | zero => simp only [List.set_cons_zero, Reps]; exact ⟨v, us, rfl, r', r2⟩
    | succ k => simp only [List.set_cons_succ, Reps]; exact ⟨u, _, rfl, r1, Reps.set k r2 r'⟩

/-- xs[k] = e -/
theorem ex_setitem {x : Str} {np tp pos : Pos} {idx e : Expr} {pl : Bool} {l : List PV} {k : Nat} {p : PV} (he : Ev X e ρ p) (hx : AtMut ρ x pl l) (hi : Ev X idx ρ (.int (k : Int))) (hk : k < l.length) (hfit : l.length ≤ sizeLine) (h : PutMut ρ x false (l.set k p) ρ') (hd : (x == ("__debug__" : Str)) = false := by decide)
    (hs : swapsWith e (some (.Subscript (.Name x np) idx tp)) pos.line X.env = pure false := by rfl) : Ex1 X (.Assign [.Subscript (.Name x np) idx tp] e pos) ρ .next ρ' := fun V O s Q E F hQ =>
  wpAny_Assign_Subscript (he V O s _ E F fun v s₁ g₁ r => wpAny_Name ((F.grow g₁).loadMut hx fun vs₀ _ _ _ => hi V O s₁ _ E (F.grow g₁) fun w s₂ g₂ rw' => by
    obtain ⟨t, rfl⟩ := rw'
    have F₂ := (F.grow g₁).grow g₂
    obtain ⟨m, hn, hv⟩ := F₂.vars
    obtain ⟨_, _, vs, h1, h2, h3⟩ := hv _ hx.mem
    have hsz : sizeLine = 2 ^ 24 := rfl
    refine wpAny_setItem_list h1 (by omega) (by omega) (by rw [List.size_toArray, h3.length]; omega) fun h' hl' hs' => ?_
    have e1 : vs.toArray.setIfInBounds ((k : Int).toNat) v = (vs.set k v).toArray := by simp
    rw [e1] at hl'
    have R := F₂.turn (pl := false) h hs' hl' (by simp) (Reps.set k h3 (r.grow g₂))
    exact hQ V O _ .next ((Ran.grow F (g₁.trans g₂)).trans R F) rfl) hd) hs

/-- xs.append(e) -/
theorem ex_append {x : Str} {np ap cp pos : Pos} {e : Expr} {l : List PV} {p : PV} (he : Ev X e ρ p) (hx : AtMut ρ x true l) (hfit : l.length ≤ sizeLine) (h : PutMut ρ x true (l ++ [p]) ρ') (hd : (x == ("__debug__" : Str)) = false := by decide)
    (hbase : attributeBase (.Name x np) "append" X.env (eval (.Name x np) X.env) = eval (.Name x np) X.env := by rfl)
    (hfew : ((backTo cp (starEach [e] X.env)).all (fun x => !x.1) && (backToKw cp (keywordEach [] X.env)).all (fun x => x.1.isSome)
      && decide ([e].length + ([] : List Keyword).length + (if ([] : List Keyword).isEmpty then 0 else 1) < 30)) = true := by rfl)
    (hline : (ap.endLine == cp.line) = true := by rfl) (hplain : (backTo cp (starEach [e] X.env)).any (·.1) = false := by rfl)
    (hse : ∃ y ys, backTo cp (starEach [e] X.env) = (false, y) :: ys := by exact ⟨_, _, rfl⟩) (hse' : starEach [e] X.env = (false, eval e X.env) :: starEach [] X.env := by rfl)
    (hint : interactive X.env = false := by rfl) (hs : swapsWith (.Call (.Attribute (.Name x np) "append" ap) [e] [] cp) none pos.line X.env = pure false := by rfl) :
    Ex1 X (.Expr (.Call (.Attribute (.Name x np) "append" ap) [e] [] cp) pos) ρ .next ρ' := fun V O s Q E F hQ => by
  refine wpAny_Expr ?_ hint hs
  refine wpAny_Call_method (T := "list") (id := "list.append") hbase hfew hline PySem.F.plainAttrs_list PySem.F.slot_list_append PySem.F.type_list_append ?_
  refine wpAny_Name (F.loadMut hx fun vs h1 h2 h3 => ⟨h1.typeIs, fun a ha => ?_, ?_⟩) hd
  · cases ha; obtain ⟨n, hn⟩ := h2 rfl; exact ⟨_, hn, rfl⟩
  · refine Calls.callWith_builtin hplain ?_
    have key := evs_cons (pos := cp) he evs_nil hse' V O s (fun us s' => wpAny X.M X.A (call (.builtin "list.append") ([.ref (O x)] ++ us) []) (fun v s' => match v with | .ref _ => False | _ => Q .next s') E s') E F fun us s₁ g₁ rs => by
      simp only [Cx.Rs, Reps] at rs
      obtain ⟨v, _, rfl, r, rfl⟩ := rs
      have F₁ := F.grow g₁
      obtain ⟨m, hn, hv⟩ := F₁.vars
      obtain ⟨_, _, vs, h1, h2, h3⟩ := hv _ hx.mem
      refine wpAny_list_append_plain (h2 rfl) (fun h' hp' hs' => ?_) (by rw [List.size_toArray, h3.length]; exact hfit)
      have e1 : vs.toArray.push v = (vs ++ [v]).toArray := by simp
      rw [e1] at hp'
      have R := F₁.turn (pl := true) h hs' hp'.isList (fun _ => hp') (h3.append (.one r))
      exact hQ V O _ .next ((Ran.grow F g₁).trans R F) rfl
    obtain ⟨y, ys, hy⟩ := hse
    rw [hy] at key ⊢
    exact Calls.evalArgs_plain key

/-! fresh lists -/
theorem new_reps {V : Addr → Prop} {s s₁ : Shared} {h : Heap} {ps : List PV} {vs : List Value} (rs : Reps X.C V s₁.heap ps vs) (k : ∀ b o, s₁.heap.get? b = some o → h.get? b = some o) (a : Addr) (ha : s₁.heap.get? a = none) (hs : s = s₁) : Reps X.C (VW V [a]) h ps vs :=
  Reps.mono (fun b o nb e => ⟨fun hm => hm.elim nb (fun hm => by rw [List.mem_singleton.mp hm, ha] at e; cases e), k b o e⟩) ps rs
theorem evn_ladd {l r : Expr} {pos : Pos} {a b : List PV} (hl : Ev X l ρ (.list a)) (hr : Ev X r ρ (.list b)) (hsz : a.length + b.length ≤ sizeLine) : EvNew X (.BinOp l .Add r pos) ρ (a ++ b) := fun V O s Q E F hQ =>
  wpAny_BinOp (hl V O s _ E F fun u s₁ g₁ ru => hr V O s₁ _ E (F.grow g₁) fun v s₂ g₂ rv => by
    obtain ⟨c, vs, rfl, _, hlc, rs⟩ := rep_list (ru.grow g₂)
    obtain ⟨d, ws, rfl, _, hld, rs'⟩ := rep_list rv
    obtain ⟨⟨cls, dd, data, sl⟩, ho, hc, n, hd⟩ := id hlc
    obtain ⟨⟨cls2, dd2, data2, sl2⟩, ho2, hc2, n2, hd2⟩ := id hld
    simp only at hc hd hc2 hd2
    subst hc hd hc2 hd2
    have e : vs.toArray ++ ws.toArray = (vs ++ ws).toArray := by simp
    refine concat_meets ⟨_, ho, rfl⟩ ⟨_, ho2, rfl⟩ noFill_list_add seq_list_add PySem.F.slot_list_add PySem.F.entry_list_add (PySem.F.args_list_add_2 _ _) (list_addW c d vs.toArray ws.toArray n n2 dd dd2 sl sl2 (by simp only [List.size_toArray, rs.length, rs'.length]; exact hsz)) ⟨ho, ho2, ?_⟩
    rw [e]
    exact hQ _ (vs ++ ws) _ ((g₁.trans g₂).trans .push) (fresh_size (g₁.trans g₂).keep) ⟨_, Heap.get?_push_size _ rfl⟩ (new_reps (s := s₂) (rs.append rs') (fun b o e => Heap.get?_push_of_some _ e) _ (fresh_size (s := s₂) (fun _ _ e => e)) rfl))
/-- [c] * n -/
theorem evl_mul {l r : Expr} {pos : Pos} {elts : List Expr} {lp : Pos} {p : PV} {n : Int} {Q : Value → Shared → Prop} {E : Value → Shared → Prop} {V O s} (hl : Evs X lp elts ρ [p]) (hr : Ev X r ρ (.int n)) (hlo : -(2 ^ 63) ≤ n) (hhi : n.toNat ≤ sizeLine) (F : X.F V O ρ s)
    (hQ : ∀ a vs s', Grow s s' → s.heap.get? a = none → s'.heap.PlainList a vs.toArray → Reps X.C (VW V [a]) s'.heap (List.replicate n.toNat p) vs → Q (.ref a) s') : wpAny X.M X.A (eval (.BinOp (.List elts lp) .Mult r pos) X.env) Q E s :=
  wpAny_BinOp (List_ (hl V O s _ E F fun us s₁ g₁ rs => by
    simp only [Cx.Rs, Reps] at rs
    obtain ⟨u, _, rfl, ru, rfl⟩ := rs
    refine wpAny_newObj_type ?_ (by show 1 ≤ sizeLine; decide)
    have g₂ : Grow s₁ { s₁ with heap := s₁.heap.push { cls := .type "list", data := .seq [u].toArray } } := .push
    refine hr V O _ _ E ((F.grow g₁).grow g₂) fun w s₃ g₃ rw' => ?_
    obtain ⟨t, rfl⟩ := rw'
    have hl₃ : s₃.heap.get? s₁.heap.objs.size = some { cls := .type "list", dict := none, data := .seq [u].toArray 0, slots := #[] } := g₃.keep _ _ (Heap.get?_push_size _ rfl)
    have hsz : sizeLine = 2 ^ 24 := rfl
    have h63 : n < 2 ^ 63 := by omega
    refine wpAny_binaryOp_repeat_ref (T := "list") (U := "int") (by decide) ⟨_, hl₃, rfl⟩ (fun s' => typeIs_int s' n t) noFill_list_mul PySem.F.fills_int_mul PySem.F.slot_int_rmul repeat_list PySem.F.slot_int_index.lookup
      (call_meets PySem.F.slot_int_rmul (typeIs_int s₃ n t) PySem.F.entry_int_rmul (PySem.F.args_int_rmul_2 _ _) (int___rmul___int_list n t s₁.heap.objs.size [u].toArray 0)
        ⟨hl₃, rfl, ⟨_, hl₃, rfl⟩, call_meets PySem.F.slot_list_mul ⟨_, hl₃, rfl⟩ PySem.F.entry_list_mul (PySem.F.args_list_mul_2 _ _)
          (AutoListH.list___mul___list_int_3 s₁.heap.objs.size [u].toArray 0 n t (by simp [Builtin.List.listFitsIndex]; omega) (by show ¬ (1 * n.toNat > (2 ^ 63 - 1) / 8); omega) (by simp [Builtin.List.listTooLong]; omega))
          ⟨hl₃, ?_⟩⟩)
    have e1 : (List.foldl (fun x1 x2 => x1 ++ x2) #[] (List.replicate (if ([u].toArray).isEmpty = true then 0 else n.toNat) [u].toArray)) = (List.replicate n.toNat u).toArray := by
      have e0 : (if ([u].toArray).isEmpty = true then 0 else n.toNat) = n.toNat := by simp
      rw [e0]
      have key : ∀ (k : Nat) (acc : Array Value), List.foldl (fun x1 x2 => x1 ++ x2) acc (List.replicate k [u].toArray) = acc ++ (List.replicate k u).toArray := by
        intro k
        induction k with
        | zero => intro acc; simp
        | succ k ih => intro acc; rw [List.replicate_succ, List.foldl_cons, ih, List.replicate_succ, Array.append_assoc]; apply Array.ext'; simp [Array.toList_append]
      rw [key]; simp
    rw [e1]
    have g := (g₁.trans g₂).trans g₃
    have rr : ∀ k, Reps X.C V s₃.heap (List.replicate k p) (List.replicate k u) := fun k => by
      induction k with
      | zero => simp [Reps]
      | succ k ih => rw [List.replicate_succ, List.replicate_succ]; exact .cons ((ru.grow g₂).grow g₃) ih
    exact hQ _ (List.replicate n.toNat u) _ (g.trans .push) (fresh_size g.keep) ⟨_, Heap.get?_push_size _ rfl⟩ (new_reps (s := s₃) (rr _) (fun b o e => Heap.get?_push_of_some _ e) _ (fresh_size (s := s₃) (fun _ _ e => e)) rfl)))
theorem evn_mul {r : Expr} {pos : Pos} {elts : List Expr} {lp : Pos} {p : PV} {n : Int} (hl : Evs X lp elts ρ [p]) (hr : Ev X r ρ (.int n)) (hlo : -(2 ^ 63) ≤ n) (hhi : n.toNat ≤ sizeLine) : EvNew X (.BinOp (.List elts lp) .Mult r pos) ρ (List.replicate n.toNat p) := fun V O s Q E F hQ => evl_mul (l := r) hl hr hlo hhi F hQ
/-- a fresh list is plain data too -/
theorem EvNew.ev {e : Expr} {l : List PV} (h : EvNew X e ρ l) : Ev X e ρ (.list l) := fun V O s Q E F hQ => h V O s Q E F fun a vs s' g ha hp rs => hQ _ s' g (by
  show Rep _ _ _ _ _
  simp only [Rep]
  exact ⟨a, vs, rfl, (fun hV => by obtain ⟨o, e⟩ := F.vol.live a hV; rw [ha] at e; cases e), hp.isList, Reps.mono (fun b o nb e => ⟨fun hb => nb (.inl hb), e⟩) l rs⟩)
end
end PL
end
noncomputable section
open PySem PySem.W PyProof.Rows PySem.Builtin.Str
set_option Elab.async false
set_option linter.unusedVariables false
set_option maxRecDepth 100000
namespace PL

/-- what the law's text leaves in the module -/
structure Pgm (X : Cx) (mg mb' : Str → Option Value) : Prop extends Gw X mg mb' where
  m_sub : mg "_substitution_cost" = some (.ref 28)
  m_lev : mg "_levenshtein_distance" = some (.ref 35)
  m_coll : mg "_strcoll" = some (.ref 42)
  m_xfrm : mg "_strxfrm" = some (.ref 49)
  m_group : mg "_grouping_intervals" = some (.ref 56)
  m_ws : mg "Whitespace" = some (.ref 118)
  m_ruler : mg "_law_ruler" = some (.ref 127)
  m_turns : mg "_law_turns" = some (.ref 134)
  m_refused : mg "_law_refused" = some (.ref 141)
  m_column : mg "_law_column" = some (.ref 148)
  m_columns : mg "_law_columns" = some (.ref 153)
  m_unseen : mg "_law_unseen" = some (.ref 160)
  m_places : mg "_law_places" = some (.ref 165)
  m_max : mg "_MAX_STRING_SIZE" = some (.int 40 196)
  m_move : mg "_MOVE_COST" = some (.int 2 198)
  m_case : mg "_CASE_COST" = some (.int 1 200)
  m_char : mg "CHAR_MAX" = some (.int 127 247)
  f_sub : FnAt X.base 28 (mb 5)
  f_lev : FnAt X.base 35 (mb 6)
  f_coll : FnAt X.base 42 (mb 8)
  f_xfrm : FnAt X.base 49 (mb 9)
  f_group : FnAt X.base 56 (mb 11)
  f_ruler : FnAt X.base 127 (mb 15)
  f_turns : FnAt X.base 134 (mb 16)
  f_refused : FnAt X.base 141 (mb 17)
  f_column : FnAt X.base 148 (mb 18)
  f_columns : FnAt X.base 153 (mb 19)
  f_unseen : FnAt X.base 160 (mb 20)
  f_places : FnAt X.base 165 (mb 21)
  f_law : FnAt X.base 170 (mb 22)
  n_len : mg "len" = none
  n_range : mg "range" = none
  n_list : mg "list" = none
  n_min : mg "min" = none
  n_maxb : mg "max" = none
  n_sorted : mg "sorted" = none
  n_zip : mg "zip" = none
  n_chr : mg "chr" = none
  n_str : mg "str" = none
  n_tuple : mg "tuple" = none
  n_verr : mg "ValueError" = none
  b_len : mb' "len" = some (.builtin "len")
  b_range : mb' "range" = some (.type "range")
  b_list : mb' "list" = some (.type "list")
  b_min : mb' "min" = some (.builtin "min")
  b_max : mb' "max" = some (.builtin "max")
  b_sorted : mb' "sorted" = some (.builtin "sorted")
  b_zip : mb' "zip" = some (.type "zip")
  b_chr : mb' "chr" = some (.builtin "chr")
  b_str : mb' "str" = some (.type "str")
  b_tuple : mb' "tuple" = some (.type "tuple")
  b_verr : mb' "ValueError" = some (.type "ValueError")

theorem FnS.at {X : Cx} {f : Addr} {ps : List PV} {r : PV} {n : Nat} (h : FnS X f ps r n) {A : Around} {env : Env} : FnS { X with A := A, env := env } f ps r n := ⟨h.obj, h.run⟩
/-- parts of a statement of the text -/
noncomputable def stm (ss : List Stmt) (i : Nat) : Stmt := ss.getD i (.Pass default)
noncomputable def ftgt : Stmt → Expr
  | .For t _ _ _ _ => t
  | _ => .Constant .none 0 default
noncomputable def fbod : Stmt → List Stmt
  | .For _ _ b _ _ => b
  | .While _ b _ _ => b
  | _ => []
theorem Put.notName {ρ ρ' : Vars} {x : Str} {p : PV} (h : Put ρ x p ρ') : x ∈ ρ.map (·.1) := by
  induction h with
  | there _ ih => exact List.mem_cons_of_mem _ ih
  | _ => exact List.mem_cons_self ..
/-- values forgotten -/
inductive Weak : Vars → Vars → Prop
  | nil : Weak [] []
  | same {e r r'} : Weak r r' → Weak (e :: r) (e :: r')
  | drop {x p r r'} : Weak r r' → Weak ((x, .loc, .val p) :: r) ((x, .loc, .no) :: r')
  | dropC {x c p r r'} : Weak r r' → Weak ((x, .cell c, .val p) :: r) ((x, .cell c, .no) :: r')
section
variable {X : Cx} {ρ ρ' ρ'' : Vars} {mg mb' : Str → Option Value}
theorem Weak.refl : ∀ r : Vars, Weak r r
  | [] => .nil
  | _ :: r => .same (Weak.refl r)
theorem Weak.keys (h : Weak ρ ρ') : ρ'.map (·.1) = ρ.map (·.1) := by
  induction h with
  | nil => rfl
  | same _ ih => simp [ih]
  | drop _ ih => simp [ih]
  | dropC _ ih => simp [ih]
theorem Weak.owned (h : Weak ρ ρ') (O : Str → Addr) : ρ'.filterMap (ownOf O) = ρ.filterMap (ownOf O) := by
  induction h with
  | nil => rfl
  | same _ ih => simp [List.filterMap_cons, ih]
  | drop _ ih => simpa [List.filterMap_cons, ownOf] using ih
  | dropC _ ih => simp [List.filterMap_cons, ownOf, ih]
theorem Weak.mem (h : Weak ρ ρ') : ∀ e ∈ ρ', e ∈ ρ ∨ ∃ x p, (e = (x, VK.loc, VV.no) ∧ (x, VK.loc, VV.val p) ∈ ρ) ∨ ∃ c, e = (x, VK.cell c, VV.no) ∧ (x, VK.cell c, VV.val p) ∈ ρ := by
  have up : ∀ {f e : Str × VK × VV} {r : Vars}, (e ∈ r ∨ ∃ x p, (e = (x, VK.loc, VV.no) ∧ (x, VK.loc, VV.val p) ∈ r) ∨ ∃ c, e = (x, VK.cell c, VV.no) ∧ (x, VK.cell c, VV.val p) ∈ r) →
      (e ∈ f :: r ∨ ∃ x p, (e = (x, VK.loc, VV.no) ∧ (x, VK.loc, VV.val p) ∈ f :: r) ∨ ∃ c, e = (x, VK.cell c, VV.no) ∧ (x, VK.cell c, VV.val p) ∈ f :: r) := fun h => by
    rcases h with h | ⟨x, p, ⟨h1, h2⟩ | ⟨c, h1, h2⟩⟩
    · exact .inl (List.mem_cons_of_mem _ h)
    · exact .inr ⟨x, p, .inl ⟨h1, List.mem_cons_of_mem _ h2⟩⟩
    · exact .inr ⟨x, p, .inr ⟨c, h1, List.mem_cons_of_mem _ h2⟩⟩
  induction h with
  | nil => intro e he; cases he
  | same _ ih =>
    intro e he
    rcases List.mem_cons.mp he with h | h
    · exact .inl (h ▸ List.mem_cons_self ..)
    · exact up (ih e h)
  | drop _ ih =>
    intro e he
    rcases List.mem_cons.mp he with h | h
    · exact .inr ⟨_, _, .inl ⟨h, List.mem_cons_self ..⟩⟩
    · exact up (ih e h)
  | dropC _ ih =>
    intro e he
    rcases List.mem_cons.mp he with h | h
    · exact .inr ⟨_, _, .inr ⟨_, h, List.mem_cons_self ..⟩⟩
    · exact up (ih e h)
theorem Frm.weak {V O s} (F : X.F V O ρ s) (h : Weak ρ ρ') : X.F V O ρ' s := by
  have hoo : PL.owned X.env O ρ' = PL.owned X.env O ρ := by unfold PL.owned; rw [h.owned O]
  obtain ⟨m, hn, hv⟩ := F.vars
  refine ⟨F.vol, F.kind, ⟨m, hn, fun e he => ?_⟩, fun b hb => F.own b (hoo ▸ hb), hoo ▸ F.nodup, h.keys ▸ F.names, fun x c q hm => ?_⟩
  · rcases h.mem e he with hin | ⟨x, p, ⟨rfl, hin⟩ | ⟨c, rfl, hin⟩⟩
    · exact hv e hin
    · exact (hv _ hin).1
    · obtain ⟨h1, h2, v0, h3, _⟩ := hv _ hin
      exact ⟨h1, h2, v0, h3, fun p hp => by cases hp⟩
  · rcases h.mem _ hm with hin | ⟨y, p, ⟨e, _⟩ | ⟨_, e, _⟩⟩
    · exact hoo ▸ F.free x c q hin
    · cases e
    · cases e
theorem exs_weak {ss : List Stmt} {fl : PF} (he : Exs X ss ρ fl ρ') (h : Weak ρ' ρ'') : Exs X ss ρ fl ρ'' := fun V O s Q E F hQ =>
  he V O s Q E F fun V' O' s' f R hf => by
    have hoo : PL.owned X.env O' ρ'' = PL.owned X.env O' ρ' := by unfold PL.owned; rw [h.owned O']
    exact hQ V' O' s' f ⟨R.frm.weak h, R.vext, hoo ▸ R.fresh, R.step, fun x c q hm => by
      rcases h.mem _ hm with hin | ⟨y, p, ⟨e, _⟩ | ⟨_, e, _⟩⟩
      · exact R.frees x c q hin
      · cases e
      · cases e⟩ hf
theorem exs_done (h : Weak ρ ρ') : Exs X [] ρ .next ρ' := exs_weak exs_nil h
theorem exs_pre {ss : List Stmt} {fl : PF} (h : Weak ρ ρ') (he : Exs X ss ρ' fl ρ'') : Exs X ss ρ fl ρ'' := fun V O s Q E F hQ =>
  he V O s Q E (F.weak h) fun V' O' s' f R hf => by
    have hoo : PL.owned X.env O ρ' = PL.owned X.env O ρ := by unfold PL.owned; rw [h.owned O]
    exact hQ V' O' s' f ⟨R.frm, hoo ▸ R.vext, hoo ▸ R.fresh, hoo ▸ R.step, fun x c q hm => by
      obtain ⟨q', h'⟩ := R.frees x c q hm
      rcases h.mem _ h' with hin | ⟨y, p, ⟨e, _⟩ | ⟨_, e, _⟩⟩
      · exact ⟨q', hin⟩
      · cases e
      · cases e⟩ hf
theorem rt_pre {ss : List Stmt} {p : PV} (h : Weak ρ ρ') (he : Rt X ss ρ' p) : Rt X ss ρ p := let ⟨_, r⟩ := he; ⟨_, exs_pre h r⟩

theorem reps_of_get {C V h} : ∀ {ps : List PV} {vs : List Value}, vs.length = ps.length → (∀ (i : Nat) (p : PV) (v : Value), ps[i]? = some p → vs[i]? = some v → Rep C V h p v) → Reps C V h ps vs
  | [], vs, hl, _ => by simp only [Reps]; exact List.eq_nil_of_length_eq_zero hl
  | p :: ps, [], hl, _ => by simp at hl
  | p :: ps, v :: vs, hl, hr => by
    simp only [Reps]
    exact ⟨v, vs, rfl, hr 0 p v rfl rfl, reps_of_get (by simpa using hl) fun i q u h1 h2 => hr (i + 1) q u (by simpa using h1) (by simpa using h2)⟩
theorem rng_length (a c : Int) (n : Nat) : (rng a c n).length = n := by simp [rng]

/-- list(range(a, b, 2)) -/
theorem evn_listrange (hh : X.A.handled = none) {x y : Str} {p pos p' pos' : Pos} {e1 e2 e3 : Expr} {a b c : Int} {n : Nat} (hfl : EvV X (.Name x p) ρ (.type "list")) (hfr : EvV X (.Name y p') ρ (.type "range"))
    (h1 : Ev X e1 ρ (.int a)) (h2 : Ev X e2 ρ (.int b)) (h3 : Ev X e3 ρ (.int c)) (hc : c ≠ 0) (hp : Builtin.divisionGoesByPylong (b - a) c = false) (hs : Builtin.Range.small a b c = true) (hn : Builtin.Range.rangeSize a b c = (n : Int)) (hlen : n ≤ 2 ^ 24)
    (hplain : (backTo pos' (starEach [e1, e2, e3] X.env)).any (·.1) = false := by rfl) (hse : ∃ y ys, backTo pos' (starEach [e1, e2, e3] X.env) = (false, y) :: ys := by exact ⟨_, _, rfl⟩)
    (s1 : starEach [e1, e2, e3] X.env = (false, eval e1 X.env) :: starEach [e2, e3] X.env := by rfl) (s2 : starEach [e2, e3] X.env = (false, eval e2 X.env) :: starEach [e3] X.env := by rfl) (s3 : starEach [e3] X.env = (false, eval e3 X.env) :: starEach [] X.env := by rfl)
    (hplain' : (backTo pos (starEach [.Call (.Name y p') [e1, e2, e3] [] pos'] X.env)).any (·.1) = false := by rfl)
    (hse' : backTo pos (starEach [.Call (.Name y p') [e1, e2, e3] [] pos'] X.env) = [(false, eval (.Call (.Name y p') [e1, e2, e3] [] pos') X.env)] := by rfl) : EvNew X (.Call (.Name x p) [.Call (.Name y p') [e1, e2, e3] [] pos'] [] pos) ρ (rng a c n) := fun V O s Q E F hQ => by
  rw [arm_eval_Call_Name']
  refine wpAny_bind (hfl V O s _ E F ?_)
  refine PyProof.Rows.callWith_type hplain' ?_
  rw [hse']
  refine Calls.evalArgs_plain (Calls.spliced_cons ?_)
  refine evs_type F hfr (evs_cons h1 (evs_cons h2 (evs_cons h3 evs_nil s3) s2) s1) (fun vs s₁ g₁ rs => ?_) hplain hse
  simp only [Cx.Rs, Reps] at rs
  obtain ⟨v, _, rfl, ⟨t, rfl⟩, v', _, rfl, ⟨t', rfl⟩, v'', _, rfl, ⟨t'', rfl⟩, rfl⟩ := rs
  refine call_range_3 hc ?_ (.inl hp)
  refine Calls.spliced_nil ?_
  have g₂ : Grow s₁ { s₁ with heap := s₁.heap.push { cls := .type "range", data := .fields #[.int a t, .int b t', .int c t''] } } := .push
  refine call_list_range (n := n) hh (Heap.get?_push_size _ rfl) hs hn hlen fun h' tk acc' c' hk hl hit => ?_
  have e0 : acc' = acc'.toList.toArray := by simp
  have g₃ : Grow s₁ { s₁ with heap := h', toks := tk } := ⟨fun b o e => hk b o (Heap.get?_push_of_some _ e), rfl, .refl _⟩
  refine hQ _ acc'.toList _ (g₁.trans g₃) (fresh_size fun b o e => Heap.get?_push_of_some _ (g₁.keep b o e)) ⟨c', by rw [← e0]; exact hl⟩ (reps_of_get (by rw [rng_length, Array.length_toList]; exact hit.1) fun i p v h1 h2 => ?_)
  obtain ⟨u, rfl⟩ := hit.2 i v (by simpa using h2)
  rw [(rng_get h1).2]; exact mk_int
end
end PL
end
noncomputable section
open PySem PySem.W PyProof.Rows PySem.Builtin.Str
set_option Elab.async false
set_option linter.unusedVariables false
set_option maxRecDepth 100000
set_option pp.maxSteps 600
namespace PL
section
variable {X : Cx} {ρ ρ' ρ'' : Vars} {mg mb' : Str → Option Value}

/-! a text walked -/
noncomputable def sgn (l : List Nat) : List PV := l.map fun c => .str (T [c])
theorem str_yields {I : Addr} {ty : String} {l : List Nat} {t : Tok} (W : Walks X.prog X.w X.A I [I] [I] (T l).cps.size (SignAt (T l)) (fun i h => h.IsStrIter I ty (T l) t i)) :
    Yields X (.ref I) [I] [] (fun i => (sgn l)[i]?) (fun V i s => (i ≤ l.length ∧ s.heap.IsStrIter I ty (T l) t i) ∧ True) := by
  have hn : (T l).cps.size = l.length := by simp
  rw [hn] at W
  have W' : Walks X.prog X.w X.A I [I] [I] l.length (SignAt (T l)) (fun i h => i ≤ l.length ∧ h.IsStrIter I ty (T l) t i) :=
    ⟨W.sub, fun i h h' st hk => ⟨st.1, W.frame i h h' st.2 hk⟩, fun i s Q E hi st hQ => W.item i s Q E hi st.2 fun v h' tk hP hst hk => hQ v h' tk hP ⟨hi, hst⟩ hk, fun s Q E st hQ => W.done s Q E st.2 hQ, fun i s Q E st hQ => W.self i s Q E st.2 hQ⟩
  refine Yields.of W' _ (fun i p h => ?_) (fun i h => ?_) (fun _ _ => True) (fun i h st => st.1) (fun V i h _ st b hb => .inl hb) (fun i h st b hb => ?_) (fun _ _ _ _ _ _ => trivial) (fun V h i p v _ hp hP => ?_)
  · have := (List.getElem?_eq_some_iff.mp h).1; simpa [sgn] using this
  · have := List.getElem?_eq_none_iff.mp h; simpa [sgn] using this
  · rw [List.mem_singleton.mp hb]; obtain ⟨o, e, _⟩ := st.2; exact ⟨o, e⟩
  · obtain ⟨c, u, hc, rfl⟩ := hP
    have hc' : l[i]? = some c := by simpa using hc
    unfold sgn at hp
    rw [List.getElem?_map, hc'] at hp
    cases hp
    exact mk_str
theorem it_str (hh : X.A.handled = none) {e : Expr} {l : List Nat} (he : Ev X e ρ (.str (T l))) : IterTo X e ρ (fun i => (sgn l)[i]?) := fun V O s Q E F hQ => by
  refine he V O s _ E F fun v s₁ g₁ r => ?_
  obtain ⟨t, rfl⟩ := r
  have fin : ∀ (ty : String), Walks X.prog X.w X.A s₁.heap.objs.size [s₁.heap.objs.size] [s₁.heap.objs.size] (T l).cps.size (SignAt (T l)) (fun i h => h.IsStrIter s₁.heap.objs.size ty (T l) t i) → Q (.ref s₁.heap.objs.size) { s₁ with heap := s₁.heap.push { cls := .type ty, data := .fields #[.str (T l) t, .int 0 0] } } := fun ty W =>
    hQ _ _ _ _ _ (g₁.trans .push) (str_yields W) (fun b hb => by rw [List.mem_singleton.mp hb]; exact fresh_size g₁.keep) (by simp) ⟨⟨Nat.zero_le _, ⟨_, Heap.get?_push_size _ rfl, rfl, rfl⟩⟩, trivial⟩
  cases ha : (T l).cps.all (· < 128)
  · exact wpAny_pyIter_wide ha (fin _ (Walks.strWide hh _ (T l) t))
  · exact wpAny_pyIter_ascii ha (fin _ (Walks.strAscii hh _ (T l) t))
end
end PL
end
noncomputable section
open PySem PySem.W PyProof.Rows
set_option Elab.async false
set_option linter.unusedVariables false
set_option maxRecDepth 100000
set_option pp.maxSteps 600
namespace PL
theorem fun_cls : True := trivial

/-- a call of a text's function, the body by hand -/
theorem fn_raw {X : Cx} {f : Addr} {o : Obj} {fd : FuncData} {body : List Stmt} {xs : List Str} {ps : List PV} {n : Nat} (ρ₀ : Addr → Vars)
    (ho : X.base.get? f = some o) (hdata : o.data = .func fd) (hlim : X.base.NoLimit) (hcd : X.base.CodeRec fd.code fd.qualname) (hbody : fd.body = .stmts body) (hclo : fd.closure = [])
    (hbind : ∀ vs : List Value, vs.length = ps.length → bindArgs fd ⟨vs, []⟩ = pure (xs.zip vs)) (hxs : xs.Nodup)
    (hkind : ∀ L x, x ∈ xs → fd.scope.names.lookup x = some .local ∨ (fd.scope.names.lookup x = some .cell ∧ ((cellsFrom (L + 1) fd.scope.names []).lookup x).isSome = true))
    (hini : ∀ L, Ini (callEnvC fd L f).kindOf (callEnvC fd L f).cells xs ps (ρ₀ L)) (hnd : ∀ L O, (owned (callEnvC fd L f) O (ρ₀ L)).Nodup) (hnames : ∀ L, ((ρ₀ L).map (·.1)).Nodup)
    {A : Around} (hA : Room A (n + 1)) {V : Addr → Prop} {s : Shared} {vs : List Value} {Q : Value → Shared → Prop} {E : Value → Shared → Prop} (vol : Vol X.base V s) (rs : Reps X.C V s.heap ps vs)
    (hrun : ∀ (L : Addr) V₁ O s₁ (E' : Value → Shared → Prop), Room (A.deeper (callEnvC fd L f)) n → Frm X.C X.base (callEnvC fd L f) V₁ O (ρ₀ L) s₁ → Grow s s₁ → (∀ b, V₁ b → V b ∨ s.heap.get? b = none) → (∀ b, V b → V₁ b) →
      (∀ b ∈ owned (callEnvC fd L f) O (ρ₀ L), s.heap.get? b = none) → wpAny X.M (A.deeper (callEnvC fd L f)) (execs body (callEnvC fd L f)) (fun fl s' => Q (match fl with | .ret v => v | _ => .none) s') E' s₁)
    (hco : fd.scope.isCoroutine = false := by rfl) (hgen : fd.scope.isGenerator = false := by rfl) (hk : fd.scope.kind = .function := by rfl) : wpAny X.M A (call (.ref f) vs) Q E s := by
  refine wpAny_call (codeAny_call_cells (by have := hA.depth; omega) (vol.keep _ _ ho) hdata (hlim.keeps vol.keep) (hcd.keeps vol.keep) hbody (hbind vs rs.length) hclo (fun x hx => ?_) (fun s₁ I => ?_) hco hgen hk)
  · obtain ⟨y, v⟩ := x
    exact hkind _ _ (List.of_mem_zip hx).1
  · have hex := hrun s.heap.objs.size
    have hR := hA.deeper (callEnvC fd s.heap.objs.size f)
    generalize henv : callEnvC fd s.heap.objs.size f = env at I hex hR ⊢
    have hL : env.locals = s.heap.objs.size := by rw [← henv]; rfl
    let O : Str → Addr := fun _ => 0
    have hI : Ini env.kindOf env.cells xs ps (ρ₀ s.heap.objs.size) := henv ▸ hini _
    have dead : ∀ b ∈ owned env O (ρ₀ s.heap.objs.size), s.heap.get? b = none := fun b hb => by
      have hge : s.heap.objs.size ≤ b := by
        rcases List.mem_cons.mp hb with rfl | hb
        · rw [hL]; exact Nat.le_refl _
        · obtain ⟨m, hm⟩ := hI.cellsIn.1 b hb
          have := I.above m b (mem_of_lookup hm)
          rw [hL] at this; exact Nat.le_of_lt this
      cases e : s.heap.get? b with
      | none => rfl
      | some o' => exact absurd (Heap.lt_size e) (Nat.not_lt.mpr hge)
    have live : ∀ b ∈ owned env O (ρ₀ s.heap.objs.size), ∃ o, s₁.heap.get? b = some o := fun b hb => by
      rcases List.mem_cons.mp hb with rfl | hb
      · obtain ⟨o', _, _, e, _⟩ := I.toInCall.ns; exact ⟨o', e⟩
      · obtain ⟨m, hm⟩ := hI.cellsIn.1 b hb
        obtain ⟨o', e, _⟩ := I.cell m b hm; exact ⟨o', e⟩
    obtain ⟨h₁, tk₁, hs₁⟩ := I.toInCall.same
    have g : Grow s s₁ := ⟨I.toInCall.keep, by rw [hs₁], by rw [hs₁]; exact .refl _⟩
    have vol₁ : Vol X.base (VW V (owned env O (ρ₀ s.heap.objs.size))) s₁ := (vol.grow g).widen live fun b hb => by
      cases e : X.base.get? b with
      | none => rfl
      | some o' => have := vol.keep b o' e; rw [dead b hb] at this; cases this
    have hup : ∀ b o, ¬ V b → s.heap.get? b = some o → ¬ VW V (owned env O (ρ₀ s.heap.objs.size)) b ∧ s₁.heap.get? b = some o := fun b o nb e => ⟨fun h => h.elim nb (fun h => by rw [dead b h] at e; cases e), I.toInCall.keep b o e⟩
    have F : Frm X.C X.base env (VW V (owned env O (ρ₀ s.heap.objs.size))) O (ρ₀ s.heap.objs.size) s₁ :=
      ⟨vol₁, by rw [← henv]; exact hk, ⟨_, I.toInCall.ns, Ini.vars hI (Reps.mono hup ps rs) (fun x v hx => zip_binds hxs x v hx) I.cell⟩, fun b hb => .inr hb, by rw [← henv]; exact hnd _ _, hnames _, fun x c q hm => absurd hm ((hI.cellsIn (O := O)).2 x c q)⟩
    exact hex _ O s₁ _ hR F g (fun b h => h.elim .inl fun h => .inr (dead b h)) (fun b h => .inl h) dead

/-- the class Whitespace as loaded -/
structure Wsp (X : Cx) (mN : Str → Option Value) : Prop where
  cls : ClsAt X.base X.C 117 mN
  i_init : mN "__init__" = some (.ref 73)
  i_run : mN "longest_run_of_spaces" = some (.ref 80)
  i_lev : mN "indent_level" = some (.ref 87)
  i_less : mN "less" = some (.ref 108)
  i_wit : mN "not_less_witness" = some (.ref 115)
  n_ga : mN "__getattribute__" = none
  n_gat : mN "__getattr__" = none
  n_set : mN "__setattr__" = none
  n_raw : mN "raw" = none
  n_n : mN "n" = none
  n_nt : mN "nt" = none
  n_norm : mN "norm" = none
  n_simple : mN "is_simple" = none
  f_init : FnAt X.base 73 (cm 13 1)
  f_run : FnAt X.base 80 (cm 13 2)
  f_lev : FnAt X.base 87 (cm 13 3)
  f_less : FnAt X.base 108 (cm 13 6)
  f_wit : FnAt X.base 115 (cm 13 7)
  k_init : ∃ o, X.base.get? 73 = some o ∧ o.cls = .type "function"
  k_run : ∃ o, X.base.get? 80 = some o ∧ o.cls = .type "function"
  k_lev : ∃ o, X.base.get? 87 = some o ∧ o.cls = .type "function"
  k_less : ∃ o, X.base.get? 108 = some o ∧ o.cls = .type "function"
  k_wit : ∃ o, X.base.get? 115 = some o ∧ o.cls = .type "function"
  m_S : ∀ A s (Q : Value → Shared → Prop) (E : Value → Shared → Prop) ex, (∀ b o, X.base.get? b = some o → s.heap.get? b = some o) → (∀ t, Q (.str " " t) { s with toks := s.toks + 1 }) → wpAny X.M A (getAttr (.ref X.C) "S" ex) Q E s
  m_T : ∀ A s (Q : Value → Shared → Prop) (E : Value → Shared → Prop) ex, (∀ b o, X.base.get? b = some o → s.heap.get? b = some o) → (∀ t, Q (.str "\t" t) { s with toks := s.toks + 1 }) → wpAny X.M A (getAttr (.ref X.C) "T" ex) Q E s

theorem Wsp.at {X : Cx} {mN : Str → Option Value} (h : Wsp X mN) {A : Around} {env : Env} : Wsp { X with A := A, env := env } mN := ⟨h.cls, h.i_init, h.i_run, h.i_lev, h.i_less, h.i_wit, h.n_ga, h.n_gat, h.n_set, h.n_raw, h.n_n, h.n_nt, h.n_norm, h.n_simple, h.f_init, h.f_run, h.f_lev, h.f_less, h.f_wit, h.k_init, h.k_run, h.k_lev, h.k_less, h.k_wit, h.m_S, h.m_T⟩
section
variable {X : Cx} {ρ ρ' ρ'' : Vars} {mg mb' mN : Str → Option Value}

theorem inst_of {h : Heap} {a C d : Addr} {m : Str → Option Value} (I : InstD h a C d) (hn : h.Ns1 d m) : h.Inst a C m := by
  obtain ⟨o, ho, hc, hnc, hd, hne⟩ := I
  exact ⟨o, ho, hc, hnc, .inr ⟨d, hd, hne, hn⟩⟩

noncomputable abbrev AttrNode (X : Cx) (e : Expr) (name : Str) (pos : Pos) : Prop := eval (.Attribute e name pos) X.env = (do
      let o ← eval e X.env
      standAt pos.atName
      let r ← holding [o] (getAttr o name true)
      letTemporaryGo e o r
      pure r)
/-- an attribute of an object of a class read -/
theorem ev_inst (K : Wsp X mN) {e : Expr} {name : Str} {pos : Pos} {p q : PV} (he : Ev X e ρ q) (hna : mN name = none) (hB : typeLookup (.type "object") name = pure none)
    (hread : ∀ V h u, Rep X.C V h q u → ∃ a d m v, u = .ref a ∧ InstD h a X.C d ∧ h.Ns1 d m ∧ m name = some v ∧ handedIn v = true ∧ Rep X.C V h p v) (hnode : AttrNode X e name pos) : Ev X (.Attribute e name pos) ρ p := fun V O s Q E F hQ =>
  Attribute_any_ (he V O s _ E F fun u s₁ g r => by
    obtain ⟨a, d, m, v, rfl, I, hn, hv, hh, rp⟩ := hread _ _ _ r
    obtain ⟨h, gs, dr, t, os⟩ := s₁
    have KC := K.cls.keeps (F.grow g).vol.keep
    obtain ⟨nm, q', bs, sn, sub, col, dd, k0, k1, k2, k3, k5, hC⟩ := KC.obj
    exact load_attr hC KC.ns K.n_ga hna hB (inst_of I hn) hv (handedOut_of hh) (hQ v _ (g.trans .toks) rp)) hnode
theorem ob_n : typeLookup (.type "object") "n" = pure none := by rw [typeLookup_type, builtinLookup_eq_fast]; kernel_rfl
theorem ob_nt : typeLookup (.type "object") "nt" = pure none := by rw [typeLookup_type, builtinLookup_eq_fast]; kernel_rfl
theorem ob_raw : typeLookup (.type "object") "raw" = pure none := by rw [typeLookup_type, builtinLookup_eq_fast]; kernel_rfl
theorem ob_norm : typeLookup (.type "object") "norm" = pure none := by rw [typeLookup_type, builtinLookup_eq_fast]; kernel_rfl
theorem ob_simple : typeLookup (.type "object") "is_simple" = pure none := by rw [typeLookup_type, builtinLookup_eq_fast]; kernel_rfl
theorem ob_run : typeLookup (.type "object") "longest_run_of_spaces" = pure none := by rw [typeLookup_type, builtinLookup_eq_fast]; kernel_rfl
theorem ob_lev : typeLookup (.type "object") "indent_level" = pure none := by rw [typeLookup_type, builtinLookup_eq_fast]; kernel_rfl
theorem ob_less : typeLookup (.type "object") "less" = pure none := by rw [typeLookup_type, builtinLookup_eq_fast]; kernel_rfl
theorem ob_wit : typeLookup (.type "object") "not_less_witness" = pure none := by rw [typeLookup_type, builtinLookup_eq_fast]; kernel_rfl
section
variable {raw : Str} {n nt b : Int} {count : List Int} {simple : Bool} {e : Expr} {pos : Pos}
theorem rep_ws {C V h v} (r : Rep C V h (.ws raw n nt count b simple) v) : ∃ a d m tr tn tt r q cs tb, v = .ref a ∧ ¬ V a ∧ ¬ V d ∧ ¬ V r ∧ ¬ V q ∧ InstD h a C d ∧ (h.Ns1 d m ∧ ∀ k, k ∉ wsNames → m k = none) ∧
      m "raw" = some (.str raw tr) ∧ m "n" = some (.int n tn) ∧ m "nt" = some (.int nt tt) ∧ m "is_simple" = some (.bool simple) ∧ m "norm" = some (.ref r) ∧
      IsTup h r #[.ref q, .int b tb] ∧ IsTup h q cs.toArray ∧ IntsV count cs := by simpa only [Rep] using r
theorem ints_reps {C V h} : ∀ {is : List Int} {vs : List Value}, IntsV is vs → Reps C V h (is.map .int) vs
  | [], vs, r => by simp only [IntsV] at r; subst r; exact .nil
  | i :: is, vs, r => by
    simp only [IntsV] at r
    obtain ⟨t, vs', rfl, r⟩ := r
    exact .cons ⟨t, rfl⟩ (ints_reps r)
theorem reps_ints {C V h} : ∀ {is : List Int} {vs : List Value}, Reps C V h (is.map .int) vs → IntsV is vs
  | [], vs, r => by simp only [List.map_nil, Reps] at r; subst r; simp only [IntsV]
  | i :: is, vs, r => by
    simp only [List.map_cons, Reps] at r
    obtain ⟨v, vs', rfl, ⟨t, rfl⟩, r⟩ := r
    simp only [IntsV]
    exact ⟨t, vs', rfl, reps_ints r⟩
theorem ev_ws_n (K : Wsp X mN) (he : Ev X e ρ (.ws raw n nt count b simple)) (hnode : AttrNode X e "n" pos := by with_unfolding_all rfl) : Ev X (.Attribute e "n" pos) ρ (.int n) := ev_inst K he K.n_n ob_n (hnode := hnode) fun V h u r => by
  obtain ⟨a, d, m, tr, tn, tt, r', q, cs, tb, rfl, na, nd, nr, nq, ho, hn, h1, h2, h3, h4, h5, h6, h7, h8⟩ := rep_ws r
  exact ⟨a, d, m, _, rfl, ho, hn.1, h2, rfl, _, rfl⟩
theorem ev_ws_nt (K : Wsp X mN) (he : Ev X e ρ (.ws raw n nt count b simple)) (hnode : AttrNode X e "nt" pos := by with_unfolding_all rfl) : Ev X (.Attribute e "nt" pos) ρ (.int nt) := ev_inst K he K.n_nt ob_nt (hnode := hnode) fun V h u r => by
  obtain ⟨a, d, m, tr, tn, tt, r', q, cs, tb, rfl, na, nd, nr, nq, ho, hn, h1, h2, h3, h4, h5, h6, h7, h8⟩ := rep_ws r
  exact ⟨a, d, m, _, rfl, ho, hn.1, h3, rfl, _, rfl⟩
theorem ev_ws_simple (K : Wsp X mN) (he : Ev X e ρ (.ws raw n nt count b simple)) (hnode : AttrNode X e "is_simple" pos := by with_unfolding_all rfl) : Ev X (.Attribute e "is_simple" pos) ρ (.bool simple) := ev_inst K he K.n_simple ob_simple (hnode := hnode) fun V h u r => by
  obtain ⟨a, d, m, tr, tn, tt, r', q, cs, tb, rfl, na, nd, nr, nq, ho, hn, h1, h2, h3, h4, h5, h6, h7, h8⟩ := rep_ws r
  exact ⟨a, d, m, _, rfl, ho, hn.1, h4, rfl, rfl⟩
theorem ev_ws_norm (K : Wsp X mN) (he : Ev X e ρ (.ws raw n nt count b simple)) (hnode : AttrNode X e "norm" pos := by with_unfolding_all rfl) : Ev X (.Attribute e "norm" pos) ρ (.tup [.tup (count.map .int), .int b]) := ev_inst K he K.n_norm ob_norm (hnode := hnode) fun V h u r => by
  obtain ⟨a, d, m, tr, tn, tt, r', q, cs, tb, rfl, na, nd, nr, nq, ho, hn, h1, h2, h3, h4, h5, h6, h7, h8⟩ := rep_ws r
  refine ⟨a, d, m, _, rfl, ho, hn.1, h5, rfl, ?_⟩
  simp only [Rep]
  exact ⟨r', [.ref q, .int b tb], rfl, nr, h6, .cons (by simp only [Rep]; exact ⟨q, cs, rfl, nq, h7, ints_reps h8⟩) (.one ⟨tb, rfl⟩)⟩
theorem ev_half_raw (K : Wsp X mN) {a d : Addr} (he : Ev X e ρ (.half a d raw)) (hnode : AttrNode X e "raw" pos := by with_unfolding_all rfl) : Ev X (.Attribute e "raw" pos) ρ (.str raw) := ev_inst K he K.n_raw ob_raw (hnode := hnode) fun V h u r => by
  simp only [Rep] at r
  obtain ⟨rfl, na, nd, ho, m, tr, hn, h1, h2⟩ := r
  exact ⟨a, d, m, _, rfl, ho, hn, h1, rfl, tr, rfl⟩
/-- S and T of the class -/
theorem ev_cls_S (K : Wsp X mN) (he : EvV X e ρ (.ref X.C)) (hnode : AttrNode X e "S" pos := by with_unfolding_all rfl) : Ev X (.Attribute e "S" pos) ρ (.str " ") := fun V O s Q E F hQ =>
  Attribute_any_ (he V O s _ E F (K.m_S _ _ _ _ _ F.vol.keep fun t => hQ _ _ .toks ⟨t, rfl⟩)) hnode
theorem ev_cls_T (K : Wsp X mN) (he : EvV X e ρ (.ref X.C)) (hnode : AttrNode X e "T" pos := by with_unfolding_all rfl) : Ev X (.Attribute e "T" pos) ρ (.str "\t") := fun V O s Q E F hQ =>
  Attribute_any_ (he V O s _ E F (K.m_T _ _ _ _ _ F.vol.keep fun t => hQ _ _ .toks ⟨t, rfl⟩)) hnode
end

/-- a method of an object of a class called -/
theorem ev_call_meth (K : Wsp X mN) {o e : Expr} {name : Str} {apos pos : Pos} {args : List Expr} {f : Addr} {raw : Str} {n nt b : Int} {count : List Int} {simple : Bool} {ps : List PV} {r : PV} {k : Nat} (ho : Ev X o ρ (.ws raw n nt count b simple))
    (hf : mN name = some (.ref f)) (hB : typeLookup (.type "object") name = pure none) (hfc : ∃ ob, X.base.get? f = some ob ∧ ob.cls = .type "function") (ha : Evs X pos (e :: args) ρ ps) (hfn : FnS X f (.ws raw n nt count b simple :: ps) r k) (hA : Room X.A k)
    (hsh : name ∉ wsNames := by decide)
    (hbase : attributeBase o name X.env (eval o X.env) = eval o X.env := by rfl)
    (hfew : ((backTo pos (starEach (e :: args) X.env)).all (fun x => !x.1) && (backToKw pos (keywordEach [] X.env)).all (fun x => x.1.isSome)
      && decide ((e :: args).length + ([] : List Keyword).length + (if ([] : List Keyword).isEmpty then 0 else 1) < 30)) = true := by rfl)
    (hline : (apos.endLine == pos.line) = true := by rfl)
    (hse : ∃ y ys, backTo pos (starEach (e :: args) X.env) = (false, y) :: ys := by exact ⟨_, _, rfl⟩) : Ev X (.Call (.Attribute o name apos) (e :: args) [] pos) ρ r := fun V O s Q E F hQ => by
  rw [arm_eval_Call, hbase]
  refine wpAny_bind (ho V O s _ E F fun ov s₁ g₁ rv => ?_)
  have rv0 := rv
  obtain ⟨a, d, m, tr, tn, tt, r', q, cs, tb, rfl, na, nd, nr, nq, hi, hn, h1, h2, h3, h4, h5, h6, h7, h8⟩ := rep_ws rv
  obtain ⟨ob, hob, hoc⟩ := hfc
  have k₁ := (F.grow g₁).vol.keep
  have hform : methodCallForm ((e :: args).length + ([] : List Keyword).length) (backTo pos (starEach (e :: args) X.env)) (backToKw pos (keywordEach [] X.env)) = true := hfew
  have hpos : methodCallPos true o X.env apos pos = pure pos := by unfold methodCallPos; simp [hline]
  refine wpAny_bind (wpAny_standAt ?_)
  unfold methodCall
  rw [hform]
  have KC := K.cls.keeps k₁
  obtain ⟨nm, q', bs, sn, sub, col, dd, k0, k1', k2, k3, k5, hC⟩ := KC.obj
  obtain ⟨h, gs, dr, t, os⟩ := s₁
  refine wpAny_bind (wpAny_holding (method_of hC KC.ns K.n_ga K.n_gat hf (k₁ _ _ hob) hoc hB (inst_of hi hn.1) (hn.2 _ hsh) ?_))
  refine wpAny_bind (wpAny_of_eq hpos ?_)
  obtain ⟨o', fd, hob', hda⟩ := hfn.obj
  refine Calls.callWith_function (o := o') (fd := fd) ?_
  obtain ⟨y, ys, he⟩ := hse
  have key := ha V O _ (fun vs s' => (s'.heap.get? f = some o' ∧ o'.data = .func fd) ∧ wpAny X.M X.A (call (.ref f) ([.ref a] ++ vs) []) Q E s') E (F.grow g₁) fun vs s₂ g₂ rs =>
    ⟨⟨((F.grow g₁).grow g₂).vol.keep _ _ hob', hda⟩, hfn.run X.A hA V s₂ (.ref a :: vs) Q E ((F.grow g₁).grow g₂).vol (.cons (rv0.grow g₂) rs) fun x s₃ g₃ r => hQ x s₃ ((g₁.trans g₂).trans g₃) r⟩
  rw [he] at key ⊢
  exact Calls.evalArgs_plain key
theorem ev_call_meth0 (K : Wsp X mN) {o : Expr} {name : Str} {apos pos : Pos} {f : Addr} {raw : Str} {n nt b : Int} {count : List Int} {simple : Bool} {r : PV} {k : Nat} (ho : Ev X o ρ (.ws raw n nt count b simple))
    (hf : mN name = some (.ref f)) (hB : typeLookup (.type "object") name = pure none) (hfc : ∃ ob, X.base.get? f = some ob ∧ ob.cls = .type "function") (hfn : FnS X f [.ws raw n nt count b simple] r k) (hA : Room X.A k)
    (hsh : name ∉ wsNames := by decide)
    (hbase : attributeBase o name X.env (eval o X.env) = eval o X.env := by rfl)
    (hline : (apos.endLine == pos.line) = true := by rfl) : Ev X (.Call (.Attribute o name apos) [] [] pos) ρ r := fun V O s Q E F hQ => by
  rw [arm_eval_Call, hbase]
  refine wpAny_bind (ho V O s _ E F fun ov s₁ g₁ rv => ?_)
  have rv0 := rv
  obtain ⟨a, d, m, tr, tn, tt, r', q, cs, tb, rfl, na, nd, nr, nq, hi, hn, h1, h2, h3, h4, h5, h6, h7, h8⟩ := rep_ws rv
  obtain ⟨ob, hob, hoc⟩ := hfc
  have k₁ := (F.grow g₁).vol.keep
  have hform : methodCallForm (([] : List Expr).length + ([] : List Keyword).length) (backTo pos (starEach [] X.env)) (backToKw pos (keywordEach [] X.env)) = true := rfl
  have hpos : methodCallPos true o X.env apos pos = pure pos := by unfold methodCallPos; simp [hline]
  refine wpAny_bind (wpAny_standAt ?_)
  unfold methodCall
  rw [hform]
  have KC := K.cls.keeps k₁
  obtain ⟨nm, q', bs, sn, sub, col, dd, k0, k1', k2, k3, k5, hC⟩ := KC.obj
  obtain ⟨h, gs, dr, t, os⟩ := s₁
  refine wpAny_bind (wpAny_holding (method_of hC KC.ns K.n_ga K.n_gat hf (k₁ _ _ hob) hoc hB (inst_of hi hn.1) (hn.2 _ hsh) ?_))
  refine wpAny_bind (wpAny_of_eq hpos ?_)
  obtain ⟨o', fd, hob', hda⟩ := hfn.obj
  refine Calls.callWith_function (o := o') (fd := fd) (PySem.evalArgs_none ?_)
  exact ⟨⟨k₁ _ _ hob', hda⟩, hfn.run X.A hA V _ [.ref a] Q E (F.grow g₁).vol (.one rv0) fun x s₃ g₃ r => hQ x s₃ (g₁.trans g₃) r⟩
end
end PL
end
noncomputable section
open PySem PySem.W PyProof.Rows
set_option Elab.async false
set_option linter.unusedVariables false
set_option maxRecDepth 100000
set_option pp.maxSteps 600
namespace PL
section
variable {X : Cx} {ρ ρ' ρ'' : Vars} {mg mb' mN : Str → Option Value}

/-- every value plain -/
inductive Fl : Vars → Vars → Prop
  | nil : Fl [] []
  | no {x r r'} : Fl r r' → Fl ((x, .loc, .no) :: r) ((x, .loc, .no) :: r')
  | val {x p r r'} : Flat p → Fl r r' → Fl ((x, .loc, .val p) :: r) ((x, .loc, .val p) :: r')
  | mu {x pl l r r'} : (∀ p ∈ l, Flat p) → Fl r r' → Fl ((x, .loc, .mu pl l) :: r) ((x, .loc, .mu pl l) :: r')
  | half {x a d raw r r'} : Fl r r' → Fl ((x, .loc, .val (.half a d raw)) :: r) ((x, .loc, .val (.obj a)) :: r')
theorem Fl.keys (h : Fl ρ ρ') : ρ'.map (·.1) = ρ.map (·.1) := by induction h <;> simp_all
theorem Fl.owned (h : Fl ρ ρ') (O : Str → Addr) : ρ'.filterMap (ownOf O) = ρ.filterMap (ownOf O) := by
  induction h with
  | nil => rfl
  | no _ ih => simpa [List.filterMap_cons, ownOf] using ih
  | val _ _ ih => simpa [List.filterMap_cons, ownOf] using ih
  | mu _ _ ih => simp [List.filterMap_cons, ownOf, ih]
  | half _ ih => simpa [List.filterMap_cons, ownOf] using ih
theorem Fl.nofree (h : Fl ρ ρ') : ∀ x c q, (x, VK.free c, q) ∉ ρ' := by
  induction h with
  | nil => intro x c q hm; cases hm
  | _ => intro x c q hm; rcases List.mem_cons.mp hm with e | e <;> first | (cases e; done) | (rename_i ih _ ; exact absurd e (ih x c q)) | (rename_i ih; exact absurd e (ih x c q)) | skip
theorem reps_flat {C : Addr} : ∀ {l : List PV} {vs : List Value} {V V' : Addr → Prop} {h h' : Heap}, (∀ p ∈ l, Flat p) → Reps C V h l vs → Reps C V' h' l vs
  | [], vs, V, V', h, h', hp, r => by simp only [Reps] at r ⊢; exact r
  | p :: l, vs, V, V', h, h', hp, r => by
    simp only [Reps] at r ⊢
    obtain ⟨v, vs', e, r1, r2⟩ := r
    exact ⟨v, vs', e, r1.flat (hp p (List.mem_cons_self ..)), reps_flat (fun q hq => hp q (List.mem_cons_of_mem _ hq)) r2⟩
theorem Fl.varAt {C : Addr} {env : Env} {O : Str → Addr} {m : Str → Option Value} {V V' : Addr → Prop} {h : Heap} (hf : Fl ρ ρ') (hv : ∀ e ∈ ρ, VarAt C env O m V h e) : ∀ e ∈ ρ', VarAt C env O m V' h e := by
  induction hf with
  | nil => intro e he; cases he
  | no _ ih =>
    intro e he
    rcases List.mem_cons.mp he with rfl | he
    · exact hv _ (List.mem_cons_self ..)
    · exact ih (fun e h => hv e (List.mem_cons_of_mem _ h)) e he
  | val hp _ ih =>
    intro e he
    rcases List.mem_cons.mp he with rfl | he
    · obtain ⟨a, v, b, c⟩ := hv _ (List.mem_cons_self ..); exact ⟨a, v, b, c.flat hp⟩
    · exact ih (fun e h => hv e (List.mem_cons_of_mem _ h)) e he
  | mu hp _ ih =>
    intro e he
    rcases List.mem_cons.mp he with rfl | he
    · obtain ⟨a, b, vs, c, d, r⟩ := hv _ (List.mem_cons_self ..); exact ⟨a, b, vs, c, d, reps_flat hp r⟩
    · exact ih (fun e h => hv e (List.mem_cons_of_mem _ h)) e he
  | half _ ih =>
    intro e he
    rcases List.mem_cons.mp he with rfl | he
    · obtain ⟨a, v, b, c⟩ := hv _ (List.mem_cons_self ..)
      simp only [Rep] at c
      obtain ⟨rfl, _⟩ := c
      exact ⟨a, _, b, rfl⟩
    · exact ih (fun e h => hv e (List.mem_cons_of_mem _ h)) e he
theorem Frm.refloat {V V' O s} (F : X.F V O ρ s) (h : Fl ρ ρ') (vol : Vol X.base V' s) (own : ∀ b ∈ PL.owned X.env O ρ, V' b) : X.F V' O ρ' s := by
  have hoo : PL.owned X.env O ρ' = PL.owned X.env O ρ := by unfold PL.owned; rw [h.owned O]
  obtain ⟨m, hn, hv⟩ := F.vars
  exact ⟨vol, F.kind, ⟨m, hn, h.varAt hv⟩, hoo ▸ own, hoo ▸ F.nodup, h.keys ▸ F.names, fun x c q hm => absurd hm (h.nofree x c q)⟩
theorem Frm.recast {V O s} {x : Str} {p q : PV} (F : X.F V O ((x, .loc, .val p) :: ρ) s) (h : ∀ v, X.R V s p v → X.R V s q v) : X.F V O ((x, .loc, .val q) :: ρ) s := by
  obtain ⟨m, hn, hv⟩ := F.vars
  refine ⟨F.vol, F.kind, ⟨m, hn, fun e he => ?_⟩, F.own, F.nodup, F.names, fun y c q' hm => ?_⟩
  · rcases List.mem_cons.mp he with rfl | he
    · obtain ⟨a, v, b, c⟩ := hv _ (List.mem_cons_self ..); exact ⟨a, v, b, h v c⟩
    · exact hv e (List.mem_cons_of_mem _ he)
  · rcases List.mem_cons.mp hm with e | e
    · cases e
    · exact F.free y c q' (List.mem_cons_of_mem _ e)

/-- an attribute of an object of a class set -/
theorem set_field {V O s} (F : X.F V O ρ s) (K : Wsp X mN) {x d : Addr} {m : Str → Option Value} {name : Str} {ns : List Str} (I : InstD s.heap x X.C d) (hn : s.heap.Ns1 d m) (hna : mN name = none) (hB : typeLookup (.type "object") name = pure none)
    (hxC : x ≠ X.C) (hd : V d) (hx : ¬ V x) (ho : d ∉ PL.owned X.env O ρ) (hfr : ∀ x c q, (x, VK.free c, q) ∉ ρ) {self e : Expr} {p : PV} {pos pos' : Pos} (hs : Ev X self ρ (.obj x)) (he : Ev X e ρ p) (hw : Within m ns) (hsz : ns.length ≤ sizeLine)
    {Q : Flow → Shared → Prop} {E : Value → Shared → Prop} (hQ : ∀ v s', X.F V O ρ s' → X.R V s' p v → InstD s'.heap x X.C d → s'.heap.Ns1 d (fun y => if y = name then some v else m y) →
      (∀ b o, b ≠ d → s.heap.get? b = some o → s'.heap.get? b = some o) → s'.os = s.os → GG s.gens s'.gens → Q .next s')
    (hsw : swapsWith e (some (.Attribute self name pos')) pos.line X.env = pure false := by rfl) : wpAny X.M X.A (exec (.Assign [.Attribute self name pos'] e pos) X.env) Q E s := by
  refine plainObj_wpAny_Assign_Attribute (he V O s _ E F fun v s₁ g₁ rv => hs V O s₁ _ E (F.grow g₁) fun u s₂ g₂ ru => ?_) hsw
  cases ru
  have g := g₁.trans g₂
  have F₂ := F.grow g
  have KC := K.cls.keeps F₂.vol.keep
  obtain ⟨nm, q', bs, sn, sub, col, dd, k0, k1', k2, k3, k5, hC⟩ := KC.obj
  have I₂ := I.by (fun o e => g.keep x o e)
  have hn₂ := hn.keeps g.keep
  have ri : X.R V s₂ p v := rv.grow g₂
  obtain ⟨h, gs, dr, t, os⟩ := s₂
  obtain ⟨o, hox, hoc, hnc, hod, hne⟩ := I₂
  refine store_attr (ns := ns) PySem.F.store_object hC KC.ns K.n_set hna hB hxC (inst_of ⟨o, hox, hoc, hnc, hod, hne⟩ hn₂) (fun h' tk' I' hk hx' => ?_) hw hsz
  obtain ⟨o₁, e1, e2, e3, e4, e5⟩ := hx' o hox
  have hoo : o₁ = o := by
    have := (e5 d hod).trans hod.symm
    obtain ⟨a, b, c, d'⟩ := o; obtain ⟨a', b', c', d''⟩ := o₁
    simp only at e2 e3 e4 this
    subst e2; subst e3; subst e4; subst this; rfl
  subst hoo
  have keep : ∀ b o', b ≠ d → h.get? b = some o' → h'.get? b = some o' := fun b o' hb e => by
    by_cases hbx : b = x
    · subst hbx; rw [hox] at e; cases e; exact e1
    · exact hk b o' hbx (fun o₀ dx e0 ed => by rw [hox] at e0; cases e0; rw [hod] at ed; cases ed; exact hb) e
  have hn' : h'.Ns1 d (fun y => if y = name then some v else m y) := by
    obtain ⟨o₂, f1, _, _, f2⟩ := I'
    rw [e1] at f1; cases f1
    rcases f2 with ⟨f3, _⟩ | ⟨d', f3, _, f4⟩
    · rw [hod] at f3; cases f3
    · rw [hod] at f3; cases f3; exact f4
  have F' : X.F V O ρ ⟨h', gs, dr, tk', os⟩ := F₂.moved (wr := [d]) (fun b hb => List.mem_singleton.mp hb ▸ hd) (fun b hb => List.mem_singleton.mp hb ▸ ho) (fun x c q hm => absurd hm (hfr x c q))
    (fun b hb => by rw [List.mem_singleton.mp hb]; obtain ⟨o₂, _, _, f, _⟩ := hn'; exact ⟨o₂, f⟩) fun b o' hb e => keep b o' (fun h => hb (List.mem_singleton.mpr h)) e
  exact hQ v _ F' (Rep.mono (fun b o' nb e => ⟨nb, keep b o' (fun h => nb (h ▸ hd)) e⟩) p ri) ⟨_, e1, hoc, hnc, hod, hne⟩ hn' (fun b o' hb e => keep b o' hb (g.keep b o' e)) g.os g.gens

/-- what __init__ does -/
noncomputable def InitS (X : Cx) (x : PV) (r : PV) (n : Nat) : Prop := ∀ A, Room A n → ∀ V s a d v (Q : Value → Shared → Prop) (E : Value → Shared → Prop), Vol X.base V s → InstD s.heap a X.C d → s.heap.Ns1 d (fun _ => none) → ¬ V a → ¬ V d → X.base.get? a = none → X.base.get? d = none →
  X.R V s x v → (∀ s', (∀ b o, b ≠ d → s.heap.get? b = some o → s'.heap.get? b = some o) → s'.os = s.os → GG s.gens s'.gens → X.R V s' r (.ref a) → Q .none s') → wpAny X.M A (call (.ref 73) [.ref a, v]) Q E s
theorem ev_call_cls (K : Wsp X mN) {x : Str} {p pos : Pos} {e : Expr} {q r : PV} {n : Nat} (hf : EvV X (.Name x p) ρ (.ref X.C)) (he : Ev X e ρ q) (hi : InitS X q r n) (hA : Room X.A (n + 1))
    (hse : starEach [e] X.env = (false, eval e X.env) :: starEach [] X.env := by rfl) : Ev X (.Call (.Name x p) [e] [] pos) ρ r := fun V O s Q E F hQ => by
  rw [arm_eval_Call_Name']
  refine wpAny_bind (hf V O s _ E F ?_)
  have key : wpAny X.M X.A (spliced (backTo pos (starEach [e] X.env))) (fun vs s₁ => ∃ v, vs = [v] ∧ Grow s s₁ ∧ X.R V s₁ q v) E s :=
    (evs_cons he evs_nil hse) V O s _ E F fun vs s₁ g₁ rs => by
      simp only [Cx.Rs, Reps] at rs
      obtain ⟨v, _, rfl, rv, rfl⟩ := rs
      exact ⟨v, rfl, g₁, rv⟩
  refine callWith_cls K.cls (wpAny_mono key (fun vs s₁ h₁ => ?_) fun _ _ x => x) hse
  obtain ⟨v, rfl, g₁, rv⟩ := h₁
  refine ⟨(F.grow g₁).vol.keep, ?_⟩
  have vol₁ := (F.grow g₁).vol
  have KC := K.cls.keeps vol₁.keep
  obtain ⟨nm, q', bs, sn, sub, col, dd, k0, k1', k2, k3, k5, hC⟩ := KC.obj
  obtain ⟨oI, hoI, hcI⟩ := K.k_init
  obtain ⟨h, gs, dr, t, os⟩ := s₁
  refine wpAny_call_obj_init PySem.F.objNew hC KC.ns K.i_init (vol₁.keep _ _ hoI) hcI fun h' a d Mk => ?_
  have g₂ : Grow ⟨h, gs, dr, t, os⟩ ⟨h', gs, dr, t, os⟩ := ⟨Mk.keeps, rfl, .refl _⟩
  have vol₂ := vol₁.grow g₂
  obtain ⟨o, hx, hcx, hncx, hdx⟩ := Mk.inst
  have hdd := Mk.dict o hx
  have hdn : d ≠ a ∧ h'.Ns1 d fun _ => none := by
    rcases hdx with ⟨hn0, _⟩ | ⟨d', hd', hne', hns'⟩
    · rw [hn0] at hdd; cases hdd
    · obtain rfl := Option.some.inj (hd'.symm.trans hdd); exact ⟨hne', hns'⟩
  have dead : ∀ b, h.get? b = none → X.base.get? b = none := fun b hb => by
    cases e : X.base.get? b with
    | none => rfl
    | some o => have := vol₁.keep b o e; rw [show h.get? b = none from hb] at this; cases this
  have nV : ∀ b, h.get? b = none → ¬ V b := fun b hb hv => by obtain ⟨o, e⟩ := vol₁.live b hv; rw [show h.get? b = none from hb] at e; cases e
  have hR : Room (X.A.under (.builtin "type.__call__" ⟨.ref X.C :: [v], []⟩)) n := ⟨hA.handled, by have := hA.depth; show X.A.depth + 1 + n < _; omega, by have := hA.units; show X.A.units + 1 + 10 * n + 20 < _; omega⟩
  refine hi _ hR V _ a d v _ _ vol₂ ⟨o, hx, hcx, hncx, hdd, hdn.1⟩ hdn.2 (nV _ Mk.newX) (nV _ Mk.newD) (dead _ Mk.newX) (dead _ Mk.newD) (rv.grow g₂)
    fun s' hk hos hg hr => ⟨rfl, hQ _ s' (g₁.trans ⟨fun b o e => hk b o (fun hb => by rw [hb, show h.get? d = none from Mk.newD] at e; cases e) (Mk.keeps b o e), hos, hg⟩) hr⟩
end
end PL
end
noncomputable section
open PySem PySem.W PyProof.Rows
set_option Elab.async false
set_option linter.unusedVariables false
set_option maxRecDepth 100000
set_option pp.maxSteps 600
namespace PL
/-- an iterator whose items go to a target -/
structure YieldsT (X : Cx) (t : Expr) (it : Value) (wr : List Addr) (G : List Nat) (items : Nat → Option PV) (St : (Addr → Prop) → Nat → Shared → Prop) : Prop where
  frame : ∀ V V' i s s', St V i s → (∀ b ∈ wr, V b) → (∀ b ∈ wr, ∀ o, s.heap.get? b = some o → s'.heap.get? b = some o) → (∀ b o, ¬ V b → s.heap.get? b = some o → ¬ V' b ∧ s'.heap.get? b = some o) → GG s.gens s'.gens → St V' i s'
  live : ∀ V i s, St V i s → ∀ b ∈ wr, ∃ o, s.heap.get? b = some o
  item : ∀ V i p s (Q : Value → Shared → Prop) (N : Shared → Prop) (E : Value → Shared → Prop), items i = some p → St V i s → (∀ b ∈ wr, V b) → Vol X.base V s →
    (∀ v s', X.R V s' p v → St V (i + 1) s' → (∀ b o, b ∉ wr → s.heap.get? b = some o → s'.heap.get? b = some o) → s'.os = s.os → GX G s.gens s'.gens → Q v s') →
    wpAny X.M X.A (pyNext it) (fun r s₁ => match r with | none => N s₁ | some v => wpAny X.M X.A (letOwnedTupleGo t it v) (fun _ s₂ => Q v s₂) E s₁) E s
  done : ∀ V i s (Q : Option Value → Shared → Prop) (E : Value → Shared → Prop), items i = none → St V i s → (∀ b ∈ wr, V b) → Vol X.base V s →
    (∀ s', (∀ b o, b ∉ wr → s.heap.get? b = some o → s'.heap.get? b = some o) → s'.os = s.os → GX G s.gens s'.gens → Q none s') → wpAny X.M X.A (pyNext it) Q E s
  self : ∀ V i s (Q : Value → Shared → Prop) (E : Value → Shared → Prop), St V i s → Q it s → wpAny X.M X.A (pyIter it) Q E s
noncomputable def IterToT (X : Cx) (t e : Expr) (ρ : Vars) (items : Nat → Option PV) : Prop :=
  ∀ V O s (Q : Value → Shared → Prop) (E : Value → Shared → Prop), X.F V O ρ s →
    (∀ it s' wr G St, Grow s s' → YieldsT X t it wr G items St → (∀ b ∈ wr, s.heap.get? b = none) → (∀ g ∈ G, s.gens[g]? = none) → St (VW V wr) 0 s' → Q it s') → wpAny X.M X.A (eval e X.env) (fun v s₁ => wpAny X.M X.A (pyIter v) Q E s₁) E s
section
variable {X : Cx} {ρ ρ' ρ'' : Vars} {mg mb' mN : Str → Option Value}
theorem Yields.toT {t : Expr} {it : Value} {wr : List Addr} {G : List Nat} {items : Nat → Option PV} {St : (Addr → Prop) → Nat → Shared → Prop} (Y : Yields X it wr G items St) (ht : ∀ it v, letOwnedTupleGo t it v = pure ()) : YieldsT X t it wr G items St :=
  ⟨Y.frame, Y.live, fun V i p s Q N E hp st hw vol hQ => Y.item V i p s _ E hp st hw vol fun v s' r st' hk ho hg => by
    show wpAny _ _ (letOwnedTupleGo t it v) _ _ _
    rw [ht]; exact wpAny_pure (hQ v s' r st' hk ho hg), Y.done, Y.self⟩
theorem IterTo.toT {t e : Expr} {items : Nat → Option PV} (h : IterTo X e ρ items) (ht : ∀ it v, letOwnedTupleGo t it v = pure ()) : IterToT X t e ρ items := fun V O s Q E F hQ =>
  h V O s Q E F fun it s' wr G St g Y hw hG st => hQ it s' wr G St g (Y.toT ht) hw hG st
theorem InLoop.ranT {wr G St V₀ O₀ ρ₀ s₀ i V O ρ s V' O' ρ' s'} (it : Value) (items) {t : Expr} (Y : YieldsT X t it wr G items St) (F₀ : X.F V₀ O₀ ρ₀ s₀) (hwr : ∀ b ∈ wr, s₀.heap.get? b = none) (L : InLoop X wr G St V₀ O₀ ρ₀ s₀ i V O ρ s) (R : Ran X V O ρ s V' O' ρ' s') : InLoop X wr G St V₀ O₀ ρ₀ s₀ i V' O' ρ' s' := by
  have live : ∀ b ∈ wr, ∃ o, s.heap.get? b = some o := Y.live V i s L.st
  have fr2 : ∀ x c q, (x, VK.free c, q) ∈ ρ' → ∃ q', (x, VK.free c, q') ∈ ρ₀ := fun x c q h => let ⟨q', h'⟩ := R.frees x c q h; L.frees x c q' h'
  refine ⟨R.frm, Y.frame V V' i s s' L.st L.wrV (fun b hb o e => R.step.keep b o (L.wrO b hb) e) (fun b o nb e => ⟨fun h => (R.vext.fresh b h).elim nb (fun h' => by rw [h'] at e; cases e), R.step.keep b o (fun hm => nb (L.frm.own b hm)) e⟩) R.step.gens,
    fun b hb => (R.vext.up b (L.wrV b hb)).resolve_right (L.wrO b hb), fun b hb hm => ?_, fun x c q h hm => ?_, ⟨fun b h => ?_, fun b h => ?_⟩, fun b hb => ?_, fun b o hb e => ?_, R.step.os.trans L.os, L.gens.trans (R.step.gens.gx G), fr2⟩
  · rcases R.fresh b hm with h | h
    · exact L.wrO b hb h
    · obtain ⟨o, e⟩ := live b hb; rw [e] at h; cases h
  · obtain ⟨q', h'⟩ := R.frees x c q h
    exact L.wrF x c q' h' hm
  · rcases L.vext.up b h with h1 | h1
    · rcases R.vext.up b h1 with h2 | h2
      · exact .inl h2
      · rcases L.fresh b h2 with h3 | h3
        · exact .inr h3
        · obtain ⟨o, e⟩ := F₀.vol.live b h; rw [e] at h3; cases h3
    · exact .inr h1
  · rcases R.vext.fresh b h with h' | h'
    · exact L.vext.fresh b h'
    · by_cases hm : b ∈ owned X.env O₀ ρ₀
      · exact .inl (F₀.own b hm)
      · right
        cases e : s₀.heap.get? b with
        | none => rfl
        | some o => rw [L.keep b o hm e] at h'; cases h'
  · rcases R.fresh b hb with h | h
    · exact L.fresh b h
    · by_cases hm : b ∈ owned X.env O₀ ρ₀
      · exact .inl hm
      · right
        cases e : s₀.heap.get? b with
        | none => rfl
        | some o => rw [L.keep b o hm e] at h; cases h
  · refine R.step.keep b o (fun hm => ?_) (L.keep b o hb e)
    rcases L.fresh b hm with h | h
    · exact hb h
    · rw [h] at e; cases e
theorem ex_forT {target iter : Expr} {body : List Stmt} {pos : Pos} {items : Nat → Option PV} {n : Nat} {fl : PF} (hi : IterToT X target iter ρ items) (h : Loop X target body items n 0 ρ fl ρ') (hs : ∀ x, foldedSetIterable iter X.env x = pure x := by intro _; rfl) :
    Ex1 X (.For target iter body [] pos) ρ fl ρ' := fun V₀ O₀ s₀ Q E F₀ hQ => by
  refine wpAny_For (hi V₀ O₀ s₀ _ E F₀ fun it s₁ wr G St g Y hwr hG hst => ?_) hs
  refine codeAny_forLoop_any (prog := X.prog) (w := X.w)
    (fun k s' => ∃ i ρ₁ V₁ O₁, Loop X target body items k i ρ₁ fl ρ' ∧ InLoop X wr G St V₀ O₀ ρ s₀ i V₁ O₁ ρ₁ s') ?_ n ⟨0, ρ, VW V₀ wr, O₀, h, ?_⟩
  · rintro k s' ⟨i, ρ₁, V₁, O₁, hl, L⟩
    have stepI : ∀ {p : PV} {Q' : Value → Shared → Prop} {N' : Shared → Prop} {E' : Value → Shared → Prop}, items i = some p → (∀ v s₂, X.R V₁ s₂ p v → InLoop X wr G St V₀ O₀ ρ s₀ (i + 1) V₁ O₁ ρ₁ s₂ → Q' v s₂) → wpAny X.M X.A (pyNext it) (fun r s₁ => match r with | none => N' s₁ | some v => wpAny X.M X.A (letOwnedTupleGo target it v) (fun _ s₂ => Q' v s₂) E' s₁) E' s' := fun {p Q' N' E'} hp hq =>
      Y.item V₁ i p s' Q' N' E' hp L.st L.wrV L.frm.vol fun v s₂ r st₂ hk hos hg => hq v s₂ r
        ⟨L.frm.moved L.wrV L.wrO L.wrF (Y.live V₁ _ s₂ st₂) hk, st₂, L.wrV, L.wrO, L.wrF, L.vext, L.fresh, fun b o hb e => hk b o (fun hm => by rw [hwr b hm] at e; cases e) (L.keep b o hb e), hos.trans L.os, L.gens.trans hg, L.frees⟩
    cases hl with
    | done hn =>
      refine Y.done V₁ i s' _ _ hn L.st L.wrV L.frm.vol fun s₂ hk hos hg => ?_
      have L₂ : Ran X V₀ O₀ ρ s₀ (fun b => V₁ b ∧ b ∉ wr) O₁ ρ' s₂ :=
        ⟨L.frm.leave L.wrV L.wrO L.wrF hk, ⟨fun b h => (L.vext.up b h).imp (fun h' => ⟨h', fun hm => by obtain ⟨o, e⟩ := F₀.vol.live b h; rw [hwr b hm] at e; cases e⟩) id, fun b h => L.vext.fresh b h.1⟩, L.fresh, ⟨fun b o hb e => hk b o (fun hm => by rw [hwr b hm] at e; cases e) (L.keep b o hb e), hos.trans L.os,
          ⟨fun j x e => (L.gens.trans hg).1 j x (fun h => by rw [hG j h] at e; cases e) e, (L.gens.trans hg).2⟩⟩, L.frees⟩
      exact wpAny_execs_nil (hQ _ O₁ s₂ .next L₂ rfl)
    | step hp ha hb hr =>
      refine stepI hp fun v s₂ r L₂ => ?_
      refine ha V₁ O₁ s₂ v _ _ L₂.frm r fun V₂ O₂ s₃ R₂ _ => ?_
      have L₃ := L₂.ranT it items Y F₀ hwr R₂
      refine hb V₂ O₂ s₃ _ _ L₃.frm fun V₃ O₃ s₄ f R₃ hf => ?_
      cases hf
      exact ⟨_, Nat.lt_succ_self _, _, _, _, _, hr, L₃.ranT it items Y F₀ hwr R₃⟩
    | brk hp ha hb =>
      refine stepI hp fun v s₂ r L₂ => ?_
      refine ha V₁ O₁ s₂ v _ _ L₂.frm r fun V₂ O₂ s₃ R₂ _ => ?_
      have L₃ := L₂.ranT it items Y F₀ hwr R₂
      refine hb V₂ O₂ s₃ _ _ L₃.frm fun V₃ O₃ s₄ f R₃ hf => ?_
      cases hf
      exact hQ _ _ _ .next ((L₃.ranT it items Y F₀ hwr R₃).done hG) rfl
    | ret hp ha hb =>
      refine stepI hp fun v s₂ r L₂ => ?_
      refine ha V₁ O₁ s₂ v _ _ L₂.frm r fun V₂ O₂ s₃ R₂ _ => ?_
      have L₃ := L₂.ranT it items Y F₀ hwr R₂
      refine hb V₂ O₂ s₃ _ _ L₃.frm fun V₃ O₃ s₄ f R₃ hf => ?_
      obtain ⟨v', rfl, r'⟩ := hf
      exact hQ _ _ _ _ ((L₃.ranT it items Y F₀ hwr R₃).done hG) ⟨v', rfl, r'⟩
  · have hl := Y.live _ 0 s₁ hst
    have hb : ∀ b ∈ wr, X.base.get? b = none := fun b hm => by
      cases e : X.base.get? b with
      | none => rfl
      | some o => have := F₀.vol.keep b o e; rw [hwr b hm] at this; cases this
    have live₀ : ∀ b, V₀ b → b ∉ wr := fun b hb hm => by obtain ⟨o, e⟩ := F₀.vol.live b hb; rw [hwr b hm] at e; cases e
    refine ⟨(F₀.grow g).widen hl hb F₀ g hwr, hst, fun b h => .inr h, fun b h hm => live₀ b (F₀.own b hm) h, fun x c q h => ?_, ⟨fun b h => .inl (.inl h), fun b h => h.imp id (hwr b)⟩, .refl _ _, fun b o _ e => g.keep b o e, g.os, g.gens.gx G, fun _ _ q h => ⟨q, h⟩⟩
    obtain ⟨m, _, hv⟩ := F₀.vars
    obtain ⟨_, _, hc, _⟩ := hv _ h
    exact live₀ c hc


theorem ex_forLT {target iter : Expr} {body : List Stmt} {pos : Pos} {l : List PV} {fl : PF} (hi : IterToT X target iter ρ (fun i => l[i]?)) (h : LoopL X target body l ρ fl ρ') (hs : ∀ x, foldedSetIterable iter X.env x = pure x := by intro _; rfl) :
    Ex1 X (.For target iter body [] pos) ρ fl ρ' := ex_forT hi (h.to l 0 rfl) hs

/-- a list walked, its items into parts -/
theorem it_listT (hh : X.A.handled = none) {e : Expr} {l : List PV} {elts : List Expr} {k : Nat} {tp : Pos} (he : Ev X e ρ (.list l)) (hl : ∀ p ∈ l, ∃ ps, p = .tup ps) : IterToT X (.Tuple elts k tp) e ρ (fun i => l[i]?) := fun V O s Q E F hQ => by
  refine he V O s _ E F fun v s₁ g₁ r => ?_
  obtain ⟨ax, vs, rfl, hV, hls, rs⟩ := rep_list r
  refine wpAny_pyIter_list hls ?_
  have hlt : ax < s₁.heap.objs.size := by obtain ⟨o, e, _⟩ := hls; exact Heap.lt_size e
  have g : Grow s₁ { s₁ with heap := s₁.heap.push { cls := .type "list_iterator", data := .fields #[.ref ax, .int 0 0] } } := .push
  have Y := list_yields (X := X) hh s₁.heap.objs.size ax (Nat.ne_of_lt hlt) l vs rs.length
  refine hQ _ _ _ _ _ (g₁.trans g) ⟨Y.frame, Y.live, fun V' i p s' Q' N' E' hp st hw vol hQ' => Y.item V' i p s' _ E' hp st hw vol fun v s'' r' st' hk ho hg => ?_, Y.done, Y.self⟩ (fun b hb => ?_) (by simp) ⟨⟨Nat.zero_le _, ⟨_, Heap.get?_push_size _ rfl, rfl, rfl⟩, hls.push _⟩, ?_, ?_, ?_⟩
  · obtain ⟨ps, rfl⟩ := hl p (List.mem_of_getElem? hp)
    obtain ⟨a, us, rfl, _, _, _⟩ := rep_tup r'
    exact wpAny_letOwnedTupleGo_listiter st'.1.2.1 (hQ' _ s'' r' st' hk ho hg)
  · rw [List.mem_singleton.mp hb]
    exact fresh_size g₁.keep
  · rintro (h | h)
    · exact hV h
    · exact absurd (List.mem_singleton.mp h) (Nat.ne_of_lt hlt)
  · refine Reps.mono (fun b o nb e => ⟨?_, g.keep b o e⟩) l rs
    rintro (h | h)
    · exact nb h
    · exact absurd (List.mem_singleton.mp h) (Nat.ne_of_lt (Heap.lt_size e))
  · obtain ⟨o, e, _⟩ := hls; exact ⟨o, g.keep _ _ e⟩
end
/-- a comprehension's loop, its items into parts -/
theorem codeAny_compLoop_go {prog : Program} {w : World} {A : Around} {s : Shared} {elt target iter : Expr} {ifs : List Expr} {scope : Scope} {pos : Pos} {it acc : Value} {env : Env} {R : Result → Shared → Prop} (I : Nat → Shared → Prop)
    (turn : ∀ n s, I n s → wpAny (model prog w) A (pyNext it) (fun r s₁ => match r with
      | none => R (.ok .next) s₁
      | some v => wpAny (model prog w) A (letOwnedTupleGo target it v) (fun _ s₁' => wpAny (model prog w) A (assign target env v) (fun _ s₂ =>
          wpAny (model prog w) A (forIn ifs true fun c r => if r = true then do let ok ← isTrue c env (eval c env); pure (ForInStep.yield ok) else pure (ForInStep.yield r)) (fun ok s₃ =>
            if ok = true then wpAny (model prog w) A (eval elt env) (fun x s₄ =>
              wpAny (model prog w) A (call (.builtin "list.append") [acc, x]) (fun _ s₅ => ∃ m, m < n ∧ I m s₅) (notedBy (model prog w) A env fun e s' => R (.error e) s') s₄) (notedBy (model prog w) A env fun e s' => R (.error e) s') s₃
            else ∃ m, m < n ∧ I m s₃) (notedBy (model prog w) A env fun e s' => R (.error e) s') s₂) (notedBy (model prog w) A env fun e s' => R (.error e) s') s₁') (notedBy (model prog w) A env fun e s' => R (.error e) s') s₁) (notedBy (model prog w) A env fun e s' => R (.error e) s') s)
    (n : Nat) (h : I n s) : codeAny (model prog w) A (.compLoop (.ListComp elt [⟨target, iter, ifs, 0⟩] scope pos) 0 it acc env) R s := by
  refine codeAny_loop rfl I (fun n s hI => ?_) n h
  show wpAny _ A ((compTurn (.ListComp elt [⟨target, iter, ifs, 0⟩] scope pos) 0 it acc env).onRaise (fun x => do noteFrame x env; theTreesLotGoes x)) _ _ s
  refine wpAny_noted ?_
  rw [compTurn_list]
  refine wpAny_bind (wpAny_standAt (wpAny_bind (wpAny_mono (turn n s hI) (fun r s₁ h₁ => ?_) fun _ _ h' => h')))
  cases r with
  | none => exact wpAny_pure h₁
  | some v =>
    refine wpAny_bind (wpAny_mono h₁ (fun _ s₁' h₁' => ?_) fun _ _ h' => h')
    refine wpAny_bind (wpAny_mono h₁' (fun _ s₂ h₂ => wpAny_bind (wpAny_mono h₂ (fun ok s₃ h₃ => ?_) fun _ _ h' => h')) fun _ _ h' => h')
    cases ok with
    | false => exact wpAny_pure ⟨rfl, h₃⟩
    | true =>
      exact wpAny_bind (wpAny_bind (wpAny_mono h₃ (fun x s₄ h₄ => wpAny_bind (wpAny_mono h₄ (fun _ s₅ h₅ => wpAny_pure (wpAny_pure ⟨rfl, h₅⟩)) fun _ _ h' => h')) fun _ _ h' => h'))
end PL
end
noncomputable section
open PySem PySem.W PyProof.Rows PySem.Builtin.Str
set_option Elab.async false
set_option linter.unusedVariables false
set_option maxRecDepth 100000
namespace PL
local macro_rules | `(tactic| walk_at "at") => `(tactic| (repeat (first | exact At.here | apply At.there)))

/-- the signs of a lead: blank and tab -/
noncomputable def subc (x y : Str) : Int := if x == y then 0 else if Txt.lower x == Txt.lower y then 1 else 2

theorem fn_subst {X : Cx} {mg mb' : Str → Option Value} (G : Gw X mg mb') {f : Addr} (hf : FnAt X.base f (mb 5)) (h1 : mg "_CASE_COST" = some (.int 1 200)) (h2 : mg "_MOVE_COST" = some (.int 2 198)) (x y : Str) (hx : (Txt.lower x).length ≤ sizeLine) (hy : (Txt.lower y).length ≤ sizeLine) :
    FnS X f [.str x, .str y] (.int (subc x y)) 1 := by
  refine fn_of G (fun L => [("ch_a", .loc, .val (.str x)), ("ch_b", .loc, .val (.str y))]) (xs := ["ch_a", "ch_b"]) hf ?_ (by decide) ?_ ?_ ?_ ?_ ?_
  · intro n q doc pm an code ct vs hvs
    match vs, hvs with
    | [u, v], _ => rfl
  · intro L x hx
    simp only [List.mem_cons, List.not_mem_nil, or_false] at hx
    rcases hx with rfl | rfl <;> exact .inl rfl
  · intro L
    exact .argL rfl (.argL rfl .nil)
  · intro L O; simp [List.filterMap_cons, ownOf]
  · intro L; simp only [List.map_cons, List.map_nil]; decide
  · intro A q code L hA
    have W := G.wd (f := f) hA (q := q) (st := mb 5) (code := code) (L := L)
    refine rt_if (it_cmp (ev_name (by walk_at "at")) (ev_name (by walk_at "at")) op_seq) (fun h => rt_eq ?_ (rt_return ev_int)) fun h => ?_
    · simp [subc, h]
    refine rt_if (it_cmp (ev_lower (ev_name (by walk_at "at")) hx) (ev_lower (ev_name (by walk_at "at")) hy) op_seq) (fun h' => rt_eq ?_ (rt_return (ev_global W h1 (fun _ _ => mk_int) rfl))) fun h' => rt_eq ?_ (rt_return (ev_global W h2 (fun _ _ => mk_int) rfl))
    · simp [subc, h, h']
    · simp [subc, h, h']
end PL
end
noncomputable section
open PySem PySem.W PyProof.Rows PySem.Builtin.Str
set_option Elab.async false
set_option linter.unusedVariables false
set_option maxRecDepth 100000
namespace PL
local macro_rules | `(tactic| walk_at "at") => `(tactic| (repeat (first | exact At.here | exact AtMut.here | apply At.there | apply AtMut.there)))
local macro_rules | `(tactic| walk_at "put") => `(tactic| (repeat (first | exact Put.loc | exact Put.locNo | exact Put.cell | exact PutNew.no | exact PutNew.val | exact PutNew.mu | exact PutMut.here | exact Thaw.here | apply Put.there | apply PutNew.there | apply PutMut.there | apply Thaw.there)))

/-! signs: the tab (9) and the blank (32) -/
noncomputable def Ws (l : List Nat) : Prop := ∀ c ∈ l, c = 9 ∨ c = 32
theorem Ws.drop {l : List Nat} (h : Ws l) (n : Nat) : Ws (l.drop n) := fun c hc => h c (List.mem_of_mem_drop hc)
theorem Ws.take {l : List Nat} (h : Ws l) (n : Nat) : Ws (l.take n) := fun c hc => h c (List.mem_of_mem_take hc)
noncomputable def cst (x y : Nat) : Int := if x = y then 0 else 2
theorem T_beq (l m : List Nat) : (T l == T m) = decide (l = m) := by
  rw [Bool.eq_iff_iff]; simp [T]

theorem lower9 : Txt.lower (T [9]) = T [9] := by decide +kernel
theorem lower32 : Txt.lower (T [32]) = T [32] := by decide +kernel
theorem subc_ws {x y : Nat} (hx : x = 9 ∨ x = 32) (hy : y = 9 ∨ y = 32) : subc (T [x]) (T [y]) = cst x y := by
  unfold subc cst
  rcases hx with rfl | rfl <;> rcases hy with rfl | rfl <;> simp only [T_beq, lower9, lower32] <;> decide
section
variable {X : Cx} {ρ : Vars} {mg mb' : Str → Option Value}
theorem fn_sub (G : Pgm X mg mb') {x y : Nat} (hx : x = 9 ∨ x = 32) (hy : y = 9 ∨ y = 32) : FnS X 28 [.str (T [x]), .str (T [y])] (.int (cst x y)) 1 := by
  rw [← subc_ws hx hy]
  have low : ∀ {x : Nat}, x = 9 ∨ x = 32 → (Txt.lower (T [x])).length ≤ sizeLine := fun {x} h => by
    rcases h with rfl | rfl
    · rw [lower9]; decide
    · rw [lower32]; decide
  exact fn_subst G.toGw G.f_sub G.m_case G.m_move _ _ (low hx) (low hy)

/-- the signs that two texts begin with alike -/
noncomputable def cp : List Nat → List Nat → Nat
  | x :: xs, y :: ys => if x = y then cp xs ys + 1 else 0
  | _, _ => 0
theorem cp_le1 : ∀ a b, cp a b ≤ a.length
  | [], b => by simp [cp]
  | x :: xs, [] => by simp [cp]
  | x :: xs, y :: ys => by
    unfold cp; split
    · have := cp_le1 xs ys; simp; omega
    · simp
theorem cp_le2 : ∀ a b, cp a b ≤ b.length
  | [], b => by simp [cp]
  | x :: xs, [] => by simp [cp]
  | x :: xs, y :: ys => by
    unfold cp; split
    · have := cp_le2 xs ys; simp; omega
    · simp
noncomputable def mnI (a b : Int) : Int := if b < a then b else a
noncomputable def inS (a : List Nat) (c : Nat) (s : List Int × Int × Int × Int) (j : Nat) : List Int × Int × Int × Int :=
  let r := s.1.getD j 0
  let res := mnI (mnI s.2.2.1 r + 2) (s.2.1 + cst c (a.getD j 0))
  (s.1.set j res, r, res, if res < s.2.2.2 then res else s.2.2.2)
noncomputable def inner (a : List Nat) (c : Nat) (row : List Int) (i : Nat) : List Int × Int × Int × Int := (List.range a.length).foldl (inS a c) (row, 2 * (i : Int), 2 * (i : Int), 9223372036854775807)
noncomputable def outr (a b : List Nat) (mx : Int) : List Nat → List Int → Int → Int
  | [], _, res => res
  | i :: is, row, _ =>
    let s := inner a (b.getD i 0) row i
    if mx < s.2.2.2 then mx + 1 else outr a b mx is s.1 s.2.2.1
noncomputable def core (a b : List Nat) (mx : Int) : Int :=
  if mx < ((b.length : Int) - a.length) * 2 then mx + 1 else outr a b mx (List.range b.length) ((List.range a.length).map fun (i : Nat) => 2 + (i : Int) * 2) 0
/-- behind the beginning that is alike -/
noncomputable def lev₂ (a₁ b₁ : List Nat) (mx : Int) : Int :=
  let j := cp a₁.reverse b₁.reverse
  let a₂ := a₁.take (a₁.length - j)
  let b₂ := b₁.take (b₁.length - j)
  if a₂ = [] ∨ b₂ = [] then 2 * ((a₂.length : Int) + b₂.length) else if b₂.length < a₂.length then core b₂ a₂ mx else core a₂ b₂ mx
noncomputable def lev (a b : List Nat) (mx : Int) : Int := if a = b then 0 else lev₂ (a.drop (cp a b)) (b.drop (cp a b)) mx

theorem whl_count {test : Expr} {body : List Stmt} (st : Nat → Vars) (c : Nat → Nat) (ht : ∀ k, It X test (st k) (decide (0 < c k))) (hb : ∀ k, 0 < c k → Exs X body (st k) .next (st (k + 1))) (hc : ∀ k, 0 < c k → c (k + 1) + 1 = c k) : ∀ k, Whl X test body (c k) (st k) .next (st (k + c k)) := by
  intro k
  generalize hn : c k = n
  induction n generalizing k with
  | zero => exact .stop (by have := ht k; rwa [show decide (0 < c k) = false by simp [hn]] at this)
  | succ n ih =>
    have h0 : 0 < c k := by omega
    have h1 : c (k + 1) = n := by have := hc k h0; omega
    refine .step (by have := ht k; rwa [show decide (0 < c k) = true by simp [h0]] at this) (hb k h0) ?_
    have := ih (k + 1) h1
    rwa [show k + 1 + n = k + (n + 1) by omega] at this

theorem clip_nat (n d k : Nat) : clipN n d (some (k : Int)) = min k n := by
  show (max 0 (min (if (k : Int) < 0 then (k : Int) + n else k) (n : Int))).toNat = min k n
  rw [if_neg (by omega)]; omega
theorem sl_from {α : Type} {l : List α} (k : Nat) : sl l (some (k : Int)) none = l.drop k := by
  unfold sl
  rw [clip_nat, show clipN l.length l.length none = l.length from rfl]
  by_cases h : k ≤ l.length
  · rw [Nat.min_eq_left h]; exact List.take_of_length_le (by simp)
  · rw [Nat.min_eq_right (by omega), List.drop_eq_nil_of_le (Nat.le_refl _), List.drop_eq_nil_of_le (by omega)]; simp
theorem sl_to {α : Type} {l : List α} (k : Nat) : sl l none (some (k : Int)) = l.take k := by
  unfold sl
  rw [clip_nat, show clipN l.length 0 none = 0 from rfl, List.drop_zero, Nat.sub_zero]
  by_cases h : k ≤ l.length
  · rw [Nat.min_eq_left h]
  · rw [Nat.min_eq_right (by omega), List.take_length, List.take_of_length_le (by omega)]
theorem sl_neg {α : Type} {l : List α} (k : Nat) (hk : 0 < k) : sl l none (some (-(k : Int))) = l.take (l.length - k) := by
  unfold sl
  have e : clipN l.length l.length (some (-(k : Int))) = l.length - k := by
    show (max 0 (min (if -(k : Int) < 0 then -(k : Int) + l.length else -(k : Int)) (l.length : Int))).toNat = _
    rw [if_pos (by omega)]; omega
  rw [e, show clipN l.length 0 none = 0 from rfl, List.drop_zero, Nat.sub_zero]
theorem sl_all {α : Type} {l : List α} : sl l none none = l := by
  unfold sl
  rw [show clipN l.length 0 none = 0 from rfl, show clipN l.length l.length none = l.length from rfl]; simp

theorem ev_sitemT {value slice : Expr} {pos : Pos} {l : List Nat} {k : Nat} {c : Nat} (hv : Ev X value ρ (.str (T l))) (hs : Ev X slice ρ (.int (k : Int))) (hc : l[k]? = some c) (hfit : l.length ≤ sizeLine)
    (hss : ∀ o i, subscripted slice false o i = operate [o, i] (getItem o i) := by intro _ _; with_unfolding_all rfl) : Ev X (.Subscript value slice pos) ρ (.str (T [c])) := by
  have hk : k < l.length := (List.getElem?_eq_some_iff.mp hc).1
  have hsz : sizeLine = 2 ^ 24 := rfl
  refine ev_sitem hv hs (by omega) (by omega) ?_ hss
  rw [T_len, seqIndex_pos hk]
  simpa [T] using hc
theorem ev_tslice {value : Expr} {lo hi : Option Expr} {p pos : Pos} {l l' : List Nat} {i j : Option Int} (hv : Ev X value ρ (.str (T l))) (hl : EvO X lo ρ i) (hh : EvO X hi ρ j) (e : sl l i j = l') (hfit : l.length ≤ 16777216) : Ev X (.Subscript value (.Slice lo hi none p) pos) ρ (.str (T l')) := by
  have z := ev_sslice hv hl hh (p := p) (pos := pos) (by rw [T_len]; exact hfit)
  have e' : (T l).cps.toList = l := by simp
  rw [e', e] at z; exact z
theorem tr_T {l : List Nat} (hfit : l.length ≤ 16777216) : Tr X (.str (T l)) (!l.isEmpty) := by
  have z := tr_str (X := X) (x := T l) (by rw [T_len]; exact hfit)
  have e : ((T l).length != 0) = !l.isEmpty := by rw [T_len]; cases l <;> simp
  rw [e] at z; exact z
theorem op_Teq {l m : List Nat} : Op2 X (compareOp .Eq) (.str (T l)) (.str (T m)) (.bool (decide (l = m))) := by
  have z := op_seq (X := X) (x := T l) (y := T m); rw [T_beq] at z; exact z
theorem op_Tlen {l : List Nat} (hfit : l.length ≤ 16777216) : OpN X (fun vs => call (.builtin "len") vs) [.str (T l)] (.int l.length) := by
  have z := op_slen (X := X) (x := T l) (by rw [T_len]; exact hfit); rw [T_len] at z; exact z
theorem head_some {l : List Nat} (h : (!l.isEmpty) = true) : ∃ c, l.head? = some c := by cases l with
  | nil => simp at h
  | cons c l => exact ⟨c, rfl⟩
theorem drop_head {l : List Nat} {k c : Nat} (h : (l.drop k).head? = some c) : l[k]? = some c := by
  rw [List.head?_drop] at h; exact h
theorem it_eq {e : Expr} {b c : Bool} (h : It X e ρ b) (e' : b = c) : It X e ρ c := e' ▸ h

end
end PL
end
noncomputable section
open PySem PySem.W PyProof.Rows PySem.Builtin.Str
set_option Elab.async false
set_option linter.unusedVariables false
set_option maxRecDepth 100000
set_option pp.maxSteps 600
namespace PL
local macro_rules | `(tactic| walk_at "at") => `(tactic| (repeat (first | exact At.here | exact AtMut.here | apply At.there | apply AtMut.there)))
local macro_rules | `(tactic| walk_at "put") => `(tactic| (repeat (first | exact Put.loc | exact Put.locNo | exact Put.cell | exact PutNew.no | exact PutNew.val | exact PutNew.mu | exact PutMut.here | exact Thaw.here | apply Put.there | apply PutNew.there | apply PutMut.there | apply Thaw.there)))
local macro_rules | `(tactic| walk_at "nm") => `(tactic| exact ev_name (by walk_at "at"))

section
variable {X : Cx} {mg mb' : Str → Option Value}

theorem cp_pos {a b : List Nat} : decide (0 < cp a b) = (!a.isEmpty && (!b.isEmpty && (decide (a.head? = b.head?) && true))) := by
  cases a with
  | nil => simp [cp]
  | cons x xs => cases b with
    | nil => simp [cp]
    | cons y ys =>
      rw [cp]
      by_cases h : x = y <;> simp [h]
theorem cp_step {a b : List Nat} (h : 0 < cp a b) : cp (a.drop 1) (b.drop 1) + 1 = cp a b := by
  cases a with
  | nil => simp [cp] at h
  | cons x xs => cases b with
    | nil => simp [cp] at h
    | cons y ys =>
      rw [cp] at h ⊢
      split at h
      · rename_i e; rw [if_pos e]; rfl
      · cases h
/-- the frame of _levenshtein_distance -/
noncomputable abbrev lv (a b : PV) (mx : Int) (pre post row res : VV) : Vars :=
  [("a", .loc, .val a), ("b", .loc, .val b), ("max_cost", .loc, .val (.int mx)), ("pre", .loc, pre), ("post", .loc, post), ("row", .loc, row), ("result", .loc, res),
   ("bindex", .loc, .no), ("bchar", .loc, .no), ("distance", .loc, .no), ("minimum", .loc, .no), ("index", .loc, .no), ("substitute", .loc, .no), ("insert_delete", .loc, .no)]

theorem range2 : ∀ m : Nat, m ≤ 40 → Builtin.Range.small 2 (2 * ((m : Int) + 1)) 2 = true ∧ Builtin.Range.rangeSize 2 (2 * ((m : Int) + 1)) 2 = (m : Int) := by
  intro m hm
  have key : (List.range 41).all (fun m => decide (Builtin.Range.small 2 (2 * ((m : Int) + 1)) 2 = true ∧ Builtin.Range.rangeSize 2 (2 * ((m : Int) + 1)) 2 = (m : Int))) = true := by decide +kernel
  have := List.all_eq_true.mp key m (List.mem_range.mpr (by omega))
  simpa using this

noncomputable abbrev iL (l : List Int) : List PV := l.map .int
theorem iL_get {l : List Int} {j : Nat} (h : j < l.length) : (iL l)[j]? = some (.int (l.getD j 0)) := by
  rw [List.getElem?_map, List.getElem?_eq_getElem h, List.getD_eq_getElem?_getD, List.getElem?_eq_getElem h]; rfl
theorem iL_set {l : List Int} {j : Nat} {v : Int} : (iL l).set j (.int v) = iL (l.set j v) := by simp [List.map_set]

/-- the frame within the inner loop -/
noncomputable abbrev li (a b : PV) (mx : Int) (pre post : VV) (pl : Bool) (row : List Int) (res : Int) (bi : Nat) (bc : Nat) (d m : Int) : Vars :=
  [("a", .loc, .val a), ("b", .loc, .val b), ("max_cost", .loc, .val (.int mx)), ("pre", .loc, pre), ("post", .loc, post), ("row", .loc, .mu pl (iL row)), ("result", .loc, .val (.int res)),
   ("bindex", .loc, .val (.int (bi : Int))), ("bchar", .loc, .val (.str (T [bc]))), ("distance", .loc, .val (.int d)), ("minimum", .loc, .val (.int m)), ("index", .loc, .no), ("substitute", .loc, .no), ("insert_delete", .loc, .no)]
theorem inS_len (a : List Nat) (c : Nat) (js : List Nat) : ∀ s, (js.foldl (inS a c) s).1.length = s.1.length := by
  induction js with
  | nil => intro s; rfl
  | cons j js ih => intro s; rw [List.foldl_cons, ih]; simp [inS]

/-- if test: x = e -/
theorem ex_if_set {ρ ρ₁ : Vars} {test e : Expr} {x : Str} {xp ap pos : Pos} {b : Bool} {p q : PV} (ht : It X test ρ b) (he : Ev X e ρ p) (h1 : Put ρ x (if b = true then p else q) ρ₁) (h2 : b = false → ρ₁ = ρ) (hs : swapsWith e (some (.Name x xp)) ap.line X.env = pure false := by rfl) : Ex1 X (.If test [.Assign [.Name x xp] e ap] [] pos) ρ .next ρ₁ := by
  cases b with
  | true => exact ex_if ht (fun _ => exs_one (ex_assign he h1 hs)) (fun h => by cases h)
  | false =>
    have e : ρ₁ = ρ := h2 rfl
    subst e
    exact ex_if ht (fun h => by cases h) (fun _ => exs_nil)

theorem lev_core (G : Pgm X mg mb') {A : Around} {q : Str} {code : Value} {L : Addr} (hA : Room A 1) (a b : List Nat) (mx k j : Int) (wa : Ws a) (wb : Ws b) (la : a.length ≤ 40) (lb : b.length ≤ 40) (hab : a.length ≤ b.length) :
    Rt { X with A := A, env := fenv q (mb 6) code L 35 } ((fbody (mb 6)).drop 12) (lv (.str (T a)) (.str (T b)) mx (.val (.int k)) (.val (.int j)) .no .no) (.int (core a b mx)) := by
  have W := G.toGw.wd (f := 35) hA (q := q) (st := mb 6) (code := code) (L := L)
  have hh := hA.handled
  have hsz : sizeLine = 2 ^ 24 := rfl
  have evLen : ∀ {ρ : Vars} {x : Str} {p p' pos : Pos} {l : List Nat}, l.length ≤ 40 → At ρ x (.str (T l)) → (x == ("__debug__" : Str)) = false → Ev _ (.Call (.Name "len" p) [.Name x p'] [] pos) ρ (.int l.length) := fun {ρ x p p' pos l} hl he hd =>
      ev_call_builtin (id := "len") (evv_builtin W G.n_len G.b_len rfl) (evs_cons (ev_name he hd) evs_nil) (op_Tlen (by omega))
  have evMove : ∀ {ρ : Vars} {p : Pos}, Ev _ (.Name "_MOVE_COST" p) ρ (.int 2) := fun {ρ p} => ev_global W G.m_move (fun _ _ => mk_int) rfl
  unfold core
  refine rt_if (it_cmp (ev_binop (ev_binop (evLen lb (by walk_at "at") (by decide)) (evLen la (by walk_at "at") (by decide)) op_sub) evMove (op_mul (.of_right (by decide)))) (by walk_at "nm") op_gt) (fun h => rt_eq ?_ (rt_return (ev_binop (by walk_at "nm") ev_int op_add))) fun h => ?_
  · rw [if_pos (of_decide_eq_true h)]
  rw [if_neg (of_decide_eq_false h)]
  refine rt_cons (ex_assign_new (evn_listrange (n := a.length) hh (evv_builtin W G.n_list G.b_list rfl) (evv_builtin W G.n_range G.b_range rfl) evMove (ev_binop evMove (ev_binop (evLen la (by walk_at "at") (by decide)) ev_int op_add) (op_mul (.of_left (by decide)))) evMove (by decide) (PyProof.noPylong_of_log2 (by decide +kernel)) ?_ ?_ (by omega)) (by walk_at "put")) ?_
  · exact (range2 a.length la).1
  · exact (range2 a.length la).2
  refine rt_cons (ex_assign ev_int (by walk_at "put")) ?_
  have hrow : rng 2 2 a.length = iL ((List.range a.length).map fun (i : Nat) => 2 + (i : Int) * 2) := by simp [rng, iL]
  rw [hrow]
  have hrl : ((List.range a.length).map fun (i : Nat) => 2 + (i : Int) * 2).length = a.length := by simp
  generalize ((List.range a.length).map fun (i : Nat) => 2 + (i : Int) * 2) = row at hrl ⊢
  have outer : ∀ (is : List Nat) (pl : Bool) (row : List Int) (res : Int), (∀ i ∈ is, i < b.length) → row.length = a.length → ∃ fl ρ', LoopL { X with A := A, env := fenv q (mb 6) code L 35 } (ftgt (stm (fbody (mb 6)) 15)) (fbod (stm (fbody (mb 6)) 15)) (is.map fun (i : Nat) => PV.int (0 + (i : Int) * 1)) (lv (.str (T a)) (.str (T b)) mx (.val (.int k)) (.val (.int j)) (.mu pl (iL row)) (.val (.int res))) fl ρ' ∧
      (fl = .ret (.int (outr a b mx is row res)) ∨ (fl = .next ∧ ∃ pl' row', ρ' = lv (.str (T a)) (.str (T b)) mx (.val (.int k)) (.val (.int j)) (.mu pl' (iL row')) (.val (.int (outr a b mx is row res))))) := ?_
  · obtain ⟨fl, ρ', hl, hfl⟩ := outer (List.range b.length) true row 0 (by simp) hrl
    rcases hfl with rfl | ⟨rfl, pl', row', rfl⟩
    · exact rt_stop (ex_forL (it_range1 hh (evv_builtin W G.n_range G.b_range rfl) (evLen lb (by walk_at "at") (by decide)) (by omega)) hl)
    · exact rt_cons (ex_forL (it_range1 hh (evv_builtin W G.n_range G.b_range rfl) (evLen lb (by walk_at "at") (by decide)) (by omega)) hl) (rt_return (by walk_at "nm"))
  intro is
  induction is with
  | nil => intro pl row res _ _; exact ⟨_, _, .nil, .inr ⟨rfl, pl, row, rfl⟩⟩
  | cons i is ih =>
    intro pl row res hi hr
    have hib : i < b.length := hi i (List.mem_cons_self ..)
    have hbi : b[i]? = some (b.getD i 0) := by rw [List.getElem?_eq_getElem hib, List.getD_eq_getElem?_getD, List.getElem?_eq_getElem hib]; rfl
    have wbi : b.getD i 0 = 9 ∨ b.getD i 0 = 32 := wb _ (List.mem_of_getElem? hbi)
    have inn : ∀ (js : List Nat) (pl : Bool) (s : List Int × Int × Int × Int), (∀ x ∈ js, x < a.length) → s.1.length = a.length → ∃ pl', LoopL { X with A := A, env := fenv q (mb 6) code L 35 } (ftgt (stm (fbod (stm (fbody (mb 6)) 15)) 3)) (fbod (stm (fbod (stm (fbody (mb 6)) 15)) 3)) (js.map fun (i : Nat) => PV.int (0 + (i : Int) * 1))
        (li (.str (T a)) (.str (T b)) mx (.val (.int k)) (.val (.int j)) pl s.1 s.2.2.1 i (b.getD i 0) s.2.1 s.2.2.2) .next
        (li (.str (T a)) (.str (T b)) mx (.val (.int k)) (.val (.int j)) pl' (js.foldl (inS a (b.getD i 0)) s).1 (js.foldl (inS a (b.getD i 0)) s).2.2.1 i (b.getD i 0) (js.foldl (inS a (b.getD i 0)) s).2.1 (js.foldl (inS a (b.getD i 0)) s).2.2.2) := by
      intro js
      induction js with
      | nil => intro pl s _ _; exact ⟨pl, .nil⟩
      | cons jj js ih2 =>
        intro pl s hj hs
        have hja : jj < a.length := hj jj (List.mem_cons_self ..)
        have haj : a[jj]? = some (a.getD jj 0) := by rw [List.getElem?_eq_getElem hja, List.getD_eq_getElem?_getD, List.getElem?_eq_getElem hja]; rfl
        have waj : a.getD jj 0 = 9 ∨ a.getD jj 0 = 32 := wa _ (List.mem_of_getElem? haj)
        obtain ⟨pl', hrec⟩ := ih2 false (inS a (b.getD i 0) s jj) (fun x hx => hj x (List.mem_cons_of_mem _ hx)) (by simp [inS, hs])
        refine ⟨pl', ?_⟩
        rw [List.map_cons, List.foldl_cons]
        have e0 : (0 : Int) + (jj : Int) * 1 = (jj : Int) := by omega
        rw [e0]
        refine .cons (asg_name (by walk_at "put")) ?_ hrec
        · refine exs_cons (ex_assign (ev_binop (by walk_at "nm") (ev_call_fn (evv_global W G.m_sub rfl) (evs_cons (by walk_at "nm") (evs_cons (ev_sitemT (by walk_at "nm") (by walk_at "nm") haj (by omega)) evs_nil)) (fn_sub G wbi waj).at hA) op_add) (by walk_at "put")) ?_
          refine exs_cons (ex_assign (ev_thaw (x := "row") (by walk_at "put") (ev_item (by walk_at "nm") (by walk_at "nm") (iL_get (by omega)) (by simp; omega)) trivial) (by walk_at "put")) ?_
          refine exs_cons (ex_assign (ev_binop (ev_call_builtin (id := "min") (evv_builtin W G.n_min G.b_min rfl) (evs_cons (by walk_at "nm") (evs_cons (by walk_at "nm") evs_nil)) (op_min hh)) evMove op_add) (by walk_at "put")) ?_
          refine exs_cons (ex_assign (ev_call_builtin (id := "min") (evv_builtin W G.n_min G.b_min rfl) (evs_cons (by walk_at "nm") (evs_cons (by walk_at "nm") evs_nil)) (op_min hh)) (by walk_at "put")) ?_
          refine exs_cons (ex_setitem (by walk_at "nm") (by walk_at "at") (by walk_at "nm") (by simp; omega) (by simp; omega) (by walk_at "put")) ?_
          refine exs_cons (ex_if_set (x := "minimum") (q := PV.int s.2.2.2) (it_cmp (by walk_at "nm") (by walk_at "nm") op_lt) (by walk_at "nm") (by walk_at "put") (fun h => by rw [h]; rfl)) (exs_done ?_)
          rw [iL_set]
          have e3 : ∀ r m : Int, (if decide (r < m) = true then PV.int r else PV.int m) = PV.int (if r < m then r else m) := fun r m => by by_cases h : r < m <;> simp [h]
          rw [e3]
          exact .same (.same (.same (.same (.same (.same (.same (.same (.same (.same (.same (.drop (.drop (.drop .nil)))))))))))))
    obtain ⟨pl', hin⟩ := inn (List.range a.length) pl (row, 2 * (i : Int), 2 * (i : Int), 9223372036854775807) (by simp) hr
    have hlen : (inner a (b.getD i 0) row i).1.length = a.length := by unfold inner; rw [inS_len]; exact hr
    change LoopL _ _ _ _ _ _ (li (.str (T a)) (.str (T b)) mx (.val (.int k)) (.val (.int j)) pl' (inner a (b.getD i 0) row i).1 (inner a (b.getD i 0) row i).2.2.1 i (b.getD i 0) (inner a (b.getD i 0) row i).2.1 (inner a (b.getD i 0) row i).2.2.2) at hin
    have e0 : (0 : Int) + (i : Int) * 1 = (i : Int) := by omega
    have e2 : (i : Int) * 2 = 2 * (i : Int) := by omega
    have hout : outr a b mx (i :: is) row res = if mx < (inner a (b.getD i 0) row i).2.2.2 then mx + 1 else outr a b mx is (inner a (b.getD i 0) row i).1 (inner a (b.getD i 0) row i).2.2.1 := rfl
    rw [hout, List.map_cons, e0]
    generalize inner a (b.getD i 0) row i = S at hin hlen ⊢
    have evMul : ∀ {ρ : Vars} {p p' : Pos}, At ρ "bindex" (.int (i : Int)) → Ev { X with A := A, env := fenv q (mb 6) code L 35 } (.BinOp (.Name "bindex" p) .Mult (.Name "_MOVE_COST" p') p) ρ (.int (2 * (i : Int))) := fun {ρ p p'} hat => by
      rw [← e2]; exact ev_binop (ev_name hat) evMove (op_mul (.of_right (by decide)))
    by_cases hm : mx < S.2.2.2
    · rw [if_pos hm]
      refine ⟨_, _, .ret (asg_name (by walk_at "put")) (exs_cons (ex_assign (ev_sitemT (by walk_at "nm") (by walk_at "nm") hbi (by omega)) (by walk_at "put")) (exs_cons (ex_assign2 (p := .int (2 * (i : Int))) ?_ (asg_name (by walk_at "put")) (asg_name (by walk_at "put"))) (exs_cons (ex_assign ev_int (by walk_at "put"))
        (exs_cons (ex_forL (it_range1 hh (evv_builtin W G.n_range G.b_range rfl) (evLen la (by walk_at "at") (by decide)) (by omega)) hin) (exs_stop (ex_if (it_cmp (by walk_at "nm") (by walk_at "nm") op_gt) (fun _ => exs_one (ex_return (ev_binop (by walk_at "nm") ev_int op_add))) (fun h => ?_))))))), .inl rfl⟩
      · rw [← e2]; exact ev_binop (by walk_at "nm") evMove (op_mul (.of_right (by decide)))
      · simp [hm] at h
    · rw [if_neg hm]
      obtain ⟨fl, ρ', hl, hfl⟩ := ih pl' S.1 S.2.2.1 (fun x hx => hi x (List.mem_cons_of_mem _ hx)) hlen
      refine ⟨fl, ρ', .cons (asg_name (by walk_at "put")) (exs_cons (ex_assign (ev_sitemT (by walk_at "nm") (by walk_at "nm") hbi (by omega)) (by walk_at "put")) (exs_cons (ex_assign2 (p := .int (2 * (i : Int))) ?_ (asg_name (by walk_at "put")) (asg_name (by walk_at "put"))) (exs_cons (ex_assign ev_int (by walk_at "put"))
        (exs_cons (ex_forL (it_range1 hh (evv_builtin W G.n_range G.b_range rfl) (evLen la (by walk_at "at") (by decide)) (by omega)) hin) (exs_cons (ex_if (it_cmp (by walk_at "nm") (by walk_at "nm") op_gt) (fun h => ?_) (fun _ => exs_nil)) (exs_done ?_)))))) hl, hfl⟩
      · rw [← e2]; exact ev_binop (by walk_at "nm") evMove (op_mul (.of_right (by decide)))
      · simp [hm] at h
      · exact .same (.same (.same (.same (.same (.same (.same (.drop (.drop (.drop (.drop (.same (.same (.same .nil)))))))))))))
theorem fn_lev (G : Pgm X mg mb') (a b : List Nat) (mx : Int) (ha : Ws a) (hb : Ws b) (la : a.length ≤ 40) (lb : b.length ≤ 40) : FnS X 35 [.str (T a), .str (T b), .int mx] (.int (lev a b mx)) 2 := by
  refine fn_of G.toGw (fun L => lv (.str (T a)) (.str (T b)) mx .no .no .no .no) (xs := ["a", "b", "max_cost"]) G.f_lev ?_ (by decide) ?_ ?_ ?_ ?_ ?_
  · intro n q doc pm an code ct vs hvs
    match vs, hvs with
    | [u, v, w], _ => rfl
  · intro L x hx
    simp only [List.mem_cons, List.not_mem_nil, or_false] at hx
    rcases hx with rfl | rfl | rfl <;> exact .inl rfl
  · intro L
    exact .argL rfl (.argL rfl (.argL rfl (.loc rfl (.loc rfl (.loc rfl (.loc rfl (.loc rfl (.loc rfl (.loc rfl (.loc rfl (.loc rfl (.loc rfl (.loc rfl .nil)))))))))))))
  · intro L O; simp [List.filterMap_cons, ownOf]
  · intro L; simp only [List.map_cons, List.map_nil]; decide
  · intro A q code L hA
    have W := G.toGw.wd (f := 35) hA (q := q) (st := mb 6) (code := code) (L := L)
    have hh := hA.handled
    have hsz : sizeLine = 2 ^ 24 := rfl
    refine rt_if (it_cmp (by walk_at "nm") (by walk_at "nm") op_seq) (fun h => rt_eq ?_ (rt_return ev_int)) fun h => ?_
    · rw [T_beq] at h; have h := of_decide_eq_true h; simp [lev, h]
    rw [T_beq] at h
    have hab : a ≠ b := of_decide_eq_false h
    refine rt_cons (ex_assign ev_int (by walk_at "put")) ?_
    refine rt_cons (ex_while (whl_count (fun k => lv (.str (T a)) (.str (T b)) mx (.val (.int (k : Int))) .no .no .no) (fun k => cp (a.drop k) (b.drop k)) ?_ ?_ ?_ 0)) ?_
    · intro k
      rw [cp_pos]
      refine it_boolop (its_and (it_value (ev_tslice (by walk_at "nm") (evo_int (by walk_at "nm")) evo_nil (sl_from k) (by omega)) (tr_T (by simp; omega))) fun h1 => its_and (it_value (ev_tslice (by walk_at "nm") (evo_int (by walk_at "nm")) evo_nil (sl_from k) (by omega)) (tr_T (by simp; omega))) fun h2 => ?_)
      obtain ⟨c, hc⟩ := head_some h1
      obtain ⟨d, hd⟩ := head_some h2
      refine its_and (it_eq (it_cmp (ev_sitemT (by walk_at "nm") (by walk_at "nm") (drop_head hc) (by omega)) (ev_sitemT (by walk_at "nm") (by walk_at "nm") (drop_head hd) (by omega)) op_Teq) ?_) fun _ => its_and_nil
      rw [hc, hd]; simp
    · intro k hk
      exact exs_one (ex_aug (by walk_at "at") ev_int op_iadd (by walk_at "put"))
    · intro k hk
      have := cp_step hk
      rw [List.drop_drop, List.drop_drop] at this; exact this
    rw [Nat.zero_add, List.drop_zero, List.drop_zero]
    have k1 := cp_le1 a b
    have k2 := cp_le2 a b
    generalize hk : cp a b = k at k1 k2 ⊢
    refine rt_cons (ex_assign (ev_tslice (by walk_at "nm") (evo_int (by walk_at "nm")) evo_nil (sl_from k) (by omega)) (by walk_at "put")) ?_
    refine rt_cons (ex_assign (ev_tslice (by walk_at "nm") (evo_int (by walk_at "nm")) evo_nil (sl_from k) (by omega)) (by walk_at "put")) ?_
    refine rt_cons (ex_assign ev_int (by walk_at "put")) ?_
    have la1 : (a.drop k).length ≤ 40 := by simp; omega
    have lb1 : (b.drop k).length ≤ 40 := by simp; omega
    have wa1 := ha.drop k
    have wb1 := hb.drop k
    rw [show lev a b mx = lev₂ (a.drop k) (b.drop k) mx from by rw [lev, if_neg hab, hk]]
    generalize a.drop k = a₁ at la1 wa1 ⊢
    generalize b.drop k = b₁ at lb1 wb1 ⊢
    have post0 : ∀ (l : List Nat) (j : Nat), sl l none (if j = 0 then none else some (-(j : Int))) = l.take (l.length - j) := fun l j => by
      by_cases h0 : j = 0
      · rw [if_pos h0, h0, sl_all, Nat.sub_zero, List.take_length]
      · rw [if_neg h0, sl_neg j (by omega)]
    have por : ∀ {ρ : Vars} {pos p1 p2 : Pos} {k1 : Nat} {j : Nat} {Y : Cx}, At ρ "post" (.int (-(j : Int))) → EvO Y (some (.BoolOp .Or [.Name "post" p1, .Constant .none k1 p2] pos)) ρ (if j = 0 then none else some (-(j : Int))) := fun {ρ pos p1 p2 k1 j Y} hat => by
      by_cases h0 : j = 0
      · rw [if_pos h0]
        exact evo_none (ev_or2 (ev_name hat) tr_int (by subst h0; intro h; cases h) (fun _ => ev_none))
      · rw [if_neg h0]
        refine evo_int (ev_or2 (ev_name hat) tr_int (fun _ => rfl) (fun h => ?_))
        simp at h; omega
    refine rt_cons (ex_while (whl_count (fun j => lv (.str (T a₁)) (.str (T b₁)) mx (.val (.int (k : Int))) (.val (.int (-(j : Int)))) .no .no) (fun j => cp (a₁.reverse.drop j) (b₁.reverse.drop j)) ?_ ?_ ?_ 0)) ?_
    · intro j
      rw [cp_pos]
      have emp : ∀ l : List Nat, (!(l.take (l.length - j)).isEmpty) = !(l.reverse.drop j).isEmpty := fun l => by
        rw [Bool.eq_iff_iff]; simp [← List.length_eq_zero_iff]
      refine it_boolop (its_and (it_eq (it_value (ev_tslice (by walk_at "nm") evo_nil (por (by walk_at "at")) (post0 _ j) (by omega)) (tr_T (by simp; omega))) (emp a₁)) fun h1 => its_and (it_eq (it_value (ev_tslice (by walk_at "nm") evo_nil (por (by walk_at "at")) (post0 _ j) (by omega)) (tr_T (by simp; omega))) (emp b₁)) fun h2 => ?_)
      obtain ⟨c, hc⟩ := head_some h1
      obtain ⟨d, hd⟩ := head_some h2
      have item : ∀ {l : List Nat} {c : Nat}, l.length ≤ 40 → (l.reverse.drop j).head? = some c → -(2 ^ 63) ≤ -(j : Int) - 1 ∧ (seqIndex? (-(j : Int) - 1) (T l).length).bind ((T l).cps[·]?) = some c := fun {l c} hl hc => by
        rw [List.head?_drop] at hc
        have hj : j < l.length := by have := (List.getElem?_eq_some_iff.mp hc).1; simpa using this
        rw [List.getElem?_reverse hj] at hc
        refine ⟨by omega, ?_⟩
        have e : seqIndex? (-(j : Int) - 1) (T l).length = some (l.length - 1 - j) := by
          rw [T_len]; simp only [seqIndex?]
          rw [if_pos (show -(j : Int) - 1 < 0 by omega), show -(j : Int) - 1 + (l.length : Int) = ((l.length - 1 - j : Nat) : Int) by omega, if_pos (by simp; omega)]
          simp
        rw [e]; simpa using hc
      refine its_and (it_eq (it_cmp (ev_sitem (by walk_at "nm") (ev_binop (by walk_at "nm") ev_int op_sub) (item la1 hc).1 (by omega) (item la1 hc).2) (ev_sitem (by walk_at "nm") (ev_binop (by walk_at "nm") ev_int op_sub) (item lb1 hd).1 (by omega) (item lb1 hd).2) op_seq) ?_) fun _ => its_and_nil
      rw [hc, hd]
      have := T_beq [c] [d]
      simpa using this
    · intro j hj
      refine exs_one (ex_aug (by walk_at "at") ev_int op_isub ?_)
      have e : -((j + 1 : Nat) : Int) = -(j : Int) - 1 := by omega
      simp only [e]
      exact (by walk_at "put")
    · intro j hj
      have := cp_step hj
      rw [List.drop_drop, List.drop_drop] at this; exact this
    rw [Nat.zero_add, List.drop_zero, List.drop_zero]
    unfold lev₂
    have j1 := cp_le1 a₁.reverse b₁.reverse
    have j2 := cp_le2 a₁.reverse b₁.reverse
    generalize cp a₁.reverse b₁.reverse = j at j1 j2 ⊢
    refine rt_cons (ex_assign (ev_tslice (by walk_at "nm") evo_nil (por (by walk_at "at")) (post0 _ j) (by omega)) (by walk_at "put")) ?_
    refine rt_cons (ex_assign (ev_tslice (by walk_at "nm") evo_nil (por (by walk_at "at")) (post0 _ j) (by omega)) (by walk_at "put")) ?_
    have la2 : (a₁.take (a₁.length - j)).length ≤ 40 := by simp; omega
    have lb2 : (b₁.take (b₁.length - j)).length ≤ 40 := by simp; omega
    have wa2 := wa1.take (a₁.length - j)
    have wb2 := wb1.take (b₁.length - j)
    show Rt _ _ _ (.int (if a₁.take (a₁.length - j) = [] ∨ b₁.take (b₁.length - j) = [] then 2 * (((a₁.take (a₁.length - j)).length : Int) + (b₁.take (b₁.length - j)).length) else if (b₁.take (b₁.length - j)).length < (a₁.take (a₁.length - j)).length then core (b₁.take (b₁.length - j)) (a₁.take (a₁.length - j)) mx else core (a₁.take (a₁.length - j)) (b₁.take (b₁.length - j)) mx))
    generalize a₁.take (a₁.length - j) = a₂ at la2 wa2 ⊢
    generalize b₁.take (b₁.length - j) = b₂ at lb2 wb2 ⊢
    have evLen : ∀ {ρ : Vars} {x : Str} {p p' pos : Pos} {l : List Nat}, l.length ≤ 40 → At ρ x (.str (T l)) → (x == ("__debug__" : Str)) = false → Ev _ (.Call (.Name "len" p) [.Name x p'] [] pos) ρ (.int l.length) := fun {ρ x p p' pos l} hl he hd =>
      ev_call_builtin (id := "len") (evv_builtin W G.n_len G.b_len rfl) (evs_cons (ev_name he hd) evs_nil) (op_Tlen (by omega))
    have evMove : ∀ {ρ : Vars} {p : Pos}, Ev _ (.Name "_MOVE_COST" p) ρ (.int 2) := fun {ρ p} => ev_global W G.m_move (fun _ _ => mk_int) rfl
    have evMax : ∀ {ρ : Vars} {p : Pos}, Ev _ (.Name "_MAX_STRING_SIZE" p) ρ (.int 40) := fun {ρ p} => ev_global W G.m_max (fun _ _ => mk_int) rfl
    refine rt_if (it_boolop (its_or (it_not (it_value (by walk_at "nm") (tr_T (by omega)))) fun h1 => its_or (it_not (it_value (by walk_at "nm") (tr_T (by omega)))) fun h2 => its_or_nil)) (fun h => rt_eq ?_ (rt_return (ev_binop evMove (ev_binop (evLen la2 (by walk_at "at") (by decide)) (evLen lb2 (by walk_at "at") (by decide)) op_add) (op_mul (.of_left (by decide)))))) fun h => ?_
    · rw [if_pos (by simpa using h)]
    rw [if_neg (by simpa using h)]
    refine rt_if (it_boolop (its_or (it_cmp (evLen la2 (by walk_at "at") (by decide)) evMax op_gt) fun h1 => its_or (it_cmp (evLen lb2 (by walk_at "at") (by decide)) evMax op_gt) fun h2 => its_or_nil)) (fun h => ?_) fun h => ?_
    · exfalso
      simp at h; omega
    clear h
    · by_cases hl : b₂.length < a₂.length
      · rw [if_pos hl]
        refine rt_cons (ex_if (it_cmp (evLen lb2 (by walk_at "at") (by decide)) (evLen la2 (by walk_at "at") (by decide)) op_lt) (fun _ => exs_one (ex_swap (x := "a") (y := "b") hh (ev_tuple (evs_cons (by walk_at "nm") (evs_cons (by walk_at "nm") evs_nil))) (by walk_at "put") (by walk_at "put"))) (fun h => ?_)) (lev_core G hA b₂ a₂ mx _ _ wb2 wa2 lb2 la2 (by omega))
        simp at h; omega
      · rw [if_neg hl]
        refine rt_cons (ex_if (it_cmp (evLen lb2 (by walk_at "at") (by decide)) (evLen la2 (by walk_at "at") (by decide)) op_lt) (fun h => ?_) (fun _ => exs_nil)) (lev_core G hA a₂ b₂ mx _ _ wa2 wb2 la2 lb2 (by omega))
        simp at h; omega
end
end PL
end
noncomputable section
open PySem PySem.W PyProof.Rows PySem.Builtin.Str
set_option Elab.async false
set_option linter.unusedVariables false
set_option maxRecDepth 100000
set_option pp.maxSteps 600
namespace PL
local macro_rules | `(tactic| walk_at "at") => `(tactic| (repeat (first | exact At.here | exact AtMut.here | apply At.there | apply AtMut.there)))
local macro_rules | `(tactic| walk_at "put") => `(tactic| (repeat (first | exact Put.loc | exact Put.locNo | exact Put.cell | exact PutNew.no | exact PutNew.val | exact PutNew.mu | exact PutMut.here | exact Thaw.here | apply Put.there | apply PutNew.there | apply PutMut.there | apply Thaw.there)))
local macro_rules | `(tactic| walk_at "nm") => `(tactic| exact ev_name (by walk_at "at"))
local macro_rules | `(tactic| walk_at "ini") => `(tactic| (repeat (first | exact Ini.nil | apply Ini.argL rfl | apply Ini.loc rfl | apply Ini.argC rfl rfl | apply Ini.cell rfl rfl)))
local macro_rules | `(tactic| walk_at "nd") => `(tactic| (intro L O; simp [List.filterMap_cons, ownOf]))
local macro_rules | `(tactic| walk_at "nn") => `(tactic| (intro L; simp only [List.map_cons, List.map_nil]; decide))
local macro_rules | `(tactic| walk_at "kinds") => `(tactic| (intro L x hx; (repeat (rcases List.mem_cons.mp hx with h | hx; · (subst h; first | exact .inl rfl | exact .inr ⟨rfl, rfl⟩))); cases hx))

theorem op_sgt {X : Cx} {x y : Str} : Op2 X (compareOp .Gt) (.str x) (.str y) (.bool (decide (y.cps.toList < x.cps.toList))) := fun V s u v Q E vol ru rv hQ => by
  obtain ⟨t, rfl⟩ := ru; obtain ⟨t', rfl⟩ := rv; exact PySem.P.gt_str (hQ _ _ (.refl s) mk_bool)

/-- how two texts stand -/
noncomputable def coll (x y : Str) : Int := b2i (decide (y.cps.toList < x.cps.toList)) - b2i (decide (x.cps.toList < y.cps.toList))
noncomputable def colStep (size : Int) (col : Int) (c : Nat) : Int := if c = 32 then col + 1 else col + size - col.fmod size
noncomputable def column (l : List Nat) (size : Int) : Int := l.foldl (colStep size) 0
section
variable {X : Cx} {mg mb' : Str → Option Value}
theorem fn_coll (G : Pgm X mg mb') (x y : Str) : FnS X 42 [.str x, .str y] (.int (coll x y)) 1 := by
  refine fn_of G.toGw (fun L => [("a", .loc, .val (.str x)), ("b", .loc, .val (.str y))]) (xs := ["a", "b"]) G.f_coll ?_ (by decide) (by walk_at "kinds") (fun L => by walk_at "ini") (by walk_at "nd") (by walk_at "nn") ?_
  · intro n q doc pm an code ct vs hvs
    match vs, hvs with
    | [u, v], _ => rfl
  · intro A q code L hA
    exact rt_return (ev_binop (ev_compare (by walk_at "nm") (by walk_at "nm") op_sgt) (ev_compare (by walk_at "nm") (by walk_at "nm") op_slt) op_bsub)
theorem fn_column (G : Pgm X mg mb') (l : List Nat) (size : Int) (hs : size ≠ 0) : FnS X 148 [.str (T l), .int size] (.int (column l size)) 1 := by
  refine fn_of G.toGw (fun L => [("text", .loc, .val (.str (T l))), ("size", .loc, .val (.int size)), ("column", .loc, .no), ("sign", .loc, .no)]) (xs := ["text", "size"]) G.f_column ?_ (by decide) (by walk_at "kinds") (fun L => by walk_at "ini") (by walk_at "nd") (by walk_at "nn") ?_
  · intro n q doc pm an code ct vs hvs
    match vs, hvs with
    | [u, v], _ => rfl
  · intro A q code L hA
    have hh := hA.handled
    refine rt_cons (ex_assign ev_int (by walk_at "put")) ?_
    have loop : ∀ (m : List Nat) (col : Int), LoopL { X with A := A, env := fenv q (mb 18) code L 148 } (ftgt (stm (fbody (mb 18)) 1)) (fbod (stm (fbody (mb 18)) 1)) (sgn m) [("text", .loc, .val (.str (T l))), ("size", .loc, .val (.int size)), ("column", .loc, .val (.int col)), ("sign", .loc, .no)] .next
        [("text", .loc, .val (.str (T l))), ("size", .loc, .val (.int size)), ("column", .loc, .val (.int (m.foldl (colStep size) col))), ("sign", .loc, .no)] := by
      intro m
      induction m with
      | nil => intro col; exact .nil
      | cons c m ih =>
        intro col
        refine .cons (p := .str (T [c])) (asg_name (by walk_at "put")) (exs_cons (ex_assign (p := .int (colStep size col c)) ?_ (by walk_at "put")) (exs_done (.same (.same (.same (.drop .nil)))))) (ih _)
        refine ev_ifexp (it_cmp (by walk_at "nm") ev_str (show Op2 _ _ (.str (T [c])) (.str (T [32])) _ from op_Teq)) (fun h => ?_) (fun h => ?_)
        · have h' : c = 32 := by simpa using h
          rw [show colStep size col c = col + 1 by unfold colStep; rw [if_pos h']]
          exact ev_binop (by walk_at "nm") ev_int op_add
        · have h' : ¬ c = 32 := by simpa using h
          rw [show colStep size col c = col + size - col.fmod size by unfold colStep; rw [if_neg h']]
          exact ev_binop (ev_binop (by walk_at "nm") (by walk_at "nm") op_add) (ev_binop (by walk_at "nm") (by walk_at "nm") (op_mod hs)) op_sub
    exact rt_cons (ex_forL (it_str hh (by walk_at "nm")) (loop l 0)) (rt_return (by walk_at "nm"))
end
end PL
end
noncomputable section
open PySem PySem.W PyProof.Rows PySem.Builtin.Str
set_option Elab.async false
set_option linter.unusedVariables false
set_option maxRecDepth 100000
set_option pp.maxSteps 600
namespace PL
local macro_rules | `(tactic| walk_at "at") => `(tactic| (repeat (first | exact At.here | exact AtMut.here | apply At.there | apply AtMut.there)))
local macro_rules | `(tactic| walk_at "put") => `(tactic| (repeat (first | exact Put.loc | exact Put.locNo | exact Put.cell | exact PutNew.no | exact PutNew.val | exact PutNew.mu | exact PutMut.here | exact Thaw.here | apply Put.there | apply PutNew.there | apply PutMut.there | apply Thaw.there)))
local macro_rules | `(tactic| walk_at "nm") => `(tactic| exact ev_name (by walk_at "at"))
local macro_rules | `(tactic| walk_at "ini") => `(tactic| (repeat (first | exact Ini.nil | apply Ini.argL rfl | apply Ini.loc rfl | apply Ini.argC rfl rfl | apply Ini.cell rfl rfl)))
local macro_rules | `(tactic| walk_at "nd") => `(tactic| (intro L O; simp [List.filterMap_cons, ownOf]))
local macro_rules | `(tactic| walk_at "nn") => `(tactic| (intro L; simp only [List.map_cons, List.map_nil]; decide))
local macro_rules | `(tactic| walk_at "kinds") => `(tactic| (intro L x hx; (repeat (rcases List.mem_cons.mp hx with h | hx; · (subst h; first | exact .inl rfl | exact .inr ⟨rfl, rfl⟩))); cases hx))

/-- the count of a lead: number of signs, of tabs, runs by their length, the last run -/
noncomputable def wsPut (c : List Int) (b : Nat) : List Int :=
  let c' := if c.length ≤ b then c ++ List.replicate (b - c.length + 1) 0 else c
  c'.set b (c'.getD b 0 + 1)
noncomputable def wsRun : List Nat → Int → Int → List Int → Nat → Int × Int × List Int × Nat
  | [], n, nt, c, b => (n, nt, c, b)
  | ch :: l, n, nt, c, b => if ch = 32 then wsRun l (n + 1) nt c (b + 1) else if ch = 9 then wsRun l (n + 1) (nt + 1) (wsPut c b) 0 else (n, nt, c, b)
noncomputable def wsOf (l : List Nat) : PV := .ws (T l) (wsRun l 0 0 [] 0).1 (wsRun l 0 0 [] 0).2.1 (wsRun l 0 0 [] 0).2.2.1 ((wsRun l 0 0 [] 0).2.2.2 : Int) (decide ((wsRun l 0 0 [] 0).2.2.1.length ≤ 1))
theorem wsPut_len (c : List Int) (b : Nat) : (wsPut c b).length ≤ c.length + b + 1 := by
  unfold wsPut; dsimp only; rw [List.length_set]
  split
  · rw [List.length_append, List.length_replicate]; omega
  · omega

section
variable {X : Cx} {ρ ρ' ρ'' : Vars} {mg mb' mN : Str → Option Value}
theorem op_tuple {l : List PV} (hsz : l.length ≤ sizeLine) : OpN X (fun vs => call (.type "tuple") vs) [.list l] (.tup l) := fun V s us Q E vol rs hQ => by
  simp only [Cx.Rs, Reps] at rs
  obtain ⟨v, _, rfl, rv, rfl⟩ := rs
  obtain ⟨a, vs, rfl, nV, hl, rs⟩ := rep_list rv
  refine call_tuple_list hl (fun h' hk => ?_) (by rw [List.size_toArray, rs.length]; exact hsz)
  have g : Grow s { s with heap := h'.push { cls := .type "tuple", data := .seq vs.toArray } } := ⟨fun b o e => Heap.get?_push_of_some _ (hk b o e), rfl, .refl _⟩
  refine hQ _ _ g ?_
  show Rep _ _ _ _ _
  simp only [Rep]
  exact ⟨_, vs, rfl, fun hv => by obtain ⟨o, e⟩ := vol.live _ hv; exact absurd (Heap.lt_size (hk _ _ e)) (Nat.lt_irrefl _), ⟨_, Heap.get?_push_size _ rfl, rfl, _, rfl⟩, rs.grow g⟩

noncomputable abbrev wsv (self : PV) (raw : List Nat) (S T' : VV) (count : VV) (b n nt ch : VV) : Vars :=
  [("self", .loc, .val self), ("ws", .loc, .val (.str (T raw))), ("S", .loc, S), ("T", .loc, T'), ("count", .loc, count), ("b", .loc, b), ("n", .loc, n), ("nt", .loc, nt), ("ch", .loc, ch)]
noncomputable abbrev iv (i : Int) : VV := .val (.int i)

theorem ws_loop (G : Pgm X mg mb') {A : Around} {q : Str} {code : Value} {L : Addr} (hh : A.handled = none) (self : PV) (raw : List Nat)
    (W : Wd { X with A := A, env := fenv q (cm 13 1) code L 73 } mg mb') :
    ∀ (m : List Nat) (n nt : Int) (c : List Int) (b : Nat) (pl : Bool), c.length + b + m.length ≤ 1000 → ∃ pl', LoopL { X with A := A, env := fenv q (cm 13 1) code L 73 } (ftgt (stm (fbody (cm 13 1)) 4)) (fbod (stm (fbody (cm 13 1)) 4)) (sgn m)
      (wsv self raw (.val (.str " ")) (.val (.str "\t")) (.mu pl (iL c)) (iv b) (iv n) (iv nt) .no) .next
      (wsv self raw (.val (.str " ")) (.val (.str "\t")) (.mu pl' (iL (wsRun m n nt c b).2.2.1)) (iv (wsRun m n nt c b).2.2.2) (iv (wsRun m n nt c b).1) (iv (wsRun m n nt c b).2.1) .no) := by
  have big : (1000 : Nat) < sizeLine := by decide
  intro m
  induction m with
  | nil => intro n nt c b pl _; exact ⟨pl, .nil⟩
  | cons ch m ih =>
    intro n nt c b pl hb
    simp only [List.length_cons] at hb
    by_cases h32 : ch = 32
    · subst h32
      have e : wsRun (32 :: m) n nt c b = wsRun m (n + 1) nt c (b + 1) := by rw [wsRun, if_pos rfl]
      rw [e]
      obtain ⟨pl', h⟩ := ih (n + 1) nt c (b + 1) pl (by omega)
      refine ⟨pl', .cons (p := .str (T [32])) (asg_name (by walk_at "put")) (exs_cons (ρ' := wsv self raw (.val (.str " ")) (.val (.str "\t")) (.mu pl (iL c)) (iv ((b : Int) + 1)) (iv (n + 1)) (iv nt) (.val (.str (T [32])))) (ex_if (it_cmp (by walk_at "nm") (by walk_at "nm") (show Op2 _ _ (.str (T [32])) (.str (T [32])) _ from op_Teq)) (fun _ => ?_) (fun h => absurd h (by simp))) ?_) h⟩
      · exact exs_cons (ex_assign (ev_binop (by walk_at "nm") ev_int op_add) (by walk_at "put")) (exs_cons (ex_assign (ev_binop (by walk_at "nm") ev_int op_add) (by walk_at "put")) exs_nil)
      · exact exs_done (.same (.same (.same (.same (.same (.same (.same (.same (.drop .nil)))))))))
    · by_cases h9 : ch = 9
      · subst h9
        have e : wsRun (9 :: m) n nt c b = wsRun m (n + 1) (nt + 1) (wsPut c b) 0 := by rw [wsRun, if_neg (by decide), if_pos rfl]
        rw [e]
        have hlen := wsPut_len c b
        obtain ⟨pl', h⟩ := ih (n + 1) (nt + 1) (wsPut c b) 0 false (by omega)
        refine ⟨pl', .cons (p := .str (T [9])) (asg_name (by walk_at "put")) (exs_cons (ρ' := wsv self raw (.val (.str " ")) (.val (.str "\t")) (.mu false (iL (wsPut c b))) (iv (0 : Nat)) (iv (n + 1)) (iv (nt + 1)) (.val (.str (T [9])))) (ex_if (it_cmp (by walk_at "nm") (by walk_at "nm") (show Op2 _ _ (.str (T [9])) (.str (T [32])) _ from op_Teq)) (fun h => absurd h (by simp))
          (fun _ => exs_one (ex_if (it_cmp (by walk_at "nm") (by walk_at "nm") (show Op2 _ _ (.str (T [9])) (.str (T [9])) _ from op_Teq)) (fun _ => ?_) (fun h => absurd h (by simp))))) (exs_done (.same (.same (.same (.same (.same (.same (.same (.same (.drop .nil)))))))))) ) h⟩
        refine exs_cons (ex_assign (ev_binop (by walk_at "nm") ev_int op_add) (by walk_at "put")) (exs_cons (ex_assign (ev_binop (by walk_at "nm") ev_int op_add) (by walk_at "put")) ?_)
        have tail : ∀ (pl : Bool) (c' : List Int), b < c'.length → c'.length ≤ 1000 → Exs { X with A := A, env := fenv q (cm 13 1) code L 73 } ((fbod (stm (fbody (cm 13 1)) 4)).head?.elim [] (fun s => match s with | .If _ _ [.If _ b _ _] _ => b.drop 3 | _ => []))
            (wsv self raw (.val (.str " ")) (.val (.str "\t")) (.mu pl (iL c')) (iv b) (iv (n + 1)) (iv (nt + 1)) (.val (.str (T [9])))) .next
            (wsv self raw (.val (.str " ")) (.val (.str "\t")) (.mu false (iL (c'.set b (c'.getD b 0 + 1)))) (iv (0 : Nat)) (iv (n + 1)) (iv (nt + 1)) (.val (.str (T [9])))) := by
          intro pl c' hb' hc'
          refine exs_cons (ex_setitem (k := b) (ev_thaw (x := "count") (by walk_at "put") (ev_binop (ev_item (k := b) (by walk_at "nm") (by walk_at "nm") (iL_get hb') (by simp; omega)) ev_int op_add) trivial) (by walk_at "at") (by walk_at "nm") (by simpa using hb') (by simp; omega) (by rw [iL_set]; walk_at "put")) ?_
          exact exs_cons (ex_assign ev_int (by walk_at "put")) exs_nil
        have test : ∀ (pl : Bool), It { X with A := A, env := fenv q (cm 13 1) code L 73 } ((fbod (stm (fbody (cm 13 1)) 4)).head?.elim (.Constant .none 0 default) (fun s => match s with | .If _ _ [.If _ b _ _] _ => (match b.drop 2 with | .If t _ _ _ :: _ => t | _ => .Constant .none 0 default) | _ => .Constant .none 0 default))
            (wsv self raw (.val (.str " ")) (.val (.str "\t")) (.mu pl (iL c)) (iv b) (iv (n + 1)) (iv (nt + 1)) (.val (.str (T [9])))) (decide (((iL c).length : Int) ≤ b)) := by
          intro pl
          exact it_thaw (x := "count") (by walk_at "put") (it_cmp (by walk_at "nm") (ev_call_builtin (id := "len") (evv_builtin W G.n_len G.b_len rfl) (evs_cons (by walk_at "nm") evs_nil) (op_len (by simp; omega))) op_ge)
        by_cases hle : c.length ≤ b
        · have ep : wsPut c b = (c ++ List.replicate (b - c.length + 1) 0).set b ((c ++ List.replicate (b - c.length + 1) 0).getD b 0 + 1) := by unfold wsPut; rw [if_pos hle]
          rw [ep]
          have el : iL c ++ List.replicate (((b : Int) - ((iL c).length : Int) + 1).toNat) (PV.int 0) = iL (c ++ List.replicate (b - c.length + 1) 0) := by
            rw [show ((b : Int) - ((iL c).length : Int) + 1).toNat = b - c.length + 1 by rw [List.length_map]; omega]
            simp [iL]
          refine exs_cons (ex_if (test pl) (fun _ => exs_one (ex_assign_new (l := iL (c ++ List.replicate (b - c.length + 1) 0)) (el ▸ evn_thaw (x := "count") (by walk_at "put") (evn_ladd (by walk_at "nm") (EvNew.ev (evn_mul (evs_cons ev_int evs_nil) (ev_binop (ev_binop (by walk_at "nm")
            (ev_call_builtin (id := "len") (evv_builtin W G.n_len G.b_len rfl) (evs_cons (by walk_at "nm") evs_nil) (op_len (by simp; omega))) op_sub) ev_int op_add) (by simp; omega) (by simp; omega))) (by simp; omega)) (by rw [el]; intro p hp; simp at hp; rcases hp with ⟨i, _, rfl⟩ | ⟨_, rfl⟩ <;> trivial)) (by walk_at "put")))
            (fun h => by simp at h; omega)) ?_
          exact tail true _ (by simp; omega) (by simp; omega)
        · have ep : wsPut c b = c.set b (c.getD b 0 + 1) := by unfold wsPut; rw [if_neg hle]
          rw [ep]
          refine exs_cons (ex_if (test pl) (fun h => by simp at h; omega) (fun _ => exs_nil)) ?_
          exact tail pl c (by omega) (by omega)
      · have e : wsRun (ch :: m) n nt c b = (n, nt, c, b) := by rw [wsRun, if_neg h32, if_neg h9]
        rw [e]
        have n32 : ([ch] == [32]) = false := by simp [h32]
        have n9 : ([ch] == [9]) = false := by simp [h9]
        refine ⟨pl, .brk (p := .str (T [ch])) (asg_name (by walk_at "put")) (exs_weak (exs_stop (ex_if (it_cmp (by walk_at "nm") (by walk_at "nm") (show Op2 _ _ (.str (T [ch])) (.str (T [32])) _ from op_Teq)) (fun h => absurd h (by simp [h32]))
          (fun _ => exs_stop (ex_if (it_cmp (by walk_at "nm") (by walk_at "nm") (show Op2 _ _ (.str (T [ch])) (.str (T [9])) _ from op_Teq)) (fun h => absurd h (by simp [h9])) (fun _ => exs_stop ex_break))))) (.same (.same (.same (.same (.same (.same (.same (.same (.drop .nil))))))))))⟩
theorem wsRun_len : ∀ (m : List Nat) (n nt : Int) (c : List Int) (b : Nat), (wsRun m n nt c b).2.2.1.length ≤ c.length + b + m.length
  | [], n, nt, c, b => by simp only [wsRun, List.length_nil]; omega
  | ch :: m, n, nt, c, b => by
    have h1 := wsRun_len m (n + 1) nt c (b + 1)
    have h2 := wsRun_len m (n + 1) (nt + 1) (wsPut c b) 0
    have h3 := wsPut_len c b
    rw [wsRun]
    split
    · simp only [List.length_cons]; omega
    · split
      · simp only [List.length_cons]; omega
      · simp only [List.length_cons]; omega
theorem init_run (G : Pgm X mg mb') (K : Wsp X mN) (hC : X.C = 118) (l : List Nat) (hl : l.length ≤ 1000) : InitS X (.str (T l)) (wsOf l) 2 := by
  intro A hA V s a d v Q E vol I hn na nd ba bd rv hQ
  obtain ⟨o, nm, q, doc, pm, an, code, ct, ho, hd, hc⟩ := K.f_init
  have hdl : ∃ o, s.heap.get? d = some o := by obtain ⟨o, _, _, e, _⟩ := hn; exact ⟨o, e⟩
  have hal : ∃ o, s.heap.get? a = some o := by obtain ⟨o, e, _⟩ := I; exact ⟨o, e⟩
  have had : d ≠ a := by obtain ⟨_, _, _, _, _, h⟩ := I; exact h
  have vol' : Vol X.base (VW V [d]) s := vol.widen (fun b hb => List.mem_singleton.mp hb ▸ hdl) (fun b hb => List.mem_singleton.mp hb ▸ bd)
  have rv' : X.R (VW V [d]) s (.str (T l)) v := rv
  have hkind : ∀ (L : Addr) x, x ∈ (["self", "ws"] : List Str) → (fscope (cm 13 1)).names.lookup x = some .local ∨ ((fscope (cm 13 1)).names.lookup x = some .cell ∧ ((cellsFrom (L + 1) (fscope (cm 13 1)).names []).lookup x).isSome = true) := by walk_at "kinds"
  have hini : ∀ L : Addr, Ini (fun x => (fscope (cm 13 1)).names.lookup x) (cellsFrom (L + 1) (fscope (cm 13 1)).names []) ["self", "ws"] [.obj a, .str (T l)] (wsv (.obj a) l .no .no .no .no .no .no .no) := fun L => by walk_at "ini"
  refine fn_raw (X := X) (n := 1) (ps := [.obj a, .str (T l)]) (xs := ["self", "ws"]) (fun L => wsv (.obj a) l .no .no .no .no .no .no .no) ho hd G.lim hc rfl rfl ?_ (by decide) hkind hini (by intro L O; simp [PL.owned, List.filterMap_cons, ownOf]) (by walk_at "nn") hA vol' (.cons rfl (.one rv')) (fun L V₁ O s₁ E' hR F g hV1 hV2 hdead => ?_)
  · intro vs hvs
    match vs, hvs with
    | [u, v], _ => rfl
  have hh : (A.deeper (callEnvC (fdat nm q (cm 13 1) doc pm an code ct) L 73)).handled = none := hR.handled
  have W : Wd { X with A := A.deeper (callEnvC (fdat nm q (cm 13 1) doc pm an code ct) L 73), env := fenv q (cm 13 1) code L 73 } mg mb' := ⟨G.g, G.b, G.lim, rfl, hh⟩
  let X₁ : Cx := { X with A := A.deeper (callEnvC (fdat nm q (cm 13 1) doc pm an code ct) L 73), env := fenv q (cm 13 1) code L 73 }
  have K₁ : Wsp X₁ mN := K.at
  have hw : ∀ ρ p, EvV X₁ (.Name "Whitespace" p) ρ (.ref X₁.C) := fun ρ p => by
    show EvV X₁ (.Name "Whitespace" p) ρ (.ref X.C)
    rw [hC]; exact evv_global W G.m_ws rfl
  have hd1 : V₁ d := hV2 d (.inr (List.mem_singleton.mpr rfl))
  have na1 : ¬ V₁ a := fun h => by
    rcases hV1 a h with (h | h) | h
    · exact na h
    · exact had (List.mem_singleton.mp h).symm
    · obtain ⟨o, e⟩ := hal; rw [e] at h; cases h
  have hxC : a ≠ X.C := fun e => by obtain ⟨_, _, _, _, _, _, _, _, _, _, _, _, e'⟩ := K.cls.obj; rw [← e, ba] at e'; cases e'
  have hown : ∀ b, (∃ o, s.heap.get? b = some o) → b ∉ PL.owned X₁.env O (wsv (.obj a) l .no .no .no .no .no .no .no) := fun b ⟨o, e⟩ hm => by rw [hdead b hm] at e; cases e
  have nofree : ∀ x c q, (x, VK.free c, q) ∉ (wsv (.obj a) l .no .no .no .no .no .no .no : Vars) := by intro x c q; simp
  have F0 : X₁.F V₁ O (wsv (.obj a) l .no .no .no .no .no .no .no) s₁ := F
  show wpAny X₁.M X₁.A (execs (fbody (cm 13 1)) X₁.env) _ E' s₁
  refine wpAny_execs_cons (set_field (ns := []) F0 K₁ (I.by fun o e => g.keep a o e) (hn.keeps g.keep) K.n_raw ob_raw hxC hd1 na1 (hown d hdl) nofree (by walk_at "nm") (by walk_at "nm") Within.nil (by decide) fun v₁ s₂ F₂ rv₂ I₂ hn₂ keep₂ os₂ gg₂ => ?_)
  have F₃ : X₁.F (fun b => V₁ b ∧ b ∉ [d]) O (wsv (.half a d (T l)) l .no .no .no .no .no .no .no) s₂ := by
    refine Frm.recast (F₂.leave (wr := [d]) (fun b hb => List.mem_singleton.mp hb ▸ hd1) (fun b hb => List.mem_singleton.mp hb ▸ hown d hdl) (fun x c q hm => absurd hm (nofree x c q)) fun _ _ _ e => e) (p := .obj a) fun u hu => ?_
    obtain ⟨t, rfl⟩ := rv₂
    show Rep _ _ _ _ _
    simp only [Rep]
    exact ⟨hu, fun h => na1 h.1, fun h => h.2 (List.mem_singleton.mpr rfl), I₂, _, t, hn₂, if_pos rfl, fun k hk => if_neg hk⟩
  have hL : s.heap.get? X₁.env.locals = none := hdead _ (List.mem_cons_self ..)
  have M1 : Ex1 X₁ (stm (fbody (cm 13 1)) 1) (wsv (.half a d (T l)) l .no .no .no .no .no .no .no) .next (wsv (.half a d (T l)) l (.val (.str " ")) (.val (.str "\t")) .no .no .no .no .no) :=
    ex_swap (x := "S") (y := "T") hh (ev_tuple (evs_cons (ev_cls_S K₁ (hw _ _)) (evs_cons (ev_cls_T K₁ (hw _ _)) evs_nil))) (by walk_at "put") (by walk_at "put")
  have M2 : Ex1 X₁ (stm (fbody (cm 13 1)) 2) (wsv (.half a d (T l)) l (.val (.str " ")) (.val (.str "\t")) .no .no .no .no .no) .next (wsv (.half a d (T l)) l (.val (.str " ")) (.val (.str "\t")) (.mu true (iL [])) .no .no .no .no) :=
    ex_assign_new (evn_list evs_nil) (by walk_at "put")
  have M3 : Ex1 X₁ (stm (fbody (cm 13 1)) 3) (wsv (.half a d (T l)) l (.val (.str " ")) (.val (.str "\t")) (.mu true (iL [])) .no .no .no .no) .next (wsv (.half a d (T l)) l (.val (.str " ")) (.val (.str "\t")) (.mu true (iL [])) (iv (0 : Nat)) (iv 0) (iv 0) .no) :=
    ex_assign3 ev_int (asg_name (by walk_at "put")) (asg_name (by walk_at "put")) (asg_name (by walk_at "put"))
  obtain ⟨pl', h4⟩ := ws_loop G hh (.half a d (T l)) l W l 0 0 [] 0 true (by simp; omega)
  have hcl := wsRun_len l 0 0 [] 0
  simp only [List.length_nil, Nat.zero_add] at hcl
  have big : (1000 : Nat) < sizeLine := by decide
  unfold wsOf at hQ
  generalize hwn : (wsRun l 0 0 [] 0).1 = n at h4 hQ
  generalize hwt : (wsRun l 0 0 [] 0).2.1 = nt at h4 hQ
  generalize hwc : (wsRun l 0 0 [] 0).2.2.1 = c at h4 hQ hcl
  generalize hwb : (wsRun l 0 0 [] 0).2.2.2 = b at h4 hQ
  have M4 : Ex1 X₁ (stm (fbody (cm 13 1)) 4) (wsv (.half a d (T l)) l (.val (.str " ")) (.val (.str "\t")) (.mu true (iL [])) (iv (0 : Nat)) (iv 0) (iv 0) .no) .next (wsv (.half a d (T l)) l (.val (.str " ")) (.val (.str "\t")) (.mu pl' (iL c)) (iv b) (iv n) (iv nt) .no) :=
    ex_forL (it_str hh (ev_half_raw K₁ (by walk_at "nm"))) h4
  refine wpAny_execs_cons (M1 _ O s₂ _ E' F₃ fun V₄ O₄ s₄ f₄ R₄ h₄ => ?_)
  cases h₄
  refine wpAny_execs_cons (M2 _ O₄ s₄ _ E' R₄.frm fun V₅ O₅ s₅ f₅ R₅ h₅ => ?_)
  cases h₅
  refine wpAny_execs_cons (M3 _ O₅ s₅ _ E' R₅.frm fun V₆ O₆ s₆ f₆ R₆ h₆ => ?_)
  cases h₆
  refine wpAny_execs_cons (M4 _ O₆ s₆ _ E' R₆.frm fun V' O' s₃ f₇ R₇ h₇ => ?_)
  cases h₇
  have R := ((R₄.trans R₅ F₃).trans R₆ F₃).trans R₇ F₃
  clear R₄ R₅ R₆ R₇ M1 M2 M3 M4
  have hd2 : ∃ o, s₂.heap.get? d = some o := by obtain ⟨o, _, _, e, _⟩ := hn₂; exact ⟨o, e⟩
  have live2 : ∀ b o, b ≠ d → s.heap.get? b = some o → s₂.heap.get? b = some o := fun b o hb e => keep₂ b o hb (g.keep b o e)
  have ownh : ∀ b, (∃ o, s.heap.get? b = some o) → b ∉ PL.owned X₁.env O (wsv (.half a d (T l)) l .no .no .no .no .no .no .no) := hown
  have own' : ∀ b, (∃ o, s.heap.get? b = some o) → b ∉ PL.owned X₁.env O' (wsv (.half a d (T l)) l (.val (.str " ")) (.val (.str "\t")) (.mu pl' (iL c)) (iv b) (iv n) (iv nt) .no) := fun x hx hm => by
    rcases R.fresh x hm with h | h
    · exact ownh x hx h
    · by_cases hxd : x = d
      · subst hxd; obtain ⟨o, e⟩ := hd2; rw [e] at h; cases h
      · obtain ⟨o, e⟩ := hx; rw [live2 x o hxd e] at h; cases h
  have cO : ∀ b, (∃ o, s.heap.get? b = some o) → b ≠ O' "count" := fun x hx e => own' x hx (by rw [e]; simp [PL.owned, List.filterMap_cons, ownOf])
  have F₅ : X₁.F (VW V' [d]) O' (wsv (.obj a) l (.val (.str " ")) (.val (.str "\t")) (.mu pl' (iL c)) (iv b) (iv n) (iv nt) .no) s₃ :=
    R.frm.refloat (.half (.val trivial (.val trivial (.val trivial (.mu (fun p hp => by obtain ⟨i, _, rfl⟩ := List.mem_map.mp hp; trivial) (.val trivial (.val trivial (.val trivial (.no .nil)))))))))
      (R.frm.vol.widen (fun x hx => by rw [List.mem_singleton.mp hx]; obtain ⟨o, e⟩ := hd2; exact ⟨o, R.step.keep d o (ownh d hdl) e⟩) (fun x hx => List.mem_singleton.mp hx ▸ bd)) (fun x hx => .inl (R.frm.own x hx))
  have F₆ := F₅.thaw (x := "count") (ρ' := wsv (.obj a) l (.val (.str " ")) (.val (.str "\t")) (.val (.list (iL c))) (iv b) (iv n) (iv nt) .no) (by walk_at "put")
  obtain ⟨V₈, hV₈⟩ : ∃ V₈ : Addr → Prop, V₈ = (fun x => VW V' [d] x ∧ x ≠ O' "count") := ⟨_, rfl⟩
  rw [← hV₈] at F₆
  have hd6 : V₈ d := by rw [hV₈]; exact ⟨.inr (List.mem_singleton.mpr rfl), cO d hdl⟩
  have na6 : ¬ V₈ a := fun h => by
    rw [hV₈] at h
    rcases h.1 with h | h
    · rcases R.vext.fresh a h with h | h
      · exact na1 h.1
      · obtain ⟨o, e⟩ := hal; rw [live2 a o (Ne.symm had) e] at h; cases h
    · exact had (List.mem_singleton.mp h).symm
  have hown6 : d ∉ PL.owned X₁.env O' (wsv (.obj a) l (.val (.str " ")) (.val (.str "\t")) (.val (.list (iL c))) (iv b) (iv n) (iv nt) .no) := hown d hdl
  have nofree6 : ∀ x c' q, (x, VK.free c', q) ∉ (wsv (.obj a) l (.val (.str " ")) (.val (.str "\t")) (.val (.list (iL c))) (iv b) (iv n) (iv nt) .no : Vars) := by intro x c q; simp
  have up6 : ∀ x, V x → V₈ x := fun x hx => by
    rw [hV₈]
    obtain ⟨o, e⟩ := vol.live x hx
    have hxd : x ≠ d := fun e => nd (e ▸ hx)
    refine ⟨?_, cO x ⟨o, e⟩⟩
    rcases R.vext.up x ⟨hV2 x (.inl hx), fun h => hxd (List.mem_singleton.mp h)⟩ with h | h
    · exact .inl h
    · exact absurd h (ownh x ⟨o, e⟩)
  have I₃ := I₂.by (fun o e => R.step.keep a o (ownh a hal) e)
  have hn₃ := hn₂.at (fun o e => R.step.keep d o (ownh d hdl) e)
  refine wpAny_execs_cons (set_field (name := "n") (ns := ["raw"]) F₆ K₁ I₃ hn₃ K.n_n ob_n hxC hd6 na6 hown6 nofree6 (by walk_at "nm") (by walk_at "nm") (Within.cons _ _ Within.nil) (by decide) fun v₂ s₇ F₇ rn I₇ hn₇ keep₇ os₇ gg₇ => ?_)
  refine wpAny_execs_cons (set_field (name := "nt") (ns := ["n", "raw"]) F₇ K₁ I₇ hn₇ K.n_nt ob_nt hxC hd6 na6 hown6 nofree6 (by walk_at "nm") (by walk_at "nm") (Within.cons _ _ (Within.cons _ _ Within.nil)) (by decide) fun v₃ s₈ F₈ rt I₈ hn₈ keep₈ os₈ gg₈ => ?_)
  refine wpAny_execs_cons (set_field (name := "norm") (ns := ["nt", "n", "raw"]) F₈ K₁ I₈ hn₈ K.n_norm ob_norm hxC hd6 na6 hown6 nofree6 (p := .tup [.tup (iL c), .int b]) (by walk_at "nm")
    (ev_tuple (evs_cons (ev_call_type (evv_builtin W G.n_tuple G.b_tuple rfl) (evs_cons (by walk_at "nm") evs_nil) (op_tuple (by simp; omega))) (evs_cons (by walk_at "nm") evs_nil))) (Within.cons _ _ (Within.cons _ _ (Within.cons _ _ Within.nil))) (by decide) fun v₄ s₉ F₉ rm I₉ hn₉ keep₉ os₉ gg₉ => ?_)
  refine wpAny_execs_cons (set_field (name := "is_simple") (ns := ["norm", "nt", "n", "raw"]) F₉ K₁ I₉ hn₉ K.n_simple ob_simple hxC hd6 na6 hown6 nofree6 (p := .bool (decide (((iL c).length : Int) ≤ 1))) (by walk_at "nm")
    (ev_compare (ev_call_builtin (id := "len") (evv_builtin W G.n_len G.b_len rfl) (evs_cons (by walk_at "nm") evs_nil) (op_len (by simp; omega))) ev_int op_le) (Within.cons _ _ (Within.cons _ _ (Within.cons _ _ (Within.cons _ _ Within.nil)))) (by decide) fun v₅ s' F' rs I' hn' keep' os' gg' => ?_)
  refine wpAny_execs_nil ?_
  have keepA : ∀ x o, x ≠ d → s₃.heap.get? x = some o → s'.heap.get? x = some o := fun x o hx e => keep' x o hx (keep₉ x o hx (keep₈ x o hx (keep₇ x o hx e)))
  refine hQ s' (fun x o hx e => keepA x o hx (R.step.keep x o (ownh x ⟨o, e⟩) (live2 x o hx e))) (by rw [os', os₉, os₈, os₇, R.step.os, os₂, g.os]) ((((((g.gens.trans gg₂).trans R.step.gens).trans gg₇).trans gg₈).trans gg₉).trans gg') ?_
  obtain ⟨tr, rfl⟩ := rv₂
  obtain ⟨tn, rfl⟩ := rn
  obtain ⟨tt, rfl⟩ := rt
  cases rs
  have rm' : Rep X₁.C V s'.heap (.tup [.tup (iL c), .int b]) v₄ := Rep.mono (fun x o nb e => ⟨fun h => nb (up6 x h), keep' x o (fun h => nb (h ▸ hd6)) e⟩) _ rm
  simp only [Rep, Reps] at rm'
  obtain ⟨r, vs, rfl, nr, hr, u, us, rfl, ⟨q', cs, rfl, nq, hq, rcs⟩, w', ws', rfl, ⟨tb, rfl⟩, rfl⟩ := rm'
  show Rep _ _ _ _ _
  simp only [Rep]
  refine ⟨a, d, _, tr, tn, tt, r, q', cs, tb, rfl, na, nd, nr, nq, I', ⟨hn', fun k hk => ?_⟩, rfl, rfl, rfl, ?_, rfl, hr, hq, reps_ints rcs⟩
  · simp only [wsNames, List.mem_cons, List.not_mem_nil, or_false, not_or] at hk
    rw [if_neg hk.2.2.2.2, if_neg hk.2.2.2.1, if_neg hk.2.2.1, if_neg hk.2.1, if_neg hk.1]
  · rw [if_pos rfl]
    have : decide (((iL c).length : Int) ≤ 1) = decide (c.length ≤ 1) := by simp; omega
    rw [this]
end
end PL
end
noncomputable section
open PySem PySem.W PyProof.Rows PySem.Builtin.Str
set_option Elab.async false
set_option linter.unusedVariables false
set_option maxRecDepth 100000
set_option pp.maxSteps 600
namespace PL
local macro_rules | `(tactic| walk_at "at") => `(tactic| (repeat (first | exact At.here | exact AtMut.here | apply At.there | apply AtMut.there)))
local macro_rules | `(tactic| walk_at "put") => `(tactic| (repeat (first | exact Put.loc | exact Put.locNo | exact Put.cell | exact PutNew.no | exact PutNew.val | exact PutNew.mu | exact PutMut.here | exact Thaw.here | apply Put.there | apply PutNew.there | apply PutMut.there | apply Thaw.there)))
local macro_rules | `(tactic| walk_at "nm") => `(tactic| exact ev_name (by walk_at "at"))
local macro_rules | `(tactic| walk_at "ini") => `(tactic| (repeat (first | exact Ini.nil | apply Ini.argL rfl | apply Ini.loc rfl | apply Ini.argC rfl rfl | apply Ini.cell rfl rfl)))
local macro_rules | `(tactic| walk_at "nd") => `(tactic| (intro L O; simp [List.filterMap_cons, ownOf]))
local macro_rules | `(tactic| walk_at "nn") => `(tactic| (intro L; simp only [List.map_cons, List.map_nil]; decide))
local macro_rules | `(tactic| walk_at "kinds") => `(tactic| (intro L x hx; (repeat (rcases List.mem_cons.mp hx with h | hx; · (subst h; first | exact .inl rfl | exact .inr ⟨rfl, rfl⟩))); cases hx))

theorem pylong_small {a b : Int} (h : b.natAbs < 2 ^ 64) : Builtin.divisionGoesByPylong a b = false := by
  have hy : b.natAbs.log2 ≤ 64 := by
    by_cases h0 : b.natAbs = 0
    · rw [h0]; decide
    · have := (Nat.log2_lt h0).mpr h; omega
  unfold Builtin.divisionGoesByPylong
  dsimp only
  have : ¬ ((if (b == 0) = true then 0 else b.natAbs.log2 / 30 + 1) > 300) := by split <;> omega
  simp only [this, decide_false, Bool.false_and]

noncomputable abbrev wN (l : List Nat) : Int := (wsRun l 0 0 [] 0).1
noncomputable abbrev wNt (l : List Nat) : Int := (wsRun l 0 0 [] 0).2.1
noncomputable abbrev wC (l : List Nat) : List Int := (wsRun l 0 0 [] 0).2.2.1
noncomputable abbrev wB (l : List Nat) : Int := ((wsRun l 0 0 [] 0).2.2.2 : Int)
noncomputable def maxI (a b : Int) : Int := if b > a then b else a
noncomputable def wRunMax (l : List Nat) : Int := maxI ((wC l).length - 1) (wB l)
noncomputable def wSum (c : List Int) (ts : Int) (is : List Nat) (il : Int) : Int := is.foldl (fun il (i : Nat) => il + (ts + (i : Int) * 1).fdiv ts * c.getD (ts + (i : Int) * 1).toNat 0) il
noncomputable def wLev (l : List Nat) (ts : Int) : Int := wB l + ts * (wSum (wC l) ts (List.range (((wC l).length : Int) - ts).toNat) 0 + wNt l)
theorem wC_len (l : List Nat) : (wC l).length ≤ l.length := by have := wsRun_len l 0 0 [] 0; simpa using this

section
variable {X : Cx} {ρ ρ' ρ'' : Vars} {mg mb' mN : Str → Option Value}
theorem fn_run (G : Pgm X mg mb') (K : Wsp X mN) (l : List Nat) (hl : l.length ≤ 1000) : FnS X 80 [wsOf l] (.int (wRunMax l)) 1 := by
  have big : (1000 : Nat) < sizeLine := by decide
  have hc := wC_len l
  have hfit : ((wC l).map PV.int).length ≤ sizeLine := by rw [List.length_map]; omega
  refine fn_of G.toGw (fun L => [("self", .loc, .val (wsOf l)), ("count", .loc, .no), ("trailing", .loc, .no)]) (xs := ["self"]) K.f_run ?_ (by decide) (by walk_at "kinds") (fun L => by walk_at "ini") (by walk_at "nd") (by walk_at "nn") ?_
  · intro n q doc pm an code ct vs hvs
    match vs, hvs with
    | [u], _ => rfl
  · intro A q code L hA
    have hh := hA.handled
    have W := G.toGw.wd hA (st := cm 13 2) (L := L) (f := 80) (q := q) (code := code)
    refine rt_cons (ex_assignT (ev_ws_norm K.at (by walk_at "nm")) (asg_tuple2 hh (asg_name (by walk_at "put")) (asg_name (by walk_at "put")))) ?_
    exact rt_return (ev_call_builtin (id := "max") (evv_builtin W G.n_maxb G.b_max rfl) (evs_cons (ev_binop (ev_call_builtin (id := "len") (evv_builtin W G.n_len G.b_len rfl) (evs_cons (by walk_at "nm") evs_nil) (op_ltup hfit)) ev_int op_sub) (evs_cons (by walk_at "nm") evs_nil))
      (by rw [show wRunMax l = if wB l > (((wC l).map PV.int).length : Int) - 1 then wB l else (((wC l).map PV.int).length : Int) - 1 by unfold wRunMax maxI; simp]; exact op_max hh))
theorem fn_level (G : Pgm X mg mb') (K : Wsp X mN) (l : List Nat) (hl : l.length ≤ 1000) (ts : Int) (h1 : 1 ≤ ts) (h2 : ts ≤ 10000) : FnS X 87 [wsOf l, .int ts] (.int (wLev l ts)) 1 := by
  have big : (1000 : Nat) < sizeLine := by decide
  have hc := wC_len l
  have hfit : ((wC l).map PV.int).length ≤ sizeLine := by rw [List.length_map]; omega
  refine fn_of G.toGw (fun L => [("self", .loc, .val (wsOf l)), ("tabsize", .loc, .val (.int ts)), ("count", .loc, .no), ("trailing", .loc, .no), ("il", .loc, .no), ("i", .loc, .no)]) (xs := ["self", "tabsize"]) K.f_lev ?_ (by decide) (by walk_at "kinds") (fun L => by walk_at "ini") (by walk_at "nd") (by walk_at "nn") ?_
  · intro n q doc pm an code ct vs hvs
    match vs, hvs with
    | [u, v], _ => rfl
  · intro A q code L hA
    have hh := hA.handled
    have W := G.toGw.wd hA (st := cm 13 3) (L := L) (f := 87) (q := q) (code := code)
    refine rt_cons (ex_assignT (ev_ws_norm K.at (by walk_at "nm")) (asg_tuple2 hh (asg_name (by walk_at "put")) (asg_name (by walk_at "put")))) ?_
    refine rt_cons (ex_assign ev_int (by walk_at "put")) ?_
    have loop : ∀ (is : List Nat) (il : Int), (∀ i ∈ is, i < (((wC l).length : Int) - ts).toNat) → LoopL { X with A := A, env := fenv q (cm 13 3) code L 87 } (ftgt (stm (fbody (cm 13 3)) 2)) (fbod (stm (fbody (cm 13 3)) 2)) (is.map fun i => .int (ts + (i : Nat) * 1))
        [("self", .loc, .val (wsOf l)), ("tabsize", .loc, .val (.int ts)), ("count", .loc, .val (.tup ((wC l).map .int))), ("trailing", .loc, .val (.int (wB l))), ("il", .loc, .val (.int il)), ("i", .loc, .no)] .next
        [("self", .loc, .val (wsOf l)), ("tabsize", .loc, .val (.int ts)), ("count", .loc, .val (.tup ((wC l).map .int))), ("trailing", .loc, .val (.int (wB l))), ("il", .loc, .val (.int (wSum (wC l) ts is il))), ("i", .loc, .no)] := by
      intro is
      induction is with
      | nil => intro il _; exact .nil
      | cons i is ih =>
        intro il hi
        have hi0 := hi i (List.mem_cons_self ..)
        have ek : ((ts + (i : Int) * 1).toNat : Int) = ts + (i : Int) * 1 := by omega
        have hk : (ts + (i : Int) * 1).toNat < (wC l).length := by omega
        refine .cons (p := .int (ts + (i : Nat) * 1)) (asg_name (by walk_at "put")) (exs_cons (ex_assign (p := .int (il + (ts + (i : Int) * 1).fdiv ts * (wC l).getD (ts + (i : Int) * 1).toNat 0)) ?_ (by walk_at "put")) (exs_done (.same (.same (.same (.same (.same (.drop .nil)))))))) (ih _ fun j hj => hi j (List.mem_cons_of_mem _ hj))
        refine ev_binop (by walk_at "nm") (ev_binop (ev_binop (by walk_at "nm") (by walk_at "nm") (op_floordiv (by omega) (pylong_small (by omega)))) (ev_titem (k := (ts + (i : Int) * 1).toNat) (by walk_at "nm") (by rw [ek]; walk_at "nm") (iL_get hk) hfit) (op_mul (IntMulOk.of_left (intBits_le_iff.mpr ?_)))) op_add
        have := natAbs_fdiv_le (ts + (i : Int) * 1) ts
        omega
    refine rt_cons (ex_forL (it_range2 (n := (((wC l).length : Int) - ts).toNat) hh (evv_builtin W G.n_range G.b_range rfl) (by walk_at "nm") (ev_call_builtin (id := "len") (evv_builtin W G.n_len G.b_len rfl) (evs_cons (by walk_at "nm") evs_nil) (op_ltup hfit)) (by rw [List.length_map]) (by omega) (by omega) (by rw [List.length_map]; omega) (by rw [List.length_map]; omega)) (loop (List.range (((wC l).length : Int) - ts).toNat) 0 (fun i hi => List.mem_range.mp hi))) ?_
    exact rt_return (ev_binop (by walk_at "nm") (ev_binop (by walk_at "nm") (ev_binop (by walk_at "nm") (ev_ws_nt K.at (by walk_at "nm")) op_add) (op_mul (IntMulOk.of_left (intBits_le_iff.mpr (by omega))))) op_add)
end
end PL
end
noncomputable section
open PySem PySem.W PyProof.Rows PySem.Builtin.Str
set_option Elab.async false
set_option linter.unusedVariables false
set_option maxRecDepth 100000
set_option pp.maxSteps 600
namespace PL
local macro_rules | `(tactic| walk_at "at") => `(tactic| (repeat (first | exact At.here | exact AtMut.here | apply At.there | apply AtMut.there)))
local macro_rules | `(tactic| walk_at "put") => `(tactic| (repeat (first | exact Put.loc | exact Put.locNo | exact Put.cell | exact PutNew.no | exact PutNew.val | exact PutNew.mu | exact PutMut.here | exact Thaw.here | apply Put.there | apply PutNew.there | apply PutMut.there | apply Thaw.there)))
local macro_rules | `(tactic| walk_at "nm") => `(tactic| exact ev_name (by walk_at "at"))
local macro_rules | `(tactic| walk_at "ini") => `(tactic| (repeat (first | exact Ini.nil | apply Ini.argL rfl | apply Ini.loc rfl | apply Ini.argC rfl rfl | apply Ini.cell rfl rfl)))
local macro_rules | `(tactic| walk_at "nd") => `(tactic| (intro L O; simp [List.filterMap_cons, ownOf]))
local macro_rules | `(tactic| walk_at "nn") => `(tactic| (intro L; simp only [List.map_cons, List.map_nil]; decide))
local macro_rules | `(tactic| walk_at "kinds") => `(tactic| (intro L x hx; (repeat (rcases List.mem_cons.mp hx with h | hx; · (subst h; first | exact .inl rfl | exact .inr ⟨rfl, rfl⟩))); cases hx))

theorem wsRun_b : ∀ (m : List Nat) (n nt : Int) (c : List Int) (b : Nat), (wsRun m n nt c b).2.2.2 ≤ b + m.length
  | [], n, nt, c, b => by simp only [wsRun, List.length_nil]; omega
  | ch :: m, n, nt, c, b => by
    have h1 := wsRun_b m (n + 1) nt c (b + 1)
    have h2 := wsRun_b m (n + 1) (nt + 1) (wsPut c b) 0
    rw [wsRun]
    split
    · simp only [List.length_cons]; omega
    · split
      · simp only [List.length_cons]; omega
      · simp only [List.length_cons]; omega
theorem wB_le (l : List Nat) : 0 ≤ wB l ∧ wB l ≤ l.length := by have := wsRun_b l 0 0 [] 0; constructor <;> (unfold wB; omega)
theorem wRunMax_le (l : List Nat) : wRunMax l ≤ l.length := by
  have := wB_le l; have := wC_len l; unfold wRunMax maxI; split <;> omega
theorem wRunMax_ge (l : List Nat) : 0 ≤ wRunMax l := by
  have := wB_le l; unfold wRunMax maxI; split <;> omega
noncomputable def wK (l m : List Nat) : Int := maxI (wRunMax l) (wRunMax m) + 1
theorem wK_le (l m : List Nat) (n : Nat) (h1 : l.length ≤ n) (h2 : m.length ≤ n) : 1 ≤ wK l m ∧ wK l m ≤ n + 1 := by
  have := wRunMax_le l; have := wRunMax_le m; have := wRunMax_ge l; have := wRunMax_ge m; unfold wK maxI; split <;> omega
noncomputable abbrev wSimple (l : List Nat) : Bool := decide ((wC l).length ≤ 1)
noncomputable def wNot (l m : List Nat) (ts : Int) : Bool := decide (wLev m ts ≤ wLev l ts)
noncomputable def wAll (l m : List Nat) (is : List Nat) : Bool := is.all fun i => !wNot l m (2 + (i : Nat) * 1)
noncomputable def wLess (l m : List Nat) : Bool := if wN m ≤ wN l then false else if wSimple l && wSimple m then decide (wNt l ≤ wNt m) else wAll l m (List.range (wK l m + 1 - 2).toNat)
noncomputable def wWitAt (l m : List Nat) (ts : Int) : PV := .tup [.int ts, .int (wLev l ts), .int (wLev m ts)]
noncomputable def wWitL (l m : List Nat) (is : List Nat) : List PV := (is.filter fun i => wNot l m (1 + (i : Nat) * 1)).map fun i => wWitAt l m (1 + (i : Nat) * 1)
noncomputable def wWit (l m : List Nat) : List PV := wWitL l m (List.range (wK l m + 1 - 1).toNat)

section
variable {X : Cx} {ρ ρ' ρ'' : Vars} {mg mb' mN : Str → Option Value}
theorem fn_less (G : Pgm X mg mb') (K : Wsp X mN) (l m : List Nat) (hl : l.length ≤ 1000) (hm : m.length ≤ 1000) : FnS X 108 [wsOf l, wsOf m] (.bool (wLess l m)) 2 := by
  have hk := wK_le l m 1000 hl hm
  refine fn_of G.toGw (fun L => [("self", .loc, .val (wsOf l)), ("other", .loc, .val (wsOf m)), ("n", .loc, .no), ("ts", .loc, .no)]) (xs := ["self", "other"]) K.f_less ?_ (by decide) (by walk_at "kinds") (fun L => by walk_at "ini") (by walk_at "nd") (by walk_at "nn") ?_
  · intro n q doc pm an code ct vs hvs
    match vs, hvs with
    | [u, v], _ => rfl
  · intro A q code L hA
    have hh := hA.handled
    have W := G.toGw.wd hA (st := cm 13 6) (L := L) (f := 108) (q := q) (code := code)
    refine rt_if (it_cmp (ev_ws_n K.at (by walk_at "nm")) (ev_ws_n K.at (by walk_at "nm")) op_ge) (fun h => ?_) (fun h => ?_)
    · have h' : wN m ≤ wN l := by simpa using h
      rw [show wLess l m = false by unfold wLess; rw [if_pos h']]
      exact rt_return ev_bool
    have h1 : ¬ wN m ≤ wN l := by simpa using h
    refine rt_if (it_boolop (its_and (it_value (ev_ws_simple K.at (by walk_at "nm")) tr_bool) fun _ => its_and (it_value (ev_ws_simple K.at (by walk_at "nm")) tr_bool) fun _ => its_and_nil)) (fun h => ?_) (fun h => ?_)
    · have h' : (wSimple l && wSimple m) = true := by simpa using h
      rw [show wLess l m = decide (wNt l ≤ wNt m) by unfold wLess; rw [if_neg h1, if_pos h']]
      exact rt_return (ev_compare (ev_ws_nt K.at (by walk_at "nm")) (ev_ws_nt K.at (by walk_at "nm")) op_le)
    have h2 : ¬ (wSimple l && wSimple m) = true := by simpa using h
    rw [show wLess l m = wAll l m (List.range (wK l m + 1 - 2).toNat) by unfold wLess; rw [if_neg h1, if_neg h2]]
    refine rt_cons (ex_assign (p := .int (wK l m)) (ev_binop (ev_call_builtin (id := "max") (evv_builtin W G.n_maxb G.b_max rfl) (evs_cons (ev_call_meth0 K.at (by walk_at "nm") K.i_run ob_run K.k_run (fn_run G K l hl).at hA.less) (evs_cons (ev_call_meth0 K.at (by walk_at "nm") K.i_run ob_run K.k_run (fn_run G K m hm).at hA.less) evs_nil)) (op_max hh)) ev_int op_add) (by walk_at "put")) ?_
    have loop : ∀ (is : List Nat), (∀ i ∈ is, i < 2000) → (wAll l m is = true → LoopL { X with A := A, env := fenv q (cm 13 6) code L 108 } (ftgt (stm (fbody (cm 13 6)) 3)) (fbod (stm (fbody (cm 13 6)) 3)) (is.map fun i => .int (2 + (i : Nat) * 1))
        [("self", .loc, .val (wsOf l)), ("other", .loc, .val (wsOf m)), ("n", .loc, .val (.int (wK l m))), ("ts", .loc, .no)] .next [("self", .loc, .val (wsOf l)), ("other", .loc, .val (wsOf m)), ("n", .loc, .val (.int (wK l m))), ("ts", .loc, .no)]) ∧
        (wAll l m is = false → ∃ ρ', LoopL { X with A := A, env := fenv q (cm 13 6) code L 108 } (ftgt (stm (fbody (cm 13 6)) 3)) (fbod (stm (fbody (cm 13 6)) 3)) (is.map fun i => .int (2 + (i : Nat) * 1))
        [("self", .loc, .val (wsOf l)), ("other", .loc, .val (wsOf m)), ("n", .loc, .val (.int (wK l m))), ("ts", .loc, .no)] (.ret (.bool false)) ρ') := by
      intro is
      induction is with
      | nil => intro _; exact ⟨fun _ => .nil, fun h => by cases h⟩
      | cons i is ih =>
        intro hi
        have hi0 := hi i (List.mem_cons_self ..)
        obtain ⟨ih1, ih2⟩ := ih fun j hj => hi j (List.mem_cons_of_mem _ hj)
        have e : wAll l m (i :: is) = (!wNot l m (2 + (i : Nat) * 1) && wAll l m is) := by simp [wAll]
        rw [e]
        have tst : It { X with A := A, env := fenv q (cm 13 6) code L 108 } (match (fbod (stm (fbody (cm 13 6)) 3)) with | .If t _ _ _ :: _ => t | _ => .Constant .none 0 default)
            [("self", .loc, .val (wsOf l)), ("other", .loc, .val (wsOf m)), ("n", .loc, .val (.int (wK l m))), ("ts", .loc, .val (.int (2 + (i : Nat) * 1)))] (wNot l m (2 + (i : Nat) * 1)) :=
          it_cmp (ev_call_meth K.at (by walk_at "nm") K.i_lev ob_lev K.k_lev (evs_cons (by walk_at "nm") evs_nil) (fn_level G K l hl _ (by omega) (by omega)).at hA.less) (ev_call_meth K.at (by walk_at "nm") K.i_lev ob_lev K.k_lev (evs_cons (by walk_at "nm") evs_nil) (fn_level G K m hm _ (by omega) (by omega)).at hA.less) op_ge
        cases hn : wNot l m (2 + (i : Nat) * 1) with
        | false =>
          have step : ∀ {fl ρ'}, LoopL { X with A := A, env := fenv q (cm 13 6) code L 108 } (ftgt (stm (fbody (cm 13 6)) 3)) (fbod (stm (fbody (cm 13 6)) 3)) (is.map fun i => .int (2 + (i : Nat) * 1))
              [("self", .loc, .val (wsOf l)), ("other", .loc, .val (wsOf m)), ("n", .loc, .val (.int (wK l m))), ("ts", .loc, .no)] fl ρ' → LoopL { X with A := A, env := fenv q (cm 13 6) code L 108 } (ftgt (stm (fbody (cm 13 6)) 3)) (fbod (stm (fbody (cm 13 6)) 3)) ((i :: is).map fun i => .int (2 + (i : Nat) * 1))
              [("self", .loc, .val (wsOf l)), ("other", .loc, .val (wsOf m)), ("n", .loc, .val (.int (wK l m))), ("ts", .loc, .no)] fl ρ' := fun h =>
            .cons (p := .int (2 + (i : Nat) * 1)) (asg_name (by walk_at "put")) (exs_cons (ex_if tst (fun h => absurd (hn ▸ h) (by decide)) (fun _ => exs_nil)) (exs_done (.same (.same (.same (.drop .nil)))))) h
          refine ⟨fun h => step (ih1 (by simpa using h)), fun h => ?_⟩
          obtain ⟨ρ', h'⟩ := ih2 (by simpa using h)
          exact ⟨ρ', step h'⟩
        | true =>
          refine ⟨fun h => by simp at h, fun _ => ⟨_, .ret (p := .int (2 + (i : Nat) * 1)) (asg_name (by walk_at "put")) (exs_stop (ex_if tst (fun _ => exs_stop (ex_return ev_bool)) (fun h => absurd (hn ▸ h) (by decide))))⟩⟩
    obtain ⟨l1, l2⟩ := loop (List.range (wK l m + 1 - 2).toNat) (fun i hi => by have := List.mem_range.mp hi; omega)
    cases ha : wAll l m (List.range (wK l m + 1 - 2).toNat) with
    | true => exact rt_cons (ex_forL (it_range2 (n := (wK l m + 1 - 2).toNat) hh (evv_builtin W G.n_range G.b_range rfl) ev_int (ev_binop (by walk_at "nm") ev_int op_add) rfl (by omega) (by omega) (by omega) (by omega)) (l1 ha)) (rt_return ev_bool)
    | false =>
      obtain ⟨ρ', h'⟩ := l2 ha
      exact rt_stop (ex_forL (it_range2 (n := (wK l m + 1 - 2).toNat) hh (evv_builtin W G.n_range G.b_range rfl) ev_int (ev_binop (by walk_at "nm") ev_int op_add) rfl (by omega) (by omega) (by omega) (by omega)) h')
theorem fn_wit (G : Pgm X mg mb') (K : Wsp X mN) (l m : List Nat) (hl : l.length ≤ 1000) (hm : m.length ≤ 1000) : FnS X 115 [wsOf l, wsOf m] (.list (wWit l m)) 2 := by
  have big : (100000 : Nat) < sizeLine := by decide
  have hk := wK_le l m 1000 hl hm
  refine fn_of G.toGw (fun L => [("self", .loc, .val (wsOf l)), ("other", .loc, .val (wsOf m)), ("n", .loc, .no), ("a", .loc, .no), ("ts", .loc, .no)]) (xs := ["self", "other"]) K.f_wit ?_ (by decide) (by walk_at "kinds") (fun L => by walk_at "ini") (by walk_at "nd") (by walk_at "nn") ?_
  · intro n q doc pm an code ct vs hvs
    match vs, hvs with
    | [u, v], _ => rfl
  · intro A q code L hA
    have hh := hA.handled
    have W := G.toGw.wd hA (st := cm 13 7) (L := L) (f := 115) (q := q) (code := code)
    refine rt_cons (ex_assign (p := .int (wK l m)) (ev_binop (ev_call_builtin (id := "max") (evv_builtin W G.n_maxb G.b_max rfl) (evs_cons (ev_call_meth0 K.at (by walk_at "nm") K.i_run ob_run K.k_run (fn_run G K l hl).at hA.less) (evs_cons (ev_call_meth0 K.at (by walk_at "nm") K.i_run ob_run K.k_run (fn_run G K m hm).at hA.less) evs_nil)) (op_max hh)) ev_int op_add) (by walk_at "put")) ?_
    refine rt_cons (ex_assign_new (evn_list evs_nil) (by walk_at "put")) ?_
    have loop : ∀ (is : List Nat) (acc : List PV), (∀ i ∈ is, i < 2000) → acc.length + is.length ≤ 10000 → LoopL { X with A := A, env := fenv q (cm 13 7) code L 115 } (ftgt (stm (fbody (cm 13 7)) 2)) (fbod (stm (fbody (cm 13 7)) 2)) (is.map fun i => .int (1 + (i : Nat) * 1))
        [("self", .loc, .val (wsOf l)), ("other", .loc, .val (wsOf m)), ("n", .loc, .val (.int (wK l m))), ("a", .loc, .mu true acc), ("ts", .loc, .no)] .next [("self", .loc, .val (wsOf l)), ("other", .loc, .val (wsOf m)), ("n", .loc, .val (.int (wK l m))), ("a", .loc, .mu true (acc ++ wWitL l m is)), ("ts", .loc, .no)] := by
      intro is
      induction is with
      | nil => intro acc _ _; rw [show acc ++ wWitL l m [] = acc by simp [wWitL]]; exact .nil
      | cons i is ih =>
        intro acc hi hn
        simp only [List.length_cons] at hn
        have hi0 := hi i (List.mem_cons_self ..)
        have tst : It { X with A := A, env := fenv q (cm 13 7) code L 115 } (match (fbod (stm (fbody (cm 13 7)) 2)) with | .If t _ _ _ :: _ => t | _ => .Constant .none 0 default)
            [("self", .loc, .val (wsOf l)), ("other", .loc, .val (wsOf m)), ("n", .loc, .val (.int (wK l m))), ("a", .loc, .mu true acc), ("ts", .loc, .val (.int (1 + (i : Nat) * 1)))] (wNot l m (1 + (i : Nat) * 1)) :=
          it_cmp (ev_call_meth K.at (by walk_at "nm") K.i_lev ob_lev K.k_lev (evs_cons (by walk_at "nm") evs_nil) (fn_level G K l hl _ (by omega) (by omega)).at hA.less) (ev_call_meth K.at (by walk_at "nm") K.i_lev ob_lev K.k_lev (evs_cons (by walk_at "nm") evs_nil) (fn_level G K m hm _ (by omega) (by omega)).at hA.less) op_ge
        have hi' : ∀ j ∈ is, j < 2000 := fun j hj => hi j (List.mem_cons_of_mem _ hj)
        cases hw : wNot l m (1 + (i : Nat) * 1) with
        | false =>
          have e : wWitL l m (i :: is) = wWitL l m is := by simp only [wWitL, List.filter_cons, hw]; rfl
          rw [e]
          exact .cons (p := .int (1 + (i : Nat) * 1)) (asg_name (by walk_at "put")) (exs_cons (ex_if tst (fun h => absurd (hw ▸ h) (by decide)) (fun _ => exs_nil)) (exs_done (.same (.same (.same (.same (.drop .nil))))))) (ih acc hi' (by omega))
        | true =>
          have e : acc ++ wWitL l m (i :: is) = (acc ++ [wWitAt l m (1 + (i : Nat) * 1)]) ++ wWitL l m is := by simp only [wWitL, List.filter_cons, hw, List.append_assoc]; rfl
          rw [e]
          refine .cons (p := .int (1 + (i : Nat) * 1)) (asg_name (by walk_at "put")) (exs_cons (ex_if tst (fun _ => exs_cons (ex_append (p := wWitAt l m (1 + (i : Nat) * 1)) ?_ (by walk_at "at") (by omega) (by walk_at "put")) exs_nil) (fun h => absurd (hw ▸ h) (by decide))) (exs_done (.same (.same (.same (.same (.drop .nil))))))) (ih _ hi' (by simp; omega))
          exact ev_tuple (evs_cons (by walk_at "nm") (evs_cons (ev_call_meth K.at (by walk_at "nm") K.i_lev ob_lev K.k_lev (evs_cons (by walk_at "nm") evs_nil) (fn_level G K l hl _ (by omega) (by omega)).at hA.less) (evs_cons (ev_call_meth K.at (by walk_at "nm") K.i_lev ob_lev K.k_lev (evs_cons (by walk_at "nm") evs_nil) (fn_level G K m hm _ (by omega) (by omega)).at hA.less) evs_nil)))
    have h' := loop (List.range (wK l m + 1 - 1).toNat) [] (fun i hi => by have := List.mem_range.mp hi; omega) (by simp; omega)
    refine rt_cons (ex_forL (it_range2 (n := (wK l m + 1 - 1).toNat) hh (evv_builtin W G.n_range G.b_range rfl) ev_int (ev_binop (by walk_at "nm") ev_int op_add) rfl (by omega) (by omega) (by omega) (by omega)) h') ?_
    exact rt_thaw (x := "a") (by walk_at "put") (rt_return (by walk_at "nm"))
end
end PL
end
noncomputable section
open PySem PySem.W PyProof.Rows
set_option Elab.async false
set_option linter.unusedVariables false
set_option maxRecDepth 100000
set_option pp.maxSteps 600
namespace PL
/-- a comprehension's frame -/
noncomputable abbrev cEnv (scope : Scope) (cl : List (Str × Addr)) (C : Addr) (env : Env) : Env :=
  { scope := relabel scope env, locals := C, globals := env.globals, cells := cellsFrom (C + 1) scope.names cl, qual := env.qual, func := none, code := env.code, frame := env.frame, builtins := env.builtins }
theorem newEnv_comp {M : Model} {A : Around} {E : Value → Shared → Prop} {s : Shared} {scope : Scope} {env : Env} {cl : List (Str × Addr)} {Q : Env → Shared → Prop}
    (hQ : Q { scope, locals := s.heap.objs.size, globals := env.globals, cells := cellsFrom (s.heap.objs.size + 1) scope.names cl, qual := env.qual, func := none, code := env.code, frame := env.frame, builtins := env.builtins }
      { s with heap := pushCells (s.heap.push { cls := .type "dict", data := .dict #[] }) scope.names }) : wpAny M A (newFunctionEnv scope env.globals cl [] env.qual none .none (some env)) Q E s := by
  simp only [newFunctionEnv, Option.isSome_some, if_true]
  refine wpAny_bind (wpAny_alloc ?_)
  refine wpAny_bind (wpAny_layCells _ (fun name kind cells => by cases hkc : kind == NameKind.cell <;> simp [hkc]) _ _ _ _ ?_)
  rw [show ({ s with heap := s.heap.push { cls := .type "dict", data := .dict #[] } } : Shared).heap.objs.size = s.heap.objs.size + 1 from Heap.size_push ..]
  simp only [List.forIn_nil]
  exact wpAny_bind (wpAny_pure (wpAny_pure hQ))

/-- a captured name -/
inductive Cap : Vars → Str → Addr → PV → Prop
  | cell {x c p r} : Cap ((x, .cell c, .val p) :: r) x c p
  | free {x c p r} : Cap ((x, .free c, .val p) :: r) x c p
  | there {x c p e r} : Cap r x c p → Cap (e :: r) x c p
inductive CIni (k : Str → Option NameKind) (cs own : List (Str × Addr)) (ρ : Vars) : Vars → Prop
  | nil : CIni k cs own ρ []
  | loc {x r} : k x = some .local → CIni k cs own ρ r → CIni k cs own ρ ((x, .loc, .no) :: r)
  | cell {x c r} : k x = some .cell → cs.lookup x = some c → own.lookup x = some c → CIni k cs own ρ r → CIni k cs own ρ ((x, .cell c, .no) :: r)
  | free {x c p r} : k x = some .cell → cs.lookup x = some c → Cap ρ x c p → CIni k cs own ρ r → CIni k cs own ρ ((x, .free c, .val p) :: r)

section
variable {X : Cx} {ρ ρ' ρ'' : Vars} {mg mb' mN : Str → Option Value}
theorem Cap.get {V O s} (F : X.F V O ρ s) {x : Str} {c : Addr} {p : PV} (h : Cap ρ x c p) : V c ∧ ∃ v, s.heap.IsCell c (some v) ∧ X.R V s p v := by
  obtain ⟨m, hn, hv⟩ := F.vars
  have key : (x, VK.cell c, VV.val p) ∈ ρ ∨ (x, VK.free c, VV.val p) ∈ ρ := by
    clear F hv
    induction h with
    | cell => exact .inl (List.mem_cons_self ..)
    | free => exact .inr (List.mem_cons_self ..)
    | there _ ih => exact ih.imp (List.mem_cons_of_mem _) (List.mem_cons_of_mem _)
  rcases key with h | h
  · obtain ⟨a, b, v0, d, e⟩ := hv _ h
    obtain ⟨v, rfl, r⟩ := e p rfl
    exact ⟨F.own c (List.mem_cons_of_mem _ (List.mem_filterMap.mpr ⟨_, h, rfl⟩)), v, d, r⟩
  · obtain ⟨a, b, hc, v0, d, e⟩ := hv _ h
    obtain ⟨v, rfl, r⟩ := e p rfl
    exact ⟨hc, v, d, r⟩
theorem CIni.own {k cs own ρc} (h : CIni k cs own ρ ρc) (O : Str → Addr) : ∀ b ∈ ρc.filterMap (ownOf O), ∃ n, own.lookup n = some b := by
  induction h with
  | nil => intro b hb; cases hb
  | loc _ _ ih => simpa [List.filterMap_cons, ownOf] using ih
  | cell _ _ ho _ ih =>
    intro b hb
    simp only [List.filterMap_cons, ownOf, List.mem_cons] at hb
    rcases hb with rfl | hb
    · exact ⟨_, ho⟩
    · exact ih b hb
  | free _ _ _ _ ih => simpa [List.filterMap_cons, ownOf] using ih
theorem CIni.frees {k cs own ρc} (h : CIni k cs own ρ ρc) : ∀ x c q, (x, VK.free c, q) ∈ ρc → ∃ p, Cap ρ x c p := by
  induction h with
  | nil => intro x c q hm; cases hm
  | loc _ _ ih => intro x c q hm; rcases List.mem_cons.mp hm with e | e; cases e; exact ih x c q e
  | cell _ _ _ _ ih => intro x c q hm; rcases List.mem_cons.mp hm with e | e; cases e; exact ih x c q e
  | free _ _ hc _ ih => intro x c q hm; rcases List.mem_cons.mp hm with e | e; cases e; exact ⟨_, hc⟩; exact ih x c q e
theorem CIni.vars {env : Env} {O O' : Str → Addr} {own : List (Str × Addr)} {m : Str → Option Value} {V V' : Addr → Prop} {s s' : Shared} {ρc : Vars} (h : CIni env.kindOf env.cells own ρ ρc) (F : X.F V O ρ s) (g : Grow s s') (hV : ∀ b, V b → V' b) (hV' : ∀ b, V' b → V b ∨ s.heap.get? b = none)
    (hc : ∀ n c, own.lookup n = some c → s'.heap.IsCell c none) : ∀ e ∈ ρc, VarAt X.C env O' m V' s'.heap e := by
  induction h with
  | nil => intro e he; cases he
  | loc hk _ ih =>
    intro e he
    rcases List.mem_cons.mp he with rfl | he
    · exact hk
    · exact ih e he
  | cell hk hl ho _ ih =>
    intro e he
    rcases List.mem_cons.mp he with rfl | he
    · exact ⟨hk, hl, _, hc _ _ ho, fun p hp => by cases hp⟩
    · exact ih e he
  | free hk hl hcap _ ih =>
    intro e he
    rcases List.mem_cons.mp he with rfl | he
    · obtain ⟨hcV, v, hcell, r⟩ := hcap.get F
      exact ⟨hk, hl, hV _ hcV, some v, IsCell.by hcell (fun o e => g.keep _ o e), fun p hp => by
        cases hp
        exact ⟨v, rfl, Rep.mono (fun b o nb e => ⟨fun h => (hV' b h).elim nb (fun h => by rw [h] at e; cases e), g.keep b o e⟩) _ r⟩⟩
    · exact ih e he

theorem YieldsT.at {t : Expr} {it : Value} {wr : List Addr} {G : List Nat} {items : Nat → Option PV} {St : (Addr → Prop) → Nat → Shared → Prop} (Y : YieldsT X t it wr G items St) {env : Env} : YieldsT { X with env := env } t it wr G items St :=
  ⟨Y.frame, Y.live, Y.item, Y.done, Y.self⟩

/-- the tests of a comprehension -/
inductive Tst (X : Cx) (ρ : Vars) : List Expr → Bool → Prop
  | nil : Tst X ρ [] true
  | one {c b} : It X c ρ b → Tst X ρ [c] b
/-- the turns of a comprehension -/
inductive CmpL (X : Cx) (target elt : Expr) (ifs : List Expr) (ρ : Vars) : List PV → List PV → Prop
  | nil : CmpL X target elt ifs ρ [] []
  | skip {p ps out ρ₁} : Asg X target p ρ ρ₁ → Tst X ρ₁ ifs false → Weak ρ₁ ρ → CmpL X target elt ifs ρ ps out → CmpL X target elt ifs ρ (p :: ps) out
  | take {p ps q out ρ₁} : Asg X target p ρ ρ₁ → Tst X ρ₁ ifs true → Ev X elt ρ₁ q → Weak ρ₁ ρ → CmpL X target elt ifs ρ ps out → CmpL X target elt ifs ρ (p :: ps) (q :: out)
theorem CmpL.length {target elt : Expr} {ifs : List Expr} {l out : List PV} (h : CmpL X target elt ifs ρ l out) : out.length ≤ l.length := by
  induction h with
  | nil => exact Nat.le_refl _
  | skip _ _ _ _ ih => simp only [List.length_cons]; omega
  | take _ _ _ _ _ ih => simp only [List.length_cons]; omega

/-- within a comprehension's loop -/
structure InComp (X : Cx) (V : Addr → Prop) (s₀ : Shared) (St : (Addr → Prop) → Nat → Shared → Prop) (wr : List Addr) (G : List Nat) (D : Addr) (outs : List PV) (i : Nat) (V₁ : Addr → Prop) (O₁ : Str → Addr) (ρ₁ : Vars) (s₁ : Shared) : Prop where
  frm : X.F V₁ O₁ ρ₁ s₁
  st : St V₁ i s₁
  acc : ∃ vs : List Value, s₁.heap.PlainList D vs.toArray ∧ Reps X.C V₁ s₁.heap outs vs
  wrV : ∀ b ∈ D :: wr, V₁ b
  wrO : ∀ b ∈ D :: wr, b ∉ PL.owned X.env O₁ ρ₁
  up : ∀ b, V b → V₁ b
  own : ∀ b ∈ PL.owned X.env O₁ ρ₁, s₀.heap.get? b = none
  keep : ∀ b o, s₀.heap.get? b = some o → s₁.heap.get? b = some o
  os : s₁.os = s₀.os
  gens : GX G s₀.gens s₁.gens
  frees : ∀ x c q, (x, VK.free c, q) ∈ ρ₁ → ∃ o, s₀.heap.get? c = some o

theorem InComp.wrF {V s₀ St wr G D outs i V₁ O₁ ρ₁ s₁} (L : InComp X V s₀ St wr G D outs i V₁ O₁ ρ₁ s₁) (hwr : ∀ b ∈ D :: wr, s₀.heap.get? b = none) : ∀ x c q, (x, VK.free c, q) ∈ ρ₁ → c ∉ D :: wr := fun x c q h hm => by
  obtain ⟨o, e⟩ := L.frees x c q h
  rw [hwr c hm] at e; cases e
theorem InComp.dead {V s₀ St wr G D outs i V₁ O₁ ρ₁ s₁} (L : InComp X V s₀ St wr G D outs i V₁ O₁ ρ₁ s₁) {b : Addr} (h : s₁.heap.get? b = none) : s₀.heap.get? b = none := by
  cases e : s₀.heap.get? b with
  | none => rfl
  | some o => rw [L.keep b o e] at h; cases h
theorem InComp.ran {V s₀ St wr G D outs i V₁ O₁ ρ₁ s₁ V₂ O₂ ρ₂ s₂} {t : Expr} {it : Value} {items} (Y : YieldsT X t it wr G items St) (hVl : ∀ b, V b → ∃ o, s₀.heap.get? b = some o) (L : InComp X V s₀ St wr G D outs i V₁ O₁ ρ₁ s₁) (R : Ran X V₁ O₁ ρ₁ s₁ V₂ O₂ ρ₂ s₂) : InComp X V s₀ St wr G D outs i V₂ O₂ ρ₂ s₂ := by
  obtain ⟨vs, hp, rs⟩ := L.acc
  have live : ∀ b ∈ D :: wr, ∃ o, s₁.heap.get? b = some o := fun b hb => by
    rcases List.mem_cons.mp hb with rfl | hb
    · obtain ⟨n, e⟩ := hp; exact ⟨_, e⟩
    · exact Y.live V₁ i s₁ L.st b hb
  have kw : ∀ b ∈ D :: wr, ∀ o, s₁.heap.get? b = some o → s₂.heap.get? b = some o := fun b hb o e => R.step.keep b o (L.wrO b hb) e
  exact {
    frm := R.frm
    st := Y.frame V₁ V₂ i s₁ s₂ L.st (fun b hb => L.wrV b (List.mem_cons_of_mem _ hb)) (fun b hb => kw b (List.mem_cons_of_mem _ hb)) (fun b o nb e => ⟨fun h => (R.vext.fresh b h).elim nb (fun h' => by rw [h'] at e; cases e), R.step.keep b o (fun hm => nb (L.frm.own b hm)) e⟩) R.step.gens
    acc := ⟨vs, hp.at fun o e => kw D (List.mem_cons_self ..) o e, R.reps L.frm rs⟩
    wrV := fun b hb => (R.vext.up b (L.wrV b hb)).resolve_right (L.wrO b hb)
    wrO := fun b hb hm => by
      rcases R.fresh b hm with h | h
      · exact L.wrO b hb h
      · obtain ⟨o, e⟩ := live b hb; rw [e] at h; cases h
    up := fun b hb => (R.vext.up b (L.up b hb)).resolve_right fun hm => by obtain ⟨o, e⟩ := hVl b hb; rw [L.own b hm] at e; cases e
    own := fun b hb => (R.fresh b hb).elim (L.own b) L.dead
    keep := fun b o e => R.step.keep b o (fun hm => by rw [L.own b hm] at e; cases e) (L.keep b o e)
    os := R.step.os.trans L.os
    gens := L.gens.trans (R.step.gens.gx G)
    frees := fun x c q h => let ⟨q', h'⟩ := R.frees x c q h; L.frees x c q' h' }
theorem InComp.weak {V s₀ St wr G D outs i V₁ O₁ ρ₁ s₁ ρ₂} (L : InComp X V s₀ St wr G D outs i V₁ O₁ ρ₁ s₁) (h : Weak ρ₁ ρ₂) : InComp X V s₀ St wr G D outs i V₁ O₁ ρ₂ s₁ := by
  have hoo : PL.owned X.env O₁ ρ₂ = PL.owned X.env O₁ ρ₁ := by unfold PL.owned; rw [h.owned O₁]
  exact { frm := L.frm.weak h, st := L.st, acc := L.acc, wrV := L.wrV, wrO := hoo ▸ L.wrO, up := L.up, own := hoo ▸ L.own, keep := L.keep, os := L.os, gens := L.gens, frees := fun x c q hm => (h.mem _ hm).elim (L.frees x c q) fun ⟨_, _, e⟩ => by rcases e with ⟨e, _⟩ | ⟨_, e, _⟩ <;> cases e }

theorem tst_run {ifs : List Expr} {b : Bool} (h : Tst X ρ ifs b) {V O s} {Q : Bool → Shared → Prop} {E : Value → Shared → Prop} (F : X.F V O ρ s) (hQ : ∀ s', Grow s s' → Q b s') :
    wpAny X.M X.A (forIn ifs true fun c r => if r = true then do let ok ← isTrue c X.env (eval c X.env); pure (ForInStep.yield ok) else pure (ForInStep.yield r)) Q E s := by
  cases h with
  | nil => exact wpAny_tests_nil (hQ s (.refl s))
  | one hi => exact wpAny_tests_one (hi V O s Q E F hQ)

theorem cmp_loop {elt target iter : Expr} {ifs : List Expr} {scope : Scope} {pos : Pos} {it : Value} {D : Addr} {V : Addr → Prop} {s₀ s₁ : Shared} {St} {wr : List Addr} {G : List Nat} {l₀ l out outs : List PV} {i : Nat} {V₁ : Addr → Prop} {O₁ : Str → Addr} {R : Result → Shared → Prop}
    (Y : YieldsT X target it wr G (fun i => l₀[i]?) St) (hVl : ∀ b, V b → ∃ o, s₀.heap.get? b = some o) (hwr : ∀ b ∈ D :: wr, s₀.heap.get? b = none) (hDw : D ∉ wr) (hsz : l₀.length ≤ sizeLine)
    (h : CmpL X target elt ifs ρ l out) (hl : l₀.drop i = l) (hlen : outs.length + l.length ≤ l₀.length) (L : InComp X V s₀ St wr G D outs i V₁ O₁ ρ s₁)
    (hR : ∀ i V' O' s', InComp X V s₀ (fun _ _ _ => True) [] G D (outs ++ out) i V' O' ρ s' → R (.ok .next) s') :
    codeAny X.M X.A (.compLoop (.ListComp elt [⟨target, iter, ifs, 0⟩] scope pos) 0 it (.ref D) X.env) R s₁ := by
  refine codeAny_compLoop_go (prog := X.prog) (w := X.w) (fun k s' => ∃ i l out outs V₁ O₁, CmpL X target elt ifs ρ l out ∧ l₀.drop i = l ∧ outs.length + l.length ≤ l₀.length ∧ k = l.length ∧ InComp X V s₀ St wr G D outs i V₁ O₁ ρ s' ∧
      (∀ i V' O' s', InComp X V s₀ (fun _ _ _ => True) [] G D (outs ++ out) i V' O' ρ s' → R (.ok .next) s')) ?_ l.length ⟨i, l, out, outs, V₁, O₁, h, hl, hlen, rfl, L, hR⟩
  rintro k s' ⟨i, l, out, outs, V₁, O₁, h, hl, hlen, rfl, L, hR⟩
  have first : ∀ (p : PV) (ps : List PV), l₀.drop i = p :: ps → l₀[i]? = some p ∧ l₀.drop (i + 1) = ps := fun p ps e => by
    refine ⟨?_, ?_⟩
    · have := List.getElem?_drop (xs := l₀) (i := i) (j := 0)
      rw [e] at this; simpa using this.symm
    · rw [← List.drop_drop, e]; rfl
  have wrV' : ∀ b ∈ wr, V₁ b := fun b hb => L.wrV b (List.mem_cons_of_mem _ hb)
  have movedTo : ∀ {j : Nat} {St' : (Addr → Prop) → Nat → Shared → Prop} {s₂ : Shared}, St' V₁ j s₂ → (∀ b ∈ wr, ∃ o, s₂.heap.get? b = some o) → (∀ b o, b ∉ wr → s'.heap.get? b = some o → s₂.heap.get? b = some o) → s₂.os = s'.os → GX G s'.gens s₂.gens → InComp X V s₀ St' wr G D outs j V₁ O₁ ρ s₂ := fun {j St' s₂} st hlw hk hos hg => by
    obtain ⟨vs, hp, rs⟩ := L.acc
    exact { frm := L.frm.moved wrV' (fun b hb => L.wrO b (List.mem_cons_of_mem _ hb)) (fun x c q hm hc => L.wrF hwr x c q hm (List.mem_cons_of_mem _ hc)) hlw hk
            st := st
            acc := ⟨vs, hp.at fun o e => hk D o hDw e, Reps.mono (fun b o nb e => ⟨nb, hk b o (fun hm => nb (wrV' b hm)) e⟩) _ rs⟩
            wrV := L.wrV, wrO := L.wrO, up := L.up, own := L.own
            keep := fun b o e => hk b o (fun hm => by rw [hwr b (List.mem_cons_of_mem _ hm)] at e; cases e) (L.keep b o e)
            os := hos.trans L.os, gens := L.gens.trans hg, frees := L.frees }
  cases h with
  | nil =>
    have hn : l₀[i]? = none := by
      have := List.getElem?_drop (xs := l₀) (i := i) (j := 0)
      rw [hl] at this; simpa using this.symm
    refine Y.done V₁ i s' _ _ hn L.st wrV' L.frm.vol fun s₂ hk hos hg => ?_
    obtain ⟨vs, hp, rs⟩ := L.acc
    refine hR i (fun b => V₁ b ∧ b ∉ wr) O₁ s₂ ?_
    rw [List.append_nil]
    exact { frm := L.frm.leave wrV' (fun b hb => L.wrO b (List.mem_cons_of_mem _ hb)) (fun x c q hm hc => L.wrF hwr x c q hm (List.mem_cons_of_mem _ hc)) hk
            st := trivial
            acc := ⟨vs, hp.at fun o e => hk D o hDw e, Reps.mono (fun b o nb e => ⟨fun h => nb h.1, hk b o (fun hm => nb (wrV' b hm)) e⟩) _ rs⟩
            wrV := fun b hb => by rw [List.mem_singleton.mp hb]; exact ⟨L.wrV D (List.mem_cons_self ..), hDw⟩
            wrO := fun b hb => by rw [List.mem_singleton.mp hb]; exact L.wrO D (List.mem_cons_self ..)
            up := fun b hb => ⟨L.up b hb, fun hm => by obtain ⟨o, e⟩ := hVl b hb; rw [hwr b (List.mem_cons_of_mem _ hm)] at e; cases e⟩
            own := L.own
            keep := fun b o e => hk b o (fun hm => by rw [hwr b (List.mem_cons_of_mem _ hm)] at e; cases e) (L.keep b o e)
            os := hos.trans L.os, gens := L.gens.trans hg, frees := L.frees }
  | skip ha htst hw hr =>
    obtain ⟨hp, hl'⟩ := first _ _ hl
    refine Y.item V₁ i _ s' _ _ _ hp L.st wrV' L.frm.vol fun v s₂ r st₂ hk hos hg => ?_
    have L₂ := movedTo st₂ (Y.live V₁ _ s₂ st₂) hk hos hg
    refine ha V₁ O₁ s₂ v _ _ L₂.frm r fun V₂ O₂ s₃ R₂ _ => ?_
    have L₃ := L₂.ran Y hVl R₂
    refine tst_run htst L₃.frm fun s₄ g₄ => ?_
    have L₄ := (L₃.ran Y hVl (.grow L₃.frm g₄)).weak hw
    simp only [Bool.false_eq_true, if_false]
    exact ⟨_, Nat.lt_succ_self _, i + 1, _, _, outs, V₂, O₂, hr, hl', by simp only [List.length_cons] at hlen; omega, rfl, L₄, hR⟩
  | take ha htst he hw hr =>
    obtain ⟨hp, hl'⟩ := first _ _ hl
    refine Y.item V₁ i _ s' _ _ _ hp L.st wrV' L.frm.vol fun v s₂ r st₂ hk hos hg => ?_
    have L₂ := movedTo st₂ (Y.live V₁ _ s₂ st₂) hk hos hg
    refine ha V₁ O₁ s₂ v _ _ L₂.frm r fun V₂ O₂ s₃ R₂ _ => ?_
    have L₃ := L₂.ran Y hVl R₂
    refine tst_run htst L₃.frm fun s₄ g₄ => ?_
    have L₄ := L₃.ran Y hVl (.grow L₃.frm g₄)
    simp only [if_true]
    refine he V₂ O₂ s₄ _ _ L₄.frm fun u s₅ g₅ ru => ?_
    have L₅ := (L₄.ran Y hVl (.grow L₄.frm g₅)).weak hw
    obtain ⟨vs, hpl, rs⟩ := L₅.acc
    simp only [List.length_cons] at hlen
    refine wpAny_list_append_plain hpl (fun h' hp' hs' => ?_) (by rw [List.size_toArray, rs.length]; omega)
    have e1 : vs.toArray.push u = (vs ++ [u]).toArray := by simp
    rw [e1] at hp'
    have up : ∀ b o, b ≠ D → s₅.heap.get? b = some o → h'.get? b = some o := fun b o hb e => (hs'.2 b hb).trans e
    have DV := L₅.wrV D (List.mem_cons_self ..)
    refine ⟨_, Nat.lt_succ_self _, i + 1, _, _, outs ++ [_], V₂, O₂, hr, hl', by simp only [List.length_append, List.length_cons, List.length_nil]; omega, rfl, ?_, fun j V' O' s' h => hR j V' O' s' (by simpa using h)⟩
    exact { frm := L₅.frm.moved (wr := [D]) (fun b hb => List.mem_singleton.mp hb ▸ DV) (fun b hb => List.mem_singleton.mp hb ▸ L₅.wrO D (List.mem_cons_self ..)) (fun x c q hm hc => L₅.wrF hwr x c q hm (List.mem_singleton.mp hc ▸ List.mem_cons_self ..)) (fun b hb => by rw [List.mem_singleton.mp hb]; obtain ⟨n, e⟩ := hp'; exact ⟨_, e⟩) (fun b o hb e => up b o (fun h => hb (List.mem_singleton.mpr h)) e)
            st := Y.frame V₂ V₂ _ s₅ _ L₅.st (fun b hb => L₅.wrV b (List.mem_cons_of_mem _ hb)) (fun b hb o e => up b o (fun h => hDw (h ▸ hb)) e) (fun b o nb e => ⟨nb, up b o (fun h => nb (h ▸ DV)) e⟩) (.refl _)
            acc := ⟨vs ++ [u], hp', Reps.mono (fun b o nb e => ⟨nb, up b o (fun h => nb (h ▸ DV)) e⟩) _ (rs.append (.one ru))⟩
            wrV := L₅.wrV, wrO := L₅.wrO, up := L₅.up, own := L₅.own
            keep := fun b o e => up b o (fun h => by rw [h, hwr D (List.mem_cons_self ..)] at e; cases e) (L₅.keep b o e)
            os := L₅.os, gens := L₅.gens, frees := L₅.frees }
end
end PL
end
noncomputable section
open PySem PySem.W PyProof.Rows
set_option Elab.async false
set_option linter.unusedVariables false
set_option maxRecDepth 100000
set_option pp.maxSteps 600
namespace PL
section
variable {X : Cx} {ρ ρ' ρ'' : Vars} {mg mb' mN : Str → Option Value}
theorem comp_block {elt target iter : Expr} {ifs : List Expr} {scope : Scope} {pos pos' : Pos} {cl : List (Str × Addr)} {l out : List PV} (ρc : Addr → Vars) {use : Option (Value → Sem Unit)}
    (hi : IterToT X target iter ρ (fun i => l[i]?)) (hbody : ∀ C, CmpL { X with env := cEnv scope cl C X.env } target elt ifs (ρc C) l out)
    (hini : ∀ C, CIni (cEnv scope cl C X.env).kindOf (cEnv scope cl C X.env).cells (cellsFrom (C + 1) scope.names []) ρ (ρc C)) (hnd : ∀ C O, (C :: (ρc C).filterMap (ownOf O)).Nodup) (hnn : ∀ C, ((ρc C).map (·.1)).Nodup)
    (hsz : l.length ≤ sizeLine) (hclos : closureFor scope X.env = pure cl) (hkind : scope.kind = .function) (hnames : ∀ y ∈ scope.names, y.2 = .local → scope.names.lookup y.1 = some .local)
    {V : Addr → Prop} {O : Str → Addr} {s : Shared} {Q : Value → Shared → Prop} {E : Value → Shared → Prop} (F : X.F V O ρ s)
    (hQ : ∀ D C (vs : List Value) s', Grow s s' → s.heap.get? D = none → s.heap.get? C = none → C ≠ D → s'.heap.PlainList D vs.toArray → Reps X.C (VW V [D, C]) s'.heap out vs → (∃ m, s'.heap.Ns C m) → compPost X.M X.A E use Q (.ref D) C (.ok .next) s')
    (hs : ∀ x, foldedSetIterable iter X.env x = pure x) :
    wpAny X.M X.A (comprehension (.ListComp elt [⟨target, iter, ifs, 0⟩] scope pos) scope X.env pos' (newList []) false (eval iter X.env) use) Q E s := by
  refine wpAny_comprehension_free rfl hs hclos hkind hnames (hi V O s _ E F fun it s₁ wr G St g Y hwr hG hst => ?_)
  refine wpAny_newObj_type (newEnv_comp ?_)
  let D : Addr := s₁.heap.objs.size
  let H2 : Heap := s₁.heap.push { cls := .type "list", dict := none, data := .seq ([] : List Value).toArray }
  let C : Addr := H2.objs.size
  let H3 : Heap := pushCells (H2.push { cls := .type "dict", data := .dict #[] }) scope.names
  let s₃ : Shared := { s₁ with heap := H3 }
  let Xc : Cx := { X with env := cEnv scope cl C X.env }
  let O₀ : Str → Addr := fun _ => 0
  have eC : C = D + 1 := Heap.size_push ..
  have hDC : D < C := Nat.lt_of_lt_of_eq (Nat.lt_succ_self D) eC.symm
  have k13 : ∀ b o, s₁.heap.get? b = some o → H3.get? b = some o := fun b o e => pushCells_keeps _ _ b o (Heap.get?_push_of_some _ (Heap.get?_push_of_some _ e))
  have g3 : Grow s s₃ := g.trans ⟨k13, rfl, .refl _⟩
  have ok := cellsFrom_ok scope.names (H2.push { cls := .type "dict", data := .dict #[] }) (C + 1) [] ⟨fun _ _ hm => (nomatch hm), List.Pairwise.nil⟩ (by rw [Heap.size_push]; exact Nat.le_refl _)
  rw [Heap.size_push] at ok
  have dead1 : ∀ b, D ≤ b → s₁.heap.get? b = none := fun b hb => by
    cases e : s₁.heap.get? b with
    | none => rfl
    | some o => exact absurd (Heap.lt_size e) (Nat.not_lt.mpr hb)
  have deadS : ∀ b, s₁.heap.get? b = none → s.heap.get? b = none := fun b hb => by
    cases e : s.heap.get? b with
    | none => rfl
    | some o => rw [g.keep b o e] at hb; cases hb
  have ownGe : ∀ b ∈ PL.owned Xc.env O₀ (ρc C), C ≤ b := fun b hb => by
    rcases List.mem_cons.mp hb with rfl | hb
    · exact Nat.le_refl _
    · obtain ⟨n, hn⟩ := (hini C).own O₀ b hb
      exact Nat.le_of_succ_le (ok.empty n b (mem_of_lookup hn)).2
  have own1 : ∀ b ∈ PL.owned Xc.env O₀ (ρc C), s₁.heap.get? b = none := fun b hb => dead1 b (Nat.le_trans (Nat.le_of_lt hDC) (ownGe b hb))
  have nsC : H3.Ns C fun _ => none := (Heap.Ns.new H2 (.type "dict")).keeps (pushCells_keeps _ _)
  have plD : H3.PlainList D #[] := ⟨_, pushCells_keeps _ _ _ _ (Heap.get?_push_of_some _ (Heap.get?_push_size _ rfl))⟩
  have liveO : ∀ b ∈ PL.owned Xc.env O₀ (ρc C), ∃ o, H3.get? b = some o := fun b hb => by
    rcases List.mem_cons.mp hb with rfl | hb
    · obtain ⟨o, _, _, e, _⟩ := nsC; exact ⟨o, e⟩
    · obtain ⟨n, hn⟩ := (hini C).own O₀ b hb
      obtain ⟨o, e, _⟩ := (ok.empty n b (mem_of_lookup hn)).1; exact ⟨o, e⟩
  have baseD : ∀ b, s.heap.get? b = none → X.base.get? b = none := fun b hb => by
    cases e : X.base.get? b with
    | none => rfl
    | some o => rw [F.vol.keep b o e] at hb; cases hb
  have wrl : ∀ b ∈ wr, ∃ o, s₁.heap.get? b = some o := Y.live _ _ _ hst
  have hDw : D ∉ wr := fun h => by obtain ⟨o, e⟩ := wrl D h; rw [dead1 D (Nat.le_refl _)] at e; cases e
  have hwr' : ∀ b ∈ D :: wr, s.heap.get? b = none := fun b hb => by
    rcases List.mem_cons.mp hb with rfl | hb
    · exact deadS _ (dead1 _ (Nat.le_refl _))
    · exact hwr b hb
  let V₁ : Addr → Prop := VW (VW V wr) (D :: PL.owned Xc.env O₀ (ρc C))
  have V₁V : ∀ b, V₁ b → V b ∨ s.heap.get? b = none := fun b hb => by
    rcases hb with (h | h) | h
    · exact .inl h
    · exact .inr (hwr b h)
    · rcases List.mem_cons.mp h with rfl | h
      · exact .inr (hwr' _ (List.mem_cons_self ..))
      · exact .inr (deadS b (own1 b h))
  have L : InComp Xc V s St wr G D [] 0 V₁ O₀ (ρc C) s₃ :=
    { frm := ⟨⟨fun b o e => g3.keep b o (F.vol.keep b o e), fun b hb => by
            rcases hb with (h | h) | h
            · obtain ⟨o, e⟩ := F.vol.live b h; exact ⟨o, g3.keep b o e⟩
            · obtain ⟨o, e⟩ := wrl b h; exact ⟨o, k13 b o e⟩
            · rcases List.mem_cons.mp h with rfl | h
              · obtain ⟨n, e⟩ := plD; exact ⟨_, e⟩
              · exact liveO b h, fun b hb => (V₁V b hb).elim (F.vol.apart b) (baseD b)⟩, hkind, ⟨_, nsC, CIni.vars (X := X) (hini C) F g3 (fun b h => .inl (.inl h)) V₁V fun n c h => (ok.empty n c (mem_of_lookup h)).1⟩,
          fun b hb => .inr (List.mem_cons_of_mem _ hb), hnd C O₀, hnn C, fun x c q hm hc => by
            obtain ⟨p, hcap⟩ := (hini C).frees x c q hm
            obtain ⟨_, v, ⟨o, e, _⟩, _⟩ := hcap.get F
            rw [deadS c (own1 c hc)] at e; cases e⟩
      st := Y.frame (VW V wr) V₁ 0 s₁ s₃ hst (fun b h => .inr h) (fun b _ o e => k13 b o e) (fun b o nb e => ⟨fun h => h.elim nb fun h => (List.mem_cons.mp h).elim (fun h => by rw [h, dead1 D (Nat.le_refl _)] at e; cases e) (fun h => by rw [own1 b h] at e; cases e), k13 b o e⟩) (.refl _)
      acc := ⟨[], plD, .nil⟩
      wrV := fun b hb => (List.mem_cons.mp hb).elim (fun h => .inr (h ▸ List.mem_cons_self ..)) fun h => .inl (.inr h)
      wrO := fun b hb hm => (List.mem_cons.mp hb).elim (fun h => absurd (ownGe b hm) (by rw [h]; exact Nat.not_le.mpr hDC)) fun h => by obtain ⟨o, e⟩ := wrl b h; rw [own1 b hm] at e; cases e
      up := fun b h => .inl (.inl h)
      own := fun b hb => deadS b (own1 b hb)
      keep := g3.keep
      os := g3.os
      gens := g3.gens.gx G
      frees := fun x c q hm => by
        obtain ⟨p, hcap⟩ := (hini C).frees x c q hm
        obtain ⟨_, v, ⟨o, e, _⟩, _⟩ := hcap.get F
        exact ⟨o, e⟩ }
  have loop : codeAny X.M X.A (.compLoop (.ListComp elt [⟨target, iter, ifs, 0⟩] scope pos) 0 it (.ref D) (cEnv scope cl C X.env)) (compPost X.M X.A E use Q (.ref D) C) s₃ := by
    refine cmp_loop (X := Xc) (Y.at (env := cEnv scope cl C X.env)) F.vol.live hwr' hDw hsz (hbody C) rfl (by simp) L (fun i V' O' s' L' => ?_)
    obtain ⟨vs, hp, rs⟩ := L'.acc
    obtain ⟨m, hn, _⟩ := L'.frm.vars
    refine hQ D C vs s' ⟨L'.keep, L'.os, ⟨fun j x e => L'.gens.1 j x (fun h => by rw [hG j h] at e; cases e) e, L'.gens.2⟩⟩ (hwr' _ (List.mem_cons_self ..)) (deadS C (dead1 C (Nat.le_of_lt hDC))) (Nat.ne_of_gt hDC) hp ?_ ⟨m, hn⟩
    refine Reps.mono (fun b o nb e => ⟨fun h => nb ?_, e⟩) _ rs
    rcases h with h | h
    · exact L'.up b h
    · rcases List.mem_cons.mp h with rfl | h
      · exact L'.wrV _ (List.mem_cons_self ..)
      · rw [List.mem_singleton.mp h]; exact L'.frm.own _ (List.mem_cons_self ..)
  exact codeAny_compStart_list loop (Y.self V₁ 0 s₃ _ _ L.st loop)

/-- a list comprehension -/
theorem evn_compT {elt target iter : Expr} {ifs : List Expr} {scope : Scope} {pos : Pos} {cl : List (Str × Addr)} {l out : List PV} (ρc : Addr → Vars)
    (hi : IterToT X target iter ρ (fun i => l[i]?)) (hbody : ∀ C, CmpL { X with env := cEnv scope cl C X.env } target elt ifs (ρc C) l out)
    (hini : ∀ C, CIni (cEnv scope cl C X.env).kindOf (cEnv scope cl C X.env).cells (cellsFrom (C + 1) scope.names []) ρ (ρc C)) (hnd : ∀ C O, (C :: (ρc C).filterMap (ownOf O)).Nodup) (hnn : ∀ C, ((ρc C).map (·.1)).Nodup)
    (hsz : l.length ≤ sizeLine) (hclos : closureFor scope X.env = pure cl := by rfl) (hkind : scope.kind = .function := by rfl) (hnames : ∀ y ∈ scope.names, y.2 = .local → scope.names.lookup y.1 = some .local := by decide)
    (hs : ∀ x, foldedSetIterable iter X.env x = pure x := by intro _; rfl) : EvNew X (.ListComp elt [⟨target, iter, ifs, 0⟩] scope pos) ρ out := fun V O s Q E F hQ => by
  rw [eval_ListComp]
  refine comp_block (use := none) ρc hi hbody hini hnd hnn hsz hclos hkind hnames F (fun D C vs s' g hD hC hCD hp rs hn => ?_) hs
  obtain ⟨m, hn⟩ := hn
  refine ⟨m, hn, fun h' hs' => hQ D vs { s' with heap := h' } ⟨fun b o e => hs'.extBut b o (fun h => by rw [h, hC] at e; cases e) (g.keep b o e), g.os, g.gens⟩ hD (hp.extBut hs'.extBut hCD.symm) ?_⟩
  exact Reps.mono (fun b o nb e => ⟨fun h => nb (h.imp id fun h => by rw [List.mem_singleton.mp h]; exact List.mem_cons_self ..), hs'.extBut b o (fun h => nb (.inr (h ▸ List.mem_cons_of_mem _ (List.mem_singleton.mpr rfl)))) e⟩) _ rs

/-- a name bound to a list comprehension -/
theorem ex_assign_compT {y : Str} {py spos : Pos} {elt target iter : Expr} {ifs : List Expr} {scope : Scope} {pos : Pos} {cl : List (Str × Addr)} {l out : List PV} (ρc : Addr → Vars)
    (hi : IterToT X target iter ρ (fun i => l[i]?)) (hbody : ∀ C, CmpL { X with env := cEnv scope cl C X.env } target elt ifs (ρc C) l out)
    (hini : ∀ C, CIni (cEnv scope cl C X.env).kindOf (cEnv scope cl C X.env).cells (cellsFrom (C + 1) scope.names []) ρ (ρc C)) (hnd : ∀ C O, (C :: (ρc C).filterMap (ownOf O)).Nodup) (hnn : ∀ C, ((ρc C).map (·.1)).Nodup)
    (hsz : l.length ≤ sizeLine) (h : Put ρ y (.list out) ρ') (hsw : swapsWith (.ListComp elt [⟨target, iter, ifs, 0⟩] scope pos) (some (.Name y py)) spos.line X.env = pure true := by rfl)
    (hclos : closureFor scope X.env = pure cl := by rfl) (hkind : scope.kind = .function := by rfl) (hnames : ∀ y ∈ scope.names, y.2 = .local → scope.names.lookup y.1 = some .local := by decide)
    (hs : ∀ x, foldedSetIterable iter X.env x = pure x := by intro _; rfl) : Ex1 X (.Assign [.Name y py] (.ListComp elt [⟨target, iter, ifs, 0⟩] scope pos) spos) ρ .next ρ' := fun V O s Q E F hQ => by
  rw [exec_Assign_Name_used _ _ _ _ hsw]
  refine wpAny_bind (wpAny_standAt (wpAny_bind ?_))
  show wpAny _ X.A (do let _ ← comprehension (.ListComp elt [⟨target, iter, ifs, 0⟩] scope pos) scope X.env _ (newList []) false (eval iter X.env) (some (assign (.Name y py) X.env))) _ _ s
  refine wpAny_bind (wpAny_mono (comp_block (use := some (assign (.Name y py) X.env)) (Q := fun _ s' => Q .next s') (E := E) ρc hi hbody hini hnd hnn hsz hclos hkind hnames F (fun D C vs s' g hD hC hCD hp rs hn => ?_) hs) (fun _ s' hq => wpAny_pure (wpAny_pure hq)) fun _ _ e => e)
  obtain ⟨m, hn⟩ := hn
  have hCl : ∃ o, s'.heap.get? C = some o := by obtain ⟨o, _, _, e, _⟩ := hn; exact ⟨o, e⟩
  have hCb : X.base.get? C = none := by
    cases e : X.base.get? C with
    | none => rfl
    | some o => rw [F.vol.keep C o e] at hC; cases hC
  have hVl : ∀ b, V b → s.heap.get? b ≠ none := fun b hb e => by obtain ⟨o, e'⟩ := F.vol.live b hb; rw [e] at e'; cases e'
  have F₁ : X.F (VW V [C]) O ρ s' := (F.grow g).widen (fun b hb => List.mem_singleton.mp hb ▸ hCl) (fun b hb => List.mem_singleton.mp hb ▸ hCb) F g (fun b hb => List.mem_singleton.mp hb ▸ hC)
  have r : Rep X.C (VW V [C]) s'.heap (.list out) (.ref D) := by
    simp only [Rep]
    refine ⟨D, vs, rfl, fun h => ?_, hp.isList, Reps.mono (fun b o nb e => ⟨fun h => nb (h.imp id fun h => List.mem_cons_of_mem _ h), e⟩) _ rs⟩
    rcases h with h | h
    · exact hVl D h hD
    · exact hCD (List.mem_singleton.mp h).symm
  show wpAny _ X.A (assign (.Name y py) X.env (.ref D)) _ _ _
  refine PySem.wpAny_assign_Name (F₁.store h r fun s'' F₂ st ho => ?_)
  have hCo : C ∉ PL.owned X.env O ρ := fun hm => hVl C (F.own C hm) hC
  have hn₂ : s''.heap.Ns C m := Ns.by hn fun o e => st.keep C o hCo e
  refine ⟨m, hn₂, fun h' hs' => ?_⟩
  have keepH : ∀ b o, b ∉ [C] → s''.heap.get? b = some o → h'.get? b = some o := fun b o hb e => hs'.extBut b o (fun h => hb (List.mem_singleton.mpr h)) e
  have nofree : ∀ x c q, (x, VK.free c, q) ∈ ρ' → c ∉ [C] := fun x c q hm hc => by
    obtain ⟨q', h'⟩ := h.frees x c q hm
    obtain ⟨m₀, _, hv₀⟩ := F.vars
    obtain ⟨_, _, hcV, _⟩ := hv₀ _ h'
    exact hVl c hcV (List.mem_singleton.mp hc ▸ hC)
  have F₃ : X.F (fun b => VW V [C] b ∧ b ∉ [C]) O ρ' { s'' with heap := h' } := F₂.leave (fun b hb => .inr hb) (fun b hb => by rw [ho, List.mem_singleton.mp hb]; exact hCo) nofree keepH
  refine hQ _ O _ .next ⟨F₃, ⟨fun b hb => .inl ⟨.inl hb, fun hm => hVl b hb (List.mem_singleton.mp hm ▸ hC)⟩, fun b hb => (hb.1).elim .inl fun h => absurd h hb.2⟩, fun b hb => .inl (ho ▸ hb), ⟨fun b o hb e => ?_, st.os.trans g.os, g.gens.trans st.gens⟩, h.frees⟩ rfl
  exact keepH b o (fun hm => by rw [List.mem_singleton.mp hm, hC] at e; cases e) (st.keep b o hb (g.keep b o e))
theorem evn_comp {elt target iter : Expr} {ifs : List Expr} {scope : Scope} {pos : Pos} {cl : List (Str × Addr)} {l out : List PV} (ρc : Addr → Vars)
    (hi : IterTo X iter ρ (fun i => l[i]?)) (hbody : ∀ C, CmpL { X with env := cEnv scope cl C X.env } target elt ifs (ρc C) l out)
    (hini : ∀ C, CIni (cEnv scope cl C X.env).kindOf (cEnv scope cl C X.env).cells (cellsFrom (C + 1) scope.names []) ρ (ρc C)) (hnd : ∀ C O, (C :: (ρc C).filterMap (ownOf O)).Nodup) (hnn : ∀ C, ((ρc C).map (·.1)).Nodup)
    (hsz : l.length ≤ sizeLine) (hclos : closureFor scope X.env = pure cl := by rfl) (hkind : scope.kind = .function := by rfl) (hnames : ∀ y ∈ scope.names, y.2 = .local → scope.names.lookup y.1 = some .local := by decide)
    (hs : ∀ x, foldedSetIterable iter X.env x = pure x := by intro _; rfl) (ht : ∀ it v, letOwnedTupleGo target it v = pure () := by intro _ _; rfl) : EvNew X (.ListComp elt [⟨target, iter, ifs, 0⟩] scope pos) ρ out := evn_compT ρc (hi.toT ht) hbody hini hnd hnn hsz hclos hkind hnames hs
theorem ex_assign_comp {y : Str} {py spos : Pos} {elt target iter : Expr} {ifs : List Expr} {scope : Scope} {pos : Pos} {cl : List (Str × Addr)} {l out : List PV} (ρc : Addr → Vars)
    (hi : IterTo X iter ρ (fun i => l[i]?)) (hbody : ∀ C, CmpL { X with env := cEnv scope cl C X.env } target elt ifs (ρc C) l out)
    (hini : ∀ C, CIni (cEnv scope cl C X.env).kindOf (cEnv scope cl C X.env).cells (cellsFrom (C + 1) scope.names []) ρ (ρc C)) (hnd : ∀ C O, (C :: (ρc C).filterMap (ownOf O)).Nodup) (hnn : ∀ C, ((ρc C).map (·.1)).Nodup)
    (hsz : l.length ≤ sizeLine) (h : Put ρ y (.list out) ρ') (hsw : swapsWith (.ListComp elt [⟨target, iter, ifs, 0⟩] scope pos) (some (.Name y py)) spos.line X.env = pure true := by rfl)
    (hclos : closureFor scope X.env = pure cl := by rfl) (hkind : scope.kind = .function := by rfl) (hnames : ∀ y ∈ scope.names, y.2 = .local → scope.names.lookup y.1 = some .local := by decide)
    (hs : ∀ x, foldedSetIterable iter X.env x = pure x := by intro _; rfl) (ht : ∀ it v, letOwnedTupleGo target it v = pure () := by intro _ _; rfl) : Ex1 X (.Assign [.Name y py] (.ListComp elt [⟨target, iter, ifs, 0⟩] scope pos) spos) ρ .next ρ' := ex_assign_compT ρc (hi.toT ht) hbody hini hnd hnn hsz h hsw hclos hkind hnames hs
end
end PL
end
noncomputable section
open PySem PySem.W PyProof.Rows PySem.Builtin.Str
set_option Elab.async false
set_option linter.unusedVariables false
set_option maxRecDepth 100000
set_option pp.maxSteps 600
namespace PL
/-- a text cut at its tabs -/
noncomputable def cut : List Nat → List (List Nat)
  | [] => [[]]
  | c :: l => if c = 9 then [] :: cut l else match cut l with
    | [] => [[c]]
    | p :: ps => (c :: p) :: ps
noncomputable def glue : List (List Nat) → List Nat
  | [] => []
  | [p] => p
  | p :: q :: r => p ++ 9 :: glue (q :: r)
theorem cut_ne (l : List Nat) : cut l ≠ [] := by
  cases l with
  | nil => simp [cut]
  | cons c l =>
    rw [cut]
    split
    · simp
    · split <;> simp
theorem cut_app (p : List Nat) (l : List Nat) (hp : 9 ∉ p) : cut (p ++ 9 :: l) = p :: cut l := by
  induction p with
  | nil => simp [cut]
  | cons c p ih =>
    simp only [List.mem_cons, not_or] at hp
    rw [List.cons_append, cut, if_neg (Ne.symm hp.1), ih hp.2]
theorem cut_free (p : List Nat) (hp : 9 ∉ p) : cut p = [p] := by
  induction p with
  | nil => rfl
  | cons c p ih =>
    simp only [List.mem_cons, not_or] at hp
    rw [cut, if_neg (Ne.symm hp.1), ih hp.2]
theorem cut_glue : ∀ ps : List (List Nat), ps ≠ [] → (∀ p ∈ ps, 9 ∉ p) → cut (glue ps) = ps
  | [], h, _ => absurd rfl h
  | [p], _, hp => cut_free p (hp p (List.mem_cons_self ..))
  | p :: q :: r, _, hp => by
    rw [glue, cut_app _ _ (hp p (List.mem_cons_self ..)), cut_glue (q :: r) (by simp) fun x hx => hp x (List.mem_cons_of_mem _ hx)]
theorem join_glue : ∀ ys : List Str, (Str.join ⟨#[9]⟩ ys).cps.toList = glue (ys.map (·.cps.toList))
  | [] => rfl
  | [x] => rfl
  | x :: y :: r => by
    rw [PyProof.Rows.join_cons_cons]
    show (x ++ ⟨#[9]⟩ ++ Str.join ⟨#[9]⟩ (y :: r)).cps.toList = x.cps.toList ++ 9 :: glue (y.cps.toList :: r.map (·.cps.toList))
    have := join_glue (y :: r)
    rw [List.map_cons] at this
    rw [← this]
    show (x.cps ++ #[9] ++ (Str.join ⟨#[9]⟩ (y :: r)).cps).toList = _
    simp
theorem split_cut (l : List Nat) : Txt.split (T l) ⟨#[9]⟩ = (cut l).map T := by
  have h1 := StrLaws.join_split (T l) ⟨#[9]⟩
  have h2 := StrLaws.split_free (T l) 9
  have h3 : (Txt.split (T l) ⟨#[9]⟩) ≠ [] := fun e => by have := PyProof.Rows.split_pos (T l) ⟨#[9]⟩; rw [e] at this; simp at this
  generalize Txt.split (T l) ⟨#[9]⟩ = ys at h1 h2 h3
  have h4 : l = glue (ys.map (·.cps.toList)) := by rw [← join_glue, h1]
  rw [h4, cut_glue _ (by simpa using h3) (fun p hp => by obtain ⟨y, hy, rfl⟩ := List.mem_map.mp hp; exact h2 y hy), List.map_map]
  have : ∀ zs : List Str, zs = zs.map (T ∘ fun x => x.cps.toList) := fun zs => by
    induction zs with
    | nil => rfl
    | cons z zs ih => rw [List.map_cons, ← ih]; congr 1
  exact this ys
theorem cut_len : ∀ l : List Nat, (cut l).length ≤ l.length + 1
  | [] => by simp [cut]
  | c :: l => by
    have := cut_len l
    rw [cut]
    split
    · simp only [List.length_cons]; omega
    · cases e : cut l with
      | nil => simp
      | cons p ps => rw [e] at this; simp only [List.length_cons] at this ⊢; omega
theorem cut_part : ∀ (l p : List Nat), p ∈ cut l → p.length ≤ l.length
  | [], p, h => by simp [cut] at h; subst h; simp
  | c :: l, p, h => by
    have ih := cut_part l
    rw [cut] at h
    split at h
    · rcases List.mem_cons.mp h with rfl | h
      · simp
      · have := ih p h; simp only [List.length_cons]; omega
    · cases e : cut l with
      | nil => exact absurd e (cut_ne l)
      | cons q qs =>
        rw [e] at h ih
        rcases List.mem_cons.mp h with rfl | h
        · have := ih q (List.mem_cons_self ..); simp only [List.length_cons]; omega
        · have := ih p (List.mem_cons_of_mem _ h); simp only [List.length_cons]; omega

/-- the greatest of a list -/
noncomputable def greatest : List Int → Int
  | [] => 0
  | [a] => a
  | a :: r => if greatest r > a then greatest r else a
theorem greatest_spec : ∀ l : List Int, l ≠ [] → greatest l ∈ l ∧ ∀ a ∈ l, a ≤ greatest l
  | [], h => absurd rfl h
  | [a], _ => by simp [greatest]
  | a :: b :: r, _ => by
    obtain ⟨h1, h2⟩ := greatest_spec (b :: r) (by simp)
    rw [greatest]
    · split
      · rename_i hg
        exact ⟨List.mem_cons_of_mem _ h1, fun x hx => by rcases List.mem_cons.mp hx with rfl | hx; omega; exact h2 x hx⟩
      · rename_i hg
        exact ⟨List.mem_cons_self .., fun x hx => by rcases List.mem_cons.mp hx with rfl | hx; omega; have := h2 x hx; omega⟩
    · intro h; cases h

section
variable {X : Cx} {ρ ρ' ρ'' : Vars} {mg mb' mN : Str → Option Value}
theorem strs_reps {C : Addr} {V : Addr → Prop} {h : Heap} : ∀ (l : List (Str × Tok)), Reps C V h (l.map fun x => PV.str x.1) (strValues l)
  | [] => .nil
  | (x, t) :: l => .cons ⟨t, rfl⟩ (strs_reps l)
theorem split_call {x y : Str} {t u : Tok} {A : Around} {E : Value → Shared → Prop} {s : Shared} {Q : Value → Shared → Prop} (hy : (y.length == 0) = false) (hx : x.length ≤ 100000)
    (hq : ∀ (l : List (Str × Tok)) k, l.map (·.1) = Txt.split x y → Q (.ref s.heap.objs.size) { s with toks := k, heap := s.heap.push { cls := .type "list", data := .seq (strValues l).toArray } }) :
    wpAny X.M A (call (.builtin "str.split") [.str x t, .str y u]) Q E s := by
  have big : (200000 : Nat) < sizeLine := by decide
  have hlen := PyProof.Rows.split_le x y
  cases h1 : (decide (x.length < y.length) || decide (strKind x < strKind y))
  · cases hf : (occurrences x y 0 x.length (x.length + 1)).isEmpty
    · have e : Txt.split x y = partsBetween x (occurrences x y 0 x.length (x.length + 1)) y.length := (if_neg (ne_true_of_eq_false h1)).trans (if_neg (ne_true_of_eq_false hf))
      refine call_meets F.slot_str_split (typeIs_str _ _ _) F.entry_str_split (F.args_str_split_2 _ _) (meets_str_split_sep x y t u h1 hy hf (by omega) (by rw [← e]; omega)) ?_
      show wants Q E _ { s with toks := _, heap := s.heap.push { cls := .type "list", data := .seq (strsFrom s.toks (partsBetween x (occurrences x y 0 x.length (x.length + 1)) y.length)).toArray } }
      rw [strsFrom_eq]
      exact hq (numbered s.toks _) _ ((numbered_texts _ _).trans e.symm)
    · exact call_meets F.slot_str_split (typeIs_str _ _ _) F.entry_str_split (F.args_str_split_2 _ _) (meets_str_split_not_found x y t u h1 hy hf)
        (hq [(x, t)] s.toks ((if_neg (ne_true_of_eq_false h1)).trans (if_pos hf)).symm)
  · exact call_meets F.slot_str_split (typeIs_str _ _ _) F.entry_str_split (F.args_str_split_2 _ _) (meets_str_split_cannot_occur x y t u h1)
      (hq [(x, t)] s.toks (if_pos h1).symm)
theorem op_split {l : List Nat} (hl : l.length ≤ 100000) : OpN X (fun vs => call (.builtin "str.split") vs) [.str (T l), .str (T [9])] (.list ((cut l).map fun p => .str (T p))) := fun V s us Q E vol rs hQ => by
  simp only [Cx.Rs, Reps] at rs
  obtain ⟨v, _, rfl, ⟨t, rfl⟩, v', _, rfl, ⟨t', rfl⟩, rfl⟩ := rs
  refine split_call rfl (by rw [T_len]; exact hl) fun ps k e => ?_
  have e2 : ((cut l).map fun p => PV.str (T p)) = ps.map fun x => PV.str x.1 := by
    have h := split_cut l
    rw [show (T [9] : Str) = ⟨#[9]⟩ from rfl] at e
    rw [← e] at h
    have := congrArg (List.map PV.str) h
    simp only [List.map_map] at this
    exact this.symm
  have g : Grow s { s with toks := k, heap := s.heap.push { cls := .type "list", data := .seq (strValues ps).toArray } } := ⟨fun b o e => Heap.get?_push_of_some _ e, rfl, .refl _⟩
  refine hQ _ _ g ?_
  show Rep _ _ _ _ _
  rw [e2]
  simp only [Rep]
  exact ⟨_, strValues ps, rfl, vol.not_new, ⟨_, Heap.get?_push_size _ rfl, rfl, _, rfl⟩, strs_reps ps⟩
theorem op_in9 {l : List Nat} : Op2 X (compareOp .In) (.str (T [9])) (.str (T l)) (.bool (decide (9 ∈ l))) := fun V s u v Q E vol ru rv hQ => by
  obtain ⟨t, rfl⟩ := ru; obtain ⟨t', rfl⟩ := rv
  refine PyProof.Rows.in_str (hQ _ _ (.refl s) ?_)
  have := PyProof.Rows.empty_one (T l) 9
  rw [show (T [9] : Str) = ⟨#[9]⟩ from rfl, this]
  simp only [Bool.not_not]
  exact rfl
theorem strsAre_of {C V h} : ∀ {ys : List Str} {vs : List Value}, Reps C V h (ys.map PV.str) vs → StrsAre vs ys
  | [], vs, r => by simp only [List.map_nil, Reps] at r; subst r; exact .nil
  | y :: ys, vs, r => by
    simp only [List.map_cons, Reps] at r
    obtain ⟨v, vs', rfl, ⟨t, rfl⟩, r⟩ := r
    exact .cons y t (strsAre_of r)
theorem join_empty : ∀ ys : List (List Nat), Str.join Str.empty (ys.map T) = T ys.flatten
  | [] => rfl
  | [x] => by simp [Str.join]
  | x :: y :: r => by
    have := join_empty (y :: r)
    simp only [List.map_cons] at this ⊢
    rw [PyProof.Rows.join_cons_cons, this]
    show (⟨(T x).cps ++ Str.empty.cps ++ (T ((y :: r).flatten)).cps⟩ : Str) = _
    simp [Str.empty]
theorem op_join {ys : List (List Nat)} (hn : ys.length ≤ 1000) (hs : ∀ y ∈ ys, y.length ≤ 1000) : OpN X (fun vs => call (.builtin "str.join") vs) [.str Str.empty, .list (ys.map fun y => .str (T y))] (.str (T ys.flatten)) := fun V s us Q E vol rs hQ => by
  simp only [Cx.Rs, Reps] at rs
  obtain ⟨v, _, rfl, ⟨t, rfl⟩, v', _, rfl, r', rfl⟩ := rs
  obtain ⟨a, vs, rfl, nV, hl, rs⟩ := rep_list r'
  have e : (ys.map fun y => PV.str (T y)) = (ys.map T).map PV.str := by simp
  rw [e] at rs
  have hw : ∀ zs : List (List Nat), (∀ y ∈ zs, y.length ≤ 1000) → ((zs.map T).map (·.length)).sum ≤ zs.length * 1000 := fun zs => by
    induction zs with
    | nil => intro _; simp
    | cons z zs ih =>
      intro h
      have h1 := ih fun y hy => h y (List.mem_cons_of_mem _ hy)
      have h2 := h z (List.mem_cons_self ..)
      simp only [List.map_cons, List.sum_cons, List.length_cons, T_len] at h1 ⊢
      omega
  refine PyProof.Rows.join_list hl (ys := ys.map T) (by simpa using strsAre_of rs) ?_ fun t' k => hQ _ _ .toks ?_
  · have := hw ys hs
    have e0 : Str.empty.length = 0 := rfl
    rw [e0, Nat.mul_zero]; omega
  · have h1 : Txt.join Str.empty (ys.map T) = Str.join Str.empty (ys.map T) := beq_iff_eq.mp (PyProof.Rows.join_closes rfl)
    rw [h1, join_empty]
    exact ⟨t', rfl⟩
theorem op_maxl (hh : X.A.handled = none) {l : List Int} (hl : l ≠ []) : OpN X (fun vs => call (.builtin "max") vs) [.list (l.map .int)] (.int (greatest l)) := fun V s us Q E vol rs hQ => by
  simp only [Cx.Rs, Reps] at rs
  obtain ⟨v, _, rfl, r', rfl⟩ := rs
  obtain ⟨a, vs, rfl, nV, hl', rs⟩ := rep_list r'
  have hi : IntsAre vs l := by
    have key : ∀ {l : List Int} {vs : List Value}, IntsV l vs → IntsAre vs l := by
      intro l
      induction l with
      | nil => intro vs h; simp only [IntsV] at h; subst h; exact .nil
      | cons i l ih => intro vs h; simp only [IntsV] at h; obtain ⟨t, vs', rfl, h⟩ := h; exact .cons i t (ih h)
    exact key (reps_ints rs)
  obtain ⟨xs, e⟩ := hi.allInts.items
  have hns : l = xs.toList.map (·.1) := by rw [← hi.numsOf, ← nums_intItems, ← e]
  have hsz : 0 < xs.size := by
    have h3 : 0 < l.length := List.length_pos_iff.mpr hl
    rw [hns, List.length_map, Array.length_toList] at h3; exact h3
  rw [e] at hl'
  refine max_intList hh hl' hsz fun v h' tk hv hk => ?_
  obtain ⟨t, rfl⟩ := intItems_at hv
  obtain ⟨h1, h2⟩ := argBest_gt (numAt xs) (xs.size - 1)
  refine hQ _ _ (.heap hk) ⟨t, ?_⟩
  obtain ⟨g1, g2⟩ := greatest_spec l hl
  have m1 : numAt xs (argBest (fun i j => decide (numAt xs i > numAt xs j)) (xs.size - 1)) ∈ l := by
    rw [hns, numAt_eq]; exact getD_mem (by rw [List.length_map, Array.length_toList]; omega)
  have m2 : ∀ a ∈ l, a ≤ numAt xs (argBest (fun i j => decide (numAt xs i > numAt xs j)) (xs.size - 1)) := fun a ha => by
    rw [hns] at ha
    obtain ⟨j, hj, rfl⟩ := mem_getD ha
    rw [List.length_map, Array.length_toList] at hj
    rw [← numAt_eq]; exact h2 j (by omega)
  congr 1
  have := g2 _ m1
  have := m2 _ g1
  omega
end
end PL
end
noncomputable section
open PySem PySem.W PyProof.Rows PySem.Builtin.Str
set_option Elab.async false
set_option linter.unusedVariables false
set_option maxRecDepth 100000
set_option pp.maxSteps 600
namespace PL
local macro_rules | `(tactic| walk_at "at") => `(tactic| (repeat (first | exact At.here | exact AtMut.here | apply At.there | apply AtMut.there)))
local macro_rules | `(tactic| walk_at "put") => `(tactic| (repeat (first | exact Put.loc | exact Put.locNo | exact Put.cell | exact PutNew.no | exact PutNew.val | exact PutNew.mu | exact PutMut.here | exact Thaw.here | apply Put.there | apply PutNew.there | apply PutMut.there | apply Thaw.there)))
local macro_rules | `(tactic| walk_at "nm") => `(tactic| exact ev_name (by walk_at "at"))
local macro_rules | `(tactic| walk_at "ini") => `(tactic| (repeat (first | exact Ini.nil | apply Ini.argL rfl | apply Ini.loc rfl | apply Ini.argC rfl rfl | apply Ini.cell rfl rfl)))
local macro_rules | `(tactic| walk_at "nd") => `(tactic| (intro L O; simp [List.filterMap_cons, ownOf]))
local macro_rules | `(tactic| walk_at "nn") => `(tactic| (intro L; simp only [List.map_cons, List.map_nil]; decide))
local macro_rules | `(tactic| walk_at "kinds") => `(tactic| (intro L x hx; (repeat (rcases List.mem_cons.mp hx with h | hx; · (subst h; first | exact .inl rfl | exact .inr ⟨rfl, rfl⟩))); cases hx))
local macro_rules | `(tactic| walk_at "cap") => `(tactic| (repeat (first | exact Cap.cell | exact Cap.free | apply Cap.there)))
local macro_rules | `(tactic| walk_at "cini") => `(tactic| (intro C; repeat (first | exact CIni.nil | apply CIni.loc rfl | apply CIni.cell rfl rfl rfl | refine CIni.free rfl rfl (by walk_at "cap") ?_)))

theorem T_app (a b : List Nat) : T a ++ T b = T (a ++ b) := by
  show (⟨(T a).cps ++ (T b).cps⟩ : Str) = _
  simp
section
variable {X : Cx} {ρ ρ' ρ'' : Vars} {mg mb' mN : Str → Option Value}
theorem Wd.comp (W : Wd X mg mb') {scope : Scope} {cl : List (Str × Addr)} {C : Addr} (hk : scope.kind = .function := by rfl) : Wd { X with env := cEnv scope cl C X.env } mg mb' := ⟨W.g, W.b, W.lim, hk, W.handled⟩
theorem cmp_map {α : Type} {target elt : Expr} {ifs : List Expr} {f g : α → PV} : ∀ {l : List α}, (∀ a ∈ l, ∃ ρ₁, Asg X target (f a) ρ ρ₁ ∧ Tst X ρ₁ ifs true ∧ Ev X elt ρ₁ (g a) ∧ Weak ρ₁ ρ) → CmpL X target elt ifs ρ (l.map f) (l.map g)
  | [], _ => .nil
  | a :: l, h => by
    obtain ⟨ρ₁, h1, h2, h3, h4⟩ := h a (List.mem_cons_self ..)
    exact .take h1 h2 h3 h4 (cmp_map fun b hb => h b (List.mem_cons_of_mem _ hb))
theorem cmp_filter {α : Type} {target elt : Expr} {ifs : List Expr} {p : α → Bool} {f g : α → PV} : ∀ {l : List α}, (∀ a ∈ l, ∃ ρ₁, Asg X target (f a) ρ ρ₁ ∧ Tst X ρ₁ ifs (p a) ∧ (p a = true → Ev X elt ρ₁ (g a)) ∧ Weak ρ₁ ρ) → CmpL X target elt ifs ρ (l.map f) ((l.filter p).map g)
  | [], _ => .nil
  | a :: l, h => by
    obtain ⟨ρ₁, h1, h2, h3, h4⟩ := h a (List.mem_cons_self ..)
    have ih := cmp_filter (l := l) (p := p) (f := f) (g := g) fun b hb => h b (List.mem_cons_of_mem _ hb)
    cases hp : p a with
    | true => rw [List.filter_cons_of_pos hp]; exact .take h1 (hp ▸ h2) (h3 hp) h4 ih
    | false => rw [List.filter_cons_of_neg (by rw [hp]; decide)]; exact .skip h1 (hp ▸ h2) h4 ih

theorem ev_tab {k : Nat} {pos : Pos} : Ev X (.Constant (.str "\t") k pos) ρ (.str (T [9])) := ev_str
theorem ev_sp {k : Nat} {pos : Pos} : Ev X (.Constant (.str " ") k pos) ρ (.str (T [32])) := ev_str
theorem ev_emp {k : Nat} {pos : Pos} : Ev X (.Constant (.str "") k pos) ρ (.str (T [])) := ev_str
theorem ev_cat {l r : Expr} {pos : Pos} {a b : List Nat} (hl : Ev X l ρ (.str (T a))) (hr : Ev X r ρ (.str (T b))) (hsz : a.length + b.length ≤ 100000 := by simp; omega) : Ev X (.BinOp l .Add r pos) ρ (.str (T (a ++ b))) := by
  rw [← T_app]
  exact ev_binop hl hr (op_sadd (by rw [T_len, T_len]; exact Nat.le_trans hsz (by decide)))
theorem ev_split {o : Expr} {k : Nat} {p apos pos : Pos} {l : List Nat} (ho : Ev X o ρ (.str (T l))) (hl : l.length ≤ 100000 := by simp; omega) (hbase : attributeBase o "split" X.env (eval o X.env) = eval o X.env := by rfl)
    (hline : (apos.endLine == pos.line) = true := by rfl) : Ev X (.Call (.Attribute o "split" apos) [.Constant (.str "\t") k p] [] pos) ρ (.list ((cut l).map fun p => .str (T p))) :=
  ev_method ho str_type str_ref PySem.F.plainAttrs_str PySem.F.slot_str_split PySem.F.type_str_split (evs_cons ev_tab evs_nil) (op_split hl) hbase rfl hline

noncomputable def longest (lead text : List Nat) : Int := greatest ((cut (lead ++ 9 :: text)).map fun p => (p.length : Int))
noncomputable def colAt (lead text : List Nat) (size : Int) : PV := .tup [.int size, .int (column text size), .int (column lead size)]
noncomputable def cols (lead text : List Nat) : List PV := (List.range (longest lead text + 2 - 1).toNat).map fun i => colAt lead text (1 + (i : Nat) * 1)
theorem longest_le (lead text : List Nat) : 0 ≤ longest lead text ∧ longest lead text ≤ lead.length + text.length + 1 := by
  obtain ⟨h1, h2⟩ := greatest_spec ((cut (lead ++ 9 :: text)).map fun p => (p.length : Int)) (by simpa using cut_ne _)
  obtain ⟨p, hp, e⟩ := List.mem_map.mp h1
  have := cut_part _ p hp
  rw [List.length_append, List.length_cons] at this
  unfold longest; rw [← e]; constructor <;> omega
theorem fn_columns (G : Pgm X mg mb') (lead text : List Nat) (hl : lead.length ≤ 100) (ht : text.length ≤ 100) : FnS X 153 [.str (T lead), .str (T text)] (.list (cols lead text)) 2 := by
  have big : (1000 : Nat) < sizeLine := by decide
  have hlo := longest_le lead text
  refine fn_of G.toGw (fun L => [("lead", .cell (L + 1), .val (.str (T lead))), ("text", .cell (L + 2), .val (.str (T text))), ("longest", .loc, .no)]) (xs := ["lead", "text"]) G.f_columns ?_ (by decide) (by walk_at "kinds") (fun L => by walk_at "ini") (by walk_at "nd") (by walk_at "nn") ?_
  · intro n q doc pm an code ct vs hvs
    match vs, hvs with
    | [u, v], _ => rfl
  · intro A q code L hA
    have hh := hA.handled
    have W := G.toGw.wd hA (st := mb 19) (L := L) (f := 153) (q := q) (code := code)
    have hcut := cut_len (lead ++ 9 :: text)
    rw [List.length_append, List.length_cons] at hcut
    refine rt_cons (ex_assign (p := .int (longest lead text)) (ev_call_builtin (id := "max") (evv_builtin W G.n_maxb G.b_max rfl) (evs_cons (EvNew.ev (l := ((cut (lead ++ 9 :: text)).map fun p => (p.length : Int)).map PV.int)
      (evn_comp (cl := []) (l := (cut (lead ++ 9 :: text)).map fun p => .str (T p)) (fun C => [("run", .loc, .no)]) (it_list hh (ev_split (l := lead ++ 9 :: text) (by rw [show lead ++ 9 :: text = (lead ++ [9]) ++ text by simp]; exact ev_cat (ev_cat (by walk_at "nm") ev_tab) (by walk_at "nm"))))
        (fun C => ?_) (by walk_at "cini") (by walk_at "nd") (by walk_at "nn") (by simp; omega))) evs_nil) (op_maxl hh (by simpa using cut_ne _))) (by walk_at "put")) ?_
    · rw [List.map_map]
      exact cmp_map fun p hp => ⟨_, asg_name (by walk_at "put"), .nil, ev_call_builtin (id := "len") (evv_builtin (X := { X with A := A, env := cEnv _ [] C (fenv q (mb 19) code L 153) }) ⟨G.g, G.b, G.lim, rfl, hh⟩ G.n_len G.b_len rfl) (evs_cons (by walk_at "nm") evs_nil) (op_Tlen (by have := cut_part _ p hp; simp at this; omega)), .drop .nil⟩
    · refine rt_return (EvNew.ev (evn_comp (cl := [("text", L + 2), ("lead", L + 1)]) (l := rng 1 1 (longest lead text + 2 - 1).toNat) (out := cols lead text) (fun C => [("size", .loc, .no), ("lead", .free (L + 1), .val (.str (T lead))), ("text", .free (L + 2), .val (.str (T text)))])
        (it_range2 (n := (longest lead text + 2 - 1).toNat) hh (evv_builtin W G.n_range G.b_range rfl) ev_int (ev_binop (by walk_at "nm") ev_int op_add) rfl (by omega) (by omega) (by omega) (by omega)) (fun C => ?_) (by walk_at "cini") (by walk_at "nd") (by walk_at "nn") (by rw [rng_length]; omega)))
      have W' : Wd { X with A := A, env := cEnv (match (fbody (mb 19)).getD 1 (.Pass default) with | .Return (some (.ListComp _ _ sc _)) _ => sc | _ => default) [("text", L + 2), ("lead", L + 1)] C (fenv q (mb 19) code L 153) } mg mb' := ⟨G.g, G.b, G.lim, rfl, hh⟩
      refine cmp_map fun i hi => ⟨[("size", .loc, .val (.int (1 + (i : Nat) * 1))), ("lead", .free (L + 1), .val (.str (T lead))), ("text", .free (L + 2), .val (.str (T text)))], asg_name (by walk_at "put"), .nil, ?_, .drop (.same (.same .nil))⟩
      exact ev_tuple (evs_cons (by walk_at "nm") (evs_cons (ev_call_fn (evv_global W' G.m_column rfl) (evs_cons (by walk_at "nm") (evs_cons (by walk_at "nm") evs_nil)) (fn_column G text _ (by omega)).at hA) (evs_cons (ev_call_fn (evv_global W' G.m_column rfl) (evs_cons (by walk_at "nm") (evs_cons (by walk_at "nm") evs_nil)) (fn_column G lead _ (by omega)).at hA) evs_nil)))
end
end PL
end
noncomputable section
open PySem PySem.W PyProof.Rows PySem.Builtin.Str
set_option Elab.async false
set_option linter.unusedVariables false
set_option maxRecDepth 100000
set_option pp.maxSteps 600
namespace PL
local macro_rules | `(tactic| walk_at "at") => `(tactic| (repeat (first | exact At.here | exact AtMut.here | apply At.there | apply AtMut.there)))
local macro_rules | `(tactic| walk_at "put") => `(tactic| (repeat (first | exact Put.loc | exact Put.locNo | exact Put.cell | exact PutNew.no | exact PutNew.val | exact PutNew.mu | exact PutMut.here | exact Thaw.here | apply Put.there | apply PutNew.there | apply PutMut.there | apply Thaw.there)))
local macro_rules | `(tactic| walk_at "nm") => `(tactic| exact ev_name (by walk_at "at"))
local macro_rules | `(tactic| walk_at "ini") => `(tactic| (repeat (first | exact Ini.nil | apply Ini.argL rfl | apply Ini.loc rfl | apply Ini.argC rfl rfl | apply Ini.cell rfl rfl)))
local macro_rules | `(tactic| walk_at "nd") => `(tactic| (intro L O; simp [List.filterMap_cons, ownOf]))
local macro_rules | `(tactic| walk_at "nn") => `(tactic| (intro L; simp only [List.map_cons, List.map_nil]; decide))
local macro_rules | `(tactic| walk_at "kinds") => `(tactic| (intro L x hx; (repeat (rcases List.mem_cons.mp hx with h | hx; · (subst h; first | exact .inl rfl | exact .inr ⟨rfl, rfl⟩))); cases hx))
local macro_rules | `(tactic| walk_at "cap") => `(tactic| (repeat (first | exact Cap.cell | exact Cap.free | apply Cap.there)))
local macro_rules | `(tactic| walk_at "cini") => `(tactic| (intro C; repeat (first | exact CIni.nil | apply CIni.loc rfl | apply CIni.cell rfl rfl rfl | refine CIni.free rfl rfl (by walk_at "cap") ?_)))

noncomputable def sizesOf (l : List Nat) : List Int := (cut l).map fun p => (p.length : Int) + 1
noncomputable def lastI (s : List Int) : Int := s.getD (s.length - 1) 0
noncomputable def prevI (s : List Int) : Int := s.getD (s.length - 2) 0
noncomputable def dropEq : Nat → List Int → List Int
  | 0, s => s
  | n + 1, s => if 1 < s.length ∧ lastI s = prevI s then dropEq n s.dropLast else s
noncomputable def rulerTail (s : List Int) : List Int := let s1 := if 1 < s.length ∧ lastI s ≤ prevI s then s.dropLast else s; dropEq s1.length s1
noncomputable def ruler (l : List Nat) (kind : Int) : List Int := if kind = 1 then (sizesOf l).dropLast ++ [127, 1] else if kind = 2 then (sizesOf l).dropLast else rulerTail (sizesOf l) ++ [0, 4]
theorem sl_last {α : Type} (l : List α) : sl l none (some (-1)) = l.dropLast := by
  have := sl_neg (l := l) 1 (by decide)
  rw [List.dropLast_eq_take]
  exact this
theorem dropEq_len : ∀ n s, (dropEq n s).length ≤ s.length
  | 0, s => Nat.le_refl _
  | n + 1, s => by
    rw [dropEq]
    split
    · have := dropEq_len n s.dropLast; rw [List.length_dropLast] at this; omega
    · exact Nat.le_refl _
section
variable {X : Cx} {ρ ρ' ρ'' : Vars} {mg mb' mN : Str → Option Value}
theorem ruler_len (l : List Nat) (kind : Int) : (ruler l kind).length ≤ l.length + 3 := by
  have h := cut_len l
  have e : (sizesOf l).length = (cut l).length := by simp [sizesOf]
  unfold ruler
  split
  · simp [e]; omega
  · split
    · simp [e]; omega
    · unfold rulerTail
      dsimp only
      have h1 := dropEq_len (if 1 < (sizesOf l).length ∧ lastI (sizesOf l) ≤ prevI (sizesOf l) then (sizesOf l).dropLast else sizesOf l).length (if 1 < (sizesOf l).length ∧ lastI (sizesOf l) ≤ prevI (sizesOf l) then (sizesOf l).dropLast else sizesOf l)
      have h2 : (if 1 < (sizesOf l).length ∧ lastI (sizesOf l) ≤ prevI (sizesOf l) then (sizesOf l).dropLast else sizesOf l).length ≤ (sizesOf l).length := by split <;> simp
      simp only [List.length_append, List.length_cons, List.length_nil]
      omega
noncomputable abbrev rv (text : PV) (kind : Int) (s : VV) : Vars := [("text", .loc, .val text), ("kind", .loc, .val (.int kind)), ("sizes", .loc, s)]
theorem fn_ruler (G : Pgm X mg mb') (l : List Nat) (kind : Int) (hl : l.length ≤ 1000) : FnS X 127 [.str (T l), .int kind] (.list (iL (ruler l kind))) 1 := by
  have big : (200000 : Nat) < sizeLine := by decide
  have hcut := cut_len l
  refine fn_of G.toGw (fun L => rv (.str (T l)) kind .no) (xs := ["text", "kind"]) G.f_ruler ?_ (by decide) (by walk_at "kinds") (fun L => by walk_at "ini") (by walk_at "nd") (by walk_at "nn") ?_
  · intro n q doc pm an code ct vs hvs
    match vs, hvs with
    | [u, v], _ => rfl
  · intro A q code L hA
    have hh := hA.handled
    have W := G.toGw.wd hA (st := mb 15) (L := L) (f := 127) (q := q) (code := code)
    refine rt_cons (ex_assign_comp (cl := []) (l := (cut l).map fun p => .str (T p)) (out := iL (sizesOf l)) (fun C => [("run", .loc, .no)]) (it_list hh (ev_split (by walk_at "nm") (by omega))) (fun C => ?_) (by walk_at "cini") (by walk_at "nd") (by walk_at "nn") (by simp; omega) (by walk_at "put")) ?_
    · unfold iL sizesOf; rw [List.map_map]
      exact cmp_map fun p hp => ⟨_, asg_name (by walk_at "put"), .nil, ev_binop (ev_call_builtin (id := "len") (evv_builtin (X := { X with A := A, env := cEnv _ [] C (fenv q (mb 15) code L 127) }) ⟨G.g, G.b, G.lim, rfl, hh⟩ G.n_len G.b_len rfl) (evs_cons (by walk_at "nm") evs_nil) (op_Tlen (by have := cut_part _ p hp; omega))) ev_int op_add, .drop .nil⟩
    have slen : (sizesOf l).length = (cut l).length := by simp [sizesOf]
    generalize hs : sizesOf l = s at slen
    refine rt_if (it_cmp (by walk_at "nm") ev_int op_eq) (fun h => ?_) (fun h => ?_)
    · have h' : kind = 1 := by simpa using h
      rw [show ruler l kind = s.dropLast ++ [127, 1] by unfold ruler; rw [if_pos h', hs]]
      refine rt_return ?_
      rw [show iL (s.dropLast ++ [127, 1]) = sl (iL s) none (some (-1)) ++ [.int 127, .int 1] by rw [sl_last]; simp [iL]]
      exact ev_binop (ev_lslice (by walk_at "nm") evo_nil (evo_int (ev_unary ev_int op_neg)) (by simp; omega)) (ev_list (evs_cons ev_int (evs_cons ev_int evs_nil))) (op_ladd (by rw [sl_last]; simp; omega))
    have h1 : ¬ kind = 1 := by simpa using h
    refine rt_if (it_cmp (by walk_at "nm") ev_int op_eq) (fun h => ?_) (fun h => ?_)
    · have h' : kind = 2 := by simpa using h
      rw [show ruler l kind = s.dropLast by unfold ruler; rw [if_neg h1, if_pos h', hs]]
      refine rt_return ?_
      rw [show iL s.dropLast = sl (iL s) none (some (-1)) by rw [sl_last]; simp [iL]]
      exact ev_lslice (by walk_at "nm") evo_nil (evo_int (ev_unary ev_int op_neg)) (by simp; omega)
    have h2 : ¬ kind = 2 := by simpa using h
    rw [show ruler l kind = rulerTail s ++ [0, 4] by unfold ruler; rw [if_neg h1, if_neg h2, hs]]
    let X₁ : Cx := { X with A := A, env := fenv q (mb 15) code L 127 }
    have W₁ : Wd X₁ mg mb' := W
    have slice : ∀ (z : List Int), z.length ≤ 100000 → Ev X₁ (match (match stm (fbody (mb 15)) 3 with | .If _ b _ _ => b.getD 0 (.Pass default) | s => s) with | .Assign _ e _ => e | _ => .Constant .none 0 default) (rv (.str (T l)) kind (.val (.list (iL z)))) (.list (iL z.dropLast)) := fun z hz => by
      rw [show iL z.dropLast = sl (iL z) none (some (-1)) by rw [sl_last]; simp [iL]]
      exact ev_lslice (by walk_at "nm") evo_nil (evo_int (ev_unary ev_int op_neg)) (by simp; omega)
    have slice2 : ∀ (z : List Int), z.length ≤ 100000 → Ev X₁ (match (match stm (fbody (mb 15)) 4 with | .While _ b _ _ => b.getD 0 (.Pass default) | s => s) with | .Assign _ e _ => e | _ => .Constant .none 0 default) (rv (.str (T l)) kind (.val (.list (iL z)))) (.list (iL z.dropLast)) := fun z hz => by
      rw [show iL z.dropLast = sl (iL z) none (some (-1)) by rw [sl_last]; simp [iL]]
      exact ev_lslice (by walk_at "nm") evo_nil (evo_int (ev_unary ev_int op_neg)) (by simp; omega)
    have test1 : ∀ (z : List Int), z.length ≤ 100000 → It X₁ (match stm (fbody (mb 15)) 3 with | .If t _ _ _ => t | _ => .Constant .none 0 default) (rv (.str (T l)) kind (.val (.list (iL z)))) (decide (1 < z.length ∧ lastI z ≤ prevI z)) := fun z hz => by
      have e : (decide ((1 : Int) < ((iL z).length : Int)) && (decide (lastI z ≤ prevI z) && true)) = decide (1 < z.length ∧ lastI z ≤ prevI z) := by
        rw [List.length_map, show decide ((1 : Int) < (z.length : Int)) = decide (1 < z.length) from decide_eq_decide.mpr (by omega)]; simp
      rw [← e]
      refine it_boolop (its_and (it_cmp (ev_call_builtin (id := "len") (evv_builtin W₁ G.n_len G.b_len rfl) (evs_cons (by walk_at "nm") evs_nil) (op_len (by simp; omega))) ev_int op_gt) fun hlen => ?_)
      have hlen' : 1 < z.length := by simp at hlen; omega
      exact its_and (it_cmp (ev_item_neg (k := z.length - 1) (by walk_at "nm") (ev_unary ev_int op_neg) (by decide) (by rw [List.length_map]; omega) (iL_get (by omega)) (by simp; omega)) (ev_item_neg (k := z.length - 2) (by walk_at "nm") (ev_unary ev_int op_neg) (by decide) (by rw [List.length_map]; omega) (iL_get (by omega)) (by simp; omega)) op_le) fun _ => its_and_nil
    have test2 : ∀ (z : List Int), z.length ≤ 100000 → It X₁ (match stm (fbody (mb 15)) 4 with | .While t _ _ _ => t | _ => .Constant .none 0 default) (rv (.str (T l)) kind (.val (.list (iL z)))) (decide (1 < z.length ∧ lastI z = prevI z)) := fun z hz => by
      have e : (decide ((1 : Int) < ((iL z).length : Int)) && ((lastI z == prevI z) && true)) = decide (1 < z.length ∧ lastI z = prevI z) := by
        rw [List.length_map, show decide ((1 : Int) < (z.length : Int)) = decide (1 < z.length) from decide_eq_decide.mpr (by omega), show (lastI z == prevI z) = decide (lastI z = prevI z) from rfl]; simp
      rw [← e]
      refine it_boolop (its_and (it_cmp (ev_call_builtin (id := "len") (evv_builtin W₁ G.n_len G.b_len rfl) (evs_cons (by walk_at "nm") evs_nil) (op_len (by simp; omega))) ev_int op_gt) fun hlen => ?_)
      have hlen' : 1 < z.length := by simp at hlen; omega
      exact its_and (it_cmp (ev_item_neg (k := z.length - 1) (by walk_at "nm") (ev_unary ev_int op_neg) (by decide) (by rw [List.length_map]; omega) (iL_get (by omega)) (by simp; omega)) (ev_item_neg (k := z.length - 2) (by walk_at "nm") (ev_unary ev_int op_neg) (by decide) (by rw [List.length_map]; omega) (iL_get (by omega)) (by simp; omega)) op_eq) fun _ => its_and_nil
    have loop : ∀ (n : Nat) (z : List Int), z.length ≤ n → z.length ≤ 100000 → Whl X₁ (match stm (fbody (mb 15)) 4 with | .While t _ _ _ => t | _ => .Constant .none 0 default) (fbod (stm (fbody (mb 15)) 4)) n (rv (.str (T l)) kind (.val (.list (iL z)))) .next (rv (.str (T l)) kind (.val (.list (iL (dropEq n z))))) := by
      intro n
      induction n with
      | zero =>
        intro z hz hz'
        have := test2 z hz'
        rw [show decide (1 < z.length ∧ lastI z = prevI z) = false by simp; omega] at this
        exact .stop this
      | succ n ih =>
        intro z hz hz'
        have ht := test2 z hz'
        by_cases hc : 1 < z.length ∧ lastI z = prevI z
        · rw [decide_eq_true hc] at ht
          rw [show dropEq (n + 1) z = dropEq n z.dropLast by rw [dropEq, if_pos hc]]
          exact .step ht (exs_one (ex_assign (slice2 z hz') (by walk_at "put"))) (ih z.dropLast (by rw [List.length_dropLast]; omega) (by rw [List.length_dropLast]; omega))
        · rw [decide_eq_false hc] at ht
          rw [show dropEq (n + 1) z = z by rw [dropEq, if_neg hc]]
          exact .stop ht
    have hz : s.length ≤ 100000 := by omega
    obtain ⟨s1, hs1⟩ : ∃ s1, s1 = if 1 < s.length ∧ lastI s ≤ prevI s then s.dropLast else s := ⟨_, rfl⟩
    have hs1l : s1.length ≤ 100000 := by rw [hs1]; split <;> first | (rw [List.length_dropLast]; omega) | omega
    rw [show rulerTail s = dropEq s1.length s1 by unfold rulerTail; rw [hs1]]
    have hd := dropEq_len s1.length s1
    have m : Ex1 X₁ (stm (fbody (mb 15)) 3) (rv (.str (T l)) kind (.val (.list (iL s)))) .next (rv (.str (T l)) kind (.val (.list (iL s1)))) := by
      rw [hs1]
      by_cases hc : 1 < s.length ∧ lastI s ≤ prevI s
      · rw [if_pos hc]
        exact ex_if (test1 s hz) (fun _ => exs_one (ex_assign (slice s hz) (by walk_at "put"))) (fun h => absurd hc (of_decide_eq_false h))
      · rw [if_neg hc]
        exact ex_if (test1 s hz) (fun h => absurd (of_decide_eq_true h) hc) (fun _ => exs_nil)
    refine rt_cons m (rt_cons (ex_while (loop s1.length s1 (Nat.le_refl _) hs1l)) (rt_return ?_))
    rw [show iL (dropEq s1.length s1 ++ [0, 4]) = iL (dropEq s1.length s1) ++ [.int 0, .int 4] by simp [iL]]
    exact ev_binop (by walk_at "nm") (ev_list (evs_cons ev_int (evs_cons ev_int evs_nil))) (op_ladd (by rw [List.length_map]; show _ + 2 ≤ _; omega))
end
end PL
end
noncomputable section
open PySem PySem.W PyProof.Rows
set_option Elab.async false
set_option linter.unusedVariables false
set_option maxRecDepth 100000
set_option pp.maxSteps 600
namespace PL
/-- an iterator whose own places may come to be as it runs -/
structure YieldsG (X : Cx) (it : Value) (G : List Nat) (items : Nat → Option PV) (Ok : Nat → Prop) (St : (Addr → Prop) → List Addr → Nat → Shared → Prop) : Prop where
  frame : ∀ V V' wr i s s', St V wr i s → (∀ b ∈ wr, V b) → (∀ b ∈ wr, V' b) → Vol X.base V' s' → (∀ b ∈ wr, ∀ o, s.heap.get? b = some o → s'.heap.get? b = some o) → (∀ b o, ¬ V b → s.heap.get? b = some o → ¬ V' b ∧ s'.heap.get? b = some o) → GG s.gens s'.gens → St V' wr i s'
  live : ∀ V wr i s, St V wr i s → ∀ b ∈ wr, ∃ o, s.heap.get? b = some o
  item : ∀ V wr i p s (Q : Option Value → Shared → Prop) (E : Value → Shared → Prop), Ok i → items i = some p → St V wr i s → (∀ b ∈ wr, V b) → Vol X.base V s →
    (∀ v s' V' wr', X.R V' s' p v → St V' wr' (i + 1) s' → (∀ b ∈ wr', b ∈ wr ∨ s.heap.get? b = none) → (∀ b, V b → V' b) → (∀ b, V' b → V b ∨ s.heap.get? b = none) → (∀ b ∈ wr', V' b) → Vol X.base V' s' →
      (∀ b o, b ∉ wr → s.heap.get? b = some o → s'.heap.get? b = some o) → s'.os = s.os → GX G s.gens s'.gens → Q (some v) s') → wpAny X.M X.A (pyNext it) Q E s
  done : ∀ V wr i s (Q : Option Value → Shared → Prop) (E : Value → Shared → Prop), Ok i → items i = none → St V wr i s → (∀ b ∈ wr, V b) → Vol X.base V s →
    (∀ s', (∀ b o, b ∉ wr → s.heap.get? b = some o → s'.heap.get? b = some o) → s'.os = s.os → GX G s.gens s'.gens → Q none s') → wpAny X.M X.A (pyNext it) Q E s
noncomputable def IterToG (X : Cx) (e : Expr) (ρ : Vars) (items : Nat → Option PV) (Ok : Nat → Prop) : Prop :=
  ∀ V O s (Q : Value → Shared → Prop) (E : Value → Shared → Prop), X.F V O ρ s →
    (∀ it s' wr G St, Grow s s' → YieldsG X it G items Ok St → (∀ b ∈ wr, s.heap.get? b = none) → (∀ g ∈ G, s.gens[g]? = none) → St (VW V wr) wr 0 s' → Q it s') → wpAny X.M X.A (eval e X.env) (fun v s₁ => wpAny X.M X.A (pyIter v) Q E s₁) E s
inductive LoopG (X : Cx) (target : Expr) (body : List Stmt) (items : Nat → Option PV) (Ok : Nat → Prop) : Nat → Nat → Vars → PF → Vars → Prop
  | done {n i ρ} : Ok i → items i = none → LoopG X target body items Ok n i ρ .next ρ
  | step {n i p ρ ρ₁ ρ₂ ρ₃ fl} : Ok i → items i = some p → Asg X target p ρ ρ₁ → Exs X body ρ₁ .next ρ₂ → LoopG X target body items Ok n (i + 1) ρ₂ fl ρ₃ → LoopG X target body items Ok (n + 1) i ρ fl ρ₃
  | brk {n i p ρ ρ₁ ρ₂} : Ok i → items i = some p → Asg X target p ρ ρ₁ → Exs X body ρ₁ .brk ρ₂ → LoopG X target body items Ok n i ρ .next ρ₂
  | ret {n i p ρ ρ₁ ρ₂ q} : Ok i → items i = some p → Asg X target p ρ ρ₁ → Exs X body ρ₁ (.ret q) ρ₂ → LoopG X target body items Ok n i ρ (.ret q) ρ₂

section
variable {X : Cx} {ρ ρ' ρ'' : Vars} {mg mb' mN : Str → Option Value}
structure InLoopG (X : Cx) (wr : List Addr) (G : List Nat) (St : (Addr → Prop) → List Addr → Nat → Shared → Prop) (V₀ : Addr → Prop) (O₀ : Str → Addr) (ρ₀ : Vars) (s₀ : Shared) (i : Nat) (V : Addr → Prop) (O : Str → Addr) (ρ : Vars) (s : Shared) : Prop where
  frm : X.F V O ρ s
  st : St V wr i s
  wrV : ∀ b ∈ wr, V b
  wrO : ∀ b ∈ wr, b ∉ PL.owned X.env O ρ
  wr0 : ∀ b ∈ wr, s₀.heap.get? b = none ∨ b ∈ PL.owned X.env O₀ ρ₀
  vext : VExt (PL.owned X.env O₀ ρ₀) V₀ V s₀
  fresh : Fresh (PL.owned X.env O₀ ρ₀) (PL.owned X.env O ρ) s₀
  keep : ∀ b o, b ∉ PL.owned X.env O₀ ρ₀ → s₀.heap.get? b = some o → s.heap.get? b = some o
  os : s.os = s₀.os
  gens : GX G s₀.gens s.gens
  frees : ∀ x c q, (x, VK.free c, q) ∈ ρ → ∃ q', (x, VK.free c, q') ∈ ρ₀
theorem free_live {V O s} (F : X.F V O ρ s) {x : Str} {c : Addr} {q : VV} (h : (x, VK.free c, q) ∈ ρ) : ∃ o, s.heap.get? c = some o := by
  obtain ⟨m, _, hv⟩ := F.vars
  obtain ⟨_, _, hc, _⟩ := hv _ h
  exact F.vol.live c hc
theorem InLoopG.wrF {wr G St V₀ O₀ ρ₀ s₀ i V O ρ s} (F₀ : X.F V₀ O₀ ρ₀ s₀) (L : InLoopG X wr G St V₀ O₀ ρ₀ s₀ i V O ρ s) : ∀ x c q, (x, VK.free c, q) ∈ ρ → c ∉ wr := fun x c q h hm => by
  obtain ⟨q', h'⟩ := L.frees x c q h
  obtain ⟨o, e⟩ := free_live F₀ h'
  rcases L.wr0 c hm with h1 | h1
  · rw [h1] at e; cases e
  · exact F₀.free x c q' h' h1
theorem InLoopG.ran {wr G St V₀ O₀ ρ₀ s₀ i V O ρ s V' O' ρ' s'} {it : Value} {items Ok} (Y : YieldsG X it G items Ok St) (F₀ : X.F V₀ O₀ ρ₀ s₀) (L : InLoopG X wr G St V₀ O₀ ρ₀ s₀ i V O ρ s) (R : Ran X V O ρ s V' O' ρ' s') : InLoopG X wr G St V₀ O₀ ρ₀ s₀ i V' O' ρ' s' := by
  have live : ∀ b ∈ wr, ∃ o, s.heap.get? b = some o := Y.live V wr i s L.st
  have wrV' : ∀ b ∈ wr, V' b := fun b hb => (R.vext.up b (L.wrV b hb)).resolve_right (L.wrO b hb)
  refine ⟨R.frm, Y.frame V V' wr i s s' L.st L.wrV wrV' R.frm.vol (fun b hb o e => R.step.keep b o (L.wrO b hb) e) (fun b o nb e => ⟨fun h => (R.vext.fresh b h).elim nb (fun h' => by rw [h'] at e; cases e), R.step.keep b o (fun hm => nb (L.frm.own b hm)) e⟩) R.step.gens,
    wrV', fun b hb hm => ?_, L.wr0, ⟨fun b h => ?_, fun b h => ?_⟩, fun b hb => ?_, fun b o hb e => ?_, R.step.os.trans L.os, L.gens.trans (R.step.gens.gx G), fun x c q h => let ⟨q', h'⟩ := R.frees x c q h; L.frees x c q' h'⟩
  · rcases R.fresh b hm with h | h
    · exact L.wrO b hb h
    · obtain ⟨o, e⟩ := live b hb; rw [e] at h; cases h
  · rcases L.vext.up b h with h1 | h1
    · rcases R.vext.up b h1 with h2 | h2
      · exact .inl h2
      · rcases L.fresh b h2 with h3 | h3
        · exact .inr h3
        · obtain ⟨o, e⟩ := F₀.vol.live b h; rw [e] at h3; cases h3
    · exact .inr h1
  · rcases R.vext.fresh b h with h' | h'
    · exact L.vext.fresh b h'
    · by_cases hm : b ∈ PL.owned X.env O₀ ρ₀
      · exact .inl (F₀.own b hm)
      · right
        cases e : s₀.heap.get? b with
        | none => rfl
        | some o => rw [L.keep b o hm e] at h'; cases h'
  · rcases R.fresh b hb with h | h
    · exact L.fresh b h
    · by_cases hm : b ∈ PL.owned X.env O₀ ρ₀
      · exact .inl hm
      · right
        cases e : s₀.heap.get? b with
        | none => rfl
        | some o => rw [L.keep b o hm e] at h; cases h
  · refine R.step.keep b o (fun hm => ?_) (L.keep b o hb e)
    rcases L.fresh b hm with h | h
    · exact hb h
    · rw [h] at e; cases e
theorem InLoopG.done {wr G St V₀ O₀ ρ₀ s₀ i V O ρ s} (L : InLoopG X wr G St V₀ O₀ ρ₀ s₀ i V O ρ s) (hG : ∀ g ∈ G, s₀.gens[g]? = none) : Ran X V₀ O₀ ρ₀ s₀ V O ρ s :=
  ⟨L.frm, L.vext, L.fresh, ⟨L.keep, L.os, ⟨fun j x e => L.gens.1 j x (fun h => by rw [hG j h] at e; cases e) e, L.gens.2⟩⟩, L.frees⟩
theorem Frm.volUp {V V' O s s'} (F : X.F V O ρ s) (hV : ∀ b, V b → V' b) (hV' : ∀ b, V' b → V b ∨ s.heap.get? b = none) (vol : Vol X.base V' s') {wr : List Addr} (hw : ∀ b ∈ wr, V b) (ho : ∀ b ∈ wr, b ∉ PL.owned X.env O ρ) (hf : ∀ x c q, (x, VK.free c, q) ∈ ρ → c ∉ wr) (hk : ∀ b o, b ∉ wr → s.heap.get? b = some o → s'.heap.get? b = some o) : X.F V' O ρ s' := by
  have ow : ∀ b ∈ PL.owned X.env O ρ, b ∉ wr := fun b h hm => ho b hm h
  refine ⟨vol, F.kind, ?_, fun b h => hV b (F.own b h), F.nodup, F.names, F.free⟩
  obtain ⟨m, hn', hv⟩ := F.vars
  exact ⟨m, Ns.by hn' fun o e => hk _ o (ow _ (List.mem_cons_self ..)) e, fun e he => VarAt.mono (fun b o nb e => ⟨fun h => (hV' b h).elim nb (fun h => by rw [h] at e; cases e), hk b o (fun hm => nb (hw b hm)) e⟩) hV
      (fun b hb o e' => hk b o (ow b (List.mem_cons_of_mem _ (List.mem_filterMap.mpr ⟨e, he, hb⟩))) e') (fun x c q e0 o e' => hk c o (hf x c q (e0 ▸ he)) e') (hv e he)⟩

theorem ex_forG {target iter : Expr} {body : List Stmt} {pos : Pos} {items : Nat → Option PV} {Ok : Nat → Prop} {n : Nat} {fl : PF} (hi : IterToG X iter ρ items Ok) (h : LoopG X target body items Ok n 0 ρ fl ρ') (hs : ∀ x, foldedSetIterable iter X.env x = pure x := by intro _; rfl)
    (ht : ∀ it v, letOwnedTupleGo target it v = pure () := by intro _ _; rfl) :
    Ex1 X (.For target iter body [] pos) ρ fl ρ' := fun V₀ O₀ s₀ Q E F₀ hQ => by
  refine wpAny_For (hi V₀ O₀ s₀ _ E F₀ fun it s₁ wr G St g Y hwr hG hst => ?_) hs
  refine codeAny_forLoop (prog := X.prog) (w := X.w)
    (fun k s' => ∃ i ρ₁ V₁ O₁ wr, LoopG X target body items Ok k i ρ₁ fl ρ' ∧ InLoopG X wr G St V₀ O₀ ρ s₀ i V₁ O₁ ρ₁ s') ?_ n ⟨0, ρ, VW V₀ wr, O₀, wr, h, ?_⟩ (ht it)
  · clear hst hwr
    rintro k s' ⟨i, ρ₁, V₁, O₁, wr, hl, L⟩
    have stepI : ∀ {p : PV} {Q' : Option Value → Shared → Prop} {E' : Value → Shared → Prop}, Ok i → items i = some p → (∀ v s₂ V₂ wr₂, X.R V₂ s₂ p v → InLoopG X wr₂ G St V₀ O₀ ρ s₀ (i + 1) V₂ O₁ ρ₁ s₂ → Q' (some v) s₂) → wpAny X.M X.A (pyNext it) Q' E' s' := fun {p Q' E'} hok hp hq => by
      refine Y.item V₁ wr i p s' Q' E' hok hp L.st L.wrV L.frm.vol fun v s₂ V₂ wr₂ r st₂ hsub hV hV' hwV vol₂ hk hos hg => hq v s₂ V₂ wr₂ r ?_
      have dead0 : ∀ b, s'.heap.get? b = none → s₀.heap.get? b = none ∨ b ∈ PL.owned X.env O₀ ρ := fun b h => by
        by_cases hm : b ∈ PL.owned X.env O₀ ρ
        · exact .inr hm
        · left
          cases e : s₀.heap.get? b with
          | none => rfl
          | some o => rw [L.keep b o hm e] at h; cases h
      have liveOwn : ∀ b ∈ PL.owned X.env O₁ ρ₁, ∃ o, s'.heap.get? b = some o := fun b hb => L.frm.vol.live b (L.frm.own b hb)
      exact { frm := L.frm.volUp hV hV' vol₂ L.wrV L.wrO (L.wrF F₀) hk, st := st₂, wrV := hwV
              wrO := fun b hb hm => (hsub b hb).elim (fun h => L.wrO b h hm) fun h => by obtain ⟨o, e⟩ := liveOwn b hm; rw [e] at h; cases h
              wr0 := fun b hb => (hsub b hb).elim (L.wr0 b) (dead0 b)
              vext := ⟨fun b h => (L.vext.up b h).imp (hV b) id, fun b h => (hV' b h).elim (L.vext.fresh b) fun h => (dead0 b h).symm.imp (F₀.own b) id⟩
              fresh := L.fresh
              keep := fun b o hb e => hk b o (fun hm => (L.wr0 b hm).elim (fun h => by rw [h] at e; cases e) hb) (L.keep b o hb e)
              os := hos.trans L.os, gens := L.gens.trans hg, frees := L.frees }
    cases hl with
    | done hok hn =>
      refine Y.done V₁ wr i s' _ _ hok hn L.st L.wrV L.frm.vol fun s₂ hk hos hg => ?_
      have L₂ : Ran X V₀ O₀ ρ s₀ (fun b => V₁ b ∧ b ∉ wr) O₁ ρ' s₂ :=
        ⟨L.frm.leave L.wrV L.wrO (L.wrF F₀) hk, ⟨fun b h => by
            rcases L.vext.up b h with h' | h'
            · by_cases hm : b ∈ wr
              · rcases L.wr0 b hm with h1 | h1
                · obtain ⟨o, e⟩ := F₀.vol.live b h; rw [h1] at e; cases e
                · exact .inr h1
              · exact .inl ⟨h', hm⟩
            · exact .inr h', fun b h => L.vext.fresh b h.1⟩, L.fresh, ⟨fun b o hb e => hk b o (fun hm => (L.wr0 b hm).elim (fun h => by rw [h] at e; cases e) hb) (L.keep b o hb e), hos.trans L.os,
          ⟨fun j x e => (L.gens.trans hg).1 j x (fun h => by rw [hG j h] at e; cases e) e, (L.gens.trans hg).2⟩⟩, L.frees⟩
      exact wpAny_execs_nil (hQ _ O₁ s₂ .next L₂ rfl)
    | step hok hp ha hb hr =>
      refine stepI hok hp fun v s₂ V₂ wr₂ r L₂ => ?_
      refine ha V₂ O₁ s₂ v _ _ L₂.frm r fun V₃ O₃ s₃ R₃ _ => ?_
      have L₃ := L₂.ran Y F₀ R₃
      refine hb V₃ O₃ s₃ _ _ L₃.frm fun V₄ O₄ s₄ f R₄ hf => ?_
      cases hf
      exact ⟨_, Nat.lt_succ_self _, _, _, _, _, _, hr, L₃.ran Y F₀ R₄⟩
    | brk hok hp ha hb =>
      refine stepI hok hp fun v s₂ V₂ wr₂ r L₂ => ?_
      refine ha V₂ O₁ s₂ v _ _ L₂.frm r fun V₃ O₃ s₃ R₃ _ => ?_
      have L₃ := L₂.ran Y F₀ R₃
      refine hb V₃ O₃ s₃ _ _ L₃.frm fun V₄ O₄ s₄ f R₄ hf => ?_
      cases hf
      exact hQ _ _ _ .next ((L₃.ran Y F₀ R₄).done hG) rfl
    | ret hok hp ha hb =>
      refine stepI hok hp fun v s₂ V₂ wr₂ r L₂ => ?_
      refine ha V₂ O₁ s₂ v _ _ L₂.frm r fun V₃ O₃ s₃ R₃ _ => ?_
      have L₃ := L₂.ran Y F₀ R₃
      refine hb V₃ O₃ s₃ _ _ L₃.frm fun V₄ O₄ s₄ f R₄ hf => ?_
      obtain ⟨v', rfl, r'⟩ := hf
      exact hQ _ _ _ _ ((L₃.ran Y F₀ R₄).done hG) ⟨v', rfl, r'⟩
  · have hl := Y.live _ _ 0 s₁ hst
    have hb : ∀ b ∈ wr, X.base.get? b = none := fun b hm => by
      cases e : X.base.get? b with
      | none => rfl
      | some o => have := F₀.vol.keep b o e; rw [hwr b hm] at this; cases this
    have live₀ : ∀ b, V₀ b → b ∉ wr := fun b hb hm => by obtain ⟨o, e⟩ := F₀.vol.live b hb; rw [hwr b hm] at e; cases e
    exact ⟨(F₀.grow g).widen hl hb F₀ g hwr, hst, fun b h => .inr h, fun b h hm => live₀ b (F₀.own b hm) h, fun b h => .inl (hwr b h), ⟨fun b h => .inl (.inl h), fun b h => h.imp id (hwr b)⟩, .refl _ _, fun b o _ e => g.keep b o e, g.os, g.gens.gx G, fun _ _ q h => ⟨q, h⟩⟩
end
end PL
end
noncomputable section
open PySem PySem.W PyProof.Rows
set_option Elab.async false
set_option linter.unusedVariables false
set_option maxRecDepth 100000
set_option pp.maxSteps 600
namespace PL
section
variable {M : Model} {A : Around} {R : GenEnd} {Y : Protocol} {n : Nat} {s₀ : Shared} {c : Code} {fs : List Frame} {s : Shared} {env : Env}
  {K : Flow → Sem Fin} {H : Value → Sem Fin} {gd : Bool → Bool} {lv : List Value → List Value}
theorem seg_If {test : Expr} {body orelse : List Stmt} {pos : Pos}
    (h : wpAny M (A.over c fs) (isTrue test env (eval test env)) (fun b s' => if b = true then Seg M A R Y n s₀ c ((execs body env).wrap K H gd lv) fs s' else Seg M A R Y n s₀ c ((execs orelse env).wrap K H gd lv) fs s') (fun x s' => Seg M A R Y n s₀ c (H x) fs s') s) :
    Seg M A R Y n s₀ c ((exec (.If test body orelse pos) env).wrap K H gd lv) fs s := by
  rw [exec_If]
  show Seg M A R Y n s₀ c (.at pos fun _ => (isTrue test env (eval test env) >>= fun b => if b then execs body env else execs orelse env).wrap K H gd lv) fs s
  refine seg_at ?_
  rw [Sem.bind_eq_wrap', Sem.wrap_wrap]
  refine seg_wrap (wpAny_mono h (fun b s' hb => ?_) fun _ _ x => x)
  cases b with
  | true => exact hb
  | false => exact hb
noncomputable abbrev forK (K : Flow → Sem Fin) (H : Value → Sem Fin) (gd : Bool → Bool) (lv : List Value → List Value) (env : Env) (c : Code) (p : Pos) : Frame :=
  .ret (fun r => ((match r with | .ok f => (.pure f : Sem Flow) | .error e => .raise e).onRaise fun (x : Value) => do
        if (← field x 1) == Value.none then unsupported "frame.own-activation:exception-without-traceback"
        setFlight x env.frame).wrap K H gd lv) none (gd false) (lv []) c p []
theorem seg_For {target iter : Expr} {body orelse : List Stmt} {pos : Pos} (hs : ∀ x, foldedSetIterable iter env x = pure x)
    (h : wpAny M (A.over c fs) (eval iter env) (fun v s₁ => wpAny M (A.over c fs) (pyIter v) (fun it s₂ => ∀ p, Seg M A R Y n s₀ (.forLoop target it body orelse env) (M.den (.forLoop target it body orelse env))
      (forK K H gd lv env c p :: fs) s₂) (fun x s' => Seg M A R Y n s₀ c (H x) fs s') s₁) (fun x s' => Seg M A R Y n s₀ c (H x) fs s') s) :
    Seg M A R Y n s₀ c ((exec (.For target iter body orelse pos) env).wrap K H gd lv) fs s := by
  rw [exec_For]
  show Seg M A R Y n s₀ c (.at pos fun _ => (eval iter env >>= fun v => foldedSetIterable iter env v >>= fun x => (standAt iter.pos >>= fun _ => (holding [x] (pyIter x) >>= fun it => runOwn (.forLoop target it body orelse env) env))).wrap K H gd lv) fs s
  refine seg_at ?_
  simp only [hs]
  rw [Sem.bind_eq_wrap', Sem.wrap_wrap]
  refine seg_wrap (wpAny_mono h (fun v s₁ h₁ => ?_) fun _ _ x => x)
  show Seg M A R Y n s₀ c (.at iter.pos fun _ => (holding [v] (pyIter v) >>= fun it => runOwn (.forLoop target it body orelse env) env).wrap K H gd lv) fs s₁
  refine seg_at ?_
  rw [Sem.bind_eq_wrap', Sem.wrap_wrap]
  refine seg_wrap (wpAny_holding (wpAny_mono h₁ (fun it s₂ h₂ => ?_) fun _ _ x => x))
  exact seg_call h₂
/-- a statement that does not yield -/
theorem seg_st {st : Stmt} (h : wpAny M (A.over c fs) (exec st env) (fun f s' => Seg M A R Y n s₀ c (K f) fs s') (fun x s' => Seg M A R Y n s₀ c (H x) fs s') s) : Seg M A R Y n s₀ c ((exec st env).wrap K H gd lv) fs s := seg_wrap h
end
section
variable {prog : Program} {w : World} {A : Around} {R : GenEnd} {Y : Protocol} {n : Nat} {s₀ : Shared} {fs : List Frame} {s : Shared} {env : Env}
noncomputable abbrev loopH (env : Env) : Value → Sem Fin := fun e => (do noteFrame e env; theTreesLotGoes e : Sem Unit).wrap (fun _ => .raise e) .raise id id
theorem seg_forLoop {target : Expr} {it : Value} {body : List Stmt} (ht : ∀ v, letOwnedTupleGo target it v = pure ())
    (h : ∀ (E : Value → Shared → Prop), wpAny (model prog w) (A.over (.forLoop target it body [] env) fs) (pyNext it) (fun r s₁ => match r with
        | none => Seg (model prog w) A R Y n s₀ (.block [] env) (leafOf (.ok .next)) fs s₁
        | some v => wpAny (model prog w) (A.over (.forLoop target it body [] env) fs) (assign target env v) (fun _ s₂ =>
            Seg (model prog w) A R Y n s₀ (.forLoop target it body [] env) ((execs body env).wrap (fun f => match f with
              | .next | .cont => .pure (.again (.forLoop target it body [] env))
              | .brk => .pure (.done .next)
              | .ret v => .pure (.done (.ret v))) (loopH env) id id) fs s₂) E s₁) E s) :
    Seg (model prog w) A R Y n s₀ (.forLoop target it body [] env) ((model prog w).den (.forLoop target it body [] env)) fs s := by
  show Seg _ A R Y n s₀ _ ((forTurn target it body [] env).onRaise (fun x => do noteFrame x env; theTreesLotGoes x)) fs s
  unfold forTurn
  rw [Sem.onRaise_eq_wrap]
  show Seg _ A R Y n s₀ _ (.at target.pos fun _ => ((pyNext it).onRaise (fun _ => standAt { target.pos with line := 0 }) >>= fun r => match r with
    | none => again (.block [] env)
    | some v => letOwnedTupleGo target it v >>= fun _ => assign target env v >>= fun _ => execs body env >>= fun f => match f with
      | .next | .cont => again (.forLoop target it body [] env)
      | .brk => pure (.done .next)
      | .ret v => pure (.done (.ret v))).wrap .pure _ id id) fs s
  refine seg_at ?_
  rw [Sem.bind_eq_wrap', Sem.wrap_wrap]
  refine seg_wrap (wpAny_onRaise (wpAny_mono (h _) (fun r s₁ h₁ => ?_) fun _ _ x => wpAny_standAt x))
  cases r with
  | none => exact seg_again rfl h₁
  | some v =>
    show Seg _ A R Y n s₀ _ ((letOwnedTupleGo target it v >>= fun _ => assign target env v >>= fun _ => execs body env >>= fun f => _).wrap .pure _ id id) fs s₁
    rw [ht v]
    show Seg _ A R Y n s₀ _ ((assign target env v >>= fun _ => execs body env >>= fun f => _).wrap .pure _ id id) fs s₁
    rw [Sem.bind_eq_wrap', Sem.wrap_wrap]
    refine seg_wrap (wpAny_mono h₁ (fun _ s₂ h₂ => ?_) fun _ _ x => x)
    show Seg _ A R Y n s₀ _ ((execs body env >>= fun f => _).wrap .pure _ id id) fs s₂
    rw [Sem.bind_eq_wrap', Sem.wrap_wrap]
    rw [Sem.wrap_congr (execs body env) _ _ (K' := fun f => match f with
              | .next | .cont => .pure (.again (.forLoop target it body [] env))
              | .brk => .pure (.done .next)
              | .ret v => .pure (.done (.ret v))) (H' := loopH env) (fun f => by cases f <;> rfl)
        (fun e => by first | exact Sem.bind_eq_wrap _ _ | (show (do noteFrame e env; theTreesLotGoes e : Sem Unit).bind (fun _ => .raise e) = _; rw [Sem.bind_eq_wrap]))]
    exact h₂
end
end PL
end
noncomputable section
open PySem PySem.W PyProof.Rows
set_option Elab.async false
set_option linter.unusedVariables false
set_option maxRecDepth 100000
set_option pp.maxSteps 600
namespace PL
section
variable {prog : Program} {w : World} {A : Around} {E : Value → Shared → Prop} {s : Shared}
/-- a generator asked for its next item; the state that it is left in is bare -/
theorem pyNext_genB {a : Addr} {g n : Nat} {gs : GenState} {P : Nat → Shared → Shared → Prop} {Y : Protocol} {Q : Option Value → Shared → Prop} (hh : A.handled = none)
    (hl : s.heap.NoLimit) (hroom : A.depth < recursionLimit) (hg : s.heap.IsGen a g) (hgs : s.gens[g]? = some gs)
    (hgo : gs.Goes (model prog w) A.in1 (fun n s₀ r s₁ => r = .ok (.ret .none) ∧ P n s₀ s₁) Y n (.send .none) (s.setGen g .running))
    (hY : ∀ v s₁ gs', gs'.bare = true → Y (n - 1) (s.setGen g .running) v s₁ (fun r' s'' => match n with
        | 0 => False
        | m + 1 => gs'.Goes (model prog w) A.in1 (fun n s₀ r s₁ => r = .ok (.ret .none) ∧ P n s₀ s₁) Y m r' s'') → Q (some v) (s₁.setGen g gs'))
    (hP : ∀ s₁, P n (s.setGen g .running) s₁ → ∀ h', (∀ b o, s₁.heap.get? b = some o → h'.get? b = some o) → Q none { s₁.setGen g .finished with heap := h' }) :
    wpAny (model prog w) A (pyNext (.ref a)) Q E s := by
  unfold pyNext
  refine wpAny_bind (wpAny_attempt (wpAny_callSpecial?_slot (name := Str.ofString "__next__") hg.typeIs slot_gen_next
    (wpAny_call_entry slot_gen_next hg.typeIs entry_gen_next ?_ (args_gen_next _))))
  show wpAny _ A.in1 (Builtin.Generator.genWake (.ref a) (.send .none)) _ _ s
  unfold Builtin.Generator.genWake
  refine wpAny_bind (wpAny_holding (wpAny_genNumber hg (wpAny_bind (wpAny_genState hgs ?_))))
  cases gs with
  | running => exact hgo.elim
  | finished => exact hgo.elim
  | _ =>
    refine wpAny_bind (wpAny_roomToWake hl hroom ?_)
    show wpAny _ A.in1 (.resume g (.send .none) [] _) _ _ s
    refine wpAny_resumeQ hgs hgo (fun x s₁ hx => ?_) (fun v s₁ gs' hb hv => ?_)
    · obtain ⟨rfl, hp⟩ := hx
      show wpAny _ A.in1 (newExc (.type "StopIteration") [] >>= _) _ _ _
      refine wpAny_bind ?_
      simp only [newExc, newTuple]
      refine wpAny_bind (wpAny_newObj_type ?_ (by size_fits))
      refine wpAny_bind (m := firstArgMember _ _) (wpAny_of_eq (a := Value.none) (by first | rfl | (simp only [firstArgMember]; rfl)) ?_)
      refine wpAny_newObj_type ?_ (by size_fits)
      simp only [raiseNew]
      refine wpAny_bind (wpAny_bind (wpAny_handled ?_))
      rw [show A.in1.handled = none from hh]
      refine wpAny_throw ?_
      refine wpAny_bind (wpAny_isInstance (T := "StopIteration") (b := true) ⟨_, Heap.get?_push_size _ rfl, rfl⟩ isSubtype_stop ?_)
      exact wpAny_pure (hP s₁ hp _ fun b o hb => Heap.get?_push_of_some _ (Heap.get?_push_of_some _ hb))
    · exact wpAny_pure ⟨v, rfl, wpAny_pure (hY v s₁ gs' hb hv)⟩
end

/-! the grouping's generator, as a machine -/
inductive GS where
  | scan (j : Nat) (last : Option Int)
  | rep (l : Int) (j : Nat)
  | halt
  deriving DecidableEq
noncomputable def gOut (g : List Int) : GS → Option Int × GS
  | .scan j last => match g[j]? with
    | none => (none, .halt)
    | some x => if x = 127 then (none, .halt) else if x = 0 then (match last with | none => (none, .halt) | some l => (some l, .rep l (j + 1))) else (some x, .scan (j + 1) (some x))
  | .rep l j => (some l, .rep l j)
  | .halt => (none, .halt)
noncomputable def gErr (g : List Int) : GS → Bool
  | .scan j none => g[j]? == some 0
  | _ => false
noncomputable def gAt (g : List Int) : Nat → GS
  | 0 => .scan 0 none
  | i + 1 => (gOut g (gAt g i)).2
noncomputable def gItem (g : List Int) (i : Nat) : Option Int := (gOut g (gAt g i)).1

noncomputable abbrev GVars (l i : VV) : Vars := [("last_interval", .loc, l), ("interval", .loc, i)]
noncomputable def FlatV : VV → Prop
  | .no => True
  | .val p => Flat p
  | .mu _ _ => False
noncomputable def flatAt (C : Addr) (m : Str → Option Value) (x : Str) : VV → Prop
  | .no => True
  | .val p => ∃ v, m x = some v ∧ Rep C (fun _ => False) { objs := #[] } p v
  | .mu _ _ => False
/-- how the generator's own places stand -/
structure GI (X : Cx) (env : Env) (L I ax : Addr) (vs : List Value) (l i : VV) (j : Nat) (s : Shared) : Prop where
  kb : ∀ b o, X.base.get? b = some o → s.heap.get? b = some o
  ns : ∃ m, s.heap.Ns L m ∧ flatAt X.C m "last_interval" l ∧ flatAt X.C m "interval" i
  it : s.heap.IsListIter I ax j
  li : s.heap.IsList ax vs.toArray
section
variable {X : Cx} {env : Env} {L I ax : Addr} {vs : List Value} {l i : VV} {j : Nat} {s : Shared}
theorem GI.frm (h : GI X env L I ax vs l i j s) (hL : env.locals = L) (hk : env.scope.kind = .function) (k1 : env.kindOf "last_interval" = some .local) (k2 : env.kindOf "interval" = some .local) (hb : X.base.get? L = none) (fl : FlatV l) (fi : FlatV i) :
    Frm X.C X.base env (fun b => b = L) (fun _ => 0) (GVars l i) s := by
  obtain ⟨m, hn, h1, h2⟩ := h.ns
  have key : ∀ (x : Str) (v : VV), env.kindOf x = some .local → FlatV v → flatAt X.C m x v → VarAt X.C env (fun _ => 0) m (fun b => b = L) s.heap (x, .loc, v) := fun x v hx hf ha => by
    cases v with
    | no => exact hx
    | val p => obtain ⟨u, e, r⟩ := ha; exact ⟨hx, u, e, r.flat hf⟩
    | mu _ _ => exact hf.elim
  have ow : PL.owned env (fun _ => 0) (GVars l i) = [L] := by
    unfold PL.owned
    cases l <;> cases i <;> first | exact fl.elim | exact fi.elim | (simp [List.filterMap_cons, ownOf, hL])
  refine ⟨⟨h.kb, fun b hb' => by obtain ⟨o, _, _, e, _⟩ := hn; exact ⟨o, hb' ▸ e⟩, fun b hb' => hb' ▸ hb⟩, hk, ⟨m, hL ▸ hn, fun e he => ?_⟩, fun b hb' => by rw [ow] at hb'; exact List.mem_singleton.mp hb', by rw [ow]; simp, (by show (["last_interval", "interval"] : List Str).Nodup; decide), fun x c q hm => by simp at hm⟩
  rcases List.mem_cons.mp he with rfl | he
  · exact key _ _ k1 fl h1
  · rw [List.mem_singleton.mp he]; exact key _ _ k2 fi h2
theorem GI.of {V O} (F : Frm X.C X.base env V O (GVars l i) s) (hL : env.locals = L) (fl : FlatV l) (fi : FlatV i) (hit : s.heap.IsListIter I ax j) (hli : s.heap.IsList ax vs.toArray) : GI X env L I ax vs l i j s := by
  obtain ⟨m, hn, hv⟩ := F.vars
  have key : ∀ (x : Str) (v : VV), FlatV v → VarAt X.C env O m V s.heap (x, .loc, v) → flatAt X.C m x v := fun x v hf ha => by
    cases v with
    | no => trivial
    | val p => obtain ⟨_, u, e, r⟩ := ha; exact ⟨u, e, r.flat hf⟩
    | mu _ _ => exact hf.elim
  exact ⟨F.vol.keep, ⟨m, hL ▸ hn, key _ _ fl (hv _ (List.mem_cons_self ..)), key _ _ fi (hv _ (List.mem_cons_of_mem _ (List.mem_cons_self ..)))⟩, hit, hli⟩
theorem GI.keep {s' : Shared} (h : GI X env L I ax vs l i j s) (hk : ∀ b o, s.heap.get? b = some o → b ∉ ([] : List Addr) → s'.heap.get? b = some o) : GI X env L I ax vs l i j s' :=
  ⟨fun b o e => hk b o (h.kb b o e) (by simp), let ⟨m, hn, r⟩ := h.ns; ⟨m, hn.keeps fun b o e => hk b o e (by simp), r⟩, h.it.at fun o e => hk _ o e (by simp), h.li.at fun o e => hk _ o e (by simp)⟩
end
/-- what a stretch of the generator's run may do -/
structure Rel (L I : Addr) (s s' : Shared) : Prop where
  keep : ∀ b o, b ≠ L → b ≠ I → s.heap.get? b = some o → s'.heap.get? b = some o
  os : s'.os = s.os
  gens : GG s.gens s'.gens
theorem Rel.refl (L I : Addr) (s : Shared) : Rel L I s s := ⟨fun _ _ _ _ e => e, rfl, .refl _⟩
theorem Rel.trans {L I : Addr} {a b c : Shared} (x : Rel L I a b) (y : Rel L I b c) : Rel L I a c := ⟨fun p o h1 h2 e => y.keep p o h1 h2 (x.keep p o h1 h2 e), y.os.trans x.os, x.gens.trans y.gens⟩
theorem Grow.rel {L I : Addr} {s s' : Shared} (g : Grow s s') : Rel L I s s' := ⟨fun b o _ _ e => g.keep b o e, g.os, g.gens⟩
end PL
end
noncomputable section
open PySem PySem.W PyProof.Rows PySem.Builtin.Str
set_option Elab.async false
set_option linter.unusedVariables false
set_option maxRecDepth 100000
set_option pp.maxSteps 600
namespace PL
local macro_rules | `(tactic| walk_at "at") => `(tactic| (repeat (first | exact At.here | exact AtMut.here | apply At.there | apply AtMut.there)))
local macro_rules | `(tactic| walk_at "put") => `(tactic| (repeat (first | exact Put.loc | exact Put.locNo | exact Put.cell | exact PutNew.no | exact PutNew.val | exact PutNew.mu | exact PutMut.here | exact Thaw.here | apply Put.there | apply PutNew.there | apply PutMut.there | apply Thaw.there)))
local macro_rules | `(tactic| walk_at "nm") => `(tactic| exact ev_name (by walk_at "at"))
local macro_rules | `(tactic| walk_at "ini") => `(tactic| (repeat (first | exact Ini.nil | apply Ini.argL rfl | apply Ini.loc rfl | apply Ini.argC rfl rfl | apply Ini.cell rfl rfl)))
local macro_rules | `(tactic| walk_at "nd") => `(tactic| (intro L O; simp [List.filterMap_cons, ownOf]))
local macro_rules | `(tactic| walk_at "nn") => `(tactic| (intro L; simp only [List.map_cons, List.map_nil]; decide))
noncomputable abbrev genv (q : Str) (code : Value) (L : Addr) : Env := fenv q (mb 11) code L 56
noncomputable abbrev gFor : Stmt := stm (fbody (mb 11)) 1
noncomputable abbrev glb : List Stmt := fbod gFor
noncomputable abbrev gWh : Stmt := match stm glb 1 with | .If _ b _ _ => stm b 1 | s => s
noncomputable abbrev gwt : Expr := match gWh with | .While t _ _ _ => t | _ => .Constant .none 0 default
noncomputable abbrev gwb : List Stmt := fbod gWh
noncomputable abbrev gK0 : Flow → Sem Fin := fun f => .pure (.done (.ret (match f with | .ret v => v | _ => .none)))
noncomputable abbrev gH0 (env : Env) : Value → Sem Fin := fun e => (leaving env e).wrap (fun _ => .raise e) .raise id id
noncomputable abbrev gK2 (env : Env) : Flow → Sem Fin := fun f => match f with | .next => (execs [] env).wrap gK0 (gH0 env) id id | f => gK0 f
noncomputable abbrev gFs (env : Env) (p : Pos) : List Frame := [forK (gK2 env) (gH0 env) id id env (.func (fbody (mb 11)) env) p]

/-- the state before the draw i -/
noncomputable def GInv (X : Cx) (env : Env) (L I ax : Addr) (vs : List Value) (g : List Int) (i : Nat) (s : Shared) : Prop :=
  match gAt g i with
  | .scan j (some x) => GI X env L I ax vs .no (.val (.int x)) j s
  | .rep l j => GI X env L I ax vs (.val (.int l)) .no j s
  | _ => False
noncomputable def gY (X : Cx) (env : Env) (L I ax : Addr) (vs : List Value) (g : List Int) (N : Nat) : Protocol := fun m s₀ v s₁ kap =>
  ∃ k t, gItem g (N - 1 - m) = some k ∧ v = .int k t ∧ Rel L I s₀ s₁ ∧ GInv X env L I ax vs g (N - m) s₁ ∧ (0 < m → ∀ s'', GInv X env L I ax vs g (N - m) s'' → kap (.send .none) s'')
noncomputable def gP (L I : Addr) (g : List Int) (N : Nat) (n : Nat) (s₀ s₁ : Shared) : Prop := gItem g (N - n) = none ∧ Rel L I s₀ s₁
noncomputable abbrev gR (L I : Addr) (g : List Int) (N : Nat) : GenEnd := fun n s₀ r s₁ => r = .ok (.ret .none) ∧ gP L I g N n s₀ s₁

theorem op_is_int {X : Cx} {a : Int} : Op2 X (compareOp .Is) (.int a) .none (.bool false) := fun V s u v Q E vol ru rv hQ => by
  obtain ⟨t, rfl⟩ := ru; cases rv; exact PyProof.Rows.is_int_none (hQ _ _ (.refl s) mk_bool)
section
variable {X : Cx} {mg mb' : Str → Option Value} {q : Str} {code : Value} {L I ax : Addr} {vs : List Value} {g : List Int} {N : Nat} {A : Around}
theorem rep_seg (hb : X.base.get? L = none) {fs : List Frame} (hfs : splitAtGen fs = none) (hfg : fs.any Frame.guarded = false) {l : Int} {j : Nat} :
    ∀ (m i : Nat) (s₀ s : Shared), 0 < m → i + m = N → gOut g (gAt g i) = (some l, .rep l j) → GI X (genv q code L) L I ax vs (.val (.int l)) .no j s → Rel L I s₀ s →
      Seg X.M A (gR L I g N) (gY X (genv q code L) L I ax vs g N) m s₀ (.whileLoop gwt gwb [] (genv q code L)) (X.M.den (.whileLoop gwt gwb [] (genv q code L))) fs s := by
  intro m
  induction m with
  | zero => intro i s₀ s h0; exact absurd h0 (by decide)
  | succ m ih =>
    intro i s₀ s _ hi hg hG hr
    let Xo : Cx := { X with A := A.over (.whileLoop gwt gwb [] (genv q code L)) fs, env := genv q code L }
    have F := hG.frm rfl rfl rfl rfl hb (i := .no) (l := .val (.int l)) trivial trivial
    have F' : Xo.F (fun b => b = L) (fun _ => 0) (GVars (.val (.int l)) .no) s := F
    refine seg_whileLoop ?_
    refine (it_value (X := Xo) ev_bool tr_bool : It Xo gwt (GVars (.val (.int l)) .no) true) _ _ s _ _ F' fun s₁ g₁ => ?_
    rw [if_pos rfl]
    refine seg_execs_cons (seg_Expr_Yield hfs rfl hfg ?_)
    refine (ev_name (X := Xo) (by walk_at "at") : Ev Xo _ (GVars (.val (.int l)) .no) (.int l)) _ _ s₁ _ _ (F'.grow g₁) fun v s₂ g₂ r => fun kap hk => ?_
    obtain ⟨t, rfl⟩ := r
    have e1 : N - 1 - m = i := by omega
    have e2 : N - m = i + 1 := by omega
    have e3 : gAt g (i + 1) = .rep l j := by show (gOut g (gAt g i)).2 = _; rw [hg]
    have G₂ : GI X (genv q code L) L I ax vs (.val (.int l)) .no j s₂ := hG.keep fun b o e _ => g₂.keep b o (g₁.keep b o e)
    refine ⟨l, t, by rw [e1]; show (gOut g (gAt g i)).1 = _; rw [hg], rfl, hr.trans ((g₁.trans g₂).rel), by rw [e2]; unfold GInv; rw [e3]; exact G₂, fun hm s'' hs'' => hk .none s'' ?_⟩
    rw [e2] at hs''
    unfold GInv at hs''
    rw [e3] at hs''
    show Seg _ _ _ _ _ s'' _ (Sem.wrap _ _ _ _ _) fs s''
    exact seg_execs_nil (seg_again rfl (ih (i + 1) s'' s'' hm (by omega) (by rw [e3]; rfl) hs'' (.refl _ _ _)))

/-- the values of the grouping -/
noncomputable def lastV : Option Int → VV
  | none => .val .none
  | some l => .val (.int l)
theorem lastV_flat (o : Option Int) : FlatV (lastV o) := by cases o <;> trivial
theorem scan_seg (hh : ∀ c fs', fs' = [] ∨ (∃ p, fs' = gFs (genv q code L) p) → (A.over c fs').handled = none) (G : Pgm X mg mb') (hb : X.base.get? L = none) (hbI : X.base.get? I = none) (hLI : L ≠ I) (hax : ax ≠ I) (haL : ax ≠ L) (hv : IntsV g vs) (p : Pos) :
    ∀ (m i : Nat) (s₀ s : Shared) (j : Nat) (last : Option Int), 0 < m → i + m = N → gAt g i = .scan j last → gErr g (.scan j last) = false → (∀ k, gErr g (gAt g k) = false) → GI X (genv q code L) L I ax vs (lastV last) .no j s → Rel L I s₀ s →
      Seg X.M A (gR L I g N) (gY X (genv q code L) L I ax vs g N) m s₀ (.forLoop (ftgt gFor) (.ref I) glb [] (genv q code L)) (X.M.den (.forLoop (ftgt gFor) (.ref I) glb [] (genv q code L))) (gFs (genv q code L) p) s := by
  intro m
  induction m with
  | zero => intro i s₀ s j last h0; exact absurd h0 (by decide)
  | succ m ih =>
    intro i s₀ s j last _ hi hat herr hok hG hr
    have stop : ∀ {c' : Code} {s' : Shared}, gItem g i = none → Rel L I s₀ s' → Seg X.M A (gR L I g N) (gY X (genv q code L) L I ax vs g N) (m + 1) s₀ c' (leafOf (.ok .next)) (gFs (genv q code L) p) s' := fun {c' s'} hn hr' => by
      refine seg_leaf _ ?_
      show Seg X.M A (gR L I g N) _ (m + 1) s₀ _ (leafOf (.ok (.ret .none))) [] s'
      exact seg_end _ ⟨rfl, by rw [show N - (m + 1) = i by omega]; exact hn, hr'⟩
    let Xo : Cx := { X with A := A.over (.forLoop (ftgt gFor) (.ref I) glb [] (genv q code L)) (gFs (genv q code L) p), env := genv q code L }
    have hho : Xo.A.handled = none := hh _ _ (.inr ⟨p, rfl⟩)
    have W : Wd Xo mg mb' := ⟨G.g, G.b, G.lim, rfl, hho⟩
    have hget : ∀ j : Nat, (vs[j]? = none → g[j]? = none) ∧ ∀ v : Value, vs[j]? = some v → ∃ (x : Int) (t : Tok), v = Value.int x t ∧ g[j]? = some x := by
      have key : ∀ {g : List Int} {vs : List Value}, IntsV g vs → ∀ j : Nat, (vs[j]? = none → g[j]? = none) ∧ ∀ v : Value, vs[j]? = some v → ∃ (x : Int) (t : Tok), v = Value.int x t ∧ g[j]? = some x := by
        intro g
        induction g with
        | nil => intro vs h j; simp only [IntsV] at h; subst h; simp
        | cons a g ih =>
          intro vs h j
          simp only [IntsV] at h
          obtain ⟨t, vs', rfl, h⟩ := h
          cases j with
          | zero => simp
          | succ j => simpa using ih h j
      exact key hv
    refine seg_forLoop (fun _ => rfl) fun E => ?_
    cases hvj : vs[j]? with
    | none =>
      refine wpAny_pyNext_list_end hho hG.it hG.li (by simpa using hvj) fun h' he => ?_
      refine stop ?_ (hr.trans ⟨fun b o h1 h2 e => he b o h2 e, rfl, .refl _⟩)
      show (gOut g (gAt g i)).1 = none
      rw [hat]; simp [gOut, (hget j).1 hvj]
    | some v =>
      obtain ⟨x, t, rfl, hx⟩ := (hget j).2 v hvj
      refine wpAny_pyNext_list_item hG.it hG.li (by simpa using hvj) fun h' hit hs => ?_
      have up : ∀ b o, b ≠ I → s.heap.get? b = some o → h'.get? b = some o := fun b o hb e => (hs.2 b hb).trans e
      have hr₁ : Rel L I s { s with heap := h' } := ⟨fun b o h1 h2 e => up b o h2 e, rfl, .refl _⟩
      have G₁ : GI X (genv q code L) L I ax vs (lastV last) .no (j + 1) { s with heap := h' } :=
        ⟨fun b o e => up b o (fun h => by rw [h, hbI] at e; cases e) (hG.kb b o e), let ⟨m, hn, r⟩ := hG.ns; ⟨m, hn.at' fun o e => up L o hLI e, r⟩, hit, hG.li.at fun o e => up ax o hax e⟩
      have F₁ : Xo.F (fun b => b = L) (fun _ => 0) (GVars (lastV last) .no) { s with heap := h' } := G₁.frm rfl rfl rfl rfl hb (lastV_flat last) trivial
      have owG : ∀ (O : Str → Addr) (l i : VV), FlatV l → FlatV i → PL.owned Xo.env O (GVars l i) = [L] := fun O l i fl fi => by
        unfold PL.owned
        cases l <;> cases i <;> first | exact fl.elim | exact fi.elim | (simp [List.filterMap_cons, ownOf]; rfl)
      refine (asg_name (X := Xo) (by walk_at "put") : Asg Xo (ftgt gFor) (.int x) (GVars (lastV last) .no) (GVars (lastV last) (.val (.int x)))) _ _ _ (.int x t) _ _ F₁ ⟨t, rfl⟩ fun V₂ O₂ s₂ R₂ _ => ?_
      have k₂ : ∀ b o, b ≠ L → h'.get? b = some o → s₂.heap.get? b = some o := fun b o hb e => R₂.step.keep b o (by rw [owG _ (lastV last) .no (lastV_flat last) trivial]; simpa using hb) e
      have G₂ : GI X (genv q code L) L I ax vs (lastV last) (.val (.int x)) (j + 1) s₂ := GI.of R₂.frm rfl (lastV_flat last) trivial (hit.at fun o e => k₂ I o hLI.symm e) (G₁.li.at fun o e => k₂ ax o haL e)
      have hr₂ : Rel L I s₀ s₂ := (hr.trans hr₁).trans ⟨fun b o h1 h2 e => k₂ b o h1 e, R₂.step.os, R₂.step.gens⟩
      have F₂ : Xo.F (fun b => b = L) (fun _ => 0) (GVars (lastV last) (.val (.int x))) s₂ := G₂.frm rfl rfl rfl rfl hb (lastV_flat last) trivial
      clear F₁ G₁ R₂ hr₁
      refine seg_execs_cons (seg_If ?_)
      refine (it_cmp (X := Xo) (by walk_at "nm") (ev_global (p := .int 127) W G.m_char (fun V s => ⟨247, rfl⟩) rfl) op_eq : It Xo _ (GVars (lastV last) (.val (.int x))) (x == 127)) _ _ s₂ _ _ F₂ fun s₃ g₃ => ?_
      by_cases h127 : x = 127
      · subst h127
        rw [if_pos (by rfl)]
        refine seg_execs_cons (seg_st (wpAny_Return_none ?_))
        show Seg X.M A (gR L I g N) _ (m + 1) s₀ _ (leafOf (.ok (.ret .none))) (gFs (genv q code L) p) s₃
        refine seg_leaf _ ?_
        show Seg X.M A (gR L I g N) _ (m + 1) s₀ _ (leafOf (.ok (.ret .none))) [] s₃
        refine seg_end _ ⟨rfl, ?_, hr₂.trans g₃.rel⟩
        rw [show N - (m + 1) = i by omega]
        show (gOut g (gAt g i)).1 = none
        rw [hat]; simp [gOut, hx]
      rw [if_neg (by simpa using h127)]
      refine seg_execs_nil (seg_execs_cons (seg_If ?_))
      have F₃ := F₂.grow g₃
      have G₃ := G₂.keep (s' := s₃) fun b o e _ => g₃.keep b o e
      refine (it_cmp (X := Xo) (by walk_at "nm") ev_int op_eq : It Xo _ (GVars (lastV last) (.val (.int x))) (x == 0)) _ _ s₃ _ _ F₃ fun s₄ g₄ => ?_
      have F₄ := F₃.grow g₄
      have G₄ := G₃.keep (s' := s₄) fun b o e _ => g₄.keep b o e
      have hr₄ := hr₂.trans ((g₃.trans g₄).rel)
      by_cases h0 : x = 0
      · subst h0
        rw [if_pos (by rfl)]
        cases last with
        | none => simp [gErr, hx] at herr
        | some l =>
          refine seg_execs_cons (seg_If ?_)
          refine (it_cmp (X := Xo) (by walk_at "nm") ev_none op_is_int : It Xo _ (GVars (lastV (some l)) (.val (.int 0))) false) _ _ s₄ _ _ F₄ fun s₅ g₅ => ?_
          rw [if_neg (by decide)]
          refine seg_execs_nil (seg_execs_cons (seg_While fun p' => ?_))
          have G₅ := G₄.keep (s' := s₅) fun b o e _ => g₅.keep b o e
          exact rep_seg hb rfl rfl (m + 1) i s₀ s₅ (Nat.succ_pos m) hi (by rw [hat]; simp [gOut, hx]) ⟨G₅.kb, let ⟨m, hn, h1, h2⟩ := G₅.ns; ⟨m, hn, h1, trivial⟩, G₅.it, G₅.li⟩ (hr₄.trans g₅.rel)
      rw [if_neg (by simpa using h0)]
      refine seg_execs_nil (seg_execs_cons (seg_Expr_Yield rfl rfl rfl ?_))
      refine (ev_name (X := Xo) (by walk_at "at") : Ev Xo _ (GVars (lastV last) (.val (.int x))) (.int x)) _ _ s₄ _ _ F₄ fun v s₅ g₅ r => fun kap hk => ?_
      obtain ⟨t', rfl⟩ := r
      have G₅ := G₄.keep (s' := s₅) fun b o e _ => g₅.keep b o e
      have e1 : N - 1 - m = i := by omega
      have e2 : N - m = i + 1 := by omega
      have eo : gOut g (gAt g i) = (some x, .scan (j + 1) (some x)) := by rw [hat]; simp [gOut, hx, h127, h0]
      have e3 : gAt g (i + 1) = .scan (j + 1) (some x) := by show (gOut g (gAt g i)).2 = _; rw [eo]
      refine ⟨x, t', by rw [e1]; show (gOut g (gAt g i)).1 = _; rw [eo], rfl, hr₄.trans g₅.rel, by rw [e2]; unfold GInv; rw [e3]; exact ⟨G₅.kb, let ⟨m, hn, h1, h2⟩ := G₅.ns; ⟨m, hn, trivial, h2⟩, G₅.it, G₅.li⟩, fun hm s'' hs'' => hk .none s'' ?_⟩
      rw [e2] at hs''
      unfold GInv at hs''
      rw [e3] at hs''
      have F'' : Xo.F (fun b => b = L) (fun _ => 0) (GVars .no (.val (.int x))) s'' := hs''.frm rfl rfl rfl rfl hb trivial trivial
      refine seg_execs_cons (seg_st ?_)
      refine (ex_assign (X := Xo) (by walk_at "nm") (by walk_at "put") : Ex1 Xo (stm glb 3) (GVars .no (.val (.int x))) .next (GVars (.val (.int x)) (.val (.int x)))) _ _ s'' _ _ F'' fun V₆ O₆ s₆ f₆ R₆ hf₆ => ?_
      cases hf₆
      have k₆ : ∀ b o, b ≠ L → s''.heap.get? b = some o → s₆.heap.get? b = some o := fun b o hb e => R₆.step.keep b o (by rw [owG _ .no (.val (.int x)) trivial trivial]; simpa using hb) e
      have G₆ : GI X (genv q code L) L I ax vs (.val (.int x)) (.val (.int x)) (j + 1) s₆ := GI.of R₆.frm rfl trivial trivial (hs''.it.at fun o e => k₆ I o hLI.symm e) (hs''.li.at fun o e => k₆ ax o haL e)
      refine seg_execs_nil (seg_again rfl ?_)
      refine ih (i + 1) s'' s₆ (j + 1) (some x) hm (by omega) e3 (by rw [← e3]; exact hok _) hok ⟨G₆.kb, let ⟨m, hn, h1, h2⟩ := G₆.ns; ⟨m, hn, h1, trivial⟩, G₆.it, G₆.li⟩ ⟨fun b o h1 h2 e => k₆ b o h1 e, R₆.step.os, R₆.step.gens⟩
end
end PL
end
noncomputable section
open PySem PySem.W PyProof.Rows PySem.Builtin.Str
set_option Elab.async false
set_option linter.unusedVariables false
set_option maxRecDepth 100000
set_option pp.maxSteps 600
namespace PL
local macro_rules | `(tactic| walk_at "at") => `(tactic| (repeat (first | exact At.here | exact AtMut.here | apply At.there | apply AtMut.there)))
local macro_rules | `(tactic| walk_at "put") => `(tactic| (repeat (first | exact Put.loc | exact Put.locNo | exact Put.cell | exact PutNew.no | exact PutNew.val | exact PutNew.mu | exact PutMut.here | exact Thaw.here | apply Put.there | apply PutNew.there | apply PutMut.there | apply Thaw.there)))
local macro_rules | `(tactic| walk_at "nm") => `(tactic| exact ev_name (by walk_at "at"))
local macro_rules | `(tactic| walk_at "ini") => `(tactic| (repeat (first | exact Ini.nil | apply Ini.argL rfl | apply Ini.loc rfl | apply Ini.argC rfl rfl | apply Ini.cell rfl rfl)))
local macro_rules | `(tactic| walk_at "nd") => `(tactic| (intro L O; simp [List.filterMap_cons, ownOf]))
local macro_rules | `(tactic| walk_at "nn") => `(tactic| (intro L; simp only [List.map_cons, List.map_nil]; decide))
section
variable {X : Cx} {ρ : Vars} {mg mb' : Str → Option Value} {q : Str} {code : Value} {L I ax : Addr} {vs : List Value} {g : List Int} {N : Nat} {A : Around}
theorem over_none (hh : A.handled = none) : ∀ c fs', fs' = [] ∨ (∃ p, fs' = gFs (genv q code L) p) → (A.over c fs').handled = none := by
  intro c fs' h
  rcases h with rfl | ⟨p, rfl⟩
  · show (marksOver [] (A.handled, A.handled)).1 = none
    rw [hh]; rfl
  · show (marksOver (gFs (genv q code L) p) (A.handled, A.handled)).1 = none
    rw [hh]; rfl
theorem first_seg (hh : A.handled = none) (G : Pgm X mg mb') {s : Shared} (hkb : ∀ b o, X.base.get? b = some o → s.heap.get? b = some o) (hb : X.base.get? L = none) {m : Str → Option Value} (hn : s.heap.Ns L m) (hm : m "grouping" = some (.ref ax))
    (hl : s.heap.IsList ax vs.toArray) (haL : ax ≠ L) (hv : IntsV g vs) (hN : 0 < N) (hok : ∀ k, gErr g (gAt g k) = false) :
    Seg X.M A (gR L s.heap.objs.size g N) (gY X (genv q code L) L s.heap.objs.size ax vs g N) N s (.func (fbody (mb 11)) (genv q code L)) (X.M.den (.func (fbody (mb 11)) (genv q code L))) [] s := by
  refine seg_func (seg_execs_cons (seg_st ?_))
  refine wpAny_Assign_Name (wpAny_Constant_none (wpAny_storeName_local rfl hn fun h' hn' hs => ?_)) rfl
  have hLs : L < s.heap.objs.size := hn.lt
  have haxs : ax < s.heap.objs.size := by obtain ⟨o, e, _⟩ := hl; exact Heap.lt_size e
  have up : ∀ b o, b ≠ L → s.heap.get? b = some o → h'.get? b = some o := fun b o hb e => (hs.2 b hb).trans e
  refine seg_execs_cons (seg_For (fun _ => rfl) ?_)
  refine wpAny_Name (wpAny_loadName_local rfl rfl hn' (v := .ref ax) (by rw [if_neg (by decide)]; exact hm) ?_) (by decide)
  have hl' : h'.IsList ax vs.toArray := hl.at fun o e => up ax o haL e
  refine wpAny_pyIter_list hl' fun p => ?_
  have hsz : h'.objs.size = s.heap.objs.size := hs.1
  rw [hsz]
  have hdead : s.heap.get? s.heap.objs.size = none := by
    cases e : s.heap.get? s.heap.objs.size with
    | none => rfl
    | some o => exact absurd (Heap.lt_size e) (Nat.lt_irrefl _)
  have hbI : X.base.get? s.heap.objs.size = none := by
    cases e : X.base.get? s.heap.objs.size with
    | none => rfl
    | some o => rw [hkb _ o e] at hdead; cases hdead
  have hpush : ∀ {b : Addr} {o : Obj}, h'.get? b = some o → (h'.push { cls := .type "list_iterator", data := .fields #[.ref ax, .int 0 0] }).get? b = some o := fun e => Heap.get?_push_of_some _ e
  refine scan_seg (over_none hh) G hb hbI (Nat.ne_of_lt hLs) (Nat.ne_of_lt haxs) haL hv p N 0 s _ 0 none hN (by omega) rfl (hok 0) hok ⟨fun b o e => hpush (up b o (fun h => by rw [h, hb] at e; cases e) (hkb b o e)), ⟨_, hn'.keeps fun b o e => hpush e, ⟨.none, if_pos rfl, rfl⟩, trivial⟩,
    ⟨_, by rw [← hsz]; exact Heap.get?_push_size _ rfl, rfl, rfl⟩, hl'.at fun o e => hpush e⟩ ⟨fun b o h1 h2 e => hpush (up b o h1 e), rfl, .refl _⟩

theorem GInv.keep {i : Nat} {s s' : Shared} {env : Env} (h : GInv X env L I ax vs g i s) (kb : ∀ b o, X.base.get? b = some o → s'.heap.get? b = some o) (k : ∀ b, b = L ∨ b = I ∨ b = ax → ∀ o, s.heap.get? b = some o → s'.heap.get? b = some o) : GInv X env L I ax vs g i s' := by
  have key : ∀ {l v : VV} {j : Nat}, GI X env L I ax vs l v j s → GI X env L I ax vs l v j s' := fun h =>
    ⟨kb, let ⟨m, hn, r⟩ := h.ns; ⟨m, hn.at' fun o e => k L (.inl rfl) o e, r⟩, h.it.at fun o e => k I (.inr (.inl rfl)) o e, h.li.at fun o e => k ax (.inr (.inr rfl)) o e⟩
  unfold GInv at h ⊢
  split
  · rename_i e; rw [e] at h; exact key h
  · rename_i e; rw [e] at h; exact key h
  · rename_i h1 h2
    split at h
    · rename_i e; exact absurd e (h1 _ _)
    · rename_i e; exact absurd e (h2 _ _)
    · exact h.elim
theorem GInv.live {i : Nat} {s : Shared} {env : Env} (h : GInv X env L I ax vs g i s) : (∃ o, s.heap.get? L = some o) ∧ (∃ o, s.heap.get? I = some o) ∧ (∀ b o, X.base.get? b = some o → s.heap.get? b = some o) := by
  have key : ∀ {l v : VV} {j : Nat}, GI X env L I ax vs l v j s → (∃ o, s.heap.get? L = some o) ∧ (∃ o, s.heap.get? I = some o) ∧ (∀ b o, X.base.get? b = some o → s.heap.get? b = some o) := fun h =>
    ⟨by obtain ⟨m, ⟨o, _, _, e, _⟩, _⟩ := h.ns; exact ⟨o, e⟩, by obtain ⟨o, e, _⟩ := h.it; exact ⟨o, e⟩, h.kb⟩
  unfold GInv at h
  split at h
  · exact key h
  · exact key h
  · exact h.elim

/-- the generator between its draws -/
noncomputable def GSt (X : Cx) (A₁ : Around) (env : Env) (L ax a gn : Addr) (vs : List Value) (g : List Int) (N : Nat) (V : Addr → Prop) (wr : List Addr) (i : Nat) (s : Shared) : Prop :=
  s.heap.IsGen a gn ∧ ¬ V a ∧ ¬ V ax ∧ a ≠ L ∧ ax ≠ L ∧
    match i with
    | 0 => wr = [L] ∧ s.gens[gn]? = some (.fresh (.func (fbody (mb 11)) env)) ∧ (∃ m, s.heap.Ns L m ∧ m "grouping" = some (.ref ax)) ∧ s.heap.IsList ax vs.toArray
    | i + 1 => ∃ I gs, wr = [L, I] ∧ s.gens[gn]? = some gs ∧ X.base.get? I = none ∧ GInv X env L I ax vs g (i + 1) s ∧
        (0 < N - (i + 1) → ∀ s'', GInv X env L I ax vs g (i + 1) s'' → gs.Goes X.M A₁ (gR L I g N) (gY X env L I ax vs g N) (N - (i + 1)) (.send .none) s'')
theorem setGen_gx {s s₁ : Shared} {gn : Nat} {x y : GenState} (h : GG (s.setGen gn x).gens s₁.gens) (hx : x.bare = true) (hy : y.bare = true) : GX [gn] s.gens (s₁.setGen gn y).gens := by
  have hset : ∀ (a : Array GenState) (z : GenState), z.bare = true → AllBare a → AllBare (a.setIfInBounds gn z) := fun a z hz ha y' hy' => by
    rcases Array.mem_iff_getElem?.mp hy' with ⟨i, hi⟩
    by_cases hg : i = gn
    · subst hg
      rw [Array.getElem?_setIfInBounds] at hi
      simp only [if_true] at hi
      split at hi
      · cases hi; exact hz
      · cases hi
    · rw [Array.getElem?_setIfInBounds_ne (Ne.symm hg)] at hi
      exact ha _ (Array.mem_of_getElem? hi)
  refine ⟨fun i z hi e => ?_, fun hb => hset _ y hy (h.2 (hset _ x hx hb))⟩
  have hne : gn ≠ i := fun e => hi (e ▸ List.mem_singleton.mpr rfl)
  show (s₁.gens.setIfInBounds gn y)[i]? = some z
  rw [Array.getElem?_setIfInBounds_ne hne]
  refine h.1 i z ?_
  show (s.gens.setIfInBounds gn x)[i]? = some z
  rw [Array.getElem?_setIfInBounds_ne hne]; exact e
theorem gens_at {s s₁ : Shared} {gn : Nat} {x y z : GenState} (h : GG (s.setGen gn x).gens s₁.gens) (e : s.gens[gn]? = some z) : (s₁.setGen gn y).gens[gn]? = some y := setGen_self (h.1 gn x (setGen_self e))
theorem gen_yields {a gn : Nat} (G : Pgm X mg mb') (hh : X.A.handled = none) (hroom : X.A.depth < recursionLimit) (hb : X.base.get? L = none) (hv : IntsV g vs) (hok : ∀ k, gErr g (gAt g k) = false) :
    YieldsG X (.ref a) [gn] (fun i => (gItem g i).map .int) (fun i => i < N) (GSt X X.A.in1 (genv q code L) L ax a gn vs g N) where
  frame := fun V V' wr i s s' st hw hw' vol hkw hkV hg => by
    obtain ⟨hgen, na, nax, haL, haxL, st⟩ := st
    obtain ⟨o, nm, qn, ho, hr⟩ := id hgen
    have hax : ∀ o, s.heap.get? ax = some o → ¬ V' ax ∧ s'.heap.get? ax = some o := fun o e => hkV ax o nax e
    have gen' : s'.heap.IsGen a gn := ⟨o, nm, qn, (hkV a o na ho).2, hr⟩
    cases i with
    | zero =>
      obtain ⟨rfl, h1, ⟨m, hn, hm⟩, hl⟩ := st
      obtain ⟨oa, ea, hla⟩ := hl
      exact ⟨gen', (hkV a o na ho).1, (hax oa ea).1, haL, haxL, rfl, hg.1 _ _ h1, ⟨m, hn.at' fun o e => hkw L (List.mem_singleton.mpr rfl) o e, hm⟩, ⟨oa, (hax oa ea).2, hla⟩⟩
    | succ i =>
      obtain ⟨I, gs, rfl, h1, hbI, hG, hgo⟩ := st
      have hla : ∃ oa, s.heap.get? ax = some oa := by
        unfold GInv at hG
        split at hG
        · obtain ⟨o, e, _⟩ := hG.li; exact ⟨o, e⟩
        · obtain ⟨o, e, _⟩ := hG.li; exact ⟨o, e⟩
        · exact hG.elim
      obtain ⟨oa, ea⟩ := hla
      refine ⟨gen', (hkV a o na ho).1, (hax oa ea).1, haL, haxL, I, gs, rfl, hg.1 _ _ h1, hbI, hG.keep vol.keep fun b hb o e => ?_, hgo⟩
      rcases hb with rfl | rfl | rfl
      · exact hkw _ (by simp) o e
      · exact hkw _ (by simp) o e
      · exact (hax o e).2
  live := fun V wr i s st b hb => by
    obtain ⟨hgen, na, nax, haL, haxL, st⟩ := st
    cases i with
    | zero =>
      obtain ⟨rfl, h1, ⟨m, ⟨o, _, _, e, _⟩, hm⟩, hl⟩ := st
      rw [List.mem_singleton.mp hb]; exact ⟨o, e⟩
    | succ i =>
      obtain ⟨I, gs, rfl, h1, hbI, hG, hgo⟩ := st
      rcases List.mem_cons.mp hb with rfl | hb
      · exact hG.live.1
      · rw [List.mem_singleton.mp hb]; exact hG.live.2.1
  item := fun V wr i p s Q E hi hp st hw vol hq => by
    obtain ⟨hgen, na, nax, haL, haxL, st⟩ := st
    have hlim := G.lim.keeps vol.keep
    obtain ⟨o, nm, qn, ho, hr⟩ := id hgen
    -- what holds behind a yield
    have close : ∀ (I : Addr) (wr : List Addr) (v : Value) (s₁ : Shared) (gs' : GenState) (gs₀ : GenState), s.gens[gn]? = some gs₀ → (wr = [L] ∧ s.heap.get? I = none ∨ wr = [L, I]) → (∀ b ∈ wr, V b) → X.base.get? I = none → (a ≠ I) → (ax ≠ I) → gs'.bare = true →
        gY X (genv q code L) L I ax vs g N (N - i - 1) (s.setGen gn .running) v s₁ (fun r' s'' => match N - i with
          | 0 => False
          | m + 1 => gs'.Goes X.M X.A.in1 (gR L I g N) (gY X (genv q code L) L I ax vs g N) m r' s'') →
        (∀ v s' V' wr', X.R V' s' p v → GSt X X.A.in1 (genv q code L) L ax a gn vs g N V' wr' (i + 1) s' → (∀ b ∈ wr', b ∈ wr ∨ s.heap.get? b = none) → (∀ b, V b → V' b) → (∀ b, V' b → V b ∨ s.heap.get? b = none) → (∀ b ∈ wr', V' b) → Vol X.base V' s' →
          (∀ b o, b ∉ wr → s.heap.get? b = some o → s'.heap.get? b = some o) → s'.os = s.os → GX [gn] s.gens s'.gens → Q (some v) s') → Q (some v) (s₁.setGen gn gs') := by
      intro I wr v s₁ gs' gs₀ hg0 hwr hw hbI haI haxI hbare hY hq
      obtain ⟨k, t, hk, rfl, hrel, hG, hkap⟩ := hY
      have e1 : N - 1 - (N - i - 1) = i := by omega
      have e2 : N - (N - i - 1) = i + 1 := by omega
      rw [e1] at hk
      rw [e2] at hG hkap
      rw [hk] at hp
      cases hp
      have hIV : V I ∨ s.heap.get? I = none := hwr.elim (fun h => .inr h.2) fun h => .inl (hw I (h ▸ by simp))
      have hLw : L ∈ wr := hwr.elim (fun h => h.1 ▸ List.mem_singleton.mpr rfl) fun h => h ▸ List.mem_cons_self ..
      have keepA : ∀ b o, b ≠ L → b ≠ I → s.heap.get? b = some o → s₁.heap.get? b = some o := fun b o h1 h2 e => hrel.keep b o h1 h2 e
      have V'V : ∀ b, VW V [I] b → V b ∨ s.heap.get? b = none := fun b h => h.elim .inl fun h => by rw [List.mem_singleton.mp h]; exact hIV
      obtain ⟨lL, lI, kb⟩ := hG.live
      refine hq (.int k t) _ (VW V [I]) [L, I] ⟨t, rfl⟩ ⟨⟨o, nm, qn, keepA a o haL haI ho, hr⟩, fun h => h.elim na fun h => haI (List.mem_singleton.mp h), fun h => h.elim nax fun h => haxI (List.mem_singleton.mp h), haL, haxL, I, gs', rfl, gens_at hrel.gens hg0, hbI, hG.keep (s' := s₁.setGen gn gs') kb (fun _ _ _ e => e), fun h0 s'' hs'' => ?_⟩
        (fun b hb => ?_) (fun b h => .inl h) V'V (fun b hb => ?_) ⟨kb, fun b hb => ?_, fun b hb => hb.elim (vol.apart b) fun h => by rw [List.mem_singleton.mp h]; exact hbI⟩ (fun b o hb e => ?_) hrel.os (setGen_gx hrel.gens rfl hbare)
      · have e3 : N - i = (N - (i + 1)) + 1 := by omega
        have := hkap (by omega) s'' hs''
        rw [e3] at this
        exact this
      · rcases List.mem_cons.mp hb with rfl | hb
        · exact .inl hLw
        · rw [List.mem_singleton.mp hb]; exact hwr.elim (fun h => .inr h.2) fun h => .inl (h ▸ by simp)
      · rcases List.mem_cons.mp hb with rfl | hb
        · exact .inl (hw _ hLw)
        · exact .inr hb
      · rcases hb with h | h
        · by_cases h1 : b = L
          · exact h1 ▸ lL
          · by_cases h2 : b = I
            · exact h2 ▸ lI
            · obtain ⟨o, e⟩ := vol.live b h; exact ⟨o, keepA b o h1 h2 e⟩
        · rw [List.mem_singleton.mp h]; exact lI
      · refine keepA b o (fun h => hb (h ▸ hLw)) (fun h => ?_) e
        rcases hwr with h' | h'
        · rw [h, h'.2] at e; cases e
        · exact hb (h' ▸ h ▸ by simp)
    cases i with
    | zero =>
      obtain ⟨rfl, h1, ⟨m, hn, hm⟩, hl⟩ := st
      have hdead : s.heap.get? s.heap.objs.size = none := by
        cases e : s.heap.get? s.heap.objs.size with
        | none => rfl
        | some o => exact absurd (Heap.lt_size e) (Nat.lt_irrefl _)
      have hbI : X.base.get? s.heap.objs.size = none := by
        cases e : X.base.get? s.heap.objs.size with
        | none => rfl
        | some o => rw [vol.keep _ o e] at hdead; cases hdead
      have haI : a ≠ s.heap.objs.size := fun e => by rw [e, hdead] at ho; cases ho
      have haxI : ax ≠ s.heap.objs.size := fun e => by obtain ⟨oa, ea, _⟩ := hl; rw [e, hdead] at ea; cases ea
      refine pyNext_genB (prog := X.prog) (w := X.w) (n := N) (P := gP L s.heap.objs.size g N) (Y := gY X (genv q code L) L s.heap.objs.size ax vs g N) hh hlim hroom hgen h1 ⟨rfl, ?_⟩ (fun v s₁ gs' hbare hY => close s.heap.objs.size [L] v s₁ gs' _ h1 (.inl ⟨rfl, hdead⟩) hw hbI haI haxI hbare hY hq) (fun s₁ hP => ?_)
      · exact first_seg (A := X.A.in1) (s := s.setGen gn .running) hh G vol.keep hb hn hm hl haxL hv hi hok
      · exfalso
        have h2 := hP.1
        rw [Nat.sub_self] at h2
        have h3 : (gItem g 0).map PV.int = some p := hp
        rw [h2] at h3; cases h3
    | succ i =>
      obtain ⟨I, gs, rfl, h1, hbI, hG, hgo⟩ := st
      have lI := hG.live.2.1
      have haI : a ≠ I := fun e => na (e ▸ hw I (by simp))
      have haxI : ax ≠ I := fun e => nax (e ▸ hw I (by simp))
      refine pyNext_genB (prog := X.prog) (w := X.w) (n := N - (i + 1)) (P := gP L I g N) (Y := gY X (genv q code L) L I ax vs g N) hh hlim hroom hgen h1 (hgo (by omega) _ (hG.keep (s' := s.setGen gn .running) vol.keep fun _ _ _ e => e)) (fun v s₁ gs' hbare hY => close I [L, I] v s₁ gs' _ h1 (.inr rfl) hw hbI haI haxI hbare hY hq) (fun s₁ hP => ?_)
      exfalso
      have h2 := hP.1
      rw [show N - (N - (i + 1)) = i + 1 by omega] at h2
      have h3 : (gItem g (i + 1)).map PV.int = some p := hp
      rw [h2] at h3; cases h3
  done := fun V wr i s Q E hi hp st hw vol hq => by
    obtain ⟨hgen, na, nax, haL, haxL, st⟩ := st
    have hlim := G.lim.keeps vol.keep
    have close : ∀ (I : Addr) (wr : List Addr) (s₁ : Shared), (wr = [L] ∧ s.heap.get? I = none ∨ wr = [L, I]) → Rel L I (s.setGen gn .running) s₁ → (∀ s', (∀ b o, b ∉ wr → s.heap.get? b = some o → s'.heap.get? b = some o) → s'.os = s.os → GX [gn] s.gens s'.gens → Q none s') →
        ∀ h', (∀ b o, s₁.heap.get? b = some o → h'.get? b = some o) → Q none { s₁.setGen gn .finished with heap := h' } := by
      intro I wr s₁ hwr hrel hq h' hk
      refine hq _ (fun b o hb e => hk b o (hrel.keep b o (fun h => hb ?_) (fun h => ?_) e)) hrel.os (setGen_gx hrel.gens rfl rfl)
      · rcases hwr with h' | h'
        · rw [h, h'.1]; simp
        · rw [h, h']; simp
      · rcases hwr with h' | h'
        · rw [h, h'.2] at e; cases e
        · exact hb (h' ▸ h ▸ by simp)
    cases i with
    | zero =>
      obtain ⟨rfl, h1, ⟨m, hn, hm⟩, hl⟩ := st
      have hdead : s.heap.get? s.heap.objs.size = none := by
        cases e : s.heap.get? s.heap.objs.size with
        | none => rfl
        | some o => exact absurd (Heap.lt_size e) (Nat.lt_irrefl _)
      refine pyNext_genB (prog := X.prog) (w := X.w) (n := N) (P := gP L s.heap.objs.size g N) (Y := gY X (genv q code L) L s.heap.objs.size ax vs g N) hh hlim hroom hgen h1 ⟨rfl, ?_⟩ (fun v s₁ gs' hbare hY => ?_) (fun s₁ hP => close s.heap.objs.size [L] s₁ (.inl ⟨rfl, hdead⟩) hP.2 hq)
      · exact first_seg (A := X.A.in1) (s := s.setGen gn .running) hh G vol.keep hb hn hm hl haxL hv hi hok
      · exfalso
        obtain ⟨k, t, hk, _⟩ := hY
        rw [show N - 1 - (N - 1) = 0 by omega] at hk
        have h3 : (gItem g 0).map PV.int = none := hp
        rw [hk] at h3; cases h3
    | succ i =>
      obtain ⟨I, gs, rfl, h1, hbI, hG, hgo⟩ := st
      refine pyNext_genB (prog := X.prog) (w := X.w) (n := N - (i + 1)) (P := gP L I g N) (Y := gY X (genv q code L) L I ax vs g N) hh hlim hroom hgen h1 (hgo (by omega) _ (hG.keep (s' := s.setGen gn .running) vol.keep fun _ _ _ e => e)) (fun v s₁ gs' hbare hY => ?_) (fun s₁ hP => close I [L, I] s₁ (.inr rfl) hP.2 hq)
      exfalso
      obtain ⟨k, t, hk, _⟩ := hY
      rw [show N - 1 - (N - (i + 1) - 1) = i + 1 by omega] at hk
      have h3 : (gItem g (i + 1)).map PV.int = none := hp
      rw [hk] at h3; cases h3
end
end PL
end
noncomputable section
open PySem PySem.W PyProof.Rows PySem.Builtin.Str
set_option Elab.async false
set_option linter.unusedVariables false
set_option maxRecDepth 100000
set_option pp.maxSteps 600
namespace PL
local macro_rules | `(tactic| walk_at "at") => `(tactic| (repeat (first | exact At.here | exact AtMut.here | apply At.there | apply AtMut.there)))
local macro_rules | `(tactic| walk_at "put") => `(tactic| (repeat (first | exact Put.loc | exact Put.locNo | exact Put.cell | exact PutNew.no | exact PutNew.val | exact PutNew.mu | exact PutMut.here | exact Thaw.here | apply Put.there | apply PutNew.there | apply PutMut.there | apply Thaw.there)))
local macro_rules | `(tactic| walk_at "nm") => `(tactic| exact ev_name (by walk_at "at"))
local macro_rules | `(tactic| walk_at "ini") => `(tactic| (repeat (first | exact Ini.nil | apply Ini.argL rfl | apply Ini.loc rfl | apply Ini.argC rfl rfl | apply Ini.cell rfl rfl)))
local macro_rules | `(tactic| walk_at "nd") => `(tactic| (intro L O; simp [List.filterMap_cons, ownOf]))
local macro_rules | `(tactic| walk_at "nn") => `(tactic| (intro L; simp only [List.map_cons, List.map_nil]; decide))
section
variable {X : Cx} {ρ : Vars} {mg mb' : Str → Option Value} {g : List Int}
theorem it_group (N : Nat) (G : Pgm X mg mb') (hA : Room X.A 1) {x : Str} {p pos : Pos} {e : Expr} (hf : EvV X (.Name x p) ρ (.ref 56)) (he : Ev X e ρ (.list (iL g))) (hok : ∀ k, gErr g (gAt g k) = false)
    (hse : starEach [e] X.env = (false, eval e X.env) :: starEach [] X.env := by rfl) (hse' : backTo pos (starEach [e] X.env) = [(false, eval e X.env)] := by rfl) : IterToG X (.Call (.Name x p) [e] [] pos) ρ (fun i => (gItem g i).map .int) (fun i => i < N) := fun V O s Q E F hQ => by
  rw [arm_eval_Call_Name']
  refine wpAny_bind (hf V O s _ E F ?_)
  obtain ⟨o, nm, q, doc, pm, an, code, ct, ho, hd, hc⟩ := G.f_group
  refine Calls.callWith_function (o := o) (fd := fdat nm q (mb 11) doc pm an code ct) ?_
  have key := (evs_cons (pos := pos) he evs_nil hse) V O s (fun vs s' => (s'.heap.get? 56 = some o ∧ o.data = .func (fdat nm q (mb 11) doc pm an code ct)) ∧ wpAny X.M X.A (call (.ref 56) ([] ++ vs) []) (fun v s₁ => wpAny X.M X.A (pyIter v) Q E s₁) E s') E F fun us s₁ g₁ rs => by
    refine ⟨⟨(F.grow g₁).vol.keep _ _ ho, hd⟩, ?_⟩
    have F₁ := F.grow g₁
    simp only [Cx.Rs, Reps] at rs
    obtain ⟨v, _, rfl, rv, rfl⟩ := rs
    obtain ⟨ax, vs, rfl, nV, hl, rs⟩ := rep_list rv
    have hh := hA.handled
    have hroom : X.A.depth < recursionLimit := by have := hA.depth; omega
    have hlim := G.lim.keeps F₁.vol.keep
    refine wpAny_call (codeAny_call_generator (fd := fdat nm q (mb 11) doc pm an code ct) (body := fbody (mb 11)) hroom (F₁.vol.keep _ _ ho) hd rfl rfl rfl (hc.keeps F₁.vol.keep) ?_)
    refine wpAny_of_eq (a := ([("grouping", Value.ref ax)] : List (Str × Value))) rfl ?_
    refine wpAny_newFunctionEnv (show ∀ x ∈ (fscope (mb 11)).names, x.2 ≠ .cell by decide) (by intro y hy; rw [List.mem_singleton.mp hy]; rfl) (fun h' hn hs => ?_) rfl
    let L : Addr := s₁.heap.objs.size
    have k1 : ∀ b o, s₁.heap.get? b = some o → h'.get? b = some o := fun b o e => hs.extBut b o (Nat.ne_of_lt (Heap.lt_size e)) (Heap.get?_push_of_some _ e)
    have hLd : s₁.heap.get? L = none := by
      cases e : s₁.heap.get? L with
      | none => rfl
      | some o => exact absurd (Heap.lt_size e) (Nat.lt_irrefl _)
    have hsz : h'.objs.size = L + 1 := by rw [hs.1]; exact Heap.size_push ..
    refine ⟨hlim.keeps k1, ?_⟩
    let s₂ : Shared := { s₁ with heap := h', toks := s₁.toks + 1 }
    let s₃ : Shared := { s₂ with gens := s₂.gens.push (.fresh (.func (fbody (mb 11)) (genv q code L))), toks := s₂.toks + 1 + 1, heap := s₂.heap.push { cls := .type "generator", data := .fields #[.int s₂.gens.size 0, .str nm s₂.toks, .str q (s₂.toks + 1)] } }
    have kpush : ∀ b o, h'.get? b = some o → s₃.heap.get? b = some o := fun b o e => Heap.get?_push_of_some _ e
    have g₃ : Grow s₁ s₃ := ⟨fun b o e => kpush b o (k1 b o e), rfl, ⟨fun i z e => by show (s₁.gens.push _)[i]? = some z; rw [Array.getElem?_push, if_neg (Nat.ne_of_lt (Array.getElem?_eq_some_iff.mp e).1)]; exact e, fun hb => AllBare.push hb rfl⟩⟩
    have hgen : s₃.heap.IsGen h'.objs.size s₁.gens.size := ⟨_, _, _, Heap.get?_push_size _ rfl, rfl, rfl, rfl⟩
    show wpAny X.M X.A (pyIter (.ref h'.objs.size)) Q E s₃
    refine wpAny_pyIter_gen (prog := X.prog) (w := X.w) hgen ?_
    have dead : ∀ b, s₁.heap.get? b = none → s.heap.get? b = none := fun b hb => by
      cases e : s.heap.get? b with
      | none => rfl
      | some o => rw [g₁.keep b o e] at hb; cases hb
    have ha1 : s₁.heap.get? h'.objs.size = none := by
      cases e : s₁.heap.get? h'.objs.size with
      | none => rfl
      | some o => have := Heap.lt_size e; rw [hsz] at this; exact absurd this (Nat.not_lt.mpr (Nat.le_succ _))
    have notV : ∀ b, s₁.heap.get? b = none → ¬ V b := fun b hb hv => by obtain ⟨o, e⟩ := F₁.vol.live b hv; rw [hb] at e; cases e
    have hbL : X.base.get? L = none := by
      cases e : X.base.get? L with
      | none => rfl
      | some o => rw [F₁.vol.keep _ o e] at hLd; cases hLd
    have hgs : s.gens[s₁.gens.size]? = none := by
      cases e : s.gens[s₁.gens.size]? with
      | none => rfl
      | some z => have := (Array.getElem?_eq_some_iff.mp (g₁.gens.1 _ _ e)).1; exact absurd this (Nat.lt_irrefl _)
    have haL : h'.objs.size ≠ L := by rw [hsz]; exact Nat.succ_ne_self _
    have haxL : ax ≠ L := fun e => by obtain ⟨o, e', _⟩ := hl; rw [e, hLd] at e'; cases e'
    refine hQ (.ref h'.objs.size) s₃ [L] [s₁.gens.size] _ (g₁.trans g₃) (gen_yields (q := q) (code := code) (N := N) (ax := ax) (vs := vs) G hh hroom hbL (reps_ints rs) hok) (fun b hb => by rw [List.mem_singleton.mp hb]; exact dead L hLd) (fun z hz => by rw [List.mem_singleton.mp hz]; exact hgs) ?_
    refine ⟨hgen, fun h => h.elim (notV _ ha1) fun h => haL (List.mem_singleton.mp h), fun h => h.elim nV fun h => haxL (List.mem_singleton.mp h), haL, haxL, rfl, ?_, ⟨_, hn.keeps kpush, rfl⟩, hl.at fun o e => kpush _ o (k1 _ o e)⟩
    show (s₁.gens.push _)[s₁.gens.size]? = _
    exact Array.getElem?_push_size
  rw [hse'] at key ⊢
  exact Calls.evalArgs_plain key
end
end PL
end
noncomputable section
open PySem PySem.W PyProof.Rows PySem.Builtin.Str
set_option Elab.async false
set_option linter.unusedVariables false
set_option maxRecDepth 100000
set_option pp.maxSteps 600
namespace PL
local macro_rules | `(tactic| walk_at "at") => `(tactic| (repeat (first | exact At.here | exact AtMut.here | apply At.there | apply AtMut.there)))
local macro_rules | `(tactic| walk_at "put") => `(tactic| (repeat (first | exact Put.loc | exact Put.locNo | exact Put.cell | exact PutNew.no | exact PutNew.val | exact PutNew.mu | exact PutMut.here | exact Thaw.here | apply Put.there | apply PutNew.there | apply PutMut.there | apply Thaw.there)))
local macro_rules | `(tactic| walk_at "nm") => `(tactic| exact ev_name (by walk_at "at"))
local macro_rules | `(tactic| walk_at "ini") => `(tactic| (repeat (first | exact Ini.nil | apply Ini.argL rfl | apply Ini.loc rfl | apply Ini.argC rfl rfl | apply Ini.cell rfl rfl)))
local macro_rules | `(tactic| walk_at "nd") => `(tactic| (intro L O; simp [List.filterMap_cons, ownOf]))
local macro_rules | `(tactic| walk_at "nn") => `(tactic| (intro L; simp only [List.map_cons, List.map_nil]; decide))
local macro_rules | `(tactic| walk_at "kinds") => `(tactic| (intro L x hx; (repeat (rcases List.mem_cons.mp hx with h | hx; · (subst h; first | exact .inl rfl | exact .inr ⟨rfl, rfl⟩))); cases hx))
local macro_rules | `(tactic| walk_at "cap") => `(tactic| (repeat (first | exact Cap.cell | exact Cap.free | apply Cap.there)))
local macro_rules | `(tactic| walk_at "cini") => `(tactic| (intro C; repeat (first | exact CIni.nil | apply CIni.loc rfl | apply CIni.cell rfl rfl rfl | refine CIni.free rfl rfl (by walk_at "cap") ?_)))

noncomputable def turnsGo (g : List Int) (count : Int) : Nat → Nat → List Int → Int → Option (List Int)
  | 0, _, _, _ => none
  | n + 1, i, t, left => match gItem g i with
    | none => some (t ++ List.replicate (left - 1).toNat (-1))
    | some size => if size < 0 then none else if size > count then some [] else if left ≤ size then some (t ++ List.replicate (left - 1).toNat (-1))
      else turnsGo g count n (i + 1) (t ++ List.replicate (size - 1).toNat (-1) ++ [1]) (left - size)
noncomputable def turnsOf (g : List Int) (count : Int) : Option (List Int) := turnsGo g count 1000 0 [] count
theorem gErr_never {g : List Int} (h : g[0]? ≠ some 0) : ∀ k, gErr g (gAt g k) = false := by
  intro k
  cases k with
  | zero => show (g[0]? == some 0) = false; simpa using h
  | succ k =>
    have key : ∀ s : GS, gErr g (gOut g s).2 = false := by
      intro s
      cases s with
      | scan j last =>
        cases hx : g[j]? with
        | none => simp [gOut, hx, gErr]
        | some x =>
          by_cases h1 : x = 127
          · simp [gOut, hx, h1, gErr]
          · by_cases h2 : x = 0
            · subst h2; cases last <;> simp [gOut, hx, gErr]
            · simp [gOut, hx, h1, h2, gErr]
      | rep l j => rfl
      | halt => rfl
    exact key _
section
variable {X : Cx} {ρ : Vars} {mg mb' : Str → Option Value}
noncomputable abbrev tv (ru : PV) (count : Int) (t : List Int) (left : Int) (size : VV) : Vars := [("ruler", .loc, .val ru), ("count", .loc, .val (.int count)), ("turns", .loc, .val (.list (iL t))), ("left", .loc, .val (.int left)), ("size", .loc, size)]
theorem fn_turns (G : Pgm X mg mb') (g : List Int) (count : Int) (r : List Int) (hc : 1 ≤ count) (hc' : count ≤ 1000) (h0 : g[0]? ≠ some 0) (hr : turnsOf g count = some r) : FnS X 134 [.list (iL g), .int count] (.list (iL r)) 2 := by
  have big : (2000000 : Nat) < sizeLine := by decide
  refine fn_of G.toGw (fun L => [("ruler", .loc, .val (.list (iL g))), ("count", .loc, .val (.int count)), ("turns", .loc, .no), ("left", .loc, .no), ("size", .loc, .no)]) (xs := ["ruler", "count"]) G.f_turns ?_ (by decide) (by walk_at "kinds") (fun L => by walk_at "ini") (by walk_at "nd") (by walk_at "nn") ?_
  · intro n q doc pm an code ct vs hvs
    match vs, hvs with
    | [u, v], _ => rfl
  · intro A q code L hA
    have hh := hA.handled
    have W := G.toGw.wd hA (st := mb 16) (L := L) (f := 134) (q := q) (code := code)
    let X₁ : Cx := { X with A := A, env := fenv q (mb 16) code L 134 }
    have W₁ : Wd X₁ mg mb' := W
    have G₁ : Pgm X₁ mg mb' := { G with }
    refine rt_cons (ex_assign (p := .list []) (ev_list evs_nil) (by walk_at "put")) (rt_cons (ex_assign (by walk_at "nm") (by walk_at "put")) ?_)
    have rep : ∀ (z : Int), ((List.replicate (z - 1).toNat (PV.int (-1)))) = iL (List.replicate (z - 1).toNat (-1)) := fun z => by simp [iL]
    have loop : ∀ (n i : Nat) (t : List Int) (left : Int), turnsGo g count n i t left = some r → i + n ≤ 1000 → 1 ≤ left → left ≤ count → t.length ≤ i * 1001 →
        ∃ fl ρ', LoopG X₁ (ftgt (stm (fbody (mb 16)) 2)) (fbod (stm (fbody (mb 16)) 2)) (fun i => (gItem g i).map .int) (fun i => i < 1000) n i (tv (.list (iL g)) count t left .no) fl ρ' ∧
          ((fl = .ret (.list (iL r))) ∨ (fl = .next ∧ ∃ t' left', ρ' = tv (.list (iL g)) count t' left' .no ∧ r = t' ++ List.replicate (left' - 1).toNat (-1) ∧ 1 ≤ left' ∧ left' ≤ count ∧ t'.length ≤ 1001000)) := by
      intro n
      induction n with
      | zero => intro i t left h; simp [turnsGo] at h
      | succ n ih =>
        intro i t left h hin h1 h2 hlen
        rw [turnsGo] at h
        have hok : i < 1000 := by omega
        have hlen' : t.length ≤ 1001000 := Nat.le_trans hlen (by omega)
        cases hi : gItem g i with
        | none =>
          rw [hi] at h
          simp only [Option.some.injEq] at h
          exact ⟨_, _, .done hok (by rw [hi]; rfl), .inr ⟨rfl, t, left, rfl, h.symm, h1, h2, hlen'⟩⟩
        | some size =>
          rw [hi] at h
          dsimp only at h
          have hneg : ¬ size < 0 := fun hs => by rw [if_pos hs] at h; cases h
          rw [if_neg hneg] at h
          have hit : (gItem g i).map PV.int = some (.int size) := by rw [hi]; rfl
          have as : Asg X₁ (ftgt (stm (fbody (mb 16)) 2)) (.int size) (tv (.list (iL g)) count t left .no) (tv (.list (iL g)) count t left (.val (.int size))) := asg_name (by walk_at "put")
          by_cases hgt : size > count
          · rw [if_pos hgt] at h
            cases h
            exact ⟨_, _, .ret hok hit as (exs_stop (ex_if (it_cmp (by walk_at "nm") (by walk_at "nm") op_gt) (fun _ => exs_stop (ex_return (p := .list []) (ev_list evs_nil))) (fun hf => absurd hgt (of_decide_eq_false hf)))), .inl rfl⟩
          rw [if_neg hgt] at h
          by_cases hle : left ≤ size
          · rw [if_pos hle] at h
            simp only [Option.some.injEq] at h
            refine ⟨_, _, .brk hok hit as (exs_cons (ex_if (it_cmp (by walk_at "nm") (by walk_at "nm") op_gt) (fun hf => absurd (of_decide_eq_true hf) hgt) (fun _ => exs_nil)) (exs_weak (exs_stop (ex_if (it_cmp (by walk_at "nm") (by walk_at "nm") op_ge) (fun _ => exs_stop ex_break) (fun hf => absurd hle (of_decide_eq_false hf)))) (.same (.same (.same (.same (.drop .nil))))))), .inr ⟨rfl, t, left, rfl, h.symm, h1, h2, hlen'⟩⟩
          · rw [if_neg hle] at h
            have hs1 : size ≤ 1000 := by omega
            obtain ⟨fl, ρ', hl, hfl⟩ := ih (i + 1) _ _ h (by omega) (by omega) (by omega) (by simp only [List.length_append, List.length_replicate, List.length_cons, List.length_nil]; omega)
            refine ⟨fl, ρ', .step hok hit as (exs_cons (ex_if (it_cmp (by walk_at "nm") (by walk_at "nm") op_gt) (fun hf => absurd (of_decide_eq_true hf) hgt) (fun _ => exs_nil)) (exs_cons (ex_if (it_cmp (by walk_at "nm") (by walk_at "nm") op_ge) (fun hf => absurd (of_decide_eq_true hf) hle) (fun _ => exs_nil))
              (exs_cons (ex_assign (p := .list (iL (t ++ List.replicate (size - 1).toNat (-1) ++ [1]))) ?_ (by walk_at "put")) (exs_cons (ex_assign (ev_binop (by walk_at "nm") (by walk_at "nm") op_sub) (by walk_at "put")) (exs_done (.same (.same (.same (.same (.drop .nil)))))))))) hl, hfl⟩
            have e : iL (t ++ List.replicate (size - 1).toNat (-1) ++ [1]) = (iL t ++ List.replicate (size - 1).toNat (PV.int (-1))) ++ [.int 1] := by simp [iL]
            rw [e]
            exact ev_binop (ev_binop (by walk_at "nm") (EvNew.ev (evn_mul (evs_cons (ev_unary ev_int op_neg) evs_nil) (ev_binop (by walk_at "nm") ev_int op_sub) (by omega) (by omega))) (op_ladd (by simp; omega))) (ev_list (evs_cons ev_int evs_nil)) (op_ladd (by simp; omega))
    obtain ⟨fl, ρ', hl, hfl⟩ := loop 1000 0 [] count hr (by omega) hc (Int.le_refl _) (by simp)
    rcases hfl with rfl | ⟨rfl, t', left', rfl, hr', k1, k2, k3⟩
    · exact rt_stop (ex_forG (it_group 1000 G₁ hA (evv_global W₁ G.m_group rfl) (by walk_at "nm") (gErr_never h0)) hl)
    · refine rt_cons (ex_forG (it_group 1000 G₁ hA (evv_global W₁ G.m_group rfl) (by walk_at "nm") (gErr_never h0)) hl) (rt_return ?_)
      rw [hr', show iL (t' ++ List.replicate (left' - 1).toNat (-1)) = iL t' ++ List.replicate (left' - 1).toNat (PV.int (-1)) by simp [iL]]
      exact ev_binop (by walk_at "nm") (EvNew.ev (evn_mul (evs_cons (ev_unary ev_int op_neg) evs_nil) (ev_binop (by walk_at "nm") ev_int op_sub) (by omega) (by omega))) (op_ladd (by simp; omega))
end
end PL
end
noncomputable section
open PySem PySem.W PyProof.Rows
set_option Elab.async false
set_option linter.unusedVariables false
set_option maxRecDepth 100000
set_option pp.maxSteps 600
namespace PL
section
variable {X : Cx} {ρ ρ' ρ'' ρ₃ : Vars}
theorem asg_tuple3 {t₁ t₂ t₃ : Expr} {k : Nat} {pos : Pos} {p q r : PV} (hh : X.A.handled = none) (h1 : Asg X t₁ p ρ ρ') (h2 : Asg X t₂ q ρ' ρ'') (h3 : Asg X t₃ r ρ'' ρ₃) (ha : assignEach [t₁, t₂, t₃] X.env = [(false, assign t₁ X.env), (false, assign t₂ X.env), (false, assign t₃ X.env)] := by rfl) : Asg X (.Tuple [t₁, t₂, t₃] k pos) (.tup [p, q, r]) ρ ρ₃ := fun V O s v Q E F rp hQ => by
  have r0 := rp
  simp only [Cx.R, Rep, Reps] at rp
  obtain ⟨a, vs, rfl, hV, ht, u, us, rfl, ru, w, ws, rfl, rw', z, zs, rfl, rz, rfl⟩ := rp
  refine assign_Tuple_tuple hh ht (by rw [ha]; simp) (by rw [ha]; rfl) fun h' e => ?_
  have g := ExtSize.grow e
  rw [ha]
  refine assignInOrder_cons (h1 V O _ u _ E (F.grow g) (ru.grow g) fun V₁ O₁ s₁ R₁ _ => ?_)
  have rw₁ : X.R V₁ s₁ q w := R₁.rep (F.grow g) (rw'.grow g)
  have rz₁ : X.R V₁ s₁ r z := R₁.rep (F.grow g) (rz.grow g)
  refine assignInOrder_cons (h2 V₁ O₁ s₁ w _ E R₁.frm rw₁ fun V₂ O₂ s₂ R₂ _ => ?_)
  have rz₂ : X.R V₂ s₂ r z := R₂.rep R₁.frm rz₁
  refine assignInOrder_cons (h3 V₂ O₂ s₂ z _ E R₂.frm rz₂ fun V₃ O₃ s₃ R₃ _ => ?_)
  have R := (((Ran.grow F g).trans R₁ F).trans R₂ F).trans R₃ F
  exact assignInOrder_nil (hQ V₃ O₃ s₃ R (R.rep F r0))
/-- x and y, as a value -/
theorem ev_and2 {x y : Expr} {pos : Pos} {p q : PV} {b : Bool} (hx : Ev X x ρ p) (ht : Tr X p b) (h1 : b = false → q = p) (h2 : b = true → Ev X y ρ q) : Ev X (.BoolOp .And [x, y] pos) ρ q := fun V O s Q E F hQ =>
  wpAny_And2 (hx V O s _ E F fun u s₁ g₁ r₁ => ht V s₁ u _ E (F.grow g₁).vol r₁ fun s₂ g₂ => by
    cases b with
    | false => cases h1 rfl; exact hQ u s₂ (g₁.trans g₂) (r₁.grow g₂)
    | true => exact h2 rfl V O s₂ Q E ((F.grow g₁).grow g₂) fun x s₃ g₃ r => hQ x s₃ ((g₁.trans g₂).trans g₃) r)
/-- a chain of two comparisons -/
theorem ev_compare2 {l r₁ r₂ : Expr} {o₁ o₂ : CmpOp} {pos : Pos} {p q r : PV} {b c : Bool} (hl : Ev X l ρ p) (h1 : Ev X r₁ ρ q) (ho1 : Op2 X (compareOp o₁) p q (.bool b)) (h2 : Ev X r₂ ρ r) (ho2 : Op2 X (compareOp o₂) q r (.bool c))
    (hm : lastMarks [o₁, o₂] [r₁, r₂] = false := by with_unfolding_all rfl) : Ev X (.Compare l [o₁, o₂] [r₁, r₂] pos) ρ (.bool (b && c)) := fun V O s Q E F hQ => by
  refine PyProof.Rows.Compare_chain (hl V O s _ E F fun u s₁ g₁ ru => PyProof.Rows.chain_link (h1 V O s₁ _ E (F.grow g₁) fun v s₂ g₂ rv => ho1 V s₂ u v _ E ((F.grow g₁).grow g₂).vol (ru.grow g₂) rv fun x s₃ g₃ rx =>
    tr_bool V s₃ x _ E (((F.grow g₁).grow g₂).grow g₃).vol rx fun s₄ g₄ => ?_)) hm
  have F₄ := (((F.grow g₁).grow g₂).grow g₃).grow g₄
  have g := ((g₁.trans g₂).trans g₃).trans g₄
  cases b with
  | false => cases rx; exact hQ _ s₄ g rfl
  | true =>
    exact PyProof.Rows.chain_last (h2 V O s₄ _ E F₄ fun w s₅ g₅ rw' => ho2 V s₅ v w Q E (F₄.grow g₅).vol (((rv.grow g₃).grow g₄).grow g₅) rw' fun y s₆ g₆ ry => hQ y s₆ ((g.trans g₅).trans g₆) ry)
end
end PL
end
noncomputable section
open PySem PySem.W PyProof.Rows PySem.Builtin.Str
set_option Elab.async false
set_option linter.unusedVariables false
set_option maxRecDepth 100000
set_option pp.maxSteps 600
namespace PL
local macro_rules | `(tactic| walk_at "at") => `(tactic| (repeat (first | exact At.here | exact AtMut.here | apply At.there | apply AtMut.there)))
local macro_rules | `(tactic| walk_at "put") => `(tactic| (repeat (first | exact Put.loc | exact Put.locNo | exact Put.cell | exact PutNew.no | exact PutNew.val | exact PutNew.mu | exact PutMut.here | exact Thaw.here | apply Put.there | apply PutNew.there | apply PutMut.there | apply Thaw.there)))
local macro_rules | `(tactic| walk_at "nm") => `(tactic| exact ev_name (by walk_at "at"))
local macro_rules | `(tactic| walk_at "ini") => `(tactic| (repeat (first | exact Ini.nil | apply Ini.argL rfl | apply Ini.loc rfl | apply Ini.argC rfl rfl | apply Ini.cell rfl rfl)))
local macro_rules | `(tactic| walk_at "nd") => `(tactic| (intro L O; simp [List.filterMap_cons, ownOf]))
local macro_rules | `(tactic| walk_at "nn") => `(tactic| (intro L; simp only [List.map_cons, List.map_nil]; decide))
local macro_rules | `(tactic| walk_at "kinds") => `(tactic| (intro L x hx; (repeat (rcases List.mem_cons.mp hx with h | hx; · (subst h; first | exact .inl rfl | exact .inr ⟨rfl, rfl⟩))); cases hx))
local macro_rules | `(tactic| walk_at "cap") => `(tactic| (repeat (first | exact Cap.cell | exact Cap.free | apply Cap.there)))
local macro_rules | `(tactic| walk_at "cini") => `(tactic| (intro C; repeat (first | exact CIni.nil | apply CIni.loc rfl | apply CIni.cell rfl rfl rfl | refine CIni.free rfl rfl (by walk_at "cap") ?_)))
noncomputable def aheadOf (text : List Nat) (place : Nat) : Int := (((cut (text.take place)).getLast?.getD []).length : Int)
noncomputable def behindOf (text : List Nat) (place : Nat) : Int := (((cut (text.drop (place + 1))).head?.getD []).length : Int)
/-- the columns that a turn leaves unseen -/
noncomputable def unseenSame (down shut : Bool) (ahead behind size : Int) : Bool := if down then decide (0 < ahead.fmod size) else shut && decide (size ≤ ahead.fmod size + behind.fmod size)
theorem take_fit (text : List Nat) (place n : Nat) (h : text.length ≤ n) : (text.take place).length ≤ n := by rw [List.length_take]; omega
section
variable {X : Cx} {ρ : Vars} {mg mb' : Str → Option Value}
theorem cut_last (l : List Nat) : ((cut l).map fun p => PV.str (T p))[(cut l).length - 1]? = some (.str (T ((cut l).getLast?.getD []))) := by
  rw [List.getElem?_map, List.getLast?_eq_getElem?]
  have h : (cut l).length - 1 < (cut l).length := by
    have := List.length_pos_iff.mpr (cut_ne l); omega
  rw [List.getElem?_eq_getElem h]; rfl
theorem cut_first (l : List Nat) : ((cut l).map fun p => PV.str (T p))[0]? = some (.str (T ((cut l).head?.getD []))) := by
  rw [List.getElem?_map]
  cases h : cut l with
  | nil => exact absurd h (cut_ne l)
  | cons p ps => rfl
noncomputable def downOf (row : List Str) (place : Nat) : Bool := (decide ((0 : Int) < (place : Int)) && decide ((place : Int) < (row.length : Int))) && decide ((row.getD place default).cps.toList < (row.getD (place - 1) default).cps.toList)
theorem ev_aheadS {ρ : Vars} {text : List Nat} {place : Nat} (hl : text.length ≤ 1000) {p1 p2 : Pos} {e1 e2 : Expr} (h1 : Ev X e1 ρ (.str (T text))) (h2 : Ev X e2 ρ (.int (place : Int))) : Ev X (.Subscript e1 (.Slice none (some e2) none p1) p2) ρ (.str (T (text.take place))) := by
  rw [show T (text.take place) = T (sl (T text).cps.toList none (some (place : Int))) by rw [sl_to]]
  exact ev_sslice h1 evo_nil (evo_int h2) (by rw [T_len]; exact Nat.le_trans hl (by decide))
theorem ev_behindS {ρ : Vars} {text : List Nat} {place : Nat} (hl : text.length ≤ 1000) {p1 p2 : Pos} {e1 e2 : Expr} (h1 : Ev X e1 ρ (.str (T text))) (h2 : Ev X e2 ρ (.int ((place + 1 : Nat) : Int))) : Ev X (.Subscript e1 (.Slice (some e2) none none p1) p2) ρ (.str (T (text.drop (place + 1)))) := by
  rw [show T (text.drop (place + 1)) = T (sl (T text).cps.toList (some ((place + 1 : Nat) : Int)) none) by rw [sl_from]]
  exact ev_sslice h1 (evo_int h2) evo_nil (by rw [T_len]; exact Nat.le_trans hl (by decide))
end
end PL
end
noncomputable section
open PySem PySem.W PyProof.Rows PySem.Builtin.Str
set_option Elab.async false
set_option linter.unusedVariables false
set_option maxRecDepth 100000
set_option pp.maxSteps 600
namespace PL
local macro_rules | `(tactic| walk_at "at") => `(tactic| (repeat (first | exact At.here | exact AtMut.here | apply At.there | apply AtMut.there)))
local macro_rules | `(tactic| walk_at "put") => `(tactic| (repeat (first | exact Put.loc | exact Put.locNo | exact Put.cell | exact PutNew.no | exact PutNew.val | exact PutNew.mu | exact PutMut.here | exact Thaw.here | apply Put.there | apply PutNew.there | apply PutMut.there | apply Thaw.there)))
local macro_rules | `(tactic| walk_at "nm") => `(tactic| exact ev_name (by walk_at "at"))
local macro_rules | `(tactic| walk_at "ini") => `(tactic| (repeat (first | exact Ini.nil | apply Ini.argL rfl | apply Ini.loc rfl | apply Ini.argC rfl rfl | apply Ini.cell rfl rfl)))
local macro_rules | `(tactic| walk_at "nd") => `(tactic| (intro L O; simp [List.filterMap_cons, ownOf]))
local macro_rules | `(tactic| walk_at "nn") => `(tactic| (intro L; simp only [List.map_cons, List.map_nil]; decide))
local macro_rules | `(tactic| walk_at "kinds") => `(tactic| (intro L x hx; (repeat (rcases List.mem_cons.mp hx with h | hx; · (subst h; first | exact .inl rfl | exact .inr ⟨rfl, rfl⟩))); cases hx))
local macro_rules | `(tactic| walk_at "cap") => `(tactic| (repeat (first | exact Cap.cell | exact Cap.free | apply Cap.there)))
local macro_rules | `(tactic| walk_at "cini") => `(tactic| (intro C; repeat (first | exact CIni.nil | apply CIni.loc rfl | apply CIni.cell rfl rfl rfl | refine CIni.free rfl rfl (by walk_at "cap") ?_)))
noncomputable abbrev trip (t : Int × Int × Int) : PV := .tup [.int t.1, .int t.2.1, .int t.2.2]
noncomputable def unseenL (down shut : Bool) (ahead behind : Int) (cs : List (Int × Int × Int)) : List (Int × Int × Int) := (cs.filter fun t => unseenSame down shut ahead behind t.1).map fun t => (t.1, t.2.2, t.2.2)
noncomputable def unseen (cs : List (Int × Int × Int)) (text : List Nat) (row : List Str) (place : Nat) : List (Int × Int × Int) := unseenL (downOf row place) (decide (9 ∈ text.drop (place + 1))) (aheadOf text place) (behindOf text place) cs
theorem cut_last_mem (l : List Nat) : (cut l).getLast?.getD [] ∈ cut l := by
  rw [List.getLast?_eq_some_getLast (cut_ne l)]; exact List.getLast_mem _
theorem cut_head_mem (l : List Nat) : (cut l).head?.getD [] ∈ cut l := by
  cases h : cut l with
  | nil => exact absurd h (cut_ne l)
  | cons p ps => exact List.mem_cons_self ..
noncomputable abbrev uv (cols text row place : PV) (ahead behind down shut unseen size far near same : VV) : Vars := [("columns", .loc, .val cols), ("text", .loc, .val text), ("row", .loc, .val row), ("place", .loc, .val place), ("ahead", .loc, ahead), ("behind", .loc, behind), ("down", .loc, down), ("shut", .loc, shut), ("unseen", .loc, unseen), ("size", .loc, size), ("far", .loc, far), ("near", .loc, near), ("same", .loc, same)]
section
variable {X : Cx} {ρ : Vars} {mg mb' : Str → Option Value}
theorem fn_unseen (G : Pgm X mg mb') (cs : List (Int × Int × Int)) (text : List Nat) (row : List Str) (place : Nat) (hcs : ∀ t ∈ cs, 0 < t.1) (hn : cs.length ≤ 1000) (hl : text.length ≤ 1000) (hr : row.length ≤ 1000) (hp : place ≤ 1000) :
    FnS X 160 [.list (cs.map trip), .str (T text), .list (row.map .str), .int (place : Int)] (.list ((unseen cs text row place).map trip)) 1 := by
  have big : (200000 : Nat) < sizeLine := by decide
  refine fn_of G.toGw (fun L => uv (.list (cs.map trip)) (.str (T text)) (.list (row.map .str)) (.int (place : Int)) .no .no .no .no .no .no .no .no .no) (xs := ["columns", "text", "row", "place"]) G.f_unseen ?_ (by decide) (by walk_at "kinds") (fun L => by walk_at "ini") (by walk_at "nd") (by walk_at "nn") ?_
  · intro n q doc pm an code ct vs hvs
    match vs, hvs with
    | [u, v, w, z], _ => rfl
  · intro A q code L hA
    have hh := hA.handled
    have W := G.toGw.wd hA (st := mb 20) (L := L) (f := 160) (q := q) (code := code)
    have lenA : ((cut (text.take place)).getLast?.getD []).length ≤ 1000 := Nat.le_trans (cut_part _ _ (cut_last_mem _)) (take_fit text place 1000 hl)
    have lenB : ((cut (text.drop (place + 1))).head?.getD []).length ≤ 1000 := Nat.le_trans (cut_part _ _ (cut_head_mem _)) (by rw [List.length_drop]; omega)
    have cutA := cut_len (text.take place)
    have cutB := cut_len (text.drop (place + 1))
    have tkA := take_fit text place 1000 hl
    have tkB : (text.drop (place + 1)).length ≤ 1000 := by rw [List.length_drop]; omega
    refine rt_cons (ex_assign (p := .int (aheadOf text place)) (ev_call_builtin (id := "len") (evv_builtin W G.n_len G.b_len rfl) (evs_cons (ev_item_neg (ev_split (ev_aheadS hl (by walk_at "nm") (by walk_at "nm")) (by omega)) (ev_unary ev_int op_neg) (by decide) (k := (cut (text.take place)).length - 1) ?_ (cut_last _) ?_) evs_nil) (op_Tlen (by omega))) (by walk_at "put")) ?_
    · rw [List.length_map]
      have := List.length_pos_iff.mpr (cut_ne (text.take place)); omega
    · rw [List.length_map]; omega
    refine rt_cons (ex_assign (p := .int (behindOf text place)) (ev_call_builtin (id := "len") (evv_builtin W G.n_len G.b_len rfl) (evs_cons (ev_item (k := 0) (ev_split (ev_behindS hl (by walk_at "nm") (ev_binop (by walk_at "nm") ev_int op_add)) (by omega)) ev_int (cut_first _) ?_) evs_nil) (op_Tlen (by omega))) (by walk_at "put")) ?_
    · rw [List.length_map]; omega
    refine rt_cons (ex_assign (p := .bool (downOf row place)) ?_ (by walk_at "put")) ?_
    · unfold downOf
      refine ev_and2 (ev_compare2 ev_int (by walk_at "nm") op_lt (ev_call_builtin (id := "len") (evv_builtin W G.n_len G.b_len rfl) (evs_cons (by walk_at "nm") evs_nil) (op_len (by rw [List.length_map]; omega))) op_lt) tr_bool (fun h => ?_) (fun h => ?_)
      · rw [List.length_map] at h; rw [h, List.length_map, h]; rfl
      · have h' : 0 < place ∧ place < row.length := by simpa using h
        have g0 : ∀ k : Nat, k < row.length → (row.map PV.str)[k]? = some (.str (row.getD k default)) := fun k hk => by
          rw [List.getElem?_map, List.getElem?_eq_getElem hk]; simp [List.getD_eq_getElem?_getD, hk]
        rw [show (decide ((0 : Int) < (place : Int)) && decide ((place : Int) < (row.length : Int))) = true by simpa using h', Bool.true_and]
        exact ev_compare (ev_item (k := place - 1) (by walk_at "nm") (by rw [show ((place - 1 : Nat) : Int) = (place : Int) - 1 by omega]; exact ev_binop (by walk_at "nm") ev_int op_sub) (g0 _ (by omega)) (by rw [List.length_map]; omega)) (ev_item (k := place) (by walk_at "nm") (by walk_at "nm") (g0 _ h'.2) (by rw [List.length_map]; omega)) op_sgt
    refine rt_cons (ex_assign (p := .bool (decide (9 ∈ text.drop (place + 1)))) (ev_compare ev_tab (ev_behindS hl (by walk_at "nm") (ev_binop (by walk_at "nm") ev_int op_add)) op_in9) (by walk_at "put")) ?_
    refine rt_cons (ex_assign_new (evn_list evs_nil) (by walk_at "put")) ?_
    obtain ⟨down, hdown⟩ : ∃ b, b = downOf row place := ⟨_, rfl⟩
    obtain ⟨shut, hshut⟩ : ∃ b, b = decide (9 ∈ text.drop (place + 1)) := ⟨_, rfl⟩
    obtain ⟨ah, hah⟩ : ∃ b, b = aheadOf text place := ⟨_, rfl⟩
    obtain ⟨bh, hbh⟩ : ∃ b, b = behindOf text place := ⟨_, rfl⟩
    unfold unseen
    rw [← hdown, ← hshut, ← hah, ← hbh]
    let X₁ : Cx := { X with A := A, env := fenv q (mb 20) code L 160 }
    have loop : ∀ (m acc : List (Int × Int × Int)), (∀ t ∈ m, 0 < t.1) → acc.length + m.length ≤ 10000 → LoopL X₁ (ftgt (stm (fbody (mb 20)) 5)) (fbod (stm (fbody (mb 20)) 5)) (m.map trip)
        (uv (.list (cs.map trip)) (.str (T text)) (.list (row.map .str)) (.int (place : Int)) (.val (.int ah)) (.val (.int bh)) (.val (.bool down)) (.val (.bool shut)) (.mu true (acc.map trip)) .no .no .no .no) .next
        (uv (.list (cs.map trip)) (.str (T text)) (.list (row.map .str)) (.int (place : Int)) (.val (.int ah)) (.val (.int bh)) (.val (.bool down)) (.val (.bool shut)) (.mu true ((acc ++ unseenL down shut ah bh m).map trip)) .no .no .no .no) := by
      intro m
      induction m with
      | nil => intro acc _ _; rw [show acc ++ unseenL down shut ah bh [] = acc by simp [unseenL]]; exact .nil
      | cons t m ih =>
        intro acc hm hlen
        simp only [List.length_cons] at hlen
        have ht := hm t (List.mem_cons_self ..)
        have hm' : ∀ u ∈ m, 0 < u.1 := fun u hu => hm u (List.mem_cons_of_mem _ hu)
        have ht0 : t.1 ≠ 0 := by omega
        refine .cons (p := trip t) (asg_tuple3 hh (asg_name (by walk_at "put")) (asg_name (by walk_at "put")) (asg_name (by walk_at "put")))
          (exs_cons (ex_if (ρ' := (uv (.list (cs.map trip)) (.str (T text)) (.list (row.map .str)) (.int (place : Int)) (.val (.int ah)) (.val (.int bh)) (.val (.bool down)) (.val (.bool shut)) (.mu true (acc.map trip)) (.val (.int t.1)) (.val (.int t.2.1)) (.val (.int t.2.2)) (.val (.bool (unseenSame down shut ah bh t.1))))) (it_value (by walk_at "nm") tr_bool) (fun h => ?_) (fun h => ?_)) (exs_cons (ex_if
            (ρ' := (uv (.list (cs.map trip)) (.str (T text)) (.list (row.map .str)) (.int (place : Int)) (.val (.int ah)) (.val (.int bh)) (.val (.bool down)) (.val (.bool shut)) (.mu true ((acc ++ unseenL down shut ah bh [t]).map trip)) (.val (.int t.1)) (.val (.int t.2.1)) (.val (.int t.2.2)) (.val (.bool (unseenSame down shut ah bh t.1))))) (it_value (by walk_at "nm") tr_bool) (fun h => ?_) (fun h => ?_)) (exs_done (.same (.same (.same (.same (.same (.same (.same (.same (.same (.drop (.drop (.drop (.drop .nil)))))))))))))))) ?_
        · rw [show unseenSame down shut ah bh t.1 = decide (0 < ah.fmod t.1) by rw [h]; rfl]
          exact exs_one (ex_assign (ev_compare (ev_binop (by walk_at "nm") (by walk_at "nm") (op_mod ht0)) ev_int op_gt) (by walk_at "put"))
        · refine exs_one (ex_assign (ev_and2 (by walk_at "nm") tr_bool (fun hs => ?_) (fun hs => ?_)) (by walk_at "put"))
          · rw [h, hs]; rfl
          · rw [show unseenSame down shut ah bh t.1 = decide (t.1 ≤ ah.fmod t.1 + bh.fmod t.1) by rw [h, hs]; rfl]
            exact ev_compare (ev_binop (ev_binop (by walk_at "nm") (by walk_at "nm") (op_mod ht0)) (ev_binop (by walk_at "nm") (by walk_at "nm") (op_mod ht0)) op_add) (by walk_at "nm") op_ge
        · refine exs_one (ex_append (p := trip (t.1, t.2.2, t.2.2)) (ev_tuple (evs_cons (by walk_at "nm") (evs_cons (by walk_at "nm") (evs_cons (by walk_at "nm") evs_nil)))) (by walk_at "at") (by rw [List.length_map]; omega) ?_)
          rw [show (acc ++ unseenL down shut ah bh [t]).map trip = acc.map trip ++ [trip (t.1, t.2.2, t.2.2)] by simp [unseenL, h]]
          walk_at "put"
        · rw [show acc ++ unseenL down shut ah bh [t] = acc by simp [unseenL, h]]; exact exs_nil
        · have e : acc ++ unseenL down shut ah bh (t :: m) = (acc ++ unseenL down shut ah bh [t]) ++ unseenL down shut ah bh m := by
            simp only [unseenL, List.filter_cons, List.append_assoc]
            split <;> simp
          rw [e]
          refine ih _ hm' ?_
          have : (unseenL down shut ah bh [t]).length ≤ 1 := by unfold unseenL; rw [List.length_map]; exact List.length_filter_le _ _
          rw [List.length_append]; omega
    refine rt_cons (ex_forLT (it_listT hh (by walk_at "nm") (fun p hp => by obtain ⟨t, _, rfl⟩ := List.mem_map.mp hp; exact ⟨_, rfl⟩)) (loop cs [] hcs (by simp; omega))) ?_
    rw [List.nil_append]
    exact rt_thaw (x := "unseen") (by walk_at "put") (rt_return (by walk_at "nm"))
end
end PL
end
noncomputable section
open PySem PySem.W PyProof.Rows
set_option Elab.async false
set_option linter.unusedVariables false
set_option maxRecDepth 100000
set_option pp.maxSteps 600
namespace PL
/-! the heap without these places -/
noncomputable def hide (fr : List Addr) (h : Heap) : Heap := { h with objs := h.objs.mapIdx fun i o => if i ∈ fr then { o with data := .freed } else o }
theorem get_hide_in {fr : List Addr} {h : Heap} {b : Addr} (hb : b ∈ fr) : (hide fr h).get? b = none := by
  unfold Heap.get? hide
  simp only [Array.getElem?_mapIdx]
  cases h.objs[b]? with
  | none => rfl
  | some o => simp [hb]
theorem get_hide_off {fr : List Addr} {h : Heap} {b : Addr} (hb : b ∉ fr) : (hide fr h).get? b = h.get? b := by
  unfold Heap.get? hide
  simp only [Array.getElem?_mapIdx]
  cases h.objs[b]? with
  | none => rfl
  | some o => simp [hb]

/-- off the outer frames all stands; there the names stand -/
structure GrowX (fr : List Addr) (s s' : Shared) : Prop where
  keep : ∀ b o, b ∉ fr → s.heap.get? b = some o → s'.heap.get? b = some o
  ns : ∀ L ∈ fr, ∀ m, s.heap.Ns L m → s'.heap.Ns L m
  os : s'.os = s.os
  gens : GG s.gens s'.gens
theorem Grow.x {s s' : Shared} (g : Grow s s') (fr : List Addr) : GrowX fr s s' := ⟨fun b o _ e => g.keep b o e, fun L _ m hn => hn.keeps g.keep, g.os, g.gens⟩
theorem GrowX.trans {fr : List Addr} {a b c : Shared} (x : GrowX fr a b) (y : GrowX fr b c) : GrowX fr a c := ⟨fun p o hp e => y.keep p o hp (x.keep p o hp e), fun L hL m hn => y.ns L hL m (x.ns L hL m hn), y.os.trans x.os, x.gens.trans y.gens⟩
theorem GrowX.nil {s s' : Shared} (g : GrowX [] s s') : Grow s s' := ⟨fun b o e => g.keep b o (by simp) e, g.os, g.gens⟩

/-- an exception on its way: its arguments, and what stands since s₀ -/
structure Air (P : Heap → Prop) (base : Heap) (fr : List Addr) (t : Addr) (as : List Value) (s₀ s : Shared) : Prop where
  p : P s.heap
  tup : s.heap.TupAt t as
  nt : base.get? t = none
  ns : ∀ L ∈ fr, ∀ m, s₀.heap.Ns L m → s.heap.Ns L m
  os : s.os = s₀.os
  gens : GG s₀.gens s.gens
section
variable {M : Model} {A : Around} {E : Value → Shared → Prop} {base : Heap} {fr : List Addr} {e t L : Addr} {as : List Value} {s₀ s : Shared} {env : Env} {outer : List Env} {cls : Value}
theorem Air.step {P P' : Heap → Prop} (x : Air P base fr t as s₀ s) {h' : Heap} (p : P' h') (up : s.heap.UpToSlots h') : Air P' base fr t as s₀ { s with heap := h' } :=
  ⟨p, x.tup.of_slots up, x.nt, fun L hL m hn => up.ns (x.ns L hL m hn), x.os, x.gens⟩
theorem air_looks {Q : Unit → Shared → Prop} (hfr : A.frames = some (env :: outer)) (hf : env.frame = some L) (x : Air (Heap.FlyingW base (env :: outer) e cls (.ref t)) base fr t as s₀ s)
    (hQ : ∀ s', Air (Heap.HeldW base (env :: outer) e cls (.ref t) L) base fr t as s₀ s' → Q () s') : wpAny M A (noteFrame (.ref e) env) Q E s :=
  wpAny_looks_onW hfr hf x.p fun h' hh up => hQ _ (x.step hh up)
theorem air_lands {Q : Unit → Shared → Prop} {l : List Env} (x : Air (Heap.HeldW base l e cls (.ref t) L) base fr t as s₀ s)
    (hQ : ∀ s', Air (Heap.FlyingW base l e cls (.ref t)) base fr t as s₀ s' → Q () s') : wpAny M A (setFlight (.ref e) none) Q E s :=
  wpAny_landsW x.p fun h' hh up => hQ _ (x.step hh up)
theorem air_flies {Q : Unit → Shared → Prop} {l : List Env} (x : Air (Heap.FlyingW base l e cls (.ref t)) base fr t as s₀ s)
    (hQ : ∀ s', Air (Heap.FlyingW base l e cls (.ref t)) base fr t as s₀ s' → Q () s') : wpAny M A (setFlight (.ref e) none) Q E s := by
  obtain ⟨k1, k2, k3, k4⟩ := id x.p
  exact wpAny_setFlight_noneW k1 k3 k4.at fun h' a b c d => hQ _ (x.step ⟨a, k2, b, c⟩ fun p o ho hn => ⟨o.slots, d p o ho hn⟩)
theorem air_again {Q : Unit → Shared → Prop} {l : List Env} (hf : env.frame = some L) (x : Air (Heap.HeldW base l e cls (.ref t) L) base fr t as s₀ s) (hQ : Q () s) : wpAny M A (noteFrame (.ref e) env) Q E s :=
  wpAny_noteFrame_againW hf x.p.2.2.2 hQ
theorem air_back {Q : Unit → Shared → Prop} {l : List Env} (hf : env.frame = some L) (x : Air (Heap.HeldW base l e cls (.ref t) L) base fr t as s₀ s)
    (hQ : ∀ s', Air (Heap.HeldW base l e cls (.ref t) L) base fr t as s₀ s' → Q () s') : wpAny M A (do
      if (← field (.ref e) 1) == .none then unsupported "frame.own-activation:exception-without-traceback"
      setFlight (.ref e) env.frame) Q E s := by
  obtain ⟨k1, k2, k3, oe, vs, T, oT, ts, he, hcls, hd, h1, hnT, hTe, hT, hdT, h3⟩ := id x.p
  refine wpAny_bind (wpAny_field he hd h1 ?_)
  rw [if_neg (show ¬ ((Value.ref T == Value.none) = true) from by simp)]
  rw [hf]
  have hsz3 : 3 < ts.size := (Array.getElem?_eq_some_iff.mp h3).1
  have other : ∀ b, b ≠ T → (s.heap.update T (Obj.mapFields (·.setIfInBounds 3 (rawInt L)))).get? b = s.heap.get? b := fun b hb => Heap.get?_update_other _ _ (Ne.symm hb)
  have noRec : ∀ b o, s.heap.get? b = some o → (∀ vs, o.data ≠ .fields vs) → b ≠ T := fun b o hb hnf q => by rw [q, hT] at hb; cases hb; exact hnf ts hdT
  unfold setFlight
  refine wpAny_bind (wpAny_field he hd h1 ?_)
  rw [if_pos (show (Value.ref T != Value.none) = true from by simp)]
  refine wpAny_setField hT hdT hsz3 (hQ _ (x.step ⟨fun b o hbo => (other b fun q => by rw [q, hnT] at hbo; cases hbo).trans (k1 b o hbo), k2, k3.of_keeps fun b o hb hnf => ⟨o, (other b (noRec b o hb hnf)).trans hb, rfl⟩, ?_⟩ fun b o hb hnf => ⟨o.slots, (other b (noRec b o hb hnf)).trans hb⟩))
  exact ⟨oe, vs, T, _, _, (other e (Ne.symm hTe)).trans he, hcls, hd, h1, hnT, hTe, Heap.get?_update_self _ hT (Obj.isFreed_of_fields (Obj.data_mapFields hdT _)), Obj.data_mapFields hdT _, by simp [hsz3]⟩
theorem air_leaves {Q : Unit → Shared → Prop} (hf : env.frame = some L) (x : Air (Heap.HeldW base (env :: outer) e cls (.ref t) L) base fr t as s₀ s)
    (hQ : ∀ s', Air (Heap.FlyingW base outer e cls (.ref t)) base fr t as s₀ s' → Q () s') : wpAny M A (leaving env (.ref e)) Q E s := by
  unfold leaving
  refine wpAny_bind (air_again hf x ?_)
  refine air_lands x fun s' y => hQ s' ?_
  obtain ⟨k1, k2, ⟨_, _, k3⟩, k4⟩ := id y.p
  exact { y with p := ⟨k1, k2, k3, k4⟩ }
/-- an exception made and noted at its place -/
theorem air_first {X : String} {h₁ : Heap} {Q : Unit → Shared → Prop} (hfr : A.frames = some (env :: outer)) (hf : env.frame = some L) (hl : s.heap.FunFrames base (env :: outer)) (hkb : base.StaysIn s.heap) (hm : Heap.MadeExc s.heap h₁ e X as)
    (hns : ∀ L ∈ fr, ∀ m, s₀.heap.Ns L m → s.heap.Ns L m) (hos : s.os = s₀.os) (hg : GG s₀.gens s.gens)
    (hQ : ∀ t s', Air (Heap.HeldW base (env :: outer) e (.type X) (.ref t) L) base fr t as s₀ s' → Q () s') : wpAny M A (noteFrame (.ref e) env) Q E { s with heap := h₁ } := by
  obtain ⟨t, he, htn, ht⟩ := hm.there
  have fresh : ∀ b, s.heap.get? b = none → base.get? b = none := fun b hb => by
    cases hq : base.get? b with
    | none => rfl
    | some o' => have := hkb b o' hq; rw [hb] at this; cases this
  unfold noteFrame
  simp only [hf]
  refine wpAny_bind (wpAny_field he rfl (x := .none) rfl ?_)
  rw [if_neg (by decide)]
  refine wpAny_entryW (s := { s with heap := h₁ }) (a0 := .ref t) hfr (hl.of_keeps fun b o hb _ => ⟨o, hm.keeps b o hb, rfl⟩) hf he (fun b o hb => hm.keeps b o (hkb b o hb)) (fresh e hm.new) rfl (by simp) rfl fun h' hN => ?_
  obtain ⟨k1, k2, k3, k4⟩ := hN
  have up : h₁.UpToSlots h' := k4
  exact hQ t _ ⟨⟨k1, fresh e hm.new, k2, k3⟩, Heap.TupAt.of_slots ⟨_, _, ht, rfl, rfl⟩ up, fresh t htn, fun L hL m hn => up.ns ((hns L hL m hn).keeps hm.keeps), hos, hg⟩
end
end PL
end
noncomputable section
open PySem PySem.W PyProof.Rows PySem.Builtin.Str
set_option Elab.async false
set_option linter.unusedVariables false
set_option maxRecDepth 100000
set_option pp.maxSteps 600
namespace PL
local macro_rules | `(tactic| walk_at "at") => `(tactic| (repeat (first | exact At.here | exact AtMut.here | apply At.there | apply AtMut.there)))
local macro_rules | `(tactic| walk_at "put") => `(tactic| (repeat (first | exact Put.loc | exact Put.locNo | exact Put.cell | exact PutNew.no | exact PutNew.val | exact PutNew.mu | exact PutMut.here | exact Thaw.here | apply Put.there | apply PutNew.there | apply PutMut.there | apply Thaw.there)))
local macro_rules | `(tactic| walk_at "nm") => `(tactic| exact ev_name (by walk_at "at"))
local macro_rules | `(tactic| walk_at "ini") => `(tactic| (repeat (first | exact Ini.nil | apply Ini.argL rfl | apply Ini.loc rfl | apply Ini.argC rfl rfl | apply Ini.cell rfl rfl)))
local macro_rules | `(tactic| walk_at "nd") => `(tactic| (intro L O; simp [List.filterMap_cons, ownOf]))
local macro_rules | `(tactic| walk_at "nn") => `(tactic| (intro L; simp only [List.map_cons, List.map_nil]; decide))
local macro_rules | `(tactic| walk_at "kinds") => `(tactic| (intro L x hx; (repeat (rcases List.mem_cons.mp hx with h | hx; · (subst h; first | exact .inl rfl | exact .inr ⟨rfl, rfl⟩))); cases hx))
local macro_rules | `(tactic| walk_at "cap") => `(tactic| (repeat (first | exact Cap.cell | exact Cap.free | apply Cap.there)))
local macro_rules | `(tactic| walk_at "cini") => `(tactic| (intro C; repeat (first | exact CIni.nil | apply CIni.loc rfl | apply CIni.cell rfl rfl rfl | refine CIni.free rfl rfl (by walk_at "cap") ?_)))
theorem FunFrames.at {h h' base : Heap} : ∀ {l : List Env}, (∀ b ∈ l.filterMap (·.frame), ∀ o, h.get? b = some o → h'.get? b = some o) → h.FunFrames base l → h'.FunFrames base l
  | [], _, _ => trivial
  | env :: l, k, hl => by
    obtain ⟨h1, ⟨L, o, hf, hn, ho, hd⟩, hr⟩ := hl
    have hm : (env :: l).filterMap (·.frame) = L :: l.filterMap (·.frame) := by rw [List.filterMap_cons, hf]
    rw [hm] at k
    exact ⟨h1, ⟨L, o, hf, hn, k L (List.mem_cons_self ..) o ho, hd⟩, FunFrames.at (fun b hb => k b (List.mem_cons_of_mem _ hb)) hr⟩
theorem op_is_none {X : Cx} : Op2 X (compareOp .Is) .none .none (.bool true) := fun V s u v Q E vol ru rv hQ => by
  cases ru; cases rv; exact PyProof.Rows.is_none_none (hQ _ _ (.refl s) mk_bool)
/-- how the refusing generator ends -/
noncomputable abbrev eR (base : Heap) (fr : List Addr) (outer : List Env) (s₀ : Shared) : GenEnd := fun _ _ r s₁ => ∃ e t tk, r = .error (.ref e) ∧ Air (Heap.FlyingW base outer e (.type "ValueError") (.ref t)) base fr t [.str "invalid grouping" tk] s₀ s₁
section
variable {X : Cx} {mg mb' : Str → Option Value} {q : Str} {code : Value} {L ax : Addr} {vs : List Value} {g : List Int} {A : Around}
noncomputable abbrev gIf0 : Stmt := stm glb 1
theorem raise_seg {Y : Protocol} {base : Heap} {outer : List Env} {t0 : Tok} (hh : A.handled = none) (hfr : A.frames = some outer) (G : Pgm X mg mb') {s : Shared} (hkb : ∀ b o, X.base.get? b = some o → s.heap.get? b = some o) (hb : X.base.get? L = none) {m : Str → Option Value} (hn : s.heap.Ns L m) (hm : m "grouping" = some (.ref ax))
    (hl : s.heap.IsList ax (Value.int 0 t0 :: vs).toArray) (haL : ax ≠ L) (hst : base.StaysIn s.heap) (hbL : base.get? L = none) (hff : s.heap.FunFrames base outer) (hLo : L ∉ outer.filterMap (·.frame)) :
    Seg X.M A (eR base (outer.filterMap (·.frame)) outer s) Y 0 s (.func (fbody (mb 11)) (genv q code L)) (X.M.den (.func (fbody (mb 11)) (genv q code L))) [] s := by
  refine seg_func (seg_execs_cons (seg_st ?_))
  refine wpAny_Assign_Name (wpAny_Constant_none (wpAny_storeName_local rfl hn fun h' hn' hs => ?_)) rfl
  have hLs : L < s.heap.objs.size := hn.lt
  have haxs : ax < s.heap.objs.size := by obtain ⟨o, e, _⟩ := hl; exact Heap.lt_size e
  have up : ∀ b o, b ≠ L → s.heap.get? b = some o → h'.get? b = some o := fun b o hb e => (hs.2 b hb).trans e
  refine seg_execs_cons (seg_For (fun _ => rfl) ?_)
  refine wpAny_Name (wpAny_loadName_local rfl rfl hn' (v := .ref ax) (by rw [if_neg (by decide)]; exact hm) ?_) (by decide)
  have hl' : h'.IsList ax (Value.int 0 t0 :: vs).toArray := hl.at fun o e => up ax o haL e
  refine wpAny_pyIter_list hl' fun p => ?_
  have hsz : h'.objs.size = s.heap.objs.size := hs.1
  rw [hsz]
  generalize hI : s.heap.objs.size = I
  have hdead : s.heap.get? I = none := by
    cases e : s.heap.get? I with
    | none => rfl
    | some o => exact absurd (Heap.lt_size e) (by rw [hI]; exact Nat.lt_irrefl _)
  have hbI : X.base.get? I = none := by
    cases e : X.base.get? I with
    | none => rfl
    | some o => rw [hkb _ o e] at hdead; cases hdead
  have hLI : L ≠ I := hI ▸ Nat.ne_of_lt hLs
  have hax : ax ≠ I := hI ▸ Nat.ne_of_lt haxs
  have hpush : ∀ {b : Addr} {o : Obj}, h'.get? b = some o → (h'.push { cls := .type "list_iterator", data := .fields #[.ref ax, .int 0 0] }).get? b = some o := fun e => Heap.get?_push_of_some _ e
  generalize hs₁ : ({ heap := h'.push { cls := .type "list_iterator", data := .fields #[.ref ax, .int 0 0] }, gens := s.gens, drawn := s.drawn, toks := s.toks + 1, os := s.os } : Shared) = s₁
  have hG : GI X (genv q code L) L I ax (Value.int 0 t0 :: vs) (lastV none) .no 0 s₁ := by
    subst hs₁
    exact ⟨fun b o e => hpush (up b o (fun h => by rw [h, hb] at e; cases e) (hkb b o e)), ⟨_, hn'.keeps fun b o e => hpush e, ⟨.none, if_pos rfl, rfl⟩, trivial⟩, ⟨_, by rw [← hI, ← hsz]; exact Heap.get?_push_size _ rfl, rfl, rfl⟩, hl'.at fun o e => hpush e⟩
  have hr : Rel L I s s₁ := by subst hs₁; exact ⟨fun b o h1 h2 e => hpush (up b o h1 e), rfl, .refl _⟩
  have hho : ∀ c fs', fs' = [] ∨ (∃ p, fs' = gFs (genv q code L) p) → (A.over c fs').handled = none := over_none hh
  let Xo : Cx := { X with A := A.over (.forLoop (ftgt gFor) (.ref I) glb [] (genv q code L)) (gFs (genv q code L) p), env := genv q code L }
  have hho : Xo.A.handled = none := hho _ _ (.inr ⟨p, rfl⟩)
  have hfo : Xo.A.frames = some (genv q code L :: outer) := by
    show pushEnvs [] (pushEnvs [genv q code L] A.frames) = _
    rw [hfr]; rfl
  have W : Wd Xo mg mb' := ⟨G.g, G.b, G.lim, rfl, hho⟩
  clear hs₁ hn' hs hl' up hsz hpush
  refine seg_forLoop (fun _ => rfl) fun E => ?_
  refine wpAny_pyNext_list_item hG.it hG.li (x := .int 0 t0) (by simp) fun h' hit hs => ?_
  have up : ∀ b o, b ≠ I → s₁.heap.get? b = some o → h'.get? b = some o := fun b o hb e => (hs.2 b hb).trans e
  have hr₁ : Rel L I s₁ { s₁ with heap := h' } := ⟨fun b o h1 h2 e => up b o h2 e, rfl, .refl _⟩
  have G₁ : GI X (genv q code L) L I ax (Value.int 0 t0 :: vs) (lastV none) .no 1 { s₁ with heap := h' } :=
    ⟨fun b o e => up b o (fun h => by rw [h, hbI] at e; cases e) (hG.kb b o e), let ⟨m, hn, r⟩ := hG.ns; ⟨m, hn.at' fun o e => up L o hLI e, r⟩, hit, hG.li.at fun o e => up ax o hax e⟩
  have F₁ : Xo.F (fun b => b = L) (fun _ => 0) (GVars (lastV none) .no) { s₁ with heap := h' } := G₁.frm rfl rfl rfl rfl hb (lastV_flat none) trivial
  have owG : ∀ (O : Str → Addr) (l i : VV), FlatV l → FlatV i → PL.owned Xo.env O (GVars l i) = [L] := fun O l i fl fi => by
    unfold PL.owned
    cases l <;> cases i <;> first | exact fl.elim | exact fi.elim | (simp [List.filterMap_cons, ownOf]; rfl)
  refine (asg_name (X := Xo) (by walk_at "put") : Asg Xo (ftgt gFor) (.int 0) (GVars (lastV none) .no) (GVars (lastV none) (.val (.int 0)))) _ _ _ (.int 0 t0) _ _ F₁ ⟨t0, rfl⟩ fun V₂ O₂ s₂ R₂ _ => ?_
  have k₂ : ∀ b o, b ≠ L → h'.get? b = some o → s₂.heap.get? b = some o := fun b o hb e => R₂.step.keep b o (by rw [owG _ (lastV none) .no (lastV_flat none) trivial]; simpa using hb) e
  have G₂ : GI X (genv q code L) L I ax (Value.int 0 t0 :: vs) (lastV none) (.val (.int 0)) 1 s₂ := GI.of R₂.frm rfl (lastV_flat none) trivial (hit.at fun o e => k₂ I o hLI.symm e) (G₁.li.at fun o e => k₂ ax o haL e)
  have hr₂ : Rel L I s s₂ := (hr.trans hr₁).trans ⟨fun b o h1 h2 e => k₂ b o h1 e, R₂.step.os, R₂.step.gens⟩
  have F₂ : Xo.F (fun b => b = L) (fun _ => 0) (GVars (lastV none) (.val (.int 0))) s₂ := G₂.frm rfl rfl rfl rfl hb (lastV_flat none) trivial
  clear F₁ G₁ R₂ hr₁ hG hr
  refine seg_execs_cons (seg_If ?_)
  refine (it_cmp (X := Xo) (by walk_at "nm") (ev_global (p := .int 127) W G.m_char (fun V s => ⟨247, rfl⟩) rfl) op_eq : It Xo _ (GVars (lastV none) (.val (.int 0))) ((0 : Int) == 127)) _ _ s₂ _ _ F₂ fun s₃ g₃ => ?_
  rw [if_neg (by decide)]
  refine seg_execs_nil (seg_execs_cons (seg_If ?_))
  refine (it_cmp (X := Xo) (by walk_at "nm") ev_int op_eq : It Xo _ (GVars (lastV none) (.val (.int 0))) ((0 : Int) == 0)) _ _ s₃ _ _ (F₂.grow g₃) fun s₄ g₄ => ?_
  rw [if_pos (by decide)]
  refine seg_execs_cons (seg_If ?_)
  refine (it_cmp (X := Xo) (by walk_at "nm") ev_none op_is_none : It Xo _ (GVars (lastV none) (.val (.int 0))) true) _ _ s₄ _ _ ((F₂.grow g₃).grow g₄) fun s₅ g₅ => ?_
  rw [if_pos (by decide)]
  have F₅ := ((F₂.grow g₃).grow g₄).grow g₅
  have hr₅ := hr₂.trans ((g₃.trans g₄).trans g₅).rel
  refine seg_execs_cons (seg_st ?_)
  refine wpAny_Raise_call PySem.F.excCall_ValueError PySem.F.excRaise_ValueError hho (by rfl) ?_
  refine (evv_builtin (X := Xo) W G.n_verr G.b_verr rfl) _ _ s₅ _ _ F₅ ⟨rfl, ?_⟩
  refine Calls.evalArgs_plain ?_
  refine (evs_cons (X := Xo) ev_str evs_nil) _ _ s₅ _ _ F₅ fun us s₆ g₆ rs => ⟨rfl, ?_, fun h₇ e hmade => ?_⟩
  · show us.length ≤ sizeLine
    have := rs.length
    rw [this]; decide
  simp only [Cx.Rs, Reps] at rs
  obtain ⟨_, _, rfl, ⟨tk, rfl⟩, rfl⟩ := rs
  have hr₆ := hr₅.trans g₆.rel
  obtain ⟨m₆, hn₆, _⟩ := (F₅.grow g₆).vars
  have stays : base.StaysIn s₆.heap := fun b o e => hr₆.keep b o (fun h => by rw [h, hbL] at e; cases e) (fun h => by rw [h] at e; rw [hst _ _ e] at hdead; cases hdead) (hst b o e)
  have offI : ∀ b ∈ outer.filterMap (·.frame), b ≠ L ∧ b ≠ I := fun b hb => ⟨fun h => hLo (h ▸ hb), fun h => by obtain ⟨_, o, ho, _⟩ := hff.mem hb; rw [h, hdead] at ho; cases ho⟩
  have ff₆ : s₆.heap.FunFrames base (genv q code L :: outer) := Heap.FunFrames.cons (by show (fscope (mb 11)).kind ≠ .module; decide) rfl hn₆ hbL (FunFrames.at (fun b hb o e => hr₆.keep b o (offI b hb).1 (offI b hb).2 e) hff)
  refine seg_wrap (wpAny_bind (air_first (s₀ := s) (fr := outer.filterMap (·.frame)) hfo rfl ff₆ stays hmade (fun L' hL' m' hm' => hm'.at' fun o e => hr₆.keep L' o (offI L' hL').1 (offI L' hL').2 e) hr₆.os hr₆.gens fun t s₈ air => wpAny_theTreesLotGoes ?_))
  show Seg X.M A _ Y 0 s _ (leafOf (.error (.ref e))) (gFs (genv q code L) p) s₈
  refine seg_leaf _ ?_
  show Seg X.M A _ Y 0 s _ (Sem.wrap (gK2 (genv q code L)) (gH0 (genv q code L)) id id (((do
      if (← field (.ref e) 1) == .none then unsupported "frame.own-activation:exception-without-traceback"
      setFlight (.ref e) (genv q code L).frame : Sem Unit)).bind fun _ => (.raise (.ref e) : Sem Flow))) [] s₈
  rw [Sem.bind_eq_wrap, Sem.wrap_wrap]
  refine seg_wrap (air_back rfl air fun s₉ air₉ => ?_)
  show Seg X.M A _ Y 0 s _ ((leaving (genv q code L) (.ref e)).wrap (fun _ => .raise (.ref e)) .raise id id) [] s₉
  refine seg_wrap (air_leaves rfl air₉ fun s₁₀ air₁₀ => ?_)
  show Seg X.M A _ Y 0 s _ (leafOf (.error (.ref e))) [] s₁₀
  exact seg_end _ ⟨e, t, tk, rfl, air₁₀⟩
/-- a generator that raises as it is asked -/
theorem pyNext_gen_raise {prog : Program} {w : World} {A : Around} {a : Addr} {gn n : Nat} {gs : GenState} {E : Value → Shared → Prop} {s : Shared} {base : Heap} {fr : List Addr} {outer : List Env} {s₀ : Shared} {Y : Protocol} {Q : Option Value → Shared → Prop}
    (hl : s.heap.NoLimit) (hroom : A.depth < recursionLimit) (hg : s.heap.IsGen a gn) (hgs : s.gens[gn]? = some gs) (hbase : ∀ o, s.heap.get? a = some o → base.get? a = some o)
    (hgo : gs.Goes (model prog w) A.in1 (eR base fr outer s₀) Y n (.send .none) (s.setGen gn .running)) (hY : ∀ m t v u k, ¬ Y m t v u k)
    (hE : ∀ e t tk s₁, Air (Heap.FlyingW base outer e (.type "ValueError") (.ref t)) base fr t [.str "invalid grouping" tk] s₀ s₁ → E (.ref e) (s₁.setGen gn .finished)) :
    wpAny (model prog w) A (pyNext (.ref a)) Q E s := by
  unfold pyNext
  refine wpAny_bind (wpAny_attempt (wpAny_callSpecial?_slot (name := Str.ofString "__next__") hg.typeIs slot_gen_next
    (wpAny_call_entry slot_gen_next hg.typeIs entry_gen_next ?_ (args_gen_next _))))
  show wpAny _ A.in1 (Builtin.Generator.genWake (.ref a) (.send .none)) _ _ s
  unfold Builtin.Generator.genWake
  refine wpAny_bind (wpAny_holding (wpAny_genNumber hg (wpAny_bind (wpAny_genState hgs ?_))))
  cases gs with
  | running => exact hgo.elim
  | finished => exact hgo.elim
  | _ =>
    refine wpAny_bind (wpAny_roomToWake hl hroom ?_)
    show wpAny _ A.in1 (.resume gn (.send .none) [] _) _ _ s
    refine wpAny_resumeQ hgs hgo (fun x s₁ hx => ?_) (fun v s₁ gs' hb hv => absurd hv (hY _ _ _ _ _))
    obtain ⟨e, t, tk, rfl, air⟩ := hx
    obtain ⟨o, nm, qn, ho, hcls, hdat, hsl⟩ := hg
    have ho₁ : (s₁.setGen gn .finished).heap.get? a = some o := air.p.1 _ _ (hbase o ho)
    obtain ⟨ob, hob, hobc⟩ := air.p.there
    have hx : (s₁.setGen gn .finished).TypeIs (.ref e) "ValueError" := ⟨ob, hob, hobc⟩
    have hsub : isSubtype (.type "ValueError") (.type "StopIteration") = pure false := by rw [isSubtype_type]; kernel_rfl
    show wpAny _ A.in1 (Builtin.Generator.genLeft (.ref a) (.ref e)) _ _ _
    unfold Builtin.Generator.genLeft Builtin.Generator.madeByALambda Builtin.Generator.genEscaped
    refine wpAny_bind (wpAny_bind (wpAny_load ho₁ ?_))
    rw [hcls, hdat]
    refine wpAny_pure ?_
    rw [show (Value.type "generator" == Value.type "generator" && (match (Data.fields #[Value.int (gn : Int) 0, nm, qn] : Data) with | .fields vs => vs[3]? == some (Value.bool true) | _ => false)) = false by simp]
    refine wpAny_bind (wpAny_isInstance (T := "ValueError") (b := false) hx hsub ?_)
    simp only [Bool.and_false, Bool.false_eq_true, if_false]
    refine wpAny_bind (wpAny_isInstance (T := "ValueError") (b := false) hx hsub ?_)
    simp only [Bool.not_false, if_true]
    refine wpAny_bind (wpAny_throw ?_)
    refine wpAny_bind (wpAny_isInstance (T := "ValueError") (b := false) hx hsub ?_)
    simp only [Bool.false_eq_true, if_false]
    exact wpAny_throw (hE e t tk s₁ air)
end
end PL
end
noncomputable section
open PySem PySem.W PyProof.Rows
set_option Elab.async false
set_option linter.unusedVariables false
set_option maxRecDepth 100000
set_option pp.maxSteps 600
namespace PL
noncomputable abbrev frOf (l : List Env) : List Addr := l.filterMap (·.frame)
/-- a run that may ready the outer frames -/
structure RanX (X : Cx) (fr : List Addr) (V : Addr → Prop) (O : Str → Addr) (ρ : Vars) (s : Shared) (V' : Addr → Prop) (O' : Str → Addr) (ρ' : Vars) (s' : Shared) : Prop where
  frm : X.F V' O' ρ' s'
  vext : VExt (owned X.env O ρ) V V' s
  fresh : Fresh (owned X.env O ρ) (owned X.env O' ρ') s
  keep : ∀ b o, b ∉ owned X.env O ρ → b ∉ fr → s.heap.get? b = some o → s'.heap.get? b = some o
  ns : ∀ L ∈ fr, ∀ m, s.heap.Ns L m → s'.heap.Ns L m
  os : s'.os = s.os
  gens : GG s.gens s'.gens
  frees : ∀ x c q, (x, VK.free c, q) ∈ ρ' → ∃ q', (x, VK.free c, q') ∈ ρ
/-- how the outer frames stand -/
noncomputable def OutV (X : Cx) (fr : List Addr) (V : Addr → Prop) (O : Str → Addr) (ρ : Vars) (s : Shared) : Prop := ∀ L ∈ fr, V L ∧ L ∉ owned X.env O ρ ∧ ∃ m, s.heap.Ns L m
noncomputable def FunEnvs (l : List Env) : Prop := ∀ env ∈ l, env.scope.kind ≠ .module ∧ ∃ L, env.frame = some L
section
variable {X : Cx} {fr : List Addr} {V V' : Addr → Prop} {O O' : Str → Addr} {ρ ρ' ρ'' : Vars} {s s' : Shared}
theorem Ran.x (R : Ran X V O ρ s V' O' ρ' s') (ho : OutV X fr V O ρ s) : RanX X fr V O ρ s V' O' ρ' s' :=
  ⟨R.frm, R.vext, R.fresh, fun b o h _ e => R.step.keep b o h e, fun L hL m hn => Ns.by hn fun o e => R.step.keep L o (ho L hL).2.1 e, R.step.os, R.step.gens, R.frees⟩
theorem RanX.outs (R : RanX X fr V O ρ s V' O' ρ' s') (ho : OutV X fr V O ρ s) : OutV X fr V' O' ρ' s' := fun L hL => by
  obtain ⟨h1, h2, m, hn⟩ := ho L hL
  refine ⟨(R.vext.up L h1).resolve_right h2, fun hm => ?_, m, R.ns L hL m hn⟩
  rcases R.fresh L hm with h | h
  · exact h2 h
  · obtain ⟨o, _, _, e, _⟩ := hn; rw [e] at h; cases h
theorem RanX.nil (R : RanX X [] V O ρ s V' O' ρ' s') : Ran X V O ρ s V' O' ρ' s' := ⟨R.frm, R.vext, R.fresh, ⟨fun b o h e => R.keep b o h (by simp) e, R.os, R.gens⟩, R.frees⟩
theorem RanX.trans {V₂ O₂ ρ₂ s₂} (x : RanX X fr V O ρ s V' O' ρ' s') (y : RanX X fr V' O' ρ' s' V₂ O₂ ρ₂ s₂) (F : X.F V O ρ s) (ho : OutV X fr V O ρ s) : RanX X fr V O ρ s V₂ O₂ ρ₂ s₂ := by
  have dead : ∀ b, s'.heap.get? b = none → s.heap.get? b = none ∨ b ∈ owned X.env O ρ := fun b h => by
    by_cases hm : b ∈ owned X.env O ρ
    · exact .inr hm
    · left
      cases e : s.heap.get? b with
      | none => rfl
      | some o =>
        by_cases hf : b ∈ fr
        · obtain ⟨_, _, m, hn⟩ := ho b hf
          obtain ⟨o', _, _, e', _⟩ := x.ns b hf m hn
          rw [h] at e'; cases e'
        · rw [x.keep b o hm hf e] at h; cases h
  refine ⟨y.frm, ⟨fun b h => ?_, fun b h => ?_⟩, fun p hp => ?_, fun b o hb hf e => y.keep b o (fun hm => ?_) hf (x.keep b o hb hf e), fun L hL m hn => y.ns L hL m (x.ns L hL m hn), y.os.trans x.os, x.gens.trans y.gens, fun a c q h => let ⟨q', h'⟩ := y.frees a c q h; x.frees a c q' h'⟩
  · rcases x.vext.up b h with h1 | h1
    · rcases y.vext.up b h1 with h2 | h2
      · exact .inl h2
      · rcases x.fresh b h2 with h3 | h3
        · exact .inr h3
        · obtain ⟨o, e⟩ := F.vol.live b h; rw [e] at h3; cases h3
    · exact .inr h1
  · rcases y.vext.fresh b h with h' | h'
    · exact x.vext.fresh b h'
    · rcases dead b h' with h2 | h2
      · exact .inr h2
      · exact .inl (F.own b h2)
  · rcases y.fresh p hp with h | h
    · exact x.fresh p h
    · exact (dead p h).symm
  · rcases x.fresh b hm with h | h
    · exact hb h
    · rw [h] at e; cases e

/-- the frame, its own names' object readied and the outer ones' -/
theorem Frm.growX (F : X.F V O ρ s) (ho : OutV X fr V O ρ s) (g : GrowX (X.env.locals :: fr) s s') : X.F V O ρ s' := by
  obtain ⟨m, hn, hv⟩ := F.vars
  have hLV : V X.env.locals := F.own _ (List.mem_cons_self ..)
  have inV : ∀ b ∈ X.env.locals :: fr, V b := fun b hb => (List.mem_cons.mp hb).elim (fun h => h ▸ hLV) fun h => (ho b h).1
  have nsOf : ∀ b ∈ X.env.locals :: fr, ∃ m, s.heap.Ns b m := fun b hb => (List.mem_cons.mp hb).elim (fun h => ⟨m, h ▸ hn⟩) fun h => (ho b h).2.2
  have off : ∀ b, ¬ V b → b ∉ X.env.locals :: fr := fun b nb hm => nb (inV b hm)
  have hR : ∀ b o, ¬ V b → s.heap.get? b = some o → ¬ V b ∧ s'.heap.get? b = some o := fun b o nb e => ⟨nb, g.keep b o (off b nb) e⟩
  have hnd := F.nodup
  unfold PL.owned at hnd
  rw [List.nodup_cons] at hnd
  have ownOff : ∀ b ∈ ρ.filterMap (ownOf O), b ∉ X.env.locals :: fr := fun b hb hm => (List.mem_cons.mp hm).elim (fun h => hnd.1 (h ▸ hb)) fun h => (ho b h).2.1 (List.mem_cons_of_mem _ hb)
  refine ⟨⟨fun b o e => g.keep b o (fun hm => by rw [F.vol.apart b (inV b hm)] at e; cases e) (F.vol.keep b o e), fun b hb => ?_, F.vol.apart⟩, F.kind, ⟨m, g.ns _ (List.mem_cons_self ..) m hn, fun e he => ?_⟩, F.own, F.nodup, F.names, F.free⟩
  · by_cases hm : b ∈ X.env.locals :: fr
    · obtain ⟨m', hn'⟩ := nsOf b hm
      obtain ⟨o, _, _, e, _⟩ := g.ns b hm m' hn'; exact ⟨o, e⟩
    · obtain ⟨o, e⟩ := F.vol.live b hb; exact ⟨o, g.keep b o hm e⟩
  · refine VarAt.mono hR (fun _ h => h) (fun b hb o e' => g.keep b o (ownOff b (List.mem_filterMap.mpr ⟨e, he, hb⟩)) e') (fun x c q e0 o e' => g.keep c o (fun hm => ?_) e') (hv e he)
    obtain ⟨m', hn'⟩ := nsOf c hm
    obtain ⟨o₁, _, _, e₁, d₁, _⟩ := hn'
    obtain ⟨_, _, _, v0, ⟨o₂, e₂, d₂⟩, _⟩ := hv _ (e0 ▸ he)
    rw [e₁] at e₂; cases e₂; rw [d₁] at d₂; cases d₂
theorem Frm.ranX (F : X.F V O ρ s) (ho : OutV X fr V O ρ s) (g : GrowX (X.env.locals :: fr) s s') : RanX X fr V O ρ s V O ρ s' :=
  ⟨F.growX ho g, .refl _ _ _, .refl _ _, fun b o h hf e => g.keep b o (fun hm => (List.mem_cons.mp hm).elim (fun h' => h (h' ▸ List.mem_cons_self ..)) hf) e, fun L hL m hn => g.ns L (List.mem_cons_of_mem _ hL) m hn, g.os, g.gens, fun _ _ q h => ⟨q, h⟩⟩
end
/-- statements that may ready the outer frames -/
noncomputable def ExX (X : Cx) (fr : List Addr) (ss : List Stmt) (ρ : Vars) (fl : PF) (ρ' : Vars) : Prop :=
  ∀ V O s (Q : Flow → Shared → Prop) (E : Value → Shared → Prop), X.F V O ρ s → OutV X fr V O ρ s → (∀ V' O' s' f, RanX X fr V O ρ s V' O' ρ' s' → FlRep X.C V' s'.heap fl f → Q f s') → wpAny X.M X.A (execs ss X.env) Q E s
noncomputable def Ex1X (X : Cx) (fr : List Addr) (st : Stmt) (ρ : Vars) (fl : PF) (ρ' : Vars) : Prop :=
  ∀ V O s (Q : Flow → Shared → Prop) (E : Value → Shared → Prop), X.F V O ρ s → OutV X fr V O ρ s → (∀ V' O' s' f, RanX X fr V O ρ s V' O' ρ' s' → FlRep X.C V' s'.heap fl f → Q f s') → wpAny X.M X.A (exec st X.env) Q E s
section
variable {X : Cx} {fr : List Addr} {ρ ρ' ρ'' : Vars}
theorem Exs.x {ss : List Stmt} {fl : PF} (h : Exs X ss ρ fl ρ') : ExX X fr ss ρ fl ρ' := fun V O s Q E F ho hQ => h V O s Q E F fun V' O' s' f R hf => hQ V' O' s' f (R.x ho) hf
theorem Ex1.x {st : Stmt} {fl : PF} (h : Ex1 X st ρ fl ρ') : Ex1X X fr st ρ fl ρ' := fun V O s Q E F ho hQ => h V O s Q E F fun V' O' s' f R hf => hQ V' O' s' f (R.x ho) hf
theorem Ex1X.nil {st : Stmt} {fl : PF} (h : Ex1X X [] st ρ fl ρ') : Ex1 X st ρ fl ρ' := fun V O s Q E F hQ => h V O s Q E F (fun L hL => by cases hL) fun V' O' s' f R hf => hQ V' O' s' f R.nil hf
theorem exX_cons {st : Stmt} {ss : List Stmt} {fl : PF} (h1 : Ex1X X fr st ρ .next ρ') (h2 : ExX X fr ss ρ' fl ρ'') : ExX X fr (st :: ss) ρ fl ρ'' := fun V O s Q E F ho hQ =>
  wpAny_execs_cons (h1 V O s _ E F ho fun V' O' s' f R hf => by
    cases hf
    exact h2 V' O' s' Q E R.frm (R.outs ho) fun V₂ O₂ s₂ f₂ R₂ hf₂ => hQ V₂ O₂ s₂ f₂ (R.trans R₂ F ho) hf₂)
theorem exX_stop {st : Stmt} {ss : List Stmt} {fl : PF} (h1 : Ex1X X fr st ρ fl ρ') (hn : fl ≠ .next := by intro h; cases h) : ExX X fr (st :: ss) ρ fl ρ' := fun V O s Q E F ho hQ =>
  wpAny_execs_cons (h1 V O s _ E F ho fun V' O' s' f R hf => by
    cases fl with
    | next => exact absurd rfl hn
    | brk => cases hf; exact hQ V' O' s' _ R rfl
    | cont => cases hf; exact hQ V' O' s' _ R rfl
    | ret p => obtain ⟨v, rfl, r⟩ := hf; exact hQ V' O' s' _ R ⟨v, rfl, r⟩)
end
/-- what a function gives back that may ready the frames it is called from -/
structure FnX (X : Cx) (f : Addr) (ps : List PV) (r : PV) (n : Nat) : Prop where
  obj : ∃ o fd, X.base.get? f = some o ∧ o.data = .func fd
  run : ∀ A, Room A n → ∀ l, A.frames = some l → FunEnvs l → ∀ V s vs (Q : Value → Shared → Prop) (E : Value → Shared → Prop), Vol X.base V s → (∀ L ∈ frOf l, V L ∧ ∃ m, s.heap.Ns L m) → Reps X.C V s.heap ps vs →
    (∀ v s', GrowX (frOf l) s s' → Rep X.C V s'.heap r v → Q v s') → wpAny X.M A (call (.ref f) vs) Q E s
theorem FnX.at {X : Cx} {f : Addr} {ps : List PV} {r : PV} {n : Nat} (h : FnX X f ps r n) {A : Around} {env : Env} : FnX { X with A := A, env := env } f ps r n := ⟨h.obj, h.run⟩
theorem FnX.less {X : Cx} {f : Addr} {ps : List PV} {r : PV} {n m : Nat} (h : FnX X f ps r n) (hm : n ≤ m := by decide) : FnX X f ps r m := ⟨h.obj, fun A hA => h.run A (hA.less hm)⟩
/-- the same at known frames -/
structure FnXl (X : Cx) (l : List Env) (f : Addr) (ps : List PV) (r : PV) (n : Nat) : Prop where
  obj : ∃ o fd, X.base.get? f = some o ∧ o.data = .func fd
  run : ∀ A, Room A n → A.frames = some l → FunEnvs l → ∀ V s vs (Q : Value → Shared → Prop) (E : Value → Shared → Prop), Vol X.base V s → (∀ L ∈ frOf l, V L ∧ ∃ m, s.heap.Ns L m) → Reps X.C V s.heap ps vs →
    (∀ v s', GrowX (frOf l) s s' → Rep X.C V s'.heap r v → Q v s') → wpAny X.M A (call (.ref f) vs) Q E s
theorem fn_introXl (l : List Env) {X : Cx} {f : Addr} {o : Obj} {fd : FuncData} {body : List Stmt} {xs : List Str} {ps : List PV} {r : PV} {n : Nat} (ρ₀ : Addr → Vars)
    (ho : X.base.get? f = some o) (hdata : o.data = .func fd) (hlim : X.base.NoLimit) (hcd : X.base.CodeRec fd.code fd.qualname) (hbody : fd.body = .stmts body) (hclo : fd.closure = [])
    (hbind : ∀ vs : List Value, vs.length = ps.length → bindArgs fd ⟨vs, []⟩ = pure (xs.zip vs)) (hxs : xs.Nodup)
    (hkind : ∀ L x, x ∈ xs → fd.scope.names.lookup x = some .local ∨ (fd.scope.names.lookup x = some .cell ∧ ((cellsFrom (L + 1) fd.scope.names []).lookup x).isSome = true))
    (hini : ∀ L, Ini (callEnvC fd L f).kindOf (callEnvC fd L f).cells xs ps (ρ₀ L)) (hnd : ∀ L O, (owned (callEnvC fd L f) O (ρ₀ L)).Nodup) (hnames : ∀ L, ((ρ₀ L).map (·.1)).Nodup)
    (hrun : ∀ (A : Around) (L : Addr), Room (A.deeper (callEnvC fd L f)) n → (A.deeper (callEnvC fd L f)).frames = some (callEnvC fd L f :: l) → FunEnvs l → ∃ fl ρ', ExX { X with A := A.deeper (callEnvC fd L f), env := callEnvC fd L f } (frOf l) body (ρ₀ L) fl ρ' ∧ (fl = .ret r ∨ (fl = .next ∧ r = .none)))
    (hco : fd.scope.isCoroutine = false := by rfl) (hgen : fd.scope.isGenerator = false := by rfl) (hk : fd.scope.kind = .function := by rfl) : FnXl X l f ps r (n + 1) := by
  refine ⟨⟨o, fd, ho, hdata⟩, fun A hA hl hfe V s vs Q E vol hout rs hQ => wpAny_call (codeAny_call_cells (by have := hA.depth; omega) (vol.keep _ _ ho) hdata (hlim.keeps vol.keep) (hcd.keeps vol.keep) hbody (hbind vs rs.length) hclo (fun x hx => ?_) (fun s₁ I => ?_) hco hgen hk)⟩
  · obtain ⟨y, v⟩ := x
    exact hkind _ _ (List.of_mem_zip hx).1
  · obtain ⟨fl, ρ', hex, hfl⟩ := hrun A s.heap.objs.size (hA.deeper _) (by show A.frames.map _ = _; rw [hl]; rfl) hfe
    generalize henv : callEnvC fd s.heap.objs.size f = env at I hex ⊢
    have hL : env.locals = s.heap.objs.size := by rw [← henv]; rfl
    let O : Str → Addr := fun _ => 0
    have hI : Ini env.kindOf env.cells xs ps (ρ₀ s.heap.objs.size) := henv ▸ hini _
    have dead : ∀ b ∈ owned env O (ρ₀ s.heap.objs.size), s.heap.get? b = none := fun b hb => by
      have hge : s.heap.objs.size ≤ b := by
        rcases List.mem_cons.mp hb with rfl | hb
        · rw [hL]; exact Nat.le_refl _
        · obtain ⟨m, hm⟩ := hI.cellsIn.1 b hb
          have := I.above m b (mem_of_lookup hm)
          rw [hL] at this; exact Nat.le_of_lt this
      cases e : s.heap.get? b with
      | none => rfl
      | some o' => exact absurd (Heap.lt_size e) (Nat.not_lt.mpr hge)
    have live : ∀ b ∈ owned env O (ρ₀ s.heap.objs.size), ∃ o, s₁.heap.get? b = some o := fun b hb => by
      rcases List.mem_cons.mp hb with rfl | hb
      · obtain ⟨o', _, _, e, _⟩ := I.toInCall.ns; exact ⟨o', e⟩
      · obtain ⟨m, hm⟩ := hI.cellsIn.1 b hb
        obtain ⟨o', e, _⟩ := I.cell m b hm; exact ⟨o', e⟩
    obtain ⟨h₁, tk₁, hs₁⟩ := I.toInCall.same
    have g : Grow s s₁ := ⟨I.toInCall.keep, by rw [hs₁], by rw [hs₁]; exact .refl _⟩
    have vol₁ : Vol X.base (VW V (owned env O (ρ₀ s.heap.objs.size))) s₁ := (vol.grow g).widen live fun b hb => by
      cases e : X.base.get? b with
      | none => rfl
      | some o' => have := vol.keep b o' e; rw [dead b hb] at this; cases this
    have hup : ∀ b o, ¬ V b → s.heap.get? b = some o → ¬ VW V (owned env O (ρ₀ s.heap.objs.size)) b ∧ s₁.heap.get? b = some o := fun b o nb e => ⟨fun h => h.elim nb (fun h => by rw [dead b h] at e; cases e), I.toInCall.keep b o e⟩
    have F : Frm X.C X.base env (VW V (owned env O (ρ₀ s.heap.objs.size))) O (ρ₀ s.heap.objs.size) s₁ :=
      ⟨vol₁, by rw [← henv]; exact hk, ⟨_, I.toInCall.ns, Ini.vars hI (Reps.mono hup ps rs) (fun x v hx => zip_binds hxs x v hx) I.cell⟩, fun b hb => .inr hb, by rw [← henv]; exact hnd _ _, hnames _, fun x c q hm => absurd hm ((hI.cellsIn (O := O)).2 x c q)⟩
    refine hex _ O s₁ _ _ F (fun L' hL' => ?_) fun V' O' s' fl' R hfr => ?_
    · obtain ⟨hv, m, hn⟩ := hout L' hL'
      exact ⟨.inl hv, (fun hm => by obtain ⟨o', _, _, e, _⟩ := hn; rw [dead L' hm] at e; cases e), m, hn.keeps I.toInCall.keep⟩
    have gr : GrowX (frOf l) s s' := ⟨fun b o' hf e => R.keep b o' (fun hm => by rw [dead b hm] at e; cases e) hf (I.toInCall.keep b o' e), fun L' hL' m hn => R.ns L' hL' m (hn.keeps I.toInCall.keep), R.os.trans g.os, g.gens.trans R.gens⟩
    rcases hfl with rfl | ⟨rfl, rfl⟩
    · obtain ⟨v, rfl, rv⟩ := hfr
      exact hQ v s' gr (Rep.mono (fun b o' nb e => ⟨fun hv => (R.vext.up b (.inl hv)).elim nb (fun hm => by obtain ⟨o'', e''⟩ := vol.live b hv; rw [dead b hm] at e''; cases e''), e⟩) r rv)
    · cases hfr
      exact hQ .none s' gr rfl
theorem fn_introX {X : Cx} {f : Addr} {o : Obj} {fd : FuncData} {body : List Stmt} {xs : List Str} {ps : List PV} {r : PV} {n : Nat} (ρ₀ : Addr → Vars)
    (ho : X.base.get? f = some o) (hdata : o.data = .func fd) (hlim : X.base.NoLimit) (hcd : X.base.CodeRec fd.code fd.qualname) (hbody : fd.body = .stmts body) (hclo : fd.closure = [])
    (hbind : ∀ vs : List Value, vs.length = ps.length → bindArgs fd ⟨vs, []⟩ = pure (xs.zip vs)) (hxs : xs.Nodup)
    (hkind : ∀ L x, x ∈ xs → fd.scope.names.lookup x = some .local ∨ (fd.scope.names.lookup x = some .cell ∧ ((cellsFrom (L + 1) fd.scope.names []).lookup x).isSome = true))
    (hini : ∀ L, Ini (callEnvC fd L f).kindOf (callEnvC fd L f).cells xs ps (ρ₀ L)) (hnd : ∀ L O, (owned (callEnvC fd L f) O (ρ₀ L)).Nodup) (hnames : ∀ L, ((ρ₀ L).map (·.1)).Nodup)
    (hrun : ∀ (A : Around) (L : Addr) (l : List Env), Room (A.deeper (callEnvC fd L f)) n → (A.deeper (callEnvC fd L f)).frames = some (callEnvC fd L f :: l) → FunEnvs l → ∃ fl ρ', ExX { X with A := A.deeper (callEnvC fd L f), env := callEnvC fd L f } (frOf l) body (ρ₀ L) fl ρ' ∧ (fl = .ret r ∨ (fl = .next ∧ r = .none)))
    (hco : fd.scope.isCoroutine = false := by rfl) (hgen : fd.scope.isGenerator = false := by rfl) (hk : fd.scope.kind = .function := by rfl) : FnX X f ps r (n + 1) := by
  exact ⟨⟨o, fd, ho, hdata⟩, fun A hA l hl hfe => (fn_introXl l ρ₀ ho hdata hlim hcd hbody hclo hbind hxs hkind hini hnd hnames (fun A L hA' hf hfe => hrun A L l hA' hf hfe) hco hgen hk).run A hA hl hfe⟩
end PL
end
noncomputable section
open PySem PySem.W PyProof.Rows PySem.Builtin.Str
set_option Elab.async false
set_option linter.unusedVariables false
set_option maxRecDepth 100000
set_option pp.maxSteps 600
namespace PL
local macro_rules | `(tactic| walk_at "at") => `(tactic| (repeat (first | exact At.here | exact AtMut.here | apply At.there | apply AtMut.there)))
local macro_rules | `(tactic| walk_at "put") => `(tactic| (repeat (first | exact Put.loc | exact Put.locNo | exact Put.cell | exact PutNew.no | exact PutNew.val | exact PutNew.mu | exact PutMut.here | exact Thaw.here | apply Put.there | apply PutNew.there | apply PutMut.there | apply Thaw.there)))
local macro_rules | `(tactic| walk_at "nm") => `(tactic| exact ev_name (by walk_at "at"))
local macro_rules | `(tactic| walk_at "ini") => `(tactic| (repeat (first | exact Ini.nil | apply Ini.argL rfl | apply Ini.loc rfl | apply Ini.argC rfl rfl | apply Ini.cell rfl rfl)))
local macro_rules | `(tactic| walk_at "nd") => `(tactic| (intro L O; simp [List.filterMap_cons, ownOf]))
local macro_rules | `(tactic| walk_at "nn") => `(tactic| (intro L; simp only [List.map_cons, List.map_nil]; decide))
local macro_rules | `(tactic| walk_at "kinds") => `(tactic| (intro L x hx; (repeat (rcases List.mem_cons.mp hx with h | hx; · (subst h; first | exact .inl rfl | exact .inr ⟨rfl, rfl⟩))); cases hx))
local macro_rules | `(tactic| walk_at "cap") => `(tactic| (repeat (first | exact Cap.cell | exact Cap.free | apply Cap.there)))
local macro_rules | `(tactic| walk_at "cini") => `(tactic| (intro C; repeat (first | exact CIni.nil | apply CIni.loc rfl | apply CIni.cell rfl rfl rfl | refine CIni.free rfl rfl (by walk_at "cap") ?_)))
theorem funFrames_of {h base : Heap} : ∀ {l : List Env}, FunEnvs l → (∀ b ∈ frOf l, base.get? b = none ∧ ∃ m, h.Ns b m) → h.FunFrames base l
  | [], _, _ => trivial
  | env :: l, hl, hb => by
    obtain ⟨hk, L, hL⟩ := hl env (List.mem_cons_self ..)
    have hm : frOf (env :: l) = L :: frOf l := by show (env :: l).filterMap _ = _; rw [List.filterMap_cons, hL]
    rw [hm] at hb
    obtain ⟨h1, m, hn⟩ := hb L (List.mem_cons_self ..)
    exact Heap.FunFrames.cons hk hL hn h1 (funFrames_of (fun e he => hl e (List.mem_cons_of_mem _ he)) fun b hb' => hb b (List.mem_cons_of_mem _ hb'))
theorem fn_ofX {X : Cx} {f : Addr} {st : Stmt} {xs : List Str} {ps : List PV} {r : PV} {n : Nat} {mg mb' : Str → Option Value} (G : Gw X mg mb') (ρ₀ : Addr → Vars) (hf : FnAt X.base f st)
    (hbind : ∀ n q doc pm an code ct (vs : List Value), vs.length = ps.length → bindArgs (fdat n q st doc pm an code ct) ⟨vs, []⟩ = pure (xs.zip vs)) (hxs : xs.Nodup)
    (hkind : ∀ L x, x ∈ xs → (fscope st).names.lookup x = some .local ∨ ((fscope st).names.lookup x = some .cell ∧ ((cellsFrom (L + 1) (fscope st).names []).lookup x).isSome = true))
    (hini : ∀ L, Ini (fun x => (fscope st).names.lookup x) (cellsFrom (L + 1) (fscope st).names []) xs ps (ρ₀ L)) (hnd : ∀ L O, (L :: (ρ₀ L).filterMap (ownOf O)).Nodup) (hnames : ∀ L, ((ρ₀ L).map (·.1)).Nodup)
    (hrun : ∀ (A : Around) (q : Str) (code : Value) (L : Addr) (l : List Env), Room A n → A.frames = some (fenv q st code L f :: l) → FunEnvs l → ∃ ρ', ExX { X with A := A, env := fenv q st code L f } (frOf l) (fbody st) (ρ₀ L) (.ret r) ρ')
    (hco : (fscope st).isCoroutine = false := by rfl) (hgen : (fscope st).isGenerator = false := by rfl) (hk : (fscope st).kind = .function := by rfl) : FnX X f ps r (n + 1) := by
  obtain ⟨o, nm, q, doc, pm, an, code, ct, ho, hd, hc⟩ := hf
  exact fn_introX ρ₀ ho hd G.lim hc rfl rfl (hbind nm q doc pm an code ct) hxs hkind hini hnd hnames (fun A L l hA hl hfe => let ⟨ρ', h⟩ := hrun _ q code L l hA hl hfe; ⟨_, ρ', h, .inl rfl⟩) hco hgen hk
theorem fn_ofXl (l : List Env) {X : Cx} {f : Addr} {st : Stmt} {xs : List Str} {ps : List PV} {r : PV} {n : Nat} {mg mb' : Str → Option Value} (G : Gw X mg mb') (ρ₀ : Addr → Vars) (hf : FnAt X.base f st)
    (hbind : ∀ n q doc pm an code ct (vs : List Value), vs.length = ps.length → bindArgs (fdat n q st doc pm an code ct) ⟨vs, []⟩ = pure (xs.zip vs)) (hxs : xs.Nodup)
    (hkind : ∀ L x, x ∈ xs → (fscope st).names.lookup x = some .local ∨ ((fscope st).names.lookup x = some .cell ∧ ((cellsFrom (L + 1) (fscope st).names []).lookup x).isSome = true))
    (hini : ∀ L, Ini (fun x => (fscope st).names.lookup x) (cellsFrom (L + 1) (fscope st).names []) xs ps (ρ₀ L)) (hnd : ∀ L O, (L :: (ρ₀ L).filterMap (ownOf O)).Nodup) (hnames : ∀ L, ((ρ₀ L).map (·.1)).Nodup)
    (hrun : ∀ (A : Around) (q : Str) (code : Value) (L : Addr), Room A n → A.frames = some (fenv q st code L f :: l) → FunEnvs l → ∃ ρ', ExX { X with A := A, env := fenv q st code L f } (frOf l) (fbody st) (ρ₀ L) (.ret r) ρ')
    (hco : (fscope st).isCoroutine = false := by rfl) (hgen : (fscope st).isGenerator = false := by rfl) (hk : (fscope st).kind = .function := by rfl) : FnXl X l f ps r (n + 1) := by
  obtain ⟨o, nm, q, doc, pm, an, code, ct, ho, hd, hc⟩ := hf
  exact fn_introXl l ρ₀ ho hd G.lim hc rfl rfl (hbind nm q doc pm an code ct) hxs hkind hini hnd hnames (fun A L hA hl hfe => let ⟨ρ', h⟩ := hrun _ q code L hA hl hfe; ⟨_, ρ', h, .inl rfl⟩) hco hgen hk
section
variable {X : Cx} {ρ : Vars} {mg mb' : Str → Option Value} {g : List Int}
/-- the grouping's generator, made and not yet asked -/
theorem call_group (G : Pgm X mg mb') (hA : Room X.A 1) {x : Str} {p pos : Pos} {e : Expr} (hf : EvV X (.Name x p) ρ (.ref 56)) (he : Ev X e ρ (.list (iL g)))
    {V : Addr → Prop} {O : Str → Addr} {s : Shared} {Q : Value → Shared → Prop} {E : Value → Shared → Prop} (F : X.F V O ρ s)
    (hQ : ∀ a gn L ax vs q code s₃, Grow s s₃ → s₃.heap.IsGen a gn → s₃.gens[gn]? = some (.fresh (.func (fbody (mb 11)) (genv q code L))) → (∃ m, s₃.heap.Ns L m ∧ m "grouping" = some (.ref ax)) → s₃.heap.IsList ax vs.toArray → IntsV g vs →
      s.heap.get? L = none → s.heap.get? a = none → s.gens[gn]? = none → ax ≠ L → a ≠ L → Q (.ref a) s₃)
    (hse : starEach [e] X.env = (false, eval e X.env) :: starEach [] X.env := by rfl) (hse' : backTo pos (starEach [e] X.env) = [(false, eval e X.env)] := by rfl) : wpAny X.M X.A (eval (.Call (.Name x p) [e] [] pos) X.env) (fun v s₁ => wpAny X.M X.A (pyIter v) Q E s₁) E s := by
  rw [arm_eval_Call_Name']
  refine wpAny_bind (hf V O s _ E F ?_)
  obtain ⟨o, nm, q, doc, pm, an, code, ct, ho, hd, hc⟩ := G.f_group
  refine Calls.callWith_function (o := o) (fd := fdat nm q (mb 11) doc pm an code ct) ?_
  have key := (evs_cons (pos := pos) he evs_nil hse) V O s (fun vs s' => (s'.heap.get? 56 = some o ∧ o.data = .func (fdat nm q (mb 11) doc pm an code ct)) ∧ wpAny X.M X.A (call (.ref 56) ([] ++ vs) []) (fun v s₁ => wpAny X.M X.A (pyIter v) Q E s₁) E s') E F fun us s₁ g₁ rs => by
    refine ⟨⟨(F.grow g₁).vol.keep _ _ ho, hd⟩, ?_⟩
    have F₁ := F.grow g₁
    simp only [Cx.Rs, Reps] at rs
    obtain ⟨v, _, rfl, rv, rfl⟩ := rs
    obtain ⟨ax, vs, rfl, nV, hl, rs⟩ := rep_list rv
    have hroom : X.A.depth < recursionLimit := by have := hA.depth; omega
    have hlim := G.lim.keeps F₁.vol.keep
    refine wpAny_call (codeAny_call_generator (fd := fdat nm q (mb 11) doc pm an code ct) (body := fbody (mb 11)) hroom (F₁.vol.keep _ _ ho) hd rfl rfl rfl (hc.keeps F₁.vol.keep) ?_)
    refine wpAny_of_eq (a := ([("grouping", Value.ref ax)] : List (Str × Value))) rfl ?_
    refine wpAny_newFunctionEnv (show ∀ x ∈ (fscope (mb 11)).names, x.2 ≠ .cell by decide) (by intro y hy; rw [List.mem_singleton.mp hy]; rfl) (fun h' hn hs => ?_) rfl
    let L : Addr := s₁.heap.objs.size
    have k1 : ∀ b o, s₁.heap.get? b = some o → h'.get? b = some o := fun b o e => hs.extBut b o (Nat.ne_of_lt (Heap.lt_size e)) (Heap.get?_push_of_some _ e)
    have hLd : s₁.heap.get? L = none := by
      cases e : s₁.heap.get? L with
      | none => rfl
      | some o => exact absurd (Heap.lt_size e) (Nat.lt_irrefl _)
    have hsz : h'.objs.size = L + 1 := by rw [hs.1]; exact Heap.size_push ..
    refine ⟨hlim.keeps k1, ?_⟩
    let s₂ : Shared := { s₁ with heap := h', toks := s₁.toks + 1 }
    let s₃ : Shared := { s₂ with gens := s₂.gens.push (.fresh (.func (fbody (mb 11)) (genv q code L))), toks := s₂.toks + 1 + 1, heap := s₂.heap.push { cls := .type "generator", data := .fields #[.int s₂.gens.size 0, .str nm s₂.toks, .str q (s₂.toks + 1)] } }
    have kpush : ∀ b o, h'.get? b = some o → s₃.heap.get? b = some o := fun b o e => Heap.get?_push_of_some _ e
    have g₃ : Grow s₁ s₃ := ⟨fun b o e => kpush b o (k1 b o e), rfl, ⟨fun i z e => by show (s₁.gens.push _)[i]? = some z; rw [Array.getElem?_push, if_neg (Nat.ne_of_lt (Array.getElem?_eq_some_iff.mp e).1)]; exact e, fun hb => AllBare.push hb rfl⟩⟩
    have hgen : s₃.heap.IsGen h'.objs.size s₁.gens.size := ⟨_, _, _, Heap.get?_push_size _ rfl, rfl, rfl, rfl⟩
    show wpAny X.M X.A (pyIter (.ref h'.objs.size)) Q E s₃
    refine wpAny_pyIter_gen (prog := X.prog) (w := X.w) hgen ?_
    have dead : ∀ b, s₁.heap.get? b = none → s.heap.get? b = none := fun b hb => by
      cases e : s.heap.get? b with
      | none => rfl
      | some o => rw [g₁.keep b o e] at hb; cases hb
    have ha1 : s₁.heap.get? h'.objs.size = none := by
      cases e : s₁.heap.get? h'.objs.size with
      | none => rfl
      | some o => have := Heap.lt_size e; rw [hsz] at this; exact absurd this (Nat.not_lt.mpr (Nat.le_succ _))
    have hgs : s.gens[s₁.gens.size]? = none := by
      cases e : s.gens[s₁.gens.size]? with
      | none => rfl
      | some z => have := (Array.getElem?_eq_some_iff.mp (g₁.gens.1 _ _ e)).1; exact absurd this (Nat.lt_irrefl _)
    have haL : h'.objs.size ≠ L := by rw [hsz]; exact Nat.succ_ne_self _
    have haxL : ax ≠ L := fun e => by obtain ⟨o, e', _⟩ := hl; rw [e, hLd] at e'; cases e'
    exact hQ h'.objs.size s₁.gens.size L ax vs q code s₃ (g₁.trans g₃) hgen (show (s₁.gens.push _)[s₁.gens.size]? = _ from Array.getElem?_push_size) ⟨_, hn.keeps kpush, rfl⟩ (hl.at fun o e => kpush _ o (k1 _ o e)) (reps_ints rs) (dead L hLd) (dead _ ha1) hgs haxL haL
  rw [hse'] at key ⊢
  exact Calls.evalArgs_plain key
end
section
variable {X : Cx} {mg mb' : Str → Option Value}
noncomputable abbrev rfv (ru : PV) (size refusal : VV) : Vars := [("ruler", .loc, .val ru), ("size", .loc, size), ("refusal", .loc, refusal)]
theorem fn_refused (G : Pgm X mg mb') (r : List Int) (hn : r.length ≤ 1000) : FnX X 141 [.list (iL r)] (.bool true) 2 := by
  have big : (200000 : Nat) < sizeLine := by decide
  refine fn_ofX G.toGw (fun L => rfv (.list (iL r)) .no .no) (xs := ["ruler"]) G.f_refused ?_ (by decide) (by walk_at "kinds") (fun L => by walk_at "ini") (by walk_at "nd") (by walk_at "nn") ?_
  · intro n q doc pm an code ct vs hvs
    match vs, hvs with
    | [u], _ => rfl
  intro A q code L l hA hfr hfe
  refine ⟨[("ruler", .loc, .no), ("size", .loc, .no), ("refusal", .loc, .no)], fun V O s Q E F hout hQ => ?_⟩
  have hh := hA.handled
  let X₁ : Cx := { X with A := A, env := fenv q (mb 17) code L 141 }
  have W : Wd X₁ mg mb' := G.toGw.wd hA (st := mb 17) (L := L) (f := 141) (q := q) (code := code)
  have F' : X₁.F V O (rfv (.list (iL r)) .no .no) s := F
  have hfr' : X₁.A.frames = some (X₁.env :: l) := hfr
  refine wpAny_execs_cons (wpAny_Try_except (wpAny_execs_cons (wpAny_For ?_ (by intro _; rfl))))
  refine call_group (X := X₁) (g := 0 :: r) { G with } hA (evv_global W G.m_group rfl) (ev_binop (ev_list (evs_cons ev_int evs_nil)) (by walk_at "nm") (op_ladd (l := [.int 0]) (m := iL r) (by simp; omega))) F' fun a gn Lg ax vs qg cg s₃ g₃ hgen hgs hns hli hiv dL da dg haxL haL => ?_
  obtain ⟨t0, vs', rfl, hiv'⟩ : ∃ t vs', vs = Value.int 0 t :: vs' ∧ IntsV r vs' := by simpa only [IntsV] using hiv
  have alive : ∀ b ∈ L :: frOf l, V b ∧ ∃ m, s.heap.Ns b m := fun b hb => (List.mem_cons.mp hb).elim (fun h => by
    subst h
    obtain ⟨m, hn, _⟩ := F'.vars
    exact ⟨F'.own _ (List.mem_cons_self ..), m, hn⟩) fun h => ⟨(hout b h).1, (hout b h).2.2⟩
  have notDead : ∀ b ∈ L :: frOf l, s.heap.get? b ≠ none := fun b hb e => by obtain ⟨_, m, o, _, _, e', _⟩ := alive b hb; rw [e] at e'; cases e'
  generalize hBd : hide (Lg :: L :: frOf l) s₃.heap = B
  have hB : B.StaysIn s₃.heap := fun b o e => by
    rw [← hBd] at e
    by_cases hm : b ∈ Lg :: L :: frOf l
    · rw [get_hide_in hm] at e; cases e
    · rw [get_hide_off hm] at e; exact e
  have offB : ∀ b o, b ∉ L :: frOf l → s.heap.get? b = some o → B.get? b = some o := fun b o hm e => by
    rw [← hBd, get_hide_off (show b ∉ Lg :: L :: frOf l from fun h => (List.mem_cons.mp h).elim (fun h => by rw [h, dL] at e; cases e) hm)]
    exact g₃.keep b o e
  have inB : ∀ b ∈ Lg :: L :: frOf l, B.get? b = none := fun b hb => by rw [← hBd]; exact get_hide_in hb
  have hfe' : FunEnvs (X₁.env :: l) := fun env he => (List.mem_cons.mp he).elim (fun h => by subst h; exact ⟨by show (fscope (mb 17)).kind ≠ .module; decide, L, rfl⟩) (hfe env)
  have hff : s₃.heap.FunFrames B (X₁.env :: l) := funFrames_of hfe' fun b hb => ⟨inB b (List.mem_cons_of_mem _ hb), let ⟨_, m, hn⟩ := alive b hb; ⟨m, hn.keeps g₃.keep⟩⟩
  have hbLg : X.base.get? Lg = none := by
    cases e : X.base.get? Lg with
    | none => rfl
    | some o => rw [F'.vol.keep _ o e] at dL; cases dL
  have hlim := G.lim.keeps (F'.grow g₃).vol.keep
  have hroom : A.depth < recursionLimit := by have := hA.depth; omega
  obtain ⟨mg₀, hng, hmg⟩ := hns
  refine codeAny_forLoop_any (prog := X.prog) (w := X.w) (fun _ s' => s' = s₃) (fun n s' hs' => ?_) 0 rfl
  have hs'' := hs'.symm
  subst hs''
  refine pyNext_gen_raise (base := B) (fr := L :: frOf l) (outer := X₁.env :: l) (s₀ := s₃.setGen gn .running) (Y := fun _ _ _ _ _ => False) (n := 0) hlim hroom hgen hgs (fun o ho => ?_)
    ⟨rfl, raise_seg (X := X) (A := X₁.A.in1) (outer := X₁.env :: l) hh hfr' G (fun b o e => g₃.keep _ _ (F'.vol.keep b o e)) hbLg hng hmg hli haxL hB (inB Lg (List.mem_cons_self ..)) hff (fun h => notDead Lg h dL)⟩ (fun _ _ _ _ _ h => h) (fun e t tk s₄ air => ?_)
  · rw [← hBd, get_hide_off]
    · exact ho
    · exact fun h => (List.mem_cons.mp h).elim haL fun h => notDead a h da
  have air' : Air (Heap.FlyingW B (X₁.env :: l) e (.type "ValueError") (.ref t)) B (L :: frOf l) t [.str "invalid grouping" tk] s (s₄.setGen gn .finished) := by
    have gx := setGen_gx (s := s₃) (s₁ := s₄) (gn := gn) (x := .running) (y := .finished) air.gens rfl rfl
    exact ⟨air.p, air.tup, air.nt, fun L' hL m hn => air.ns L' hL m (hn.keeps g₃.keep), air.os.trans g₃.os, ⟨fun i z ez => gx.1 i z (fun hi => by rw [List.mem_singleton.mp hi, dg] at ez; cases ez) (g₃.gens.1 i z ez), fun hb => gx.2 (g₃.gens.2 hb)⟩⟩
  have grow : ∀ {s' : Shared} {l' : List Env}, Air (Heap.FlyingW B l' e (.type "ValueError") (.ref t)) B (L :: frOf l) t [.str "invalid grouping" tk] s s' → GrowX (L :: frOf l) s s' := fun a => ⟨fun b o hm e => a.p.1 b o (offB b o hm e), a.ns, a.os, a.gens⟩
  show wpAny X₁.M X₁.A (noteFrame (.ref e) X₁.env) _ _ _
  refine air_looks hfr' rfl air' fun s₅ a₅ => ?_
  refine air_back rfl a₅ fun s₆ a₆ => ?_
  refine air_again rfl a₆ (air_lands a₆ fun s₇ a₇ => ?_)
  clear a₅ a₆ air' air
  have F₇ := F'.growX hout (grow a₇)
  refine wpAny_handleBy_builtin_as (X := "ValueError") (T := "ValueError") (b := true) (by rw [isSubtype_type]; kernel_rfl) (by rw [isSubtype_type]; kernel_rfl) (by rw [isSubtype_type]; kernel_rfl) ?_
  refine Calls.Name_function_global W.kind rfl (Calls.loadGlobal_builtin (W.g.keeps F₇.vol.keep) G.n_verr (W.b.keeps F₇.vol.keep) G.b_verr ?_) rfl
  refine ⟨rfl, a₇.p.there, ?_⟩
  rw [if_pos rfl]
  refine air_flies a₇ fun s₈ a₈ => ?_
  have F₈ := F'.growX hout (grow a₈)
  have own : PL.owned X₁.env O (rfv (.list (iL r)) .no .no) = [L] := rfl
  obtain ⟨oe, evs, he, hec, hed, he0⟩ := a₈.p.first
  obtain ⟨ot, tn, hto, htc, htd⟩ := a₈.tup
  obtain ⟨mL, hnL, _⟩ := F₈.vars
  have hLns : ∃ o es ep, s₈.heap.get? L = some o ∧ o.data = .dict es ep := let ⟨o, es, ep, e, d, _⟩ := hnL; ⟨o, es, ep, e, d⟩
  have eL : e ≠ L := fun h => by obtain ⟨o, es, ep, e', d⟩ := hLns; rw [← h, he] at e'; cases e'; rw [hed] at d; cases d
  have tL : t ≠ L := fun h => by obtain ⟨o, es, ep, e', d⟩ := hLns; rw [← h, hto] at e'; cases e'; rw [htd] at d; cases d
  refine F₈.store (x := "refusal") (p := .obj e) (ρ' := rfv (.list (iL r)) .no (.val (.obj e))) (by walk_at "put") rfl fun s₉ F₉ st₉ ho₉ => ?_
  have keep₉ : ∀ b o, b ≠ L → s₈.heap.get? b = some o → s₉.heap.get? b = some o := fun b o hb e => st₉.keep b o (by rw [own]; simpa using hb) e
  let X₂ : Cx := { X₁ with A := X₁.A.mark (some (.ref e)) }
  have F₉' : X₂.F V O (rfv (.list (iL r)) .no (.val (.obj e))) s₉ := F₉
  have hstr : ∀ p, EvV X₂ (.Name "str" p) (rfv (.list (iL r)) .no (.val (.obj e))) (.type "str") := fun p V O s Q E F hQ =>
    Calls.Name_function_global W.kind rfl (Calls.loadGlobal_builtin (W.g.keeps F.vol.keep) G.n_str (W.b.keeps F.vol.keep) G.b_str hQ) rfl
  refine wpAny_execs_cons (wpAny_Return_some (wpAny_Compare1 ?_ (by with_unfolding_all rfl)))
  refine evs_type (X := X₂) F₉' (hstr _) (evs_cons (ev_name (by walk_at "at")) evs_nil) fun us s₁₀ g₁₀ rs => ?_
  simp only [Cx.Rs, Reps] at rs
  obtain ⟨u, _, rfl, ru, rfl⟩ := rs
  have ru' : u = .ref e := ru
  subst ru'
  refine PySem.P.str_of_exc_one PySem.F.excStr_ValueError (by have := hA.units; show A.units + 2 < cLine; omega) (m := "invalid grouping") (tk := tk) (t0 := t) ⟨oe, evs, g₁₀.keep _ _ (keep₉ _ _ eL he), hec, hed, he0⟩ ⟨ot, tn, g₁₀.keep _ _ (keep₉ _ _ tL hto), htc, htd⟩ ?_
  have F₁₀ : X₂.F V O (rfv (.list (iL r)) .no (.val (.obj e))) s₁₀ := F₉'.grow g₁₀
  refine (ev_str (X := X₂)) V O s₁₀ _ _ F₁₀ fun v s₁₁ g₁₁ rv => ?_
  have F₁₁ := F₁₀.grow g₁₁
  refine (op_seq (X := X₂) (x := "invalid grouping") (y := "invalid grouping")) V s₁₁ _ v _ _ F₁₁.vol ⟨tk, rfl⟩ rv fun z s₁₂ g₁₂ rz => ?_
  have rz' : z = .bool true := rz
  subst rz'
  have F₁₂ := F₁₁.grow g₁₂
  obtain ⟨m, hn, hv⟩ := F₁₂.vars
  have hLV : V L := F.own L (List.mem_cons_self ..)
  refine wpAny_nameGoes rfl hn rfl fun h' m' hn' hs' => hQ V O _ (.ret (.bool true)) ?_ ⟨_, rfl, rfl⟩
  have keep' : ∀ b o, b ≠ L → s₉.heap.get? b = some o → h'.get? b = some o := fun b o hb e => (hs'.2 b hb).trans (g₁₂.keep b o (g₁₁.keep b o (g₁₀.keep b o e)))
  have all : ∀ b o, b ∉ L :: frOf l → s.heap.get? b = some o → h'.get? b = some o := fun b o hb e => keep' b o (fun h => hb (h ▸ List.mem_cons_self ..)) (keep₉ b o (fun h => hb (h ▸ List.mem_cons_self ..)) ((grow a₈).keep b o hb e))
  have outL : ∀ b ∈ frOf l, b ≠ L := fun b hb h => (hout b hb).2.1 (h ▸ List.mem_cons_self ..)
  have allNs : ∀ L' ∈ frOf l, ∀ m, s.heap.Ns L' m → h'.Ns L' m := fun L' hL' m hn => Ns.by ((grow a₈).ns L' (List.mem_cons_of_mem _ hL') m hn) fun o e => keep' L' o (outL L' hL') (keep₉ L' o (outL L' hL') e)
  refine ⟨⟨⟨fun b o e => all b o (fun hm => by rw [F.vol.apart b (alive b hm).1] at e; cases e) (F.vol.keep b o e), fun b hb => ?_, F.vol.apart⟩, rfl, ⟨m', hn', fun x hx => ?_⟩, fun b hb => ?_, (by show [L].Nodup; simp), (by show (["ruler", "size", "refusal"] : List Str).Nodup; decide), fun x c q hm => by simp at hm⟩, .refl _ _ _, fun b hb => .inl hb, fun b o hb hf e => all b o (fun hm => (List.mem_cons.mp hm).elim (fun h => hb (h ▸ List.mem_cons_self ..)) hf) e, allNs, ?_, ?_, fun x c q hm => by simp at hm⟩
  · by_cases hm : b ∈ L :: frOf l
    · rcases List.mem_cons.mp hm with rfl | hm
      · obtain ⟨o, _, _, e, _⟩ := hn'; exact ⟨o, e⟩
      · obtain ⟨_, _, m₀, hn₀⟩ := hout b hm
        obtain ⟨o, _, _, e, _⟩ := allNs b hm m₀ hn₀; exact ⟨o, e⟩
    · obtain ⟨o, e⟩ := F.vol.live b hb; exact ⟨o, all b o hm e⟩
  · simp only [List.mem_cons, List.not_mem_nil, or_false] at hx
    rcases hx with rfl | rfl | rfl <;> rfl
  · exact List.mem_singleton.mp hb ▸ hLV
  · exact g₁₂.os.trans (g₁₁.os.trans (g₁₀.os.trans (st₉.os.trans (grow a₈).os)))
  · exact (((((grow a₈).gens).trans st₉.gens).trans g₁₀.gens).trans g₁₁.gens).trans g₁₂.gens
end
end PL
end
noncomputable section
open PySem PySem.W PyProof.Rows PySem.Spec PyProof.V PySem.SeqAt
set_option Elab.async false
set_option linter.unusedVariables false
set_option maxRecDepth 100000
set_option pp.maxSteps 600
namespace PL
noncomputable abbrev iLs (is : List Int) : List PV := is.map .int
noncomputable abbrev trp (t : Int × Int × Int) : PV := .tup [.int t.1, .int t.2.1, .int t.2.2]
noncomputable abbrev pdT (t : Int × Int × Int) : PyData := .tuple [.int t.1, .int t.2.1, .int t.2.2]
theorem reads_ints {C V h} : ∀ {is : List Int} {vs : List Value}, Reps C V h (is.map .int) vs → ReadsAll h vs (is.map PyData.int) []
  | [], vs, r => by simp only [List.map_nil, Reps] at r; subst r; exact .nil
  | i :: is, vs, r => by
    simp only [List.map_cons, Reps] at r
    obtain ⟨v, vs', rfl, ⟨t, rfl⟩, r⟩ := r
    have := ReadsAll.cons (Reads.int (h := h) i t) (reads_ints r)
    simpa using this
theorem reads_trps {C V h} : ∀ {ts : List (Int × Int × Int)} {vs : List Value}, Reps C V h (ts.map trp) vs → ∃ as, ReadsAll h vs (ts.map pdT) as
  | [], vs, r => by simp only [List.map_nil, Reps] at r; subst r; exact ⟨_, .nil⟩
  | t :: ts, vs, r => by
    simp only [List.map_cons, Reps] at r
    obtain ⟨v, vs', rfl, rv, r⟩ := r
    obtain ⟨as, ra⟩ := reads_trps r
    obtain ⟨a, us, rfl, _, hl, rs⟩ := rep_tup rv
    have h3 := reads_ints (is := [t.1, t.2.1, t.2.2]) rs
    obtain ⟨o, ho, hc, n, hd⟩ := hl
    exact ⟨_, .cons (Reads.tuple ho hc hd (by simpa using h3)) ra⟩
theorem shaped_trps (ts : List (Int × Int × Int)) : shaped (.list (ts.map pdT)) = true := by
  have h1 : ∀ ts : List (Int × Int × Int), PyData.canLayAll0 (ts.map pdT) = true := by
    intro ts
    induction ts with
    | nil => simp [PyData.canLayAll0]
    | cons t ts ih => simp [PyData.canLayAll0, PyData.canLay0, ih]
  have h2 : ∀ ts : List (Int × Int × Int), PyData.depthAll (ts.map pdT) ≤ 3 := by
    intro ts
    induction ts with
    | nil => simp [PyData.depthAll]
    | cons t ts ih => simp only [List.map_cons, PyData.depthAll, PyData.depth] at ih ⊢; omega
  have h3 := h2 ts
  show (PyData.canLay0 (.list (ts.map pdT)) && decide (PyData.depth (.list (ts.map pdT)) ≤ 64)) = true
  rw [Bool.and_eq_true]
  exact ⟨by simp only [PyData.canLay0]; exact h1 ts, decide_eq_true (by simp only [PyData.depth]; omega)⟩
theorem noMix_trps : ∀ a b : List (Int × Int × Int), noMixAll (a.map pdT) (b.map pdT) = true
  | [], [] => by simp [noMixAll]
  | [], _ :: _ => by simp [noMixAll]
  | _ :: _, [] => by simp [noMixAll]
  | _ :: r, _ :: q => by simp [noMixAll, noMix, noMix_trps r q]
theorem same_trps : ∀ a b : List (Int × Int × Int), PySem.Spec.sameAll (a.map pdT) (b.map pdT) = decide (a = b)
  | [], [] => by simp [PySem.Spec.sameAll]
  | [], _ :: _ => by simp [PySem.Spec.sameAll]
  | _ :: _, [] => by simp [PySem.Spec.sameAll]
  | (x, y, z) :: r, (x', y', z') :: q => by
    simp only [List.map_cons, PySem.Spec.sameAll, PySem.Spec.same, same_trps r q]
    by_cases h1 : x = x' <;> by_cases h2 : y = y' <;> by_cases h3 : z = z' <;> simp [h1, h2, h3]
section
variable {X : Cx} {a b : List Int} {c d : List (Int × Int × Int)}
theorem op_ints_eq (hu : X.A.units + 64 < cLine) : Op2 X (compareOp .Eq) (.list (iLs a)) (.list (iLs b)) (.bool (decide (a = b))) := fun V s u v Q E vol ru rv hQ => by
  obtain ⟨p, vs, rfl, _, hl, rs⟩ := rep_list ru
  obtain ⟨q, us, rfl, _, hl', rs'⟩ := rep_list rv
  obtain ⟨o, ho, hc, n, hd⟩ := hl
  obtain ⟨o', ho', hc', n', hd'⟩ := hl'
  exact eq_dataH_same (prog := X.prog) (w := X.w) (Reads.list ho hc hd (by simpa using reads_ints rs)) (Reads.list ho' hc' hd' (by simpa using reads_ints rs')) (shaped_ints a) (shaped_ints b) hu (by simp only [noMix]; exact noMix_ints a b)
    (by simp only [PySem.Spec.same]; rw [same_ints]; exact hQ _ s (.refl s) mk_bool)
theorem op_trps_ne (hu : X.A.units + 64 < cLine) : Op2 X (compareOp .NotEq) (.list (c.map trp)) (.list (d.map trp)) (.bool (!decide (c = d))) := fun V s u v Q E vol ru rv hQ => by
  obtain ⟨p, vs, rfl, _, hl, rs⟩ := rep_list ru
  obtain ⟨q, us, rfl, _, hl', rs'⟩ := rep_list rv
  obtain ⟨o, ho, hc, n, hd⟩ := hl
  obtain ⟨o', ho', hc', n', hd'⟩ := hl'
  obtain ⟨as, ra⟩ := reads_trps rs
  obtain ⟨bs, rb⟩ := reads_trps rs'
  exact ne_dataH_same (prog := X.prog) (w := X.w) (Reads.list ho hc hd (by simpa using ra)) (Reads.list ho' hc' hd' (by simpa using rb)) (shaped_trps c) (shaped_trps d) hu (by simp only [noMix]; exact noMix_trps c d)
    (by simp only [PySem.Spec.same]; rw [same_trps]; exact hQ _ s (.refl s) mk_bool)
theorem op_trps_eq (hu : X.A.units + 64 < cLine) : Op2 X (compareOp .Eq) (.list (c.map trp)) (.list (d.map trp)) (.bool (decide (c = d))) := fun V s u v Q E vol ru rv hQ => by
  obtain ⟨p, vs, rfl, _, hl, rs⟩ := rep_list ru
  obtain ⟨q, us, rfl, _, hl', rs'⟩ := rep_list rv
  obtain ⟨o, ho, hc, n, hd⟩ := hl
  obtain ⟨o', ho', hc', n', hd'⟩ := hl'
  obtain ⟨as, ra⟩ := reads_trps rs
  obtain ⟨bs, rb⟩ := reads_trps rs'
  exact eq_dataH_same (prog := X.prog) (w := X.w) (Reads.list ho hc hd (by simpa using ra)) (Reads.list ho' hc' hd' (by simpa using rb)) (shaped_trps c) (shaped_trps d) hu (by simp only [noMix]; exact noMix_trps c d)
    (by simp only [PySem.Spec.same]; rw [same_trps]; exact hQ _ s (.refl s) mk_bool)
theorem op_bne {p q : Bool} : Op2 X (compareOp .NotEq) (.bool p) (.bool q) (.bool (p != q)) := fun V s u v Q E vol ru rv hQ => by
  cases ru; cases rv; exact PyProof.Rows.ne_bool (hQ _ _ (.refl s) mk_bool)
end
section
variable {X : Cx} {ρ : Vars}
/-- {i: a, j: b}.get(n, z) -/
theorem ev_dictget2 {i j a b n z : Int} {ki kj e0 e1 e2 e3 : Expr} {dp apos pos : Pos} (hij : i ≠ j) (h0 : Ev X ki ρ (.int i)) (h1 : Ev X e0 ρ (.int a)) (h2 : Ev X kj ρ (.int j)) (h3 : Ev X e1 ρ (.int b)) (h4 : Ev X e2 ρ (.int n)) (h5 : Ev X e3 ρ (.int z))
    (hlow : ∃ b o, sysModules < b ∧ X.base.get? b = some o)
    (hbase : attributeBase (.Dict [some ki, some kj] [e0, e1] dp) "get" X.env (eval (.Dict [some ki, some kj] [e0, e1] dp) X.env) = eval (.Dict [some ki, some kj] [e0, e1] dp) X.env := by rfl)
    (hline : (apos.endLine == pos.line) = true := by rfl) (hplain : (backTo pos (starEach [e2, e3] X.env)).any (·.1) = false := by rfl) (hfew : ((backTo pos (starEach [e2, e3] X.env)).all (fun x => !x.1) && (backToKw pos (keywordEach [] X.env)).all (fun x => x.1.isSome)
      && decide ([e2, e3].length + ([] : List Keyword).length + (if ([] : List Keyword).isEmpty then 0 else 1) < 30)) = true := by rfl)
    (hshape : (evalEachOpt [some ki, some kj] X.env).zip ((evalEach [e0, e1] X.env).map fun v => do let x ← v; standAt dp; pure x) = [(eval ki X.env, (do let x ← eval e0 X.env; standAt dp; pure x)), (eval kj X.env, (do let x ← eval e1 X.env; standAt dp; pure x))].map fun p => (some p.1, p.2) := by rfl)
    (hse : ∃ y ys, backTo pos (starEach [e2, e3] X.env) = (false, y) :: ys := by exact ⟨_, _, rfl⟩) (s1 : starEach [e2, e3] X.env = (false, eval e2 X.env) :: starEach [e3] X.env := by rfl) (s2 : starEach [e3] X.env = (false, eval e3 X.env) :: starEach [] X.env := by rfl) :
    Ev X (.Call (.Attribute (.Dict [some ki, some kj] [e0, e1] dp) "get" apos) [e2, e3] [] pos) ρ (.int (if n = i then a else if n = j then b else z)) := fun V O s Q E F hQ => by
  refine wpAny_Call_method hbase hfew hline PySem.F.plainAttrs_dict PySem.F.slot_dict_get PySem.F.type_dict_get ?_
  refine wpAny_Dict_pairs (knd := intKind X.prog X.w) hshape (by simp) (by simp) ?_
  generalize hd : s.heap.objs.size = d
  have hnew : (s.heap.push { cls := .type "dict", data := .dict #[] }).DictOf (intKind X.prog X.w) d [] := hd ▸ Heap.DictOf.new _
  have g₀ : Grow s { s with heap := s.heap.push { cls := .type "dict", data := .dict #[] } } := .push
  have F₀ := F.grow g₀
  have hdd : s.heap.get? d = none := by
    cases e : s.heap.get? d with
    | none => rfl
    | some o => exact absurd (Heap.lt_size e) (by rw [hd]; exact Nat.lt_irrefl _)
  have lo : (d == sysModules) = false := by
    rw [beq_eq_false_iff_ne]
    rintro rfl
    obtain ⟨b, o, hb, e⟩ := hlow
    have := Heap.lt_size (F.vol.keep _ o e)
    rw [hd] at this
    exact absurd (Nat.lt_trans hb this) (Nat.lt_irrefl _)
  refine evalPairs_cons (h0 V O _ _ _ F₀ fun v0 s₁ g₁ r0 => wpAny_bind (h1 V O s₁ _ _ (F₀.grow g₁) fun v1 s₂ g₂ r1 => wpAny_bind (wpAny_standAt (wpAny_pure ?_))))
  refine evalPairs_cons (h2 V O s₂ _ _ ((F₀.grow g₁).grow g₂) fun v2 s₃ g₃ r2 => wpAny_bind (h3 V O s₃ _ _ (((F₀.grow g₁).grow g₂).grow g₃) fun v3 s₄ g₄ r3 => wpAny_bind (wpAny_standAt (wpAny_pure ?_))))
  refine evalPairs_nil ?_
  obtain ⟨t0, rfl⟩ := r0
  obtain ⟨t1, rfl⟩ := r1
  obtain ⟨t2, rfl⟩ := r2
  obtain ⟨t3, rfl⟩ := r3
  have g₀₄ := ((g₁.trans g₂).trans g₃).trans g₄
  refine ⟨[(i, .int a t1), (j, .int b t3)], ⟨intKind_is .., rfl, intKind_is .., rfl, trivial⟩, hnew.keep g₀₄.keep, fun h' hm hs => ?_⟩
  have hmerge : merged [] [(i, Value.int a t1), (j, Value.int b t3)] = [(i, .int a t1), (j, .int b t3)] := by simp [merged, stored, hij]
  rw [hmerge] at hm
  have g₅ : Grow s { s₄ with heap := h', toks := s₄.toks + 2 } := ⟨fun p o e => hs.extBut p o (fun h => by rw [h, hdd] at e; cases e) (g₀₄.keep p o (g₀.keep p o e)), g₀₄.os, g₀₄.gens⟩
  refine ⟨hm.typeIs, fun x ex => by cases ex; obtain ⟨o, es, ep, ho, hx, _⟩ := hm; exact ⟨o, ho, hx.2.1⟩, ?_⟩
  refine Calls.callWith_builtin hplain ?_
  have key := (evs_cons (pos := pos) h4 (evs_cons h5 evs_nil s2) s1) V O { s₄ with heap := h', toks := s₄.toks + 2 } (fun vs s' => wpAny X.M X.A (call (.builtin "dict.get") (.ref d :: vs)) Q E s') E (F.grow g₅) fun vs s₆ g₆ rs => by
    simp only [Cx.Rs, Reps] at rs
    obtain ⟨v4, _, rfl, ⟨t4, rfl⟩, v5, _, rfl, ⟨t5, rfl⟩, rfl⟩ := rs
    have hm₆ := hm.keep g₆.keep
    refine call_meetsIn PySem.F.slot_dict_get hm₆.typeIs PySem.F.entry_dict_get (PySem.F.args_dict_get_3 _ _ _) (meets_dict_get_default (intKind X.prog X.w) d (intKind_is X.prog X.w n t4) lo (.int z t5)) ⟨_, hm₆.mapOf, ?_⟩
    have hval : ∃ t, (valueAt [(i, Value.int a t1), (j, Value.int b t3)] n).getD (.int z t5) = .int (if n = i then a else if n = j then b else z) t := by
      unfold valueAt
      by_cases hi : i = n
      · exact ⟨t1, by simp [hi]⟩
      · by_cases hj : j = n
        · exact ⟨t3, by simp [hi, hj, Ne.symm hi]⟩
        · exact ⟨t5, by simp [hi, hj, Ne.symm hi, Ne.symm hj]⟩
    obtain ⟨t, ht⟩ := hval
    show Q ((valueAt [(i, Value.int a t1), (j, Value.int b t3)] n).getD (.int z t5)) _
    rw [ht]
    exact hQ _ _ ((g₅.trans g₆).trans .toks) mk_int
  obtain ⟨y, ys, he⟩ := hse
  rw [he] at key ⊢
  exact Calls.evalArgs_plain key
end
end PL
end
noncomputable section
open PySem PySem.W PyProof.Rows
set_option Elab.async false
set_option linter.unusedVariables false
set_option maxRecDepth 100000
set_option pp.maxSteps 600
namespace PL
noncomputable def EvX (X : Cx) (fr : List Addr) (e : Expr) (ρ : Vars) (p : PV) : Prop :=
  ∀ V O s (Q : Value → Shared → Prop) (E : Value → Shared → Prop), X.F V O ρ s → OutV X fr V O ρ s → (∀ v s', GrowX (X.env.locals :: fr) s s' → X.R V s' p v → Q v s') → wpAny X.M X.A (eval e X.env) Q E s
noncomputable def ItX (X : Cx) (fr : List Addr) (e : Expr) (ρ : Vars) (b : Bool) : Prop :=
  ∀ V O s (Q : Bool → Shared → Prop) (E : Value → Shared → Prop), X.F V O ρ s → OutV X fr V O ρ s → (∀ s', GrowX (X.env.locals :: fr) s s' → Q b s') → wpAny X.M X.A (isTrue e X.env (eval e X.env)) Q E s
section
variable {X : Cx} {fr : List Addr} {ρ ρ' : Vars}
theorem outV_grow {V : Addr → Prop} {O : Str → Addr} {s s' : Shared} (ho : OutV X fr V O ρ s) (g : GrowX (X.env.locals :: fr) s s') : OutV X fr V O ρ s' := fun L hL =>
  let ⟨h1, h2, m, hn⟩ := ho L hL; ⟨h1, h2, m, g.ns L (List.mem_cons_of_mem _ hL) m hn⟩
theorem Rep.growX {V : Addr → Prop} {O : Str → Addr} {s s' : Shared} (F : X.F V O ρ s) (ho : OutV X fr V O ρ s) (g : GrowX (X.env.locals :: fr) s s') {p : PV} {v : Value} (r : X.R V s p v) : X.R V s' p v :=
  Rep.mono (fun b o nb e => ⟨nb, g.keep b o (fun hm => nb ((List.mem_cons.mp hm).elim (fun h => h ▸ F.own _ (List.mem_cons_self ..)) fun h => (ho b h).1)) e⟩) p r
theorem itx_value {e : Expr} {p : PV} {b : Bool} (he : EvX X fr e ρ p) (ht : Tr X p b) (hi : isTrue e X.env (eval e X.env) = (do let v ← eval e X.env; standAt e.pos; holding [v] (truthy v)) := by rfl) : ItX X fr e ρ b := fun V O s Q E F ho hQ =>
  wpAny_isTrue_value (he V O s _ E F ho fun u s₁ g₁ r₁ => ht V s₁ u Q E (F.growX ho g₁).vol r₁ fun s₂ g₂ => hQ s₂ (g₁.trans (g₂.x _))) hi
theorem itx_not {e : Expr} {pos : Pos} {b : Bool} (he : ItX X fr e ρ b) : ItX X fr (.UnaryOp .Not e pos) ρ (!b) := fun V O s Q E F ho hQ =>
  wpAny_isTrue_Not (he V O s _ E F ho fun s₁ g₁ => hQ s₁ g₁)
theorem itx_or {e e' : Expr} {pos : Pos} {b c : Bool} (he : ItX X fr e ρ b) (he' : b = false → It X e' ρ c) : ItX X fr (.BoolOp .Or [e, e'] pos) ρ (b || c) := fun V O s Q E F ho hQ =>
  wpAny_isTrue_BoolOp (wpAny_allTrue_Or_cons (he V O s _ E F ho fun s₁ g₁ => by
    cases b with
    | true => exact hQ s₁ g₁
    | false =>
      refine wpAny_allTrue_Or_cons (he' rfl V O s₁ _ E (F.growX ho g₁) fun s₂ g₂ => ?_)
      have h := hQ s₂ (g₁.trans (g₂.x _))
      cases c with
      | true => exact h
      | false => exact wpAny_allTrue_Or_nil h))
theorem itx_cmp {l r : Expr} {op : CmpOp} {pos : Pos} {p q : PV} {b : Bool} (hl : EvX X fr l ρ p) (hr : Ev X r ρ q) (ho : Op2 X (compareOp op) p q (.bool b)) (hm : behindInMarks op r = false := by with_unfolding_all rfl) : ItX X fr (.Compare l [op] [r] pos) ρ b := fun V O s Q E F hO hQ =>
  wpAny_isTrue_Compare1 (hl V O s _ E F hO fun u s₁ g₁ r₁ => hr V O s₁ _ E (F.growX hO g₁) fun v s₂ g₂ r₂ => ho V s₂ u v _ E ((F.growX hO g₁).grow g₂).vol (r₁.grow g₂) r₂ fun x s₃ g₃ r₃ =>
    tr_bool V s₃ x Q E (((F.growX hO g₁).grow g₂).grow g₃).vol r₃ fun s₄ g₄ => hQ s₄ (g₁.trans (((g₂.trans g₃).trans g₄).x _))) hm
theorem ex1X_if {test : Expr} {body orelse : List Stmt} {pos : Pos} {b : Bool} {fl : PF} (ht : ItX X fr test ρ b) (h1 : b = true → ExX X fr body ρ fl ρ') (h2 : b = false → ExX X fr orelse ρ fl ρ') : Ex1X X fr (.If test body orelse pos) ρ fl ρ' := fun V O s Q E F ho hQ =>
  wpAny_If (ht V O s _ E F ho fun s₁ g₁ => by
    have F₁ := F.growX ho g₁
    have R₁ := F.ranX ho g₁
    cases b with
    | true => exact h1 rfl V O s₁ Q E F₁ (outV_grow ho g₁) fun V' O' s' f R hf => hQ V' O' s' f (R₁.trans R F ho) hf
    | false => exact h2 rfl V O s₁ Q E F₁ (outV_grow ho g₁) fun V' O' s' f R hf => hQ V' O' s' f (R₁.trans R F ho) hf)
theorem ex1X_assign {x : Str} {pos' pos : Pos} {e : Expr} {p : PV} (he : EvX X fr e ρ p) (h : Put ρ x p ρ') (hs : swapsWith e (some (.Name x pos')) pos.line X.env = pure false := by rfl) : Ex1X X fr (.Assign [.Name x pos'] e pos) ρ .next ρ' := fun V O s Q E F ho hQ =>
  wpAny_Assign_Name (he V O s _ E F ho fun v s₁ g r => (F.growX ho g).store h r fun s' F' st hoo =>
    hQ V O s' .next ((F.ranX ho g).trans ((ran_store h (F.growX ho g) F' st hoo).x (outV_grow ho g)) F ho) rfl) hs
theorem evx_call_fn {x : Str} {p pos : Pos} {f : Addr} {args : List Expr} {e : Expr} {ps : List PV} {r : PV} {n : Nat} {l : List Env} (hf : EvV X (.Name x p) ρ (.ref f)) (ha : Evs X pos (e :: args) ρ ps) (ho : FnX X f ps r n) (hA : Room X.A n)
    (hfr : X.A.frames = some (X.env :: l)) (hfe : FunEnvs l) (hk : X.env.scope.kind ≠ .module) (hfm : X.env.frame = some X.env.locals)
    (hse : ∃ y ys, backTo pos (starEach (e :: args) X.env) = (false, y) :: ys := by exact ⟨_, _, rfl⟩) : EvX X (frOf l) (.Call (.Name x p) (e :: args) [] pos) ρ r := fun V O s Q E F hO hQ => by
  rw [arm_eval_Call_Name']
  refine wpAny_bind (hf V O s _ E F ?_)
  obtain ⟨o, fd, hob, hda⟩ := ho.obj
  refine Calls.callWith_function (o := o) (fd := fd) ?_
  obtain ⟨y, ys, he⟩ := hse
  have hfl : frOf (X.env :: l) = X.env.locals :: frOf l := by show (X.env :: l).filterMap _ = _; rw [List.filterMap_cons, hfm]
  have key := ha V O s (fun vs s' => (s'.heap.get? f = some o ∧ o.data = .func fd) ∧ wpAny X.M X.A (call (.ref f) ([] ++ vs) []) Q E s') E F fun vs s₁ g₁ rs => by
    have F₁ := F.grow g₁
    refine ⟨⟨F₁.vol.keep _ _ hob, hda⟩, ho.run X.A hA (X.env :: l) hfr (fun env he => (List.mem_cons.mp he).elim (fun h => h ▸ ⟨hk, _, hfm⟩) (hfe env)) V s₁ vs Q E F₁.vol (fun L hL => ?_) rs fun v s₂ g₂ r => hQ v s₂ ((g₁.x _).trans (hfl ▸ g₂)) r⟩
    rw [hfl] at hL
    rcases List.mem_cons.mp hL with rfl | hL
    · obtain ⟨m, hn, _⟩ := F₁.vars
      exact ⟨F₁.own _ (List.mem_cons_self ..), m, hn⟩
    · obtain ⟨h1, _, m, hn⟩ := hO L hL
      exact ⟨h1, m, hn.keeps g₁.keep⟩
  rw [he] at key ⊢
  exact Calls.evalArgs_plain key
/-- a body that gives back p, and may ready the outer frames -/
noncomputable def RtX (X : Cx) (fr : List Addr) (ss : List Stmt) (ρ : Vars) (p : PV) : Prop := ∃ ρ', ExX X fr ss ρ (.ret p) ρ'
theorem rtx_cons {st : Stmt} {ss : List Stmt} {p : PV} (h : Ex1 X st ρ .next ρ') (r : RtX X fr ss ρ' p) : RtX X fr (st :: ss) ρ p := let ⟨_, r⟩ := r; ⟨_, exX_cons (Ex1.x h) r⟩
theorem rtx_consX {st : Stmt} {ss : List Stmt} {p : PV} (h : Ex1X X fr st ρ .next ρ') (r : RtX X fr ss ρ' p) : RtX X fr (st :: ss) ρ p := let ⟨_, r⟩ := r; ⟨_, exX_cons h r⟩
theorem Rt.x {ss : List Stmt} {p : PV} (r : Rt X ss ρ p) : RtX X fr ss ρ p := let ⟨_, r⟩ := r; ⟨_, Exs.x r⟩
end
end PL
end
noncomputable section
open PySem PySem.W PyProof.Rows PySem.Builtin.Str
set_option Elab.async false
set_option linter.unusedVariables false
set_option maxRecDepth 100000
set_option pp.maxSteps 600
namespace PL
local macro_rules | `(tactic| walk_at "at") => `(tactic| (repeat (first | exact At.here | exact AtMut.here | apply At.there | apply AtMut.there)))
local macro_rules | `(tactic| walk_at "put") => `(tactic| (repeat (first | exact Put.loc | exact Put.locNo | exact Put.cell | exact PutNew.no | exact PutNew.val | exact PutNew.mu | exact PutMut.here | exact Thaw.here | apply Put.there | apply PutNew.there | apply PutMut.there | apply Thaw.there)))
local macro_rules | `(tactic| walk_at "nm") => `(tactic| exact ev_name (by walk_at "at"))
local macro_rules | `(tactic| walk_at "ini") => `(tactic| (repeat (first | exact Ini.nil | apply Ini.argL rfl | apply Ini.loc rfl | apply Ini.argC rfl rfl | apply Ini.cell rfl rfl)))
local macro_rules | `(tactic| walk_at "nd") => `(tactic| (intro L O; simp [List.filterMap_cons, ownOf]))
local macro_rules | `(tactic| walk_at "nn") => `(tactic| (intro L; simp only [List.map_cons, List.map_nil]; decide))
local macro_rules | `(tactic| walk_at "kinds") => `(tactic| (intro L x hx; (repeat (rcases List.mem_cons.mp hx with h | hx; · (subst h; first | exact .inl rfl | exact .inr ⟨rfl, rfl⟩))); cases hx))
local macro_rules | `(tactic| walk_at "cap") => `(tactic| (repeat (first | exact Cap.cell | exact Cap.free | apply Cap.there)))
local macro_rules | `(tactic| walk_at "cini") => `(tactic| (intro C; repeat (first | exact CIni.nil | apply CIni.loc rfl | apply CIni.cell rfl rfl rfl | refine CIni.free rfl rfl (by walk_at "cap") ?_)))
noncomputable def colsT (lead text : List Nat) : List (Int × Int × Int) := (List.range (longest lead text + 2 - 1).toNat).map fun i => (1 + (i : Nat) * 1, column text (1 + (i : Nat) * 1), column lead (1 + (i : Nat) * 1))
theorem cols_T (lead text : List Nat) : cols lead text = (colsT lead text).map trip := by unfold cols colsT; rw [List.map_map]; rfl
noncomputable def witT (l m : List Nat) : List (Int × Int × Int) := ((List.range (wK l m + 1 - 1).toNat).filter fun i => wNot l m (1 + (i : Nat) * 1)).map fun i => (1 + (i : Nat) * 1, wLev l (1 + (i : Nat) * 1), wLev m (1 + (i : Nat) * 1))
theorem wit_T (l m : List Nat) : wWit l m = (witT l m).map trip := by unfold wWit wWitL witT; rw [List.map_map]; rfl
/-- the places that fit -/
noncomputable def placesOf (answers : List (List Int)) (turns : List Int) : List Nat := (List.range answers.length).filter fun k => decide (answers.getD k [] = turns)
noncomputable def dueOf (bound : Int) (n : Nat) : Int := if (n : Int) = 0 then (if bound + 1 < 4 then bound + 1 else 4) else if (n : Int) = 1 then 2 else -1
/-- what the trial of a new lead asks -/
structure PlacesOk (lead text : List Nat) (row : List Str) (answers : List (List Int)) (figure : Int) (turns : List Int) : Prop where
  ruler0 : (ruler text (figure.fmod 3))[0]? ≠ some 0
  trn : turnsOf (ruler text (figure.fmod 3)) (row.length + 1) = some turns
  due : lev lead text (2 + (figure.fdiv 3).fmod 5) = dueOf (2 + (figure.fdiv 3).fmod 5) (placesOf answers turns).length
  wit : ∀ k ∈ placesOf answers turns, witT (lead ++ [120, 9]) (text ++ [120, 32, 9]) = unseen (colsT lead text) text row k ∧ wLess (lead ++ [120, 9]) (text ++ [120, 32, 9]) = decide (unseen (colsT lead text) text row k = [])
  tiw : ∀ k ∈ placesOf answers turns, witT (text ++ [120, 32, 9]) (lead ++ [120, 9]) = colsT lead text ∧ wLess (text ++ [120, 32, 9]) (lead ++ [120, 9]) = false
theorem ruler_len2 (l : List Nat) (kind : Int) : (ruler l kind).length ≤ l.length + 3 := ruler_len l kind
noncomputable abbrev pv (lead text row answers : PV) (figure : Int) (L : Addr) (ruler turns places bound due lower upper place columns unseen : VV) : Vars :=
  [("lead", .loc, .val lead), ("text", .loc, .val text), ("row", .loc, .val row), ("answers", .cell (L + 1), .val answers), ("figure", .loc, .val (.int figure)), ("ruler", .loc, ruler), ("turns", .cell (L + 2), turns), ("places", .loc, places), ("bound", .loc, bound), ("due", .loc, due), ("lower", .loc, lower), ("upper", .loc, upper), ("place", .loc, place), ("columns", .loc, columns), ("unseen", .loc, unseen)]
section
variable {X : Cx} {mg mb' mN : Str → Option Value}
theorem places_loop {A : Around} {q : Str} {code : Value} {L : Addr} {lead text lo up : List Nat} {row : List Str} {figure bd du : Int} {ru tu an : List PV} {plv : PV} {pl : List Nat} (G : Pgm X mg mb') (K : Wsp X mN) (hA : Room A 5) (hu : A.units + 64 < cLine) (hl : lead.length ≤ 30) (ht : text.length ≤ 30) (hr : row.length ≤ 30)
    (hct : (colsT lead text).length ≤ 100) (hcp : ∀ t ∈ colsT lead text, 0 < t.1) (hcols : FnS X 153 [.str (T lead), .str (T text)] (.list ((colsT lead text).map trip)) 2)
    (hwit : ∀ a b : List Nat, a.length ≤ 1000 → b.length ≤ 1000 → FnS X 115 [wsOf a, wsOf b] (.list ((witT a b).map trip)) 2) (len1 : lo.length ≤ 1000) (len2 : up.length ≤ 1000) (hplm : ∀ k ∈ pl, k ≤ 40)
    (ok1 : ∀ k ∈ pl, witT lo up = unseen (colsT lead text) text row k ∧ wLess lo up = decide (unseen (colsT lead text) text row k = [])) (ok2 : ∀ k ∈ pl, witT up lo = colsT lead text ∧ wLess up lo = false) :
    ∀ (m : List Nat), (∀ k ∈ m, k ∈ pl) → LoopL { X with A := A, env := fenv q (mb 21) code L 165 } (ftgt (stm (fbody (mb 21)) 8)) (fbod (stm (fbody (mb 21)) 8)) (m.map fun (k : Nat) => PV.int (k : Int))
      (pv (.str (T lead)) (.str (T text)) (.list (row.map .str)) (.list an) figure L (.val (.list ru)) (.val (.list tu)) (.val plv) (.val (.int bd)) (.val (.int du)) (.val (wsOf lo)) (.val (wsOf up)) .no .no .no) .next
      (pv (.str (T lead)) (.str (T text)) (.list (row.map .str)) (.list an) figure L (.val (.list ru)) (.val (.list tu)) (.val plv) (.val (.int bd)) (.val (.int du)) (.val (wsOf lo)) (.val (wsOf up)) .no .no .no) := by
  let X₁ : Cx := { X with A := A, env := fenv q (mb 21) code L 165 }
  have W : Wd X₁ mg mb' := G.toGw.wd hA (st := mb 21) (L := L) (f := 165) (q := q) (code := code)
  intro m
  induction m with
  | nil => intro _; exact .nil
  | cons k m ih =>
    intro hm
    have hk := hm k (List.mem_cons_self ..)
    obtain ⟨k1, k2⟩ := ok1 k hk
    obtain ⟨k3, k4⟩ := ok2 k hk
    have hk40 := hplm k hk
    refine .cons (p := .int (k : Int)) (asg_name (by walk_at "put")) (exs_cons (ex_assign (p := .list ((colsT lead text).map trip)) (ev_call_fn (evv_global W G.m_columns rfl) (evs_cons (by walk_at "nm") (evs_cons (by walk_at "nm") evs_nil)) hcols.at hA.less) (by walk_at "put"))
      (exs_cons (ex_assign (p := .list ((unseen (colsT lead text) text row k).map trip)) (ev_call_fn (evv_global W G.m_unseen rfl) (evs_cons (by walk_at "nm") (evs_cons (by walk_at "nm") (evs_cons (by walk_at "nm") (evs_cons (by walk_at "nm") evs_nil)))) (fn_unseen G (colsT lead text) text row k hcp (by omega) (by omega) (by omega) (by omega)).at hA.less) (by walk_at "put"))
      (exs_cons (ex_if (it_boolop (its_or (it_cmp (ev_call_meth (K.at : Wsp X₁ mN) (by walk_at "nm") K.i_wit ob_wit K.k_wit (evs_cons (by walk_at "nm") evs_nil) (hwit lo up len1 len2).at hA.less) (by walk_at "nm") (op_trps_ne hu)) fun _ => its_or (it_cmp (ev_call_meth (K.at : Wsp X₁ mN) (by walk_at "nm") K.i_less ob_less K.k_less (evs_cons (by walk_at "nm") evs_nil) (fn_less G K lo up len1 len2).at hA.less) (ev_compare (by walk_at "nm") (ev_list evs_nil) (op_trps_eq (d := []) hu)) op_bne) fun _ => its_or_nil)) (fun h => ?_) (fun _ => exs_nil))
      (exs_cons (ex_if (it_boolop (its_or (it_cmp (ev_call_meth (K.at : Wsp X₁ mN) (by walk_at "nm") K.i_wit ob_wit K.k_wit (evs_cons (by walk_at "nm") evs_nil) (hwit up lo len2 len1).at hA.less) (by walk_at "nm") (op_trps_ne hu)) fun _ => its_or (it_value (ev_call_meth (K.at : Wsp X₁ mN) (by walk_at "nm") K.i_less ob_less K.k_less (evs_cons (by walk_at "nm") evs_nil) (fn_less G K up lo len2 len1).at hA.less) tr_bool) fun _ => its_or_nil)) (fun h => ?_) (fun _ => exs_nil))
      (exs_done (.same (.same (.same (.same (.same (.same (.same (.same (.same (.same (.same (.same (.drop (.drop (.drop .nil)))))))))))))))))))) (ih fun j hj => hm j (List.mem_cons_of_mem _ hj))
    · rw [k1, k2] at h; simp at h
    · rw [k3, k4] at h; simp at h
set_option maxHeartbeats 1000000 in
theorem fn_places (G : Pgm X mg mb') (K : Wsp X mN) (hC : X.C = 118) (hlow : ∃ b o, sysModules < b ∧ X.base.get? b = some o) (lead text : List Nat) (row : List Str) (answers : List (List Int)) (figure : Int) (turns : List Int) (wl : Ws lead) (wt : Ws text) (hl : lead.length ≤ 30) (ht : text.length ≤ 30) (hr : row.length ≤ 30) (ha : answers.length ≤ 40)
    (hok : PlacesOk lead text row answers figure turns) : FnX X 165 [.str (T lead), .str (T text), .list (row.map .str), .list (answers.map fun a => .list (iL a)), .int figure] (.list ((placesOf answers turns).map fun (k : Nat) => PV.int (k : Int))) 6 := by
  have big : (200000 : Nat) < sizeLine := by decide
  refine fn_ofX G.toGw (fun L => pv (.str (T lead)) (.str (T text)) (.list (row.map .str)) (.list (answers.map fun a => .list (iL a))) figure L .no .no .no .no .no .no .no .no .no .no) (xs := ["lead", "text", "row", "answers", "figure"]) G.f_places ?_ (by decide) (by walk_at "kinds") (fun L => by walk_at "ini") (by walk_at "nd") (by walk_at "nn") ?_
  · intro n q doc pm an code ct vs hvs
    match vs, hvs with
    | [u1, u2, u3, u4, u5], _ => rfl
  intro A q code L l hA hfr hfe
  have hh := hA.handled
  let X₁ : Cx := { X with A := A, env := fenv q (mb 21) code L 165 }
  have W : Wd X₁ mg mb' := G.toGw.wd hA (st := mb 21) (L := L) (f := 165) (q := q) (code := code)
  have hcut := ruler_len text (figure.fmod 3)
  show RtX X₁ (frOf l) (fbody (mb 21)) _ _
  refine rtx_cons (ex_assign (p := .list (iL (ruler text (figure.fmod 3)))) (ev_call_fn (evv_global W G.m_ruler rfl) (evs_cons (by walk_at "nm") (evs_cons (ev_binop (by walk_at "nm") ev_int (op_mod (by decide))) evs_nil)) (fn_ruler G text _ (by omega)).at hA.less) (by walk_at "put")) ?_
  refine rtx_cons ((ex_assign (p := .list (iL turns)) (ev_call_fn (evv_global W G.m_turns rfl) (evs_cons (by walk_at "nm") (evs_cons (ev_binop (ev_call_builtin (id := "len") (evv_builtin W G.n_len G.b_len rfl) (evs_cons (by walk_at "nm") evs_nil) (op_len (by rw [List.length_map]; omega))) ev_int op_add) evs_nil)) (fn_turns G _ _ turns (by omega) (by rw [List.length_map]; omega) hok.ruler0 (by rw [List.length_map]; exact hok.trn)).at hA.less) (by walk_at "put"))) ?_
  have hu : A.units + 64 < cLine := by have := hA.units; omega
  have erng : rng 0 1 answers.length = (List.range answers.length).map fun (k : Nat) => PV.int (k : Int) := by
    unfold rng; exact List.map_congr_left fun k _ => by rw [show (0 : Int) + (k : Nat) * 1 = k by omega]
  refine rtx_cons ((ex_assign_comp (cl := [("turns", L + 2), ("answers", L + 1)]) (l := rng 0 1 answers.length) (out := (placesOf answers turns).map fun (k : Nat) => PV.int (k : Int)) (fun C => [("k", .loc, .no), ("answers", .free (L + 1), .val (.list (answers.map fun a => .list (iL a)))), ("turns", .free (L + 2), .val (.list (iL turns)))])
    (it_range1 hh (evv_builtin W G.n_range G.b_range rfl) (by rw [← List.length_map (as := answers) (f := fun a => PV.list (iL a))]; exact ev_call_builtin (id := "len") (evv_builtin W G.n_len G.b_len rfl) (evs_cons (by walk_at "nm") evs_nil) (op_len (by rw [List.length_map]; omega))) (by omega)) (fun C => ?_) (by walk_at "cini") (by walk_at "nd") (by walk_at "nn") (by rw [rng_length]; omega) (by walk_at "put"))) ?_
  · rw [erng]
    unfold placesOf
    refine cmp_filter fun k hk => ⟨_, asg_name (by walk_at "put"), .one (it_cmp (ev_item (k := k) (p := .list (iL (answers.getD k []))) (by walk_at "nm") (by walk_at "nm") ?_ (by rw [List.length_map]; omega)) (by walk_at "nm") (op_ints_eq hu)), fun _ => by walk_at "nm", .drop (.same (.same .nil))⟩
    have hk' : k < answers.length := List.mem_range.mp hk
    rw [List.getElem?_map, List.getElem?_eq_getElem hk']; simp [List.getD_eq_getElem?_getD, hk']
  obtain ⟨pl, hpl⟩ : ∃ pl, pl = placesOf answers turns := ⟨_, rfl⟩
  have hpln : pl.length ≤ 40 := by rw [hpl]; unfold placesOf; exact Nat.le_trans (List.length_filter_le _ _) (by rw [List.length_range]; exact ha)
  have hplm : ∀ k ∈ pl, k ≤ 40 := fun k hk => by rw [hpl] at hk; unfold placesOf at hk; have := List.mem_range.mp (List.mem_filter.mp hk).1; omega
  rw [← hpl]
  refine rtx_cons ((ex_assign (p := .int (2 + (figure.fdiv 3).fmod 5)) (ev_binop ev_int (ev_binop (ev_binop (by walk_at "nm") ev_int (op_floordiv (by decide) (pylong_small (by decide)))) ev_int (op_mod (by decide))) op_add) (by walk_at "put"))) ?_
  obtain ⟨bd, hbd⟩ : ∃ bd, bd = 2 + (figure.fdiv 3).fmod 5 := ⟨_, rfl⟩
  rw [← hbd]
  refine rtx_cons ((ex_assign (p := .int (dueOf bd pl.length)) ?_ (by walk_at "put"))) ?_
  · exact ev_dictget2 (by decide) ev_int (ev_call_builtin (id := "min") (evv_builtin W G.n_min G.b_min rfl) (evs_cons ev_int (evs_cons (ev_binop (by walk_at "nm") ev_int op_add) evs_nil)) (op_min hh)) ev_int ev_int
      (by rw [← List.length_map (as := pl) (f := fun (k : Nat) => PV.int (k : Int))]; exact ev_call_builtin (id := "len") (evv_builtin W G.n_len G.b_len rfl) (evs_cons (by walk_at "nm") evs_nil) (op_len (by rw [List.length_map]; omega))) (ev_unary ev_int op_neg) hlow
  have hdue : lev lead text bd = dueOf bd pl.length := by rw [hbd, hpl]; exact hok.due
  obtain ⟨du, hdu⟩ : ∃ du, du = dueOf bd pl.length := ⟨_, rfl⟩
  rw [← hdu]
  refine rtx_consX (ex1X_if (b := (!true || (lev lead text bd != du))) (fl := .next) (ρ' := pv (.str (T lead)) (.str (T text)) (.list (row.map .str)) (.list (answers.map fun a => .list (iL a))) figure L (.val (.list (iL (ruler text (figure.fmod 3))))) (.val (.list (iL turns))) (.val (.list (pl.map fun (k : Nat) => PV.int (k : Int)))) (.val (.int bd)) (.val (.int du)) .no .no .no .no .no)
    (itx_or (itx_not (itx_value (evx_call_fn (evv_global W G.m_refused rfl) (evs_cons (by walk_at "nm") evs_nil) (fn_refused G _ (by omega)).at hA.less hfr hfe (by show (fscope (mb 21)).kind ≠ .module; decide) rfl) tr_bool)) (fun _ => it_cmp (ev_call_fn (evv_global W G.m_lev rfl) (evs_cons (by walk_at "nm") (evs_cons (by walk_at "nm") (evs_cons (by walk_at "nm") evs_nil))) (fn_lev G lead text bd wl wt (by omega) (by omega)).at hA.less) (by walk_at "nm") op_ne)) (fun h => ?_) (fun _ => Exs.x exs_nil)) ?_
  · rw [hdue, ← hdu] at h; simp at h
  have hws : ∀ p ρ, EvV X₁ (.Name "Whitespace" p) ρ (.ref X₁.C) := fun p ρ => by rw [show X₁.C = 118 from hC]; exact evv_global W G.m_ws rfl
  have hA1 : Room X₁.A 3 := hA.less
  refine rtx_cons (ex_assign (p := wsOf (lead ++ [120, 9])) (ev_call_cls (K.at : Wsp X₁ mN) (hws _ _) (ev_cat (by walk_at "nm") (show Ev X₁ _ _ (.str (T [120, 9])) from ev_str) (by simp; omega)) (init_run (X := X₁) { G with } K.at hC _ (by simp; omega)) hA1) (by walk_at "put")) ?_
  refine rtx_cons (ex_assign (p := wsOf (text ++ [120, 32, 9])) (ev_call_cls (K.at : Wsp X₁ mN) (hws _ _) (ev_cat (by walk_at "nm") (show Ev X₁ _ _ (.str (T [120, 32, 9])) from ev_str) (by simp; omega)) (init_run (X := X₁) { G with } K.at hC _ (by simp; omega)) hA1) (by walk_at "put")) ?_
  have hlo := longest_le lead text
  have hct : (colsT lead text).length ≤ 100 := by unfold colsT; rw [List.length_map, List.length_range]; omega
  have hcp : ∀ t ∈ colsT lead text, 0 < t.1 := fun t ht => by
    obtain ⟨i, _, rfl⟩ := List.mem_map.mp ht
    show (0 : Int) < 1 + (i : Nat) * 1
    omega
  have hcols : FnS X 153 [.str (T lead), .str (T text)] (.list ((colsT lead text).map trip)) 2 := by rw [← cols_T]; exact fn_columns G lead text (by omega) (by omega)
  have hwit : ∀ a b : List Nat, a.length ≤ 1000 → b.length ≤ 1000 → FnS X 115 [wsOf a, wsOf b] (.list ((witT a b).map trip)) 2 := fun a b h1 h2 => by rw [← wit_T]; exact fn_wit G K a b h1 h2
  have len1 : (lead ++ [120, 9]).length ≤ 1000 := by simp; omega
  have len2 : (text ++ [120, 32, 9]).length ≤ 1000 := by simp; omega
  have ok1 : ∀ k ∈ pl, witT (lead ++ [120, 9]) (text ++ [120, 32, 9]) = unseen (colsT lead text) text row k ∧ wLess (lead ++ [120, 9]) (text ++ [120, 32, 9]) = decide (unseen (colsT lead text) text row k = []) := by rw [hpl]; exact hok.wit
  have ok2 : ∀ k ∈ pl, witT (text ++ [120, 32, 9]) (lead ++ [120, 9]) = colsT lead text ∧ wLess (text ++ [120, 32, 9]) (lead ++ [120, 9]) = false := by rw [hpl]; exact hok.tiw
  have loop := places_loop (L := L) (q := q) (code := code) (ru := iL (ruler text (figure.fmod 3))) (tu := iL turns) (an := answers.map fun a => PV.list (iL a)) (plv := .list (pl.map fun (k : Nat) => PV.int (k : Int))) (figure := figure) (bd := bd) (du := du) G K hA hu hl ht hr hct hcp hcols hwit len1 len2 hplm ok1 ok2
  exact Rt.x (rt_cons (ex_forL (it_list hh (by walk_at "nm")) (loop pl fun k hk => hk)) (rt_return (by walk_at "nm")))
end
end PL
end
noncomputable section
open PySem PySem.W PyProof.Rows
set_option Elab.async false
set_option linter.unusedVariables false
set_option maxRecDepth 100000
set_option pp.maxSteps 600
namespace PL
theorem strs_flat {C V h V' h'} {ys : List Str} {vs : List Value} (r : Reps C V h (ys.map PV.str) vs) : Reps C V' h' (ys.map PV.str) vs := reps_flat (fun p hp => by obtain ⟨y, _, rfl⟩ := List.mem_map.mp hp; trivial) r
theorem reps_strsAre {C V h} : ∀ {ys : List Str} {vs : List Value}, StrsAre vs ys → Reps C V h (ys.map PV.str) vs
  | _, _, .nil => .nil
  | _, _, .cons y t h => .cons ⟨t, rfl⟩ (reps_strsAre h)
/-- sorted by a key that gives the texts themselves -/
theorem zip_same : ∀ {xs : List Str} {ks vs : List Value}, StrsAre ks xs → StrsAre vs xs → (∀ p ∈ ks.zip vs, ∃ x t t', p.1 = .str x t ∧ p.2 = .str x t') ∧ (ks.zip vs).map (fun p => strOf p.1) = xs
  | _, _, _, .nil, .nil => ⟨by simp, rfl⟩
  | _, _, _, .cons x t h, .cons _ t' h' => by
    obtain ⟨h1, h2⟩ := zip_same h h'
    refine ⟨fun p hp => ?_, ?_⟩
    · rcases List.mem_cons.mp hp with rfl | hp
      · exact ⟨x, t, t', rfl, rfl⟩
      · exact h1 p hp
    · simp only [List.zip_cons_cons, List.map_cons, h2]; rfl
theorem out_strs {xs : List Str} {ks vs : List Value} (hk : StrsAre ks xs) (hv : StrsAre vs xs) {arr : Array Keyed} (hp : arr.Perm (ks.toArray.zip vs.toArray)) (hs : SortedToK strKind arr arr.size) :
    ∃ ys : List Str, ys.Perm xs ∧ ys.Pairwise (fun a b => ¬ b.cps.toList < a.cps.toList) ∧ StrsAre (arr.map (·.2)).toList ys := by
  obtain ⟨z1, z2⟩ := zip_same hk hv
  have hl : arr.toList.Perm (ks.zip vs) := by
    have := Array.perm_iff_toList_perm.mp hp
    simpa using this
  have hm : ∀ p ∈ arr.toList, ∃ x t t', p.1 = .str x t ∧ p.2 = .str x t' := fun p hp' => z1 p (hl.mem_iff.mp hp')
  refine ⟨arr.toList.map fun p => strOf p.1, ?_, ?_, ?_⟩
  · have := hl.map (fun p => strOf p.1)
    rwa [z2] at this
  · rw [List.pairwise_map, List.pairwise_iff_getElem]
    intro i j hi hj hij
    have hi' : i < arr.size := by simpa using hi
    have hj' : j < arr.size := by simpa using hj
    obtain ⟨x, t, _, ex, _⟩ := hm arr[i] (by simp)
    obtain ⟨y, u, _, ey, _⟩ := hm arr[j] (by simp)
    have h1 := hs i j (Nat.le_of_lt hij) hj'
    rw [KK_str hi' (x := x) (t := t) (q := arr[i].2) (Prod.ext ex rfl), KK_str hj' (x := y) (t := u) (q := arr[j].2) (Prod.ext ey rfl)] at h1
    change decide (y.cps.toList < x.cps.toList) = false at h1
    simp only [Array.getElem_toList]
    rw [show strOf arr[i].1 = x by rw [ex]; rfl, show strOf arr[j].1 = y by rw [ey]; rfl]
    exact of_decide_eq_false h1
  · rw [Array.toList_map]
    have key : ∀ l : List Keyed, (∀ p ∈ l, ∃ x t t', p.1 = .str x t ∧ p.2 = .str x t') → StrsAre (l.map (·.2)) (l.map fun p => strOf p.1) := by
      intro l
      induction l with
      | nil => intro _; exact .nil
      | cons p l ih =>
        intro h
        obtain ⟨x, t, t', e1, e2⟩ := h p (List.mem_cons_self ..)
        simp only [List.map_cons]
        rw [e1, e2]
        exact .cons x t' (ih fun q hq => h q (List.mem_cons_of_mem _ hq))
    exact key _ hm
section
variable {X : Cx} {f : Addr} {n : Nat}
theorem key_rest (hf : ∀ x, FnS X f [.str x] (.str x) n) {A : Around} (hA : Room A n) {V : Addr → Prop} {s₀ s : Shared} (vol : Vol X.base V s₀) (g : Grow s₀ s) {xs : List Str} {vs : List Value} (hv : StrsAre vs xs) (h2 : 2 ≤ xs.length) (h64 : xs.length < 64) {a kS : Addr} {e1 : Nat}
    {b : Bool} (hb : b = false) (hka : kS ≠ a) (hk : s.heap.get? kS = some (seqObj "list" #[] 0)) (ha : s.heap.get? a = some (seqObj "list" #[] e1)) (hk0 : s₀.heap.get? kS = none) (ha0 : s₀.heap.get? a = none) {P : PySem.Fin → Shared → Prop} {E : Value → Shared → Prop}
    (h : ∀ s' ys us c, Grow s₀ s' → s'.heap.get? a = some (seqObj "list" us c) → ys.Perm xs → ys.Pairwise (fun a b => ¬ b.cps.toList < a.cps.toList) → StrsAre us.toList ys → P (.done (.ret .none)) s') :
    wpAny X.M A (ksk_rest a (.ref f) b vs.toArray e1 (.ref kS)) P E s := by
  have hlen : vs.length = xs.length := hv.length
  unfold ksk_rest
  refine wpAny_bind (wpAny_rule ?_)
  rw [List.forIn_toArray]
  refine wpAny_bind (ksk_fold (fun i s' => ∃ kA e, Grow s₀ s' ∧ s'.heap.get? kS = some (seqObj "list" kA e) ∧ s'.heap.get? a = some (seqObj "list" #[] e1) ∧ StrsAre kA.toList (xs.take i)) vs 0 s
    ⟨#[], 0, g, hk, ha, by simpa using StrsAre.nil⟩ (fun j x s' hx hI => ?_) (fun s' hI => ?_))
  · obtain ⟨kA, e, g', hk', ha', hS⟩ := hI
    simp only [Nat.zero_add] at hS ⊢
    have hj : j < vs.length := (List.getElem?_eq_some_iff.mp hx).1
    obtain ⟨y, hy⟩ : ∃ y, xs[j]? = some y := ⟨_, List.getElem?_eq_getElem (by omega)⟩
    have hr : Reps X.C V s'.heap (xs.map .str) vs := reps_strsAre hv
    obtain ⟨v, hv', rv⟩ := hr.get (i := j) (p := .str y) (by rw [List.getElem?_map, hy]; rfl)
    rw [hx] at hv'; cases hv'
    have hz : kA.size ≤ vs.length := by
      have h1 := hS.length
      rw [Array.length_toList, List.length_take] at h1
      omega
    refine wpAny_bind (wpAny_attempt ((hf y).run A hA V s' [x] _ _ (vol.grow g') (.one rv) fun k s'' g'' rk => ?_))
    obtain ⟨t2, rfl⟩ := rk
    try dsimp only
    have hk'' := g''.keep _ _ hk'
    have ha'' := g''.keep _ _ ha'
    have s1 := Heap.SameBut.update s''.heap kS (Obj.mapSeq (·.push (.str y t2)))
    obtain ⟨c2, hc2⟩ : ∃ c2, (s''.heap.update kS (Obj.mapSeq (·.push (.str y t2)))).get? kS = some (seqObj "list" (kA.push (.str y t2)) c2) := ⟨_, get?_update_seq hk'' (·.push (.str y t2))⟩
    refine wpAny_bind (listUpdate_at hk'' rfl ?_ (by rw [sizeLine_eq]; omega) (Nat.le_trans (Nat.le_of_eq (Array.size_push ..)) (by rw [sizeLine_eq]; omega)))
    refine wpAny_pure ⟨rfl, kA.push (.str y t2), c2, ⟨fun b o eb => (s1.2 b (fun q => by rw [q, hk0] at eb; cases eb)).trans (g''.keep b o (g'.keep b o eb)), g''.os.trans g'.os, g'.gens.trans g''.gens⟩, hc2, (s1.2 a hka.symm).trans ha'', ?_⟩
    have ek : xs.take (j + 1) = xs.take j ++ [y] := by rw [List.take_add_one, hy]; rfl
    have ea : (kA.push (Value.str y t2)).toList = kA.toList ++ [Value.str y t2] := by simp
    have r1 : Reps X.C V s'.heap ((xs.take j).map PV.str) kA.toList := reps_strsAre hS
    rw [ea, ek]
    refine strsAre_of (C := X.C) (V := V) (h := s'.heap) ?_
    rw [List.map_append]
    exact r1.append (.one ⟨t2, rfl⟩)
  · obtain ⟨kA, e, g', hk', ha', hS⟩ := hI
    have hS' : StrsAre kA.toList xs := by rwa [List.take_of_length_le (by omega)] at hS
    try dsimp only
    refine wpAny_bind (listItems_at hk' rfl ?_)
    have hksz : kA.size = xs.length := by have := hS'.length; rwa [Array.length_toList] at this
    unfold ksk_end
    try dsimp only
    have hnlt : ¬ vs.toArray.size < 2 := by rw [List.size_toArray]; omega
    rw [if_neg (by rw [hb]; decide), if_neg hnlt, if_neg hnlt]
    have hkk : keyKind' kA = pure oneType' := by
      obtain ⟨v₁, v₂, rest, el⟩ : ∃ v₁ v₂ rest, kA.toList = v₁ :: v₂ :: rest := by
        have hl : 2 ≤ kA.toList.length := by rw [Array.length_toList]; omega
        cases q : kA.toList with
        | nil => rw [q] at hl; simp at hl
        | cons v₁ r =>
          cases r with
          | nil => rw [q] at hl; simp at hl
          | cons v₂ rest => exact ⟨v₁, v₂, rest, rfl⟩
      have ek : kA = (v₁ :: v₂ :: rest).toArray := by rw [← el, Array.toArray_toList]
      rw [el] at hS'
      rw [ek]
      exact keyKind_strs hS'
    rw [hkk]
    refine wpAny_bind (wpAny_pure ?_)
    have hzs : (kA.zip vs.toArray).size = xs.length := by rw [Array.size_zip, hksz, List.size_toArray, hlen, Nat.min_self]
    have hkeys : PyProof.Rows.KeysOf strKind (kA.zip vs.toArray) := fun p hp => by
      have hp' : p ∈ kA.toList.zip vs := by simpa using hp
      obtain ⟨x, t, t', e1, _⟩ := (zip_same hS' hv).1 p hp'
      exact ⟨x.cps.toList, by rw [e1]⟩
    refine wpAny_bind (wpAny_mono (wpS_sortRunsK strKind_oneLt (a₀ := kA.zip vs.toArray) (st := SortSt.mk' oneType' (if b then (kA.zip vs.toArray).reverse else kA.zip vs.toArray) #[] 7 none)
      (Q := fun _ st' => (arrOf st').Perm (kA.zip vs.toArray) ∧ failedOf st' = none ∧ SortedToK strKind (arrOf st') (kA.zip vs.toArray).size)
      hkeys ⟨by rw [hb]; exact Array.Perm.refl _, rfl, rfl, rfl⟩ (by rw [hzs]; omega) (by rw [hzs]; exact h64) fun st' a1 a2 a3 => ⟨a1, a2, a3⟩) ?_ fun _ _ e => e)
    rintro ⟨⟨⟩, st'⟩ s'' ⟨rfl, hp, hfl, hs⟩
    try dsimp only
    have hps : (arrOf st').size = xs.length := by rw [hp.size_eq, hzs]
    obtain ⟨ys, y1, y2, y3⟩ := out_strs hS' hv (arr := arrOf st') (by simpa using hp) (by rw [hps, ← hzs]; exact hs)
    unfold ksk_tail
    try dsimp only
    rw [if_neg (show ¬ b = true by rw [hb]; decide), hfl]
    have hsz3 : ((arrOf st').map (·.2)).size = xs.length := by rw [Array.size_map, hps]
    generalize (arrOf st').map (·.2) = srt at y3 hsz3 ⊢
    have s1 := Heap.SameBut.update s''.heap kS (Obj.mapSeq fun _ => (#[] : Array Value))
    have ha1 : (s''.heap.update kS (Obj.mapSeq fun _ => (#[] : Array Value))).get? a = some (seqObj "list" #[] e1) := (s1.2 a hka.symm).trans ha'
    have s2 := Heap.SameBut.update (s''.heap.update kS (Obj.mapSeq fun _ => (#[] : Array Value))) a (Obj.mapSeq fun _ => srt)
    have hc2 := get?_update_seq ha1 fun _ => srt
    refine wpAny_bind (listUpdate_at hk' rfl ?_ (by rw [hksz, sizeLine_eq]; omega) (Nat.zero_le _))
    refine wpAny_bind (wpAny_letGo ?_)
    refine wpAny_bind (seqEpoch_at ha1 rfl ?_)
    refine wpAny_bind (listUpdate_at ha1 rfl ?_ (Nat.zero_le _) (by rw [hsz3, sizeLine_eq]; omega))
    simp only [bne_self_eq_false, Bool.false_eq_true, if_false]
    exact wpAny_pure (h _ ys srt _ ⟨fun b o eb => (s2.2 b (fun q => by rw [q, ha0] at eb; cases eb)).trans ((s1.2 b (fun q => by rw [q, hk0] at eb; cases eb)).trans (g'.keep b o eb)), g'.os, g'.gens⟩ hc2 y1 y2 y3)
noncomputable def leS (a b : Str) : Bool := decide (¬ b.cps.toList < a.cps.toList)
noncomputable def sortS (xs : List Str) : List Str := xs.mergeSort leS
theorem str_eq_of {a b : Str} (h1 : ¬ b.cps.toList < a.cps.toList) (h2 : ¬ a.cps.toList < b.cps.toList) : a = b := by
  have := List.le_antisymm (List.not_lt.mp h1) (List.not_lt.mp h2)
  cases a; cases b; simpa using this
theorem sortS_perm (xs : List Str) : (sortS xs).Perm xs := List.mergeSort_perm _ _
theorem sortS_sorted (xs : List Str) : (sortS xs).Pairwise (fun a b => ¬ b.cps.toList < a.cps.toList) := by
  have := List.pairwise_mergeSort (le := leS) (fun a b c h1 h2 => by
      have h1' : ¬ b.cps.toList < a.cps.toList := of_decide_eq_true h1
      have h2' : ¬ c.cps.toList < b.cps.toList := of_decide_eq_true h2
      refine decide_eq_true fun h3 => ?_
      rcases strKind.negTrans _ b.cps.toList _ (decide_eq_true h3) with h | h
      · exact h2' (of_decide_eq_true h)
      · exact h1' (of_decide_eq_true h))
    (fun a b => by
      by_cases h : b.cps.toList < a.cps.toList
      · have : ¬ a.cps.toList < b.cps.toList := fun h' => List.lt_irrefl _ (List.lt_trans h h')
        simp [leS, this]
      · simp [leS, h]) xs
  exact this.imp fun h => of_decide_eq_true h
theorem sortS_unique {xs ys : List Str} (h1 : ys.Perm xs) (h2 : ys.Pairwise (fun a b => ¬ b.cps.toList < a.cps.toList)) : ys = sortS xs :=
  List.Perm.eq_of_pairwise (fun a b _ _ h1 h2 => str_eq_of h1 h2) h2 (sortS_sorted xs) (h1.trans (sortS_perm xs).symm)
theorem ev_sorted {ρ : Vars} {x : Str} {p pos kp : Pos} {e ke : Expr} {xs : List Str} (hs : EvV X (.Name x p) ρ (.builtin "sorted")) (he : Ev X e ρ (.list (xs.map .str))) (hk : EvV X ke ρ (.ref f)) (hf : ∀ x, FnS X f [.str x] (.str x) n) (hA : Room X.A (n + 1)) (h2 : 2 ≤ xs.length) (h64 : xs.length < 64)
    (h1 : backTo pos (starEach (e :: []) X.env) = (false, eval e X.env) :: backTo pos (starEach [] X.env) := by rfl)
    (hplain : (backTo pos (starEach (e :: []) X.env)).any (·.1) = false := by rfl)
    (hall : (backToKw pos (keywordEach [⟨some "key", ke, kp⟩] X.env)).all (·.1.isSome) = true := by rfl)
    (hkw : (backToKw pos (keywordEach [⟨some "key", ke, kp⟩] X.env)).any (·.1.isNone) = false := by rfl)
    (hse : starEach [e] X.env = (false, eval e X.env) :: starEach [] X.env := by rfl) : Ev X (.Call (.Name x p) [e] [⟨some "key", ke, kp⟩] pos) ρ (.list ((sortS xs).map .str)) := fun V O s Q E F hQ => by
  refine wpAny_Call_ofName (hs V O s _ E F ?_)
  refine callWith_kw ?_ h1 hplain hall hkw
  refine (evs_cons (pos := pos) he evs_nil hse) V O s _ E F fun us s₁ g₁ rs => ?_
  simp only [Cx.Rs, Reps] at rs
  obtain ⟨v, _, rfl, rv, rfl⟩ := rs
  obtain ⟨l, vs, rfl, hV, hl, rs⟩ := rep_list rv
  have F₁ := F.grow g₁
  refine kws_cons (hk V O s₁ _ E F₁ (kws_nil ?_))
  show wpAny X.M X.A (call (.builtin "sorted") [.ref l] [(Str.ofString "key", .ref f)]) Q E s₁
  have hS := strsAre_of rs
  have hlen : vs.length = xs.length := hS.length
  have hA' : Room X.A.in1.in1 n := ⟨hA.handled, by have := hA.depth; show X.A.depth + n < _; omega, by have := hA.units; show X.A.units + 1 + 1 + 10 * n + 20 < _; omega⟩
  refine call_function_entry_kw kind_sorted plain_sorted entry_sorted (ksk_s1 _ _) ?_
  unfold Builtin.«sorted»
  refine wpAny_bind (m := checkCount "sorted" 1 1 _) (wpAny_pure ?_)
  refine wpAny_bind (collect_list hl ?_ (by rw [sizeLine_eq]; omega))
  refine wpAny_bind (wpAny_newList ?_ (by rw [sizeLine_eq]; omega))
  have hsz : ((s₁.heap.push (seqObj "list" #[] 0)).update s₁.heap.objs.size (Obj.mapSeq (· ++ vs.toArray))).objs.size = s₁.heap.objs.size + 1 := by
    rw [Heap.size_update, size_push']
  have hoL : (((s₁.heap.push (seqObj "list" #[] 0)).update s₁.heap.objs.size (Obj.mapSeq (· ++ vs.toArray))).push (seqObj "list" vs.toArray 0)).get? (s₁.heap.objs.size + 1) = some (seqObj "list" vs.toArray 0) := by
    rw [← hsz]; exact Heap.get?_push_size _ rfl
  have keep : ∀ b o, s₁.heap.get? b = some o → (((s₁.heap.push (seqObj "list" #[] 0)).update s₁.heap.objs.size (Obj.mapSeq (· ++ vs.toArray))).push (seqObj "list" vs.toArray 0)).get? b = some o := fun b o q => by
    have hlt : b < s₁.heap.objs.size := Heap.lt_size q
    rw [Heap.get?_push_ne _ _ _ (by rw [hsz]; exact Nat.ne_of_lt (Nat.lt_succ_of_lt hlt)), Heap.get?_update_ne _ _ _ _ (Nat.ne_of_lt hlt), Heap.get?_push_ne _ _ _ (Nat.ne_of_lt hlt)]
    exact q
  show wpAny _ _ _ _ _ { s₁ with heap := ((s₁.heap.push (seqObj "list" #[] 0)).update s₁.heap.objs.size (Obj.mapSeq (· ++ vs.toArray))).push (seqObj "list" vs.toArray 0) }
  rw [hsz]
  generalize hh₂ : ((s₁.heap.push (seqObj "list" #[] 0)).update s₁.heap.objs.size (Obj.mapSeq (· ++ vs.toArray))).push (seqObj "list" vs.toArray 0) = h₂ at hoL keep ⊢
  generalize ha : s₁.heap.objs.size + 1 = a at hoL ⊢
  have ha0 : s₁.heap.get? a = none := by
    cases e : s₁.heap.get? a with
    | none => rfl
    | some o => exact absurd (Heap.lt_size e) (by rw [← ha]; exact Nat.not_lt.mpr (Nat.le_succ _))
  refine wpAny_bind (wpAny_holding (wpAny_call_entry_kw slot_list_sort ⟨_, hoL, rfl⟩ entry_list_sort ?body (ksk_l1 _ _)))
  case body =>
    show wpAny X.M X.A.in1.in1 (Builtin.«list.sort» ⟨[.ref a], [(Str.ofString "key", .ref f)]⟩) _ _ _
    rw [ksk_t1 f a]
    unfold ksk_tree
    have hlt : a < h₂.objs.size := Heap.lt_size hoL
    have s1 := Heap.SameBut.update h₂ a (Obj.mapSeq fun _ => (#[] : Array Value))
    have ho1 := get?_update_seq hoL fun _ => (#[] : Array Value)
    generalize hh₃ : h₂.update a (Obj.mapSeq fun _ => (#[] : Array Value)) = h₃ at s1 ho1
    have hs3 : h₃.objs.size = h₂.objs.size := s1.1
    refine wpAny_bind (listItems_at hoL rfl ?_)
    refine wpAny_bind (listUpdate_at hoL rfl ?_ (by rw [List.size_toArray, sizeLine_eq]; omega) (Nat.zero_le _))
    rw [hh₃]
    refine wpAny_bind (seqEpoch_at ho1 rfl ?_)
    refine wpAny_bind (wpAny_newTuple ?_ (by show vs.length ≤ _; rw [sizeLine_eq]; omega))
    refine wpAny_bind (wpAny_newList ?_ (Nat.zero_le _))
    refine wpAny_holding ?_
    have up : ∀ b o, h₃.get? b = some o → ((h₃.push { cls := .type "tuple", data := .seq vs.toArray.toList.toArray }).push { cls := .type "list", data := .seq ([] : List Value).toArray }).get? b = some o := fun b o e => Heap.get?_push_of_some _ (Heap.get?_push_of_some _ e)
    have hkS : h₂.objs.size < (h₃.push { cls := .type "tuple", data := .seq vs.toArray.toList.toArray }).objs.size := by rw [size_push', hs3]; exact Nat.lt_succ_self _
    have hk0 : s₁.heap.get? (h₃.push { cls := .type "tuple", data := .seq vs.toArray.toList.toArray }).objs.size = none := by
      cases e : s₁.heap.get? (h₃.push { cls := .type "tuple", data := .seq vs.toArray.toList.toArray }).objs.size with
      | none => rfl
      | some o => exact absurd (Heap.lt_size (keep _ _ e)) (Nat.not_lt.mpr (Nat.le_of_lt hkS))
    refine key_rest (X := X) (V := V) (s₀ := s₁) (s := { s₁ with heap := (h₃.push { cls := .type "tuple", data := .seq vs.toArray.toList.toArray }).push { cls := .type "list", data := .seq ([] : List Value).toArray } }) hf hA' F₁.vol ⟨fun b o e => up b o ((s1.2 b (fun q => by rw [q, ha0] at e; cases e)).trans (keep b o e)), rfl, .refl _⟩ hS h2 h64 rfl (Nat.ne_of_gt (Nat.lt_trans hlt hkS)) (Heap.get?_push_size _ rfl) (up _ _ ho1) hk0 ha0 fun s' ys us c g' hg y1 y2 y3 => ⟨_, rfl, wpAny_pure ⟨_, rfl, ?_⟩⟩
    have hys := sortS_unique y1 y2
    subst hys
    refine hQ (.ref a) s' (g₁.trans g') ?_
    show Rep _ _ _ _ _
    simp only [Rep]
    exact ⟨a, us.toList, rfl, (fun h => by obtain ⟨o, e⟩ := F₁.vol.live a h; rw [ha0] at e; cases e), ⟨_, hg, rfl, c, by simp⟩, reps_strsAre y3⟩
end
end PL
end
noncomputable section
open PySem PySem.W PyProof.Rows
set_option Elab.async false
set_option linter.unusedVariables false
set_option maxRecDepth 100000
set_option pp.maxSteps 600
namespace PL
/-- places that a zip's walk keeps apart -/
structure ZipFar (z TI TO i1 i2 : Addr) (fp1 fp2 : List Addr) : Prop where
  TIz : TI ≠ z
  TOz : TO ≠ z
  TITO : TI ≠ TO
  i12 : i1 ≠ i2
  z1 : z ∉ fp1
  z2 : z ∉ fp2
  TO1 : TO ∉ fp1
  TO2 : TO ∉ fp2
  i21 : i2 ∉ fp1
  i12' : i1 ∉ fp2
  m1 : i1 ∈ fp1
  m2 : i2 ∈ fp2
  TI1 : TI ∉ fp1
  TI2 : TI ∉ fp2
section
variable {prog : Program} {w : World} {A : Around} {E : Value → Shared → Prop} {s : Shared} {z TI TO i1 i2 : Addr} {fp1 fp2 : List Addr} {n1 n2 : Nat} {P1 P2 : Nat → Value → Prop} {St1 St2 : Nat → Heap → Prop}
noncomputable abbrev ZSt (z TI TO i1 i2 : Addr) (St1 St2 : Nat → Heap → Prop) (f0 : Value) (i : Nat) (h : Heap) : Prop := IsZip h z TI TO f0 ∧ IsPair h TI (.ref i1) (.ref i2) ∧ (∃ a b, IsPair h TO a b) ∧ St1 i h ∧ St2 i h
theorem zip_item (D1 : Draws prog w A i1 fp1 n1 P1 St1) (D2 : Draws prog w A i2 fp2 n2 P2 St2) (D : ZipFar z TI TO i1 i2 fp1 fp2) {i : Nat} (h1 : i < n1) (h2 : i < n2) (st : ZSt z TI TO i1 i2 St1 St2 .none i s.heap) {Q : Value → Shared → Prop}
    (hQ : ∀ T x y h' tk, P1 i x → P2 i y → s.heap.get? T = none → IsPair h' T x y → ZSt z TI TO i1 i2 St1 St2 (rawInt T) (i + 1) h' → (∀ c o, c ≠ z → c ≠ TO → c ≠ i1 → c ≠ i2 → s.heap.get? c = some o → h'.get? c = some o) → Q (.ref T) { s with heap := h', toks := tk }) :
    wpAny (model prog w) A (Builtin.«zip.__next__» ⟨[.ref z], []⟩) (fun fin s' => ∃ v, fin = .done (.ret v) ∧ Q v s') E s := by
  obtain ⟨hz, hTI, ⟨a, b, hTO⟩, hs1, hs2⟩ := st
  have hne : ∀ {p : Addr} {l : List Addr} {q : Addr}, q ∈ l → p ∉ l → p ≠ q := fun hq hp e => hp (e ▸ hq)
  have zi1 : z ≠ i1 := hne D.m1 D.z1
  have zi2 : z ≠ i2 := hne D.m2 D.z2
  have Ti1 : TO ≠ i1 := hne D.m1 D.TO1
  have Ti2 : TO ≠ i2 := hne D.m2 D.TO2
  show wpAny _ _ (field (.ref z) 2 >>= _) _ _ _
  refine wpAny_bind (wpAny_field hz rfl (x := .bool false) rfl ?_)
  show wpAny _ _ (field (.ref z) 3 >>= _) _ _ _
  refine wpAny_bind (wpAny_field hz rfl (x := .ref TI) rfl ?_)
  refine wpAny_bind (wpAny_seqItems hTI rfl ?_)
  show wpAny _ _ (Builtin.SmallTypes.ownedTupleIsFree (.ref z) >>= _) _ _ _
  refine wpAny_bind ?_
  unfold Builtin.SmallTypes.ownedTupleIsFree
  refine wpAny_bind (wpAny_field hz rfl (x := .none) rfl (wpAny_pure ?_))
  simp only [if_true]
  refine wpAny_bind (wpAny_rule ?_)
  refine wpAny_bind (wpAny_field hz rfl (x := .ref TO) rfl ?_)
  refine wpAny_bind (wpAny_setField_rec hz (by simp) fun g₁ hz₁ k₁ => ?_)
  replace hz₁ : IsZip g₁ z TI TO .ellipsis := hz₁
  refine wpAny_bind ?_
  simp only [List.zipIdx_cons, List.zipIdx_nil, List.forIn_cons, List.forIn_nil]
  refine wpAny_bind (wpAny_bind (wpAny_onRaise ?_))
  show wpAny _ _ (Builtin.SmallTypes.nextOf (.ref i1) >>= _) _ _ _
  have s1₁ := D1.frame _ _ g₁ hs1 fun b hb o e => k₁.extBut b o (hne hb D.z1).symm e
  have s2₁ := D2.frame _ _ g₁ hs2 fun b hb o e => k₁.extBut b o (hne hb D.z2).symm e
  refine wpAny_bind (D1.item i _ _ _ h1 s1₁ fun x g₂ tk₂ px s1₂ k₂ => wpAny_pure ?_)
  replace k₂ : Heap.SameBut i1 g₁ g₂ := k₂
  have hTO₂ : IsPair g₂ TO a b := k₂.extBut _ _ Ti1 (k₁.extBut _ _ D.TOz hTO)
  refine wpAny_bind (wpAny_seqItems hTO₂ rfl ?_)
  refine wpAny_bind (wpAny_updateSeq_pair hTO₂ fun g₃ hTO₃ k₃ => ?_)
  replace hTO₃ : IsPair g₃ TO x b := hTO₃
  replace k₃ : Heap.SameBut TO g₂ g₃ := k₃
  refine wpAny_bind (wpAny_letGo (wpAny_pure ?_))
  refine wpAny_bind (wpAny_bind (wpAny_onRaise ?_))
  show wpAny _ _ (Builtin.SmallTypes.nextOf (.ref i2) >>= _) _ _ _
  have s2₃ := D2.frame _ _ g₃ s2₁ fun b hb o e => k₃.extBut b o (hne hb D.TO2).symm (k₂.extBut b o (hne hb D.i12').symm e)
  refine wpAny_bind (D2.item i _ _ _ h2 s2₃ fun y g₄ tk₄ py s2₄ k₄ => wpAny_pure ?_)
  replace k₄ : Heap.SameBut i2 g₃ g₄ := k₄
  have hTO₄ : IsPair g₄ TO x b := k₄.extBut _ _ Ti2 hTO₃
  refine wpAny_bind (wpAny_seqItems hTO₄ rfl ?_)
  refine wpAny_bind (wpAny_updateSeq_pair hTO₄ fun g₅ hTO₅ k₅ => ?_)
  replace hTO₅ : IsPair g₅ TO x y := hTO₅
  replace k₅ : Heap.SameBut TO g₄ g₅ := k₅
  refine wpAny_bind (wpAny_letGo (wpAny_pure (wpAny_pure ?_)))
  refine wpAny_bind (wpAny_seqItems hTO₅ rfl ?_)
  refine wpAny_bind (wpAny_newTuple ?_)
  have hsz : g₅.objs.size = s.heap.objs.size := by rw [k₅.1, k₄.1, k₃.1, k₂.1, k₁.1]
  have hz₅ : IsZip g₅ z TI TO .ellipsis := k₅.extBut _ _ D.TOz.symm (k₄.extBut _ _ zi2 (k₃.extBut _ _ D.TOz.symm (k₂.extBut _ _ zi1 hz₁)))
  have all₅ : ∀ c o, c ≠ z → c ≠ TO → c ≠ i1 → c ≠ i2 → s.heap.get? c = some o → g₅.get? c = some o := fun c o c1 c2 c3 c4 e =>
    k₅.extBut _ _ c2 (k₄.extBut _ _ c4 (k₃.extBut _ _ c2 (k₂.extBut _ _ c3 (k₁.extBut _ _ c1 e))))
  have s1₅ := D1.frame _ _ g₅ s1₂ fun b hb o e => k₅.extBut b o (hne hb D.TO1).symm (k₄.extBut b o (hne hb D.i21).symm (k₃.extBut b o (hne hb D.TO1).symm e))
  have s2₅ := D2.frame _ _ g₅ s2₄ fun b hb o e => k₅.extBut b o (hne hb D.TO2).symm e
  have hzlt : z < g₅.objs.size := Heap.lt_size hz₅
  show wpAny _ _ (Builtin.SmallTypes.ownedTupleHandOut (.ref z) (.ref g₅.objs.size) >>= _) _ _ _
  refine wpAny_bind ?_
  unfold Builtin.SmallTypes.ownedTupleHandOut
  have hz₆ : IsZip (g₅.push { cls := .type "tuple", data := .seq #[x, y] }) z TI TO .ellipsis := Heap.get?_push_of_some _ hz₅
  refine wpAny_bind (wpAny_setField_rec hz₆ (by simp) fun g₇ hz₇ k₇ => ?_)
  replace hz₇ : IsZip g₇ z TI TO (rawInt g₅.objs.size) := hz₇
  refine wpAny_setField_rec hz₇ (by simp) fun g₈ hz₈ k₈ => ?_
  replace hz₈ : IsZip g₈ z TI TO (rawInt g₅.objs.size) := hz₈
  have up : ∀ c o, c ≠ z → g₅.get? c = some o → g₈.get? c = some o := fun c o c1 e => k₈.extBut _ _ c1 (k₇.extBut _ _ c1 (Heap.get?_push_of_some _ e))
  have hT₈ : IsPair g₈ g₅.objs.size x y := k₈.extBut _ _ (Nat.ne_of_gt hzlt) (k₇.extBut _ _ (Nat.ne_of_gt hzlt) (Heap.get?_push_size _ rfl))
  refine wpAny_pure ⟨_, rfl, ?_⟩
  have hdead : s.heap.get? g₅.objs.size = none := by
    rw [hsz]
    cases e : s.heap.get? s.heap.objs.size with
    | none => rfl
    | some o => exact absurd (Heap.lt_size e) (Nat.lt_irrefl _)
  refine hQ g₅.objs.size x y g₈ tk₄ px py hdead hT₈ ⟨hz₈, up _ _ D.TIz ?_, ⟨x, y, up _ _ D.TOz hTO₅⟩, D1.frame _ _ g₈ s1₅ fun b hb o e => up b o (hne hb D.z1).symm e, D2.frame _ _ g₈ s2₅ fun b hb o e => up b o (hne hb D.z2).symm e⟩ fun c o c1 c2 c3 c4 e => up c o c1 (all₅ c o c1 c2 c3 c4 e)
  exact all₅ _ _ D.TIz D.TITO (hne D.m1 D.TI1) (hne D.m2 D.TI2) hTI
theorem zip_end (D1 : Draws prog w A i1 fp1 n1 P1 St1) (D2 : Draws prog w A i2 fp2 n2 P2 St2) (D : ZipFar z TI TO i1 i2 fp1 fp2) (st : ZSt z TI TO i1 i2 St1 St2 .none (min n1 n2) s.heap) {Q : Fin → Shared → Prop}
    (hE : ∀ h' e tk, (∀ c o, c ≠ z → c ≠ TO → c ≠ i1 → c ≠ i2 → s.heap.get? c = some o → h'.get? c = some o) → (∃ o, h'.get? e = some o ∧ o.cls = .type "StopIteration") → E (.ref e) { s with heap := h', toks := tk }) :
    wpAny (model prog w) A (Builtin.«zip.__next__» ⟨[.ref z], []⟩) Q E s := by
  obtain ⟨hz, hTI, ⟨a, b, hTO⟩, hs1, hs2⟩ := st
  have hne : ∀ {p : Addr} {l : List Addr} {q : Addr}, q ∈ l → p ∉ l → p ≠ q := fun hq hp e => hp (e ▸ hq)
  have zi1 : z ≠ i1 := hne D.m1 D.z1
  have zi2 : z ≠ i2 := hne D.m2 D.z2
  have Ti1 : TO ≠ i1 := hne D.m1 D.TO1
  show wpAny _ _ (field (.ref z) 2 >>= _) _ _ _
  refine wpAny_bind (wpAny_field hz rfl (x := .bool false) rfl ?_)
  show wpAny _ _ (field (.ref z) 3 >>= _) _ _ _
  refine wpAny_bind (wpAny_field hz rfl (x := .ref TI) rfl ?_)
  refine wpAny_bind (wpAny_seqItems hTI rfl ?_)
  show wpAny _ _ (Builtin.SmallTypes.ownedTupleIsFree (.ref z) >>= _) _ _ _
  refine wpAny_bind ?_
  unfold Builtin.SmallTypes.ownedTupleIsFree
  refine wpAny_bind (wpAny_field hz rfl (x := .none) rfl (wpAny_pure ?_))
  simp only [if_true]
  refine wpAny_bind (wpAny_rule ?_)
  refine wpAny_bind (wpAny_field hz rfl (x := .ref TO) rfl ?_)
  refine wpAny_bind (wpAny_setField_rec hz (by simp) fun g₁ hz₁ k₁ => ?_)
  replace hz₁ : IsZip g₁ z TI TO .ellipsis := hz₁
  refine wpAny_bind ?_
  simp only [List.zipIdx_cons, List.zipIdx_nil, List.forIn_cons, List.forIn_nil]
  refine wpAny_bind (wpAny_bind (wpAny_onRaise ?_))
  show wpAny _ _ (Builtin.SmallTypes.nextOf (.ref i1) >>= _) _ _ _
  have s1₁ := D1.frame _ _ g₁ hs1 fun b hb o e => k₁.extBut b o (hne hb D.z1).symm e
  have s2₁ := D2.frame _ _ g₁ hs2 fun b hb o e => k₁.extBut b o (hne hb D.z2).symm e
  by_cases hn : n1 ≤ n2
  · rw [Nat.min_eq_left hn] at s1₁
    refine wpAny_bind (D1.done _ _ _ s1₁ fun g₂ e k₂ he => ?_)
    obtain ⟨oe, hoe, hce⟩ := he
    replace k₂ : Heap.ExtBut i1 g₁ g₂ := k₂
    have hz₂ : IsZip g₂ z TI TO .ellipsis := k₂ _ _ zi1 hz₁
    have hez : e ≠ z := fun x => by subst x; rw [hz₂] at hoe; cases hoe; simp at hce
    refine wpAny_setField_rec hz₂ (by simp) fun g₃ _ k₃ => hE g₃ e _ (fun c o c1 _ c3 _ x => k₃.extBut _ _ c1 (k₂ _ _ c3 (k₁.extBut _ _ c1 x))) ⟨oe, k₃.extBut _ _ hez hoe, hce⟩
  · have hn' : min n1 n2 = n2 := Nat.min_eq_right (Nat.le_of_not_le hn)
    rw [hn'] at s1₁ s2₁
    refine wpAny_bind (D1.item n2 _ _ _ (Nat.lt_of_not_le hn) s1₁ fun x g₂ tk₂ px s1₂ k₂ => wpAny_pure ?_)
    replace k₂ : Heap.SameBut i1 g₁ g₂ := k₂
    have hTO₂ : IsPair g₂ TO a b := k₂.extBut _ _ Ti1 (k₁.extBut _ _ D.TOz hTO)
    refine wpAny_bind (wpAny_seqItems hTO₂ rfl ?_)
    refine wpAny_bind (wpAny_updateSeq_pair hTO₂ fun g₃ hTO₃ k₃ => ?_)
    replace k₃ : Heap.SameBut TO g₂ g₃ := k₃
    refine wpAny_bind (wpAny_letGo (wpAny_pure ?_))
    refine wpAny_bind (wpAny_bind (wpAny_onRaise ?_))
    show wpAny _ _ (Builtin.SmallTypes.nextOf (.ref i2) >>= _) _ _ _
    have s2₃ := D2.frame _ _ g₃ s2₁ fun b hb o e => k₃.extBut b o (hne hb D.TO2).symm (k₂.extBut b o (hne hb D.i12').symm e)
    refine wpAny_bind (D2.done _ _ _ s2₃ fun g₄ e k₄ he => ?_)
    obtain ⟨oe, hoe, hce⟩ := he
    replace k₄ : Heap.ExtBut i2 g₃ g₄ := k₄
    have hz₄ : IsZip g₄ z TI TO .ellipsis := k₄ _ _ zi2 (k₃.extBut _ _ D.TOz.symm (k₂.extBut _ _ zi1 hz₁))
    have hez : e ≠ z := fun x => by subst x; rw [hz₄] at hoe; cases hoe; simp at hce
    refine wpAny_setField_rec hz₄ (by simp) fun g₅ _ k₅ => hE g₅ e _ (fun c o c1 c2 c3 c4 x => k₅.extBut _ _ c1 (k₄ _ _ c4 (k₃.extBut _ _ c2 (k₂.extBut _ _ c3 (k₁.extBut _ _ c1 x))))) ⟨oe, k₅.extBut _ _ hez hoe, hce⟩
end
end PL
end
noncomputable section
open PySem PySem.W PyProof.Rows
set_option Elab.async false
set_option linter.unusedVariables false
set_option maxRecDepth 100000
set_option pp.maxSteps 600
namespace PL
section
variable {X : Cx} {z TI TO i1 i2 : Addr} {fp1 fp2 : List Addr} {n1 n2 : Nat} {P1 P2 : Nat → Value → Prop} {St1 St2 : Nat → Heap → Prop}
theorem zip_yieldsT {elts : List Expr} {k : Nat} {tp : Pos} (hh : X.A.handled = none) (D1 : Draws X.prog X.w X.A.in1 i1 fp1 n1 P1 St1) (D2 : Draws X.prog X.w X.A.in1 i2 fp2 n2 P2 St2) (D : ZipFar z TI TO i1 i2 fp1 fp2) {items : Nat → Option PV} (Inv : (Addr → Prop) → Heap → Prop)
    (hfp : ∀ V h, Inv V h → ∀ b ∈ fp1 ++ fp2, b ∈ [z, TO, i1, i2] ∨ ¬ V b) (hmono : ∀ V V' h h', (∀ b o, ¬ V b → h.get? b = some o → ¬ V' b ∧ h'.get? b = some o) → Inv V h → Inv V' h')
    (hitem : ∀ V h i x y, Inv V h → P1 i x → P2 i y → ∃ p q, items i = some (.tup [p, q]) ∧ Rep X.C V h p x ∧ Rep X.C V h q y) (hnone : ∀ i, items i = none → min n1 n2 ≤ i) (hsome : ∀ i p, items i = some p → i < min n1 n2) :
    YieldsT X (.Tuple elts k tp) (.ref z) [z, TO, i1, i2] [] items (fun V i s => (i ≤ min n1 n2 ∧ ZSt z TI TO i1 i2 St1 St2 .none i s.heap) ∧ ¬ V TI ∧ Inv V s.heap) where
  frame := fun V V' i s s' st hw hk hV hg => by
    obtain ⟨⟨hi, hz, hTI, ⟨a, b, hTO⟩, s1, s2⟩, nTI, inv⟩ := st
    have fk : ∀ b ∈ fp1 ++ fp2, ∀ o, s.heap.get? b = some o → s'.heap.get? b = some o := fun b hb o e => (hfp V _ inv b hb).elim (fun h => hk b h o e) fun h => (hV b o h e).2
    exact ⟨⟨hi, hk z (by simp) _ hz, (hV TI _ nTI hTI).2, ⟨a, b, hk TO (by simp) _ hTO⟩, D1.frame _ _ _ s1 fun b hb o e => fk b (List.mem_append_left _ hb) o e, D2.frame _ _ _ s2 fun b hb o e => fk b (List.mem_append_right _ hb) o e⟩, (hV TI _ nTI hTI).1, hmono V V' _ _ hV inv⟩
  live := fun V i s st b hb => by
    obtain ⟨⟨hi, hz, hTI, ⟨x, y, hTO⟩, s1, s2⟩, _⟩ := st
    simp only [List.mem_cons, List.not_mem_nil, or_false] at hb
    rcases hb with rfl | rfl | rfl | rfl
    · exact ⟨_, hz⟩
    · exact ⟨_, hTO⟩
    · exact D1.live _ _ s1
    · exact D2.live _ _ s2
  item := fun V i p s Q N E hp st hw vol hQ => by
    obtain ⟨⟨hi, hz⟩, nTI, inv⟩ := st
    have hlt := hsome i p hp
    have hT : s.TypeIs (.ref z) "zip" := ⟨_, hz.1, rfl⟩
    unfold pyNext
    refine wpAny_bind (wpAny_attempt (wpAny_callSpecial?_slot (name := Str.ofString "__next__") hT PySem.F.slot_zip_next
      (wpAny_call_entry PySem.F.slot_zip_next hT PySem.F.entry_zip_next
        (zip_item D1 D2 D (Nat.lt_of_lt_of_le hlt (Nat.min_le_left ..)) (Nat.lt_of_lt_of_le hlt (Nat.min_le_right ..)) hz fun T x y h' tk px py hTd hTp hz' hk => wpAny_pure ?_) (PySem.F.args_zip_next_1 _))))
    obtain ⟨hz₁, hTI₁, ⟨a, b, hTO₁⟩, s1, s2⟩ := hz'
    refine wpAny_letOwnedTupleGo_zip hz₁ fun h₂ hz₂ k₂ => ?_
    replace k₂ : Heap.SameBut z h' h₂ := k₂
    have hne : ∀ {p : Addr} {l : List Addr} {q : Addr}, q ∈ l → p ∉ l → p ≠ q := fun hq hp e => hp (e ▸ hq)
    have keep : ∀ b o, b ∉ [z, TO, i1, i2] → s.heap.get? b = some o → h₂.get? b = some o := fun c o hc e => k₂.extBut c o (fun h => hc (by simp [h])) (hk c o (fun h => hc (by simp [h])) (fun h => hc (by simp [h])) (fun h => hc (by simp [h])) (fun h => hc (by simp [h])) e)
    have hV : ∀ b o, ¬ V b → s.heap.get? b = some o → ¬ V b ∧ h₂.get? b = some o := fun b o nb e => ⟨nb, keep b o (fun hm => nb (hw b hm)) e⟩
    obtain ⟨p', q', hpq, rp, rq⟩ := hitem V _ i x y inv px py
    rw [hp] at hpq; cases hpq
    have hTz : T ≠ z := fun h => by rw [h] at hTd; rw [hz.1] at hTd; cases hTd
    refine hQ (.ref T) _ ?_ ⟨⟨hlt, hz₂, k₂.extBut _ _ D.TIz hTI₁, ⟨a, b, k₂.extBut _ _ D.TOz hTO₁⟩, D1.frame _ _ h₂ s1 fun b hb o e => k₂.extBut b o (hne hb D.z1).symm e, D2.frame _ _ h₂ s2 fun b hb o e => k₂.extBut b o (hne hb D.z2).symm e⟩, nTI, hmono V V _ _ hV inv⟩ keep rfl ((GG.refl _).gx [])
    show Rep _ _ _ _ _
    simp only [Rep]
    exact ⟨T, [x, y], rfl, (fun hv => by obtain ⟨o, e⟩ := vol.live T hv; rw [hTd] at e; cases e), ⟨_, k₂.extBut T _ hTz hTp, rfl, _, rfl⟩, .cons (Rep.mono hV p' rp) (.one (Rep.mono hV q' rq))⟩
  done := fun V i s Q E hp st hw vol hQ => by
    obtain ⟨⟨hi, hz⟩, nTI, inv⟩ := st
    have e : i = min n1 n2 := Nat.le_antisymm hi (hnone i hp)
    subst e
    have hT : s.TypeIs (.ref z) "zip" := ⟨_, hz.1, rfl⟩
    unfold pyNext
    refine wpAny_bind (wpAny_attempt (wpAny_callSpecial?_slot (name := Str.ofString "__next__") hT PySem.F.slot_zip_next
      (wpAny_call_entry PySem.F.slot_zip_next hT PySem.F.entry_zip_next (zip_end D1 D2 D hz fun h' e tk hk he => ?_) (PySem.F.args_zip_next_1 _))))
    obtain ⟨o, ho, hc⟩ := he
    refine wpAny_bind (wpAny_isInstance (T := "StopIteration") (b := true) ⟨o, ho, hc⟩ isSubtype_stop ?_)
    exact wpAny_pure (hQ _ (fun c o hc e => hk c o (fun h => hc (by simp [h])) (fun h => hc (by simp [h])) (fun h => hc (by simp [h])) (fun h => hc (by simp [h])) e) rfl ((GG.refl _).gx []))
  self := fun V i s Q E st hq => wpAny_pyIter_zip st.1.2.1 hq
end
/-! zip of a list and a text of small signs -/
noncomputable abbrev zsH1 (h : Heap) (l1 : Addr) : Heap := h.push { cls := .type "list_iterator", data := .fields #[.ref l1, .int 0 0] }
noncomputable abbrev zsH2 (h : Heap) (l1 : Addr) (x : Str) (t : Tok) : Heap := (zsH1 h l1).push { cls := .type "str_ascii_iterator", data := .fields #[.str x t, .int 0 0] }
noncomputable abbrev zsH3 (h : Heap) (l1 : Addr) (x : Str) (t : Tok) : Heap := (zsH2 h l1 x t).push { cls := .type "tuple", data := .seq #[.ref h.objs.size, .ref (zsH1 h l1).objs.size] }
noncomputable abbrev zsH4 (h : Heap) (l1 : Addr) (x : Str) (t : Tok) : Heap := (zsH3 h l1 x t).push { cls := .type "tuple", data := .seq #[.none, .none] }
noncomputable abbrev zsH5 (h : Heap) (l1 : Addr) (x : Str) (t : Tok) : Heap := (zsH4 h l1 x t).push { cls := .type "zip", data := .fields #[.none, .bool false, .bool false, .ref (zsH2 h l1 x t).objs.size, .ref (zsH3 h l1 x t).objs.size] }
set_option maxHeartbeats 4000000 in
theorem meets_zip_ls (l1 : Addr) (xs : Array Value) (x : Str) (t : Tok) (hx : x.cps.all (· < 128) = true) :
    Meets (Builtin.«zip.__new__» ⟨[.type "zip", .ref l1, .str x t], []⟩) (fun _ R s => s.heap.IsList l1 xs ∧
      R (.ok (.ret (.ref (zsH4 s.heap l1 x t).objs.size))) { s with heap := zsH5 s.heap l1 x t }) :=
  .of_wp fun prog w A R s h => by
    obtain ⟨hp, g, d, tk, os⟩ := s; obtain ⟨hl1, h⟩ := h
    have hsub := sub_zip
    have hL1 : Heap.IsList (Shared.heap ⟨hp, g, d, tk, os⟩) l1 xs := hl1
    wp_walk using wpAny_pyIter_list hL1, wpAny_pyIter_ascii hx
    exact ⟨_, rfl, h⟩
section
variable {prog : Program} {w : World} {A : Around} {E : Value → Shared → Prop} {s : Shared}
theorem call_zip_ls {l1 : Addr} {xs : Array Value} {x : Str} {t : Tok} {Q : Value → Shared → Prop} (hl1 : s.heap.IsList l1 xs) (hx : x.cps.all (· < 128) = true)
    (h : ∀ h', IsZip h' (s.heap.objs.size + 4) (s.heap.objs.size + 2) (s.heap.objs.size + 3) .none → IsPair h' (s.heap.objs.size + 2) (.ref s.heap.objs.size) (.ref (s.heap.objs.size + 1)) →
      IsPair h' (s.heap.objs.size + 3) .none .none → h'.IsListIter s.heap.objs.size l1 0 → h'.IsStrIter (s.heap.objs.size + 1) "str_ascii_iterator" x t 0 →
      (∀ c o, s.heap.get? c = some o → h'.get? c = some o) → Q (.ref (s.heap.objs.size + 4)) { s with heap := h' }) :
    wpAny (model prog w) A (call (.type "zip") [.ref l1, .str x t]) Q E s := by
  refine callType_new PySem.F.called_zip (by decide) (PySem.F.typeCall_zip_2 _ _) (PySem.F.newCall_zip_2 _ _) (fun obj => PySem.F.args_object_init_3 obj _ _) PySem.F.entry_zip_new
    (meets_zip_ls l1 xs x t hx) ⟨hl1, ?_⟩
  have z1 : (zsH1 s.heap l1).objs.size = s.heap.objs.size + 1 := Heap.size_push ..
  have z2 : (zsH2 s.heap l1 x t).objs.size = s.heap.objs.size + 2 := by rw [Heap.size_push, z1]
  have z3 : (zsH3 s.heap l1 x t).objs.size = s.heap.objs.size + 3 := by rw [Heap.size_push, z2]
  have z4 : (zsH4 s.heap l1 x t).objs.size = s.heap.objs.size + 4 := by rw [Heap.size_push, z3]
  have g5 : (zsH5 s.heap l1 x t).get? (zsH4 s.heap l1 x t).objs.size = some _ := Heap.get?_push_size _ rfl
  have g4 : (zsH5 s.heap l1 x t).get? (zsH3 s.heap l1 x t).objs.size = some _ := Heap.get?_push_of_some _ (Heap.get?_push_size _ rfl)
  have g3 : (zsH5 s.heap l1 x t).get? (zsH2 s.heap l1 x t).objs.size = some _ := Heap.get?_push_of_some _ (Heap.get?_push_of_some _ (Heap.get?_push_size _ rfl))
  have g2 : (zsH5 s.heap l1 x t).get? (zsH1 s.heap l1).objs.size = some _ := Heap.get?_push_of_some _ (Heap.get?_push_of_some _ (Heap.get?_push_of_some _ (Heap.get?_push_size _ rfl)))
  have g1 : (zsH5 s.heap l1 x t).get? s.heap.objs.size = some _ := Heap.get?_push_of_some _ (Heap.get?_push_of_some _ (Heap.get?_push_of_some _ (Heap.get?_push_of_some _ (Heap.get?_push_size _ rfl))))
  show _ ∧ _
  rw [z2, z3, z4] at g5
  rw [z1, z2] at g3
  rw [z3] at g4
  rw [z1] at g2
  rw [z4]
  exact ⟨⟨_, g5, rfl⟩, h _ g5 g3 g4 ⟨_, g1, rfl, rfl⟩ ⟨_, g2, rfl, rfl⟩ fun c o x =>
    Heap.get?_push_of_some _ (Heap.get?_push_of_some _ (Heap.get?_push_of_some _ (Heap.get?_push_of_some _ (Heap.get?_push_of_some _ x))))⟩
end
section
variable {X : Cx} {ρ : Vars}
theorem zip_get {l1 l2 : List PV} {i : Nat} : (∀ p, ((l1.zip l2).map fun p => PV.tup [p.1, p.2])[i]? = some p → i < min l1.length l2.length) ∧ (((l1.zip l2).map fun p => PV.tup [p.1, p.2])[i]? = none → min l1.length l2.length ≤ i) ∧
    (∀ p q, l1[i]? = some p → l2[i]? = some q → ((l1.zip l2).map fun p => PV.tup [p.1, p.2])[i]? = some (.tup [p, q])) := by
  refine ⟨fun p h => ?_, fun h => ?_, fun p q h1 h2 => ?_⟩
  · have := (List.getElem?_eq_some_iff.mp h).1
    simpa using this
  · have := List.getElem?_eq_none_iff.mp h
    simpa using this
  · rw [List.getElem?_map, (List.getElem?_zip_eq_some (z := (p, q))).mpr ⟨h1, h2⟩]; rfl
theorem far_new {n l1 : Nat} (h1 : l1 < n) (fp2 : List Nat) (h2 : ∀ b : Nat, b ∈ fp2 → b = n + 1 ∨ b < n) (hm : n + 1 ∈ fp2) : ZipFar (n + 4 : Nat) (n + 2 : Nat) (n + 3 : Nat) n (n + 1 : Nat) [n, l1] fp2 := by
  have k : ∀ m : Nat, n + 2 ≤ m → m ∉ fp2 := fun m hm h => by have := h2 _ h; omega
  have k1 : ∀ m : Nat, n + 1 ≤ m → m ∉ [n, l1] := fun m hm h => by
    rcases List.mem_cons.mp h with h | h
    · omega
    · have := List.mem_singleton.mp h; omega
  have kn : n ∉ fp2 := fun h => by have := h2 _ h; omega
  exact {
    TIz := by show ¬ @Eq Nat _ _; omega
    TOz := by show ¬ @Eq Nat _ _; omega
    TITO := by show ¬ @Eq Nat _ _; omega
    i12 := by show ¬ @Eq Nat _ _; omega
    z1 := k1 _ (by omega)
    z2 := k _ (by omega)
    TO1 := k1 _ (by omega)
    TO2 := k _ (by omega)
    i21 := k1 _ (by omega)
    i12' := kn
    m1 := List.mem_cons_self ..
    m2 := hm
    TI1 := k1 _ (by omega)
    TI2 := k _ (by omega) }
theorem it_zip2 (hh : X.A.handled = none) {elts : List Expr} {k : Nat} {tp : Pos} {x : Str} {p pos : Pos} {e1 e2 : Expr} {l1 l2 : List PV} (hf : EvV X (.Name x p) ρ (.type "zip")) (he1 : Ev X e1 ρ (.list l1)) (he2 : Ev X e2 ρ (.list l2))
    (hplain : (backTo pos (starEach [e1, e2] X.env)).any (·.1) = false := by rfl) (hse : ∃ y ys, backTo pos (starEach [e1, e2] X.env) = (false, y) :: ys := by exact ⟨_, _, rfl⟩)
    (s1 : starEach [e1, e2] X.env = (false, eval e1 X.env) :: starEach [e2] X.env := by rfl) (s2 : starEach [e2] X.env = (false, eval e2 X.env) :: starEach [] X.env := by rfl) :
    IterToT X (.Tuple elts k tp) (.Call (.Name x p) [e1, e2] [] pos) ρ (fun i => ((l1.zip l2).map fun p => PV.tup [p.1, p.2])[i]?) := fun V O s Q E F hQ => by
  refine evs_type F hf (evs_cons he1 (evs_cons he2 evs_nil s2) s1) (fun vs s₁ g₁ rs => ?_) hplain hse
  simp only [Cx.Rs, Reps] at rs
  obtain ⟨v1, _, rfl, r1, v2, _, rfl, r2, rfl⟩ := rs
  obtain ⟨a1, vs1, rfl, nV1, hl1, rs1⟩ := rep_list r1
  obtain ⟨a2, vs2, rfl, nV2, hl2, rs2⟩ := rep_list r2
  have lt1 : a1 < s₁.heap.objs.size := by obtain ⟨o, e, _⟩ := hl1; exact Heap.lt_size e
  have lt2 : a2 < s₁.heap.objs.size := by obtain ⟨o, e, _⟩ := hl2; exact Heap.lt_size e
  refine call_zip_2 hl1 hl2 fun h' hz hTI hTO hi1 hi2 _ hk => ?_
  refine wpAny_pyIter_zip hz ?_
  generalize hn : s₁.heap.objs.size = n at *
  have g : Grow s₁ { s₁ with heap := h' } := ⟨hk, rfl, .refl _⟩
  have hh' : X.A.in1.handled = none := hh
  have Y := zip_yieldsT (X := X) (z := n + 4) (TI := n + 2) (TO := n + 3) (i1 := n) (i2 := n + 1) (elts := elts) (k := k) (tp := tp) (items := fun i => ((l1.zip l2).map fun p => PV.tup [p.1, p.2])[i]?) hh
    (Draws.list (prog := X.prog) (w := X.w) hh' n a1 (Nat.ne_of_lt lt1) vs1.toArray) (Draws.list (prog := X.prog) (w := X.w) hh' (n + 1) a2 (Nat.ne_of_lt (Nat.lt_succ_of_lt lt2)) vs2.toArray)
    (far_new lt1 [n + 1, a2] (fun b hb => (List.mem_cons.mp hb).elim .inl fun h => .inr (by rw [List.mem_singleton.mp h]; exact lt2)) (List.mem_cons_self ..))
    (fun V h => ¬ V a1 ∧ ¬ V a2 ∧ (∃ o, h.get? a1 = some o) ∧ (∃ o, h.get? a2 = some o) ∧ Reps X.C V h l1 vs1 ∧ Reps X.C V h l2 vs2)
    (fun V h inv b hb => by
      simp only [List.cons_append, List.nil_append, List.mem_cons, List.not_mem_nil, or_false] at hb ⊢
      rcases hb with rfl | rfl | rfl | rfl
      · exact .inl (by simp)
      · exact .inr inv.1
      · exact .inl (by simp)
      · exact .inr inv.2.1)
    (fun V V' h h' hV inv => let ⟨h1, h2, ⟨o1, e1⟩, ⟨o2, e2⟩, r1, r2⟩ := inv; ⟨(hV _ _ h1 e1).1, (hV _ _ h2 e2).1, ⟨o1, (hV _ _ h1 e1).2⟩, ⟨o2, (hV _ _ h2 e2).2⟩, Reps.mono hV _ r1, Reps.mono hV _ r2⟩)
    (fun V h i u v inv pu pv => by
      obtain ⟨_, _, _, _, r1, r2⟩ := inv
      have hu : vs1[i]? = some u := by simpa using pu
      have hv : vs2[i]? = some v := by simpa using pv
      have l1' : i < l1.length := by rw [← r1.length]; exact (List.getElem?_eq_some_iff.mp hu).1
      have l2' : i < l2.length := by rw [← r2.length]; exact (List.getElem?_eq_some_iff.mp hv).1
      obtain ⟨u', hu', ru⟩ := r1.get (List.getElem?_eq_getElem l1')
      obtain ⟨v', hv', rv⟩ := r2.get (List.getElem?_eq_getElem l2')
      rw [hu] at hu'; cases hu'
      rw [hv] at hv'; cases hv'
      exact ⟨_, _, (zip_get (i := i)).2.2 _ _ (List.getElem?_eq_getElem l1') (List.getElem?_eq_getElem l2'), ru, rv⟩)
    (fun i h => by simpa [rs1.length, rs2.length] using (zip_get (l1 := l1) (l2 := l2) (i := i)).2.1 h) (fun i p h => by simpa [rs1.length, rs2.length] using (zip_get (l1 := l1) (l2 := l2) (i := i)).1 p h)
  have dead : ∀ b, n ≤ b → s.heap.get? b = none := fun b hb => by
    cases e : s.heap.get? b with
    | none => rfl
    | some o => exact absurd (Heap.lt_size (g₁.keep _ _ e)) (by rw [hn]; exact Nat.not_lt.mpr hb)
  have notV : ∀ b, n ≤ b → ¬ V b := fun b hb hv => by obtain ⟨o, e⟩ := F.vol.live b hv; rw [dead b hb] at e; cases e
  have wr : ∀ b ∈ [n + 4, n + 3, n, n + 1], n ≤ b := fun b hb => by simp at hb; omega
  refine hQ _ _ [n + 4, n + 3, n, n + 1] [] _ (g₁.trans g) Y (fun b hb => dead b (wr b hb)) (by simp) ⟨⟨Nat.zero_le _, hz, hTI, ⟨_, _, hTO⟩, ⟨hi1, hl1.at fun o e => hk _ o e⟩, ⟨hi2, hl2.at fun o e => hk _ o e⟩⟩, ?_, ?_, ?_, ?_, ?_, ?_, ?_⟩
  · rintro (h | h)
    · exact notV _ (by omega) h
    · simp at h
  · rintro (h | h)
    · exact nV1 h
    · exact absurd lt1 (Nat.not_lt.mpr (wr _ h))
  · rintro (h | h)
    · exact nV2 h
    · exact absurd lt2 (Nat.not_lt.mpr (wr _ h))
  · obtain ⟨o, e, _⟩ := hl1; exact ⟨o, hk _ _ e⟩
  · obtain ⟨o, e, _⟩ := hl2; exact ⟨o, hk _ _ e⟩
  · exact Reps.mono (fun b o nb e => ⟨fun h => h.elim nb fun h => absurd (hn ▸ Heap.lt_size e) (Nat.not_lt.mpr (wr _ h)), hk b o e⟩) _ rs1
  · exact Reps.mono (fun b o nb e => ⟨fun h => h.elim nb fun h => absurd (hn ▸ Heap.lt_size e) (Nat.not_lt.mpr (wr _ h)), hk b o e⟩) _ rs2
theorem it_zips (hh : X.A.handled = none) {elts : List Expr} {k : Nat} {tp : Pos} {x : Str} {p pos : Pos} {e1 e2 : Expr} {l1 : List PV} {cs : List Nat} (hf : EvV X (.Name x p) ρ (.type "zip")) (he1 : Ev X e1 ρ (.list l1)) (he2 : Ev X e2 ρ (.str (T cs))) (hcs : (T cs).cps.all (· < 128) = true)
    (hplain : (backTo pos (starEach [e1, e2] X.env)).any (·.1) = false := by rfl) (hse : ∃ y ys, backTo pos (starEach [e1, e2] X.env) = (false, y) :: ys := by exact ⟨_, _, rfl⟩)
    (s1 : starEach [e1, e2] X.env = (false, eval e1 X.env) :: starEach [e2] X.env := by rfl) (s2 : starEach [e2] X.env = (false, eval e2 X.env) :: starEach [] X.env := by rfl) :
    IterToT X (.Tuple elts k tp) (.Call (.Name x p) [e1, e2] [] pos) ρ (fun i => ((l1.zip (sgn cs)).map fun p => PV.tup [p.1, p.2])[i]?) := fun V O s Q E F hQ => by
  refine evs_type F hf (evs_cons he1 (evs_cons he2 evs_nil s2) s1) (fun vs s₁ g₁ rs => ?_) hplain hse
  simp only [Cx.Rs, Reps] at rs
  obtain ⟨v1, _, rfl, r1, v2, _, rfl, ⟨t, rfl⟩, rfl⟩ := rs
  obtain ⟨a1, vs1, rfl, nV1, hl1, rs1⟩ := rep_list r1
  have lt1 : a1 < s₁.heap.objs.size := by obtain ⟨o, e, _⟩ := hl1; exact Heap.lt_size e
  refine call_zip_ls hl1 hcs fun h' hz hTI hTO hi1 hi2 hk => ?_
  refine wpAny_pyIter_zip hz ?_
  generalize hn : s₁.heap.objs.size = n at *
  have g : Grow s₁ { s₁ with heap := h' } := ⟨hk, rfl, .refl _⟩
  have hh' : X.A.in1.handled = none := hh
  have slen : (sgn cs).length = cs.length := by simp [sgn]
  have clen : (T cs).cps.size = cs.length := by simp
  have Y := zip_yieldsT (X := X) (z := n + 4) (TI := n + 2) (TO := n + 3) (i1 := n) (i2 := n + 1) (elts := elts) (k := k) (tp := tp) (items := fun i => ((l1.zip (sgn cs)).map fun p => PV.tup [p.1, p.2])[i]?) hh
    (Draws.list (prog := X.prog) (w := X.w) hh' n a1 (Nat.ne_of_lt lt1) vs1.toArray) (Draws.strAscii (prog := X.prog) (w := X.w) hh' (n + 1) (T cs) t)
    (far_new lt1 [n + 1] (fun b hb => .inl (List.mem_singleton.mp hb)) (List.mem_cons_self ..))
    (fun V h => ¬ V a1 ∧ (∃ o, h.get? a1 = some o) ∧ Reps X.C V h l1 vs1)
    (fun V h inv b hb => by
      simp only [List.cons_append, List.nil_append, List.mem_cons, List.not_mem_nil, or_false] at hb ⊢
      rcases hb with rfl | rfl | rfl
      · exact .inl (by simp)
      · exact .inr inv.1
      · exact .inl (by simp))
    (fun V V' h h' hV inv => let ⟨h1, ⟨o1, e1⟩, r1⟩ := inv; ⟨(hV _ _ h1 e1).1, ⟨o1, (hV _ _ h1 e1).2⟩, Reps.mono hV _ r1⟩)
    (fun V h i u v inv pu pv => by
      obtain ⟨_, _, r1⟩ := inv
      have hu : vs1[i]? = some u := by simpa using pu
      obtain ⟨c, tk, hc, rfl⟩ := pv
      have hc' : cs[i]? = some c := by simpa using hc
      have l1' : i < l1.length := by rw [← r1.length]; exact (List.getElem?_eq_some_iff.mp hu).1
      obtain ⟨u', hu', ru⟩ := r1.get (List.getElem?_eq_getElem l1')
      rw [hu] at hu'; cases hu'
      exact ⟨_, .str (T [c]), (zip_get (i := i)).2.2 _ _ (List.getElem?_eq_getElem l1') (by unfold sgn; rw [List.getElem?_map, hc']; rfl), ru, ⟨tk, rfl⟩⟩)
    (fun i h => by simpa [rs1.length, slen, clen] using (zip_get (l1 := l1) (l2 := sgn cs) (i := i)).2.1 h) (fun i p h => by simpa [rs1.length, slen, clen] using (zip_get (l1 := l1) (l2 := sgn cs) (i := i)).1 p h)
  have dead : ∀ b, n ≤ b → s.heap.get? b = none := fun b hb => by
    cases e : s.heap.get? b with
    | none => rfl
    | some o => exact absurd (Heap.lt_size (g₁.keep _ _ e)) (by rw [hn]; exact Nat.not_lt.mpr hb)
  have notV : ∀ b, n ≤ b → ¬ V b := fun b hb hv => by obtain ⟨o, e⟩ := F.vol.live b hv; rw [dead b hb] at e; cases e
  have wr : ∀ b ∈ [n + 4, n + 3, n, n + 1], n ≤ b := fun b hb => by simp at hb; omega
  refine hQ _ _ [n + 4, n + 3, n, n + 1] [] _ (g₁.trans g) Y (fun b hb => dead b (wr b hb)) (by simp) ⟨⟨Nat.zero_le _, hz, hTI, ⟨_, _, hTO⟩, ⟨hi1, hl1.at fun o e => hk _ o e⟩, hi2⟩, ?_, ?_, ?_, ?_⟩
  · rintro (h | h)
    · exact notV _ (by omega) h
    · simp at h
  · rintro (h | h)
    · exact nV1 h
    · exact absurd lt1 (Nat.not_lt.mpr (wr _ h))
  · obtain ⟨o, e, _⟩ := hl1; exact ⟨o, hk _ _ e⟩
  · exact Reps.mono (fun b o nb e => ⟨fun h => h.elim nb fun h => absurd (hn ▸ Heap.lt_size e) (Nat.not_lt.mpr (wr _ h)), hk b o e⟩) _ rs1
end
end PL
end
noncomputable section
open PySem PySem.W PyProof.Rows PySem.Builtin.Str
set_option Elab.async false
set_option linter.unusedVariables false
set_option maxRecDepth 100000
set_option pp.maxSteps 600
namespace PL
local macro_rules | `(tactic| walk_at "at") => `(tactic| (repeat (first | exact At.here | exact AtMut.here | apply At.there | apply AtMut.there)))
local macro_rules | `(tactic| walk_at "put") => `(tactic| (repeat (first | exact Put.loc | exact Put.locNo | exact Put.cell | exact PutNew.no | exact PutNew.val | exact PutNew.mu | exact PutMut.here | exact Thaw.here | apply Put.there | apply PutNew.there | apply PutMut.there | apply Thaw.there)))
local macro_rules | `(tactic| walk_at "nm") => `(tactic| exact ev_name (by walk_at "at"))
local macro_rules | `(tactic| walk_at "ini") => `(tactic| (repeat (first | exact Ini.nil | apply Ini.argL rfl | apply Ini.loc rfl | apply Ini.argC rfl rfl | apply Ini.cell rfl rfl)))
local macro_rules | `(tactic| walk_at "nd") => `(tactic| (intro L O; simp [List.filterMap_cons, ownOf]))
local macro_rules | `(tactic| walk_at "nn") => `(tactic| (intro L; simp only [List.map_cons, List.map_nil]; decide))
local macro_rules | `(tactic| walk_at "kinds") => `(tactic| (intro L x hx; (repeat (rcases List.mem_cons.mp hx with h | hx; · (subst h; first | exact .inl rfl | exact .inr ⟨rfl, rfl⟩))); cases hx))
local macro_rules | `(tactic| walk_at "cap") => `(tactic| (repeat (first | exact Cap.cell | exact Cap.free | apply Cap.there)))
local macro_rules | `(tactic| walk_at "cini") => `(tactic| (intro C; repeat (first | exact CIni.nil | apply CIni.loc rfl | apply CIni.cell rfl rfl rfl | refine CIni.free rfl rfl (by walk_at "cap") ?_)))
theorem fmod_nat (x c : Nat) : (x : Int).fmod (c : Int) = ((x % c : Nat) : Int) := by rw [Int.fmod_eq_emod_of_nonneg _ (Int.natCast_nonneg c)]; rfl
theorem fdiv_nat (x c : Nat) : (x : Int).fdiv (c : Int) = ((x / c : Nat) : Int) := by rw [Int.fdiv_eq_ediv_of_nonneg _ (Int.natCast_nonneg c)]; rfl
noncomputable def numsOf (script : List Int) : List Nat := ((script ++ ([98, 99, 102, 61] : List Int).drop script.length).take 6).map fun x => (x.fmod 1000000000).toNat
noncomputable def rawNames (ns : List Nat) : List Str := ((ns.zip [97, 98, 99, 100, 101, 102]).map fun p => T [p.1 % 55296, p.2]) ++ [T [109]]
noncomputable def insAt (row : List Str) (name : Str) (k : Nat) : List Str := row.take k ++ [name] ++ row.drop k
noncomputable def ansAt (one : List Str) (count : Nat) : List Int := (List.range count).map fun k => coll (one.getD k default) (one.getD (k + 1) default)
noncomputable def ansOf (row : List Str) (name : Str) : List (List Int) := (List.range (row.length + 1)).map fun k => ansAt (insAt row name k) row.length
noncomputable def textOf (lead : List Nat) (c x : Nat) : List Nat := lead.take (x % c) ++ [if x / c % 2 = 0 then 32 else 9] ++ lead.drop (x % c)
noncomputable def otherOf (text : List Nat) (t : Nat) : List Nat := text.take t ++ [if text.getD t 0 = 9 then 32 else 9] ++ text.drop (t + 1)
/-- one turn of the law's walk -/
structure StepOk (row : List Str) (lead : List Nat) (x : Nat) (name : Str) (k : Nat) : Prop where
  pos : 0 < row.length
  len : row.length ≤ 6
  lln : lead.length + 1 = row.length
  ws : Ws lead
  fst : ∃ turns, PlacesOk lead (otherOf (textOf lead row.length x) (x / (2 * row.length) % row.length)) row (ansOf row name) ((x / 72 : Nat) + 7) turns
  snd : ∃ turns, PlacesOk lead (textOf lead row.length x) row (ansOf row name) ((x / 72 : Nat) : Int) turns ∧ (placesOf (ansOf row name) turns)[0]? = some k
noncomputable abbrev lvv (L : Addr) (script x numbers names row lead name count rows answers text turn other places gone rest shown price : VV) : Vars :=
  [("script", .loc, script), ("x", .loc, x), ("numbers", .loc, numbers), ("names", .loc, names), ("row", .cell (L + 1), row), ("lead", .loc, lead), ("name", .cell (L + 2), name), ("count", .cell (L + 3), count), ("rows", .loc, rows), ("answers", .loc, answers), ("text", .loc, text), ("turn", .loc, turn), ("other", .loc, other), ("places", .loc, places), ("gone", .cell (L + 4), gone), ("rest", .cell (L + 5), rest), ("shown", .loc, shown), ("price", .loc, price)]
theorem insAt_len (row : List Str) (name : Str) (k : Nat) : (insAt row name k).length = row.length + 1 := by
  unfold insAt
  simp only [List.length_append, List.length_take, List.length_drop, List.length_cons, List.length_nil]
  omega
theorem textOf_len (lead : List Nat) (c x : Nat) : (textOf lead c x).length = lead.length + 1 := by
  unfold textOf
  simp only [List.length_append, List.length_take, List.length_drop, List.length_cons, List.length_nil]
  omega
theorem otherOf_len (text : List Nat) (t : Nat) (h : t < text.length) : (otherOf text t).length = text.length := by
  unfold otherOf
  simp only [List.length_append, List.length_take, List.length_drop, List.length_cons, List.length_nil]
  omega
theorem Ws.app {a b : List Nat} (h1 : Ws a) (h2 : Ws b) : Ws (a ++ b) := fun c hc => (List.mem_append.mp hc).elim (h1 c) (h2 c)
theorem Ws.sgn (p : Prop) [Decidable p] : Ws [if p then 32 else 9] := fun c hc => by rw [List.mem_singleton.mp hc]; split <;> simp
theorem textOf_ws {lead : List Nat} (h : Ws lead) (c x : Nat) : Ws (textOf lead c x) := ((h.take _).app (Ws.sgn _)).app (h.drop _)
theorem otherOf_ws {text : List Nat} (h : Ws text) (t : Nat) : Ws (otherOf text t) := ((h.take _).app (Ws.sgn _)).app (h.drop _)
theorem strs_get {l : List Str} {k : Nat} (h : k < l.length) : (l.map PV.str)[k]? = some (.str (l.getD k default)) := by
  rw [List.getElem?_map, List.getElem?_eq_getElem h]; simp [List.getD_eq_getElem?_getD, h]
section
variable {X : Cx} {ρ : Vars} {mg mb' mN : Str → Option Value}
theorem op_is_list {l : List PV} : Op2 X (compareOp .Is) (.list l) .none (.bool false) := fun V s u v Q E vol ru rv hQ => by
  obtain ⟨a, vs, rfl, _, _, _⟩ := rep_list ru
  cases rv; exact PyProof.Rows.is_none_ne (by intro h; cases h) (hQ _ _ (.refl s) mk_bool)
theorem ev_nat_mod {l r : Expr} {pos : Pos} {a b : Nat} (hl : Ev X l ρ (.int (a : Int))) (hr : Ev X r ρ (.int (b : Int))) (hb : 0 < b) : Ev X (.BinOp l .Mod r pos) ρ (.int ((a % b : Nat) : Int)) := by
  rw [← fmod_nat]; exact ev_binop hl hr (op_mod (by omega))
theorem ev_nat_div {l r : Expr} {pos : Pos} {a b : Nat} (hl : Ev X l ρ (.int (a : Int))) (hr : Ev X r ρ (.int (b : Int))) (hb : 0 < b) (hb' : b < 2 ^ 64) : Ev X (.BinOp l .FloorDiv r pos) ρ (.int ((a / b : Nat) : Int)) := by
  rw [← fdiv_nat]; exact ev_binop hl hr (op_floordiv (by omega) (pylong_small (by omega)))
theorem ev_nat_mul {l r : Expr} {pos : Pos} {a b : Nat} (hl : Ev X l ρ (.int (a : Int))) (hr : Ev X r ρ (.int (b : Int))) (hm : IntMulOk (a : Int) (b : Int)) : Ev X (.BinOp l .Mult r pos) ρ (.int ((a * b : Nat) : Int)) := by
  rw [show ((a * b : Nat) : Int) = (a : Int) * b from Int.natCast_mul a b]; exact ev_binop hl hr (op_mul hm)
theorem ev_nat_add {l r : Expr} {pos : Pos} {a b : Nat} (hl : Ev X l ρ (.int (a : Int))) (hr : Ev X r ρ (.int (b : Int))) : Ev X (.BinOp l .Add r pos) ρ (.int ((a + b : Nat) : Int)) := by
  rw [show ((a + b : Nat) : Int) = (a : Int) + b from Int.natCast_add a b]; exact ev_binop hl hr op_add
theorem ev_nat_lit {n : Nat} {k : Nat} {pos : Pos} : Ev X (.Constant (.int (n : Int)) k pos) ρ (.int (n : Int)) := ev_int
theorem ev_ltake {value hi : Expr} {p pos : Pos} {l : List PV} {k : Nat} (hv : Ev X value ρ (.list l)) (hk : Ev X hi ρ (.int (k : Int))) (hfit : l.length ≤ 100000) : Ev X (.Subscript value (.Slice none (some hi) none p) pos) ρ (.list (l.take k)) := by
  rw [← sl_to]; exact ev_lslice hv evo_nil (evo_int hk) (Nat.le_trans hfit (by decide))
theorem ev_ldrop {value lo : Expr} {p pos : Pos} {l : List PV} {k : Nat} (hv : Ev X value ρ (.list l)) (hk : Ev X lo ρ (.int (k : Int))) (hfit : l.length ≤ 100000) : Ev X (.Subscript value (.Slice (some lo) none none p) pos) ρ (.list (l.drop k)) := by
  rw [← sl_from]; exact ev_lslice hv (evo_int hk) evo_nil (Nat.le_trans hfit (by decide))
theorem ev_ttake {value hi : Expr} {p pos : Pos} {l : List Nat} {k : Nat} (hv : Ev X value ρ (.str (T l))) (hk : Ev X hi ρ (.int (k : Int))) (hfit : l.length ≤ 1000) : Ev X (.Subscript value (.Slice none (some hi) none p) pos) ρ (.str (T (l.take k))) := ev_aheadS hfit hv hk
theorem ev_tdrop {value lo : Expr} {p pos : Pos} {l : List Nat} {k : Nat} (hv : Ev X value ρ (.str (T l))) (hk : Ev X lo ρ (.int (k : Int))) (hfit : l.length ≤ 1000) : Ev X (.Subscript value (.Slice (some lo) none none p) pos) ρ (.str (T (l.drop k))) := by
  rw [show T (l.drop k) = T (sl (T l).cps.toList (some (k : Int)) none) by rw [sl_from]]
  exact ev_sslice hv (evo_int hk) evo_nil (by rw [T_len]; exact Nat.le_trans hfit (by decide))
theorem ev_titem1 {value slice : Expr} {pos : Pos} {l : List Nat} {k : Nat} (hv : Ev X value ρ (.str (T l))) (hs : Ev X slice ρ (.int (k : Int))) (hk : k < l.length) (hfit : l.length ≤ 1000)
    (hss : ∀ o i, subscripted slice false o i = operate [o, i] (getItem o i) := by intro _ _; with_unfolding_all rfl) : Ev X (.Subscript value slice pos) ρ (.str (T [l.getD k 0])) :=
  ev_sitem hv hs (by omega) (by omega) (by
    rw [T_len, seqIndex_pos hk]
    show (T l).cps[k]? = _
    simp [List.getD_eq_getElem?_getD, hk]) hss
end
end PL
end
noncomputable section
open PySem PySem.W PyProof.Rows PySem.Builtin.Str
set_option Elab.async false
set_option linter.unusedVariables false
set_option maxRecDepth 100000
set_option pp.maxSteps 600
namespace PL
local macro_rules | `(tactic| walk_at "at") => `(tactic| (repeat (first | exact At.here | exact AtMut.here | apply At.there | apply AtMut.there)))
local macro_rules | `(tactic| walk_at "put") => `(tactic| (repeat (first | exact Put.loc | exact Put.locNo | exact Put.cell | exact PutNew.no | exact PutNew.val | exact PutNew.mu | exact PutMut.here | exact Thaw.here | apply Put.there | apply PutNew.there | apply PutMut.there | apply Thaw.there)))
local macro_rules | `(tactic| walk_at "nm") => `(tactic| exact ev_name (by walk_at "at"))
local macro_rules | `(tactic| walk_at "ini") => `(tactic| (repeat (first | exact Ini.nil | apply Ini.argL rfl | apply Ini.loc rfl | apply Ini.argC rfl rfl | apply Ini.cell rfl rfl)))
local macro_rules | `(tactic| walk_at "nd") => `(tactic| (intro L O; simp [List.filterMap_cons, ownOf]))
local macro_rules | `(tactic| walk_at "nn") => `(tactic| (intro L; simp only [List.map_cons, List.map_nil]; decide))
local macro_rules | `(tactic| walk_at "kinds") => `(tactic| (intro L x hx; (repeat (rcases List.mem_cons.mp hx with h | hx; · (subst h; first | exact .inl rfl | exact .inr ⟨rfl, rfl⟩))); cases hx))
local macro_rules | `(tactic| walk_at "cap") => `(tactic| (repeat (first | exact Cap.cell | exact Cap.free | apply Cap.there)))
local macro_rules | `(tactic| walk_at "cini") => `(tactic| (intro C; repeat (first | exact CIni.nil | apply CIni.loc rfl | apply CIni.cell rfl rfl rfl | refine CIni.free rfl rfl (by walk_at "cap") ?_)))
noncomputable abbrev lawFor : Stmt := stm (fbody (mb 22)) 4
noncomputable abbrev lawCx (X : Cx) (A : Around) (q : Str) (code : Value) (L : Addr) : Cx := { X with A := A, env := fenv q (mb 22) code L 170 }
noncomputable abbrev sL (l : List Str) : PV := .list (l.map .str)
noncomputable abbrev aL (a : List (List Int)) : PV := .list (a.map fun a => .list (iL a))
section
variable {X : Cx} {mg mb' mN : Str → Option Value}
theorem Tc (c : Nat) : (⟨#[c]⟩ : Str) = T [c] := rfl
set_option maxHeartbeats 1000000 in
theorem step_a {A : Around} {q : Str} {code : Value} {L : Addr} (G : Pgm X mg mb') (hA : Room A 7) {row : List Str} {lead : List Nat} {x : Nat} {name : Str} {sc nu na : VV} {ss : List Stmt} {fl : PF} {ρ' : Vars} (hr : 0 < row.length) (hr' : row.length ≤ 6) (hl : lead.length + 1 = row.length)
    (hss : ss = (fbod lawFor).drop 6)
    (h : Exs (lawCx X A q code L) ss (lvv L sc (.val (.int (x : Int))) nu na (.val (sL row)) (.val (.str (T lead))) (.val (.str name)) (.val (.int (row.length : Int))) (.val (.list ((List.range (row.length + 1)).map fun k => sL (insAt row name k)))) (.val (aL (ansOf row name)))
      (.val (.str (T (textOf lead row.length x)))) (.val (.int ((x / (2 * row.length) % row.length : Nat) : Int))) (.val (.str (T (otherOf (textOf lead row.length x) (x / (2 * row.length) % row.length))))) .no .no .no .no .no) fl ρ') :
    Exs (lawCx X A q code L) (fbod lawFor) (lvv L sc (.val (.int (x : Int))) nu na (.val (sL row)) (.val (.str (T lead))) (.val (.str name)) .no .no .no .no .no .no .no .no .no .no .no) fl ρ' := by
  have big : (200000 : Nat) < sizeLine := by decide
  have hh := hA.handled
  have W : Wd (lawCx X A q code L) mg mb' := G.toGw.wd hA (st := mb 22) (L := L) (f := 170) (q := q) (code := code)
  have erng : ∀ n : Nat, rng 0 1 n = (List.range n).map fun (k : Nat) => PV.int (k : Int) := fun n => by
    unfold rng; exact List.map_congr_left fun k _ => by rw [show (0 : Int) + (k : Nat) * 1 = k by omega]
  refine exs_cons (ex_assign (p := .int (row.length : Int)) (by rw [← List.length_map (as := row) (f := PV.str)]; exact ev_call_builtin (id := "len") (evv_builtin W G.n_len G.b_len rfl) (evs_cons (by walk_at "nm") evs_nil) (op_len (by rw [List.length_map]; omega))) (by walk_at "put")) ?_
  refine exs_cons (ex_assign_comp (cl := [("row", L + 1), ("name", L + 2)]) (l := rng 0 1 (row.length + 1)) (out := (List.range (row.length + 1)).map fun k => sL (insAt row name k)) (fun C => [("k", .loc, .no), ("name", .free (L + 2), .val (.str name)), ("row", .free (L + 1), .val (sL row))])
    (it_range1 hh (evv_builtin W G.n_range G.b_range rfl) (ev_nat_add (by walk_at "nm") (ev_nat_lit (n := 1))) (by omega)) (fun C => ?_) (by walk_at "cini") (by walk_at "nd") (by walk_at "nn") (by rw [rng_length]; omega) (by walk_at "put")) ?_
  · rw [erng]
    refine cmp_map fun k hk => ⟨_, asg_name (by walk_at "put"), .nil, ?_, .drop (.same (.same .nil))⟩
    have e : (insAt row name k).map PV.str = ((row.map PV.str).take k ++ [PV.str name]) ++ (row.map PV.str).drop k := by simp [insAt, List.map_take, List.map_drop]
    show Ev _ _ _ (.list ((insAt row name k).map PV.str))
    rw [e]
    exact ev_binop (ev_binop (ev_ltake (by walk_at "nm") (by walk_at "nm") (by rw [List.length_map]; omega)) (ev_list (evs_cons (by walk_at "nm") evs_nil)) (op_ladd (by simp; omega))) (ev_ldrop (by walk_at "nm") (by walk_at "nm") (by rw [List.length_map]; omega)) (op_ladd (by simp; omega))
  refine exs_cons (ex_assign_comp (cl := [("count", L + 3)]) (l := (List.range (row.length + 1)).map fun k => sL (insAt row name k)) (out := (ansOf row name).map fun a => .list (iL a)) (fun C => [("one", .cell (C + 1), .no), ("count", .free (L + 3), .val (.int (row.length : Int)))])
    (it_list hh (by walk_at "nm")) (fun C => ?_) (by walk_at "cini") (by walk_at "nd") (by walk_at "nn") (by rw [List.length_map, List.length_range]; omega) (by walk_at "put")) ?_
  · unfold ansOf
    rw [List.map_map]
    refine cmp_map fun k hk => ⟨_, asg_name (by walk_at "put"), .nil, ?_, .dropC (.same .nil)⟩
    have hk' : k < row.length + 1 := List.mem_range.mp hk
    have hil := insAt_len row name k
    refine EvNew.ev (evn_comp (cl := [("one", C + 1)]) (l := rng 0 1 row.length) (fun D => [("k", .loc, .no), ("one", .free (C + 1), .val (sL (insAt row name k)))]) (it_range1 hh (evv_builtin W.comp G.n_range G.b_range rfl) (by walk_at "nm") (by omega)) (fun D => ?_) (by walk_at "cini") (by walk_at "nd") (by walk_at "nn") (by rw [rng_length]; omega))
    rw [erng]
    unfold ansAt iL
    rw [List.map_map]
    refine cmp_map fun j hj => ⟨_, asg_name (by walk_at "put"), .nil, ?_, .drop (.same .nil)⟩
    have hj' : j < row.length := List.mem_range.mp hj
    exact ev_call_fn (evv_global W.comp.comp G.m_coll rfl) (evs_cons (ev_item (k := j) (by walk_at "nm") (by walk_at "nm") (strs_get (by omega)) (by rw [List.length_map]; omega)) (evs_cons (ev_item (k := j + 1) (by walk_at "nm") (ev_nat_add (by walk_at "nm") (ev_nat_lit (n := 1))) (strs_get (by omega)) (by rw [List.length_map]; omega)) evs_nil)) (fn_coll G _ _).at (hA.less (by decide))
  have hxc : x % row.length < row.length := Nat.mod_lt _ hr
  have htl := textOf_len lead row.length x
  have h2 : ∀ n : Nat, ([32, 9] : List Nat).getD (n % 2) 0 = if n % 2 = 0 then 32 else 9 := fun n => by
    rcases Nat.mod_two_eq_zero_or_one n with h | h <;> rw [h] <;> rfl
  refine exs_cons (ex_assign (p := .str (T (textOf lead row.length x))) ?_ (by walk_at "put")) ?_
  · unfold textOf
    rw [← h2 (x / row.length)]
    exact ev_cat (ev_cat (ev_ttake (by walk_at "nm") (ev_nat_mod (by walk_at "nm") (by walk_at "nm") hr) (by omega)) (ev_titem1 (l := [32, 9]) (show Ev _ _ _ (.str (T [32, 9])) from ev_str) (ev_nat_mod (ev_nat_div (by walk_at "nm") (by walk_at "nm") hr (by omega)) (ev_nat_lit (n := 2)) (by decide)) (Nat.mod_lt _ (by decide)) (by decide)) (by simp only [List.length_take, List.length_cons, List.length_nil]; omega))
      (ev_tdrop (by walk_at "nm") (ev_nat_mod (by walk_at "nm") (by walk_at "nm") hr) (by omega)) (by simp only [List.length_append, List.length_take, List.length_drop, List.length_cons, List.length_nil]; omega)
  have htn : x / (2 * row.length) % row.length < row.length := Nat.mod_lt _ hr
  refine exs_cons (ex_assign (p := .int ((x / (2 * row.length) % row.length : Nat) : Int)) (ev_nat_mod (ev_nat_div (by walk_at "nm") (ev_nat_mul (ev_nat_lit (n := 2)) (by walk_at "nm") (IntMulOk.of_left (intBits_le_iff.mpr (by omega)))) (by omega) (by omega)) (by walk_at "nm") hr) (by walk_at "put")) ?_
  obtain ⟨t, ht⟩ : ∃ t, t = x / (2 * row.length) % row.length := ⟨_, rfl⟩
  obtain ⟨tx, htx⟩ : ∃ tx, tx = textOf lead row.length x := ⟨_, rfl⟩
  rw [← ht, ← htx] at h ⊢
  rw [← ht] at htn
  rw [← htx] at htl
  refine exs_cons (ex_assign (p := .str (T (otherOf tx t))) ?_ (by walk_at "put")) (hss ▸ h)
  unfold otherOf
  refine ev_cat (ev_cat (ev_ttake (by walk_at "nm") (by walk_at "nm") (by omega)) (ev_ifexp (b := decide (tx.getD t 0 = 9)) ?_ (fun h9 => ?_) (fun h9 => ?_)) (by simp only [List.length_take, List.length_cons, List.length_nil]; omega)) (ev_tdrop (by walk_at "nm") (ev_nat_add (by walk_at "nm") (ev_nat_lit (n := 1))) (by omega)) (by simp only [List.length_append, List.length_take, List.length_drop, List.length_cons, List.length_nil]; omega)
  · rw [show decide (tx.getD t 0 = 9) = decide ([tx.getD t 0] = [9]) by simp]
    exact it_cmp (ev_titem1 (by walk_at "nm") (by walk_at "nm") (by omega) (by omega)) ev_tab op_Teq
  · rw [if_pos (of_decide_eq_true h9)]; exact ev_sp
  · rw [if_neg (of_decide_eq_false h9)]; exact ev_tab
theorem ansOf_len (row : List Str) (name : Str) : (ansOf row name).length = row.length + 1 := by simp [ansOf]
set_option maxHeartbeats 1000000 in
theorem step_b {A : Around} {q : Str} {code : Value} {L : Addr} (G : Pgm X mg mb') (K : Wsp X mN) (hC : X.C = 118) (hlow : ∃ b o, sysModules < b ∧ X.base.get? b = some o) (hA : Room A 7) (hfr : A.frames = some [fenv q (mb 22) code L 170]) {row : List Str} {lead : List Nat} {x k : Nat} {name : Str} {sc nu na : VV} (H : StepOk row lead x name k) :
    Exs (lawCx X A q code L) ((fbod lawFor).drop 6) (lvv L sc (.val (.int (x : Int))) nu na (.val (sL row)) (.val (.str (T lead))) (.val (.str name)) (.val (.int (row.length : Int))) (.val (.list ((List.range (row.length + 1)).map fun k => sL (insAt row name k)))) (.val (aL (ansOf row name)))
      (.val (.str (T (textOf lead row.length x)))) (.val (.int ((x / (2 * row.length) % row.length : Nat) : Int))) (.val (.str (T (otherOf (textOf lead row.length x) (x / (2 * row.length) % row.length))))) .no .no .no .no .no) .next
      (lvv L sc .no nu na (.val (sL (insAt row name k))) (.val (.str (T (textOf lead row.length x)))) .no .no .no .no .no .no .no .no .no .no .no .no) := by
  have big : (200000 : Nat) < sizeLine := by decide
  have hh := hA.handled
  have W : Wd (lawCx X A q code L) mg mb' := G.toGw.wd hA (st := mb 22) (L := L) (f := 170) (q := q) (code := code)
  have hr := H.pos
  have hr' := H.len
  have hl := H.lln
  have htl := textOf_len lead row.length x
  have htn : x / (2 * row.length) % row.length < row.length := Nat.mod_lt _ hr
  have wt := textOf_ws H.ws row.length x
  have al := ansOf_len row name
  obtain ⟨tu1, ok1⟩ := H.fst
  obtain ⟨tu2, ok2, hk⟩ := H.snd
  generalize x / (2 * row.length) % row.length = t at *
  generalize htx : textOf lead row.length x = tx at *
  generalize han : ansOf row name = an at *
  have hol := otherOf_len tx t (by omega)
  have wo := otherOf_ws wt t
  generalize otherOf tx t = ot at *
  have hk1 : k < row.length + 1 := by
    have := List.mem_of_getElem? hk
    unfold placesOf at this
    have := List.mem_range.mp (List.mem_filter.mp this).1
    omega
  have hA6 : Room (lawCx X A q code L).A 6 := hA.less
  have hkm : (fscope (mb 22)).kind ≠ .module := by decide
  have hfe : FunEnvs [] := fun e he => by cases he
  refine exs_cons (Ex1X.nil (ex1X_if (b := false) (itx_cmp (evx_call_fn (l := []) (evv_global W G.m_places rfl) (evs_cons (by walk_at "nm") (evs_cons (by walk_at "nm") (evs_cons (by walk_at "nm") (evs_cons (by walk_at "nm") (evs_cons (ev_binop (ev_nat_div (by walk_at "nm") (ev_nat_lit (n := 72)) (by decide) (by decide)) ev_int op_add) evs_nil)))))
    (fn_places G K hC hlow lead ot row an _ tu1 H.ws wo (by omega) (by omega) (by omega) (by omega) ok1).at hA6 hfr hfe hkm rfl) ev_none op_is_list) (fun h => by cases h) (fun _ => Exs.x exs_nil))) ?_
  refine exs_cons (Ex1X.nil (ex1X_assign (evx_call_fn (l := []) (evv_global W G.m_places rfl) (evs_cons (by walk_at "nm") (evs_cons (by walk_at "nm") (evs_cons (by walk_at "nm") (evs_cons (by walk_at "nm") (evs_cons (ev_nat_div (by walk_at "nm") (ev_nat_lit (n := 72)) (by decide) (by decide)) evs_nil)))))
    (fn_places G K hC hlow lead tx row an _ tu2 H.ws wt (by omega) (by omega) (by omega) (by omega) ok2).at hA6 hfr hfe hkm rfl) (by walk_at "put"))) ?_
  have hpl : ((placesOf an tu2).map fun (k : Nat) => PV.int (k : Int))[0]? = some (.int (k : Int)) := by rw [List.getElem?_map, hk]; rfl
  have hpn : (placesOf an tu2).length ≤ 40 := by unfold placesOf; exact Nat.le_trans (List.length_filter_le _ _) (by rw [List.length_range]; omega)
  refine exs_cons (ex_if (it_not (it_value (by walk_at "nm") (tr_list (by rw [List.length_map]; omega)))) (fun h => ?_) (fun _ => exs_nil)) ?_
  · cases hp : placesOf an tu2 with
    | nil => rw [hp] at hk; cases hk
    | cons a b => rw [hp] at h; simp at h
  refine exs_cons (ex_assign (p := sL (insAt row name k)) (ev_item (k := k) (by walk_at "nm") (ev_item (k := 0) (by walk_at "nm") ev_int hpl (by rw [List.length_map]; omega)) ?_ (by rw [List.length_map, List.length_range]; omega)) (by walk_at "put")) ?_
  · rw [List.getElem?_map, List.getElem?_range hk1]; rfl
  exact exs_cons (ex_assign (p := .str (T tx)) (by walk_at "nm") (by walk_at "put")) (exs_done (.same (.drop (.same (.same (.same (.same (.dropC (.dropC (.drop (.drop (.drop (.drop (.drop (.drop (.same (.same (.same (.same .nil)))))))))))))))))))
/-- the law's walk over the numbers -/
inductive Chain : List (Nat × Str) → List Str → List Nat → List Str → List Nat → Prop
  | nil {row lead} : Chain [] row lead row lead
  | cons {x name k ps row lead rowF leadF} : StepOk row lead x name k → Chain ps (insAt row name k) (textOf lead row.length x) rowF leadF → Chain ((x, name) :: ps) row lead rowF leadF
theorem law_loop {A : Around} {q : Str} {code : Value} {L : Addr} (G : Pgm X mg mb') (K : Wsp X mN) (hC : X.C = 118) (hlow : ∃ b o, sysModules < b ∧ X.base.get? b = some o) (hA : Room A 7) (hfr : A.frames = some [fenv q (mb 22) code L 170]) {sc nu na : VV} {ps : List (Nat × Str)} {row rowF : List Str} {lead leadF : List Nat} (H : Chain ps row lead rowF leadF) :
    LoopL (lawCx X A q code L) (ftgt lawFor) (fbod lawFor) (ps.map fun p => .tup [.int (p.1 : Int), .str p.2]) (lvv L sc .no nu na (.val (sL row)) (.val (.str (T lead))) .no .no .no .no .no .no .no .no .no .no .no .no) .next
      (lvv L sc .no nu na (.val (sL rowF)) (.val (.str (T leadF))) .no .no .no .no .no .no .no .no .no .no .no .no) := by
  induction H with
  | nil => exact .nil
  | cons hs _ ih => exact .cons (asg_tuple2 hA.handled (asg_name (by walk_at "put")) (asg_name (by walk_at "put"))) (step_a G hA hs.pos hs.len hs.lln rfl (step_b G K hC hlow hA hfr hs)) ih
end
end PL
end
noncomputable section
open PySem PySem.W PyProof.Rows PySem.Builtin.Str
set_option Elab.async false
set_option linter.unusedVariables false
set_option maxRecDepth 100000
set_option pp.maxSteps 600
namespace PL
local macro_rules | `(tactic| walk_at "at") => `(tactic| (repeat (first | exact At.here | exact AtMut.here | apply At.there | apply AtMut.there)))
local macro_rules | `(tactic| walk_at "put") => `(tactic| (repeat (first | exact Put.loc | exact Put.locNo | exact Put.cell | exact PutNew.no | exact PutNew.val | exact PutNew.mu | exact PutMut.here | exact Thaw.here | apply Put.there | apply PutNew.there | apply PutMut.there | apply Thaw.there)))
local macro_rules | `(tactic| walk_at "nm") => `(tactic| exact ev_name (by walk_at "at"))
local macro_rules | `(tactic| walk_at "ini") => `(tactic| (repeat (first | exact Ini.nil | apply Ini.argL rfl | apply Ini.loc rfl | apply Ini.argC rfl rfl | apply Ini.cell rfl rfl)))
local macro_rules | `(tactic| walk_at "nd") => `(tactic| (intro L O; simp [List.filterMap_cons, ownOf]))
local macro_rules | `(tactic| walk_at "nn") => `(tactic| (intro L; simp only [List.map_cons, List.map_nil]; decide))
local macro_rules | `(tactic| walk_at "kinds") => `(tactic| (intro L x hx; (repeat (rcases List.mem_cons.mp hx with h | hx; · (subst h; first | exact .inl rfl | exact .inr ⟨rfl, rfl⟩))); cases hx))
local macro_rules | `(tactic| walk_at "cap") => `(tactic| (repeat (first | exact Cap.cell | exact Cap.free | apply Cap.there)))
local macro_rules | `(tactic| walk_at "cini") => `(tactic| (intro C; repeat (first | exact CIni.nil | apply CIni.loc rfl | apply CIni.cell rfl rfl rfl | refine CIni.free rfl rfl (by walk_at "cap") ?_)))
noncomputable def sigOf (rest : List Str) : List Nat := (List.range (rest.length - 1)).map fun k => if coll (rest.getD k default) (rest.getD (k + 1) default) = -1 then 32 else 9
noncomputable def restOf (row : List Str) (gone : Nat) : List Str := ((List.range row.length).filter fun k => decide (gone / 2 ^ k % 2 = 0)).map fun k => row.getD k default
/-- what the last loop asks of a number -/
noncomputable def FinOk (row : List Str) (lead : List Nat) (x : Nat) : Prop :=
  0 < row.length ∧ 0 < (restOf row (x % (2 ^ row.length - 1))).length ∧ lev (sigOf (restOf row (x % (2 ^ row.length - 1)))) lead (2 * ((row.length : Int) - (restOf row (x % (2 ^ row.length - 1))).length) - 1 + ((x % 3 : Nat) : Int)) = 2 * ((row.length : Int) - (restOf row (x % (2 ^ row.length - 1))).length)
theorem restOf_len (row : List Str) (gone : Nat) : (restOf row gone).length ≤ row.length := by
  unfold restOf; rw [List.length_map]; exact Nat.le_trans (List.length_filter_le _ _) (by rw [List.length_range]; exact Nat.le_refl _)
theorem sigOf_len (rest : List Str) : (sigOf rest).length = rest.length - 1 := by simp [sigOf]
theorem sigOf_ws (rest : List Str) : Ws (sigOf rest) := fun c hc => by
  unfold sigOf at hc
  obtain ⟨k, _, rfl⟩ := List.mem_map.mp hc
  split <;> simp
theorem flat_one (l : List Nat) : (l.map fun c => [c]).flatten = l := by induction l with
  | nil => rfl
  | cons a l ih => simp [ih]
section
variable {X : Cx} {ρ : Vars} {mg mb' mN : Str → Option Value}
theorem ev_nat_pow {l r : Expr} {pos : Pos} {a b : Nat} (hl : Ev X l ρ (.int (a : Int))) (hr : Ev X r ρ (.int (b : Int))) (hm : ((Builtin.Int.intBits (a : Int) : Nat) : Int) * b ≤ 2 ^ 27) : Ev X (.BinOp l .Pow r pos) ρ (.int ((a ^ b : Nat) : Int)) := by
  rw [show ((a ^ b : Nat) : Int) = (a : Int) ^ ((b : Int).toNat) by rw [Int.toNat_natCast]; exact Int.natCast_pow a b]
  exact ev_binop hl hr (op_pow (Int.natCast_nonneg b) hm)
noncomputable abbrev finFor : Stmt := stm (fbody (mb 22)) 5
set_option maxHeartbeats 1000000 in
theorem fin_step {A : Around} {q : Str} {code : Value} {L : Addr} (G : Pgm X mg mb') (hA : Room A 7) {row : List Str} {lead : List Nat} {x : Nat} {sc nu na : VV} (hr : row.length ≤ 7) (hl : lead.length ≤ 7) (wl : Ws lead) (H : FinOk row lead x) :
    Exs (lawCx X A q code L) (fbod finFor) (lvv L sc (.val (.int (x : Int))) nu na (.val (sL row)) (.val (.str (T lead))) .no .no .no .no .no .no .no .no .no .no .no .no) .next
      (lvv L sc .no nu na (.val (sL row)) (.val (.str (T lead))) .no .no .no .no .no .no .no .no .no .no .no .no) := by
  have big : (200000 : Nat) < sizeLine := by decide
  have hh := hA.handled
  have W : Wd (lawCx X A q code L) mg mb' := G.toGw.wd hA (st := mb 22) (L := L) (f := 170) (q := q) (code := code)
  have erng : ∀ n : Nat, rng 0 1 n = (List.range n).map fun (k : Nat) => PV.int (k : Int) := fun n => by
    unfold rng; exact List.map_congr_left fun k _ => by rw [show (0 : Int) + (k : Nat) * 1 = k by omega]
  obtain ⟨hr0, hq0, H⟩ := H
  have h2 : 1 ≤ 2 ^ row.length := Nat.one_le_two_pow
  have h2' : 2 ≤ 2 ^ row.length := Nat.le_trans (by decide : 2 ≤ 2 ^ 1) (Nat.pow_le_pow_right (by decide) hr0)
  have h27 : 2 ^ row.length ≤ 2 ^ 7 := Nat.pow_le_pow_right (by decide) hr
  have hbits : ∀ b : Nat, b ≤ 7 → ((Builtin.Int.intBits ((2 : Nat) : Int) : Nat) : Int) * (b : Int) ≤ 2 ^ 27 := fun b hb => by
    have : Builtin.Int.intBits ((2 : Nat) : Int) ≤ 64 := intBits_le_iff.mpr (by decide)
    have h1 : ((Builtin.Int.intBits ((2 : Nat) : Int) : Nat) : Int) * (b : Int) ≤ 64 * 7 := by
      have : (Builtin.Int.intBits ((2 : Nat) : Int)) * b ≤ 64 * 7 := Nat.mul_le_mul this hb
      exact_mod_cast this
    exact Int.le_trans h1 (by decide)
  generalize hg : x % (2 ^ row.length - 1) = gone at H hq0
  refine exs_cons (ex_assign (p := .int (gone : Int)) ?_ (by walk_at "put")) ?_
  · rw [← hg]
    refine ev_nat_mod (by walk_at "nm") ?_ (by omega)
    rw [show ((2 ^ row.length - 1 : Nat) : Int) = ((2 ^ row.length : Nat) : Int) - 1 by omega]
    refine ev_binop (ev_nat_pow (ev_nat_lit (n := 2)) ?_ (hbits _ hr)) ev_int op_sub
    rw [← List.length_map (as := row) (f := PV.str)]
    exact ev_call_builtin (id := "len") (evv_builtin W G.n_len G.b_len rfl) (evs_cons (by walk_at "nm") evs_nil) (op_len (by rw [List.length_map]; omega))
  refine exs_cons (ex_assign (p := sL (restOf row gone)) (EvNew.ev (evn_comp (cl := [("row", L + 1), ("gone", L + 4)]) (l := rng 0 1 row.length) (out := (restOf row gone).map .str) (fun C => [("k", .loc, .no), ("gone", .free (L + 4), .val (.int (gone : Int))), ("row", .free (L + 1), .val (sL row))])
    (it_range1 hh (evv_builtin W G.n_range G.b_range rfl) (by rw [← List.length_map (as := row) (f := PV.str)]; exact ev_call_builtin (id := "len") (evv_builtin W G.n_len G.b_len rfl) (evs_cons (by walk_at "nm") evs_nil) (op_len (by rw [List.length_map]; omega))) (by omega)) (fun C => ?_) (by walk_at "cini") (by walk_at "nd") (by walk_at "nn") (by rw [rng_length]; omega))) (by walk_at "put")) ?_
  · rw [erng]
    unfold restOf
    rw [List.map_map]
    refine cmp_filter fun k hk => ⟨_, asg_name (by walk_at "put"), .one ?_, fun _ => ?_, .drop (.same (.same .nil))⟩
    · have hk' : k < row.length := List.mem_range.mp hk
      have hpk : 2 ^ k ≤ 2 ^ 7 := Nat.pow_le_pow_right (by decide) (by omega)
      rw [show decide (gone / 2 ^ k % 2 = 0) = ((((gone / 2 ^ k % 2 : Nat) : Int)) == 0) by generalize gone / 2 ^ k % 2 = z; rw [Bool.eq_iff_iff]; simp only [decide_eq_true_eq, beq_iff_eq]; omega]
      exact it_cmp (ev_nat_mod (ev_nat_div (by walk_at "nm") (ev_nat_pow (ev_nat_lit (n := 2)) (by walk_at "nm") (hbits _ (by omega))) (Nat.two_pow_pos k) (by omega)) (ev_nat_lit (n := 2)) (by decide)) ev_int op_eq
    · have hk' : k < row.length := List.mem_range.mp hk
      exact ev_item (k := k) (by walk_at "nm") (by walk_at "nm") (strs_get hk') (by rw [List.length_map]; omega)
  have hrl := restOf_len row gone
  generalize restOf row gone = rest at *
  have hsl := sigOf_len rest
  have hws := sigOf_ws rest
  refine exs_cons (ex_assign (p := .str (T (sigOf rest))) ?_ (by walk_at "put")) ?_
  · have e : sigOf rest = ((sigOf rest).map fun c => [c]).flatten := (flat_one _).symm
    rw [e]
    refine ev_method (ps := [.list (((sigOf rest).map fun c => [c]).map fun y => .str (T y))]) (p := .str Str.empty) ev_str str_type str_ref PySem.F.plainAttrs_str PySem.F.slot_str_join PySem.F.type_str_join (evs_cons (EvNew.ev (evn_comp (cl := [("rest", L + 5)]) (l := rng 0 1 (rest.length - 1)) (fun C => [("k", .loc, .no), ("rest", .free (L + 5), .val (sL rest))])
      (it_range1 hh (evv_builtin W G.n_range G.b_range rfl) ?_ (by omega)) (fun C => ?_) (by walk_at "cini") (by walk_at "nd") (by walk_at "nn") (by rw [rng_length]; omega))) evs_nil) (op_join (by rw [List.length_map]; omega) (fun y hy => by obtain ⟨c, _, rfl⟩ := List.mem_map.mp hy; simp)) rfl rfl rfl
    · rw [show ((rest.length - 1 : Nat) : Int) = (rest.length : Int) - 1 by omega, ← List.length_map (as := rest) (f := PV.str)]
      exact ev_binop (ev_call_builtin (id := "len") (evv_builtin W G.n_len G.b_len rfl) (evs_cons (by walk_at "nm") evs_nil) (op_len (by rw [List.length_map]; omega))) ev_int op_sub
    · rw [erng]
      unfold sigOf
      rw [List.map_map, List.map_map]
      refine cmp_map fun k hk => ⟨_, asg_name (by walk_at "put"), .nil, ?_, .drop (.same .nil)⟩
      have hk' : k < rest.length - 1 := List.mem_range.mp hk
      refine ev_ifexp (b := decide (coll (rest.getD k default) (rest.getD (k + 1) default) = -1)) (it_cmp (ev_call_fn (evv_global W.comp G.m_coll rfl) (evs_cons (ev_item (k := k) (by walk_at "nm") (by walk_at "nm") (strs_get (by omega)) (by rw [List.length_map]; omega)) (evs_cons (ev_item (k := k + 1) (by walk_at "nm") (ev_nat_add (by walk_at "nm") (ev_nat_lit (n := 1))) (strs_get (by omega)) (by rw [List.length_map]; omega)) evs_nil)) (fn_coll G _ _).at (hA.less (by decide))) (ev_unary ev_int op_neg) op_eq) (fun h => ?_) (fun h => ?_)
      · show Ev _ _ _ (.str (T [if _ then 32 else 9]))
        rw [if_pos (of_decide_eq_true h)]; exact ev_sp
      · show Ev _ _ _ (.str (T [if _ then 32 else 9]))
        rw [if_neg (of_decide_eq_false h)]; exact ev_tab
  have elenRow : ∀ {ρ : Vars} {p1 p2 pos : Pos}, Ev (lawCx X A q code L) (.Name "row" p1) ρ (sL row) → Ev (lawCx X A q code L) (.Call (.Name "len" p2) [.Name "row" p1] [] pos) ρ (.int (row.length : Int)) := fun he => by
    rw [← List.length_map (as := row) (f := PV.str)]
    exact ev_call_builtin (id := "len") (evv_builtin W G.n_len G.b_len rfl) (evs_cons he evs_nil) (op_len (by rw [List.length_map]; omega))
  have elenRest : ∀ {ρ : Vars} {p1 p2 pos : Pos}, Ev (lawCx X A q code L) (.Name "rest" p1) ρ (sL rest) → Ev (lawCx X A q code L) (.Call (.Name "len" p2) [.Name "rest" p1] [] pos) ρ (.int (rest.length : Int)) := fun he => by
    rw [← List.length_map (as := rest) (f := PV.str)]
    exact ev_call_builtin (id := "len") (evv_builtin W G.n_len G.b_len rfl) (evs_cons he evs_nil) (op_len (by rw [List.length_map]; omega))
  refine exs_cons (ex_assign (p := .int (2 * ((row.length : Int) - (rest.length : Int)))) (ev_binop ev_int (ev_binop (elenRow (by walk_at "nm")) (elenRest (by walk_at "nm")) op_sub) (op_mul (IntMulOk.of_left (intBits_le_iff.mpr (by decide))))) (by walk_at "put")) ?_
  generalize hpr : 2 * ((row.length : Int) - (rest.length : Int)) = pr at *
  refine exs_cons (ex_if (it_cmp (ev_call_fn (evv_global W G.m_lev rfl) (evs_cons (by walk_at "nm") (evs_cons (by walk_at "nm") (evs_cons (ev_binop (ev_binop (by walk_at "nm") ev_int op_sub) (ev_nat_mod (by walk_at "nm") (ev_nat_lit (n := 3)) (by decide)) op_add) evs_nil))) (fn_lev G (sigOf rest) lead (pr - 1 + ((x % 3 : Nat) : Int)) hws wl (by omega) (by omega)).at (hA.less (by decide))) (by walk_at "nm") op_ne) (fun h => ?_) (fun _ => exs_nil)) ?_
  · rw [H] at h; simp at h
  exact exs_done (.same (.drop (.same (.same (.same (.same (.same (.same (.same (.same (.same (.same (.same (.same (.dropC (.dropC (.drop (.drop .nil))))))))))))))))))
end
end PL
end
noncomputable section
open PySem PySem.W PyProof.Rows PySem.Builtin.Str
set_option Elab.async false
set_option linter.unusedVariables false
set_option maxRecDepth 100000
set_option pp.maxSteps 600
namespace PL
local macro_rules | `(tactic| walk_at "at") => `(tactic| (repeat (first | exact At.here | exact AtMut.here | apply At.there | apply AtMut.there)))
local macro_rules | `(tactic| walk_at "put") => `(tactic| (repeat (first | exact Put.loc | exact Put.locNo | exact Put.cell | exact PutNew.no | exact PutNew.val | exact PutNew.mu | exact PutMut.here | exact Thaw.here | apply Put.there | apply PutNew.there | apply PutMut.there | apply Thaw.there)))
local macro_rules | `(tactic| walk_at "nm") => `(tactic| exact ev_name (by walk_at "at"))
local macro_rules | `(tactic| walk_at "ini") => `(tactic| (repeat (first | exact Ini.nil | apply Ini.argL rfl | apply Ini.loc rfl | apply Ini.argC rfl rfl | apply Ini.cell rfl rfl)))
local macro_rules | `(tactic| walk_at "nd") => `(tactic| (intro L O; simp [List.filterMap_cons, ownOf]))
local macro_rules | `(tactic| walk_at "nn") => `(tactic| (intro L; simp only [List.map_cons, List.map_nil]; decide))
local macro_rules | `(tactic| walk_at "kinds") => `(tactic| (intro L x hx; (repeat (rcases List.mem_cons.mp hx with h | hx; · (subst h; first | exact .inl rfl | exact .inr ⟨rfl, rfl⟩))); cases hx))
local macro_rules | `(tactic| walk_at "cap") => `(tactic| (repeat (first | exact Cap.cell | exact Cap.free | apply Cap.there)))
local macro_rules | `(tactic| walk_at "cini") => `(tactic| (intro C; repeat (first | exact CIni.nil | apply CIni.loc rfl | apply CIni.cell rfl rfl rfl | refine CIni.free rfl rfl (by walk_at "cap") ?_)))
section
variable {X : Cx} {ρ : Vars} {mg mb' mN : Str → Option Value}
theorem fn_xfrm (G : Pgm X mg mb') (x : Str) : FnS X 49 [.str x] (.str x) 1 := by
  refine fn_of G.toGw (fun L => [("s", .loc, .val (.str x))]) (xs := ["s"]) G.f_xfrm ?_ (by decide) (by walk_at "kinds") (fun L => by walk_at "ini") (by walk_at "nd") (by walk_at "nn") ?_
  · intro n q doc pm an code ct vs hvs
    match vs, hvs with
    | [u], _ => rfl
  · intro A q code L hA
    exact rt_return (by walk_at "nm")
theorem op_chr {n : Nat} (hn : n ≤ 1114111) : OpN X (fun vs => call (.builtin "chr") vs) [.int (n : Int)] (.str (T [n])) := fun V s us Q E vol rs hQ => by
  simp only [Cx.Rs, Reps] at rs
  obtain ⟨v, _, rfl, ⟨t, rfl⟩, rfl⟩ := rs
  refine chr_of_range (Int.natCast_nonneg n) (by omega) ?_
  rw [Int.toNat_natCast]
  exact hQ _ _ .toks ⟨_, rfl⟩
theorem fin_loop {A : Around} {q : Str} {code : Value} {L : Addr} (G : Pgm X mg mb') (hA : Room A 7) {row : List Str} {lead : List Nat} {sc nu na : VV} (hr : row.length ≤ 7) (hl : lead.length ≤ 7) (wl : Ws lead) : ∀ (ns : List Nat), (∀ x ∈ ns, FinOk row lead x) →
    LoopL (lawCx X A q code L) (ftgt finFor) (fbod finFor) (ns.map fun (x : Nat) => PV.int (x : Int)) (lvv L sc .no nu na (.val (sL row)) (.val (.str (T lead))) .no .no .no .no .no .no .no .no .no .no .no .no) .next
      (lvv L sc .no nu na (.val (sL row)) (.val (.str (T lead))) .no .no .no .no .no .no .no .no .no .no .no .no)
  | [], _ => .nil
  | x :: ns, h => .cons (asg_name (by walk_at "put")) (fin_step G hA hr hl wl (h x (List.mem_cons_self ..))) (fin_loop G hA hr hl wl ns fun y hy => h y (List.mem_cons_of_mem _ hy))
theorem numsOf_len (script : List Int) : 4 ≤ (numsOf script).length ∧ (numsOf script).length ≤ 6 := by
  unfold numsOf
  simp only [List.length_map, List.length_take, List.length_append, List.length_drop, List.length_cons, List.length_nil]
  omega
theorem rawNames_len (ns : List Nat) (h : ns.length ≤ 6) : (rawNames ns).length = ns.length + 1 := by
  unfold rawNames
  simp only [List.length_append, List.length_map, List.length_zip, List.length_cons, List.length_nil]
  omega
/-- what the plain law shows of a script -/
structure LawOk (script : List Int) (rowF : List Str) (leadF : List Nat) : Prop where
  chain : Chain ((numsOf script).zip ((sortS (rawNames (numsOf script))).drop 1)) ((sortS (rawNames (numsOf script))).take 1) [] rowF leadF
  row : rowF.length ≤ 7
  lead : leadF.length ≤ 7
  ws : Ws leadF
  fin : ∀ x ∈ numsOf script, FinOk rowF leadF x
set_option maxHeartbeats 1000000 in
theorem fn_law (G : Pgm X mg mb') (K : Wsp X mN) (hC : X.C = 118) (hlow : ∃ b o, sysModules < b ∧ X.base.get? b = some o) (script : List Int) (hs : script.length ≤ 63) {rowF : List Str} {leadF : List Nat} (H : LawOk script rowF leadF)
    {A₀ : Around} (hA₀ : Room A₀ 8) (hfr₀ : A₀.frames = some []) {s : Shared} {vs : List Value} {Q : Value → Shared → Prop} {E : Value → Shared → Prop} {V : Addr → Prop} (vol : Vol X.base V s) (rs : Reps X.C V s.heap [.list (iL script)] vs)
    (hQ : ∀ v s', Grow s s' → v = .bool true → Q v s') : wpAny X.M A₀ (call (.ref 170) vs) Q E s := by
  have big : (200000 : Nat) < sizeLine := by decide
  have hnl := numsOf_len script
  have hrl := rawNames_len (numsOf script) hnl.2
  have hsl : (sortS (rawNames (numsOf script))).length = (numsOf script).length + 1 := by rw [(sortS_perm _).length_eq, hrl]
  have F : FnXl X [] 170 [.list (iL script)] (.bool true) 8 := by
    refine fn_ofXl [] G.toGw (fun L => lvv L (.val (.list (iL script))) .no .no .no .no .no .no .no .no .no .no .no .no .no .no .no .no .no) (xs := ["script"]) G.f_law ?_ (by decide) (by walk_at "kinds") (fun L => by walk_at "ini") (by walk_at "nd") (by walk_at "nn") ?_
    · intro n q doc pm an code ct vs hvs
      match vs, hvs with
      | [u], _ => rfl
    intro A q code L hA hfr hfe
    have hh := hA.handled
    have W : Wd (lawCx X A q code L) mg mb' := G.toGw.wd hA (st := mb 22) (L := L) (f := 170) (q := q) (code := code)
    suffices h : Rt (lawCx X A q code L) (fbody (mb 22)) (lvv L (.val (.list (iL script))) .no .no .no .no .no .no .no .no .no .no .no .no .no .no .no .no .no) (.bool true) by
      obtain ⟨ρ', h⟩ := h
      exact ⟨ρ', Exs.x h⟩
    have e0 : ((iL script ++ (iL [98, 99, 102, 61]).drop script.length).take 6) = (((script ++ ([98, 99, 102, 61] : List Int).drop script.length).take 6).map PV.int) := by simp [iL, List.map_take, List.map_drop]
    have el : Ev (lawCx X A q code L) (.Call (.Name "len" ⟨203, 64, 203, 67⟩) [.Name "script" ⟨203, 68, 203, 74⟩] [] ⟨203, 64, 203, 75⟩) (lvv L (.val (.list (iL script))) .no .no .no .no .no .no .no .no .no .no .no .no .no .no .no .no .no) (.int (script.length : Int)) := by
      rw [← List.length_map (as := script) (f := PV.int)]
      exact ev_call_builtin (id := "len") (evv_builtin W G.n_len G.b_len rfl) (evs_cons (by walk_at "nm") evs_nil) (op_len (by rw [List.length_map]; omega))
    refine rt_cons (ex_assign_comp (cl := []) (l := ((script ++ ([98, 99, 102, 61] : List Int).drop script.length).take 6).map PV.int) (out := (numsOf script).map fun (n : Nat) => PV.int (n : Int)) (fun C => [("x", .loc, .no)])
      (it_list hh (by rw [← e0]; exact ev_ltake (ev_binop (by walk_at "nm") (ev_ldrop (l := iL [98, 99, 102, 61]) (ev_list (ps := [.int 98, .int 99, .int 102, .int 61]) (evs_cons ev_int (evs_cons ev_int (evs_cons ev_int (evs_cons ev_int evs_nil))))) el (by decide)) (op_ladd (by simp; omega))) (ev_nat_lit (n := 6)) (by simp; omega))) (fun C => ?_) (by walk_at "cini") (by walk_at "nd") (by walk_at "nn") (by simp; omega) (by walk_at "put")) ?_
    · unfold numsOf
      rw [List.map_map]
      refine cmp_map fun i hi => ⟨_, asg_name (by walk_at "put"), .nil, ?_, .drop .nil⟩
      have hfm : (((i.fmod 1000000000).toNat : Nat) : Int) = i.fmod ((10 ^ 9 : Nat) : Int) := Int.toNat_of_nonneg (Int.fmod_nonneg_of_pos _ (by decide))
      show Ev _ _ _ (.int (((i.fmod 1000000000).toNat : Nat) : Int))
      rw [hfm]
      exact ev_binop (by walk_at "nm") (ev_nat_pow (ev_nat_lit (n := 10)) (ev_nat_lit (n := 9)) (by decide +kernel)) (op_mod (by decide))
    generalize hns : numsOf script = ns at *
    have zl : ∀ (a : List Nat) (b : List Nat), (((a.map fun (n : Nat) => PV.int (n : Int)).zip (sgn b)).map fun p => PV.tup [p.1, p.2]) = (a.zip b).map fun p => PV.tup [.int (p.1 : Int), .str (T [p.2])] := fun a b => by
      unfold sgn; rw [List.zip_map, List.map_map]; rfl
    have zl2 : ∀ (a : List Nat) (b : List Str), (((a.map fun (n : Nat) => PV.int (n : Int)).zip (b.map PV.str)).map fun p => PV.tup [p.1, p.2]) = (a.zip b).map fun p => PV.tup [.int (p.1 : Int), .str p.2] := fun a b => by
      rw [List.zip_map, List.map_map]; rfl
    refine rt_cons (ex_assign (p := sL (sortS (rawNames ns))) (ev_sorted (n := 1) (evv_builtin W G.n_sorted G.b_sorted rfl) (xs := rawNames ns) ?_ (evv_global W G.m_xfrm rfl) (fun x => (fn_xfrm G x).at) (hA.less (by decide)) (by omega) (by omega)) (by walk_at "put")) ?_
    · have e1 : (rawNames ns).map PV.str = ((ns.zip [97, 98, 99, 100, 101, 102]).map fun p => PV.str (T [p.1 % 55296, p.2])) ++ [PV.str (T [109])] := by
        unfold rawNames; rw [List.map_append, List.map_map]; rfl
      rw [e1]
      refine ev_binop (EvNew.ev (evn_compT (cl := []) (l := ((ns.map fun (n : Nat) => PV.int (n : Int)).zip (sgn [97, 98, 99, 100, 101, 102])).map fun p => PV.tup [p.1, p.2]) (fun C => [("x", .loc, .no), ("sign", .loc, .no)])
        (it_zips hh (evv_builtin W G.n_zip G.b_zip rfl) (by walk_at "nm") (show Ev _ _ _ (.str (T [97, 98, 99, 100, 101, 102])) from ev_str) (by decide +kernel)) (fun C => ?_) (by walk_at "cini") (by walk_at "nd") (by walk_at "nn") (by simp [sgn]; omega))) (ev_list (evs_cons (show Ev _ _ _ (.str (T [109])) from ev_str) evs_nil)) (op_ladd (by simp; omega))
      rw [zl]
      refine cmp_map fun p hp => ⟨_, asg_tuple2 hh (asg_name (by walk_at "put")) (asg_name (by walk_at "put")), .nil, ?_, .drop (.drop .nil)⟩
      have hm : p.1 % 55296 < 55296 := Nat.mod_lt _ (by decide)
      exact ev_cat (a := [p.1 % 55296]) (b := [p.2]) (ev_call_builtin (id := "chr") (evv_builtin W.comp G.n_chr G.b_chr rfl) (evs_cons (ev_nat_mod (by walk_at "nm") (ev_nat_lit (n := 55296)) (by decide)) evs_nil) (op_chr (by omega))) (by walk_at "nm") (by simp)
    have hch := H.chain
    have hfin := H.fin
    rw [hns] at hch hfin
    generalize sortS (rawNames ns) = names at *
    have e2 : (names.map PV.str).take 1 = (names.take 1).map PV.str := (List.map_take ..).symm
    have e3 : (names.map PV.str).drop 1 = (names.drop 1).map PV.str := (List.map_drop ..).symm
    refine rt_cons (ex_assign (p := sL (names.take 1)) (by show Ev _ _ _ (.list ((names.take 1).map PV.str)); rw [← e2]; exact ev_ltake (by walk_at "nm") (ev_nat_lit (n := 1)) (by rw [List.length_map]; omega)) (by walk_at "put")) ?_
    refine rt_cons (ex_assign (p := .str (T [])) ev_emp (by walk_at "put")) ?_
    refine rt_cons (ex_forLT (it_zip2 hh (evv_builtin W G.n_zip G.b_zip rfl) (by walk_at "nm") (ev_ldrop (by walk_at "nm") (ev_nat_lit (n := 1)) (by rw [List.length_map]; omega))) (by rw [e3, zl2]; exact law_loop G K hC hlow hA hfr hch)) ?_
    refine rt_cons (ex_forL (it_list hh (by walk_at "nm")) (fin_loop G hA H.row H.lead H.ws ns hfin)) ?_
    exact rt_return ev_bool
  refine F.run A₀ hA₀ hfr₀ (fun e he => by cases he) V s vs Q E vol (fun L hL => by cases hL) rs fun v s' g r => hQ v s' g.nil r
end
end PL
end
noncomputable section
open PySem PySem.W PyProof.Rows PySem.Builtin.Str
set_option Elab.async false
set_option linter.unusedVariables false
set_option maxRecDepth 100000
set_option pp.maxSteps 600
namespace PL
noncomputable def s2i (c : Nat) : Int := if c = 32 then -1 else 1
/-- the lead of a row into which the greatest name comes at a place -/
noncomputable def insSig : List Nat → Nat → List Nat
  | lead, 0 => 9 :: lead
  | [], _ + 1 => [32]
  | _ :: l, 1 => 32 :: 9 :: l
  | c :: l, k + 2 => c :: insSig l (k + 1)
noncomputable def downL (lead : List Nat) (k : Nat) : Bool := decide (0 < k) && decide (lead.getD (k - 1) 0 = 9)
noncomputable def plc (lead text : List Nat) : List Nat := (List.range (lead.length + 2)).filter fun k => decide (insSig lead k = text)
noncomputable def unseenT (lead text : List Nat) (k : Nat) : List (Int × Int × Int) := unseenL (downL lead k) (decide (9 ∈ text.drop (k + 1))) (aheadOf text k) (behindOf text k) (colsT lead text)
noncomputable def chkT (text : List Nat) (kind : Int) : Bool := decide ((ruler text kind)[0]? ≠ some 0) && decide (turnsOf (ruler text kind) ((text.length : Int) + 1) = some (text.map s2i))
noncomputable def words : Nat → List (List Nat)
  | 0 => [[]]
  | n + 1 => (words n).flatMap fun w => [9 :: w, 32 :: w]
noncomputable def bds : List Int := [2, 3, 4, 5, 6]
noncomputable def insT (lead : List Nat) (p s : Nat) : List Nat := lead.take p ++ [s] ++ lead.drop p
noncomputable def subs : List Nat → List (List Nat)
  | [] => [[]]
  | a :: l => subs l ++ (subs l).map fun w => a :: w
noncomputable def chkF (lead shown : List Nat) : Bool := [0, 1, 2].all fun r => decide (lev shown lead (2 * ((lead.length : Int) - shown.length) - 1 + r) = 2 * ((lead.length : Int) - shown.length))
noncomputable def chkB (lead text : List Nat) : Bool := match plc lead text with
  | [] => bds.all fun b => decide (lev lead text b = dueOf b 0)
  | [_] => bds.all fun b => decide (lev lead text b = dueOf b 1)
  | _ => false
noncomputable def chkK (lead : List Nat) (k : Nat) : Bool :=
  decide (witT (lead ++ [120, 9]) (insSig lead k ++ [120, 32, 9]) = unseenT lead (insSig lead k) k) && decide (wLess (lead ++ [120, 9]) (insSig lead k ++ [120, 32, 9]) = decide (unseenT lead (insSig lead k) k = [])) &&
  decide (witT (insSig lead k ++ [120, 32, 9]) (lead ++ [120, 9]) = colsT lead (insSig lead k)) && decide (wLess (insSig lead k ++ [120, 32, 9]) (lead ++ [120, 9]) = false)
noncomputable def rowT (w : List Nat) : Bool := chkT w 0 && chkT w 1 && chkT w 2
noncomputable def rowK (w : List Nat) : Bool := (List.range (w.length + 2)).all fun k => chkK w k
noncomputable def rowB (w : List Nat) : Bool := (List.range (w.length + 1)).all fun p => [9, 32].all fun s => chkB w (insT w p s) && decide (plc w (insT w p s) ≠ [])
noncomputable def rowO (w : List Nat) : Bool := (List.range (w.length + 1)).all fun p => [9, 32].all fun s => (List.range (w.length + 1)).all fun t => chkB w (otherOf (insT w p s) t)
noncomputable def rowF (w : List Nat) : Bool := (subs w).all fun v => chkF w v
theorem tabT1 : ([1, 2, 3, 4].all fun n => (words n).all rowT) = true := by decide +kernel
theorem tabT5 : ((words 5).all rowT) = true := by decide +kernel
theorem tabT6 : ((words 6).all rowT) = true := by decide +kernel
theorem tabK1 : ([0, 1, 2, 3, 4].all fun n => (words n).all rowK) = true := by decide +kernel
theorem tabK5 : ((words 5).all rowK) = true := by decide +kernel
theorem tabB1 : ([0, 1, 2, 3, 4].all fun n => (words n).all rowB) = true := by decide +kernel
theorem tabB5 : ((words 5).all rowB) = true := by decide +kernel
theorem tabO1 : ([0, 1, 2, 3].all fun n => (words n).all rowO) = true := by decide +kernel
theorem tabO4 : ((words 4).all rowO) = true := by decide +kernel
theorem tabO5a : (((words 5).take 8).all rowO) = true := by decide +kernel
theorem tabO5b : ((((words 5).drop 8).take 8).all rowO) = true := by decide +kernel
theorem tabO5c : ((((words 5).drop 16).take 8).all rowO) = true := by decide +kernel
theorem tabO5d : (((words 5).drop 24).all rowO) = true := by decide +kernel
theorem tabF1 : ([4, 5].all fun n => (words n).all rowF) = true := by decide +kernel
theorem tabF6 : ((words 6).all rowF) = true := by decide +kernel
end PL
end
noncomputable section
open PySem PySem.W PyProof.Rows PySem.Builtin.Str
set_option Elab.async false
set_option linter.unusedVariables false
set_option maxRecDepth 100000
set_option pp.maxSteps 600
namespace PL
theorem all_mem {α : Type} {l : List α} {f : α → Bool} (h : l.all f = true) {a : α} (ha : a ∈ l) : f a = true := List.all_eq_true.mp h a ha
theorem words_mem : ∀ {w : List Nat}, Ws w → w ∈ words w.length
  | [], _ => List.mem_singleton.mpr rfl
  | c :: w, h => by
    have ih := words_mem (w := w) fun x hx => h x (List.mem_cons_of_mem _ hx)
    show c :: w ∈ (words w.length).flatMap _
    refine List.mem_flatMap.mpr ⟨w, ih, ?_⟩
    rcases h c (List.mem_cons_self ..) with rfl | rfl <;> simp
theorem subs_mem : ∀ {v w : List Nat}, v.Sublist w → v ∈ subs w
  | _, [], h => by rw [List.sublist_nil.mp h]; exact List.mem_singleton.mpr rfl
  | v, c :: w, h => by
    show v ∈ subs w ++ (subs w).map _
    cases h with
    | cons _ h => exact List.mem_append_left _ (subs_mem h)
    | cons_cons _ h => exact List.mem_append_right _ (List.mem_map.mpr ⟨_, subs_mem h, rfl⟩)
section
theorem five {P : List Nat → Bool} (h1 : ([0, 1, 2, 3, 4].all fun n => (words n).all P) = true) (h5 : ((words 5).all P) = true) {w : List Nat} (hw : Ws w) (hl : w.length ≤ 5) : P w = true := by
  have hm := words_mem hw
  by_cases h : w.length = 5
  · exact all_mem h5 (h ▸ hm)
  · have hn : w.length ∈ [0, 1, 2, 3, 4] := show w.length ∈ List.range 5 from List.mem_range.mpr (by omega)
    exact all_mem (all_mem h1 hn) hm
theorem get_T {w : List Nat} (hw : Ws w) (h0 : 1 ≤ w.length) (hl : w.length ≤ 6) : rowT w = true := by
  have hm := words_mem hw
  by_cases h6 : w.length = 6
  · exact all_mem tabT6 (h6 ▸ hm)
  · by_cases h5 : w.length = 5
    · exact all_mem tabT5 (h5 ▸ hm)
    · have hn : w.length ∈ [1, 2, 3, 4] := by rcases (show w.length = 1 ∨ w.length = 2 ∨ w.length = 3 ∨ w.length = 4 by omega) with h | h | h | h <;> rw [h] <;> decide
      exact all_mem (all_mem tabT1 hn) hm
theorem get_K {w : List Nat} (hw : Ws w) (hl : w.length ≤ 5) : rowK w = true := five tabK1 tabK5 hw hl
theorem get_B {w : List Nat} (hw : Ws w) (hl : w.length ≤ 5) : rowB w = true := five tabB1 tabB5 hw hl
theorem get_O {w : List Nat} (hw : Ws w) (hl : w.length ≤ 5) : rowO w = true := by
  have hm := words_mem hw
  by_cases h5 : w.length = 5
  · rw [h5] at hm
    rw [← List.take_append_drop 8 (words 5)] at hm
    rcases List.mem_append.mp hm with h | h
    · exact all_mem tabO5a h
    rw [← List.take_append_drop 8 ((words 5).drop 8), List.drop_drop] at h
    rcases List.mem_append.mp h with h | h
    · exact all_mem tabO5b h
    rw [← List.take_append_drop 8 ((words 5).drop (8 + 8)), List.drop_drop] at h
    rcases List.mem_append.mp h with h | h
    · exact all_mem tabO5c h
    · exact all_mem tabO5d h
  · by_cases h4 : w.length = 4
    · exact all_mem tabO4 (h4 ▸ hm)
    · have hn : w.length ∈ [0, 1, 2, 3] := show w.length ∈ List.range 4 from List.mem_range.mpr (by omega)
      exact all_mem (all_mem tabO1 hn) hm
theorem get_F {w : List Nat} (hw : Ws w) (h4 : 4 ≤ w.length) (hl : w.length ≤ 6) : rowF w = true := by
  have hm := words_mem hw
  by_cases h6 : w.length = 6
  · exact all_mem tabF6 (h6 ▸ hm)
  · have hn : w.length ∈ [4, 5] := by rcases (show w.length = 4 ∨ w.length = 5 by omega) with h | h <;> rw [h] <;> decide
    exact all_mem (all_mem tabF1 hn) hm
end
/-! the signs of a row -/
noncomputable def sg (a b : Str) : Nat := if coll a b = -1 then 32 else 9
noncomputable def sigR : List Str → List Nat
  | a :: b :: r => sg a b :: sigR (b :: r)
  | _ => []
noncomputable def ltS (a b : Str) : Prop := a.cps.toList < b.cps.toList
theorem coll_lt {a b : Str} (h : ltS a b) : coll a b = -1 := by
  have h' : ¬ b.cps.toList < a.cps.toList := fun h2 => List.lt_irrefl _ (List.lt_trans h h2)
  unfold coll; rw [decide_eq_false h', decide_eq_true (show a.cps.toList < b.cps.toList from h)]; rfl
theorem coll_gt {a b : Str} (h : ltS b a) : coll a b = 1 := by
  have h' : ¬ a.cps.toList < b.cps.toList := fun h2 => List.lt_irrefl _ (List.lt_trans h h2)
  unfold coll; rw [decide_eq_false h', decide_eq_true (show b.cps.toList < a.cps.toList from h)]; rfl
theorem coll_neg {a b : Str} : coll a b = -1 ↔ ltS a b := by
  refine ⟨fun h => ?_, coll_lt⟩
  unfold coll at h
  by_cases h1 : a.cps.toList < b.cps.toList
  · exact h1
  · rw [decide_eq_false h1] at h
    by_cases h2 : b.cps.toList < a.cps.toList
    · rw [decide_eq_true h2] at h; exact absurd h (by decide)
    · rw [decide_eq_false h2] at h; exact absurd h (by decide)
theorem ltS_tri {a b : Str} (h : a ≠ b) : ltS a b ∨ ltS b a := by
  by_cases h1 : ltS a b
  · exact .inl h1
  · by_cases h2 : ltS b a
    · exact .inr h2
    · exact absurd (str_eq_of h2 h1) h
theorem sg_lt {a b : Str} (h : ltS a b) : sg a b = 32 := if_pos (coll_lt h)
theorem sg_gt {a b : Str} (h : ltS b a) : sg a b = 9 := if_neg (by rw [coll_gt h]; decide)
theorem s2i_sg {a b : Str} (h : a ≠ b) : s2i (sg a b) = coll a b := by
  rcases ltS_tri h with h | h
  · rw [sg_lt h, coll_lt h]; rfl
  · rw [sg_gt h, coll_gt h]; rfl
theorem sigOf_eq : ∀ l : List Str, sigOf l = sigR l
  | [] => rfl
  | [a] => rfl
  | a :: b :: r => by
    rw [sigR, ← sigOf_eq (b :: r)]
    unfold sigOf
    show (List.range (r.length + 1)).map _ = sg a b :: (List.range r.length).map _
    rw [List.range_succ_eq_map, List.map_cons, List.map_map]
    rfl
theorem sigR_len : ∀ l : List Str, (sigR l).length = l.length - 1 := fun l => by rw [← sigOf_eq, sigOf_len]
theorem sigR_ws (l : List Str) : Ws (sigR l) := by rw [← sigOf_eq]; exact sigOf_ws l
theorem sigR_get (l : List Str) (k : Nat) (hk : k + 1 < l.length) : (sigR l).getD k 0 = sg (l.getD k default) (l.getD (k + 1) default) := by
  rw [← sigOf_eq]
  unfold sigOf
  rw [List.getD_eq_getElem?_getD, List.getElem?_map, List.getElem?_range (by omega)]
  rfl
theorem nodup_next {l : List Str} (h : l.Nodup) {k : Nat} (hk : k + 1 < l.length) : l.getD k default ≠ l.getD (k + 1) default := by
  rw [List.getD_eq_getElem?_getD, List.getD_eq_getElem?_getD, List.getElem?_eq_getElem (show k < l.length by omega), List.getElem?_eq_getElem hk]
  exact List.pairwise_iff_getElem.mp h k (k + 1) (by omega) hk (Nat.lt_succ_self k)
theorem ansAt_eq {one : List Str} {count : Nat} (h : one.Nodup) (hl : one.length = count + 1) : ansAt one count = (sigR one).map s2i := by
  rw [← sigOf_eq]
  unfold ansAt sigOf
  rw [List.map_map, hl]
  refine List.map_congr_left fun k hk => ?_
  have hk' : k < count := List.mem_range.mp hk
  exact (s2i_sg (nodup_next h (by omega))).symm
theorem insSig_zero (l : List Nat) : insSig l 0 = 9 :: l := by cases l <;> rfl
theorem sigR_ins : ∀ (row : List Str) (name : Str) (k : Nat), row ≠ [] → k ≤ row.length → (∀ r ∈ row, ltS r name) → sigR (insAt row name k) = insSig (sigR row) k
  | [], _, _, h, _, _ => absurd rfl h
  | r0 :: rest, name, 0, _, _, hn => by
    rw [insSig_zero]
    show sg name r0 :: sigR (r0 :: rest) = 9 :: sigR (r0 :: rest)
    rw [sg_gt (hn r0 (List.mem_cons_self ..))]
  | [r0], name, k + 1, _, hk, hn => by
    have : k = 0 := by simp at hk; exact hk
    subst this
    show [sg r0 name] = [32]
    rw [sg_lt (hn r0 (List.mem_cons_self ..))]
  | r0 :: r1 :: rest, name, 1, _, _, hn => by
    show sg r0 name :: sg name r1 :: sigR (r1 :: rest) = 32 :: 9 :: sigR (r1 :: rest)
    rw [sg_lt (hn r0 (List.mem_cons_self ..)), sg_gt (hn r1 (by simp))]
  | r0 :: r1 :: rest, name, k + 2, _, hk, hn => by
    have ih := sigR_ins (r1 :: rest) name (k + 1) (by simp) (by simpa using hk) fun r hr => hn r (List.mem_cons_of_mem _ hr)
    show sg r0 r1 :: sigR (insAt (r1 :: rest) name (k + 1)) = sg r0 r1 :: insSig (sigR (r1 :: rest)) (k + 1)
    rw [ih]
theorem insAt_mem {row : List Str} {name : Str} {k : Nat} {r : Str} : r ∈ insAt row name k ↔ r = name ∨ r ∈ row := by
  unfold insAt
  rw [List.mem_append, List.mem_append, List.mem_singleton]
  have : r ∈ row ↔ r ∈ row.take k ∨ r ∈ row.drop k := by rw [← List.mem_append, List.take_append_drop]
  rw [this]
  constructor
  · rintro ((h | h) | h)
    · exact .inr (.inl h)
    · exact .inl h
    · exact .inr (.inr h)
  · rintro (h | h | h)
    · exact .inl (.inr h)
    · exact .inl (.inl h)
    · exact .inr h
theorem ltS_ne {a b : Str} (h : ltS a b) : a ≠ b := fun e => List.lt_irrefl _ (e ▸ h : ltS b b)
theorem insAt_nodup {row : List Str} {name : Str} {k : Nat} (h : row.Nodup) (hn : name ∉ row) : (insAt row name k).Nodup := by
  have hp : (insAt row name k).Perm (name :: row) := by
    unfold insAt
    rw [List.append_assoc]
    refine List.Perm.trans List.perm_middle ?_
    show (name :: (row.take k ++ row.drop k)).Perm _
    rw [List.take_append_drop]
  exact hp.nodup_iff.mpr (List.nodup_cons.mpr ⟨hn, h⟩)
end PL
end
noncomputable section
open PySem PySem.W PyProof.Rows PySem.Builtin.Str
set_option Elab.async false
set_option linter.unusedVariables false
set_option maxRecDepth 100000
set_option pp.maxSteps 600
namespace PL
theorem insSig_ws : ∀ {lead : List Nat} (k : Nat), Ws lead → Ws (insSig lead k)
  | lead, 0, h => by rw [insSig_zero]; exact fun c hc => (List.mem_cons.mp hc).elim .inl (h c)
  | [], _ + 1, _ => fun c hc => .inr (List.mem_singleton.mp hc)
  | _ :: l, 1, h => fun c hc => by
    rcases List.mem_cons.mp hc with h1 | h1
    · exact .inr h1
    · rcases List.mem_cons.mp h1 with h2 | h2
      · exact .inl h2
      · exact h c (List.mem_cons_of_mem _ h2)
  | a :: l, k + 2, h => fun c hc => by
    rcases List.mem_cons.mp hc with h1 | h1
    · exact h c (h1 ▸ List.mem_cons_self ..)
    · exact insSig_ws (k + 1) (fun x hx => h x (List.mem_cons_of_mem _ hx)) c h1
theorem s2i_inj : ∀ {a b : List Nat}, Ws a → Ws b → a.map s2i = b.map s2i → a = b
  | [], [], _, _, _ => rfl
  | [], _ :: _, _, _, h => by simp at h
  | _ :: _, [], _, _, h => by simp at h
  | x :: a, y :: b, ha, hb, h => by
    simp only [List.map_cons, List.cons.injEq] at h
    have e2 := s2i_inj (fun c hc => ha c (List.mem_cons_of_mem _ hc)) (fun c hc => hb c (List.mem_cons_of_mem _ hc)) h.2
    have e1 : x = y := by
      rcases ha x (List.mem_cons_self ..) with rfl | rfl <;> rcases hb y (List.mem_cons_self ..) with rfl | rfl
      · rfl
      · exact absurd h.1 (by decide)
      · exact absurd h.1 (by decide)
      · rfl
    rw [e1, e2]
/-- how a row, the names to come and the lead stand -/
structure Inv (row : List Str) (lead : List Nat) (ps : List (Nat × Str)) : Prop where
  ne : row ≠ []
  nd : row.Nodup
  sig : sigR row = lead
  up : ∀ p ∈ ps, ∀ r ∈ row, ltS r p.2
  rise : ps.Pairwise fun p q => ltS p.2 q.2
theorem Inv.len {row lead ps} (h : Inv row lead ps) : lead.length + 1 = row.length := by
  have := sigR_len row
  rw [h.sig] at this
  have := List.length_pos_iff.mpr h.ne
  omega
theorem Inv.ws {row lead ps} (h : Inv row lead ps) : Ws lead := h.sig ▸ sigR_ws row
theorem ansOf_get {row : List Str} {name : Str} (hne : row ≠ []) (hnd : row.Nodup) (hn : ∀ r ∈ row, ltS r name) {k : Nat} (hk : k < row.length + 1) : (ansOf row name).getD k [] = (insSig (sigR row) k).map s2i := by
  unfold ansOf
  rw [List.getD_eq_getElem?_getD, List.getElem?_map, List.getElem?_range hk]
  show ansAt (insAt row name k) row.length = _
  rw [ansAt_eq (insAt_nodup hnd fun h => ltS_ne (hn _ h) rfl) (insAt_len row name k), sigR_ins row name k hne (by omega) hn]
theorem places_plc {row : List Str} {name : Str} (hne : row ≠ []) (hnd : row.Nodup) (hn : ∀ r ∈ row, ltS r name) {text : List Nat} (wt : Ws text) : placesOf (ansOf row name) (text.map s2i) = plc (sigR row) text := by
  unfold placesOf plc
  have hl : (ansOf row name).length = (sigR row).length + 2 := by
    rw [ansOf_len, sigR_len]
    have := List.length_pos_iff.mpr hne
    omega
  rw [hl]
  refine List.filter_congr fun k hk => ?_
  have hk' : k < row.length + 1 := by
    have := List.mem_range.mp hk
    rw [← hl, ansOf_len] at this
    exact this
  rw [ansOf_get hne hnd hn hk']
  refine decide_eq_decide.mpr ⟨fun h => s2i_inj (insSig_ws k (sigR_ws row)) wt h, fun h => by rw [h]⟩
theorem down_eq {row : List Str} (hnd : row.Nodup) (k : Nat) : downOf row k = downL (sigR row) k := by
  unfold downOf downL
  by_cases h0 : 0 < k
  · by_cases h1 : k < row.length
    · rw [sigR_get row (k - 1) (by omega), show k - 1 + 1 = k by omega]
      have hne := nodup_next hnd (k := k - 1) (by omega)
      rw [show k - 1 + 1 = k by omega] at hne
      rw [decide_eq_true (show (0 : Int) < (k : Int) by omega), decide_eq_true (show (k : Int) < (row.length : Int) by omega), decide_eq_true h0, Bool.true_and, Bool.true_and]
      refine decide_eq_decide.mpr ⟨fun h => sg_gt h, fun h => ?_⟩
      rcases ltS_tri hne with h2 | h2
      · rw [sg_lt h2] at h; exact absurd h (by decide)
      · exact h2
    · have hl := sigR_len row
      rw [decide_eq_false (show ¬ (k : Int) < (row.length : Int) by omega), Bool.and_false, Bool.false_and]
      rw [List.getD_eq_getElem?_getD, List.getElem?_eq_none (by omega)]
      simp
  · have : k = 0 := by omega
    subst this
    rfl
theorem placesOk_of {row : List Str} {lead : List Nat} {ps : List (Nat × Str)} {x : Nat} {name : Str} (H : Inv row lead ((x, name) :: ps)) {text : List Nat} (wt : Ws text) (hl : row.length ≤ 6) (ht : text.length = row.length) (hb : chkB lead text = true) (figure : Int) : PlacesOk lead text row (ansOf row name) figure (text.map s2i) := by
  have hlen := H.len
  have hpos := List.length_pos_iff.mpr H.ne
  have hT := get_T wt (by omega) (by omega)
  have hK := get_K H.ws (by omega)
  have hn : ∀ r ∈ row, ltS r name := H.up (x, name) (List.mem_cons_self ..)
  have hpl : placesOf (ansOf row name) (text.map s2i) = plc lead text := by rw [places_plc H.ne H.nd hn wt, H.sig]
  have k0 : 0 ≤ figure.fmod 3 := Int.fmod_nonneg_of_pos _ (by decide)
  have k3 : figure.fmod 3 < 3 := Int.fmod_lt_of_pos _ (by decide)
  have b0 : 0 ≤ (figure.fdiv 3).fmod 5 := Int.fmod_nonneg_of_pos _ (by decide)
  have b5 : (figure.fdiv 3).fmod 5 < 5 := Int.fmod_lt_of_pos _ (by decide)
  have hTk : chkT text (figure.fmod 3) = true := by
    unfold rowT at hT
    rw [Bool.and_eq_true, Bool.and_eq_true] at hT
    rcases (show figure.fmod 3 = 0 ∨ figure.fmod 3 = 1 ∨ figure.fmod 3 = 2 by omega) with h | h | h <;> rw [h]
    · exact hT.1.1
    · exact hT.1.2
    · exact hT.2
  unfold chkT at hTk
  rw [Bool.and_eq_true, decide_eq_true_eq, decide_eq_true_eq] at hTk
  have hbd : 2 + (figure.fdiv 3).fmod 5 ∈ bds := by
    rcases (show (figure.fdiv 3).fmod 5 = 0 ∨ (figure.fdiv 3).fmod 5 = 1 ∨ (figure.fdiv 3).fmod 5 = 2 ∨ (figure.fdiv 3).fmod 5 = 3 ∨ (figure.fdiv 3).fmod 5 = 4 by omega) with h | h | h | h | h <;> rw [h] <;> decide
  have hchk : ∀ k ∈ plc lead text, insSig lead k = text ∧ chkK lead k = true := fun k hk => by
    unfold plc at hk
    obtain ⟨h1, h2⟩ := List.mem_filter.mp hk
    exact ⟨of_decide_eq_true h2, all_mem hK h1⟩
  have hun : ∀ k, unseen (colsT lead text) text row k = unseenT lead text k := fun k => by
    unfold unseen unseenT
    rw [down_eq H.nd, H.sig]
  refine ⟨hTk.1, by rw [← ht]; exact hTk.2, ?_, fun k hk => ?_, fun k hk => ?_⟩
  · rw [hpl]
    unfold chkB at hb
    split at hb
    · rename_i h; rw [h]; exact of_decide_eq_true (all_mem hb hbd)
    · rename_i h; rw [h]; exact of_decide_eq_true (all_mem hb hbd)
    · exact absurd hb (by decide)
  · rw [hpl] at hk
    obtain ⟨e, hc⟩ := hchk k hk
    unfold chkK at hc
    rw [e, Bool.and_eq_true, Bool.and_eq_true, Bool.and_eq_true] at hc
    rw [hun]
    exact ⟨of_decide_eq_true hc.1.1.1, of_decide_eq_true hc.1.1.2⟩
  · rw [hpl] at hk
    obtain ⟨e, hc⟩ := hchk k hk
    unfold chkK at hc
    rw [e, Bool.and_eq_true, Bool.and_eq_true, Bool.and_eq_true] at hc
    exact ⟨of_decide_eq_true hc.1.2, of_decide_eq_true hc.2⟩
theorem step_ok {row : List Str} {lead : List Nat} {ps : List (Nat × Str)} {x : Nat} {name : Str} (H : Inv row lead ((x, name) :: ps)) (hl : row.length ≤ 6) : ∃ k, StepOk row lead x name k ∧ k ≤ row.length ∧ Inv (insAt row name k) (textOf lead row.length x) ps := by
  have hlen := H.len
  have hpos := List.length_pos_iff.mpr H.ne
  have hB := get_B H.ws (by omega)
  have hO := get_O H.ws (by omega)
  have hn : ∀ r ∈ row, ltS r name := H.up (x, name) (List.mem_cons_self ..)
  have hp : x % row.length < lead.length + 1 := by rw [hlen]; exact Nat.mod_lt _ hpos
  have ht : x / (2 * row.length) % row.length < lead.length + 1 := by rw [hlen]; exact Nat.mod_lt _ hpos
  have hs : (if x / row.length % 2 = 0 then 32 else 9) ∈ [9, 32] := by split <;> simp
  have htx : textOf lead row.length x = insT lead (x % row.length) (if x / row.length % 2 = 0 then 32 else 9) := rfl
  have tl := textOf_len lead row.length x
  have wt := textOf_ws H.ws row.length x
  unfold rowB at hB
  have h1 := all_mem (all_mem hB (List.mem_range.mpr hp)) hs
  rw [← htx, Bool.and_eq_true, decide_eq_true_eq] at h1
  unfold rowO at hO
  have h2 := all_mem (all_mem (all_mem hO (List.mem_range.mpr hp)) hs) (List.mem_range.mpr ht)
  rw [← htx] at h2
  have hpl : placesOf (ansOf row name) ((textOf lead row.length x).map s2i) = plc lead (textOf lead row.length x) := by rw [places_plc H.ne H.nd hn wt, H.sig]
  obtain ⟨k, rest, hk⟩ : ∃ k rest, plc lead (textOf lead row.length x) = k :: rest := by
    cases h : plc lead (textOf lead row.length x) with
    | nil => exact absurd h h1.2
    | cons k r => exact ⟨k, r, rfl⟩
  have hkm : k ∈ plc lead (textOf lead row.length x) := by rw [hk]; exact List.mem_cons_self ..
  obtain ⟨hk1, hk2⟩ := List.mem_filter.mp hkm
  have hkl : k ≤ row.length := by have := List.mem_range.mp hk1; omega
  refine ⟨k, ⟨hpos, hl, hlen, H.ws, ⟨_, placesOk_of H (otherOf_ws wt _) hl (by rw [otherOf_len _ _ (by omega), tl]; exact hlen) h2 _⟩, ⟨_, placesOk_of H wt hl (by omega) h1.1 _, by rw [hpl, hk]; rfl⟩⟩, hkl, ?_⟩
  obtain ⟨hr1, hr2⟩ := List.pairwise_cons.mp H.rise
  refine ⟨fun h => by have := insAt_len row name k; rw [h] at this; simp at this, insAt_nodup H.nd fun h => ltS_ne (hn _ h) rfl, ?_, fun p hp r hr => ?_, hr2⟩
  · rw [sigR_ins row name k H.ne hkl hn, H.sig]; exact of_decide_eq_true hk2
  · rcases insAt_mem.mp hr with rfl | hr
    · exact hr1 p hp
    · exact H.up p (List.mem_cons_of_mem _ hp) r hr
theorem chain_ok : ∀ (ps : List (Nat × Str)) {row : List Str} {lead : List Nat}, Inv row lead ps → row.length + ps.length ≤ 7 → ∃ rowF leadF, Chain ps row lead rowF leadF ∧ Inv rowF leadF [] ∧ rowF.length = row.length + ps.length
  | [], row, lead, H, _ => ⟨row, lead, .nil, H, rfl⟩
  | (x, name) :: ps, row, lead, H, hl => by
    simp only [List.length_cons] at hl
    obtain ⟨k, hs, _, H'⟩ := step_ok H (by omega)
    have il := insAt_len row name k
    obtain ⟨rowF, leadF, hc, hF, hn⟩ := chain_ok ps H' (by omega)
    exact ⟨rowF, leadF, .cons hs hc, hF, by rw [hn, il, List.length_cons]; omega⟩
end PL
end
noncomputable section
open PySem PySem.W PyProof.Rows PySem.Builtin.Str
set_option Elab.async false
set_option linter.unusedVariables false
set_option maxRecDepth 100000
set_option pp.maxSteps 600
namespace PL
theorem sg_mid {r b a : Str} : sg r a = sg r b ∨ sg r a = sg b a := by
  by_cases h1 : ltS r a
  · by_cases h2 : ltS r b
    · exact .inl (by rw [sg_lt h1, sg_lt h2])
    · by_cases h3 : ltS b a
      · exact .inr (by rw [sg_lt h1, sg_lt h3])
      · exact absurd (List.lt_of_le_of_lt (List.not_lt.mp h2) h1) h3
  · have e : sg r a = 9 := if_neg fun h => h1 (coll_neg.mp h)
    by_cases h2 : ltS r b
    · by_cases h3 : ltS b a
      · exact absurd (List.lt_trans h2 h3) h1
      · exact .inr (by rw [e]; exact (if_neg fun h => h3 (coll_neg.mp h)).symm)
    · exact .inl (by rw [e]; exact (if_neg fun h => h2 (coll_neg.mp h)).symm)
theorem sig_sub : ∀ (row' rest : List Str) (r : Str), rest.Sublist row' → (sigR (r :: rest)).Sublist (sigR (r :: row'))
  | [], rest, r, h => by rw [List.sublist_nil.mp h]; exact List.Sublist.refl _
  | b :: row, rest, r, h => by
    show (sigR (r :: rest)).Sublist (sg r b :: sigR (b :: row))
    cases h with
    | cons _ h =>
      cases rest with
      | nil => exact List.nil_sublist _
      | cons a t =>
        have ih := sig_sub row (a :: t) b h
        have ih' : (sg b a :: sigR (a :: t)).Sublist (sigR (b :: row)) := ih
        show (sg r a :: sigR (a :: t)).Sublist _
        rcases sg_mid (r := r) (b := b) (a := a) with e | e
        · rw [e]
          exact List.Sublist.cons_cons _ (List.Sublist.trans (List.Sublist.cons _ (List.Sublist.refl _)) ih')
        · rw [e]
          exact List.Sublist.cons _ ih'
    | @cons_cons t _ _ h => exact List.Sublist.cons_cons _ (sig_sub row t b h)
theorem sig_sub' : ∀ {row rest : List Str}, rest.Sublist row → (sigR rest).Sublist (sigR row)
  | [], rest, h => by rw [List.sublist_nil.mp h]; exact List.Sublist.refl _
  | b :: row, rest, h => by
    cases h with
    | cons _ h =>
      refine (sig_sub' h).trans ?_
      cases row with
      | nil => exact List.Sublist.refl _
      | cons c r => exact List.Sublist.cons _ (List.Sublist.refl _)
    | cons_cons _ h => exact sig_sub _ _ _ h
theorem map_range (row : List Str) : (List.range row.length).map (fun k => row.getD k default) = row := by
  refine List.ext_getElem (by simp) fun i h1 h2 => ?_
  simp [List.getD_eq_getElem?_getD, List.getElem?_eq_getElem h2]
theorem restOf_sub (row : List Str) (gone : Nat) : (restOf row gone).Sublist row := by
  have h := (List.filter_sublist (l := List.range row.length) (p := fun k => decide (gone / 2 ^ k % 2 = 0))).map fun k => row.getD k default
  rw [map_range] at h
  exact h
theorem gone_bit : ∀ n : Nat, n ≤ 7 → ∀ gone : Nat, gone < 2 ^ n - 1 → ∃ k, k < n ∧ gone / 2 ^ k % 2 = 0
  | 0, _, _, h => absurd h (by simp)
  | n + 1, hn, gone, h => by
    by_cases h0 : gone % 2 = 0
    · exact ⟨0, Nat.succ_pos n, by simpa using h0⟩
    · have h2 : gone / 2 < 2 ^ n - 1 := by rw [Nat.pow_succ] at h; omega
      obtain ⟨k, hk, e⟩ := gone_bit n (by omega) (gone / 2) h2
      exact ⟨k + 1, Nat.succ_lt_succ hk, by rw [Nat.pow_succ, Nat.mul_comm, ← Nat.div_div_eq_div_mul]; exact e⟩
theorem fin_ok {row : List Str} {lead : List Nat} (H : Inv row lead []) (h5 : 5 ≤ row.length) (h7 : row.length ≤ 7) (x : Nat) : FinOk row lead x := by
  have hlen := H.len
  have hg : x % (2 ^ row.length - 1) < 2 ^ row.length - 1 := Nat.mod_lt _ (by
    have := Nat.pow_le_pow_right (show 1 ≤ 2 by decide) h5
    omega)
  generalize hgone : x % (2 ^ row.length - 1) = gone at hg
  have hF := get_F H.ws (by omega) (by omega)
  have hsub := restOf_sub row gone
  have hne : 0 < (restOf row gone).length := by
    obtain ⟨k, hk, e⟩ := gone_bit row.length h7 gone hg
    refine List.length_pos_iff.mpr fun h => ?_
    have hm : row.getD k default ∈ restOf row gone := List.mem_map.mpr ⟨k, List.mem_filter.mpr ⟨List.mem_range.mpr hk, decide_eq_true e⟩, rfl⟩
    rw [h] at hm; cases hm
  have hsl := sigOf_len (restOf row gone)
  have hrl := restOf_len row gone
  have hs : (sigOf (restOf row gone)).Sublist lead := by rw [sigOf_eq, ← H.sig]; exact sig_sub' hsub
  unfold rowF at hF
  have h1 := all_mem hF (subs_mem hs)
  unfold chkF at h1
  have hm : ((x % 3 : Nat) : Int) ∈ ([0, 1, 2] : List Int) := by
    rcases (show x % 3 = 0 ∨ x % 3 = 1 ∨ x % 3 = 2 by omega) with h | h | h <;> rw [h] <;> decide
  have h2 := of_decide_eq_true (all_mem h1 hm)
  refine ⟨by omega, by rw [hgone]; exact hne, ?_⟩
  rw [hgone]
  rw [show ((row.length : Int) - (restOf row gone).length) = (lead.length : Int) - (sigOf (restOf row gone)).length by omega]
  exact h2
theorem T_inj {a b : List Nat} (h : T a = T b) : a = b := by
  have := congrArg (fun s : Str => s.cps.toList) h
  simpa using this
theorem raw_nodup (ns : List Nat) : (rawNames ns).Nodup := by
  have hd : ∀ (ns cs : List Nat), cs.Nodup → ((ns.zip cs).map fun p => T [p.1 % 55296, p.2]).Nodup := by
    intro ns
    induction ns with
    | nil => intro cs _; simp
    | cons n ns ih =>
      intro cs hc
      cases cs with
      | nil => simp
      | cons c cs =>
        rw [List.nodup_cons] at hc
        simp only [List.zip_cons_cons, List.map_cons, List.nodup_cons]
        refine ⟨fun hm => ?_, ih cs hc.2⟩
        obtain ⟨⟨u, v⟩, hp, e⟩ := List.mem_map.mp hm
        have e' := T_inj e
        have : v = c := by simpa using (List.cons.inj (List.cons.inj e').2).1
        exact hc.1 (this ▸ (List.of_mem_zip hp).2)
  unfold rawNames
  rw [List.nodup_append]
  refine ⟨hd ns _ (by decide), by simp, fun a ha b hb e => ?_⟩
  obtain ⟨p, _, rfl⟩ := List.mem_map.mp ha
  rw [List.mem_singleton.mp hb] at e
  have := congrArg List.length (T_inj e)
  simp at this
theorem names_rise (ns : List Nat) : (sortS (rawNames ns)).Pairwise ltS := by
  have h1 := sortS_sorted (rawNames ns)
  have h2 : (sortS (rawNames ns)).Nodup := (sortS_perm _).nodup_iff.mpr (raw_nodup ns)
  refine (h1.and h2).imp fun {a b} h => ?_
  rcases ltS_tri h.2 with h3 | h3
  · exact h3
  · exact absurd h3 h.1
theorem law_ok (script : List Int) : ∃ rowF leadF, LawOk script rowF leadF := by
  have hnl := numsOf_len script
  have hrl := rawNames_len (numsOf script) hnl.2
  have hsl : (sortS (rawNames (numsOf script))).length = (numsOf script).length + 1 := by rw [(sortS_perm _).length_eq, hrl]
  have hr := names_rise (numsOf script)
  obtain ⟨n0, rest, hn⟩ : ∃ n0 rest, sortS (rawNames (numsOf script)) = n0 :: rest := by
    cases h : sortS (rawNames (numsOf script)) with
    | nil => rw [h] at hsl; simp at hsl
    | cons a b => exact ⟨a, b, rfl⟩
  rw [hn] at hr hsl
  obtain ⟨hr1, hr2⟩ := List.pairwise_cons.mp hr
  have hlr : rest.length = (numsOf script).length := by simpa using hsl
  have hsnd : ((numsOf script).zip rest).map Prod.snd = rest := by rw [List.map_snd_zip]; omega
  have H : Inv [n0] [] ((numsOf script).zip rest) := ⟨by simp, by simp, rfl, fun p hp r hr => by rw [List.mem_singleton.mp hr]; exact hr1 _ (List.of_mem_zip hp).2, by
    have := hr2
    rw [← hsnd, List.pairwise_map] at this
    exact this⟩
  obtain ⟨rowF, leadF, hc, hF, hlen⟩ := chain_ok _ H (by simp only [List.length_cons, List.length_nil, List.length_zip]; omega)
  have hl2 : rowF.length = (numsOf script).length + 1 := by rw [hlen]; simp only [List.length_cons, List.length_nil, List.length_zip]; omega
  have hl3 := hF.len
  exact ⟨rowF, leadF, by rw [hn]; exact hc, by omega, by omega, hF.ws, fun x _ => fin_ok hF (by omega) (by omega) x⟩
end PL
end
noncomputable section
open PySem PySem.W PyProof.Rows PySem.Builtin.Str
set_option Elab.async false
set_option linter.unusedVariables false
set_option maxRecDepth 100000
set_option pp.maxSteps 600
namespace PL
/-! from the written heap to the facts of the walk -/
noncomputable def fdIn (K : Frag) (a : Addr) : FuncData := match K.lookup a with
  | some ⟨_, _, .func fd, _⟩ => fd
  | _ => fdat "" "" (.Pass default) .none .none none .none .none
noncomputable abbrev fobj (fd : FuncData) (st : Stmt) : Obj := { cls := .type "function", data := .func (fdat fd.name fd.qualname st fd.doc fd.pyModule fd.annotations fd.code fd.closureTuple) }
noncomputable def fieldsIn (K : Frag) (c : Addr) : Array Value := match K.lookup c with
  | some ⟨_, _, .fields vs, _⟩ => vs
  | _ => #[]
noncomputable def clsIn' (K : Frag) (c : Addr) : Value := match K.lookup c with
  | some o => o.cls
  | _ => .none
noncomputable def refIn : Value → Addr
  | .ref c => c
  | _ => 0
noncomputable def tokIn : Option Value → Tok
  | some (.str _ t) => t
  | _ => 0
theorem fnAt_of {K : Frag} {h : Heap} {a : Addr} {st : Stmt} (X : K.In h) (hl : K.lookup a = some (fobj (fdIn K a) st)) (hc : (fdIn K a).code = .ref (refIn (fdIn K a).code))
    (ho : K.lookup (refIn (fdIn K a).code) = some { cls := clsIn' K (refIn (fdIn K a).code), data := .fields (fieldsIn K (refIn (fdIn K a).code)) })
    (hv : (fieldsIn K (refIn (fdIn K a).code))[1]? = some (.str (fdIn K a).qualname (tokIn (fieldsIn K (refIn (fdIn K a).code))[1]?))) : FnAt h a st :=
  ⟨_, _, _, _, _, _, _, _, X _ _ hl, rfl, _, _, _, _, hc, X _ _ ho, rfl, hv⟩
theorem fnK_of {K : Frag} {h : Heap} {a : Addr} {st : Stmt} (X : K.In h) (hl : K.lookup a = some (fobj (fdIn K a) st)) : ∃ o, h.get? a = some o ∧ o.cls = .type "function" :=
  ⟨_, X _ _ hl, rfl⟩

/-- the names of a written namespace -/
noncomputable def esIn (K : Frag) (a : Addr) : Array DictEntry := match K.lookup a with
  | some ⟨_, _, .dict es _, _⟩ => es
  | _ => #[]
noncomputable def strKeysB (es : List DictEntry) : Bool := es.all fun e => match e.key with
  | .str _ _ => true
  | _ => false
theorem ns_of {K : Frag} {h : Heap} {a : Addr} {n : Nat} (X : K.In h) (hd : K.lookup a = some { cls := .type "dict", data := .dict (esIn K a) n }) (hk : strKeysB (esIn K a).toList = true) : h.Ns a (nsFind (esIn K a)) := by
  refine ⟨_, _, _, X _ _ hd, rfl, fun e he => ?_, fun _ => rfl⟩
  have h1 := List.all_eq_true.mp hk e (Array.mem_toList_iff.mpr he)
  cases h2 : e.key with
  | str s t => exact ⟨s, t, rfl⟩
  | _ => rw [h2] at h1; exact Bool.noConfusion h1
theorem args_ints {C : Addr} {V : Addr → Prop} {h : Heap} : ∀ {vs : List Value} {ns : List Int}, IntsAre vs ns → Reps C V h (ns.map .int) vs
  | _, _, .nil => Reps.nil
  | _, _, .cons n t r => Reps.cons ⟨t, rfl⟩ (args_ints r)
theorem args_list {C a : Addr} {h : Heap} {vs : List Value} {ns : List Int} (L : h.IsList a vs.toArray) (I : IntsAre vs ns) : Reps C (fun _ => False) h [.list (iL ns)] [.ref a] :=
  Reps.one (by simp only [Rep]; exact ⟨a, vs, rfl, id, L, args_ints I⟩)
theorem vol_start (s : Shared) : Vol s.heap (fun _ => False) s := ⟨fun _ _ e => e, fun _ h => h.elim, fun _ h => h.elim⟩
theorem room_caller : Room callerA 8 := ⟨rfl, by decide +kernel, by decide +kernel⟩
theorem cls_reads {K : Frag} {prog : Program} {w : World} {base : Heap} (X : K.In base) {name y : Str} {t : Tok} {mc : Value} (hr : readsIn K 118 mc = true) (e : findCls K (.ref 118) mc name = some (.val (.str y t))) :
    ∀ (A : Around) (s : Shared) (Q : Value → Shared → Prop) (E : Value → Shared → Prop) (ex : Bool), (∀ b o, base.get? b = some o → s.heap.get? b = some o) → (∀ t, Q (.str y t) { s with toks := s.toks + 1 }) →
      wpAny (model prog w) A (getAttr (.ref 118) name ex) Q E s := fun A s Q E ex hk hQ =>
  cls_value (X.keeps hk) hr e rfl (hQ t)
theorem good_true {c : ClaimW} {cl : Str → Option Addr} {mean : ExcName → Option Value} {args : List WData} {s₁ s' : Shared} (g : Grow s₁ s') (hg : s₁.gens = #[]) (hn : ∀ cls, c.raises args cls = false) (hp : c.post args (.bool true) args = true) :
    GoodWG c cl mean args s₁ (.ok (.ret (.bool true))) s' :=
  ⟨.inl ⟨_, _, _, rfl, hn, .bool true, hp, unshared_nil⟩, .of_keep g.keep, g.os, g.gens.2 (hg ▸ .empty)⟩
noncomputable abbrev Xj (w : World) (s : Shared) : Cx := ⟨PySem.Challenge.pw_sc0078_01, w, callerA, s.heap, 118, fenv "" (mb 22) .none 0 0⟩
theorem join {w : World} {mg mB mN : Str → Option Value} {s : Shared} {a : Addr} {vs : List Value} {ns : List Int} {Q E : Value → Shared → Prop} (G : Pgm (Xj w s) mg mB) (K : Wsp (Xj w s) mN)
    (L : s.heap.IsList a vs.toArray) (I : IntsAre vs ns) (hn : ns.length ≤ 63) (hQ : ∀ s', Grow s s' → Q (.bool true) s') : wpAny (model PySem.Challenge.pw_sc0078_01 w) callerA (call (.ref 170) [.ref a]) Q E s := by
  obtain ⟨rowF, leadF, H⟩ := law_ok ns
  have hlow : ∃ b o, sysModules < b ∧ (Xj w s).base.get? b = some o := by
    obtain ⟨o, ho, _⟩ := K.k_init
    exact ⟨73, o, by decide, ho⟩
  exact fn_law G K rfl hlow ns hn H room_caller rfl (vol_start s) (args_list L I) fun v s' g e => e ▸ hQ s' g
end PL
end
noncomputable section
open PySem PySem.W PyProof.Rows PySem.Builtin.Str
set_option Elab.async false
set_option maxRecDepth 100000
set_option maxHeartbeats 8000000
namespace PL
/-- the part of the heap that the walk looks at, behind the text's top -/
noncomputable def KF (P : Params) : Frag := [
  (2, { cls := Value.none, data := Data.dict #[] }),
  (3, { cls := Value.type "dict", data := Data.dict #[{ hash := PyData.keyHash P (Str.ofString "__name__"), key := Value.str (Str.ofString "__name__") 165, val := Value.str (Str.ofString "law_sc0078_01") 363 }, { hash := PyData.keyHash P (Str.ofString "__doc__"), key := Value.str (Str.ofString "__doc__") 166, val := Value.none }, { hash := PyData.keyHash P (Str.ofString "__package__"), key := Value.str (Str.ofString "__package__") 167, val := Value.none }, { hash := PyData.keyHash P (Str.ofString "__loader__"), key := Value.str (Str.ofString "__loader__") 168, val := Value.builtin "__main__.__loader__#opaque" }, { hash := PyData.keyHash P (Str.ofString "__spec__"), key := Value.str (Str.ofString "__spec__") 169, val := Value.none }, { hash := PyData.keyHash P (Str.ofString "__annotations__"), key := Value.str (Str.ofString "__annotations__") 170, val := Value.ref 6 }, { hash := PyData.keyHash P (Str.ofString "__builtins__"), key := Value.str (Str.ofString "__builtins__") 171, val := Value.ref 4 }, { hash := PyData.keyHash P (Str.ofString "__file__"), key := Value.str (Str.ofString "__file__") 173, val := Value.str (Str.ofString "/claim/cut.py") 172 }, { hash := PyData.keyHash P (Str.ofString "__cached__"), key := Value.str (Str.ofString "__cached__") 174, val := Value.none }, { hash := PyData.keyHash P (Str.ofString "_wall"), key := Value.str (Str.ofString "_wall") 193, val := Value.ref 21 }, { hash := PyData.keyHash P (Str.ofString "_MAX_STRING_SIZE"), key := Value.str (Str.ofString "_MAX_STRING_SIZE") 197, val := Value.int 40 196 }, { hash := PyData.keyHash P (Str.ofString "_MOVE_COST"), key := Value.str (Str.ofString "_MOVE_COST") 199, val := Value.int 2 198 }, { hash := PyData.keyHash P (Str.ofString "_CASE_COST"), key := Value.str (Str.ofString "_CASE_COST") 201, val := Value.int 1 200 }, { hash := PyData.keyHash P (Str.ofString "_substitution_cost"), key := Value.str (Str.ofString "_substitution_cost") 209, val := Value.ref 28 }, { hash := PyData.keyHash P (Str.ofString "_levenshtein_distance"), key := Value.str (Str.ofString "_levenshtein_distance") 229, val := Value.ref 35 }, { hash := PyData.keyHash P (Str.ofString "_strcoll"), key := Value.str (Str.ofString "_strcoll") 239, val := Value.ref 42 }, { hash := PyData.keyHash P (Str.ofString "_strxfrm"), key := Value.str (Str.ofString "_strxfrm") 246, val := Value.ref 49 }, { hash := PyData.keyHash P (Str.ofString "CHAR_MAX"), key := Value.str (Str.ofString "CHAR_MAX") 248, val := Value.int 127 247 }, { hash := PyData.keyHash P (Str.ofString "_grouping_intervals"), key := Value.str (Str.ofString "_grouping_intervals") 257, val := Value.ref 56 }, { hash := PyData.keyHash P (Str.ofString "Whitespace"), key := Value.str (Str.ofString "Whitespace") 362, val := Value.ref 118 }, { hash := PyData.keyHash P (Str.ofString "_law_ruler"), key := Value.str (Str.ofString "_law_ruler") 370, val := Value.ref 127 }, { hash := PyData.keyHash P (Str.ofString "_law_turns"), key := Value.str (Str.ofString "_law_turns") 381, val := Value.ref 134 }, { hash := PyData.keyHash P (Str.ofString "_law_refused"), key := Value.str (Str.ofString "_law_refused") 390, val := Value.ref 141 }, { hash := PyData.keyHash P (Str.ofString "_law_column"), key := Value.str (Str.ofString "_law_column") 400, val := Value.ref 148 }, { hash := PyData.keyHash P (Str.ofString "_law_columns"), key := Value.str (Str.ofString "_law_columns") 406, val := Value.ref 153 }, { hash := PyData.keyHash P (Str.ofString "_law_unseen"), key := Value.str (Str.ofString "_law_unseen") 425, val := Value.ref 160 }, { hash := PyData.keyHash P (Str.ofString "_law_places"), key := Value.str (Str.ofString "_law_places") 431, val := Value.ref 165 }, { hash := PyData.keyHash P (Str.ofString "law"), key := Value.str (Str.ofString "law") 437, val := Value.ref 170 }] 28 }),
  (27, { cls := Value.type "code", data := Data.fields #[Value.str (Str.ofString "_substitution_cost") 202, Value.str (Str.ofString "_substitution_cost") 203, Value.str (Str.ofString "/claim/cut.py") 204, Value.int 8 0, Value.int 2 0, Value.int 0 0, Value.int 0 0, Value.int 3 0, Value.ref 22, Value.bool true, Value.int 181 0, Value.ref 23, Value.none, Value.ref 24, Value.ref 25, Value.ref 26, Value.int 207 0, Value.int 8 0, Value.str (Str.ofString "/claim/cut.py") 208] }),
  (28, { cls := Value.type "function", data := Data.func { name := Str.ofString "_substitution_cost", qualname := Str.ofString "_substitution_cost", params := PL.fparams (PL.mb 5), body := FuncBody.stmts (PL.fbody (PL.mb 5)), scope := PL.fscope (PL.mb 5), globals := 3, closure := [], defaults := Value.none, kwdefaults := Value.none, pyModule := Value.str (Str.ofString "cpy313.traceback") 194, code := Value.ref 27 } }),
  (34, { cls := Value.type "code", data := Data.fields #[Value.str (Str.ofString "_levenshtein_distance") 210, Value.str (Str.ofString "_levenshtein_distance") 211, Value.str (Str.ofString "/claim/cut.py") 212, Value.int 14 0, Value.int 3 0, Value.int 0 0, Value.int 0 0, Value.int 3 0, Value.ref 29, Value.bool true, Value.int 181 0, Value.ref 30, Value.none, Value.ref 31, Value.ref 32, Value.ref 33, Value.int 227 0, Value.int 14 0, Value.str (Str.ofString "/claim/cut.py") 228] }),
  (35, { cls := Value.type "function", data := Data.func { name := Str.ofString "_levenshtein_distance", qualname := Str.ofString "_levenshtein_distance", params := PL.fparams (PL.mb 6), body := FuncBody.stmts (PL.fbody (PL.mb 6)), scope := PL.fscope (PL.mb 6), globals := 3, closure := [], defaults := Value.none, kwdefaults := Value.none, pyModule := Value.str (Str.ofString "cpy313.traceback") 194, code := Value.ref 34 } }),
  (41, { cls := Value.type "code", data := Data.fields #[Value.str (Str.ofString "_strcoll") 232, Value.str (Str.ofString "_strcoll") 233, Value.str (Str.ofString "/claim/cut.py") 234, Value.int 53 0, Value.int 2 0, Value.int 0 0, Value.int 0 0, Value.int 3 0, Value.ref 36, Value.bool true, Value.int 181 0, Value.ref 37, Value.none, Value.ref 38, Value.ref 39, Value.ref 40, Value.int 237 0, Value.int 53 0, Value.str (Str.ofString "/claim/cut.py") 238] }),
  (42, { cls := Value.type "function", data := Data.func { name := Str.ofString "_strcoll", qualname := Str.ofString "_strcoll", params := PL.fparams (PL.mb 8), body := FuncBody.stmts (PL.fbody (PL.mb 8)), scope := PL.fscope (PL.mb 8), globals := 3, closure := [], defaults := Value.none, kwdefaults := Value.none, pyModule := Value.str (Str.ofString "cpy313.locale") 230, code := Value.ref 41 } }),
  (48, { cls := Value.type "code", data := Data.fields #[Value.str (Str.ofString "_strxfrm") 240, Value.str (Str.ofString "_strxfrm") 241, Value.str (Str.ofString "/claim/cut.py") 242, Value.int 55 0, Value.int 1 0, Value.int 0 0, Value.int 0 0, Value.int 3 0, Value.ref 43, Value.bool true, Value.int 181 0, Value.ref 44, Value.none, Value.ref 45, Value.ref 46, Value.ref 47, Value.int 244 0, Value.int 55 0, Value.str (Str.ofString "/claim/cut.py") 245] }),
  (49, { cls := Value.type "function", data := Data.func { name := Str.ofString "_strxfrm", qualname := Str.ofString "_strxfrm", params := PL.fparams (PL.mb 9), body := FuncBody.stmts (PL.fbody (PL.mb 9)), scope := PL.fscope (PL.mb 9), globals := 3, closure := [], defaults := Value.none, kwdefaults := Value.none, pyModule := Value.str (Str.ofString "cpy313.locale") 230, code := Value.ref 48 } }),
  (55, { cls := Value.type "code", data := Data.fields #[Value.str (Str.ofString "_grouping_intervals") 249, Value.str (Str.ofString "_grouping_intervals") 250, Value.str (Str.ofString "/claim/cut.py") 251, Value.int 58 0, Value.int 1 0, Value.int 0 0, Value.int 0 0, Value.int 35 0, Value.ref 50, Value.bool true, Value.int 181 0, Value.ref 51, Value.none, Value.ref 52, Value.ref 53, Value.ref 54, Value.int 255 0, Value.int 58 0, Value.str (Str.ofString "/claim/cut.py") 256] }),
  (56, { cls := Value.type "function", data := Data.func { name := Str.ofString "_grouping_intervals", qualname := Str.ofString "_grouping_intervals", params := PL.fparams (PL.mb 11), body := FuncBody.stmts (PL.fbody (PL.mb 11)), scope := PL.fscope (PL.mb 11), globals := 3, closure := [], defaults := Value.none, kwdefaults := Value.none, pyModule := Value.str (Str.ofString "cpy313.locale") 230, code := Value.ref 55 } }),
  (72, { cls := Value.type "code", data := Data.fields #[Value.str (Str.ofString "__init__") 277, Value.str (Str.ofString "Whitespace.__init__") 278, Value.str (Str.ofString "/claim/cut.py") 279, Value.int 74 0, Value.int 2 0, Value.int 0 0, Value.int 0 0, Value.int 3 0, Value.ref 67, Value.bool true, Value.int 181 0, Value.ref 68, Value.none, Value.ref 69, Value.ref 70, Value.ref 71, Value.int 289 0, Value.int 74 0, Value.str (Str.ofString "/claim/cut.py") 290] }),
  (73, { cls := Value.type "function", data := Data.func { name := Str.ofString "__init__", qualname := Str.ofString "Whitespace.__init__", params := PL.fparams (PL.cm 13 1), body := FuncBody.stmts (PL.fbody (PL.cm 13 1)), scope := PL.fscope (PL.cm 13 1), globals := 3, closure := [], defaults := Value.none, kwdefaults := Value.none, pyModule := Value.str (Str.ofString "cpy313.tabnanny") 258, code := Value.ref 72 } }),
  (79, { cls := Value.type "code", data := Data.fields #[Value.str (Str.ofString "longest_run_of_spaces") 292, Value.str (Str.ofString "Whitespace.longest_run_of_spaces") 293, Value.str (Str.ofString "/claim/cut.py") 294, Value.int 97 0, Value.int 1 0, Value.int 0 0, Value.int 0 0, Value.int 3 0, Value.ref 74, Value.bool true, Value.int 181 0, Value.ref 75, Value.none, Value.ref 76, Value.ref 77, Value.ref 78, Value.int 298 0, Value.int 97 0, Value.str (Str.ofString "/claim/cut.py") 299] }),
  (80, { cls := Value.type "function", data := Data.func { name := Str.ofString "longest_run_of_spaces", qualname := Str.ofString "Whitespace.longest_run_of_spaces", params := PL.fparams (PL.cm 13 2), body := FuncBody.stmts (PL.fbody (PL.cm 13 2)), scope := PL.fscope (PL.cm 13 2), globals := 3, closure := [], defaults := Value.none, kwdefaults := Value.none, pyModule := Value.str (Str.ofString "cpy313.tabnanny") 258, code := Value.ref 79 } }),
  (86, { cls := Value.type "code", data := Data.fields #[Value.str (Str.ofString "indent_level") 301, Value.str (Str.ofString "Whitespace.indent_level") 302, Value.str (Str.ofString "/claim/cut.py") 303, Value.int 101 0, Value.int 2 0, Value.int 0 0, Value.int 0 0, Value.int 3 0, Value.ref 81, Value.bool true, Value.int 181 0, Value.ref 82, Value.none, Value.ref 83, Value.ref 84, Value.ref 85, Value.int 310 0, Value.int 101 0, Value.str (Str.ofString "/claim/cut.py") 311] }),
  (87, { cls := Value.type "function", data := Data.func { name := Str.ofString "indent_level", qualname := Str.ofString "Whitespace.indent_level", params := PL.fparams (PL.cm 13 3), body := FuncBody.stmts (PL.fbody (PL.cm 13 3)), scope := PL.fscope (PL.cm 13 3), globals := 3, closure := [], defaults := Value.none, kwdefaults := Value.none, pyModule := Value.str (Str.ofString "cpy313.tabnanny") 258, code := Value.ref 86 } }),
  (107, { cls := Value.type "code", data := Data.fields #[Value.str (Str.ofString "less") 329, Value.str (Str.ofString "Whitespace.less") 330, Value.str (Str.ofString "/claim/cut.py") 331, Value.int 114 0, Value.int 2 0, Value.int 0 0, Value.int 0 0, Value.int 3 0, Value.ref 102, Value.bool true, Value.int 181 0, Value.ref 103, Value.none, Value.ref 104, Value.ref 105, Value.ref 106, Value.int 336 0, Value.int 114 0, Value.str (Str.ofString "/claim/cut.py") 337] }),
  (108, { cls := Value.type "function", data := Data.func { name := Str.ofString "less", qualname := Str.ofString "Whitespace.less", params := PL.fparams (PL.cm 13 6), body := FuncBody.stmts (PL.fbody (PL.cm 13 6)), scope := PL.fscope (PL.cm 13 6), globals := 3, closure := [], defaults := Value.none, kwdefaults := Value.none, pyModule := Value.str (Str.ofString "cpy313.tabnanny") 258, code := Value.ref 107 } }),
  (114, { cls := Value.type "code", data := Data.fields #[Value.str (Str.ofString "not_less_witness") 339, Value.str (Str.ofString "Whitespace.not_less_witness") 340, Value.str (Str.ofString "/claim/cut.py") 341, Value.int 125 0, Value.int 2 0, Value.int 0 0, Value.int 0 0, Value.int 3 0, Value.ref 109, Value.bool true, Value.int 181 0, Value.ref 110, Value.none, Value.ref 111, Value.ref 112, Value.ref 113, Value.int 347 0, Value.int 125 0, Value.str (Str.ofString "/claim/cut.py") 348] }),
  (115, { cls := Value.type "function", data := Data.func { name := Str.ofString "not_less_witness", qualname := Str.ofString "Whitespace.not_less_witness", params := PL.fparams (PL.cm 13 7), body := FuncBody.stmts (PL.fbody (PL.cm 13 7)), scope := PL.fscope (PL.cm 13 7), globals := 3, closure := [], defaults := Value.none, kwdefaults := Value.none, pyModule := Value.str (Str.ofString "cpy313.tabnanny") 258, code := Value.ref 114 } }),
  (117, { cls := Value.type "dict", data := Data.dict #[{ hash := PyData.keyHash P (Str.ofString "__module__"), key := Value.str (Str.ofString "__module__") 267, val := Value.str (Str.ofString "cpy313.tabnanny") 258 }, { hash := PyData.keyHash P (Str.ofString "__firstlineno__"), key := Value.str (Str.ofString "__firstlineno__") 271, val := Value.int 71 270 }, { hash := PyData.keyHash P (Str.ofString "S"), key := Value.str (Str.ofString "S") 275, val := Value.str (Str.ofString " ") 273 }, { hash := PyData.keyHash P (Str.ofString "T"), key := Value.str (Str.ofString "T") 276, val := Value.str (Str.ofString "\t") 274 }, { hash := PyData.keyHash P (Str.ofString "__init__"), key := Value.str (Str.ofString "__init__") 291, val := Value.ref 73 }, { hash := PyData.keyHash P (Str.ofString "longest_run_of_spaces"), key := Value.str (Str.ofString "longest_run_of_spaces") 300, val := Value.ref 80 }, { hash := PyData.keyHash P (Str.ofString "indent_level"), key := Value.str (Str.ofString "indent_level") 312, val := Value.ref 87 }, { hash := PyData.keyHash P (Str.ofString "equal"), key := Value.str (Str.ofString "equal") 320, val := Value.ref 94 }, { hash := PyData.keyHash P (Str.ofString "not_equal_witness"), key := Value.str (Str.ofString "not_equal_witness") 328, val := Value.ref 101 }, { hash := PyData.keyHash P (Str.ofString "less"), key := Value.str (Str.ofString "less") 338, val := Value.ref 108 }, { hash := PyData.keyHash P (Str.ofString "not_less_witness"), key := Value.str (Str.ofString "not_less_witness") 349, val := Value.ref 115 }, { hash := PyData.keyHash P (Str.ofString "__static_attributes__"), key := Value.str (Str.ofString "__static_attributes__") 355, val := Value.ref 116 }, { hash := PyData.keyHash P (Str.ofString "__dict__"), key := Value.str (Str.ofString "__dict__") 357, val := Value.ref 119 }, { hash := PyData.keyHash P (Str.ofString "__weakref__"), key := Value.str (Str.ofString "__weakref__") 359, val := Value.ref 120 }, { hash := PyData.keyHash P (Str.ofString "__doc__"), key := Value.str (Str.ofString "__doc__") 360, val := Value.none }] 4 }),
  (118, { cls := Value.type "type", data := Data.cls { name := Str.ofString "Whitespace", bases := [Value.type "object"], mro := [Value.ref 118, Value.type "object"], ns := 117, qualname := Str.ofString "Whitespace" }, slots := #[none, none, some (Value.str (Str.ofString "Whitespace") 260), some (Value.str (Str.ofString "Whitespace") 268), some (Value.builtin "object.__new__"), some (Value.bool true)] }),
  (126, { cls := Value.type "code", data := Data.fields #[Value.str (Str.ofString "_law_ruler") 365, Value.str (Str.ofString "_law_ruler") 366, Value.str (Str.ofString "/claim/cut.py") 367, Value.int 133 0, Value.int 2 0, Value.int 0 0, Value.int 0 0, Value.int 3 0, Value.ref 123, Value.bool true, Value.int 181 0, Value.ref 124, Value.none, Value.none, Value.none, Value.ref 125, Value.int 368 0, Value.int 133 0, Value.str (Str.ofString "/claim/cut.py") 369] }),
  (127, { cls := Value.type "function", data := Data.func { name := Str.ofString "_law_ruler", qualname := Str.ofString "_law_ruler", params := PL.fparams (PL.mb 15), body := FuncBody.stmts (PL.fbody (PL.mb 15)), scope := PL.fscope (PL.mb 15), globals := 3, closure := [], defaults := Value.none, kwdefaults := Value.none, pyModule := Value.str (Str.ofString "law_sc0078_01") 363, code := Value.ref 126 } }),
  (133, { cls := Value.type "code", data := Data.fields #[Value.str (Str.ofString "_law_turns") 371, Value.str (Str.ofString "_law_turns") 372, Value.str (Str.ofString "/claim/cut.py") 373, Value.int 144 0, Value.int 2 0, Value.int 0 0, Value.int 0 0, Value.int 3 0, Value.ref 128, Value.bool true, Value.int 181 0, Value.ref 129, Value.none, Value.ref 130, Value.ref 131, Value.ref 132, Value.int 379 0, Value.int 144 0, Value.str (Str.ofString "/claim/cut.py") 380] }),
  (134, { cls := Value.type "function", data := Data.func { name := Str.ofString "_law_turns", qualname := Str.ofString "_law_turns", params := PL.fparams (PL.mb 16), body := FuncBody.stmts (PL.fbody (PL.mb 16)), scope := PL.fscope (PL.mb 16), globals := 3, closure := [], defaults := Value.none, kwdefaults := Value.none, pyModule := Value.str (Str.ofString "law_sc0078_01") 363, code := Value.ref 133 } }),
  (140, { cls := Value.type "code", data := Data.fields #[Value.str (Str.ofString "_law_refused") 382, Value.str (Str.ofString "_law_refused") 383, Value.str (Str.ofString "/claim/cut.py") 384, Value.int 155 0, Value.int 1 0, Value.int 0 0, Value.int 0 0, Value.int 3 0, Value.ref 135, Value.bool true, Value.int 181 0, Value.ref 136, Value.none, Value.ref 137, Value.ref 138, Value.ref 139, Value.int 388 0, Value.int 155 0, Value.str (Str.ofString "/claim/cut.py") 389] }),
  (141, { cls := Value.type "function", data := Data.func { name := Str.ofString "_law_refused", qualname := Str.ofString "_law_refused", params := PL.fparams (PL.mb 17), body := FuncBody.stmts (PL.fbody (PL.mb 17)), scope := PL.fscope (PL.mb 17), globals := 3, closure := [], defaults := Value.none, kwdefaults := Value.none, pyModule := Value.str (Str.ofString "law_sc0078_01") 363, code := Value.ref 140 } }),
  (147, { cls := Value.type "code", data := Data.fields #[Value.str (Str.ofString "_law_column") 391, Value.str (Str.ofString "_law_column") 392, Value.str (Str.ofString "/claim/cut.py") 393, Value.int 162 0, Value.int 2 0, Value.int 0 0, Value.int 0 0, Value.int 3 0, Value.ref 142, Value.bool true, Value.int 181 0, Value.ref 143, Value.none, Value.ref 144, Value.ref 145, Value.ref 146, Value.int 398 0, Value.int 162 0, Value.str (Str.ofString "/claim/cut.py") 399] }),
  (148, { cls := Value.type "function", data := Data.func { name := Str.ofString "_law_column", qualname := Str.ofString "_law_column", params := PL.fparams (PL.mb 18), body := FuncBody.stmts (PL.fbody (PL.mb 18)), scope := PL.fscope (PL.mb 18), globals := 3, closure := [], defaults := Value.none, kwdefaults := Value.none, pyModule := Value.str (Str.ofString "law_sc0078_01") 363, code := Value.ref 147 } }),
  (152, { cls := Value.type "code", data := Data.fields #[Value.str (Str.ofString "_law_columns") 401, Value.str (Str.ofString "_law_columns") 402, Value.str (Str.ofString "/claim/cut.py") 403, Value.int 167 0, Value.int 2 0, Value.int 0 0, Value.int 0 0, Value.int 3 0, Value.ref 149, Value.bool true, Value.int 181 0, Value.ref 150, Value.none, Value.none, Value.none, Value.ref 151, Value.int 404 0, Value.int 167 0, Value.str (Str.ofString "/claim/cut.py") 405] }),
  (153, { cls := Value.type "function", data := Data.func { name := Str.ofString "_law_columns", qualname := Str.ofString "_law_columns", params := PL.fparams (PL.mb 19), body := FuncBody.stmts (PL.fbody (PL.mb 19)), scope := PL.fscope (PL.mb 19), globals := 3, closure := [], defaults := Value.none, kwdefaults := Value.none, pyModule := Value.str (Str.ofString "law_sc0078_01") 363, code := Value.ref 152 } }),
  (159, { cls := Value.type "code", data := Data.fields #[Value.str (Str.ofString "_law_unseen") 407, Value.str (Str.ofString "_law_unseen") 408, Value.str (Str.ofString "/claim/cut.py") 409, Value.int 170 0, Value.int 4 0, Value.int 0 0, Value.int 0 0, Value.int 3 0, Value.ref 154, Value.bool true, Value.int 181 0, Value.ref 155, Value.none, Value.ref 156, Value.ref 157, Value.ref 158, Value.int 423 0, Value.int 170 0, Value.str (Str.ofString "/claim/cut.py") 424] }),
  (160, { cls := Value.type "function", data := Data.func { name := Str.ofString "_law_unseen", qualname := Str.ofString "_law_unseen", params := PL.fparams (PL.mb 20), body := FuncBody.stmts (PL.fbody (PL.mb 20)), scope := PL.fscope (PL.mb 20), globals := 3, closure := [], defaults := Value.none, kwdefaults := Value.none, pyModule := Value.str (Str.ofString "law_sc0078_01") 363, code := Value.ref 159 } }),
  (164, { cls := Value.type "code", data := Data.fields #[Value.str (Str.ofString "_law_places") 426, Value.str (Str.ofString "_law_places") 427, Value.str (Str.ofString "/claim/cut.py") 428, Value.int 184 0, Value.int 5 0, Value.int 0 0, Value.int 0 0, Value.int 3 0, Value.ref 161, Value.bool true, Value.int 181 0, Value.ref 162, Value.none, Value.none, Value.none, Value.ref 163, Value.int 429 0, Value.int 184 0, Value.str (Str.ofString "/claim/cut.py") 430] }),
  (165, { cls := Value.type "function", data := Data.func { name := Str.ofString "_law_places", qualname := Str.ofString "_law_places", params := PL.fparams (PL.mb 21), body := FuncBody.stmts (PL.fbody (PL.mb 21)), scope := PL.fscope (PL.mb 21), globals := 3, closure := [], defaults := Value.none, kwdefaults := Value.none, pyModule := Value.str (Str.ofString "law_sc0078_01") 363, code := Value.ref 164 } }),
  (169, { cls := Value.type "code", data := Data.fields #[Value.str (Str.ofString "law") 432, Value.str (Str.ofString "law") 433, Value.str (Str.ofString "/claim/cut.py") 434, Value.int 202 0, Value.int 1 0, Value.int 0 0, Value.int 0 0, Value.int 3 0, Value.ref 166, Value.bool true, Value.int 181 0, Value.ref 167, Value.none, Value.none, Value.none, Value.ref 168, Value.int 435 0, Value.int 202 0, Value.str (Str.ofString "/claim/cut.py") 436] }),
  (170, { cls := Value.type "function", data := Data.func { name := Str.ofString "law", qualname := Str.ofString "law", params := PL.fparams (PL.mb 22), body := FuncBody.stmts (PL.fbody (PL.mb 22)), scope := PL.fscope (PL.mb 22), globals := 3, closure := [], defaults := Value.none, kwdefaults := Value.none, pyModule := Value.str (Str.ofString "law_sc0078_01") 363, code := Value.ref 169 } })]
noncomputable def asK : List Addr := [2, 3, 27, 28, 34, 35, 41, 42, 48, 49, 55, 56, 72, 73, 79, 80, 86, 87, 107, 108, 114, 115, 117, 118, 126, 127, 133, 134, 140, 141, 147, 148, 152, 153, 159, 160, 164, 165, 169, 170]
theorem asK_ok (P : Params) : asK = (KF P).map (fun x => x.1) := by kernel_rfl
noncomputable abbrev HK : Hook := kHook KF asK asK_ok
/-- the law's def alone, of the text's top -/
noncomputable def vw : Program := view PySem.Challenge.pw_sc0078_01 [22]
noncomputable def lo : List Str := ["_wall", "_MAX_STRING_SIZE", "_MOVE_COST", "_CASE_COST", "_substitution_cost", "_levenshtein_distance", "_strcoll", "_strxfrm", "CHAR_MAX", "_grouping_intervals", "Whitespace", "_law_ruler", "_law_turns", "_law_refused", "_law_column", "_law_columns", "_law_unseen", "_law_places"]
end PL
end
noncomputable section
open PySem PySem.W PyProof.Rows PySem.Builtin.Str
set_option Elab.async false
set_option maxRecDepth 100000
set_option maxHeartbeats 8000000
namespace PL
theorem left0 : LeftO PySem.Challenge.pw_sc0078_01 vw lo (fun s => xlAt vw [] s && recOk (RowW.records PySem.Challenge.rw_sc0078_01.row.toRowW) s) (Hook.obs HK) (Hook.val HK) 2124 :=
  LeftO.of_split "special-get-raises" (fun w => by
    unfold fencedOpening topFrom
    rw [PySem.W.Fast.te14082659384304107361, PySem.W.Fast.te10274390034422433532, PySem.W.Fast.te14289696077712309145, PySem.W.Fast.te4187177175401517315, PySem.W.Fast.te14364793385576792824]
    kernel_rfl)
end PL
end
noncomputable section
open PySem PySem.W PyProof.Rows PySem.Builtin.Str
set_option Elab.async false
set_option maxRecDepth 100000
set_option maxHeartbeats 8000000
namespace PL
theorem said0 : PySem.Challenge.rw_sc0078_01.wellSaid = true := (congrFun PySem.W.Fast.te9446332074065402090 PySem.Challenge.rw_sc0078_01).trans (by kernel_rfl)
end PL
end
noncomputable section
open PySem PySem.W PyProof.Rows PySem.Builtin.Str
set_option Elab.async false
set_option maxRecDepth 100000
set_option maxHeartbeats 8000000
namespace PL
theorem chains0 : (chainsOk vw && opensWell PySem.Challenge.rw_sc0078_01.row.prog && (frees PySem.Challenge.rw_sc0078_01.row.toRowW && PySem.Challenge.rw_sc0078_01.row.within.isEmpty)) = true := by kernel_rfl
theorem hd0 {d : DefRec} {kwd : List (Str × Expr)} (hdef : defOf vw PySem.Challenge.rw_sc0078_01.row.name = some (d, kwd)) (hp : PySem.Challenge.rw_sc0078_01.row.prog.theDef PySem.Challenge.rw_sc0078_01.row.name = some (d.params, d.body, d.scope)) (hk : kwWritten? d.params.kwonlyargs d.params.kw_defaults = some kwd)
    (walk : WalkO vw lo (XL vw []) (Hook.says HK) PySem.Challenge.rw_sc0078_01.row.toRowW d kwd fun f vs => PySem.call f vs) : PySem.Challenge.rw_sc0078_01.Holds := by
  refine holds_law said0 fun said => ?_
  refine holds_open (q := vw) (loose := lo) (Xt := fun s => xlAt vw [] s && recOk (RowW.records PySem.Challenge.rw_sc0078_01.row.toRowW) s) (XP := XL vw []) (Yf := Hook.obs HK) (Ya := Hook.val HK) (YP := Hook.says HK) (N := 2124) left0 (Hook.of HK) (Hook.keeps HK)
    (fun s e => xl_of s (Bool.and_eq_true_iff.mp e).1) XL.keeps hdef hp hk (fun s e => recFacts_of (Bool.and_eq_true_iff.mp e).2) (by rfl) said chains0 ⟨rfl, rfl, rfl, rfl, rfl, by decide +kernel⟩ ?hw walk
  w_witness2
end PL
end
open PySem PySem.W PyProof.Rows PySem.W.X PySem.Spec PySem.Calls
set_option Elab.async false
set_option maxRecDepth 100000
set_option maxHeartbeats 8000000
theorem PySem.Challenge.cw_sc0078_01_holds : PySem.Challenge.rw_sc0078_01.Holds := by
  refine PL.hd0 (by rfl) (by rfl) (by rfl) ?_
  intro w s₀ s₁ mg mB G Y fa o pm cd doc dV kV ho hd hcd hD hmg hg args vals as hpre hlay hrd hwl hlo
  have KX := kIn_of Y
  refine Ground.open G ?_
  intro T B D TE TW
  wrow_args hpre hlay hrd hwl hlo
  all_goals (x_fa T KX hmg)
  all_goals clear hmg hcd hD hd B D TE TW Y G
  have GP : PL.Pgm (PL.Xj w s₁) mg mB := ⟨⟨T.g, T.b, T.nolimit⟩,
    mg_of KX T.g (by kernel_rfl),
    mg_of KX T.g (by kernel_rfl),
    mg_of KX T.g (by kernel_rfl),
    mg_of KX T.g (by kernel_rfl),
    mg_of KX T.g (by kernel_rfl),
    mg_of KX T.g (by kernel_rfl),
    mg_of KX T.g (by kernel_rfl),
    mg_of KX T.g (by kernel_rfl),
    mg_of KX T.g (by kernel_rfl),
    mg_of KX T.g (by kernel_rfl),
    mg_of KX T.g (by kernel_rfl),
    mg_of KX T.g (by kernel_rfl),
    mg_of KX T.g (by kernel_rfl),
    mg_of KX T.g (by kernel_rfl),
    mg_of KX T.g (by kernel_rfl),
    mg_of KX T.g (by kernel_rfl),
    mg_of KX T.g (by kernel_rfl),
    PL.fnAt_of KX (by kernel_rfl) (by kernel_rfl) (by kernel_rfl) (by kernel_rfl),
    PL.fnAt_of KX (by kernel_rfl) (by kernel_rfl) (by kernel_rfl) (by kernel_rfl),
    PL.fnAt_of KX (by kernel_rfl) (by kernel_rfl) (by kernel_rfl) (by kernel_rfl),
    PL.fnAt_of KX (by kernel_rfl) (by kernel_rfl) (by kernel_rfl) (by kernel_rfl),
    PL.fnAt_of KX (by kernel_rfl) (by kernel_rfl) (by kernel_rfl) (by kernel_rfl),
    PL.fnAt_of KX (by kernel_rfl) (by kernel_rfl) (by kernel_rfl) (by kernel_rfl),
    PL.fnAt_of KX (by kernel_rfl) (by kernel_rfl) (by kernel_rfl) (by kernel_rfl),
    PL.fnAt_of KX (by kernel_rfl) (by kernel_rfl) (by kernel_rfl) (by kernel_rfl),
    PL.fnAt_of KX (by kernel_rfl) (by kernel_rfl) (by kernel_rfl) (by kernel_rfl),
    PL.fnAt_of KX (by kernel_rfl) (by kernel_rfl) (by kernel_rfl) (by kernel_rfl),
    PL.fnAt_of KX (by kernel_rfl) (by kernel_rfl) (by kernel_rfl) (by kernel_rfl),
    PL.fnAt_of KX (by kernel_rfl) (by kernel_rfl) (by kernel_rfl) (by kernel_rfl),
    PL.fnAt_of KX (by kernel_rfl) (by kernel_rfl) (by kernel_rfl) (by kernel_rfl),
    mg_none_of KX T.g (by kernel_rfl),
    mg_none_of KX T.g (by kernel_rfl),
    mg_none_of KX T.g (by kernel_rfl),
    mg_none_of KX T.g (by kernel_rfl),
    mg_none_of KX T.g (by kernel_rfl),
    mg_none_of KX T.g (by kernel_rfl),
    mg_none_of KX T.g (by kernel_rfl),
    mg_none_of KX T.g (by kernel_rfl),
    mg_none_of KX T.g (by kernel_rfl),
    mg_none_of KX T.g (by kernel_rfl),
    mg_none_of KX T.g (by kernel_rfl),
    (T.builtins "len" (by decide)).trans (by kernel_rfl),
    (T.builtins "range" (by decide)).trans (by kernel_rfl),
    (T.builtins "list" (by decide)).trans (by kernel_rfl),
    (T.builtins "min" (by decide)).trans (by kernel_rfl),
    (T.builtins "max" (by decide)).trans (by kernel_rfl),
    (T.builtins "sorted" (by decide)).trans (by kernel_rfl),
    (T.builtins "zip" (by decide)).trans (by kernel_rfl),
    (T.builtins "chr" (by decide)).trans (by kernel_rfl),
    (T.builtins "str" (by decide)).trans (by kernel_rfl),
    (T.builtins "tuple" (by decide)).trans (by kernel_rfl),
    (T.builtins "ValueError" (by decide)).trans (by kernel_rfl)⟩
  have KP : PL.Wsp (PL.Xj w s₁) _ := ⟨⟨⟨"Whitespace", "Whitespace", [.type "object"], [], [], none, none, none, none, some (.str "Whitespace" 260), some (.str "Whitespace" 268), some (.bool true), KX _ _ (by kernel_rfl)⟩, PL.ns_of (n := 4) KX (by kernel_rfl) (by kernel_rfl)⟩,
    (by kernel_rfl),
    (by kernel_rfl),
    (by kernel_rfl),
    (by kernel_rfl),
    (by kernel_rfl),
    (by kernel_rfl),
    (by kernel_rfl),
    (by kernel_rfl),
    (by kernel_rfl),
    (by kernel_rfl),
    (by kernel_rfl),
    (by kernel_rfl),
    (by kernel_rfl),
    PL.fnAt_of KX (by kernel_rfl) (by kernel_rfl) (by kernel_rfl) (by kernel_rfl),
    PL.fnAt_of KX (by kernel_rfl) (by kernel_rfl) (by kernel_rfl) (by kernel_rfl),
    PL.fnAt_of KX (by kernel_rfl) (by kernel_rfl) (by kernel_rfl) (by kernel_rfl),
    PL.fnAt_of KX (by kernel_rfl) (by kernel_rfl) (by kernel_rfl) (by kernel_rfl),
    PL.fnAt_of KX (by kernel_rfl) (by kernel_rfl) (by kernel_rfl) (by kernel_rfl),
    PL.fnK_of (st := PL.cm 13 1) KX (by kernel_rfl),
    PL.fnK_of (st := PL.cm 13 2) KX (by kernel_rfl),
    PL.fnK_of (st := PL.cm 13 3) KX (by kernel_rfl),
    PL.fnK_of (st := PL.cm 13 6) KX (by kernel_rfl),
    PL.fnK_of (st := PL.cm 13 7) KX (by kernel_rfl),
    PL.cls_reads KX (t := 273) (mc := .type "type") (by kernel_rfl) (by kernel_rfl),
    PL.cls_reads KX (t := 274) (mc := .type "type") (by kernel_rfl) (by kernel_rfl)⟩
  refine PL.join GP KP (by assumption) (by assumption) (by omega) fun s' g => ?_
  refine PL.good_true g hg (raisesW_false ?_) ?_
  · wrow_none_raised
  · wrow_post
