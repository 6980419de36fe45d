import PyProof.Rows.All
import Wide.All
import OpenK.AllK
import Wide.FinOn
import PyProof.ForAny
import PyProof.InstEq
import PyProof.EqKinds
import PyProof.CompFree
import PyProof.CompMap
import PyProof.WalksMore
import KE.KSetAt
import KE.KStar
import KE.KBoundM
import KE.KSuperObj
import KE.KSuper
import KE.KPar
import KE.LcTurns
import KE.KSorted
import KE.KCat
import Lean
import PySem.Challenge.RW_fx0002_01
open PySem PySem.W PyProof.Rows
set_option Elab.async false
set_option maxRecDepth 100000
set_option linter.all false
namespace FX
set_option maxHeartbeats 8000000 in
open_top hd for PySem.Challenge.rw_fx0002_01
open PySem.Calls
/-! ## FXBase -/
/-- abstract values: tokens are struck, tuples and Members are values -/
inductive V where
  | none | bool (b : Bool) | int (i : Int) | str (s : PySem.Str) | ref (a : Addr) | tup (xs : List V) | mem (k : Int) | unb
/-- abstract objects -/
inductive O where
  | list (xs : List V)
  | inst (C : Addr) (fs : List (PySem.Str × V))
  | cell (x : Option V)
  | ns (y : PySem.Str) (z : V)
  | obj (P : Obj → Prop)
abbrev Led := List (Addr × O)
abbrev Loc := List (PySem.Str × V)
abbrev Imm := List (Addr × Obj)

/-- the class Member -/
def CM : Addr := 479
abbrev tupOf (vs : List Value) : Obj := { cls := .type "tuple", data := .seq vs.toArray }

mutual
inductive Sim (I : Imm) : Value → V → Prop
  | none : Sim I .none .none
  | bool (b : Bool) : Sim I (.bool b) (.bool b)
  | int (i : Int) (t : Tok) : Sim I (.int i t) (.int i)
  | str (s : PySem.Str) (t : Tok) : Sim I (.str s t) (.str s)
  | ref (a : Addr) : Sim I (.ref a) (.ref a)
  | tup {a : Addr} {vs : List Value} {xs : List V} : (a, tupOf vs) ∈ I → Sims I vs xs → Sim I (.ref a) (.tup xs)
  | mem {a d : Addr} {n : Nat} {hh : Int} {k : Int} {t t' : Tok} : (a, instObj CM d) ∈ I → (d, dictOf [⟨hh, .str "_key" t', .int k t⟩] n) ∈ I → Sim I (.ref a) (.mem k)
inductive Sims (I : Imm) : List Value → List V → Prop
  | nil : Sims I [] []
  | cons {v x vs xs} : Sim I v x → Sims I vs xs → Sims I (v :: vs) (x :: xs)
end

theorem Sims.length {I : Imm} : ∀ {vs : List Value} {xs : List V}, Sims I vs xs → vs.length = xs.length
  | _, _, .nil => rfl
  | _, _, .cons _ h => congrArg (· + 1) h.length

def Sub (I I' : Imm) : Prop := ∀ p ∈ I, p ∈ I'
theorem Sub.refl (I : Imm) : Sub I I := fun _ h => h
theorem Sub.trans {I J K : Imm} (a : Sub I J) (b : Sub J K) : Sub I K := fun p h => b p (a p h)
theorem Sub.cons {I : Imm} (p : Addr × Obj) : Sub I (p :: I) := fun _ h => .tail _ h

mutual
theorem Sim.mono {I I' : Imm} (s : Sub I I') : ∀ {v : Value} {x : V}, Sim I v x → Sim I' v x
  | _, _, .none => .none
  | _, _, .bool b => .bool b
  | _, _, .int i t => .int i t
  | _, _, .str x t => .str x t
  | _, _, .ref a => .ref a
  | _, _, .tup m h => .tup (s _ m) (Sims.mono s h)
  | _, _, .mem a b => .mem (s _ a) (s _ b)
theorem Sims.mono {I I' : Imm} (s : Sub I I') : ∀ {vs : List Value} {xs : List V}, Sims I vs xs → Sims I' vs xs
  | _, _, .nil => .nil
  | _, _, .cons a b => .cons (Sim.mono s a) (Sims.mono s b)
end

theorem Sims.get {I : Imm} : ∀ {vs : List Value} {xs : List V} {i : Nat} {x : V}, Sims I vs xs → xs[i]? = some x → ∃ v, vs[i]? = some v ∧ Sim I v x
  | _, _, 0, _, .cons h _, e => by cases e; exact ⟨_, rfl, h⟩
  | _, _, i + 1, _, .cons _ h, e => by simpa using h.get (i := i) (by simpa using e)
  | _, _, _, _, .nil, e => by cases e
theorem Sims.append {I : Imm} : ∀ {vs us : List Value} {xs ys : List V}, Sims I vs xs → Sims I us ys → Sims I (vs ++ us) (xs ++ ys)
  | _, _, _, _, .nil, h => h
  | _, _, _, _, .cons a b, h => .cons a (b.append h)
theorem Sims.take {I : Imm} : ∀ (n : Nat) {vs : List Value} {xs : List V}, Sims I vs xs → Sims I (vs.take n) (xs.take n)
  | 0, _, _, _ => by simpa using Sims.nil
  | n + 1, _, _, .nil => .nil
  | n + 1, _, _, .cons a b => .cons a (b.take n)
theorem Sims.drop {I : Imm} : ∀ (n : Nat) {vs : List Value} {xs : List V}, Sims I vs xs → Sims I (vs.drop n) (xs.drop n)
  | 0, _, _, h => by simpa using h
  | n + 1, _, _, .nil => .nil
  | n + 1, _, _, .cons _ b => b.drop n
theorem Sims.set {I : Imm} : ∀ (n : Nat) {vs : List Value} {xs : List V} {v : Value} {x : V}, Sims I vs xs → Sim I v x → Sims I (vs.set n v) (xs.set n x)
  | _, _, _, _, _, .nil, _ => .nil
  | 0, _, _, _, _, .cons _ b, h => .cons h b
  | n + 1, _, _, _, _, .cons a b, h => .cons a (b.set n h)
theorem Sims.eraseIdx {I : Imm} : ∀ (n : Nat) {vs : List Value} {xs : List V}, Sims I vs xs → Sims I (vs.eraseIdx n) (xs.eraseIdx n)
  | _, _, _, .nil => .nil
  | 0, _, _, .cons _ b => b
  | n + 1, _, _, .cons a b => .cons a (b.eraseIdx n)
theorem Sims.reverse {I : Imm} {vs : List Value} {xs : List V} (h : Sims I vs xs) : Sims I vs.reverse xs.reverse := by
  induction vs generalizing xs with
  | nil => cases h; exact .nil
  | cons v vs ih =>
    cases h with
    | cons a b => rw [List.reverse_cons, List.reverse_cons]; exact (ih b).append (.cons a .nil)

/-- the entries of the dict of an object -/
inductive DictIs (I : Imm) : List DictEntry → List (PySem.Str × V) → Prop
  | nil : DictIs I [] []
  | cons {h : Int} {k : PySem.Str} {t : Tok} {v : Value} {x : V} {es fs} : Sim I v x → DictIs I es fs → DictIs I (⟨h, .str k t, v⟩ :: es) ((k, x) :: fs)
theorem DictIs.mono {I I' : Imm} (s : Sub I I') : ∀ {es fs}, DictIs I es fs → DictIs I' es fs
  | _, _, .nil => .nil
  | _, _, .cons a b => .cons (a.mono s) (b.mono s)
theorem DictIs.length {I : Imm} : ∀ {es fs}, DictIs I es fs → es.length = fs.length
  | _, _, .nil => rfl
  | _, _, .cons _ b => congrArg (· + 1) b.length

def getF (name : PySem.Str) : List (PySem.Str × V) → Option V
  | [] => none
  | (k, x) :: r => if k = name then some x else getF name r
def setF (name : PySem.Str) (x : V) : List (PySem.Str × V) → List (PySem.Str × V)
  | [] => [(name, x)]
  | (k, y) :: r => if k = name then (k, x) :: r else (k, y) :: setF name x r

theorem isStr_str (k name : PySem.Str) (t : Tok) : (Value.str k t).isStr name = decide (k = name) := by
  show (k == name) = _
  by_cases h : k = name <;> simp [h]
theorem DictIs.noRef {I : Imm} : ∀ {es fs}, DictIs I es fs → es.any (·.refKey) = false
  | _, _, .nil => rfl
  | _, _, .cons _ b => by rw [List.any_cons, b.noRef]; rfl
theorem DictIs.get {I : Imm} {name : PySem.Str} : ∀ {es fs}, DictIs I es fs → ∀ {x}, getF name fs = some x → ∃ v, getL name es = some (some v) ∧ Sim I v x
  | _, _, .nil, _, e => by cases e
  | _, _, .cons (k := k) (t := t) (es := es) a b, x, e => by
    unfold getF at e
    unfold getL
    rw [List.find?_cons, isStr_str]
    by_cases h : k = name
    · rw [if_pos h] at e; cases e; rw [decide_eq_true h]; exact ⟨_, rfl, a⟩
    · rw [if_neg h] at e
      rw [decide_eq_false h]
      obtain ⟨v, hv, hs⟩ := b.get e
      refine ⟨v, ?_, hs⟩
      unfold getL at hv
      dsimp only
      revert hv
      cases List.find? (fun x => x.key.isStr name) es with
      | some en => exact id
      | none => dsimp only; rw [List.any_cons, b.noRef]; exact id
theorem DictIs.miss {I : Imm} {name : PySem.Str} : ∀ {es fs}, DictIs I es fs → getF name fs = none → getL name es = some none
  | _, _, .nil, _ => rfl
  | _, _, .cons (k := k) (t := t) (es := es) a b, e => by
    unfold getF at e
    unfold getL
    rw [List.find?_cons, isStr_str]
    by_cases h : k = name
    · rw [if_pos h] at e; cases e
    · rw [if_neg h] at e
      rw [decide_eq_false h]
      have hv := b.miss e
      unfold getL at hv
      dsimp only
      revert hv
      cases List.find? (fun x => x.key.isStr name) es with
      | some en => exact id
      | none => dsimp only; rw [List.any_cons, b.noRef]; exact id
theorem DictIs.getSome {I : Imm} {name : PySem.Str} {es fs} (h : DictIs I es fs) : (getL name es).isSome = true := by
  cases e : getF name fs with
  | some x => obtain ⟨v, hv, _⟩ := h.get e; rw [hv]; rfl
  | none => rw [h.miss e]; rfl
theorem DictIs.put {I : Imm} {name : PySem.Str} {hsh : Int} {t : Tok} {v : Value} {x : V} (hv : Sim I v x) : ∀ {es fs}, DictIs I es fs → DictIs I (putL name hsh (.str name t) v es) (setF name x fs)
  | _, _, .nil => .cons hv .nil
  | _, _, .cons (k := k) a b => by
    unfold putL setF
    dsimp only
    rw [isStr_str]
    by_cases h : k = name
    · rw [if_pos h, decide_eq_true h, if_pos rfl]; exact .cons hv b
    · rw [if_neg h, decide_eq_false h]; exact .cons a (b.put hv)

/-- one object of the ledger, written out -/
inductive RawOf (I : Imm) : Addr × O → List (Addr × Obj) → Prop
  | list {a : Addr} {vs : List Value} {n : Nat} {xs : List V} : Sims I vs xs → RawOf I (a, .list xs) [(a, listOf vs.toArray n)]
  | inst {a C d : Addr} {es : List DictEntry} {n : Nat} {fs} : DictIs I es fs → RawOf I (a, .inst C fs) [(a, instObj C d), (d, dictOf es n)]
  | cellN {a : Addr} {o : Obj} : o.data = .cell none → RawOf I (a, .cell none) [(a, o)]
  | cellS {a : Addr} {o : Obj} {v : Value} {x : V} : o.data = .cell (some v) → Sim I v x → RawOf I (a, .cell (some x)) [(a, o)]
  | obj {a : Addr} {o : Obj} {P : Obj → Prop} : P o → RawOf I (a, .obj P) [(a, o)]
  | ns {a : Addr} {o : Obj} {es ep} {m : PySem.Str → Option Value} {y : PySem.Str} {v : Value} {z : V} : o.data = .dict es ep → StrKeys es → (∀ name, nsFind es name = m name) → m y = some v → Sim I v z → RawOf I (a, .ns y z) [(a, o)]
theorem RawOf.mono {I I' : Imm} (s : Sub I I') {p r} (h : RawOf I p r) : RawOf I' p r := by
  cases h with
  | list h => exact .list (h.mono s)
  | inst h => exact .inst (h.mono s)
  | cellN h => exact .cellN h
  | cellS h g => exact .cellS h (g.mono s)
  | obj h => exact .obj h
  | ns a b c d e => exact .ns a b c d (e.mono s)
inductive Raws (I : Imm) : Led → List (List (Addr × Obj)) → Prop
  | nil : Raws I [] []
  | cons {p r l rs} : RawOf I p r → Raws I l rs → Raws I (p :: l) (r :: rs)
theorem Raws.mono {I I' : Imm} (s : Sub I I') : ∀ {l rs}, Raws I l rs → Raws I' l rs
  | _, _, .nil => .nil
  | _, _, .cons a b => .cons (a.mono s) (b.mono s)
theorem Raws.split {I : Imm} : ∀ {l₁ : Led} {p : Addr × O} {l₂ : Led} {rs}, Raws I (l₁ ++ p :: l₂) rs → ∃ r₁ r r₂, rs = r₁ ++ r :: r₂ ∧ Raws I l₁ r₁ ∧ RawOf I p r ∧ Raws I l₂ r₂
  | [], _, _, _, .cons a b => ⟨[], _, _, rfl, .nil, a, b⟩
  | _ :: _, _, _, _, .cons a b =>
    let ⟨r₁, r, r₂, e, x, y, z⟩ := b.split
    ⟨_ :: r₁, r, r₂, by rw [e]; rfl, .cons a x, y, z⟩
theorem Raws.join {I : Imm} : ∀ {l₁ : Led} {p : Addr × O} {l₂ : Led} {r₁ r r₂}, Raws I l₁ r₁ → RawOf I p r → Raws I l₂ r₂ → Raws I (l₁ ++ p :: l₂) (r₁ ++ r :: r₂)
  | _, _, _, _, _, _, .nil, y, z => .cons y z
  | _, _, _, _, _, _, .cons a x, y, z => .cons a (x.join y z)
theorem Raws.append {I : Imm} : ∀ {l₁ l₂ : Led} {r₁ r₂}, Raws I l₁ r₁ → Raws I l₂ r₂ → Raws I (l₁ ++ l₂) (r₁ ++ r₂)
  | _, _, _, _, .nil, z => z
  | _, _, _, _, .cons a x, z => .cons a (x.append z)
theorem Raws.appendE {I : Imm} : ∀ {l₁ l₂ : Led} {rs}, Raws I (l₁ ++ l₂) rs → ∃ r₁ r₂, rs = r₁ ++ r₂ ∧ Raws I l₁ r₁ ∧ Raws I l₂ r₂
  | [], _, _, h => ⟨[], _, rfl, .nil, h⟩
  | _ :: _, _, _, .cons a b =>
    let ⟨r₁, r₂, e, x, y⟩ := b.appendE
    ⟨_ :: r₁, r₂, by rw [e]; rfl, .cons a x, y⟩
theorem Raws.perm {I : Imm} {l l' : Led} (h : l.Perm l') : ∀ {rs}, Raws I l rs → ∃ rs', rs.Perm rs' ∧ Raws I l' rs' := by
  induction h with
  | nil => intro rs h; exact ⟨rs, .refl _, h⟩
  | cons p _ ih =>
    intro rs h
    cases h with
    | cons a b => obtain ⟨rs', e, x⟩ := ih b; exact ⟨_, e.cons _, .cons a x⟩
  | swap p q l =>
    intro rs h
    cases h with
    | cons a b => cases b with | cons b c => exact ⟨_, .swap _ _ _, .cons b (.cons a c)⟩
  | trans _ _ ih1 ih2 =>
    intro rs h
    obtain ⟨rs1, e1, x1⟩ := ih1 h
    obtain ⟨rs2, e2, x2⟩ := ih2 x1
    exact ⟨rs2, e1.trans e2, x2⟩

/-- a frame of the run -/
structure Fx where
  A₀ : Around
  base : Heap
  outer : List Env
  qual : PySem.Str
  scope : Scope
  L : Addr
  fa : Addr
  cd : Value
  cells : List (PySem.Str × Addr)
  h₀ : Heap
  os : OsState
  rm : Nat
abbrev Fx.env (Φ : Fx) : Env := envX Φ.qual Φ.scope Φ.L Φ.fa Φ.cd Φ.cells
def Fx.A (Φ : Fx) : Around := Φ.A₀.deeper Φ.env

def TT (h : Heap) : Prop := ∃ p loose mg mb, TopRead p loose mg mb h
theorem TT.keeps {h h' : Heap} (t : TT h) (k : ∀ b o, h.get? b = some o → h'.get? b = some o) : TT h' :=
  let ⟨p, lo, mg, mb, x⟩ := t; ⟨p, lo, mg, mb, x.keeps k⟩
theorem TT.nolimit {h : Heap} (t : TT h) : h.NoLimit := let ⟨_, _, _, _, x⟩ := t; x.nolimit

/-- room for n more calls -/
structure Room (A : Around) (n : Nat) : Prop where
  depth : A.depth + n < 1000
  units : A.units + 8 * n < 9000
  handled : A.handled = none
theorem Room.mono {A : Around} {n k : Nat} (h : Room A n) (hk : k ≤ n) : Room A k := ⟨by have := h.depth; omega, by have := h.units; omega, h.handled⟩

structure Fx.Ok (K : Frag) (Φ : Fx) : Prop where
  kind : Φ.scope.kind = .function
  below : Below Φ.A₀ Φ.base Φ.outer Φ.h₀
  kin : K.In Φ.h₀
  top : TT Φ.h₀
  room : Room Φ.A Φ.rm
theorem Fx.Ok.frames {K : Frag} {Φ : Fx} (o : Φ.Ok K) : Φ.A.frames = some (Φ.env :: Φ.outer) := Around.frames_deeper o.below.stack

structure FRw (Φ : Fx) (ρ : Loc) (l : Led) (I : Imm) (s : Shared) (m : PySem.Str → Option Value) (rs : List (List (Addr × Obj))) : Prop where
  fr : Fr Φ.h₀ Φ.L s.heap m
  loc : ∀ y x, (y, x) ∈ ρ → Φ.env.kindOf y = some .local ∧ (x ≠ .unb → ∃ v, m y = some v ∧ Sim I v x)
  lnd : (ρ.map (·.1)).Nodup
  raws : Raws I l rs
  news : News Φ.h₀ Φ.L s.heap (rs.flatten ++ I)
  nodup : ((rs.flatten ++ I).map (·.1)).Nodup
  gens : s.gens = #[]
  os : s.os = Φ.os
def FR (Φ : Fx) (ρ : Loc) (l : Led) (I : Imm) (s : Shared) : Prop := ∃ m rs, FRw Φ ρ l I s m rs

theorem News.ofPerm {h₀ h : Heap} {L : Addr} {n n' : List (Addr × Obj)} (N : News h₀ L h n) (p : ∀ x ∈ n', x ∈ n) : News h₀ L h n' := fun x hx => N x (p x hx)
theorem nodup_perm {n n' : List (Addr × Obj)} (h : (n.map (·.1)).Nodup) (p : n.Perm n') : (n'.map (·.1)).Nodup := (p.map _).nodup_iff.mp h

/-- the ledger may be put in another order, and be cut -/
def LSub (l' l : Led) : Prop := ∃ r, l.Perm (l' ++ r)
theorem LSub.refl (l : Led) : LSub l l := ⟨[], by rw [List.append_nil]⟩
theorem LSub.of_perm {l l' : Led} (h : l.Perm l') : LSub l' l := ⟨[], by rw [List.append_nil]; exact h⟩
theorem FR.sub {Φ : Fx} {ρ : Loc} {l l' : Led} {I : Imm} {s : Shared} (h : LSub l' l) (F : FR Φ ρ l I s) : FR Φ ρ l' I s := by
  obtain ⟨r, hp⟩ := h
  obtain ⟨m, rs, W⟩ := F
  obtain ⟨rs', e, R⟩ := W.raws.perm hp
  obtain ⟨r₁, r₂, rfl, R1, R2⟩ := R.appendE
  have e2 : (rs.flatten ++ I).Perm ((r₁ ++ r₂).flatten ++ I) := (e.flatten).append_right _
  refine ⟨m, r₁, ⟨W.fr, W.loc, W.lnd, R1, fun x hx => W.news x (e2.mem_iff.mpr ?_), ?_, W.gens, W.os⟩⟩
  · rw [List.flatten_append]
    rcases List.mem_append.mp hx with h | h
    · exact List.mem_append_left _ (List.mem_append_left _ h)
    · exact List.mem_append_right _ h
  · have nd := nodup_perm W.nodup e2
    rw [List.flatten_append, List.append_assoc] at nd
    refine nd.sublist ?_
    exact (List.Sublist.append (List.Sublist.refl _) (List.sublist_append_right _ _)).map _
theorem FR.imm {Φ : Fx} {ρ : Loc} {l : Led} {I : Imm} {s : Shared} (F : FR Φ ρ l I s) : ∀ p ∈ I, s.heap.get? p.1 = some p.2 := by
  obtain ⟨m, rs, W⟩ := F
  exact fun p hp => (W.news p (List.mem_append_right _ hp)).1
theorem FR.keep {Φ : Fx} {ρ : Loc} {l : Led} {I : Imm} {s : Shared} (F : FR Φ ρ l I s) : ∀ b o, Φ.h₀.get? b = some o → s.heap.get? b = some o := by
  obtain ⟨m, rs, W⟩ := F
  exact W.fr.keep
theorem FR.toks {Φ : Fx} {ρ : Loc} {l : Led} {I : Imm} {s : Shared} (F : FR Φ ρ l I s) {tk : Nat} : FR Φ ρ l I { s with toks := tk } := by
  obtain ⟨m, rs, W⟩ := F
  exact ⟨m, rs, ⟨W.fr, W.loc, W.lnd, W.raws, W.news, W.nodup, W.gens, W.os⟩⟩

theorem upd_mid {D : Addr} {o o' : Obj} : ∀ {pre post : List (Addr × Obj)}, ((pre ++ (D, o) :: post).map (·.1)).Nodup → Upd D o o' (pre ++ (D, o) :: post) (pre ++ (D, o') :: post)
  | [], post, h => .head fun p hp e => by
    rw [List.nil_append, List.map_cons, List.nodup_cons] at h
    exact h.1 (e ▸ List.mem_map_of_mem (f := (·.1)) hp)
  | q :: pre, post, h => by
    rw [List.cons_append, List.map_cons, List.nodup_cons] at h
    refine .tail (fun e => h.1 ?_) (upd_mid h.2)
    rw [e]
    exact List.mem_map_of_mem (f := (·.1)) (a := (D, o)) (List.mem_append_right _ (.head _))

/-- an entry of the ledger changes -/
inductive LUpd (a : Addr) (o o' : O) : Led → Led → Prop
  | head {r} : LUpd a o o' ((a, o) :: r) ((a, o') :: r)
  | tail {p r r'} : LUpd a o o' r r' → LUpd a o o' (p :: r) (p :: r')
theorem LUpd.split {a : Addr} {o o' : O} : ∀ {l l' : Led}, LUpd a o o' l l' → ∃ pre post, l = pre ++ (a, o) :: post ∧ l' = pre ++ (a, o') :: post
  | _, _, .head => ⟨[], _, rfl, rfl⟩
  | _, _, .tail (p := p) h => let ⟨pre, post, e, e'⟩ := h.split; ⟨p :: pre, post, by rw [e]; rfl, by rw [e']; rfl⟩
theorem LUpd.mem {a : Addr} {o o' : O} {l l' : Led} (h : LUpd a o o' l l') : (a, o) ∈ l := by
  obtain ⟨pre, post, rfl, _⟩ := h.split
  exact List.mem_append_right _ (.head _)
theorem mem_split {a : Addr} {o : O} {l : Led} (h : (a, o) ∈ l) : ∃ pre post, l = pre ++ (a, o) :: post := List.append_of_mem h

/-- what the ledger says of a list -/
theorem FRw.list {Φ : Fx} {ρ : Loc} {l : Led} {I : Imm} {s : Shared} {m rs} (W : FRw Φ ρ l I s m rs) {a : Addr} {xs : List V} (h : (a, O.list xs) ∈ l) :
    ∃ r₁ r₂ vs n, rs = r₁ ++ [(a, listOf (List.toArray vs) n)] :: r₂ ∧ Sims I vs xs := by
  obtain ⟨pre, post, rfl⟩ := mem_split h
  obtain ⟨r₁, r, r₂, rfl, _, R, _⟩ := W.raws.split
  cases R with
  | list h => exact ⟨r₁, r₂, _, _, rfl, h⟩
theorem FR.list {Φ : Fx} {ρ : Loc} {l : Led} {I : Imm} {s : Shared} (F : FR Φ ρ l I s) {a : Addr} {xs : List V} (h : (a, O.list xs) ∈ l) :
    ∃ vs, s.heap.IsList a (List.toArray vs) ∧ Sims I vs xs := by
  obtain ⟨m, rs, W⟩ := F
  obtain ⟨r₁, r₂, vs, n, rfl, S⟩ := W.list h
  exact ⟨vs, ⟨_, (W.news (a, listOf (List.toArray vs) n) (by simp)).1, rfl, n, rfl⟩, S⟩
theorem FR.inst {Φ : Fx} {ρ : Loc} {l : Led} {I : Imm} {s : Shared} (F : FR Φ ρ l I s) {a C : Addr} {fs} (h : (a, O.inst C fs) ∈ l) :
    ∃ d es n, W.InstAt s.heap a (instObj C d) C (some (dictOf es n)) ∧ DictIs I es fs := by
  obtain ⟨m, rs, W⟩ := F
  obtain ⟨pre, post, rfl⟩ := mem_split h
  obtain ⟨r₁, r, r₂, rfl, _, R, _⟩ := W.raws.split
  cases R with
  | @inst _ _ d es n _ h =>
    exact ⟨d, es, n, ⟨(W.news (a, instObj C d) (by simp)).1, rfl, rfl, (W.news (d, dictOf es n) (by simp)).1⟩, h⟩
/-! ## FXRules -/
structure Cx where
  prog : Program
  w : World
  K : Frag
abbrev Cx.M (c : Cx) : Model := model c.prog c.w
abbrev NoE : Value → Shared → Prop := fun _ _ => False

inductive Fl where
  | next | brk | cont | ret (x : V)
inductive FSim (I : Imm) : Flow → Fl → Prop
  | next : FSim I .next .next
  | brk : FSim I .brk .brk
  | cont : FSim I .cont .cont
  | ret {v x} : Sim I v x → FSim I (.ret v) (.ret x)
theorem FSim.mono {I I' : Imm} (s : Sub I I') : ∀ {f y}, FSim I f y → FSim I' f y
  | _, _, .next => .next
  | _, _, .brk => .brk
  | _, _, .cont => .cont
  | _, _, .ret h => .ret (h.mono s)

def Ret (Φ : Fx) (ρ : Loc) (I : Imm) (Q : V → Led → Prop) (v : Value) (s' : Shared) : Prop := ∃ x l' I', Sub I I' ∧ FR Φ ρ l' I' s' ∧ Sim I' v x ∧ Q x l'
def RetS (Φ : Fx) (ρ : Loc) (I : Imm) (Q : List V → Led → Prop) (vs : List Value) (s' : Shared) : Prop := ∃ xs l' I', Sub I I' ∧ FR Φ ρ l' I' s' ∧ Sims I' vs xs ∧ Q xs l'
def RetB (Φ : Fx) (ρ : Loc) (I : Imm) (Q : Bool → Led → Prop) (b : Bool) (s' : Shared) : Prop := ∃ l' I', Sub I I' ∧ FR Φ ρ l' I' s' ∧ Q b l'
def RetU (Φ : Fx) (I : Imm) (Q : Loc → Led → Prop) (_ : Unit) (s' : Shared) : Prop := ∃ ρ' l' I', Sub I I' ∧ FR Φ ρ' l' I' s' ∧ Q ρ' l'
def RetF (Φ : Fx) (I : Imm) (Q : Fl → Loc → Led → Prop) (f : Flow) (s' : Shared) : Prop := ∃ y ρ' l' I', Sub I I' ∧ FR Φ ρ' l' I' s' ∧ FSim I' f y ∧ Q y ρ' l'

/-- an expression -/
structure WE (c : Cx) (Φ : Fx) (env : Env) (ρ : Loc) (l : Led) (e : PySem.Expr) (Q : V → Led → Prop) : Prop where
  run : Φ.Ok c.K → ∀ I s, FR Φ ρ l I s → wpAny c.M Φ.A (eval e env) (Ret Φ ρ I Q) NoE s
/-- an expression's truth -/
structure WB (c : Cx) (Φ : Fx) (env : Env) (ρ : Loc) (l : Led) (e : PySem.Expr) (Q : Bool → Led → Prop) : Prop where
  run : Φ.Ok c.K → ∀ I s, FR Φ ρ l I s → wpAny c.M Φ.A (isTrue e env (eval e env)) (RetB Φ ρ I Q) NoE s
/-- arguments -/
structure WEs (c : Cx) (Φ : Fx) (env : Env) (ρ : Loc) (l : Led) (es : List PySem.Expr) (Q : List V → Led → Prop) : Prop where
  run : Φ.Ok c.K → ∀ pos I s, FR Φ ρ l I s → wpAny c.M Φ.A (spliced (backTo pos (starEach es env))) (RetS Φ ρ I Q) NoE s
/-- a statement, a suite -/
structure WS (c : Cx) (Φ : Fx) (ρ : Loc) (l : Led) (st : Stmt) (Q : Fl → Loc → Led → Prop) : Prop where
  run : Φ.Ok c.K → ∀ I s, FR Φ ρ l I s → wpAny c.M Φ.A (exec st Φ.env) (RetF Φ I Q) NoE s
structure WSs (c : Cx) (Φ : Fx) (ρ : Loc) (l : Led) (sts : List Stmt) (Q : Fl → Loc → Led → Prop) : Prop where
  run : Φ.Ok c.K → ∀ I s, FR Φ ρ l I s → wpAny c.M Φ.A (execs sts Φ.env) (RetF Φ I Q) NoE s
/-- a call -/
def Spec (c : Cx) (f : Value) (xs : List V) (n : Nat) (l : Led) (Q : V → Led → Prop) : Prop :=
  ∀ (Φ : Fx) (A : Around) (ρ : Loc) (I : Imm) (s : Shared) (vs : List Value), Φ.Ok c.K → A.frames = some (Φ.env :: Φ.outer) → Room A n → FR Φ ρ l I s → Sims I vs xs →
    codeAny c.M A (.call f ⟨vs, []⟩) (fun r s' => ∃ v, r = .ok (.ret v) ∧ Ret Φ ρ I Q v s') s

theorem Spec.mono {c : Cx} {f : Value} {xs : List V} {n k : Nat} {l : Led} {Q Q' : V → Led → Prop} (h : Spec c f xs n l Q) (hn : n ≤ k) (hq : ∀ x l', Q x l' → Q' x l') : Spec c f xs k l Q' := by
  intro Φ A ρ I s vs ok hA hr F S
  refine codeAny_mono (h Φ A ρ I s vs ok hA (hr.mono hn) F S) ?_
  rintro r s' ⟨v, rfl, x, l', I', a, b, d, q⟩
  exact ⟨v, rfl, x, l', I', a, b, d, hq _ _ q⟩
theorem Spec.sub {c : Cx} {f : Value} {xs : List V} {n : Nat} {l l' : Led} {Q : V → Led → Prop} (h : Spec c f xs n l' Q) (hl : LSub l' l) : Spec c f xs n l Q :=
  fun Φ A ρ I s vs ok hA hr F S => h Φ A ρ I s vs ok hA hr (F.sub hl) S

section
variable {c : Cx} {Φ : Fx} {env : Env} {ρ : Loc} {l : Led}

theorem Ret.pull {I I' : Imm} {Q : V → Led → Prop} {v : Value} {s' : Shared} (h : Ret Φ ρ I' Q v s') (s : Sub I I') : Ret Φ ρ I Q v s' :=
  let ⟨x, l', J, a, b, d, q⟩ := h; ⟨x, l', J, s.trans a, b, d, q⟩
theorem RetF.pull {I I' : Imm} {Q : Fl → Loc → Led → Prop} {v : Flow} {s' : Shared} (h : RetF Φ I' Q v s') (s : Sub I I') : RetF Φ I Q v s' :=
  let ⟨x, r, l', J, a, b, d, q⟩ := h; ⟨x, r, l', J, s.trans a, b, d, q⟩
theorem RetB.pull {I I' : Imm} {Q : Bool → Led → Prop} {v : Bool} {s' : Shared} (h : RetB Φ ρ I' Q v s') (s : Sub I I') : RetB Φ ρ I Q v s' :=
  let ⟨l', J, a, b, q⟩ := h; ⟨l', J, s.trans a, b, q⟩
theorem RetS.pull {I I' : Imm} {Q : List V → Led → Prop} {v : List Value} {s' : Shared} (h : RetS Φ ρ I' Q v s') (s : Sub I I') : RetS Φ ρ I Q v s' :=
  let ⟨x, l', J, a, b, d, q⟩ := h; ⟨x, l', J, s.trans a, b, d, q⟩
theorem wpull {α : Type} {t : Sem α} {P P' : α → Shared → Prop} {A : Around} {s : Shared} (h : wpAny c.M A t P NoE s) (k : ∀ a s', P a s' → P' a s') : wpAny c.M A t P' NoE s :=
  wpAny_mono h k fun _ _ x => x

theorem WE.mono {e : PySem.Expr} {Q Q' : V → Led → Prop} (h : WE c Φ env ρ l e Q) (hq : ∀ x l', Q x l' → Q' x l') : WE c Φ env ρ l e Q' :=
  ⟨fun ok I s F => wpull (h.run ok I s F) fun _ _ ⟨x, l', J, a, b, d, q⟩ => ⟨x, l', J, a, b, d, hq _ _ q⟩⟩
theorem WE.sub {l' : Led} {e : PySem.Expr} {Q : V → Led → Prop} (h : WE c Φ env ρ l' e Q) (hl : LSub l' l) : WE c Φ env ρ l e Q :=
  ⟨fun ok I s F => h.run ok I s (F.sub hl)⟩
theorem WSs.sub {l' : Led} {e : List Stmt} {Q : Fl → Loc → Led → Prop} (h : WSs c Φ ρ l' e Q) (hl : LSub l' l) : WSs c Φ ρ l e Q :=
  ⟨fun ok I s F => h.run ok I s (F.sub hl)⟩
theorem WSs.mono {e : List Stmt} {Q Q' : Fl → Loc → Led → Prop} (h : WSs c Φ ρ l e Q) (hq : ∀ y r l', Q y r l' → Q' y r l') : WSs c Φ ρ l e Q' :=
  ⟨fun ok I s F => wpull (h.run ok I s F) fun _ _ ⟨x, r, l', J, a, b, d, q⟩ => ⟨x, r, l', J, a, b, d, hq _ _ _ q⟩⟩
theorem WS.mono {e : Stmt} {Q Q' : Fl → Loc → Led → Prop} (h : WS c Φ ρ l e Q) (hq : ∀ y r l', Q y r l' → Q' y r l') : WS c Φ ρ l e Q' :=
  ⟨fun ok I s F => wpull (h.run ok I s F) fun _ _ ⟨x, r, l', J, a, b, d, q⟩ => ⟨x, r, l', J, a, b, d, hq _ _ _ q⟩⟩

/-! names, literals -/
theorem WE.name {y : Str} {p : Pos} {x : V} {Q : V → Led → Prop} (hy : (y, x) ∈ ρ) (hx : x ≠ .unb) (q : Q x l) (hd : (y == ("__debug__" : Str)) = false := by decide) : WE c Φ Φ.env ρ l (.Name y p) Q := by
  refine ⟨fun ok I s ⟨m, rs, W⟩ => ?_⟩
  obtain ⟨k, h⟩ := W.loc y x hy
  obtain ⟨v, hv, hs⟩ := h hx
  exact nameX_L W.fr hv ⟨x, l, I, .refl _, ⟨m, rs, W⟩, hs, q⟩ ok.kind k hd
theorem WE.glob {y : Str} {p : Pos} {a : Addr} {Q : V → Led → Prop} (e : nsIn c.K mainGlobals y = some (some (.ref a))) (hk : Φ.scope.names.lookup y = some .globalImplicit) (q : Q (.ref a) l)
    (hd : (y == ("__debug__" : Str)) = false := by decide) : WE c Φ Φ.env ρ l (.Name y p) Q := by
  refine ⟨fun ok I s F => ?_⟩
  obtain ⟨pp, lo, mg, mb, T⟩ := ok.top
  obtain ⟨m, rs, W⟩ := id F
  exact nameX_K W.fr ok.kin T e ⟨_, l, I, .refl _, F, .ref a, q⟩ ok.kind hk hd
theorem WE.int {i : Int} {k : Nat} {p : Pos} {Q : V → Led → Prop} (q : Q (.int i) l) : WE c Φ env ρ l (.Constant (.int i) k p) Q :=
  ⟨fun _ I s F => wpAny_Constant_int ⟨_, l, I, .refl _, F.toks, .int i s.toks, q⟩⟩
theorem WE.str {x : Str} {k : Nat} {p : Pos} {Q : V → Led → Prop} (q : Q (.str x) l) : WE c Φ env ρ l (.Constant (.str x) k p) Q :=
  ⟨fun _ I s F => Constant_str ⟨_, l, I, .refl _, F.toks, .str x s.toks, q⟩⟩
theorem WE.tt {b : Bool} {k : Nat} {p : Pos} {Q : V → Led → Prop} (q : Q (.bool b) l) : WE c Φ env ρ l (.Constant (.bool b) k p) Q :=
  ⟨fun _ I s F => show wpAny c.M Φ.A (pure (Value.bool b)) _ _ _ from wpAny_pure ⟨_, l, I, .refl _, F, .bool b, q⟩⟩
theorem WE.none {k : Nat} {p : Pos} {Q : V → Led → Prop} (q : Q .none l) : WE c Φ env ρ l (.Constant .none k p) Q :=
  ⟨fun _ I s F => show wpAny c.M Φ.A (pure Value.none) _ _ _ from wpAny_pure ⟨_, l, I, .refl _, F, .none, q⟩⟩

/-! arguments -/
theorem WEs.nil {Q : List V → Led → Prop} (q : Q [] l) : WEs c Φ env ρ l [] Q :=
  ⟨fun _ pos I s F => spliced_none ⟨_, l, I, .refl _, F, .nil, q⟩⟩
theorem WEs.cons {e : PySem.Expr} {rest : List PySem.Expr} {Q : List V → Led → Prop} (h : WE c Φ env ρ l e (fun x l' => WEs c Φ env ρ l' rest (fun xs l'' => Q (x :: xs) l'')))
    (he : starEach (e :: rest) env = (false, eval e env) :: starEach rest env := by rfl) : WEs c Φ env ρ l (e :: rest) Q := by
  refine ⟨fun ok pos I s F => ?_⟩
  refine spliced_more (wpull (h.run ok I s F) ?_) he
  rintro v s₁ ⟨x, l₁, I₁, a, F₁, S₁, q₁⟩
  refine wpull (q₁.run ok pos I₁ s₁ F₁) ?_
  rintro vs s₂ ⟨xs, l₂, I₂, b, F₂, S₂, q₂⟩
  exact ⟨_, l₂, I₂, a.trans b, F₂, .cons (S₁.mono b) S₂, q₂⟩

/-! attributes -/
def attrOk (K : Frag) (C : Addr) (name : Str) : Bool := plainGet K C name && hasDictIn K C && (match findIn K (.ref C) name with | some attr => noGet K attr | none => false)
def storeOk (K : Frag) (C : Addr) (name : Str) : Bool := findIn K (.ref C) "__setattr__" == some (some (.builtin "object.__setattr__")) && plainOver K C && takerIn K C name == some none && hasDictIn K C
def methOk (K : Frag) (C : Addr) (name : Str) (f : Addr) : Bool := plainGet K C name && findIn K (.ref C) name == some (some (.ref f)) && typeIn K (.ref f) == some (.type "function") && keepIn K (.ref f)

theorem handedIn_sim {I : Imm} {v : Value} {x : V} (h : Sim I v x) : handedIn v = true := by cases h <;> rfl
theorem attr_inst {A : Around} {a C : Addr} {fs : List (Str × V)} {name : Str} {x : V} {expr : Bool} {I : Imm} {s : Shared} {Q : V → Led → Prop} (ok : Φ.Ok c.K) (F : FR Φ ρ l I s) (hi : (a, O.inst C fs) ∈ l) (hx : getF name fs = some x) (ho : attrOk c.K C name = true)
    (q : Q x l) : wpAny c.M A (getAttr (.ref a) name expr) (Ret Φ ρ I Q) NoE s := by
  obtain ⟨d, es, n, IA, D⟩ := F.inst hi
  obtain ⟨v, hv, hs⟩ := D.get hx
  unfold attrOk at ho
  simp only [Bool.and_eq_true] at ho
  obtain ⟨⟨h1, h2⟩, h3⟩ := ho
  split at h3
  · rename_i attr ha
    obtain ⟨m, rs, W⟩ := id F
    exact get_own W.fr ok.kin IA h1 h2 ha h3 hv (handedIn_sim hs) ⟨x, l, I, .refl _, F.toks, hs, q⟩
  · cases h3
theorem WE.attr {e : PySem.Expr} {name : Str} {p : Pos} {Q : V → Led → Prop}
    (h : WE c Φ env ρ l e (fun y l' => ∃ a C fs x, y = .ref a ∧ (a, O.inst C fs) ∈ l' ∧ getF name fs = some x ∧ attrOk c.K C name = true ∧ Q x l'))
    (he : eval (.Attribute e name p) env = (do
      let o ← eval e env
      standAt p.atName
      let r ← holding [o] (getAttr o name true)
      letTemporaryGo e o r
      pure r) := by rfl) : WE c Φ env ρ l (.Attribute e name p) Q := by
  refine ⟨fun ok I s F => ?_⟩
  refine Attribute_any_ (wpull (h.run ok I s F) ?_) he
  rintro v s₁ ⟨y, l₁, I₁, sb, F₁, S₁, a, C, fs, x, rfl, hi, hx, ho, q⟩
  cases S₁
  exact wpull (attr_inst ok F₁ hi hx ho q) fun _ _ h => h.pull sb
theorem attr_mem {A : Around} {a : Addr} {k : Int} {expr : Bool} {I : Imm} {s : Shared} {Q : V → Led → Prop} (ok : Φ.Ok c.K) (F : FR Φ ρ l I s) (S : Sim I (.ref a) (.mem k)) (ho : attrOk c.K CM "_key" = true)
    (q : Q (.int k) l) : wpAny c.M A (getAttr (.ref a) "_key" expr) (Ret Φ ρ I Q) NoE s := by
  cases S with
  | @mem _ d n hh _ t t' ha hd =>
    have IA : W.InstAt s.heap a (instObj CM d) CM (some (dictOf [⟨hh, .str "_key" t', .int k t⟩] n)) := ⟨F.imm _ ha, rfl, rfl, F.imm _ hd⟩
    unfold attrOk at ho
    simp only [Bool.and_eq_true] at ho
    obtain ⟨⟨h1, h2⟩, h3⟩ := ho
    split at h3
    · rename_i attr hat
      obtain ⟨m, rs, W⟩ := id F
      exact get_own W.fr ok.kin IA h1 h2 hat h3 (show getL "_key" _ = _ by rfl) rfl ⟨.int k, l, I, .refl _, F.toks, .int k t, q⟩
    · cases h3
theorem WE.attrMem {e : PySem.Expr} {p : Pos} {Q : V → Led → Prop}
    (h : WE c Φ env ρ l e (fun y l' => ∃ k, y = .mem k ∧ attrOk c.K CM "_key" = true ∧ Q (.int k) l'))
    (he : eval (.Attribute e "_key" p) env = (do
      let o ← eval e env
      standAt p.atName
      let r ← holding [o] (getAttr o "_key" true)
      letTemporaryGo e o r
      pure r) := by rfl) : WE c Φ env ρ l (.Attribute e "_key" p) Q := by
  refine ⟨fun ok I s F => ?_⟩
  refine Attribute_any_ (wpull (h.run ok I s F) ?_) he
  rintro v s₁ ⟨y, l₁, I₁, sb, F₁, S₁, k, rfl, ho, q⟩
  cases S₁ with
  | mem ha hd => exact wpull (attr_mem ok F₁ (.mem ha hd) ho q) fun _ _ h => h.pull sb

/-! the methods of objects -/
theorem inst_shadow {I : Imm} {es : List DictEntry} {n : Nat} {fs : List (Str × V)} {name : Str} (D : DictIs I es fs) (h : getF name fs = none) : shadowIn (some (dictOf es n)) name = some false := by
  unfold shadowIn
  dsimp only
  rw [lookIn_dict, D.miss h]; rfl
theorem getMethod_inst {A : Around} {a C f : Addr} {fs : List (Str × V)} {name : Str} {pl : Sem Bool} {I : Imm} {s : Shared} {Q : Value × List Value → Shared → Prop} (ok : Φ.Ok c.K) (F : FR Φ ρ l I s) (hi : (a, O.inst C fs) ∈ l)
    (ho : methOk c.K C name f = true) (hx : getF name fs = none) (q : Q (.ref f, [.ref a]) s) : wpAny c.M A (getMethod (.ref a) name pl) Q NoE s := by
  obtain ⟨d, es, n, IA, D⟩ := F.inst hi
  unfold methOk at ho
  simp only [Bool.and_eq_true, beq_iff_eq] at ho
  obtain ⟨⟨⟨h1, h2⟩, h3⟩, _⟩ := ho
  exact method_fn (ok.kin.keeps F.keep) IA (plainGet_of h1).1 (plainGet_of h1).2 h2 h3 (inst_shadow D hx) q
theorem methOk_keep {K : Frag} {C f : Addr} {name : Str} (ho : methOk K C name f = true) : keepIn K (.ref f) = true := by
  unfold methOk at ho
  simp only [Bool.and_eq_true, beq_iff_eq] at ho
  exact ho.2

theorem evalArgs_any {M : Model} {A : Around} {E : Value → Shared → Prop} {s : Shared} {f : Value} {args : List (Bool × Sem Value)} {Q : Args → Shared → Prop} (hp : args.any (·.1) = false)
    (h : wpAny M A (spliced args) (fun vs s' => Q ⟨vs, []⟩ s') E s) : wpAny M A (evalArgs f true args []) Q E s := by
  have fin : wpAny M A (spliced args >>= fun vs => (pure (vs, none) : Sem (List Value × Option Value))) (fun r s' => r.2 = none ∧ Q ⟨r.1, []⟩ s') E s :=
    wpAny_bind (wpAny_mono h (fun vs s' h' => wpAny_pure ⟨rfl, h'⟩) fun _ _ x => x)
  match args, hp with
  | [], _ =>
    unfold evalArgs
    show wpAny M A (spliced [] >>= _) Q E s
    exact wpAny_bind (wpAny_mono h (fun vs s' h' => wpAny_holding (wpAny_bind (wpAny_pure (wpAny_bind (wpAny_pure (wpAny_pure h')))))) fun _ _ x => x)
  | (false, x) :: rest, _ => exact evalArgs_plain h
  | (true, x) :: rest, hp => cases hp
/-- the arguments, then the call -/
theorem callArgs {A : Around} {pos : Pos} {f : Value} {first : List Value} {fx : List V} {args : List PySem.Expr} {I : Imm} {s : Shared} {Q : V → Led → Prop} (ok : Φ.Ok c.K) (hA : A = Φ.A) (F : FR Φ ρ l I s) (S : Sims I first fx) (hk : keepIn c.K f = true)
    (h : WEs c Φ env ρ l args (fun xs l' => Spec c f (fx ++ xs) Φ.rm l' Q)) (hp : (starEach args env).any (·.1) = false) :
    wpAny c.M A (callWith pos f first (backTo pos (starEach args env)) []) (Ret Φ ρ I Q) NoE s := by
  subst hA
  have hp' : (backTo pos (starEach args env)).any (·.1) = false := by
    unfold backTo
    rw [List.any_map]
    exact hp
  refine callWith_of (P := c.K.In) (by rw [hp']; rfl) (fun h X => keeps_K (M := c.M) hk h X) (evalArgs_any hp' (wpull (h.run ok pos I s F) ?_))
  rintro vs s₁ ⟨xs, l₁, I₁, sb, F₁, S₁, q⟩
  refine ⟨ok.kin.keeps F₁.keep, ?_⟩
  refine wpAny_call (codeAny_mono (q Φ Φ.A ρ I₁ s₁ _ ok ok.frames ok.room F₁ ((S.mono sb).append S₁)) ?_)
  rintro r s₂ ⟨v, rfl, R⟩
  exact R.pull sb

/-- x.name(args) -/
theorem WE.meth {o : PySem.Expr} {name : Str} {apos pos : Pos} {args : List PySem.Expr} {pl : Sem Bool} {Q : V → Led → Prop}
    (h : WE c Φ env ρ l o (fun y l' => ∃ a C fs f, y = .ref a ∧ (a, O.inst C fs) ∈ l' ∧ methOk c.K C name f = true ∧ getF name fs = Option.none ∧
      WEs c Φ env ρ l' args (fun xs l'' => Spec c (.ref f) (.ref a :: xs) Φ.rm l'' Q)))
    (hp : (starEach args env).any (·.1) = false := by rfl)
    (he : eval (.Call (.Attribute o name apos) args [] pos) env = (do
      let ov ← eval o env
      standAt apos.atName
      let (f, first) ← holding [ov] (getMethod ov name pl)
      callWith pos f first (backTo pos (starEach args env)) []) := by rfl) : WE c Φ env ρ l (.Call (.Attribute o name apos) args [] pos) Q := by
  refine ⟨fun ok I s F => ?_⟩
  refine MethodCall_ (wpull (h.run ok I s F) ?_) he
  rintro v s₁ ⟨y, l₁, I₁, sb, F₁, S₁, a, C, fs, f, rfl, hi, ho, hx, q⟩
  cases S₁
  refine getMethod_inst ok F₁ hi ho hx ?_
  exact wpull (callArgs (fx := [.ref a]) ok rfl F₁ (.cons (.ref a) .nil) (methOk_keep ho) q hp) fun _ _ h => h.pull sb
/-- x.key() for a Member -/
theorem WE.methMem {o : PySem.Expr} {name : Str} {apos pos : Pos} {args : List PySem.Expr} {pl : Sem Bool} {Q : V → Led → Prop}
    (h : WE c Φ env ρ l o (fun y l' => ∃ k f, y = .mem k ∧ methOk c.K CM name f = true ∧ name ≠ "_key" ∧
      WEs c Φ env ρ l' args (fun xs l'' => Spec c (.ref f) (.mem k :: xs) Φ.rm l'' Q)))
    (hp : (starEach args env).any (·.1) = false := by rfl)
    (he : eval (.Call (.Attribute o name apos) args [] pos) env = (do
      let ov ← eval o env
      standAt apos.atName
      let (f, first) ← holding [ov] (getMethod ov name pl)
      callWith pos f first (backTo pos (starEach args env)) []) := by rfl) : WE c Φ env ρ l (.Call (.Attribute o name apos) args [] pos) Q := by
  refine ⟨fun ok I s F => ?_⟩
  refine MethodCall_ (wpull (h.run ok I s F) ?_) he
  rintro v s₁ ⟨y, l₁, I₁, sb, F₁, S₁, k, f, rfl, ho, hn, q⟩
  have S₂ := S₁
  cases S₁ with
  | @mem a d n hh _ t t' ha hd =>
    have IA : W.InstAt s₁.heap a (instObj CM d) CM (some (dictOf [⟨hh, .str "_key" t', .int k t⟩] n)) := ⟨F₁.imm _ ha, rfl, rfl, F₁.imm _ hd⟩
    have D : DictIs I₁ [⟨hh, .str "_key" t', .int k t⟩] [("_key", .int k)] := .cons (.int k t) .nil
    have ho' := ho
    unfold methOk at ho
    simp only [Bool.and_eq_true, beq_iff_eq] at ho
    obtain ⟨⟨⟨h1, h2⟩, h3⟩, h4⟩ := ho
    refine method_fn (ok.kin.keeps F₁.keep) IA (plainGet_of h1).1 (plainGet_of h1).2 h2 h3 (inst_shadow D (by unfold getF; rw [if_neg (Ne.symm hn)]; rfl)) ?_
    exact wpull (callArgs (fx := [.mem k]) ok rfl F₁ (.cons S₂ .nil) h4 q hp) fun _ _ h => h.pull sb
/-- f(args), f a name of the module's -/
theorem WE.callName {y : Str} {np pos : Pos} {a : Addr} {args : List PySem.Expr} {Q : V → Led → Prop} (e : nsIn c.K mainGlobals y = some (some (.ref a))) (hk : Φ.scope.names.lookup y = some .globalImplicit) (hf : keepIn c.K (.ref a) = true)
    (h : WEs c Φ Φ.env ρ l args (fun xs l' => Spec c (.ref a) xs Φ.rm l' Q)) (hp : (starEach args Φ.env).any (·.1) = false := by rfl) (hd : (y == ("__debug__" : Str)) = false := by decide) : WE c Φ Φ.env ρ l (.Call (.Name y np) args [] pos) Q := by
  refine ⟨fun ok I s F => ?_⟩
  refine Call_ (wpull ((WE.glob (Q := fun x l' => x = .ref a ∧ l' = l) e hk ⟨rfl, rfl⟩ hd).run ok I s F) ?_)
  rintro v s₁ ⟨x, l₁, I₁, sb, F₁, S₁, rfl, rfl⟩
  cases S₁
  exact wpull (callArgs (fx := []) ok rfl F₁ .nil hf h hp) fun _ _ h => h.pull sb
end
/-! ## FXRules2 -/
section
variable {Φ : Fx} {ρ : Loc} {l l' : Led} {I : Imm} {s : Shared}

theorem flatten_mid {r₁ : List (List (Addr × Obj))} {r : List (Addr × Obj)} {r₂ : List (List (Addr × Obj))} {I : Imm} : (r₁ ++ r :: r₂).flatten ++ I = r₁.flatten ++ (r ++ (r₂.flatten ++ I)) := by
  rw [List.flatten_append, List.flatten_cons, List.append_assoc, List.append_assoc]

theorem FR.openList {a : Addr} {xs ys : List V} (F : FR Φ ρ l I s) (U : LUpd a (.list xs) (.list ys) l l') :
    ∃ m vs n pre post, Fr Φ.h₀ Φ.L s.heap m ∧ News Φ.h₀ Φ.L s.heap (pre ++ (a, listOf (List.toArray vs) n) :: post) ∧ ((pre ++ (a, listOf (List.toArray vs) n) :: post).map (·.1)).Nodup ∧ Sims I vs xs ∧
      (∀ b zs, (b, O.list zs) ∈ l → ∃ vz nz, (b, listOf (List.toArray vz) nz) ∈ pre ++ (a, listOf (List.toArray vs) n) :: post ∧ Sims I vz zs) ∧
      ∀ us n' h' tk, Sims I us ys → Fr Φ.h₀ Φ.L h' m → News Φ.h₀ Φ.L h' (pre ++ (a, listOf (List.toArray us) n') :: post) → FR Φ ρ l' I { s with heap := h', toks := tk } := by
  obtain ⟨p1, p2, rfl, rfl⟩ := U.split
  obtain ⟨m, rs, W⟩ := F
  have mem : ∀ b zs, (b, O.list zs) ∈ p1 ++ (a, O.list xs) :: p2 → ∃ vz nz, (b, listOf (List.toArray vz) nz) ∈ rs.flatten ++ I ∧ Sims I vz zs := fun b zs hb => by
    obtain ⟨q₁, q₂, vz, nz, e, S⟩ := W.list hb
    exact ⟨vz, nz, by rw [e]; simp, S⟩
  obtain ⟨r₁, r, r₂, rfl, R1, R, R2⟩ := W.raws.split
  cases R with
  | @list _ vs n _ S =>
    have N := W.news
    have D := W.nodup
    rw [flatten_mid] at N D mem
    refine ⟨m, vs, n, r₁.flatten, r₂.flatten ++ I, W.fr, N, D, S, mem, fun us n' h' tk S' F' N' => ⟨m, _, ⟨F', W.loc, W.lnd, R1.join (.list (n := n') S') R2, ?_, ?_, W.gens, W.os⟩⟩⟩
    · rw [flatten_mid]; exact N'
    · rw [flatten_mid]
      simp only [List.map_append, List.map_cons, List.singleton_append] at D ⊢
      exact D

theorem FR.openDict {a C : Addr} {fs fs' : List (Str × V)} (F : FR Φ ρ l I s) (U : LUpd a (.inst C fs) (.inst C fs') l l') :
    ∃ m d es n pre post, Fr Φ.h₀ Φ.L s.heap m ∧ News Φ.h₀ Φ.L s.heap (pre ++ (d, dictOf es n) :: post) ∧ ((pre ++ (d, dictOf es n) :: post).map (·.1)).Nodup ∧ DictIs I es fs ∧
      W.InstAt s.heap a (instObj C d) C (some (dictOf es n)) ∧
      ∀ us n' h' tk, DictIs I us fs' → Fr Φ.h₀ Φ.L h' m → News Φ.h₀ Φ.L h' (pre ++ (d, dictOf us n') :: post) → FR Φ ρ l' I { s with heap := h', toks := tk } := by
  obtain ⟨p1, p2, rfl, rfl⟩ := U.split
  obtain ⟨m, rs, W⟩ := F
  obtain ⟨r₁, r, r₂, rfl, R1, R, R2⟩ := W.raws.split
  cases R with
  | @inst _ _ d es n _ S =>
    have N := W.news
    have D := W.nodup
    rw [flatten_mid] at N D
    have e : ∀ (us : List DictEntry) (k : Nat), r₁.flatten ++ ([(a, instObj C d), (d, dictOf us k)] ++ (r₂.flatten ++ I)) = (r₁.flatten ++ [(a, instObj C d)]) ++ (d, dictOf us k) :: (r₂.flatten ++ I) := fun us k => by simp
    rw [e] at N D
    refine ⟨m, d, es, n, r₁.flatten ++ [(a, instObj C d)], r₂.flatten ++ I, W.fr, N, D, S, ⟨(W.news (a, instObj C d) (by simp)).1, rfl, rfl, (W.news (d, dictOf es n) (by simp)).1⟩, fun us n' h' tk S' F' N' => ⟨m, _, ⟨F', W.loc, W.lnd, R1.join (.inst (d := d) (n := n') S') R2, ?_, ?_, W.gens, W.os⟩⟩⟩
    · rw [flatten_mid, e]; exact N'
    · rw [flatten_mid, e]
      simp only [List.map_append, List.map_cons, List.map_nil] at D ⊢
      exact D

theorem nodup_cons_fresh {D : Addr} {o : Obj} {news : List (Addr × Obj)} (h : (news.map (·.1)).Nodup) (hl : ∀ q ∈ news, q.1 < D) : (((D, o) :: news).map (·.1)).Nodup := by
  rw [List.map_cons, List.nodup_cons]
  refine ⟨fun hm => ?_, h⟩
  obtain ⟨q, hq, e⟩ := List.mem_map.mp hm
  exact absurd e (Nat.ne_of_lt (hl q hq))
theorem FR.allocList {xs : List V} (F : FR Φ ρ l I s) :
    ∃ m news, Fr Φ.h₀ Φ.L s.heap m ∧ News Φ.h₀ Φ.L s.heap news ∧
      ∀ D vs n h' tk, Sims I vs xs → Fr Φ.h₀ Φ.L h' m → News Φ.h₀ Φ.L h' ((D, listOf (List.toArray vs) n) :: news) → (∀ q ∈ news, q.1 < D) → FR Φ ρ ((D, .list xs) :: l) I { s with heap := h', toks := tk } := by
  obtain ⟨m, rs, W⟩ := F
  exact ⟨m, _, W.fr, W.news, fun D vs n h' tk S F' N' hl => ⟨m, _, ⟨F', W.loc, W.lnd, .cons (.list (n := n) S) W.raws, N', nodup_cons_fresh W.nodup hl, W.gens, W.os⟩⟩⟩
theorem FR.allocTup {xs : List V} (F : FR Φ ρ l I s) :
    ∃ m news, Fr Φ.h₀ Φ.L s.heap m ∧ News Φ.h₀ Φ.L s.heap news ∧
      ∀ D vs h' tk, Sims I vs xs → Fr Φ.h₀ Φ.L h' m → News Φ.h₀ Φ.L h' ((D, tupOf vs) :: news) → (∀ q ∈ news, q.1 < D) →
        ∃ I', Sub I I' ∧ FR Φ ρ l I' { s with heap := h', toks := tk } ∧ Sim I' (.ref D) (.tup xs) := by
  obtain ⟨m, rs, W⟩ := F
  refine ⟨m, _, W.fr, W.news, fun D vs h' tk S F' N' hl => ⟨(D, tupOf vs) :: I, .cons _, ⟨m, rs, ⟨F', fun y x e => ?_, W.lnd, W.raws.mono (.cons _), FX.News.ofPerm N' ?_, ?_, W.gens, W.os⟩⟩, .tup (.head _) (S.mono (.cons _))⟩⟩
  · obtain ⟨k, h⟩ := W.loc y x e
    exact ⟨k, fun hx => let ⟨v, hv, hs⟩ := h hx; ⟨v, hv, hs.mono (.cons _)⟩⟩
  · intro x hx
    rcases List.mem_append.mp hx with h | h
    · exact .tail _ (List.mem_append_left _ h)
    · rcases List.mem_cons.mp h with rfl | h
      · exact .head _
      · exact .tail _ (List.mem_append_right _ h)
  · exact nodup_perm (nodup_cons_fresh (o := tupOf vs) W.nodup hl) List.perm_middle.symm
/-- the words of the frame, and of the ledger -/
theorem FR.fr {I : Imm} {s : Shared} (F : FR Φ ρ l I s) : ∃ m rs, Fr Φ.h₀ Φ.L s.heap m ∧ News Φ.h₀ Φ.L s.heap (rs.flatten ++ I) ∧ Raws I l rs := let ⟨m, rs, W⟩ := F; ⟨m, rs, W.fr, W.news, W.raws⟩
theorem FR.change {h' : Heap} {tk : Nat} (F : FR Φ ρ l I s) (k : ∀ m news, Fr Φ.h₀ Φ.L s.heap m → News Φ.h₀ Φ.L s.heap news → Fr Φ.h₀ Φ.L h' m ∧ News Φ.h₀ Φ.L h' news) : FR Φ ρ l I { s with heap := h', toks := tk } := by
  obtain ⟨m, rs, W⟩ := F
  obtain ⟨F', N'⟩ := k m _ W.fr W.news
  exact ⟨m, rs, ⟨F', W.loc, W.lnd, W.raws, N', W.nodup, W.gens, W.os⟩⟩
end

/-! ### operators on values -/
def cmpV : CmpOp → V → V → Option V
  | .Eq, .int a, .int b => some (.bool (a == b))
  | .NotEq, .int a, .int b => some (.bool (a != b))
  | .Lt, .int a, .int b => some (.bool (decide (a < b)))
  | .LtE, .int a, .int b => some (.bool (decide (a ≤ b)))
  | .Gt, .int a, .int b => some (.bool (decide (a > b)))
  | .GtE, .int a, .int b => some (.bool (decide (a ≥ b)))
  | .NotEq, .bool a, .bool b => some (.bool (a != b))
  | .Eq, .bool a, .bool b => some (.bool (a == b))
  | .Eq, .str x, .str y => some (.bool (x == y))
  | .Is, .none, .none => some (.bool true)
  | .Is, .ref _, .none => some (.bool false)
  | .Is, .int _, .none => some (.bool false)
  | .Is, .bool _, .none => some (.bool false)
  | .Is, .tup _, .none => some (.bool false)
  | .Is, .mem _, .none => some (.bool false)
  | .IsNot, .none, .none => some (.bool false)
  | .IsNot, .ref _, .none => some (.bool true)
  | .IsNot, .int _, .none => some (.bool true)
  | .IsNot, .bool _, .none => some (.bool true)
  | .IsNot, .tup _, .none => some (.bool true)
  | .IsNot, .mem _, .none => some (.bool true)
  | .Is, .ref a, .ref b => if a = b then some (.bool true) else Option.none
  | .IsNot, .ref a, .ref b => if a = b then some (.bool false) else Option.none
  | _, _, _ => none
theorem cmp_sim {c : Cx} {A : Around} {op : CmpOp} {a b : Value} {x y z : V} {I : Imm} {s : Shared} {Q : Value → Shared → Prop} (ha : Sim I a x) (hb : Sim I b y) (e : cmpV op x y = some z) (h : ∀ v, Sim I v z → Q v s) :
    wpAny c.M A (compareOp op a b) Q NoE s := by
  unfold cmpV at e
  split at e
  case h_22 =>
    split at e
    · rename_i q; subst q; cases e; cases ha; cases hb; exact wpAny_is_ref_self (h _ (.bool _))
    · cases e
  case h_23 =>
    split at e
    · rename_i q; subst q; cases e; cases ha; cases hb; exact wpAny_isNot_ref_self (h _ (.bool _))
    · cases e
  all_goals (cases e <;> cases ha <;> cases hb)
  · exact P.eq_int (h _ (.bool _))
  · exact P.ne_int (h _ (.bool _))
  · exact P.lt_int (h _ (.bool _))
  · exact P.le_int (h _ (.bool _))
  · exact P.gt_int (h _ (.bool _))
  · exact P.ge_int (h _ (.bool _))
  · exact ne_bool (h _ (.bool _))
  · exact eq_bool (h _ (.bool _))
  · exact eq_str (h _ (.bool _))
  iterate 6 exact wpAny_is_plain rfl (h _ (.bool _))
  iterate 6 exact wpAny_isNot_plain rfl (h _ (.bool _))

def truthV : V → Option Bool
  | .none => some false
  | .bool b => some b
  | .int i => some (i != 0)
  | _ => none
theorem truth_sim {c : Cx} {A : Around} {a : Value} {x : V} {b : Bool} {I : Imm} {s : Shared} {Q : Bool → Shared → Prop} (ha : Sim I a x) (e : truthV x = some b) (h : Q b s) : wpAny c.M A (truthy a) Q NoE s := by
  cases ha <;> cases e
  · exact truthy_none h
  · exact wpAny_truthy_bool h
  · exact P.truthy_int h

/-- the operators on ints; the last argument: what must hold -/
def binV : Operator → V → V → Option (V × Prop)
  | .Add, .int a, .int b => some (.int (a + b), True)
  | .Sub, .int a, .int b => some (.int (a - b), True)
  | .Mult, .int a, .int b => some (.int (a * b), -(2 ^ 64) < b ∧ b < 2 ^ 64)
  | .FloorDiv, .int a, .int b => some (.int (a.fdiv b), b ≠ 0 ∧ b.natAbs < 1073741824)
  | .Mod, .int a, .int b => some (.int (a.fmod b), b ≠ 0)
  | _, _, _ => none
theorem bin_sim {c : Cx} {A : Around} {op : Operator} {a b : Value} {x y z : V} {p : Prop} {I : Imm} {s : Shared} {Q : Value → Shared → Prop} (ha : Sim I a x) (hb : Sim I b y) (e : binV op x y = some (z, p)) (hp : p)
    (h : ∀ v tk, Sim I v z → Q v { s with toks := tk }) : wpAny c.M A (binaryOp op a b) Q NoE s := by
  unfold binV at e
  split at e <;> cases e <;> cases ha <;> cases hb
  · exact P.add_int (h _ _ (.int _ _))
  · exact P.sub_int (h _ _ (.int _ _))
  · exact P.mul_int (h _ _ (.int _ _)) (.of_right (intBits_le_64 hp.1 hp.2))
  · exact floordiv_int hp.1 (h _ _ (.int _ _)) (.inl (PyProof.noPylong_small hp.2))
  · exact mod_int' hp (h _ _ (.int _ _))

theorem ibin_sim {c : Cx} {A : Around} {op : Operator} {a b : Value} {x y z : V} {p : Prop} {I : Imm} {s : Shared} {Q : Value → Shared → Prop} (ha : Sim I a x) (hb : Sim I b y) (e : binV op x y = some (z, p)) (hp : p)
    (h : ∀ v tk, Sim I v z → Q v { s with toks := tk }) : wpAny c.M A (inplaceOp op a b) Q NoE s := by
  unfold binV at e
  split at e <;> cases e <;> cases ha <;> cases hb
  · exact P.iadd_int (h _ _ (.int _ _))
  · exact P.isub_int (h _ _ (.int _ _))
  · exact P.imul_int (h _ _ (.int _ _)) (.of_right (intBits_le_64 hp.1 hp.2))
  · exact ifloordiv_int hp.1 (h _ _ (.int _ _)) (.inl (PyProof.noPylong_small hp.2))
  · exact imod_int hp (h _ _ (.int _ _))


section
variable {c : Cx} {Φ : Fx} {env : Env} {ρ : Loc} {l : Led}

/-- two operands, then t -/
theorem two {e1 e2 : PySem.Expr} {Q1 : V → Led → Prop} {P : Value → Value → Shared → Prop} (ok : Φ.Ok c.K) {I : Imm} {s : Shared} (F : FR Φ ρ l I s)
    (h : WE c Φ env ρ l e1 Q1) (k : ∀ x l₁, Q1 x l₁ → WE c Φ env ρ l₁ e2 (fun y l₂ => ∀ I₂ s₂ v u, Sub I I₂ → FR Φ ρ l₂ I₂ s₂ → Sim I₂ v x → Sim I₂ u y → P v u s₂)) :
    wpAny c.M Φ.A (eval e1 env) (fun v s₁ => wpAny c.M Φ.A (eval e2 env) (fun u s₂ => P v u s₂) NoE s₁) NoE s := by
  refine wpull (h.run ok I s F) ?_
  rintro v s₁ ⟨x, l₁, I₁, sb, F₁, S₁, q₁⟩
  refine wpull ((k x l₁ q₁).run ok I₁ s₁ F₁) ?_
  rintro u s₂ ⟨y, l₂, I₂, sb₂, F₂, S₂, q₂⟩
  exact q₂ I₂ s₂ v u (sb.trans sb₂) F₂ (S₁.mono sb₂) S₂

theorem WE.cmp {e1 e2 : PySem.Expr} {op : CmpOp} {p : Pos} {Q : V → Led → Prop}
    (h : WE c Φ env ρ l e1 (fun x l₁ => WE c Φ env ρ l₁ e2 (fun y l₂ => ∃ z, cmpV op x y = some z ∧ Q z l₂))) (hm : behindInMarks op e2 = false := by rfl) : WE c Φ env ρ l (.Compare e1 [op] [e2] p) Q := by
  refine ⟨fun ok I s F => ?_⟩
  refine wpAny_Compare1 (two ok F h fun x l₁ q => q.mono ?_) hm
  rintro y l₂ ⟨z, e, q⟩ I₂ s₂ v u sb F₂ S1 S2
  exact cmp_sim S1 S2 e fun r Sr => ⟨z, l₂, I₂, sb, F₂, Sr, q⟩
theorem WB.cmp {e1 e2 : PySem.Expr} {op : CmpOp} {p : Pos} {Q : Bool → Led → Prop}
    (h : WE c Φ env ρ l e1 (fun x l₁ => WE c Φ env ρ l₁ e2 (fun y l₂ => ∃ b, cmpV op x y = some (.bool b) ∧ Q b l₂))) (hm : behindInMarks op e2 = false := by rfl) : WB c Φ env ρ l (.Compare e1 [op] [e2] p) Q := by
  refine ⟨fun ok I s F => ?_⟩
  refine wpAny_isTrue_Compare1 (two ok F h fun x l₁ q => q.mono ?_) hm
  rintro y l₂ ⟨b, e, q⟩ I₂ s₂ v u sb F₂ S1 S2
  refine cmp_sim S1 S2 e fun r Sr => ?_
  exact truth_sim Sr rfl ⟨l₂, I₂, sb, F₂, q⟩
theorem WE.bin {e1 e2 : PySem.Expr} {op : Operator} {p : Pos} {Q : V → Led → Prop}
    (h : WE c Φ env ρ l e1 (fun x l₁ => WE c Φ env ρ l₁ e2 (fun y l₂ => ∃ z P, binV op x y = some (z, P) ∧ P ∧ Q z l₂))) : WE c Φ env ρ l (.BinOp e1 op e2 p) Q := by
  refine ⟨fun ok I s F => ?_⟩
  refine wpAny_BinOp (two ok F h fun x l₁ q => q.mono ?_)
  rintro y l₂ ⟨z, P, e, hp, q⟩ I₂ s₂ v u sb F₂ S1 S2
  exact bin_sim S1 S2 e hp fun r tk Sr => ⟨z, l₂, I₂, sb, F₂.toks, Sr, q⟩
theorem WE.neg {e : PySem.Expr} {p : Pos} {Q : V → Led → Prop} (h : WE c Φ env ρ l e (fun x l₁ => ∃ i, x = .int i ∧ Q (.int (-i)) l₁)) : WE c Φ env ρ l (.UnaryOp .USub e p) Q := by
  refine ⟨fun ok I s F => ?_⟩
  refine wpAny_UnaryOp (wpull (h.run ok I s F) ?_)
  rintro v s₁ ⟨x, l₁, I₁, sb, F₁, S₁, i, rfl, q⟩
  cases S₁
  exact P.neg_int ⟨_, l₁, I₁, sb, F₁.toks, .int _ _, q⟩
/-- truth -/
theorem WB.val {e : PySem.Expr} {Q : Bool → Led → Prop} (h : WE c Φ env ρ l e (fun x l₁ => ∃ b, truthV x = some b ∧ Q b l₁))
    (he : isTrue e env (eval e env) = (do
      let v ← eval e env
      standAt e.pos
      holding [v] (truthy v)) := by rfl) : WB c Φ env ρ l e Q := by
  refine ⟨fun ok I s F => ?_⟩
  rw [he]
  refine wpAny_bind (wpull (h.run ok I s F) ?_)
  rintro v s₁ ⟨x, l₁, I₁, sb, F₁, S₁, b, e, q⟩
  exact wpAny_bind (wpAny_standAt (wpAny_holding (truth_sim S₁ e ⟨l₁, I₁, sb, F₁, q⟩)))
theorem WB.not {e : PySem.Expr} {p : Pos} {Q : Bool → Led → Prop} (h : WB c Φ env ρ l e (fun b l₁ => Q (!b) l₁)) : WB c Φ env ρ l (.UnaryOp .Not e p) Q :=
  ⟨fun ok I s F => wpAny_isTrue_Not (h.run ok I s F)⟩
theorem WB.and {e1 e2 : PySem.Expr} {p : Pos} {Q : Bool → Led → Prop} (h : WB c Φ env ρ l e1 (fun b l₁ => if b then WB c Φ env ρ l₁ e2 Q else Q false l₁)) : WB c Φ env ρ l (.BoolOp .And [e1, e2] p) Q := by
  refine ⟨fun ok I s F => ?_⟩
  show wpAny c.M Φ.A (do
    match BoolOp.And, ← isTrue e1 env (eval e1 env) with
    | .And, false => pure false
    | .Or, true => pure true
    | _, _ => allTrue .And [e2] env) _ _ s
  refine wpAny_bind (wpull (h.run ok I s F) ?_)
  rintro b s₁ ⟨l₁, I₁, sb, F₁, q⟩
  cases b with
  | false => exact wpAny_pure ⟨l₁, I₁, sb, F₁, q⟩
  | true =>
    show wpAny c.M Φ.A (do
      match BoolOp.And, ← isTrue e2 env (eval e2 env) with
      | .And, false => pure false
      | .Or, true => pure true
      | _, _ => allTrue .And [] env) _ _ s₁
    refine wpAny_bind (wpull (q.run ok I₁ s₁ F₁) ?_)
    intro b s₂ R
    cases b <;> exact wpAny_pure (R.pull sb)
theorem WB.or {e1 e2 : PySem.Expr} {p : Pos} {Q : Bool → Led → Prop} (h : WB c Φ env ρ l e1 (fun b l₁ => if b then Q true l₁ else WB c Φ env ρ l₁ e2 Q)) : WB c Φ env ρ l (.BoolOp .Or [e1, e2] p) Q := by
  refine ⟨fun ok I s F => ?_⟩
  show wpAny c.M Φ.A (do
    match BoolOp.Or, ← isTrue e1 env (eval e1 env) with
    | .And, false => pure false
    | .Or, true => pure true
    | _, _ => allTrue .Or [e2] env) _ _ s
  refine wpAny_bind (wpull (h.run ok I s F) ?_)
  rintro b s₁ ⟨l₁, I₁, sb, F₁, q⟩
  cases b with
  | true => exact wpAny_pure ⟨l₁, I₁, sb, F₁, q⟩
  | false =>
    show wpAny c.M Φ.A (do
      match BoolOp.Or, ← isTrue e2 env (eval e2 env) with
      | .And, false => pure false
      | .Or, true => pure true
      | _, _ => allTrue .Or [] env) _ _ s₁
    refine wpAny_bind (wpull (q.run ok I₁ s₁ F₁) ?_)
    intro b s₂ R
    cases b <;> exact wpAny_pure (R.pull sb)
theorem WE.not {e : PySem.Expr} {p : Pos} {Q : V → Led → Prop} (h : WE c Φ env ρ l e (fun x l₁ => ∃ b, truthV x = some b ∧ Q (.bool (!b)) l₁)) : WE c Φ env ρ l (.UnaryOp .Not e p) Q := by
  refine ⟨fun ok I s F => ?_⟩
  refine wpAny_UnaryOp (wpull (h.run ok I s F) ?_)
  rintro v s₁ ⟨x, l₁, I₁, sb, F₁, S₁, b, e, q⟩
  exact not_of (truth_sim S₁ e ⟨_, l₁, I₁, sb, F₁, .bool _, q⟩)
theorem WE.ite {t e1 e2 : PySem.Expr} {p : Pos} {Q : V → Led → Prop} (h : WB c Φ env ρ l t (fun b l₁ => if b then WE c Φ env ρ l₁ e1 Q else WE c Φ env ρ l₁ e2 Q)) : WE c Φ env ρ l (.IfExp t e1 e2 p) Q := by
  refine ⟨fun ok I s F => ?_⟩
  refine wpAny_IfExp (wpull (h.run ok I s F) ?_)
  rintro b s₁ ⟨l₁, I₁, sb, F₁, q⟩
  cases b <;> exact wpull (q.run ok I₁ s₁ F₁) fun _ _ R => R.pull sb
end
/-! ## FXRules3 -/
section
variable {c : Cx} {Φ : Fx} {env : Env} {ρ : Loc} {l : Led}

theorem sz {n : Nat} (h : n ≤ 10000000) : n ≤ sizeLine := by rw [sizeLine_eq]; omega
theorem sz1 {n : Nat} (h : n ≤ 10000000) : n ≤ sizeLine + 1 := by rw [sizeLine_eq]; omega

/-- a name of the built-ins -/
theorem bname {y : Str} {p : Pos} {v : Value} {I : Imm} {s : Shared} {Q : Value → Shared → Prop} (ok : Φ.Ok c.K) (F : FR Φ ρ l I s) (e : nsIn c.K mainGlobals y = some Option.none) (hv : bootBuiltins y = some v) (hk : Φ.scope.names.lookup y = some .globalImplicit) (q : Q v s)
    (hn : y ≠ "__name__" := by decide) (hd : (y == ("__debug__" : Str)) = false := by decide) : wpAny c.M Φ.A (eval (.Name y p) Φ.env) Q NoE s := by
  obtain ⟨pp, lo, mg, mb, T⟩ := ok.top
  obtain ⟨m, rs, W⟩ := id F
  exact nameX_B W.fr ok.kin T e hv hn q ok.kind hk hd
theorem WE.len {np p : Pos} {e : PySem.Expr} {Q : V → Led → Prop} (hg : nsIn c.K mainGlobals "len" = some Option.none) (hk : Φ.scope.names.lookup ("len" : Str) = some .globalImplicit)
    (h : WE c Φ Φ.env ρ l e (fun x l₁ => ∃ a xs, x = .ref a ∧ (a, O.list xs) ∈ l₁ ∧ xs.length ≤ 1000000 ∧ Q (.int xs.length) l₁))
    (he : starEach [e] Φ.env = [(false, eval e Φ.env)] := by rfl) : WE c Φ Φ.env ρ l (.Call (.Name "len" np) [e] [] p) Q := by
  refine ⟨fun ok I s F => ?_⟩
  refine Call_ (bname (v := .builtin "len") ok F hg (by decide +kernel) hk (PyProof.Rows.callWith_builtin1 (spliced_more (wpull (h.run ok I s F) ?_) he) he))
  rintro v s₁ ⟨x, l₁, I₁, sb, F₁, S₁, a, xs, rfl, hm, hz, q⟩
  cases S₁
  refine spliced_none ?_
  obtain ⟨vs, L, S⟩ := F₁.list hm
  have hl := S.length
  refine len_list L (by rw [List.size_toArray]; omega) ⟨.int xs.length, l₁, I₁, sb, F₁.toks, ?_, q⟩
  rw [List.size_toArray, hl]
  exact .int _ _

/-! items -/
theorem WE.item {e i : PySem.Expr} {p : Pos} {Q : V → Led → Prop}
    (h : WE c Φ env ρ l e (fun x l₁ => WE c Φ env ρ l₁ i (fun y l₂ => ∃ a xs k z, x = .ref a ∧ (a, O.list xs) ∈ l₂ ∧ y = .int k ∧ 0 ≤ k ∧ k < 1000000 ∧ xs[k.toNat]? = some z ∧ Q z l₂)))
    (hs : ∀ a k t, subscripted i false (.ref a) (.int k t) = operate [.ref a, .int k t] (getItem (.ref a) (.int k t)) := by intro _ _ _; rfl) : WE c Φ env ρ l (.Subscript e i p) Q := by
  refine ⟨fun ok I s F => ?_⟩
  refine Subscript_ (two ok F h fun x l₁ q => q.mono ?_)
  rintro y l₂ ⟨a, xs, k, z, rfl, hm, rfl, h0, h1, hx, q⟩ I₂ s₂ v u sb F₂ S1 S2
  cases S1
  cases S2
  obtain ⟨vs, L, S⟩ := F₂.list hm
  obtain ⟨w, hw, Sw⟩ := S.get hx
  exact item_litK L h0 (by omega) hw ⟨z, l₂, I₂, sb, F₂, Sw, q⟩ (hs _ _ _)
theorem WE.itemTup {e i : PySem.Expr} {p : Pos} {Q : V → Led → Prop}
    (h : WE c Φ env ρ l e (fun x l₁ => WE c Φ env ρ l₁ i (fun y l₂ => ∃ xs k z, x = .tup xs ∧ y = .int k ∧ 0 ≤ k ∧ k < 1000000 ∧ xs[k.toNat]? = some z ∧ Q z l₂)))
    (hs : ∀ a k t, subscripted i false (.ref a) (.int k t) = operate [.ref a, .int k t] (getItem (.ref a) (.int k t)) := by intro _ _ _; rfl) : WE c Φ env ρ l (.Subscript e i p) Q := by
  refine ⟨fun ok I s F => ?_⟩
  refine Subscript_ (two ok F h fun x l₁ q => q.mono ?_)
  rintro y l₂ ⟨xs, k, z, rfl, rfl, h0, h1, hx, q⟩ I₂ s₂ v u sb F₂ S1 S2
  cases S2
  cases S1 with
  | @tup a vs _ hm S =>
    obtain ⟨w, hw, Sw⟩ := S.get hx
    have hlt : k.toNat < vs.length := by
      obtain ⟨hh, _⟩ := List.getElem?_eq_some_iff.mp hw
      exact hh
    have hT : IsTup s₂.heap a (List.toArray vs) := ⟨_, F₂.imm _ hm, rfl, 0, rfl⟩
    exact item_tupleT hT (by omega) (by omega) (j := k.toNat) (by unfold seqIndex?; simp; omega) (by simpa using hw) ⟨z, l₂, I₂, sb, F₂, Sw, q⟩ (hs _ _ _)

/-! displays -/
theorem WE.list {es : List PySem.Expr} {p : Pos} {Q : V → Led → Prop} (h : WEs c Φ env ρ l es (fun xs l₁ => xs.length ≤ 1000000 ∧ ∀ a, Q (.ref a) ((a, .list xs) :: l₁))) : WE c Φ env ρ l (.List es p) Q := by
  refine ⟨fun ok I s F => ?_⟩
  refine List_ (wpull (h.run ok p I s F) ?_)
  rintro vs s₁ ⟨xs, l₁, I₁, sb, F₁, S₁, hz, q⟩
  obtain ⟨m, news, f, n, k⟩ := F₁.allocList (xs := xs)
  exact newList_K f n (fun D h' f' n' hl => ⟨.ref D, _, I₁, sb, k D vs 0 h' s₁.toks S₁ f' n' hl, .ref D, q D⟩) (by rw [S₁.length]; exact sz (by omega))
theorem WE.tuple {es : List PySem.Expr} {n : Nat} {p : Pos} {Q : V → Led → Prop} (h : WEs c Φ env ρ l es (fun xs l₁ => xs.length ≤ 1000000 ∧ Q (.tup xs) l₁)) : WE c Φ env ρ l (.Tuple es n p) Q := by
  refine ⟨fun ok I s F => ?_⟩
  refine Tuple_ (wpull (h.run ok p I s F) ?_)
  rintro vs s₁ ⟨xs, l₁, I₁, sb, F₁, S₁, hz, q⟩
  obtain ⟨m, news, f, n, k⟩ := F₁.allocTup (xs := xs)
  refine newTuple_N f n (fun h' f' n' => ?_) (by rw [S₁.length]; exact sz (by omega))
  obtain ⟨I', sb', F', S'⟩ := k _ vs h' s₁.toks S₁ f' n' (fun q hq => Heap.lt_size (n q hq).1)
  exact ⟨.tup xs, l₁, I', sb.trans sb', F', S', q⟩

/-! slices -/
def partV : V → Option Int → Prop
  | .none, x => x = Option.none
  | .int i, x => x = some i
  | _, _ => False
def pickV (xs : List V) (lo hi : Option Int) : List V := (xs.drop (kms_lo lo xs.length)).take (kms_hi hi xs.length - kms_lo lo xs.length)
theorem Sims.pick {I : Imm} {vs : List Value} {xs : List V} (h : Sims I vs xs) (lo hi : Option Int) : Sims I (kms_pick vs lo hi) (pickV xs lo hi) := by
  unfold kms_pick pickV
  rw [h.length]
  exact (h.drop _).take _
def WO (c : Cx) (Φ : Fx) (env : Env) (ρ : Loc) (l : Led) : Option PySem.Expr → (V → Led → Prop) → Prop
  | some e, Q => WE c Φ env ρ l e Q
  | Option.none, Q => Q .none l
theorem wo_run {e : Option PySem.Expr} {Q : V → Led → Prop} (ok : Φ.Ok c.K) {I : Imm} {s : Shared} (F : FR Φ ρ l I s) (h : WO c Φ env ρ l e Q) : wpAny c.M Φ.A (evalPart e env) (Ret Φ ρ I Q) NoE s := by
  cases e with
  | none => exact evalPart_none_step ⟨.none, l, I, .refl _, F, .none, h⟩
  | some e => exact evalPart_some_step (h.run ok I s F)
theorem WE.slice {e : PySem.Expr} {lo hi : Option PySem.Expr} {sp p : Pos} {Q : V → Led → Prop}
    (h : WE c Φ env ρ l e (fun x l₁ => WO c Φ env ρ l₁ lo (fun y l₂ => WO c Φ env ρ l₂ hi (fun z l₃ => ∃ a xs lo' hi', x = .ref a ∧ (a, O.list xs) ∈ l₃ ∧ xs.length ≤ 1000000 ∧ partV y lo' ∧ partV z hi' ∧
      ∀ b, Q (.ref b) ((b, .list (pickV xs lo' hi')) :: l₃))))) : WE c Φ env ρ l (.Subscript e (.Slice lo hi Option.none sp) p) Q := by
  refine ⟨fun ok I s F => ?_⟩
  refine Subscript_ (wpull (h.run ok I s F) ?_)
  rintro v s₁ ⟨x, l₁, I₁, sb₁, F₁, S₁, h₁⟩
  refine wpAny_Slice (wpull (wo_run ok F₁ h₁) ?_)
  rintro v1 s₂ ⟨y, l₂, I₂, sb₂, F₂, S₂, h₂⟩
  refine wpull (wo_run ok F₂ h₂) ?_
  rintro v2 s₃ ⟨z, l₃, I₃, sb₃, F₃, S₃, a, xs, lo', hi', rfl, hm, hz, py, pz, q⟩
  refine evalPart_none_step ?_
  have S₁' := S₁.mono (sb₂.trans sb₃)
  cases S₁'
  have part : ∀ {I : Imm} {v : Value} {x : V} {o : Option Int}, Sim I v x → partV x o → IsPart v o := by
    intro I v x o S h
    cases S <;> first | exact h.elim | (cases h; constructor)
  obtain ⟨vs, L, S⟩ := F₃.list hm
  obtain ⟨m, news, f, n, k⟩ := F₃.allocList (xs := pickV xs lo' hi')
  refine tail_any (Heap.IsList.typeIs (s := { s₃ with heap := s₃.heap.push { cls := .type "slice", data := .fields #[v1, v2, .none] } }) (L.push _)) list_getitem_lookup
    (wpAny_getItem_list_slice (L.push _) (Heap.IsSliceOf.new ..) (part (S₂.mono sb₃) py) (part S₃ pz) .none (by simp) ?_ (by rw [List.size_toArray, S.length]; exact sz (by omega))) (ops := [.ref s₃.heap.objs.size, .ref a]) rfl
  have N1 := News.push (f.push { cls := .type "slice", data := .fields #[v1, v2, .none] }) (n.grown fun _ _ e => Heap.get?_push_of_some _ e) { cls := .type "list", data := .seq (slicePick vs.toArray lo' hi' Option.none) }
  rw [kms_pick_eq] at N1 ⊢
  rw [List.toList_toArray] at N1 ⊢
  refine ⟨.ref _, _, I₃, (sb₁.trans sb₂).trans sb₃, k _ _ 0 _ s₃.toks (S.pick lo' hi') ((f.push _).push _) N1 ?_, .ref _, q _⟩
  intro p hp
  have := Heap.lt_size (n p hp).1
  show p.1 < (s₃.heap.push _).objs.size
  rw [Heap.size_push]
  exact Nat.lt_succ_of_lt this
/-- list(e) -/
theorem WE.listOf {np p : Pos} {e : PySem.Expr} {Q : V → Led → Prop} (hg : nsIn c.K mainGlobals "list" = some Option.none) (hk : Φ.scope.names.lookup ("list" : Str) = some .globalImplicit)
    (h : WE c Φ Φ.env ρ l e (fun x l₁ => ∃ a xs, x = .ref a ∧ (a, O.list xs) ∈ l₁ ∧ xs.length ≤ 1000000 ∧ ∀ b, Q (.ref b) ((b, .list xs) :: l₁)))
    (he : starEach [e] Φ.env = [(false, eval e Φ.env)] := by rfl) : WE c Φ Φ.env ρ l (.Call (.Name "list" np) [e] [] p) Q := by
  refine ⟨fun ok I s F => ?_⟩
  refine Call_ (bname (v := .type "list") ok F hg (by decide +kernel) hk (PySem.Pv.callWith_type1 (spliced_more (wpull (h.run ok I s F) ?_) he) he))
  rintro v s₁ ⟨x, l₁, I₁, sb, F₁, S₁, a, xs, rfl, hm, hz, q⟩
  cases S₁
  refine spliced_none ?_
  obtain ⟨vs, L, S⟩ := F₁.list hm
  obtain ⟨m, news, f, n, k⟩ := F₁.allocList (xs := xs)
  exact list_copyK f n L (fun D cc h' f' n' hl => ⟨.ref D, _, I₁, sb, k D vs cc h' s₁.toks S f' n' hl, .ref D, q D⟩) (by rw [List.size_toArray, S.length]; exact sz (by omega))

/-! the methods of lists -/
theorem upd_at {a : Addr} {o o' : Obj} {pre post : List (Addr × Obj)} (nd : ((pre ++ (a, o) :: post).map (·.1)).Nodup) : Upd a o o' (pre ++ (a, o) :: post) (pre ++ (a, o') :: post) := upd_mid nd
theorem fits {k : Int} (h0 : 0 ≤ k) (h : k ≤ 1000000) : Builtin.List.listFitsIndex k = true := by
  unfold Builtin.List.listFitsIndex
  simp only [Bool.and_eq_true, decide_eq_true_eq]
  omega

section
variable {o : PySem.Expr} {apos pos : Pos} {args : List PySem.Expr} {pl : Sem Bool} {Q : V → Led → Prop}
/-- a method of a list's -/
theorem listMeth {name : Str} {bid : String} {Q : V → Led → Prop} {P : Value → Imm → V → Led → Prop} (slot : Slot "list" name bid) (hty : typeOf (.builtin bid) = pure (.type "method_descriptor"))
    (h : WE c Φ env ρ l o (fun x l₁ => ∃ a xs, x = .ref a ∧ (a, O.list xs) ∈ l₁ ∧ WEs c Φ env ρ l₁ args (fun ys l₂ => ∀ I s vs, FR Φ ρ l₂ I s → Sims I vs ys → wpAny c.M Φ.A (call (.builtin bid) (.ref a :: vs)) (Ret Φ ρ I Q) NoE s)))
    (hp : (starEach args env).any (·.1) = false)
    (he : eval (.Call (.Attribute o name apos) args [] pos) env = (do
      let ov ← eval o env
      standAt apos.atName
      let (f, first) ← holding [ov] (getMethod ov name pl)
      callWith pos f first (backTo pos (starEach args env)) [])) : WE c Φ env ρ l (.Call (.Attribute o name apos) args [] pos) Q := by
  refine ⟨fun ok I s F => ?_⟩
  refine MethodCall_ (wpull (h.run ok I s F) ?_) he
  rintro v s₁ ⟨x, l₁, I₁, sb, F₁, S₁, a, xs, rfl, hm, h₁⟩
  cases S₁
  obtain ⟨m, rs, W⟩ := id F₁
  obtain ⟨r₁, r₂, vs, n, rfl, S⟩ := W.list hm
  refine kl_method (D := a) (its := List.toArray vs) (n := n) W.news (by simp) slot hty ?_
  have hp' : (backTo pos (starEach args env)).any (·.1) = false := by
    unfold backTo
    rw [List.any_map]
    exact hp
  refine callWith_builtin hp' (evalArgs_any hp' (wpull (h₁.run ok pos I₁ s₁ F₁) ?_))
  rintro us s₂ ⟨ys, l₂, I₂, sb₂, F₂, S₂, q⟩
  exact wpull (q I₂ s₂ us F₂ S₂) fun _ _ R => R.pull (sb.trans sb₂)

theorem WE.append (h : WE c Φ env ρ l o (fun x l₁ => ∃ a xs, x = .ref a ∧ (a, O.list xs) ∈ l₁ ∧ WEs c Φ env ρ l₁ args (fun ys l₂ => ∃ y xs' l₃, ys = [y] ∧ LUpd a (.list xs') (.list (xs' ++ [y])) l₂ l₃ ∧ xs'.length ≤ 1000000 ∧ Q .none l₃)))
    (hp : (starEach args env).any (·.1) = false := by rfl)
    (he : eval (.Call (.Attribute o "append" apos) args [] pos) env = (do
      let ov ← eval o env
      standAt apos.atName
      let (f, first) ← holding [ov] (getMethod ov "append" pl)
      callWith pos f first (backTo pos (starEach args env)) []) := by rfl) : WE c Φ env ρ l (.Call (.Attribute o "append" apos) args [] pos) Q := by
  refine listMeth (P := fun _ _ _ _ => True) PySem.F.slot_list_append PySem.F.type_list_append (h.mono ?_) hp he
  rintro x l₁ ⟨a, xs, rfl, hm, q⟩
  refine ⟨a, xs, rfl, hm, ⟨fun ok pos I s F => wpull (q.run ok pos I s F) ?_⟩⟩
  rintro us s₁ ⟨ys, l₂, I₁, sb, F₁, S₁, y, xs', l₃, rfl, U, hz, q⟩
  refine ⟨[y], l₂, I₁, sb, F₁, S₁, fun I₂ s₂ vs F₂ S₂ => ?_⟩
  cases S₂ with
  | cons Sy Sn =>
    cases Sn
    obtain ⟨m, ws, n, pre, post, f, N, nd, Sw, mem, k⟩ := F₂.openList U
    refine append_K f N (upd_at nd) (fun h' f' N' => ⟨.none, l₃, I₂, .refl _, k (ws ++ [_]) (n + 1) h' s₂.toks (Sw.append (.cons Sy .nil)) f' ?_, .none, q⟩) (by rw [List.size_toArray, Sw.length]; exact sz (by omega))
    simpa using N'
theorem WE.insert (h : WE c Φ env ρ l o (fun x l₁ => ∃ a xs, x = .ref a ∧ (a, O.list xs) ∈ l₁ ∧ WEs c Φ env ρ l₁ args (fun ys l₂ => ∃ i y xs' l₃, ys = [.int i, y] ∧ 0 ≤ i ∧ i ≤ xs'.length ∧ LUpd a (.list xs') (.list (xs'.take i.toNat ++ y :: xs'.drop i.toNat)) l₂ l₃ ∧ xs'.length ≤ 1000000 ∧ Q .none l₃)))
    (hp : (starEach args env).any (·.1) = false := by rfl)
    (he : eval (.Call (.Attribute o "insert" apos) args [] pos) env = (do
      let ov ← eval o env
      standAt apos.atName
      let (f, first) ← holding [ov] (getMethod ov "insert" pl)
      callWith pos f first (backTo pos (starEach args env)) []) := by rfl) : WE c Φ env ρ l (.Call (.Attribute o "insert" apos) args [] pos) Q := by
  refine listMeth (P := fun _ _ _ _ => True) PySem.F.slot_list_insert PySem.F.type_list_insert (h.mono ?_) hp he
  rintro x l₁ ⟨a, xs, rfl, hm, q⟩
  refine ⟨a, xs, rfl, hm, ⟨fun ok pos I s F => wpull (q.run ok pos I s F) ?_⟩⟩
  rintro us s₁ ⟨ys, l₂, I₁, sb, F₁, S₁, i, y, xs', l₃, rfl, h0, h1, U, hz, q⟩
  refine ⟨_, l₂, I₁, sb, F₁, S₁, fun I₂ s₂ vs F₂ S₂ => ?_⟩
  cases S₂ with
  | cons Si Sn =>
    cases Si
    cases Sn with
    | cons Sy Sn =>
      cases Sn
      obtain ⟨m, ws, n, pre, post, f, N, nd, Sw, mem, k⟩ := F₂.openList U
      have hlen := Sw.length
      refine kl_insert f N (fits h0 (by omega)) rfl (upd_at nd) (by rw [List.toList_toArray, hlen]; exact sz (by omega)) (fun h' f' N' => ⟨.none, l₃, I₂, .refl _, k _ (n + 1) h' s₂.toks ?_ f' N', .none, q⟩)
      unfold kl_ins
      rw [List.toList_toArray, if_neg (by omega), show min i.toNat ws.length = i.toNat from by omega]
      exact (Sw.take _).append (.cons Sy (Sw.drop _))
theorem kl_last_app (p : List Value) (y : Value) : kl_last (p ++ [y]) = some (p, y) := by
  induction p with
  | nil => rfl
  | cons x p ih => show (match kl_last (p ++ [y]) with | some (p, y) => some (x :: p, y) | Option.none => some ([], x)) = _; rw [ih]
theorem kl_cut_app (p q : List Value) (y : Value) : kl_cut (p ++ y :: q) p.length = some (p, y, q) := by
  induction p with
  | nil => rfl
  | cons x p ih => show (match kl_cut (p ++ y :: q) p.length with | some (p, y, q) => some (x :: p, y, q) | Option.none => Option.none) = _; rw [ih]
theorem Sims.splitLast {I : Imm} {vs : List Value} {xs : List V} {y : V} (h : Sims I vs (xs ++ [y])) : ∃ us w, vs = us ++ [w] ∧ Sims I us xs ∧ Sim I w y := by
  have hr := h.reverse
  rw [List.reverse_append] at hr
  generalize hv : vs.reverse = r at hr
  cases hr with
  | @cons w _ ws _ a b =>
    refine ⟨ws.reverse, w, ?_, ?_, a⟩
    · have := congrArg List.reverse hv; simpa using this
    · have := b.reverse; simpa using this
theorem Sims.appendE {I : Imm} : ∀ {xs ys : List V} {vs : List Value}, Sims I vs (xs ++ ys) → ∃ us ws, vs = us ++ ws ∧ Sims I us xs ∧ Sims I ws ys
  | [], _, _, h => ⟨[], _, rfl, .nil, h⟩
  | _ :: _, _, _, .cons a b => let ⟨us, ws, e, x, y⟩ := b.appendE; ⟨_ :: us, ws, by rw [e]; rfl, .cons a x, y⟩
/-- xs.pop() -/
theorem WE.pop (h : WE c Φ env ρ l o (fun x l₁ => ∃ a xs y l₂, x = .ref a ∧ LUpd a (.list (xs ++ [y])) (.list xs) l₁ l₂ ∧ xs.length ≤ 1000000 ∧ Q y l₂))
    (he : eval (.Call (.Attribute o "pop" apos) [] [] pos) env = (do
      let ov ← eval o env
      standAt apos.atName
      let (f, first) ← holding [ov] (getMethod ov "pop" pl)
      callWith pos f first (backTo pos (starEach [] env)) []) := by rfl) : WE c Φ env ρ l (.Call (.Attribute o "pop" apos) [] [] pos) Q := by
  refine listMeth (P := fun _ _ _ _ => True) PySem.F.slot_list_pop PySem.F.type_list_pop (h.mono ?_) rfl he
  rintro x l₁ ⟨a, xs, y, l₂, rfl, U, hz, q⟩
  refine ⟨a, _, rfl, U.mem, .nil fun I₂ s₂ vs F₂ S₂ => ?_⟩
  cases S₂
  obtain ⟨m, ws, n, pre, post, f, N, nd, Sw, mem, k⟩ := F₂.openList U
  obtain ⟨us, w, rfl, Su, Sv⟩ := Sw.splitLast
  exact kl_pop f N (by rw [List.toList_toArray]; exact kl_last_app us w) (upd_at nd) (by rw [List.toList_toArray, List.length_append, Su.length, List.length_singleton]; exact sz (by omega)) (fun h' f' N' => ⟨y, l₂, I₂, .refl _, k us (n + 1) h' s₂.toks Su f' N', Sv, q⟩)
/-- xs.pop(i) -/
theorem WE.popAt (h : WE c Φ env ρ l o (fun x l₁ => ∃ a xs, x = .ref a ∧ (a, O.list xs) ∈ l₁ ∧ WEs c Φ env ρ l₁ args (fun ys l₂ => ∃ i xs y zs l₃, ys = [.int i] ∧ i = (xs.length : Int) ∧ LUpd a (.list (xs ++ y :: zs)) (.list (xs ++ zs)) l₂ l₃ ∧ (xs ++ y :: zs).length ≤ 1000000 ∧ Q y l₃)))
    (hp : (starEach args env).any (·.1) = false := by rfl)
    (he : eval (.Call (.Attribute o "pop" apos) args [] pos) env = (do
      let ov ← eval o env
      standAt apos.atName
      let (f, first) ← holding [ov] (getMethod ov "pop" pl)
      callWith pos f first (backTo pos (starEach args env)) []) := by rfl) : WE c Φ env ρ l (.Call (.Attribute o "pop" apos) args [] pos) Q := by
  refine listMeth (P := fun _ _ _ _ => True) PySem.F.slot_list_pop PySem.F.type_list_pop (h.mono ?_) hp he
  rintro x l₁ ⟨a, xs, rfl, hm, q⟩
  refine ⟨a, xs, rfl, hm, ⟨fun ok pos I s F => wpull (q.run ok pos I s F) ?_⟩⟩
  rintro us s₁ ⟨ys, l₂, I₁, sb, F₁, S₁, i, xs, y, zs, l₃, rfl, rfl, U, hz, q⟩
  refine ⟨_, l₂, I₁, sb, F₁, S₁, fun I₂ s₂ vs F₂ S₂ => ?_⟩
  cases S₂ with
  | cons Si Sn =>
    cases Si
    cases Sn
    obtain ⟨m, ws, n, pre, post, f, N, nd, Sw, mem, k⟩ := F₂.openList U
    obtain ⟨us, w, rfl, Su, Sv⟩ := Sw.appendE
    cases Sv with
    | @cons w _ vz _ Sy Sz =>
      have e1 := Su.length
      have e2 := Sz.length
      rw [List.length_append, List.length_cons] at hz
      refine kl_popAt f N (fits (by omega) (by omega)) (k := us.length) ?_ (by rw [List.toList_toArray]; exact kl_cut_app us vz w) (upd_at nd) (by rw [List.toList_toArray, List.length_append, List.length_cons]; exact sz (by omega))
        (fun h' f' N' => ⟨y, l₃, I₂, .refl _, k (us ++ vz) (n + 1) h' s₂.toks (Su.append Sz) f' N', Sy, q⟩)
      rw [List.size_toArray, List.length_append, List.length_cons]
      unfold seqIndex?
      simp
      omega
/-- xs.extend(ys) -/
theorem WE.extend (h : WE c Φ env ρ l o (fun x l₁ => ∃ a xs, x = .ref a ∧ (a, O.list xs) ∈ l₁ ∧ WEs c Φ env ρ l₁ args (fun ys l₂ => ∃ b xs' zs l₃, ys = [.ref b] ∧ b ≠ a ∧ (b, O.list zs) ∈ l₂ ∧ zs ≠ [] ∧ LUpd a (.list xs') (.list (xs' ++ zs)) l₂ l₃ ∧ xs'.length + zs.length ≤ 1000000 ∧ Q .none l₃)))
    (hp : (starEach args env).any (·.1) = false := by rfl)
    (he : eval (.Call (.Attribute o "extend" apos) args [] pos) env = (do
      let ov ← eval o env
      standAt apos.atName
      let (f, first) ← holding [ov] (getMethod ov "extend" pl)
      callWith pos f first (backTo pos (starEach args env)) []) := by rfl) : WE c Φ env ρ l (.Call (.Attribute o "extend" apos) args [] pos) Q := by
  refine listMeth (P := fun _ _ _ _ => True) PySem.F.slot_list_extend PySem.F.type_list_extend (h.mono ?_) hp he
  rintro x l₁ ⟨a, xs, rfl, hm, q⟩
  refine ⟨a, xs, rfl, hm, ⟨fun ok pos I s F => wpull (q.run ok pos I s F) ?_⟩⟩
  rintro us s₁ ⟨ys, l₂, I₁, sb, F₁, S₁, b, xs', zs, l₃, rfl, hne, hb, hz0, U, hz, q⟩
  refine ⟨_, l₂, I₁, sb, F₁, S₁, fun I₂ s₂ vs F₂ S₂ => ?_⟩
  cases S₂ with
  | cons Si Sn =>
    cases Si
    cases Sn
    obtain ⟨m, ws, n, pre, post, f, N, nd, Sw, mem, k⟩ := F₂.openList U
    obtain ⟨vz, nz, hmz, Sz⟩ := mem b zs hb
    have e1 := Sw.length
    have e2 := Sz.length
    have hz' : zs.length ≠ 0 := fun h => hz0 (List.length_eq_zero_iff.mp h)
    refine kl_extend f N hmz rfl (by rw [List.toList_toArray, e2]; exact hz') (upd_at nd) ?_ (by rw [List.toList_toArray, e1]; exact sz (by omega)) (by rw [List.size_toArray, List.size_toArray]; exact sz1 (by omega))
      (fun h' f' N' => ⟨.none, l₃, I₂, .refl _, k (ws ++ vz) (n + 1) h' s₂.toks (Sw.append Sz) f' (by simpa using N'), .none, q⟩)
    simp only [List.size_toArray, Builtin.List.listTooLong]
    have : ws.length + vz.length ≤ sizeLine := sz (by omega)
    simp
    omega
end
end
/-! ## FXRules4 -/
/-- a name's value changes -/
inductive PUpd (y : Str) (x : V) : Loc → Loc → Prop
  | here {u r} : PUpd y x ((y, u) :: r) ((y, x) :: r)
  | there {p r r'} : PUpd y x r r' → PUpd y x (p :: r) (p :: r')
theorem PUpd.split {y : Str} {x : V} : ∀ {ρ ρ' : Loc}, PUpd y x ρ ρ' → ∃ p1 u p2, ρ = p1 ++ (y, u) :: p2 ∧ ρ' = p1 ++ (y, x) :: p2
  | _, _, .here => ⟨[], _, _, rfl, rfl⟩
  | _, _, .there (p := p) h => let ⟨p1, u, p2, a, b⟩ := h.split; ⟨p :: p1, u, p2, by rw [a]; rfl, by rw [b]; rfl⟩

section
variable {c : Cx} {Φ : Fx} {ρ : Loc} {l : Led} {rest : List Stmt} {Q : Fl → Loc → Led → Prop}

/-- a name is bound -/
theorem storeF {y : Str} {v : Value} {x : V} {ρ' : Loc} {I : Imm} {s : Shared} {P : Unit → Shared → Prop} {A : Around} (ok : Φ.Ok c.K) (F : FR Φ ρ l I s) (S : Sim I v x) (hy : PUpd y x ρ ρ') (h : ∀ h' tk, FR Φ ρ' l I { s with heap := h', toks := tk } → P () { s with heap := h', toks := tk }) :
    wpAny c.M A (storeName Φ.env y v) P NoE s := by
  obtain ⟨m, rs, W⟩ := F
  obtain ⟨p1, u, p2, rfl, rfl⟩ := hy.split
  have hk := (W.loc y u (List.mem_append_right _ (.head _))).1
  have nd := W.lnd
  rw [List.map_append, List.map_cons] at nd
  obtain ⟨n1, n2, n3⟩ := List.nodup_append.mp nd
  rw [List.nodup_cons] at n2
  refine storeX_L W.fr W.news (fun h' F' N' => h h' _ ⟨_, rs, ⟨F', fun z w e => ?_, ?_, W.raws, N', W.nodup, W.gens, W.os⟩⟩) ok.kind hk
  · have old : z ≠ y → (z, w) ∈ p1 ++ (y, u) :: p2 → Φ.env.kindOf z = some .local ∧ (w ≠ .unb → ∃ v', (if z = y then some v else m z) = some v' ∧ Sim I v' w) := fun hz e => by
      obtain ⟨k, hk⟩ := W.loc z w e
      exact ⟨k, fun hu => let ⟨w, hw, Sw⟩ := hk hu; ⟨w, by rw [if_neg hz]; exact hw, Sw⟩⟩
    rcases List.mem_append.mp e with e | e
    · exact old (fun q => n3 z (List.mem_map_of_mem (f := (·.1)) e) y (.head _) q) (List.mem_append_left _ e)
    · rcases List.mem_cons.mp e with e | e
      · cases e
        exact ⟨hk, fun _ => ⟨v, if_pos rfl, S⟩⟩
      · exact old (fun q => n2.1 (q ▸ List.mem_map_of_mem (f := (·.1)) e)) (List.mem_append_right _ (.tail _ e))
  · rw [List.map_append, List.map_cons]; exact nd

/-- a statement that goes on to the next -/
theorem seqNext {st : Stmt} (h : Φ.Ok c.K → ∀ I s, FR Φ ρ l I s → wpAny c.M Φ.A (exec st Φ.env) (fun f s' => f = .next ∧ ∃ ρ' l' I', Sub I I' ∧ FR Φ ρ' l' I' s' ∧ WSs c Φ ρ' l' rest Q) NoE s) : WSs c Φ ρ l (st :: rest) Q := by
  refine ⟨fun ok I s F => ?_⟩
  refine wpAny_execs_cons (wpull (h ok I s F) ?_)
  rintro f s' ⟨rfl, ρ', l', I', sb, F', q⟩
  exact wpull (q.run ok I' s' F') fun _ _ R => R.pull sb

theorem WSs.nil (q : Q .next ρ l) : WSs c Φ ρ l [] Q := ⟨fun _ I s F => wpAny_execs_nil ⟨.next, ρ, l, I, .refl _, F, .next, q⟩⟩
theorem WSs.pass {p : Pos} (q : WSs c Φ ρ l rest Q) : WSs c Φ ρ l (.Pass p :: rest) Q :=
  seqNext fun _ I s F => wpAny_Pass ⟨rfl, ρ, l, I, .refl _, F, q⟩
theorem WSs.brk {p : Pos} (q : Q .brk ρ l) : WSs c Φ ρ l (.Break p :: rest) Q :=
  ⟨fun _ I s F => wpAny_execs_cons (wpAny_Break ⟨.brk, ρ, l, I, .refl _, F, .brk, q⟩)⟩
theorem WSs.cont {p : Pos} (q : Q .cont ρ l) : WSs c Φ ρ l (.Continue p :: rest) Q :=
  ⟨fun _ I s F => wpAny_execs_cons (wpAny_Continue ⟨.cont, ρ, l, I, .refl _, F, .cont, q⟩)⟩
theorem WSs.ret {e : PySem.Expr} {p : Pos} (h : WE c Φ Φ.env ρ l e (fun x l₁ => Q (.ret x) ρ l₁)) : WSs c Φ ρ l (.Return (some e) p :: rest) Q := by
  refine ⟨fun ok I s F => ?_⟩
  refine wpAny_execs_cons (wpAny_Return_some (wpull (h.run ok I s F) ?_))
  rintro v s' ⟨x, l', I', sb, F', S, q⟩
  exact ⟨.ret x, ρ, l', I', sb, F', .ret S, q⟩
theorem WSs.retNone {p : Pos} (q : Q (.ret .none) ρ l) : WSs c Φ ρ l (.Return Option.none p :: rest) Q :=
  ⟨fun _ I s F => wpAny_execs_cons (wpAny_Return_none ⟨.ret .none, ρ, l, I, .refl _, F, .ret .none, q⟩)⟩
theorem WSs.assign {y : Str} {yp p : Pos} {e : PySem.Expr} (h : WE c Φ Φ.env ρ l e (fun x l₁ => ∃ ρ', PUpd y x ρ ρ' ∧ WSs c Φ ρ' l₁ rest Q))
    (hs : swapsWith e (some (.Name y yp)) p.line Φ.env = pure false := by rfl) : WSs c Φ ρ l (.Assign [.Name y yp] e p :: rest) Q := by
  refine seqNext fun ok I s F => ?_
  refine wpAny_Assign_Name (wpull (h.run ok I s F) ?_) hs
  rintro v s' ⟨x, l', I', sb, F', S, ρ', hy, q⟩
  exact storeF ok F' S hy fun h' tk F₂ => ⟨rfl, _, l', I', sb, F₂, q⟩
theorem WSs.expr {e : PySem.Expr} {p : Pos} (h : WE c Φ Φ.env ρ l e (fun _ l₁ => WSs c Φ ρ l₁ rest Q))
    (hi : interactive Φ.env = false := by first | rfl | (simp [interactive, *]; done)) (hs : swapsWith e Option.none p.line Φ.env = pure false := by rfl) : WSs c Φ ρ l (.Expr e p :: rest) Q := by
  refine seqNext fun ok I s F => ?_
  refine wpAny_Expr_any (wpull (h.run ok I s F) ?_) hi hs
  rintro v s' ⟨x, l', I', sb, F', S, q⟩
  exact ⟨rfl, ρ, l', I', sb, F', q⟩
theorem WSs.assert {e : PySem.Expr} {msg : Option PySem.Expr} {p : Pos} (h : WB c Φ Φ.env ρ l e (fun b l₁ => b = true ∧ WSs c Φ ρ l₁ rest Q)) : WSs c Φ ρ l (.Assert e msg p :: rest) Q := by
  refine seqNext fun ok I s F => ?_
  refine wpAny_Assert_holds (wpull (h.run ok I s F) ?_)
  rintro b s' ⟨l', I', sb, F', rfl, q⟩
  exact ⟨rfl, rfl, ρ, l', I', sb, F', q⟩

/-- what follows a suite -/
@[reducible] def Seq (c : Cx) (Φ : Fx) (rest : List Stmt) (Q : Fl → Loc → Led → Prop) (f : Fl) (ρ : Loc) (l : Led) : Prop := match f with
  | .next => WSs c Φ ρ l rest Q
  | .brk => Q .brk ρ l
  | .cont => Q .cont ρ l
  | .ret x => Q (.ret x) ρ l
theorem seq_run {t : Sem Flow} {A : Around} {I : Imm} {s : Shared} (ok : Φ.Ok c.K) (hA : A = Φ.A) (h : wpAny c.M A t (RetF Φ I (Seq c Φ rest Q)) NoE s) :
    wpAny c.M A t (fun f s' => match f with | .next => wpAny c.M A (execs rest Φ.env) (RetF Φ I Q) NoE s' | f => RetF Φ I Q f s') NoE s := by
  subst hA
  refine wpull h ?_
  rintro f s' ⟨y, ρ', l', I', sb, F', S, q⟩
  cases S with
  | next => exact wpull (q.run ok I' s' F') fun _ _ R => R.pull sb
  | brk => exact ⟨.brk, ρ', l', I', sb, F', .brk, q⟩
  | cont => exact ⟨.cont, ρ', l', I', sb, F', .cont, q⟩
  | ret h => exact ⟨.ret _, ρ', l', I', sb, F', .ret h, q⟩
theorem WSs.ite {t : PySem.Expr} {b1 b2 : List Stmt} {p : Pos} (h : WB c Φ Φ.env ρ l t (fun b l₁ => if b then WSs c Φ ρ l₁ b1 (Seq c Φ rest Q) else WSs c Φ ρ l₁ b2 (Seq c Φ rest Q))) : WSs c Φ ρ l (.If t b1 b2 p :: rest) Q := by
  refine ⟨fun ok I s F => ?_⟩
  refine wpAny_execs_cons (seq_run ok rfl (wpAny_If (wpull (h.run ok I s F) ?_)))
  rintro b s' ⟨l', I', sb, F', q⟩
  cases b <;> exact wpull (q.run ok I' s' F') fun _ _ R => R.pull sb

/-- both ways meet -/
@[reducible] def SeqJ (P : Loc → Led → Prop) (Q : Fl → Loc → Led → Prop) (f : Fl) (ρ : Loc) (l : Led) : Prop := match f with
  | .next => P ρ l
  | .brk => Q .brk ρ l
  | .cont => Q .cont ρ l
  | .ret x => Q (.ret x) ρ l
theorem WSs.iteJ {t : PySem.Expr} {b1 b2 : List Stmt} {p : Pos} (P : Loc → Led → Prop) (h : WB c Φ Φ.env ρ l t (fun b l₁ => if b then WSs c Φ ρ l₁ b1 (SeqJ P Q) else WSs c Φ ρ l₁ b2 (SeqJ P Q)))
    (k : ∀ ρ' l', P ρ' l' → WSs c Φ ρ' l' rest Q) : WSs c Φ ρ l (.If t b1 b2 p :: rest) Q := by
  refine WSs.ite ⟨fun ok I s F => wpull (h.run ok I s F) ?_⟩
  have key : ∀ y r l', SeqJ P Q y r l' → Seq c Φ rest Q y r l' := fun y r l' hq => by
    cases y with
    | next => exact k r l' hq
    | brk => exact hq
    | cont => exact hq
    | ret x => exact hq
  rintro b s' ⟨l', J, a, F', q⟩
  refine ⟨l', J, a, F', ?_⟩
  cases b <;> exact q.mono key

/-! attributes -/
theorem set_len {fs : List (Str × V)} {name : Str} {x : V} (h : fs.length ≤ 100) : (setF name x fs).length ≤ 101 := by
  have : ∀ fs : List (Str × V), (setF name x fs).length ≤ fs.length + 1 := by
    intro fs
    induction fs with
    | nil => exact Nat.le_refl _
    | cons p r ih =>
      obtain ⟨k, u⟩ := p
      unfold setF
      split
      · exact Nat.le_succ _
      · rw [List.length_cons, List.length_cons]; omega
  have := this fs
  omega
theorem storeA {A : Around} {a C : Addr} {fs : List (Str × V)} {name : Str} {v : Value} {x : V} {l' : Led} {I : Imm} {s : Shared} {P : Unit → Shared → Prop} (ok : Φ.Ok c.K) (F : FR Φ ρ l I s) (S : Sim I v x) (ho : storeOk c.K C name = true) (hl : fs.length ≤ 100)
    (U : LUpd a (.inst C fs) (.inst C (setF name x fs)) l l') (h : ∀ h' tk, FR Φ ρ l' I { s with heap := h', toks := tk } → P () { s with heap := h', toks := tk }) : wpAny c.M A (setAttr (.ref a) name v) P NoE s := by
  obtain ⟨m, d, es, n, pre, post, f, N, nd, D, IA, k⟩ := F.openDict U
  unfold storeOk at ho
  simp only [Bool.and_eq_true, beq_iff_eq] at ho
  obtain ⟨⟨⟨h1, h2⟩, h3⟩, h4⟩ := ho
  have D' := D.put (hsh := PyData.keyHash c.w.params name) (t := s.toks + 1) (name := name) S
  refine set_dict f ok.kin N IA rfl h1 h2 h3 h4 D.getSome rfl (upd_mid nd) (by rw [D'.length]; have := set_len (name := name) (x := x) hl; omega) fun h' f' N' => ?_
  exact h h' _ (k _ _ h' _ D' f' N')
theorem WSs.setAttr {o e : PySem.Expr} {name : Str} {ap p : Pos}
    (h : WE c Φ Φ.env ρ l e (fun x l₁ => WE c Φ Φ.env ρ l₁ o (fun y l₂ => ∃ a C fs l₃, y = .ref a ∧ LUpd a (.inst C fs) (.inst C (setF name x fs)) l₂ l₃ ∧ storeOk c.K C name = true ∧ fs.length ≤ 100 ∧ WSs c Φ ρ l₃ rest Q)))
    (hs : swapsWith e (some (.Attribute o name ap)) p.line Φ.env = pure false := by rfl) : WSs c Φ ρ l (.Assign [.Attribute o name ap] e p :: rest) Q := by
  refine seqNext fun ok I s F => ?_
  refine plainObj_wpAny_Assign_Attribute (two ok F h fun x l₁ q => q.mono ?_) hs
  rintro y l₂ ⟨a, C, fs, l₃, rfl, U, ho, hl, q⟩ I₂ s₂ v u sb F₂ S1 S2
  cases S2
  exact storeA ok F₂ S1 ho hl U fun h' tk F₃ => ⟨rfl, ρ, l₃, I₂, sb, F₃, q⟩
theorem WSs.augAttr {o e : PySem.Expr} {op : Operator} {name : Str} {ap p : Pos}
    (h : WE c Φ Φ.env ρ l o (fun y l₁ => ∃ a C fs x, y = .ref a ∧ (a, O.inst C fs) ∈ l₁ ∧ getF name fs = some x ∧ attrOk c.K C name = true ∧ storeOk c.K C name = true ∧
      WE c Φ Φ.env ρ l₁ e (fun z l₂ => ∃ r P C' fs' l₃, binV op x z = some (r, P) ∧ P ∧ LUpd a (.inst C' fs') (.inst C' (setF name r fs')) l₂ l₃ ∧ C' = C ∧ fs'.length ≤ 100 ∧ WSs c Φ ρ l₃ rest Q))) :
    WSs c Φ ρ l (.AugAssign (.Attribute o name ap) op e p :: rest) Q := by
  refine seqNext fun ok I s F => ?_
  refine wpAny_AugAssign_AttributeAny (wpull (h.run ok I s F) ?_)
  rintro v s₁ ⟨y, l₁, I₁, sb, F₁, S₁, a, C, fs, x, rfl, hi, hx, ho, hst, h₁⟩
  cases S₁
  refine wpull (attr_inst (Q := fun z l' => z = x ∧ l' = l₁) ok F₁ hi hx ho ⟨rfl, rfl⟩) ?_
  rintro v s₂ ⟨z, l₂, I₂, sb₂, F₂, S₂, rfl, rfl⟩
  refine wpull (h₁.run ok I₂ s₂ F₂) ?_
  rintro u s₃ ⟨z', l₃, I₃, sb₃, F₃, S₃, r, P, C', fs', l₄, e, hp, U, rfl, hl, q⟩
  refine ibin_sim (S₂.mono sb₃) S₃ e hp fun w tk Sw => ?_
  exact storeA ok F₃.toks Sw hst hl U fun h' tk F₄ => ⟨rfl, ρ, l₄, I₃, (sb.trans sb₂).trans sb₃, F₄, q⟩

/-! items -/
theorem WSs.setItem {o i e : PySem.Expr} {ip p : Pos}
    (h : WE c Φ Φ.env ρ l e (fun x l₁ => WE c Φ Φ.env ρ l₁ o (fun y l₂ => WE c Φ Φ.env ρ l₂ i (fun z l₃ => ∃ a xs k l₄, y = .ref a ∧ z = .int k ∧ 0 ≤ k ∧ k < xs.length ∧ xs.length ≤ 1000000 ∧ LUpd a (.list xs) (.list (xs.set k.toNat x)) l₃ l₄ ∧ WSs c Φ ρ l₄ rest Q))))
    (hs : swapsWith e (some (.Subscript o i ip)) p.line Φ.env = pure false := by rfl) : WSs c Φ ρ l (.Assign [.Subscript o i ip] e p :: rest) Q := by
  refine seqNext fun ok I s F => ?_
  refine wpAny_Assign_Subscript (wpull (h.run ok I s F) ?_) hs
  rintro v s₁ ⟨x, l₁, I₁, sb, F₁, S₁, h₁⟩
  refine two ok F₁ h₁ fun y l₂ q => q.mono ?_
  rintro z l₃ ⟨a, xs, k, l₄, rfl, rfl, h0, h1, hz, U, q⟩ I₂ s₂ v' u sb₂ F₂ S1 S2
  cases S1
  cases S2
  have S₁' := S₁.mono sb₂
  obtain ⟨m, ws, n, pre, post, f, N, nd, Sw, mem, kk⟩ := F₂.openList U
  have e1 := Sw.length
  have zz := N (a, listOf (List.toArray ws) n) (List.mem_append.mpr (.inr (.head _)))
  obtain ⟨_, _, e3, e4, h3, h4⟩ := (upd_mid (o' := listOf (List.toArray ws) n) nd).split
  have hsb : Heap.SameBut a s₂.heap (s₂.heap.update a (Obj.mapSeq (·.setIfInBounds k.toNat v))) := Heap.SameBut.update ..
  have apart : (∀ p ∈ pre, p.1 ≠ a) ∧ ∀ p ∈ post, p.1 ≠ a := by
    rw [List.map_append, List.map_cons, List.nodup_append] at nd
    obtain ⟨n1, n2, n3⟩ := nd
    rw [List.nodup_cons] at n2
    exact ⟨fun p hp e => n3 _ (List.mem_map_of_mem (f := (·.1)) hp) _ (.head _) e, fun p hp e => n2.1 (e ▸ List.mem_map_of_mem (f := (·.1)) hp)⟩
  refine ki_setAt zz.1 h0 (by omega) (by rw [List.size_toArray, e1]; exact h1) ?_
  refine ⟨rfl, ρ, l₄, I₂, sb.trans sb₂, kk (ws.set k.toNat v) n _ s₂.toks (Sw.set _ S₁') (f.change hsb zz.2.1 zz.2.2) ?_, q⟩
  refine ki_turn _ N apart.1 apart.2 ?_ ?_
  · show (List.toArray ws).setIfInBounds k.toNat v = (ws.set k.toNat v).toArray
    apply Array.toList_inj.mp
    simp
  · simp

/-! while -/
theorem noted_no {M : Model} {A : Around} {env : Env} {E : Value → Shared → Prop} : ∀ e s, NoE e s → notedBy M A env E e s := fun _ _ h => h.elim
theorem WSs.while_ {t : PySem.Expr} {body : List Stmt} {p : Pos} (Inv : Nat → Loc → Led → Prop) (n : Nat) (h0 : Inv n ρ l)
    (turn : ∀ n ρ' l', Inv n ρ' l' → WB c Φ Φ.env ρ' l' t (fun b l₁ => if b then WSs c Φ ρ' l₁ body (fun f ρ₂ l₂ => match f with
        | .next => ∃ m, m < n ∧ Inv m ρ₂ l₂
        | .cont => ∃ m, m < n ∧ Inv m ρ₂ l₂
        | .brk => WSs c Φ ρ₂ l₂ rest Q
        | .ret x => Q (.ret x) ρ₂ l₂)
      else WSs c Φ ρ' l₁ rest Q)) : WSs c Φ ρ l (.While t body [] p :: rest) Q := by
  refine ⟨fun ok I s F => ?_⟩
  refine wpAny_execs_cons ?_
  refine wpAny_While ?_
  have key : codeAny c.M Φ.A (.whileLoop t body [] Φ.env) (fun r s' => match r with
      | .ok .next => ∃ ρ' l' I', Sub I I' ∧ FR Φ ρ' l' I' s' ∧ WSs c Φ ρ' l' rest Q
      | .ok (.ret v) => RetF Φ I Q (.ret v) s'
      | _ => False) s := by
    refine codeAny_whileLoop (fun n s' => ∃ ρ' l' I', Sub I I' ∧ FR Φ ρ' l' I' s' ∧ Inv n ρ' l') (fun n s₁ ⟨ρ', l', I₁, sb, F₁, hI⟩ => ?_) n ⟨ρ, l, I, .refl _, F, h0⟩
    refine wpAny_mono ((turn n ρ' l' hI).run ok I₁ s₁ F₁) ?_ noted_no
    rintro b s₂ ⟨l₂, I₂, sb₂, F₂, q⟩
    have sb' := sb.trans sb₂
    cases b with
    | false =>
      simp only [Bool.false_eq_true, if_false] at q ⊢
      exact wpAny_execs_nil ⟨ρ', l₂, I₂, sb', F₂, q⟩
    | true =>
      simp only [if_true] at q ⊢
      refine wpAny_mono (q.run ok I₂ s₂ F₂) ?_ noted_no
      rintro f s₃ ⟨y, ρ₃, l₃, I₃, sb₃, F₃, S₃, q₃⟩
      cases S₃ with
      | next => obtain ⟨m, hm, hI'⟩ := q₃; exact ⟨m, hm, ρ₃, l₃, I₃, sb'.trans sb₃, F₃, hI'⟩
      | cont => obtain ⟨m, hm, hI'⟩ := q₃; exact ⟨m, hm, ρ₃, l₃, I₃, sb'.trans sb₃, F₃, hI'⟩
      | brk => exact ⟨ρ₃, l₃, I₃, sb'.trans sb₃, F₃, q₃⟩
      | ret h => exact ⟨.ret _, ρ₃, l₃, I₃, sb'.trans sb₃, F₃, .ret h, q₃⟩
  refine codeAny_mono key ?_
  intro r s' h
  rcases r with e | (_ | _ | _ | v)
  · exact h.elim
  · obtain ⟨ρ', l', I', sb, F', q⟩ := h
    exact wpull (q.run ok I' s' F') fun _ _ R => R.pull sb
  · exact h.elim
  · exact h.elim
  · exact h
end
/-! ## FXRules5 -/
theorem lookup_zip {α : Type} : ∀ {names : List Str} {vs : List α}, vs.length = names.length → ∀ n ∈ names, ((names.zip vs).lookup n).isSome = true
  | n :: names, v :: vs, h, m, hm => by
    rw [List.zip_cons_cons, List.lookup_cons]
    by_cases e : (m == n) = true
    · simp [e]
    · rcases List.mem_cons.mp hm with rfl | hm
      · simp at e
      · simp only [Bool.not_eq_true] at e
        simp only [e]
        exact lookup_zip (by simpa using h) m hm
theorem filterMap_cg {α β : Type} {f g : α → Option β} : ∀ {l : List α}, (∀ a ∈ l, f a = g a) → l.filterMap f = l.filterMap g
  | [], _ => rfl
  | a :: l, h => by rw [List.filterMap_cons, List.filterMap_cons, h a (.head _), filterMap_cg fun b hb => h b (.tail _ hb)]
theorem filterMap_zip {α : Type} : ∀ {names : List Str} {vs : List α}, vs.length = names.length → names.Nodup → (names.filterMap fun n => ((names.zip vs).lookup n).map (n, ·)) = names.zip vs
  | [], _, _, _ => rfl
  | n :: names, v :: vs, h, nd => by
    rw [List.nodup_cons] at nd
    rw [List.filterMap_cons, List.zip_cons_cons, List.lookup_cons, beq_self_eq_true]
    dsimp only [Option.map_some]
    congr 1
    rw [← filterMap_zip (names := names) (vs := vs) (by simpa using h) nd.2]
    refine filterMap_cg fun m hm => ?_
    rw [List.lookup_cons]
    have : (m == n) = false := by
      rw [beq_eq_false_iff_ne]
      exact fun e => nd.1 (e ▸ hm)
    rw [this, filterMap_zip (by simpa using h) nd.2]
theorem bindArgs_plain {fd : FuncData} {vs : List Value} (h1 : fd.params.posonlyargs = []) (h2 : fd.params.kwonlyargs = []) (h3 : fd.params.vararg = none) (h4 : fd.params.kwarg = none) (h5 : fd.defaults = .none)
    (hl : vs.length = (fd.params.args.map (·.arg)).length) (nd : (fd.params.args.map (·.arg)).Nodup) : bindArgs fd ⟨vs, []⟩ = pure ((fd.params.args.map (·.arg)).zip vs) := by
  rw [← filterMap_zip hl nd]
  unfold bindArgs
  simp only [h1, h2, h3, h4, h5, List.map_nil, List.nil_append, List.append_nil, List.forIn_nil, seqItems?]
  have hm : (((fd.params.args.map (·.arg)).take (fd.params.args.map (·.arg)).length).filter fun n => (((fd.params.args.map (·.arg)).zip vs).lookup n).isNone) = [] := by
    rw [List.take_length, List.filter_eq_nil_iff]
    intro n hn
    have := lookup_zip hl n hn
    simp [Option.isNone_iff_eq_none, Option.isSome_iff_ne_none.mp this]
  simp [hl]
  simp only [List.drop_nil, List.length_nil, Nat.sub_zero, hm, List.isEmpty_nil, Bool.not_true, Bool.false_eq_true, if_false]
  rfl
theorem lookup_rev {α : Type} (y : Str) : ∀ {names : List Str} {vs : List α}, vs.length = names.length → names.Nodup → (names.zip vs).reverse.lookup y = (names.zip vs).lookup y
  | [], _, _, _ => rfl
  | n :: names, v :: vs, h, nd => by
    rw [List.nodup_cons] at nd
    rw [List.zip_cons_cons, List.reverse_cons, List.lookup_append, lookup_rev y (by simpa using h) nd.2, List.lookup_cons, List.lookup_cons, List.lookup_nil]
    by_cases e : (y == n) = true
    · rw [e]
      have : (names.zip vs).lookup y = none := by
        rw [List.lookup_eq_none_iff]
        intro p hp
        have := (List.of_mem_zip hp).1
        rw [beq_iff_eq] at e
        subst e
        rw [bne_iff_ne]
        rintro rfl
        exact nd.1 this
      rw [this]; rfl
    · simp only [Bool.not_eq_true] at e
      rw [e]
      cases (names.zip vs).lookup y <;> rfl
theorem mem_zip {I : Imm} {y : Str} {x : V} : ∀ {names : List Str} {vs : List Value} {xs : List V}, Sims I vs xs → names.length = xs.length → names.Nodup → (y, x) ∈ names.zip xs → y ∈ names ∧ ∃ v, (names.zip vs).lookup y = some v ∧ Sim I v x
  | [], _, _, _, _, _, e => by cases e
  | n :: names, _, _, .cons (v := v) (x := x') a b, h, nd, e => by
    rw [List.nodup_cons] at nd
    rw [List.zip_cons_cons, List.mem_cons] at e
    rw [List.zip_cons_cons, List.lookup_cons]
    rcases e with e | e
    · cases e
      rw [beq_self_eq_true]
      exact ⟨.head _, v, rfl, a⟩
    · obtain ⟨hm, r⟩ := mem_zip b (by simpa using h) nd.2 e
      have : (y == n) = false := by rw [beq_eq_false_iff_ne]; exact fun q => nd.1 (q ▸ hm)
      rw [this]
      exact ⟨.tail _ hm, r⟩

section
variable {c : Cx} {l : Led} {Q : V → Led → Prop}

theorem Room.deeper {A : Around} {n : Nat} {env : Env} (h : Room A (n + 1)) : Room (A.deeper env) n :=
  ⟨by show A.depth + 1 + n < 1000; have := h.depth; omega, by show A.units + 3 + 8 * n < 9000; have := h.units; omega, h.handled⟩

/-- what a frame's end hands back -/
@[reducible] def Back (Q : V → Led → Prop) (f : Fl) (_ : Loc) (l : Led) : Prop := match f with
  | .next => Q .none l
  | .ret x => Q x l
  | _ => False

theorem Spec.fnB {f : Addr} {oc od osl name qual params body scope dV kV doc pm an cdv ct} {xs : List V} {n : Nat} (ρ : Loc) (us : List Str)
    (ho : c.K.lookup f = some ⟨oc, od, .func (fnX name qual params body scope [] dV kV doc pm an cdv ct), osl⟩) (hcd : codeIn c.K cdv qual = true)
    (hb : ∀ s vs, c.K.In s.heap → vs.length = xs.length → BindsTo s (fnX name qual params body scope [] dV kV doc pm an cdv ct) ⟨vs, []⟩ ((params.args.map (·.arg)).zip vs))
    (hlen : (params.args.map (·.arg)).length = xs.length) (hnd : ((params.args.map (·.arg)) ++ us).Nodup)
    (hρ : ρ = (params.args.map (·.arg)).zip xs ++ us.map fun u => (u, V.unb))
    (hloc : (((params.args.map (·.arg)) ++ us).all fun y => scope.names.lookup y == some .local) = true)
    (h : ∀ Φ : Fx, Φ.scope = scope → Φ.rm = n → WSs c Φ ρ l body (Back Q))
    (hco : scope.isCoroutine = false := by rfl) (hgen : scope.isGenerator = false := by rfl) (hk : scope.kind = .function := by rfl) (hcell : (scope.names.all fun x => x.2 != .cell) = true := by rfl) : Spec c (.ref f) xs (n + 1) l Q := by
  intro Φ A ρ₀ I s vs ok hA hr F S
  obtain ⟨m, rs, W⟩ := F
  have X := ok.kin.keeps W.fr.keep
  have hl : vs.length = (params.args.map (·.arg)).length := by rw [S.length, hlen]
  have kinds : ∀ y ∈ (params.args.map (·.arg)) ++ us, scope.names.lookup y = some .local := fun y hy => by
    have := List.all_eq_true.mp hloc y hy
    exact beq_iff_eq.mp this
  refine callX_plain (binds := (params.args.map (·.arg)).zip vs) (L := Φ.L) ok.below W.fr W.news ok.top.nolimit hA rfl ok.kind (X _ _ ho) rfl (codeRec_of X hcd) (by have := hr.depth; rw [show recursionLimit = 1000 from rfl]; omega)
    (hb s vs X S.length) (fun y hy => kinds _ (List.mem_append_left _ (List.of_mem_zip hy).1)) ?_ (fun x hx => by have := List.all_eq_true.mp hcell x hx; exact bne_iff_ne.mp this) hco hgen hk
  intro g L' h₁ Fg F' N' B' st hlt
  let Ψ : Fx := { A₀ := A, base := Φ.base, outer := Φ.env :: Φ.outer, qual := qual, scope := scope, L := L', fa := f, cd := cdv, cells := [], h₀ := g, os := Φ.os, rm := n }
  have okΨ : Ψ.Ok c.K := ⟨hk, B', ok.kin.keeps st, ok.top.keeps st, hr.deeper⟩
  have FΨ : FR Ψ ρ l I { s with heap := h₁, toks := s.toks + ((params.args.map (·.arg)).zip vs).length } := by
    have hnd' := (List.nodup_append.mp hnd).1
    refine ⟨_, rs, ⟨F', fun y x e => ?_, ?_, W.raws, N', W.nodup, W.gens, W.os⟩⟩
    · subst hρ
      rcases List.mem_append.mp e with e | e
      · obtain ⟨hy, v, hv, Sv⟩ := mem_zip S hlen hnd' e
        exact ⟨kinds y (List.mem_append_left _ hy), fun _ => ⟨v, by rw [lookup_rev y hl hnd']; exact hv, Sv⟩⟩
      · obtain ⟨u, hu, q⟩ := List.mem_map.mp e
        cases q
        exact ⟨kinds y (List.mem_append_right _ hu), fun hn => (hn rfl).elim⟩
    · subst hρ
      rw [List.map_append, List.map_fst_zip (by rw [hlen]; exact Nat.le_refl _), List.map_map]
      have : us.map ((fun x : Str × V => x.1) ∘ fun u => (u, V.unb)) = us := by
        rw [show ((fun x : Str × V => x.1) ∘ fun u => (u, V.unb)) = id from rfl, List.map_id]
      rw [this]
      exact hnd
  refine wpAny_mono ((h Ψ rfl rfl).run okΨ I _ FΨ) ?_ (fun _ _ x => x.elim)
  rintro fl s' ⟨y, ρ', l', I', sb, ⟨m', rs', W'⟩, Sf, q⟩
  have fin : ∀ v x, Sim I' v x → Q x l' → LeaveK Φ.h₀ Φ.L m g (fun r s' => ∃ v, r = .ok (.ret v) ∧ Ret Φ ρ₀ I Q v s') v s' := by
    intro v x Sv q
    refine leaveK_ W'.fr W'.news fun F₂ N₂ => ⟨v, rfl, x, l', I', sb, ⟨m, rs', ⟨F₂, fun y u e => ?_, W.lnd, W'.raws, N₂, W'.nodup, W'.gens, W'.os⟩⟩, Sv, q⟩
    obtain ⟨k, hk⟩ := W.loc y u e
    exact ⟨k, fun hu => let ⟨w, hw, Sw⟩ := hk hu; ⟨w, hw, Sw.mono sb⟩⟩
  cases Sf with
  | next => exact fin .none .none .none q
  | brk => exact q.elim
  | cont => exact q.elim
  | ret Sv => exact fin _ _ Sv q

theorem Spec.fn {f : Addr} {oc od osl name qual params body scope kV doc pm an cdv ct} {xs : List V} {n : Nat} (ρ : Loc) (us : List Str)
    (ho : c.K.lookup f = some ⟨oc, od, .func (fnX name qual params body scope [] .none kV doc pm an cdv ct), osl⟩) (hcd : codeIn c.K cdv qual = true)
    (h1 : params.posonlyargs = []) (h2 : params.kwonlyargs = []) (h3 : params.vararg = none) (h4 : params.kwarg = none)
    (hlen : (params.args.map (·.arg)).length = xs.length) (hnd : ((params.args.map (·.arg)) ++ us).Nodup)
    (hρ : ρ = (params.args.map (·.arg)).zip xs ++ us.map fun u => (u, V.unb))
    (hloc : (((params.args.map (·.arg)) ++ us).all fun y => scope.names.lookup y == some .local) = true)
    (h : ∀ Φ : Fx, Φ.scope = scope → Φ.rm = n → WSs c Φ ρ l body (Back Q))
    (hco : scope.isCoroutine = false := by rfl) (hgen : scope.isGenerator = false := by rfl) (hk : scope.kind = .function := by rfl) (hcell : (scope.names.all fun x => x.2 != .cell) = true := by rfl) : Spec c (.ref f) xs (n + 1) l Q :=
  Spec.fnB ρ us ho hcd (fun s vs _ hl => .of_eq (bindArgs_plain h1 h2 h3 h4 rfl (hl.trans hlen.symm) (List.nodup_append.mp hnd).1)) hlen hnd hρ hloc h hco hgen hk hcell

theorem Spec.post {f : Value} {xs : List V} {n : Nat} {Q' : V → Led → Prop} (h : Spec c f xs n l Q') (k : ∀ x l', Q' x l' → Q x l') : Spec c f xs n l Q := h.mono (Nat.le_refl _) k
/-- as Spec.fn, the room told otherwise -/
theorem Spec.fn' {f : Addr} {oc od osl name qual params body scope kV doc pm an cdv ct} {xs : List V} {n : Nat} (hn : 1 ≤ n) (ρ : Loc) (us : List Str)
    (ho : c.K.lookup f = some ⟨oc, od, .func (fnX name qual params body scope [] .none kV doc pm an cdv ct), osl⟩) (hcd : codeIn c.K cdv qual = true)
    (h1 : params.posonlyargs = []) (h2 : params.kwonlyargs = []) (h3 : params.vararg = none) (h4 : params.kwarg = none)
    (hlen : (params.args.map (·.arg)).length = xs.length) (hnd : ((params.args.map (·.arg)) ++ us).Nodup)
    (hρ : ρ = (params.args.map (·.arg)).zip xs ++ us.map fun u => (u, V.unb))
    (hloc : (((params.args.map (·.arg)) ++ us).all fun y => scope.names.lookup y == some .local) = true)
    (h : ∀ Φ : Fx, Φ.scope = scope → Φ.rm + 1 = n → WSs c Φ ρ l body (Back Q))
    (hco : scope.isCoroutine = false := by rfl) (hgen : scope.isGenerator = false := by rfl) (hk : scope.kind = .function := by rfl) (hcell : (scope.names.all fun x => x.2 != .cell) = true := by rfl) : Spec c (.ref f) xs n l Q := by
  obtain ⟨n, rfl⟩ : ∃ k, n = k + 1 := ⟨n - 1, by omega⟩
  exact Spec.fn ρ us ho hcd h1 h2 h3 h4 hlen hnd hρ hloc (fun Φ hs hr => h Φ hs (by omega)) hco hgen hk hcell

/-- an own class is called -/
theorem Spec.cls' {C fI : Addr} {xs : List V} {n : Nat} (hm : makesIn c.K C = true) (hi : findIn c.K (.ref C) "__init__" = some (some (.ref fI))) (hf : typeIn c.K (.ref fI) = some (.type "function"))
    (h : ∀ a, Spec c (.ref fI) (.ref a :: xs) n ((a, .inst C []) :: l) (fun x l' => x = .none ∧ Q (.ref a) l')) : Spec c (.ref C) xs (n + 1) l Q := by
  intro Φ A ρ I s vs ok hA hr F S
  obtain ⟨m, rs, W⟩ := id F
  have X := ok.kin.keeps W.fr.keep
  refine make_K W.fr W.news X hm hi hf fun x dx h' F' N' h1 h2 => ?_
  have FF : FR Φ ρ ((x, .inst C []) :: l) I { s with heap := h' } := by
    refine ⟨m, _, ⟨F', W.loc, W.lnd, .cons (.inst (d := dx) (n := 0) .nil) W.raws, N', ?_, W.gens, W.os⟩⟩
    refine nodup_cons_fresh (o := instObj C dx) (news := (dx, dictOf [] 0) :: (rs.flatten ++ I)) (nodup_cons_fresh W.nodup h1) fun q hq => ?_
    rcases List.mem_cons.mp hq with rfl | hq
    · exact h2
    · exact Nat.lt_trans (h1 q hq) h2
  refine codeAny_mono (h x Φ (A.under (.builtin "type.__call__" ⟨.ref C :: vs, []⟩)) ρ I _ (.ref x :: vs) ok hA ⟨?_, ?_, hr.handled⟩ FF (.cons (.ref x) S)) ?_
  · have := hr.depth
    show A.depth + 1 + n < 1000
    omega
  · have := hr.units
    have hu : (Code.builtin "type.__call__" ⟨.ref C :: vs, []⟩).cUnits = 1 := by rfl
    show A.units + _ + 8 * n < 9000
    omega
  · rintro r s' ⟨v, rfl, y, l', I', sb, F₂, Sy, rfl, q⟩
    cases Sy
    exact ⟨rfl, _, rfl, .ref x, l', I', sb, F₂, .ref x, q⟩
theorem Spec.cls {C fI : Addr} {xs : List V} {n : Nat} (hn : 1 ≤ n) (hm : makesIn c.K C = true) (hi : findIn c.K (.ref C) "__init__" = some (some (.ref fI))) (hf : typeIn c.K (.ref fI) = some (.type "function"))
    (h : ∀ a, Spec c (.ref fI) (.ref a :: xs) (n - 1) ((a, .inst C []) :: l) (fun x l' => x = .none ∧ Q (.ref a) l')) : Spec c (.ref C) xs n l Q := by
  obtain ⟨n, rfl⟩ : ∃ k, n = k + 1 := ⟨n - 1, by omega⟩
  exact Spec.cls' hm hi hf h
theorem Spec.cls0 {C : Addr} {n : Nat} (hm : makesIn c.K C = true) (hi : findIn c.K (.ref C) "__init__" = some (some (.builtin "object.__init__")))
    (h : ∀ a, Q (.ref a) ((a, .inst C []) :: l)) : Spec c (.ref C) [] n l Q := by
  intro Φ A ρ I s vs ok hA hr F S
  cases S
  obtain ⟨m, rs, W⟩ := id F
  have X := ok.kin.keeps W.fr.keep
  refine make_K0 W.fr W.news X hm hi fun x dx h' F' N' h1 h2 => ?_
  refine ⟨_, rfl, .ref x, _, I, .refl _, ⟨m, _, ⟨F', W.loc, W.lnd, .cons (.inst (d := dx) (n := 0) .nil) W.raws, N', ?_, W.gens, W.os⟩⟩, .ref x, h x⟩
  refine nodup_cons_fresh (o := instObj C dx) (news := (dx, dictOf [] 0) :: (rs.flatten ++ I)) (nodup_cons_fresh W.nodup h1) fun q hq => ?_
  rcases List.mem_cons.mp hq with rfl | hq
  · exact h2
  · exact Nat.lt_trans (h1 q hq) h2
end

/-- a Member is ready: from now on it is a value -/
theorem FR.freeze {Φ : Fx} {ρ : Loc} {l : Led} {I : Imm} {s : Shared} {a : Addr} {k : Int} (F : FR Φ ρ ((a, .inst CM [("_key", .int k)]) :: l) I s) : ∃ I', Sub I I' ∧ FR Φ ρ l I' s ∧ Sim I' (.ref a) (.mem k) := by
  obtain ⟨m, rs, W⟩ := F
  have R := W.raws
  cases R with
  | @cons _ r _ rs R Rs =>
    cases R with
    | @inst _ _ d es n _ D =>
      cases D with
      | @cons hh _ t v _ _ _ Sv D =>
        cases D
        cases Sv with
        | int _ t' =>
          have sb : Sub I ((a, instObj CM d) :: (d, dictOf [⟨hh, .str "_key" t, .int k t'⟩] n) :: I) := fun p hp => .tail _ (.tail _ hp)
          have pm : ((([(a, instObj CM d), (d, dictOf [⟨hh, .str "_key" t, .int k t'⟩] n)] :: rs).flatten) ++ I).Perm (rs.flatten ++ ((a, instObj CM d) :: (d, dictOf [⟨hh, .str "_key" t, .int k t'⟩] n) :: I)) := by
            rw [List.flatten_cons]
            refine List.Perm.trans ?_ ((List.perm_middle.trans (List.Perm.cons _ List.perm_middle)).symm)
            exact .refl _
          refine ⟨_, sb, ⟨m, rs, ⟨W.fr, fun y x e => ?_, W.lnd, Rs.mono sb, fun p hp => W.news p (pm.mem_iff.mpr hp), nodup_perm W.nodup pm, W.gens, W.os⟩⟩, .mem (.head _) (.tail _ (.head _))⟩
          obtain ⟨kk, hk⟩ := W.loc y x e
          exact ⟨kk, fun hu => let ⟨w, hw, Sw⟩ := hk hu; ⟨w, hw, Sw.mono sb⟩⟩
theorem Spec.freeze {c : Cx} {f : Value} {xs : List V} {n : Nat} {l : Led} {Q : V → Led → Prop} (h : Spec c f xs n l (fun x l' => ∃ a k l'', x = .ref a ∧ l' = (a, .inst CM [("_key", .int k)]) :: l'' ∧ Q (.mem k) l'')) : Spec c f xs n l Q := by
  intro Φ A ρ I s vs ok hA hr F S
  refine codeAny_mono (h Φ A ρ I s vs ok hA hr F S) ?_
  rintro r s' ⟨v, rfl, y, l', I', sb, F₂, Sy, a, k, l'', rfl, rfl, q⟩
  cases Sy
  obtain ⟨I'', sb', F₃, S₃⟩ := F₂.freeze
  exact ⟨_, rfl, .mem k, l'', I'', sb.trans sb', F₃, S₃, q⟩
/-! ## FXRules6 -/
section
variable {Φ : Fx} {ρ : Loc} {l l' : Led} {I : Imm} {s : Shared}
theorem FR.obj {a : Addr} {P : Obj → Prop} (F : FR Φ ρ l I s) (h : (a, O.obj P) ∈ l) : ∃ o, P o ∧ s.heap.get? a = some o := by
  obtain ⟨m, rs, W⟩ := F
  obtain ⟨pre, post, rfl⟩ := mem_split h
  obtain ⟨r₁, r, r₂, rfl, _, R, _⟩ := W.raws.split
  cases R with
  | @obj _ o _ h => exact ⟨o, h, (W.news (a, o) (by simp)).1⟩
theorem Fr.ext {h₀ h h' : Heap} {L it : Addr} {m : Str → Option Value} (F : Fr h₀ L h m) (hx : ∀ b o, b ≠ it → h.get? b = some o → h'.get? b = some o) (h1 : it ≠ L) (h2 : h₀.get? it = none) : Fr h₀ L h' m :=
  ⟨let ⟨o, es, ep, ho, r⟩ := F.ns; ⟨o, es, ep, hx _ _ (Ne.symm h1) ho, r⟩, fun b o e => hx _ _ (fun q => by subst q; rw [h2] at e; cases e) (F.keep b o e), F.above⟩
theorem FR.grow {h' : Heap} {tk : Nat} (F : FR Φ ρ l I s) (hx : ∀ b o, s.heap.get? b = some o → h'.get? b = some o) : FR Φ ρ l I { s with heap := h', toks := tk } :=
  F.change fun m news f n => ⟨⟨let ⟨o, es, ep, ho, r⟩ := f.ns; ⟨o, es, ep, hx _ _ ho, r⟩, fun b o e => hx _ _ (f.keep b o e), f.above⟩, fun p hp => ⟨hx _ _ (n p hp).1, (n p hp).2⟩⟩
theorem FR.pushObj {o : Obj} {tk : Nat} {P : Obj → Prop} (F : FR Φ ρ l I s) (hP : P o) (hfree : o.isFreed = false := by rfl) : FR Φ ρ ((s.heap.objs.size, .obj P) :: l) I { s with heap := s.heap.push o, toks := tk } := by
  obtain ⟨m, rs, W⟩ := F
  refine ⟨m, _, ⟨W.fr.push o, W.loc, W.lnd, .cons (.obj hP) W.raws, W.news.push W.fr o hfree, ?_, W.gens, W.os⟩⟩
  exact nodup_cons_fresh W.nodup fun q hq => Heap.lt_size (W.news q hq).1
/-- the first entry of the ledger, an object, changes -/
theorem FR.setObj {it : Addr} {P P' : Obj → Prop} (F : FR Φ ρ ((it, .obj P) :: l) I s) {h' : Heap} {o' : Obj} {tk : Nat} (hs : Heap.SameBut it s.heap h') (ho : h'.get? it = some o') (hP : P' o') : FR Φ ρ ((it, .obj P') :: l) I { s with heap := h', toks := tk } := by
  obtain ⟨m, rs, W⟩ := F
  obtain ⟨R, news, nd⟩ := (⟨W.raws, W.news, W.nodup⟩ : _ ∧ _ ∧ _)
  cases R with
  | @cons _ r _ rs R Rs =>
    cases R with
    | @obj _ o _ hh =>
      have z := news (it, o) (by simp)
      have nd' : (it :: ((rs.flatten ++ I).map (·.1))).Nodup := by simpa using nd
      rw [List.nodup_cons] at nd'
      have nw : News Φ.h₀ Φ.L h' ((it, o') :: (rs.flatten ++ I)) := by
        intro p hp
        rcases List.mem_cons.mp hp with rfl | hp
        · exact ⟨ho, z.2⟩
        · have y := news p (by simp only [List.flatten_cons, List.cons_append, List.nil_append]; exact .tail _ hp)
          exact ⟨(hs.2 p.1 fun e => nd'.1 (e ▸ List.mem_map_of_mem (f := (·.1)) hp)).trans y.1, y.2⟩
      exact ⟨m, [(it, o')] :: rs, ⟨FX.Fr.ext W.fr (fun b o hb e => (hs.2 b hb).trans e) z.2.1 z.2.2, W.loc, W.lnd, .cons (.obj hP) Rs, nw, by simpa using nd, W.gens, W.os⟩⟩
theorem FR.dropObj {it : Addr} {P : Obj → Prop} (F : FR Φ ρ ((it, .obj P) :: l) I s) {h' : Heap} {tk : Nat} (hs : Heap.ExtBut it s.heap h') : FR Φ ρ l I { s with heap := h', toks := tk } := by
  obtain ⟨m, rs, W⟩ := F
  obtain ⟨R, news, nd⟩ := (⟨W.raws, W.news, W.nodup⟩ : _ ∧ _ ∧ _)
  cases R with
  | @cons _ r _ rs R Rs =>
    cases R with
    | @obj _ o _ hh =>
      have z := news (it, o) (by simp)
      have nd' : (it :: ((rs.flatten ++ I).map (·.1))).Nodup := by simpa using nd
      rw [List.nodup_cons] at nd'
      have nw : News Φ.h₀ Φ.L h' (rs.flatten ++ I) := by
        intro p hp
        have y := news p (by simp only [List.flatten_cons, List.cons_append, List.nil_append]; exact .tail _ hp)
        exact ⟨hs p.1 _ (fun e => nd'.1 (e ▸ List.mem_map_of_mem (f := (·.1)) hp)) y.1, y.2⟩
      exact ⟨m, rs, ⟨FX.Fr.ext W.fr hs z.2.1 z.2.2, W.loc, W.lnd, Rs, nw, nd'.2, W.gens, W.os⟩⟩
end

section
variable {c : Cx} {Φ : Fx} {env : Env} {ρ : Loc} {l : Led} {rest : List Stmt} {Q : Fl → Loc → Led → Prop}

/-! targets -/
structure WA (c : Cx) (Φ : Fx) (ρ : Loc) (l : Led) (t : PySem.Expr) (x : V) (Q : Loc → Led → Prop) : Prop where
  run : Φ.Ok c.K → ∀ I s v, FR Φ ρ l I s → Sim I v x → wpAny c.M Φ.A (assign t Φ.env v) (RetU Φ I Q) NoE s
theorem WA.name {y : Str} {p : Pos} {x : V} {Q : Loc → Led → Prop} (h : ∃ ρ', PUpd y x ρ ρ' ∧ Q ρ' l) : WA c Φ ρ l (.Name y p) x Q := by
  obtain ⟨ρ', hy, q⟩ := h
  exact ⟨fun ok I s v F S => wpAny_assign_Name (storeF ok F S hy fun h' tk F' => ⟨ρ', l, I, .refl _, F', q⟩)⟩
theorem WA.attr {o : PySem.Expr} {name : Str} {p : Pos} {x : V} {Q : Loc → Led → Prop}
    (h : WE c Φ Φ.env ρ l o (fun y l₂ => ∃ a C fs l₃, y = .ref a ∧ LUpd a (.inst C fs) (.inst C (setF name x fs)) l₂ l₃ ∧ storeOk c.K C name = true ∧ fs.length ≤ 100 ∧ Q ρ l₃)) : WA c Φ ρ l (.Attribute o name p) x Q := by
  refine ⟨fun ok I s v F S => kas_attr (wpull (h.run ok I s F) ?_)⟩
  rintro u s₁ ⟨y, l₁, I₁, sb, F₁, S₁, a, C, fs, l₃, rfl, U, ho, hl, q⟩
  cases S₁
  exact storeA ok F₁ (S.mono sb) ho hl U fun h' tk F₃ => ⟨ρ, l₃, I₁, sb, F₃, q⟩
/-- t1, t2 = e -/
theorem WSs_assign2 {e t1 t2 : PySem.Expr} {k : Nat} {tp p : Pos}
    (h : WE c Φ Φ.env ρ l e (fun v l₁ => ∃ a b, v = .tup [a, b] ∧ WA c Φ ρ l₁ t1 a (fun ρ₁ l₂ => WA c Φ ρ₁ l₂ t2 b (fun ρ₂ l₃ => WSs c Φ ρ₂ l₃ rest Q))))
    (hs : swapsWithSole [.Tuple [t1, t2] k tp] e p.line Φ.env = pure false := by rfl)
    (hw : swappedStores [.Tuple [t1, t2] k tp] e Φ.env = pure Option.none := by rfl)
    (ht : assignEach [t1, t2] Φ.env = [(false, PySem.assign t1 Φ.env), (false, assign t2 Φ.env)] := by rfl) :
    WSs c Φ ρ l (.Assign [.Tuple [t1, t2] k tp] e p :: rest) Q := by
  refine seqNext fun ok I s F => ?_
  refine Assign_Tuple (wpull (h.run ok I s F) ?_) hs hw
  rintro v s₁ ⟨x, l₁, I₁, sb, F₁, S₁, a, b, rfl, h₁⟩
  cases S₁ with
  | @tup d vs _ hm S =>
    cases S with
    | @cons v1 _ _ _ Sa S =>
      cases S with
      | @cons v2 _ _ _ Sb S =>
        cases S
        have hT : IsTup s₁.heap d #[v1, v2] := ⟨_, F₁.imm _ hm, rfl, 0, rfl⟩
        refine assign_Tuple_tuple ok.room.handled hT (by rw [ht]; rfl) (by rw [ht]; rfl) fun h' hx => ?_
        rw [ht]
        have F₂ : FR Φ ρ l₁ I₁ { s₁ with heap := h', toks := s₁.toks } := F₁.grow fun b o e => hx b o (Nat.ne_of_lt (Heap.lt_size e)) e
        show wpAny c.M Φ.A (do holding [v2] (PySem.assign t1 Φ.env v1); assignInOrder [assign t2 Φ.env] [v2]) _ _ _
        refine wpAny_bind (wpAny_holding (wpull (h₁.run ok I₁ _ v1 F₂ Sa) ?_))
        rintro _ s₃ ⟨ρ₁, l₃, I₃, sb₃, F₃, h₃⟩
        show wpAny c.M Φ.A (do holding [] (assign t2 Φ.env v2); assignInOrder [] []) _ _ _
        refine wpAny_bind (wpAny_holding (wpull (h₃.run ok I₃ _ v2 F₃ (Sb.mono sb₃)) ?_))
        rintro _ s₄ ⟨ρ₂, l₄, I₄, sb₄, F₄, h₄⟩
        exact wpAny_pure ⟨rfl, ρ₂, l₄, I₄, (sb.trans sb₃).trans sb₄, F₄, h₄⟩

/-! is, between two objects -/
theorem cmp_isOther {a b C D : Addr} {fs gs} {A : Around} {I : Imm} {s : Shared} {Q : Value → Shared → Prop} (F : FR Φ ρ l I s) (ha : (a, O.inst C fs) ∈ l) (hb : (b, O.inst D gs) ∈ l) (hne : a ≠ b) (q : Q (.bool false) s) :
    wpAny c.M A (compareOp .Is (.ref a) (.ref b)) Q NoE s := by
  obtain ⟨d, es, n, IA, _⟩ := F.inst ha
  obtain ⟨d', es', n', IB, _⟩ := F.inst hb
  exact wpAny_is_ref_other hne IA.1 IB.1 (by rw [IA.2]; intro e; cases e) q
theorem WE.is_ {e1 e2 : PySem.Expr} {p : Pos} {Q : V → Led → Prop}
    (h : WE c Φ env ρ l e1 (fun x l₁ => WE c Φ env ρ l₁ e2 (fun y l₂ => ∃ a b C D fs gs, x = .ref a ∧ y = .ref b ∧ (a, O.inst C fs) ∈ l₂ ∧ (b, O.inst D gs) ∈ l₂ ∧ Q (.bool (decide (a = b))) l₂))) (hm : behindInMarks .Is e2 = false := by rfl) : WE c Φ env ρ l (.Compare e1 [.Is] [e2] p) Q := by
  refine ⟨fun ok I s F => ?_⟩
  refine wpAny_Compare1 (two ok F h fun x l₁ q => q.mono ?_) hm
  rintro y l₂ ⟨a, b, C, D, fs, gs, rfl, rfl, ha, hb, q⟩ I₂ s₂ v u sb F₂ S1 S2
  cases S1
  cases S2
  by_cases hab : a = b
  · subst hab
    rw [decide_eq_true rfl] at q
    exact wpAny_is_ref_self ⟨_, l₂, I₂, sb, F₂, .bool _, q⟩
  · rw [decide_eq_false hab] at q
    exact cmp_isOther F₂ ha hb hab ⟨_, l₂, I₂, sb, F₂, .bool _, q⟩

/-! for -/
theorem WSs.forCore {x : Str} {xp p : Pos} {e : PySem.Expr} {body : List Stmt} (Inv : Nat → Loc → Led → Prop)
    (h : WE c Φ Φ.env ρ l e (fun v l₁ => ∃ (st : Nat → Obj → Prop) (zs : List V),
      (∀ I s u, Φ.Ok c.K → FR Φ ρ l₁ I s → Sim I u v → wpAny c.M Φ.A (pyIter u) (fun it s' => ∃ a, it = .ref a ∧ ∃ l₂, Inv 0 ρ l₂ ∧ FR Φ ρ ((a, .obj (st 0)) :: l₂) I s') NoE s) ∧
      (∀ i ρ' l' I s a, Φ.Ok c.K → Inv i ρ' l' → FR Φ ρ' ((a, .obj (st i)) :: l') I s → wpAny c.M Φ.A (pyNext (.ref a)) (fun r s' => match zs[i]? with
        | some z => ∃ v, r = some v ∧ Sim I v z ∧ FR Φ ρ' ((a, .obj (st (i + 1))) :: l') I s'
        | Option.none => r = Option.none ∧ FR Φ ρ' l' I s') NoE s) ∧
      (∀ i ρ' l' z (it : Addr × O), Inv i ρ' l' → zs[i]? = some z → ∃ ρ₁, PUpd x z ρ' ρ₁ ∧ WSs c Φ ρ₁ (it :: l') body (fun f ρ₂ l₂ => match f with
        | .next => ∃ l₃, LSub (it :: l₃) l₂ ∧ Inv (i + 1) ρ₂ l₃
        | .cont => ∃ l₃, LSub (it :: l₃) l₂ ∧ Inv (i + 1) ρ₂ l₃
        | .brk => WSs c Φ ρ₂ l₂ rest Q
        | .ret x => ∃ l₃, LSub l₃ l₂ ∧ Q (.ret x) ρ₂ l₃)) ∧
      (∀ ρ' l', Inv zs.length ρ' l' → WSs c Φ ρ' l' rest Q)))
    (hf : ∀ v, foldedSetIterable e Φ.env v = pure v := by intro _; rfl) : WSs c Φ ρ l (.For (.Name x xp) e body [] p :: rest) Q := by
  refine ⟨fun ok I s F => ?_⟩
  refine wpAny_execs_cons ?_
  refine wpAny_For (wpull (h.run ok I s F) ?_) hf
  rintro u s₁ ⟨v, l₁, I₁, sb₁, F₁, S₁, st, zs, hit, hnext, hturn, hend⟩
  refine wpull (hit I₁ s₁ u ok F₁ S₁) ?_
  rintro it s₂ ⟨a, rfl, l₂, hI₀, F₂⟩
  have key : codeAny c.M Φ.A (.forLoop (.Name x xp) (.ref a) body [] Φ.env) (fun r s' => match r with
      | .ok .next => ∃ ρ' l' I', Sub I I' ∧ FR Φ ρ' l' I' s' ∧ WSs c Φ ρ' l' rest Q
      | .ok (.ret v) => RetF Φ I Q (.ret v) s'
      | _ => False) s₂ := by
    refine codeAny_forLoop (fun n s' => ∃ i ρ' l' I', i + n = zs.length ∧ Sub I I' ∧ FR Φ ρ' ((a, .obj (st i)) :: l') I' s' ∧ Inv i ρ' l') (fun n s₃ ⟨i, ρ', l', I', hin, sb, F₃, hI⟩ => ?_) zs.length ⟨0, ρ, l₂, I₁, by omega, sb₁, F₂, hI₀⟩
    refine wpAny_mono (hnext i ρ' l' I' s₃ a ok hI F₃) ?_ noted_no
    intro r s₄ hr
    cases hz : zs[i]? with
    | none =>
      rw [hz] at hr
      obtain ⟨rfl, F₄⟩ := hr
      have : i = zs.length := by
        rw [List.getElem?_eq_none_iff] at hz
        omega
      subst this
      exact wpAny_execs_nil ⟨ρ', l', I', sb, F₄, hend ρ' l' hI⟩
    | some z =>
      rw [hz] at hr
      obtain ⟨w, rfl, Sw, F₄⟩ := hr
      have hlt : i < zs.length := (List.getElem?_eq_some_iff.mp hz).1
      obtain ⟨ρ₁, hu, hb⟩ := hturn i ρ' l' z (a, .obj (st (i + 1))) hI hz
      dsimp only
      refine wpAny_assign_Name (wpAny_mono (storeF (P := fun _ s' => FR Φ ρ₁ ((a, .obj (st (i + 1))) :: l') I' s') ok F₄ Sw hu fun h' tk F' => F') ?_ noted_no)
      intro _ s₅ F₅
      refine wpAny_mono (hb.run ok I' s₅ F₅) ?_ noted_no
      rintro f s₆ ⟨y, ρ₆, l₆, I₆, sb₆, F₆, S₆, q⟩
      cases S₆ with
      | next => obtain ⟨l₃, hs, hI'⟩ := q; exact ⟨n - 1, by omega, i + 1, ρ₆, l₃, I₆, by omega, sb.trans sb₆, F₆.sub hs, hI'⟩
      | cont => obtain ⟨l₃, hs, hI'⟩ := q; exact ⟨n - 1, by omega, i + 1, ρ₆, l₃, I₆, by omega, sb.trans sb₆, F₆.sub hs, hI'⟩
      | brk => exact ⟨ρ₆, l₆, I₆, sb.trans sb₆, F₆, q⟩
      | ret hv => obtain ⟨l₃, hs, q⟩ := q; exact ⟨.ret _, ρ₆, l₃, I₆, sb.trans sb₆, F₆.sub hs, .ret hv, q⟩
  refine codeAny_mono key ?_
  intro r s' h
  rcases r with e | (_ | _ | _ | v)
  · exact h.elim
  · obtain ⟨ρ', l', I', sb, F', q⟩ := h
    exact wpull (q.run ok I' s' F') fun _ _ R => R.pull sb
  · exact h.elim
  · exact h.elim
  · exact h
/-- what follows one turn -/
@[reducible] def Turn (c : Cx) (Φ : Fx) (rest : List Stmt) (Q : Fl → Loc → Led → Prop) (it : Addr × O) (N : Loc → Led → Prop) (f : Fl) (ρ₂ : Loc) (l₂ : Led) : Prop := match f with
  | .next => ∃ l₃, LSub (it :: l₃) l₂ ∧ N ρ₂ l₃
  | .cont => ∃ l₃, LSub (it :: l₃) l₂ ∧ N ρ₂ l₃
  | .brk => WSs c Φ ρ₂ l₂ rest Q
  | .ret x => ∃ l₃, LSub l₃ l₂ ∧ Q (.ret x) ρ₂ l₃
theorem WSs.forList {x : Str} {xp p : Pos} {e : PySem.Expr} {body : List Stmt} (Inv : Nat → Loc → Led → Prop)
    (h : WE c Φ Φ.env ρ l e (fun v l₁ => ∃ a xs, v = .ref a ∧ Inv 0 ρ l₁ ∧ (∀ i ρ' l', Inv i ρ' l' → (a, O.list xs) ∈ l') ∧
      (∀ i ρ' l' z (it : Addr × O), Inv i ρ' l' → xs[i]? = some z → ∃ ρ₁, PUpd x z ρ' ρ₁ ∧ WSs c Φ ρ₁ (it :: l') body (Turn c Φ rest Q it (Inv (i + 1)))) ∧
      (∀ ρ' l', Inv xs.length ρ' l' → WSs c Φ ρ' l' rest Q)))
    (hf : ∀ v, foldedSetIterable e Φ.env v = pure v := by intro _; rfl) : WSs c Φ ρ l (.For (.Name x xp) e body [] p :: rest) Q := by
  refine WSs.forCore Inv (h.mono ?_) hf
  rintro v l₁ ⟨a, xs, rfl, h0, hm, hturn, hend⟩
  refine ⟨fun i o => o.cls = .type "list_iterator" ∧ o.data = .fields #[.ref a, .int i 0], xs, fun I s u ok F S => ?_, fun i ρ' l' I s it ok hI F => ?_, hturn, hend⟩
  · cases S
    obtain ⟨vs, L, S⟩ := F.list (hm 0 ρ l₁ h0)
    exact wpAny_pyIter_list L ⟨_, rfl, l₁, h0, F.pushObj (tk := s.toks) ⟨rfl, rfl⟩⟩
  · obtain ⟨o, ⟨hc, hd⟩, ho⟩ := F.obj (.head _)
    obtain ⟨vs, L, S⟩ := F.list (.tail _ (hm i ρ' l' hI))
    have hI' : s.heap.IsListIter it a i := ⟨o, ho, hc, hd⟩
    cases hz : xs[i]? with
    | none =>
      refine wpAny_pyNext_list_end ok.room.handled hI' L (by simp; rw [List.getElem?_eq_none_iff] at hz; rw [S.length]; exact hz) fun h' hx => ⟨rfl, F.dropObj (tk := s.toks) hx⟩
    | some z =>
      obtain ⟨w, hw, Sw⟩ := S.get hz
      refine wpAny_pyNext_list_item hI' L (x := w) (by simpa using hw) fun h' hit' hs => ?_
      obtain ⟨o', ho', hc', hd'⟩ := hit'
      exact ⟨w, rfl, Sw, F.setObj (tk := s.toks) hs ho' ⟨hc', hd'⟩⟩

def rangeP (a b c : Int) (o : Obj) : Prop := ∃ t u v, o = { cls := .type "range", dict := none, data := .fields #[.int a t, .int b u, .int c v], slots := #[] }
theorem rng_nat {a b c : Int} {n i : Nat} (h : Builtin.Range.rangeSize a b c = n) (hi : i < n) : 0 < Builtin.Range.rangeSize a b c - i := by omega
theorem WSs.forRange {x : Str} {xp p : Pos} {e : PySem.Expr} {body : List Stmt} (Inv : Nat → Loc → Led → Prop)
    (h : WE c Φ Φ.env ρ l e (fun v l₁ => ∃ r l₂ a b d n, v = .ref r ∧ l₁ = (r, O.obj (rangeP a b d)) :: l₂ ∧ Builtin.Range.small a b d = true ∧ Builtin.Range.rangeSize a b d = (n : Nat) ∧ Inv 0 ρ l₂ ∧
      (∀ i ρ' l' (it : Addr × O), Inv i ρ' l' → i < n → ∃ ρ₁, PUpd x (.int (a + i * d)) ρ' ρ₁ ∧ WSs c Φ ρ₁ (it :: l') body (Turn c Φ rest Q it (Inv (i + 1)))) ∧
      (∀ ρ' l', Inv n ρ' l' → WSs c Φ ρ' l' rest Q)))
    (hf : ∀ v, foldedSetIterable e Φ.env v = pure v := by intro _; rfl) : WSs c Φ ρ l (.For (.Name x xp) e body [] p :: rest) Q := by
  refine WSs.forCore Inv (h.mono ?_) hf
  rintro v l₁ ⟨r, l₂, a, b, d, n, rfl, rfl, hsm, hsz, h0, hturn, hend⟩
  refine ⟨fun i o => o = { cls := .type "range_iterator", dict := none, data := .fields #[rawInt (a + i * d), rawInt (Builtin.Range.rangeSize a b d - i), rawInt d], slots := #[] }, (List.range n).map fun (i : Nat) => V.int (a + i * d), fun I s u ok F S => ?_, fun i ρ' l' I s it ok hI F => ?_, ?_, ?_⟩
  · cases S
    obtain ⟨o, ⟨t, u, v, rfl⟩, ho⟩ := F.obj (.head _)
    refine wpAny_pyIter_range ho hsm ⟨_, rfl, l₂, h0, ?_⟩
    have F' := F.pushObj (tk := s.toks) (P := fun o => o = { cls := .type "range_iterator", dict := none, data := .fields #[rawInt (a + (0 : Nat) * d), rawInt (Builtin.Range.rangeSize a b d - (0 : Nat)), rawInt d], slots := #[] }) (o := { cls := .type "range_iterator", data := .fields #[rawInt a, rawInt (Builtin.Range.rangeSize a b d), rawInt d] }) (by simp)
    exact F'.sub ⟨[(r, O.obj (rangeP a b d))], by
      refine List.Perm.cons _ ?_
      exact (List.perm_append_singleton _ _).symm⟩
  · obtain ⟨o, rfl, ho⟩ := F.obj (.head _)
    by_cases hin : i < n
    · have hz : ((List.range n).map fun (i : Nat) => V.int (a + i * d))[i]? = some (.int (a + i * d)) := by simp [hin]
      rw [hz]
      refine wpAny_pyNext_range_item ho (by omega) fun h' hit hs => ?_
      refine ⟨_, rfl, .int _ _, F.setObj (tk := s.toks + 1) hs hit ?_⟩
      have e1 : a + ((i : Int) + 1) * d = a + i * d + d := by rw [Int.add_mul, Int.one_mul, Int.add_assoc]
      have e2 : Builtin.Range.rangeSize a b d - ((i + 1 : Nat) : Int) = Builtin.Range.rangeSize a b d - i - 1 := by omega
      dsimp only
      rw [e2, Int.natCast_add, Int.natCast_one, e1]
    · have hz : ((List.range n).map fun (i : Nat) => V.int (a + i * d))[i]? = Option.none := by simp; try omega
      rw [hz]
      exact wpAny_pyNext_range_end ok.room.handled ho (by omega) fun h' hx => ⟨rfl, F.dropObj (tk := s.toks) hx⟩
  · intro i ρ' l' z it hI hz
    by_cases hin : i < n
    · have : z = .int (a + i * d) := by simp [hin] at hz; exact hz.symm
      subst this
      exact hturn i ρ' l' it hI hin
    · simp [hin] at hz
  · intro ρ' l' hI
    simp at hI
    exact hend ρ' l' hI
/-- range(n) -/
theorem WE.range1 {np p : Pos} {e : PySem.Expr} {Q : V → Led → Prop} (hg : nsIn c.K mainGlobals "range" = some Option.none) (hk : Φ.scope.names.lookup ("range" : Str) = some .globalImplicit)
    (h : WE c Φ Φ.env ρ l e (fun x l₁ => ∃ n, x = .int n ∧ ∀ r, Q (.ref r) ((r, .obj (rangeP 0 n 1)) :: l₁)))
    (he : starEach [e] Φ.env = [(false, eval e Φ.env)] := by rfl) : WE c Φ Φ.env ρ l (.Call (.Name "range" np) [e] [] p) Q := by
  refine ⟨fun ok I s F => ?_⟩
  refine Call_ (bname (v := .type "range") ok F hg (by decide +kernel) hk (PySem.Pv.callWith_type1 (spliced_more (wpull (h.run ok I s F) ?_) he) he))
  rintro v s₁ ⟨x, l₁, I₁, sb, F₁, S₁, n, rfl, q⟩
  cases S₁
  refine spliced_none ?_
  exact call_range_1 ⟨.ref _, _, I₁, sb, F₁.pushObj ⟨_, _, _, rfl⟩, .ref _, q _⟩
/-- range(a, b, d) -/
theorem WE.range3 {np p : Pos} {e1 e2 e3 : PySem.Expr} {Q : V → Led → Prop} (hg : nsIn c.K mainGlobals "range" = some Option.none) (hk : Φ.scope.names.lookup ("range" : Str) = some .globalImplicit)
    (h : WEs c Φ Φ.env ρ l [e1, e2, e3] (fun xs l₁ => ∃ a b d, xs = [.int a, .int b, .int d] ∧ d ≠ 0 ∧ d.natAbs < 1073741824 ∧ ∀ r, Q (.ref r) ((r, .obj (rangeP a b d)) :: l₁)))
    (hp : (starEach [e1, e2, e3] Φ.env).any (·.1) = false := by rfl) : WE c Φ Φ.env ρ l (.Call (.Name "range" np) [e1, e2, e3] [] p) Q := by
  refine ⟨fun ok I s F => ?_⟩
  have hp' : (backTo p (starEach [e1, e2, e3] Φ.env)).any (·.1) = false := by
    unfold backTo
    rw [List.any_map]
    exact hp
  refine Call_ (bname (v := .type "range") ok F hg (by decide +kernel) hk (PySem.callWith_type hp' (evalArgs_any hp' (wpull (h.run ok p I s F) ?_))))
  rintro v s₁ ⟨xs, l₁, I₁, sb, F₁, S₁, a, b, d, rfl, h0, hd, q⟩
  cases S₁ with
  | cons S1 S =>
    cases S with
    | cons S2 S =>
      cases S with
      | cons S3 S =>
        cases S; cases S1; cases S2; cases S3
        exact call_range_3 h0 ⟨.ref _, _, I₁, sb, F₁.pushObj ⟨_, _, _, rfl⟩, .ref _, q _⟩ (.inl (PyProof.noPylong_small hd))
end
/-! ## FXRules7 -/
/-- a class with object's own == -/
def ClsK (K : Frag) (C : Addr) : Prop := ∃ nm q N bs hdct sn sub ab col dd k0 k1 k2 k3 k5 newId, K.lookup C = some (excClassObj nm q C N bs [.type "object"] hdct sn sub ab col dd k0 k1 k2 k3 k5 newId) ∧
  ∃ cls di es ep sl, K.lookup N = some ⟨cls, di, .dict es ep, sl⟩ ∧ (es.toList.all fun e => match e.key with | .str _ _ => true | _ => false) = true ∧ nsFind es "__eq__" = none ∧ nsFind es "__ne__" = none
section
variable {c : Cx} {Φ : Fx} {env : Env} {ρ : Loc} {l : Led}
theorem cmp_eqSelf {a C : Addr} {fs} {I : Imm} {s : Shared} {Q : Value → Shared → Prop} (ok : Φ.Ok c.K) (F : FR Φ ρ l I s) (hk : ClsK c.K C) (ha : (a, O.inst C fs) ∈ l) (q : Q (.bool true) s) :
    wpAny c.M Φ.A (compareOp .Eq (.ref a) (.ref a)) Q NoE s := by
  obtain ⟨nm, qq, N, bs, hdct, sn, sub, ab, col, dd, k0, k1, k2, k3, k5, newId, hC, cls, di, es, ep, sl, hN, hs, he, hn⟩ := hk
  obtain ⟨d, es', n, IA, _⟩ := F.inst ha
  have X := ok.kin.keeps F.keep
  have CI : s.heap.CmpInst a C [.type "object"] := by
    refine ⟨_, nm, qq, N, bs, hdct, sn, sub, ab, col, dd, k0, k1, k2, k3, k5, newId, nsFind es, IA.1, rfl, X _ _ hC, ⟨_, es, ep, X _ _ hN, rfl, fun e he => ?_, fun _ => rfl⟩, he, hn⟩
    have := List.all_eq_true.mp hs e (by simpa using he)
    split at this
    · rename_i x t hh; exact ⟨x, t, hh⟩
    · cases this
  have hu := ok.room.units
  have hc : (9000 : Nat) ≤ cLine := by decide +kernel
  obtain ⟨hp, g, dr, tk, os⟩ := s
  exact compareOp_eq_same PySem.F.cmp_object CI (by omega) q
theorem WB.eqSelf {e1 e2 : PySem.Expr} {p : Pos} {Q : Bool → Led → Prop}
    (h : WE c Φ env ρ l e1 (fun x l₁ => WE c Φ env ρ l₁ e2 (fun y l₂ => ∃ a C fs, x = .ref a ∧ y = .ref a ∧ (a, O.inst C fs) ∈ l₂ ∧ ClsK c.K C ∧ Q true l₂))) (hm : behindInMarks .Eq e2 = false := by rfl) : WB c Φ env ρ l (.Compare e1 [.Eq] [e2] p) Q := by
  refine ⟨fun ok I s F => ?_⟩
  refine wpAny_isTrue_Compare1 (two ok F h fun x l₁ q => q.mono ?_) hm
  rintro y l₂ ⟨a, C, fs, rfl, rfl, hm, hk, q⟩ I₂ s₂ v u sb F₂ S1 S2
  cases S1
  cases S2
  exact cmp_eqSelf ok F₂ hk hm (truth_sim (I := I₂) (.bool true) rfl ⟨l₂, I₂, sb, F₂, q⟩)
/-! a starred tuple as the arguments of a method -/
def starOk (K : Frag) (C : Addr) (name : Str) (f : Addr) : Bool := plainGet K C name && hasDictIn K C && findIn K (.ref C) name == some (some (.ref f)) && isFn K (.ref f) && specialIn K (.ref f) "__get__" == some (some (.builtin "function.__get__")) && takesIn K (.ref f) == some false && fnIn K f
theorem WE.methStar {o e : PySem.Expr} {name : Str} {apos pos sp : Pos} {Q : V → Led → Prop} (hc : copiedNames.contains name = false)
    (h : WE c Φ env ρ l o (fun y l' => ∃ a C fs f, y = .ref a ∧ (a, O.inst C fs) ∈ l' ∧ starOk c.K C name f = true ∧ getF name fs = Option.none ∧
      ∀ it : Addr × O, WE c Φ env ρ (it :: l') e (fun x l'' => ∃ xs l₃, x = .tup xs ∧ xs.length ≤ 1000000 ∧ LSub (it :: l₃) l'' ∧ Spec c (.ref f) (.ref a :: xs) Φ.rm l₃ Q)))
    (hx : starEach [.Starred e sp] env = [(true, eval e env)] := by rfl)
    (he : eval (.Call (.Attribute o name apos) [.Starred e sp] [] pos) env = (do
      let ov ← eval o env
      standAt apos.atName
      let r ← holding [ov] (do pure (← getAttr ov name true, ([] : List Value)))
      callWith pos r.1 r.2 (backTo pos (starEach [.Starred e sp] env)) []) := by rfl) : WE c Φ env ρ l (.Call (.Attribute o name apos) [.Starred e sp] [] pos) Q := by
  refine ⟨fun ok I s F => ?_⟩
  rw [he]
  refine wpAny_bind (wpull (h.run ok I s F) ?_)
  rintro v s₁ ⟨y, l₁, I₁, sb, F₁, S₁, a, C, fs, f, rfl, hi, ho, hg, q⟩
  cases S₁
  refine wpAny_bind (wpAny_standAt (wpAny_bind (wpAny_holding (wpAny_bind ?_))))
  unfold starOk at ho
  simp only [Bool.and_eq_true, beq_iff_eq] at ho
  obtain ⟨⟨⟨⟨⟨⟨h1, h2⟩, h3⟩, h4⟩, h5⟩, h6⟩, h7⟩ := ho
  obtain ⟨d, es, n, IA, D⟩ := F₁.inst hi
  obtain ⟨m, rs, W⟩ := id F₁
  refine kbm_bound W.fr ok.kin W.news IA h1 h2 h3 h4 h5 h6 hc (D.miss hg) fun q' h' F' N' lt => wpAny_pure ?_
  have F₂ : FR Φ ρ ((q', .obj (fun o => o = methodObj (.ref f) (.ref a))) :: l₁) I₁ { s₁ with heap := h', toks := s₁.toks + 1 } :=
    ⟨m, _, ⟨F', W.loc, W.lnd, .cons (.obj (o := methodObj (.ref f) (.ref a)) rfl) W.raws, N', nodup_cons_fresh W.nodup lt, W.gens, W.os⟩⟩
  dsimp only
  rw [hx]
  refine ks_call (P := MethP c.K q' f (.ref a)) rfl (keeps_M h7) (ks_lone (wpull ((q (q', .obj (fun o => o = methodObj (.ref f) (.ref a)))).run ok I₁ _ F₂) ?_))
  rintro v s₂ ⟨y, l₂, I₂, sb₂, F₂, S₂, xs, l₃, rfl, hz, hl, q⟩
  cases S₂ with
  | @tup d vs _ hm S =>
    obtain ⟨m, rs, W⟩ := id F₂
    refine star_seq (its := vs.toArray) (ws := vs) W.fr W.news (List.mem_append_right _ hm) rfl rfl (.inr rfl) (by simp) (by rw [List.size_toArray, S.length]; exact sz (by omega)) fun h' F' N' => ?_
    have F₃ : FR Φ ρ l₂ I₂ { s₂ with heap := h' } := ⟨m, rs, ⟨F', W.loc, W.lnd, W.raws, N', W.nodup, W.gens, W.os⟩⟩
    have F₄ := F₃.sub hl
    obtain ⟨ob, rfl, hq⟩ := F₄.obj (.head _)
    refine ⟨⟨hq, ok.kin.keeps F₃.keep⟩, ?_⟩
    have F₅ : FR Φ ρ l₃ I₂ { s₂ with heap := h' } := F₄.sub ⟨[_], by exact (List.perm_append_singleton _ _).symm⟩
    refine wpAny_call (ks_codeAny_call_bound hq (codeAny_mono (q Φ Φ.A ρ I₂ _ (.ref a :: vs) ok ok.frames ok.room F₅ (.cons (.ref a) S)) ?_))
    rintro r s₃ ⟨v, rfl, R⟩
    exact R.pull (sb.trans sb₂)
end
/-! ## FXRules8 -/
section
variable {c : Cx} {Φ : Fx} {env : Env} {ρ : Loc} {l : Led}
theorem WB.or3 {e1 e2 e3 : PySem.Expr} {p : Pos} {Q : Bool → Led → Prop} (h : WB c Φ env ρ l e1 (fun b l₁ => if b then Q true l₁ else WB c Φ env ρ l₁ e2 (fun b l₂ => if b then Q true l₂ else WB c Φ env ρ l₂ e3 Q))) : WB c Φ env ρ l (.BoolOp .Or [e1, e2, e3] p) Q := by
  refine ⟨fun ok I s F => ?_⟩
  show wpAny c.M Φ.A (do
    match BoolOp.Or, ← isTrue e1 env (eval e1 env) with
    | .And, false => pure false
    | .Or, true => pure true
    | _, _ => allTrue .Or [e2, e3] env) _ _ s
  refine wpAny_bind (wpull (h.run ok I s F) ?_)
  rintro b s₁ ⟨l₁, I₁, sb, F₁, q⟩
  cases b with
  | true => exact wpAny_pure ⟨l₁, I₁, sb, F₁, q⟩
  | false =>
    have := (WB.or (p := p) q).run ok I₁ s₁ F₁
    exact wpull (show wpAny c.M Φ.A (allTrue .Or [e2, e3] env) _ _ s₁ from this) fun _ _ R => R.pull sb
def eqPV : V → V → Option Bool
  | .str x, .str y => some (x == y)
  | .tup _, .str _ => some false
  | _, _ => none
theorem WB.eqP {e1 e2 : PySem.Expr} {p : Pos} {Q : Bool → Led → Prop}
    (h : WE c Φ env ρ l e1 (fun x l₁ => WE c Φ env ρ l₁ e2 (fun y l₂ => ∃ b, eqPV x y = some b ∧ Q b l₂))) (hm : behindInMarks .Eq e2 = false := by rfl) : WB c Φ env ρ l (.Compare e1 [.Eq] [e2] p) Q := by
  refine ⟨fun ok I s F => ?_⟩
  refine wpAny_isTrue_Compare1 (two ok F h fun x l₁ q => q.mono ?_) hm
  rintro y l₂ ⟨b, e, q⟩ I₂ s₂ v u sb F₂ S1 S2
  unfold eqPV at e
  split at e <;> cases e
  · cases S1; cases S2
    exact eq_str (truth_sim (I := I₂) (.bool _) rfl ⟨l₂, I₂, sb, F₂, q⟩)
  · cases S2
    cases S1 with
    | @tup a vs _ hm S =>
      have hu := ok.room.units
      have hc : (9000 : Nat) ≤ cLine := by decide +kernel
      have hT : s₂.heap.IsTuple a (List.toArray vs) := ⟨_, F₂.imm _ hm, rfl, 0, rfl⟩
      exact PySem.SeqAt.RcAt.tuple_str _ _ hT (by omega) c.prog c.w _ _ (truth_sim (I := I₂) (.bool _) rfl ⟨l₂, I₂, sb, F₂, q⟩)
end
/-! ## FXRules9 -/
section
variable {Φ : Fx} {ρ : Loc} {l : Led} {I : Imm} {s : Shared}
/-- the first entry of the ledger is another from now on -/
theorem FR.setHead {it : Addr} {o₁ o₂ : O} {ob : Obj} (F : FR Φ ρ ((it, o₁) :: l) I s) (h1 : ∀ r, RawOf I (it, o₁) r → ∃ o, r = [(it, o)]) {h' : Heap} {tk : Nat} (hs : Heap.SameBut it s.heap h') (ho : h'.get? it = some ob) (h2 : RawOf I (it, o₂) [(it, ob)]) :
    FR Φ ρ ((it, o₂) :: l) I { s with heap := h', toks := tk } := by
  obtain ⟨m, rs, W⟩ := F
  obtain ⟨R, news, nd⟩ := (⟨W.raws, W.news, W.nodup⟩ : _ ∧ _ ∧ _)
  cases R with
  | @cons _ r _ rs R Rs =>
    obtain ⟨o, rfl⟩ := h1 r R
    have z := news (it, o) (by simp)
    have nd' : (it :: ((rs.flatten ++ I).map (·.1))).Nodup := by simpa using nd
    rw [List.nodup_cons] at nd'
    have nw : News Φ.h₀ Φ.L h' ((it, ob) :: (rs.flatten ++ I)) := by
      intro p hp
      rcases List.mem_cons.mp hp with rfl | hp
      · exact ⟨ho, z.2⟩
      · have y := news p (by simp only [List.flatten_cons, List.cons_append, List.nil_append]; exact .tail _ hp)
        exact ⟨(hs.2 p.1 fun e => nd'.1 (e ▸ List.mem_map_of_mem (f := (·.1)) hp)).trans y.1, y.2⟩
    exact ⟨m, [(it, ob)] :: rs, ⟨FX.Fr.ext W.fr (fun b o e hb => (hs.2 b e).trans hb) z.2.1 z.2.2, W.loc, W.lnd, .cons h2 Rs, nw, by simpa using nd, W.gens, W.os⟩⟩
def nsP (o : Obj) : Prop := ∃ (m : Str → Option Value) (es : Array DictEntry) (ep : Nat), o.data = .dict es ep ∧ StrKeys es ∧ ∀ name, nsFind es name = m name
theorem raw1_obj {it : Addr} {P : Obj → Prop} : ∀ r, RawOf I (it, .obj P) r → ∃ o, r = [(it, o)] := fun r h => by cases h; exact ⟨_, rfl⟩
theorem raw1_ns {it : Addr} {x : Str} {z : V} : ∀ r, RawOf I (it, .ns x z) r → ∃ o, r = [(it, o)] := fun r h => by cases h; exact ⟨_, rfl⟩
theorem FR.nsWeak {C : Addr} {x : Str} {z : V} (F : FR Φ ρ ((C, .ns x z) :: l) I s) : FR Φ ρ ((C, .obj nsP) :: l) I s := by
  obtain ⟨m, rs, W⟩ := F
  have R := W.raws
  cases R with
  | @cons _ r _ rs R Rs =>
    cases R with
    | @ns _ o es ep mm _ v _ h1 h2 h3 h4 h5 => exact ⟨m, _, ⟨W.fr, W.loc, W.lnd, .cons (.obj ⟨mm, es, ep, h1, h2, h3⟩) Rs, W.news, W.nodup, W.gens, W.os⟩⟩
theorem FR.ns {C : Addr} {x : Str} {z : V} (F : FR Φ ρ l I s) (h : (C, O.ns x z) ∈ l) : ∃ m v, s.heap.Ns C m ∧ m x = some v ∧ Sim I v z := by
  obtain ⟨m, rs, W⟩ := F
  obtain ⟨pre, post, rfl⟩ := mem_split h
  obtain ⟨r₁, r, r₂, rfl, _, R, _⟩ := W.raws.split
  cases R with
  | @ns _ o es ep mm _ v _ h1 h2 h3 h4 h5 => exact ⟨mm, v, ⟨o, es, ep, (W.news (C, o) (by simp)).1, h1, h2, h3⟩, h4, h5⟩
end
theorem forIn_one {M : Model} {A : Around} {E : Value → Shared → Prop} {s : Shared} {env : Env} {ct : PySem.Expr} {Q : Bool → Shared → Prop} (h : wpAny M A (isTrue ct env (eval ct env)) Q E s) :
    wpAny M A (forIn [ct] true fun c r => if r = true then do let ok ← isTrue c env (eval c env); pure (ForInStep.yield ok) else pure (ForInStep.yield r)) Q E s := by
  rw [List.forIn_cons]
  rw [if_pos rfl]
  refine wpAny_bind (wpAny_bind (wpAny_mono h (fun b s' hb => wpAny_pure ?_) fun _ _ e => e))
  show wpAny M A (forIn [] b fun c r => if r = true then do let ok ← isTrue c env (eval c env); pure (ForInStep.yield ok) else pure (ForInStep.yield r)) Q E s'
  rw [List.forIn_nil]
  exact wpAny_pure hb
section
variable {c : Cx} {Φ : Fx} {env : Env} {ρ : Loc} {l : Led}
/-- the tests of a comprehension -/
structure WT (c : Cx) (Φ : Fx) (env : Env) (ρ : Loc) (l : Led) (ifs : List PySem.Expr) (Q : Bool → Led → Prop) : Prop where
  run : Φ.Ok c.K → ∀ I s, FR Φ ρ l I s → wpAny c.M Φ.A (forIn ifs true fun c r => if r = true then do let ok ← isTrue c env (eval c env); pure (ForInStep.yield ok) else pure (ForInStep.yield r)) (RetB Φ ρ I Q) NoE s
theorem WT.one {ct : PySem.Expr} {Q : Bool → Led → Prop} (h : WB c Φ env ρ l ct Q) : WT c Φ env ρ l [ct] Q := ⟨fun ok I s F => forIn_one (h.run ok I s F)⟩
theorem WT.none {Q : Bool → Led → Prop} (h : Q true l) : WT c Φ env ρ l [] Q := ⟨fun ok I s F => by rw [List.forIn_nil]; exact wpAny_pure ⟨l, I, .refl _, F, h⟩⟩
/-- a comprehension over a list -/
theorem WE.listComp {elt iter : PySem.Expr} {ifs : List PySem.Expr} {x : Str} {px pos : Pos} {scope : Scope} {cl : List (Str × Addr)} {Q : V → Led → Prop}
    (hclos : closureFor scope Φ.env = pure cl) (hcell : ∀ y ∈ scope.names, y.2 ≠ .cell) (hkind : scope.kind = .function)
    (hnames : ∀ y ∈ scope.names, y.2 = .local → scope.names.lookup y.1 = some .local) (hx : scope.names.lookup x = some .local)
    (h : WE c Φ Φ.env ρ l iter (fun xv l₁ => ∃ a xs, ∃ (p : V → Bool) (f : V → V), xv = .ref a ∧ (a, O.list xs) ∈ l₁ ∧ xs.length ≤ 100000 ∧
      (∀ (C : Addr) (e1 e2 : Addr × O) z, z ∈ xs → WT c Φ (compEnvC scope cl C Φ.env) ρ ((C, .ns x z) :: e1 :: e2 :: l₁) ifs (fun b l₂ => b = p z ∧ LSub ((C, .ns x z) :: e1 :: e2 :: l₁) l₂)) ∧
      (∀ (C : Addr) (e1 e2 : Addr × O) z, z ∈ xs → p z = true → WE c Φ (compEnvC scope cl C Φ.env) ρ ((C, .ns x z) :: e1 :: e2 :: l₁) elt (fun y l₂ => y = f z ∧ LSub ((C, .ns x z) :: e1 :: e2 :: l₁) l₂)) ∧
      ∀ D, Q (.ref D) ((D, .list ((xs.filter p).map f)) :: l₁)))
    (hs : ∀ v, foldedSetIterable iter Φ.env v = pure v := by intro _; rfl) : WE c Φ Φ.env ρ l (.ListComp elt [⟨.Name x px, iter, ifs, 0⟩] scope pos) Q := by
  refine ⟨fun ok I s F => ?_⟩
  rw [eval_ListComp]
  refine wpAny_comprehension_free (e := .ListComp elt [⟨.Name x px, iter, ifs, 0⟩] scope pos) (use := Option.none) (g := ⟨.Name x px, iter, ifs, 0⟩) (gs := []) rfl hs hclos hkind hnames (wpull (h.run ok I s F) ?_)
  rintro v s₁ ⟨xv, l₁, I₁, sb, F₁, S₁, a, xs, p, f, rfl, hm, hz, ht, he, q⟩
  cases S₁
  obtain ⟨vs, L, S⟩ := F₁.list hm
  refine wpAny_pyIter_list L ?_
  have F₂ := F₁.pushObj (tk := s₁.toks) (P := fun o => o.cls = .type "list_iterator" ∧ o.data = .fields #[.ref a, .int (0 : Nat) 0]) (o := { cls := .type "list_iterator", data := .fields #[.ref a, .int 0 0] }) ⟨rfl, rfl⟩
  generalize hI : s₁.heap.objs.size = It at F₂ ⊢
  generalize hs2 : ({ s₁ with heap := s₁.heap.push { cls := .type "list_iterator", data := .fields #[.ref a, .int 0 0] } } : Shared) = s₂ at F₂ ⊢
  obtain ⟨m, news, fr, nw, k⟩ := F₂.allocList (xs := [])
  refine wpAny_newObj_type (wpAny_newFunctionEnv hcell (by intro y hy; simp at hy) (fun h₁ hns₁ hsb₁ => ?_) hkind)
  dsimp only at hns₁ hsb₁ ⊢
  generalize hD : s₂.heap.objs.size = D at k ⊢
  have kk := k D [] 0 (s₂.heap.push { cls := .type "list", data := .seq #[] }) s₂.toks .nil (fr.push _) (by rw [← hD]; exact News.push fr nw _) (fun q hq => by rw [← hD]; exact Heap.lt_size (nw q hq).1)
  generalize hH2 : s₂.heap.push { cls := .type "list", data := .seq #[] } = H2 at kk hns₁ hsb₁ ⊢
  have F₃ : FR Φ ρ ((H2.objs.size, .obj nsP) :: (D, .list []) :: (It, .obj fun o => o.cls = .type "list_iterator" ∧ o.data = .fields #[.ref a, .int ((0 : Nat) : Int) 0]) :: l₁) I₁ { s₂ with heap := h₁, toks := s₂.toks } := by
    have P := kk.pushObj (tk := s₂.toks) (P := nsP) (o := { cls := .type "dict", data := .dict #[] }) ⟨fun _ => Option.none, #[], 0, rfl, fun e he => by simp at he, fun name => rfl⟩
    obtain ⟨o, es, ep, ho, hd, hk, hf⟩ := hns₁
    exact P.setHead raw1_obj hsb₁ ho (.obj ⟨_, es, ep, hd, hk, hf⟩)
  generalize hC : H2.objs.size = C at F₃ ⊢
  have loop : ∀ s₃ : Shared, s₃ = { s₂ with heap := h₁, toks := s₂.toks } → codeAny c.M Φ.A (.compLoop (.ListComp elt [⟨.Name x px, iter, ifs, 0⟩] scope pos) 0 (.ref It) (.ref D) (compEnvC scope cl C Φ.env)) (compPost c.M Φ.A NoE Option.none (Ret Φ ρ I Q) (.ref D) C) s₃ := by
    rintro s₃ rfl
    refine codeAny_compLoop_tests (fun n s' => ∃ i I', i + n = xs.length ∧ Sub I I' ∧ FR Φ ρ ((It, .obj fun o => o.cls = .type "list_iterator" ∧ o.data = .fields #[.ref a, .int (i : Int) 0]) :: (C, .obj nsP) :: (D, .list (((xs.take i).filter p).map f)) :: l₁) I' s') ?_ xs.length ⟨0, I₁, by omega, sb, ?_⟩
    · rintro n s₄ ⟨i, I₄, hin, sb₄, F₄⟩
      obtain ⟨o, ⟨hc, hd⟩, ho⟩ := F₄.obj (.head _)
      obtain ⟨vs, L, S⟩ := F₄.list (.tail _ (.tail _ (.tail _ hm)))
      have hI' : s₄.heap.IsListIter It a i := ⟨o, ho, hc, hd⟩
      cases hz' : xs[i]? with
      | none =>
        have hi : i = xs.length := by rw [List.getElem?_eq_none_iff] at hz'; omega
        subst hi
        refine wpAny_pyNext_list_end ok.room.handled hI' L (by simp; rw [S.length]; exact Nat.le_refl _) fun h' hx' => ?_
        have F₅ := F₄.dropObj (tk := s₄.toks) hx'
        obtain ⟨o', ⟨mm, es, ep, hd', hk', hf'⟩, ho'⟩ := F₅.obj (.head _)
        refine ⟨mm, ⟨o', es, ep, ho', hd', hk', hf'⟩, fun h'' hs'' => ?_⟩
        have F₆ := F₅.dropObj (tk := s₄.toks) hs''.extBut
        rw [List.take_length] at F₆
        exact ⟨.ref D, _, I₄, sb₄, F₆, .ref D, q D⟩
      | some z =>
        obtain ⟨hlt, hzz⟩ := List.getElem?_eq_some_iff.mp hz'
        have hzm : z ∈ xs := hzz ▸ List.getElem_mem hlt
        obtain ⟨wv, hw, Sw⟩ := S.get hz'
        refine wpAny_pyNext_list_item hI' L (x := wv) (by simpa using hw) fun h' hit' hs' => ?_
        obtain ⟨o', ho', hc', hd'⟩ := hit'
        have F₅ := F₄.setObj (P' := fun o => o.cls = .type "list_iterator" ∧ o.data = .fields #[.ref a, .int ((i + 1 : Nat) : Int) 0]) (tk := s₄.toks) hs' ho' ⟨hc', hd'⟩
        have F₆ := F₅.sub (l' := (C, .obj nsP) :: (It, .obj fun o => o.cls = .type "list_iterator" ∧ o.data = .fields #[.ref a, .int ((i + 1 : Nat) : Int) 0]) :: (D, .list (((xs.take i).filter p).map f)) :: l₁) (.of_perm (.swap _ _ _))
        obtain ⟨oC, ⟨mm, es, ep, hdC, hkC, hfC⟩, hoC⟩ := F₆.obj (.head _)
        dsimp only
        refine wpAny_assign_Name (wpAny_storeName_local (env := compEnvC scope cl C Φ.env) (m := mm) (lookup_relabel_local hx) ⟨oC, es, ep, hoC, hdC, hkC, hfC⟩ (fun h₂ hn₂ hsb₂ => ?_) (by simp [compEnvC, relabel, hkind]))
        obtain ⟨oC', es', ep', hoC', hdC', hkC', hfC'⟩ := hn₂
        have F₇ := F₆.setHead (o₂ := .ns x z) (tk := s₄.toks + 1) raw1_obj hsb₂ hoC' (.ns hdC' hkC' hfC' (if_pos rfl) Sw)
        refine wpAny_mono ((ht C _ _ z hzm).run ok I₄ _ F₇) ?_ noted_no
        rintro b s₅ ⟨l₂, I₅, sb₅, F₈, rfl, hl₂⟩
        have F₉ := F₈.sub hl₂
        have step : (xs.take (i + 1)) = xs.take i ++ [z] := by rw [List.take_add_one, hz']; rfl
        cases hpz : p z with
        | false =>
          rw [if_neg (by decide)]
          refine ⟨n - 1, by omega, i + 1, I₅, by omega, sb₄.trans sb₅, ?_⟩
          rw [step, List.filter_append, List.filter_cons, hpz]
          simp only [Bool.false_eq_true, if_false, List.filter_nil, List.append_nil]
          exact F₉.nsWeak.sub (.of_perm (.swap _ _ _))
        | true =>
          rw [if_pos rfl]
          refine wpAny_mono ((he C _ _ z hzm hpz).run ok I₅ _ F₉) ?_ noted_no
          rintro y s₆ ⟨yv, l₃, I₆, sb₆, F₁₀, Sy, rfl, hl₃⟩
          have F₁₁ := (F₁₀.sub hl₃).nsWeak.sub (l' := (It, .obj fun o => o.cls = .type "list_iterator" ∧ o.data = .fields #[.ref a, .int ((i + 1 : Nat) : Int) 0]) :: (C, .obj nsP) :: (D, .list (((xs.take i).filter p).map f)) :: l₁) (.of_perm (.swap _ _ _))
          obtain ⟨m5, ws, nn, pre, post, f5, N5, nd5, Sw5, mem5, k5⟩ := F₁₁.openList (.tail (.tail .head) : LUpd D (.list (((xs.take i).filter p).map f)) (.list (((xs.take i).filter p).map f ++ [f z])) _ _)
          have hlw := Sw5.length
          have hle : (((xs.take i).filter p).map f).length ≤ 100000 := by
            rw [List.length_map]
            exact Nat.le_trans (List.length_filter_le _ _) (Nat.le_trans (List.length_take_le _ _) (by omega))
          refine append_K f5 N5 (upd_at nd5) (fun h6 f6 N6 => ?_) (by rw [List.size_toArray]; exact sz (by omega))
          refine ⟨n - 1, by omega, i + 1, I₆, by omega, (sb₄.trans sb₅).trans sb₆, ?_⟩
          rw [step, List.filter_append, List.filter_cons, hpz, if_pos rfl, List.filter_nil, List.map_append, List.map_cons, List.map_nil]
          exact k5 (ws ++ [y]) (nn + 1) h6 s₆.toks (Sw5.append (.cons Sy .nil)) f6 (by simpa using N6)
    · refine F₃.sub (.of_perm ?_)
      simp only [List.take_zero, List.filter_nil, List.map_nil]
      exact List.perm_middle (l₁ := [_, _])
  refine codeAny_compStart_list (loop _ rfl) ?_
  obtain ⟨o, ⟨hc, hd⟩, ho⟩ := (F₃.sub (.of_perm (List.perm_middle (l₁ := [_, _]))) : FR Φ ρ ((It, _) :: _) I₁ _).obj (.head _)
  exact wpAny_pyIter_listiter (l := a) (i := 0) ⟨o, ho, hc, hd⟩ (loop _ rfl)
theorem FR.cellS {Φ : Fx} {ρ : Loc} {l : Led} {I : Imm} {s : Shared} {a : Addr} {z : V} (F : FR Φ ρ l I s) (h : (a, O.cell (some z)) ∈ l) : ∃ v, s.heap.IsCell a (some v) ∧ Sim I v z := by
  obtain ⟨m, rs, W⟩ := F
  obtain ⟨pre, post, rfl⟩ := mem_split h
  obtain ⟨r₁, r, r₂, rfl, _, R, _⟩ := W.raws.split
  cases R with
  | @cellS _ o v _ hd hs => exact ⟨v, ⟨o, (W.news (a, o) (by simp)).1, hd⟩, hs⟩
/-- the variable of a block -/
theorem WE.compVar {x : Str} {z : V} {C : Addr} {scope : Scope} {cl : List (Str × Addr)} {p : Pos} {Q : V → Led → Prop} (hm : (C, O.ns x z) ∈ l) (hk : (compEnvC scope cl C Φ.env).scope.kind = .function) (hl : (compEnvC scope cl C Φ.env).kindOf x = some .local) (q : Q z l)
    (hd : (x == ("__debug__" : Str)) = false := by decide) : WE c Φ (compEnvC scope cl C Φ.env) ρ l (.Name x p) Q := by
  refine ⟨fun ok I s F => ?_⟩
  obtain ⟨m, v, N, hv, S⟩ := F.ns hm
  exact wpAny_Name (wpAny_loadName_local hk hl N hv ⟨z, l, I, .refl _, F, S, q⟩) hd
/-- a captured variable, in a block -/
theorem WE.compCell {x : Str} {z : V} {C D : Addr} {scope : Scope} {cl : List (Str × Addr)} {p : Pos} {Q : V → Led → Prop} (hc : cl.lookup x = some D) (hm : (D, O.cell (some z)) ∈ l) (hk : (compEnvC scope cl C Φ.env).scope.kind = .function) (hl : (compEnvC scope cl C Φ.env).kindOf x = some .cell) (q : Q z l)
    (hd : (x == ("__debug__" : Str)) = false := by decide) : WE c Φ (compEnvC scope cl C Φ.env) ρ l (.Name x p) Q := by
  refine ⟨fun ok I s F => ?_⟩
  obtain ⟨v, hv, S⟩ := F.cellS hm
  exact wpAny_Name (wpAny_loadName_cell hk hl hc hv ⟨z, l, I, .refl _, F, S, q⟩) hd
/-- a captured variable, in its own frame -/
theorem WE.cellName {x : Str} {z : V} {D : Addr} {p : Pos} {Q : V → Led → Prop} (hc : Φ.cells.lookup x = some D) (hm : (D, O.cell (some z)) ∈ l) (hl : Φ.env.kindOf x = some .cell) (q : Q z l)
    (hd : (x == ("__debug__" : Str)) = false := by decide) : WE c Φ Φ.env ρ l (.Name x p) Q := by
  refine ⟨fun ok I s F => ?_⟩
  obtain ⟨v, hv, S⟩ := F.cellS hm
  exact wpAny_Name (wpAny_loadName_cell ok.kind hl hc hv ⟨z, l, I, .refl _, F, S, q⟩) hd
end
/-! ## FXRules10 -/
section
variable {c : Cx} {Φ : Fx} {env : Env} {ρ : Loc} {l l' : Led} {I : Imm} {s : Shared}
theorem FR.openCell {a : Addr} {o₁ : Option V} {z : V} (F : FR Φ ρ l I s) (U : LUpd a (.cell o₁) (.cell (some z)) l l') :
    (∃ v₀, s.heap.IsCell a v₀) ∧ ∀ h' v tk, h'.IsCell a (some v) → Sim I v z → Heap.SameBut a s.heap h' → FR Φ ρ l' I { s with heap := h', toks := tk } := by
  obtain ⟨p1, p2, rfl, rfl⟩ := U.split
  obtain ⟨m, rs, W⟩ := F
  obtain ⟨r₁, r, r₂, rfl, R1, R, R2⟩ := W.raws.split
  have key : ∃ o, r = [(a, o)] ∧ ∃ v₀, o.data = .cell v₀ := by
    cases R with
    | cellN h => exact ⟨_, rfl, _, h⟩
    | cellS h _ => exact ⟨_, rfl, _, h⟩
  obtain ⟨o, rfl, v₀, hd⟩ := key
  have N := W.news
  have D := W.nodup
  rw [flatten_mid] at N D
  have z0 := N (a, o) (by simp)
  refine ⟨⟨v₀, o, z0.1, hd⟩, fun h' v tk hc S hs => ?_⟩
  obtain ⟨o', ho', hd'⟩ := hc
  refine ⟨m, _, ⟨FX.Fr.ext W.fr (fun b ob hb e => (hs.2 b hb).trans e) z0.2.1 z0.2.2, W.loc, W.lnd, R1.join (.cellS (o := o') hd' S) R2, ?_, ?_, W.gens, W.os⟩⟩
  · rw [flatten_mid]
    intro p hp
    simp only [List.singleton_append] at hp D N
    rw [List.map_append, List.map_cons, List.nodup_append, List.nodup_cons] at D
    obtain ⟨d1, ⟨d2, d3⟩, d4⟩ := D
    rcases List.mem_append.mp hp with hp | hp
    · have y := N p (List.mem_append_left _ hp)
      exact ⟨(hs.2 p.1 fun e => d4 _ (List.mem_map_of_mem (f := (·.1)) hp) a (.head _) e).trans y.1, y.2⟩
    · rcases List.mem_cons.mp hp with rfl | hp
      · exact ⟨ho', z0.2⟩
      · have y := N p (List.mem_append_right _ (.tail _ hp))
        exact ⟨(hs.2 p.1 fun e => d2 (e ▸ List.mem_map_of_mem (f := (·.1)) hp)).trans y.1, y.2⟩
  · rw [flatten_mid]
    simp only [List.map_append, List.map_cons, List.singleton_append] at D ⊢
    exact D
end
section
variable {c : Cx} {Φ : Fx} {ρ : Loc} {l : Led} {rest : List Stmt} {Q : Fl → Loc → Led → Prop}
theorem WSs.assignCell {y : Str} {yp p : Pos} {e : PySem.Expr} {D : Addr} (hc : Φ.cells.lookup y = some D) (hl : Φ.env.kindOf y = some .cell)
    (h : WE c Φ Φ.env ρ l e (fun x l₁ => ∃ o₁ l₂, LUpd D (.cell o₁) (.cell (some x)) l₁ l₂ ∧ WSs c Φ ρ l₂ rest Q))
    (hs : swapsWith e (some (.Name y yp)) p.line Φ.env = pure false := by rfl) : WSs c Φ ρ l (.Assign [.Name y yp] e p :: rest) Q := by
  refine seqNext fun ok I s F => ?_
  refine wpAny_Assign_Name (wpull (h.run ok I s F) ?_) hs
  rintro v s' ⟨x, l', I', sb, F', S, o₁, l₂, U, q⟩
  obtain ⟨⟨v₀, h0⟩, k⟩ := F'.openCell U
  refine wpAny_storeName_cell ok.kind hl hc h0 fun h' hv hs' => ?_
  exact ⟨rfl, _, l₂, I', sb, k h' v s'.toks hv S hs', q⟩
end
/-! ## FXRules11 -/
theorem Sims.ints {I : Imm} : ∀ {vs : List Value} {ns : List Int}, Sims I vs (ns.map .int) → IntsAre vs ns
  | _, [], .nil => .nil
  | _, n :: ns, .cons (.int _ t) b => .cons n t b.ints
theorem Sims.ofInts {I : Imm} : ∀ {vs : List Value} {ns : List Int}, IntsAre vs ns → Sims I vs (ns.map .int)
  | _, _, .nil => .nil
  | _, _, .cons n t h => .cons (.int n t) (Sims.ofInts h)
section
variable {c : Cx} {Φ : Fx} {env : Env} {ρ : Loc} {l : Led}
/-- sorted(e), a list of fewer than 64 ints -/
theorem WE.sorted {np p : Pos} {e : PySem.Expr} {Q : V → Led → Prop} (hg : nsIn c.K mainGlobals "sorted" = some Option.none) (hk : Φ.scope.names.lookup ("sorted" : Str) = some .globalImplicit)
    (h : WE c Φ Φ.env ρ l e (fun x l₁ => ∃ (a : Addr) (ns : List Int), x = .ref a ∧ (a, O.list (ns.map V.int)) ∈ l₁ ∧ ns.length < 64 ∧ ∀ (D : Addr) (ns' : List Int), ns'.Perm ns → ns'.Pairwise (· ≤ ·) → Q (.ref D) ((D, .list (ns'.map .int)) :: l₁)))
    (he : starEach [e] Φ.env = [(false, eval e Φ.env)] := by rfl) : WE c Φ Φ.env ρ l (.Call (.Name "sorted" np) [e] [] p) Q := by
  refine ⟨fun ok I s F => ?_⟩
  refine Call_ (bname (v := .builtin "sorted") ok F hg (by decide +kernel) hk (PyProof.Rows.callWith_builtin1 (spliced_more (wpull (h.run ok I s F) ?_) he) he))
  rintro v s₁ ⟨x, l₁, I₁, sb, F₁, S₁, a, ns, rfl, hm, hz, q⟩
  cases S₁
  refine spliced_none ?_
  obtain ⟨vs, L, S⟩ := F₁.list hm
  obtain ⟨m, rs, W⟩ := id F₁
  refine kso_sorted W.fr W.news L S.ints hz fun D vs' ns' cc h' F' N' hl hi hlen hp hs _ => ?_
  exact ⟨.ref D, _, I₁, sb, ⟨m, _, ⟨F', W.loc, W.lnd, .cons (.list (n := cc) (Sims.ofInts hi)) W.raws, N', nodup_cons_fresh W.nodup hl, W.gens, W.os⟩⟩, .ref D, q D ns' hp hs⟩
/-- list + list -/
theorem WE.addList {e1 e2 : PySem.Expr} {p : Pos} {Q : V → Led → Prop}
    (h : WE c Φ env ρ l e1 (fun x l₁ => WE c Φ env ρ l₁ e2 (fun y l₂ => ∃ a b xs ys, x = .ref a ∧ y = .ref b ∧ (a, O.list xs) ∈ l₂ ∧ (b, O.list ys) ∈ l₂ ∧ xs.length + ys.length ≤ 100000 ∧ ∀ D, Q (.ref D) ((D, .list (xs ++ ys)) :: l₂)))) : WE c Φ env ρ l (.BinOp e1 .Add e2 p) Q := by
  refine ⟨fun ok I s F => ?_⟩
  refine wpAny_BinOp (two ok F h fun x l₁ q => q.mono ?_)
  rintro y l₂ ⟨a, b, xs, ys, rfl, rfl, ha, hb, hz, q⟩ I₂ s₂ v u sb F₂ S1 S2
  cases S1
  cases S2
  obtain ⟨vs, L, S⟩ := F₂.list ha
  obtain ⟨us, L', S'⟩ := F₂.list hb
  obtain ⟨m, rs, W⟩ := id F₂
  refine kmk_add_lit W.fr W.news L L' (zs := vs ++ us) (by simp) (fun D h' F' N' hl => ?_) (by rw [List.toList_toArray, List.toList_toArray, S.length, S'.length]; exact sz (by omega))
  exact ⟨.ref D, _, I₂, sb, ⟨m, _, ⟨F', W.loc, W.lnd, .cons (.list (n := 0) (S.append S')) W.raws, N', nodup_cons_fresh W.nodup hl, W.gens, W.os⟩⟩, .ref D, q D⟩
/-- list != list, of ints -/
theorem WB.neList {e1 e2 : PySem.Expr} {p : Pos} {Q : Bool → Led → Prop}
    (h : WE c Φ env ρ l e1 (fun x l₁ => WE c Φ env ρ l₁ e2 (fun y l₂ => ∃ (a b : Addr) (ns ms : List Int), x = .ref a ∧ y = .ref b ∧ (a, O.list (ns.map V.int)) ∈ l₂ ∧ (b, O.list (ms.map V.int)) ∈ l₂ ∧ Q (!decide (ns = ms)) l₂))) (hm : behindInMarks .NotEq e2 = false := by rfl) : WB c Φ env ρ l (.Compare e1 [.NotEq] [e2] p) Q := by
  refine ⟨fun ok I s F => ?_⟩
  refine wpAny_isTrue_Compare1 (two ok F h fun x l₁ q => q.mono ?_) hm
  rintro y l₂ ⟨a, b, ns, ms, rfl, rfl, ha, hb, q⟩ I₂ s₂ v u sb F₂ S1 S2
  cases S1
  cases S2
  obtain ⟨vs, L, S⟩ := F₂.list ha
  obtain ⟨us, L', S'⟩ := F₂.list hb
  have hu := ok.room.units
  have hc : (9100 : Nat) ≤ cLine := by decide +kernel
  exact ne_intsK L S.ints L' S'.ints (by omega) (truth_sim (I := I₂) (.bool _) rfl ⟨l₂, I₂, sb, F₂, q⟩)
end
/-! ## FXRules12 -/
/-- a call, its arguments put together by mk -/
def SpecG (c : Cx) (f : Value) (mk : List Value → Args) (xs : List V) (n : Nat) (l : Led) (Q : V → Led → Prop) : Prop :=
  ∀ (Φ : Fx) (A : Around) (ρ : Loc) (I : Imm) (s : Shared) (vs : List Value), Φ.Ok c.K → A.frames = some (Φ.env :: Φ.outer) → Room A n → FR Φ ρ l I s → Sims I vs xs →
    codeAny c.M A (.call f (mk vs)) (fun r s' => ∃ v, r = .ok (.ret v) ∧ Ret Φ ρ I Q v s') s
section
variable {c : Cx} {l : Led} {Q : V → Led → Prop}
theorem SpecG.fnB {mk : List Value → Args} {f : Addr} {oc od osl name qual params body scope dV kV doc pm an cdv ct} {xs : List V} {n : Nat} (ρ : Loc) (names us : List Str)
    (ho : c.K.lookup f = some ⟨oc, od, .func (fnX name qual params body scope [] dV kV doc pm an cdv ct), osl⟩) (hcd : codeIn c.K cdv qual = true)
    (hb : ∀ s vs, c.K.In s.heap → vs.length = xs.length → BindsTo s (fnX name qual params body scope [] dV kV doc pm an cdv ct) (mk vs) (names.zip vs))
    (hlen : names.length = xs.length) (hnd : (names ++ us).Nodup)
    (hρ : ρ = names.zip xs ++ us.map fun u => (u, V.unb))
    (hloc : ((names ++ us).all fun y => scope.names.lookup y == some .local) = true)
    (h : ∀ Φ : Fx, Φ.scope = scope → Φ.rm = n → WSs c Φ ρ l body (Back Q))
    (hco : scope.isCoroutine = false := by rfl) (hgen : scope.isGenerator = false := by rfl) (hk : scope.kind = .function := by rfl) (hcell : (scope.names.all fun x => x.2 != .cell) = true := by rfl) : SpecG c (.ref f) mk xs (n + 1) l Q := by
  intro Φ A ρ₀ I s vs ok hA hr F S
  obtain ⟨m, rs, W⟩ := F
  have X := ok.kin.keeps W.fr.keep
  have hl : vs.length = names.length := by rw [S.length, hlen]
  have kinds : ∀ y ∈ names ++ us, scope.names.lookup y = some .local := fun y hy => by
    have := List.all_eq_true.mp hloc y hy
    exact beq_iff_eq.mp this
  refine callX_plain (binds := names.zip vs) (L := Φ.L) ok.below W.fr W.news ok.top.nolimit hA rfl ok.kind (X _ _ ho) rfl (codeRec_of X hcd) (by have := hr.depth; rw [show recursionLimit = 1000 from rfl]; omega)
    (hb s vs X S.length) (fun y hy => kinds _ (List.mem_append_left _ (List.of_mem_zip hy).1)) ?_ (fun x hx => by have := List.all_eq_true.mp hcell x hx; exact bne_iff_ne.mp this) hco hgen hk
  intro g L' h₁ Fg F' N' B' st hlt
  let Ψ : Fx := { A₀ := A, base := Φ.base, outer := Φ.env :: Φ.outer, qual := qual, scope := scope, L := L', fa := f, cd := cdv, cells := [], h₀ := g, os := Φ.os, rm := n }
  have okΨ : Ψ.Ok c.K := ⟨hk, B', ok.kin.keeps st, ok.top.keeps st, hr.deeper⟩
  have FΨ : FR Ψ ρ l I { s with heap := h₁, toks := s.toks + (names.zip vs).length } := by
    have hnd' := (List.nodup_append.mp hnd).1
    refine ⟨_, rs, ⟨F', fun y x e => ?_, ?_, W.raws, N', W.nodup, W.gens, W.os⟩⟩
    · subst hρ
      rcases List.mem_append.mp e with e | e
      · obtain ⟨hy, v, hv, Sv⟩ := mem_zip S hlen hnd' e
        exact ⟨kinds y (List.mem_append_left _ hy), fun _ => ⟨v, by rw [lookup_rev y hl hnd']; exact hv, Sv⟩⟩
      · obtain ⟨u, hu, q⟩ := List.mem_map.mp e
        cases q
        exact ⟨kinds y (List.mem_append_right _ hu), fun hn => (hn rfl).elim⟩
    · subst hρ
      rw [List.map_append, List.map_fst_zip (by rw [hlen]; exact Nat.le_refl _), List.map_map]
      have : us.map ((fun x : Str × V => x.1) ∘ fun u => (u, V.unb)) = us := by
        rw [show ((fun x : Str × V => x.1) ∘ fun u => (u, V.unb)) = id from rfl, List.map_id]
      rw [this]
      exact hnd
  refine wpAny_mono ((h Ψ rfl rfl).run okΨ I _ FΨ) ?_ (fun _ _ x => x.elim)
  rintro fl s' ⟨y, ρ', l', I', sb, ⟨m', rs', W'⟩, Sf, q⟩
  have fin : ∀ v x, Sim I' v x → Q x l' → LeaveK Φ.h₀ Φ.L m g (fun r s' => ∃ v, r = .ok (.ret v) ∧ Ret Φ ρ₀ I Q v s') v s' := by
    intro v x Sv q
    refine leaveK_ W'.fr W'.news fun F₂ N₂ => ⟨v, rfl, x, l', I', sb, ⟨m, rs', ⟨F₂, fun y u e => ?_, W.lnd, W'.raws, N₂, W'.nodup, W'.gens, W'.os⟩⟩, Sv, q⟩
    obtain ⟨k, hk⟩ := W.loc y u e
    exact ⟨k, fun hu => let ⟨w, hw, Sw⟩ := hk hu; ⟨w, hw, Sw.mono sb⟩⟩
  cases Sf with
  | next => exact fin .none .none .none q
  | brk => exact q.elim
  | cont => exact q.elim
  | ret Sv => exact fin _ _ Sv q
/-- a function of two parameters, the second one captured -/
theorem Spec.fnC2 {f : Addr} {oc od osl name qual params body scope kV doc pm an cdv ct} {x y : V} {n : Nat} (p1 p2 : Str) (hn : 1 ≤ n)
    (ho : c.K.lookup f = some ⟨oc, od, .func (fnX name qual params body scope [] .none kV doc pm an cdv ct), osl⟩) (hcd : codeIn c.K cdv qual = true)
    (hb : ∀ a b, bindArgs (fnX name qual params body scope [] .none kV doc pm an cdv ct) ⟨[a, b], []⟩ = pure [(p1, a), (p2, b)])
    (hne : p1 ≠ p2) (h1 : scope.names.lookup p1 = some .local) (h2 : scope.names.lookup p2 = some .cell) (hc : ∀ n, cellsFrom n scope.names [] = [(p2, n)])
    (h : ∀ (Φ : Fx) (C : Addr), Φ.scope = scope → Φ.rm + 1 = n → Φ.cells = [(p2, C)] → WSs c Φ [(p1, x)] ((C, .cell (some y)) :: l) body (Back Q))
    (hco : scope.isCoroutine = false := by rfl) (hgen : scope.isGenerator = false := by rfl) (hk : scope.kind = .function := by rfl) : Spec c (.ref f) [x, y] n l Q := by
  obtain ⟨n, rfl⟩ : ∃ k, n = k + 1 := ⟨n - 1, by omega⟩
  intro Φ A ρ₀ I s vs ok hA hr F S
  obtain ⟨m, rs, W⟩ := F
  have X := ok.kin.keeps W.fr.keep
  cases S with
  | @cons v1 _ vs _ S1 S =>
  cases S with
  | @cons v2 _ vs _ S2 S =>
  cases S
  refine callX_cells (binds := [(p1, v1), (p2, v2)]) (L := Φ.L) ok.below W.fr W.news ok.top.nolimit hA rfl ok.kind (X _ _ ho) rfl (codeRec_of X hcd) (by have := hr.depth; rw [show recursionLimit = 1000 from rfl]; omega)
    (.of_eq (hb v1 v2)) (fun k z hz => ?_) (by rw [hc]; simp) ?_ hco hgen hk
  · rcases List.mem_cons.mp hz with rfl | hz
    · exact .inl h1
    · obtain rfl := List.mem_singleton.mp hz
      exact .inr ⟨h2, by rw [hc]; simp⟩
  intro g L' h₁ tk cells Fg F' N' Cl' B' st hlt
  rw [hc] at Cl'
  obtain ⟨oC, rfl, hoC⟩ := Cl'.one
  have kL : (envOfC qual scope L' f cdv).kindOf p1 = some .local := h1
  have kC : (envOfC qual scope L' f cdv).kindOf p2 = some .cell := h2
  have eC : bindC (envOfC qual scope L' f cdv).kindOf [(p1, v1), (p2, v2)] (fun _ => none) p2 = some v2 := by
    simp only [bindC, kL, kC, if_true]
    rw [if_neg (by decide), if_pos rfl]
  have eL : bindL (envOfC qual scope L' f cdv).kindOf [(p1, v1), (p2, v2)] (fun _ => none) p1 = some v1 := by
    simp only [bindL, kL, kC, if_true]
    rw [if_neg (by decide), if_pos rfl]
  rw [eC] at hoC
  let Ψ : Fx := { A₀ := A, base := Φ.base, outer := Φ.env :: Φ.outer, qual := qual, scope := scope, L := L', fa := f, cd := cdv, cells := [(p2, L' + 1)], h₀ := g, os := Φ.os, rm := n }
  have eE : envOfC qual scope L' f cdv = Ψ.env := by
    show envX qual scope L' f cdv (cellsFrom (L' + 1) scope.names []) = _
    rw [hc]
  have okΨ : Ψ.Ok c.K := ⟨hk, B', ok.kin.keeps st, ok.top.keeps st, hr.deeper⟩
  have FΨ : FR Ψ [(p1, x)] ((L' + 1, .cell (some y)) :: l) I { s with heap := h₁, toks := tk } := by
    refine ⟨_, [(L' + 1, oC)] :: rs, ⟨F', fun z u e => ?_, by simp, .cons (.cellS hoC S2) W.raws, N', ?_, W.gens, W.os⟩⟩
    · obtain rfl := List.mem_singleton.mp e |> fun e => (Prod.mk.inj e).1
      cases List.mem_singleton.mp e
      exact ⟨h1, fun _ => ⟨v1, eL, S1⟩⟩
    · exact nodup_cons_fresh W.nodup fun q hq => Nat.lt_succ_of_lt (hlt q hq)
  rw [eE]
  refine wpAny_mono ((h Ψ (L' + 1) rfl rfl rfl).run okΨ I _ FΨ) ?_ (fun _ _ x => x.elim)
  rintro fl s' ⟨y', ρ', l', I', sb, ⟨m', rs', W'⟩, Sf, q⟩
  have fin : ∀ v x, Sim I' v x → Q x l' → LeaveK Φ.h₀ Φ.L m g (fun r s' => ∃ v, r = .ok (.ret v) ∧ Ret Φ ρ₀ I Q v s') v s' := by
    intro v x Sv q
    refine leaveK_ W'.fr W'.news fun F₂ N₂ => ⟨v, rfl, x, l', I', sb, ⟨m, rs', ⟨F₂, fun y u e => ?_, W.lnd, W'.raws, N₂, W'.nodup, W'.gens, W'.os⟩⟩, Sv, q⟩
    obtain ⟨k, hk⟩ := W.loc y u e
    exact ⟨k, fun hu => let ⟨w, hw, Sw⟩ := hk hu; ⟨w, hw, Sw.mono sb⟩⟩
  cases Sf with
  | next => exact fin .none .none .none q
  | brk => exact q.elim
  | cont => exact q.elim
  | ret Sv => exact fin _ _ Sv q
end
section
variable {c : Cx} {Φ : Fx} {env : Env} {ρ : Loc} {l : Led}
theorem any_int (k : Int) (ns : List Int) : ns.any (· == k) = decide (k ∈ ns) := by
  rw [Bool.eq_iff_iff]; simp
/-- k in xs, of ints -/
theorem WB.inInts {e1 e2 : PySem.Expr} {p : Pos} {Q : Bool → Led → Prop}
    (h : WE c Φ env ρ l e1 (fun x l₁ => WE c Φ env ρ l₁ e2 (fun y l₂ => ∃ (k : Int) (a : Addr) (ns : List Int), x = .int k ∧ y = .ref a ∧ (a, O.list (ns.map V.int)) ∈ l₂ ∧ Q (decide (k ∈ ns)) l₂))) (hm : behindInMarks .In e2 = false := by rfl) : WB c Φ env ρ l (.Compare e1 [.In] [e2] p) Q := by
  refine ⟨fun ok I s F => ?_⟩
  refine wpAny_isTrue_Compare1 (two ok F h fun x l₁ q => q.mono ?_) hm
  rintro y l₂ ⟨k, a, ns, rfl, rfl, ha, q⟩ I₂ s₂ v u sb F₂ S1 S2
  cases S1
  cases S2
  obtain ⟨vs, L, S⟩ := F₂.list ha
  refine in_list_ints L S.ints ?_
  rw [any_int]
  exact truth_sim (I := I₂) (.bool _) rfl ⟨l₂, I₂, sb, F₂, q⟩
theorem WE.inInts {e1 e2 : PySem.Expr} {p : Pos} {Q : V → Led → Prop}
    (h : WE c Φ env ρ l e1 (fun x l₁ => WE c Φ env ρ l₁ e2 (fun y l₂ => ∃ (k : Int) (a : Addr) (ns : List Int), x = .int k ∧ y = .ref a ∧ (a, O.list (ns.map V.int)) ∈ l₂ ∧ Q (.bool (decide (k ∈ ns))) l₂))) (hm : behindInMarks .In e2 = false := by rfl) : WE c Φ env ρ l (.Compare e1 [.In] [e2] p) Q := by
  refine ⟨fun ok I s F => ?_⟩
  refine wpAny_Compare1 (two ok F h fun x l₁ q => q.mono ?_) hm
  rintro y l₂ ⟨k, a, ns, rfl, rfl, ha, q⟩ I₂ s₂ v u sb F₂ S1 S2
  cases S1
  cases S2
  obtain ⟨vs, L, S⟩ := F₂.list ha
  refine in_list_ints L S.ints ?_
  rw [any_int]
  exact ⟨_, l₂, I₂, sb, F₂, .bool _, q⟩
theorem any_bool {I : Imm} (b : Bool) : ∀ {vs : List Value} {bs : List Bool}, Sims I vs (bs.map V.bool) → (vs.any fun v => match v with | .bool a => a == b | _ => false) = bs.any (· == b)
  | _, [], .nil => rfl
  | _, a :: bs, .cons (.bool _) r => by rw [List.any_cons, List.any_cons, any_bool b r]
theorem mem_bool {I : Imm} : ∀ {vs : List Value} {bs : List Bool}, Sims I vs (bs.map V.bool) → ∀ v ∈ vs, ∃ a, v = .bool a
  | _, [], .nil, _, h => by cases h
  | _, a :: bs, .cons (.bool _) r, v, h => by
    rcases List.mem_cons.mp h with rfl | h
    · exact ⟨a, rfl⟩
    · exact mem_bool r v h
/-- b not in xs, of bools -/
theorem WB.notInBools {e1 e2 : PySem.Expr} {p : Pos} {Q : Bool → Led → Prop}
    (h : WE c Φ env ρ l e1 (fun x l₁ => WE c Φ env ρ l₁ e2 (fun y l₂ => ∃ (b : Bool) (a : Addr) (bs : List Bool), x = .bool b ∧ y = .ref a ∧ (a, O.list (bs.map V.bool)) ∈ l₂ ∧ Q (!(bs.any (· == b))) l₂))) (hm : behindInMarks .NotIn e2 = false := by rfl) : WB c Φ env ρ l (.Compare e1 [.NotIn] [e2] p) Q := by
  refine ⟨fun ok I s F => ?_⟩
  refine wpAny_isTrue_Compare1 (two ok F h fun x l₁ q => q.mono ?_) hm
  rintro y l₂ ⟨b, a, bs, rfl, rfl, ha, q⟩ I₂ s₂ v u sb F₂ S1 S2
  cases S1
  cases S2
  obtain ⟨vs, L, S⟩ := F₂.list ha
  refine PySem.SeqAt.notIn_listAt (fun v => match v with | .bool a => a == b | _ => false) L (fun y hy => ?_) ?_
  · obtain ⟨a, rfl⟩ := mem_bool S y (by simpa using hy)
    exact PySem.SeqAt.EqAt.bool_bool a b
  rw [← Array.any_toList, show vs.toArray.toList = vs from rfl, any_bool b S]
  exact truth_sim (I := I₂) (.bool _) rfl ⟨l₂, I₂, sb, F₂, q⟩
/-! in, not in, len: an object's own -/
def ownOk (K : Frag) (C : Addr) (name : Str) (f : Addr) : Bool := findIn K (.ref C) name == some (some (.ref f)) && isFn K (.ref f)
theorem own_call {A : Around} {f : Addr} {xs : List V} {vs : List Value} {n : Nat} {I : Imm} {s : Shared} {Q : V → Led → Prop} (ok : Φ.Ok c.K) (hA : A.frames = some (Φ.env :: Φ.outer)) (hr : Room A n) (F : FR Φ ρ l I s) (S : Sims I vs xs) (h : Spec c (.ref f) xs n l Q) :
    wpAny c.M A (call (.ref f) vs) (Ret Φ ρ I Q) NoE s := by
  refine wpAny_call (codeAny_mono (h Φ A ρ I s vs ok hA hr F S) ?_)
  rintro r s₂ ⟨v, rfl, R⟩
  exact R
theorem WB.notInOwn {e1 e2 : PySem.Expr} {p : Pos} {Q : Bool → Led → Prop}
    (h : WE c Φ env ρ l e1 (fun x l₁ => WE c Φ env ρ l₁ e2 (fun y l₂ => ∃ a C fs f, y = .ref a ∧ (a, O.inst C fs) ∈ l₂ ∧ ownOk c.K C "__contains__" f = true ∧ Spec c (.ref f) [.ref a, x] Φ.rm l₂ (fun r l₃ => ∃ b, r = .bool b ∧ Q (!b) l₃)))) (hm : behindInMarks .NotIn e2 = false := by rfl) : WB c Φ env ρ l (.Compare e1 [.NotIn] [e2] p) Q := by
  refine ⟨fun ok I s F => ?_⟩
  refine wpAny_isTrue_Compare1 (two ok F h fun x l₁ q => q.mono ?_) hm
  rintro y l₂ ⟨a, C, fs, f, rfl, ha, ho, q⟩ I₂ s₂ v u sb F₂ S1 S2
  cases S2
  obtain ⟨d, es, n, IA, D⟩ := F₂.inst ha
  obtain ⟨m, rs, W⟩ := id F₂
  unfold ownOk at ho
  simp only [Bool.and_eq_true, beq_iff_eq] at ho
  refine notIn_K W.fr ok.kin IA ho.1 ho.2 (wpull (own_call ok ok.frames ok.room F₂ (.cons (.ref a) (.cons S1 .nil)) q) ?_)
  rintro r s₃ ⟨x', l₃, I₃, sb₃, F₃, S₃, b, rfl, q⟩
  refine truth_sim S₃ rfl ?_
  exact truth_sim (I := I₃) (.bool _) rfl ⟨l₃, I₃, sb.trans sb₃, F₃, q⟩
theorem WE.inOwn {e1 e2 : PySem.Expr} {p : Pos} {Q : V → Led → Prop}
    (h : WE c Φ env ρ l e1 (fun x l₁ => WE c Φ env ρ l₁ e2 (fun y l₂ => ∃ a C fs f, y = .ref a ∧ (a, O.inst C fs) ∈ l₂ ∧ ownOk c.K C "__contains__" f = true ∧ Spec c (.ref f) [.ref a, x] Φ.rm l₂ (fun r l₃ => ∃ b, r = .bool b ∧ Q (.bool b) l₃)))) (hm : behindInMarks .In e2 = false := by rfl) : WE c Φ env ρ l (.Compare e1 [.In] [e2] p) Q := by
  refine ⟨fun ok I s F => ?_⟩
  refine wpAny_Compare1 (two ok F h fun x l₁ q => q.mono ?_) hm
  rintro y l₂ ⟨a, C, fs, f, rfl, ha, ho, q⟩ I₂ s₂ v u sb F₂ S1 S2
  cases S2
  obtain ⟨d, es, n, IA, D⟩ := F₂.inst ha
  obtain ⟨m, rs, W⟩ := id F₂
  unfold ownOk at ho
  simp only [Bool.and_eq_true, beq_iff_eq] at ho
  refine in_K W.fr ok.kin IA ho.1 ho.2 (wpull (own_call ok ok.frames ok.room F₂ (.cons (.ref a) (.cons S1 .nil)) q) ?_)
  rintro r s₃ ⟨x', l₃, I₃, sb₃, F₃, S₃, b, rfl, q⟩
  exact truth_sim S₃ rfl ⟨_, l₃, I₃, sb.trans sb₃, F₃, .bool _, q⟩
theorem WE.lenOwn {np p : Pos} {e : PySem.Expr} {Q : V → Led → Prop} (hg : nsIn c.K mainGlobals "len" = some Option.none) (hk : Φ.scope.names.lookup ("len" : Str) = some .globalImplicit)
    (h : WE c Φ Φ.env ρ l e (fun x l₁ => ∃ a C fs f, x = .ref a ∧ (a, O.inst C fs) ∈ l₁ ∧ ownOk c.K C "__len__" f = true ∧ Spec c (.ref f) [.ref a] (Φ.rm - 1) l₁ (fun r l₂ => ∃ n : Nat, r = .int n ∧ n ≤ 1000000 ∧ Q (.int n) l₂)))
    (hrm : 1 ≤ Φ.rm)
    (he : starEach [e] Φ.env = [(false, eval e Φ.env)] := by rfl) : WE c Φ Φ.env ρ l (.Call (.Name "len" np) [e] [] p) Q := by
  refine ⟨fun ok I s F => ?_⟩
  refine Call_ (bname (v := .builtin "len") ok F hg (by decide +kernel) hk (PyProof.Rows.callWith_builtin1 (spliced_more (wpull (h.run ok I s F) ?_) he) he))
  rintro v s₁ ⟨x, l₁, I₁, sb, F₁, S₁, a, C, fs, f, rfl, ha, ho, q⟩
  cases S₁
  refine spliced_none ?_
  obtain ⟨d, es, n, IA, D⟩ := F₁.inst ha
  obtain ⟨m, rs, W⟩ := id F₁
  unfold ownOk at ho
  simp only [Bool.and_eq_true, beq_iff_eq] at ho
  refine PySem.W.len_K W.fr ok.kin IA ho.1 ho.2 (wpull (own_call (A := Φ.A.in1) (n := Φ.rm - 1) ok ok.frames ⟨?_, ?_, ok.room.handled⟩ F₁ (.cons (.ref a) .nil) q) ?_)
  · have := ok.room.depth
    have e1 : Φ.A.in1.depth = Φ.A.depth := by rfl
    omega
  · have := ok.room.units
    have e1 : Φ.A.in1.units ≤ Φ.A.units + 8 := by show Φ.A.units + 1 ≤ _; omega
    omega
  rintro r s₃ ⟨x', l₃, I₃, sb₃, F₃, S₃, b, rfl, hb, q⟩
  cases S₃
  exact ⟨⟨by omega, by omega⟩, .int b, l₃, I₃, sb.trans sb₃, F₃.toks, .int _ _, q⟩
/-! a list that was there before -/
theorem WB.truthOld {e : PySem.Expr} {Q : Bool → Led → Prop} (h : WE c Φ env ρ l e (fun x l₁ => ∃ (a : Addr) (vs : List Value), x = .ref a ∧ Φ.h₀.IsList a vs.toArray ∧ vs.length ≤ 1000 ∧ Q (!vs.isEmpty) l₁))
    (he : isTrue e env (eval e env) = (do
      let v ← eval e env
      standAt e.pos
      holding [v] (truthy v)) := by rfl) : WB c Φ env ρ l e Q := by
  refine ⟨fun ok I s F => ?_⟩
  rw [he]
  refine wpAny_bind (wpull (h.run ok I s F) ?_)
  rintro v s₁ ⟨x, l₁, I₁, sb, F₁, S₁, a, vs, rfl, hl, hz, q⟩
  cases S₁
  have hl' : s₁.heap.IsList a vs.toArray := let ⟨o, ho, r⟩ := hl; ⟨o, F₁.keep _ _ ho, r⟩
  refine wpAny_bind (wpAny_standAt (wpAny_holding (wpAny_truthy_list hl' (by simp; omega) ⟨l₁, I₁, sb, F₁.toks, ?_⟩)))
  simpa using q
theorem WE.lenOld {np p : Pos} {e : PySem.Expr} {Q : V → Led → Prop} (hg : nsIn c.K mainGlobals "len" = some Option.none) (hk : Φ.scope.names.lookup ("len" : Str) = some .globalImplicit)
    (h : WE c Φ Φ.env ρ l e (fun x l₁ => ∃ (a : Addr) (vs : List Value), x = .ref a ∧ Φ.h₀.IsList a vs.toArray ∧ vs.length ≤ 1000 ∧ Q (.int vs.length) l₁))
    (he : starEach [e] Φ.env = [(false, eval e Φ.env)] := by rfl) : WE c Φ Φ.env ρ l (.Call (.Name "len" np) [e] [] p) Q := by
  refine ⟨fun ok I s F => ?_⟩
  refine Call_ (bname (v := .builtin "len") ok F hg (by decide +kernel) hk (PyProof.Rows.callWith_builtin1 (spliced_more (wpull (h.run ok I s F) ?_) he) he))
  rintro v s₁ ⟨x, l₁, I₁, sb, F₁, S₁, a, vs, rfl, hl, hz, q⟩
  cases S₁
  refine spliced_none ?_
  have hl' : s₁.heap.IsList a vs.toArray := let ⟨o, ho, r⟩ := hl; ⟨o, F₁.keep _ _ ho, r⟩
  exact len_list hl' (by rw [List.size_toArray]; omega) ⟨.int vs.length, l₁, I₁, sb, F₁.toks, by rw [List.size_toArray]; exact .int _ _, q⟩
theorem ints_get {I : Imm} : ∀ {vs : List Value} {ns : List Int} {i : Nat}, IntsAre vs ns → ∀ {n}, ns[i]? = some n → ∃ t, vs[i]? = some (.int n t)
  | _, _, 0, .cons n t _, _, e => by cases e; exact ⟨t, rfl⟩
  | _, _, i + 1, .cons _ _ h, _, e => by simpa using ints_get (I := I) (i := i) h (by simpa using e)
  | _, _, _, .nil, _, e => by cases e
theorem WE.itemOld {e i : PySem.Expr} {p : Pos} {Q : V → Led → Prop}
    (h : WE c Φ env ρ l e (fun x l₁ => WE c Φ env ρ l₁ i (fun y l₂ => ∃ (a : Addr) (vs : List Value) (ns : List Int) (k z : Int), x = .ref a ∧ Φ.h₀.IsList a vs.toArray ∧ IntsAre vs ns ∧ y = .int k ∧ 0 ≤ k ∧ k < 1000000 ∧ ns[k.toNat]? = some z ∧ Q (.int z) l₂)))
    (hs : ∀ a k t, subscripted i false (.ref a) (.int k t) = operate [.ref a, .int k t] (getItem (.ref a) (.int k t)) := by intro _ _ _; rfl) : WE c Φ env ρ l (.Subscript e i p) Q := by
  refine ⟨fun ok I s F => ?_⟩
  refine Subscript_ (two ok F h fun x l₁ q => q.mono ?_)
  rintro y l₂ ⟨a, vs, ns, k, z, rfl, hl, hi, rfl, h0, h1, hx, q⟩ I₂ s₂ v u sb F₂ S1 S2
  cases S1
  cases S2
  have hl' : s₂.heap.IsList a vs.toArray := let ⟨o, ho, r⟩ := hl; ⟨o, F₂.keep _ _ ho, r⟩
  obtain ⟨t, hw⟩ := ints_get (I := I₂) hi hx
  exact item_litK hl' h0 (by omega) hw ⟨.int z, l₂, I₂, sb, F₂, .int z t, q⟩ (hs _ _ _)
theorem WE.sliceOld {e : PySem.Expr} {lo hi : Option PySem.Expr} {sp p : Pos} {Q : V → Led → Prop}
    (h : WE c Φ env ρ l e (fun x l₁ => WO c Φ env ρ l₁ lo (fun y l₂ => WO c Φ env ρ l₂ hi (fun z l₃ => ∃ (a : Addr) (vs : List Value) (ns : List Int) (lo' hi' : Option Int), x = .ref a ∧ Φ.h₀.IsList a vs.toArray ∧ IntsAre vs ns ∧ ns.length ≤ 1000000 ∧ partV y lo' ∧ partV z hi' ∧
      ∀ b, Q (.ref b) ((b, .list (pickV (ns.map .int) lo' hi')) :: l₃))))) : WE c Φ env ρ l (.Subscript e (.Slice lo hi Option.none sp) p) Q := by
  refine ⟨fun ok I s F => ?_⟩
  refine Subscript_ (wpull (h.run ok I s F) ?_)
  rintro v s₁ ⟨x, l₁, I₁, sb₁, F₁, S₁, h₁⟩
  refine wpAny_Slice (wpull (wo_run ok F₁ h₁) ?_)
  rintro v1 s₂ ⟨y, l₂, I₂, sb₂, F₂, S₂, h₂⟩
  refine wpull (wo_run ok F₂ h₂) ?_
  rintro v2 s₃ ⟨z, l₃, I₃, sb₃, F₃, S₃, a, vs, ns, lo', hi', rfl, hl, hin, hz, py, pz, q⟩
  refine evalPart_none_step ?_
  have S₁' := S₁.mono (sb₂.trans sb₃)
  cases S₁'
  have part : ∀ {I : Imm} {v : Value} {x : V} {o : Option Int}, Sim I v x → partV x o → IsPart v o := by
    intro I v x o S h
    cases S <;> first | exact h.elim | (cases h; constructor)
  have L : s₃.heap.IsList a vs.toArray := let ⟨o, ho, r⟩ := hl; ⟨o, F₃.keep _ _ ho, r⟩
  have S : Sims I₃ vs (ns.map .int) := Sims.ofInts hin
  have e0 : vs.length = ns.length := by rw [S.length, List.length_map]
  obtain ⟨m, news, f, n, k⟩ := F₃.allocList (xs := pickV (ns.map .int) lo' hi')
  refine tail_any (Heap.IsList.typeIs (s := { s₃ with heap := s₃.heap.push { cls := .type "slice", data := .fields #[v1, v2, .none] } }) (L.push _)) list_getitem_lookup
    (wpAny_getItem_list_slice (L.push _) (Heap.IsSliceOf.new ..) (part (S₂.mono sb₃) py) (part S₃ pz) .none (by simp) ?_ (by rw [List.size_toArray, e0]; exact sz (by omega))) (ops := [.ref s₃.heap.objs.size, .ref a]) rfl
  have N1 := News.push (f.push { cls := .type "slice", data := .fields #[v1, v2, .none] }) (n.grown fun _ _ e => Heap.get?_push_of_some _ e) { cls := .type "list", data := .seq (slicePick vs.toArray lo' hi' Option.none) }
  rw [kms_pick_eq] at N1 ⊢
  rw [List.toList_toArray] at N1 ⊢
  refine ⟨.ref _, _, I₃, (sb₁.trans sb₂).trans sb₃, k _ _ 0 _ s₃.toks (S.pick lo' hi') ((f.push _).push _) N1 ?_, .ref _, q _⟩
  intro p hp
  have := Heap.lt_size (n p hp).1
  show p.1 < (s₃.heap.push _).objs.size
  rw [Heap.size_push]
  exact Nat.lt_succ_of_lt this
end
/-! ## FXRules13 -/
section
variable {c : Cx} {Φ : Fx} {env : Env} {ρ : Loc} {l : Led}
/-- a comprehension over a tuple -/
theorem WE.tupComp {elt iter : PySem.Expr} {ifs : List PySem.Expr} {x : Str} {px pos : Pos} {scope : Scope} {cl : List (Str × Addr)} {Q : V → Led → Prop}
    (hclos : closureFor scope Φ.env = pure cl) (hcell : ∀ y ∈ scope.names, y.2 ≠ .cell) (hkind : scope.kind = .function)
    (hnames : ∀ y ∈ scope.names, y.2 = .local → scope.names.lookup y.1 = some .local) (hx : scope.names.lookup x = some .local)
    (h : WE c Φ Φ.env ρ l iter (fun xv l₁ => ∃ xs, ∃ (p : V → Bool) (f : V → V), xv = .tup xs ∧ xs.length ≤ 100000 ∧
      (∀ (C : Addr) (e1 e2 : Addr × O) z, z ∈ xs → WT c Φ (compEnvC scope cl C Φ.env) ρ ((C, .ns x z) :: e1 :: e2 :: l₁) ifs (fun b l₂ => b = p z ∧ LSub ((C, .ns x z) :: e1 :: e2 :: l₁) l₂)) ∧
      (∀ (C : Addr) (e1 e2 : Addr × O) z, z ∈ xs → p z = true → WE c Φ (compEnvC scope cl C Φ.env) ρ ((C, .ns x z) :: e1 :: e2 :: l₁) elt (fun y l₂ => y = f z ∧ LSub ((C, .ns x z) :: e1 :: e2 :: l₁) l₂)) ∧
      ∀ D, Q (.ref D) ((D, .list ((xs.filter p).map f)) :: l₁)))
    (hs : ∀ v, foldedSetIterable iter Φ.env v = pure v := by intro _; rfl) : WE c Φ Φ.env ρ l (.ListComp elt [⟨.Name x px, iter, ifs, 0⟩] scope pos) Q := by
  refine ⟨fun ok I s F => ?_⟩
  rw [eval_ListComp]
  refine wpAny_comprehension_free (e := .ListComp elt [⟨.Name x px, iter, ifs, 0⟩] scope pos) (use := Option.none) (g := ⟨.Name x px, iter, ifs, 0⟩) (gs := []) rfl hs hclos hkind hnames (wpull (h.run ok I s F) ?_)
  rintro v s₁ ⟨xv, l₁, I₁, sb, F₁, S₁, xs, p, f, rfl, hz, ht, he, q⟩
  cases S₁ with
  | @tup a vs _ hm S =>
  have hT : IsTup s₁.heap a (List.toArray vs) := ⟨_, F₁.imm _ hm, rfl, 0, rfl⟩
  refine iter_tuple hT ?_
  have F₂ := F₁.pushObj (tk := s₁.toks) (P := fun o => o.cls = .type "tuple_iterator" ∧ o.data = .fields #[.ref a, .int (0 : Nat) 0]) (o := { cls := .type "tuple_iterator", data := .fields #[.ref a, .int 0 0] }) ⟨rfl, rfl⟩
  generalize hI : s₁.heap.objs.size = It at F₂ ⊢
  generalize hs2 : ({ s₁ with heap := s₁.heap.push { cls := .type "tuple_iterator", data := .fields #[.ref a, .int 0 0] } } : Shared) = s₂ at F₂ ⊢
  obtain ⟨m, news, fr, nw, k⟩ := F₂.allocList (xs := [])
  refine wpAny_newObj_type (wpAny_newFunctionEnv hcell (by intro y hy; simp at hy) (fun h₁ hns₁ hsb₁ => ?_) hkind)
  dsimp only at hns₁ hsb₁ ⊢
  generalize hD : s₂.heap.objs.size = D at k ⊢
  have kk := k D [] 0 (s₂.heap.push { cls := .type "list", data := .seq #[] }) s₂.toks .nil (fr.push _) (by rw [← hD]; exact News.push fr nw _) (fun q hq => by rw [← hD]; exact Heap.lt_size (nw q hq).1)
  generalize hH2 : s₂.heap.push { cls := .type "list", data := .seq #[] } = H2 at kk hns₁ hsb₁ ⊢
  have F₃ : FR Φ ρ ((H2.objs.size, .obj nsP) :: (D, .list []) :: (It, .obj fun o => o.cls = .type "tuple_iterator" ∧ o.data = .fields #[.ref a, .int ((0 : Nat) : Int) 0]) :: l₁) I₁ { s₂ with heap := h₁, toks := s₂.toks } := by
    have P := kk.pushObj (tk := s₂.toks) (P := nsP) (o := { cls := .type "dict", data := .dict #[] }) ⟨fun _ => Option.none, #[], 0, rfl, fun e he => by simp at he, fun name => rfl⟩
    obtain ⟨o, es, ep, ho, hd, hk, hf⟩ := hns₁
    exact P.setHead raw1_obj hsb₁ ho (.obj ⟨_, es, ep, hd, hk, hf⟩)
  generalize hC : H2.objs.size = C at F₃ ⊢
  have loop : ∀ s₃ : Shared, s₃ = { s₂ with heap := h₁, toks := s₂.toks } → codeAny c.M Φ.A (.compLoop (.ListComp elt [⟨.Name x px, iter, ifs, 0⟩] scope pos) 0 (.ref It) (.ref D) (compEnvC scope cl C Φ.env)) (compPost c.M Φ.A NoE Option.none (Ret Φ ρ I Q) (.ref D) C) s₃ := by
    rintro s₃ rfl
    refine codeAny_compLoop_tests (fun n s' => ∃ i I', i + n = xs.length ∧ Sub I I' ∧ Sub I₁ I' ∧ FR Φ ρ ((It, .obj fun o => o.cls = .type "tuple_iterator" ∧ o.data = .fields #[.ref a, .int (i : Int) 0]) :: (C, .obj nsP) :: (D, .list (((xs.take i).filter p).map f)) :: l₁) I' s') ?_ xs.length ⟨0, I₁, by omega, sb, .refl _, ?_⟩
    · rintro n s₄ ⟨i, I₄, hin, sb₄, sb₄', F₄⟩
      obtain ⟨o, ⟨hc, hd⟩, ho⟩ := F₄.obj (.head _)
      have hT4 : IsTup s₄.heap a (List.toArray vs) := ⟨_, F₄.imm _ (sb₄' _ hm), rfl, 0, rfl⟩
      have S := S.mono sb₄'
      have hI' : IsTupIter s₄.heap It a i := ⟨o, ho, hc, hd⟩
      cases hz' : xs[i]? with
      | none =>
        have hi : i = xs.length := by rw [List.getElem?_eq_none_iff] at hz'; omega
        subst hi
        refine next_tuple_end ok.room.handled hI' hT4 (by simp; rw [S.length]; exact Nat.le_refl _) fun h' hx' => ?_
        have F₅ := F₄.dropObj (tk := s₄.toks) hx'
        obtain ⟨o', ⟨mm, es, ep, hd', hk', hf'⟩, ho'⟩ := F₅.obj (.head _)
        refine ⟨mm, ⟨o', es, ep, ho', hd', hk', hf'⟩, fun h'' hs'' => ?_⟩
        have F₆ := F₅.dropObj (tk := s₄.toks) hs''.extBut
        rw [List.take_length] at F₆
        exact ⟨.ref D, _, I₄, sb₄, F₆, .ref D, q D⟩
      | some z =>
        obtain ⟨hlt, hzz⟩ := List.getElem?_eq_some_iff.mp hz'
        have hzm : z ∈ xs := hzz ▸ List.getElem_mem hlt
        obtain ⟨wv, hw, Sw⟩ := S.get hz'
        refine next_tuple_item hI' hT4 (x := wv) (by simpa using hw) fun h' hit' hs' => ?_
        obtain ⟨o', ho', hc', hd'⟩ := hit'
        have F₅ := F₄.setObj (P' := fun o => o.cls = .type "tuple_iterator" ∧ o.data = .fields #[.ref a, .int ((i + 1 : Nat) : Int) 0]) (tk := s₄.toks) hs' ho' ⟨hc', hd'⟩
        have F₆ := F₅.sub (l' := (C, .obj nsP) :: (It, .obj fun o => o.cls = .type "tuple_iterator" ∧ o.data = .fields #[.ref a, .int ((i + 1 : Nat) : Int) 0]) :: (D, .list (((xs.take i).filter p).map f)) :: l₁) (.of_perm (.swap _ _ _))
        obtain ⟨oC, ⟨mm, es, ep, hdC, hkC, hfC⟩, hoC⟩ := F₆.obj (.head _)
        dsimp only
        refine wpAny_assign_Name (wpAny_storeName_local (env := compEnvC scope cl C Φ.env) (m := mm) (lookup_relabel_local hx) ⟨oC, es, ep, hoC, hdC, hkC, hfC⟩ (fun h₂ hn₂ hsb₂ => ?_) (by simp [compEnvC, relabel, hkind]))
        obtain ⟨oC', es', ep', hoC', hdC', hkC', hfC'⟩ := hn₂
        have F₇ := F₆.setHead (o₂ := .ns x z) (tk := s₄.toks + 1) raw1_obj hsb₂ hoC' (.ns hdC' hkC' hfC' (if_pos rfl) Sw)
        refine wpAny_mono ((ht C _ _ z hzm).run ok I₄ _ F₇) ?_ noted_no
        rintro b s₅ ⟨l₂, I₅, sb₅, F₈, rfl, hl₂⟩
        have F₉ := F₈.sub hl₂
        have step : (xs.take (i + 1)) = xs.take i ++ [z] := by rw [List.take_add_one, hz']; rfl
        cases hpz : p z with
        | false =>
          rw [if_neg (by decide)]
          refine ⟨n - 1, by omega, i + 1, I₅, by omega, sb₄.trans sb₅, sb₄'.trans sb₅, ?_⟩
          rw [step, List.filter_append, List.filter_cons, hpz]
          simp only [Bool.false_eq_true, if_false, List.filter_nil, List.append_nil]
          exact F₉.nsWeak.sub (.of_perm (.swap _ _ _))
        | true =>
          rw [if_pos rfl]
          refine wpAny_mono ((he C _ _ z hzm hpz).run ok I₅ _ F₉) ?_ noted_no
          rintro y s₆ ⟨yv, l₃, I₆, sb₆, F₁₀, Sy, rfl, hl₃⟩
          have F₁₁ := (F₁₀.sub hl₃).nsWeak.sub (l' := (It, .obj fun o => o.cls = .type "tuple_iterator" ∧ o.data = .fields #[.ref a, .int ((i + 1 : Nat) : Int) 0]) :: (C, .obj nsP) :: (D, .list (((xs.take i).filter p).map f)) :: l₁) (.of_perm (.swap _ _ _))
          obtain ⟨m5, ws, nn, pre, post, f5, N5, nd5, Sw5, mem5, k5⟩ := F₁₁.openList (.tail (.tail .head) : LUpd D (.list (((xs.take i).filter p).map f)) (.list (((xs.take i).filter p).map f ++ [f z])) _ _)
          have hlw := Sw5.length
          have hle : (((xs.take i).filter p).map f).length ≤ 100000 := by
            rw [List.length_map]
            exact Nat.le_trans (List.length_filter_le _ _) (Nat.le_trans (List.length_take_le _ _) (by omega))
          refine append_K f5 N5 (upd_at nd5) (fun h6 f6 N6 => ?_) (by rw [List.size_toArray]; exact sz (by omega))
          refine ⟨n - 1, by omega, i + 1, I₆, by omega, (sb₄.trans sb₅).trans sb₆, (sb₄'.trans sb₅).trans sb₆, ?_⟩
          rw [step, List.filter_append, List.filter_cons, hpz, if_pos rfl, List.filter_nil, List.map_append, List.map_cons, List.map_nil]
          exact k5 (ws ++ [y]) (nn + 1) h6 s₆.toks (Sw5.append (.cons Sy .nil)) f6 (by simpa using N6)
    · refine F₃.sub (.of_perm ?_)
      simp only [List.take_zero, List.filter_nil, List.map_nil]
      exact List.perm_middle (l₁ := [_, _])
  refine codeAny_compStart_list (loop _ rfl) ?_
  obtain ⟨o, ⟨hc, hd⟩, ho⟩ := (F₃.sub (.of_perm (List.perm_middle (l₁ := [_, _]))) : FR Φ ρ ((It, _) :: _) I₁ _).obj (.head _)
  exact wpAny_pyIter_tupleiter (t := a) (i := 0) ⟨o, ho, hc, hd⟩ (loop _ rfl)
end
/-! ## FXRules14 -/
section
variable {c : Cx} {Φ : Fx} {env : Env} {ρ : Loc} {l : Led} {rest : List Stmt} {Q : Fl → Loc → Led → Prop}
/-! for -/
theorem WSs.forCoreE {x : Str} {xp p : Pos} {e : PySem.Expr} {body : List Stmt}
    (h : WE c Φ Φ.env ρ l e (fun v l₁ => ∃ (Inv : Nat → Loc → Led → Prop) (st : Nat → Obj → Prop) (zs : List V),
      (∀ I s u, Φ.Ok c.K → FR Φ ρ l₁ I s → Sim I u v → wpAny c.M Φ.A (pyIter u) (fun it s' => ∃ a, it = .ref a ∧ ∃ l₂, Inv 0 ρ l₂ ∧ FR Φ ρ ((a, .obj (st 0)) :: l₂) I s') NoE s) ∧
      (∀ i ρ' l' I s a, Φ.Ok c.K → Inv i ρ' l' → FR Φ ρ' ((a, .obj (st i)) :: l') I s → wpAny c.M Φ.A (pyNext (.ref a)) (fun r s' => match zs[i]? with
        | some z => ∃ v, r = some v ∧ Sim I v z ∧ FR Φ ρ' ((a, .obj (st (i + 1))) :: l') I s'
        | Option.none => r = Option.none ∧ FR Φ ρ' l' I s') NoE s) ∧
      (∀ i ρ' l' z (it : Addr × O), Inv i ρ' l' → zs[i]? = some z → ∃ ρ₁, PUpd x z ρ' ρ₁ ∧ WSs c Φ ρ₁ (it :: l') body (fun f ρ₂ l₂ => match f with
        | .next => ∃ l₃, LSub (it :: l₃) l₂ ∧ Inv (i + 1) ρ₂ l₃
        | .cont => ∃ l₃, LSub (it :: l₃) l₂ ∧ Inv (i + 1) ρ₂ l₃
        | .brk => WSs c Φ ρ₂ l₂ rest Q
        | .ret x => ∃ l₃, LSub l₃ l₂ ∧ Q (.ret x) ρ₂ l₃)) ∧
      (∀ ρ' l', Inv zs.length ρ' l' → WSs c Φ ρ' l' rest Q)))
    (hf : ∀ v, foldedSetIterable e Φ.env v = pure v := by intro _; rfl) : WSs c Φ ρ l (.For (.Name x xp) e body [] p :: rest) Q := by
  refine ⟨fun ok I s F => ?_⟩
  refine wpAny_execs_cons ?_
  refine wpAny_For (wpull (h.run ok I s F) ?_) hf
  rintro u s₁ ⟨v, l₁, I₁, sb₁, F₁, S₁, Inv, st, zs, hit, hnext, hturn, hend⟩
  refine wpull (hit I₁ s₁ u ok F₁ S₁) ?_
  rintro it s₂ ⟨a, rfl, l₂, hI₀, F₂⟩
  have key : codeAny c.M Φ.A (.forLoop (.Name x xp) (.ref a) body [] Φ.env) (fun r s' => match r with
      | .ok .next => ∃ ρ' l' I', Sub I I' ∧ FR Φ ρ' l' I' s' ∧ WSs c Φ ρ' l' rest Q
      | .ok (.ret v) => RetF Φ I Q (.ret v) s'
      | _ => False) s₂ := by
    refine codeAny_forLoop (fun n s' => ∃ i ρ' l' I', i + n = zs.length ∧ Sub I I' ∧ FR Φ ρ' ((a, .obj (st i)) :: l') I' s' ∧ Inv i ρ' l') (fun n s₃ ⟨i, ρ', l', I', hin, sb, F₃, hI⟩ => ?_) zs.length ⟨0, ρ, l₂, I₁, by omega, sb₁, F₂, hI₀⟩
    refine wpAny_mono (hnext i ρ' l' I' s₃ a ok hI F₃) ?_ noted_no
    intro r s₄ hr
    cases hz : zs[i]? with
    | none =>
      rw [hz] at hr
      obtain ⟨rfl, F₄⟩ := hr
      have : i = zs.length := by
        rw [List.getElem?_eq_none_iff] at hz
        omega
      subst this
      exact wpAny_execs_nil ⟨ρ', l', I', sb, F₄, hend ρ' l' hI⟩
    | some z =>
      rw [hz] at hr
      obtain ⟨w, rfl, Sw, F₄⟩ := hr
      have hlt : i < zs.length := (List.getElem?_eq_some_iff.mp hz).1
      obtain ⟨ρ₁, hu, hb⟩ := hturn i ρ' l' z (a, .obj (st (i + 1))) hI hz
      dsimp only
      refine wpAny_assign_Name (wpAny_mono (storeF (P := fun _ s' => FR Φ ρ₁ ((a, .obj (st (i + 1))) :: l') I' s') ok F₄ Sw hu fun h' tk F' => F') ?_ noted_no)
      intro _ s₅ F₅
      refine wpAny_mono (hb.run ok I' s₅ F₅) ?_ noted_no
      rintro f s₆ ⟨y, ρ₆, l₆, I₆, sb₆, F₆, S₆, q⟩
      cases S₆ with
      | next => obtain ⟨l₃, hs, hI'⟩ := q; exact ⟨n - 1, by omega, i + 1, ρ₆, l₃, I₆, by omega, sb.trans sb₆, F₆.sub hs, hI'⟩
      | cont => obtain ⟨l₃, hs, hI'⟩ := q; exact ⟨n - 1, by omega, i + 1, ρ₆, l₃, I₆, by omega, sb.trans sb₆, F₆.sub hs, hI'⟩
      | brk => exact ⟨ρ₆, l₆, I₆, sb.trans sb₆, F₆, q⟩
      | ret hv => obtain ⟨l₃, hs, q⟩ := q; exact ⟨.ret _, ρ₆, l₃, I₆, sb.trans sb₆, F₆.sub hs, .ret hv, q⟩
  refine codeAny_mono key ?_
  intro r s' h
  rcases r with e | (_ | _ | _ | v)
  · exact h.elim
  · obtain ⟨ρ', l', I', sb, F', q⟩ := h
    exact wpull (q.run ok I' s' F') fun _ _ R => R.pull sb
  · exact h.elim
  · exact h.elim
  · exact h
theorem WSs.forListE {x : Str} {xp p : Pos} {e : PySem.Expr} {body : List Stmt}
    (h : WE c Φ Φ.env ρ l e (fun v l₁ => ∃ a xs, ∃ (Inv : Nat → Loc → Led → Prop), v = .ref a ∧ Inv 0 ρ l₁ ∧ (∀ i ρ' l', Inv i ρ' l' → (a, O.list xs) ∈ l') ∧
      (∀ i ρ' l' z (it : Addr × O), Inv i ρ' l' → xs[i]? = some z → ∃ ρ₁, PUpd x z ρ' ρ₁ ∧ WSs c Φ ρ₁ (it :: l') body (Turn c Φ rest Q it (Inv (i + 1)))) ∧
      (∀ ρ' l', Inv xs.length ρ' l' → WSs c Φ ρ' l' rest Q)))
    (hf : ∀ v, foldedSetIterable e Φ.env v = pure v := by intro _; rfl) : WSs c Φ ρ l (.For (.Name x xp) e body [] p :: rest) Q := by
  refine WSs.forCoreE (h.mono ?_) hf
  rintro v l₁ ⟨a, xs, Inv, rfl, h0, hm, hturn, hend⟩
  refine ⟨Inv, fun i o => o.cls = .type "list_iterator" ∧ o.data = .fields #[.ref a, .int i 0], xs, fun I s u ok F S => ?_, fun i ρ' l' I s it ok hI F => ?_, hturn, hend⟩
  · cases S
    obtain ⟨vs, L, S⟩ := F.list (hm 0 ρ l₁ h0)
    exact wpAny_pyIter_list L ⟨_, rfl, l₁, h0, F.pushObj (tk := s.toks) ⟨rfl, rfl⟩⟩
  · obtain ⟨o, ⟨hc, hd⟩, ho⟩ := F.obj (.head _)
    obtain ⟨vs, L, S⟩ := F.list (.tail _ (hm i ρ' l' hI))
    have hI' : s.heap.IsListIter it a i := ⟨o, ho, hc, hd⟩
    cases hz : xs[i]? with
    | none =>
      refine wpAny_pyNext_list_end ok.room.handled hI' L (by simp; rw [List.getElem?_eq_none_iff] at hz; rw [S.length]; exact hz) fun h' hx => ⟨rfl, F.dropObj (tk := s.toks) hx⟩
    | some z =>
      obtain ⟨w, hw, Sw⟩ := S.get hz
      refine wpAny_pyNext_list_item hI' L (x := w) (by simpa using hw) fun h' hit' hs => ?_
      obtain ⟨o', ho', hc', hd'⟩ := hit'
      exact ⟨w, rfl, Sw, F.setObj (tk := s.toks) hs ho' ⟨hc', hd'⟩⟩

end
/-! ## FXFacts -/
noncomputable def cx (w : World) : Cx := ⟨Challenge.rw_fx0002_01.row.prog, w, FX.hd.heap_39 w.params⟩

section
variable (w : World)
/-! what the written part says: attributes -/
theorem attrs_node : (["t", "creator", "is_leaf", "elts", "children"].all fun n => attrOk (cx w).K 234 (Str.ofString n) && storeOk (cx w).K 234 (Str.ofString n)) = true := by kernel_rfl
theorem attrs_cur : (["btree", "current_node", "current_index", "recurse", "increasing", "parents", "parked", "parking_key", "parking_key_read"].all fun n => attrOk (cx w).K 326 (Str.ofString n) && storeOk (cx w).K 326 (Str.ofString n)) = true := by kernel_rfl
theorem attrs_tree : (["creator", "_immutable", "cursors", "t", "root", "size", "in_order"].all fun n => attrOk (cx w).K 522 (Str.ofString n) && storeOk (cx w).K 522 (Str.ofString n)) = true := by kernel_rfl
theorem attrs_mem : attrOk (cx w).K CM "_key" = true := by kernel_rfl
theorem stores_mem : storeOk (cx w).K CM "_key" = true := by kernel_rfl
theorem of_all {p : String → Bool} {l : List String} (h : l.all p = true) {n : String} (hn : n ∈ l) : p n = true := List.all_eq_true.mp h n hn
theorem andL {a b : Bool} (h : (a && b) = true) : a = true := (Bool.and_eq_true_iff.mp h).1
theorem andR {a b : Bool} (h : (a && b) = true) : b = true := (Bool.and_eq_true_iff.mp h).2

theorem an_t : attrOk (cx w).K 234 "t" = true := andL (of_all (attrs_node w) (n := "t") (by simp))
theorem an_creator : attrOk (cx w).K 234 "creator" = true := andL (of_all (attrs_node w) (n := "creator") (by simp))
theorem an_is_leaf : attrOk (cx w).K 234 "is_leaf" = true := andL (of_all (attrs_node w) (n := "is_leaf") (by simp))
theorem an_elts : attrOk (cx w).K 234 "elts" = true := andL (of_all (attrs_node w) (n := "elts") (by simp))
theorem an_children : attrOk (cx w).K 234 "children" = true := andL (of_all (attrs_node w) (n := "children") (by simp))
theorem sn_t : storeOk (cx w).K 234 "t" = true := andR (of_all (attrs_node w) (n := "t") (by simp))
theorem sn_creator : storeOk (cx w).K 234 "creator" = true := andR (of_all (attrs_node w) (n := "creator") (by simp))
theorem sn_is_leaf : storeOk (cx w).K 234 "is_leaf" = true := andR (of_all (attrs_node w) (n := "is_leaf") (by simp))
theorem sn_elts : storeOk (cx w).K 234 "elts" = true := andR (of_all (attrs_node w) (n := "elts") (by simp))
theorem sn_children : storeOk (cx w).K 234 "children" = true := andR (of_all (attrs_node w) (n := "children") (by simp))
end
/-! the methods -/
section
variable (w : World)
theorem ac_btree : attrOk (cx w).K 326 "btree" = true := andL (of_all (attrs_cur w) (n := "btree") (by simp))
theorem sc_btree : storeOk (cx w).K 326 "btree" = true := andR (of_all (attrs_cur w) (n := "btree") (by simp))
theorem ac_current_node : attrOk (cx w).K 326 "current_node" = true := andL (of_all (attrs_cur w) (n := "current_node") (by simp))
theorem sc_current_node : storeOk (cx w).K 326 "current_node" = true := andR (of_all (attrs_cur w) (n := "current_node") (by simp))
theorem ac_current_index : attrOk (cx w).K 326 "current_index" = true := andL (of_all (attrs_cur w) (n := "current_index") (by simp))
theorem sc_current_index : storeOk (cx w).K 326 "current_index" = true := andR (of_all (attrs_cur w) (n := "current_index") (by simp))
theorem ac_recurse : attrOk (cx w).K 326 "recurse" = true := andL (of_all (attrs_cur w) (n := "recurse") (by simp))
theorem sc_recurse : storeOk (cx w).K 326 "recurse" = true := andR (of_all (attrs_cur w) (n := "recurse") (by simp))
theorem ac_increasing : attrOk (cx w).K 326 "increasing" = true := andL (of_all (attrs_cur w) (n := "increasing") (by simp))
theorem sc_increasing : storeOk (cx w).K 326 "increasing" = true := andR (of_all (attrs_cur w) (n := "increasing") (by simp))
theorem ac_parents : attrOk (cx w).K 326 "parents" = true := andL (of_all (attrs_cur w) (n := "parents") (by simp))
theorem sc_parents : storeOk (cx w).K 326 "parents" = true := andR (of_all (attrs_cur w) (n := "parents") (by simp))
theorem ac_parked : attrOk (cx w).K 326 "parked" = true := andL (of_all (attrs_cur w) (n := "parked") (by simp))
theorem sc_parked : storeOk (cx w).K 326 "parked" = true := andR (of_all (attrs_cur w) (n := "parked") (by simp))
theorem ac_parking_key : attrOk (cx w).K 326 "parking_key" = true := andL (of_all (attrs_cur w) (n := "parking_key") (by simp))
theorem sc_parking_key : storeOk (cx w).K 326 "parking_key" = true := andR (of_all (attrs_cur w) (n := "parking_key") (by simp))
theorem ac_parking_key_read : attrOk (cx w).K 326 "parking_key_read" = true := andL (of_all (attrs_cur w) (n := "parking_key_read") (by simp))
theorem sc_parking_key_read : storeOk (cx w).K 326 "parking_key_read" = true := andR (of_all (attrs_cur w) (n := "parking_key_read") (by simp))
theorem at_creator : attrOk (cx w).K 522 "creator" = true := andL (of_all (attrs_tree w) (n := "creator") (by simp))
theorem st_creator : storeOk (cx w).K 522 "creator" = true := andR (of_all (attrs_tree w) (n := "creator") (by simp))
theorem at_immutable : attrOk (cx w).K 522 "_immutable" = true := andL (of_all (attrs_tree w) (n := "_immutable") (by simp))
theorem st_immutable : storeOk (cx w).K 522 "_immutable" = true := andR (of_all (attrs_tree w) (n := "_immutable") (by simp))
theorem at_cursors : attrOk (cx w).K 522 "cursors" = true := andL (of_all (attrs_tree w) (n := "cursors") (by simp))
theorem st_cursors : storeOk (cx w).K 522 "cursors" = true := andR (of_all (attrs_tree w) (n := "cursors") (by simp))
theorem at_t : attrOk (cx w).K 522 "t" = true := andL (of_all (attrs_tree w) (n := "t") (by simp))
theorem st_t : storeOk (cx w).K 522 "t" = true := andR (of_all (attrs_tree w) (n := "t") (by simp))
theorem at_root : attrOk (cx w).K 522 "root" = true := andL (of_all (attrs_tree w) (n := "root") (by simp))
theorem st_root : storeOk (cx w).K 522 "root" = true := andR (of_all (attrs_tree w) (n := "root") (by simp))
theorem at_size : attrOk (cx w).K 522 "size" = true := andL (of_all (attrs_tree w) (n := "size") (by simp))
theorem st_size : storeOk (cx w).K 522 "size" = true := andR (of_all (attrs_tree w) (n := "size") (by simp))
theorem at_in_order : attrOk (cx w).K 522 "in_order" = true := andL (of_all (attrs_tree w) (n := "in_order") (by simp))
theorem st_in_order : storeOk (cx w).K 522 "in_order" = true := andR (of_all (attrs_tree w) (n := "in_order") (by simp))
theorem meths_n : (([("is_maximal", 91), ("is_minimal", 98), ("search_in_node", 105), ("maybe_cow_child", 112), ("_get_node", 119), ("get", 126), ("insert_nonfull", 140), ("split", 147), ("try_left_steal", 154), ("try_right_steal", 161), ("adopt", 168), ("merge", 175), ("minimum", 182), ("balance", 196), ("delete", 203), ("maybe_cow", 224)] : List (String × Nat)).all fun p => methOk (cx w).K 234 (Str.ofString p.1) p.2) = true := by kernel_rfl
theorem mn_is_maximal : methOk (cx w).K 234 "is_maximal" 91 = true := List.all_eq_true.mp (meths_n w) ("is_maximal", 91) (by simp)
theorem mn_is_minimal : methOk (cx w).K 234 "is_minimal" 98 = true := List.all_eq_true.mp (meths_n w) ("is_minimal", 98) (by simp)
theorem mn_search_in_node : methOk (cx w).K 234 "search_in_node" 105 = true := List.all_eq_true.mp (meths_n w) ("search_in_node", 105) (by simp)
theorem mn_maybe_cow_child : methOk (cx w).K 234 "maybe_cow_child" 112 = true := List.all_eq_true.mp (meths_n w) ("maybe_cow_child", 112) (by simp)
theorem mn_get_node : methOk (cx w).K 234 "_get_node" 119 = true := List.all_eq_true.mp (meths_n w) ("_get_node", 119) (by simp)
theorem mn_get : methOk (cx w).K 234 "get" 126 = true := List.all_eq_true.mp (meths_n w) ("get", 126) (by simp)
theorem mn_insert_nonfull : methOk (cx w).K 234 "insert_nonfull" 140 = true := List.all_eq_true.mp (meths_n w) ("insert_nonfull", 140) (by simp)
theorem mn_split : methOk (cx w).K 234 "split" 147 = true := List.all_eq_true.mp (meths_n w) ("split", 147) (by simp)
theorem mn_try_left_steal : methOk (cx w).K 234 "try_left_steal" 154 = true := List.all_eq_true.mp (meths_n w) ("try_left_steal", 154) (by simp)
theorem mn_try_right_steal : methOk (cx w).K 234 "try_right_steal" 161 = true := List.all_eq_true.mp (meths_n w) ("try_right_steal", 161) (by simp)
theorem mn_adopt : methOk (cx w).K 234 "adopt" 168 = true := List.all_eq_true.mp (meths_n w) ("adopt", 168) (by simp)
theorem mn_merge : methOk (cx w).K 234 "merge" 175 = true := List.all_eq_true.mp (meths_n w) ("merge", 175) (by simp)
theorem mn_minimum : methOk (cx w).K 234 "minimum" 182 = true := List.all_eq_true.mp (meths_n w) ("minimum", 182) (by simp)
theorem mn_balance : methOk (cx w).K 234 "balance" 196 = true := List.all_eq_true.mp (meths_n w) ("balance", 196) (by simp)
theorem mn_delete : methOk (cx w).K 234 "delete" 203 = true := List.all_eq_true.mp (meths_n w) ("delete", 203) (by simp)
theorem mn_maybe_cow : methOk (cx w).K 234 "maybe_cow" 224 = true := List.all_eq_true.mp (meths_n w) ("maybe_cow", 224) (by simp)
theorem meths_c : (([("_seek_least", 259), ("_seek_greatest", 266), ("park", 273), ("_maybe_unpark", 280), ("prev", 287), ("next", 294), ("_adjust_for_before", 301), ("seek", 309), ("seek_first", 316), ("seek_last", 323)] : List (String × Nat)).all fun p => methOk (cx w).K 326 (Str.ofString p.1) p.2) = true := by kernel_rfl
theorem mc_seek_least : methOk (cx w).K 326 "_seek_least" 259 = true := List.all_eq_true.mp (meths_c w) ("_seek_least", 259) (by simp)
theorem mc_seek_greatest : methOk (cx w).K 326 "_seek_greatest" 266 = true := List.all_eq_true.mp (meths_c w) ("_seek_greatest", 266) (by simp)
theorem mc_park : methOk (cx w).K 326 "park" 273 = true := List.all_eq_true.mp (meths_c w) ("park", 273) (by simp)
theorem mc_maybe_unpark : methOk (cx w).K 326 "_maybe_unpark" 280 = true := List.all_eq_true.mp (meths_c w) ("_maybe_unpark", 280) (by simp)
theorem mc_prev : methOk (cx w).K 326 "prev" 287 = true := List.all_eq_true.mp (meths_c w) ("prev", 287) (by simp)
theorem mc_next : methOk (cx w).K 326 "next" 294 = true := List.all_eq_true.mp (meths_c w) ("next", 294) (by simp)
theorem mc_adjust_for_before : methOk (cx w).K 326 "_adjust_for_before" 301 = true := List.all_eq_true.mp (meths_c w) ("_adjust_for_before", 301) (by simp)
theorem mc_seek : methOk (cx w).K 326 "seek" 309 = true := List.all_eq_true.mp (meths_c w) ("seek", 309) (by simp)
theorem mc_seek_first : methOk (cx w).K 326 "seek_first" 316 = true := List.all_eq_true.mp (meths_c w) ("seek_first", 316) (by simp)
theorem mc_seek_last : methOk (cx w).K 326 "seek_last" 323 = true := List.all_eq_true.mp (meths_c w) ("seek_last", 323) (by simp)
theorem meths_t : (([("_check_mutable_and_park", 372), ("insert_element", 380), ("get_element", 387), ("_delete", 394), ("delete_key", 401), ("register_cursor", 441), ("add", 512), ("discard", 519)] : List (String × Nat)).all fun p => methOk (cx w).K 522 (Str.ofString p.1) p.2) = true := by kernel_rfl
theorem mt_check_mutable_and_park : methOk (cx w).K 522 "_check_mutable_and_park" 372 = true := List.all_eq_true.mp (meths_t w) ("_check_mutable_and_park", 372) (by simp)
theorem mt_insert_element : methOk (cx w).K 522 "insert_element" 380 = true := List.all_eq_true.mp (meths_t w) ("insert_element", 380) (by simp)
theorem mt_get_element : methOk (cx w).K 522 "get_element" 387 = true := List.all_eq_true.mp (meths_t w) ("get_element", 387) (by simp)
theorem mt_delete : methOk (cx w).K 522 "_delete" 394 = true := List.all_eq_true.mp (meths_t w) ("_delete", 394) (by simp)
theorem mt_delete_key : methOk (cx w).K 522 "delete_key" 401 = true := List.all_eq_true.mp (meths_t w) ("delete_key", 401) (by simp)
theorem mt_register_cursor : methOk (cx w).K 522 "register_cursor" 441 = true := List.all_eq_true.mp (meths_t w) ("register_cursor", 441) (by simp)
theorem mt_add : methOk (cx w).K 522 "add" 512 = true := List.all_eq_true.mp (meths_t w) ("add", 512) (by simp)
theorem mt_discard : methOk (cx w).K 522 "discard" 519 = true := List.all_eq_true.mp (meths_t w) ("discard", 519) (by simp)
theorem mm_key : methOk (cx w).K CM "key" 476 = true := by kernel_rfl
theorem g_MIN : nsIn (cx w).K mainGlobals "_MIN" = some (some (.ref 49)) := by kernel_rfl
theorem k_MIN : keepIn (cx w).K (.ref 49) = true := by kernel_rfl
theorem g_MAX : nsIn (cx w).K mainGlobals "_MAX" = some (some (.ref 56)) := by kernel_rfl
theorem k_MAX : keepIn (cx w).K (.ref 56) = true := by kernel_rfl
theorem g_Creator : nsIn (cx w).K mainGlobals "_Creator" = some (some (.ref 66)) := by kernel_rfl
theorem k_Creator : keepIn (cx w).K (.ref 66) = true := by kernel_rfl
theorem g_Node : nsIn (cx w).K mainGlobals "_Node" = some (some (.ref 234)) := by kernel_rfl
theorem k_Node : keepIn (cx w).K (.ref 234) = true := by kernel_rfl
theorem g_Cursor : nsIn (cx w).K mainGlobals "Cursor" = some (some (.ref 326)) := by kernel_rfl
theorem k_Cursor : keepIn (cx w).K (.ref 326) = true := by kernel_rfl
theorem g_BTreeSet : nsIn (cx w).K mainGlobals "BTreeSet" = some (some (.ref 522)) := by kernel_rfl
theorem k_BTreeSet : keepIn (cx w).K (.ref 522) = true := by kernel_rfl
theorem g_Member : nsIn (cx w).K mainGlobals "Member" = some (some (.ref 479)) := by kernel_rfl
theorem k_Member : keepIn (cx w).K (.ref 479) = true := by kernel_rfl
theorem g_law_on : nsIn (cx w).K mainGlobals "_law_on" = some (some (.ref 531)) := by kernel_rfl
theorem k_law_on : keepIn (cx w).K (.ref 531) = true := by kernel_rfl
theorem g_law_back : nsIn (cx w).K mainGlobals "_law_back" = some (some (.ref 538)) := by kernel_rfl
theorem k_law_back : keepIn (cx w).K (.ref 538) = true := by kernel_rfl
theorem b_len : nsIn (cx w).K mainGlobals "len" = some none := by kernel_rfl
theorem b_list : nsIn (cx w).K mainGlobals "list" = some none := by kernel_rfl
theorem b_range : nsIn (cx w).K mainGlobals "range" = some none := by kernel_rfl
theorem b_sorted : nsIn (cx w).K mainGlobals "sorted" = some none := by kernel_rfl
theorem b_super : nsIn (cx w).K mainGlobals "super" = some none := by kernel_rfl
theorem mk_Node : makesIn (cx w).K 234 = true := by kernel_rfl
theorem in_Node : findIn (cx w).K (.ref 234) "__init__" = some (some (.ref 84)) := by kernel_rfl
theorem ty_Node : typeIn (cx w).K (.ref 84) = some (.type "function") := by kernel_rfl
theorem mk_Cursor : makesIn (cx w).K 326 = true := by kernel_rfl
theorem in_Cursor : findIn (cx w).K (.ref 326) "__init__" = some (some (.ref 252)) := by kernel_rfl
theorem ty_Cursor : typeIn (cx w).K (.ref 252) = some (.type "function") := by kernel_rfl
theorem mk_Member : makesIn (cx w).K 479 = true := by kernel_rfl
theorem in_Member : findIn (cx w).K (.ref 479) "__init__" = some (some (.ref 469)) := by kernel_rfl
theorem ty_Member : typeIn (cx w).K (.ref 469) = some (.type "function") := by kernel_rfl
theorem mk_BTreeSet : makesIn (cx w).K 522 = true := by kernel_rfl
theorem in_BTreeSet : findIn (cx w).K (.ref 522) "__init__" = some (some (.ref 498)) := by kernel_rfl
theorem ty_BTreeSet : typeIn (cx w).K (.ref 498) = some (.type "function") := by kernel_rfl
theorem mk_Creator : makesIn (cx w).K 66 = true := by kernel_rfl
theorem star_adopt : starOk (cx w).K 234 "adopt" 168 = true := by kernel_rfl
theorem clsK_Node : ClsK (cx w).K 234 := by
  refine ⟨_, _, _, _, _, _, _, _, _, _, _, _, _, _, _, _, rfl, ?_⟩
  refine ⟨_, _, _, _, _, rfl, ?_, ?_, ?_⟩ <;> kernel_rfl
theorem in_Creator : findIn (cx w).K (.ref 66) "__init__" = some (some (.builtin "object.__init__")) := by kernel_rfl
end
def nodeF (x0 x1 x2 x3 x4 : V) : List (Str × V) := [("t", x0), ("creator", x1), ("is_leaf", x2), ("elts", x3), ("children", x4)]
theorem get_nodeF_t {x0 x1 x2 x3 x4 : V} : getF "t" (nodeF x0 x1 x2 x3 x4) = some x0 := by rfl
theorem set_nodeF_t {x0 x1 x2 x3 x4 y : V} : setF "t" y (nodeF x0 x1 x2 x3 x4) = nodeF y x1 x2 x3 x4 := by rfl
theorem get_nodeF_creator {x0 x1 x2 x3 x4 : V} : getF "creator" (nodeF x0 x1 x2 x3 x4) = some x1 := by rfl
theorem set_nodeF_creator {x0 x1 x2 x3 x4 y : V} : setF "creator" y (nodeF x0 x1 x2 x3 x4) = nodeF x0 y x2 x3 x4 := by rfl
theorem get_nodeF_is_leaf {x0 x1 x2 x3 x4 : V} : getF "is_leaf" (nodeF x0 x1 x2 x3 x4) = some x2 := by rfl
theorem set_nodeF_is_leaf {x0 x1 x2 x3 x4 y : V} : setF "is_leaf" y (nodeF x0 x1 x2 x3 x4) = nodeF x0 x1 y x3 x4 := by rfl
theorem get_nodeF_elts {x0 x1 x2 x3 x4 : V} : getF "elts" (nodeF x0 x1 x2 x3 x4) = some x3 := by rfl
theorem set_nodeF_elts {x0 x1 x2 x3 x4 y : V} : setF "elts" y (nodeF x0 x1 x2 x3 x4) = nodeF x0 x1 x2 y x4 := by rfl
theorem get_nodeF_children {x0 x1 x2 x3 x4 : V} : getF "children" (nodeF x0 x1 x2 x3 x4) = some x4 := by rfl
theorem set_nodeF_children {x0 x1 x2 x3 x4 y : V} : setF "children" y (nodeF x0 x1 x2 x3 x4) = nodeF x0 x1 x2 x3 y := by rfl
def curF (x0 x1 x2 x3 x4 x5 x6 x7 x8 : V) : List (Str × V) := [("btree", x0), ("current_node", x1), ("current_index", x2), ("recurse", x3), ("increasing", x4), ("parents", x5), ("parked", x6), ("parking_key", x7), ("parking_key_read", x8)]
theorem get_curF_btree {x0 x1 x2 x3 x4 x5 x6 x7 x8 : V} : getF "btree" (curF x0 x1 x2 x3 x4 x5 x6 x7 x8) = some x0 := by rfl
theorem set_curF_btree {x0 x1 x2 x3 x4 x5 x6 x7 x8 y : V} : setF "btree" y (curF x0 x1 x2 x3 x4 x5 x6 x7 x8) = curF y x1 x2 x3 x4 x5 x6 x7 x8 := by rfl
theorem get_curF_current_node {x0 x1 x2 x3 x4 x5 x6 x7 x8 : V} : getF "current_node" (curF x0 x1 x2 x3 x4 x5 x6 x7 x8) = some x1 := by rfl
theorem set_curF_current_node {x0 x1 x2 x3 x4 x5 x6 x7 x8 y : V} : setF "current_node" y (curF x0 x1 x2 x3 x4 x5 x6 x7 x8) = curF x0 y x2 x3 x4 x5 x6 x7 x8 := by rfl
theorem get_curF_current_index {x0 x1 x2 x3 x4 x5 x6 x7 x8 : V} : getF "current_index" (curF x0 x1 x2 x3 x4 x5 x6 x7 x8) = some x2 := by rfl
theorem set_curF_current_index {x0 x1 x2 x3 x4 x5 x6 x7 x8 y : V} : setF "current_index" y (curF x0 x1 x2 x3 x4 x5 x6 x7 x8) = curF x0 x1 y x3 x4 x5 x6 x7 x8 := by rfl
theorem get_curF_recurse {x0 x1 x2 x3 x4 x5 x6 x7 x8 : V} : getF "recurse" (curF x0 x1 x2 x3 x4 x5 x6 x7 x8) = some x3 := by rfl
theorem set_curF_recurse {x0 x1 x2 x3 x4 x5 x6 x7 x8 y : V} : setF "recurse" y (curF x0 x1 x2 x3 x4 x5 x6 x7 x8) = curF x0 x1 x2 y x4 x5 x6 x7 x8 := by rfl
theorem get_curF_increasing {x0 x1 x2 x3 x4 x5 x6 x7 x8 : V} : getF "increasing" (curF x0 x1 x2 x3 x4 x5 x6 x7 x8) = some x4 := by rfl
theorem set_curF_increasing {x0 x1 x2 x3 x4 x5 x6 x7 x8 y : V} : setF "increasing" y (curF x0 x1 x2 x3 x4 x5 x6 x7 x8) = curF x0 x1 x2 x3 y x5 x6 x7 x8 := by rfl
theorem get_curF_parents {x0 x1 x2 x3 x4 x5 x6 x7 x8 : V} : getF "parents" (curF x0 x1 x2 x3 x4 x5 x6 x7 x8) = some x5 := by rfl
theorem set_curF_parents {x0 x1 x2 x3 x4 x5 x6 x7 x8 y : V} : setF "parents" y (curF x0 x1 x2 x3 x4 x5 x6 x7 x8) = curF x0 x1 x2 x3 x4 y x6 x7 x8 := by rfl
theorem get_curF_parked {x0 x1 x2 x3 x4 x5 x6 x7 x8 : V} : getF "parked" (curF x0 x1 x2 x3 x4 x5 x6 x7 x8) = some x6 := by rfl
theorem set_curF_parked {x0 x1 x2 x3 x4 x5 x6 x7 x8 y : V} : setF "parked" y (curF x0 x1 x2 x3 x4 x5 x6 x7 x8) = curF x0 x1 x2 x3 x4 x5 y x7 x8 := by rfl
theorem get_curF_parking_key {x0 x1 x2 x3 x4 x5 x6 x7 x8 : V} : getF "parking_key" (curF x0 x1 x2 x3 x4 x5 x6 x7 x8) = some x7 := by rfl
theorem set_curF_parking_key {x0 x1 x2 x3 x4 x5 x6 x7 x8 y : V} : setF "parking_key" y (curF x0 x1 x2 x3 x4 x5 x6 x7 x8) = curF x0 x1 x2 x3 x4 x5 x6 y x8 := by rfl
theorem get_curF_parking_key_read {x0 x1 x2 x3 x4 x5 x6 x7 x8 : V} : getF "parking_key_read" (curF x0 x1 x2 x3 x4 x5 x6 x7 x8) = some x8 := by rfl
theorem set_curF_parking_key_read {x0 x1 x2 x3 x4 x5 x6 x7 x8 y : V} : setF "parking_key_read" y (curF x0 x1 x2 x3 x4 x5 x6 x7 x8) = curF x0 x1 x2 x3 x4 x5 x6 x7 y := by rfl
def treeF (x0 x1 x2 x3 x4 x5 x6 : V) : List (Str × V) := [("creator", x0), ("_immutable", x1), ("cursors", x2), ("t", x3), ("root", x4), ("size", x5), ("in_order", x6)]
theorem get_treeF_creator {x0 x1 x2 x3 x4 x5 x6 : V} : getF "creator" (treeF x0 x1 x2 x3 x4 x5 x6) = some x0 := by rfl
theorem set_treeF_creator {x0 x1 x2 x3 x4 x5 x6 y : V} : setF "creator" y (treeF x0 x1 x2 x3 x4 x5 x6) = treeF y x1 x2 x3 x4 x5 x6 := by rfl
theorem get_treeF_immutable {x0 x1 x2 x3 x4 x5 x6 : V} : getF "_immutable" (treeF x0 x1 x2 x3 x4 x5 x6) = some x1 := by rfl
theorem set_treeF_immutable {x0 x1 x2 x3 x4 x5 x6 y : V} : setF "_immutable" y (treeF x0 x1 x2 x3 x4 x5 x6) = treeF x0 y x2 x3 x4 x5 x6 := by rfl
theorem get_treeF_cursors {x0 x1 x2 x3 x4 x5 x6 : V} : getF "cursors" (treeF x0 x1 x2 x3 x4 x5 x6) = some x2 := by rfl
theorem set_treeF_cursors {x0 x1 x2 x3 x4 x5 x6 y : V} : setF "cursors" y (treeF x0 x1 x2 x3 x4 x5 x6) = treeF x0 x1 y x3 x4 x5 x6 := by rfl
theorem get_treeF_t {x0 x1 x2 x3 x4 x5 x6 : V} : getF "t" (treeF x0 x1 x2 x3 x4 x5 x6) = some x3 := by rfl
theorem set_treeF_t {x0 x1 x2 x3 x4 x5 x6 y : V} : setF "t" y (treeF x0 x1 x2 x3 x4 x5 x6) = treeF x0 x1 x2 y x4 x5 x6 := by rfl
theorem get_treeF_root {x0 x1 x2 x3 x4 x5 x6 : V} : getF "root" (treeF x0 x1 x2 x3 x4 x5 x6) = some x4 := by rfl
theorem set_treeF_root {x0 x1 x2 x3 x4 x5 x6 y : V} : setF "root" y (treeF x0 x1 x2 x3 x4 x5 x6) = treeF x0 x1 x2 x3 y x5 x6 := by rfl
theorem get_treeF_size {x0 x1 x2 x3 x4 x5 x6 : V} : getF "size" (treeF x0 x1 x2 x3 x4 x5 x6) = some x5 := by rfl
theorem set_treeF_size {x0 x1 x2 x3 x4 x5 x6 y : V} : setF "size" y (treeF x0 x1 x2 x3 x4 x5 x6) = treeF x0 x1 x2 x3 x4 y x6 := by rfl
theorem get_treeF_in_order {x0 x1 x2 x3 x4 x5 x6 : V} : getF "in_order" (treeF x0 x1 x2 x3 x4 x5 x6) = some x6 := by rfl
theorem set_treeF_in_order {x0 x1 x2 x3 x4 x5 x6 y : V} : setF "in_order" y (treeF x0 x1 x2 x3 x4 x5 x6) = treeF x0 x1 x2 x3 x4 x5 y := by rfl
theorem miss_nodeF {x0 x1 x2 x3 x4 : V} : ∀ n ∈ ["is_maximal", "is_minimal", "search_in_node", "maybe_cow_child", "_get_node", "get", "insert_nonfull", "split", "try_left_steal", "try_right_steal", "adopt", "merge", "minimum", "balance", "delete", "maybe_cow"], getF (Str.ofString n) (nodeF x0 x1 x2 x3 x4) = none := by intro n hn; simp only [List.mem_cons, List.not_mem_nil, or_false] at hn; rcases hn with rfl | rfl | rfl | rfl | rfl | rfl | rfl | rfl | rfl | rfl | rfl | rfl | rfl | rfl | rfl | rfl <;> rfl
theorem mi_n_is_maximal {x0 x1 x2 x3 x4 : V} : getF "is_maximal" (nodeF x0 x1 x2 x3 x4) = none := miss_nodeF "is_maximal" (by simp)
theorem mi_n_is_minimal {x0 x1 x2 x3 x4 : V} : getF "is_minimal" (nodeF x0 x1 x2 x3 x4) = none := miss_nodeF "is_minimal" (by simp)
theorem mi_n_search_in_node {x0 x1 x2 x3 x4 : V} : getF "search_in_node" (nodeF x0 x1 x2 x3 x4) = none := miss_nodeF "search_in_node" (by simp)
theorem mi_n_maybe_cow_child {x0 x1 x2 x3 x4 : V} : getF "maybe_cow_child" (nodeF x0 x1 x2 x3 x4) = none := miss_nodeF "maybe_cow_child" (by simp)
theorem mi_n_get_node {x0 x1 x2 x3 x4 : V} : getF "_get_node" (nodeF x0 x1 x2 x3 x4) = none := miss_nodeF "_get_node" (by simp)
theorem mi_n_get {x0 x1 x2 x3 x4 : V} : getF "get" (nodeF x0 x1 x2 x3 x4) = none := miss_nodeF "get" (by simp)
theorem mi_n_insert_nonfull {x0 x1 x2 x3 x4 : V} : getF "insert_nonfull" (nodeF x0 x1 x2 x3 x4) = none := miss_nodeF "insert_nonfull" (by simp)
theorem mi_n_split {x0 x1 x2 x3 x4 : V} : getF "split" (nodeF x0 x1 x2 x3 x4) = none := miss_nodeF "split" (by simp)
theorem mi_n_try_left_steal {x0 x1 x2 x3 x4 : V} : getF "try_left_steal" (nodeF x0 x1 x2 x3 x4) = none := miss_nodeF "try_left_steal" (by simp)
theorem mi_n_try_right_steal {x0 x1 x2 x3 x4 : V} : getF "try_right_steal" (nodeF x0 x1 x2 x3 x4) = none := miss_nodeF "try_right_steal" (by simp)
theorem mi_n_adopt {x0 x1 x2 x3 x4 : V} : getF "adopt" (nodeF x0 x1 x2 x3 x4) = none := miss_nodeF "adopt" (by simp)
theorem mi_n_merge {x0 x1 x2 x3 x4 : V} : getF "merge" (nodeF x0 x1 x2 x3 x4) = none := miss_nodeF "merge" (by simp)
theorem mi_n_minimum {x0 x1 x2 x3 x4 : V} : getF "minimum" (nodeF x0 x1 x2 x3 x4) = none := miss_nodeF "minimum" (by simp)
theorem mi_n_balance {x0 x1 x2 x3 x4 : V} : getF "balance" (nodeF x0 x1 x2 x3 x4) = none := miss_nodeF "balance" (by simp)
theorem mi_n_delete {x0 x1 x2 x3 x4 : V} : getF "delete" (nodeF x0 x1 x2 x3 x4) = none := miss_nodeF "delete" (by simp)
theorem mi_n_maybe_cow {x0 x1 x2 x3 x4 : V} : getF "maybe_cow" (nodeF x0 x1 x2 x3 x4) = none := miss_nodeF "maybe_cow" (by simp)
theorem miss_curF {x0 x1 x2 x3 x4 x5 x6 x7 x8 : V} : ∀ n ∈ ["_seek_least", "_seek_greatest", "park", "_maybe_unpark", "prev", "next", "_adjust_for_before", "seek", "seek_first", "seek_last"], getF (Str.ofString n) (curF x0 x1 x2 x3 x4 x5 x6 x7 x8) = none := by intro n hn; simp only [List.mem_cons, List.not_mem_nil, or_false] at hn; rcases hn with rfl | rfl | rfl | rfl | rfl | rfl | rfl | rfl | rfl | rfl <;> rfl
theorem mi_c_seek_least {x0 x1 x2 x3 x4 x5 x6 x7 x8 : V} : getF "_seek_least" (curF x0 x1 x2 x3 x4 x5 x6 x7 x8) = none := miss_curF "_seek_least" (by simp)
theorem mi_c_seek_greatest {x0 x1 x2 x3 x4 x5 x6 x7 x8 : V} : getF "_seek_greatest" (curF x0 x1 x2 x3 x4 x5 x6 x7 x8) = none := miss_curF "_seek_greatest" (by simp)
theorem mi_c_park {x0 x1 x2 x3 x4 x5 x6 x7 x8 : V} : getF "park" (curF x0 x1 x2 x3 x4 x5 x6 x7 x8) = none := miss_curF "park" (by simp)
theorem mi_c_maybe_unpark {x0 x1 x2 x3 x4 x5 x6 x7 x8 : V} : getF "_maybe_unpark" (curF x0 x1 x2 x3 x4 x5 x6 x7 x8) = none := miss_curF "_maybe_unpark" (by simp)
theorem mi_c_prev {x0 x1 x2 x3 x4 x5 x6 x7 x8 : V} : getF "prev" (curF x0 x1 x2 x3 x4 x5 x6 x7 x8) = none := miss_curF "prev" (by simp)
theorem mi_c_next {x0 x1 x2 x3 x4 x5 x6 x7 x8 : V} : getF "next" (curF x0 x1 x2 x3 x4 x5 x6 x7 x8) = none := miss_curF "next" (by simp)
theorem mi_c_adjust_for_before {x0 x1 x2 x3 x4 x5 x6 x7 x8 : V} : getF "_adjust_for_before" (curF x0 x1 x2 x3 x4 x5 x6 x7 x8) = none := miss_curF "_adjust_for_before" (by simp)
theorem mi_c_seek {x0 x1 x2 x3 x4 x5 x6 x7 x8 : V} : getF "seek" (curF x0 x1 x2 x3 x4 x5 x6 x7 x8) = none := miss_curF "seek" (by simp)
theorem mi_c_seek_first {x0 x1 x2 x3 x4 x5 x6 x7 x8 : V} : getF "seek_first" (curF x0 x1 x2 x3 x4 x5 x6 x7 x8) = none := miss_curF "seek_first" (by simp)
theorem mi_c_seek_last {x0 x1 x2 x3 x4 x5 x6 x7 x8 : V} : getF "seek_last" (curF x0 x1 x2 x3 x4 x5 x6 x7 x8) = none := miss_curF "seek_last" (by simp)
theorem miss_treeF {x0 x1 x2 x3 x4 x5 x6 : V} : ∀ n ∈ ["_check_mutable_and_park", "insert_element", "get_element", "_delete", "delete_key", "register_cursor", "add", "discard"], getF (Str.ofString n) (treeF x0 x1 x2 x3 x4 x5 x6) = none := by intro n hn; simp only [List.mem_cons, List.not_mem_nil, or_false] at hn; rcases hn with rfl | rfl | rfl | rfl | rfl | rfl | rfl | rfl <;> rfl
theorem mi_t_check_mutable_and_park {x0 x1 x2 x3 x4 x5 x6 : V} : getF "_check_mutable_and_park" (treeF x0 x1 x2 x3 x4 x5 x6) = none := miss_treeF "_check_mutable_and_park" (by simp)
theorem mi_t_insert_element {x0 x1 x2 x3 x4 x5 x6 : V} : getF "insert_element" (treeF x0 x1 x2 x3 x4 x5 x6) = none := miss_treeF "insert_element" (by simp)
theorem mi_t_get_element {x0 x1 x2 x3 x4 x5 x6 : V} : getF "get_element" (treeF x0 x1 x2 x3 x4 x5 x6) = none := miss_treeF "get_element" (by simp)
theorem mi_t_delete {x0 x1 x2 x3 x4 x5 x6 : V} : getF "_delete" (treeF x0 x1 x2 x3 x4 x5 x6) = none := miss_treeF "_delete" (by simp)
theorem mi_t_delete_key {x0 x1 x2 x3 x4 x5 x6 : V} : getF "delete_key" (treeF x0 x1 x2 x3 x4 x5 x6) = none := miss_treeF "delete_key" (by simp)
theorem mi_t_register_cursor {x0 x1 x2 x3 x4 x5 x6 : V} : getF "register_cursor" (treeF x0 x1 x2 x3 x4 x5 x6) = none := miss_treeF "register_cursor" (by simp)
theorem mi_t_add {x0 x1 x2 x3 x4 x5 x6 : V} : getF "add" (treeF x0 x1 x2 x3 x4 x5 x6) = none := miss_treeF "add" (by simp)
theorem mi_t_discard {x0 x1 x2 x3 x4 x5 x6 : V} : getF "discard" (treeF x0 x1 x2 x3 x4 x5 x6) = none := miss_treeF "discard" (by simp)
/-! ## FXTac -/
section
variable {c : Cx} {Φ : Fx} {env : Env} {ρ : Loc} {l : Led}
/-! closers: what a rule asks, each with its premises in a good order -/
theorem x_attr {a C : Addr} {fs : List (Str × V)} {x : V} {name : Str} {P : V → Prop} (hm : (a, O.inst C fs) ∈ l) (hx : getF name fs = some x) (ho : attrOk c.K C name = true) (q : P x) :
    ∃ a' C' fs' x', V.ref a = .ref a' ∧ (a', O.inst C' fs') ∈ l ∧ getF name fs' = some x' ∧ attrOk c.K C' name = true ∧ P x' := ⟨_, _, _, _, rfl, hm, hx, ho, q⟩
theorem x_assert {b : Bool} {P : Prop} (h : b = true) (q : P) : b = true ∧ P := ⟨h, q⟩
theorem x_disp {xs : List V} {P : Prop} (h : xs.length ≤ 1000000) (q : P) : xs.length ≤ 1000000 ∧ P := ⟨h, q⟩
theorem x_put {y : Str} {x : V} {ρ' : Loc} {P : Loc → Prop} (h : PUpd y x ρ ρ') (q : P ρ') : ∃ ρ', PUpd y x ρ ρ' ∧ P ρ' := ⟨_, h, q⟩
theorem ite_tt {A B : Prop} (h : A) : if true = true then A else B := by rw [if_pos rfl]; exact h
theorem ite_ff {A B : Prop} (h : B) : if false = true then A else B := by rw [if_neg (by decide)]; exact h
theorem ite_nf {A B : Prop} (h : A) : if (!false) = true then A else B := h
theorem ite_nt {A B : Prop} (h : B) : if (!true) = true then A else B := h
theorem ite_or {b : Bool} {A B : Prop} (h1 : b = true → A) (h0 : b = false → B) : if b = true then A else B := by
  cases b with
  | true => rw [if_pos rfl]; exact h1 rfl
  | false => rw [if_neg (by decide)]; exact h0 rfl
theorem loc_here {y : Str} {x : V} {r : Loc} : (y, x) ∈ (y, x) :: r := .head _
theorem loc_there {p q : Str × V} {r : Loc} (h : p ∈ r) : p ∈ q :: r := .tail _ h
theorem led_here {a : Addr} {o : O} {r : Led} : (a, o) ∈ (a, o) :: r := .head _
theorem led_there {p q : Addr × O} {r : Led} (h : p ∈ r) : p ∈ q :: r := .tail _ h
theorem x_attrMem {k : Int} {P : Int → Prop} (ho : attrOk c.K CM "_key" = true) (q : P k) : ∃ k', V.mem k = .mem k' ∧ attrOk c.K CM "_key" = true ∧ P k' := ⟨_, rfl, ho, q⟩
theorem x_meth {a C f : Addr} {fs : List (Str × V)} {name : Str} {P : Addr → Addr → Prop} (hm : (a, O.inst C fs) ∈ l) (ho : methOk c.K C name f = true) (hx : getF name fs = none) (q : P a f) :
    ∃ a' C' fs' f', V.ref a = .ref a' ∧ (a', O.inst C' fs') ∈ l ∧ methOk c.K C' name f' = true ∧ getF name fs' = none ∧ P a' f' := ⟨_, _, _, _, rfl, hm, ho, hx, q⟩
theorem x_methMem {k : Int} {f : Addr} {name : Str} {P : Int → Addr → Prop} (ho : methOk c.K CM name f = true) (hn : name ≠ "_key") (q : P k f) :
    ∃ k' f', V.mem k = .mem k' ∧ methOk c.K CM name f' = true ∧ name ≠ "_key" ∧ P k' f' := ⟨_, _, rfl, ho, hn, q⟩
theorem x_val {x : Option V} {P : V → Prop} {y : V} (e : x = some y) (q : P y) : ∃ z, x = some z ∧ P z := ⟨_, e, q⟩
theorem cmp_is_self {a : Addr} : cmpV .Is (.ref a) (.ref a) = some (.bool true) := by simp [cmpV]
theorem cmp_isNot_self {a : Addr} : cmpV .IsNot (.ref a) (.ref a) = some (.bool false) := by simp [cmpV]
theorem x_cmpB {x : Option V} {b : Bool} {P : Bool → Prop} (e : x = some (.bool b)) (q : P b) : ∃ b, x = some (.bool b) ∧ P b := ⟨_, e, q⟩
theorem x_truth {x : Option Bool} {b : Bool} {P : Bool → Prop} (e : x = some b) (q : P b) : ∃ b, x = some b ∧ P b := ⟨_, e, q⟩
theorem x_bin {x : Option (V × Prop)} {z : V} {R : Prop} {P : V → Prop} (e : x = some (z, R)) (h : R) (q : P z) : ∃ z R, x = some (z, R) ∧ R ∧ P z := ⟨_, _, e, h, q⟩
theorem x_len {a : Addr} {xs : List V} {P : List V → Prop} (hm : (a, O.list xs) ∈ l) (hz : xs.length ≤ 1000000) (q : P xs) : ∃ a' xs', V.ref a = .ref a' ∧ (a', O.list xs') ∈ l ∧ xs'.length ≤ 1000000 ∧ P xs' := ⟨_, _, rfl, hm, hz, q⟩
theorem x_item {a : Addr} {xs : List V} {k : Int} {z : V} {P : V → Prop} (hm : (a, O.list xs) ∈ l) (h0 : 0 ≤ k) (h1 : k < 1000000) (hz : xs[k.toNat]? = some z) (q : P z) :
    ∃ a' xs' k' z', V.ref a = .ref a' ∧ (a', O.list xs') ∈ l ∧ V.int k = .int k' ∧ 0 ≤ k' ∧ k' < 1000000 ∧ xs'[k'.toNat]? = some z' ∧ P z' := ⟨_, _, _, _, rfl, hm, rfl, h0, h1, hz, q⟩
theorem x_neg {i : Int} {P : Int → Prop} (q : P i) : ∃ i', V.int i = .int i' ∧ P i' := ⟨_, rfl, q⟩
theorem x_set {a C : Addr} {fs fs' : List (Str × V)} {x : V} {name : Str} {l' : Led} {P : Led → Prop} (U : LUpd a (.inst C fs) (.inst C fs') l l') (hf : setF name x fs = fs') (ho : storeOk c.K C name = true) (hl : fs.length ≤ 100) (q : P l') :
    ∃ a' C' fs₀ l₃, V.ref a = .ref a' ∧ LUpd a' (.inst C' fs₀) (.inst C' (setF name x fs₀)) l l₃ ∧ storeOk c.K C' name = true ∧ fs₀.length ≤ 100 ∧ P l₃ := by subst hf; exact ⟨_, _, _, _, rfl, U, ho, hl, q⟩
end
section
variable {w : World} {Φ : Fx} {env : Env} {ρ : Loc} {l : Led}
/-- Member.key -/
theorem t_key {k : Int} {n : Nat} {l : Led} (hk : 1 ≤ n) : Spec (cx w) (.ref 476) [.mem k] n l (fun x l' => x = .int k ∧ l' = l) := by
  refine Spec.fn' hk [("self", .mem k)] [] (ho := (rfl : (cx w).K.lookup 476 = some ⟨_, _, .func (fnX _ _ _ _ _ [] .none _ _ _ _ _ _), _⟩)) (by kernel_rfl) rfl rfl rfl rfl rfl (by decide) rfl rfl ?_
  intro Φ hs hr
  refine WSs.ret (WE.attrMem (WE.name loc_here (by nofun) (x_attrMem (attrs_mem w) ?_)))
  exact ⟨rfl, rfl⟩
/-- x.key() -/
theorem WE.key {o : PySem.Expr} {apos pos : Pos} {pl : Sem Bool} {Q : V → Led → Prop} (hr : 1 ≤ Φ.rm)
    (h : WE (cx w) Φ env ρ l o (fun y l' => ∃ k, y = .mem k ∧ Q (.int k) l'))
    (he : eval (.Call (.Attribute o "key" apos) [] [] pos) env = (do
      let ov ← eval o env
      standAt apos.atName
      let (f, first) ← holding [ov] (getMethod ov "key" pl)
      callWith pos f first (backTo pos (starEach [] env)) []) := by rfl) : WE (cx w) Φ env ρ l (.Call (.Attribute o "key" apos) [] [] pos) Q := by
  refine WE.methMem (h.mono ?_) rfl he
  rintro y l' ⟨k, rfl, q⟩
  refine x_methMem (mm_key w) (by decide) (.nil ?_)
  exact (t_key hr).post fun x l'' ⟨hx, hl⟩ => by subst hx; subst hl; exact q
theorem x_key {k : Int} {P : Int → Prop} (q : P k) : ∃ k', V.mem k = .mem k' ∧ P k' := ⟨_, rfl, q⟩
end
/-! ## FXTree -/
/-! counting, to show that two ledgers are one -/
open Classical in
noncomputable def one (p q : Addr × O) : Nat := if q = p then 1 else 0
noncomputable def cnt (p : Addr × O) : Led → Nat
  | [] => 0
  | q :: l => one p q + cnt p l
theorem cnt_nil (p) : cnt p [] = 0 := rfl
theorem cnt_cons (p q) (l : Led) : cnt p (q :: l) = one p q + cnt p l := rfl
theorem cnt_append (p) (a b : Led) : cnt p (a ++ b) = cnt p a + cnt p b := by
  induction a with
  | nil => rw [List.nil_append, cnt_nil, Nat.zero_add]
  | cons q a ih => rw [List.cons_append, cnt_cons, cnt_cons, ih, Nat.add_assoc]
theorem one_self (q) : one q q = 1 := if_pos rfl
theorem mem_of_cnt {p} {l : Led} (h : 1 ≤ cnt p l) : p ∈ l := by
  induction l with
  | nil => exact absurd h (by rw [cnt_nil]; decide)
  | cons q l ih =>
    rw [cnt_cons] at h
    by_cases e : q = p
    · subst e; exact .head _
    · have : one p q = 0 := if_neg e
      exact .tail _ (ih (by omega))
theorem cnt_of_perm {l l' : Led} (h : l.Perm l') (p) : cnt p l = cnt p l' := by
  induction h with
  | nil => rfl
  | cons q _ ih => rw [cnt_cons, cnt_cons, ih]
  | swap a b l => simp only [cnt_cons]; omega
  | trans _ _ a b => exact a.trans b
theorem lsub_of_cnt {l' l : Led} (h : ∀ p, cnt p l' ≤ cnt p l) : LSub l' l := by
  induction l' generalizing l with
  | nil => exact ⟨l, .refl _⟩
  | cons q t ih =>
    have hq : q ∈ l := mem_of_cnt (by have := h q; rw [cnt_cons, one_self] at this; omega)
    obtain ⟨a, b, rfl⟩ := List.append_of_mem hq
    obtain ⟨r, hr⟩ := ih (l := a ++ b) fun p => by
      have := h p
      simp only [cnt_cons, cnt_append] at this ⊢
      omega
    exact ⟨r, List.perm_middle.trans (List.Perm.cons q hr)⟩
theorem cnt_of_lsub {l' l : Led} (h : LSub l' l) (p) : cnt p l' ≤ cnt p l := by
  obtain ⟨r, hr⟩ := h
  rw [cnt_of_perm hr, cnt_append]
  omega
theorem LSub.trans {a b c : Led} (h : LSub a b) (g : LSub b c) : LSub a c := lsub_of_cnt fun p => Nat.le_trans (cnt_of_lsub h p) (cnt_of_lsub g p)
theorem LSub.mem {a b : Led} (h : LSub a b) {p} (m : p ∈ a) : p ∈ b := by
  obtain ⟨r, hr⟩ := h
  exact hr.mem_iff.mpr (List.mem_append_left _ m)

/-- a node -/
abbrev nodeO (cr : Addr) (lf : Bool) (el ch : Addr) : O := .inst 234 (nodeF (.int 3) (.ref cr) (.bool lf) (.ref el) (.ref ch))

/-- a B-tree: the addresses of the node, of its two lists; the keys, the children -/
inductive T where
  | mk (n el ch : Addr) (es : List Int) (cs : List T)
def T.n : T → Addr | .mk n _ _ _ _ => n
def T.el : T → Addr | .mk _ el _ _ _ => el
def T.ch : T → Addr | .mk _ _ ch _ _ => ch
def T.es : T → List Int | .mk _ _ _ es _ => es
def T.cs : T → List T | .mk _ _ _ _ cs => cs
theorem T_n (n el ch es cs) : (T.mk n el ch es cs).n = n := rfl
theorem T_el (n el ch es cs) : (T.mk n el ch es cs).el = el := rfl
theorem T_ch (n el ch es cs) : (T.mk n el ch es cs).ch = ch := rfl
theorem T_es (n el ch es cs) : (T.mk n el ch es cs).es = es := rfl
theorem T_cs (n el ch es cs) : (T.mk n el ch es cs).cs = cs := rfl
def T.lf (t : T) : Bool := t.cs.isEmpty
mutual
def objs (cr : Addr) : T → Led
  | .mk n el ch es cs => (n, nodeO cr cs.isEmpty el ch) :: (el, .list (es.map .mem)) :: (ch, .list (refs cs)) :: objsL cr cs
def objsL (cr : Addr) : List T → Led
  | [] => []
  | t :: ts => objs cr t ++ objsL cr ts
def refs : List T → List V
  | [] => []
  | t :: ts => .ref t.n :: refs ts
end
theorem objs_node (cr) (t : T) : (t.n, nodeO cr t.lf t.el t.ch) ∈ objs cr t := by
  cases t; unfold objs; exact .head _
theorem refs_map : ∀ cs, refs cs = cs.map fun t => V.ref t.n
  | [] => by unfold refs; rfl
  | _ :: cs => by unfold refs; rw [refs_map cs]; rfl
theorem objs_mk (cr n el ch es cs) : objs cr (.mk n el ch es cs) = (n, nodeO cr cs.isEmpty el ch) :: (el, .list (es.map .mem)) :: (ch, .list (cs.map fun t => V.ref t.n)) :: objsL cr cs := by
  rw [← refs_map]; unfold objs; rfl
theorem objsL_nil (cr) : objsL cr [] = [] := by unfold objsL; rfl
theorem objsL_cons (cr t ts) : objsL cr (t :: ts) = objs cr t ++ objsL cr ts := by rw [objsL]
theorem objsL_append (cr) : ∀ a b, objsL cr (a ++ b) = objsL cr a ++ objsL cr b
  | [], b => by rw [objsL_nil]; rfl
  | t :: a, b => by rw [List.cons_append, objsL_cons, objsL_cons, objsL_append cr a b, List.append_assoc]
/-- keys between the children's keys; a leaf has no children -/
def weave : List Int → List (List Int) → List Int
  | es, [] => es
  | [], c :: _ => c
  | e :: es, c :: cs => c ++ e :: weave es cs
mutual
def keys : T → List Int
  | .mk _ _ _ es cs => weave es (keysL cs)
def keysL : List T → List (List Int)
  | [] => []
  | t :: ts => keys t :: keysL ts
end
theorem keysL_map : ∀ cs, keysL cs = cs.map keys
  | [] => by unfold keysL; rfl
  | _ :: cs => by unfold keysL; rw [keysL_map cs]; rfl
theorem keys_leaf (n el ch es) : keys (.mk n el ch es []) = es := by
  unfold keys keysL weave; cases es <;> rfl

/-! the keys left and right of a child -/
def kl : List Int → List T → List Int
  | a :: A, c :: C => keys c ++ a :: kl A C
  | _, _ => []
def kr : List Int → List T → List Int
  | b :: B, c :: C => b :: keys c ++ kr B C
  | _, _ => []
theorem kl_nil : kl [] [] = [] := rfl
theorem kr_nil : kr [] [] = [] := rfl
theorem kl_cons (a A c C) : kl (a :: A) (c :: C) = keys c ++ a :: kl A C := rfl
theorem kr_cons (a A c C) : kr (a :: A) (c :: C) = a :: keys c ++ kr A C := rfl
theorem kl_append : ∀ {A A' : List Int} {C C' : List T}, A.length = C.length → kl (A ++ A') (C ++ C') = kl A C ++ kl A' C'
  | [], _, [], _, _ => rfl
  | a :: A, A', c :: C, C', h => by
    rw [List.cons_append, List.cons_append, kl_cons, kl_cons, kl_append (by simpa using h), List.append_assoc]; rfl
theorem kr_append : ∀ {A A' : List Int} {C C' : List T}, A.length = C.length → kr (A ++ A') (C ++ C') = kr A C ++ kr A' C'
  | [], _, [], _, _ => rfl
  | a :: A, A', c :: C, C', h => by
    rw [List.cons_append, List.cons_append, kr_cons, kr_cons, kr_append (by simpa using h), List.append_assoc]
theorem weave_last : ∀ {B : List Int} {c : T} {C : List T}, C.length = B.length → weave B (keysL (c :: C)) = keys c ++ kr B C
  | [], c, [], _ => by unfold keysL keysL weave; rw [kr_nil, List.append_nil]
  | b :: B, c, d :: C, h => by
    rw [keysL]
    unfold weave
    rw [weave_last (by simpa using h), kr_cons]
    rfl
theorem keys_mk : ∀ {n el ch : Addr} {A B : List Int} {C D : List T} {c : T}, A.length = C.length → D.length = B.length → keys (.mk n el ch (A ++ B) (C ++ c :: D)) = kl A C ++ keys c ++ kr B D
  | n, el, ch, [], B, [], D, c, _, h => by rw [keys, List.nil_append, List.nil_append, weave_last h, kl_nil, List.nil_append]
  | n, el, ch, a :: A, B, c' :: C, D, c, h, h' => by
    rw [keys, List.cons_append, List.cons_append, keysL]
    unfold weave
    have := keys_mk (n := n) (el := el) (ch := ch) (A := A) (B := B) (C := C) (D := D) (c := c) (by simpa using h) h'
    rw [keys] at this
    rw [this, kl_cons]
    simp only [List.append_assoc, List.cons_append]
theorem keys_two {n el ch n' el' ch' n'' el'' ch''} {A B : List Int} {C D : List T} {e : Int} (h : C.length = A.length + 1) (h' : D.length = B.length + 1) :
    keys (.mk n el ch (A ++ e :: B) (C ++ D)) = keys (.mk n' el' ch' A C) ++ e :: keys (.mk n'' el'' ch'' B D) := by
  rcases List.eq_nil_or_concat C with rfl | ⟨C, c, rfl⟩
  · simp at h
  rw [List.concat_eq_append] at *
  match D, h' with
  | d :: D, h' =>
    have e1 : keys (.mk n el ch (A ++ e :: B) (C ++ [c] ++ d :: D)) = kl A C ++ keys c ++ kr (e :: B) (d :: D) := by
      rw [List.append_assoc, List.singleton_append]
      exact keys_mk (by simp at h; omega) (by simp at h'; simp; omega)
    have e2 := keys_mk (n := n') (el := el') (ch := ch') (A := A) (B := []) (C := C) (D := []) (c := c) (by simp at h; omega) rfl
    have e3 := keys_mk (n := n'') (el := el'') (ch := ch'') (A := []) (B := B) (C := []) (D := D) (c := d) rfl (by simp at h'; omega)
    rw [List.append_nil] at e2
    rw [List.nil_append, List.nil_append] at e3
    rw [e1, e2, e3, kr_cons, kr_nil, kl_nil]
    simp

/-- a B-tree of height h -/
def Wf : Nat → T → Prop
  | 0, t => t.cs = []
  | h + 1, t => t.cs.length = t.es.length + 1 ∧ ∀ c ∈ t.cs, Wf h c ∧ 2 ≤ c.es.length ∧ c.es.length ≤ 5
abbrev Srt (l : List Int) : Prop := l.Pairwise (· < ·)
theorem kl_lt {A : List Int} {C : List T} {X : List Int} {k : Int} (hl : A.length = C.length) (hs : Srt (kl A C ++ X)) (hA : ∀ a ∈ A, a < k) : ∀ x ∈ kl A C, x < k := by
  induction A generalizing C with
  | nil => cases C <;> (intro x hx; cases hx)
  | cons a A ih =>
    match C, hl with
    | c :: C, hl =>
      rw [kl_cons, List.append_assoc, List.cons_append] at hs
      rw [kl_cons]
      intro x hx
      obtain ⟨h1, h2, h3⟩ := List.pairwise_append.mp hs
      have ha := hA a (.head _)
      rcases List.mem_append.mp hx with hx | hx
      · have := h3 x hx a (.head _); omega
      · rcases List.mem_cons.mp hx with rfl | hx
        · exact ha
        · exact ih (by simpa using hl) (List.pairwise_cons.mp h2).2 (fun a ha => hA a (.tail _ ha)) x hx
theorem kr_gt {B : List Int} {C : List T} {X : List Int} {k : Int} (hl : B.length = C.length) (hs : Srt (X ++ kr B C)) (hB : ∀ a ∈ B, k < a) : ∀ x ∈ kr B C, k < x := by
  induction B generalizing C X with
  | nil => cases C <;> (intro x hx; cases hx)
  | cons b B ih =>
    match C, hl with
    | c :: C, hl =>
      rw [kr_cons, List.cons_append] at hs
      rw [kr_cons]
      intro x hx
      have hs2 := (List.pairwise_append.mp hs).2.1
      have hb := hB b (.head _)
      rcases List.mem_append.mp hx with hx | hx
      · rcases List.mem_cons.mp hx with rfl | hx
        · exact hb
        · have := (List.pairwise_cons.mp hs2).1 x (List.mem_append_left _ hx); omega
      · exact ih (X := keys c) (by simpa using hl) (List.pairwise_cons.mp hs2).2 (fun a ha => hB a (.tail _ ha)) x hx
theorem es_kl {A : List Int} {C : List T} (hl : A.length = C.length) : ∀ a ∈ A, a ∈ kl A C := by
  induction A generalizing C with
  | nil => intro a h; cases h
  | cons a A ih =>
    match C, hl with
    | c :: C, hl =>
      intro x hx
      rw [kl_cons]
      rcases List.mem_cons.mp hx with rfl | hx
      · simp
      · exact List.mem_append_right _ (.tail _ (ih (by simpa using hl) x hx))
theorem es_kr {A : List Int} {C : List T} (hl : A.length = C.length) : ∀ a ∈ A, a ∈ kr A C := by
  induction A generalizing C with
  | nil => intro a h; cases h
  | cons a A ih =>
    match C, hl with
    | c :: C, hl =>
      intro x hx
      rw [kr_cons]
      rcases List.mem_cons.mp hx with rfl | hx
      · simp
      · exact List.mem_append_right _ (ih (by simpa using hl) x hx)
theorem sub_kr {es : List Int} {C : List T} (hl : C.length = es.length) : es.Sublist (kr es C) := by
  induction es generalizing C with
  | nil => exact List.nil_sublist _
  | cons e es ih =>
    match C, hl with
    | d :: C, hl =>
      rw [kr_cons]
      refine .cons_cons _ (.trans (ih (by simpa using hl)) (List.sublist_append_right _ _))
/-- the keys of a node are among all -/
theorem es_sub {h : Nat} {t : T} (w : Wf h t) : t.es.Sublist (keys t) := by
  obtain ⟨n, el, ch, es, cs⟩ := t
  cases h with
  | zero =>
    have : cs = [] := w
    subst this
    rw [keys_leaf]
    exact .refl _
  | succ h =>
    have hl := w.1
    simp only [T_cs, T_es] at hl ⊢
    match cs, hl with
    | c :: C, hl =>
      have := keys_mk (n := n) (el := el) (ch := ch) (A := []) (B := es) (C := []) (D := C) (c := c) rfl (by simpa using hl)
      rw [List.nil_append, List.nil_append] at this
      rw [this, kl_nil, List.nil_append]
      refine .trans ?_ (List.sublist_append_right _ _)
      exact sub_kr (by simpa using hl)
theorem es_srt {h : Nat} {t : T} (w : Wf h t) (s : Srt (keys t)) : Srt t.es := s.sublist (es_sub w)

/-- a child at a place -/
theorem split_at {es : List Int} {cs : List T} {A B : List Int} (h : cs.length = es.length + 1) (e : es = A ++ B) : ∃ C c D, cs = C ++ c :: D ∧ A.length = C.length ∧ D.length = B.length := by
  subst e
  rw [List.length_append] at h
  refine ⟨cs.take A.length, cs[A.length]'(by omega), cs.drop (A.length + 1), ?_, by simp; omega, by simp; omega⟩
  rw [← List.drop_eq_getElem_cons, List.take_append_drop]

/-! the laws of the keys -/
def ins (k : Int) (l : List Int) : List Int := l.filter (· < k) ++ k :: l.filter (k < ·)
def del (k : Int) (l : List Int) : List Int := l.filter (· ≠ k)
theorem filter_all {p : Int → Bool} {l : List Int} (h : ∀ x ∈ l, p x = true) : l.filter p = l := List.filter_eq_self.mpr h
theorem filter_none {p : Int → Bool} {l : List Int} (h : ∀ x ∈ l, p x = false) : l.filter p = [] := List.filter_eq_nil_iff.mpr fun x hx => by simp [h x hx]
theorem ins_mid {k : Int} {L M R : List Int} (hL : ∀ x ∈ L, x < k) (hR : ∀ x ∈ R, k < x) : ins k (L ++ M ++ R) = L ++ ins k M ++ R := by
  unfold ins
  simp only [List.filter_append]
  rw [filter_all (l := L) fun x hx => by simpa using hL x hx, filter_none (p := fun x => decide (x < k)) (l := R) fun x hx => by have := hR x hx; simp; omega,
    filter_none (p := fun x => decide (k < x)) (l := L) fun x hx => by have := hL x hx; simp; omega, filter_all (l := R) fun x hx => by simpa using hR x hx]
  simp
theorem ins_at {k : Int} {L R : List Int} (hL : ∀ x ∈ L, x < k) (hR : ∀ x ∈ R, k < x) : ins k (L ++ R) = L ++ k :: R := by
  have := ins_mid (M := []) hL hR
  rw [List.append_nil] at this
  rw [this]
  simp [ins]
theorem ins_has {k : Int} {L R : List Int} (h : Srt (L ++ k :: R)) : ins k (L ++ k :: R) = L ++ k :: R := by
  obtain ⟨h1, h2, h3⟩ := List.pairwise_append.mp h
  have hL : ∀ x ∈ L, x < k := fun x hx => h3 x hx k (.head _)
  have hR : ∀ x ∈ R, k < x := (List.pairwise_cons.mp h2).1
  have := ins_mid (M := [k]) hL hR
  rw [List.append_assoc, List.singleton_append] at this
  rw [this]
  simp [ins]
theorem ins_mem {k x : Int} {l : List Int} : x ∈ ins k l ↔ x = k ∨ x ∈ l := by
  unfold ins
  simp only [List.mem_append, List.mem_filter, List.mem_cons, decide_eq_true_eq]
  constructor
  · rintro (⟨h, _⟩ | rfl | ⟨h, _⟩)
    · exact .inr h
    · exact .inl rfl
    · exact .inr h
  · rintro (rfl | h)
    · exact .inr (.inl rfl)
    · by_cases a : x < k
      · exact .inl ⟨h, a⟩
      · by_cases b : x = k
        · exact .inr (.inl b)
        · exact .inr (.inr ⟨h, by omega⟩)
theorem ins_srt {k : Int} {l : List Int} (h : Srt l) : Srt (ins k l) := by
  unfold ins
  refine List.pairwise_append.mpr ⟨h.sublist List.filter_sublist, List.pairwise_cons.mpr ⟨fun x hx => by simpa using (List.mem_filter.mp hx).2, h.sublist List.filter_sublist⟩, fun x hx y hy => ?_⟩
  have hx := (List.mem_filter.mp hx).2
  simp only [decide_eq_true_eq] at hx
  rcases List.mem_cons.mp hy with rfl | hy
  · exact hx
  · have hy := (List.mem_filter.mp hy).2
    simp only [decide_eq_true_eq] at hy
    omega
theorem del_mid {k : Int} {L M R : List Int} (hL : ∀ x ∈ L, x < k) (hR : ∀ x ∈ R, k < x) : del k (L ++ M ++ R) = L ++ del k M ++ R := by
  unfold del
  simp only [List.filter_append]
  rw [filter_all (l := L) fun x hx => by have := hL x hx; simp; omega, filter_all (l := R) fun x hx => by have := hR x hx; simp; omega]
theorem del_at {k : Int} {L R : List Int} (h : Srt (L ++ k :: R)) : del k (L ++ k :: R) = L ++ R := by
  obtain ⟨h1, h2, h3⟩ := List.pairwise_append.mp h
  have hL : ∀ x ∈ L, x < k := fun x hx => h3 x hx k (.head _)
  have hR : ∀ x ∈ R, k < x := (List.pairwise_cons.mp h2).1
  have := del_mid (M := [k]) hL hR
  rw [List.append_assoc, List.singleton_append] at this
  rw [this]
  simp [del]
theorem del_no {k : Int} {l : List Int} (h : k ∉ l) : del k l = l := filter_all fun x hx => by simp; rintro rfl; exact h hx
theorem del_mem {k x : Int} {l : List Int} : x ∈ del k l ↔ x ∈ l ∧ x ≠ k := by
  unfold del; simp [List.mem_filter]
theorem del_srt {k : Int} {l : List Int} (h : Srt l) : Srt (del k l) := h.sublist List.filter_sublist
/-- how many keys a tree has at least -/
theorem Wf.size : ∀ {h : Nat} {t : T}, Wf h t → (t.cs ≠ [] → 1 ≤ t.es.length) → (t.cs = [] → t.es ≠ []) → h + 1 ≤ (keys t).length
  | 0, .mk n el ch es cs, w, _, h0 => by
    have : cs = [] := w
    subst this
    rw [keys_leaf]
    have := h0 rfl
    simp only [T_es] at this
    have := List.length_pos_iff.mpr this
    omega
  | h + 1, .mk n el ch es cs, ⟨hl, hc⟩, h1, _ => by
    simp only [T_cs, T_es] at hl hc h1
    match cs, hl with
    | c :: C, hl =>
      have h1 := h1 (by simp)
      have := keys_mk (n := n) (el := el) (ch := ch) (A := []) (B := es) (C := []) (D := C) (c := c) rfl (by simpa using hl)
      rw [List.nil_append, List.nil_append] at this
      rw [this, kl_nil, List.nil_append, List.length_append]
      obtain ⟨w, h2, h3⟩ := hc c (.head _)
      have ih := Wf.size w (fun _ => by omega) (fun _ e => by rw [e] at h2; simp at h2)
      match es, C, hl, h1 with
      | e :: es, d :: C, hl, _ =>
        rw [kr_cons, List.length_append, List.length_cons]
        omega
/-! ## FXTree2 -/
theorem Wf.lf : ∀ {h : Nat} {t : T}, Wf h t → t.cs.isEmpty = (h == 0)
  | 0, t, w => by rw [show t.cs = [] from w]; rfl
  | h + 1, t, w => by
    have := w.1
    cases e : t.cs with
    | nil => rw [e] at this; simp at this
    | cons c C => rfl
theorem objs_wf {h cr n el ch es cs} (w : Wf h (.mk n el ch es cs)) : objs cr (.mk n el ch es cs) = (n, nodeO cr (h == 0) el ch) :: (el, .list (es.map .mem)) :: (ch, .list (cs.map fun t => V.ref t.n)) :: objsL cr cs := by
  rw [objs_mk, ← w.lf]; rfl
theorem keys_one (n el ch) (c : T) : keys (.mk n el ch [] [c]) = keys c := by
  have := keys_mk (n := n) (el := el) (ch := ch) (A := []) (B := []) (C := []) (D := []) (c := c) rfl rfl
  rw [List.nil_append, List.nil_append] at this
  rw [this, kl_nil, kr_nil]; simp
theorem keys_snoc {n el ch n' el' ch' es y cs} {m : T} (h : cs.length = es.length + 1) : keys (.mk n el ch (es ++ [y]) (cs ++ [m])) = keys (.mk n' el' ch' es cs) ++ y :: keys m := by
  rw [keys_two (n' := n') (el' := el') (ch' := ch') (n'' := 0) (el'' := 0) (ch'' := 0) h (by rfl), keys_one]
theorem keys_cons {n el ch n' el' ch' es y cs} {m : T} (h : cs.length = es.length + 1) : keys (.mk n el ch (y :: es) (m :: cs)) = keys m ++ y :: keys (.mk n' el' ch' es cs) := by
  have := keys_two (n := n) (el := el) (ch := ch) (n' := 0) (el' := 0) (ch' := 0) (n'' := n') (el'' := el') (ch'' := ch') (A := []) (B := es) (C := [m]) (D := cs) (e := y) (by rfl) h
  rw [List.nil_append, List.singleton_append] at this
  rw [this, keys_one]
/-- the last goes over to the right neighbour -/
theorem stealL {h : Nat} {ln lel lch cn cel cch : Addr} {les0 ces : List Int} {lcs0 ccs : List T} (wl : Wf h (.mk ln lel lch les0 lcs0)) (wc : Wf h (.mk cn cel cch ces ccs)) (h3 : 3 ≤ les0.length) :
    ∃ les y lcs mv, les0 = les ++ [y] ∧ lcs0 = lcs ++ mv ∧ (if (h == 0) then mv = [] else ∃ m, mv = [m]) ∧ Wf h (.mk ln lel lch les lcs) ∧
      ∀ s, Wf h (.mk cn cel cch (s :: ces) (mv ++ ccs)) ∧ keys (.mk ln lel lch les0 lcs0) ++ s :: keys (.mk cn cel cch ces ccs) = keys (.mk ln lel lch les lcs) ++ y :: keys (.mk cn cel cch (s :: ces) (mv ++ ccs)) := by
  rcases List.eq_nil_or_concat les0 with rfl | ⟨les, y, rfl⟩
  · simp at h3
  rw [List.concat_eq_append] at *
  cases h with
  | zero =>
    obtain rfl : lcs0 = [] := wl
    obtain rfl : ccs = [] := wc
    exact ⟨les, y, [], [], rfl, rfl, by simp, rfl, fun s => ⟨rfl, by simp [keys_leaf]⟩⟩
  | succ h =>
    have hl := wl.1
    have hc := wc.1
    simp only [T_cs, T_es, List.length_append, List.length_singleton] at hl hc
    rcases List.eq_nil_or_concat lcs0 with rfl | ⟨lcs, m, rfl⟩
    · simp at hl
    rw [List.concat_eq_append] at *
    rw [List.length_append, List.length_singleton] at hl
    refine ⟨les, y, lcs, [m], rfl, rfl, by simp, ⟨by simp only [T_cs, T_es]; omega, fun c hc => wl.2 c (List.mem_append_left _ hc)⟩, fun s => ⟨⟨by simp only [T_cs, T_es, List.length_append, List.length_cons, List.length_nil]; omega, fun c hc => ?_⟩, ?_⟩⟩
    · rcases List.mem_append.mp hc with hc | hc
      · exact wl.2 c (List.mem_append_right _ hc)
      · exact wc.2 c hc
    · rw [List.singleton_append, keys_snoc (n' := ln) (el' := lel) (ch' := lch) (by omega), keys_cons (n' := cn) (el' := cel) (ch' := cch) (by omega)]
      simp
/-- the first goes over to the left neighbour -/
theorem stealR {h : Nat} {rn rel rch cn cel cch : Addr} {res0 ces : List Int} {rcs0 ccs : List T} (wr : Wf h (.mk rn rel rch res0 rcs0)) (wc : Wf h (.mk cn cel cch ces ccs)) (h3 : 3 ≤ res0.length) :
    ∃ res y rcs mv, res0 = y :: res ∧ rcs0 = mv ++ rcs ∧ (if (h == 0) then mv = [] else ∃ m, mv = [m]) ∧ Wf h (.mk rn rel rch res rcs) ∧
      ∀ s, Wf h (.mk cn cel cch (ces ++ [s]) (ccs ++ mv)) ∧ keys (.mk cn cel cch ces ccs) ++ s :: keys (.mk rn rel rch res0 rcs0) = keys (.mk cn cel cch (ces ++ [s]) (ccs ++ mv)) ++ y :: keys (.mk rn rel rch res rcs) := by
  match res0, h3 with
  | y :: res, h3 =>
  cases h with
  | zero =>
    obtain rfl : rcs0 = [] := wr
    obtain rfl : ccs = [] := wc
    exact ⟨res, y, [], [], rfl, rfl, by simp, rfl, fun s => ⟨rfl, by simp [keys_leaf]⟩⟩
  | succ h =>
    have hl := wr.1
    have hc := wc.1
    simp only [T_cs, T_es, List.length_cons] at hl hc
    match rcs0, hl with
    | m :: rcs, hl =>
    rw [List.length_cons] at hl
    refine ⟨res, y, rcs, [m], rfl, rfl, by simp, ⟨by simp only [T_cs, T_es]; omega, fun c hc => wr.2 c (.tail _ hc)⟩, fun s => ⟨⟨by simp only [T_cs, T_es, List.length_append, List.length_cons, List.length_nil]; omega, fun c hc => ?_⟩, ?_⟩⟩
    · rcases List.mem_append.mp hc with hc | hc
      · exact wc.2 c hc
      · simp at hc; subst hc; exact wr.2 c (.head _)
    · rw [keys_snoc (n' := cn) (el' := cel) (ch' := cch) (by omega), keys_cons (n' := rn) (el' := rel) (ch' := rch) (by omega)]
      simp
theorem mergeT {h : Nat} {ln lel lch rn rel rch : Addr} {les res : List Int} {lcs rcs : List T} (wl : Wf h (.mk ln lel lch les lcs)) (wr : Wf h (.mk rn rel rch res rcs)) (s : Int) :
    (if (h == 0) then rcs = [] else rcs ≠ []) ∧ Wf h (.mk ln lel lch (les ++ s :: res) (lcs ++ rcs)) ∧ keys (.mk ln lel lch (les ++ s :: res) (lcs ++ rcs)) = keys (.mk ln lel lch les lcs) ++ s :: keys (.mk rn rel rch res rcs) := by
  cases h with
  | zero =>
    obtain rfl : lcs = [] := wl
    obtain rfl : rcs = [] := wr
    exact ⟨by simp, rfl, by simp [keys_leaf]⟩
  | succ h =>
    have hl := wl.1
    have hr := wr.1
    simp only [T_cs, T_es] at hl hr
    refine ⟨?_, ⟨by simp only [T_cs, T_es, List.length_append, List.length_cons]; omega, fun c hc => ?_⟩, keys_two hl hr⟩
    · simp; rintro rfl; simp at hr
    · rcases List.mem_append.mp hc with hc | hc
      · exact wl.2 c hc
      · exact wr.2 c hc

/-- the addresses of a ledger are apart -/
theorem raws_fst {I : Imm} : ∀ {l : Led} {rs}, Raws I l rs → (l.map (·.1)).Sublist (rs.flatten.map (·.1))
  | _, _, .nil => .slnil
  | _, _, .cons (p := p) (r := r) (l := l) (rs := rs) a b => by
    rw [List.map_cons, List.flatten_cons, List.map_append]
    have : [p.1].Sublist (r.map (·.1)) := by
      cases a <;> simp
    exact this.append (raws_fst b)
theorem FR.apart {Φ : Fx} {ρ : Loc} {l : Led} {I : Imm} {s : Shared} (F : FR Φ ρ l I s) : (l.map (·.1)).Nodup := by
  obtain ⟨m, rs, W⟩ := F
  have := W.nodup
  rw [List.map_append] at this
  exact (List.nodup_append.mp this).1.sublist (raws_fst W.raws)
theorem Spec.apart {c : Cx} {f : Value} {xs : List V} {n : Nat} {l : Led} {Q : V → Led → Prop} (h : (l.map (·.1)).Nodup → Spec c f xs n l Q) : Spec c f xs n l Q :=
  fun Φ A ρ I s vs ok hA hr F S => h F.apart Φ A ρ I s vs ok hA hr F S
theorem WSs.apart {c : Cx} {Φ : Fx} {ρ : Loc} {l : Led} {st : List Stmt} {Q : Fl → Loc → Led → Prop} (h : (l.map (·.1)).Nodup → WSs c Φ ρ l st Q) : WSs c Φ ρ l st Q :=
  ⟨fun ok I s F => (h F.apart).run ok I s F⟩
/-! ## FXPath -/
/-- the way from the root to a node: the keys left of it, the keys right of it -/
inductive Path (root : T) (H : Nat) : List (T × Nat) → Nat → T → List Int → List Int → Prop
  | nil : Path root H [] H root [] []
  | cons {ps : List (T × Nat)} {h : Nat} {n el ch : Addr} {A B : List Int} {C D : List T} {c : T} {L R : List Int} : Path root H ps (h + 1) (.mk n el ch (A ++ B) (C ++ c :: D)) L R → A.length = C.length → D.length = B.length →
      Path root H (ps ++ [(.mk n el ch (A ++ B) (C ++ c :: D), A.length)]) h c (L ++ kl A C) (kr B D ++ R)
theorem Path.nilI {root : T} {H : Nat} {ps h t L R} (p : Path root H ps h t L R) (e : ps = []) : h = H ∧ t = root ∧ L = [] ∧ R = [] := by
  cases p with
  | nil => exact ⟨rfl, rfl, rfl, rfl⟩
  | cons _ _ _ => simp at e
theorem Path.wf {root : T} {H : Nat} (w : Wf H root) {ps h t L R} (p : Path root H ps h t L R) : Wf h t := by
  induction p with
  | nil => exact w
  | cons _ _ _ ih => exact (ih.2 _ (List.mem_append_right _ (.head _))).1
theorem Path.sz {root : T} {H : Nat} (w : Wf H root) (h5 : root.es.length ≤ 5) (h1 : 0 < H → 1 ≤ root.es.length) {ps h t L R} (p : Path root H ps h t L R) : t.es.length ≤ 5 ∧ (0 < h → 1 ≤ t.es.length) := by
  cases p with
  | nil => exact ⟨h5, h1⟩
  | cons p _ _ =>
    obtain ⟨_, a, b⟩ := (p.wf w).2 _ (List.mem_append_right _ (.head _))
    exact ⟨b, fun _ => by omega⟩
theorem Path.keyz {root : T} {H : Nat} {ps h t L R} (p : Path root H ps h t L R) : keys root = L ++ keys t ++ R := by
  induction p with
  | nil => simp
  | cons _ a b ih => rw [ih, keys_mk a b]; simp
theorem Path.mem {root : T} {H : Nat} {cr : Addr} {ps h t L R} (p : Path root H ps h t L R) : ∀ x ∈ objs cr t, x ∈ objs cr root := by
  induction p with
  | nil => exact fun _ h => h
  | cons _ _ _ ih =>
    intro x hx
    refine ih x ?_
    rw [objs_mk, objsL_append, objsL_cons]
    exact .tail _ (.tail _ (.tail _ (List.mem_append_right _ (List.mem_append_left _ hx))))
theorem Path.len {root : T} {H : Nat} {ps h t L R} (p : Path root H ps h t L R) : ps.length + h = H := by
  induction p with
  | nil => simp
  | cons _ _ _ ih => simp; omega
def pair (p : T × Nat) : V := .tup [.ref p.1.n, .int p.2]
/-- a gap between the keys: at a leaf before the key at i, else before or after the child at i -/
def Gap (after : Bool) (root : T) (H : Nat) (ps : List (T × Nat)) (h : Nat) (t : T) (i : Nat) (Lk Rk : List Int) : Prop :=
  ∃ L R, Path root H ps h t L R ∧ ((h = 0 ∧ ∃ A B, t.es = A ++ B ∧ i = A.length ∧ Lk = L ++ A ∧ Rk = B ++ R) ∨
    (0 < h ∧ ∃ n el ch A B C c D, t = .mk n el ch (A ++ B) (C ++ c :: D) ∧ i = A.length ∧ A.length = C.length ∧ D.length = B.length ∧
      if after then Lk = L ++ kl A C ++ keys c ∧ Rk = kr B D ++ R else Lk = L ++ kl A C ∧ Rk = keys c ++ (kr B D ++ R)))
theorem Gap.keyz {after root H ps h t i Lk Rk} (w : Wf H root) (g : Gap after root H ps h t i Lk Rk) : keys root = Lk ++ Rk := by
  obtain ⟨L, R, p, ⟨rfl, A, B, e, _, rfl, rfl⟩ | ⟨_, n, el, ch, A, B, C, c, D, rfl, _, h1, h2, hh⟩⟩ := g
  · have wt := p.wf w
    obtain ⟨n, el, ch, es, cs⟩ := t
    obtain rfl : cs = [] := wt
    simp only [T_es] at e
    subst e
    rw [p.keyz, keys_leaf]; simp
  · rw [p.keyz, keys_mk h1 h2]
    cases after
    · obtain ⟨rfl, rfl⟩ := hh; simp
    · obtain ⟨rfl, rfl⟩ := hh; simp
/-- at a leaf it is all one -/
theorem Gap.leaf {a b root H ps t i Lk Rk} (g : Gap a root H ps 0 t i Lk Rk) : Gap b root H ps 0 t i Lk Rk := by
  obtain ⟨L, R, p, hh | ⟨h, _⟩⟩ := g
  · exact ⟨L, R, p, .inl hh⟩
  · exact absurd h (by decide)
/-- down to the child: its first gap -/
theorem Gap.downL {root H ps h n el ch es cs i Lk Rk} (w : Wf H root) (g : Gap false root H ps (h + 1) (.mk n el ch es cs) i Lk Rk) : ∃ c, cs[i]? = some c ∧ i ≤ 5 + es.length ∧ Gap false root H (ps ++ [(.mk n el ch es cs, i)]) h c 0 Lk Rk := by
  obtain ⟨L, R, p, ⟨h0, _⟩ | ⟨_, n', el', ch', A, B, C, c, D, e, rfl, h1, h2, rfl, rfl⟩⟩ := g
  · exact absurd h0 (by omega)
  · cases e
    have q := Path.cons p h1 h2
    have wc := q.wf w
    refine ⟨c, by rw [h1]; simp, by simp; omega, _, _, q, ?_⟩
    cases h with
    | zero =>
      obtain ⟨n', el', ch', es', cs'⟩ := c
      obtain rfl : cs' = [] := wc
      exact .inl ⟨rfl, [], es', rfl, rfl, by simp, by rw [keys_leaf]⟩
    | succ h =>
      obtain ⟨n', el', ch', es', cs'⟩ := c
      obtain ⟨C', c', D', rfl, a1, a2⟩ := split_at (es := es') (cs := cs') (A := []) (B := es') wc.1 rfl
      obtain rfl : C' = [] := List.length_eq_zero_iff.mp a1.symm
      refine .inr ⟨by omega, n', el', ch', [], es', [], c', D', rfl, rfl, rfl, a2, by simp [kl_nil], ?_⟩
      have := keys_mk (n := n') (el := el') (ch := ch') (A := []) (B := es') (C := []) (D := D') (c := c') rfl a2
      rw [List.nil_append, List.nil_append] at this
      rw [List.nil_append, this, kl_nil]; simp
theorem Gap.downG {root H ps h n el ch es cs i Lk Rk} (w : Wf H root) (g : Gap true root H ps (h + 1) (.mk n el ch es cs) i Lk Rk) : ∃ c, cs[i]? = some c ∧ i ≤ 5 + es.length ∧ Gap true root H (ps ++ [(.mk n el ch es cs, i)]) h c c.es.length Lk Rk := by
  obtain ⟨L, R, p, ⟨h0, _⟩ | ⟨_, n', el', ch', A, B, C, c, D, e, rfl, h1, h2, rfl, rfl⟩⟩ := g
  · exact absurd h0 (by omega)
  · cases e
    have q := Path.cons p h1 h2
    have wc := q.wf w
    refine ⟨c, by rw [h1]; simp, by simp; omega, _, _, q, ?_⟩
    cases h with
    | zero =>
      obtain ⟨n', el', ch', es', cs'⟩ := c
      obtain rfl : cs' = [] := wc
      exact .inl ⟨rfl, es', [], by simp [T_es], rfl, by rw [keys_leaf], by simp⟩
    | succ h =>
      obtain ⟨n', el', ch', es', cs'⟩ := c
      obtain ⟨C', c', D', rfl, a1, a2⟩ := split_at (es := es') (cs := cs') (A := es') (B := []) wc.1 (List.append_nil es').symm
      obtain rfl : D' = [] := List.length_eq_zero_iff.mp a2
      refine .inr ⟨by omega, n', el', ch', es', [], C', c', [], by simp, rfl, a1, rfl, ?_⟩
      have := keys_mk (n := n') (el := el') (ch := ch') (A := es') (B := []) (C := C') (D := []) (c := c') a1 rfl
      rw [List.append_nil] at this
      rw [if_pos rfl, this, kr_nil]; simp
/-- one key on -/
theorem Gap.next {root H ps h t i Lk Rk} (g : Gap true root H ps h t i Lk Rk) (hi : i < t.es.length) : ∃ e Rk', t.es[i]? = some e ∧ Rk = e :: Rk' ∧ Gap false root H ps h t (i + 1) (Lk ++ [e]) Rk' := by
  obtain ⟨L, R, p, ⟨rfl, A, B, e, rfl, rfl, rfl⟩ | ⟨h0, n', el', ch', A, B, C, c, D, rfl, rfl, h1, h2, hh⟩⟩ := g
  · match B, e with
    | [], e => rw [e] at hi; simp at hi
    | b :: B, e => exact ⟨b, B ++ R, by rw [e]; simp, rfl, L, R, p, .inl ⟨rfl, A ++ [b], B, by rw [e]; simp, by simp, by simp, rfl⟩⟩
  · rw [if_pos rfl] at hh
    obtain ⟨rfl, rfl⟩ := hh
    match B, D, h2 with
    | [], _, _ => simp [T_es] at hi
    | b :: B, d :: D, h2 =>
      refine ⟨b, keys d ++ (kr B D ++ R), by simp [T_es], by rw [kr_cons]; simp, L, R, p, .inr ⟨h0, n', el', ch', A ++ [b], B, C ++ [c], d, D, by simp, by simp, by simp; omega, by simpa using h2, ?_⟩⟩
      rw [if_neg (by decide), kl_append h1]
      exact ⟨by simp [kl_cons, kl_nil], rfl⟩
theorem Gap.prev {root H ps h t i Lk Rk} (g : Gap false root H ps h t (i + 1) Lk Rk) : ∃ e Lk', t.es[i]? = some e ∧ Lk = Lk' ++ [e] ∧ Gap true root H ps h t i Lk' (e :: Rk) := by
  obtain ⟨L, R, p, ⟨rfl, A, B, e, hi, rfl, rfl⟩ | ⟨h0, n', el', ch', A, B, C, c, D, rfl, hi, h1, h2, hh⟩⟩ := g
  · rcases List.eq_nil_or_concat A with rfl | ⟨A, a, rfl⟩
    · simp at hi
    rw [List.concat_eq_append] at *
    have hi : i = A.length := by simp at hi; omega
    subst hi
    exact ⟨a, L ++ A, by rw [e]; simp, by simp, L, R, p, .inl ⟨rfl, A, a :: B, by rw [e]; simp, rfl, rfl, rfl⟩⟩
  · rw [if_neg (by decide)] at hh
    obtain ⟨rfl, rfl⟩ := hh
    rcases List.eq_nil_or_concat A with rfl | ⟨A, a, rfl⟩
    · simp at hi
    rw [List.concat_eq_append] at *
    rcases List.eq_nil_or_concat C with rfl | ⟨C, d, rfl⟩
    · simp at h1
    rw [List.concat_eq_append] at *
    have hi : i = A.length := by simp at hi; omega
    subst hi
    have h1 : A.length = C.length := by simpa using h1
    refine ⟨a, L ++ kl A C ++ keys d, by simp [T_es], by rw [kl_append h1]; simp [kl_cons, kl_nil], L, R, p, .inr ⟨h0, n', el', ch', A, a :: B, C, d, c :: D, by simp, rfl, h1, by simp [h2], ?_⟩⟩
    rw [if_pos rfl, kr_cons]
    exact ⟨by simp, by simp⟩
/-- back to the parent -/
theorem Gap.upR {root H ps p j h t i Lk Rk} (g : Gap true root H (ps ++ [(p, j)]) h t i Lk Rk) (w : Wf H root) (hi : t.es.length ≤ i) : Gap true root H ps (h + 1) p j Lk Rk := by
  obtain ⟨L, R, q, hh⟩ := g
  have key : Lk = L ++ keys t ∧ Rk = R := by
    have wt := q.wf w
    rcases hh with ⟨rfl, A, B, e, rfl, rfl, rfl⟩ | ⟨h0, n', el', ch', A, B, C, c, D, rfl, rfl, h1, h2, hh⟩
    · obtain ⟨n, el, ch, es, cs⟩ := t
      obtain rfl : cs = [] := wt
      simp only [T_es] at e hi
      subst e
      obtain rfl : B = [] := by rw [List.length_append] at hi; exact List.length_eq_zero_iff.mp (by omega)
      rw [keys_leaf]; simp
    · rw [if_pos rfl] at hh
      simp only [T_es, List.length_append] at hi
      obtain rfl : B = [] := List.length_eq_zero_iff.mp (by omega)
      obtain rfl : D = [] := List.length_eq_zero_iff.mp h2
      rw [hh.1, hh.2, keys_mk h1 rfl, kr_nil]; simp
  obtain ⟨rfl, rfl⟩ := key
  generalize hq : ps ++ [(p, j)] = qs at q
  cases q with
  | nil => simp at hq
  | cons q h1 h2 =>
    obtain ⟨rfl, e⟩ := List.append_inj' hq rfl
    cases e
    exact ⟨_, _, q, .inr ⟨by omega, _, _, _, _, _, _, _, _, rfl, rfl, h1, h2, by rw [if_pos rfl]; exact ⟨rfl, rfl⟩⟩⟩
theorem Gap.upL {root H ps p j h t Lk Rk} (g : Gap false root H (ps ++ [(p, j)]) h t 0 Lk Rk) (w : Wf H root) : Gap false root H ps (h + 1) p j Lk Rk := by
  obtain ⟨L, R, q, hh⟩ := g
  have key : Lk = L ∧ Rk = keys t ++ R := by
    have wt := q.wf w
    rcases hh with ⟨rfl, A, B, e, hi, rfl, rfl⟩ | ⟨h0, n', el', ch', A, B, C, c, D, rfl, hi, h1, h2, hh⟩
    · obtain ⟨n, el, ch, es, cs⟩ := t
      obtain rfl : cs = [] := wt
      simp only [T_es] at e
      subst e
      obtain rfl : A = [] := List.length_eq_zero_iff.mp hi.symm
      rw [keys_leaf]; simp
    · rw [if_neg (by decide)] at hh
      obtain rfl : A = [] := List.length_eq_zero_iff.mp hi.symm
      obtain rfl : C = [] := List.length_eq_zero_iff.mp h1.symm
      rw [hh.1, hh.2, keys_mk rfl h2, kl_nil]; simp
  obtain ⟨rfl, rfl⟩ := key
  generalize hq : ps ++ [(p, j)] = qs at q
  cases q with
  | nil => simp at hq
  | cons q h1 h2 =>
    obtain ⟨rfl, e⟩ := List.append_inj' hq rfl
    cases e
    exact ⟨_, _, q, .inr ⟨by omega, _, _, _, _, _, _, _, _, rfl, rfl, h1, h2, by rw [if_neg (by decide)]; exact ⟨rfl, by simp⟩⟩⟩
/-- at the root's end -/
theorem Gap.endR {root H h t i Lk Rk} (g : Gap true root H [] h t i Lk Rk) (w : Wf H root) (hi : t.es.length ≤ i) : Rk = [] := by
  obtain ⟨L, R, q, hh⟩ := g
  obtain ⟨rfl, rfl, rfl, rfl⟩ := q.nilI rfl
  rcases hh with ⟨h0, A, B, e, rfl, rfl, rfl⟩ | ⟨h0, n', el', ch', A, B, C, c, D, rfl, rfl, h1, h2, hh⟩
  · rw [e, List.length_append] at hi
    obtain rfl : B = [] := List.length_eq_zero_iff.mp (by omega)
    rfl
  · rw [if_pos rfl] at hh
    simp only [T_es, List.length_append] at hi
    obtain rfl : B = [] := List.length_eq_zero_iff.mp (by omega)
    obtain rfl : D = [] := List.length_eq_zero_iff.mp h2
    rw [hh.2, kr_nil]; rfl
theorem Gap.endL {root H h t Lk Rk} (g : Gap false root H [] h t 0 Lk Rk) : Lk = [] := by
  obtain ⟨L, R, q, hh⟩ := g
  obtain ⟨rfl, rfl, rfl, rfl⟩ := q.nilI rfl
  rcases hh with ⟨h0, A, B, e, hi, rfl, rfl⟩ | ⟨h0, n', el', ch', A, B, C, c, D, rfl, hi, h1, h2, hh⟩
  · have := List.length_eq_zero_iff.mp hi.symm
    subst this
    rfl
  · rw [if_neg (by decide)] at hh
    obtain rfl : A = [] := List.length_eq_zero_iff.mp hi.symm
    obtain rfl : C = [] := List.length_eq_zero_iff.mp h1.symm
    rw [hh.1, kl_nil]; rfl
/-- the two ends of all -/
theorem Gap.first {root H} (w : Wf H root) : Gap false root H [] H root 0 [] (keys root) := by
  refine ⟨[], [], .nil, ?_⟩
  obtain ⟨n, el, ch, es, cs⟩ := root
  cases H with
  | zero =>
    obtain rfl : cs = [] := w
    exact .inl ⟨rfl, [], es, rfl, rfl, rfl, by rw [keys_leaf]; simp⟩
  | succ h =>
    obtain ⟨C', c', D', rfl, a1, a2⟩ := split_at (es := es) (cs := cs) (A := []) (B := es) w.1 rfl
    obtain rfl : C' = [] := List.length_eq_zero_iff.mp a1.symm
    refine .inr ⟨by omega, n, el, ch, [], es, [], c', D', rfl, rfl, rfl, a2, ?_⟩
    have := keys_mk (n := n) (el := el) (ch := ch) (A := []) (B := es) (C := []) (D := D') (c := c') rfl a2
    rw [List.nil_append, List.nil_append] at this
    simp only [List.nil_append]
    rw [if_neg (by decide), this, kl_nil]; simp
theorem Gap.last {root H} (w : Wf H root) : Gap true root H [] H root root.es.length (keys root) [] := by
  refine ⟨[], [], .nil, ?_⟩
  obtain ⟨n, el, ch, es, cs⟩ := root
  cases H with
  | zero =>
    obtain rfl : cs = [] := w
    exact .inl ⟨rfl, es, [], by simp [T_es], rfl, by rw [keys_leaf]; rfl, rfl⟩
  | succ h =>
    obtain ⟨C', c', D', rfl, a1, a2⟩ := split_at (es := es) (cs := cs) (A := es) (B := []) w.1 (List.append_nil es).symm
    obtain rfl : D' = [] := List.length_eq_zero_iff.mp a2
    refine .inr ⟨by omega, n, el, ch, es, [], C', c', [], by simp, rfl, a1, rfl, ?_⟩
    have := keys_mk (n := n) (el := el) (ch := ch) (A := es) (B := []) (C := C') (D := []) (c := c') a1 rfl
    rw [List.append_nil] at this
    rw [if_pos rfl, this, kr_nil]; simp
local macro_rules | `(tactic| walk_at "fx mem") => `(tactic| with_reducible first | assumption | exact led_here | (refine' led_there ?_; walk_at "fx mem"))
local macro_rules | `(tactic| walk_at "fx loc") => `(tactic| with_reducible first | exact loc_here | (refine' loc_there ?_; walk_at "fx loc"))
local macro_rules | `(tactic| walk_at "fx put") => `(tactic| with_reducible first | exact PUpd.here | (apply PUpd.there; walk_at "fx put"))
local macro_rules | `(tactic| walk_at "fx upd") => `(tactic| first | exact LUpd.head | (apply LUpd.tail; walk_at "fx upd"))
local macro_rules | `(tactic| walk_at "fx at") => `(tactic| with_reducible first
  | exact an_elts _ | exact an_children _ | exact an_is_leaf _ | exact an_t _ | exact an_creator _
  | exact ac_current_node _ | exact ac_current_index _ | exact ac_recurse _ | exact ac_increasing _ | exact ac_parents _ | exact ac_parked _ | exact ac_parking_key _ | exact ac_parking_key_read _ | exact ac_btree _
  | exact at_root _ | exact at_size _ | exact at_cursors _ | exact at_creator _ | exact at_immutable _ | exact at_t _ | exact at_in_order _)
local macro_rules | `(tactic| walk_at "fx st") => `(tactic| with_reducible first
  | exact sn_elts _ | exact sn_children _ | exact sn_is_leaf _ | exact sn_t _ | exact sn_creator _
  | exact sc_current_node _ | exact sc_current_index _ | exact sc_recurse _ | exact sc_increasing _ | exact sc_parents _ | exact sc_parked _ | exact sc_parking_key _ | exact sc_parking_key_read _ | exact sc_btree _
  | exact st_root _ | exact st_size _ | exact st_cursors _ | exact st_creator _ | exact st_immutable _ | exact st_t _ | exact st_in_order _)
local macro_rules | `(tactic| walk_at "fx get") => `(tactic| first
  | (with_reducible first
    | exact get_nodeF_elts | exact get_nodeF_children | exact get_nodeF_is_leaf | exact get_nodeF_t | exact get_nodeF_creator
    | exact get_curF_current_node | exact get_curF_current_index | exact get_curF_recurse | exact get_curF_increasing | exact get_curF_parents | exact get_curF_parked | exact get_curF_parking_key | exact get_curF_parking_key_read | exact get_curF_btree
    | exact get_treeF_root | exact get_treeF_size | exact get_treeF_cursors | exact get_treeF_creator | exact get_treeF_immutable | exact get_treeF_t | exact get_treeF_in_order)
  | rfl)
local macro_rules | `(tactic| walk_at "fx set") => `(tactic| first
  | (with_reducible first
    | exact set_nodeF_elts | exact set_nodeF_children | exact set_nodeF_is_leaf | exact set_nodeF_t | exact set_nodeF_creator
    | exact set_curF_current_node | exact set_curF_current_index | exact set_curF_recurse | exact set_curF_increasing | exact set_curF_parents | exact set_curF_parked | exact set_curF_parking_key | exact set_curF_parking_key_read | exact set_curF_btree
    | exact set_treeF_root | exact set_treeF_size | exact set_treeF_cursors | exact set_treeF_creator | exact set_treeF_immutable | exact set_treeF_t | exact set_treeF_in_order)
  | rfl)
local macro_rules | `(tactic| walk_at "fx me") => `(tactic| with_reducible first
  | exact mn_is_maximal _ | exact mn_is_minimal _ | exact mn_search_in_node _ | exact mn_maybe_cow_child _ | exact mn_get_node _ | exact mn_get _ | exact mn_insert_nonfull _ | exact mn_split _ | exact mn_try_left_steal _ | exact mn_try_right_steal _ | exact mn_adopt _ | exact mn_merge _ | exact mn_minimum _ | exact mn_balance _ | exact mn_delete _ | exact mn_maybe_cow _
  | exact mc_seek_least _ | exact mc_seek_greatest _ | exact mc_park _ | exact mc_maybe_unpark _ | exact mc_prev _ | exact mc_next _ | exact mc_adjust_for_before _ | exact mc_seek _ | exact mc_seek_first _ | exact mc_seek_last _
  | exact mt_check_mutable_and_park _ | exact mt_insert_element _ | exact mt_get_element _ | exact mt_delete _ | exact mt_delete_key _ | exact mt_register_cursor _ | exact mt_add _ | exact mt_discard _)
local macro_rules | `(tactic| walk_at "fx mi") => `(tactic| with_reducible first
  | exact mi_n_is_maximal | exact mi_n_is_minimal | exact mi_n_search_in_node | exact mi_n_maybe_cow_child | exact mi_n_get_node | exact mi_n_get | exact mi_n_insert_nonfull | exact mi_n_split | exact mi_n_try_left_steal | exact mi_n_try_right_steal | exact mi_n_adopt | exact mi_n_merge | exact mi_n_minimum | exact mi_n_balance | exact mi_n_delete | exact mi_n_maybe_cow
  | exact mi_c_seek_least | exact mi_c_seek_greatest | exact mi_c_park | exact mi_c_maybe_unpark | exact mi_c_prev | exact mi_c_next | exact mi_c_adjust_for_before | exact mi_c_seek | exact mi_c_seek_first | exact mi_c_seek_last
  | exact mi_t_check_mutable_and_park | exact mi_t_insert_element | exact mi_t_get_element | exact mi_t_delete | exact mi_t_delete_key | exact mi_t_register_cursor | exact mi_t_add | exact mi_t_discard)
local macro_rules | `(tactic| walk_at "fx arith") => `(tactic| first | exact True.intro | with_reducible assumption | omega | (simp; done) | (simp; omega))
local macro_rules | `(tactic| walk_at "fx glob") => `(tactic| ((rename (Fx.scope _ = _) => hsc); rw [hsc]; rfl))
local macro_rules | `(tactic| walk_at "fx e") => `(tactic| first
  | ((with_reducible show WE _ _ _ _ _ (PySem.Expr.Name _ _) _); (refine' WE.name ?k1 ?k2 ?_; (case k1 => walk_at "fx loc"); (case k2 => first | (with_reducible assumption) | nofun)))
  | ((with_reducible show WE _ _ _ _ _ (PySem.Expr.Constant _ _ _) _); first | refine WE.int ?_ | refine WE.tt ?_ | refine WE.none ?_ | refine WE.str ?_)
  | ((with_reducible show WE _ _ _ _ _ (PySem.Expr.Attribute _ _ _) _); refine WE.attr ?_)
  | ((with_reducible show WE _ _ _ _ _ (PySem.Expr.Call (PySem.Expr.Attribute _ (Str.ofString "key") _) [] [] _) _); (refine' WE.key ?k1 ?_; (case k1 => omega)))
  | ((with_reducible show WE _ _ _ _ _ (PySem.Expr.Call (PySem.Expr.Name (Str.ofString "len") _) [_] [] _) _); (refine' WE.len ?k1 ?k2 ?_; (case k1 => exact b_len _); (case k2 => walk_at "fx glob")))
  | ((with_reducible show WE _ _ _ _ _ (PySem.Expr.Call (PySem.Expr.Name (Str.ofString "_MIN") _) [_] [] _) _); (refine' WE.callName ?k1 ?k2 ?k3 ?_; (case k1 => exact g_MIN _); (case k2 => walk_at "fx glob"); (case k3 => exact k_MIN _)))
  | ((with_reducible show WE _ _ _ _ _ (PySem.Expr.Call (PySem.Expr.Name (Str.ofString "_MAX") _) [_] [] _) _); (refine' WE.callName ?k1 ?k2 ?k3 ?_; (case k1 => exact g_MAX _); (case k2 => walk_at "fx glob"); (case k3 => exact k_MAX _)))
  | ((with_reducible show WE _ _ _ _ _ (PySem.Expr.Call (PySem.Expr.Name (Str.ofString "_Node") _) [_, _, _] [] _) _); (refine' WE.callName ?k1 ?k2 ?k3 ?_; (case k1 => exact g_Node _); (case k2 => walk_at "fx glob"); (case k3 => exact k_Node _)))
  | ((with_reducible show WE _ _ _ _ _ (PySem.Expr.Call (PySem.Expr.Attribute _ _ _) _ [] _) _); refine WE.meth ?_)
  | ((with_reducible show WE _ _ _ _ _ (PySem.Expr.Compare _ [_] [_] _) _); refine WE.cmp ?_)
  | ((with_reducible show WE _ _ _ _ _ (PySem.Expr.BinOp _ _ _ _) _); refine WE.bin ?_)
  | ((with_reducible show WE _ _ _ _ _ (PySem.Expr.Subscript _ _ _) _); refine WE.item ?_)
  | ((with_reducible show WE _ _ _ _ _ (PySem.Expr.IfExp _ _ _ _) _); refine WE.ite ?_)
  | ((with_reducible show WE _ _ _ _ _ (PySem.Expr.UnaryOp _ _ _) _); first | refine WE.not ?_ | refine WE.neg ?_)
  | ((with_reducible show WE _ _ _ _ _ (PySem.Expr.Tuple _ _ _) _); refine WE.tuple ?_)
  | ((with_reducible show WE _ _ _ _ _ (PySem.Expr.List _ _) _); refine WE.list ?_))
local macro_rules | `(tactic| walk_at "fx s") => `(tactic| first
  | ((with_reducible show WSs _ _ _ _ [] _); refine WSs.nil ?_)
  | ((with_reducible show WSs _ _ _ _ (Stmt.Return _ _ :: _) _); first | refine WSs.ret ?_ | refine WSs.retNone ?_)
  | ((with_reducible show WSs _ _ _ _ (Stmt.Assign [PySem.Expr.Name _ _] _ _ :: _) _); refine WSs.assign ?_)
  | ((with_reducible show WSs _ _ _ _ (Stmt.Assign [PySem.Expr.Attribute _ _ _] _ _ :: _) _); refine WSs.setAttr ?_)
  | ((with_reducible show WSs _ _ _ _ (Stmt.Assign [PySem.Expr.Subscript _ _ _] _ _ :: _) _); refine WSs.setItem ?_)
  | ((with_reducible show WSs _ _ _ _ (Stmt.AugAssign (PySem.Expr.Attribute _ _ _) _ _ _ :: _) _); refine WSs.augAttr ?_)
  | ((with_reducible show WSs _ _ _ _ (Stmt.Assert _ _ _ :: _) _); refine WSs.assert ?_)
  | ((with_reducible show WSs _ _ _ _ (Stmt.Expr _ _ :: _) _); refine WSs.expr ?_)
  | ((with_reducible show WSs _ _ _ _ (Stmt.Pass _ :: _) _); refine WSs.pass ?_)
  | ((with_reducible show WSs _ _ _ _ (Stmt.Break _ :: _) _); refine WSs.brk ?_)
  | ((with_reducible show WSs _ _ _ _ (Stmt.Continue _ :: _) _); refine WSs.cont ?_))
local macro_rules | `(tactic| walk_at "fx b") => `(tactic| first
  | ((with_reducible show WB _ _ _ _ _ (PySem.Expr.Compare _ [_] [_] _) _); refine WB.cmp ?_)
  | ((with_reducible show WB _ _ _ _ _ (PySem.Expr.UnaryOp _ _ _) _); refine WB.not ?_)
  | ((with_reducible show WB _ _ _ _ _ (PySem.Expr.BoolOp _ _ _) _); first | refine WB.and ?_ | refine WB.or ?_)
  | refine WB.val ?_)
local macro_rules | `(tactic| walk_at "fx x") => `(tactic| first
  | (refine' x_attr ?k1 ?k2 ?k3 ?_; (case k1 => walk_at "fx mem"); (case k2 => walk_at "fx get"); (case k3 => walk_at "fx at"))
  | (refine' x_meth ?k1 ?k2 ?k3 ?_; (case k1 => walk_at "fx mem"); (case k2 => walk_at "fx me"); (case k3 => walk_at "fx mi"))
  | (refine' x_cmpB ?k1 ?_; (case k1 => first | (with_reducible exact cmp_isNot_self) | (with_reducible exact cmp_is_self) | rfl))
  | (refine' x_bin ?k1 ?k2 ?_; (case k1 => rfl); (case k2 => walk_at "fx arith"))
  | (refine' x_set ?k1 ?k2 ?k3 ?k4 ?_; (case k1 => walk_at "fx upd"); (case k2 => walk_at "fx set"); (case k3 => walk_at "fx st"); (case k4 => exact Nat.le_of_ble_eq_true rfl))
  | (refine' x_item ?k1 ?k2 ?k3 ?k4 ?_; (case k1 => walk_at "fx mem"); (case k2 => walk_at "fx arith"); (case k3 => walk_at "fx arith"); (case k4 => with_reducible assumption))
  | (refine' x_len ?k1 ?k2 ?_; (case k1 => walk_at "fx mem"); (case k2 => walk_at "fx arith"))
  | (refine' x_truth ?k1 ?_; (case k1 => rfl))
  | (refine' x_val ?k1 ?_; (case k1 => rfl))
  | (refine' x_put ?k1 ?_; (case k1 => walk_at "fx put"))
  | (refine' x_assert ?k1 ?_; (case k1 => first | (with_reducible rfl) | (simp only [decide_eq_true_eq]; omega) | (simp; done) | (simp; omega)))
  | (refine' x_disp ?k1 ?_; (case k1 => exact Nat.le_of_ble_eq_true rfl))
  | refine x_key ?_
  | refine x_neg ?_)
local macro_rules | `(tactic| walk_at "fx") => `(tactic| first
  | ((with_reducible show WE _ _ _ _ _ _ _); walk_at "fx e")
  | ((with_reducible show WSs _ _ _ _ _ _); walk_at "fx s")
  | ((with_reducible show WB _ _ _ _ _ _ _); walk_at "fx b")
  | ((with_reducible show WEs _ _ _ _ _ _ _); first | refine WEs.cons ?_ | refine WEs.nil ?_)
  | (with_reducible first | refine ite_tt ?_ | refine ite_ff ?_ | refine ite_nf ?_ | refine ite_nt ?_)
  | walk_at "fx x")
local macro_rules | `(tactic| walk_at "fx*") => `(tactic| repeat walk_at "fx")
local macro_rules | `(tactic| walk_at "fx sub") => `(tactic| (refine lsub_of_cnt fun p => ?_; simp only [nodeO, T_n, List.map_append, List.map_cons, List.map_nil, List.map_take, List.map_drop, cnt_cons, cnt_append, cnt_nil, objs_mk, objsL_append, objsL_cons, objsL_nil, List.cons_append, List.nil_append, List.append_assoc]; omega))


/-! ## FXA -/
set_option profiler true
set_option profiler.threshold 100
theorem t_search {w : World} {n el : Addr} {t cr lf ch : V} {es : List Int} {key : Int} {l : Led} (hn : (n, O.inst 234 (nodeF t cr lf (.ref el) ch)) ∈ l) (he : (el, O.list (es.map .mem)) ∈ l) (hp : es.Pairwise (· < ·)) (hlen : es.length ≤ 100) {k : Nat} (hk : 2 ≤ k) :
    Spec (cx w) (.ref 105) [.ref n, .int key] k l (fun x l' => l' = l ∧ ∃ A B b, es = A ++ B ∧ x = .tup [.int A.length, .bool b] ∧ (∀ a ∈ A, a < key) ∧ (b = true → ∃ B', B = key :: B') ∧ (b = false → ∀ a ∈ B, key < a)) := by
  refine Spec.fn' (by omega) [("self", .ref n), ("key", .int key), ("l", .unb), ("i", .unb), ("r", .unb), ("equal", .unb), ("m", .unb), ("k", .unb)] ["l", "i", "r", "equal", "m", "k"] (ho := (rfl : (cx w).K.lookup 105 = some ⟨_, _, .func (fnX _ _ _ _ _ [] .none _ _ _ _ _ _), _⟩)) (by kernel_rfl) rfl rfl rfl rfl rfl (by decide) rfl (by rfl) ?_
  intro Φ hs hr
  walk_at "fx*"
  simp only [List.length_map]
  refine WSs.iteJ (fun ρ' l' => ρ' = ([("self", .ref n), ("key", .int key), ("l", .int es.length), ("i", .unb), ("r", .unb), ("equal", .unb), ("m", .unb), ("k", .unb)] : Loc) ∧ l' = l) ?_ ?_
  · walk_at "fx*"
    refine ite_or (fun h => ?_) (fun h => ?_)
    · simp only [decide_eq_true_eq] at h
      rcases List.eq_nil_or_concat es with rfl | ⟨es', a, rfl⟩
      · simp at h
      simp only [List.concat_eq_append] at *
      have hx : (List.map V.mem (es' ++ [a]))[(((es' ++ [a]).length : Int) - 1).toNat]? = some (V.mem a) := by
        simp
      walk_at "fx*"
      refine ite_or (fun h2 => ?_) (fun h2 => ?_)
      · walk_at "fx*"
        simp only [decide_eq_true_eq] at h2
        refine ⟨rfl, es' ++ [a], [], false, by simp, rfl, fun b hb => ?_, by simp, by simp⟩
        rcases List.mem_append.mp hb with hb | hb
        · have := (List.pairwise_append.mp hp).2.2 b hb a (by simp)
          omega
        · simp at hb; omega
      · walk_at "fx*"
        exact ⟨rfl, rfl⟩
    · walk_at "fx*"
      exact ⟨rfl, rfl⟩
  rintro ρ' l' ⟨rfl, rfl⟩
  walk_at "fx*"
  simp only [List.length_map]
  have hsort := List.pairwise_iff_getElem.mp hp
  refine WSs.while_ (fun m ρ' l'' => l'' = l' ∧ ∃ (lo i : Nat) (mm kk : V), lo ≤ i ∧ i ≤ es.length ∧ m = i - lo ∧ (∀ j (h : j < es.length), j < lo → es[j] < key) ∧ (∀ j (h : j < es.length), i ≤ j → key < es[j]) ∧
    ρ' = ([("self", .ref n), ("key", .int key), ("l", .int lo), ("i", .int i), ("r", .int ((i : Int) - 1)), ("equal", .bool false), ("m", mm), ("k", kk)] : Loc)) es.length
    ⟨rfl, 0, es.length, .unb, .unb, by omega, by omega, by omega, fun j h h' => by omega, fun j h h' => by omega, rfl⟩ ?_
  rintro m ρ' l'' ⟨rfl, lo, i, mm, kk, h1, h2, rfl, hlo, hhi, rfl⟩
  walk_at "fx*"
  refine ite_or (fun h => ?_) (fun h => ?_)
  · simp only [decide_eq_true_eq] at h
    obtain ⟨mid, hmid⟩ : ∃ mid : Nat, mid = (lo + (i - 1)) / 2 := ⟨_, rfl⟩
    have hM : ((lo : Int) + ((i : Int) - 1)).fdiv 2 = (mid : Int) := by
      rw [Int.fdiv_eq_ediv_of_nonneg _ (by omega)]; omega
    have hml : mid < es.length := by omega
    have hx : (List.map V.mem es)[((mid : Int)).toNat]? = some (V.mem es[mid]) := by simp [hml]
    walk_at "fx*"
    simp only [hM]
    walk_at "fx*"
    refine WSs.ite ?_
    walk_at "fx*"
    refine ite_or (fun h3 => ?_) (fun h3 => ?_)
    · walk_at "fx*"
      have h3 := eq_of_beq h3
      refine ⟨rfl, es.take mid, es.drop mid, true, by simp, by simp; omega, fun a ha => ?_, fun _ => ⟨es.drop (mid + 1), ?_⟩, by simp⟩
      · obtain ⟨j, hj, rfl⟩ := List.mem_iff_getElem.mp ha
        simp only [List.length_take] at hj
        rw [List.getElem_take, h3]
        exact hsort j mid (by omega) hml (by omega)
      · rw [List.drop_eq_getElem_cons hml, h3]
    · have h3 : key ≠ es[mid] := fun e => by simp [e] at h3
      walk_at "fx*"
      refine WSs.ite ?_
      walk_at "fx*"
      refine ite_or (fun h4 => ?_) (fun h4 => ?_)
      · simp only [decide_eq_true_eq] at h4
        walk_at "fx*"
        refine ⟨_, ?_, rfl, lo, mid, _, _, by omega, by omega, rfl, hlo, fun j h' hj => ?_, rfl⟩
        · omega
        · by_cases e : j = mid
          · subst e; exact h4
          · have := hsort mid j hml h' (by omega); omega
      · simp only [decide_eq_false_iff_not] at h4
        walk_at "fx*"
        refine ⟨_, ?_, rfl, mid + 1, i, _, _, by omega, by omega, rfl, fun j h' hj => ?_, hhi, rfl⟩
        · omega
        · by_cases e : j = mid
          · subst e; omega
          · have := hsort j mid h' hml (by omega); omega
  · simp only [decide_eq_false_iff_not] at h
    have e : lo = i := by omega
    subst e
    walk_at "fx*"
    refine ⟨rfl, es.take lo, es.drop lo, false, by simp, by simp; omega, fun a ha => ?_, by simp, fun _ a ha => ?_⟩
    · obtain ⟨j, hj, rfl⟩ := List.mem_iff_getElem.mp ha
      simp only [List.length_take] at hj
      rw [List.getElem_take]
      exact hlo j (by omega) (by omega)
    · obtain ⟨j, hj, rfl⟩ := List.mem_iff_getElem.mp ha
      simp only [List.length_drop] at hj
      rw [List.getElem_drop]
      exact hhi _ (by omega) (by omega)
/-! ## FXA2 -/
theorem uniq {A B A' B' : List Int} {k : Int} {b : Bool} (e : A ++ B = A' ++ B') (hA : ∀ a ∈ A, a < k) (hB : ∀ a ∈ B, k < a) (hA' : ∀ a ∈ A', a < k) (h1 : b = true → ∃ B'', B' = k :: B'') (h2 : b = false → ∀ a ∈ B', k < a) : A' = A ∧ B' = B ∧ b = false := by
  have hb : b = false := by
    cases b with
    | false => rfl
    | true =>
      obtain ⟨B'', rfl⟩ := h1 rfl
      have : k ∈ A ++ B := by rw [e]; simp
      rcases List.mem_append.mp this with h | h
      · have := hA _ h; omega
      · have := hB _ h; omega
  have h2 := h2 hb
  refine ⟨?_, ?_, hb⟩
  · have : A'.length = A.length := by
      have e1 : (A ++ B).filter (· < k) = A := by rw [List.filter_append, filter_all fun x hx => by simpa using hA x hx, filter_none fun x hx => by have := hB x hx; simp; omega, List.append_nil]
      have e2 : (A' ++ B').filter (· < k) = A' := by rw [List.filter_append, filter_all fun x hx => by simpa using hA' x hx, filter_none fun x hx => by have := h2 x hx; simp; omega, List.append_nil]
      rw [e, e2] at e1
      rw [e1]
    exact (List.append_inj_left e this.symm).symm
  · have : A'.length = A.length := by
      have e1 : (A ++ B).filter (· < k) = A := by rw [List.filter_append, filter_all fun x hx => by simpa using hA x hx, filter_none fun x hx => by have := hB x hx; simp; omega, List.append_nil]
      have e2 : (A' ++ B').filter (· < k) = A' := by rw [List.filter_append, filter_all fun x hx => by simpa using hA' x hx, filter_none fun x hx => by have := h2 x hx; simp; omega, List.append_nil]
      rw [e, e2] at e1
      rw [e1]
    exact (List.append_inj_right e this.symm).symm
theorem uniqYes {A B A' B' : List Int} {k : Int} {b : Bool} (e : A ++ k :: B = A' ++ B') (hs : Srt (A ++ k :: B)) (hA' : ∀ a ∈ A', a < k) (h1 : b = true → ∃ B'', B' = k :: B'') (h2 : b = false → ∀ a ∈ B', k < a) : A' = A ∧ B' = k :: B ∧ b = true := by
  obtain ⟨_, s2, s3⟩ := List.pairwise_append.mp hs
  have hA : ∀ a ∈ A, a < k := fun a ha => s3 a ha k (.head _)
  have hB : ∀ a ∈ B, k < a := (List.pairwise_cons.mp s2).1
  have hb : b = true := by
    cases b with
    | true => rfl
    | false =>
      have : k ∈ A' ++ B' := by rw [← e]; simp
      rcases List.mem_append.mp this with h | h
      · have := hA' _ h; omega
      · have := h2 rfl _ h; omega
  obtain ⟨B'', rfl⟩ := h1 hb
  have hB' : ∀ a ∈ B'', k < a := by
    rw [e] at hs
    exact (List.pairwise_cons.mp (List.pairwise_append.mp hs).2.1).1
  have e1 : (A ++ k :: B).filter (· < k) = A := by rw [List.filter_append, filter_all fun x hx => by simpa using hA x hx, List.filter_cons, if_neg (by simp), filter_none fun x hx => by have := hB x hx; simp; omega, List.append_nil]
  have e2 : (A' ++ k :: B'').filter (· < k) = A' := by rw [List.filter_append, filter_all fun x hx => by simpa using hA' x hx, List.filter_cons, if_neg (by simp), filter_none fun x hx => by have := hB' x hx; simp; omega, List.append_nil]
  rw [e, e2] at e1
  subst e1
  exact ⟨rfl, (List.append_cancel_left e).symm, hb⟩
theorem t_searchNo {w : World} {n el : Addr} {t cr lf ch : V} {A B : List Int} {key : Int} {l : Led} (hn : (n, O.inst 234 (nodeF t cr lf (.ref el) ch)) ∈ l) (he : (el, O.list ((A ++ B).map .mem)) ∈ l) (hp : Srt (A ++ B)) (hlen : (A ++ B).length ≤ 100)
    (hA : ∀ a ∈ A, a < key) (hB : ∀ a ∈ B, key < a) {k : Nat} (hk : 2 ≤ k) : Spec (cx w) (.ref 105) [.ref n, .int key] k l (fun x l' => x = .tup [.int A.length, .bool false] ∧ l' = l) := by
  refine (t_search hn he hp hlen hk).post ?_
  rintro x l' ⟨rfl, A', B', b, e, rfl, h1, h2, h3⟩
  obtain ⟨rfl, rfl, rfl⟩ := uniq e hA hB h1 h2 h3
  exact ⟨rfl, rfl⟩
theorem t_searchYes {w : World} {n el : Addr} {t cr lf ch : V} {A B : List Int} {key : Int} {l : Led} (hn : (n, O.inst 234 (nodeF t cr lf (.ref el) ch)) ∈ l) (he : (el, O.list ((A ++ key :: B).map .mem)) ∈ l) (hp : Srt (A ++ key :: B)) (hlen : (A ++ key :: B).length ≤ 100)
    {k : Nat} (hk : 2 ≤ k) : Spec (cx w) (.ref 105) [.ref n, .int key] k l (fun x l' => x = .tup [.int A.length, .bool true] ∧ l' = l) := by
  refine (t_search hn he hp hlen hk).post ?_
  rintro x l' ⟨rfl, A', B', b, e, rfl, h1, h2, h3⟩
  obtain ⟨rfl, rfl, rfl⟩ := uniqYes e hp h1 h2 h3
  exact ⟨rfl, rfl⟩
theorem t_min {w : World} {k : Nat} {l : Led} (hk : 1 ≤ k) : Spec (cx w) (.ref 49) [.int 3] k l (fun x l' => x = .int 2 ∧ l' = l) := by
  refine Spec.fn' (by omega) [("t", .int 3)] [] (ho := (rfl : (cx w).K.lookup 49 = some ⟨_, _, .func (fnX _ _ _ _ _ [] .none _ _ _ _ _ _), _⟩)) (by kernel_rfl) rfl rfl rfl rfl rfl (by decide) rfl rfl ?_
  intro Φ hs hr
  walk_at "fx*"
  exact ⟨rfl, rfl⟩
theorem t_max {w : World} {k : Nat} {l : Led} (hk : 1 ≤ k) : Spec (cx w) (.ref 56) [.int 3] k l (fun x l' => x = .int 5 ∧ l' = l) := by
  refine Spec.fn' (by omega) [("t", .int 3)] [] (ho := (rfl : (cx w).K.lookup 56 = some ⟨_, _, .func (fnX _ _ _ _ _ [] .none _ _ _ _ _ _), _⟩)) (by kernel_rfl) rfl rfl rfl rfl rfl (by decide) rfl rfl ?_
  intro Φ hs hr
  walk_at "fx*"
  exact ⟨rfl, rfl⟩

theorem t_nodeInit {w : World} {cr : Addr} {lf : Bool} {k : Nat} {l : Led} (hk : 2 ≤ k) : Spec (cx w) (.ref 234) [.int 3, .ref cr, .bool lf] k l
    (fun x l' => ∃ n el ch, x = .ref n ∧ l' = (ch, O.list []) :: (el, O.list []) :: (n, nodeO cr lf el ch) :: l) := by
  refine Spec.cls (by omega) (mk_Node w) (in_Node w) (ty_Node w) fun a => ?_
  refine Spec.fn' (by omega) [("self", .ref a), ("t", .int 3), ("creator", .ref cr), ("is_leaf", .bool lf)] [] (ho := (rfl : (cx w).K.lookup 84 = some ⟨_, _, .func (fnX _ _ _ _ _ [] .none _ _ _ _ _ _), _⟩)) (by kernel_rfl) rfl rfl rfl rfl rfl (by decide) rfl rfl ?_
  intro Φ hs hr
  walk_at "fx*"
  intro el
  walk_at "fx*"
  intro ch
  walk_at "fx*"
  exact ⟨rfl, a, el, ch, rfl, rfl⟩

theorem t_isMax {w : World} {n el ch cr : Addr} {lf : Bool} {xs : List V} {k : Nat} {l : Led} (hn : (n, nodeO cr lf el ch) ∈ l) (he : (el, O.list xs) ∈ l) (hz : xs.length ≤ 5) (hk : 2 ≤ k) :
    Spec (cx w) (.ref 91) [.ref n] k l (fun x l' => x = .bool (decide (xs.length = 5)) ∧ l' = l) := by
  refine Spec.fn' (by omega) [("self", .ref n)] [] (ho := (rfl : (cx w).K.lookup 91 = some ⟨_, _, .func (fnX _ _ _ _ _ [] .none _ _ _ _ _ _), _⟩)) (by kernel_rfl) rfl rfl rfl rfl rfl (by decide) rfl rfl ?_
  intro Φ hs hr
  walk_at "fx*"
  refine (t_max (by omega)).post ?_
  rintro x l' ⟨rfl, rfl⟩
  walk_at "fx*"
  refine (t_max (by omega)).post ?_
  rintro x l' ⟨rfl, rfl⟩
  walk_at "fx*"
  exact ⟨by congr 1; rw [Bool.eq_iff_iff]; simp; omega, rfl⟩
theorem t_isMin {w : World} {n el ch cr : Addr} {lf : Bool} {xs : List V} {k : Nat} {l : Led} (hn : (n, nodeO cr lf el ch) ∈ l) (he : (el, O.list xs) ∈ l) (hz : 2 ≤ xs.length) (hz' : xs.length ≤ 100) (hk : 2 ≤ k) :
    Spec (cx w) (.ref 98) [.ref n] k l (fun x l' => x = .bool (decide (xs.length = 2)) ∧ l' = l) := by
  refine Spec.fn' (by omega) [("self", .ref n)] [] (ho := (rfl : (cx w).K.lookup 98 = some ⟨_, _, .func (fnX _ _ _ _ _ [] .none _ _ _ _ _ _), _⟩)) (by kernel_rfl) rfl rfl rfl rfl rfl (by decide) rfl rfl ?_
  intro Φ hs hr
  walk_at "fx*"
  refine (t_min (by omega)).post ?_
  rintro x l' ⟨rfl, rfl⟩
  walk_at "fx*"
  refine (t_min (by omega)).post ?_
  rintro x l' ⟨rfl, rfl⟩
  walk_at "fx*"
  exact ⟨by congr 1; rw [Bool.eq_iff_iff]; simp; omega, rfl⟩
theorem t_cow {w : World} {n el ch cr : Addr} {lf : Bool} {k : Nat} {l : Led} (hn : (n, nodeO cr lf el ch) ∈ l) (hk : 1 ≤ k) :
    Spec (cx w) (.ref 224) [.ref n, .ref cr] k l (fun x l' => x = .none ∧ l' = l) := by
  refine Spec.fn' (by omega) [("self", .ref n), ("creator", .ref cr)] [] (ho := (rfl : (cx w).K.lookup 224 = some ⟨_, _, .func (fnX _ _ _ _ _ [] .none _ _ _ _ _ _), _⟩)) (by kernel_rfl) rfl rfl rfl rfl rfl (by decide) rfl rfl ?_
  intro Φ hs hr
  refine WSs.ite ?_
  walk_at "fx*"
  exact ⟨rfl, rfl⟩


section
variable {w : World} {Φ : Fx} {env : Env} {ρ : Loc} {l : Led} {Q : V → Led → Prop}
theorem WE.minC {np p : Pos} {e : PySem.Expr} (hr : 1 ≤ Φ.rm) (hk : Φ.scope.names.lookup ("_MIN" : Str) = some .globalImplicit) (h : WE (cx w) Φ Φ.env ρ l e (fun y l' => y = .int 3 ∧ Q (.int 2) l'))
    (he : starEach [e] Φ.env = (false, eval e Φ.env) :: starEach [] Φ.env := by rfl) (hp : (starEach [e] Φ.env).any (·.1) = false := by rfl) : WE (cx w) Φ Φ.env ρ l (.Call (.Name "_MIN" np) [e] [] p) Q := by
  refine WE.callName (g_MIN _) hk (k_MIN _) (WEs.cons (h.mono ?_) he) hp
  rintro y l' ⟨rfl, q⟩
  refine WEs.nil ((t_min hr).post ?_)
  rintro x l'' ⟨rfl, rfl⟩
  exact q
theorem WE.maxC {np p : Pos} {e : PySem.Expr} (hr : 1 ≤ Φ.rm) (hk : Φ.scope.names.lookup ("_MAX" : Str) = some .globalImplicit) (h : WE (cx w) Φ Φ.env ρ l e (fun y l' => y = .int 3 ∧ Q (.int 5) l'))
    (he : starEach [e] Φ.env = (false, eval e Φ.env) :: starEach [] Φ.env := by rfl) (hp : (starEach [e] Φ.env).any (·.1) = false := by rfl) : WE (cx w) Φ Φ.env ρ l (.Call (.Name "_MAX" np) [e] [] p) Q := by
  refine WE.callName (g_MAX _) hk (k_MAX _) (WEs.cons (h.mono ?_) he) hp
  rintro y l' ⟨rfl, q⟩
  refine WEs.nil ((t_max hr).post ?_)
  rintro x l'' ⟨rfl, rfl⟩
  exact q
theorem WE.isMax {o : PySem.Expr} {apos pos : Pos} {pl : Sem Bool} (hr : 2 ≤ Φ.rm)
    (h : WE (cx w) Φ env ρ l o (fun y l' => ∃ n cr lf el ch xs, y = .ref n ∧ (n, nodeO cr lf el ch) ∈ l' ∧ (el, O.list xs) ∈ l' ∧ xs.length ≤ 5 ∧ Q (.bool (decide (xs.length = 5))) l'))
    (he : eval (.Call (.Attribute o "is_maximal" apos) [] [] pos) env = (do
      let ov ← eval o env
      standAt apos.atName
      let (f, first) ← holding [ov] (getMethod ov "is_maximal" pl)
      callWith pos f first (backTo pos (starEach [] env)) []) := by rfl) : WE (cx w) Φ env ρ l (.Call (.Attribute o "is_maximal" apos) [] [] pos) Q := by
  refine WE.meth (h.mono ?_) rfl he
  rintro y l' ⟨n, cr, lf, el, ch, xs, rfl, hn, hel, hz, q⟩
  refine x_meth hn (mn_is_maximal _) mi_n_is_maximal (.nil ((t_isMax hn hel hz hr).post ?_))
  rintro x l'' ⟨rfl, rfl⟩
  exact q
theorem WE.isMin {o : PySem.Expr} {apos pos : Pos} {pl : Sem Bool} (hr : 2 ≤ Φ.rm)
    (h : WE (cx w) Φ env ρ l o (fun y l' => ∃ n cr lf el ch xs, y = .ref n ∧ (n, nodeO cr lf el ch) ∈ l' ∧ (el, O.list xs) ∈ l' ∧ 2 ≤ xs.length ∧ xs.length ≤ 100 ∧ Q (.bool (decide (xs.length = 2))) l'))
    (he : eval (.Call (.Attribute o "is_minimal" apos) [] [] pos) env = (do
      let ov ← eval o env
      standAt apos.atName
      let (f, first) ← holding [ov] (getMethod ov "is_minimal" pl)
      callWith pos f first (backTo pos (starEach [] env)) []) := by rfl) : WE (cx w) Φ env ρ l (.Call (.Attribute o "is_minimal" apos) [] [] pos) Q := by
  refine WE.meth (h.mono ?_) rfl he
  rintro y l' ⟨n, cr, lf, el, ch, xs, rfl, hn, hel, hz, hz', q⟩
  refine x_meth hn (mn_is_minimal _) mi_n_is_minimal (.nil ((t_isMin hn hel hz hz' hr).post ?_))
  rintro x l'' ⟨rfl, rfl⟩
  exact q
theorem x_isMax {n cr : Addr} {lf : Bool} {el ch : Addr} {xs : List V} {P : List V → Prop} (hn : (n, nodeO cr lf el ch) ∈ l) (he : (el, O.list xs) ∈ l) (hz : xs.length ≤ 5) (q : P xs) :
    ∃ n' cr' lf' el' ch' xs', V.ref n = .ref n' ∧ (n', nodeO cr' lf' el' ch') ∈ l ∧ (el', O.list xs') ∈ l ∧ xs'.length ≤ 5 ∧ P xs' := ⟨_, _, _, _, _, _, rfl, hn, he, hz, q⟩
theorem x_isMin {n cr : Addr} {lf : Bool} {el ch : Addr} {xs : List V} {P : List V → Prop} (hn : (n, nodeO cr lf el ch) ∈ l) (he : (el, O.list xs) ∈ l) (hz : 2 ≤ xs.length) (hz' : xs.length ≤ 100) (q : P xs) :
    ∃ n' cr' lf' el' ch' xs', V.ref n = .ref n' ∧ (n', nodeO cr' lf' el' ch') ∈ l ∧ (el', O.list xs') ∈ l ∧ 2 ≤ xs'.length ∧ xs'.length ≤ 100 ∧ P xs' := ⟨_, _, _, _, _, _, rfl, hn, he, hz, hz', q⟩
theorem x_star {a C f : Addr} {fs} {name : Str} {P : Addr → Addr → Prop} (hm : (a, O.inst C fs) ∈ l) (ho : starOk (cx w).K C name f = true) (hx : getF name fs = none) (q : P a f) :
    ∃ a' C' fs' f', V.ref a = .ref a' ∧ (a', O.inst C' fs') ∈ l ∧ starOk (cx w).K C' name f' = true ∧ getF name fs' = none ∧ P a' f' := ⟨_, _, _, _, rfl, hm, ho, hx, q⟩
theorem x_tup2 {a b : V} {P : V → V → Prop} (q : P a b) : ∃ a' b', V.tup [a, b] = .tup [a', b'] ∧ P a' b' := ⟨_, _, rfl, q⟩
theorem x_and {P R : Prop} (h : P) (q : R) : P ∧ R := ⟨h, q⟩
theorem x_slice {a : Addr} {xs : List V} {y z : V} {lo hi : Option Int} {P : List V → Option Int → Option Int → Prop} (hm : (a, O.list xs) ∈ l) (hz : xs.length ≤ 1000000) (p1 : partV y lo) (p2 : partV z hi) (q : P xs lo hi) :
    ∃ a' xs' lo' hi', V.ref a = .ref a' ∧ (a', O.list xs') ∈ l ∧ xs'.length ≤ 1000000 ∧ partV y lo' ∧ partV z hi' ∧ P xs' lo' hi' := ⟨_, _, _, _, rfl, hm, hz, p1, p2, q⟩
theorem x_pop {a : Addr} {xs : List V} {y : V} {l' : Led} {P : V → Led → Prop} (U : LUpd a (.list (xs ++ [y])) (.list xs) l l') (hz : xs.length ≤ 1000000) (q : P y l') :
    ∃ a' xs' y' l₂, V.ref a = .ref a' ∧ LUpd a' (.list (xs' ++ [y'])) (.list xs') l l₂ ∧ xs'.length ≤ 1000000 ∧ P y' l₂ := ⟨_, _, _, _, rfl, U, hz, q⟩
theorem x_append1 {a : Addr} {xs : List V} {P : Addr → Prop} (hm : (a, O.list xs) ∈ l) (q : P a) : ∃ a' xs', V.ref a = .ref a' ∧ (a', O.list xs') ∈ l ∧ P a' := ⟨_, _, rfl, hm, q⟩
theorem x_append2 {a : Addr} {xs : List V} {y : V} {l' : Led} {P : Led → Prop} (U : LUpd a (.list xs) (.list (xs ++ [y])) l l') (hz : xs.length ≤ 1000000) (q : P l') :
    ∃ y' xs' l₃, [y] = [y'] ∧ LUpd a (.list xs') (.list (xs' ++ [y'])) l l₃ ∧ xs'.length ≤ 1000000 ∧ P l₃ := ⟨_, _, _, rfl, U, hz, q⟩
theorem x_insert {a : Addr} {xs ys : List V} {y : V} {i : Int} {l' : Led} {P : Led → Prop} (h0 : 0 ≤ i) (h1 : i ≤ xs.length) (hy : xs.take i.toNat ++ y :: xs.drop i.toNat = ys) (U : LUpd a (.list xs) (.list ys) l l') (hz : xs.length ≤ 1000000) (q : P l') :
    ∃ i' y' xs' l₃, [.int i, y] = [.int i', y'] ∧ 0 ≤ i' ∧ i' ≤ xs'.length ∧ LUpd a (.list xs') (.list (xs'.take i'.toNat ++ y' :: xs'.drop i'.toNat)) l l₃ ∧ xs'.length ≤ 1000000 ∧ P l₃ := by subst hy; exact ⟨_, _, _, _, rfl, h0, h1, U, hz, q⟩
theorem x_popAt {a : Addr} {xs zs : List V} {y : V} {i : Int} {l' : Led} {P : V → Led → Prop} (hi : i = (xs.length : Int)) (U : LUpd a (.list (xs ++ y :: zs)) (.list (xs ++ zs)) l l') (hz : (xs ++ y :: zs).length ≤ 1000000) (q : P y l') :
    ∃ i' xs' y' zs' l₃, [.int i] = [V.int i'] ∧ i' = (xs'.length : Int) ∧ LUpd a (.list (xs' ++ y' :: zs')) (.list (xs' ++ zs')) l l₃ ∧ (xs' ++ y' :: zs').length ≤ 1000000 ∧ P y' l₃ := ⟨_, _, _, _, _, rfl, hi, U, hz, q⟩
theorem x_extend {a b : Addr} {xs zs : List V} {l' : Led} {P : Led → Prop} (hne : b ≠ a) (hb : (b, O.list zs) ∈ l) (h0 : zs ≠ []) (U : LUpd a (.list xs) (.list (xs ++ zs)) l l') (hz : xs.length + zs.length ≤ 1000000) (q : P l') :
    ∃ b' xs' zs' l₃, [V.ref b] = [.ref b'] ∧ b' ≠ a ∧ (b', O.list zs') ∈ l ∧ zs' ≠ [] ∧ LUpd a (.list xs') (.list (xs' ++ zs')) l l₃ ∧ xs'.length + zs'.length ≤ 1000000 ∧ P l₃ := ⟨_, _, _, _, rfl, hne, hb, h0, U, hz, q⟩
theorem x_setItem {a : Addr} {xs ys : List V} {i : Int} {x : V} {l' : Led} {P : Led → Prop} (h0 : 0 ≤ i) (h1 : i < xs.length) (hz : xs.length ≤ 1000000) (hy : xs.set i.toNat x = ys) (U : LUpd a (.list xs) (.list ys) l l') (q : P l') :
    ∃ a' xs' k' l₄, V.ref a = .ref a' ∧ V.int i = .int k' ∧ 0 ≤ k' ∧ k' < xs'.length ∧ xs'.length ≤ 1000000 ∧ LUpd a' (.list xs') (.list (xs'.set k'.toNat x)) l l₄ ∧ P l₄ := by subst hy; exact ⟨_, _, _, _, rfl, rfl, h0, h1, hz, U, q⟩
theorem x_eqSelf {a C : Addr} {fs} {P : Prop} (hm : (a, O.inst C fs) ∈ l) (hk : ClsK (cx w).K C) (q : P) : ∃ a' C' fs', V.ref a = .ref a' ∧ V.ref a = .ref a' ∧ (a', O.inst C' fs') ∈ l ∧ ClsK (cx w).K C' ∧ P := ⟨_, _, _, rfl, rfl, hm, hk, q⟩
theorem pick_lo (xs : List V) (k : Nat) : pickV xs (some (k : Int)) none = xs.drop k := by
  unfold pickV kms_lo kms_hi
  dsimp only
  rw [if_neg (by omega), Int.toNat_natCast]
  by_cases h : k ≤ xs.length
  · rw [Nat.min_eq_left h, List.take_of_length_le (by simp)]
  · rw [Nat.min_eq_right (by omega), List.drop_of_length_le (by omega), List.drop_of_length_le (by omega)]; simp
theorem pick_hi (xs : List V) (k : Nat) : pickV xs none (some (k : Int)) = xs.take k := by
  unfold pickV kms_lo kms_hi
  dsimp only
  rw [if_neg (by omega), Int.toNat_natCast, List.drop_zero, Nat.sub_zero]
  by_cases h : k ≤ xs.length
  · rw [Nat.min_eq_left h]
  · rw [Nat.min_eq_right (by omega), List.take_of_length_le (by omega), List.take_of_length_le (by omega)]
end
local macro_rules | `(tactic| walk_at "fx e") => `(tactic| first
  | ((with_reducible show WE _ _ _ _ _ (PySem.Expr.Call (PySem.Expr.Name (Str.ofString "_MIN") _) [_] [] _) _); (refine' WE.minC ?k1 ?k2 ?_; (case k1 => omega); (case k2 => walk_at "fx glob")))
  | ((with_reducible show WE _ _ _ _ _ (PySem.Expr.Call (PySem.Expr.Name (Str.ofString "_MAX") _) [_] [] _) _); (refine' WE.maxC ?k1 ?k2 ?_; (case k1 => omega); (case k2 => walk_at "fx glob")))
  | ((with_reducible show WE _ _ _ _ _ (PySem.Expr.Call (PySem.Expr.Name (Str.ofString "list") _) [_] [] _) _); (refine' WE.listOf ?k1 ?k2 ?_; (case k1 => exact b_list _); (case k2 => walk_at "fx glob")))
  | ((with_reducible show WE _ _ _ _ _ (PySem.Expr.Call (PySem.Expr.Attribute _ (Str.ofString "is_maximal") _) [] [] _) _); (refine' WE.isMax ?k1 ?_; (case k1 => omega)))
  | ((with_reducible show WE _ _ _ _ _ (PySem.Expr.Call (PySem.Expr.Attribute _ (Str.ofString "is_minimal") _) [] [] _) _); (refine' WE.isMin ?k1 ?_; (case k1 => omega)))
  | ((with_reducible show WE _ _ _ _ _ (PySem.Expr.Call (PySem.Expr.Attribute _ (Str.ofString "append") _) [_] [] _) _); refine WE.append ?_)
  | ((with_reducible show WE _ _ _ _ _ (PySem.Expr.Call (PySem.Expr.Attribute _ (Str.ofString "insert") _) [_, _] [] _) _); refine WE.insert ?_)
  | ((with_reducible show WE _ _ _ _ _ (PySem.Expr.Call (PySem.Expr.Attribute _ (Str.ofString "pop") _) [] [] _) _); refine WE.pop ?_)
  | ((with_reducible show WE _ _ _ _ _ (PySem.Expr.Call (PySem.Expr.Attribute _ (Str.ofString "pop") _) [_] [] _) _); refine WE.popAt ?_)
  | ((with_reducible show WE _ _ _ _ _ (PySem.Expr.Call (PySem.Expr.Attribute _ (Str.ofString "extend") _) [_] [] _) _); refine WE.extend ?_)
  | ((with_reducible show WE _ _ _ _ _ (PySem.Expr.Call (PySem.Expr.Attribute _ _ _) [PySem.Expr.Starred _ _] [] _) _); (refine' WE.methStar ?k1 ?_; (case k1 => decide +kernel)))
  | ((with_reducible show WE _ _ _ _ _ (PySem.Expr.Subscript _ (PySem.Expr.Slice _ _ _ _) _) _); refine WE.slice ?_))
local macro_rules | `(tactic| walk_at "fx s") => `(tactic| first
  | ((with_reducible show WSs _ _ _ _ (Stmt.Assign [PySem.Expr.Tuple [_, _] _ _] _ _ :: _) _); refine WSs_assign2 ?_))
local macro_rules | `(tactic| walk_at "fx b") => `(tactic| ((with_reducible show WB _ _ _ _ _ (PySem.Expr.Compare (PySem.Expr.Subscript _ _ _) [CmpOp.Eq] [PySem.Expr.Name (Str.ofString "left") _] _) _); refine WB.eqSelf ?_))
local macro_rules | `(tactic| walk_at "fx x") => `(tactic| first
  | refine x_tup2 ?_
  | (refine' x_star ?k1 ?k2 ?k3 ?_; (case k1 => walk_at "fx mem"); (case k2 => exact star_adopt _); (case k3 => exact mi_n_adopt))
  | (refine' x_isMax ?k1 ?k2 ?k3 ?_; (case k1 => walk_at "fx mem"); (case k2 => walk_at "fx mem"); (case k3 => walk_at "fx arith"))
  | (refine' x_isMin ?k1 ?k2 ?k3 ?k4 ?_; (case k1 => walk_at "fx mem"); (case k2 => walk_at "fx mem"); (case k3 => walk_at "fx arith"); (case k4 => walk_at "fx arith"))
  | (refine' x_slice ?k1 ?k2 ?k3 ?k4 ?_; (case k1 => walk_at "fx mem"); (case k2 => walk_at "fx arith"); (case k3 => rfl); (case k4 => rfl))
  | (refine' x_append1 ?k1 ?_; (case k1 => walk_at "fx mem"))
  | (refine' x_append2 ?k1 ?k2 ?_; (case k1 => walk_at "fx upd"); (case k2 => walk_at "fx arith"))
  | (refine' x_pop ?k1 ?k2 ?_; (case k1 => walk_at "fx upd"); (case k2 => walk_at "fx arith"))
  | (refine' x_eqSelf ?k1 ?k2 ?_; (case k1 => walk_at "fx mem"); (case k2 => exact clsK_Node _))
  | ((with_reducible show V.int _ = V.int _ ∧ _); refine x_and rfl ?_))
local macro_rules | `(tactic| walk_at "fx") => `(tactic| first
  | ((with_reducible show WO _ _ _ _ _ (some _) _); show WE _ _ _ _ _ _ _)
  | ((with_reducible show WO _ _ _ _ _ Option.none _); unfold WO; dsimp only)
  | ((with_reducible show WA _ _ _ _ (PySem.Expr.Name _ _) _ _); refine WA.name ?_)
  | ((with_reducible show WA _ _ _ _ (PySem.Expr.Attribute _ _ _) _ _); refine WA.attr ?_))


/-! ## FXB -/
theorem t_cowChild {w : World} {n el ch cr c cel cch : Addr} {lf : Bool} {i : Nat} {rs : List V} {k : Nat} {l : Led} (hn : (n, nodeO cr false el ch) ∈ l) (hc : (ch, O.list rs) ∈ l) (hx : rs[((i : Int)).toNat]? = some (.ref c)) (hm : (c, nodeO cr lf cel cch) ∈ l) (hi : i ≤ 1000) (hk : 2 ≤ k) :
    Spec (cx w) (.ref 112) [.ref n, .int i] k l (fun x l' => x = .ref c ∧ l' = l) := by
  refine Spec.fn' (by omega) [("self", .ref n), ("index", .int i), ("child", .unb), ("cloned", .unb)] ["child", "cloned"] (ho := (rfl : (cx w).K.lookup 112 = some ⟨_, _, .func (fnX _ _ _ _ _ [] .none _ _ _ _ _ _), _⟩)) (by kernel_rfl) rfl rfl rfl rfl rfl (by decide) rfl rfl ?_
  intro Φ hs hr
  walk_at "fx*"
  refine (t_cow hm (by omega)).post ?_
  rintro x l' ⟨rfl, rfl⟩
  walk_at "fx*"
  refine WSs.ite ?_
  walk_at "fx*"
  exact ⟨rfl, rfl⟩
theorem t_split {w : World} {n el ch cr : Addr} {lf : Bool} {a b m c d : Int} {rs : List V} {k : Nat} {l : Led} (hr : rs.length ≤ 1000) (he : lf = true → rs = []) (hk : 4 ≤ k) :
    Spec (cx w) (.ref 147) [.ref n] k ((n, nodeO cr lf el ch) :: (el, .list ([a, b, m, c, d].map .mem)) :: (ch, .list rs) :: l) (fun x l' => ∃ r rel rch el' ch', x = .tup [.ref n, .mem m, .ref r] ∧
      LSub ((n, nodeO cr lf el' ch') :: (el', .list ([a, b].map .mem)) :: (ch', .list (rs.take 3)) :: (r, nodeO cr lf rel rch) :: (rel, .list ([c, d].map .mem)) :: (rch, .list (rs.drop 3)) :: l) l') := by
  refine Spec.fn' (by omega) [("self", .ref n), ("right", .unb), ("middle", .unb)] ["right", "middle"] (ho := (rfl : (cx w).K.lookup 147 = some ⟨_, _, .func (fnX _ _ _ _ _ [] .none _ _ _ _ _ _), _⟩)) (by kernel_rfl) rfl rfl rfl rfl rfl (by decide) rfl rfl ?_
  intro Φ hs hrm
  walk_at "fx*"
  refine (t_nodeInit (by omega)).post ?_
  rintro x l' ⟨r, rel, rch, rfl, rfl⟩
  walk_at "fx*"
  intro s1
  rw [show pickV ([a, b, m, c, d].map V.mem) (some (2 + 1)) none = [c, d].map V.mem from pick_lo _ 3]
  walk_at "fx*"
  intro s2
  have hx : (List.map V.mem [a, b, m, c, d])[(2 : Int).toNat]? = some (.mem m) := rfl
  walk_at "fx*"
  intro s3
  rw [show pickV ([a, b, m, c, d].map V.mem) none (some 2) = [a, b].map V.mem from pick_hi _ 2]
  walk_at "fx*"
  intro s4
  walk_at "fx*"
  refine WSs.ite ?_
  walk_at "fx*"
  cases lf with
  | true =>
    walk_at "fx*"
    refine ⟨r, s2, rch, s4, ch, rfl, ?_⟩
    obtain rfl := he rfl
    rw [List.take_nil, List.drop_nil]
    walk_at "fx sub"
  | false =>
    walk_at "fx*"
    intro s5
    rw [show pickV rs (some (2 + 1)) none = rs.drop 3 from pick_lo _ 3]
    walk_at "fx*"
    intro s6
    walk_at "fx*"
    intro s7
    rw [show pickV rs none (some (2 + 1)) = rs.take 3 from pick_hi _ 3]
    walk_at "fx*"
    intro s8
    walk_at "fx*"
    refine ⟨r, s2, s6, s4, s8, rfl, ?_⟩
    walk_at "fx sub"

theorem t_adopt {w : World} {n el ch cr ln rn lel lch : Addr} {lf : Bool} {A B : List Int} {m : Int} {RA RB : List V} {k : Nat} {l : Led} (hs : Srt (A ++ B)) (hA : ∀ a ∈ A, a < m) (hB : ∀ a ∈ B, m < a) (hz : A.length + B.length ≤ 4)
    (hl : RA.length = A.length) (hr : RB.length = B.length) (hln : (ln, nodeO cr lf lel lch) ∈ l) (hk : 4 ≤ k) :
    Spec (cx w) (.ref 168) [.ref n, .ref ln, .mem m, .ref rn] k ((n, nodeO cr false el ch) :: (el, .list ((A ++ B).map .mem)) :: (ch, .list (RA ++ .ref ln :: RB)) :: l) (fun x l' => x = .none ∧
      LSub ((n, nodeO cr false el ch) :: (el, .list ((A ++ m :: B).map .mem)) :: (ch, .list (RA ++ .ref ln :: .ref rn :: RB)) :: l) l') := by
  refine Spec.fn' (by omega) [("self", .ref n), ("left", .ref ln), ("middle", .mem m), ("right", .ref rn), ("key", .unb), ("i", .unb), ("equal", .unb)] ["key", "i", "equal"] (ho := (rfl : (cx w).K.lookup 168 = some ⟨_, _, .func (fnX _ _ _ _ _ [] .none _ _ _ _ _ _), _⟩)) (by kernel_rfl) rfl rfl rfl rfl rfl (by decide) rfl rfl ?_
  intro Φ hsc hrm
  walk_at "fx*"
  refine (t_searchNo (k := Φ.rm) led_here (led_there led_here) hs (by simp; omega) hA hB (by omega)).post ?_
  rintro x l' ⟨rfl, rfl⟩
  walk_at "fx*"
  refine x_insert (i := (A.length : Int)) (xs := (A ++ B).map .mem) (ys := (A ++ m :: B).map .mem) (by omega) (by simp; omega) (by simp) (by walk_at "fx upd") (by simp; omega) ?_
  walk_at "fx*"
  refine WSs.ite ?_
  walk_at "fx*"
  refine ite_or (fun h => ?_) (fun h => ?_)
  · simp at h; omega
  have hx : (RA ++ V.ref ln :: RB)[((A.length : Int)).toNat]? = some (.ref ln) := by simp [← hl]
  walk_at "fx*"
  refine x_insert (i := (A.length : Int) + 1) (xs := RA ++ .ref ln :: RB) (ys := RA ++ .ref ln :: .ref rn :: RB) (by omega) (by simp; omega) (by rw [show ((A.length : Int) + 1).toNat = RA.length + 1 by omega]; simp [List.take_append, List.drop_append, List.take_of_length_le, List.drop_of_length_le]) (by walk_at "fx upd") (by simp; omega) ?_
  walk_at "fx*"
  exact ⟨rfl, .refl _⟩
theorem t_adopt0 {w : World} {n el ch cr ln rn : Addr} {m : Int} {k : Nat} {l : Led} (hk : 4 ≤ k) :
    Spec (cx w) (.ref 168) [.ref n, .ref ln, .mem m, .ref rn] k ((n, nodeO cr false el ch) :: (el, .list []) :: (ch, .list []) :: l) (fun x l' => ∃ ch', x = .none ∧
      LSub ((n, nodeO cr false el ch') :: (el, .list ([m].map .mem)) :: (ch', .list [.ref ln, .ref rn]) :: l) l') := by
  refine Spec.fn' (by omega) [("self", .ref n), ("left", .ref ln), ("middle", .mem m), ("right", .ref rn), ("key", .unb), ("i", .unb), ("equal", .unb)] ["key", "i", "equal"] (ho := (rfl : (cx w).K.lookup 168 = some ⟨_, _, .func (fnX _ _ _ _ _ [] .none _ _ _ _ _ _), _⟩)) (by kernel_rfl) rfl rfl rfl rfl rfl (by decide) rfl rfl ?_
  intro Φ hsc hrm
  walk_at "fx*"
  refine (t_searchNo (A := []) (B := []) led_here (led_there led_here) .nil (by simp) (by simp) (by simp) (by omega)).post ?_
  rintro x l' ⟨rfl, rfl⟩
  walk_at "fx*"
  refine x_insert (i := 0) (xs := []) (ys := [m].map .mem) (by decide) (by decide) rfl (by walk_at "fx upd") (by decide) ?_
  walk_at "fx*"
  refine WSs.ite ?_
  walk_at "fx*"
  rw [if_pos (by rfl)]
  walk_at "fx*"
  intro ch'
  walk_at "fx*"
  exact ⟨ch', rfl, by walk_at "fx sub"⟩
/-! ## FXC -/
theorem WB.sub {c : Cx} {Φ : Fx} {env : Env} {ρ : Loc} {l l' : Led} {e : PySem.Expr} {Q : Bool → Led → Prop} (h : WB c Φ env ρ l' e Q) (hl : LSub l' l) : WB c Φ env ρ l e Q :=
  ⟨fun ok I s F => h.run ok I s (F.sub hl)⟩
theorem objs_elts (cr) (t : T) : (t.el, O.list (t.es.map .mem)) ∈ objs cr t := by
  cases t; rw [objs_mk]; exact .tail _ (.head _)
theorem objs_ch (cr) (t : T) : (t.ch, O.list (t.cs.map fun t => V.ref t.n)) ∈ objs cr t := by
  cases t; rw [objs_mk]; exact .tail _ (.tail _ (.head _))
theorem mem_child {cr} {C D : List T} {c : T} {p : Addr × O} {rest : Led} (h : p ∈ objs cr c) : p ∈ objsL cr (C ++ c :: D) ++ rest := by
  rw [objsL_append, objsL_cons]
  exact List.mem_append_left _ (List.mem_append_right _ (List.mem_append_left _ h))
theorem objs_led (cr n el ch es cs) (rest : Led) : objs cr (.mk n el ch es cs) ++ rest = (n, nodeO cr cs.isEmpty el ch) :: (el, .list (es.map .mem)) :: (ch, .list (cs.map fun t => V.ref t.n)) :: (objsL cr cs ++ rest) := by
  rw [objs_mk]; rfl
theorem getAt {α : Type} (A B : List α) (x : α) : (A ++ x :: B)[((A.length : Int)).toNat]? = some x := by simp
theorem getAt' {α : Type} {A B : List α} {x : α} {n : Nat} (h : A.length = n) : (A ++ x :: B)[((n : Int)).toNat]? = some x := by subst h; simp
theorem map_mid {α β : Type} (f : α → β) (A B : List α) (x : α) : (A ++ x :: B).map f = A.map f ++ f x :: B.map f := by simp
theorem ins_self {k : Int} {l : List Int} (hs : Srt l) (h : k ∈ l) : ins k l = l := by
  obtain ⟨L, R, rfl⟩ := List.append_of_mem h
  exact ins_has hs
theorem wf_split {h : Nat} {a el ch cn cel cch el' ch' r rel rch : Addr} {A B : List Int} {C D : List T} {x1 x2 x3 x4 x5 : Int} {ccs : List T} (w : Wf (h + 1) (.mk a el ch (A ++ B) (C ++ T.mk cn cel cch [x1, x2, x3, x4, x5] ccs :: D))) (wc : Wf h (T.mk cn cel cch [x1, x2, x3, x4, x5] ccs)) :
    Wf (h + 1) (.mk a el ch (A ++ x3 :: B) (C ++ T.mk cn el' ch' [x1, x2] (ccs.take 3) :: T.mk r rel rch [x4, x5] (ccs.drop 3) :: D)) := by
  have key : Wf h (T.mk cn el' ch' [x1, x2] (ccs.take 3)) ∧ Wf h (T.mk r rel rch [x4, x5] (ccs.drop 3)) := by
    cases h with
    | zero =>
      have : ccs = [] := wc
      subst this
      exact ⟨rfl, rfl⟩
    | succ h =>
      have h1 := wc.1
      simp only [T_cs, T_es, List.length_cons, List.length_nil] at h1
      exact ⟨⟨by simp [T_cs, T_es]; omega, fun c hc => wc.2 c (List.mem_of_mem_take hc)⟩, ⟨by simp [T_cs, T_es]; omega, fun c hc => wc.2 c (List.mem_of_mem_drop hc)⟩⟩
  refine ⟨?_, fun c hc => ?_⟩
  · have := w.1
    simp only [T_cs, T_es, List.length_append, List.length_cons] at this ⊢
    omega
  · simp only [T_cs, List.mem_append, List.mem_cons] at hc
    rcases hc with hc | rfl | rfl | hc
    · exact w.2 c (List.mem_append_left _ hc)
    · exact ⟨key.1, Nat.le_refl _, Nat.le_of_ble_eq_true rfl⟩
    · exact ⟨key.2, Nat.le_refl _, Nat.le_of_ble_eq_true rfl⟩
    · exact w.2 c (List.mem_append_right _ (.tail _ hc))
theorem keys_split {h : Nat} {cn cel cch n' el' ch' n'' el'' ch'' : Addr} {x1 x2 x3 x4 x5 : Int} {ccs : List T} (wc : Wf h (T.mk cn cel cch [x1, x2, x3, x4, x5] ccs)) :
    keys (T.mk cn cel cch [x1, x2, x3, x4, x5] ccs) = keys (T.mk n' el' ch' [x1, x2] (ccs.take 3)) ++ x3 :: keys (T.mk n'' el'' ch'' [x4, x5] (ccs.drop 3)) := by
  cases h with
  | zero =>
    have : ccs = [] := wc
    subst this
    simp [keys_leaf]
  | succ h =>
    have h1 := wc.1
    simp only [T_cs, T_es, List.length_cons, List.length_nil] at h1
    have := keys_two (n := cn) (el := cel) (ch := cch) (n' := n') (el' := el') (ch' := ch') (n'' := n'') (el'' := el'') (ch'' := ch'') (A := [x1, x2]) (B := [x4, x5]) (e := x3) (C := ccs.take 3) (D := ccs.drop 3) (by simp; omega) (by simp; omega)
    rw [List.take_append_drop] at this
    exact this
theorem wf_child {h : Nat} {a el ch : Addr} {es : List Int} {C D : List T} {c c' : T} (w : Wf (h + 1) (.mk a el ch es (C ++ c :: D))) (wc : Wf h c') (h2 : 2 ≤ c'.es.length) (h5 : c'.es.length ≤ 5) : Wf (h + 1) (.mk a el ch es (C ++ c' :: D)) := by
  refine ⟨?_, fun x hx => ?_⟩
  · have := w.1
    simp only [T_cs, T_es, List.length_append, List.length_cons] at this ⊢
    omega
  · simp only [T_cs, List.mem_append, List.mem_cons] at hx
    rcases hx with hx | rfl | hx
    · exact w.2 x (List.mem_append_left _ hx)
    · exact ⟨wc, h2, h5⟩
    · exact w.2 x (List.mem_append_right _ (.tail _ hx))
theorem five {es : List Int} (h : es.length = 5) : ∃ a b c d e, es = [a, b, c, d, e] := by
  match es, h with
  | [a, b, c, d, e], _ => exact ⟨a, b, c, d, e, rfl⟩
theorem t_insert {w : World} {cr : Addr} (h : Nat) : ∀ {t : T} {k : Int} {n : Nat} {rest : Led}, Wf h t → Srt (keys t) → t.es.length ≤ 4 → 3 * h + 8 ≤ n →
    Spec (cx w) (.ref 140) [.ref t.n, .mem k, .bool false] n (objs cr t ++ rest) (fun x l' => ∃ t', x = (if k ∈ keys t then .mem k else .none) ∧ LSub (objs cr t' ++ rest) l' ∧ t'.n = t.n ∧ Wf h t' ∧ keys t' = ins k (keys t) ∧ t.es.length ≤ t'.es.length ∧ t'.es.length ≤ t.es.length + 1) := by
  induction h using Nat.strongRecOn with
  | _ h ih =>
  intro t k n rest wf srt hz hn
  obtain ⟨a, el, ch, es, cs⟩ := t
  simp only [T_n]
  generalize hks : keys (.mk a el ch es cs) = ks at srt ⊢
  simp only [T_es] at hz ⊢
  generalize hN : es.length = N at hz ⊢
  rw [objs_led]
  refine Spec.fn' (by omega) [("self", .ref a), ("element", .mem k), ("in_order", .bool false), ("key", .unb), ("i", .unb), ("equal", .unb), ("old", .unb), ("child", .unb), ("oelt", .unb)] ["key", "i", "equal", "old", "child", "oelt"] (ho := (rfl : (cx w).K.lookup 140 = some ⟨_, _, .func (fnX _ _ _ _ _ [] .none _ _ _ _ _ _), _⟩)) (by kernel_rfl) rfl rfl rfl rfl rfl (by decide) rfl rfl ?_
  intro Φ hsc hrm
  walk_at "fx*"
  refine WSs.while_ (fun m ρ' l' => ∃ el₁ ch₁ es₁ cs₁ v1 v2 v3 v4 v5 v6, ρ' = ([("self", .ref a), ("element", .mem k), ("in_order", .bool false), ("key", v1), ("i", v2), ("equal", v3), ("old", v4), ("child", v5), ("oelt", v6)] : Loc) ∧
    LSub (objs cr (.mk a el₁ ch₁ es₁ cs₁) ++ rest) l' ∧ Wf h (.mk a el₁ ch₁ es₁ cs₁) ∧ keys (.mk a el₁ ch₁ es₁ cs₁) = ks ∧ N ≤ es₁.length ∧ es₁.length ≤ 5 ∧ es₁.length ≤ N + 1 ∧
    (m = 1 ∧ es₁.length = N ∨ m = 0 ∧ 0 < h ∧ ∀ A B C c D, es₁ = A ++ B → cs₁ = C ++ c :: D → A.length = C.length → (∀ x ∈ A, x < k) → (∀ x ∈ B, k < x) → c.es.length ≤ 4)) 1
    ⟨el, ch, es, cs, _, _, _, _, _, _, rfl, by rw [objs_led]; exact .refl _, wf, hks, by omega, by omega, by omega, .inl ⟨rfl, hN⟩⟩ ?_
  clear hks hN wf es cs el ch
  rintro m ρ' l' ⟨el, ch, es, cs, v1, v2, v3, v4, v5, v6, rfl, hl, wf, rfl, hz1, hz2, hz3, hm⟩
  refine WB.sub ?_ hl
  rw [objs_led]
  have hes : Srt es := es_srt wf srt
  walk_at "fx*"
  refine (t_search led_here (led_there led_here) hes (by omega) (by omega)).post ?_
  rintro x l' ⟨rfl, A, B, b, rfl, rfl, hA, hB1, hB2⟩
  walk_at "fx*"
  refine WSs.ite ?_
  walk_at "fx*"
  have hA5 : A.length + B.length ≤ 5 := by rw [List.length_append] at hz2; omega
  cases b with
  | true =>
    obtain ⟨B, rfl⟩ := hB1 rfl
    have hx := getAt (A.map V.mem) (B.map V.mem) (V.mem k)
    rw [List.length_map, ← map_mid] at hx
    walk_at "fx*"
    refine x_setItem (x := V.mem k) (i := (A.length : Int)) (xs := (A ++ k :: B).map .mem) (ys := (A ++ k :: B).map .mem) (by omega) (by simp; omega) (by rw [List.length_map]; omega) (by simp) (by walk_at "fx upd") ?_
    walk_at "fx*"
    have hmem : k ∈ keys (.mk a el ch (A ++ k :: B) cs) := (es_sub wf).subset (by simp [T_es])
    exact ⟨.mk a el ch (A ++ k :: B) cs, (if_pos hmem).symm, by rw [objs_led]; exact .refl _, rfl, wf, (ins_self srt hmem).symm, hz1, hz3⟩
  | false =>
    have hB := hB2 rfl
    walk_at "fx*"
    refine WSs.ite ?_
    walk_at "fx*"
    cases h with
    | zero =>
      obtain rfl : cs = [] := wf
      rw [show ([] : List T).isEmpty = true from rfl]
      walk_at "fx*"
      refine x_insert (y := V.mem k) (i := (A.length : Int)) (xs := (A ++ B).map .mem) (ys := (A ++ k :: B).map .mem) (by omega) (by simp; omega) (by simp) (by walk_at "fx upd") (by rw [List.length_map]; omega) ?_
      walk_at "fx*"
      refine ⟨.mk a el ch (A ++ k :: B) [], ?_, by rw [objs_led]; exact .refl _, rfl, rfl, ?_, ?_, ?_⟩
      · rw [keys_leaf, if_neg]
        intro hm
        rcases List.mem_append.mp hm with hm | hm
        · have := hA _ hm; omega
        · have := hB _ hm; omega
      · rw [keys_leaf, keys_leaf, ins_at hA hB]
      · rw [T_es, List.length_append, List.length_cons]; rw [List.length_append] at hz1; omega
      · rw [T_es, List.length_append, List.length_cons]
        rcases hm with ⟨_, h⟩ | ⟨_, h, _⟩
        · rw [List.length_append] at h; omega
        · exact absurd h (by decide)
    | succ h =>
      obtain ⟨C, c, D, rfl, hAC, hDB⟩ := split_at wf.1 (rfl : (A ++ B) = A ++ B)
      have hlf : (C ++ c :: D).isEmpty = false := wf.lf
      rw [hlf]
      obtain ⟨cn, cel, cch, ces, ccs⟩ := c
      have hx : ((C ++ T.mk cn cel cch ces ccs :: D).map fun t => V.ref t.n)[((A.length : Int)).toNat]? = some (V.ref cn) := by rw [map_mid]; exact getAt' (by rw [List.length_map]; omega)
      have hcn : (cn, nodeO cr ccs.isEmpty cel cch) ∈ objsL cr (C ++ T.mk cn cel cch ces ccs :: D) ++ rest := mem_child (objs_node cr (T.mk cn cel cch ces ccs))
      have hce : (cel, O.list (ces.map .mem)) ∈ objsL cr (C ++ T.mk cn cel cch ces ccs :: D) ++ rest := mem_child (objs_elts cr (T.mk cn cel cch ces ccs))
      obtain ⟨wfc, hc2, hc5⟩ := wf.2 _ (List.mem_append_right _ (.head _))
      simp only [T_es] at hc2 hc5
      walk_at "fx*"
      refine (t_cowChild (k := Φ.rm) (i := A.length) led_here (led_there (led_there led_here)) hx (led_there (led_there (led_there hcn))) (by omega) (by omega)).post ?_
      rintro x l' ⟨rfl, rfl⟩
      walk_at "fx*"
      refine WSs.ite ?_
      walk_at "fx*"
      have hkeys := keys_mk (n := a) (el := el) (ch := ch) (c := T.mk cn cel cch ces ccs) hAC hDB
      rw [hkeys] at srt
      have hlt := fun x hx y hy => (List.pairwise_append.mp (List.pairwise_append.mp srt).1).2.2 x (es_kl hAC x hx) y hy
      have hgt := fun y hy x hx => (List.pairwise_append.mp srt).2.2 y (List.mem_append_right _ hy) x (es_kr hDB.symm x hx)
      have hL : ∀ x ∈ kl A C, x < k := kl_lt hAC (by rw [List.append_assoc] at srt; exact srt) hA
      have hR : ∀ x ∈ kr B D, k < x := kr_gt hDB.symm srt hB
      refine ite_or (fun h5 => ?_) (fun h5 => ?_)
      · simp only [List.length_map, decide_eq_true_eq] at h5
        obtain ⟨x1, x2, x3, x4, x5, rfl⟩ := five h5
        have hm : m = 1 ∧ (A ++ B).length = N := by
          rcases hm with hm | ⟨_, _, hm⟩
          · exact hm
          · have := hm A B C _ D rfl rfl hAC hA hB
            simp [T_es] at this
        walk_at "fx*"
        have hcl : ccs.length ≤ 6 := by
          cases h with
          | zero => rw [show ccs = [] from wfc]; simp
          | succ h => have := wfc.1; simp only [T_cs, T_es, List.length_cons, List.length_nil] at this; omega
        have he1 : (ccs.take 3).isEmpty = ccs.isEmpty ∧ (ccs.drop 3).isEmpty = ccs.isEmpty := by
          cases h with
          | zero => rw [show ccs = [] from wfc]; simp
          | succ h =>
            have := wfc.1
            simp only [T_cs, T_es, List.length_cons, List.length_nil] at this
            match ccs, this with
            | [c1, c2, c3, c4, c5, c6], _ => exact ⟨rfl, rfl⟩
        intro it
        walk_at "fx*"
        refine ((t_split (k := Φ.rm) (lf := ccs.isEmpty) (cr := cr) (el := cel) (ch := cch) (a := x1) (b := x2) (m := x3) (c := x4) (d := x5) (l := it :: (a, nodeO cr false el ch) :: (el, .list ((A ++ B).map .mem)) :: (ch, .list ((C ++ T.mk cn cel cch [x1, x2, x3, x4, x5] ccs :: D).map fun t => V.ref t.n)) :: (objsL cr C ++ objsL cr ccs ++ objsL cr D ++ rest)) (rs := ccs.map fun t => V.ref t.n) ?_ ?_ (by omega)).sub ?_).post ?_
        · rw [List.length_map]; omega
        · intro e
          rw [List.isEmpty_iff.mp e]; rfl
        · walk_at "fx sub"
        rintro x l' ⟨r, rel, rch, el', ch', rfl, hl2⟩
        refine ⟨_, (cn, nodeO cr ccs.isEmpty el' ch') :: (el', .list ([x1, x2].map .mem)) :: (ch', .list ((ccs.map fun t => V.ref t.n).take 3)) :: (r, nodeO cr ccs.isEmpty rel rch) :: (rel, .list ([x4, x5].map .mem)) :: (rch, .list ((ccs.map fun t => V.ref t.n).drop 3)) :: (a, nodeO cr false el ch) :: (el, .list ((A ++ B).map .mem)) :: (ch, .list ((C ++ T.mk cn cel cch [x1, x2, x3, x4, x5] ccs :: D).map fun t => V.ref t.n)) :: (objsL cr C ++ objsL cr ccs ++ objsL cr D ++ rest), rfl, Nat.le_of_ble_eq_true rfl, LSub.trans (by walk_at "fx sub") hl2, ?_⟩
        have hx3 : x3 ∈ keys (T.mk cn cel cch [x1, x2, x3, x4, x5] ccs) := (es_sub wfc).subset (by simp [T_es])
        have hA3 : ∀ x ∈ A, x < x3 := fun x hx => hlt x hx _ hx3
        have hB3 : ∀ x ∈ B, x3 < x := fun x hx => hgt _ hx3 x hx
        rw [map_mid]
        refine ((t_adopt (el := el) (ch := ch) (lf := ccs.isEmpty) (lel := el') (lch := ch') (RA := C.map fun t => V.ref t.n) (RB := D.map fun t => V.ref t.n) hes hA3 hB3 (by rw [List.length_append] at hm; omega) (by rw [List.length_map]; omega) (by rw [List.length_map]; omega)
          (l := (cn, nodeO cr ccs.isEmpty el' ch') :: (el', .list ([x1, x2].map .mem)) :: (ch', .list ((ccs.take 3).map fun t => V.ref t.n)) :: (r, nodeO cr ccs.isEmpty rel rch) :: (rel, .list ([x4, x5].map .mem)) :: (rch, .list ((ccs.drop 3).map fun t => V.ref t.n)) :: (objsL cr C ++ objsL cr ccs ++ objsL cr D ++ rest)) led_here (by omega)).sub ?_).post ?_
        · rw [List.map_take, List.map_drop]
          walk_at "fx sub"
        rintro x l'' ⟨rfl, hl3⟩
        walk_at "fx*"
        have hsp : objsL cr ccs = objsL cr (ccs.take 3) ++ objsL cr (ccs.drop 3) := by rw [← objsL_append, List.take_append_drop]
        refine ⟨0, by omega, el, ch, A ++ x3 :: B, C ++ T.mk cn el' ch' [x1, x2] (ccs.take 3) :: T.mk r rel rch [x4, x5] (ccs.drop 3) :: D, _, _, _, _, _, _, rfl, LSub.trans ?_ hl3, ?_, ?_, ?_, ?_, ?_, .inr ⟨rfl, by omega, ?_⟩⟩
        · rw [objs_led, hsp]
          have : (C ++ T.mk cn el' ch' [x1, x2] (ccs.take 3) :: T.mk r rel rch [x4, x5] (ccs.drop 3) :: D).isEmpty = false := by simp
          rw [this]
          refine lsub_of_cnt fun p => ?_
          simp only [nodeO, cnt_cons, cnt_append, cnt_nil, objs_mk, objsL_append, objsL_cons, objsL_nil, List.cons_append, List.nil_append, List.append_assoc, he1.1, he1.2, List.map_append, List.map_cons, List.map_nil, List.map_take, List.map_drop, T_n]
          omega
        · exact wf_split wf wfc
        · rw [keys_mk (c := T.mk cn cel cch [x1, x2, x3, x4, x5] ccs) hAC hDB, keys_mk (A := A) (B := x3 :: B) (C := C) (D := T.mk r rel rch [x4, x5] (ccs.drop 3) :: D) hAC (by simp [hDB]), kr_cons, keys_split wfc (n' := cn) (el' := el') (ch' := ch') (n'' := r) (el'' := rel) (ch'' := rch)]
          simp
        · simp at hz1 ⊢; omega
        · have := hm.2; simp at this ⊢; omega
        · have := hm.2; simp at this ⊢; omega
        · intro A' B' C' c' D' e1 e2 h1 h2 h3
          by_cases hk1 : x3 < k
          · have e1' : (A ++ [x3]) ++ B = A' ++ B' := by rw [List.append_assoc]; exact e1
            obtain ⟨rfl, rfl, _⟩ := uniq (b := false) e1' (by intro x hx; rcases List.mem_append.mp hx with hx | hx; exact hA x hx; simp at hx; omega) hB h2 (by simp) (fun _ => h3)
            have e2' : (C ++ [T.mk cn el' ch' [x1, x2] (ccs.take 3)]) ++ T.mk r rel rch [x4, x5] (ccs.drop 3) :: D = C' ++ c' :: D' := by rw [List.append_assoc]; exact e2
            have e3 := List.append_inj_right e2' (by simp at h1 ⊢; omega)
            cases e3
            exact Nat.le_of_ble_eq_true rfl
          · by_cases hk2 : k < x3
            · obtain ⟨rfl, rfl, _⟩ := uniq (b := false) e1 hA (by intro x hx; rcases List.mem_cons.mp hx with rfl | hx; exact hk2; exact hB x hx) h2 (by simp) (fun _ => h3)
              have e3 := List.append_inj_right e2 (by omega)
              cases e3
              exact Nat.le_of_ble_eq_true rfl
            · have : x3 = k := by omega
              subst this
              have : x3 ∈ A' ++ B' := by rw [← e1]; simp
              rcases List.mem_append.mp this with h | h
              · have := h2 _ h; omega
              · have := h3 _ h; omega
      · have h4 : ces.length ≤ 4 := by
          simp only [List.length_map, decide_eq_false_iff_not] at h5; omega
        walk_at "fx*"
        refine ((ih h (by omega) (t := T.mk cn cel cch ces ccs) (k := k) (n := Φ.rm) (rest := (a, nodeO cr false el ch) :: (el, .list ((A ++ B).map .mem)) :: (ch, .list ((C ++ T.mk cn cel cch ces ccs :: D).map fun t => V.ref t.n)) :: (objsL cr C ++ objsL cr D ++ rest)) wfc (List.pairwise_append.mp (List.pairwise_append.mp srt).1).2.1 h4 (by omega)).sub ?_).post ?_
        · walk_at "fx sub"
        rintro x l' ⟨c', hx', hl2, hn', wfc', hk', hz1', hz2'⟩
        have hxu : x ≠ .unb := by rw [hx']; split <;> nofun
        walk_at "fx*"
        refine WSs.ite ?_
        walk_at "fx*"
        refine ⟨.mk a el ch (A ++ B) (C ++ c' :: D), ?_, LSub.trans ?_ hl2, rfl, wf_child wf wfc' (by simp only [T_es] at hz1'; omega) (by simp only [T_es] at hz2'; omega), ?_, hz1, hz3⟩
        · rw [hkeys, hx']
          have e : k ∈ kl A C ++ keys (T.mk cn cel cch ces ccs) ++ kr B D ↔ k ∈ keys (T.mk cn cel cch ces ccs) := by
            simp only [List.mem_append]
            constructor
            · rintro ((h | h) | h)
              · have := hL k h; omega
              · exact h
              · have := hR k h; omega
            · exact fun h => .inl (.inr h)
          simp only [e]
        · obtain ⟨cn', cel', cch', ces', ccs'⟩ := c'
          simp only [T_n] at hn'
          subst hn'
          rw [objs_led]
          have : (C ++ T.mk cn' cel' cch' ces' ccs' :: D).isEmpty = false := by simp
          rw [this]
          walk_at "fx sub"
        · rw [keys_mk hAC hDB, hkeys, hk', ins_mid hL hR]
/-! ## FXD -/
/-- a call of which a spec is known -/
theorem Spec.use {c : Cx} {f : Value} {xs : List V} {n : Nat} {l l' : Led} {Q Q' : V → Led → Prop} (h : Spec c f xs n l' Q') (hl : LSub l' l) (k : ∀ x l'', Q' x l'' → Q x l'') : Spec c f xs n l Q := (h.sub hl).post k
theorem setAt {α : Type} {A B : List α} {x y : α} {n : Nat} (h : A.length = n) : (A ++ x :: B).set ((n : Int)).toNat y = A ++ y :: B := by subst h; simp
theorem setAtM {A B : List Int} {x y : Int} {n : Nat} (h : A.length = n) : ((A ++ x :: B).map V.mem).set ((n : Int)).toNat (V.mem y) = (A ++ y :: B).map V.mem := by rw [map_mid, map_mid]; exact setAt (by rw [List.length_map]; exact h)
theorem getAtM {A B : List Int} {x : Int} {n : Nat} (h : A.length = n) : ((A ++ x :: B).map V.mem)[((n : Int)).toNat]? = some (V.mem x) := by rw [map_mid]; exact getAt' (by rw [List.length_map]; exact h)
theorem t_leftNo0 {w : World} {cn pn : Addr} {k : Nat} {l : Led} (hk : 1 ≤ k) : Spec (cx w) (.ref 154) [.ref cn, .ref pn, .int 0] k l (fun x l' => x = .bool false ∧ l' = l) := by
  refine Spec.fn' (by omega) [("self", .ref cn), ("parent", .ref pn), ("index", .int 0), ("left", .unb), ("elt", .unb), ("child", .unb)] ["left", "elt", "child"] (ho := (rfl : (cx w).K.lookup 154 = some ⟨_, _, .func (fnX _ _ _ _ _ [] .none _ _ _ _ _ _), _⟩)) (by kernel_rfl) rfl rfl rfl rfl rfl (by decide) rfl rfl ?_
  intro Φ hsc hrm
  refine WSs.ite ?_
  walk_at "fx*"
  rw [if_neg (by decide)]
  walk_at "fx*"
  exact ⟨rfl, rfl⟩
theorem t_leftNo {w : World} {cr cn pn pel pch ln lel lch : Addr} {lf : Bool} {les : List Int} {RA RB : List V} {i : Nat} {k : Nat} {l : Led} (hp : (pn, nodeO cr false pel pch) ∈ l) (hc : (pch, O.list (RA ++ .ref ln :: RB)) ∈ l) (hl : (ln, nodeO cr lf lel lch) ∈ l) (he : (lel, O.list (les.map .mem)) ∈ l)
    (h2 : les.length = 2) (hi : RA.length + 1 = i) (hz : RA.length ≤ 100) (hk : 3 ≤ k) : Spec (cx w) (.ref 154) [.ref cn, .ref pn, .int i] k l (fun x l' => x = .bool false ∧ l' = l) := by
  refine Spec.fn' (by omega) [("self", .ref cn), ("parent", .ref pn), ("index", .int i), ("left", .unb), ("elt", .unb), ("child", .unb)] ["left", "elt", "child"] (ho := (rfl : (cx w).K.lookup 154 = some ⟨_, _, .func (fnX _ _ _ _ _ [] .none _ _ _ _ _ _), _⟩)) (by kernel_rfl) rfl rfl rfl rfl rfl (by decide) rfl rfl ?_
  intro Φ hsc hrm
  refine WSs.ite ?_
  walk_at "fx*"
  refine ite_or (fun h => ?_) (fun h => ?_)
  · have hx : (RA ++ .ref ln :: RB)[((i : Int) - 1).toNat]? = some (V.ref ln) := by
      rw [show (i : Int) - 1 = (RA.length : Int) by omega]; exact getAt _ _ _
    walk_at "fx*"
    refine WSs.ite ?_
    walk_at "fx*"
    rw [show decide ((les.map V.mem).length = 2) = true by simp [h2]]
    walk_at "fx*"
    exact ⟨rfl, rfl⟩
  · walk_at "fx*"
    exact ⟨rfl, rfl⟩
theorem t_leftYes {w : World} {cr cn cel cch pn pel pch ln lel lch : Addr} {lf : Bool} {les ces A B : List Int} {s y : Int} {mv lcs ccs RA RB : List V} {i : Nat} {k : Nat} {l : Led}
    (h2 : 2 ≤ les.length) (h2' : les.length ≤ 4) (hi : RA.length + 1 = i) (hA : A.length = RA.length) (hz : A.length ≤ 100) (hB : B.length ≤ 100) (hzc : ces.length ≤ 100) (hccs : ccs.length ≤ 100) (hlcs : lcs.length ≤ 100) (hm : if lf then mv = [] else ∃ y : Addr, mv = [V.ref y]) (hk : 4 ≤ k) :
    Spec (cx w) (.ref 154) [.ref cn, .ref pn, .int i] k
      ((pn, nodeO cr false pel pch) :: (pel, .list ((A ++ s :: B).map .mem)) :: (pch, .list (RA ++ .ref ln :: RB)) :: (ln, nodeO cr lf lel lch) :: (lel, .list ((les ++ [y]).map .mem)) :: (lch, .list (lcs ++ mv)) :: (cn, nodeO cr lf cel cch) :: (cel, .list (ces.map .mem)) :: (cch, .list ccs) :: l)
      (fun x l' => x = .bool true ∧ l' = (pn, nodeO cr false pel pch) :: (pel, .list ((A ++ y :: B).map .mem)) :: (pch, .list (RA ++ .ref ln :: RB)) :: (ln, nodeO cr lf lel lch) :: (lel, .list (les.map .mem)) :: (lch, .list lcs) :: (cn, nodeO cr lf cel cch) :: (cel, .list ((s :: ces).map .mem)) :: (cch, .list (mv ++ ccs)) :: l) := by
  refine Spec.fn' (by omega) [("self", .ref cn), ("parent", .ref pn), ("index", .int i), ("left", .unb), ("elt", .unb), ("child", .unb)] ["left", "elt", "child"] (ho := (rfl : (cx w).K.lookup 154 = some ⟨_, _, .func (fnX _ _ _ _ _ [] .none _ _ _ _ _ _), _⟩)) (by kernel_rfl) rfl rfl rfl rfl rfl (by decide) rfl rfl ?_
  intro Φ hsc hrm
  have e1 : (i : Int) - 1 = (RA.length : Int) := by omega
  have hx : (RA ++ .ref ln :: RB)[((RA.length : Int)).toNat]? = some (V.ref ln) := getAt _ _ _
  refine WSs.ite ?_
  walk_at "fx*"
  rw [show ((i : Int) != 0) = true by simp; omega]
  walk_at "fx*"
  simp only [e1]
  walk_at "fx*"
  refine WSs.ite ?_
  walk_at "fx*"
  rw [show (!decide ((List.map V.mem (les ++ [y])).length = 2)) = true by simp; omega]
  rw [show List.map V.mem (les ++ [y]) = les.map V.mem ++ [V.mem y] by simp]
  have hx2 : ((A ++ s :: B).map V.mem)[((RA.length : Int)).toNat]? = some (.mem s) := getAtM hA
  walk_at "fx*"
  simp only [e1]
  refine (t_cowChild (k := Φ.rm) (i := RA.length) led_here (led_there (led_there led_here)) hx (led_there (led_there (led_there led_here))) (by omega) (by omega)).post ?_
  rintro x l' ⟨rfl, rfl⟩
  walk_at "fx*"
  simp only [e1]
  walk_at "fx*"
  simp only [e1]
  refine x_setItem (a := pel) (x := V.mem y) (i := (RA.length : Int)) (xs := (A ++ s :: B).map .mem) (ys := (A ++ y :: B).map .mem) (by omega) (by simp; omega) (by simp; omega) (setAtM hA) (by walk_at "fx upd") ?_
  walk_at "fx*"
  refine x_insert (a := cel) (y := V.mem s) (i := 0) (xs := ces.map .mem) (ys := (s :: ces).map .mem) (by omega) (by omega) (by simp) (by walk_at "fx upd") (by simp; omega) ?_
  walk_at "fx*"
  refine WSs.ite ?_
  walk_at "fx*"
  cases lf with
  | true =>
    rw [if_pos rfl] at hm
    subst hm
    walk_at "fx*"
    exact ⟨rfl, by simp⟩
  | false =>
    rw [if_neg (by decide)] at hm
    obtain ⟨z, rfl⟩ := hm
    walk_at "fx*"
    refine x_insert (a := cch) (y := V.ref z) (i := 0) (xs := ccs) (ys := V.ref z :: ccs) (by omega) (by omega) (by simp) (by walk_at "fx upd") (by omega) ?_
    walk_at "fx*"
    exact ⟨rfl, by simp⟩
theorem t_rightNo0 {w : World} {cr cn pn pel pch : Addr} {rs : List V} {i : Nat} {k : Nat} {l : Led} (hp : (pn, nodeO cr false pel pch) ∈ l) (hc : (pch, O.list rs) ∈ l) (hi : rs.length = i + 1) (hz : i ≤ 100) (hk : 2 ≤ k) : Spec (cx w) (.ref 161) [.ref cn, .ref pn, .int i] k l (fun x l' => x = .bool false ∧ l' = l) := by
  refine Spec.fn' (by omega) [("self", .ref cn), ("parent", .ref pn), ("index", .int i), ("right", .unb), ("elt", .unb), ("child", .unb)] ["right", "elt", "child"] (ho := (rfl : (cx w).K.lookup 161 = some ⟨_, _, .func (fnX _ _ _ _ _ [] .none _ _ _ _ _ _), _⟩)) (by kernel_rfl) rfl rfl rfl rfl rfl (by decide) rfl rfl ?_
  intro Φ hsc hrm
  refine WSs.ite ?_
  walk_at "fx*"
  rw [show decide ((i : Int) + 1 < (rs.length : Int)) = false by simp; omega]
  walk_at "fx*"
  exact ⟨rfl, rfl⟩
theorem t_rightNo {w : World} {cr cn pn pel pch rn rel rch : Addr} {lf : Bool} {res : List Int} {RA RB : List V} {i : Nat} {k : Nat} {l : Led} (hp : (pn, nodeO cr false pel pch) ∈ l) (hc : (pch, O.list (RA ++ .ref rn :: RB)) ∈ l) (hl : (rn, nodeO cr lf rel rch) ∈ l) (he : (rel, O.list (res.map .mem)) ∈ l)
    (h2 : res.length = 2) (hi : RA.length = i + 1) (hz : RA.length ≤ 100) (hz' : RB.length ≤ 100) (hk : 3 ≤ k) : Spec (cx w) (.ref 161) [.ref cn, .ref pn, .int i] k l (fun x l' => x = .bool false ∧ l' = l) := by
  refine Spec.fn' (by omega) [("self", .ref cn), ("parent", .ref pn), ("index", .int i), ("right", .unb), ("elt", .unb), ("child", .unb)] ["right", "elt", "child"] (ho := (rfl : (cx w).K.lookup 161 = some ⟨_, _, .func (fnX _ _ _ _ _ [] .none _ _ _ _ _ _), _⟩)) (by kernel_rfl) rfl rfl rfl rfl rfl (by decide) rfl rfl ?_
  intro Φ hsc hrm
  refine WSs.ite ?_
  have hlen : (RA ++ .ref rn :: RB).length ≤ 1000000 := by simp; omega
  walk_at "fx*"
  refine ite_or (fun h => ?_) (fun h => ?_)
  · have hx : (RA ++ .ref rn :: RB)[((i : Int) + 1).toNat]? = some (V.ref rn) := by
      rw [show (i : Int) + 1 = (RA.length : Int) by omega]; exact getAt _ _ _
    walk_at "fx*"
    refine WSs.ite ?_
    walk_at "fx*"
    rw [show decide ((res.map V.mem).length = 2) = true by simp [h2]]
    walk_at "fx*"
    exact ⟨rfl, rfl⟩
  · walk_at "fx*"
    exact ⟨rfl, rfl⟩
theorem t_rightYes {w : World} {cr cn cel cch pn pel pch rn rel rch : Addr} {lf : Bool} {res ces A B : List Int} {s y : Int} {mv rcs ccs RA RB : List V} {i : Nat} {k : Nat} {l : Led}
    (h2 : 2 ≤ res.length) (h2' : res.length ≤ 4) (hi : RA.length = i + 1) (hA : A.length = i) (hz : A.length ≤ 100) (hB : B.length ≤ 100) (hzr : RB.length ≤ 100) (hzc : ces.length ≤ 100) (hccs : ccs.length ≤ 100) (hrcs : rcs.length ≤ 100) (hm : if lf then mv = [] else ∃ y : Addr, mv = [V.ref y]) (hk : 4 ≤ k) :
    Spec (cx w) (.ref 161) [.ref cn, .ref pn, .int i] k
      ((pn, nodeO cr false pel pch) :: (pel, .list ((A ++ s :: B).map .mem)) :: (pch, .list (RA ++ .ref rn :: RB)) :: (rn, nodeO cr lf rel rch) :: (rel, .list ((y :: res).map .mem)) :: (rch, .list (mv ++ rcs)) :: (cn, nodeO cr lf cel cch) :: (cel, .list (ces.map .mem)) :: (cch, .list ccs) :: l)
      (fun x l' => x = .bool true ∧ l' = (pn, nodeO cr false pel pch) :: (pel, .list ((A ++ y :: B).map .mem)) :: (pch, .list (RA ++ .ref rn :: RB)) :: (rn, nodeO cr lf rel rch) :: (rel, .list (res.map .mem)) :: (rch, .list rcs) :: (cn, nodeO cr lf cel cch) :: (cel, .list ((ces ++ [s]).map .mem)) :: (cch, .list (ccs ++ mv)) :: l) := by
  refine Spec.fn' (by omega) [("self", .ref cn), ("parent", .ref pn), ("index", .int i), ("right", .unb), ("elt", .unb), ("child", .unb)] ["right", "elt", "child"] (ho := (rfl : (cx w).K.lookup 161 = some ⟨_, _, .func (fnX _ _ _ _ _ [] .none _ _ _ _ _ _), _⟩)) (by kernel_rfl) rfl rfl rfl rfl rfl (by decide) rfl rfl ?_
  intro Φ hsc hrm
  have e1 : (i : Int) + 1 = (RA.length : Int) := by omega
  have hx : (RA ++ .ref rn :: RB)[((RA.length : Int)).toNat]? = some (V.ref rn) := getAt _ _ _
  have hlen : (RA ++ .ref rn :: RB).length ≤ 1000000 := by simp; omega
  have hx2 : ((A ++ s :: B).map V.mem)[((i : Int)).toNat]? = some (.mem s) := getAtM hA
  refine WSs.ite ?_
  walk_at "fx*"
  rw [show decide ((i : Int) + 1 < ((RA ++ V.ref rn :: RB).length : Int)) = true by simp; omega]
  walk_at "fx*"
  simp only [e1]
  walk_at "fx*"
  refine WSs.ite ?_
  walk_at "fx*"
  rw [show (!decide ((List.map V.mem (y :: res)).length = 2)) = true by simp; omega]
  walk_at "fx*"
  simp only [e1]
  refine (t_cowChild (k := Φ.rm) (i := RA.length) led_here (led_there (led_there led_here)) hx (led_there (led_there (led_there led_here))) (by omega) (by omega)).post ?_
  rintro x l' ⟨rfl, rfl⟩
  walk_at "fx*"
  refine x_popAt (a := rel) (i := 0) (xs := []) (y := V.mem y) (zs := res.map .mem) rfl (by walk_at "fx upd") (by simp; omega) ?_
  walk_at "fx*"
  refine x_setItem (a := pel) (x := V.mem y) (i := (i : Int)) (xs := (A ++ s :: B).map .mem) (ys := (A ++ y :: B).map .mem) (by omega) (by simp; omega) (by simp; omega) (setAtM hA) (by walk_at "fx upd") ?_
  walk_at "fx*"
  refine WSs.ite ?_
  walk_at "fx*"
  cases lf with
  | true =>
    rw [if_pos rfl] at hm
    subst hm
    walk_at "fx*"
    exact ⟨rfl, by simp⟩
  | false =>
    rw [if_neg (by decide)] at hm
    obtain ⟨z, rfl⟩ := hm
    walk_at "fx*"
    refine x_popAt (a := rch) (i := 0) (xs := []) (y := V.ref z) (zs := rcs) rfl (by walk_at "fx upd") (by simp; omega) ?_
    walk_at "fx*"
    exact ⟨rfl, by simp⟩
theorem t_merge {w : World} {cr pn pel pch ln lel lch rn rel rch : Addr} {lf : Bool} {les res A B : List Int} {s : Int} {lcs rcs RA RB : List V} {i : Nat} {k : Nat} {l : Led}
    (hi : RA.length = i) (hA : A.length = i) (hz : A.length ≤ 100) (hB : B.length ≤ 100) (hzr : RB.length ≤ 100) (hle : les.length ≤ 100) (hre : res.length ≤ 100) (hre0 : res ≠ []) (hlc : lcs.length ≤ 100) (hrc : rcs.length ≤ 100) (hm : if lf then rcs = [] else rcs ≠ []) (hne : rch ≠ lch) (hne' : rel ≠ lel) (hk : 2 ≤ k) :
    Spec (cx w) (.ref 175) [.ref ln, .ref pn, .int i] k
      ((pn, nodeO cr false pel pch) :: (pel, .list ((A ++ s :: B).map .mem)) :: (pch, .list (RA ++ .ref ln :: .ref rn :: RB)) :: (ln, nodeO cr lf lel lch) :: (lel, .list (les.map .mem)) :: (lch, .list lcs) :: (rn, nodeO cr lf rel rch) :: (rel, .list (res.map .mem)) :: (rch, .list rcs) :: l)
      (fun x l' => x = .none ∧ l' = (pn, nodeO cr false pel pch) :: (pel, .list ((A ++ B).map .mem)) :: (pch, .list (RA ++ .ref ln :: RB)) :: (ln, nodeO cr lf lel lch) :: (lel, .list ((les ++ s :: res).map .mem)) :: (lch, .list (lcs ++ rcs)) :: (rn, nodeO cr lf rel rch) :: (rel, .list (res.map .mem)) :: (rch, .list rcs) :: l) := by
  refine Spec.fn' (by omega) [("self", .ref ln), ("parent", .ref pn), ("index", .int i), ("right", .unb)] ["right"] (ho := (rfl : (cx w).K.lookup 175 = some ⟨_, _, .func (fnX _ _ _ _ _ [] .none _ _ _ _ _ _), _⟩)) (by kernel_rfl) rfl rfl rfl rfl rfl (by decide) rfl rfl ?_
  intro Φ hsc hrm
  rw [show RA ++ V.ref ln :: V.ref rn :: RB = (RA ++ [V.ref ln]) ++ V.ref rn :: RB by simp, map_mid]
  walk_at "fx*"
  refine x_popAt (a := pch) (i := (i : Int) + 1) (xs := RA ++ [V.ref ln]) (y := V.ref rn) (zs := RB) (by simp; omega) (by walk_at "fx upd") (by simp; omega) ?_
  walk_at "fx*"
  refine x_popAt (a := pel) (i := (i : Int)) (xs := A.map .mem) (y := V.mem s) (zs := B.map .mem) (by simp; omega) (by walk_at "fx upd") (by simp; omega) ?_
  walk_at "fx*"
  refine x_extend (a := lel) (b := rel) (zs := res.map .mem) hne' (by walk_at "fx mem") (by simpa using hre0) (by walk_at "fx upd") (by simp; omega) ?_
  walk_at "fx*"
  refine WSs.ite ?_
  walk_at "fx*"
  cases lf with
  | true =>
    rw [if_pos rfl] at hm
    subst hm
    walk_at "fx*"
    exact ⟨rfl, by simp⟩
  | false =>
    rw [if_neg (by decide)] at hm
    walk_at "fx*"
    refine x_extend (a := lch) (b := rch) (zs := rcs) hne (by walk_at "fx mem") hm (by walk_at "fx upd") (by omega) ?_
    walk_at "fx*"
    exact ⟨rfl, by simp⟩
/-! ## FXE -/
theorem nodup_ne {l : Led} {a b : Addr} {x y : O} (h : (l.map (·.1)).Nodup) (e : LSub [(a, x), (b, y)] l) : a ≠ b := by
  obtain ⟨r, hr⟩ := e
  have := (hr.map (·.1)).nodup_iff.mp h
  simp at this
  exact this.1.1
theorem Wf.csle {h n : Nat} {t : T} (w : Wf h t) (hn : t.es.length ≤ n) : t.cs.length ≤ n + 1 := by
  cases h with
  | zero => rw [show t.cs = [] from w]; simp
  | succ h => have := w.1; omega
theorem wf_two {h : Nat} {a el ch : Addr} {es es' : List Int} {C D : List T} {c1 c2 c1' c2' : T} (w : Wf (h + 1) (.mk a el ch es (C ++ c1 :: c2 :: D))) (w1 : Wf h c1') (h12 : 2 ≤ c1'.es.length) (h15 : c1'.es.length ≤ 5) (w2 : Wf h c2') (h22 : 2 ≤ c2'.es.length) (h25 : c2'.es.length ≤ 5) (he : es'.length = es.length) : Wf (h + 1) (.mk a el ch es' (C ++ c1' :: c2' :: D)) := by
  refine ⟨?_, fun x hx => ?_⟩
  · have := w.1
    simp only [T_cs, T_es, List.length_append, List.length_cons] at this ⊢
    omega
  · simp only [T_cs, List.mem_append, List.mem_cons] at hx
    rcases hx with hx | rfl | rfl | hx
    · exact w.2 x (List.mem_append_left _ hx)
    · exact ⟨w1, h12, h15⟩
    · exact ⟨w2, h22, h25⟩
    · exact w.2 x (List.mem_append_right _ (.tail _ (.tail _ hx)))
theorem wf_join {h : Nat} {a el ch : Addr} {es es' : List Int} {C D : List T} {c1 c2 c' : T} (w : Wf (h + 1) (.mk a el ch es (C ++ c1 :: c2 :: D))) (w1 : Wf h c') (h12 : 2 ≤ c'.es.length) (h15 : c'.es.length ≤ 5) (he : es'.length + 1 = es.length) : Wf (h + 1) (.mk a el ch es' (C ++ c' :: D)) := by
  refine ⟨?_, fun x hx => ?_⟩
  · have := w.1
    simp only [T_cs, T_es, List.length_append, List.length_cons] at this ⊢
    omega
  · simp only [T_cs, List.mem_append, List.mem_cons] at hx
    rcases hx with hx | rfl | hx
    · exact w.2 x (List.mem_append_left _ hx)
    · exact ⟨w1, h12, h15⟩
    · exact w.2 x (List.mem_append_right _ (.tail _ (.tail _ hx)))
/-- after a balancing -/
def Bal (cr : Addr) (h : Nat) (a el ch : Addr) (N : Nat) (ks : List Int) (k : Int) (rest l' : Led) : Prop := ∃ A' B' C' c' D', LSub (objs cr (.mk a el ch (A' ++ B') (C' ++ c' :: D')) ++ rest) l' ∧
      A'.length = C'.length ∧ D'.length = B'.length ∧ Wf (h + 1) (.mk a el ch (A' ++ B') (C' ++ c' :: D')) ∧ keys (.mk a el ch (A' ++ B') (C' ++ c' :: D')) = ks ∧
      (∀ x ∈ A', x < k) ∧ (∀ x ∈ B', k < x) ∧ 3 ≤ c'.es.length ∧ N ≤ (A' ++ B').length + 1 ∧ (A' ++ B').length ≤ N
section
variable {w : World} {cr : Addr} {h : Nat} {a el ch cn cel cch : Addr} {A B ces : List Int} {C D ccs : List T} {k : Int} {n : Nat} {rest : Led} (wf : Wf (h + 1) (.mk a el ch (A ++ B) (C ++ .mk cn cel cch ces ccs :: D))) (hAC : A.length = C.length) (hDB : D.length = B.length)
    (srt : Srt (keys (.mk a el ch (A ++ B) (C ++ .mk cn cel cch ces ccs :: D)))) (h2 : ces.length = 2) (h1 : 1 ≤ (A ++ B).length) (h5 : (A ++ B).length ≤ 5) (hA : ∀ x ∈ A, x < k) (hB : ∀ x ∈ B, k < x) (hn : 4 ≤ n)
include wf hAC hDB srt h2 h1 h5 hA hB hn
theorem t_balL (hl : ∃ A0 s C0 lt, A = A0 ++ [s] ∧ C = C0 ++ [lt] ∧ 3 ≤ lt.es.length) : Spec (cx w) (.ref 154) [.ref cn, .ref a, .int A.length] n ((a, nodeO cr false el ch) :: (el, .list ((A ++ B).map .mem)) :: (ch, .list ((C ++ .mk cn cel cch ces ccs :: D).map fun t => V.ref t.n)) :: (objsL cr (C ++ .mk cn cel cch ces ccs :: D) ++ rest))
    (fun x l' => x = .bool true ∧ Bal cr h a el ch (A ++ B).length (keys (.mk a el ch (A ++ B) (C ++ .mk cn cel cch ces ccs :: D))) k rest l') := by
  obtain ⟨wc, hc2, hc5⟩ := wf.2 _ (List.mem_append_right _ (.head _))
  have hcl : ccs.isEmpty = (h == 0) := wc.lf
  have hkeys := keys_mk (n := a) (el := el) (ch := ch) (c := T.mk cn cel cch ces ccs) hAC hDB
  obtain ⟨A0, s, C0, lt, rfl, rfl, h3⟩ := hl
  obtain ⟨ln, lel, lch, les0, lcs0⟩ := lt
  obtain ⟨wl, hl2, hl5⟩ := wf.2 (.mk ln lel lch les0 lcs0) (by simp [T_cs])
  have hll : lcs0.isEmpty = (h == 0) := wl.lf
  obtain ⟨les, y, lcs, mv, rfl, rfl, hmv, wl', hst⟩ := stealL wl wc h3
  obtain ⟨wc', hk⟩ := hst s
  have hll' : lcs.isEmpty = (h == 0) := wl'.lf
  have hcl' : (mv ++ ccs).isEmpty = (h == 0) := wc'.lf
  simp only [T_es, List.length_append, List.length_cons, List.length_nil] at h3 hl5 hc5 h5 h1 hAC
  have b1 : lcs.length ≤ 6 := wl'.csle (n := 5) (by simp only [T_es]; omega)
  have b2 : ccs.length ≤ 6 := wc.csle (n := 5) (by simp only [T_es]; omega)
  refine Spec.use (t_leftYes (k := n) (cr := cr) (lf := (h == 0)) (pel := el) (pch := ch) (ln := ln) (lel := lel) (lch := lch) (cel := cel) (cch := cch) (les := les) (ces := ces) (A := A0) (B := B) (s := s) (y := y) (mv := mv.map fun t => V.ref t.n) (lcs := lcs.map fun t => V.ref t.n) (ccs := ccs.map fun t => V.ref t.n)
    (RA := C0.map fun t => V.ref t.n) (RB := V.ref cn :: D.map fun t => V.ref t.n) (i := (A0 ++ [s]).length) (l := objsL cr C0 ++ objsL cr lcs ++ objsL cr mv ++ objsL cr ccs ++ objsL cr D ++ rest)
    (by omega) (by omega) (by simp; omega) (by simp; omega) (by omega) (by omega) (by omega) (by simp; omega) (by simp; omega) ?_ (by omega)) (by refine lsub_of_cnt fun p => ?_; simp only [nodeO, T_n, List.map_append, List.map_cons, List.map_nil, List.map_take, List.map_drop, cnt_cons, cnt_append, cnt_nil, objs_mk, objsL_append, objsL_cons, objsL_nil, List.cons_append, List.nil_append, List.append_assoc, hll, hcl]; omega) ?_
  · by_cases h0 : (h == 0) = true
    · rw [if_pos h0] at hmv ⊢; subst hmv; rfl
    · rw [if_neg h0] at hmv ⊢; obtain ⟨m, rfl⟩ := hmv; exact ⟨m.n, rfl⟩
  rintro x l' ⟨rfl, rfl⟩
  have hk1 : kl (A0 ++ [s]) (C0 ++ [T.mk ln lel lch (les ++ [y]) (lcs ++ mv)]) = kl A0 C0 ++ (keys (T.mk ln lel lch (les ++ [y]) (lcs ++ mv)) ++ [s]) := by rw [kl_append (by omega)]; rfl
  have hk2 : kl (A0 ++ [y]) (C0 ++ [T.mk ln lel lch les lcs]) = kl A0 C0 ++ (keys (T.mk ln lel lch les lcs) ++ [y]) := by rw [kl_append (by omega)]; rfl
  have hys : y < s := by
    rw [hkeys, hk1] at srt
    have := (List.pairwise_append.mp (List.pairwise_append.mp (List.pairwise_append.mp (List.pairwise_append.mp srt).1).1).2.1).2.2 y ((es_sub wl).subset (by simp [T_es])) s (.head _)
    exact this
  have hsk := hA s (by simp)
  have hkeys' := keys_mk (n := a) (el := el) (ch := ch) (A := A0 ++ [y]) (B := B) (C := C0 ++ [T.mk ln lel lch les lcs]) (D := D) (c := T.mk cn cel cch (s :: ces) (mv ++ ccs)) (by simp; omega) hDB
  refine ⟨rfl, A0 ++ [y], B, C0 ++ [T.mk ln lel lch les lcs], T.mk cn cel cch (s :: ces) (mv ++ ccs), D, (by refine lsub_of_cnt fun p => ?_; simp only [nodeO, T_n, List.map_append, List.map_cons, List.map_nil, List.map_take, List.map_drop, cnt_cons, cnt_append, cnt_nil, objs_mk, objsL_append, objsL_cons, objsL_nil, List.cons_append, List.nil_append, List.append_assoc, hll', hcl', show (C0 ++ T.mk ln lel lch les lcs :: T.mk cn cel cch (s :: ces) (mv ++ ccs) :: D).isEmpty = false from by simp]; omega), by simp; omega, hDB, ?_, ?_, ?_, hB, by simp [T_es]; omega, by simp, by simp⟩
  · rw [show C0 ++ [T.mk ln lel lch les lcs] ++ T.mk cn cel cch (s :: ces) (mv ++ ccs) :: D = C0 ++ T.mk ln lel lch les lcs :: T.mk cn cel cch (s :: ces) (mv ++ ccs) :: D by simp]
    rw [show ∀ x y : T, C0 ++ [x] ++ y :: D = C0 ++ x :: y :: D by intro x y; simp] at wf
    exact wf_two wf wl' (by simp only [T_es]; omega) (by simp only [T_es]; omega) wc' (by simp only [T_es, List.length_cons]; omega) (by simp only [T_es, List.length_cons]; omega) (by simp)
  · rw [hkeys', hkeys, hk1, hk2]
    have := congrArg (fun t => kl A0 C0 ++ t ++ kr B D) hk
    simpa using this.symm
  · intro x hx
    rcases List.mem_append.mp hx with hx | hx
    · exact hA x (List.mem_append_left _ hx)
    · simp at hx; omega

theorem t_balR (hr : ∃ s B0 rt D0, B = s :: B0 ∧ D = rt :: D0 ∧ 3 ≤ rt.es.length) : Spec (cx w) (.ref 161) [.ref cn, .ref a, .int A.length] n ((a, nodeO cr false el ch) :: (el, .list ((A ++ B).map .mem)) :: (ch, .list ((C ++ .mk cn cel cch ces ccs :: D).map fun t => V.ref t.n)) :: (objsL cr (C ++ .mk cn cel cch ces ccs :: D) ++ rest))
    (fun x l' => x = .bool true ∧ Bal cr h a el ch (A ++ B).length (keys (.mk a el ch (A ++ B) (C ++ .mk cn cel cch ces ccs :: D))) k rest l') := by
  obtain ⟨wc, hc2, hc5⟩ := wf.2 _ (List.mem_append_right _ (.head _))
  have hcl : ccs.isEmpty = (h == 0) := wc.lf
  have hkeys := keys_mk (n := a) (el := el) (ch := ch) (c := T.mk cn cel cch ces ccs) hAC hDB
  obtain ⟨s, B0, rt, D0, rfl, rfl, h3⟩ := hr
  obtain ⟨rn, rel, rch, res0, rcs0⟩ := rt
  obtain ⟨wr, hl2, hl5⟩ := wf.2 (.mk rn rel rch res0 rcs0) (by simp [T_cs])
  have hll : rcs0.isEmpty = (h == 0) := wr.lf
  obtain ⟨res, y, rcs, mv, rfl, rfl, hmv, wr', hst⟩ := stealR wr wc h3
  obtain ⟨wc', hk⟩ := hst s
  have hll' : rcs.isEmpty = (h == 0) := wr'.lf
  have hcl' : (ccs ++ mv).isEmpty = (h == 0) := wc'.lf
  simp only [T_es, List.length_append, List.length_cons, List.length_nil] at h3 hl5 hc5 h5 h1 hAC hDB
  have b1 : rcs.length ≤ 6 := wr'.csle (n := 5) (by simp only [T_es]; omega)
  have b2 : ccs.length ≤ 6 := wc.csle (n := 5) (by simp only [T_es]; omega)
  refine Spec.use (t_rightYes (k := n) (cr := cr) (lf := (h == 0)) (pel := el) (pch := ch) (rn := rn) (rel := rel) (rch := rch) (cel := cel) (cch := cch) (res := res) (ces := ces) (A := A) (B := B0) (s := s) (y := y) (mv := mv.map fun t => V.ref t.n) (rcs := rcs.map fun t => V.ref t.n) (ccs := ccs.map fun t => V.ref t.n)
    (RA := (C.map fun t => V.ref t.n) ++ [V.ref cn]) (RB := D0.map fun t => V.ref t.n) (i := A.length) (l := objsL cr C ++ objsL cr rcs ++ objsL cr mv ++ objsL cr ccs ++ objsL cr D0 ++ rest)
    (by omega) (by omega) (by simp; omega) rfl (by omega) (by omega) (by simp; omega) (by omega) (by simp; omega) (by simp; omega) ?_ (by omega)) (by refine lsub_of_cnt fun p => ?_; simp only [nodeO, T_n, List.map_append, List.map_cons, List.map_nil, List.map_take, List.map_drop, cnt_cons, cnt_append, cnt_nil, objs_mk, objsL_append, objsL_cons, objsL_nil, List.cons_append, List.nil_append, List.append_assoc, hll, hcl]; omega) ?_
  · by_cases h0 : (h == 0) = true
    · rw [if_pos h0] at hmv ⊢; subst hmv; rfl
    · rw [if_neg h0] at hmv ⊢; obtain ⟨m, rfl⟩ := hmv; exact ⟨m.n, rfl⟩
  rintro x l' ⟨rfl, rfl⟩
  have hys : s < y := by
    rw [hkeys, kr_cons] at srt
    exact (List.pairwise_cons.mp (List.pairwise_append.mp (List.pairwise_append.mp srt).2.1).1).1 y ((es_sub wr).subset (by simp [T_es]))
  have hsk := hB s (by simp)
  have hkeys' := keys_mk (n := a) (el := el) (ch := ch) (A := A) (B := y :: B0) (C := C) (D := T.mk rn rel rch res rcs :: D0) (c := T.mk cn cel cch (ces ++ [s]) (ccs ++ mv)) hAC (by simp; omega)
  refine ⟨rfl, A, y :: B0, C, T.mk cn cel cch (ces ++ [s]) (ccs ++ mv), T.mk rn rel rch res rcs :: D0, (by refine lsub_of_cnt fun p => ?_; simp only [nodeO, T_n, List.map_append, List.map_cons, List.map_nil, List.map_take, List.map_drop, cnt_cons, cnt_append, cnt_nil, objs_mk, objsL_append, objsL_cons, objsL_nil, List.cons_append, List.nil_append, List.append_assoc, hll', hcl', show (C ++ T.mk cn cel cch (ces ++ [s]) (ccs ++ mv) :: T.mk rn rel rch res rcs :: D0).isEmpty = false from by simp]; omega), hAC, by simp; omega, ?_, ?_, hA, ?_, by simp [T_es]; omega, by simp, by simp⟩
  · exact wf_two wf wc' (by simp [T_es]; omega) (by simp [T_es]; omega) wr' (by simp only [T_es]; omega) (by simp only [T_es]; omega) (by simp)
  · rw [hkeys', hkeys, kr_cons, kr_cons]
    have := congrArg (fun t => kl A C ++ t ++ kr B0 D0) hk
    simpa using this.symm
  · intro x hx
    rcases List.mem_cons.mp hx with rfl | hx
    · omega
    · exact hB x (.tail _ hx)

omit hA hB
theorem t_balNoL (hl : ¬∃ A0 s C0 lt, A = A0 ++ [s] ∧ C = C0 ++ [lt] ∧ 3 ≤ lt.es.length) : Spec (cx w) (.ref 154) [.ref cn, .ref a, .int A.length] n ((a, nodeO cr false el ch) :: (el, .list ((A ++ B).map .mem)) :: (ch, .list ((C ++ .mk cn cel cch ces ccs :: D).map fun t => V.ref t.n)) :: (objsL cr (C ++ .mk cn cel cch ces ccs :: D) ++ rest)) (fun x l' => x = .bool false ∧ l' = (a, nodeO cr false el ch) :: (el, .list ((A ++ B).map .mem)) :: (ch, .list ((C ++ .mk cn cel cch ces ccs :: D).map fun t => V.ref t.n)) :: (objsL cr (C ++ .mk cn cel cch ces ccs :: D) ++ rest)) := by
  rcases List.eq_nil_or_concat A with rfl | ⟨A0, s, rfl⟩
  · exact t_leftNo0 (by omega)
  rw [List.concat_eq_append] at *
  rcases List.eq_nil_or_concat C with rfl | ⟨C0, lt, rfl⟩
  · simp at hAC
  rw [List.concat_eq_append] at *
  obtain ⟨wl, hl2, hl5⟩ := wf.2 lt (by simp [T_cs])
  have h2 : lt.es.length = 2 := by
    rcases Nat.lt_or_ge lt.es.length 3 with h | h
    · omega
    · exact absurd ⟨A0, s, C0, lt, rfl, rfl, h⟩ hl
  have hc1 : ((C0 ++ [lt] ++ .mk cn cel cch ces ccs :: D).map fun t => V.ref t.n) = (C0.map fun t => V.ref t.n) ++ V.ref lt.n :: (V.ref cn :: D.map fun t => V.ref t.n) := by simp [T_n]
  rw [hc1]
  have m1 : ∀ p ∈ objs cr lt, p ∈ objsL cr (C0 ++ [lt] ++ .mk cn cel cch ces ccs :: D) ++ rest := by
    intro p hp
    rw [List.append_assoc, List.singleton_append]
    exact mem_child hp
  simp only [List.length_append, List.length_cons, List.length_nil] at hAC h5
  refine t_leftNo (cr := cr) (pn := a) (pel := el) (pch := ch) (ln := lt.n) (lel := lt.el) (lch := lt.ch) (lf := lt.lf) (les := lt.es) (RA := C0.map fun t => V.ref t.n) (RB := V.ref cn :: D.map fun t => V.ref t.n) led_here (led_there (led_there led_here)) (led_there (led_there (led_there (m1 _ (objs_node cr lt))))) (led_there (led_there (led_there (m1 _ (objs_elts cr lt))))) h2 (by simp; omega) (by simp; omega) (by omega)

theorem t_balNoR (hr : ¬∃ s B0 rt D0, B = s :: B0 ∧ D = rt :: D0 ∧ 3 ≤ rt.es.length) : Spec (cx w) (.ref 161) [.ref cn, .ref a, .int A.length] n ((a, nodeO cr false el ch) :: (el, .list ((A ++ B).map .mem)) :: (ch, .list ((C ++ .mk cn cel cch ces ccs :: D).map fun t => V.ref t.n)) :: (objsL cr (C ++ .mk cn cel cch ces ccs :: D) ++ rest)) (fun x l' => x = .bool false ∧ l' = (a, nodeO cr false el ch) :: (el, .list ((A ++ B).map .mem)) :: (ch, .list ((C ++ .mk cn cel cch ces ccs :: D).map fun t => V.ref t.n)) :: (objsL cr (C ++ .mk cn cel cch ces ccs :: D) ++ rest)) := by
  rw [List.length_append] at h5
  match B, D, hDB with
  | [], [], _ =>
    refine t_rightNo0 (cr := cr) (pel := el) (pch := ch) led_here (led_there (led_there led_here)) (by simp; omega) (by omega) (by omega)
  | s :: B0, rt :: D0, hDB =>
    obtain ⟨wl, hl2, hl5⟩ := wf.2 rt (by simp [T_cs])
    have h2 : rt.es.length = 2 := by
      rcases Nat.lt_or_ge rt.es.length 3 with h | h
      · omega
      · exact absurd ⟨s, B0, rt, D0, rfl, rfl, h⟩ hr
    have hc1 : ((C ++ .mk cn cel cch ces ccs :: rt :: D0).map fun t => V.ref t.n) = ((C.map fun t => V.ref t.n) ++ [V.ref cn]) ++ V.ref rt.n :: (D0.map fun t => V.ref t.n) := by simp [T_n]
    rw [hc1]
    have m1 : ∀ p ∈ objs cr rt, p ∈ objsL cr (C ++ .mk cn cel cch ces ccs :: rt :: D0) ++ rest := by
      intro p hp
      rw [show C ++ .mk cn cel cch ces ccs :: rt :: D0 = (C ++ [.mk cn cel cch ces ccs]) ++ rt :: D0 by simp]
      exact mem_child hp
    simp only [List.length_cons] at hDB h5
    refine t_rightNo (cr := cr) (pn := a) (pel := el) (pch := ch) (rn := rt.n) (rel := rt.el) (rch := rt.ch) (lf := rt.lf) (res := rt.es) (RA := (C.map fun t => V.ref t.n) ++ [V.ref cn]) (RB := D0.map fun t => V.ref t.n) led_here (led_there (led_there led_here)) (led_there (led_there (led_there (m1 _ (objs_node cr rt))))) (led_there (led_there (led_there (m1 _ (objs_elts cr rt))))) h2 (by simp; omega) (by simp; omega) (by simp; omega) (by omega)
end
section
variable {w : World} {cr : Addr} {h : Nat} {a el ch ln lel lch rn rel rch : Addr} {A B les res : List Int} {s : Int} {C D lcs rcs : List T} {k : Int} {n : Nat} {rest : Led} (wf : Wf (h + 1) (.mk a el ch (A ++ s :: B) (C ++ .mk ln lel lch les lcs :: .mk rn rel rch res rcs :: D))) (hAC : A.length = C.length) (hDB : D.length = B.length)
  (h2 : les.length = 2) (h2' : res.length = 2) (h5 : A.length + B.length ≤ 5) (hA : ∀ x ∈ A, x < k) (hB : ∀ x ∈ B, k < x) (hn : 4 ≤ n)
include wf hAC hDB h2 h2' h5 hA hB hn
/-- two children become one -/
theorem t_balM : Spec (cx w) (.ref 175) [.ref ln, .ref a, .int A.length] n ((a, nodeO cr false el ch) :: (el, .list ((A ++ s :: B).map .mem)) :: (ch, .list ((C ++ .mk ln lel lch les lcs :: .mk rn rel rch res rcs :: D).map fun t => V.ref t.n)) :: (objsL cr (C ++ .mk ln lel lch les lcs :: .mk rn rel rch res rcs :: D) ++ rest))
    (fun x l' => x = .none ∧ Bal cr h a el ch (A ++ s :: B).length (keys (.mk a el ch (A ++ s :: B) (C ++ .mk ln lel lch les lcs :: .mk rn rel rch res rcs :: D))) k rest l') := by
  obtain ⟨wl, _, hl5⟩ := wf.2 (.mk ln lel lch les lcs) (by simp [T_cs])
  obtain ⟨wr, _, hr5⟩ := wf.2 (.mk rn rel rch res rcs) (by simp [T_cs])
  have hll : lcs.isEmpty = (h == 0) := wl.lf
  have hrl : rcs.isEmpty = (h == 0) := wr.lf
  obtain ⟨hmv, wm, hk⟩ := mergeT wl wr s
  have hml : (lcs ++ rcs).isEmpty = (h == 0) := wm.lf
  have b1 : lcs.length ≤ 6 := wl.csle (n := 5) hl5
  have b2 : rcs.length ≤ 6 := wr.csle (n := 5) hr5
  refine Spec.apart fun nd => ?_
  have n1 : rch ≠ lch := nodup_ne (x := .list (rcs.map fun t => V.ref t.n)) (y := .list (lcs.map fun t => V.ref t.n)) nd (by refine lsub_of_cnt fun p => ?_; simp only [nodeO, T_n, List.map_append, List.map_cons, List.map_nil, List.map_take, List.map_drop, cnt_cons, cnt_append, cnt_nil, objs_mk, objsL_append, objsL_cons, objsL_nil, List.cons_append, List.nil_append, List.append_assoc, hll, hrl]; omega)
  have n2 : rel ≠ lel := nodup_ne (x := .list (res.map .mem)) (y := .list (les.map .mem)) nd (by refine lsub_of_cnt fun p => ?_; simp only [nodeO, T_n, List.map_append, List.map_cons, List.map_nil, List.map_take, List.map_drop, cnt_cons, cnt_append, cnt_nil, objs_mk, objsL_append, objsL_cons, objsL_nil, List.cons_append, List.nil_append, List.append_assoc, hll, hrl]; omega)
  refine Spec.use (t_merge (k := n) (cr := cr) (lf := (h == 0)) (pel := el) (pch := ch) (lel := lel) (lch := lch) (rn := rn) (rel := rel) (rch := rch) (les := les) (res := res) (A := A) (B := B) (s := s) (lcs := lcs.map fun t => V.ref t.n) (rcs := rcs.map fun t => V.ref t.n)
    (RA := C.map fun t => V.ref t.n) (RB := D.map fun t => V.ref t.n) (i := A.length) (l := objsL cr C ++ objsL cr lcs ++ objsL cr rcs ++ objsL cr D ++ rest)
    (by simp; omega) rfl (by omega) (by omega) (by simp; omega) (by omega) (by omega) (by rintro rfl; simp at h2') (by simp; omega) (by simp; omega) ?_ n1 n2 (by omega)) (by refine lsub_of_cnt fun p => ?_; simp only [nodeO, T_n, List.map_append, List.map_cons, List.map_nil, List.map_take, List.map_drop, cnt_cons, cnt_append, cnt_nil, objs_mk, objsL_append, objsL_cons, objsL_nil, List.cons_append, List.nil_append, List.append_assoc, hll, hrl]; omega) ?_
  · by_cases h0 : (h == 0) = true
    · rw [if_pos h0] at hmv ⊢; subst hmv; rfl
    · rw [if_neg h0] at hmv ⊢; simpa using hmv
  rintro x l' ⟨rfl, rfl⟩
  have hkeys := keys_mk (n := a) (el := el) (ch := ch) (A := A) (B := s :: B) (C := C) (D := .mk rn rel rch res rcs :: D) (c := T.mk ln lel lch les lcs) hAC (by simp; omega)
  have hkeys' := keys_mk (n := a) (el := el) (ch := ch) (A := A) (B := B) (C := C) (D := D) (c := T.mk ln lel lch (les ++ s :: res) (lcs ++ rcs)) hAC hDB
  refine ⟨rfl, A, B, C, T.mk ln lel lch (les ++ s :: res) (lcs ++ rcs), D, (by refine lsub_of_cnt fun p => ?_; simp only [nodeO, T_n, List.map_append, List.map_cons, List.map_nil, List.map_take, List.map_drop, cnt_cons, cnt_append, cnt_nil, objs_mk, objsL_append, objsL_cons, objsL_nil, List.cons_append, List.nil_append, List.append_assoc, hml, show (C ++ T.mk ln lel lch (les ++ s :: res) (lcs ++ rcs) :: D).isEmpty = false from by simp]; omega), hAC, hDB, ?_, ?_, hA, hB, by simp [T_es]; omega, by simp; omega, by simp⟩
  · exact wf_join wf wm (by simp [T_es]; omega) (by simp [T_es]; omega) (by simp; omega)
  · rw [hkeys', hkeys, hk, kr_cons]
    simp
end
theorem t_balance {w : World} {cr : Addr} {h : Nat} {a el ch cn cel cch : Addr} {A B ces : List Int} {C D ccs : List T} {k : Int} {n : Nat} {rest : Led} (wf : Wf (h + 1) (.mk a el ch (A ++ B) (C ++ .mk cn cel cch ces ccs :: D))) (hAC : A.length = C.length) (hDB : D.length = B.length)
    (srt : Srt (keys (.mk a el ch (A ++ B) (C ++ .mk cn cel cch ces ccs :: D)))) (h2 : ces.length = 2) (h1 : 1 ≤ (A ++ B).length) (h5 : (A ++ B).length ≤ 5) (hA : ∀ x ∈ A, x < k) (hB : ∀ x ∈ B, k < x) (hn : 7 ≤ n) :
    Spec (cx w) (.ref 196) [.ref cn, .ref a, .int A.length] n (objs cr (.mk a el ch (A ++ B) (C ++ .mk cn cel cch ces ccs :: D)) ++ rest) (fun x l' => x = .none ∧ Bal cr h a el ch (A ++ B).length (keys (.mk a el ch (A ++ B) (C ++ .mk cn cel cch ces ccs :: D))) k rest l') := by
  have hlf : (C ++ .mk cn cel cch ces ccs :: D).isEmpty = false := by simp
  rw [objs_led, hlf]
  refine Spec.fn' (by omega) [("self", .ref cn), ("parent", .ref a), ("index", .int A.length), ("left", .unb)] ["left"] (ho := (rfl : (cx w).K.lookup 196 = some ⟨_, _, .func (fnX _ _ _ _ _ [] .none _ _ _ _ _ _), _⟩)) (by kernel_rfl) rfl rfl rfl rfl rfl (by decide) rfl rfl ?_
  intro Φ hsc hrm
  have hcn : (cn, nodeO cr ccs.isEmpty cel cch) ∈ objsL cr (C ++ .mk cn cel cch ces ccs :: D) ++ rest := mem_child (objs_node cr (.mk cn cel cch ces ccs))
  walk_at "fx*"
  refine WSs.ite ?_
  walk_at "fx*"
  by_cases hl : ∃ A0 s C0 lt, A = A0 ++ [s] ∧ C = C0 ++ [lt] ∧ 3 ≤ lt.es.length
  · refine (t_balL (k := k) wf hAC hDB srt h2 h1 h5 hA hB (by omega) hl).post ?_
    rintro x l' ⟨rfl, hb⟩
    walk_at "fx*"
    exact ⟨rfl, hb⟩
  refine (t_balNoL wf hAC hDB srt h2 h1 h5 (by omega) hl).post ?_
  rintro x l' ⟨rfl, rfl⟩
  walk_at "fx*"
  refine WSs.ite ?_
  walk_at "fx*"
  by_cases hr : ∃ s B0 rt D0, B = s :: B0 ∧ D = rt :: D0 ∧ 3 ≤ rt.es.length
  · refine (t_balR (k := k) wf hAC hDB srt h2 h1 h5 hA hB (by omega) hr).post ?_
    rintro x l' ⟨rfl, hb⟩
    walk_at "fx*"
    exact ⟨rfl, hb⟩
  refine (t_balNoR wf hAC hDB srt h2 h1 h5 (by omega) hr).post ?_
  rintro x l' ⟨rfl, rfl⟩
  walk_at "fx*"
  refine WSs.ite ?_
  walk_at "fx*"
  rw [List.length_append] at h5 h1
  rcases List.eq_nil_or_concat A with rfl | ⟨A0, s, rfl⟩
  · obtain rfl : C = [] := List.length_eq_zero_iff.mp hAC.symm
    rw [show (((([] : List Int).length : Nat) : Int) == 0) = true from rfl]
    match B, D, hDB with
    | [], _, _ => simp at h1
    | s :: B0, .mk rn rel rch res rcs :: D0, hDB =>
      have h2' : res.length = 2 := by
        obtain ⟨_, q2, q5⟩ := wf.2 (.mk rn rel rch res rcs) (by simp [T_cs])
        rcases Nat.lt_or_ge res.length 3 with h | h
        · simp only [T_es] at q2; omega
        · exact absurd ⟨s, B0, _, D0, rfl, rfl, h⟩ hr
      walk_at "fx*"
      refine (t_balM (w := w) (cr := cr) (A := []) (C := []) (k := k) (rest := rest) wf rfl (by simpa using hDB) h2 h2' (by simp at h5; simp; omega) (by simp) (fun x hx => hB x (.tail _ hx)) (by omega)).post ?_
      rintro x l' ⟨rfl, hb⟩
      walk_at "fx*"
      exact ⟨rfl, hb⟩
  · rw [List.concat_eq_append] at *
    rcases List.eq_nil_or_concat C with rfl | ⟨C0, lt, rfl⟩
    · simp at hAC
    rw [List.concat_eq_append] at *
    obtain ⟨ln, lel, lch, les, lcs⟩ := lt
    have h2' : les.length = 2 := by
      obtain ⟨_, q2, q5⟩ := wf.2 (.mk ln lel lch les lcs) (by simp [T_cs])
      rcases Nat.lt_or_ge les.length 3 with h | h
      · simp only [T_es] at q2; omega
      · exact absurd ⟨A0, s, C0, _, rfl, rfl, h⟩ hl
    simp only [List.length_append, List.length_cons, List.length_nil] at hAC h5 h1
    rw [show ((((A0 ++ [s]).length : Nat) : Int) == 0) = false by simp; omega]
    walk_at "fx*"
    have e1 : (((A0 ++ [s]).length : Nat) : Int) - 1 = ((A0.length : Nat) : Int) := by simp
    simp only [e1]
    have eq1 : C0 ++ [T.mk ln lel lch les lcs] ++ T.mk cn cel cch ces ccs :: D = C0 ++ T.mk ln lel lch les lcs :: T.mk cn cel cch ces ccs :: D := by simp
    have eq2 : A0 ++ [s] ++ B = A0 ++ s :: B := by simp
    rw [eq1, eq2] at wf ⊢
    have hx : ((C0 ++ T.mk ln lel lch les lcs :: T.mk cn cel cch ces ccs :: D).map fun t => V.ref t.n)[((A0.length : Int)).toNat]? = some (V.ref ln) := by rw [map_mid]; exact getAt' (by rw [List.length_map]; omega)
    have hln : (ln, nodeO cr lcs.isEmpty lel lch) ∈ objsL cr (C0 ++ T.mk ln lel lch les lcs :: T.mk cn cel cch ces ccs :: D) ++ rest := mem_child (objs_node cr (.mk ln lel lch les lcs))
    refine (t_cowChild (k := Φ.rm) (i := A0.length) led_here (led_there (led_there led_here)) hx (led_there (led_there (led_there hln))) (by omega) (by omega)).post ?_
    rintro x l' ⟨rfl, rfl⟩
    walk_at "fx*"
    simp only [e1]
    refine (t_balM (w := w) (cr := cr) (A := A0) (C := C0) (k := k) (rest := rest) wf (by omega) (by omega) h2' h2 (by omega) (fun x hx => hA x (List.mem_append_left _ hx)) hB (by omega)).post ?_
    rintro x l' ⟨rfl, hb⟩
    walk_at "fx*"
    exact ⟨rfl, hb⟩
/-! ## FXF -/
theorem t_minimum {w : World} {cr : Addr} (h : Nat) : ∀ {t : T} {n : Nat} {l : Led} {k0 : Int} {r : List Int}, Wf h t → 2 ≤ t.es.length → (∀ p ∈ objs cr t, p ∈ l) → keys t = k0 :: r → h + 1 ≤ n →
    Spec (cx w) (.ref 182) [.ref t.n] n l (fun x l' => x = .mem k0 ∧ l' = l) := by
  induction h with
  | zero =>
    intro t n l k0 r wf hz hs hk hn
    obtain ⟨a, el, ch, es, cs⟩ := t
    obtain rfl : cs = [] := wf
    rw [keys_leaf] at hk
    subst hk
    have h1 := hs _ (objs_node cr _)
    have h2 := hs _ (objs_elts cr _)
    refine Spec.fn' (by omega) [("self", .ref a)] [] (ho := (rfl : (cx w).K.lookup 182 = some ⟨_, _, .func (fnX _ _ _ _ _ [] .none _ _ _ _ _ _), _⟩)) (by kernel_rfl) rfl rfl rfl rfl rfl (by decide) rfl rfl ?_
    intro Φ hsc hrm
    change (a, nodeO cr true el ch) ∈ l at h1
    change (el, O.list ((k0 :: r).map .mem)) ∈ l at h2
    have hx : ((k0 :: r).map V.mem)[(0 : Int).toNat]? = some (.mem k0) := rfl
    refine WSs.ite ?_
    walk_at "fx*"
    exact ⟨rfl, rfl⟩
  | succ h ih =>
    intro t n l k0 r wf hz hs hk hn
    obtain ⟨a, el, ch, es, cs⟩ := t
    have hlf : cs.isEmpty = false := wf.lf
    match cs, wf with
    | c :: C, wf =>
    have h1 := hs _ (objs_node cr _)
    have h2 := hs _ (objs_ch cr _)
    change (a, nodeO cr false el ch) ∈ l at h1
    change (ch, O.list ((c :: C).map fun t => V.ref t.n)) ∈ l at h2
    have hx : ((c :: C).map fun t => V.ref t.n)[(0 : Int).toNat]? = some (.ref c.n) := rfl
    obtain ⟨wc, hc2, hc5⟩ := wf.2 c (.head _)
    have hsc' : ∀ p ∈ objs cr c, p ∈ l := fun p hp => hs p (by rw [objs_mk, objsL_cons]; exact .tail _ (.tail _ (.tail _ (List.mem_append_left _ hp))))
    have hcn := hsc' _ (objs_node cr c)
    have hkc : ∃ r', keys c = k0 :: r' := by
      have hl := wf.1
      simp only [T_cs, T_es, List.length_cons] at hl
      have := keys_mk (n := a) (el := el) (ch := ch) (A := []) (B := es) (C := []) (D := C) (c := c) rfl (by omega)
      rw [List.nil_append, List.nil_append, kl_nil, List.nil_append, hk] at this
      have hne : keys c ≠ [] := fun e => by
        have := (es_sub wc).length_le
        rw [e] at this
        simp at this; rw [this] at hc2; simp at hc2
      match keys c, this, hne with
      | k1 :: r', this, _ => simp at this; exact ⟨r', by rw [this.1]⟩
    obtain ⟨r', hkc⟩ := hkc
    refine Spec.fn' (by omega) [("self", .ref a)] [] (ho := (rfl : (cx w).K.lookup 182 = some ⟨_, _, .func (fnX _ _ _ _ _ [] .none _ _ _ _ _ _), _⟩)) (by kernel_rfl) rfl rfl rfl rfl rfl (by decide) rfl rfl ?_
    intro Φ hsc hrm
    refine WSs.ite ?_
    walk_at "fx*"
    refine (ih wc hc2 hsc' hkc (by omega)).post ?_
    rintro x l' ⟨rfl, rfl⟩
    exact ⟨rfl, rfl⟩
theorem t_get {w : World} {cr : Addr} (h : Nat) : ∀ {t : T} {n : Nat} {l : Led} {k : Int}, Wf h t → t.es.length ≤ 5 → Srt (keys t) → (∀ p ∈ objs cr t, p ∈ l) → h + 4 ≤ n →
    Spec (cx w) (.ref 126) [.ref t.n, .int k] n l (fun x l' => x = (if k ∈ keys t then .mem k else .none) ∧ l' = l) := by
  induction h using Nat.strongRecOn with
  | _ h ih =>
  intro t n l k wf hz srt hs hn
  obtain ⟨a, el, ch, es, cs⟩ := t
  have hes : Srt es := es_srt wf srt
  have h1 := hs _ (objs_node cr _)
  have h2 := hs _ (objs_elts cr _)
  have h3 := hs _ (objs_ch cr _)
  change (a, nodeO cr cs.isEmpty el ch) ∈ l at h1
  change (el, O.list (es.map .mem)) ∈ l at h2
  change (ch, O.list (cs.map fun t => V.ref t.n)) ∈ l at h3
  simp only [T_es] at hz
  refine Spec.fn' (by omega) [("self", .ref a), ("key", .int k), ("i", .unb), ("equal", .unb)] ["i", "equal"] (ho := (rfl : (cx w).K.lookup 126 = some ⟨_, _, .func (fnX _ _ _ _ _ [] .none _ _ _ _ _ _), _⟩)) (by kernel_rfl) rfl rfl rfl rfl rfl (by decide) rfl rfl ?_
  intro Φ hsc hrm
  walk_at "fx*"
  refine (t_search h1 h2 hes (by omega) (by omega)).post ?_
  rintro x l' ⟨rfl, A, B, b, rfl, rfl, hA, hB1, hB2⟩
  walk_at "fx*"
  refine WSs.ite ?_
  walk_at "fx*"
  have hA5 : A.length + B.length ≤ 5 := by rw [List.length_append] at hz; omega
  cases b with
  | true =>
    obtain ⟨B, rfl⟩ := hB1 rfl
    have hx : ((A ++ k :: B).map V.mem)[((A.length : Int)).toNat]? = some (.mem k) := getAtM rfl
    walk_at "fx*"
    exact ⟨by rw [if_pos ((es_sub wf).subset (by simp [T_es]))], rfl⟩
  | false =>
    have hB := hB2 rfl
    walk_at "fx*"
    refine WSs.ite ?_
    walk_at "fx*"
    cases h with
    | zero =>
      obtain rfl : cs = [] := wf
      rw [show ([] : List T).isEmpty = true from rfl]
      walk_at "fx*"
      refine ⟨?_, rfl⟩
      rw [keys_leaf, if_neg]
      intro hm
      rcases List.mem_append.mp hm with hm | hm
      · have := hA _ hm; omega
      · have := hB _ hm; omega
    | succ h =>
      obtain ⟨C, c, D, rfl, hAC, hDB⟩ := split_at wf.1 (rfl : (A ++ B) = A ++ B)
      have hlf : (C ++ c :: D).isEmpty = false := wf.lf
      rw [hlf] at h1 ⊢
      have hx : ((C ++ c :: D).map fun t => V.ref t.n)[((A.length : Int)).toNat]? = some (V.ref c.n) := by rw [map_mid]; exact getAt' (by rw [List.length_map]; omega)
      obtain ⟨wfc, hc2, hc5⟩ := wf.2 c (List.mem_append_right _ (.head _))
      have hsc' : ∀ p ∈ objs cr c, p ∈ l' := fun p hp => hs p (by rw [objs_mk, objsL_append, objsL_cons]; exact .tail _ (.tail _ (.tail _ (List.mem_append_right _ (List.mem_append_left _ hp)))))
      have hcn := hsc' _ (objs_node cr c)
      have hkeys := keys_mk (n := a) (el := el) (ch := ch) (c := c) hAC hDB
      rw [hkeys] at srt ⊢
      have hL : ∀ x ∈ kl A C, x < k := kl_lt hAC (by rw [List.append_assoc] at srt; exact srt) hA
      have hR : ∀ x ∈ kr B D, k < x := kr_gt hDB.symm srt hB
      walk_at "fx*"
      refine (ih h (by omega) (k := k) wfc hc5 (List.pairwise_append.mp (List.pairwise_append.mp srt).1).2.1 hsc' (by omega)).post ?_
      rintro x l' ⟨rfl, rfl⟩
      refine ⟨?_, rfl⟩
      have e : k ∈ kl A C ++ keys c ++ kr B D ↔ k ∈ keys c := by
        simp only [List.mem_append]
        constructor
        · rintro ((h | h) | h)
          · have := hL k h; omega
          · exact h
          · have := hR k h; omega
        · exact fun h => .inl (.inr h)
      simp only [e]
/-- the place of a key -/
def Focus (cr : Addr) (h : Nat) (t : T) (k : Int) (n' : Addr) (i : V) : Prop := ∃ el' ch' lf A B R X Y, i = .int (A.length : Nat) ∧ A.length + B.length ≤ 5 ∧ (n', nodeO cr lf el' ch') ∈ R ∧ (∀ p, cnt p (objs cr t) = one p (el', .list ((A ++ k :: B).map .mem)) + cnt p R) ∧ keys t = X ++ k :: Y ∧
  ∀ j, ∃ t'', t''.n = t.n ∧ Wf h t'' ∧ t''.es.length = t.es.length ∧ keys t'' = X ++ j :: Y ∧ ∀ p, cnt p (objs cr t'') = one p (el', .list ((A ++ j :: B).map .mem)) + cnt p R
theorem focus_here {cr h a el ch A B cs k} (wf : Wf h (.mk a el ch (A ++ k :: B) cs)) (hz : (A ++ k :: B).length ≤ 5) : Focus cr h (.mk a el ch (A ++ k :: B) cs) k a (.int (A.length : Nat)) := by
  have hk : ∃ X Y, ∀ j, keys (.mk a el ch (A ++ j :: B) cs) = X ++ j :: Y := by
    cases h with
    | zero =>
      obtain rfl : cs = [] := wf
      exact ⟨A, B, fun j => keys_leaf ..⟩
    | succ h =>
      obtain ⟨C, c, D, rfl, hAC, hDB⟩ := split_at wf.1 (rfl : (A ++ k :: B) = A ++ k :: B)
      match D, hDB with
      | d :: D, hDB =>
        refine ⟨kl A C ++ keys c, keys d ++ kr B D, fun j => ?_⟩
        rw [keys_mk hAC (by simpa using hDB), kr_cons]
        simp
  obtain ⟨X, Y, hk⟩ := hk
  refine ⟨el, ch, cs.isEmpty, A, B, (a, nodeO cr cs.isEmpty el ch) :: (ch, .list (cs.map fun t => V.ref t.n)) :: objsL cr cs, X, Y, rfl, by simp at hz; omega, .head _, fun p => ?_, hk k, fun j => ⟨.mk a el ch (A ++ j :: B) cs, rfl, ?_, by simp [T_es], hk j, fun p => ?_⟩⟩
  · rw [objs_mk]; simp only [cnt_cons]; omega
  · cases h with
    | zero => exact wf
    | succ h => exact ⟨by have := wf.1; simp only [T_cs, T_es, List.length_append, List.length_cons] at this ⊢; omega, wf.2⟩
  · rw [objs_mk]; simp only [cnt_cons]; omega
theorem focus_child {cr h a el ch A B C D c k n' i} (wf : Wf (h + 1) (.mk a el ch (A ++ B) (C ++ c :: D))) (hAC : A.length = C.length) (hDB : D.length = B.length) (f : Focus cr h c k n' i) : Focus cr (h + 1) (.mk a el ch (A ++ B) (C ++ c :: D)) k n' i := by
  obtain ⟨el', ch', lf, A', B', R, X, Y, rfl, hz, hm, hc, hk, hj⟩ := f
  obtain ⟨wc, hc2, hc5⟩ := wf.2 c (List.mem_append_right _ (.head _))
  have h1 : ∀ x : T, (C ++ x :: D).isEmpty = false := fun x => by simp
  refine ⟨el', ch', lf, A', B', (a, nodeO cr false el ch) :: (el, .list ((A ++ B).map .mem)) :: (ch, .list ((C ++ c :: D).map fun t => V.ref t.n)) :: (objsL cr C ++ R ++ objsL cr D), kl A C ++ X, Y ++ kr B D, rfl, hz, ?_, fun p => ?_, ?_, fun j => ?_⟩
  · exact .tail _ (.tail _ (.tail _ (List.mem_append_left _ (List.mem_append_right _ hm))))
  · rw [objs_mk, h1, objsL_append, objsL_cons]
    simp only [cnt_cons, cnt_append, hc]
    omega
  · rw [keys_mk hAC hDB, hk]; simp
  · obtain ⟨t'', e1, w'', e2, e3, e4⟩ := hj j
    refine ⟨.mk a el ch (A ++ B) (C ++ t'' :: D), rfl, wf_child wf w'' (by omega) (by omega), rfl, ?_, fun p => ?_⟩
    · rw [keys_mk hAC hDB, e3]; simp
    · have hm : (C ++ t'' :: D).map (fun t => V.ref t.n) = (C ++ c :: D).map (fun t => V.ref t.n) := by simp [e1]
      rw [objs_mk, h1, objsL_append, objsL_cons, hm]
      simp only [cnt_cons, cnt_append, e4]
      omega
theorem t_getNode {w : World} {cr : Addr} (h : Nat) : ∀ {t : T} {n : Nat} {l : Led} {k : Int}, Wf h t → t.es.length ≤ 5 → Srt (keys t) → k ∈ keys t → (∀ p ∈ objs cr t, p ∈ l) → h + 4 ≤ n →
    Spec (cx w) (.ref 119) [.ref t.n, .int k] n l (fun x l' => l' = l ∧ ∃ n' i, x = .tup [.ref n', i] ∧ Focus cr h t k n' i) := by
  induction h using Nat.strongRecOn with
  | _ h ih =>
  intro t n l k wf hz srt hkm hs hn
  obtain ⟨a, el, ch, es, cs⟩ := t
  have hes : Srt es := es_srt wf srt
  have h1 := hs _ (objs_node cr _)
  have h2 := hs _ (objs_elts cr _)
  have h3 := hs _ (objs_ch cr _)
  change (a, nodeO cr cs.isEmpty el ch) ∈ l at h1
  change (el, O.list (es.map .mem)) ∈ l at h2
  change (ch, O.list (cs.map fun t => V.ref t.n)) ∈ l at h3
  simp only [T_es] at hz
  refine Spec.fn' (by omega) [("self", .ref a), ("key", .int k), ("i", .unb), ("equal", .unb), ("child", .unb)] ["i", "equal", "child"] (ho := (rfl : (cx w).K.lookup 119 = some ⟨_, _, .func (fnX _ _ _ _ _ [] .none _ _ _ _ _ _), _⟩)) (by kernel_rfl) rfl rfl rfl rfl rfl (by decide) rfl rfl ?_
  intro Φ hsc hrm
  walk_at "fx*"
  refine (t_search h1 h2 hes (by omega) (by omega)).post ?_
  rintro x l' ⟨rfl, A, B, b, rfl, rfl, hA, hB1, hB2⟩
  walk_at "fx*"
  refine WSs.ite ?_
  walk_at "fx*"
  have hA5 : A.length + B.length ≤ 5 := by rw [List.length_append] at hz; omega
  cases b with
  | true =>
    obtain ⟨B, rfl⟩ := hB1 rfl
    walk_at "fx*"
    exact ⟨rfl, a, _, rfl, focus_here wf hz⟩
  | false =>
    have hB := hB2 rfl
    walk_at "fx*"
    refine WSs.ite ?_
    walk_at "fx*"
    cases h with
    | zero =>
      obtain rfl : cs = [] := wf
      rw [keys_leaf] at hkm
      rcases List.mem_append.mp hkm with hm | hm
      · have := hA _ hm; omega
      · have := hB _ hm; omega
    | succ h =>
      obtain ⟨C, c, D, rfl, hAC, hDB⟩ := split_at wf.1 (rfl : (A ++ B) = A ++ B)
      have hlf : (C ++ c :: D).isEmpty = false := wf.lf
      rw [hlf] at h1 ⊢
      have hx : ((C ++ c :: D).map fun t => V.ref t.n)[((A.length : Int)).toNat]? = some (V.ref c.n) := by rw [map_mid]; exact getAt' (by rw [List.length_map]; omega)
      obtain ⟨wfc, hc2, hc5⟩ := wf.2 c (List.mem_append_right _ (.head _))
      have hsc' : ∀ p ∈ objs cr c, p ∈ l' := fun p hp => hs p (by rw [objs_mk, objsL_append, objsL_cons]; exact .tail _ (.tail _ (.tail _ (List.mem_append_right _ (List.mem_append_left _ hp)))))
      have hcn := hsc' _ (objs_node cr c)
      have hkeys := keys_mk (n := a) (el := el) (ch := ch) (c := c) hAC hDB
      rw [hkeys] at srt hkm
      have hL : ∀ x ∈ kl A C, x < k := kl_lt hAC (by rw [List.append_assoc] at srt; exact srt) hA
      have hR : ∀ x ∈ kr B D, k < x := kr_gt hDB.symm srt hB
      walk_at "fx*"
      refine (t_cowChild (k := Φ.rm) (i := A.length) h1 h3 hx hcn (by omega) (by omega)).post ?_
      rintro x l' ⟨rfl, rfl⟩
      walk_at "fx*"
      have hkc : k ∈ keys c := by
        simp only [List.mem_append] at hkm
        rcases hkm with (h | h) | h
        · have := hL k h; omega
        · exact h
        · have := hR k h; omega
      refine (ih h (by omega) (k := k) wfc hc5 (List.pairwise_append.mp (List.pairwise_append.mp srt).1).2.1 hkc hsc' (by omega)).post ?_
      rintro x l' ⟨rfl, n', i, rfl, f⟩
      exact ⟨rfl, n', i, rfl, focus_child wf hAC hDB f⟩
/-! ## FXG -/
theorem WB.mono {c : Cx} {Φ : Fx} {env : Env} {ρ : Loc} {l : Led} {e : PySem.Expr} {Q Q' : Bool → Led → Prop} (h : WB c Φ env ρ l e Q) (hq : ∀ x l', Q x l' → Q' x l') : WB c Φ env ρ l e Q' :=
  ⟨fun ok I s F => wpull (h.run ok I s F) fun _ _ ⟨l', J, a, b, q⟩ => ⟨l', J, a, b, hq _ _ q⟩⟩
theorem srt_uniq {A B A' B' : List Int} {k : Int} (hs : Srt (A ++ k :: B)) (e : A ++ k :: B = A' ++ k :: B') : A' = A ∧ B' = B := by
  have hs' := hs
  rw [e] at hs'
  have hA' : ∀ a ∈ A', a < k := fun a ha => (List.pairwise_append.mp hs').2.2 a ha k (.head _)
  obtain ⟨rfl, h, _⟩ := uniqYes (b := true) e hs hA' (fun _ => ⟨B', rfl⟩) (by simp)
  exact ⟨rfl, by simpa using h⟩
theorem Spec.postS {c : Cx} {f : Value} {xs : List V} {n : Nat} {l : Led} {Q Q' : V → Led → Prop} (h : Spec c f xs n l Q') (k : ∀ x l', Q' x l' → ∃ l₂, LSub l₂ l' ∧ Q x l₂) : Spec c f xs n l Q := by
  intro Φ A ρ I s vs ok hA hr F S
  refine codeAny_mono (h Φ A ρ I s vs ok hA hr F S) ?_
  rintro r s' ⟨v, rfl, x, l', I', sb, F', Sx, q⟩
  obtain ⟨l₂, hl, q'⟩ := k x l' q
  exact ⟨v, rfl, x, l₂, I', sb, F'.sub hl, Sx, q'⟩
set_option maxHeartbeats 2000000 in
theorem t_delete {w : World} {cr : Addr} (h : Nat) : ∀ {t : T} {k : Int} {n : Nat} {pv : V} {rest : Led}, Wf h t → Srt (keys t) → t.es.length ≤ 5 → (0 < h → 1 ≤ t.es.length) → (pv = .none ∨ (∃ p, pv = .ref p) ∧ 3 ≤ t.es.length) → 2 * h + 12 ≤ n →
    Spec (cx w) (.ref 203) [.ref t.n, .int k, pv, .none] n (objs cr t ++ rest) (fun x l' => ∃ t', x = (if k ∈ keys t then .mem k else .none) ∧ LSub (objs cr t' ++ rest) l' ∧ t'.n = t.n ∧ Wf h t' ∧ keys t' = del k (keys t) ∧ t.es.length ≤ t'.es.length + 1 ∧ t'.es.length ≤ t.es.length) := by
  induction h using Nat.strongRecOn with
  | _ h ih =>
  intro t k n pv rest wf srt hz hz1 hpv hn
  obtain ⟨a, el, ch, es, cs⟩ := t
  simp only [T_n]
  simp only [T_es] at hz hz1 hpv ⊢
  rw [objs_led]
  have hes : Srt es := es_srt wf srt
  have hpu : pv ≠ .unb := by rcases hpv with rfl | ⟨⟨p, rfl⟩, _⟩ <;> nofun
  refine Spec.fn' (by omega) [("self", .ref a), ("key", .int k), ("parent", pv), ("exact", .none), ("i", .unb), ("equal", .unb), ("original_key", .unb), ("least_successor", .unb), ("child", .unb), ("elt", .unb), ("node", .unb), ("oelt", .unb)] ["i", "equal", "original_key", "least_successor", "child", "elt", "node", "oelt"] (ho := (rfl : (cx w).K.lookup 203 = some ⟨_, _, .func (fnX _ _ _ _ _ [] .none _ _ _ _ _ _), _⟩)) (by kernel_rfl) rfl rfl rfl rfl rfl (by decide) rfl rfl ?_
  intro Φ hsc hrm
  refine WSs.assert ?_
  refine WB.mono (Q := fun b l' => b = true ∧ l' = (a, nodeO cr cs.isEmpty el ch) :: (el, .list (es.map .mem)) :: (ch, .list (cs.map fun t => V.ref t.n)) :: (objsL cr cs ++ rest)) ?_ ?_
  · rcases hpv with rfl | ⟨⟨p, rfl⟩, h3⟩
    · walk_at "fx*"
      exact rfl
    · walk_at "fx*"
      exact rfl
  rintro b l' ⟨rfl, rfl⟩
  refine ⟨rfl, ?_⟩
  walk_at "fx*"
  refine (t_search led_here (led_there led_here) hes (by omega) (by omega)).post ?_
  rintro x l' ⟨rfl, A, B, b, rfl, rfl, hA, hB1, hB2⟩
  walk_at "fx*"
  have hA5 : A.length + B.length ≤ 5 := by rw [List.length_append] at hz; omega
  have hbv : b = true → k ∈ keys (.mk a el ch (A ++ B) cs) := fun hb => by
    obtain ⟨B', rfl⟩ := hB1 hb
    exact (es_sub wf).subset (by simp [T_es])
  refine WSs.iteJ (fun ρ' l' => l' = (a, nodeO cr cs.isEmpty el ch) :: (el, .list ((A ++ B).map .mem)) :: (ch, .list (cs.map fun t => V.ref t.n)) :: (objsL cr cs ++ rest) ∧
    ∃ A' B' K orig v1 v2, ρ' = ([("self", .ref a), ("key", .int K), ("parent", pv), ("exact", .none), ("i", .int (A'.length : Nat)), ("equal", v1), ("original_key", orig), ("least_successor", v2), ("child", .unb), ("elt", .unb), ("node", .unb), ("oelt", .unb)] : Loc) ∧
      A ++ B = A' ++ B' ∧ (∀ x ∈ A', x < K) ∧ (∀ x ∈ B', K < x) ∧ (orig = .none ∧ K = k ∨ orig = .int k ∧ 0 < h ∧ ∃ X Y, keys (.mk a el ch (A ++ B) cs) = X ++ k :: K :: Y)) ?_ ?_
  · walk_at "fx*"
    cases b with
    | true =>
      obtain ⟨B, rfl⟩ := hB1 rfl
      walk_at "fx*"
      refine WSs.ite ?_
      walk_at "fx*"
      refine WSs.ite ?_
      walk_at "fx*"
      cases h with
      | zero =>
        obtain rfl : cs = [] := wf
        rw [show ([] : List T).isEmpty = true from rfl]
        rw [map_mid]
        walk_at "fx*"
        refine x_popAt (a := el) (i := (A.length : Int)) (xs := A.map .mem) (y := V.mem k) (zs := B.map .mem) (by simp) (by walk_at "fx upd") (by simp at hA5 ⊢; omega) ?_
        rw [keys_leaf] at srt
        refine ⟨.mk a el ch (A ++ B) [], by rw [if_pos (hbv rfl)], ?_, rfl, rfl, ?_, by simp [T_es]; omega, by simp [T_es]⟩
        · rw [objs_led, List.map_append]; exact .refl _
        · rw [keys_leaf, keys_leaf, del_at srt]
      | succ h =>
        obtain ⟨C, c, D, rfl, hAC, hDB⟩ := split_at wf.1 (rfl : (A ++ k :: B) = A ++ k :: B)
        match D, hDB, hB1, hB2 with
        | d :: D, hDB, _, _ =>
        have hlf : (C ++ c :: d :: D).isEmpty = false := wf.lf
        rw [hlf]
        obtain ⟨wd, hd2, hd5⟩ := wf.2 d (by simp [T_cs])
        have hx : ((C ++ c :: d :: D).map fun t => V.ref t.n)[((A.length : Int) + 1).toNat]? = some (V.ref d.n) := by
          rw [show C ++ c :: d :: D = (C ++ [c]) ++ d :: D by simp, map_mid, show (A.length : Int) + 1 = ((A.length + 1 : Nat) : Int) by omega]
          exact getAt' (by simp; omega)
        have hsd : ∀ p ∈ objs cr d, p ∈ objsL cr (C ++ c :: d :: D) ++ rest := by
          intro p hp
          rw [show C ++ c :: d :: D = (C ++ [c]) ++ d :: D by simp]
          exact mem_child hp
        have hdn := hsd _ (objs_node cr d)
        have hkeys := keys_mk (n := a) (el := el) (ch := ch) (c := c) hAC hDB
        rw [kr_cons] at hkeys
        have hne : keys d ≠ [] := fun e => by
          have := (es_sub wd).length_le
          rw [e] at this
          simp at this; rw [this] at hd2; simp at hd2
        obtain ⟨K, r, hK⟩ := List.exists_cons_of_ne_nil hne
        rw [hK] at hkeys
        have hs2 := srt
        rw [hkeys] at hs2
        have hs3 := (List.pairwise_append.mp hs2).2.1
        rw [List.cons_append] at hs3
        have hkK : k < K := (List.pairwise_cons.mp hs3).1 K (by simp)
        walk_at "fx*"
        refine (t_minimum (w := w) (cr := cr) h wd hd2 (fun p hp => led_there (led_there (led_there (hsd p hp)))) hK (by omega)).post ?_
        rintro x l' ⟨rfl, rfl⟩
        walk_at "fx*"
        refine ⟨rfl, A ++ [k], B, K, .int k, .bool true, .mem K, ?_, by simp, ?_, ?_, .inr ⟨rfl, by omega, kl A C ++ keys c, r ++ kr B D, ?_⟩⟩
        · simp
        · intro x hx
          rcases List.mem_append.mp hx with hx | hx
          · have := hA x hx; omega
          · simp at hx; omega
        · intro x hx
          have := es_kr (C := D) (by simpa using hDB.symm) x hx
          exact (List.pairwise_cons.mp (List.pairwise_cons.mp hs3).2).1 x (List.mem_append_right _ this)
        · rw [hkeys]; simp
    | false =>
      walk_at "fx*"
      exact ⟨rfl, A, B, k, .none, _, _, rfl, rfl, hA, hB2 rfl, .inl ⟨rfl, rfl⟩⟩
  rintro ρ' l' ⟨rfl, A', B', K, orig, v1, v2, rfl, he, hA', hB', ho⟩
  have hou : orig ≠ .unb := by rcases ho with ⟨rfl, _⟩ | ⟨rfl, _⟩ <;> nofun
  refine WSs.ite ?_
  walk_at "fx*"
  cases h with
  | zero =>
    obtain rfl : cs = [] := wf
    rcases ho with ⟨rfl, rfl⟩ | ⟨_, h, _⟩
    · rw [show ([] : List T).isEmpty = true from rfl]
      walk_at "fx*"
      refine WSs.ite ?_
      walk_at "fx*"
      have hno : K ∉ keys (.mk a el ch (A ++ B) []) := by
        rw [keys_leaf, he]
        intro hm
        rcases List.mem_append.mp hm with hm | hm
        · have := hA' _ hm; omega
        · have := hB' _ hm; omega
      exact ⟨.mk a el ch (A ++ B) [], by rw [if_neg hno], by rw [objs_led]; exact .refl _, rfl, rfl, (del_no hno).symm, by simp [T_es], by simp [T_es]⟩
    · exact absurd h (by decide)
  | succ h =>
    generalize hes' : A ++ B = es at *
    subst he
    obtain ⟨C, c, D, rfl, hAC, hDB⟩ := split_at wf.1 (rfl : (A' ++ B') = A' ++ B')
    obtain ⟨cn, cel, cch, ces, ccs⟩ := c
    have hlf : (C ++ .mk cn cel cch ces ccs :: D).isEmpty = false := wf.lf
    rw [hlf]
    have hx : ((C ++ .mk cn cel cch ces ccs :: D).map fun t => V.ref t.n)[((A'.length : Int)).toNat]? = some (V.ref cn) := by rw [map_mid]; exact getAt' (by rw [List.length_map]; omega)
    obtain ⟨wfc, hc2, hc5⟩ := wf.2 (.mk cn cel cch ces ccs) (List.mem_append_right _ (.head _))
    simp only [T_es] at hc2 hc5
    have hcn : (cn, nodeO cr ccs.isEmpty cel cch) ∈ objsL cr (C ++ .mk cn cel cch ces ccs :: D) ++ rest := mem_child (objs_node cr (.mk cn cel cch ces ccs))
    have hce : (cel, O.list (ces.map .mem)) ∈ objsL cr (C ++ .mk cn cel cch ces ccs :: D) ++ rest := mem_child (objs_elts cr (.mk cn cel cch ces ccs))
    rw [List.length_append] at hz hz1
    walk_at "fx*"
    refine (t_cowChild (k := Φ.rm) (i := A'.length) led_here (led_there (led_there led_here)) hx (led_there (led_there (led_there hcn))) (by omega) (by omega)).post ?_
    rintro x l' ⟨rfl, rfl⟩
    walk_at "fx*"
    refine WSs.iteJ (fun ρ' l' => ∃ A2 B2 C2 c2 D2 v2 v3 v4, ρ' = ([("self", .ref a), ("key", .int K), ("parent", pv), ("exact", .none), ("i", v3), ("equal", v4), ("original_key", orig), ("least_successor", v2), ("child", .ref c2.n), ("elt", .unb), ("node", .unb), ("oelt", .unb)] : Loc) ∧
      LSub (objs cr (.mk a el ch (A2 ++ B2) (C2 ++ c2 :: D2)) ++ rest) l' ∧ A2.length = C2.length ∧ D2.length = B2.length ∧ Wf (h + 1) (.mk a el ch (A2 ++ B2) (C2 ++ c2 :: D2)) ∧ keys (.mk a el ch (A2 ++ B2) (C2 ++ c2 :: D2)) = keys (.mk a el ch (A' ++ B') (C ++ .mk cn cel cch ces ccs :: D)) ∧
      (∀ x ∈ A2, x < K) ∧ (∀ x ∈ B2, K < x) ∧ 3 ≤ c2.es.length ∧ (A' ++ B').length ≤ (A2 ++ B2).length + 1 ∧ (A2 ++ B2).length ≤ (A' ++ B').length) ?_ ?_
    · walk_at "fx*"
      refine ite_or (fun h2 => ?_) (fun h2 => ?_)
      · simp only [List.length_map, decide_eq_true_eq] at h2
        walk_at "fx*"
        refine Spec.use (t_balance (w := w) (cr := cr) (h := h) (k := K) (rest := rest) wf hAC hDB srt h2 (by rw [List.length_append]; exact hz1 (by omega)) (by rw [List.length_append]; omega) hA' hB' (by omega)) (by rw [objs_led, hlf]; exact .refl _) ?_
        rintro x l' ⟨rfl, A2, B2, C2, c2, D2, hl2, q1, q2, w2, k2, a2, b2, n3, n4, n5⟩
        walk_at "fx*"
        have hlf2 : (C2 ++ c2 :: D2).isEmpty = false := by simp
        have m1 : (a, nodeO cr false el ch) ∈ l' := hl2.mem (by rw [objs_led, hlf2]; exact led_here)
        have m2 : (el, O.list ((A2 ++ B2).map .mem)) ∈ l' := hl2.mem (by rw [objs_led, hlf2]; exact led_there led_here)
        have m3 : (ch, O.list ((C2 ++ c2 :: D2).map fun t => V.ref t.n)) ∈ l' := hl2.mem (by rw [objs_led, hlf2]; exact led_there (led_there led_here))
        have m4 : (c2.n, nodeO cr c2.lf c2.el c2.ch) ∈ l' := hl2.mem (by rw [objs_led, hlf2]; exact led_there (led_there (led_there (mem_child (objs_node cr c2)))))
        have m5 : (c2.el, O.list (c2.es.map .mem)) ∈ l' := hl2.mem (by rw [objs_led, hlf2]; exact led_there (led_there (led_there (mem_child (objs_elts cr c2)))))
        have srt2 : Srt (A2 ++ B2) := es_srt w2 (by rw [k2]; exact srt)
        have hx2 : ((C2 ++ c2 :: D2).map fun t => V.ref t.n)[((A2.length : Int)).toNat]? = some (V.ref c2.n) := by rw [map_mid]; exact getAt' (by rw [List.length_map]; omega)
        have hA5' : A2.length ≤ 5 := by simp only [List.length_append] at n5; omega
        obtain ⟨wc2, hd2, hd5⟩ := w2.2 c2 (List.mem_append_right _ (.head _))
        walk_at "fx*"
        refine (t_searchNo (k := Φ.rm) m1 m2 srt2 (by have := n5; simp only [List.length_append] at this ⊢; omega) a2 b2 (by omega)).post ?_
        rintro x l'' ⟨rfl, rfl⟩
        walk_at "fx*"
        exact ⟨A2, B2, C2, c2, D2, _, _, _, rfl, hl2, q1, q2, w2, k2, a2, b2, n3, n4, n5⟩
      · simp only [List.length_map, decide_eq_false_iff_not] at h2
        walk_at "fx*"
        exact ⟨A', B', C, .mk cn cel cch ces ccs, D, _, _, _, rfl, by rw [objs_led, hlf]; exact .refl _, hAC, hDB, wf, rfl, hA', hB', by simp only [T_es]; omega, by omega, by omega⟩
    rintro ρ' l' ⟨A2, B2, C2, c2, D2, v2, v3, v4, rfl, hl2, q1, q2, w2, k2, a2, b2, n3, n4, n5⟩
    have hlf2 : (C2 ++ c2 :: D2).isEmpty = false := by simp
    have m4 : (c2.n, nodeO cr c2.lf c2.el c2.ch) ∈ l' := hl2.mem (by rw [objs_led, hlf2]; exact led_there (led_there (led_there (mem_child (objs_node cr c2)))))
    obtain ⟨wc2, hd2, hd5⟩ := w2.2 c2 (List.mem_append_right _ (.head _))
    have hk2 := keys_mk (n := a) (el := el) (ch := ch) (c := c2) q1 q2
    rw [k2] at hk2
    have srt' := srt
    rw [hk2] at srt'
    have hL : ∀ x ∈ kl A2 C2, x < K := kl_lt q1 (by rw [List.append_assoc] at srt'; exact srt') a2
    have hR : ∀ x ∈ kr B2 D2, K < x := kr_gt q2.symm srt' b2
    have eK : K ∈ kl A2 C2 ++ keys c2 ++ kr B2 D2 ↔ K ∈ keys c2 := by
      simp only [List.mem_append]
      constructor
      · rintro ((h | h) | h)
        · have := hL K h; omega
        · exact h
        · have := hR K h; omega
      · exact fun h => .inl (.inr h)
    walk_at "fx*"
    refine Spec.use (ih h (by omega) (t := c2) (k := K) (pv := .ref a) (n := Φ.rm) (rest := (a, nodeO cr false el ch) :: (el, .list ((A2 ++ B2).map .mem)) :: (ch, .list ((C2 ++ c2 :: D2).map fun t => V.ref t.n)) :: (objsL cr C2 ++ objsL cr D2 ++ rest)) wc2 (List.pairwise_append.mp (List.pairwise_append.mp srt').1).2.1 hd5 (fun _ => by omega) (.inr ⟨⟨a, rfl⟩, n3⟩) (by omega)) (LSub.trans (by refine lsub_of_cnt fun p => ?_; simp only [nodeO, T_n, List.map_append, List.map_cons, List.map_nil, List.map_take, List.map_drop, cnt_cons, cnt_append, cnt_nil, objs_mk, objsL_append, objsL_cons, objsL_nil, List.cons_append, List.nil_append, List.append_assoc, hlf2]; omega) hl2) ?_
    rintro x l'' ⟨c3, hx3, hl3, hn3, w3, k3, n6, n7⟩
    have hxu : x ≠ .unb := by rw [hx3]; split <;> nofun
    have w3' : Wf (h + 1) (.mk a el ch (A2 ++ B2) (C2 ++ c3 :: D2)) := wf_child w2 w3 (by omega) (by omega)
    have hk3 : keys (.mk a el ch (A2 ++ B2) (C2 ++ c3 :: D2)) = del K (keys (T.mk a el ch (A' ++ B') (C ++ T.mk cn cel cch ces ccs :: D))) := by
      rw [keys_mk q1 q2, k3, hk2, del_mid hL hR]
    have hl4 : LSub (objs cr (.mk a el ch (A2 ++ B2) (C2 ++ c3 :: D2)) ++ rest) l'' := by
      refine LSub.trans ?_ hl3
      have hm : (C2 ++ c3 :: D2).map (fun t => V.ref t.n) = (C2 ++ c2 :: D2).map (fun t => V.ref t.n) := by simp [hn3]
      rw [objs_led, hm, show (C2 ++ c3 :: D2).isEmpty = false by simp]
      walk_at "fx sub"
    walk_at "fx*"
    refine WSs.ite ?_
    rcases ho with ⟨rfl, rfl⟩ | ⟨rfl, _, X, Y, hXY⟩
    · walk_at "fx*"
      refine ⟨_, ?_, hl4, rfl, w3', hk3, by simp only [T_es]; exact n4, by simp only [T_es]; exact n5⟩
      rw [hx3, hk2]
      simp only [eK]
    · have hKm : K ∈ keys c2 := by
        rw [← eK, ← hk2, hXY]; simp
      obtain rfl : x = .mem K := by rw [hx3, if_pos hKm]
      rw [hXY] at hk3 srt
      have hXs := List.pairwise_append.mp srt
      have hkK : k < K := (List.pairwise_cons.mp hXs.2.1).1 K (.head _)
      have hk3' : keys (.mk a el ch (A2 ++ B2) (C2 ++ c3 :: D2)) = X ++ k :: Y := by
        rw [hk3, show X ++ k :: K :: Y = (X ++ [k]) ++ K :: Y by simp, del_at (by simpa using srt)]; simp
      have srt3 : Srt (X ++ k :: Y) := by rw [← hk3', hk3]; exact del_srt srt
      walk_at "fx*"
      have m6 : (a, nodeO cr false el ch) ∈ l'' := hl4.mem (by rw [objs_led, show (C2 ++ c3 :: D2).isEmpty = false by simp]; exact led_here)
      walk_at "fx*"
      refine Spec.postS (t_getNode (w := w) (cr := cr) (h + 1) (n := Φ.rm) (k := k) w3' (by have := n5; simp only [T_es, List.length_append] at this ⊢; omega) (by rw [hk3']; exact srt3) (by rw [hk3']; simp) (fun p hp => hl4.mem (List.mem_append_left _ hp)) (by omega)) ?_
      rintro x l₅ ⟨rfl, n', i, rfl, el', ch', lf, A5, B5, R, X5, Y5, rfl, z5, hm5, hc5', hk5, hj⟩
      refine ⟨(el', .list ((A5 ++ k :: B5).map .mem)) :: (R ++ rest), LSub.trans (lsub_of_cnt fun p => by rw [cnt_cons, cnt_append, cnt_append, hc5']; omega) hl4, ?_⟩
      have hn5 : (n', nodeO cr lf el' ch') ∈ R ++ rest := List.mem_append_left _ hm5
      have hx5 : ((A5 ++ k :: B5).map V.mem)[((A5.length : Int)).toNat]? = some (.mem k) := getAtM rfl
      walk_at "fx*"
      refine x_setItem (a := el') (x := V.mem K) (i := (A5.length : Int)) (xs := (A5 ++ k :: B5).map .mem) (ys := (A5 ++ K :: B5).map .mem) (by omega) (by simp; omega) (by simp; omega) (setAtM rfl) (by walk_at "fx upd") ?_
      walk_at "fx*"
      obtain ⟨t4, e4, w4, z4, k4, c4⟩ := hj K
      have hkm : k ∈ keys (T.mk a el ch (A' ++ B') (C ++ T.mk cn cel cch ces ccs :: D)) := by rw [hXY]; simp
      refine ⟨t4, (if_pos hkm).symm, lsub_of_cnt fun p => by rw [cnt_cons, cnt_append, cnt_append, c4]; omega, e4, w4, ?_, by rw [z4]; exact n4, by rw [z4]; exact n5⟩
      have hu := srt_uniq (A' := X5) (B' := Y5) srt3 (by rw [← hk3', hk5])
      rw [k4, hu.1, hu.2, hXY, del_at (by simpa using srt)]
/-! ## FXH -/
section
variable {c : Cx} {l : Led}
theorem x_aug1 {a C : Addr} {fs : List (Str × V)} {x : V} {name : Str} {P : Addr → Addr → V → Prop} (hm : (a, O.inst C fs) ∈ l) (hx : getF name fs = some x) (ho : attrOk c.K C name = true) (hs : storeOk c.K C name = true) (q : P a C x) :
    ∃ a' C' fs' x', V.ref a = .ref a' ∧ (a', O.inst C' fs') ∈ l ∧ getF name fs' = some x' ∧ attrOk c.K C' name = true ∧ storeOk c.K C' name = true ∧ P a' C' x' := ⟨_, _, _, _, rfl, hm, hx, ho, hs, q⟩
theorem x_aug2 {op : Operator} {x z r : V} {R : Prop} {a C : Addr} {fs fs' : List (Str × V)} {name : Str} {l' : Led} {P : Led → Prop} (e : binV op x z = some (r, R)) (hp : R) (U : LUpd a (.inst C fs) (.inst C fs') l l') (hf : setF name r fs = fs') (hl : fs.length ≤ 100) (q : P l') :
    ∃ r' R' C' fs₀ l₃, binV op x z = some (r', R') ∧ R' ∧ LUpd a (.inst C' fs₀) (.inst C' (setF name r' fs₀)) l l₃ ∧ C' = C ∧ fs₀.length ≤ 100 ∧ P l₃ := by subst hf; exact ⟨_, _, _, _, _, e, hp, U, rfl, hl, q⟩
end
local macro_rules | `(tactic| walk_at "fx x") => `(tactic| first
  | (refine' x_aug1 ?k1 ?k2 ?k3 ?k4 ?_; (case k1 => walk_at "fx mem"); (case k2 => walk_at "fx get"); (case k3 => walk_at "fx at"); (case k4 => walk_at "fx st"))
  | (refine' x_aug2 ?k1 ?k2 ?k3 ?k4 ?k5 ?_; (case k1 => rfl); (case k2 => walk_at "fx arith"); (case k3 => walk_at "fx upd"); (case k4 => walk_at "fx set"); (case k5 => exact Nat.le_of_ble_eq_true rfl)))

theorem Spec.fnB' {c : Cx} {l : Led} {Q : V → Led → Prop} {f : Addr} {oc od osl name qual params body scope dV kV doc pm an cdv ct} {xs : List V} {n : Nat} (hn : 1 ≤ n) (ρ : Loc) (us : List Str)
    (ho : c.K.lookup f = some ⟨oc, od, .func (fnX name qual params body scope [] dV kV doc pm an cdv ct), osl⟩) (hcd : codeIn c.K cdv qual = true)
    (hb : ∀ s vs, c.K.In s.heap → vs.length = xs.length → BindsTo s (fnX name qual params body scope [] dV kV doc pm an cdv ct) ⟨vs, []⟩ ((params.args.map (·.arg)).zip vs))
    (hlen : (params.args.map (·.arg)).length = xs.length) (hnd : ((params.args.map (·.arg)) ++ us).Nodup)
    (hρ : ρ = (params.args.map (·.arg)).zip xs ++ us.map fun u => (u, V.unb))
    (hloc : (((params.args.map (·.arg)) ++ us).all fun y => scope.names.lookup y == some .local) = true)
    (h : ∀ Φ : Fx, Φ.scope = scope → Φ.rm + 1 = n → WSs c Φ ρ l body (Back Q))
    (hco : scope.isCoroutine = false := by rfl) (hgen : scope.isGenerator = false := by rfl) (hk : scope.kind = .function := by rfl) (hcell : (scope.names.all fun x => x.2 != .cell) = true := by rfl) : Spec c (.ref f) xs n l Q := by
  obtain ⟨n, rfl⟩ : ∃ k, n = k + 1 := ⟨n - 1, by omega⟩
  exact Spec.fnB ρ us ho hcd hb hlen hnd hρ hloc (fun Φ hs hr => h Φ hs (by omega)) hco hgen hk hcell
theorem sm_key {w : World} : storeOk (cx w).K 479 "_key" = true := by kernel_rfl
/-- a Member is made -/
theorem t_member {w : World} {k : Int} {n : Nat} {l : Led} (hn : 2 ≤ n) : Spec (cx w) (.ref 479) [.int k] n l (fun x l' => x = .mem k ∧ l' = l) := by
  refine Spec.freeze (Spec.cls (by omega) (mk_Member w) (in_Member w) (ty_Member w) fun a => ?_)
  refine Spec.fn' (by omega) [("self", .ref a), ("key", .int k)] [] (ho := (rfl : (cx w).K.lookup 469 = some ⟨_, _, .func (fnX _ _ _ _ _ [] .none _ _ _ _ _ _), _⟩)) (by kernel_rfl) rfl rfl rfl rfl rfl (by decide) rfl rfl ?_
  intro Φ hsc hrm
  walk_at "fx*"
  refine x_set LUpd.head (fs' := [("_key", .int k)]) rfl sm_key (Nat.le_of_ble_eq_true rfl) ?_
  walk_at "fx*"
  exact ⟨rfl, a, k, l, rfl, rfl, rfl, rfl⟩
/-- the state of a cursor -/
structure CS where
  bt : V
  nd : V
  ix : V
  rc : V
  inc : V
  ps : V
  pk : Bool
  key : V
  rd : V
abbrev CS.O (c : CS) : O := .inst 326 (curF c.bt c.nd c.ix c.rc c.inc c.ps (.bool c.pk) c.key c.rd)
def CS.park (c : CS) : CS := { c with pk := true }
theorem t_park {w : World} {a : Addr} {c : CS} {n : Nat} {l : Led} (hn : 1 ≤ n) : Spec (cx w) (.ref 273) [.ref a] n ((a, c.O) :: l) (fun x l' => x = .none ∧ l' = (a, c.park.O) :: l) := by
  obtain ⟨b, nd, ix, rc, inc, ps, pk, key, rd⟩ := c
  refine Spec.fn' (by omega) [("self", .ref a)] [] (ho := (rfl : (cx w).K.lookup 273 = some ⟨_, _, .func (fnX _ _ _ _ _ [] .none _ _ _ _ _ _), _⟩)) (by kernel_rfl) rfl rfl rfl rfl rfl (by decide) rfl rfl ?_
  intro Φ hsc hrm
  refine WSs.ite ?_
  walk_at "fx*"
  cases pk with
  | true =>
    walk_at "fx*"
    exact ⟨rfl, rfl⟩
  | false =>
    walk_at "fx*"
    exact ⟨rfl, rfl⟩
abbrev curs (cs : List (Addr × CS)) : Led := cs.map fun p => (p.1, p.2.O)
abbrev treeO (cr cl root : Addr) (size : Int) : O := .inst 522 (treeF (.ref cr) (.bool false) (.ref cl) (.int 3) (.ref root) (.int size) (.bool false))
abbrev parkAll (cs : List (Addr × CS)) : List (Addr × CS) := cs.map fun p => (p.1, p.2.park)
theorem t_checkPark {w : World} {tr cr cl root : Addr} {size : Int} {cs : List (Addr × CS)} {n : Nat} {l : Led} (hz : cs.length ≤ 100) (hn : 2 ≤ n) :
    Spec (cx w) (.ref 372) [.ref tr] n ((tr, treeO cr cl root size) :: (cl, .list (cs.map fun p => .ref p.1)) :: (curs cs ++ l)) (fun x l' => x = .none ∧ LSub ((tr, treeO cr cl root size) :: (cl, .list (cs.map fun p => .ref p.1)) :: (curs (parkAll cs) ++ l)) l') := by
  refine Spec.fn' (by omega) [("self", .ref tr), ("cursor", .unb)] ["cursor"] (ho := (rfl : (cx w).K.lookup 372 = some ⟨_, _, .func (fnX _ _ _ _ _ [] .none _ _ _ _ _ _), _⟩)) (by kernel_rfl) rfl rfl rfl rfl rfl (by decide) rfl rfl ?_
  intro Φ hsc hrm
  refine WSs.ite ?_
  walk_at "fx*"
  refine WSs.forList (fun i ρ' l' => ∃ v, ρ' = ([("self", .ref tr), ("cursor", v)] : Loc) ∧ l' = (tr, treeO cr cl root size) :: (cl, .list (cs.map fun p => .ref p.1)) :: (curs (parkAll (cs.take i) ++ cs.drop i) ++ l)) ?_
  walk_at "fx*"
  refine ⟨cl, cs.map fun p => .ref p.1, rfl, ⟨_, rfl, by simp⟩, ?_, ?_, ?_⟩
  · rintro i ρ' l' ⟨v, rfl, rfl⟩
    exact led_there led_here
  · rintro i ρ' l' z it ⟨v, rfl, rfl⟩ hz
    rw [List.getElem?_map] at hz
    obtain ⟨p, hp, rfl⟩ := Option.map_eq_some_iff.mp hz
    obtain ⟨hi, hp⟩ := List.getElem?_eq_some_iff.mp hp
    refine ⟨_, PUpd.there PUpd.here, ?_⟩
    have hd : cs.drop i = p :: cs.drop (i + 1) := by rw [List.drop_eq_getElem_cons hi, hp]
    have ht : cs.take (i + 1) = cs.take i ++ [p] := by rw [List.take_succ, List.getElem?_eq_getElem hi, hp]; rfl
    refine WSs.sub (l' := (p.1, p.2.O) :: it :: (tr, treeO cr cl root size) :: (cl, O.list (List.map (fun p => V.ref p.fst) cs)) :: (curs (parkAll (cs.take i) ++ cs.drop (i + 1)) ++ l)) ?_ ?_
    · walk_at "fx*"
      refine (t_park (by omega)).post ?_
      rintro x l' ⟨rfl, rfl⟩
      walk_at "fx*"
      refine ⟨_, ?_, _, rfl, rfl⟩
      rw [ht]
      refine lsub_of_cnt fun p => ?_
      simp only [parkAll, curs, List.map_append, List.map_cons, List.map_nil, cnt_cons, cnt_append, cnt_nil]
      omega
    · rw [hd]
      refine lsub_of_cnt fun p => ?_
      simp only [parkAll, curs, List.map_append, List.map_cons, List.map_nil, cnt_cons, cnt_append, cnt_nil]
      omega
  · rintro ρ' l' ⟨v, rfl, rfl⟩
    refine WSs.nil ⟨rfl, ?_⟩
    simp
    exact .refl _
theorem t_insertElt {w : World} {tr cr cl : Addr} {size k : Int} {h : Nat} {t : T} {cs : List (Addr × CS)} {n : Nat} {l : Led} (hz : cs.length ≤ 100) (wf : Wf h t) (srt : Srt (keys t)) (h5 : t.es.length ≤ 5) (h1 : 0 < h → 1 ≤ t.es.length) (hn : 3 * h + 14 ≤ n) :
    Spec (cx w) (.ref 380) [.ref tr, .mem k, .bool false] n ((tr, treeO cr cl t.n size) :: (cl, .list (cs.map fun p => .ref p.1)) :: (curs cs ++ (objs cr t ++ l))) (fun x l' => ∃ h' t', LSub ((tr, treeO cr cl t'.n (if k ∈ keys t then size else size + 1)) :: (cl, .list (cs.map fun p => .ref p.1)) :: (curs (parkAll cs) ++ (objs cr t' ++ l))) l' ∧
      Wf h' t' ∧ keys t' = ins k (keys t) ∧ t'.es.length ≤ 5 ∧ (0 < h' → 1 ≤ t'.es.length)) := by
  refine Spec.fnB' (by omega) [("self", .ref tr), ("elt", .mem k), ("in_order", .bool false), ("cloned", .unb), ("old_root", .unb), ("oelt", .unb)] ["cloned", "old_root", "oelt"] (ho := (rfl : (cx w).K.lookup 380 = some ⟨_, _, .func (fnX _ _ _ _ _ [] _ _ _ _ _ _ _), _⟩)) (by kernel_rfl) ?_ rfl (by decide) rfl rfl ?_
  · intro s vs X hl
    match vs, hl with
    | [a, b, c], _ => exact binds_K X rfl (rfl : (cx w).K.lookup 373 = some _) rfl rfl rfl
  intro Φ hsc hrm
  walk_at "fx*"
  refine Spec.postS (t_checkPark hz (by omega)) ?_
  rintro x l' ⟨rfl, hl⟩
  refine ⟨_, hl, ?_⟩
  have hrn : (t.n, nodeO cr t.lf t.el t.ch) ∈ curs (parkAll cs) ++ (objs cr t ++ l) := List.mem_append_right _ (List.mem_append_left _ (objs_node cr t))
  have hre : (t.el, O.list (t.es.map .mem)) ∈ curs (parkAll cs) ++ (objs cr t ++ l) := List.mem_append_right _ (List.mem_append_left _ (objs_elts cr t))
  walk_at "fx*"
  refine (t_cow (led_there (led_there hrn)) (by omega)).post ?_
  rintro x l' ⟨rfl, rfl⟩
  walk_at "fx*"
  refine WSs.ite ?_
  walk_at "fx*"
  refine WSs.iteJ (fun ρ' l' => ∃ h' t₁ v, ρ' = ([("self", .ref tr), ("elt", .mem k), ("in_order", .bool false), ("cloned", .none), ("old_root", v), ("oelt", .unb)] : Loc) ∧ LSub ((tr, treeO cr cl t₁.n size) :: (cl, .list (cs.map fun p => .ref p.1)) :: (curs (parkAll cs) ++ (objs cr t₁ ++ l))) l' ∧
    Wf h' t₁ ∧ keys t₁ = keys t ∧ t₁.es.length ≤ 4 ∧ (0 < h' → 1 ≤ t₁.es.length) ∧ h' ≤ h + 1) ?_ ?_
  · walk_at "fx*"
    refine ite_or (fun h5 => ?_) (fun h5 => ?_)
    · simp only [List.length_map, decide_eq_true_eq] at h5
      obtain ⟨a, el, ch, es, ccs⟩ := t
      simp only [T_es] at h5
      obtain ⟨x1, x2, x3, x4, x5, rfl⟩ := five h5
      simp only [T_n] at *
      have hcl : ccs.isEmpty = (h == 0) := wf.lf
      walk_at "fx*"
      refine (t_nodeInit (by omega)).post ?_
      rintro x l' ⟨rn, rel, rch, rfl, rfl⟩
      walk_at "fx*"
      intro it
      walk_at "fx*"
      have hcl6 : ccs.length ≤ 6 := wf.csle (n := 5) (by simp [T_es])
      have he1 : (ccs.take 3).isEmpty = ccs.isEmpty ∧ (ccs.drop 3).isEmpty = ccs.isEmpty := by
        cases h with
        | zero => rw [show ccs = [] from wf]; simp
        | succ h =>
          have := wf.1
          simp only [T_cs, T_es, List.length_cons, List.length_nil] at this
          match ccs, this with
          | [c1, c2, c3, c4, c5, c6], _ => exact ⟨rfl, rfl⟩
      have hsp : objsL cr ccs = objsL cr (ccs.take 3) ++ objsL cr (ccs.drop 3) := by rw [← objsL_append, List.take_append_drop]
      refine Spec.use (t_split (k := Φ.rm) (lf := ccs.isEmpty) (cr := cr) (el := el) (ch := ch) (a := x1) (b := x2) (m := x3) (c := x4) (d := x5) (rs := ccs.map fun t => V.ref t.n) (l := it :: (rch, .list []) :: (rel, .list []) :: (rn, nodeO cr false rel rch) :: (tr, treeO cr cl rn size) :: (cl, .list (cs.map fun p => .ref p.1)) :: (curs (parkAll cs) ++ (objsL cr ccs ++ l))) (by rw [List.length_map]; omega) (by intro e; rw [List.isEmpty_iff.mp e]; rfl) (by omega)) (by refine lsub_of_cnt fun p => ?_; simp only [nodeO, T_n, List.map_append, List.map_cons, List.map_nil, List.map_take, List.map_drop, cnt_cons, cnt_append, cnt_nil, objs_mk, objsL_append, objsL_cons, objsL_nil, List.cons_append, List.nil_append, List.append_assoc, hcl, treeO]; omega) ?_
      rintro x l' ⟨r, rel', rch', el', ch', rfl, hl2⟩
      refine ⟨_, (a, nodeO cr ccs.isEmpty el' ch') :: (el', .list ([x1, x2].map .mem)) :: (ch', .list ((ccs.map fun t => V.ref t.n).take 3)) :: (r, nodeO cr ccs.isEmpty rel' rch') :: (rel', .list ([x4, x5].map .mem)) :: (rch', .list ((ccs.map fun t => V.ref t.n).drop 3)) :: (rch, .list []) :: (rel, .list []) :: (rn, nodeO cr false rel rch) :: (tr, treeO cr cl rn size) :: (cl, .list (cs.map fun p => .ref p.1)) :: (curs (parkAll cs) ++ (objsL cr ccs ++ l)), rfl, Nat.le_of_ble_eq_true rfl, LSub.trans (by refine lsub_of_cnt fun p => ?_; simp only [nodeO, T_n, List.map_append, List.map_cons, List.map_nil, List.map_take, List.map_drop, cnt_cons, cnt_append, cnt_nil, objs_mk, objsL_append, objsL_cons, objsL_nil, List.cons_append, List.nil_append, List.append_assoc, hcl, treeO]; omega) hl2, ?_⟩
      refine Spec.use (t_adopt0 (k := Φ.rm) (cr := cr) (el := rel) (ch := rch) (l := (a, nodeO cr ccs.isEmpty el' ch') :: (el', .list ([x1, x2].map .mem)) :: (ch', .list ((ccs.map fun t => V.ref t.n).take 3)) :: (r, nodeO cr ccs.isEmpty rel' rch') :: (rel', .list ([x4, x5].map .mem)) :: (rch', .list ((ccs.map fun t => V.ref t.n).drop 3)) :: (tr, treeO cr cl rn size) :: (cl, .list (cs.map fun p => .ref p.1)) :: (curs (parkAll cs) ++ (objsL cr ccs ++ l))) (by omega)) (by refine lsub_of_cnt fun p => ?_; simp only [nodeO, T_n, List.map_append, List.map_cons, List.map_nil, List.map_take, List.map_drop, cnt_cons, cnt_append, cnt_nil, objs_mk, objsL_append, objsL_cons, objsL_nil, List.cons_append, List.nil_append, List.append_assoc, hcl, treeO]; omega) ?_
      rintro x l'' ⟨ch2, rfl, hl3⟩
      walk_at "fx*"
      have w0 : Wf (h + 1) (.mk rn rel ch2 [x3] ([] ++ T.mk a el' ch' [x1, x2] (ccs.take 3) :: T.mk r rel' rch' [x4, x5] (ccs.drop 3) :: [])) := by
        have key : Wf (h + 1) (.mk rn rel ch2 ([] ++ []) ([] ++ T.mk a el ch [x1, x2, x3, x4, x5] ccs :: [])) := ⟨rfl, fun c hc => by simp [T_cs] at hc; subst hc; exact ⟨wf, by simp [T_es], by simp [T_es]⟩⟩
        exact wf_split key wf
      refine ⟨h + 1, _, _, rfl, LSub.trans ?_ hl3, w0, ?_, by simp [T_es], by simp [T_es], Nat.le_refl _⟩
      · rw [T_n, List.nil_append]
        exact (by refine lsub_of_cnt fun p => ?_; simp only [nodeO, T_n, List.map_append, List.map_cons, List.map_nil, List.map_take, List.map_drop, cnt_cons, cnt_append, cnt_nil, objs_mk, objsL_append, objsL_cons, objsL_nil, List.cons_append, List.nil_append, List.append_assoc, treeO, hsp, he1.1, he1.2, show ∀ a b : T, [a, b].isEmpty = false from fun _ _ => rfl]; omega)
      · have e1 := keys_mk (n := rn) (el := rel) (ch := ch2) (A := []) (B := [x3]) (C := []) (D := [T.mk r rel' rch' [x4, x5] (ccs.drop 3)]) (c := T.mk a el' ch' [x1, x2] (ccs.take 3)) rfl rfl
        rw [List.nil_append] at e1
        rw [e1, kr_cons, kr_nil, kl_nil, keys_split wf (n' := a) (el' := el') (ch' := ch') (n'' := r) (el'' := rel') (ch'' := rch')]
        simp
    · simp only [List.length_map, decide_eq_false_iff_not] at h5
      walk_at "fx*"
      exact ⟨h, t, _, rfl, .refl _, wf, rfl, by omega, h1, by omega⟩
  rintro ρ' l' ⟨h', t₁, v, rfl, hl1, wf1, hk1, h41, h11, hh⟩
  refine WSs.sub ?_ hl1
  have hrn : (t₁.n, nodeO cr t₁.lf t₁.el t₁.ch) ∈ curs (parkAll cs) ++ (objs cr t₁ ++ l) := List.mem_append_right _ (List.mem_append_left _ (objs_node cr t₁))
  walk_at "fx*"
  refine Spec.postS ((t_insert (w := w) (cr := cr) h' (k := k) (n := Φ.rm) (rest := (tr, treeO cr cl t₁.n size) :: (cl, .list (cs.map fun p => .ref p.1)) :: (curs (parkAll cs) ++ l)) wf1 (by rw [hk1]; exact srt) h41 (by omega)).sub ?_) ?_
  · refine lsub_of_cnt fun p => ?_
    simp only [cnt_cons, cnt_append]; omega
  rintro x l' ⟨t', hx, hl2, hn2, wf2, hk2, z1, z2⟩
  refine ⟨(tr, treeO cr cl t'.n size) :: (cl, .list (cs.map fun p => .ref p.1)) :: (curs (parkAll cs) ++ (objs cr t' ++ l)), ?_, ?_⟩
  · refine LSub.trans ?_ hl2
    rw [hn2]
    refine lsub_of_cnt fun p => ?_
    simp only [cnt_cons, cnt_append]; omega
  rw [hk1] at hx hk2
  by_cases hm : k ∈ keys t
  · rw [if_pos hm] at hx ⊢
    subst hx
    walk_at "fx*"
    refine WSs.ite ?_
    walk_at "fx*"
    exact ⟨h', t', .refl _, wf2, hk2, by omega, fun h0 => by have := h11 h0; omega⟩
  · rw [if_neg hm] at hx ⊢
    subst hx
    walk_at "fx*"
    refine WSs.ite ?_
    walk_at "fx*"
    exact ⟨h', t', .refl _, wf2, hk2, by omega, fun h0 => by have := h11 h0; omega⟩
/-! ## FXI -/
structure TOK (h : Nat) (t : T) : Prop where
  wf : Wf h t
  srt : Srt (keys t)
  h5 : t.es.length ≤ 5
  h1 : 0 < h → 1 ≤ t.es.length
/-- the ledger of a set: the object, the list of its cursors, the cursors, the nodes -/
abbrev setL (tr cr cl : Addr) (size : Int) (as : List Addr) (cs : List (Addr × CS)) (t : T) (l : Led) : Led := (tr, treeO cr cl t.n size) :: (cl, .list (as.map .ref)) :: (curs cs ++ (objs cr t ++ l))
theorem parkAll_fst (cs : List (Addr × CS)) : (parkAll cs).map (·.1) = cs.map (·.1) := by
  unfold parkAll
  rw [List.map_map]
  rfl
theorem length_filter (p : Int → Bool) : ∀ l : List Int, l.length = (l.filter p).length + (l.filter (fun x => !p x)).length
  | [] => rfl
  | a :: l => by
    have := length_filter p l
    rw [List.filter_cons, List.filter_cons]
    cases p a <;> simp <;> omega
theorem t_add {w : World} {tr cr cl : Addr} {k : Int} {h : Nat} {t : T} {cs : List (Addr × CS)} {n : Nat} {l : Led} (hz : cs.length ≤ 100) (ok : TOK h t) (hn : 3 * h + 15 ≤ n) :
    Spec (cx w) (.ref 512) [.ref tr, .int k] n (setL tr cr cl (keys t).length (cs.map (·.1)) cs t l) (fun x l' => x = .none ∧ ∃ h' t', LSub (setL tr cr cl (keys t').length (cs.map (·.1)) (parkAll cs) t' l) l' ∧ TOK h' t' ∧ keys t' = ins k (keys t)) := by
  refine Spec.fn' (by omega) [("self", .ref tr), ("value", .int k), ("elt", .unb)] ["elt"] (ho := (rfl : (cx w).K.lookup 512 = some ⟨_, _, .func (fnX _ _ _ _ _ [] .none _ _ _ _ _ _), _⟩)) (by kernel_rfl) rfl rfl rfl rfl rfl (by decide) rfl rfl ?_
  intro Φ hsc hrm
  refine WSs.assign (WE.callName (g_Member w) (by rw [hsc]; rfl) (k_Member w) ?_)
  walk_at "fx*"
  refine (t_member (by omega)).post ?_
  rintro x l' ⟨rfl, rfl⟩
  walk_at "fx*"
  have e : (cs.map (·.1)).map V.ref = cs.map fun p => V.ref p.1 := by rw [List.map_map]; rfl
  unfold setL
  rw [e]
  refine (t_insertElt (h := h) hz ok.wf ok.srt ok.h5 ok.h1 (by omega)).post ?_
  rintro x l' ⟨h', t', hl, wf', hk, h5', h1'⟩
  refine WSs.nil ⟨rfl, h', t', LSub.trans ?_ hl, ⟨wf', by rw [hk]; exact ins_srt ok.srt, h5', h1'⟩, hk⟩
  have hlen : (((keys t').length : Nat) : Int) = if k ∈ keys t then (((keys t).length : Nat) : Int) else (((keys t).length : Nat) : Int) + 1 := by
    rw [hk]
    by_cases hm : k ∈ keys t
    · rw [if_pos hm, ins_self ok.srt hm]
    · rw [if_neg hm]
      unfold ins
      have : (keys t).length = ((keys t).filter (· < k)).length + ((keys t).filter (k < ·)).length := by
        have := length_filter (fun x => decide (x < k)) (keys t)
        rw [this]
        congr 2
        refine List.filter_congr fun x hx => ?_
        have : x ≠ k := fun q => hm (q ▸ hx)
        rw [Bool.eq_iff_iff]; simp; omega
      rw [List.length_append, List.length_cons]
      omega
  rw [hlen]
  exact .refl _
theorem t_delElt {w : World} {tr cr cl : Addr} {k : Int} {h : Nat} {t : T} {cs : List (Addr × CS)} {n : Nat} {l : Led} (hm : k ∈ keys t) (hz : cs.length ≤ 100) (ok : TOK h t) (hn : 2 * h + 13 ≤ n) :
    Spec (cx w) (.ref 394) [.ref tr, .int k, .none] n (setL tr cr cl (keys t).length (cs.map (·.1)) cs t l) (fun x l' => ∃ h' t', LSub (setL tr cr cl (keys t').length (cs.map (·.1)) (parkAll cs) t' l) l' ∧ TOK h' t' ∧ keys t' = del k (keys t)) := by
  refine Spec.fn' (by omega) [("self", .ref tr), ("key", .int k), ("exact", .none), ("cloned", .unb), ("elt", .unb)] ["cloned", "elt"] (ho := (rfl : (cx w).K.lookup 394 = some ⟨_, _, .func (fnX _ _ _ _ _ [] .none _ _ _ _ _ _), _⟩)) (by kernel_rfl) rfl rfl rfl rfl rfl (by decide) rfl rfl ?_
  intro Φ hsc hrm
  have e : (cs.map (·.1)).map V.ref = cs.map fun p => V.ref p.1 := by rw [List.map_map]; rfl
  unfold setL
  rw [e]
  walk_at "fx*"
  refine Spec.postS (t_checkPark hz (by omega)) ?_
  rintro x l' ⟨rfl, hl⟩
  refine ⟨_, hl, ?_⟩
  have hrn : (t.n, nodeO cr t.lf t.el t.ch) ∈ curs (parkAll cs) ++ (objs cr t ++ l) := List.mem_append_right _ (List.mem_append_left _ (objs_node cr t))
  walk_at "fx*"
  refine (t_cow (led_there (led_there hrn)) (by omega)).post ?_
  rintro x l' ⟨rfl, rfl⟩
  walk_at "fx*"
  refine WSs.ite ?_
  walk_at "fx*"
  refine Spec.postS ((t_delete (w := w) (cr := cr) h (k := k) (n := Φ.rm) (pv := .none) (rest := (tr, treeO cr cl t.n (keys t).length) :: (cl, .list (cs.map fun p => .ref p.1)) :: (curs (parkAll cs) ++ l)) ok.wf ok.srt ok.h5 ok.h1 (.inl rfl) (by omega)).sub ?_) ?_
  · refine lsub_of_cnt fun p => ?_
    simp only [cnt_cons, cnt_append]; omega
  rintro x l' ⟨t', hx, hl2, hn2, wf2, hk2, z1, z2⟩
  refine ⟨(tr, treeO cr cl t'.n (keys t).length) :: (cl, .list (cs.map fun p => .ref p.1)) :: (curs (parkAll cs) ++ (objs cr t' ++ l)), ?_, ?_⟩
  · refine LSub.trans ?_ hl2
    rw [hn2]
    refine lsub_of_cnt fun p => ?_
    simp only [cnt_cons, cnt_append]; omega
  rw [if_pos hm] at hx
  subst hx
  have hlen : (((keys t').length : Nat) : Int) = ((keys t).length : Nat) - 1 := by
    obtain ⟨X, Y, hXY⟩ := List.append_of_mem hm
    have srt := ok.srt
    rw [hXY] at srt
    rw [hk2, hXY, del_at srt]
    simp; omega
  have srt2 : Srt (keys t') := by rw [hk2]; exact del_srt ok.srt
  have hrn2 : (t'.n, nodeO cr t'.lf t'.el t'.ch) ∈ curs (parkAll cs) ++ (objs cr t' ++ l) := List.mem_append_right _ (List.mem_append_left _ (objs_node cr t'))
  have hre2 : (t'.el, O.list (t'.es.map .mem)) ∈ curs (parkAll cs) ++ (objs cr t' ++ l) := List.mem_append_right _ (List.mem_append_left _ (objs_elts cr t'))
  have hrc2 : (t'.ch, O.list (t'.cs.map fun t => V.ref t.n)) ∈ curs (parkAll cs) ++ (objs cr t' ++ l) := List.mem_append_right _ (List.mem_append_left _ (objs_ch cr t'))
  have h5' := ok.h5
  walk_at "fx*"
  refine WSs.ite ?_
  walk_at "fx*"
  refine WSs.ite ?_
  walk_at "fx*"
  refine ite_or (fun h0 => ?_) (fun h0 => ?_)
  · have h0 : t'.es = [] := by simpa using h0
    refine WSs.ite ?_
    walk_at "fx*"
    cases h with
    | zero =>
      rw [show t'.lf = true from wf2.lf]
      walk_at "fx*"
      exact ⟨0, t', by rw [hlen]; exact .refl _, ⟨wf2, srt2, by omega, fun h => absurd h (by decide)⟩, hk2⟩
    | succ h =>
      rw [show t'.lf = false from wf2.lf]
      have hc1 := wf2.1
      rw [h0] at hc1
      obtain ⟨c, hc⟩ := List.length_eq_one_iff.mp hc1
      rw [hc] at hrc2
      have hx0 : ([c].map fun t => V.ref t.n)[(0 : Int).toNat]? = some (.ref c.n) := rfl
      obtain ⟨wc, hc2, hc5⟩ := wf2.2 c (by rw [hc]; exact .head _)
      walk_at "fx*"
      have hkc : keys t' = keys c := by
        obtain ⟨a, el, ch, es, cs'⟩ := t'
        simp only [T_es, T_cs] at h0 hc
        subst h0; subst hc
        exact keys_one ..
      refine ⟨h, c, ?_, ⟨wc, by rw [← hkc]; exact srt2, hc5, fun _ => by omega⟩, by rw [← hkc]; exact hk2⟩
      rw [← hkc, hlen]
      obtain ⟨a, el, ch, es, cs'⟩ := t'
      simp only [T_cs] at hc
      subst hc
      refine lsub_of_cnt fun p => ?_
      simp only [cnt_cons, cnt_append, objs_mk, objsL_cons, objsL_nil, cnt_nil, treeO]; omega
  · have h0 : t'.es ≠ [] := by simpa using h0
    walk_at "fx*"
    exact ⟨h, t', by rw [hlen]; exact .refl _, ⟨wf2, srt2, by omega, fun _ => List.length_pos_iff.mpr h0⟩, hk2⟩
theorem t_discard {w : World} {tr cr cl : Addr} {k : Int} {h : Nat} {t : T} {cs : List (Addr × CS)} {n : Nat} {l : Led} (hm : k ∈ keys t) (hz : cs.length ≤ 100) (ok : TOK h t) (hn : 2 * h + 15 ≤ n) :
    Spec (cx w) (.ref 519) [.ref tr, .int k] n (setL tr cr cl (keys t).length (cs.map (·.1)) cs t l) (fun x l' => x = .none ∧ ∃ h' t', LSub (setL tr cr cl (keys t').length (cs.map (·.1)) (parkAll cs) t' l) l' ∧ TOK h' t' ∧ keys t' = del k (keys t)) := by
  refine Spec.fn' (by omega) [("self", .ref tr), ("value", .int k)] [] (ho := (rfl : (cx w).K.lookup 519 = some ⟨_, _, .func (fnX _ _ _ _ _ [] .none _ _ _ _ _ _), _⟩)) (by kernel_rfl) rfl rfl rfl rfl rfl (by decide) rfl rfl ?_
  intro Φ hsc hrm
  unfold setL
  walk_at "fx*"
  refine Spec.fn' (by omega) [("self", .ref tr), ("key", .int k)] [] (ho := (rfl : (cx w).K.lookup 401 = some ⟨_, _, .func (fnX _ _ _ _ _ [] .none _ _ _ _ _ _), _⟩)) (by kernel_rfl) rfl rfl rfl rfl rfl (by decide) rfl rfl ?_
  intro Φ' hsc' hrm'
  walk_at "fx*"
  refine (t_delElt hm hz ok (by omega)).post ?_
  rintro x l' ⟨h', t', hl, ok', hk⟩
  exact WSs.nil ⟨rfl, h', t', hl, ok', hk⟩
theorem t_getElt {w : World} {tr cr cl : Addr} {k : Int} {h : Nat} {t : T} {as : List Addr} {cs : List (Addr × CS)} {n : Nat} {l : Led} (ok : TOK h t) (hn : h + 5 ≤ n) :
    Spec (cx w) (.ref 387) [.ref tr, .int k] n (setL tr cr cl (keys t).length as cs t l) (fun x l' => x = (if k ∈ keys t then .mem k else .none) ∧ l' = setL tr cr cl (keys t).length as cs t l) := by
  refine Spec.fn' (by omega) [("self", .ref tr), ("key", .int k)] [] (ho := (rfl : (cx w).K.lookup 387 = some ⟨_, _, .func (fnX _ _ _ _ _ [] .none _ _ _ _ _ _), _⟩)) (by kernel_rfl) rfl rfl rfl rfl rfl (by decide) rfl rfl ?_
  intro Φ hsc hrm
  unfold setL
  have hrn : (t.n, nodeO cr t.lf t.el t.ch) ∈ curs cs ++ (objs cr t ++ l) := List.mem_append_right _ (List.mem_append_left _ (objs_node cr t))
  walk_at "fx*"
  refine (t_get (w := w) (cr := cr) h (k := k) ok.wf ok.h5 ok.srt (fun p hp => led_there (led_there (List.mem_append_right _ (List.mem_append_left _ hp)))) (by omega)).post ?_
  rintro x l' ⟨hx, rfl⟩
  exact ⟨hx, rfl⟩
theorem t_contains {w : World} {tr cr cl : Addr} {k : Int} {h : Nat} {t : T} {as : List Addr} {cs : List (Addr × CS)} {n : Nat} {l : Led} (ok : TOK h t) (hn : h + 6 ≤ n) :
    Spec (cx w) (.ref 505) [.ref tr, .int k] n (setL tr cr cl (keys t).length as cs t l) (fun x l' => x = .bool (decide (k ∈ keys t)) ∧ l' = setL tr cr cl (keys t).length as cs t l) := by
  refine Spec.fn' (by omega) [("self", .ref tr), ("x", .int k)] [] (ho := (rfl : (cx w).K.lookup 505 = some ⟨_, _, .func (fnX _ _ _ _ _ [] .none _ _ _ _ _ _), _⟩)) (by kernel_rfl) rfl rfl rfl rfl rfl (by decide) rfl rfl ?_
  intro Φ hsc hrm
  unfold setL
  walk_at "fx*"
  refine (t_getElt (as := as) (cs := cs) (l := l) ok (by omega)).post ?_
  rintro x l' ⟨rfl, rfl⟩
  walk_at "fx*"
  by_cases hm : k ∈ keys t
  · rw [if_pos hm]
    walk_at "fx*"
    exact ⟨by rw [decide_eq_true hm], rfl⟩
  · rw [if_neg hm]
    walk_at "fx*"
    exact ⟨by rw [decide_eq_false hm], rfl⟩
theorem t_len {w : World} {tr cr cl : Addr} {t : T} {as : List Addr} {cs : List (Addr × CS)} {n : Nat} {l : Led} (hn : 1 ≤ n) :
    Spec (cx w) (.ref 415) [.ref tr] n (setL tr cr cl (keys t).length as cs t l) (fun x l' => x = .int (keys t).length ∧ l' = setL tr cr cl (keys t).length as cs t l) := by
  refine Spec.fn' (by omega) [("self", .ref tr)] [] (ho := (rfl : (cx w).K.lookup 415 = some ⟨_, _, .func (fnX _ _ _ _ _ [] .none _ _ _ _ _ _), _⟩)) (by kernel_rfl) rfl rfl rfl rfl rfl (by decide) rfl rfl ?_
  intro Φ hsc hrm
  unfold setL
  walk_at "fx*"
  exact rfl
/-! ## FXJ -/
section
variable {w : World} {a pl cr : Addr} {bt rc inc key rd : V} {pk : Bool} {root : T} {H : Nat} {R : Led}
theorem t_seekL {ps : List (T × Nat)} {h : Nat} {t : T} {i : Nat} {Lk Rk : List Int} {n : Nat} (wr : Wf H root) (h5 : root.es.length ≤ 5) (h1 : 0 < H → 1 ≤ root.es.length) (hH : H ≤ 1000) (hs : ∀ p ∈ objs cr root, p ∈ R) (g : Gap false root H ps h t i Lk Rk) (hn : 1 ≤ n) :
    Spec (cx w) (.ref 259) [.ref a] n ((a, CS.O ⟨bt, .ref t.n, .int i, rc, inc, .ref pl, pk, key, rd⟩) :: (pl, .list (ps.map pair)) :: R) (fun x l' => x = .none ∧ ∃ ps' t' i', l' = (a, CS.O ⟨bt, .ref (T.n t'), .int (i' : Nat), rc, inc, .ref pl, pk, key, rd⟩) :: (pl, .list (ps'.map pair)) :: R ∧ Gap false root H ps' 0 t' i' Lk Rk) := by
  refine Spec.fn' (by omega) [("self", .ref a)] [] (ho := (rfl : (cx w).K.lookup 259 = some ⟨_, _, .func (fnX _ _ _ _ _ [] .none _ _ _ _ _ _), _⟩)) (by kernel_rfl) rfl rfl rfl rfl rfl (by decide) rfl rfl ?_
  intro Φ hsc hrm
  walk_at "fx*"
  refine WSs.while_ (fun m ρ' l' => ∃ ps t i, ρ' = ([("self", .ref a)] : Loc) ∧ l' = (a, CS.O ⟨bt, .ref (T.n t), .int (i : Nat), rc, inc, .ref pl, pk, key, rd⟩) :: (pl, .list (ps.map pair)) :: R ∧ Gap false root H ps m t i Lk Rk) h ⟨ps, t, i, rfl, rfl, g⟩ ?_
  clear g
  rintro m ρ' l' ⟨ps, t, i, rfl, rfl, g⟩
  obtain ⟨L, RR, p, _⟩ := id g
  have hrn := hs _ (p.mem (cr := cr) _ (objs_node cr t))
  have hrc := hs _ (p.mem (cr := cr) _ (objs_ch cr t))
  have hlen := p.len
  have hsz := p.sz wr h5 h1
  have hlf : t.lf = (m == 0) := (p.wf wr).lf
  rw [hlf] at hrn
  walk_at "fx*"
  cases m with
  | zero =>
    rw [show ((0 : Nat) == 0) = true from rfl]
    walk_at "fx*"
    exact ⟨rfl, ps, t, i, rfl, g⟩
  | succ m =>
    rw [show (m + 1 == 0) = false from rfl] at *
    obtain ⟨tn, tel, tch, es, cs⟩ := t
    obtain ⟨c, hc, hi, g'⟩ := g.downL wr
    simp only [T_es] at hsz
    have hx : (cs.map fun t => V.ref t.n)[((i : Int)).toNat]? = some (.ref c.n) := by simp [hc]
    change (tch, O.list (cs.map fun t => V.ref t.n)) ∈ R at hrc
    change (tn, nodeO cr false tel tch) ∈ R at hrn
    rw [T_n]
    walk_at "fx*"
    refine ⟨m, by omega, _, c, 0, rfl, ?_, g'⟩
    simp [pair, T_n]
theorem t_seekG {ps : List (T × Nat)} {h : Nat} {t : T} {i : Nat} {Lk Rk : List Int} {n : Nat} (wr : Wf H root) (h5 : root.es.length ≤ 5) (h1 : 0 < H → 1 ≤ root.es.length) (hH : H ≤ 1000) (hs : ∀ p ∈ objs cr root, p ∈ R) (g : Gap true root H ps h t i Lk Rk) (hn : 1 ≤ n) :
    Spec (cx w) (.ref 266) [.ref a] n ((a, CS.O ⟨bt, .ref t.n, .int i, rc, inc, .ref pl, pk, key, rd⟩) :: (pl, .list (ps.map pair)) :: R) (fun x l' => x = .none ∧ ∃ ps' t' i', l' = (a, CS.O ⟨bt, .ref (T.n t'), .int (i' : Nat), rc, inc, .ref pl, pk, key, rd⟩) :: (pl, .list (ps'.map pair)) :: R ∧ Gap true root H ps' 0 t' i' Lk Rk) := by
  refine Spec.fn' (by omega) [("self", .ref a)] [] (ho := (rfl : (cx w).K.lookup 266 = some ⟨_, _, .func (fnX _ _ _ _ _ [] .none _ _ _ _ _ _), _⟩)) (by kernel_rfl) rfl rfl rfl rfl rfl (by decide) rfl rfl ?_
  intro Φ hsc hrm
  walk_at "fx*"
  refine WSs.while_ (fun m ρ' l' => ∃ ps t i, ρ' = ([("self", .ref a)] : Loc) ∧ l' = (a, CS.O ⟨bt, .ref (T.n t), .int (i : Nat), rc, inc, .ref pl, pk, key, rd⟩) :: (pl, .list (ps.map pair)) :: R ∧ Gap true root H ps m t i Lk Rk) h ⟨ps, t, i, rfl, rfl, g⟩ ?_
  clear g
  rintro m ρ' l' ⟨ps, t, i, rfl, rfl, g⟩
  obtain ⟨L, RR, p, _⟩ := id g
  have hrn := hs _ (p.mem (cr := cr) _ (objs_node cr t))
  have hrc := hs _ (p.mem (cr := cr) _ (objs_ch cr t))
  have hlen := p.len
  have hsz := p.sz wr h5 h1
  have hlf : t.lf = (m == 0) := (p.wf wr).lf
  rw [hlf] at hrn
  walk_at "fx*"
  cases m with
  | zero =>
    rw [show ((0 : Nat) == 0) = true from rfl]
    walk_at "fx*"
    exact ⟨rfl, ps, t, i, rfl, g⟩
  | succ m =>
    rw [show (m + 1 == 0) = false from rfl] at *
    obtain ⟨tn, tel, tch, es, cs⟩ := t
    obtain ⟨c, hc, hi, g'⟩ := g.downG wr
    simp only [T_es] at hsz
    have hx : (cs.map fun t => V.ref t.n)[((i : Int)).toNat]? = some (.ref c.n) := by simp [hc]
    change (tch, O.list (cs.map fun t => V.ref t.n)) ∈ R at hrc
    change (tn, nodeO cr false tel tch) ∈ R at hrn
    obtain ⟨L', RR', p', _⟩ := id g'
    have hcn := hs _ (p'.mem (cr := cr) _ (objs_node cr c))
    have hce := hs _ (p'.mem (cr := cr) _ (objs_elts cr c))
    have hcz := (p'.sz wr h5 h1).1
    rw [T_n]
    walk_at "fx*"
    refine ⟨m, by omega, _, c, c.es.length, rfl, ?_, g'⟩
    simp [pair, T_n]
end
/-! ## FXK -/
/-- a place: before or after a key -/
def isL (k : Int) (bf : Bool) (x : Int) : Bool := decide (x < k) || (decide (x = k) && !bf)
section
variable {w : World} {a tr cr cl : Addr} {size : Int} {root : T} {H : Nat} {R : Led}
theorem t_adjust {c : CS} {bf : Bool} {i : Nat} {n : Nat} (hn : 1 ≤ n) : Spec (cx w) (.ref 301) [.ref a, .bool bf, .int i] n ((a, c.O) :: R) (fun x l' => x = .none ∧ l' = (a, CS.O { c with ix := .int (if bf then i else i + 1 : Nat) }) :: R) := by
  obtain ⟨bt, nd, ix, rc, inc, ps, pk, key, rd⟩ := c
  refine Spec.fn' (by omega) [("self", .ref a), ("before", .bool bf), ("i", .int i)] [] (ho := (rfl : (cx w).K.lookup 301 = some ⟨_, _, .func (fnX _ _ _ _ _ [] .none _ _ _ _ _ _), _⟩)) (by kernel_rfl) rfl rfl rfl rfl rfl (by decide) rfl rfl ?_
  intro Φ hsc hrm
  refine WSs.ite ?_
  walk_at "fx*"
  cases bf with
  | true =>
    walk_at "fx*"
    exact ⟨rfl, rfl⟩
  | false =>
    walk_at "fx*"
    exact ⟨rfl, rfl⟩
theorem t_seek {c : CS} {k : Int} {bf : Bool} {n : Nat} (ok : TOK H root) (hH : H ≤ 1000) (hs : ∀ p ∈ objs cr root, p ∈ R) (ht : (tr, treeO cr cl root.n size) ∈ R) (hb : c.bt = .ref tr) (hn : 4 ≤ n) :
    Spec (cx w) (.ref 309) [.ref a, .int k, .bool bf] n ((a, c.O) :: R) (fun x l' => x = .none ∧ ∃ pl ps t i Lk Rk, LSub ((a, CS.O ⟨.ref tr, .ref (T.n t), .int (i : Nat), .bool false, .bool bf, .ref pl, false, .int k, .bool false⟩) :: (pl, .list (ps.map pair)) :: R) l' ∧
      Gap true root H ps 0 t i Lk Rk ∧ (∀ x ∈ Lk, isL k bf x = true) ∧ (∀ x ∈ Rk, isL k bf x = false)) := by
  obtain ⟨bt, nd, ix, rc, inc, ps, pk, key, rd⟩ := c
  subst hb
  refine Spec.fnB' (by omega) [("self", .ref a), ("key", .int k), ("before", .bool bf), ("i", .unb), ("equal", .unb)] ["i", "equal"] (ho := (rfl : (cx w).K.lookup 309 = some ⟨_, _, .func (fnX _ _ _ _ _ [] _ _ _ _ _ _ _), _⟩)) (by kernel_rfl) ?_ rfl (by decide) rfl rfl ?_
  · intro s vs X hl
    match vs, hl with
    | [a, b, c], _ => exact binds_K X rfl (rfl : (cx w).K.lookup 302 = some _) rfl rfl rfl
  intro Φ hsc hrm
  walk_at "fx*"
  intro pl
  walk_at "fx*"
  refine WSs.while_ (fun m ρ' l' => ∃ ps t L RR vi ve, ρ' = ([("self", .ref a), ("key", .int k), ("before", .bool bf), ("i", vi), ("equal", ve)] : Loc) ∧ l' = (pl, .list (ps.map pair)) :: (a, CS.O ⟨.ref tr, .ref (T.n t), ix, .bool false, .bool bf, .ref pl, false, .int k, .bool false⟩) :: R ∧
    Path root H ps m t L RR ∧ (∀ x ∈ L, x < k) ∧ (∀ x ∈ RR, k < x)) H ⟨[], root, [], [], _, _, rfl, rfl, .nil, by simp, by simp⟩ ?_
  rintro m ρ' l' ⟨ps, t, L, RR, vi, ve, rfl, rfl, p, hL, hR⟩
  have hrn := hs _ (p.mem (cr := cr) _ (objs_node cr t))
  have hre := hs _ (p.mem (cr := cr) _ (objs_elts cr t))
  have hrc := hs _ (p.mem (cr := cr) _ (objs_ch cr t))
  have hlen := p.len
  have hsz := p.sz ok.wf ok.h5 ok.h1
  have wt := p.wf ok.wf
  have srt := ok.srt
  rw [p.keyz] at srt
  have srt' := (List.pairwise_append.mp (List.pairwise_append.mp srt).1).2.1
  have hes := es_srt wt srt'
  have hlf : t.lf = (m == 0) := wt.lf
  rw [hlf] at hrn
  obtain ⟨tn, tel, tch, es, cs⟩ := t
  change (tn, nodeO cr (m == 0) tel tch) ∈ R at hrn
  change (tel, O.list (es.map .mem)) ∈ R at hre
  change (tch, O.list (cs.map fun t => V.ref t.n)) ∈ R at hrc
  simp only [T_es] at hsz hes
  simp only [T_n]
  walk_at "fx*"
  cases m with
  | zero =>
    obtain rfl : cs = [] := wt
    rw [show ((0 : Nat) == 0) = true from rfl] at *
    walk_at "fx*"
    refine (t_search (led_there (led_there hrn)) (led_there (led_there hre)) hes (by omega) (by omega)).post ?_
    rintro x l' ⟨rfl, A, B, b, rfl, rfl, hA, hB1, hB2⟩
    walk_at "fx*"
    refine WSs.ite ?_
    walk_at "fx*"
    cases b with
    | true =>
      obtain ⟨B, rfl⟩ := hB1 rfl
      have hB := (List.pairwise_cons.mp (List.pairwise_append.mp hes).2.1).1
      walk_at "fx*"
      refine Spec.use (t_adjust (a := a) (c := ⟨.ref tr, .ref tn, ix, .bool false, .bool bf, .ref pl, false, .int k, .bool false⟩) (bf := bf) (i := A.length) (n := Φ.rm) (R := (pl, .list (ps.map pair)) :: R) (by omega)) (by refine lsub_of_cnt fun p => ?_; simp only [cnt_cons]; omega) ?_
      rintro x l' ⟨rfl, rfl⟩
      walk_at "fx*"
      cases bf with
      | true =>
        refine ⟨rfl, pl, ps, _, A.length, L ++ A, k :: B ++ RR, .refl _, ⟨L, RR, p, .inl ⟨rfl, A, k :: B, rfl, rfl, rfl, rfl⟩⟩, ?_, ?_⟩
        · intro x hx
          rcases List.mem_append.mp hx with hx | hx
          · have := hL x hx; simp [isL]; omega
          · have := hA x hx; simp [isL]; omega
        · intro x hx
          rcases List.mem_append.mp hx with hx | hx
          · rcases List.mem_cons.mp hx with rfl | hx
            · simp [isL]
            · have := hB x hx; simp [isL]; omega
          · have := hR x hx; simp [isL]; omega
      | false =>
        refine ⟨rfl, pl, ps, _, A.length + 1, L ++ (A ++ [k]), B ++ RR, .refl _, ⟨L, RR, p, .inl ⟨rfl, A ++ [k], B, by simp [T_es], by simp, rfl, rfl⟩⟩, ?_, ?_⟩
        · intro x hx
          rcases List.mem_append.mp hx with hx | hx
          · have := hL x hx; simp [isL]; omega
          · rcases List.mem_append.mp hx with hx | hx
            · have := hA x hx; simp [isL]; omega
            · simp at hx; simp [isL]; omega
        · intro x hx
          rcases List.mem_append.mp hx with hx | hx
          · have := hB x hx; simp [isL]; omega
          · have := hR x hx; simp [isL]; omega
    | false =>
      have hB := hB2 rfl
      walk_at "fx*"
      refine ⟨rfl, pl, ps, _, A.length, L ++ A, B ++ RR, ?_, ⟨L, RR, p, .inl ⟨rfl, A, B, rfl, rfl, rfl, rfl⟩⟩, ?_, ?_⟩
      · refine lsub_of_cnt fun p => ?_; simp only [cnt_cons, T_n, CS.O]; omega
      · intro x hx
        rcases List.mem_append.mp hx with hx | hx
        · have := hL x hx; simp [isL]; omega
        · have := hA x hx; simp [isL]; omega
      · intro x hx
        rcases List.mem_append.mp hx with hx | hx
        · have := hB x hx; simp [isL]; omega
        · have := hR x hx; simp [isL]; omega
  | succ m =>
    rw [show (m + 1 == 0) = false from rfl] at *
    walk_at "fx*"
    refine (t_search (led_there (led_there hrn)) (led_there (led_there hre)) hes (by omega) (by omega)).post ?_
    rintro x l' ⟨rfl, A, B, b, rfl, rfl, hA, hB1, hB2⟩
    walk_at "fx*"
    refine WSs.ite ?_
    walk_at "fx*"
    cases b with
    | true =>
      obtain ⟨B, rfl⟩ := hB1 rfl
      have hB := (List.pairwise_cons.mp (List.pairwise_append.mp hes).2.1).1
      obtain ⟨C, c, D, rfl, hAC, hDB⟩ := split_at wt.1 (rfl : (A ++ k :: B) = A ++ k :: B)
      match D, hDB with
      | d :: D, hDB =>
      have hDB' : D.length = B.length := by simpa using hDB
      rw [keys_mk hAC hDB, kr_cons] at srt srt'
      have hs1 := List.pairwise_append.mp srt'
      have hkc : ∀ x ∈ kl A C ++ keys c, x < k := fun x hx => hs1.2.2 x hx k (.head _)
      have hkd : ∀ x ∈ keys d ++ kr B D, k < x := fun x hx => (List.pairwise_cons.mp hs1.2.1).1 x hx
      walk_at "fx*"
      refine Spec.postS ((t_adjust (a := a) (c := ⟨.ref tr, .ref tn, ix, .bool false, .bool bf, .ref pl, false, .int k, .bool false⟩) (bf := bf) (i := A.length) (n := Φ.rm) (R := (pl, .list (ps.map pair)) :: R) (by omega)).sub (by refine lsub_of_cnt fun p => ?_; simp only [cnt_cons]; omega)) ?_
      rintro x l' ⟨rfl, rfl⟩
      refine ⟨_, .refl _, ?_⟩
      walk_at "fx*"
      refine WSs.ite ?_
      walk_at "fx*"
      cases bf with
      | true =>
        have g : Gap true root H ps (m + 1) (.mk tn tel tch (A ++ k :: B) (C ++ c :: d :: D)) A.length (L ++ kl A C ++ keys c) (kr (k :: B) (d :: D) ++ RR) := ⟨L, RR, p, .inr ⟨by omega, tn, tel, tch, A, k :: B, C, c, d :: D, rfl, rfl, hAC, hDB, by rw [if_pos rfl]; exact ⟨rfl, rfl⟩⟩⟩
        walk_at "fx*"
        refine (t_seekG (w := w) (a := a) (t := .mk tn tel tch (A ++ k :: B) (C ++ c :: d :: D)) ok.wf ok.h5 ok.h1 hH hs g (by omega)).post ?_
        rintro x l' ⟨rfl, ps', t', i', rfl, g'⟩
        walk_at "fx*"
        refine ⟨rfl, pl, ps', t', i', _, _, .refl _, g', ?_, ?_⟩
        · intro x hx
          rw [List.append_assoc] at hx
          rcases List.mem_append.mp hx with hx | hx
          · have := hL x hx; simp [isL]; omega
          · have := hkc x hx; simp [isL]; omega
        · intro x hx
          rw [kr_cons] at hx
          rcases List.mem_append.mp hx with hx | hx
          · rw [List.cons_append] at hx
            rcases List.mem_cons.mp hx with rfl | hx
            · simp [isL]
            · have := hkd x hx; simp [isL]; omega
          · have := hR x hx; simp [isL]; omega
      | false =>
        have g : Gap false root H ps (m + 1) (.mk tn tel tch (A ++ k :: B) (C ++ c :: d :: D)) (A.length + 1) (L ++ kl (A ++ [k]) (C ++ [c])) (keys d ++ (kr B D ++ RR)) := ⟨L, RR, p, .inr ⟨by omega, tn, tel, tch, A ++ [k], B, C ++ [c], d, D, by simp, by simp, by simp; omega, hDB', by rw [if_neg (by decide)]; exact ⟨rfl, rfl⟩⟩⟩
        walk_at "fx*"
        refine (t_seekL (w := w) (a := a) (t := .mk tn tel tch (A ++ k :: B) (C ++ c :: d :: D)) ok.wf ok.h5 ok.h1 hH hs g (by omega)).post ?_
        rintro x l' ⟨rfl, ps', t', i', rfl, g'⟩
        walk_at "fx*"
        refine ⟨rfl, pl, ps', t', i', _, _, .refl _, g'.leaf, ?_, ?_⟩
        · intro x hx
          rcases List.mem_append.mp hx with hx | hx
          · have := hL x hx; simp [isL]; omega
          · rw [kl_append hAC, kl_cons, kl_nil] at hx
            rw [← List.append_assoc] at hx
            rcases List.mem_append.mp hx with hx | hx
            · have := hkc x hx; simp [isL]; omega
            · simp at hx; simp [isL]; omega
        · intro x hx
          rw [← List.append_assoc] at hx
          rcases List.mem_append.mp hx with hx | hx
          · have := hkd x hx; simp [isL]; omega
          · have := hR x hx; simp [isL]; omega
    | false =>
      have hB := hB2 rfl
      obtain ⟨C, c, D, rfl, hAC, hDB⟩ := split_at wt.1 (rfl : (A ++ B) = A ++ B)
      rw [keys_mk hAC hDB] at srt srt'
      have hkl : ∀ x ∈ kl A C, x < k := kl_lt hAC (by rw [List.append_assoc] at srt'; exact srt') hA
      have hkr : ∀ x ∈ kr B D, k < x := kr_gt hDB.symm srt' hB
      have hx : ((C ++ c :: D).map fun t => V.ref t.n)[((A.length : Int)).toNat]? = some (V.ref c.n) := by rw [map_mid]; exact getAt' (by rw [List.length_map]; omega)
      have q := Path.cons p hAC hDB
      have hA5 : A.length ≤ 5 := by have := hsz.1; rw [List.length_append] at this; omega
      walk_at "fx*"
      refine ⟨m, by omega, ps ++ [(T.mk tn tel tch (A ++ B) (C ++ c :: D), A.length)], c, _, _, _, _, rfl, ?_, q, ?_, ?_⟩
      · simp [pair, T_n]
      · intro x hx
        rcases List.mem_append.mp hx with hx | hx
        · exact hL x hx
        · exact hkl x hx
      · intro x hx
        rcases List.mem_append.mp hx with hx | hx
        · exact hkr x hx
        · exact hR x hx
end
/-! ## FXL -/
inductive Plc where
  | beg | fin | at (k : Int) (bf : Bool)
def plB : Plc → Int → Bool
  | .beg, _ => false
  | .fin, _ => true
  | .at k bf, x => isL k bf x
/-- a cursor that is not parked -/
def Ready (tr : Addr) (root : T) (H : Nat) (c : CS) (xs : List V) : Plc → Prop
  | .beg => c.bt = .ref tr ∧ c.nd = .none ∧ c.ix = .int 0 ∧ c.rc = .bool false ∧ xs = []
  | .fin => c.bt = .ref tr ∧ c.nd = .none ∧ c.ix = .int 1 ∧ c.rc = .bool false ∧ xs = []
  | .at k bf => c.bt = .ref tr ∧ ∃ ib ps h t i Lk Rk, c.inc = .bool ib ∧ c.nd = .ref (T.n t) ∧ c.ix = .int (i : Nat) ∧ c.rc = .bool (decide (0 < h)) ∧ xs = ps.map pair ∧ Gap (!ib) root H ps h t i Lk Rk ∧ (∀ x ∈ Lk, isL k bf x = true) ∧ (∀ x ∈ Rk, isL k bf x = false)
/-- a cursor at a place -/
def CurSt (tr : Addr) (root : T) (H : Nat) (c : CS) (xs : List V) : Plc → Prop
  | .beg => Ready tr root H c xs .beg ∧ c.key = .none
  | .fin => Ready tr root H c xs .fin ∧ c.key = .none
  | .at k bf => c.bt = .ref tr ∧ c.key = .int k ∧ (∃ r ib, c.rd = .bool r ∧ c.inc = .bool ib ∧ bf = (if r then !ib else ib)) ∧ (c.pk = true ∨ Ready tr root H c xs (.at k bf))
theorem CurSt.park {tr root H c xs p root' H'} (h : CurSt tr root H c xs p) : CurSt tr root' H' c.park xs p := by
  cases p with
  | beg => exact h
  | fin => exact h
  | «at» k bf => exact ⟨h.1, h.2.1, h.2.2.1, .inl rfl⟩
section
variable {w : World} {a tr cr cl : Addr} {size : Int} {root : T} {H : Nat} {R : Led}
theorem t_unpark {c : CS} {pl : Addr} {xs : List V} {p : Plc} {n : Nat} (ok : TOK H root) (hH : H ≤ 1000) (hs : ∀ p ∈ objs cr root, p ∈ R) (ht : (tr, treeO cr cl root.n size) ∈ R) (hc : CurSt tr root H c xs p) (hp : c.ps = .ref pl) (hn : 5 ≤ n) :
    Spec (cx w) (.ref 280) [.ref a] n ((a, c.O) :: (pl, .list xs) :: R) (fun x l' => x = .none ∧ ∃ c' pl' xs', LSub ((a, CS.O c') :: (pl', .list xs') :: R) l' ∧ c'.ps = .ref pl' ∧ c'.pk = false ∧ Ready tr root H c' xs' p) := by
  obtain ⟨bt, nd, ix, rc, inc, ps, pk, key, rd⟩ := c
  simp only at hp
  subst hp
  refine Spec.fn' (by omega) [("self", .ref a), ("increasing", .unb), ("before", .unb)] ["increasing", "before"] (ho := (rfl : (cx w).K.lookup 280 = some ⟨_, _, .func (fnX _ _ _ _ _ [] .none _ _ _ _ _ _), _⟩)) (by kernel_rfl) rfl rfl rfl rfl rfl (by decide) rfl rfl ?_
  intro Φ hsc hrm
  refine WSs.ite ?_
  walk_at "fx*"
  cases pk with
  | false =>
    walk_at "fx*"
    refine ⟨rfl, _, pl, xs, .refl _, rfl, rfl, ?_⟩
    cases p with
    | beg => exact hc.1
    | fin => exact hc.1
    | «at» k bf =>
      rcases hc.2.2.2 with h | h
      · cases h
      · exact h
  | true =>
    walk_at "fx*"
    refine WSs.ite ?_
    cases p with
    | beg =>
      obtain ⟨h1, h2⟩ := hc
      simp only at h2
      subst h2
      walk_at "fx*"
      exact ⟨rfl, ⟨bt, nd, ix, rc, inc, .ref pl, false, .none, rd⟩, pl, xs, .refl _, rfl, rfl, h1⟩
    | fin =>
      obtain ⟨h1, h2⟩ := hc
      simp only at h2
      subst h2
      walk_at "fx*"
      exact ⟨rfl, ⟨bt, nd, ix, rc, inc, .ref pl, false, .none, rd⟩, pl, xs, .refl _, rfl, rfl, h1⟩
    | «at» k bf =>
      obtain ⟨h1, h2, ⟨r, ib, h3, h4, h5⟩, _⟩ := hc
      simp only at h1 h2 h3 h4
      subst h1 h2 h3 h4
      walk_at "fx*"
      refine WSs.iteJ (fun ρ' l' => ρ' = ([("self", .ref a), ("increasing", .bool ib), ("before", .bool bf)] : Loc) ∧ l' = (a, CS.O ⟨.ref tr, nd, ix, rc, .bool ib, .ref pl, true, .int k, .bool r⟩) :: (pl, .list xs) :: R) ?_ ?_
      · walk_at "fx*"
        cases r with
        | true =>
          rw [if_pos rfl] at h5
          subst h5
          walk_at "fx*"
          exact ⟨rfl, rfl⟩
        | false =>
          rw [if_neg (by decide)] at h5
          subst h5
          walk_at "fx*"
          exact ⟨rfl, rfl⟩
      rintro ρ' l' ⟨rfl, rfl⟩
      walk_at "fx*"
      refine Spec.postS ((t_seek (w := w) (a := a) (c := ⟨.ref tr, nd, ix, rc, .bool ib, .ref pl, true, .int k, .bool r⟩) (k := k) (bf := bf) (R := R) (n := Φ.rm) ok hH hs ht rfl (by omega)).sub (by refine lsub_of_cnt fun p => ?_; simp only [cnt_cons]; omega)) ?_
      rintro x l' ⟨rfl, pl', ps', t, i, Lk, Rk, hl, g, hL, hR⟩
      refine ⟨_, hl, ?_⟩
      walk_at "fx*"
      refine ⟨rfl, ⟨.ref tr, .ref t.n, .int i, .bool false, .bool ib, .ref pl', false, .none, .bool false⟩, pl', _, .refl _, rfl, rfl, rfl, ib, ps', 0, t, i, Lk, Rk, rfl, rfl, rfl, rfl, rfl, g.leaf, hL, hR⟩
theorem Ready.rgt {c xs p} (ok : TOK H root) (h : Ready tr root H c xs p) : match p with
    | .beg => True | .fin => True
    | .at k bf => ∃ ib ps h t i, c.inc = .bool ib ∧ c.nd = .ref (T.n t) ∧ c.ix = .int (i : Nat) ∧ c.rc = .bool (decide (0 < h)) ∧ xs = ps.map pair ∧ Gap (!ib) root H ps h t i ((keys root).filter (isL k bf)) ((keys root).filter (fun x => !isL k bf x)) := by
  cases p with
  | beg => trivial
  | fin => trivial
  | «at» k bf =>
    obtain ⟨_, ib, ps, h, t, i, Lk, Rk, h1, h2, h3, h4, h5, g, hL, hR⟩ := h
    refine ⟨ib, ps, h, t, i, h1, h2, h3, h4, h5, ?_⟩
    have e := g.keyz ok.wf
    have e1 : (keys root).filter (isL k bf) = Lk := by rw [e, List.filter_append, filter_all hL, filter_none hR, List.append_nil]
    have e2 : (keys root).filter (fun x => !isL k bf x) = Rk := by
      rw [e, List.filter_append, filter_none (l := Lk) (fun x hx => by rw [hL x hx]; rfl), filter_all (l := Rk) (fun x hx => by rw [hR x hx]; rfl), List.nil_append]
    rw [e1, e2]
    exact g
theorem t_next {c : CS} {pl : Addr} {xs : List V} {p : Plc} {n : Nat} (ok : TOK H root) (hH : H ≤ 1000) (hs : ∀ p ∈ objs cr root, p ∈ R) (ht : (tr, treeO cr cl root.n size) ∈ R) (hc : CurSt tr root H c xs p) (hp : c.ps = .ref pl) (hn : 6 ≤ n) :
    Spec (cx w) (.ref 294) [.ref a] n ((a, c.O) :: (pl, .list xs) :: R) (fun x l' => ∃ c' pl' xs' p', LSub ((a, CS.O c') :: (pl', .list xs') :: R) l' ∧ c'.ps = .ref pl' ∧ CurSt tr root H c' xs' p' ∧
      match (keys root).filter (fun x => !plB p x) with | [] => x = .none ∧ p' = .fin | r :: _ => x = .mem r ∧ p' = .at r false) := by
  refine Spec.fn' (by omega) [("self", .ref a), ("elt", .unb)] ["elt"] (ho := (rfl : (cx w).K.lookup 294 = some ⟨_, _, .func (fnX _ _ _ _ _ [] .none _ _ _ _ _ _), _⟩)) (by kernel_rfl) rfl rfl rfl rfl rfl (by decide) rfl rfl ?_
  intro Φ hsc hrm
  walk_at "fx*"
  refine Spec.postS (t_unpark ok hH hs ht hc hp (by omega)) ?_
  rintro x l' ⟨rfl, ⟨bt, nd, ix, rc, inc, ps, pk, key, rd⟩, pl', xs', hl, h1, h2, hr⟩
  simp only at h1 h2
  subst h1 h2
  refine ⟨_, hl, ?_⟩
  clear hl hc hp
  have hrn := hs _ (objs_node cr root)
  walk_at "fx*"
  generalize hrg : (keys root).filter (fun x => !plB p x) = Rk
  refine WSs.iteJ (fun ρ' l' => ρ' = ([("self", .ref a), ("elt", .unb)] : Loc) ∧ ∃ ps h t i rcb inc Lk, l' = (a, CS.O ⟨.ref tr, .ref (T.n t), .int (i : Nat), .bool rcb, inc, .ref pl', false, .none, rd⟩) :: (pl', .list (ps.map pair)) :: R ∧
    keys root = Lk ++ Rk ∧ (rcb = false ∧ Gap true root H ps h t i Lk Rk ∨ rcb = true ∧ ∃ ib, inc = .bool ib ∧ Gap (!ib) root H ps h t i Lk Rk)) ?_ ?_
  · cases p with
    | beg =>
      obtain ⟨rfl, rfl, rfl, rfl, rfl⟩ := hr
      simp only at *
      walk_at "fx*"
      have e : keys root = Rk := by rw [← hrg]; exact (filter_all fun x hx => rfl).symm
      refine WSs.ite ?_
      walk_at "fx*"
      rw [if_neg (by decide)]
      walk_at "fx*"
      refine (t_seekL (w := w) (a := a) (i := 0) (ps := []) (t := root) ok.wf ok.h5 ok.h1 hH hs (Gap.first ok.wf) (by omega)).post ?_
      rintro x l' ⟨rfl, ps', t', i', rfl, g'⟩
      walk_at "fx*"
      rw [e] at g'
      exact ⟨rfl, ps', 0, t', i', false, inc, [], rfl, e, .inl ⟨rfl, g'.leaf⟩⟩
    | fin =>
      obtain ⟨h1, h2, h3, h4, h5⟩ := hr
      simp only at h1 h2 h3 h4 h5
      subst h1 h2 h3 h4 h5
      simp only at *
      have e : Rk = [] := by rw [← hrg]; exact filter_none fun x hx => rfl
      subst e
      walk_at "fx*"
      refine WSs.ite ?_
      walk_at "fx*"
      rw [if_pos (by decide)]
      walk_at "fx*"
      exact ⟨⟨.ref tr, .none, .int 1, .bool false, inc, .ref pl', false, .none, rd⟩, pl', [], .fin, .refl _, rfl, ⟨⟨rfl, rfl, rfl, rfl, rfl⟩, rfl⟩, rfl, rfl⟩
    | «at» k bf =>
      obtain ⟨ib, ps, h, t, i, h1, h2, h3, h4, h5, g⟩ := Ready.rgt ok hr
      have hb := hr.1
      simp only at h1 h2 h3 h4 h5 hb
      subst h1 h2 h3 h4 h5 hb
      simp only at *
      change (keys root).filter (fun x => !isL k bf x) = Rk at hrg
      rw [hrg] at g
      walk_at "fx*"
      refine ⟨rfl, ps, h, t, i, decide (0 < h), .bool ib, _, rfl, g.keyz ok.wf, ?_⟩
      cases h with
      | zero => exact .inl ⟨rfl, g.leaf⟩
      | succ h => exact .inr ⟨by simp, ib, rfl, g⟩
  rintro ρ' l' ⟨rfl, ps, h, t, i, rcb, inc, Lk, rfl, hkk, hg⟩
  clear hrn hr
  have hps : ps.length ≤ H := by
    rcases hg with ⟨_, L, RR, p, _⟩ | ⟨_, ib, _, L, RR, p, _⟩ <;> (have := p.len; omega)
  refine WSs.while_ (fun m ρ' l' => ρ' = ([("self", .ref a), ("elt", .unb)] : Loc) ∧ ∃ ps h t i rcb inc, l' = (a, CS.O ⟨.ref tr, .ref (T.n t), .int (i : Nat), .bool rcb, inc, .ref pl', false, .none, rd⟩) :: (pl', .list (ps.map pair)) :: R ∧
    (rcb = false ∧ m = ps.length ∧ Gap true root H ps h t i Lk Rk ∨ rcb = true ∧ m = H + 1 ∧ ∃ ib, inc = .bool ib ∧ Gap (!ib) root H ps h t i Lk Rk)) (if rcb then H + 1 else ps.length) ⟨rfl, ps, h, t, i, rcb, inc, rfl, ?_⟩ ?_
  · rcases hg with ⟨rfl, g⟩ | ⟨rfl, g⟩
    · exact .inl ⟨rfl, rfl, g⟩
    · exact .inr ⟨rfl, rfl, g⟩
  clear hg hps
  rintro m ρ' l' ⟨rfl, ps, h, t, i, rcb, inc, rfl, hg⟩
  walk_at "fx*"
  refine WSs.iteJ (fun ρ' l' => ρ' = ([("self", .ref a), ("elt", .unb)] : Loc) ∧ ∃ ps h t i inc, l' = (a, CS.O ⟨.ref tr, .ref (T.n t), .int (i : Nat), .bool false, inc, .ref pl', false, .none, rd⟩) :: (pl', .list (ps.map pair)) :: R ∧ ps.length ≤ m ∧ Gap true root H ps h t i Lk Rk) ?_ ?_
  · walk_at "fx*"
    rcases hg with ⟨rfl, rfl, g⟩ | ⟨rfl, rfl, ib, rfl, g⟩
    · walk_at "fx*"
      exact ⟨rfl, ps, h, t, i, inc, rfl, Nat.le_refl _, g⟩
    · walk_at "fx*"
      refine WSs.ite ?_
      walk_at "fx*"
      cases ib with
      | true =>
        walk_at "fx*"
        refine (t_seekL (w := w) (a := a) (t := t) ok.wf ok.h5 ok.h1 hH hs g (by omega)).post ?_
        rintro x l' ⟨rfl, ps', t', i', rfl, g'⟩
        walk_at "fx*"
        refine ⟨rfl, ps', 0, t', i', _, rfl, ?_, g'.leaf⟩
        obtain ⟨L, RR, p, _⟩ := g'
        have := p.len
        omega
      | false =>
        walk_at "fx*"
        refine ⟨rfl, ps, h, t, i, _, rfl, ?_, g⟩
        obtain ⟨L, RR, p, _⟩ := g
        have := p.len
        omega
  rintro ρ' l' ⟨rfl, ps, h, t, i, inc, rfl, hm, g⟩
  obtain ⟨L, RR, p, _⟩ := id g
  have hrn := hs _ (p.mem (cr := cr) _ (objs_node cr t))
  have hre := hs _ (p.mem (cr := cr) _ (objs_elts cr t))
  have hlf : t.lf = (h == 0) := (p.wf ok.wf).lf
  have hsz := (p.sz ok.wf ok.h5 ok.h1).1
  have hlen := p.len
  rw [hlf] at hrn
  walk_at "fx*"
  refine WSs.ite ?_
  walk_at "fx*"
  refine ite_or (fun hi => ?_) (fun hi => ?_)
  · simp only [List.length_map, decide_eq_true_eq] at hi
    have hi' : i < t.es.length := by omega
    obtain ⟨e, Rk', he, rfl, g'⟩ := g.next hi'
    have hx : (t.es.map V.mem)[((i : Int)).toNat]? = some (.mem e) := by simp [he]
    walk_at "fx*"
    refine WSs.iteJ (fun ρ' l' => ρ' = ([("self", .ref a), ("elt", .mem e)] : Loc) ∧ l' = (a, CS.O ⟨.ref tr, .ref (T.n t), .int (i + 1 : Nat), .bool (decide (0 < h)), .bool true, .ref pl', false, .none, rd⟩) :: (pl', .list (ps.map pair)) :: R) ?_ ?_
    · walk_at "fx*"
      cases h with
      | zero =>
        rw [show ((0 : Nat) == 0) = true from rfl]
        walk_at "fx*"
        exact ⟨rfl, rfl⟩
      | succ h =>
        rw [show (h + 1 == 0) = false from rfl]
        walk_at "fx*"
        exact ⟨rfl, by simp⟩
    rintro ρ' l' ⟨rfl, rfl⟩
    walk_at "fx*"
    have srt := ok.srt
    rw [hkk] at srt
    have hs3 := List.pairwise_append.mp srt
    refine ⟨⟨.ref tr, .ref t.n, .int (i + 1 : Nat), .bool (decide (0 < h)), .bool true, .ref pl', false, .int e, .bool true⟩, pl', _, .at e false, .refl _, rfl, ⟨rfl, rfl, ⟨true, true, rfl, rfl, rfl⟩, .inr ⟨rfl, true, ps, h, t, i + 1, _, _, rfl, rfl, rfl, rfl, rfl, g', ?_, ?_⟩⟩, rfl, rfl⟩
    · intro x hx
      rcases List.mem_append.mp hx with hx | hx
      · have := hs3.2.2 x hx e (.head _); simp [isL]; omega
      · simp at hx; simp [isL]; omega
    · intro x hx
      have := (List.pairwise_cons.mp hs3.2.1).1 x hx
      simp [isL]; omega
  · simp only [List.length_map, decide_eq_false_iff_not] at hi
    have hi' : t.es.length ≤ i := by omega
    refine WSs.ite ?_
    rcases List.eq_nil_or_concat ps with rfl | ⟨ps, ⟨q, j⟩, rfl⟩
    · obtain rfl := g.endR ok.wf hi'
      walk_at "fx*"
      rw [if_neg (by decide)]
      walk_at "fx*"
      exact ⟨⟨.ref tr, .none, .int 1, .bool false, .bool true, .ref pl', false, .none, rd⟩, pl', [], .fin, .refl _, rfl, ⟨⟨rfl, rfl, rfl, rfl, rfl⟩, rfl⟩, rfl, rfl⟩
    · rw [List.concat_eq_append] at *
      have g' := g.upR ok.wf hi'
      rw [show (ps ++ [(q, j)]).map pair = ps.map pair ++ [.tup [.ref q.n, .int j]] by simp [pair]]
      simp only [List.length_append, List.length_cons, List.length_nil] at hm hlen
      walk_at "fx*"
      refine ite_or (fun h0 => ?_) (fun h0 => ?_)
      · walk_at "fx*"
        exact ⟨ps.length, by omega, rfl, ps, h + 1, q, j, false, _, rfl, .inl ⟨rfl, rfl, g'⟩⟩
      · simp at h0
end
/-! ## FXM -/
section
variable {w : World} {a tr cr cl : Addr} {size : Int} {root : T} {H : Nat} {R : Led}
theorem t_prev {c : CS} {pl : Addr} {xs : List V} {p : Plc} {n : Nat} (ok : TOK H root) (hH : H ≤ 1000) (hs : ∀ p ∈ objs cr root, p ∈ R) (ht : (tr, treeO cr cl root.n size) ∈ R) (hc : CurSt tr root H c xs p) (hp : c.ps = .ref pl) (hn : 6 ≤ n) :
    Spec (cx w) (.ref 287) [.ref a] n ((a, c.O) :: (pl, .list xs) :: R) (fun x l' => ∃ c' pl' xs' p', LSub ((a, CS.O c') :: (pl', .list xs') :: R) l' ∧ c'.ps = .ref pl' ∧ CurSt tr root H c' xs' p' ∧
      ((keys root).filter (plB p) = [] ∧ x = .none ∧ p' = .beg ∨ ∃ L' r, (keys root).filter (plB p) = L' ++ [r] ∧ x = .mem r ∧ p' = .at r true)) := by
  refine Spec.fn' (by omega) [("self", .ref a), ("elt", .unb)] ["elt"] (ho := (rfl : (cx w).K.lookup 287 = some ⟨_, _, .func (fnX _ _ _ _ _ [] .none _ _ _ _ _ _), _⟩)) (by kernel_rfl) rfl rfl rfl rfl rfl (by decide) rfl rfl ?_
  intro Φ hsc hrm
  walk_at "fx*"
  refine Spec.postS (t_unpark ok hH hs ht hc hp (by omega)) ?_
  rintro x l' ⟨rfl, ⟨bt, nd, ix, rc, inc, ps, pk, key, rd⟩, pl', xs', hl, h1, h2, hr⟩
  simp only at h1 h2
  subst h1 h2
  refine ⟨_, hl, ?_⟩
  clear hl hc hp
  have hrn := hs _ (objs_node cr root)
  have hre0 := hs _ (objs_elts cr root)
  have hr5 := ok.h5
  walk_at "fx*"
  generalize hrg : (keys root).filter (plB p) = Lk
  refine WSs.iteJ (fun ρ' l' => ρ' = ([("self", .ref a), ("elt", .unb)] : Loc) ∧ ∃ ps h t i rcb inc Rk, l' = (a, CS.O ⟨.ref tr, .ref (T.n t), .int (i : Nat), .bool rcb, inc, .ref pl', false, .none, rd⟩) :: (pl', .list (ps.map pair)) :: R ∧
    keys root = Lk ++ Rk ∧ (rcb = false ∧ Gap false root H ps h t i Lk Rk ∨ rcb = true ∧ ∃ ib, inc = .bool ib ∧ Gap (!ib) root H ps h t i Lk Rk)) ?_ ?_
  · cases p with
    | beg =>
      obtain ⟨h1, h2, h3, h4, h5⟩ := hr
      simp only at h1 h2 h3 h4 h5
      subst h1 h2 h3 h4 h5
      simp only at *
      have e : Lk = [] := by rw [← hrg]; exact filter_none fun x hx => rfl
      subst e
      walk_at "fx*"
      refine WSs.ite ?_
      walk_at "fx*"
      rw [if_pos (by decide)]
      walk_at "fx*"
      exact ⟨⟨.ref tr, .none, .int 0, .bool false, inc, .ref pl', false, .none, rd⟩, pl', [], .beg, .refl _, rfl, ⟨⟨rfl, rfl, rfl, rfl, rfl⟩, rfl⟩, .inl ⟨rfl, rfl, rfl⟩⟩
    | fin =>
      obtain ⟨rfl, rfl, rfl, rfl, rfl⟩ := hr
      simp only at *
      have e : keys root = Lk := by rw [← hrg]; exact (filter_all fun x hx => rfl).symm
      walk_at "fx*"
      refine WSs.ite ?_
      walk_at "fx*"
      rw [if_neg (by decide)]
      walk_at "fx*"
      simp only [List.length_map]
      refine (t_seekG (w := w) (a := a) (i := root.es.length) (ps := []) (t := root) ok.wf ok.h5 ok.h1 hH hs (Gap.last ok.wf) (by omega)).post ?_
      rintro x l' ⟨rfl, ps', t', i', rfl, g'⟩
      walk_at "fx*"
      rw [e] at g'
      exact ⟨rfl, ps', 0, t', i', false, inc, [], rfl, by rw [e, List.append_nil], .inl ⟨rfl, g'.leaf⟩⟩
    | «at» k bf =>
      obtain ⟨ib, ps, h, t, i, h1, h2, h3, h4, h5, g⟩ := Ready.rgt ok hr
      have hb := hr.1
      simp only at h1 h2 h3 h4 h5 hb
      subst h1 h2 h3 h4 h5 hb
      simp only at *
      change (keys root).filter (isL k bf) = Lk at hrg
      rw [hrg] at g
      walk_at "fx*"
      refine ⟨rfl, ps, h, t, i, decide (0 < h), .bool ib, _, rfl, g.keyz ok.wf, ?_⟩
      cases h with
      | zero => exact .inl ⟨rfl, g.leaf⟩
      | succ h => exact .inr ⟨by simp, ib, rfl, g⟩
  rintro ρ' l' ⟨rfl, ps, h, t, i, rcb, inc, Rk, rfl, hkk, hg⟩
  clear hrn hr hre0
  refine WSs.while_ (fun m ρ' l' => ρ' = ([("self", .ref a), ("elt", .unb)] : Loc) ∧ ∃ ps h t i rcb inc, l' = (a, CS.O ⟨.ref tr, .ref (T.n t), .int (i : Nat), .bool rcb, inc, .ref pl', false, .none, rd⟩) :: (pl', .list (ps.map pair)) :: R ∧
    (rcb = false ∧ m = ps.length ∧ Gap false root H ps h t i Lk Rk ∨ rcb = true ∧ m = H + 1 ∧ ∃ ib, inc = .bool ib ∧ Gap (!ib) root H ps h t i Lk Rk)) (if rcb then H + 1 else ps.length) ⟨rfl, ps, h, t, i, rcb, inc, rfl, ?_⟩ ?_
  · rcases hg with ⟨rfl, g⟩ | ⟨rfl, g⟩
    · exact .inl ⟨rfl, rfl, g⟩
    · exact .inr ⟨rfl, rfl, g⟩
  clear hg
  rintro m ρ' l' ⟨rfl, ps, h, t, i, rcb, inc, rfl, hg⟩
  walk_at "fx*"
  refine WSs.iteJ (fun ρ' l' => ρ' = ([("self", .ref a), ("elt", .unb)] : Loc) ∧ ∃ ps h t i inc, l' = (a, CS.O ⟨.ref tr, .ref (T.n t), .int (i : Nat), .bool false, inc, .ref pl', false, .none, rd⟩) :: (pl', .list (ps.map pair)) :: R ∧ ps.length ≤ m ∧ Gap false root H ps h t i Lk Rk) ?_ ?_
  · walk_at "fx*"
    rcases hg with ⟨rfl, rfl, g⟩ | ⟨rfl, rfl, ib, rfl, g⟩
    · walk_at "fx*"
      exact ⟨rfl, ps, h, t, i, inc, rfl, Nat.le_refl _, g⟩
    · walk_at "fx*"
      refine WSs.ite ?_
      walk_at "fx*"
      cases ib with
      | false =>
        walk_at "fx*"
        refine (t_seekG (w := w) (a := a) (t := t) ok.wf ok.h5 ok.h1 hH hs g (by omega)).post ?_
        rintro x l' ⟨rfl, ps', t', i', rfl, g'⟩
        walk_at "fx*"
        refine ⟨rfl, ps', 0, t', i', _, rfl, ?_, g'.leaf⟩
        obtain ⟨L, RR, p, _⟩ := g'
        have := p.len
        omega
      | true =>
        walk_at "fx*"
        refine ⟨rfl, ps, h, t, i, _, rfl, ?_, g⟩
        obtain ⟨L, RR, p, _⟩ := g
        have := p.len
        omega
  rintro ρ' l' ⟨rfl, ps, h, t, i, inc, rfl, hm, g⟩
  obtain ⟨L, RR, p, _⟩ := id g
  have hrn := hs _ (p.mem (cr := cr) _ (objs_node cr t))
  have hre := hs _ (p.mem (cr := cr) _ (objs_elts cr t))
  have hlf : t.lf = (h == 0) := (p.wf ok.wf).lf
  have hsz := (p.sz ok.wf ok.h5 ok.h1).1
  have hlen := p.len
  rw [hlf] at hrn
  walk_at "fx*"
  refine WSs.ite ?_
  walk_at "fx*"
  cases i with
  | succ i =>
    have e1 : (((i + 1 : Nat) : Int) - 1) = (i : Int) := by omega
    refine ite_or (fun _ => ?_) (fun h0 => ?_)
    rotate_left
    · simp only [decide_eq_false_iff_not] at h0
      omega
    simp only [e1]
    obtain ⟨e, Lk', he, rfl, g'⟩ := g.prev
    have hi' : i < t.es.length := (List.getElem?_eq_some_iff.mp he).1
    have hx : (t.es.map V.mem)[((i : Int)).toNat]? = some (.mem e) := by simp [he]
    walk_at "fx*"
    refine WSs.iteJ (fun ρ' l' => ρ' = ([("self", .ref a), ("elt", .mem e)] : Loc) ∧ l' = (a, CS.O ⟨.ref tr, .ref (T.n t), .int (i : Nat), .bool (decide (0 < h)), .bool false, .ref pl', false, .none, rd⟩) :: (pl', .list (ps.map pair)) :: R) ?_ ?_
    · walk_at "fx*"
      cases h with
      | zero =>
        rw [show ((0 : Nat) == 0) = true from rfl]
        walk_at "fx*"
        exact ⟨rfl, rfl⟩
      | succ h =>
        rw [show (h + 1 == 0) = false from rfl]
        walk_at "fx*"
        exact ⟨rfl, by simp⟩
    rintro ρ' l' ⟨rfl, rfl⟩
    walk_at "fx*"
    have srt := ok.srt
    rw [hkk] at srt
    have hs3 := List.pairwise_append.mp srt
    have hs4 := List.pairwise_append.mp hs3.1
    refine ⟨⟨.ref tr, .ref t.n, .int (i : Nat), .bool (decide (0 < h)), .bool false, .ref pl', false, .int e, .bool true⟩, pl', _, .at e true, .refl _, rfl, ⟨rfl, rfl, ⟨true, false, rfl, rfl, rfl⟩, .inr ⟨rfl, false, ps, h, t, i, _, _, rfl, rfl, rfl, rfl, rfl, g', ?_, ?_⟩⟩, .inr ⟨Lk', e, rfl, rfl, rfl⟩⟩
    · intro x hx
      have := hs4.2.2 x hx e (.head _)
      simp [isL]; omega
    · intro x hx
      rcases List.mem_cons.mp hx with rfl | hx
      · simp [isL]
      · have := hs3.2.2 e (by simp) x hx; simp [isL]; omega
  | zero =>
    rw [show decide ((((0 : Nat) : Int) - 1) ≥ 0) = false by decide]
    walk_at "fx*"
    refine WSs.ite ?_
    rcases List.eq_nil_or_concat ps with rfl | ⟨ps, ⟨q, j⟩, rfl⟩
    · obtain rfl := g.endL
      walk_at "fx*"
      rw [if_neg (by decide)]
      walk_at "fx*"
      exact ⟨⟨.ref tr, .none, .int 0, .bool false, .bool false, .ref pl', false, .none, rd⟩, pl', [], .beg, .refl _, rfl, ⟨⟨rfl, rfl, rfl, rfl, rfl⟩, rfl⟩, .inl ⟨rfl, rfl, rfl⟩⟩
    · rw [List.concat_eq_append] at *
      have g' := g.upL ok.wf
      rw [show (ps ++ [(q, j)]).map pair = ps.map pair ++ [.tup [.ref q.n, .int j]] by simp [pair]]
      simp only [List.length_append, List.length_cons, List.length_nil] at hm hlen
      walk_at "fx*"
      refine ite_or (fun h0 => ?_) (fun h0 => ?_)
      · walk_at "fx*"
        exact ⟨ps.length, by omega, rfl, ps, h + 1, q, j, false, _, rfl, .inl ⟨rfl, rfl, g'⟩⟩
      · simp at h0
end
/-! ## FXN -/
section
variable {w : World} {a tr cr cl : Addr} {size : Int} {root : T} {H : Nat} {R : Led}
theorem t_cursorInit {n : Nat} (hn : 2 ≤ n) : Spec (cx w) (.ref 326) [.ref tr] n R (fun x l' => ∃ a c pl, x = .ref a ∧ l' = (pl, .list []) :: (a, CS.O c) :: R ∧ c.ps = .ref pl ∧ ∀ root H, CurSt tr root H c [] .beg) := by
  refine Spec.cls (by omega) (mk_Cursor w) (in_Cursor w) (ty_Cursor w) fun a => ?_
  refine Spec.fn' (by omega) [("self", .ref a), ("btree", .ref tr)] [] (ho := (rfl : (cx w).K.lookup 252 = some ⟨_, _, .func (fnX _ _ _ _ _ [] .none _ _ _ _ _ _), _⟩)) (by kernel_rfl) rfl rfl rfl rfl rfl (by decide) rfl rfl ?_
  intro Φ hsc hrm
  walk_at "fx*"
  intro pl
  walk_at "fx*"
  exact ⟨rfl, a, ⟨.ref tr, .none, .int 0, .bool false, .bool true, .ref pl, false, .none, .bool false⟩, pl, rfl, rfl, rfl, fun _ _ => ⟨⟨rfl, rfl, rfl, rfl, rfl⟩, rfl⟩⟩
theorem t_seekFirst {c : CS} {n : Nat} (hb : c.bt = .ref tr) (hn : 1 ≤ n) : Spec (cx w) (.ref 316) [.ref a] n ((a, c.O) :: R) (fun x l' => x = .none ∧ ∃ c' pl, l' = (pl, .list []) :: (a, CS.O c') :: R ∧ c'.ps = .ref pl ∧ ∀ root H, CurSt tr root H c' [] .beg) := by
  obtain ⟨bt, nd, ix, rc, inc, ps, pk, key, rd⟩ := c
  simp only at hb
  subst hb
  refine Spec.fn' (by omega) [("self", .ref a)] [] (ho := (rfl : (cx w).K.lookup 316 = some ⟨_, _, .func (fnX _ _ _ _ _ [] .none _ _ _ _ _ _), _⟩)) (by kernel_rfl) rfl rfl rfl rfl rfl (by decide) rfl rfl ?_
  intro Φ hsc hrm
  walk_at "fx*"
  intro pl
  walk_at "fx*"
  exact ⟨rfl, ⟨.ref tr, .none, .int 0, .bool false, .bool true, .ref pl, false, .none, rd⟩, pl, rfl, rfl, fun _ _ => ⟨⟨rfl, rfl, rfl, rfl, rfl⟩, rfl⟩⟩
theorem t_seekLast {c : CS} {n : Nat} (hb : c.bt = .ref tr) (hn : 1 ≤ n) : Spec (cx w) (.ref 323) [.ref a] n ((a, c.O) :: R) (fun x l' => x = .none ∧ ∃ c' pl, l' = (pl, .list []) :: (a, CS.O c') :: R ∧ c'.ps = .ref pl ∧ ∀ root H, CurSt tr root H c' [] .fin) := by
  obtain ⟨bt, nd, ix, rc, inc, ps, pk, key, rd⟩ := c
  simp only at hb
  subst hb
  refine Spec.fn' (by omega) [("self", .ref a)] [] (ho := (rfl : (cx w).K.lookup 323 = some ⟨_, _, .func (fnX _ _ _ _ _ [] .none _ _ _ _ _ _), _⟩)) (by kernel_rfl) rfl rfl rfl rfl rfl (by decide) rfl rfl ?_
  intro Φ hsc hrm
  walk_at "fx*"
  intro pl
  walk_at "fx*"
  exact ⟨rfl, ⟨.ref tr, .none, .int 1, .bool false, .bool false, .ref pl, false, .none, rd⟩, pl, rfl, rfl, fun _ _ => ⟨⟨rfl, rfl, rfl, rfl, rfl⟩, rfl⟩⟩
/-- seek, as a change of place -/
theorem t_seekP {c : CS} {k : Int} {bf : Bool} {n : Nat} (ok : TOK H root) (hH : H ≤ 1000) (hs : ∀ p ∈ objs cr root, p ∈ R) (ht : (tr, treeO cr cl root.n size) ∈ R) (hb : c.bt = .ref tr) (hn : 4 ≤ n) :
    Spec (cx w) (.ref 309) [.ref a, .int k, .bool bf] n ((a, c.O) :: R) (fun x l' => x = .none ∧ ∃ c' pl xs, LSub ((a, CS.O c') :: (pl, .list xs) :: R) l' ∧ c'.ps = .ref pl ∧ CurSt tr root H c' xs (.at k bf)) := by
  refine (t_seek ok hH hs ht hb hn).post ?_
  rintro x l' ⟨rfl, pl, ps, t, i, Lk, Rk, hl, g, hL, hR⟩
  exact ⟨rfl, _, pl, _, hl, rfl, rfl, rfl, ⟨false, bf, rfl, rfl, by simp⟩, .inr ⟨rfl, bf, ps, 0, t, i, Lk, Rk, rfl, rfl, rfl, rfl, rfl, g.leaf, hL, hR⟩⟩
end
/-! ## FXP -/
theorem x_itemTup {xs : List V} {k : Int} {z : V} {P : V → Prop} (h0 : 0 ≤ k) (h1 : k < 1000000) (hz : xs[k.toNat]? = some z) (q : P z) :
    ∃ xs' k' z', V.tup xs = .tup xs' ∧ V.int k = .int k' ∧ 0 ≤ k' ∧ k' < 1000000 ∧ xs'[k'.toNat]? = some z' ∧ P z' := ⟨_, _, _, rfl, rfl, h0, h1, hz, q⟩
local macro_rules | `(tactic| walk_at "fx e") => `(tactic| ((with_reducible show WE _ _ _ _ _ (PySem.Expr.Subscript (PySem.Expr.Name (Str.ofString "place") _) _ _) _); refine WE.itemTup ?_))
local macro_rules | `(tactic| walk_at "fx x") => `(tactic| (refine' x_itemTup ?k1 ?k2 ?k3 ?_; (case k1 => walk_at "fx arith"); (case k2 => walk_at "fx arith"); (case k3 => rfl)))

def placeV : Plc → V
  | .beg => .str "beginning"
  | .fin => .str "end"
  | .at k bf => .tup [.int k, .bool bf]
theorem placeV_ne (p : Plc) : placeV p ≠ .unb := by cases p <;> nofun
def plEnd : Plc → Bool
  | .fin => true
  | _ => false
def plBeg : Plc → Bool
  | .beg => true
  | _ => false
theorem eq_end (p : Plc) : eqPV (placeV p) (.str "end") = some (plEnd p) := by cases p <;> rfl
theorem eq_beg (p : Plc) : eqPV (placeV p) (.str "beginning") = some (plBeg p) := by cases p <;> rfl
section
variable {w : World} {kl : Addr} {ks : List Int} {l : Led}
theorem t_lawOn {p : Plc} {n : Nat} (hz : ks.length ≤ 1000) (hn : 1 ≤ n) : Spec (cx w) (.ref 531) [.ref kl, placeV p] n ((kl, .list (ks.map .int)) :: l) (fun x l' => LSub ((kl, .list (ks.map .int)) :: l) l' ∧ x = match ks.filter (fun x => !plB p x) with | [] => .none | r :: _ => .int r) := by
  refine Spec.fn' (by omega) [("keys", .ref kl), ("place", placeV p), ("key", .unb)] ["key"] (ho := (rfl : (cx w).K.lookup 531 = some ⟨_, _, .func (fnX _ _ _ _ _ [] .none _ _ _ _ _ _), _⟩)) (by kernel_rfl) rfl rfl rfl rfl rfl (by decide) rfl rfl ?_
  intro Φ hsc hrm
  have hpu := placeV_ne p
  refine WSs.ite (WB.eqP ?_)
  walk_at "fx*"
  refine ⟨_, eq_end p, ?_⟩
  refine ite_or (fun h => ?_) (fun h => ?_)
  · cases p with
    | beg => cases h
    | «at» k bf => cases h
    | fin =>
      walk_at "fx*"
      refine ⟨.refl _, ?_⟩
      rw [show ks.filter (fun x => !plB Plc.fin x) = [] from filter_none fun x hx => rfl]
  refine WSs.nil ?_
  refine WSs.forList (fun i ρ' l' => ∃ v, ρ' = ([("keys", .ref kl), ("place", placeV p), ("key", v)] : Loc) ∧ l' = (kl, .list (ks.map .int)) :: l ∧ (ks.take i).filter (fun x => !plB p x) = []) ?_
  walk_at "fx*"
  refine ⟨kl, ks.map .int, rfl, ⟨_, rfl, rfl, rfl⟩, ?_, ?_, ?_⟩
  · rintro i ρ' l' ⟨v, rfl, rfl, _⟩
    exact led_here
  · rintro i ρ' l' z it ⟨v, rfl, rfl, hf⟩ hz'
    rw [List.getElem?_map] at hz'
    obtain ⟨k0, hk0, rfl⟩ := Option.map_eq_some_iff.mp hz'
    obtain ⟨hi, hk0⟩ := List.getElem?_eq_some_iff.mp hk0
    have hsplit : ks = ks.take i ++ k0 :: ks.drop (i + 1) := by rw [← hk0, ← List.drop_eq_getElem_cons hi, List.take_append_drop]
    have ht : ks.take (i + 1) = ks.take i ++ [k0] := by rw [List.take_succ, List.getElem?_eq_getElem hi, hk0]; rfl
    refine ⟨_, PUpd.there (PUpd.there PUpd.here), ?_⟩
    refine WSs.ite (WB.or3 (WB.eqP ?_))
    walk_at "fx*"
    refine ⟨_, eq_beg p, ?_⟩
    have yes : plB p k0 = false → ∃ l₃, LSub l₃ (it :: (kl, O.list (ks.map .int)) :: l) ∧ (LSub ((kl, .list (ks.map .int)) :: l) l₃ ∧ V.int k0 = match ks.filter (fun x => !plB p x) with | [] => .none | r :: _ => .int r) := by
      intro hp
      refine ⟨(kl, .list (ks.map .int)) :: l, lsub_of_cnt fun p => by simp only [cnt_cons]; omega, .refl _, ?_⟩
      rw [hsplit, List.filter_append, hf, List.filter_cons, if_pos (by rw [hp]; rfl)]
      rfl
    have no : plB p k0 = true → (ks.take (i + 1)).filter (fun x => !plB p x) = [] := by
      intro hp
      rw [ht, List.filter_append, hf, List.filter_cons, if_neg (by rw [hp]; decide)]; rfl
    cases p with
    | fin => cases h
    | beg =>
      rw [show plBeg Plc.beg = true from rfl]
      walk_at "fx*"
      exact yes rfl
    | «at» k bf =>
      rw [show plBeg (Plc.at k bf) = false from rfl]
      rw [show placeV (Plc.at k bf) = V.tup [.int k, .bool bf] from rfl]
      walk_at "fx*"
      refine ite_or (fun h1 => ?_) (fun h1 => ?_)
      · simp only [decide_eq_true_eq] at h1
        walk_at "fx*"
        exact yes (by simp [plB, isL]; omega)
      · simp only [decide_eq_false_iff_not] at h1
        walk_at "fx*"
        refine ite_or (fun h2 => ?_) (fun h2 => ?_)
        · have h2 := eq_of_beq h2
          walk_at "fx*"
          refine ite_or (fun h3 => ?_) (fun h3 => ?_)
          · walk_at "fx*"
            exact yes (by simp [plB, isL, h3]; omega)
          · walk_at "fx*"
            refine ⟨_, .refl _, _, rfl, rfl, no (by simp [plB, isL, h3]; omega)⟩
        · have h2 : k0 ≠ k := fun e => by simp [e] at h2
          walk_at "fx*"
          refine ⟨_, .refl _, _, rfl, rfl, no (by simp [plB, isL]; omega)⟩
  · rintro ρ' l' ⟨v, rfl, rfl, hf⟩
    rw [List.length_map, List.take_length] at hf
    walk_at "fx*"
    exact ⟨.refl _, by rw [hf]⟩
end
/-! ## FXQ -/
theorem rs_back (n : Nat) : Builtin.Range.rangeSize ((n : Int) - 1) (-1) (-1) = n := by
  unfold Builtin.Range.rangeSize
  simp only [show ¬ ((-1 : Int) > 0) by decide, if_false]
  split <;> first | omega | (simp; omega) | (simp only [Int.neg_neg, Int.ediv_one]; omega)
theorem sm_back {n : Nat} (h : n ≤ 100000) : Builtin.Range.small ((n : Int) - 1) (-1) (-1) = true := by
  unfold Builtin.Range.small
  rw [rs_back]
  simp only [Builtin.Range.rangeFitsLong, Bool.and_eq_true, Bool.or_eq_true, decide_eq_true_eq, beq_iff_eq, show ¬ ((-1 : Int) > 0) by decide, if_false]
  omega
section
variable {w : World} {kl : Addr} {ks : List Int} {l : Led}
theorem t_lawBack {p : Plc} {n : Nat} (hz : ks.length ≤ 1000) (hn : 1 ≤ n) : Spec (cx w) (.ref 538) [.ref kl, placeV p] n ((kl, .list (ks.map .int)) :: l) (fun x l' => LSub ((kl, .list (ks.map .int)) :: l) l' ∧ (ks.filter (plB p) = [] ∧ x = .none ∨ ∃ L' r, ks.filter (plB p) = L' ++ [r] ∧ x = .int r)) := by
  refine Spec.fn' (by omega) [("keys", .ref kl), ("place", placeV p), ("k", .unb)] ["k"] (ho := (rfl : (cx w).K.lookup 538 = some ⟨_, _, .func (fnX _ _ _ _ _ [] .none _ _ _ _ _ _), _⟩)) (by kernel_rfl) rfl rfl rfl rfl rfl (by decide) rfl rfl ?_
  intro Φ hsc hrm
  have hpu := placeV_ne p
  refine WSs.ite (WB.eqP ?_)
  walk_at "fx*"
  refine ⟨_, eq_beg p, ?_⟩
  refine ite_or (fun h => ?_) (fun h => ?_)
  · cases p with
    | fin => cases h
    | «at» k bf => cases h
    | beg =>
      walk_at "fx*"
      exact ⟨.refl _, .inl ⟨filter_none fun x hx => rfl, rfl⟩⟩
  refine WSs.nil ?_
  refine WSs.forRange (fun i ρ' l' => ∃ v, ρ' = ([("keys", .ref kl), ("place", placeV p), ("k", v)] : Loc) ∧ l' = (kl, .list (ks.map .int)) :: l ∧ (ks.drop (ks.length - i)).filter (plB p) = []) ?_
  refine WE.range3 (b_range _) (by rw [hsc]; rfl) ?_
  walk_at "fx*"
  refine ⟨_, _, _, rfl, by decide, by decide, ?_⟩
  intro r
  simp only [List.length_map]
  refine ⟨r, _, _, _, _, ks.length, rfl, rfl, sm_back (by omega), rs_back _, ⟨_, rfl, rfl, by simp⟩, ?_, ?_⟩
  · rintro i ρ' l' it ⟨v, rfl, rfl, hf⟩ hi
    refine ⟨_, PUpd.there (PUpd.there PUpd.here), ?_⟩
    obtain ⟨j, hj⟩ : ∃ j, j = ks.length - 1 - i := ⟨_, rfl⟩
    have hjl : j < ks.length := by omega
    have e1 : ((ks.length : Int) - 1 + (i : Int) * -1) = (j : Int) := by omega
    rw [e1]
    obtain ⟨k0, hk0⟩ : ∃ k0, ks[j] = k0 := ⟨_, rfl⟩
    have hx : (ks.map V.int)[((j : Int)).toNat]? = some (.int k0) := by simp [hk0, hjl]
    have hsplit : ks = ks.take j ++ k0 :: ks.drop (j + 1) := by rw [← hk0, ← List.drop_eq_getElem_cons hjl, List.take_append_drop]
    have ht : ks.drop (ks.length - (i + 1)) = k0 :: ks.drop (ks.length - i) := by
      rw [show ks.length - (i + 1) = j by omega, show ks.length - i = j + 1 by omega, ← hk0, ← List.drop_eq_getElem_cons hjl]
    have hf' : (ks.drop (j + 1)).filter (plB p) = [] := by rw [show j + 1 = ks.length - i by omega]; exact hf
    refine WSs.ite (WB.or3 (WB.eqP ?_))
    walk_at "fx*"
    refine ⟨_, eq_end p, ?_⟩
    have yes : plB p k0 = true → ∃ l₃, LSub l₃ (it :: (kl, O.list (ks.map .int)) :: l) ∧ (LSub ((kl, .list (ks.map .int)) :: l) l₃ ∧ (ks.filter (plB p) = [] ∧ V.int k0 = .none ∨ ∃ L' r, ks.filter (plB p) = L' ++ [r] ∧ V.int k0 = .int r)) := by
      intro hp
      refine ⟨(kl, .list (ks.map .int)) :: l, lsub_of_cnt fun p => by simp only [cnt_cons]; omega, .refl _, .inr ⟨(ks.take j).filter (plB p), k0, ?_, rfl⟩⟩
      have e : ks.filter (plB p) = (ks.take j ++ k0 :: ks.drop (j + 1)).filter (plB p) := by rw [← hsplit]
      rw [e, List.filter_append, List.filter_cons, if_pos hp, hf']
    have no : plB p k0 = false → (ks.drop (ks.length - (i + 1))).filter (plB p) = [] := by
      intro hp
      rw [ht, List.filter_cons, if_neg (by rw [hp]; decide), hf]
    cases p with
    | beg => cases h
    | fin =>
      rw [show plEnd Plc.fin = true from rfl]
      walk_at "fx*"
      exact yes rfl
    | «at» k bf =>
      rw [show plEnd (Plc.at k bf) = false from rfl]
      rw [show placeV (Plc.at k bf) = V.tup [.int k, .bool bf] from rfl]
      walk_at "fx*"
      refine ite_or (fun h1 => ?_) (fun h1 => ?_)
      · simp only [decide_eq_true_eq] at h1
        walk_at "fx*"
        exact yes (by simp [plB, isL]; omega)
      · simp only [decide_eq_false_iff_not] at h1
        walk_at "fx*"
        refine ite_or (fun h2 => ?_) (fun h2 => ?_)
        · have h2 := eq_of_beq h2
          walk_at "fx*"
          cases bf with
          | true =>
            walk_at "fx*"
            refine ⟨_, .refl _, _, rfl, rfl, no (by simp [plB, isL]; omega)⟩
          | false =>
            walk_at "fx*"
            exact yes (by simp [plB, isL]; omega)
        · have h2 : k0 ≠ k := fun e => by simp [e] at h2
          walk_at "fx*"
          refine ⟨_, .refl _, _, rfl, rfl, no (by simp [plB, isL]; omega)⟩
  · rintro ρ' l' ⟨v, rfl, rfl, hf⟩
    rw [Nat.sub_self, List.drop_zero] at hf
    walk_at "fx*"
    exact ⟨.refl _, .inl ⟨hf, rfl⟩⟩
end
/-! ## FXR -/
def mk358 : List Value → Args
  | [x, v, u] => ⟨[x], [("t", v), ("original", u)]⟩
  | _ => ⟨[], []⟩
theorem t_btreeInit {w : World} {a : Addr} {n : Nat} {l : Led} (hn : 3 ≤ n) :
    SpecG (cx w) (.ref 358) mk358 [.ref a, .int 3, .none] n ((a, .inst 522 []) :: l) (fun x l' => x = .none ∧ ∃ cr cl r el ch, LSub ((a, .inst 522 [("creator", .ref cr), ("_immutable", .bool false), ("cursors", .ref cl), ("t", .int 3), ("root", .ref r), ("size", .int 0)]) :: (cl, .list []) :: (objs cr (.mk r el ch [] []) ++ l)) l') := by
  obtain ⟨n, rfl⟩ : ∃ k, n = k + 1 := ⟨n - 1, by omega⟩
  refine SpecG.fnB [("self", .ref a), ("t", .int 3), ("original", .none)] ["self", "t", "original"] [] (ho := (rfl : (cx w).K.lookup 358 = some ⟨_, _, .func (fnX _ _ _ _ _ [] _ _ _ _ _ _ _), _⟩)) (by kernel_rfl) ?_ rfl (by decide) rfl rfl ?_
  · intro s vs X hl
    match vs, hl with
    | [x, v, u], _ => exact .of_eq rfl
  intro Φ hsc hrm
  refine WSs.setAttr (WE.callName (a := 66) (g_Creator w) (by rw [hsc]; rfl) (k_Creator w) (.nil ?_))
  refine Spec.cls0 (mk_Creator w) (by kernel_rfl) fun cr => ?_
  walk_at "fx*"
  intro cl
  walk_at "fx*"
  refine WSs.ite ?_
  walk_at "fx*"
  refine WSs.ite ?_
  walk_at "fx*"
  rw [if_neg (by decide)]
  walk_at "fx*"
  refine (t_nodeInit (by omega)).post ?_
  rintro x l' ⟨r, el, ch, rfl, rfl⟩
  walk_at "fx*"
  refine ⟨rfl, cr, cl, r, el, ch, ?_⟩
  rw [objs_mk, objsL_nil]
  have e : setF ("size" : Str) (.int 0) (setF ("root" : Str) (.ref r) (setF ("t" : Str) (.int 3) (setF ("cursors" : Str) (.ref cl) (setF ("_immutable" : Str) (.bool false) (setF ("creator" : Str) (.ref cr) []))))) = ([("creator", .ref cr), ("_immutable", .bool false), ("cursors", .ref cl), ("t", .int 3), ("root", .ref r), ("size", .int 0)] : List (Str × V)) := rfl
  rw [e]
  exact (by refine lsub_of_cnt fun p => ?_; simp only [nodeO, T_n, List.map_append, List.map_cons, List.map_nil, List.map_take, List.map_drop, cnt_cons, cnt_append, cnt_nil, objs_mk, objsL_append, objsL_cons, objsL_nil, List.cons_append, List.nil_append, List.append_assoc, show ([] : List T).isEmpty = true from rfl]; omega)
/-- what the module holds, in full -/
def HasTop (h : Heap) : Prop := ∃ p loose mean mg mb, Top p loose mean mg mb h
theorem wpAt_MethodCallKw {M : Model} {A : Around} {E : Value → Shared → Prop} {s : Shared} {c : Code} {env : Env} {o : PySem.Expr} {name : Str} {apos pos : Pos} {args : List PySem.Expr} {kws : List Keyword} {pl : Sem Bool} {Q : Value → Shared → Prop}
    (h : _root_.PySem.wpAt M A c (attributeBase o name env (eval o env)) (fun ov s₁ => wpAny M A (getMethod ov name pl) (fun fx s₂ => wpAny M A (callWith pos fx.1 fx.2 (backTo pos (starEach args env)) (backToKw pos (keywordEach kws env))) Q E s₂) E s₁) E s)
    (he : eval (.Call (.Attribute o name apos) args kws pos) env = (do
      let ov ← attributeBase o name env (eval o env)
      standAt apos.atName
      let (f, first) ← holding [ov] (getMethod ov name pl)
      callWith pos f first (backTo pos (starEach args env)) (backToKw pos (keywordEach kws env))) := by rfl) :
    _root_.PySem.wpAt M A c (eval (.Call (.Attribute o name apos) args kws pos) env) Q E s := by
  rw [he]
  refine _root_.PySem.wpAt_bind (ks_wpAt_mono h (fun ov s₁ h₁ => wpAt_of_wpAny (wpAny_bind (wpAny_standAt (wpAny_bind (wpAny_holding (wpAny_mono h₁ (fun fx s₂ h₂ => ?_) fun _ _ x => x)))))) fun _ _ x => x)
  exact h₂
theorem enterK {M : Model} {A : Around} {body : List Stmt} {qual : Str} {scope : Scope} {L' f cc : Addr} {cd : Value} {P : Flow → Shared → Prop} {E : Value → Shared → Prop} {s : Shared} (base : Heap) (outer : List Env) (g : Heap) (os : OsState) (rm : Nat)
    (h : ∀ Ψ : Fx, Ψ.env = ksEnv qual scope L' f cd cc → Ψ.A = A.deeper (ksEnv qual scope L' f cd cc) → Ψ.A₀ = A → Ψ.scope = scope → Ψ.h₀ = g → Ψ.L = L' → Ψ.base = base → Ψ.outer = outer → Ψ.os = os → Ψ.rm = rm →
      _root_.PySem.wpAt M (A.deeper (ksEnv qual scope L' f cd cc)) (.func body (ksEnv qual scope L' f cd cc)) (execs body (ksEnv qual scope L' f cd cc)) P E s) :
    _root_.PySem.wpAt M (A.deeper (ksEnv qual scope L' f cd cc)) (.func body (ksEnv qual scope L' f cd cc)) (execs body (ksEnv qual scope L' f cd cc)) P E s :=
  h ⟨A, base, outer, qual, scope, L', f, cd, [("__class__", cc)], g, os, rm⟩ rfl rfl rfl rfl rfl rfl rfl rfl rfl rfl
theorem t_newSet {w : World} {Φ : Fx} {ρ : Loc} {l : Led} {np cp kp p : Pos} {k : Nat} {Q : V → Led → Prop} (hT : HasTop Φ.h₀) (hk : Φ.scope.names.lookup ("BTreeSet" : Str) = some .globalImplicit) (hr : 8 ≤ Φ.rm)
    (q : ∀ tr cr cl r el ch l', LSub (setL tr cr cl (keys (.mk r el ch [] [])).length [] [] (.mk r el ch [] []) l) l' → Q (.ref tr) l') :
    WE (cx w) Φ Φ.env ρ l (.Call (.Name "BTreeSet" np) [] [⟨some "t", .Constant (.int 3) k cp, kp⟩] p) Q := by
  refine ⟨fun ok I s F => ?_⟩
  refine wpAny_Call_Name_kw (wpull ((WE.glob (Q := fun x l' => x = .ref 522 ∧ l = l') (g_BTreeSet w) hk ⟨rfl, rfl⟩).run ok I s F) ?_)
  rintro v s₁ ⟨x, l₁, I₁, sb, F₁, S₁, rfl, rfl⟩
  cases S₁
  refine callWith_KW0 ok.kin (k_BTreeSet w) rfl (kwAll_cons (wpull ((WE.int (env := Φ.env) (i := 3) (k := k) (p := cp) (Q := fun x l' => x = .int 3 ∧ l = l') ⟨rfl, rfl⟩).run ok I₁ s₁ F₁) ?_))
  rintro v s₂ ⟨_, _, I₂, sb₂, F₂, S₂, rfl, rfl⟩
  refine kwAll_nil ⟨ok.kin.keeps F₂.keep, wpAny_call ?_⟩
  cases S₂ with
  | int _ t3 =>
  obtain ⟨m, rs, W⟩ := id F₂
  refine make_K W.fr W.news (ok.kin.keeps F₂.keep) (mk_BTreeSet w) (in_BTreeSet w) (ty_BTreeSet w) fun x dx h' F' N' h1 h2 => ?_
  have FF : FR Φ ρ ((x, .inst 522 []) :: l) I₂ { s₂ with heap := h' } := by
    refine ⟨m, _, ⟨F', W.loc, W.lnd, .cons (.inst (d := dx) (n := 0) .nil) W.raws, N', ?_, W.gens, W.os⟩⟩
    refine nodup_cons_fresh (o := instObj 522 dx) (news := (dx, dictOf [] 0) :: (rs.flatten ++ I₂)) (nodup_cons_fresh W.nodup h1) fun q hq => ?_
    rcases List.mem_cons.mp hq with rfl | hq
    · exact h2
    · exact Nat.lt_trans (h1 q hq) h2
  clear F' N'
  obtain ⟨m, rs, W⟩ := FF
  obtain ⟨pp, lo, mean, mg, mb, T⟩ := hT
  have hrd := ok.room.depth
  have hru := ok.room.units
  refine ks_code_super (env := Φ.env) (L := Φ.L) (m := m) (binds := [("self", .ref x), ("t", .int 3 t3), ("original", .none), ("in_order", .bool false)]) ok.below W.fr ok.kin W.news T ?_ rfl ok.kind (rfl : (cx w).K.lookup 498 = some _) (by kernel_rfl) ?_ ?_ ?_ ?_ (by decide)
  · exact ok.frames
  · rw [show recursionLimit = 1000 from rfl]
    show Φ.A.depth + 1 < 1000
    omega
  · exact kp_binds (ok.kin.keeps W.fr.keep) fun S => by rfl
  · intro y hy
    simp only [List.mem_cons, List.not_mem_nil, or_false] at hy
    rcases hy with rfl | rfl | rfl | rfl <;> rfl
  intro g L' h₁ Fg Fn Nn Bn Kn Tn hlt
  refine enterK Φ.base (Φ.env :: Φ.outer) g Φ.os 6 fun Ψ eE eA hA0 hsc hh hL hbs hou hos hrm => ?_
  subst hh hL
  have okΨ : Ψ.Ok (cx w).K := by
    refine ⟨by rw [hsc], by rw [hA0, hbs, hou]; exact Bn, Kn, ok.top.keeps Fg.keep, ?_⟩
    rw [eA, hrm]
    refine ⟨?_, ?_, ok.room.handled⟩
    · show Φ.A.depth + 1 + 1 + 6 < 1000
      omega
    · show Φ.A.units + 1 + 3 + 8 * 6 < 9000
      omega
  have hloc : ∀ y u, (y, u) ∈ ([("self", .ref x), ("t", .int 3), ("original", .none), ("in_order", .bool false)] : Loc) → Ψ.env.kindOf y = some .local ∧ (u ≠ .unb → ∃ v, List.lookup y ([("self", Value.ref x), ("t", .int 3 t3), ("original", .none), ("in_order", .bool false)] : List (Str × Value)).reverse = some v ∧ Sim I₂ v u) := by
    intro y u e
    refine ⟨by rw [eE]; simp only [List.mem_cons, List.not_mem_nil, or_false] at e; rcases e with e | e | e | e <;> (cases e; rfl), fun _ => ?_⟩
    simp only [List.mem_cons, List.not_mem_nil, or_false] at e
    rcases e with e | e | e | e <;> cases e
    · exact ⟨_, rfl, .ref x⟩
    · exact ⟨_, rfl, .int 3 t3⟩
    · exact ⟨_, rfl, .none⟩
    · exact ⟨_, rfl, .bool false⟩
  have hnd : ((([("self", .ref x), ("t", .int 3), ("original", .none), ("in_order", .bool false)] : Loc)).map (·.1)).Nodup := by
    show (["self", "t", "original", "in_order"] : List Str).Nodup
    decide
  have FΨ : FR Ψ [("self", .ref x), ("t", .int 3), ("original", .none), ("in_order", .bool false)] ((x, .inst 522 []) :: l) I₂ { s₂ with heap := h₁, toks := s₂.toks + 4 } :=
    ⟨_, rs, ⟨Fn, hloc, hnd, W.raws, Nn, W.nodup, W.gens, by rw [hos]; exact W.os⟩⟩
  obtain ⟨d, es, nn, IA, D⟩ := FΨ.inst (.head _)
  refine ks_wpAt_execs_cons (ks_wpAt_Expr_any (wpAt_MethodCallKw (ks_node Fn Kn Nn Tn (rfl : (cx w).K.lookup 498 = some _) rfl rfl IA rfl rfl (by kernel_rfl) rfl rfl (by kernel_rfl) (b_super w) (by decide) rfl rfl rfl rfl (by kernel_rfl) (by decide +kernel) fun so h₂ F2 N2 lt2 => ?_)))
  have nd2 := nodup_cons_fresh (o := ks_superObj 522 x 522) W.nodup lt2
  have FΨ2 : FR Ψ [("self", .ref x), ("t", .int 3), ("original", .none), ("in_order", .bool false)] ((so, .obj fun o => o = ks_superObj 522 x 522) :: (x, .inst 522 []) :: l) I₂ { s₂ with heap := h₂, toks := s₂.toks + 4 } :=
    ⟨_, _, ⟨F2, hloc, hnd, .cons (.obj (o := ks_superObj 522 x 522) rfl) W.raws, N2, nd2, W.gens, by rw [hos]; exact W.os⟩⟩
  obtain ⟨d, es, nn, IA, D⟩ := FΨ2.inst (.tail _ (.head _))
  refine ks_method F2 Kn N2 (.head _) IA (by kernel_rfl) (f2 := 358) (by kernel_rfl) (by kernel_rfl) (by decide) fun q0 h₃ F3 N3 lt3 => ?_
  have FΨ3 : FR Ψ [("self", .ref x), ("t", .int 3), ("original", .none), ("in_order", .bool false)] ((q0, .obj fun o => o = methodObj (.ref 358) (.ref x)) :: (so, .obj fun o => o = ks_superObj 522 x 522) :: (x, .inst 522 []) :: l) I₂ { s₂ with heap := h₃, toks := s₂.toks + 4 + 1 } :=
    ⟨_, _, ⟨F3, hloc, hnd, .cons (.obj (o := methodObj (.ref 358) (.ref x)) rfl) (.cons (.obj (o := ks_superObj 522 x 522) rfl) W.raws), N3, nodup_cons_fresh nd2 lt3, W.gens, by rw [hos]; exact W.os⟩⟩
  clear FΨ2 FΨ IA D
  rw [← eA, ← eE]
  generalize hS : ({ s₂ with heap := h₃, toks := s₂.toks + 4 + 1 } : Shared) = s₃ at FΨ3
  refine callWith_of (P := MethP (cx w).K q0 358 (.ref x)) rfl (keeps_M (by kernel_rfl)) (evalArgs_kw2_nil rfl (kwAll_cons ?_))
  refine wpAny_mono ((WE.name (c := cx w) (Q := fun y l' => y = .int 3 ∧ l' = _) (.tail _ (.head _)) (by nofun) ⟨rfl, rfl⟩).run okΨ I₂ s₃ FΨ3) ?_ (fun _ _ x => x.elim)
  rintro v s₄ ⟨y, l₄, I₄, sb₄, F₄, S₄, rfl, rfl⟩
  refine kwAll_cons (wpAny_mono ((WE.name (c := cx w) (Q := fun y l' => y = .none ∧ l' = _) (.tail _ (.tail _ (.head _))) (by nofun) ⟨rfl, rfl⟩).run okΨ I₄ s₄ F₄) ?_ (fun _ _ x => x.elim))
  rintro u s₅ ⟨y, l₅, I₅, sb₅, F₅, S₅, rfl, rfl⟩
  refine kwAll_nil ?_
  obtain ⟨oq, rfl, hq⟩ := F₅.obj (.head _)
  refine ⟨⟨hq, Kn.keeps F₅.keep⟩, wpAny_call (ks_codeAny_call_bound hq (codeAny_mono (t_btreeInit (w := w) (a := x) (n := 5) (l := l) (by omega) Ψ Ψ.A _ I₅ s₅ [.ref x, v, u] okΨ okΨ.frames ?_ (F₅.sub ?_) (.cons (.ref x) (.cons (S₄.mono sb₅) (.cons S₅ .nil)))) ?_))⟩
  · have := okΨ.room
    rw [hrm] at this
    exact this.mono (by omega)
  · refine lsub_of_cnt fun p => ?_
    simp only [cnt_cons]; omega
  rintro r s₆ ⟨v', rfl, y, l₆, I₆, sb₆, F₆, S₆, rfl, cr, cl, rt, el, ch, hl₆⟩
  cases S₆
  dsimp only
  refine wpAt_of_wpAny ?_
  have F₇ := F₆.sub hl₆
  have hend : ∀ s' I₈, Sub I₆ I₈ → FR Ψ [("self", .ref x), ("t", .int 3), ("original", .none), ("in_order", .bool false)] ((x, treeO cr cl rt (keys (.mk rt el ch [] [])).length) :: (cl, .list []) :: (objs cr (.mk rt el ch [] []) ++ l)) I₈ s' → LeaveK Φ.h₀ Φ.L m Ψ.h₀ (InitBack x fun r s' => match r with
      | .ok (.ret v) => Ret Φ ρ I Q v s'
      | .ok a => False
      | .error e => NoE e s') .none s' := by
    rintro s' I₈ sb₈ ⟨m', rs', W'⟩
    refine leaveK_ W'.fr W'.news fun F₂ N₂ => ⟨rfl, .ref x, _, I₈, ?_, ⟨m, rs', ⟨F₂, fun y u e => ?_, W.lnd, W'.raws, N₂, W'.nodup, W'.gens, W'.os.trans hos⟩⟩, .ref x, q x cr cl rt el ch _ (.refl _)⟩
    · exact sb.trans (sb₂.trans (sb₄.trans (sb₅.trans (sb₆.trans sb₈))))
    obtain ⟨k, hk⟩ := W.loc y u e
    exact ⟨k, fun hu => let ⟨w, hw, Sw⟩ := hk hu; ⟨w, hw, Sw.mono (sb₄.trans (sb₅.trans (sb₆.trans sb₈)))⟩⟩
  refine wpAny_mono (WSs.run (c := cx w) (Φ := Ψ) (Q := fun f ρ' l' => f = .next ∧ ρ' = ([("self", .ref x), ("t", .int 3), ("original", .none), ("in_order", .bool false)] : Loc) ∧ l' = (x, treeO cr cl rt (keys (.mk rt el ch [] [])).length) :: (cl, .list []) :: (objs cr (.mk rt el ch [] []) ++ l)) ?_ okΨ I₆ s₆ F₇) ?_ (fun _ _ x => x.elim)
  · walk_at "fx*"
    exact ⟨rfl, rfl, rfl⟩
  rintro fl s₈ ⟨y, ρ₈, l₈, I₈, sb₈, F₈, S₈, rfl, rfl, rfl⟩
  cases S₈
  exact hend _ _ sb₈ F₈
/-! ## FXS -/
theorem lookup_relab (f : Str × NameKind → NameKind) (x : Str) : ∀ names : List (Str × NameKind), (names.map fun p => (p.1, f p)).lookup x = (names.lookup x).map fun k => f (x, k)
  | [] => rfl
  | (n, k) :: r => by
    rw [List.map_cons, List.lookup_cons, List.lookup_cons, lookup_relab f x r]
    cases h : x == n with
    | true => rw [beq_iff_eq] at h; subst h; rfl
    | false => rfl
theorem kind_comp {scope : Scope} {cl : List (Str × Addr)} {C : Addr} {env : Env} {x : Str} {k : NameKind} (h : scope.names.lookup x = some k) :
    (compEnvC scope cl C env).kindOf x = some (if (k == NameKind.free && env.scope.kind == .function && env.kindOf x == some .cell) then .cell else k) := by
  show List.lookup x (scope.names.map fun p => if (p.2 == NameKind.free && env.scope.kind == .function && env.kindOf p.1 == some .cell) then (p.1, NameKind.cell) else (p.1, p.2)) = _
  have e : (scope.names.map fun p => if (p.2 == NameKind.free && env.scope.kind == .function && env.kindOf p.1 == some .cell) then (p.1, NameKind.cell) else (p.1, p.2)) =
      scope.names.map fun p => (p.1, if (p.2 == NameKind.free && env.scope.kind == .function && env.kindOf p.1 == some .cell) then NameKind.cell else p.2) := by
    refine List.map_congr_left fun p _ => ?_
    split <;> rfl
  rw [e, lookup_relab (fun p => if (p.2 == NameKind.free && env.scope.kind == .function && env.kindOf p.1 == some .cell) then NameKind.cell else p.2), h]
  rfl
theorem comp_loc {scope : Scope} {cl : List (Str × Addr)} {C : Addr} {env : Env} {x : Str} (h : scope.names.lookup x = some .local) : (compEnvC scope cl C env).kindOf x = some .local := kind_comp h
theorem comp_cell {scope : Scope} {cl : List (Str × Addr)} {C : Addr} {Φ : Fx} {x : Str} (h : scope.names.lookup x = some .free) (hk : Φ.scope.kind = .function) (hc : Φ.scope.names.lookup x = some .cell) : (compEnvC scope cl C Φ.env).kindOf x = some .cell := by
  rw [kind_comp h]
  have e1 : Φ.env.scope.kind = .function := hk
  have e2 : Φ.env.kindOf x = some .cell := hc
  rw [e1, e2]; rfl
section
variable {w : World} {tr cr cl a root : Addr} {size : Int} {as : List Addr} {l : Led} {fs : List (Str × V)} {n : Nat}
def isA (a : Addr) : V → V
  | .ref b => .bool (decide (b = a))
  | _ => .none
theorem t_register (ht : (tr, treeO cr cl root size) ∈ l) (ha : (a, O.inst 326 fs) ∈ l) (has : ∀ b ∈ as, ∃ gs, (b, O.inst 326 gs) ∈ l) (hna : a ∉ as) (hz : as.length ≤ 100) (hn : 2 ≤ n) :
    Spec (cx w) (.ref 441) [.ref tr, .ref a] n ((cl, .list (as.map .ref)) :: l) (fun x l' => x = .none ∧ LSub ((cl, .list ((as ++ [a]).map .ref)) :: l) l') := by
  refine Spec.fnC2 "self" "cursor" (by omega) (ho := (rfl : (cx w).K.lookup 441 = some ⟨_, _, .func (fnX _ _ _ _ _ [] .none _ _ _ _ _ _), _⟩)) (by kernel_rfl) (fun a b => rfl) (by decide) rfl rfl (fun n => rfl) ?_
  intro Φ C hsc hrm hcs
  refine WSs.ite ?_
  refine WB.notInBools ?_
  walk_at "fx*"
  refine WE.listComp (cl := [("cursor", C)]) ?_ (by decide) rfl (by decide) rfl ?_
  · show closureFor _ (envX Φ.qual Φ.scope Φ.L Φ.fa Φ.cd Φ.cells) = _
    rw [hcs]; rfl
  walk_at "fx*"
  refine ⟨cl, as.map .ref, fun _ => true, isA a, rfl, .tail _ (.head _), by rw [List.length_map]; omega, ?_, ?_, ?_⟩
  · intro C1 e1 e2 z hz
    exact WT.none ⟨rfl, .refl _⟩
  · intro C1 e1 e2 z hz _
    obtain ⟨b, hb, rfl⟩ := List.mem_map.mp hz
    obtain ⟨gs, hgs⟩ := has b hb
    refine WE.is_ ?_
    refine WE.compVar (.head _) rfl (comp_loc rfl) ?_
    refine WE.compCell (D := C) rfl (.tail _ (.tail _ (.tail _ (.head _)))) rfl (comp_cell rfl (by rw [hsc]) (by rw [hsc]; rfl)) ?_
    exact ⟨b, a, 326, 326, gs, fs, rfl, rfl, .tail _ (.tail _ (.tail _ (.tail _ (.tail _ hgs)))), .tail _ (.tail _ (.tail _ (.tail _ (.tail _ ha)))), rfl, .refl _⟩
  intro D
  have e : (List.map (isA a) (List.filter (fun _ => true) (as.map V.ref))) = (as.map fun b => decide (b = a)).map V.bool := by
    rw [List.filter_eq_self.mpr (fun _ _ => rfl), List.map_map, List.map_map]; rfl
  rw [e]
  refine ⟨true, D, _, rfl, rfl, .head _, ?_⟩
  have e2 : ((as.map fun b => decide (b = a)).any fun x => x == true) = false := by
    rw [List.any_eq_false]
    intro x hx
    obtain ⟨b, hb, rfl⟩ := List.mem_map.mp hx
    simp only [beq_true, decide_eq_true_eq]
    rintro rfl; exact hna hb
  rw [e2]
  walk_at "fx*"
  refine WE.cellName (D := C) (by rw [hcs]; rfl) (.tail _ (.head _)) (by show Φ.scope.names.lookup _ = _; rw [hsc]; rfl) ?_
  refine .nil ⟨.ref a, as.map .ref, _, rfl, .tail (.tail .head), by rw [List.length_map]; omega, ?_⟩
  walk_at "fx*"
  refine ⟨rfl, ?_⟩
  rw [List.map_append, List.map_cons, List.map_nil]
  refine lsub_of_cnt fun p => ?_
  simp only [cnt_cons]; omega
end
/-! ## FXT -/
/-! plain: sorted lists -/
theorem sorted_unique : ∀ {a b : List Int}, a.Perm b → a.Pairwise (· ≤ ·) → b.Pairwise (· ≤ ·) → a = b
  | [], b, h, _, _ => by rw [List.nil_perm] at h; exact h.symm
  | x :: a, [], h, _, _ => by have := h.length_eq; simp at this
  | x :: a, y :: b, h, ha, hb => by
    rw [List.pairwise_cons] at ha hb
    have e : x = y := by
      have h1 : x ∈ y :: b := h.mem_iff.mp (.head _)
      have h2 : y ∈ x :: a := h.mem_iff.mpr (.head _)
      rcases List.mem_cons.mp h1 with h1 | h1
      · exact h1
      rcases List.mem_cons.mp h2 with h2 | h2
      · exact h2.symm
      have := ha.1 y h2
      have := hb.1 x h1
      omega
    subst e
    rw [sorted_unique (List.perm_cons _ |>.mp h) ha.2 hb.2]
theorem ins_perm {k : Int} {l : List Int} (h : Srt l) : (del k l ++ [k]).Perm (ins k l) := by
  unfold ins del
  have h1 : (l.filter (· < k) ++ k :: l.filter (k < ·)).Perm (k :: (l.filter (· < k) ++ l.filter (k < ·))) := List.perm_middle
  have h2 : (l.filter (· ≠ k) ++ [k]).Perm (k :: l.filter (· ≠ k)) := List.perm_append_singleton _ _
  refine h2.trans (.trans (.cons _ ?_) h1.symm)
  clear h1 h2 h
  induction l with
  | nil => exact .refl _
  | cons a l ih =>
    rcases Int.lt_trichotomy a k with h | h | h
    · rw [List.filter_cons_of_pos (by simp; omega), List.filter_cons_of_pos (by simp; omega), List.filter_cons_of_neg (by simp; omega), List.cons_append]
      exact ih.cons _
    · subst h
      rw [List.filter_cons_of_neg (by simp), List.filter_cons_of_neg (by simp), List.filter_cons_of_neg (by simp)]
      exact ih
    · rw [List.filter_cons_of_pos (by simp; omega), List.filter_cons_of_neg (by simp; omega), List.filter_cons_of_pos (by simp; omega)]
      exact (ih.cons _).trans List.perm_middle.symm
theorem ins_le {k : Int} {l : List Int} (h : Srt l) : (ins k l).Pairwise (· ≤ ·) := (ins_srt h).imp fun h => Int.le_of_lt h
theorem sorted_ins {k : Int} {l ns : List Int} (h : Srt l) (hp : ns.Perm (del k l ++ [k])) (hs : ns.Pairwise (· ≤ ·)) : ns = ins k l := sorted_unique (hp.trans (ins_perm h)) hs (ins_le h)
theorem del_len {k : Int} {l : List Int} : (del k l).length ≤ l.length := List.length_filter_le _ _
theorem ins_len {k : Int} {l : List Int} (h : Srt l) : (ins k l).length ≤ l.length + 1 := by
  rw [← (ins_perm h).length_eq, List.length_append]
  have := del_len (k := k) (l := l)
  simp; omega
theorem TOK.h_le {h : Nat} {t : T} (ok : TOK h t) : h ≤ (keys t).length := by
  by_cases e : t.es = []
  · cases h with
    | zero => exact Nat.zero_le _
    | succ h => have := ok.h1 (by omega); rw [e] at this; simp at this
  · have h1 := List.length_pos_iff.mpr e
    have := ok.wf.size (fun _ => h1) (fun _ => e)
    omega
theorem CurSt.bt {tr root H c xs p} (h : CurSt tr root H c xs p) : c.bt = .ref tr := by
  cases p with
  | beg => exact h.1.1
  | fin => exact h.1.1
  | «at» k bf => exact h.1
/-! the ledger of the law -/
abbrev pr {α : Type} (b : Bool) (x y : α) : List α := if b then [y, x] else [x, y]
abbrev bi (b : Bool) : Int := if b then 1 else 0
theorem pr_get {α : Type} {b : Bool} {x y : α} : (pr b x y)[(bi b).toNat]? = some x := by cases b <;> rfl
theorem pr_set {α : Type} {b : Bool} {x y z : α} : (pr b x y).set (bi b).toNat z = pr b z y := by cases b <;> rfl
theorem pr_len {α : Type} {b : Bool} {x y : α} : (pr b x y).length = 2 := by cases b <;> rfl
theorem pr_map {α β : Type} {f : α → β} {b : Bool} {x y : α} : (pr b x y).map f = pr b (f x) (f y) := by cases b <;> rfl
theorem pr_swap {α : Type} {b : Bool} {x y : α} : pr b x y = pr (!b) y x := by cases b <;> rfl
theorem cnt_pr {p : Addr × O} {b : Bool} {x y : Addr × O} : cnt p (pr b x y) = FX.one p x + FX.one p y := by
  cases b <;> simp [pr, cnt_cons, cnt_nil]; omega
abbrev lawL (b : Bool) (Ct Ck Cr Cg CU PL tr cr cl a a' kl : Addr) (ks : List Int) (o1 o2 : Option V) (pv : List V) (c c' : CS) (q q' : Addr) (x x' : List V) (t : T) (r : Led) : Led :=
  (a, c.O) :: (q, .list x) :: (a', c'.O) :: (q', .list x') :: (tr, treeO cr cl t.n (keys t).length) :: (cl, .list (pr b (.ref a') (.ref a))) ::
  (Ct, .cell (some (.ref tr))) :: (Ck, .cell (some (.ref kl))) :: (Cr, .cell o1) :: (Cg, .cell o2) :: (CU, .list (pr b (.ref a) (.ref a'))) :: (PL, .list pv) :: (kl, .list (ks.map .int)) :: (objs cr t ++ r)
theorem cnt_curs {p : Addr × O} {b : Bool} {x y : Addr × CS} : cnt p (curs (pr b x y)) = FX.one p (x.1, x.2.O) + FX.one p (y.1, y.2.O) := by
  rw [curs, pr_map, cnt_pr]
section
variable {w : World} {b : Bool} {Ct Ck Cr Cg CU PL tr cr cl a a' kl : Addr} {ks : List Int} {o1 o2 : Option V} {pv : List V} {c c' : CS} {q q' : Addr} {x x' : List V} {t : T} {r l : Led} {h n : Nat} {k : Int}
theorem t_addL (ok : TOK h t) (hn : 3 * h + 15 ≤ n) : Spec (cx w) (.ref 512) [.ref tr, .int k] n (lawL b Ct Ck Cr Cg CU PL tr cr cl a a' kl ks o1 o2 pv c c' q q' x x' t r)
    (fun y l' => y = .none ∧ ∃ h' t', LSub (lawL b Ct Ck Cr Cg CU PL tr cr cl a a' kl ks o1 o2 pv c.park c'.park q q' x x' t' r) l' ∧ TOK h' t' ∧ keys t' = ins k (keys t)) := by
  refine Spec.use (t_add (h := h) (tr := tr) (cr := cr) (cl := cl) (t := t) (cs := pr b (a', c') (a, c)) (l := (q, .list x) :: (q', .list x') :: (Ct, .cell (some (.ref tr))) :: (Ck, .cell (some (.ref kl))) :: (Cr, .cell o1) :: (Cg, .cell o2) :: (CU, .list (pr b (.ref a) (.ref a'))) :: (PL, .list pv) :: (kl, .list (ks.map .int)) :: r) (by rw [pr_len]; omega) ok hn) ?_ ?_
  · refine lsub_of_cnt fun p => ?_
    simp only [setL, cnt_cons, cnt_append, cnt_curs, pr_map, cnt_pr]; omega
  rintro y l' ⟨rfl, h', t', hl, ok', hk⟩
  refine ⟨rfl, h', t', LSub.trans ?_ hl, ok', hk⟩
  refine lsub_of_cnt fun p => ?_
  simp only [setL, parkAll, cnt_cons, cnt_append, cnt_curs, pr_map, cnt_pr]; omega
theorem t_discardL (hm : k ∈ keys t) (ok : TOK h t) (hn : 2 * h + 15 ≤ n) : Spec (cx w) (.ref 519) [.ref tr, .int k] n (lawL b Ct Ck Cr Cg CU PL tr cr cl a a' kl ks o1 o2 pv c c' q q' x x' t r)
    (fun y l' => y = .none ∧ ∃ h' t', LSub (lawL b Ct Ck Cr Cg CU PL tr cr cl a a' kl ks o1 o2 pv c.park c'.park q q' x x' t' r) l' ∧ TOK h' t' ∧ keys t' = del k (keys t)) := by
  refine Spec.use (t_discard (h := h) (tr := tr) (cr := cr) (cl := cl) (t := t) (cs := pr b (a', c') (a, c)) (l := (q, .list x) :: (q', .list x') :: (Ct, .cell (some (.ref tr))) :: (Ck, .cell (some (.ref kl))) :: (Cr, .cell o1) :: (Cg, .cell o2) :: (CU, .list (pr b (.ref a) (.ref a'))) :: (PL, .list pv) :: (kl, .list (ks.map .int)) :: r) hm (by rw [pr_len]; omega) ok hn) ?_ ?_
  · refine lsub_of_cnt fun p => ?_
    simp only [setL, cnt_cons, cnt_append, cnt_curs, pr_map, cnt_pr]; omega
  rintro y l' ⟨rfl, h', t', hl, ok', hk⟩
  refine ⟨rfl, h', t', LSub.trans ?_ hl, ok', hk⟩
  refine lsub_of_cnt fun p => ?_
  simp only [setL, parkAll, cnt_cons, cnt_append, cnt_curs, pr_map, cnt_pr]; omega
theorem perm_mem {p : Addr × O} {l : Led} (h : p ∈ l) : ∃ l₀, l.Perm (p :: l₀) := let ⟨X, Y, e⟩ := List.append_of_mem h; ⟨X ++ Y, e ▸ List.perm_middle⟩
theorem t_lawOnM {p : Plc} (hm : (kl, O.list (ks.map .int)) ∈ l) (hz : ks.length ≤ 1000) (hn : 1 ≤ n) : Spec (cx w) (.ref 531) [.ref kl, placeV p] n l (fun x l' => LSub l l' ∧ x = match ks.filter (fun x => !plB p x) with | [] => .none | r :: _ => .int r) := by
  obtain ⟨l₀, hp⟩ := perm_mem hm
  exact Spec.use (t_lawOn hz hn) (.of_perm hp) fun x l' hq => ⟨LSub.trans (.of_perm hp.symm) hq.1, hq.2⟩
theorem t_lawBackM {p : Plc} (hm : (kl, O.list (ks.map .int)) ∈ l) (hz : ks.length ≤ 1000) (hn : 1 ≤ n) : Spec (cx w) (.ref 538) [.ref kl, placeV p] n l (fun x l' => LSub l l' ∧ (ks.filter (plB p) = [] ∧ x = .none ∨ ∃ L' r, ks.filter (plB p) = L' ++ [r] ∧ x = .int r)) := by
  obtain ⟨l₀, hp⟩ := perm_mem hm
  exact Spec.use (t_lawBack hz hn) (.of_perm hp) fun x l' hq => ⟨LSub.trans (.of_perm hp.symm) hq.1, hq.2⟩
end
/-! the parts of the law -/
noncomputable def lawFd (w : World) : Option FuncData := match (cx w).K.lookup 543 with | some ⟨_, _, .func fd, _⟩ => some fd | _ => none
def bodyOf (fd : Option FuncData) : List Stmt := match fd with | some fd => (match fd.body with | .stmts b => b | _ => []) | none => []
def forBody (s : Option Stmt) : List Stmt := match s with | some (.For _ _ b _ _) => b | _ => []
noncomputable def lawTurn (w : World) : List Stmt := forBody ((bodyOf (lawFd w))[9]?)
noncomputable def lawSc (w : World) : Option Scope := (lawFd w).map (·.scope)
structure LF (w : World) (Φ : Fx) (Ct Ck Cr Cg : Addr) : Prop where
  sc : lawSc w = some Φ.scope
  cs : Φ.cells = ([("gone", Cg), ("rest", Cr), ("keys", Ck), ("tree", Ct)] : List (Str × Addr))
  rm : 200 ≤ Φ.rm
  kf : Φ.scope.kind = .function
section
variable {w : World} {Φ : Fx} {ρ : Loc} {l : Led} {Q : Fl → Loc → Led → Prop}
theorem lawFd_of {oc od fd osl} (ho : (cx w).K.lookup 543 = some ⟨oc, od, .func fd, osl⟩) : lawFd w = some fd := by unfold lawFd; rw [ho]
theorem turn_of {oc od nm qu ps s0 s1 s2 s3 s4 s5 s6 s7 s8 ft fi fb fe fp rest sc dV kV doc pm an cdv ct osl} (ho : (cx w).K.lookup 543 = some ⟨oc, od, .func (fnX nm qu ps (s0 :: s1 :: s2 :: s3 :: s4 :: s5 :: s6 :: s7 :: s8 :: (.For ft fi fb fe fp) :: rest) sc [] dV kV doc pm an cdv ct), osl⟩)
    (hs : lawSc w = some Φ.scope) (h : Φ.scope = sc → WSs (cx w) Φ ρ l fb Q) : WSs (cx w) Φ ρ l (lawTurn w) Q := by
  have e : lawTurn w = fb := by unfold lawTurn; rw [lawFd_of ho]; rfl
  rw [e]
  refine h ?_
  unfold lawSc at hs
  rw [lawFd_of ho] at hs
  exact (Option.some.inj hs).symm
theorem turnB_of {oc od nm qu ps s0 s1 s2 s3 s4 s5 s6 s7 s8 ft fi t0 t1 t2 t3 t4 t5 t6 fb fe fp rest sc dV kV doc pm an cdv ct osl} (ho : (cx w).K.lookup 543 = some ⟨oc, od, .func (fnX nm qu ps (s0 :: s1 :: s2 :: s3 :: s4 :: s5 :: s6 :: s7 :: s8 :: (.For ft fi (t0 :: t1 :: t2 :: t3 :: t4 :: t5 :: t6 :: fb) fe fp) :: rest) sc [] dV kV doc pm an cdv ct), osl⟩)
    (hs : lawSc w = some Φ.scope) (h : Φ.scope = sc → WSs (cx w) Φ ρ l fb Q) : WSs (cx w) Φ ρ l ((lawTurn w).drop 7) Q := by
  have e : lawTurn w = t0 :: t1 :: t2 :: t3 :: t4 :: t5 :: t6 :: fb := by unfold lawTurn; rw [lawFd_of ho]; rfl
  rw [e]
  refine h ?_
  unfold lawSc at hs
  rw [lawFd_of ho] at hs
  exact (Option.some.inj hs).symm
theorem law_names : (lawSc w).map (fun sc => (sc.names.lookup ("tree" : Str), sc.names.lookup ("keys" : Str), sc.names.lookup ("rest" : Str), sc.names.lookup ("gone" : Str))) = some (some .cell, some .cell, some .cell, some .cell) := by kernel_rfl
end
section
variable {w : World} {Φ : Fx} {Ct Ck Cr Cg : Addr} {ρ : Loc} {l : Led} {Q : V → Led → Prop} {z : V} {p : Pos}
theorem LF.names (hL : LF w Φ Ct Ck Cr Cg) : Φ.scope.names.lookup ("tree" : Str) = some .cell ∧ Φ.scope.names.lookup ("keys" : Str) = some .cell ∧ Φ.scope.names.lookup ("rest" : Str) = some .cell ∧ Φ.scope.names.lookup ("gone" : Str) = some .cell := by
  have := law_names (w := w)
  rw [hL.sc] at this
  simpa using this
theorem WE.cTree (hL : LF w Φ Ct Ck Cr Cg) (hm : (Ct, O.cell (some z)) ∈ l) (q : Q z l) : WE (cx w) Φ Φ.env ρ l (.Name "tree" p) Q := WE.cellName (D := Ct) (by rw [hL.cs]; rfl) hm hL.names.1 q
theorem WE.cKeys (hL : LF w Φ Ct Ck Cr Cg) (hm : (Ck, O.cell (some z)) ∈ l) (q : Q z l) : WE (cx w) Φ Φ.env ρ l (.Name "keys" p) Q := WE.cellName (D := Ck) (by rw [hL.cs]; rfl) hm hL.names.2.1 q
theorem WE.cRest (hL : LF w Φ Ct Ck Cr Cg) (hm : (Cr, O.cell (some z)) ∈ l) (q : Q z l) : WE (cx w) Φ Φ.env ρ l (.Name "rest" p) Q := WE.cellName (D := Cr) (by rw [hL.cs]; rfl) hm hL.names.2.2.1 q
theorem WE.cGone (hL : LF w Φ Ct Ck Cr Cg) (hm : (Cg, O.cell (some z)) ∈ l) (q : Q z l) : WE (cx w) Φ Φ.env ρ l (.Name "gone" p) Q := WE.cellName (D := Cg) (by rw [hL.cs]; rfl) hm hL.names.2.2.2 q
end
section
variable {w : World} {Φ : Fx} {Ct Ck Cr Cg : Addr} {ρ : Loc} {l : Led} {rest : List Stmt} {Q : Fl → Loc → Led → Prop} {yp p : Pos} {e : PySem.Expr}
theorem WSs.sTree (hL : LF w Φ Ct Ck Cr Cg) (h : WE (cx w) Φ Φ.env ρ l e (fun x l₁ => ∃ o₁ l₂, LUpd Ct (.cell o₁) (.cell (some x)) l₁ l₂ ∧ WSs (cx w) Φ ρ l₂ rest Q)) (hs : swapsWith e (some (.Name "tree" yp)) p.line Φ.env = pure false := by rfl) : WSs (cx w) Φ ρ l (.Assign [.Name "tree" yp] e p :: rest) Q :=
  WSs.assignCell (D := Ct) (by rw [hL.cs]; rfl) hL.names.1 h hs
theorem WSs.sKeys (hL : LF w Φ Ct Ck Cr Cg) (h : WE (cx w) Φ Φ.env ρ l e (fun x l₁ => ∃ o₁ l₂, LUpd Ck (.cell o₁) (.cell (some x)) l₁ l₂ ∧ WSs (cx w) Φ ρ l₂ rest Q)) (hs : swapsWith e (some (.Name "keys" yp)) p.line Φ.env = pure false := by rfl) : WSs (cx w) Φ ρ l (.Assign [.Name "keys" yp] e p :: rest) Q :=
  WSs.assignCell (D := Ck) (by rw [hL.cs]; rfl) hL.names.2.1 h hs
theorem WSs.sRest (hL : LF w Φ Ct Ck Cr Cg) (h : WE (cx w) Φ Φ.env ρ l e (fun x l₁ => ∃ o₁ l₂, LUpd Cr (.cell o₁) (.cell (some x)) l₁ l₂ ∧ WSs (cx w) Φ ρ l₂ rest Q)) (hs : swapsWith e (some (.Name "rest" yp)) p.line Φ.env = pure false := by rfl) : WSs (cx w) Φ ρ l (.Assign [.Name "rest" yp] e p :: rest) Q :=
  WSs.assignCell (D := Cr) (by rw [hL.cs]; rfl) hL.names.2.2.1 h hs
theorem WSs.sGone (hL : LF w Φ Ct Ck Cr Cg) (h : WE (cx w) Φ Φ.env ρ l e (fun x l₁ => ∃ o₁ l₂, LUpd Cg (.cell o₁) (.cell (some x)) l₁ l₂ ∧ WSs (cx w) Φ ρ l₂ rest Q)) (hs : swapsWith e (some (.Name "gone" yp)) p.line Φ.env = pure false := by rfl) : WSs (cx w) Φ ρ l (.Assign [.Name "gone" yp] e p :: rest) Q :=
  WSs.assignCell (D := Cg) (by rw [hL.cs]; rfl) hL.names.2.2.2 h hs
theorem x_cell {D : Addr} {o₁ : Option V} {x : V} {l₂ : Led} {P : Led → Prop} (U : LUpd D (.cell o₁) (.cell (some x)) l l₂) (q : P l₂) : ∃ o₁ l₂, LUpd D (.cell o₁) (.cell (some x)) l l₂ ∧ P l₂ := ⟨_, _, U, q⟩
end
/-! ## FXU -/
local macro_rules | `(tactic| walk_at "fx e") => `(tactic| first
  | ((with_reducible show WE _ _ _ _ _ (PySem.Expr.Name (Str.ofString "tree") _) _); (refine' WE.cTree ?k0 ?k1 ?_; (case k0 => with_reducible assumption); (case k1 => walk_at "fx mem")))
  | ((with_reducible show WE _ _ _ _ _ (PySem.Expr.Name (Str.ofString "keys") _) _); (refine' WE.cKeys ?k0 ?k1 ?_; (case k0 => with_reducible assumption); (case k1 => walk_at "fx mem")))
  | ((with_reducible show WE _ _ _ _ _ (PySem.Expr.Name (Str.ofString "rest") _) _); (refine' WE.cRest ?k0 ?k1 ?_; (case k0 => with_reducible assumption); (case k1 => walk_at "fx mem")))
  | ((with_reducible show WE _ _ _ _ _ (PySem.Expr.Name (Str.ofString "gone") _) _); (refine' WE.cGone ?k0 ?k1 ?_; (case k0 => with_reducible assumption); (case k1 => walk_at "fx mem"))))
local macro_rules | `(tactic| walk_at "fx s") => `(tactic| first
  | ((with_reducible show WSs _ _ _ _ (Stmt.Assign [PySem.Expr.Name (Str.ofString "tree") _] _ _ :: _) _); (refine' WSs.sTree ?k0 ?_; (case k0 => with_reducible assumption)))
  | ((with_reducible show WSs _ _ _ _ (Stmt.Assign [PySem.Expr.Name (Str.ofString "keys") _] _ _ :: _) _); (refine' WSs.sKeys ?k0 ?_; (case k0 => with_reducible assumption)))
  | ((with_reducible show WSs _ _ _ _ (Stmt.Assign [PySem.Expr.Name (Str.ofString "rest") _] _ _ :: _) _); (refine' WSs.sRest ?k0 ?_; (case k0 => with_reducible assumption)))
  | ((with_reducible show WSs _ _ _ _ (Stmt.Assign [PySem.Expr.Name (Str.ofString "gone") _] _ _ :: _) _); (refine' WSs.sGone ?k0 ?_; (case k0 => with_reducible assumption))))
local macro_rules | `(tactic| walk_at "fx x") => `(tactic| (refine' x_cell ?k1 ?_; (case k1 => walk_at "fx upd")))

def St (Ct Ck Cr Cg CU PL tr cr cl : Addr) (b : Bool) (a a' : Addr) (ro : Option V) (p p' : Plc) (pv : List V) (n : Nat) (r l : Led) : Prop :=
  ∃ kl o2 c c' q q' x x' h t, LSub (lawL b Ct Ck Cr Cg CU PL tr cr cl a a' kl (keys t) ro o2 pv c c' q q' x x' t r) l ∧ TOK h t ∧ (keys t).length ≤ n ∧ CurSt tr t h c x p ∧ c.ps = .ref q ∧ CurSt tr t h c' x' p' ∧ c'.ps = .ref q'
abbrev rho (CU PL a : Addr) (b : Bool) (vsc v1 v2 v3 v4 : V) (kv : Int) (pv v5 v6 v7 : V) : Loc := [("script", vsc), ("many", v1), ("step", v2), ("k", v3), ("cursors", .ref CU), ("places", .ref PL), ("number", v4), ("kind", .int kv), ("one", .int (bi b)), ("cursor", .ref a), ("place", pv), ("due", v5), ("told", v6), ("key", v7)]
theorem swaps_cell {elt : PySem.Expr} {gens : List Comprehension} {scope : Scope} {pos yp : Pos} {y : Str} {line : Nat} {env : Env} (h : env.kindOf y = some .cell) : swapsWith (.ListComp elt gens scope pos) (some (.Name y yp)) line env = pure false := by
  show (pure (env.blockKind == .function && env.kindOf y == some .local && yp.line == (PySem.Expr.ListComp elt gens scope pos).pos.line && !(scope.names.any fun (n, k) => n == y && (k == .local || k == .cell))) : Sem Bool) = pure false
  rw [h, show ((some NameKind.cell == some NameKind.local) = false) from rfl, Bool.and_false, Bool.false_and, Bool.false_and]
theorem rs_up (m : Nat) : Builtin.Range.rangeSize 0 (m : Int) 1 = (m : Nat) := by
  unfold Builtin.Range.rangeSize
  simp only [show ((1 : Int) > 0) by decide, if_true]
  split <;> first | omega | (simp; omega) | (simp only [Int.ediv_one]; omega)
theorem sm_up {m : Nat} (h : m ≤ 100000) : Builtin.Range.small 0 (m : Int) 1 = true := by
  unfold Builtin.Range.small
  rw [rs_up, if_pos (by decide)]
  simp only [Builtin.Range.rangeFitsLong, Bool.and_eq_true, Bool.or_eq_true, decide_eq_true_eq, beq_iff_eq]
  omega
theorem LSub.cons (p : Addr × O) {a b : Led} (h : LSub a b) : LSub (p :: a) (p :: b) := lsub_of_cnt fun x => by
  have := cnt_of_lsub h x
  rw [cnt_cons, cnt_cons]; omega
def neV (k : Int) : V → Bool
  | .int i => i != k
  | _ => false
theorem neV_del {k : Int} {l : List Int} : ((l.map V.int).filter (neV k)).map (fun z => z) = (del k l).map V.int := by
  rw [List.map_id']
  unfold del
  induction l with
  | nil => rfl
  | cons a l ih =>
    rw [List.map_cons, List.filter_cons, List.filter_cons, ih]
    by_cases h : a = k
    · subst h
      rw [if_neg (by simp [neV]), if_neg (by simp)]
    · rw [if_pos (by simp [neV, h]), if_pos (by simp [h]), List.map_cons]
theorem x_setPr {PL : Addr} {b : Bool} {x y z : V} {l l4 : Led} {P : Led → Prop} (U : LUpd PL (.list (pr b x y)) (.list (pr b z y)) l l4) (q : P l4) :
    ∃ a xs k l₄, V.ref PL = .ref a ∧ V.int (bi b) = .int k ∧ 0 ≤ k ∧ k < ((xs : List V).length : Int) ∧ xs.length ≤ 1000000 ∧ LUpd a (.list xs) (.list (xs.set k.toNat z)) l l₄ ∧ P l₄ :=
  ⟨PL, pr b x y, bi b, l4, rfl, rfl, by cases b <;> decide, by rw [pr_len]; cases b <;> decide, by rw [pr_len]; decide, by rw [pr_set]; exact U, q⟩
theorem x_getPr {A : Addr} {b : Bool} {x y : V} {l : Led} {P : V → Prop} (hm : (A, O.list (pr b x y)) ∈ l) (q : P x) :
    ∃ a xs k z, V.ref A = .ref a ∧ (a, O.list xs) ∈ l ∧ V.int (bi b) = .int k ∧ 0 ≤ k ∧ k < 1000000 ∧ xs[k.toNat]? = some z ∧ P z :=
  ⟨A, pr b x y, bi b, x, rfl, hm, rfl, by cases b <;> decide, by cases b <;> decide, pr_get, q⟩
section
variable {w : World} {Φ : Fx} {Ct Ck Cr Cg CU PL tr cr cl a a' : Addr} {b : Bool} {vsc v1 v2 v3 v4 v5 v6 v7 : V} {kv r0 : Int} {p p' : Plc} {pv0 : V} {n : Nat} {r l : Led}
set_option maxHeartbeats 4000000 in
theorem t_turnB (hL : LF w Φ Ct Ck Cr Cg) (h0 : 0 ≤ kv) (h8 : kv < 8) (hz : n ≤ 47) (hst : St Ct Ck Cr Cg CU PL tr cr cl b a a' (some (.int r0)) p p' (pr b pv0 (placeV p')) n r l) :
    WSs (cx w) Φ (rho CU PL a b vsc v1 v2 v3 v4 kv (placeV p) v5 v6 v7) l ((lawTurn w).drop 7) (fun f ρ' l' => f = .next ∧ ∃ v3' p2, ρ' = rho CU PL a b vsc v1 v2 v3' v4 kv (placeV p2) v5 v6 v7 ∧
      St Ct Ck Cr Cg CU PL tr cr cl b a a' (some (.int r0)) p2 p' (pr b (placeV p2) (placeV p')) (n + 1) r l') := by
  refine turnB_of (ho := (rfl : (cx w).K.lookup 543 = some ⟨_, _, .func (fnX _ _ _ (_ :: _ :: _ :: _ :: _ :: _ :: _ :: _ :: _ :: (.For _ _ (_ :: _ :: _ :: _ :: _ :: _ :: _ :: _) _ _) :: _) _ [] _ _ _ _ _ _ _), _⟩)) hL.sc fun hsc => ?_
  have hrm := hL.rm
  obtain ⟨kl, o2, c, c', q, q', xs, x', h, t, hl, ok, hn, hc, hp, hc', hp'⟩ := hst
  refine WSs.sub ?_ hl
  clear hl
  have hh := ok.h_le
  refine WSs.iteJ (fun ρ' l' => ∃ v3' p2, ρ' = rho CU PL a b vsc v1 v2 v3' v4 kv (placeV p2) v5 v6 v7 ∧
      St Ct Ck Cr Cg CU PL tr cr cl b a a' (some (.int r0)) p2 p' (pr b pv0 (placeV p')) (n + 1) r l') ?_ ?_
  · walk_at "fx*"
    refine ite_or (fun h2 => ?_) (fun h2 => ?_)
    · walk_at "fx*"
      refine Spec.postS (t_seekP (w := w) (k := r0.fmod 97) (bf := kv == 2) ok (by omega) (fun y hy => by repeat (first | exact List.mem_append_left _ hy | refine List.Mem.tail _ ?_)) (by repeat (first | exact List.Mem.head _ | refine List.Mem.tail _ ?_)) hc.bt (by omega)) ?_
      rintro y l' ⟨rfl, c2, pl2, x2, hl2, hp2, hc2⟩
      refine ⟨_, hl2, ?_⟩
      walk_at "fx*"
      refine ⟨v3, .at (r0.fmod 97) (kv == 2), rfl, kl, o2, c2, c', pl2, q', x2, x', h, t, ?_, ok, by omega, hc2, hp2, hc', hp'⟩
      refine lsub_of_cnt fun p => ?_
      simp only [cnt_cons]; omega
    walk_at "fx*"
    refine ite_or (fun h3 => ?_) (fun h3 => ?_)
    · walk_at "fx*"
      refine Spec.postS (t_seekP (w := w) (k := r0.fmod 97) (bf := kv == 2) ok (by omega) (fun y hy => by repeat (first | exact List.mem_append_left _ hy | refine List.Mem.tail _ ?_)) (by repeat (first | exact List.Mem.head _ | refine List.Mem.tail _ ?_)) hc.bt (by omega)) ?_
      rintro y l' ⟨rfl, c2, pl2, x2, hl2, hp2, hc2⟩
      refine ⟨_, hl2, ?_⟩
      walk_at "fx*"
      refine ⟨v3, .at (r0.fmod 97) (kv == 2), rfl, kl, o2, c2, c', pl2, q', x2, x', h, t, ?_, ok, by omega, hc2, hp2, hc', hp'⟩
      refine lsub_of_cnt fun p => ?_
      simp only [cnt_cons]; omega
    refine WSs.ite ?_
    walk_at "fx*"
    refine ite_or (fun h4 => ?_) (fun h4 => ?_)
    · walk_at "fx*"
      refine ite_or (fun h5 => ?_) (fun h5 => ?_)
      · walk_at "fx*"
        refine (t_seekFirst (w := w) (tr := tr) hc.bt (by omega)).post ?_
        rintro y l' ⟨rfl, c2, pl2, rfl, hp2, hc2⟩
        walk_at "fx*"
        refine ⟨v3, .beg, rfl, kl, o2, c2, c', pl2, q', [], x', h, t, ?_, ok, by omega, hc2 _ _, hp2, hc', hp'⟩
        refine lsub_of_cnt fun p => ?_
        simp only [cnt_cons]; omega
      · refine WSs.ite ?_
        walk_at "fx*"
        rw [h4]
        walk_at "fx*"
        refine (t_seekLast (w := w) (tr := tr) hc.bt (by omega)).post ?_
        rintro y l' ⟨rfl, c2, pl2, rfl, hp2, hc2⟩
        walk_at "fx*"
        refine ⟨v3, .fin, rfl, kl, o2, c2, c', pl2, q', [], x', h, t, ?_, ok, by omega, hc2 _ _, hp2, hc', hp'⟩
        refine lsub_of_cnt fun p => ?_
        simp only [cnt_cons]; omega
    walk_at "fx*"
    refine WSs.ite ?_
    walk_at "fx*"
    rw [h4]
    walk_at "fx*"
    refine WSs.ite ?_
    walk_at "fx*"
    refine ite_or (fun h5 => ?_) (fun h5 => ?_)
    · walk_at "fx*"
      refine Spec.postS (t_addL ok (by omega)) ?_
      rintro y l' ⟨rfl, h2', t2, hl2, ok2, hk2⟩
      refine ⟨_, hl2, ?_⟩
      walk_at "fx*"
      refine WE.sorted (b_sorted w) (by rw [hsc]; rfl) ?_
      refine WE.addList ?_
      refine WE.listComp (cl := [("rest", Cr)]) ?_ (by decide) rfl (by decide) rfl ?_
      · show closureFor _ (envX Φ.qual Φ.scope Φ.L Φ.fa Φ.cd Φ.cells) = _
        rw [hL.cs]; rfl
      walk_at "fx*"
      refine ⟨kl, (keys t).map .int, neV (r0.fmod 96), fun z => z, rfl, by walk_at "fx mem", by rw [List.length_map]; omega, ?_, ?_, ?_⟩
      · intro C e1 e2 z hz
        obtain ⟨i, hi, rfl⟩ := List.mem_map.mp hz
        refine WT.one (WB.cmp ?_)
        refine WE.compVar (.head _) rfl (comp_loc rfl) ?_
        refine WE.bin ?_
        refine WE.compCell (z := .int r0) (D := Cr) rfl (by walk_at "fx mem") rfl (comp_cell rfl hL.kf hL.names.2.2.1) ?_
        refine WE.int ?_
        refine x_bin rfl (by decide) ?_
        exact x_cmpB rfl ⟨rfl, .refl _⟩
      · intro C e1 e2 z hz _
        exact WE.compVar (.head _) rfl (comp_loc rfl) ⟨rfl, .refl _⟩
      intro D
      rw [neV_del]
      walk_at "fx*"
      intro D2
      refine ⟨D, D2, (del (r0.fmod 96) (keys t)).map .int, [.int (r0.fmod 96)], rfl, rfl, by walk_at "fx mem", by walk_at "fx mem", ?_, ?_⟩
      · have := del_len (k := r0.fmod 96) (l := keys t)
        rw [List.length_map, List.length_singleton]; omega
      intro D3
      have e3 : (del (r0.fmod 96) (keys t)).map V.int ++ [.int (r0.fmod 96)] = (del (r0.fmod 96) (keys t) ++ [r0.fmod 96]).map V.int := by rw [List.map_append]; rfl
      rw [e3]
      refine ⟨D3, _, rfl, .head _, ?_, ?_⟩
      · have := del_len (k := r0.fmod 96) (l := keys t)
        rw [List.length_append, List.length_singleton]; omega
      intro D4 ns' hpm hsr
      obtain rfl := sorted_ins ok.srt hpm hsr
      rw [← hk2]
      walk_at "fx*"
      have hln := ins_len (k := r0.fmod 96) ok.srt
      rw [← hk2] at hln
      refine ⟨v3, p, rfl, D4, o2, c.park, c'.park, q, q', xs, x', h2', t2, ?_, ok2, by omega, hc.park, hp, hc'.park, hp'⟩
      refine lsub_of_cnt fun p => ?_
      simp only [cnt_cons]; omega
    · refine WSs.ite ?_
      walk_at "fx*"
      refine ite_or (fun h6 => ?_) (fun h6 => ?_)
      · refine WSs.forRange (fun i ρ' l' => ∃ v3', ρ' = rho CU PL a b vsc v1 v2 v3' v4 kv (placeV p) v5 v6 v7 ∧ St Ct Ck Cr Cg CU PL tr cr cl b a a' (some (.int r0)) p p' (pr b pv0 (placeV p')) n r l') ?_
        refine WE.range1 (b_range w) (by rw [hsc]; rfl) ?_
        refine WE.mono (Q := fun x l₁ => ∃ m : Nat, x = .int m ∧ m ≤ 3 ∧ l₁ = lawL b Ct Ck Cr Cg CU PL tr cr cl a a' kl (keys t) (some (.int r0)) o2 (pr b pv0 (placeV p')) c c' q q' xs x' t r) ?_ ?_
        · walk_at "fx*"
          exact ite_or (fun _ => WE.int ⟨1, rfl, by decide, rfl⟩) (fun _ => WE.int ⟨3, rfl, by decide, rfl⟩)
        rintro y l₁ ⟨m, rfl, hm, rfl⟩
        refine ⟨m, rfl, fun rr => ⟨rr, _, 0, m, 1, m, rfl, rfl, sm_up (by omega), rs_up m, ⟨v3, rfl, kl, o2, c, c', q, q', xs, x', h, t, .refl _, ok, hn, hc, hp, hc', hp'⟩, ?_, ?_⟩⟩
        · rintro i ρ' l' it ⟨v3', rfl, kl, o2, c, c', q, q', xs, x', h, t, hl, ok, hn, hc, hp, hc', hp'⟩ hi
          have hh := ok.h_le
          refine ⟨_, .there (.there (.there .here)), ?_⟩
          refine WSs.sub (l' := it :: lawL b Ct Ck Cr Cg CU PL tr cr cl a a' kl (keys t) (some (.int r0)) o2 (pr b pv0 (placeV p')) c c' q q' xs x' t r) ?_ (LSub.cons it hl)
          refine WSs.ite (WB.neList ?_)
          walk_at "fx*"
          intro D
          refine ⟨kl, D, keys t, [], rfl, rfl, by walk_at "fx mem", .head _, ?_⟩
          by_cases hk0 : keys t = []
          · rw [hk0, decide_eq_true rfl]
            walk_at "fx*"
            refine ⟨lawL b Ct Ck Cr Cg CU PL tr cr cl a a' kl [] (some (.int r0)) o2 (pr b pv0 (placeV p')) c c' q q' xs x' t r, ?_, _, rfl, kl, o2, c, c', q, q', xs, x', h, t, by rw [hk0]; exact .refl _, ok, hn, hc, hp, hc', hp'⟩
            refine lsub_of_cnt fun p => ?_
            simp only [cnt_cons]; omega
          rw [decide_eq_false hk0]
          walk_at "fx*"
          have hlen : 0 < (keys t).length := List.length_pos_iff.mpr hk0
          rw [List.length_map]
          generalize hj : (r0 + 5 * (0 + (i : Int) * 1)).fmod ((keys t).length : Int) = j
          have hj0 : 0 ≤ j := by rw [← hj]; exact Int.fmod_nonneg_of_pos _ (by omega)
          have hj1 : j < (keys t).length := by rw [← hj]; exact Int.fmod_lt_of_pos _ (by omega)
          obtain ⟨g, hg⟩ : ∃ g, (keys t)[j.toNat]? = some g := ⟨_, List.getElem?_eq_getElem (by omega)⟩
          have hgm : g ∈ keys t := List.mem_of_getElem? hg
          refine ⟨kl, (keys t).map .int, j, .int g, rfl, by walk_at "fx mem", rfl, hj0, by omega, by rw [List.getElem?_map, hg]; rfl, ?_⟩
          walk_at "fx*"
          refine Spec.postS (Spec.use (t_discardL (w := w) (b := b) (Ct := Ct) (Ck := Ck) (Cr := Cr) (Cg := Cg) (CU := CU) (PL := PL) (tr := tr) (cr := cr) (cl := cl) (a := a) (a' := a') (kl := kl) (ks := keys t) (o1 := some (.int r0)) (o2 := some (.int g)) (pv := pr b pv0 (placeV p')) (c := c) (c' := c') (q := q) (q' := q') (x := xs) (x' := x') (r := it :: r) hgm ok (by omega)) ?_ fun _ _ hq => hq) ?_
          · refine lsub_of_cnt fun p => ?_
            simp only [cnt_cons, cnt_append]; omega
          rintro y l'' ⟨rfl, h2', t2, hl2, ok2, hk2⟩
          refine ⟨_, hl2, ?_⟩
          walk_at "fx*"
          refine WSs.sKeys hL ?_ (swaps_cell hL.names.2.1)
          refine WE.listComp (cl := [("gone", Cg)]) ?_ (by decide) rfl (by decide) rfl ?_
          · show closureFor _ (envX Φ.qual Φ.scope Φ.L Φ.fa Φ.cd Φ.cells) = _
            rw [hL.cs]; rfl
          walk_at "fx*"
          refine ⟨kl, (keys t).map .int, neV g, fun z => z, rfl, by walk_at "fx mem", by rw [List.length_map]; omega, ?_, ?_, ?_⟩
          · intro C e1 e2 z hz
            obtain ⟨i, hi, rfl⟩ := List.mem_map.mp hz
            refine WT.one (WB.cmp ?_)
            refine WE.compVar (.head _) rfl (comp_loc rfl) ?_
            refine WE.compCell (z := .int g) (D := Cg) rfl (by walk_at "fx mem") rfl (comp_cell rfl hL.kf hL.names.2.2.2) ?_
            exact x_cmpB rfl ⟨rfl, .refl _⟩
          · intro C e1 e2 z hz _
            exact WE.compVar (.head _) rfl (comp_loc rfl) ⟨rfl, .refl _⟩
          intro D5
          rw [neV_del, ← hk2]
          walk_at "fx*"
          have hdl := del_len (k := g) (l := keys t)
          rw [← hk2] at hdl
          refine ⟨lawL b Ct Ck Cr Cg CU PL tr cr cl a a' D5 (keys t2) (some (.int r0)) (some (.int g)) (pr b pv0 (placeV p')) c.park c'.park q q' xs x' t2 r, ?_, _, rfl, D5, some (.int g), c.park, c'.park, q, q', xs, x', h2', t2, .refl _, ok2, by omega, hc.park, hp, hc'.park, hp'⟩
          refine lsub_of_cnt fun p => ?_
          simp only [cnt_cons, cnt_append]; omega
        · rintro ρ' l' ⟨v3', rfl, kl, o2, c, c', q, q', xs, x', h, t, hl, ok, hn, hc, hp, hc', hp'⟩
          walk_at "fx*"
          exact ⟨v3', p, rfl, kl, o2, c, c', q, q', xs, x', h, t, hl, ok, by omega, hc, hp, hc', hp'⟩
      · walk_at "fx*"
        exact ⟨v3, p, rfl, kl, o2, c, c', q, q', xs, x', h, t, .refl _, ok, by omega, hc, hp, hc', hp'⟩
  rintro ρ' l' ⟨v3', p2, rfl, kl, o2, c, c', q, q', x, x', h, t, hl, ok, hn, hc, hp, hc', hp'⟩
  refine WSs.sub ?_ hl
  have hpu := placeV_ne p2
  walk_at "fx*"
  refine' x_setPr ?k1 ?_
  case k1 => walk_at "fx upd"
  walk_at "fx*"
  exact ⟨rfl, v3', p2, rfl, kl, o2, c, c', q, q', x, x', h, t, .refl _, ok, hn, hc, hp, hc', hp'⟩
end
/-! ## FXV -/
section
variable {w : World} {Φ : Fx} {ρ : Loc} {l : Led} {Q : Fl → Loc → Led → Prop}
theorem turnC_of {oc od nm qu ps s0 s1 s2 s3 s4 s5 s6 s7 s8 ft fi t0 t1 t2 t3 t4 t5 t6 fb fe fp rest sc dV kV doc pm an cdv ct osl} (ho : (cx w).K.lookup 543 = some ⟨oc, od, .func (fnX nm qu ps (s0 :: s1 :: s2 :: s3 :: s4 :: s5 :: s6 :: s7 :: s8 :: (.For ft fi (t0 :: t1 :: t2 :: t3 :: t4 :: t5 :: t6 :: fb) fe fp) :: rest) sc [] dV kV doc pm an cdv ct), osl⟩)
    (hs : lawSc w = some Φ.scope) (h : Φ.scope = sc → (lawTurn w).drop 7 = fb → WSs (cx w) Φ ρ l (t5 :: t6 :: fb) Q) : WSs (cx w) Φ ρ l ((lawTurn w).drop 5) Q := by
  have e : lawTurn w = t0 :: t1 :: t2 :: t3 :: t4 :: t5 :: t6 :: fb := by unfold lawTurn; rw [lawFd_of ho]; rfl
  have e7 : (lawTurn w).drop 7 = fb := by rw [e]; rfl
  have e5 : (lawTurn w).drop 5 = t5 :: t6 :: fb := by rw [e]; rfl
  rw [e5]
  refine h ?_ e7
  unfold lawSc at hs
  rw [lawFd_of ho] at hs
  exact (Option.some.inj hs).symm
end
section
variable {w : World} {Φ : Fx} {Ct Ck Cr Cg CU PL tr cr cl a a' : Addr} {b : Bool} {vsc v1 v2 v3 v4 v5 v6 v7 : V} {kv r0 : Int} {p p' : Plc} {n : Nat} {r l : Led}
set_option maxHeartbeats 4000000 in
theorem t_turnC (hL : LF w Φ Ct Ck Cr Cg) (h0 : 0 ≤ kv) (h8 : kv < 8) (hz : n ≤ 47) (hst : St Ct Ck Cr Cg CU PL tr cr cl b a a' (some (.int r0)) p p' (pr b (placeV p) (placeV p')) n r l) :
    WSs (cx w) Φ (rho CU PL a b vsc v1 v2 v3 v4 kv (placeV p) v5 v6 v7) l ((lawTurn w).drop 5) (fun f ρ' l' => f = .next ∧ ∃ v3' v5' v6' p2, ρ' = rho CU PL a b vsc v1 v2 v3' v4 kv (placeV p2) v5' v6' v7 ∧
      St Ct Ck Cr Cg CU PL tr cr cl b a a' (some (.int r0)) p2 p' (pr b (placeV p2) (placeV p')) (n + 1) r l') := by
  refine turnC_of (ho := (rfl : (cx w).K.lookup 543 = some ⟨_, _, .func (fnX _ _ _ (_ :: _ :: _ :: _ :: _ :: _ :: _ :: _ :: _ :: (.For _ _ (_ :: _ :: _ :: _ :: _ :: _ :: _ :: _) _ _) :: _) _ [] _ _ _ _ _ _ _), _⟩)) hL.sc fun hsc e7 => ?_
  have hrm := hL.rm
  obtain ⟨kl, o2, c, c', q, q', xs, x', h, t, hl, ok, hn, hc, hp, hc', hp'⟩ := hst
  refine WSs.sub ?_ hl
  clear hl
  have hh := ok.h_le
  have hpu := placeV_ne p
  refine WSs.iteJ (fun ρ' l' => ∃ due told p2, ρ' = rho CU PL a b vsc v1 v2 v3 v4 kv (placeV p2) due told v7 ∧
      St Ct Ck Cr Cg CU PL tr cr cl b a a' (some (.int r0)) p2 p' (pr b (placeV p) (placeV p')) n r l' ∧ ((due = .none ∧ told = .none) ∨ ∃ k, due = .int k ∧ told = .mem k)) ?_ ?_
  · walk_at "fx*"
    refine ite_or (fun h2 => ?_) (fun h2 => ?_)
    · refine WSs.assign (WE.callName (g_law_on w) (by rw [hsc]; rfl) (k_law_on w) ?_)
      walk_at "fx*"
      refine Spec.postS (t_lawOnM (by walk_at "fx mem") (by omega) (by omega)) ?_
      rintro y l' ⟨hl', hy⟩
      refine ⟨_, hl', ?_⟩
      walk_at "fx*"
      refine Spec.postS (t_next (w := w) ok (by omega) (fun y hy => by repeat (first | exact List.mem_append_left _ hy | refine List.Mem.tail _ ?_)) (by repeat (first | exact List.Mem.head _ | refine List.Mem.tail _ ?_)) hc hp (by omega)) ?_
      rintro z l'' ⟨c2, pl2, xs2, p2, hl2, hp2, hc2, hm⟩
      refine ⟨_, hl2, ?_⟩
      generalize (keys t).filter (fun x => !plB p x) = F at hy hm
      cases F with
      | nil =>
        dsimp only at hm hy
        obtain ⟨rfl, rfl⟩ := hm
        subst hy
        walk_at "fx*"
        refine ⟨.none, .none, .fin, rfl, ⟨kl, o2, c2, c', pl2, q', xs2, x', h, t, .refl _, ok, hn, hc2, hp2, hc', hp'⟩, .inl ⟨rfl, rfl⟩⟩
      | cons k _ =>
        dsimp only at hm hy
        obtain ⟨rfl, rfl⟩ := hm
        subst hy
        walk_at "fx*"
        refine ⟨.int k, .mem k, .at k false, rfl, ⟨kl, o2, c2, c', pl2, q', xs2, x', h, t, .refl _, ok, hn, hc2, hp2, hc', hp'⟩, .inr ⟨k, rfl, rfl⟩⟩
    · refine WSs.ite ?_
      walk_at "fx*"
      refine ite_or (fun h3 => ?_) (fun h3 => ?_)
      · refine WSs.assign (WE.callName (g_law_back w) (by rw [hsc]; rfl) (k_law_back w) ?_)
        walk_at "fx*"
        refine Spec.postS (t_lawBackM (by walk_at "fx mem") (by omega) (by omega)) ?_
        rintro y l' ⟨hl', hy⟩
        refine ⟨_, hl', ?_⟩
        walk_at "fx*"
        refine Spec.postS (t_prev (w := w) ok (by omega) (fun y hy => by repeat (first | exact List.mem_append_left _ hy | refine List.Mem.tail _ ?_)) (by repeat (first | exact List.Mem.head _ | refine List.Mem.tail _ ?_)) hc hp (by omega)) ?_
        rintro z l'' ⟨c2, pl2, xs2, p2, hl2, hp2, hc2, hm⟩
        refine ⟨_, hl2, ?_⟩
        generalize (keys t).filter (plB p) = F at hy hm
        rcases hm with ⟨rfl, rfl, rfl⟩ | ⟨L', k, rfl, rfl, rfl⟩
        · obtain rfl : y = .none := by
            rcases hy with ⟨_, h⟩ | ⟨L, k, h, _⟩
            · exact h
            · exact absurd h (by simp)
          walk_at "fx*"
          refine ⟨.none, .none, .beg, rfl, ⟨kl, o2, c2, c', pl2, q', xs2, x', h, t, .refl _, ok, hn, hc2, hp2, hc', hp'⟩, .inl ⟨rfl, rfl⟩⟩
        · obtain rfl : y = .int k := by
            rcases hy with ⟨h, _⟩ | ⟨L, k', h, rfl⟩
            · exact absurd h (by simp)
            · have := List.append_inj_right' h rfl
              cases this; rfl
          walk_at "fx*"
          refine ⟨.int k, .mem k, .at k true, rfl, ⟨kl, o2, c2, c', pl2, q', xs2, x', h, t, .refl _, ok, hn, hc2, hp2, hc', hp'⟩, .inr ⟨k, rfl, rfl⟩⟩
      · walk_at "fx*"
        refine ⟨.none, .none, p, rfl, ⟨kl, o2, c, c', q, q', xs, x', h, t, .refl _, ok, hn, hc, hp, hc', hp'⟩, .inl ⟨rfl, rfl⟩⟩
  rintro ρ' l' ⟨due, told, p2, rfl, hst', hdt⟩
  have hpu2 := placeV_ne p2
  have fin : WSs (cx w) Φ (rho CU PL a b vsc v1 v2 v3 v4 kv (placeV p2) due told v7) l' ((lawTurn w).drop 7) (fun f ρ' l' => f = .next ∧ ∃ v3' v5' v6' p2, ρ' = rho CU PL a b vsc v1 v2 v3' v4 kv (placeV p2) v5' v6' v7 ∧
      St Ct Ck Cr Cg CU PL tr cr cl b a a' (some (.int r0)) p2 p' (pr b (placeV p2) (placeV p')) (n + 1) r l') :=
    (t_turnB hL h0 h8 hz hst').mono fun f ρ' l' ⟨e, v3', p3, hr, hs⟩ => ⟨e, v3', _, _, p3, hr, hs⟩
  rw [e7] at fin
  refine WSs.ite ?_
  rcases hdt with ⟨rfl, rfl⟩ | ⟨k, rfl, rfl⟩
  · walk_at "fx*"
    rw [if_neg (by decide)]
    walk_at "fx*"
    exact fin
  · walk_at "fx*"
    rw [if_neg (by decide)]
    walk_at "fx*"
    rw [if_neg (by simp)]
    walk_at "fx*"
    exact fin
end
/-! ## FXW -/
theorem St.swap {Ct Ck Cr Cg CU PL tr cr cl a a' : Addr} {b : Bool} {ro : Option V} {p p' : Plc} {pv : List V} {n : Nat} {r l : Led} (h : St Ct Ck Cr Cg CU PL tr cr cl b a a' ro p p' pv n r l) : St Ct Ck Cr Cg CU PL tr cr cl (!b) a' a ro p' p pv n r l := by
  obtain ⟨kl, o2, c, c', q, q', xs, x', h, t, hl, ok, hn, hc, hp, hc', hp'⟩ := h
  refine ⟨kl, o2, c', c, q', q, x', xs, h, t, LSub.trans ?_ hl, ok, hn, hc', hp', hc, hp⟩
  refine lsub_of_cnt fun p => ?_
  cases b <;> (simp only [cnt_cons, cnt_append, Bool.not_true, Bool.not_false, pr, if_true, Bool.false_eq_true, if_false]; omega)
theorem ints_at {xs : List Int} {k : Nat} (h : k < xs.length) : ∃ z : Int, (xs.map V.int)[k]? = some (.int z) := ⟨xs[k], by simp [h]⟩
section
variable {w : World} {Φ : Fx} {ρ : Loc} {l : Led} {Q : Fl → Loc → Led → Prop}
theorem turnA_of {oc od nm qu ps s0 s1 s2 s3 s4 s5 s6 s7 s8 ft fi t0 t1 t2 t3 t4 fb fe fp rest sc dV kV doc pm an cdv ct osl} (ho : (cx w).K.lookup 543 = some ⟨oc, od, .func (fnX nm qu ps (s0 :: s1 :: s2 :: s3 :: s4 :: s5 :: s6 :: s7 :: s8 :: (.For ft fi (t0 :: t1 :: t2 :: t3 :: t4 :: fb) fe fp) :: rest) sc [] dV kV doc pm an cdv ct), osl⟩)
    (hs : lawSc w = some Φ.scope) (h : Φ.scope = sc → (lawTurn w).drop 5 = fb → WSs (cx w) Φ ρ l (t0 :: t1 :: t2 :: t3 :: t4 :: fb) Q) : WSs (cx w) Φ ρ l (lawTurn w) Q := by
  have e : lawTurn w = t0 :: t1 :: t2 :: t3 :: t4 :: fb := by unfold lawTurn; rw [lawFd_of ho]; rfl
  have e5 : (lawTurn w).drop 5 = fb := by rw [e]; rfl
  rw [e]
  refine h ?_ e5
  unfold lawSc at hs
  rw [lawFd_of ho] at hs
  exact (Option.some.inj hs).symm
end
abbrev rhoT (CU PL : Addr) (vsc v1 v2 v3 v4 v5 v6 v7 v8 v9 v10 v11 : V) : Loc := [("script", vsc), ("many", v1), ("step", v2), ("k", v3), ("cursors", .ref CU), ("places", .ref PL), ("number", v4), ("kind", v5), ("one", v6), ("cursor", v7), ("place", v8), ("due", v9), ("told", v10), ("key", v11)]
section
variable {w : World} {Φ : Fx} {Ct Ck Cr Cg CU PL tr cr cl a a' : Addr} {vsc v1 v2 v3 v5 v6 v7 v8 v9 v10 v11 : V} {num : Int} {ro : Option V} {p p' : Plc} {n : Nat} {r l : Led}
set_option maxHeartbeats 4000000 in
theorem t_turn (hL : LF w Φ Ct Ck Cr Cg) (hz : n ≤ 47) (hst : St Ct Ck Cr Cg CU PL tr cr cl false a a' ro p p' [placeV p, placeV p'] n r l) :
    WSs (cx w) Φ (rhoT CU PL vsc v1 v2 v3 (.int num) v5 v6 v7 v8 v9 v10 v11) l (lawTurn w) (fun f ρ' l' => f = .next ∧ ∃ v3 v4 v5 v6 v7 v8 v9 v10 ro p p', ρ' = rhoT CU PL vsc v1 v2 v3 v4 v5 v6 v7 v8 v9 v10 v11 ∧
      St Ct Ck Cr Cg CU PL tr cr cl false a a' ro p p' [placeV p, placeV p'] (n + 1) r l') := by
  refine turnA_of (ho := (rfl : (cx w).K.lookup 543 = some ⟨_, _, .func (fnX _ _ _ (_ :: _ :: _ :: _ :: _ :: _ :: _ :: _ :: _ :: (.For _ _ (_ :: _ :: _ :: _ :: _ :: _) _ _) :: _) _ [] _ _ _ _ _ _ _), _⟩)) hL.sc fun hsc e5 => ?_
  have hrm := hL.rm
  obtain ⟨kl, o2, c, c', q, q', xs, x', h, t, hl, ok, hn, hc, hp, hc', hp'⟩ := hst
  refine WSs.sub ?_ hl
  clear hl
  have hh := ok.h_le
  have h0 : 0 ≤ num.fmod 8 := Int.fmod_nonneg_of_pos _ (by decide)
  have h8 : num.fmod 8 < 8 := Int.fmod_lt_of_pos _ (by decide)
  walk_at "fx*"
  intro D1
  walk_at "fx*"
  obtain ⟨z, hz1⟩ := ints_at (xs := [num.fdiv 8, num.fdiv 8, (num.fdiv 8).fdiv 97, (num.fdiv 8).fdiv 97, (num.fdiv 8).fdiv 2, 0, 0, 0]) (k := (num.fmod 8).toNat) (by show _ < 8; omega)
  refine ⟨D1, _, _, .int z, rfl, .head _, rfl, h0, by omega, hz1, ?_⟩
  have hb : z.fmod 2 = 0 ∨ z.fmod 2 = 1 := by
    have := Int.fmod_nonneg_of_pos z (b := 2) (by decide)
    have := Int.fmod_lt_of_pos z (b := 2) (by decide)
    omega
  walk_at "fx*"
  rcases hb with hb | hb <;> rw [hb]
  · have hcu : (pr false (V.ref a) (V.ref a'))[(0 : Int).toNat]? = some (.ref a) := rfl
    have hpl : [placeV p, placeV p'][(0 : Int).toNat]? = some (placeV p) := rfl
    walk_at "fx*"
    have st1 : St Ct Ck Cr Cg CU PL tr cr cl false a a' (some (.int (num.fdiv 8))) p p' (pr false (placeV p) (placeV p')) n r ((D1, O.list [V.int (num.fdiv 8), V.int (num.fdiv 8), V.int ((num.fdiv 8).fdiv 97), V.int ((num.fdiv 8).fdiv 97), V.int ((num.fdiv 8).fdiv 2), V.int 0, V.int 0, V.int 0]) ::
        lawL false Ct Ck Cr Cg CU PL tr cr cl a a' kl (keys t) (some (.int (num.fdiv 8))) o2 [placeV p, placeV p'] c c' q q' xs x' t r) :=
      ⟨kl, o2, c, c', q, q', xs, x', h, t, lsub_of_cnt fun y => (by simp only [cnt_cons, pr, Bool.false_eq_true, if_false]; omega), ok, hn, hc, hp, hc', hp'⟩
    rw [← e5]
    refine (t_turnC (v7 := v11) hL h0 h8 hz st1).mono ?_
    rintro f ρ' l' ⟨rfl, v3', v5', v6', p2, rfl, hs⟩
    exact ⟨rfl, _, _, _, _, _, _, _, _, _, _, _, rfl, hs⟩
  · have hcu : (pr false (V.ref a) (V.ref a'))[(1 : Int).toNat]? = some (.ref a') := rfl
    have hpl : [placeV p, placeV p'][(1 : Int).toNat]? = some (placeV p') := rfl
    walk_at "fx*"
    have st1 : St Ct Ck Cr Cg CU PL tr cr cl true a' a (some (.int (num.fdiv 8))) p' p (pr true (placeV p') (placeV p)) n r ((D1, O.list [V.int (num.fdiv 8), V.int (num.fdiv 8), V.int ((num.fdiv 8).fdiv 97), V.int ((num.fdiv 8).fdiv 97), V.int ((num.fdiv 8).fdiv 2), V.int 0, V.int 0, V.int 0]) ::
        lawL false Ct Ck Cr Cg CU PL tr cr cl a a' kl (keys t) (some (.int (num.fdiv 8))) o2 [placeV p, placeV p'] c c' q q' xs x' t r) :=
      St.swap (b := false) ⟨kl, o2, c, c', q, q', xs, x', h, t, lsub_of_cnt fun y => (by simp only [cnt_cons, pr, Bool.false_eq_true, if_false, if_true]; omega), ok, hn, hc, hp, hc', hp'⟩
    rw [← e5]
    refine (t_turnC (v7 := v11) hL h0 h8 hz st1).mono ?_
    rintro f ρ' l' ⟨rfl, v3', v5', v6', p2, rfl, hs⟩
    exact ⟨rfl, _, _, _, _, _, _, _, _, _, _, _, rfl, hs.swap⟩
end
/-! ## FXY -/
theorem flt_gt {ks A B : List Int} {k : Int} (h : Srt ks) (e : ks = A ++ k :: B) : ks.filter (fun x => !plB (.at k false) x) = B := by
  subst e
  obtain ⟨_, h2, h3⟩ := List.pairwise_append.mp h
  have h4 := List.pairwise_cons.mp h2
  rw [List.filter_append, List.filter_cons_of_neg (by simp [plB, isL]), filter_none (l := A), filter_all (l := B), List.nil_append]
  · intro x hx; have := h4.1 x hx; simp [plB, isL]; omega
  · intro x hx; have := h3 x hx k (.head _); simp [plB, isL]; omega
theorem flt_lt {ks A B : List Int} {k : Int} (h : Srt ks) (e : ks = A ++ k :: B) : ks.filter (plB (.at k true)) = A := by
  subst e
  obtain ⟨_, h2, h3⟩ := List.pairwise_append.mp h
  have h4 := List.pairwise_cons.mp h2
  rw [List.filter_append, List.filter_cons_of_neg (by simp [plB, isL]), filter_all (l := A), filter_none (l := B), List.append_nil]
  · intro x hx; have := h4.1 x hx; simp [plB, isL]; omega
  · intro x hx; have := h3 x hx k (.head _); simp [plB, isL]; omega
section
variable {w : World} {tr cr cl : Addr} {root : T} {h n : Nat} {k : Int} {L : Led} {size : Int}
theorem t_containsM (ok : TOK h root) (hs : ∀ p ∈ objs cr root, p ∈ L) (ht : (tr, treeO cr cl root.n size) ∈ L) (hn : h + 6 ≤ n) :
    Spec (cx w) (.ref 505) [.ref tr, .int k] n L (fun x l' => x = .bool (decide (k ∈ keys root)) ∧ l' = L) := by
  refine Spec.fn' (by omega) [("self", .ref tr), ("x", .int k)] [] (ho := (rfl : (cx w).K.lookup 505 = some ⟨_, _, .func (fnX _ _ _ _ _ [] .none _ _ _ _ _ _), _⟩)) (by kernel_rfl) rfl rfl rfl rfl rfl (by decide) rfl rfl ?_
  intro Φ hsc hrm
  walk_at "fx*"
  refine Spec.fn' (by omega) [("self", .ref tr), ("key", .int k)] [] (ho := (rfl : (cx w).K.lookup 387 = some ⟨_, _, .func (fnX _ _ _ _ _ [] .none _ _ _ _ _ _), _⟩)) (by kernel_rfl) rfl rfl rfl rfl rfl (by decide) rfl rfl ?_
  intro Φ' hsc' hrm'
  have hrn := hs _ (objs_node cr root)
  walk_at "fx*"
  refine (t_get (w := w) (cr := cr) h (k := k) ok.wf ok.h5 ok.srt hs (by omega)).post ?_
  rintro x l' ⟨rfl, rfl⟩
  walk_at "fx*"
  by_cases hm : k ∈ keys root
  · rw [if_pos hm]
    walk_at "fx*"
    exact ⟨by rw [decide_eq_true hm], rfl⟩
  · rw [if_neg hm]
    walk_at "fx*"
    exact ⟨by rw [decide_eq_false hm], rfl⟩
theorem t_lenM (ht : (tr, treeO cr cl root.n size) ∈ L) (hn : 1 ≤ n) : Spec (cx w) (.ref 415) [.ref tr] n L (fun x l' => x = .int size ∧ l' = L) := by
  refine Spec.fn' (by omega) [("self", .ref tr)] [] (ho := (rfl : (cx w).K.lookup 415 = some ⟨_, _, .func (fnX _ _ _ _ _ [] .none _ _ _ _ _ _), _⟩)) (by kernel_rfl) rfl rfl rfl rfl rfl (by decide) rfl rfl ?_
  intro Φ hsc hrm
  walk_at "fx*"
  exact rfl
theorem own_contains : ownOk (cx w).K 522 "__contains__" 505 = true := by kernel_rfl
theorem own_len : ownOk (cx w).K 522 "__len__" 415 = true := by kernel_rfl
end
abbrev tailL (b : Bool) (Ct Ck Cr Cg CU PL tr cr cl a a' kl : Addr) (ks : List Int) (o1 o2 : Option V) (pv : List V) (c' : CS) (q' : Addr) (x' : List V) (t : T) (r : Led) : Led :=
  (a', c'.O) :: (q', .list x') :: (tr, treeO cr cl t.n (keys t).length) :: (cl, .list (pr b (.ref a') (.ref a))) ::
  (Ct, .cell (some (.ref tr))) :: (Ck, .cell (some (.ref kl))) :: (Cr, .cell o1) :: (Cg, .cell o2) :: (CU, .list (pr b (.ref a) (.ref a'))) :: (PL, .list pv) :: (kl, .list (ks.map .int)) :: (objs cr t ++ r)
noncomputable def lawTail (w : World) : List Stmt := (bodyOf (lawFd w)).drop 10
section
variable {w : World} {Φ : Fx} {ρ : Loc} {l : Led} {Q : Fl → Loc → Led → Prop}
theorem tail_of {oc od nm qu ps s0 s1 s2 s3 s4 s5 s6 s7 s8 s9 rest sc dV kV doc pm an cdv ct osl} (ho : (cx w).K.lookup 543 = some ⟨oc, od, .func (fnX nm qu ps (s0 :: s1 :: s2 :: s3 :: s4 :: s5 :: s6 :: s7 :: s8 :: s9 :: rest) sc [] dV kV doc pm an cdv ct), osl⟩)
    (hs : lawSc w = some Φ.scope) (h : Φ.scope = sc → WSs (cx w) Φ ρ l rest Q) : WSs (cx w) Φ ρ l (lawTail w) Q := by
  have e : lawTail w = rest := by unfold lawTail; rw [lawFd_of ho]; rfl
  rw [e]
  refine h ?_
  unfold lawSc at hs
  rw [lawFd_of ho] at hs
  exact (Option.some.inj hs).symm
end
section
variable {w : World} {Φ : Fx} {Ct Ck Cr Cg CU PL tr cr cl a a' : Addr} {vsc v1 v2 v3 v4 v5 v6 v7 v8 v9 v10 v11 : V} {ro : Option V} {p p' : Plc} {pv : List V} {n : Nat} {r l : Led}
set_option maxHeartbeats 4000000 in
theorem t_tail (hL : LF w Φ Ct Ck Cr Cg) (hz : n ≤ 48) (hst : St Ct Ck Cr Cg CU PL tr cr cl false a a' ro p p' pv n r l) :
    WSs (cx w) Φ (rhoT CU PL vsc v1 v2 v3 v4 v5 v6 v7 v8 v9 v10 v11) l (lawTail w) (fun f ρ' l' => f = .ret (.bool true)) := by
  refine tail_of (ho := (rfl : (cx w).K.lookup 543 = some ⟨_, _, .func (fnX _ _ _ (_ :: _ :: _ :: _ :: _ :: _ :: _ :: _ :: _ :: _ :: _) _ [] _ _ _ _ _ _ _), _⟩)) hL.sc fun hsc => ?_
  have hrm := hL.rm
  obtain ⟨kl, o2, c, c', q, q', xs, x', h, t, hl, ok, hn, hc, hp, hc', hp'⟩ := hst
  refine WSs.sub ?_ hl
  clear hl
  have hh := ok.h_le
  refine WSs.ite (WB.or (WB.cmp ?_))
  refine WE.lenOwn (b_len w) (by rw [hsc]; rfl) ?_ (by omega)
  walk_at "fx*"
  refine ⟨tr, 522, _, 415, rfl, by walk_at "fx mem", own_len, ?_⟩
  refine (t_lenM (by walk_at "fx mem") (by omega)).post ?_
  rintro y l' ⟨rfl, rfl⟩
  refine ⟨(keys t).length, rfl, by omega, ?_⟩
  walk_at "fx*"
  rw [List.length_map]
  rw [if_neg (by simp)]
  refine WB.neList ?_
  refine WE.listComp (cl := [("tree", Ct)]) ?_ (by decide) rfl (by decide) rfl ?_
  · show closureFor _ (envX Φ.qual Φ.scope Φ.L Φ.fa Φ.cd Φ.cells) = _
    rw [hL.cs]; rfl
  walk_at "fx*"
  refine ⟨kl, (keys t).map .int, fun _ => false, fun z => z, rfl, by walk_at "fx mem", by rw [List.length_map]; omega, ?_, ?_, ?_⟩
  · intro C e1 e2 z hz
    obtain ⟨i, hi, rfl⟩ := List.mem_map.mp hz
    refine WT.one (WB.notInOwn ?_)
    refine WE.compVar (.head _) rfl (comp_loc rfl) ?_
    refine WE.compCell (z := .ref tr) (D := Ct) rfl (by walk_at "fx mem") rfl (comp_cell rfl hL.kf hL.names.1) ?_
    refine ⟨tr, 522, _, 505, rfl, by walk_at "fx mem", own_contains, ?_⟩
    refine (t_containsM (w := w) (root := t) (cr := cr) (k := i) ok (fun y hy => by repeat (first | exact List.mem_append_left _ hy | refine List.Mem.tail _ ?_)) (by repeat (first | exact List.Mem.head _ | refine List.Mem.tail _ ?_)) (by omega)).post ?_
    rintro y l' ⟨rfl, rfl⟩
    exact ⟨_, rfl, by rw [decide_eq_true hi]; rfl, .refl _⟩
  · intro C e1 e2 z hz hf
    cases hf
  intro D
  rw [List.filter_eq_nil_iff.mpr (fun _ _ => by simp), List.map_nil]
  walk_at "fx*"
  intro D2
  refine ⟨D, D2, [], [], rfl, rfl, .tail _ (.head _), .head _, ?_⟩
  rw [decide_eq_true rfl]
  walk_at "fx*"
  refine WSs.ite (WB.neList ?_)
  refine WE.tupComp (cl := [("tree", Ct), ("keys", Ck)]) ?_ (by decide) rfl (by decide) rfl ?_
  · show closureFor _ (envX Φ.qual Φ.scope Φ.L Φ.fa Φ.cd Φ.cells) = _
    rw [hL.cs]; rfl
  walk_at "fx*"
  refine ⟨_, fun _ => false, fun z => z, rfl, by decide, ?_, ?_, ?_⟩
  · intro C e1 e2 z hz
    obtain ⟨i, rfl⟩ : ∃ i : Int, z = .int i := by
      simp only [List.mem_cons, List.not_mem_nil, or_false] at hz
      rcases hz with rfl | rfl | rfl | rfl <;> exact ⟨_, rfl⟩
    refine WT.one (WB.cmp ?_)
    refine WE.inOwn ?_
    refine WE.compVar (.head _) rfl (comp_loc rfl) ?_
    refine WE.compCell (z := .ref tr) (D := Ct) rfl (by walk_at "fx mem") rfl (comp_cell rfl hL.kf hL.names.1) ?_
    refine ⟨tr, 522, _, 505, rfl, by walk_at "fx mem", own_contains, ?_⟩
    refine (t_containsM (w := w) (root := t) (cr := cr) (k := i) ok (fun y hy => by repeat (first | exact List.mem_append_left _ hy | refine List.Mem.tail _ ?_)) (by repeat (first | exact List.Mem.head _ | refine List.Mem.tail _ ?_)) (by omega)).post ?_
    rintro y l' ⟨rfl, rfl⟩
    refine ⟨_, rfl, ?_⟩
    refine WE.inInts ?_
    refine WE.compVar (.head _) rfl (comp_loc rfl) ?_
    refine WE.compCell (z := .ref kl) (D := Ck) rfl (by walk_at "fx mem") rfl (comp_cell rfl hL.kf hL.names.2.1) ?_
    refine ⟨i, kl, keys t, rfl, rfl, by walk_at "fx mem", ?_⟩
    refine x_cmpB rfl ⟨?_, .refl _⟩
    exact bne_self_eq_false _
  · intro C e1 e2 z hz hf
    cases hf
  intro D3
  rw [List.filter_eq_nil_iff.mpr (fun _ _ => by simp), List.map_nil]
  walk_at "fx*"
  intro D4
  refine ⟨D3, D4, [], [], rfl, rfl, .tail _ (.head _), .head _, ?_⟩
  rw [decide_eq_true rfl]
  have hcu : (pr false (V.ref a) (V.ref a'))[(0 : Int).toNat]? = some (.ref a) := rfl
  walk_at "fx*"
  refine Spec.use (t_seekFirst (w := w) (tr := tr) (a := a) (c := c) (R := (q, .list xs) :: tailL false Ct Ck Cr Cg CU PL tr cr cl a a' kl (keys t) ro o2 pv c' q' x' t r) hc.bt (by omega)) ?_ ?_
  · refine lsub_of_cnt fun p => ?_
    simp only [cnt_cons]; omega
  rintro y l' ⟨rfl, c2, q2, rfl, hp2, hc2⟩
  refine WSs.sub (l' := (a, CS.O c2) :: (q2, .list []) :: tailL false Ct Ck Cr Cg CU PL tr cr cl a a' kl (keys t) ro o2 pv c' q' x' t r) ?_ (lsub_of_cnt fun p => by simp only [cnt_cons]; omega)
  clear hc hp
  have hb0 : (keys t).filter (fun x => !plB .beg x) = (keys t).drop 0 := filter_all fun x hx => rfl
  refine WSs.forListE (WE.addList ?_)
  walk_at "fx*"
  intro D5
  refine ⟨kl, D5, (keys t).map .int, [.none], rfl, rfl, by walk_at "fx mem", by walk_at "fx mem", by rw [List.length_map, List.length_singleton]; omega, fun D6 => ?_⟩
  refine ⟨D6, (keys t).map .int ++ [.none], fun i ρ' l' => ∃ c q xs p vt vk, ρ' = rhoT CU PL vsc v1 v2 v3 v4 v5 v6 (.ref a) v8 v9 vt vk ∧ l' = (D6, .list ((keys t).map .int ++ [.none])) :: (D5, .list [.none]) :: (a, CS.O c) :: (q, .list xs) :: tailL false Ct Ck Cr Cg CU PL tr cr cl a a' kl (keys t) ro o2 pv c' q' x' t r ∧
    CurSt tr t h c xs p ∧ c.ps = .ref q ∧ (i ≤ (keys t).length → (keys t).filter (fun x => !plB p x) = (keys t).drop i) ∧ (i = (keys t).length + 1 → p = .fin), rfl, ?_, ?_, ?_, ?_⟩
  · exact ⟨c2, q2, [], .beg, _, _, rfl, rfl, hc2 _ _, hp2, fun _ => hb0, fun h => absurd h (by omega)⟩
  · rintro i ρ' l' ⟨c, q, xs, p, vt, vk, rfl, rfl, _⟩
    exact .head _
  · rintro i ρ' l' z it ⟨c, q, xs, p, vt, vk, rfl, rfl, hc, hp, h1, h2⟩ hz
    refine ⟨_, .there (.there (.there (.there (.there (.there (.there (.there (.there (.there (.there (.there (.there .here)))))))))))), ?_⟩
    refine WSs.sub (l' := (a, CS.O c) :: (q, .list xs) :: it :: (D6, .list ((keys t).map .int ++ [.none])) :: (D5, .list [.none]) :: tailL false Ct Ck Cr Cg CU PL tr cr cl a a' kl (keys t) ro o2 pv c' q' x' t r) ?_ (lsub_of_cnt fun p => by simp only [cnt_cons]; omega)
    have hil : i ≤ (keys t).length := by
      have := (List.getElem?_eq_some_iff.mp hz).1
      rw [List.length_append, List.length_map, List.length_singleton] at this
      omega
    have hzu : z ≠ .unb := by
      rw [List.getElem?_append] at hz
      split at hz
      · rw [List.getElem?_map] at hz
        obtain ⟨k, _, rfl⟩ := Option.map_eq_some_iff.mp hz
        nofun
      · have := List.mem_of_getElem? hz
        simp at this; subst this; nofun
    walk_at "fx*"
    refine Spec.postS (t_next (w := w) ok (by omega) (fun y hy => by repeat (first | exact List.mem_append_left _ hy | refine List.Mem.tail _ ?_)) (by repeat (first | exact List.Mem.head _ | refine List.Mem.tail _ ?_)) hc hp (by omega)) ?_
    rintro y l'' ⟨c3, pl3, xs3, p3, hl3, hp3, hc3, hm⟩
    refine ⟨_, hl3, ?_⟩
    rw [h1 hil] at hm
    walk_at "fx*"
    refine WSs.ite ?_
    rcases Nat.lt_or_eq_of_le hil with hlt | heq
    · rw [List.drop_eq_getElem_cons hlt] at hm
      obtain ⟨rfl, rfl⟩ := hm
      obtain rfl : V.int (keys t)[i] = z := by
        rw [List.getElem?_append_left (by rw [List.length_map]; exact hlt), List.getElem?_map, List.getElem?_eq_getElem hlt] at hz
        exact Option.some.inj hz
      generalize hk : (keys t)[i] = k at *
      have hsp : keys t = (keys t).take i ++ k :: (keys t).drop (i + 1) := by
        rw [← hk, ← List.drop_eq_getElem_cons hlt, List.take_append_drop]
      walk_at "fx*"
      rw [if_neg (by decide)]
      walk_at "fx*"
      rw [if_neg (by simp)]
      walk_at "fx*"
      refine ⟨(D6, .list ((keys t).map .int ++ [.none])) :: (D5, .list [.none]) :: (a, CS.O c3) :: (pl3, .list xs3) :: tailL false Ct Ck Cr Cg CU PL tr cr cl a a' kl (keys t) ro o2 pv c' q' x' t r, lsub_of_cnt fun p => (by simp only [cnt_cons]; omega), c3, pl3, xs3, _, _, _, rfl, rfl, hc3, hp3, fun _ => flt_gt ok.srt hsp, fun h => by omega⟩
    · rw [heq, List.drop_length] at hm
      obtain ⟨rfl, rfl⟩ := hm
      obtain rfl : V.none = z := by
        rw [List.getElem?_append_right (by rw [List.length_map]; omega), heq, List.length_map, Nat.sub_self] at hz
        exact Option.some.inj hz
      walk_at "fx*"
      rw [if_neg (by decide)]
      walk_at "fx*"
      refine ⟨(D6, .list ((keys t).map .int ++ [.none])) :: (D5, .list [.none]) :: (a, CS.O c3) :: (pl3, .list xs3) :: tailL false Ct Ck Cr Cg CU PL tr cr cl a a' kl (keys t) ro o2 pv c' q' x' t r, lsub_of_cnt fun p => (by simp only [cnt_cons]; omega), c3, pl3, xs3, _, _, _, rfl, rfl, hc3, hp3, fun h => by omega, fun _ => rfl⟩
  · rintro ρ' l' ⟨c, q, xs, p, vt, vk, rfl, rfl, hc, hp, h1, h2⟩
    obtain rfl := h2 (by rw [List.length_append, List.length_map]; rfl)
    clear h1 h2
    refine WSs.sub (l' := (a, CS.O c) :: (q, .list xs) :: tailL false Ct Ck Cr Cg CU PL tr cr cl a a' kl (keys t) ro o2 pv c' q' x' t r) ?_ (lsub_of_cnt fun p => by simp only [cnt_cons]; omega)
    refine WSs.forRange (fun i ρ' l' => ∃ c q xs p v3, ρ' = rhoT CU PL vsc v1 v2 v3 v4 v5 v6 (.ref a) v8 v9 vt vk ∧ l' = (a, CS.O c) :: (q, .list xs) :: tailL false Ct Ck Cr Cg CU PL tr cr cl a a' kl (keys t) ro o2 pv c' q' x' t r ∧
      CurSt tr t h c xs p ∧ c.ps = .ref q ∧ (keys t).filter (plB p) = (keys t).take ((keys t).length - i)) ?_
    refine WE.range3 (b_range w) (by rw [hsc]; rfl) ?_
    walk_at "fx*"
    rw [List.length_map]
    refine ⟨_, _, _, rfl, by decide, by decide, fun rr => ⟨rr, _, ((keys t).length : Int) - 1, -1, -1, (keys t).length, rfl, rfl, sm_back (by omega), rs_back _, ⟨c, q, xs, .fin, _, rfl, rfl, hc, hp, ?_⟩, ?_, ?_⟩⟩
    · rw [Nat.sub_zero, List.take_length]
      exact filter_all fun x hx => rfl
    · rintro i ρ' l' it ⟨c, q, xs, p, v3', rfl, rfl, hc, hp, hf⟩ hi
      refine ⟨_, .there (.there (.there .here)), ?_⟩
      refine WSs.sub (l' := (a, CS.O c) :: (q, .list xs) :: it :: tailL false Ct Ck Cr Cg CU PL tr cr cl a a' kl (keys t) ro o2 pv c' q' x' t r) ?_ (lsub_of_cnt fun p => by simp only [cnt_cons]; omega)
      refine WSs.ite ?_
      walk_at "fx*"
      refine Spec.postS (t_prev (w := w) ok (by omega) (fun y hy => by repeat (first | exact List.mem_append_left _ hy | refine List.Mem.tail _ ?_)) (by repeat (first | exact List.Mem.head _ | refine List.Mem.tail _ ?_)) hc hp (by omega)) ?_
      rintro y l'' ⟨c3, pl3, xs3, p3, hl3, hp3, hc3, hm⟩
      refine ⟨_, hl3, ?_⟩
      obtain ⟨j, hj⟩ : ∃ j, (keys t).length - i = j + 1 := ⟨(keys t).length - i - 1, by omega⟩
      have hjl : j < (keys t).length := by omega
      rw [hf, hj, List.take_succ, List.getElem?_eq_getElem hjl] at hm
      generalize hk : (keys t)[j] = k at *
      have hsp : keys t = (keys t).take j ++ k :: (keys t).drop (j + 1) := by
        rw [← hk, ← List.drop_eq_getElem_cons hjl, List.take_append_drop]
      obtain ⟨rfl, rfl⟩ : y = .mem k ∧ p3 = .at k true := by
        rcases hm with ⟨h, _⟩ | ⟨L', k', h, rfl, rfl⟩
        · exact absurd h (by simp)
        · have := List.append_inj_right' h rfl
          cases this
          exact ⟨rfl, rfl⟩
      have hx : ((keys t).map V.int)[(((keys t).length : Int) - 1 + (i : Int) * -1).toNat]? = some (.int k) := by
        rw [show (((keys t).length : Int) - 1 + (i : Int) * -1).toNat = j by omega, List.getElem?_map, List.getElem?_eq_getElem hjl, hk]; rfl
      walk_at "fx*"
      rw [if_neg (by simp)]
      walk_at "fx*"
      refine ⟨(a, CS.O c3) :: (pl3, .list xs3) :: tailL false Ct Ck Cr Cg CU PL tr cr cl a a' kl (keys t) ro o2 pv c' q' x' t r, lsub_of_cnt fun p => (by simp only [cnt_cons]; omega), c3, pl3, xs3, _, _, rfl, rfl, hc3, hp3, ?_⟩
      rw [flt_lt ok.srt hsp, show (keys t).length - (i + 1) = j by omega]
    · rintro ρ' l' ⟨c, q, xs, p, v3', rfl, rfl, hc, hp, hf⟩
      walk_at "fx*"
      refine Spec.postS (t_prev (w := w) ok (by omega) (fun y hy => by repeat (first | exact List.mem_append_left _ hy | refine List.Mem.tail _ ?_)) (by repeat (first | exact List.Mem.head _ | refine List.Mem.tail _ ?_)) hc hp (by omega)) ?_
      rintro y l'' ⟨c3, pl3, xs3, p3, hl3, hp3, hc3, hm⟩
      refine ⟨_, hl3, ?_⟩
      rw [hf, Nat.sub_self, List.take_zero] at hm
      obtain rfl : y = .none := by
        rcases hm with ⟨_, h, _⟩ | ⟨L', k', h, _⟩
        · exact h
        · exact absurd h (by simp)
      walk_at "fx*"
      rfl
end
/-! ## FXZ -/
section
variable {w : World} {Φ : Fx} {ρ : Loc} {l : Led} {Q : Fl → Loc → Led → Prop}
theorem body_of {oc od nm qu ps s0 s1 s2 s3 s4 s5 s6 s7 s8 ft fi fb fe fp rest sc dV kV doc pm an cdv ct osl} (ho : (cx w).K.lookup 543 = some ⟨oc, od, .func (fnX nm qu ps (s0 :: s1 :: s2 :: s3 :: s4 :: s5 :: s6 :: s7 :: s8 :: (.For ft fi fb fe fp) :: rest) sc [] dV kV doc pm an cdv ct), osl⟩)
    (hs : lawSc w = some Φ.scope) (h : Φ.scope = sc → lawTurn w = fb → lawTail w = rest → WSs (cx w) Φ ρ l (s0 :: s1 :: s2 :: s3 :: s4 :: s5 :: s6 :: s7 :: s8 :: (.For ft fi fb fe fp) :: rest) Q) : WSs (cx w) Φ ρ l (bodyOf (lawFd w)) Q := by
  have e : bodyOf (lawFd w) = s0 :: s1 :: s2 :: s3 :: s4 :: s5 :: s6 :: s7 :: s8 :: (.For ft fi fb fe fp) :: rest := by rw [lawFd_of ho]; rfl
  have e1 : lawTurn w = fb := by unfold lawTurn; rw [e]; rfl
  have e2 : lawTail w = rest := by unfold lawTail; rw [e]; rfl
  rw [e]
  refine h ?_ e1 e2
  unfold lawSc at hs
  rw [lawFd_of ho] at hs
  exact (Option.some.inj hs).symm
end
theorem WE.postS {c : Cx} {Φ : Fx} {env : Env} {ρ : Loc} {l : Led} {e : PySem.Expr} {Q : V → Led → Prop} (h : WE c Φ env ρ l e (fun x l' => ∃ l₂, LSub l₂ l' ∧ Q x l₂)) : WE c Φ env ρ l e Q :=
  ⟨fun ok I s F => wpull (h.run ok I s F) fun _ _ ⟨x, l', J, a, b, d, l₂, hl, q⟩ => ⟨x, l₂, J, a, b.sub hl, d, q⟩⟩
def ev (s : Int) (j : Nat) : Int := ((0 + (j : Int) * 1) * s).fmod 48 * 2
theorem ev_inj : ∀ s ∈ ([1, 5, 7, 11, 47] : List Int), ∀ i < 24, ∀ j < i, ev s i ≠ ev s j := by decide +kernel
abbrev headL (tr cr cl Ct Ck Cr Cg kl : Addr) (t : T) : Led := (tr, treeO cr cl t.n (keys t).length) :: (cl, .list []) :: (Ct, .cell (some (.ref tr))) :: (Ck, .cell (some (.ref kl))) :: (Cr, .cell none) :: (Cg, .cell none) :: (kl, .list ((keys t).map .int)) :: objs cr t
abbrev rhoH (sa : Addr) (m : Nat) (s : Int) (v3 cu pl : V) : Loc := [("script", .ref sa), ("many", .int m), ("step", .int s), ("k", v3), ("cursors", cu), ("places", pl), ("number", .unb), ("kind", .unb), ("one", .unb), ("cursor", .unb), ("place", .unb), ("due", .unb), ("told", .unb), ("key", .unb)]
section
variable {w : World} {Φ : Fx} {Ct Ck Cr Cg sa : Addr} {vs : List Value} {ns : List Int}
set_option maxHeartbeats 4000000 in
theorem t_law (hL : LF w Φ Ct Ck Cr Cg) (hT : HasTop Φ.h₀) (hl : Φ.h₀.IsList sa vs.toArray) (hi : IntsAre vs ns) (hlen : ns.length ≤ 63) :
    WSs (cx w) Φ [("script", .ref sa), ("many", .unb), ("step", .unb), ("k", .unb), ("cursors", .unb), ("places", .unb), ("number", .unb), ("kind", .unb), ("one", .unb), ("cursor", .unb), ("place", .unb), ("due", .unb), ("told", .unb), ("key", .unb)]
      [(Ct, .cell none), (Ck, .cell none), (Cr, .cell none), (Cg, .cell none)] (bodyOf (lawFd w)) (fun f ρ' l' => f = .ret (.bool true)) := by
  refine body_of (ho := (rfl : (cx w).K.lookup 543 = some ⟨_, _, .func (fnX _ _ _ (_ :: _ :: _ :: _ :: _ :: _ :: _ :: _ :: _ :: (.For _ _ _ _ _) :: _) _ [] _ _ _ _ _ _ _), _⟩)) hL.sc fun hsc eT eR => ?_
  have hrm := hL.rm
  have hvl : vs.length = ns.length := by
    have := (Sims.ofInts (I := []) hi).length
    rwa [List.length_map] at this
  refine WSs.assign (WE.mono (Q := fun x l' => ∃ m : Nat, m ≤ 24 ∧ x = .int m ∧ l' = [(Ct, .cell none), (Ck, .cell none), (Cr, .cell none), (Cg, .cell none)]) ?_ ?_)
  · refine WE.ite (WB.truthOld ?_)
    walk_at "fx*"
    refine ⟨sa, vs, rfl, hl, by omega, ?_⟩
    refine ite_or (fun h => ?_) (fun h => ?_)
    · refine WE.bin (WE.itemOld ?_)
      walk_at "fx*"
      have hn0 : 0 < ns.length := by
        rcases ns with _ | _
        · cases hi; cases h
        · exact Nat.succ_pos _
      refine ⟨sa, vs, ns, 0, ns[0], rfl, hl, hi, rfl, by decide, by decide, List.getElem?_eq_getElem hn0, ?_⟩
      walk_at "fx*"
      have h1 := Int.fmod_nonneg_of_pos ns[0] (b := 25) (by decide)
      have h2 := Int.fmod_lt_of_pos ns[0] (b := 25) (by decide)
      exact ⟨(ns[0].fmod 25).toNat, by omega, by rw [Int.toNat_of_nonneg h1], rfl⟩
    · exact WE.int ⟨20, by decide, rfl, rfl⟩
  rintro y l' ⟨m, hm, rfl, rfl⟩
  refine x_put (.there .here) ?_
  refine WSs.assign (WE.mono (Q := fun x l' => ∃ s : Int, (s = 1 ∨ s = 5 ∨ s = 7 ∨ s = 11 ∨ s = 47) ∧ x = .int s ∧ LSub [(Ct, .cell none), (Ck, .cell none), (Cr, .cell none), (Cg, .cell none)] l') ?_ ?_)
  · refine WE.ite (WB.cmp (WE.lenOld (b_len w) (by rw [hsc]; rfl) ?_))
    walk_at "fx*"
    refine ⟨sa, vs, rfl, hl, by omega, ?_⟩
    walk_at "fx*"
    refine ite_or (fun h => ?_) (fun h => ?_)
    · have hn1 : 1 < ns.length := by simp at h; omega
      walk_at "fx*"
      intro D1
      refine WE.bin (WE.itemOld ?_)
      walk_at "fx*"
      refine ⟨sa, vs, ns, 1, ns[1], rfl, hl, hi, rfl, by decide, by decide, List.getElem?_eq_getElem hn1, ?_⟩
      walk_at "fx*"
      have h1 := Int.fmod_nonneg_of_pos ns[1] (b := 5) (by decide)
      have h2 := Int.fmod_lt_of_pos ns[1] (b := 5) (by decide)
      obtain ⟨j, hj⟩ : ∃ j : Nat, (ns[1].fmod 5) = j := ⟨(ns[1].fmod 5).toNat, by omega⟩
      rw [hj]
      have hj5 : j < 5 := by omega
      obtain ⟨s, hs, hx⟩ : ∃ s : Int, (s = 1 ∨ s = 5 ∨ s = 7 ∨ s = 11 ∨ s = 47) ∧ ([V.int 1, V.int 5, V.int 7, V.int 11, V.int 47] : List V)[((j : Nat) : Int).toNat]? = some (.int s) := by
        match j, hj5 with
        | 0, _ => exact ⟨1, by decide, rfl⟩
        | 1, _ => exact ⟨5, by decide, rfl⟩
        | 2, _ => exact ⟨7, by decide, rfl⟩
        | 3, _ => exact ⟨11, by decide, rfl⟩
        | 4, _ => exact ⟨47, by decide, rfl⟩
      walk_at "fx*"
      refine ⟨s, hs, rfl, lsub_of_cnt fun p => ?_⟩
      simp only [cnt_cons]; omega
    · exact WE.int ⟨5, by decide, rfl, .refl _⟩
  rintro y l' ⟨s, hs, rfl, hsub⟩
  refine x_put (.there (.there .here)) ?_
  refine WSs.sub ?_ hsub
  clear hsub l'
  refine WSs.sTree hL (WE.postS (t_newSet hT (by rw [hsc]; rfl) (by omega) ?_))
  intro tr cr cl rt el ch l' hsub
  have ok0 : TOK 0 (.mk rt el ch [] []) := ⟨rfl, List.Pairwise.nil, Nat.zero_le _, fun h => absurd h (by decide)⟩
  have hk0 : keys (.mk rt el ch [] []) = [] := keys_leaf ..
  refine ⟨(tr, treeO cr cl (T.mk rt el ch [] []).n (keys (T.mk rt el ch [] [])).length) :: (cl, .list []) :: (Ct, .cell none) :: (Ck, .cell none) :: (Cr, .cell none) :: (Cg, .cell none) :: objs cr (.mk rt el ch [] []), ?_, ?_⟩
  · refine LSub.trans ?_ hsub
    refine lsub_of_cnt fun p => ?_
    simp only [setL, curs, List.map_nil, List.nil_append, cnt_cons, cnt_append, cnt_nil]; omega
  walk_at "fx*"
  intro kl
  walk_at "fx*"
  refine WSs.sub (l' := headL tr cr cl Ct Ck Cr Cg kl (.mk rt el ch [] [])) ?_ ?_
  rotate_left
  · refine lsub_of_cnt fun p => ?_
    have e0 : (keys (.mk rt el ch [] [])).map V.int = [] := by rw [hk0]; rfl
    simp only [e0, cnt_cons]; omega
  refine WSs.forRange (fun i ρ' l' => ∃ v3 kl h t, ρ' = rhoH sa m s v3 .unb .unb ∧ l' = headL tr cr cl Ct Ck Cr Cg kl t ∧ TOK h t ∧ (keys t).length ≤ i ∧ ∀ x ∈ keys t, ∃ j < i, x = ev s j) ?_
  refine WE.range1 (b_range w) (by rw [hsc]; rfl) ?_
  walk_at "fx*"
  refine (fun rr => ⟨rr, _, 0, m, 1, m, rfl, rfl, sm_up (by omega), rs_up m, ⟨_, kl, 0, _, rfl, rfl, ok0, by rw [hk0]; exact Nat.le_refl _, by rw [hk0]; intro x hx; cases hx⟩, ?_, ?_⟩)
  · rintro i ρ' l' it ⟨v3, kl, h, t, rfl, rfl, ok, hn, hk⟩ hi
    refine ⟨_, .there (.there (.there .here)), ?_⟩
    have hh := ok.h_le
    walk_at "fx*"
    have hnot : ev s i ∉ keys t := by
      intro hm'
      obtain ⟨j, hj, e⟩ := hk _ hm'
      exact ev_inj s (by rcases hs with rfl | rfl | rfl | rfl | rfl <;> decide) i (by omega) j hj e
    refine Spec.postS (Spec.use (t_add (w := w) (h := h) (tr := tr) (cr := cr) (cl := cl) (t := t) (cs := []) (k := ev s i) (n := Φ.rm) (l := it :: (Ct, .cell (some (.ref tr))) :: (Ck, .cell (some (.ref kl))) :: (Cr, .cell none) :: (Cg, .cell none) :: [(kl, .list ((keys t).map .int))]) (by decide) ok (by omega)) ?_ fun _ _ hq => hq) ?_
    · refine lsub_of_cnt fun p => ?_
      simp only [setL, curs, List.map_nil, List.nil_append, cnt_cons, cnt_append, cnt_nil]; omega
    rintro y l'' ⟨rfl, h', t', hl2, ok', hk'⟩
    refine ⟨it :: (tr, treeO cr cl t'.n (keys t').length) :: (cl, .list []) :: (Ct, .cell (some (.ref tr))) :: (Ck, .cell (some (.ref kl))) :: (Cr, .cell none) :: (Cg, .cell none) :: (kl, .list ((keys t).map .int)) :: objs cr t', ?_, ?_⟩
    · refine LSub.trans ?_ hl2
      refine lsub_of_cnt fun p => ?_
      simp only [setL, parkAll, curs, List.map_nil, List.nil_append, cnt_cons, cnt_append, cnt_nil]; omega
    walk_at "fx*"
    refine WE.sorted (b_sorted w) (by rw [hsc]; rfl) ?_
    refine WE.addList ?_
    walk_at "fx*"
    intro D2
    refine ⟨kl, D2, (keys t).map .int, [.int (ev s i)], rfl, rfl, by walk_at "fx mem", .head _, ?_, ?_⟩
    · rw [List.length_map, List.length_singleton]; omega
    intro D3
    have e3 : (keys t).map V.int ++ [.int (ev s i)] = (del (ev s i) (keys t) ++ [ev s i]).map V.int := by rw [del_no hnot, List.map_append]; rfl
    rw [e3]
    refine ⟨D3, _, rfl, .head _, ?_, ?_⟩
    · rw [del_no hnot, List.length_append, List.length_singleton]; omega
    intro D4 ns' hpm hsr
    obtain rfl := sorted_ins ok.srt hpm hsr
    rw [← hk']
    walk_at "fx*"
    have hln := ins_len (k := ev s i) ok.srt
    rw [← hk'] at hln
    refine ⟨headL tr cr cl Ct Ck Cr Cg D4 t', ?_, _, D4, h', t', rfl, rfl, ok', by omega, ?_⟩
    · refine lsub_of_cnt fun p => ?_
      simp only [cnt_cons]; omega
    · intro x hx
      rw [hk', ins_mem] at hx
      rcases hx with rfl | hx
      · exact ⟨i, Nat.lt_succ_self _, rfl⟩
      · obtain ⟨j, hj, e⟩ := hk x hx
        exact ⟨j, by omega, e⟩
  rintro ρ' l' ⟨v3, kl, h, t, rfl, rfl, ok, hn, hk⟩
  clear hk hk0 ok0
  refine WSs.assign (WE.list (WEs.cons (WE.callName (g_Cursor w) (by rw [hsc]; rfl) (k_Cursor w) ?_)))
  walk_at "fx*"
  refine (t_cursorInit (w := w) (tr := tr) (by omega)).post ?_
  rintro y l' ⟨a0, c0, q0, rfl, rfl, hp0, hc0⟩
  refine WEs.cons (WE.callName (g_Cursor w) (by rw [hsc]; rfl) (k_Cursor w) ?_)
  walk_at "fx*"
  refine (t_cursorInit (w := w) (tr := tr) (by omega)).post ?_
  rintro y l' ⟨a1, c1, q1, rfl, rfl, hp1, hc1⟩
  walk_at "fx*"
  intro CU
  have hcu1 : ([V.ref a0, V.ref a1] : List V)[(1 : Int).toNat]? = some (.ref a1) := rfl
  have hcu0 : ([V.ref a0, V.ref a1] : List V)[(0 : Int).toNat]? = some (.ref a0) := rfl
  walk_at "fx*"
  intro PL
  walk_at "fx*"
  refine Spec.postS (Spec.use (t_register (w := w) (tr := tr) (cr := cr) (cl := cl) (a := a1) (as := []) (root := t.n) (size := (keys t).length) (l := (PL, .list [.str "beginning", .str "beginning"]) :: (CU, .list [.ref a0, .ref a1]) :: (q1, .list []) :: (a1, c1.O) :: (q0, .list []) :: (a0, c0.O) :: (tr, treeO cr cl t.n (keys t).length) :: (Ct, .cell (some (.ref tr))) :: (Ck, .cell (some (.ref kl))) :: (Cr, .cell none) :: (Cg, .cell none) :: (kl, .list ((keys t).map .int)) :: objs cr t)
    (by repeat (first | exact List.Mem.head _ | refine List.Mem.tail _ ?_)) (by repeat (first | exact List.Mem.head _ | refine List.Mem.tail _ ?_)) (fun b hb => by cases hb) (by simp) (by decide) (by omega)) ?_ fun _ _ hq => hq) ?_
  · refine lsub_of_cnt fun p => ?_
    simp only [cnt_cons, List.map_nil]; omega
  rintro y l' ⟨rfl, hl1⟩
  refine ⟨_, hl1, ?_⟩
  walk_at "fx*"
  refine Spec.apart fun hnd => ?_
  have hne : a0 ≠ a1 := by
    rintro rfl
    simp at hnd
  refine Spec.postS (Spec.use (t_register (w := w) (tr := tr) (cr := cr) (cl := cl) (a := a0) (as := [a1]) (root := t.n) (size := (keys t).length) (l := (PL, .list [.str "beginning", .str "beginning"]) :: (CU, .list [.ref a0, .ref a1]) :: (q1, .list []) :: (a1, c1.O) :: (q0, .list []) :: (a0, c0.O) :: (tr, treeO cr cl t.n (keys t).length) :: (Ct, .cell (some (.ref tr))) :: (Ck, .cell (some (.ref kl))) :: (Cr, .cell none) :: (Cg, .cell none) :: (kl, .list ((keys t).map .int)) :: objs cr t)
    (by repeat (first | exact List.Mem.head _ | refine List.Mem.tail _ ?_)) (by repeat (first | exact List.Mem.head _ | refine List.Mem.tail _ ?_)) (fun b hb => by obtain rfl := List.mem_singleton.mp hb; exact ⟨_, by repeat (first | exact List.Mem.head _ | refine List.Mem.tail _ ?_)⟩) (by simp [hne]) (Nat.le_of_ble_eq_true rfl) (by omega)) ?_ fun _ _ hq => hq) ?_
  · exact .refl _
  rintro y l' ⟨rfl, hl2⟩
  refine ⟨_, hl2, ?_⟩
  refine WSs.sub (l' := lawL false Ct Ck Cr Cg CU PL tr cr cl a0 a1 kl (keys t) none none [placeV .beg, placeV .beg] c0 c1 q0 q1 [] [] t []) ?_ ?_
  rotate_left
  · refine lsub_of_cnt fun p => ?_
    have e1 : (PL, O.list [V.str "beginning", V.str "beginning"]) = (PL, .list [placeV .beg, placeV .beg]) := rfl
    have e2 : (CU, O.list [V.ref a0, V.ref a1]) = (CU, .list (pr false (.ref a0) (.ref a1))) := rfl
    have e3 : (cl, O.list (([a1] ++ [a0]).map V.ref)) = (cl, .list (pr false (.ref a1) (.ref a0))) := rfl
    rw [e1, e2, e3]
    simp only [cnt_cons, cnt_append, cnt_nil]; omega
  refine WSs.forListE (WE.mono (Q := fun x l' => ∃ D nums, x = .ref D ∧ nums.length ≤ 24 ∧ l' = (D, .list (List.map V.int nums)) :: lawL false Ct Ck Cr Cg CU PL tr cr cl a0 a1 kl (keys t) none none [placeV .beg, placeV .beg] c0 c1 q0 q1 [] [] t []) ?_ ?_)
  · refine WE.ite (WB.cmp (WE.lenOld (b_len w) (by rw [hsc]; rfl) ?_))
    walk_at "fx*"
    refine ⟨sa, vs, rfl, hl, by omega, ?_⟩
    walk_at "fx*"
    refine ite_or (fun h => ?_) (fun h => ?_)
    · refine WE.sliceOld ?_
      walk_at "fx*"
      refine ⟨sa, vs, ns, some 2, some 26, rfl, hl, hi, by omega, rfl, rfl, fun b => ⟨b, (ns.drop (kms_lo (some 2) (ns.map V.int).length)).take (kms_hi (some 26) (ns.map V.int).length - kms_lo (some 2) (ns.map V.int).length), rfl, ?_, ?_⟩⟩
      · have h2 : 2 < ns.length := by simp at h; omega
        refine Nat.le_trans (List.length_take_le _ _) ?_
        rw [List.length_map]
        unfold kms_lo kms_hi
        simp
        omega
      · unfold pickV
        rw [List.map_take, List.map_drop]
    · walk_at "fx*"
      intro D
      exact ⟨D, [0, 0, 1, 45, 0, 6, 0, 3, 1], rfl, by decide, rfl⟩
  rintro y l₁ ⟨D, nums, rfl, hnl, rfl⟩
  refine ⟨D, nums.map .int, fun i ρ' l' => ∃ v3 v4 v5 v6 v7 v8 v9 v10 ro p p', ρ' = rhoT CU PL (.ref sa) (.int m) (.int s) v3 v4 v5 v6 v7 v8 v9 v10 .unb ∧ St Ct Ck Cr Cg CU PL tr cr cl false a0 a1 ro p p' [placeV p, placeV p'] (m + i) [(D, .list (nums.map .int))] l', rfl, ?_, ?_, ?_, ?_⟩
  · exact ⟨_, _, _, _, _, _, _, _, none, .beg, .beg, rfl, kl, none, c0, c1, q0, q1, [], [], _, t, lsub_of_cnt fun p => (by simp only [cnt_cons, cnt_append, cnt_nil]; omega), ok, by omega, hc0 _ _, hp0, hc1 _ _, hp1⟩
  · rintro i ρ' l' ⟨v3, v4, v5, v6, v7, v8, v9, v10, ro, p, p', rfl, kl, o2, c, c', q, q', xs, x', h, t, hl, _⟩
    refine hl.mem ?_
    repeat (first | exact List.mem_append_right _ (.head _) | refine List.Mem.tail _ ?_)
  · rintro i ρ' l' z it ⟨v3, v4, v5, v6, v7, v8, v9, v10, ro, p, p', rfl, kl, o2, c, c', q, q', xs, x', h, t, hl, ok, hn, hc, hp, hc', hp'⟩ hz
    have hil := (List.getElem?_eq_some_iff.mp hz).1
    rw [List.length_map] at hil
    rw [List.getElem?_map] at hz
    obtain ⟨num, _, rfl⟩ := Option.map_eq_some_iff.mp hz
    refine ⟨_, .there (.there (.there (.there (.there (.there .here))))), ?_⟩
    have st1 : St Ct Ck Cr Cg CU PL tr cr cl false a0 a1 ro p p' [placeV p, placeV p'] (m + i) (it :: [(D, .list (nums.map .int))]) (it :: l') := by
      refine ⟨kl, o2, c, c', q, q', xs, x', h, t, LSub.trans ?_ (LSub.cons it hl), ok, hn, hc, hp, hc', hp'⟩
      refine lsub_of_cnt fun p => ?_
      simp only [cnt_cons, cnt_append]; omega
    rw [← eT]
    refine (t_turn (num := num) hL (by omega) st1).mono ?_
    rintro f ρ' l'' ⟨rfl, v3, v4, v5, v6, v7, v8, v9, v10, ro, p, p', rfl, kl, o2, c, c', q, q', xs, x', h, t, hl, ok, hn, hc, hp, hc', hp'⟩
    refine ⟨lawL false Ct Ck Cr Cg CU PL tr cr cl a0 a1 kl (keys t) ro o2 [placeV p, placeV p'] c c' q q' xs x' t [(D, .list (nums.map .int))], LSub.trans ?_ hl, v3, v4, v5, v6, v7, v8, v9, v10, ro, p, p', rfl, kl, o2, c, c', q, q', xs, x', h, t, .refl _, ok, by omega, hc, hp, hc', hp'⟩
    refine lsub_of_cnt fun p => ?_
    simp only [cnt_cons, cnt_append]; omega
  · rintro ρ' l' ⟨v3, v4, v5, v6, v7, v8, v9, v10, ro, p, p', rfl, hst⟩
    rw [← eR]
    exact t_tail hL (by rw [List.length_map]; omega) hst
end
/-! ## FXZ2 -/
theorem law_locals {w : World} : (lawSc w).map (fun sc => ((["script", "many", "step", "k", "cursors", "places", "number", "kind", "one", "cursor", "place", "due", "told", "key"] : List Str).all fun y => sc.names.lookup y == some .local)) = some true := by kernel_rfl
theorem law_enter {w : World} {h₀ h₁ : Heap} {L fa sa : Addr} {m mg mb : Str → Option Value} {o1 o2 o3 o4 : Obj} {qual : Str} {scope : Scope} {cd : Value} {body : List Stmt} {vs : List Value} {ns : List Int} {p : Program} {loose : List Str} {mean : ExcName → Option Value}
    {Q : Flow → Shared → Prop} {E : Value → Shared → Prop} {g : Array GenState} {d : Drawn} {tk : Nat} {os : OsState}
    (KX : (FX.hd.heap_39 w.params).In h₀) (T : Top p loose mean mg mb h₀) (K0 : Below callerA h₀ [] h₀) (F : Fr h₀ L h₁ m) (N0 : News h₀ L h₁ [(L + 1 + 1 + 1 + 1, o4), (L + 1 + 1 + 1, o3), (L + 1 + 1, o2), (L + 1, o1)])
    (d4 : o4.data = .cell none) (d3 : o3.data = .cell none) (d2 : o2.data = .cell none) (d1 : o1.data = .cell none) (hL : h₀.IsList sa vs.toArray) (hI : IntsAre vs ns) (hn : ns.length ≤ 63) (hg : g = #[]) (hm : m "script" = some (.ref sa))
    (hsc : lawSc w = some scope) (hb : bodyOf (lawFd w) = body) (hcs : cellsFrom (L + 1) scope.names [] = ([("gone", L + 1 + 1 + 1 + 1), ("rest", L + 1 + 1 + 1), ("keys", L + 1 + 1), ("tree", L + 1)] : List (Str × Addr))) (hk : scope.kind = .function)
    (hQ : ∀ s' m', Fr h₀ L s'.heap m' → s'.gens = #[] → s'.os = os → Q (.ret (.bool true)) s') :
    wpAny (model Challenge.rw_fx0002_01.row.prog w) (callerA.deeper (envOfC qual scope L fa cd)) (execs body (envOfC qual scope L fa cd)) Q E ⟨h₁, g, d, tk, os⟩ := by
  subst hb hg
  let Φ : Fx := { A₀ := callerA, base := h₀, outer := [], qual := qual, scope := scope, L := L, fa := fa, cd := cd, cells := cellsFrom (L + 1) scope.names [], h₀ := h₀, os := os, rm := 200 }
  have ok : Φ.Ok (cx w).K := by
    refine ⟨hk, K0, KX, ⟨_, _, _, _, topRead_of T⟩, ⟨?_, ?_, rfl⟩⟩
    · show callerA.depth + 1 + 200 < 1000
      decide
    · show callerA.units + 3 + 8 * 200 < 9000
      decide
  have hloc : ∀ y ∈ (["script", "many", "step", "k", "cursors", "places", "number", "kind", "one", "cursor", "place", "due", "told", "key"] : List Str), scope.names.lookup y = some .local := by
    have := law_locals (w := w)
    rw [hsc] at this
    have := Option.some.inj this
    intro y hy
    exact beq_iff_eq.mp (List.all_eq_true.mp this y hy)
  have FF : FR Φ [("script", .ref sa), ("many", .unb), ("step", .unb), ("k", .unb), ("cursors", .unb), ("places", .unb), ("number", .unb), ("kind", .unb), ("one", .unb), ("cursor", .unb), ("place", .unb), ("due", .unb), ("told", .unb), ("key", .unb)]
      [(L + 1 + 1 + 1 + 1, .cell none), (L + 1 + 1 + 1, .cell none), (L + 1 + 1, .cell none), (L + 1, .cell none)] [] ⟨h₁, #[], d, tk, os⟩ := by
    refine ⟨m, _, ⟨F, fun y x e => ⟨?_, fun hx => ?_⟩, ?_, .cons (.cellN d4) (.cons (.cellN d3) (.cons (.cellN d2) (.cons (.cellN d1) .nil))), N0, ?_, rfl, rfl⟩⟩
    · refine hloc y ?_
      have := List.mem_map_of_mem (f := (·.1)) e
      exact this
    · rcases List.mem_cons.mp e with e | e
      · cases e; exact ⟨_, hm, .ref sa⟩
      · exfalso
        apply hx
        simp only [List.mem_cons, List.not_mem_nil, or_false, Prod.mk.injEq] at e
        rcases e with e | e | e | e | e | e | e | e | e | e | e | e | e <;> exact e.2
    · show (["script", "many", "step", "k", "cursors", "places", "number", "kind", "one", "cursor", "place", "due", "told", "key"] : List Str).Nodup
      decide
    · have nd : ∀ L : Nat, ([L + 1 + 1 + 1 + 1, L + 1 + 1 + 1, L + 1 + 1, L + 1] : List Nat).Nodup := by
        intro L
        simp only [List.nodup_cons, List.mem_cons, List.not_mem_nil, or_false, List.nodup_nil, and_true, not_false_eq_true]
        omega
      exact nd L
  have hLF : LF w Φ (L + 1) (L + 1 + 1) (L + 1 + 1 + 1) (L + 1 + 1 + 1 + 1) := ⟨hsc, hcs, Nat.le_refl _, hk⟩
  have W := (t_law (sa := sa) hLF ⟨_, _, _, _, _, T⟩ hL hI hn).sub (l := [(L + 1 + 1 + 1 + 1, .cell none), (L + 1 + 1 + 1, .cell none), (L + 1 + 1, .cell none), (L + 1, .cell none)]) (lsub_of_cnt fun p => by simp only [cnt_cons, cnt_nil]; omega)
  refine wpAny_mono (W.run ok [] _ FF) ?_ (fun _ _ x => x.elim)
  rintro f s' ⟨y, ρ', l', I', sb, ⟨m', rs, W'⟩, S, rfl⟩
  cases S with
  | ret Sv =>
    cases Sv
    exact hQ s' m' W'.fr W'.gens W'.os
end FX
set_option maxHeartbeats 8000000 in
theorem PySem.Challenge.cw_fx0002_01_holds : PySem.Challenge.rw_fx0002_01.Holds := by
  exact FX.hd (by
  w_strict (k_go0; (rename CellsAre _ _ _ => hCA; rename News _ _ _ _ => hN0; rename Fr _ _ _ _ => hF; rename Below _ _ _ _ => hK0; rename Top _ _ _ _ _ _ => hT; rename Frag.In _ _ => hKX; rename IntsAre _ _ => hI; refine' FX.law_enter hKX hT hK0 hF hN0 ?d4 ?d3 ?d2 ?d1 (by assumption) hI ?hn (by assumption) ?hm ?hsc ?hb ?hcs ?hk ?hQ; (case hk => rfl); (case d4 => assumption); (case d3 => assumption); (case d2 => assumption); (case d1 => assumption); (case hn => omega); (case hm => rfl); (case hsc => rfl); (case hb => rfl); (case hcs => rfl); (case hQ => intro s' m' F' g' o'; refine goodW_bool F' g' (raisesW_false ?_) ?_ o'; (· wrow_none_raised); (· wrow_post)))))
