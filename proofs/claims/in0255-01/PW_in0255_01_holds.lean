import PyProof.Rows.All
import Wide.All
import OpenK.AllK
import Wide.FinOn
import PySem.Challenge.RW_in0255_01
set_option Elab.async false
section
open PySem PySem.W PyProof.Rows
set_option maxRecDepth 100000 in
set_option maxHeartbeats 8000000 in
open_top Mine.hd for PySem.Challenge.rw_in0255_01
end

section -- W1
open PySem PySem.W PyProof.Rows PySem.Calls PySem.Spec
set_option maxRecDepth 100000
namespace Mine

/-! ## the ground: what of the text stands at a heap -/
structure Cx where
  prog : Program
  w : World
  K : Frag
  mg : Str → Option Value
  mb : Str → Option Value
  hB : ∀ x : Str, x ≠ "__name__" → mb x = bootBuiltins x
  /-- the frames below, and where they stand -/
  fs : List Env
  fr : List Addr
  hfr : ∀ b ∈ fr, K.lookup b = none

/-! ## data at a heap: R h S v d: at heap h the value v is the datum d, none of whose lists and tuples stands at an address of S -/
abbrev lO (vs : List Value) (n : Nat) : Obj := { cls := .type "list", data := .seq vs.toArray n }
abbrev tO (vs : List Value) (n : Nat) : Obj := { cls := .type "tuple", data := .seq vs.toArray n }
mutual
inductive R (h : Heap) (S : List Addr) : Value → Dat → Prop
  | none : R h S Value.none Dat.none
  | bool (b : Bool) : R h S (Value.bool b) (Dat.bool b)
  | int (i : Int) (t : Tok) : R h S (Value.int i t) (Dat.int i)
  | str (x : Str) (t : Tok) (hx : PyData.strOk x = true) : R h S (Value.str x t) (Dat.str x)
  | tuple {a : Addr} {vs : List Value} {n : Nat} {ds : List Dat} : a ∉ S → h.get? a = some (tO vs n) → Rs h S vs ds → R h S (Value.ref a) (Dat.tuple ds)
  | list {a : Addr} {vs : List Value} {n : Nat} {ds : List Dat} : a ∉ S → h.get? a = some (lO vs n) → Rs h S vs ds → R h S (Value.ref a) (Dat.list ds)
inductive Rs (h : Heap) (S : List Addr) : List Value → List Dat → Prop
  | nil : Rs h S [] []
  | cons {v : Value} {vs : List Value} {d : Dat} {ds : List Dat} : R h S v d → Rs h S vs ds → Rs h S (v :: vs) (d :: ds)
end

/-- h' has every list and tuple of h that stands off S -/
def SeqK (S : List Addr) (h h' : Heap) : Prop := ∀ b o xs n, b ∉ S → h.get? b = some o → o.data = .seq xs n → h'.get? b = some o
def isDict : Data → Bool
  | .dict .. => true
  | _ => false
/-- every object stands as it stood, but that a frame below may have been readied -/
def Up (C : Cx) (h h' : Heap) : Prop := ∀ b o, h.get? b = some o → h'.get? b = some o ∨ (b ∈ C.fr ∧ isDict o.data = true ∧ ∃ sl, h'.get? b = some { o with slots := sl })
theorem Up.of {C : Cx} {h h' : Heap} (k : ∀ b o, h.get? b = some o → h'.get? b = some o) : Up C h h' := fun b o e => .inl (k b o e)
theorem Up.refl {C : Cx} (h : Heap) : Up C h h := .of fun _ _ e => e
theorem Up.trans {C : Cx} {a b c : Heap} (x : Up C a b) (y : Up C b c) : Up C a c := fun p o e => by
  rcases x p o e with e1 | ⟨h1, h2, sl, e1⟩
  · exact y p o e1
  · rcases y p _ e1 with e2 | ⟨_, _, sl', e2⟩
    · exact .inr ⟨h1, h2, sl, e2⟩
    · exact .inr ⟨h1, h2, sl', e2⟩
/-- an object that is no dict stands as it stood -/
theorem Up.at {C : Cx} {h h' : Heap} (x : Up C h h') {b : Addr} {o : Obj} (e : h.get? b = some o) (hd : isDict o.data = false) : h'.get? b = some o := by
  rcases x b o e with e1 | ⟨_, h2, _⟩
  · exact e1
  · rw [hd] at h2; cases h2
theorem Up.off {C : Cx} {h h' : Heap} (x : Up C h h') {b : Addr} {o : Obj} (e : h.get? b = some o) (hb : b ∉ C.fr) : h'.get? b = some o := by
  rcases x b o e with e1 | ⟨h1, _⟩
  · exact e1
  · exact absurd h1 hb
theorem Up.ex {C : Cx} {h h' : Heap} (x : Up C h h') {b : Addr} {o : Obj} (e : h.get? b = some o) : ∃ o', h'.get? b = some o' ∧ o'.data = o.data := by
  rcases x b o e with e1 | ⟨_, _, sl, e1⟩
  · exact ⟨_, e1, rfl⟩
  · exact ⟨_, e1, rfl⟩
theorem Up.seq {C : Cx} {h h' : Heap} (x : Up C h h') (S : List Addr) : SeqK S h h' := fun b o _ _ _ e hd => x.at e (by rw [hd]; rfl)
theorem Up.push {C : Cx} (h : Heap) (o : Obj) : Up C h (h.push o) := .of fun _ _ e => Heap.get?_push_of_some _ e
theorem Up.ns {C : Cx} {h h' : Heap} (x : Up C h h') {a : Addr} {m : Str → Option Value} (hn : h.Ns a m) : h'.Ns a m := by
  obtain ⟨o, es, ep, e, hd, r⟩ := hn
  obtain ⟨o', e', hd'⟩ := x.ex e
  exact ⟨o', es, ep, e', hd'.trans hd, r⟩
theorem Up.cell {C : Cx} {h h' : Heap} (x : Up C h h') {c : Addr} {v : Option Value} (hn : h.IsCell c v) : h'.IsCell c v := by
  obtain ⟨o, e, hd⟩ := hn
  obtain ⟨o', e', hd'⟩ := x.ex e
  exact ⟨o', e', hd'.trans hd⟩
theorem Up.plain {C : Cx} {h h' : Heap} (x : Up C h h') {a : Addr} {xs : Array Value} (hn : h.PlainList a xs) : h'.PlainList a xs := by
  obtain ⟨n, e⟩ := hn
  exact ⟨n, x.at e rfl⟩
theorem Up.lim {C : Cx} {h h' : Heap} (x : Up C h h') (hn : h.NoLimit) : h'.NoLimit := let ⟨mc, h1, h2⟩ := hn; ⟨mc, x.ns h1, h2⟩
theorem Up.inK {C : Cx} {h h' : Heap} (x : Up C h h') (hn : C.K.In h) : C.K.In h' := fun a o e => x.off (hn a o e) fun q => by rw [C.hfr a q] at e; cases e
theorem Up.then {C : Cx} {h h' h'' : Heap} {P : Addr → Prop} (x : Up C h h') (k : ∀ b o, ¬ P b → h'.get? b = some o → h''.get? b = some o) (ha : ∀ b, P b → h.get? b = Option.none) : Up C h h'' := fun b o e => by
  have hb : ¬ P b := fun q => by rw [ha b q] at e; cases e
  rcases x b o e with e1 | ⟨h1, h2, sl, e1⟩
  · exact .inl (k b _ hb e1)
  · exact .inr ⟨h1, h2, sl, k b _ hb e1⟩
/-- the frames below stand -/
def Lv (C : Cx) (h : Heap) : Prop := ∀ e ∈ C.fs, e.scope.kind ≠ .module ∧ ∃ L o, e.frame = Option.some L ∧ L ∈ C.fr ∧ h.get? L = Option.some o ∧ isDict o.data = true
theorem Lv.up {C : Cx} {h h' : Heap} (x : Lv C h) (k : Up C h h') : Lv C h' := fun e he => by
  obtain ⟨h1, L, o, h2, h3, h4, h5⟩ := x e he
  obtain ⟨o', e', hd'⟩ := k.ex h4
  exact ⟨h1, L, o', h2, h3, e', by rw [hd']; exact h5⟩
theorem Lv.many {C : Cx} {h h' : Heap} {P : Addr → Prop} (x : Lv C h) (hs : ∀ b o, ¬ P b → h.get? b = Option.some o → h'.get? b = Option.some o) (ha : ∀ b, P b → (∀ o, h.get? b = Option.some o → isDict o.data = false) ∨ ∀ e ∈ C.fs, e.frame ≠ Option.some b) : Lv C h' := fun e he => by
  obtain ⟨h1, L, o, h2, h3, h4, h5⟩ := x e he
  exact ⟨h1, L, o, h2, h3, hs L o (fun q => by
    rcases ha L q with k | k
    · rw [k o h4] at h5; cases h5
    · exact k e he h2) h4, h5⟩
theorem Lv.fresh {C : Cx} {h : Heap} (x : Lv C h) {b : Addr} (hb : h.get? b = Option.none) : ∀ e ∈ C.fs, e.frame ≠ Option.some b := fun e he q => by
  obtain ⟨h1, L, o, h2, h3, h4, h5⟩ := x e he
  rw [q] at h2; cases h2
  rw [hb] at h4; cases h4
/-- one object turns: one that is no dict, or that is still one -/
theorem Lv.turn {C : Cx} {h h' : Heap} {a : Addr} (x : Lv C h) (hs : ∀ b o, b ≠ a → h.get? b = Option.some o → h'.get? b = Option.some o) (ha : (∀ o, h.get? a = Option.some o → isDict o.data = false) ∨ ∃ o, h'.get? a = Option.some o ∧ isDict o.data = true) : Lv C h' := fun e he => by
  obtain ⟨h1, L, o, h2, h3, h4, h5⟩ := x e he
  by_cases q : L = a
  · rcases ha with ha | ⟨o', e', hd'⟩
    · rw [ha o (q ▸ h4)] at h5; cases h5
    · exact ⟨h1, L, o', h2, h3, q ▸ e', hd'⟩
  · exact ⟨h1, L, o, h2, h3, hs L o q h4, h5⟩

mutual
theorem R.mono {h h' : Heap} {S T : List Addr} (k : SeqK S h h') (ht : ∀ a, a ∈ T → (a ∈ S ∨ h.get? a = Option.none)) : ∀ {v : Value} {d : Dat}, R h S v d → R h' T v d
  | _, _, .none => .none
  | _, _, .bool b => .bool b
  | _, _, .int i t => .int i t
  | _, _, .str x t hx => .str x t hx
  | _, _, .tuple ha ho r => .tuple (fun q => (ht _ q).elim ha fun e => by rw [ho] at e; cases e) (k _ _ _ _ ha ho rfl) (Rs.mono k ht r)
  | _, _, .list ha ho r => .list (fun q => (ht _ q).elim ha fun e => by rw [ho] at e; cases e) (k _ _ _ _ ha ho rfl) (Rs.mono k ht r)
theorem Rs.mono {h h' : Heap} {S T : List Addr} (k : SeqK S h h') (ht : ∀ a, a ∈ T → (a ∈ S ∨ h.get? a = Option.none)) : ∀ {vs : List Value} {ds : List Dat}, Rs h S vs ds → Rs h' T vs ds
  | _, _, .nil => .nil
  | _, _, .cons a r => .cons (R.mono k ht a) (Rs.mono k ht r)
end
theorem R.up {C : Cx} {h h' : Heap} {S : List Addr} {v : Value} {d : Dat} (x : R h S v d) (k : Up C h h') : R h' S v d := x.mono (k.seq S) fun _ q => .inl q
theorem Rs.up {C : Cx} {h h' : Heap} {S : List Addr} {vs : List Value} {ds : List Dat} (x : Rs h S vs ds) (k : Up C h h') : Rs h' S vs ds := x.mono (k.seq S) fun _ q => .inl q
theorem SeqK.push (S : List Addr) (h : Heap) (o : Obj) : SeqK S h (h.push o) := fun _ _ _ _ _ e _ => Heap.get?_push_of_some _ e
theorem R.push {h : Heap} {S : List Addr} {v : Value} {d : Dat} (x : R h S v d) (o : Obj) : R (h.push o) S v d := x.mono (SeqK.push S h o) fun _ q => .inl q
theorem Rs.push {h : Heap} {S : List Addr} {vs : List Value} {ds : List Dat} (x : Rs h S vs ds) (o : Obj) : Rs (h.push o) S vs ds := x.mono (SeqK.push S h o) fun _ q => .inl q
theorem R.nil {h : Heap} {S : List Addr} {v : Value} {d : Dat} (x : R h S v d) : R h [] v d := x.mono (fun _ _ _ _ _ e _ => e) fun _ q => absurd q List.not_mem_nil
theorem Rs.nil' {h : Heap} {S : List Addr} {vs : List Value} {ds : List Dat} (x : Rs h S vs ds) : Rs h [] vs ds := x.mono (fun _ _ _ _ _ e _ => e) fun _ q => absurd q List.not_mem_nil
theorem Rs.length {h : Heap} {S : List Addr} : ∀ {vs : List Value} {ds : List Dat}, Rs h S vs ds → vs.length = ds.length
  | _, _, .nil => rfl
  | _, _, .cons _ r => by rw [List.length_cons, List.length_cons, r.length]
theorem Rs.append {h : Heap} {S : List Addr} : ∀ {vs ws : List Value} {ds es : List Dat}, Rs h S vs ds → Rs h S ws es → Rs h S (vs ++ ws) (ds ++ es)
  | _, _, _, _, .nil, y => y
  | _, _, _, _, .cons a r, y => .cons a (r.append y)
theorem Rs.get {h : Heap} {S : List Addr} : ∀ {vs : List Value} {ds : List Dat} {k : Nat} {d : Dat}, Rs h S vs ds → ds[k]? = some d → ∃ v, vs[k]? = some v ∧ R h S v d
  | _, _, _, _, .nil, e => by simp at e
  | _, _, 0, _, .cons a _, e => by cases e; exact ⟨_, rfl, a⟩
  | _, _, _ + 1, _, .cons _ r, e => by simpa using Rs.get r (by simpa using e)
theorem Rs.get' {h : Heap} {S : List Addr} : ∀ {vs : List Value} {ds : List Dat} {k : Nat} {v : Value}, Rs h S vs ds → vs[k]? = some v → ∃ d, ds[k]? = some d ∧ R h S v d
  | _, _, _, _, .nil, e => by simp at e
  | _, _, 0, _, .cons a _, e => by cases e; exact ⟨_, rfl, a⟩
  | _, _, _ + 1, _, .cons _ r, e => by simpa using Rs.get' r (by simpa using e)
theorem Rs.take {h : Heap} {S : List Addr} : ∀ {vs : List Value} {ds : List Dat} (k : Nat), Rs h S vs ds → Rs h S (vs.take k) (ds.take k)
  | _, _, 0, _ => .nil
  | _, _, _ + 1, .nil => .nil
  | _, _, k + 1, .cons a r => .cons a (r.take k)
theorem Rs.drop {h : Heap} {S : List Addr} : ∀ {vs : List Value} {ds : List Dat} (k : Nat), Rs h S vs ds → Rs h S (vs.drop k) (ds.drop k)
  | _, _, 0, r => r
  | _, _, _ + 1, .nil => .nil
  | _, _, k + 1, .cons _ r => r.drop k
theorem Rs.one {h : Heap} {S : List Addr} {v : Value} {d : Dat} (x : R h S v d) : Rs h S [v] [d] := .cons x .nil
theorem Rs.strs {h : Heap} {S : List Addr} : ∀ {vs : List Value} {xs : List Str}, Rs h S vs (xs.map Dat.str) → StrsAre vs xs
  | _, [], r => by cases r; exact .nil
  | _, x :: xs, r => by
    cases r with
    | cons a r => cases a; exact .cons _ _ r.strs
theorem Rs.ofStrs {h : Heap} {S : List Addr} : ∀ {vs : List Value} {xs : List Str}, StrsAre vs xs → (∀ x ∈ xs, PyData.strOk x = true) → Rs h S vs (xs.map Dat.str)
  | _, _, .nil, _ => .nil
  | _, _, .cons y t r, hx => .cons (.str y t (hx _ (.head _))) (Rs.ofStrs r fun x hm => hx x (.tail _ hm))
theorem Rs.strsOk {h : Heap} {S : List Addr} : ∀ {vs : List Value} {xs : List Str}, Rs h S vs (xs.map Dat.str) → ∀ x ∈ xs, PyData.strOk x = true
  | _, [], _ => fun _ hm => nomatch hm
  | _, x :: xs, r => by
    cases r with
    | cons a r =>
      cases a
      intro y hm
      cases hm with
      | head => assumption
      | tail _ hm => exact r.strsOk y hm

mutual
theorem R.reads {h : Heap} {S : List Addr} : ∀ {v : Value} {d : Dat}, R h S v d → ∃ as, Reads h v (kqdP d) as
  | _, _, .none => ⟨_, Reads.none⟩
  | _, _, .bool b => ⟨_, Reads.bool b⟩
  | _, _, .int i t => ⟨_, Reads.int i t⟩
  | _, _, .str x t _ => ⟨_, Reads.str x t⟩
  | _, _, .tuple _ ho r => by
    obtain ⟨as, q⟩ := Rs.reads r
    rw [kqdP]
    exact ⟨as, reads_tuple_at ho rfl rfl (by simpa using q)⟩
  | _, _, .list _ ho r => by
    obtain ⟨as, q⟩ := Rs.reads r
    rw [kqdP]
    exact ⟨_, reads_list_at ho rfl rfl (by simpa using q)⟩
theorem Rs.reads {h : Heap} {S : List Addr} : ∀ {vs : List Value} {ds : List Dat}, Rs h S vs ds → ∃ as, ReadsAll h vs (kqdPs ds) as
  | _, _, .nil => ⟨_, ReadsAll.nil⟩
  | _, _, .cons a r => by
    obtain ⟨as, q⟩ := R.reads a
    obtain ⟨bs, p⟩ := Rs.reads r
    rw [kqdPs]
    exact ⟨_, ReadsAll.cons q p⟩
end

/-- a datum without bools and bytes, at most n deep -/
def shp : Nat → Dat → Bool
  | _, .none => true
  | _, .int _ => true
  | _, .str _ => true
  | n + 1, .tuple ds => ds.all (shp n)
  | n + 1, .list ds => ds.all (shp n)
  | _, _ => false
theorem R.ok {h : Heap} {S : List Addr} : ∀ (n : Nat) {v : Value} {d : Dat}, R h S v d → shp n d = true → kqdOk n d = true := by
  have all : ∀ n, (∀ {v : Value} {d : Dat}, R h S v d → shp n d = true → kqdOk n d = true) → ∀ {vs : List Value} {ds : List Dat}, Rs h S vs ds → (∀ d ∈ ds, shp n d = true) → ∀ d ∈ ds, kqdOk n d = true := by
    intro n ih vs ds
    induction vs generalizing ds with
    | nil => intro r _ d hm; cases r; cases hm
    | cons v vs hi =>
      intro r hs d hm
      cases r with
      | cons a r =>
        cases hm with
        | head => exact ih a (hs _ (.head _))
        | tail _ hm => exact hi r (fun e he => hs e (.tail _ he)) d hm
  intro n
  induction n with
  | zero =>
    intro v d r hs
    cases r <;> simp_all [shp, kqdOk]
  | succ n ih =>
    intro v d r hs
    cases r with
    | tuple ha ho r => simp only [shp, List.all_eq_true] at hs; simp only [kqdOk, List.all_eq_true]; exact all n ih r hs
    | list ha ho r => simp only [shp, List.all_eq_true] at hs; simp only [kqdOk, List.all_eq_true]; exact all n ih r hs
    | _ => simp_all [shp, kqdOk]

structure Gd (C : Cx) (h : Heap) : Prop where
  X : C.K.In h
  g : h.Ns mainGlobals C.mg
  b : h.Ns builtinsNs C.mb
  lim : h.NoLimit
theorem Gd.up {C : Cx} {h h' : Heap} (x : Gd C h) (k : Up C h h') : Gd C h' := ⟨k.inK x.X, k.ns x.g, k.ns x.b, k.lim x.lim⟩

/-- room for n calls more -/
structure Rm (C : Cx) (n : Nat) (A : Around) : Prop where
  hh : 0 < n → A.handled = Option.none
  dp : A.depth + n < 900
  un : A.units + 8 * n < 5000
  fs : 5 ≤ n → A.frames = some C.fs
theorem Rm.le {C : Cx} {m n : Nat} {A : Around} (x : Rm C n A) (h : m ≤ n) : Rm C m A := ⟨fun q => x.hh (Nat.lt_of_lt_of_le q h), by have := x.dp; omega, by have := x.un; omega, fun q => x.fs (Nat.le_trans q h)⟩
theorem Rm.room {C : Cx} {n : Nat} {A : Around} (x : Rm C n A) : A.depth < recursionLimit := by have := x.dp; show _ < 1000; omega
theorem Rm.line {C : Cx} {n : Nat} {A : Around} (x : Rm C n A) : A.units + 100 < cLine := by have := x.un; rw [cLine_is]; omega
theorem Rm.deeper {C : Cx} {n : Nat} {A : Around} (x : Rm C (n + 1) A) (env : Env) (hn : n < 5) : Rm C n (A.deeper env) := ⟨fun _ => x.hh (Nat.succ_pos _), by have := x.dp; simp only [Around.deeper]; omega, by have := x.un; simp only [Around.deeper]; omega, fun q => by omega⟩

/-- what a name holds: a datum, or a plain value -/
inductive Ent where
  | dat (d : Dat)
  | raw (v : Value)
  /-- a list of plain references, which is not turned itself -/
  | refs (as : List Addr)
def EntAt (S : List Addr) (h : Heap) (v : Value) : Ent → Prop
  | .dat d => R h S v d
  | .raw u => v = u
  | .refs as => ∃ m k, v = .ref m ∧ m ∉ S ∧ h.get? m = some (lO (as.map Value.ref) k)
theorem EntAt.seq {S : List Addr} {h h' : Heap} (k : SeqK S h h') {v : Value} {e : Ent} (x : EntAt S h v e) : EntAt S h' v e := by
  cases e with
  | dat d => exact R.mono k (fun _ q => .inl q) x
  | raw u => exact x
  | refs as => obtain ⟨m, j, e, hm, ho⟩ := x; exact ⟨m, j, e, hm, k _ _ _ _ hm ho rfl⟩
theorem EntAt.up {C : Cx} {S : List Addr} {h h' : Heap} (k : Up C h h') {v : Value} {e : Ent} (x : EntAt S h v e) : EntAt S h' v e := x.seq (k.seq S)

structure St where
  σ : Str → Option Ent
  cσ : Str → Option Dat
  /-- lists of the frame's own, which it may turn, and what they hold -/
  led : List (Addr × List Dat)
  fn : Bool
  /-- addresses that no datum of the frame's may stand at -/
  ex : List Addr
def St.S (τ : St) : List Addr := τ.led.map (·.1) ++ τ.ex
def St.set (τ : St) (x : Str) (e : Ent) : St := { τ with σ := fun y => if y = x then some e else τ.σ y }
def St.setC (τ : St) (x : Str) (d : Dat) : St := { τ with cσ := fun y => if y = x then some d else τ.cσ y }

structure Fm (C : Cx) (s₀ : Shared) (env : Env) (τ : St) (s : Shared) : Prop where
  same : ∃ h tk, s = { s₀ with heap := h, toks := tk }
  gd : Gd C s₀.heap
  keep : Up C s₀.heap s.heap
  lv : Lv C s.heap
  above : s₀.heap.get? env.locals = Option.none
  hk : env.scope.kind = .function
  hg : env.globals = mainGlobals
  hb : env.builtins = builtinsNs
  hex : ∀ a ∈ τ.ex, ∃ o, s₀.heap.get? a = some o
  ns : ∃ m, s.heap.Ns env.locals m ∧ ∀ x e, τ.σ x = some e → ∃ v, m x = some v ∧ EntAt τ.S s.heap v e
  apart : τ.fn = true → ∀ x y c, env.cells.lookup x = some c → env.cells.lookup y = some c → x = y
  cabove : τ.fn = true → ∀ p ∈ env.cells, s₀.heap.get? p.2 = Option.none
  cell : ∀ p ∈ env.cells, ∃ v, s.heap.IsCell p.2 v
  cval : ∀ x d, τ.cσ x = some d → ∃ c v, env.cells.lookup x = some c ∧ s.heap.IsCell c (some v) ∧ R s.heap τ.S v d
  own : ∀ p ∈ τ.led, s₀.heap.get? p.1 = Option.none ∧ ∃ vs, s.heap.PlainList p.1 vs.toArray ∧ Rs s.heap τ.S vs p.2
  nd : (τ.led.map (·.1)).Nodup

/-- every object stands as it stood, frames below but for their slots; nothing but heap and toks has turned -/
def Kp (C : Cx) (s s' : Shared) : Prop := ∃ h t, s' = { s with heap := h, toks := t } ∧ Up C s.heap h
theorem Kp.refl {C : Cx} (s : Shared) : Kp C s s := ⟨_, _, rfl, Up.refl _⟩
theorem Kp.trans {C : Cx} {a b c : Shared} (x : Kp C a b) (y : Kp C b c) : Kp C a c := by
  obtain ⟨h, t, rfl, k⟩ := x
  obtain ⟨h', t', rfl, k'⟩ := y
  exact ⟨h', t', rfl, k.trans k'⟩
theorem Kp.up {C : Cx} {a b : Shared} (x : Kp C a b) : Up C a.heap b.heap := by obtain ⟨h, t, rfl, k⟩ := x; exact k
theorem Kp.of {C : Cx} {s s' : Shared} (x : Keeps s s') : Kp C s s' := by obtain ⟨h, t, rfl, k⟩ := x; exact ⟨h, t, rfl, .of k⟩
theorem Kp.tok {C : Cx} (s : Shared) (t : Nat) : Kp C s { s with toks := t } := ⟨_, _, rfl, Up.refl _⟩
theorem Kp.push {C : Cx} (s : Shared) (o : Obj) : Kp C s { s with heap := s.heap.push o } := ⟨_, _, rfl, Up.push _ _⟩

section
variable {C : Cx} {s₀ s s' : Shared} {env : Env} {τ : St}
theorem Fm.keeps (F : Fm C s₀ env τ s) (k : Kp C s s') : Fm C s₀ env τ s' := by
  obtain ⟨h', tk, rfl, k⟩ := k
  obtain ⟨h, t, e⟩ := F.same
  refine ⟨⟨h', tk, by rw [e]⟩, F.gd, F.keep.trans k, F.lv.up k, F.above, F.hk, F.hg, F.hb, F.hex, ?_, F.apart, F.cabove, fun p hp => ?_, fun x d hx => ?_, fun p hp => ?_, F.nd⟩
  · obtain ⟨m, hn, hm⟩ := F.ns
    exact ⟨m, k.ns hn, fun x e hx => let ⟨v, h1, h2⟩ := hm x e hx; ⟨v, h1, h2.up k⟩⟩
  · obtain ⟨v, hv⟩ := F.cell p hp; exact ⟨v, k.cell hv⟩
  · obtain ⟨c, v, h1, h2, h3⟩ := F.cval x d hx; exact ⟨c, v, h1, k.cell h2, h3.up k⟩
  · obtain ⟨h1, vs, h2, h3⟩ := F.own p hp
    exact ⟨h1, vs, k.plain h2, h3.up k⟩
theorem Fm.now (F : Fm C s₀ env τ s) : Kp C s₀ s := by obtain ⟨h, t, rfl⟩ := F.same; exact ⟨h, t, rfl, F.keep⟩
theorem Fm.gd' (F : Fm C s₀ env τ s) : Gd C s.heap := F.gd.up F.keep
theorem Fm.hp (F : Fm C s₀ env τ s) : (env.scope.kind == .class || (env.scope.kind == .module && env.locals != env.globals)) = false := by rw [F.hk]; rfl
/-- what stands at each hidden address -/
theorem Fm.stands (F : Fm C s₀ env τ s) : ∀ a ∈ τ.S, ∃ o, s.heap.get? a = some o := by
  intro a ha
  rcases List.mem_append.mp ha with ha | ha
  · obtain ⟨p, hp, rfl⟩ := List.mem_map.mp ha
    obtain ⟨_, vs, ⟨n, h⟩, _⟩ := F.own p hp
    exact ⟨_, h⟩
  · obtain ⟨o, ho⟩ := F.hex a ha
    obtain ⟨o', e', _⟩ := F.keep.ex ho; exact ⟨o', e'⟩
theorem Fm.below (F : Fm C s₀ env τ s) : ∀ a ∈ τ.S, a < s.heap.objs.size := fun a ha => let ⟨_, h⟩ := F.stands a ha; Heap.lt_size h
end

/-! ## judgements -/
abbrev M (C : Cx) : Model := model C.prog C.w
def Ev (C : Cx) (n : Nat) (env : Env) (τ : St) (e : Expr) (en : Ent) : Prop :=
  ∀ A, Rm C n A → ∀ s₀ s E, Fm C s₀ env τ s → wpAny (M C) A (eval e env) (fun v s' => Kp C s s' ∧ EntAt τ.S s'.heap v en) E s
def Ts (C : Cx) (n : Nat) (env : Env) (τ : St) (e : Expr) (b : Bool) : Prop :=
  ∀ A, Rm C n A → ∀ s₀ s E, Fm C s₀ env τ s → wpAny (M C) A (isTrue e env (eval e env)) (fun c s' => Kp C s s' ∧ c = b) E s

section
variable {C : Cx} {n : Nat} {env : Env} {τ : St}

theorem wpK {α : Type} {M : Model} {A : Around} {t : Sem α} {Q Q' : α → Shared → Prop} {E : Value → Shared → Prop} {s : Shared} (h : wpAny M A t Q E s) (k : ∀ a s', Q a s' → Q' a s') : wpAny M A t Q' E s :=
  wpAny_mono h k fun _ _ e => e

theorem ev_local {x : Str} {pos : Pos} {e : Ent} (hx : τ.σ x = some e) (hl : env.kindOf x = some .local := by rfl) (hd : (x == ("__debug__" : Str)) = false := by decide) : Ev C n env τ (.Name x pos) e := by
  intro A _ s₀ s E F
  obtain ⟨m, hn, hm⟩ := F.ns
  obtain ⟨v, h1, h2⟩ := hm x e hx
  exact wpAny_Name (wpAny_loadName_local F.hk hl hn h1 ⟨Kp.refl _, h2⟩) hd
theorem ev_cell {x : Str} {pos : Pos} {d : Dat} (hx : τ.cσ x = some d) (hl : env.kindOf x = some .cell := by rfl) (hd : (x == ("__debug__" : Str)) = false := by decide) : Ev C n env τ (.Name x pos) (.dat d) := by
  intro A _ s₀ s E F
  obtain ⟨c, v, h1, h2, h3⟩ := F.cval x d hx
  exact wpAny_Name (wpAny_loadName_cell F.hk hl h1 h2 ⟨Kp.refl _, h3⟩) hd
theorem ev_glob {x : Str} {pos : Pos} {v : Value} (e : nsIn C.K mainGlobals x = some (some v)) (hx : env.kindOf x = some .globalImplicit := by rfl) (hd : (x == ("__debug__" : Str)) = false := by decide) : Ev C n env τ (.Name x pos) (.raw v) := by
  intro A _ s₀ s E F
  have G := F.gd'
  exact Name_function_global F.hk hx (loadGlobal_global (F.hg ▸ G.g) (mg_of G.X G.g e) ⟨Kp.refl _, rfl⟩) hd
theorem ev_boot {x : Str} {pos : Pos} {v : Value} (e : nsIn C.K mainGlobals x = some Option.none) (hv : bootBuiltins x = some v) (hn : x ≠ "__name__" := by decide) (hx : env.kindOf x = some .globalImplicit := by rfl) (hd : (x == ("__debug__" : Str)) = false := by decide) :
    Ev C n env τ (.Name x pos) (.raw v) := by
  intro A _ s₀ s E F
  have G := F.gd'
  exact Name_function_global F.hk hx (loadGlobal_builtin (F.hg ▸ G.g) (mg_none_of G.X G.g e) (F.hb ▸ G.b) ((C.hB x hn).trans hv) ⟨Kp.refl _, rfl⟩) hd
theorem ev_int {i : Int} {k : Nat} {pos : Pos} : Ev C n env τ (.Constant (.int i) k pos) (.dat (.int i)) := fun _ _ _ _ _ _ => wpAny_Constant_int ⟨Kp.tok _ _, R.int _ _⟩
theorem ev_str {x : Str} {k : Nat} {pos : Pos} (hx : PyData.strOk x = true := by decide +kernel) : Ev C n env τ (.Constant (.str x) k pos) (.dat (.str x)) := fun _ _ _ _ _ _ => Constant_str ⟨Kp.tok _ _, R.str _ _ hx⟩
theorem ev_true {k : Nat} {pos : Pos} {b : Bool} : Ev C n env τ (.Constant (.bool b) k pos) (.dat (.bool b)) := fun _ _ _ _ _ _ => lit_bool (fun v s' => Kp C _ s' ∧ EntAt _ s'.heap v (.dat (.bool b))) fun v tk hv => by
  have := hv {}
  exact ⟨Kp.tok _ _, by cases this; exact R.bool _⟩
end

end Mine
end -- W1

section -- W2
open PySem PySem.W PyProof.Rows PySem.Calls PySem.Spec
set_option maxRecDepth 100000
namespace Mine
section
variable {C : Cx} {n : Nat} {env : Env} {τ : St}

/-! ## binary operations and comparisons on data -/
def Op2 (C : Cx) (n : Nat) (t : Value → Value → Sem Value) (a b c : Dat) : Prop :=
  ∀ A, Rm C n A → ∀ S s E va vb, (∀ x ∈ S, x < s.heap.objs.size) → R s.heap S va a → R s.heap S vb b → wpAny (M C) A (t va vb) (fun v s' => Kp C s s' ∧ R s'.heap S v c) E s

theorem ev_bin {l r : Expr} {op : Operator} {pos : Pos} {a b c : Dat} (hl : Ev C n env τ l (.dat a)) (hr : Ev C n env τ r (.dat b)) (h : Op2 C n (binaryOp op) a b c) : Ev C n env τ (.BinOp l op r pos) (.dat c) := by
  intro A hA s₀ s E F
  refine wpAny_BinOp (wpK (hl A hA s₀ s E F) fun va s₁ h₁ => ?_)
  have F₁ := F.keeps h₁.1
  refine wpK (hr A hA s₀ s₁ E F₁) fun vb s₂ h₂ => ?_
  have F₂ := F₁.keeps h₂.1
  exact wpK (h A hA τ.S s₂ E va vb F₂.below (R.up h₁.2 h₂.1.up) h₂.2) fun v s₃ h₃ => ⟨(h₁.1.trans h₂.1).trans h₃.1, h₃.2⟩
theorem ev_cmp {l r : Expr} {op : CmpOp} {pos : Pos} {a b c : Dat} (hl : Ev C n env τ l (.dat a)) (hr : Ev C n env τ r (.dat b)) (h : Op2 C n (compareOp op) a b c)
    (hm : behindInMarks op r = false := by with_unfolding_all rfl) : Ev C n env τ (.Compare l [op] [r] pos) (.dat c) := by
  intro A hA s₀ s E F
  refine wpAny_Compare1 (wpK (hl A hA s₀ s E F) fun va s₁ h₁ => ?_) hm
  have F₁ := F.keeps h₁.1
  refine wpK (hr A hA s₀ s₁ E F₁) fun vb s₂ h₂ => ?_
  have F₂ := F₁.keeps h₂.1
  exact wpK (h A hA τ.S s₂ E va vb F₂.below (R.up h₁.2 h₂.1.up) h₂.2) fun v s₃ h₃ => ⟨(h₁.1.trans h₂.1).trans h₃.1, h₃.2⟩
theorem ts_cmp {l r : Expr} {op : CmpOp} {pos : Pos} {a b : Dat} {c : Bool} (hl : Ev C n env τ l (.dat a)) (hr : Ev C n env τ r (.dat b)) (h : Op2 C n (compareOp op) a b (.bool c))
    (hm : behindInMarks op r = false := by with_unfolding_all rfl) : Ts C n env τ (.Compare l [op] [r] pos) c := by
  intro A hA s₀ s E F
  refine wpAny_isTrue_Compare1 (wpK (hl A hA s₀ s E F) fun va s₁ h₁ => ?_) hm
  have F₁ := F.keeps h₁.1
  refine wpK (hr A hA s₀ s₁ E F₁) fun vb s₂ h₂ => ?_
  have F₂ := F₁.keeps h₂.1
  refine wpK (h A hA τ.S s₂ E va vb F₂.below (R.up h₁.2 h₂.1.up) h₂.2) fun v s₃ h₃ => ?_
  obtain ⟨k, hv⟩ := h₃
  cases hv
  exact wpAny_truthy_bool ⟨(h₁.1.trans h₂.1).trans k, rfl⟩

theorem strOk_append {x y : Str} (hx : PyData.strOk x = true) (hy : PyData.strOk y = true) : PyData.strOk (x ++ y) = true := by
  unfold PyData.strOk at *
  rw [show (x ++ y).cps = x.cps ++ y.cps from rfl, Array.all_append, hx, hy]; rfl

theorem op_add_str {x y : Str} (hsz : x.length + y.length ≤ sizeLine) : Op2 C n (binaryOp .Add) (.str x) (.str y) (.str (x ++ y)) := by
  intro A _ S s E va vb _ ra rb
  cases ra with
  | str _ t hx => cases rb with
    | str _ u hy => exact SB.add (fun t' k => ⟨Kp.tok _ _, .str _ _ (strOk_append hx hy)⟩) hsz
theorem op_iadd_str {x y : Str} (hsz : x.length + y.length ≤ sizeLine) : Op2 C n (inplaceOp .Add) (.str x) (.str y) (.str (x ++ y)) := by
  intro A _ S s E va vb _ ra rb
  cases ra with
  | str _ t hx => cases rb with
    | str _ u hy => exact SB.iadd (fun t' k => ⟨Kp.tok _ _, .str _ _ (strOk_append hx hy)⟩) hsz
theorem strOk_foldl {x : Array Nat} (hx : x.all (· < 0x110000) = true) : ∀ (k : Nat) (a : Array Nat), a.all (· < 0x110000) = true → ((List.replicate k x).foldl (· ++ ·) a).all (· < 0x110000) = true
  | 0, a, ha => ha
  | k + 1, a, ha => by
    rw [List.replicate_succ, List.foldl_cons]
    exact strOk_foldl hx k _ (by rw [Array.all_append, ha, hx]; rfl)
theorem strOk_mul {x : Str} (hx : PyData.strOk x = true) (i : Int) : PyData.strOk (Txt.mul x i) = true := by
  unfold Txt.mul
  split
  · decide +kernel
  · split
    · exact hx
    · exact strOk_foldl hx _ _ (by simp)
theorem op_mul_str {x : Str} {i : Int} (L N : Nat) (hx : x.length ≤ L) (hn : i ≤ (N : Int)) (hlo : -(2 ^ 63 : Int) ≤ i) (hN : N ≤ 16777216) (hLN : L * N ≤ 16777216) : Op2 C n (binaryOp .Mult) (.str x) (.int i) (.str (Txt.mul x i)) := by
  intro A _ S s E va vb _ ra rb
  cases ra with
  | str _ t hx' => cases rb with
    | int _ u => exact SB.mul (mulOk_of L N hx hn hlo hN hLN) fun t' k => ⟨Kp.tok _ _, .str _ _ (strOk_mul hx' i)⟩
theorem op_add_int {a b : Int} : Op2 C n (binaryOp .Add) (.int a) (.int b) (.int (a + b)) := by
  intro A _ S s E va vb _ ra rb
  cases ra; cases rb
  exact P.add_int ⟨Kp.tok _ _, .int _ _⟩
theorem op_sub_int {a b : Int} : Op2 C n (binaryOp .Sub) (.int a) (.int b) (.int (a - b)) := by
  intro A _ S s E va vb _ ra rb
  cases ra; cases rb
  exact P.sub_int ⟨Kp.tok _ _, .int _ _⟩
theorem op_mod_int {a b : Int} (hb : b ≠ 0) : Op2 C n (binaryOp .Mod) (.int a) (.int b) (.int (a.fmod b)) := by
  intro A _ S s E va vb _ ra rb
  cases ra; cases rb
  exact mod_int' hb ⟨Kp.tok _ _, .int _ _⟩
theorem op_fdiv_int {a b : Int} (hb : b ≠ 0) (hp : Builtin.divisionGoesByPylong a b = false) : Op2 C n (binaryOp .FloorDiv) (.int a) (.int b) (.int (a.fdiv b)) := by
  intro A _ S s E va vb _ ra rb
  cases ra; cases rb
  exact floordiv_int hb ⟨Kp.tok _ _, .int _ _⟩ (.inl hp)

theorem rlist {h : Heap} {S : List Addr} {vs : List Value} {ds : List Dat} (r : Rs h S vs ds) (hS : ∀ x ∈ S, x < h.objs.size) : R (h.push (lO vs 0)) S (.ref h.objs.size) (.list ds) :=
  .list (fun q => Nat.lt_irrefl _ (hS _ q)) (Heap.get?_push_size _ rfl) (r.push _)
theorem rtuple {h : Heap} {S : List Addr} {vs : List Value} {ds : List Dat} (r : Rs h S vs ds) (hS : ∀ x ∈ S, x < h.objs.size) : R (h.push (tO vs 0)) S (.ref h.objs.size) (.tuple ds) :=
  .tuple (fun q => Nat.lt_irrefl _ (hS _ q)) (Heap.get?_push_size _ rfl) (r.push _)

theorem op_add_list {ds es : List Dat} (hsz : ds.length + es.length ≤ sizeLine) : Op2 C n (binaryOp .Add) (.list ds) (.list es) (.list (ds ++ es)) := by
  intro A _ S s E va vb hS ra rb
  cases ra with
  | list ha ho r => cases rb with
    | list hb hp q =>
      refine P.add_list ho hp ?_ (by have := r.length; have := q.length; simp only [List.size_toArray]; omega)
      rw [List.append_toArray]
      exact ⟨Kp.push _ _, rlist (r.append q) hS⟩

theorem op_eq_str {x y : Str} : Op2 C n (compareOp .Eq) (.str x) (.str y) (.bool (x == y)) := by
  intro A _ S s E va vb _ ra rb
  cases ra; cases rb
  exact PyProof.Rows.eq_str ⟨Kp.refl _, .bool _⟩
theorem op_ne_str {x y : Str} : Op2 C n (compareOp .NotEq) (.str x) (.str y) (.bool (x != y)) := by
  intro A _ S s E va vb _ ra rb
  cases ra; cases rb
  exact PyProof.Rows.ne_str ⟨Kp.refl _, .bool _⟩
theorem op_lt_str {x y : Str} : Op2 C n (compareOp .Lt) (.str x) (.str y) (.bool (decide (x.cps.toList < y.cps.toList))) := by
  intro A _ S s E va vb _ ra rb
  cases ra; cases rb
  exact P.lt_str ⟨Kp.refl _, .bool _⟩
theorem op_gt_str {x y : Str} : Op2 C n (compareOp .Gt) (.str x) (.str y) (.bool (decide (y.cps.toList < x.cps.toList))) := by
  intro A _ S s E va vb _ ra rb
  cases ra; cases rb
  exact P.gt_str ⟨Kp.refl _, .bool _⟩
theorem op_eq_int {x y : Int} : Op2 C n (compareOp .Eq) (.int x) (.int y) (.bool (x == y)) := by
  intro A _ S s E va vb _ ra rb
  cases ra; cases rb
  exact P.eq_int ⟨Kp.refl _, .bool _⟩
theorem op_gt_int {x y : Int} : Op2 C n (compareOp .Gt) (.int x) (.int y) (.bool (decide (x > y))) := by
  intro A _ S s E va vb _ ra rb
  cases ra; cases rb
  exact P.gt_int ⟨Kp.refl _, .bool _⟩

theorem dat_shaped {h : Heap} {S : List Addr} {v : Value} {d : Dat} (r : R h S v d) (hs : shp 9 d = true) : SeqAt.shaped (kqdP d) = true := by
  have l := kqd_lay 9 d (r.ok 9 hs)
  unfold SeqAt.shaped
  rw [l.1, Bool.true_and]
  exact decide_eq_true (Nat.le_trans l.2 (by decide))
theorem dat_eqv {h : Heap} {S T : List Addr} {v w : Value} {d e : Dat} {b : Bool} (r : R h S v d) (q : R h T w e) (hs : shp 9 d = true) (ht : shp 9 e = true) (hb : b = true ↔ d = e) : PyData.eqv (kqdP d) (kqdP e) = b := by
  have k := kqd_eqv 9 d e 9 (r.ok 9 hs) (q.ok 9 ht)
  cases b with
  | true => exact k.mpr (hb.mp rfl)
  | false => exact Bool.eq_false_iff.mpr fun x => Bool.false_ne_true (hb.mpr (k.mp x))
theorem op_eq_dat {d e : Dat} {b : Bool} (hs : shp 9 d = true) (ht : shp 9 e = true) (hb : b = true ↔ d = e) : Op2 C n (compareOp .Eq) d e (.bool b) := by
  intro A hA S s E va vb _ ra rb
  obtain ⟨as, qa⟩ := ra.reads
  obtain ⟨bs, qb⟩ := rb.reads
  exact eq_dataH qa qb (dat_shaped ra hs) (dat_shaped rb ht) (by have := hA.line; omega) ⟨Kp.refl _, by rw [dat_eqv ra rb hs ht hb]; exact .bool _⟩
theorem op_ne_dat {d e : Dat} {b : Bool} (hs : shp 9 d = true) (ht : shp 9 e = true) (hb : b = true ↔ d = e) : Op2 C n (compareOp .NotEq) d e (.bool (!b)) := by
  intro A hA S s E va vb _ ra rb
  obtain ⟨as, qa⟩ := ra.reads
  obtain ⟨bs, qb⟩ := rb.reads
  exact ne_dataH qa qb (dat_shaped ra hs) (dat_shaped rb ht) (by have := hA.line; omega) ⟨Kp.refl _, by rw [dat_eqv ra rb hs ht hb]; exact .bool _⟩
theorem list_any {h : Heap} {S : List Addr} {vs : List Value} {ds : List Dat} {v : Value} {d : Dat} {b : Bool} (r : Rs h S vs ds) (q : R h S v d) (hs : ∀ e ∈ ds, shp 8 e = true) (ht : shp 8 d = true) (hb : b = true ↔ d ∈ ds) :
    ((kqdPs ds).any fun y => PyData.eqv y (kqdP d)) = b := by
  have ok : ∀ {vs : List Value} {ds : List Dat}, Rs h S vs ds → (∀ e ∈ ds, shp 8 e = true) → ∀ e ∈ ds, kqdOk 8 e = true := by
    intro vs ds r hs e he
    obtain ⟨k, hk⟩ := List.mem_iff_getElem?.mp he
    obtain ⟨v, _, rv⟩ := r.get hk
    exact rv.ok 8 (hs e he)
  have k := kqd_any ds d (ok r hs) (q.ok 8 ht)
  cases b with
  | true => exact k.mpr (hb.mp rfl)
  | false => exact Bool.eq_false_iff.mpr fun x => Bool.false_ne_true (hb.mpr (k.mp x))
theorem op_in {ds : List Dat} {d : Dat} {b : Bool} (hs : ∀ e ∈ ds, shp 8 e = true) (ht : shp 8 d = true) (hb : b = true ↔ d ∈ ds) : Op2 C n (compareOp .In) d (.list ds) (.bool b) := by
  intro A hA S s E va vb _ ra rb
  cases rb with
  | list hl ho r =>
    obtain ⟨as, qa⟩ := ra.reads
    obtain ⟨bs, qb⟩ := (R.list hl ho r : R s.heap S _ _).reads
    rw [kqdP] at qb
    have l := kqd_lay 9 (.list ds) ((R.list hl ho r : R s.heap S _ _).ok 9 (by simpa [shp] using hs))
    have ld := kqd_lay 8 d (ra.ok 8 ht)
    rw [kqdP] at l
    simp only [PyData.canLay0, PyData.depth] at l
    have hu := hA.line
    refine SeqAt.in_list_reads qb qa l.1 ld.1 ?_ ⟨Kp.refl _, by rw [list_any r ra hs ht hb]; exact .bool _⟩
    have := Nat.min_le_right (PyData.depthAll (kqdPs ds)) (kqdP d).depth
    have := ld.2
    omega
theorem op_notin {ds : List Dat} {d : Dat} {b : Bool} (hs : ∀ e ∈ ds, shp 8 e = true) (ht : shp 8 d = true) (hb : b = true ↔ d ∈ ds) : Op2 C n (compareOp .NotIn) d (.list ds) (.bool (!b)) := by
  intro A hA S s E va vb _ ra rb
  cases rb with
  | list hl ho r =>
    obtain ⟨as, qa⟩ := ra.reads
    obtain ⟨bs, qb⟩ := (R.list hl ho r : R s.heap S _ _).reads
    rw [kqdP] at qb
    have l := kqd_lay 9 (.list ds) ((R.list hl ho r : R s.heap S _ _).ok 9 (by simpa [shp] using hs))
    have ld := kqd_lay 8 d (ra.ok 8 ht)
    rw [kqdP] at l
    simp only [PyData.canLay0, PyData.depth] at l
    have hu := hA.line
    refine SeqAt.notIn_list_reads qb qa l.1 ld.1 ?_ ⟨Kp.refl _, by rw [list_any r ra hs ht hb]; exact .bool _⟩
    have := Nat.min_le_right (PyData.depthAll (kqdPs ds)) (kqdP d).depth
    have := ld.2
    omega

/-! ## tests -/
theorem ts_not {x : Expr} {pos : Pos} {b : Bool} (h : Ts C n env τ x b) : Ts C n env τ (.UnaryOp .Not x pos) (!b) := by
  intro A hA s₀ s E F
  exact isTrue_not (wpK (h A hA s₀ s E F) fun c s' k => ⟨k.1, by rw [k.2]⟩)
theorem ts_val {e : Expr} {en : Ent} {b : Bool} (h : Ev C n env τ e en) (ht : ∀ A, Rm C n A → ∀ S s E v, EntAt S s.heap v en → wpAny (M C) A (truthy v) (fun c s' => Kp C s s' ∧ c = b) E s)
    (he : ∀ whole, isTrue e env whole = (do let v ← whole; standAt e.pos; holding [v] (truthy v)) := by intro _; rfl) : Ts C n env τ e b := by
  intro A hA s₀ s E F
  exact isTrue_plain (wpK (h A hA s₀ s E F) fun v s₁ h₁ => wpK (ht A hA τ.S s₁ E v h₁.2) fun c s₂ h₂ => ⟨h₁.1.trans h₂.1, h₂.2⟩) (he _)
theorem tr_str {x : Str} (hx : x.length ≤ sizeLine) : ∀ A, Rm C n A → ∀ S s E v, EntAt S s.heap v (.dat (.str x)) → wpAny (M C) A (truthy v) (fun c s' => Kp C s s' ∧ c = (x.length != 0)) E s := by
  intro A _ S s E v r
  cases (r : R _ _ _ _) with
  | str _ t _ => exact P.truthy_str (by rw [sizeLine_eq] at hx; omega) ⟨Kp.tok _ _, by cases h : x.length <;> rfl⟩
theorem tr_list {ds : List Dat} (hx : ds.length ≤ sizeLine) : ∀ A, Rm C n A → ∀ S s E v, EntAt S s.heap v (.dat (.list ds)) → wpAny (M C) A (truthy v) (fun c s' => Kp C s s' ∧ c = !ds.isEmpty) E s := by
  intro A _ S s E v r
  cases (r : R _ _ _ _) with
  | list hl ho q =>
    have e := q.length
    refine wpAny_truthy_list (IsL.isList ho) (by rw [sizeLine_eq] at hx; simp only [List.size_toArray]; omega) ⟨Kp.tok _ _, ?_⟩
    cases q <;> rfl
theorem tr_bool {b : Bool} : ∀ A, Rm C n A → ∀ S s E v, EntAt S s.heap v (.dat (.bool b)) → wpAny (M C) A (truthy v) (fun c s' => Kp C s s' ∧ c = b) E s := by
  intro A _ S s E v r
  cases (r : R _ _ _ _)
  exact wpAny_truthy_bool ⟨Kp.refl _, rfl⟩
/-- and | or of tests, one by one -/
def Bs (C : Cx) (n : Nat) (env : Env) (τ : St) (op : BoolOp) (es : List Expr) (b : Bool) : Prop :=
  ∀ A, Rm C n A → ∀ s₀ s E, Fm C s₀ env τ s → wpAny (M C) A (allTrue op es env) (fun c s' => Kp C s s' ∧ c = b) E s
theorem ts_bool {op : BoolOp} {es : List Expr} {pos : Pos} {b : Bool} (h : Bs C n env τ op es b) : Ts C n env τ (.BoolOp op es pos) b :=
  fun A hA s₀ s E F => wpAny_isTrue_BoolOp (h A hA s₀ s E F)
theorem bs_nil {op : BoolOp} : Bs C n env τ op [] (op == .And) := fun _ _ _ _ _ _ => wpAny_pure ⟨Kp.refl _, rfl⟩
theorem bs_and_false {x : Expr} {r : List Expr} (h : Ts C n env τ x false) : Bs C n env τ .And (x :: r) false := by
  intro A hA s₀ s E F
  rw [allTrue]
  exact wpAny_bind (wpK (h A hA s₀ s E F) fun c s' k => by rw [k.2]; exact wpAny_pure ⟨k.1, rfl⟩)
theorem bs_and_true {x : Expr} {r : List Expr} {b : Bool} (h : Ts C n env τ x true) (hr : Bs C n env τ .And r b) : Bs C n env τ .And (x :: r) b := by
  intro A hA s₀ s E F
  rw [allTrue]
  exact wpAny_bind (wpK (h A hA s₀ s E F) fun c s' k => by rw [k.2]; exact wpK (hr A hA s₀ s' E (F.keeps k.1)) fun d s'' q => ⟨k.1.trans q.1, q.2⟩)
theorem bs_or_true {x : Expr} {r : List Expr} (h : Ts C n env τ x true) : Bs C n env τ .Or (x :: r) true := by
  intro A hA s₀ s E F
  rw [allTrue]
  exact wpAny_bind (wpK (h A hA s₀ s E F) fun c s' k => by rw [k.2]; exact wpAny_pure ⟨k.1, rfl⟩)
theorem bs_or_false {x : Expr} {r : List Expr} {b : Bool} (h : Ts C n env τ x false) (hr : Bs C n env τ .Or r b) : Bs C n env τ .Or (x :: r) b := by
  intro A hA s₀ s E F
  rw [allTrue]
  exact wpAny_bind (wpK (h A hA s₀ s E F) fun c s' k => by rw [k.2]; exact wpK (hr A hA s₀ s' E (F.keeps k.1)) fun d s'' q => ⟨k.1.trans q.1, q.2⟩)
theorem bs_and {x : Expr} {r : List Expr} {a b : Bool} (h : Ts C n env τ x a) (hr : a = true → Bs C n env τ .And r b) : Bs C n env τ .And (x :: r) (a && b) := by
  cases a with
  | true => exact bs_and_true h (hr rfl)
  | false => exact bs_and_false h
theorem bs_or {x : Expr} {r : List Expr} {a b : Bool} (h : Ts C n env τ x a) (hr : a = false → Bs C n env τ .Or r b) : Bs C n env τ .Or (x :: r) (a || b) := by
  cases a with
  | true => exact bs_or_true h
  | false => exact bs_or_false h (hr rfl)
theorem ev_if {t a b : Expr} {pos : Pos} {c : Bool} {e : Ent} (ht : Ts C n env τ t c) (ha : c = true → Ev C n env τ a e) (hb : c = false → Ev C n env τ b e) : Ev C n env τ (.IfExp t a b pos) e := by
  intro A hA s₀ s E F
  refine wpAny_IfExp (wpK (ht A hA s₀ s E F) fun d s₁ h₁ => ?_)
  obtain ⟨k, rfl⟩ := h₁
  cases d with
  | true => exact wpK (ha rfl A hA s₀ s₁ E (F.keeps k)) fun v s₂ h₂ => ⟨k.trans h₂.1, h₂.2⟩
  | false => exact wpK (hb rfl A hA s₀ s₁ E (F.keeps k)) fun v s₂ h₂ => ⟨k.trans h₂.1, h₂.2⟩
/-- x or y, as a value -/
theorem ev_or {a b : Expr} {pos : Pos} {e f : Ent} {c : Bool} (ha : Ev C n env τ a e) (ht : ∀ A, Rm C n A → ∀ S s E v, EntAt S s.heap v e → wpAny (M C) A (truthy v) (fun c' s' => Kp C s s' ∧ c' = c) E s)
    (hb : c = false → Ev C n env τ b f) : Ev C n env τ (.BoolOp .Or [a, b] pos) (if c then e else f) := by
  intro A hA s₀ s E F
  show wpAny (M C) A (boolOp pos .Or [eval a env, eval b env]) _ E s
  rw [boolOp]
  · refine wpAny_bind (wpK (ha A hA s₀ s E F) fun v s₁ h₁ => wpAny_bind (wpAny_standAt (wpAny_bind (wpAny_holding (wpK (ht A hA τ.S s₁ E v h₁.2) fun d s₂ h₂ => ?_)))))
    obtain ⟨k, rfl⟩ := h₂
    cases d with
    | true => exact wpAny_pure ⟨h₁.1.trans k, EntAt.up k.up h₁.2⟩
    | false =>
      show wpAny (M C) A (boolOp pos .Or [eval b env]) _ E s₂
      rw [boolOp]
      exact wpK (hb rfl A hA s₀ s₂ E (F.keeps (h₁.1.trans k))) fun v s₃ h₃ => ⟨(h₁.1.trans k).trans h₃.1, h₃.2⟩
  · intro q; cases q
end
end Mine
end -- W2

section -- W3
open PySem PySem.W PyProof.Rows PySem.Calls PySem.Spec
set_option maxRecDepth 100000
namespace Mine

/-! ## slices -/
def bnd (n dflt : Nat) : Option Int → Nat
  | none => dflt
  | some i => min (if i < 0 then i + n else i).toNat n
def sl {α : Type} (xs : List α) (lo hi : Option Int) : List α := (xs.drop (bnd xs.length 0 lo)).take (bnd xs.length xs.length hi - bnd xs.length 0 lo)
def cut (x : Str) (lo hi : Option Int) : Str := ⟨(sl x.cps.toList lo hi).toArray⟩
theorem clip_eq (n d : Nat) (v : Option Int) : (match v with | none => (d : Int) | some i => max 0 (min (if i < 0 then i + (n : Int) else i) n)) = (bnd n d v : Int) := by
  cases v with
  | none => rfl
  | some i => simp only [bnd]; split <;> omega
theorem bounds_eq (lo hi : Option Int) (n : Nat) : sliceBounds lo hi none n = ((bnd n 0 lo : Int), (bnd n n hi : Int), 1) := by
  have h1 := clip_eq n 0 lo
  have h2 := clip_eq n n hi
  simp only [sliceBounds, Option.getD_none, show (1 : Int) > 0 by decide, if_true]
  rw [← h1, ← h2]; rfl
theorem slicePick_sl (items : Array Value) (lo hi : Option Int) : slicePick items lo hi none = (sl items.toList lo hi).toArray := by
  unfold slicePick
  rw [bounds_eq]
  simp only [sliceRange_one, pick_run, sl, Array.length_toList]
theorem strSlice_sl (x : Str) (lo hi : Option Int) : ((Builtin.Str.strSliceIndices lo hi 1 x.length).filterMap (x.cps[·]?)) = sl x.cps.toList lo hi := by
  have h1 := clip_eq x.length 0 lo
  have h2 := clip_eq x.length x.length hi
  have e : Builtin.Str.strSliceIndices lo hi 1 x.length = sliceRange (bnd x.length 0 lo : Int) (bnd x.length x.length hi : Int) 1 := by
    simp only [Builtin.Str.strSliceIndices, show (1 : Int) > 0 by decide, if_true]
    rw [← h1, ← h2]; rfl
  rw [e, sliceRange_one, pick_run]
  rfl
theorem sl_length {α : Type} (xs : List α) (lo hi : Option Int) : (sl xs lo hi).length ≤ xs.length := by
  unfold sl; rw [List.length_take, List.length_drop]; omega
theorem strSlice_length (x : Str) (lo hi : Option Int) : (Builtin.Str.strSliceIndices lo hi 1 x.length).length = bnd x.length x.length hi - bnd x.length 0 lo := by
  have h1 := clip_eq x.length 0 lo
  have h2 := clip_eq x.length x.length hi
  have e : Builtin.Str.strSliceIndices lo hi 1 x.length = sliceRange (bnd x.length 0 lo : Int) (bnd x.length x.length hi : Int) 1 := by
    simp only [Builtin.Str.strSliceIndices, show (1 : Int) > 0 by decide, if_true]
    rw [← h1, ← h2]; rfl
  rw [e, sliceRange_one, List.length_map, List.length_range]
theorem bnd_le (n d : Nat) (h : d ≤ n) (v : Option Int) : bnd n d v ≤ n := by
  cases v with
  | none => exact h
  | some i => exact Nat.min_le_right _ _
theorem sl_all {α : Type} (xs : List α) (lo hi : Option Int) (h : bnd xs.length xs.length hi - bnd xs.length 0 lo = xs.length) : sl xs lo hi = xs := by
  have h1 := bnd_le xs.length xs.length (Nat.le_refl _) hi
  unfold sl
  by_cases hz : bnd xs.length 0 lo = 0
  · rw [h, hz]; simp
  · have : xs.length = 0 := by omega
    rw [List.length_eq_zero_iff.mp this]; simp
theorem mem_sl {α : Type} {xs : List α} {lo hi : Option Int} {a : α} (h : a ∈ sl xs lo hi) : a ∈ xs := List.mem_of_mem_drop (List.mem_of_mem_take h)
theorem strOk_mem {x : Str} : PyData.strOk x = true ↔ ∀ c ∈ x.cps.toList, c < 0x110000 := by
  unfold PyData.strOk
  rw [Array.all_eq_true']
  simp
theorem strOk_cut {x : Str} (hx : PyData.strOk x = true) (lo hi : Option Int) : PyData.strOk (cut x lo hi) = true := by
  rw [strOk_mem] at *
  intro c hc
  exact hx c (mem_sl (by simpa [cut] using hc))

section
variable {C : Cx} {n : Nat} {env : Env} {τ : St}

/-! ## displays -/
def Es (C : Cx) (n : Nat) (env : Env) (τ : St) (es : List Expr) (ds : List Dat) : Prop :=
  ∀ pos A, Rm C n A → ∀ s₀ s E, Fm C s₀ env τ s → wpAny (M C) A (spliced (backTo pos (starEach es env))) (fun vs s' => Kp C s s' ∧ Rs s'.heap τ.S vs ds) E s
theorem es_nil : Es C n env τ [] [] := fun _ _ _ _ _ _ _ => spliced_nil ⟨Kp.refl _, .nil⟩
theorem es_cons {e : Expr} {r : List Expr} {d : Dat} {ds : List Dat} (h : Ev C n env τ e (.dat d)) (hr : Es C n env τ r ds) (hs : starEach (e :: r) env = (false, eval e env) :: starEach r env := by rfl) : Es C n env τ (e :: r) (d :: ds) := by
  intro pos A hA s₀ s E F
  rw [hs]
  show wpAny (M C) A (spliced ((false, eval e env) :: backTo pos (starEach r env))) _ E s
  refine spliced_cons (wpK (h A hA s₀ s E F) fun v s₁ h₁ => wpK (hr pos A hA s₀ s₁ E (F.keeps h₁.1)) fun vs s₂ h₂ => ?_)
  exact ⟨h₁.1.trans h₂.1, .cons (R.up h₁.2 h₂.1.up) h₂.2⟩
theorem ev_list {es : List Expr} {ds : List Dat} {pos : Pos} (h : Es C n env τ es ds) (hsz : ds.length ≤ sizeLine := by decide) : Ev C n env τ (.List es pos) (.dat (.list ds)) := by
  intro A hA s₀ s E F
  refine List_ (wpK (h pos A hA s₀ s E F) fun vs s₁ h₁ => ?_)
  exact wpAny_newList ⟨h₁.1.trans (Kp.push _ _), rlist h₁.2 (F.keeps h₁.1).below⟩ (by rw [h₁.2.length]; exact hsz)
theorem ev_tuple {es : List Expr} {ds : List Dat} {k : Nat} {pos : Pos} (h : Es C n env τ es ds) (hsz : ds.length ≤ sizeLine := by decide) : Ev C n env τ (.Tuple es k pos) (.dat (.tuple ds)) := by
  intro A hA s₀ s E F
  refine Tuple_ (wpK (h pos A hA s₀ s E F) fun vs s₁ h₁ => ?_)
  exact wpAny_newTuple ⟨h₁.1.trans (Kp.push _ _), rtuple h₁.2 (F.keeps h₁.1).below⟩ (by rw [h₁.2.length]; exact hsz)

/-! ## items -/
theorem wp_sub {prog : Program} {w : World} {A : Around} {E : Value → Shared → Prop} {s : Shared} {value slice : Expr} {pos : Pos} {Q : Value → Shared → Prop}
    (hs : ∀ o i, subscripted slice false o i = operate [o, i] (getItem o i))
    (h : wpAny (model prog w) A (eval value env) (fun o s₁ => wpAny (model prog w) A (eval slice env) (fun i s₂ => ∃ T id, typeLookup (.type T) "__getitem__" = pure (some (.builtin id)) ∧ s₂.TypeIs o T ∧ wpAny (model prog w) A (getItem o i) Q E s₂) E s₁) E s) :
    wpAny (model prog w) A (eval (.Subscript value slice pos) env) Q E s := by
  rw [eval_Subscript]
  refine wpAny_bind (wpAny_mono h (fun o s₁ h₁ => wpAny_bind (wpAny_holding (wpAny_mono h₁ (fun i s₂ h₂ => wpAny_bind (wpAny_standAt ?_)) fun _ _ x => x))) fun _ _ x => x)
  obtain ⟨T, id, hl, hT, hg⟩ := h₂
  refine wpAny_bind ?_
  rw [getitemInPython_of_ne hT.not_modules]
  refine wpAny_bind (wpAny_specialOf hT hl (wpAny_pure ?_))
  rw [hs]
  exact wpAny_bind (wpAny_operating (wpAny_mono hg (fun r s₃ h₃ => wpAny_bind (wpAny_letTemporaryGo (wpAny_pure h₃))) fun _ _ x => x))

def at? {α : Type} (xs : List α) (k : Int) : Option α := (seqIndex? k xs.length).bind (xs[·]?)
theorem ev_item_list {v i : Expr} {pos : Pos} {ds : List Dat} {k : Int} {d : Dat} (hv : Ev C n env τ v (.dat (.list ds))) (hi : Ev C n env τ i (.dat (.int k))) (hd : at? ds k = some d) (hsz : ds.length ≤ sizeLine)
    (hs : ∀ o i', subscripted i false o i' = operate [o, i'] (getItem o i') := by intro _ _; rfl) : Ev C n env τ (.Subscript v i pos) (.dat d) := by
  intro A hA s₀ s E F
  refine wp_sub hs (wpK (hv A hA s₀ s E F) fun o s₁ h₁ => wpK (hi A hA s₀ s₁ E (F.keeps h₁.1)) fun j s₂ h₂ => ?_)
  obtain ⟨k₂, h₂⟩ := h₂
  have h₁' : R s₂.heap τ.S o (.list ds) := R.up h₁.2 k₂.up
  cases (h₂ : R _ _ _ _)
  cases h₁' with
  | list hl ho r =>
    refine ⟨"list", _, list_getitem_lookup, ⟨_, ho, rfl⟩, ?_⟩
    have el := r.length
    unfold at? seqIndex? at hd
    rw [sizeLine_eq] at hsz
    by_cases hn : k < 0
    · simp only [hn, if_true] at hd
      split at hd
      · rename_i hc
        simp only [Option.bind_some] at hd
        obtain ⟨x, hx, rx⟩ := r.get hd
        simp only [Bool.and_eq_true, decide_eq_true_eq] at hc
        refine wpAny_getItem_list_neg (IsL.isList ho) hn (by simp only [List.size_toArray]; omega) (by omega) (x := x) ?_ ⟨h₁.1.trans k₂, rx⟩
        simp only [List.size_toArray, el]; simpa using hx
      · cases hd
    · simp only [hn, if_false] at hd
      split at hd
      · rename_i hc
        simp only [Option.bind_some] at hd
        obtain ⟨x, hx, rx⟩ := r.get hd
        simp only [Bool.and_eq_true, decide_eq_true_eq] at hc
        exact wpAny_getItem_list (IsL.isList ho) (by omega) (by omega) (x := x) (by simpa using hx) ⟨h₁.1.trans k₂, rx⟩
      · cases hd
theorem ev_item_tuple {v i : Expr} {pos : Pos} {ds : List Dat} {k : Int} {d : Dat} (hv : Ev C n env τ v (.dat (.tuple ds))) (hi : Ev C n env τ i (.dat (.int k))) (hd : at? ds k = some d) (hlo : -2 ^ 63 ≤ k := by decide) (hhi : k < 2 ^ 63 := by decide)
    (hs : ∀ o i', subscripted i false o i' = operate [o, i'] (getItem o i') := by intro _ _; rfl) : Ev C n env τ (.Subscript v i pos) (.dat d) := by
  intro A hA s₀ s E F
  refine wp_sub hs (wpK (hv A hA s₀ s E F) fun o s₁ h₁ => wpK (hi A hA s₀ s₁ E (F.keeps h₁.1)) fun j s₂ h₂ => ?_)
  obtain ⟨k₂, h₂⟩ := h₂
  have h₁' : R s₂.heap τ.S o (.tuple ds) := R.up h₁.2 k₂.up
  cases (h₂ : R _ _ _ _)
  cases h₁' with
  | tuple hl ho r =>
    refine ⟨"tuple", _, PySem.F.slot_tuple_getitem.lookup, ⟨_, ho, rfl⟩, ?_⟩
    have el := r.length
    unfold at? at hd
    cases hk : seqIndex? k ds.length with
    | none => rw [hk] at hd; cases hd
    | some j =>
      rw [hk] at hd
      simp only [Option.bind_some] at hd
      obtain ⟨x, hx, rx⟩ := r.get hd
      exact P.getItem_tuple (k := j) (y := x) ho hlo hhi (by simp only [List.size_toArray, el]; exact hk) (by simpa using hx) ⟨h₁.1.trans k₂, rx⟩

/-! ## slices -/
def Pt (C : Cx) (n : Nat) (env : Env) (τ : St) (o : Option Expr) (k : Option Int) : Prop :=
  ∀ A, Rm C n A → ∀ s₀ s E, Fm C s₀ env τ s → wpAny (M C) A (evalPart o env) (fun v s' => Kp C s s' ∧ IsPart v k) E s
theorem pt_none : Pt C n env τ none none := fun _ _ _ _ _ _ => wpAny_pure ⟨Kp.refl _, .none⟩
theorem pt_some {e : Expr} {i : Int} (h : Ev C n env τ e (.dat (.int i))) : Pt C n env τ (some e) (some i) := by
  intro A hA s₀ s E F
  refine wpK (h A hA s₀ s E F) fun v s₁ h₁ => ⟨h₁.1, ?_⟩
  cases (h₁.2 : R _ _ _ _)
  exact .int _ _
theorem ev_slice_list {v : Expr} {lo hi : Option Expr} {p pos : Pos} {ds : List Dat} {a b : Option Int} (hv : Ev C n env τ v (.dat (.list ds))) (hl : Pt C n env τ lo a) (hh : Pt C n env τ hi b) (hsz : ds.length ≤ sizeLine)
    (ht : ∀ o r, letTemporaryGo v o r = pure () := by intro _ _; rfl) : Ev C n env τ (.Subscript v (.Slice lo hi none p) pos) (.dat (.list (sl ds a b))) := by
  intro A hA s₀ s E F
  refine wpAny_Subscript_list_slice (wpK (hv A hA s₀ s E F) fun o s₁ h₁ => wpK (hl A hA s₀ s₁ E (F.keeps h₁.1)) fun vl s₂ h₂ => wpK (hh A hA s₀ s₂ E (F.keeps (h₁.1.trans h₂.1))) fun vu s₃ h₃ => ?_) ht
  have F₃ := F.keeps ((h₁.1.trans h₂.1).trans h₃.1)
  have h₁' : R s₃.heap τ.S o (.list ds) := R.up h₁.2 (h₂.1.trans h₃.1).up
  cases h₁' with
  | @list l vs _ _ hl ho r =>
    refine ⟨l, vs.toArray, a, b, rfl, IsL.isList ho, by rw [List.size_toArray, r.length]; exact hsz, h₂.2, h₃.2, ?_⟩
    rw [slicePick_sl]
    refine ⟨((h₁.1.trans h₂.1).trans h₃.1).trans ((Kp.push _ _).trans (Kp.push _ _)), ?_⟩
    have r' : Rs (s₃.heap.push { cls := .type "slice", data := .fields #[vl, vu, .none] }) τ.S (sl vs a b) (sl ds a b) := by
      unfold sl; rw [r.length]; exact ((r.push _).drop _).take _
    have q := rlist r' (fun x hx => by rw [Heap.size_push]; exact Nat.lt_succ_of_lt (F₃.below x hx))
    rw [Heap.size_push] at q
    exact q
theorem ev_slice_str {v : Expr} {lo hi : Option Expr} {p pos : Pos} {x : Str} {a b : Option Int} (hv : Ev C n env τ v (.dat (.str x))) (hl : Pt C n env τ lo a) (hh : Pt C n env τ hi b) (hsz : x.length ≤ sizeLine)
    (ht : ∀ o r, letTemporaryGo v o r = pure () := by intro _ _; rfl) : Ev C n env τ (.Subscript v (.Slice lo hi none p) pos) (.dat (.str (cut x a b))) := by
  intro A hA s₀ s E F
  refine wpAny_Subscript_str_slice (wpK (hv A hA s₀ s E F) fun o s₁ h₁ => wpK (hl A hA s₀ s₁ E (F.keeps h₁.1)) fun vl s₂ h₂ => wpK (hh A hA s₀ s₂ E (F.keeps (h₁.1.trans h₂.1))) fun vu s₃ h₃ => ?_) ht
  cases (h₁.2 : R _ _ _ _) with
  | str _ t hx =>
    have pv : ∀ {v k}, IsPart v k → ∃ l : Option (Int × Tok), v = partValue l ∧ l.map (·.1) = k := by
      intro v k h
      cases h with
      | none => exact ⟨Option.none, rfl, rfl⟩
      | int i t => exact ⟨some (i, t), rfl, rfl⟩
    obtain ⟨l, e1, e2⟩ := pv h₂.2
    obtain ⟨u, e3, e4⟩ := pv h₃.2
    refine ⟨x, t, l, u, rfl, e1, e3, ?_⟩
    have kk := ((h₁.1.trans h₂.1).trans h₃.1).trans (Kp.push s₃ { cls := .type "slice", data := .fields #[vl, vu, .none] })
    unfold sliceMade slicePicked
    rw [e2, e4]
    show (if _ then _ else _ : Made).post _ _
    split
    · rename_i hc
      simp only [Option.map_none, Option.getD_none, beq_self_eq_true, Bool.true_and, beq_iff_eq] at hc
      rw [strSlice_length] at hc
      refine ⟨kk, ?_⟩
      have e : cut x a b = x := by
        unfold cut
        rw [sl_all _ _ _ (by simpa [Str.length] using hc)]
      rw [e]
      exact R.str _ _ hx
    · simp only [Option.map_none, Option.getD_none]
      refine ⟨?_, ?_⟩
      · show _ ≤ sizeLine
        rw [strSlice_sl]
        have := sl_length x.cps.toList a b
        simp only [Str.length, List.size_toArray, Array.length_toList] at *
        omega
      · rw [strSlice_sl]
        exact ⟨kk.trans (Kp.tok _ _), R.str _ _ (strOk_cut hx a b)⟩

/-! ## calls of built-in functions -/
theorem ev_b1 {f : Str} {id : String} {np pos : Pos} {e : Expr} {ee r : Ent} (hf : Ev C n env τ (.Name f np) (.raw (.builtin id))) (he : Ev C n env τ e ee)
    (hc : ∀ A, Rm C n A → ∀ S s E v, (∀ x ∈ S, x < s.heap.objs.size) → EntAt S s.heap v ee → wpAny (M C) A (call (.builtin id) [v]) (fun r' s' => Kp C s s' ∧ EntAt S s'.heap r' r) E s)
    (hs : starEach [e] env = [(false, eval e env)] := by rfl) : Ev C n env τ (.Call (.Name f np) [e] [] pos) r := by
  intro A hA s₀ s E F
  refine Call_name1 hs (wpK (hf A hA s₀ s E F) fun g s₁ h₁ => ?_)
  obtain ⟨k₁, rfl⟩ := h₁
  have F₁ := F.keeps k₁
  refine callWith_builtin1 (wpK (he A hA s₀ s₁ E F₁) fun v s₂ h₂ => ?_)
  exact wpK (hc A hA τ.S s₂ E v (F₁.keeps h₂.1).below h₂.2) fun r' s₃ h₃ => ⟨(k₁.trans h₂.1).trans h₃.1, h₃.2⟩
theorem ev_t1 {f : Str} {id : String} {np pos : Pos} {e : Expr} {ee r : Ent} (hf : Ev C n env τ (.Name f np) (.raw (.type id))) (he : Ev C n env τ e ee)
    (hc : ∀ A, Rm C n A → ∀ S s E v, (∀ x ∈ S, x < s.heap.objs.size) → EntAt S s.heap v ee → wpAny (M C) A (call (.type id) [v]) (fun r' s' => Kp C s s' ∧ EntAt S s'.heap r' r) E s)
    (hs : starEach [e] env = [(false, eval e env)] := by rfl) : Ev C n env τ (.Call (.Name f np) [e] [] pos) r := by
  intro A hA s₀ s E F
  refine Call_name1 hs (wpK (hf A hA s₀ s E F) fun g s₁ h₁ => ?_)
  obtain ⟨k₁, rfl⟩ := h₁
  have F₁ := F.keeps k₁
  refine callWith_type1 (wpK (he A hA s₀ s₁ E F₁) fun v s₂ h₂ => ?_)
  exact wpK (hc A hA τ.S s₂ E v (F₁.keeps h₂.1).below h₂.2) fun r' s₃ h₃ => ⟨(k₁.trans h₂.1).trans h₃.1, h₃.2⟩
end
end Mine
end -- W3

section -- W4
open PySem PySem.W PyProof.Rows PySem.Calls PySem.Spec
set_option maxRecDepth 100000
namespace Mine
section
variable {C : Cx} {n : Nat} {env : Env} {τ : St}

/-! ## methods -/
def Recv (C : Cx) (T : String) (eo : Ent) : Prop := ∀ S (s : Shared) v, Gd C s.heap → EntAt S s.heap v eo → s.TypeIs v T ∧ ∀ a, v = .ref a → ∃ ob, s.heap.get? a = some ob ∧ ob.dict = Option.none
theorem recv_str {x : Str} : Recv C "str" (.dat (.str x)) := by
  intro S s v _ r
  cases (r : R _ _ _ _)
  exact ⟨typeIs_str _ _ _, fun _ e => nomatch e⟩
theorem recv_list {ds : List Dat} : Recv C "list" (.dat (.list ds)) := by
  intro S s v _ r
  cases (r : R _ _ _ _) with
  | list hl ho r => exact ⟨⟨_, ho, rfl⟩, fun a e => by cases e; exact ⟨_, ho, rfl⟩⟩
theorem recv_K {a : Addr} {T : String} {data : Data} (h : C.K.lookup a = some { cls := .type T, data := data }) : Recv C T (.raw (.ref a)) := by
  intro S s v G r
  cases (r : v = _)
  exact ⟨⟨_, G.X _ _ h, rfl⟩, fun b e => by cases e; exact ⟨_, G.X _ _ h, rfl⟩⟩

def Mt1 (C : Cx) (n : Nat) (id : String) (eo ee r : Ent) : Prop :=
  ∀ A, Rm C n A → ∀ S s E ov v, (∀ x ∈ S, x < s.heap.objs.size) → Gd C s.heap → EntAt S s.heap ov eo → EntAt S s.heap v ee → wpAny (M C) A (call (.builtin id) [ov, v]) (fun r' s' => Kp C s s' ∧ EntAt S s'.heap r' r) E s

theorem ev_meth1 {T id : String} {o e : Expr} {name : Str} {apos pos : Pos} {eo ee r : Ent} (pa : PlainAttrs T) (slot : Slot T name id) (hty : typeOf (.builtin id) = pure (.type "method_descriptor"))
    (ho : Ev C n env τ o eo) (hr : Recv C T eo) (he : Ev C n env τ e ee) (hc : Mt1 C n id eo ee r)
    (hbase : attributeBase o name env (eval o env) = eval o env := by rfl) (hs : starEach [e] env = [(false, eval e env)] := by rfl) (hline : (apos.endLine == pos.line) = true := by rfl) :
    Ev C n env τ (.Call (.Attribute o name apos) [e] [] pos) r := by
  intro A hA s₀ s E F
  refine Call_method1 hbase hs hline (wpK (ho A hA s₀ s E F) fun ov s₁ h₁ => ?_)
  have F₁ := F.keeps h₁.1
  obtain ⟨q1, q2⟩ := hr τ.S s₁ ov F₁.gd' h₁.2
  refine ⟨T, id, pa, slot, hty, q1, q2, ?_⟩
  refine callWith_builtin rfl (evalArgs_plain (spliced_cons (wpK (he A hA s₀ s₁ E F₁) fun v s₂ h₂ => spliced_nil ?_)))
  have F₂ := F₁.keeps h₂.1
  exact wpK (hc A hA τ.S s₂ E ov v F₂.below F₂.gd' (EntAt.up h₂.1.up h₁.2) h₂.2) fun r' s₃ h₃ => ⟨(h₁.1.trans h₂.1).trans h₃.1, h₃.2⟩

theorem mt_startswith {x y : Str} : Mt1 C n "str.startswith" (.dat (.str x)) (.dat (.str y)) (.dat (.bool (Txt.startswith x y))) := by
  intro A _ S s E ov v _ _ ro rv
  cases (ro : R _ _ _ _); cases (rv : R _ _ _ _)
  exact SC.startswith ⟨Kp.refl _, R.bool _⟩
theorem mt_endswith {x y : Str} : Mt1 C n "str.endswith" (.dat (.str x)) (.dat (.str y)) (.dat (.bool (Txt.endswith x y))) := by
  intro A _ S s E ov v _ _ ro rv
  cases (ro : R _ _ _ _); cases (rv : R _ _ _ _)
  exact SC.endswith ⟨Kp.refl _, R.bool _⟩
theorem mt_rfind {x y : Str} : Mt1 C n "str.rfind" (.dat (.str x)) (.dat (.str y)) (.dat (.int (Txt.rfind x y))) := by
  intro A _ S s E ov v _ _ ro rv
  cases (ro : R _ _ _ _); cases (rv : R _ _ _ _)
  exact SC.rfind ⟨Kp.tok _ _, R.int _ _⟩
theorem mt_rstrip {x y : Str} (hsz : x.length ≤ sizeLine) (hok : PyData.strOk (Txt.rstripChars x y) = true) : Mt1 C n "str.rstrip" (.dat (.str x)) (.dat (.str y)) (.dat (.str (Txt.rstripChars x y))) := by
  intro A _ S s E ov v _ _ ro rv
  cases (ro : R _ _ _ _); cases (rv : R _ _ _ _)
  exact SC.rstripChars (fun t' k => ⟨Kp.tok _ _, R.str _ _ hok⟩) hsz
theorem mt_split {x y : Str} (hy : (y.length == 0) = false) (hsz : x.length ≤ sizeLine) (hsz2 : (Builtin.Str.partsBetween x (Builtin.Str.occurrences x y 0 x.length (x.length + 1)) y.length).length ≤ sizeLine)
    (hok : ∀ z ∈ Txt.split x y, PyData.strOk z = true) : Mt1 C n "str.split" (.dat (.str x)) (.dat (.str y)) (.dat (.list ((Txt.split x y).map Dat.str))) := by
  intro A _ S s E ov v hS _ ro rv
  cases (ro : R _ _ _ _) with
  | str _ t hx =>
  cases (rv : R _ _ _ _) with
  | str _ u hy' =>
  have fin : ∀ (l : List (Str × Tok)) (k : Nat), l.map (·.1) = Txt.split x y → Kp C s { s with heap := s.heap.push (lO (strValues l) 0), toks := k } ∧ EntAt S ({ s with heap := s.heap.push (lO (strValues l) 0), toks := k } : Shared).heap (.ref s.heap.objs.size) (.dat (.list ((Txt.split x y).map Dat.str))) := by
    intro l k e
    refine ⟨(Kp.push _ _).trans (Kp.tok _ _), rlist ?_ hS⟩
    have q := strsAre_of_values l
    rw [e] at q
    exact Rs.ofStrs q hok
  cases h1 : (decide (x.length < y.length) || decide (Builtin.Str.strKind x < Builtin.Str.strKind y))
  · cases hf : (Builtin.Str.occurrences x y 0 x.length (x.length + 1)).isEmpty
    · refine call_meets PySem.F.slot_str_split (typeIs_str _ _ _) PySem.F.entry_str_split (PySem.F.args_str_split_2 _ _) (meets_str_split_sep x y t u h1 hy hf hsz hsz2) ?_
      show wants _ E _ { s with toks := _, heap := s.heap.push { cls := .type "list", data := .seq (strsFrom s.toks (Builtin.Str.partsBetween x (Builtin.Str.occurrences x y 0 x.length (x.length + 1)) y.length)).toArray } }
      rw [strsFrom_eq]
      exact fin (numbered s.toks _) _ ((numbered_texts _ _).trans ((if_neg (ne_true_of_eq_false h1)).trans (if_neg (ne_true_of_eq_false hf))).symm)
    · exact call_meets PySem.F.slot_str_split (typeIs_str _ _ _) PySem.F.entry_str_split (PySem.F.args_str_split_2 _ _) (meets_str_split_not_found x y t u h1 hy hf)
        (fin [(x, t)] s.toks ((if_neg (ne_true_of_eq_false h1)).trans (if_pos hf)).symm)
  · exact call_meets PySem.F.slot_str_split (typeIs_str _ _ _) PySem.F.entry_str_split (PySem.F.args_str_split_2 _ _) (meets_str_split_cannot_occur x y t u h1)
      (fin [(x, t)] s.toks (if_pos h1).symm)
theorem mt_join {x : Str} {ys : List Str} (hok : (ys.map (·.length)).sum + ys.length * x.length ≤ 16777216) (hso : PyData.strOk (Txt.join x ys) = true) :
    Mt1 C n "str.join" (.dat (.str x)) (.dat (.list (ys.map Dat.str))) (.dat (.str (Txt.join x ys))) := by
  intro A _ S s E ov v hS _ ro rv
  cases (ro : R _ _ _ _) with
  | str _ t hx =>
  cases (rv : R _ _ _ _) with
  | list hl ho r => exact join_list (IsL.isList ho) (by simpa using r.strs) hok fun t' k => ⟨Kp.tok _ _, R.str _ _ hso⟩

theorem ev_startswith {o e : Expr} {apos pos : Pos} {x y : Str} (ho : Ev C n env τ o (.dat (.str x))) (he : Ev C n env τ e (.dat (.str y)))
    (hbase : attributeBase o "startswith" env (eval o env) = eval o env := by rfl) (hs : starEach [e] env = [(false, eval e env)] := by rfl) (hline : (apos.endLine == pos.line) = true := by rfl) :
    Ev C n env τ (.Call (.Attribute o "startswith" apos) [e] [] pos) (.dat (.bool (Txt.startswith x y))) := ev_meth1 F.plainAttrs_str F.slot_str_startswith F.type_str_startswith ho recv_str he mt_startswith hbase hs hline
theorem ev_endswith {o e : Expr} {apos pos : Pos} {x y : Str} (ho : Ev C n env τ o (.dat (.str x))) (he : Ev C n env τ e (.dat (.str y)))
    (hbase : attributeBase o "endswith" env (eval o env) = eval o env := by rfl) (hs : starEach [e] env = [(false, eval e env)] := by rfl) (hline : (apos.endLine == pos.line) = true := by rfl) :
    Ev C n env τ (.Call (.Attribute o "endswith" apos) [e] [] pos) (.dat (.bool (Txt.endswith x y))) := ev_meth1 F.plainAttrs_str F.slot_str_endswith F.type_str_endswith ho recv_str he mt_endswith hbase hs hline
theorem ev_rfind {o e : Expr} {apos pos : Pos} {x y : Str} (ho : Ev C n env τ o (.dat (.str x))) (he : Ev C n env τ e (.dat (.str y)))
    (hbase : attributeBase o "rfind" env (eval o env) = eval o env := by rfl) (hs : starEach [e] env = [(false, eval e env)] := by rfl) (hline : (apos.endLine == pos.line) = true := by rfl) :
    Ev C n env τ (.Call (.Attribute o "rfind" apos) [e] [] pos) (.dat (.int (Txt.rfind x y))) := ev_meth1 F.plainAttrs_str F.slot_str_rfind F.type_str_rfind ho recv_str he mt_rfind hbase hs hline
theorem ev_rstrip {o e : Expr} {apos pos : Pos} {x y : Str} (ho : Ev C n env τ o (.dat (.str x))) (he : Ev C n env τ e (.dat (.str y))) (hsz : x.length ≤ sizeLine) (hok : PyData.strOk (Txt.rstripChars x y) = true)
    (hbase : attributeBase o "rstrip" env (eval o env) = eval o env := by rfl) (hs : starEach [e] env = [(false, eval e env)] := by rfl) (hline : (apos.endLine == pos.line) = true := by rfl) :
    Ev C n env τ (.Call (.Attribute o "rstrip" apos) [e] [] pos) (.dat (.str (Txt.rstripChars x y))) := ev_meth1 F.plainAttrs_str F.slot_str_rstrip F.type_str_rstrip ho recv_str he (mt_rstrip hsz hok) hbase hs hline
theorem ev_split {o e : Expr} {apos pos : Pos} {x y : Str} (ho : Ev C n env τ o (.dat (.str x))) (he : Ev C n env τ e (.dat (.str y))) (hy : (y.length == 0) = false) (hsz : x.length ≤ sizeLine)
    (hsz2 : (Builtin.Str.partsBetween x (Builtin.Str.occurrences x y 0 x.length (x.length + 1)) y.length).length ≤ sizeLine) (hok : ∀ z ∈ Txt.split x y, PyData.strOk z = true)
    (hbase : attributeBase o "split" env (eval o env) = eval o env := by rfl) (hs : starEach [e] env = [(false, eval e env)] := by rfl) (hline : (apos.endLine == pos.line) = true := by rfl) :
    Ev C n env τ (.Call (.Attribute o "split" apos) [e] [] pos) (.dat (.list ((Txt.split x y).map Dat.str))) := ev_meth1 F.plainAttrs_str F.slot_str_split F.type_str_split ho recv_str he (mt_split hy hsz hsz2 hok) hbase hs hline
theorem ev_join {o e : Expr} {apos pos : Pos} {x : Str} {ys : List Str} (ho : Ev C n env τ o (.dat (.str x))) (he : Ev C n env τ e (.dat (.list (ys.map Dat.str)))) (hok : (ys.map (·.length)).sum + ys.length * x.length ≤ 16777216) (hso : PyData.strOk (Txt.join x ys) = true)
    (hbase : attributeBase o "join" env (eval o env) = eval o env := by rfl) (hs : starEach [e] env = [(false, eval e env)] := by rfl) (hline : (apos.endLine == pos.line) = true := by rfl) :
    Ev C n env τ (.Call (.Attribute o "join" apos) [e] [] pos) (.dat (.str (Txt.join x ys))) := ev_meth1 F.plainAttrs_str F.slot_str_join F.type_str_join ho recv_str he (mt_join hok hso) hbase hs hline

/-! ## calls of the text's defs -/
/-- the def at f, called with data, gives back the datum r; nothing that stood is touched; it wants room for k calls below its own -/
def Fn (C : Cx) (k : Nat) (f : Addr) (args : List Dat) (r : Dat) : Prop :=
  ∀ A, Rm C (k + 1) A → ∀ S s E vs, (∀ a ∈ S, ∃ o, s.heap.get? a = some o) → Gd C s.heap → Lv C s.heap → Rs s.heap S vs args → wpAny (M C) A (call (.ref f) vs) (fun v s' => Kp C s s' ∧ R s'.heap S v r) E s

theorem ev_call {x : Str} {np pos : Pos} {f : Addr} {fd : FuncData} {o : Obj} {k : Nat} {e : Expr} {es : List Expr} {ds : List Dat} {r : Dat}
    (hx : Ev C n env τ (.Name x np) (.raw (.ref f))) (ho : C.K.lookup f = some o) (hd : o.data = .func fd) (he : Es C n env τ (e :: es) ds) (hf : Fn C k f ds r) (hk : k + 1 ≤ n := by decide)
    (hs : starEach (e :: es) env = (false, eval e env) :: starEach es env := by rfl) :
    Ev C n env τ (.Call (.Name x np) (e :: es) [] pos) (.dat r) := by
  intro A hA s₀ s E F
  show wpAny (M C) A (do callWith pos (← eval (.Name x np) env) [] (backTo pos (starEach (e :: es) env)) (backToKw pos (keywordEach [] env))) _ E s
  refine wpAny_bind (wpK (hx A hA s₀ s E F) fun g s₁ h₁ => ?_)
  obtain ⟨k₁, rfl⟩ := h₁
  have F₁ := F.keeps k₁
  have hq := he pos A hA s₀ s₁ E F₁
  rw [hs] at hq ⊢
  refine callWith_function (o := o) (fd := fd) (evalArgs_plain (wpK hq fun vs s₂ h₂ => ?_))
  have F₂ := F₁.keeps h₂.1
  refine ⟨⟨F₂.gd'.X _ _ ho, hd⟩, ?_⟩
  exact wpK (hf A (hA.le hk) τ.S s₂ E vs F₂.stands F₂.gd' F₂.lv h₂.2) fun v s₃ h₃ => ⟨(k₁.trans h₂.1).trans h₃.1, h₃.2⟩

/-! ## statements -/
inductive Fl where
  | next
  | brk
  | cont
  | ret (d : Dat)
def FlAt (X : List Addr) (h : Heap) (f : Flow) : Fl → Prop
  | .next => f = .next
  | .brk => f = .brk
  | .cont => f = .cont
  | .ret d => ∃ v, f = .ret v ∧ R h X v d
/-- the end of a statement run from τ -/
def End (C : Cx) (s₀ : Shared) (env : Env) (τ : St) (P : Fl → St → Prop) (f : Flow) (s' : Shared) : Prop :=
  ∃ l τ', P l τ' ∧ FlAt τ.ex s'.heap f l ∧ τ'.ex = τ.ex ∧ Fm C s₀ env τ' s'
def Ex1 (C : Cx) (n : Nat) (env : Env) (τ : St) (st : Stmt) (P : Fl → St → Prop) : Prop :=
  ∀ A, Rm C n A → ∀ s₀ s E, Fm C s₀ env τ s → wpAny (M C) A (exec st env) (End C s₀ env τ P) E s
def Ex (C : Cx) (n : Nat) (env : Env) (τ : St) (st : List Stmt) (P : Fl → St → Prop) : Prop :=
  ∀ A, Rm C n A → ∀ s₀ s E, Fm C s₀ env τ s → wpAny (M C) A (execs st env) (End C s₀ env τ P) E s
/-- what P asks behind a statement: to go on with the rest, or to end as it ends -/
def Then (C : Cx) (n : Nat) (env : Env) (rest : List Stmt) (P : Fl → St → Prop) : Fl → St → Prop
  | .next, τ => Ex C n env τ rest P
  | l, τ => P l τ
theorem ex_nil {P : Fl → St → Prop} (h : P .next τ) : Ex C n env τ [] P := fun _ _ _ _ _ F => wpAny_execs_nil ⟨.next, τ, h, rfl, rfl, F⟩
theorem ex_cons {st : Stmt} {rest : List Stmt} {P : Fl → St → Prop} (h : Ex1 C n env τ st (Then C n env rest P)) : Ex C n env τ (st :: rest) P := by
  intro A hA s₀ s E F
  refine wpAny_execs_cons (wpK (h A hA s₀ s E F) fun f s₁ h₁ => ?_)
  obtain ⟨l, τ', hp, hf, hx, F'⟩ := h₁
  cases l with
  | next =>
    cases (hf : f = _)
    refine wpK (hp A hA s₀ s₁ E F') fun g s₂ h₂ => ?_
    obtain ⟨l, τ'', hp, hf, hx', F''⟩ := h₂
    rw [hx] at hf hx'
    exact ⟨l, τ'', hp, hf, hx', F''⟩
  | brk => cases (hf : f = _); exact ⟨.brk, τ', hp, rfl, hx, F'⟩
  | cont => cases (hf : f = _); exact ⟨.cont, τ', hp, rfl, hx, F'⟩
  | ret d => obtain ⟨v, rfl, r⟩ := hf; exact ⟨.ret d, τ', hp, ⟨v, rfl, r⟩, hx, F'⟩
theorem Ex.mono {st : List Stmt} {P Q : Fl → St → Prop} (h : Ex C n env τ st P) (k : ∀ l τ', P l τ' → Q l τ') : Ex C n env τ st Q :=
  fun A hA s₀ s E F => wpK (h A hA s₀ s E F) fun _ _ ⟨l, τ', hp, r⟩ => ⟨l, τ', k _ _ hp, r⟩
theorem Ex1.mono {st : Stmt} {P Q : Fl → St → Prop} (h : Ex1 C n env τ st P) (k : ∀ l τ', P l τ' → Q l τ') : Ex1 C n env τ st Q :=
  fun A hA s₀ s E F => wpK (h A hA s₀ s E F) fun _ _ ⟨l, τ', hp, r⟩ => ⟨l, τ', k _ _ hp, r⟩

/-- an object that is neither list nor tuple turns -/
theorem Fm.turn {s₀ s : Shared} {h' : Heap} {a : Addr} {tk : Nat} {τ' : St} (F : Fm C s₀ env τ s) (hs : Heap.SameBut a s.heap h') (h0 : s₀.heap.get? a = Option.none) (hq : ∀ o xs k, s.heap.get? a = some o → o.data ≠ .seq xs k) (hdi : (∀ o, s.heap.get? a = some o → isDict o.data = false) ∨ ∃ o, h'.get? a = some o ∧ isDict o.data = true)
    (e1 : τ'.led = τ.led) (e2 : τ'.ex = τ.ex) (e3 : τ'.fn = τ.fn)
    (hn : ∃ m, h'.Ns env.locals m ∧ ∀ x e, τ'.σ x = some e → ∃ v, m x = some v ∧ EntAt τ.S h' v e)
    (hcell : ∀ c w, s.heap.IsCell c w → ∃ w', h'.IsCell c w')
    (hcv : ∀ x d, τ'.cσ x = some d → ∃ c v, env.cells.lookup x = some c ∧ h'.IsCell c (some v) ∧ R h' τ.S v d) : Fm C s₀ env τ' { s with heap := h', toks := tk } := by
  have eS : τ'.S = τ.S := by unfold St.S; rw [e1, e2]
  have sk : SeqK τ.S s.heap h' := by
    intro b o xs k _ hb hd
    refine (hs.2 b fun q => ?_).trans hb
    subst q
    exact hq _ _ _ hb hd
  obtain ⟨hh, t, e0⟩ := F.same
  refine ⟨⟨h', tk, by rw [e0]⟩, F.gd, F.keep.then (P := fun b => b = a) (fun b o hb ho => (hs.2 b hb).trans ho) (fun b q => by rw [q]; exact h0), F.lv.turn (fun b o hb ho => (hs.2 b hb).trans ho) hdi, F.above, F.hk, F.hg, F.hb, by rw [e2]; exact F.hex, by rw [eS]; exact hn, by rw [e3]; exact F.apart,
    by rw [e3]; exact F.cabove, fun p hp => let ⟨w, hw⟩ := F.cell p hp; hcell _ w hw, by rw [eS]; exact hcv, ?_, by rw [e1]; exact F.nd⟩
  rw [e1, eS]
  intro p hp
  obtain ⟨h1, vs, ⟨k, h2⟩, h3⟩ := F.own p hp
  refine ⟨h1, vs, ⟨k, (hs.2 p.1 fun q => ?_).trans h2⟩, Rs.mono sk (fun _ q => .inl q) h3⟩
  rw [q] at h2
  exact hq _ _ _ h2 rfl
/-- a name of the frame's is stored -/
theorem Fm.store {A : Around} {s₀ s : Shared} {x : Str} {v : Value} {e : Ent} {E : Value → Shared → Prop} {Q : Unit → Shared → Prop} (F : Fm C s₀ env τ s) (hv : EntAt τ.S s.heap v e) (hl : env.kindOf x = some .local)
    (h : ∀ s', Fm C s₀ env (τ.set x e) s' → Heap.SameBut env.locals s.heap s'.heap → SeqK τ.S s.heap s'.heap → Q () s') : wpAny (M C) A (storeName env x v) Q E s := by
  obtain ⟨m, hn, hm⟩ := F.ns
  refine wpAny_storeName_local hl hn (fun h' hn' hs => ?_) F.hp
  obtain ⟨oL, esL, epL, hL, hLd, _⟩ := id hn
  have hq : ∀ o xs k, s.heap.get? env.locals = some o → o.data ≠ .seq xs k := by
    intro o xs k ho hd
    rw [hL] at ho; cases ho
    rw [hLd] at hd; cases hd
  have sk : SeqK τ.S s.heap h' := by
    intro b o xs k _ hb hd
    refine (hs.2 b fun q => ?_).trans hb
    subst q
    exact absurd hd (hq _ _ _ hb)
  have hne : ∀ c w, s.heap.IsCell c w → c ≠ env.locals := by
    rintro c w ⟨o, ho, hd⟩ rfl
    rw [hL] at ho; cases ho
    rw [hLd] at hd; cases hd
  refine h _ ?_ hs sk
  have hdict : ∃ o, h'.get? env.locals = some o ∧ isDict o.data = true := by
    obtain ⟨o', es', ep', hL', hLd', _⟩ := id hn'
    exact ⟨o', hL', by rw [hLd']; rfl⟩
  refine F.turn hs F.above hq (.inr hdict) rfl rfl rfl ⟨_, hn', fun y f hy => ?_⟩ (fun c w hw => ⟨w, hw.sameBut hs (hne c w hw)⟩) fun y d hy => ?_
  · simp only [St.set] at hy
    by_cases hyx : y = x
    · rw [if_pos hyx] at hy ⊢
      cases hy
      exact ⟨v, rfl, hv.seq sk⟩
    · rw [if_neg hyx] at hy ⊢
      obtain ⟨u, h1, h2⟩ := hm y f hy
      exact ⟨u, h1, h2.seq sk⟩
  · obtain ⟨c, w, h1, h2, h3⟩ := F.cval y d hy
    exact ⟨c, w, h1, h2.sameBut hs (hne c _ h2), R.mono sk (fun _ q => .inl q) h3⟩
theorem Fm.storeC {A : Around} {s₀ s : Shared} {x : Str} {c : Addr} {v : Value} {d : Dat} {E : Value → Shared → Prop} {Q : Unit → Shared → Prop} (F : Fm C s₀ env τ s) (hf : τ.fn = true) (hv : R s.heap τ.S v d) (hl : env.kindOf x = some .cell) (hc : env.cells.lookup x = some c)
    (h : ∀ s', Fm C s₀ env (τ.setC x d) s' → Q () s') : wpAny (M C) A (storeName env x v) Q E s := by
  obtain ⟨v₀, hv₀⟩ := F.cell _ (PySem.mem_of_lookup hc)
  refine wpAny_storeName_cell F.hk hl hc hv₀ fun h' hc' hs => h _ ?_
  obtain ⟨oc, hoc, hdc⟩ := id hv₀
  have hq : ∀ o xs k, s.heap.get? c = some o → o.data ≠ .seq xs k := by
    intro o xs k ho hd
    rw [hoc] at ho; cases ho
    rw [hdc] at hd; cases hd
  have sk : SeqK τ.S s.heap h' := by
    intro b o xs k _ hb hd
    refine (hs.2 b fun q => ?_).trans hb
    subst q
    exact absurd hd (hq _ _ _ hb)
  obtain ⟨m, hn, hm⟩ := F.ns
  have hLc : env.locals ≠ c := by
    intro q
    obtain ⟨oL, esL, epL, hL, hLd, _⟩ := hn
    rw [q, hoc] at hL; cases hL
    rw [hdc] at hLd; cases hLd
  refine F.turn hs (F.cabove hf (x, c) (PySem.mem_of_lookup hc)) hq (.inl fun o ho => by rw [hoc] at ho; cases ho; rw [hdc]; rfl) rfl rfl rfl ⟨m, hn.sameBut hs hLc, fun y f hy => let ⟨u, h1, h2⟩ := hm y f hy; ⟨u, h1, h2.seq sk⟩⟩ (fun b w hw => ?_) fun y e hy => ?_
  · by_cases hb : b = c
    · subst hb; exact ⟨_, hc'⟩
    · exact ⟨w, hw.sameBut hs hb⟩
  · simp only [St.setC] at hy
    by_cases hyx : y = x
    · rw [if_pos hyx] at hy
      cases hy
      exact ⟨c, v, hyx ▸ hc, hc', R.mono sk (fun _ q => .inl q) hv⟩
    · rw [if_neg hyx] at hy
      obtain ⟨b, w, h1, h2, h3⟩ := F.cval y e hy
      exact ⟨b, w, h1, h2.sameBut hs fun q => hyx (F.apart hf y x c (q ▸ h1) hc), R.mono sk (fun _ q => .inl q) h3⟩

theorem ex_assign {x : Str} {px pos : Pos} {e : Expr} {en : Ent} {P : Fl → St → Prop} (he : Ev C n env τ e en) (h : P .next (τ.set x en)) (hl : env.kindOf x = some .local := by rfl)
    (hs : swapsWith e (some (.Name x px)) pos.line env = pure false := by rfl) : Ex1 C n env τ (.Assign [.Name x px] e pos) P := by
  intro A hA s₀ s E F
  refine wpAny_Assign_Name (wpK (he A hA s₀ s E F) fun v s₁ h₁ => ?_) hs
  exact (F.keeps h₁.1).store h₁.2 hl fun s' F' _ _ => ⟨.next, _, h, rfl, rfl, F'⟩
theorem ex_assignC {x : Str} {px pos : Pos} {e : Expr} {d : Dat} {P : Fl → St → Prop} (he : Ev C n env τ e (.dat d)) (h : P .next (τ.setC x d)) (hf : τ.fn = true := by rfl) (hc : ∀ s₀ s, Fm C s₀ env τ s → ∃ c, env.cells.lookup x = some c) (hl : env.kindOf x = some .cell := by rfl)
    (hs : swapsWith e (some (.Name x px)) pos.line env = pure false := by rfl) : Ex1 C n env τ (.Assign [.Name x px] e pos) P := by
  intro A hA s₀ s E F
  refine wpAny_Assign_Name (wpK (he A hA s₀ s E F) fun v s₁ h₁ => ?_) hs
  obtain ⟨c, hc⟩ := hc s₀ s F
  exact (F.keeps h₁.1).storeC hf h₁.2 hl hc fun s' F' => ⟨.next, _, h, rfl, rfl, F'⟩
theorem ex_aug {x : Str} {px pos : Pos} {op : Operator} {e : Expr} {a b c : Dat} {P : Fl → St → Prop} (hx : τ.σ x = some (.dat a)) (he : Ev C n env τ e (.dat b)) (ho : Op2 C n (inplaceOp op) a b c) (h : P .next (τ.set x (.dat c))) (hl : env.kindOf x = some .local := by rfl) :
    Ex1 C n env τ (.AugAssign (.Name x px) op e pos) P := by
  intro A hA s₀ s E F
  obtain ⟨m, hn, hm⟩ := F.ns
  obtain ⟨v, h1, h2⟩ := hm x _ hx
  refine wpAny_AugAssign_Name (wpAny_loadName_local F.hk hl hn h1 (wpK (he A hA s₀ s E F) fun w s₁ h₁ => ?_))
  have F₁ := F.keeps h₁.1
  refine wpK (ho A hA τ.S s₁ E v w F₁.below (R.up h2 h₁.1.up) h₁.2) fun r s₂ h₂ => ?_
  exact (F₁.keeps h₂.1).store (e := .dat c) h₂.2 hl fun s' F' _ _ => ⟨.next, _, h, rfl, rfl, F'⟩
theorem R.exs {h : Heap} {v : Value} {d : Dat} (r : R h τ.S v d) : R h τ.ex v d := r.mono (fun _ _ _ _ _ e _ => e) fun _ q => .inl (List.mem_append_right _ q)
theorem ex_ret {e : Expr} {d : Dat} {pos : Pos} {P : Fl → St → Prop} (he : Ev C n env τ e (.dat d)) (h : P (.ret d) τ) : Ex1 C n env τ (.Return (some e) pos) P := by
  intro A hA s₀ s E F
  exact wpAny_Return_some (wpK (he A hA s₀ s E F) fun v s₁ h₁ => ⟨.ret d, τ, h, ⟨v, rfl, R.exs h₁.2⟩, rfl, F.keeps h₁.1⟩)
theorem ex_cont {pos : Pos} {P : Fl → St → Prop} (h : P .cont τ) : Ex1 C n env τ (.Continue pos) P := by
  intro A hA s₀ s E F Γ p hΓ
  exact ⟨.cont, τ, h, rfl, rfl, F⟩
theorem ex_brk {pos : Pos} {P : Fl → St → Prop} (h : P .brk τ) : Ex1 C n env τ (.Break pos) P := by
  intro A hA s₀ s E F Γ p hΓ
  exact ⟨.brk, τ, h, rfl, rfl, F⟩
theorem ex_if {t : Expr} {a b : List Stmt} {pos : Pos} {c : Bool} {P : Fl → St → Prop} (ht : Ts C n env τ t c) (ha : c = true → Ex C n env τ a P) (hb : c = false → Ex C n env τ b P) : Ex1 C n env τ (.If t a b pos) P := by
  intro A hA s₀ s E F
  refine wpAny_If (wpK (ht A hA s₀ s E F) fun d s₁ h₁ => ?_)
  obtain ⟨k, rfl⟩ := h₁
  cases d with
  | true => exact ha rfl A hA s₀ s₁ E (F.keeps k)
  | false => exact hb rfl A hA s₀ s₁ E (F.keeps k)
end
end Mine
end -- W4

section -- W5
open PySem PySem.W PyProof.Rows PySem.Calls PySem.Spec
set_option maxRecDepth 100000
namespace Mine
section
variable {C : Cx} {n : Nat} {env : Env} {τ : St}

/-! ## the same state over another base -/
def hid (s : Shared) (H : List Addr) : Shared := { s with heap := hideAll s.heap H }
def turns (env : Env) (τ : St) : List Addr := env.locals :: ((if τ.fn = true then env.cells.map (·.2) else []) ++ τ.led.map (·.1))
theorem mem_ite_nil {α : Type} {c : Prop} [Decidable c] {l : List α} {a : α} (h : a ∈ (if c then l else [])) : c ∧ a ∈ l := by split at h <;> simp_all
theorem Fm.notSeq {s₀ s : Shared} (F : Fm C s₀ env τ s) : ∀ b ∈ turns env τ, (∃ p ∈ τ.led, p.1 = b) ∨ ∀ o xs k, s.heap.get? b = some o → o.data ≠ .seq xs k := by
  intro b hb
  rcases List.mem_cons.mp hb with rfl | hb
  · right
    obtain ⟨m, ⟨oL, es, ep, hL, hLd, _⟩, _⟩ := F.ns
    intro o xs k ho hd
    rw [hL] at ho; cases ho
    rw [hLd] at hd; cases hd
  · rcases List.mem_append.mp hb with hb | hb
    · right
      obtain ⟨p, hp, rfl⟩ := List.mem_map.mp (mem_ite_nil hb).2
      obtain ⟨w, oc, hoc, hdc⟩ := F.cell p hp
      intro o xs k ho hd
      rw [hoc] at ho; cases ho
      rw [hdc] at hd; cases hd
    · obtain ⟨p, hp, rfl⟩ := List.mem_map.mp hb
      exact .inl ⟨p, hp, rfl⟩
theorem Fm.turnsAt {s₀ s : Shared} (F : Fm C s₀ env τ s) : ∀ b ∈ turns env τ, ∃ o, s.heap.get? b = some o := by
  intro b hb
  rcases List.mem_cons.mp hb with rfl | hb
  · obtain ⟨m, ⟨oL, es, ep, hL, hLd, _⟩, _⟩ := F.ns
    exact ⟨_, hL⟩
  · rcases List.mem_append.mp hb with hb | hb
    · obtain ⟨p, hp, rfl⟩ := List.mem_map.mp (mem_ite_nil hb).2
      obtain ⟨w, oc, hoc, hdc⟩ := F.cell p hp
      exact ⟨_, hoc⟩
    · obtain ⟨p, hp, rfl⟩ := List.mem_map.mp hb
      obtain ⟨_, vs, ⟨k, h⟩, _⟩ := F.own p hp
      exact ⟨_, h⟩
theorem Fm.base_none {s₀ s : Shared} (F : Fm C s₀ env τ s) : ∀ b ∈ turns env τ, s₀.heap.get? b = none := by
  intro b hb
  rcases List.mem_cons.mp hb with rfl | hb
  · exact F.above
  · rcases List.mem_append.mp hb with hb | hb
    · obtain ⟨hf, hb⟩ := mem_ite_nil hb
      obtain ⟨p, hp, rfl⟩ := List.mem_map.mp hb; exact F.cabove hf p hp
    · obtain ⟨p, hp, rfl⟩ := List.mem_map.mp hb; exact (F.own p hp).1
theorem Fm.up' {s₀ s : Shared} (F : Fm C s₀ env τ s) : Fm C (hid s (turns env τ)) env τ s := by
  have k0 : Up C s₀.heap (hid s (turns env τ)).heap := F.keep.then (P := fun b => b ∈ turns env τ) (fun b o hb ho => hideAll_get _ ho hb) fun b q => F.base_none b q
  exact ⟨⟨s.heap, s.toks, rfl⟩, F.gd.up k0, .of fun b o e => of_hideAll _ e, F.lv, hideAll_none _ (.head _), F.hk, F.hg, F.hb, fun a ha => by obtain ⟨o, ho⟩ := F.hex a ha; obtain ⟨o', e', _⟩ := k0.ex ho; exact ⟨o', e'⟩, F.ns, F.apart,
    fun q p hp => hideAll_none _ (.tail _ (List.mem_append_left _ (by rw [if_pos q]; exact List.mem_map_of_mem hp))), F.cell, F.cval,
    fun p hp => ⟨hideAll_none _ (.tail _ (List.mem_append_right _ (List.mem_map_of_mem hp))), (F.own p hp).2⟩, F.nd⟩
theorem none_of_up {g h : Heap} (k : Up C g h) {a : Addr} (e : h.get? a = none) : g.get? a = none := by
  cases q : g.get? a with
  | none => rfl
  | some o => obtain ⟨o', e', _⟩ := k.ex q; rw [e'] at e; cases e
theorem Fm.down {s₀ s₁ s : Shared} (F : Fm C s₁ env τ s) (G : Gd C s₀.heap) (k : Up C s₀.heap s₁.heap) (hs : ∃ h t, s₁ = { s₀ with heap := h, toks := t }) (hex : ∀ a ∈ τ.ex, ∃ o, s₀.heap.get? a = some o) : Fm C s₀ env τ s := by
  obtain ⟨h1, t1, e1⟩ := hs
  obtain ⟨h2, t2, e2⟩ := F.same
  exact ⟨⟨h2, t2, by rw [e2, e1]⟩, G, k.trans F.keep, F.lv, none_of_up k F.above, F.hk, F.hg, F.hb, hex, F.ns, F.apart, fun q p hp => none_of_up k (F.cabove q p hp), F.cell, F.cval, fun p hp => ⟨none_of_up k (F.own p hp).1, (F.own p hp).2⟩, F.nd⟩
theorem Fm.updown {s₀ s s' : Shared} {τ' : St} (F : Fm C s₀ env τ s) (F' : Fm C (hid s (turns env τ)) env τ' s') (hx : τ'.ex = τ.ex) : Fm C s₀ env τ' s' := by
  obtain ⟨h, t, e⟩ := F.same
  refine F'.down F.gd (F.keep.then (P := fun b => b ∈ turns env τ) (fun b o hb ho => hideAll_get _ ho hb) fun b q => F.base_none b q) ⟨hideAll s.heap (turns env τ), t, by unfold hid; rw [e]⟩ (by rw [hx]; exact F.hex)
/-- a datum off the frame's own lists stands behind a block as it stood ahead of it -/
theorem Fm.carry {s₀ s s' : Shared} {τ' : St} {v : Value} {d : Dat} (F : Fm C s₀ env τ s) (F' : Fm C (hid s (turns env τ)) env τ' s') (hx : τ'.ex = τ.ex) (r : R s.heap τ.S v d) : R s'.heap τ'.S v d := by
  have r1 : R (hid s (turns env τ)).heap τ.ex v d := r.mono (fun b o xs k hb ho hd => hideAll_get _ ho fun q => by
    rcases F.notSeq b q with ⟨p, hp, rfl⟩ | hq
    · exact hb (List.mem_append_left _ (List.mem_map_of_mem hp))
    · exact hq _ _ _ ho hd) fun a ha => .inl (List.mem_append_right _ ha)
  refine r1.mono (F'.keep.seq _) fun a ha => ?_
  rcases List.mem_append.mp ha with ha | ha
  · obtain ⟨p, hp, rfl⟩ := List.mem_map.mp ha; exact .inr (F'.own p hp).1
  · exact .inl (hx ▸ ha)

/-! ## what is walked -/
structure It (C : Cx) (A : Around) (env : Env) (τ : St) (ds : List Dat) (I : Addr) (fp wr : List Addr) (P : Nat → Value → Prop) (Stt : Nat → Heap → Prop) (s : Shared) : Prop where
  W : Walks C.prog C.w A I fp wr ds.length P Stt
  live : ∀ i h, Stt i h → ∀ b ∈ wr, ∃ o, h.get? b = some o ∧ (∀ xs k, o.data ≠ .seq xs k) ∧ (∀ w, o.data ≠ .cell w) ∧ isDict o.data = false
  fpo : ∀ b ∈ fp, (∃ o, s.heap.get? b = some o ∧ isDict o.data = false) ∧ b ∉ turns env τ
  dat : ∀ i v, P i v → i < ds.length → ∃ d, ds[i]? = some d ∧ R s.heap τ.S v d
def Itr (C : Cx) (n : Nat) (env : Env) (τ : St) (e : Expr) (ds : List Dat) : Prop :=
  ∀ A, Rm C n A → ∀ s₀ s E, Fm C s₀ env τ s → wpAny (M C) A (eval e env) (fun x s₁ => wpAny (M C) A (pyIter x) (fun it s₂ => Kp C s s₂ ∧ ∃ I fp wr P Stt, it = .ref I ∧ It C A env τ ds I fp wr P Stt s₂ ∧ Stt 0 s₂.heap ∧ (∀ b ∈ wr, s.heap.get? b = none)) E s₁) E s
theorem get_new (h : Heap) : h.get? h.objs.size = none := by
  cases q : h.get? h.objs.size with
  | none => rfl
  | some o => exact absurd (Heap.lt_size q) (Nat.lt_irrefl _)
theorem itr_list {e : Expr} {ds : List Dat} (h : Ev C n env τ e (.dat (.list ds))) (hn : 0 < n := by decide) : Itr C n env τ e ds := by
  intro A hA s₀ s E F
  refine wpK (h A hA s₀ s E F) fun v s₁ h₁ => ?_
  have F₁ := F.keeps h₁.1
  cases (h₁.2 : R _ _ _ _) with
  | @list l vs k _ hl ho r =>
  have hlt := Heap.lt_size ho
  have hLI : ∀ b o, s₁.heap.get? b = some o → b ≠ s₁.heap.objs.size := fun b o e q => by rw [q, get_new] at e; cases e
  refine wpAny_pyIter_list (IsL.isList ho) ⟨h₁.1.trans (Kp.push _ _), s₁.heap.objs.size, [s₁.heap.objs.size, l], [s₁.heap.objs.size], fun i v => vs.toArray[i]? = some v, fun i h => h.IsListIter s₁.heap.objs.size l i ∧ h.IsList l vs.toArray, rfl, ⟨?_, ?_, ?_, ?_⟩, ?_, ?_⟩
  · have W := Walks.list (prog := C.prog) (w := C.w) (hA.hh hn) s₁.heap.objs.size l (Nat.ne_of_lt hlt) vs.toArray
    have el : vs.toArray.size = ds.length := by rw [List.size_toArray]; exact r.length
    rw [el] at W
    exact W
  · rintro i h ⟨⟨o, ho, _, hd⟩, _⟩ b hb
    rw [List.mem_singleton.mp hb]
    exact ⟨o, ho, fun xs k e => (by rw [hd] at e; cases e), (fun w e => by rw [hd] at e; cases e), by rw [hd]; rfl⟩
  · intro b hb
    rcases List.mem_cons.mp hb with rfl | hb
    · refine ⟨⟨_, Heap.get?_push_size _ rfl, rfl⟩, fun q => ?_⟩
      obtain ⟨o, e⟩ := F₁.turnsAt _ q
      exact hLI _ _ e rfl
    · rw [List.mem_singleton.mp hb]
      refine ⟨⟨_, Heap.get?_push_of_some _ ho, rfl⟩, fun q => ?_⟩
      rcases F₁.notSeq _ q with ⟨p, hp, e⟩ | hq
      · exact hl (List.mem_append_left _ (List.mem_map.mpr ⟨p, hp, e⟩))
      · exact hq _ _ _ ho rfl
  · intro i v hv hi
    obtain ⟨d, hd, rd⟩ := r.get' (by simpa using hv)
    exact ⟨d, hd, rd.push _⟩
  · exact ⟨⟨_, Heap.get?_push_size _ rfl, rfl, rfl⟩, (IsL.isList ho).push _⟩
  · intro b hb
    rw [List.mem_singleton.mp hb]
    exact none_of_up h₁.1.up (get_new _)

/-! ## loops -/
theorem R.but {S : List Addr} {h h' : Heap} {wr : List Addr} (k : ∀ b o, b ∉ wr → h.get? b = some o → h'.get? b = some o) (hw : ∀ b ∈ wr, ∀ o xs k, h.get? b = some o → o.data ≠ .seq xs k) {v : Value} {d : Dat} (r : R h S v d) : R h' S v d :=
  r.mono (fun b o xs q _ hb hd => k b o (fun z => hw b z o xs q hb hd) hb) fun _ q => .inl q
theorem Rs.but {S : List Addr} {h h' : Heap} {wr : List Addr} (k : ∀ b o, b ∉ wr → h.get? b = some o → h'.get? b = some o) (hw : ∀ b ∈ wr, ∀ o xs k, h.get? b = some o → o.data ≠ .seq xs k) {v : List Value} {d : List Dat} (r : Rs h S v d) : Rs h' S v d :=
  r.mono (fun b o xs q _ hb hd => k b o (fun z => hw b z o xs q hb hd) hb) fun _ q => .inl q
/-- objects that are none of the frame's turn: an iterator's -/
theorem Fm.but {s₀ s : Shared} {h' : Heap} {tk : Nat} {wr : List Addr} (F : Fm C s₀ env τ s) (k : ∀ b o, b ∉ wr → s.heap.get? b = some o → h'.get? b = some o)
    (hw : ∀ b ∈ wr, (∀ o xs k, s.heap.get? b = some o → o.data ≠ .seq xs k) ∧ b ∉ turns env τ ∧ s₀.heap.get? b = none ∧ (∀ w, ¬ s.heap.IsCell b w) ∧ ((∀ o, s.heap.get? b = some o → isDict o.data = false) ∨ ∀ e ∈ C.fs, e.frame ≠ some b)) :
    Fm C s₀ env τ { s with heap := h', toks := tk } := by
  have hq : ∀ b ∈ wr, ∀ o xs k, s.heap.get? b = some o → o.data ≠ .seq xs k := fun b hb => (hw b hb).1
  have hc : ∀ p ∈ env.cells, ∀ w, s.heap.IsCell p.2 w → Heap.IsCell h' p.2 w := fun p hp w ⟨o, ho, hd⟩ => ⟨o, k _ _ (fun z => (hw _ z).2.2.2.1 w ⟨o, ho, hd⟩) ho, hd⟩
  obtain ⟨hh, t, e0⟩ := F.same
  refine ⟨⟨h', tk, by rw [e0]⟩, F.gd, F.keep.then (P := fun b => b ∈ wr) k (fun b z => (hw b z).2.2.1), F.lv.many (P := fun b => b ∈ wr) k (fun b z => (hw b z).2.2.2.2), F.above, F.hk, F.hg, F.hb, F.hex, ?_, F.apart, F.cabove, fun p hp => let ⟨w, hw'⟩ := F.cell p hp; ⟨w, hc p hp w hw'⟩, fun x d hx => ?_, fun p hp => ?_, F.nd⟩
  · obtain ⟨m, ⟨oL, es, ep, hL, r⟩, hm⟩ := F.ns
    refine ⟨m, ⟨oL, es, ep, k _ _ (fun z => (hw _ z).2.1 (.head _)) hL, r⟩, fun x e hx => ?_⟩
    obtain ⟨v, h1, h2⟩ := hm x e hx
    refine ⟨v, h1, ?_⟩
    cases e with
    | dat d => exact R.but k hq h2
    | raw u => exact h2
    | refs as => obtain ⟨m, j, e, hm, ho⟩ := h2; exact ⟨m, j, e, hm, k _ _ (fun z => hq m z _ _ _ ho rfl) ho⟩
  · obtain ⟨c, v, h1, h2, h3⟩ := F.cval x d hx
    exact ⟨c, v, h1, hc (x, c) (PySem.mem_of_lookup h1) _ h2, h3.but k hq⟩
  · obtain ⟨h1, vs, ⟨j, h2⟩, h3⟩ := F.own p hp
    exact ⟨h1, vs, ⟨j, k _ _ (fun z => (hw _ z).2.1 (.tail _ (List.mem_append_right _ (List.mem_map_of_mem hp)))) h2⟩, h3.but k hq⟩

/-- at a loop's head -/
def LI (C : Cx) (A : Around) (env : Env) (s₀ : Shared) (X : List Addr) (J : Nat → St → Prop) (ds : List Dat) (I : Addr) (fp wr : List Addr) (PP : Nat → Value → Prop) (Stt : Nat → Heap → Prop) (k : Nat) (s' : Shared) : Prop :=
  ∃ i τ', k = ds.length + 1 - i ∧ i ≤ ds.length ∧ J i τ' ∧ τ'.ex = X ∧ Fm C s₀ env τ' s' ∧ It C A env τ' ds I fp wr PP Stt s' ∧ Stt i s'.heap

theorem core {A : Around} {E : Value → Shared → Prop} {s₀ s' : Shared} {X : List Addr} {J : Nat → St → Prop} {ds : List Dat} {I : Addr} {fp wr : List Addr} {PP : Nat → Value → Prop} {Stt : Nat → Heap → Prop} {k : Nat} {Y : Option Value → Shared → Prop}
    (hw0 : ∀ b ∈ wr, s₀.heap.get? b = none) (hI : LI C A env s₀ X J ds I fp wr PP Stt k s')
    (hdone : ∀ τ' s₁, J ds.length τ' → τ'.ex = X → Fm C s₀ env τ' s₁ → Y none s₁)
    (hturn : ∀ i d τ' v s₁, ds[i]? = some d → J i τ' → τ'.ex = X → Fm C s₀ env τ' s₁ → R s₁.heap τ'.S v d →
      (∀ τ'' s₂, J (i + 1) τ'' → τ''.ex = τ'.ex → Fm C (hid s₁ (turns env τ')) env τ'' s₂ → ∃ m, m < k ∧ LI C A env s₀ X J ds I fp wr PP Stt m s₂) → Y (some v) s₁) :
    wpAny (M C) A (pyNext (.ref I)) Y E s' := by
  obtain ⟨i, τ', rfl, hile, hJ, hx', F', ht, hst'⟩ := hI
  have hww : ∀ b ∈ wr, (∀ o xs k, s'.heap.get? b = some o → o.data ≠ .seq xs k) ∧ b ∉ turns env τ' ∧ s₀.heap.get? b = none ∧ (∀ w, ¬ s'.heap.IsCell b w) ∧ ((∀ o, s'.heap.get? b = some o → isDict o.data = false) ∨ ∀ e ∈ C.fs, e.frame ≠ some b) := fun b hb => by
    obtain ⟨o', e', hd⟩ := ht.live i _ hst' b hb
    refine ⟨fun o xs k e => ?_, (ht.fpo b (ht.W.sub b hb)).2, hw0 b hb, fun w ⟨o, e, hw⟩ => ?_, .inl fun o e => ?_⟩
    · rw [e] at e'; cases e'
      exact hd.1 xs k
    · rw [e] at e'; cases e'
      exact hd.2.1 w hw
    · rw [e] at e'; cases e'
      exact hd.2.2
  rcases Nat.lt_or_ge i ds.length with hlt | hge
  · refine ht.W.item i s' _ _ hlt hst' fun v h' tk hP hst₁ hk => ?_
    obtain ⟨d, hd, rd⟩ := ht.dat i v hP hlt
    have G : Fm C s₀ env τ' { s' with heap := h', toks := tk } := F'.but hk hww
    have rb : ∀ {v : Value} {d : Dat}, R s'.heap τ'.S v d → R h' τ'.S v d := fun r => r.but hk fun b hb => (hww b hb).1
    refine hturn i d τ' v _ hd hJ hx' G (rb rd) fun τ'' s₄ hj hx'' F₄ => ?_
    have F₄' : Fm C s₀ env τ'' s₄ := G.updown F₄ hx''
    have keep₄ : ∀ b o, b ∉ turns env τ' → isDict o.data = false → h'.get? b = some o → s₄.heap.get? b = some o := fun b o hb hd e => F₄.keep.at (hideAll_get _ e hb) hd
    have fp₃ : ∀ b ∈ fp, ∃ o, h'.get? b = some o ∧ isDict o.data = false := by
      intro b hb
      by_cases hbw : b ∈ wr
      · obtain ⟨o, ho, _, _, hd⟩ := ht.live _ _ hst₁ b hbw
        exact ⟨o, ho, hd⟩
      · obtain ⟨o, ho, hd⟩ := (ht.fpo b hb).1
        exact ⟨o, hk b o hbw ho, hd⟩
    have hff : τ''.fn = τ'.fn ∨ True := .inr trivial
    refine ⟨ds.length + 1 - (i + 1), by omega, i + 1, τ'', rfl, hlt, hj, hx''.trans hx', F₄', ⟨ht.W, ht.live, fun b hb => ?_, fun j w hjw hjl => ?_⟩, ht.W.frame _ _ _ hst₁ fun b hb o e => keep₄ b o (ht.fpo b hb).2 (by obtain ⟨o', ho', hd'⟩ := fp₃ b hb; rw [e] at ho'; cases ho'; exact hd') e⟩
    · obtain ⟨o, ho, hod⟩ := fp₃ b hb
      have hnt := (ht.fpo b hb).2
      refine ⟨⟨o, keep₄ b o hnt hod ho, hod⟩, fun q => ?_⟩
      have hso : (hid { s' with heap := h', toks := tk } (turns env τ')).heap.get? b = some o := hideAll_get _ ho hnt
      have := F₄.base_none b q
      rw [hso] at this
      cases this
    · obtain ⟨d', hd', rd'⟩ := ht.dat j w hjw hjl
      exact ⟨d', hd', G.carry F₄ hx'' (rb rd')⟩
  · have hi' : i = ds.length := by omega
    subst hi'
    exact ht.W.done s' _ _ hst' fun h' tk hk => hdone τ' _ hJ hx' (F'.but hk hww)

theorem ex_for {x : Str} {px pos : Pos} {iter : Expr} {body : List Stmt} {ds : List Dat} {P : Fl → St → Prop} (J : Nat → St → Prop) (hi : Itr C n env τ iter ds) (h0 : J 0 τ)
    (turn : ∀ i d τ', ds[i]? = some d → J i τ' → Ex C n env (τ'.set x (.dat d)) body (fun l τ'' => match l with
      | .next | .cont => J (i + 1) τ''
      | .brk => P .next τ''
      | .ret r => P (.ret r) τ''))
    (done : ∀ τ', J ds.length τ' → P .next τ') (hl : env.kindOf x = some .local := by rfl) (hs : ∀ x, foldedSetIterable iter env x = pure x := by intro _; rfl) : Ex1 C n env τ (.For (.Name x px) iter body [] pos) P := by
  intro A hA s₀ s E F
  refine wpAny_For (wpK (hi A hA s₀ s E F) fun xv s₁ h₁ => wpK h₁ fun it s₂ h₂ => ?_) hs
  obtain ⟨k₂, I, fp, wr, PP, Stt, rfl, hit, hst, hwr⟩ := h₂
  have F₂ := F.keeps k₂
  have hw0 : ∀ b ∈ wr, s₀.heap.get? b = none := fun b hb => none_of_up F.keep (hwr b hb)
  refine codeAny_forLoop (LI C A env s₀ τ.ex J ds I fp wr PP Stt) ?_ (ds.length + 1) ⟨0, τ, rfl, Nat.zero_le _, h0, rfl, F₂, hit, hst⟩
  intro k s' hI
  refine core hw0 hI (fun τ' s₁ hJ hx' F' => wpAny_execs_nil ⟨.next, τ', done τ' hJ, rfl, hx', F'⟩) fun i d τ' v s₁ hd hJ hx' F' rd cont => ?_
  have G := F'.up'
  refine wpAny_assign_Name (G.store (e := .dat d) rd hl fun s₃ F₃ hs₃ sk₃ => ?_)
  refine wpK (turn i d τ' hd hJ A hA _ s₃ _ F₃) fun f s₄ h₄ => ?_
  obtain ⟨l, τ'', hp, hfl, hx'', F₄⟩ := h₄
  have hx4 : τ''.ex = τ'.ex := hx''
  cases l with
  | brk => cases (hfl : f = _); exact ⟨.next, τ'', hp, rfl, hx4.trans hx', F'.updown F₄ hx4⟩
  | ret r =>
    obtain ⟨v, rfl, rr⟩ := hfl
    have rr' : R s₄.heap τ.ex v r := by rw [← hx']; exact rr
    exact ⟨.ret r, τ'', hp, ⟨v, rfl, rr'⟩, hx4.trans hx', F'.updown F₄ hx4⟩
  | next => cases (hfl : f = _); exact cont τ'' s₄ hp hx4 F₄
  | cont => cases (hfl : f = _); exact cont τ'' s₄ hp hx4 F₄

/-! ## while -/
theorem ex_while {test : Expr} {body : List Stmt} {pos : Pos} {P : Fl → St → Prop} (J : Nat → St → Prop) (k : Nat) (h0 : J k τ)
    (turn : ∀ k τ', J k τ' → ∃ b, Ts C n env τ' test b ∧ (b = true → Ex C n env τ' body (fun l τ'' => match l with
      | .next | .cont => ∃ m, m < k ∧ J m τ''
      | .brk => P .next τ''
      | .ret r => P (.ret r) τ'')) ∧ (b = false → P .next τ')) : Ex1 C n env τ (.While test body [] pos) P := by
  intro A hA s₀ s E F
  refine wpAny_While (codeAny_whileLoop (fun k s' => ∃ τ', J k τ' ∧ τ'.ex = τ.ex ∧ Fm C s₀ env τ' s') ?_ k ⟨τ, h0, rfl, F⟩)
  rintro k s' ⟨τ', hJ, hx', F'⟩
  obtain ⟨b, ht, hb, he⟩ := turn k τ' hJ
  refine wpK (ht A hA s₀ s' _ F') fun c s₁ h₁ => ?_
  obtain ⟨k₁, rfl⟩ := h₁
  have F₁ := F'.keeps k₁
  cases c with
  | false => exact wpAny_execs_nil ⟨.next, τ', he rfl, rfl, hx', F₁⟩
  | true =>
    refine wpK (hb rfl A hA s₀ s₁ _ F₁) fun f s₂ h₂ => ?_
    obtain ⟨l, τ'', hp, hfl, hx'', F₂⟩ := h₂
    cases l with
    | brk => cases (hfl : f = _); exact ⟨.next, τ'', hp, rfl, hx''.trans hx', F₂⟩
    | ret r =>
      obtain ⟨v, rfl, rr⟩ := hfl
      rw [hx'] at rr
      exact ⟨.ret r, τ'', hp, ⟨v, rfl, rr⟩, hx''.trans hx', F₂⟩
    | next =>
      cases (hfl : f = _)
      obtain ⟨m, hm, hj⟩ := hp
      exact ⟨m, hm, τ'', hj, hx''.trans hx', F₂⟩
    | cont =>
      cases (hfl : f = _)
      obtain ⟨m, hm, hj⟩ := hp
      exact ⟨m, hm, τ'', hj, hx''.trans hx', F₂⟩
end
end Mine
end -- W5

section -- W6
open PySem PySem.W PyProof.Rows PySem.Calls PySem.Spec
set_option maxRecDepth 100000
namespace Mine
section
variable {C : Cx} {n : Nat} {env : Env} {τ : St}

/-! ## lists of the frame's own -/
theorem EntAt.wider {S T : List Addr} {h h' : Heap} (k : SeqK S h h') (ht : ∀ a, a ∈ T → (a ∈ S ∨ h.get? a = Option.none)) {v : Value} {e : Ent} (x : EntAt S h v e) : EntAt T h' v e := by
  cases e with
  | dat d => exact R.mono k ht x
  | raw u => exact x
  | refs as => obtain ⟨m, j, e, hm, ho⟩ := x; exact ⟨m, j, e, fun q => (ht _ q).elim hm fun z => (by rw [ho] at z; cases z), k _ _ _ _ hm ho rfl⟩
/-- the same frame, off more or fewer addresses -/
theorem Fm.off {s₀ s s' : Shared} {τ' : St} (F : Fm C s₀ env τ s) (k : Kp C s s') (ht : ∀ a, a ∈ τ'.S → (a ∈ τ.S ∨ s.heap.get? a = Option.none)) (e1 : τ'.σ = τ.σ) (e2 : τ'.cσ = τ.cσ) (e3 : τ'.fn = τ.fn) (e4 : τ'.ex = τ.ex)
    (own : ∀ p ∈ τ'.led, s₀.heap.get? p.1 = Option.none ∧ ∃ vs, s'.heap.PlainList p.1 vs.toArray ∧ Rs s'.heap τ'.S vs p.2) (nd : (τ'.led.map (·.1)).Nodup) : Fm C s₀ env τ' s' := by
  have F' := F.keeps k
  have sk := k.up.seq τ.S
  refine ⟨F'.same, F.gd, F'.keep, F'.lv, F.above, F.hk, F.hg, F.hb, by rw [e4]; exact F.hex, ?_, by rw [e3]; exact F.apart, by rw [e3]; exact F.cabove, F'.cell, fun x d hx => ?_, own, nd⟩
  · obtain ⟨m, hn, hm⟩ := F.ns
    exact ⟨m, k.up.ns hn, fun x e hx => let ⟨v, h1, h2⟩ := hm x e (by rw [← e1]; exact hx); ⟨v, h1, h2.wider sk ht⟩⟩
  · obtain ⟨c, v, h1, h2, h3⟩ := F.cval x d (by rw [← e2]; exact hx)
    exact ⟨c, v, h1, k.up.cell h2, R.mono sk ht h3⟩
theorem Fm.addOwn {s₀ s s' : Shared} {a : Addr} {vs : List Value} {ds : List Dat} (F : Fm C s₀ env τ s) (k : Kp C s s') (ha : s.heap.get? a = none) (hl : s'.heap.PlainList a vs.toArray) (r : Rs s'.heap (a :: τ.S) vs ds) : Fm C s₀ env { τ with led := (a, ds) :: τ.led } s' := by
  refine F.off k (fun b hb => ?_) rfl rfl rfl rfl (fun p hp => ?_) (List.nodup_cons.mpr ⟨fun q => ?_, F.nd⟩)
  · rcases List.mem_cons.mp hb with rfl | hb
    · exact .inr ha
    · exact .inl hb
  · rcases List.mem_cons.mp hp with rfl | hp
    · exact ⟨none_of_up F.keep ha, vs, hl, r⟩
    · obtain ⟨h1, vs', ⟨j, h2⟩, h3⟩ := F.own p hp
      exact ⟨h1, vs', k.up.plain ⟨j, h2⟩, h3.mono (k.up.seq _) fun b hb => by
        rcases List.mem_cons.mp hb with rfl | hb
        · exact .inr ha
        · exact .inl hb⟩
  · obtain ⟨o, ho⟩ := F.stands a (List.mem_append_left _ q)
    rw [ha] at ho; cases ho
theorem Fm.updOwn {s₀ s : Shared} {h' : Heap} {tk : Nat} {a : Addr} {xs xs' : List Dat} {vs' : List Value} {l1 l2 : List (Addr × List Dat)} (F : Fm C s₀ env τ s) (e : τ.led = l1 ++ (a, xs) :: l2) (hs : Heap.SameBut a s.heap h') (hp : h'.PlainList a vs'.toArray) (r : Rs s.heap τ.S vs' xs') :
    Fm C s₀ env { τ with led := l1 ++ (a, xs') :: l2 } { s with heap := h', toks := tk } := by
  have ha : a ∈ τ.S := List.mem_append_left _ (by rw [e]; simp)
  have eS : ({ τ with led := l1 ++ (a, xs') :: l2 } : St).S = τ.S := by simp [St.S, e]
  have sk : SeqK τ.S s.heap h' := fun b o ys k hb ho _ => (hs.2 b fun q => hb (q ▸ ha)).trans ho
  have hmem : (a, xs) ∈ τ.led := by rw [e]; simp
  obtain ⟨h0, vs, ⟨j, hl⟩, _⟩ := F.own _ hmem
  obtain ⟨hh, t, e0⟩ := F.same
  have hc : ∀ c w, s.heap.IsCell c w → h'.IsCell c w := fun c w ⟨o, ho, hd⟩ => ⟨o, (hs.2 c fun q => by rw [q] at ho; rw [hl] at ho; cases ho; cases hd).trans ho, hd⟩
  refine ⟨⟨h', tk, by rw [e0]⟩, F.gd, F.keep.then (P := fun b => b = a) (fun b o hb ho => (hs.2 b hb).trans ho) (fun b q => by rw [q]; exact h0), F.lv.turn (fun b o hb ho => (hs.2 b hb).trans ho) (.inl fun o ho => by rw [hl] at ho; cases ho; rfl), F.above, F.hk, F.hg, F.hb, F.hex, ?_, F.apart, F.cabove, fun p hp => let ⟨w, hw⟩ := F.cell p hp; ⟨w, hc _ w hw⟩, fun x d hx => ?_, fun p hp' => ?_, ?_⟩
  · rw [eS]
    obtain ⟨m, hn, hm⟩ := F.ns
    obtain ⟨oL, es, ep, hL, hLd, hr⟩ := id hn
    exact ⟨m, ⟨oL, es, ep, (hs.2 _ fun q => by rw [q] at hL; rw [hl] at hL; cases hL; cases hLd).trans hL, hLd, hr⟩, fun x e hx => let ⟨v, h1, h2⟩ := hm x e hx; ⟨v, h1, h2.seq sk⟩⟩
  · rw [eS]
    obtain ⟨c, v, h1, h2, h3⟩ := F.cval x d hx
    exact ⟨c, v, h1, hc c _ h2, R.mono sk (fun _ q => .inl q) h3⟩
  · rw [eS]
    have nd := F.nd
    rw [e] at nd
    simp only [List.map_append, List.map_cons, List.nodup_append, List.nodup_cons] at nd
    have old : ∀ p ∈ τ.led, p.1 ≠ a → s₀.heap.get? p.1 = none ∧ ∃ vs, h'.PlainList p.1 vs.toArray ∧ Rs h' τ.S vs p.2 := by
      intro p hp hne
      obtain ⟨h1, vs, ⟨j, h2⟩, h3⟩ := F.own p hp
      exact ⟨h1, vs, ⟨j, (hs.2 _ hne).trans h2⟩, Rs.mono sk (fun _ q => .inl q) h3⟩
    rcases List.mem_append.mp hp' with hp' | hp'
    · exact old p (by rw [e]; exact List.mem_append_left _ hp') fun q => nd.2.2 p.1 (List.mem_map_of_mem hp') a (.head _) q
    · rcases List.mem_cons.mp hp' with rfl | hp'
      · exact ⟨h0, vs', hp, Rs.mono sk (fun _ q => .inl q) r⟩
      · exact old p (by rw [e]; exact List.mem_append_right _ (.tail _ hp')) fun q => nd.2.1.1 (q ▸ List.mem_map_of_mem hp')
  · have nd := F.nd
    rw [e] at nd
    simpa using nd

/-- the value is a list made anew -/
def EvNew (C : Cx) (n : Nat) (env : Env) (τ : St) (e : Expr) (ds : List Dat) : Prop :=
  ∀ A, Rm C n A → ∀ s₀ s E, Fm C s₀ env τ s → wpAny (M C) A (eval e env) (fun v s' => Kp C s s' ∧ ∃ a vs, v = .ref a ∧ s.heap.get? a = none ∧ s'.heap.PlainList a vs.toArray ∧ Rs s'.heap (a :: τ.S) vs ds) E s
theorem evn_list {es : List Expr} {ds : List Dat} {pos : Pos} (h : Es C n env τ es ds) (hsz : ds.length ≤ sizeLine := by decide) : EvNew C n env τ (.List es pos) ds := by
  intro A hA s₀ s E F
  refine List_ (wpK (h pos A hA s₀ s E F) fun vs s₁ h₁ => ?_)
  refine wpAny_newList ⟨h₁.1.trans (Kp.push _ _), _, vs, rfl, none_of_up h₁.1.up (get_new _), ⟨0, Heap.get?_push_size _ rfl⟩, h₁.2.mono (SeqK.push _ _ _) fun b hb => ?_⟩ (by rw [h₁.2.length]; exact hsz)
  rcases List.mem_cons.mp hb with rfl | hb
  · exact .inr (get_new _)
  · exact .inl hb
theorem evn_if {t a b : Expr} {pos : Pos} {c : Bool} {ds : List Dat} (ht : Ts C n env τ t c) (ha : c = true → EvNew C n env τ a ds) (hb : c = false → EvNew C n env τ b ds) : EvNew C n env τ (.IfExp t a b pos) ds := by
  intro A hA s₀ s E F
  refine wpAny_IfExp (wpK (ht A hA s₀ s E F) fun d s₁ h₁ => ?_)
  obtain ⟨k, rfl⟩ := h₁
  cases d with
  | true => exact wpK (ha rfl A hA s₀ s₁ E (F.keeps k)) fun v s₂ ⟨k₂, a, vs, e, h0, h1, h2⟩ => ⟨k.trans k₂, a, vs, e, none_of_up k.up h0, h1, h2⟩
  | false => exact wpK (hb rfl A hA s₀ s₁ E (F.keeps k)) fun v s₂ ⟨k₂, a, vs, e, h0, h1, h2⟩ => ⟨k.trans k₂, a, vs, e, none_of_up k.up h0, h1, h2⟩
theorem ex_assign_own {x : Str} {px pos : Pos} {e : Expr} {ds : List Dat} {P : Fl → St → Prop} (he : EvNew C n env τ e ds) (h : ∀ a, P .next (({ τ with led := (a, ds) :: τ.led } : St).set x (.raw (.ref a)))) (hl : env.kindOf x = some .local := by rfl)
    (hs : swapsWith e (some (.Name x px)) pos.line env = pure false := by rfl) : Ex1 C n env τ (.Assign [.Name x px] e pos) P := by
  intro A hA s₀ s E F
  refine wpAny_Assign_Name (wpK (he A hA s₀ s E F) fun v s₁ ⟨k, a, vs, hv, ha, hl', r⟩ => ?_) hs
  subst hv
  exact (F.addOwn k ha hl' r).store (e := .raw (.ref a)) rfl hl fun s' F' _ _ => ⟨.next, _, h a, rfl, rfl, F'⟩

theorem IsL.push_upd {h : Heap} {a : Addr} {vs : List Value} {k : Nat} (hl : h.get? a = some (lO vs k)) (f : Array Value → Array Value) (ws : List Value) (e : f vs.toArray = ws.toArray) : (h.update a (Obj.mapSeq f)).PlainList a ws.toArray := by
  have q := IsL.update (h := h) (l := a) (items := vs.toArray) (n := k) hl f
  rw [e] at q
  exact ⟨_, q⟩
theorem wp_append {A : Around} {E : Value → Shared → Prop} {s₀ s : Shared} {Q : Value → Shared → Prop} {a : Addr} {v : Value} {d : Dat} {xs : List Dat} {l1 l2 : List (Addr × List Dat)} (F : Fm C s₀ env τ s) (e : τ.led = l1 ++ (a, xs) :: l2) (r : R s.heap τ.S v d) (hsz : xs.length ≤ sizeLine)
    (h : ∀ s', Fm C s₀ env { τ with led := l1 ++ (a, xs ++ [d]) :: l2 } s' → Q .none s') : wpAny (M C) A (call (.builtin "list.append") [.ref a, v]) Q E s := by
  obtain ⟨h0, vs, ⟨j, hl⟩, rv⟩ := F.own (a, xs) (by rw [e]; simp)
  refine call_meets slot_list_append (s := s) ⟨_, hl, rfl⟩ entry_list_append (args_list_append _ _) (list_append a vs.toArray j v (by rw [List.size_toArray, rv.length]; exact hsz)) ⟨hl, ?_⟩
  exact h _ (F.updOwn e (Heap.SameBut.update ..) (IsL.push_upd hl _ (vs ++ [v]) (by simp)) (rv.append (.one r)))

/-- o.name(e) as a statement, o one of the frame's own lists -/
theorem ex_append {o e : Expr} {apos cpos pos : Pos} {a : Addr} {d : Dat} {xs : List Dat} {l1 l2 : List (Addr × List Dat)} {P : Fl → St → Prop} (ho : Ev C n env τ o (.raw (.ref a))) (he : Ev C n env τ e (.dat d)) (hl : τ.led = l1 ++ (a, xs) :: l2) (hsz : xs.length ≤ sizeLine)
    (h : P .next { τ with led := l1 ++ (a, xs ++ [d]) :: l2 })
    (hbase : attributeBase o "append" env (eval o env) = eval o env := by rfl) (hs : starEach [e] env = [(false, eval e env)] := by rfl) (hline : (apos.endLine == cpos.line) = true := by rfl)
    (hi : interactive env = false := by rfl) (hsw : swapsWith (.Call (.Attribute o "append" apos) [e] [] cpos) none pos.line env = pure false := by rfl) :
    Ex1 C n env τ (.Expr (.Call (.Attribute o "append" apos) [e] [] cpos) pos) P := by
  intro A hA s₀ s E F
  refine wpAny_Expr (Call_method1 hbase hs hline (wpK (ho A hA s₀ s E F) fun ov s₁ h₁ => ?_)) hi hsw
  obtain ⟨k₁, rfl⟩ := h₁
  have F₁ := F.keeps k₁
  obtain ⟨h0, vs, ⟨j, hl'⟩, rv⟩ := F₁.own (a, xs) (by rw [hl]; simp)
  refine ⟨"list", _, PySem.F.plainAttrs_list, slot_list_append, PySem.F.type_list_append, ⟨_, hl', rfl⟩, fun b q => by cases q; exact ⟨_, hl', rfl⟩, ?_⟩
  refine callWith_builtin rfl (evalArgs_plain (spliced_cons (wpK (he A hA s₀ s₁ E F₁) fun v s₂ h₂ => spliced_nil ?_)))
  exact wp_append (F₁.keeps h₂.1) hl h₂.2 hsz fun s' F' => ⟨.next, _, h, rfl, rfl, F'⟩
end
end Mine
end -- W6

section -- W7
open PySem PySem.W PyProof.Rows PySem.Calls PySem.Spec
set_option maxRecDepth 100000
namespace Mine
section
variable {C : Cx} {n : Nat} {env : Env} {τ : St}

theorem ex_pop {o : Expr} {apos cpos pos : Pos} {a : Addr} {x : Str} {xs : List Dat} {l1 l2 : List (Addr × List Dat)} {P : Fl → St → Prop} (ho : Ev C n env τ o (.raw (.ref a))) (hl : τ.led = l1 ++ (a, xs ++ [.str x]) :: l2) (hsz : xs.length + 1 ≤ sizeLine)
    (h : P .next { τ with led := l1 ++ (a, xs) :: l2 })
    (hbase : attributeBase o "pop" env (eval o env) = eval o env := by rfl) (hline : (apos.endLine == cpos.line) = true := by rfl)
    (hi : interactive env = false := by rfl) (hsw : swapsWith (.Call (.Attribute o "pop" apos) [] [] cpos) none pos.line env = pure false := by rfl) :
    Ex1 C n env τ (.Expr (.Call (.Attribute o "pop" apos) [] [] cpos) pos) P := by
  intro A hA s₀ s E F
  refine wpAny_Expr (Call_method0 hbase hline (wpK (ho A hA s₀ s E F) fun ov s₁ h₁ => ?_)) hi hsw
  obtain ⟨k₁, rfl⟩ := h₁
  have F₁ := F.keeps k₁
  obtain ⟨h0, vs, ⟨j, hl'⟩, rv⟩ := F₁.own (a, xs ++ [.str x]) (by rw [hl]; simp)
  refine ⟨"list", _, PySem.F.plainAttrs_list, PySem.F.slot_list_pop, PySem.F.type_list_pop, ⟨_, hl', rfl⟩, fun b q => by cases q; exact ⟨_, hl', rfl⟩, ?_⟩
  have el := rv.length
  obtain ⟨y, hy, ry⟩ := rv.get (k := xs.length) (d := .str x) (by simp)
  cases ry with
  | str _ t hx =>
  have ev : vs = vs.take xs.length ++ [.str x t] := by
    have h1 : vs.length = xs.length + 1 := by rw [el]; simp
    have h2 := List.take_append_drop xs.length vs
    have h3 : vs.drop xs.length = [.str x t] := by
      rw [List.drop_eq_getElem_cons (by omega)]
      rw [List.getElem?_eq_getElem (by omega)] at hy
      rw [Option.some.inj hy]
      rw [List.drop_eq_nil_of_le (by omega)]
    rw [h3] at h2; exact h2.symm
  have e1 : vs.toArray.size - 1 = xs.length := by simp only [List.size_toArray, el]; simp
  refine PySem.P.pop_list (y := .str x t) hl' (by rw [e1]; simpa using hy) ?_ (by simp only [List.size_toArray, el]; simpa using hsz)
  rw [e1]
  refine ⟨.next, _, h, rfl, rfl, F₁.updOwn hl (Heap.SameBut.update ..) (IsL.push_upd hl' _ (vs.take xs.length) ?_) ?_⟩
  · show Array.eraseIdxIfInBounds vs.toArray xs.length = _
    unfold Array.eraseIdxIfInBounds
    have hlt : xs.length < vs.toArray.size := by simp only [List.size_toArray, el]; simp
    rw [dif_pos hlt]
    apply Array.ext'
    rw [Array.toList_eraseIdx]
    simp only
    conv => lhs; rw [ev]
    rw [List.eraseIdx_append_of_length_le (by rw [List.length_take]; exact Nat.min_le_left _ _)]
    have : (vs.take xs.length).length = xs.length := by rw [List.length_take, el]; simp
    rw [this]; simp
  · have q := rv.take xs.length
    simpa using q

/-- a list of the frame's own, which is turned no more, is a datum like others -/
theorem Fm.freeze {s₀ s : Shared} {x : Str} {a : Addr} {xs : List Dat} {l1 l2 : List (Addr × List Dat)} (F : Fm C s₀ env τ s) (hx : τ.σ x = some (.raw (.ref a))) (hl : τ.led = l1 ++ (a, xs) :: l2) : Fm C s₀ env (({ τ with led := l1 ++ l2 } : St).set x (.dat (.list xs))) s := by
  have nd := F.nd
  rw [hl] at nd
  simp only [List.map_append, List.map_cons, List.nodup_append, List.nodup_cons] at nd
  have sub : ∀ p, p ∈ l1 ++ l2 → p ∈ τ.led := fun p hp => by
    rw [hl]
    rcases List.mem_append.mp hp with hp | hp
    · exact List.mem_append_left _ hp
    · exact List.mem_append_right _ (.tail _ hp)
  have subS : ∀ b, b ∈ (l1 ++ l2).map (·.1) ++ τ.ex → b ∈ τ.S := fun b hb => by
    rcases List.mem_append.mp hb with hb | hb
    · obtain ⟨p, hp, rfl⟩ := List.mem_map.mp hb
      exact List.mem_append_left _ (List.mem_map_of_mem (sub p hp))
    · exact List.mem_append_right _ hb
  have sk : SeqK τ.S s.heap s.heap := fun _ _ _ _ _ e _ => e
  have ht : ∀ b, b ∈ (l1 ++ l2).map (·.1) ++ τ.ex → (b ∈ τ.S ∨ s.heap.get? b = Option.none) := fun b hb => .inl (subS b hb)
  obtain ⟨h0, vs, ⟨j, ho⟩, rv⟩ := F.own (a, xs) (by rw [hl]; simp)
  have ha : a ∉ (l1 ++ l2).map (·.1) ++ τ.ex := fun hb => by
    rcases List.mem_append.mp hb with hb | hb
    · rw [List.map_append] at hb
      rcases List.mem_append.mp hb with hb | hb
      · exact nd.2.2 a hb a (.head _) rfl
      · exact nd.2.1.1 hb
    · obtain ⟨o, e⟩ := F.hex a hb
      rw [h0] at e; cases e
  have ra : R s.heap ((l1 ++ l2).map (·.1) ++ τ.ex) (.ref a) (.list xs) := .list ha ho (rv.mono sk ht)
  refine ⟨F.same, F.gd, F.keep, F.lv, F.above, F.hk, F.hg, F.hb, F.hex, ?_, F.apart, F.cabove, F.cell, fun y d hy => ?_, fun p hp => ?_, ?_⟩
  · obtain ⟨m, hn, hm⟩ := F.ns
    refine ⟨m, hn, fun y e hy => ?_⟩
    simp only [St.set] at hy
    by_cases hyx : y = x
    · rw [if_pos hyx] at hy
      cases hy
      obtain ⟨v, h1, h2⟩ := hm x _ hx
      cases (h2 : v = _)
      exact ⟨_, hyx ▸ h1, ra⟩
    · rw [if_neg hyx] at hy
      obtain ⟨v, h1, h2⟩ := hm y e hy
      exact ⟨v, h1, h2.wider sk ht⟩
  · obtain ⟨c, v, h1, h2, h3⟩ := F.cval y d hy
    exact ⟨c, v, h1, h2, R.mono sk ht h3⟩
  · obtain ⟨h1, ws, h2, h3⟩ := F.own p (sub p hp)
    exact ⟨h1, ws, h2, h3.mono sk ht⟩
  · show ((l1 ++ l2).map (·.1)).Nodup
    rw [List.map_append, List.nodup_append]
    exact ⟨nd.1, nd.2.1.2, fun b hb c hc => nd.2.2 b hb c (.tail _ hc)⟩
theorem ex_freeze {x : Str} {a : Addr} {xs : List Dat} {l1 l2 : List (Addr × List Dat)} {st : List Stmt} {P : Fl → St → Prop} (hx : τ.σ x = some (.raw (.ref a))) (hl : τ.led = l1 ++ (a, xs) :: l2) (h : Ex C n env (({ τ with led := l1 ++ l2 } : St).set x (.dat (.list xs))) st P) : Ex C n env τ st P :=
  fun A hA s₀ s E F => h A hA s₀ s E (F.freeze hx hl)

/-! ## what is known of a list of the frame's own, read -/
/-- the value, read over the whole heap -/
def EvW (C : Cx) (n : Nat) (env : Env) (τ : St) (e : Expr) (d : Dat) : Prop :=
  ∀ A, Rm C n A → ∀ s₀ s E, Fm C s₀ env τ s → wpAny (M C) A (eval e env) (fun v s' => Kp C s s' ∧ R s'.heap [] v d) E s
theorem evw_dat {e : Expr} {d : Dat} (h : Ev C n env τ e (.dat d)) : EvW C n env τ e d := fun A hA s₀ s E F => wpK (h A hA s₀ s E F) fun _ _ ⟨k, r⟩ => ⟨k, R.nil r⟩
theorem evw_own {e : Expr} {a : Addr} {xs : List Dat} {l1 l2 : List (Addr × List Dat)} (h : Ev C n env τ e (.raw (.ref a))) (hl : τ.led = l1 ++ (a, xs) :: l2) : EvW C n env τ e (.list xs) := by
  intro A hA s₀ s E F
  refine wpK (h A hA s₀ s E F) fun v s₁ ⟨k, hv⟩ => ?_
  cases (hv : v = _)
  obtain ⟨_, vs, ⟨j, ho⟩, rv⟩ := (F.keeps k).own (a, xs) (by rw [hl]; simp)
  exact ⟨k, .list List.not_mem_nil ho rv.nil'⟩
theorem ts_ownlist {e : Expr} {xs : List Dat} (h : EvW C n env τ e (.list xs)) (hx : xs.length ≤ sizeLine)
    (he : ∀ whole, isTrue e env whole = (do let v ← whole; standAt e.pos; holding [v] (truthy v)) := by intro _; rfl) : Ts C n env τ e (!xs.isEmpty) := by
  intro A hA s₀ s E F
  exact isTrue_plain (wpK (h A hA s₀ s E F) fun v s₁ h₁ => wpK (tr_list (n := n) hx A hA [] s₁ E v h₁.2) fun c s₂ h₂ => ⟨h₁.1.trans h₂.1, h₂.2⟩) (he _)
theorem ev_item_str {v i : Expr} {pos : Pos} {ds : List Dat} {k : Int} {y : Str} (hv : EvW C n env τ v (.list ds)) (hi : Ev C n env τ i (.dat (.int k))) (hd : at? ds k = some (.str y)) (hsz : ds.length ≤ sizeLine)
    (hs : ∀ o i', subscripted i false o i' = operate [o, i'] (getItem o i') := by intro _ _; rfl) : Ev C n env τ (.Subscript v i pos) (.dat (.str y)) := by
  intro A hA s₀ s E F
  refine wp_sub hs (wpK (hv A hA s₀ s E F) fun o s₁ h₁ => wpK (hi A hA s₀ s₁ E (F.keeps h₁.1)) fun j s₂ h₂ => ?_)
  obtain ⟨k₂, h₂⟩ := h₂
  have h₁' : R s₂.heap [] o (.list ds) := R.up h₁.2 k₂.up
  cases (h₂ : R _ _ _ _)
  cases h₁' with
  | list hl ho r =>
    refine ⟨"list", _, list_getitem_lookup, ⟨_, ho, rfl⟩, ?_⟩
    have el := r.length
    unfold at? seqIndex? at hd
    rw [sizeLine_eq] at hsz
    have fin : ∀ {x}, R s₂.heap [] x (.str y) → R s₂.heap τ.S x (.str y) := fun r => by cases r; exact .str _ _ (by assumption)
    by_cases hn : k < 0
    · simp only [hn, if_true] at hd
      split at hd
      · rename_i hc
        simp only [Option.bind_some] at hd
        obtain ⟨x, hx, rx⟩ := r.get hd
        simp only [Bool.and_eq_true, decide_eq_true_eq] at hc
        refine wpAny_getItem_list_neg (IsL.isList ho) hn (by simp only [List.size_toArray]; omega) (by omega) (x := x) ?_ ⟨h₁.1.trans k₂, fin rx⟩
        simp only [List.size_toArray, el]; simpa using hx
      · cases hd
    · simp only [hn, if_false] at hd
      split at hd
      · rename_i hc
        simp only [Option.bind_some] at hd
        obtain ⟨x, hx, rx⟩ := r.get hd
        simp only [Bool.and_eq_true, decide_eq_true_eq] at hc
        exact wpAny_getItem_list (IsL.isList ho) (by omega) (by omega) (x := x) (by simpa using hx) ⟨h₁.1.trans k₂, fin rx⟩
      · cases hd

/-! ## entering a def -/
def σ0 (names : List Str) (args : List Dat) : Str → Option Ent := fun x => ((names.zip args).reverse.lookup x).map .dat
theorem lookup_rel {h : Heap} {S : List Addr} : ∀ {ps : List (Str × Value)} {qs : List (Str × Dat)}, ps.length = qs.length → (∀ (i : Nat) (p : Str × Value) (q : Str × Dat), ps[i]? = some p → qs[i]? = some q → p.1 = q.1 ∧ R h S p.2 q.2) → ∀ {x : Str} {d : Dat}, qs.lookup x = some d → ∃ v, ps.lookup x = some v ∧ R h S v d
  | [], [], _, _, x, d, e => nomatch e
  | p :: ps, q :: qs, hl, hr, x, d, e => by
    obtain ⟨a, v⟩ := p
    obtain ⟨b, c⟩ := q
    obtain ⟨h1, h2⟩ := hr 0 _ _ rfl rfl
    cases (h1 : a = b)
    rw [List.lookup_cons] at e ⊢
    split at e
    · cases e; exact ⟨v, rfl, h2⟩
    · exact lookup_rel (by simpa using hl) (fun i p q h h' => hr (i + 1) p q (by simpa using h) (by simpa using h')) e
theorem σ0_at {h : Heap} {S : List Addr} {names : List Str} {vs : List Value} {ds : List Dat} (r : Rs h S vs ds) {x : Str} {e : Ent} (hx : σ0 names ds x = some e) : ∃ v, (names.zip vs).reverse.lookup x = some v ∧ EntAt S h v e := by
  unfold σ0 at hx
  cases q : (names.zip ds).reverse.lookup x with
  | none => rw [q] at hx; cases hx
  | some d =>
    rw [q] at hx
    cases hx
    have el := r.length
    refine lookup_rel (S := S) (h := h) (by simp [el]) (fun i p q h h' => ?_) q
    have hb : ∀ {α β : Type} {l : List α} {m : List β} {i : Nat} {p : α × β}, (l.zip m)[i]? = some p → l[i]? = some p.1 ∧ m[i]? = some p.2 := by
      intro α β l m i p hp
      rw [List.getElem?_zip_eq_some] at hp
      exact hp
    have hi1 : i < (names.zip vs).length := by
      have := (List.getElem?_eq_some_iff.mp h).1
      simpa using this
    rw [List.getElem?_reverse hi1] at h
    have e2 : (names.zip ds).length = (names.zip vs).length := by simp [el]
    rw [List.getElem?_reverse (by omega)] at h'
    rw [e2] at h'
    obtain ⟨a1, a2⟩ := hb h
    obtain ⟨b1, b2⟩ := hb h'
    rw [a1] at b1
    obtain ⟨v', hv', rv⟩ := r.get b2
    rw [a2] at hv'
    cases hv'
    exact ⟨Option.some.inj b1, rv⟩

def fnOk (fd : FuncData) (names : List Str) : Bool := names.all (fun x => fd.scope.names.lookup x == some .local) && fd.scope.names.all (fun p => p.2 != .cell)
theorem fn_of {k : Nat} {f : Addr} {o : Obj} {fd : FuncData} {body : List Stmt} {names : List Str} {args : List Dat} {r : Dat} (ho : C.K.lookup f = some o) (hd : o.data = .func fd) (hbody : fd.body = .stmts body) (hcd : codeIn C.K fd.code fd.qualname = true)
    (hg : fd.globals = mainGlobals) (hbn : fd.builtins = builtinsNs) (hclo : fd.closure = [])
    (hbind : ∀ vs, vs.length = args.length → bindArgs fd ⟨vs, []⟩ = pure (names.zip vs)) (hok : fnOk fd names = true)
    (h : ∀ L X, Ex C k (callEnv fd L f) ⟨σ0 names args, fun _ => none, [], true, X⟩ body (fun l _ => l = .ret r))
    (hco : fd.scope.isCoroutine = false) (hgen : fd.scope.isGenerator = false) (hk : fd.scope.kind = .function) (hk5 : k < 5 := by decide) : Fn C k f args r := by
  intro A hA S s E vs hS G lv rv
  unfold fnOk at hok
  rw [Bool.and_eq_true, List.all_eq_true, List.all_eq_true] at hok
  have hloc : ∀ x ∈ names, fd.scope.names.lookup x = some .local := fun x hx => by simpa using hok.1 x hx
  have hcell : ∀ x ∈ fd.scope.names, x.2 ≠ .cell := fun x hx => by simpa using hok.2 x hx
  refine wpAny_call (codeAny_call_def (body := body) (binds := names.zip vs) hA.room (G.X _ _ ho) hd G.lim (codeRec_of G.X hcd) hbody (BindsTo.of_eq (hbind vs rv.length)) hcell (fun x hx => hloc _ (List.of_mem_zip hx).1) (fun h₀ hn hkeep => ?_) hco hgen hk)
  have F : Fm C s (callEnv fd s.heap.objs.size f) ⟨σ0 names args, fun _ => none, [], true, S⟩ { s with heap := h₀, toks := s.toks + (names.zip vs).length } := by
    refine ⟨⟨_, _, rfl⟩, G, .of hkeep, lv.up (.of hkeep), get_new _, hk, hg, hbn, hS, ⟨_, hn, fun x e hx => ?_⟩, fun _ x y c hc _ => ?_, fun _ p hp => ?_, fun p hp => ?_, fun x d hx => (nomatch hx), fun p hp => (nomatch hp), List.Pairwise.nil⟩
    · exact σ0_at (rv.up (Up.of (C := C) hkeep)) hx
    · have : (callEnv fd s.heap.objs.size f).cells = [] := hclo
      rw [this] at hc; cases hc
    · have : (callEnv fd s.heap.objs.size f).cells = [] := hclo
      rw [this] at hp; cases hp
    · have : (callEnv fd s.heap.objs.size f).cells = [] := hclo
      rw [this] at hp; cases hp
  refine wpK (h _ S _ (hA.deeper _ hk5) s _ _ F) fun fl s' ⟨l, τ', hp, hf, hx, F'⟩ => ?_
  cases (hp : l = _)
  obtain ⟨v, rfl, rr⟩ := hf
  exact ⟨F'.now, rr⟩
end
end Mine
end -- W7

section -- W8
open PySem PySem.W PyProof.Rows PySem.Calls PySem.Spec
set_option maxRecDepth 100000
namespace Mine
section
variable {C : Cx} {n : Nat} {env : Env} {τ : St}

/-! ## comprehensions -/
def cst (σ : Str → Option Ent) (cσ : Str → Option Dat) (D : Addr) (outs : List Dat) (X : List Addr) : St := ⟨σ, cσ, [(D, outs)], false, X⟩
/-- the state at a turn's start, x bound to d -/
def cstx (σ : Str → Option Ent) (cσ : Str → Option Dat) (D : Addr) (outs : List Dat) (X : List Addr) (x : Str) (d : Dat) : St := ⟨fun y => if y = x then some (.dat d) else σ y, cσ, [(D, outs)], false, X⟩

/-- one clause's loop, each turn putting the items of cs i behind what is there -/
def Cl (C : Cx) (n : Nat) (cenv : Env) (σ₀ : Str → Option Ent) (cσ : Str → Option Dat) (mk : Value → Value → Code) (ds : List Dat) (cs : List (List Dat)) : Prop :=
  ∀ A, Rm C n A → ∀ s₀ s D outs σ X I fp wr PP Stt (R' : Result → Shared → Prop), (∀ y e, σ₀ y = some e → σ y = some e) → outs.length + cs.flatten.length ≤ sizeLine → Fm C s₀ cenv (cst σ cσ D outs X) s → It C A cenv (cst σ cσ D outs X) ds I fp wr PP Stt s → Stt 0 s.heap → (∀ b ∈ wr, s₀.heap.get? b = none) →
    (∀ s' σ', (∀ y e, σ₀ y = some e → σ' y = some e) → Fm C s₀ cenv (cst σ' cσ D (outs ++ cs.flatten) X) s' → R' (.ok .next) s') → codeAny (M C) A (mk (.ref I) (.ref D)) R' s

theorem flatten_take_le {cs : List (List Dat)} {i : Nat} : ((cs.take i).flatten).length ≤ cs.flatten.length := by
  conv => rhs; rw [← List.take_append_drop i cs, List.flatten_append, List.length_append]
  omega
theorem flatten_take_succ {cs : List (List Dat)} {i : Nat} {c : List Dat} (h : cs[i]? = some c) : (cs.take (i + 1)).flatten = (cs.take i).flatten ++ c := by
  rw [List.take_add_one, h, List.flatten_append]; simp

theorem cl_one {cenv : Env} {σ₀ : Str → Option Ent} {cσ : Str → Option Dat} {elt iter : Expr} {x : Str} {px : Pos} {ifs : List Expr} {scope : Scope} {pos : Pos} {ds : List Dat} {cs : List (List Dat)} (hlen : cs.length = ds.length)
    (hl : cenv.kindOf x = some .local) (hx0 : σ₀ x = none)
    (turn : ∀ (i : Nat) (d : Dat) (c : List Dat) (σ : Str → Option Ent) (D : Addr) (outs : List Dat) (X : List Addr), ds[i]? = some d → cs[i]? = some c → (∀ y e, σ₀ y = some e → σ y = some e) → ∃ b, (∀ A, Rm C n A → ∀ s₀ s E, Fm C s₀ cenv (cstx σ cσ D outs X x d) s →
        wpAny (M C) A (forIn ifs true fun c r => if r = true then do let ok ← PySem.isTrue c cenv (eval c cenv); pure (ForInStep.yield ok) else pure (ForInStep.yield r)) (fun ok s' => Kp C s s' ∧ ok = b) E s) ∧
      (b = true → ∃ r, c = [r] ∧ Ev C n cenv (cstx σ cσ D outs X x d) elt (.dat r)) ∧ (b = false → c = [])) :
    Cl C n cenv σ₀ cσ (fun it acc => .compLoop (.ListComp elt [⟨.Name x px, iter, ifs, 0⟩] scope pos) 0 it acc cenv) ds cs := by
  intro A hA s₀ s D outs σ X I fp wr PP Stt R' hσ hsz F hit hst hw0 hR
  refine codeAny_compLoop_tests (LI C A cenv s₀ X (fun i τ' => ∃ σ', (∀ y e, σ₀ y = some e → σ' y = some e) ∧ τ' = cst σ' cσ D (outs ++ (cs.take i).flatten) X) ds I fp wr PP Stt) ?_ (ds.length + 1) ⟨0, _, rfl, Nat.zero_le _, ⟨σ, hσ, by simp⟩, rfl, F, hit, hst⟩
  intro k s' hI
  refine core hw0 hI (fun τ' s₁ hJ hx' F' => ?_) fun i d τ' v s₁ hd hJ hx' F' rd cont => ?_
  · obtain ⟨σ', hσ', rfl⟩ := hJ
    refine hR s₁ σ' hσ' ?_
    rw [← hlen, List.take_length] at F'
    exact F'
  · obtain ⟨σ', hσ', rfl⟩ := hJ
    have hi : i < cs.length := by rw [hlen]; exact (List.getElem?_eq_some_iff.mp hd).1
    obtain ⟨c, hc⟩ : ∃ c, cs[i]? = some c := ⟨_, List.getElem?_eq_getElem hi⟩
    obtain ⟨b, ht, hyes, hno⟩ := turn i d c σ' D (outs ++ (cs.take i).flatten) X hd hc hσ'
    have hσ2 : ∀ y e, σ₀ y = some e → (if y = x then some (Ent.dat d) else σ' y) = some e := fun y e hy => by
      by_cases hyx : y = x
      · rw [hyx, hx0] at hy; cases hy
      · rw [if_neg hyx]; exact hσ' y e hy
    have G := F'.up'
    refine wpAny_assign_Name (G.store (e := .dat d) rd hl fun s₂ F₂ hs₂ sk₂ => ?_)
    have F₂ : Fm C _ cenv (cstx σ' cσ D (outs ++ (cs.take i).flatten) X x d) s₂ := F₂
    refine wpK (ht A hA _ s₂ _ F₂) fun ok s₃ ⟨k₃, hok⟩ => ?_
    subst hok
    have F₃ := F₂.keeps k₃
    cases ok with
    | false =>
      simp only [Bool.false_eq_true, if_false]
      have := hno rfl
      subst this
      refine cont _ s₃ ⟨_, hσ2, ?_⟩ ?_ F₃
      · rw [flatten_take_succ hc, List.append_nil]; rfl
      · rfl
    | true =>
      simp only [if_true]
      obtain ⟨r, rfl, he⟩ := hyes rfl
      refine wpK (he A hA _ s₃ _ F₃) fun y s₄ ⟨k₄, ry⟩ => ?_
      refine wp_append (l1 := []) (l2 := []) (F₃.keeps k₄) rfl ry ?_ fun s₅ F₅ => ?_
      · have h1 := flatten_take_le (cs := cs) (i := i)
        rw [List.length_append]; omega
      · refine cont _ s₅ ⟨_, hσ2, ?_⟩ ?_ F₅
        · rw [flatten_take_succ hc, ← List.append_assoc]; rfl
        · rfl

theorem pyIter_self {A : Around} {s : Shared} {I : Addr} {fp wr : List Addr} {m : Nat} {P : Nat → Value → Prop} {Stt : Nat → Heap → Prop} (W : Walks C.prog C.w A I fp wr m P Stt) (h : Stt 0 s.heap) {Q : Value → Shared → Prop} {E : Value → Shared → Prop} (hq : Q (.ref I) s) : wpAny (M C) A (pyIter (.ref I)) Q E s := W.self 0 s Q E h hq

/-! ### the cells that a comprehension's frame takes along -/
def closeL (cells : List (Str × Addr)) : List (Str × NameKind) → List (Str × Addr) → List (Str × Addr)
  | [], acc => acc
  | (x, k) :: r, acc => closeL cells r (if k = .free then (match cells.lookup x with | some c => (x, c) :: acc | none => acc) else acc)
theorem closeL_lookup (cells : List (Str × Addr)) (x : Str) : ∀ (names : List (Str × NameKind)) (acc : List (Str × Addr)), (∀ c, acc.lookup x = some c → cells.lookup x = some c) → ∀ c, (closeL cells names acc).lookup x = some c → cells.lookup x = some c
  | [], acc, h, c, e => h c e
  | (y, k) :: r, acc, h, c, e => by
    unfold closeL at e
    refine closeL_lookup cells x r _ (fun c' e' => ?_) c e
    split at e'
    · split at e'
      · rename_i c2 hc2
        rw [List.lookup_cons] at e'
        cases hb : x == y with
        | true => rw [hb] at e'; cases e'; rw [beq_iff_eq.mp hb]; exact hc2
        | false => rw [hb] at e'; exact h c' e'
      · exact h c' e'
    · exact h c' e'
theorem closeL_has (cells : List (Str × Addr)) (x : Str) : ∀ (names : List (Str × NameKind)) (acc : List (Str × Addr)), ((x, NameKind.free) ∈ names ∧ (cells.lookup x).isSome = true) ∨ (acc.lookup x).isSome = true → ((closeL cells names acc).lookup x).isSome = true
  | [], acc, h => by
    rcases h with ⟨hm, _⟩ | h
    · cases hm
    · exact h
  | (y, k) :: r, acc, h => by
    unfold closeL
    refine closeL_has cells x r _ ?_
    by_cases hxy : x = y ∧ k = .free ∧ (cells.lookup x).isSome = true
    · obtain ⟨rfl, rfl, hs⟩ := hxy
      obtain ⟨c, hc⟩ := Option.isSome_iff_exists.mp hs
      right; simp [hc]
    · rcases h with ⟨hm, hs⟩ | h
      · rcases List.mem_cons.mp hm with e | hm
        · cases e; exact absurd ⟨rfl, rfl, hs⟩ hxy
        · exact .inl ⟨hm, hs⟩
      · right
        split
        · split
          · rw [List.lookup_cons]; split
            · rfl
            · exact h
          · exact h
        · exact h
theorem closeL_mem (cells : List (Str × Addr)) : ∀ (names : List (Str × NameKind)) (acc : List (Str × Addr)), ∀ p ∈ closeL cells names acc, p ∈ acc ∨ p ∈ cells
  | [], acc, p, h => .inl h
  | (y, k) :: r, acc, p, h => by
    unfold closeL at h
    rcases closeL_mem cells r _ p h with h | h
    · split at h
      · split at h
        · rename_i c hc
          rcases List.mem_cons.mp h with rfl | h
          · exact .inr (PySem.mem_of_lookup hc)
          · exact .inl h
        · exact .inl h
      · exact .inl h
    · exact .inr h
theorem closeL_forIn (f : Str × NameKind → List (Str × Addr) → Sem (ForInStep (List (Str × Addr))))
    (hf : ∀ name kind cs, f (name, kind) cs = if (kind == .free) = true then (do let a ← cellOf env name; pure (.yield ((name, a) :: cs))) else pure (.yield cs)) :
    ∀ (names : List (Str × NameKind)), (∀ p ∈ names, p.2 = .free → (env.cells.lookup p.1).isSome = true) → ∀ (acc : List (Str × Addr)), (forIn names acc f : Sem (List (Str × Addr))) = pure (closeL env.cells names acc)
  | [], _, acc => by rw [List.forIn_nil]; rfl
  | (x, k) :: r, h, acc => by
    rw [List.forIn_cons, hf]
    have hr : ∀ p ∈ r, p.2 = .free → (env.cells.lookup p.1).isSome = true := fun p hp => h p (.tail _ hp)
    unfold closeL
    by_cases hk : k = .free
    · subst hk
      obtain ⟨c, hc⟩ := Option.isSome_iff_exists.mp (h (x, .free) (.head _) rfl)
      simp only [beq_self_eq_true, if_true, cellOf, hc]
      exact closeL_forIn f hf r hr _
    · have : (k == NameKind.free) = false := by simpa using hk
      simp only [this, Bool.false_eq_true, if_false, if_neg hk]
      exact closeL_forIn f hf r hr _
theorem closureFor_eq {scope : Scope} (h : ∀ p ∈ scope.names, p.2 = .free → (env.cells.lookup p.1).isSome = true) : closureFor scope env = pure (closeL env.cells scope.names []) := by
  simp only [closureFor]
  rw [closeL_forIn _ ?_ scope.names h []]
  · rfl
  · intro name kind cs; rfl

/-- a comprehension's cells: those of the names that its scope takes from without -/
def cσr (scope : Scope) (cσ : Str → Option Dat) : Str → Option Dat := fun x => if (x, NameKind.free) ∈ scope.names then cσ x else none

theorem comp_core {e elt : Expr} {scope : Scope} {ds : List Dat} {cs : List (List Dat)} {A : Around} {s₀ s₂ : Shared} {E : Value → Shared → Prop} {I : Addr} {fp wr : List Addr} {PP : Nat → Value → Prop} {Stt : Nat → Heap → Prop} {R' : Value → Addr → Result → Shared → Prop}
    (hA : Rm C n A) (F : Fm C s₀ env τ s₂) (hit : It C A env τ ds I fp wr PP Stt s₂) (hst : Stt 0 s₂.heap) (hw0 : ∀ b ∈ wr, s₀.heap.get? b = none)
    (hcells : ∀ p ∈ scope.names, p.2 = .free → (env.cells.lookup p.1).isSome = true) (hnc : ∀ y ∈ scope.names, y.2 ≠ .cell) (hkind : scope.kind = .function) (hsz : cs.flatten.length ≤ sizeLine)
    (hstart : ∀ A, Rm C n A → ∀ s I D (cenv : Env) (R₁ : Result → Shared → Prop) (fp wr : List Addr) (PP : Nat → Value → Prop) (Stt : Nat → Heap → Prop), Walks C.prog C.w A I fp wr ds.length PP Stt → Stt 0 s.heap → codeAny (M C) A (.compLoop e 0 (.ref I) (.ref D) cenv) R₁ s → codeAny (M C) A (.compStart e 0 (.ref I) (.ref D) cenv) R₁ s)
    (hloop : ∀ L cl, Cl C n (compEnvC scope cl L env) (fun _ => none) (cσr scope τ.cσ) (fun it acc => .compLoop e 0 it acc (compEnvC scope cl L env)) ds cs)
    (hR : ∀ D L s', s₂.heap.get? D = none → D ≠ L → s₂.heap.get? L = none → (∃ m, s'.heap.Ns L m) → (∃ h t, s' = { s₂ with heap := h, toks := t }) → Up C (hid s₂ wr).heap s'.heap → R s'.heap τ.S (.ref D) (.list cs.flatten) → R' (.ref D) L (.ok .next) s') :
    wpAny (M C) A (newList []) (fun acc s₃ => wpAny (M C) A (newFunctionEnv scope env.globals (closeL env.cells scope.names []) [] env.qual none .none (some env)) (fun cenv s₄ =>
      codeAny (M C) A (.compStart e 0 (.ref I) acc { cenv with scope := relabel scope env }) (R' acc cenv.locals) s₄) E s₃) E s₂ := by
  refine wpAny_newObj_type (wpAny_newFunctionEnv hnc (by intro y hy; simp at hy) (fun h₁ hns₁ hsb₁ => ?_) hkind)
  dsimp only at hns₁ hsb₁ ⊢
  generalize hH2 : s₂.heap.push { cls := .type "list", dict := none, data := .seq ([] : List Value).toArray } = H2 at hns₁ hsb₁ ⊢
  have hDs : H2.objs.size = s₂.heap.objs.size + 1 := by rw [← hH2, Heap.size_push]
  have hDL : s₂.heap.objs.size ≠ H2.objs.size := by omega
  have hlt2 : ∀ b, b < s₂.heap.objs.size → b ≠ H2.objs.size := fun b hb => Nat.ne_of_lt (by rw [hDs]; exact Nat.lt_succ_of_lt hb)
  have old : ∀ b o, s₂.heap.get? b = some o → h₁.get? b = some o := fun b o e => hsb₁.extBut b o (hlt2 b (Heap.lt_size e)) (Heap.get?_push_of_some _ (hH2 ▸ Heap.get?_push_of_some _ e))
  have hacc : h₁.get? s₂.heap.objs.size = some (lO [] 0) := hsb₁.extBut _ _ hDL (Heap.get?_push_of_some _ (hH2 ▸ Heap.get?_push_size _ rfl))
  have fresh : ∀ a, s₂.heap.objs.size ≤ a → s₂.heap.get? a = none := fun a ha => by
    cases e : s₂.heap.get? a with
    | none => rfl
    | some o' => exact absurd (Heap.lt_size e) (Nat.not_lt.mpr ha)
  let sb : Shared := hid s₂ wr
  have upb : Up C s₀.heap sb.heap := F.keep.then (P := fun b => b ∈ wr) (fun b o hb ho => hideAll_get _ ho hb) hw0
  have upb2 : Up C sb.heap h₁ := .of fun b o e => old b o (of_hideAll _ e)
  have fb : ∀ a, s₂.heap.get? a = none → sb.heap.get? a = none := fun a ha => none_of_up (Up.of (C := C) fun b o e => of_hideAll _ e) ha
  -- the comprehension's frame
  have Fc : Fm C sb (compEnvC scope (closeL env.cells scope.names []) H2.objs.size env) (cst (fun _ => none) (cσr scope τ.cσ) s₂.heap.objs.size [] τ.S) { s₂ with heap := h₁, toks := s₂.toks + ([] : List (Str × Value)).length } := by
    have hS2 : ∀ a, a ∈ (cst (fun _ => none) (cσr scope τ.cσ) s₂.heap.objs.size [] τ.S).S → (a ∈ τ.S ∨ s₂.heap.get? a = none) := by
      intro a ha
      rcases List.mem_append.mp ha with ha | ha
      · right; rw [show a = s₂.heap.objs.size by simpa [cst] using ha]; exact get_new _
      · exact .inl ha
    refine ⟨⟨_, _, rfl⟩, F.gd.up upb, upb2, F.lv.up (.of old), fb _ (fresh _ (by show _ ≤ H2.objs.size; omega)), hkind, F.hg, F.hb, fun a ha => ?_, ⟨_, hns₁, fun x e hx => (nomatch hx)⟩, fun q => (nomatch q), fun q => (nomatch q), fun p hp => ?_, fun x d hx => ?_, fun p hp => ?_, by simp [cst]⟩
    · obtain ⟨o, ho⟩ := F.stands a ha
      refine ⟨o, hideAll_get _ ho fun q => ?_⟩
      have h1 := (hit.fpo a (hit.W.sub a q)).2
      rcases List.mem_append.mp ha with ha | ha
      · exact h1 (.tail _ (List.mem_append_right _ ha))
      · obtain ⟨o', ho'⟩ := F.hex a ha
        rw [hw0 a q] at ho'; cases ho'
    · have hp' : p ∈ env.cells := by
        rcases closeL_mem _ _ _ p hp with h | h
        · cases h
        · exact h
      obtain ⟨w, hw⟩ := F.cell p hp'
      exact ⟨w, hw.keeps old⟩
    · simp only [cst, cσr] at hx
      split at hx
      · rename_i hm
        obtain ⟨c, v, h1, h2, h3⟩ := F.cval x d hx
        obtain ⟨c', hc'⟩ := Option.isSome_iff_exists.mp (closeL_has env.cells x scope.names [] (.inl ⟨hm, by rw [h1]; rfl⟩))
        have hc2 := closeL_lookup env.cells x scope.names [] (fun c e => nomatch e) c' hc'
        rw [h1] at hc2; cases hc2
        exact ⟨c, v, hc', h2.keeps old, h3.mono (Up.seq (Up.of (C := C) old) _) hS2⟩
      · cases hx
    · simp only [cst, List.mem_singleton] at hp
      subst hp
      exact ⟨fb _ (get_new _), [], ⟨0, hacc⟩, .nil⟩
  have hst₁ : Stt 0 h₁ := hit.W.frame _ _ _ hst fun b _ o e => old b o e
  have hwc : ∀ b ∈ wr, sb.heap.get? b = none := fun b hb => hideAll_none _ hb
  have itc : It C A (compEnvC scope (closeL env.cells scope.names []) H2.objs.size env) (cst (fun _ => none) (cσr scope τ.cσ) s₂.heap.objs.size [] τ.S) ds I fp wr PP Stt { s₂ with heap := h₁, toks := s₂.toks + ([] : List (Str × Value)).length } := by
    refine ⟨hit.W, hit.live, fun b hb => ?_, fun i v hv hi => ?_⟩
    · obtain ⟨⟨o, ho, hod⟩, hnt⟩ := hit.fpo b hb
      have hlt := Heap.lt_size ho
      refine ⟨⟨o, old b o ho, hod⟩, fun q => ?_⟩
      rcases List.mem_cons.mp q with q | q
      · exact hlt2 b hlt q
      · rcases List.mem_append.mp q with q | q
        · exact absurd (mem_ite_nil q).1 (by simp [cst])
        · have : b = s₂.heap.objs.size := by simpa [cst] using q
          exact Nat.ne_of_lt hlt this
    · obtain ⟨d, hd, rd⟩ := hit.dat i v hv hi
      refine ⟨d, hd, rd.mono (Up.seq (Up.of (C := C) old) _) fun a ha => ?_⟩
      rcases List.mem_append.mp ha with ha | ha
      · right; rw [show a = s₂.heap.objs.size by simpa [cst] using ha]; exact get_new _
      · exact .inl ha
  refine hstart A hA _ I _ (compEnvC scope (closeL env.cells scope.names []) H2.objs.size env) _ fp wr PP Stt hit.W hst₁ ?_
  refine hloop _ _ A hA sb _ _ [] _ τ.S I fp wr PP Stt _ (fun y e h => h) (by simpa using hsz) Fc itc hst₁ hwc fun s' σ' _ F' => ?_
  obtain ⟨m, hn, _⟩ := F'.ns
  obtain ⟨hD0, vs, ⟨j, hD⟩, rv⟩ := F'.own (s₂.heap.objs.size, [] ++ cs.flatten) (by simp [cst])
  refine hR _ _ s' (get_new _) hDL (fresh _ (by show _ ≤ H2.objs.size; omega)) ⟨m, hn⟩ ?_ F'.keep ?_
  · obtain ⟨h, t, e⟩ := F'.same
    exact ⟨h, t, e⟩
  · refine .list (fun q => ?_) hD (rv.mono (fun _ _ _ _ _ e _ => e) fun a ha => .inl (List.mem_append_right _ ha))
    obtain ⟨o, ho⟩ := F.stands _ q
    rw [get_new] at ho; cases ho
end
end Mine
end -- W8

section -- W9
open PySem PySem.W PyProof.Rows PySem.Calls PySem.Spec
set_option maxRecDepth 100000
namespace Mine
section
variable {C : Cx} {n : Nat} {env : Env} {τ : St}

def scopeOk (sc : Scope) : Bool := sc.kind == .function && sc.names.all fun p => p.2 != .cell && (p.2 != .local || sc.names.lookup p.1 == some .local)
def freeOk (sc : Scope) (cσ : Str → Option Dat) : Bool := sc.names.all fun p => p.2 != .free || (cσ p.1).isSome
theorem scopeOk.kind {sc : Scope} (h : scopeOk sc = true) : sc.kind = .function := by
  unfold scopeOk at h; rw [Bool.and_eq_true] at h; exact eq_of_beq h.1
theorem scopeOk.cell {sc : Scope} (h : scopeOk sc = true) : ∀ y ∈ sc.names, y.2 ≠ .cell := by
  unfold scopeOk at h; rw [Bool.and_eq_true, List.all_eq_true] at h
  intro y hy
  have := h.2 y hy
  rw [Bool.and_eq_true] at this
  simpa using this.1
theorem scopeOk.names {sc : Scope} (h : scopeOk sc = true) : ∀ x ∈ sc.names, x.2 = .local → sc.names.lookup x.1 = some .local := by
  unfold scopeOk at h; rw [Bool.and_eq_true, List.all_eq_true] at h
  intro y hy hl
  have := h.2 y hy
  rw [Bool.and_eq_true, hl] at this
  simpa using this.2
theorem freeOk.has {sc : Scope} {s₀ s : Shared} (h : freeOk sc τ.cσ = true) (F : Fm C s₀ env τ s) : ∀ p ∈ sc.names, p.2 = .free → (env.cells.lookup p.1).isSome = true := by
  unfold freeOk at h; rw [List.all_eq_true] at h
  intro p hp hf
  have := h p hp
  rw [hf] at this
  obtain ⟨d, hd⟩ := Option.isSome_iff_exists.mp (by simpa using this : (τ.cσ p.1).isSome = true)
  obtain ⟨c, v, h1, _⟩ := F.cval p.1 d hd
  rw [h1]; rfl

/-- a comprehension's loop, by its code -/
structure Comp (C : Cx) (n : Nat) (env : Env) (cσ : Str → Option Dat) (e : Expr) (scope : Scope) (ds : List Dat) (cs : List (List Dat)) : Prop where
  start : ∀ A, Rm C n A → ∀ s I D (cenv : Env) (R₁ : Result → Shared → Prop) (fp wr : List Addr) (PP : Nat → Value → Prop) (Stt : Nat → Heap → Prop), Walks C.prog C.w A I fp wr ds.length PP Stt → Stt 0 s.heap → codeAny (M C) A (.compLoop e 0 (.ref I) (.ref D) cenv) R₁ s → codeAny (M C) A (.compStart e 0 (.ref I) (.ref D) cenv) R₁ s
  loop : ∀ L cl, Cl C n (compEnvC scope cl L env) (fun _ => none) (cσr scope cσ) (fun it acc => .compLoop e 0 it acc (compEnvC scope cl L env)) ds cs

theorem ev_of_comp {elt : Expr} {t iter : Expr} {ifs : List Expr} {gs : List Comprehension} {scope : Scope} {pos : Pos} {ds : List Dat} {cs : List (List Dat)} {rs : List Dat} (hi : Itr C n env τ iter ds) (hc : Comp C n env τ.cσ (.ListComp elt (⟨t, iter, ifs, 0⟩ :: gs) scope pos) scope ds cs)
    (hrs : cs.flatten = rs) (hsz : rs.length ≤ sizeLine) (hsc : scopeOk scope = true := by rfl) (hfr : freeOk scope τ.cσ = true := by rfl) (hs : ∀ x, foldedSetIterable iter env x = pure x := by intro _; rfl) :
    Ev C n env τ (.ListComp elt (⟨t, iter, ifs, 0⟩ :: gs) scope pos) (.dat (.list rs)) := by
  subst hrs
  intro A hA s₀ s E F
  rw [eval_ListComp]
  refine wpAny_comprehension_free (use := none) rfl hs (closureFor_eq (freeOk.has hfr F)) (scopeOk.kind hsc) (scopeOk.names hsc) (wpK (hi A hA s₀ s E F) fun xv s₁ h₁ => wpK h₁ fun it s₂ h₂ => ?_)
  obtain ⟨k₂, I, fp, wr, PP, Stt, rfl, hit, hst, hwr⟩ := h₂
  have F₂ := F.keeps k₂
  refine comp_core (elt := elt) (R' := fun acc L => compPost (M C) A E none _ acc L) hA F₂ hit hst (fun b hb => none_of_up F.keep (hwr b hb)) (freeOk.has hfr F) (scopeOk.cell hsc) (scopeOk.kind hsc) hsz hc.start hc.loop ?_
  rintro D L s' hD hDL hL ⟨m, hn⟩ ⟨h', t', rfl⟩ hk r
  refine ⟨m, hn, fun h'' hs'' => ⟨⟨h'', t', ?_, ?_⟩, ?_⟩⟩
  · obtain ⟨h2, t2, rfl, _⟩ := k₂; rfl
  · exact ((k₂.up.then (P := fun b => b ∈ wr) (fun b o hb ho => hideAll_get _ ho hb) hwr).trans hk).then (P := fun b => b = L) (fun b o hb ho => (hs''.2 b hb).trans ho) fun b q => by rw [q]; exact none_of_up k₂.up hL
  · obtain ⟨oL, es, ep, hoL, hdL, _⟩ := hn
    refine R.mono (fun b o xs k _ ho hd => (hs''.2 b fun q => ?_).trans ho) (fun _ q => .inl q) r
    rw [q] at ho
    rw [hoL] at ho; cases ho
    rw [hdL] at hd; cases hd

theorem ex_assign_comp {elt : Expr} {t iter : Expr} {ifs : List Expr} {gs : List Comprehension} {scope : Scope} {y : Str} {py pos spos : Pos} {ds : List Dat} {cs : List (List Dat)} {rs : List Dat} {P : Fl → St → Prop} (hi : Itr C n env τ iter ds)
    (hc : Comp C n env τ.cσ (.ListComp elt (⟨t, iter, ifs, 0⟩ :: gs) scope pos) scope ds cs) (hrs : cs.flatten = rs) (hsz : rs.length ≤ sizeLine) (h : P .next (τ.set y (.dat (.list rs))))
    (hsw : swapsWith (.ListComp elt (⟨t, iter, ifs, 0⟩ :: gs) scope pos) (some (.Name y py)) spos.line env = pure true := by rfl) (hy : env.kindOf y = some .local := by rfl)
    (hsc : scopeOk scope = true := by rfl) (hfr : freeOk scope τ.cσ = true := by rfl) (hs : ∀ x, foldedSetIterable iter env x = pure x := by intro _; rfl) :
    Ex1 C n env τ (.Assign [.Name y py] (.ListComp elt (⟨t, iter, ifs, 0⟩ :: gs) scope pos) spos) P := by
  subst hrs
  intro A hA s₀ s E F
  rw [exec_Assign_Name_used _ _ _ _ hsw]
  refine wpAny_bind (wpAny_standAt (wpAny_bind ?_))
  show wpAny _ A (do let _ ← comprehension (.ListComp elt (⟨t, iter, ifs, 0⟩ :: gs) scope pos) scope env _ (newList []) false (eval iter env) (some (assign (.Name y py) env))) _ _ s
  refine wpAny_bind (wpAny_mono (wpAny_comprehension_free (use := some (assign (.Name y py) env)) (Q := fun _ s' => End C s₀ env τ P .next s') rfl hs (closureFor_eq (freeOk.has hfr F)) (scopeOk.kind hsc) (scopeOk.names hsc)
    (wpK (hi A hA s₀ s E F) fun xv s₁ h₁ => wpK h₁ fun it s₂ h₂ => ?_)) (fun _ s' hq => wpAny_pure (wpAny_pure hq)) fun _ _ e => e)
  obtain ⟨k₂, I, fp, wr, PP, Stt, rfl, hit, hst, hwr⟩ := h₂
  have F₂ := F.keeps k₂
  have hw0 : ∀ b ∈ wr, s₀.heap.get? b = none := fun b hb => none_of_up F.keep (hwr b hb)
  refine comp_core (elt := elt) (R' := fun acc L => compPost (M C) A E (some (assign (.Name y py) env)) _ acc L) hA F₂ hit hst hw0 (freeOk.has hfr F) (scopeOk.cell hsc) (scopeOk.kind hsc) hsz hc.start hc.loop ?_
  rintro D L s' hD hDL hL ⟨m, hn⟩ ⟨h', t', rfl⟩ hk r
  have hww : ∀ b ∈ wr, (∀ o xs k, s₂.heap.get? b = some o → o.data ≠ .seq xs k) ∧ b ∉ turns env τ ∧ s₀.heap.get? b = none ∧ (∀ w, ¬ s₂.heap.IsCell b w) ∧ ((∀ o, s₂.heap.get? b = some o → isDict o.data = false) ∨ ∀ e ∈ C.fs, e.frame ≠ some b) := fun b hb => by
    obtain ⟨o', e', hd⟩ := hit.live 0 _ hst b hb
    refine ⟨fun o xs k e => ?_, (hit.fpo b (hit.W.sub b hb)).2, hw0 b hb, fun w ⟨o, e, hw⟩ => ?_, .inl fun o e => ?_⟩
    · rw [e] at e'; cases e'
      exact hd.1 xs k
    · rw [e] at e'; cases e'
      exact hd.2.1 w hw
    · rw [e] at e'; cases e'
      exact hd.2.2
  have F₃ : Fm C s₀ env τ { s₂ with heap := h', toks := t' } := (F₂.but (h' := hideAll s₂.heap wr) (tk := s₂.toks) (fun b o hb e => hideAll_get _ e hb) hww).keeps ⟨h', t', rfl, hk⟩
  have hLt : L ∉ turns env τ := fun q => by
    obtain ⟨o, ho⟩ := F₂.turnsAt L q
    rw [hL] at ho; cases ho
  show wpAny _ A (assign (.Name y py) env (.ref D)) _ _ _
  refine wpAny_assign_Name (F₃.store (e := .dat (.list cs.flatten)) r hy fun s₄ F₄ hs₄ sk₄ => ?_)
  obtain ⟨oL, es, ep, hoL, hdL, hrL⟩ := hn
  have hLl : L ≠ env.locals := fun q => hLt (q ▸ .head _)
  have hoL4 : s₄.heap.get? L = some oL := (hs₄.2 L hLl).trans hoL
  refine ⟨m, ⟨oL, es, ep, hoL4, hdL, hrL⟩, fun h'' hs'' => ⟨.next, _, h, rfl, rfl, ?_⟩⟩
  refine F₄.but (wr := [L]) (tk := s₄.toks) (fun b o hb e => (hs''.2 b fun q => hb (by rw [q]; exact .head _)).trans e) fun b hb => ?_
  rw [List.mem_singleton.mp hb]
  refine ⟨fun o xs k e hd => ?_, hLt, none_of_up F₂.keep hL, fun w ⟨o, e, hd⟩ => ?_, .inr (F₂.lv.fresh hL)⟩
  · rw [hoL4] at e; cases e
    rw [hdL] at hd; cases hd
  · rw [hoL4] at e; cases e
    rw [hdL] at hd; cases hd

/-! ### one clause -/
theorem comp_start {elt target iter : Expr} {ifs : List Expr} {rest : List Comprehension} {scope : Scope} {pos : Pos} {m : Nat} : ∀ A, Rm C n A → ∀ s I D (cenv : Env) (R₁ : Result → Shared → Prop) (fp wr : List Addr) (PP : Nat → Value → Prop) (Stt : Nat → Heap → Prop), Walks C.prog C.w A I fp wr m PP Stt → Stt 0 s.heap →
    codeAny (M C) A (.compLoop (.ListComp elt (⟨target, iter, ifs, 0⟩ :: rest) scope pos) 0 (.ref I) (.ref D) cenv) R₁ s → codeAny (M C) A (.compStart (.ListComp elt (⟨target, iter, ifs, 0⟩ :: rest) scope pos) 0 (.ref I) (.ref D) cenv) R₁ s :=
  fun _ _ _ _ _ _ _ _ _ _ _ W h q => codeAny_compStart_list q (pyIter_self W h q)
theorem comp_one {elt iter : Expr} {x : Str} {px : Pos} {scope : Scope} {pos : Pos} {cσ : Str → Option Dat} {ds rs : List Dat} (hlen : rs.length = ds.length)
    (helt : ∀ (L : Addr) (cl : List (Str × Addr)) (i : Nat) (d r : Dat) (σ : Str → Option Ent) (D : Addr) (outs : List Dat) (X : List Addr), ds[i]? = some d → rs[i]? = some r → Ev C n (compEnvC scope cl L env) (cstx σ (cσr scope cσ) D outs X x d) elt (.dat r))
    (hx : ∀ cl L, (compEnvC scope cl L env).kindOf x = some .local := by intro _ _; rfl) : Comp C n env cσ (.ListComp elt [⟨.Name x px, iter, [], 0⟩] scope pos) scope ds (rs.map fun r => [r]) := by
  refine ⟨comp_start, fun L cl => cl_one (by simpa using hlen) (hx cl L) rfl fun i d c σ D outs X hd hc _ => ⟨true, fun A hA s₀ s E F => wpAny_tests_nil ⟨Kp.refl _, rfl⟩, fun _ => ?_, fun q => nomatch q⟩⟩
  rw [List.getElem?_map] at hc
  cases hr : rs[i]? with
  | none => rw [hr] at hc; cases hc
  | some r =>
    rw [hr] at hc
    cases hc
    exact ⟨r, rfl, helt L cl i d r σ D outs X hd hr⟩
theorem flatten_ones (rs : List Dat) : (rs.map fun r => [r]).flatten = rs := by
  induction rs with
  | nil => rfl
  | cons a r ih => rw [List.map_cons, List.flatten_cons, ih]; rfl
theorem ev_comp {elt iter : Expr} {x : Str} {px : Pos} {scope : Scope} {pos : Pos} {ds rs : List Dat} (hi : Itr C n env τ iter ds) (hlen : rs.length = ds.length) (hsz : rs.length ≤ sizeLine)
    (helt : ∀ (L : Addr) (cl : List (Str × Addr)) (i : Nat) (d r : Dat) (σ : Str → Option Ent) (D : Addr) (outs : List Dat) (X : List Addr), ds[i]? = some d → rs[i]? = some r → Ev C n (compEnvC scope cl L env) (cstx σ (cσr scope τ.cσ) D outs X x d) elt (.dat r))
    (hx : ∀ cl L, (compEnvC scope cl L env).kindOf x = some .local := by intro _ _; rfl) (hsc : scopeOk scope = true := by rfl) (hfr : freeOk scope τ.cσ = true := by rfl) (hs : ∀ x, foldedSetIterable iter env x = pure x := by intro _; rfl) :
    Ev C n env τ (.ListComp elt [⟨.Name x px, iter, [], 0⟩] scope pos) (.dat (.list rs)) :=
  ev_of_comp hi (comp_one hlen helt hx) (flatten_ones rs) hsz hsc hfr hs
end
end Mine
end -- W9

section -- W10
open PySem PySem.W PyProof.Rows PySem.Calls PySem.Spec
set_option maxRecDepth 100000
namespace Mine
section
variable {C : Cx} {n : Nat} {env : Env} {τ : St}

/-! ### two clauses -/
theorem compTurn_two (elt t1 i1 t2 i2 : Expr) (scope : Scope) (pos : Pos) (it acc : Value) (env : Env) :
    compTurn (.ListComp elt [⟨t1, i1, [], 0⟩, ⟨t2, i2, [], 0⟩] scope pos) 0 it acc env = (standAt i1.pos >>= fun _ => pyNext it >>= fun r => match r with
      | none => pure (.done .next)
      | some v => letOwnedTupleGo t1 it v >>= fun _ => assign t1 env v >>= fun _ =>
        (eval i2 env >>= fun x => standAt i2.pos >>= fun _ => foldedSetIterable i2 env x >>= fun x => holding [x] (pyIter x) >>= fun it2 => runOwn (.compStart (.ListComp elt [⟨t1, i1, [], 0⟩, ⟨t2, i2, [], 0⟩] scope pos) 1 it2 acc env) env >>= fun _ =>
          again (.compLoop (.ListComp elt [⟨t1, i1, [], 0⟩, ⟨t2, i2, [], 0⟩] scope pos) 0 it acc env))) := by rfl
theorem compTurn_two1 (elt t1 i1 t2 i2 : Expr) (scope : Scope) (pos : Pos) (it acc : Value) (env : Env) :
    compTurn (.ListComp elt [⟨t1, i1, [], 0⟩, ⟨t2, i2, [], 0⟩] scope pos) 1 it acc env = (standAt i2.pos >>= fun _ => pyNext it >>= fun r => match r with
      | none => pure (.done .next)
      | some v => letOwnedTupleGo t2 it v >>= fun _ => assign t2 env v >>= fun _ =>
        (eval elt env >>= fun x => call (.builtin "list.append") [acc, x] >>= fun _ => pure ()) >>= fun _ =>
          again (.compLoop (.ListComp elt [⟨t1, i1, [], 0⟩, ⟨t2, i2, [], 0⟩] scope pos) 1 it acc env)) := by rfl

theorem comp_start1 {elt t1 i1 t2 i2 : Expr} {scope : Scope} {pos : Pos} {A : Around} {s : Shared} {I D : Addr} {cenv : Env} {R₁ : Result → Shared → Prop} {fp wr : List Addr} {m : Nat} {PP : Nat → Value → Prop} {Stt : Nat → Heap → Prop} (W : Walks C.prog C.w A I fp wr m PP Stt) (hst : Stt 0 s.heap)
    (h0 : codeAny (M C) A (.compLoop (.ListComp elt [⟨t1, i1, [], 0⟩, ⟨t2, i2, [], 0⟩] scope pos) 1 (.ref I) (.ref D) cenv) R₁ s) : codeAny (M C) A (.compStart (.ListComp elt [⟨t1, i1, [], 0⟩, ⟨t2, i2, [], 0⟩] scope pos) 1 (.ref I) (.ref D) cenv) R₁ s := by
  refine codeAny_of_tree ?_
  show wpAny _ _ ((compStart (.ListComp elt [⟨t1, i1, [], 0⟩, ⟨t2, i2, [], 0⟩] scope pos) 1 (.ref I) (.ref D) cenv).onRaise (fun x => do noteFrame x cenv; standAt theWindowsPlace)) _ _ s
  refine wpAny_notedAt ?_
  unfold compStart
  show wpAny _ _ (ask >>= _) _ _ s
  refine wpAny_bind (wpAny_askSetting (wpAny_ite ?_))
  split
  · first
      | exact wpAny_bind (wpAny_pure (wpAny_pure (And.intro rfl h0)))
      | exact wpAny_pure (And.intro rfl h0)
  · refine wpAny_bind (wpAny_rule ?_)
    show wpAny _ A (standAt i2.pos >>= _) _ _ s
    exact wpAny_bind (wpAny_standAt (wpAny_bind (W.self 0 s _ _ hst (wpAny_pure (And.intro rfl h0)))))

theorem cl_two1 {cenv : Env} {σ₀ : Str → Option Ent} {cσ : Str → Option Dat} {elt t1 i1 i2 : Expr} {x : Str} {px : Pos} {scope : Scope} {pos : Pos} {ds rs : List Dat} (hlen : rs.length = ds.length)
    (hl : cenv.kindOf x = some .local) (hx0 : σ₀ x = none)
    (turn : ∀ (i : Nat) (d r : Dat) (σ : Str → Option Ent) (D : Addr) (outs : List Dat) (X : List Addr), ds[i]? = some d → rs[i]? = some r → Ev C n cenv (cstx σ cσ D outs X x d) elt (.dat r)) :
    Cl C n cenv σ₀ cσ (fun it acc => .compLoop (.ListComp elt [⟨t1, i1, [], 0⟩, ⟨.Name x px, i2, [], 0⟩] scope pos) 1 it acc cenv) ds (rs.map fun r => [r]) := by
  intro A hA s₀ s D outs σ X I fp wr PP Stt R' hσ hsz F hit hst hw0 hR
  rw [flatten_ones] at hsz hR
  refine codeAny_loop rfl (LI C A cenv s₀ X (fun i τ' => ∃ σ', (∀ y e, σ₀ y = some e → σ' y = some e) ∧ τ' = cst σ' cσ D (outs ++ rs.take i) X) ds I fp wr PP Stt) ?_ (ds.length + 1) ⟨0, _, rfl, Nat.zero_le _, ⟨σ, hσ, by simp⟩, rfl, F, hit, hst⟩
  intro k s' hI
  show wpAny _ A ((compTurn (.ListComp elt [⟨t1, i1, [], 0⟩, ⟨.Name x px, i2, [], 0⟩] scope pos) 1 (.ref I) (.ref D) cenv).onRaise (fun x => do noteFrame x cenv; theTreesLotGoes x)) _ _ s'
  refine wpAny_noted ?_
  rw [compTurn_two1]
  refine wpAny_bind (wpAny_standAt (wpAny_bind (core hw0 hI (fun τ' s₁ hJ hx' F' => ?_) fun i d τ' v s₁ hd hJ hx' F' rd cont => ?_)))
  · obtain ⟨σ', hσ', rfl⟩ := hJ
    refine wpAny_pure (hR s₁ σ' hσ' ?_)
    rw [← hlen, List.take_length] at F'
    exact F'
  · obtain ⟨σ', hσ', rfl⟩ := hJ
    have hi : i < rs.length := by rw [hlen]; exact (List.getElem?_eq_some_iff.mp hd).1
    obtain ⟨r, hr⟩ : ∃ r, rs[i]? = some r := ⟨_, List.getElem?_eq_getElem hi⟩
    have hσ2 : ∀ y e, σ₀ y = some e → (if y = x then some (Ent.dat d) else σ' y) = some e := fun y e hy => by
      by_cases hyx : y = x
      · rw [hyx, hx0] at hy; cases hy
      · rw [if_neg hyx]; exact hσ' y e hy
    have G := F'.up'
    refine wpAny_bind (wpAny_pure (wpAny_bind (wpAny_assign_Name (G.store (e := .dat d) rd hl fun s₂ F₂ hs₂ sk₂ => ?_))))
    have F₂ : Fm C _ cenv (cstx σ' cσ D (outs ++ rs.take i) X x d) s₂ := F₂
    refine wpAny_bind (wpAny_bind (wpK (turn i d r σ' D (outs ++ rs.take i) X hd hr A hA _ s₂ _ F₂) fun y s₄ ⟨k₄, ry⟩ => wpAny_bind ?_))
    refine wp_append (l1 := []) (l2 := []) (F₂.keeps k₄) rfl ry ?_ fun s₅ F₅ => wpAny_pure (wpAny_pure ⟨rfl, ?_⟩)
    · rw [List.length_append, List.length_take]; omega
    · refine cont _ s₅ ⟨_, hσ2, ?_⟩ ?_ F₅
      · rw [List.take_add_one, hr, ← List.append_assoc]; rfl
      · rfl

theorem comp_two {elt i1 i2 : Expr} {x y : Str} {px py : Pos} {scope : Scope} {pos : Pos} {cσ : Str → Option Dat} {ds : List Dat} {es cs : List (List Dat)} (hlen : cs.length = ds.length) (hlen2 : es.length = ds.length)
    (hinner : ∀ (L : Addr) (cl : List (Str × Addr)) (i : Nat) (d : Dat) (e : List Dat) (σ : Str → Option Ent) (D : Addr) (outs : List Dat) (X : List Addr), ds[i]? = some d → es[i]? = some e → Itr C n (compEnvC scope cl L env) (cstx σ (cσr scope cσ) D outs X x d) i2 e)
    (helt : ∀ (L : Addr) (cl : List (Str × Addr)) (i : Nat) (e c : List Dat), es[i]? = some e → cs[i]? = some c → c.length = e.length ∧ ∀ (j : Nat) (d r : Dat) (σ : Str → Option Ent) (D : Addr) (outs : List Dat) (X : List Addr), e[j]? = some d → c[j]? = some r → Ev C n (compEnvC scope cl L env) (cstx σ (cσr scope cσ) D outs X y d) elt (.dat r))
    (hx : ∀ cl L, (compEnvC scope cl L env).kindOf x = some .local := by intro _ _; rfl) (hy : ∀ cl L, (compEnvC scope cl L env).kindOf y = some .local := by intro _ _; rfl) (hs2 : ∀ cenv v, foldedSetIterable i2 cenv v = pure v := by intro _ _; rfl) :
    Comp C n env cσ (.ListComp elt [⟨.Name x px, i1, [], 0⟩, ⟨.Name y py, i2, [], 0⟩] scope pos) scope ds cs := by
  refine ⟨comp_start, fun L cl => ?_⟩
  intro A hA s₀ s D outs σ X I fp wr PP Stt R' hσ hsz F hit hst hw0 hR
  generalize hcenv : compEnvC scope cl L env = cenv at *
  refine codeAny_loop rfl (LI C A cenv s₀ X (fun i τ' => ∃ σ', τ' = cst σ' (cσr scope cσ) D (outs ++ (cs.take i).flatten) X) ds I fp wr PP Stt) ?_ (ds.length + 1) ⟨0, _, rfl, Nat.zero_le _, ⟨σ, by simp⟩, rfl, F, hit, hst⟩
  intro k s' hI
  show wpAny _ A ((compTurn (.ListComp elt [⟨.Name x px, i1, [], 0⟩, ⟨.Name y py, i2, [], 0⟩] scope pos) 0 (.ref I) (.ref D) cenv).onRaise (fun x => do noteFrame x cenv; theTreesLotGoes x)) _ _ s'
  refine wpAny_noted ?_
  rw [compTurn_two]
  refine wpAny_bind (wpAny_standAt (wpAny_bind (core hw0 hI (fun τ' s₁ hJ hx' F' => ?_) fun i d τ' v s₁ hd hJ hx' F' rd cont => ?_)))
  · obtain ⟨σ', rfl⟩ := hJ
    refine wpAny_pure (hR s₁ σ' (fun _ _ h => nomatch h) ?_)
    rw [← hlen, List.take_length] at F'
    exact F'
  · obtain ⟨σ', rfl⟩ := hJ
    have hi : i < cs.length := by rw [hlen]; exact (List.getElem?_eq_some_iff.mp hd).1
    obtain ⟨c, hc⟩ : ∃ c, cs[i]? = some c := ⟨_, List.getElem?_eq_getElem hi⟩
    obtain ⟨e, he⟩ : ∃ e, es[i]? = some e := ⟨_, List.getElem?_eq_getElem (by omega)⟩
    have G := F'.up'
    refine wpAny_bind (wpAny_pure (wpAny_bind (wpAny_assign_Name (G.store (e := .dat d) rd (hcenv ▸ hx cl L) fun s₂ F₂ hs₂ sk₂ => ?_))))
    have F₂ : Fm C _ cenv (cstx σ' (cσr scope cσ) D (outs ++ (cs.take i).flatten) X x d) s₂ := F₂
    have hin := hinner L cl i d e σ' D (outs ++ (cs.take i).flatten) X hd he
    rw [hcenv] at hin
    refine wpAny_bind (wpK (hin A hA _ s₂ _ F₂) fun xv s₃ h₃ => wpAny_bind (wpAny_standAt (wpAny_bind (wpAny_of_eq (hs2 cenv xv) (wpAny_bind (wpAny_holding (wpK h₃ fun it2 s₄ h₄ => ?_)))))))
    obtain ⟨k₄, I2, fp2, wr2, PP2, Stt2, rfl, hit2, hst2, hwr2⟩ := h₄
    have F₄ := F₂.keeps k₄
    obtain ⟨hlc, hel⟩ := helt L cl i e c he hc
    rw [hcenv] at hel
    have hcl := cl_two1 (C := C) (n := n) (cenv := cenv) (σ₀ := fun _ => none) (cσ := cσr scope cσ) (elt := elt) (t1 := .Name x px) (i1 := i1) (i2 := i2) (x := y) (px := py) (scope := scope) (pos := pos) (ds := e) (rs := c) hlc (hcenv ▸ hy cl L) rfl (fun j d r σ D outs X h1 h2 => hel j d r σ D outs X h1 h2)
    refine wpAny_bind (wpAny_runOwn ?_)
    show codeAny (M C) A (.compStart _ 1 (.ref I2) (.ref D) cenv) _ s₄
    refine comp_start1 hit2.W hst2 (hcl A hA _ s₄ D _ _ X I2 fp2 wr2 PP2 Stt2 _ (fun _ _ h => nomatch h) ?_ F₄ ⟨hit2.W, hit2.live, hit2.fpo, hit2.dat⟩ hst2 (fun b hb => none_of_up F₂.keep (hwr2 b hb)) fun s₅ σ5 _ F₅ => ?_)
    · rw [flatten_ones, List.length_append]
      have h1 := flatten_take_succ hc
      have h2 := flatten_take_le (cs := cs) (i := i + 1)
      rw [h1, List.length_append] at h2
      omega
    · rw [flatten_ones] at F₅
      refine wpAny_pure ⟨rfl, ?_⟩
      refine cont _ s₅ ⟨σ5, ?_⟩ ?_ F₅
      · rw [flatten_take_succ hc, ← List.append_assoc]
      · rfl

/-! ## tuples and ranges walked -/
theorem itr_tuple {e : Expr} {ds : List Dat} (h : Ev C n env τ e (.dat (.tuple ds))) (hn : 0 < n := by decide) : Itr C n env τ e ds := by
  intro A hA s₀ s E F
  refine wpK (h A hA s₀ s E F) fun v s₁ h₁ => ?_
  have F₁ := F.keeps h₁.1
  cases (h₁.2 : R _ _ _ _) with
  | @tuple l vs k _ hl ho r =>
  have hlt := Heap.lt_size ho
  have hLI : ∀ b o, s₁.heap.get? b = some o → b ≠ s₁.heap.objs.size := fun b o e q => by rw [q, get_new] at e; cases e
  refine wpAny_pyIter_tuple (items := vs.toArray) ⟨_, ho, rfl, k, rfl⟩ ⟨h₁.1.trans (Kp.push _ _), s₁.heap.objs.size, [s₁.heap.objs.size, l], [s₁.heap.objs.size], fun i v => vs.toArray[i]? = some v, fun i h => h.IsTupleIter s₁.heap.objs.size l i ∧ h.IsTuple l vs.toArray, rfl, ⟨?_, ?_, ?_, ?_⟩, ?_, ?_⟩
  · have W := Walks.tuple (prog := C.prog) (w := C.w) (hA.hh hn) s₁.heap.objs.size l (Nat.ne_of_lt hlt) vs.toArray
    have el : vs.toArray.size = ds.length := by rw [List.size_toArray]; exact r.length
    rw [el] at W
    exact W
  · rintro i h ⟨⟨o, ho, _, hd⟩, _⟩ b hb
    rw [List.mem_singleton.mp hb]
    exact ⟨o, ho, fun xs k e => (by rw [hd] at e; cases e), (fun w e => by rw [hd] at e; cases e), by rw [hd]; rfl⟩
  · intro b hb
    rcases List.mem_cons.mp hb with rfl | hb
    · refine ⟨⟨_, Heap.get?_push_size _ rfl, rfl⟩, fun q => ?_⟩
      obtain ⟨o, e⟩ := F₁.turnsAt _ q
      exact hLI _ _ e rfl
    · rw [List.mem_singleton.mp hb]
      refine ⟨⟨_, Heap.get?_push_of_some _ ho, rfl⟩, fun q => ?_⟩
      rcases F₁.notSeq _ q with ⟨p, hp, e⟩ | hq
      · exact hl (List.mem_append_left _ (List.mem_map.mpr ⟨p, hp, e⟩))
      · exact hq _ _ _ ho rfl
  · intro i v hv hi
    obtain ⟨d, hd, rd⟩ := r.get' (by simpa using hv)
    exact ⟨d, hd, rd.push _⟩
  · exact ⟨⟨_, Heap.get?_push_size _ rfl, rfl, rfl⟩, ⟨_, Heap.get?_push_of_some _ ho, rfl, k, rfl⟩⟩
  · intro b hb
    rw [List.mem_singleton.mp hb]
    exact none_of_up h₁.1.up (get_new _)

def rng (m : Nat) : List Dat := (List.range m).map fun (i : Nat) => Dat.int (i : Int)
theorem itr_range {f : Str} {np pos : Pos} {e : Expr} {m : Nat} (hf : Ev C n env τ (.Name f np) (.raw (.type "range"))) (he : Ev C n env τ e (.dat (.int (m : Int)))) (hm : m ≤ 1000000) (hn : 0 < n := by decide) (hs : starEach [e] env = [(false, eval e env)] := by rfl) : Itr C n env τ (.Call (.Name f np) [e] [] pos) (rng m) := by
  intro A hA s₀ s E F
  refine Call_name1 hs (wpK (hf A hA s₀ s E F) fun g s₁ h₁ => ?_)
  obtain ⟨k₁, rfl⟩ := h₁
  have F₁ := F.keeps k₁
  refine callWith_type1 (wpK (he A hA s₀ s₁ E F₁) fun v s₂ h₂ => ?_)
  obtain ⟨k₂, h₂⟩ := h₂
  cases (h₂ : R _ _ _ _) with
  | int _ t =>
  have F₂ := F₁.keeps k₂
  refine call_range_1 ?_
  have hsize : Builtin.Range.rangeSize 0 (m : Int) 1 = (m : Int) := by
    unfold Builtin.Range.rangeSize
    simp only [show (1 : Int) > 0 by decide, if_true]
    split <;> omega
  have hsmall : Builtin.Range.small 0 (m : Int) 1 = true := by
    unfold Builtin.Range.small
    rw [hsize]
    have fit : ∀ i : Int, -1 ≤ i → i ≤ 1000001 → Builtin.Range.rangeFitsLong i = true := fun i h1 h2 => by
      unfold Builtin.Range.rangeFitsLong
      rw [Bool.and_eq_true, decide_eq_true_eq, decide_eq_true_eq]
      exact ⟨by omega, by omega⟩
    rw [fit 0 (by omega) (by omega), fit (m : Int) (by omega) (by omega), fit 1 (by omega) (by omega)]
    simp only [show (1 : Int) > 0 by decide, if_true]
    rw [fit ((m : Int) + (1 - 1)) (by omega) (by omega)]
    simp
  let s₃ : Shared := { s₂ with heap := s₂.heap.push { cls := .type "range", data := .fields #[.int 0 s₂.toks, .int (m : Int) t, .int 1 (s₂.toks + 1)] }, toks := s₂.toks + 1 + 1 }
  have k₃ : Kp C s₂ s₃ := (Kp.push _ _).trans (Kp.tok _ _)
  have F₃ := F₂.keeps k₃
  refine wpAny_pyIter_range (s := s₃) (t := s₂.toks) (u := t) (v := s₂.toks + 1) (a := 0) (b := (m : Int)) (c := 1) (Heap.get?_push_size _ rfl) hsmall ?_
  have hLI : ∀ b o, s₃.heap.get? b = some o → b ≠ s₃.heap.objs.size := fun b o e q => by rw [q, get_new] at e; cases e
  have el : (rng m).length = m := by simp [rng]
  refine ⟨((k₁.trans k₂).trans k₃).trans (Kp.push _ _), s₃.heap.objs.size, [s₃.heap.objs.size], [s₃.heap.objs.size], fun i v => ∃ t, v = .int ((0 : Int) + i * 1) t, fun i h => IsRangeIter h s₃.heap.objs.size ((0 : Int) + (i : Nat) * 1) ((m : Int) - (i : Nat)) 1, rfl, ⟨?_, ?_, ?_, ?_⟩, ?_, ?_⟩
  · have W := Walks.range (prog := C.prog) (w := C.w) (hA.hh hn) s₃.heap.objs.size 0 1 m
    rw [el]; exact W
  · intro i h hi b hb
    rw [List.mem_singleton.mp hb]
    exact ⟨_, hi, fun xs k (e : Data.fields _ = _) => (by cases e), (fun w (e : Data.fields _ = _) => (by cases e)), rfl⟩
  · intro b hb
    rw [List.mem_singleton.mp hb]
    refine ⟨⟨_, Heap.get?_push_size _ rfl, rfl⟩, fun q => ?_⟩
    obtain ⟨o, e⟩ := F₃.turnsAt _ q
    exact hLI _ _ e rfl
  · rintro i v ⟨t', rfl⟩ hi
    rw [el] at hi
    refine ⟨.int (i : Int), by simp [rng, hi], ?_⟩
    have : (0 : Int) + (i : Int) * 1 = (i : Int) := by omega
    rw [this]; exact .int _ _
  · show IsRangeIter _ _ _ _ _
    rw [hsize]
    simpa using Heap.get?_push_size s₃.heap rfl
  · intro b hb
    rw [List.mem_singleton.mp hb]
    exact none_of_up ((k₁.trans k₂).trans k₃).up (get_new _)
end
end Mine
end -- W10

section -- W11
open PySem PySem.W PyProof.Rows PySem.Calls PySem.Spec
set_option maxRecDepth 100000
namespace Mine
section
variable {C : Cx} {n : Nat} {env : Env} {τ : St}
theorem ev_b2 {f : Str} {id : String} {np pos : Pos} {e1 e2 : Expr} {d1 d2 r : Ent} (hf : Ev C n env τ (.Name f np) (.raw (.builtin id))) (h1 : Ev C n env τ e1 d1) (h2 : Ev C n env τ e2 d2)
    (hc : ∀ A, Rm C n A → ∀ S s E v w, (∀ x ∈ S, x < s.heap.objs.size) → EntAt S s.heap v d1 → EntAt S s.heap w d2 → wpAny (M C) A (call (.builtin id) [v, w]) (fun r' s' => Kp C s s' ∧ EntAt S s'.heap r' r) E s)
    (hs : starEach [e1, e2] env = [(false, eval e1 env), (false, eval e2 env)] := by rfl) : Ev C n env τ (.Call (.Name f np) [e1, e2] [] pos) r := by
  intro A hA s₀ s E F
  refine wpAny_Call_NameR (wpK (hf A hA s₀ s E F) fun g s₁ h₁ => ?_)
  obtain ⟨k₁, rfl⟩ := h₁
  have F₁ := F.keeps k₁
  rw [hs]
  refine callWith_builtin rfl (evalArgs_plain (spliced_cons (wpK (h1 A hA s₀ s₁ E F₁) fun v s₂ ⟨k₂, r₂⟩ => spliced_cons (wpK (h2 A hA s₀ s₂ E (F₁.keeps k₂)) fun w s₃ ⟨k₃, r₃⟩ => spliced_nil ?_))))
  exact wpK (hc A hA τ.S s₃ E v w ((F₁.keeps k₂).keeps k₃).below (EntAt.up k₃.up r₂) r₃) fun r' s₄ ⟨k₄, r₄⟩ => ⟨((k₁.trans k₂).trans k₃).trans k₄, r₄⟩
theorem ev_isbytes {f : Str} {np pos : Pos} {e1 e2 : Expr} {x : Str} (hf : Ev C n env τ (.Name f np) (.raw (.builtin "isinstance"))) (h1 : Ev C n env τ e1 (.dat (.str x))) (h2 : Ev C n env τ e2 (.raw (.type "bytes")))
    (hs : starEach [e1, e2] env = [(false, eval e1 env), (false, eval e2 env)] := by rfl) : Ev C n env τ (.Call (.Name f np) [e1, e2] [] pos) (.dat (.bool false)) := by
  refine ev_b2 hf h1 h2 (fun A hA S s E v w _ r1 r2 => ?_) hs
  cases (r2 : w = _)
  cases (r1 : R _ _ _ _)
  exact IsiPair.str_bytes ⟨Kp.tok _ _, R.bool _⟩

/-! ## the text's own -/
noncomputable def obOf (f : Addr) (p : Params) : Obj := ((hd.heap_39 p).lookup f).getD default
noncomputable def fdOf (f : Addr) (p : Params) : FuncData := match (obOf f p).data with | .func d => d | _ => default
noncomputable def bodyOf (f : Addr) (p : Params) : List Stmt := match (fdOf f p).body with | .stmts b => b | _ => []

theorem getsep {C : Cx} (hK : C.K = hd.heap_39 C.w.params) {x : Str} : Fn C 1 125 [.str x] (.str "/") := by
  refine fn_of (o := obOf 125 C.w.params) (fd := fdOf 125 C.w.params) (body := bodyOf 125 C.w.params) (names := ["path"]) (by rw [hK]; rfl) rfl rfl (by rw [hK]; rfl) rfl rfl rfl (fun vs hv => ?_) rfl (fun L X => ?_) rfl rfl rfl
  · match vs, hv with
    | [a], _ => rfl
  · refine ex_cons (ex_if (c := false) (ts_val (ev_isbytes (ev_boot (by rw [hK]; rfl) (by decide +kernel)) (ev_local rfl) (ev_boot (by rw [hK]; rfl) (by decide +kernel))) tr_bool) ?_ ?_)
    · intro q; cases q
    · intro _
      exact ex_cons (ex_ret ev_str rfl)
end
end Mine
end -- W11

section -- W12
open PySem PySem.W PyProof.Rows PySem.Calls PySem.Spec
set_option maxRecDepth 100000
namespace Mine
section
variable {C : Cx}
theorem g_fspath (hK : C.K = hd.heap_39 C.w.params) : nsIn C.K mainGlobals "fspath" = some (some (.ref 111)) := by rw [hK]; generalize C.w.params = p; kernel_rfl!
theorem o_fspath (hK : C.K = hd.heap_39 C.w.params) : C.K.lookup 111 = some (obOf 111 C.w.params) := by rw [hK]; generalize C.w.params = p; kernel_rfl!
theorem d_fspath (p : Params) : (obOf 111 p).data = .func (fdOf 111 p) := by kernel_rfl!
theorem b_fspath (p : Params) : (fdOf 111 p).body = .stmts (bodyOf 111 p) := by kernel_rfl!
theorem c_fspath (hK : C.K = hd.heap_39 C.w.params) : codeIn C.K (fdOf 111 C.w.params).code (fdOf 111 C.w.params).qualname = true := by rw [hK]; generalize C.w.params = p; kernel_rfl!
theorem g_get_sep (hK : C.K = hd.heap_39 C.w.params) : nsIn C.K mainGlobals "_get_sep" = some (some (.ref 125)) := by rw [hK]; generalize C.w.params = p; kernel_rfl!
theorem o_get_sep (hK : C.K = hd.heap_39 C.w.params) : C.K.lookup 125 = some (obOf 125 C.w.params) := by rw [hK]; generalize C.w.params = p; kernel_rfl!
theorem d_get_sep (p : Params) : (obOf 125 p).data = .func (fdOf 125 p) := by kernel_rfl!
theorem b_get_sep (p : Params) : (fdOf 125 p).body = .stmts (bodyOf 125 p) := by kernel_rfl!
theorem c_get_sep (hK : C.K = hd.heap_39 C.w.params) : codeIn C.K (fdOf 125 C.w.params).code (fdOf 125 C.w.params).qualname = true := by rw [hK]; generalize C.w.params = p; kernel_rfl!
theorem g_join (hK : C.K = hd.heap_39 C.w.params) : nsIn C.K mainGlobals "join" = some (some (.ref 132)) := by rw [hK]; generalize C.w.params = p; kernel_rfl!
theorem o_join (hK : C.K = hd.heap_39 C.w.params) : C.K.lookup 132 = some (obOf 132 C.w.params) := by rw [hK]; generalize C.w.params = p; kernel_rfl!
theorem d_join (p : Params) : (obOf 132 p).data = .func (fdOf 132 p) := by kernel_rfl!
theorem b_join (p : Params) : (fdOf 132 p).body = .stmts (bodyOf 132 p) := by kernel_rfl!
theorem c_join (hK : C.K = hd.heap_39 C.w.params) : codeIn C.K (fdOf 132 C.w.params).code (fdOf 132 C.w.params).qualname = true := by rw [hK]; generalize C.w.params = p; kernel_rfl!
theorem g_split (hK : C.K = hd.heap_39 C.w.params) : nsIn C.K mainGlobals "split" = some (some (.ref 139)) := by rw [hK]; generalize C.w.params = p; kernel_rfl!
theorem o_split (hK : C.K = hd.heap_39 C.w.params) : C.K.lookup 139 = some (obOf 139 C.w.params) := by rw [hK]; generalize C.w.params = p; kernel_rfl!
theorem d_split (p : Params) : (obOf 139 p).data = .func (fdOf 139 p) := by kernel_rfl!
theorem b_split (p : Params) : (fdOf 139 p).body = .stmts (bodyOf 139 p) := by kernel_rfl!
theorem c_split (hK : C.K = hd.heap_39 C.w.params) : codeIn C.K (fdOf 139 C.w.params).code (fdOf 139 C.w.params).qualname = true := by rw [hK]; generalize C.w.params = p; kernel_rfl!
theorem g_splitroot (hK : C.K = hd.heap_39 C.w.params) : nsIn C.K mainGlobals "splitroot" = some (some (.ref 146)) := by rw [hK]; generalize C.w.params = p; kernel_rfl!
theorem o_splitroot (hK : C.K = hd.heap_39 C.w.params) : C.K.lookup 146 = some (obOf 146 C.w.params) := by rw [hK]; generalize C.w.params = p; kernel_rfl!
theorem d_splitroot (p : Params) : (obOf 146 p).data = .func (fdOf 146 p) := by kernel_rfl!
theorem b_splitroot (p : Params) : (fdOf 146 p).body = .stmts (bodyOf 146 p) := by kernel_rfl!
theorem c_splitroot (hK : C.K = hd.heap_39 C.w.params) : codeIn C.K (fdOf 146 C.w.params).code (fdOf 146 C.w.params).qualname = true := by rw [hK]; generalize C.w.params = p; kernel_rfl!
theorem g_basename (hK : C.K = hd.heap_39 C.w.params) : nsIn C.K mainGlobals "basename" = some (some (.ref 153)) := by rw [hK]; generalize C.w.params = p; kernel_rfl!
theorem o_basename (hK : C.K = hd.heap_39 C.w.params) : C.K.lookup 153 = some (obOf 153 C.w.params) := by rw [hK]; generalize C.w.params = p; kernel_rfl!
theorem d_basename (p : Params) : (obOf 153 p).data = .func (fdOf 153 p) := by kernel_rfl!
theorem b_basename (p : Params) : (fdOf 153 p).body = .stmts (bodyOf 153 p) := by kernel_rfl!
theorem c_basename (hK : C.K = hd.heap_39 C.w.params) : codeIn C.K (fdOf 153 C.w.params).code (fdOf 153 C.w.params).qualname = true := by rw [hK]; generalize C.w.params = p; kernel_rfl!
theorem g_dirname (hK : C.K = hd.heap_39 C.w.params) : nsIn C.K mainGlobals "dirname" = some (some (.ref 160)) := by rw [hK]; generalize C.w.params = p; kernel_rfl!
theorem o_dirname (hK : C.K = hd.heap_39 C.w.params) : C.K.lookup 160 = some (obOf 160 C.w.params) := by rw [hK]; generalize C.w.params = p; kernel_rfl!
theorem d_dirname (p : Params) : (obOf 160 p).data = .func (fdOf 160 p) := by kernel_rfl!
theorem b_dirname (p : Params) : (fdOf 160 p).body = .stmts (bodyOf 160 p) := by kernel_rfl!
theorem c_dirname (hK : C.K = hd.heap_39 C.w.params) : codeIn C.K (fdOf 160 C.w.params).code (fdOf 160 C.w.params).qualname = true := by rw [hK]; generalize C.w.params = p; kernel_rfl!
theorem g_normpath (hK : C.K = hd.heap_39 C.w.params) : nsIn C.K mainGlobals "normpath" = some (some (.ref 167)) := by rw [hK]; generalize C.w.params = p; kernel_rfl!
theorem o_normpath (hK : C.K = hd.heap_39 C.w.params) : C.K.lookup 167 = some (obOf 167 C.w.params) := by rw [hK]; generalize C.w.params = p; kernel_rfl!
theorem d_normpath (p : Params) : (obOf 167 p).data = .func (fdOf 167 p) := by kernel_rfl!
theorem b_normpath (p : Params) : (fdOf 167 p).body = .stmts (bodyOf 167 p) := by kernel_rfl!
theorem c_normpath (hK : C.K = hd.heap_39 C.w.params) : codeIn C.K (fdOf 167 C.w.params).code (fdOf 167 C.w.params).qualname = true := by rw [hK]; generalize C.w.params = p; kernel_rfl!
theorem g_quotedata (hK : C.K = hd.heap_39 C.w.params) : nsIn C.K mainGlobals "quotedata" = some (some (.ref 184)) := by rw [hK]; generalize C.w.params = p; kernel_rfl!
theorem o_quotedata (hK : C.K = hd.heap_39 C.w.params) : C.K.lookup 184 = some (obOf 184 C.w.params) := by rw [hK]; generalize C.w.params = p; kernel_rfl!
theorem d_quotedata (p : Params) : (obOf 184 p).data = .func (fdOf 184 p) := by kernel_rfl!
theorem b_quotedata (p : Params) : (fdOf 184 p).body = .stmts (bodyOf 184 p) := by kernel_rfl!
theorem c_quotedata (hK : C.K = hd.heap_39 C.w.params) : codeIn C.K (fdOf 184 C.w.params).code (fdOf 184 C.w.params).qualname = true := by rw [hK]; generalize C.w.params = p; kernel_rfl!
theorem g_sorted_list_difference (hK : C.K = hd.heap_39 C.w.params) : nsIn C.K mainGlobals "sorted_list_difference" = some (some (.ref 191)) := by rw [hK]; generalize C.w.params = p; kernel_rfl!
theorem o_sorted_list_difference (hK : C.K = hd.heap_39 C.w.params) : C.K.lookup 191 = some (obOf 191 C.w.params) := by rw [hK]; generalize C.w.params = p; kernel_rfl!
theorem d_sorted_list_difference (p : Params) : (obOf 191 p).data = .func (fdOf 191 p) := by kernel_rfl!
theorem b_sorted_list_difference (p : Params) : (fdOf 191 p).body = .stmts (bodyOf 191 p) := by kernel_rfl!
theorem c_sorted_list_difference (hK : C.K = hd.heap_39 C.w.params) : codeIn C.K (fdOf 191 C.w.params).code (fdOf 191 C.w.params).qualname = true := by rw [hK]; generalize C.w.params = p; kernel_rfl!
theorem g_law_mails (hK : C.K = hd.heap_39 C.w.params) : nsIn C.K mainGlobals "_law_mails" = some (some (.ref 198)) := by rw [hK]; generalize C.w.params = p; kernel_rfl!
theorem o_law_mails (hK : C.K = hd.heap_39 C.w.params) : C.K.lookup 198 = some (obOf 198 C.w.params) := by rw [hK]; generalize C.w.params = p; kernel_rfl!
theorem d_law_mails (p : Params) : (obOf 198 p).data = .func (fdOf 198 p) := by kernel_rfl!
theorem b_law_mails (p : Params) : (fdOf 198 p).body = .stmts (bodyOf 198 p) := by kernel_rfl!
theorem c_law_mails (hK : C.K = hd.heap_39 C.w.params) : codeIn C.K (fdOf 198 C.w.params).code (fdOf 198 C.w.params).qualname = true := by rw [hK]; generalize C.w.params = p; kernel_rfl!
theorem g_law_sent (hK : C.K = hd.heap_39 C.w.params) : nsIn C.K mainGlobals "_law_sent" = some (some (.ref 205)) := by rw [hK]; generalize C.w.params = p; kernel_rfl!
theorem o_law_sent (hK : C.K = hd.heap_39 C.w.params) : C.K.lookup 205 = some (obOf 205 C.w.params) := by rw [hK]; generalize C.w.params = p; kernel_rfl!
theorem d_law_sent (p : Params) : (obOf 205 p).data = .func (fdOf 205 p) := by kernel_rfl!
theorem b_law_sent (p : Params) : (fdOf 205 p).body = .stmts (bodyOf 205 p) := by kernel_rfl!
theorem c_law_sent (hK : C.K = hd.heap_39 C.w.params) : codeIn C.K (fdOf 205 C.w.params).code (fdOf 205 C.w.params).qualname = true := by rw [hK]; generalize C.w.params = p; kernel_rfl!
theorem g_law_plain (hK : C.K = hd.heap_39 C.w.params) : nsIn C.K mainGlobals "_law_plain" = some (some (.ref 212)) := by rw [hK]; generalize C.w.params = p; kernel_rfl!
theorem o_law_plain (hK : C.K = hd.heap_39 C.w.params) : C.K.lookup 212 = some (obOf 212 C.w.params) := by rw [hK]; generalize C.w.params = p; kernel_rfl!
theorem d_law_plain (p : Params) : (obOf 212 p).data = .func (fdOf 212 p) := by kernel_rfl!
theorem b_law_plain (p : Params) : (fdOf 212 p).body = .stmts (bodyOf 212 p) := by kernel_rfl!
theorem c_law_plain (hK : C.K = hd.heap_39 C.w.params) : codeIn C.K (fdOf 212 C.w.params).code (fdOf 212 C.w.params).qualname = true := by rw [hK]; generalize C.w.params = p; kernel_rfl!
theorem g_law_straight (hK : C.K = hd.heap_39 C.w.params) : nsIn C.K mainGlobals "_law_straight" = some (some (.ref 219)) := by rw [hK]; generalize C.w.params = p; kernel_rfl!
theorem o_law_straight (hK : C.K = hd.heap_39 C.w.params) : C.K.lookup 219 = some (obOf 219 C.w.params) := by rw [hK]; generalize C.w.params = p; kernel_rfl!
theorem d_law_straight (p : Params) : (obOf 219 p).data = .func (fdOf 219 p) := by kernel_rfl!
theorem b_law_straight (p : Params) : (fdOf 219 p).body = .stmts (bodyOf 219 p) := by kernel_rfl!
theorem c_law_straight (hK : C.K = hd.heap_39 C.w.params) : codeIn C.K (fdOf 219 C.w.params).code (fdOf 219 C.w.params).qualname = true := by rw [hK]; generalize C.w.params = p; kernel_rfl!
theorem g_law_parted (hK : C.K = hd.heap_39 C.w.params) : nsIn C.K mainGlobals "_law_parted" = some (some (.ref 226)) := by rw [hK]; generalize C.w.params = p; kernel_rfl!
theorem o_law_parted (hK : C.K = hd.heap_39 C.w.params) : C.K.lookup 226 = some (obOf 226 C.w.params) := by rw [hK]; generalize C.w.params = p; kernel_rfl!
theorem d_law_parted (p : Params) : (obOf 226 p).data = .func (fdOf 226 p) := by kernel_rfl!
theorem b_law_parted (p : Params) : (fdOf 226 p).body = .stmts (bodyOf 226 p) := by kernel_rfl!
theorem c_law_parted (hK : C.K = hd.heap_39 C.w.params) : codeIn C.K (fdOf 226 C.w.params).code (fdOf 226 C.w.params).qualname = true := by rw [hK]; generalize C.w.params = p; kernel_rfl!
theorem g_law_alone (hK : C.K = hd.heap_39 C.w.params) : nsIn C.K mainGlobals "_law_alone" = some (some (.ref 231)) := by rw [hK]; generalize C.w.params = p; kernel_rfl!
theorem o_law_alone (hK : C.K = hd.heap_39 C.w.params) : C.K.lookup 231 = some (obOf 231 C.w.params) := by rw [hK]; generalize C.w.params = p; kernel_rfl!
theorem d_law_alone (p : Params) : (obOf 231 p).data = .func (fdOf 231 p) := by kernel_rfl!
theorem b_law_alone (p : Params) : (fdOf 231 p).body = .stmts (bodyOf 231 p) := by kernel_rfl!
theorem c_law_alone (hK : C.K = hd.heap_39 C.w.params) : codeIn C.K (fdOf 231 C.w.params).code (fdOf 231 C.w.params).qualname = true := by rw [hK]; generalize C.w.params = p; kernel_rfl!
theorem h_fspath (p : Params) (a : Value) : bindArgs (fdOf 111 p) ⟨[a], []⟩ = pure ((["path"] : List Str).zip [a]) := by kernel_rfl!
theorem h_get_sep (p : Params) (a : Value) : bindArgs (fdOf 125 p) ⟨[a], []⟩ = pure ((["path"] : List Str).zip [a]) := by kernel_rfl!
theorem h_split (p : Params) (a : Value) : bindArgs (fdOf 139 p) ⟨[a], []⟩ = pure ((["p"] : List Str).zip [a]) := by kernel_rfl!
theorem h_splitroot (p : Params) (a : Value) : bindArgs (fdOf 146 p) ⟨[a], []⟩ = pure ((["p"] : List Str).zip [a]) := by kernel_rfl!
theorem h_basename (p : Params) (a : Value) : bindArgs (fdOf 153 p) ⟨[a], []⟩ = pure ((["p"] : List Str).zip [a]) := by kernel_rfl!
theorem h_dirname (p : Params) (a : Value) : bindArgs (fdOf 160 p) ⟨[a], []⟩ = pure ((["p"] : List Str).zip [a]) := by kernel_rfl!
theorem h_normpath (p : Params) (a : Value) : bindArgs (fdOf 167 p) ⟨[a], []⟩ = pure ((["path"] : List Str).zip [a]) := by kernel_rfl!
theorem h_quotedata (p : Params) (a : Value) : bindArgs (fdOf 184 p) ⟨[a], []⟩ = pure ((["data"] : List Str).zip [a]) := by kernel_rfl!
theorem h_sorted_list_difference (p : Params) (a b : Value) : bindArgs (fdOf 191 p) ⟨[a, b], []⟩ = pure ((["expected", "actual"] : List Str).zip [a, b]) := by kernel_rfl!
theorem h_law_mails (p : Params) (a : Value) : bindArgs (fdOf 198 p) ⟨[a], []⟩ = pure ((["numbers"] : List Str).zip [a]) := by kernel_rfl!
theorem h_law_sent (p : Params) (a : Value) : bindArgs (fdOf 205 p) ⟨[a], []⟩ = pure ((["mail"] : List Str).zip [a]) := by kernel_rfl!
theorem h_law_plain (p : Params) (a : Value) : bindArgs (fdOf 212 p) ⟨[a], []⟩ = pure ((["way"] : List Str).zip [a]) := by kernel_rfl!
theorem h_law_straight (p : Params) (a : Value) : bindArgs (fdOf 219 p) ⟨[a], []⟩ = pure ((["way"] : List Str).zip [a]) := by kernel_rfl!
theorem h_law_parted (p : Params) (a : Value) : bindArgs (fdOf 226 p) ⟨[a], []⟩ = pure ((["way"] : List Str).zip [a]) := by kernel_rfl!
theorem g_str (hK : C.K = hd.heap_39 C.w.params) : nsIn C.K mainGlobals "str" = some none := by rw [hK]; generalize C.w.params = p; kernel_rfl!
theorem g_bytes (hK : C.K = hd.heap_39 C.w.params) : nsIn C.K mainGlobals "bytes" = some none := by rw [hK]; generalize C.w.params = p; kernel_rfl!
theorem g_len (hK : C.K = hd.heap_39 C.w.params) : nsIn C.K mainGlobals "len" = some none := by rw [hK]; generalize C.w.params = p; kernel_rfl!
theorem g_abs (hK : C.K = hd.heap_39 C.w.params) : nsIn C.K mainGlobals "abs" = some none := by rw [hK]; generalize C.w.params = p; kernel_rfl!
theorem g_sorted (hK : C.K = hd.heap_39 C.w.params) : nsIn C.K mainGlobals "sorted" = some none := by rw [hK]; generalize C.w.params = p; kernel_rfl!
theorem g_max (hK : C.K = hd.heap_39 C.w.params) : nsIn C.K mainGlobals "max" = some none := by rw [hK]; generalize C.w.params = p; kernel_rfl!
theorem g_isinstance (hK : C.K = hd.heap_39 C.w.params) : nsIn C.K mainGlobals "isinstance" = some none := by rw [hK]; generalize C.w.params = p; kernel_rfl!
theorem g_issubclass (hK : C.K = hd.heap_39 C.w.params) : nsIn C.K mainGlobals "issubclass" = some none := by rw [hK]; generalize C.w.params = p; kernel_rfl!
theorem g_type (hK : C.K = hd.heap_39 C.w.params) : nsIn C.K mainGlobals "type" = some none := by rw [hK]; generalize C.w.params = p; kernel_rfl!
theorem g_range (hK : C.K = hd.heap_39 C.w.params) : nsIn C.K mainGlobals "range" = some none := by rw [hK]; generalize C.w.params = p; kernel_rfl!
theorem g_IndexError (hK : C.K = hd.heap_39 C.w.params) : nsIn C.K mainGlobals "IndexError" = some none := by rw [hK]; generalize C.w.params = p; kernel_rfl!
theorem g_TypeError (hK : C.K = hd.heap_39 C.w.params) : nsIn C.K mainGlobals "TypeError" = some none := by rw [hK]; generalize C.w.params = p; kernel_rfl!
theorem g_AttributeError (hK : C.K = hd.heap_39 C.w.params) : nsIn C.K mainGlobals "AttributeError" = some none := by rw [hK]; generalize C.w.params = p; kernel_rfl!
theorem g_BytesWarning (hK : C.K = hd.heap_39 C.w.params) : nsIn C.K mainGlobals "BytesWarning" = some none := by rw [hK]; generalize C.w.params = p; kernel_rfl!
theorem v_str : bootBuiltins "str" = some (.type "str") := by kernel_rfl!
theorem v_bytes : bootBuiltins "bytes" = some (.type "bytes") := by kernel_rfl!
theorem v_len : bootBuiltins "len" = some (.builtin "len") := by kernel_rfl!
theorem v_abs : bootBuiltins "abs" = some (.builtin "abs") := by kernel_rfl!
theorem v_sorted : bootBuiltins "sorted" = some (.builtin "sorted") := by kernel_rfl!
theorem v_max : bootBuiltins "max" = some (.builtin "max") := by kernel_rfl!
theorem v_isinstance : bootBuiltins "isinstance" = some (.builtin "isinstance") := by kernel_rfl!
theorem v_issubclass : bootBuiltins "issubclass" = some (.builtin "issubclass") := by kernel_rfl!
theorem v_type : bootBuiltins "type" = some (.type "type") := by kernel_rfl!
theorem v_range : bootBuiltins "range" = some (.type "range") := by kernel_rfl!
theorem v_IndexError : bootBuiltins "IndexError" = some (.type "IndexError") := by kernel_rfl!
theorem v_TypeError : bootBuiltins "TypeError" = some (.type "TypeError") := by kernel_rfl!
theorem v_AttributeError : bootBuiltins "AttributeError" = some (.type "AttributeError") := by kernel_rfl!
theorem v_BytesWarning : bootBuiltins "BytesWarning" = some (.type "BytesWarning") := by kernel_rfl!
theorem g_re1 (hK : C.K = hd.heap_39 C.w.params) : nsIn C.K mainGlobals "_twin_re_1" = some (some (.ref 172)) := by rw [hK]; generalize C.w.params = p; kernel_rfl!
theorem g_re2 (hK : C.K = hd.heap_39 C.w.params) : nsIn C.K mainGlobals "_twin_re_2" = some (some (.ref 177)) := by rw [hK]; generalize C.w.params = p; kernel_rfl!
theorem g_crlf (hK : C.K = hd.heap_39 C.w.params) : nsIn C.K mainGlobals "CRLF" = some (some (.str "\r\n" 535)) := by rw [hK]; generalize C.w.params = p; kernel_rfl!
end
end Mine
end -- W12

section -- W13
open PySem PySem.W PyProof.Rows PySem.Calls PySem.Spec
set_option maxRecDepth 100000
namespace Mine
section
variable {prog : Program} {w : World} {A : Around} {E : Value → Shared → Prop}
theorem isSub_str : isSubtype (.type "str") (.type "str") = pure true := by rw [isSubtype_type]; kernel_rfl
theorem ty_str : typeOf (.type "str") = pure (.type "type") := by first | exact PySem.F.isi_meta_str | kernel_rfl!
theorem kind_issubn : builtinKind "issubclass.nested" = none := by decide +kernel
theorem plain_issubn : plainId "issubclass.nested" = true := by decide +kernel
theorem args_issubn (a b c : Value) : argsOk "issubclass.nested" ⟨[a, b, c], []⟩ := by unfold argsOk; kernel_rfl
theorem issub_str {k : Value} : Meets (Builtin.«issubclass.nested» ⟨[.type "str", .type "str", k], []⟩) (fun _ R s => (∃ d t, k = .int d t) ∧ R (.ok (.ret (.bool true))) s) := by
  intro prog w A R s h
  obtain ⟨⟨d, t, rfl⟩, h⟩ := h
  have f1 := isSub_str
  have f2 := ty_str
  repeat (any_goals (first | assumption | rw [f2] | rw [f1] | wp_step))
theorem issub_tuple {tp : Addr} {s : Shared} {tk : Tok} {Q : Fin → Shared → Prop} {cs : List Value} (hcs : cs = [.type "str", .type "bytes"]) (htp : s.heap.get? tp = some (tO cs 0))
    (hq : ∀ tk', Q (.done (.ret (.bool true))) { s with toks := tk' }) : wpAny (model prog w) A (Builtin.«issubclass.nested» ⟨[.type "str", .ref tp, .int 0 tk], []⟩) Q E s := by
  obtain ⟨h, g, d, t, os⟩ := s
  have hT2 : (⟨h, g, d, t, os⟩ : Shared).TypeIs (.ref tp) "tuple" := ⟨_, htp, rfl⟩
  have f1 := PySem.F.isi_sub_tuple
  repeat (any_goals (first | assumption | wp_step))
  refine wpAny_arrayLoop ?_
  simp only [Option.getD_some, List.toList_toArray]
  subst hcs
  rw [List.forIn_cons]
  refine wpAny_bind (wpAny_bind (call_function_meets kind_issubn plain_issubn PySem.F.entry_issubclass_nested (args_issubn _ _ _) issub_str ⟨⟨_, _, rfl⟩, ?_⟩))
  show wpAny _ _ (truthy (.bool true) >>= _) _ _ _
  refine wpAny_bind (m := truthy (.bool true)) (wpAny_pure ?_)
  refine wpAny_bind (wpAny_pure (wpAny_pure (wpAny_pure ?_)))
  repeat (any_goals (first | assumption | wp_step))
  exact hq t
theorem issub_all {tp : Addr} : Meets (Builtin.«issubclass» ⟨[.type "str", .ref tp], []⟩) (fun _ R s => s.heap.get? tp = some (tO [.type "str", .type "bytes"] 0) ∧ ∀ tk', R (.ok (.ret (.bool true))) { s with toks := tk' }) :=
  fun _ _ _ _ _ hs => issubclass_outer (issub_tuple rfl hs.1 hs.2)
end

/-! ## the order of texts -/
def ltS (x y : Str) : Bool := decide (x.cps.toList < y.cps.toList)
def srt (l : List Str) : List Str := l.mergeSort fun x y => !ltS y x
def mx : List Str → Str
  | [] => default
  | x :: r => r.foldl (fun b y => if ltS b y then y else b) x
theorem ltS_irrefl (x : Str) : ltS x x = false := by simp [ltS, List.lt_irrefl]
theorem ltS_trans {x y z : Str} (h : ltS x y = true) (k : ltS y z = true) : ltS x z = true := by
  simp only [ltS, decide_eq_true_eq] at *
  exact List.lt_trans h k
theorem ltS_asymm {x y : Str} (h : ltS x y = true) : ltS y x = false := by
  cases q : ltS y x with
  | false => rfl
  | true => have := ltS_trans h q; rw [ltS_irrefl] at this; cases this
theorem ltS_eq {x y : Str} (h : ltS x y = false) (k : ltS y x = false) : x = y := by
  simp only [ltS, decide_eq_false_iff_not, List.not_lt] at h k
  have := List.le_antisymm k h
  cases x with | mk a => cases y with | mk b => simpa using this
theorem leS_trans {x y z : Str} (h : ltS y x = false) (k : ltS z y = false) : ltS z x = false := by
  cases q : ltS z x with
  | false => rfl
  | true =>
    cases r : ltS x y with
    | true => rw [ltS_trans q r] at k; cases k
    | false => rw [ltS_eq r h] at q; rw [k] at q; cases q
theorem srt_perm (l : List Str) : (srt l).Perm l := List.mergeSort_perm _ _
theorem srt_sorted (l : List Str) : (srt l).Pairwise fun x y => ltS y x = false := by
  have := List.pairwise_mergeSort (le := fun x y => !ltS y x) (fun x y z h k => by
    simp only [Bool.not_eq_true'] at *; exact leS_trans h k) (fun x y => by
    cases h : ltS y x with
    | false => rfl
    | true => simp [ltS_asymm h]) l
  exact this.imp fun h => by simpa using h
theorem srt_unique {l m : List Str} (hp : m.Perm l) (hs : m.Pairwise fun x y => ltS y x = false) : m = srt l :=
  List.Perm.eq_of_pairwise (fun x y _ _ h1 h2 => ltS_eq h2 h1) hs (srt_sorted l) (hp.trans (srt_perm l).symm)
theorem rising_pw : ∀ (l : List Str) (p : Str), risingS p l = true → (p :: l).Pairwise fun x y => ltS y x = false
  | [], p, _ => List.pairwise_singleton _ _
  | x :: r, p, h => by
    simp only [risingS, Bool.and_eq_true, Bool.not_eq_true'] at h
    have ih := rising_pw r x h.2
    have h1 : ltS x p = false := by rw [ltS, ← ltCps_eq]; exact h.1
    refine List.pairwise_cons.mpr ⟨fun y hy => ?_, ih⟩
    rcases List.mem_cons.mp hy with rfl | hy
    · exact h1
    · exact leS_trans h1 ((List.pairwise_cons.mp ih).1 y hy)
theorem sortedS_pw {l : List Str} (h : sortedS l = true) : l.Pairwise fun x y => ltS y x = false := by
  cases l with
  | nil => exact List.Pairwise.nil
  | cons x r => exact rising_pw r x h
theorem srt_of {l m : List Str} (hp : m.Perm l) (hs : sortedS m = true) : m = srt l := srt_unique hp (sortedS_pw hs)
theorem mx_at (xs : List Str) : ∀ k, k < xs.length → xs[argBest (fun i j => ltS (xs[j]?.getD default) (xs[i]?.getD default)) k]? = some (mx (xs.take (k + 1)))
  | 0, h => by
    cases xs with
    | nil => simp at h
    | cons x r => simp [argBest, mx]
  | k + 1, h => by
    have ih := mx_at xs k (by omega)
    have e : mx (xs.take (k + 1 + 1)) = if ltS (mx (xs.take (k + 1))) (xs[k + 1]?.getD default) then xs[k + 1]?.getD default else mx (xs.take (k + 1)) := by
      cases xs with
      | nil => simp at h
      | cons x r =>
        have hk : k < r.length := by simpa using h
        rw [List.take_succ_cons, List.take_succ_cons]
        rw [List.take_add_one]
        simp only [mx, List.foldl_append]
        rw [List.getElem?_eq_getElem hk]
        simp [hk]
    rw [argBest]
    rw [ih]
    simp only [Option.getD_some]
    rw [e]
    split
    · rw [List.getElem?_eq_getElem h]; rfl
    · exact ih

section
variable {C : Cx} {n : Nat} {env : Env} {τ : St}
theorem ev_len_list {f : Str} {np pos : Pos} {e : Expr} {ds : List Dat} (hf : Ev C n env τ (.Name f np) (.raw (.builtin "len"))) (he : Ev C n env τ e (.dat (.list ds))) (hsz : ds.length ≤ sizeLine)
    (hs : starEach [e] env = [(false, eval e env)] := by rfl) : Ev C n env τ (.Call (.Name f np) [e] [] pos) (.dat (.int ds.length)) := by
  refine ev_b1 hf he (fun A _ S s E v _ r => ?_) hs
  cases (r : R _ _ _ _) with
  | list hl ho r =>
    have el := r.length
    rw [sizeLine_eq] at hsz
    refine call_len_list (IsL.isList ho) (by simp only [List.size_toArray]; omega) ⟨Kp.tok _ _, ?_⟩
    rw [List.size_toArray, el]
    exact R.int _ _
theorem ev_len_str {f : Str} {np pos : Pos} {e : Expr} {x : Str} (hf : Ev C n env τ (.Name f np) (.raw (.builtin "len"))) (he : Ev C n env τ e (.dat (.str x))) (hsz : x.length ≤ sizeLine)
    (hs : starEach [e] env = [(false, eval e env)] := by rfl) : Ev C n env τ (.Call (.Name f np) [e] [] pos) (.dat (.int x.length)) := by
  refine ev_b1 hf he (fun A _ S s E v _ r => ?_) hs
  cases (r : R _ _ _ _)
  rw [sizeLine_eq] at hsz
  exact PySem.P.len_str (by omega) ⟨Kp.tok _ _, R.int _ _⟩
theorem ev_abs {f : Str} {np pos : Pos} {e : Expr} {a : Int} (hf : Ev C n env τ (.Name f np) (.raw (.builtin "abs"))) (he : Ev C n env τ e (.dat (.int a)))
    (hs : starEach [e] env = [(false, eval e env)] := by rfl) : Ev C n env τ (.Call (.Name f np) [e] [] pos) (.dat (.int (if a < 0 then -a else a))) := by
  refine ev_b1 hf he (fun A _ S s E v _ r => ?_) hs
  cases (r : R _ _ _ _)
  exact call_abs_int fun u tk => ⟨Kp.tok _ _, R.int _ _⟩
theorem ev_type_str {f : Str} {np pos : Pos} {e : Expr} {x : Str} (hf : Ev C n env τ (.Name f np) (.raw (.type "type"))) (he : Ev C n env τ e (.dat (.str x)))
    (hs : starEach [e] env = [(false, eval e env)] := by rfl) : Ev C n env τ (.Call (.Name f np) [e] [] pos) (.raw (.type "str")) := by
  refine ev_t1 hf he (fun A _ S s E v _ r => ?_) hs
  cases (r : R _ _ _ _)
  exact call_type_of (typeIs_str _ _ _) (by decide +kernel) ⟨Kp.refl _, rfl⟩
theorem ev_sorted {f : Str} {np pos : Pos} {e : Expr} {xs : List Str} (hf : Ev C n env τ (.Name f np) (.raw (.builtin "sorted"))) (he : Ev C n env τ e (.dat (.list (xs.map Dat.str)))) (hsz : xs.length < 64)
    (hs : starEach [e] env = [(false, eval e env)] := by rfl) : Ev C n env τ (.Call (.Name f np) [e] [] pos) (.dat (.list ((srt xs).map Dat.str))) := by
  refine ev_b1 hf he (fun A _ S s E v hS r => ?_) hs
  cases (r : R _ _ _ _) with
  | list hl ho r =>
    have el := r.length
    have ok := r.strsOk
    refine sorted_strs (IsL.isList ho) r.strs (by rw [el]; simpa using hsz) fun out ss' h1 h2 h3 => ?_
    obtain ⟨k, hk⟩ := sortedAll_at s.heap _ out
    have e1 := srt_of h2 h3
    subst e1
    refine ⟨⟨_, s.toks, rfl, .of fun b o hb => sortedAll_old hb⟩, ?_⟩
    refine R.list (n := k) (vs := out.toList) (fun q => ?_) (by simpa [seqObj] using hk) (Rs.ofStrs h1 fun x hx => ok x ((srt_perm xs).mem_iff.mp hx))
    exact Nat.lt_irrefl _ (Nat.lt_trans (Nat.lt_succ_self _) (hS _ q))
theorem ev_max {f : Str} {np pos : Pos} {e : Expr} {xs : List Str} (hf : Ev C n env τ (.Name f np) (.raw (.builtin "max"))) (he : Ev C n env τ e (.dat (.list (xs.map Dat.str)))) (hne : 0 < xs.length) (hn : 0 < n := by decide)
    (hs : starEach [e] env = [(false, eval e env)] := by rfl) : Ev C n env τ (.Call (.Name f np) [e] [] pos) (.dat (.str (mx xs))) := by
  refine ev_b1 hf he (fun A hA S s E v hS r => ?_) hs
  cases (r : R _ _ _ _) with
  | @list l vs k _ hl ho r =>
    have el : vs.length = xs.length := by simpa using r.length
    have ok := r.strsOk
    have hlt := Heap.lt_size ho
    have at_ : ∀ {i : Nat} {v : Value}, vs.toArray[i]? = some v → ∃ t, v = .str (xs[i]?.getD default) t ∧ i < xs.length ∧ PyData.strOk (xs[i]?.getD default) = true := by
      intro i v hv
      obtain ⟨d, hd, rd⟩ := r.get' (by simpa using hv)
      rw [List.getElem?_map] at hd
      cases q : xs[i]? with
      | none => rw [q] at hd; cases hd
      | some x =>
        rw [q] at hd
        cases hd
        cases rd with
        | str _ t hx => exact ⟨t, rfl, (List.getElem?_eq_some_iff.mp q).1, hx⟩
    refine call_max_walk (wpAny_pyIter_list (IsL.isList ho) ⟨s.heap.objs.size, [s.heap.objs.size, l], [s.heap.objs.size], vs.toArray.size, fun i v => vs.toArray[i]? = some v, fun i h => h.IsListIter s.heap.objs.size l i ∧ h.IsList l vs.toArray,
      fun i j => ltS (xs[j]?.getD default) (xs[i]?.getD default), rfl, Walks.list (A := A.in1) (hA.hh hn) _ _ (Nat.ne_of_lt hlt) _, ⟨⟨_, Heap.get?_push_size _ rfl, rfl, rfl⟩, (IsL.isList ho).push _⟩, ?_, by simpa [el] using hne, ?_, ?_⟩)
    · intro b hb
      rw [Heap.size_push]
      rcases List.mem_cons.mp hb with rfl | hb
      · exact Nat.lt_succ_self _
      · rw [List.mem_singleton.mp hb]; exact Nat.lt_succ_of_lt hlt
    · intro i j vi vj s' Q E' hi hj hq
      obtain ⟨t, rfl, _⟩ := at_ hi
      obtain ⟨u, rfl, _⟩ := at_ hj
      exact PySem.P.gt_str (show Q (.bool _) s' from hq)
    · intro v h' tk hv hk
      have hv' := at_ hv
      obtain ⟨t, rfl, hi, hok⟩ := hv'
      have em := mx_at xs (vs.toArray.size - 1) (by simp only [List.size_toArray, el]; omega)
      have e2 : xs.take (vs.toArray.size - 1 + 1) = xs := by
        rw [List.take_of_length_le]; simp only [List.size_toArray, el]; omega
      rw [e2] at em
      refine ⟨⟨h', tk, rfl, .of fun b o hb => ?_⟩, ?_⟩
      · exact hk b o (fun q => by
          rw [List.mem_singleton.mp q, get_new] at hb; cases hb) (Heap.get?_push_of_some _ hb)
      · rw [em] at hok ⊢
        exact R.str _ _ hok
end
end Mine
end -- W13

section -- W14
open PySem PySem.W PyProof.Rows PySem.Calls PySem.Spec
set_option maxRecDepth 100000
namespace Mine
section
variable {C : Cx} {n : Nat} {env : Env} {τ : St}

/-! ## issubclass(kind, (str, bytes)) -/
theorem ts_issub {f : Str} {np pos tpos : Pos} {e e1 e2 : Expr} {k : Nat} (hf : Ev C n env τ (.Name f np) (.raw (.builtin "issubclass"))) (he : Ev C n env τ e (.raw (.type "str"))) (h1 : Ev C n env τ e1 (.raw (.type "str"))) (h2 : Ev C n env τ e2 (.raw (.type "bytes")))
    (hs : starEach [e, .Tuple [e1, e2] k tpos] env = [(false, eval e env), (false, eval (.Tuple [e1, e2] k tpos) env)] := by rfl) (hs2 : starEach [e1, e2] env = [(false, eval e1 env), (false, eval e2 env)] := by rfl) :
    Ev C n env τ (.Call (.Name f np) [e, .Tuple [e1, e2] k tpos] [] pos) (.dat (.bool true)) := by
  intro A hA s₀ s E F
  refine wpAny_Call_NameR (wpK (hf A hA s₀ s E F) fun g s₁ h₁ => ?_)
  obtain ⟨k₁, rfl⟩ := h₁
  have F₁ := F.keeps k₁
  rw [hs]
  refine callWith_builtin rfl (evalArgs_plain (spliced_cons (wpK (he A hA s₀ s₁ E F₁) fun v s₂ ⟨k₂, r₂⟩ => spliced_cons ?_)))
  cases (r₂ : v = _)
  have F₂ := F₁.keeps k₂
  show wpAny (M C) A (eval (.Tuple [e1, e2] k tpos) env) _ E s₂
  refine Tuple_ ?_
  rw [hs2]
  show wpAny (M C) A (spliced [(false, eval e1 env), (false, eval e2 env)]) _ E s₂
  refine spliced_cons (wpK (h1 A hA s₀ s₂ E F₂) fun v s₃ ⟨k₃, r₃⟩ => spliced_cons (wpK (h2 A hA s₀ s₃ E (F₂.keeps k₃)) fun w s₄ ⟨k₄, r₄⟩ => spliced_nil ?_))
  cases (r₃ : v = _)
  cases (r₄ : w = _)
  refine wpAny_newTuple (spliced_nil ?_) (by decide)
  refine call_issubclass issub_all ⟨Heap.get?_push_size _ rfl, fun tk => ⟨((((k₁.trans k₂).trans k₃).trans k₄).trans (Kp.push _ _)).trans (Kp.tok _ _), R.bool _⟩⟩

/-! ## assignment to several names -/
theorem Rs.rev {h : Heap} {S : List Addr} : ∀ {vs : List Value} {ds : List Dat}, Rs h S vs ds → Rs h S vs.reverse ds.reverse
  | _, _, .nil => .nil
  | _, _, .cons a r => by rw [List.reverse_cons, List.reverse_cons]; exact r.rev.append (.one a)
def St.sets (τ : St) : List Str → List Dat → St
  | x :: xs, d :: ds => (τ.set x (.dat d)).sets xs ds
  | _, _ => τ
theorem sets_ex : ∀ (xs : List Str) (ds : List Dat) (τ : St), (τ.sets xs ds).ex = τ.ex
  | [], _, _ => rfl
  | _ :: _, [], _ => rfl
  | x :: xs, d :: ds, τ => sets_ex xs ds (τ.set x (.dat d))
theorem inOrder {A : Around} {E : Value → Shared → Prop} {Q : Unit → Shared → Prop} {s₀ : Shared} (g : Str × Pos → Value → Sem Unit) (hg : ∀ x v s Q', wpAny (M C) A (storeName env x.1 v) Q' E s → wpAny (M C) A (g x v) Q' E s) : ∀ {xs : List (Str × Pos)} {ds : List Dat} {vs : List Value} {τ : St} {s : Shared}, Fm C s₀ env τ s → Rs s.heap τ.S vs ds → xs.length = ds.length → (∀ x ∈ xs, env.kindOf x.1 = some .local) →
    (∀ s', Fm C s₀ env (τ.sets (xs.map (·.1)) ds) s' → Q () s') → wpAny (M C) A (assignInOrder (xs.map g) vs) Q E s := by
  intro xs
  induction xs with
  | nil =>
    intro ds vs τ s F r hl hk h
    cases r with
    | nil => exact wpAny_assignInOrder_none (h s F)
    | cons a r => cases hl
  | cons x xs ih =>
    intro ds vs τ s F r hl hk h
    cases r with
    | nil => cases hl
    | @cons v vs d ds rv r =>
      show wpAny (M C) A (assignInOrder (g x :: xs.map g) (v :: vs)) Q E s
      refine wpAny_assignInOrder_more (hg x v s _ ?_)
      refine F.store (e := .dat d) rv (hk x (.head _)) fun s' F' _ sk => ?_
      exact ih F' (r.mono sk fun _ q => .inl q) (by simpa using hl) (fun y hy => hk y (.tail _ hy)) h
theorem assignEach_names (env : Env) : ∀ xs : List (Str × Pos), assignEach (xs.map fun x => .Name x.1 x.2) env = xs.map fun x => (false, assign (.Name x.1 x.2) env)
  | [] => rfl
  | x :: xs => by
    show (false, assign (.Name x.1 x.2) env) :: assignEach (xs.map fun x => .Name x.1 x.2) env = _
    rw [assignEach_names env xs]; rfl
theorem kp_ext {C : Cx} {s : Shared} {h' : Heap} (h : Heap.ExtBut s.heap.objs.size s.heap h') : Kp C s { s with heap := h' } := ⟨h', s.toks, rfl, .of fun b o hb => h b o (fun q => by rw [q, get_new] at hb; cases hb) hb⟩
def pairOf : Expr → Str × Pos
  | .Name x p => (x, p)
  | _ => (default, default)
theorem ex_unpack {elts : List Expr} {e : Expr} {k : Nat} {tpos pos : Pos} {ds : List Dat} {P : Fl → St → Prop} (names : List Str) (he : Ev C n env τ e (.dat (.tuple ds))) (h : P .next (τ.sets names ds)) (hl' : names.length = ds.length := by rfl) (hel : elts = (elts.map pairOf).map (fun x => .Name x.1 x.2) := by rfl) (hnm : (elts.map pairOf).map (·.1) = names := by rfl)
    (hk' : (names.all fun x => env.kindOf x == some .local) = true := by rfl) (hn : 0 < n := by decide)
    (hs : swapsWithSole [.Tuple elts k tpos] e pos.line env = pure false := by rfl) (hw : swappedStores [.Tuple elts k tpos] e env = pure none := by rfl) : Ex1 C n env τ (.Assign [.Tuple elts k tpos] e pos) P := by
  intro A hA s₀ s E F
  generalize elts.map pairOf = xs at hel hnm
  subst hel hnm
  have hl : xs.length = ds.length := by simpa using hl'
  have hk : ∀ x ∈ xs, env.kindOf x.1 = some .local := fun x hx => by simpa using List.all_eq_true.mp hk' x.1 (List.mem_map_of_mem hx)
  refine Assign_Tuple (wpK (he A hA s₀ s E F) fun v s₁ ⟨k₁, r₁⟩ => ?_) hs hw
  have F₁ := F.keeps k₁
  cases (r₁ : R _ _ _ _) with
  | @tuple a vs j _ ha ho r =>
    have ea := assignEach_names env xs
    have el := r.length
    refine wpAny_assign_Tuple (hA.hh hn) (items := vs.toArray) ⟨_, ho, rfl, _, rfl⟩ (by rw [ea]; simp [el, hl]) (by rw [ea]; clear ea hl hl' hk hk' h hs hw; induction xs with | nil => rfl | cons x xs ih => simp [List.findIdx?_cons, ih]) fun h' hx => ?_
    rw [ea, List.map_map]
    have k₂ := kp_ext (C := C) hx
    exact inOrder (fun x v => assign (.Name x.1 x.2) env v) (fun x v s Q' h => wpAny_assign_Name h) (F₁.keeps k₂) (Rs.up r k₂.up) hl hk fun s' F' => ⟨.next, _, h, rfl, sets_ex _ _ _, F'⟩
theorem ex_unpack_swapped {elts : List Expr} {e : Expr} {k : Nat} {tpos pos : Pos} {ds : List Dat} {P : Fl → St → Prop} (xs : List Str) (he : Ev C n env τ e (.dat (.tuple ds))) (h : P .next (τ.sets xs.reverse ds.reverse)) (hl : xs.length = ds.length := by rfl)
    (hk' : (xs.all fun x => env.kindOf x == some .local) = true := by rfl) (hn : 0 < n := by decide)
    (hs : swapsWithSole [.Tuple elts k tpos] e pos.line env = pure false := by rfl) (hw : swappedStores [.Tuple elts k tpos] e env = pure (some xs) := by rfl) : Ex1 C n env τ (.Assign [.Tuple elts k tpos] e pos) P := by
  intro A hA s₀ s E F
  have hk : ∀ x ∈ xs, env.kindOf x = some .local := fun x hx => by simpa using List.all_eq_true.mp hk' x hx
  refine Assign_Tuple_swapped (wpK (he A hA s₀ s E F) fun v s₁ ⟨k₁, r₁⟩ => ?_) hs hw
  have F₁ := F.keeps k₁
  cases (r₁ : R _ _ _ _) with
  | @tuple a vs j _ ha ho r =>
    have el := r.length
    have e1 : xs.length = vs.toArray.size := by simp [el, hl]
    rw [e1]
    refine wpAny_unpackItems_tuple (hA.hh hn) (items := vs.toArray) ⟨_, ho, rfl, _, rfl⟩ fun h' hx => ?_
    have k₂ := kp_ext (C := C) hx
    have := inOrder (C := C) (A := A) (E := E) (env := env) (s₀ := s₀) (Q := fun _ => End C s₀ env τ P .next) (fun (x : Str × Pos) v => bindName env x.1 v) (fun x v s Q' h => wpAny_bindName h) (xs := xs.reverse.map fun x => (x, default)) (F₁.keeps k₂) (Rs.up (Rs.rev r) k₂.up) (by simp [hl]) (fun x hx => by
      simp only [List.mem_map, List.mem_reverse] at hx
      obtain ⟨y, hy, rfl⟩ := hx
      exact hk y hy) fun s' F' => ⟨.next, _, h, rfl, sets_ex _ _ _, by simpa [List.map_map, Function.comp_def] using F'⟩
    rw [List.map_map] at this
    exact this
/-- x = y = e -/
theorem ex_two {x y : Str} {px py pos : Pos} {e : Expr} {d : Dat} {P : Fl → St → Prop} (he : Ev C n env τ e (.dat d)) (h : P .next ((τ.set x (.dat d)).set y (.dat d))) (hx : env.kindOf x = some .local := by rfl) (hy : env.kindOf y = some .local := by rfl) : Ex1 C n env τ (.Assign [.Name x px, .Name y py] e pos) P := by
  intro A hA s₀ s E F
  refine wpAny_Assign_two (wpK (he A hA s₀ s E F) fun v s₁ ⟨k₁, r₁⟩ => ?_)
  refine wpAny_assign_Name ((F.keeps k₁).store (e := .dat d) r₁ hx fun s' F' _ sk => wpAny_assign_Name (F'.store (e := .dat d) ?_ hy fun s'' F'' _ _ => ⟨.next, _, h, rfl, rfl, F''⟩))
  exact R.mono sk (fun _ q => .inl q) r₁
end
end Mine
end -- W14

section -- W15
open PySem PySem.W PyProof.Rows PySem.Calls PySem.Spec
set_option maxRecDepth 100000
namespace Mine
section
variable {C : Cx} (hK : C.K = hd.heap_39 C.w.params)
include hK
theorem fn_fspath {x : Str} : Fn C 0 111 [.str x] (.str x) := by
  refine fn_of (names := ["path"]) (o_fspath hK) (d_fspath _) (b_fspath _) (c_fspath hK) rfl rfl rfl (fun vs hv => ?_) rfl (fun L X => ?_) rfl rfl rfl
  · match vs, hv with
    | [a], _ => exact h_fspath _ a
  · refine ex_cons (ex_assign (ev_type_str (ev_boot (g_type hK) v_type) (ev_local rfl)) ?_)
    refine ex_cons (ex_if (c := true) (ts_val (ts_issub (ev_boot (g_issubclass hK) v_issubclass) (ev_local rfl) (ev_boot (g_str hK) v_str) (ev_boot (g_bytes hK) v_bytes)) tr_bool) ?_ ?_)
    · exact fun _ => ex_cons (ex_ret (ev_local rfl) rfl)
    · exact fun q => nomatch q
theorem fn_getsep {x : Str} : Fn C 0 125 [.str x] (.str "/") := by
  refine fn_of (names := ["path"]) (o_get_sep hK) (d_get_sep _) (b_get_sep _) (c_get_sep hK) rfl rfl rfl (fun vs hv => ?_) rfl (fun L X => ?_) rfl rfl rfl
  · match vs, hv with
    | [a], _ => exact h_get_sep _ a
  · refine ex_cons (ex_if (c := false) (ts_val (ev_isbytes (ev_boot (g_isinstance hK) v_isinstance) (ev_local rfl) (ev_boot (g_bytes hK) v_bytes)) tr_bool) ?_ ?_)
    · exact fun q => nomatch q
    · exact fun _ => ex_cons (ex_ret ev_str rfl)
theorem fn_basename {x : Str} (hx : x.length ≤ 1000) (ok : PyData.strOk x = true) : Fn C 1 153 [.str x] (.str (cut x (some (Txt.rfind x "/" + 1)) none)) := by
  refine fn_of (names := ["p"]) (o_basename hK) (d_basename _) (b_basename _) (c_basename hK) rfl rfl rfl (fun vs hv => ?_) rfl (fun L X => ?_) rfl rfl rfl
  · match vs, hv with
    | [a], _ => exact h_basename _ a
  · refine ex_cons (ex_assign (ev_call (ev_glob (g_fspath hK)) (o_fspath hK) (d_fspath _) (es_cons (ev_local rfl) es_nil) (fn_fspath hK)) ?_)
    refine ex_cons (ex_assign (ev_call (ev_glob (g_get_sep hK)) (o_get_sep hK) (d_get_sep _) (es_cons (ev_local rfl) es_nil) (fn_getsep hK)) ?_)
    refine ex_cons (ex_assign (ev_bin (ev_rfind (ev_local rfl) (ev_local rfl)) ev_int op_add_int) ?_)
    refine ex_cons (ex_ret (ev_slice_str (ev_local rfl) (pt_some (ev_local rfl)) pt_none (by rw [sizeLine_eq]; omega)) rfl)
end
end Mine
end -- W15

section -- W16
open PySem PySem.W PyProof.Rows PySem.Calls PySem.Spec
set_option maxRecDepth 100000
namespace Mine
section
variable {C : Cx} {n : Nat} {env : Env} {τ τ' : St}

/-! ## states that know more -/
structure Ext (τ τ' : St) : Prop where
  σ : ∀ x e, τ.σ x = some e → τ'.σ x = some e
  c : ∀ x e, τ.cσ x = some e → τ'.cσ x = some e
  l : τ'.led = τ.led
  f : τ'.fn = τ.fn
  x : τ'.ex = τ.ex
theorem Ext.refl (τ : St) : Ext τ τ := ⟨fun _ _ h => h, fun _ _ h => h, rfl, rfl, rfl⟩
theorem Ext.trans {a b c : St} (h : Ext a b) (k : Ext b c) : Ext a c := ⟨fun x e q => k.σ x e (h.σ x e q), fun x e q => k.c x e (h.c x e q), k.l.trans h.l, k.f.trans h.f, k.x.trans h.x⟩
theorem Ext.set (h : Ext τ τ') (x : Str) (e : Ent) : Ext (τ.set x e) (τ'.set x e) := by
  refine ⟨fun y f q => ?_, h.c, h.l, h.f, h.x⟩
  simp only [St.set] at q ⊢
  split at q
  · rename_i hy; rw [if_pos hy]; exact q
  · rename_i hy; rw [if_neg hy]; exact h.σ _ _ q
theorem Ext.new {x : Str} {e : Ent} (h : τ.σ x = none) : Ext τ (τ.set x e) := by
  refine ⟨fun y f q => ?_, fun _ _ q => q, rfl, rfl, rfl⟩
  simp only [St.set]
  split
  · rename_i hy; rw [hy, h] at q; cases q
  · exact q
/-- over a name set before -/
theorem Ext.over {x : Str} {e e' : Ent} : Ext (τ.set x e) ((τ.set x e').set x e) := by
  refine ⟨fun y f q => ?_, fun _ _ q => q, rfl, rfl, rfl⟩
  simp only [St.set] at q ⊢
  by_cases hy : y = x
  · rw [if_pos hy] at q ⊢; exact q
  · rw [if_neg hy] at q; rw [if_neg hy, if_neg hy]; exact q
theorem Ext.swap {x y : Str} {e f : Ent} (h : x ≠ y) : Ext ((τ.set x e).set y f) ((τ.set y f).set x e) := by
  refine ⟨fun z g q => ?_, fun _ _ q => q, rfl, rfl, rfl⟩
  simp only [St.set] at q ⊢
  by_cases hx : z = x
  · rw [if_pos hx]; rw [if_neg (by rw [hx]; exact h), if_pos hx] at q; exact q
  · rw [if_neg hx]; split
    · rename_i hy; rw [if_pos hy] at q; exact q
    · rename_i hy; rw [if_neg hy, if_neg hx] at q; exact q
theorem Fm.weak {s₀ s : Shared} (h : Ext τ τ') (F : Fm C s₀ env τ' s) : Fm C s₀ env τ s := by
  have eS : τ'.S = τ.S := by unfold St.S; rw [h.l, h.x]
  obtain ⟨m, hn, hm⟩ := F.ns
  exact ⟨F.same, F.gd, F.keep, F.lv, F.above, F.hk, F.hg, F.hb, by rw [← h.x]; exact F.hex, ⟨m, hn, fun x e q => by rw [← eS]; exact hm x e (h.σ x e q)⟩, by rw [← h.f]; exact F.apart, by rw [← h.f]; exact F.cabove, F.cell,
    fun x d q => by rw [← eS]; exact F.cval x d (h.c x d q), by rw [← h.l, ← eS]; exact F.own, by rw [← h.l]; exact F.nd⟩
theorem ex_weak {st : List Stmt} {P : Fl → St → Prop} (h : Ext τ τ') (k : Ex C n env τ st P) : Ex C n env τ' st P := fun A hA s₀ s E F => by
  refine wpK (k A hA s₀ s E (F.weak h)) fun _ _ ⟨l, t, hp, hf, hx, F'⟩ => ⟨l, t, hp, by rw [h.x]; exact hf, by rw [h.x]; exact hx, F'⟩
theorem ex1_weak {st : Stmt} {P : Fl → St → Prop} (h : Ext τ τ') (k : Ex1 C n env τ st P) : Ex1 C n env τ' st P := fun A hA s₀ s E F => by
  refine wpK (k A hA s₀ s E (F.weak h)) fun _ _ ⟨l, t, hp, hf, hx, F'⟩ => ⟨l, t, hp, by rw [h.x]; exact hf, by rw [h.x]; exact hx, F'⟩
theorem ts_weak {e : Expr} {b : Bool} (h : Ext τ τ') (k : Ts C n env τ e b) : Ts C n env τ' e b := fun A hA s₀ s E F => k A hA s₀ s E (F.weak h)

theorem ex_for2 {x : Str} {px pos : Pos} {iter : Expr} {body : List Stmt} {ds : List Dat} {P : Fl → St → Prop} (T : Nat → St) (hi : Itr C n env τ iter ds) (h0 : Ext (T 0) τ)
    (turn : ∀ i d, ds[i]? = some d → Ex C n env ((T i).set x (.dat d)) body (fun l τ'' => match l with
      | .next | .cont => Ext (T (i + 1)) τ''
      | .brk => P .next τ''
      | .ret r => P (.ret r) τ''))
    (done : ∀ τ', Ext (T ds.length) τ' → P .next τ') (hl : env.kindOf x = some .local := by rfl) (hs : ∀ x, foldedSetIterable iter env x = pure x := by intro _; rfl) : Ex1 C n env τ (.For (.Name x px) iter body [] pos) P :=
  ex_for (fun i τ' => Ext (T i) τ') hi h0 (fun i d τ' hd hJ => ex_weak (hJ.set x _) (turn i d hd)) done hl hs
/-- the loop's state is T k after k turns; it ends after m -/
theorem ex_while2 {test : Expr} {body : List Stmt} {pos : Pos} {P : Fl → St → Prop} (T : Nat → St) (m : Nat) (h0 : Ext (T 0) τ)
    (turn : ∀ k, k ≤ m → Ts C n env (T k) test (decide (k < m)) ∧ (k < m → Ex C n env (T k) body (fun l τ'' => match l with
      | .next | .cont => Ext (T (k + 1)) τ''
      | .brk => P .next τ''
      | .ret r => P (.ret r) τ'')))
    (done : ∀ τ', Ext (T m) τ' → P .next τ') : Ex1 C n env τ (.While test body [] pos) P := by
  refine ex_while (fun j τ' => ∃ k, k ≤ m ∧ j = m - k ∧ Ext (T k) τ') m ⟨0, Nat.zero_le _, rfl, h0⟩ fun j τ' ⟨k, hk, hj, hT⟩ => ⟨decide (k < m), ts_weak hT (turn k hk).1, fun hb => ?_, fun hb => ?_⟩
  · have hlt : k < m := of_decide_eq_true hb
    refine ex_weak hT (Ex.mono ((turn k hk).2 hlt) fun l τ'' h => ?_)
    cases l with
    | next => exact ⟨m - (k + 1), by omega, k + 1, hlt, rfl, h⟩
    | cont => exact ⟨m - (k + 1), by omega, k + 1, hlt, rfl, h⟩
    | brk => exact h
    | ret r => exact h
  · have : ¬ k < m := of_decide_eq_false hb
    have e : k = m := by omega
    subst e
    exact done τ' hT
end
theorem cut_length (x : Str) (lo hi : Option Int) : (cut x lo hi).length ≤ x.length := by
  have := sl_length x.cps.toList lo hi
  simpa [cut, Str.length] using this

/-! ## what the text computes, plainly -/
def baseF (x : Str) : Str := cut x (some (Txt.rfind x "/" + 1)) none
def headF (x : Str) : Str := cut x none (some (Txt.rfind x "/" + 1))
def dirF (x : Str) : Str := if ((headF x).length != 0 && ((headF x != Txt.mul "/" ((headF x).length : Int)) && true)) = true then Txt.rstripChars (headF x) "/" else headF x
def rootF (x : Str) : Str × Str :=
  if (cut x none (some 1) != "/") = true then ("", x)
  else if ((cut x (some 1) (some 2) != "/") || ((cut x (some 2) (some 3) == "/") || false)) = true then ("/", cut x (some 1) none)
  else (cut x none (some 2), cut x (some 2) none)
def compF (init : Str) (acc : List Str) (c : Str) : List Str :=
  if ((!(c.length != 0)) || ((c == ".") || false)) = true then acc
  else if ((c != "..") || (((!(init.length != 0)) && ((!(!acc.isEmpty)) && true)) || (((!acc.isEmpty) && ((acc.getLast?.getD "" == "..") && true)) || false))) = true then acc ++ [c]
  else if (!acc.isEmpty) = true then acc.dropLast else acc
def normF (x : Str) : Str :=
  if (!(x.length != 0)) = true then "."
  else
    let y := (rootF x).1 ++ Txt.join "/" ((Txt.split (rootF x).2 "/").foldl (compF (rootF x).1) [])
    if (y.length != 0) = true then y else "."
def joinF (a b : Str) : Str := if (Txt.startswith b "/" || ((!(a.length != 0)) || false)) = true then b else if (Txt.endswith a "/") = true then a ++ b else a ++ ("/" ++ b)
end Mine
end -- W16

section -- W17
open PySem PySem.W PyProof.Rows PySem.Calls PySem.Spec
set_option maxRecDepth 100000
namespace Mine
theorem szl {k : Nat} (h : k ≤ 1000) : k ≤ sizeLine := by rw [sizeLine_eq]; omega
def headOk (x : Str) : Bool := decide (x.length ≤ 1000) && (PyData.strOk x && PyData.strOk (dirF x))
theorem headOk.len {x : Str} (h : headOk x = true) : x.length ≤ 1000 := by simp only [headOk, Bool.and_eq_true, decide_eq_true_eq] at h; exact h.1
theorem headOk.dir {x : Str} (h : headOk x = true) : PyData.strOk (dirF x) = true := by simp only [headOk, Bool.and_eq_true, decide_eq_true_eq] at h; exact h.2.2
section
variable {C : Cx} (hK : C.K = hd.heap_39 C.w.params)
include hK
theorem fn_dirname {x : Str} (hx : headOk x = true) : Fn C 1 160 [.str x] (.str (dirF x)) := by
  have h1 := headOk.len hx
  have h2 := cut_length x none (some (Txt.rfind x "/" + 1))
  refine fn_of (names := ["p"]) (o_dirname hK) (d_dirname _) (b_dirname _) (c_dirname hK) rfl rfl rfl (fun vs hv => ?_) rfl (fun L X => ?_) rfl rfl rfl
  · match vs, hv with
    | [a], _ => exact h_dirname _ a
  · refine ex_cons (ex_assign (ev_call (ev_glob (g_fspath hK)) (o_fspath hK) (d_fspath _) (es_cons (ev_local rfl) es_nil) (fn_fspath hK)) ?_)
    refine ex_cons (ex_assign (ev_call (ev_glob (g_get_sep hK)) (o_get_sep hK) (d_get_sep _) (es_cons (ev_local rfl) es_nil) (fn_getsep hK)) ?_)
    refine ex_cons (ex_assign (ev_bin (ev_rfind (ev_local rfl) (ev_local rfl)) ev_int op_add_int) ?_)
    refine ex_cons (ex_assign (ev_slice_str (ev_local rfl) pt_none (pt_some (ev_local rfl)) (szl h1)) ?_)
    refine ex_cons (ex_if (ts_bool (bs_and (ts_val (ev_local rfl) (tr_str (szl (Nat.le_trans h2 h1)))) fun _ => bs_and (ts_cmp (ev_local rfl) (ev_bin (ev_local rfl) (ev_len_str (ev_boot (g_len hK) v_len) (ev_local rfl) (szl (Nat.le_trans h2 h1))) (op_mul_str 1 1000 (by decide) (by omega) (by omega) (by decide) (by decide))) op_ne_str) fun _ => bs_nil)) ?_ ?_)
    · intro hc
      have e : dirF x = Txt.rstripChars (headF x) "/" := if_pos hc
      refine ex_cons (ex_assign (ev_rstrip (ev_local rfl) (ev_local rfl) (szl (Nat.le_trans h2 h1)) (by have := headOk.dir hx; rw [e] at this; exact this)) ?_)
      exact ex_nil (ex_cons (ex_ret (ev_local rfl) (by rw [e]; rfl)))
    · intro hc
      have e : dirF x = headF x := if_neg (ne_true_of_eq_false hc)
      exact ex_nil (ex_cons (ex_ret (ev_local rfl) (by rw [e]; rfl)))
theorem fn_split {x : Str} (hx : headOk x = true) : Fn C 1 139 [.str x] (.tuple [.str (dirF x), .str (baseF x)]) := by
  have h1 := headOk.len hx
  have h2 := cut_length x none (some (Txt.rfind x "/" + 1))
  refine fn_of (names := ["p"]) (o_split hK) (d_split _) (b_split _) (c_split hK) rfl rfl rfl (fun vs hv => ?_) rfl (fun L X => ?_) rfl rfl rfl
  · match vs, hv with
    | [a], _ => exact h_split _ a
  · refine ex_cons (ex_assign (ev_call (ev_glob (g_fspath hK)) (o_fspath hK) (d_fspath _) (es_cons (ev_local rfl) es_nil) (fn_fspath hK)) ?_)
    refine ex_cons (ex_assign (ev_call (ev_glob (g_get_sep hK)) (o_get_sep hK) (d_get_sep _) (es_cons (ev_local rfl) es_nil) (fn_getsep hK)) ?_)
    refine ex_cons (ex_assign (ev_bin (ev_rfind (ev_local rfl) (ev_local rfl)) ev_int op_add_int) ?_)
    refine ex_cons (ex_unpack_swapped ["head", "tail"] (ev_tuple (es_cons (ev_slice_str (ev_local rfl) pt_none (pt_some (ev_local rfl)) (szl h1)) (es_cons (ev_slice_str (ev_local rfl) (pt_some (ev_local rfl)) pt_none (szl h1)) es_nil)) (szl (Nat.le_of_ble_eq_true rfl))) ?_)
    refine ex_cons (ex_if (ts_bool (bs_and (ts_val (ev_local rfl) (tr_str (szl (Nat.le_trans h2 h1)))) fun _ => bs_and (ts_cmp (ev_local rfl) (ev_bin (ev_local rfl) (ev_len_str (ev_boot (g_len hK) v_len) (ev_local rfl) (szl (Nat.le_trans h2 h1))) (op_mul_str 1 1000 (by decide) (by omega) (by omega) (by decide) (by decide))) op_ne_str) fun _ => bs_nil)) ?_ ?_)
    · intro hc
      have e : dirF x = Txt.rstripChars (headF x) "/" := if_pos hc
      refine ex_cons (ex_assign (ev_rstrip (ev_local rfl) (ev_local rfl) (szl (Nat.le_trans h2 h1)) (by have := headOk.dir hx; rw [e] at this; exact this)) ?_)
      exact ex_nil (ex_cons (ex_ret (ev_tuple (es_cons (ev_local rfl) (es_cons (ev_local rfl) es_nil)) (szl (Nat.le_of_ble_eq_true rfl))) (by rw [e]; rfl)))
    · intro hc
      have e : dirF x = headF x := if_neg (ne_true_of_eq_false hc)
      exact ex_nil (ex_cons (ex_ret (ev_tuple (es_cons (ev_local rfl) (es_cons (ev_local rfl) es_nil)) (szl (Nat.le_of_ble_eq_true rfl))) (by rw [e]; rfl)))
theorem fn_splitroot {x : Str} (h1 : x.length ≤ 1000) : Fn C 1 146 [.str x] (.tuple [.str "", .str (rootF x).1, .str (rootF x).2]) := by
  refine fn_of (names := ["p"]) (o_splitroot hK) (d_splitroot _) (b_splitroot _) (c_splitroot hK) rfl rfl rfl (fun vs hv => ?_) rfl (fun L X => ?_) rfl rfl rfl
  · match vs, hv with
    | [a], _ => exact h_splitroot _ a
  · refine ex_cons (ex_assign (ev_call (ev_glob (g_fspath hK)) (o_fspath hK) (d_fspath _) (es_cons (ev_local rfl) es_nil) (fn_fspath hK)) ?_)
    refine ex_cons (ex_if (c := false) (ts_val (ev_isbytes (ev_boot (g_isinstance hK) v_isinstance) (ev_local rfl) (ev_boot (g_bytes hK) v_bytes)) tr_bool) (fun q => nomatch q) fun _ => ?_)
    refine ex_cons (ex_assign ev_str (ex_cons (ex_assign ev_str (ex_nil ?_))))
    refine ex_cons (ex_if (ts_cmp (ev_slice_str (ev_local rfl) pt_none (pt_some ev_int) (szl h1)) (ev_local rfl) op_ne_str) (fun hc => ?_) fun hc => ?_)
    · have e : rootF x = (("" : Str), x) := if_pos hc
      exact ex_cons (ex_ret (ev_tuple (es_cons (ev_local rfl) (es_cons (ev_local rfl) (es_cons (ev_local rfl) es_nil))) (szl (Nat.le_of_ble_eq_true rfl))) (by rw [e]; rfl))
    · refine ex_cons (ex_if (ts_bool (bs_or (ts_cmp (ev_slice_str (ev_local rfl) (pt_some ev_int) (pt_some ev_int) (szl h1)) (ev_local rfl) op_ne_str) fun _ => bs_or (ts_cmp (ev_slice_str (ev_local rfl) (pt_some ev_int) (pt_some ev_int) (szl h1)) (ev_local rfl) op_eq_str) fun _ => bs_nil)) (fun hd => ?_) fun hd => ?_)
      · have e : rootF x = (("/" : Str), cut x (some 1) none) := (if_neg (ne_true_of_eq_false hc)).trans (if_pos hd)
        exact ex_cons (ex_ret (ev_tuple (es_cons (ev_local rfl) (es_cons (ev_local rfl) (es_cons (ev_slice_str (ev_local rfl) (pt_some ev_int) pt_none (szl h1)) es_nil))) (szl (Nat.le_of_ble_eq_true rfl))) (by rw [e]; rfl))
      · have e : rootF x = (cut x none (some 2), cut x (some 2) none) := (if_neg (ne_true_of_eq_false hc)).trans (if_neg (ne_true_of_eq_false hd))
        exact ex_cons (ex_ret (ev_tuple (es_cons (ev_local rfl) (es_cons (ev_slice_str (ev_local rfl) pt_none (pt_some ev_int) (szl h1)) (es_cons (ev_slice_str (ev_local rfl) (pt_some ev_int) pt_none (szl h1)) es_nil))) (szl (Nat.le_of_ble_eq_true rfl))) (by rw [e]; rfl))
end
end Mine
end -- W17

section -- W18
open PySem PySem.W PyProof.Rows PySem.Calls PySem.Spec
set_option maxRecDepth 100000
set_option maxHeartbeats 4000000
namespace Mine
section
variable {C : Cx} {n : Nat} {env : Env} {τ : St}
theorem ev_neg {i : Int} {k : Nat} {pos pos' : Pos} : Ev C n env τ (.UnaryOp .USub (.Constant (.int i) k pos) pos') (.dat (.int (-i))) := fun _ _ _ _ _ _ => lit_neg (fun v s' => Kp C _ s' ∧ EntAt _ s'.heap v (.dat (.int (-i)))) fun v tk hv => by
  have := hv {}
  exact ⟨Kp.tok _ _, by cases this; exact R.int _ _⟩
theorem ev_or_str {a b : Expr} {pos : Pos} {x y : Str} (ha : Ev C n env τ a (.dat (.str x))) (hx : x.length ≤ sizeLine) (hb : (x.length != 0) = false → Ev C n env τ b (.dat (.str y))) : Ev C n env τ (.BoolOp .Or [a, b] pos) (.dat (.str (if (x.length != 0) = true then x else y))) := by
  have := ev_or (pos := pos) ha (tr_str hx) hb
  cases h : (x.length != 0) with
  | true => rw [h] at this; simpa using this
  | false => rw [h] at this; simpa using this
end
theorem at_last {α : Type} {xs : List α} {d : α} (h : xs.getLast? = some d) (hs : xs.length ≤ 1000) : at? xs (-1) = some d := by
  have hne : xs ≠ [] := fun q => by rw [q] at h; cases h
  have hp := List.length_pos_iff.mpr hne
  unfold at? seqIndex?
  rw [List.getLast?_eq_getElem?] at h
  have e : (-1 + (xs.length : Int)).toNat = xs.length - 1 := by omega
  simp only [show ((-1 : Int) < 0) = True by simp, if_true]
  rw [if_pos (by simp only [Bool.and_eq_true, decide_eq_true_eq]; omega)]
  simp only [Option.bind_some]
  rw [e]; exact h
theorem compF_len (init : Str) (acc : List Str) (c : Str) : (compF init acc c).length ≤ acc.length + 1 := by
  unfold compF
  split
  · omega
  · split
    · simp
    · split
      · rw [List.length_dropLast]; omega
      · omega
theorem fold_len (init : Str) : ∀ (l : List Str) (acc : List Str), (l.foldl (compF init) acc).length ≤ acc.length + l.length
  | [], acc => by simp
  | c :: l, acc => by
    have h1 := fold_len init l (compF init acc c)
    have h2 := compF_len init acc c
    rw [List.foldl_cons, List.length_cons]; omega
def normOk (x : Str) : Bool :=
  let y := (rootF x).2
  let parts := Txt.split y "/"
  let new := parts.foldl (compF (rootF x).1) []
  decide (x.length ≤ 1000) && (decide (y.length ≤ 1000) && (decide ((Builtin.Str.partsBetween y (Builtin.Str.occurrences y "/" 0 y.length (y.length + 1)) (Str.length "/")).length ≤ 1000) && (decide (parts.length ≤ 1000) && (parts.all PyData.strOk && (parts.all (fun z => decide (z.length ≤ 1000)) &&
  (decide ((new.map (·.length)).sum + new.length * (Str.length "/") ≤ 16777216) && (PyData.strOk (Txt.join "/" new) && (decide ((rootF x).1.length + (Txt.join "/" new).length ≤ 1000)))))))))
section
variable {C : Cx} (hK : C.K = hd.heap_39 C.w.params)
include hK
theorem fn_normpath {x : Str} (hx : normOk x = true) : Fn C 2 167 [.str x] (.str (normF x)) := by
  simp only [normOk, Bool.and_eq_true, decide_eq_true_eq] at hx
  obtain ⟨h1, h2, h3, h4, h5, h6, h7, h8, h9⟩ := hx
  rw [List.all_eq_true] at h5 h6
  refine fn_of (names := ["path"]) (o_normpath hK) (d_normpath _) (b_normpath _) (c_normpath hK) rfl rfl rfl (fun vs hv => ?_) rfl (fun L X => ?_) rfl rfl rfl
  · match vs, hv with
    | [a], _ => exact h_normpath _ a
  refine ex_cons (ex_assign (ev_call (ev_glob (g_fspath hK)) (o_fspath hK) (d_fspath _) (es_cons (ev_local rfl) es_nil) (fn_fspath hK)) ?_)
  refine ex_cons (ex_if (c := false) (ts_val (ev_isbytes (ev_boot (g_isinstance hK) v_isinstance) (ev_local rfl) (ev_boot (g_bytes hK) v_bytes)) tr_bool) (fun q => nomatch q) fun _ => ?_)
  refine ex_cons (ex_assign ev_str (ex_cons (ex_assign ev_str (ex_cons (ex_assign ev_str (ex_nil ?_))))))
  refine ex_cons (ex_if (ts_not (ts_val (ev_local rfl) (tr_str (szl h1)))) (fun hc => ?_) fun hc => ?_)
  · have e : normF x = "." := if_pos hc
    exact ex_cons (ex_ret (ev_local rfl) (by rw [e]; rfl))
  have eN : normF x = (let y := (rootF x).1 ++ Txt.join "/" ((Txt.split (rootF x).2 "/").foldl (compF (rootF x).1) []); if (y.length != 0) = true then y else ".") := if_neg (ne_true_of_eq_false hc)
  refine ex_nil (ex_cons (ex_unpack ["_", "initial_slashes", "path"] (ev_call (ev_glob (g_splitroot hK)) (o_splitroot hK) (d_splitroot _) (es_cons (ev_local rfl) es_nil) (fn_splitroot hK h1)) ?_))
  refine ex_cons (ex_assign (ev_split (ev_local rfl) (ev_local rfl) (by decide +kernel) (szl h2) (szl h3) h5) ?_)
  refine ex_cons (ex_assign_own (evn_list es_nil) fun a => ?_)
  generalize hparts : Txt.split (rootF x).2 "/" = parts at *
  generalize hinit : (rootF x).1 = init at *
  have h9' : init.length ≤ 1000 := by omega
  have fl : ∀ i, ((parts.take i).foldl (compF init) []).length ≤ 1000 := fun i => by
    have := fold_len init (parts.take i) []
    rw [List.length_take] at this
    simp only [List.length_nil] at this
    omega
  refine ex_cons (ex_for2 (fun i => { (St.set _ "new_comps" (.raw (.ref a))) with led := [(a, ((parts.take i).foldl (compF init) []).map Dat.str)] }) (itr_list (ev_local rfl)) (Ext.refl _) (fun i d hi => ?_) fun τ' hτ => ?_)
  · rw [List.getElem?_map] at hi
    cases q : parts[i]? with
    | none => rw [q] at hi; cases hi
    | some c =>
    rw [q] at hi
    cases hi
    have hcl : c.length ≤ 1000 := by simpa using h6 c (List.mem_of_getElem? q)
    have eT : (parts.take (i + 1)).foldl (compF init) [] = compF init ((parts.take i).foldl (compF init) []) c := by
      rw [List.take_add_one, q]; simp
    have hal := fl i
    have hal' := fl (i + 1)
    rw [eT] at hal' ⊢
    generalize ((parts.take i).foldl (compF init) []) = acc at *
    refine ex_cons (ex_if (ts_bool (bs_or (ts_not (ts_val (ev_local rfl) (tr_str (szl hcl)))) fun _ => bs_or (ts_cmp (ev_local rfl) (ev_local rfl) op_eq_str) fun _ => bs_nil)) (fun hc => ?_) fun hc => ?_)
    · have e : compF init acc c = acc := if_pos hc
      rw [e]
      exact ex_cons (ex_cont (Ext.new rfl))
    refine ex_nil (ex_cons ?_)
    have own : ∀ {env : Env} {τ : St} {np : Pos}, Ev C 2 env τ (.Name "new_comps" np) (.raw (.ref a)) → τ.led = [] ++ (a, acc.map Dat.str) :: [] → Ts C 2 env τ (.Name "new_comps" np) (!acc.isEmpty) := fun h1 h2 => by
      have := ts_ownlist (evw_own h1 h2) (szl (by simpa using hal)) (by intro _; rfl)
      simpa using this
    refine ex_if (ts_bool (bs_or (ts_cmp (ev_local rfl) (ev_local rfl) op_ne_str) fun _ => bs_or (ts_bool (bs_and (ts_not (ts_val (ev_local rfl) (tr_str (szl h9')))) fun _ => bs_and (ts_not (own (ev_local rfl) rfl)) fun _ => bs_nil)) fun _ =>
      bs_or (ts_bool (bs_and (own (ev_local rfl) rfl) fun hne => bs_and (ts_cmp (ev_item_str (y := acc.getLast?.getD "") (evw_own (l1 := []) (l2 := []) (ev_local rfl) rfl) ev_neg (at_last ?_ (by simpa using hal)) (szl (by simpa using hal))) (ev_local rfl) op_eq_str) fun _ => bs_nil)) fun _ => bs_nil)) (fun hd => ?_) fun hd => ?_
    · rw [List.getLast?_map]
      cases q2 : acc.getLast? with
      | none =>
        rw [List.getLast?_eq_none_iff.mp q2] at hne; cases hne
      | some z => rfl
    · have e : compF init acc c = acc ++ [c] := (if_neg (ne_true_of_eq_false hc)).trans (if_pos hd)
      rw [e, List.map_append]
      exact ex_cons (ex_append (l1 := []) (l2 := []) (ev_local rfl) (ev_local rfl) rfl (szl (by simpa using hal)) (ex_nil (ex_nil (Ext.new rfl))))
    · have e0 : compF init acc c = if (!acc.isEmpty) = true then acc.dropLast else acc := (if_neg (ne_true_of_eq_false hc)).trans (if_neg (ne_true_of_eq_false hd))
      refine ex_cons (ex_if (own (ev_local rfl) rfl) (fun he => ?_) fun he => ?_)
      · have e : compF init acc c = acc.dropLast := e0.trans (if_pos he)
        rw [e]
        have hne : acc ≠ [] := fun q => by rw [q] at he; cases he
        obtain ⟨z, hz⟩ : ∃ z, acc = acc.dropLast ++ [z] := ⟨acc.getLast hne, (List.dropLast_concat_getLast hne).symm⟩
        have hz' : acc.map Dat.str = acc.dropLast.map Dat.str ++ [Dat.str z] := (congrArg (List.map Dat.str) hz).trans (by rw [List.map_append]; rfl)
        exact ex_cons (ex_pop (l1 := []) (l2 := []) (x := z) (xs := acc.dropLast.map Dat.str) (ev_local rfl) (by show [(a, acc.map Dat.str)] = _; rw [hz']; rfl) (szl (by rw [List.length_map, List.length_dropLast]; omega)) (ex_nil (ex_nil (ex_nil (Ext.new rfl)))))
      · have e : compF init acc c = acc := e0.trans (if_neg (ne_true_of_eq_false he))
        rw [e]
        exact ex_nil (ex_nil (ex_nil (Ext.new rfl)))
  · refine ex_weak hτ (ex_freeze (x := "new_comps") (l1 := []) (l2 := []) rfl rfl ?_)
    rw [List.length_map, List.take_length]
    refine ex_cons (ex_assign (ev_local rfl) ?_)
    refine ex_cons (ex_assign (ev_bin (ev_local rfl) (ev_join (ev_local rfl) (ev_local rfl) h7 h8) (op_add_str (szl h9))) ?_)
    refine ex_cons (ex_ret (ev_or_str (x := init ++ Txt.join "/" (parts.foldl (compF init) [])) (y := ".") (ev_local rfl) (szl (by rw [Str.length_append]; exact h9)) fun _ => ev_local rfl) ?_)
    show _ = Fl.ret (.str (normF x))
    rw [eN]
end
end Mine
end -- W18

section -- W19
open PySem PySem.W PyProof.Rows PySem.Calls PySem.Spec
set_option maxRecDepth 100000
set_option maxHeartbeats 4000000
namespace Mine
section
variable {C : Cx} {n : Nat} {env : Env} {τ : St}
/-- a try block that raises nothing -/
theorem ex_try {body : List Stmt} {h₀ : ExceptHandler} {hs : List ExceptHandler} {pos : Pos} {P : Fl → St → Prop} (h : Ex C n env τ body P) : Ex1 C n env τ (.Try body (h₀ :: hs) [] [] pos) P := by
  intro A hA s₀ s E F
  refine wpAny_Try_except (wpK (h A hA s₀ s _ F) fun f s₁ h₁ => ?_)
  cases f with
  | next => exact wpAny_execs_nil h₁
  | _ => exact h₁

/-- the name x anew, y used in between -/
theorem Ext.turn2 {x y : Str} {u v d d' : Ent} (hxy : x ≠ y) (h : τ.σ y = none) : Ext (τ.set x v) ((((τ.set x u).set y d).set y d').set x v) := by
  refine ⟨fun z f q => ?_, fun _ _ q => q, rfl, rfl, rfl⟩
  simp only [St.set] at q ⊢
  by_cases hx : z = x
  · rw [if_pos hx] at q ⊢; exact q
  · rw [if_neg hx] at q ⊢
    by_cases hy : z = y
    · rw [hy, h] at q; cases q
    · rw [if_neg hy, if_neg hy, if_neg hx]; exact q
theorem fn_star {k : Nat} {f : Addr} {o : Obj} {fd : FuncData} {body : List Stmt} {x y : Str} {a b r : Dat} (ho : C.K.lookup f = some o) (hd : o.data = .func fd) (hbody : fd.body = .stmts body) (hcd : codeIn C.K fd.code fd.qualname = true)
    (hg : fd.globals = mainGlobals) (hbn : fd.builtins = builtinsNs) (hclo : fd.closure = [])
    (hbind : ∀ v w, bindArgs fd ⟨[v, w], []⟩ = (newTuple [w] >>= fun t => pure [(x, v), (y, t)])) (hok : fnOk fd [x, y] = true)
    (h : ∀ L X, Ex C k (callEnv fd L f) ⟨σ0 [x, y] [a, .tuple [b]], fun _ => none, [], true, X⟩ body (fun l _ => l = .ret r))
    (hco : fd.scope.isCoroutine = false) (hgen : fd.scope.isGenerator = false) (hk : fd.scope.kind = .function) (hk5 : k < 5 := by decide) : Fn C k f [a, b] r := by
  intro A hA S s E vs hS G lv rv
  unfold fnOk at hok
  rw [Bool.and_eq_true, List.all_eq_true, List.all_eq_true] at hok
  have hloc : ∀ z ∈ [x, y], fd.scope.names.lookup z = some .local := fun z hz => by simpa using hok.1 z hz
  have hcell : ∀ z ∈ fd.scope.names, z.2 ≠ .cell := fun z hz => by simpa using hok.2 z hz
  cases rv with
  | @cons va _ _ _ ra rv =>
  cases rv with
  | @cons vb _ _ _ rb rv =>
  cases rv
  have hSlt : ∀ z ∈ S, z < s.heap.objs.size := fun z hz => let ⟨_, e⟩ := hS z hz; Heap.lt_size e
  have rt : R (s.heap.push (tO [vb] 0)) S (.ref s.heap.objs.size) (.tuple [b]) := rtuple (.one rb) hSlt
  have ra' : R (s.heap.push (tO [vb] 0)) S va a := ra.push _
  generalize hT : Value.ref s.heap.objs.size = tv at rt
  let s₁ : Shared := { s with heap := s.heap.push (tO [vb] 0) }
  have k₁ : Kp C s s₁ := Kp.push _ _
  refine wpAny_call (codeAny_call_function hA.room (G.X _ _ ho) hd hco hgen hbody (codeRec_of G.X hcd) ?_)
  rw [hbind]
  refine wpAny_bind (wpAny_newTuple (wpAny_pure ?_) (szl (Nat.le_of_ble_eq_true rfl)))
  refine wpAny_newFunctionEnv (s := s₁) (binds := [(x, va), (y, .ref s.heap.objs.size)]) hcell (fun z hz => hloc _ (List.of_mem_zip (l₁ := [x, y]) (l₂ := [va, .ref s.heap.objs.size]) hz).1) (fun h₀ hns₀ hsb₀ => ⟨(k₁.up.lim G.lim).fresh _ hsb₀, codeAny_func ?_⟩) hk
  have hkeep : Up C s₁.heap h₀ := .of fun b o e => hsb₀.extBut b o (Nat.ne_of_lt (Heap.lt_size e)) (Heap.get?_push_of_some _ e)
  have F : Fm C s (callEnv fd s₁.heap.objs.size f) ⟨σ0 [x, y] [a, .tuple [b]], fun _ => none, [], true, S⟩ { s₁ with heap := h₀, toks := s₁.toks + 2 } := by
    refine ⟨⟨_, _, rfl⟩, G, k₁.up.trans hkeep, lv.up (k₁.up.trans hkeep), none_of_up k₁.up (get_new _), hk, hg, hbn, hS, ⟨_, hns₀, fun z e hz => ?_⟩, fun _ x y c hc _ => ?_, fun _ p hp => ?_, fun p hp => ?_, fun x d hx => (nomatch hx), fun p hp => (nomatch hp), List.Pairwise.nil⟩
    · exact σ0_at (names := [x, y]) (vs := [va, .ref s.heap.objs.size]) (.cons (ra'.up hkeep) (.one ((hT ▸ rt).up hkeep))) hz
    · have : (callEnv fd s₁.heap.objs.size f).cells = [] := hclo
      rw [this] at hc; cases hc
    · have : (callEnv fd s₁.heap.objs.size f).cells = [] := hclo
      rw [this] at hp; cases hp
    · have : (callEnv fd s₁.heap.objs.size f).cells = [] := hclo
      rw [this] at hp; cases hp
  refine wpK (h _ S _ (hA.deeper _ hk5) s _ _ F) fun fl s' ⟨l, τ', hp, hf, hx, F'⟩ => ?_
  cases (hp : l = _)
  obtain ⟨v, rfl, rr⟩ := hf
  exact ⟨F'.now, rr⟩
end
theorem h_join (p : Params) (a b : Value) : bindArgs (fdOf 132 p) ⟨[a, b], []⟩ = (newTuple [b] >>= fun t => pure ([("a", a), ("p", t)] : List (Str × Value))) := by kernel_rfl!
section
variable {C : Cx} (hK : C.K = hd.heap_39 C.w.params)
include hK
theorem fn_join {x y : Str} (hx : x.length ≤ 1000) (hy : y.length ≤ 1000) : Fn C 1 132 [.str x, .str y] (.str (joinF x y)) := by
  refine fn_star (x := "a") (y := "p") (o_join hK) (d_join _) (b_join _) (c_join hK) rfl rfl rfl (fun v w => h_join _ v w) rfl (fun L X => ?_) rfl rfl rfl
  refine ex_cons (ex_assign (ev_call (ev_glob (g_fspath hK)) (o_fspath hK) (d_fspath _) (es_cons (ev_local rfl) es_nil) (fn_fspath hK)) ?_)
  refine ex_cons (ex_assign (ev_call (ev_glob (g_get_sep hK)) (o_get_sep hK) (d_get_sep _) (es_cons (ev_local rfl) es_nil) (fn_getsep hK)) ?_)
  refine ex_cons (ex_assign (ev_local rfl) ?_)
  have hxy : (joinF x y).length ≤ 2001 := by
    have e1 : Str.length "/" = 1 := by decide +kernel
    unfold joinF
    split
    · omega
    · split
      · rw [Str.length_append]; omega
      · rw [Str.length_append, Str.length_append]; omega
  refine ex_cons (ex_try (ex_cons (ex_for2 (fun i => St.set _ "path" (.dat (.str (if i = 0 then x else joinF x y)))) (itr_tuple (ev_local rfl)) (Ext.refl _) (fun i d hi => ?_) fun τ' hτ => ?_)))
  · cases i with
    | succ i => cases hi
    | zero =>
    cases hi
    simp only [if_true, Nat.zero_add, if_neg Nat.one_ne_zero]
    have hpb : ("path" : Str) ≠ "b" := by decide +kernel
    refine ex_cons (ex_assign (ev_call (ev_glob (g_fspath hK)) (o_fspath hK) (d_fspath _) (es_cons (ev_local rfl) es_nil) (fn_fspath hK)) ?_)
    refine ex_cons (ex_if (ts_bool (bs_or (ts_val (ev_startswith (ev_local rfl) (ev_local rfl)) tr_bool) fun _ => bs_or (ts_not (ts_val (ev_local rfl) (tr_str (szl hx)))) fun _ => bs_nil)) (fun hc => ?_) fun hc => ?_)
    · have e : joinF x y = y := if_pos hc
      rw [e]
      exact ex_cons (ex_assign (ev_local rfl) (ex_nil (ex_nil (Ext.turn2 (x := "path") (y := "b") hpb rfl))))
    · refine ex_cons (ex_if (ts_val (ev_endswith (ev_local rfl) (ev_local rfl)) tr_bool) (fun hd => ?_) fun hd => ?_)
      · have e : joinF x y = x ++ y := (if_neg (ne_true_of_eq_false hc)).trans (if_pos hd)
        rw [e]
        refine ex_cons (ex_aug rfl (ev_local rfl) (op_iadd_str (by rw [sizeLine_eq]; omega)) (ex_nil (ex_nil (ex_nil (Ext.turn2 (x := "path") (y := "b") hpb rfl)))))
      · have e : joinF x y = x ++ ("/" ++ y) := (if_neg (ne_true_of_eq_false hc)).trans (if_neg (ne_true_of_eq_false hd))
        rw [e]
        refine ex_cons (ex_aug rfl (ev_bin (ev_local rfl) (ev_local rfl) (op_add_str ?_)) (op_iadd_str ?_) (ex_nil (ex_nil (ex_nil ?_))))
        · rw [sizeLine_eq]; have e1 : Str.length "/" = 1 := by decide +kernel
          omega
        · rw [sizeLine_eq, Str.length_append]; have e1 : Str.length "/" = 1 := by decide +kernel
          omega
        · exact Ext.turn2 (x := "path") (y := "b") hpb rfl
  · refine ex_nil (ex_weak hτ (ex_cons (ex_ret (ev_local rfl) ?_)))
    rfl
end
end Mine
end -- W19

section -- W20
open PySem PySem.W PyProof.Rows PySem.Calls PySem.Spec
set_option maxRecDepth 100000
set_option maxHeartbeats 4000000
namespace Mine
section
variable {C : Cx} {n : Nat} {env : Env} {τ : St}
theorem Ext.turn1 {x y : Str} {u v d : Ent} (h : τ.σ y = none) : Ext (τ.set x v) (((τ.set x u).set y d).set x v) := by
  refine ⟨fun z f q => ?_, fun _ _ q => q, rfl, rfl, rfl⟩
  simp only [St.set] at q ⊢
  by_cases hx : z = x
  · rw [if_pos hx] at q ⊢; exact q
  · rw [if_neg hx] at q ⊢
    by_cases hy : z = y
    · rw [hy, h] at q; cases q
    · rw [if_neg hy, if_neg hx]; exact q
theorem sl_init {α : Type} (xs : List α) : sl xs none (some (-1)) = xs.dropLast := by
  unfold sl bnd
  simp only [show ((-1 : Int) < 0) = True by simp, if_true, List.drop_zero, Nat.sub_zero, List.dropLast_eq_take]
  congr 1
  omega
theorem at_lastS {acc : List Str} (hne : (!acc.isEmpty) = true) (hs : acc.length ≤ 1000) : at? (acc.map Dat.str) (-1) = some (.str (acc.getLast?.getD "")) := by
  refine at_last ?_ (by simpa using hs)
  rw [List.getLast?_map]
  cases q2 : acc.getLast? with
  | none => rw [List.getLast?_eq_none_iff.mp q2] at hne; cases hne
  | some z => rfl
theorem shp_strs (xs : List Str) : shp 9 (.list (xs.map Dat.str)) = true := by simp [shp]
/-- row != [] -/
theorem op_ne_nil {acc : List Str} : Op2 C n (compareOp .NotEq) (.list (acc.map Dat.str)) (.list []) (.bool (!acc.isEmpty)) :=
  op_ne_dat (shp_strs acc) rfl (by cases acc <;> simp)
theorem map_dropLast (acc : List Str) : sl (acc.map Dat.str) none (some (-1)) = acc.dropLast.map Dat.str := by rw [sl_init, List.map_dropLast]
end
def aheadF (w : Str) : Str := if (cut w none (some 1) != "/") = true then "" else if ((cut w (some 1) (some 2) == "/") && ((cut w (some 2) (some 3) != "/") && true)) = true then "//" else "/"
def plainF (ahead : Str) (row : List Str) (part : Str) : List Str :=
  if ((part == "..") && ((!row.isEmpty) && ((row.getLast?.getD "" != "..") && true))) = true then row.dropLast
  else if ((part == "..") && ((ahead == "") && true)) = true then row ++ [("..":Str)]
  else if (!decide (part ∈ (["", ".", ".."] : List Str))) = true then row ++ [part] else row
def rowF (w : Str) : List Str := (Txt.split w "/").foldl (plainF (aheadF w)) []
def strF (w : Str) : Str := if ((aheadF w != "") || ((!(rowF w).isEmpty) || false)) = true then aheadF w ++ Txt.join "/" (rowF w) else "."
def stripE : Nat → List Str → List Str
  | 0, ks => ks
  | k + 1, ks => if ((!ks.isEmpty) && ((ks.getLast?.getD "" == "") && true)) = true then stripE k ks.dropLast else ks
def keptF (w : Str) : List Str := stripE (Txt.split w "/").dropLast.length (Txt.split w "/").dropLast
def partF (w : Str) : Str × Str := (if (!(keptF w).isEmpty) = true then Txt.join "/" (keptF w) else Txt.mul "/" (((Txt.split w "/").length : Int) - 1), (Txt.split w "/").getLast?.getD "")
theorem plainF_len (ahead : Str) (row : List Str) (c : Str) : (plainF ahead row c).length ≤ row.length + 1 := by
  unfold plainF
  split
  · rw [List.length_dropLast]; omega
  · split
    · simp
    · split
      · simp
      · omega
theorem plain_len (ahead : Str) : ∀ (l : List Str) (acc : List Str), (l.foldl (plainF ahead) acc).length ≤ acc.length + l.length
  | [], acc => by simp
  | c :: l, acc => by
    have h1 := plain_len ahead l (plainF ahead acc c)
    have h2 := plainF_len ahead acc c
    rw [List.foldl_cons, List.length_cons]; omega
/-- the way, and what splitting it makes, fit -/
def splOk (w : Str) : Bool :=
  decide (w.length ≤ 1000) && (decide ((Builtin.Str.partsBetween w (Builtin.Str.occurrences w "/" 0 w.length (w.length + 1)) (Str.length "/")).length ≤ 1000) && (decide ((Txt.split w "/").length ≤ 1000) && ((Txt.split w "/").all PyData.strOk)))
def rowOk (r : List Str) : Bool := decide ((r.map (·.length)).sum + r.length * (Str.length "/") ≤ 900) && (decide ((Txt.join "/" r).length ≤ 900) && PyData.strOk (Txt.join "/" r))
section
variable {C : Cx} (hK : C.K = hd.heap_39 C.w.params)
include hK
theorem fn_plain {x : Str} (hx : splOk x = true) : Fn C 1 212 [.str x] (.tuple [.str (aheadF x), .list ((rowF x).map Dat.str)]) := by
  simp only [splOk, Bool.and_eq_true, decide_eq_true_eq] at hx
  obtain ⟨h1, h2, h3, h4⟩ := hx
  rw [List.all_eq_true] at h4
  refine fn_of (names := ["way"]) (o_law_plain hK) (d_law_plain _) (b_law_plain _) (c_law_plain hK) rfl rfl rfl (fun vs hv => ?_) rfl (fun L X => ?_) rfl rfl rfl
  · match vs, hv with
    | [a], _ => exact h_law_plain _ a
  refine ex_cons (ex_assign (en := .dat (.str (aheadF x))) (ev_if (ts_cmp (ev_slice_str (ev_local rfl) pt_none (pt_some ev_int) (szl h1)) ev_str op_ne_str) (fun hc => ?_) fun hc => ?_) ?_)
  · have e : aheadF x = "" := if_pos hc
    rw [e]; exact ev_str
  · refine ev_if (ts_bool (bs_and (ts_cmp (ev_slice_str (ev_local rfl) (pt_some ev_int) (pt_some ev_int) (szl h1)) ev_str op_eq_str) fun _ => bs_and (ts_cmp (ev_slice_str (ev_local rfl) (pt_some ev_int) (pt_some ev_int) (szl h1)) ev_str op_ne_str) fun _ => bs_nil)) (fun hd => ?_) fun hd => ?_
    · have e : aheadF x = "//" := (if_neg (ne_true_of_eq_false hc)).trans (if_pos hd)
      rw [e]; exact ev_str
    · have e : aheadF x = "/" := (if_neg (ne_true_of_eq_false hc)).trans (if_neg (ne_true_of_eq_false hd))
      rw [e]; exact ev_str
  refine ex_cons (ex_assign (ev_list es_nil) ?_)
  have fl : ∀ i, (((Txt.split x "/").take i).foldl (plainF (aheadF x)) []).length ≤ 1000 := fun i => by
    have := plain_len (aheadF x) ((Txt.split x "/").take i) []
    rw [List.length_take] at this
    simp only [List.length_nil] at this
    omega
  have hrow : rowF x = (Txt.split x "/").foldl (plainF (aheadF x)) [] := rfl
  generalize aheadF x = ahead at *
  refine ex_cons (ex_for2 (fun i => St.set _ "row" (.dat (.list ((((Txt.split x "/").take i).foldl (plainF ahead) []).map Dat.str)))) (itr_list (ev_split (ev_local rfl) ev_str (by decide +kernel) (szl h1) (szl h2) ?_)) (Ext.refl _) (fun i d hi => ?_) fun τ' hτ => ?_)
  · exact h4
  · rw [List.getElem?_map] at hi
    cases q : (Txt.split x "/")[i]? with
    | none => rw [q] at hi; cases hi
    | some c =>
    rw [q] at hi
    cases hi
    have eT : ((Txt.split x "/").take (i + 1)).foldl (plainF ahead) [] = plainF ahead (((Txt.split x "/").take i).foldl (plainF ahead) []) c := by
      rw [List.take_add_one, q]; simp
    have hal := fl i
    rw [eT]
    generalize (((Txt.split x "/").take i).foldl (plainF ahead) []) = acc at *
    refine ex_cons (ex_if (ts_bool (bs_and (ts_cmp (ev_local rfl) ev_str op_eq_str) fun _ => bs_and (ts_cmp (ev_local rfl) (ev_list es_nil) op_ne_nil) fun hne => bs_and (ts_cmp (ev_item_list (ev_local rfl) ev_neg (at_lastS hne hal) (szl (by simpa using hal))) ev_str op_ne_str) fun _ => bs_nil)) (fun hc => ?_) fun hc => ?_)
    · have e : plainF ahead acc c = acc.dropLast := if_pos hc
      rw [e, ← map_dropLast]
      exact ex_cons (ex_assign (ev_slice_list (ev_local rfl) pt_none (pt_some ev_neg) (szl (by simpa using hal))) (ex_nil (ex_nil (Ext.turn1 rfl))))
    refine ex_cons (ex_if (ts_bool (bs_and (ts_cmp (ev_local rfl) ev_str op_eq_str) fun _ => bs_and (ts_cmp (ev_local rfl) ev_str op_eq_str) fun _ => bs_nil)) (fun hd => ?_) fun hd => ?_)
    · have e : plainF ahead acc c = acc ++ [("..":Str)] := (if_neg (ne_true_of_eq_false hc)).trans (if_pos hd)
      rw [e, List.map_append]
      exact ex_cons (ex_assign (ev_bin (ev_local rfl) (ev_list (es_cons ev_str es_nil)) (op_add_list (by rw [sizeLine_eq, List.length_map]; show acc.length + 1 ≤ _; omega))) (ex_nil (ex_nil (ex_nil (Ext.turn1 rfl)))))
    refine ex_cons (ex_if (ts_cmp (ev_local rfl) (ev_list (es_cons ev_str (es_cons ev_str (es_cons ev_str es_nil)))) (op_notin (b := decide (c ∈ (["", ".", ".."] : List Str))) ?_ rfl ?_)) (fun he => ?_) fun he => ?_)
    · intro e he
      simp only [List.mem_cons, List.not_mem_nil, or_false] at he
      rcases he with rfl | rfl | rfl <;> rfl
    · simp
    · have e : plainF ahead acc c = acc ++ [c] := ((if_neg (ne_true_of_eq_false hc)).trans (if_neg (ne_true_of_eq_false hd))).trans (if_pos he)
      rw [e, List.map_append]
      exact ex_cons (ex_assign (ev_bin (ev_local rfl) (ev_list (es_cons (ev_local rfl) es_nil) (szl (Nat.le_of_ble_eq_true rfl))) (op_add_list (by rw [sizeLine_eq, List.length_map]; show acc.length + 1 ≤ _; omega))) (ex_nil (ex_nil (ex_nil (ex_nil (Ext.turn1 rfl))))))
    · have e : plainF ahead acc c = acc := ((if_neg (ne_true_of_eq_false hc)).trans (if_neg (ne_true_of_eq_false hd))).trans (if_neg (ne_true_of_eq_false he))
      rw [e]
      exact ex_nil (ex_nil (ex_nil (ex_nil (Ext.new rfl))))
  · refine ex_weak hτ (ex_cons (ex_ret (ev_tuple (es_cons (ev_local rfl) (es_cons (ev_local rfl) es_nil)) (szl (Nat.le_of_ble_eq_true rfl))) ?_))
    show _ = Fl.ret _
    rw [List.length_map, List.take_length, hrow]
theorem fn_straight {x : Str} (hx : splOk x = true) (hr : rowOk (rowF x) = true) : Fn C 2 219 [.str x] (.str (strF x)) := by
  simp only [rowOk, Bool.and_eq_true, decide_eq_true_eq] at hr
  obtain ⟨h1, h5, h2⟩ := hr
  have h3 : (rowF x).length ≤ 1000 := by
    simp only [splOk, Bool.and_eq_true, decide_eq_true_eq] at hx
    have := plain_len (aheadF x) (Txt.split x "/") []
    simp only [List.length_nil] at this
    have e : rowF x = (Txt.split x "/").foldl (plainF (aheadF x)) [] := rfl
    rw [e]; omega
  have h4 : (aheadF x).length ≤ 2 := by unfold aheadF; split <;> (try split) <;> decide +kernel
  refine fn_of (names := ["way"]) (o_law_straight hK) (d_law_straight _) (b_law_straight _) (c_law_straight hK) rfl rfl rfl (fun vs hv => ?_) rfl (fun L X => ?_) rfl rfl rfl
  · match vs, hv with
    | [a], _ => exact h_law_straight _ a
  refine ex_cons (ex_unpack ["ahead", "row"] (ev_call (ev_glob (g_law_plain hK)) (o_law_plain hK) (d_law_plain _) (es_cons (ev_local rfl) es_nil) (fn_plain hK hx)) ?_)
  refine ex_cons (ex_ret (d := .str (strF x)) (ev_if (ts_bool (bs_or (ts_cmp (ev_local rfl) ev_str op_ne_str) fun _ => bs_or (ts_cmp (ev_local rfl) (ev_list es_nil) op_ne_nil) fun _ => bs_nil)) (fun hc => ?_) fun hc => ?_) rfl)
  · have e : strF x = aheadF x ++ Txt.join "/" (rowF x) := if_pos hc
    rw [e]
    exact ev_bin (ev_local rfl) (ev_join ev_str (ev_local rfl) (by omega) h2) (op_add_str (szl (by omega)))
  · have e : strF x = "." := if_neg (ne_true_of_eq_false hc)
    rw [e]; exact ev_str
theorem fn_parted {x : Str} (hx : splOk x = true) (hne : (Txt.split x "/") ≠ []) (hr : rowOk (keptF x) = true) : Fn C 1 226 [.str x] (.tuple [.str (partF x).1, .str (partF x).2]) := by
  simp only [splOk, Bool.and_eq_true, decide_eq_true_eq] at hx
  obtain ⟨h1, h2, h3, h4⟩ := hx
  rw [List.all_eq_true] at h4
  simp only [rowOk, Bool.and_eq_true, decide_eq_true_eq] at hr
  obtain ⟨h5, _, h6⟩ := hr
  have hl := List.length_pos_iff.mpr hne
  have hne' : (!(Txt.split x "/").isEmpty) = true := by cases q : Txt.split x "/" with | nil => exact absurd q hne | cons a b => rfl
  refine fn_of (names := ["way"]) (o_law_parted hK) (d_law_parted _) (b_law_parted _) (c_law_parted hK) rfl rfl rfl (fun vs hv => ?_) rfl (fun L X => ?_) rfl rfl rfl
  · match vs, hv with
    | [a], _ => exact h_law_parted _ a
  refine ex_cons (ex_assign (ev_split (ev_local rfl) ev_str (by decide +kernel) (szl h1) (szl h2) h4) ?_)
  refine ex_cons (ex_assign (en := .dat (.list ((Txt.split x "/").dropLast.map Dat.str))) (by
    rw [← map_dropLast]
    exact ev_slice_list (ev_local rfl) pt_none (pt_some ev_neg) (szl (by simpa using h3))) ?_)
  let base : St := ({ σ := σ0 ["way"] [Dat.str x], cσ := fun _ => none, led := [], fn := true, ex := X } : St).set "row" (.dat (.list ((Txt.split x "/").map Dat.str)))
  refine ex_cons (ex_while (fun j τ' => ∃ ks : List Str, ks.length = j ∧ ks.length ≤ 1000 ∧ stripE j ks = keptF x ∧ Ext (base.set "kept" (.dat (.list (ks.map Dat.str)))) τ') (Txt.split x "/").dropLast.length ⟨(Txt.split x "/").dropLast, rfl, by rw [List.length_dropLast]; omega, rfl, Ext.refl _⟩ fun j τ' ⟨ks, hj, hk, hs, hE⟩ => ?_)
  refine ⟨_, ts_weak hE (ts_bool (bs_and (ts_cmp (ev_local rfl) (ev_list es_nil) op_ne_nil) fun hne => bs_and (ts_cmp (ev_item_list (ev_local rfl) ev_neg (at_lastS hne hk) (szl (by simpa using hk))) ev_str op_eq_str) fun _ => bs_nil)), fun hb => ?_, fun hb => ?_⟩
  · cases j with
    | zero =>
      have : ks = [] := List.length_eq_zero_iff.mp hj
      rw [this] at hb; cases hb
    | succ j =>
    have e : stripE (j + 1) ks = stripE j ks.dropLast := if_pos hb
    refine ex_weak hE (ex_cons (ex_assign (en := .dat (.list (ks.dropLast.map Dat.str))) (by
      rw [← map_dropLast]
      exact ev_slice_list (ev_local rfl) pt_none (pt_some ev_neg) (szl (by simpa using hk))) (ex_nil ⟨j, Nat.lt_succ_self _, ks.dropLast, ?_, ?_, e ▸ hs, Ext.over⟩)))
    · rw [List.length_dropLast]; omega
    · rw [List.length_dropLast]; omega
  · have e : ks = keptF x := by
      rw [← hs]
      cases j with
      | zero => rfl
      | succ j => exact (if_neg (ne_true_of_eq_false hb)).symm
    rw [e] at hE hk
    refine ex_weak hE (ex_cons (ex_ret (ev_tuple (es_cons (d := .str (partF x).1) (ev_if (ts_cmp (ev_local rfl) (ev_list es_nil) op_ne_nil) (fun hc => ?_) fun hc => ?_) (es_cons (d := .str (partF x).2) ?_ es_nil)) (szl (Nat.le_of_ble_eq_true rfl))) rfl))
    · have e : (partF x).1 = Txt.join "/" (keptF x) := if_pos hc
      rw [e]
      exact ev_join ev_str (ev_local rfl) (by omega) h6
    · have e : (partF x).1 = Txt.mul "/" (((Txt.split x "/").length : Int) - 1) := if_neg (ne_true_of_eq_false hc)
      rw [e]
      have e2 : (Txt.split x "/").length = ((Txt.split x "/").map Dat.str).length := (List.length_map _).symm
      rw [e2]
      exact ev_bin ev_str (ev_bin (ev_len_list (ev_boot (g_len hK) v_len) (ev_local rfl) (szl (by simpa using h3))) ev_int op_sub_int) (op_mul_str 1 1000 (by decide +kernel) (by rw [List.length_map]; omega) (by omega) (by decide) (by decide))
    · exact ev_item_list (ev_local rfl) ev_neg (at_lastS hne' h3) (szl (by simpa using h3))
end
end Mine
end -- W20

section -- W21
open PySem PySem.W PyProof.Rows PySem.Calls PySem.Spec
set_option maxRecDepth 100000
set_option maxHeartbeats 4000000
namespace Mine
/-! ## the matching machine -/
def Live (m : Sre.M) : Prop := m.outcome = none ∧ m.answer = none ∧ m.pc < m.code.size
theorem step_exec {m : Sre.M} (h : Live m) : m.step = m.exec := by
  obtain ⟨h1, h2, h3⟩ := h
  unfold Sre.M.step
  rw [h1, h2]
  simp only [Option.isSome_none, Bool.false_eq_true, if_false, h3, if_true]
theorem step_lit {m : Sre.M} (h : Live m) (ho : Sre.ops[m.word 0]? = some .LITERAL) (hlt : m.pos < m.lim) (hc : m.text.getD m.pos 0 = m.word 1) : ∃ sn, m.step = { m with seen := sn, pc := m.pc + 2, pos := m.pos + 1 } := by
  have ho' : Sre.ops[m.code.getD m.pc 0]? = some .LITERAL := ho
  refine ⟨m.seen.add (m.word 0), ?_⟩
  rw [step_exec h]
  unfold Sre.M.exec
  rw [ho]
  simp only [Nat.not_le.mpr hlt, ge_iff_le, if_false]
  have ha : Sre.accepts m.code m.pc (m.text.getD m.pos 0) (m.seen.add (m.word 0)) = .ok (true, m.seen.add (m.word 0)) := by
    unfold Sre.accepts
    simp only [ho']
    rw [hc]; simp [Sre.M.word]
  rw [ha]
  simp only
  have hw : Sre.itemWidth m.code m.pc = 2 := by
    unfold Sre.itemWidth
    simp only [ho']
  rw [hw]
theorem step_lit_no {m : Sre.M} (h : Live m) (ho : Sre.ops[m.word 0]? = some .LITERAL) (hc : m.pos < m.lim → m.text.getD m.pos 0 ≠ m.word 1) : ∃ sn, m.step = { m with seen := sn, answer := some false } := by
  have ho' : Sre.ops[m.code.getD m.pc 0]? = some .LITERAL := ho
  refine ⟨m.seen.add (m.word 0), ?_⟩
  rw [step_exec h]
  unfold Sre.M.exec
  rw [ho]
  by_cases hlt : m.lim ≤ m.pos
  · simp only [ge_iff_le, hlt, if_true]; rfl
  · simp only [ge_iff_le, hlt, if_false]
    have ha : Sre.accepts m.code m.pc (m.text.getD m.pos 0) (m.seen.add (m.word 0)) = .ok (false, m.seen.add (m.word 0)) := by
      unfold Sre.accepts
      simp only [ho']
      have : (m.text.getD m.pos 0 == m.code.getD (m.pc + 1) 0) = false := by
        have := hc (by omega)
        simpa [Sre.M.word] using this
      rw [this]
    rw [ha]
    rfl
theorem step_jump {m : Sre.M} (h : Live m) (ho : Sre.ops[m.word 0]? = some .JUMP) : ∃ sn, m.step = { m with seen := sn, pc := m.pc + 1 + m.word 1 } := by
  refine ⟨m.seen.add (m.word 0), ?_⟩
  rw [step_exec h]
  unfold Sre.M.exec
  rw [ho]
  rfl
theorem step_success {m : Sre.M} (h : Live m) (ho : Sre.ops[m.word 0]? = some .SUCCESS) (hw : m.wholeText = false) (hm : m.mustAdvance = false) : ∃ sn, m.step = { m with seen := sn, handed := m.pos, answer := some true } := by
  refine ⟨m.seen.add (m.word 0), ?_⟩
  rw [step_exec h]
  unfold Sre.M.exec
  rw [ho]
  simp only [hw, hm, Bool.false_and, Bool.or_false, Bool.and_false, Bool.false_eq_true, if_false]
  simp only [← hw, ← hm]
  rfl
theorem step_bol {m : Sre.M} (h : Live m) (ho : Sre.ops[m.word 0]? = some .AT) (hw : m.word 1 = 1) (b : Bool) (hb : (m.pos == 0 || m.text.getD (m.pos - 1) 0 == 10) = b) :
    ∃ sn, m.step = if b then { m with seen := sn, pc := m.pc + 2 } else { m with seen := sn, answer := some false } := by
  refine ⟨(m.seen.add (m.word 0)).add (43 + 1), ?_⟩
  rw [step_exec h]
  unfold Sre.M.exec
  rw [ho]
  have ha : Sre.M.isAt { m with seen := m.seen.add (m.word 0) } 1 = .ok b := by
    unfold Sre.M.isAt
    simp only
    rw [hb]
  have hw' : Sre.M.word { m with seen := m.seen.add (m.word 0) } 1 = 1 := hw
  simp only [hw', ha]
  cases b <;> rfl
theorem step_end {m : Sre.M} {b : Bool} (h1 : m.outcome = none) (h2 : m.answer = some b) (h3 : m.frames = []) : m.step = { m with outcome := some (if b then .matched else .failed) } := by
  rcases m with ⟨code, text, lim, start, lastStart, wholeText, mustAdvance, pc, pos, handed, outermost, marks, lastmark, lastindex, loops, inner, frames, weight, answer, seen, outcome⟩
  cases (h1 : outcome = none); cases (h2 : answer = some b); cases (h3 : frames = [])
  rfl
/-- what a frame is taken up with -/
def took (m : Sre.M) (f : Sre.Frame) (rest : List Sre.Frame) : Sre.M := { m with answer := none, frames := rest, weight := m.weight - (1 + f.kept.marks.size), pc := f.pc, pos := f.pos, outermost := f.outermost }
theorem step_resume {m : Sre.M} {b : Bool} {f : Sre.Frame} {rest : List Sre.Frame} (h1 : m.outcome = none) (h2 : m.answer = some b) (h3 : m.frames = f :: rest) : m.step = (took m f rest).resume f b := by
  rcases m with ⟨code, text, lim, start, lastStart, wholeText, mustAdvance, pc, pos, handed, outermost, marks, lastmark, lastindex, loops, inner, frames, weight, answer, seen, outcome⟩
  cases (h1 : outcome = none); cases (h2 : answer = some b); cases (h3 : frames = f :: rest)
  rfl

/-! ## runs to the end -/
/-- from m the machine comes, within k steps, to an end as P says -/
def Ends (k : Nat) (m : Sre.M) (P : Sre.M → Prop) : Prop := ∃ j m', j ≤ k ∧ Sre.M.runFor j m = m' ∧ m'.outcome.isSome = true ∧ P m'
theorem Ends.step {k : Nat} {m m' : Sre.M} {P : Sre.M → Prop} (h1 : m.outcome = none) (h : m.step = m') (e : Ends k m' P) : Ends (k + 1) m P := by
  obtain ⟨j, r, hj, hr, ho, hp⟩ := e
  refine ⟨j + 1, r, by omega, ?_, ho, hp⟩
  rw [Sre.M.runFor, h1, h]
  exact hr
theorem Ends.done {m : Sre.M} {P : Sre.M → Prop} (h : m.outcome.isSome = true) (hp : P m) : Ends 0 m P := ⟨0, m, Nat.le_refl _, rfl, h, hp⟩
theorem Ends.mono {k l : Nat} {m : Sre.M} {P : Sre.M → Prop} (h : Ends k m P) (hl : k ≤ l) : Ends l m P := let ⟨j, r, a, b⟩ := h; ⟨j, r, Nat.le_trans a hl, b⟩
theorem runFor_done {m : Sre.M} (h : m.outcome.isSome = true) : ∀ k, Sre.M.runFor k m = m
  | 0 => rfl
  | k + 1 => by rw [Sre.M.runFor, h]; rfl
theorem runFor_add (a b : Nat) : ∀ (m : Sre.M), Sre.M.runFor (a + b) m = Sre.M.runFor b (Sre.M.runFor a m) := by
  induction a with
  | zero => intro m; rw [Nat.zero_add]; rfl
  | succ a ih =>
    intro m
    rw [show a + 1 + b = (a + b) + 1 by omega, Sre.M.runFor, Sre.M.runFor]
    cases h : m.outcome.isSome with
    | true => simp only [if_true]; exact (runFor_done h b).symm
    | false => simp only [Bool.false_eq_true, if_false]; exact ih _
theorem wp_reDrive {prog : Program} {w : World} {A : Around} {E : Value → Shared → Prop} {s : Shared} {Q : Sre.M → Shared → Prop} {P : Sre.M → Prop} : ∀ (n k : Nat) (m : Sre.M), Ends k m P → k < 4 * n → (∀ m', m'.outcome.isSome = true → P m' → Q m' s) → wpAny (model prog w) A (Builtin.Re.reDrive n m) Q E s
  | 0, k, m, _, hk, _ => by omega
  | n + 1, k, m, h, hk, hq => by
    obtain ⟨j, r, hj, hr, ho, hp⟩ := h
    rw [Builtin.Re.reDrive]
    show wpAny (model prog w) A (if (Sre.M.runFor 4 m).outcome.isSome = true then pure (Sre.M.runFor 4 m) else do rule "sre.turn"; Builtin.Re.reDrive n (Sre.M.runFor 4 m)) Q E s
    by_cases h4 : j ≤ 4
    · have e : Sre.M.runFor 4 m = r := by
        rw [show 4 = j + (4 - j) by omega, runFor_add, hr, runFor_done ho]
      rw [e, ho]
      exact wpAny_pure (hq _ ho hp)
    · have e : Sre.M.runFor (j - 4) (Sre.M.runFor 4 m) = r := by rw [← runFor_add, show 4 + (j - 4) = j by omega]; exact hr
      cases hs : (Sre.M.runFor 4 m).outcome.isSome with
      | true =>
        have e2 : Sre.M.runFor 4 m = r := by rw [runFor_done hs] at e; exact e
        simp only [if_true]
        rw [e2]
        exact wpAny_pure (hq _ ho hp)
      | false =>
        simp only [Bool.false_eq_true, if_false]
        exact wpAny_bind (wpAny_rule (wp_reDrive n (k - 4) _ ⟨j - 4, r, by omega, e, ho, hp⟩ (by omega) hq))

/-! ## the line ends' pattern -/
def rc2 : Array Nat := #[14, 9, 4, 1, 2, 16, 10, 16, 13, 0, 7, 7, 16, 13, 16, 10, 15, 18, 5, 16, 10, 15, 13, 11, 16, 13, 5, 5, 0, 16, 10, 1, 15, 2, 0, 1]
def rc1 : Array Nat := #[14, 4, 0, 1, 1, 6, 1, 16, 46, 1]
abbrev stt (code T : Array Nat) (lim start pc pos handed : Nat) (om : Bool) (frames : List Sre.Frame) (w : Nat) (ans : Option Bool) (sn : Sre.Seen) : Sre.M :=
  { code, text := T, lim, start, lastStart := lim, wholeText := false, mustAdvance := false, pc, pos, handed, outermost := om, marks := #[], lastmark := -1, lastindex := -1, loops := #[], inner := none, frames, weight := w, answer := ans, seen := sn, outcome := none }
abbrev k0 : Sre.Kept := { lastmark := -1, lastindex := -1, whole := false, marks := #[] }
abbrev fr0 (pc pos : Nat) (first : Bool) : Sre.Frame := { wait := .nextStart, pc, pos, outermost := first }
abbrev frB (pc pos : Nat) (first : Bool) : Sre.Frame := { wait := .nextBranch, pc, pos, outermost := first, kept := k0 }
abbrev frL (pc pos : Nat) (first : Bool) : Sre.Frame := { wait := .lookNot, pc, pos, outermost := first, kept := k0 }
variable {T : Array Nat} {lim a h : Nat} {sn : Sre.Seen} {first : Bool}
def Found (a e : Nat) (m : Sre.M) : Prop := m.outcome = some .matched ∧ m.start = a ∧ m.handed = e
theorem tail_match {code : Array Nat} {pc pos e : Nat} : Ends 2 (stt code T lim a pc pos e first [fr0 10 a first] 1 (some true) sn) (Found a e) := by
  refine Ends.step rfl (m' := stt code T lim a 10 a e first [] 0 (some true) sn) rfl ?_
  refine Ends.step rfl (step_end rfl rfl rfl) (Ends.done rfl ⟨rfl, rfl, rfl⟩)
theorem run2_10 (ha : a < lim) (hc : T.getD a 0 = 10) : Ends 20 (stt rc2 T lim a 10 a a first [fr0 10 a first] 1 none sn) (Found a (a + 1)) := by
  refine Ends.mono (k := 9) ?_ (by omega)
  refine Ends.step rfl (m' := stt rc2 T lim a 12 a a first [frB 11 a first, fr0 10 a first] 2 none (sn.add 7)) rfl ?_
  obtain ⟨sn, e⟩ := step_lit_no (m := stt rc2 T lim a 12 a a first [frB 11 a first, fr0 10 a first] 2 none (sn.add 7)) ⟨rfl, rfl, Nat.le_of_ble_eq_true rfl⟩ rfl (fun _ => by show T.getD a 0 ≠ 13; rw [hc]; decide)
  refine Ends.step rfl e ?_
  refine Ends.step rfl (m' := stt rc2 T lim a 19 a a first [frB 18 a first, fr0 10 a first] 2 none sn) rfl ?_
  obtain ⟨sn, e⟩ := step_lit (m := stt rc2 T lim a 19 a a first [frB 18 a first, fr0 10 a first] 2 none sn) ⟨rfl, rfl, Nat.le_of_ble_eq_true rfl⟩ rfl ha hc
  refine Ends.step rfl e ?_
  obtain ⟨sn, e⟩ := step_jump (m := stt rc2 T lim a 21 (a + 1) a first [frB 18 a first, fr0 10 a first] 2 none sn) ⟨rfl, rfl, Nat.le_of_ble_eq_true rfl⟩ rfl
  refine Ends.step rfl e ?_
  obtain ⟨sn, e⟩ := step_success (m := stt rc2 T lim a 35 (a + 1) a first [frB 18 a first, fr0 10 a first] 2 none sn) ⟨rfl, rfl, Nat.le_of_ble_eq_true rfl⟩ rfl rfl rfl
  refine Ends.step rfl e ?_
  exact Ends.step rfl (m' := stt rc2 T lim a 18 a (a + 1) first [fr0 10 a first] 1 (some true) sn) rfl tail_match
theorem run2_1310 (ha : a < lim) (hc : T.getD a 0 = 13) (ha2 : a + 1 < lim) (hc2 : T.getD (a + 1) 0 = 10) : Ends 20 (stt rc2 T lim a 10 a a first [fr0 10 a first] 1 none sn) (Found a (a + 2)) := by
  refine Ends.mono (k := 8) ?_ (by omega)
  refine Ends.step rfl (m' := stt rc2 T lim a 12 a a first [frB 11 a first, fr0 10 a first] 2 none (sn.add 7)) rfl ?_
  obtain ⟨sn, e⟩ := step_lit (m := stt rc2 T lim a 12 a a first [frB 11 a first, fr0 10 a first] 2 none (sn.add 7)) ⟨rfl, rfl, Nat.le_of_ble_eq_true rfl⟩ rfl ha hc
  refine Ends.step rfl e ?_
  obtain ⟨sn, e⟩ := step_lit (m := stt rc2 T lim a 14 (a + 1) a first [frB 11 a first, fr0 10 a first] 2 none sn) ⟨rfl, rfl, Nat.le_of_ble_eq_true rfl⟩ rfl ha2 hc2
  refine Ends.step rfl e ?_
  obtain ⟨sn, e⟩ := step_jump (m := stt rc2 T lim a 16 (a + 2) a first [frB 11 a first, fr0 10 a first] 2 none sn) ⟨rfl, rfl, Nat.le_of_ble_eq_true rfl⟩ rfl
  refine Ends.step rfl e ?_
  obtain ⟨sn, e⟩ := step_success (m := stt rc2 T lim a 35 (a + 2) a first [frB 11 a first, fr0 10 a first] 2 none sn) ⟨rfl, rfl, Nat.le_of_ble_eq_true rfl⟩ rfl rfl rfl
  refine Ends.step rfl e ?_
  exact Ends.step rfl (m' := stt rc2 T lim a 11 a (a + 2) first [fr0 10 a first] 1 (some true) sn) rfl tail_match
theorem run2_13 (ha : a < lim) (hc : T.getD a 0 = 13) (hn : a + 1 < lim → T.getD (a + 1) 0 ≠ 10) : Ends 20 (stt rc2 T lim a 10 a a first [fr0 10 a first] 1 none sn) (Found a (a + 1)) := by
  refine Ends.mono (k := 15) ?_ (by omega)
  refine Ends.step rfl (m' := stt rc2 T lim a 12 a a first [frB 11 a first, fr0 10 a first] 2 none (sn.add 7)) rfl ?_
  obtain ⟨sn, e⟩ := step_lit (m := stt rc2 T lim a 12 a a first [frB 11 a first, fr0 10 a first] 2 none (sn.add 7)) ⟨rfl, rfl, Nat.le_of_ble_eq_true rfl⟩ rfl ha hc
  refine Ends.step rfl e ?_
  obtain ⟨sn, e⟩ := step_lit_no (m := stt rc2 T lim a 14 (a + 1) a first [frB 11 a first, fr0 10 a first] 2 none sn) ⟨rfl, rfl, Nat.le_of_ble_eq_true rfl⟩ rfl hn
  refine Ends.step rfl e ?_
  refine Ends.step rfl (m' := stt rc2 T lim a 19 a a first [frB 18 a first, fr0 10 a first] 2 none sn) rfl ?_
  obtain ⟨sn, e⟩ := step_lit_no (m := stt rc2 T lim a 19 a a first [frB 18 a first, fr0 10 a first] 2 none sn) ⟨rfl, rfl, Nat.le_of_ble_eq_true rfl⟩ rfl (fun _ => by show T.getD a 0 ≠ 10; rw [hc]; decide)
  refine Ends.step rfl e ?_
  refine Ends.step rfl (m' := stt rc2 T lim a 24 a a first [frB 23 a first, fr0 10 a first] 2 none sn) rfl ?_
  obtain ⟨sn, e⟩ := step_lit (m := stt rc2 T lim a 24 a a first [frB 23 a first, fr0 10 a first] 2 none sn) ⟨rfl, rfl, Nat.le_of_ble_eq_true rfl⟩ rfl ha hc
  refine Ends.step rfl e ?_
  refine Ends.step rfl (m' := stt rc2 T lim a 29 (a + 1) (a + 1) false [frL 26 (a + 1) first, frB 23 a first, fr0 10 a first] 3 none (sn.add 5)) rfl ?_
  obtain ⟨sn, e⟩ := step_lit_no (m := stt rc2 T lim a 29 (a + 1) (a + 1) false [frL 26 (a + 1) first, frB 23 a first, fr0 10 a first] 3 none (sn.add 5)) ⟨rfl, rfl, Nat.le_of_ble_eq_true rfl⟩ rfl hn
  refine Ends.step rfl e ?_
  refine Ends.step rfl (m' := stt rc2 T lim a 32 (a + 1) (a + 1) first [frB 23 a first, fr0 10 a first] 2 none sn) rfl ?_
  obtain ⟨sn, e⟩ := step_jump (m := stt rc2 T lim a 32 (a + 1) (a + 1) first [frB 23 a first, fr0 10 a first] 2 none sn) ⟨rfl, rfl, Nat.le_of_ble_eq_true rfl⟩ rfl
  refine Ends.step rfl e ?_
  obtain ⟨sn, e⟩ := step_success (m := stt rc2 T lim a 35 (a + 1) (a + 1) first [frB 23 a first, fr0 10 a first] 2 none sn) ⟨rfl, rfl, Nat.le_of_ble_eq_true rfl⟩ rfl rfl rfl
  refine Ends.step rfl e ?_
  exact Ends.step rfl (m' := stt rc2 T lim a 23 a (a + 1) first [fr0 10 a first] 1 (some true) sn) rfl tail_match
def nl (c : Nat) : Bool := c == 10 || c == 13
theorem inSet2 (c : Nat) (sn : Sre.Seen) : ∃ sn', Sre.inSet rc2 c rc2.size 5 true sn = .ok (nl c, sn') := by
  have e : Sre.inSet rc2 c rc2.size 5 true sn = if c == 10 then .ok (true, sn.add 16) else if c == 13 then .ok (true, (sn.add 16).add 16) else .ok (false, ((sn.add 16).add 16).add 0) := rfl
  unfold nl
  cases h1 : c == 10 with
  | true => exact ⟨_, by rw [e, h1]; rfl⟩
  | false =>
    cases h2 : c == 13 with
    | true => exact ⟨_, by rw [e, h1, h2]; rfl⟩
    | false => exact ⟨_, by rw [e, h1, h2]; rfl⟩
theorem admitted2 {m : Sre.M} (hm : m.code = rc2) : ∀ (fuel s : Nat) (sn : Sre.Seen), s ≤ m.lim → m.lim + 1 - s ≤ fuel →
    (∃ a sn', s ≤ a ∧ a < m.lim ∧ (∀ i, s ≤ i → i < a → nl (m.text.getD i 0) = false) ∧ nl (m.text.getD a 0) = true ∧ m.admitted fuel s sn = .ok (some a, sn')) ∨
    (∃ sn', (∀ i, s ≤ i → i < m.lim → nl (m.text.getD i 0) = false) ∧ m.admitted fuel s sn = .ok (none, sn'))
  | 0, s, sn, hs, hf => by omega
  | fuel + 1, s, sn, hs, hf => by
    rw [Sre.M.admitted]
    by_cases hlt : s ≥ m.lim
    · rw [if_pos hlt]
      exact .inr ⟨sn, fun i h1 h2 => by omega, rfl⟩
    rw [if_neg hlt]
    obtain ⟨sn', e⟩ := inSet2 (m.text.getD s 0) sn
    rw [hm, e]
    cases hc : nl (m.text.getD s 0) with
    | true => exact .inl ⟨s, sn', Nat.le_refl _, by omega, fun i h1 h2 => by omega, hc, rfl⟩
    | false =>
      simp only
      rcases admitted2 hm fuel (s + 1) sn' (by omega) (by omega) with ⟨a, sn2, h1, h2, h3, h4, h5⟩ | ⟨sn2, h3, h5⟩
      · refine .inl ⟨a, sn2, by omega, h2, fun i hi1 hi2 => ?_, h4, h5⟩
        by_cases q : i = s
        · rw [q]; exact hc
        · exact h3 i (by omega) hi2
      · refine .inr ⟨sn2, fun i hi1 hi2 => ?_, h5⟩
        by_cases q : i = s
        · rw [q]; exact hc
        · exact h3 i (by omega) hi2
/-- what the search finds from p on -/
def Hit2 (T : Array Nat) (p a e : Nat) : Prop := p ≤ a ∧ a < T.size ∧ (∀ i, p ≤ i → i < a → nl (T.getD i 0) = false) ∧ nl (T.getD a 0) = true ∧ e = (if T.getD a 0 = 13 ∧ a + 1 < T.size ∧ T.getD (a + 1) 0 = 10 then a + 2 else a + 1)
theorem search2 (p : Nat) (hp : p ≤ T.size) : (∃ a e, Hit2 T p a e ∧ Ends 30 (Sre.forSearch rc2 T 0 p T.size false) (Found a e)) ∨ ((∀ i, p ≤ i → i < T.size → nl (T.getD i 0) = false) ∧ Ends 30 (Sre.forSearch rc2 T 0 p T.size false) (fun m => m.outcome = some .failed)) := by
  by_cases hlt : p < T.size
  · have e0 : Sre.forSearch rc2 T 0 p T.size false = Sre.M.attemptFrom (stt rc2 T T.size p 10 p p true [] 0 none (({} : Sre.Seen).add 14)) p true := by
      unfold Sre.forSearch
      rw [if_neg]
      · rfl
      · show ¬ ((decide (p > T.size) || decide (T.size - p < 1)) = true)
        simp only [Bool.or_eq_true, decide_eq_true_eq]; omega
    rw [e0]
    have e1 : Sre.M.attemptFrom (stt rc2 T T.size p 10 p p true [] 0 none (({} : Sre.Seen).add 14)) p true = match Sre.M.admitted (stt rc2 T T.size p 10 p p true [] 0 none (({} : Sre.Seen).add 14)) (T.size + 1 - p) p (({} : Sre.Seen).add 14) with
      | .ok (some s, seen) => Sre.M.attemptAt { (stt rc2 T T.size p 10 p p true [] 0 none (({} : Sre.Seen).add 14)) with mustAdvance := false, seen } s true
      | .ok (none, seen) => Sre.M.say { (stt rc2 T T.size p 10 p p true [] 0 none (({} : Sre.Seen).add 14)) with seen } false
      | .error why => Sre.M.stick (stt rc2 T T.size p 10 p p true [] 0 none (({} : Sre.Seen).add 14)) why := rfl
    rw [e1]
    rcases admitted2 (m := stt rc2 T T.size p 10 p p true [] 0 none (({} : Sre.Seen).add 14)) rfl (T.size + 1 - p) p (({} : Sre.Seen).add 14) hp (Nat.le_refl _) with ⟨a, sn, h1, h2, h3, h4, h5⟩ | ⟨sn, h3, h5⟩
    · rw [h5]
      left
      refine ⟨a, _, ⟨h1, h2, h3, h4, rfl⟩, ?_⟩
      show Ends 30 (stt rc2 T T.size a 10 a a true [fr0 10 a true] 1 none sn) _
      have h2' : a < T.size := h2
      have h4' : nl (T.getD a 0) = true := h4
      simp only [nl, Bool.or_eq_true, beq_iff_eq] at h4'
      by_cases hc : T.getD a 0 = 13
      · by_cases hd : a + 1 < T.size ∧ T.getD (a + 1) 0 = 10
        · rw [if_pos ⟨hc, hd⟩]
          exact (run2_1310 h2' hc hd.1 hd.2).mono (by omega)
        · rw [if_neg fun q => hd q.2]
          exact (run2_13 h2' hc fun q z => hd ⟨q, z⟩).mono (by omega)
      · rw [if_neg fun q => hc q.1]
        exact (run2_10 h2' (h4'.resolve_right hc)).mono (by omega)
    · rw [h5]
      right
      refine ⟨h3, ?_⟩
      refine Ends.mono (k := 1) ?_ (by omega)
      exact Ends.step rfl (step_end rfl rfl rfl) (Ends.done rfl rfl)
  · right
    refine ⟨fun i h1 h2 => by omega, ?_⟩
    unfold Sre.forSearch
    rw [if_pos]
    · refine Ends.mono (k := 1) ?_ (by omega)
      exact Ends.step rfl (step_end rfl rfl rfl) (Ends.done rfl rfl)
    · show (decide (p > T.size) || decide (T.size - p < 1)) = true
      simp only [Bool.or_eq_true, decide_eq_true_eq]; omega

/-! ## the dots' pattern -/
def bol (T : Array Nat) (i : Nat) : Bool := i == 0 || T.getD (i - 1) 0 == 10
def Dot (T : Array Nat) (i : Nat) : Prop := bol T i = true ∧ T.getD i 0 = 46
theorem run1_tail {pc pos e : Nat} : Ends 2 (stt rc1 T lim a pc pos e first [fr0 5 a first] 1 (some true) sn) (Found a e) := by
  refine Ends.step rfl (m' := stt rc1 T lim a 5 a e first [] 0 (some true) sn) rfl ?_
  refine Ends.step rfl (step_end rfl rfl rfl) (Ends.done rfl ⟨rfl, rfl, rfl⟩)
theorem run1_hit (ha : a < lim) (hd : Dot T a) : Ends 5 (stt rc1 T lim a 5 a a first [fr0 5 a first] 1 none sn) (Found a (a + 1)) := by
  obtain ⟨sn, e⟩ := step_bol (m := stt rc1 T lim a 5 a a first [fr0 5 a first] 1 none sn) ⟨rfl, rfl, Nat.le_of_ble_eq_true rfl⟩ rfl rfl true hd.1
  refine Ends.step rfl e ?_
  obtain ⟨sn, e⟩ := step_lit (m := stt rc1 T lim a 7 a a first [fr0 5 a first] 1 none sn) ⟨rfl, rfl, Nat.le_of_ble_eq_true rfl⟩ rfl ha hd.2
  refine Ends.step rfl e ?_
  obtain ⟨sn, e⟩ := step_success (m := stt rc1 T lim a 9 (a + 1) a first [fr0 5 a first] 1 none sn) ⟨rfl, rfl, Nat.le_of_ble_eq_true rfl⟩ rfl rfl rfl
  refine Ends.step rfl e ?_
  exact run1_tail
theorem run1_miss {k : Nat} {P : Sre.M → Prop} (hd : a < lim → ¬ Dot T a) (h : ∀ pc sn, Ends k (stt rc1 T lim a pc a a first [fr0 5 a first] 1 (some false) sn) P) : Ends (k + 2) (stt rc1 T lim a 5 a a first [fr0 5 a first] 1 none sn) P := by
  cases hb : bol T a with
  | false =>
    obtain ⟨sn, e⟩ := step_bol (m := stt rc1 T lim a 5 a a first [fr0 5 a first] 1 none sn) ⟨rfl, rfl, Nat.le_of_ble_eq_true rfl⟩ rfl rfl false hb
    exact (Ends.step rfl e (h 5 sn)).mono (by omega)
  | true =>
    obtain ⟨sn, e⟩ := step_bol (m := stt rc1 T lim a 5 a a first [fr0 5 a first] 1 none sn) ⟨rfl, rfl, Nat.le_of_ble_eq_true rfl⟩ rfl rfl true hb
    refine Ends.step rfl e ?_
    obtain ⟨sn, e⟩ := step_lit_no (m := stt rc1 T lim a 7 a a first [fr0 5 a first] 1 none sn) ⟨rfl, rfl, Nat.le_of_ble_eq_true rfl⟩ rfl (fun q z => hd q ⟨hb, z⟩)
    exact Ends.step rfl e (h 7 sn)
def Hit1 (T : Array Nat) (p a e : Nat) : Prop := p ≤ a ∧ a < T.size ∧ (∀ i, p ≤ i → i < a → ¬ Dot T i) ∧ Dot T a ∧ e = a + 1
theorem from1 : ∀ (n p : Nat) (first : Bool) (sn : Sre.Seen), T.size - p ≤ n → p ≤ T.size →
    (∃ a e, Hit1 T p a e ∧ Ends (3 * n + 8) (stt rc1 T T.size p 5 p p first [fr0 5 p first] 1 none sn) (Found a e)) ∨ ((∀ i, p ≤ i → i < T.size → ¬ Dot T i) ∧ Ends (3 * n + 8) (stt rc1 T T.size p 5 p p first [fr0 5 p first] 1 none sn) (fun m => m.outcome = some .failed)) := by
  intro n
  induction n with
  | zero =>
    intro p first sn hn hp
    right
    refine ⟨fun i h1 h2 => by omega, ?_⟩
    refine (run1_miss (k := 3) (fun q => by omega) fun pc sn => ?_).mono (by omega)
    have hlt : ¬ p < T.size := by omega
    have fin : Ends 1 (stt rc1 T T.size p 5 p p first [] 0 (some false) sn) (fun m => m.outcome = some .failed) := Ends.step rfl (step_end rfl rfl rfl) (Ends.done rfl rfl)
    refine Ends.step rfl (m' := stt rc1 T T.size p 5 p p first [] 0 (some false) sn) ?_ (fin.mono (l := 2) (by omega))
    refine (step_resume rfl rfl rfl).trans ?_
    show (if p < T.size then _ else _) = _
    rw [if_neg hlt]; rfl
  | succ n ih =>
    intro p first sn hn hp
    by_cases hlt : p < T.size
    · by_cases hd : Dot T p
      · left
        exact ⟨p, p + 1, ⟨Nat.le_refl _, hlt, fun i h1 h2 => by omega, hd, rfl⟩, (run1_hit hlt hd).mono (by omega)⟩
      · have nxt : ∀ {P : Sre.M → Prop}, (∀ sn, Ends (3 * n + 8) (stt rc1 T T.size (p + 1) 5 (p + 1) (p + 1) false [fr0 5 (p + 1) false] 1 none sn) P) → Ends (3 * (n + 1) + 8) (stt rc1 T T.size p 5 p p first [fr0 5 p first] 1 none sn) P := by
          intro P h
          refine (run1_miss (k := 3 * n + 8 + 1) (fun _ => hd) fun pc sn => ?_).mono (by omega)
          refine Ends.step rfl (m' := stt rc1 T T.size (p + 1) 5 (p + 1) (p + 1) false [fr0 5 (p + 1) false] 1 none sn) ?_ (h sn)
          refine (step_resume rfl rfl rfl).trans ?_
          show (if p < T.size then _ else _) = _
          rw [if_pos hlt]; rfl
        have key : ∀ sn, _ := fun sn => ih (p + 1) false sn (by omega) hlt
        by_cases hex : ∃ a e, Hit1 T (p + 1) a e
        · left
          obtain ⟨a, e, hh⟩ := hex
          refine ⟨a, e, ⟨by have := hh.1; omega, hh.2.1, fun i h1 h2 => ?_, hh.2.2.2⟩, nxt fun sn => ?_⟩
          · by_cases q : i = p
            · rw [q]; exact hd
            · exact hh.2.2.1 i (by omega) h2
          · rcases key sn with ⟨a', e', hh', he⟩ | ⟨hno, _⟩
            · have : a' = a := by
                rcases Nat.lt_trichotomy a a' with q | q | q
                · exact absurd hh.2.2.2.1 (hh'.2.2.1 a hh.1 q)
                · exact q.symm
                · exact absurd hh'.2.2.2.1 (hh.2.2.1 a' hh'.1 q)
              have e2 : e' = e := by rw [hh.2.2.2.2, hh'.2.2.2.2, this]
              rw [this, e2] at he
              exact he
            · exact absurd hh.2.2.2.1 (hno a hh.1 hh.2.1)
        · right
          refine ⟨fun i h1 h2 => ?_, nxt fun sn => ?_⟩
          · rcases key {} with ⟨a', e', hh', _⟩ | ⟨hno, _⟩
            · exact absurd ⟨a', e', hh'⟩ hex
            · by_cases q : i = p
              · rw [q]; exact hd
              · exact hno i (by omega) h2
          · rcases key sn with ⟨a', e', hh', _⟩ | ⟨_, he⟩
            · exact absurd ⟨a', e', hh'⟩ hex
            · exact he
    · rcases ih p first sn (by omega) hp with ⟨a, e, hh, he⟩ | ⟨hno, he⟩
      · exact .inl ⟨a, e, hh, he.mono (by omega)⟩
      · exact .inr ⟨hno, he.mono (by omega)⟩
theorem search1 (p : Nat) (hp : p ≤ T.size) : (∃ a e, Hit1 T p a e ∧ Ends (3 * T.size + 8) (Sre.forSearch rc1 T 0 p T.size false) (Found a e)) ∨ ((∀ i, p ≤ i → i < T.size → ¬ Dot T i) ∧ Ends (3 * T.size + 8) (Sre.forSearch rc1 T 0 p T.size false) (fun m => m.outcome = some .failed)) := by
  by_cases hlt : p < T.size
  · have e0 : Sre.forSearch rc1 T 0 p T.size false = stt rc1 T T.size p 5 p p true [fr0 5 p true] 1 none (({} : Sre.Seen).add 14) := by
      unfold Sre.forSearch
      rw [if_neg]
      · rfl
      · show ¬ ((decide (p > T.size) || decide (T.size - p < 1)) = true)
        simp only [Bool.or_eq_true, decide_eq_true_eq]; omega
    rw [e0]
    exact from1 T.size p true _ (by omega) hp
  · right
    refine ⟨fun i h1 h2 => by omega, ?_⟩
    unfold Sre.forSearch
    rw [if_pos]
    · refine Ends.mono (k := 1) ?_ (by omega)
      exact Ends.step rfl (step_end rfl rfl rfl) (Ends.done rfl rfl)
    · show (decide (p > T.size) || decide (T.size - p < 1)) = true
      simp only [Bool.or_eq_true, decide_eq_true_eq]; omega
end Mine
end -- W21

section -- W22
open PySem PySem.W PyProof.Rows PySem.Calls PySem.Spec
set_option maxRecDepth 100000
set_option maxHeartbeats 4000000
namespace Mine
/-! ## substitution -/
abbrev patO (src : Str) (t1 : Tok) (fl : Int) (t2 : Tok) (tp : Addr) : Obj := { cls := .type "re.Pattern", data := .fields #[.str src t1, .int fl t2, .int 0 0, .none, .none, .ref tp, .int 0 0] }
abbrev codeO (vs : Array Value) : Obj := { cls := .type "tuple", data := .seq vs }
section
variable {prog : Program} {w : World} {A : Around} {E : Value → Shared → Prop} {s : Shared}
theorem wp_whole {src : Str} {t1 t2 t : Tok} {fl : Int} {p tp : Addr} {vs : Array Value} {code : Array Nat} {x : Str} {Q : Builtin.Re.ReTarget → Shared → Prop} (ho : s.heap.get? p = some (patO src t1 fl t2 tp)) (hc : s.heap.get? tp = some (codeO vs)) (hv : (vs.map Builtin.Re.reRawOf).map (·.toNat) = code)
    (hq : Q { pattern := .ref p, string := .str x t, code := code, text := x.cps, kind := 0, groups := 0, pos := 0, lim := x.cps.size } s) : wpAny (model prog w) A (Builtin.Re.reWholeTarget (.ref p) (.str x t)) Q E s := by
  unfold Builtin.Re.reWholeTarget
  obtain ⟨h, g, d, tk, os⟩ := s
  repeat (any_goals (first | assumption | wp_step))
  all_goals (subst hv; exact hq)
theorem wp_rules (f : Nat → Bool) (g : Nat → String) : ∀ (l : List Nat) (Q : PUnit → Shared → Prop), Q ⟨⟩ s → wpAny (model prog w) A (forIn l PUnit.unit fun i _ => if f i = true then do rule (g i); pure (ForInStep.yield PUnit.unit) else pure (ForInStep.yield PUnit.unit)) Q E s
  | [], Q, h => wpAny_pure h
  | i :: l, Q, h => by
    rw [List.forIn_cons]
    refine wpAny_bind ?_
    cases f i with
    | true => exact wpAny_bind (wpAny_rule (wpAny_pure (wp_rules f g l Q h)))
    | false => exact wpAny_pure (wp_rules f g l Q h)
theorem wp_runToEnd {m : Sre.M} {k : Nat} {P : Sre.M → Prop} {Q : Option Sre.M → Shared → Prop} (h : Ends k m P) (hk : k < 4 * 2 ^ 64) (hq : ∀ m', P m' → (m'.outcome = some .matched → Q (some m') s) ∧ (m'.outcome = some .failed → Q none s) ∧ (m'.outcome = some .matched ∨ m'.outcome = some .failed)) : wpAny (model prog w) A (Builtin.Re.reRunToEnd m) Q E s := by
  unfold Builtin.Re.reRunToEnd
  refine wpAny_bind (wp_reDrive _ k m h hk fun m' _ hp => ?_)
  obtain ⟨h1, h2, h3⟩ := hq m' hp
  refine wpAny_bind ?_
  refine wp_rules (fun i => m'.seen.has i) (fun i => Sre.names.getD i "") _ _ ?_
  rcases h3 with h3 | h3
  · rw [h3]; exact wpAny_pure (h1 h3)
  · rw [h3]; exact wpAny_pure (h2 h3)
theorem wp_found {m : Sre.M} {k a e : Nat} {Q : Option Sre.M → Shared → Prop} (h : Ends k m (Found a e)) (hk : k < 4 * 2 ^ 64) (hq : ∀ m', m'.start = a → m'.handed = e → Q (some m') s) : wpAny (model prog w) A (Builtin.Re.reRunToEnd m) Q E s :=
  wp_runToEnd h hk fun m' hp => ⟨fun _ => hq m' hp.2.1 hp.2.2, (fun q => by rw [hp.1] at q; cases q), .inl hp.1⟩
theorem wp_failed {m : Sre.M} {k : Nat} {Q : Option Sre.M → Shared → Prop} (h : Ends k m fun m => m.outcome = some .failed) (hk : k < 4 * 2 ^ 64) (hq : Q none s) : wpAny (model prog w) A (Builtin.Re.reRunToEnd m) Q E s :=
  wp_runToEnd h hk fun m' hp => ⟨(fun q => by rw [hp] at q; cases q), fun _ => hq, .inr hp⟩
theorem entry_loop : entryFor table "re.Pattern.sub.loop" = some Builtin.«re.Pattern.sub.loop» := entryFor_of_tree (by kernel_rfl)
theorem wp_slice {T : Array Nat} {b e : Nat} {Q : Value → Shared → Prop} (hsz : T.size ≤ sizeLine) (h : Q (.str ⟨T.extract b e⟩ s.toks) { s with toks := s.toks + 1 }) : wpAny (model prog w) A (Builtin.Re.reSlice T 0 b e) Q E s := by
  unfold Builtin.Re.reSlice
  rw [if_pos (by decide)]
  have hl : ¬ Str.length ⟨T.extract b e⟩ > sizeLine := by
    show ¬ (T.extract b e).size > sizeLine
    rw [Array.size_extract]; omega
  repeat (any_goals (first | assumption | wp_step))
theorem loop_body {src : Str} {t1 t2 t tr : Tok} {fl : Int} {p tp : Addr} {vs : Array Value} {code : Array Nat} {x y : Str} {l : Addr} {ws : List Value} {j : Nat} {Q : Fin → Shared → Prop} {n : Int} {d : Nat} {a b c e f : Tok} (ho : s.heap.get? p = some (patO src t1 fl t2 tp)) (hc : s.heap.get? tp = some (codeO vs)) (hv : (vs.map Builtin.Re.reRawOf).map (·.toNat) = code)
    {a0 e0 k : Nat} (hE : Ends k (Sre.forSearch code x.cps 0 d x.cps.size false) (Found a0 e0)) (hk : k < 4 * 2 ^ 64) (hae : a0 < e0) (hx : x.length ≤ sizeLine) (hl : s.heap.get? l = some (lO ws j)) (hw : ws.length + 2 ≤ sizeLine)
    (hq : ∀ h' tk j', (∀ b o, b ≠ l → s.heap.get? b = some o → h'.get? b = some o) → h'.get? l = some (lO (ws ++ (if d < a0 then [Value.str ⟨x.cps.extract d a0⟩ s.toks] else []) ++ [.str y tr]) j') →
      Q (.again (.builtin "re.Pattern.sub.loop" ⟨[.ref p, .str x t, .str y tr, .int 0 0, .int 0 0, .int (n + 1) 0, .int e0 0, .int e0 0, .bool false, .ref l, .bool false], []⟩)) { s with heap := h', toks := tk }) :
    wpAny (model prog w) A (Builtin.«re.Pattern.sub.loop» ⟨[.ref p, .str x t, .str y tr, .int 0 a, .int 0 b, .int n c, .int d e, .int d f, .bool false, .ref l, .bool false], []⟩) Q E s := by
  unfold Builtin.«re.Pattern.sub.loop»
  show wpAny (model prog w) A (do let t ← Builtin.Re.reWholeTarget (.ref p) (.str x t); _) Q E s
  refine wpAny_bind (wp_whole ho hc hv ?_)
  refine wpAny_bind ?_
  have lit : ∀ {Q' : Unit → Shared → Prop}, Q' () s → wpAny (model prog w) A (Builtin.Re.reLiteralCannotBeTurned (.str y tr)) Q' E s := by
    intro Q' h
    unfold Builtin.Re.reLiteralCannotBeTurned
    repeat (any_goals (first | assumption | wp_step))
  show wpAny (model prog w) A (Builtin.Re.reLiteralCannotBeTurned (.str y tr)) _ E s
  refine lit ?_
  refine wpAny_bind ?_
  rw [if_neg (by simp)]
  show wpAny (model prog w) A (Builtin.Re.reRunToEnd (Sre.forSearch code x.cps 0 (d : Int).toNat x.cps.size false)) _ E s
  rw [Int.toNat_natCast]
  refine wp_found hE hk fun m hm1 hm2 => ?_
  have hb : (e0 == a0) = false := by simpa using (Nat.ne_of_gt hae)
  have ite0 : ∀ {α : Type} {X Y : Sem α}, (if ((0 : Int) == 0) = true then X else Y) = X := fun {α X Y} => if_pos (by decide)
  have iteN : ∀ {α : Type} {X Y : Sem α}, (if (Value.str y tr != Value.none) = true then X else Y) = X := fun {α X Y} => if_pos rfl
  simp only [hm1, hm2, ite0, pure_bind, iteN, hb]
  by_cases hlt : d < a0
  · rw [if_pos hlt] at hq
    rw [if_pos hlt]
    refine wpAny_bind (wp_slice hx ?_)
    refine wpAny_bind (wpAny_updateSeq hl rfl ?_ (by simp only [List.size_toArray]; omega) (by simp only [Array.size_push, List.size_toArray]; omega))
    obtain ⟨j1, hl1⟩ := IsL.push_upd hl (fun z => z.push (Value.str ⟨x.cps.extract d a0⟩ s.toks)) (ws ++ [Value.str ⟨x.cps.extract d a0⟩ s.toks]) (by simp)
    refine wpAny_bind (wpAny_updateSeq hl1 rfl ?_ (by simp only [List.size_toArray, List.length_append, List.length_singleton]; omega) (by simp only [Array.size_push, List.size_toArray, List.length_append, List.length_singleton]; omega))
    obtain ⟨j2, hl2⟩ := IsL.push_upd hl1 (fun z => z.push (Value.str y tr)) (ws ++ [Value.str ⟨x.cps.extract d a0⟩ s.toks] ++ [Value.str y tr]) (by simp)
    refine wpAny_pure (hq _ _ j2 (fun b o hb ho => ?_) hl2)
    rw [Heap.get?_update_other _ _ hb.symm, Heap.get?_update_other _ _ hb.symm]; exact ho
  · rw [if_neg hlt] at hq
    rw [if_neg hlt]
    refine wpAny_bind (wpAny_updateSeq hl rfl ?_ (by simp only [List.size_toArray]; omega) (by simp only [Array.size_push, List.size_toArray]; omega))
    obtain ⟨j1, hl1⟩ := IsL.push_upd hl (fun z => z.push (Value.str y tr)) (ws ++ [] ++ [Value.str y tr]) (by simp)
    refine wpAny_pure (hq _ _ j1 (fun b o hb ho => ?_) hl1)
    rw [Heap.get?_update_other _ _ hb.symm]; exact ho
theorem loop_end {src : Str} {t1 t2 t tr : Tok} {fl : Int} {p tp : Addr} {vs : Array Value} {code : Array Nat} {x y : Str} {l : Addr} {ws : List Value} {xs : List Str} {j : Nat} {Q : Fin → Shared → Prop} {n : Int} {d : Nat} {a b c e f : Tok} (ho : s.heap.get? p = some (patO src t1 fl t2 tp)) (hc : s.heap.get? tp = some (codeO vs)) (hv : (vs.map Builtin.Re.reRawOf).map (·.toNat) = code)
    {k : Nat} (hE : Ends k (Sre.forSearch code x.cps 0 d x.cps.size false) (fun m => m.outcome = some .failed)) (hk : k < 4 * 2 ^ 64) (hx : x.length ≤ sizeLine) (hl : s.heap.get? l = some (lO ws j)) (hs : StrsAre ws xs) (hw : ws.length + 2 ≤ sizeLine)
    (hsum : ((xs ++ if d < x.cps.size then [(⟨x.cps.extract d x.cps.size⟩ : Str)] else []).map (·.length)).sum ≤ 16777216)
    (hq : ∀ h' tk u, (∀ b o, b ≠ l → s.heap.get? b = some o → h'.get? b = some o) →
      Q (.done (.ret (.str (Txt.join "" (xs ++ if d < x.cps.size then [(⟨x.cps.extract d x.cps.size⟩ : Str)] else [])) u))) { s with heap := h', toks := tk }) :
    wpAny (model prog w) A (Builtin.«re.Pattern.sub.loop» ⟨[.ref p, .str x t, .str y tr, .int 0 a, .int 0 b, .int n c, .int d e, .int d f, .bool false, .ref l, .bool false], []⟩) Q E s := by
  unfold Builtin.«re.Pattern.sub.loop»
  show wpAny (model prog w) A (do let t ← Builtin.Re.reWholeTarget (.ref p) (.str x t); _) Q E s
  refine wpAny_bind (wp_whole ho hc hv ?_)
  refine wpAny_bind ?_
  have lit : ∀ {Q' : Unit → Shared → Prop}, Q' () s → wpAny (model prog w) A (Builtin.Re.reLiteralCannotBeTurned (.str y tr)) Q' E s := by
    intro Q' h
    unfold Builtin.Re.reLiteralCannotBeTurned
    repeat (any_goals (first | assumption | wp_step))
  show wpAny (model prog w) A (Builtin.Re.reLiteralCannotBeTurned (.str y tr)) _ E s
  refine lit ?_
  refine wpAny_bind ?_
  rw [if_neg (by simp)]
  show wpAny (model prog w) A (Builtin.Re.reRunToEnd (Sre.forSearch code x.cps 0 (d : Int).toNat x.cps.size false)) _ E s
  rw [Int.toNat_natCast]
  refine wp_failed hE hk ?_
  have ite0 : ∀ {α : Type} {X Y : α}, (if ((0 : Nat) == 0) = true then X else Y) = X := fun {α X Y} => if_pos (by decide)
  have iteF : ∀ {α : Type} {X Y : α}, (if false = true then X else Y) = Y := fun {α X Y} => if_neg (by decide)
  simp only [ite0, iteF, pure_bind]
  have tail : ∀ (s₁ : Shared) (vs' : List Value) (ys : List Str) (j' : Nat), s₁.heap.get? l = some (lO vs' j') → StrsAre vs' ys → (ys.map (·.length)).sum ≤ 16777216 → (∀ tk u, Q (.done (.ret (.str (Txt.join "" ys) u))) { s₁ with toks := tk }) →
      wpAny (model prog w) A (do
        let joiner ← Builtin.Re.reSlice x.cps 0 0 0
        let items ← seqItems? (.ref l)
        if (items.getD #[]).isEmpty = true then do
          ret joiner
        else do
          let text ← call (.builtin "str.join") [joiner, .ref l]
          ret text) Q E s₁ := by
    intro s₁ vs' ys j' hl' hs' hsum' hq'
    refine wpAny_bind (wp_slice hx ?_)
    have seq : ∀ (s₂ : Shared) {Q' : Option (Array Value) → Shared → Prop}, s₂.heap.get? l = some (lO vs' j') → Q' (some vs'.toArray) s₂ → wpAny (model prog w) A (seqItems? (.ref l)) Q' E s₂ := by
      intro s₂ Q' h1 h2
      unfold seqItems?
      refine wpAny_bind (wpAny_load h1 ?_)
      exact wpAny_pure h2
    refine wpAny_bind (seq _ hl' ?_)
    have hz : (⟨x.cps.extract 0 0⟩ : Str) = "" := by
      have : x.cps.extract 0 0 = #[] := by simp
      rw [this]; rfl
    rw [hz]
    cases vs' with
    | nil =>
      cases hs'
      exact wpAny_pure (hq' _ _)
    | cons v vs' =>
      rw [if_neg (by simp)]
      refine wpAny_bind (join_list (IsL.isList hl') (by simpa using hs') ?_ fun t' k => ?_)
      · have : Str.length "" = 0 := by decide +kernel
        rw [this]; omega
      · exact wpAny_pure (hq' _ _)
  by_cases hlt : d < x.cps.size
  · rw [if_pos hlt] at hsum hq
    rw [if_pos hlt]
    refine wpAny_bind (wp_slice hx ?_)
    refine wpAny_bind (wpAny_updateSeq hl rfl ?_ (by simp only [List.size_toArray]; omega) (by simp only [Array.size_push, List.size_toArray]; omega))
    obtain ⟨j1, hl1⟩ := IsL.push_upd hl (fun z => z.push (Value.str ⟨x.cps.extract d x.cps.size⟩ s.toks)) (ws ++ [Value.str ⟨x.cps.extract d x.cps.size⟩ s.toks]) (by simp)
    refine tail _ _ _ j1 hl1 (hs.append' (.cons _ _ .nil)) hsum fun tk u => hq _ _ _ fun b o hb ho => ?_
    rw [Heap.get?_update_other _ _ hb.symm]; exact ho
  · rw [if_neg hlt] at hsum hq
    rw [if_neg hlt]
    exact tail _ _ _ j hl (by simpa using hs) hsum fun tk u => hq _ _ _ fun b o hb ho => ho
/-- the pieces of a text from p on, y for each place found -/
inductive Pcs (T : Array Nat) (y : Str) (NX : Nat → Nat → Nat → Prop) (NO : Nat → Prop) : Nat → List Str → Prop
  | stop {p : Nat} : NO p → Pcs T y NX NO p (if p < T.size then [(⟨T.extract p T.size⟩ : Str)] else [])
  | hit {p a e : Nat} {ps : List Str} : NX p a e → Pcs T y NX NO e ps → Pcs T y NX NO p ((if p < a then [(⟨T.extract p a⟩ : Str)] else []) ++ y :: ps)
theorem sub_loop {src : Str} {t1 t2 t tr : Tok} {fl : Int} {p tp : Addr} {vs : Array Value} {code : Array Nat} {x y : Str} {l : Addr} {NX : Nat → Nat → Nat → Prop} {NO : Nat → Prop} {K : Nat} (hv : (vs.map Builtin.Re.reRawOf).map (·.toNat) = code)
    (hS : ∀ q, q ≤ x.cps.size → (∃ a e, NX q a e ∧ Ends K (Sre.forSearch code x.cps 0 q x.cps.size false) (Found a e)) ∨ (NO q ∧ Ends K (Sre.forSearch code x.cps 0 q x.cps.size false) (fun m => m.outcome = some .failed)))
    (hN : ∀ q a e, NX q a e → a < e ∧ q ≤ a ∧ e ≤ x.cps.size) (hK : K < 4 * 2 ^ 64) (hx : x.length ≤ sizeLine) (hpl : p ≠ l) (htl : tp ≠ l) : ∀ (n d : Nat) (s : Shared) (A : Around) (R : Result → Shared → Prop) (ws : List Value) (xs : List Str) (j : Nat) (c : Int) (a b cc e f : Tok),
    x.cps.size - d ≤ n → d ≤ x.cps.size → s.heap.get? p = some (patO src t1 fl t2 tp) → s.heap.get? tp = some (codeO vs) → s.heap.get? l = some (lO ws j) → StrsAre ws xs → ws.length + 2 * n + 2 ≤ sizeLine →
    (∀ ps, Pcs x.cps y NX NO d ps → ((xs ++ ps).map (·.length)).sum ≤ 16777216) →
    (∀ ps h' tk u, Pcs x.cps y NX NO d ps → (∀ b o, b ≠ l → s.heap.get? b = some o → h'.get? b = some o) → R (.ok (.ret (.str (Txt.join "" (xs ++ ps)) u))) { s with heap := h', toks := tk }) →
    codeAny (model prog w) A (.builtin "re.Pattern.sub.loop" ⟨[.ref p, .str x t, .str y tr, .int 0 a, .int 0 b, .int c cc, .int d e, .int d f, .bool false, .ref l, .bool false], []⟩) R s := by
  intro n
  induction n with
  | zero =>
    intro d s A R ws xs j c a b cc e f hn hd ho hc hl hs hw hsum hR
    refine codeAny_builtin entry_loop ?_
    rw [Around.under_plain (show (Code.builtin "re.Pattern.sub.loop" ⟨_, []⟩).weight = 0 from rfl) rfl]
    rcases hS d hd with ⟨a0, e0, h1, h2⟩ | ⟨h1, h2⟩
    · have := hN _ _ _ h1; omega
    · exact loop_end ho hc hv h2 hK hx hl hs (by omega) (hsum _ (.stop h1)) fun h' tk u hk => hR _ _ _ _ (.stop h1) hk
  | succ n ih =>
    intro d s A R ws xs j c a b cc e f hn hd ho hc hl hs hw hsum hR
    refine codeAny_builtin entry_loop ?_
    rw [Around.under_plain (show (Code.builtin "re.Pattern.sub.loop" ⟨_, []⟩).weight = 0 from rfl) rfl]
    rcases hS d hd with ⟨a0, e0, h1, h2⟩ | ⟨h1, h2⟩
    · obtain ⟨q1, q2, q3⟩ := hN _ _ _ h1
      refine loop_body ho hc hv h2 hK q1 hx hl (by omega) fun h' tk j' hk hl' => ?_
      refine ⟨Code.quiet_builtin _ (by decide +kernel), ?_⟩
      refine ih e0 { s with heap := h', toks := tk } A R _ (xs ++ (if d < a0 then [(⟨x.cps.extract d a0⟩ : Str)] else []) ++ [y]) j' _ _ _ _ _ _ (by omega) q3 (hk _ _ hpl ho) (hk _ _ htl hc) hl' ?_ ?_ ?_ ?_
      · refine StrsAre.append' (StrsAre.append' hs ?_) (.cons _ _ .nil)
        split
        · exact .cons _ _ .nil
        · exact .nil
      · have : (if d < a0 then [Value.str (⟨x.cps.extract d a0⟩ : Str) s.toks] else []).length ≤ 1 := by split <;> simp
        simp only [List.length_append, List.length_singleton]
        omega
      · intro ps hps
        have := hsum _ (.hit h1 hps)
        simpa [List.append_assoc] using this
      · intro ps h'' tk' u hps hk'
        have := hR _ h'' tk' u (.hit h1 hps) fun b o hb hbo => hk' b o hb (hk b o hb hbo)
        simpa [List.append_assoc] using this
    · exact loop_end ho hc hv h2 hK hx hl hs (by omega) (hsum _ (.stop h1)) fun h' tk u hk => hR _ _ _ _ (.stop h1) hk
end
end Mine
end -- W22

section -- W23
open PySem PySem.W PyProof.Rows PySem.Calls PySem.Spec
set_option maxRecDepth 100000
set_option maxHeartbeats 4000000
namespace Mine
theorem entry_sub : entryFor table "re.Pattern.sub" = some Builtin.«re.Pattern.sub» := entryFor_of_tree (by kernel_rfl)
theorem args_sub (a b c : Value) : argsOk "re.Pattern.sub" ⟨[a, b, c], []⟩ := by unfold argsOk; kernel_rfl
theorem slot_sub : Slot "re.Pattern" "sub" "re.Pattern.sub" :=
  .of (owner := "re.Pattern") (n := "sub") (by rw [typeLookup_type, builtinLookup_eq_fast]; kernel_rfl) (by decide +kernel) (by decide +kernel) (by decide +kernel)
    (by first | exact .inl (by decide +kernel) | exact .inr (by decide +kernel)) (by rw [isSubtype_type]; kernel_rfl)
theorem type_sub : typeOf (.builtin "re.Pattern.sub") = pure (.type "method_descriptor") := by show builtinType _ = _; rw [builtinType_eq_fast]; kernel_rfl
theorem plainAttrs_re : PlainAttrs "re.Pattern" :=
  ⟨⟨"object.__getattribute__", by rw [typeLookup_type, builtinLookup_eq_fast]; kernel_rfl, by decide +kernel⟩, by rw [typeLookup_type, builtinLookup_eq_fast]; kernel_rfl⟩
theorem str_call_none : typeLookup (.type "str") "__call__" = pure none := by rw [typeLookup_type, builtinLookup_eq_fast]; kernel_rfl
section
variable {prog : Program} {w : World} {A : Around} {E : Value → Shared → Prop} {s : Shared}
theorem sub_body {src : Str} {t1 t2 t tr : Tok} {fl : Int} {p tp : Addr} {vs : Array Value} {code : Array Nat} {x y : Str} {Q : Fin → Shared → Prop} (hv : (vs.map Builtin.Re.reRawOf).map (·.toNat) = code) (hy : y.cps.contains 92 = false)
    (ho : s.heap.get? p = some (patO src t1 fl t2 tp)) (hc : s.heap.get? tp = some (codeO vs))
    (hq : ∀ tk, Q (.again (.builtin "re.Pattern.sub.loop" ⟨[.ref p, .str x t, .str y tr, .int 0 0, .int 0 0, .int 0 0, .int (0 : Nat) 0, .int (0 : Nat) 0, .bool false, .ref s.heap.objs.size, .bool false], []⟩)) { s with heap := s.heap.push (lO [] 0), toks := tk }) :
    wpAny (model prog w) A (Builtin.«re.Pattern.sub» ⟨[.ref p, .str y tr, .str x t], []⟩) Q E s := by
  unfold Builtin.«re.Pattern.sub» Builtin.Re.reSubstitute
  simp only
  refine wpAny_bind ?_
  unfold Builtin.Re.reNamed
  repeat (any_goals (first | assumption | wp_step))
  rw [str_call_none]
  refine wpAny_pure ?_
  simp only [Option.isSome_none, Bool.false_eq_true, if_false]
  have as : ∀ {Q' : Option Str → Shared → Prop}, Q' (some y) s → wpAny (model prog w) A (asStr? (.str y tr)) Q' E s := by
    intro Q' h
    unfold asStr?
    repeat (any_goals (first | assumption | wp_step))
  refine wpAny_bind (as ?_)
  simp only [pure_bind]
  rw [hy]
  have ite1 : ∀ {α : Type} {X Y : α}, (if ((0 : Int) == 1) = true then X else Y) = Y := fun {α X Y} => if_neg (by decide)
  simp only [Bool.not_false, if_true, pure_bind, ite1]
  refine wpAny_bind (wpAny_holding (wp_whole ho hc hv ?_))
  refine wpAny_bind (wpAny_newList ?_ (by decide))
  exact wpAny_pure (hq _)
end
/-- what sub asks and gives -/
theorem meets_sub {src : Str} {t1 t2 t tr : Tok} {fl : Int} {p tp : Addr} {vs : Array Value} {code : Array Nat} {x y : Str} {NX : Nat → Nat → Nat → Prop} {NO : Nat → Prop} {K : Nat} (hv : (vs.map Builtin.Re.reRawOf).map (·.toNat) = code) (hy : y.cps.contains 92 = false)
    (hS : ∀ q, q ≤ x.cps.size → (∃ a e, NX q a e ∧ Ends K (Sre.forSearch code x.cps 0 q x.cps.size false) (Found a e)) ∨ (NO q ∧ Ends K (Sre.forSearch code x.cps 0 q x.cps.size false) (fun m => m.outcome = some .failed)))
    (hN : ∀ q a e, NX q a e → a < e ∧ q ≤ a ∧ e ≤ x.cps.size) (hK : K < 4 * 2 ^ 64) (hx : 2 * x.length + 2 ≤ sizeLine) (hsum : ∀ ps, Pcs x.cps y NX NO 0 ps → (ps.map (·.length)).sum ≤ 16777216) :
    Meets (Builtin.«re.Pattern.sub» ⟨[.ref p, .str y tr, .str x t], []⟩) (fun _ R s => s.heap.get? p = some (patO src t1 fl t2 tp) ∧ s.heap.get? tp = some (codeO vs) ∧
      ∀ ps h' tk u, Pcs x.cps y NX NO 0 ps → (∀ b o, s.heap.get? b = some o → h'.get? b = some o) → R (.ok (.ret (.str (Txt.join "" ps) u))) { s with heap := h', toks := tk }) := by
  rintro prog w A R s ⟨ho, hc, hR⟩
  refine sub_body hv hy ho hc fun tk => ⟨Code.quiet_builtin _ (by decide +kernel), ?_⟩
  have ne : ∀ {b : Addr} {o : Obj}, s.heap.get? b = some o → b ≠ s.heap.objs.size := fun hb q => by rw [q, get_new] at hb; cases hb
  have kp : ∀ b o, s.heap.get? b = some o → (s.heap.push (lO [] 0)).get? b = some o := fun b o hb => Heap.get?_push_of_some _ hb
  refine sub_loop hv hS hN hK (by omega) (ne ho) (ne hc) x.cps.size 0 { s with heap := s.heap.push (lO [] 0), toks := tk } A R [] [] 0 0 0 0 0 0 0 (by omega) (by omega) (kp _ _ ho) (kp _ _ hc) (Heap.get?_push_size _ rfl) .nil ?_ hsum fun ps h' tk u hps hk => hR ps h' tk u hps fun b o hb => hk b o (ne hb) (kp _ _ hb)
  have : x.length = x.cps.size := rfl
  simp only [List.length_nil]
  omega
end Mine
end -- W23

section -- W24
open PySem PySem.W PyProof.Rows PySem.Calls PySem.Spec
set_option maxRecDepth 100000
set_option maxHeartbeats 4000000
namespace Mine
/-! ## what quotedata makes of a text -/
def nl2 : List Nat → List Nat
  | [] => []
  | 13 :: 10 :: r => 13 :: 10 :: nl2 r
  | c :: r => if nl c = true then 13 :: 10 :: nl2 r else c :: nl2 r
def dots : Bool → List Nat → List Nat
  | _, [] => []
  | b, c :: r => if (b && c == 46) = true then 46 :: 46 :: dots false r else c :: dots (c == 10) r
theorem nl2_skip : ∀ (l r : List Nat), (∀ c ∈ l, nl c = false) → nl2 (l ++ r) = l ++ nl2 r
  | [], r, _ => rfl
  | c :: l, r, h => by
    have hc := h c (.head _)
    have ih := nl2_skip l r fun d hd => h d (.tail _ hd)
    have h13 : c ≠ 13 := fun q => by rw [q] at hc; cases hc
    rw [List.cons_append]
    rw [nl2]
    · rw [if_neg (by rw [hc]; decide), ih]; rfl
    · intro r' q; exact absurd q h13
theorem nl2_crlf (r : List Nat) : nl2 (13 :: 10 :: r) = 13 :: 10 :: nl2 r := by rw [nl2]
theorem nl2_nl {c : Nat} {r : List Nat} (hc : nl c = true) (h : ¬ (c = 13 ∧ r.head? = some 10)) : nl2 (c :: r) = 13 :: 10 :: nl2 r := by
  rw [nl2]
  · rw [if_pos hc]
  · intro r' q1 q2; exact h ⟨q1, by rw [q2]; rfl⟩
theorem getD_toList (T : Array Nat) (i : Nat) : T.getD i 0 = (T.toList[i]?).getD 0 := by simp [Array.getD_eq_getD_getElem?]
theorem drop_at {T : Array Nat} {a : Nat} (h : a < T.size) : T.toList.drop a = T.getD a 0 :: T.toList.drop (a + 1) := by
  have h' : a < T.toList.length := by simpa using h
  rw [List.drop_eq_getElem_cons h', getD_toList, List.getElem?_eq_getElem h']; rfl
theorem piece_list (T : Array Nat) (p a : Nat) : ((if p < a then [(⟨T.extract p a⟩ : Str)] else []).map fun z => z.cps.toList).flatten = (T.toList.drop p).take (a - p) := by
  split
  · simp [Array.toList_extract, List.extract_eq_take_drop]
  · rename_i h
    have : a - p = 0 := by omega
    rw [this]; simp
theorem mem_range {T : Array Nat} {p a : Nat} {c : Nat} (h : c ∈ (T.toList.drop p).take (a - p)) : ∃ i, p ≤ i ∧ i < a ∧ i < T.size ∧ T.getD i 0 = c := by
  obtain ⟨j, hj⟩ := List.mem_iff_getElem?.mp h
  rw [List.getElem?_take] at hj
  split at hj
  · rw [List.getElem?_drop] at hj
    refine ⟨p + j, by omega, by omega, ?_, ?_⟩
    · have := (List.getElem?_eq_some_iff.mp hj).1
      simpa using this
    · rw [getD_toList, hj]; rfl
  · cases hj
abbrev fl (ps : List Str) : List Nat := (ps.map fun z => z.cps.toList).flatten
abbrev No2 (T : Array Nat) (p : Nat) : Prop := ∀ i, p ≤ i → i < T.size → nl (T.getD i 0) = false
abbrev No1 (T : Array Nat) (p : Nat) : Prop := ∀ i, p ≤ i → i < T.size → ¬ Dot T i
theorem pcs2 {T : Array Nat} {y : Str} (hy : y.cps.toList = [13, 10]) {p : Nat} {ps : List Str} (h : Pcs T y (Hit2 T) (No2 T) p ps) : fl ps = nl2 (T.toList.drop p) := by
  induction h with
  | @stop p h =>
    show ((if p < T.size then [(⟨T.extract p T.size⟩ : Str)] else []).map fun z => z.cps.toList).flatten = _
    rw [piece_list]
    have e : (T.toList.drop p).take (T.size - p) = T.toList.drop p := by rw [List.take_of_length_le]; simp
    rw [e]
    have := nl2_skip (T.toList.drop p) [] fun c hc => by
      rw [← e] at hc
      obtain ⟨i, h1, _, h3, rfl⟩ := mem_range hc
      exact h i h1 h3
    rw [List.append_nil, nl2, List.append_nil] at this
    exact this.symm
  | @hit p a e ps h hp ih =>
    obtain ⟨h1, h2, h3, h4, h5⟩ := h
    have e1 : T.toList.drop p = (T.toList.drop p).take (a - p) ++ T.toList.drop a := by
      have := List.take_append_drop (a - p) (T.toList.drop p)
      rw [List.drop_drop, show p + (a - p) = a by omega] at this
      exact this.symm
    have e2 : fl ((if p < a then [(⟨T.extract p a⟩ : Str)] else []) ++ y :: ps) = (T.toList.drop p).take (a - p) ++ ([13, 10] ++ fl ps) := by
      unfold fl
      rw [List.map_append, List.flatten_append, piece_list, List.map_cons, List.flatten_cons, hy]
    rw [e2, e1, nl2_skip _ _ fun c hc => by
      obtain ⟨i, q1, q2, q3, rfl⟩ := mem_range hc
      exact h3 i q1 q2]
    rw [← e1, ih]
    congr 1
    rw [drop_at h2]
    by_cases hc : T.getD a 0 = 13 ∧ a + 1 < T.size ∧ T.getD (a + 1) 0 = 10
    · rw [if_pos hc] at h5
      rw [drop_at hc.2.1, hc.1, hc.2.2, nl2_crlf, h5]; rfl
    · rw [if_neg hc] at h5
      rw [nl2_nl h4, h5]
      · rfl
      · rintro ⟨q1, q2⟩
        rw [List.head?_drop] at q2
        refine hc ⟨q1, ?_, ?_⟩
        · have := (List.getElem?_eq_some_iff.mp q2).1
          simpa using this
        · rw [getD_toList, q2]; rfl
theorem dots_skip (T : Array Nat) : ∀ (n p : Nat), (∀ i, p ≤ i → i < p + n → ¬ Dot T i) → p + n ≤ T.size → dots (bol T p) (T.toList.drop p) = (T.toList.drop p).take n ++ dots (bol T (p + n)) (T.toList.drop (p + n))
  | 0, p, _, _ => by simp
  | n + 1, p, h, hp => by
    have hlt : p < T.size := by omega
    have ih := dots_skip T n (p + 1) (fun i h1 h2 => h i (by omega) (by omega)) (by omega)
    rw [drop_at hlt, dots, if_neg, List.take_succ_cons]
    · have eb : (T.getD p 0 == 10) = bol T (p + 1) := by simp [bol]
      rw [eb, ih, show p + 1 + n = p + (n + 1) by omega]; rfl
    · intro q
      rw [Bool.and_eq_true, beq_iff_eq] at q
      exact h p (Nat.le_refl _) (by omega) q
theorem pcs1 {T : Array Nat} {y : Str} (hy : y.cps.toList = [46, 46]) {p : Nat} {ps : List Str} (h : Pcs T y (Hit1 T) (No1 T) p ps) (hp : p ≤ T.size) : fl ps = dots (bol T p) (T.toList.drop p) := by
  induction h with
  | @stop p h =>
    show ((if p < T.size then [(⟨T.extract p T.size⟩ : Str)] else []).map fun z => z.cps.toList).flatten = _
    rw [piece_list]
    rw [dots_skip T (T.size - p) p (fun i h1 h2 => h i h1 (by omega)) (by omega)]
    have : T.toList.drop (p + (T.size - p)) = [] := by rw [List.drop_eq_nil_iff]; simp; omega
    rw [this, dots, List.append_nil]
  | @hit p a e ps h hps ih =>
    obtain ⟨h1, h2, h3, h4, h5⟩ := h
    have e2 : fl ((if p < a then [(⟨T.extract p a⟩ : Str)] else []) ++ y :: ps) = (T.toList.drop p).take (a - p) ++ ([46, 46] ++ fl ps) := by
      unfold fl
      rw [List.map_append, List.flatten_append, piece_list, List.map_cons, List.flatten_cons, hy]
    rw [e2, dots_skip T (a - p) p (fun i q1 q2 => h3 i q1 (by omega)) (by omega)]
    rw [show p + (a - p) = a by omega]
    congr 1
    rw [drop_at h2, dots, if_pos (by rw [Bool.and_eq_true, beq_iff_eq]; exact h4)]
    rw [ih (by omega), h5]
    have eb : bol T (a + 1) = false := by
      unfold bol
      rw [Nat.add_sub_cancel, h4.2]; rfl
    rw [eb]; rfl
theorem nl2_len : ∀ (n : Nat) (l : List Nat), l.length ≤ n → (nl2 l).length ≤ 2 * l.length
  | _, [], _ => by simp [nl2]
  | 0, c :: r, h => by simp at h
  | n + 1, c :: r, h => by
    have h' : r.length ≤ n := by simpa using h
    have ih := nl2_len n r h'
    by_cases hc : c = 13 ∧ r.head? = some 10
    · obtain ⟨rfl, h2⟩ := hc
      cases r with
      | nil => cases h2
      | cons d r =>
        cases (show some d = some 10 from h2)
        rw [nl2_crlf]
        have := nl2_len n r (by simp at h'; omega)
        simp only [List.length_cons]; omega
    · by_cases hn : nl c = true
      · rw [nl2_nl hn hc]; simp only [List.length_cons]; omega
      · rw [nl2]
        · rw [if_neg hn]; simp only [List.length_cons]; omega
        · intro r' q1 q2; exact hc ⟨q1, by rw [q2]; rfl⟩
theorem dots_len : ∀ (b : Bool) (l : List Nat), (dots b l).length ≤ 2 * l.length
  | _, [] => by simp [dots]
  | b, c :: r => by
    rw [dots]
    split
    · have := dots_len false r
      simp only [List.length_cons]; omega
    · have := dots_len (c == 10) r
      simp only [List.length_cons]; omega
theorem join_fl (ps : List Str) : (Txt.join "" ps).cps.toList = fl ps := by
  unfold Txt.join Builtin.Str.glued fl
  have go : ∀ (qs : List Str) (acc : Array Nat), (qs.foldl (fun acc p => acc ++ (Str.cps "") ++ p.cps) acc).toList = acc.toList ++ (qs.map fun z => z.cps.toList).flatten := by
    intro qs
    induction qs with
    | nil => intro acc; simp
    | cons q qs ih =>
      intro acc
      rw [List.foldl_cons, ih]
      have : (Str.cps "").toList = [] := by decide +kernel
      simp [this]
  cases ps with
  | nil => rfl
  | cons q qs => simpa using go qs q.cps
theorem fl_len (ps : List Str) : (fl ps).length = (ps.map (·.length)).sum := by
  unfold fl
  rw [List.length_flatten, List.map_map]
  rfl
end Mine
end -- W24

section -- W25
open PySem PySem.W PyProof.Rows PySem.Calls PySem.Spec
set_option maxRecDepth 100000
set_option maxHeartbeats 4000000
namespace Mine
theorem hit2_in {T : Array Nat} {p a e : Nat} (h : Hit2 T p a e) : a < e ∧ p ≤ a ∧ e ≤ T.size := by
  obtain ⟨h1, h2, h3, h4, h5⟩ := h
  by_cases hq : T.getD a 0 = 13 ∧ a + 1 < T.size ∧ T.getD (a + 1) 0 = 10
  · rw [if_pos hq] at h5
    have := hq.2.1
    exact ⟨by omega, h1, by omega⟩
  · rw [if_neg hq] at h5
    exact ⟨by omega, h1, by omega⟩
def sub2F (x : Str) : Str := ⟨(nl2 x.cps.toList).toArray⟩
def sub1F (x : Str) : Str := ⟨(dots true x.cps.toList).toArray⟩
def quoteF (x : Str) : Str := sub1F (sub2F x)
theorem nl2_mem : ∀ (n : Nat) (l : List Nat), l.length ≤ n → ∀ c ∈ nl2 l, c = 13 ∨ c = 10 ∨ c ∈ l
  | _, [], _, c, h => by simp [nl2] at h
  | 0, d :: r, h, _, _ => by simp at h
  | n + 1, d :: r, h, c, hc => by
    have h' : r.length ≤ n := by simpa using h
    by_cases hd : d = 13 ∧ r.head? = some 10
    · obtain ⟨rfl, h2⟩ := hd
      cases r with
      | nil => cases h2
      | cons e r =>
        cases (show some e = some 10 from h2)
        rw [nl2_crlf] at hc
        rcases List.mem_cons.mp hc with q | hc
        · exact .inl q
        · rcases List.mem_cons.mp hc with q | hc
          · exact .inr (.inl q)
          · rcases nl2_mem n r (by simp at h'; omega) c hc with q | q | q
            · exact .inl q
            · exact .inr (.inl q)
            · exact .inr (.inr (.tail _ (.tail _ q)))
    · have ih := nl2_mem n r h'
      by_cases hn : nl d = true
      · rw [nl2_nl hn hd] at hc
        rcases List.mem_cons.mp hc with q | hc
        · exact .inl q
        · rcases List.mem_cons.mp hc with q | hc
          · exact .inr (.inl q)
          · rcases ih c hc with q | q | q
            · exact .inl q
            · exact .inr (.inl q)
            · exact .inr (.inr (.tail _ q))
      · rw [nl2] at hc
        · rw [if_neg hn] at hc
          rcases List.mem_cons.mp hc with q | hc
          · exact .inr (.inr (q ▸ .head _))
          · rcases ih c hc with q | q | q
            · exact .inl q
            · exact .inr (.inl q)
            · exact .inr (.inr (.tail _ q))
        · intro r' q1 q2; exact hd ⟨q1, by rw [q2]; rfl⟩
theorem dots_mem : ∀ (b : Bool) (l : List Nat), ∀ c ∈ dots b l, c = 46 ∨ c ∈ l
  | _, [], c, h => by simp [dots] at h
  | b, d :: r, c, h => by
    rw [dots] at h
    split at h
    · rcases List.mem_cons.mp h with q | h
      · exact .inl q
      · rcases List.mem_cons.mp h with q | h
        · exact .inl q
        · exact (dots_mem _ r c h).imp id (.tail _)
    · rcases List.mem_cons.mp h with q | h
      · exact .inr (q ▸ .head _)
      · exact (dots_mem _ r c h).imp id (.tail _)
theorem sub2F_ok {x : Str} (h : PyData.strOk x = true) : PyData.strOk (sub2F x) = true := by
  rw [strOk_mem] at *
  intro c hc
  rcases nl2_mem _ _ (Nat.le_refl _) c (by simpa [sub2F] using hc) with rfl | rfl | q
  · decide
  · decide
  · exact h c q
theorem sub1F_ok {x : Str} (h : PyData.strOk x = true) : PyData.strOk (sub1F x) = true := by
  rw [strOk_mem] at *
  intro c hc
  rcases dots_mem _ _ c (by simpa [sub1F] using hc) with rfl | q
  · decide
  · exact h c q
theorem sub2F_len (x : Str) : (sub2F x).length ≤ 2 * x.length := by
  have := nl2_len _ x.cps.toList (Nat.le_refl _)
  simpa [sub2F, Str.length] using this
theorem sub1F_len (x : Str) : (sub1F x).length ≤ 2 * x.length := by
  have := dots_len true x.cps.toList
  simpa [sub1F, Str.length] using this
section
variable {C : Cx} {n : Nat} {env : Env} {τ : St}
def Mt2 (C : Cx) (n : Nat) (id : String) (eo e1 e2 r : Ent) : Prop :=
  ∀ A, Rm C n A → ∀ S s E ov v w, (∀ x ∈ S, x < s.heap.objs.size) → Gd C s.heap → EntAt S s.heap ov eo → EntAt S s.heap v e1 → EntAt S s.heap w e2 → wpAny (M C) A (call (.builtin id) [ov, v, w]) (fun r' s' => Kp C s s' ∧ EntAt S s'.heap r' r) E s
theorem ev_meth2 {T id : String} {o a b : Expr} {name : Str} {apos pos : Pos} {eo ea eb r : Ent} (pa : PlainAttrs T) (slot : Slot T name id) (hty : typeOf (.builtin id) = pure (.type "method_descriptor"))
    (ho : Ev C n env τ o eo) (hr : Recv C T eo) (ha : Ev C n env τ a ea) (hb : Ev C n env τ b eb) (hc : Mt2 C n id eo ea eb r)
    (hbase : attributeBase o name env (eval o env) = eval o env := by rfl) (hs : starEach [a, b] env = [(false, eval a env), (false, eval b env)] := by rfl) (hline : (apos.endLine == pos.line) = true := by rfl) :
    Ev C n env τ (.Call (.Attribute o name apos) [a, b] [] pos) r := by
  intro A hA s₀ s E F
  refine Call_method2 hbase hs hline (wpK (ho A hA s₀ s E F) fun ov s₁ h₁ => ?_)
  have F₁ := F.keeps h₁.1
  obtain ⟨q1, q2⟩ := hr τ.S s₁ ov F₁.gd' h₁.2
  refine ⟨T, id, pa, slot, hty, q1, q2, ?_⟩
  refine callWith_builtin rfl (evalArgs_plain (spliced_cons (wpK (ha A hA s₀ s₁ E F₁) fun v s₂ h₂ => spliced_cons (wpK (hb A hA s₀ s₂ E (F₁.keeps h₂.1)) fun w s₃ h₃ => spliced_nil ?_))))
  have F₃ := (F₁.keeps h₂.1).keeps h₃.1
  exact wpK (hc A hA τ.S s₃ E ov v w F₃.below F₃.gd' (EntAt.up (h₂.1.trans h₃.1).up h₁.2) (EntAt.up h₃.1.up h₂.2) h₃.2) fun r' s₄ h₄ => ⟨((h₁.1.trans h₂.1).trans h₃.1).trans h₄.1, h₄.2⟩
theorem ev_dat {e : Expr} {x : Str} {t : Tok} (h : Ev C n env τ e (.raw (.str x t))) (hx : PyData.strOk x = true) : Ev C n env τ e (.dat (.str x)) := fun A hA s₀ s E F => wpK (h A hA s₀ s E F) fun v s' ⟨k, e⟩ => by
  cases (e : v = _)
  exact ⟨k, R.str _ _ hx⟩
theorem str_ext {x y : Str} (h : x.cps.toList = y.cps.toList) : x = y := by
  cases x; cases y; simpa using h
theorem mt_sub2 {p tp : Addr} {src : Str} {t1 t2 : Tok} {fg : Int} {vs : Array Value} {x y : Str} (ho : C.K.lookup p = some (patO src t1 fg t2 tp)) (hc : C.K.lookup tp = some (codeO vs)) (hv : (vs.map Builtin.Re.reRawOf).map (·.toNat) = rc2) (hy : y.cps.toList = [13, 10]) (hx : x.length ≤ 1000000) :
    Mt2 C n "re.Pattern.sub" (.raw (.ref p)) (.dat (.str y)) (.dat (.str x)) (.dat (.str (sub2F x))) := by
  intro A _ S s E ov v w hS G ro rv rw_
  cases (ro : ov = _)
  cases (rv : R _ _ _ _); cases (rw_ : R _ _ _ _) with
  | str _ t hxo =>
  have e1 := fun ps (h : Pcs x.cps y (Hit2 x.cps) (No2 x.cps) 0 ps) => pcs2 hy h
  refine call_meets slot_sub (s := s) ⟨_, G.X _ _ ho, rfl⟩ entry_sub (args_sub _ _ _) (meets_sub (NX := Hit2 x.cps) (NO := No2 x.cps) (K := 30) hv ?_ (fun q hq => search2 q hq) (fun q a e h => ?_) (by decide) (by rw [sizeLine_eq]; omega) fun ps h => ?_) ⟨G.X _ _ ho, G.X _ _ hc, fun ps h' tk u h hk => ?_⟩
  · have : y = ⟨#[13, 10]⟩ := str_ext (by rw [hy])
    rw [this]; decide +kernel
  · exact hit2_in h
  · have := e1 ps h
    rw [← fl_len, this]
    have := nl2_len _ (x.cps.toList.drop 0) (Nat.le_refl _)
    have e : x.cps.toList.length = x.length := by simp [Str.length]
    rw [List.drop_zero, e] at this
    rw [List.drop_zero]; omega
  · have e : Txt.join "" ps = sub2F x := str_ext (by rw [join_fl, e1 ps h, List.drop_zero]; simp [sub2F])
    show Kp C s _ ∧ R _ _ _ _
    rw [e]
    exact ⟨⟨h', tk, rfl, .of hk⟩, R.str _ _ (sub2F_ok hxo)⟩
theorem mt_sub1 {p tp : Addr} {src : Str} {t1 t2 : Tok} {fg : Int} {vs : Array Value} {x y : Str} (ho : C.K.lookup p = some (patO src t1 fg t2 tp)) (hc : C.K.lookup tp = some (codeO vs)) (hv : (vs.map Builtin.Re.reRawOf).map (·.toNat) = rc1) (hy : y.cps.toList = [46, 46]) (hx : x.length ≤ 1000000) :
    Mt2 C n "re.Pattern.sub" (.raw (.ref p)) (.dat (.str y)) (.dat (.str x)) (.dat (.str (sub1F x))) := by
  intro A _ S s E ov v w hS G ro rv rw_
  cases (ro : ov = _)
  cases (rv : R _ _ _ _); cases (rw_ : R _ _ _ _) with
  | str _ t hxo =>
  have e1 := fun ps (h : Pcs x.cps y (Hit1 x.cps) (No1 x.cps) 0 ps) => pcs1 hy h (Nat.zero_le _)
  have el : x.length = x.cps.size := rfl
  refine call_meets slot_sub (s := s) ⟨_, G.X _ _ ho, rfl⟩ entry_sub (args_sub _ _ _) (meets_sub (NX := Hit1 x.cps) (NO := No1 x.cps) (K := 3 * x.cps.size + 8) hv ?_ (fun q hq => search1 q hq) (fun q a e h => ?_) (by omega) (by rw [sizeLine_eq]; omega) fun ps h => ?_) ⟨G.X _ _ ho, G.X _ _ hc, fun ps h' tk u h hk => ?_⟩
  · have : y = ⟨#[46, 46]⟩ := str_ext (by rw [hy])
    rw [this]; decide +kernel
  · obtain ⟨h1, h2, h3, h4, h5⟩ := h
    exact ⟨by omega, h1, by omega⟩
  · have := e1 ps h
    rw [← fl_len, this]
    have := dots_len (bol x.cps 0) (x.cps.toList.drop 0)
    have e : x.cps.toList.length = x.length := by simp [Str.length]
    rw [List.drop_zero, e] at this
    rw [List.drop_zero]; omega
  · have e : Txt.join "" ps = sub1F x := str_ext (by rw [join_fl, e1 ps h, List.drop_zero]; simp [sub1F, bol])
    show Kp C s _ ∧ R _ _ _ _
    rw [e]
    exact ⟨⟨h', tk, rfl, .of hk⟩, R.str _ _ (sub1F_ok hxo)⟩
end
section
variable {C : Cx} (hK : C.K = hd.heap_39 C.w.params)
def w2 : Array Value := #[.int 14 0, .int 9 0, .int 4 0, .int 1 0, .int 2 0, .int 16 0, .int 10 0, .int 16 0, .int 13 0, .int 0 0, .int 7 0, .int 7 0, .int 16 0, .int 13 0, .int 16 0, .int 10 0, .int 15 0, .int 18 0, .int 5 0, .int 16 0, .int 10 0, .int 15 0, .int 13 0, .int 11 0, .int 16 0, .int 13 0, .int 5 0, .int 5 0, .int 0 0, .int 16 0, .int 10 0, .int 1 0, .int 15 0, .int 2 0, .int 0 0, .int 1 0]
def w1' : Array Value := #[.int 14 0, .int 4 0, .int 0 0, .int 1 0, .int 1 0, .int 6 0, .int 1 0, .int 16 0, .int 46 0, .int 1 0]
include hK
theorem k177 : C.K.lookup 177 = some (patO "(?:\\r\\n|\\n|\\r(?!\\n))" 494 32 533 176) := by rw [hK]; generalize C.w.params = p; kernel_rfl!
theorem k172 : C.K.lookup 172 = some (patO "(?m)^\\." 478 40 491 171) := by rw [hK]; generalize C.w.params = p; kernel_rfl!
theorem k176 : C.K.lookup 176 = some (codeO w2) := by rw [hK]; generalize C.w.params = p; kernel_rfl!
theorem k171 : C.K.lookup 171 = some (codeO w1') := by rw [hK]; generalize C.w.params = p; kernel_rfl!
theorem fn_quotedata {x : Str} (hx : x.length ≤ 10000) : Fn C 1 184 [.str x] (.str (quoteF x)) := by
  have h2 := sub2F_len x
  refine fn_of (names := ["data"]) (o_quotedata hK) (d_quotedata _) (b_quotedata _) (c_quotedata hK) rfl rfl rfl (fun vs hv => ?_) rfl (fun L X => ?_) rfl rfl rfl
  · match vs, hv with
    | [a], _ => exact h_quotedata _ a
  refine ex_cons (ex_ret (ev_meth2 plainAttrs_re slot_sub type_sub (ev_glob (g_re1 hK)) (recv_K (k172 hK)) ev_str (ev_meth2 plainAttrs_re slot_sub type_sub (ev_glob (g_re2 hK)) (recv_K (k177 hK)) (ev_dat (ev_glob (g_crlf hK)) (by decide +kernel)) (ev_local rfl) (mt_sub2 (k177 hK) (k176 hK) (by decide +kernel) (by decide +kernel) (by omega))) (mt_sub1 (k172 hK) (k171 hK) (by decide +kernel) (by decide +kernel) (by omega))) rfl)
end
end Mine
end -- W25

section -- W26
open PySem PySem.W PyProof.Rows PySem.Calls PySem.Spec
set_option maxRecDepth 100000
set_option maxHeartbeats 4000000
namespace Mine
theorem parts_le (x y : Str) : (Builtin.Str.partsBetween x (Builtin.Str.occurrences x y 0 x.length (x.length + 1)) y.length).length ≤ x.length + 2 := by
  rw [len_partsBetween]
  have := StrLaws.occ_length_le x y 0 x.length (x.length + 1)
  omega
theorem strOk_split {x y : Str} (h : PyData.strOk x = true) : ∀ z ∈ Txt.split x y, PyData.strOk z = true := by
  intro z hz
  unfold Txt.split at hz
  split at hz
  · rw [List.mem_singleton.mp hz]; exact h
  · split at hz
    · rw [List.mem_singleton.mp hz]; exact h
    · unfold Builtin.Str.partsBetween at hz
      obtain ⟨⟨i, j⟩, _, rfl⟩ := List.mem_map.mp hz
      rw [strOk_mem] at *
      intro c hc
      refine h c ?_
      have hc' : c ∈ (x.cps.extract i j).toList := hc
      rw [Array.toList_extract, List.extract_eq_take_drop] at hc'
      exact List.mem_of_mem_drop (List.mem_of_mem_take hc')
def lastC (ms : List Str) (k : Nat) : Bool := ((k : Int).fmod 3 == 0) || ((((k : Int).fmod 3 == 2) && ((decide (sl ms (some ((k : Int) + 1)) (some ((k : Int) + 2)) = [("" : Str)])) && true)) || false)
def endF (ms : List Str) (k : Nat) : Str := if lastC ms k = true then "\n" else if ((k : Int).fmod 3 == 1) = true then "\r\n" else "\r"
def textF (ms : List Str) : Nat → Str
  | 0 => ""
  | k + 1 => (textF ms k ++ ms[k]?.getD "") ++ endF ms k
def sentF (ms : List Str) : List Str := Txt.split (quoteF (textF ms ms.length)) "\r\n"
theorem endF_len (ms : List Str) (k : Nat) : (endF ms k).length ≤ 2 := by
  unfold endF
  split
  · decide +kernel
  · split <;> decide +kernel
theorem endF_ok (ms : List Str) (k : Nat) : PyData.strOk (endF ms k) = true := by
  unfold endF
  split
  · decide +kernel
  · split <;> decide +kernel
theorem textF_len {ms : List Str} (h : ∀ m ∈ ms, m.length ≤ 100) : ∀ k, (textF ms k).length ≤ 102 * k
  | 0 => by show Str.length "" ≤ 0; decide +kernel
  | k + 1 => by
    have ih := textF_len h k
    have h2 := endF_len ms k
    have h3 : (ms[k]?.getD "").length ≤ 100 := by
      cases q : ms[k]? with
      | none => show Str.length "" ≤ 100; decide +kernel
      | some m => exact h m (List.mem_of_getElem? q)
    rw [textF, Str.length_append, Str.length_append]; omega
theorem textF_ok {ms : List Str} (h : ∀ m ∈ ms, PyData.strOk m = true) : ∀ k, PyData.strOk (textF ms k) = true
  | 0 => by show PyData.strOk "" = true; decide +kernel
  | k + 1 => by
    rw [textF]
    refine strOk_append (strOk_append (textF_ok h k) ?_) (endF_ok ms k)
    cases q : ms[k]? with
    | none => decide +kernel
    | some m => exact h m (List.mem_of_getElem? q)
theorem at_nat {α : Type} {xs : List α} {k : Nat} {d : α} (h : xs[k]? = some d) (hs : xs.length ≤ 1000) : at? xs (k : Int) = some d := by
  have hlt := (List.getElem?_eq_some_iff.mp h).1
  unfold at? seqIndex?
  have h0 : ¬ ((k : Int) < 0) := by omega
  simp only [h0, if_false]
  rw [if_pos (by simp only [Bool.and_eq_true, decide_eq_true_eq]; omega)]
  simpa using h
theorem rng_at {n i : Nat} {d : Dat} (h : (rng n)[i]? = some d) : i < n ∧ d = .int (i : Int) := by
  unfold rng at h
  by_cases hh : i < n
  · rw [List.getElem?_map, List.getElem?_range hh] at h
    cases h
    exact ⟨hh, rfl⟩
  · rw [List.getElem?_eq_none (by simpa using hh)] at h; cases h
theorem map_str_inj : ∀ {xs ys : List Str}, xs.map Dat.str = ys.map Dat.str → xs = ys
  | [], [], _ => rfl
  | [], _ :: _, h => by cases h
  | _ :: _, [], h => by cases h
  | x :: xs, y :: ys, h => by
    rw [List.map_cons, List.map_cons] at h
    injection h with h1 h2
    cases h1
    rw [map_str_inj h2]
theorem sl_map {α β : Type} (f : α → β) (xs : List α) (lo hi : Option Int) : sl (xs.map f) lo hi = (sl xs lo hi).map f := by
  unfold sl; rw [List.length_map, List.map_take, List.map_drop]
section
variable {C : Cx} (hK : C.K = hd.heap_39 C.w.params)
include hK
theorem fn_sent {ms : List Str} (hl : ms.length ≤ 20) (hm : ∀ m ∈ ms, m.length ≤ 100) (ho : ∀ m ∈ ms, PyData.strOk m = true) : Fn C 2 205 [.list (ms.map Dat.str)] (.list ((sentF ms).map Dat.str)) := by
  refine fn_of (names := ["mail"]) (o_law_sent hK) (d_law_sent _) (b_law_sent _) (c_law_sent hK) rfl rfl rfl (fun vs hv => ?_) rfl (fun L X => ?_) rfl rfl rfl
  · match vs, hv with
    | [a], _ => exact h_law_sent _ a
  have htl := textF_len hm
  refine ex_cons (ex_assign ev_str ?_)
  have hlm : ((ms.map Dat.str).length : Int) = ((ms.length : Nat) : Int) := by rw [List.length_map]
  refine ex_cons (ex_for2 (fun i => St.set _ "text" (.dat (.str (textF ms i)))) (itr_range (m := ms.length) (ev_boot (g_range hK) v_range) (by
    rw [← hlm]
    exact ev_len_list (ev_boot (g_len hK) v_len) (ev_local rfl) (szl (by rw [List.length_map]; omega))) (by omega)) (Ext.refl _) (fun i d hi => ?_) fun τ' hτ => ?_)
  · have hi' := rng_at hi
    obtain ⟨hi1, rfl⟩ := hi'
    obtain ⟨m, hmi⟩ : ∃ m, ms[i]? = some m := ⟨ms[i], List.getElem?_eq_getElem hi1⟩
    have hmi' : (ms.map Dat.str)[i]? = some (.str m) := by rw [List.getElem?_map, hmi]; rfl
    have hml := hm m (List.mem_of_getElem? hmi)
    have ht := htl i
    have et : textF ms (i + 1) = (textF ms i ++ m) ++ endF ms i := by rw [textF, hmi]; rfl
    have h2 := endF_len ms i
    rw [et]
    refine ex_cons (ex_assign (ev_bin (ev_bin (ev_local rfl) (ev_item_list (ev_local rfl) (ev_local rfl) (at_nat hmi' (by rw [List.length_map]; omega)) (szl (by rw [List.length_map]; omega))) (op_add_str (by rw [sizeLine_eq]; omega))) (b := .str (endF ms i)) (ev_if (c := lastC ms i) (ts_bool (bs_or (ts_cmp (ev_bin (ev_local rfl) ev_int (op_mod_int (by decide))) ev_int op_eq_int) fun _ => bs_or (ts_bool (bs_and (ts_cmp (ev_bin (ev_local rfl) ev_int (op_mod_int (by decide))) ev_int op_eq_int) fun _ => bs_and (ts_cmp (ev_slice_list (ev_local rfl) (pt_some (ev_bin (ev_local rfl) ev_int op_add_int)) (pt_some (ev_bin (ev_local rfl) ev_int op_add_int)) (szl (by rw [List.length_map]; omega))) (ev_list (es_cons ev_str es_nil)) (op_eq_dat (b := decide (sl ms (some ((i : Int) + 1)) (some ((i : Int) + 2)) = [("" : Str)])) ?_ rfl ?_)) fun _ => bs_nil)) fun _ => bs_nil)) (fun hc => ?_) fun hc => ?_) (op_add_str (by rw [sizeLine_eq, Str.length_append]; omega))) (ex_nil ?_))
    · rw [sl_map]; exact shp_strs _
    · rw [sl_map, decide_eq_true_eq]
      constructor
      · intro h; rw [h]; rfl
      · intro h
        have h' : (sl ms (some ((i : Int) + 1)) (some ((i : Int) + 2))).map Dat.str = [("" : Str)].map Dat.str := by simpa using h
        exact map_str_inj h'
    · have e : endF ms i = "\n" := if_pos hc
      rw [e]; exact ev_str
    · refine ev_if (ts_cmp (ev_bin (ev_local rfl) ev_int (op_mod_int (by decide))) ev_int op_eq_int) (fun hd => ?_) fun hd => ?_
      · have e : endF ms i = "\r\n" := (if_neg (ne_true_of_eq_false hc)).trans (if_pos hd)
        rw [e]; exact ev_str
      · have e : endF ms i = "\r" := (if_neg (ne_true_of_eq_false hc)).trans (if_neg (ne_true_of_eq_false hd))
        rw [e]; exact ev_str
    · exact Ext.turn1 rfl
  · have hrl : (rng ms.length).length = ms.length := by simp [rng]
    rw [hrl] at hτ
    have hL := htl ms.length
    have q1 := sub2F_len (textF ms ms.length)
    have q2 := sub1F_len (sub2F (textF ms ms.length))
    have q3 : (quoteF (textF ms ms.length)).length ≤ 10000 := by unfold quoteF; omega
    have q4 := parts_le (quoteF (textF ms ms.length)) "\r\n"
    refine ex_weak hτ (ex_cons (ex_ret (ev_split (ev_call (ev_glob (g_quotedata hK)) (o_quotedata hK) (d_quotedata _) (es_cons (ev_local rfl) es_nil) (fn_quotedata hK (by omega))) ev_str (by decide +kernel) (by rw [sizeLine_eq]; omega) (by rw [sizeLine_eq]; omega) (strOk_split (sub1F_ok (sub2F_ok (textF_ok ho _))))) rfl))
end
end Mine
end -- W26

section -- W27
open PySem PySem.W PyProof.Rows PySem.Calls PySem.Spec
set_option maxRecDepth 100000
set_option maxHeartbeats 4000000
namespace Mine
/-! ## exceptions -/
/-- an IndexError stands at e, off the base, with context c; fg: what its newest entry says of its flight, if it has one -/
def XAt (b0 h : Heap) (e : Addr) (c : Value) (fg : Option Value) : Prop :=
  b0.get? e = none ∧ ∃ ob t tb, h.get? e = some ob ∧ ob.cls = .type "IndexError" ∧ ob.data = .fields #[t, tb, c, .none, .bool false, .none] ∧
    (match fg with
    | none => tb = .none
    | some v => ∃ T oT ts, tb = .ref T ∧ T ≠ e ∧ b0.get? T = none ∧ h.get? T = some oT ∧ oT.data = .fields ts ∧ ts[3]? = some v)
section
variable {C : Cx} {n : Nat} {env : Env} {τ : St}
theorem Fm.soft {s₀ s : Shared} {h' : Heap} {tk : Nat} {W : Addr → Prop} (F : Fm C s₀ env τ s)
    (k : ∀ b o, s.heap.get? b = some o → ¬ W b → h'.get? b = some o ∨ (isDict o.data = true ∧ (b ∈ C.fr ∨ b = env.locals) ∧ ∃ sl, h'.get? b = some { o with slots := sl }))
    (hW : ∀ b, W b → s₀.heap.get? b = none ∧ ∀ o, s.heap.get? b = some o → ∃ vs, o.data = .fields vs) : Fm C s₀ env τ { s with heap := h', toks := tk } := by
  have nf : ∀ b o, s.heap.get? b = some o → (∀ vs, o.data ≠ .fields vs) → ∃ o', h'.get? b = some o' ∧ o'.data = o.data := fun b o ho hd => by
    rcases k b o ho (fun q => by obtain ⟨vs, hv⟩ := (hW b q).2 o ho; exact hd vs hv) with e | ⟨_, _, sl, e⟩
    · exact ⟨_, e, rfl⟩
    · exact ⟨_, e, rfl⟩
  have ex : ∀ b o, s.heap.get? b = some o → (∀ vs, o.data ≠ .fields vs) → isDict o.data = false → h'.get? b = some o := fun b o ho hd hdd => by
    rcases k b o ho (fun q => by obtain ⟨vs, hv⟩ := (hW b q).2 o ho; exact hd vs hv) with e | ⟨q, _, _⟩
    · exact e
    · rw [hdd] at q; cases q
  have sk : SeqK τ.S s.heap h' := fun b o xs j _ ho hd => ex b o ho (fun vs q => by rw [hd] at q; cases q) (by rw [hd]; rfl)
  have pl : ∀ {a xs}, s.heap.PlainList a xs → Heap.PlainList h' a xs := fun {a xs} ⟨j, ho⟩ => ⟨j, ex _ _ ho (fun vs q => by cases q) rfl⟩
  have cl : ∀ {c v}, s.heap.IsCell c v → Heap.IsCell h' c v := fun {c v} ⟨o, ho, hd⟩ => ⟨o, ex _ _ ho (fun vs q => by rw [hd] at q; cases q) (by rw [hd]; rfl), hd⟩
  obtain ⟨hh, t, e0⟩ := F.same
  refine ⟨⟨h', tk, by rw [e0]⟩, F.gd, fun b o hb => ?_, fun e he => ?_, F.above, F.hk, F.hg, F.hb, F.hex, ?_, F.apart, F.cabove, fun p hp => let ⟨w, hw⟩ := F.cell p hp; ⟨w, cl hw⟩, fun x d hx => ?_, fun p hp => ?_, F.nd⟩
  · have hbW : ¬ W b := fun q => by rw [(hW b q).1] at hb; cases hb
    rcases F.keep b o hb with e | ⟨h1, h2, sl, e⟩
    · rcases k b o e hbW with e' | ⟨q1, q2, sl, e'⟩
      · exact .inl e'
      · rcases q2 with q2 | q2
        · exact .inr ⟨q2, q1, sl, e'⟩
        · rw [q2, F.above] at hb; cases hb
    · rcases k b _ e hbW with e' | ⟨q1, q2, sl', e'⟩
      · exact .inr ⟨h1, h2, sl, e'⟩
      · exact .inr ⟨h1, h2, sl', e'⟩
  · obtain ⟨h1, L, o, h2, h3, h4, h5⟩ := F.lv e he
    obtain ⟨o', e', hd'⟩ := nf L o h4 fun vs q => by rw [q] at h5; cases h5
    exact ⟨h1, L, o', h2, h3, e', by rw [hd']; exact h5⟩
  · obtain ⟨m, ⟨oL, es, ep, hL, hLd, r⟩, hm⟩ := F.ns
    obtain ⟨o', e', hd'⟩ := nf _ oL hL fun vs q => by rw [hLd] at q; cases q
    refine ⟨m, ⟨o', es, ep, e', hd'.trans hLd, r⟩, fun x e hx => ?_⟩
    obtain ⟨v, h1, h2⟩ := hm x e hx
    exact ⟨v, h1, h2.seq sk⟩
  · obtain ⟨c, v, h1, h2, h3⟩ := F.cval x d hx
    exact ⟨c, v, h1, cl h2, R.mono sk (fun _ q => .inl q) h3⟩
  · obtain ⟨h1, vs, h2, h3⟩ := F.own p hp
    exact ⟨h1, vs, pl h2, Rs.mono sk (fun _ q => .inl q) h3⟩

theorem wp_note {A : Around} {E : Value → Shared → Prop} {Q : Unit → Shared → Prop} {s₀ s : Shared} {e : Addr} {c : Value} {fg : Option Value} (hfr : A.frames = some (env :: C.fs)) (hf : env.frame = some env.locals) (F : Fm C s₀ env τ s) (hx : XAt s₀.heap s.heap e c fg) (hfl : fg = none ∨ fg = some (rawInt env.locals))
    (h : ∀ s', Fm C s₀ env τ s' → XAt s₀.heap s'.heap e c (some (rawInt env.locals)) → Q () s') : wpAny (M C) A (noteFrame (.ref e) env) Q E s := by
  obtain ⟨he0, ob, t, tb, ho, hc, hd, hm⟩ := id hx
  rcases hfl with rfl | rfl
  · cases (hm : tb = _)
    have hfun : s.heap.FunFrames {} (env :: C.fs) := by
      have go : ∀ l : List Env, (∀ e ∈ l, e.scope.kind ≠ .module ∧ ∃ L o, e.frame = some L ∧ s.heap.get? L = some o ∧ isDict o.data = true) → s.heap.FunFrames {} l := by
        intro l
        induction l with
        | nil => intro _; trivial
        | cons e l ih =>
          intro hl
          obtain ⟨h1, L, o, h2, h3, h4⟩ := hl e (.head _)
          exact ⟨h1, ⟨L, o, h2, rfl, h3, fun vs q => by rw [q] at h4; cases h4⟩, ih fun e' he' => hl e' (.tail _ he')⟩
      refine go _ fun e' he' => ?_
      rcases List.mem_cons.mp he' with rfl | he'
      · obtain ⟨m, ⟨oL, es, ep, hL, hLd, r⟩, _⟩ := F.ns
        exact ⟨by rw [F.hk]; decide, _, oL, hf, hL, by rw [hLd]; rfl⟩
      · obtain ⟨h1, L, o, h2, h3, h4, h5⟩ := F.lv e' he'
        exact ⟨h1, L, o, h2, h4, h5⟩
    unfold noteFrame
    simp only [hf]
    refine wpAny_bind (wpAny_field ho hd (x := .none) rfl ?_)
    rw [if_neg (by decide)]
    refine wpAny_bind (wpAny_frameOf_fun hfr hfun hf fun h₁ hs₁ => ?_)
    refine wpAny_bind (wpAny_entryPlaceOf fun pl hpl => ?_)
    unfold EntryCells.newEntry newFields
    refine wpAny_bind (wpAny_newObj_type ?_ (hpl.sizeOk5 _ _ _ _ _))
    have mem : ∀ b, b ∈ (env :: C.fs).filterMap (·.frame) → ∀ o, s.heap.get? b = some o → isDict o.data = true ∧ (b ∈ C.fr ∨ b = env.locals) := fun b hb o hbo => by
      obtain ⟨e', he', hq⟩ := List.mem_filterMap.mp hb
      rcases List.mem_cons.mp he' with rfl | he'
      · rw [hf] at hq; cases hq
        obtain ⟨m, ⟨oL, es, ep, hL, hLd, r⟩, _⟩ := F.ns
        rw [hL] at hbo; cases hbo
        exact ⟨by rw [hLd]; rfl, .inr rfl⟩
      · obtain ⟨h1, L, o', h2, h3, h4, h5⟩ := F.lv e' he'
        rw [hq] at h2; cases h2
        rw [h4] at hbo; cases hbo
        exact ⟨h5, .inl h3⟩
    have hene : e ∉ (env :: C.fs).filterMap (·.frame) := fun hm => by
      have := (mem e hm ob ho).1
      rw [hd] at this; cases this
    have he₁ : h₁.get? e = some ob := (hs₁.2.1 e hene).trans ho
    have he₂ := Heap.get?_push_of_some (h := h₁) { cls := .type "traceback", dict := none, data := .fields ([Value.none, .ref env.locals, .none, rawInt env.locals, .none] ++ (if pl.isEmpty then List.replicate 6 Value.none else pl)).toArray } he₁
    refine wpAny_setField he₂ hd (Nat.le_of_ble_eq_true rfl) ?_
    have hTe : h₁.objs.size ≠ e := Nat.ne_of_gt (Heap.lt_size he₁)
    have hd₃ := Obj.data_mapFields hd (·.setIfInBounds 1 (Value.ref h₁.objs.size))
    have he₃ := Heap.get?_update_self (Obj.mapFields (·.setIfInBounds 1 (Value.ref h₁.objs.size))) he₂ (Obj.isFreed_of_fields hd₃)
    have hT₃ := (Heap.get?_update_other (h₁.push { cls := .type "traceback", dict := none, data := .fields ([Value.none, .ref env.locals, .none, rawInt env.locals, .none] ++ (if pl.isEmpty then List.replicate 6 Value.none else pl)).toArray })
      (Obj.mapFields (·.setIfInBounds 1 (Value.ref h₁.objs.size))) (Ne.symm hTe)).trans (Heap.get?_push_size h₁ rfl)
    have hTn : s.heap.get? h₁.objs.size = none := by rw [hs₁.1]; exact get_new _
    refine h _ (show Fm C s₀ env τ { s with heap := _, toks := s.toks } from F.soft (W := fun b => b = e) (fun b o hbo hbe => ?_) fun b hb => ?_) ?_
    · have hbe' : e ≠ b := Ne.symm hbe
      by_cases hbf : b ∈ (env :: C.fs).filterMap (·.frame)
      · obtain ⟨sl, hsl⟩ := hs₁.2.2 b o hbo
        obtain ⟨q1, q2⟩ := mem b hbf o hbo
        exact .inr ⟨q1, q2, sl, by rw [Heap.get?_update_other _ _ hbe']; exact Heap.get?_push_of_some _ hsl⟩
      · exact .inl (by rw [Heap.get?_update_other _ _ hbe']; exact Heap.get?_push_of_some _ ((hs₁.2.1 b hbf).trans hbo))
    · subst hb
      exact ⟨he0, fun o hbo => by rw [ho] at hbo; cases hbo; exact ⟨_, hd⟩⟩
    · exact ⟨he0, _, t, .ref h₁.objs.size, he₃, (Obj.cls_mapFields _ _).trans hc, hd₃, h₁.objs.size, _, _, rfl, hTe, none_of_up F.keep hTn, hT₃, rfl, by simp⟩
  · obtain ⟨T, oT, ts, rfl, hTe, hT0, hT, hdT, h3⟩ := hm
    unfold noteFrame
    simp only [hf]
    refine wpAny_bind (wpAny_field ho hd (x := .ref T) rfl ?_)
    rw [if_pos (show (Value.ref T != Value.none) = true from by simp)]
    refine wpAny_bind (wpAny_field hT hdT h3 ?_)
    rw [if_pos (show (rawInt env.locals == rawInt env.locals) = true from by simp)]
    exact wpAny_pure (h s F hx)
/-- the newest entry's word of flight is set -/
theorem wp_flight {A : Around} {E : Value → Shared → Prop} {Q : Unit → Shared → Prop} {s₀ s : Shared} {e : Addr} {c v : Value} (fo : Option Addr) (F : Fm C s₀ env τ s) (hx : XAt s₀.heap s.heap e c (some v))
    (h : ∀ s', Fm C s₀ env τ s' → XAt s₀.heap s'.heap e c (some (fo.elim .none fun f => rawInt f)) → Q () s') : wpAny (M C) A (setFlight (.ref e) fo) Q E s := by
  obtain ⟨he0, ob, t, tb, ho, hc, hd, T, oT, ts, rfl, hTe, hT0, hT, hdT, h3⟩ := id hx
  unfold setFlight
  refine wpAny_bind (wpAny_field ho hd (x := .ref T) rfl ?_)
  rw [if_pos (show (Value.ref T != Value.none) = true from by simp)]
  have hlt : 3 < ts.size := (Array.getElem?_eq_some_iff.mp h3).1
  refine wpAny_setField hT hdT hlt ?_
  have hd₃ := Obj.data_mapFields hdT (·.setIfInBounds 3 (fo.elim Value.none fun f => rawInt f))
  refine h _ (show Fm C s₀ env τ { s with heap := _, toks := s.toks } from F.soft (W := fun b => b = T) (fun b o hbo hbe => .inl ?_) fun b hb => ?_) ?_
  · rw [Heap.get?_update_other _ _ (Ne.symm hbe)]; exact hbo
  · subst hb
    exact ⟨hT0, fun o hbo => by rw [hT] at hbo; cases hbo; exact ⟨_, hdT⟩⟩
  · refine ⟨he0, ob, t, .ref T, ?_, hc, hd, T, _, _, rfl, hTe, hT0, Heap.get?_update_self _ hT (Obj.isFreed_of_fields hd₃), hd₃, by simp [hlt]⟩
    rw [Heap.get?_update_other _ _ hTe]; exact ho
end
end Mine
end -- W27

section -- W28
open PySem PySem.W PyProof.Rows PySem.Calls PySem.Spec
set_option maxRecDepth 100000
set_option maxHeartbeats 4000000
namespace Mine
section
variable {C : Cx} {n : Nat} {env : Env} {τ : St}
/-- what is handled: nothing, or an IndexError without context that stands in the base -/
def Hd (A : Around) (b0 : Heap) : Prop := A.handled = none ∨ ∃ e1 o1 t1 tb1, A.handled = some (.ref e1) ∧ b0.get? e1 = some o1 ∧ o1.data = .fields #[t1, tb1, .none, .none, .bool false, .none]
theorem entry_unchain : entryFor table "proto.unchain" = some Builtin.«proto.unchain» := entryFor_of_tree (by kernel_rfl)
theorem wp_unchain {prog : Program} {w : World} {A : Around} {E : Value → Shared → Prop} {s : Shared} {Q : Value → Shared → Prop} {e e1 : Addr} {o1 : Obj} {t1 tb1 : Value} (h1 : s.heap.get? e1 = some o1) (hd : o1.data = .fields #[t1, tb1, .none, .none, .bool false, .none]) (h : ∀ v, Q v s) :
    wpAny (model prog w) A (runValue (.builtin "proto.unchain" ⟨[.ref e, .ref e1, .ref e1, .bool false], []⟩)) Q E s := by
  refine wpAny_runValue (codeAny_builtin entry_unchain ?_)
  rw [Around.under_plain (show (Code.builtin "proto.unchain" ⟨_, []⟩).weight = 0 from rfl) rfl]
  unfold Builtin.«proto.unchain»
  refine wpAny_bind (wpAny_field h1 hd (x := .none) rfl ?_)
  rw [if_pos (by decide)]
  repeat (any_goals (first | assumption | wp_step))
  all_goals exact h _
/-- an IndexError is raised -/
theorem wp_raise {α : Type} {A : Around} {E : Value → Shared → Prop} {Q : α → Shared → Prop} {s₀ s : Shared} {msg : String} (hA : Hd A s₀.heap) (F : Fm C s₀ env τ s) (h : ∀ e c s', (A.handled = none → c = .none) → Fm C s₀ env τ s' → XAt s₀.heap s'.heap e c none → E (.ref e) s') : wpAny (M C) A (raiseErrorWords "IndexError" msg : Sem α) Q E s := by
  rcases hA with hA | ⟨e1, o1, t1, tb1, hA, h1, hd1⟩
  · refine wpAny_raiseErrorWords plainExc_IndexError hA fun h' tk e hx => ?_
    obtain ⟨ob, t, ho, hc, hd⟩ := hx.there
    exact h e .none _ (fun _ => rfl) (F.keeps ⟨h', tk, rfl, .of hx.keeps⟩) ⟨none_of_up F.keep hx.new, ob, t, .none, ho, hc, hd, rfl⟩
  · unfold raiseErrorWords
    refine wpAny_bind (wpAny_mkText (wpAny_bind (wpAny_newExc_plain plainExc_IndexError (fun h' e hx => ?_) (szl (Nat.le_of_ble_eq_true rfl)))))
    obtain ⟨t, he, htn, ht⟩ := hx.there
    unfold raiseNew
    refine wpAny_bind (wpAny_handled ?_)
    rw [hA]
    obtain ⟨o1', e1', hd1'⟩ := F.keep.ex h1
    have hd1'' : o1'.data = _ := hd1'.trans hd1
    have h1' := hx.keeps _ _ e1'
    have hne : e ≠ e1 := fun q => by
      have := hx.new
      rw [q] at this
      rw [this] at e1'; cases e1'
    simp only
    rw [if_pos (show (Value.ref e1 != Value.ref e) = true from by simp [Ne.symm hne])]
    refine wpAny_bind (wpAny_holding (wp_unchain h1' hd1'' fun v => ?_))
    refine wpAny_bind ?_
    unfold updateField
    refine wpAny_bind (wpAny_load he ?_)
    simp only
    show wpAny (M C) A (if 2 < 6 then update e _ else _) _ _ _
    rw [if_pos (by decide)]
    refine wpAny_update he ?_
    refine wpAny_throw ?_
    have F₁ : Fm C s₀ env τ { s with heap := h', toks := s.toks + 1 } := F.keeps ⟨h', _, rfl, .of hx.keeps⟩
    have hd₃ := Obj.data_mapFields (o := { cls := .type "IndexError", data := .fields #[.ref t, .none, .none, .none, .bool false, .none] }) rfl (·.setIfInBounds 2 (Value.ref e1))
    refine h e (.ref e1) _ (fun q => by rw [hA] at q; cases q) (show Fm C s₀ env τ { ({ s with heap := h', toks := s.toks + 1 } : Shared) with heap := _, toks := s.toks + 1 } from F₁.soft (W := fun b => b = e) (fun b o hbo hbe => .inl ?_) fun b hb => ?_) ⟨none_of_up F.keep hx.new, _, .ref t, .none, Heap.get?_update_self _ he (Obj.isFreed_of_fields hd₃), Obj.cls_mapFields _ _, hd₃, rfl⟩
    · rw [Heap.get?_update_other _ _ (Ne.symm hbe)]; exact hbo
    · subst hb
      exact ⟨none_of_up F.keep hx.new, fun o hbo => by rw [show h'.get? b = _ from he] at hbo; cases hbo; exact ⟨_, rfl⟩⟩

theorem fit_j {j : Nat} (h : j ≤ 1000000) : Builtin.List.listFitsIndex (j : Int) = true := fitsIndex_both (by omega) (by omega)
theorem wp_list_out' {A : Around} {E : Value → Shared → Prop} {Q : Value → Shared → Prop} {s₀ s : Shared} {l : Addr} {vs : List Value} {j m : Nat} {t : Tok} {k : Int} (hA : Hd A s₀.heap) (F : Fm C s₀ env τ s) (hl : s.heap.get? l = some (lO vs m)) (hx : vs.toArray[j]? = none) (hfit : Builtin.List.listFitsIndex k = true) (hk : k = Int.ofNat j)
    (h : ∀ e c s', (A.handled = none → c = .none) → Fm C s₀ env τ s' → XAt s₀.heap s'.heap e c none → E (.ref e) s') : wpAny (M C) A (getItem (.ref l) (.int k t)) Q E s := by
  have hL : s.heap.IsList l vs.toArray := IsL.isList hl
  unfold getItem
  refine wpAny_holding ?_
  refine wpAny_bind (wpAny_sequenceKey hL.typeIs (by decide) ?_)
  refine wpAny_bind (wpAny_callSpecial?_slot (name := Str.ofString "__getitem__") hL.typeIs slot_list_getitem
    (wpAny_call_entry slot_list_getitem hL.typeIs entry_list_getitem ?_ (args_list_getitem _ _)))
  show wpAny _ _ (Builtin.List.listSubscript? (.int k t) >>= _) _ _ s
  refine wpAny_bind (wpAny_listSubscript_int hfit ?_)
  clear hfit
  subst hk
  show wpAny _ _ ((seqItemAt l j >>= fun r => pure (r.map (j, ·))) >>= _) _ _ s
  refine wpAny_bind (wpAny_bind (wpAny_seqItemAt hl rfl (wpAny_pure ?_)))
  rw [hx]
  refine wpAny_bind (wpAny_rule ?_)
  exact wpAny_bind (wp_raise (A := A.in1) hA F h)
theorem wp_list_out {A : Around} {E : Value → Shared → Prop} {Q : Value → Shared → Prop} {s₀ s : Shared} {l : Addr} {vs : List Value} {j m : Nat} {t : Tok} (hA : Hd A s₀.heap) (F : Fm C s₀ env τ s) (hl : s.heap.get? l = some (lO vs m)) (hj : vs.length ≤ j) (hj2 : j ≤ 1000000)
    (h : ∀ e c s', (A.handled = none → c = .none) → Fm C s₀ env τ s' → XAt s₀.heap s'.heap e c none → E (.ref e) s') : wpAny (M C) A (getItem (.ref l) (.int (j : Int) t)) Q E s := by
  exact wp_list_out' hA F hl (by simpa using hj) (fit_j hj2) rfl h
end
end Mine
end -- W28

section -- W29
open PySem PySem.W PyProof.Rows PySem.Calls PySem.Spec
set_option maxRecDepth 100000
set_option maxHeartbeats 4000000
namespace Mine
theorem XAt.up {C : Cx} {b0 h h' : Heap} {e : Addr} {c : Value} {fg : Option Value} (x : XAt b0 h e c fg) (k : Up C h h') : XAt b0 h' e c fg := by
  obtain ⟨he0, ob, t, tb, ho, hc, hd, hm⟩ := x
  refine ⟨he0, ob, t, tb, k.at ho (by rw [hd]; rfl), hc, hd, ?_⟩
  cases fg with
  | none => exact hm
  | some v =>
    obtain ⟨T, oT, ts, h1, h2, h3, h4, h5, h6⟩ := hm
    exact ⟨T, oT, ts, h1, h2, h3, k.at h4 (by rw [h5]; rfl), h5, h6⟩
section
variable {C : Cx} {n : Nat} {env : Env} {τ : St}
def Thr (C : Cx) (A : Around) (s₀ : Shared) (env : Env) (τ : St) (X : St → Prop) (z : Bool) (e : Addr) (s' : Shared) : Prop :=
  ∃ c τ' fg, (z = true → A.handled = none → c = .none) ∧ X τ' ∧ τ'.ex = τ.ex ∧ Fm C s₀ env τ' s' ∧ XAt s₀.heap s'.heap e c fg ∧ (fg = none ∨ fg = some (rawInt env.locals))
/-- a statement that may raise an IndexError, then from a state as X says -/
def ExX1 (C : Cx) (n : Nat) (env : Env) (τ : St) (st : Stmt) (P : Fl → St → Prop) (X : St → Prop) (z : Bool) : Prop :=
  ∀ A, Rm C n A → A.frames = some (env :: C.fs) → ∀ s₀ s E, Hd A s₀.heap → Fm C s₀ env τ s → (∀ e s', Thr C A s₀ env τ X z e s' → E (.ref e) s') → wpAny (M C) A (exec st env) (End C s₀ env τ P) E s
def ExX (C : Cx) (n : Nat) (env : Env) (τ : St) (st : List Stmt) (P : Fl → St → Prop) (X : St → Prop) (z : Bool) : Prop :=
  ∀ A, Rm C n A → A.frames = some (env :: C.fs) → ∀ s₀ s E, Hd A s₀.heap → Fm C s₀ env τ s → (∀ e s', Thr C A s₀ env τ X z e s' → E (.ref e) s') → wpAny (M C) A (execs st env) (End C s₀ env τ P) E s
def TsX (C : Cx) (n : Nat) (env : Env) (τ : St) (t : Expr) (X : St → Prop) : Prop :=
  ∀ A, Rm C n A → A.frames = some (env :: C.fs) → ∀ s₀ s Q E, Hd A s₀.heap → Fm C s₀ env τ s → (∀ e s', Thr C A s₀ env τ X true e s' → E (.ref e) s') → wpAny (M C) A (isTrue t env (eval t env)) Q E s
def ThenX (C : Cx) (n : Nat) (env : Env) (rest : List Stmt) (P : Fl → St → Prop) (X : St → Prop) (z : Bool) : Fl → St → Prop
  | .next, τ => ExX C n env τ rest P X z
  | l, τ => P l τ
theorem Thr.from {A : Around} {s₀ s' : Shared} {τ' : St} {X : St → Prop} {z : Bool} {e : Addr} (h : τ'.ex = τ.ex) (t : Thr C A s₀ env τ' X z e s') : Thr C A s₀ env τ X z e s' := let ⟨c, τ'', fg, a, b, d, r⟩ := t; ⟨c, τ'', fg, a, b, d.trans h, r⟩
theorem Thr.weak {A : Around} {s₀ s' : Shared} {X Y : St → Prop} {z : Bool} {e : Addr} (t : Thr C A s₀ env τ X true e s') (h : ∀ τ', X τ' → Y τ') : Thr C A s₀ env τ Y z e s' := let ⟨c, τ'', fg, a, b, d, r⟩ := t; ⟨c, τ'', fg, fun _ => a rfl, h _ b, d, r⟩
theorem exx_of1 {st : Stmt} {P : Fl → St → Prop} {X : St → Prop} {z : Bool} (h : Ex1 C n env τ st P) : ExX1 C n env τ st P X z := fun A hA _ s₀ s E _ F _ => h A hA s₀ s E F
theorem exx_nil {P : Fl → St → Prop} {X : St → Prop} {z : Bool} (h : P .next τ) : ExX C n env τ [] P X z := fun _ _ _ _ _ _ _ F _ => wpAny_execs_nil ⟨.next, τ, h, rfl, rfl, F⟩
theorem exx_cons {st : Stmt} {rest : List Stmt} {P : Fl → St → Prop} {X : St → Prop} {z : Bool} (h : ExX1 C n env τ st (ThenX C n env rest P X z) X z) : ExX C n env τ (st :: rest) P X z := by
  intro A hA hfr s₀ s E hd F hE
  refine wpAny_execs_cons (wpK (h A hA hfr s₀ s E hd F hE) fun f s₁ h₁ => ?_)
  obtain ⟨l, τ', hp, hf, hx, F'⟩ := h₁
  cases l with
  | next =>
    cases (hf : f = _)
    refine wpK (hp A hA hfr s₀ s₁ E hd F' fun e s' t => hE e s' (t.from hx)) fun g s₂ h₂ => ?_
    obtain ⟨l, τ'', hp, hf, hx', F''⟩ := h₂
    rw [hx] at hf hx'
    exact ⟨l, τ'', hp, hf, hx', F''⟩
  | brk => cases (hf : f = _); exact ⟨.brk, τ', hp, rfl, hx, F'⟩
  | cont => cases (hf : f = _); exact ⟨.cont, τ', hp, rfl, hx, F'⟩
  | ret d => obtain ⟨v, rfl, r⟩ := hf; exact ⟨.ret d, τ', hp, ⟨v, rfl, r⟩, hx, F'⟩
theorem exx_if {t : Expr} {a b : List Stmt} {pos : Pos} {c : Bool} {P : Fl → St → Prop} {X : St → Prop} {z : Bool} (ht : Ts C n env τ t c) (ha : c = true → ExX C n env τ a P X z) (hb : c = false → ExX C n env τ b P X z) : ExX1 C n env τ (.If t a b pos) P X z := by
  intro A hA hfr s₀ s E hd F hE
  refine wpAny_If (wpK (ht A hA s₀ s E F) fun d s₁ h₁ => ?_)
  obtain ⟨k, rfl⟩ := h₁
  cases d with
  | true => exact ha rfl A hA hfr s₀ s₁ E hd (F.keeps k) hE
  | false => exact hb rfl A hA hfr s₀ s₁ E hd (F.keeps k) hE
/-- an exception on its way out of a loop -/
theorem pass {A A' : Around} {E : Value → Shared → Prop} {s₀ s : Shared} {X : St → Prop} {z : Bool} {e : Addr} (hfr : A.frames = some (env :: C.fs)) (hf : env.frame = some env.locals) (t : Thr C A s₀ env τ X z e s) (hE : ∀ e s', Thr C A s₀ env τ X z e s' → E (.ref e) s') :
    notedBy (M C) A env (fun x s' => cameBackBy (M C) A' env E x s') (.ref e) s := by
  obtain ⟨c, τ', fg, h1, h2, h3, F', x, h4⟩ := t
  unfold notedBy
  refine wp_note hfr hf F' x h4 fun s' F₁ x₁ => ?_
  unfold cameBackBy
  obtain ⟨he0, ob, t, tb, ho, hc, hd, T, oT, ts, rfl, hTe, hT0, hT, hdT, h5⟩ := id x₁
  refine wpAny_bind (wpAny_field ho hd (x := .ref T) rfl ?_)
  rw [if_neg (show ¬ ((Value.ref T == Value.none) = true) from by simp)]
  rw [hf]
  exact wp_flight (some env.locals) F₁ x₁ fun s'' F₂ x₂ => hE e s'' ⟨c, τ', _, h1, h2, h3, F₂, x₂, .inr rfl⟩
end
end Mine
end -- W29

section -- W30
open PySem PySem.W PyProof.Rows PySem.Calls PySem.Spec
set_option maxRecDepth 100000
set_option maxHeartbeats 4000000
namespace Mine
section
variable {C : Cx} {n : Nat} {env : Env} {τ : St}
/-- v[i] beyond the end -/
theorem item_out {v i : Expr} {pos : Pos} {ds : List Dat} {j : Nat} (hv : Ev C n env τ v (.dat (.list ds))) (hi : Ev C n env τ i (.dat (.int (j : Int)))) (hj : ds.length ≤ j) (hj2 : j ≤ 1000000)
    (hs : ∀ o i', subscripted i false o i' = operate [o, i'] (getItem o i') := by intro _ _; rfl) :
    ∀ A, Rm C n A → ∀ s₀ s Q E, Hd A s₀.heap → Fm C s₀ env τ s → (∀ e s', Thr C A s₀ env τ (fun τ' => τ' = τ) true e s' → E (.ref e) s') → wpAny (M C) A (eval (.Subscript v i pos) env) Q E s := by
  intro A hA s₀ s Q E hd F hE
  refine wp_sub hs (wpK (hv A hA s₀ s E F) fun o s₁ h₁ => wpK (hi A hA s₀ s₁ E (F.keeps h₁.1)) fun k s₂ h₂ => ?_)
  obtain ⟨k₂, h₂⟩ := h₂
  have r₁ : R s₂.heap τ.S o (.list ds) := R.up h₁.2 k₂.up
  have F₂ := (F.keeps h₁.1).keeps k₂
  cases (h₂ : R _ _ _ _)
  cases r₁ with
  | list hl ho r =>
    refine ⟨"list", _, list_getitem_lookup, ⟨_, ho, rfl⟩, ?_⟩
    exact wp_list_out hd F₂ ho (by rw [r.length]; exact hj) hj2 fun e c s' hc F' x => hE e s' ⟨c, τ, none, fun _ => hc, rfl, rfl, F', x, .inl rfl⟩
theorem tsx_out {v i r : Expr} {pos p : Pos} {ds : List Dat} {j : Nat} (hv : Ev C n env τ v (.dat (.list ds))) (hi : Ev C n env τ i (.dat (.int (j : Int)))) (hj : ds.length ≤ j) (hj2 : j ≤ 1000000)
    (hs : ∀ o i', subscripted i false o i' = operate [o, i'] (getItem o i') := by intro _ _; rfl) (hm : behindInMarks .Eq r = false := by with_unfolding_all rfl) : TsX C n env τ (.Compare (.Subscript v i p) [.Eq] [r] pos) (fun τ' => τ' = τ) :=
  fun A hA _ s₀ s Q E hd F hE => wpAny_isTrue_Compare1 (item_out hv hi hj hj2 hs A hA s₀ s _ E hd F hE) hm
theorem exx_assign_out {x : Str} {px pos p : Pos} {v i : Expr} {ds : List Dat} {j : Nat} {P : Fl → St → Prop} {X : St → Prop} {z : Bool} (hv : Ev C n env τ v (.dat (.list ds))) (hi : Ev C n env τ i (.dat (.int (j : Int)))) (hj : ds.length ≤ j) (hj2 : j ≤ 1000000) (hX : X τ)
    (hs : ∀ o i', subscripted i false o i' = operate [o, i'] (getItem o i') := by intro _ _; rfl) (hsw : swapsWith (.Subscript v i p) (some (.Name x px)) pos.line env = pure false := by rfl) : ExX1 C n env τ (.Assign [.Name x px] (.Subscript v i p) pos) P X z :=
  fun A hA _ s₀ s E hd F hE => wpAny_Assign_Name (item_out hv hi hj hj2 hs A hA s₀ s _ E hd F fun e s' t => hE e s' (t.weak fun τ' q => q ▸ hX)) hsw
theorem exx_while {test : Expr} {body : List Stmt} {pos : Pos} {P : Fl → St → Prop} {X : St → Prop} {z : Bool} (hf : env.frame = some env.locals) (J : Nat → St → Prop) (k : Nat) (h0 : J k τ)
    (turn : ∀ k τ', J k τ' → (TsX C n env τ' test X) ∨ ∃ b, Ts C n env τ' test b ∧ (b = true → ExX C n env τ' body (fun l τ'' => match l with
      | .next | .cont => ∃ m, m < k ∧ J m τ''
      | .brk => P .next τ''
      | .ret r => P (.ret r) τ'') X z) ∧ (b = false → P .next τ')) : ExX1 C n env τ (.While test body [] pos) P X z := by
  intro A hA hfr s₀ s E hd F hE
  refine wpAny_While (codeAny_whileLoop (fun k s' => ∃ τ', J k τ' ∧ τ'.ex = τ.ex ∧ Fm C s₀ env τ' s') ?_ k ⟨τ, h0, rfl, F⟩)
  rintro k s' ⟨τ', hJ, hx', F'⟩
  have hE' : ∀ τ', τ'.ex = τ.ex → ∀ e s', Thr C A s₀ env τ' X z e s' → notedBy (M C) A env (fun x s' => cameBackBy (M C) A env E x s') (.ref e) s' := fun τ' hx e s' t => pass hfr hf (t.from hx) hE
  rcases turn k τ' hJ with hX | ⟨b, ht, hb, he⟩
  · exact hX A hA hfr s₀ s' _ _ hd F' fun e s' t => hE' τ' hx' e s' (t.weak fun _ q => q)
  refine wpK (ht A hA s₀ s' _ F') fun c s₁ h₁ => ?_
  obtain ⟨k₁, rfl⟩ := h₁
  have F₁ := F'.keeps k₁
  cases c with
  | false => exact wpAny_execs_nil ⟨.next, τ', he rfl, rfl, hx', F₁⟩
  | true =>
    refine wpK (hb rfl A hA hfr s₀ s₁ _ hd F₁ (hE' τ' hx')) fun f s₂ h₂ => ?_
    obtain ⟨l, τ'', hp, hfl, hx'', F₂⟩ := h₂
    cases l with
    | brk => cases (hfl : f = _); exact ⟨.next, τ'', hp, rfl, hx''.trans hx', F₂⟩
    | ret r =>
      obtain ⟨v, rfl, rr⟩ := hfl
      rw [hx'] at rr
      exact ⟨.ret r, τ'', hp, ⟨v, rfl, rr⟩, hx''.trans hx', F₂⟩
    | next =>
      cases (hfl : f = _)
      obtain ⟨m, hm, hj⟩ := hp
      exact ⟨m, hm, τ'', hj, hx''.trans hx', F₂⟩
    | cont =>
      cases (hfl : f = _)
      obtain ⟨m, hm, hj⟩ := hp
      exact ⟨m, hm, τ'', hj, hx''.trans hx', F₂⟩
theorem ie_base : isSubtype (.type "IndexError") (.type "BaseException") = pure true := by rw [isSubtype_type]; kernel_rfl
theorem ie_self : isSubtype (.type "IndexError") (.type "IndexError") = pure true := by rw [isSubtype_type]; kernel_rfl
theorem ie_meta : isSubtype (.type ((Manifest.find? "IndexError").elim "type" fun x => x.metatype)) (.type "tuple") = pure false := by rw [isSubtype_type]; kernel_rfl
theorem exx_try {body : List Stmt} {t : Expr} {b₀ : Stmt} {suite : List Stmt} {hp pos : Pos} {P : Fl → St → Prop} {X Y : St → Prop} {z z' : Bool} (hf : env.frame = some env.locals) (hb : ExX C n env τ body P X z) (ht : ∀ τ', X τ' → Ev C 0 env τ' t (.raw (.type "IndexError"))) (hs : ∀ τ', X τ' → Ex C 0 env τ' (b₀ :: suite) P) :
    ExX1 C n env τ (.Try body [.ExceptHandler (some t) none (b₀ :: suite) hp] [] [] pos) P Y z' := by
  intro A hA hfr s₀ s E hd F hE
  refine wpAny_Try_except (wpK (hb A hA hfr s₀ s _ hd F fun e s₁ th => ?_) fun f s₁ h₁ => ?_)
  · obtain ⟨c, τ', fg, h1, h2, h3, F', x, h4⟩ := th
    refine wp_note hfr hf F' x h4 fun s₂ F₂ x₂ => wp_flight none F₂ x₂ fun s₃ F₃ x₃ => ?_
    have hA0 : Rm C 0 (A.mark (some (.ref e))) := ⟨fun q => absurd q (Nat.lt_irrefl _), by have := hA.dp; simp only [Around.mark]; omega, by have := hA.un; simp only [Around.mark]; omega, fun q => by omega⟩
    refine wpAny_handleBy_builtin ie_base ie_meta ie_self (wpK (ht τ' h2 _ hA0 s₀ s₃ _ F₃) fun v s₄ h₄ => ?_)
    obtain ⟨k₄, hv⟩ := h₄
    have x₄ := x₃.up k₄.up
    have F₄ := F₃.keeps k₄
    refine ⟨hv, ?_, ?_⟩
    · obtain ⟨_, ob, _, _, ho, hc, _⟩ := x₄
      exact ⟨ob, ho, hc⟩
    · rw [if_pos rfl]
      refine wp_flight none F₄ x₄ fun s₅ F₅ x₅ => ?_
      refine wpK (hs τ' h2 _ hA0 s₀ s₅ _ F₅) fun f s₆ ⟨l, τ'', hp, hfl, hx, F₆⟩ => ⟨l, τ'', hp, by rw [← h3]; exact hfl, hx.trans h3, F₆⟩
  · cases f with
    | next => exact wpAny_execs_nil h₁
    | _ => exact h₁
end
end Mine
end -- W30

section -- W31
open PySem PySem.W PyProof.Rows PySem.Calls PySem.Spec
set_option maxRecDepth 100000
set_option maxHeartbeats 400000
namespace Mine
section
variable {C : Cx} {n : Nat} {env : Env} {τ : St}
theorem exx_finally {body : List Stmt} {f₀ : Stmt} {fs : List Stmt} {pos : Pos} {P : Fl → St → Prop} {B X₁ X : St → Prop} (hn : 0 < n) (hf : env.frame = some env.locals) (hb : ExX C n env τ body (fun l τ' => l = .next ∧ B τ') X₁ true)
    (h1 : ∀ τ', B τ' → ExX C n env τ' (f₀ :: fs) (fun l τ'' => l = .next ∧ P .next τ'') X false) (h2 : ∀ τ', X₁ τ' → ExX C 0 env τ' (f₀ :: fs) (fun l τ'' => l = .next ∧ X τ'') X false) : ExX1 C n env τ (.Try body [] [] (f₀ :: fs) pos) P X false := by
  intro A hA hfr s₀ s E hd F hE
  refine wpAny_Try_finally (wpK (hb A hA hfr s₀ s _ hd F fun e s₁ th => ?_) fun f s₁ h₁ => ?_)
  · obtain ⟨c, τ', fg, q1, q2, q3, F', x, q4⟩ := th
    have hc : c = .none := q1 rfl (hA.hh hn)
    subst hc
    refine wp_note hfr hf F' x q4 fun s₂ F₂ x₂ => ⟨(fun q => by cases q), wp_note hfr hf F₂ x₂ (.inr rfl) fun s₃ F₃ x₃ => wp_flight none F₃ x₃ fun s₄ F₄ x₄ => ?_⟩
    have hA0 : Rm C 0 (A.mark (some (.ref e))) := ⟨fun q => absurd q (Nat.lt_irrefl _), by have := hA.dp; simp only [Around.mark]; omega, by have := hA.un; simp only [Around.mark]; omega, fun q => by omega⟩
    -- the block runs over a base in which the exception stands
    have G := F₄.up'
    obtain ⟨he0, ob, t, tb, ho, hc, hdt, T, oT, ts, rfl, hTe, hT0, hT, hdT, h3⟩ := id x₄
    have notT : ∀ (b : Addr) (o : Obj) (vs : Array Value), s₄.heap.get? b = some o → o.data = .fields vs → b ∉ turns env τ' := fun b o vs hbo hbd q => by
      rcases List.mem_cons.mp q with q | q
      · obtain ⟨m, ⟨oL, es, ep, hL, hLd, _⟩, _⟩ := F₄.ns
        rw [q, hL] at hbo; cases hbo
        rw [hLd] at hbd; cases hbd
      · rcases List.mem_append.mp q with q | q
        · obtain ⟨p, hp, rfl⟩ := List.mem_map.mp (mem_ite_nil q).2
          obtain ⟨w, oc, hoc, hdc⟩ := F₄.cell p hp
          rw [hoc] at hbo; cases hbo
          rw [hdc] at hbd; cases hbd
        · obtain ⟨p, hp, rfl⟩ := List.mem_map.mp q
          obtain ⟨_, vs', ⟨k, hl⟩, _⟩ := F₄.own p hp
          rw [hl] at hbo; cases hbo
          cases hbd
    have be : (hid s₄ (turns env τ')).heap.get? e = some ob := hideAll_get _ ho (notT _ _ _ ho hdt)
    have bT : (hid s₄ (turns env τ')).heap.get? T = some oT := hideAll_get _ hT (notT _ _ _ hT hdT)
    refine wpK (h2 τ' q2 (A.mark (some (.ref e))) hA0 hfr (hid s₄ (turns env τ')) s₄ _ (.inr ⟨e, ob, t, .ref T, rfl, be, hdt⟩) G fun e2 s₅ th2 => ?_) fun g s₅ h₅ => ?_
    · refine pass (A := A.mark (some (.ref e))) (A' := A) (s₀ := hid s₄ (turns env τ')) (τ := τ') hfr hf th2 fun e3 s₆ th3 => ?_
      obtain ⟨c3, τ3, fg3, r1, r2, r3, F₆, x6, r4⟩ := th3
      refine hE e3 s₆ ⟨c3, τ3, fg3, (fun q => nomatch q), r2, r3.trans q3, F₄.updown F₆ r3, ?_, r4⟩
      -- over the narrower base
      have nb : ∀ {b : Addr}, (hid s₄ (turns env τ')).heap.get? b = none → s₀.heap.get? b = none := fun {b} hb => none_of_up (F₄.keep.then (P := fun b => b ∈ turns env τ') (fun b o hb ho => hideAll_get _ ho hb) fun b q => F₄.base_none b q) hb
      obtain ⟨y0, y⟩ := x6
      refine ⟨nb y0, ?_⟩
      obtain ⟨ob', t', tb', w1, w2, w3, w4⟩ := y
      refine ⟨ob', t', tb', w1, w2, w3, ?_⟩
      cases fg3 with
      | none => exact w4
      | some v =>
        obtain ⟨T', oT', ts', z1, z2, z3, z4⟩ := w4
        exact ⟨T', oT', ts', z1, z2, nb z3, z4⟩
    · obtain ⟨l, τ'', ⟨rfl, hX⟩, hfl, hx, F₅⟩ := h₅
      cases (hfl : g = _)
      have ho5 : s₅.heap.get? e = some ob := F₅.keep.at be (by rw [hdt]; rfl)
      have hT5 : s₅.heap.get? T = some oT := F₅.keep.at bT (by rw [hdT]; rfl)
      have x5 : XAt s₀.heap s₅.heap e .none (some .none) := ⟨he0, ob, t, .ref T, ho5, hc, hdt, T, oT, ts, rfl, hTe, hT0, hT5, hdT, h3⟩
      have F5 : Fm C s₀ env τ'' s₅ := F₄.updown F₅ hx
      show wpAny (M C) A (PySem.passOn "try.finally" (.ref e) env) _ E s₅
      unfold PySem.passOn
      refine wpAny_bind (wpAny_field ho5 hdt (x := .ref T) rfl ?_)
      rw [if_neg (show ¬ ((Value.ref T == Value.none) = true) from by simp)]
      refine wpAny_bind ?_
      rw [hf]
      refine wp_flight (some env.locals) F5 x5 fun s₆ F₆ x₆ => wpAny_throw ?_
      exact hE e s₆ ⟨.none, τ'', _, (fun q => nomatch q), hX, hx.trans q3, F₆, x₆, .inr rfl⟩
  · obtain ⟨l, τ', ⟨rfl, hB⟩, hfl, hx, F₁⟩ := h₁
    cases (hfl : f = _)
    refine wpAny_execs_nil ?_
    refine wpK (h1 τ' hB A hA hfr s₀ s₁ _ hd F₁ fun e s' th => pass hfr hf (th.from hx) hE) fun g s₂ h₂ => ?_
    obtain ⟨l, τ'', ⟨rfl, hP⟩, hfl, hx', F₂⟩ := h₂
    cases (hfl : g = _)
    exact ⟨.next, τ'', hP, rfl, hx'.trans hx, F₂⟩
/-- o.extend(e), o one of the frame's own lists -/
theorem ex_extend {o e : Expr} {apos cpos pos : Pos} {a : Addr} {ds xs : List Dat} {l1 l2 : List (Addr × List Dat)} {P : Fl → St → Prop} (ho : Ev C n env τ o (.raw (.ref a))) (he : Ev C n env τ e (.dat (.list ds))) (hl : τ.led = l1 ++ (a, xs) :: l2) (hsz : xs.length + ds.length ≤ 1000)
    (h : P .next { τ with led := l1 ++ (a, xs ++ ds) :: l2 })
    (hbase : attributeBase o "extend" env (eval o env) = eval o env := by rfl) (hs : starEach [e] env = [(false, eval e env)] := by rfl) (hline : (apos.endLine == cpos.line) = true := by rfl)
    (hi : interactive env = false := by rfl) (hsw : swapsWith (.Call (.Attribute o "extend" apos) [e] [] cpos) none pos.line env = pure false := by rfl) :
    Ex1 C n env τ (.Expr (.Call (.Attribute o "extend" apos) [e] [] cpos) pos) P := by
  intro A hA s₀ s E F
  refine wpAny_Expr (Call_method1 hbase hs hline (wpK (ho A hA s₀ s E F) fun ov s₁ h₁ => ?_)) hi hsw
  obtain ⟨k₁, rfl⟩ := h₁
  have F₁ := F.keeps k₁
  obtain ⟨h0, vs, ⟨j, hl'⟩, rv⟩ := F₁.own (a, xs) (by rw [hl]; simp)
  refine ⟨"list", _, PySem.F.plainAttrs_list, PySem.F.slot_list_extend, PySem.F.type_list_extend, ⟨_, hl', rfl⟩, fun b q => by cases q; exact ⟨_, hl', rfl⟩, ?_⟩
  refine PySem.P.extend_list (wpK (he A hA s₀ s₁ E F₁) fun v s₂ ⟨k₂, r₂⟩ => ?_)
  have F₂ := F₁.keeps k₂
  obtain ⟨h0, vs, ⟨j, hl'⟩, rv⟩ := F₂.own (a, xs) (by rw [hl]; simp)
  cases (r₂ : R _ _ _ _) with
  | @list b ws m _ hb hbo rw_ =>
  have e1 : vs.length = xs.length := rv.length
  have e2 : ws.length = ds.length := rw_.length
  refine ⟨b, vs.toArray, ws.toArray, j, m, by rw [List.size_toArray]; exact szl (by omega), by rw [List.size_toArray, List.size_toArray, sizeLine_eq]; omega, ?_, rfl, hl', hbo, ?_⟩
  · unfold Builtin.List.listTooLong
    simp only [List.size_toArray, sizeLine_eq]
    have : ¬ (vs.length + ws.length > 16777216) := by omega
    simp [this]
  · exact ⟨.next, _, h, rfl, rfl, F₂.updOwn (tk := s₂.toks) hl (Heap.SameBut.update ..) (IsL.push_upd hl' _ (vs ++ ws) (by simp)) (rv.append rw_)⟩
end
end Mine
end -- W31

section -- W32
open PySem PySem.W PyProof.Rows PySem.Calls PySem.Spec
set_option maxRecDepth 100000
set_option maxHeartbeats 1000000
namespace Mine
/-- what sorted_list_difference tells of two lists -/
def diffF : Nat → List Str → List Str → List Str × List Str
  | n + 1, e :: es, a :: as =>
    if ltS e a = true then let r := diffF n (es.dropWhile (· == e)) (a :: as); (e :: r.1, r.2)
    else if ltS a e = true then let r := diffF n (e :: es) (as.dropWhile (· == a)); (r.1, a :: r.2)
    else diffF n (es.dropWhile (· == e)) (as.dropWhile (· == a))
  | _, es, as => (es, as)
theorem dropWhile_le {α : Type} (p : α → Bool) (l : List α) : (l.dropWhile p).length ≤ l.length := by
  induction l with
  | nil => simp
  | cons a l ih =>
    rw [List.dropWhile_cons]
    split
    · rw [List.length_cons]; omega
    · exact Nat.le_refl _
theorem diffF_fuel : ∀ (n : Nat) (es as : List Str), es.length + as.length ≤ n → ∀ m, n ≤ m → diffF m es as = diffF n es as := by
  intro n
  induction n with
  | zero =>
    intro es as h m hm
    have h1 : es = [] := List.length_eq_zero_iff.mp (by omega)
    subst h1
    cases m <;> rfl
  | succ n ih =>
    intro es as h m hm
    obtain ⟨m', rfl⟩ : ∃ m', m = m' + 1 := ⟨m - 1, by omega⟩
    cases es with
    | nil => rfl
    | cons e es =>
      cases as with
      | nil => rfl
      | cons a as =>
        have l1 := dropWhile_le (· == e) es
        have l2 := dropWhile_le (· == a) as
        simp only [List.length_cons] at h
        rw [diffF, diffF]
        rw [ih (es.dropWhile (· == e)) (a :: as) (by simp only [List.length_cons]; omega) m' (by omega), ih (e :: es) (as.dropWhile (· == a)) (by simp only [List.length_cons]; omega) m' (by omega), ih (es.dropWhile (· == e)) (as.dropWhile (· == a)) (by omega) m' (by omega)]
theorem drop_skip {xs : List Str} {v : Str} : ∀ {i : Nat} (d : Nat), (∀ k, i ≤ k → k < i + d → xs[k]? = some v) → (xs.drop i).dropWhile (· == v) = (xs.drop (i + d)).dropWhile (· == v)
  | i, 0, _ => rfl
  | i, d + 1, h => by
    have h0 := h i (Nat.le_refl _) (by omega)
    obtain ⟨hlt, hv⟩ := List.getElem?_eq_some_iff.mp h0
    rw [List.drop_eq_getElem_cons hlt, hv, List.dropWhile_cons]
    rw [if_pos (by simp)]
    rw [drop_skip (i := i + 1) d fun k h1 h2 => h k (by omega) (by omega), show i + 1 + d = i + (d + 1) by omega]
theorem drop_stop {xs : List Str} {v w : Str} {i : Nat} (h : xs[i]? = some w) (hw : (w == v) = false) : (xs.drop i).dropWhile (· == v) = xs.drop i := by
  obtain ⟨hlt, hv⟩ := List.getElem?_eq_some_iff.mp h
  rw [List.drop_eq_getElem_cons hlt, hv, List.dropWhile_cons, hw]; rfl
end Mine
end -- W32

section -- W33
open PySem PySem.W PyProof.Rows PySem.Calls PySem.Spec
set_option maxRecDepth 100000
set_option maxHeartbeats 1000000
namespace Mine
section
variable {C : Cx}
theorem fn_ofX {f : Addr} {o : Obj} {fd : FuncData} {body : List Stmt} {names : List Str} {args : List Dat} {r : Dat} (ho : C.K.lookup f = some o) (hd : o.data = .func fd) (hbody : fd.body = .stmts body) (hcd : codeIn C.K fd.code fd.qualname = true)
    (hg : fd.globals = mainGlobals) (hbn : fd.builtins = builtinsNs) (hclo : fd.closure = [])
    (hbind : ∀ vs, vs.length = args.length → bindArgs fd ⟨vs, []⟩ = pure (names.zip vs)) (hok : fnOk fd names = true)
    (h : ∀ L X, ExX C 4 (callEnv fd L f) ⟨σ0 names args, fun _ => none, [], true, X⟩ body (fun l _ => l = .ret r) (fun _ => False) true)
    (hco : fd.scope.isCoroutine = false) (hgen : fd.scope.isGenerator = false) (hk : fd.scope.kind = .function) : Fn C 4 f args r := by
  intro A hA S s E vs hS G lv rv
  unfold fnOk at hok
  rw [Bool.and_eq_true, List.all_eq_true, List.all_eq_true] at hok
  have hloc : ∀ x ∈ names, fd.scope.names.lookup x = some .local := fun x hx => by simpa using hok.1 x hx
  have hcell : ∀ x ∈ fd.scope.names, x.2 ≠ .cell := fun x hx => by simpa using hok.2 x hx
  refine wpAny_call (codeAny_call_def (body := body) (binds := names.zip vs) hA.room (G.X _ _ ho) hd G.lim (codeRec_of G.X hcd) hbody (BindsTo.of_eq (hbind vs rv.length)) hcell (fun x hx => hloc _ (List.of_mem_zip hx).1) (fun h₀ hn hkeep => ?_) hco hgen hk)
  have F : Fm C s (callEnv fd s.heap.objs.size f) ⟨σ0 names args, fun _ => none, [], true, S⟩ { s with heap := h₀, toks := s.toks + (names.zip vs).length } := by
    refine ⟨⟨_, _, rfl⟩, G, .of hkeep, lv.up (.of hkeep), get_new _, hk, hg, hbn, hS, ⟨_, hn, fun x e hx => ?_⟩, fun _ x y c hc _ => ?_, fun _ p hp => ?_, fun p hp => ?_, fun x d hx => (nomatch hx), fun p hp => (nomatch hp), List.Pairwise.nil⟩
    · exact σ0_at (rv.up (Up.of (C := C) hkeep)) hx
    · have : (callEnv fd s.heap.objs.size f).cells = [] := hclo
      rw [this] at hc; cases hc
    · have : (callEnv fd s.heap.objs.size f).cells = [] := hclo
      rw [this] at hp; cases hp
    · have : (callEnv fd s.heap.objs.size f).cells = [] := hclo
      rw [this] at hp; cases hp
  have hfr : (A.deeper (callEnv fd s.heap.objs.size f)).frames = some (callEnv fd s.heap.objs.size f :: C.fs) := by
    show A.frames.map _ = _
    rw [hA.fs (Nat.le_refl _)]; rfl
  refine wpK (h _ S _ (hA.deeper _ (by decide)) hfr s _ _ (.inl (hA.hh (by decide))) F fun e s' th => ?_) fun fl s' ⟨l, τ', hp, hf, hx, F'⟩ => ?_
  · obtain ⟨_, _, _, _, q, _⟩ := th; cases q
  cases (hp : l = _)
  obtain ⟨v, rfl, rr⟩ := hf
  exact ⟨F'.now, rr⟩
end
section
variable {C : Cx} {n : Nat} {env : Env} {τ : St}
theorem TsX.mono {t : Expr} {X Y : St → Prop} (h : TsX C n env τ t X) (k : ∀ τ', X τ' → Y τ') : TsX C n env τ t Y := fun A hA hfr s₀ s Q E hd F hE => h A hA hfr s₀ s Q E hd F fun e s' th => hE e s' (th.weak k)
theorem op_iadd_int {a b : Int} : Op2 C n (inplaceOp .Add) (.int a) (.int b) (.int (a + b)) := by
  intro A _ S s E va vb _ ra rb
  cases ra; cases rb
  exact wpAny_iadd_int ⟨Kp.tok _ _, .int _ _⟩
/-- while nm[ix] == vn: ix += 1 -/
theorem skip {nm ix vn : Str} {p1 p2 p3 p4 p5 p6 p7 p8 p9 : Pos} {kc : Nat} {xs : List Str} {v : Str} {τ0 : St} {P : Fl → St → Prop} {X : St → Prop} {z : Bool} (i0 : Nat) (hf : env.frame = some env.locals) (hlen : xs.length ≤ 400) (hi0 : i0 ≤ xs.length) (hnm : τ0.σ nm = some (.dat (.list (xs.map Dat.str)))) (hvn : τ0.σ vn = some (.dat (.str v))) (h1 : nm ≠ ix) (h2 : vn ≠ ix)
    (hE : Ext (τ0.set ix (.dat (.int (i0 : Int)))) τ)
    (hdone : ∀ i' τ', i0 ≤ i' → i' < xs.length → (xs.drop i0).dropWhile (· == v) = xs.drop i' → Ext (τ0.set ix (.dat (.int (i' : Int)))) τ' → P .next τ')
    (hraise : ∀ τ', (xs.drop i0).dropWhile (· == v) = [] → Ext (τ0.set ix (.dat (.int (xs.length : Int)))) τ' → X τ')
    (l1 : env.kindOf nm = some .local := by rfl) (l2 : env.kindOf ix = some .local := by rfl) (l3 : env.kindOf vn = some .local := by rfl)
    (d1 : (nm == ("__debug__" : Str)) = false := by decide) (d2 : (ix == ("__debug__" : Str)) = false := by decide) (d3 : (vn == ("__debug__" : Str)) = false := by decide) :
    ExX1 C n env τ (.While (.Compare (.Subscript (.Name nm p1) (.Name ix p2) p3) [.Eq] [.Name vn p4] p5) [.AugAssign (.Name ix p6) .Add (.Constant (.int 1) kc p7) p8] [] p9) P X z := by
  refine exx_while hf (fun m τ' => ∃ d, i0 + d ≤ xs.length ∧ m = xs.length - (i0 + d) ∧ (∀ k, i0 ≤ k → k < i0 + d → xs[k]? = some v) ∧ Ext (τ0.set ix (.dat (.int ((i0 + d : Nat) : Int)))) τ') (xs.length - i0) ⟨0, hi0, rfl, fun k q1 q2 => by omega, hE⟩ fun m τ' ⟨d, hd, hm, hk, hE'⟩ => ?_
  have gn : τ'.σ nm = some (.dat (.list (xs.map Dat.str))) := hE'.σ _ _ (by simp only [St.set]; rw [if_neg h1]; exact hnm)
  have gv : τ'.σ vn = some (.dat (.str v)) := hE'.σ _ _ (by simp only [St.set]; rw [if_neg h2]; exact hvn)
  have gi : τ'.σ ix = some (.dat (.int ((i0 + d : Nat) : Int))) := hE'.σ _ _ (by simp only [St.set]; rw [if_pos trivial])
  have ev1 := ev_local (C := C) (n := n) (pos := p1) gn l1 d1
  have ev2 := ev_local (C := C) (n := n) (pos := p2) gi l2 d2
  have ev3 := ev_local (C := C) (n := n) (pos := p4) gv l3 d3
  have hskip := drop_skip (xs := xs) (v := v) d hk
  by_cases hend : i0 + d = xs.length
  · left
    refine TsX.mono (tsx_out ev1 ev2 (by rw [List.length_map]; omega) (by omega)) fun τ'' q => ?_
    subst q
    refine hraise _ (by rw [hskip, hend, List.drop_length]; rfl) (by rw [hend] at hE'; exact hE')
  · right
    have hlt : i0 + d < xs.length := by omega
    obtain ⟨w, hw⟩ : ∃ w, xs[i0 + d]? = some w := ⟨_, List.getElem?_eq_getElem hlt⟩
    refine ⟨w == v, ts_cmp (ev_item_list ev1 ev2 (at_nat (d := .str w) (by rw [List.getElem?_map, hw]; rfl) (by rw [List.length_map]; omega)) (szl (by rw [List.length_map]; omega))) ev3 op_eq_str, fun hb => ?_, fun hb => ?_⟩
    · have hwv : w = v := by simpa using hb
      have e1 : (((i0 + d : Nat) : Int) + 1) = ((i0 + (d + 1) : Nat) : Int) := by omega
      refine exx_cons (exx_of1 (ex_aug (op := .Add) gi ev_int (op_iadd_int (C := C) (n := n)) ?_ l2))
      refine exx_nil ⟨xs.length - (i0 + (d + 1)), by omega, d + 1, by omega, rfl, fun k q1 q2 => ?_, ?_⟩
      · by_cases hq : k = i0 + d
        · rw [hq, hw, hwv]
        · exact hk k q1 (by omega)
      · rw [e1]
        exact (Ext.over).trans (hE'.set ix _)
    · exact hdone (i0 + d) τ' (by omega) hlt (by rw [hskip, drop_stop hw hb]) hE'
end
end Mine
end -- W33

section -- W34
open PySem PySem.W PyProof.Rows PySem.Calls PySem.Spec
set_option maxRecDepth 100000
set_option maxHeartbeats 1000000
namespace Mine
/-- the state of the loop -/
def sldT (base : St) (aM aU : Addr) (i j : Nat) (ms us : List Str) : St :=
  { (((base.set "i" (.dat (.int (i : Int)))).set "j" (.dat (.int (j : Int)))).set "missing" (.raw (.ref aM))).set "unexpected" (.raw (.ref aU)) with led := [(aU, us.map Dat.str), (aM, ms.map Dat.str)] }
/-- with e and a told, and other lists -/
def sldE (base : St) (aM aU : Addr) (i j : Nat) (ms us : List Str) (e a : Str) : St := ((sldT base aM aU i j ms us).set "e" (.dat (.str e))).set "a" (.dat (.str a))
theorem sld_in {base : St} {aM aU : Addr} {i j : Nat} {ms us : List Str} {e a : Str} (h1 : base.σ "e" = none) (h2 : base.σ "a" = none) : Ext (sldT base aM aU i j ms us) (sldE base aM aU i j ms us e a) := by
  unfold sldE
  refine (Ext.new ?_).trans (Ext.new ?_)
  · exact h1
  · exact h2
theorem sld_i {base : St} {aM aU : Addr} {i i' j : Nat} {ms us : List Str} {e a : Str} : Ext (sldE base aM aU i' j ms us e a) ((sldE base aM aU i j ms us e a).set "i" (.dat (.int (i' : Int)))) := by
  have n1 : ("i" : Str) ≠ "a" := by decide +kernel
  have n2 : ("i" : Str) ≠ "e" := by decide +kernel
  have n3 : ("i" : Str) ≠ "unexpected" := by decide +kernel
  have n4 : ("i" : Str) ≠ "missing" := by decide +kernel
  have n5 : ("i" : Str) ≠ "j" := by decide +kernel
  refine ⟨fun y f q => ?_, fun _ _ q => q, rfl, rfl, rfl⟩
  simp only [sldE, sldT, St.set] at q ⊢
  by_cases hy : y = "i"
  · subst hy
    simp only [n1, n2, n3, n4, n5, if_false, if_true] at q ⊢
    exact q
  · simp only [hy, if_false] at q ⊢
    exact q
theorem sld_j {base : St} {aM aU : Addr} {i j j' : Nat} {ms us : List Str} {e a : Str} : Ext (sldE base aM aU i j' ms us e a) ((sldE base aM aU i j ms us e a).set "j" (.dat (.int (j' : Int)))) := by
  have n1 : ("j" : Str) ≠ "a" := by decide +kernel
  have n2 : ("j" : Str) ≠ "e" := by decide +kernel
  have n3 : ("j" : Str) ≠ "unexpected" := by decide +kernel
  have n4 : ("j" : Str) ≠ "missing" := by decide +kernel
  refine ⟨fun y f q => ?_, fun _ _ q => q, rfl, rfl, rfl⟩
  simp only [sldE, sldT, St.set] at q ⊢
  by_cases hy : y = "j"
  · subst hy
    simp only [n1, n2, n3, n4, if_false, if_true] at q ⊢
    exact q
  · simp only [hy, if_false] at q ⊢
    exact q
theorem sl_from {α : Type} {xs : List α} {i : Nat} (h : i ≤ xs.length) : sl xs (some (i : Int)) none = xs.drop i := by
  unfold sl bnd
  have e : min (if (i : Int) < 0 then (i : Int) + xs.length else (i : Int)).toNat xs.length = i := by
    rw [if_neg (by omega)]; omega
  simp only [e]
  rw [List.take_of_length_le]
  rw [List.length_drop]
  exact Nat.le_refl _
theorem Ext.same {τ : St} {x : Str} {e : Ent} (h : τ.σ x = some e) : Ext (τ.set x e) τ := by
  refine ⟨fun y f q => ?_, fun _ _ q => q, rfl, rfl, rfl⟩
  simp only [St.set] at q
  by_cases hy : y = x
  · rw [if_pos hy] at q; cases q; rw [hy]; exact h
  · rw [if_neg hy] at q; exact q
theorem diff_lt {N : Nat} {e a : Str} {es as : List Str} (hN : (e :: es).length + (a :: as).length ≤ N) (h : ltS e a = true) : diffF N (e :: es) (a :: as) = (e :: (diffF N (es.dropWhile (· == e)) (a :: as)).1, (diffF N (es.dropWhile (· == e)) (a :: as)).2) := by
  simp only [List.length_cons] at hN
  have l1 := dropWhile_le (· == e) es
  obtain ⟨N', rfl⟩ : ∃ N', N = N' + 1 := ⟨N - 1, by omega⟩
  conv => lhs; rw [diffF, if_pos h]
  rw [diffF_fuel N' (es.dropWhile (· == e)) (a :: as) (by simp only [List.length_cons]; omega) (N' + 1) (by omega)]
theorem diff_gt {N : Nat} {e a : Str} {es as : List Str} (hN : (e :: es).length + (a :: as).length ≤ N) (h0 : ltS e a = false) (h : ltS a e = true) : diffF N (e :: es) (a :: as) = ((diffF N (e :: es) (as.dropWhile (· == a))).1, a :: (diffF N (e :: es) (as.dropWhile (· == a))).2) := by
  simp only [List.length_cons] at hN
  have l1 := dropWhile_le (· == a) as
  obtain ⟨N', rfl⟩ : ∃ N', N = N' + 1 := ⟨N - 1, by omega⟩
  conv => lhs; rw [diffF, if_neg (ne_true_of_eq_false h0), if_pos h]
  rw [diffF_fuel N' (e :: es) (as.dropWhile (· == a)) (by simp only [List.length_cons]; omega) (N' + 1) (by omega)]
theorem diff_eq {N : Nat} {e a : Str} {es as : List Str} (hN : (e :: es).length + (a :: as).length ≤ N) (h0 : ltS e a = false) (h : ltS a e = false) : diffF N (e :: es) (a :: as) = diffF N (es.dropWhile (· == e)) (as.dropWhile (· == a)) := by
  simp only [List.length_cons] at hN
  have l1 := dropWhile_le (· == a) as
  have l2 := dropWhile_le (· == e) es
  obtain ⟨N', rfl⟩ : ∃ N', N = N' + 1 := ⟨N - 1, by omega⟩
  conv => lhs; rw [diffF, if_neg (ne_true_of_eq_false h0), if_neg (ne_true_of_eq_false h)]
  rw [diffF_fuel N' (es.dropWhile (· == e)) (as.dropWhile (· == a)) (by omega) (N' + 1) (by omega)]
theorem diff_nil {N : Nat} {as : List Str} : diffF N [] as = ([], as) := by cases N <;> rfl
theorem diff_nil2 {N : Nat} {es : List Str} : diffF N es [] = (es, []) := by cases N <;> cases es <;> rfl
section
variable {C : Cx} {n : Nat} {env : Env} {τ τ' : St}
theorem exx_weak {st : List Stmt} {P : Fl → St → Prop} {X : St → Prop} {z : Bool} (h : Ext τ τ') (k : ExX C n env τ st P X z) : ExX C n env τ' st P X z := fun A hA hfr s₀ s E hd F hE => by
  refine wpK (k A hA hfr s₀ s E hd (F.weak h) fun e s' th => hE e s' (th.from h.x.symm)) fun _ _ ⟨l, t, hp, hf, hx, F'⟩ => ⟨l, t, hp, by rw [h.x]; exact hf, by rw [h.x]; exact hx, F'⟩
theorem exx_of {st : List Stmt} {P : Fl → St → Prop} {X : St → Prop} {z : Bool} (h : Ex C n env τ st P) : ExX C n env τ st P X z := fun A hA _ s₀ s E _ F _ => h A hA s₀ s E F
end
section
variable {C : Cx} (hK : C.K = hd.heap_39 C.w.params)
include hK
theorem fn_sld {xs ys : List Str} (hx : xs.length ≤ 400) (hy : ys.length ≤ 400) : Fn C 4 191 [.list (xs.map Dat.str), .list (ys.map Dat.str)] (.tuple [.list ((diffF (xs.length + ys.length) xs ys).1.map Dat.str), .list ((diffF (xs.length + ys.length) xs ys).2.map Dat.str)]) := by
  refine fn_ofX (names := ["expected", "actual"]) (o_sorted_list_difference hK) (d_sorted_list_difference _) (b_sorted_list_difference _) (c_sorted_list_difference hK) rfl rfl rfl (fun vs hv => ?_) rfl (fun L X => ?_) rfl rfl rfl
  · match vs, hv with
    | [a, b], _ => exact h_sorted_list_difference _ a b
  refine exx_cons (exx_of1 (ex_two ev_int ?_))
  refine exx_cons (exx_of1 (ex_assign_own (evn_list es_nil) fun aM => ?_))
  refine exx_cons (exx_of1 (ex_assign_own (evn_list es_nil) fun aU => ?_))
  generalize hMU : diffF (xs.length + ys.length) xs ys = MU
  let base : St := ⟨σ0 ["expected", "actual"] [.list (xs.map Dat.str), .list (ys.map Dat.str)], fun _ => none, [], true, X⟩
  let XX : St → Prop := fun τ' => ∃ i j ms us, i ≤ xs.length ∧ j ≤ ys.length ∧ ms.length ≤ i ∧ us.length ≤ j ∧ ms ++ xs.drop i = MU.1 ∧ us ++ ys.drop j = MU.2 ∧ Ext (sldT base aM aU i j ms us) τ'
  refine exx_cons ?_
  refine exx_while rfl (fun k τ' => ∃ i j ms us, i ≤ xs.length ∧ j ≤ ys.length ∧ k = (xs.length - i) + (ys.length - j) ∧ ms.length ≤ i ∧ us.length ≤ j ∧ ms ++ (diffF (xs.length + ys.length) (xs.drop i) (ys.drop j)).1 = MU.1 ∧ us ++ (diffF (xs.length + ys.length) (xs.drop i) (ys.drop j)).2 = MU.2 ∧ Ext (sldT base aM aU i j ms us) τ')
    (xs.length + ys.length) ⟨0, 0, [], [], Nat.zero_le _, Nat.zero_le _, rfl, Nat.zero_le _, Nat.zero_le _, by rw [List.drop_zero, List.drop_zero, hMU]; rfl, by rw [List.drop_zero, List.drop_zero, hMU]; rfl, Ext.refl _⟩ fun k τ' ⟨i, j, ms, us, hi, hj, hk, hms, hus, hM, hU, hE⟩ => .inr ⟨true, ?_, fun _ => ?_, fun q => nomatch q⟩
  · exact ts_val ev_true tr_bool
  · refine exx_weak hE (exx_cons (exx_try (X := XX) (z := false) rfl ?_ ?_ ?_))
    · by_cases hi' : i = xs.length
      · refine exx_cons (exx_assign_out (ev_local rfl) (ev_local rfl) (by rw [List.length_map]; omega) (by omega) ⟨i, j, ms, us, hi, hj, hms, hus, ?_, ?_, Ext.refl _⟩)
        · rw [hi', List.drop_length, diff_nil] at hM; rw [hi', List.drop_length]; exact hM
        · rw [hi', List.drop_length, diff_nil] at hU; exact hU
      have hil : i < xs.length := by omega
      obtain ⟨e, he⟩ : ∃ e, xs[i]? = some e := ⟨_, List.getElem?_eq_getElem hil⟩
      have hde : xs.drop i = e :: xs.drop (i + 1) := by
        obtain ⟨_, q⟩ := List.getElem?_eq_some_iff.mp he
        rw [List.drop_eq_getElem_cons hil, q]
      refine exx_cons (exx_of1 (ex_assign (ev_item_list (d := .str e) (ev_local rfl) (ev_local rfl) (at_nat (by rw [List.getElem?_map, he]; rfl) (by rw [List.length_map]; omega)) (szl (by rw [List.length_map]; omega))) ?_))
      by_cases hj' : j = ys.length
      · refine exx_cons (exx_assign_out (ev_local rfl) (ev_local rfl) (by rw [List.length_map]; omega) (by omega) ⟨i, j, ms, us, hi, hj, hms, hus, ?_, ?_, Ext.new rfl⟩)
        · rw [hj', List.drop_length, diff_nil2] at hM; exact hM
        · rw [hj', List.drop_length, diff_nil2] at hU; rw [hj', List.drop_length]; exact hU
      have hjl : j < ys.length := by omega
      obtain ⟨a, ha⟩ : ∃ a, ys[j]? = some a := ⟨_, List.getElem?_eq_getElem hjl⟩
      have hda : ys.drop j = a :: ys.drop (j + 1) := by
        obtain ⟨_, q⟩ := List.getElem?_eq_some_iff.mp ha
        rw [List.drop_eq_getElem_cons hjl, q]
      refine exx_cons (exx_of1 (ex_assign (ev_item_list (d := .str a) (ev_local rfl) (ev_local rfl) (at_nat (by rw [List.getElem?_map, ha]; rfl) (by rw [List.length_map]; omega)) (szl (by rw [List.length_map]; omega))) ?_))
      have hN : (e :: xs.drop (i + 1)).length + (a :: ys.drop (j + 1)).length ≤ xs.length + ys.length := by
        simp only [List.length_cons, List.length_drop]; omega
      rw [hde, hda] at hM hU
      have nie : ("expected" : Str) ≠ "i" := by decide +kernel
      have nee : ("e" : Str) ≠ "i" := by decide +kernel
      have nja : ("actual" : Str) ≠ "j" := by decide +kernel
      have naa : ("a" : Str) ≠ "j" := by decide +kernel
      show ExX C 4 _ (sldE base aM aU i j ms us e a) _ _ _ _
      refine exx_cons (exx_if (c := ltS e a) (ts_cmp (ev_local rfl) (ev_local rfl) op_lt_str) (fun h1 => ?_) fun h1 => ?_)
      · rw [diff_lt hN h1] at hM hU
        refine exx_cons (exx_of1 (ex_append (a := aM) (l1 := [(aU, us.map Dat.str)]) (l2 := []) (ev_local rfl) (ev_local rfl) rfl (szl (by rw [List.length_map]; omega)) ?_))
        refine exx_weak (τ := sldE base aM aU i j (ms ++ [e]) us e a) ⟨fun _ _ q => q, fun _ _ q => q, by simp [sldE, sldT, St.set], rfl, rfl⟩ ?_
        refine exx_cons (exx_of1 (ex_aug (op := .Add) rfl ev_int op_iadd_int ?_))
        refine exx_weak (sld_i (i' := i + 1)) ?_
        refine exx_cons (skip (τ0 := sldE base aM aU (i + 1) j (ms ++ [e]) us e a) (i + 1) rfl hx hil rfl rfl nie nee (Ext.same rfl) (fun i' τ'' q1 q2 q3 q4 => ?_) fun τ'' q3 q4 => ?_)
        · rw [q3] at hM hU
          exact exx_nil (exx_nil (exx_nil ⟨(xs.length - i') + (ys.length - j), by omega, i', j, ms ++ [e], us, by omega, hj, rfl, by simp; omega, hus, by rw [hda, List.append_assoc]; exact hM, by rw [hda]; exact hU, (sld_in rfl rfl).trans (sld_i.trans q4)⟩))
        · rw [q3, diff_nil] at hM hU
          exact ⟨xs.length, j, ms ++ [e], us, Nat.le_refl _, hj, by simp; omega, hus, by rw [List.drop_length, List.append_assoc]; exact hM, by rw [hda]; exact hU, (sld_in rfl rfl).trans (sld_i.trans q4)⟩
      refine exx_cons (exx_if (c := ltS a e) (ts_cmp (ev_local rfl) (ev_local rfl) op_gt_str) (fun h2 => ?_) fun h2 => ?_)
      · rw [diff_gt hN h1 h2] at hM hU
        refine exx_cons (exx_of1 (ex_append (a := aU) (l1 := []) (l2 := [(aM, ms.map Dat.str)]) (ev_local rfl) (ev_local rfl) rfl (szl (by rw [List.length_map]; omega)) ?_))
        refine exx_weak (τ := sldE base aM aU i j ms (us ++ [a]) e a) ⟨fun _ _ q => q, fun _ _ q => q, by simp [sldE, sldT, St.set], rfl, rfl⟩ ?_
        refine exx_cons (exx_of1 (ex_aug (op := .Add) rfl ev_int op_iadd_int ?_))
        refine exx_weak (sld_j (j' := j + 1)) ?_
        refine exx_cons (skip (τ0 := sldE base aM aU i (j + 1) ms (us ++ [a]) e a) (j + 1) rfl hy hjl rfl rfl nja naa (Ext.same rfl) (fun j' τ'' q1 q2 q3 q4 => ?_) fun τ'' q3 q4 => ?_)
        · rw [q3] at hM hU
          exact exx_nil (exx_nil (exx_nil (exx_nil ⟨(xs.length - i) + (ys.length - j'), by omega, i, j', ms, us ++ [a], hi, by omega, rfl, hms, by simp; omega, by rw [hde]; exact hM, by rw [hde, List.append_assoc]; exact hU, (sld_in rfl rfl).trans (sld_j.trans q4)⟩)))
        · rw [q3, diff_nil2] at hM hU
          exact ⟨i, ys.length, ms, us ++ [a], hi, Nat.le_refl _, hms, by simp; omega, by rw [hde]; exact hM, by rw [List.drop_length, List.append_assoc]; exact hU, (sld_in rfl rfl).trans (sld_j.trans q4)⟩
      rw [diff_eq hN h1 h2] at hM hU
      refine exx_cons (exx_of1 (ex_aug (op := .Add) rfl ev_int op_iadd_int ?_))
      refine exx_weak (sld_i (i' := i + 1)) ?_
      refine exx_cons (exx_finally (B := fun τ' => ∃ i', i + 1 ≤ i' ∧ i' < xs.length ∧ (xs.drop (i + 1)).dropWhile (· == e) = xs.drop i' ∧ Ext (sldE base aM aU i' j ms us e a) τ') (X₁ := fun τ' => (xs.drop (i + 1)).dropWhile (· == e) = [] ∧ Ext (sldE base aM aU xs.length j ms us e a) τ') (by decide) rfl ?_ ?_ ?_)
      · exact exx_cons (skip (τ0 := sldE base aM aU (i + 1) j ms us e a) (i + 1) rfl hx hil rfl rfl nie nee (Ext.same rfl) (fun i' τ'' q1 q2 q3 q4 => exx_nil ⟨rfl, i', q1, q2, q3, sld_i.trans q4⟩) fun τ'' q3 q4 => ⟨q3, sld_i.trans q4⟩)
      · rintro τ' ⟨i', q1, q2, q3, q4⟩
        rw [q3] at hM hU
        refine exx_weak q4 (exx_cons (exx_of1 (ex_aug (op := .Add) rfl ev_int op_iadd_int ?_)))
        refine exx_weak (sld_j (j' := j + 1)) ?_
        refine exx_cons (skip (τ0 := sldE base aM aU i' (j + 1) ms us e a) (j + 1) rfl hy hjl rfl rfl nja naa (Ext.same rfl) (fun j' τ'' r1 r2 r3 r4 => ?_) fun τ'' r3 r4 => ?_)
        · rw [r3] at hM hU
          exact exx_nil ⟨rfl, exx_nil (exx_nil (exx_nil (exx_nil ⟨(xs.length - i') + (ys.length - j'), by omega, i', j', ms, us, by omega, by omega, rfl, by omega, by omega, hM, hU, (sld_in rfl rfl).trans (sld_j.trans r4)⟩)))⟩
        · rw [r3, diff_nil2] at hM hU
          exact ⟨i', ys.length, ms, us, by omega, Nat.le_refl _, by omega, by omega, hM, by rw [List.drop_length]; exact hU, (sld_in rfl rfl).trans (sld_j.trans r4)⟩
      · rintro τ' ⟨q3, q4⟩
        rw [q3, diff_nil] at hM hU
        refine exx_weak q4 (exx_cons (exx_of1 (ex_aug (op := .Add) rfl ev_int op_iadd_int ?_)))
        refine exx_weak (sld_j (j' := j + 1)) ?_
        refine exx_cons (skip (τ0 := sldE base aM aU xs.length (j + 1) ms us e a) (j + 1) rfl hy hjl rfl rfl nja naa (Ext.same rfl) (fun j' τ'' r1 r2 r3 r4 => ?_) fun τ'' r3 r4 => ?_)
        · rw [r3] at hM hU
          exact exx_nil ⟨rfl, xs.length, j', ms, us, Nat.le_refl _, by omega, by omega, by omega, by rw [List.drop_length]; exact hM, hU, (sld_in rfl rfl).trans (sld_j.trans r4)⟩
        · rw [r3] at hM hU
          exact ⟨xs.length, ys.length, ms, us, Nat.le_refl _, Nat.le_refl _, by omega, by omega, by rw [List.drop_length]; exact hM, by rw [List.drop_length]; exact hU, (sld_in rfl rfl).trans (sld_j.trans r4)⟩
    · rintro τ' -
      exact ev_boot (g_IndexError hK) v_IndexError
    · rintro τ' ⟨i, j, ms, us, hi, hj, hms, hus, hM, hU, hE⟩
      have es : ∀ {zs : List Str} {k : Nat}, k ≤ zs.length → sl (zs.map Dat.str) (some (k : Int)) none = (zs.drop k).map Dat.str := fun h => by rw [sl_map, sl_from h]
      refine ex_weak hE (ex_cons (ex_extend (a := aM) (l1 := [(aU, us.map Dat.str)]) (l2 := []) (ds := (xs.drop i).map Dat.str) (ev_local rfl) (by
        rw [← es hi]
        exact ev_slice_list (ev_local rfl) (pt_some (ev_local rfl)) pt_none (szl (by rw [List.length_map]; omega))) rfl (by rw [List.length_map, List.length_map, List.length_drop]; omega) ?_))
      refine ex_cons (ex_extend (a := aU) (l1 := []) (l2 := [(aM, ms.map Dat.str ++ (xs.drop i).map Dat.str)]) (ds := (ys.drop j).map Dat.str) (ev_local rfl) (by
        rw [← es hj]
        exact ev_slice_list (ev_local rfl) (pt_some (ev_local rfl)) pt_none (szl (by rw [List.length_map]; omega))) rfl (by rw [List.length_map, List.length_map, List.length_drop]; omega) ?_)
      refine ex_cons (ex_brk ?_)
      rw [← List.map_append, ← List.map_append, hM, hU]
      refine exx_of (ex_freeze (x := "unexpected") (l1 := []) (l2 := [(aM, MU.1.map Dat.str)]) rfl rfl (ex_freeze (x := "missing") (l1 := []) (l2 := []) rfl rfl (ex_cons (ex_ret (ev_tuple (es_cons (ev_local rfl) (es_cons (ev_local rfl) es_nil)) (szl (Nat.le_of_ble_eq_true rfl))) rfl))))
end
end Mine
end -- W34

section -- W35
open PySem PySem.W PyProof.Rows PySem.Calls PySem.Spec
set_option maxRecDepth 100000
set_option maxHeartbeats 1000000
namespace Mine
theorem cells_231 (p : Params) (k : Nat) : cellsFrom k (fdOf 231 p).scope.names [] = ([("other", k + 1), ("one", k)] : List (Str × Addr)) := by kernel_rfl!
theorem kind_231a (p : Params) : (fdOf 231 p).scope.names.lookup ("one" : Str) = some NameKind.cell := by kernel_rfl!
theorem kind_231b (p : Params) : (fdOf 231 p).scope.names.lookup ("other" : Str) = some NameKind.cell := by kernel_rfl!
theorem h_law_alone (p : Params) (a b : Value) : bindArgs (fdOf 231 p) ⟨[a, b], []⟩ = pure (([("one", a), ("other", b)] : List (Str × Value))) := by kernel_rfl!
section
variable {C : Cx}
def cσ2 (d1 d2 : Dat) : Str → Option Dat := fun x => if x = "one" then some d1 else if x = "other" then some d2 else none
theorem fn_cells {k : Nat} {d1 d2 r : Dat} (hK : C.K = hd.heap_39 C.w.params) (hk5 : k < 5)
    (h : ∀ L X, Ex C k (callEnvC (fdOf 231 C.w.params) L 231) ⟨fun _ => none, cσ2 d1 d2, [], true, X⟩ (bodyOf 231 C.w.params) (fun l _ => l = .ret r)) : Fn C k 231 [d1, d2] r := by
  intro A hA S s E vs hS G lv rv
  cases rv with
  | @cons va _ _ _ ra rv =>
  cases rv with
  | @cons vb _ _ _ rb rv =>
  cases rv
  refine wpAny_call (codeAny_call_cells hA.room (G.X _ _ (o_law_alone hK)) (d_law_alone _) G.lim (codeRec_of G.X (c_law_alone hK)) (b_law_alone _) (h_law_alone _ va vb) rfl (fun x hx => .inr ?_) (fun s₁ I => ?_) rfl rfl rfl)
  · rw [cells_231]
    rcases List.mem_cons.mp hx with rfl | hx
    · exact ⟨kind_231a _, rfl⟩
    · rw [List.mem_singleton.mp hx]; exact ⟨kind_231b _, rfl⟩
  have hcells : (callEnvC (fdOf 231 C.w.params) s.heap.objs.size 231).cells = ([("other", s.heap.objs.size + 1 + 1), ("one", s.heap.objs.size + 1)] : List (Str × Addr)) := cells_231 C.w.params _
  have fresh : ∀ a, s.heap.objs.size ≤ a → s.heap.get? a = none := fun a ha => by
    cases e : s.heap.get? a with
    | none => rfl
    | some o' => exact absurd (Heap.lt_size e) (Nat.not_lt.mpr ha)
  have F : Fm C s (callEnvC (fdOf 231 C.w.params) s.heap.objs.size 231) ⟨fun _ => none, cσ2 d1 d2, [], true, S⟩ s₁ := by
    have keep := I.toInCall.keep
    refine ⟨I.toInCall.same, G, .of keep, lv.up (.of keep), get_new _, rfl, rfl, rfl, hS, ⟨_, I.toInCall.ns, fun x e hx => nomatch hx⟩, fun _ x y c hx hy => ?_, fun _ p hp => ?_, fun p hp => ?_, fun x d hx => ?_, fun p hp => (nomatch hp), List.Pairwise.nil⟩
    · rw [hcells] at hx hy
      have noo : ("one" : Str) ≠ "other" := by decide +kernel
      have two : ∀ z c, List.lookup z ([("other", s.heap.objs.size + 1 + 1), ("one", s.heap.objs.size + 1)] : List (Str × Addr)) = some c → (z = "other" ∧ c = s.heap.objs.size + 1 + 1) ∨ (z = "one" ∧ c = s.heap.objs.size + 1) := by
        intro z c hz
        rw [List.lookup_cons] at hz
        by_cases h1 : z = "other"
        · subst h1; left; simpa using hz.symm
        · have : (z == ("other" : Str)) = false := by simpa using h1
          rw [this] at hz
          rw [List.lookup_cons] at hz
          by_cases h2 : z = "one"
          · subst h2; right; simpa using hz.symm
          · have : (z == ("one" : Str)) = false := by simpa using h2
            rw [this] at hz; cases hz
      rcases two x c hx with ⟨rfl, h1⟩ | ⟨rfl, h1⟩ <;> rcases two y c hy with ⟨rfl, h2⟩ | ⟨rfl, h2⟩
      · rfl
      · exact absurd (h1.symm.trans h2) (Nat.succ_ne_self _)
      · exact absurd (h1.symm.trans h2) (Nat.succ_ne_self _).symm
      · rfl
    · rw [hcells] at hp
      rcases List.mem_cons.mp hp with rfl | hp
      · exact fresh _ (by show _ ≤ s.heap.objs.size + 1 + 1; omega)
      · rw [List.mem_singleton.mp hp]; exact fresh _ (by show _ ≤ s.heap.objs.size + 1; omega)
    · rw [hcells] at hp
      rcases List.mem_cons.mp hp with rfl | hp
      · exact ⟨_, I.cell "other" _ (by rw [hcells]; rfl)⟩
      · rw [List.mem_singleton.mp hp]; exact ⟨_, I.cell "one" _ (by rw [hcells]; rfl)⟩
    · have c1 := I.cell "one" (s.heap.objs.size + 1) (by rw [hcells]; rfl)
      have c2 := I.cell "other" (s.heap.objs.size + 1 + 1) (by rw [hcells]; rfl)
      simp only [cσ2] at hx
      by_cases h1 : x = "one"
      · subst h1
        rw [if_pos rfl] at hx; cases hx
        exact ⟨_, va, by rw [hcells]; rfl, c1, ra.up (Up.of (C := C) keep)⟩
      · rw [if_neg h1] at hx
        by_cases h2 : x = "other"
        · subst h2
          rw [if_pos rfl] at hx; cases hx
          exact ⟨_, vb, by rw [hcells]; rfl, c2, rb.up (Up.of (C := C) keep)⟩
        · rw [if_neg h2] at hx; cases hx
  refine wpK (h _ S _ (hA.deeper _ hk5) s _ _ F) fun fl s' ⟨l, τ', hp, hf, hx, F'⟩ => ?_
  cases (hp : l = _)
  obtain ⟨v, rfl, rr⟩ := hf
  exact ⟨F'.now, rr⟩
end
section
variable {C : Cx} {n : Nat} {env : Env} {τ : St}
theorem comp_if {elt iter t : Expr} {x : Str} {px : Pos} {scope : Scope} {pos : Pos} {cσ : Str → Option Dat} {ds : List Dat} {cs : List (List Dat)} (hlen : cs.length = ds.length)
    (helt : ∀ (L : Addr) (cl : List (Str × Addr)) (i : Nat) (d : Dat) (c : List Dat) (σ : Str → Option Ent) (D : Addr) (outs : List Dat) (X : List Addr), ds[i]? = some d → cs[i]? = some c → ∃ b, Ts C n (compEnvC scope cl L env) (cstx σ (cσr scope cσ) D outs X x d) t b ∧ (b = true → ∃ r, c = [r] ∧ Ev C n (compEnvC scope cl L env) (cstx σ (cσr scope cσ) D outs X x d) elt (.dat r)) ∧ (b = false → c = []))
    (hx : ∀ cl L, (compEnvC scope cl L env).kindOf x = some .local := by intro _ _; rfl) : Comp C n env cσ (.ListComp elt [⟨.Name x px, iter, [t], 0⟩] scope pos) scope ds cs := by
  refine ⟨comp_start, fun L cl => cl_one hlen (hx cl L) rfl fun i d c σ D outs X hd hc _ => ?_⟩
  obtain ⟨b, ht, hy, hn⟩ := helt L cl i d c σ D outs X hd hc
  refine ⟨b, fun A hA s₀ s E F => ?_, hy, hn⟩
  rw [List.forIn_cons]
  refine wpAny_bind ?_
  rw [if_pos rfl]
  refine wpAny_bind (wpK (ht A hA s₀ s E F) fun ok s' h => wpAny_pure ?_)
  exact wpAny_pure h
end
end Mine
end -- W35

section -- W36
open PySem PySem.W PyProof.Rows PySem.Calls PySem.Spec
set_option maxRecDepth 100000
set_option maxHeartbeats 1000000
namespace Mine
def aloneC (xs ys : List Str) (k : Nat) : Bool := (!(decide (xs[k]?.getD "" ∈ ys))) && (((!(decide (xs[k]?.getD "" ∈ sl xs none (some (k : Int))))) || ((ltS (mx (ys ++ [("" : Str)])) (xs[k]?.getD "")) || false)) && true)
def aloneL (xs ys : List Str) : List (List Str) := (List.range xs.length).map fun k => if aloneC xs ys k = true then [xs[k]?.getD ""] else []
def aloneF (xs ys : List Str) : List Str := (aloneL xs ys).flatten
section
variable {C : Cx} (hK : C.K = hd.heap_39 C.w.params)
include hK
theorem fn_alone {xs ys : List Str} (hx : xs.length ≤ 400) (hy : ys.length ≤ 400) : Fn C 1 231 [.list (xs.map Dat.str), .list (ys.map Dat.str)] (.list ((aloneF xs ys).map Dat.str)) := by
  refine fn_cells hK (by decide) fun L X => ?_
  have hfl : ((aloneL xs ys).map fun l => l.map Dat.str).flatten = (aloneF xs ys).map Dat.str := by unfold aloneF; rw [List.map_flatten]
  have hlen : (aloneF xs ys).length ≤ xs.length := by
    unfold aloneF aloneL
    rw [List.length_flatten, List.map_map]
    have : ∀ l : List Nat, (l.map ((fun z : List Str => z.length) ∘ fun k => if aloneC xs ys k = true then [xs[k]?.getD ""] else [])).sum ≤ l.length := by
      intro l
      induction l with
      | nil => simp
      | cons a l ih =>
        rw [List.map_cons, List.sum_cons, List.length_cons]
        have : ((fun z : List Str => z.length) ∘ fun k => if aloneC xs ys k = true then [xs[k]?.getD ""] else []) a ≤ 1 := by
          simp only [Function.comp]; split <;> simp
        omega
    have := this (List.range xs.length)
    rw [List.length_range] at this
    exact this
  have hone : ((xs.map Dat.str).length : Int) = (xs.length : Int) := by rw [List.length_map]
  refine ex_cons (ex_ret (ev_of_comp (cs := (aloneL xs ys).map fun l => l.map Dat.str) (itr_range (m := xs.length) (ev_boot (g_range hK) v_range) (by
    rw [← hone]
    exact ev_len_list (ev_boot (g_len hK) v_len) (ev_cell rfl) (szl (by rw [List.length_map]; omega))) (by omega)) (comp_if ?_ ?_) hfl (szl (by rw [List.length_map]; omega))) rfl)
  · simp [aloneL, rng]
  · intro Lc cl i d c σ D outs X' hd hc
    obtain ⟨hi, rfl⟩ := rng_at hd
    obtain ⟨x, hxi⟩ : ∃ x, xs[i]? = some x := ⟨_, List.getElem?_eq_getElem hi⟩
    have hx2 : xs[i]?.getD "" = x := by rw [hxi]; rfl
    have hc2 : c = if aloneC xs ys i = true then [Dat.str x] else [] := by
      unfold aloneL at hc
      rw [List.map_map, List.getElem?_map, List.getElem?_range hi] at hc
      simp only [Option.map_some, Function.comp, Option.some.injEq] at hc
      rw [← hc, hx2]
      split <;> rfl
    refine ⟨aloneC xs ys i, ?_, fun hb => ⟨.str x, by rw [hc2, if_pos hb], ?_⟩, fun hb => by rw [hc2, if_neg (ne_true_of_eq_false hb)]⟩
    · unfold aloneC
      rw [hx2]
      refine ts_bool (bs_and (ts_cmp (ev_item_list (d := .str x) (ev_cell rfl) (ev_local rfl) (at_nat (by rw [List.getElem?_map, hxi]; rfl) (by rw [List.length_map]; omega)) (szl (by rw [List.length_map]; omega))) (ev_cell rfl) (op_notin (b := decide (x ∈ ys)) (by simp [shp]) rfl (by simp))) fun _ => bs_and (ts_bool (bs_or (ts_cmp (ev_item_list (d := .str x) (ev_cell rfl) (ev_local rfl) (at_nat (by rw [List.getElem?_map, hxi]; rfl) (by rw [List.length_map]; omega)) (szl (by rw [List.length_map]; omega))) (ev_slice_list (ev_cell rfl) pt_none (pt_some (ev_local rfl)) (szl (by rw [List.length_map]; omega))) (op_notin (b := decide (x ∈ sl xs none (some (i : Int)))) (by rw [sl_map]; simp [shp]) rfl (by rw [sl_map]; simp))) fun _ => bs_or (ts_cmp (ev_max (xs := ys ++ [("" : Str)]) (ev_boot (g_max hK) v_max) (by
        rw [List.map_append]
        exact ev_bin (ev_cell rfl) (ev_list (es_cons ev_str es_nil)) (op_add_list (by rw [sizeLine_eq, List.length_map]; show ys.length + 1 ≤ _; omega))) (by simp)) (ev_item_list (d := .str x) (ev_cell rfl) (ev_local rfl) (at_nat (by rw [List.getElem?_map, hxi]; rfl) (by rw [List.length_map]; omega)) (szl (by rw [List.length_map]; omega))) op_lt_str) fun _ => bs_nil)) fun _ => bs_nil)
    · exact ev_item_list (ev_cell rfl) (ev_local rfl) (at_nat (by rw [List.getElem?_map, hxi]; rfl) (by rw [List.length_map]; omega)) (szl (by rw [List.length_map]; omega))
end
end Mine
end -- W36

section -- W37
open PySem PySem.W PyProof.Rows PySem.Calls PySem.Spec
set_option maxRecDepth 100000
set_option maxHeartbeats 1000000
namespace Mine
section
variable {C : Cx} {n : Nat} {env : Env} {τ : St}
/-- x = [[..], [..]]: a list of two lists of the frame's own -/
theorem ex_assign_refs {x : Str} {px p1 p2 pos spos : Pos} {es1 es2 : List Expr} {ds1 ds2 : List Dat} {P : Fl → St → Prop} (h1 : Es C n env τ es1 ds1) (h2 : ∀ τ', Es C n env τ' es2 ds2) (hz1 : ds1.length ≤ 1000) (hz2 : ds2.length ≤ 1000)
    (h : ∀ a0 a1, P .next (({ τ with led := (a1, ds2) :: (a0, ds1) :: τ.led } : St).set x (.refs [a0, a1]))) (hl : env.kindOf x = some .local := by rfl)
    (hst : starEach [.List es1 p1, .List es2 p2] env = [(false, eval (.List es1 p1) env), (false, eval (.List es2 p2) env)] := by rfl)
    (hs : swapsWith (.List [.List es1 p1, .List es2 p2] pos) (some (.Name x px)) spos.line env = pure false := by rfl) : Ex1 C n env τ (.Assign [.Name x px] (.List [.List es1 p1, .List es2 p2] pos) spos) P := by
  intro A hA s₀ s E F
  refine wpAny_Assign_Name (List_ ?_) hs
  rw [hst]
  show wpAny (M C) A (spliced [(false, eval (.List es1 p1) env), (false, eval (.List es2 p2) env)]) _ E s
  refine spliced_cons (wpK (evn_list h1 (szl hz1) A hA s₀ s E F) fun v s₁ ⟨k₁, a0, vs1, e1, f1, l1, r1⟩ => ?_)
  subst e1
  have F₁ := F.addOwn k₁ f1 l1 r1
  refine spliced_cons (wpK (evn_list (h2 _) (szl hz2) A hA s₀ s₁ E F₁) fun w s₂ ⟨k₂, a1, vs2, e2, f2, l2, r2⟩ => spliced_nil ?_)
  subst e2
  have F₂ := F₁.addOwn k₂ f2 l2 r2
  refine wpAny_newList ?_ (szl (Nat.le_of_ble_eq_true rfl))
  have F₃ := F₂.keeps (Kp.push s₂ (lO [.ref a0, .ref a1] 0))
  refine F₃.store (e := .refs [a0, a1]) ⟨s₂.heap.objs.size, 0, rfl, fun q => ?_, Heap.get?_push_size _ rfl⟩ hl fun s' F' _ _ => ⟨.next, _, h a0 a1, rfl, rfl, F'⟩
  exact Nat.lt_irrefl _ (F₂.below _ q)
theorem ev_item_refs {v i : Expr} {pos : Pos} {as : List Addr} {k : Nat} {a : Addr} (hv : Ev C n env τ v (.refs as)) (hi : Ev C n env τ i (.dat (.int (k : Int)))) (ha : as[k]? = some a) (hsz : as.length ≤ 1000)
    (hs : ∀ o i', subscripted i false o i' = operate [o, i'] (getItem o i') := by intro _ _; rfl) : Ev C n env τ (.Subscript v i pos) (.raw (.ref a)) := by
  intro A hA s₀ s E F
  refine wp_sub hs (wpK (hv A hA s₀ s E F) fun o s₁ h₁ => wpK (hi A hA s₀ s₁ E (F.keeps h₁.1)) fun j s₂ h₂ => ?_)
  obtain ⟨k₂, h₂⟩ := h₂
  have q : EntAt τ.S s₂.heap o (.refs as) := EntAt.up k₂.up h₁.2
  obtain ⟨m, c, rfl, _, ho⟩ := q
  cases (h₂ : R _ _ _ _)
  have hlt := (List.getElem?_eq_some_iff.mp ha).1
  refine ⟨"list", _, list_getitem_lookup, ⟨_, ho, rfl⟩, ?_⟩
  exact wpAny_getItem_list (IsL.isList ho) (by omega) (by omega) (x := .ref a) (by simp [ha]) ⟨h₁.1.trans k₂, rfl⟩
theorem Fm.freezeRefs {s₀ s : Shared} {x : Str} {a0 a1 : Addr} {ds0 ds1 : List Dat} (F : Fm C s₀ env τ s) (hx : τ.σ x = some (.refs [a0, a1])) (hl : τ.led = [(a1, ds1), (a0, ds0)]) : Fm C s₀ env (({ τ with led := [] } : St).set x (.dat (.list [.list ds0, .list ds1]))) s := by
  have sub : ∀ b, b ∈ ([] : List (Addr × List Dat)).map (·.1) ++ τ.ex → b ∈ τ.S := fun b hb => List.mem_append_right _ (by simpa using hb)
  have sk : SeqK τ.S s.heap s.heap := fun _ _ _ _ _ e _ => e
  have ht : ∀ b, b ∈ ([] : List (Addr × List Dat)).map (·.1) ++ τ.ex → (b ∈ τ.S ∨ s.heap.get? b = Option.none) := fun b hb => .inl (sub b hb)
  obtain ⟨b0, vs0, ⟨j0, o0⟩, r0⟩ := F.own (a0, ds0) (by rw [hl]; simp)
  obtain ⟨b1, vs1, ⟨j1, o1⟩, r1⟩ := F.own (a1, ds1) (by rw [hl]; simp)
  have nx : ∀ {a : Addr}, s₀.heap.get? a = none → a ∉ ([] : List (Addr × List Dat)).map (·.1) ++ τ.ex := fun {a} ha hb => by
    obtain ⟨o, e⟩ := F.hex a (by simpa using hb)
    rw [ha] at e; cases e
  have ra0 : R s.heap (([] : List (Addr × List Dat)).map (·.1) ++ τ.ex) (.ref a0) (.list ds0) := .list (nx b0) o0 (r0.mono sk ht)
  have ra1 : R s.heap (([] : List (Addr × List Dat)).map (·.1) ++ τ.ex) (.ref a1) (.list ds1) := .list (nx b1) o1 (r1.mono sk ht)
  refine ⟨F.same, F.gd, F.keep, F.lv, F.above, F.hk, F.hg, F.hb, F.hex, ?_, F.apart, F.cabove, F.cell, fun y d hy => ?_, (fun p hp => nomatch hp), List.Pairwise.nil⟩
  · obtain ⟨m, hn, hm⟩ := F.ns
    refine ⟨m, hn, fun y e hy => ?_⟩
    simp only [St.set] at hy
    by_cases hyx : y = x
    · rw [if_pos hyx] at hy
      cases hy
      obtain ⟨v, h1, q, k, rfl, hq, ho⟩ := hm x _ hx
      refine ⟨_, hyx ▸ h1, ?_⟩
      exact R.list (fun z => hq (sub _ z)) ho (.cons ra0 (.cons ra1 .nil))
    · rw [if_neg hyx] at hy
      obtain ⟨v, h1, h2⟩ := hm y e hy
      exact ⟨v, h1, h2.wider sk ht⟩
  · obtain ⟨c, v, h1, h2, h3⟩ := F.cval y d hy
    exact ⟨c, v, h1, h2, R.mono sk ht h3⟩
theorem ex_freezeRefs {x : Str} {a0 a1 : Addr} {ds0 ds1 : List Dat} {st : List Stmt} {P : Fl → St → Prop} (hx : τ.σ x = some (.refs [a0, a1])) (hl : τ.led = [(a1, ds1), (a0, ds0)]) (h : Ex C n env (({ τ with led := [] } : St).set x (.dat (.list [.list ds0, .list ds1]))) st P) : Ex C n env τ st P :=
  fun A hA s₀ s E F => h A hA s₀ s E (F.freezeRefs hx hl)
end
end Mine
end -- W37

section -- W38
open PySem PySem.W PyProof.Rows PySem.Calls PySem.Spec
set_option maxRecDepth 100000
set_option maxHeartbeats 1000000
namespace Mine
def ptF (l : Nat) : Str := (([("a" : Str), "..", ".", "", "b", ".c"] : List Str)[l % 6]?).getD ""
def dgF : Nat → Nat → List Str
  | 0, _ => []
  | f + 1, l => if l / 6 > 0 then ptF (l / 6) :: dgF f (l / 6) else []
def rowN (l : Nat) : List Str := (if l % 2 = 1 then [("" : Str)] else []) ++ (ptF l :: dgF 5 l)
def wayN (l : Nat) : Str := Txt.join "/" (rowN l)
def numF (x : Int) : Nat := (x.fdiv 3).natAbs % 1296
def m0F (xs : List Int) : List Str := [("../.c/../a" : Str), "../..", "/../b//a", ""] ++ (xs.filter fun x => x.fmod 3 != 1).map fun x => wayN (numF x)
def m1F (xs : List Int) : List Str := [(".//../a" : Str), "//", "/b/a/./z/", ".c"] ++ (xs.filter fun x => x.fmod 3 != 0).map fun x => wayN (numF x)
theorem num_eq (x : Int) : Int.fmod (if x.fdiv 3 < 0 then -(x.fdiv 3) else x.fdiv 3) 1296 = (numF x : Int) := by
  have e : (if x.fdiv 3 < 0 then -(x.fdiv 3) else x.fdiv 3) = ((x.fdiv 3).natAbs : Int) := by
    split <;> omega
  rw [e, Int.fmod_eq_emod_of_nonneg _ (by decide)]
  unfold numF
  omega
theorem fmod_nat (l k : Nat) : Int.fmod (l : Int) (k : Int) = ((l % k : Nat) : Int) := by
  rw [Int.fmod_eq_emod_of_nonneg _ (Int.natCast_nonneg _)]; exact (Int.natCast_emod l k).symm
theorem fdiv_nat (l k : Nat) : Int.fdiv (l : Int) (k : Int) = ((l / k : Nat) : Int) := by
  rw [Int.fdiv_eq_ediv_of_nonneg _ (Int.natCast_nonneg _)]; exact (Int.natCast_ediv l k).symm
end Mine
end -- W38

section -- W40
open PySem PySem.W PyProof.Rows PySem.Calls PySem.Spec
open PySem.StrLaws PySem.Builtin PySem.Builtin.Str
set_option maxRecDepth 100000
set_option maxHeartbeats 1000000
namespace Mine
/-! ## a text of lines, parted at the line ends -/
abbrev eolS : Str := "\r\n"
theorem eol_list : eolS.cps.toList = [13, 10] := by decide +kernel
theorem eol_len : eolS.length = 2 := by decide +kernel
abbrev mkS (l : List Nat) : Str := ⟨l.toArray⟩
abbrev linesL (ls : List (List Nat)) : List Nat := (ls.map fun l => l ++ [13, 10]).flatten
theorem at_eol {x : Str} {i : Nat} : At x eolS x.length i ↔ i + 2 ≤ x.length ∧ (x.cps.toList.drop i).take 2 = [13, 10] := by
  unfold At
  rw [subAt_eq, eol_list, eol_len, beq_iff_eq]
theorem len_toList (x : Str) : x.length = x.cps.toList.length := rfl
theorem sub_mk {x : Str} {a b : Nat} {l : List Nat} (h : (x.cps.toList.drop a).take (b - a) = l) : strSub x a b = mkS l := by
  apply str_ext
  rw [strSub_toList, h]
theorem parts_lines (x : Str) : ∀ (ls : List (List Nat)) (a : Nat) (cuts : List Nat) (f : Nat), (∀ l ∈ ls, 13 ∉ l) → a ≤ x.length → x.cps.toList.drop a = linesL ls → ChainG x eolS x.length a cuts f → (∀ k, f ≤ k → ¬ At x eolS x.length k) →
    partsFrom x 2 a cuts = ls.map mkS ++ [mkS []]
  | [], a, cuts, f, _, ha, hd, hc, _ => by
    have hx : x.length ≤ a := by
      have : (x.cps.toList.drop a).length = 0 := by rw [hd]; rfl
      rw [List.length_drop, ← len_toList] at this; omega
    cases cuts with
    | nil =>
      show [strSub x a x.length] = [mkS []]
      rw [sub_mk (l := []) (by rw [hd]; exact List.take_nil)]
    | cons c r =>
      exfalso
      have h1 : a ≤ c := hc.1
      have h2 := (at_eol.mp hc.2.1).1
      omega
  | l :: ls, a, cuts, f, hl, ha, hd, hc, hf => by
    have hl0 := hl l (.head _)
    have hd' : x.cps.toList.drop a = l ++ 13 :: 10 :: linesL ls := by rw [hd]; simp [linesL]
    have hlen : a + l.length + 2 ≤ x.length := by
      have : (x.cps.toList.drop a).length = l.length + 2 + (linesL ls).length := by rw [hd']; simp; omega
      rw [List.length_drop, ← len_toList] at this; omega
    have hdk : ∀ j, x.cps.toList.drop (a + j) = (l ++ 13 :: 10 :: linesL ls).drop j := fun j => by rw [← List.drop_drop, hd']
    have hat : At x eolS x.length (a + l.length) := at_eol.mpr ⟨by omega, by rw [hdk, List.drop_left]; rfl⟩
    have hno : ∀ k, a ≤ k → k < a + l.length → ¬ At x eolS x.length k := by
      intro k h1 h2 h3
      have h4 := (at_eol.mp h3).2
      obtain ⟨j, rfl⟩ : ∃ j, k = a + j := ⟨k - a, by omega⟩
      have hj : j < l.length := by omega
      rw [hdk, List.drop_append_of_le_length (by omega), List.drop_eq_getElem_cons hj] at h4
      simp only [List.cons_append, List.take_succ_cons] at h4
      have h5 := (List.cons.inj h4).1
      exact hl0 (h5 ▸ List.getElem_mem hj)
    cases cuts with
    | nil =>
      exfalso
      have : f = a := hc
      exact hf _ (by omega) hat
    | cons c r =>
      obtain ⟨h1, h2, h3, h4⟩ := hc
      have hce : c = a + l.length := by
        rcases Nat.lt_trichotomy c (a + l.length) with q | q | q
        · exact absurd h2 (hno c h1 q)
        · exact q
        · exact absurd hat (h3 _ (by omega) q)
      subst hce
      rw [eol_len] at h4
      have ih := parts_lines x ls (a + l.length + 2) r f (fun m hm => hl m (.tail _ hm)) (by omega) (by
        rw [show a + l.length + 2 = a + (l.length + 2) by omega, hdk]
        rw [show l.length + 2 = l.length + 2 from rfl, ← List.drop_drop, List.drop_left]; rfl) h4 hf
      show strSub x a (a + l.length) :: partsFrom x 2 (a + l.length + 2) r = _
      rw [ih, sub_mk (l := l) (by rw [Nat.add_sub_cancel_left, hd', List.take_left]), List.map_cons, List.cons_append]
theorem kind_eol (x : Str) : decide (Str.strKind x < Str.strKind eolS) = false := by
  have : Str.strKind eolS = 1 := by decide +kernel
  rw [this]
  unfold Str.strKind
  split
  · rfl
  · split <;> rfl
theorem split_lines {x : Str} {ls : List (List Nat)} (hl : ∀ l ∈ ls, 13 ∉ l) (hx : x.cps.toList = linesL ls) : Txt.split x eolS = ls.map mkS ++ [mkS []] := by
  obtain ⟨f, hc, hf⟩ := occ_tight x eolS (by rw [eol_len]; decide)
  have key := parts_lines x ls 0 _ f hl (Nat.zero_le _) (by rw [List.drop_zero, hx]) hc hf
  unfold Txt.split
  rw [kind_eol, Bool.or_false]
  split
  · rename_i h
    have h : x.length < 2 := by rw [eol_len] at h; exact of_decide_eq_true h
    cases ls with
    | nil =>
      show [x] = [mkS []]
      rw [str_ext (x := x) (y := mkS []) hx]
    | cons l ls =>
      exfalso
      rw [len_toList, hx] at h
      simp [linesL] at h; omega
  · split
    · rename_i h
      rw [List.isEmpty_iff.mp h] at key
      rw [← key]
      show [x] = [strSub x 0 x.length]
      rw [sub_whole]
    · rw [partsBetween_eq, eol_len]; exact key

/-! ## what quotedata makes of a mail's text -/
def endL (ms : List Str) (k : Nat) : List Nat := (endF ms k).cps.toList
theorem end_cases (ms : List Str) (k : Nat) : endL ms k = [10] ∨ endL ms k = [13, 10] ∨ (endL ms k = [13] ∧ lastC ms k = false ∧ k % 3 = 2) := by
  unfold endL endF
  cases h : lastC ms k
  · rw [if_neg (by decide)]
    split
    · right; left; decide +kernel
    · rename_i h1
      right; right
      refine ⟨by decide +kernel, rfl, ?_⟩
      have h0 : ¬ (k : Int).fmod 3 = 0 := fun q => by simp [lastC, q] at h
      have h1' : ¬ (k : Int).fmod 3 = 1 := fun q => by rw [q] at h1; exact h1 rfl
      rw [Int.fmod_eq_emod_of_nonneg _ (by decide)] at h0 h1'
      omega
  · rw [if_pos rfl]; left; decide +kernel
theorem last_next {ms : List Str} {k : Nat} (h : lastC ms k = false) (h3 : k % 3 = 2) (hk : k + 1 < ms.length) : ms[k + 1]?.getD "" ≠ "" := by
  intro q
  have e3 : (k : Int).fmod 3 = 2 := by rw [Int.fmod_eq_emod_of_nonneg _ (by decide)]; omega
  have es : sl ms (some ((k : Int) + 1)) (some ((k : Int) + 2)) = [("" : Str)] := by
    unfold sl bnd
    simp only [show ¬ ((k : Int) + 1 < 0) by omega, show ¬ ((k : Int) + 2 < 0) by omega, if_false]
    have e1 : min ((k : Int) + 1).toNat ms.length = k + 1 := by omega
    have e2 : min ((k : Int) + 2).toNat ms.length = k + 2 := by omega
    rw [e1, e2, List.drop_eq_getElem_cons hk, show k + 2 - (k + 1) = 1 by omega, List.take_succ_cons, List.take_zero]
    rw [List.getElem?_eq_getElem hk] at q
    rw [show ms[k + 1] = "" from q]
  unfold lastC at h
  rw [e3, es] at h
  simp at h
/-- the text from the way k on -/
def tailL (ms : List Str) : Nat → Nat → List Nat
  | 0, _ => []
  | j + 1, k => (ms[k]?.getD "").cps.toList ++ endL ms k ++ tailL ms j (k + 1)
theorem tail_snoc (ms : List Str) : ∀ (j k : Nat), tailL ms (j + 1) k = tailL ms j k ++ ((ms[k + j]?.getD "").cps.toList ++ endL ms (k + j))
  | 0, k => by simp [tailL]
  | j + 1, k => by
    rw [tailL, tail_snoc ms j (k + 1), tailL, show k + 1 + j = k + (j + 1) by omega]
    simp only [List.append_assoc]
theorem textF_list (ms : List Str) : ∀ k, (textF ms k).cps.toList = tailL ms k 0
  | 0 => by show Array.toList (Str.cps "") = []; decide +kernel
  | k + 1 => by
    rw [tail_snoc, ← textF_list ms k, Nat.zero_add, textF]
    show ((textF ms k).cps ++ (ms[k]?.getD "").cps ++ (endF ms k).cps).toList = _
    rw [Array.toList_append, Array.toList_append, List.append_assoc]; rfl
def lineOf (ms : List Str) (k : Nat) : List Nat := (ms[k]?.getD "").cps.toList
theorem nl2_tail {ms : List Str} (hm : ∀ m ∈ ms, ∀ c ∈ m.cps.toList, nl c = false) : ∀ (j k : Nat), k + j = ms.length → nl2 (tailL ms j k) = linesL ((List.range' k j).map (lineOf ms))
  | 0, k, _ => by simp [tailL, nl2, linesL]
  | j + 1, k, hk => by
    have ih := nl2_tail hm j (k + 1) (by omega)
    have hlt : k < ms.length := by omega
    have hc : ∀ c ∈ (ms[k]?.getD "").cps.toList, nl c = false := by
      rw [List.getElem?_eq_getElem hlt]
      exact hm _ (List.getElem_mem hlt)
    rw [tailL, List.append_assoc, nl2_skip _ _ hc, List.range'_succ, List.map_cons]
    have hfin : linesL (lineOf ms k :: (List.range' (k + 1) j).map (lineOf ms)) = (ms[k]?.getD "").cps.toList ++ (13 :: 10 :: linesL ((List.range' (k + 1) j).map (lineOf ms))) := by
      simp [linesL, lineOf]
    rw [hfin, ← ih]
    congr 1
    rcases end_cases ms k with e | e | ⟨e, h1, h2⟩
    · rw [e]
      exact nl2_nl (by decide) fun q => absurd q.1 (by decide)
    · rw [e]; exact nl2_crlf _
    · rw [e]
      refine nl2_nl (by decide) fun ⟨_, q⟩ => ?_
      cases j with
      | zero => cases q
      | succ j =>
        have hlt2 : k + 1 < ms.length := by omega
        have hne := last_next h1 h2 hlt2
        rw [tailL, List.append_assoc] at q
        cases hcs : (ms[k + 1]?.getD "").cps.toList with
        | nil =>
          refine hne (str_ext ?_)
          rw [hcs]; decide +kernel
        | cons c r =>
          rw [hcs] at q
          cases q
          have : nl 10 = false := by
            refine hm _ (List.getElem_mem hlt2) 10 ?_
            rw [List.getElem?_eq_getElem hlt2] at hcs
            rw [show ms[k + 1].cps.toList = 10 :: r from hcs]; exact .head _
          cases this
def dotL (l : List Nat) : List Nat := if l.head? = some 46 then 46 :: l else l
theorem dots_line : ∀ (l r : List Nat), (∀ c ∈ l, nl c = false) → dots false (l ++ 13 :: 10 :: r) = l ++ 13 :: 10 :: dots true r
  | [], r, _ => by rw [List.nil_append, dots, dots]; rfl
  | c :: l, r, h => by
    have hc := h c (.head _)
    have h10 : (c == 10) = false := by
      cases q : c == 10
      · rfl
      · rw [beq_iff_eq.mp q] at hc; cases hc
    rw [List.cons_append, dots, Bool.false_and, if_neg (by decide), h10, dots_line l r fun d hd => h d (.tail _ hd)]; rfl
theorem dots_lines : ∀ (ls : List (List Nat)), (∀ l ∈ ls, ∀ c ∈ l, nl c = false) → dots true (linesL ls) = linesL (ls.map dotL)
  | [], _ => rfl
  | l :: ls, h => by
    have ih := dots_lines ls fun m hm => h m (.tail _ hm)
    have hl := h l (.head _)
    have e1 : linesL (l :: ls) = l ++ 13 :: 10 :: linesL ls := by simp [linesL]
    have e2 : linesL ((l :: ls).map dotL) = dotL l ++ 13 :: 10 :: linesL (ls.map dotL) := by simp [linesL]
    rw [e1, e2, ← ih]
    cases l with
    | nil => rw [List.nil_append, dots, dots]; rfl
    | cons c l =>
      have h10 : (c == 10) = false := by
        have hc := hl c (.head _)
        cases q : c == 10
        · rfl
        · rw [beq_iff_eq.mp q] at hc; cases hc
      have hd := dots_line l (linesL ls) fun d hd => hl d (.tail _ hd)
      rw [List.cons_append, dots, Bool.true_and]
      by_cases hc : c = 46
      · rw [if_pos (by rw [hc]; rfl), hd, dotL, if_pos (by rw [hc]; rfl), hc]; rfl
      · rw [if_neg (by simpa using hc), h10, hd, dotL, if_neg (by simpa using hc)]; rfl
theorem cut1_list (x : Str) : (cut x none (some 1)).cps.toList = x.cps.toList.take 1 := by
  unfold cut sl bnd
  simp only [show ¬ ((1 : Int) < 0) by decide, if_false, List.drop_zero, Nat.sub_zero]
  cases x.cps.toList with
  | nil => rfl
  | cons c r =>
    rw [List.length_cons]
    have : min (1 : Int).toNat (r.length + 1) = 1 := by have : (1 : Int).toNat = 1 := rfl; omega
    rw [this]
theorem cutd_list (x : Str) : (cut x (some 1) none).cps.toList = x.cps.toList.drop 1 := by
  unfold cut sl bnd
  simp only [show ¬ ((1 : Int) < 0) by decide, if_false]
  cases x.cps.toList with
  | nil => rfl
  | cons c r =>
    rw [List.length_cons]
    have : min (1 : Int).toNat (r.length + 1) = 1 := by have : (1 : Int).toNat = 1 := rfl; omega
    rw [this]
    simp
/-- a line as it is sent, and as it is read -/
def dotF (x : Str) : Str := if (cut x none (some 1) == ".") = true then "." ++ x else x
def undotF (x : Str) : Str := if (cut x none (some 1) == ".") = true then cut x (some 1) none else x
theorem dot1 {x : Str} : (cut x none (some 1) == ".") = true ↔ x.cps.toList.head? = some 46 := by
  rw [beq_iff_eq]
  have e : Array.toList (Str.cps ".") = [46] := by decide +kernel
  constructor
  · intro h
    have := congrArg (fun z : Str => z.cps.toList) h
    simp only [cut1_list, e] at this
    cases q : x.cps.toList with
    | nil => rw [q] at this; cases this
    | cons c r => rw [q] at this; simp only [List.take_succ_cons, List.take_zero] at this; rw [(List.cons.inj this).1]; rfl
  · intro h
    apply str_ext
    rw [cut1_list, e]
    cases q : x.cps.toList with
    | nil => rw [q] at h; cases h
    | cons c r => rw [q] at h; cases h; rfl
theorem dotF_list (x : Str) : (dotF x).cps.toList = dotL x.cps.toList := by
  unfold dotF dotL
  by_cases h : (cut x none (some 1) == ".") = true
  · rw [if_pos h, if_pos (dot1.mp h)]
    show ((Str.cps ".") ++ x.cps).toList = _
    rw [Array.toList_append, show Array.toList (Str.cps ".") = [46] by decide +kernel]; rfl
  · rw [if_neg h, if_neg fun q => h (dot1.mpr q)]
theorem undot (x : Str) : undotF (dotF x) = x := by
  unfold undotF
  have hl := dotF_list x
  unfold dotL at hl
  by_cases h : x.cps.toList.head? = some 46
  · rw [if_pos h] at hl
    rw [if_pos (dot1.mpr (by rw [hl]; rfl))]
    apply str_ext
    rw [cutd_list, hl]; rfl
  · rw [if_neg h] at hl
    rw [if_neg fun q => h (by rw [← hl]; exact dot1.mp q)]
    exact str_ext hl
theorem sent_eq {ms : List Str} (hm : ∀ m ∈ ms, ∀ c ∈ m.cps.toList, nl c = false) : sentF ms = ms.map dotF ++ [("" : Str)] := by
  have hr : (List.range' 0 ms.length).map (lineOf ms) = ms.map fun m => m.cps.toList := by
    apply List.ext_getElem (by simp)
    intro i h1 h2
    simp only [List.getElem_map, List.getElem_range', lineOf, Nat.zero_add, Nat.one_mul]
    have : i < ms.length := by simpa using h2
    rw [List.getElem?_eq_getElem this]; rfl
  have h1 : (quoteF (textF ms ms.length)).cps.toList = linesL (ms.map fun m => (dotF m).cps.toList) := by
    show dots true (nl2 (textF ms ms.length).cps.toList) = _
    rw [textF_list, nl2_tail hm _ _ (Nat.zero_add _), hr, dots_lines, List.map_map]
    · congr 1
      apply List.map_congr_left
      intro m _
      exact (dotF_list m).symm
    · intro l hl
      obtain ⟨m, hm', rfl⟩ := List.mem_map.mp hl
      exact hm m hm'
  unfold sentF
  rw [split_lines (ls := ms.map fun m => (dotF m).cps.toList) ?_ h1, List.map_map]
  · congr 1
  · intro l hl
    obtain ⟨m, hm', rfl⟩ := List.mem_map.mp hl
    intro h13
    rw [dotF_list] at h13
    unfold dotL at h13
    have key : ∀ c ∈ m.cps.toList, c ≠ 13 := fun c hc q => by have := hm m hm' c hc; rw [q] at this; cases this
    split at h13
    · rcases List.mem_cons.mp h13 with q | q
      · cases q
      · exact key _ q rfl
    · exact key _ h13 rfl
end Mine
end -- W40

section -- W41
open PySem PySem.W PyProof.Rows PySem.Calls PySem.Spec
set_option maxRecDepth 100000
set_option maxHeartbeats 1000000
namespace Mine
/-! ## what sorted_list_difference tells is what _law_alone tells -/
def HH (p q : Str → Bool) : List Str → List Str → List Str
  | _, [] => []
  | seen, x :: r => (if (p x && (!decide (x ∈ seen) || q x)) = true then [x] else []) ++ HH p q (x :: seen) r
theorem HH_congr {p q p' q' : Str → Bool} : ∀ (xs seen seen' : List Str), (∀ x ∈ xs, p x = p' x ∧ (p x = true → (x ∈ seen ↔ x ∈ seen') ∧ q x = q' x)) → HH p q seen xs = HH p' q' seen' xs
  | [], _, _, _ => rfl
  | x :: r, seen, seen', h => by
    have ih := HH_congr (p := p) (q := q) (p' := p') (q' := q') r (x :: seen) (x :: seen') fun y hy => by
      obtain ⟨h1, h2⟩ := h y (.tail _ hy)
      refine ⟨h1, fun hp => ⟨?_, (h2 hp).2⟩⟩
      rw [List.mem_cons, List.mem_cons, (h2 hp).1]
    rw [HH, HH, ih]
    congr 1
    obtain ⟨h1, h2⟩ := h x (.head _)
    rw [← h1]
    cases hp : p x with
    | false => rfl
    | true =>
      obtain ⟨h3, h4⟩ := h2 hp
      rw [h4, decide_eq_decide.mpr h3]
theorem HH_drop {p q : Str → Bool} {e : Str} {seen : List Str} (h : p e = false ∨ (e ∈ seen ∧ q e = false)) : ∀ es : List Str, HH p q seen es = HH p q seen (es.dropWhile (· == e))
  | [] => rfl
  | c :: es => by
    rw [List.dropWhile_cons]
    by_cases hc : (c == e) = true
    · rw [if_pos hc, ← HH_drop h es]
      have hce : c = e := beq_iff_eq.mp hc
      subst hce
      have hz : (p c && (!decide (c ∈ seen) || q c)) = false := by
        rcases h with h | ⟨h1, h2⟩
        · rw [h]; rfl
        · rw [h2, decide_eq_true h1]; simp
      rw [HH, hz, if_neg (by decide), List.nil_append]
      refine HH_congr _ _ _ fun y hy => ⟨rfl, fun hp => ⟨?_, rfl⟩⟩
      rw [List.mem_cons]
      constructor
      · rintro (q1 | q1)
        · subst q1
          rcases h with h | h
          · rw [h] at hp; cases hp
          · exact h.1
        · exact q1
      · exact .inr
    · rw [if_neg hc]
theorem HH_all {p q : Str → Bool} (hp : ∀ x, p x = true) (hq : ∀ x, q x = true) : ∀ (xs seen : List Str), HH p q seen xs = xs
  | [], _ => rfl
  | x :: r, seen => by rw [HH, hp, hq, HH_all hp hq r]; simp
def pOf (ys : List Str) (x : Str) : Bool := !decide (x ∈ ys)
def qOf (ys : List Str) (x : Str) : Bool := ys.all fun y => ltS y x
abbrev Srt (l : List Str) : Prop := l.Pairwise fun x y => ltS y x = false
theorem drop_sub (e : Str) (es : List Str) : (es.dropWhile (· == e)).Sublist es := List.dropWhile_sublist _
theorem drop_mem {e y : Str} : ∀ {es : List Str}, y ∈ es → y = e ∨ y ∈ es.dropWhile (· == e)
  | c :: es, h => by
    rw [List.dropWhile_cons]
    by_cases hc : (c == e) = true
    · rw [if_pos hc]
      rcases List.mem_cons.mp h with h | h
      · exact .inl (h.trans (beq_iff_eq.mp hc))
      · exact drop_mem h
    · rw [if_neg hc]; exact .inr h
theorem rest_gt {e : Str} : ∀ {es : List Str}, Srt (e :: es) → ∀ x ∈ es.dropWhile (· == e), ltS e x = true
  | [], _, x, hx => nomatch hx
  | c :: es, h, x, hx => by
    rw [List.dropWhile_cons] at hx
    have h1 := List.pairwise_cons.mp h
    by_cases hc : (c == e) = true
    · rw [if_pos hc] at hx
      refine rest_gt (List.pairwise_cons.mpr ⟨fun y hy => h1.1 y (.tail _ hy), (List.pairwise_cons.mp h1.2).2⟩) x hx
    · rw [if_neg hc] at hx
      have hce := h1.1 c (.head _)
      cases hlt : ltS e x with
      | true => rfl
      | false =>
        exfalso
        have hxc : ltS x c = false := by
          rcases List.mem_cons.mp hx with q | q
          · rw [q]; exact ltS_irrefl c
          · exact (List.pairwise_cons.mp h1.2).1 x q
        have : ltS e c = false := leS_trans hxc hlt
        exact hc (beq_iff_eq.mpr (ltS_eq hce this))
theorem lt_le {a b c : Str} (h : ltS a b = true) (k : ltS c b = false) : ltS a c = true := by
  cases q : ltS a c with
  | true => rfl
  | false => have := leS_trans k q; rw [h] at this; cases this
theorem ne_of_lt {a b : Str} (h : ltS a b = true) : b ≠ a := fun q => by rw [q, ltS_irrefl] at h; cases h
theorem ctx_drop {e x : Str} {as : List Str} (h : ltS e x = true) : pOf (e :: as) x = pOf (as.dropWhile (· == e)) x ∧ qOf (e :: as) x = qOf (as.dropWhile (· == e)) x := by
  constructor
  · unfold pOf
    congr 1
    rw [decide_eq_decide, List.mem_cons]
    constructor
    · rintro (q | q)
      · exact absurd q (ne_of_lt h)
      · rcases drop_mem (e := e) q with q | q
        · exact absurd q (ne_of_lt h)
        · exact q
    · intro q; exact .inr ((drop_sub e as).subset q)
  · unfold qOf
    rw [Bool.eq_iff_iff, List.all_eq_true, List.all_eq_true]
    constructor
    · intro k y hy; exact k y (.tail _ ((drop_sub e as).subset hy))
    · intro k y hy
      rcases List.mem_cons.mp hy with q | q
      · rw [q]; exact h
      · rcases drop_mem (e := e) q with q | q
        · rw [q]; exact h
        · exact k y q
theorem HH_step {e : Str} {es ys : List Str} (hs : Srt (e :: es)) (hp : pOf ys e = true) (hq : qOf ys e = false) : HH (pOf ys) (qOf ys) [] (e :: es) = e :: HH (pOf ys) (qOf ys) [] (es.dropWhile (· == e)) := by
  rw [HH, hp, if_pos (by simp), HH_drop (e := e) (.inr ⟨List.mem_singleton.mpr rfl, hq⟩) es]
  show e :: _ = e :: _
  congr 1
  refine HH_congr _ _ _ fun x hx => ⟨rfl, fun _ => ⟨?_, rfl⟩⟩
  have := ne_of_lt (rest_gt hs x hx)
  simp [this]
theorem HH_ctx {e : Str} {es xs : List Str} (h : ∀ x ∈ xs, ltS e x = true) : HH (pOf (e :: es)) (qOf (e :: es)) [] xs = HH (pOf (es.dropWhile (· == e))) (qOf (es.dropWhile (· == e))) [] xs :=
  HH_congr _ _ _ fun x hx => ⟨(ctx_drop (h x hx)).1, fun _ => ⟨Iff.rfl, (ctx_drop (h x hx)).2⟩⟩
theorem HH_both {e : Str} {es as : List Str} (hs : Srt (e :: es)) : HH (pOf (e :: as)) (qOf (e :: as)) [] (e :: es) = HH (pOf (as.dropWhile (· == e))) (qOf (as.dropWhile (· == e))) [] (es.dropWhile (· == e)) := by
  have hp : pOf (e :: as) e = false := by simp [pOf]
  rw [HH_drop (e := e) (.inl hp) (e :: es), List.dropWhile_cons, if_pos (by simp)]
  exact HH_ctx (rest_gt hs)
theorem srt_drop {e : Str} {es : List Str} (hs : Srt (e :: es)) : Srt (es.dropWhile (· == e)) := List.Pairwise.sublist (drop_sub e es) (List.pairwise_cons.mp hs).2
theorem above {e a : Str} {as : List Str} (h : ltS e a = true) (hs : Srt (a :: as)) : ∀ x ∈ a :: as, ltS e x = true := fun x hx => by
  rcases List.mem_cons.mp hx with q | q
  · rw [q]; exact h
  · exact lt_le h ((List.pairwise_cons.mp hs).1 x q)
theorem out_of {e a : Str} {as : List Str} (h : ltS e a = true) (hs : Srt (a :: as)) : pOf (a :: as) e = true ∧ qOf (a :: as) e = false := by
  constructor
  · unfold pOf
    rw [Bool.not_eq_true', decide_eq_false_iff_not]
    intro hm
    have := above h hs e hm
    rw [ltS_irrefl] at this; cases this
  · unfold qOf
    rw [List.all_cons, ltS_asymm h]; rfl
theorem diff_alone (N : Nat) : ∀ (n : Nat) (xs ys : List Str), xs.length + ys.length ≤ n → xs.length + ys.length ≤ N → Srt xs → Srt ys → diffF N xs ys = (HH (pOf ys) (qOf ys) [] xs, HH (pOf xs) (qOf xs) [] ys) := by
  intro n
  induction n with
  | zero =>
    intro xs ys h _ _ _
    have h1 : xs = [] := List.length_eq_zero_iff.mp (by omega)
    have h2 : ys = [] := List.length_eq_zero_iff.mp (by omega)
    subst h1 h2
    exact diff_nil
  | succ n ih =>
    intro xs ys h hN hx hy
    cases xs with
    | nil => rw [diff_nil, HH_all (p := pOf []) (q := qOf []) (fun x => rfl) (fun x => rfl)]; rfl
    | cons e es =>
      cases ys with
      | nil => rw [diff_nil2, HH_all (p := pOf []) (q := qOf []) (fun x => rfl) (fun x => rfl)]; rfl
      | cons a as =>
        have d1 := dropWhile_le (· == e) es
        have d2 := dropWhile_le (· == a) as
        simp only [List.length_cons] at h hN
        cases h1 : ltS e a with
        | true =>
          rw [diff_lt hN h1, ih _ _ (by simp only [List.length_cons]; omega) (by simp only [List.length_cons]; omega) (srt_drop hx) hy]
          rw [HH_step hx (out_of h1 hy).1 (out_of h1 hy).2, HH_ctx (e := e) (es := es) (above h1 hy)]
        | false =>
          cases h2 : ltS a e with
          | true =>
            rw [diff_gt hN h1 h2, ih _ _ (by simp only [List.length_cons]; omega) (by simp only [List.length_cons]; omega) hx (srt_drop hy)]
            rw [HH_step hy (out_of h2 hx).1 (out_of h2 hx).2, HH_ctx (e := a) (es := as) (above h2 hx)]
          | false =>
            have hea := ltS_eq h1 h2
            subst hea
            rw [diff_eq hN h1 h2, ih _ _ (by omega) (by omega) (srt_drop hx) (srt_drop hy), HH_both hx, HH_both hy]
theorem mx_fold (x : Str) : ∀ (r : List Str) (b : Str), ltS (r.foldl (fun b y => if ltS b y = true then y else b) b) x = (ltS b x && r.all fun y => ltS y x)
  | [], b => by simp
  | y :: r, b => by
    rw [List.foldl_cons, mx_fold x r, List.all_cons, ← Bool.and_assoc]
    congr 1
    split
    · rename_i h
      cases q : ltS y x with
      | false => simp
      | true => rw [ltS_trans h q]; rfl
    · rename_i h
      cases q : ltS b x with
      | false => simp
      | true =>
        cases q2 : ltS y x with
        | true => rfl
        | false =>
          have : ltS b x = false := leS_trans q2 (by simpa using h)
          rw [q] at this; cases this
theorem lt_empty (x : Str) : ltS x "" = false := by
  unfold ltS
  have : Array.toList (Str.cps "") = [] := by decide +kernel
  rw [this]
  cases x.cps.toList <;> simp
theorem mx_all {ys : List Str} (hne : ys ≠ []) (x : Str) : ltS (mx (ys ++ [("" : Str)])) x = qOf ys x := by
  cases ys with
  | nil => exact absurd rfl hne
  | cons y r =>
    show ltS ((r ++ [("" : Str)]).foldl _ y) x = _
    have hR : qOf (y :: r) x = (ltS y x && r.all fun z => ltS z x) := List.all_cons
    rw [mx_fold, List.all_append, hR, ← Bool.and_assoc]
    cases q : (ltS y x && r.all fun z => ltS z x) with
    | false => rfl
    | true =>
      have h1 : ltS y x = true := by
        rw [Bool.and_eq_true] at q; exact q.1
      have h2 : ltS "" x = true := by
        cases q2 : ltS "" x with
        | true => rfl
        | false => have := leS_trans q2 (lt_empty y); rw [h1] at this; cases this
      rw [List.all_cons, h2]; rfl
theorem sl_to {α : Type} {xs : List α} {k : Nat} (h : k ≤ xs.length) : sl xs none (some (k : Int)) = xs.take k := by
  unfold sl bnd
  simp only [show ¬ ((k : Int) < 0) by omega, if_false, List.drop_zero, Nat.sub_zero]
  congr 1
  omega
theorem alone_from {xs ys : List Str} (hne : ys ≠ []) : ∀ (rest : List Str) (k : Nat), xs.drop k = rest → ((List.range' k rest.length).map fun j => if aloneC xs ys j = true then [xs[j]?.getD ""] else []).flatten = HH (pOf ys) (qOf ys) (xs.take k) rest
  | [], k, _ => rfl
  | x :: r, k, h => by
    have hlt : k < xs.length := by
      have : (xs.drop k).length = r.length + 1 := by rw [h]; rfl
      rw [List.length_drop] at this; omega
    have h0 := List.drop_eq_getElem_cons hlt
    rw [h] at h0
    obtain ⟨h1, h2⟩ := List.cons.inj h0
    have hx : xs[k]?.getD "" = x := by rw [List.getElem?_eq_getElem hlt, h1]; rfl
    rw [List.length_cons, List.range'_succ, List.map_cons, List.flatten_cons, alone_from hne r (k + 1) h2.symm, HH]
    have hc : aloneC xs ys k = (pOf ys x && (!decide (x ∈ xs.take k) || qOf ys x)) := by
      unfold aloneC
      rw [hx, mx_all hne, sl_to (Nat.le_of_lt hlt)]
      simp [pOf]
    rw [hc, hx]
    congr 1
    refine HH_congr _ _ _ fun y _ => ⟨rfl, fun _ => ⟨?_, rfl⟩⟩
    rw [List.take_add_one, List.getElem?_eq_getElem hlt, ← h1]
    simp [or_comm]
theorem alone_eq {xs ys : List Str} (hne : ys ≠ []) : aloneF xs ys = HH (pOf ys) (qOf ys) [] xs := by
  have := alone_from (xs := xs) hne xs 0 rfl
  unfold aloneF aloneL
  rw [List.range_eq_range', this]; rfl
theorem sld_alone {xs ys : List Str} (hx : Srt xs) (hy : Srt ys) (nx : xs ≠ []) (ny : ys ≠ []) : diffF (xs.length + ys.length) xs ys = (aloneF xs ys, aloneF ys xs) := by
  rw [diff_alone _ _ xs ys (Nat.le_refl _) (Nat.le_refl _) hx hy, alone_eq ny, alone_eq nx]
end Mine
end -- W41

section -- W42
open PySem PySem.W PyProof.Rows PySem.Calls PySem.Spec
open PySem.StrLaws PySem.Builtin PySem.Builtin.Str
set_option maxRecDepth 100000
set_option maxHeartbeats 1000000
namespace Mine
/-! ## a way and its parts, as lists of signs -/
def spl : List Nat → List (List Nat)
  | [] => [[]]
  | c :: r => if c = 47 then [] :: spl r else match spl r with
    | [] => [[c]]
    | h :: t => (c :: h) :: t
def joinL : List (List Nat) → List Nat
  | [] => []
  | [p] => p
  | p :: q :: r => p ++ 47 :: joinL (q :: r)
theorem spl_free : ∀ p : List Nat, 47 ∉ p → spl p = [p]
  | [], _ => rfl
  | c :: p, h => by
    have h1 : c ≠ 47 := fun q => h (q ▸ .head _)
    rw [spl, if_neg h1, spl_free p fun q => h (.tail _ q)]
theorem spl_app : ∀ (p r : List Nat), 47 ∉ p → spl (p ++ 47 :: r) = p :: spl r
  | [], r, _ => by rw [List.nil_append, spl, if_pos rfl]
  | c :: p, r, h => by
    have h1 : c ≠ 47 := fun q => h (q ▸ .head _)
    rw [List.cons_append, spl, if_neg h1, spl_app p r fun q => h (.tail _ q)]
theorem spl_joinL : ∀ ls : List (List Nat), ls ≠ [] → (∀ l ∈ ls, 47 ∉ l) → spl (joinL ls) = ls
  | [], h, _ => absurd rfl h
  | [p], _, h => spl_free p (h p (.head _))
  | p :: q :: r, _, h => by
    rw [joinL, spl_app _ _ (h p (.head _)), spl_joinL (q :: r) (by simp) fun l hl => h l (.tail _ hl)]
abbrev slash : Str := "/"
theorem slash_eq : slash = ⟨#[47]⟩ := str_ext (by decide +kernel)
theorem slash_list : slash.cps.toList = [47] := by decide +kernel
theorem app_list (a b : Str) : (a ++ b).cps.toList = a.cps.toList ++ b.cps.toList := by
  show (a.cps ++ b.cps).toList = _
  rw [Array.toList_append]
theorem sjoin_list : ∀ ps : List Str, (Str.join slash ps).cps.toList = joinL (ps.map fun p => p.cps.toList)
  | [] => rfl
  | [p] => rfl
  | p :: q :: r => by
    show (p ++ slash ++ Str.join slash (q :: r)).cps.toList = _
    rw [app_list, app_list, slash_list, sjoin_list (q :: r), List.append_assoc]; rfl
theorem join_list (ps : List Str) : (Txt.join slash ps).cps.toList = joinL (ps.map fun p => p.cps.toList) := by
  show (glued slash ps).cps.toList = _
  rw [glued_eq_join, sjoin_list]
theorem split_ne (x : Str) : Txt.split x slash ≠ [] := by
  unfold Txt.split
  split
  · simp
  · split
    · simp
    · rw [partsBetween_eq]
      obtain ⟨p, r, e⟩ := partsFrom_ne x slash.length 0 (occurrences x slash 0 x.length (x.length + 1))
      rw [e]; simp
theorem split_list (x : Str) : (Txt.split x slash).map (fun p => p.cps.toList) = spl x.cps.toList := by
  have hj := join_split x slash
  have h2 : joinL ((Txt.split x slash).map fun p => p.cps.toList) = x.cps.toList := by rw [← sjoin_list, hj]
  rw [← h2]
  refine (spl_joinL _ ?_ ?_).symm
  · rw [Ne, List.map_eq_nil_iff]; exact split_ne x
  · intro l hl
    obtain ⟨p, hp, rfl⟩ := List.mem_map.mp hl
    refine split_free x 47 p ?_
    rw [← slash_eq]; exact hp
theorem mk_list (x : Str) : mkS x.cps.toList = x := str_ext rfl
theorem split_eq (x : Str) : Txt.split x slash = (spl x.cps.toList).map mkS := by
  rw [← split_list, List.map_map]
  conv => lhs; rw [← List.map_id (Txt.split x slash)]
  apply List.map_congr_left
  intro p _
  exact (mk_list p).symm
theorem spl_ne (l : List Nat) : spl l ≠ [] := by
  cases l with
  | nil => simp [spl]
  | cons c r =>
    rw [spl]
    split
    · simp
    · split <;> simp
theorem spl_free_mem : ∀ (l : List Nat), ∀ p ∈ spl l, 47 ∉ p
  | [], p, h => by rw [spl, List.mem_singleton] at h; rw [h]; simp
  | c :: r, p, h => by
    have ih := spl_free_mem r
    rw [spl] at h
    split at h
    · rcases List.mem_cons.mp h with q | q
      · rw [q]; simp
      · exact ih p q
    · rename_i hc
      split at h
      · rw [List.mem_singleton.mp h]; simpa using Ne.symm hc
      · rename_i a t e
        rcases List.mem_cons.mp h with q | q
        · rw [q]
          intro hm
          rcases List.mem_cons.mp hm with q | q
          · exact hc q.symm
          · exact ih a (by rw [e]; exact .head _) q
        · exact ih p (by rw [e]; exact .tail _ q)
/-- the weight of parts -/
def wtL : List (List Nat) → Nat
  | [] => 0
  | p :: r => p.length + 1 + wtL r
theorem wtL_app : ∀ a b : List (List Nat), wtL (a ++ b) = wtL a + wtL b
  | [], b => by simp [wtL]
  | p :: a, b => by rw [List.cons_append, wtL, wtL, wtL_app a b]; omega
theorem spl_wt : ∀ l : List Nat, wtL (spl l) = l.length + 1
  | [] => rfl
  | c :: r => by
    have ih := spl_wt r
    rw [spl]
    split
    · rw [wtL, ih]; simp; omega
    · split
      · rename_i e; exact absurd e (spl_ne r)
      · rename_i h t e
        rw [e, wtL] at ih
        rw [wtL, List.length_cons, List.length_cons]; omega
theorem wtL_len : ∀ ls : List (List Nat), ls.length ≤ wtL ls
  | [] => Nat.le_refl _
  | p :: r => by have := wtL_len r; rw [wtL, List.length_cons]; omega
theorem joinL_len : ∀ ls : List (List Nat), (joinL ls).length ≤ wtL ls
  | [] => Nat.le_refl _
  | [p] => by simp only [joinL, wtL]; omega
  | p :: q :: r => by
    have := joinL_len (q :: r)
    rw [joinL, List.length_append, List.length_cons, wtL]; omega
theorem joinL_mem : ∀ (ls : List (List Nat)) (c : Nat), c ∈ joinL ls → c = 47 ∨ ∃ l ∈ ls, c ∈ l
  | [], c, h => nomatch h
  | [p], c, h => .inr ⟨p, .head _, h⟩
  | p :: q :: r, c, h => by
    rw [joinL] at h
    rcases List.mem_append.mp h with h | h
    · exact .inr ⟨p, .head _, h⟩
    · rcases List.mem_cons.mp h with h | h
      · exact .inl h
      · rcases joinL_mem (q :: r) c h with h | ⟨l, h1, h2⟩
        · exact .inl h
        · exact .inr ⟨l, .tail _ h1, h2⟩
/-- the weight of a row of texts -/
abbrev lsS (ps : List Str) : List (List Nat) := ps.map fun p => p.cps.toList
def wtS (ps : List Str) : Nat := wtL (lsS ps)
theorem wtS_app (a b : List Str) : wtS (a ++ b) = wtS a + wtS b := by unfold wtS lsS; rw [List.map_append, wtL_app]
theorem wtS_sum : ∀ ps : List Str, (ps.map (·.length)).sum + ps.length = wtS ps
  | [] => rfl
  | p :: r => by
    have := wtS_sum r
    simp only [List.map_cons, List.sum_cons, List.length_cons, wtS, lsS, wtL] at this ⊢
    rw [len_toList p]; omega
theorem wtS_one (p : Str) : wtS [p] = p.length + 1 := rfl
theorem slash_len : Str.length slash = 1 := by decide +kernel
theorem strOk_join {ps : List Str} (h : ∀ p ∈ ps, PyData.strOk p = true) : PyData.strOk (Txt.join slash ps) = true := by
  rw [strOk_mem]
  intro c hc
  rw [join_list] at hc
  rcases joinL_mem _ c hc with q | ⟨l, h1, h2⟩
  · rw [q]; decide
  · obtain ⟨p, hp, rfl⟩ := List.mem_map.mp h1
    exact strOk_mem.mp (h p hp) c h2
theorem join_len (ps : List Str) : (Txt.join slash ps).length ≤ wtS ps := by
  rw [len_toList, join_list]; exact joinL_len _
theorem rowOk_of {ps : List Str} (h : wtS ps ≤ 900) (ho : ∀ p ∈ ps, PyData.strOk p = true) : rowOk ps = true := by
  unfold rowOk
  rw [Bool.and_eq_true, Bool.and_eq_true, decide_eq_true_eq, decide_eq_true_eq]
  have h1 := wtS_sum ps
  have h2 := join_len ps
  have h3 := slash_len
  refine ⟨?_, Nat.le_trans h2 h, strOk_join ho⟩
  rw [slash_len]; omega
theorem wt_split (x : Str) : wtS (Txt.split x slash) = x.length + 1 := by
  unfold wtS lsS
  rw [split_list, spl_wt]; rfl
theorem split_len (x : Str) : (Txt.split x slash).length ≤ x.length + 1 := by
  rw [← wt_split, ← wtS_sum]; omega
theorem splOk_of {x : Str} (h : x.length ≤ 900) (ho : PyData.strOk x = true) : splOk x = true := by
  unfold splOk
  rw [Bool.and_eq_true, Bool.and_eq_true, Bool.and_eq_true, decide_eq_true_eq, decide_eq_true_eq, decide_eq_true_eq]
  have h1 := parts_le x slash
  have h2 := split_len x
  refine ⟨by omega, Nat.le_trans h1 (by omega), Nat.le_trans h2 (by omega), ?_⟩
  rw [List.all_eq_true]
  exact strOk_split ho
/-! ### the row of a plain walk -/
theorem plainF_wt (ahead : Str) (row : List Str) (c : Str) : wtS (plainF ahead row c) ≤ wtS row + (c.length + 1) := by
  unfold plainF
  split
  · have : wtS row.dropLast ≤ wtS row := by
      cases hr : row with
      | nil => exact Nat.le_refl _
      | cons a r =>
        have := List.dropLast_concat_getLast (l := a :: r) (by simp)
        conv => rhs; rw [← this, wtS_app]
        exact Nat.le_add_right _ _
    omega
  · split
    · rename_i h
      simp only [Bool.and_eq_true, beq_iff_eq] at h
      rw [h.1, wtS_app, wtS_one]
      exact Nat.le_refl _
    · split
      · rw [wtS_app, wtS_one]; exact Nat.le_refl _
      · omega
theorem plain_wt (ahead : Str) : ∀ (l : List Str) (acc : List Str), wtS (l.foldl (plainF ahead) acc) ≤ wtS acc + wtS l
  | [], acc => Nat.le_refl _
  | c :: l, acc => by
    have h1 := plain_wt ahead l (plainF ahead acc c)
    have h2 := plainF_wt ahead acc c
    have h3 : wtS (c :: l) = c.length + 1 + wtS l := rfl
    rw [List.foldl_cons]; omega
theorem plain_mem (ahead : Str) {Q : Str → Prop} (hd : Q "..") : ∀ (l : List Str) (acc : List Str), (∀ p ∈ l, Q p) → (∀ p ∈ acc, Q p) → ∀ p ∈ l.foldl (plainF ahead) acc, Q p
  | [], acc, _, h => h
  | c :: l, acc, hl, h => by
    rw [List.foldl_cons]
    refine plain_mem ahead hd l _ (fun p hp => hl p (.tail _ hp)) fun p hp => ?_
    unfold plainF at hp
    split at hp
    · exact h p (List.dropLast_subset _ hp)
    · split at hp
      · rcases List.mem_append.mp hp with hp | hp
        · exact h p hp
        · rw [List.mem_singleton.mp hp]; exact hd
      · split at hp
        · rcases List.mem_append.mp hp with hp | hp
          · exact h p hp
          · rw [List.mem_singleton.mp hp]; exact hl c (.head _)
        · exact h p hp
theorem row_wt (x : Str) : wtS (rowF x) ≤ x.length + 1 := by
  have := plain_wt (aheadF x) (Txt.split x slash) []
  rw [wt_split] at this
  exact Nat.le_trans this (by show 0 + _ ≤ _; omega)
theorem row_strOk {x : Str} (ho : PyData.strOk x = true) : ∀ p ∈ rowF x, PyData.strOk p = true := plain_mem (aheadF x) (Q := fun p => PyData.strOk p = true) (by decide +kernel) _ [] (strOk_split ho) fun _ h => nomatch h
theorem rowOk_row {x : Str} (h : x.length ≤ 800) (ho : PyData.strOk x = true) : rowOk (rowF x) = true := rowOk_of (Nat.le_trans (row_wt x) (by omega)) (row_strOk ho)
theorem stripE_sub : ∀ (k : Nat) (ks : List Str), ∃ t, ks = stripE k ks ++ t
  | 0, ks => ⟨[], (List.append_nil _).symm⟩
  | k + 1, ks => by
    rw [stripE]
    split
    · obtain ⟨t, e⟩ := stripE_sub k ks.dropLast
      cases hk : ks with
      | nil => exact ⟨[], by cases k <;> simp [stripE]⟩
      | cons a r =>
        rw [hk] at e
        refine ⟨t ++ [(a :: r).getLast (by simp)], ?_⟩
        rw [← List.append_assoc, ← e, List.dropLast_concat_getLast]
    · exact ⟨[], (List.append_nil _).symm⟩
theorem rowOk_kept {x : Str} (h : x.length ≤ 800) (ho : PyData.strOk x = true) : rowOk (keptF x) = true := by
  obtain ⟨t, e⟩ := stripE_sub (Txt.split x slash).dropLast.length (Txt.split x slash).dropLast
  have hs := List.dropLast_concat_getLast (split_ne x)
  have e2 : Txt.split x slash = keptF x ++ (t ++ [(Txt.split x slash).getLast (split_ne x)]) := by
    conv => lhs; rw [← hs, e]
    rw [List.append_assoc]; rfl
  have hw := wt_split x
  rw [e2, wtS_app] at hw
  refine rowOk_of (by omega) fun p hp => strOk_split (y := slash) ho p ?_
  have := List.mem_append_left (t ++ [(Txt.split x slash).getLast (split_ne x)]) hp
  rw [← e2] at this
  exact this
end Mine
end -- W42

section -- W43
open PySem PySem.W PyProof.Rows PySem.Calls PySem.Spec
set_option maxRecDepth 100000
set_option maxHeartbeats 1000000
namespace Mine
/-! ## the judgements once more, closed: what they mean is not unfolded while a proof is typed -/
section
variable (C : Cx) (n : Nat) (env : Env) (τ : St)
structure SEv (e : Expr) (en : Ent) : Prop where
  out : Ev C n env τ e en
structure STs (e : Expr) (b : Bool) : Prop where
  out : Ts C n env τ e b
structure SEs (es : List Expr) (ds : List Dat) : Prop where
  out : Es C n env τ es ds
structure SItr (e : Expr) (ds : List Dat) : Prop where
  out : Itr C n env τ e ds
structure SPt (o : Option Expr) (k : Option Int) : Prop where
  out : Pt C n env τ o k
structure SNew (e : Expr) (ds : List Dat) : Prop where
  out : EvNew C n env τ e ds
structure SEx1 (st : Stmt) (P : Fl → St → Prop) : Prop where
  out : Ex1 C n env τ st P
structure SEx (st : List Stmt) (P : Fl → St → Prop) : Prop where
  out : Ex C n env τ st P
end
def SThen (C : Cx) (n : Nat) (env : Env) (rest : List Stmt) (P : Fl → St → Prop) : Fl → St → Prop
  | .next, τ => SEx C n env τ rest P
  | l, τ => P l τ
section
variable {C : Cx} {n : Nat} {env : Env} {τ τ' : St}
theorem s_local {x : Str} {pos : Pos} {e : Ent} (hx : τ.σ x = some e) (hl : env.kindOf x = some .local := by rfl) (hd : (x == ("__debug__" : Str)) = false := by decide) : SEv C n env τ (.Name x pos) e := ⟨ev_local hx hl hd⟩
theorem s_cell {x : Str} {pos : Pos} {d : Dat} (hx : τ.cσ x = some d) (hl : env.kindOf x = some .cell := by rfl) (hd : (x == ("__debug__" : Str)) = false := by decide) : SEv C n env τ (.Name x pos) (.dat d) := ⟨ev_cell hx hl hd⟩
theorem s_glob {x : Str} {pos : Pos} {v : Value} (e : nsIn C.K mainGlobals x = some (some v)) (hx : env.kindOf x = some .globalImplicit := by rfl) (hd : (x == ("__debug__" : Str)) = false := by decide) : SEv C n env τ (.Name x pos) (.raw v) := ⟨ev_glob e hx hd⟩
theorem s_boot {x : Str} {pos : Pos} {v : Value} (e : nsIn C.K mainGlobals x = some Option.none) (hv : bootBuiltins x = some v) (hn : x ≠ "__name__" := by decide) (hx : env.kindOf x = some .globalImplicit := by rfl) (hd : (x == ("__debug__" : Str)) = false := by decide) : SEv C n env τ (.Name x pos) (.raw v) := ⟨ev_boot e hv hn hx hd⟩
theorem s_int {i : Int} {k : Nat} {pos : Pos} : SEv C n env τ (.Constant (.int i) k pos) (.dat (.int i)) := ⟨ev_int⟩
theorem s_bool {b : Bool} {k : Nat} {pos : Pos} : SEv C n env τ (.Constant (.bool b) k pos) (.dat (.bool b)) := ⟨ev_true⟩
theorem s_neg {i : Int} {k : Nat} {pos pos' : Pos} : SEv C n env τ (.UnaryOp .USub (.Constant (.int i) k pos) pos') (.dat (.int (-i))) := ⟨ev_neg⟩
theorem s_str {x : Str} {k : Nat} {pos : Pos} (hx : PyData.strOk x = true := by decide +kernel) : SEv C n env τ (.Constant (.str x) k pos) (.dat (.str x)) := ⟨ev_str hx⟩
theorem s_bin {l r : Expr} {op : Operator} {pos : Pos} {a b c : Dat} (hl : SEv C n env τ l (.dat a)) (hr : SEv C n env τ r (.dat b)) (h : Op2 C n (binaryOp op) a b c) : SEv C n env τ (.BinOp l op r pos) (.dat c) := ⟨ev_bin hl.out hr.out h⟩
theorem s_cmp {l r : Expr} {op : CmpOp} {pos : Pos} {a b c : Dat} (hl : SEv C n env τ l (.dat a)) (hr : SEv C n env τ r (.dat b)) (h : Op2 C n (compareOp op) a b c) (hm : behindInMarks op r = false := by rfl) : SEv C n env τ (.Compare l [op] [r] pos) (.dat c) := ⟨ev_cmp hl.out hr.out h hm⟩
theorem st_cmp {l r : Expr} {op : CmpOp} {pos : Pos} {a b : Dat} {c : Bool} (hl : SEv C n env τ l (.dat a)) (hr : SEv C n env τ r (.dat b)) (h : Op2 C n (compareOp op) a b (.bool c)) (hm : behindInMarks op r = false := by rfl) : STs C n env τ (.Compare l [op] [r] pos) c := ⟨ts_cmp hl.out hr.out h hm⟩
theorem s_if {t a b : Expr} {pos : Pos} {c : Bool} {e : Ent} (ht : STs C n env τ t c) (ha : c = true → SEv C n env τ a e) (hb : c = false → SEv C n env τ b e) : SEv C n env τ (.IfExp t a b pos) e := ⟨ev_if ht.out (fun q => (ha q).out) fun q => (hb q).out⟩
theorem s_nil : SEs C n env τ [] [] := ⟨es_nil⟩
theorem s_cons {e : Expr} {r : List Expr} {d : Dat} {ds : List Dat} (h : SEv C n env τ e (.dat d)) (hr : SEs C n env τ r ds) (hs : starEach (e :: r) env = (false, eval e env) :: starEach r env := by rfl) : SEs C n env τ (e :: r) (d :: ds) := ⟨es_cons h.out hr.out hs⟩
theorem s_list {es : List Expr} {ds : List Dat} {pos : Pos} (h : SEs C n env τ es ds) (hsz : ds.length ≤ 1000 := by exact Nat.le_of_ble_eq_true rfl) : SEv C n env τ (.List es pos) (.dat (.list ds)) := ⟨ev_list h.out (szl hsz)⟩
theorem s_tuple {es : List Expr} {ds : List Dat} {k : Nat} {pos : Pos} (h : SEs C n env τ es ds) (hsz : ds.length ≤ 1000 := by exact Nat.le_of_ble_eq_true rfl) : SEv C n env τ (.Tuple es k pos) (.dat (.tuple ds)) := ⟨ev_tuple h.out (szl hsz)⟩
theorem s_item_list {v i : Expr} {pos : Pos} {ds : List Dat} {k : Int} {d : Dat} (hv : SEv C n env τ v (.dat (.list ds))) (hi : SEv C n env τ i (.dat (.int k))) (hd : at? ds k = some d) (hsz : ds.length ≤ 1000 := by exact Nat.le_of_ble_eq_true rfl)
    (hs : ∀ o i', subscripted i false o i' = operate [o, i'] (getItem o i') := by intro _ _; rfl) : SEv C n env τ (.Subscript v i pos) (.dat d) := ⟨ev_item_list hv.out hi.out hd (szl hsz) hs⟩
theorem s_item_tuple {v i : Expr} {pos : Pos} {ds : List Dat} {k : Int} {d : Dat} (hv : SEv C n env τ v (.dat (.tuple ds))) (hi : SEv C n env τ i (.dat (.int k))) (hd : at? ds k = some d) (hlo : -2 ^ 63 ≤ k := by decide) (hhi : k < 2 ^ 63 := by decide)
    (hs : ∀ o i', subscripted i false o i' = operate [o, i'] (getItem o i') := by intro _ _; rfl) : SEv C n env τ (.Subscript v i pos) (.dat d) := ⟨ev_item_tuple hv.out hi.out hd hlo hhi hs⟩
theorem sp_none : SPt C n env τ none none := ⟨pt_none⟩
theorem sp_some {e : Expr} {i : Int} (h : SEv C n env τ e (.dat (.int i))) : SPt C n env τ (some e) (some i) := ⟨pt_some h.out⟩
theorem s_slice_list {v : Expr} {lo hi : Option Expr} {p pos : Pos} {ds : List Dat} {a b : Option Int} (hv : SEv C n env τ v (.dat (.list ds))) (hl : SPt C n env τ lo a) (hh : SPt C n env τ hi b) (hsz : ds.length ≤ 1000)
    (ht : ∀ o r, letTemporaryGo v o r = pure () := by intro _ _; rfl) : SEv C n env τ (.Subscript v (.Slice lo hi none p) pos) (.dat (.list (sl ds a b))) := ⟨ev_slice_list hv.out hl.out hh.out (szl hsz) ht⟩
theorem s_slice_str {v : Expr} {lo hi : Option Expr} {p pos : Pos} {x : Str} {a b : Option Int} (hv : SEv C n env τ v (.dat (.str x))) (hl : SPt C n env τ lo a) (hh : SPt C n env τ hi b) (hsz : x.length ≤ 1000)
    (ht : ∀ o r, letTemporaryGo v o r = pure () := by intro _ _; rfl) : SEv C n env τ (.Subscript v (.Slice lo hi none p) pos) (.dat (.str (cut x a b))) := ⟨ev_slice_str hv.out hl.out hh.out (szl hsz) ht⟩
theorem s_call {x : Str} {np pos : Pos} {f : Addr} {fd : FuncData} {o : Obj} {k : Nat} {e : Expr} {es : List Expr} {ds : List Dat} {r : Dat}
    (hx : SEv C n env τ (.Name x np) (.raw (.ref f))) (ho : C.K.lookup f = some o) (hd : o.data = .func fd) (he : SEs C n env τ (e :: es) ds) (hf : Fn C k f ds r) (hk : k + 1 ≤ n := by decide)
    (hs : starEach (e :: es) env = (false, eval e env) :: starEach es env := by rfl) : SEv C n env τ (.Call (.Name x np) (e :: es) [] pos) (.dat r) := ⟨ev_call hx.out ho hd he.out hf hk hs⟩
theorem s_abs {f : Str} {np pos : Pos} {e : Expr} {a : Int} (hf : SEv C n env τ (.Name f np) (.raw (.builtin "abs"))) (he : SEv C n env τ e (.dat (.int a)))
    (hs : starEach [e] env = [(false, eval e env)] := by rfl) : SEv C n env τ (.Call (.Name f np) [e] [] pos) (.dat (.int (if a < 0 then -a else a))) := ⟨ev_abs hf.out he.out hs⟩
theorem s_sorted {f : Str} {np pos : Pos} {e : Expr} {xs : List Str} (hf : SEv C n env τ (.Name f np) (.raw (.builtin "sorted"))) (he : SEv C n env τ e (.dat (.list (xs.map Dat.str)))) (hsz : xs.length < 64)
    (hs : starEach [e] env = [(false, eval e env)] := by rfl) : SEv C n env τ (.Call (.Name f np) [e] [] pos) (.dat (.list ((srt xs).map Dat.str))) := ⟨ev_sorted hf.out he.out hsz hs⟩
theorem s_join {o e : Expr} {apos pos : Pos} {x : Str} {ys : List Str} (ho : SEv C n env τ o (.dat (.str x))) (he : SEv C n env τ e (.dat (.list (ys.map Dat.str)))) (hok : (ys.map (·.length)).sum + ys.length * x.length ≤ 16777216) (hso : PyData.strOk (Txt.join x ys) = true)
    (hbase : attributeBase o "join" env (eval o env) = eval o env := by rfl) (hs : starEach [e] env = [(false, eval e env)] := by rfl) (hline : (apos.endLine == pos.line) = true := by rfl) :
    SEv C n env τ (.Call (.Attribute o "join" apos) [e] [] pos) (.dat (.str (Txt.join x ys))) := ⟨ev_join ho.out he.out hok hso hbase hs hline⟩
theorem s_item_refs {v i : Expr} {pos : Pos} {as : List Addr} {k : Nat} {a : Addr} (hv : SEv C n env τ v (.refs as)) (hi : SEv C n env τ i (.dat (.int (k : Int)))) (ha : as[k]? = some a) (hsz : as.length ≤ 1000)
    (hs : ∀ o i', subscripted i false o i' = operate [o, i'] (getItem o i') := by intro _ _; rfl) : SEv C n env τ (.Subscript v i pos) (.raw (.ref a)) := ⟨ev_item_refs hv.out hi.out ha hsz hs⟩
theorem si_list {e : Expr} {ds : List Dat} (h : SEv C n env τ e (.dat (.list ds))) (hn : 0 < n := by decide) : SItr C n env τ e ds := ⟨itr_list h.out hn⟩
theorem si_range {f : Str} {np pos : Pos} {e : Expr} {m : Nat} (hf : SEv C n env τ (.Name f np) (.raw (.type "range"))) (he : SEv C n env τ e (.dat (.int (m : Int)))) (hm : m ≤ 1000000) (hn : 0 < n := by decide) (hs : starEach [e] env = [(false, eval e env)] := by rfl) : SItr C n env τ (.Call (.Name f np) [e] [] pos) (rng m) := ⟨itr_range hf.out he.out hm hn hs⟩
theorem sn_list {es : List Expr} {ds : List Dat} {pos : Pos} (h : SEs C n env τ es ds) (hsz : ds.length ≤ 1000 := by exact Nat.le_of_ble_eq_true rfl) : SNew C n env τ (.List es pos) ds := ⟨evn_list h.out (szl hsz)⟩
theorem sn_if {t a b : Expr} {pos : Pos} {c : Bool} {ds : List Dat} (ht : STs C n env τ t c) (ha : c = true → SNew C n env τ a ds) (hb : c = false → SNew C n env τ b ds) : SNew C n env τ (.IfExp t a b pos) ds := ⟨evn_if ht.out (fun q => (ha q).out) fun q => (hb q).out⟩
/-! comprehensions -/
theorem s_comp {elt iter : Expr} {x : Str} {px : Pos} {scope : Scope} {pos : Pos} {ds rs : List Dat} (hi : SItr C n env τ iter ds) (hlen : rs.length = ds.length) (hsz : rs.length ≤ 1000)
    (helt : ∀ (L : Addr) (cl : List (Str × Addr)) (i : Nat) (d r : Dat) (σ : Str → Option Ent) (D : Addr) (outs : List Dat) (X : List Addr), ds[i]? = some d → rs[i]? = some r → SEv C n (compEnvC scope cl L env) (cstx σ (cσr scope τ.cσ) D outs X x d) elt (.dat r))
    (hx : ∀ cl L, (compEnvC scope cl L env).kindOf x = some .local := by intro _ _; rfl) (hsc : scopeOk scope = true := by rfl) (hfr : freeOk scope τ.cσ = true := by rfl) (hs : ∀ x, foldedSetIterable iter env x = pure x := by intro _; rfl) :
    SEv C n env τ (.ListComp elt [⟨.Name x px, iter, [], 0⟩] scope pos) (.dat (.list rs)) := ⟨ev_comp hi.out hlen (szl hsz) (fun L cl i d r σ D outs X q1 q2 => (helt L cl i d r σ D outs X q1 q2).out) hx hsc hfr hs⟩
theorem s_comp_two {elt i1 i2 : Expr} {x y : Str} {px py : Pos} {scope : Scope} {pos : Pos} {ds : List Dat} {es cs : List (List Dat)} {rs : List Dat} (hi : SItr C n env τ i1 ds) (hlen : cs.length = ds.length) (hlen2 : es.length = ds.length)
    (hinner : ∀ (L : Addr) (cl : List (Str × Addr)) (i : Nat) (d : Dat) (e : List Dat) (σ : Str → Option Ent) (D : Addr) (outs : List Dat) (X : List Addr), ds[i]? = some d → es[i]? = some e → SItr C n (compEnvC scope cl L env) (cstx σ (cσr scope τ.cσ) D outs X x d) i2 e)
    (helt : ∀ (L : Addr) (cl : List (Str × Addr)) (i : Nat) (e c : List Dat), es[i]? = some e → cs[i]? = some c → c.length = e.length ∧ ∀ (j : Nat) (d r : Dat) (σ : Str → Option Ent) (D : Addr) (outs : List Dat) (X : List Addr), e[j]? = some d → c[j]? = some r → SEv C n (compEnvC scope cl L env) (cstx σ (cσr scope τ.cσ) D outs X y d) elt (.dat r))
    (hrs : cs.flatten = rs) (hsz : rs.length ≤ 1000)
    (hx : ∀ cl L, (compEnvC scope cl L env).kindOf x = some .local := by intro _ _; rfl) (hy : ∀ cl L, (compEnvC scope cl L env).kindOf y = some .local := by intro _ _; rfl) (hs2 : ∀ cenv v, foldedSetIterable i2 cenv v = pure v := by intro _ _; rfl)
    (hsc : scopeOk scope = true := by rfl) (hfr : freeOk scope τ.cσ = true := by rfl) (hs : ∀ x, foldedSetIterable i1 env x = pure x := by intro _; rfl) :
    SEv C n env τ (.ListComp elt [⟨.Name x px, i1, [], 0⟩, ⟨.Name y py, i2, [], 0⟩] scope pos) (.dat (.list rs)) :=
  ⟨ev_of_comp hi.out (comp_two hlen hlen2 (fun L cl i d e σ D outs X q1 q2 => (hinner L cl i d e σ D outs X q1 q2).out) (fun L cl i e c q1 q2 => ⟨(helt L cl i e c q1 q2).1, fun j d r σ D outs X q3 q4 => ((helt L cl i e c q1 q2).2 j d r σ D outs X q3 q4).out⟩) hx hy hs2) hrs (szl hsz) hsc hfr hs⟩
/-! statements -/
theorem sx_nil {P : Fl → St → Prop} (h : P .next τ) : SEx C n env τ [] P := ⟨ex_nil h⟩
theorem sx_cons {st : Stmt} {rest : List Stmt} {P : Fl → St → Prop} (h : SEx1 C n env τ st (SThen C n env rest P)) : SEx C n env τ (st :: rest) P :=
  ⟨ex_cons (h.out.mono fun l τ' hp => by
    cases l with
    | next => exact SEx.out hp
    | brk => exact hp
    | cont => exact hp
    | ret d => exact hp)⟩
theorem sx_weak {st : List Stmt} {P : Fl → St → Prop} (h : Ext τ τ') (k : SEx C n env τ st P) : SEx C n env τ' st P := ⟨ex_weak h k.out⟩
theorem st_weak {e : Expr} {b : Bool} (h : Ext τ τ') (k : STs C n env τ e b) : STs C n env τ' e b := ⟨ts_weak h k.out⟩
theorem sx_assign {x : Str} {px pos : Pos} {e : Expr} {en : Ent} {P : Fl → St → Prop} (he : SEv C n env τ e en) (h : P .next (τ.set x en)) (hl : env.kindOf x = some .local := by rfl)
    (hs : swapsWith e (some (.Name x px)) pos.line env = pure false := by rfl) : SEx1 C n env τ (.Assign [.Name x px] e pos) P := ⟨ex_assign he.out h hl hs⟩
theorem sx_assignC {x : Str} {px pos : Pos} {e : Expr} {d : Dat} {P : Fl → St → Prop} (he : SEv C n env τ e (.dat d)) (h : P .next (τ.setC x d)) (hf : τ.fn = true := by rfl) (hc : ∀ s₀ s, Fm C s₀ env τ s → ∃ c, env.cells.lookup x = some c) (hl : env.kindOf x = some .cell := by rfl)
    (hs : swapsWith e (some (.Name x px)) pos.line env = pure false := by rfl) : SEx1 C n env τ (.Assign [.Name x px] e pos) P := ⟨ex_assignC he.out h hf hc hl hs⟩
theorem sx_assign_comp {elt : Expr} {x : Str} {px : Pos} {iter : Expr} {scope : Scope} {y : Str} {py pos spos : Pos} {ds : List Dat} {rs : List Dat} {P : Fl → St → Prop} (hi : SItr C n env τ iter ds) (hlen : rs.length = ds.length) (hsz : rs.length ≤ 1000)
    (helt : ∀ (L : Addr) (cl : List (Str × Addr)) (i : Nat) (d r : Dat) (σ : Str → Option Ent) (D : Addr) (outs : List Dat) (X : List Addr), ds[i]? = some d → rs[i]? = some r → SEv C n (compEnvC scope cl L env) (cstx σ (cσr scope τ.cσ) D outs X x d) elt (.dat r))
    (h : P .next (τ.set y (.dat (.list rs))))
    (hx : ∀ cl L, (compEnvC scope cl L env).kindOf x = some .local := by intro _ _; rfl)
    (hsw : swapsWith (.ListComp elt [⟨.Name x px, iter, [], 0⟩] scope pos) (some (.Name y py)) spos.line env = pure true := by rfl) (hy : env.kindOf y = some .local := by rfl)
    (hsc : scopeOk scope = true := by rfl) (hfr : freeOk scope τ.cσ = true := by rfl) (hs : ∀ x, foldedSetIterable iter env x = pure x := by intro _; rfl) :
    SEx1 C n env τ (.Assign [.Name y py] (.ListComp elt [⟨.Name x px, iter, [], 0⟩] scope pos) spos) P :=
  ⟨ex_assign_comp hi.out (comp_one hlen (fun L cl i d r σ D outs X q1 q2 => (helt L cl i d r σ D outs X q1 q2).out) hx) (flatten_ones rs) (szl hsz) h hsw hy hsc hfr hs⟩
theorem sx_ret {e : Expr} {d : Dat} {pos : Pos} {P : Fl → St → Prop} (he : SEv C n env τ e (.dat d)) (h : P (.ret d) τ) : SEx1 C n env τ (.Return (some e) pos) P := ⟨ex_ret he.out h⟩
theorem sx_if {t : Expr} {a b : List Stmt} {pos : Pos} {c : Bool} {P : Fl → St → Prop} (ht : STs C n env τ t c) (ha : c = true → SEx C n env τ a P) (hb : c = false → SEx C n env τ b P) : SEx1 C n env τ (.If t a b pos) P := ⟨ex_if ht.out (fun q => (ha q).out) fun q => (hb q).out⟩
theorem sx_for2 {x : Str} {px pos : Pos} {iter : Expr} {body : List Stmt} {ds : List Dat} {P : Fl → St → Prop} (T : Nat → St) (hi : SItr C n env τ iter ds) (h0 : Ext (T 0) τ)
    (turn : ∀ i d, ds[i]? = some d → SEx C n env ((T i).set x (.dat d)) body (fun l τ'' => match l with
      | .next | .cont => Ext (T (i + 1)) τ''
      | .brk => P .next τ''
      | .ret r => P (.ret r) τ''))
    (done : ∀ τ', Ext (T ds.length) τ' → P .next τ') (hl : env.kindOf x = some .local := by rfl) (hs : ∀ x, foldedSetIterable iter env x = pure x := by intro _; rfl) : SEx1 C n env τ (.For (.Name x px) iter body [] pos) P :=
  ⟨ex_for2 T hi.out h0 (fun i d q => (turn i d q).out) done hl hs⟩
theorem sx_while {test : Expr} {body : List Stmt} {pos : Pos} {P : Fl → St → Prop} (J : Nat → St → Prop) (k : Nat) (h0 : J k τ)
    (turn : ∀ k τ', J k τ' → ∃ b, STs C n env τ' test b ∧ (b = true → SEx C n env τ' body (fun l τ'' => match l with
      | .next | .cont => ∃ m, m < k ∧ J m τ''
      | .brk => P .next τ''
      | .ret r => P (.ret r) τ'')) ∧ (b = false → P .next τ')) : SEx1 C n env τ (.While test body [] pos) P :=
  ⟨ex_while J k h0 fun k τ' h => let ⟨b, h1, h2, h3⟩ := turn k τ' h; ⟨b, h1.out, fun q => (h2 q).out, h3⟩⟩
theorem sx_assign_own {x : Str} {px pos : Pos} {e : Expr} {ds : List Dat} {P : Fl → St → Prop} (he : SNew C n env τ e ds) (h : ∀ a, P .next (({ τ with led := (a, ds) :: τ.led } : St).set x (.raw (.ref a)))) (hl : env.kindOf x = some .local := by rfl)
    (hs : swapsWith e (some (.Name x px)) pos.line env = pure false := by rfl) : SEx1 C n env τ (.Assign [.Name x px] e pos) P := ⟨ex_assign_own he.out h hl hs⟩
theorem sx_append {o e : Expr} {apos cpos pos : Pos} {a : Addr} {d : Dat} {xs : List Dat} {l1 l2 : List (Addr × List Dat)} {P : Fl → St → Prop} (ho : SEv C n env τ o (.raw (.ref a))) (he : SEv C n env τ e (.dat d)) (hl : τ.led = l1 ++ (a, xs) :: l2) (hsz : xs.length ≤ 1000)
    (h : P .next { τ with led := l1 ++ (a, xs ++ [d]) :: l2 })
    (hbase : attributeBase o "append" env (eval o env) = eval o env := by rfl) (hs : starEach [e] env = [(false, eval e env)] := by rfl) (hline : (apos.endLine == cpos.line) = true := by rfl)
    (hi : interactive env = false := by rfl) (hsw : swapsWith (.Call (.Attribute o "append" apos) [e] [] cpos) none pos.line env = pure false := by rfl) :
    SEx1 C n env τ (.Expr (.Call (.Attribute o "append" apos) [e] [] cpos) pos) P := ⟨ex_append ho.out he.out hl (szl hsz) h hbase hs hline hi hsw⟩
theorem sx_freeze {x : Str} {a : Addr} {xs : List Dat} {l1 l2 : List (Addr × List Dat)} {st : List Stmt} {P : Fl → St → Prop} (hx : τ.σ x = some (.raw (.ref a))) (hl : τ.led = l1 ++ (a, xs) :: l2) (h : SEx C n env (({ τ with led := l1 ++ l2 } : St).set x (.dat (.list xs))) st P) : SEx C n env τ st P := ⟨ex_freeze hx hl h.out⟩
theorem sx_freezeRefs {x : Str} {a0 a1 : Addr} {ds0 ds1 : List Dat} {st : List Stmt} {P : Fl → St → Prop} (hx : τ.σ x = some (.refs [a0, a1])) (hl : τ.led = [(a1, ds1), (a0, ds0)]) (h : SEx C n env (({ τ with led := [] } : St).set x (.dat (.list [.list ds0, .list ds1]))) st P) : SEx C n env τ st P := ⟨ex_freezeRefs hx hl h.out⟩
theorem sx_assign_refs {x : Str} {px p1 p2 pos spos : Pos} {es1 es2 : List Expr} {ds1 ds2 : List Dat} {P : Fl → St → Prop} (h1 : SEs C n env τ es1 ds1) (h2 : ∀ τ', SEs C n env τ' es2 ds2) (hz1 : ds1.length ≤ 1000) (hz2 : ds2.length ≤ 1000)
    (h : ∀ a0 a1, P .next (({ τ with led := (a1, ds2) :: (a0, ds1) :: τ.led } : St).set x (.refs [a0, a1]))) (hl : env.kindOf x = some .local := by rfl)
    (hst : starEach [.List es1 p1, .List es2 p2] env = [(false, eval (.List es1 p1) env), (false, eval (.List es2 p2) env)] := by rfl)
    (hs : swapsWith (.List [.List es1 p1, .List es2 p2] pos) (some (.Name x px)) spos.line env = pure false := by rfl) : SEx1 C n env τ (.Assign [.Name x px] (.List [.List es1 p1, .List es2 p2] pos) spos) P := ⟨ex_assign_refs h1.out (fun τ' => (h2 τ').out) hz1 hz2 h hl hst hs⟩
end
end Mine
end -- W43

section -- W44
open PySem PySem.W PyProof.Rows PySem.Calls PySem.Spec
open PySem.StrLaws PySem.Builtin PySem.Builtin.Str
set_option maxRecDepth 100000
set_option maxHeartbeats 1000000
namespace Mine
/-! ## normpath is the plain walk -/
theorem sl_nat {α : Type} (xs : List α) (a b : Nat) : sl xs (some (a : Int)) (some (b : Int)) = (xs.drop a).take (b - a) := by
  unfold sl bnd
  simp only [show ¬ ((a : Int) < 0) by omega, show ¬ ((b : Int) < 0) by omega, if_false, Int.toNat_natCast]
  by_cases h : a ≤ xs.length
  · rw [Nat.min_eq_left h]
    by_cases h2 : b ≤ xs.length
    · rw [Nat.min_eq_left h2]
    · rw [Nat.min_eq_right (by omega), List.take_of_length_le (by rw [List.length_drop]; omega), List.take_of_length_le (by rw [List.length_drop]; omega)]
  · rw [show min a xs.length = xs.length from Nat.min_eq_right (by omega), List.drop_of_length_le (Nat.le_refl _), List.drop_of_length_le (l := xs) (i := a) (by omega), List.take_nil, List.take_nil]
theorem sl_upto {α : Type} (xs : List α) (b : Nat) : sl xs none (some (b : Int)) = xs.take b := by
  unfold sl bnd
  simp only [show ¬ ((b : Int) < 0) by omega, if_false, List.drop_zero, Nat.sub_zero, Int.toNat_natCast]
  by_cases h2 : b ≤ xs.length
  · rw [Nat.min_eq_left h2]
  · rw [Nat.min_eq_right (by omega), List.take_of_length_le (Nat.le_refl _), List.take_of_length_le (by omega)]
theorem sl_onward {α : Type} (xs : List α) (a : Nat) : sl xs (some (a : Int)) none = xs.drop a := by
  unfold sl bnd
  simp only [show ¬ ((a : Int) < 0) by omega, if_false, Int.toNat_natCast]
  by_cases h : a ≤ xs.length
  · rw [Nat.min_eq_left h, List.take_of_length_le (by rw [List.length_drop]; exact Nat.le_refl _)]
  · rw [Nat.min_eq_right (by omega), List.drop_of_length_le (Nat.le_refl _), List.drop_of_length_le (by omega), List.take_nil]
theorem cut12 (x : Str) : (cut x (some 1) (some 2)).cps.toList = (x.cps.toList.drop 1).take 1 := sl_nat x.cps.toList 1 2
theorem cut23 (x : Str) : (cut x (some 2) (some 3)).cps.toList = (x.cps.toList.drop 2).take 1 := sl_nat x.cps.toList 2 3
theorem cut2_list (x : Str) : (cut x none (some 2)).cps.toList = x.cps.toList.take 2 := sl_upto x.cps.toList 2
theorem cutd2_list (x : Str) : (cut x (some 2) none).cps.toList = x.cps.toList.drop 2 := sl_onward x.cps.toList 2
theorem eq_list {x y : Str} : x = y ↔ x.cps.toList = y.cps.toList := ⟨fun h => by rw [h], str_ext⟩
theorem one_slash {l : List Nat} : l.take 1 = [47] ↔ l.head? = some 47 := by
  cases l with
  | nil => simp
  | cons c r => simp
theorem beq_slash {x : Str} {l : List Nat} (h : x.cps.toList = l.take 1) : (x == slash) = decide (l.head? = some 47) := by
  rw [Bool.eq_iff_iff, beq_iff_eq, decide_eq_true_eq, eq_list, h, slash_list, one_slash]
theorem bne_slash {x : Str} {l : List Nat} (h : x.cps.toList = l.take 1) : (x != slash) = !decide (l.head? = some 47) := by
  show (!(x == slash)) = _
  rw [beq_slash h]
theorem len0 (x : Str) : (x.length != 0) = !(x == "") := by
  have he : Array.toList (Str.cps "") = [] := by decide +kernel
  rw [Bool.eq_iff_iff]
  simp only [bne_iff_ne, ne_eq, Bool.not_eq_true', beq_eq_false_iff_ne]
  rw [eq_list, he, len_toList, List.length_eq_zero_iff]
def rootL (l : List Nat) : Nat := if l.head? = some 47 then (if (l.drop 1).head? = some 47 then (if (l.drop 2).head? = some 47 then 1 else 2) else 1) else 0
/-- what is ahead, and where the rest begins -/
theorem root_eq (x : Str) : (rootF x).1 = aheadF x ∧ ∃ k, (rootF x).2.cps.toList = x.cps.toList.drop k ∧ (∃ r, x.cps.toList = List.replicate k 47 ++ r) := by
  have h1 := bne_slash (cut1_list x)
  have h2 := bne_slash (cut12 x)
  have h2' := beq_slash (cut12 x)
  have h3 := beq_slash (cut23 x)
  have h3' := bne_slash (cut23 x)
  unfold rootF aheadF
  rw [show ("/" : Str) = slash from rfl, h1, h2, h2', h3, h3']
  by_cases c1 : x.cps.toList.head? = some 47
  · rw [decide_eq_true c1]
    obtain ⟨r, hr⟩ : ∃ r, x.cps.toList = 47 :: r := by
      cases hx : x.cps.toList with
      | nil => rw [hx] at c1; cases c1
      | cons c r => rw [hx] at c1; cases c1; exact ⟨r, rfl⟩
    by_cases c2 : (x.cps.toList.drop 1).head? = some 47
    · rw [decide_eq_true c2]
      by_cases c3 : (x.cps.toList.drop 2).head? = some 47
      · rw [decide_eq_true c3]
        exact ⟨rfl, 1, cutd_list x, r, by rw [hr]; rfl⟩
      · rw [decide_eq_false c3]
        rw [hr, List.drop_succ_cons, List.drop_zero] at c2
        obtain ⟨r2, hr2⟩ : ∃ r2, r = 47 :: r2 := by
          cases r with
          | nil => cases c2
          | cons c r2 => cases c2; exact ⟨r2, rfl⟩
        refine ⟨?_, 2, cutd2_list x, r2, by rw [hr, hr2]; rfl⟩
        show cut x none (some 2) = "//"
        apply str_ext
        rw [cut2_list, hr, hr2]
        show [47, 47] = Array.toList (Str.cps "//")
        decide +kernel
    · rw [decide_eq_false c2]
      exact ⟨rfl, 1, cutd_list x, r, by rw [hr]; rfl⟩
  · rw [decide_eq_false c1]
    exact ⟨rfl, 0, rfl, x.cps.toList, rfl⟩
theorem compF_eq {ahead : Str} {acc : List Str} (inv : ahead ≠ "" → (".." : Str) ∉ acc) (c : Str) : compF ahead acc c = plainF ahead acc c := by
  unfold compF plainF
  rw [len0, len0, show (!!(c == "")) = (c == "") from Bool.not_not _, show (!!(ahead == "")) = (ahead == "") from Bool.not_not _, Bool.not_not]
  simp only [Bool.and_true, Bool.or_false]
  by_cases h0 : c = ""
  · subst h0
    have z : (("" : Str) == "..") = false := by decide +kernel
    rw [if_pos (by decide +kernel), z, Bool.false_and, Bool.false_and, if_neg (by decide), if_neg (by decide), if_neg (by decide +kernel)]
  · by_cases h1 : c = "."
    · subst h1
      have z : (("." : Str) == "..") = false := by decide +kernel
      rw [if_pos (by decide +kernel), z, Bool.false_and, Bool.false_and, if_neg (by decide), if_neg (by decide), if_neg (by decide +kernel)]
    · have e0 : (c == "") = false := beq_eq_false_iff_ne.mpr h0
      have e1 : (c == ".") = false := beq_eq_false_iff_ne.mpr h1
      rw [e0, e1, if_neg (by decide)]
      by_cases h2 : c = ".."
      · subst h2
        have e2 : ((".." : Str) == "..") = true := beq_self_eq_true _
        have e3 : ((".." : Str) != "..") = false := by show (!((".." : Str) == "..")) = false; rw [e2]; rfl
        have e4 : (!decide ((".." : Str) ∈ (["", ".", ".."] : List Str))) = false := by simp
        rw [e2, e3, e4, Bool.false_or, Bool.true_and, Bool.true_and]
        by_cases ha : acc = []
        · subst ha
          rw [show (([] : List Str).isEmpty) = true from rfl]
          by_cases hh : ahead = ""
          · subst hh; rfl
          · have : (ahead == "") = false := beq_eq_false_iff_ne.mpr hh
            rw [this]; rfl
        · have ea : acc.isEmpty = false := by cases acc <;> simp_all
          rw [ea]
          simp only [Bool.not_false, Bool.true_and, Bool.and_false, Bool.false_or, if_true]
          by_cases hl : acc.getLast?.getD "" = ".."
          · rw [hl, e2, e3]
            have hm : (".." : Str) ∈ acc := by
              cases q : acc.getLast? with
              | none => exact absurd (List.getLast?_eq_none_iff.mp q) ha
              | some z =>
                rw [q] at hl
                have := List.mem_of_getLast? q
                rw [show z = ".." from hl] at this
                exact this
            have hh : ahead = "" := by
              rcases Classical.em (ahead = "") with q | q
              · exact q
              · exact absurd hm (inv q)
            subst hh
            rfl
          · have e5 : (acc.getLast?.getD "" == "..") = false := beq_eq_false_iff_ne.mpr hl
            have e6 : (acc.getLast?.getD "" != "..") = true := by show (!(acc.getLast?.getD "" == "..")) = true; rw [e5]; rfl
            rw [e5, e6]; rfl
      · have e2 : (c == "..") = false := beq_eq_false_iff_ne.mpr h2
        have e3 : (c != "..") = true := by show (!(c == "..")) = true; rw [e2]; rfl
        have e4 : (!decide (c ∈ (["", ".", ".."] : List Str))) = true := by simp [h0, h1, h2]
        rw [e2, e3, e4]; rfl
theorem plain_inv {ahead : Str} {acc : List Str} (inv : ahead ≠ "" → (".." : Str) ∉ acc) (c : Str) : ahead ≠ "" → (".." : Str) ∉ plainF ahead acc c := by
  intro ha
  have h := inv ha
  unfold plainF
  split
  · exact fun q => h (List.dropLast_subset _ q)
  · split
    · rename_i q
      simp only [Bool.and_eq_true, beq_iff_eq] at q
      exact absurd q.2.1 ha
    · split
      · rename_i q
        intro hm
        rcases List.mem_append.mp hm with hm | hm
        · exact h hm
        · rw [← List.mem_singleton.mp hm] at q
          simp at q
      · exact h
theorem comp_fold (ahead : Str) : ∀ (l : List Str) (acc : List Str), (ahead ≠ "" → (".." : Str) ∉ acc) → l.foldl (compF ahead) acc = l.foldl (plainF ahead) acc
  | [], _, _ => rfl
  | c :: l, acc, inv => by
    rw [List.foldl_cons, List.foldl_cons, compF_eq inv]
    exact comp_fold ahead l _ (plain_inv inv c)
theorem plain_empty (ahead : Str) (acc : List Str) : plainF ahead acc "" = acc := by
  unfold plainF
  have z : (("" : Str) == "..") = false := by decide +kernel
  rw [z, Bool.false_and, Bool.false_and, if_neg (by decide), if_neg (by decide), if_neg (by decide +kernel)]
theorem spl_rep (r : List Nat) : ∀ k, spl (List.replicate k 47 ++ r) = List.replicate k [] ++ spl r
  | 0 => rfl
  | k + 1 => by rw [List.replicate_succ, List.cons_append, spl, if_pos rfl, spl_rep r k]; rfl
theorem plain_rep (ahead : Str) (l : List Str) : ∀ (k : Nat), (List.replicate k (mkS []) ++ l).foldl (plainF ahead) [] = l.foldl (plainF ahead) []
  | 0 => rfl
  | k + 1 => by
    rw [List.replicate_succ, List.cons_append, List.foldl_cons]
    have : plainF ahead [] (mkS []) = [] := plain_empty ahead []
    rw [this, plain_rep ahead l k]
theorem rest_row (x : Str) : (Txt.split (rootF x).2 slash).foldl (compF (rootF x).1) [] = rowF x := by
  obtain ⟨h1, k, h2, r, h3⟩ := root_eq x
  rw [h1, comp_fold _ _ _ (fun _ => List.not_mem_nil)]
  unfold rowF
  rw [show ("/" : Str) = slash from rfl, split_eq, split_eq, h2, h3]
  rw [List.drop_append_of_le_length (by simp), List.drop_of_length_le (by simp), List.nil_append, spl_rep, List.map_append, List.map_replicate, plain_rep]
theorem row_nonempty (x : Str) : ∀ p ∈ rowF x, p ≠ "" := by
  have key : ∀ (l : List Str) (acc : List Str), (∀ p ∈ acc, p ≠ "") → ∀ p ∈ l.foldl (plainF (aheadF x)) acc, p ≠ "" := by
    intro l
    induction l with
    | nil => intro acc h; exact h
    | cons c l ih =>
      intro acc h
      rw [List.foldl_cons]
      refine ih _ fun p hp => ?_
      unfold plainF at hp
      split at hp
      · exact h p (List.dropLast_subset _ hp)
      · split at hp
        · rcases List.mem_append.mp hp with hp | hp
          · exact h p hp
          · rw [List.mem_singleton.mp hp]; decide +kernel
        · split at hp
          · rename_i q
            rcases List.mem_append.mp hp with hp | hp
            · exact h p hp
            · rw [List.mem_singleton.mp hp]
              intro e
              rw [e] at q; simp at q
          · exact h p hp
  exact key _ [] fun _ h => nomatch h
theorem empty_list : Array.toList (Str.cps "") = [] := by decide +kernel
theorem join_nil {ps : List Str} (hne : ps ≠ []) (h : ∀ p ∈ ps, p ≠ "") : (Txt.join slash ps).length ≠ 0 := by
  rw [len_toList, join_list]
  intro q
  rw [List.length_eq_zero_iff] at q
  cases ps with
  | nil => exact hne rfl
  | cons p r =>
    have hp := h p (.head _)
    have hpl : p.cps.toList ≠ [] := fun e => hp (str_ext (by rw [e, empty_list]))
    cases r with
    | nil => exact hpl q
    | cons s r => simp [joinL] at q
theorem norm_eq (x : Str) : normF x = strF x := by
  unfold normF strF
  rw [show ("/" : Str) = slash from rfl, rest_row, (root_eq x).1, len0, show (!!(x == "")) = (x == "") from Bool.not_not _]
  simp only [Bool.or_false]
  by_cases hx : x = ""
  · subst hx
    rw [if_pos (by decide +kernel), if_neg]
    have e1 : aheadF "" = "" := by decide +kernel
    have e2 : rowF "" = [] := by decide +kernel
    rw [e1, e2]; decide +kernel
  · rw [if_neg (by simpa using hx)]
    have hlen : ((aheadF x ++ Txt.join slash (rowF x)).length != 0) = ((aheadF x != "") || !(rowF x).isEmpty) := by
      rw [Str.length_append]
      by_cases ha : aheadF x = ""
      · rw [ha]
        have e0 : Str.length "" = 0 := by decide +kernel
        rw [e0, Nat.zero_add, show (("" : Str) != "") = false by decide +kernel, Bool.false_or]
        cases hr : rowF x with
        | nil =>
          show ((Txt.join slash []).length != 0) = false
          decide +kernel
        | cons p r =>
          have := join_nil (ps := rowF x) (by rw [hr]; simp) (row_nonempty x)
          rw [hr] at this
          show ((Txt.join slash (p :: r)).length != 0) = true
          simpa using this
      · have e1 : (aheadF x != "") = true := by simpa using ha
        rw [e1, Bool.true_or]
        have : (aheadF x).length ≠ 0 := fun q => ha (str_ext (by rw [empty_list]; exact List.length_eq_zero_iff.mp q))
        have h2 : (aheadF x).length + (Txt.join slash (rowF x)).length ≠ 0 := by omega
        simpa using h2
    rw [hlen]
end Mine
end -- W44

section -- W45
open PySem PySem.W PyProof.Rows PySem.Calls PySem.Spec
open PySem.StrLaws PySem.Builtin PySem.Builtin.Str
set_option maxRecDepth 100000
set_option maxHeartbeats 1000000
namespace Mine
/-! ## split, dirname, basename part a way at its last slash -/
def rsL (l : List Nat) : List Nat := (l.reverse.dropWhile (· == 47)).reverse
theorem rsL_slash (l : List Nat) : rsL (l ++ [47]) = rsL l := by
  unfold rsL
  rw [List.reverse_append, List.reverse_singleton, List.singleton_append, List.dropWhile_cons, if_pos (by rfl)]
theorem rsL_other (l : List Nat) {c : Nat} (h : c ≠ 47) : rsL (l ++ [c]) = l ++ [c] := by
  unfold rsL
  rw [List.reverse_append, List.reverse_singleton, List.singleton_append, List.dropWhile_cons, if_neg (by simpa using h), List.reverse_cons, List.reverse_reverse]
theorem rsL_mem {l : List Nat} {c : Nat} (h : c ∈ rsL l) : c ∈ l := by
  unfold rsL at h
  rw [List.mem_reverse] at h
  exact List.mem_reverse.mp ((List.dropWhile_sublist _).subset h)
theorem slash_has (c : Nat) : slash.cps.contains c = (c == 47) := by
  have : slash.cps = #[47] := congrArg Str.cps slash_eq
  rw [this, Bool.eq_iff_iff]
  simp
theorem rstrip_list (x : Str) : (Txt.rstripChars x slash).cps.toList = rsL x.cps.toList := by
  unfold Txt.rstripChars
  rw [PySem.W.stripBy_eq]
  unfold W.stripped
  simp only [if_true, Bool.false_eq_true, if_false]
  rw [strSub_toList, List.drop_zero, Nat.sub_zero, len_toList]
  have e : slash.cps.contains = fun c => c == 47 := funext slash_has
  rw [e]
  generalize x.cps.toList = l
  unfold rsL
  have h1 := List.takeWhile_append_dropWhile (p := fun c : Nat => c == 47) (l := l.reverse)
  have h2 : l = (l.reverse.dropWhile fun c : Nat => c == 47).reverse ++ (l.reverse.takeWhile fun c : Nat => c == 47).reverse := by
    conv => lhs; rw [← List.reverse_reverse l, ← h1, List.reverse_append]
  have h3 : l.length = (l.reverse.dropWhile fun c : Nat => c == 47).length + (l.reverse.takeWhile fun c : Nat => c == 47).length := by
    conv => lhs; rw [h2]
    rw [List.length_append, List.length_reverse, List.length_reverse]
  have h4 : l.length - (l.reverse.takeWhile fun c : Nat => c == 47).length = (l.reverse.dropWhile fun c : Nat => c == 47).reverse.length := by rw [List.length_reverse]; omega
  rw [h4]
  conv => lhs; arg 2; rw [h2]
  exact List.take_left
theorem joinL_snoc : ∀ (init : List (List Nat)) (p : List Nat), init ≠ [] → joinL (init ++ [p]) = joinL init ++ 47 :: p
  | [], _, h => absurd rfl h
  | [a], p, _ => rfl
  | a :: b :: r, p, _ => by
    have ih := joinL_snoc (b :: r) p (by simp)
    rw [List.cons_append] at ih
    rw [List.cons_append, List.cons_append, joinL, ih, joinL, List.append_assoc, List.cons_append]
theorem spl_mid : ∀ (pre post : List Nat), spl (pre ++ 47 :: post) = spl pre ++ spl post
  | [], post => by simp [spl]
  | c :: pre, post => by
    have ih := spl_mid pre post
    rw [List.cons_append, spl, ih]
    conv => rhs; rw [spl]
    split
    · rfl
    · cases hp : spl pre with
      | nil => exact absurd hp (spl_ne pre)
      | cons a t => rfl
theorem stripE_spec : ∀ (k : Nat) (ks : List Str), ks.length ≤ k → (∀ p ∈ ks, 47 ∉ p.cps.toList) → rsL (joinL (lsS ks) ++ [47]) = joinL (lsS (stripE k ks)) ∧ (stripE k ks = [] → ∀ p ∈ ks, p = "") ∧ (stripE k ks ≠ [] → ∃ p ∈ ks, p ≠ "")
  | 0, ks, hk, _ => by
    have : ks = [] := List.length_eq_zero_iff.mp (by omega)
    subst this
    exact ⟨rfl, (fun _ _ h => by cases h), fun h => absurd rfl h⟩
  | k + 1, ks, hk, hf => by
    rcases Classical.em (ks = []) with he | he
    · subst he
      rw [stripE, if_neg (by decide)]
      exact ⟨rfl, (fun _ _ h => by cases h), fun h => absurd rfl h⟩
    · have hs := List.dropLast_concat_getLast he
      have hl : ks.getLast?.getD "" = ks.getLast he := by rw [List.getLast?_eq_some_getLast he]; rfl
      have hie : ks.isEmpty = false := by cases ks <;> simp_all
      rw [stripE, hl, hie, Bool.not_false, Bool.true_and, Bool.and_true]
      by_cases hq : ks.getLast he = ""
      · rw [if_pos (by rw [hq]; decide +kernel)]
        obtain ⟨i1, i2, i3⟩ := stripE_spec k ks.dropLast (by rw [List.length_dropLast]; omega) fun p hp => hf p (List.dropLast_subset _ hp)
        refine ⟨?_, fun h p hp => ?_, fun h => ?_⟩
        · rw [← i1]
          have e : lsS ks = lsS ks.dropLast ++ [[]] := by
            conv => lhs; rw [← hs, hq]
            unfold lsS
            rw [List.map_append, List.map_singleton, empty_list]
          rw [e]
          cases hd : lsS ks.dropLast with
          | nil => rfl
          | cons a r =>
            rw [joinL_snoc _ _ (by simp), rsL_slash]
        · rw [← hs] at hp
          rcases List.mem_append.mp hp with hp | hp
          · exact i2 h p hp
          · rw [List.mem_singleton.mp hp, hq]
        · obtain ⟨p, h1, h2⟩ := i3 h
          exact ⟨p, List.dropLast_subset _ h1, h2⟩
      · rw [if_neg (by simpa using hq)]
        refine ⟨?_, fun h => absurd h he, fun _ => ⟨_, List.getLast_mem he, hq⟩⟩
        rw [rsL_slash]
        have hne : (ks.getLast he).cps.toList ≠ [] := fun q => hq (str_ext (by rw [q, empty_list]))
        have hc := List.dropLast_concat_getLast hne
        have hc47 : (ks.getLast he).cps.toList.getLast hne ≠ 47 := fun q => hf _ (List.getLast_mem he) (q ▸ List.getLast_mem hne)
        have e : ∃ m, joinL (lsS ks) = m ++ [(ks.getLast he).cps.toList.getLast hne] := by
          have e1 : lsS ks = lsS ks.dropLast ++ [(ks.getLast he).cps.toList] := by
            conv => lhs; rw [← hs]
            unfold lsS
            rw [List.map_append, List.map_singleton]
          rw [e1]
          cases hd : lsS ks.dropLast with
          | nil => exact ⟨_, hc.symm⟩
          | cons a r =>
            rw [joinL_snoc _ _ (by simp)]
            exact ⟨joinL (a :: r) ++ 47 :: (ks.getLast he).cps.toList.dropLast, by rw [List.append_assoc, List.cons_append, hc]⟩
        obtain ⟨m, e⟩ := e
        rw [e, rsL_other m hc47]
theorem at_slash {x : Str} {i : Nat} : At x slash x.length i ↔ x.cps.toList[i]? = some 47 := by
  unfold At
  rw [slash_eq]
  exact subAt_one x 47 i
theorem foldl_rep (a : Array Nat) : ∀ (n : Nat) (acc : Array Nat), ((List.replicate n a).foldl (· ++ ·) acc).toList = acc.toList ++ (List.replicate n a.toList).flatten
  | 0, acc => by simp
  | n + 1, acc => by
    rw [List.replicate_succ, List.foldl_cons, foldl_rep a n, List.replicate_succ, List.flatten_cons, Array.toList_append, List.append_assoc]
theorem flat_rep : ∀ n : Nat, (List.replicate n [47]).flatten = List.replicate n 47
  | 0 => rfl
  | n + 1 => by rw [List.replicate_succ, List.flatten_cons, flat_rep n, List.replicate_succ]; rfl
theorem mul_list (n : Nat) : (Txt.mul slash (n : Int)).cps.toList = List.replicate n 47 := by
  unfold Txt.mul
  by_cases h : (n : Int) < 1
  · rw [if_pos h]
    have : n = 0 := by omega
    subst this
    rfl
  · rw [if_neg h]
    by_cases h1 : n = 1
    · subst h1
      rw [if_pos (by rfl)]; exact slash_list
    · rw [if_neg (by
        rw [slash_len]
        have : ((n : Int) == 1) = false := beq_eq_false_iff_ne.mpr (by omega)
        rw [this]; decide)]
      show ((List.replicate (n : Int).toNat slash.cps).foldl (· ++ ·) #[]).toList = _
      rw [foldl_rep, slash_list, Int.toNat_natCast, flat_rep]; rfl
theorem part_eq (x : Str) : partF x = (dirF x, baseF x) := by
  have hsp := split_eq x
  rcases last_spec x slash with ⟨h1, h2⟩ | ⟨i, h1, h2, h3⟩
  · have hrf : Txt.rfind x slash + 1 = ((0 : Nat) : Int) := by unfold Txt.rfind; rw [h1]; rfl
    have hfree : 47 ∉ x.cps.toList := fun hm => by
      obtain ⟨j, hj⟩ := List.getElem?_of_mem hm
      exact h2 j (at_slash.mpr hj)
    rw [spl_free _ hfree, List.map_singleton, mk_list] at hsp
    have hh : headF x = "" := by
      apply str_ext
      unfold headF
      rw [show ("/" : Str) = slash from rfl, hrf, empty_list]
      exact sl_upto x.cps.toList 0
    have hd : dirF x = "" := by
      unfold dirF
      rw [hh, if_neg]
      have : Str.length "" = 0 := by decide +kernel
      rw [this]; decide
    have hb : baseF x = x := by
      apply str_ext
      unfold baseF
      rw [show ("/" : Str) = slash from rfl, hrf]
      exact sl_onward x.cps.toList 0
    rw [hd, hb]
    unfold partF keptF
    rw [show ("/" : Str) = slash from rfl, hsp]
    show (if (!([] : List Str).isEmpty) = true then _ else Txt.mul slash _, x) = _
    rw [if_neg (by decide)]
    refine congrArg (fun z => (z, x)) (str_ext ?_)
    rw [empty_list]
    exact mul_list 0
  · have hrf : Txt.rfind x slash + 1 = ((i + 1 : Nat) : Int) := by unfold Txt.rfind; rw [h1]; rfl
    have hi := at_slash.mp h2
    obtain ⟨hlt, hg⟩ := List.getElem?_eq_some_iff.mp hi
    generalize hpre : x.cps.toList.take i = pre
    generalize hpost : x.cps.toList.drop (i + 1) = post
    have hx : x.cps.toList = pre ++ 47 :: post := by
      have := List.take_append_drop i x.cps.toList
      rw [List.drop_eq_getElem_cons hlt, hg, hpre, hpost] at this
      exact this.symm
    have hpl : pre.length = i := by rw [← hpre, List.length_take]; omega
    have hfree : 47 ∉ post := fun hm => by
      obtain ⟨j, hj⟩ := List.getElem?_of_mem hm
      rw [← hpost, List.getElem?_drop] at hj
      exact h3 (i + 1 + j) (by omega) (at_slash.mpr hj)
    rw [hx, spl_mid, spl_free _ hfree, List.map_append, List.map_singleton] at hsp
    have hh : (headF x).cps.toList = pre ++ [47] := by
      unfold headF
      rw [show ("/" : Str) = slash from rfl, hrf]
      show sl x.cps.toList none (some ((i + 1 : Nat) : Int)) = _
      rw [sl_upto, hx, show pre ++ 47 :: post = (pre ++ [47]) ++ post by simp]
      exact List.take_left' (by simp [hpl])
    have hb : baseF x = mkS post := by
      apply str_ext
      unfold baseF
      rw [show ("/" : Str) = slash from rfl, hrf]
      show sl x.cps.toList (some ((i + 1 : Nat) : Int)) none = _
      rw [sl_onward, hpost]
    have hdl : (Txt.split x slash).dropLast = (spl pre).map mkS := by rw [hsp]; exact List.dropLast_concat
    have hln : (Txt.split x slash).length = (spl pre).length + 1 := by rw [hsp]; simp
    have hgl : (Txt.split x slash).getLast?.getD "" = mkS post := by rw [hsp]; simp
    have hls : lsS ((spl pre).map mkS) = spl pre := by
      unfold lsS
      rw [List.map_map]
      exact List.map_id _
    obtain ⟨s1, s2, s3⟩ := stripE_spec ((spl pre).map mkS).length ((spl pre).map mkS) (Nat.le_refl _) (fun p hp => by
      obtain ⟨q, hq, rfl⟩ := List.mem_map.mp hp
      exact spl_free_mem pre q hq)
    have hjp : joinL (spl pre) = pre := by
      have hj := join_split (mkS pre) slash
      have h4 : joinL (lsS (Txt.split (mkS pre) slash)) = pre := by unfold lsS; rw [← sjoin_list, hj]
      rw [split_eq, show (mkS pre).cps.toList = pre from rfl, hls] at h4
      exact h4
    rw [hls, hjp] at s1
    have hk : keptF x = stripE ((spl pre).map mkS).length ((spl pre).map mkS) := by
      unfold keptF
      rw [show ("/" : Str) = slash from rfl, hdl]
    rw [← hk] at s1 s2 s3
    have hlen : (headF x).length = i + 1 := by rw [len_toList, hh]; simp [hpl]
    have hmul : (Txt.mul slash ((headF x).length : Int)).cps.toList = List.replicate (i + 1) 47 := by rw [mul_list, hlen]
    unfold partF
    rw [show ("/" : Str) = slash from rfl, hgl, hb]
    congr 1
    unfold dirF
    rw [show ("/" : Str) = slash from rfl]
    have h0 : ((headF x).length != 0) = true := by rw [hlen]; simp
    rw [h0, Bool.true_and, Bool.and_true]
    rcases Classical.em (keptF x = []) with he | he
    · have hall := s2 he
      have hrep : ∀ q ∈ spl pre, q = [] := fun q hq => by
        have := hall (mkS q) (List.mem_map_of_mem hq)
        have := congrArg (fun z : Str => z.cps.toList) this
        exact this.trans empty_list
      have hpr : pre = List.replicate ((spl pre).length - 1) 47 ∧ 1 ≤ (spl pre).length := by
        have key : ∀ ls : List (List Nat), (∀ q ∈ ls, q = []) → ls ≠ [] → joinL ls = List.replicate (ls.length - 1) 47 ∧ 1 ≤ ls.length := by
          intro ls
          induction ls with
          | nil => intro _ h; exact absurd rfl h
          | cons a r ih =>
            intro h _
            have ha := h a (.head _)
            subst ha
            cases r with
            | nil => exact ⟨rfl, Nat.le_refl _⟩
            | cons b r =>
              obtain ⟨j1, j2⟩ := ih (fun q hq => h q (.tail _ hq)) (by simp)
              refine ⟨?_, by simp⟩
              rw [joinL, j1, List.nil_append]
              show 47 :: List.replicate ((b :: r).length - 1) 47 = List.replicate ((b :: r).length + 1 - 1) 47
              have : (b :: r).length + 1 - 1 = ((b :: r).length - 1) + 1 := by simp
              rw [this, List.replicate_succ]
        have := key (spl pre) hrep (spl_ne pre)
        rw [hjp] at this
        exact this
      have hnum : (spl pre).length = i + 1 := by
        have := congrArg List.length hpr.1
        rw [List.length_replicate, hpl] at this
        have := hpr.2
        omega
      have heq : headF x = Txt.mul slash ((headF x).length : Int) := by
        apply str_ext
        rw [hmul, hh, hpr.1, hnum]
        show List.replicate i 47 ++ [47] = _
        rw [List.replicate_succ']
      have hneq : (headF x != Txt.mul slash ((headF x).length : Int)) = false := by
        show (!(headF x == _)) = false
        rw [← heq]; simp
      rw [hneq, he, if_neg (by decide), if_neg (by decide), hln]
      apply str_ext
      have : (((spl pre).length + 1 : Nat) : Int) - 1 = ((i + 1 : Nat) : Int) := by omega
      rw [this, mul_list, ← hmul, ← heq]
    · have hne : (headF x != Txt.mul slash ((headF x).length : Int)) = true := by
        obtain ⟨p, hp1, hp2⟩ := s3 he
        obtain ⟨q, hq, rfl⟩ := List.mem_map.mp hp1
        rw [bne_iff_ne]
        intro heq
        have h5 := congrArg (fun z : Str => z.cps.toList) heq
        simp only [hmul, hh] at h5
        have hpm : ∀ c ∈ pre, c = 47 := fun c hc => by
          have : c ∈ pre ++ [47] := List.mem_append_left _ hc
          rw [h5] at this
          exact List.eq_of_mem_replicate this
        have hq47 := spl_free_mem pre q hq
        have hqe : q = [] := by
          cases q with
          | nil => rfl
          | cons c r =>
            exfalso
            have hin : c ∈ pre := by
              have key : ∀ (ls : List (List Nat)) (q : List Nat) (c : Nat), q ∈ ls → c ∈ q → c ∈ joinL ls := by
                intro ls
                induction ls with
                | nil => intro q c h; cases h
                | cons a t ih =>
                  intro q c h hc
                  cases t with
                  | nil => rw [List.mem_singleton.mp h] at hc; exact hc
                  | cons b t =>
                    rw [joinL]
                    rcases List.mem_cons.mp h with h | h
                    · rw [h] at hc; exact List.mem_append_left _ hc
                    · exact List.mem_append_right _ (.tail _ (ih q c h hc))
              have := key (spl pre) (c :: r) c hq (.head _)
              rw [hjp] at this
              exact this
            exact hq47 (hpm c hin ▸ .head _)
        exact hp2 (str_ext (by rw [hqe, empty_list]))
      have hie : (keptF x).isEmpty = false := by cases hkk : keptF x <;> simp_all
      rw [hne, if_pos rfl, hie, if_pos (by rfl)]
      apply str_ext
      rw [join_list, rstrip_list, hh, s1]
end Mine
end -- W45

section -- W39
open PySem PySem.W PyProof.Rows PySem.Calls PySem.Spec
set_option maxRecDepth 100000
set_option maxHeartbeats 1000000
namespace Mine
def ms0 : List Str := ["../.c/../a", "../..", "/../b//a", ""]
def ms1 : List Str := [".//../a", "//", "/b/a/./z/", ".c"]
def partsD : List Dat := [.str "a", .str "..", .str ".", .str "", .str "b", .str ".c"]
theorem pt_at (l : Nat) : at? partsD ((l % 6 : Nat) : Int) = some (.str (ptF l)) := by
  have h : l % 6 < 6 := Nat.mod_lt _ (by decide)
  refine at_nat ?_ (by decide)
  unfold ptF
  generalize l % 6 = k at h
  match k, h with
  | 0, _ => rfl
  | 1, _ => rfl
  | 2, _ => rfl
  | 3, _ => rfl
  | 4, _ => rfl
  | 5, _ => rfl
def preF (l : Nat) : List Str := if l % 2 = 1 then [("" : Str)] else []
theorem row_eq (l : Nat) : rowN l = preF l ++ (ptF l :: dgF 5 l) := rfl
theorem dgF_len : ∀ (f l : Nat), (dgF f l).length ≤ f
  | 0, _ => Nat.le_refl _
  | f + 1, l => by
    rw [dgF]
    split
    · have := dgF_len f (l / 6)
      rw [List.length_cons]; omega
    · exact Nat.zero_le _
theorem rowN_len (l : Nat) : (rowN l).length ≤ 7 := by
  rw [row_eq, List.length_append, List.length_cons]
  have := dgF_len 5 l
  have : (preF l).length ≤ 1 := by unfold preF; split <;> simp
  omega
def whD (x : Int) : List Dat := if x.fmod 3 = 0 then [.int 0] else if x.fmod 3 = 1 then [.int 1] else [.int 0, .int 1]
theorem wh_at (x : Int) : at? ([.list [.int 0], .list [.int 1], .list [.int 0, .int 1]] : List Dat) (x.fmod 3) = some (.list (whD x)) := by
  have h1 : 0 ≤ x.fmod 3 := Int.fmod_nonneg_of_pos _ (by decide)
  have h2 : x.fmod 3 < 3 := Int.fmod_lt_of_pos _ (by decide)
  unfold whD
  have : x.fmod 3 = 0 ∨ x.fmod 3 = 1 ∨ x.fmod 3 = 2 := by omega
  rcases this with e | e | e <;> rw [e] <;> rfl
/-- the state between the numbers -/
def mlB (ns : List Int) (X : List Addr) (a0 a1 : Addr) : St := ((⟨σ0 ["numbers"] [.list (ns.map Dat.int)], fun _ => none, [], true, X⟩ : St).set "parts" (.dat (.list partsD))).set "mails" (.refs [a0, a1])
def mlT (ns : List Int) (X : List Addr) (a0 a1 : Addr) (i : Nat) : St := { mlB ns X a0 a1 with led := [(a1, (m1F (ns.take i)).map Dat.str), (a0, (m0F (ns.take i)).map Dat.str)] }
theorem m0_step {ns : List Int} {i : Nat} {x : Int} (h : ns[i]? = some x) : m0F (ns.take (i + 1)) = m0F (ns.take i) ++ if x.fmod 3 = 1 then [] else [wayN (numF x)] := by
  unfold m0F
  rw [List.take_add_one, h, List.filter_append, List.map_append, List.append_assoc]
  congr 1; congr 1
  by_cases q : x.fmod 3 = 1
  · simp [q]
  · simp [q]
theorem m1_step {ns : List Int} {i : Nat} {x : Int} (h : ns[i]? = some x) : m1F (ns.take (i + 1)) = m1F (ns.take i) ++ if x.fmod 3 = 0 then [] else [wayN (numF x)] := by
  unfold m1F
  rw [List.take_add_one, h, List.filter_append, List.map_append, List.append_assoc]
  congr 1; congr 1
  by_cases q : x.fmod 3 = 0
  · simp [q]
  · simp [q]
theorem m0_len (ns : List Int) : (m0F ns).length ≤ 4 + ns.length := by
  unfold m0F
  rw [List.length_append, List.length_map]
  have := List.length_filter_le (fun x : Int => x.fmod 3 != 1) ns
  show 4 + _ ≤ _
  omega
theorem m1_len (ns : List Int) : (m1F ns).length ≤ 4 + ns.length := by
  unfold m1F
  rw [List.length_append, List.length_map]
  have := List.length_filter_le (fun x : Int => x.fmod 3 != 0) ns
  show 4 + _ ≤ _
  omega
theorem num_lt (x : Int) : numF x < 1296 := Nat.mod_lt _ (by decide)
def partB (p : Str) : Bool := decide (p.length ≤ 2) && (PyData.strOk p && p.cps.toList.all fun c => !nl c)
theorem ptF_part (l : Nat) : partB (ptF l) = true := by
  have h : l % 6 < 6 := Nat.mod_lt _ (by decide)
  unfold ptF
  generalize l % 6 = k at h
  match k, h with
  | 0, _ => decide +kernel
  | 1, _ => decide +kernel
  | 2, _ => decide +kernel
  | 3, _ => decide +kernel
  | 4, _ => decide +kernel
  | 5, _ => decide +kernel
theorem dgF_part : ∀ (f l : Nat), ∀ p ∈ dgF f l, partB p = true
  | 0, _, p, h => nomatch h
  | f + 1, l, p, h => by
    rw [dgF] at h
    split at h
    · rcases List.mem_cons.mp h with q | q
      · rw [q]; exact ptF_part _
      · exact dgF_part f _ p q
    · cases h
theorem row_part (l : Nat) : ∀ p ∈ rowN l, partB p = true := by
  intro p hp
  rw [row_eq] at hp
  rcases List.mem_append.mp hp with hp | hp
  · unfold preF at hp
    split at hp
    · rw [List.mem_singleton.mp hp]; decide +kernel
    · cases hp
  · rcases List.mem_cons.mp hp with q | q
    · rw [q]; exact ptF_part _
    · exact dgF_part _ _ p q
theorem wt_parts : ∀ ps : List Str, (∀ p ∈ ps, p.length ≤ 2) → wtS ps ≤ 3 * ps.length
  | [], _ => Nat.le_refl _
  | p :: r, h => by
    have e : wtS (p :: r) = p.length + 1 + wtS r := rfl
    have h1 := h p (.head _)
    have h2 := wt_parts r fun q hq => h q (.tail _ hq)
    rw [e, List.length_cons]; omega
theorem row_wt21 (l : Nat) : wtS (rowN l) ≤ 21 := by
  have h1 := wt_parts (rowN l) fun p hp => by
    have := row_part l p hp
    unfold partB at this
    rw [Bool.and_eq_true, decide_eq_true_eq] at this
    exact this.1
  have := rowN_len l
  omega
theorem way_fine (l : Nat) : (wayN l).length ≤ 100 ∧ PyData.strOk (wayN l) = true ∧ ∀ c ∈ (wayN l).cps.toList, nl c = false := by
  refine ⟨Nat.le_trans (join_len (rowN l)) (Nat.le_trans (row_wt21 l) (by decide)), strOk_join fun p hp => ?_, fun c hc => ?_⟩
  · have := row_part l p hp
    unfold partB at this
    rw [Bool.and_eq_true, Bool.and_eq_true] at this
    exact this.2.1
  · unfold wayN at hc
    rw [show ("/" : Str) = slash from rfl, join_list] at hc
    rcases joinL_mem _ c hc with q | ⟨m, h1, h2⟩
    · rw [q]; decide
    · obtain ⟨p, hp, rfl⟩ := List.mem_map.mp h1
      have := row_part l p hp
      unfold partB at this
      rw [Bool.and_eq_true, Bool.and_eq_true, List.all_eq_true] at this
      simpa using this.2.2 c h2
theorem row_fine (l : Nat) : ((rowN l).map (·.length)).sum + (rowN l).length * (Str.length "/") ≤ 1000 := by
  have h1 := wtS_sum (rowN l)
  have h2 := row_wt21 l
  rw [show ("/" : Str) = slash from rfl, slash_len]; omega
/-- the ways that the mail k gets from the places -/
def cnt (w : Str) (k : Int) (ds : List Dat) : List Str := ds.filterMap fun d => match d with | .int y => if y = k then some w else none | _ => none
theorem cnt0 (w : Str) (x : Int) : cnt w 0 (whD x) = if x.fmod 3 = 1 then [] else [w] := by
  unfold whD
  by_cases h0 : x.fmod 3 = 0
  · rw [if_pos h0, h0]; rfl
  · rw [if_neg h0]
    by_cases h1 : x.fmod 3 = 1
    · rw [if_pos h1, if_pos h1]; rfl
    · rw [if_neg h1, if_neg h1]; rfl
theorem cnt1 (w : Str) (x : Int) : cnt w 1 (whD x) = if x.fmod 3 = 0 then [] else [w] := by
  unfold whD
  by_cases h0 : x.fmod 3 = 0
  · rw [if_pos h0, if_pos h0]; rfl
  · rw [if_neg h0, if_neg h0]
    by_cases h1 : x.fmod 3 = 1
    · rw [if_pos h1]; rfl
    · rw [if_neg h1]; rfl
theorem cnt_step {w : Str} {k : Int} {ds : List Dat} {j : Nat} {d : Dat} (h : ds[j]? = some d) : cnt w k (ds.take (j + 1)) = cnt w k (ds.take j) ++ cnt w k [d] := by
  unfold cnt
  rw [List.take_add_one, h, List.filterMap_append]; rfl
theorem cnt_len (w : Str) (k : Int) (ds : List Dat) : (cnt w k ds).length ≤ ds.length := List.length_filterMap_le _ _
theorem wh_len (x : Int) : (whD x).length ≤ 2 := by unfold whD; split <;> (try split) <;> simp
theorem wh_mem {x : Int} {j : Nat} {d : Dat} (h : (whD x)[j]? = some d) : d = .int 0 ∨ d = .int 1 := by
  have := List.mem_of_getElem? h
  unfold whD at this
  split at this
  · exact .inl (List.mem_singleton.mp this)
  · split at this
    · exact .inr (List.mem_singleton.mp this)
    · rcases List.mem_cons.mp this with q | q
      · exact .inl q
      · exact .inr (List.mem_singleton.mp q)
/-- the state while the figures are laid -/
def mlW (ns : List Int) (X : List Addr) (a0 a1 ar : Addr) (i : Nat) (x : Int) (c : Nat) (acc : List Str) : St :=
  { (((mlB ns X a0 a1).set "x" (.dat (.int x))).set "left" (.dat (.int (c : Int)))).set "row" (.raw (.ref ar)) with led := (ar, acc.map Dat.str) :: (mlT ns X a0 a1 i).led }
/-- the state while the way is laid in the mails -/
def mlI (ns : List Int) (X : List Addr) (a0 a1 : Addr) (i : Nat) (x : Int) (c l : Nat) (j : Nat) : St :=
  { (((mlB ns X a0 a1).set "x" (.dat (.int x))).set "left" (.dat (.int (c : Int)))).set "row" (.dat (.list ((rowN l).map Dat.str))) with led := [(a1, (m1F (ns.take i) ++ cnt (wayN l) 1 ((whD x).take j)).map Dat.str), (a0, (m0F (ns.take i) ++ cnt (wayN l) 0 ((whD x).take j)).map Dat.str)] }
section
variable {C : Cx} (hK : C.K = hd.heap_39 C.w.params)
include hK
theorem fn_mails {ns : List Int} (hn : ns.length ≤ 6) : Fn C 1 198 [.list (ns.map Dat.int)] (.list [.list ((m0F ns).map Dat.str), .list ((m1F ns).map Dat.str)]) := by
  refine fn_of (names := ["numbers"]) (o_law_mails hK) (d_law_mails _) (b_law_mails _) (c_law_mails hK) rfl rfl rfl (fun vs hv => ?_) rfl (fun L X => ?_) rfl rfl rfl
  · match vs, hv with
    | [a], _ => exact h_law_mails _ a
  refine @SEx.out _ _ _ _ _ _ ?_
  refine sx_cons (sx_assign (s_list (s_cons s_str (s_cons s_str (s_cons s_str (s_cons s_str (s_cons s_str (s_cons s_str s_nil))))))) ?_)
  refine sx_cons ?_
  refine sx_assign_refs (ds1 := ms0.map Dat.str) (ds2 := ms1.map Dat.str) ?h1 ?h2 ?h3 ?h4 ?h5
  case h3 => exact Nat.le_of_ble_eq_true rfl
  case h4 => exact Nat.le_of_ble_eq_true rfl
  case h1 => exact s_cons s_str (s_cons s_str (s_cons s_str (s_cons s_str s_nil)))
  case h2 => exact fun τ' => s_cons s_str (s_cons s_str (s_cons s_str (s_cons s_str s_nil)))
  intro a0 a1
  refine sx_cons (sx_for2 (mlT ns X a0 a1) (si_list (s_local rfl)) ⟨fun _ _ q => q, fun _ _ q => q, rfl, rfl, rfl⟩ (fun i d hi => ?_) fun τ' hτ => ?_)
  · obtain ⟨x, hx, rfl⟩ : ∃ x, ns[i]? = some x ∧ d = .int x := by
      rw [List.getElem?_map] at hi
      cases q : ns[i]? with
      | none => rw [q] at hi; cases hi
      | some x => rw [q] at hi; cases hi; exact ⟨x, rfl, rfl⟩
    have hlt : i < ns.length := (List.getElem?_eq_some_iff.mp hx).1
    have hl := num_lt x
    refine sx_cons (sx_assign (en := .dat (.int ((numF x : Nat) : Int))) ?hleft ?_)
    case hleft =>
      rw [← num_eq]
      exact s_bin (s_abs (s_boot (g_abs hK) v_abs) (s_bin (s_local rfl) s_int (op_fdiv_int (by decide) (PyProof.noPylong_small (by decide))))) s_int (op_mod_int (by decide))
    generalize hlv : numF x = l at hl ⊢
    refine sx_cons (sx_assign_own (ds := (preF l).map Dat.str) (sn_if (c := decide (l % 2 = 1)) ?ht (fun hc => ?ha) fun hc => ?hb) fun ar => ?_)
    case ht =>
      have e : (((l % 2 : Nat) : Int) == 1) = decide (l % 2 = 1) := by
        rw [Bool.eq_iff_iff, beq_iff_eq, decide_eq_true_eq]; omega
      rw [← e, ← fmod_nat]
      exact st_cmp (s_bin (s_local rfl) s_int (op_mod_int (by decide))) s_int op_eq_int
    case ha =>
      have e : preF l = [("" : Str)] := if_pos (of_decide_eq_true hc)
      rw [e]; exact sn_list (s_cons s_str s_nil)
    case hb =>
      have e : preF l = [] := if_neg (of_decide_eq_false hc)
      rw [e]; exact sn_list s_nil
    have hpart : ∀ (c : Nat) (τ : St), τ.σ "parts" = some (.dat (.list partsD)) → τ.σ "left" = some (.dat (.int (c : Int))) → ∀ {p1 p2 p3 p4 p5 : Pos} {k : Nat}, SEv C 1 (callEnv (fdOf 198 C.w.params) L 198) τ (.Subscript (.Name "parts" p1) (.BinOp (.Name "left" p2) .Mod (.Constant (.int 6) k p3) p4) p5) (.dat (.str (ptF c))) := by
      intro c τ h1 h2 p1 p2 p3 p4 p5 k
      refine s_item_list (s_local h1) (k := ((c % 6 : Nat) : Int)) ?_ (pt_at c)
      rw [← fmod_nat]
      exact s_bin (s_local h2) s_int (op_mod_int (by decide))
    have hpre : (preF l).length ≤ 1 := by unfold preF; split <;> simp
    refine sx_cons (sx_append (a := ar) (d := .str (ptF l)) (xs := (preF l).map Dat.str) (l1 := []) (l2 := (mlT ns X a0 a1 i).led) (s_local rfl) (hpart l _ rfl rfl) rfl (by rw [List.length_map]; omega) ?_)
    refine sx_cons (sx_while (fun m τ' => ∃ c acc f, m = c ∧ acc ++ dgF f c = rowN l ∧ c < 6 ^ (f + 1) ∧ Ext (mlW ns X a0 a1 ar i x c acc) τ') l ?hJ0 fun c τ' hJ => ?_)
    case hJ0 =>
      refine ⟨l, preF l ++ [ptF l], 5, rfl, by rw [row_eq, List.append_assoc]; rfl, Nat.lt_of_lt_of_le hl (by decide), ?_⟩
      refine ⟨fun y e q => q, fun _ _ q => q, ?_, rfl, rfl⟩
      show _ = (ar, (preF l ++ [ptF l]).map Dat.str) :: _
      rw [List.map_append]; rfl
    obtain ⟨_, acc, f, rfl, hacc, hc6, hext⟩ := hJ
    have hal : acc.length ≤ 7 := by
      have := rowN_len l
      rw [← hacc, List.length_append] at this; omega
    refine ⟨decide (c / 6 > 0), st_weak hext ?_, fun hb => sx_weak hext ?_, fun hb => ?_⟩
    · have e : decide (((c / 6 : Nat) : Int) > 0) = decide (c / 6 > 0) := by
        rw [decide_eq_decide]; omega
      rw [← e, ← fdiv_nat]
      exact st_cmp (s_bin (s_local rfl) s_int (op_fdiv_int (by decide) (PyProof.noPylong_small (by decide)))) s_int op_gt_int
    · have hb : c / 6 > 0 := of_decide_eq_true hb
      refine sx_cons (sx_assign (en := .dat (.int ((c / 6 : Nat) : Int))) ?h6 ?_)
      case h6 =>
        rw [← fdiv_nat]
        exact s_bin (s_local rfl) s_int (op_fdiv_int (by decide) (PyProof.noPylong_small (by decide)))
      refine sx_cons (sx_append (a := ar) (d := .str (ptF (c / 6))) (xs := acc.map Dat.str) (l1 := []) (l2 := (mlT ns X a0 a1 i).led) (s_local rfl) (hpart (c / 6) _ rfl rfl) rfl (by rw [List.length_map]; omega) ?_)
      have hcl : c / 6 < c := Nat.div_lt_self (by omega) (by decide)
      cases f with
      | zero =>
        exfalso
        have : c < 6 := hc6
        omega
      | succ f =>
        refine sx_nil ⟨c / 6, hcl, c / 6, acc ++ [ptF (c / 6)], f, rfl, ?_, ?_, ?_⟩
        · rw [← hacc, dgF, if_pos hb, List.append_assoc]; rfl
        · rw [Nat.pow_succ] at hc6
          exact Nat.div_lt_of_lt_mul (by rw [Nat.mul_comm]; exact hc6)
        · refine ⟨fun y e q => ?_, fun _ _ q => q, ?_, rfl, rfl⟩
          · simp only [mlW, St.set] at q ⊢
            by_cases h1 : y = "left"
            · subst h1; exact q
            · rw [if_neg h1]
              by_cases h2 : y = "row"
              · subst h2; exact q
              · rw [if_neg h2, if_neg h1] at q
                rw [if_neg h2, if_neg h1]; exact q
          · show _ = (ar, (acc ++ [ptF (c / 6)]).map Dat.str) :: _
            rw [List.map_append]; rfl
    · have hb : ¬ c / 6 > 0 := of_decide_eq_false hb
      have hrow : acc = rowN l := by
        rw [← hacc]
        cases f with
        | zero => rw [dgF, List.append_nil]
        | succ f => rw [dgF, if_neg hb, List.append_nil]
      subst hrow
      refine sx_weak hext (sx_freeze (x := "row") (a := ar) (xs := (rowN l).map Dat.str) (l1 := []) (l2 := (mlT ns X a0 a1 i).led) rfl rfl ?_)
      have t0 : (ns.take i).length ≤ 6 := by rw [List.length_take]; omega
      have l0 := m0_len (ns.take i)
      have l1 := m1_len (ns.take i)
      refine sx_cons (sx_for2 (mlI ns X a0 a1 i x c l) (si_list (s_item_list (k := x.fmod 3) (s_list (s_cons (s_list (s_cons s_int s_nil)) (s_cons (s_list (s_cons s_int s_nil)) (s_cons (s_list (s_cons s_int (s_cons s_int s_nil))) s_nil)))) (s_bin (s_local rfl) s_int (op_mod_int (by decide))) (wh_at x))) ?hE2 (fun j d hj => ?turn) fun τ'' hτ'' => ?done)
      case hE2 =>
        refine ⟨fun y e q => ?_, fun _ _ q => q, ?_, rfl, rfl⟩
        · simp only [mlI, mlW, St.set] at q ⊢
          by_cases h1 : y = "row"
          · rw [if_pos h1] at q ⊢; exact q
          · rw [if_neg h1] at q ⊢; rw [if_neg h1]; exact q
        · show [(a1, _), (a0, _)] = [(a1, (m1F (ns.take i) ++ []).map Dat.str), (a0, (m0F (ns.take i) ++ []).map Dat.str)]
          rw [List.append_nil, List.append_nil]
      case turn =>
        have hw := wh_len x
        have c0 := cnt_len (wayN l) 0 ((whD x).take j)
        have c1 := cnt_len (wayN l) 1 ((whD x).take j)
        have ct : ((whD x).take j).length ≤ 2 := by rw [List.length_take]; omega
        have hrf := row_fine l
        have hrf2 : ((rowN l).map (·.length)).sum + (rowN l).length * (Str.length "/") ≤ 16777216 := Nat.le_trans hrf (by decide)
        rcases wh_mem hj with rfl | rfl
        · refine sx_cons (sx_append (a := a0) (d := .str (wayN l)) (xs := (m0F (ns.take i) ++ cnt (wayN l) 0 ((whD x).take j)).map Dat.str) (l1 := [(a1, (m1F (ns.take i) ++ cnt (wayN l) 1 ((whD x).take j)).map Dat.str)]) (l2 := []) (s_item_refs (k := 0) (s_local rfl) (s_local rfl) rfl (Nat.le_of_ble_eq_true rfl)) (s_join s_str (s_local rfl) hrf2 (way_fine l).2.1) rfl (by rw [List.length_map, List.length_append]; omega) ?_)
          refine sx_nil ⟨fun y e q => ?_, fun _ _ q => q, ?_, rfl, rfl⟩
          · simp only [mlI, St.set] at q ⊢
            by_cases hz : y = "which"
            · subst hz; exact nomatch (show (none : Option Ent) = some e from q)
            · rw [if_neg hz]; exact q
          · show [(a1, _), (a0, _ ++ [Dat.str (wayN l)])] = [(a1, (m1F (ns.take i) ++ cnt (wayN l) 1 ((whD x).take (j + 1))).map Dat.str), (a0, (m0F (ns.take i) ++ cnt (wayN l) 0 ((whD x).take (j + 1))).map Dat.str)]
            rw [cnt_step hj, cnt_step hj, show cnt (wayN l) 1 [.int 0] = [] from rfl, show cnt (wayN l) 0 [.int 0] = [wayN l] from rfl, List.append_nil, ← List.append_assoc, List.map_append (l₂ := [wayN l])]; rfl
        · refine sx_cons (sx_append (a := a1) (d := .str (wayN l)) (xs := (m1F (ns.take i) ++ cnt (wayN l) 1 ((whD x).take j)).map Dat.str) (l1 := []) (l2 := [(a0, (m0F (ns.take i) ++ cnt (wayN l) 0 ((whD x).take j)).map Dat.str)]) (s_item_refs (k := 1) (s_local rfl) (s_local rfl) rfl (Nat.le_of_ble_eq_true rfl)) (s_join s_str (s_local rfl) hrf2 (way_fine l).2.1) rfl (by rw [List.length_map, List.length_append]; omega) ?_)
          refine sx_nil ⟨fun y e q => ?_, fun _ _ q => q, ?_, rfl, rfl⟩
          · simp only [mlI, St.set] at q ⊢
            by_cases hz : y = "which"
            · subst hz; exact nomatch (show (none : Option Ent) = some e from q)
            · rw [if_neg hz]; exact q
          · show [(a1, _ ++ [Dat.str (wayN l)]), (a0, _)] = [(a1, (m1F (ns.take i) ++ cnt (wayN l) 1 ((whD x).take (j + 1))).map Dat.str), (a0, (m0F (ns.take i) ++ cnt (wayN l) 0 ((whD x).take (j + 1))).map Dat.str)]
            rw [cnt_step hj, cnt_step hj, show cnt (wayN l) 0 [.int 1] = [] from rfl, show cnt (wayN l) 1 [.int 1] = [wayN l] from rfl, List.append_nil, ← List.append_assoc, List.map_append (l₂ := [wayN l])]; rfl
      case done =>
        have hin : Ext (mlT ns X a0 a1 (i + 1)) (mlI ns X a0 a1 i x c l (whD x).length) := by
          refine ⟨fun y e q => ?_, fun _ _ q => q, ?_, rfl, rfl⟩
          · simp only [mlT, mlI, St.set] at q ⊢
            by_cases h1 : y = "row"
            · subst h1; exact nomatch (show (none : Option Ent) = some e from q)
            · rw [if_neg h1]
              by_cases h2 : y = "left"
              · subst h2; exact nomatch (show (none : Option Ent) = some e from q)
              · rw [if_neg h2]
                by_cases h3 : y = "x"
                · subst h3; exact nomatch (show (none : Option Ent) = some e from q)
                · rw [if_neg h3]; exact q
          · show [(a1, (m1F (ns.take i) ++ cnt (wayN l) 1 ((whD x).take (whD x).length)).map Dat.str), (a0, (m0F (ns.take i) ++ cnt (wayN l) 0 ((whD x).take (whD x).length)).map Dat.str)] = [(a1, (m1F (ns.take (i + 1))).map Dat.str), (a0, (m0F (ns.take (i + 1))).map Dat.str)]
            rw [List.take_length, cnt1, cnt0, m1_step hx, m0_step hx, hlv]
        exact sx_nil (hin.trans hτ'')
  · refine sx_weak hτ (sx_freezeRefs (x := "mails") rfl rfl (sx_cons (sx_ret (s_local rfl) ?_)))
    show Fl.ret _ = Fl.ret _
    rw [List.length_map, List.take_length]
end
end Mine
end -- W39

section -- W46
open PySem PySem.W PyProof.Rows PySem.Calls PySem.Spec
open PySem.StrLaws PySem.Builtin PySem.Builtin.Str
set_option maxRecDepth 100000
set_option maxHeartbeats 1000000
namespace Mine
/-! ## what the calls ask of a way -/
/-- a short way, well made -/
structure Fine (x : Str) : Prop where
  len : x.length ≤ 300
  ok : PyData.strOk x = true
theorem dir_ok {x : Str} (ho : PyData.strOk x = true) : PyData.strOk (dirF x) = true := by
  have hh : PyData.strOk (headF x) = true := strOk_cut ho _ _
  unfold dirF
  split
  · rw [strOk_mem]
    intro c hc
    rw [show ("/" : Str) = slash from rfl, rstrip_list] at hc
    exact strOk_mem.mp hh c (rsL_mem hc)
  · exact hh
theorem Fine.head {x : Str} (h : Fine x) : headOk x = true := by
  unfold headOk
  rw [Bool.and_eq_true, Bool.and_eq_true, decide_eq_true_eq]
  exact ⟨Nat.le_trans h.len (by decide), h.ok, dir_ok h.ok⟩
theorem Fine.spl {x : Str} (h : Fine x) : splOk x = true := splOk_of (Nat.le_trans h.len (by decide)) h.ok
theorem Fine.row {x : Str} (h : Fine x) : rowOk (rowF x) = true := rowOk_row (Nat.le_trans h.len (by decide)) h.ok
theorem Fine.kept {x : Str} (h : Fine x) : rowOk (keptF x) = true := rowOk_kept (Nat.le_trans h.len (by decide)) h.ok
theorem mem_wt {p : Str} : ∀ {ps : List Str}, p ∈ ps → p.length + 1 ≤ wtS ps
  | q :: r, h => by
    have e : wtS (q :: r) = q.length + 1 + wtS r := rfl
    rcases List.mem_cons.mp h with h | h
    · rw [h, e]; omega
    · have := mem_wt h; omega
theorem ahead_len (x : Str) : (aheadF x).length ≤ 2 := by
  unfold aheadF
  split
  · decide +kernel
  · split <;> decide +kernel
theorem ahead_ok (x : Str) : PyData.strOk (aheadF x) = true := by
  unfold aheadF
  split
  · decide +kernel
  · split <;> decide +kernel
theorem Fine.norm {x : Str} (h : Fine x) : normOk x = true := by
  obtain ⟨h1, k, h2, _⟩ := root_eq x
  have hyl : (rootF x).2.length ≤ x.length := by
    rw [len_toList, h2, List.length_drop, len_toList]; omega
  have hyo : PyData.strOk (rootF x).2 = true := by
    rw [strOk_mem]
    intro c hc
    rw [h2] at hc
    exact strOk_mem.mp h.ok c (List.mem_of_mem_drop hc)
  have hl := h.len
  have hp := parts_le (rootF x).2 slash
  have hsl := split_len (rootF x).2
  have hw := wt_split (rootF x).2
  have hr := rest_row x
  have hrw := row_wt x
  have hsum := wtS_sum (rowF x)
  have hj := join_len (rowF x)
  have ha := ahead_len x
  unfold normOk
  rw [show ("/" : Str) = slash from rfl]
  simp only [hr]
  rw [slash_len]
  simp only [Bool.and_eq_true, decide_eq_true_eq]
  refine ⟨by omega, by omega, ?_, by omega, List.all_eq_true.mpr (strOk_split hyo), List.all_eq_true.mpr fun z hz => ?_, by omega, strOk_join (row_strOk h.ok), by rw [h1]; omega⟩
  · rw [slash_len] at hp; omega
  · have := mem_wt hz
    rw [decide_eq_true_eq]; omega
theorem Fine.str {x : Str} (h : x.length ≤ 290) (ho : PyData.strOk x = true) : Fine (strF x) := by
  have hrw := row_wt x
  have hj := join_len (rowF x)
  have ha := ahead_len x
  constructor
  · unfold strF
    rw [show ("/" : Str) = slash from rfl]
    split
    · rw [Str.length_append]; omega
    · decide +kernel
  · unfold strF
    rw [show ("/" : Str) = slash from rfl]
    split
    · exact strOk_append (ahead_ok x) (strOk_join (row_strOk ho))
    · decide +kernel
/-! ### the way within /r/s -/
def wOf (x : Str) : Str := if (cut x none (some 1) == "/") = true then x else "/r/s/" ++ x
theorem starts_slash (x : Str) : Txt.startswith x slash = (cut x none (some 1) == slash) := by
  rw [beq_slash (cut1_list x)]
  unfold Txt.startswith
  rw [subAt_eq, slash_list, slash_len, List.drop_zero, Bool.eq_iff_iff, Bool.and_eq_true, decide_eq_true_eq, decide_eq_true_eq, beq_iff_eq, one_slash]
  constructor
  · exact fun h => h.2
  · intro h
    refine ⟨?_, h⟩
    rw [len_toList]
    cases hx : x.cps.toList with
    | nil => rw [hx] at h; cases h
    | cons c r => simp
theorem join_way (x : Str) : joinF "/r/s" x = wOf x := by
  unfold joinF wOf
  rw [show ("/" : Str) = slash from rfl, starts_slash]
  have e1 : (!(Str.length "/r/s" != 0)) = false := by decide +kernel
  have e2 : Txt.endswith "/r/s" slash = false := by decide +kernel
  rw [e1, e2, Bool.false_or, Bool.or_false]
  split
  · rfl
  · rw [if_neg (by decide)]
    apply str_ext
    rw [app_list, app_list, app_list, ← List.append_assoc]
    congr 1
theorem wOf_fine {x : Str} (h : x.length ≤ 280) (ho : PyData.strOk x = true) : (wOf x).length ≤ 290 ∧ PyData.strOk (wOf x) = true := by
  unfold wOf
  split
  · exact ⟨by omega, ho⟩
  · refine ⟨?_, strOk_append (by decide +kernel) ho⟩
    have : Str.length "/r/s/" = 5 := by decide +kernel
    rw [Str.length_append, this]; omega
/-- a mail: ways within a line, some, few -/
structure Mail (m : List Str) : Prop where
  len : m.length ≤ 10
  ne : m ≠ []
  way : ∀ w ∈ m, w.length ≤ 100 ∧ PyData.strOk w = true ∧ ∀ c ∈ w.cps.toList, nl c = false
theorem Mail.fine {m : List Str} (h : Mail m) {w : Str} (hw : w ∈ m) : Fine w := ⟨Nat.le_trans (h.way w hw).1 (by decide), (h.way w hw).2.1⟩
theorem Mail.fineS {m : List Str} (h : Mail m) {w : Str} (hw : w ∈ m) : Fine (strF w) := Fine.str (Nat.le_trans (h.way w hw).1 (by decide)) (h.way w hw).2.1
theorem Mail.wOf {m : List Str} (h : Mail m) {w : Str} (hw : w ∈ m) : Fine (wOf w) := by
  have := wOf_fine (Nat.le_trans (h.way w hw).1 (by decide)) (h.way w hw).2.1
  exact ⟨Nat.le_trans this.1 (by decide), this.2⟩
def wayB (w : Str) : Bool := decide (w.length ≤ 100) && (PyData.strOk w && w.cps.toList.all fun c => !nl c)
theorem wayB_of {w : Str} (h : wayB w = true) : w.length ≤ 100 ∧ PyData.strOk w = true ∧ ∀ c ∈ w.cps.toList, nl c = false := by
  unfold wayB at h
  rw [Bool.and_eq_true, Bool.and_eq_true, decide_eq_true_eq, List.all_eq_true] at h
  exact ⟨h.1, h.2.1, fun c hc => by simpa using h.2.2 c hc⟩
theorem base0 : ∀ w ∈ ms0, wayB w = true := List.all_eq_true.mp (by decide +kernel)
theorem base1 : ∀ w ∈ ms1, wayB w = true := List.all_eq_true.mp (by decide +kernel)
theorem mail0 {ns : List Int} (h : ns.length ≤ 6) : Mail (m0F ns) := by
  refine ⟨Nat.le_trans (m0_len ns) (by omega), by simp [m0F], fun w hw => ?_⟩
  unfold m0F at hw
  rcases List.mem_append.mp hw with q | q
  · exact wayB_of (base0 w q)
  · obtain ⟨x, _, rfl⟩ := List.mem_map.mp q
    exact way_fine _
theorem mail1 {ns : List Int} (h : ns.length ≤ 6) : Mail (m1F ns) := by
  refine ⟨Nat.le_trans (m1_len ns) (by omega), by simp [m1F], fun w hw => ?_⟩
  unfold m1F at hw
  rcases List.mem_append.mp hw with q | q
  · exact wayB_of (base1 w q)
  · obtain ⟨x, _, rfl⟩ := List.mem_map.mp q
    exact way_fine _
end Mine
end -- W46

section -- W47
open PySem PySem.W PyProof.Rows PySem.Calls PySem.Spec
set_option maxRecDepth 100000
set_option maxHeartbeats 1000000
namespace Mine
section
variable {C : Cx} {n : Nat} {env : Env} {τ τ' : St}
theorem map_two {α : Type} {xs : List α} {f g : α → Dat} {i : Nat} {d r : Dat} (hd : (xs.map f)[i]? = some d) (hr : (xs.map g)[i]? = some r) : ∃ a ∈ xs, d = f a ∧ r = g a := by
  rw [List.getElem?_map] at hd hr
  cases q : xs[i]? with
  | none => rw [q] at hd; cases hd
  | some a => rw [q] at hd hr; cases hd; cases hr; exact ⟨a, List.mem_of_getElem? q, rfl, rfl⟩
theorem s_comp_map {α : Type} {elt iter : Expr} {x : Str} {px : Pos} {scope : Scope} {pos : Pos} {xs : List α} (f g : α → Dat) (hi : SItr C n env τ iter (xs.map f)) (hsz : xs.length ≤ 1000)
    (helt : ∀ (L : Addr) (cl : List (Str × Addr)) (σ : Str → Option Ent) (D : Addr) (outs : List Dat) (X : List Addr) (a : α), a ∈ xs → SEv C n (compEnvC scope cl L env) (cstx σ (cσr scope τ.cσ) D outs X x (f a)) elt (.dat (g a)))
    (hx : ∀ cl L, (compEnvC scope cl L env).kindOf x = some .local := by intro _ _; rfl) (hsc : scopeOk scope = true := by rfl) (hfr : freeOk scope τ.cσ = true := by rfl) (hs : ∀ x, foldedSetIterable iter env x = pure x := by intro _; rfl) :
    SEv C n env τ (.ListComp elt [⟨.Name x px, iter, [], 0⟩] scope pos) (.dat (.list (xs.map g))) :=
  s_comp hi (by rw [List.length_map, List.length_map]) (by rw [List.length_map]; exact hsz) (fun L cl i d r σ D outs X hd hr => by
    obtain ⟨a, ha, rfl, rfl⟩ := map_two hd hr
    exact helt L cl σ D outs X a ha) hx hsc hfr hs
theorem sx_assign_map {α : Type} {elt : Expr} {x : Str} {px : Pos} {iter : Expr} {scope : Scope} {y : Str} {py pos spos : Pos} {xs : List α} {P : Fl → St → Prop} (f g : α → Dat) (hi : SItr C n env τ iter (xs.map f)) (hsz : xs.length ≤ 1000)
    (helt : ∀ (L : Addr) (cl : List (Str × Addr)) (σ : Str → Option Ent) (D : Addr) (outs : List Dat) (X : List Addr) (a : α), a ∈ xs → SEv C n (compEnvC scope cl L env) (cstx σ (cσr scope τ.cσ) D outs X x (f a)) elt (.dat (g a)))
    (h : P .next (τ.set y (.dat (.list (xs.map g)))))
    (hx : ∀ cl L, (compEnvC scope cl L env).kindOf x = some .local := by intro _ _; rfl)
    (hsw : swapsWith (.ListComp elt [⟨.Name x px, iter, [], 0⟩] scope pos) (some (.Name y py)) spos.line env = pure true := by rfl) (hy : env.kindOf y = some .local := by rfl)
    (hsc : scopeOk scope = true := by rfl) (hfr : freeOk scope τ.cσ = true := by rfl) (hs : ∀ x, foldedSetIterable iter env x = pure x := by intro _; rfl) :
    SEx1 C n env τ (.Assign [.Name y py] (.ListComp elt [⟨.Name x px, iter, [], 0⟩] scope pos) spos) P :=
  sx_assign_comp hi (by rw [List.length_map, List.length_map]) (by rw [List.length_map]; exact hsz) (fun L cl i d r σ D outs X hd hr => by
    obtain ⟨a, ha, rfl, rfl⟩ := map_two hd hr
    exact helt L cl σ D outs X a ha) h hx hsw hy hsc hfr hs
theorem flat_map {α β : Type} (k : α → List β) (g : β → Dat) : ∀ xs : List α, (xs.map fun a => (k a).map g).flatten = (xs.flatMap k).map g
  | [] => rfl
  | a :: r => by rw [List.map_cons, List.flatten_cons, flat_map k g r, List.flatMap_cons, List.map_append]
theorem s_comp_two_map {α β : Type} {elt i1 i2 : Expr} {x y : Str} {px py : Pos} {scope : Scope} {pos : Pos} {xs : List α} (f : α → Dat) (k : α → List β) (f2 g2 : β → Dat) (hi : SItr C n env τ i1 (xs.map f))
    (hinner : ∀ (L : Addr) (cl : List (Str × Addr)) (σ : Str → Option Ent) (D : Addr) (outs : List Dat) (X : List Addr) (a : α), a ∈ xs → SItr C n (compEnvC scope cl L env) (cstx σ (cσr scope τ.cσ) D outs X x (f a)) i2 ((k a).map f2))
    (helt : ∀ (L : Addr) (cl : List (Str × Addr)) (σ : Str → Option Ent) (D : Addr) (outs : List Dat) (X : List Addr) (a : α) (b : β), a ∈ xs → b ∈ k a → SEv C n (compEnvC scope cl L env) (cstx σ (cσr scope τ.cσ) D outs X y (f2 b)) elt (.dat (g2 b)))
    (hsz : (xs.flatMap k).length ≤ 1000)
    (hx : ∀ cl L, (compEnvC scope cl L env).kindOf x = some .local := by intro _ _; rfl) (hy : ∀ cl L, (compEnvC scope cl L env).kindOf y = some .local := by intro _ _; rfl) (hs2 : ∀ cenv v, foldedSetIterable i2 cenv v = pure v := by intro _ _; rfl)
    (hsc : scopeOk scope = true := by rfl) (hfr : freeOk scope τ.cσ = true := by rfl) (hs : ∀ x, foldedSetIterable i1 env x = pure x := by intro _; rfl) :
    SEv C n env τ (.ListComp elt [⟨.Name x px, i1, [], 0⟩, ⟨.Name y py, i2, [], 0⟩] scope pos) (.dat (.list ((xs.flatMap k).map g2))) :=
  s_comp_two (es := xs.map fun a => (k a).map f2) (cs := xs.map fun a => (k a).map g2) hi (by rw [List.length_map, List.length_map]) (by rw [List.length_map, List.length_map])
    (fun L cl i d e σ D outs X hd he => by
      rw [List.getElem?_map] at hd he
      cases q : xs[i]? with
      | none => rw [q] at hd; cases hd
      | some a =>
        rw [q] at hd he; cases hd; cases he
        exact hinner L cl σ D outs X a (List.mem_of_getElem? q))
    (fun L cl i e c he hc => by
      rw [List.getElem?_map] at he hc
      cases q : xs[i]? with
      | none => rw [q] at he; cases he
      | some a =>
        rw [q] at he hc; cases he; cases hc
        refine ⟨by rw [List.length_map, List.length_map], fun j d r σ D outs X hd hr => ?_⟩
        obtain ⟨b, hb, rfl, rfl⟩ := map_two hd hr
        exact helt L cl σ D outs X a b (List.mem_of_getElem? q) hb)
    (flat_map k g2 xs) (by rw [List.length_map]; exact hsz) hx hy hs2 hsc hfr hs
theorem op_ne_same {d : Dat} (hs : shp 9 d = true) : Op2 C n (compareOp .NotEq) d d (.bool false) := op_ne_dat (b := true) hs hs (by simp)
theorem op_eq_same {d : Dat} (hs : shp 9 d = true) : Op2 C n (compareOp .Eq) d d (.bool true) := op_eq_dat (b := true) hs hs (by simp)
theorem sl_six {α : Type} (xs : List α) : sl xs none (some 6) = xs.take 6 := sl_upto xs 6
end
noncomputable def lawEnv (p : Params) (L fa : Addr) (cd : Value) : Env := envOfC "law" (fdOf 236 p).scope L fa cd
def lawT (xs : List Int) (X : List Addr) : St := ⟨σ0 ["script"] [.list (xs.map Dat.int)], fun _ => none, [], true, X⟩
/-- the datum of a row of texts -/
abbrev rw_ (m : List Str) : Dat := .list (m.map Dat.str)
def twF (m : List Str) : List Str := srt (m.map strF ++ m.map strF)
theorem cells_236 (p : Params) (k : Nat) : cellsFrom k (fdOf 236 p).scope.names [] = ([("alone", k + 2), ("twice", k + 1), ("made", k)] : List (Str × Addr)) := by kernel_rfl!
section
variable {C : Cx} (hK : C.K = hd.heap_39 C.w.params)
include hK
theorem law_first {xs : List Int} (L fa : Addr) (cd : Value) (X : List Addr) (hn : xs.length ≤ 63)
    (h : ∀ m0 m1 : List Str, Mail m0 → Mail m1 → SEx C 5 (lawEnv C.w.params L fa cd) ((lawT xs X).set "drawn" (.dat (.list ([m0, m1].map rw_)))) (bodyOf 236 C.w.params).tail (fun l _ => l = .ret (.bool true))) :
    SEx C 5 (lawEnv C.w.params L fa cd) (lawT xs X) (bodyOf 236 C.w.params) (fun l _ => l = .ret (.bool true)) := by
  have hn6 : (xs.take 6).length ≤ 6 := List.length_take_le _ _
  have hs : sl (xs.map Dat.int) none (some 6) = (xs.take 6).map Dat.int := by rw [sl_six, List.map_take]
  refine sx_cons (sx_assign (en := .dat (.list ([m0F (xs.take 6), m1F (xs.take 6)].map rw_))) (s_call (s_glob (g_law_mails hK)) (o_law_mails hK) (d_law_mails _) (s_cons (d := .list ((xs.take 6).map Dat.int)) ?hsl s_nil) (fn_mails hK hn6)) ?_)
  case hsl =>
    rw [← hs]
    exact s_slice_list (s_local rfl) sp_none (sp_some s_int) (by rw [List.length_map]; omega)
  exact h _ _ (mail0 hn6) (mail1 hn6)
end
end Mine
end -- W47

section -- W48
open PySem PySem.W PyProof.Rows PySem.Calls PySem.Spec
set_option maxRecDepth 100000
set_option maxHeartbeats 1000000
namespace Mine
theorem shp_rows {α : Type} (ms : List α) (k : α → List Str) : shp 9 (.list (ms.map fun m => rw_ (k m))) = true := by simp [shp]
/-- the ways alone in a mail, twice as often as sent -/
def alD (m0 m1 : List Str) (q : Nat) : Dat := if q = 0 then rw_ (aloneF (twF m0) (twF m1)) else rw_ (aloneF (twF m1) (twF m0))
theorem shp_al (m0 m1 : List Str) (q : Nat) : shp 7 (alD m0 m1 q) = true := by
  unfold alD
  split <;> simp [shp]
theorem op_add_rows {C : Cx} {n : Nat} {a b : List Str} (h : a.length + b.length ≤ 1000) : Op2 C n (binaryOp .Add) (rw_ a) (rw_ b) (rw_ (a ++ b)) := by
  have e : rw_ (a ++ b) = .list (a.map Dat.str ++ b.map Dat.str) := by show Dat.list ((a ++ b).map Dat.str) = _; rw [List.map_append]
  rw [e]
  exact op_add_list (szl (by rw [List.length_map, List.length_map]; exact h))
theorem tw_len {m : List Str} (h : Mail m) : (twF m).length ≤ 20 := by
  unfold twF
  rw [(srt_perm _).length_eq, List.length_append, List.length_map]
  have := h.len; omega
theorem tw_ne {m : List Str} (h : Mail m) : twF m ≠ [] := fun q => by
  have h1 := (srt_perm (m.map strF ++ m.map strF)).length_eq
  unfold twF at q
  rw [q, List.length_append, List.length_map] at h1
  have h2 : m.length = 0 := by
    have : 0 = m.length + m.length := h1
    omega
  exact h.ne (List.length_eq_zero_iff.mp h2)
theorem tw_srt (m : List Str) : Srt (twF m) := srt_sorted _
/-- a way parted -/
def tupF (w : Str) : Dat := .tuple [.tuple [.str (dirF w), .str (baseF w)], .str (dirF w), .str (baseF w)]
section
variable {C : Cx} (hK : C.K = hd.heap_39 C.w.params)
include hK
/-- a mail is sent, and what is asked of it stands -/
theorem law_sent_elt {env : Env} {scope : Scope} {cl : List (Str × Addr)} {L : Addr} {np p : Pos} {ep : Pos} {τ : St} {m : List Str} (hM : Mail m) (hx : τ.σ "each" = some (.dat (rw_ m)))
    (h1 : (compEnvC scope cl L env).kindOf "each" = some .local) (h2 : (compEnvC scope cl L env).kindOf "_law_sent" = some .globalImplicit) :
    SEv C 5 (compEnvC scope cl L env) τ (.Call (.Name "_law_sent" np) [.Name "each" ep] [] p) (.dat (rw_ (m.map dotF ++ [("" : Str)]))) := by
  have hf := fn_sent hK (ms := m) (Nat.le_trans hM.len (by decide)) (fun w hw => (hM.way w hw).1) fun w hw => (hM.way w hw).2.1
  rw [sent_eq fun w hw => (hM.way w hw).2.2] at hf
  exact s_call (s_glob (g_law_sent hK) h2) (o_law_sent hK) (d_law_sent _) (s_cons (s_local hx h1) s_nil) hf
theorem law_rest {xs : List Int} (L fa : Addr) (cd : Value) (X : List Addr) {m0 m1 : List Str} (h0 : Mail m0) (h1 : Mail m1) :
    SEx C 5 (lawEnv C.w.params L fa cd) ((lawT xs X).set "drawn" (.dat (.list ([m0, m1].map rw_)))) (bodyOf 236 C.w.params).tail (fun l _ => l = .ret (.bool true)) := by
  have hM : ∀ m ∈ [m0, m1], Mail m := fun m hm => by
    rcases List.mem_cons.mp hm with q | q
    · rw [q]; exact h0
    · rw [List.mem_singleton.mp q]; exact h1
  have hml : ∀ m ∈ [m0, m1], m.length ≤ 1000 := fun m hm => Nat.le_trans (hM m hm).len (by decide)
  generalize hms : [m0, m1] = ms at hM hml ⊢
  have hml2 : ms.length ≤ 1000 := by rw [← hms]; exact Nat.le_of_ble_eq_true rfl
  -- sent
  refine sx_cons (sx_assign_map rw_ (fun m => rw_ (m.map dotF ++ [("" : Str)])) (si_list (s_local rfl)) hml2 (fun Lc cl σ D outs X' m hm => law_sent_elt hK (hM m hm) rfl rfl rfl) ?_)
  -- what is sent
  refine sx_cons (sx_if (c := false) (st_cmp (s_local rfl) (s_comp_map rw_ (fun m => rw_ (m.map dotF ++ [("" : Str)])) (si_list (s_local rfl)) hml2 (fun Lc cl σ D outs X' m hm => ?hsent)) (op_ne_same (shp_rows _ _))) (fun q => nomatch q) fun _ => sx_nil ?_)
  case hsent =>
    have e : rw_ (m.map dotF ++ [("" : Str)]) = .list (m.map (fun w => Dat.str (dotF w)) ++ [Dat.str ""]) := by
      show Dat.list ((m.map dotF ++ [("" : Str)]).map Dat.str) = _
      rw [List.map_append, List.map_map]; rfl
    rw [e]
    refine s_bin (s_comp_map Dat.str (fun w => Dat.str (dotF w)) (si_list (s_local rfl)) (hml m hm) (fun Ld cl' σ' D' outs' X2 w hw => ?hw1)) (s_list (s_cons s_str s_nil)) (op_add_list (szl (by rw [List.length_map]; have := (hM m hm).len; show _ + 1 ≤ _; omega)))
    case hw1 =>
      have hwl := ((hM m hm).way w hw).1
      refine s_if (c := cut w none (some 1) == ".") (st_cmp (s_slice_str (s_local rfl) sp_none (sp_some s_int) (Nat.le_trans hwl (by decide))) s_str op_eq_str) (fun hc => ?_) fun hc => ?_
      · have e2 : dotF w = "." ++ w := if_pos hc
        rw [e2]
        refine s_bin s_str (s_local rfl) (op_add_str (szl ?_))
        have : Str.length "." = 1 := by decide +kernel
        rw [this]; omega
      · have e2 : dotF w = w := if_neg (ne_true_of_eq_false hc)
        rw [e2]
        exact s_local rfl
  -- ways
  refine sx_cons (sx_assign_map (fun m => rw_ (m.map dotF ++ [("" : Str)])) (fun m => .list (m.map fun w => .str (undotF (dotF w)))) (si_list (s_local rfl)) hml2 (fun Lc cl σ D outs X' m hm => ?hways) ?_)
  case hways =>
    refine s_comp_map (fun w => Dat.str (dotF w)) (fun w => Dat.str (undotF (dotF w))) (si_list ?hsl) (hml m hm) (fun Ld cl' σ' D' outs' X2 w hw => ?hw2)
    case hsl =>
      have e : m.map (fun w => Dat.str (dotF w)) = sl ((m.map dotF ++ [("" : Str)]).map Dat.str) none (some (-1)) := by
        rw [map_dropLast, List.dropLast_concat, List.map_map]; rfl
      rw [e]
      exact s_slice_list (s_local rfl) sp_none (sp_some s_neg) (by rw [List.length_map, List.length_append, List.length_map]; have := (hM m hm).len; show _ + 1 ≤ _; omega)
    case hw2 =>
      have hwl := ((hM m hm).way w hw).1
      have hdl : (dotF w).length ≤ 1000 := by
        unfold dotF
        split
        · have : Str.length "." = 1 := by decide +kernel
          rw [Str.length_append, this]; omega
        · omega
      refine s_if (c := cut (dotF w) none (some 1) == ".") (st_cmp (s_slice_str (s_local rfl) sp_none (sp_some s_int) hdl) s_str op_eq_str) (fun hc => ?_) fun hc => ?_
      · have e2 : undotF (dotF w) = cut (dotF w) (some 1) none := if_pos hc
        rw [e2]
        exact s_slice_str (s_local rfl) (sp_some s_int) sp_none hdl
      · have e2 : undotF (dotF w) = dotF w := if_neg (ne_true_of_eq_false hc)
        rw [e2]
        exact s_local rfl
  have eways : (fun m : List Str => Dat.list (m.map fun w => Dat.str (undotF (dotF w)))) = rw_ := by funext m; simp only [undot]
  rw [eways]
  -- made
  have erow : ∀ m : List Str, m.map (fun w => Dat.str (strF w)) = (m.map strF).map Dat.str := fun m => by rw [List.map_map]; rfl
  refine sx_cons (sx_assignC (s_comp_map rw_ (fun m => rw_ (m.map strF)) (si_list (s_local rfl)) hml2 (fun Lc cl σ D outs X' m hm => ?hmade)) ?_ rfl (fun _ _ _ => ⟨_, rfl⟩))
  case hmade =>
    show SEv _ _ _ _ _ (.dat (.list ((m.map strF).map Dat.str)))
    rw [← erow]
    refine s_comp_map Dat.str (fun w => Dat.str (strF w)) (si_list (s_local rfl)) (hml m hm) (fun Ld cl' σ' D' outs' X2 w hw => ?hw3)
    case hw3 =>
      have hf := fn_normpath hK (x := w) ((hM m hm).fine hw).norm
      rw [norm_eq] at hf
      exact s_call (s_glob (g_normpath hK)) (o_normpath hK) (d_normpath _) (s_cons (s_local rfl) s_nil) hf
  -- straight
  refine sx_cons (sx_assign_map rw_ (fun m => rw_ (m.map strF)) (si_list (s_local rfl)) hml2 (fun Lc cl σ D outs X' m hm => ?hstr) ?_)
  case hstr =>
    show SEv _ _ _ _ _ (.dat (.list ((m.map strF).map Dat.str)))
    rw [← erow]
    refine s_comp_map Dat.str (fun w => Dat.str (strF w)) (si_list (s_local rfl)) (hml m hm) (fun Ld cl' σ' D' outs' X2 w hw => ?hw4)
    case hw4 =>
      have hF := (hM m hm).fine hw
      exact s_call (s_glob (g_law_straight hK)) (o_law_straight hK) (d_law_straight _) (s_cons (s_local rfl) s_nil) (fn_straight hK hF.spl hF.row)
  refine sx_cons (sx_if (c := false) (st_cmp (s_cell rfl) (s_local rfl) (op_ne_same (shp_rows _ _))) (fun q => nomatch q) fun _ => sx_nil ?_)
  -- within /r/s
  have hfl : (ms.flatMap id).length ≤ 1000 := by
    rw [← hms]
    have a := h0.len
    have b := h1.len
    simp only [List.flatMap_cons, List.flatMap_nil, id, List.append_nil, List.length_append]
    omega
  refine sx_cons (sx_if (c := false) (st_cmp (s_comp_two_map rw_ id Dat.str (fun w => Dat.str (strF (wOf w))) (si_list (s_local rfl)) (fun Lc cl σ D outs X' m hm => si_list (s_local rfl)) (fun Lc cl σ D outs X' m w hm hw => ?hj1) hfl) (s_comp_two_map rw_ id Dat.str (fun w => Dat.str (strF (wOf w))) (si_list (s_local rfl)) (fun Lc cl σ D outs X' m hm => si_list (s_local rfl)) (fun Lc cl σ D outs X' m w hm hw => ?hj2) hfl) (op_ne_same (by simp [shp]))) (fun q => nomatch q) fun _ => sx_nil ?_)
  case hj1 =>
    have hw' : w ∈ m := hw
    have hwl := ((hM m hm).way w hw').1
    have hj := fn_join hK (x := "/r/s") (y := w) (by decide +kernel) (Nat.le_trans hwl (by decide))
    rw [join_way] at hj
    have hf := fn_normpath hK (x := wOf w) ((hM m hm).wOf hw').norm
    rw [norm_eq] at hf
    exact s_call (s_glob (g_normpath hK)) (o_normpath hK) (d_normpath _) (s_cons (s_call (s_glob (g_join hK)) (o_join hK) (d_join _) (s_cons s_str (s_cons (s_local rfl) s_nil)) hj) s_nil) hf
  case hj2 =>
    have hw' : w ∈ m := hw
    have hwl := ((hM m hm).way w hw').1
    have hF := (hM m hm).wOf hw'
    refine s_call (s_glob (g_law_straight hK)) (o_law_straight hK) (d_law_straight _) (s_cons (s_if (c := cut w none (some 1) == "/") (st_cmp (s_slice_str (s_local rfl) sp_none (sp_some s_int) (Nat.le_trans hwl (by decide))) s_str op_eq_str) (fun hc => ?_) fun hc => ?_) s_nil) (fn_straight hK hF.spl hF.row)
    · have e2 : wOf w = w := if_pos hc
      rw [e2]; exact s_local rfl
    · have e2 : wOf w = "/r/s/" ++ w := if_neg (ne_true_of_eq_false hc)
      rw [e2]
      refine s_bin s_str (s_local rfl) (op_add_str (szl ?_))
      have : Str.length "/r/s/" = 5 := by decide +kernel
      rw [this]; omega
  -- parts
  have eboth : ms.map rw_ ++ ms.map (fun m => rw_ (m.map strF)) = (ms ++ ms.map (fun m => m.map strF)).map rw_ := by rw [List.map_append, List.map_map]; rfl
  have hboth : ∀ m ∈ ms ++ ms.map (fun m => m.map strF), ∀ w ∈ m, Fine w := fun m hm w hw => by
    rcases List.mem_append.mp hm with q | q
    · exact (hM m q).fine hw
    · obtain ⟨m', hm', rfl⟩ := List.mem_map.mp q
      obtain ⟨w', hw', rfl⟩ := List.mem_map.mp hw
      exact (hM m' hm').fineS hw'
  have hfl2 : ((ms ++ ms.map (fun m => m.map strF)).flatMap id).length ≤ 1000 := by
    rw [← hms]
    have a := h0.len
    have b := h1.len
    simp only [List.map_cons, List.map_nil, List.flatMap_append, List.flatMap_cons, List.flatMap_nil, id, List.append_nil, List.length_append, List.length_map]
    omega
  have hadd : ∀ {a b : List Str → Dat}, (ms.map a).length + (ms.map b).length ≤ sizeLine := szl (by rw [List.length_map, List.length_map, ← hms]; exact Nat.le_of_ble_eq_true rfl)
  refine sx_cons (sx_if (c := false) (st_cmp (s_comp_two_map rw_ id Dat.str tupF (si_list ?hp1) (fun Lc cl σ D outs X' m hm => si_list (s_local rfl)) (fun Lc cl σ D outs X' m w hm hw => ?hp2) hfl2) (s_comp_two_map rw_ id Dat.str tupF (si_list ?hp3) (fun Lc cl σ D outs X' m hm => si_list (s_local rfl)) (fun Lc cl σ D outs X' m w hm hw => ?hp4) hfl2) (op_ne_same (by simp [shp, tupF]))) (fun q => nomatch q) fun _ => sx_nil ?_)
  case hp1 =>
    rw [← eboth]
    exact s_bin (s_local rfl) (s_cell rfl) (op_add_list hadd)
  case hp3 =>
    rw [← eboth]
    exact s_bin (s_local rfl) (s_local rfl) (op_add_list hadd)
  case hp2 =>
    have hF := hboth m hm w hw
    exact s_tuple (s_cons (s_call (s_glob (g_split hK)) (o_split hK) (d_split _) (s_cons (s_local rfl) s_nil) (fn_split hK hF.head)) (s_cons (s_call (s_glob (g_dirname hK)) (o_dirname hK) (d_dirname _) (s_cons (s_local rfl) s_nil) (fn_dirname hK hF.head)) (s_cons (s_call (s_glob (g_basename hK)) (o_basename hK) (d_basename _) (s_cons (s_local rfl) s_nil) (fn_basename hK (Nat.le_trans hF.len (by decide)) hF.ok)) s_nil)))
  case hp4 =>
    have hF := hboth m hm w hw
    have hf := fn_parted hK hF.spl (split_ne w) hF.kept
    rw [part_eq] at hf
    have hc : ∀ {τ : St} {p1 p2 p3 : Pos} {env : Env}, τ.σ "line" = some (.dat (.str w)) → env.kindOf "line" = some .local → env.kindOf "_law_parted" = some .globalImplicit → SEv C 5 env τ (.Call (.Name "_law_parted" p1) [.Name "line" p2] [] p3) (.dat (.tuple [.str (dirF w), .str (baseF w)])) := fun k1 k2 k3 => s_call (s_glob (g_law_parted hK) k3) (o_law_parted hK) (d_law_parted _) (s_cons (s_local k1 k2) s_nil) hf
    exact s_tuple (s_cons (hc rfl rfl rfl) (s_cons (s_item_tuple (k := 0) (hc rfl rfl rfl) s_int rfl) (s_cons (s_item_tuple (k := 1) (hc rfl rfl rfl) s_int rfl) s_nil)))
  -- twice
  refine sx_cons (sx_assignC (s_comp_map (fun m => rw_ (m.map strF)) (fun m => rw_ (twF m)) (si_list (s_local rfl)) hml2 (fun Lc cl σ D outs X' m hm => ?htw)) ?_ rfl (fun _ _ _ => ⟨_, rfl⟩))
  case htw =>
    have hl := (hM m hm).len
    refine s_sorted (s_boot (g_sorted hK) v_sorted) ?_ (by rw [List.length_append, List.length_map]; omega)
    rw [List.map_append]
    exact s_bin (s_local rfl) (s_local rfl) (op_add_list (szl (by rw [List.length_map, List.length_map]; omega)))
  subst hms
  have l0 := tw_len h0
  have l1 := tw_len h1
  -- alone
  refine sx_cons (sx_assignC (s_comp_map (fun i : Nat => Dat.int (i : Int)) (alD m0 m1) (si_range (m := 2) (s_boot (g_range hK) v_range) s_int (by decide)) (Nat.le_of_ble_eq_true rfl) (fun Lc cl σ D outs X' q hq => ?hal)) ?_ rfl (fun _ _ _ => ⟨_, rfl⟩))
  case hal =>
    have hq2 : q = 0 ∨ q = 1 := by have := List.mem_range.mp hq; omega
    rcases hq2 with rfl | rfl
    · exact s_call (s_glob (g_law_alone hK)) (o_law_alone hK) (d_law_alone _) (s_cons (s_item_list (k := ((0 : Nat) : Int)) (d := rw_ (twF m0)) (s_cell rfl) (s_local rfl) rfl) (s_cons (s_item_list (k := 1 - ((0 : Nat) : Int)) (d := rw_ (twF m1)) (s_cell rfl) (s_bin s_int (s_local rfl) op_sub_int) rfl) s_nil)) (fn_alone hK (Nat.le_trans l0 (by decide)) (Nat.le_trans l1 (by decide)))
    · exact s_call (s_glob (g_law_alone hK)) (o_law_alone hK) (d_law_alone _) (s_cons (s_item_list (k := ((1 : Nat) : Int)) (d := rw_ (twF m1)) (s_cell rfl) (s_local rfl) rfl) (s_cons (s_item_list (k := 1 - ((1 : Nat) : Int)) (d := rw_ (twF m0)) (s_cell rfl) (s_bin s_int (s_local rfl) op_sub_int) rfl) s_nil)) (fn_alone hK (Nat.le_trans l1 (by decide)) (Nat.le_trans l0 (by decide)))
  -- the lists' difference
  refine sx_cons (sx_ret (s_cmp (s_comp_map (fun i : Nat => Dat.int (i : Int)) (fun q => .tuple [alD m0 m1 q, alD m0 m1 (1 - q)]) (si_range (m := 2) (s_boot (g_range hK) v_range) s_int (by decide)) (Nat.le_of_ble_eq_true rfl) (fun Lc cl σ D outs X' q hq => ?hd1)) (s_comp_map (fun i : Nat => Dat.int (i : Int)) (fun q => .tuple [alD m0 m1 q, alD m0 m1 (1 - q)]) (si_range (m := 2) (s_boot (g_range hK) v_range) s_int (by decide)) (Nat.le_of_ble_eq_true rfl) (fun Lc cl σ D outs X' q hq => ?hd2)) (op_eq_same (by simp [shp, shp_al]))) rfl)
  case hd1 =>
    have hq2 : q = 0 ∨ q = 1 := by have := List.mem_range.mp hq; omega
    have g0 : (m0.map strF).length + (m0.map strF).length ≤ 1000 := by have := h0.len; rw [List.length_map]; omega
    have g1 : (m1.map strF).length + (m1.map strF).length ≤ 1000 := by have := h1.len; rw [List.length_map]; omega
    have k0 : (m0.map strF ++ m0.map strF).length < 64 := by have := h0.len; rw [List.length_append, List.length_map]; omega
    have k1 : (m1.map strF ++ m1.map strF).length < 64 := by have := h1.len; rw [List.length_append, List.length_map]; omega
    rcases hq2 with rfl | rfl
    · have hf := fn_sld hK (xs := twF m0) (ys := twF m1) (Nat.le_trans l0 (by decide)) (Nat.le_trans l1 (by decide))
      rw [sld_alone (tw_srt _) (tw_srt _) (tw_ne h0) (tw_ne h1)] at hf
      exact s_call (s_glob (g_sorted_list_difference hK)) (o_sorted_list_difference hK) (d_sorted_list_difference _) (s_cons (s_sorted (s_boot (g_sorted hK) v_sorted) (s_bin (s_item_list (k := ((0 : Nat) : Int)) (d := rw_ (m0.map strF)) (s_cell rfl) (s_local rfl) rfl) (s_item_list (k := ((0 : Nat) : Int)) (d := rw_ (m0.map strF)) (s_cell rfl) (s_local rfl) rfl) (op_add_rows g0)) k0) (s_cons (s_sorted (s_boot (g_sorted hK) v_sorted) (s_bin (s_item_list (k := 1 - ((0 : Nat) : Int)) (d := rw_ (m1.map strF)) (s_cell rfl) (s_bin s_int (s_local rfl) op_sub_int) rfl) (s_item_list (k := 1 - ((0 : Nat) : Int)) (d := rw_ (m1.map strF)) (s_cell rfl) (s_bin s_int (s_local rfl) op_sub_int) rfl) (op_add_rows g1)) k1) s_nil)) hf
    · have hf := fn_sld hK (xs := twF m1) (ys := twF m0) (Nat.le_trans l1 (by decide)) (Nat.le_trans l0 (by decide))
      rw [sld_alone (tw_srt _) (tw_srt _) (tw_ne h1) (tw_ne h0)] at hf
      exact s_call (s_glob (g_sorted_list_difference hK)) (o_sorted_list_difference hK) (d_sorted_list_difference _) (s_cons (s_sorted (s_boot (g_sorted hK) v_sorted) (s_bin (s_item_list (k := ((1 : Nat) : Int)) (d := rw_ (m1.map strF)) (s_cell rfl) (s_local rfl) rfl) (s_item_list (k := ((1 : Nat) : Int)) (d := rw_ (m1.map strF)) (s_cell rfl) (s_local rfl) rfl) (op_add_rows g1)) k1) (s_cons (s_sorted (s_boot (g_sorted hK) v_sorted) (s_bin (s_item_list (k := 1 - ((1 : Nat) : Int)) (d := rw_ (m0.map strF)) (s_cell rfl) (s_bin s_int (s_local rfl) op_sub_int) rfl) (s_item_list (k := 1 - ((1 : Nat) : Int)) (d := rw_ (m0.map strF)) (s_cell rfl) (s_bin s_int (s_local rfl) op_sub_int) rfl) (op_add_rows g0)) k0) s_nil)) hf
  case hd2 =>
    have hq2 : q = 0 ∨ q = 1 := by have := List.mem_range.mp hq; omega
    rcases hq2 with rfl | rfl
    · exact s_tuple (s_cons (s_item_list (k := ((0 : Nat) : Int)) (d := alD m0 m1 0) (s_cell rfl) (s_local rfl) rfl) (s_cons (s_item_list (k := 1 - ((0 : Nat) : Int)) (d := alD m0 m1 1) (s_cell rfl) (s_bin s_int (s_local rfl) op_sub_int) rfl) s_nil))
    · exact s_tuple (s_cons (s_item_list (k := ((1 : Nat) : Int)) (d := alD m0 m1 1) (s_cell rfl) (s_local rfl) rfl) (s_cons (s_item_list (k := 1 - ((1 : Nat) : Int)) (d := alD m0 m1 0) (s_cell rfl) (s_bin s_int (s_local rfl) op_sub_int) rfl) s_nil))
end
end Mine
end -- W48

section -- W49
open PySem PySem.W PyProof.Rows PySem.Calls PySem.Spec
set_option maxRecDepth 100000
set_option maxHeartbeats 1000000
namespace Mine
theorem rs_ints {h : Heap} {S : List Addr} : ∀ {vs : List Value} {ns : List Int}, IntsAre vs ns → Rs h S vs (ns.map Dat.int)
  | _, _, .nil => .nil
  | _, _, .cons n t r => .cons (.int n t) (rs_ints r)
theorem r_ints {P : Params} {h : Heap} {a : Addr} {vs : List Value} {ns : List Int} (hL : h.IsList a vs.toArray) (hI : IntsAre vs ns) (hw : Well P h (.ref a) (ofPy (PyData.list (ns.map PyData.int)))) : R h [] (.ref a) (.list (ns.map Dat.int)) := by
  generalize hx : ofPy (PyData.list (ns.map PyData.int)) = d at hw
  have hx' : WData.list (ofPys (ns.map PyData.int)) = d := hx
  cases hw with
  | @list _ us xs ho hall =>
    obtain ⟨o, ho', _, n, hd'⟩ := hL
    rw [ho] at ho'
    cases ho'
    cases (hd' : Data.seq us.toArray 0 = Data.seq vs.toArray n)
    exact .list List.not_mem_nil ho (rs_ints hI)
  | _ => cases hx'
theorem lawScope_kind (p : Params) : (fdOf 236 p).scope.kind = .function := by kernel_rfl!
theorem law_top {prog : Program} {w : World} {mg mb : Str → Option Value} {s1 : Shared} {h1 : Heap} {tk1 : Nat} {fa w10 a : Addr} {ns : List Int} {m : Str → Option Value} {n2 n1 n0 : Obj} {u2 u1 u0 : Option Value} {body : List Stmt} {nm : Str} {sc : Scope}
    {Q : Flow → Shared → Prop} {E : Value → Shared → Prop}
    (KX : (hd.heap_39 w.params).In s1.heap) (Tg : s1.heap.Ns mainGlobals mg) (Tb : s1.heap.Ns builtinsNs mb) (Tn : s1.heap.NoLimit) (Tm : ∀ x : Str, x ≠ "__name__" → mb x = bootBuiltins x)
    (hL : R s1.heap [] (.ref a) (.list (ns.map Dat.int))) (hn : ns.length ≤ 63)
    (F : Fr s1.heap s1.heap.objs.size h1 m) (hm : m "script" = some (.ref a))
    (N : News s1.heap s1.heap.objs.size h1 [(s1.heap.objs.size + 1 + 1 + 1, n2), (s1.heap.objs.size + 1 + 1, n1), (s1.heap.objs.size + 1, n0)])
    (e2 : n2.data = .cell u2) (e1 : n1.data = .cell u1) (e0 : n0.data = .cell u0)
    (hnm : nm = "law") (hsc : sc = (fdOf 236 w.params).scope) (hbd : body = bodyOf 236 w.params)
    (hq : ∀ s' : Shared, (∃ h t, s' = { s1 with heap := h, toks := t }) → (∃ m', Fr s1.heap s1.heap.objs.size s'.heap m') → Q (.ret (.bool true)) s') :
    wpAny (model prog w) (callerA.deeper (envOfC nm sc s1.heap.objs.size fa (.ref w10))) (execs body (envOfC nm sc s1.heap.objs.size fa (.ref w10))) Q E { heap := h1, gens := s1.gens, drawn := s1.drawn, toks := tk1, os := s1.os } := by
  subst hnm hsc hbd
  have hLn : s1.heap.get? s1.heap.objs.size = none := get_new _
  have hfr : ∀ b ∈ [s1.heap.objs.size], (hd.heap_39 w.params).lookup b = none := fun b hb => by
    rw [List.mem_singleton.mp hb]
    cases e : (hd.heap_39 w.params).lookup s1.heap.objs.size with
    | none => rfl
    | some o => have := KX _ _ e; rw [hLn] at this; cases this
  let C : Cx := ⟨prog, w, hd.heap_39 w.params, mg, mb, Tm, [lawEnv w.params s1.heap.objs.size fa (.ref w10)], [s1.heap.objs.size], hfr⟩
  have hcells : (lawEnv w.params s1.heap.objs.size fa (.ref w10)).cells = ([("alone", s1.heap.objs.size + 1 + 2), ("twice", s1.heap.objs.size + 1 + 1), ("made", s1.heap.objs.size + 1)] : List (Str × Addr)) := cells_236 w.params _
  have hA : Rm C 5 (callerA.deeper (lawEnv w.params s1.heap.objs.size fa (.ref w10))) := ⟨fun _ => rfl, by simp only [Around.deeper]; decide, by simp only [Around.deeper]; decide, fun _ => rfl⟩
  have fresh : ∀ b, s1.heap.objs.size ≤ b → s1.heap.get? b = none := fun b hb => by
    cases e : s1.heap.get? b with
    | none => rfl
    | some o' => exact absurd (Heap.lt_size e) (Nat.not_lt.mpr hb)
  have F0 : Fm C s1 (lawEnv w.params s1.heap.objs.size fa (.ref w10)) (lawT ns []) { s1 with heap := h1, toks := tk1 } := by
    refine ⟨⟨_, _, rfl⟩, ⟨KX, Tg, Tb, Tn⟩, .of F.keep, fun e he => ?_, hLn, lawScope_kind w.params, rfl, rfl, (fun b hb => nomatch hb), ⟨m, F.ns, fun x e hx => ?_⟩, fun _ x y c hx hy => ?_, fun _ p hp => ?_, fun p hp => ?_, fun x d hx => (nomatch hx), fun p hp => (nomatch hp), List.Pairwise.nil⟩
    · rw [List.mem_singleton.mp he]
      obtain ⟨o, es, ep, ho, hod, _⟩ := F.ns
      refine ⟨by show (fdOf 236 w.params).scope.kind ≠ _; rw [lawScope_kind]; decide, _, o, rfl, .head _, ho, by rw [hod]; rfl⟩
    · have hx' : (([("script", Dat.list (ns.map Dat.int))] : List (Str × Dat)).lookup x).map Ent.dat = some e := hx
      rw [List.lookup_cons] at hx'
      cases hb : x == ("script" : Str) with
      | true =>
        rw [hb] at hx'
        cases hx'
        rw [beq_iff_eq.mp hb]
        exact ⟨_, hm, hL.up (Up.of (C := C) F.keep)⟩
      | false => rw [hb] at hx'; cases hx'
    · rw [hcells] at hx hy
      have three : ∀ z c, List.lookup z ([("alone", s1.heap.objs.size + 1 + 2), ("twice", s1.heap.objs.size + 1 + 1), ("made", s1.heap.objs.size + 1)] : List (Str × Addr)) = some c → (z = "alone" ∧ c = s1.heap.objs.size + 1 + 2) ∨ (z = "twice" ∧ c = s1.heap.objs.size + 1 + 1) ∨ (z = "made" ∧ c = s1.heap.objs.size + 1) := by
        intro z c hz
        rw [List.lookup_cons] at hz
        cases b1 : z == ("alone" : Str) with
        | true => rw [b1] at hz; cases hz; exact .inl ⟨beq_iff_eq.mp b1, rfl⟩
        | false =>
          rw [b1] at hz
          simp only [List.lookup_cons] at hz
          cases b2 : z == ("twice" : Str) with
          | true => rw [b2] at hz; cases hz; exact .inr (.inl ⟨beq_iff_eq.mp b2, rfl⟩)
          | false =>
            rw [b2] at hz
            cases b3 : z == ("made" : Str) with
            | true => rw [b3] at hz; cases hz; exact .inr (.inr ⟨beq_iff_eq.mp b3, rfl⟩)
            | false => rw [b3] at hz; cases hz
      rcases three x c hx with ⟨r1, r2⟩ | ⟨r1, r2⟩ | ⟨r1, r2⟩ <;> rcases three y c hy with ⟨q1, q2⟩ | ⟨q1, q2⟩ | ⟨q1, q2⟩ <;> first | (rw [r1, q1]; done) | (exfalso; have q3 : (_ : Nat) = (_ : Nat) := r2.symm.trans q2; omega)
    · rw [hcells] at hp
      refine fresh p.2 ?_
      simp only [List.mem_cons, List.not_mem_nil, or_false] at hp
      rcases hp with rfl | rfl | rfl <;> (show s1.heap.objs.size ≤ _; omega)
    · rw [hcells] at hp
      simp only [List.mem_cons, List.not_mem_nil, or_false] at hp
      rcases hp with rfl | rfl | rfl
      · exact ⟨u2, n2, (N _ (.head _)).1, e2⟩
      · exact ⟨u1, n1, (N _ (.tail _ (.head _))).1, e1⟩
      · exact ⟨u0, n0, (N _ (.tail _ (.tail _ (.head _)))).1, e0⟩
  have key := (law_first (C := C) rfl s1.heap.objs.size fa (.ref w10) [] hn fun m0 m1 k0 k1 => law_rest (C := C) rfl s1.heap.objs.size fa (.ref w10) [] k0 k1).out _ hA s1 _ E F0
  refine wpK key fun f s' ⟨l, τ', hp, hf, hx, F'⟩ => ?_
  cases (hp : l = _)
  obtain ⟨v, rfl, rr⟩ := hf
  cases rr
  refine hq s' F'.same ?_
  obtain ⟨m', hn', _⟩ := F'.ns
  exact ⟨m', hn', fun b o e => F'.keep.off e (fun q => by rw [List.mem_singleton.mp q, hLn] at e; cases e), Nat.le_refl _⟩
end Mine
end -- W49

open PySem PySem.W PyProof.Rows PySem.Calls PySem.Spec
set_option maxRecDepth 100000 in
set_option maxHeartbeats 8000000 in
theorem PySem.Challenge.cw_in0255_01_holds : PySem.Challenge.rw_in0255_01.Holds := by
  refine Mine.hd ?_
  k_go0
  rename_i w s0 s1 mg mb G Y fa o pm doc ho hg KX Xm V GL T B TE TW wa wb M w10 w9 hcd ns hs hlay hLay hr hl2 w7 w6 w5 w4 w3 hL ra w1 r0 hI hrA hc1 hc2 K0 hD h1 tk1 F o2 o1 o0 c2 c1 c0 N0 X0
  clear X0 hD hcd
  refine Mine.law_top (ns := ns) KX T.g T.b T.nolimit T.builtins (Mine.r_ints hL hI w1) (by omega) F ?hm N0 c2 c1 c0 (by kernel_rfl!) (by kernel_rfl!) (by kernel_rfl!) ?hq
  case hm => rfl
  case hq =>
    rintro s' ⟨h, t, e⟩ ⟨m', F'⟩
    refine goodW_bool F' (by rw [e]; exact hg) (raisesW_false ?h1) ?h2 (by rw [e])
    case h1 => wrow_none_raised
    case h2 => wrow_post
