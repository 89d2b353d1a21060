import PyProof.Rows.All
import Wide.All
import OpenK.AllK
import Wide.FinOn
import KE.KSuper
import KE.KIsAll
import Wide.BytesRules
import KE.KFromBytes
import KE.KFmtOwn
import KE.KxPercentT
import PyProof.ZipIter
import PyProof.Draws
import PyProof.EnumMake
import PyProof.ListNew
import KE.KxBytes
import PyProof.GenArm
import PyProof.GenQ
import KE.KxDecode
import KE.KBytesCut
import OpenK.KMake
import Lean
import PySem.Challenge.RW_fb0048_01
set_option Elab.async false
set_option maxRecDepth 100000
set_option maxHeartbeats 400000000
set_option linter.all false
/-! Lg1 -/
section
open PySem PySem.Calls PyProof.Rows
open PySem.W
namespace Mine

/-- abstract values -/
inductive AV where
  | none
  | bool (b : Bool)
  | int (i : Int)
  | str (x : Str)
  | bytes (b : Array UInt8)
  | list (ds : List AV)
  | tuple (ds : List AV)
  | obj (C : Addr) (fs : List (Str × AV))
  | v (x : Value)
  | own (a : Addr)
  | exc (C : Addr) (msg : Str)
  | slice (lo hi : Option Int)

/-- a row of exceptions, each the context of the one ahead of it -/
def CtxN (g : Heap) : Nat → Value → Prop
  | 0, v => v = .none
  | n + 1, v => ∃ a o vs c, v = .ref a ∧ g.get? a = some o ∧ o.data = .fields vs ∧ vs[2]? = some c ∧ CtxN g n c
theorem CtxN.mono {g h : Heap} (k : g.StaysIn h) : ∀ {n : Nat} {v : Value}, CtxN g n v → CtxN h n v
  | 0, _, e => e
  | n + 1, _, ⟨a, o, vs, c, e1, e2, e3, e4, e5⟩ => ⟨a, o, vs, c, e1, k _ _ e2, e3, e4, CtxN.mono k e5⟩
mutual
inductive RelV (g : Heap) : Value → AV → Prop
  | none : RelV g .none .none
  | bool (b : Bool) : RelV g (.bool b) (.bool b)
  | int (i : Int) (t : Tok) : RelV g (.int i t) (.int i)
  | str (x : Str) (t : Tok) : RelV g (.str x t) (.str x)
  | bytes (b : Array UInt8) (t : Tok) : RelV g (.bytes b t) (.bytes b)
  | list {a : Addr} {vs : List Value} {ds : List AV} : g.IsList a vs.toArray → RelL g vs ds → RelV g (.ref a) (.list ds)
  | tuple {a : Addr} {vs : List Value} {ds : List AV} : g.get? a = some { cls := .type "tuple", data := .seq vs.toArray } → RelL g vs ds → RelV g (.ref a) (.tuple ds)
  | obj {x C dx : Addr} {es : List DictEntry} {n : Nat} {fs : List (Str × AV)} : g.get? x = some (instObj C dx) → g.get? dx = some (dictOf es n) → RelE g es fs → RelV g (.ref x) (.obj C fs)
  | v (x : Value) : RelV g x (.v x)
  | own (a : Addr) : RelV g (.ref a) (.own a)
  | exc {a t C : Addr} {msg : Str} {tk : Tok} {oe : Obj} {vs : Array Value} {c : Value} {n : Nat} : g.get? a = some oe → oe.cls = .ref C → oe.data = .fields vs → vs[0]? = some (.ref t) → g.TupAt t [.str msg tk] → vs[2]? = some c → CtxN g n c → RelV g (.ref a) (.exc C msg)
  | slice {a : Addr} {l u : Value} {lo hi : Option Int} : g.IsSliceOf a l u .none → IsPart l lo → IsPart u hi → RelV g (.ref a) (.slice lo hi)
inductive RelL (g : Heap) : List Value → List AV → Prop
  | nil : RelL g [] []
  | cons {v : Value} {vs : List Value} {d : AV} {ds : List AV} : RelV g v d → RelL g vs ds → RelL g (v :: vs) (d :: ds)
inductive RelE (g : Heap) : List DictEntry → List (Str × AV) → Prop
  | nil : RelE g [] []
  | cons {hs : Int} {x : Str} {t : Tok} {v : Value} {es : List DictEntry} {d : AV} {fs : List (Str × AV)} : RelV g v d → RelE g es fs → RelE g (⟨hs, .str x t, v⟩ :: es) ((x, d) :: fs)
end

theorem tup_is {g : Heap} {a : Addr} {vs : Array Value} (h : g.get? a = some { cls := .type "tuple", data := .seq vs }) : IsTup g a vs := ⟨_, h, rfl, _, rfl⟩
theorem IsList.mono {g h : Heap} (k : g.StaysIn h) {a : Addr} {vs : Array Value} (x : g.IsList a vs) : h.IsList a vs := let ⟨o, ho, r⟩ := x; ⟨o, k _ _ ho, r⟩

mutual
theorem RelV.mono {g h : Heap} (k : g.StaysIn h) : ∀ {v : Value} {d : AV}, RelV g v d → RelV h v d
  | _, _, .none => .none
  | _, _, .bool b => .bool b
  | _, _, .int i t => .int i t
  | _, _, .str x t => .str x t
  | _, _, .bytes b t => .bytes b t
  | _, _, .list a r => .list (IsList.mono k a) (RelL.mono k r)
  | _, _, .tuple a r => .tuple (k _ _ a) (RelL.mono k r)
  | _, _, .obj a b r => .obj (k _ _ a) (k _ _ b) (RelE.mono k r)
  | _, _, .v x => .v x
  | _, _, .own a => .own a
  | _, _, .exc a b c d e f h => .exc (k _ _ a) b c d (e.keeps k) f (h.mono k)
  | _, _, .slice ⟨o, ho, r⟩ b c => .slice ⟨o, k _ _ ho, r⟩ b c
theorem RelL.mono {g h : Heap} (k : g.StaysIn h) : ∀ {vs : List Value} {ds : List AV}, RelL g vs ds → RelL h vs ds
  | _, _, .nil => .nil
  | _, _, .cons a r => .cons (RelV.mono k a) (RelL.mono k r)
theorem RelE.mono {g h : Heap} (k : g.StaysIn h) : ∀ {es : List DictEntry} {fs : List (Str × AV)}, RelE g es fs → RelE h es fs
  | _, _, .nil => .nil
  | _, _, .cons a r => .cons (RelV.mono k a) (RelE.mono k r)
end

theorem RelL.length {g : Heap} : ∀ {vs : List Value} {ds : List AV}, RelL g vs ds → vs.length = ds.length
  | _, _, .nil => rfl
  | _, _, .cons _ r => by rw [List.length_cons, List.length_cons, RelL.length r]
theorem RelL.append {g : Heap} : ∀ {vs ws : List Value} {ds es : List AV}, RelL g vs ds → RelL g ws es → RelL g (vs ++ ws) (ds ++ es)
  | _, _, _, _, .nil, k => k
  | _, _, _, _, .cons a r, k => .cons a (RelL.append r k)
theorem RelL.get {g : Heap} : ∀ {vs : List Value} {ds : List AV}, RelL g vs ds → ∀ {k : Nat} {d : AV}, ds[k]? = some d → ∃ v, vs[k]? = some v ∧ RelV g v d
  | _, _, .nil, _, _, e => by simp at e
  | _, _, .cons a r, 0, _, e => by simp at e; subst e; exact ⟨_, rfl, a⟩
  | _, _, .cons a r, k + 1, _, e => by simpa using RelL.get r (k := k) (by simpa using e)

/-- objects that are still being changed, known to one activation -/
inductive OV where
  | list (ds : List AV)
  | obj (C dx : Addr) (fs : List (Str × AV))
  | exc (C dx : Addr) (msg : Option Str) (fs : List (Str × AV))
  | exc0 (C : Addr) (msg : Option Str)
  | ptab (c : Addr)
def OV.hid (a : Addr) : OV → List Addr
  | .list _ => [a]
  | .obj _ dx _ => [a, dx]
  | .exc _ dx _ _ => [a, dx]
  | .exc0 _ _ => [a]
  | .ptab _ => [a]
/-- the words of an exception that is being made -/
def MsgAt (g : Heap) (v : Value) : Option Str → Prop
  | none => True
  | some m => ∃ t tk, v = .ref t ∧ g.TupAt t [.str m tk]
theorem MsgAt.mono {g h : Heap} (k : g.StaysIn h) {v : Value} {m : Option Str} (x : MsgAt g v m) : MsgAt h v m := by
  cases m with
  | none => trivial
  | some m => obtain ⟨t, tk, e, q⟩ := x; exact ⟨t, tk, e, q.keeps k⟩
def hid : List (Addr × OV) → List Addr
  | [] => []
  | p :: r => p.2.hid p.1 ++ hid r
def OwnL (h : Heap) (a : Addr) (vs : List Value) : Prop := ∃ o, h.get? a = some o ∧ o.cls = .type "list" ∧ o.dict = none ∧ ∃ n, o.data = .seq vs.toArray n
theorem OwnL.isList {h : Heap} {a : Addr} {vs : List Value} (x : OwnL h a vs) : h.IsList a vs.toArray := let ⟨o, ho, c, _, d⟩ := x; ⟨o, ho, c, d⟩
theorem OwnL.mono {g h : Heap} (k : g.StaysIn h) {a : Addr} {vs : List Value} (x : OwnL g a vs) : OwnL h a vs := let ⟨o, ho, r⟩ := x; ⟨o, k _ _ ho, r⟩
/-- the half of a code object's record that is not its table of places -/
def CodeHalf (g : Heap) (c P : Addr) : Prop :=
  ∃ o vs file tf flags tg inF text tt, g.get? c = some o ∧ o.data = .fields vs ∧ vs.getD 11 .none = .ref P ∧ vs.getD 18 .none = .str file tf ∧ vs.getD 7 .none = .int flags tg ∧ vs.getD 9 .none = .bool inF ∧ vs.getD 10 .none = .int text tt ∧ o.cls = .type "code" ∧ vs[11]? = some (.ref P)
theorem CodeHalf.mono {g h : Heap} (k : g.StaysIn h) {c P : Addr} (x : CodeHalf g c P) : CodeHalf h c P := by
  obtain ⟨o, vs, file, tf, flags, tg, inF, text, tt, ho, r⟩ := x
  exact ⟨o, vs, file, tf, flags, tg, inF, text, tt, k _ _ ho, r⟩
inductive OvAt (g h : Heap) (a : Addr) : OV → Prop
  | list {vs : List Value} {ds : List AV} : OwnL h a vs → RelL g vs ds → OvAt g h a (.list ds)
  | obj {C dx : Addr} {es : List DictEntry} {n : Nat} {fs : List (Str × AV)} : h.get? a = some (instObj C dx) → h.get? dx = some (dictOf es n) → RelE g es fs → OvAt g h a (.obj C dx fs)
  | exc {C dx : Addr} {o : Obj} {vs : Array Value} {es : List DictEntry} {n : Nat} {v : Value} {m : Option Str} {fs : List (Str × AV)} : h.get? a = some o → o.cls = .ref C → o.dict = some dx → o.data = .fields vs → vs[0]? = some v → vs[1]? = some .none → vs[2]? = some .none → MsgAt g v m → h.get? dx = some (dictOf es n) → RelE g es fs → OvAt g h a (.exc C dx m fs)
  | exc0 {C : Addr} {o : Obj} {vs : Array Value} {v : Value} {m : Option Str} : h.get? a = some o → o.cls = .ref C → o.dict = none → o.data = .fields vs → vs[0]? = some v → vs[1]? = some .none → vs[2]? = some .none → MsgAt g v m → OvAt g h a (.exc0 C m)
  | ptab {c : Addr} {op : Obj} {ps : Array Value} : CodeHalf g c a → h.get? a = some op → op = { cls := .none, data := .fields ps } → TriplesOk ps.toList → OvAt g h a (.ptab c)
structure OwnOk (g h : Heap) (own : List (Addr × OV)) : Prop where
  at_ : ∀ p ∈ own, OvAt g h p.1 p.2
  hide : ∀ b ∈ hid own, g.get? b = none
  nd : (hid own).Nodup

theorem OwnOk.there {g h : Heap} {own : List (Addr × OV)} (x : OwnOk g h own) {b : Addr} (hb : b ∈ hid own) : ∃ o, h.get? b = some o := by
  have : ∀ own : List (Addr × OV), (∀ p ∈ own, OvAt g h p.1 p.2) → b ∈ hid own → ∃ o, h.get? b = some o := by
    intro own
    induction own with
    | nil => intro _ h; cases h
    | cons p l ih =>
      intro ha hm
      rcases List.mem_append.mp hm with hm | hm
      · have := ha p (.head _)
        obtain ⟨a, ov⟩ := p
        cases this with
        | list hl _ =>
          obtain ⟨z, hz, _⟩ := hl
          rw [List.mem_singleton.mp hm]; exact ⟨_, hz⟩
        | obj h1 h2 _ =>
          rcases List.mem_cons.mp hm with hm | hm
          · rw [hm]; exact ⟨_, h1⟩
          · rw [List.mem_singleton.mp hm]; exact ⟨_, h2⟩
        | exc h1 _ _ _ _ _ _ _ h2 _ =>
          rcases List.mem_cons.mp hm with hm | hm
          · rw [hm]; exact ⟨_, h1⟩
          · rw [List.mem_singleton.mp hm]; exact ⟨_, h2⟩
        | exc0 h1 _ _ _ _ _ _ _ => rw [List.mem_singleton.mp hm]; exact ⟨_, h1⟩
        | ptab _ h1 _ _ => rw [List.mem_singleton.mp hm]; exact ⟨_, h1⟩
      · exact ih (fun q hq => ha q (.tail _ hq)) hm
  exact this own x.at_ hb

/-- what is fixed for the whole proof: the world, the heap at the law's call, the os -/
structure Gb where
  prog : Program
  w : World
  base : Heap
  os : OsState
  K : Frag
structure GOk (G : Gb) : Prop where
  K : G.K.In G.base
  nolimit : G.base.NoLimit
  glob : ∃ mg, G.base.Ns mainGlobals mg
  blt : ∃ mb, G.base.Ns builtinsNs mb ∧ ∀ x : Str, x ≠ "__name__" → mb x = bootBuiltins x

/-- how deep an activation may lie, and whether no exception is being handled about it -/
structure Lv where
  n : Nat
  q : Bool
def Lv.up (D : Lv) : Lv := ⟨D.n + 1, D.q⟩
def Lv.le (a b : Lv) : Prop := a.n ≤ b.n ∧ (b.q = true → a.q = true)
/-- an exception that is handled about an activation is one of the frozen ones -/
def HdOk (A : Around) (g : Heap) : Prop := ∀ v, A.handled = some v → ∃ n, CtxN g (n + 1) v
theorem HdOk.mono {A : Around} {g h : Heap} (x : HdOk A g) (k : g.StaysIn h) : HdOk A h := fun v e => let ⟨n, c⟩ := x v e; ⟨n, c.mono k⟩
/-- what is fixed for the text of one function -/
structure St where
  qual : Str
  scope : Scope
  fn : Addr
  code : Value
  names : List Str
  D : Lv
  comp : Bool := false
/-- the run-time part of an activation -/
structure Rt where
  A : Around
  L : Addr
  cl : List (Str × Addr)
  outer : List Env
  func : Option Addr
  fr : Option Addr
abbrev envR (S : St) (r : Rt) : Env := envX S.qual S.scope r.L S.fn S.code r.cl
/-- the env that its texts see -/
abbrev envE (S : St) (r : Rt) : Env := { scope := S.scope, locals := r.L, globals := mainGlobals, cells := r.cl, qual := S.qual ++ ".<locals>.", func := r.func, code := S.code, frame := r.fr, builtins := builtinsNs }
/-- the frames that stand -/
def stk (S : St) (r : Rt) : List Env := if S.comp then r.outer else envR S r :: r.outer
def frs (l : List Env) : List Addr := l.filterMap (·.frame)
structure AS where
  loc : List (Option AV)
  own : List (Addr × OV)

/-- a name's value, where the scope says it lies -/
def NameIs (g : Heap) (S : St) (r : Rt) (m : Str → Option Value) (x : Str) (v : Value) : Prop :=
  (S.scope.names.lookup x = some .local ∧ m x = some v) ∨
  ((S.scope.names.lookup x = some .cell ∨ S.scope.names.lookup x = some .free) ∧ ∃ c, r.cl.lookup x = some c ∧ g.IsCell c (some v))
def LocOk (g : Heap) (S : St) (r : Rt) (m : Str → Option Value) (loc : List (Option AV)) : Prop :=
  ∀ (i : Nat) (x : Str) (a : AV), S.names[i]? = some x → loc[i]? = some (some a) → ∃ v, NameIs g S r m x v ∧ RelV g v a

structure Inv (G : Gb) (S : St) (r : Rt) (g : Heap) (σ : AS) (s : Shared) : Prop where
  ok : GOk G
  frames : r.A.frames = some (stk S r)
  ev : S.comp = false → r.func = some S.fn ∧ r.fr = some r.L
  stay : g.StaysIn s.heap
  base : G.base.StaysIn g
  ff : s.heap.FunFrames g (envR S r :: r.outer)
  loc : ∃ m, s.heap.Ns r.L m ∧ LocOk g S r m σ.loc
  own : OwnOk g s.heap σ.own
  apart : ∀ b ∈ hid σ.own, b ∉ frs (envR S r :: r.outer)
  lone : r.L ∉ frs r.outer
  bare : AllBare s.gens
  os : s.os = G.os
  dep : r.A.depth ≤ S.D.n
  un : r.A.units ≤ 10 * S.D.n
  hd : S.D.q = true → r.A.handled = none
  hx : HdOk r.A g
  fun_ : S.scope.kind = .function
  nd : S.names.Nodup

/-- how a state goes on: g grows by new objects alone; all that is not hidden stays -/
structure Post (G : Gb) (S : St) (r : Rt) (g : Heap) (σ : AS) (s : Shared) (g' : Heap) (σ' : AS) (s' : Shared) : Prop where
  inv : Inv G S r g' σ' s'
  grow : g.StaysIn g'
  only : ∀ b o, s.heap.get? b = some o → b ∉ hid σ.own → g.get? b = none → g'.get? b = none
  ext : ∀ b o, s.heap.get? b = some o → b ∉ frs (envR S r :: r.outer) → b ∉ hid σ.own → s'.heap.get? b = some o
  fr : ∀ b ∈ frs r.outer, ∀ o, s.heap.get? b = some o → ∃ sl, s'.heap.get? b = some { o with slots := sl }
  ownx : ∀ b ∈ hid σ'.own, b ∈ hid σ.own ∨ s.heap.get? b = none
  gens : ∀ (i : Nat) (x : GenState), s.gens[i]? = some x → s'.gens[i]? = some x
  live : ∀ b ∈ hid σ.own, ∃ o, s'.heap.get? b = some o

theorem Inv.envE {G : Gb} {S : St} {r : Rt} {g : Heap} {σ : AS} {s : Shared} (I : Inv G S r g σ s) (hc : S.comp = false) : Mine.envE S r = envR S r := by
  obtain ⟨h1, h2⟩ := I.ev hc
  unfold Mine.envE envR
  rw [h1, h2]
theorem Post.refl {G : Gb} {S : St} {r : Rt} {g : Heap} {σ : AS} {s : Shared} (I : Inv G S r g σ s) : Post G S r g σ s g σ s :=
  ⟨I, fun _ _ e => e, fun _ _ _ _ e => e, fun _ _ e _ _ => e, fun _ _ o e => ⟨o.slots, e⟩, fun _ h => .inl h, fun _ _ e => e, fun _ hb => I.own.there hb⟩

theorem Post.there {G : Gb} {S : St} {r : Rt} {g g' : Heap} {σ σ' : AS} {s s' : Shared} (x : Post G S r g σ s g' σ' s') {b : Addr} {o : Obj} (e : s.heap.get? b = some o) : ∃ o', s'.heap.get? b = some o' := by
  by_cases n : b ∈ hid σ.own
  · exact x.live b n
  · by_cases hf : b ∈ frs (envR S r :: r.outer)
    · obtain ⟨_, o', ho', _⟩ := x.inv.ff.mem hf
      exact ⟨o', ho'⟩
    · exact ⟨o, x.ext b o e hf n⟩
theorem Post.back {G : Gb} {S : St} {r : Rt} {g g' : Heap} {σ σ' : AS} {s s' : Shared} (x : Post G S r g σ s g' σ' s') {b : Addr} (e : s'.heap.get? b = none) : s.heap.get? b = none := by
  cases q : s.heap.get? b with
  | none => rfl
  | some o => obtain ⟨o', ho'⟩ := x.there q; rw [ho'] at e; cases e
theorem Post.trans {G : Gb} {S : St} {r : Rt} {g g' g'' : Heap} {σ σ' σ'' : AS} {s s' s'' : Shared} (x : Post G S r g σ s g' σ' s') (y : Post G S r g' σ' s' g'' σ'' s'') : Post G S r g σ s g'' σ'' s'' := by
  have back : ∀ b o, s.heap.get? b = some o → b ∉ hid σ.own → b ∉ hid σ'.own := fun b o e n hm => by
    rcases x.ownx b hm with h | h
    · exact n h
    · rw [h] at e; cases e
  refine ⟨y.inv, fun b o e => y.grow _ _ (x.grow _ _ e), fun b o e n q => ?_, fun b o e n1 n2 => y.ext b o (x.ext b o e n1 n2) n1 (back b o e n2), fun b hb o e => ?_, fun b hb => ?_, fun i z e => y.gens _ _ (x.gens _ _ e), fun b hb => let ⟨_, ho⟩ := x.live b hb; y.there ho⟩
  · obtain ⟨o', ho'⟩ := x.there e
    exact y.only b o' ho' (back b o e n) (x.only b o e n q)
  · obtain ⟨sl, e1⟩ := x.fr b hb o e
    obtain ⟨sl2, e2⟩ := y.fr b hb _ e1
    exact ⟨sl2, e2⟩
  · rcases y.ownx b hb with h | h
    · exact x.ownx b h
    · by_cases n : b ∈ hid σ.own
      · exact .inl n
      · refine .inr ?_
        cases q : s.heap.get? b with
        | none => rfl
        | some o =>
          obtain ⟨o', ho'⟩ := x.there q
          rw [h] at ho'; cases ho'

/-- the part of a heap at the addresses that P takes -/
def pick (h : Heap) (P : Addr → Bool) : Heap := ⟨h.objs.mapIdx fun i o => if P i then o else { cls := .none, data := .freed }, h.life⟩
theorem pick_get (h : Heap) (P : Addr → Bool) (b : Addr) : (pick h P).get? b = if P b then h.get? b else none := by
  unfold pick Heap.get?
  simp only [Array.getElem?_mapIdx]
  cases e : h.objs[b]? with
  | none => simp
  | some o => by_cases q : P b = true <;> simp [q]
/-- g and the objects of h' at N -/
def gplus (g h' : Heap) (N : List Addr) : Heap := pick h' fun b => (g.get? b).isSome || N.contains b
section
variable {g h' : Heap} {N : List Addr}
theorem gplus_get (b : Addr) : (gplus g h' N).get? b = if (g.get? b).isSome || N.contains b then h'.get? b else none := pick_get ..
theorem gplus_stay : (gplus g h' N).StaysIn h' := fun b o e => by
  rw [gplus_get] at e
  split at e
  · exact e
  · cases e
theorem gplus_grow (k : g.StaysIn h') : g.StaysIn (gplus g h' N) := fun b o e => by
  rw [gplus_get, e]
  simpa using k b o e
theorem gplus_new {b : Addr} {o : Obj} (hb : b ∈ N) (e : h'.get? b = some o) : (gplus g h' N).get? b = some o := by
  rw [gplus_get, if_pos (by simp [hb]), e]
theorem gplus_none {b : Addr} (e : g.get? b = none) (hb : b ∉ N) : (gplus g h' N).get? b = none := by
  rw [gplus_get, e, if_neg (by simp [hb])]
end

theorem funFrames_alive {g g' h h' : Heap} {l : List Env} (hl : h.FunFrames g l) (hg : ∀ b ∈ frs l, g'.get? b = none) (k : ∀ b o, b ∈ frs l → h.get? b = some o → (∀ vs, o.data ≠ .fields vs) → ∃ o', h'.get? b = some o' ∧ ∀ vs, o'.data ≠ .fields vs) : h'.FunFrames g' l := by
  induction l with
  | nil => trivial
  | cons env rest ih =>
    obtain ⟨hk, ⟨L, o, hf, hn, ho, hd⟩, hr⟩ := hl
    have e : frs (env :: rest) = L :: frs rest := by unfold frs; rw [List.filterMap_cons, hf]
    obtain ⟨o', ho', hd'⟩ := k L o (by rw [e]; exact .head _) ho hd
    exact ⟨hk, ⟨L, o', hf, hg L (by rw [e]; exact .head _), ho', hd'⟩, ih hr (fun b hb => hg b (by rw [e]; exact .tail _ hb)) fun b o hb => k b o (by rw [e]; exact .tail _ hb)⟩

structure AX where
  C : Addr
  msg : Str
/-- an exception on its way: made here, or come from below, or held by this frame -/
def ThrAt (fl : Option Addr) (g h₀ h : Heap) (own : List (Addr × OV)) (e : Addr) (x : AX) : Prop :=
  g.get? e = none ∧ h₀.get? e = none ∧ e ∉ hid own ∧ ∃ t tk, g.TupAt t [.str x.msg tk] ∧ ∃ oe vs, h.get? e = some oe ∧ oe.cls = .ref x.C ∧ oe.data = .fields vs ∧ vs[0]? = some (.ref t) ∧ (∃ c n, vs[2]? = some c ∧ CtxN g n c) ∧
    (vs[1]? = some .none ∨ ∃ T oT ts, vs[1]? = some (.ref T) ∧ g.get? T = none ∧ h₀.get? T = none ∧ T ∉ hid own ∧ T ≠ e ∧ h.get? T = some oT ∧ oT.data = .fields ts ∧ (ts[3]? = some .none ∨ ∃ L, fl = some L ∧ ts[3]? = some (rawInt L)))
theorem ThrAt.back {fl : Option Addr} {g h₀ h₁ h : Heap} {own : List (Addr × OV)} {e : Addr} {x : AX} (T : ThrAt fl g h₁ h own e x) (k : ∀ b, h₁.get? b = none → h₀.get? b = none) : ThrAt fl g h₀ h own e x := by
  obtain ⟨a1, a2, a0, t, tk, a3, oe, vs, b1, b2, b3, b4, b6, b5⟩ := T
  refine ⟨a1, k _ a2, a0, t, tk, a3, oe, vs, b1, b2, b3, b4, b6, ?_⟩
  rcases b5 with b5 | ⟨T, oT, ts, c1, c2, c3, c⟩
  · exact .inl b5
  · exact .inr ⟨T, oT, ts, c1, c2, k _ c3, c⟩
theorem ThrAt.wider {fl : Option Addr} {g h₀ h : Heap} {own own' : List (Addr × OV)} {e : Addr} {x : AX} (T : ThrAt fl g h₀ h own e x) (k : ∀ b, h₀.get? b = none → b ∉ hid own → b ∉ hid own') : ThrAt fl g h₀ h own' e x := by
  obtain ⟨a1, a2, a0, t, tk, a3, oe, vs, b1, b2, b3, b4, b6, b5⟩ := T
  refine ⟨a1, a2, k _ a2 a0, t, tk, a3, oe, vs, b1, b2, b3, b4, b6, ?_⟩
  rcases b5 with b5 | ⟨T, oT, ts, c1, c2, c3, c4, c⟩
  · exact .inl b5
  · exact .inr ⟨T, oT, ts, c1, c2, c3, k _ c3 c4, c⟩
theorem ThrAt.flight {fl : Option Addr} {g h₀ h : Heap} {own : List (Addr × OV)} {e : Addr} {x : AX} (T : ThrAt none g h₀ h own e x) : ThrAt fl g h₀ h own e x := by
  obtain ⟨a1, a2, a0, t, tk, a3, oe, vs, b1, b2, b3, b4, b6, b5⟩ := T
  refine ⟨a1, a2, a0, t, tk, a3, oe, vs, b1, b2, b3, b4, b6, ?_⟩
  rcases b5 with b5 | ⟨T, oT, ts, c1, c2, c3, c4, c5, c6, c7, c⟩
  · exact .inl b5
  · refine .inr ⟨T, oT, ts, c1, c2, c3, c4, c5, c6, c7, .inl ?_⟩
    rcases c with c | ⟨L, e, _⟩
    · exact c
    · cases e

section
variable (G : Gb) (S : St) (r : Rt) (g : Heap) (σ : AS) (s : Shared)
/-- what a tree does, from a state on -/
def Tr {α β : Type} (t : Sem α) (rel : Heap → α → β → Prop) (k : β → AS → Prop) (kx : AX → AS → Prop) : Prop :=
  ∀ (Q : α → Shared → Prop) (E : Value → Shared → Prop),
    (∀ v s' g' a σ', Post G S r g σ s g' σ' s' → rel g' v a → k a σ' → Q v s') →
    (∀ e s' g' x σ', Post G S r g σ s g' σ' s' → ThrAt (some r.L) g' s.heap s'.heap σ'.own e x → kx x σ' → E (.ref e) s') →
    wpAny (model G.prog G.w) r.A t Q E s
end

/-- a tree that hangs on the activation, from every state of the shape -/
def TrA (G : Gb) (S : St) (σ : AS) {α β : Type} (t : Rt → Sem α) (rel : Heap → α → β → Prop) (k : β → AS → Prop) (kx : AX → AS → Prop) : Prop :=
  ∀ r g s, Inv G S r g σ s → Tr G S r g σ s (t r) rel k kx

abbrev EV (G : Gb) (S : St) (σ : AS) (e : Expr) (k : AV → AS → Prop) (kx : AX → AS → Prop) : Prop := TrA G S σ (fun r => eval e (envE S r)) RelV k kx
abbrev TV (G : Gb) (S : St) (σ : AS) (e : Expr) (k : Bool → AS → Prop) (kx : AX → AS → Prop) : Prop := TrA G S σ (fun r => isTrue e (envE S r) (eval e (envE S r))) (fun _ v a => v = a) k kx
abbrev EL (G : Gb) (S : St) (σ : AS) (pos : Pos) (es : List Expr) (k : List AV → AS → Prop) (kx : AX → AS → Prop) : Prop := TrA G S σ (fun r => spliced (backTo pos (starEach es (envE S r)))) RelL k kx
inductive AF where
  | next | brk | cont
  | ret (a : AV)
inductive RelF (g : Heap) : Flow → AF → Prop
  | next : RelF g .next .next
  | brk : RelF g .brk .brk
  | cont : RelF g .cont .cont
  | ret {v : Value} {a : AV} : RelV g v a → RelF g (.ret v) (.ret a)
abbrev EX (G : Gb) (S : St) (σ : AS) (b : List Stmt) (k : AF → AS → Prop) (kx : AX → AS → Prop) : Prop := TrA G S σ (fun r => execs b (envE S r)) RelF k kx
abbrev ES (G : Gb) (S : St) (σ : AS) (b : Stmt) (k : AF → AS → Prop) (kx : AX → AS → Prop) : Prop := TrA G S σ (fun r => exec b (envE S r)) RelF k kx
/-- an operation upon values -/
abbrev OP1 (G : Gb) (S : St) (σ : AS) {α β : Type} (t : Value → Sem α) (a : AV) (rel : Heap → α → β → Prop) (k : β → AS → Prop) (kx : AX → AS → Prop) : Prop :=
  ∀ r g s, Inv G S r g σ s → ∀ va, RelV g va a → Tr G S r g σ s (t va) rel k kx
abbrev OP2 (G : Gb) (S : St) (σ : AS) {α β : Type} (t : Value → Value → Sem α) (a b : AV) (rel : Heap → α → β → Prop) (k : β → AS → Prop) (kx : AX → AS → Prop) : Prop :=
  ∀ r g s, Inv G S r g σ s → ∀ va vb, RelV g va a → RelV g vb b → Tr G S r g σ s (t va vb) rel k kx
abbrev BO (G : Gb) (S : St) (σ : AS) (op : Operator) (a b : AV) (k : AV → AS → Prop) (kx : AX → AS → Prop) : Prop := OP2 G S σ (binaryOp op) a b RelV k kx
abbrev CO (G : Gb) (S : St) (σ : AS) (op : CmpOp) (a b : AV) (k : AV → AS → Prop) (kx : AX → AS → Prop) : Prop := OP2 G S σ (compareOp op) a b RelV k kx
abbrev TU (G : Gb) (S : St) (σ : AS) (a : AV) (k : Bool → AS → Prop) (kx : AX → AS → Prop) : Prop := OP1 G S σ truthy a (fun _ v a => v = a) k kx
abbrev UO (G : Gb) (S : St) (σ : AS) (op : UnaryOp) (a : AV) (k : AV → AS → Prop) (kx : AX → AS → Prop) : Prop := OP1 G S σ (unaryOp op) a RelV k kx

section
variable {G : Gb} {S : St} {r : Rt} {g : Heap} {σ : AS} {s : Shared} {k : AV → AS → Prop} {kx : AX → AS → Prop}

theorem Inv.toks (I : Inv G S r g σ s) (t : Nat) : Inv G S r g σ { s with toks := t } := ⟨I.ok, I.frames, I.ev, I.stay, I.base, I.ff, I.loc, I.own, I.apart, I.lone, I.bare, I.os, I.dep, I.un, I.hd, I.hx, I.fun_, I.nd⟩
theorem Post.toks (I : Inv G S r g σ s) (t : Nat) : Post G S r g σ s g σ { s with toks := t } :=
  ⟨I.toks t, fun _ _ e => e, fun _ _ _ _ e => e, fun _ _ e _ _ => e, fun _ _ o e => ⟨o.slots, e⟩, fun _ h => .inl h, fun _ _ e => e, fun _ hb => I.own.there hb⟩

/-- two trees, one behind the other -/
theorem Tr.bind {α β γ δ : Type} {t : Sem α} {f : α → Sem γ} {rel : Heap → α → β → Prop} {rel' : Heap → γ → δ → Prop} {k : β → AS → Prop} {k' : δ → AS → Prop}
    (h : Tr G S r g σ s t rel k kx) (hf : ∀ v s' g' a σ', Post G S r g σ s g' σ' s' → rel g' v a → k a σ' → Tr G S r g' σ' s' (f v) rel' k' kx) : Tr G S r g σ s (t >>= f) rel' k' kx := by
  intro Q E hk hx
  refine wpAny_bind (h _ _ (fun v s' g' a σ' P R q => ?_) hx)
  exact hf v s' g' a σ' P R q _ _ (fun v2 s2 g2 a2 σ2 P2 => hk v2 s2 g2 a2 σ2 (P.trans P2)) fun e s2 g2 x σ2 P2 T => hx e s2 g2 x σ2 (P.trans P2) (T.back fun _ => P.back)
theorem Tr.mono {α β : Type} {t : Sem α} {rel : Heap → α → β → Prop} {k k' : β → AS → Prop} {kx' : AX → AS → Prop} (h : Tr G S r g σ s t rel k kx) (hk : ∀ a σ', k a σ' → k' a σ') (hx : ∀ x σ', kx x σ' → kx' x σ') :
    Tr G S r g σ s t rel k' kx' := fun Q E q1 q2 => h Q E (fun v s' g' a σ' P R q => q1 v s' g' a σ' P R (hk _ _ q)) fun e s' g' x σ' P T q => q2 e s' g' x σ' P T (hx _ _ q)
theorem Tr.from {α β : Type} {t : Sem α} {rel : Heap → α → β → Prop} {k : β → AS → Prop} {g₀ : Heap} {σ₀ : AS} {s₀ : Shared} {Q : α → Shared → Prop} {E : Value → Shared → Prop} (P : Post G S r g₀ σ₀ s₀ g σ s) (h : Tr G S r g σ s t rel k kx)
    (hk : ∀ v s' g' a σ', Post G S r g₀ σ₀ s₀ g' σ' s' → rel g' v a → k a σ' → Q v s') (hx : ∀ e s' g' x σ', Post G S r g₀ σ₀ s₀ g' σ' s' → ThrAt (some r.L) g' s₀.heap s'.heap σ'.own e x → kx x σ' → E (.ref e) s') :
    wpAny (model G.prog G.w) r.A t Q E s := h Q E (fun v s' g' a σ' P' => hk v s' g' a σ' (P.trans P')) fun e s' g' x σ' P' T => hx e s' g' x σ' (P.trans P') (T.back fun _ => P.back)

/-- all that stood stays; the new objects at N are never changed from now on -/
theorem Post.grown (I : Inv G S r g σ s) {h' : Heap} (st' : ∀ b o, s.heap.get? b = some o → h'.get? b = some o) (N : List Addr) (hN : ∀ b ∈ N, s.heap.get? b = none) (t : Nat) :
    Post G S r g σ s (gplus g h' N) σ { s with heap := h', toks := t } := by
  have st : g.StaysIn h' := fun b x e => st' b x (I.stay b x e)
  have old : ∀ b o, s.heap.get? b = some o → g.get? b = none → (gplus g h' N).get? b = none := fun b o e q => gplus_none q fun h => by rw [hN b h] at e; cases e
  refine ⟨⟨I.ok, I.frames, I.ev, gplus_stay, fun b x e => gplus_grow st b x (I.base b x e), ?_, ?_, ?_, I.apart, I.lone, I.bare, I.os, I.dep, I.un, I.hd, I.hx.mono (gplus_grow st), I.fun_, I.nd⟩, gplus_grow st, fun b o e _ q => old b o e q, fun b x e _ _ => st' _ _ e,
    fun b _ x e => ⟨x.slots, st' _ _ e⟩, fun b hb => .inl hb, fun _ _ e => e, fun b hb => let ⟨_, ho⟩ := I.own.there hb; ⟨_, st' _ _ ho⟩⟩
  · refine funFrames_alive I.ff (fun b hb => ?_) fun b o _ e hd => ⟨o, st' _ _ e, hd⟩
    obtain ⟨q, o, ho, _⟩ := I.ff.mem hb
    exact old b o ho q
  · obtain ⟨m, hm, hl⟩ := I.loc
    refine ⟨m, hm.keeps st', fun i x a h1 h2 => ?_⟩
    obtain ⟨v, hv, hr⟩ := hl i x a h1 h2
    refine ⟨v, ?_, hr.mono (gplus_grow st)⟩
    rcases hv with h | ⟨h, c, hc, ⟨oc, hoc, hd⟩⟩
    · exact .inl h
    · exact .inr ⟨h, c, hc, oc, gplus_grow st _ _ hoc, hd⟩
  · refine ⟨fun ⟨pa, po⟩ hp => ?_, fun b hb => ?_, I.own.nd⟩
    · have z := I.own.at_ _ hp
      dsimp only at z ⊢
      cases z with
      | list a b => exact .list (a.mono st') (b.mono (gplus_grow st))
      | obj a b c => exact .obj (st' _ _ a) (st' _ _ b) (c.mono (gplus_grow st))
      | exc a b c d e f f2 m i j => exact .exc (st' _ _ a) b c d e f f2 (m.mono (gplus_grow st)) (st' _ _ i) (j.mono (gplus_grow st))
      | exc0 a b c d e f f2 m => exact .exc0 (st' _ _ a) b c d e f f2 (m.mono (gplus_grow st))
      | ptab a b c d => exact .ptab (a.mono (gplus_grow st)) (st' _ _ b) c d
    · obtain ⟨o, ho⟩ := I.own.there hb
      exact old b o ho (I.own.hide b hb)
theorem Post.kept (I : Inv G S r g σ s) {h' : Heap} (st' : ∀ b o, s.heap.get? b = some o → h'.get? b = some o) (t : Nat) : ∃ g', Post G S r g σ s g' σ { s with heap := h', toks := t } :=
  ⟨_, Post.grown I st' [] (fun _ h => nomatch h) t⟩
/-- a new object, from now on never changed -/
theorem Post.alloc (I : Inv G S r g σ s) (o : Obj) (hf : o.isFreed = false) (t : Nat) :
    ∃ g', Post G S r g σ s g' σ { s with heap := s.heap.push o, toks := t } ∧ g'.get? s.heap.objs.size = some o := by
  refine ⟨_, Post.grown I (h' := s.heap.push o) (fun b x e => Heap.get?_push_of_some _ e) [s.heap.objs.size] (fun b hb => ?_) t, gplus_new (.head _) (Heap.get?_push_size _ hf)⟩
  rw [List.mem_singleton.mp hb]
  cases q : s.heap.get? s.heap.objs.size with
  | none => rfl
  | some o => exact absurd (Heap.lt_size q) (Nat.lt_irrefl _)
end
end Mine
end
/-! Lg2 -/
section
open PySem PySem.Calls PyProof.Rows
open PySem.W
namespace Mine
section
variable {G : Gb} {S : St} {r : Rt} {g : Heap} {σ : AS} {s : Shared} {k : AV → AS → Prop} {kx : AX → AS → Prop} {kb : Bool → AS → Prop} {kl : List AV → AS → Prop} {kf : AF → AS → Prop}

theorem Tr.pure {α β : Type} {v : α} {a : β} {rel : Heap → α → β → Prop} {k : β → AS → Prop} (I : Inv G S r g σ s) (R : rel g v a) (h : k a σ) : Tr G S r g σ s (Pure.pure v) rel k kx :=
  fun _ _ hk _ => wpAny_pure (hk v s g a σ (.refl I) R h)

/-! constants -/
theorem EV_none {u : Nat} {p : Pos} (h : k .none σ) : EV G S σ (.Constant .none u p) k kx := fun _ _ _ I _ _ hk _ => wpAny_Constant_none (hk _ _ _ _ _ (.refl I) .none h)
theorem EV_bool {b : Bool} {u : Nat} {p : Pos} (h : k (.bool b) σ) : EV G S σ (.Constant (.bool b) u p) k kx := fun _ _ _ I _ _ hk _ => wpAny_Constant_bool (hk _ _ _ _ _ (.refl I) (.bool b) h)
theorem EV_int {i : Int} {u : Nat} {p : Pos} (h : k (.int i) σ) : EV G S σ (.Constant (.int i) u p) k kx := fun _ _ _ I _ _ hk _ => wpAny_Constant_int (hk _ _ _ _ _ (.toks I _) (.int i _) h)
theorem EV_str {x : Str} {u : Nat} {p : Pos} (h : k (.str x) σ) : EV G S σ (.Constant (.str x) u p) k kx := fun _ _ _ I _ _ hk _ => wpAny_Constant_str (hk _ _ _ _ _ (.toks I _) (.str x _) h)
theorem EV_bytes {b : List UInt8} {u : Nat} {p : Pos} (h : k (.bytes b.toArray) σ) : EV G S σ (.Constant (.bytes b) u p) k kx := fun _ _ s I _ _ hk _ => by
  show wpAny _ _ (mkTextBytes b.toArray) _ _ _
  exact wpAny_bind (wpAny_fresh (wpAny_pure (hk _ _ _ _ _ (.toks I _) (.bytes _ _) h)))

/-! names -/
theorem EV_loc (i : Nat) {x : Str} {p : Pos} {a : AV} (hi : S.names[i]? = some x) (ha : σ.loc[i]? = some (some a)) (h : k a σ) (hd : (x == ("__debug__" : Str)) = false := by decide) (hc : (x == ("__classdict__" : Str)) = false := by decide) : EV G S σ (.Name x p) k kx := fun r g s I Q E hk _ => by
  obtain ⟨m, hm, hl⟩ := I.loc
  obtain ⟨v, hv, R⟩ := hl i x a hi ha
  have fin := hk v s g a σ (.refl I) R h
  rcases hv with ⟨h1, h2⟩ | ⟨h1, c, hc', hcell⟩
  · exact wpAny_Name (wpAny_loadName_local I.fun_ h1 hm h2 fin) hd
  · have hcell' : s.heap.IsCell c (some v) := let ⟨o, ho, q⟩ := hcell; ⟨o, I.stay _ _ ho, q⟩
    rcases h1 with h1 | h1
    · exact wpAny_Name (wpAny_loadName_cell I.fun_ h1 hc' hcell' fin) hd
    · exact wpAny_Name (wpAny_loadName_free I.fun_ h1 hc' hcell' fin hc) hd
theorem EV_glob {x : Str} {p : Pos} {v : Value} (hx : S.scope.names.lookup x = some .globalImplicit) (e : nsIn G.K mainGlobals x = some (some v)) (h : k (.v v) σ) (hd : (x == ("__debug__" : Str)) = false := by decide) : EV G S σ (.Name x p) k kx := fun r g s I Q E hk _ => by
  obtain ⟨mg, hg⟩ := I.ok.glob
  have st : G.base.StaysIn s.heap := fun b o q => I.stay _ _ (I.base _ _ q)
  exact Name_function_global I.fun_ hx (loadGlobal_global (env := envE S r) (hg.keeps st) (mg_of I.ok.K hg e) (hk _ _ _ _ _ (.refl I) (.v v) h)) hd
theorem EV_blt {x : Str} {p : Pos} {v : Value} (hx : S.scope.names.lookup x = some .globalImplicit) (e : nsIn G.K mainGlobals x = some none) (hv : bootBuiltins x = some v) (hn : x ≠ "__name__") (h : k (.v v) σ) (hd : (x == ("__debug__" : Str)) = false := by decide) : EV G S σ (.Name x p) k kx := fun r g s I Q E hk _ => by
  obtain ⟨mg, hg⟩ := I.ok.glob
  obtain ⟨mb, hb, hmb⟩ := I.ok.blt
  have st : G.base.StaysIn s.heap := fun b o q => I.stay _ _ (I.base _ _ q)
  exact Name_function_global I.fun_ hx (loadGlobal_builtin (env := envE S r) (hg.keeps st) (mg_none_of I.ok.K hg e) (hb.keeps st) ((hmb x hn).trans hv) (hk _ _ _ _ _ (.refl I) (.v v) h)) hd

/-! operators -/
theorem EV_BinOp {l r' : Expr} {op : Operator} {p : Pos} (h : EV G S σ l (fun a σ1 => EV G S σ1 r' (fun b σ2 => BO G S σ2 op a b k kx) kx) kx) : EV G S σ (.BinOp l op r' p) k kx := fun r g s I Q E hk hx => by
  refine wpAny_BinOp (h r g s I _ _ (fun va s1 g1 a σ1 P1 R1 h1 => ?_) hx)
  refine h1 r g1 s1 P1.inv _ _ (fun vb s2 g2 b σ2 P2 R2 h2 => ?_) fun e s' g' x σ' P T => hx e s' g' x σ' (P1.trans P) (T.back fun _ => P1.back)
  exact (h2 r g2 s2 P2.inv va vb (R1.mono P2.grow) R2).from (P1.trans P2) hk hx
theorem EV_Compare {l r' : Expr} {op : CmpOp} {p : Pos} (h : EV G S σ l (fun a σ1 => EV G S σ1 r' (fun b σ2 => CO G S σ2 op a b k kx) kx) kx) (hm : behindInMarks op r' = false := by rfl) : EV G S σ (.Compare l [op] [r'] p) k kx := fun r g s I Q E hk hx => by
  refine wpAny_Compare1 (h r g s I _ _ (fun va s1 g1 a σ1 P1 R1 h1 => ?_) hx) hm
  refine h1 r g1 s1 P1.inv _ _ (fun vb s2 g2 b σ2 P2 R2 h2 => ?_) fun e s' g' x σ' P T => hx e s' g' x σ' (P1.trans P) (T.back fun _ => P1.back)
  exact (h2 r g2 s2 P2.inv va vb (R1.mono P2.grow) R2).from (P1.trans P2) hk hx
theorem EV_UnaryOp {l : Expr} {op : UnaryOp} {p : Pos} (h : EV G S σ l (fun a σ1 => UO G S σ1 op a k kx) kx) : EV G S σ (.UnaryOp op l p) k kx := fun r g s I Q E hk hx => by
  refine wpAny_UnaryOp (h r g s I _ _ (fun va s1 g1 a σ1 P1 R1 h1 => ?_) hx)
  exact (h1 r g1 s1 P1.inv va R1).from P1 hk hx
theorem EV_IfExp {t b o : Expr} {p : Pos} (h : TV G S σ t (fun c σ1 => if c then EV G S σ1 b k kx else EV G S σ1 o k kx) kx) : EV G S σ (.IfExp t b o p) k kx := fun r g s I Q E hk hx => by
  refine wpAny_IfExp (h r g s I _ _ (fun va s1 g1 a σ1 P1 R1 h1 => ?_) hx)
  subst R1
  cases va
  · exact (h1 r g1 s1 P1.inv).from P1 hk hx
  · exact (h1 r g1 s1 P1.inv).from P1 hk hx
theorem EV_And2 {x y : Expr} {p : Pos} (h : EV G S σ x (fun a σ1 => TU G S σ1 a (fun c σ2 => if c then EV G S σ2 y k kx else k a σ2) kx) kx) : EV G S σ (.BoolOp .And [x, y] p) k kx := fun r g s I Q E hk hx => by
  refine wpAny_And2 (h r g s I _ _ (fun va s1 g1 a σ1 P1 R1 h1 => ?_) hx)
  refine h1 r g1 s1 P1.inv va R1 _ _ (fun c s2 g2 c' σ2 P2 e h2 => ?_) fun e s' g' x σ' P T => hx e s' g' x σ' (P1.trans P) (T.back fun _ => P1.back)
  subst e
  cases c
  · exact hk _ _ _ _ _ (P1.trans P2) (R1.mono P2.grow) h2
  · exact (h2 r g2 s2 P2.inv).from (P1.trans P2) hk hx
theorem EV_Or2 {x y : Expr} {p : Pos} (h : EV G S σ x (fun a σ1 => TU G S σ1 a (fun c σ2 => if c then k a σ2 else EV G S σ2 y k kx) kx) kx) : EV G S σ (.BoolOp .Or [x, y] p) k kx := fun r g s I Q E hk hx => by
  refine wpAny_Or2 (h r g s I _ _ (fun va s1 g1 a σ1 P1 R1 h1 => ?_) hx)
  refine h1 r g1 s1 P1.inv va R1 _ _ (fun c s2 g2 c' σ2 P2 e h2 => ?_) fun e s' g' x σ' P T => hx e s' g' x σ' (P1.trans P) (T.back fun _ => P1.back)
  subst e
  cases c
  · exact (h2 r g2 s2 P2.inv).from (P1.trans P2) hk hx
  · exact hk _ _ _ _ _ (P1.trans P2) (R1.mono P2.grow) h2

/-! displays -/
def plainE : Expr → Bool
  | .Starred .. => false
  | _ => true
theorem starEach_plain {e : Expr} {rest : List Expr} {env : Env} (h : plainE e = true) : starEach (e :: rest) env = (false, eval e env) :: starEach rest env := by
  cases e <;> first | rfl | cases h
theorem EL_nil {p : Pos} (h : kl [] σ) : EL G S σ p [] kl kx := fun _ _ _ I _ _ hk _ => wpAny_items_nil (hk _ _ _ _ _ (.refl I) .nil h)
theorem EL_cons {p : Pos} {e : Expr} {rest : List Expr} (h : EV G S σ e (fun a σ1 => EL G S σ1 p rest (fun as σ2 => kl (a :: as) σ2) kx) kx) (he : plainE e = true := by rfl) : EL G S σ p (e :: rest) kl kx := fun r g s I Q E hk hx => by
  refine wpAny_items_cons (h r g s I _ _ (fun va s1 g1 a σ1 P1 R1 h1 => ?_) hx) (starEach_plain he)
  refine h1 r g1 s1 P1.inv _ _ (fun vs s2 g2 as σ2 P2 R2 h2 => ?_) fun e s' g' x σ' P T => hx e s' g' x σ' (P1.trans P) (T.back fun _ => P1.back)
  exact hk _ _ _ _ _ (P1.trans P2) (.cons (R1.mono P2.grow) R2) h2
theorem EV_Tuple {p : Pos} {es : List Expr} {u : Nat} (h : EL G S σ p es (fun as σ1 => as.length ≤ sizeLine ∧ k (.tuple as) σ1) kx) : EV G S σ (.Tuple es u p) k kx := fun r g s I Q E hk hx => by
  refine wpAny_Tuple (h r g s I _ _ (fun vs s1 g1 as σ1 P1 R1 h1 => ⟨by rw [R1.length]; exact h1.1, ?_⟩) hx)
  obtain ⟨g2, P2, e⟩ := Post.alloc P1.inv { cls := .type "tuple", data := .seq vs.toArray } rfl s1.toks
  exact hk _ _ _ _ _ (P1.trans P2) (.tuple e (R1.mono P2.grow)) h1.2
theorem EV_List {p : Pos} {es : List Expr} (h : EL G S σ p es (fun as σ1 => as.length ≤ sizeLine ∧ k (.list as) σ1) kx) : EV G S σ (.List es p) k kx := fun r g s I Q E hk hx => by
  refine wpAny_List (h r g s I _ _ (fun vs s1 g1 as σ1 P1 R1 h1 => ⟨by rw [R1.length]; exact h1.1, ?_⟩) hx)
  obtain ⟨g2, P2, e⟩ := Post.alloc P1.inv { cls := .type "list", data := .seq vs.toArray } rfl s1.toks
  exact hk _ _ _ _ _ (P1.trans P2) (.list ⟨_, e, rfl, _, rfl⟩ (R1.mono P2.grow)) h1.2

/-! tests -/
theorem TV_Compare {l r' : Expr} {op : CmpOp} {p : Pos} (h : EV G S σ l (fun a σ1 => EV G S σ1 r' (fun b σ2 => CO G S σ2 op a b (fun c σ3 => TU G S σ3 c kb kx) kx) kx) kx) (hm : behindInMarks op r' = false := by rfl) : TV G S σ (.Compare l [op] [r'] p) kb kx := fun r g s I Q E hk hx => by
  refine wpAny_isTrue_Compare1 (h r g s I _ _ (fun va s1 g1 a σ1 P1 R1 h1 => ?_) hx) hm
  refine h1 r g1 s1 P1.inv _ _ (fun vb s2 g2 b σ2 P2 R2 h2 => ?_) fun e s' g' x σ' P T => hx e s' g' x σ' (P1.trans P) (T.back fun _ => P1.back)
  refine (h2 r g2 s2 P2.inv va vb (R1.mono P2.grow) R2).from (P1.trans P2) (fun vc s3 g3 c σ3 P3 R3 h3 => ?_) hx
  exact (h3 r g3 s3 P3.inv vc R3).from P3 hk hx
theorem TV_Not {e : Expr} {p : Pos} (h : TV G S σ e (fun b σ1 => kb (!b) σ1) kx) : TV G S σ (.UnaryOp .Not e p) kb kx := fun r g s I Q E hk hx => by
  refine wpAny_isTrue_Not (h r g s I _ _ (fun va s1 g1 a σ1 P1 R1 h1 => hk _ _ _ _ _ P1 (by rw [R1]) h1) hx)
/-- the tests of a row of 'and' or 'or' -/
abbrev TA (G : Gb) (S : St) (σ : AS) (op : BoolOp) (es : List Expr) (k : Bool → AS → Prop) (kx : AX → AS → Prop) : Prop := TrA G S σ (fun r => allTrue op es (envE S r)) (fun _ v a => v = a) k kx
theorem TV_BoolOp {op : BoolOp} {es : List Expr} {p : Pos} (h : TA G S σ op es kb kx) : TV G S σ (.BoolOp op es p) kb kx := fun r g s I Q E hk hx => wpAny_isTrue_BoolOp (h r g s I Q E hk hx)
theorem TA_And_nil (h : kb true σ) : TA G S σ .And [] kb kx := fun _ _ _ I _ _ hk _ => wpAny_allTrue_And_nil (hk _ _ _ _ _ (.refl I) rfl h)
theorem TA_Or_nil (h : kb false σ) : TA G S σ .Or [] kb kx := fun _ _ _ I _ _ hk _ => wpAny_allTrue_Or_nil (hk _ _ _ _ _ (.refl I) rfl h)
theorem TA_And_cons {e : Expr} {rest : List Expr} (h : TV G S σ e (fun b σ1 => if b then TA G S σ1 .And rest kb kx else kb false σ1) kx) : TA G S σ .And (e :: rest) kb kx := fun r g s I Q E hk hx => by
  refine wpAny_allTrue_And_cons (h r g s I _ _ (fun va s1 g1 a σ1 P1 R1 h1 => ?_) hx)
  subst R1
  cases va
  · exact hk _ _ _ _ _ P1 rfl h1
  · exact (h1 r g1 s1 P1.inv).from P1 hk hx
theorem TA_Or_cons {e : Expr} {rest : List Expr} (h : TV G S σ e (fun b σ1 => if b then kb true σ1 else TA G S σ1 .Or rest kb kx) kx) : TA G S σ .Or (e :: rest) kb kx := fun r g s I Q E hk hx => by
  refine wpAny_allTrue_Or_cons (h r g s I _ _ (fun va s1 g1 a σ1 P1 R1 h1 => ?_) hx)
  subst R1
  cases va
  · exact (h1 r g1 s1 P1.inv).from P1 hk hx
  · exact hk _ _ _ _ _ P1 rfl h1
def valueTest : Expr → Bool
  | .UnaryOp .Not .. | .BoolOp .. | .IfExp .. | .Compare .. => false
  | _ => true
theorem TV_value {e : Expr} (h : EV G S σ e (fun a σ1 => TU G S σ1 a kb kx) kx) (he : valueTest e = true := by rfl) : TV G S σ e kb kx := fun r g s I Q E hk hx => by
  refine wpAny_isTrue_value (h r g s I _ _ (fun va s1 g1 a σ1 P1 R1 h1 => ?_) hx) (by
    cases e <;> first | rfl | (cases he; done) | (rename_i op _ _; cases op <;> first | rfl | cases he))
  exact (h1 r g1 s1 P1.inv va R1).from P1 hk hx

/-! statements -/
theorem EX_nil (h : kf .next σ) : EX G S σ [] kf kx := fun _ _ _ I _ _ hk _ => wpAny_execs_nil (hk _ _ _ _ _ (.refl I) .next h)
/-- what a block does behind a statement's end -/
def flowOn (G : Gb) (S : St) (rest : List Stmt) (kf : AF → AS → Prop) (kx : AX → AS → Prop) : AF → AS → Prop
  | .next, σ1 => EX G S σ1 rest kf kx
  | f, σ1 => kf f σ1
theorem EX_cons {st : Stmt} {rest : List Stmt} (h : ES G S σ st (flowOn G S rest kf kx) kx) : EX G S σ (st :: rest) kf kx := fun r g s I Q E hk hx => by
  refine wpAny_execs_cons (h r g s I _ _ (fun va s1 g1 a σ1 P1 R1 h1 => ?_) hx)
  cases R1 with
  | next => exact (show EX G S σ1 rest kf kx from h1) r g1 s1 P1.inv |>.from P1 hk hx
  | brk => exact hk _ _ _ _ _ P1 .brk h1
  | cont => exact hk _ _ _ _ _ P1 .cont h1
  | ret R => exact hk _ _ _ _ _ P1 (.ret R) h1
theorem ES_If {t : Expr} {b o : List Stmt} {p : Pos} (h : TV G S σ t (fun c σ1 => if c then EX G S σ1 b kf kx else EX G S σ1 o kf kx) kx) : ES G S σ (.If t b o p) kf kx := fun r g s I Q E hk hx => by
  refine wpAny_If (h r g s I _ _ (fun va s1 g1 a σ1 P1 R1 h1 => ?_) hx)
  subst R1
  cases va
  · exact (h1 r g1 s1 P1.inv).from P1 hk hx
  · exact (h1 r g1 s1 P1.inv).from P1 hk hx
theorem ES_Return {e : Expr} {p : Pos} (h : EV G S σ e (fun a σ1 => kf (.ret a) σ1) kx) : ES G S σ (.Return (some e) p) kf kx := fun r g s I Q E hk hx =>
  wpAny_Return_some (h r g s I _ _ (fun va s1 g1 a σ1 P1 R1 h1 => hk _ _ _ _ _ P1 (.ret R1) h1) hx)
theorem ES_Pass {p : Pos} (h : kf .next σ) : ES G S σ (.Pass p) kf kx := fun _ _ _ I _ _ hk _ => wpAny_Pass (hk _ _ _ _ _ (.refl I) .next h)

/-! stores -/
def AS.put (σ : AS) (i : Nat) (a : AV) : AS := { σ with loc := σ.loc.set i (some a) }
theorem Post.store {i : Nat} {x : Str} {v : Value} {a : AV} {h' : Heap} {m : Str → Option Value} (I : Inv G S r g σ s) (hi : S.names[i]? = some x) (_hk : S.scope.names.lookup x = some .local) (hm : LocOk g S r m σ.loc) (R : RelV g v a)
    (hn : h'.Ns r.L (fun y => if y = x then some v else m y)) (hs : Heap.SameBut r.L s.heap h') (t : Nat) : Post G S r g σ s g (σ.put i a) { s with heap := h', toks := t } := by
  have hL : g.get? r.L = none := (I.ff.mem (b := r.L) (by simp)).1
  have st : g.StaysIn h' := fun b o e => (hs.2 b (fun z => by rw [z, hL] at e; cases e)).trans (I.stay b o e)
  have hd : ∀ b ∈ hid σ.own, b ≠ r.L := fun b hb z => I.apart b hb (by rw [z]; simp [frs])
  have mem : ∀ (own : List (Addr × OV)), (∀ p ∈ own, OvAt g s.heap p.1 p.2) → (∀ b ∈ hid own, b ≠ r.L) → ∀ p ∈ own, OvAt g h' p.1 p.2 := by
    intro own
    induction own with
    | nil => intro _ _ p hp; cases hp
    | cons q l ih =>
      intro ha hb p hp
      rcases List.mem_cons.mp hp with rfl | hp
      · obtain ⟨pa, po⟩ := p
        have z := ha _ (.head _)
        dsimp only at z ⊢
        cases z with
        | list x y =>
          obtain ⟨o, ho, q⟩ := x
          exact .list ⟨o, (hs.2 pa (hb pa (List.mem_append_left _ (.head _)))).trans ho, q⟩ y
        | obj x y z => exact .obj ((hs.2 pa (hb pa (List.mem_append_left _ (.head _)))).trans x) ((hs.2 _ (hb _ (List.mem_append_left _ (.tail _ (.head _))))).trans y) z
        | exc x x2 x3 x4 x5 x6 x8 x7 y z => exact .exc ((hs.2 pa (hb pa (List.mem_append_left _ (.head _)))).trans x) x2 x3 x4 x5 x6 x8 x7 ((hs.2 _ (hb _ (List.mem_append_left _ (.tail _ (.head _))))).trans y) z
        | exc0 x x2 x3 x4 x5 x6 x8 x7 => exact .exc0 ((hs.2 pa (hb pa (List.mem_append_left _ (.head _)))).trans x) x2 x3 x4 x5 x6 x8 x7
        | ptab x y z u => exact .ptab x ((hs.2 pa (hb pa (List.mem_append_left _ (.head _)))).trans y) z u
      · exact ih (fun p hp => ha p (.tail _ hp)) (fun b hb' => hb b (List.mem_append_right _ hb')) p hp
  have fL : r.L ∈ frs (envR S r :: r.outer) := by simp [frs]
  refine ⟨⟨I.ok, I.frames, I.ev, st, I.base, ?_, ⟨_, hn, ?_⟩, ⟨mem _ I.own.at_ hd, I.own.hide, I.own.nd⟩, I.apart, I.lone, I.bare, I.os, I.dep, I.un, I.hd, I.hx, I.fun_, I.nd⟩, fun _ _ e => e, fun _ _ _ _ e => e, fun b o e n1 _ => (hs.2 b fun z => n1 (z ▸ fL)).trans e, fun b hb o e => ?_, fun _ h => .inl h, fun _ _ e => e, fun b hb => let ⟨o, ho⟩ := I.own.there hb; ⟨o, (hs.2 b (hd b hb)).trans ho⟩⟩
  · refine funFrames_alive I.ff (fun b hb => (I.ff.mem hb).1) fun b o _ e hd' => ?_
    by_cases z : b = r.L
    · subst z
      obtain ⟨o', es, ep, ho', hd2, _⟩ := hn
      exact ⟨o', ho', fun vs q => by rw [hd2] at q; cases q⟩
    · exact ⟨o, (hs.2 b z).trans e, hd'⟩
  · intro j y a' h1 h2
    unfold AS.put at h2
    dsimp only at h2
    by_cases hij : i = j
    · subst hij
      have e1 : y = x := Option.some.inj (h1.symm.trans hi)
      subst e1
      rw [List.getElem?_set_self'] at h2
      cases h3 : σ.loc[i]? with
      | none => rw [h3] at h2; cases h2
      | some z =>
        rw [h3] at h2
        cases h2
        exact ⟨v, .inl ⟨_hk, if_pos rfl⟩, R⟩
    · rw [List.getElem?_set_ne hij] at h2
      obtain ⟨v', hv, R'⟩ := hm j y a' h1 h2
      refine ⟨v', ?_, R'⟩
      rcases hv with ⟨a1, a2⟩ | hv
      · refine .inl ⟨a1, ?_⟩
        refine (if_neg fun z => ?_).trans a2
        subst z
        exact hij ((List.getElem?_inj (List.getElem?_eq_some_iff.mp hi).1 I.nd).mp (hi.trans h1.symm))
      · exact .inr hv
  · exact ⟨o.slots, (hs.2 b fun z => I.lone (z ▸ hb)).trans e⟩
end
end Mine
end
/-! Lg3 -/
section
open PySem PySem.Calls PyProof.Rows
open PySem.W
namespace Mine
section
variable {G : Gb} {S : St} {r : Rt} {g : Heap} {σ : AS} {s : Shared} {k : AV → AS → Prop} {kx : AX → AS → Prop} {kb : Bool → AS → Prop} {kl : List AV → AS → Prop} {kf : AF → AS → Prop} {ku : Unit → AS → Prop}

/-! assignment -/
abbrev AG (G : Gb) (S : St) (σ : AS) (t : Expr) (a : AV) (k : Unit → AS → Prop) (kx : AX → AS → Prop) : Prop :=
  ∀ r g s, Inv G S r g σ s → ∀ v, RelV g v a → Tr G S r g σ s (assign t (envE S r) v) (fun _ _ (_ : Unit) => True) k kx
theorem storeG {x : Str} {v : Value} {a : AV} {i : Nat} (I : Inv G S r g σ s) (R : RelV g v a) (hi : S.names[i]? = some x) (hl : S.scope.names.lookup x = some .local) (h : ku () (σ.put i a)) :
    Tr G S r g σ s (storeName (envE S r) x v) (fun _ _ (_ : Unit) => True) ku kx := fun Q E hk hx => by
  obtain ⟨m, hm, hlo⟩ := I.loc
  refine wpAny_storeName_local (env := envE S r) hl hm (fun h' hn hs => ?_) (by show (S.scope.kind == .class || (S.scope.kind == .module && r.L != mainGlobals)) = false; rw [I.fun_]; rfl)
  exact hk _ _ _ _ _ (Post.store I hi hl hlo R hn hs _) trivial h
theorem AG_Name (i : Nat) {x : Str} {p : Pos} {a : AV} (hi : S.names[i]? = some x) (hl : S.scope.names.lookup x = some .local) (h : ku () (σ.put i a)) : AG G S σ (.Name x p) a ku kx := fun r g s I v R Q E hk hx => by
  rw [arm_assign_Name]
  exact wpAny_bind (wpAny_standAt (wpAny_bindName (storeG I R hi hl h Q E hk hx)))
/-- several targets, one a value -/
def AGs (G : Gb) (S : St) (k : Unit → AS → Prop) (kx : AX → AS → Prop) : List Expr → List AV → AS → Prop
  | [], [], σ => k () σ
  | t :: ts, a :: as, σ => plainE t = true ∧ AG G S σ t a (fun _ σ1 => AGs G S k kx ts as σ1) kx
  | _, _, _ => False
theorem assignEach_plain {t : Expr} {ts : List Expr} {env : Env} (h : plainE t = true) : assignEach (t :: ts) env = (false, assign t env) :: assignEach ts env := by
  cases t <;> first | rfl | cases h
theorem AGs.go : ∀ {ts : List Expr} {as : List AV} {σ : AS}, AGs G S ku kx ts as σ → ∀ r g s, Inv G S r g σ s → ∀ vs, RelL g vs as →
    Tr G S r g σ s (assignInOrder ((assignEach ts (envE S r)).map (·.2)) vs) (fun _ _ (_ : Unit) => True) ku kx
  | [], [], _, h, r, g, s, I, _, .nil => fun Q E hk hx => assignInOrder_nil (hk _ _ _ _ _ (.refl I) trivial h)
  | t :: ts, a :: as, σ, ⟨hp, h⟩, r, g, s, I, _, .cons (v := v) (vs := vs) R Rs => fun Q E hk hx => by
    rw [assignEach_plain hp, List.map_cons]
    refine assignInOrder_cons (h r g s I v R _ _ (fun u s1 g1 u' σ1 P1 _ h1 => ?_) hx)
    exact (AGs.go h1 r g1 s1 P1.inv vs (Rs.mono P1.grow)).from P1 hk hx
def plains : List Expr → Bool
  | [] => true
  | t :: ts => plainE t && plains ts
theorem assignEach_length {env : Env} : ∀ {ts : List Expr}, plains ts = true → (assignEach ts env).length = ts.length ∧ (assignEach ts env).findIdx? (·.1) = none
  | [], _ => ⟨rfl, rfl⟩
  | t :: ts, h => by
    obtain ⟨h1, h2⟩ := Bool.and_eq_true_iff.mp h
    have ih := assignEach_length (env := env) h2
    rw [assignEach_plain h1]
    exact ⟨by rw [List.length_cons, ih.1, List.length_cons], by simp [List.findIdx?_cons, ih.2]⟩
theorem AG_Tuple (hq : S.D.q = true) {ts : List Expr} {u : Nat} {p : Pos} {as : List AV} (h : AGs G S ku kx ts as σ) (hl : ts.length = as.length := by rfl) (hp : plains ts = true := by rfl) : AG G S σ (.Tuple ts u p) (.tuple as) ku kx := fun r g s I v R Q E hk hx => by
  cases R with
  | tuple ht R =>
    rename_i a vs
    obtain ⟨e1, e2⟩ := assignEach_length (env := envE S r) hp
    refine assign_Tuple_tuple (I.hd hq) ((tup_is ht).keeps I.stay) (by rw [e1, List.size_toArray, R.length, hl]) e2 fun h' he => ?_
    obtain ⟨g1, P1⟩ := Post.kept I (h' := h') (fun b o e => he b o (Nat.ne_of_lt (Heap.lt_size e)) e) s.toks
    exact (h.go r g1 _ P1.inv vs (R.mono P1.grow)).from P1 hk hx
theorem ES_Assign_Name (i : Nat) {x : Str} {e : Expr} {p p' : Pos} (hi : S.names[i]? = some x) (h : EV G S σ e (fun a σ1 => kf .next (σ1.put i a)) kx) (hl : S.scope.names.lookup x = some .local := by rfl)
    (hs : ∀ env : Env, env.scope = S.scope → swapsWith e (some (.Name x p')) p.line env = pure false := by intro env _; rfl) : ES G S σ (.Assign [.Name x p'] e p) kf kx := fun r g s I Q E hk hx => by
  refine wpAny_Assign_Name (h r g s I _ _ (fun v s1 g1 a σ1 P1 R1 h1 => ?_) hx) (hs _ rfl)
  exact (storeG (ku := fun _ σ' => kf .next σ') P1.inv R1 hi hl h1).from P1 (fun _ s' g' _ σ' P _ q => hk _ _ _ _ _ P .next q) hx
theorem ES_Assign_Tuple {ts : List Expr} {u : Nat} {p' p : Pos} {e : Expr} (h : EV G S σ e (fun a σ1 => AG G S σ1 (.Tuple ts u p') a (fun _ σ2 => kf .next σ2) kx) kx)
    (hs : ∀ env : Env, swapsWithSole [.Tuple ts u p'] e p.line env = pure false := by intro env; rfl) (hw : ∀ env : Env, swappedStores [.Tuple ts u p'] e env = pure none := by intro env; rfl) : ES G S σ (.Assign [.Tuple ts u p'] e p) kf kx := fun r g s I Q E hk hx => by
  refine wpAny_Assign_stores (h r g s I _ _ (fun v s1 g1 a σ1 P1 R1 h1 => ?_) hx) (hs _) (hw _)
  show wpAny _ _ (assignAll v [assign (.Tuple ts u p') (envE S r)]) _ _ _
  exact (h1 r g1 s1 P1.inv v R1).from P1 (fun _ s' g' _ σ' P _ q => hk _ _ _ _ _ P .next q) hx

/-! calls -/
def KeepV (K : Frag) : Value → Bool
  | .ref a => keepIn K (.ref a)
  | _ => true
theorem keepV_looks {K : Frag} {f : Value} (hk : KeepV K f = true) (M : Model) (h : Heap) (X : K.In h) : ∃ k, (k = Keeper.frame ∨ k = Keeper.machine ∨ k = Keeper.boundFrame) ∧ Looks M h (keeperOf f) k := by
  cases f with
  | ref a => exact keeps_K (f := .ref a) hk h X
  | _ => exact ⟨.machine, .inr (.inl rfl), Looks.of_pure rfl⟩
/-- a call of a written value -/
abbrev CV (G : Gb) (S : St) (σ : AS) (f : Value) (as : List AV) (kw : List (Str × AV)) (k : AV → AS → Prop) (kx : AX → AS → Prop) : Prop :=
  ∀ r g s, Inv G S r g σ s → ∀ vs ws, RelL g vs as → RelL g ws (kw.map (·.2)) → Tr G S r g σ s (call f vs ((kw.map (·.1)).zip ws)) RelV k kx
theorem Inv.KIn (I : Inv G S r g σ s) : G.K.In s.heap := I.ok.K.keeps fun b o e => I.stay _ _ (I.base _ _ e)
theorem evalArgs_none {M : Model} {A : Around} {E : Value → Shared → Prop} {s : Shared} {f : Value} {Q : Args → Shared → Prop} (h : wpAny M A (spliced []) (fun vs s' => Q ⟨vs, []⟩ s') E s) : wpAny M A (evalArgs f true [] []) Q E s := by
  unfold evalArgs
  show wpAny M A (spliced [] >>= _) Q E s
  refine wpAny_bind (wpAny_mono h (fun vs s' h' => ?_) fun _ _ x => x)
  refine wpAny_bind (wpAny_pure ?_)
  refine wpAny_holding ?_
  exact wpAny_bind (wpAny_pure (wpAny_bind (wpAny_pure (wpAny_pure h'))))
theorem callWithG {f : Value} {first : List Value} {fas : List AV} {args : List Expr} {p : Pos} (hk : KeepV G.K f = true) (I : Inv G S r g σ s) (Rf : RelL g first fas) (h : EL G S σ p args (fun as σ1 => CV G S σ1 f (fas ++ as) [] k kx) kx) (hp : plains args = true) :
    Tr G S r g σ s (callWith p f first (backTo p (starEach args (envE S r))) []) RelV k kx := fun Q E hq hx => by
  have hpl : ∀ es : List Expr, plains es = true → (backTo p (starEach es (envE S r))).any (·.1) = false := by
    intro es
    induction es with
    | nil => intro _; rfl
    | cons e es ih =>
      intro h
      obtain ⟨h1, h2⟩ := Bool.and_eq_true_iff.mp h
      rw [starEach_plain h1]
      show (false || (backTo p (starEach es (envE S r))).any (·.1)) = false
      rw [ih h2]; rfl
  refine callWith_of (P := fun h => G.K.In h) (by rw [hpl _ hp]; rfl) (fun h X => keepV_looks hk _ h X) ?_
  have fin : ∀ vs s1 g1 as σ1, Post G S r g σ s g1 σ1 s1 → RelL g1 vs as → CV G S σ1 f (fas ++ as) [] k kx → (G.K.In s1.heap ∧ wpAny (model G.prog G.w) r.A (call f (first ++ vs) []) Q E s1) := fun vs s1 g1 as σ1 P1 R1 h1 =>
    ⟨P1.inv.KIn, (h1 r g1 s1 P1.inv _ [] ((Rf.mono P1.grow).append R1) .nil).from P1 hq hx⟩
  cases args with
  | nil =>
    exact evalArgs_none (h r g s I (fun vs s1 => (G.K.In s1.heap ∧ wpAny (model G.prog G.w) r.A (call f (first ++ vs) []) Q E s1)) E (fun vs s1 g1 as σ1 P1 R1 h1 => fin vs s1 g1 as σ1 P1 R1 h1) hx)
  | cons e es =>
    obtain ⟨h1, h2⟩ := Bool.and_eq_true_iff.mp hp
    have z := h r g s I (fun vs s1 => (G.K.In s1.heap ∧ wpAny (model G.prog G.w) r.A (call f (first ++ vs) []) Q E s1)) E (fun vs s1 g1 as σ1 P1 R1 h1 => fin vs s1 g1 as σ1 P1 R1 h1) hx
    dsimp only at z
    rw [starEach_plain h1] at z ⊢
    exact evalArgs_plain z

theorem EV_Call {func : Expr} {args : List Expr} {p : Pos} {f : Value} (hk : KeepV G.K f = true) (hf : EV G S σ func (fun a σ1 => a = .v f ∧ EL G S σ1 p args (fun as σ2 => CV G S σ2 f as [] k kx) kx) kx) (hp : plains args = true := by rfl)
    (he : ∀ env, eval (.Call func args [] p) env = (do callWith p (← eval func env) [] (backTo p (starEach args env)) (backToKw p (keywordEach [] env))) := by intro env; rfl) : EV G S σ (.Call func args [] p) k kx := fun r g s I Q E hq hx => by
  show wpAny _ _ (eval (.Call func args [] p) (envE S r)) _ _ _
  rw [he]
  refine wpAny_bind (hf r g s I _ _ (fun v s1 g1 a σ1 P1 R1 h1 => ?_) hx)
  obtain ⟨rfl, h1⟩ := h1
  cases R1
  exact (callWithG (fas := []) hk P1.inv .nil h1 hp).from P1 hq hx

/-! the contract of a def, and its use at a call -/
/-- what a callee finds of the world: the frames below it, the objects handed to it that it may change -/
structure CInv (G : Gb) (A : Around) (l : List Env) (D : Lv) (g : Heap) (own : List (Addr × OV)) (s : Shared) : Prop where
  ok : GOk G
  frames : A.frames = some l
  stay : g.StaysIn s.heap
  base : G.base.StaysIn g
  ff : s.heap.FunFrames g l
  ownok : OwnOk g s.heap own
  apart : ∀ b ∈ hid own, b ∉ frs l
  bare : AllBare s.gens
  os : s.os = G.os
  dep : A.depth ≤ D.n
  un : A.units ≤ 10 * D.n
  hd : D.q = true → A.handled = none
  hx : HdOk A g
structure CPost (G : Gb) (A : Around) (l : List Env) (D : Lv) (g : Heap) (own : List (Addr × OV)) (s : Shared) (g' : Heap) (own' : List (Addr × OV)) (s' : Shared) : Prop where
  inv : CInv G A l D g' own' s'
  grow : g.StaysIn g'
  only : ∀ b o, s.heap.get? b = some o → g.get? b = none → g'.get? b = none
  ext : ∀ b o, s.heap.get? b = some o → b ∉ frs l → b ∉ hid own → s'.heap.get? b = some o
  fr : ∀ b ∈ frs l, ∀ o, s.heap.get? b = some o → ∃ sl, s'.heap.get? b = some { o with slots := sl }
  same : hid own ⊆ hid own' ∧ ∀ b ∈ hid own', b ∈ hid own ∨ s.heap.get? b = none
  gens : ∀ (i : Nat) (x : GenState), s.gens[i]? = some x → s'.gens[i]? = some x
/-- the contract: from every state of the shape the call ends so -/
def Fn (G : Gb) (D : Lv) (f : Value) (as : List AV) (kw : List (Str × AV)) (own : List (Addr × OV)) (k : AV → List (Addr × OV) → Prop) (kx : AX → List (Addr × OV) → Prop) : Prop :=
  ∀ (A : Around) (l : List Env) (g : Heap) (s : Shared) (vs ws : List Value), CInv G A l D g own s → RelL g vs as → RelL g ws (kw.map (·.2)) → ∀ R : Result → Shared → Prop,
    (∀ v s' g' a own', CPost G A l D g own s g' own' s' → RelV g' v a → k a own' → R (.ok (.ret v)) s') →
    (∀ e s' g' x own', CPost G A l D g own s g' own' s' → ThrAt none g' s.heap s'.heap own' e x → kx x own' → R (.error (.ref e)) s') →
    codeAny (model G.prog G.w) A (.call f ⟨vs, (kw.map (·.1)).zip ws⟩) R s
end
end Mine
end
/-! Lg4 -/
section
open PySem PySem.Calls PyProof.Rows
open PySem.W
namespace Mine
theorem hid_append : ∀ (a b : List (Addr × OV)), hid (a ++ b) = hid a ++ hid b
  | [], _ => rfl
  | p :: a, b => by show p.2.hid p.1 ++ hid (a ++ b) = (p.2.hid p.1 ++ hid a) ++ hid b; rw [hid_append a b, List.append_assoc]
/-- the objects of a row that is kept: seen from another ghost, another heap -/
theorem ovAt_keep {g g' h h' : Heap} (kg : g.StaysIn g') {a : Addr} {o : OV} (x : OvAt g h a o) (k : ∀ b ∈ o.hid a, ∀ ob, h.get? b = some ob → h'.get? b = some ob) : OvAt g' h' a o := by
  cases x with
  | list hl R =>
    obtain ⟨ob, ho, q⟩ := hl
    exact .list ⟨_, k a (.head _) ob ho, q⟩ (R.mono kg)
  | obj h1 h2 R => exact .obj (k a (.head _) _ h1) (k _ (.tail _ (.head _)) _ h2) (R.mono kg)
  | exc h1 a2 a3 a4 a5 a6 a7 m h2 R => exact .exc (k a (.head _) _ h1) a2 a3 a4 a5 a6 a7 (m.mono kg) (k _ (.tail _ (.head _)) _ h2) (R.mono kg)
  | exc0 h1 a2 a3 a4 a5 a6 a7 m => exact .exc0 (k a (.head _) _ h1) a2 a3 a4 a5 a6 a7 (m.mono kg)
  | ptab c h1 a2 a3 => exact .ptab (c.mono kg) (k a (.head _) _ h1) a2 a3
theorem mem_hid {own : List (Addr × OV)} {p : Addr × OV} (hp : p ∈ own) {b : Addr} (hb : b ∈ p.2.hid p.1) : b ∈ hid own := by
  induction own with
  | nil => cases hp
  | cons q l ih =>
    rcases List.mem_cons.mp hp with rfl | hp
    · exact List.mem_append_left _ hb
    · exact List.mem_append_right _ (ih hp)
section
variable {G : Gb} {S : St} {r : Rt} {g g' : Heap} {σ : AS} {s s' : Shared} {k : AV → AS → Prop} {kx : AX → AS → Prop} {own own' rest : List (Addr × OV)} {D : Lv}

theorem frs_cons : frs (envR S r :: r.outer) = r.L :: frs r.outer := rfl

theorem stk_sub {b : Addr} (h : b ∈ frs (stk S r)) : b ∈ frs (envR S r :: r.outer) := by
  unfold stk at h
  split at h
  · rw [frs_cons]; exact .tail _ h
  · exact h
theorem stk_outer {b : Addr} (h : b ∈ frs r.outer) : b ∈ frs (stk S r) := by
  unfold stk
  split
  · exact h
  · rw [frs_cons]; exact .tail _ h
theorem stk_ff (I : Inv G S r g σ s) : s.heap.FunFrames g (stk S r) := by
  unfold stk
  split
  · exact I.ff.2.2
  · exact I.ff
/-- a callee's end, seen from the caller -/
theorem Post.of_cpost (I : Inv G S r g σ s) (hσ : σ.own = own ++ rest) (P : CPost G r.A (stk S r) D g own s g' own' s') : Post G S r g σ s g' { σ with own := own' ++ rest } s' := by
  have nd := I.own.nd
  rw [hσ, hid_append] at nd
  have apart : ∀ b ∈ hid rest, b ∉ hid own := fun b hb hn => (List.nodup_append.mp nd).2.2 b hn b hb rfl
  have inr : ∀ b ∈ hid rest, b ∈ hid σ.own := fun b hb => by rw [hσ, hid_append]; exact List.mem_append_right _ hb
  have inl : ∀ b ∈ hid own, b ∈ hid σ.own := fun b hb => by rw [hσ, hid_append]; exact List.mem_append_left _ hb
  have fL : r.L ∈ frs (envR S r :: r.outer) := by rw [frs_cons]; exact .head _
  have hnew : ∀ b ∈ hid (own' ++ rest), b ∈ hid σ.own ∨ s.heap.get? b = none := fun b hb => by
    rw [hid_append] at hb
    rcases List.mem_append.mp hb with hb | hb
    · exact (P.same.2 b hb).imp (inl b) id
    · exact .inl (inr b hb)
  have hnd : (hid (own' ++ rest)).Nodup := by
    rw [hid_append]
    refine List.nodup_append.mpr ⟨P.inv.ownok.nd, (List.nodup_append.mp nd).2.1, fun x hx y hy e => ?_⟩
    subst e
    rcases P.same.2 x hx with h | h
    · exact apart x hy h
    · obtain ⟨o, ho⟩ := I.own.there (inr x hy)
      rw [h] at ho; cases ho
  have hap : ∀ b ∈ hid (own' ++ rest), b ∉ frs (envR S r :: r.outer) := fun b hb hf => by
    rcases hnew b hb with h | h
    · exact I.apart b h hf
    · obtain ⟨_, o, ho, _⟩ := I.ff.mem hf
      rw [h] at ho; cases ho
  have atL : ∀ o, s.heap.get? r.L = some o → ∃ sl, s'.heap.get? r.L = some { o with slots := sl } := fun o ho => by
    by_cases h : r.L ∈ frs (stk S r)
    · exact P.fr r.L h o ho
    · exact ⟨o.slots, P.ext r.L o ho h fun hn => I.apart r.L (inl _ hn) fL⟩
  refine ⟨⟨I.ok, I.frames, I.ev, P.inv.stay, P.inv.base, ?_, ?_, ⟨?_, ?_, hnd⟩, hap, I.lone, P.inv.bare, P.inv.os, I.dep, I.un, I.hd, I.hx.mono P.grow, I.fun_, I.nd⟩,
    P.grow, fun b o e _ q => P.only b o e q, fun b o e n1 n2 => P.ext b o e (fun h => n1 (stk_sub h)) fun hb => n2 (inl b hb), fun b hb o e => P.fr b (stk_outer hb) o e, hnew, P.gens, ?_⟩
  · refine funFrames_alive I.ff (fun b hb => ?_) fun b o hb e hd => ?_
    · obtain ⟨q, o, ho, _⟩ := I.ff.mem hb
      exact P.only b o ho q
    · by_cases h : b ∈ frs (stk S r)
      · obtain ⟨sl, e'⟩ := P.fr b h o e
        exact ⟨_, e', hd⟩
      · exact ⟨o, P.ext b o e h fun hn => I.apart b (inl _ hn) hb, hd⟩
  · obtain ⟨m, ⟨o, es, ep, ho, hd, q⟩, hl⟩ := I.loc
    obtain ⟨sl, e⟩ := atL o ho
    refine ⟨m, ⟨_, es, ep, e, hd, q⟩, fun i x a h1 h2 => ?_⟩
    obtain ⟨v, hv, R⟩ := hl i x a h1 h2
    refine ⟨v, ?_, R.mono P.grow⟩
    rcases hv with h | ⟨h, c, hc, oc, hoc, hd'⟩
    · exact .inl h
    · exact .inr ⟨h, c, hc, oc, P.grow _ _ hoc, hd'⟩
  · intro p hp
    rcases List.mem_append.mp hp with hp | hp
    · exact P.inv.ownok.at_ p hp
    · refine ovAt_keep P.grow (I.own.at_ p (by rw [hσ]; exact List.mem_append_right _ hp)) fun b hb ob e => ?_
      have hr := mem_hid hp hb
      exact P.ext b ob e (fun h => I.apart b (inr b hr) (stk_sub h)) (apart b hr)
  · intro b hb
    rw [hid_append] at hb
    rcases List.mem_append.mp hb with hb | hb
    · exact P.inv.ownok.hide b hb
    · obtain ⟨o, ho⟩ := I.own.there (inr b hb)
      exact P.only b o ho (I.own.hide b (inr b hb))
  · intro b hb
    rw [hσ, hid_append] at hb
    rcases List.mem_append.mp hb with hb | hb
    · exact P.inv.ownok.there (P.same.1 hb)
    · obtain ⟨o, ho⟩ := I.own.there (inr b hb)
      exact ⟨o, P.ext b o ho (fun h => I.apart b (inr b hb) (stk_sub h)) (apart b hb)⟩
theorem Inv.cinv (I : Inv G S r g σ s) (hσ : σ.own = own ++ rest) (hD : S.D.le D) : CInv G r.A (stk S r) D g own s := by
  have sub : ∀ b ∈ hid own, b ∈ hid σ.own := fun b hb => by rw [hσ, hid_append]; exact List.mem_append_left _ hb
  refine ⟨I.ok, I.frames, I.stay, I.base, stk_ff I, ⟨fun p hp => I.own.at_ p (by rw [hσ]; exact List.mem_append_left _ hp), fun b hb => I.own.hide b (sub b hb), ?_⟩, fun b hb h => I.apart b (sub b hb) (stk_sub h), I.bare, I.os, Nat.le_trans I.dep hD.1, Nat.le_trans I.un (by have := hD.1; omega), fun q => I.hd (hD.2 q), I.hx⟩
  have := I.own.nd
  rw [hσ, hid_append] at this
  exact (List.nodup_append.mp this).1
/-- the use of a contract -/
theorem CV_fn {f : Value} {as : List AV} {kw : List (Str × AV)} {K : AV → List (Addr × OV) → Prop} {KX : AX → List (Addr × OV) → Prop} (hF : Fn G D f as kw own K KX) (hσ : σ.own = own ++ rest) (hD : S.D.le D)
    (hk : ∀ a own', hid own ⊆ hid own' → K a own' → k a { σ with own := own' ++ rest }) (hx : ∀ x own', hid own ⊆ hid own' → KX x own' → kx x { σ with own := own' ++ rest }) : CV G S σ f as kw k kx := fun r g s I vs ws R1 R2 Q E hq hqx => by
  refine wpAny_call (hF r.A _ g s vs ws (I.cinv hσ hD) R1 R2 _ (fun v s' g' a own' P R q => ?_) fun e s' g' x own' P T q => ?_)
  · exact hq _ _ _ _ _ (Post.of_cpost I hσ P) R (hk a own' P.same.1 q)
  · refine hqx _ _ _ _ _ (Post.of_cpost I hσ P) (T.flight.wider fun b hb hn => ?_) (hx x own' P.same.1 q)
    show b ∉ hid (own' ++ rest)
    rw [hid_append]
    intro hm
    rcases List.mem_append.mp hm with hm | hm
    · exact hn hm
    · obtain ⟨o, ho⟩ := I.own.there (b := b) (by rw [hσ, hid_append]; exact List.mem_append_right _ hm)
      rw [ho] at hb; cases hb
end
end Mine
end
/-! Lg45 -/
section
open PySem PySem.Calls PyProof.Rows
open PySem.W
namespace Mine
section
variable {M : Model} {A : Around} {E : Value → Shared → Prop} {Q : Unit → Shared → Prop} {s : Shared} {g : Heap} {env : Env} {outer : List Env} {L e : Addr} {oe : Obj} {vs : Array Value}

/-- what a note of a frame leaves of the heap -/
structure NoteAt (l : List Env) (e : Addr) (oe : Obj) (vs : Array Value) (v1 f : Value) (h h' : Heap) (T : Addr) : Prop where
  exc : ∃ oe' vs', h'.get? e = some oe' ∧ oe'.cls = oe.cls ∧ oe'.dict = oe.dict ∧ oe'.data = .fields vs' ∧ vs'[1]? = some (.ref T) ∧ ∀ i, i ≠ 1 → vs'[i]? = vs[i]?
  tb : ∃ oT ts, h'.get? T = some oT ∧ oT.data = .fields ts ∧ ts[3]? = some f
  new : h.get? T = none ∨ v1 = .ref T
  ne : T ≠ e
  keep : ∀ b o, h.get? b = some o → b ∉ frs l → b ≠ e → v1 ≠ .ref b → h'.get? b = some o
  frames : ∀ b ∈ frs l, ∀ o, h.get? b = some o → ∃ sl, h'.get? b = some { o with slots := sl }

theorem entryX {head v1 : Value} {hadNext : Bool} (hfr : A.frames = some (env :: outer)) (hl : s.heap.FunFrames g (env :: outer)) (hf : env.frame = some L) (he : s.heap.get? e = some oe) (hd : oe.data = .fields vs) (hsz : 1 < vs.size)
    (h : ∀ h' T, NoteAt (env :: outer) e oe vs v1 (rawInt L) s.heap h' T → Q () { s with heap := h' }) :
    wpAny M A (do let a ← frameOf env; let pl ← entryPlaceOf L hadNext; let b ← EntryCells.newEntry head a .none (rawInt L) .none pl; setField (.ref e) 1 b) Q E s := by
  have hene : e ∉ frs (env :: outer) := fun hm => by
    obtain ⟨_, o, ho, hnf⟩ := hl.mem hm
    rw [he] at ho; injection ho with ho; subst ho; exact hnf vs hd
  refine wpAny_bind (wpAny_frameOf_fun hfr hl hf fun h₁ hs₁ => ?_)
  refine wpAny_bind (wpAny_entryPlaceOf fun pl hpl => ?_)
  unfold EntryCells.newEntry newFields
  refine wpAny_bind (wpAny_newObj_type ?_ (hpl.sizeOk5 _ _ _ _ _))
  have he₁ : h₁.get? e = some oe := (hs₁.2.1 e hene).trans he
  have he₂ := Heap.get?_push_of_some (h := h₁) { cls := .type "traceback", dict := none, data := .fields ([head, .ref L, .none, rawInt L, .none] ++ (if pl.isEmpty then List.replicate 6 Value.none else pl)).toArray } he₁
  refine wpAny_setField he₂ hd hsz (h _ h₁.objs.size ?_)
  have hTe : h₁.objs.size ≠ e := Nat.ne_of_gt (Heap.lt_size he₁)
  have hd₃ := Obj.data_mapFields hd (·.setIfInBounds 1 (Value.ref h₁.objs.size))
  have he₃ := Heap.get?_update_self (Obj.mapFields (·.setIfInBounds 1 (Value.ref h₁.objs.size))) he₂ (Obj.isFreed_of_fields hd₃)
  have hT₃ := (Heap.get?_update_other (h₁.push { cls := .type "traceback", dict := none, data := .fields ([head, .ref L, .none, rawInt L, .none] ++ (if pl.isEmpty then List.replicate 6 Value.none else pl)).toArray })
    (Obj.mapFields (·.setIfInBounds 1 (Value.ref h₁.objs.size))) (Ne.symm hTe)).trans (Heap.get?_push_size h₁ rfl)
  have keep : ∀ b o, b ≠ e → h₁.get? b = some o →
      ((h₁.push { cls := .type "traceback", dict := none, data := .fields ([head, .ref L, .none, rawInt L, .none] ++ (if pl.isEmpty then List.replicate 6 Value.none else pl)).toArray }).update e (Obj.mapFields (·.setIfInBounds 1 (Value.ref h₁.objs.size)))).get? b = some o :=
    fun b o hbe hb => by
      rw [Heap.get?_update_other _ _ (Ne.symm hbe)]
      exact Heap.get?_push_of_some _ hb
  refine ⟨⟨_, _, he₃, Obj.cls_mapFields .., ?_, hd₃, by simp [hsz], fun i hi => by rw [Array.getElem?_setIfInBounds_ne (Ne.symm hi)]⟩, ⟨_, _, hT₃, rfl, by first | (simp; done) | (rcases hpl with rfl | ⟨_, _, _, _, _, _, _, rfl⟩ <;> simp)⟩, .inl ?_, hTe, fun b o hb hn hbe _ => ?_, fun b hb o ho => ?_⟩
  · obtain ⟨c, dd, dt, sl⟩ := oe
    cases hd
    rfl
  · cases q : s.heap.get? h₁.objs.size with
    | none => rfl
    | some o => exact absurd (Heap.lt_size q) (by rw [hs₁.1]; exact Nat.lt_irrefl _)
  · exact keep b o hbe ((hs₁.2.1 b hn).trans hb)
  · obtain ⟨sl, q⟩ := hs₁.2.2 b o ho
    refine ⟨sl, keep b _ (fun z => hene (z ▸ hb)) q⟩

/-- a frame's note upon an exception -/
theorem noteX {v1 : Value} (hfr : A.frames = some (env :: outer)) (hl : s.heap.FunFrames g (env :: outer)) (hf : env.frame = some L) (he : s.heap.get? e = some oe) (hd : oe.data = .fields vs) (h1 : vs[1]? = some v1)
    (htb : v1 = .none ∨ ∃ T oT ts, v1 = .ref T ∧ T ≠ e ∧ s.heap.get? T = some oT ∧ oT.data = .fields ts ∧ (ts[3]? = some .none ∨ ts[3]? = some (rawInt L)))
    (h : ∀ h' T, NoteAt (env :: outer) e oe vs v1 (rawInt L) s.heap h' T → Q () { s with heap := h' }) : wpAny M A (noteFrame (.ref e) env) Q E s := by
  unfold noteFrame
  simp only [hf]
  refine wpAny_bind (wpAny_field he hd h1 ?_)
  rcases htb with rfl | ⟨T, oT, ts, rfl, hTe, hT, hdT, h3⟩
  · rw [if_neg (by decide)]
    exact entryX hfr hl hf he hd (Array.getElem?_eq_some_iff.mp h1).1 h
  · rw [if_pos (show (Value.ref T != Value.none) = true from by simp)]
    rcases h3 with h3 | h3
    · refine wpAny_bind (wpAny_field hT hdT h3 ?_)
      rw [if_neg (show ¬ ((Value.none == rawInt L) = true) from by simp [rawInt])]
      refine wpAny_bind (wpAny_setField hT hdT (Array.getElem?_eq_some_iff.mp h3).1 ?_)
      have other : ∀ b, b ≠ T → (s.heap.update T (Obj.mapFields (·.setIfInBounds 3 Value.none))).get? b = s.heap.get? b := fun b hb => Heap.get?_update_other _ _ (Ne.symm hb)
      have nT : T ∉ frs (env :: outer) := fun hm => by
        obtain ⟨_, o, ho, hnf⟩ := hl.mem hm
        rw [hT] at ho; injection ho with ho; subst ho; exact hnf ts hdT
      refine entryX (v1 := .ref T) hfr (g := g) (funFrames_alive hl (fun b hb => (hl.mem hb).1) fun b o hb e hd => ⟨o, (other b fun z => nT (z ▸ hb)).trans e, hd⟩) hf ((other e (Ne.symm hTe)).trans he) hd (Array.getElem?_eq_some_iff.mp h1).1 fun h' T' N => h h' T' ?_
      refine ⟨N.exc, N.tb, ?_, N.ne, fun b o ho hn hbe hb1 => N.keep b o ((other b fun z => hb1 (by rw [z])).trans ho) hn hbe hb1, fun b hb o ho => N.frames b hb o ((other b fun z => nT (z ▸ hb)).trans ho)⟩
      rcases N.new with z | z
      · by_cases q : T' = T
        · exact .inr (by rw [q])
        · exact .inl ((other T' q).symm.trans z)
      · exact .inr z
    · refine wpAny_bind (wpAny_field hT hdT h3 ?_)
      rw [if_pos (show (rawInt L == rawInt L) = true from by simp [rawInt])]
      exact wpAny_pure (h s.heap T ⟨⟨oe, vs, he, rfl, rfl, hd, h1, fun _ _ => rfl⟩, ⟨oT, ts, hT, hdT, h3⟩, .inr rfl, hTe, fun _ _ ho _ _ _ => ho, fun _ _ o ho => ⟨o.slots, ho⟩⟩)
theorem setFlightX {v1 f : Value} {fr : Option Addr} {h₀ : Heap} {T : Addr} {l : List Env} (hl : h₀.FunFrames g l) (ff : ∀ b ∈ frs l, ∃ o, s.heap.get? b = some o ∧ ∀ vs, o.data ≠ .fields vs) (N : NoteAt l e oe vs v1 f h₀ s.heap T)
    (h : ∀ h', NoteAt l e oe vs v1 (fr.elim .none fun f => rawInt f) h₀ h' T → Q () { s with heap := h' }) : wpAny M A (setFlight (.ref e) fr) Q E s := by
  obtain ⟨⟨oe', vs', he, hc, hdd, hd, h1, hi⟩, ⟨oT, ts, hT, hdT, h3⟩, hn, hne, hk, hfr⟩ := N
  unfold setFlight
  refine wpAny_bind (wpAny_field he hd h1 ?_)
  rw [if_pos (show (Value.ref T != Value.none) = true from by simp)]
  have hsz3 : 3 < ts.size := (Array.getElem?_eq_some_iff.mp h3).1
  refine wpAny_setField hT hdT hsz3 (h _ ?_)
  have other : ∀ b, b ≠ T → (s.heap.update T (Obj.mapFields (·.setIfInBounds 3 (fr.elim .none fun f => rawInt f)))).get? b = s.heap.get? b := fun b hb => Heap.get?_update_other _ _ (Ne.symm hb)
  refine ⟨⟨oe', vs', (other e (Ne.symm hne)).trans he, hc, hdd, hd, h1, hi⟩, ⟨_, _, Heap.get?_update_self _ hT (Obj.isFreed_of_fields (Obj.data_mapFields hdT _)), Obj.data_mapFields hdT _, by simp [hsz3]⟩, hn, hne, fun b o ho n1 n2 n3 => ?_, fun b hb o ho => ?_⟩
  · refine (other b fun z => ?_).trans (hk b o ho n1 n2 n3)
    subst z
    rcases hn with hn | hn
    · rw [hn] at ho; cases ho
    · exact n3 hn
  · obtain ⟨sl, q⟩ := hfr b hb o ho
    refine ⟨sl, (other b fun z => ?_).trans q⟩
    subst z
    obtain ⟨o', ho', hnf⟩ := ff b hb
    rw [hT] at ho'; cases ho'
    exact hnf _ hdT
end
end Mine
end
/-! Lg5 -/
section
open PySem PySem.Calls PyProof.Rows
open PySem.W
namespace Mine
section
variable {G : Gb} {S : St} {r : Rt} {g g' : Heap} {σ : AS} {s s' : Shared} {k : AV → AS → Prop} {kx : AX → AS → Prop} {kf : AF → AS → Prop} {own own' rest : List (Addr × OV)} {D : Lv}

theorem OvAt.data {h : Heap} {p : Addr × OV} (x : OvAt g h p.1 p.2) {b : Addr} (hb : b ∈ p.2.hid p.1) : ∃ o, h.get? b = some o := by
  obtain ⟨a, ov⟩ := p
  cases x with
  | list hl _ => obtain ⟨z, hz, _⟩ := hl; rw [List.mem_singleton.mp hb]; exact ⟨_, hz⟩
  | obj h1 h2 _ =>
    rcases List.mem_cons.mp hb with hm | hm
    · rw [hm]; exact ⟨_, h1⟩
    · rw [List.mem_singleton.mp hm]; exact ⟨_, h2⟩
  | exc h1 _ _ _ _ _ _ _ h2 _ =>
    rcases List.mem_cons.mp hb with hm | hm
    · rw [hm]; exact ⟨_, h1⟩
    · rw [List.mem_singleton.mp hm]; exact ⟨_, h2⟩
  | exc0 h1 _ _ _ _ _ _ _ => rw [List.mem_singleton.mp hb]; exact ⟨_, h1⟩
  | ptab _ h1 _ _ => rw [List.mem_singleton.mp hb]; exact ⟨_, h1⟩

/-- the last objects that an activation still changes are given free: from now on never changed -/
theorem Inv.freeze (I : Inv G S r g σ s) (hσ : σ.own = own ++ rest) {loc' : List (Option AV)} (hl : ∀ m, LocOk g S r m σ.loc → LocOk (gplus g s.heap (hid rest)) S r m σ.loc → LocOk (gplus g s.heap (hid rest)) S r m loc') :
    Post G S r g σ s (gplus g s.heap (hid rest)) ⟨loc', own⟩ s := by
  have hh : hid σ.own = hid own ++ hid rest := by rw [hσ, hid_append]
  have nd := I.own.nd
  rw [hh] at nd
  have apart : ∀ b ∈ hid own, b ∉ hid rest := fun b hb hn => (List.nodup_append.mp nd).2.2 b hb b hn rfl
  have inr : ∀ b ∈ hid rest, b ∈ hid σ.own := fun b hb => by rw [hh]; exact List.mem_append_right _ hb
  have inl : ∀ b ∈ hid own, b ∈ hid σ.own := fun b hb => by rw [hh]; exact List.mem_append_left _ hb
  have gr : g.StaysIn (gplus g s.heap (hid rest)) := gplus_grow I.stay
  refine ⟨⟨I.ok, I.frames, I.ev, gplus_stay, fun b o e => gr _ _ (I.base _ _ e), ?_, ?_, ⟨fun p hp => ?_, fun b hb => gplus_none (I.own.hide b (inl b hb)) (apart b hb), (List.nodup_append.mp nd).1⟩, fun b hb => I.apart b (inl b hb), I.lone, I.bare, I.os, I.dep, I.un, I.hd, I.hx.mono gr, I.fun_, I.nd⟩,
    gr, fun b o e n q => gplus_none q fun hb => n (inr b hb), fun _ _ e _ _ => e, fun _ _ o e => ⟨o.slots, e⟩, fun b hb => .inl (inl b hb), fun _ _ e => e, fun b hb => I.own.there hb⟩
  · exact funFrames_alive I.ff (fun b hb => gplus_none (I.ff.mem hb).1 fun hn => I.apart b (inr b hn) hb) fun b o _ e hd => ⟨o, e, hd⟩
  · obtain ⟨m, hm, q⟩ := I.loc
    refine ⟨m, hm, hl m q fun i x a h1 h2 => ?_⟩
    obtain ⟨v, hv, R⟩ := q i x a h1 h2
    refine ⟨v, ?_, R.mono gr⟩
    rcases hv with h | ⟨h, c, hc, oc, hoc, hd'⟩
    · exact .inl h
    · exact .inr ⟨h, c, hc, oc, gr _ _ hoc, hd'⟩
  · exact ovAt_keep gr (I.own.at_ p (by rw [hσ]; exact List.mem_append_left _ hp)) fun _ _ _ e => e

/-- an own row at the end of the row of own objects is given free, and its name's worth with it -/
theorem EX_freeze {b : Addr} {ds : List AV} {st : List Stmt} (i : Nat) (hσ : σ.own = own ++ [(b, .list ds)]) (hi : σ.loc[i]? = some (some (.own b))) (h : EX G S ⟨σ.loc.set i (some (.list ds)), own⟩ st kf kx) : EX G S σ st kf kx := fun r g s I Q E hk hx => by
  have hov : OvAt g s.heap b (.list ds) := I.own.at_ (b, .list ds) (by rw [hσ]; simp)
  have P := I.freeze hσ (loc' := σ.loc.set i (some (.list ds))) fun m h1 h2 => by
    intro j x a hj ha
    by_cases e : i = j
    · subst e
      have hlt : i < σ.loc.length := (List.getElem?_eq_some_iff.mp hi).1
      rw [List.getElem?_set_self hlt] at ha
      cases ha
      obtain ⟨v, hv, R⟩ := h2 i x _ hj hi
      cases R
      refine ⟨_, hv, ?_⟩
      cases hov with
      | list hl R =>
        obtain ⟨o, ho, q⟩ := hl.isList
        exact .list ⟨o, gplus_new (by simp [hid, OV.hid]) ho, q⟩ (R.mono (gplus_grow I.stay))
    · rw [List.getElem?_set_ne e] at ha
      exact h2 j x a hj ha
  exact (h r _ s P.inv).from P hk hx

/-! entry and end -/
theorem Inv.enter {A : Around} {l : List Env} {L f : Addr} {cdv : Value} {qual : Str} {scope : Scope} {cl : List (Str × Addr)} {names : List Str} {loc : List (Option AV)} {h₀ : Heap} {m : Str → Option Value} {t : Nat}
    (C : CInv G A l D g own s) (hL : L = s.heap.objs.size) (keep : ∀ b o, s.heap.get? b = some o → h₀.get? b = some o) (hns : h₀.Ns L m) (hk : scope.kind = .function) (hnd : names.Nodup) {g₁ : Heap} (hg : g.StaysIn g₁) (hg1 : ∀ b o, s.heap.get? b = some o → g.get? b = none → g₁.get? b = none) (hg2 : g₁.StaysIn h₀) (hg3 : g₁.get? L = none)
    (hl : LocOk g₁ ⟨qual, scope, f, cdv, names, D.up, false⟩ ⟨A.deeper (envX qual scope L f cdv cl), L, cl, l, some f, some L⟩ m loc) :
    Inv G ⟨qual, scope, f, cdv, names, D.up, false⟩ ⟨A.deeper (envX qual scope L f cdv cl), L, cl, l, some f, some L⟩ g₁ ⟨loc, own⟩ { s with heap := h₀, toks := t } := by
  have hL0 : s.heap.get? L = none := by
    cases q : s.heap.get? L with
    | none => rfl
    | some o => exact absurd (Heap.lt_size q) (by rw [hL]; exact Nat.lt_irrefl _)
  refine ⟨C.ok, by show Option.map _ _ = _; rw [C.frames]; rfl, fun _ => ⟨rfl, rfl⟩, hg2, fun b o e => hg _ _ (C.base _ _ e), ?_, ⟨m, hns, hl⟩, ⟨fun p hp => ovAt_keep hg (C.ownok.at_ p hp) fun b _ o e => keep _ _ e, fun b hb => let ⟨o, ho⟩ := C.ownok.there hb; hg1 b o ho (C.ownok.hide b hb), C.ownok.nd⟩, ?_, ?_, C.bare, C.os, Nat.succ_le_succ C.dep, by have := C.un; show A.units + 3 ≤ 10 * (D.n + 1); omega, C.hd, C.hx.mono hg, hk, hnd⟩
  · obtain ⟨oL, es, ep, hL', hd, _⟩ := hns
    refine ⟨by show scope.kind ≠ _; rw [hk]; decide, ⟨L, oL, rfl, hg3, hL', fun vs => by rw [hd]; exact fun q => nomatch q⟩, ?_⟩
    exact funFrames_alive C.ff (fun b hb => let ⟨q, o, ho, _⟩ := C.ff.mem hb; hg1 b o ho q) fun b o _ e hd => ⟨o, keep _ _ e, hd⟩
  · intro b hb hn
    rw [frs_cons] at hn
    rcases List.mem_cons.mp hn with rfl | hn
    · obtain ⟨o, ho⟩ := C.ownok.there hb
      rw [hL0] at ho; cases ho
    · exact C.apart b hb hn
  · intro hn
    obtain ⟨_, o, ho, _⟩ := C.ff.mem hn
    rw [hL0] at ho; cases ho

/-- the end, seen from the caller: what was the activation's own is given free -/
theorem CPost.of_post {A : Around} {l : List Env} {h₀ : Heap} {t : Nat} {loc : List (Option AV)} {σ' : AS} {h' : Heap} (C : CInv G A l D g own s) (hout : r.outer = l) (hL : s.heap.get? r.L = none) (keep : ∀ b o, s.heap.get? b = some o → h₀.get? b = some o)
    {g₁ : Heap} (hg : g.StaysIn g₁) (hg1 : ∀ b o, s.heap.get? b = some o → g.get? b = none → g₁.get? b = none) (P : Post G S r g₁ ⟨loc, own⟩ { s with heap := h₀, toks := t } g' σ' s') (hσ : σ'.own = own' ++ rest) (hs : hid own ⊆ hid own')
    (k1 : ∀ b o, s'.heap.get? b = some o → b ∉ frs (envR S r :: r.outer) → s.heap.get? b ≠ none ∨ (g'.get? b).isSome = true ∨ b ∈ hid σ'.own → h'.get? b = some o) (k2 : ∀ b ∈ frs r.outer, ∀ o, s'.heap.get? b = some o → ∃ sl, h'.get? b = some { o with slots := sl }) :
    CPost G A l D g own s (gplus g' s'.heap (hid rest)) own' { s' with heap := h' } := by
  subst hout
  have hh : hid σ'.own = hid own' ++ hid rest := by rw [hσ, hid_append]
  have nd := P.inv.own.nd
  rw [hh] at nd
  have apart : ∀ b ∈ hid own', b ∉ hid rest := fun b hb hn => (List.nodup_append.mp nd).2.2 b hb b hn rfl
  have inr : ∀ b ∈ hid rest, b ∈ hid σ'.own := fun b hb => by rw [hh]; exact List.mem_append_right _ hb
  have inl : ∀ b ∈ hid own', b ∈ hid σ'.own := fun b hb => by rw [hh]; exact List.mem_append_left _ hb
  have gr : g'.StaysIn (gplus g' s'.heap (hid rest)) := gplus_grow P.inv.stay
  have isub : ∀ b ∈ frs r.outer, b ∈ frs (envR S r :: r.outer) := fun b hb => by rw [frs_cons]; exact .tail _ hb
  have fn : ∀ b ∈ frs (envR S r :: r.outer), (gplus g' s'.heap (hid rest)).get? b = none := fun b hb => gplus_none (P.inv.ff.mem hb).1 fun hn => P.inv.apart b (inr b hn) hb
  have old : ∀ b o, s.heap.get? b = some o → b ∉ hid rest := fun b o e hn => by
    rcases P.ownx b (inr b hn) with h | h
    · exact apart b (hs h) hn
    · rw [show ({ s with heap := h₀, toks := t } : Shared).heap.get? b = some o from keep b o e] at h; cases h
  refine ⟨⟨C.ok, C.frames, fun b o e => ?_, fun b o e => gr _ _ (P.inv.base _ _ e), ?_, ⟨fun p hp => ?_, fun b hb => gplus_none (P.inv.own.hide b (inl b hb)) (apart b hb), (List.nodup_append.mp nd).1⟩, fun b hb => ?_, P.inv.bare, P.inv.os, C.dep, C.un, C.hd, C.hx.mono fun b o e => gr _ _ (P.grow _ _ (hg _ _ e))⟩,
    fun b o e => gr _ _ (P.grow _ _ (hg _ _ e)), fun b o e q => ?_, fun b o e n1 n2 => ?_, fun b hb o e => ?_, ⟨hs, fun b hb => (P.ownx b (inl b hb)).imp id fun h => ?_⟩, P.gens⟩
  · rw [gplus_get] at e
    split at e
    · rename_i hc
      refine k1 b o e (fun hb => ?_) (.inr ?_)
      · have := fn b hb
        rw [gplus_get, if_pos hc, e] at this; cases this
      · rw [Bool.or_eq_true] at hc
        rcases hc with hc | hc
        · exact .inl hc
        · exact .inr (inr b (by simpa using hc))
    · cases e
  · refine funFrames_alive P.inv.ff.2.2 (fun b hb => fn b (isub b hb)) fun b o hb e hd => ?_
    obtain ⟨sl, e'⟩ := k2 b hb o e
    exact ⟨_, e', hd⟩
  · refine ovAt_keep gr (P.inv.own.at_ p (by rw [hσ]; exact List.mem_append_left _ hp)) fun b hb o e => ?_
    have hin := inl b (mem_hid hp hb)
    exact k1 b o e (P.inv.apart b hin) (.inr (.inr hin))
  · exact fun hn => P.inv.apart b (inl b hb) (isub b hn)
  · by_cases hb : b ∈ hid own
    · exact gplus_none (P.inv.own.hide b (inl b (hs hb))) (old b o e)
    · exact gplus_none (P.only b o (keep b o e) hb (hg1 b o e q)) (old b o e)
  · have nf : b ∉ frs (envR S r :: r.outer) := by
      rw [frs_cons]
      intro hn
      rcases List.mem_cons.mp hn with rfl | hn
      · rw [hL] at e; cases e
      · exact n1 hn
    exact k1 b o (P.ext b o (keep b o e) nf n2) nf (.inl (by rw [e]; simp))
  · obtain ⟨sl, e1⟩ := P.fr b hb o (keep b o e)
    obtain ⟨sl2, e2⟩ := k2 b hb _ e1
    exact ⟨sl2, e2⟩
  · cases q : s.heap.get? b with
    | none => rfl
    | some o => rw [show ({ s with heap := h₀, toks := t } : Shared).heap.get? b = some o from keep b o q] at h; cases h

/-- an exception whose traceback says a given flight -/
def HeldF (f : Value) (g h₀ h : Heap) (own : List (Addr × OV)) (e : Addr) (x : AX) : Prop :=
  g.get? e = none ∧ h₀.get? e = none ∧ e ∉ hid own ∧ ∃ t tk, g.TupAt t [.str x.msg tk] ∧ ∃ oe vs, h.get? e = some oe ∧ oe.cls = .ref x.C ∧ oe.data = .fields vs ∧ vs[0]? = some (.ref t) ∧ (∃ c n, vs[2]? = some c ∧ CtxN g n c) ∧
    ∃ T oT ts, vs[1]? = some (.ref T) ∧ g.get? T = none ∧ h₀.get? T = none ∧ T ∉ hid own ∧ T ≠ e ∧ h.get? T = some oT ∧ oT.data = .fields ts ∧ ts[3]? = some f
theorem HeldF.none {fl : Option Addr} {g h₀ h : Heap} {own : List (Addr × OV)} {e : Addr} {x : AX} (H : HeldF .none g h₀ h own e x) : ThrAt fl g h₀ h own e x := by
  obtain ⟨a1, a2, a0, t, tk, a3, oe, vs, b1, b2, b3, b4, b6, T, oT, ts, c1, c2, c3, c4, c5, c6, c7, c8⟩ := H
  exact ⟨a1, a2, a0, t, tk, a3, oe, vs, b1, b2, b3, b4, b6, .inr ⟨T, oT, ts, c1, c2, c3, c4, c5, c6, c7, .inl c8⟩⟩
theorem HeldF.held {L : Addr} {g h₀ h : Heap} {own : List (Addr × OV)} {e : Addr} {x : AX} (H : HeldF (rawInt L) g h₀ h own e x) : ThrAt (some L) g h₀ h own e x := by
  obtain ⟨a1, a2, a0, t, tk, a3, oe, vs, b1, b2, b3, b4, b6, T, oT, ts, c1, c2, c3, c4, c5, c6, c7, c8⟩ := H
  exact ⟨a1, a2, a0, t, tk, a3, oe, vs, b1, b2, b3, b4, b6, .inr ⟨T, oT, ts, c1, c2, c3, c4, c5, c6, c7, .inr ⟨L, rfl, c8⟩⟩⟩
/-- what a note needs to know of an exception on its way -/
structure Thrown (L : Addr) (g h₀ h : Heap) (own : List (Addr × OV)) (e : Addr) (x : AX) (oe : Obj) (vs : Array Value) (v1 : Value) : Prop where
  he : h.get? e = some oe
  hd : oe.data = .fields vs
  h1 : vs[1]? = some v1
  tb : v1 = .none ∨ ∃ T oT ts, v1 = .ref T ∧ T ≠ e ∧ h.get? T = some oT ∧ oT.data = .fields ts ∧ (ts[3]? = some .none ∨ ts[3]? = some (rawInt L))
  fe : g.get? e = none ∧ h₀.get? e = none ∧ e ∉ hid own
  fT : ∀ T, v1 = .ref T → g.get? T = none ∧ h₀.get? T = none ∧ T ∉ hid own
  held : ∀ {l : List Env} {f : Value} {h' : Heap} {T : Addr}, (∀ b, h.get? b = none → g.get? b = none ∧ h₀.get? b = none ∧ b ∉ hid own) → NoteAt l e oe vs v1 f h h' T → HeldF f g h₀ h' own e x
theorem ThrAt.thrown {L : Addr} {g h₀ h : Heap} {own : List (Addr × OV)} {e : Addr} {x : AX} (H : ThrAt (some L) g h₀ h own e x) : ∃ oe vs v1, Thrown L g h₀ h own e x oe vs v1 := by
  obtain ⟨a1, a2, a0, t, tk, a3, oe, vs, b1, b2, b3, b4, b6, b5⟩ := H
  have fin : ∀ v1, vs[1]? = some v1 → (v1 = .none ∨ ∃ T oT ts, v1 = .ref T ∧ T ≠ e ∧ h.get? T = some oT ∧ oT.data = .fields ts ∧ (ts[3]? = some .none ∨ ts[3]? = some (rawInt L))) → (∀ T, v1 = .ref T → g.get? T = none ∧ h₀.get? T = none ∧ T ∉ hid own) → Thrown L g h₀ h own e x oe vs v1 := fun v1 h1 tb fT => by
    refine ⟨b1, b3, h1, tb, ⟨a1, a2, a0⟩, fT, fun {l f h' T} fr N => ?_⟩
    obtain ⟨oe', vs', e1, e2, _, e3, e4, e5⟩ := N.exc
    obtain ⟨oT, ts, t1, t2, t3⟩ := N.tb
    have nT : g.get? T = none ∧ h₀.get? T = none ∧ T ∉ hid own := by
      rcases N.new with z | z
      · exact fr T z
      · exact fT T z
    obtain ⟨c, n, c1, c2⟩ := b6
    exact ⟨a1, a2, a0, t, tk, a3, oe', vs', e1, e2.trans b2, e3, (e5 0 (by decide)).trans b4, ⟨c, n, (e5 2 (by decide)).trans c1, c2⟩, T, oT, ts, e4, nT.1, nT.2.1, nT.2.2, N.ne, t1, t2, t3⟩
  rcases b5 with b5 | ⟨T, oT, ts, c1, c2, c3, c4, c5, c6, c7, c8⟩
  · exact ⟨oe, vs, _, fin _ b5 (.inl rfl) fun T z => (nomatch z)⟩
  · refine ⟨oe, vs, _, fin _ c1 (.inr ⟨T, oT, ts, rfl, c5, c6, c7, ?_⟩) fun T' z => by cases z; exact ⟨c2, c3, c4⟩⟩
    rcases c8 with c8 | ⟨L', e', c8⟩
    · exact .inl c8
    · cases e'; exact .inr c8

/-- an exception leaves the activation -/
theorem leave_call (hc : S.comp = false) {A : Around} {l : List Env} {h₀ : Heap} {t : Nat} {loc : List (Option AV)} {σ' : AS} {e : Addr} {x : AX} {R : Result → Shared → Prop} (C : CInv G A l D g own s) (hout : r.outer = l) (hL : s.heap.get? r.L = none) (keep : ∀ b o, s.heap.get? b = some o → h₀.get? b = some o)
    {g₁ : Heap} (hg : g.StaysIn g₁) (hg1 : ∀ b o, s.heap.get? b = some o → g.get? b = none → g₁.get? b = none) (P : Post G S r g₁ ⟨loc, own⟩ { s with heap := h₀, toks := t } g' σ' s') (T : ThrAt (some r.L) g' h₀ s'.heap σ'.own e x) (hσ : σ'.own = own' ++ rest) (hs : hid own ⊆ hid own')
    (hR : ∀ s'' g'', CPost G A l D g own s g'' own' s'' → ThrAt none g'' s.heap s''.heap own' e x → R (.error (.ref e)) s'') :
    wpAny (model G.prog G.w) r.A (leaving (envE S r) (.ref e)) (fun _ s'' => R (.error (.ref e)) s'') (fun e' s'' => R (.error e') s'') s' := by
  rw [P.inv.envE hc]
  have hfrm : r.A.frames = some (envR S r :: r.outer) := by have := P.inv.frames; unfold stk at this; rw [hc] at this; exact this
  obtain ⟨oe, vs, v1, Z⟩ := T.thrown
  have hback : ∀ b, h₀.get? b = none → s.heap.get? b = none := fun b hb => by
    cases q : s.heap.get? b with
    | none => rfl
    | some o => rw [keep b o q] at hb; cases hb
  have fr : ∀ b, s'.heap.get? b = none → g'.get? b = none ∧ h₀.get? b = none ∧ b ∉ hid σ'.own := fun b hb => by
    refine ⟨?_, P.back hb, fun hm => ?_⟩
    · cases q : g'.get? b with
      | none => rfl
      | some o => rw [P.inv.stay _ _ q] at hb; cases hb
    · obtain ⟨o, ho⟩ := P.inv.own.there hm
      rw [ho] at hb; cases hb
  have hid' : ∀ b, b ∉ hid σ'.own → b ∉ hid rest ∧ b ∉ hid own' := fun b hb => by
    rw [hσ, hid_append] at hb
    exact ⟨fun h => hb (List.mem_append_right _ h), fun h => hb (List.mem_append_left _ h)⟩
  have isub : ∀ b ∈ frs r.outer, b ∈ frs (envR S r :: r.outer) := fun b hb => by rw [frs_cons]; exact .tail _ hb
  unfold leaving
  refine wpAny_bind (noteX hfrm P.inv.ff rfl Z.he Z.hd Z.h1 Z.tb fun h1 T1 N1 => ?_)
  refine setFlightX (s := { s' with heap := h1 }) (fr := none) P.inv.ff (fun b hb => ?_) N1 fun h2 N2 => ?_
  · obtain ⟨_, o, ho, hnf⟩ := P.inv.ff.mem hb
    obtain ⟨sl, q⟩ := N1.frames b hb o ho
    exact ⟨_, q, hnf⟩
  · have H := Z.held fr N2
    have cp := CPost.of_post (own' := own') (h' := h2) C hout hL keep hg hg1 P hσ hs (fun b o ho hn hz => ?_) fun b hb o ho => N2.frames b (isub b hb) o ho
    · obtain ⟨a1, a2, a0, t, tk, a3, oe', vs', b1, b2, b3, b4, ⟨c, n, b5, b6⟩, T, oT, ts, c1, c2, c3, c4, c5, c6, c7, c8⟩ := H
      refine hR _ _ cp (HeldF.none ⟨gplus_none a1 (hid' e a0).1, hback e a2, (hid' e a0).2, t, tk, a3.keeps (gplus_grow P.inv.stay), oe', vs', b1, b2, b3, b4, ⟨c, n, b5, b6.mono (gplus_grow P.inv.stay)⟩, T, oT, ts, c1, gplus_none c2 (hid' _ c4).1, hback _ c3, (hid' _ c4).2, c5, c6, c7, c8⟩)
    · have no : ∀ c, c = b → g'.get? c = none → h₀.get? c = none → c ∉ hid σ'.own → False := fun c hcb z1 z2 z3 => by
        subst hcb
        rcases hz with hz | hz | hz
        · exact hz (hback _ z2)
        · rw [z1] at hz; cases hz
        · exact z3 hz
      refine N2.keep b o ho hn (fun z => no e z.symm Z.fe.1 Z.fe.2.1 Z.fe.2.2) fun z => ?_
      obtain ⟨q1, q2, q3⟩ := Z.fT b z
      exact no b rfl q1 q2 q3

def retA : AF → AV
  | .ret a => a
  | _ => .none
/-- what a body must end in -/
def EndF (own : List (Addr × OV)) (K : AV → List (Addr × OV) → Prop) : AF → AS → Prop := fun f σ' => ∃ own' rest, σ'.own = own' ++ rest ∧ hid own ⊆ hid own' ∧ K (retA f) own'
def EndX (own : List (Addr × OV)) (KX : AX → List (Addr × OV) → Prop) : AX → AS → Prop := fun x σ' => ∃ own' rest, σ'.own = own' ++ rest ∧ hid own ⊆ hid own' ∧ KX x own'

theorem fn_run {A : Around} {l : List Env} {f : Addr} {cdv : Value} {qual : Str} {scope : Scope} {cl : List (Str × Addr)} {names : List Str} {loc : List (Option AV)} {h₀ : Heap} {m : Str → Option Value} {t : Nat} {body : List Stmt} {R : Result → Shared → Prop}
    {K : AV → List (Addr × OV) → Prop} {KX : AX → List (Addr × OV) → Prop} {L : Addr}
    (C : CInv G A l D g own s) (hL : L = s.heap.objs.size) (keep : ∀ b o, s.heap.get? b = some o → h₀.get? b = some o) (hns : h₀.Ns L m) (hk : scope.kind = .function) (hnd : names.Nodup) {g₁ : Heap} (hg : g.StaysIn g₁) (hg1 : ∀ b o, s.heap.get? b = some o → g.get? b = none → g₁.get? b = none) (hg2 : g₁.StaysIn h₀) (hg3 : g₁.get? L = none)
    (hl : LocOk g₁ ⟨qual, scope, f, cdv, names, D.up, false⟩ ⟨A.deeper (envX qual scope L f cdv cl), L, cl, l, some f, some L⟩ m loc)
    (hb : EX G ⟨qual, scope, f, cdv, names, D.up, false⟩ ⟨loc, own⟩ body (EndF own K) (EndX own KX))
    (hR : ∀ v s' g' a own', CPost G A l D g own s g' own' s' → RelV g' v a → K a own' → R (.ok (.ret v)) s')
    (hX : ∀ e s' g' x own', CPost G A l D g own s g' own' s' → ThrAt none g' s.heap s'.heap own' e x → KX x own' → R (.error (.ref e)) s') :
    wpAny (model G.prog G.w) (A.deeper (envX qual scope L f cdv cl)) (execs body (envX qual scope L f cdv cl)) (fun f s' => R (.ok (.ret (match f with | .ret v => v | _ => .none))) s')
      (fun e s' => wpAny (model G.prog G.w) (A.deeper (envX qual scope L f cdv cl)) (leaving (envX qual scope L f cdv cl) e) (fun _ s'' => R (.error e) s'') (fun e' s'' => R (.error e') s'') s') { s with heap := h₀, toks := t } := by
  have I := Inv.enter (t := t) (cl := cl) (f := f) (cdv := cdv) (qual := qual) C hL keep hns hk hnd hg hg1 hg2 hg3 hl
  have hL0 : s.heap.get? L = none := by
    cases q : s.heap.get? L with
    | none => rfl
    | some o => exact absurd (Heap.lt_size q) (by rw [hL]; exact Nat.lt_irrefl _)
  refine hb _ g₁ _ I _ _ (fun fl s' g' a σ' P Rf q => ?_) fun e s' g' x σ' P T q => ?_
  · obtain ⟨own', rest, hσ, hs, q⟩ := q
    refine hR _ s' _ _ own' (CPost.of_post (h' := s'.heap) C rfl hL0 keep hg hg1 P hσ hs (fun b o e _ _ => e) fun b _ o e => ⟨o.slots, e⟩) ?_ q
    cases Rf with
    | ret Rv => exact Rv.mono (gplus_grow P.inv.stay)
    | _ => exact .none
  · obtain ⟨own', rest, hσ, hs, q⟩ := q
    exact leave_call (R := R) rfl C rfl hL0 keep hg hg1 P T hσ hs fun s'' g'' cp T => hX e s'' g'' x own' cp T q

/-- the contract of a def without cells of its own -/
theorem Fn_def {f : Addr} {oc od : _} {osl : _} {name qual : Str} {params : Arguments} {body : List Stmt} {scope : Scope} {cl : List (Str × Addr)} {dV kV doc pm cdv ct : Value} {an : Option Addr} {as : List AV} {kw : List (Str × AV)} {names : List Str} {loc : List (Option AV)}
    {K : AV → List (Addr × OV) → Prop} {KX : AX → List (Addr × OV) → Prop}
    (ho : G.K.lookup f = some ⟨oc, od, .func (fnX name qual params body scope cl dV kV doc pm an cdv ct), osl⟩) (hcd : codeIn G.K cdv qual = true) (hD : D.n < recursionLimit)
    (hbind : ∀ (g : Heap) (s : Shared) (vs ws : List Value), G.K.In s.heap → RelL g vs as → RelL g ws (kw.map (·.2)) → ∃ binds, BindsTo s (fnX name qual params body scope cl dV kV doc pm an cdv ct) ⟨vs, (kw.map (·.1)).zip ws⟩ binds ∧
      (∀ y ∈ binds, scope.names.lookup y.1 = some .local) ∧ ∀ (i : Nat) (x : Str) (a : AV), names[i]? = some x → loc[i]? = some (some a) → ∃ v, binds.reverse.lookup x = some v ∧ RelV g v a)
    (hb : EX G ⟨qual, scope, f, cdv, names, D.up, false⟩ ⟨loc, own⟩ body (EndF own K) (EndX own KX))
    (hcell : ∀ x ∈ scope.names, x.2 ≠ .cell := by decide) (hnd : names.Nodup := by decide) (hloc : ∀ x ∈ names, scope.names.lookup x = some .local := by decide) (hk : scope.kind = .function := by rfl) (hco : scope.isCoroutine = false := by rfl) (hgen : scope.isGenerator = false := by rfl) :
    Fn G D (.ref f) as kw own K KX := fun A l g s vs ws C R1 R2 R hR hX => by
  have X : G.K.In s.heap := C.ok.K.keeps fun b o e => C.stay _ _ (C.base _ _ e)
  obtain ⟨binds, h1, h2, h3⟩ := hbind g s vs ws X R1 R2
  refine codeAny_call_def (fd := fnX name qual params body scope cl dV kV doc pm an cdv ct) (body := body) (binds := binds) (Nat.lt_of_le_of_lt C.dep hD) (X _ _ ho) rfl (C.ok.nolimit.keeps fun b o e => C.stay _ _ (C.base _ _ e)) (codeRec_of X hcd) rfl h1 hcell h2 (fun h₀ hns hk₀ => ?_) hco hgen hk
  have g0 : g.get? s.heap.objs.size = none := C.stay.fresh
  refine fn_run (f := f) (qual := qual) (cl := cl) C rfl hk₀ hns hk hnd (fun _ _ e => e) (fun _ _ _ e => e) (fun b o e => hk₀ _ _ (C.stay _ _ e)) g0 (fun i x a hi ha => ?_) hb hR hX
  obtain ⟨v, hv, Rv⟩ := h3 i x a hi ha
  exact ⟨v, .inl ⟨hloc x (List.mem_of_getElem? hi), hv⟩, Rv⟩

/-- the contract of a def with cells of its own (and no closure) -/
theorem Fn_defC {f : Addr} {oc od : _} {osl : _} {name qual : Str} {params : Arguments} {body : List Stmt} {scope : Scope} {dV kV doc pm cdv ct : Value} {an : Option Addr} {as : List AV} {names : List Str} {loc : List (Option AV)}
    {K : AV → List (Addr × OV) → Prop} {KX : AX → List (Addr × OV) → Prop}
    (ho : G.K.lookup f = some ⟨oc, od, .func (fnX name qual params body scope [] dV kV doc pm an cdv ct), osl⟩) (hcd : codeIn G.K cdv qual = true) (hD : D.n < recursionLimit)
    (hbind : ∀ (g : Heap) (vs : List Value), RelL g vs as → ∃ binds, bindArgs (fnX name qual params body scope [] dV kV doc pm an cdv ct) ⟨vs, []⟩ = pure binds ∧
      (∀ y ∈ binds, scope.names.lookup y.1 = some .local ∨ (scope.names.lookup y.1 = some .cell ∧ ∀ n : Nat, ((cellsFrom n scope.names []).lookup y.1).isSome = true)) ∧
      ∀ (i : Nat) (x : Str) (a : AV), names[i]? = some x → loc[i]? = some (some a) → ∃ v, RelV g v a ∧ ∀ kind : Str → Option NameKind, (∀ y, kind y = scope.names.lookup y) →
        (scope.names.lookup x = some .local ∧ bindL kind binds (fun _ => none) x = some v) ∨ (scope.names.lookup x = some .cell ∧ bindC kind binds (fun _ => none) x = some v ∧ ∀ n : Nat, ((cellsFrom n scope.names []).lookup x).isSome = true))
    (hb : EX G ⟨qual, scope, f, cdv, names, D.up, false⟩ ⟨loc, own⟩ body (EndF own K) (EndX own KX))
    (hnd : names.Nodup := by decide) (hk : scope.kind = .function := by rfl) (hco : scope.isCoroutine = false := by rfl) (hgen : scope.isGenerator = false := by rfl) :
    Fn G D (.ref f) as [] own K KX := fun A l g s vs ws C R1 R2 R hR hX => by
  have X : G.K.In s.heap := C.ok.K.keeps fun b o e => C.stay _ _ (C.base _ _ e)
  obtain ⟨binds, h1, h2, h3⟩ := hbind g vs R1
  cases R2
  show codeAny _ _ (.call (.ref f) ⟨vs, []⟩) R s
  refine codeAny_call_cells (fd := fnX name qual params body scope [] dV kV doc pm an cdv ct) (body := body) (binds := binds) (Nat.lt_of_le_of_lt C.dep hD) (X _ _ ho) rfl (C.ok.nolimit.keeps fun b o e => C.stay _ _ (C.base _ _ e)) (codeRec_of X hcd) rfl h1 rfl (fun y hy => (h2 y hy).imp id fun z => ⟨z.1, z.2 _⟩) (fun s₁ J => ?_) hco hgen hk
  obtain ⟨h', tk, rfl, keep⟩ := J.done
  have hfresh : ∀ b, s.heap.objs.size ≤ b → s.heap.get? b = none := fun b hb => by
    cases q : s.heap.get? b with
    | none => rfl
    | some o => exact absurd (Heap.lt_size q) (Nat.not_lt.mpr hb)
  have hgf : ∀ b, s.heap.get? b = none → g.get? b = none := fun b hb => by
    cases q : g.get? b with
    | none => rfl
    | some o => rw [C.stay _ _ q] at hb; cases hb
  let N := (cellsFrom (s.heap.objs.size + 1) scope.names []).map (·.2)
  have hN : ∀ b ∈ N, s.heap.objs.size < b := fun b hb => by
    obtain ⟨⟨n, c⟩, hm, rfl⟩ := List.mem_map.mp hb
    exact J.above n c hm
  have sg : g.StaysIn h' := fun b o e => keep _ _ (C.stay _ _ e)
  refine fn_run (f := f) (qual := qual) (cl := cellsFrom (s.heap.objs.size + 1) scope.names []) (g₁ := gplus g h' N) C rfl keep J.toInCall.ns hk hnd (gplus_grow sg) (fun b o e q => gplus_none q fun hb => ?_) gplus_stay (gplus_none (hgf _ (hfresh _ (Nat.le_refl _))) fun hb => Nat.lt_irrefl _ (hN _ hb)) (fun i x a hi ha => ?_) hb hR hX
  · rw [hfresh b (Nat.le_of_lt (hN b hb))] at e; cases e
  · obtain ⟨v, Rv, hv⟩ := h3 i x a hi ha
    refine ⟨v, ?_, Rv.mono (gplus_grow sg)⟩
    rcases hv (callEnvC (fnX name qual params body scope [] dV kV doc pm an cdv ct) s.heap.objs.size f).kindOf (fun _ => rfl) with ⟨q1, q2⟩ | ⟨q1, q2, q3⟩
    · exact .inl ⟨q1, q2⟩
    · obtain ⟨c, hc⟩ := Option.isSome_iff_exists.mp (q3 (s.heap.objs.size + 1))
      refine .inr ⟨.inl q1, c, hc, ?_⟩
      obtain ⟨o, ho', hd⟩ := J.cell x c hc
      rw [q2] at hd
      exact ⟨o, gplus_new (List.mem_map.mpr ⟨(x, c), mem_of_lookup hc, rfl⟩) ho', hd⟩
end
end Mine
end
/-! Lg6 -/
section
open PySem PySem.Calls PyProof.Rows
open PySem.W
namespace Mine
/-- all that stands, but one -/
def allN (h : Heap) (L : Addr) : List (Addr × Obj) := (List.range h.objs.size).filterMap fun b => if b = L then none else (h.get? b).map fun o => (b, o)
theorem allN_mem {h : Heap} {L b : Addr} {o : Obj} (e : h.get? b = some o) (n : b ≠ L) : (b, o) ∈ allN h L := by
  refine List.mem_filterMap.mpr ⟨b, List.mem_range.mpr (Heap.lt_size e), ?_⟩
  rw [if_neg n, e]; rfl
theorem emp_none (b : Addr) : (({} : Heap)).get? b = none := by
  cases q : (({} : Heap)).get? b with
  | none => rfl
  | some o => exact absurd (Heap.lt_size q) (Nat.not_lt_zero _)
theorem allN_news (h : Heap) (L : Addr) : News {} L h (allN h L) := fun p hp => by
  obtain ⟨b, hb, e⟩ := List.mem_filterMap.mp hp
  split at e
  · cases e
  · rename_i hn
    obtain ⟨o, ho, rfl⟩ := Option.map_eq_some_iff.mp e
    exact ⟨ho, hn, emp_none b⟩
theorem emp_fr {h : Heap} {L : Addr} {m : Str → Option Value} (x : h.Ns L m) : Fr {} L h m := ⟨x, (fun b o e => by rw [emp_none] at e; cases e), Nat.zero_le _⟩

section
variable {G : Gb} {S : St} {r : Rt} {g g' : Heap} {σ : AS} {s s' : Shared} {k : AV → AS → Prop} {kx : AX → AS → Prop} {kf : AF → AS → Prop}

theorem Inv.L_none (I : Inv G S r g σ s) : g.get? r.L = none := (I.ff.mem (b := r.L) (by simp)).1
theorem Inv.own_ne (I : Inv G S r g σ s) {b : Addr} (hb : b ∈ hid σ.own) : b ≠ r.L := fun z => I.apart b hb (by rw [z, frs_cons]; exact .head _)
theorem Inv.stay_ne (I : Inv G S r g σ s) {b : Addr} {o : Obj} (e : g.get? b = some o) : b ≠ r.L := fun z => by rw [z, I.L_none] at e; cases e

/-- all but the frame stays; the new objects at N are never changed from now on -/
theorem Post.grownL (I : Inv G S r g σ s) {h' : Heap} {m : Str → Option Value} (hl : LocOk g S r m σ.loc) (hn : h'.Ns r.L m) (st' : ∀ b o, b ≠ r.L → s.heap.get? b = some o → h'.get? b = some o) (N : List Addr) (hN : ∀ b ∈ N, s.heap.get? b = none) (t : Nat) :
    Post G S r g σ s (gplus g h' N) σ { s with heap := h', toks := t } := by
  have st : g.StaysIn h' := fun b x e => st' b x (I.stay_ne e) (I.stay b x e)
  have old : ∀ b o, s.heap.get? b = some o → g.get? b = none → (gplus g h' N).get? b = none := fun b o e q => gplus_none q fun h => by rw [hN b h] at e; cases e
  have fL : r.L ∈ frs (envR S r :: r.outer) := by rw [frs_cons]; exact .head _
  refine ⟨⟨I.ok, I.frames, I.ev, gplus_stay, fun b x e => gplus_grow st b x (I.base b x e), ?_, ⟨m, hn, fun i x a h1 h2 => ?_⟩, ⟨fun p hp => ?_, fun b hb => ?_, I.own.nd⟩, I.apart, I.lone, I.bare, I.os, I.dep, I.un, I.hd, I.hx.mono (gplus_grow st), I.fun_, I.nd⟩, gplus_grow st, fun b o e _ q => old b o e q,
    fun b x e n _ => st' _ _ (fun z => n (z ▸ fL)) e, fun b hb x e => ⟨x.slots, st' _ _ (fun z => I.lone (z ▸ hb)) e⟩, fun b hb => .inl hb, fun _ _ e => e, fun b hb => let ⟨_, ho⟩ := I.own.there hb; ⟨_, st' _ _ (I.own_ne hb) ho⟩⟩
  · refine funFrames_alive I.ff (fun b hb => ?_) fun b o _ e hd => ?_
    · obtain ⟨q, o, ho, _⟩ := I.ff.mem hb
      exact old b o ho q
    · by_cases z : b = r.L
      · subst z
        obtain ⟨oL, es, ep, hL', hd', _⟩ := hn
        exact ⟨oL, hL', fun vs => by rw [hd']; exact fun q => nomatch q⟩
      · exact ⟨o, st' _ _ z e, hd⟩
  · obtain ⟨v, hv, hr⟩ := hl i x a h1 h2
    refine ⟨v, ?_, hr.mono (gplus_grow st)⟩
    rcases hv with h | ⟨h, c, hc, ⟨oc, hoc, hd⟩⟩
    · exact .inl h
    · exact .inr ⟨h, c, hc, oc, gplus_grow st _ _ hoc, hd⟩
  · exact ovAt_keep (gplus_grow st) (I.own.at_ p hp) fun b hb o e => st' b o (I.own_ne (mem_hid hp hb)) e
  · obtain ⟨o, ho⟩ := I.own.there hb
    exact old b o ho (I.own.hide b hb)

/-- from the ledger's words: all of the old is kept, and one new object stands -/
theorem Post.of_news (I : Inv G S r g σ s) {h' : Heap} {m : Str → Option Value} {a : Addr} {o : Obj} (hl : LocOk g S r m σ.loc) (F' : Fr {} r.L h' m) (N' : News {} r.L h' ((a, o) :: allN s.heap r.L)) (ha : s.heap.get? a = none) (t : Nat) :
    ∃ g', Post G S r g σ s g' σ { s with heap := h', toks := t } ∧ g'.get? a = some o :=
  ⟨_, Post.grownL I hl F'.ns (fun b ob n e => (N' _ (.tail _ (allN_mem e n))).1) [a] (fun b hb => by rw [List.mem_singleton.mp hb]; exact ha) t, gplus_new (.head _) (N' _ (.head _)).1⟩
theorem Post.of_fr (I : Inv G S r g σ s) {h' : Heap} {m : Str → Option Value} (hl : LocOk g S r m σ.loc) (F' : Fr {} r.L h' m) (N' : News {} r.L h' (allN s.heap r.L)) (t : Nat) : ∃ g', Post G S r g σ s g' σ { s with heap := h', toks := t } :=
  ⟨_, Post.grownL I hl F'.ns (fun b ob n e => (N' _ (allN_mem e n)).1) [] (fun _ h => nomatch h) t⟩
theorem none_size (h : Heap) : h.get? h.objs.size = none := by
  cases q : h.get? h.objs.size with
  | none => rfl
  | some o => exact absurd (Heap.lt_size q) (Nat.lt_irrefl _)

/-! numbers -/
variable {a b : Int} {x y : Str} {p q : Bool} {u v : Array UInt8}
theorem BO_add (h : k (.int (a + b)) σ) : BO G S σ .Add (.int a) (.int b) k kx := fun r g s I va vb Ra Rb Q E hk _ => by
  cases Ra; cases Rb; exact P.add_int (hk _ _ _ _ _ (.toks I _) (.int _ _) h)
theorem BO_sub (h : k (.int (a - b)) σ) : BO G S σ .Sub (.int a) (.int b) k kx := fun r g s I va vb Ra Rb Q E hk _ => by
  cases Ra; cases Rb; exact P.sub_int (hk _ _ _ _ _ (.toks I _) (.int _ _) h)
theorem BO_mul (h : k (.int (a * b)) σ) (hm : IntMulOk a b) : BO G S σ .Mult (.int a) (.int b) k kx := fun r g s I va vb Ra Rb Q E hk _ => by
  cases Ra; cases Rb; exact P.mul_int (hk _ _ _ _ _ (.toks I _) (.int _ _) h) hm
theorem BO_mod (hb : b ≠ 0) (h : k (.int (a.fmod b)) σ) : BO G S σ .Mod (.int a) (.int b) k kx := fun r g s I va vb Ra Rb Q E hk _ => by
  cases Ra; cases Rb; exact mod_int' hb (hk _ _ _ _ _ (.toks I _) (.int _ _) h)
theorem BO_div (hb : b ≠ 0) (hp : Builtin.divisionGoesByPylong a b = false) (h : k (.int (a.fdiv b)) σ) : BO G S σ .FloorDiv (.int a) (.int b) k kx := fun r g s I va vb Ra Rb Q E hk _ => by
  cases Ra; cases Rb; exact floordiv_int hb (hk _ _ _ _ _ (.toks I _) (.int _ _) h) (.inl hp)
theorem BO_pow (hn : 0 ≤ b) (hn2 : b ≤ 1000000) (ha : a.natAbs < 2 ^ 64) (h : k (.int (a ^ b.toNat)) σ) : BO G S σ .Pow (.int a) (.int b) k kx := fun r g s I va vb Ra Rb Q E hk _ => by
  cases Ra; cases Rb; exact pow_int_small hn hn2 ha (hk _ _ _ _ _ (.toks I _) (.int _ _) h)
theorem CO_lt (h : k (.bool (decide (a < b))) σ) : CO G S σ .Lt (.int a) (.int b) k kx := fun r g s I va vb Ra Rb Q E hk _ => by
  cases Ra; cases Rb; exact P.lt_int (hk _ _ _ _ _ (.refl I) (.bool _) h)
theorem CO_le (h : k (.bool (decide (a ≤ b))) σ) : CO G S σ .LtE (.int a) (.int b) k kx := fun r g s I va vb Ra Rb Q E hk _ => by
  cases Ra; cases Rb; exact P.le_int (hk _ _ _ _ _ (.refl I) (.bool _) h)
theorem CO_gt (h : k (.bool (decide (a > b))) σ) : CO G S σ .Gt (.int a) (.int b) k kx := fun r g s I va vb Ra Rb Q E hk _ => by
  cases Ra; cases Rb; exact P.gt_int (hk _ _ _ _ _ (.refl I) (.bool _) h)
theorem CO_ge (h : k (.bool (decide (a ≥ b))) σ) : CO G S σ .GtE (.int a) (.int b) k kx := fun r g s I va vb Ra Rb Q E hk _ => by
  cases Ra; cases Rb; exact P.ge_int (hk _ _ _ _ _ (.refl I) (.bool _) h)
theorem CO_eq (h : k (.bool (a == b)) σ) : CO G S σ .Eq (.int a) (.int b) k kx := fun r g s I va vb Ra Rb Q E hk _ => by
  cases Ra; cases Rb; exact P.eq_int (hk _ _ _ _ _ (.refl I) (.bool _) h)
theorem CO_ne (h : k (.bool (a != b)) σ) : CO G S σ .NotEq (.int a) (.int b) k kx := fun r g s I va vb Ra Rb Q E hk _ => by
  cases Ra; cases Rb; exact P.ne_int (hk _ _ _ _ _ (.refl I) (.bool _) h)
theorem TU_bool {kb : Bool → AS → Prop} (h : kb p σ) : TU G S σ (.bool p) kb kx := fun r g s I va Ra Q E hk _ => by
  cases Ra; exact wpAny_pure (hk _ _ _ _ _ (.refl I) rfl h)
theorem TU_none {kb : Bool → AS → Prop} (h : kb false σ) : TU G S σ .none kb kx := fun r g s I va Ra Q E hk _ => by
  cases Ra; exact wpAny_pure (hk _ _ _ _ _ (.refl I) rfl h)

/-! texts -/
theorem BO_str (hz : x.length + y.length ≤ sizeLine) (h : k (.str (x ++ y)) σ) : BO G S σ .Add (.str x) (.str y) k kx := fun r g s I va vb Ra Rb Q E hk _ => by
  cases Ra; cases Rb; exact SB.add (fun t' _ => hk _ _ _ _ _ (.toks I _) (.str _ t') h) hz
theorem CO_str_eq (h : k (.bool (x == y)) σ) : CO G S σ .Eq (.str x) (.str y) k kx := fun r g s I va vb Ra Rb Q E hk _ => by
  cases Ra; cases Rb
  have e : (x.cps.toList == y.cps.toList) = (x == y) := by
    rw [Bool.eq_iff_iff, beq_iff_eq, beq_iff_eq]
    exact ⟨fun h => by cases x; cases y; simp at h; simp [h], fun h => by rw [h]⟩
  exact P.eq_str (e ▸ hk _ _ _ _ _ (.refl I) (.bool _) h)
theorem CO_str_ne (h : k (.bool (x != y)) σ) : CO G S σ .NotEq (.str x) (.str y) k kx := fun r g s I va vb Ra Rb Q E hk _ => by
  cases Ra; cases Rb
  have e : (x.cps.toList != y.cps.toList) = (x != y) := by
    have : (x.cps.toList == y.cps.toList) = (x == y) := by
      rw [Bool.eq_iff_iff, beq_iff_eq, beq_iff_eq]
      exact ⟨fun h => by cases x; cases y; simp at h; simp [h], fun h => by rw [h]⟩
    rw [bne, bne, this]
  exact P.ne_str (e ▸ hk _ _ _ _ _ (.refl I) (.bool _) h)

/-! octets -/
theorem BO_bytes (hz : u.size + v.size ≤ 16777216) (h : k (.bytes (u ++ v)) σ) : BO G S σ .Add (.bytes u) (.bytes v) k kx := fun r g s I va vb Ra Rb Q E hk _ => by
  cases Ra; cases Rb; exact KBy.add_bytes hz fun t' _ => hk _ _ _ _ _ (.toks I _) (.bytes _ t') h
theorem BO_bytes_mul {l : List UInt8} (hb : l ≠ []) (hlo : -1048576 ≤ a) (hn : a ≤ 1048576) (hs : l.length ≤ 16) (h : k (.bytes ((List.replicate a.toNat l).flatten).toArray) σ) : BO G S σ .Mult (.bytes l.toArray) (.int a) k kx := fun r g s I va vb Ra Rb Q E hk _ => by
  cases Ra; cases Rb; exact bytes_mul_any hb hlo hn hs fun t' _ => hk _ _ _ _ _ (.toks I _) (.bytes _ t') h
theorem CO_bytes_eq (h : k (.bool (u.toList == v.toList)) σ) : CO G S σ .Eq (.bytes u) (.bytes v) k kx := fun r g s I va vb Ra Rb Q E hk _ => by
  cases Ra; cases Rb; exact eq_bytes (hk _ _ _ _ _ (.refl I) (.bool _) h)
theorem TU_bytes {kb : Bool → AS → Prop} (hz : u.size ≤ 1099511627776) (h : kb ((u.size : Int) != 0) σ) : TU G S σ (.bytes u) kb kx := fun r g s I va Ra Q E hk _ => by
  cases Ra; exact truthy_bytes hz (hk _ _ _ _ _ (.toks I _) rfl h)

/-! is -/
def AV.isNone : AV → Bool
  | .none => true
  | .v x => x == .none
  | _ => false
theorem RelV.isNone {va : Value} {d : AV} (R : RelV g va d) : (va == .none) = d.isNone := by
  cases R <;> rfl
theorem CO_isNone {d : AV} (h : k (.bool d.isNone) σ) : CO G S σ .Is d .none k kx := fun r g s I va vb Ra Rb Q E hk _ => by
  cases Rb; exact is_none_gen (Ra.isNone ▸ hk _ _ _ _ _ (.refl I) (.bool _) h)
theorem CO_notNone {d : AV} (h : k (.bool (!d.isNone)) σ) : CO G S σ .IsNot d .none k kx := fun r g s I va vb Ra Rb Q E hk _ => by
  cases Rb; exact isnot_none_gen (Ra.isNone ▸ hk _ _ _ _ _ (.refl I) (.bool _) h)
theorem CO_isBool (h : k (.bool (p == q)) σ) : CO G S σ .Is (.bool p) (.bool q) k kx := fun r g s I va vb Ra Rb Q E hk _ => by
  cases Ra; cases Rb; exact is_bool (hk _ _ _ _ _ (.refl I) (.bool _) h)

/-! rows -/
variable {ds es : List AV}
theorem BO_list (hz : ds.length + es.length ≤ sizeLine) (h : k (.list (ds ++ es)) σ) : BO G S σ .Add (.list ds) (.list es) k kx := fun r g s I va vb Ra Rb Q E hk _ => by
  cases Ra with
  | list ha Ra =>
    cases Rb with
    | list hb Rb =>
      obtain ⟨m, hm, hl⟩ := I.loc
      refine add_lists (emp_fr hm) (allN_news _ _) (IsList.mono I.stay ha) (IsList.mono I.stay hb) (fun h' F' N' => ?_) (by rw [Ra.length, Rb.length]; exact hz)
      obtain ⟨g', P, e⟩ := Post.of_news I hl F' N' (none_size _) s.toks
      exact hk _ _ _ _ _ P (.list ⟨_, e, rfl, _, rfl⟩ ((Ra.append Rb).mono P.grow)) h
end
end Mine
end
/-! Lg7 -/
section
open PySem PySem.Calls PyProof.Rows
open PySem.W
namespace Mine
section
variable {G : Gb} {S : St} {r : Rt} {g g' : Heap} {σ : AS} {s s' : Shared} {k : AV → AS → Prop} {kx : AX → AS → Prop} {kf : AF → AS → Prop} {ds es : List AV}

/-! equality of two values of the same content -/
mutual
def gr : Nat → AV → Bool
  | _, .none => true
  | _, .bool _ => true
  | _, .int _ => true
  | _, .str _ => true
  | _, .bytes _ => true
  | n + 1, .list ds => grs n ds
  | n + 1, .tuple ds => grs n ds
  | _, _ => false
def grs : Nat → List AV → Bool
  | _, [] => true
  | n, d :: ds => gr n d && grs n ds
end
theorem EqAt_bytes {A : Around} {s : Shared} (b : Array UInt8) (t u : Tok) : SeqAt.EqAt A s (.bytes b t) (.bytes b u) true := fun prog w E Q hq => by
  unfold eqBool
  refine wpAny_holding ?_
  refine wpAny_ite_split (fun _ => wpAny_bind (wpAny_rule (wpAny_pure hq))) (fun _ => ?_)
  exact wpAny_bind (eq_bytes (wpAny_truthy_bool (by rw [beq_self_eq_true]; exact hq)))
theorem IsTup.isTuple {h : Heap} {a : Addr} {vs : Array Value} (x : IsTup h a vs) : h.IsTuple a vs := x
mutual
theorem eq_same : ∀ (n : Nat) (d : AV), gr n d = true → ∀ (A : Around) (s : Shared) (a b : Value), RelV s.heap a d → RelV s.heap b d → A.units + n < cLine → SeqAt.EqAt A s a b true
  | _, .none, _, A, s, _, _, .none, .none, _ => SeqAt.EqAt.same _
  | _, .bool _, _, A, s, _, _, .bool _, .bool _, _ => SeqAt.EqAt.same _
  | _, .int i, _, A, s, _, _, .int _ t, .int _ u, _ => by
    have := SeqAt.EqAt.int_int (A := A) (s := s) i t i u
    rwa [beq_self_eq_true] at this
  | _, .str x, _, A, s, _, _, .str _ t, .str _ u, _ => by
    have := SeqAt.EqAt.str_str (A := A) (s := s) x t x u
    rwa [beq_self_eq_true] at this
  | _, .bytes b, _, A, s, _, _, .bytes _ t, .bytes _ u, _ => EqAt_bytes b t u
  | 0, .list ds, h, A, s, _, _, _, _, _ => by simp [gr] at h
  | n + 1, .list ds, h, A, s, _, _, .list (a := l) (vs := vs) ha Ra, .list (a := m) (vs := ws) hb Rb, hu => by
    by_cases e : l = m
    · subst e; exact SeqAt.EqAt.same _
    · have h1 : vs.length = ws.length := by rw [Ra.length, Rb.length]
      have z := SeqAt.RcAt.lists (A := A) (e := fun _ => true) ha hb (by simpa using h1) (by omega) fun j j1 j2 => by
        have := eqs_same n ds (by simpa [gr] using h) A.in1 s vs ws Ra Rb (show A.units + 1 + n < cLine by omega) j (by simpa using j1) (by simpa using j2)
        simpa using this
      have q := SeqAt.EqAt.of_refs e z
      rwa [show (List.range vs.toArray.size).all (fun _ => true) = true from by simp] at q
  | 0, .tuple ds, h, A, s, _, _, _, _, _ => by simp [gr] at h
  | n + 1, .tuple ds, h, A, s, _, _, .tuple (a := l) (vs := vs) ha Ra, .tuple (a := m) (vs := ws) hb Rb, hu => by
    by_cases e : l = m
    · subst e; exact SeqAt.EqAt.same _
    · have h1 : vs.length = ws.length := by rw [Ra.length, Rb.length]
      have z := SeqAt.RcAt.tuples (A := A) (e := fun _ => true) (IsTup.isTuple (tup_is ha)) (IsTup.isTuple (tup_is hb)) (by omega) fun j j1 j2 => by
        have := eqs_same n ds (by simpa [gr] using h) A.in1 s vs ws Ra Rb (show A.units + 1 + n < cLine by omega) j (by simpa using j1) (by simpa using j2)
        simpa using this
      have q := SeqAt.EqAt.of_refs e z
      rwa [show ((List.range (min vs.toArray.size ws.toArray.size)).all (fun _ => true) && vs.toArray.size == ws.toArray.size) = true from by simp [h1]] at q
  | _, .obj _ _, h, _, _, _, _, _, _, _ => by simp [gr] at h
  | _, .v _, h, _, _, _, _, _, _, _ => by simp [gr] at h
  | _, .own _, h, _, _, _, _, _, _, _ => by simp [gr] at h
  | _, .exc _ _, h, _, _, _, _, _, _, _ => by simp [gr] at h
  | _, .slice _ _, h, _, _, _, _, _, _, _ => by simp [gr] at h
theorem eqs_same : ∀ (n : Nat) (ds : List AV), grs n ds = true → ∀ (A : Around) (s : Shared) (vs ws : List Value), RelL s.heap vs ds → RelL s.heap ws ds → A.units + n < cLine → ∀ j (h1 : j < vs.length) (h2 : j < ws.length), SeqAt.EqAt A s vs[j] ws[j] true
  | n, [], _, A, s, _, _, .nil, .nil, _, j, h1, _ => absurd h1 (Nat.not_lt_zero _)
  | n, d :: ds, h, A, s, _, _, .cons R Rs, .cons R' Rs', hu, j, h1, h2 => by
    rw [grs, Bool.and_eq_true] at h
    cases j with
    | zero => exact eq_same n d h.1 A s _ _ R R' hu
    | succ j => exact eqs_same n ds h.2 A s _ _ Rs Rs' hu j (Nat.lt_of_succ_lt_succ h1) (Nat.lt_of_succ_lt_succ h2)
end
theorem Inv.room (I : Inv G S r g σ s) {n : Nat} (h : 10 * S.D.n + n < cLine) : r.A.units + n < cLine := by have := I.un; omega
theorem CO_tup_eq {n : Nat} (hg : grs n ds = true) (hn : 10 * S.D.n + (n + 1) < cLine) (h : k (.bool true) σ) : CO G S σ .Eq (.tuple ds) (.tuple ds) k kx := fun r g s I va vb Ra Rb Q E hk _ => by
  cases Ra with
  | tuple ha Ra =>
    cases Rb with
    | tuple hb Rb =>
      rename_i l vs m ws
      have h1 : vs.length = ws.length := by rw [Ra.length, Rb.length]
      have hu := I.room hn
      refine SeqAt.eq_tupleAt (e := fun _ => true) (IsTup.isTuple ((tup_is ha).keeps I.stay)) (IsTup.isTuple ((tup_is hb).keeps I.stay)) (by omega) (fun j j1 j2 => ?_) ?_
      · have := eqs_same n ds hg r.A.in1 s vs ws (Ra.mono I.stay) (Rb.mono I.stay) (show r.A.units + 1 + n < cLine by omega) j (by simpa using j1) (by simpa using j2)
        simpa using this
      · rw [show ((List.range (min vs.toArray.size ws.toArray.size)).all (fun _ => true) && vs.toArray.size == ws.toArray.size) = true from by simp [h1]]
        exact hk _ _ _ _ _ (.refl I) (.bool _) h
theorem CO_tup_ne {n : Nat} (hg : grs n ds = true) (hn : 10 * S.D.n + (n + 1) < cLine) (h : k (.bool false) σ) : CO G S σ .NotEq (.tuple ds) (.tuple ds) k kx := fun r g s I va vb Ra Rb Q E hk _ => by
  cases Ra with
  | tuple ha Ra =>
    cases Rb with
    | tuple hb Rb =>
      rename_i l vs m ws
      have h1 : vs.length = ws.length := by rw [Ra.length, Rb.length]
      have hu := I.room hn
      have z := SeqAt.RcNeAt.tuples (e := fun _ => true) (IsTup.isTuple ((tup_is ha).keeps I.stay)) (IsTup.isTuple ((tup_is hb).keeps I.stay)) (by omega) (A := r.A) fun j j1 j2 => by
        have := eqs_same n ds hg r.A.in1 s vs ws (Ra.mono I.stay) (Rb.mono I.stay) (show r.A.units + 1 + n < cLine by omega) j (by simpa using j1) (by simpa using j2)
        simpa using this
      refine z _ _ _ _ ?_
      rw [show (!((List.range (min vs.toArray.size ws.toArray.size)).all (fun _ => true) && vs.toArray.size == ws.toArray.size)) = false from by simp [h1]]
      exact hk _ _ _ _ _ (.refl I) (.bool _) h
theorem CO_bytes_ne {u v : Array UInt8} (h : k (.bool (u.toList != v.toList)) σ) : CO G S σ .NotEq (.bytes u) (.bytes v) k kx := fun r g s I va vb Ra Rb Q E hk _ => by
  cases Ra; cases Rb; exact ne_bytes (hk _ _ _ _ _ (.refl I) (.bool _) h)

/-! in a row of texts -/
theorem CO_in_strs {x : Str} {ws : List Str} (h : k (.bool (ws.any (· == x))) σ) : CO G S σ .In (.str x) (.list (ws.map .str)) k kx := fun r g s I va vb Ra Rb Q E hk _ => by
  cases Ra with
  | str _ t =>
  cases Rb with
  | list hb Rb =>
    rename_i l vs
    let e : Value → Bool := fun v => match v with | .str y _ => y == x | _ => false
    have all : ∀ (ws : List Str) (vs : List Value), RelL g vs (ws.map .str) → (∀ y ∈ vs, ∃ z u, y = .str z u) ∧ vs.any e = ws.any (· == x) := by
      intro ws
      induction ws with
      | nil => intro vs R; cases R; exact ⟨(fun _ h => nomatch h), rfl⟩
      | cons w ws ih =>
        intro vs R
        cases R with
        | cons a b =>
          cases a with
          | str _ u =>
            obtain ⟨i1, i2⟩ := ih _ b
            refine And.intro (fun y hy => ?_) ?_
            · rcases List.mem_cons.mp hy with rfl | hy
              · exact ⟨_, _, rfl⟩
              · exact i1 y hy
            · rw [List.any_cons, List.any_cons, i2]
    obtain ⟨a1, a2⟩ := all ws vs Rb
    refine SeqAt.in_listAt e (IsList.mono I.stay hb) (fun y hy => ?_) ?_
    · obtain ⟨z, u, rfl⟩ := a1 y (by simpa using hy)
      exact SeqAt.EqAt.str_str z u x t
    · rw [List.any_toArray, a2]
      exact hk _ _ _ _ _ (.refl I) (.bool _) h

/-! a row so many times -/
theorem RelL.times {vs : List Value} {ds : List AV} (R : RelL g vs ds) : ∀ n : Nat, RelL g (List.replicate n vs).flatten (List.replicate n ds).flatten
  | 0 => .nil
  | n + 1 => by
    rw [List.replicate_succ, List.replicate_succ, List.flatten_cons, List.flatten_cons]
    exact R.append (RelL.times R n)
theorem EV_ListMul {es : List Expr} {r' : Expr} {p p' : Pos} (h : EL G S σ p' es (fun as σ1 => (as ≠ [] ∧ as.length ≤ sizeLine) ∧ EV G S σ1 r' (fun b σ2 => ∃ n : Int, b = .int n ∧ -(2 ^ 63 : Int) ≤ n ∧ n < 2 ^ 63 ∧ as.length * n.toNat ≤ 2 ^ 24 ∧ k (.list (List.replicate n.toNat as).flatten) σ2) kx) kx) :
    EV G S σ (.BinOp (.List es p') .Mult r' p) k kx := fun r g s I Q E hk hx => by
  refine wpAny_BinOp (wpAny_List (h r g s I _ _ (fun vs s1 g1 as σ1 P1 R1 h1 => ⟨by rw [R1.length]; exact h1.1.2, ?_⟩) hx))
  obtain ⟨g2, P2, e⟩ := Post.alloc P1.inv { cls := .type "list", data := .seq vs.toArray } rfl s1.toks
  refine h1.2 r g2 _ P2.inv _ _ (fun vb s3 g3 b σ3 P3 R3 h3 => ?_) fun e s' g' x σ' P T => hx e s' g' x σ' ((P1.trans P2).trans P) (T.back fun _ => (P1.trans P2).back)
  obtain ⟨n, rfl, n1, n2, n3, h3⟩ := h3
  cases R3 with
  | int _ t =>
    obtain ⟨m, hm, hl⟩ := P3.inv.loc
    have hl' := P3.inv.stay _ _ (P3.grow _ _ e)
    refine mul_list (emp_fr hm) (allN_news _ _) hl' n1 n2 (by rw [List.size_toArray, R1.length]; exact n3) (fun h' F' N' => ?_)
    obtain ⟨g', P, e'⟩ := Post.of_news P3.inv hl F' N' (none_size _) s3.toks
    have ne : vs.toArray.isEmpty = false := by
      have : vs ≠ [] := fun z => by have := R1.length; rw [z] at this; exact h1.1.1 (List.length_eq_zero_iff.mp this.symm)
      cases vs with
      | nil => exact absurd rfl this
      | cons _ _ => rfl
    rw [ne] at e'
    simp only [Bool.false_eq_true, if_false, listMul_foldl] at e'
    exact hk _ _ _ _ _ (((P1.trans P2).trans P3).trans P) (.list ⟨_, e', rfl, _, rfl⟩ ((R1.mono (fun b o q => P.grow _ _ (P3.grow _ _ (P2.grow _ _ q)))).times _)) h3

/-! subscripts -/
abbrev SU (G : Gb) (S : St) (σ : AS) (a i : AV) (k : AV → AS → Prop) (kx : AX → AS → Prop) : Prop :=
  ∀ r g s, Inv G S r g σ s → ∀ va vb, RelV g va a → RelV g vb i → (∃ T id : String, typeLookup (.type T) "__getitem__" = pure (some (.builtin id)) ∧ s.TypeIs va T) ∧ Tr G S r g σ s (getItem va vb) RelV k kx
def slicy : Expr → Bool
  | .Slice .. => true
  | _ => false
theorem EV_Subscript {value slice : Expr} {p : Pos} (h : EV G S σ value (fun a σ1 => EV G S σ1 slice (fun i σ2 => SU G S σ2 a i k kx) kx) kx) (hs : ∀ o i, ∃ ops, subscripted slice false o i = operate ops (getItem o i) := by intro o i; exact ⟨_, rfl⟩) :
    EV G S σ (.Subscript value slice p) k kx := fun r g s I Q E hk hx => by
  refine Subscript_ (h r g s I _ _ (fun va s1 g1 a σ1 P1 R1 h1 => ?_) hx)
  refine h1 r g1 s1 P1.inv _ _ (fun vb s2 g2 b σ2 P2 R2 h2 => ?_) fun e s' g' x σ' P T => hx e s' g' x σ' (P1.trans P) (T.back fun _ => P1.back)
  obtain ⟨⟨T, id, hl, hT⟩, h2⟩ := h2 r g2 s2 P2.inv va vb (R1.mono P2.grow) R2
  unfold subscriptTail
  refine wpAny_bind ?_
  rw [getitemInPython_of_ne hT.not_modules]
  refine wpAny_bind (wpAny_specialOf hT hl ?_)
  obtain ⟨ops, hops⟩ := hs va vb
  have fin : wpAny (model G.prog G.w) r.A (subscripted slice false va vb) (fun r' s₃ => wpAny (model G.prog G.w) r.A (letTemporaryGo value va r' >>= fun _ => pure r') Q E s₃) E s2 := by
    rw [hops]
    exact wpAny_operating (h2.from (P1.trans P2) (fun v s' g' a σ' P R q => wpAny_bind (wpAny_letTemporaryGo (wpAny_pure (hk _ _ _ _ _ P R q)))) hx)
  first
    | exact wpAny_pure (wpAny_bind fin)
    | exact wpAny_bind (wpAny_pure (wpAny_bind fin))
    | exact wpAny_bind fin
theorem SU_list {i : Int} {d : AV} (h0 : 0 ≤ i) (h1 : i < 2 ^ 63) (hx : ds[i.toNat]? = some d) (h : k d σ) : SU G S σ (.list ds) (.int i) k kx := fun r g s I va vb Ra Rb => by
  cases Rb
  cases Ra with
  | list ha Ra =>
    obtain ⟨v, hv, Rv⟩ := Ra.get hx
    have hl := IsList.mono I.stay ha
    exact ⟨⟨"list", _, slot_list_getitem.lookup, hl.typeIs⟩, fun Q E hk _ => getItem_listL hl h0 h1 hv (hk _ _ _ _ _ (.refl I) Rv h)⟩
theorem SU_tuple {i : Int} {d : AV} (h0 : 0 ≤ i) (h1 : i < 2 ^ 63) (hx : ds[i.toNat]? = some d) (h : k d σ) : SU G S σ (.tuple ds) (.int i) k kx := fun r g s I va vb Ra Rb => by
  cases Rb
  cases Ra with
  | tuple ha Ra =>
    obtain ⟨v, hv, Rv⟩ := Ra.get hx
    have ht := (tup_is ha).keeps I.stay
    have hlt : i.toNat < _ := (List.getElem?_eq_some_iff.mp hv).1
    rename_i l vs
    exact ⟨⟨"tuple", _, slot_tuple_getitem.lookup, ht.typeIs⟩, fun Q E hk _ => getItem_tuple (j := i.toNat) ht (by omega) h1 (by
      have hn : ¬ i < 0 := by omega
      have h2 : i < (vs.length : Int) := by omega
      simp [seqIndex?, hn, h0, h2]) (by simpa using hv) (hk _ _ _ _ _ (.refl I) Rv h)⟩
theorem SU_own {i : Int} {d : AV} {a : Addr} (ho : (a, OV.list ds) ∈ σ.own) (h0 : 0 ≤ i) (h1 : i < 2 ^ 63) (hx : ds[i.toNat]? = some d) (h : k d σ) : SU G S σ (.own a) (.int i) k kx := fun r g s I va vb Ra Rb => by
  cases Rb
  cases Ra
  have z := I.own.at_ _ ho
  dsimp only at z
  cases z with
  | list hl Ra =>
    obtain ⟨v, hv, Rv⟩ := Ra.get hx
    exact ⟨⟨"list", _, slot_list_getitem.lookup, hl.isList.typeIs⟩, fun Q E hk _ => getItem_listL hl.isList h0 h1 hv (hk _ _ _ _ _ (.refl I) Rv h)⟩
theorem SU_bytes {l : List UInt8} {i : Int} (hz : l.length ≤ 1099511627776) (h0 : 0 ≤ i) (h1 : i < l.length) (h : k (.int (l.getD i.toNat 0).toNat) σ) : SU G S σ (.bytes l.toArray) (.int i) k kx := fun r g s I va vb Ra Rb => by
  cases Rb
  cases Ra
  exact ⟨⟨"bytes", _, FB.slot_bytes_getitem.lookup, typeIs_bytes _ _ _⟩, fun Q E hk _ => getItem_bytes hz h0 h1 (hk _ _ _ _ _ (.toks I _) (.int _ _) h)⟩

/-! slices -/
abbrev EP (G : Gb) (S : St) (σ : AS) (e : Option Expr) (k : Option Int → AS → Prop) (kx : AX → AS → Prop) : Prop := match e with
  | none => k none σ
  | some e => EV G S σ e (fun a σ1 => ∃ i, a = .int i ∧ k (some i) σ1) kx
theorem EV_Slice {l u : Option Expr} {p : Pos} (h : EP G S σ l (fun lo σ1 => EP G S σ1 u (fun hi σ2 => k (.slice lo hi) σ2) kx) kx) : EV G S σ (.Slice l u none p) k kx := fun r g s I Q E hk hx => by
  refine wpAny_Slice ?_
  have fin : ∀ (vl vu : Value) lo hi s2 g2 σ2, Post G S r g σ s g2 σ2 s2 → IsPart vl lo → IsPart vu hi → k (.slice lo hi) σ2 →
      wpAny (model G.prog G.w) r.A (evalPart none (envE S r)) (fun st s₃ => Q (.ref s₃.heap.objs.size) { s₃ with heap := s₃.heap.push { cls := .type "slice", data := .fields #[vl, vu, st] } }) E s2 := fun vl vu lo hi s2 g2 σ2 P pl pu q => by
    refine wpAny_pure ?_
    obtain ⟨g3, P3, e⟩ := Post.alloc P.inv { cls := .type "slice", data := .fields #[vl, vu, .none] } rfl s2.toks
    exact hk _ _ _ _ _ (P.trans P3) (.slice ⟨_, e, rfl, rfl⟩ pl pu) q
  have up : ∀ (vl : Value) lo s1 g1 σ1, Post G S r g σ s g1 σ1 s1 → IsPart vl lo → EP G S σ1 u (fun hi σ2 => k (.slice lo hi) σ2) kx →
      wpAny (model G.prog G.w) r.A (evalPart u (envE S r)) (fun vu s₂ => wpAny (model G.prog G.w) r.A (evalPart none (envE S r)) (fun st s₃ => Q (.ref s₃.heap.objs.size) { s₃ with heap := s₃.heap.push { cls := .type "slice", data := .fields #[vl, vu, st] } }) E s₂) E s1 := fun vl lo s1 g1 σ1 P pl q => by
    cases u with
    | none => exact wpAny_pure (fin vl .none lo none s1 g1 σ1 P pl .none q)
    | some e =>
      refine q r g1 s1 P.inv _ _ (fun v s2 g2 a σ2 P2 R2 h2 => ?_) fun e s' g' x σ' P' T => hx e s' g' x σ' (P.trans P') (T.back fun _ => P.back)
      obtain ⟨i, rfl, h2⟩ := h2
      cases R2
      exact fin vl _ lo (some i) s2 g2 σ2 (P.trans P2) pl (.int i _) h2
  cases l with
  | none => exact wpAny_pure (up .none none s g σ (.refl I) .none h)
  | some e =>
    refine h r g s I _ _ (fun v s1 g1 a σ1 P1 R1 h1 => ?_) hx
    obtain ⟨i, rfl, h1⟩ := h1
    cases R1
    exact up _ (some i) s1 g1 σ1 P1 (.int i _) h1
theorem SU_bytes_slice {b : Array UInt8} {lo hi : Option Int} (hz : b.size ≤ 16777216) (h : k (.bytes (KBy.picked b lo hi)) σ) : SU G S σ (.bytes b) (.slice lo hi) k kx := fun r g s I va vb Ra Rb => by
  cases Ra with
  | bytes _ t =>
  cases Rb with
  | slice hs pl pu =>
    obtain ⟨o, ho, q⟩ := hs
    refine ⟨⟨"bytes", _, FB.slot_bytes_getitem.lookup, typeIs_bytes _ _ _⟩, fun Q E hk _ => getItem_meets (typeIs_bytes _ _ _) (by decide) FB.slot_bytes_getitem FB.entry_bytes_getitem (FB.args_bytes_getitem_2 _ _) (KBc.meets_slice2 b t _ pl pu)
      ⟨⟨o, I.stay _ _ ho, q⟩, Nat.le_trans (KBc.size_picked_le b lo hi) (by rw [sizeLine_eq]; exact hz), fun t' k' => hk _ _ _ _ _ (.toks I _) (.bytes _ _) h⟩⟩
theorem pick_RelL {vs : List Value} {ds : List AV} (R : RelL g vs ds) : ∀ js : List Nat, RelL g (js.filterMap (vs[·]?)) (js.filterMap (ds[·]?))
  | [] => .nil
  | j :: js => by
    have ih := pick_RelL R js
    cases e : ds[j]? with
    | none =>
      have : vs[j]? = none := by
        rw [List.getElem?_eq_none_iff] at e ⊢
        rw [R.length]; exact e
      rw [List.filterMap_cons_none this, List.filterMap_cons_none e]
      exact ih
    | some d =>
      obtain ⟨v, hv, Rv⟩ := R.get e
      rw [List.filterMap_cons_some hv, List.filterMap_cons_some e]
      exact .cons Rv ih
def pickL (ds : List AV) (lo hi : Option Int) : List AV := (sliceRange (sliceBounds lo hi none ds.length).1 (sliceBounds lo hi none ds.length).2.1 (sliceBounds lo hi none ds.length).2.2).filterMap (ds[·]?)
theorem SU_list_slice {lo hi : Option Int} (hz : ds.length ≤ sizeLine) (h : k (.list (pickL ds lo hi)) σ) : SU G S σ (.list ds) (.slice lo hi) k kx := fun r g s I va vb Ra Rb => by
  cases Ra with
  | list ha Ra =>
  cases Rb with
  | slice hs pl pu =>
    rename_i vs _ _ _
    obtain ⟨o, ho, q⟩ := hs
    have hl := IsList.mono I.stay ha
    refine ⟨⟨"list", _, slot_list_getitem.lookup, hl.typeIs⟩, fun Q E hk _ => wpAny_getItem_list_slice (st := none) hl ⟨o, I.stay _ _ ho, q⟩ pl pu .none (by simp) ?_ (by rw [List.size_toArray, Ra.length]; exact hz)⟩
    obtain ⟨g2, P2, e⟩ := Post.alloc I { cls := .type "list", data := .seq (slicePick vs.toArray lo hi none) } rfl s.toks
    refine hk _ _ _ _ _ P2 (.list (vs := (sliceRange (sliceBounds lo hi none vs.toArray.size).1 (sliceBounds lo hi none vs.toArray.size).2.1 (sliceBounds lo hi none vs.toArray.size).2.2).filterMap (vs[·]?)) ⟨_, e, rfl, 0, ?_⟩ ?_) h
    · unfold slicePick; simp
    · have : vs.toArray.size = ds.length := by rw [List.size_toArray, Ra.length]
      rw [this]
      exact pick_RelL (Ra.mono P2.grow) _
end
end Mine
end
/-! Lg8 -/
section
open PySem PySem.Calls PyProof.Rows
open PySem.W
namespace Mine
section
variable {G : Gb} {S : St} {r : Rt} {g g' : Heap} {σ : AS} {s s' : Shared} {k : AV → AS → Prop} {kx : AX → AS → Prop} {kf : AF → AS → Prop} {kl : List AV → AS → Prop} {ds es : List AV}

/-! attributes -/
def fget (x : Str) : List (Str × AV) → Option AV
  | [] => none
  | (y, d) :: r => if (y == x) = true then some d else fget x r
theorem isStr_str {y x : Str} {t : Tok} : Value.isStr (.str y t) x = (y == x) := rfl
theorem RelE.find {x : Str} : ∀ {es : List DictEntry} {fs : List (Str × AV)}, RelE g es fs → ∀ {d : AV}, fget x fs = some d → ∃ e, es.find? (·.key.isStr x) = some e ∧ RelV g e.val d
  | _, _, .nil, _, h => by simp [fget] at h
  | _, _, .cons (x := y) (t := t) (es := es) (fs := fs) R Rs, d, h => by
    rw [fget] at h
    rw [List.find?_cons]
    dsimp only
    rw [isStr_str]
    split at h
    · rename_i e
      cases h
      rw [e]
      exact ⟨_, rfl, R⟩
    · rename_i e
      rw [Bool.not_eq_true] at e
      rw [e]
      exact RelE.find Rs h
theorem RelE.find_none {x : Str} : ∀ {es : List DictEntry} {fs : List (Str × AV)}, RelE g es fs → fget x fs = none → es.find? (·.key.isStr x) = none ∧ es.any (·.refKey) = false
  | _, _, .nil, _ => ⟨rfl, rfl⟩
  | _, _, .cons (x := y) (t := t) (es := es) (fs := fs) R Rs, h => by
    rw [fget] at h
    rw [List.find?_cons, List.any_cons]
    dsimp only
    rw [isStr_str]
    split at h
    · cases h
    · rename_i e
      rw [Bool.not_eq_true] at e
      rw [e]
      obtain ⟨h1, h2⟩ := RelE.find_none Rs h
      exact ⟨h1, by rw [h2]; rfl⟩
theorem RelE.getL {x : Str} {es : List DictEntry} {fs : List (Str × AV)} (R : RelE g es fs) {d : AV} (h : fget x fs = some d) : ∃ v, W.getL x es = some (some v) ∧ RelV g v d := by
  obtain ⟨e, he, R⟩ := R.find h
  exact ⟨e.val, by unfold W.getL; rw [he], R⟩
theorem RelE.getL_none {x : Str} {es : List DictEntry} {fs : List (Str × AV)} (R : RelE g es fs) (h : fget x fs = none) : W.getL x es = some none := by
  obtain ⟨h1, h2⟩ := R.find_none h
  unfold W.getL
  rw [h1, h2]; rfl
def AV.handed : AV → Bool
  | .v x => handedIn x
  | _ => true
theorem RelV.handed {v : Value} {d : AV} (R : RelV g v d) (h : d.handed = true) : handedIn v = true := by
  cases R <;> first | rfl | exact h
/-- a field of a value -/
abbrev GA (G : Gb) (S : St) (σ : AS) (a : AV) (x : Str) (k : AV → AS → Prop) (kx : AX → AS → Prop) : Prop := OP1 G S σ (fun v => getAttr v x true) a RelV k kx
theorem EV_Attribute {value : Expr} {x : Str} {p : Pos} (h : EV G S σ value (fun a σ1 => GA G S σ1 a x k kx) kx)
    (he : ∀ env, eval (.Attribute value x p) env = (do
      let o ← eval value env
      standAt p.atName
      let r ← holding [o] (getAttr o x true)
      letTemporaryGo value o r
      pure r) := by intro env; rfl) : EV G S σ (.Attribute value x p) k kx := fun r g s I Q E hk hx => by
  refine Attribute_any_ (h r g s I _ _ (fun va s1 g1 a σ1 P1 R1 h1 => ?_) hx) (he _)
  exact (h1 r g1 s1 P1.inv va R1).from P1 hk hx
def plainCls (K : Frag) (C : Addr) (x : Str) : Bool := plainGet K C x && hasDictIn K C && (match findIn K (.ref C) x with | some attr => noGet K attr | none => false)
theorem instAt_obj {x C dx : Addr} {es : List DictEntry} {n : Nat} {h : Heap} (h1 : h.get? x = some (instObj C dx)) (h2 : h.get? dx = some (dictOf es n)) : InstAt h x (instObj C dx) C (some (dictOf es n)) := ⟨h1, rfl, rfl, h2⟩
theorem getA {x C dx : Addr} {es : List DictEntry} {n : Nat} {fs : List (Str × AV)} {nm : Str} {d : AV} {Q E} (I : Inv G S r g σ s) (h1 : s.heap.get? x = some (instObj C dx)) (h2 : s.heap.get? dx = some (dictOf es n)) (R : RelE g es fs) (hd : fget nm fs = some d) (hp : plainCls G.K C nm = true) (hh : d.handed = true)
    (hQ : ∀ v, RelV g v d → Q v { s with toks := s.toks + 1 }) : wpAny (model G.prog G.w) r.A (getAttr (.ref x) nm true) Q E s := by
  obtain ⟨v, hv, Rv⟩ := R.getL hd
  unfold plainCls at hp
  simp only [Bool.and_eq_true] at hp
  obtain ⟨⟨p1, p2⟩, p3⟩ := hp
  split at p3
  · rename_i attr ha
    exact get_value I.KIn (instAt_obj h1 h2) (plainGet_of p1).1 (findObj_own p2 ha p3 hv) (Rv.handed hh) (hQ v Rv)
  · cases p3
theorem GA_obj {C : Addr} {fs : List (Str × AV)} {x : Str} {d : AV} (hd : fget x fs = some d) (hp : plainCls G.K C x = true) (hh : d.handed = true) (h : k d σ) : GA G S σ (.obj C fs) x k kx := fun r g s I va Ra Q E hk _ => by
  cases Ra with
  | obj h1 h2 R => exact getA I (I.stay _ _ h1) (I.stay _ _ h2) R hd hp hh fun v Rv => hk _ _ _ _ _ (.toks I _) Rv h
theorem GA_ownobj {a C dx : Addr} {fs : List (Str × AV)} {x : Str} {d : AV} (ho : (a, OV.obj C dx fs) ∈ σ.own) (hd : fget x fs = some d) (hp : plainCls G.K C x = true) (hh : d.handed = true) (h : k d σ) : GA G S σ (.own a) x k kx := fun r g s I va Ra Q E hk _ => by
  cases Ra
  have z := I.own.at_ _ ho
  dsimp only at z
  cases z with
  | obj h1 h2 R => exact getA I h1 h2 R hd hp hh fun v Rv => hk _ _ _ _ _ (.toks I _) Rv h

/-! calls with words -/
abbrev EK (G : Gb) (S : St) (σ : AS) (p : Pos) (kws : List Keyword) (k : List AV → AS → Prop) (kx : AX → AS → Prop) : Prop := TrA G S σ (fun r => evalAll ((backToKw p (keywordEach kws (envE S r))).map (·.2))) RelL k kx
theorem EK_nil {p : Pos} (h : kl [] σ) : EK G S σ p [] kl kx := fun _ _ _ I _ _ hk _ => wpAny_evalAll_nil (hk _ _ _ _ _ (.refl I) .nil h)
theorem EK_cons {p : Pos} {n : Option Str} {e : Expr} {q : Pos} {rest : List Keyword} (h : EV G S σ e (fun a σ1 => EK G S σ1 p rest (fun as σ2 => kl (a :: as) σ2) kx) kx) : EK G S σ p (⟨n, e, q⟩ :: rest) kl kx := fun r g s I Q E hk hx => by
  refine wpAny_evalAll_cons (x := eval e (envE S r) >>= fun v => standAt p >>= fun _ => pure v) (rest := (backToKw p (keywordEach rest (envE S r))).map (·.2)) ?_
  refine wpAny_bind (h r g s I _ _ (fun va s1 g1 a σ1 P1 R1 h1 => ?_) hx)
  refine wpAny_bind (wpAny_standAt (wpAny_pure ?_))
  refine h1 r g1 s1 P1.inv _ _ (fun vs s2 g2 as σ2 P2 R2 h2 => ?_) fun e s' g' x σ' P T => hx e s' g' x σ' (P1.trans P) (T.back fun _ => P1.back)
  exact hk _ _ _ _ _ (P1.trans P2) (.cons (R1.mono P2.grow) R2) h2
def kwNames : List Keyword → Option (List Str)
  | [] => some []
  | ⟨some n, _, _⟩ :: r => (kwNames r).map (n :: ·)
  | ⟨none, _, _⟩ :: _ => none
theorem kwNames_of {p : Pos} {env : Env} : ∀ {kws : List Keyword} {ns : List Str}, kwNames kws = some ns → (backToKw p (keywordEach kws env)).all (·.1.isSome) = true ∧ (backToKw p (keywordEach kws env)).any (·.1.isNone) = false ∧ (backToKw p (keywordEach kws env)).filterMap (·.1) = ns
  | [], ns, h => by cases h; exact ⟨rfl, rfl, rfl⟩
  | ⟨some n, e, q⟩ :: r, ns, h => by
    obtain ⟨ms, hm, rfl⟩ := Option.map_eq_some_iff.mp h
    obtain ⟨a, b, c⟩ := kwNames_of (p := p) (env := env) hm
    exact ⟨by show (true && _) = true; rw [Bool.true_and]; exact a, by show (false || _) = false; rw [Bool.false_or]; exact b, by show n :: _ = n :: ms; exact congrArg _ c⟩
theorem evalArgs_kw0 {M : Model} {A : Around} {E : Value → Shared → Prop} {s : Shared} {f : Value} {keywords : List (Option Str × Sem Value)} {Q : Args → Shared → Prop} (hall : keywords.all (·.1.isSome) = true)
    (h : wpAny M A (spliced []) (fun vs s₁ => wpAny M A (evalAll (keywords.map (·.2))) (fun ks s₂ => Q ⟨vs, (keywords.filterMap (·.1)).zip ks⟩ s₂) E s₁) E s) : wpAny M A (evalArgs f true [] keywords) Q E s := by
  unfold evalArgs
  show wpAny M A (spliced [] >>= _) Q E s
  refine wpAny_bind (wpAny_mono h (fun vs s₁ h₁ => ?_) fun _ _ x => x)
  refine wpAny_bind (wpAny_pure ?_)
  refine wpAny_holding ?_
  simp only [hall, if_true]
  refine wpAny_bind (wpAny_mono h₁ (fun ks s₂ h₂ => ?_) fun _ _ x => x)
  exact wpAny_bind (wpAny_pure (wpAny_pure h₂))
theorem callWithGK {f : Value} {first : List Value} {fas : List AV} {args : List Expr} {kws : List Keyword} {ns : List Str} {p : Pos} (hk : KeepV G.K f = true) (I : Inv G S r g σ s) (Rf : RelL g first fas)
    (h : EL G S σ p args (fun as σ1 => EK G S σ1 p kws (fun bs σ2 => ns.length = bs.length ∧ CV G S σ2 f (fas ++ as) (ns.zip bs) k kx) kx) kx) (hn : kwNames kws = some ns) (hp : plains args = true) :
    Tr G S r g σ s (callWith p f first (backTo p (starEach args (envE S r))) (backToKw p (keywordEach kws (envE S r)))) RelV k kx := fun Q E hq hx => by
  have hpl : ∀ es : List Expr, plains es = true → (backTo p (starEach es (envE S r))).any (·.1) = false := by
    intro es
    induction es with
    | nil => intro _; rfl
    | cons e es ih =>
      intro h
      obtain ⟨h1, h2⟩ := Bool.and_eq_true_iff.mp h
      rw [starEach_plain h1]
      show (false || (backTo p (starEach es (envE S r))).any (·.1)) = false
      rw [ih h2]; rfl
  obtain ⟨n1, n2, n3⟩ := kwNames_of (p := p) (env := envE S r) hn
  refine callWith_of (P := fun h => G.K.In h) (by rw [hpl _ hp, n2]; rfl) (fun h X => keepV_looks hk _ h X) ?_
  have fin : wpAny (model G.prog G.w) r.A (spliced (backTo p (starEach args (envE S r)))) (fun vs s₁ => wpAny (model G.prog G.w) r.A (evalAll ((backToKw p (keywordEach kws (envE S r))).map (·.2)))
      (fun ks s₂ => (fun (a : Args) s₁ => G.K.In s₁.heap ∧ wpAny (model G.prog G.w) r.A (call f (first ++ a.pos) a.kw) Q E s₁) ⟨vs, ((backToKw p (keywordEach kws (envE S r))).filterMap (·.1)).zip ks⟩ s₂) E s₁) E s := by
    refine h r g s I _ _ (fun vs s1 g1 as σ1 P1 R1 h1 => ?_) hx
    refine h1 r g1 s1 P1.inv _ _ (fun ws s2 g2 bs σ2 P2 R2 h2 => ⟨P2.inv.KIn, ?_⟩) fun e s' g' x σ' P T => hx e s' g' x σ' (P1.trans P) (T.back fun _ => P1.back)
    have e1 : (ns.zip bs).map (·.1) = ns := List.map_fst_zip (Nat.le_of_eq h2.1)
    have e2 : (ns.zip bs).map (·.2) = bs := List.map_snd_zip (Nat.le_of_eq h2.1.symm)
    have z := h2.2 r g2 s2 P2.inv (first ++ vs) ws (((Rf.mono P1.grow).append R1).mono P2.grow) (by rw [e2]; exact R2)
    rw [e1] at z
    rw [n3]
    exact z.from (P1.trans P2) hq hx
  cases args with
  | nil =>
    exact evalArgs_kw0 n1 fin
  | cons e es =>
    obtain ⟨h1, h2⟩ := Bool.and_eq_true_iff.mp hp
    dsimp only at fin
    rw [starEach_plain h1] at fin ⊢
    exact evalArgs_kw n1 fin
theorem EV_CallKw {func : Expr} {args : List Expr} {kws : List Keyword} {ns : List Str} {p : Pos} {f : Value} (hk : KeepV G.K f = true) (hf : EV G S σ func (fun a σ1 => a = .v f ∧ EL G S σ1 p args (fun as σ2 => EK G S σ2 p kws (fun bs σ3 => ns.length = bs.length ∧ CV G S σ3 f as (ns.zip bs) k kx) kx) kx) kx) (hn : kwNames kws = some ns := by rfl) (hp : plains args = true := by rfl)
    (he : ∀ env, eval (.Call func args kws p) env = (do callWith p (← eval func env) [] (backTo p (starEach args env)) (backToKw p (keywordEach kws env))) := by intro env; rfl) : EV G S σ (.Call func args kws p) k kx := fun r g s I Q E hq hx => by
  show wpAny _ _ (eval (.Call func args kws p) (envE S r)) _ _ _
  rw [he]
  refine wpAny_bind (hf r g s I _ _ (fun v s1 g1 a σ1 P1 R1 h1 => ?_) hx)
  obtain ⟨rfl, h1⟩ := h1
  cases R1
  exact (callWithGK (fas := []) hk P1.inv .nil h1 hn hp).from P1 hq hx

/-! calls of a function that a class holds -/
/-- the method of a value: a function and the value ahead of the rest -/
def GM (G : Gb) (S : St) (σ : AS) (a : AV) (x : Str) (f : Value) (fas : List AV) : Prop :=
  ∀ r g s, Inv G S r g σ s → ∀ va, RelV g va a → ∃ first, RelL g first fas ∧ ∀ (pl : Sem Bool) (Q : Value × List Value → Shared → Prop) (E : Value → Shared → Prop), (∀ t, Q (f, first) { s with toks := t }) → wpAny (model G.prog G.w) r.A (getMethod va x pl) Q E s
theorem EV_Method {o : Expr} {x : Str} {ap p : Pos} {args : List Expr} {kws : List Keyword} {ns : List Str} (pl : Sem Bool)
    (h : EV G S σ o (fun a σ1 => ∃ f fas, KeepV G.K f = true ∧ GM G S σ1 a x f fas ∧ EL G S σ1 p args (fun as σ2 => EK G S σ2 p kws (fun bs σ3 => ns.length = bs.length ∧ CV G S σ3 f (fas ++ as) (ns.zip bs) k kx) kx) kx) kx) (hn : kwNames kws = some ns := by rfl) (hp : plains args = true := by rfl)
    (he : ∀ env, eval (.Call (.Attribute o x ap) args kws p) env = (do
      let ov ← eval o env
      standAt ap.atName
      let (f, first) ← holding [ov] (getMethod ov x pl)
      callWith p f first (backTo p (starEach args env)) (backToKw p (keywordEach kws env))) := by intro env; rfl) : EV G S σ (.Call (.Attribute o x ap) args kws p) k kx := fun r g s I Q E hq hx => by
  refine methodCall_KW (h r g s I _ _ (fun va s1 g1 a σ1 P1 R1 h1 => ?_) hx) (he _)
  obtain ⟨f, fas, hk, hm, h1⟩ := h1
  obtain ⟨first, Rf, hm⟩ := hm r g1 s1 P1.inv va R1
  refine hm _ _ _ fun t => ?_
  have P2 := P1.trans (Post.toks P1.inv t)
  exact (callWithGK (s := { s1 with toks := t }) hk P2.inv Rf h1 hn hp).from P2 hq hx
def methIn (K : Frag) (C : Addr) (x : Str) (f : Addr) : Bool := plainGet K C x && (match findIn K (.ref C) x with | some (some (.ref q)) => q == f | _ => false) && isFn K (.ref f)
theorem getM {x C dx : Addr} {es : List DictEntry} {n : Nat} {fs : List (Str × AV)} {nm : Str} {f : Addr} {Q E} {pl : Sem Bool} (I : Inv G S r g σ s) (h1 : s.heap.get? x = some (instObj C dx)) (h2 : s.heap.get? dx = some (dictOf es n)) (R : RelE g es fs) (hd : fget nm fs = none) (hp : methIn G.K C nm f = true)
    (hQ : Q (.ref f, [.ref x]) s) : wpAny (model G.prog G.w) r.A (getMethod (.ref x) nm pl) Q E s := by
  unfold methIn at hp
  simp only [Bool.and_eq_true] at hp
  obtain ⟨⟨p1, p2⟩, p3⟩ := hp
  split at p2
  · rename_i q hq
    have := beq_iff_eq.mp p2
    subst this
    exact method_fn I.KIn (instAt_obj h1 h2) (plainGet_of p1).1 (plainGet_of p1).2 hq (beq_iff_eq.mp p3) (by show (lookIn nm (dictOf es n)).map _ = _; rw [lookIn_dict, R.getL_none hd]; rfl) hQ
  · cases p2
theorem GM_obj {C f : Addr} {fs : List (Str × AV)} {x : Str} (hd : fget x fs = none) (hp : methIn G.K C x f = true) : GM G S σ (.obj C fs) x (.ref f) [.obj C fs] := fun r g s I va Ra => by
  cases Ra with
  | obj h1 h2 R => exact ⟨_, .cons (.obj h1 h2 R) .nil, fun pl Q E hq => getM I (I.stay _ _ h1) (I.stay _ _ h2) R hd hp (hq s.toks)⟩
end
end Mine
end
/-! Lg9 -/
section
open PySem PySem.Calls PyProof.Rows
open PySem.W
namespace Mine
section
variable {G : Gb} {S : St} {r : Rt} {g g' : Heap} {σ : AS} {s s' : Shared} {k : AV → AS → Prop} {kx : AX → AS → Prop} {kf : AF → AS → Prop} {kl : List AV → AS → Prop} {ds es : List AV}

/-! isinstance -/
theorem Ans.imp {P P' : Shared → Prop} {x c : Value} {v : Bool} (h : Answers P' x c v) (k : ∀ s, P s → P' s) : Answers P x c v := fun dep tk prog w A R s hs => h dep tk prog w A R s ⟨k s hs.1, hs.2⟩
def tyN : AV → Option String
  | .none => some "NoneType"
  | .bool _ => some "bool"
  | .int _ => some "int"
  | .str _ => some "str"
  | .bytes _ => some "bytes"
  | .list _ => some "list"
  | .tuple _ => some "tuple"
  | _ => none
def subT (T U : String) : Bool := T == U || (T == "bool" && U == "int")
def isiTypes : List String := ["bool", "int", "bytes", "bytearray", "list", "tuple", "str"]
theorem isi_type {U : String} (h : U ∈ isiTypes) : typeOf (.type U) = pure (.type "type") := by
  simp only [isiTypes, List.mem_cons, List.not_mem_nil, or_false] at h
  rcases h with rfl | rfl | rfl | rfl | rfl | rfl | rfl <;> kernel_rfl
theorem isi_sub {T U : String} (hT : T ∈ ["NoneType", "bool", "int", "str", "bytes", "list", "tuple"]) (h : U ∈ isiTypes) : isSubtype (.type T) (.type U) = pure (subT T U) := by
  simp only [isiTypes, List.mem_cons, List.not_mem_nil, or_false] at h hT
  rcases hT with rfl | rfl | rfl | rfl | rfl | rfl | rfl <;> rcases h with rfl | rfl | rfl | rfl | rfl | rfl | rfl <;> (rw [isSubtype_type]; kernel_rfl)
theorem tyN_mem {d : AV} {T : String} (h : tyN d = some T) : T ∈ ["NoneType", "bool", "int", "str", "bytes", "list", "tuple"] := by
  cases d <;> simp [tyN] at h <;> subst h <;> decide
theorem subT_ne {T U : String} (h : subT T U = false) : (Value.type T == Value.type U) = false := by
  unfold subT at h
  rw [Bool.or_eq_false_iff] at h
  have h1 := h.1
  rw [beq_eq_false_iff_ne] at h1 ⊢
  exact fun e => h1 (by injection e)
theorem RelV.typeIs {va : Value} {d : AV} {T : String} (R : RelV g va d) (hT : tyN d = some T) {s : Shared} (st : g.StaysIn s.heap) : s.TypeIs va T := by
  cases R <;> simp only [tyN, Option.some.injEq, reduceCtorEq] at hT <;> subst hT
  case list a b => exact (IsList.mono st a).typeIs
  case tuple a b => exact ((tup_is a).keeps st).typeIs
  all_goals rfl
theorem Answers.of_false_bytes {b : Array UInt8} {u : Tok} {T : String} (hne : (Value.type "bytes" == Value.type T) = false) (hty : typeOf (.type T) = pure (.type "type")) (hsub : isSubtype (.type "bytes") (.type T) = pure false) :
    Answers (fun s => s.TypeIs (.bytes b u) "bytes") (.bytes b u) (.type T) false :=
  fun _ _ _ _ _ _ s hs => by
    obtain ⟨h, g, d, t, os⟩ := s
    exact isinstance_nested_false_bytes hne hty hsub (hs.2 (t + 1))
theorem ans_of {va : Value} {d : AV} {T U : String} (R : RelV g va d) (hT : tyN d = some T) (hU : U ∈ isiTypes) : Answers (fun s => s.TypeIs va T) va (.type U) (subT T U) := by
  have e1 := isi_type hU
  have e2 := isi_sub (tyN_mem hT) hU
  cases e : subT T U with
  | true => exact Answers.of_true e1 (e ▸ e2)
  | false =>
    rw [e] at e2
    have e3 := subT_ne e
    cases R <;> simp only [tyN, Option.some.injEq, reduceCtorEq] at hT <;> subst hT
    · exact Answers.of_false_none e3 e1 e2
    · exact Answers.of_false_bool e3 e1 e2
    · exact Answers.of_false_int e3 e1 e2
    · exact Answers.of_false_str e3 e1 e2
    · exact Answers.of_false_bytes e3 e1 e2
    · exact Answers.of_false_list e3 e1 e2
    · exact Answers.of_false_tuple e3 e1 e2
theorem CV_isinstance {d : AV} {T U : String} (hT : tyN d = some T) (hU : U ∈ isiTypes) (h : k (.bool (subT T U)) σ) : CV G S σ (.builtin "isinstance") [d, .v (.type U)] [] k kx := fun r g s I vs ws R1 R2 Q E hk _ => by
  cases R2
  cases R1 with
  | cons Ra R1 =>
  cases R1 with
  | cons Rb R1 =>
  cases R1
  cases Rb
  have tI := Ra.typeIs hT I.stay
  exact call_isinstance (S := fun _ R s => s.TypeIs _ T ∧ ∀ tk, R (.ok (.ret (.bool (subT T U)))) { s with toks := tk }) (fun prog w A R s hs => isinstance_outer (by
    refine wpAny_mono (ans_of Ra hT hU 0 0 prog w A R s ⟨hs.1, hs.2⟩) (fun _ _ z => z) fun _ _ z => z) (Shared.TypeIs.not_mainsLoader hs.1)) ⟨tI, fun tk => hk _ _ _ _ _ (.toks I tk) (.bool _) h⟩
theorem all_of {va : Value} {d : AV} {T : String} (R : RelV g va d) (hT : tyN d = some T) : ∀ {Us : List String}, (∀ U ∈ Us, U ∈ isiTypes) → AnswersAll (fun s => s.TypeIs va T) va (Us.map .type) (Us.map (subT T))
  | [], _ => trivial
  | U :: Us, h => ⟨ans_of R hT (h U (.head _)), all_of R hT fun V hV => h V (.tail _ hV)⟩
theorem RelL.types : ∀ {Us : List String} {vs : List Value}, RelL g vs (Us.map fun U => .v (.type U)) → vs = Us.map .type
  | [], _, .nil => rfl
  | U :: Us, _, .cons (.v _) R => by rw [List.map_cons, RelL.types R]
theorem CV_isinstance_tup {d : AV} {T : String} {Us : List String} (hT : tyN d = some T) (hU : ∀ U ∈ Us, U ∈ isiTypes) (h : k (.bool (Us.any (subT T))) σ) : CV G S σ (.builtin "isinstance") [d, .tuple (Us.map fun U => .v (.type U))] [] k kx := fun r g s I vs ws R1 R2 Q E hk _ => by
  cases R2
  cases R1 with
  | cons Ra R1 =>
  cases R1 with
  | cons Rb R1 =>
  cases R1
  cases Rb with
  | tuple hb Rb =>
  have tI := Ra.typeIs hT I.stay
  have := RelL.types Rb
  subst this
  refine call_isinstance (isinstance_tuple (all_of Ra hT hU)) ⟨tI, I.stay _ _ hb, fun tk => ?_⟩
  rw [show (Us.map (subT T)).any id = Us.any (subT T) from by rw [List.any_map]; rfl]
  exact hk _ _ _ _ _ (.toks I tk) (.bool _) h

/-! len -/
theorem CV_len_list (hz : ds.length ≤ 1099511627776) (h : k (.int ds.length) σ) : CV G S σ (.builtin "len") [.list ds] [] k kx := fun r g s I vs ws R1 R2 Q E hk _ => by
  cases R2
  cases R1 with
  | cons Ra R1 =>
  cases R1
  cases Ra with
  | list ha Ra =>
  have hl := IsList.mono I.stay ha
  rename_i vs
  have e : vs.toArray.size = ds.length := by rw [List.size_toArray, Ra.length]
  exact len_list hl (by rw [e]; omega) (by rw [e]; exact hk _ _ _ _ _ (.toks I _) (.int _ _) h)
theorem CV_len_own {a : Addr} (ho : (a, OV.list ds) ∈ σ.own) (hz : ds.length ≤ 1099511627776) (h : k (.int ds.length) σ) : CV G S σ (.builtin "len") [.own a] [] k kx := fun r g s I vs ws R1 R2 Q E hk _ => by
  cases R2
  cases R1 with
  | cons Ra R1 =>
  cases R1
  cases Ra
  have z := I.own.at_ _ ho
  dsimp only at z
  cases z with
  | list hl Ra =>
  rename_i vs
  have e : vs.toArray.size = ds.length := by rw [List.size_toArray, Ra.length]
  exact len_list hl.isList (by rw [e]; omega) (by rw [e]; exact hk _ _ _ _ _ (.toks I _) (.int _ _) h)
theorem CV_len_bytes {u : Array UInt8} (hz : u.size ≤ 1099511627776) (h : k (.int u.size) σ) : CV G S σ (.builtin "len") [.bytes u] [] k kx := fun r g s I vs ws R1 R2 Q E hk _ => by
  cases R2
  cases R1 with
  | cons Ra R1 =>
  cases R1
  cases Ra
  exact len_bytes hz (hk _ _ _ _ _ (.toks I _) (.int _ _) h)
theorem CV_max (hq : S.D.q = true) {a b : Int} (h : k (.int (if b > a then b else a)) σ) : CV G S σ (.builtin "max") [.int a, .int b] [] k kx := fun r g s I vs ws R1 R2 Q E hk _ => by
  cases R2
  cases R1 with
  | cons Ra R1 =>
  cases R1 with
  | cons Rb R1 =>
  cases R1
  cases Ra; cases Rb
  refine max_two_ints (I.hd hq) fun h' tk hh => ?_
  obtain ⟨g', P⟩ := Post.kept I hh tk
  by_cases c : b > a
  · rw [if_pos c] at h ⊢; exact hk _ _ _ _ _ P (.int _ _) h
  · rw [if_neg c] at h ⊢; exact hk _ _ _ _ _ P (.int _ _) h
theorem CV_min (hq : S.D.q = true) {a b : Int} (h : k (.int (if b < a then b else a)) σ) : CV G S σ (.builtin "min") [.int a, .int b] [] k kx := fun r g s I vs ws R1 R2 Q E hk _ => by
  cases R2
  cases R1 with
  | cons Ra R1 =>
  cases R1 with
  | cons Rb R1 =>
  cases R1
  cases Ra; cases Rb
  refine min_two_ints (I.hd hq) fun h' tk hh => ?_
  obtain ⟨g', P⟩ := Post.kept I hh tk
  by_cases c : b < a
  · rw [if_pos c] at h ⊢; exact hk _ _ _ _ _ P (.int _ _) h
  · rw [if_neg c] at h ⊢; exact hk _ _ _ _ _ P (.int _ _) h
theorem CV_str_int {a : Int} (ha : a.natAbs.log2 < 1920) (h : k (.str (toString a)) σ) : CV G S σ (.type "str") [.int a] [] k kx := fun r g s I vs ws R1 R2 Q E hk _ => by
  cases R2
  cases R1 with
  | cons Ra R1 =>
  cases R1
  cases Ra
  exact P.str_of_int ha (hk _ _ _ _ _ (.toks I _) (.str _ _) h)
theorem CV_tuple_list (hz : ds.length ≤ sizeLine) (h : k (.tuple ds) σ) : CV G S σ (.type "tuple") [.list ds] [] k kx := fun r g s I vs ws R1 R2 Q E hk _ => by
  cases R2
  cases R1 with
  | cons Ra R1 =>
  cases R1
  cases Ra with
  | list ha Ra =>
  rename_i us
  refine call_tuple_list (IsList.mono I.stay ha) (fun h' hh => ?_) (by rw [List.size_toArray, Ra.length]; exact hz)
  obtain ⟨g1, P1⟩ := Post.kept I hh s.toks
  obtain ⟨g2, P2, e⟩ := Post.alloc P1.inv { cls := .type "tuple", data := .seq us.toArray } rfl s.toks
  exact hk _ _ _ _ _ (P1.trans P2) (.tuple e ((Ra.mono P1.grow).mono P2.grow)) h
theorem CV_tuple_own {a : Addr} (ho : (a, OV.list ds) ∈ σ.own) (hz : ds.length ≤ sizeLine) (h : k (.tuple ds) σ) : CV G S σ (.type "tuple") [.own a] [] k kx := fun r g s I vs ws R1 R2 Q E hk _ => by
  cases R2
  cases R1 with
  | cons Ra R1 =>
  cases R1
  cases Ra
  have z := I.own.at_ _ ho
  dsimp only at z
  cases z with
  | list hl Ra =>
  rename_i us
  refine call_tuple_list hl.isList (fun h' hh => ?_) (by rw [List.size_toArray, Ra.length]; exact hz)
  obtain ⟨g1, P1⟩ := Post.kept I hh s.toks
  obtain ⟨g2, P2, e⟩ := Post.alloc P1.inv { cls := .type "tuple", data := .seq us.toArray } rfl s.toks
  exact hk _ _ _ _ _ (P1.trans P2) (.tuple e ((Ra.mono P1.grow).mono P2.grow)) h
theorem RelL.ints : ∀ {ns : List Int} {vs : List Value}, RelL g vs (ns.map .int) → IntsAre vs ns
  | [], _, .nil => .nil
  | n :: ns, _, .cons (.int _ t) R => .cons n t (RelL.ints R)
theorem CV_bytes_ints (hq : S.D.q = true) {ns : List Int} (hr : ∀ n ∈ ns, 0 ≤ n ∧ n < 256) (hz : ns.length ≤ sizeLine) (h : k (.bytes (ns.map fun n => n.toNat.toUInt8).toArray) σ) : CV G S σ (.type "bytes") [.list (ns.map .int)] [] k kx := fun r g s I vs ws R1 R2 Q E hk _ => by
  cases R2
  cases R1 with
  | cons Ra R1 =>
  cases R1
  cases Ra with
  | list ha Ra =>
  refine call_bytes_ints (IsList.mono I.stay ha) Ra.ints hr (by rw [Ra.length, List.length_map]; exact hz) (I.hd hq) fun h' t tk hh => ?_
  obtain ⟨g1, P1⟩ := Post.kept I hh tk
  exact hk _ _ _ _ _ P1 (.bytes _ _) h

/-! methods of numbers -/
theorem GM_bit_length {a : Int} : GM G S σ (.int a) "bit_length" (.builtin "int.bit_length") [.int a] := fun r g s I va Ra => by
  cases Ra
  exact ⟨_, .cons (.int _ _) .nil, fun pl Q E hq => getMethod_int_bit_length (hq s.toks)⟩
theorem CV_bit_length {a : Int} (h : k (.int (Builtin.Int.intBits a)) σ) : CV G S σ (.builtin "int.bit_length") [.int a] [] k kx := fun r g s I vs ws R1 R2 Q E hk _ => by
  cases R2
  cases R1 with
  | cons Ra R1 =>
  cases R1
  cases Ra
  exact call_int_bit_length (hk _ _ _ _ _ (.toks I _) (.int _ _) h)
theorem GM_to_bytes {a : Int} : GM G S σ (.int a) "to_bytes" (.builtin "int.to_bytes") [.int a] := fun r g s I va Ra => by
  cases Ra
  exact ⟨_, .cons (.int _ _) .nil, fun pl Q E hq => KTBy.method (hq s.toks)⟩
theorem CV_to_bytes {a : Int} {n : Nat} (hn : n ≤ 8) (h0 : 0 ≤ a) (h1 : a < 256 ^ n) (h : ∀ b : Array UInt8, KBw.bInts b = (KTBy.little n a).reverse → k (.bytes b) σ) : CV G S σ (.builtin "int.to_bytes") [.int a, .int n, .str "big"] [] k kx := fun r g s I vs ws R1 R2 Q E hk _ => by
  cases R2
  cases R1 with
  | cons Ra R1 =>
  cases R1 with
  | cons Rb R1 =>
  cases R1 with
  | cons Rc R1 =>
  cases R1
  cases Ra; cases Rb; cases Rc
  exact KTBy.to_big hn rfl h0 h1 fun b t' k' hb _ => hk _ _ _ _ _ (.toks I _) (.bytes _ _) (h b hb)
end
end Mine
end
/-! Lg10 -/
section
open PySem PySem.Calls PyProof.Rows
open PySem.W
namespace Mine
section
variable {G : Gb} {S : St} {r : Rt} {g g' : Heap} {σ : AS} {s s' : Shared} {k : AV → AS → Prop} {kx : AX → AS → Prop} {kf : AF → AS → Prop} {kl : List AV → AS → Prop} {ds es : List AV} {own rest : List (Addr × OV)}

/-! objects of one's own -/
theorem fresh_not {h : Heap} {b : Addr} {o : Obj} (e : h.get? b = some o) : b ≠ h.objs.size := Nat.ne_of_lt (Heap.lt_size e)
/-- a new object of one's own -/
theorem Post.newOwn (I : Inv G S r g σ s) {h' : Heap} {a : Addr} {ov : OV} (hk : ∀ b o, s.heap.get? b = some o → h'.get? b = some o) (hn : ∀ b ∈ ov.hid a, s.heap.get? b = none) (hd : (ov.hid a).Nodup) (hov : OvAt g h' a ov) (t : Nat) :
    Post G S r g σ s g ⟨σ.loc, σ.own ++ [(a, ov)]⟩ { s with heap := h', toks := t } := by
  have hh : hid (σ.own ++ [(a, ov)]) = hid σ.own ++ ov.hid a := by rw [hid_append]; simp [hid]
  have gn : ∀ b, s.heap.get? b = none → g.get? b = none := fun b hb => by
    cases q : g.get? b with
    | none => rfl
    | some o => rw [I.stay _ _ q] at hb; cases hb
  refine ⟨⟨I.ok, I.frames, I.ev, fun b o e => hk _ _ (I.stay _ _ e), I.base, I.ff.of_keeps fun b o e _ => ⟨o, hk _ _ e, rfl⟩, ?_, ⟨?_, ?_, ?_⟩, ?_, I.lone, I.bare, I.os, I.dep, I.un, I.hd, I.hx, I.fun_, I.nd⟩,
    fun _ _ e => e, fun _ _ _ _ e => e, fun b o e _ _ => hk _ _ e, fun b _ o e => ⟨o.slots, hk _ _ e⟩, fun b hb => ?_, fun _ _ e => e, fun b hb => let ⟨o, ho⟩ := I.own.there hb; ⟨o, hk _ _ ho⟩⟩
  · obtain ⟨m, hm, q⟩ := I.loc
    exact ⟨m, hm.keeps hk, q⟩
  · intro p hp
    rcases List.mem_append.mp hp with hp | hp
    · exact ovAt_keep (fun _ _ e => e) (I.own.at_ p hp) fun b _ o e => hk _ _ e
    · rw [List.mem_singleton.mp hp]; exact hov
  · intro b hb
    rw [hh] at hb
    rcases List.mem_append.mp hb with hb | hb
    · exact I.own.hide b hb
    · exact gn b (hn b hb)
  · rw [hh]
    refine List.nodup_append.mpr ⟨I.own.nd, hd, fun x hx y hy e => ?_⟩
    subst e
    obtain ⟨o, ho⟩ := I.own.there hx
    rw [hn x hy] at ho; cases ho
  · intro b hb hf
    rw [hh] at hb
    rcases List.mem_append.mp hb with hb | hb
    · exact I.apart b hb hf
    · obtain ⟨_, o, ho, _⟩ := I.ff.mem hf
      rw [hn b hb] at ho; cases ho
  · rw [hh] at hb
    rcases List.mem_append.mp hb with hb | hb
    · exact .inl hb
    · exact .inr (hn b hb)
theorem EV_ListOwn {p : Pos} {es : List Expr} (h : EL G S σ p es (fun as σ1 => as.length ≤ sizeLine ∧ ∀ a, k (.own a) ⟨σ1.loc, σ1.own ++ [(a, .list as)]⟩) kx) : EV G S σ (.List es p) k kx := fun r g s I Q E hk hx => by
  refine wpAny_List (h r g s I _ _ (fun vs s1 g1 as σ1 P1 R1 h1 => ⟨by rw [R1.length]; exact h1.1, ?_⟩) hx)
  have P2 := Post.newOwn (a := s1.heap.objs.size) (ov := .list as) (h' := s1.heap.push { cls := .type "list", data := .seq vs.toArray }) P1.inv (fun b o e => Heap.get?_push_of_some _ e) (fun b hb => by rw [List.mem_singleton.mp hb]; exact none_size _) (List.nodup_cons.mpr ⟨by simp, .nil⟩)
    (.list ⟨_, Heap.get?_push_size _ rfl, rfl, rfl, _, rfl⟩ R1) s1.toks
  exact hk _ _ _ _ _ (P1.trans P2) (.own _) (h1.2 _)
/-- one of one's own objects is changed -/
theorem Post.setOwn (I : Inv G S r g σ s) {h' : Heap} {a : Addr} {ov ov' : OV} (hσ : σ.own = own ++ (a, ov) :: rest) (hid' : ov'.hid a = ov.hid a) (hk : ∀ b o, b ∉ ov.hid a → s.heap.get? b = some o → h'.get? b = some o) (hov : OvAt g h' a ov') (t : Nat) :
    Post G S r g σ s g ⟨σ.loc, own ++ (a, ov') :: rest⟩ { s with heap := h', toks := t } := by
  have hh : hid σ.own = hid own ++ (ov.hid a ++ hid rest) := by rw [hσ, hid_append]; rfl
  have hh' : hid (own ++ (a, ov') :: rest) = hid σ.own := by rw [hh, hid_append]; show _ ++ (ov'.hid a ++ _) = _; rw [hid']
  have nd := I.own.nd
  rw [hh] at nd
  obtain ⟨n1, n2, n3⟩ := List.nodup_append.mp nd
  obtain ⟨n4, n5, n6⟩ := List.nodup_append.mp n2
  have ino : ∀ b ∈ ov.hid a, b ∈ hid σ.own := fun b hb => by rw [hh]; exact List.mem_append_right _ (List.mem_append_left _ hb)
  have nf : ∀ b ∈ frs (envR S r :: r.outer), b ∉ ov.hid a := fun b hb hn => I.apart b (ino b hn) hb
  have gs : ∀ b o, g.get? b = some o → b ∉ ov.hid a := fun b o e hn => by rw [I.own.hide b (ino b hn)] at e; cases e
  refine ⟨⟨I.ok, I.frames, I.ev, fun b o e => hk _ _ (gs b o e) (I.stay _ _ e), I.base, funFrames_alive I.ff (fun b hb => (I.ff.mem hb).1) fun b o hb e hd => ⟨o, hk _ _ (nf b hb) e, hd⟩, ?_, ⟨?_, ?_, ?_⟩, ?_, I.lone, I.bare, I.os, I.dep, I.un, I.hd, I.hx, I.fun_, I.nd⟩,
    fun _ _ e => e, fun _ _ _ _ e => e, fun b o e n1 n2 => hk _ _ (fun hn => n2 (ino b hn)) e, fun b hb o e => ⟨o.slots, hk _ _ (nf b (by rw [frs_cons]; exact .tail _ hb)) e⟩, fun b hb => .inl (by rw [← hh']; exact hb), fun _ _ e => e, fun b hb => ?_⟩
  · obtain ⟨m, ⟨o, es, ep, ho, q⟩, q'⟩ := I.loc
    exact ⟨m, ⟨o, es, ep, hk _ _ (nf r.L (by rw [frs_cons]; exact .head _)) ho, q⟩, q'⟩
  · intro p hp
    have old : ∀ p, p ∈ σ.own → (∀ b ∈ p.2.hid p.1, b ∉ ov.hid a) → OvAt g h' p.1 p.2 := fun p hp hn => ovAt_keep (fun _ _ e => e) (I.own.at_ p hp) fun b hb o e => hk _ _ (hn b hb) e
    rcases List.mem_append.mp hp with hp | hp
    · exact old p (by rw [hσ]; exact List.mem_append_left _ hp) fun b hb hn => n3 b (mem_hid hp hb) b (List.mem_append_left _ hn) rfl
    · rcases List.mem_cons.mp hp with rfl | hp
      · exact hov
      · exact old p (by rw [hσ]; exact List.mem_append_right _ (.tail _ hp)) fun b hb hn => n6 b hn b (mem_hid hp hb) rfl
  · intro b hb
    rw [hh'] at hb
    exact I.own.hide b hb
  · show (hid (own ++ (a, ov') :: rest)).Nodup
    rw [hh']; exact I.own.nd
  · intro b hb
    rw [hh'] at hb
    exact I.apart b hb
  · by_cases hn : b ∈ ov.hid a
    · exact OvAt.data (p := (a, ov')) hov (by show b ∈ ov'.hid a; rw [hid']; exact hn)
    · obtain ⟨o, ho⟩ := I.own.there hb
      exact ⟨o, hk _ _ hn ho⟩
theorem RelL.set : ∀ {vs : List Value} {ds : List AV}, RelL g vs ds → ∀ {v : Value} {d : AV}, RelV g v d → ∀ i : Nat, RelL g (vs.set i v) (ds.set i d)
  | _, _, .nil, _, _, _, i => .nil
  | _, _, .cons a b, _, _, Rv, 0 => .cons Rv b
  | _, _, .cons a b, _, _, Rv, i + 1 => .cons a (RelL.set b Rv i)
theorem ownL_of {h h' : Heap} {a : Addr} {vs ws : List Value} (x : OwnL h a vs) (f : Array Value → Array Value) (hf : f vs.toArray = ws.toArray) : OwnL (h.update a (Obj.mapSeq f)) a ws := by
  obtain ⟨o, ho, hc, hdn, n, hd⟩ := x
  obtain ⟨n', hd'⟩ := Obj.data_mapSeq hd f
  refine ⟨_, Heap.get?_update_self _ ho (Obj.isFreed_of_seq hd'), (Obj.cls_mapSeq ..).trans hc, ?_, n', by rw [hd', hf]⟩
  obtain ⟨c, d, dt, sl⟩ := o
  subst hd
  exact hdn
/-! append -/
theorem GM_append {a : Addr} (ho : (a, OV.list ds) ∈ σ.own) : GM G S σ (.own a) "append" (.builtin "list.append") [.own a] := fun r g s I va Ra => by
  cases Ra
  have z := I.own.at_ _ ho
  dsimp only at z
  cases z with
  | list hl Ra =>
    obtain ⟨o, ho, hc, hdn, _⟩ := hl
    exact ⟨_, .cons (.own _) .nil, fun pl Q E hq => getMethod_list_append ho hc hdn (hq s.toks)⟩
theorem CV_append {a : Addr} {d : AV} (hσ : σ.own = own ++ (a, .list ds) :: rest) (hz : ds.length ≤ sizeLine) (h : k .none ⟨σ.loc, own ++ (a, .list (ds ++ [d])) :: rest⟩) : CV G S σ (.builtin "list.append") [.own a, d] [] k kx := fun r g s I vs ws R1 R2 Q E hk _ => by
  cases R2
  cases R1 with
  | cons Ra R1 =>
  cases R1 with
  | cons Rd R1 =>
  cases R1
  cases Ra
  have z := I.own.at_ (a, .list ds) (by rw [hσ]; simp)
  dsimp only at z
  cases z with
  | list hl Ra =>
    rename_i v vs
    obtain ⟨o, ho, hc, hdn, n, hd⟩ := id hl
    refine wpAny_call_entry slot_list_append hl.isList.typeIs entry_list_append ?_ (args_list_append _ _)
    show wpAny _ _ (updateSeq a (·.push v) >>= fun _ => ret .none) _ _ s
    refine wpAny_bind ?_
    have hsz : vs.toArray.size ≤ sizeLine := by rw [List.size_toArray, Ra.length]; exact hz
    refine wpAny_updateSeq ho hd (wpAny_pure ⟨.none, rfl, ?_⟩)
    exact hk _ _ _ _ _ (Post.setOwn (ov' := .list (ds ++ [d])) I hσ rfl (fun b ob n e => by rw [Heap.get?_update_other _ _ (fun z => n (by rw [← z]; exact .head _))]; exact e) (.list (ownL_of (h' := s.heap) hl _ (by simp)) (Ra.append (.cons Rd .nil))) s.toks) .none h
theorem ES_Expr {e : Expr} {p : Pos} (h : EV G S σ e (fun _ σ1 => kf .next σ1) kx) (hs : ∀ env : Env, env.scope = S.scope → swapsWith e none p.line env = pure false := by intro env _; rfl) : ES G S σ (.Expr e p) kf kx := fun r g s I Q E hk hx =>
  wpAny_Expr_any (h r g s I _ _ (fun va s1 g1 a σ1 P1 R1 h1 => hk _ _ _ _ _ P1 .next h1) hx) (hi := by unfold interactive; show (S.scope.kind == _ && _) = false; rw [I.fun_]; rfl) (hs := hs _ rfl)
end
end Mine
end
/-! Lg11 -/
section
open PySem PySem.Calls PyProof.Rows
open PySem.W
namespace Mine
section
variable {G : Gb} {S : St} {r : Rt} {g g' : Heap} {σ : AS} {s s' : Shared} {k : AV → AS → Prop} {kx : AX → AS → Prop} {kf : AF → AS → Prop} {kl : List AV → AS → Prop} {ds es : List AV} {own rest : List (Addr × OV)}

/-! operators in place -/
abbrev IO (G : Gb) (S : St) (σ : AS) (op : Operator) (a b : AV) (k : AV → AS → Prop) (kx : AX → AS → Prop) : Prop := OP2 G S σ (inplaceOp op) a b RelV k kx
theorem IO_add {a b : Int} (h : k (.int (a + b)) σ) : IO G S σ .Add (.int a) (.int b) k kx := fun r g s I va vb Ra Rb Q E hk _ => by
  cases Ra; cases Rb; exact P.iadd_int (hk _ _ _ _ _ (.toks I _) (.int _ _) h)
theorem noI_bytes_add : typeLookup (.type "bytes") (dunderI "add") = pure none := by rw [typeLookup_type, builtinLookup_eq_fast]; kernel_rfl
theorem IO_bytes {b c : Array UInt8} (hsz : b.size + c.size ≤ 16777216) (h : k (.bytes (b ++ c)) σ) : IO G S σ .Add (.bytes b) (.bytes c) k kx := fun r g s I va vb Ra Rb Q E hk _ => by
  cases Ra; cases Rb
  refine iconcat_gives (typeIs_bytes s b _) (typeIs_bytes s c _) noI_bytes_add KBy.noFill_bytes_add KBy.seq_bytes_add FB.slot_bytes_add FB.entry_bytes_add (FB.args_bytes_add_2 _ _) (KBy.gives_bytes_add (KBy.tooLong_not hsz)) ?_
  have fin : ∀ t' tk, Q (.bytes (b ++ c) t') { s with toks := tk } := fun t' tk => hk _ _ _ _ _ (.toks I _) (.bytes _ t') h
  by_cases hb : b.isEmpty = true
  · rw [if_pos hb]
    have e : b = #[] := Array.isEmpty_iff.1 hb
    rw [e, Array.empty_append] at fin
    exact fin _ s.toks
  · rw [if_neg hb]
    by_cases hc : c.isEmpty = true
    · rw [if_pos hc]
      have e : c = #[] := Array.isEmpty_iff.1 hc
      rw [e, Array.append_empty] at fin
      exact fin _ s.toks
    · rw [if_neg hc]
      exact ⟨by rw [Array.size_append, sizeLine_eq]; exact hsz, fin s.toks (s.toks + 1)⟩
theorem ES_AugName (i : Nat) {x : Str} {op : Operator} {e : Expr} {p p' : Pos} {a : AV} (hi : S.names[i]? = some x) (ha : σ.loc[i]? = some (some a)) (h : EV G S σ e (fun b σ1 => IO G S σ1 op a b (fun c σ2 => kf .next (σ2.put i c)) kx) kx) (hl : S.scope.names.lookup x = some .local := by rfl) : ES G S σ (.AugAssign (.Name x p') op e p) kf kx := fun r g s I Q E hk hx => by
  obtain ⟨m, hm, hlo⟩ := I.loc
  obtain ⟨v, hv, R⟩ := hlo i x a hi ha
  rcases hv with ⟨h1, h2⟩ | ⟨h1, _⟩
  · refine wpAny_AugAssign_Name (wpAny_loadName_local (env := envE S r) I.fun_ h1 hm h2 ?_)
    refine h r g s I _ _ (fun vb s1 g1 b σ1 P1 R1 q => ?_) hx
    refine (q r g1 s1 P1.inv v vb (R.mono P1.grow) R1).from P1 (fun vc s2 g2 c σ2 P2 R2 q2 => ?_) hx
    exact (storeG (ku := fun _ σ' => kf .next σ') P2.inv R2 hi hl q2).from P2 (fun _ s' g' _ σ' P _ q => hk _ _ _ _ _ P .next q) hx
  · rw [hl] at h1; rcases h1 with h1 | h1 <;> cases h1
theorem setItemL {M : Program} {w : World} {A : Around} {E : Value → Shared → Prop} {s : Shared} {a : Addr} {vs : List Value} {k : Int} {t : Tok} {v : Value} {Q : Unit → Shared → Prop} (hl : OwnL s.heap a vs) (h0 : 0 ≤ k) (hfit : k < 2 ^ 63) (hlen : k < vs.length)
    (hQ : Q () { s with heap := s.heap.update a (Obj.mapSeq (·.setIfInBounds k.toNat v)) }) : wpAny (model M w) A (setItem (.ref a) (.int k t) v) Q E s := by
  obtain ⟨o', ho, hc, hdn, ne, hdd⟩ := id hl
  unfold setItem
  try with_reducible refine wpAny_holding ?_
  first | refine wpAny_bind (wpAny_pure ?_) | skip
  refine wpAny_bind (wpAny_sequenceKey hl.isList.typeIs (by decide) ?_)
  refine wpAny_bind (wpAny_callSpecial?_slot (name := Str.ofString "__setitem__") hl.isList.typeIs slot_list_setitem
    (wpAny_call_entry slot_list_setitem hl.isList.typeIs entry_list_setitem ?_ (args_list_setitem _ _ _)))
  show wpAny _ _ (Builtin.List.listSubscript? (.int k t) >>= _) _ _ s
  refine wpAny_bind (wpAny_listSubscript_int (fitsIndex_of h0 hfit) ?_)
  clear hfit
  obtain ⟨n, rfl⟩ := Int.eq_ofNat_of_zero_le h0
  have hj : n < vs.toArray.size := by simpa using hlen
  have hx' : vs.toArray[n]? = some vs.toArray[n] := Array.getElem?_eq_getElem hj
  show wpAny _ _ ((seqItemAt a n >>= fun r => pure (r.map (n, ·))) >>= _) _ _ s
  refine wpAny_bind (wpAny_bind (wpAny_seqItemAt ho hdd (wpAny_pure ?_)))
  rw [hx']
  show wpAny _ _ (setSeqItemAt a n v >>= _) _ _ s
  refine wpAny_bind (wpAny_setSeqItemAt ho hdd ?_)
  first
    | exact wpAny_bind (wpAny_pure (wpAny_pure ⟨.none, rfl, wpAny_pure hQ⟩))
    | exact wpAny_pure ⟨.none, rfl, wpAny_pure hQ⟩
/-- a place of a row of one's own is written anew -/
theorem ES_AugOwn {o i e : Expr} {op : Operator} {p p' : Pos} {a : Addr} (h : EV G S σ o (fun ao σ1 => ao = .own a ∧ EV G S σ1 i (fun ai σ2 => ∃ (n : Nat) (d : AV) (ds : List AV) (own rest : List (Addr × OV)), ai = .int n ∧ n < 2 ^ 62 ∧ σ2.own = own ++ (a, .list ds) :: rest ∧ ds[n]? = some d ∧
      EV G S σ2 e (fun b σ3 => σ3.own = σ2.own ∧ IO G S σ3 op d b (fun c σ4 => σ4.own = σ2.own ∧ kf .next ⟨σ4.loc, own ++ (a, .list (ds.set n c)) :: rest⟩) kx) kx) kx) kx)
    (hi : ∀ ov iv new, augStore i ov iv new = (do holding [new, ov, iv] (setItem ov iv new); release [new, ov, iv] []; pure .next) := by intros; rfl) : ES G S σ (.AugAssign (.Subscript o i p') op e p) kf kx := fun r g s I Q E hk hx => by
  refine wpAny_AugAssign_SubscriptAny (h r g s I _ _ (fun vo s1 g1 ao σ1 P1 R1 q1 => ?_) hx) hi
  obtain ⟨rfl, q1⟩ := q1
  cases R1
  refine q1 r g1 s1 P1.inv _ _ (fun vi s2 g2 ai σ2 P2 R2 q2 => ?_) fun e s' g' x σ' P T => hx e s' g' x σ' (P1.trans P) (T.back fun _ => P1.back)
  obtain ⟨n, d, ds, own, rest, rfl, hn, hσ, hd, q2⟩ := q2
  cases R2 with
  | int _ ti =>
  have P12 := P1.trans P2
  have z := P2.inv.own.at_ (a, .list ds) (by rw [hσ]; simp)
  dsimp only at z
  cases z with
  | list hl Rl =>
  rename_i vs
  obtain ⟨v, hv, Rv⟩ := Rl.get hd
  refine getItem_listL hl.isList (by omega) (by omega) (by simpa using hv) ?_
  refine q2 r g2 s2 P2.inv _ _ (fun vb s3 g3 b σ3 P3 R3 q3 => ?_) fun e s' g' x σ' P T => hx e s' g' x σ' (P12.trans P) (T.back fun _ => P12.back)
  have P123 := P12.trans P3
  refine q3.2 r g3 s3 P3.inv v vb (Rv.mono P3.grow) R3 _ _ (fun vc s4 g4 c σ4 P4 R4 q4 => ?_) fun e s' g' x σ' P T => hx e s' g' x σ' (P123.trans P) (T.back fun _ => P123.back)
  have P := P123.trans P4
  have z := P4.inv.own.at_ (a, .list ds) (by rw [q4.1, hσ]; simp)
  dsimp only at z
  cases z with
  | list hl4 Rl4 =>
  rename_i vs4
  have hlen : n < vs4.length := by rw [Rl4.length]; exact (List.getElem?_eq_some_iff.mp hd).1
  exact setItemL (t := ti) hl4 (Int.natCast_nonneg n) (by omega) (by omega) (hk _ _ _ _ _ (P.trans (Post.setOwn (ov' := .list (ds.set n c)) P4.inv (q4.1.trans hσ) rfl (fun b ob nb e => by rw [Heap.get?_update_other _ _ (fun z => nb (by rw [← z]; exact .head _))]; exact e) (.list (ownL_of (h' := s4.heap) hl4 _ (by simp)) (Rl4.set R4 n)) s4.toks)) .next q4.2)
theorem ES_Assert {t : Expr} {msg : Option Expr} {p : Pos} (h : TV G S σ t (fun b σ1 => b = true ∧ kf .next σ1) kx) : ES G S σ (.Assert t msg p) kf kx := fun r g s I Q E hk hx =>
  wpAny_Assert_holds (h r g s I _ _ (fun b s1 g1 b' σ1 P1 e q => by subst e; exact ⟨q.1, hk _ _ _ _ _ P1 .next q.2⟩) hx)
end
end Mine
end
/-! Lg12 -/
section
open PySem PySem.Calls PyProof.Rows
open PySem.W
namespace Mine
section
variable {G : Gb} {S : St} {r : Rt} {g g' : Heap} {σ : AS} {s s' : Shared} {k : AV → AS → Prop} {kx : AX → AS → Prop} {kf : AF → AS → Prop} {kl : List AV → AS → Prop} {ds es : List AV} {own rest : List (Addr × OV)}

/-- one of one's own objects is changed; the frame may have another form -/
theorem Post.setOwnL (I : Inv G S r g σ s) {h' : Heap} {a : Addr} {ov ov' : OV} {m : Str → Option Value} (hl : LocOk g S r m σ.loc) (hn : h'.Ns r.L m) (hσ : σ.own = own ++ (a, ov) :: rest) (hid' : ov'.hid a = ov.hid a) (hk : ∀ b o, b ∉ ov.hid a → b ≠ r.L → s.heap.get? b = some o → h'.get? b = some o) (hov : OvAt g h' a ov') (t : Nat) :
    Post G S r g σ s g ⟨σ.loc, own ++ (a, ov') :: rest⟩ { s with heap := h', toks := t } := by
  have hh : hid σ.own = hid own ++ (ov.hid a ++ hid rest) := by rw [hσ, hid_append]; rfl
  have hh' : hid (own ++ (a, ov') :: rest) = hid σ.own := by rw [hh, hid_append]; show _ ++ (ov'.hid a ++ _) = _; rw [hid']
  have nd := I.own.nd
  rw [hh] at nd
  obtain ⟨n1, n2, n3⟩ := List.nodup_append.mp nd
  obtain ⟨n4, n5, n6⟩ := List.nodup_append.mp n2
  have ino : ∀ b ∈ ov.hid a, b ∈ hid σ.own := fun b hb => by rw [hh]; exact List.mem_append_right _ (List.mem_append_left _ hb)
  have nf : ∀ b ∈ frs (envR S r :: r.outer), b ∉ ov.hid a := fun b hb hn => I.apart b (ino b hn) hb
  have gs : ∀ b o, g.get? b = some o → b ∉ ov.hid a := fun b o e hn => by rw [I.own.hide b (ino b hn)] at e; cases e
  have fL : r.L ∈ frs (envR S r :: r.outer) := by rw [frs_cons]; exact .head _
  refine ⟨⟨I.ok, I.frames, I.ev, fun b o e => hk _ _ (gs b o e) (I.stay_ne e) (I.stay _ _ e), I.base, funFrames_alive I.ff (fun b hb => (I.ff.mem hb).1) fun b o hb e hd => ?_, ⟨m, hn, hl⟩, ⟨?_, ?_, ?_⟩, ?_, I.lone, I.bare, I.os, I.dep, I.un, I.hd, I.hx, I.fun_, I.nd⟩,
    fun _ _ e => e, fun _ _ _ _ e => e, fun b o e n1 n2 => hk _ _ (fun hn => n2 (ino b hn)) (fun z => n1 (z ▸ fL)) e, fun b hb o e => ⟨o.slots, hk _ _ (nf b (by rw [frs_cons]; exact .tail _ hb)) (fun z => I.lone (z ▸ hb)) e⟩, fun b hb => .inl (by rw [← hh']; exact hb), fun _ _ e => e, fun b hb => ?_⟩
  · by_cases z : b = r.L
    · subst z
      obtain ⟨oL, es, ep, hL', hd', _⟩ := hn
      exact ⟨oL, hL', fun vs => by rw [hd']; exact fun q => nomatch q⟩
    · exact ⟨o, hk _ _ (nf b hb) z e, hd⟩
  · intro p hp
    have old : ∀ p, p ∈ σ.own → (∀ b ∈ p.2.hid p.1, b ∉ ov.hid a) → OvAt g h' p.1 p.2 := fun p hp hn => ovAt_keep (fun _ _ e => e) (I.own.at_ p hp) fun b hb o e => hk _ _ (hn b hb) (I.own_ne (mem_hid hp hb)) e
    rcases List.mem_append.mp hp with hp | hp
    · exact old p (by rw [hσ]; exact List.mem_append_left _ hp) fun b hb hn => n3 b (mem_hid hp hb) b (List.mem_append_left _ hn) rfl
    · rcases List.mem_cons.mp hp with rfl | hp
      · exact hov
      · exact old p (by rw [hσ]; exact List.mem_append_right _ (.tail _ hp)) fun b hb hn => n6 b hn b (mem_hid hp hb) rfl
  · intro b hb
    rw [hh'] at hb
    exact I.own.hide b hb
  · show (hid (own ++ (a, ov') :: rest)).Nodup
    rw [hh']; exact I.own.nd
  · intro b hb
    rw [hh'] at hb
    exact I.apart b hb
  · by_cases hn : b ∈ ov.hid a
    · exact OvAt.data (p := (a, ov')) hov (by show b ∈ ov'.hid a; rw [hid']; exact hn)
    · obtain ⟨o, ho⟩ := I.own.there hb
      exact ⟨o, hk _ _ hn (I.own_ne hb) ho⟩

/-! a field is set -/
def fput (x : Str) (d : AV) : List (Str × AV) → List (Str × AV)
  | [] => [(x, d)]
  | (y, e) :: r => if (y == x) = true then (y, d) :: r else (y, e) :: fput x d r
theorem RelE.put {x : Str} {t : Tok} {v : Value} {d : AV} {hs : Int} (Rv : RelV g v d) : ∀ {es : List DictEntry} {fs : List (Str × AV)}, RelE g es fs → RelE g (putL x hs (.str x t) v es) (fput x d fs)
  | _, _, .nil => .cons Rv .nil
  | _, _, .cons (x := y) (t := u) R Rs => by
    rw [putL, fput]
    dsimp only
    rw [isStr_str]
    split
    · exact .cons Rv Rs
    · exact .cons R (RelE.put Rv Rs)
theorem RelE.length : ∀ {es : List DictEntry} {fs : List (Str × AV)}, RelE g es fs → es.length = fs.length
  | _, _, .nil => rfl
  | _, _, .cons R Rs => by rw [List.length_cons, List.length_cons, RelE.length Rs]
theorem RelE.looked {x : Str} {es : List DictEntry} {fs : List (Str × AV)} (R : RelE g es fs) : (W.getL x es).isSome = true := by
  cases e : fget x fs with
  | none => rw [R.getL_none e]; rfl
  | some d => obtain ⟨v, hv, _⟩ := R.getL e; rw [hv]; rfl
def setIn (K : Frag) (C : Addr) (x : Str) : Bool := findIn K (.ref C) "__setattr__" == some (some (.builtin "object.__setattr__")) && plainOver K C && takerIn K C x == some none && hasDictIn K C
theorem setA {a C dx : Addr} {fs : List (Str × AV)} {x : Str} {v : Value} {d : AV} {Q E} (I : Inv G S r g σ s) (hσ : σ.own = own ++ (a, .obj C dx fs) :: rest) (hs : setIn G.K C x = true) (hz : fs.length < 900) (Rv : RelV g v d)
    (hQ : ∀ s', Post G S r g σ s g ⟨σ.loc, own ++ (a, .obj C dx (fput x d fs)) :: rest⟩ s' → Q () s') : wpAny (model G.prog G.w) r.A (setAttr (.ref a) x v) Q E s := by
  unfold setIn at hs
  simp only [Bool.and_eq_true, beq_iff_eq] at hs
  obtain ⟨⟨⟨s1, s2⟩, s3⟩, s4⟩ := hs
  have z := I.own.at_ (a, .obj C dx fs) (by rw [hσ]; simp)
  dsimp only at z
  cases z with
  | obj h1 h2 R =>
    rename_i es n
    obtain ⟨m, hm, hl⟩ := I.loc
    have hin : ∀ b ∈ (OV.obj C dx fs).hid a, b ∈ hid σ.own := fun b hb => mem_hid (p := (a, .obj C dx fs)) (by rw [hσ]; simp) hb
    have nL : dx ≠ r.L := I.own_ne (hin dx (.tail _ (.head _)))
    have naL : a ≠ r.L := I.own_ne (hin a (.head _))
    have nad : a ≠ dx := by
      have nd := I.own.nd
      rw [hσ, hid_append] at nd
      have := (List.nodup_append.mp (List.nodup_append.mp nd).2.1).1
      intro e
      simp [OV.hid, e] at this
    have N : News {} r.L s.heap ([] ++ (dx, dictOf es n) :: (allN s.heap r.L).filter (·.1 ≠ dx)) := fun p hp => by
      rcases List.mem_cons.mp hp with rfl | hp
      · exact ⟨h2, nL, emp_none _⟩
      · exact allN_news _ _ p (List.mem_filter.mp hp).1
    refine set_plain I.KIn (instAt_obj h1 h2) s1 ?_
    refine osa_dict (s := { s with toks := s.toks + 1 }) (m := m) (od' := dictOf (putL x (PyData.keyHash G.w.params x) (.str x (s.toks + 1)) v es) (putN x es n)) (emp_fr hm) N I.KIn (instAt_obj h1 h2) rfl s2 s3 s4 R.looked (fun _ h => nomatch h) (fun p hp => by simpa using (List.mem_filter.mp hp).2) (putName_dict _ _ _ _ _ _) rfl ?_ fun h' F' N' => ?_
    · rw [(RelE.put (x := x) (t := s.toks + 1) (hs := PyData.keyHash G.w.params x) Rv R).length]
      have : ∀ fs : List (Str × AV), (fput x d fs).length ≤ fs.length + 1 := by
        intro fs
        induction fs with
        | nil => exact Nat.le_refl _
        | cons p q ih =>
          obtain ⟨y, e⟩ := p
          rw [fput]
          split
          · exact Nat.le_succ _
          · rw [List.length_cons, List.length_cons]; omega
      have := this fs
      omega
    · have hR := RelE.put (x := x) (t := s.toks + 1) (hs := PyData.keyHash G.w.params x) Rv R
      have hd := (N' _ (.head _)).1
      refine hQ _ (Post.setOwnL (ov' := .obj C dx (fput x d fs)) I hl F'.ns hσ rfl (fun b o n1 n2 e => ?_) (.obj ?_ hd hR) _)
      · refine (N' (b, o) (.tail _ (List.mem_filter.mpr ⟨allN_mem e n2, ?_⟩))).1
        have : b ≠ dx := fun z => n1 (by rw [z]; exact .tail _ (.head _))
        simpa using this
      · refine (N' (a, instObj C dx) (.tail _ (List.mem_filter.mpr ⟨allN_mem h1 naL, ?_⟩))).1
        simpa using nad
theorem ES_AssignAttr {o e : Expr} {x : Str} {p p' : Pos} (h : EV G S σ e (fun d σ1 => EV G S σ1 o (fun ao σ2 => ∃ a own rest C dx fs, ao = .own a ∧ σ2.own = own ++ (a, .obj C dx fs) :: rest ∧ setIn G.K C x = true ∧ fs.length < 900 ∧ kf .next ⟨σ2.loc, own ++ (a, .obj C dx (fput x d fs)) :: rest⟩) kx) kx)
    (hs : ∀ env : Env, env.scope = S.scope → swapsWith e (some (.Attribute o x p')) p.line env = pure false := by intro env _; rfl) : ES G S σ (.Assign [.Attribute o x p'] e p) kf kx := fun r g s I Q E hk hx => by
  refine plainObj_wpAny_Assign_Attribute (h r g s I _ _ (fun v s1 g1 d σ1 P1 R1 q1 => ?_) hx) (hs _ rfl)
  refine q1 r g1 s1 P1.inv _ _ (fun vo s2 g2 ao σ2 P2 R2 q2 => ?_) fun e s' g' x σ' P T => hx e s' g' x σ' (P1.trans P) (T.back fun _ => P1.back)
  obtain ⟨a, own, rest, C, dx, fs, rfl, hσ, hset, hz, q⟩ := q2
  cases R2
  exact setA P2.inv hσ hset hz (R1.mono P2.grow) fun s' P => hk _ _ _ _ _ ((P1.trans P2).trans P) .next q
end
end Mine
end
/-! Lg13 -/
section
open PySem PySem.Calls PyProof.Rows
open PySem.W
namespace Mine
section
variable {G : Gb} {S : St} {r : Rt} {g g' : Heap} {σ : AS} {s s' : Shared} {k : AV → AS → Prop} {kx : AX → AS → Prop} {kf : AF → AS → Prop} {kl : List AV → AS → Prop} {ds es : List AV} {own rest : List (Addr × OV)}
theorem tc_weight {C : Addr} {vs : List Value} {kw : List (Str × Value)} : (Code.builtin "type.__call__" ⟨.ref C :: vs, kw⟩).weight = 1 := by kernel_rfl
theorem tc_units (args : Args) : (Code.builtin "type.__call__" args).cUnits = 1 := by kernel_rfl
theorem tc_envs (args : Args) : (Code.builtin "type.__call__" args).envs = [] := by kernel_rfl
theorem under_cinv {A : Around} {l : List Env} {c : Code} {D D' : Lv} {g : Heap} {own : List (Addr × OV)} {s : Shared} (C : CInv G A l D g own s) (hqq : D'.q = true → D.q = true) (he : c.envs = []) (hw : A.depth + c.weight ≤ D'.n) (hu : A.units + c.cUnits ≤ 10 * D'.n) : CInv G (A.under c) l D' g own s :=
  ⟨C.ok, by show pushEnvs c.envs A.frames = _; rw [he]; exact C.frames, C.stay, C.base, C.ff, C.ownok, C.apart, C.bare, C.os, hw, hu, fun q => C.hd (hqq q), C.hx⟩
theorem hid_perm {a b : List (Addr × OV)} (h : a.Perm b) : (hid a).Perm (hid b) := by
  induction h with
  | nil => exact .nil
  | cons p _ ih => exact List.Perm.append_left _ ih
  | swap p q l =>
    show (q.2.hid q.1 ++ (p.2.hid p.1 ++ hid l)).Perm (p.2.hid p.1 ++ (q.2.hid q.1 ++ hid l))
    rw [← List.append_assoc, ← List.append_assoc]
    exact List.Perm.append_right _ List.perm_append_comm
  | trans _ _ h1 h2 => exact h1.trans h2
theorem Post.perm (I : Inv G S r g σ s) {own' : List (Addr × OV)} (h : σ.own.Perm own') : Post G S r g σ s g ⟨σ.loc, own'⟩ s := by
  have hp := hid_perm h
  refine ⟨⟨I.ok, I.frames, I.ev, I.stay, I.base, I.ff, I.loc, ⟨fun p hp => I.own.at_ p (h.mem_iff.mpr hp), fun b hb => I.own.hide b (hp.mem_iff.mpr hb), hp.nodup_iff.mp I.own.nd⟩, fun b hb => I.apart b (hp.mem_iff.mpr hb), I.lone, I.bare, I.os, I.dep, I.un, I.hd, I.hx, I.fun_, I.nd⟩,
    fun _ _ e => e, fun _ _ _ _ e => e, fun _ _ e _ _ => e, fun _ _ o e => ⟨o.slots, e⟩, fun b hb => .inl (hp.mem_iff.mpr hb), fun _ _ e => e, fun b hb => I.own.there hb⟩
def makeIn (K : Frag) (C fI : Addr) : Bool := makesIn K C && findIn K (.ref C) "__init__" == some (some (.ref fI)) && typeIn K (.ref fI) == some (.type "function")
/-- a class is called: a new object, and what its __init__ makes of it -/
theorem CV_make {C fI : Addr} {as : List AV} {kw : List (Str × AV)} {D : Lv} {K : List (Str × AV) → Prop} (hm : makeIn G.K C fI = true) (hD : S.D.up.le D)
    (hF : ∀ x dx, Fn G D (.ref fI) (.own x :: as) kw [(x, .obj C dx [])] (fun a own' => a = .none ∧ ∃ fs, own' = [(x, .obj C dx fs)] ∧ K fs) (fun _ _ => False))
    (hk : ∀ fs, K fs → k (.obj C fs) σ) : CV G S σ (.ref C) as kw k kx := fun r g s I vs ws R1 R2 Q E hq hqx => by
  unfold makeIn at hm
  simp only [Bool.and_eq_true, beq_iff_eq] at hm
  obtain ⟨⟨m1, m2⟩, m3⟩ := hm
  refine wpAny_call ?_
  obtain ⟨hh, gg, d, t, os⟩ := s
  refine make_core (makes_of I.KIn m1) (looks_findIn I.KIn m2) (fun self => bind_fn I.KIn self m3) (.inl rfl) ?_
  have hx : ((hh.push emptyDict).push (instObj C hh.objs.size)).get? (hh.objs.size + 1) = some (instObj C hh.objs.size) := by heap_get
  have hdx : ((hh.push emptyDict).push (instObj C hh.objs.size)).get? hh.objs.size = some emptyDict := Heap.get?_push_of_some _ (Heap.get?_push_size _ rfl)
  have n0 : ∀ n, hh.objs.size ≤ n → hh.get? n = none := fun n hn => by
    cases q : hh.get? n with
    | none => rfl
    | some o => exact absurd (Heap.lt_size q) (Nat.not_lt.mpr hn)
  have P1 := Post.newOwn (a := hh.objs.size + 1) (ov := .obj C hh.objs.size []) (h' := (hh.push emptyDict).push (instObj C hh.objs.size)) I (fun b o e => Heap.get?_push_of_some _ (Heap.get?_push_of_some _ e))
    (fun b hb => by
      rcases List.mem_cons.mp hb with rfl | hb
      · exact n0 _ (Nat.le_succ _)
      · rw [List.mem_singleton.mp hb]; exact n0 _ (Nat.le_refl _))
    (by simp [OV.hid]) (.obj hx (n := 0) (es := []) hdx .nil) t
  have P2 := P1.trans (Post.perm P1.inv (own' := [(hh.objs.size + 1, .obj C hh.objs.size [])] ++ σ.own) List.perm_append_comm)
  have C0 := P2.inv.cinv (own := [(hh.objs.size + 1, .obj C hh.objs.size [])]) (rest := σ.own) rfl ⟨Nat.le_trans (Nat.le_succ _) hD.1, hD.2⟩
  have C1 := under_cinv (c := .builtin "type.__call__" ⟨.ref C :: vs, (kw.map (·.1)).zip ws⟩) (D' := D) C0 id (tc_envs _) (by rw [tc_weight]; have := I.dep; have h2 : S.D.n + 1 ≤ D.n := hD.1; show r.A.depth + 1 ≤ D.n; omega) (by rw [tc_units]; have := I.un; have h2 : S.D.n + 1 ≤ D.n := hD.1; show r.A.units + 1 ≤ 10 * D.n; omega)
  refine hF _ _ _ _ g _ (.ref (hh.objs.size + 1) :: vs) ws C1 (.cons (.own _) R1) R2 _ (fun v s' g' a own' P Rv q => ?_) fun e s' g' x own' P T q => q.elim
  obtain ⟨rfl, fs, rfl, hK⟩ := q
  cases Rv
  have P' : CPost G r.A (stk S r) D g [(hh.objs.size + 1, .obj C hh.objs.size [])] ⟨(hh.push emptyDict).push (instObj C hh.objs.size), gg, d, t, os⟩ g' [(hh.objs.size + 1, .obj C hh.objs.size fs)] s' :=
    ⟨⟨P.inv.ok, C0.frames, P.inv.stay, P.inv.base, P.inv.ff, P.inv.ownok, P.inv.apart, P.inv.bare, P.inv.os, C0.dep, C0.un, C0.hd, C0.hx.mono P.grow⟩, P.grow, P.only, P.ext, P.fr, P.same, P.gens⟩
  have P3 := P2.trans (Post.of_cpost P2.inv rfl P')
  have P4 := P3.trans (Post.perm P3.inv (own' := σ.own ++ [(hh.objs.size + 1, .obj C hh.objs.size fs)]) List.perm_append_comm)
  have hov := P4.inv.own.at_ (hh.objs.size + 1, .obj C hh.objs.size fs) (by simp)
  have P5 := P4.inv.freeze (own := σ.own) (rest := [(hh.objs.size + 1, .obj C hh.objs.size fs)]) rfl (loc' := σ.loc) fun m _ h => h
  refine ⟨rfl, hq _ _ _ _ _ (P4.trans P5) ?_ (hk fs hK)⟩
  dsimp only at hov
  cases hov with
  | obj h1 h2 R => exact .obj (gplus_new (by simp [hid, OV.hid]) h1) (gplus_new (by simp [hid, OV.hid]) h2) (R.mono (gplus_grow P4.inv.stay))
end
end Mine
end
/-! Lg14 -/
section
open PySem PySem.Calls PyProof.Rows
open PySem.W
namespace Mine
section
variable {G : Gb} {S : St} {r : Rt} {g g' : Heap} {σ σ' : AS} {s s' : Shared} {own : List (Addr × OV)} {e : Addr} {x : AX}

/-- what an exception's way touches -/
theorem Post.touch (I₀ : Inv G S r g σ s) (P : Post G S r g σ s g' σ' s') {h' : Heap} (k : ∀ b o, s'.heap.get? b = some o → b ∉ frs (envR S r :: r.outer) → s.heap.get? b ≠ none ∨ (g'.get? b).isSome = true ∨ b ∈ hid σ'.own → h'.get? b = some o)
    (kf : ∀ b ∈ frs (envR S r :: r.outer), ∀ o, s'.heap.get? b = some o → ∃ sl, h'.get? b = some { o with slots := sl }) : Post G S r g σ s g' σ' { s' with heap := h' } := by
  have I := P.inv
  have isub : ∀ b ∈ frs r.outer, b ∈ frs (envR S r :: r.outer) := fun b hb => by rw [frs_cons]; exact .tail _ hb
  refine ⟨⟨I.ok, I.frames, I.ev, fun b o q => k b o (I.stay _ _ q) (fun hn => by rw [(I.ff.mem hn).1] at q; cases q) (.inr (.inl (by rw [q]; rfl))), I.base, funFrames_alive I.ff (fun b hb => (I.ff.mem hb).1) fun b o hb q hd => ?_, ?_, ⟨fun p hp => ovAt_keep (fun _ _ e => e) (I.own.at_ p hp) fun b hb o q => k b o q (I.apart b (mem_hid hp hb)) (.inr (.inr (mem_hid hp hb))), I.own.hide, I.own.nd⟩, I.apart, I.lone, I.bare, I.os, I.dep, I.un, I.hd, I.hx, I.fun_, I.nd⟩,
    P.grow, P.only, fun b o q n1 n2 => k b o (P.ext b o q n1 n2) n1 (.inl (by rw [q]; simp)), fun b hb o q => ?_, P.ownx, P.gens, fun b hb => ?_⟩
  · obtain ⟨sl, q'⟩ := kf b hb o q
    exact ⟨_, q', hd⟩
  · obtain ⟨m, ⟨o, es, ep, ho, hd, q⟩, hl⟩ := I.loc
    obtain ⟨sl, q'⟩ := kf r.L (by rw [frs_cons]; exact .head _) o ho
    exact ⟨m, ⟨_, es, ep, q', hd, q⟩, hl⟩
  · obtain ⟨sl, q1⟩ := P.fr b hb o q
    obtain ⟨sl2, q2⟩ := kf b (isub b hb) _ q1
    exact ⟨sl2, q2⟩
  · obtain ⟨o, ho⟩ := P.live b hb
    by_cases hf : b ∈ frs (envR S r :: r.outer)
    · obtain ⟨sl, q⟩ := kf b hf o ho
      exact ⟨_, q⟩
    · obtain ⟨o₀, h₀⟩ := I₀.own.there hb
      exact ⟨o, k b o ho hf (.inl (by rw [h₀]; simp))⟩

theorem fresh_of (P : Post G S r g σ s g' σ' s') {b : Addr} (hb : s'.heap.get? b = none) : g'.get? b = none ∧ s.heap.get? b = none ∧ b ∉ hid σ'.own := by
  refine ⟨?_, P.back hb, fun hm => ?_⟩
  · cases q : g'.get? b with
    | none => rfl
    | some o => rw [P.inv.stay _ _ q] at hb; cases hb
  · obtain ⟨o, ho⟩ := P.inv.own.there hm
    rw [ho] at hb; cases hb
theorem Post.noted (I₀ : Inv G S r g σ s) (P : Post G S r g σ s g' σ' s') {oe : Obj} {vs : Array Value} {v1 f : Value} {h' : Heap} {T : Addr} (Z : Thrown r.L g' s.heap s'.heap σ'.own e x oe vs v1) (N : NoteAt (envR S r :: r.outer) e oe vs v1 f s'.heap h' T) : Post G S r g σ s g' σ' { s' with heap := h' } := by
  refine P.touch I₀ (fun b o ho hn hz => ?_) N.frames
  have no : ∀ c, c = b → g'.get? c = none → s.heap.get? c = none → c ∉ hid σ'.own → False := fun c hcb z1 z2 z3 => by
    subst hcb
    rcases hz with hz | hz | hz
    · exact hz z2
    · rw [z1] at hz; cases hz
    · exact z3 hz
  refine N.keep b o ho hn (fun z => no e z.symm Z.fe.1 Z.fe.2.1 Z.fe.2.2) fun z => ?_
  obtain ⟨q1, q2, q3⟩ := Z.fT b z
  exact no b rfl q1 q2 q3
/-- an exception is noted by this frame -/
theorem noted (hc : S.comp = false) {A : Around} {E : Value → Shared → Prop} (hA : A.frames = some (envR S r :: r.outer)) (I₀ : Inv G S r g σ s) (P : Post G S r g σ s g' σ' s') (T : ThrAt (some r.L) g' s.heap s'.heap σ'.own e x)
    (hE : ∀ s'', Post G S r g σ s g' σ' s'' → HeldF (rawInt r.L) g' s.heap s''.heap σ'.own e x → E (.ref e) s'') : wpAny (model G.prog G.w) A (noteFrame (.ref e) (envE S r)) (fun _ s'' => E (.ref e) s'') E s' := by
  rw [P.inv.envE hc]
  obtain ⟨oe, vs, v1, Z⟩ := T.thrown
  exact noteX hA P.inv.ff rfl Z.he Z.hd Z.h1 Z.tb fun h1 T1 N1 => hE _ (P.noted I₀ Z N1) (Z.held (fun b hb => fresh_of P hb) N1)
/-- a held exception's flight is told anew -/
theorem flown {A : Around} {Q : Unit → Shared → Prop} {E : Value → Shared → Prop} {fr : Option Addr} (I₀ : Inv G S r g σ s) (P : Post G S r g σ s g' σ' s') (H : HeldF (rawInt r.L) g' s.heap s'.heap σ'.own e x)
    (hQ : ∀ s'', Post G S r g σ s g' σ' s'' → HeldF (fr.elim .none fun f => rawInt f) g' s.heap s''.heap σ'.own e x → Q () s'') : wpAny (model G.prog G.w) A (setFlight (.ref e) fr) Q E s' := by
  obtain ⟨oe, vs, v1, Z⟩ := H.held.thrown
  obtain ⟨a1, a2, a0, t₀, tk, a3, oe', vs', b1, b2, b3, b4, b6, T, oT, ts, c1, c2, c3, c4, c5, c6, c7, c8⟩ := H
  have e1 := Z.he
  rw [b1] at e1; cases e1
  have e2 := Z.hd
  rw [b3] at e2; cases e2
  have e3 := Z.h1
  rw [c1] at e3; cases e3
  refine setFlightX (l := envR S r :: r.outer) (h₀ := s'.heap) (v1 := .ref T) P.inv.ff (fun b hb => let ⟨_, o, ho, hn⟩ := P.inv.ff.mem hb; ⟨o, ho, hn⟩) ⟨⟨_, _, b1, rfl, rfl, b3, c1, fun _ _ => rfl⟩, ⟨oT, ts, c6, c7, c8⟩, .inr rfl, c5, fun _ _ ho _ _ _ => ho, fun _ _ o ho => ⟨o.slots, ho⟩⟩ fun h2 N2 => ?_
  exact hQ _ (P.noted I₀ Z N2) (Z.held (fun b hb => fresh_of P hb) N2)
/-- and it comes back into this frame -/
theorem cameBack (hc : S.comp = false) {E : Value → Shared → Prop} (I₀ : Inv G S r g σ s) (P : Post G S r g σ s g' σ' s') (H : HeldF (rawInt r.L) g' s.heap s'.heap σ'.own e x)
    (hE : ∀ s'', Post G S r g σ s g' σ' s'' → HeldF (rawInt r.L) g' s.heap s''.heap σ'.own e x → E (.ref e) s'') : cameBackBy (model G.prog G.w) r.A (envE S r) E (.ref e) s' := by
  rw [P.inv.envE hc]
  unfold cameBackBy
  have H' := H
  obtain ⟨a1, a2, a0, t₀, tk, a3, oe', vs', b1, b2, b3, b4, b6, T, oT, ts, c1, c2, c3, c4, c5, c6, c7, c8⟩ := H
  refine wpAny_bind (wpAny_field b1 b3 c1 ?_)
  rw [if_neg (by simp)]
  exact flown (fr := some r.L) I₀ P H' hE
/-- a tree within a block of its own -/
theorem passes (hc : S.comp = false) {A : Around} {E : Value → Shared → Prop} (hA : A.frames = some (envR S r :: r.outer)) (I₀ : Inv G S r g σ s) (P : Post G S r g σ s g' σ' s') (T : ThrAt (some r.L) g' s.heap s'.heap σ'.own e x)
    (hE : ∀ s'', Post G S r g σ s g' σ' s'' → ThrAt (some r.L) g' s.heap s''.heap σ'.own e x → E (.ref e) s'') : notedBy (model G.prog G.w) A (envE S r) (cameBackBy (model G.prog G.w) r.A (envE S r) E) (.ref e) s' :=
  noted hc (E := cameBackBy (model G.prog G.w) r.A (envE S r) E) hA I₀ P T fun s'' P' H => cameBack hc I₀ P' H fun s3 P3 H3 => hE s3 P3 H3.held
end
end Mine
end
/-! Lg15 -/
section
open PySem PySem.Calls PyProof.Rows
open PySem.W
namespace Mine
section
variable {G : Gb} {S : St} {r : Rt} {g g' : Heap} {σ σ' : AS} {s s' : Shared} {k : AV → AS → Prop} {kx : AX → AS → Prop} {kf : AF → AS → Prop} {kl : List AV → AS → Prop} {ku : Unit → AS → Prop} {ds es : List AV} {own rest : List (Addr × OV)}

/-- what a loop hands out at a turn -/
inductive LI where
  | one (d : AV)
  | tup (ds : List AV)
def RelI (g h : Heap) (v : Value) : LI → Prop
  | .one d => RelV g v d
  | .tup ds => ∃ T vals, v = .ref T ∧ IsTup h T vals ∧ RelL g vals.toList ds
theorem RelI.mono {g g' h : Heap} (k : g.StaysIn g') {v : Value} {d : LI} (R : RelI g h v d) : RelI g' h v d := by
  cases d with
  | one d => exact RelV.mono k R
  | tup ds => obtain ⟨T, vals, a, b, c⟩ := R; exact ⟨T, vals, a, b, c.mono k⟩
/-- an iterator that a loop can walk -/
structure Lp (G : Gb) (A : Around) (target : Expr) (g₂ : Heap) (items : List LI) (I : Addr) (fp wr : List Addr) (St : Nat → Heap → Prop) : Prop where
  sub : ∀ b ∈ wr, b ∈ fp
  live : ∀ i h, St i h → ∀ b ∈ fp, ∃ o, h.get? b = some o
  frame : ∀ i h h', St i h → (∀ b ∈ fp, ∀ o, h.get? b = some o → h'.get? b = some o) → St i h'
  next : ∀ i d (s : Shared) (Q : Value → Shared → Prop) (E : Value → Shared → Prop), items[i]? = some d → St i s.heap →
    (∀ v h' tk (N : List Addr), (∀ b ∈ N, s.heap.get? b = none) → (∀ g : Heap, g₂.StaysIn g → (∀ b ∈ N, ∀ o, h'.get? b = some o → g.get? b = some o) → RelI g h' v d) → St (i + 1) h' → (∀ b o, b ∉ wr → s.heap.get? b = some o → h'.get? b = some o) → Q v { s with heap := h', toks := tk }) →
    wpAny (model G.prog G.w) A (pyNext (.ref I)) (fun r' s1 => ∃ v, r' = some v ∧ wpAny (model G.prog G.w) A (letOwnedTupleGo target (.ref I) v) (fun _ s2 => Q v s2) E s1) E s
  done : ∀ (s : Shared) (Q : Option Value → Shared → Prop) (E : Value → Shared → Prop), St items.length s.heap →
    (∀ h' tk, (∀ b o, b ∉ wr → s.heap.get? b = some o → h'.get? b = some o) → Q none { s with heap := h', toks := tk }) → wpAny (model G.prog G.w) A (pyNext (.ref I)) Q E s
/-- the places of an iterator: apart from all that is changed elsewhere -/
structure LpAt (S : St) (r : Rt) (g : Heap) (σ : AS) (s : Shared) (g₂ : Heap) (σ₂ : AS) (s₂ : Shared) (fp wr : List Addr) : Prop where
  wr : ∀ b ∈ wr, s.heap.get? b = none ∧ g₂.get? b = none ∧ b ∉ hid σ₂.own
  fp : ∀ b ∈ fp, b ∉ frs (envR S r :: r.outer) ∧ b ∉ hid σ₂.own
/-- what a for statement walks -/
def IE (G : Gb) (S : St) (σ : AS) (iter target : Expr) (k : List LI → AS → Prop) (kx : AX → AS → Prop) : Prop :=
  ∀ r g s, Inv G S r g σ s → ∀ (Q : Value → Shared → Prop) (E : Value → Shared → Prop),
    (∀ I fp wr St items s₂ g₂ σ₂, Post G S r g σ s g₂ σ₂ s₂ → Lp G r.A target g₂ items I fp wr St → St 0 s₂.heap → LpAt S r g σ s g₂ σ₂ s₂ fp wr → k items σ₂ → Q (.ref I) s₂) →
    (∀ e s' g' x σ', Post G S r g σ s g' σ' s' → ThrAt (some r.L) g' s.heap s'.heap σ'.own e x → kx x σ' → E (.ref e) s') →
    wpAny (model G.prog G.w) r.A (eval iter (envE S r)) (fun xv s1 => wpAny (model G.prog G.w) r.A (pyIter xv) Q E s1) E s
/-- an iterator that a loop with one name can walk -/
structure Lp1 (G : Gb) (A : Around) (g₂ : Heap) (items : List LI) (I : Addr) (fp wr : List Addr) (St : Nat → Heap → Prop) : Prop where
  sub : ∀ b ∈ wr, b ∈ fp
  live : ∀ i h, St i h → ∀ b ∈ fp, ∃ o, h.get? b = some o
  frame : ∀ i h h', St i h → (∀ b ∈ fp, ∀ o, h.get? b = some o → h'.get? b = some o) → St i h'
  next : ∀ i d (s : Shared) (Q : Option Value → Shared → Prop) (E : Value → Shared → Prop), items[i]? = some d → St i s.heap →
    (∀ v h' tk, RelI g₂ h' v d → St (i + 1) h' → (∀ b o, b ∉ wr → s.heap.get? b = some o → h'.get? b = some o) → Q (some v) { s with heap := h', toks := tk }) → wpAny (model G.prog G.w) A (pyNext (.ref I)) Q E s
  done : ∀ (s : Shared) (Q : Option Value → Shared → Prop) (E : Value → Shared → Prop), St items.length s.heap →
    (∀ h' tk, (∀ b o, b ∉ wr → s.heap.get? b = some o → h'.get? b = some o) → Q none { s with heap := h', toks := tk }) → wpAny (model G.prog G.w) A (pyNext (.ref I)) Q E s
  self : ∀ i (s : Shared) (Q : Value → Shared → Prop) (E : Value → Shared → Prop), St i s.heap → Q (.ref I) s → wpAny (model G.prog G.w) A (pyIter (.ref I)) Q E s
theorem Lp1.lp {A : Around} {t : Expr} {g₂ : Heap} {items : List LI} {I : Addr} {fp wr : List Addr} {St : Nat → Heap → Prop} (W : Lp1 G A g₂ items I fp wr St) (ht : ∀ it v, letOwnedTupleGo t it v = pure ()) : Lp G A t g₂ items I fp wr St where
  sub := W.sub
  live := W.live
  frame := W.frame
  next := fun i d s Q E hi hst hQ => W.next i d s _ E hi hst fun v h' tk R st' hk => ⟨v, rfl, by rw [ht]; exact wpAny_pure (hQ v h' tk [] (fun _ h => nomatch h) (fun _ st _ => R.mono st) st' hk)⟩
  done := W.done
def IE1 (G : Gb) (S : St) (σ : AS) (iter : Expr) (k : List LI → AS → Prop) (kx : AX → AS → Prop) : Prop :=
  ∀ r g s, Inv G S r g σ s → ∀ (Q : Value → Shared → Prop) (E : Value → Shared → Prop),
    (∀ I fp wr St items s₂ g₂ σ₂, Post G S r g σ s g₂ σ₂ s₂ → Lp1 G r.A g₂ items I fp wr St → St 0 s₂.heap → LpAt S r g σ s g₂ σ₂ s₂ fp wr → k items σ₂ → Q (.ref I) s₂) →
    (∀ e s' g' x σ', Post G S r g σ s g' σ' s' → ThrAt (some r.L) g' s.heap s'.heap σ'.own e x → kx x σ' → E (.ref e) s') →
    wpAny (model G.prog G.w) r.A (eval iter (envE S r)) (fun xv s1 => wpAny (model G.prog G.w) r.A (pyIter xv) Q E s1) E s
theorem IE_of1 {iter t : Expr} {kI : List LI → AS → Prop} (h : IE1 G S σ iter kI kx) (ht : ∀ it v, letOwnedTupleGo t it v = pure () := by intro _ _; rfl) : IE G S σ iter t kI kx := fun r g s I₀ Q E hk hx =>
  h r g s I₀ Q E (fun I fp wr St items s₂ g₂ σ₂ P W hst C q => hk I fp wr St items s₂ g₂ σ₂ P (W.lp ht) hst C q) hx
/-- an item is assigned -/
abbrev AI (G : Gb) (S : St) (σ : AS) (t : Expr) (d : LI) (k : Unit → AS → Prop) (kx : AX → AS → Prop) : Prop :=
  ∀ r g s, Inv G S r g σ s → ∀ v, RelI g s.heap v d → Tr G S r g σ s (assign t (envE S r) v) (fun _ _ (_ : Unit) => True) k kx
theorem AI_one {t : Expr} {d : AV} (h : AG G S σ t d ku kx) : AI G S σ t (.one d) ku kx := h
theorem AI_tup (hq : S.D.q = true) {ts : List Expr} {u : Nat} {p : Pos} {as : List AV} (h : AGs G S ku kx ts as σ) (hl : ts.length = as.length := by rfl) (hp : plains ts = true := by rfl) : AI G S σ (.Tuple ts u p) (.tup as) ku kx := fun r g s I v R Q E hk hx => by
  obtain ⟨T, vals, rfl, ht, R⟩ := R
  obtain ⟨e1, e2⟩ := assignEach_length (env := envE S r) hp
  have hlen : vals.size = as.length := by rw [← Array.length_toList, R.length]
  refine assign_Tuple_tuple (I.hd hq) ht (by rw [e1, hlen, hl]) e2 fun h' he => ?_
  obtain ⟨g1, P1⟩ := Post.kept I (h' := h') (fun b o e => he b o (Nat.ne_of_lt (Heap.lt_size e)) e) s.toks
  exact (h.go r g1 _ P1.inv _ (R.mono P1.grow)).from P1 hk hx
/-- objects that came since are from now on never changed -/
theorem Post.ghost (P : Post G S r g σ s g' σ' s') (N : List Addr) (hN : ∀ b ∈ N, s.heap.get? b = none ∧ b ∉ frs (envR S r :: r.outer) ∧ b ∉ hid σ'.own) : Post G S r g σ s (gplus g' s'.heap N) σ' s' := by
  have I := P.inv
  have gr : g'.StaysIn (gplus g' s'.heap N) := gplus_grow I.stay
  refine ⟨⟨I.ok, I.frames, I.ev, gplus_stay, fun b o e => gr _ _ (I.base _ _ e), funFrames_alive I.ff (fun b hb => gplus_none (I.ff.mem hb).1 fun hn => (hN b hn).2.1 hb) fun b o _ e hd => ⟨o, e, hd⟩, ?_, ⟨fun p hp => ovAt_keep gr (I.own.at_ p hp) fun _ _ _ e => e, fun b hb => gplus_none (I.own.hide b hb) fun hn => (hN b hn).2.2 hb, I.own.nd⟩, I.apart, I.lone, I.bare, I.os, I.dep, I.un, I.hd, I.hx.mono gr, I.fun_, I.nd⟩,
    fun b o e => gr _ _ (P.grow _ _ e), (fun b o e n q => gplus_none (P.only b o e n q) fun hn => by rw [(hN b hn).1] at e; cases e), P.ext, P.fr, P.ownx, P.gens, P.live⟩
  obtain ⟨m, hm, hl⟩ := I.loc
  refine ⟨m, hm, fun i x a h1 h2 => ?_⟩
  obtain ⟨v, hv, R⟩ := hl i x a h1 h2
  refine ⟨v, ?_, R.mono gr⟩
  rcases hv with h | ⟨h, c, hc, oc, hoc, hd'⟩
  · exact .inl h
  · exact .inr ⟨h, c, hc, oc, gr _ _ hoc, hd'⟩
def loopK (J : Nat → AS → Prop) (kf : AF → AS → Prop) (i : Nat) : AF → AS → Prop
  | .next, σ => J (i + 1) σ
  | .cont, σ => J (i + 1) σ
  | .brk, σ => kf .next σ
  | .ret a, σ => kf (.ret a) σ
theorem ES_For (hc : S.comp = false) {target iter : Expr} {body : List Stmt} {p : Pos} (h : IE G S σ iter target (fun items σ1 => ∃ J : Nat → AS → Prop, J 0 σ1 ∧ (∀ i d σi, items[i]? = some d → J i σi → AI G S σi target d (fun _ σ' => EX G S σ' body (loopK J kf i) kx) kx) ∧ ∀ σn, J items.length σn → kf .next σn) kx)
    (hs : ∀ (env : Env) x, foldedSetIterable iter env x = pure x := by intro env x; rfl) : ES G S σ (.For target iter body [] p) kf kx := fun r g s I₀ Q E hk hx => by
  refine wpAny_For (h r g s I₀ _ _ (fun I fp wr St items s₂ g₂ σ₂ P₂ W hst C q => ?_) hx) (hs _)
  obtain ⟨J, j0, jt, jn⟩ := q
  have hx' : ∀ e s' g' x σ', Post G S r g σ s g' σ' s' → ThrAt (some r.L) g' s.heap s'.heap σ'.own e x → kx x σ' → notedBy (model G.prog G.w) r.A (envE S r) (fun e s' => cameBackBy (model G.prog G.w) r.A (envE S r) E e s') (.ref e) s' :=
    fun e s' g' x σ' P T q => passes hc (by have := P.inv.frames; unfold stk at this; rw [hc] at this; exact this) I₀ P T fun s'' P' T' => hx e s'' g' x σ' P' T' q
  refine codeAny_forLoop_any (R := fun r' s' => match r' with | .ok f => Q f s' | .error e => cameBackBy (model G.prog G.w) r.A (envE S r) E e s')
    (fun n si => ∃ i gi σi, Post G S r g σ s gi σi si ∧ g₂.StaysIn gi ∧ St i si.heap ∧ LpAt S r g σ s gi σi si fp wr ∧ J i σi ∧ i ≤ items.length ∧ n = items.length + 1 - i) ?_ (items.length + 1) ⟨0, g₂, σ₂, P₂, fun _ _ e => e, hst, C, j0, Nat.zero_le _, rfl⟩
  rintro n si ⟨i, gi, σi, Pi, hg, hsti, Ci, hJ, hi, rfl⟩
  have step : ∀ h' tk, (∀ b o, b ∉ wr → si.heap.get? b = some o → h'.get? b = some o) → Post G S r g σ s gi σi { si with heap := h', toks := tk } := fun h' tk hk' => by
    have P1 := Pi.touch I₀ (h' := h') (fun b o ho hn hz => hk' b o (fun hw => by
        obtain ⟨z1, z2, z3⟩ := Ci.wr b hw
        rcases hz with hz | hz | hz
        · exact hz z1
        · rw [z2] at hz; cases hz
        · exact z3 hz) ho) fun b hb o ho => ⟨o.slots, hk' b o (fun hw => by
          obtain ⟨z1, z2, z3⟩ := Ci.wr b hw
          obtain ⟨_, o₁, h₁, _⟩ := I₀.ff.mem hb
          rw [z1] at h₁; cases h₁) ho⟩
    exact P1.trans (Post.toks P1.inv tk)
  by_cases hlt : i < items.length
  · have hd : items[i]? = some items[i] := List.getElem?_eq_getElem hlt
    have nx := W.next i items[i] si (fun v s₁ => ∃ h' tk, ∃ N : List Addr, s₁ = { si with heap := h', toks := tk } ∧ (∀ b ∈ N, si.heap.get? b = none) ∧ (∀ g : Heap, g₂.StaysIn g → (∀ b ∈ N, ∀ o, h'.get? b = some o → g.get? b = some o) → RelI g h' v items[i]) ∧ St (i + 1) h' ∧ ∀ b o, b ∉ wr → si.heap.get? b = some o → h'.get? b = some o) (notedBy (model G.prog G.w) r.A (envE S r) fun e s' => cameBackBy (model G.prog G.w) r.A (envE S r) E e s') hd hsti
      fun v h' tk N n a b c => ⟨h', tk, N, rfl, n, a, b, c⟩
    refine wpAny_mono nx (fun r' s₁ hr => ?_) fun _ _ z => z
    obtain ⟨v, rfl, hgo⟩ := hr
    refine wpAny_mono hgo (fun _ s₂' hr => ?_) fun _ _ z => z
    obtain ⟨h', tk, N, rfl, hN, Rv, st', hk'⟩ := hr
    have P1₀ := step h' tk hk'
    have nfr : ∀ b ∈ N, b ∉ frs (envR S r :: r.outer) := by
      intro b hb hf
      obtain ⟨_, o, ho, _⟩ := I₀.ff.mem hf
      rw [Pi.back (hN b hb)] at ho; cases ho
    have nho : ∀ b ∈ N, b ∉ hid σi.own := by
      intro b hb ho
      obtain ⟨o, ho⟩ := Pi.inv.own.there ho
      rw [hN b hb] at ho; cases ho
    have P1 := P1₀.ghost N fun b hb => ⟨Pi.back (hN b hb), nfr b hb, nho b hb⟩
    have hg' : g₂.StaysIn (gplus gi h' N) := fun b o e => gplus_grow P1₀.inv.stay _ _ (hg _ _ e)
    have Rv := Rv _ hg' fun b hb o e => gplus_new hb e
    refine jt i items[i] σi hd hJ r _ _ P1.inv v Rv _ _ (fun u s3 g3 u' σ3 P3 _ q3 => ?_) fun e s' g' x σ' P T q => hx' e s' g' x σ' (P1.trans P) (T.back fun _ => P1.back) q
    have P13 := P1.trans P3
    refine q3 r g3 s3 P3.inv _ _ (fun fl s4 g4 f σ4 P4 Rf q4 => ?_) fun e s' g' x σ' P T q => hx' e s' g' x σ' (P13.trans P) (T.back fun _ => P13.back) q
    have P14 := P3.trans P4
    have PP := P1.trans P14
    have again : J (i + 1) σ4 → ∃ m, m < items.length + 1 - i ∧ ∃ i gi σi, Post G S r g σ s gi σi s4 ∧ g₂.StaysIn gi ∧ St i s4.heap ∧ LpAt S r g σ s gi σi s4 fp wr ∧ J i σi ∧ i ≤ items.length ∧ m = items.length + 1 - i := fun hj => by
      have ex := W.live _ _ st'
      have no : ∀ b ∈ fp, b ∉ hid σ4.own := fun b hb hn => by
        obtain ⟨o, ho⟩ := ex b hb
        rcases P14.ownx b hn with z | z
        · exact (Ci.fp b hb).2 z
        · rw [show ({ si with heap := h', toks := tk } : Shared).heap.get? b = some o from ho] at z; cases z
      refine ⟨items.length + 1 - (i + 1), by omega, i + 1, g4, σ4, PP, fun b o e => P14.grow _ _ (hg' _ _ e), W.frame _ _ _ st' fun b hb o ho => P14.ext b o ho (Ci.fp b hb).1 (Ci.fp b hb).2, ⟨fun b hb => ?_, fun b hb => ⟨(Ci.fp b hb).1, no b hb⟩⟩, hj, hlt, rfl⟩
      obtain ⟨z1, z2, z3⟩ := Ci.wr b hb
      obtain ⟨o, ho⟩ := ex b (W.sub b hb)
      have nN : b ∉ N := fun hn => by
        obtain ⟨o', ho'⟩ := W.live _ _ hsti b (W.sub b hb)
        rw [hN b hn] at ho'; cases ho'
      exact ⟨z1, P14.only b o ho z3 (gplus_none z2 nN), no b (W.sub b hb)⟩
    cases Rf with
    | next => exact again q4
    | cont => exact again q4
    | brk => exact hk _ _ _ _ _ PP .next q4
    | ret R => exact hk _ _ _ _ _ PP (.ret R) q4
  · have hin : i = items.length := by omega
    subst hin
    refine W.done si _ _ hsti fun h' tk hk' => wpAny_execs_nil ?_
    exact hk _ _ _ _ _ (step h' tk hk') .next (jn σi hJ)

/-! the iterators -/
theorem walk_one {A : Around} {g₂ : Heap} {items : List LI} {I : Addr} {fp wr : List Addr} {n : Nat} {P : Nat → Value → Prop} {St : Nat → Heap → Prop} (W : Walks G.prog G.w A I fp wr n P St) (hn : items.length = n) (hl : ∀ i h, St i h → ∀ b ∈ fp, ∃ o, h.get? b = some o)
    (hR : ∀ i v d h, items[i]? = some d → P i v → RelI g₂ h v d) : Lp1 G A g₂ items I fp wr St where
  sub := W.sub
  live := hl
  frame := W.frame
  next := fun i d s Q E hi hst hQ => by
    have hlt : i < n := by rw [← hn]; exact (List.getElem?_eq_some_iff.mp hi).1
    exact W.item i s _ E hlt hst fun v h' tk hP st' hk => hQ v h' tk (hR i v d h' hi hP) st' hk
  done := fun s Q E hst hQ => W.done s Q E (hn ▸ hst) hQ
  self := W.self
theorem listIter_get {h : Heap} {I a : Addr} {i : Nat} (x : h.IsListIter I a i) : ∃ o, h.get? I = some o := let ⟨o, ho, _⟩ := x; ⟨o, ho⟩
theorem isList_get {h : Heap} {a : Addr} {vs : Array Value} (x : h.IsList a vs) : ∃ o, h.get? a = some o := let ⟨o, ho, _⟩ := x; ⟨o, ho⟩
theorem Inv.apart_new (I : Inv G S r g σ s) {b : Addr} (h : s.heap.get? b = none) : b ∉ frs (envR S r :: r.outer) ∧ b ∉ hid σ.own ∧ g.get? b = none := by
  refine ⟨fun hn => ?_, fun hn => ?_, ?_⟩
  · obtain ⟨_, o, ho, _⟩ := I.ff.mem hn
    rw [h] at ho; cases ho
  · obtain ⟨o, ho⟩ := I.own.there hn
    rw [h] at ho; cases ho
  · cases z : g.get? b with
    | none => rfl
    | some o => rw [I.stay _ _ z] at h; cases h
theorem Inv.apart_old (I : Inv G S r g σ s) {b : Addr} {o : Obj} (h : g.get? b = some o) : b ∉ frs (envR S r :: r.outer) ∧ b ∉ hid σ.own := by
  refine ⟨fun hn => ?_, fun hn => ?_⟩
  · rw [(I.ff.mem hn).1] at h; cases h
  · rw [I.own.hide b hn] at h; cases h
/-- a row is walked -/
theorem IE1_list (hq : S.D.q = true) {iter : Expr} {kI : List LI → AS → Prop} (h : EV G S σ iter (fun a σ1 => ∃ ds, a = .list ds ∧ kI (ds.map .one) σ1) kx) : IE1 G S σ iter kI kx := fun r g s I₀ Q E hk hx => by
  refine h r g s I₀ _ _ (fun va s1 g1 a σ1 P1 R1 q => ?_) hx
  obtain ⟨ds, rfl, q⟩ := q
  cases R1 with
  | list ha Ra =>
    rename_i ax vs
    have hl := IsList.mono P1.inv.stay ha
    refine wpAny_pyIter_list hl ?_
    have P2 := Post.grown P1.inv (h' := s1.heap.push { cls := .type "list_iterator", data := .fields #[.ref ax, .int 0 0] }) (fun b o e => Heap.get?_push_of_some _ e) [] (fun _ h => nomatch h) s1.toks
    have P := P1.trans P2
    obtain ⟨oa, hoa, _⟩ := ha
    have hne : ax ≠ s1.heap.objs.size := fresh_not (P1.inv.stay _ _ hoa)
    have W := Walks.list (prog := G.prog) (w := G.w) (A := r.A) (P1.inv.hd hq) s1.heap.objs.size ax hne vs.toArray
    have fz : s1.heap.get? s1.heap.objs.size = none := none_size _
    refine hk s1.heap.objs.size [s1.heap.objs.size, ax] [s1.heap.objs.size] _ (ds.map .one) _ _ σ1 P (walk_one W (by rw [List.length_map, List.size_toArray, Ra.length]) (fun i h st b hb => ?_) (fun i v d h hd hP => ?_)) ⟨⟨_, Heap.get?_push_size _ rfl, rfl, rfl⟩, Heap.IsList.push hl _⟩ ⟨fun b hb => ?_, fun b hb => ?_⟩ q
    · rcases List.mem_cons.mp hb with rfl | hb
      · exact listIter_get st.1
      · rw [List.mem_singleton.mp hb]; exact isList_get st.2
    · rw [List.getElem?_map] at hd
      obtain ⟨d', hd', rfl⟩ := Option.map_eq_some_iff.mp hd
      obtain ⟨v', hv', Rv⟩ := Ra.get hd'
      have : v = v' := by
        have hP' : vs.toArray[i]? = some v := hP
        rw [List.getElem?_toArray, hv'] at hP'
        exact (Option.some.inj hP').symm
      rw [this]
      exact Rv.mono P2.grow
    · rw [List.mem_singleton.mp hb]
      obtain ⟨n1, n2, n3⟩ := P1.inv.apart_new fz
      exact ⟨P1.back fz, gplus_none n3 (by simp), n2⟩
    · rcases List.mem_cons.mp hb with rfl | hb
      · obtain ⟨n1, n2, n3⟩ := P1.inv.apart_new fz
        exact ⟨n1, n2⟩
      · rw [List.mem_singleton.mp hb]; exact P1.inv.apart_old hoa
end
end Mine
end
/-! Lg16 -/
section
open PySem PySem.Calls PyProof.Rows
open PySem.W
namespace Mine
section
variable {G : Gb} {S : St} {r : Rt} {g g' : Heap} {σ σ' : AS} {s s' : Shared} {k : AV → AS → Prop} {kx : AX → AS → Prop} {kf : AF → AS → Prop} {kl : List AV → AS → Prop} {ku : Unit → AS → Prop} {ds es : List AV} {own rest : List (Addr × OV)}

theorem callRaw {f : Value} {func : Expr} {e : Expr} {es : List Expr} {p : Pos} {Q : Value → Shared → Prop} {E : Value → Shared → Prop} (hk : KeepV G.K f = true) (hp : plains (e :: es) = true)
    (h : wpAny (model G.prog G.w) r.A (eval func (envE S r)) (fun v s1 => v = f ∧ wpAny (model G.prog G.w) r.A (spliced (backTo p (starEach (e :: es) (envE S r)))) (fun vs s2 => G.K.In s2.heap ∧ wpAny (model G.prog G.w) r.A (call f vs) Q E s2) E s1) E s)
    (he : ∀ env, eval (.Call func (e :: es) [] p) env = (do callWith p (← eval func env) [] (backTo p (starEach (e :: es) env)) (backToKw p (keywordEach [] env))) := by intro env; rfl) :
    wpAny (model G.prog G.w) r.A (eval (.Call func (e :: es) [] p) (envE S r)) Q E s := by
  rw [he]
  refine wpAny_bind (wpAny_mono h (fun v s1 h1 => ?_) fun _ _ z => z)
  obtain ⟨rfl, h1⟩ := h1
  have hpl : ∀ es : List Expr, plains es = true → (backTo p (starEach es (envE S r))).any (·.1) = false := by
    intro es
    induction es with
    | nil => intro _; rfl
    | cons e es ih =>
      intro h
      obtain ⟨h1, h2⟩ := Bool.and_eq_true_iff.mp h
      rw [starEach_plain h1]
      show (false || (backTo p (starEach es (envE S r))).any (·.1)) = false
      rw [ih h2]; rfl
  refine callWith_of (P := fun h => G.K.In h) (by rw [hpl _ hp]; rfl) (fun h X => keepV_looks hk _ h X) ?_
  obtain ⟨p1, p2⟩ := Bool.and_eq_true_iff.mp hp
  rw [starEach_plain p1] at h1 ⊢
  exact evalArgs_plain h1

theorem walk_tup {A : Around} {elts : List Expr} {u : Nat} {tp : Pos} {g₂ : Heap} {items : List LI} {I : Addr} {fp wr : List Addr} {n : Nat} {Pt : Nat → Array Value → Prop} {St : Nat → Heap → Prop} {Mid : Nat → Addr → Heap → Prop} (W : WalksT G.prog G.w A I fp wr n Pt St Mid) (hn : items.length = n)
    (hl : ∀ i h, St i h → ∀ b ∈ fp, ∃ o, h.get? b = some o) (hR : ∀ i vals d, items[i]? = some d → Pt i vals → ∃ ds, d = .tup ds ∧ RelL g₂ vals.toList ds) : Lp G A (.Tuple elts u tp) g₂ items I fp wr St where
  sub := W.sub
  live := hl
  frame := W.frame
  next := fun i d s Q E hi hst hQ => by
    have hlt : i < n := by rw [← hn]; exact (List.getElem?_eq_some_iff.mp hi).1
    refine W.item i s _ E hlt hst fun T vals h' tk hP _ hT hM hk => ⟨.ref T, rfl, ?_⟩
    refine W.go elts u tp i T _ _ E hM fun h'' st' hk' => ?_
    obtain ⟨ds, rfl, Rv⟩ := hR i vals d hi hP
    have hap := W.apart i T h' hM
    obtain ⟨o, ho, q⟩ := hT
    exact hQ (.ref T) h'' tk [] (fun _ h => nomatch h) (fun g st _ => ⟨T, vals, rfl, ⟨o, hk' T o hap ho, q⟩, Rv.mono st⟩) st' fun b o hb e => hk' b o hb (hk b o hb e)
  done := fun s Q E hst hQ => W.done s Q E (hn ▸ hst) hQ

def enumI (ds : List AV) : List LI := ds.zipIdx.map fun p => .tup [.int p.2, p.1]
theorem enumI_get {ds : List AV} {i : Nat} {d : LI} (h : (enumI ds)[i]? = some d) : ∃ x, ds[i]? = some x ∧ d = .tup [.int i, x] := by
  unfold enumI at h
  rw [List.getElem?_map, List.getElem?_zipIdx] at h
  obtain ⟨p, hp, rfl⟩ := Option.map_eq_some_iff.mp h
  obtain ⟨x, hx, rfl⟩ := Option.map_eq_some_iff.mp hp
  exact ⟨x, hx, by simp⟩
theorem enumI_length {ds : List AV} : (enumI ds).length = ds.length := by unfold enumI; simp
theorem typeEnumKeep {K : Frag} {T : String} : KeepV K (.type T) = true := rfl
/-- a row is walked with its numbers -/
theorem IE_enum (hq : S.D.q = true) {func e : Expr} {elts : List Expr} {u : Nat} {tp p : Pos} {kI : List LI → AS → Prop} (h : EV G S σ func (fun a σ1 => a = .v (.type "enumerate") ∧ EV G S σ1 e (fun a σ2 => ∃ ds, a = .list ds ∧ kI (enumI ds) σ2) kx) kx) (hp : plains [e] = true := by rfl)
    (he : ∀ env, eval (.Call func [e] [] p) env = (do callWith p (← eval func env) [] (backTo p (starEach [e] env)) (backToKw p (keywordEach [] env))) := by intro env; rfl) : IE G S σ (.Call func [e] [] p) (.Tuple elts u tp) kI kx := fun r g s I₀ Q E hk hx => by
  refine callRaw (f := .type "enumerate") rfl hp ?_ he
  refine h r g s I₀ _ _ (fun vf s1 g1 a σ1 P1 R1 q1 => ?_) hx
  obtain ⟨rfl, q1⟩ := q1
  cases R1
  refine ⟨rfl, ?_⟩
  refine wpAny_items_cons (q1 r g1 s1 P1.inv _ _ (fun va s2 g2 a σ2 P2 R2 q2 => ?_) fun e s' g' x σ' P T => hx e s' g' x σ' (P1.trans P) (T.back fun _ => P1.back)) (starEach_plain (Bool.and_eq_true_iff.mp hp).1)
  refine wpAny_items_nil ⟨P2.inv.KIn, ?_⟩
  obtain ⟨ds, rfl, q2⟩ := q2
  have P12 := P1.trans P2
  cases R2 with
  | list ha Ra =>
    rename_i ax vs
    have hl := IsList.mono P2.inv.stay ha
    refine call_enumerate_list hl fun h' hE hI hz keep => ?_
    refine wpAny_pyIter_enum hE ?_
    have P3 := Post.grown P2.inv (h' := h') keep [] (fun _ h => nomatch h) s2.toks
    have P := P12.trans P3
    obtain ⟨oa, hoa, _⟩ := ha
    have hlt := Heap.lt_size (P2.inv.stay _ _ hoa)
    have f0 : ∀ n, s2.heap.objs.size ≤ n → s2.heap.get? n = none := fun n hn => by
      cases q : s2.heap.get? n with
      | none => rfl
      | some o => exact absurd (Heap.lt_size q) (Nat.not_lt.mpr hn)
    have W := WalksT.enumerate (prog := G.prog) (w := G.w) (A := r.A) (P2.inv.hd hq) (s2.heap.objs.size + 1) s2.heap.objs.size ax (Nat.succ_ne_self _) (Nat.ne_of_lt (Nat.lt_succ_of_lt hlt)) (Nat.ne_of_lt hlt) vs.toArray
    have new : ∀ b ∈ [s2.heap.objs.size + 1, s2.heap.objs.size], b ∉ frs (envR S r :: r.outer) ∧ b ∉ hid σ2.own ∧ g2.get? b = none ∧ s2.heap.get? b = none := fun b hb => by
      have : s2.heap.get? b = none := by
        rcases List.mem_cons.mp hb with rfl | hb
        · exact f0 _ (Nat.le_succ _)
        · rw [List.mem_singleton.mp hb]; exact f0 _ (Nat.le_refl _)
      obtain ⟨n1, n2, n3⟩ := P2.inv.apart_new this
      exact ⟨n1, n2, n3, this⟩
    refine hk (s2.heap.objs.size + 1) [s2.heap.objs.size + 1, s2.heap.objs.size, ax] [s2.heap.objs.size + 1, s2.heap.objs.size] _ (enumI ds) _ _ σ2 P (walk_tup W (by rw [enumI_length, List.size_toArray, Ra.length]) (fun i h st b hb => ?_) (fun i vals d hd hP => ?_)) ⟨⟨_, hE⟩, hI, ?_⟩ ⟨fun b hb => ?_, fun b hb => ?_⟩ q2
    · obtain ⟨⟨old, z1⟩, z2, z3⟩ := st
      simp only [List.mem_cons, List.not_mem_nil, or_false] at hb
      rcases hb with rfl | rfl | rfl
      · exact ⟨_, z1⟩
      · exact listIter_get z2
      · exact isList_get z3
    · obtain ⟨x, hx, rfl⟩ := enumI_get hd
      obtain ⟨t, v, hv, rfl⟩ := hP
      obtain ⟨v', hv', Rv⟩ := Ra.get hx
      rw [List.getElem?_toArray, hv'] at hv
      cases hv
      exact ⟨_, rfl, .cons (.int _ _) (.cons (Rv.mono P3.grow) .nil)⟩
    · obtain ⟨o, ho, q⟩ := hl
      exact ⟨o, keep _ _ ho, q⟩
    · obtain ⟨n1, n2, n3, n4⟩ := new b hb
      exact ⟨P12.back n4, gplus_none n3 (by simp), n2⟩
    · rcases List.mem_cons.mp hb with rfl | hb
      · obtain ⟨n1, n2, n3, n4⟩ := new _ (.head _)
        exact ⟨n1, n2⟩
      · rcases List.mem_cons.mp hb with rfl | hb
        · obtain ⟨n1, n2, n3, n4⟩ := new _ (.tail _ (.head _))
          exact ⟨n1, n2⟩
        · rw [List.mem_singleton.mp hb]; exact P2.inv.apart_old hoa
/-- the numbers below n are walked -/
def rangeI (n : Nat) : List LI := (List.range n).map fun i : Nat => .one (.int (i : Int))
theorem IE1_range (hq : S.D.q = true) {func e : Expr} {p : Pos} {kI : List LI → AS → Prop} (h : EV G S σ func (fun a σ1 => a = .v (.type "range") ∧ EV G S σ1 e (fun a σ2 => ∃ n : Nat, a = .int n ∧ n < 1000000 ∧ kI (rangeI n) σ2) kx) kx) (hp : plains [e] = true := by rfl)
    (he : ∀ env, eval (.Call func [e] [] p) env = (do callWith p (← eval func env) [] (backTo p (starEach [e] env)) (backToKw p (keywordEach [] env))) := by intro env; rfl) : IE1 G S σ (.Call func [e] [] p) kI kx := fun r g s I₀ Q E hk hx => by
  refine callRaw (f := .type "range") rfl hp ?_ he
  refine h r g s I₀ _ _ (fun vf s1 g1 a σ1 P1 R1 q1 => ?_) hx
  obtain ⟨rfl, q1⟩ := q1
  cases R1
  refine ⟨rfl, ?_⟩
  refine wpAny_items_cons (q1 r g1 s1 P1.inv _ _ (fun va s2 g2 a σ2 P2 R2 q2 => ?_) fun e s' g' x σ' P T => hx e s' g' x σ' (P1.trans P) (T.back fun _ => P1.back)) (starEach_plain (Bool.and_eq_true_iff.mp hp).1)
  refine wpAny_items_nil ⟨P2.inv.KIn, ?_⟩
  obtain ⟨n, rfl, hn, q2⟩ := q2
  have P12 := P1.trans P2
  cases R2 with
  | int _ tn =>
    refine call_range_1 ?_
    have hr : IsRange (s2.heap.push { cls := .type "range", data := .fields #[.int 0 s2.toks, .int n tn, .int 1 (s2.toks + 1)] }) s2.heap.objs.size 0 n 1 s2.toks tn (s2.toks + 1) := Heap.get?_push_size _ rfl
    have small : Builtin.Range.small 0 n 1 = true := by
      exact small_one (by omega) (by omega) (by omega) (by omega)
    refine wpAny_pyIter_range hr small ?_
    have P3 := Post.grown P2.inv (h' := (s2.heap.push { cls := .type "range", data := .fields #[.int 0 s2.toks, .int n tn, .int 1 (s2.toks + 1)] }).push { cls := .type "range_iterator", data := .fields #[rawInt 0, rawInt (Builtin.Range.rangeSize 0 n 1), rawInt 1] })
      (fun b o e => Heap.get?_push_of_some _ (Heap.get?_push_of_some _ e)) [] (fun _ h => nomatch h) (s2.toks + 1 + 1)
    have P := P12.trans P3
    have hz : (s2.heap.push { cls := .type "range", data := .fields #[.int 0 s2.toks, .int n tn, .int 1 (s2.toks + 1)] }).objs.size = s2.heap.objs.size + 1 := Heap.size_push ..
    have fz : s2.heap.get? (s2.heap.objs.size + 1) = none := by
      cases q : s2.heap.get? (s2.heap.objs.size + 1) with
      | none => rfl
      | some o => exact absurd (Heap.lt_size q) (Nat.not_lt.mpr (Nat.le_succ _))
    have W := Walks.range (prog := G.prog) (w := G.w) (A := r.A) (P2.inv.hd hq) (s2.heap.objs.size + 1) 0 1 n
    have hsz : Builtin.Range.rangeSize 0 n 1 = n := by
      rw [rangeSize_nat]; congr 1
    obtain ⟨n1, n2, n3⟩ := P2.inv.apart_new fz
    rw [hz]
    refine hk (s2.heap.objs.size + 1) [s2.heap.objs.size + 1] [s2.heap.objs.size + 1] _ (rangeI n) _ _ σ2 P (walk_one W (by simp [rangeI]) (fun i h st b hb => ?_) (fun i v d h hd hP => ?_)) ?_ ⟨fun b hb => ?_, fun b hb => ?_⟩ q2
    · rw [List.mem_singleton.mp hb]; exact ⟨_, st⟩
    · unfold rangeI at hd
      rw [List.getElem?_map] at hd
      obtain ⟨j, hj, rfl⟩ := Option.map_eq_some_iff.mp hd
      obtain ⟨tv, rfl⟩ := hP
      have : j = i := by
        have := List.getElem?_eq_some_iff.mp hj
        obtain ⟨h1, h2⟩ := this
        rw [List.getElem_range] at h2
        exact h2.symm
      subst this
      have e : (0 : Int) + (j : Int) * 1 = j := by omega
      rw [e]
      exact .int _ _
    · have := Heap.get?_push_size (s2.heap.push { cls := .type "range", data := .fields #[.int 0 s2.toks, .int n tn, .int 1 (s2.toks + 1)] }) (o := { cls := .type "range_iterator", data := .fields #[rawInt 0, rawInt (Builtin.Range.rangeSize 0 n 1), rawInt 1] }) rfl
      rw [hz] at this
      simp only [hsz] at this ⊢
      simpa [IsRangeIter] using this
    · rw [List.mem_singleton.mp hb]
      exact ⟨P12.back fz, gplus_none n3 (by simp), n2⟩
    · rw [List.mem_singleton.mp hb]; exact ⟨n1, n2⟩
end
end Mine
end
/-! Lg17 -/
section
open PySem PySem.Calls PyProof.Rows
open PySem.W
namespace Mine
section
variable {G : Gb} {S : St} {r : Rt} {g g' : Heap} {σ σ' : AS} {s s' : Shared} {k : AV → AS → Prop} {kx : AX → AS → Prop} {kf : AF → AS → Prop} {kl : List AV → AS → Prop} {ku : Unit → AS → Prop} {ds es : List AV} {own rest : List (Addr × OV)}

/-! the block of a comprehension -/
def relS (scope : Scope) (S : St) : Scope :=
  { scope with names := scope.names.map fun (n, k) => if (k == .free && S.scope.kind == .function && S.scope.names.lookup n == some .cell) then (n, .cell) else (n, k) }
def compS (S : St) (scope : Scope) (names : List Str) : St := ⟨S.qual, relS scope S, S.fn, S.code, names, S.D, true⟩
def compR (S : St) (r : Rt) (C : Addr) (cl : List (Str × Addr)) : Rt := ⟨r.A, C, cl, envR S r :: r.outer, none, r.fr⟩
theorem comp_env {S : St} {r : Rt} {scope : Scope} {names : List Str} {C : Addr} {cl : List (Str × Addr)} : compEnvC scope cl C (envE S r) = envE (compS S scope names) (compR S r C cl) := rfl
theorem Inv.comp (hc : S.comp = false) (I : Inv G S r g σ s) {scope : Scope} {names : List Str} {C : Addr} {cl : List (Str × Addr)} {m : Str → Option Value} {loc : List (Option AV)} (hk : scope.kind = .function) (hnd : names.Nodup) (hC : s.heap.Ns C m) (hg : g.get? C = none) (hf : C ∉ frs (envR S r :: r.outer)) (ho : C ∉ hid σ.own)
    (hl : LocOk g (compS S scope names) (compR S r C cl) m loc) : Inv G (compS S scope names) (compR S r C cl) g ⟨loc, σ.own⟩ s := by
  have hfr : r.A.frames = some (envR S r :: r.outer) := by have := I.frames; unfold stk at this; rw [hc] at this; exact this
  refine ⟨I.ok, hfr, fun h => (nomatch h), I.stay, I.base, ⟨by show (relS scope S).kind ≠ _; unfold relS; rw [hk]; decide, ?_, I.ff⟩, ⟨m, hC, hl⟩, I.own, fun b hb hn => ?_, hf, I.bare, I.os, I.dep, I.un, I.hd, I.hx, hk, hnd⟩
  · obtain ⟨oL, es, ep, hL', hd, _⟩ := hC
    exact ⟨C, oL, rfl, hg, hL', fun vs => by rw [hd]; exact fun q => nomatch q⟩
  · rw [frs_cons] at hn
    rcases List.mem_cons.mp hn with z | hn
    · exact ho (by rw [← (show b = C from z)]; exact hb)
    · exact I.apart b hb hn
theorem Post.comp (hc : S.comp = false) {gi : Heap} {σi σ1 σ2 : AS} {si : Shared} (P : Post G S r g σ s gi σi si) {scope : Scope} {names : List Str} {C : Addr} {cl : List (Str × Addr)} (hC : s.heap.get? C = none) (hown : σ1.own = σi.own)
    (P' : Post G (compS S scope names) (compR S r C cl) gi σ1 si g' σ2 s') : Post G S r g σ s g' ⟨σi.loc, σ2.own⟩ s' := by
  have I := P.inv
  have back : ∀ b o, s.heap.get? b = some o → b ∉ hid σ.own → b ∉ hid σ1.own := fun b o e n hm => by
    rw [hown] at hm
    rcases P.ownx b hm with h | h
    · exact n h
    · rw [h] at e; cases e
  have fsub : ∀ b ∈ frs (envR S r :: r.outer), b ∈ frs (envR (compS S scope names) (compR S r C cl) :: (compR S r C cl).outer) := fun b hb => by rw [frs_cons]; exact .tail _ hb
  have fm : ∀ b, b ∈ frs (envR (compS S scope names) (compR S r C cl) :: (compR S r C cl).outer) → b = C ∨ b ∈ frs (envR S r :: r.outer) := fun b hb => by
    rw [frs_cons] at hb
    exact List.mem_cons.mp hb
  refine ⟨⟨I.ok, I.frames, I.ev, P'.inv.stay, P'.inv.base, P'.inv.ff.2.2, ?_, P'.inv.own, fun b hb hn => P'.inv.apart b hb (fsub b hn), I.lone, P'.inv.bare, P'.inv.os, I.dep, I.un, I.hd, I.hx.mono P'.grow, I.fun_, I.nd⟩,
    fun b o e => P'.grow _ _ (P.grow _ _ e), fun b o e n q => ?_, fun b o e n1 n2 => ?_, fun b hb o e => ?_, fun b hb => ?_, fun i z e => P'.gens _ _ (P.gens _ _ e), fun b hb => ?_⟩
  · obtain ⟨m, ⟨o, es, ep, ho, hd, q⟩, hl⟩ := I.loc
    obtain ⟨sl, e⟩ := P'.fr r.L (by show r.L ∈ frs (envR S r :: r.outer); rw [frs_cons]; exact .head _) o ho
    refine ⟨m, ⟨_, es, ep, e, hd, q⟩, fun i x a h1 h2 => ?_⟩
    obtain ⟨v, hv, R⟩ := hl i x a h1 h2
    refine ⟨v, ?_, R.mono P'.grow⟩
    rcases hv with h | ⟨h, c, hc, oc, hoc, hd'⟩
    · exact .inl h
    · exact .inr ⟨h, c, hc, oc, P'.grow _ _ hoc, hd'⟩
  · obtain ⟨o', ho'⟩ := P.there e
    exact P'.only b o' ho' (back b o e n) (P.only b o e n q)
  · refine P'.ext b o (P.ext b o e n1 n2) (fun hn => ?_) (back b o e n2)
    rcases fm b hn with z | z
    · rw [z, hC] at e; cases e
    · exact n1 z
  · obtain ⟨sl, e1⟩ := P.fr b hb o e
    obtain ⟨sl2, e2⟩ := P'.fr b (by show b ∈ frs (envR S r :: r.outer); rw [frs_cons]; exact .tail _ hb) _ e1
    exact ⟨sl2, e2⟩
  · rcases P'.ownx b hb with h | h
    · rw [hown] at h; exact P.ownx b h
    · exact .inr (P.back h)
  · obtain ⟨o, ho⟩ := P.live b hb
    exact P'.there ho

/-- what a comprehension's block sees of the names about it -/
structure CapOk (S : St) (loc : List (Option AV)) (scope : Scope) (names : List Str) (caps : List (Option AV)) : Prop where
  cap : ∀ (i : Nat) (y : Str) (a : AV), names[i]? = some y → caps[i]? = some (some a) → (∃ j : Nat, S.names[j]? = some y ∧ loc[j]? = some (some a)) ∧ S.scope.names.lookup y = some .cell ∧ scope.names.lookup y = some .free
  free : ∀ y, scope.names.lookup y = some .free → ∃ (i : Nat) (a : AV), names[i]? = some y ∧ caps[i]? = some (some a)
structure ScopeOk (S : St) (scope : Scope) (x : Str) (names : List Str) : Prop where
  hx : scope.names.lookup x = some .local
  kind : scope.kind = .function
  cell : ∀ y ∈ scope.names, y.2 ≠ .cell
  loc : ∀ y ∈ scope.names, y.2 = .local → scope.names.lookup y.1 = some .local
  nd : (x :: names).Nodup
  clos : ∀ env : Env, (∀ y, scope.names.lookup y = some .free → (env.cells.lookup y).isSome = true) → ∃ cl, closureFor scope env = pure cl ∧ ∀ y, scope.names.lookup y = some .free → cl.lookup y = env.cells.lookup y
  rel : ∀ y, scope.names.lookup y = some .free → S.scope.names.lookup y = some .cell → (relS scope S).names.lookup y = some .cell
theorem CapOk.locOk {m m' : Str → Option Value} {loc caps : List (Option AV)} {scope : Scope} {x : Str} {names : List Str} {C : Addr} {cl : List (Str × Addr)} (X : CapOk S loc scope names caps) (Y : ScopeOk S scope x names) (hl : LocOk g S r m loc)
    (hcl : ∀ y, scope.names.lookup y = some .free → cl.lookup y = r.cl.lookup y) : LocOk g (compS S scope (x :: names)) (compR S r C cl) m' (none :: caps) := fun i y a h1 h2 => by
  cases i with
  | zero => cases h2
  | succ i =>
    obtain ⟨⟨j, j1, j2⟩, c1, c2⟩ := X.cap i y a h1 h2
    obtain ⟨v, hv, R⟩ := hl j y a j1 j2
    refine ⟨v, .inr ⟨.inl (Y.rel y c2 c1), ?_⟩, R⟩
    rcases hv with ⟨h, _⟩ | ⟨_, c, hc, q⟩
    · rw [c1] at h; cases h
    · exact ⟨c, by show cl.lookup y = _; rw [hcl y c2]; exact hc, q⟩
theorem appendL {A : Around} {Q : Value → Shared → Prop} {E : Value → Shared → Prop} {a : Addr} {vs : List Value} {v : Value} (hl : OwnL s.heap a vs) (hz : vs.length ≤ sizeLine) (h : OwnL (s.heap.update a (Obj.mapSeq (·.push v))) a (vs ++ [v]) → Q .none { s with heap := s.heap.update a (Obj.mapSeq (·.push v)) }) :
    wpAny (model G.prog G.w) A (call (.builtin "list.append") [.ref a, v]) Q E s := by
  obtain ⟨o, ho, hc, hdn, n, hd⟩ := id hl
  refine wpAny_call_entry slot_list_append hl.isList.typeIs entry_list_append ?_ (args_list_append _ _)
  show wpAny _ _ (updateSeq a (·.push v) >>= fun _ => ret .none) _ _ s
  refine wpAny_bind ?_
  have hsz : vs.toArray.size ≤ sizeLine := by rw [List.size_toArray]; exact hz
  exact wpAny_updateSeq ho hd (wpAny_pure ⟨.none, rfl, h (ownL_of (h' := s.heap) hl _ (by simp))⟩)
theorem EV_ListComp (hc : S.comp = false) {elt iter : Expr} {x : Str} {px : Pos} {scope : Scope} {pos : Pos} {names : List Str} {caps : List (Option AV)} (Y : ScopeOk S scope x names) (X₀ : CapOk S σ.loc scope names caps)
    (h : IE1 G S σ iter (fun items σ1 => ∃ ds : List AV, items = ds.map .one ∧ ds.length ≤ sizeLine ∧ CapOk S σ1.loc scope names caps ∧ ∃ J : Nat → List AV → List (Addr × OV) → Prop, J 0 [] σ1.own ∧
      (∀ i d ys own, ds[i]? = some d → J i ys own → EV G (compS S scope (x :: names)) ⟨some d :: caps, own⟩ elt (fun a σ2 => J (i + 1) (ys ++ [a]) σ2.own) (fun _ _ => False)) ∧ ∀ ys own, J ds.length ys own → k (.list ys) ⟨σ1.loc, own⟩) kx)
    (hs : ∀ (env : Env) x, foldedSetIterable iter env x = pure x := by intro env x; rfl) : EV G S σ (.ListComp elt [⟨.Name x px, iter, [], 0⟩] scope pos) k kx := fun r g s I₀ Q E hk hx => by
  show wpAny _ _ (eval (.ListComp elt [⟨.Name x px, iter, [], 0⟩] scope pos) (envE S r)) _ _ _
  rw [eval_ListComp]
  have hcells : ∀ y, scope.names.lookup y = some .free → ((envE S r).cells.lookup y).isSome = true := fun y hy => by
    obtain ⟨i, a, i1, i2⟩ := X₀.free y hy
    obtain ⟨⟨j, j1, j2⟩, c1, c2⟩ := X₀.cap i y a i1 i2
    obtain ⟨m, hm, hl⟩ := I₀.loc
    obtain ⟨v, hv, R⟩ := hl j y a j1 j2
    rcases hv with ⟨h, _⟩ | ⟨_, c, hc, q⟩
    · rw [c1] at h; cases h
    · show (r.cl.lookup y).isSome = true
      rw [hc]; rfl
  obtain ⟨cl, hclos, hcl⟩ := Y.clos (envE S r) hcells
  refine wpAny_comprehension_free (use := none) rfl (hs _) hclos Y.kind Y.loc (h r g s I₀ _ _ (fun I fp wr St items s₂ g₂ σ₂ P₂ W hst C q => ?_) hx)
  obtain ⟨ds, rfl, hz, X, J, j0, jt, jn⟩ := q
  refine wpAny_newObj_type (wpAny_newFunctionEnv Y.cell (by intro y hy; simp at hy) (fun h₁ hns₁ hsb₁ => ?_) Y.kind)
  dsimp only at hns₁ hsb₁ ⊢
  have I₂ := P₂.inv
  generalize hD : s₂.heap.objs.size = Da at *
  have fresh : ∀ a, Da ≤ a → s₂.heap.get? a = none := fun a ha => by
    cases e : s₂.heap.get? a with
    | none => rfl
    | some o' => exact absurd (Heap.lt_size e) (Nat.not_lt.mpr (by rw [hD]; exact ha))
  generalize hH2 : s₂.heap.push { cls := .type "list", dict := none, data := .seq ([] : List Value).toArray } = H2 at hns₁ hsb₁ ⊢
  have hC : H2.objs.size = Da + 1 := by rw [← hH2, Heap.size_push, hD]
  generalize hCa : H2.objs.size = Ca at *
  have hDC : Da ≠ Ca := by rw [hC]; exact Nat.ne_of_lt (Nat.lt_succ_self _)
  have nC : s₂.heap.get? Ca = none := fresh _ (by rw [hC]; exact Nat.le_succ _)
  have nD : s₂.heap.get? Da = none := fresh _ (Nat.le_refl _)
  have old : ∀ b o, s₂.heap.get? b = some o → h₁.get? b = some o := fun b o e => hsb₁.extBut b o (fun z => by rw [z, nC] at e; cases e) (Heap.get?_push_of_some _ (hH2 ▸ Heap.get?_push_of_some _ e))
  have hacc : OwnL h₁ Da [] := ⟨_, hsb₁.extBut _ _ hDC (Heap.get?_push_of_some _ (by rw [← hH2, ← hD]; exact Heap.get?_push_size _ rfl)), rfl, rfl, 0, rfl⟩
  have aC := I₂.apart_new nC
  have aD := I₂.apart_new nD
  have P₃ := P₂.trans (Post.grown I₂ (h' := h₁) old [] (fun _ h => nomatch h) s₂.toks)
  have g3D : (gplus g₂ h₁ []).get? Da = none := gplus_none aD.2.2 (by simp)
  have g3C : (gplus g₂ h₁ []).get? Ca = none := gplus_none aC.2.2 (by simp)
  have sD : s.heap.get? Da = none := P₂.back nD
  have sC : s.heap.get? Ca = none := P₂.back nC
  have liv := W.live _ _ hst
  have fD : Da ∉ fp := fun h => by obtain ⟨o, ho⟩ := liv _ h; rw [nD] at ho; cases ho
  have fC : Ca ∉ fp := fun h => by obtain ⟨o, ho⟩ := liv _ h; rw [nC] at ho; cases ho
  have wD : Da ∉ wr := fun h => fD (W.sub _ h)
  have wC : Ca ∉ wr := fun h => fC (W.sub _ h)
  have loop : ∀ s₃ : Shared, s₃ = { s₂ with heap := h₁, toks := s₂.toks } → codeAny (model G.prog G.w) r.A (.compLoop (.ListComp elt [⟨.Name x px, iter, [], 0⟩] scope pos) 0 (.ref I) (.ref Da) (envE (compS S scope (x :: names)) (compR S r Ca cl)))
      (compPost (model G.prog G.w) r.A E none Q (.ref Da) Ca) s₃ := by
    rintro s₃ rfl
    refine codeAny_compLoop_list (fun n si => ∃ (i : Nat) (gi : Heap) (own : List (Addr × OV)) (ys : List AV) (vs : List Value), Post G S r g σ s gi ⟨σ₂.loc, own⟩ si ∧ g₂.StaysIn gi ∧ St i si.heap ∧ LpAt S r g σ s gi ⟨σ₂.loc, own⟩ si fp wr ∧ OwnL si.heap Da vs ∧ RelL gi vs ys ∧ gi.get? Da = none ∧ gi.get? Ca = none ∧
        Da ∉ hid own ∧ Ca ∉ hid own ∧ (∃ m, si.heap.Ns Ca m) ∧ J i ys own ∧ i ≤ ds.length ∧ ys.length = i ∧ n = ds.length + 1 - i) ?_ (ds.length + 1)
      ⟨0, _, σ₂.own, [], [], P₃, gplus_grow (fun b o e => old b o (I₂.stay _ _ e)), W.frame _ _ _ hst fun b _ o e => old b o e, ⟨fun b hb => ⟨(C.wr b hb).1, gplus_none (C.wr b hb).2.1 (by simp), (C.wr b hb).2.2⟩, C.fp⟩, hacc, .nil, g3D, g3C, aD.2.1, aC.2.1, ⟨_, hns₁⟩, j0, Nat.zero_le _, rfl, rfl⟩
    rintro n si ⟨i, gi, own, ys, vs, Pi, hg, hsti, Ci, hDi, Ri, gD, gC, oD, oC, ⟨mC, hmC⟩, hJ, hi, hlen, rfl⟩
    have step : ∀ h' tk, (∀ b o, b ∉ wr → si.heap.get? b = some o → h'.get? b = some o) → Post G S r g σ s gi ⟨σ₂.loc, own⟩ { si with heap := h', toks := tk } := fun h' tk hk' => by
      have P1 := Pi.touch I₀ (h' := h') (fun b o ho hn hz => hk' b o (fun hw => by
          obtain ⟨z1, z2, z3⟩ := Ci.wr b hw
          rcases hz with hz | hz | hz
          · exact hz z1
          · rw [z2] at hz; cases hz
          · exact z3 hz) ho) fun b hb o ho => ⟨o.slots, hk' b o (fun hw => by
            obtain ⟨z1, z2, z3⟩ := Ci.wr b hw
            obtain ⟨_, o₁, h₁, _⟩ := I₀.ff.mem hb
            rw [z1] at h₁; cases h₁) ho⟩
      exact P1.trans (Post.toks P1.inv tk)
    by_cases hlt : i < ds.length
    · have hd : ds[i]? = some ds[i] := List.getElem?_eq_getElem hlt
      refine W.next i (.one ds[i]) si _ _ (by rw [List.getElem?_map, hd]; rfl) hsti fun v h' tk Rv st' hk' => ?_
      have P1 := step h' tk hk'
      have hmC' : h'.Ns Ca mC := hmC.at' fun o e => hk' Ca o wC e
      have hD' : OwnL h' Da vs := let ⟨o, ho, q⟩ := hDi; ⟨o, hk' Da o wD ho, q⟩
      obtain ⟨mL, hmL, hlo⟩ := P1.inv.loc
      have I' := Inv.comp (cl := cl) hc P1.inv Y.kind Y.nd hmC' gC aC.1 oC (X.locOk Y hlo hcl)
      have hAG : AG G (compS S scope (x :: names)) ⟨none :: caps, own⟩ (.Name x px) ds[i] (fun _ σ' => σ' = ⟨some ds[i] :: caps, own⟩) (fun _ _ => False) := AG_Name 0 rfl (lookup_relabel_local (env := envE S r) Y.hx) rfl
      refine hAG (compR S r Ca cl) gi _ I' v (Rv.mono hg) _ _ (fun u s2 g2 u' σ2' P2' _ q2 => ?_) fun _ _ _ _ _ _ _ q => q.elim
      subst q2
      refine jt i ds[i] ys own hd hJ (compR S r Ca cl) g2 s2 P2'.inv _ _ (fun va s3 g3 a σ3 P3' R3 q3 => ?_) fun _ _ _ _ _ _ _ q => q.elim
      have P' := P2'.trans P3'
      have PP := Post.comp (σ1 := ⟨none :: caps, own⟩) hc P1 sC rfl P'
      have nfr : ∀ b, b ≠ Ca → b ∉ frs (envR S r :: r.outer) → b ∉ frs (envR (compS S scope (x :: names)) (compR S r Ca cl) :: (compR S r Ca cl).outer) := fun b h1 h2 h3 => by
        rw [frs_cons] at h3
        rcases List.mem_cons.mp h3 with z | z
        · exact h1 z
        · exact h2 z
      have pres : ∀ b o, h'.get? b = some o → b ≠ Ca → b ∉ frs (envR S r :: r.outer) → b ∉ hid own → s3.heap.get? b = some o := fun b o e h1 h2 h3 => P'.ext b o e (nfr b h1 h2) h3
      have hD3 : OwnL s3.heap Da vs := let ⟨o, ho, q⟩ := hD'; ⟨o, pres Da o ho hDC aD.1 oD, q⟩
      have exD : ∃ o, h'.get? Da = some o := let ⟨o, ho, _⟩ := hD'; ⟨o, ho⟩
      have exC : ∃ o, h'.get? Ca = some o := let ⟨o, _, _, ho, _⟩ := hmC'; ⟨o, ho⟩
      have keepNot : ∀ b, (∃ o, h'.get? b = some o) → b ∉ hid own → b ∉ hid σ3.own := fun b ⟨o, ho⟩ hn hm => by
        rcases P'.ownx b hm with z | z
        · exact hn z
        · rw [show ({ si with heap := h', toks := tk } : Shared).heap.get? b = some o from ho] at z; cases z
      have gD3 : g3.get? Da = none := let ⟨o, ho⟩ := exD; P'.only Da o ho oD gD
      have gC3 : g3.get? Ca = none := let ⟨o, ho⟩ := exC; P'.only Ca o ho oC gC
      have oD3 := keepNot Da exD oD
      have oC3 := keepNot Ca exC oC
      refine appendL hD3 (by rw [Ri.length, hlen]; exact Nat.le_trans hi hz) fun hD4 => ⟨ds.length + 1 - (i + 1), by omega, i + 1, g3, σ3.own, ys ++ [a], vs ++ [va], ?_, fun b o e => P'.grow _ _ (hg _ _ e), ?_, ⟨fun b hb => ?_, fun b hb => ?_⟩, hD4, ((Ri.mono P'.grow).append (.cons R3 .nil)), gD3, gC3, oD3, oC3, ?_, q3, hlt, by rw [List.length_append, hlen]; rfl, rfl⟩
      · refine PP.touch I₀ (fun b o ho hn hz => ?_) fun b hb o ho => ⟨o.slots, ?_⟩
        · rw [Heap.get?_update_other _ _ (fun z => ?_)]
          · exact ho
          · subst z
            rcases hz with hz | hz | hz
            · exact hz sD
            · rw [gD3] at hz; cases hz
            · exact oD3 hz
        · rw [Heap.get?_update_other _ _ (show Da ≠ b from fun z => aD.1 (z ▸ hb))]
          exact ho
      · refine W.frame _ _ _ st' fun b hb o ho => ?_
        rw [Heap.get?_update_other _ _ (show Da ≠ b from fun z => fD (z ▸ hb))]
        exact pres b o ho (fun z => fC (z ▸ hb)) (Ci.fp b hb).1 (Ci.fp b hb).2
      · obtain ⟨z1, z2, z3⟩ := Ci.wr b hb
        obtain ⟨o, ho⟩ := W.live _ _ st' b (W.sub b hb)
        exact ⟨z1, P'.only b o ho z3 z2, keepNot b ⟨o, ho⟩ z3⟩
      · exact ⟨(Ci.fp b hb).1, keepNot b (W.live _ _ st' b hb) (Ci.fp b hb).2⟩
      · obtain ⟨m3, h3, _⟩ := P'.inv.loc
        exact ⟨m3, h3.sameBut (Heap.SameBut.update ..) (Ne.symm hDC)⟩
    · have hin : i = ds.length := by omega
      subst hin
      refine W.done si _ _ (by rw [List.length_map]; exact hsti) fun h' tk hk' => ?_
      have P1 := step h' tk hk'
      refine ⟨mC, hmC.at' fun o e => hk' Ca o wC e, fun h'' hs'' => ?_⟩
      have hD' : OwnL h' Da vs := let ⟨o, ho, q⟩ := hDi; ⟨o, hk' Da o wD ho, q⟩
      have hD'' : OwnL h'' Da vs := let ⟨o, ho, q⟩ := hD'; ⟨o, hs''.extBut _ _ hDC ho, q⟩
      have P2 := P1.touch I₀ (h' := h'') (fun b o ho hn hz => hs''.extBut b o (fun z => by
          subst z
          rcases hz with hz | hz | hz
          · exact hz sC
          · rw [gC] at hz; cases hz
          · exact oC hz) ho) fun b hb o ho => ⟨o.slots, hs''.extBut b o (fun z => aC.1 (z ▸ hb)) ho⟩
      have P3 := P2.ghost [Da] fun b hb => by rw [List.mem_singleton.mp hb]; exact ⟨sD, aD.1, oD⟩
      obtain ⟨o, ho, q⟩ := hD''.isList
      exact hk _ _ _ _ _ P3 (.list ⟨o, gplus_new (.head _) ho, q⟩ (Ri.mono (gplus_grow P2.inv.stay))) (jn ys own hJ)
  exact codeAny_compStart_list (loop _ rfl) (W.self 0 _ _ _ (W.frame _ _ _ hst fun b _ o e => old b o e) (loop _ rfl))
end
end Mine
end
/-! Lg18 -/
section
open PySem PySem.Calls PyProof.Rows
open PySem.W
namespace Mine
section
variable {G : Gb} {S : St} {r : Rt} {g g' : Heap} {σ σ' : AS} {s s' : Shared} {k : AV → AS → Prop} {kx : AX → AS → Prop} {kf : AF → AS → Prop} {kl : List AV → AS → Prop} {ku : Unit → AS → Prop} {ds es : List AV} {own rest : List (Addr × OV)}

/-! while -/
def whK (J : Nat → AS → Prop) (kf : AF → AS → Prop) (n : Nat) : AF → AS → Prop
  | .next, σ => ∃ m, m < n ∧ J m σ
  | .cont, σ => ∃ m, m < n ∧ J m σ
  | .brk, σ => kf .next σ
  | .ret a, σ => kf (.ret a) σ
theorem ES_While (hc : S.comp = false) {test : Expr} {body : List Stmt} {p : Pos} (J : Nat → AS → Prop) (n : Nat) (j0 : J n σ) (jt : ∀ n σi, J n σi → TV G S σi test (fun b σ' => if b then EX G S σ' body (whK J kf n) kx else kf .next σ') kx) : ES G S σ (.While test body [] p) kf kx := fun r g s I₀ Q E hk hx => by
  have hx' : ∀ e s' g' x σ', Post G S r g σ s g' σ' s' → ThrAt (some r.L) g' s.heap s'.heap σ'.own e x → kx x σ' → notedBy (model G.prog G.w) r.A (envE S r) (fun e s' => cameBackBy (model G.prog G.w) r.A (envE S r) E e s') (.ref e) s' :=
    fun e s' g' x σ' P T q => passes hc (by have := P.inv.frames; unfold stk at this; rw [hc] at this; exact this) I₀ P T fun s'' P' T' => hx e s'' g' x σ' P' T' q
  refine wpAny_While ?_
  refine codeAny_whileLoop (R := fun r' s' => match r' with | .ok f => Q f s' | .error e => cameBackBy (model G.prog G.w) r.A (envE S r) E e s')
    (fun n si => ∃ gi σi, Post G S r g σ s gi σi si ∧ J n σi) ?_ n ⟨g, σ, .refl I₀, j0⟩
  rintro n si ⟨gi, σi, Pi, hJ⟩
  refine jt n σi hJ r gi si Pi.inv _ _ (fun b s1 g1 b' σ1 P1 e q1 => ?_) fun e s' g' x σ' P T q => hx' e s' g' x σ' (Pi.trans P) (T.back fun _ => Pi.back) q
  subst e
  have PP := Pi.trans P1
  cases b with
  | false => exact wpAny_execs_nil (hk _ _ _ _ _ PP .next q1)
  | true =>
    have q1' : EX G S σ1 body (whK J kf n) kx := q1
    refine q1' r g1 s1 P1.inv _ _ (fun fl s2 g2 f σ2 P2 Rf q2 => ?_) fun e s' g' x σ' P T q => hx' e s' g' x σ' (PP.trans P) (T.back fun _ => PP.back) q
    have P3 := PP.trans P2
    cases Rf with
    | next => obtain ⟨m, hm, q⟩ := q2; exact ⟨m, hm, g2, σ2, P3, q⟩
    | cont => obtain ⟨m, hm, q⟩ := q2; exact ⟨m, hm, g2, σ2, P3, q⟩
    | brk => exact hk _ _ _ _ _ P3 .next q2
    | ret R => exact hk _ _ _ _ _ P3 (.ret R) q2

/-- octets are walked -/
theorem IE1_bytes (hq : S.D.q = true) {iter : Expr} {kI : List LI → AS → Prop} (h : EV G S σ iter (fun a σ1 => ∃ b : Array UInt8, a = .bytes b ∧ kI (b.toList.map fun c => .one (.int (c.toNat : Int))) σ1) kx) : IE1 G S σ iter kI kx := fun r g s I₀ Q E hk hx => by
  refine h r g s I₀ _ _ (fun va s1 g1 a σ1 P1 R1 q => ?_) hx
  obtain ⟨b, rfl, q⟩ := q
  cases R1 with
  | bytes _ t =>
    refine KBw.pyIter_bytes ?_
    have P2 := Post.grown P1.inv (h' := s1.heap.push { cls := .type "bytes_iterator", data := .fields #[.bytes b t, .int 0 0] }) (fun b o e => Heap.get?_push_of_some _ e) [] (fun _ h => nomatch h) s1.toks
    have P := P1.trans P2
    have W := KBw.walks (prog := G.prog) (w := G.w) (A := r.A) (P1.inv.hd hq) s1.heap.objs.size b t
    have fz : s1.heap.get? s1.heap.objs.size = none := none_size _
    obtain ⟨n1, n2, n3⟩ := P1.inv.apart_new fz
    refine hk s1.heap.objs.size [s1.heap.objs.size] [s1.heap.objs.size] _ (b.toList.map fun c => .one (.int (c.toNat : Int))) _ _ σ1 P (walk_one W (by simp) (fun i h st x hb => ?_) (fun i v d h hd hP => ?_)) ⟨_, Heap.get?_push_size _ rfl, rfl, rfl⟩ ⟨fun x hb => ?_, fun x hb => ?_⟩ q
    · rw [List.mem_singleton.mp hb]; exact let ⟨o, ho, _⟩ := st; ⟨o, ho⟩
    · rw [List.getElem?_map] at hd
      obtain ⟨c, hc, rfl⟩ := Option.map_eq_some_iff.mp hd
      obtain ⟨c', u, hc', rfl⟩ := hP
      have : c = c' := by
        rw [Array.getElem?_toList] at hc
        rw [hc] at hc'
        exact Option.some.inj hc'
      subst this
      exact .int _ _
    · rw [List.mem_singleton.mp hb]; exact ⟨P1.back fz, gplus_none n3 (by simp), n2⟩
    · rw [List.mem_singleton.mp hb]; exact ⟨n1, n2⟩

/-! texts with places -/
/-- the parts of a text, joined behind what stands -/
def JP (G : Gb) (S : St) (σ : AS) (acc : Str) (es : List Expr) (k : AV → AS → Prop) (kx : AX → AS → Prop) : Prop := TrA G S σ (fun r => joinParts acc (evalEach es (envE S r))) RelV k kx
theorem JP_nil {acc : Str} (hz : acc.length ≤ sizeLine) (h : k (.str acc) σ) : JP G S σ acc [] k kx := fun r g s I Q E hk hx => joinParts_nil (hk _ _ _ _ _ (.toks I _) (.str _ _) h) hz
theorem JP_cons {acc : Str} {e : Expr} {rest : List Expr} (h : EV G S σ e (fun a σ1 => ∃ y, a = .str y ∧ (acc ++ y).length ≤ sizeLine ∧ JP G S σ1 (acc ++ y) rest k kx) kx) : JP G S σ acc (e :: rest) k kx := fun r g s I Q E hk hx => by
  refine joinParts_cons (x := eval e (envE S r)) (rest := evalEach rest (envE S r)) (h r g s I _ _ (fun va s1 g1 a σ1 P1 R1 q => ?_) hx)
  obtain ⟨y, rfl, hz, q⟩ := q
  cases R1
  exact ⟨hz, (q r g1 s1 P1.inv).from P1 hk hx⟩
theorem EV_JoinedStr {e₁ e₂ : Expr} {rest : List Expr} {p : Pos} (h : JP G S σ Str.empty (e₁ :: e₂ :: rest) k kx) : EV G S σ (.JoinedStr (e₁ :: e₂ :: rest) p) k kx := fun r g s I Q E hk hx => JoinedStr_many (h r g s I Q E hk hx)
end
end Mine
end
/-! Lg19 -/
section
open PySem PySem.Calls PyProof.Rows
open PySem.W
namespace Mine
section
variable {G : Gb} {S : St} {r : Rt} {g g' : Heap} {σ σ' : AS} {s s' : Shared} {k : AV → AS → Prop} {kx : AX → AS → Prop} {kf : AF → AS → Prop} {kl : List AV → AS → Prop} {ku : Unit → AS → Prop} {ds es : List AV} {own rest : List (Addr × OV)} {e : Addr} {x : AX}

theorem frs_nofields {l : List Env} (ff : s.heap.FunFrames g l) {b : Addr} {o : Obj} {vs : Array Value} (e : s.heap.get? b = some o) (hd : o.data = .fields vs) : b ∉ frs l := fun hn => by
  obtain ⟨_, o', ho', hd'⟩ := ff.mem hn
  rw [e] at ho'; cases ho'
  exact hd' _ hd
theorem Post.forget (I : Inv G S r g σ s) : Post G S r g σ s g ⟨[], σ.own⟩ s :=
  ⟨⟨I.ok, I.frames, I.ev, I.stay, I.base, I.ff, let ⟨m, hm, _⟩ := I.loc; ⟨m, hm, fun i x a _ h => by simp at h⟩, I.own, I.apart, I.lone, I.bare, I.os, I.dep, I.un, I.hd, I.hx, I.fun_, I.nd⟩,
    fun _ _ e => e, fun _ _ _ _ e => e, fun _ _ e _ _ => e, fun _ _ o e => ⟨o.slots, e⟩, fun b hb => .inl hb, fun _ _ e => e, fun b hb => I.own.there hb⟩
/-- the frame's names are told anew -/
theorem Post.names (I : Inv G S r g σ s) {h' : Heap} {m : Str → Option Value} (hl : LocOk g S r m σ.loc) (hn : h'.Ns r.L m) (st' : ∀ b o, b ≠ r.L → s.heap.get? b = some o → h'.get? b = some o) (t : Nat) : Post G S r g σ s g σ { s with heap := h', toks := t } := by
  have fL : r.L ∈ frs (envR S r :: r.outer) := by rw [frs_cons]; exact .head _
  refine ⟨⟨I.ok, I.frames, I.ev, fun b o e => st' b o (I.stay_ne e) (I.stay _ _ e), I.base, funFrames_alive I.ff (fun b hb => (I.ff.mem hb).1) fun b o _ e hd => ?_, ⟨m, hn, hl⟩, ⟨fun p hp => ovAt_keep (fun _ _ e => e) (I.own.at_ p hp) fun b hb o e => st' b o (I.own_ne (mem_hid hp hb)) e, I.own.hide, I.own.nd⟩, I.apart, I.lone, I.bare, I.os, I.dep, I.un, I.hd, I.hx, I.fun_, I.nd⟩,
    fun _ _ e => e, fun _ _ _ _ q => q, fun b x e n _ => st' _ _ (fun z => n (z ▸ fL)) e, fun b hb x e => ⟨x.slots, st' _ _ (fun z => I.lone (z ▸ hb)) e⟩, fun b hb => .inl hb, fun _ _ e => e, fun b hb => let ⟨_, ho⟩ := I.own.there hb; ⟨_, st' _ _ (I.own_ne hb) ho⟩⟩
  by_cases z : b = r.L
  · subst z
    obtain ⟨oL, es, ep, hL', hd', _⟩ := hn
    exact ⟨oL, hL', fun vs => by rw [hd']; exact fun q => nomatch q⟩
  · exact ⟨o, st' _ _ z e, hd⟩
theorem nameGone {A : Around} {Q : Unit → Shared → Prop} {E : Value → Shared → Prop} (I : Inv G S r g σ s) {n : Str} {pos : Pos} (hl : S.scope.names.lookup n = some .local) (hQ : ∀ s', Post G S r g σ s g ⟨[], σ.own⟩ s' → (∀ b o, b ≠ r.L → s.heap.get? b = some o → s'.heap.get? b = some o) → Q () s') :
    wpAny (model G.prog G.w) A (do bindName (envE S r) n .none; unbindBehindTheSuite (envE S r) n pos) Q E s := by
  obtain ⟨m, hm, _⟩ := I.loc
  refine wpAny_nameGoes (env := envE S r) hl hm (by show (S.scope.kind == .class || (S.scope.kind == .module && r.L != mainGlobals)) = false; rw [I.fun_]; rfl) fun h' m' hn hs => ?_
  have P1 := Post.forget I
  exact hQ _ (P1.trans (Post.names P1.inv (fun i x a _ h => by simp at h) hn (fun b o n e => (hs.2 b n).trans e) _)) fun b o n e => (hs.2 b n).trans e

/-! within a handler -/
def markS (S : St) : St := { S with D := ⟨S.D.n, false⟩ }
def markR (r : Rt) (v : Value) : Rt := { r with A := r.A.mark (some v) }
theorem Inv.mark {v : Value} {n : Nat} (hv : CtxN g (n + 1) v) (I : Inv G S r g σ s) : Inv G (markS S) (markR r v) g σ s :=
  ⟨I.ok, I.frames, I.ev, I.stay, I.base, I.ff, I.loc, I.own, I.apart, I.lone, I.bare, I.os, I.dep, I.un, fun h => (nomatch h), fun w e => ⟨n, by cases (show some v = some w from e); exact hv⟩, I.fun_, I.nd⟩
theorem Post.unmark {v : Value} (I : Inv G S r g σ s) (P : Post G (markS S) (markR r v) g σ s g' σ' s') : Post G S r g σ s g' σ' s' :=
  ⟨⟨I.ok, I.frames, I.ev, P.inv.stay, P.inv.base, P.inv.ff, P.inv.loc, P.inv.own, P.inv.apart, P.inv.lone, P.inv.bare, P.inv.os, I.dep, I.un, I.hd, I.hx.mono P.grow, I.fun_, I.nd⟩, P.grow, P.only, P.ext, P.fr, P.ownx, P.gens, P.live⟩
/-- what a clause's type must be -/
def Catches (K : Frag) (C : Addr) (c : AV) : Prop := (∃ v, c = .v v ∧ exmOne K (.ref C) v = some true) ∨ ∃ v w, c = .tuple [.v v, .v w] ∧ exmAny K (.ref C) [v, w] = some true
theorem catches_at {A : Around} {Q : Bool → Shared → Prop} {E : Value → Shared → Prop} {C : Addr} {c : AV} {vc : Value} {oe : Obj} (I : Inv G S r g σ s) (he : s.heap.get? e = some oe) (hcl : oe.cls = .ref C) (R : RelV g vc c) (hc : Catches G.K C c) (hQ : Q true s) :
    wpAny (model G.prog G.w) A (excMatches (.ref e) vc) Q E s := by
  have LT : Looks (model G.prog G.w) s.heap (typeOf (.ref e)) (.ref C) := by
    rw [← hcl]
    exact (Looks.ld he).andThen .now
  rcases hc with ⟨v, rfl, h⟩ | ⟨v, w, rfl, h⟩
  · cases R
    exact (exm_one I.KIn LT h).here hQ
  · cases R with
    | tuple ha Ra =>
      cases Ra with
      | cons r1 Ra =>
      cases Ra with
      | cons r2 Ra =>
      cases Ra
      cases r1; cases r2
      exact (exm_tup2 I.KIn LT (I.stay _ _ ha) h).here hQ

theorem noteQ (hc : S.comp = false) {A : Around} {Q : Unit → Shared → Prop} {E : Value → Shared → Prop} (hA : A.frames = some (envR S r :: r.outer)) (I₀ : Inv G S r g σ s) (P : Post G S r g σ s g' σ' s') (T : ThrAt (some r.L) g' s.heap s'.heap σ'.own e x)
    (hQ : ∀ s'', Post G S r g σ s g' σ' s'' → HeldF (rawInt r.L) g' s.heap s''.heap σ'.own e x → Q () s'') : wpAny (model G.prog G.w) A (noteFrame (.ref e) (envE S r)) Q E s' := by
  rw [P.inv.envE hc]
  obtain ⟨oe, vs, v1, Z⟩ := T.thrown
  exact noteX hA P.inv.ff rfl Z.he Z.hd Z.h1 Z.tb fun h1 T1 N1 => hQ _ (P.noted I₀ Z N1) (Z.held (fun b hb => fresh_of P hb) N1)
/-- an exception is caught by its class, under a name -/
theorem ES_Try (hc : S.comp = false) {body : List Stmt} {t : Expr} {n : Str} {b₀ : Stmt} {suite : List Stmt} {hpos p : Pos} {KX : AX → AS → Prop} (i : Nat) (hi : S.names[i]? = some n) (hl : S.scope.names.lookup n = some .local)
    (hb : EX G S σ body kf KX)
    (hh : ∀ x σx, KX x σx → EV G (markS S) σx t (fun c σ1 => Catches G.K x.C c ∧ EX G (markS S) (σ1.put i (.exc x.C x.msg)) (b₀ :: suite) (fun f σ' => kf f ⟨[], σ'.own⟩) (fun y σ' => kx y ⟨[], σ'.own⟩)) (fun _ _ => False)) :
    ES G S σ (.Try body [.ExceptHandler (some t) (some n) (b₀ :: suite) hpos] [] [] p) kf kx := fun r g s I₀ Q E hk hx => by
  have hfr : ∀ {g σ s}, Inv G S r g σ s → r.A.frames = some (envR S r :: r.outer) := fun I => by have := I.frames; unfold stk at this; rw [hc] at this; exact this
  refine wpAny_Try_except (hb r g s I₀ _ _ (fun fl s1 g1 f σ1 P1 Rf q1 => ?_) fun e s1 g1 x σx P1 T1 q1 => ?_)
  · cases Rf with
    | next => exact wpAny_execs_nil (hk _ _ _ _ _ P1 .next q1)
    | brk => exact hk _ _ _ _ _ P1 .brk q1
    | cont => exact hk _ _ _ _ _ P1 .cont q1
    | ret R => exact hk _ _ _ _ _ P1 (.ret R) q1
  refine noteQ hc (hfr P1.inv) I₀ P1 T1 fun s2 P2 H2 => ?_
  refine flown (fr := none) I₀ P2 H2 fun s3 P3 H3 => ?_
  obtain ⟨a1, a2, a0, t₀, tk, a3, oe, vs, b1, b2, b3, b4, ⟨c, cn, b5, b6⟩, T, oT, ts, c1, c2, c3, c4, c5, c6, c7, c8⟩ := H3
  have ne_fr : ∀ {b : Addr} {o : Obj} {ws : Array Value}, s3.heap.get? b = some o → o.data = .fields ws → b ∉ frs (envR S r :: r.outer) := fun h hd => frs_nofields P3.inv.ff h hd
  -- the exception is from now on never changed
  have P4 := P3.ghost [e] fun b hb => by rw [List.mem_singleton.mp hb]; exact ⟨a2, ne_fr b1 b3, a0⟩
  generalize hg4 : gplus g1 s3.heap [e] = g4 at P4
  have g4e : g4.get? e = some oe := by rw [← hg4]; exact gplus_new (.head _) b1
  have g4T : g4.get? T = none := by rw [← hg4]; exact gplus_none c2 (by simpa using c5)
  have gr4 : g1.StaysIn g4 := by rw [← hg4]; exact gplus_grow P3.inv.stay
  have Rexc : RelV g4 (.ref e) (.exc x.C x.msg) := .exc g4e b2 b3 b4 (a3.keeps gr4) b5 (b6.mono gr4)
  have q1' := hh x σx q1
  have ctx : CtxN g4 (cn + 1) (.ref e) := ⟨e, oe, vs, c, rfl, g4e, b3, b5, b6.mono gr4⟩
  have IM := P4.inv.mark ctx
  have hfrM : (markR r (.ref e)).A.frames = some (envR S r :: r.outer) := hfr P4.inv
  refine wpAny_handleBy_cons (codeAny_handlers_test ?_) (by intro q; cases q)
  refine q1' (markR r (.ref e)) g4 s3 IM _ _ (fun vc s5 g5 c' σ5 P5 Rc q5 => ?_) fun _ _ _ _ _ _ _ q => q.elim
  have PA := P4.trans (P5.unmark P4.inv)
  have h5e : s5.heap.get? e = some oe := PA.inv.stay _ _ (P5.grow _ _ g4e)
  refine catches_at PA.inv h5e b2 Rc q5.1 ?_
  rw [if_pos rfl]
  have h5T : s5.heap.get? T = some oT := P5.ext T oT c6 (ne_fr c6 c7) c4
  have g5T : g5.get? T = none := P5.only T oT c6 c4 g4T
  have o5T : T ∉ hid σ5.own := fun hm => by
    rcases P5.ownx T hm with z | z
    · exact c4 z
    · rw [z] at c6; cases c6
  have sT : s.heap.get? T = none := c3
  refine codeAny_handlers_suite_as ?_
  unfold setFlight
  refine wpAny_bind (wpAny_field h5e b3 c1 ?_)
  rw [if_pos (show (Value.ref T != Value.none) = true from by simp)]
  refine wpAny_setField h5T c7 (Array.getElem?_eq_some_iff.mp c8).1 ?_
  have PB := PA.touch I₀ (h' := s5.heap.update T (Obj.mapFields (·.setIfInBounds 3 ((none : Option Addr).elim Value.none fun f => rawInt f)))) (fun b o ho hn hz => by
      rw [Heap.get?_update_other _ _ (show T ≠ b from fun z => ?_)]
      · exact ho
      · subst z
        rcases hz with hz | hz | hz
        · exact hz sT
        · rw [g5T] at hz; cases hz
        · exact o5T hz) fun b hb o ho => ⟨o.slots, by rw [Heap.get?_update_other _ _ (show T ≠ b from fun z => by subst z; exact frs_nofields PA.inv.ff h5T c7 hb)]; exact ho⟩
  have IB := PB.inv.mark (ctx.mono P5.grow)
  have Rexc5 : RelV g5 (.ref e) (.exc x.C x.msg) := Rexc.mono P5.grow
  refine storeG (S := markS S) (r := markR r (.ref e)) (ku := fun _ σ' => σ' = σ5.put i (.exc x.C x.msg)) (kx := fun _ _ => False) IB Rexc5 hi hl rfl _ _ (fun _ s6 g6 _ σ6 P6 _ q6 => ?_) fun _ _ _ _ _ _ _ q => q.elim
  subst q6
  have PC := PB.trans (P6.unmark PB.inv)
  refine q5.2 (markR r (.ref e)) g6 s6 P6.inv _ _ (fun fl s7 g7 f σ7 P7 Rf q7 => ?_) fun e' s7 g7 y σ7 P7 T7 q7 => ?_
  · have PD := PC.trans (P7.unmark PC.inv)
    refine nameGone PD.inv hl fun s8 P8 _ => ?_
    have PE := PD.trans P8
    cases Rf with
    | next => exact hk _ _ _ _ _ PE .next q7
    | brk => exact hk _ _ _ _ _ PE .brk q7
    | cont => exact hk _ _ _ _ _ PE .cont q7
    | ret R => exact hk _ _ _ _ _ PE (.ret R) q7
  · have PD := PC.trans (P7.unmark PC.inv)
    have T7' : ThrAt (some r.L) g7 s.heap s7.heap σ7.own e' y := T7.back fun _ => PC.back
    refine noteQ hc hfrM I₀ PD T7' fun s8 P8 H8 => ?_
    refine nameGone (A := (markR r (.ref e)).A) P8.inv hl fun s9 P9 keep9 => ?_
    have PE := P8.trans P9
    have H9 : HeldF (rawInt r.L) g7 s.heap s9.heap σ7.own e' y := by
      obtain ⟨a1, a2, a0, t₀, tk, a3, oe, vs, b1, b2, b3, b4, b6, T, oT, ts, c1, c2, c3, c4, c5, c6, c7, c8⟩ := H8
      exact ⟨a1, a2, a0, t₀, tk, a3, oe, vs, keep9 _ _ (fun z => frs_nofields P8.inv.ff b1 b3 (by rw [z, frs_cons]; exact .head _)) b1, b2, b3, b4, b6, T, oT, ts, c1, c2, c3, c4, c5, keep9 _ _ (fun z => frs_nofields P8.inv.ff c6 c7 (by rw [z, frs_cons]; exact .head _)) c6, c7, c8⟩
    unfold PySem.passOn
    have H9' := H9
    obtain ⟨a1, a2, a0, t₀, tk, a3, oe', vs', b1, b2, b3, b4, b6, T, oT, ts, c1, c2, c3, c4, c5, c6, c7, c8⟩ := H9
    refine wpAny_bind (wpAny_field b1 b3 c1 ?_)
    rw [if_neg (by simp)]
    rw [PE.inv.envE hc]
    refine wpAny_bind (flown (fr := some r.L) I₀ PE H9' fun s10 P10 H10 => ?_)
    refine wpAny_throw ?_
    have := passes (A := (markR r (.ref e)).A) (E := E) hc hfrM I₀ P10 H10.held fun s11 P11 T11 => hx e' s11 g7 y ⟨[], σ7.own⟩ P11 T11 q7
    rw [PE.inv.envE hc] at this
    exact this
end
end Mine
end
/-! Lg20 -/
section
open PySem PySem.Calls PyProof.Rows
open PySem.W
namespace Mine
section
variable {G : Gb} {S : St} {r : Rt} {g g' : Heap} {σ σ' : AS} {s s' : Shared} {k : AV → AS → Prop} {kx : AX → AS → Prop} {kf : AF → AS → Prop} {kl : List AV → AS → Prop} {ku : Unit → AS → Prop} {ds es : List AV} {own rest : List (Addr × OV)} {e : Addr} {x : AX}

theorem CtxN.one : ∀ {n m : Nat} {v : Value}, CtxN g n v → CtxN g m v → n = m
  | 0, 0, _, _, _ => rfl
  | 0, m + 1, v, h, ⟨a, o, vs, c, e, _⟩ => by rw [show v = .none from h] at e; cases e
  | n + 1, 0, v, ⟨a, o, vs, c, e, _⟩, h => by rw [show v = .none from h] at e; cases e
  | n + 1, m + 1, v, ⟨a, o, vs, c, e1, e2, e3, e4, e5⟩, ⟨a', o', vs', c', f1, f2, f3, f4, f5⟩ => by
    subst e1; cases f1
    rw [e2] at f2; cases f2
    rw [e3] at f3; cases f3
    rw [e4] at f4; cases f4
    rw [CtxN.one e5 f5]
theorem entry_unchain : entryFor table "proto.unchain" = some Builtin.«proto.unchain» := by first | exact entryFor_of_fast (by kernel_rfl) | exact entryFor_of_tree (by kernel_rfl)
theorem quiet_unchain (as : Args) : (Code.builtin "proto.unchain" as).quiet = true := Code.quiet_builtin _ (by decide +kernel)
/-- a new exception stands in no row of contexts -/
theorem unchain {p : Program} {w : World} (st : g.StaysIn s.heap) (he : g.get? e = none) : ∀ (n m : Nat) (o slow : Value) (t : Bool) (A : Around) (R : Result → Shared → Prop), CtxN g (n + 1) o → CtxN g (m + 1) slow → n ≤ m → R (.ok (.ret .none)) s →
    codeAny (model p w) A (.builtin "proto.unchain" ⟨[.ref e, o, slow, .bool t], []⟩) R s
  | n, m, o, slow, t, A, R, ho, hs, hnm, hR => by
    obtain ⟨a, ob, vs, c, rfl, e2, e3, e4, e5⟩ := ho
    refine codeAny_builtin entry_unchain ?_
    unfold Builtin.«proto.unchain»
    refine wpAny_bind (wpAny_field (st _ _ e2) e3 e4 ?_)
    cases n with
    | zero =>
      rw [show c = .none from e5]
      rw [if_pos (by decide)]
      show wpAny _ _ (ret .none) _ _ _
      exact wpAny_pure (a := Fin.done (.ret .none)) hR
    | succ n =>
      have e5' := e5
      obtain ⟨a2, o2, vs2, c2, rfl, f2, f3, f4, f5⟩ := e5'
      rw [if_neg (by simp)]
      have hne : a2 ≠ e := fun z => by rw [z, he] at f2; cases f2
      rw [if_neg (by simpa using hne)]
      have hns : (Value.ref a2 == slow) = false := by
        rw [beq_eq_false_iff_ne]
        intro z
        have := CtxN.one e5 (z ▸ hs)
        omega
      rw [hns, if_neg Bool.false_ne_true]
      obtain ⟨m, rfl⟩ : ∃ m', m = m' + 1 := ⟨m - 1, by omega⟩
      cases t with
      | true =>
        obtain ⟨a3, o3, vs3, c3, rfl, h2, h3, h4, h5⟩ := hs
        refine wpAny_bind (wpAny_field (st _ _ h2) h3 h4 ?_)
        exact wpAny_pure ⟨quiet_unchain _, unchain st he n m _ _ _ _ R e5 h5 (by omega) hR⟩
      | false =>
        refine wpAny_bind (wpAny_pure ?_)
        exact wpAny_pure ⟨quiet_unchain _, unchain st he n (m + 1) _ _ _ _ R e5 hs (by omega) hR⟩

/-! raise -/
/-- an object of one's own is no more one's own: what is left of it nobody tells -/
theorem Post.drop (I : Inv G S r g σ s) (hσ : σ.own = own ++ rest) : Post G S r g σ s g ⟨σ.loc, own⟩ s := by
  have hh : hid σ.own = hid own ++ hid rest := by rw [hσ, hid_append]
  have nd := I.own.nd
  rw [hh] at nd
  have inl : ∀ b ∈ hid own, b ∈ hid σ.own := fun b hb => by rw [hh]; exact List.mem_append_left _ hb
  exact ⟨⟨I.ok, I.frames, I.ev, I.stay, I.base, I.ff, I.loc, ⟨fun p hp => I.own.at_ p (by rw [hσ]; exact List.mem_append_left _ hp), fun b hb => I.own.hide b (inl b hb), (List.nodup_append.mp nd).1⟩, fun b hb => I.apart b (inl b hb), I.lone, I.bare, I.os, I.dep, I.un, I.hd, I.hx, I.fun_, I.nd⟩,
    fun _ _ e => e, fun _ _ _ _ e => e, fun _ _ e _ _ => e, fun _ _ o e => ⟨o.slots, e⟩, fun b hb => .inl (inl b hb), fun _ _ e => e, fun b hb => I.own.there hb⟩
def excK (K : Frag) (C : Addr) : Bool := subIn K (.ref C) (.type "BaseException") == some true && typeIn K (.ref C) == some (.type "type")
theorem looks_isType_exc {M : Model} {h : Heap} {ad : Addr} {o : Obj} {vs : Array Value} (ho : h.get? ad = some o) (hd : o.data = .fields vs) : Looks M h (isType (.ref ad)) false := by
  obtain ⟨c, d, dt, sl⟩ := o
  cases hd
  unfold isType
  exact (Looks.ld ho).andThen .now
theorem ES_Raise {ex : Expr} {p : Pos} (h : EV G S σ ex (fun a σ1 => ∃ ad own C dx msg fs, a = .own ad ∧ σ1.own = own ++ [(ad, .exc C dx (some msg) fs)] ∧ hid own = hid σ.own ∧ excK G.K C = true ∧ kx ⟨C, msg⟩ ⟨σ1.loc, own⟩) kx) : ES G S σ (.Raise (some ex) none p) kf kx := fun r g s I₀ Q E hk hx => by
  show wpAny _ _ (exec (.Raise (some ex) none p) (envE S r)) _ _ _
  rw [arm_exec_Raise]
  refine wpAny_bind (wpAny_standAt ?_)
  show wpAny _ _ (raiseStmt (envE S r) (some (eval ex (envE S r) >>= fun v => standAt p >>= fun _ => pure v)) none) _ _ _
  unfold raiseStmt
  refine wpAny_bind (wpAny_bind (h r g s I₀ _ _ (fun va s1 g1 a σ1 P1 R1 q => wpAny_bind (wpAny_standAt (wpAny_pure ?_))) hx))
  obtain ⟨ad, own, C, dx, msg, fs, rfl, hσ, hid1, hcK, q⟩ := q
  cases R1
  have hov := P1.inv.own.at_ (ad, .exc C dx (some msg) fs) (by rw [hσ]; simp)
  dsimp only at hov
  cases hov with
  | exc h1 h2 h3 h4 h5 h6 h7 h8 h9 h10 =>
  rename_i oe vs es n v
  obtain ⟨t, tk, rfl, htup⟩ := h8
  have hmem : ad ∈ hid σ1.own := mem_hid (p := (ad, .exc C dx (some msg) fs)) (by rw [hσ]; simp) (.head _)
  have nd := P1.inv.own.nd
  rw [hσ, hid_append] at nd
  have hnot : ad ∉ hid own := fun hm => (List.nodup_append.mp nd).2.2 ad hm ad (by simp [hid, OV.hid]) rfl
  have s0 : s.heap.get? ad = none := by
    rcases P1.ownx ad hmem with z | z
    · exact absurd (hid1 ▸ z) hnot
    · exact z
  have g0 : g1.get? ad = none := P1.inv.own.hide ad hmem
  unfold excK at hcK
  simp only [Bool.and_eq_true, beq_iff_eq] at hcK
  have X := P1.inv.KIn
  have LT : Looks (model G.prog G.w) s1.heap (typeOf (.ref ad)) (.ref C) := by rw [← h2]; exact (Looks.ld h1).andThen .now
  have LN := looks_isType_exc (M := model G.prog G.w) h1 h4
  have LE : Looks (model G.prog G.w) s1.heap (isInstance (.ref ad) (.type "BaseException")) true := LT.andThen (looks_subIn X hcK.1)
  have LX : Looks (model G.prog G.w) s1.heap (isExcClass (.ref ad)) false := by
    unfold isExcClass
    exact LN.andThen .now
  refine wpAny_bind (wpAny_pure ?_)
  refine wpAny_bind (wpAny_holding ?_)
  unfold excFromValue
  refine wpAny_bind (LX.here ?_)
  rw [if_neg Bool.false_ne_true]
  refine wpAny_bind (LE.here ?_)
  rw [if_pos rfl]
  refine wpAny_pure ?_
  refine wpAny_bind (LN.here ?_)
  rw [if_neg Bool.false_ne_true]
  have LTy : Looks (model G.prog G.w) s1.heap (typeOf (.ref C)) (.type "type") := looks_typeIn X hcK.2
  unfold raisedInstance
  refine wpAny_bind (wpAny_bind (LT.here (wpAny_bind (LTy.here ?_))))
  rw [if_pos (by decide)]
  refine wpAny_pure ?_
  unfold setFlight
  refine wpAny_bind (wpAny_bind (wpAny_field h1 h4 h6 ?_))
  rw [if_neg (by decide)]
  refine wpAny_pure ?_
  have P2 := P1.trans (Post.drop P1.inv hσ)
  have thr : ∀ (h' : Heap) (o' : Obj) (vs' : Array Value) (c : Value) (n : Nat), h'.get? ad = some o' → o'.cls = .ref C → o'.data = .fields vs' → vs'[0]? = some (.ref t) → vs'[1]? = some .none → vs'[2]? = some c → CtxN g1 n c → ThrAt (some r.L) g1 s.heap h' own ad ⟨C, msg⟩ :=
    fun h' o' vs' c n e1 e2 e3 e4 e5 e6 e7 => ⟨g0, s0, hnot, t, tk, htup, o', vs', e1, e2, e3, e4, ⟨c, n, e6, e7⟩, .inl e5⟩
  unfold raiseNew
  refine wpAny_bind (wpAny_handled ?_)
  cases hH : r.A.handled with
  | none =>
    dsimp only
    refine wpAny_bind (wpAny_pure ?_)
    exact wpAny_throw (hx _ _ _ _ _ P2 (thr _ _ _ .none 0 h1 h2 h4 h5 h6 h7 rfl) q)
  | some hv =>
    obtain ⟨n, hctx⟩ := P1.inv.hx hv hH
    have hctx' := hctx
    obtain ⟨ah, oh, vh, ch, rfl, k2, k3, k4, k5⟩ := hctx'
    have hne : ah ≠ ad := fun z => by rw [z, g0] at k2; cases k2
    dsimp only
    rw [if_pos (show (Value.ref ah != Value.ref ad) = true from by simpa using hne)]
    refine wpAny_bind (wpAny_holding (wpAny_runValue (unchain (g := g1) P1.inv.stay g0 n n _ _ false _ _ hctx hctx (Nat.le_refl _) ?_)))
    unfold updateField
    refine wpAny_bind (wpAny_bind (wpAny_load h1 ?_))
    rw [h4]
    dsimp only
    have hsz : 2 < vs.size := (Array.getElem?_eq_some_iff.mp h7).1
    rw [if_pos hsz]
    refine wpAny_update h1 ?_
    refine wpAny_throw ?_
    have hd' := Obj.data_mapFields h4 (·.setIfInBounds 2 (Value.ref ah))
    have P3 := P2.touch I₀ (h' := s1.heap.update ad (Obj.mapFields (·.setIfInBounds 2 (Value.ref ah)))) (fun b o ho hn hz => by
        rw [Heap.get?_update_other _ _ (show ad ≠ b from fun z => ?_)]
        · exact ho
        · subst z
          rcases hz with hz | hz | hz
          · exact hz s0
          · rw [g0] at hz; cases hz
          · exact hnot hz) fun b hb o ho => ⟨o.slots, by rw [Heap.get?_update_other _ _ (show ad ≠ b from fun z => by subst z; exact frs_nofields P1.inv.ff h1 h4 hb)]; exact ho⟩
    refine hx _ _ _ _ _ P3 (thr _ _ _ (.ref ah) (n + 1) (Heap.get?_update_self _ h1 (Obj.isFreed_of_fields hd')) ((Obj.cls_mapFields ..).trans h2) hd' ?_ ?_ (by simp [hsz]) hctx) q
    · rw [Array.getElem?_setIfInBounds_ne (by decide)]; exact h5
    · rw [Array.getElem?_setIfInBounds_ne (by decide)]; exact h6
end
end Mine
end
/-! Lg21 -/
section
open PySem PySem.Calls PyProof.Rows
open PySem.W
namespace Mine
/-! an exception of an own class is made -/
def xmakesIn (K : Frag) (C : Addr) : Bool := match K.lookup C with
  | some ⟨_, _, .cls cd, sl⟩ => !cd.abstract && !cd.hasDel && (sl.toList[4]?).join == some (.builtin "Exception.__new__") && !cd.mro.isEmpty && cd.mro.contains (.ref C) && cd.mro.contains (.type "Exception") &&
      !cd.mro.contains (.type "AttributeError") && !cd.mro.contains (.type "NameError") &&
      specialIn K (.ref C) "__call__" == some (some (.builtin "type.__call__")) && instIn K (.ref C) (.type "type") == some true
  | _ => false
structure MakesX (M : Model) (h : Heap) (C : Addr) : Prop where
  obj : ∃ oc od cd sl, h.get? C = some ⟨oc, od, .cls cd, sl⟩ ∧ cd.abstract = false ∧ cd.hasDel = false ∧ cd.mro.isEmpty = false
  made : Looks M h (Bind.madeBy (.ref C)) (some "Exception.__new__")
  base : Looks M h (Bind.staticBase (.ref C)) (.ref C)
  self : Looks M h (isSubtype (.ref C) (.ref C)) true
  top : Looks M h (isSubtype (.ref C) (.type "Exception")) true
  noA : Looks M h (isSubtype (.ref C) (.type "AttributeError")) false
  noN : Looks M h (isSubtype (.ref C) (.type "NameError")) false
  call : Looks M h (specialOf (.ref C) "__call__") (some (.builtin "type.__call__"))
  typ : Looks M h (isInstance (.ref C) (.type "type")) true
theorem makesX_of {K : Frag} {M : Model} {h : Heap} (X : K.In h) {C : Addr} (e : xmakesIn K C = true) : MakesX M h C := by
  unfold xmakesIn at e
  split at e
  · rename_i oc od cd sl ho
    simp only [Bool.and_eq_true, Bool.not_eq_true', beq_iff_eq] at e
    obtain ⟨⟨⟨⟨⟨⟨⟨⟨⟨e1, e2⟩, e3⟩, e4⟩, e5⟩, e6⟩, e9⟩, e10⟩, e7⟩, e8⟩ := e
    have hc : clsIn K C = some cd := by unfold clsIn; rw [ho]
    have hm : Looks M h (mroOf (.ref C)) cd.mro := (looks_clsIn X hc).andThen .now
    obtain ⟨c, l, hl⟩ : ∃ c l, cd.mro = c :: l := by cases q : cd.mro with | nil => rw [q] at e4; cases e4 | cons c l => exact ⟨c, l, rfl⟩
    have made : Looks M h (Bind.madeBy (.ref C)) (some "Exception.__new__") := by
      intro A Q E s k q
      unfold Bind.madeBy
      refine wpAny_bind (hm A _ E s k ?_)
      rw [hl, List.forIn_cons]
      refine wpAny_bind (wpAny_bind (wpAny_bind (wpAny_bind (wpAny_loadPart (k _ _ (X _ _ ho)) (wpAny_pure ?_)))))
      dsimp only
      rw [← Array.getElem?_toList, e3]
      exact wpAny_pure (wpAny_pure (wpAny_pure q))
    refine ⟨⟨oc, od, cd, sl, X _ _ ho, e1, e2, e4⟩, made, ?_, looks_mroIn X ?_, looks_mroIn X ?_, looks_mroIn X ?_, looks_mroIn X ?_, looks_specialIn X e7, looks_instIn X e8⟩
    · intro A Q E s k q
      unfold Bind.staticBase
      refine wpAny_bind (hm A _ E s k ?_)
      rw [hl, List.forIn_cons]
      exact wpAny_bind (wpAny_bind (wpAny_bind (made A _ E s k (wpAny_pure (wpAny_pure (wpAny_pure q))))))
    · unfold mroIn; rw [hc, Option.bind_some, if_neg (by rw [e4]; decide), e5]
    · unfold mroIn; rw [hc, Option.bind_some, if_neg (by rw [e4]; decide), e6]
    · unfold mroIn; rw [hc, Option.bind_some, if_neg (by rw [e4]; decide), e9]
    · unfold mroIn; rw [hc, Option.bind_some, if_neg (by rw [e4]; decide), e10]
  · cases e
abbrev excObj (C t : Addr) : Obj := { cls := .ref C, data := .fields #[.ref t, .none, .none, .none, .bool false, .none] }
abbrev tupObj (vs : List Value) : Obj := { cls := .type "tuple", data := .seq vs.toArray }
section
variable {prog : Program} {w : World} {A : Around} {K : Frag} {C : Addr} {R : Result → Shared → Prop} {h : Heap} {g : Array GenState} {d : Drawn} {t : Nat} {os : OsState}
theorem xargs (C : Addr) (rest : List Value) (kw : List (Str × Value)) : Bind.checkArgs "Exception.__new__" ⟨.any, "Exception", "Exception", .cls, [⟨"args", .varPos, false⟩, ⟨"kwargs", .varKw, false⟩]⟩ ⟨.ref C :: rest, kw⟩ = pure () := by kernel_rfl
theorem new_X {rest : List Value} {kw : List (Str × Value)} (Y : MakesX (model prog w) h C) (hrest : rest.length ≤ sizeLine)
    (hq : R (.ok (.ret (.ref (h.objs.size + 1)))) ⟨(h.push (tupObj rest)).push (excObj C h.objs.size), g, d, t, os⟩) :
    codeAny (model prog w) A (.call (.builtin "Exception.__new__") ⟨.ref C :: rest, kw⟩) R ⟨h, g, d, t, os⟩ := by
  obtain ⟨⟨oc, od, cd, sl, hC, e1, e2, e4⟩, made, base, self, top, noA, noN, call, typ⟩ := Y
  have F := PySem.F.excBase_Exception
  refine codeAny_call_builtin_code (Code.quiet_builtin _ F.quiet) ?_
  simp only [checkBuiltinCall, F.newKind, F.newSplit, F.newRow, F.canon]
  rw [xargs]
  repeat (first | lk)
  refine codeAny_builtinAt F.entry ?_
  unfold Builtin.«BaseException.__new__»
  refine _root_.PySem.wpAt_bind ?_
  show _root_.PySem.wpAt _ _ _ (stack >>= _) _ _ _
  refine _root_.PySem.wpAt_bind (_root_.PySem.wpAt_stack fun p below => _root_.PySem.wpAt_of_wpAny ?_)
  have hends := F.ends
  have here : Looks (model prog w) h (Bind.madeHere "BaseException.__new__" (.ref C)) () := base.andThen (made.andThen (Looks.of_pure (by simp only [Option.map_some, F.canon, bne_self_eq_false, Bool.false_eq_true, if_false])))
  wp_walk
  refine _root_.PySem.wpAt_of_wpAny ?_
  rw [F.owner]
  repeat (first | simp only [Bool.false_eq_true, if_false] | lk | wp_step)
  refine wpAny_load (Heap.get?_push_of_some _ (Heap.get?_push_of_some _ hC)) ?_
  dsimp only
  refine wpAny_pure ?_
  rw [e2]
  refine wpAny_pure (wpAny_pure ?_)
  show R _ _
  rw [Heap.size_push]
  exact hq
theorem makeX_core {rest : List Value} {kw : List (Str × Value)} {init : Value} (Y : MakesX (model prog w) h C) (hrest : rest.length ≤ sizeLine) (hi : Looks (model prog w) h (typeLookup (.ref C) "__init__") (some init))
    (hb : ∀ self, Looks (model prog w) h (bindSpecial init self) (init, [self]))
    (hq : codeAny (model prog w) (A.under (.builtin "type.__call__" ⟨.ref C :: rest, kw⟩)) (.call init ⟨.ref (h.objs.size + 1) :: rest, kw⟩) (InitBack (h.objs.size + 1) R) ⟨(h.push (tupObj rest)).push (excObj C h.objs.size), g, d, t, os⟩) :
    codeAny (model prog w) A (.call (.ref C) ⟨rest, kw⟩) R ⟨h, g, d, t, os⟩ := by
  have Y' := Y
  obtain ⟨⟨oc, od, cd, sl, hC, e1, e2, e4⟩, made, base, self, top, noA, noN, call, typ⟩ := Y
  refine codeAny_of_tree ?_
  show wpAny _ _ (callAny (.ref C) _) _ _ _
  refine nd_load hC ?_
  show wpAny _ _ (callAny.viaDunder (.ref C) _) _ _ _
  unfold callAny.viaDunder
  refine wpAny_bind (call.at ?_)
  dsimp only
  rw [tc_bind]
  refine wpAny_bind (wpAny_pure (wpAny_bind (wpAny_pure ?_)))
  refine wpAny_pure (a := PySem.Fin.again (.call (.builtin "type.__call__") ⟨.ref C :: rest, kw⟩)) (And.intro rfl ?_)
  refine codeAny_call_builtin_at (Code.quiet_builtin _ (by decide +kernel)) entry_typeCall (check_slot tc_kind tc_split typ (tc_args _ _ _) ?_)
  unfold Builtin.«type.__call__»
  have hm : Looks (model prog w) h (mroOf (.ref C)) cd.mro := ((Looks.ld (part := none) hC).andThen .now).andThen .now
  repeat (first | simp only [e4, Bool.false_eq_true, if_false] | with_reducible refine wpAny_call ?_ | lk)
  refine new_X Y' hrest ?_
  have k : ∀ b o, h.get? b = some o → ((h.push (tupObj rest)).push (excObj C h.objs.size)).get? b = some o := fun b o e => Heap.get?_push_of_some _ (Heap.get?_push_of_some _ e)
  have hx : ((h.push (tupObj rest)).push (excObj C h.objs.size)).get? (h.objs.size + 1) = some (excObj C h.objs.size) := by heap_get
  have t1 : Looks (model prog w) ((h.push (tupObj rest)).push (excObj C h.objs.size)) (typeOf (.ref (h.objs.size + 1))) (.ref C) := (Looks.ld hx).andThen .now
  have s1 := self.keeps k
  have i1 := hi.keeps k
  have b1 := (hb (.ref (h.objs.size + 1))).keeps k
  unfold isInstance callSpecial? specialOf
  repeat (first | with_reducible refine wpAny_call ?_ | lk)
  refine codeAny_mono hq fun r s' z => ?_
  rcases r with e | (v | _ | _ | _) <;> first | exact z | exact z.elim | skip
  obtain ⟨rfl, z⟩ := z
  exact wpAny_pure (wpAny_pure z)
end
end Mine
end
/-! Lg22 -/
section
open PySem PySem.Calls PyProof.Rows
open PySem.W
namespace Mine
section
variable {G : Gb} {S : St} {r : Rt} {g g' : Heap} {σ : AS} {s s' : Shared} {k : AV → AS → Prop} {kx : AX → AS → Prop} {kf : AF → AS → Prop} {kl : List AV → AS → Prop} {ds es : List AV} {own rest : List (Addr × OV)}
def xmakeIn (K : Frag) (C fI : Addr) : Bool := xmakesIn K C && findIn K (.ref C) "__init__" == some (some (.ref fI)) && typeIn K (.ref fI) == some (.type "function")
theorem RelL.len {g : Heap} : ∀ {vs : List Value} {ds : List AV}, RelL g vs ds → vs.length = ds.length
  | _, _, .nil => rfl
  | _, _, .cons _ r => by simp [RelL.len r]
/-- a class of exceptions is called: a new exception of one's own -/
theorem CV_makeX {C fI : Addr} {as : List AV} {kw : List (Str × AV)} {D : Lv} {K : Str → List (Str × AV) → Prop} (hm : xmakeIn G.K C fI = true) (hD : S.D.up.le D) (hlen : as.length ≤ sizeLine)
    (hF : ∀ x, Fn G D (.ref fI) (.own x :: as) kw [(x, .exc0 C none)] (fun a own' => a = .none ∧ ∃ dx msg fs, own' = [(x, .exc C dx (some msg) fs)] ∧ K msg fs) (fun _ _ => False))
    (hk : ∀ x dx msg fs, K msg fs → k (.own x) ⟨σ.loc, σ.own ++ [(x, .exc C dx (some msg) fs)]⟩) : CV G S σ (.ref C) as kw k kx := fun r g s I vs ws R1 R2 Q E hq hqx => by
  unfold xmakeIn at hm
  simp only [Bool.and_eq_true, beq_iff_eq] at hm
  obtain ⟨⟨m1, m2⟩, m3⟩ := hm
  refine wpAny_call ?_
  obtain ⟨hh, gg, d, t, os⟩ := s
  refine makeX_core (makesX_of I.KIn m1) (by rw [RelL.len R1]; exact hlen) (looks_findIn I.KIn m2) (fun self => bind_fn I.KIn self m3) ?_
  have hx : ((hh.push (tupObj vs)).push (excObj C hh.objs.size)).get? (hh.objs.size + 1) = some (excObj C hh.objs.size) := by heap_get
  have n0 : ∀ n, hh.objs.size ≤ n → hh.get? n = none := fun n hn => by
    cases q : hh.get? n with
    | none => rfl
    | some o => exact absurd (Heap.lt_size q) (Nat.not_lt.mpr hn)
  have P1 := Post.newOwn (a := hh.objs.size + 1) (ov := .exc0 C none) (h' := (hh.push (tupObj vs)).push (excObj C hh.objs.size)) I (fun b o e => Heap.get?_push_of_some _ (Heap.get?_push_of_some _ e))
    (fun b hb => by rw [List.mem_singleton.mp hb]; exact n0 _ (Nat.le_succ _))
    (by simp [OV.hid]) (.exc0 hx rfl rfl rfl rfl rfl rfl trivial) t
  have P2 := P1.trans (Post.perm P1.inv (own' := [(hh.objs.size + 1, .exc0 C none)] ++ σ.own) List.perm_append_comm)
  have C0 := P2.inv.cinv (own := [(hh.objs.size + 1, .exc0 C none)]) (rest := σ.own) rfl ⟨Nat.le_trans (Nat.le_succ _) hD.1, hD.2⟩
  have C1 := under_cinv (c := .builtin "type.__call__" ⟨.ref C :: vs, (kw.map (·.1)).zip ws⟩) (D' := D) C0 id (tc_envs _) (by rw [tc_weight]; have := I.dep; have h2 : S.D.n + 1 ≤ D.n := hD.1; show r.A.depth + 1 ≤ D.n; omega) (by rw [tc_units]; have := I.un; have h2 : S.D.n + 1 ≤ D.n := hD.1; show r.A.units + 1 ≤ 10 * D.n; omega)
  refine hF _ _ _ g _ (.ref (hh.objs.size + 1) :: vs) ws C1 (.cons (.own _) R1) R2 _ (fun v s' g' a own' P Rv q => ?_) fun e s' g' x own' P T q => q.elim
  obtain ⟨rfl, dx, msg, fs, rfl, hK⟩ := q
  cases Rv
  have P' : CPost G r.A (stk S r) D g [(hh.objs.size + 1, .exc0 C none)] ⟨(hh.push (tupObj vs)).push (excObj C hh.objs.size), gg, d, t, os⟩ g' [(hh.objs.size + 1, .exc C dx (some msg) fs)] s' :=
    ⟨⟨P.inv.ok, C0.frames, P.inv.stay, P.inv.base, P.inv.ff, P.inv.ownok, P.inv.apart, P.inv.bare, P.inv.os, C0.dep, C0.un, C0.hd, C0.hx.mono P.grow⟩, P.grow, P.only, P.ext, P.fr, P.same, P.gens⟩
  have P3 := P2.trans (Post.of_cpost P2.inv rfl P')
  have P4 := P3.trans (Post.perm P3.inv (own' := σ.own ++ [(hh.objs.size + 1, .exc C dx (some msg) fs)]) List.perm_append_comm)
  exact ⟨rfl, hq _ _ _ _ _ P4 (.own _) (hk _ _ _ _ hK)⟩
end
end Mine
end
/-! Lg23 -/
section
open PySem PySem.Calls PyProof.Rows
open PySem.W
namespace Mine
/-! blocks whose own code matters: super() -/
def SAt (G : Gb) (S : St) (σ : AS) (bd : List Stmt) (b : Stmt) (k : AF → AS → Prop) (kx : AX → AS → Prop) : Prop :=
  ∀ r g s, Inv G S r g σ s → ∀ (Q : Flow → Shared → Prop) (E : Value → Shared → Prop),
    (∀ v s' g' a σ', Post G S r g σ s g' σ' s' → RelF g' v a → k a σ' → Q v s') →
    (∀ e s' g' x σ', Post G S r g σ s g' σ' s' → ThrAt (some r.L) g' s.heap s'.heap σ'.own e x → kx x σ' → E (.ref e) s') →
    _root_.PySem.wpAt (model G.prog G.w) r.A (.func bd (envE S r)) (exec b (envE S r)) Q E s
def XAt (G : Gb) (S : St) (σ : AS) (bd : List Stmt) (b : List Stmt) (k : AF → AS → Prop) (kx : AX → AS → Prop) : Prop :=
  ∀ r g s, Inv G S r g σ s → ∀ (Q : Flow → Shared → Prop) (E : Value → Shared → Prop),
    (∀ v s' g' a σ', Post G S r g σ s g' σ' s' → RelF g' v a → k a σ' → Q v s') →
    (∀ e s' g' x σ', Post G S r g σ s g' σ' s' → ThrAt (some r.L) g' s.heap s'.heap σ'.own e x → kx x σ' → E (.ref e) s') →
    _root_.PySem.wpAt (model G.prog G.w) r.A (.func bd (envE S r)) (execs b (envE S r)) Q E s
section
variable {G : Gb} {S : St} {r : Rt} {g g' : Heap} {σ : AS} {s s' : Shared} {k : AV → AS → Prop} {kx : AX → AS → Prop} {kf : AF → AS → Prop} {ds es : List AV} {own rest : List (Addr × OV)} {bd : List Stmt} {D : Lv}
theorem XAt.of_EX {b : List Stmt} (h : EX G S σ b kf kx) : XAt G S σ bd b kf kx := fun r g s I Q E hk hx => _root_.PySem.wpAt_of_wpAny (h r g s I Q E hk hx)
theorem SAt.of_ES {b : Stmt} (h : ES G S σ b kf kx) : SAt G S σ bd b kf kx := fun r g s I Q E hk hx => _root_.PySem.wpAt_of_wpAny (h r g s I Q E hk hx)
def flowAt (G : Gb) (S : St) (bd rest : List Stmt) (kf : AF → AS → Prop) (kx : AX → AS → Prop) : AF → AS → Prop
  | .next, σ1 => XAt G S σ1 bd rest kf kx
  | f, σ1 => kf f σ1
theorem XAt_cons {st : Stmt} {rest : List Stmt} (h : SAt G S σ bd st (flowAt G S bd rest kf kx) kx) : XAt G S σ bd (st :: rest) kf kx := fun r g s I Q E hk hx => by
  refine ks_wpAt_execs_cons (h r g s I _ _ (fun va s1 g1 a σ1 P1 R1 h1 => ?_) hx)
  cases R1 with
  | next => exact (show XAt G S σ1 bd rest kf kx from h1) r g1 s1 P1.inv _ _ (fun v s' g' a σ' P R q => hk v s' g' a σ' (P1.trans P) R q) fun e s' g' x σ' P T q => hx e s' g' x σ' (P1.trans P) (T.back fun _ => P1.back) q
  | brk => exact hk _ _ _ _ _ P1 .brk h1
  | cont => exact hk _ _ _ _ _ P1 .cont h1
  | ret R => exact hk _ _ _ _ _ P1 (.ret R) h1
theorem fn_runAt {A : Around} {l : List Env} {f : Addr} {cdv : Value} {qual : Str} {scope : Scope} {cl : List (Str × Addr)} {names : List Str} {loc : List (Option AV)} {h₀ : Heap} {m : Str → Option Value} {t : Nat} {body : List Stmt} {R : Result → Shared → Prop}
    {K : AV → List (Addr × OV) → Prop} {KX : AX → List (Addr × OV) → Prop} {L : Addr}
    (C : CInv G A l D g own s) (hL : L = s.heap.objs.size) (keep : ∀ b o, s.heap.get? b = some o → h₀.get? b = some o) (hns : h₀.Ns L m) (hk : scope.kind = .function) (hnd : names.Nodup) {g₁ : Heap} (hg : g.StaysIn g₁) (hg1 : ∀ b o, s.heap.get? b = some o → g.get? b = none → g₁.get? b = none) (hg2 : g₁.StaysIn h₀) (hg3 : g₁.get? L = none)
    (hl : LocOk g₁ ⟨qual, scope, f, cdv, names, D.up, false⟩ ⟨A.deeper (envX qual scope L f cdv cl), L, cl, l, some f, some L⟩ m loc)
    (hb : XAt G ⟨qual, scope, f, cdv, names, D.up, false⟩ ⟨loc, own⟩ body body (EndF own K) (EndX own KX))
    (hR : ∀ v s' g' a own', CPost G A l D g own s g' own' s' → RelV g' v a → K a own' → R (.ok (.ret v)) s')
    (hX : ∀ e s' g' x own', CPost G A l D g own s g' own' s' → ThrAt none g' s.heap s'.heap own' e x → KX x own' → R (.error (.ref e)) s') :
    _root_.PySem.wpAt (model G.prog G.w) (A.deeper (envX qual scope L f cdv cl)) (.func body (envX qual scope L f cdv cl)) (execs body (envX qual scope L f cdv cl)) (fun f s' => R (.ok (.ret (match f with | .ret v => v | _ => .none))) s')
      (fun e s' => wpAny (model G.prog G.w) (A.deeper (envX qual scope L f cdv cl)) (leaving (envX qual scope L f cdv cl) e) (fun _ s'' => R (.error e) s'') (fun e' s'' => R (.error e') s'') s') { s with heap := h₀, toks := t } := by
  have I := Inv.enter (t := t) (cl := cl) (f := f) (cdv := cdv) (qual := qual) C hL keep hns hk hnd hg hg1 hg2 hg3 hl
  have hL0 : s.heap.get? L = none := by
    cases q : s.heap.get? L with
    | none => rfl
    | some o => exact absurd (Heap.lt_size q) (by rw [hL]; exact Nat.lt_irrefl _)
  refine hb _ g₁ _ I _ _ (fun fl s' g' a σ' P Rf q => ?_) fun e s' g' x σ' P T q => ?_
  · obtain ⟨own', rest, hσ, hs, q⟩ := q
    refine hR _ s' _ _ own' (CPost.of_post (h' := s'.heap) C rfl hL0 keep hg hg1 P hσ hs (fun b o e _ _ => e) fun b _ o e => ⟨o.slots, e⟩) ?_ q
    cases Rf with
    | ret Rv => exact Rv.mono (gplus_grow P.inv.stay)
    | _ => exact .none
  · obtain ⟨own', rest, hσ, hs, q⟩ := q
    exact leave_call (R := R) rfl C rfl hL0 keep hg hg1 P T hσ hs fun s'' g'' cp T => hX e s'' g'' x own' cp T q
/-- the contract of a def whose own code matters -/
theorem Fn_defA {f : Addr} {oc od : _} {osl : _} {name qual : Str} {params : Arguments} {body : List Stmt} {scope : Scope} {cl : List (Str × Addr)} {dV kV doc pm cdv ct : Value} {an : Option Addr} {as : List AV} {kw : List (Str × AV)} {names : List Str} {loc : List (Option AV)}
    {K : AV → List (Addr × OV) → Prop} {KX : AX → List (Addr × OV) → Prop}
    (ho : G.K.lookup f = some ⟨oc, od, .func (fnX name qual params body scope cl dV kV doc pm an cdv ct), osl⟩) (hcd : codeIn G.K cdv qual = true) (hD : D.n < recursionLimit)
    (hbind : ∀ (g : Heap) (s : Shared) (vs ws : List Value), G.K.In s.heap → RelL g vs as → RelL g ws (kw.map (·.2)) → ∃ binds, BindsTo s (fnX name qual params body scope cl dV kV doc pm an cdv ct) ⟨vs, (kw.map (·.1)).zip ws⟩ binds ∧
      (∀ y ∈ binds, scope.names.lookup y.1 = some .local) ∧ ∀ (i : Nat) (x : Str) (a : AV), names[i]? = some x → loc[i]? = some (some a) → ∃ v, binds.reverse.lookup x = some v ∧ RelV g v a)
    (hb : XAt G ⟨qual, scope, f, cdv, names, D.up, false⟩ ⟨loc, own⟩ body body (EndF own K) (EndX own KX))
    (hcell : ∀ x ∈ scope.names, x.2 ≠ .cell := by decide) (hnd : names.Nodup := by decide) (hloc : ∀ x ∈ names, scope.names.lookup x = some .local := by decide) (hk : scope.kind = .function := by rfl) (hco : scope.isCoroutine = false := by rfl) (hgen : scope.isGenerator = false := by rfl) :
    Fn G D (.ref f) as kw own K KX := fun A l g s vs ws C R1 R2 R hR hX => by
  have X : G.K.In s.heap := C.ok.K.keeps fun b o e => C.stay _ _ (C.base _ _ e)
  obtain ⟨binds, h1, h2, h3⟩ := hbind g s vs ws X R1 R2
  refine ks_codeAny_call_defAt (fd := fnX name qual params body scope cl dV kV doc pm an cdv ct) (body := body) (binds := binds) (Nat.lt_of_le_of_lt C.dep hD) (X _ _ ho) rfl (C.ok.nolimit.keeps fun b o e => C.stay _ _ (C.base _ _ e)) (codeRec_of X hcd) rfl h1 hcell h2 (fun h₀ hns hk₀ => ?_) hco hgen hk
  have g0 : g.get? s.heap.objs.size = none := C.stay.fresh
  refine fn_runAt (f := f) (qual := qual) (cl := cl) C rfl hk₀ hns hk hnd (fun _ _ e => e) (fun _ _ _ e => e) (fun b o e => hk₀ _ _ (C.stay _ _ e)) g0 (fun i x a hi ha => ?_) hb hR hX
  obtain ⟨v, hv, Rv⟩ := h3 i x a hi ha
  exact ⟨v, .inl ⟨hloc x (List.mem_of_getElem? hi), hv⟩, Rv⟩
end
end Mine
end
/-! Lg24 -/
section
open PySem PySem.Calls PyProof.Rows
open PySem.W
namespace Mine
theorem slot_wd_get : Slot "wrapper_descriptor" "__get__" "wrapper_descriptor.__get__" := .of (owner := "wrapper_descriptor") (n := "__get__") (by rw [typeLookup_type, builtinLookup_eq_fast]; kernel_rfl) (by decide +kernel) (by decide +kernel) (by decide +kernel)
  (by first | exact .inl (by decide +kernel) | exact .inr (by decide +kernel)) (by rw [isSubtype_type]; kernel_rfl)
theorem entry_wd_get : entryFor table "wrapper_descriptor.__get__" = some Builtin.«wrapper_descriptor.__get__» := entryFor_of_tree (by kernel_rfl)
theorem getArgs_wd (a b c : Value) : argsOk "wrapper_descriptor.__get__" ⟨[a, b, c], []⟩ := by unfold argsOk; kernel_rfl
theorem typeOf_ei : typeOf (.builtin "Exception.__init__") = pure (.type "wrapper_descriptor") := by kernel_rfl
theorem wd_plain : plainId "wrapper_descriptor.__get__" = true := by decide +kernel
theorem wd_kind : builtinKind "wrapper_descriptor.__get__" = some .slot := by decide +kernel
theorem wd_split : splitId "wrapper_descriptor.__get__" = some ("wrapper_descriptor", "__get__") := by decide +kernel
theorem wd_inst : isInstance (.builtin "Exception.__init__") (.type "wrapper_descriptor") = pure true := by
  unfold isInstance
  rw [typeOf_ei, pure_bind, isSubtype_type]
  kernel_rfl
section
variable {prog : Program} {w : World} {M : Model} {A : Around} {E : Value → Shared → Prop} {h : Heap} {g : Array GenState} {d : Drawn} {t : Nat} {os : OsState}
abbrev wrapObj (x : Addr) : Obj := { cls := .type "method-wrapper", data := .fields #[.builtin "Exception.__init__", .ref x] }
theorem super_ga_slot {so D x C : Addr} {l₀ l : List Value} {K : Frag} {tk : Tok} {Q : PySem.Fin → Shared → Prop}
    (hso : h.get? so = some { cls := .type "super", dict := none, data := .fields #[.ref D, .ref x, .ref C], slots := #[] }) (hno : Looks (model prog w) h (opaqueClassAbove (.ref C)) none)
    (hC : Looks (model prog w) h (mroOf (.ref C)) l₀) (hl : (l₀.dropWhile (· != .ref D)).drop 1 = l) (X : K.In h)
    (hf : alongIn K "__init__" l = some (some (.builtin "Exception.__init__"))) {ox : Obj} (hx : h.get? x = some ox) (hxc : ox.cls = .ref C) (hsub : Looks (model prog w) h (isSubtype (.ref C) (.type "Exception")) true) (hxC : x ≠ C)
    (hq : Q (.done (.ret (.ref h.objs.size))) ⟨h.push (wrapObj x), g, d, t, os⟩) :
    wpAny (model prog w) A (Builtin.«super.__getattribute__» ⟨[.ref so, .str "__init__" tk], []⟩) Q E ⟨h, g, d, t, os⟩ := by
  have hlk := slot_wd_get.lookup
  have hn : (("__init__" : Str) == ("__class__" : Str)) = false := by decide
  have hne : (Value.ref x == Value.ref C) = false := by simp [hxC]
  have hdt : ({ cls := .type "super", dict := none, data := .fields #[.ref D, .ref x, .ref C], slots := #[] } : Obj).data = .fields #[.ref D, .ref x, .ref C] := rfl
  have f0 : (#[.ref D, .ref x, .ref C] : Array Value)[0]? = some (.ref D) := rfl
  have f1 : (#[.ref D, .ref x, .ref C] : Array Value)[1]? = some (.ref x) := rfl
  have f2 : (#[.ref D, .ref x, .ref C] : Array Value)[2]? = some (.ref C) := rfl
  unfold Builtin.«super.__getattribute__»
  repeat (first
    | (with_reducible refine wpAny_field hso hdt f0 ?_) | (with_reducible refine wpAny_field hso hdt f1 ?_) | (with_reducible refine wpAny_field hso hdt f2 ?_)
    | (with_reducible refine ks_wpAny_notOpaque hno ?_)
    | (with_reducible refine Looks.at hC ?_; rw [hl])
    | (refine ks_forIn_along X (fun _ _ => rfl) rfl ?_ hf)
    | (with_reducible refine wpAny_of_eq typeOf_ei ?_)
    | (with_reducible refine wpAny_call_entry slot_wd_get ⟨rfl, rfl⟩ entry_wd_get ?_ (getArgs_wd _ _ _))
    | (with_reducible refine ⟨_, rfl, ?_⟩)
    | (simp only [hn, hne, Bool.or_false, Bool.false_eq_true, if_false])
    | wp_step
    | dsimp only)
  refine codeAny_call_builtin wd_plain entry_wd_get (@check_slot (model prog w) _ _ _ "wrapper_descriptor.__get__" "wrapper_descriptor" "__get__" (.builtin "Exception.__init__") [.ref x, .ref C] [] _ wd_kind wd_split (Looks.of_pure wd_inst) (getArgs_wd _ _ _) ?_)
  unfold Builtin.«wrapper_descriptor.__get__»
  have hown : (".".intercalate ("Exception.__init__".cutAt '.').dropLast) = "Exception" := by kernel_rfl
  repeat (first
    | (with_reducible refine wpAny_loadPart_at hx ?_)
    | (rw [hxc, hown]; with_reducible refine Looks.at hsub ?_)
    | wp_step
    | dsimp only)
  all_goals exact hq
end
end Mine
end
/-! Lg25 -/
section
open PySem PySem.Calls PyProof.Rows
open PySem.W
namespace Mine
section
variable {prog : Program} {w : World} {M : Model} {A : Around} {E : Value → Shared → Prop} {h : Heap} {g : Array GenState} {d : Drawn} {t : Nat} {os : OsState}
theorem getMethod_super_slot {so D x C : Addr} {l₀ l : List Value} {K : Frag} {pl : Sem Bool} {Q : Value × List Value → Shared → Prop}
    (hso : h.get? so = some { cls := .type "super", dict := none, data := .fields #[.ref D, .ref x, .ref C], slots := #[] }) (hno : Looks (model prog w) h (opaqueClassAbove (.ref C)) none)
    (hC : Looks (model prog w) h (mroOf (.ref C)) l₀) (hl : (l₀.dropWhile (· != .ref D)).drop 1 = l) (X : K.In h)
    (hf : alongIn K "__init__" l = some (some (.builtin "Exception.__init__"))) {ox : Obj} (hx : h.get? x = some ox) (hxc : ox.cls = .ref C) (hsub : Looks (model prog w) h (isSubtype (.ref C) (.type "Exception")) true) (hxC : x ≠ C)
    (hq : Q (.ref h.objs.size, []) ⟨h.push (wrapObj x), g, d, t + 1, os⟩) :
    wpAny (model prog w) A (getMethod (.ref so) "__init__" pl) Q E ⟨h, g, d, t, os⟩ := by
  have hlk := F.ks_slot_super_ga.lookup
  have hcan := F.ks_canon_super_ga
  have hT : ∀ t', (⟨h, g, d, t', os⟩ : Shared).TypeIs (.ref so) "super" := fun _ => ⟨_, hso, rfl⟩
  unfold getMethod
  refine wpAny_bind (wpAny_specialOf (hT _) hlk ?_)
  show wpAny _ _ (if (Manifest.canonical "super.__getattribute__" != "object.__getattribute__") = true then _ else _) _ _ _
  rw [if_pos hcan]
  unfold getAttr getAttrBy
  refine wpAny_bind (wpAny_bind (wpAny_mkText (wpAny_holding (wpAny_bind (wpAny_typeOf (hT _) (wpAny_bind (wpAny_of_eq hlk ?_)))))))
  show wpAny _ _ (getAttrByItsOwn (.ref so) (.str "__init__" t) (.type "super") (.builtin "super.__getattribute__") true false) _ _ _
  unfold getAttrByItsOwn hookBefore callGetattribute boundAndCalled
  refine wpAny_bind (wpAny_of_eq (show (if onTheHeap (.type "super") then typeLookup (.type "super") "__getattr__" else pure none) = pure none from rfl) ?_)
  refine wpAny_bind (wpAny_attempt (wpAny_holding ?_))
  show wpAny _ _ (bindSpecial (.builtin "super.__getattribute__") (.ref so) >>= _) _ _ _
  refine wpAny_bind (wpAny_of_eq (F.ks_slot_super_ga.bind _) ?_)
  refine wpAny_mono (Q := fun v s' => v = .ref h.objs.size ∧ s' = ⟨h.push (wrapObj x), g, d, t + 1, os⟩) (E := fun _ _ => False)
    (wpAny_call_entry F.ks_slot_super_ga (hT _) F.ks_entry_super_ga (super_ga_slot hso hno hC hl X hf hx hxc hsub hxC ⟨_, rfl, rfl, rfl⟩) (F.ks_gaArgs_super _ _)) (fun v s' hv => ?_) fun _ _ z => z.elim
  obtain ⟨rfl, rfl⟩ := hv
  exact wpAny_pure (wpAny_pure hq)
end
end Mine
end
/-! Lg26 -/
section
open PySem PySem.Calls PyProof.Rows
open PySem.W
namespace Mine
section
variable {prog : Program} {w : World} {M : Model} {A : Around} {E : Value → Shared → Prop} {h : Heap} {g : Array GenState} {d : Drawn} {t : Nat} {os : OsState}
theorem call_wrap {b x C : Addr} {ox oC : Obj} {cd : ClassData} {vs : List Value} {va : Array Value} {v0 : Value} {R : Result → Shared → Prop} (hb : h.get? b = some (wrapObj x)) (hx : h.get? x = some ox) (hxc : ox.cls = .ref C) (hC : h.get? C = some oC) (hCd : oC.data = .cls cd)
    (hd : ox.data = .fields va) (h0 : va[0]? = some v0) (hlen : vs.length ≤ sizeLine)
    (hR : R (.ok (.ret .none)) ⟨(h.push (tupObj vs)).update x (Obj.mapFields (·.setIfInBounds 0 (.ref h.objs.size))), g, d, t, os⟩) : codeAny (model prog w) A (.call (.ref b) ⟨vs, []⟩) R ⟨h, g, d, t, os⟩ := by
  have F := PySem.F.excBase_Exception
  have hshort := F.noStar
  obtain ⟨oc, od, dt, sl⟩ := oC
  cases hCd
  obtain ⟨oxc, oxd, oxdt, oxs⟩ := ox
  cases hd
  cases hxc
  refine codeAny_of_tree ?_
  show wpAny _ A.in1 (callAny (.ref b) _) _ _ _
  unfold callAny
  refine wpAny_bind (wpAny_load hb ?_)
  refine wpAny_bind ?_
  unfold checkBoundCall
  simp only [F.initKind, F.initRow]
  repeat (first | (with_reducible refine wpAny_loadPart_at hx ?_) | (with_reducible refine wpAny_loadPart_at hC ?_) | wp_step)
  refine wpAny_onRaise ?_
  rw [show ∀ (a b : String) (n : Nat), Bind.check ⟨.positional, "*", "Exception", .self, [⟨"args", .varPos, false⟩]⟩ a b n (List.map (fun x => x.fst) ({ pos := Value.ref x :: vs } : Args).kw) = pure () from
    fun a b n => check_star_args _ _ _ _ _ _]
  refine wpAny_pure ?_
  refine wpAny_pure (And.intro (Code.quiet_builtin _ (by decide +kernel)) ?_)
  refine codeAny_builtin F.initEntry ?_
  unfold Builtin.«BaseException.__init__»
  have hsz : 0 < va.size := (Array.getElem?_eq_some_iff.mp h0).1
  have hx' := Heap.get?_push_of_some (tupObj vs) hx
  repeat (first | rw [h0] | wp_step)
  cases v0 <;> repeat (first | wp_step)
  all_goals exact hR
end
end Mine
end
/-! Lg27 -/
section
open PySem PySem.Calls PyProof.Rows
open PySem.W
namespace Mine
def fnHead (K : Frag) (f : Addr) : Option Str := match K.lookup f with | some ⟨_, _, .func fd, _⟩ => (fd.params.posonlyargs ++ fd.params.args).head?.map (·.arg) | _ => none
def codeFile (K : Frag) (code : Value) : Option Str := match code with
  | .ref c => match K.lookup c with
    | some ⟨_, _, .fields vs, _⟩ => match (vs[2]? : Option Value) with | some (Value.str f _) => some f | _ => none
    | _ => none
  | _ => none
/-- super() in a method of D, whose object is of class C -/
def superIn (prog : Program) (K : Frag) (fn : Addr) (code : Value) (scope : Scope) (nm : Str) (D C : Addr) : Bool :=
  fnHead K fn == some nm && codeFile K code == some (prog.main.file : Str) && scope.names.lookup ("super" : Str) == some NameKind.globalImplicit && scope.names.lookup ("__class__" : Str) == some NameKind.free &&
  (clsIn K D).isSome && mroIn K C (.ref D) == some true && nsIn K mainGlobals "super" == some none && (prog.main.scope.names.lookup ("super" : Str)).isSome == false && nsIn K cStatics "thirdparty.any" == some none
section
variable {G : Gb} {S : St} {r : Rt} {g g' : Heap} {σ : AS} {s s' : Shared} {k : AV → AS → Prop} {kx : AX → AS → Prop} {kf : AF → AS → Prop} {ds es : List AV} {own rest : List (Addr × OV)} {bd : List Stmt} {D : Lv}
theorem loadNm (i : Nat) {x : Str} {a : AV} {Q : Value → Shared → Prop} {E : Value → Shared → Prop} (I : Inv G S r g σ s) (hi : S.names[i]? = some x) (ha : σ.loc[i]? = some (some a)) (h : ∀ v, RelV g v a → Q v s) (hc : (x == ("__classdict__" : Str)) = false := by decide) : wpAny (model G.prog G.w) r.A (loadName (envE S r) x) Q E s := by
  obtain ⟨m, hm, hl⟩ := I.loc
  obtain ⟨v, hv, R⟩ := hl i x a hi ha
  have fin := h v R
  rcases hv with ⟨h1, h2⟩ | ⟨h1, c, hc', hcell⟩
  · exact wpAny_loadName_local I.fun_ h1 hm h2 fin
  · have hcell' : s.heap.IsCell c (some v) := let ⟨o, ho, q⟩ := hcell; ⟨o, I.stay _ _ ho, q⟩
    rcases h1 with h1 | h1
    · exact wpAny_loadName_cell I.fun_ h1 hc' hcell' fin
    · exact wpAny_loadName_free I.fun_ h1 hc' hcell' fin hc
abbrev superObj (D x C : Addr) : Obj := { cls := .type "super", dict := none, data := .fields #[.ref D, .ref x, .ref C], slots := #[] }
/-- super() itself -/
theorem superAt (hc : S.comp = false) (i j : Nat) {nm : Str} {x Dc C : Addr} {p0 p1 : Pos} {attr : Str} {whole : Sem Value} {Q : Value → Shared → Prop} {E : Value → Shared → Prop} {mm : Option Str} (I : Inv G S r g σ s)
    (hi : S.names[i]? = some nm) (hx : σ.loc[i]? = some (some (.own x))) (hj : S.names[j]? = some "__class__") (hD : σ.loc[j]? = some (some (.v (.ref Dc)))) (ho : (x, OV.exc0 C mm) ∈ σ.own)
    (hs : superIn G.prog G.K S.fn S.code S.scope nm Dc C = true) (hat : (attr == ("__class__" : Str)) = false) (hnc : (nm == ("__classdict__" : Str)) = false)
    (h : ∀ h' so, h'.get? so = some (superObj Dc x C) → (∀ y o, s.heap.get? y = some o → h'.get? y = some o) → Q (.ref so) { s with heap := h' }) :
    _root_.PySem.wpAt (model G.prog G.w) r.A (.func bd (envE S r)) (attributeBase (.Call (.Name "super" p0) [] [] p1) attr (envE S r) whole) Q E s := by
  unfold superIn at hs
  simp only [Bool.and_eq_true, beq_iff_eq] at hs
  obtain ⟨⟨⟨⟨⟨⟨⟨⟨s1, s2⟩, s3⟩, s4⟩, s5⟩, s6⟩, s7⟩, s8⟩, s9⟩ := hs
  have X := I.KIn
  obtain ⟨of, fd, ar, f1, f2, f3, rfl⟩ : ∃ of fd ar, s.heap.get? S.fn = some of ∧ of.data = .func fd ∧ (fd.params.posonlyargs ++ fd.params.args).head? = some ar ∧ ar.arg = nm := by
    unfold fnHead at s1
    split at s1
    · rename_i a b fd c ho'
      obtain ⟨ar, h1, h2⟩ := Option.map_eq_some_iff.mp s1
      exact ⟨_, fd, ar, X _ _ ho', rfl, h1, h2⟩
    · cases s1
  obtain ⟨cc, oc, vs, tf, c1, c2, c3, c4⟩ : ∃ cc oc vs tf, S.code = .ref cc ∧ s.heap.get? cc = some oc ∧ oc.data = .fields vs ∧ vs[2]? = some (.str G.prog.main.file tf) := by
    unfold codeFile at s2
    split at s2
    · rename_i c hcode
      split at s2
      · rename_i vs _ hcc
        split at s2
        · rename_i tf hv
          cases s2
          exact ⟨c, _, vs, tf, hcode, X _ _ hcc, rfl, hv⟩
        · cases s2
      · cases s2
    · cases s2
  obtain ⟨oD, cdD, d1, d2⟩ : ∃ oD cdD, s.heap.get? Dc = some oD ∧ oD.data = .cls cdD := by
    unfold clsIn at s5
    split at s5
    · rename_i ho'
      exact ⟨_, _, X _ _ ho', rfl⟩
    · cases s5
  have z := I.own.at_ _ ho
  dsimp only at z
  obtain ⟨ox, x1, x2, x3⟩ : ∃ ox, s.heap.get? x = some ox ∧ ox.cls = .ref C ∧ ∀ c, ox.data ≠ .cls c := by
    cases z with
    | exc0 h1 h2 h3 h4 _ _ _ _ => exact ⟨_, h1, h2, fun c => by rw [h4]; exact nofun⟩
  obtain ⟨mg, hg⟩ := I.ok.glob
  obtain ⟨mb, hb, hmb⟩ := I.ok.blt
  have st : G.base.StaysIn s.heap := fun b o q => I.stay _ _ (I.base _ _ q)
  obtain ⟨hh, gg, d, t, os⟩ := s
  refine ks_wpAt_super_base (env := envE S r) s3 s4 hat (I.ev hc).1 f1 f2 f3 c1 c2 c3 c4 (by simp) s8 ?_
  refine ks_loadName_global I.fun_ s3 (loadGlobal_builtin (env := envE S r) (hg.keeps st) (mg_none_of I.ok.K hg s7) (hb.keeps st) ((hmb "super" (by decide)).trans (show bootBuiltins "super" = some (.type "super") by kernel_rfl)) ⟨rfl, ?_⟩)
  refine loadNm j I hj hD fun v Rv => ?_
  cases Rv
  refine loadNm i I hi hx (fun v Rv => ?_) hnc
  cases Rv
  refine ks_wpAny_isType_cls d1 d2 ⟨rfl, ?_⟩
  exact ks_wpAny_call_super d1 d2 x1 x2 x3 (looks_mroIn X s6) fun h' e k => h _ _ e k
/-- a call of a value of one's own making, the values of its words known -/
theorem callWithP {f : Value} {first : List Value} {args : List Expr} {p : Pos} {kl : List AV → AS → Prop} {Q : Value → Shared → Prop} {E : Value → Shared → Prop} (hk : ∀ h, g.StaysIn h → G.K.In h → ∃ k, (k = Keeper.frame ∨ k = Keeper.machine ∨ k = Keeper.boundFrame) ∧ Looks (model G.prog G.w) h (keeperOf f) k) (I : Inv G S r g σ s) (h : EL G S σ p args kl kx) (hp : plains args = true)
    (hq : ∀ vs s1 g1 as σ1, Post G S r g σ s g1 σ1 s1 → RelL g1 vs as → kl as σ1 → wpAny (model G.prog G.w) r.A (call f (first ++ vs) []) Q E s1)
    (hx : ∀ e s' g' x σ', Post G S r g σ s g' σ' s' → ThrAt (some r.L) g' s.heap s'.heap σ'.own e x → kx x σ' → E (.ref e) s') :
    wpAny (model G.prog G.w) r.A (callWith p f first (backTo p (starEach args (envE S r))) []) Q E s := by
  have hpl : ∀ es : List Expr, plains es = true → (backTo p (starEach es (envE S r))).any (·.1) = false := by
    intro es
    induction es with
    | nil => intro _; rfl
    | cons e es ih =>
      intro h
      obtain ⟨h1, h2⟩ := Bool.and_eq_true_iff.mp h
      rw [starEach_plain h1]
      show (false || (backTo p (starEach es (envE S r))).any (·.1)) = false
      rw [ih h2]; rfl
  refine callWith_of (P := fun h => g.StaysIn h ∧ G.K.In h) (by rw [hpl _ hp]; rfl) (fun h X => hk h X.1 X.2) ?_
  have fin : ∀ vs s1 g1 as σ1, Post G S r g σ s g1 σ1 s1 → RelL g1 vs as → kl as σ1 → ((g.StaysIn s1.heap ∧ G.K.In s1.heap) ∧ wpAny (model G.prog G.w) r.A (call f (first ++ vs) []) Q E s1) := fun vs s1 g1 as σ1 P1 R1 h1 =>
    ⟨⟨fun b o e => P1.inv.stay _ _ (P1.grow _ _ e), P1.inv.KIn⟩, hq vs s1 g1 as σ1 P1 R1 h1⟩
  cases args with
  | nil =>
    exact evalArgs_none (h r g s I (fun vs s1 => ((g.StaysIn s1.heap ∧ G.K.In s1.heap) ∧ wpAny (model G.prog G.w) r.A (call f (first ++ vs) []) Q E s1)) E (fun vs s1 g1 as σ1 P1 R1 h1 => fin vs s1 g1 as σ1 P1 R1 h1) hx)
  | cons e es =>
    obtain ⟨h1, h2⟩ := Bool.and_eq_true_iff.mp hp
    have z := h r g s I (fun vs s1 => ((g.StaysIn s1.heap ∧ G.K.In s1.heap) ∧ wpAny (model G.prog G.w) r.A (call f (first ++ vs) []) Q E s1)) E (fun vs s1 g1 as σ1 P1 R1 h1 => fin vs s1 g1 as σ1 P1 R1 h1) hx
    dsimp only at z
    rw [starEach_plain h1] at z ⊢
    exact evalArgs_plain z
end
end Mine
end
/-! Lg28 -/
section
open PySem PySem.Calls PyProof.Rows
open PySem.W
namespace Mine
section
variable {G : Gb} {S : St} {r : Rt} {g g' : Heap} {σ : AS} {s s' : Shared} {k : AV → AS → Prop} {kx : AX → AS → Prop} {kf : AF → AS → Prop} {ds es : List AV} {own rest : List (Addr × OV)} {bd : List Stmt} {D : Lv}
theorem looks_wrap {M : Model} {h : Heap} {b x : Addr} (e : h.get? b = some (wrapObj x)) : Looks M h (keeperOf (.ref b)) .machine := by
  unfold keeperOf
  refine (Looks.ld (part := none) e).andThen ?_
  simp only [show (Value.type "method-wrapper" != Value.type "method") = true by decide, show (Value.type "method-wrapper" == Value.type "builtin_function_or_method" || Value.type "method-wrapper" == Value.type "method-wrapper") = true by decide, if_true]
  exact .now
theorem looks_bound {M : Model} {h : Heap} {b f : Addr} {x : Value} {o : Obj} {fd : FuncData} (e : h.get? b = some { cls := .type "method", dict := none, data := .fields #[.ref f, x], slots := #[] }) (hf : h.get? f = some o) (hd : o.data = .func fd) : Looks M h (keeperOf (.ref b)) .boundFrame := by
  unfold keeperOf
  refine (Looks.ld (part := none) e).andThen ?_
  simp only [show (Value.type "method" != Value.type "method") = false by decide, Bool.false_eq_true, if_false]
  show Looks M h (load f >>= fun o => _) _
  refine (Looks.ld (part := none) hf).andThen ?_
  rw [hd]
  exact .now
theorem exc0_of (I : Inv G S r g σ s) {x C : Addr} {mm : Option Str} (ho : (x, OV.exc0 C mm) ∈ σ.own) : ∃ o vs v, s.heap.get? x = some o ∧ o.cls = .ref C ∧ o.dict = none ∧ o.data = .fields vs ∧ vs[0]? = some v ∧ vs[1]? = some .none ∧ vs[2]? = some .none := by
  have z := I.own.at_ _ ho
  dsimp only at z
  cases z with
  | exc0 h1 h2 h3 h4 h5 h6 h7 _ => exact ⟨_, _, _, h1, h2, h3, h4, h5, h6, h7⟩
theorem cls_ne {h : Heap} {K : Frag} (X : K.In h) {x C : Addr} {o : Obj} {vs : Array Value} (hx : h.get? x = some o) (hd : o.data = .fields vs) (hc : (clsIn K C).isSome = true) : x ≠ C := by
  rintro rfl
  unfold clsIn at hc
  split at hc
  · rename_i ho
    have e := X _ _ ho
    rw [hx] at e
    cases e
    cases hd
  · cases hc
theorem looks_mroOf {K : Frag} {h : Heap} {M : Model} (X : K.In h) {C : Addr} {cd : ClassData} (hc : clsIn K C = some cd) : Looks M h (mroOf (.ref C)) cd.mro := fun A Q E s k q => wpAny_bind ((looks_clsIn X hc) A _ E s k (wpAny_pure q))
/-- super().__init__(words), the next in line being the builtin one -/
theorem SAt_super0 (hc : S.comp = false) (i j : Nat) {nm : Str} {x Dc C : Addr} {p0 p1 p2 p p4 : Pos} {args : List Expr} {mm : Option Str}
    (hi : S.names[i]? = some nm) (hx : σ.loc[i]? = some (some (.own x))) (hj : S.names[j]? = some "__class__") (hD : σ.loc[j]? = some (some (.v (.ref Dc)))) (ho : (x, OV.exc0 C mm) ∈ σ.own)
    (hs : superIn G.prog G.K S.fn S.code S.scope nm Dc C = true) (ht : ks_superIn G.K C Dc "__init__" = some (some (.builtin "Exception.__init__"))) (hsub : mroIn G.K C (.type "Exception") = some true)
    (h : EL G S σ p args (fun as σ1 => ∃ m own rest mm, as = [.str m] ∧ σ1.own = own ++ (x, .exc0 C mm) :: rest ∧ kf .next ⟨σ1.loc, own ++ (x, .exc0 C (some m)) :: rest⟩) kx)
    (hnc : (nm == ("__classdict__" : Str)) = false := by decide) (hp : plains args = true := by rfl) (hsw : ∀ env : Env, env.scope = S.scope → swapsWith (.Call (.Attribute (.Call (.Name "super" p0) [] [] p1) "__init__" p2) args [] p) none p4.line env = pure false := by intro env _; rfl)
    (he : ∀ env, eval (.Call (.Attribute (.Call (.Name "super" p0) [] [] p1) "__init__" p2) args [] p) env = (do
      let ov ← attributeBase (.Call (.Name "super" p0) [] [] p1) "__init__" env (eval (.Call (.Name "super" p0) [] [] p1) env)
      standAt p2.atName
      let (f, first) ← holding [ov] (getMethod ov "__init__" (pure false))
      callWith p f first (backTo p (starEach args env)) []) := by intro env; rfl) :
    SAt G S σ bd (.Expr (.Call (.Attribute (.Call (.Name "super" p0) [] [] p1) "__init__" p2) args [] p) p4) kf kx := fun r g s I Q E hk hxx => by
  refine ks_wpAt_Expr_any (ks_wpAt_MethodCall (pl := pure false) ?_ (he _)) (hi := by unfold interactive; show (S.scope.kind == _ && _) = false; rw [I.fun_]; rfl) (hs := hsw _ rfl)
  obtain ⟨ox, vx, v0, x1, x2, x3, x4, x5, x6, x7⟩ := exc0_of I ho
  refine superAt hc i j I hi hx hj hD ho hs (by decide) hnc fun h' so hso keep => ?_
  obtain ⟨hh, gg, d, t, os⟩ := s
  obtain ⟨g1, P1⟩ := Post.kept I keep t
  have X := P1.inv.KIn
  unfold superIn at hs
  simp only [Bool.and_eq_true, beq_iff_eq] at hs
  obtain ⟨⟨⟨⟨⟨⟨⟨⟨_, _⟩, _⟩, _⟩, s5⟩, s6⟩, s7⟩, s8⟩, s9⟩ := hs
  unfold ks_superIn at ht
  obtain ⟨cd, hcd, ha⟩ := Option.bind_eq_some_iff.mp ht
  refine getMethod_super_slot hso (looks_opaque X s9) (looks_mroOf X hcd) rfl X ha (keep _ _ x1) x2 (looks_mroIn X hsub) (cls_ne I.KIn x1 x4 (by rw [hcd]; rfl)) ?_
  obtain ⟨g2, P2, hw⟩ := Post.alloc (P1.inv) (wrapObj x) rfl (t + 1)
  have P12 := P1.trans P2
  refine callWithP (first := []) (fun h st _ => ⟨_, .inr (.inl rfl), looks_wrap (st _ _ hw)⟩) P12.inv (h) hp (fun vs s3 g3 as σ3 P3 R3 q => ?_) fun e s' g' x σ' P T => hxx e s' g' x σ' (P12.trans P) (T.back fun _ => P12.back)
  obtain ⟨m, own, rest, mm', rfl, hσ, q⟩ := q
  obtain ⟨hh3, gg3, d3, t3, os3⟩ := s3
  obtain ⟨oy, vy, w0, y1, y2, y3, y4, y5, y6, y7⟩ := exc0_of P3.inv (x := x) (C := C) (mm := mm') (by rw [hσ]; simp)
  obtain ⟨oC, cdC, c1, c2⟩ : ∃ oC cd', hh3.get? C = some oC ∧ oC.data = .cls cd' := by
    unfold clsIn at hcd
    split at hcd
    · rename_i ho'
      exact ⟨_, _, P3.inv.KIn _ _ ho', rfl⟩
    · cases hcd
  have hb3 : hh3.get? h'.objs.size = some (wrapObj x) := P3.inv.stay _ _ (P3.grow _ _ hw)
  refine wpAny_call (call_wrap (C := C) hb3 y1 y2 c1 c2 y4 y5 ?_ ?_)
  · rw [List.nil_append, RelL.len R3]; exact (by decide : (1 : Nat) ≤ sizeLine)
  · have Rv : ∃ tk, vs = [.str m tk] := by
      cases R3 with
      | cons a b => cases b; cases a; exact ⟨_, rfl⟩
    obtain ⟨tk, rfl⟩ := Rv
    obtain ⟨g4, P4, ht4⟩ := Post.alloc P3.inv (tupObj [.str m tk]) rfl t3
    have hxs : x ≠ hh3.objs.size := Nat.ne_of_lt (Heap.lt_size y1)
    obtain ⟨oc, od, odt, osl⟩ := oy
    cases y4
    have hup : ((hh3.push (tupObj [.str m tk])).update x (Obj.mapFields (·.setIfInBounds 0 (.ref hh3.objs.size)))).get? x = some (Obj.mapFields (·.setIfInBounds 0 (.ref hh3.objs.size)) ⟨oc, od, .fields vy, osl⟩) :=
      Heap.get?_update_self _ (Heap.get?_push_of_some _ y1) rfl
    have hsz : 0 < vy.size := (Array.getElem?_eq_some_iff.mp y5).1
    have P5 := Post.setOwn (h' := (hh3.push (tupObj [.str m tk])).update x (Obj.mapFields (·.setIfInBounds 0 (.ref hh3.objs.size)))) (ov' := .exc0 C (some m)) P4.inv hσ rfl
      (fun b ob n e => by rw [Heap.get?_update_other _ _ (fun z => n (by rw [← z]; exact .head _))]; exact e)
      (by
        refine .exc0 hup y2 y3 rfl (v := .ref hh3.objs.size) ?_ ?_ ?_ ?_
        · simp [hsz]
        · rw [Array.getElem?_setIfInBounds_ne (by decide)]; exact y6
        · rw [Array.getElem?_setIfInBounds_ne (by decide)]; exact y7
        · exact ⟨_, tk, rfl, ⟨_, _, ht4, rfl, rfl⟩⟩) t3
    exact hk _ _ _ _ _ ((P12.trans (P3.trans P4)).trans P5) .next q
def fnIn (K : Frag) (f : Addr) : Bool := match K.lookup f with | some ⟨.type "function", _, .func _, _⟩ => true | _ => false
theorem fnIn_at {K : Frag} {h : Heap} (X : K.In h) {f : Addr} (e : fnIn K f = true) : ∃ o fd, h.get? f = some o ∧ o.cls = .type "function" ∧ o.data = .func fd := by
  unfold fnIn at e
  split at e
  · rename_i ho
    exact ⟨_, _, X _ _ ho, rfl, rfl⟩
  · cases e
/-- super().__init__(words), the next in line being an own one -/
theorem SAt_superF (hc : S.comp = false) (i j : Nat) {nm : Str} {x Dc C f2 : Addr} {p0 p1 p2 p p4 : Pos} {args : List Expr} {mm : Option Str}
    (hi : S.names[i]? = some nm) (hx : σ.loc[i]? = some (some (.own x))) (hj : S.names[j]? = some "__class__") (hD : σ.loc[j]? = some (some (.v (.ref Dc)))) (ho : (x, OV.exc0 C mm) ∈ σ.own)
    (hs : superIn G.prog G.K S.fn S.code S.scope nm Dc C = true) (ht : ks_superIn G.K C Dc "__init__" = some (some (.ref f2))) (hfn : fnIn G.K f2 = true) (hle : S.D.le D)
    (h : EL G S σ p args (fun as σ1 => ∃ own rest K, Fn G D (.ref f2) (.own x :: as) [] own K (fun _ _ => False) ∧ σ1.own = own ++ rest ∧ ∀ a own', hid own ⊆ hid own' → K a own' → kf .next ⟨σ1.loc, own' ++ rest⟩) kx)
    (hnc : (nm == ("__classdict__" : Str)) = false := by decide) (hp : plains args = true := by rfl) (hsw : ∀ env : Env, env.scope = S.scope → swapsWith (.Call (.Attribute (.Call (.Name "super" p0) [] [] p1) "__init__" p2) args [] p) none p4.line env = pure false := by intro env _; rfl)
    (he : ∀ env, eval (.Call (.Attribute (.Call (.Name "super" p0) [] [] p1) "__init__" p2) args [] p) env = (do
      let ov ← attributeBase (.Call (.Name "super" p0) [] [] p1) "__init__" env (eval (.Call (.Name "super" p0) [] [] p1) env)
      standAt p2.atName
      let (f, first) ← holding [ov] (getMethod ov "__init__" (pure false))
      callWith p f first (backTo p (starEach args env)) []) := by intro env; rfl) :
    SAt G S σ bd (.Expr (.Call (.Attribute (.Call (.Name "super" p0) [] [] p1) "__init__" p2) args [] p) p4) kf kx := fun r g s I Q E hk hxx => by
  refine ks_wpAt_Expr_any (ks_wpAt_MethodCall (pl := pure false) ?_ (he _)) (hi := by unfold interactive; show (S.scope.kind == _ && _) = false; rw [I.fun_]; rfl) (hs := hsw _ rfl)
  obtain ⟨ox, vx, v0, x1, x2, x3, x4, x5, x6, x7⟩ := exc0_of I ho
  refine superAt hc i j I hi hx hj hD ho hs (by decide) hnc fun h' so hso keep => ?_
  obtain ⟨hh, gg, d, t, os⟩ := s
  obtain ⟨g1, P1⟩ := Post.kept I keep t
  have X := P1.inv.KIn
  unfold superIn at hs
  simp only [Bool.and_eq_true, beq_iff_eq] at hs
  obtain ⟨⟨⟨⟨⟨⟨⟨⟨_, _⟩, _⟩, _⟩, s5⟩, s6⟩, s7⟩, s8⟩, s9⟩ := hs
  unfold ks_superIn at ht
  obtain ⟨cd, hcd, ha⟩ := Option.bind_eq_some_iff.mp ht
  obtain ⟨of, fd, hof, hfc, hfd⟩ := fnIn_at I.ok.K hfn
  have stb : ∀ b o, G.base.get? b = some o → h'.get? b = some o := fun b o e => P1.inv.stay _ _ (P1.inv.base _ _ e)
  refine ks_wpAny_getMethod_super hso (looks_opaque X s9) (looks_mroOf X hcd) rfl X ha (stb _ _ hof) hfc (cls_ne I.KIn x1 x4 (by rw [hcd]; rfl)) (by decide) ?_
  obtain ⟨g2, P2, hw⟩ := Post.alloc (P1.inv) { cls := .type "method", data := .fields #[.ref f2, .ref x] } rfl (t + 1)
  have P12 := P1.trans P2
  refine callWithP (first := []) (fun h st X' => ⟨_, .inr (.inr rfl), looks_bound (st _ _ hw) (st _ _ (P12.grow _ _ (I.base _ _ hof))) hfd⟩) P12.inv h hp (fun vs s3 g3 as σ3 P3 R3 q => ?_) fun e s' g' x σ' P T => hxx e s' g' x σ' (P12.trans P) (T.back fun _ => P12.back)
  have P := P12.trans P3
  have hb3 := P3.inv.stay _ _ (P3.grow _ _ hw)
  obtain ⟨own, rest, K, hF, hσ, q⟩ := q
  refine wpAny_call (ks_codeAny_call_bound hb3 ?_)
  refine hF r.A _ g3 s3 (.ref x :: vs) [] (P3.inv.cinv hσ hle) (.cons (.own _) R3) .nil _ (fun v s' g' a own' P' R q' => ?_) fun e s' g' x own' P T q => q.elim
  exact hk _ _ _ _ _ (P.trans (Post.of_cpost P3.inv hσ P')) .next (q a own' P'.same.1 q')
end
end Mine
end
/-! Lg29 -/
section
open PySem PySem.Calls PyProof.Rows
open PySem.W
namespace Mine
abbrev emptyD : Obj := { cls := .type "dict", data := .dict #[] }
def hNew (h : Heap) (x : Addr) (name : Str) (hs : Int) (key v : Value) : Heap := ((h.push emptyD).update x fun o => { o with dict := some h.objs.size }).update h.objs.size (Obj.putName name hs key v)
def excTail : List Value → Bool
  | .ref _ :: r => excTail r
  | l => l == [.type "Exception", .type "BaseException", .type "object"]
theorem refuse_exc (self : Value) : ∀ {l : List Value}, excTail l = true → refuseLoop self "__setattr__" l = pure ()
  | .ref c :: r, e => by rw [refuseLoop_ref]; exact refuse_exc self e
  | [], e => by cases e
  | .type n :: r, e => by
    have e' : (Value.type n :: r) = [.type "Exception", .type "BaseException", .type "object"] := beq_iff_eq.mp e
    rw [e']; exact PySem.F.store_Exception.passes self
  | .none :: r, e => by cases beq_iff_eq.mp (show ((Value.none :: r) == [.type "Exception", .type "BaseException", .type "object"]) = true from e)
  | .bool _ :: r, e => by cases beq_iff_eq.mp (show ((Value.bool _ :: r) == [.type "Exception", .type "BaseException", .type "object"]) = true from e)
  | .int _ _ :: r, e => by cases beq_iff_eq.mp (show ((Value.int _ _ :: r) == [.type "Exception", .type "BaseException", .type "object"]) = true from e)
  | .str _ _ :: r, e => by cases beq_iff_eq.mp (show ((Value.str _ _ :: r) == [.type "Exception", .type "BaseException", .type "object"]) = true from e)
  | .bytes _ _ :: r, e => by cases beq_iff_eq.mp (show ((Value.bytes _ _ :: r) == [.type "Exception", .type "BaseException", .type "object"]) = true from e)
  | .builtin _ :: r, e => by cases beq_iff_eq.mp (show ((Value.builtin _ :: r) == [.type "Exception", .type "BaseException", .type "object"]) = true from e)
  | .float _ _ :: r, e => by cases beq_iff_eq.mp (show ((Value.float _ _ :: r) == [.type "Exception", .type "BaseException", .type "object"]) = true from e)
  | .ellipsis :: r, e => by cases beq_iff_eq.mp (show ((Value.ellipsis :: r) == [.type "Exception", .type "BaseException", .type "object"]) = true from e)
  | .notImplemented :: r, e => by cases beq_iff_eq.mp (show ((Value.notImplemented :: r) == [.type "Exception", .type "BaseException", .type "object"]) = true from e)
theorem exc_has : ∀ {l : List Value}, excTail l = true → l.contains (.type "object") = true
  | l, e => by
    induction l with
    | nil => cases e
    | cons c r ih =>
      by_cases h : ∃ a, c = .ref a
      · obtain ⟨a, rfl⟩ := h
        rw [List.contains_cons, ih e, Bool.or_true]
      · have e' : (c :: r == [.type "Exception", .type "BaseException", .type "object"]) = true := by
          cases c <;> first | exact e | exact absurd ⟨_, rfl⟩ h
        rw [beq_iff_eq.mp e']
        decide
def plainX (K : Frag) (C : Addr) : Bool := (clsIn K C).any fun cd => excTail cd.mro
section
variable {prog : Program} {w : World} {A : Around} {K : Frag} {C x : Addr} {R : Result → Shared → Prop} {s : Shared}
open Builtin Builtin.ObjectAttr in
theorem osa_openX {ox : Obj} {od : Option Obj} {name : Str} {tk : Tok} {v : Value} {r : Option Value} (X : K.In s.heap) (I : InstAt s.heap x ox C od) (hp : plainX K C = true) (ht : takerIn K C name = some r)
    (h : ∀ b, wpAny (model prog w) A.in1 (match r with | some a => setByDescriptor a (.ref x) v | none => storeInOwnDict (.ref x) (.ref C) (.str name tk) name v b)
      (fun fin s' => match fin with | .done f => R (.ok f) s' | .again c' => c'.quiet = true ∧ codeAny (model prog w) A c' R s') (fun e s' => R (.error e) s') s) :
    codeAny (model prog w) A (.call (.builtin "object.__setattr__") ⟨[.ref x, .str name tk, v], []⟩) R s := by
  have SF := PySem.F.store_object
  obtain ⟨cd, hc, ho⟩ := any_some hp
  have ne : cd.mro.isEmpty = false := by cases q : cd.mro with | nil => rw [q] at ho; cases ho | cons _ _ => rfl
  have sub : Looks (model prog w) s.heap (isInstance (.ref x) (.type "object")) true := I.type.andThen (looks_mroIn X (by unfold mroIn; rw [hc, Option.bind_some, if_neg (by rw [ne]; decide), exc_has ho]))
  refine codeAny_call_builtin SF.slot.plain SF.entry (@check_slot (model prog w) _ _ s "object.__setattr__" "object" "__setattr__" (.ref x) [.str name tk, v] [] _ SF.kind SF.split sub (SF.args (.ref x) (.str name tk) v) ?_)
  obtain ⟨attr, ha, hr⟩ := Option.bind_eq_some_iff.mp ht
  have hm : Looks (model prog w) s.heap (mroOf (.ref C)) cd.mro := (looks_clsIn X hc).andThen .now
  have L3 : Looks (model prog w) s.heap (storeTaker? attr) r := by
    cases attr with
    | none => cases hr; exact .now
    | some a =>
      obtain ⟨b, hb, rfl⟩ := Option.map_eq_some_iff.mp hr
      refine (looks_takesIn X hb).andThen ?_
      cases b <;> exact .now
  rw [osa_eq, refuse_eq]
  refine wpAny_bind (wpAny_bind (I.type.here (wpAny_bind (hm.here ?_))))
  rw [refuse_exc _ ho]
  refine wpAny_pure (wpAny_bind (I.type.here (wpAny_bind ((looks_findIn X ha).here (wpAny_bind (L3.here ?_))))))
  exact h _
theorem osa_dictX {h₀ : Heap} {L : Addr} {m : Str → Option Value} {ox od od' : Obj} {dx : Addr} {name : Str} {tk : Tok} {v : Value} {pre post : List (Addr × Obj)} {es : List DictEntry} {n : Nat} (F : Fr h₀ L s.heap m) (N : News h₀ L s.heap (pre ++ (dx, od) :: post)) (X : K.In s.heap)
    (I : InstAt s.heap x ox C (some od)) (hd : ox.dict = some dx) (hp : plainX K C = true) (ht : takerIn K C name = some none) (hh : (clsIn K C).any (·.hasDict) = true)
    (hl : (lookIn name od).isSome = true) (h1 : ∀ p ∈ pre, p.1 ≠ dx) (h2 : ∀ p ∈ post, p.1 ≠ dx)
    (e : Obj.putName name (PyData.keyHash w.params name) (.str name s.toks) v od = od') (e' : od'.data = .dict es.toArray n) (hz : es.length ≤ 1000)
    (h : ∀ h', Fr h₀ L h' m → News h₀ L h' (pre ++ (dx, od') :: post) → R (.ok (.ret .none)) { s with heap := h', toks := s.toks + 1 }) :
    codeAny (model prog w) A (.call (.builtin "object.__setattr__") ⟨[.ref x, .str name tk, v], []⟩) R s := by
  refine osa_openX X I hp ht fun b => ?_
  obtain ⟨cd, hc, hd'⟩ := any_some hh
  obtain ⟨U1, U2⟩ := news_upd (f := Obj.putName name (PyData.keyHash w.params name) (.str name s.toks) v) F N h1 h2 e (by obtain ⟨_, _, dd, _⟩ := od'; cases e'; rfl)
  have D := (N (dx, od) (by simp)).1
  have D' := (U2 (dx, od') (by simp)).1
  obtain ⟨hx, hcl, hn, -⟩ := I
  obtain ⟨oc, odi, oda, osl⟩ := ox
  dsimp only at hcl hd
  subst hcl hd
  refine wpAny_bind (wpAny_pure (wpAny_bind (wpAny_bind (wpAny_loadPart hx (wpAny_bind ((looks_clsIn X hc).here ?_))))))
  rw [hd']
  refine wpAny_pure (a := some dx) (wpAny_bind (wpAny_pure (wpAny_bind ?_)))
  unfold nsSet
  refine wpAny_bind (wpAny_bind (wpAny_askSetting (wpAny_pure (wpAny_bind (wpAny_mkText (wpAny_bind (wpAny_loadPart D ?_)))))))
  unfold lookIn at hl
  split at hl
  · rename_i es₀ n₀ q
    rw [q]
    dsimp only
    have c : (!es₀.any (·.key.isStr name) && es₀.any (·.refKey)) = false := by
      rw [← Array.any_toList, ← Array.any_toList]
      split at hl
      · rename_i en he
        rw [List.any_eq_true.mpr ⟨en, List.mem_of_find?_eq_some he, List.find?_some he⟩]; rfl
      · split at hl
        · cases hl
        · rename_i z; rw [Bool.not_eq_true] at z; rw [z, Bool.and_false]
    rw [aRefKeyMayBeTheName_at, c]
    refine wpAny_updatePart D ?_
    refine wpAny_bind (wpAny_lookBehind D' (by rw [e']; exact pastItsLine_dict (by rw [List.size_toArray, sizeLine_eq]; omega)) ?_)
    exact wpAny_pure (h _ U1 U2)
  · cases hl
theorem osa_new {ox : Obj} {vs : Array Value} {name : Str} {tk : Tok} {v : Value} (X : K.In s.heap) (I : InstAt s.heap x ox C none) (hdt : ox.data = .fields vs) (hdn : ox.dict = none) (hp : plainX K C = true) (ht : takerIn K C name = some none) (hh : (clsIn K C).any (·.hasDict) = true)
    (h : R (.ok (.ret .none)) { s with heap := hNew s.heap x name (PyData.keyHash w.params name) (.str name s.toks) v, toks := s.toks + 1 }) :
    codeAny (model prog w) A (.call (.builtin "object.__setattr__") ⟨[.ref x, .str name tk, v], []⟩) R s := by
  refine osa_openX X I hp ht fun b => ?_
  obtain ⟨cd, hc, hd'⟩ := any_some hh
  obtain ⟨hx, hcl, hn, -⟩ := I
  obtain ⟨oc, odi, oda, osl⟩ := ox
  dsimp only at hcl hdt hdn
  subst hcl hdt hdn
  have hx1 := Heap.get?_push_of_some emptyD hx
  have hne : x ≠ s.heap.objs.size := Nat.ne_of_lt (Heap.lt_size hx)
  have hd1 : ((s.heap.push emptyD).update x fun o => { o with dict := some s.heap.objs.size }).get? s.heap.objs.size = some emptyD := by
    rw [Heap.get?_update_other _ _ hne]; exact Heap.get?_push_size _ rfl
  have hd2 : (hNew s.heap x name (PyData.keyHash w.params name) (.str name s.toks) v).get? s.heap.objs.size = some (Obj.putName name (PyData.keyHash w.params name) (.str name s.toks) v emptyD) :=
    Heap.get?_update_self _ hd1 rfl
  refine wpAny_bind (wpAny_pure (wpAny_bind (wpAny_bind (wpAny_loadPart hx (wpAny_bind ((looks_clsIn X hc).here ?_))))))
  rw [hd']
  show wpAny _ _ (alloc emptyD >>= fun d => update x (fun o => { o with dict := some d }) >>= fun _ => dictMade (.ref C) x d) _ _ _
  refine wpAny_bind (wpAny_alloc (wpAny_bind (wpAny_update hx1 ?_)))
  refine wpAny_pure (a := some s.heap.objs.size) ?_
  refine wpAny_bind (wpAny_pure (wpAny_bind ?_))
  unfold nsSet
  refine wpAny_bind (wpAny_bind (wpAny_askSetting (wpAny_pure (wpAny_bind (wpAny_mkText (wpAny_bind (wpAny_loadPart hd1 ?_)))))))
  dsimp only
  have c : (!(#[] : Array DictEntry).any (·.key.isStr name) && (#[] : Array DictEntry).any (·.refKey)) = false := by simp
  rw [aRefKeyMayBeTheName_at, c]
  refine wpAny_updatePart hd1 ?_
  refine wpAny_bind (wpAny_lookBehind hd2 ?_ ?_)
  · rw [show Obj.putName name (PyData.keyHash w.params name) (.str name s.toks) v emptyD = dictOf _ _ from putName_dict name _ _ _ [] 0]
    exact pastItsLine_dict (show (1 : Nat) ≤ sizeLine + 1 by decide)
  · exact wpAny_pure h
end
section
variable {G : Gb} {S : St} {r : Rt} {g g' : Heap} {σ : AS} {s s' : Shared} {k : AV → AS → Prop} {kx : AX → AS → Prop} {kf : AF → AS → Prop} {kl : List AV → AS → Prop} {ds es : List AV} {own rest : List (Addr × OV)}
/-- one of one's own objects is changed and gets a part more -/
theorem Post.widenOwn (I : Inv G S r g σ s) {h' : Heap} {a d : Addr} {ov ov' : OV} (hσ : σ.own = own ++ (a, ov) :: rest) (hid' : ov'.hid a = ov.hid a ++ [d]) (hd : s.heap.get? d = none) (hk : ∀ b o, b ∉ ov.hid a → s.heap.get? b = some o → h'.get? b = some o) (hov : OvAt g h' a ov') (t : Nat) :
    Post G S r g σ s g ⟨σ.loc, own ++ (a, ov') :: rest⟩ { s with heap := h', toks := t } := by
  have hh : hid σ.own = hid own ++ (ov.hid a ++ hid rest) := by rw [hσ, hid_append]; rfl
  have hm : ∀ b, b ∈ hid (own ++ (a, ov') :: rest) ↔ b ∈ hid σ.own ∨ b = d := fun b => by
    rw [hh, hid_append]; show b ∈ _ ++ (ov'.hid a ++ _) ↔ _; rw [hid']; simp only [List.mem_append, List.mem_singleton]
    constructor
    · rintro (h | (h | h) | h) <;> simp_all
    · rintro ((h | h | h) | h) <;> simp_all
  have hno : d ∉ hid σ.own := fun h => by obtain ⟨o, ho⟩ := I.own.there h; rw [hd] at ho; cases ho
  have nd := I.own.nd
  rw [hh] at nd
  obtain ⟨n1, n2, n3⟩ := List.nodup_append.mp nd
  obtain ⟨n4, n5, n6⟩ := List.nodup_append.mp n2
  have ino : ∀ b ∈ ov.hid a, b ∈ hid σ.own := fun b hb => by rw [hh]; exact List.mem_append_right _ (List.mem_append_left _ hb)
  have nf : ∀ b ∈ frs (envR S r :: r.outer), b ∉ ov.hid a := fun b hb hn => I.apart b (ino b hn) hb
  have gs : ∀ b o, g.get? b = some o → b ∉ ov.hid a := fun b o e hn => by rw [I.own.hide b (ino b hn)] at e; cases e
  refine ⟨⟨I.ok, I.frames, I.ev, fun b o e => hk _ _ (gs b o e) (I.stay _ _ e), I.base, funFrames_alive I.ff (fun b hb => (I.ff.mem hb).1) fun b o hb e hd => ⟨o, hk _ _ (nf b hb) e, hd⟩, ?_, ⟨?_, ?_, ?_⟩, ?_, I.lone, I.bare, I.os, I.dep, I.un, I.hd, I.hx, I.fun_, I.nd⟩,
    fun _ _ e => e, fun _ _ _ _ e => e, fun b o e n1 n2 => hk _ _ (fun hn => n2 (ino b hn)) e, fun b hb o e => ⟨o.slots, hk _ _ (nf b (by rw [frs_cons]; exact .tail _ hb)) e⟩, fun b hb => ?_, fun _ _ e => e, fun b hb => ?_⟩
  · obtain ⟨m, ⟨o, es, ep, ho, q⟩, q'⟩ := I.loc
    exact ⟨m, ⟨o, es, ep, hk _ _ (nf r.L (by rw [frs_cons]; exact .head _)) ho, q⟩, q'⟩
  · intro p hp
    have old : ∀ p, p ∈ σ.own → (∀ b ∈ p.2.hid p.1, b ∉ ov.hid a) → OvAt g h' p.1 p.2 := fun p hp hn => ovAt_keep (fun _ _ e => e) (I.own.at_ p hp) fun b hb o e => hk _ _ (hn b hb) e
    rcases List.mem_append.mp hp with hp | hp
    · exact old p (by rw [hσ]; exact List.mem_append_left _ hp) fun b hb hn => n3 b (mem_hid hp hb) b (List.mem_append_left _ hn) rfl
    · rcases List.mem_cons.mp hp with rfl | hp
      · exact hov
      · exact old p (by rw [hσ]; exact List.mem_append_right _ (.tail _ hp)) fun b hb hn => n6 b hn b (mem_hid hp hb) rfl
  · intro b hb
    rcases (hm b).mp hb with hb | rfl
    · exact I.own.hide b hb
    · cases q : g.get? b with
      | none => rfl
      | some o => rw [I.stay _ _ q] at hd; cases hd
  · show (hid (own ++ (a, ov') :: rest)).Nodup
    rw [hid_append]; show (_ ++ (ov'.hid a ++ _)).Nodup
    rw [hid']
    rw [hh] at hno
    simp only [List.mem_append, not_or] at hno
    refine List.nodup_append.mpr ⟨n1, List.nodup_append.mpr ⟨List.nodup_append.mpr ⟨n4, by simp, fun x hx y hy => ?_⟩, n5, fun x hx y hy => ?_⟩, fun x hx y hy => ?_⟩
    · rw [List.mem_singleton.mp hy]; rintro rfl; exact hno.2.1 hx
    · rcases List.mem_append.mp hx with hx | hx
      · exact n6 x hx y hy
      · rw [List.mem_singleton.mp hx]; rintro rfl; exact hno.2.2 hy
    · rcases List.mem_append.mp hy with hy | hy
      · rcases List.mem_append.mp hy with hy | hy
        · exact n3 x hx y (List.mem_append_left _ hy)
        · rw [List.mem_singleton.mp hy]; rintro rfl; exact hno.1 hx
      · exact n3 x hx y (List.mem_append_right _ hy)
  · intro b hb hf
    rcases (hm b).mp hb with hb | rfl
    · exact I.apart b hb hf
    · obtain ⟨_, o, ho, _⟩ := I.ff.mem hf
      rw [hd] at ho; cases ho
  · rcases (hm b).mp hb with hb | rfl
    · exact .inl hb
    · exact .inr hd
  · by_cases hn : b ∈ ov.hid a
    · exact OvAt.data (p := (a, ov')) hov (by show b ∈ ov'.hid a; rw [hid']; exact List.mem_append_left _ hn)
    · obtain ⟨o, ho⟩ := I.own.there hb
      exact ⟨o, hk _ _ hn ho⟩
def setXIn (K : Frag) (C : Addr) (x : Str) : Bool := findIn K (.ref C) "__setattr__" == some (some (.builtin "object.__setattr__")) && plainX K C && takerIn K C x == some none && hasDictIn K C
/-- a field of a new exception is set: the first -/
theorem setX0 {a C : Addr} {x : Str} {v : Value} {d : AV} {mm : Option Str} {Q E} (I : Inv G S r g σ s) (hσ : σ.own = own ++ (a, .exc0 C mm) :: rest) (hs : setXIn G.K C x = true) (Rv : RelV g v d)
    (hQ : ∀ s' dx, Post G S r g σ s g ⟨σ.loc, own ++ (a, .exc C dx mm [(x, d)]) :: rest⟩ s' → Q () s') : wpAny (model G.prog G.w) r.A (setAttr (.ref a) x v) Q E s := by
  unfold setXIn at hs
  simp only [Bool.and_eq_true, beq_iff_eq] at hs
  obtain ⟨⟨⟨s1, s2⟩, s3⟩, s4⟩ := hs
  have z := I.own.at_ (a, .exc0 C mm) (by rw [hσ]; simp)
  dsimp only at z
  cases z with
  | exc0 h1 h2 h3 h4 h5 h6 h7 hm =>
    rename_i o vs v0
    have IA : InstAt s.heap a o C none := ⟨h1, h2, by unfold notCls; rw [h4], by rw [h3]; trivial⟩
    refine set_plain I.KIn IA s1 ?_
    refine osa_new (s := { s with toks := s.toks + 1 }) I.KIn IA h4 h3 s2 s3 s4 ?_
    have hne : a ≠ s.heap.objs.size := Nat.ne_of_lt (Heap.lt_size h1)
    obtain ⟨oc, od, odt, osl⟩ := o
    cases h4; cases h2; cases h3
    have hx1 := Heap.get?_push_of_some emptyD h1
    have hd1 : ((s.heap.push emptyD).update a fun o => { o with dict := some s.heap.objs.size }).get? s.heap.objs.size = some emptyD := by
      rw [Heap.get?_update_other _ _ hne]; exact Heap.get?_push_size _ rfl
    refine hQ _ _ (Post.widenOwn (d := s.heap.objs.size) (ov' := .exc C s.heap.objs.size mm [(x, d)]) I hσ rfl (none_size _) (fun b o n e => ?_) (.exc (n := putN x [] 0) (o := { cls := .ref C, dict := some s.heap.objs.size, data := .fields vs, slots := osl }) ?_ rfl rfl rfl h5 h6 h7 hm ?_ (RelE.put (t := s.toks + 1) (hs := PyData.keyHash G.w.params x) Rv .nil)) _)
    · have h1' : s.heap.objs.size ≠ b := fun z => by rw [← z, none_size] at e; cases e
      have h2' : a ≠ b := fun z => n (by rw [← z]; exact .head _)
      unfold hNew
      rw [Heap.get?_update_other _ _ h1', Heap.get?_update_other _ _ h2']
      exact Heap.get?_push_of_some _ e
    · unfold hNew
      rw [Heap.get?_update_other _ _ (Ne.symm hne)]
      exact Heap.get?_update_self _ hx1 rfl
    · exact (Heap.get?_update_self _ hd1 rfl).trans (by rw [show Obj.putName x (PyData.keyHash G.w.params x) (.str x (s.toks + 1)) v emptyD = dictOf _ _ from putName_dict x _ _ _ [] 0])
/-- a field of a new exception is set, behind the first -/
theorem setX {a C dx : Addr} {fs : List (Str × AV)} {x : Str} {v : Value} {d : AV} {mm : Option Str} {Q E} (I : Inv G S r g σ s) (hσ : σ.own = own ++ (a, .exc C dx mm fs) :: rest) (hs : setXIn G.K C x = true) (hz : fs.length < 900) (Rv : RelV g v d)
    (hQ : ∀ s', Post G S r g σ s g ⟨σ.loc, own ++ (a, .exc C dx mm (fput x d fs)) :: rest⟩ s' → Q () s') : wpAny (model G.prog G.w) r.A (setAttr (.ref a) x v) Q E s := by
  unfold setXIn at hs
  simp only [Bool.and_eq_true, beq_iff_eq] at hs
  obtain ⟨⟨⟨s1, s2⟩, s3⟩, s4⟩ := hs
  have z := I.own.at_ (a, .exc C dx mm fs) (by rw [hσ]; simp)
  dsimp only at z
  cases z with
  | exc h1 h1c h1d h1t v0 v1 v2 hm h2 R =>
    rename_i o vs es n w0
    obtain ⟨m, hm', hl⟩ := I.loc
    have hin : ∀ b ∈ (OV.exc C dx mm fs).hid a, b ∈ hid σ.own := fun b hb => mem_hid (p := (a, .exc C dx mm fs)) (by rw [hσ]; simp) hb
    have nL : dx ≠ r.L := I.own_ne (hin dx (.tail _ (.head _)))
    have naL : a ≠ r.L := I.own_ne (hin a (.head _))
    have nad : a ≠ dx := by
      have nd := I.own.nd
      rw [hσ, hid_append] at nd
      have := (List.nodup_append.mp (List.nodup_append.mp nd).2.1).1
      intro e
      simp [OV.hid, e] at this
    have N : News {} r.L s.heap ([] ++ (dx, dictOf es n) :: (allN s.heap r.L).filter (·.1 ≠ dx)) := fun p hp => by
      rcases List.mem_cons.mp hp with rfl | hp
      · exact ⟨h2, nL, emp_none _⟩
      · exact allN_news _ _ p (List.mem_filter.mp hp).1
    have IA : InstAt s.heap a o C (some (dictOf es n)) := ⟨h1, h1c, by unfold notCls; rw [h1t], by rw [h1d]; exact h2⟩
    refine set_plain I.KIn IA s1 ?_
    refine osa_dictX (s := { s with toks := s.toks + 1 }) (m := m) (od' := dictOf (putL x (PyData.keyHash G.w.params x) (.str x (s.toks + 1)) v es) (putN x es n)) (emp_fr hm') N I.KIn IA h1d s2 s3 s4 R.looked (fun _ h => nomatch h) (fun p hp => by simpa using (List.mem_filter.mp hp).2) (putName_dict _ _ _ _ _ _) rfl ?_ fun h' F' N' => ?_
    · rw [(RelE.put (x := x) (t := s.toks + 1) (hs := PyData.keyHash G.w.params x) Rv R).length]
      have : ∀ fs : List (Str × AV), (fput x d fs).length ≤ fs.length + 1 := by
        intro fs
        induction fs with
        | nil => exact Nat.le_refl _
        | cons p q ih =>
          obtain ⟨y, e⟩ := p
          rw [fput]
          split
          · exact Nat.le_succ _
          · rw [List.length_cons, List.length_cons]; omega
      have := this fs
      omega
    · have hR := RelE.put (x := x) (t := s.toks + 1) (hs := PyData.keyHash G.w.params x) Rv R
      have hd := (N' _ (.head _)).1
      refine hQ _ (Post.setOwnL (ov' := .exc C dx mm (fput x d fs)) I hl F'.ns hσ rfl (fun b o n1 n2 e => ?_) (.exc ?_ h1c h1d h1t v0 v1 v2 hm hd hR) _)
      · refine (N' (b, o) (.tail _ (List.mem_filter.mpr ⟨allN_mem e n2, ?_⟩))).1
        have : b ≠ dx := fun z => n1 (by rw [z]; exact .tail _ (.head _))
        simpa using this
      · refine (N' (a, o) (.tail _ (List.mem_filter.mpr ⟨allN_mem h1 naL, ?_⟩))).1
        simpa using nad
theorem ES_AssignAttrX0 {o e : Expr} {x : Str} {p p' : Pos} (h : EV G S σ e (fun d σ1 => EV G S σ1 o (fun ao σ2 => ∃ a own rest C mm, ao = .own a ∧ σ2.own = own ++ (a, .exc0 C mm) :: rest ∧ setXIn G.K C x = true ∧ ∀ dx, kf .next ⟨σ2.loc, own ++ (a, .exc C dx mm [(x, d)]) :: rest⟩) kx) kx)
    (hs : ∀ env : Env, env.scope = S.scope → swapsWith e (some (.Attribute o x p')) p.line env = pure false := by intro env _; rfl) : ES G S σ (.Assign [.Attribute o x p'] e p) kf kx := fun r g s I Q E hk hx => by
  refine plainObj_wpAny_Assign_Attribute (h r g s I _ _ (fun v s1 g1 d σ1 P1 R1 q1 => ?_) hx) (hs _ rfl)
  refine q1 r g1 s1 P1.inv _ _ (fun vo s2 g2 ao σ2 P2 R2 q2 => ?_) fun e s' g' x σ' P T => hx e s' g' x σ' (P1.trans P) (T.back fun _ => P1.back)
  obtain ⟨a, own, rest, C, mm, rfl, hσ, hset, q⟩ := q2
  cases R2
  exact setX0 P2.inv hσ hset (R1.mono P2.grow) fun s' dx P => hk _ _ _ _ _ ((P1.trans P2).trans P) .next (q dx)
theorem ES_AssignAttrX {o e : Expr} {x : Str} {p p' : Pos} (h : EV G S σ e (fun d σ1 => EV G S σ1 o (fun ao σ2 => ∃ a own rest C dx mm fs, ao = .own a ∧ σ2.own = own ++ (a, .exc C dx mm fs) :: rest ∧ setXIn G.K C x = true ∧ fs.length < 900 ∧ kf .next ⟨σ2.loc, own ++ (a, .exc C dx mm (fput x d fs)) :: rest⟩) kx) kx)
    (hs : ∀ env : Env, env.scope = S.scope → swapsWith e (some (.Attribute o x p')) p.line env = pure false := by intro env _; rfl) : ES G S σ (.Assign [.Attribute o x p'] e p) kf kx := fun r g s I Q E hk hx => by
  refine plainObj_wpAny_Assign_Attribute (h r g s I _ _ (fun v s1 g1 d σ1 P1 R1 q1 => ?_) hx) (hs _ rfl)
  refine q1 r g1 s1 P1.inv _ _ (fun vo s2 g2 ao σ2 P2 R2 q2 => ?_) fun e s' g' x σ' P T => hx e s' g' x σ' (P1.trans P) (T.back fun _ => P1.back)
  obtain ⟨a, own, rest, C, dx, mm, fs, rfl, hσ, hset, hz, q⟩ := q2
  cases R2
  exact setX P2.inv hσ hset hz (R1.mono P2.grow) fun s' P => hk _ _ _ _ _ ((P1.trans P2).trans P) .next q
end
end Mine
end
/-! Lg30 -/
section
open PySem PySem.Calls PyProof.Rows
open PySem.W
namespace Mine
/-- the names that a call binds, in the order of the rule's places -/
inductive LocL (g : Heap) (bs : List (Str × Value)) (sc : Scope) : List Str → List (Option AV) → Prop
  | nil : LocL g bs sc [] []
  | skip {x : Str} {xs : List Str} {l : List (Option AV)} : LocL g bs sc xs l → LocL g bs sc (x :: xs) (none :: l)
  | cons {x : Str} {xs : List Str} {l : List (Option AV)} {v : Value} {a : AV} : bs.reverse.lookup x = some v → RelV g v a → sc.names.lookup x = some .local → LocL g bs sc xs l → LocL g bs sc (x :: xs) (some a :: l)
theorem LocL.get {g : Heap} {bs : List (Str × Value)} {sc : Scope} : ∀ {xs : List Str} {l : List (Option AV)}, LocL g bs sc xs l → ∀ (i : Nat) (x : Str) (a : AV), xs[i]? = some x → l[i]? = some (some a) → sc.names.lookup x = some .local ∧ ∃ v, bs.reverse.lookup x = some v ∧ RelV g v a
  | _, _, .nil, i, x, a, h1, h2 => by simp at h1
  | _, _, .skip r, 0, x, a, h1, h2 => by simp at h2
  | _, _, .skip r, i + 1, x, a, h1, h2 => LocL.get r i x a (by simpa using h1) (by simpa using h2)
  | _, _, .cons e R q r, 0, x, a, h1, h2 => by
    simp at h1 h2; subst h1; subst h2; exact ⟨q, _, e, R⟩
  | _, _, .cons e R q r, i + 1, x, a, h1, h2 => LocL.get r i x a (by simpa using h1) (by simpa using h2)
theorem LocL.names {g : Heap} {bs : List (Str × Value)} {sc : Scope} : ∀ {xs : List Str} {l : List (Option AV)}, LocL g bs sc xs l → ∀ (x : Str), x ∈ xs → True := fun _ _ _ => trivial
def defName : Stmt → Str
  | .FunctionDef n _ _ _ _ _ _ _ _ _ => n
  | _ => ""
def defArgs : Stmt → Arguments
  | .FunctionDef _ a _ _ _ _ _ _ _ _ => a
  | _ => default
def defBody : Stmt → List Stmt
  | .FunctionDef _ _ b _ _ _ _ _ _ _ => b
  | .ClassDef _ _ _ b _ _ _ _ _ _ _ => b
  | _ => []
def defScope : Stmt → Scope
  | .FunctionDef _ _ _ _ _ _ s _ _ _ => s
  | _ => default
def funcIn (K : Frag) (f : Addr) : Option FuncData := match K.lookup f with
  | some ⟨_, _, .func fd, _⟩ => some fd
  | _ => none
/-- the function of a def stands at f in the fragment -/
structure FnAt (K : Frag) (f : Addr) (d : Stmt) (qual : Str) (sc : Scope) (cl : List (Str × Addr)) (dV cdv : Value) : Prop where
  some : (funcIn K f).isSome = true
  eq : funcIn K f = (funcIn K f).map fun fd => fnX (defName d) qual (defArgs d) (defBody d) sc cl dV fd.kwdefaults fd.doc fd.pyModule fd.annotations cdv fd.closureTuple
  code : codeIn K cdv qual = true
theorem FnAt.get {K : Frag} {f : Addr} {d : Stmt} {qual : Str} {sc : Scope} {cl : List (Str × Addr)} {dV cdv : Value} (x : FnAt K f d qual sc cl dV cdv) :
    ∃ oc od osl kV doc pm an ct, K.lookup f = Option.some ⟨oc, od, .func (fnX (defName d) qual (defArgs d) (defBody d) sc cl dV kV doc pm an cdv ct), osl⟩ ∧ codeIn K cdv qual = true := by
  obtain ⟨h1, h2, h3⟩ := x
  cases e : funcIn K f with
  | none => rw [e] at h1; cases h1
  | some fd =>
    rw [e] at h2
    have h2 := Option.some.inj h2
    unfold funcIn at e
    split at e
    · rename_i oc od fd' osl hl
      cases e
      exact ⟨oc, od, osl, fd.kwdefaults, fd.doc, fd.pyModule, fd.annotations, fd.closureTuple, hl.trans (congrArg (fun z => Option.some (⟨oc, od, .func z, osl⟩ : Obj)) h2), h3⟩
    · cases e
/-- what a call binds -/
def Binds (G : Gb) (d : Stmt) (qual : Str) (sc : Scope) (cl : List (Str × Addr)) (dV cdv : Value) (as : List AV) (kw : List (Str × AV)) (names : List Str) (loc : List (Option AV)) : Prop :=
  ∀ (g : Heap) (s : Shared) (vs ws : List Value), G.K.In s.heap → RelL g vs as → RelL g ws (kw.map (·.2)) → ∃ binds, (∀ kV doc pm an ct, BindsTo s (fnX (defName d) qual (defArgs d) (defBody d) sc cl dV kV doc pm an cdv ct) ⟨vs, (kw.map (·.1)).zip ws⟩ binds) ∧
    (∀ y ∈ binds, sc.names.lookup y.1 = some .local) ∧ LocL g binds sc names loc
section
variable {G : Gb} {S : St} {r : Rt} {g g' : Heap} {σ : AS} {s s' : Shared} {k : AV → AS → Prop} {kx : AX → AS → Prop} {kf : AF → AS → Prop} {ds es : List AV} {own rest : List (Addr × OV)} {bd : List Stmt} {D : Lv}
theorem Fn_d {f : Addr} {d : Stmt} {qual : Str} {sc : Scope} {cl : List (Str × Addr)} {dV cdv : Value} {as : List AV} {kw : List (Str × AV)} {names : List Str} {loc : List (Option AV)}
    {K : AV → List (Addr × OV) → Prop} {KX : AX → List (Addr × OV) → Prop}
    (ho : FnAt G.K f d qual sc cl dV cdv) (hD : D.n < recursionLimit) (hbind : Binds G d qual sc cl dV cdv as kw names loc)
    (hb : EX G ⟨qual, sc, f, cdv, names, D.up, false⟩ ⟨loc, own⟩ (defBody d) (EndF own K) (EndX own KX))
    (hcell : ∀ x ∈ sc.names, x.2 ≠ .cell := by decide) (hnd : names.Nodup := by decide) (hloc : ∀ x ∈ names, sc.names.lookup x = some .local := by decide) (hk : sc.kind = .function := by rfl) (hco : sc.isCoroutine = false := by rfl) (hgen : sc.isGenerator = false := by rfl) :
    Fn G D (.ref f) as kw own K KX := by
  obtain ⟨oc, od, osl, kV, doc, pm, an, ct, h1, h2⟩ := ho.get
  refine Fn_def h1 h2 hD (fun g s vs ws X R1 R2 => ?_) hb hcell hnd hloc hk hco hgen
  obtain ⟨binds, b1, b2, b3⟩ := hbind g s vs ws X R1 R2
  exact ⟨binds, b1 _ _ _ _ _, b2, fun i x a h1 h2 => (b3.get i x a h1 h2).2⟩
/-- a def whose text uses super(): the name «__class__» lies in a cell -/
theorem Fn_dA {f : Addr} {d : Stmt} {qual : Str} {sc : Scope} {cc : Addr} {dV cdv cv : Value} {as : List AV} {kw : List (Str × AV)} {names : List Str} {loc : List (Option AV)}
    {K : AV → List (Addr × OV) → Prop} {KX : AX → List (Addr × OV) → Prop}
    (ho : FnAt G.K f d qual sc [("__class__", cc)] dV cdv) (hcc : ∃ oc od osl, G.K.lookup cc = some ⟨oc, od, .cell (some cv), osl⟩) (hD : D.n < recursionLimit) (hbind : Binds G d qual sc [("__class__", cc)] dV cdv as kw names loc)
    (hb : XAt G ⟨qual, sc, f, cdv, ("__class__" : Str) :: names, D.up, false⟩ ⟨some (.v cv) :: loc, own⟩ (defBody d) (defBody d) (EndF own K) (EndX own KX))
    (hcell : ∀ x ∈ sc.names, x.2 ≠ .cell := by decide) (hfree : sc.names.lookup ("__class__" : Str) = some .free := by rfl) (hnd : (("__class__" : Str) :: names).Nodup := by decide) (hk : sc.kind = .function := by rfl) (hco : sc.isCoroutine = false := by rfl) (hgen : sc.isGenerator = false := by rfl) :
    Fn G D (.ref f) as kw own K KX := by
  obtain ⟨oc, od, osl, kV, doc, pm, an, ct, h1, h2⟩ := ho.get
  intro A l g s vs ws C R1 R2 R hR hX
  have st : G.base.StaysIn s.heap := fun b o e => C.stay _ _ (C.base _ _ e)
  have X : G.K.In s.heap := C.ok.K.keeps st
  obtain ⟨binds, b1, b2, b3⟩ := hbind g s vs ws X R1 R2
  refine ks_codeAny_call_defAt (fd := fnX (defName d) qual (defArgs d) (defBody d) sc [("__class__", cc)] dV kV doc pm an cdv ct) (body := defBody d) (binds := binds) (Nat.lt_of_le_of_lt C.dep hD) (X _ _ h1) rfl (C.ok.nolimit.keeps st) (codeRec_of X h2) rfl (b1 _ _ _ _ _) hcell b2 (fun h₀ hns hk₀ => ?_) hco hgen hk
  have g0 : g.get? s.heap.objs.size = none := C.stay.fresh
  refine fn_runAt (f := f) (qual := qual) (cl := [("__class__", cc)]) C rfl hk₀ hns hk hnd (fun _ _ e => e) (fun _ _ _ e => e) (fun b o e => hk₀ _ _ (C.stay _ _ e)) g0 (fun i x a hi ha => ?_) hb hR hX
  cases i with
  | zero =>
    simp at hi ha
    subst hi; subst ha
    obtain ⟨oc', od', osl', hc⟩ := hcc
    exact ⟨cv, .inr ⟨.inr hfree, cc, rfl, ⟨_, C.base _ _ (C.ok.K _ _ hc), rfl⟩⟩, .v _⟩
  | succ i =>
    obtain ⟨q, v, hv, Rv⟩ := b3.get i x a (by simpa using hi) (by simpa using ha)
    exact ⟨v, .inl ⟨q, hv⟩, Rv⟩
/-- the values of a def's defaults -/
theorem binds_dflt {K : Frag} {T : Addr} {items : Array Value} {s : Shared} (hT : ∃ oc od osl n, K.lookup T = some ⟨oc, od, .seq items n, osl⟩) (X : K.In s.heap) {fd : FuncData} {args : Args} {binds : List (Str × Value)} {k : Option (Array Value) → Sem (List (Str × Value))}
    (hd : fd.defaults = .ref T) (h₁ : bindArgs fd args = seqItems? fd.defaults >>= k) (h₂ : k (some items) = pure binds) : BindsTo s fd args binds := by
  obtain ⟨oc, od, osl, n, h⟩ := hT
  exact BindsTo.of_defaults hd (X _ _ h) rfl h₁ h₂
end
end Mine
end
/-! Lg31 -/
section
open PySem PySem.Calls PyProof.Rows
open PySem.W
namespace Mine
section
variable {G : Gb} {S : St} {r : Rt} {g g' : Heap} {σ : AS} {s s' : Shared} {k : AV → AS → Prop} {kx : AX → AS → Prop} {kf : AF → AS → Prop} {kb : Bool → AS → Prop} {ds es : List AV} {own rest : List (Addr × OV)} {D : Lv}
theorem TU_int {a : Int} (h : kb (a != 0) σ) : TU G S σ (.int a) kb kx := fun r g s I va Ra Q E hk _ => by
  cases Ra; exact PyProof.Rows.truthy_int (hk _ _ _ _ _ (.refl I) rfl h)
theorem TU_str {x : Str} (hz : x.length ≤ sizeLine) (h : kb ((x.length : Int) != 0) σ) : TU G S σ (.str x) kb kx := fun r g s I va Ra Q E hk _ => by
  cases Ra; exact P.truthy_str (by rw [sizeLine_eq] at hz; omega) (hk _ _ _ _ _ (.toks I _) rfl h)
theorem TU_list (hz : ds.length ≤ sizeLine) (h : kb (decide (ds ≠ [])) σ) : TU G S σ (.list ds) kb kx := fun r g s I va Ra Q E hk _ => by
  cases Ra with
  | list ha Ra =>
  refine wpAny_truthy_list (IsList.mono I.stay ha) (by rw [sizeLine_eq] at hz; rw [List.size_toArray, Ra.length]; omega) (hk _ _ _ _ _ (.toks I _) ?_ h)
  have hl := Ra.length
  rename_i us
  show (!us.toArray.isEmpty) = decide (ds ≠ [])
  cases ds with
  | nil => cases us with
    | nil => rfl
    | cons _ _ => cases hl
  | cons d ds => cases us with
    | nil => cases hl
    | cons _ _ => simp
/-- an object whose class says nothing of its truth -/
theorem TU_obj {C : Addr} {fs : List (Str × AV)} (hs : findIn G.K (.ref C) "__bool__" = some none) (hl : findIn G.K (.ref C) "__len__" = some none) (h : kb true σ) : TU G S σ (.obj C fs) kb kx := fun r g s I va Ra Q E hk _ => by
  cases Ra with
  | obj h1 h2 R =>
  have X := I.KIn
  have IA := instAt_obj (I.stay _ _ h1) (I.stay _ _ h2)
  unfold truthy
  refine wpAny_bind (m := callSpecial? (.ref _) (Str.ofString "__bool__")) (wpAny_bind (wpAny_bind (IA.type.here ((looks_findIn X hs).here (wpAny_pure ?_)))))
  refine wpAny_bind (wpAny_bind (IA.type.here ((looks_findIn X hl).here ?_)))
  exact wpAny_pure (hk _ _ _ _ _ (.refl I) rfl h)
theorem EV_Fmt {e : Expr} {p : Pos} (h : EV G S σ e (fun a σ1 => (∃ n : Int, a = .int n ∧ n.natAbs.log2 < 1920 ∧ k (.str (toString n)) σ1) ∨ (∃ x : Str, a = .str x ∧ x.length ≤ sizeLine ∧ k (.str x) σ1)) kx) : EV G S σ (.FormattedValue e (-1) none p) k kx := fun r g s I Q E hk hx => by
  refine FormattedValue_plain (h r g s I _ _ (fun v s1 g1 a σ1 P1 R1 q => ?_) hx)
  rcases q with ⟨n, rfl, hn, q⟩ | ⟨x, rfl, hn, q⟩
  · cases R1
    exact formatField_int_small hn (hk _ _ _ _ _ (P1.trans (.toks P1.inv _)) (.str _ _) q)
  · cases R1
    exact formatField_str (fun t' tk => hk _ _ _ _ _ (P1.trans (.toks P1.inv _)) (.str _ _) q) hn
theorem in1_cinv {A : Around} {l : List Env} {D D' : Lv} {g : Heap} {own : List (Addr × OV)} {s : Shared} (C : CInv G A l D g own s) (hD : D.up.le D') : CInv G A.in1 l D' g own s :=
  ⟨C.ok, C.frames, C.stay, C.base, C.ff, C.ownok, C.apart, C.bare, C.os, Nat.le_trans C.dep (Nat.le_trans (Nat.le_succ _) hD.1), by have := C.un; have h : D.n + 1 ≤ D'.n := hD.1; show A.units + 1 ≤ _; omega, fun q => C.hd (hD.2 q), C.hx⟩
/-- a contract used one step within a built-in function -/
theorem fnIn1 {f : Addr} {as : List AV} {vs : List Value} {K : AV → Prop} {Q : Value → Shared → Prop} {E : Value → Shared → Prop} (hF : Fn G D (.ref f) as [] [] (fun a own' => own' = [] ∧ K a) (fun _ _ => False)) (I : Inv G S r g σ s) (hD : S.D.up.le D) (R : RelL g vs as)
    (hq : ∀ v s' g' a, Post G S r g σ s g' σ s' → RelV g' v a → K a → Q v s') : wpAny (model G.prog G.w) r.A.in1 (call (.ref f) vs []) Q E s := by
  have C0 := I.cinv (own := []) (rest := σ.own) (D := S.D) rfl ⟨Nat.le_refl _, id⟩
  refine wpAny_call (hF r.A.in1 _ g s vs [] (in1_cinv C0 hD) R .nil _ (fun v s' g' a own' P Rv q => ?_) fun e s' g' x own' P T q => q.elim)
  obtain ⟨rfl, q⟩ := q
  have P' : CPost G r.A (stk S r) S.D g [] s g' [] s' :=
    ⟨⟨P.inv.ok, C0.frames, P.inv.stay, P.inv.base, P.inv.ff, P.inv.ownok, P.inv.apart, P.inv.bare, P.inv.os, C0.dep, C0.un, C0.hd, C0.hx.mono P.grow⟩, P.grow, P.only, P.ext, P.fr, P.same, P.gens⟩
  exact hq v s' g' a (Post.of_cpost I (own := []) (rest := σ.own) rfl P') Rv q
theorem len_body {prog : Program} {w : World} {A : Around} {E : Value → Shared → Prop} {s : Shared} {K : Frag} {x C f : Addr} {ox : Obj} {od : Option Obj} {Q : Value → Shared → Prop} (X : K.In s.heap) (I : InstAt s.heap x ox C od) (hs : findIn K (.ref C) "__len__" = some (some (.ref f))) (hf : isFn K (.ref f) = true)
    (h : wpAny (model prog w) A.in1 (call (.ref f) [.ref x]) (W.LenBack Q) E s) : wpAny (model prog w) A.in1 (Builtin.«len» ⟨[.ref x], []⟩) (fun fin s' => ∃ v, fin = .done (.ret v) ∧ Q v s') E s := by
  unfold Builtin.«len»
  refine wpAny_bind (m := oneArg "len" _) (wpAny_pure ?_)
  refine wpAny_bind (m := callSpecial? (.ref x) (Str.ofString "__len__")) (special_fn X I hs (beq_iff_eq.mp hf) (wpAny_mono h (fun r s' hr => ?_) fun _ _ y => y))
  cases r <;> first | exact hr.elim | skip
  rename_i n u
  obtain ⟨⟨h0, h1⟩, hq⟩ := hr
  refine wpAny_bind (wpAny_holding (wpAny_pure ?_))
  refine wpAny_bind (wpAny_letGo ?_)
  show wpAny _ _ (if n < 0 then _ else _) _ _ _
  rw [if_neg (by omega)]
  show wpAny _ _ (if n ≥ 2 ^ 63 then _ else _) _ _ _
  rw [if_neg (by omega)]
  exact wpAny_bind (wpAny_mkInt (wpAny_pure ⟨_, rfl, hq⟩))
/-- len of an object whose class has its own __len__ -/
theorem CV_len_obj {C f : Addr} {fs : List (Str × AV)} {n : Nat} (hs : findIn G.K (.ref C) "__len__" = some (some (.ref f))) (hf : isFn G.K (.ref f) = true) (hD : S.D.up.le D) (hF : Fn G D (.ref f) [.obj C fs] [] [] (fun a own' => own' = [] ∧ a = .int n) (fun _ _ => False)) (hn : n < 2 ^ 63)
    (h : k (.int n) σ) : CV G S σ (.builtin "len") [.obj C fs] [] k kx := fun r g s I vs ws R1 R2 Q E hk _ => by
  cases R2
  obtain _ | ⟨Ra, _ | _⟩ := R1
  cases Ra with
  | obj h1 h2 R =>
  refine Calls.call_function_entry kind_len plain_len entry_len (args_len1 _) ?_
  refine len_body I.KIn (instAt_obj (I.stay _ _ h1) (I.stay _ _ h2)) hs hf ?_
  refine fnIn1 (K := fun a => a = .int n) hF I hD (.cons (.obj h1 h2 R) .nil) fun v s' g' a P Rv q => ?_
  subst q
  cases Rv
  exact ⟨⟨by omega, by omega⟩, hk _ _ _ _ _ (P.trans (.toks P.inv _)) (.int _ _) h⟩
theorem TU_obj_len {C f : Addr} {fs : List (Str × AV)} {n : Nat} (hb : findIn G.K (.ref C) "__bool__" = some none) (hs : findIn G.K (.ref C) "__len__" = some (some (.ref f))) (hf : isFn G.K (.ref f) = true) (hD : S.D.up.le D) (hF : Fn G D (.ref f) [.obj C fs] [] [] (fun a own' => own' = [] ∧ a = .int n) (fun _ _ => False)) (hn : n < 2 ^ 63)
    (h : kb ((n : Int) != 0) σ) : TU G S σ (.obj C fs) kb kx := fun r g s I va Ra Q E hk _ => by
  cases Ra with
  | obj h1 h2 R =>
  have X := I.KIn
  have IA := instAt_obj (I.stay _ _ h1) (I.stay _ _ h2)
  unfold truthy
  refine wpAny_bind (m := callSpecial? (.ref _) (Str.ofString "__bool__")) (wpAny_bind (wpAny_bind (IA.type.here ((looks_findIn X hb).here (wpAny_pure ?_)))))
  refine wpAny_bind (wpAny_bind (IA.type.here ((looks_findIn X hs).here ?_)))
  show wpAny _ _ (if (some (Value.ref f)).isNone = true then pure true else _) _ _ _
  rw [if_neg (by simp)]
  refine wpAny_bind (wpAny_runValue (codeAny_builtin entry_len ?_))
  rw [Around.under_plainId plain_len _]
  refine wpAny_mono (len_body (Q := fun v s' => ∃ t, v = .int n t ∧ ∃ g', Post G S r g σ s g' σ s') X IA hs hf ?_) (fun fin s' hfin => ?_) fun _ _ e => e
  · refine fnIn1 (K := fun a => a = .int n) hF I hD (.cons (.obj h1 h2 R) .nil) fun v s' g' a P Rv q => ?_
    subst q
    cases Rv
    exact ⟨⟨by omega, by omega⟩, _, rfl, _, P.trans (.toks P.inv _)⟩
  · obtain ⟨v, rfl, t, rfl, g', P⟩ := hfin
    exact wpAny_pure (hk _ _ _ _ _ P rfl h)
end
end Mine
end
/-! Lg32 -/
section
open PySem PySem.Calls PyProof.Rows
open PySem.W
namespace Mine
section
variable {G : Gb} {S : St} {r : Rt} {g g' : Heap} {σ : AS} {s s' : Shared} {k : AV → AS → Prop} {kx : AX → AS → Prop} {kf : AF → AS → Prop} {kb : Bool → AS → Prop} {ds es : List AV} {own rest : List (Addr × OV)} {D : Lv}
/-- isinstance of an object and a tuple of classes -/
def ownCls (K : Frag) (C : Addr) : Bool := plainGet K C "__class__" && hasDictIn K C && findIn K (.ref C) "__class__" == some (some (.builtin "object.__class__")) && specialIn K (.builtin "object.__class__") "__get__" == some (some (.builtin "getset_descriptor.__get__")) && takesIn K (.builtin "object.__class__") == some true && mroIn K C (.type "object") == some true
theorem RelL.vs : ∀ {cs : List Value} {vs : List Value}, RelL g vs (cs.map AV.v) → vs = cs
  | [], _, .nil => rfl
  | c :: cs, _, .cons (.v _) R => by rw [RelL.vs R]
theorem CV_isi_obj {C : Addr} {fs : List (Str × AV)} {cs : List Value} {b : Bool} (ho : ownCls G.K C = true) (e : kitAny G.K (.ref C) cs = some b) (h : k (.bool b) σ) : CV G S σ (.builtin "isinstance") [.obj C fs, .tuple (cs.map .v)] [] k kx := fun r g s I vs ws R1 R2 Q E hk _ => by
  cases R2
  obtain _ | ⟨Ra, _ | ⟨Rb, _ | _⟩⟩ := R1
  cases Ra with
  | obj h1 h2 R =>
  cases Rb with
  | tuple hb Rb =>
  have := RelL.vs Rb
  subst this
  unfold ownCls at ho
  simp only [Bool.and_eq_true, beq_iff_eq] at ho
  obtain ⟨⟨⟨⟨⟨o1, o2⟩, o3⟩, o4⟩, o5⟩, o6⟩ := ho
  exact kia_tup (kitx_own o1 o2 o3 o4 o5 o6) I.KIn (instAt_obj (I.stay _ _ h1) (I.stay _ _ h2)) (I.stay _ _ hb) e nofun fun tk => hk _ _ _ _ _ (.toks I tk) (.bool _) h
/-- a try whose body raises nothing -/
theorem ES_TryPlain {body : List Stmt} {h₀ : ExceptHandler} {hs : List ExceptHandler} {p : Pos} (hb : EX G S σ body kf (fun _ _ => False)) : ES G S σ (.Try body (h₀ :: hs) [] [] p) kf kx := fun r g s I₀ Q E hk hx => by
  refine wpAny_Try_except (hb r g s I₀ _ _ (fun fl s1 g1 f σ1 P1 Rf q1 => ?_) fun e s1 g1 x σx P1 T1 q1 => q1.elim)
  cases Rf with
  | next => exact wpAny_execs_nil (hk _ _ _ _ _ P1 .next q1)
  | brk => exact hk _ _ _ _ _ P1 .brk q1
  | cont => exact hk _ _ _ _ _ P1 .cont q1
  | ret R => exact hk _ _ _ _ _ P1 (.ret R) q1
/-- a global name whose value is known in full -/
theorem EV_globA {x : Str} {p : Pos} {v : Value} {a : AV} (hx : S.scope.names.lookup x = some .globalImplicit) (e : nsIn G.K mainGlobals x = some (some v)) (ha : RelV G.base v a) (h : k a σ) (hd : (x == ("__debug__" : Str)) = false := by decide) : EV G S σ (.Name x p) k kx := fun r g s I Q E hk _ => by
  obtain ⟨mg, hg⟩ := I.ok.glob
  have st : G.base.StaysIn s.heap := fun b o q => I.stay _ _ (I.base _ _ q)
  exact Name_function_global I.fun_ hx (loadGlobal_global (env := envE S r) (hg.keeps st) (mg_of I.ok.K hg e) (hk _ _ _ _ _ (.refl I) (ha.mono I.base) h)) hd
theorem TruthOf_bools {prog : Program} {w : World} {A : Around} (bs : List Bool) : TruthOf prog w A (fun i v => (bs.map Value.bool).toArray[i]? = some v) (fun i => bs.getD i false) := fun i v s Q E hP hQ => by
  have hP : (bs.map Value.bool).toArray[i]? = some v := hP
  have hQ : Q (bs.getD i false) s := hQ
  rw [List.getElem?_toArray, List.getElem?_map] at hP
  cases e : bs[i]? with
  | none => rw [e] at hP; cases hP
  | some b =>
    rw [e] at hP
    cases hP
    rw [List.getD_eq_getElem?_getD, e] at hQ
    exact wpAny_truthy_bool hQ
theorem RelL.bools : ∀ {bs : List Bool} {vs : List Value}, RelL g vs (bs.map AV.bool) → vs = bs.map .bool
  | [], _, .nil => rfl
  | c :: cs, _, .cons (.bool _) R => by rw [RelL.bools R]; rfl
theorem any_range (bs : List Bool) : (List.range bs.length).any (fun i => bs.getD i false) = bs.any id := by
  have : (List.range bs.length).map (fun i => bs.getD i false) = bs := by
    apply List.ext_getElem
    · simp
    · intro i h1 h2
      simp [List.getD_eq_getElem?_getD, h2]
  have h2 := congrArg (fun l => List.any l id) this
  rw [List.any_map] at h2
  exact h2
/-- any of a tuple of truths -/
theorem CV_any (hq : S.D.q = true) {bs : List Bool} (h : k (.bool (bs.any id)) σ) : CV G S σ (.builtin "any") [.tuple (bs.map .bool)] [] k kx := fun r g s I vs ws R1 R2 Q E hk _ => by
  cases R2
  obtain _ | ⟨Ra, _ | _⟩ := R1
  cases Ra with
  | tuple ha Ra =>
  have := RelL.bools Ra
  subst this
  have hT : s.heap.IsTuple _ _ := IsTup.isTuple (tup_is (I.stay _ _ ha))
  have hlt := Heap.lt_size (I.stay _ _ ha)
  refine call_any_walk (wpAny_pyIter_tuple hT ?_)
  refine ⟨_, _, _, _, _, _, _, rfl, Walks.tuple (A := r.A.in1) (I.hd hq) s.heap.objs.size _ (Nat.ne_of_lt hlt) (bs.map Value.bool).toArray, ⟨⟨_, Heap.get?_push_size _ rfl, rfl, rfl⟩, hT.push _⟩, TruthOf_bools bs, fun h' tk hh => ?_⟩
  obtain ⟨g', P⟩ := Post.kept I (h' := h') (fun b o e => hh b o (fun hm => by rw [List.mem_singleton.mp hm, none_size] at e; cases e) (Heap.get?_push_of_some _ e)) tk
  rw [show (bs.map Value.bool).toArray.size = bs.length from by simp, any_range]
  exact hk _ _ _ _ _ P (.bool _) h
/-! rows and octets are never the same -/
theorem sub_list_bytes : isSubtype (.type "list") (.type "bytes") = pure false := by rw [isSubtype_type]; kernel_rfl
theorem sub_bytes_list : isSubtype (.type "bytes") (.type "list") = pure false := by rw [isSubtype_type]; kernel_rfl
theorem list_eq_declines_bytes (l : Addr) (items : Array Value) (n : Nat) (dd : Option Addr) (sl : Array (Option Value)) (b : Array UInt8) (u : Tok) :
    Meets (Builtin.«list.__eq__» ⟨[.ref l, .bytes b u], []⟩) (fun _ R s => s.heap.get? l = some { cls := .type "list", dict := dd, data := .seq items n, slots := sl } ∧ R (.ok (.ret .notImplemented)) s) :=
  .of_wp fun prog w A R s h => by obtain ⟨hp, g, d, tk, os⟩ := s; obtain ⟨hl, h⟩ := h; have f1 := sub_bytes_list; wp_walk using wpAny_loadPart' hl; exact ⟨_, rfl, h⟩
theorem bytes_eq_declines_list (b : Array UInt8) (u : Tok) (l : Addr) (items : Array Value) (n : Nat) (dd : Option Addr) (sl : Array (Option Value)) :
    Meets (Builtin.«bytes.__eq__» ⟨[.bytes b u, .ref l], []⟩) (fun _ R s => s.heap.get? l = some { cls := .type "list", dict := dd, data := .seq items n, slots := sl } ∧ R (.ok (.ret .notImplemented)) s) :=
  .of_wp fun prog w A R s h => by
    obtain ⟨hp, g, d, tk, os⟩ := s
    obtain ⟨hl, h⟩ := h
    have f1 := sub_list_bytes
    wp_walk using wpAny_loadPart' hl
    exact ⟨_, rfl, h⟩
theorem slot_bytes_eq_refl : Slot "bytes" (cmpInfo .Eq).2.2 "bytes.__eq__" :=
  .of (owner := "bytes") (n := "__eq__") (by rw [typeLookup_type, builtinLookup_eq_fast]; kernel_rfl) (by decide +kernel) (by decide +kernel) (by decide +kernel)
    (by first | exact .inl (by decide +kernel) | exact .inr (by decide +kernel)) (by rw [isSubtype_type]; kernel_rfl)
theorem CO_list_bytes {b : Array UInt8} (h : k (.bool false) σ) (hn : 10 * S.D.n < cLine) : CO G S σ .Eq (.list ds) (.bytes b) k kx := fun r g s I va vb Ra Rb Q E hk _ => by
  cases Ra with
  | list ha Ra =>
  cases Rb with
  | bytes _ u =>
  obtain ⟨⟨cls, dd, data, sl⟩, ho, hc, n, hd⟩ := IsList.mono I.stay ha
  simp only at hc hd
  subst hc hd
  show wpAny _ _ (richCompare .Eq _ _) _ _ _
  exact SeqAt.rc_eq_decline_or (k := false) ⟨_, ho, rfl⟩ (typeIs_bytes s b u) (by decide) sub_bytes_list F.slot_list_eq slot_bytes_eq_refl
    (fun _ hq => call_meets F.slot_list_eq ⟨_, ho, rfl⟩ F.entry_list_eq (F.args_list_eq_2 _ _) (list_eq_declines_bytes _ _ n dd sl b u) ⟨ho, hq⟩)
    (fun _ hq => call_meets slot_bytes_eq_refl (typeIs_bytes s b u) FB.entry_bytes_eq (FB.args_bytes_eq_2 _ _) (bytes_eq_declines_list b u _ _ n dd sl) ⟨ho, hq⟩)
    (fun _ hq => wpAny_of_eq (rfl : isSame (.ref _) (.bytes b u) = pure false) hq) (.inr (Nat.lt_of_le_of_lt I.un hn)) (hk _ _ _ _ _ (.refl I) (.bool _) h)
theorem CO_none_ne (h : k (.bool false) σ) : CO G S σ .NotEq .none .none k kx := fun r g s I va vb Ra Rb Q E hk _ => by
  cases Ra; cases Rb
  exact SeqAt.RcNeAt.none_none G.prog G.w E Q (hk _ _ _ _ _ (.refl I) (.bool _) h)
end
end Mine
end
/-! Lg33 -/
section
open PySem PySem.Calls PyProof.Rows
open PySem.W
namespace Mine
section
variable {G : Gb} {S : St} {r : Rt} {g g' : Heap} {σ : AS} {s s' : Shared} {k : AV → AS → Prop} {kx : AX → AS → Prop} {kf : AF → AS → Prop} {kb : Bool → AS → Prop} {ds es : List AV} {own rest : List (Addr × OV)} {D : Lv}
/-- the class method int.from_bytes, fetched -/
theorem getFB {K : Frag} {prog : Program} {w : World} {A : Around} {E : Value → Shared → Prop} {pl : Sem Bool} {Q : Value × List Value → Shared → Prop} (X : K.In s.heap)
    (e : findCls K (.type "int") (.type "type") "from_bytes" = some (.get (.builtin "classmethod_descriptor.__get__") (.builtin "int.from_bytes") .none (.type "int")))
    (h : Q (.ref s.heap.objs.size, []) { s with heap := s.heap.push KFB.bound, toks := s.toks + 1 }) : wpAny (model prog w) A (getMethod (.type "int") "from_bytes" pl) Q E s := by
  have hstub : opaqueClassAbove (.type "int") = pure none := by unfold opaqueClassAbove; dsimp only; rw [show Manifest.isStub "int" = false by decide +kernel]; rfl
  have L0 : Looks (model prog w) s.heap (typeOf (.type "int")) (.type "type") := Looks.of_pure (by kernel_rfl)
  have hg : findIn K (.type "type") "__getattribute__" = some (some (.builtin "type.__getattribute__")) := type_tga
  unfold getMethod specialOf
  refine wpAny_bind (wpAny_bind (L0.here ((looks_findIn X hg).here ?_)))
  dsimp only
  rw [if_pos canon_tga]
  refine wpAny_bind (wpAny_mono (Q := fun v => Q (v, [])) (E := E) ?_ (fun _ _ z => wpAny_pure z) fun _ _ z => z)
  refine cls_open X (Looks.of_pure hstub) L0 hg (looks_hook X (r := none) (by rfl)) (by show subIn K _ _ = _; rfl) e ?_
  show wpAny _ _ (holding [.builtin "int.from_bytes"] (call (.builtin "classmethod_descriptor.__get__") [.builtin "int.from_bytes", .none, .type "int"]) >>= fun v => ret v) _ _ _
  exact wpAny_bind (wpAny_holding (wpAny_call_entry KFB.slot_get KFB.type_fb KFB.entry_get (KFB.run_get ⟨_, rfl, wpAny_pure (wpAny_pure h)⟩) (KFB.args_get _ _ _)))
theorem looks_bfm {M : Model} {h : Heap} {b : Addr} (e : h.get? b = some KFB.bound) : Looks M h (keeperOf (.ref b)) .machine := by
  unfold keeperOf
  refine (Looks.ld (part := none) e).andThen ?_
  simp only [KFB.bound, show (Value.type "builtin_function_or_method" != Value.type "method") = true by decide, show (Value.type "builtin_function_or_method" == Value.type "builtin_function_or_method" || Value.type "builtin_function_or_method" == Value.type "method-wrapper") = true by decide, if_true]
  exact .now
/-- int.from_bytes(octets, 'big') -/
theorem EV_fromBytes {o : Expr} {ap p : Pos} {args : List Expr}
    (e : findCls G.K (.type "int") (.type "type") "from_bytes" = some (.get (.builtin "classmethod_descriptor.__get__") (.builtin "int.from_bytes") .none (.type "int")))
    (h : EV G S σ o (fun a σ1 => a = .v (.type "int") ∧ EL G S σ1 p args (fun as σ2 => ∃ b : Array UInt8, as = [.bytes b, .str "big"] ∧ b.size ≤ 8 ∧ k (.int (KFB.value (KBw.bInts b))) σ2) kx) kx) (hp : plains args = true := by rfl)
    (he : ∀ env, eval (.Call (.Attribute o "from_bytes" ap) args [] p) env = (do
      let ov ← eval o env
      standAt ap.atName
      let (f, first) ← holding [ov] (getMethod ov "from_bytes" (do return (← importBound o env).getD true))
      callWith p f first (backTo p (starEach args env)) (backToKw p (keywordEach [] env))) := by intro env; rfl) : EV G S σ (.Call (.Attribute o "from_bytes" ap) args [] p) k kx := fun r g s I Q E hq hx => by
  refine methodCall_KW (h r g s I _ _ (fun va s1 g1 a σ1 P1 R1 h1 => ?_) hx) (he _)
  obtain ⟨rfl, h1⟩ := h1
  cases R1
  refine getFB P1.inv.KIn e ?_
  obtain ⟨g2, P2, hb⟩ := Post.alloc P1.inv KFB.bound rfl (s1.toks + 1)
  have P12 := P1.trans P2
  refine callWithP (first := []) (fun h st _ => ⟨_, .inr (.inl rfl), looks_bfm (st _ _ hb)⟩) P12.inv h1 hp (fun vs s3 g3 as σ3 P3 R3 q => ?_) fun e s' g' x σ' P T => hx e s' g' x σ' (P12.trans P) (T.back fun _ => P12.back)
  obtain ⟨b, rfl, hz, q⟩ := q
  obtain _ | ⟨Ra, _ | ⟨Rb, _ | _⟩⟩ := R3
  cases Ra; cases Rb
  exact KFB.call_of (P3.inv.stay _ _ (P3.grow _ _ hb)) (fun z => KFB.tree_big hz z) (hq _ _ _ _ _ ((P12.trans P3).trans (.toks P3.inv _)) (.int _ _) q)
/-- a class method of an own class -/
def cmIn (K : Frag) (C : Addr) (x : Str) (f : Addr) : Bool := specialIn K (.ref C) "__getattribute__" == some (some (.builtin "type.__getattribute__")) && typeIn K (.ref C) == some (.type "type") && readsIn K C (.type "type") && fnIn K f &&
  (match findIn K (.ref C) x with
    | some (some (.ref q)) => match recIn K q "classmethod" with
      | some (.ref f' :: _) => f' == f
      | _ => false
    | _ => false)
theorem getCM {K : Frag} {prog : Program} {w : World} {A : Around} {E : Value → Shared → Prop} {pl : Sem Bool} {Q : Value × List Value → Shared → Prop} {C f q : Addr} {x : Str} (X : K.In s.heap) (hc : cmIn K C x f = true)
    (e : findCls K (.ref C) (.type "type") x = some (.get (.builtin "classmethod.__get__") (.ref q) .none (.ref C))) (hq : findIn K (.ref C) x = some (some (.ref q)))
    (h : Q (.ref s.heap.objs.size, []) { s with heap := s.heap.push { cls := .type "method", data := .fields #[.ref f, .ref C] }, toks := s.toks + 1 }) : wpAny (model prog w) A (getMethod (.ref C) x pl) Q E s := by
  unfold cmIn at hc
  simp only [Bool.and_eq_true, beq_iff_eq] at hc
  obtain ⟨⟨⟨⟨c1, c2⟩, c3⟩, c4⟩, c5⟩ := hc
  rw [hq] at c5
  dsimp only at c5
  split at c5
  · rename_i f' rest hr
    have := beq_iff_eq.mp c5
    subst this
    exact method_cls X c1 (cls_bind X c3 e (wpAny_call (cm_get (s := { s with toks := s.toks + 1 }) X hr (handed_on rfl h))))
  · cases c5
theorem EV_clsMeth {o : Expr} {x : Str} {ap p : Pos} {args : List Expr} {C f q : Addr} (hc : cmIn G.K C x f = true)
    (e : findCls G.K (.ref C) (.type "type") x = some (.get (.builtin "classmethod.__get__") (.ref q) .none (.ref C))) (hq : findIn G.K (.ref C) x = some (some (.ref q))) (hle : S.D.le D)
    (h : EV G S σ o (fun a σ1 => a = .v (.ref C) ∧ EL G S σ1 p args (fun as σ2 => ∃ own rest K, Fn G D (.ref f) (.v (.ref C) :: as) [] own K (fun _ _ => False) ∧ σ2.own = own ++ rest ∧ ∀ a own', hid own ⊆ hid own' → K a own' → k a ⟨σ2.loc, own' ++ rest⟩) kx) kx) (hp : plains args = true := by rfl)
    (he : ∀ env, eval (.Call (.Attribute o x ap) args [] p) env = (do
      let ov ← eval o env
      standAt ap.atName
      let (f, first) ← holding [ov] (getMethod ov x (do return (← importBound o env).getD true))
      callWith p f first (backTo p (starEach args env)) (backToKw p (keywordEach [] env))) := by intro env; rfl) : EV G S σ (.Call (.Attribute o x ap) args [] p) k kx := fun r g s I Q E hk hx => by
  refine methodCall_KW (h r g s I _ _ (fun va s1 g1 a σ1 P1 R1 h1 => ?_) hx) (he _)
  obtain ⟨rfl, h1⟩ := h1
  cases R1
  have hfn := hc
  unfold cmIn at hfn
  simp only [Bool.and_eq_true, beq_iff_eq] at hfn
  obtain ⟨of, fd, hof, hfc, hfd⟩ := fnIn_at I.ok.K hfn.1.2
  refine getCM P1.inv.KIn hc e hq ?_
  obtain ⟨g2, P2, hb⟩ := Post.alloc P1.inv { cls := .type "method", data := .fields #[.ref f, .ref C] } rfl (s1.toks + 1)
  have P12 := P1.trans P2
  refine callWithP (first := []) (fun h st X' => ⟨_, .inr (.inr rfl), looks_bound (st _ _ hb) (st _ _ (P12.grow _ _ (I.base _ _ hof))) hfd⟩) P12.inv h1 hp (fun vs s3 g3 as σ3 P3 R3 q => ?_) fun e s' g' x σ' P T => hx e s' g' x σ' (P12.trans P) (T.back fun _ => P12.back)
  have hb3 := P3.inv.stay _ _ (P3.grow _ _ hb)
  obtain ⟨own, rest, K, hF, hσ, q⟩ := q
  refine wpAny_call (ks_codeAny_call_bound hb3 ?_)
  refine hF r.A _ g3 s3 (.ref C :: vs) [] (P3.inv.cinv hσ hle) (.cons (.v _) R3) .nil _ (fun v s' g' a own' P' R q' => ?_) fun e s' g' x own' P T q => q.elim
  exact hk _ _ _ _ _ ((P12.trans P3).trans (Post.of_cpost P3.inv hσ P')) R (q a own' P'.same.1 q')
end
end Mine
end
/-! Lg34 -/
section
open PySem PySem.Calls PyProof.Rows
open PySem.W
namespace Mine
section
variable {G : Gb} {S : St} {r : Rt} {g g' : Heap} {σ : AS} {s s' : Shared} {k : AV → AS → Prop} {kx : AX → AS → Prop} {kf : AF → AS → Prop} {kb : Bool → AS → Prop} {ds es : List AV} {own rest : List (Addr × OV)} {D : Lv}
open Builtin Builtin.Str Builtin.BaseException Builtin.Exceptions in
/-- the words of an own exception -/
theorem str_exc {prog : Program} {w : World} {A : Around} {E : Value → Shared → Prop} {Q : Value → Shared → Prop} {K : Frag} {x t C : Addr} {oe : Obj} {vs : Array Value} {m : Str} {tk : Tok} (hu : A.in1.in1.units < cLine) (X : K.In s.heap)
    (he : s.heap.get? x = some oe) (hc : oe.cls = .ref C) (hd : oe.data = .fields vs) (h0 : vs[0]? = some (.ref t)) (ht : s.heap.TupAt t [.str m tk])
    (hs : findIn K (.ref C) "__str__" = some (some (.builtin "BaseException.__str__"))) (hm : mroIn K C (.type "BaseException") = some true) (hq : Q (.str m tk) s) : wpAny (model prog w) A (call (.type "str") [.ref x]) Q E s := by
  have T : Looks (model prog w) s.heap (typeOf (.ref x)) (.ref C) := hc ▸ (Looks.ld he).andThen .now
  refine callType_codes (T := "str") (Bi := Builtin.«object.__init__») (Q₁ := fun r s₁ => ∃ y u, r = .str y u ∧ Q r s₁) PySem.F.called_str (PySem.F.typeCall_str_1 _) PySem.F.entry_object_init ?_ ?_
  · refine codeAny_of_tree ?_
    show wpAny _ A.in1.in1 (do checkBuiltinCall "str.__new__" ⟨[.type "str", .ref x], []⟩; again (.builtin "str.__new__" ⟨[.type "str", .ref x], []⟩)) _ _ s
    refine wpAny_bind (wpAny_of_eq (PySem.F.newCall_str_1 _) (wpAny_pure ⟨plainId_quiet (by decide +kernel) _, codeAny_builtin PySem.F.entry_str_new ?_⟩))
    rw [Around.under_plainId (by decide +kernel) _]
    rw [str_new_tree]
    refine wpAny_bind (wpAny_pure ?_)
    refine wpAny_bind (wpAny_of_eq isSubtype_str_str ?_)
    have key : wpAny (model prog w) A.in1.in1 (PySem.Builtin.Str.strOf (.ref x)) (fun r s₁ => ∃ y u, r = .str y u ∧ Q r s₁) E s := by
      unfold PySem.Builtin.Str.strOf
      rw [show isExactStr (.ref x) = false from rfl]
      refine wpAny_bind (m := cRoomFor _ _) (wpAny_cRoomFor hu ?_)
      refine wpAny_bind (m := callSpecial? (.ref x) (Str.ofString "__str__")) ?_
      refine wpAny_bind (wpAny_bind (T.here ((looks_findIn X hs).here (wpAny_holding (wpAny_bind ((Looks.of_pure (PySem.F.excStr_Exception.str.bind _)).here (wpAny_bind ?_)))))))
      refine wpAny_call (codeAny_call_builtin PySem.F.excStr_Exception.str.plain F.entry_bexc_str (check_slot (i := "BaseException.__str__") (owner := "BaseException") (n := "__str__") (by decide +kernel) (by decide +kernel) (T.andThen (looks_mroIn X hm)) (F.args_bexc_str _) ?_))
      obtain ⟨ot, kk, hto, _, htd⟩ := ht
      unfold Builtin.«BaseException.__str__»
      have key2 : ∀ {A' : Around} {E' : Value → Shared → Prop} {Q' : Value × List Value → Shared → Prop}, Q' (.ref t, [.str m tk]) s → wpAny (model prog w) A' (bexcArgs (.ref x)) Q' E' s := fun {A' E' Q'} hQ => by
        unfold bexcArgs
        exact wpAny_bind (wpAny_field he hd h0 (wpAny_bind (wpAny_seqItems hto htd (wpAny_pure hQ))))
      repeat (first | with_reducible refine key2 ?_ | wp_step)
      exact ⟨_, _, rfl, hq⟩
    exact wpAny_bind (wpAny_mono key (fun r s₁ hr => wpAny_pure hr) fun _ _ y => y)
  · rintro obj s₁ ⟨y, u, rfl, hq⟩
    exact ⟨typeIs_str _ _ _, PySem.F.args_object_init_2 _ _, object_init_meets PySem.F.called_str.init.lookup PySem.F.called_str.made (by decide) prog w A.in1 _ s₁ ⟨typeIs_str _ _ _, rfl, hq⟩⟩
theorem CV_str_exc {C : Addr} {m : Str} (hs : findIn G.K (.ref C) "__str__" = some (some (.builtin "BaseException.__str__"))) (hm : mroIn G.K C (.type "BaseException") = some true) (hn : 10 * S.D.n + 2 < cLine) (h : k (.str m) σ) : CV G S σ (.type "str") [.exc C m] [] k kx := fun r g s I vs ws R1 R2 Q E hk _ => by
  cases R2
  obtain _ | ⟨Ra, _ | _⟩ := R1
  cases Ra with
  | exc h1 h2 h3 h4 h5 h6 h7 =>
  exact str_exc (show r.A.units + 1 + 1 < cLine by have := I.un; omega) I.KIn (I.stay _ _ h1) h2 h3 h4 (h5.keeps I.stay) hs hm (hk _ _ _ _ _ (.refl I) (.str _ _) h)
end
end Mine
end
/-! Lg35 -/
section
open PySem PySem.Calls PyProof.Rows
open PySem.W
namespace Mine
section
variable {G : Gb} {S : St} {r : Rt} {g g' : Heap} {σ : AS} {s s' : Shared} {k : AV → AS → Prop} {kx : AX → AS → Prop} {kf : AF → AS → Prop} {kb : Bool → AS → Prop} {ds es : List AV} {own rest : List (Addr × OV)} {D : Lv}
theorem tup2_at {prog : Program} {w : World} {A : Around} {E : Value → Shared → Prop} {q : Addr} {a b : Int} {ta tb t L : Tok} {Q : Value → Shared → Prop} (e : s.heap.get? q = some { cls := .type "tuple", data := .seq #[.int a ta, .int b tb] }) (hq : q ≠ L)
    (ha0 : 0 ≤ a) (ha1 : a < 1000000) (hb0 : 0 ≤ b) (hb1 : b < 1000000) (h : ∀ t' k, Q (.str ("Serializing list length (" ++ toString a ++ ") does not match sedes (" ++ toString b ++ ")" : Str) t') { s with toks := k }) :
    wpAny (model prog w) A (binaryOp .Mod (.str "Serializing list length (%d) does not match sedes (%d)" t) (.ref q)) Q E s := by
  have hla : a.natAbs.log2 < 1920 := by
    by_cases h0 : a.natAbs = 0
    · rw [h0]; decide
    · exact (Nat.log2_lt h0).mpr (Nat.lt_of_lt_of_le (by omega : a.natAbs < 2 ^ 20) (Nat.pow_le_pow_right (by decide) (by decide)))
  have hlb : b.natAbs.log2 < 1920 := by
    by_cases h0 : b.natAbs = 0
    · rw [h0]; decide
    · exact (Nat.log2_lt h0).mpr (Nat.lt_of_lt_of_le (by omega : b.natAbs < 2 ^ 20) (Nat.pow_le_pow_right (by decide) (by decide)))
  refine' KPt.mod_tuple (allN_news s.heap L) (allN_mem e hq) ?kptF ?kptm ?_
  case kptF => kpt_eq
  case kptm => kpt_run
  exact h
theorem tup2_atD {prog : Program} {w : World} {A : Around} {E : Value → Shared → Prop} {q : Addr} {a b : Int} {ta tb t L : Tok} {Q : Value → Shared → Prop} (e : s.heap.get? q = some { cls := .type "tuple", data := .seq #[.int a ta, .int b tb] }) (hq : q ≠ L)
    (ha0 : 0 ≤ a) (ha1 : a < 1000000) (hb0 : 0 ≤ b) (hb1 : b < 1000000) (h : ∀ t' k, Q (.str ("Deserializing list length (" ++ toString a ++ ") does not match sedes (" ++ toString b ++ ")" : Str) t') { s with toks := k }) :
    wpAny (model prog w) A (binaryOp .Mod (.str "Deserializing list length (%d) does not match sedes (%d)" t) (.ref q)) Q E s := by
  have hla : a.natAbs.log2 < 1920 := by
    by_cases h0 : a.natAbs = 0
    · rw [h0]; decide
    · exact (Nat.log2_lt h0).mpr (Nat.lt_of_lt_of_le (by omega : a.natAbs < 2 ^ 20) (Nat.pow_le_pow_right (by decide) (by decide)))
  have hlb : b.natAbs.log2 < 1920 := by
    by_cases h0 : b.natAbs = 0
    · rw [h0]; decide
    · exact (Nat.log2_lt h0).mpr (Nat.lt_of_lt_of_le (by omega : b.natAbs < 2 ^ 20) (Nat.pow_le_pow_right (by decide) (by decide)))
  refine' KPt.mod_tuple (allN_news s.heap L) (allN_mem e hq) ?kptF ?kptm ?_
  case kptF => kpt_eq
  case kptm => kpt_run
  exact h
theorem BO_pctS {a b : Nat} (ha : a < 1000000) (hb : b < 1000000) (h : k (.str ("Serializing list length (" ++ toString (a : Int) ++ ") does not match sedes (" ++ toString (b : Int) ++ ")" : Str)) σ) : BO G S σ .Mod (.str "Serializing list length (%d) does not match sedes (%d)") (.tuple [.int a, .int b]) k kx := fun r g s I va vb Ra Rb Q E hk _ => by
  cases Ra
  cases Rb with
  | tuple hq Rq =>
  obtain _ | ⟨R1, _ | ⟨R2, _ | _⟩⟩ := Rq
  cases R1; cases R2
  exact tup2_at (L := _ + 1) (I.stay _ _ hq) (Nat.ne_of_lt (Nat.lt_succ_self _)) (by omega) (by omega) (by omega) (by omega) fun t' tk => hk _ _ _ _ _ (.toks I tk) (.str _ _) h
theorem BO_pctD {a b : Nat} (ha : a < 1000000) (hb : b < 1000000) (h : k (.str ("Deserializing list length (" ++ toString (a : Int) ++ ") does not match sedes (" ++ toString (b : Int) ++ ")" : Str)) σ) : BO G S σ .Mod (.str "Deserializing list length (%d) does not match sedes (%d)") (.tuple [.int a, .int b]) k kx := fun r g s I va vb Ra Rb Q E hk _ => by
  cases Ra
  cases Rb with
  | tuple hq Rq =>
  obtain _ | ⟨R1, _ | ⟨R2, _ | _⟩⟩ := Rq
  cases R1; cases R2
  exact tup2_atD (L := _ + 1) (I.stay _ _ hq) (Nat.ne_of_lt (Nat.lt_succ_self _)) (by omega) (by omega) (by omega) (by omega) fun t' tk => hk _ _ _ _ _ (.toks I tk) (.str _ _) h
end
end Mine
end
/-! Lg36 -/
section
open PySem PySem.Calls PyProof.Rows
open PySem.W
namespace Mine
/-- a zip object between two of its turns, whether its own tuple is out or not -/
def ZipG (h : Heap) (z TI TO : Addr) : Prop := ∃ f0 f1, (f0 = .none ∨ ∃ a : Addr, f0 = rawInt a) ∧ (∃ b, f1 = .bool b) ∧
  h.get? z = some { cls := .type "zip", dict := none, data := .fields #[f0, f1, .bool false, .ref TI, .ref TO], slots := #[] }
theorem ZipG.typeIs {s : Shared} {z TI TO : Addr} (x : ZipG s.heap z TI TO) : s.TypeIs (.ref z) "zip" := let ⟨_, _, _, _, h⟩ := x; ⟨_, h, rfl⟩
theorem ZipG.at {h h' : Heap} {z TI TO : Addr} (x : ZipG h z TI TO) (k : ∀ o, h.get? z = some o → h'.get? z = some o) : ZipG h' z TI TO := let ⟨f0, f1, a, b, e⟩ := x; ⟨f0, f1, a, b, k _ e⟩
section
variable {prog : Program} {w : World} {A : Around} {E : Value → Shared → Prop} {s : Shared}
theorem aliveAny {M : Model} {a : Addr} {Q : Option Obj → Shared → Prop} (h : Q (s.heap.get? a) s) : wpAny M A (loadIfAlive a) Q E s := fun Γ p _ => h
theorem zfree {z TI TO : Addr} {Q : Bool → Shared → Prop} (hz : ZipG s.heap z TI TO) (hQ : ∀ b h', ZipG h' z TI TO → Heap.SameBut z s.heap h' → Q b { s with heap := h' }) : wpAny (model prog w) A (Builtin.SmallTypes.ownedTupleIsFree (.ref z)) Q E s := by
  have hz' := hz
  obtain ⟨f0, f1, h0, h1, hz⟩ := hz
  have same : Heap.SameBut z s.heap s.heap := ⟨rfl, fun _ _ => rfl⟩
  unfold Builtin.SmallTypes.ownedTupleIsFree
  refine wpAny_bind (wpAny_field hz rfl (x := f0) rfl ?_)
  rcases h0 with rfl | ⟨a, rfl⟩
  · exact wpAny_pure (hQ true _ hz' same)
  · obtain ⟨b, rfl⟩ := h1
    refine wpAny_bind (aliveAny ?_)
    split
    · exact wpAny_pure (hQ true _ hz' same)
    · refine wpAny_bind (wpAny_field hz rfl (x := .bool b) rfl ?_)
      split
      · refine wpAny_bind (wpAny_setField_rec hz (by simp) fun h₁ hz₁ hs₁ => ?_)
        exact wpAny_pure (hQ false _ ⟨_, _, .inr ⟨a, rfl⟩, ⟨true, rfl⟩, hz₁⟩ hs₁)
      · exact wpAny_pure (hQ false _ hz' same)
/-- what a zip of two rows stands at -/
structure ZipSt (h : Heap) (z TI TO i1 i2 l1 l2 : Addr) (xs ys : Array Value) (k : Nat) : Prop where
  z : ZipG h z TI TO
  TI : IsPair h TI (.ref i1) (.ref i2)
  TO : ∃ a b, IsPair h TO a b
  i1 : h.IsListIter i1 l1 k
  i2 : h.IsListIter i2 l2 k
  l1 : h.IsList l1 xs
  l2 : h.IsList l2 ys
theorem ZipSt.at {h h' : Heap} {z TI TO i1 i2 l1 l2 : Addr} {xs ys : Array Value} {k : Nat} (x : ZipSt h z TI TO i1 i2 l1 l2 xs ys k) (q : ∀ b ∈ [z, TI, TO, i1, i2, l1, l2], ∀ o, h.get? b = some o → h'.get? b = some o) : ZipSt h' z TI TO i1 i2 l1 l2 xs ys k := by
  obtain ⟨a, b, ⟨c1, c2, c⟩, d, e, f, g⟩ := x
  exact ⟨a.at fun o z => q _ (by simp) o z, q _ (by simp) _ b, ⟨c1, c2, q _ (by simp) _ c⟩, d.at fun o e => q _ (by simp) o e, e.at fun o e => q _ (by simp) o e, f.at fun o e => q _ (by simp) o e, g.at fun o e => q _ (by simp) o e⟩
theorem zip_nextG {z TI TO i1 i2 l1 l2 : Addr} {k : Nat} {xs ys : Array Value} {x y : Value} {Q : Value → Shared → Prop} (D : ZipApart z TI TO i1 i2 l1 l2) (Z : ZipSt s.heap z TI TO i1 i2 l1 l2 xs ys k) (hx : xs[k]? = some x) (hy : ys[k]? = some y)
    (hQ : ∀ h', ZipSt h' z TI TO i1 i2 l1 l2 xs ys (k + 1) → IsPair h' s.heap.objs.size x y → h'.objs.size = s.heap.objs.size + 1 → (∀ c o, c ≠ z → c ≠ TO → c ≠ i1 → c ≠ i2 → s.heap.get? c = some o → h'.get? c = some o) → Q (.ref s.heap.objs.size) { s with heap := h' }) :
    wpAny (model prog w) A (Builtin.«zip.__next__» ⟨[.ref z], []⟩) (fun fin s' => ∃ v, fin = .done (.ret v) ∧ Q v s') E s := by
  obtain ⟨hz, hTI, ⟨a, b, hTO⟩, h1, h2, hl1, hl2⟩ := Z
  obtain ⟨f0, f1, z0, z1, hz₀⟩ := id hz
  show wpAny _ _ (field (.ref z) 2 >>= _) _ _ _
  refine wpAny_bind (wpAny_field hz₀ rfl (x := .bool false) rfl ?_)
  show wpAny _ _ (field (.ref z) 3 >>= _) _ _ _
  refine wpAny_bind (wpAny_field hz₀ rfl (x := .ref TI) rfl ?_)
  refine wpAny_bind (wpAny_seqItems hTI rfl ?_)
  show wpAny _ _ (Builtin.SmallTypes.ownedTupleIsFree (.ref z) >>= _) _ _ _
  refine wpAny_bind (zfree hz fun fr h₀ hzf hs₀ => ?_)
  obtain ⟨f0, f1, z0, ⟨bb, rfl⟩, hz₀⟩ := hzf
  replace hTO : IsPair h₀ TO a b := hs₀.extBut _ _ D.TOz hTO
  replace hTI : IsPair h₀ TI (.ref i1) (.ref i2) := hs₀.extBut _ _ D.TIz hTI
  replace h1 := h1.extBut hs₀.extBut D.i1z
  replace h2 := h2.extBut hs₀.extBut D.i2z
  replace hl1 := hl1.extBut hs₀.extBut D.l1z
  replace hl2 := hl2.extBut hs₀.extBut D.l2z
  cases fr with
  | true =>
    simp only [if_true]
    refine wpAny_bind (wpAny_rule ?_)
    refine wpAny_bind (wpAny_field hz₀ rfl (x := .ref TO) rfl ?_)
    refine wpAny_bind (wpAny_setField_rec hz₀ (by simp) fun h₁ hz₁ hs₁ => ?_)
    refine wpAny_bind ?_
    simp only [List.zipIdx_cons, List.zipIdx_nil, List.forIn_cons, List.forIn_nil]
    refine wpAny_bind (wpAny_bind (wpAny_onRaise ?_))
    show wpAny _ _ (Builtin.SmallTypes.nextOf (.ref i1) >>= _) _ _ _
    refine wpAny_bind (wpAny_nextOf_list_item (h1.extBut hs₁.extBut D.i1z) (hl1.extBut hs₁.extBut D.l1z) hx fun h₂ h1₂ hs₂ => wpAny_pure ?_)
    have hTO₂ : IsPair h₂ TO a b := hs₂.extBut _ _ D.TOi1 (hs₁.extBut _ _ D.TOz hTO)
    refine wpAny_bind (wpAny_seqItems hTO₂ rfl ?_)
    refine wpAny_bind (wpAny_updateSeq_pair hTO₂ fun h₃ hTO₃ hs₃ => ?_)
    replace hTO₃ : IsPair h₃ TO x b := hTO₃
    refine wpAny_bind (wpAny_letGo (wpAny_pure ?_))
    refine wpAny_bind (wpAny_bind (wpAny_onRaise ?_))
    show wpAny _ _ (Builtin.SmallTypes.nextOf (.ref i2) >>= _) _ _ _
    refine wpAny_bind (wpAny_nextOf_list_item (((h2.extBut hs₁.extBut D.i2z).extBut hs₂.extBut D.i12.symm).extBut hs₃.extBut D.TOi2.symm)
      (((hl2.extBut hs₁.extBut D.l2z).extBut hs₂.extBut D.l2i1).extBut hs₃.extBut D.l2TO) hy fun h₄ h2₄ hs₄ => wpAny_pure ?_)
    have hTO₄ : IsPair h₄ TO x b := hs₄.extBut _ _ D.TOi2 hTO₃
    refine wpAny_bind (wpAny_seqItems hTO₄ rfl ?_)
    refine wpAny_bind (wpAny_updateSeq_pair hTO₄ fun h₅ hTO₅ hs₅ => ?_)
    replace hTO₅ : IsPair h₅ TO x y := hTO₅
    refine wpAny_bind (wpAny_letGo (wpAny_pure (wpAny_pure ?_)))
    refine wpAny_bind (wpAny_seqItems hTO₅ rfl ?_)
    refine wpAny_bind (wpAny_newTuple ?_)
    have hsz : h₅.objs.size = s.heap.objs.size := by rw [hs₅.1, hs₄.1, hs₃.1, hs₂.1, hs₁.1, hs₀.1]
    have hz₅ := hs₅.extBut _ _ D.TOz.symm (hs₄.extBut _ _ D.i2z.symm (hs₃.extBut _ _ D.TOz.symm (hs₂.extBut _ _ D.i1z.symm hz₁)))
    have hk₅ : ∀ c o, c ≠ z → c ≠ TO → c ≠ i1 → c ≠ i2 → h₀.get? c = some o → h₅.get? c = some o := fun c o c1 c2 c3 c4 e =>
      hs₅.extBut _ _ c2 (hs₄.extBut _ _ c4 (hs₃.extBut _ _ c2 (hs₂.extBut _ _ c3 (hs₁.extBut _ _ c1 e))))
    have h1₅ : h₅.IsListIter i1 l1 (k + 1) := ((h1₂.extBut hs₃.extBut D.TOi1.symm).extBut hs₄.extBut D.i12).extBut hs₅.extBut D.TOi1.symm
    have h2₅ : h₅.IsListIter i2 l2 (k + 1) := h2₄.extBut hs₅.extBut D.TOi2.symm
    have hzlt : z < h₅.objs.size := Heap.lt_size hz₅
    show wpAny _ _ (Builtin.SmallTypes.ownedTupleHandOut (.ref z) (.ref h₅.objs.size) >>= _) _ _ _
    refine wpAny_bind ?_
    unfold Builtin.SmallTypes.ownedTupleHandOut
    have hz₆ := Heap.get?_push_of_some { cls := .type "tuple", data := .seq #[x, y] } hz₅
    refine wpAny_bind (wpAny_setField_rec hz₆ (by simp) fun h₇ hz₇ hs₇ => ?_)
    refine wpAny_setField_rec hz₇ (by simp) fun h₈ hz₈ hs₈ => ?_
    have up : ∀ c o, c ≠ z → h₅.get? c = some o → h₈.get? c = some o := fun c o c1 e => hs₈.extBut _ _ c1 (hs₇.extBut _ _ c1 (Heap.get?_push_of_some _ e))
    have hT₈ : IsPair h₈ h₅.objs.size x y := hs₈.extBut _ _ (Nat.ne_of_gt hzlt) (hs₇.extBut _ _ (Nat.ne_of_gt hzlt) (Heap.get?_push_size _ rfl))
    have hz8 : h₈.objs.size = h₅.objs.size + 1 := by rw [hs₈.1, hs₇.1, Heap.size_push]
    have ZG : ZipG h₈ z TI TO := ⟨rawInt h₅.objs.size, .bool false, .inr ⟨_, rfl⟩, ⟨_, rfl⟩, hz₈⟩
    rw [hsz] at hT₈ hz8
    refine wpAny_pure ⟨_, rfl, ?_⟩
    show Q (.ref h₅.objs.size) _
    rw [hsz]
    exact hQ h₈ ⟨ZG, up _ _ D.TIz (hk₅ _ _ D.TIz D.TITO D.TIi1 D.TIi2 hTI), ⟨x, y, up _ _ D.TOz hTO₅⟩, h1₅.at fun o e => up _ o D.i1z e, h2₅.at fun o e => up _ o D.i2z e,
      hl1.at fun o e => up _ o D.l1z (hk₅ _ o D.l1z D.l1TO D.l1i1 D.l1i2 e), hl2.at fun o e => up _ o D.l2z (hk₅ _ o D.l2z D.l2TO D.l2i1 D.l2i2 e)⟩ hT₈ hz8 fun c o c1 c2 c3 c4 e => up c o c1 (hk₅ c o c1 c2 c3 c4 (hs₀.extBut _ _ c1 e))
  | false =>
    simp only [Bool.false_eq_true, if_false]
    refine wpAny_bind (wpAny_arrayLoop ?_)
    show wpAny _ _ (forIn [Value.ref i1, Value.ref i2] _ _) _ _ _
    simp only [List.forIn_cons, List.forIn_nil]
    refine wpAny_bind (wpAny_bind (wpAny_holding ?_))
    show wpAny _ _ (Builtin.SmallTypes.nextOf (.ref i1) >>= _) _ _ _
    refine wpAny_bind (wpAny_nextOf_list_item h1 hl1 hx fun h₂ h1₂ hs₂ => wpAny_pure ?_)
    refine wpAny_pure ?_
    refine wpAny_bind (wpAny_bind (wpAny_holding ?_))
    show wpAny _ _ (Builtin.SmallTypes.nextOf (.ref i2) >>= _) _ _ _
    refine wpAny_bind (wpAny_nextOf_list_item (h2.extBut hs₂.extBut D.i12.symm) (hl2.extBut hs₂.extBut D.l2i1) hy fun h₄ h2₄ hs₄ => wpAny_pure ?_)
    refine wpAny_pure (wpAny_pure ?_)
    show wpAny _ _ (newTuple [x, y] >>= _) _ _ _
    have hsz : h₄.objs.size = s.heap.objs.size := by rw [hs₄.1, hs₂.1, hs₀.1]
    refine wpAny_bind (wpAny_newTuple (wpAny_pure ⟨_, rfl, ?_⟩))
    show Q (.ref h₄.objs.size) _
    rw [hsz]
    have up : ∀ c o, c ≠ i1 → c ≠ i2 → h₀.get? c = some o → (h₄.push { cls := .type "tuple", data := .seq #[x, y] }).get? c = some o := fun c o c1 c2 e => Heap.get?_push_of_some _ (hs₄.extBut _ _ c2 (hs₂.extBut _ _ c1 e))
    have hT := Heap.get?_push_size h₄ (o := { cls := .type "tuple", data := .seq #[x, y] }) rfl
    rw [hsz] at hT
    exact hQ _ ⟨⟨f0, .bool bb, z0, ⟨bb, rfl⟩, up _ _ D.i1z.symm D.i2z.symm hz₀⟩, up _ _ D.TIi1 D.TIi2 hTI, ⟨a, b, up _ _ D.TOi1 D.TOi2 hTO⟩,
      (h1₂.extBut hs₄.extBut D.i12).at fun o e => Heap.get?_push_of_some _ e, h2₄.at fun o e => Heap.get?_push_of_some _ e, hl1.at fun o e => up _ o D.l1i1 D.l1i2 e, hl2.at fun o e => up _ o D.l2i1 D.l2i2 e⟩ hT (by rw [Heap.size_push, hsz])
      fun c o c1 c2 c3 c4 e => up c o c3 c4 (hs₀.extBut _ _ c1 e)
theorem zip_endG {z TI TO i1 i2 l1 l2 : Addr} {k : Nat} {xs ys : Array Value} {Q : Fin → Shared → Prop} (hh : A.handled = none) (D : ZipApart z TI TO i1 i2 l1 l2) (Z : ZipSt s.heap z TI TO i1 i2 l1 l2 xs ys k) (hend : xs[k]? = none ∨ ys[k]? = none)
    (hE : ∀ h' e, (∀ c o, c ≠ z → c ≠ TO → c ≠ i1 → c ≠ i2 → s.heap.get? c = some o → h'.get? c = some o) → (∃ o, h'.get? e = some o ∧ o.cls = .type "StopIteration") → E (.ref e) { s with heap := h' }) :
    wpAny (model prog w) A (Builtin.«zip.__next__» ⟨[.ref z], []⟩) Q E s := by
  obtain ⟨hz, hTI, ⟨a, b, hTO⟩, h1, h2, hl1, hl2⟩ := Z
  obtain ⟨f0, f1, z0, z1, hz₀⟩ := id hz
  show wpAny _ _ (field (.ref z) 2 >>= _) _ _ _
  refine wpAny_bind (wpAny_field hz₀ rfl (x := .bool false) rfl ?_)
  show wpAny _ _ (field (.ref z) 3 >>= _) _ _ _
  refine wpAny_bind (wpAny_field hz₀ rfl (x := .ref TI) rfl ?_)
  refine wpAny_bind (wpAny_seqItems hTI rfl ?_)
  show wpAny _ _ (Builtin.SmallTypes.ownedTupleIsFree (.ref z) >>= _) _ _ _
  refine wpAny_bind (zfree hz fun fr h₀ hzf hs₀ => ?_)
  obtain ⟨f0, f1, z0, ⟨bb, rfl⟩, hz₀⟩ := hzf
  replace hTO : IsPair h₀ TO a b := hs₀.extBut _ _ D.TOz hTO
  replace hTI : IsPair h₀ TI (.ref i1) (.ref i2) := hs₀.extBut _ _ D.TIz hTI
  replace h1 := h1.extBut hs₀.extBut D.i1z
  replace h2 := h2.extBut hs₀.extBut D.i2z
  replace hl1 := hl1.extBut hs₀.extBut D.l1z
  replace hl2 := hl2.extBut hs₀.extBut D.l2z
  cases fr with
  | true =>
    simp only [if_true]
    refine wpAny_bind (wpAny_rule ?_)
    refine wpAny_bind (wpAny_field hz₀ rfl (x := .ref TO) rfl ?_)
    refine wpAny_bind (wpAny_setField_rec hz₀ (by simp) fun h₁ hz₁ hs₁ => ?_)
    refine wpAny_bind ?_
    simp only [List.zipIdx_cons, List.zipIdx_nil, List.forIn_cons, List.forIn_nil]
    refine wpAny_bind (wpAny_bind (wpAny_onRaise ?_))
    show wpAny _ _ (Builtin.SmallTypes.nextOf (.ref i1) >>= _) _ _ _
    cases hx : xs[k]? with
    | none =>
      refine wpAny_bind (wpAny_nextOf_list_end hh (h1.extBut hs₁.extBut D.i1z) (hl1.extBut hs₁.extBut D.l1z) hx fun h₂ e hs₂ he => ?_)
      obtain ⟨oe, hoe, hce⟩ := he
      have hz₂ := hs₂ _ _ D.i1z.symm hz₁
      have hez : e ≠ z := fun x => by subst x; rw [hz₂] at hoe; cases hoe; simp at hce
      refine wpAny_setField_rec hz₂ (by simp) fun h₃ _ hs₃ => hE h₃ e (fun c o c1 _ c3 _ x => hs₃.extBut _ _ c1 (hs₂ _ _ c3 (hs₁.extBut _ _ c1 (hs₀.extBut _ _ c1 x)))) ⟨oe, hs₃.extBut _ _ hez hoe, hce⟩
    | some x =>
      have hy : ys[k]? = none := by rcases hend with h | h; rw [hx] at h; cases h; exact h
      refine wpAny_bind (wpAny_nextOf_list_item (h1.extBut hs₁.extBut D.i1z) (hl1.extBut hs₁.extBut D.l1z) hx fun h₂ h1₂ hs₂ => wpAny_pure ?_)
      have hTO₂ : IsPair h₂ TO a b := hs₂.extBut _ _ D.TOi1 (hs₁.extBut _ _ D.TOz hTO)
      refine wpAny_bind (wpAny_seqItems hTO₂ rfl ?_)
      refine wpAny_bind (wpAny_updateSeq_pair hTO₂ fun h₃ hTO₃ hs₃ => ?_)
      refine wpAny_bind (wpAny_letGo (wpAny_pure ?_))
      refine wpAny_bind (wpAny_bind (wpAny_onRaise ?_))
      show wpAny _ _ (Builtin.SmallTypes.nextOf (.ref i2) >>= _) _ _ _
      refine wpAny_bind (wpAny_nextOf_list_end hh (((h2.extBut hs₁.extBut D.i2z).extBut hs₂.extBut D.i12.symm).extBut hs₃.extBut D.TOi2.symm)
        (((hl2.extBut hs₁.extBut D.l2z).extBut hs₂.extBut D.l2i1).extBut hs₃.extBut D.l2TO) hy fun h₄ e hs₄ he => ?_)
      obtain ⟨oe, hoe, hce⟩ := he
      have hz₄ := hs₄ _ _ D.i2z.symm (hs₃.extBut _ _ D.TOz.symm (hs₂.extBut _ _ D.i1z.symm hz₁))
      have hez : e ≠ z := fun x => by subst x; rw [hz₄] at hoe; cases hoe; simp at hce
      refine wpAny_setField_rec hz₄ (by simp) fun h₅ _ hs₅ => hE h₅ e (fun c o c1 c2 c3 c4 x => hs₅.extBut _ _ c1 (hs₄ _ _ c4 (hs₃.extBut _ _ c2 (hs₂.extBut _ _ c3 (hs₁.extBut _ _ c1 (hs₀.extBut _ _ c1 x)))))) ⟨oe, hs₅.extBut _ _ hez hoe, hce⟩
  | false =>
    simp only [Bool.false_eq_true, if_false]
    refine wpAny_bind (wpAny_arrayLoop ?_)
    show wpAny _ _ (forIn [Value.ref i1, Value.ref i2] _ _) _ _ _
    simp only [List.forIn_cons, List.forIn_nil]
    refine wpAny_bind (wpAny_bind (wpAny_holding ?_))
    show wpAny _ _ (Builtin.SmallTypes.nextOf (.ref i1) >>= _) _ _ _
    cases hx : xs[k]? with
    | none =>
      exact wpAny_bind (wpAny_nextOf_list_end hh h1 hl1 hx fun h₂ e hs₂ he => hE h₂ e (fun c o c1 _ c3 _ x => hs₂ _ _ c3 (hs₀.extBut _ _ c1 x)) he)
    | some x =>
      have hy : ys[k]? = none := by rcases hend with h | h; rw [hx] at h; cases h; exact h
      refine wpAny_bind (wpAny_nextOf_list_item h1 hl1 hx fun h₂ h1₂ hs₂ => wpAny_pure ?_)
      refine wpAny_pure ?_
      refine wpAny_bind (wpAny_bind (wpAny_holding ?_))
      show wpAny _ _ (Builtin.SmallTypes.nextOf (.ref i2) >>= _) _ _ _
      exact wpAny_bind (wpAny_nextOf_list_end hh (h2.extBut hs₂.extBut D.i12.symm) (hl2.extBut hs₂.extBut D.l2i1) hy fun h₄ e hs₄ he => hE h₄ e (fun c o c1 _ c3 c4 x => hs₄ _ _ c4 (hs₂.extBut _ _ c3 (hs₀.extBut _ _ c1 x))) he)
/-! numbered pairs -/
theorem nextOf_zip {z TI TO i1 i2 l1 l2 : Addr} {k : Nat} {xs ys : Array Value} {x y : Value} {Q : Value → Shared → Prop} (D : ZipApart z TI TO i1 i2 l1 l2) (Z : ZipSt s.heap z TI TO i1 i2 l1 l2 xs ys k) (hx : xs[k]? = some x) (hy : ys[k]? = some y)
    (hQ : ∀ h', ZipSt h' z TI TO i1 i2 l1 l2 xs ys (k + 1) → IsPair h' s.heap.objs.size x y → h'.objs.size = s.heap.objs.size + 1 → (∀ c o, c ≠ z → c ≠ TO → c ≠ i1 → c ≠ i2 → s.heap.get? c = some o → h'.get? c = some o) → Q (.ref s.heap.objs.size) { s with heap := h' }) :
    wpAny (model prog w) A (Builtin.SmallTypes.nextOf (.ref z)) Q E s := by
  unfold Builtin.SmallTypes.nextOf
  exact wpAny_bind (wpAny_callSpecial?_slot (name := Str.ofString "__next__") Z.z.typeIs F.slot_zip_next
    (wpAny_call_entry F.slot_zip_next Z.z.typeIs F.entry_zip_next (zip_nextG D Z hx hy fun h' a b c d => wpAny_pure (hQ h' a b c d)) (F.args_zip_next_1 _)))
theorem nextOf_zip_end {z TI TO i1 i2 l1 l2 : Addr} {k : Nat} {xs ys : Array Value} {Q : Value → Shared → Prop} (hh : A.handled = none) (D : ZipApart z TI TO i1 i2 l1 l2) (Z : ZipSt s.heap z TI TO i1 i2 l1 l2 xs ys k) (hend : xs[k]? = none ∨ ys[k]? = none)
    (hE : ∀ h' e, (∀ c o, c ≠ z → c ≠ TO → c ≠ i1 → c ≠ i2 → s.heap.get? c = some o → h'.get? c = some o) → (∃ o, h'.get? e = some o ∧ o.cls = .type "StopIteration") → E (.ref e) { s with heap := h' }) :
    wpAny (model prog w) A (Builtin.SmallTypes.nextOf (.ref z)) Q E s := by
  unfold Builtin.SmallTypes.nextOf
  exact wpAny_bind (wpAny_callSpecial?_slot (name := Str.ofString "__next__") Z.z.typeIs F.slot_zip_next
    (wpAny_call_entry F.slot_zip_next Z.z.typeIs F.entry_zip_next (zip_endG hh D Z hend hE) (F.args_zip_next_1 _)))
theorem enum_zip_next {e z TI TO i1 i2 l1 l2 : Addr} {k : Nat} {xs ys : Array Value} {x y old : Value} {Q : Option Value → Shared → Prop} (D : ZipApart z TI TO i1 i2 l1 l2) (hne : e ∉ [z, TI, TO, i1, i2, l1, l2]) (he : IsEnum s.heap e z k old) (Z : ZipSt s.heap z TI TO i1 i2 l1 l2 xs ys k) (hx : xs[k]? = some x) (hy : ys[k]? = some y)
    (hQ : ∀ h' tk T R, T = s.heap.objs.size → R = s.heap.objs.size + 1 → IsEnumOut h' e z ((k : Int) + 1) (.ref T) R → ZipSt h' z TI TO i1 i2 l1 l2 xs ys (k + 1) → IsPair h' T x y → h'.get? R = some { cls := .type "tuple", data := .seq #[.int k s.toks, .ref T] } →
      (∀ c o, c ≠ e → c ≠ z → c ≠ TO → c ≠ i1 → c ≠ i2 → s.heap.get? c = some o → h'.get? c = some o) → Q (some (.ref R)) { s with heap := h', toks := tk }) :
    wpAny (model prog w) A (pyNext (.ref e)) Q E s := by
  have hT : s.TypeIs (.ref e) "enumerate" := ⟨_, he, rfl⟩
  have hne' := hne
  simp only [List.mem_cons, List.not_mem_nil, or_false, not_or] at hne
  obtain ⟨n1, n2, n3, n4, n5, n6, n7⟩ := hne
  unfold pyNext
  refine wpAny_bind (wpAny_attempt (wpAny_callSpecial?_slot (name := Str.ofString "__next__") hT F.slot_enumerate_next
    (wpAny_call_entry F.slot_enumerate_next hT F.entry_enumerate_next ?_ (F.args_enumerate_next_1 _))))
  show wpAny _ _ (field (.ref e) 2 >>= _) _ _ _
  refine wpAny_bind (wpAny_field he rfl (x := .ref z) rfl ?_)
  refine wpAny_bind (nextOf_zip D Z hx hy fun h₁ Z₁ P₁ sz₁ k₁ => ?_)
  have he₁ : IsEnum h₁ e z k old := k₁ _ _ n1 n3 n4 n5 he
  show wpAny _ _ (field (.ref e) 3 >>= _) _ _ _
  refine wpAny_bind (wpAny_field he₁ rfl (x := rawInt k) rfl ?_)
  show wpAny _ _ (field (.ref e) 4 >>= _) _ _ _
  refine wpAny_bind (wpAny_field he₁ rfl (x := .none) rfl ?_)
  show wpAny _ _ (mkInt k >>= _) _ _ _
  refine wpAny_bind (wpAny_mkInt ?_)
  show wpAny _ _ (setField (.ref e) 3 (rawInt ((k : Int) + 1)) >>= _) _ _ _
  refine wpAny_bind (wpAny_setField_rec he₁ (by simp) fun h₂ he₂ hs₂ => ?_)
  replace he₂ : IsEnum h₂ e z ((k : Int) + 1) old := he₂
  show wpAny _ _ (setField (.ref e) 4 .none >>= _) _ _ _
  refine wpAny_bind (wpAny_setField_rec he₂ (by simp) fun h₃ he₃ hs₃ => ?_)
  replace he₃ : IsEnum h₃ e z ((k : Int) + 1) old := he₃
  show wpAny _ _ (newTuple [.int k s.toks, .ref s.heap.objs.size] >>= _) _ _ _
  refine wpAny_bind (wpAny_newTuple ?_)
  have hsz : h₃.objs.size = s.heap.objs.size + 1 := by rw [hs₃.1, hs₂.1, sz₁]
  have he₄ : IsEnum (h₃.push { cls := .type "tuple", data := .seq #[.int k s.toks, .ref s.heap.objs.size] }) e z ((k : Int) + 1) old := Heap.get?_push_of_some _ he₃
  have hel : e < s.heap.objs.size := Heap.lt_size he
  show wpAny _ _ (Builtin.SmallTypes.ownedTupleIsFree (.ref e) >>= _) _ _ _
  refine wpAny_bind ?_
  unfold Builtin.SmallTypes.ownedTupleIsFree
  refine wpAny_bind (wpAny_field he₄ rfl (x := .none) rfl (wpAny_pure ?_))
  simp only [if_true]
  refine wpAny_bind (wpAny_rule ?_)
  refine wpAny_bind (wpAny_field he₄ rfl (x := old) rfl ?_)
  refine wpAny_bind (wpAny_setField_rec he₄ (by simp) fun h₅ he₅ hs₅ => ?_)
  replace he₅ : IsEnum h₅ e z ((k : Int) + 1) (.ref s.heap.objs.size) := he₅
  show wpAny _ _ (Builtin.SmallTypes.ownedTupleHandOut (.ref e) (.ref h₃.objs.size) >>= _) _ _ _
  refine wpAny_bind ?_
  unfold Builtin.SmallTypes.ownedTupleHandOut
  refine wpAny_bind (wpAny_setField_rec he₅ (by simp) fun h₆ he₆ hs₆ => ?_)
  replace he₆ : IsEnumOut h₆ e z ((k : Int) + 1) (.ref s.heap.objs.size) h₃.objs.size := he₆
  refine wpAny_setField_rec he₆ (by simp) fun h₇ he₇ hs₇ => ?_
  replace he₇ : IsEnumOut h₇ e z ((k : Int) + 1) (.ref s.heap.objs.size) h₃.objs.size := he₇
  have up : ∀ c o, c ≠ e → h₁.get? c = some o → h₇.get? c = some o := fun c o c1 q => hs₇.extBut _ _ c1 (hs₆.extBut _ _ c1 (hs₅.extBut _ _ c1 (Heap.get?_push_of_some _ (hs₃.extBut _ _ c1 (hs₂.extBut _ _ c1 q)))))
  have hR : h₇.get? h₃.objs.size = some { cls := .type "tuple", data := .seq #[.int k s.toks, .ref s.heap.objs.size] } := by
    have ne : h₃.objs.size ≠ e := by rw [hsz]; exact Nat.ne_of_gt (Nat.lt_succ_of_lt hel)
    exact hs₇.extBut _ _ ne (hs₆.extBut _ _ ne (hs₅.extBut _ _ ne (Heap.get?_push_size _ rfl)))
  refine wpAny_bind (wpAny_letGo (wpAny_pure ⟨_, rfl, wpAny_pure ?_⟩))
  exact hQ h₇ _ _ _ rfl hsz he₇ (Z₁.at fun b hb o q => up b o (fun z => hne' (z ▸ hb)) q) (up _ _ (Nat.ne_of_gt hel) P₁) hR fun c o c1 c2 c3 c4 c5 q => up c o c1 (k₁ c o c2 c3 c4 c5 q)
theorem enum_zip_end {e z TI TO i1 i2 l1 l2 : Addr} {k : Nat} {i : Int} {xs ys : Array Value} {old : Value} {Q : Option Value → Shared → Prop} (hh : A.handled = none) (D : ZipApart z TI TO i1 i2 l1 l2) (he : IsEnum s.heap e z i old) (Z : ZipSt s.heap z TI TO i1 i2 l1 l2 xs ys k) (hend : xs[k]? = none ∨ ys[k]? = none)
    (hQ : ∀ h', (∀ c o, c ≠ z → c ≠ TO → c ≠ i1 → c ≠ i2 → s.heap.get? c = some o → h'.get? c = some o) → Q none { s with heap := h' }) :
    wpAny (model prog w) A (pyNext (.ref e)) Q E s := by
  have hT : s.TypeIs (.ref e) "enumerate" := ⟨_, he, rfl⟩
  unfold pyNext
  refine wpAny_bind (wpAny_attempt (wpAny_callSpecial?_slot (name := Str.ofString "__next__") hT F.slot_enumerate_next
    (wpAny_call_entry F.slot_enumerate_next hT F.entry_enumerate_next ?_ (F.args_enumerate_next_1 _))))
  show wpAny _ _ (field (.ref e) 2 >>= _) _ _ _
  refine wpAny_bind (wpAny_field he rfl (x := .ref z) rfl ?_)
  refine wpAny_bind (nextOf_zip_end hh D Z hend fun h' x hk hx' => ?_)
  obtain ⟨o, ho, hc⟩ := hx'
  refine wpAny_bind (wpAny_isInstance (T := "StopIteration") (b := true) ⟨o, ho, hc⟩ isSubtype_stop ?_)
  exact wpAny_pure (hQ _ hk)
end
end Mine
end
/-! Lg37 -/
section
open PySem PySem.Calls PyProof.Rows
open PySem.W
namespace Mine
section
variable {prog : Program} {w : World} {A : Around} {E : Value → Shared → Prop} {s : Shared}
theorem meets_enum_zip (z TI TO : Addr) :
    Meets (Builtin.«enumerate.__new__» ⟨[.type "enumerate", .ref z], []⟩) (fun _ R s => IsZip s.heap z TI TO .none ∧
      R (.ok (.ret (.ref s.heap.objs.size))) { s with heap := s.heap.push { cls := .type "enumerate", data := .fields #[.none, .bool false, .ref z, rawInt 0, .none, .none] } }) :=
  .of_wp fun prog w A R s h => by
    obtain ⟨hp, g, d, tk, os⟩ := s
    obtain ⟨hz, h⟩ := h
    have hsub := sub_enumerate
    have hZ : IsZip (Shared.heap ⟨hp, g, d, tk, os⟩) z TI TO .none := hz
    wp_walk using wpAny_loadPart' hz
    refine wpAny_stack_any fun st => wpAny_pure ?_
    split
    · rename_i c _ _ _ _ _
      cases (c == Value.type "enumerate")
      · wp_walk using wpAny_loadPart' hz, wpAny_pyIter_zip hZ
        exact ⟨_, rfl, h⟩
      · wp_walk using wpAny_loadPart' hz, wpAny_pyIter_zip hZ
        exact ⟨_, rfl, h⟩
    · wp_walk using wpAny_loadPart' hz, wpAny_pyIter_zip hZ
      exact ⟨_, rfl, h⟩
theorem call_enum_zip {z TI TO : Addr} {Q : Value → Shared → Prop} (hZ : IsZip s.heap z TI TO .none)
    (h : IsEnum (s.heap.push { cls := .type "enumerate", data := .fields #[.none, .bool false, .ref z, rawInt 0, .none, .none] }) s.heap.objs.size z 0 .none → Q (.ref s.heap.objs.size) { s with heap := s.heap.push { cls := .type "enumerate", data := .fields #[.none, .bool false, .ref z, rawInt 0, .none, .none] } }) :
    wpAny (model prog w) A (call (.type "enumerate") [.ref z]) Q E s := by
  refine callType_new F.called_enumerate (by decide) (F.typeCall_enumerate_1 _) (F.newCall_enumerate_1 _) (fun obj => F.args_object_init_2 obj _) F.entry_enumerate_new
    (meets_enum_zip z TI TO) ⟨hZ, ?_⟩
  have he : IsEnum (s.heap.push { cls := .type "enumerate", data := .fields #[.none, .bool false, .ref z, rawInt 0, .none, .none] }) s.heap.objs.size z 0 .none := Heap.get?_push_size _ rfl
  exact ⟨⟨_, he, rfl⟩, h he⟩
end
section
variable {G : Gb} {S : St} {r : Rt} {g g' : Heap} {σ σ' : AS} {s s' : Shared} {k : AV → AS → Prop} {kx : AX → AS → Prop} {kf : AF → AS → Prop} {kl : List AV → AS → Prop} {ku : Unit → AS → Prop} {ds es : List AV} {own rest : List (Addr × OV)}
/-- pairs with their numbers -/
def ezI (ds es : List AV) : List LI := (ds.zip es).zipIdx.map fun p => .tup [.int p.2, .tuple [p.1.1, p.1.2]]
theorem ezI_get {i : Nat} {d : LI} (h : (ezI ds es)[i]? = some d) : ∃ x y, ds[i]? = some x ∧ es[i]? = some y ∧ d = .tup [.int i, .tuple [x, y]] := by
  unfold ezI at h
  rw [List.getElem?_map, List.getElem?_zipIdx] at h
  obtain ⟨p, hp, rfl⟩ := Option.map_eq_some_iff.mp h
  obtain ⟨x, hx, rfl⟩ := Option.map_eq_some_iff.mp hp
  rw [List.getElem?_zip_eq_some] at hx
  exact ⟨x.1, x.2, hx.1, hx.2, by simp⟩
theorem ezI_length : (ezI ds es).length = min ds.length es.length := by unfold ezI; simp
theorem lp_ez {A : Around} {elts : List Expr} {u : Nat} {tp : Pos} {g₂ : Heap} {vs us : List Value} {e z TI TO i1 i2 l1 l2 : Addr} (hh : A.handled = none) (D : ZipApart z TI TO i1 i2 l1 l2) (hne : e ∉ [z, TI, TO, i1, i2, l1, l2]) (R1 : RelL g₂ vs ds) (R2 : RelL g₂ us es) :
    Lp G A (.Tuple elts u tp) g₂ (ezI ds es) e [e, z, TI, TO, i1, i2, l1, l2] [e, z, TO, i1, i2] (fun k h => (∃ old, IsEnum h e z (k : Int) old) ∧ ZipSt h z TI TO i1 i2 l1 l2 vs.toArray us.toArray k) where
  sub := fun b hb => by simp at hb ⊢; rcases hb with rfl | rfl | rfl | rfl | rfl <;> simp
  live := fun k h st b hb => by
    obtain ⟨⟨old, he⟩, Z⟩ := st
    simp only [List.mem_cons, List.not_mem_nil, or_false] at hb
    rcases hb with rfl | rfl | rfl | rfl | rfl | rfl | rfl | rfl
    · exact ⟨_, he⟩
    · obtain ⟨_, _, _, _, q⟩ := Z.z; exact ⟨_, q⟩
    · exact ⟨_, Z.TI⟩
    · obtain ⟨_, _, q⟩ := Z.TO; exact ⟨_, q⟩
    · exact listIter_get Z.i1
    · exact listIter_get Z.i2
    · exact isList_get Z.l1
    · exact isList_get Z.l2
  frame := fun k h h' st q => by
    obtain ⟨⟨old, he⟩, Z⟩ := st
    exact ⟨⟨old, q _ (.head _) _ he⟩, Z.at fun b hb o x => q b (.tail _ hb) o x⟩
  next := fun k d s Q E hd st hQ => by
    obtain ⟨⟨old, he⟩, Z⟩ := st
    obtain ⟨x, y, hx, hy, rfl⟩ := ezI_get hd
    obtain ⟨vx, hvx, Rx⟩ := R1.get hx
    obtain ⟨vy, hvy, Ry⟩ := R2.get hy
    refine enum_zip_next D hne he Z (x := vx) (y := vy) (by rw [List.getElem?_toArray]; exact hvx) (by rw [List.getElem?_toArray]; exact hvy) fun h' tk T R hT hR ho Z' PT PR keep => ?_
    refine ⟨_, rfl, ?_⟩
    have hTe : T ≠ e := by rw [hT]; exact Nat.ne_of_gt (Heap.lt_size he)
    have hRe : R ≠ e := by rw [hR]; exact Nat.ne_of_gt (Nat.lt_succ_of_lt (Heap.lt_size he))
    refine wpAny_letOwnedTupleGo_enum ho fun h'' he' hs' => ?_
    have PT' : IsPair h'' T vx vy := hs'.extBut _ _ hTe PT
    refine hQ (.ref R) h'' tk [T] (fun b hb => ?_) (fun g st hN => ⟨R, _, rfl, ⟨_, hs'.extBut _ _ hRe PR, rfl, _, rfl⟩, ?_⟩) ⟨⟨_, by simpa using he'⟩, Z'.at fun b hb o q => hs'.extBut _ _ (fun q => hne (q ▸ hb)) q⟩ fun b o hb q => ?_
    · rw [List.mem_singleton.mp hb, hT]; exact none_size _
    · exact .cons (.int _ _) (.cons (.tuple (vs := [vx, vy]) (hN T (.head _) _ PT') (.cons (Rx.mono st) (.cons (Ry.mono st) .nil))) .nil)
    · exact hs'.extBut _ _ (fun e' => hb (by simp [e'])) (keep b o (fun e' => hb (by simp [e'])) (fun e' => hb (by simp [e'])) (fun e' => hb (by simp [e'])) (fun e' => hb (by simp [e'])) (fun e' => hb (by simp [e'])) q)
  done := fun s Q E st hQ => by
    obtain ⟨⟨old, he⟩, Z⟩ := st
    refine enum_zip_end hh D he Z ?_ fun h' keep => hQ h' s.toks fun b o hb q => keep b o (fun e' => hb (by simp [e'])) (fun e' => hb (by simp [e'])) (fun e' => hb (by simp [e'])) (fun e' => hb (by simp [e'])) q
    rw [ezI_length]
    rcases Nat.le_total ds.length es.length with h | h
    · left; rw [Nat.min_eq_left h]; exact Array.getElem?_eq_none (by rw [List.size_toArray, R1.length]; exact Nat.le_refl _)
    · right; rw [Nat.min_eq_right h]; exact Array.getElem?_eq_none (by rw [List.size_toArray, R2.length]; exact Nat.le_refl _)
/-- two rows are walked side by side, with numbers -/
theorem IE_enumZip (hq : S.D.q = true) {func zf e1 e2 : Expr} {elts : List Expr} {u : Nat} {tp p p' : Pos} {kI : List LI → AS → Prop}
    (h : EV G S σ func (fun a σ1 => a = .v (.type "enumerate") ∧ EV G S σ1 zf (fun a σ2 => a = .v (.type "zip") ∧ EV G S σ2 e1 (fun a σ3 => ∃ ds, a = .list ds ∧ EV G S σ3 e2 (fun a σ4 => ∃ es, a = .list es ∧ kI (ezI ds es) σ4) kx) kx) kx) kx) (hp : plains [e1, e2] = true := by rfl)
    (he : ∀ env, eval (.Call func [.Call zf [e1, e2] [] p'] [] p) env = (do callWith p (← eval func env) [] (backTo p (starEach [.Call zf [e1, e2] [] p'] env)) (backToKw p (keywordEach [] env))) := by intro env; rfl)
    (he' : ∀ env, eval (.Call zf [e1, e2] [] p') env = (do callWith p' (← eval zf env) [] (backTo p' (starEach [e1, e2] env)) (backToKw p' (keywordEach [] env))) := by intro env; rfl) : IE G S σ (.Call func [.Call zf [e1, e2] [] p'] [] p) (.Tuple elts u tp) kI kx := fun r g s I₀ Q E hk hx => by
  obtain ⟨hp1, hp2⟩ := Bool.and_eq_true_iff.mp hp
  refine callRaw (f := .type "enumerate") rfl rfl ?_ he
  refine h r g s I₀ _ _ (fun vf s1 g1 a σ1 P1 R1 q1 => ?_) hx
  obtain ⟨rfl, q1⟩ := q1
  cases R1
  refine ⟨rfl, ?_⟩
  refine wpAny_items_cons ?_ (starEach_plain rfl)
  refine callRaw (f := .type "zip") rfl hp ?_ he'
  refine q1 r g1 s1 P1.inv _ _ (fun vz s2 g2 a σ2 P2 R2 q2 => ?_) fun e s' g' x σ' P T => hx e s' g' x σ' (P1.trans P) (T.back fun _ => P1.back)
  obtain ⟨rfl, q2⟩ := q2
  cases R2
  refine ⟨rfl, ?_⟩
  have P12 := P1.trans P2
  refine wpAny_items_cons (q2 r g2 s2 P2.inv _ _ (fun va s3 g3 a σ3 P3 R3 q3 => ?_) fun e s' g' x σ' P T => hx e s' g' x σ' (P12.trans P) (T.back fun _ => P12.back)) (starEach_plain hp1)
  obtain ⟨ds, rfl, q3⟩ := q3
  have P13 := P12.trans P3
  refine wpAny_items_cons (q3 r g3 s3 P3.inv _ _ (fun vb s4 g4 a σ4 P4 R4 q4 => ?_) fun e s' g' x σ' P T => hx e s' g' x σ' (P13.trans P) (T.back fun _ => P13.back)) (starEach_plain (Bool.and_eq_true_iff.mp hp2).1)
  obtain ⟨es, rfl, q4⟩ := q4
  refine wpAny_items_nil ⟨P4.inv.KIn, ?_⟩
  have P14 := P13.trans P4
  cases R3 with
  | list ha Ra =>
  cases R4 with
  | list hb Rb =>
  rename_i l1 vs l2 us
  have ha4 := IsList.mono P4.grow ha
  have hl1 := IsList.mono P4.inv.stay ha4
  have hl2 := IsList.mono P4.inv.stay hb
  refine call_zip_2 hl1 hl2 fun h' Z TI TO I1 I2 hz keep => ?_
  have P5 := Post.grown P4.inv (h' := h') keep [] (fun _ h => nomatch h) s4.toks
  refine wpAny_items_nil ⟨P5.inv.KIn, ?_⟩
  refine call_enum_zip Z fun he => ?_
  refine wpAny_pyIter_enum he ?_
  have P6 := Post.grown P5.inv (h' := h'.push { cls := .type "enumerate", data := .fields #[.none, .bool false, .ref (s4.heap.objs.size + 4), rawInt 0, .none, .none] }) (fun b o e => Heap.get?_push_of_some _ e) [] (fun _ h => nomatch h) s4.toks
  have P := P14.trans (P5.trans P6)
  obtain ⟨oa, hoa, _⟩ := id hl1
  obtain ⟨ob, hob, _⟩ := id hl2
  have lt1 : @LT.lt Nat _ l1 s4.heap.objs.size := Heap.lt_size hoa
  have lt2 : @LT.lt Nat _ l2 s4.heap.objs.size := Heap.lt_size hob
  have up : ∀ b o, h'.get? b = some o → (h'.push { cls := .type "enumerate", data := .fields #[.none, .bool false, .ref (s4.heap.objs.size + 4), rawInt 0, .none, .none] }).get? b = some o := fun b o e => Heap.get?_push_of_some _ e
  have f0 : ∀ n, s4.heap.objs.size ≤ n → s4.heap.get? n = none := fun n hn => by
    cases q : s4.heap.get? n with
    | none => rfl
    | some o => exact absurd (Heap.lt_size q) (Nat.not_lt.mpr hn)
  generalize hN : s4.heap.objs.size = N at *
  have new : ∀ b, N ≤ b → b ∉ frs (envR S r :: r.outer) ∧ b ∉ hid σ4.own ∧ g4.get? b = none ∧ s4.heap.get? b = none := fun b hb => by
    have := f0 b hb
    obtain ⟨n1, n2, n3⟩ := P4.inv.apart_new this
    exact ⟨n1, n2, n3, this⟩
  have D : ZipApart (N + 4) (N + 2) (N + 3) N (N + 1) l1 l2 := by constructor <;> (show (_ : Nat) ≠ _; omega)
  obtain ⟨oa', hoa', _⟩ := ha4
  obtain ⟨ob', hob', _⟩ := hb
  refine hk _ [h'.objs.size, N + 4, N + 2, N + 3, N, N + 1, l1, l2] [h'.objs.size, N + 4, N + 3, N, N + 1] _ (ezI ds es) _ _ σ4 P (lp_ez (P4.inv.hd hq) D ?_ ((Ra.mono P4.grow).mono (fun b o e => P6.grow _ _ (P5.grow _ _ e))) (Rb.mono (fun b o e => P6.grow _ _ (P5.grow _ _ e)))) ⟨⟨_, by simpa using he⟩, ⟨_, _, .inl rfl, ⟨_, rfl⟩, up _ _ Z⟩, up _ _ TI, ⟨_, _, up _ _ TO⟩, I1.at fun o e => up _ o e, I2.at fun o e => up _ o e, hl1.at fun o e => up _ o (keep _ _ e), hl2.at fun o e => up _ o (keep _ _ e)⟩ ⟨fun b hb => ?_, fun b hb => ?_⟩ q4
  · rw [hz]
    simp only [List.mem_cons, List.not_mem_nil, or_false, not_or]
    refine ⟨?_, ?_, ?_, ?_, ?_, ?_, ?_⟩ <;> (show (_ : Nat) ≠ _; omega)
  · have hb' : N ≤ b := by
      rw [hz] at hb
      simp only [List.mem_cons, List.not_mem_nil, or_false] at hb
      rcases hb with rfl | rfl | rfl | rfl | rfl <;> (show (_ : Nat) ≤ _; omega)
    obtain ⟨n1, n2, n3, n4⟩ := new b hb'
    exact ⟨P14.back n4, gplus_none (gplus_none n3 (by simp)) (by simp), n2⟩
  · rw [hz] at hb
    simp only [List.mem_cons, List.not_mem_nil, or_false] at hb
    rcases hb with rfl | rfl | rfl | rfl | rfl | rfl | rfl | rfl
    · exact ⟨(new _ (by show (_ : Nat) ≤ _; omega)).1, (new _ (by show (_ : Nat) ≤ _; omega)).2.1⟩
    · exact ⟨(new _ (by show (_ : Nat) ≤ _; omega)).1, (new _ (by show (_ : Nat) ≤ _; omega)).2.1⟩
    · exact ⟨(new _ (by show (_ : Nat) ≤ _; omega)).1, (new _ (by show (_ : Nat) ≤ _; omega)).2.1⟩
    · exact ⟨(new _ (by show (_ : Nat) ≤ _; omega)).1, (new _ (by show (_ : Nat) ≤ _; omega)).2.1⟩
    · exact ⟨(new _ (Nat.le_refl _)).1, (new _ (Nat.le_refl _)).2.1⟩
    · exact ⟨(new _ (by show (_ : Nat) ≤ _; omega)).1, (new _ (by show (_ : Nat) ≤ _; omega)).2.1⟩
    · exact P4.inv.apart_old hoa'
    · exact P4.inv.apart_old hob'
end
end Mine
end
/-! Lg38 -/
section
open PySem PySem.Calls PyProof.Rows
open PySem.W
namespace Mine
section
variable {G : Gb} {S : St} {r : Rt} {g g' : Heap} {σ σ' : AS} {s s' : Shared} {k : AV → AS → Prop} {kx : AX → AS → Prop} {kf : AF → AS → Prop} {kl : List AV → AS → Prop} {ku : Unit → AS → Prop} {ds es : List AV} {own rest : List (Addr × OV)}
theorem GM_insert {a : Addr} (ho : (a, OV.list ds) ∈ σ.own) : GM G S σ (.own a) "insert" (.builtin "list.insert") [.own a] := fun r g s I va Ra => by
  cases Ra
  have z := I.own.at_ _ ho
  dsimp only at z
  cases z with
  | list hl Ra =>
    obtain ⟨o, ho, hc, hdn, _⟩ := hl
    exact ⟨_, .cons (.own _) .nil, fun pl Q E hq => getMethod_builtin ⟨_, ho, hc⟩ PySem.F.plainAttrs_list PySem.F.slot_list_insert PySem.F.type_list_insert (fun a e => by cases e; exact ⟨_, ho, hdn⟩) (hq s.toks)⟩
theorem insert_tree {prog : Program} {w : World} {A : Around} {E : Value → Shared → Prop} {a : Addr} {o : Obj} {items : Array Value} {n : Nat} {u : Tok} {y : Value} {Q : Fin → Shared → Prop} (ho : s.heap.get? a = some o) (hc : o.cls = .type "list") (hd : o.data = .seq items n) (hz : items.size ≤ sizeLine)
    (h : Q (.done (.ret .none)) { s with heap := s.heap.update a (Obj.mapSeq fun xs => have k := if (0 : Int) < 0 then ((0 : Int) + (xs.size : Int)).toNat else min (0 : Int).toNat xs.size; (xs.extract 0 k).push y ++ xs.extract k) }) :
    wpAny (model prog w) A (Builtin.«list.insert» ⟨[.ref a, .int 0 u, y], []⟩) Q E s := by
  obtain ⟨hp, g, d, tk, os⟩ := s
  have f1 := PySem.AutoSeq1.idx_int
  have f2 := PySem.AutoSeq1.sub_tuple_tuple
  have f3 := PySem.AutoSeq1.sub_list_list
  have f4 := PySem.AutoSeq1.sub_tuple_list
  have f5 := PySem.AutoSeq1.sub_list_tuple
  have hc0 : ¬(!Builtin.List.listFitsIndex 0) = true := by decide
  have hz' : ((fun xs : Array Value => have k := if (0 : Int) < 0 then ((0 : Int) + (xs.size : Int)).toNat else min (0 : Int).toNat xs.size; (xs.extract 0 k).push y ++ xs.extract k) items).size ≤ sizeLine + 1 := Nat.le_trans (PySem.AutoSeq1.size_inserted items _ _) (Nat.add_le_add_right hz 1)
  wp_walk using (wpAny_updateSeq ho hd (hz := hz) (_hz' := hz')), wpAny_loadPart' ho
  exact h
/-- insert(0, d) of a row of one's own -/
theorem CV_insert0 {a : Addr} {d : AV} (hσ : σ.own = own ++ (a, .list ds) :: rest) (hz : ds.length ≤ sizeLine) (h : k .none ⟨σ.loc, own ++ (a, .list (d :: ds)) :: rest⟩) : CV G S σ (.builtin "list.insert") [.own a, .int 0, d] [] k kx := fun r g s I vs ws R1 R2 Q E hk _ => by
  cases R2
  obtain _ | ⟨Ra, _ | ⟨Ri, _ | ⟨Rd, _ | _⟩⟩⟩ := R1
  cases Ra; cases Ri
  have z := I.own.at_ (a, .list ds) (by rw [hσ]; simp)
  dsimp only at z
  cases z with
  | list hl Ra =>
    rename_i v _ us
    obtain ⟨o, ho, hc, hdn, n, hd⟩ := id hl
    refine wpAny_call_entry PySem.F.slot_list_insert ⟨o, ho, hc⟩ PySem.F.entry_list_insert ?_ (PySem.F.args_list_insert_3 _ _ _)
    have hsz : us.toArray.size ≤ sizeLine := by rw [List.size_toArray, Ra.length]; exact hz
    refine insert_tree ho hc hd hsz ⟨.none, rfl, ?_⟩
    refine hk _ _ _ _ _ (Post.setOwn (ov' := .list (d :: ds)) I hσ rfl (fun b ob n e => by rw [Heap.get?_update_other _ _ (fun z => n (by rw [← z]; exact .head _))]; exact e) (.list (ownL_of (h' := s.heap) (ws := v :: us) hl _ ?_) (.cons Rd Ra)) s.toks) .none h
    show ((us.toArray.extract 0 (if (0 : Int) < 0 then _ else min (0 : Int).toNat us.toArray.size)).push v ++ us.toArray.extract (if (0 : Int) < 0 then _ else min (0 : Int).toNat us.toArray.size)) = _
    rw [if_neg (by decide)]
    simp
/-- a class is called whose object holds a row that was made for it -/
theorem CV_makeL {C fI : Addr} {as : List AV} {kw : List (Str × AV)} {D : Lv} {f : Str} {K : List AV → List (Str × AV) → Prop} (hm : makeIn G.K C fI = true) (hD : S.D.up.le D)
    (hF : ∀ x dx, Fn G D (.ref fI) (.own x :: as) kw [(x, .obj C dx [])] (fun a own' => a = .none ∧ ∃ L1 ds fs, own' = [(x, .obj C dx ((f, .own L1) :: fs)), (L1, .list ds)] ∧ K ds fs) (fun _ _ => False))
    (hk : ∀ ds fs, K ds fs → k (.obj C ((f, .list ds) :: fs)) σ) : CV G S σ (.ref C) as kw k kx := fun r g s I vs ws R1 R2 Q E hq hqx => by
  unfold makeIn at hm
  simp only [Bool.and_eq_true, beq_iff_eq] at hm
  obtain ⟨⟨m1, m2⟩, m3⟩ := hm
  refine wpAny_call ?_
  obtain ⟨hh, gg, d, t, os⟩ := s
  refine make_core (makes_of I.KIn m1) (looks_findIn I.KIn m2) (fun self => bind_fn I.KIn self m3) (.inl rfl) ?_
  have hx : ((hh.push emptyDict).push (instObj C hh.objs.size)).get? (hh.objs.size + 1) = some (instObj C hh.objs.size) := by heap_get
  have hdx : ((hh.push emptyDict).push (instObj C hh.objs.size)).get? hh.objs.size = some emptyDict := Heap.get?_push_of_some _ (Heap.get?_push_size _ rfl)
  have n0 : ∀ n, hh.objs.size ≤ n → hh.get? n = none := fun n hn => by
    cases q : hh.get? n with
    | none => rfl
    | some o => exact absurd (Heap.lt_size q) (Nat.not_lt.mpr hn)
  have P1 := Post.newOwn (a := hh.objs.size + 1) (ov := .obj C hh.objs.size []) (h' := (hh.push emptyDict).push (instObj C hh.objs.size)) I (fun b o e => Heap.get?_push_of_some _ (Heap.get?_push_of_some _ e))
    (fun b hb => by
      rcases List.mem_cons.mp hb with rfl | hb
      · exact n0 _ (Nat.le_succ _)
      · rw [List.mem_singleton.mp hb]; exact n0 _ (Nat.le_refl _))
    (by simp [OV.hid]) (.obj hx (n := 0) (es := []) hdx .nil) t
  have P2 := P1.trans (Post.perm P1.inv (own' := [(hh.objs.size + 1, .obj C hh.objs.size [])] ++ σ.own) List.perm_append_comm)
  have C0 := P2.inv.cinv (own := [(hh.objs.size + 1, .obj C hh.objs.size [])]) (rest := σ.own) rfl ⟨Nat.le_trans (Nat.le_succ _) hD.1, hD.2⟩
  have C1 := under_cinv (c := .builtin "type.__call__" ⟨.ref C :: vs, (kw.map (·.1)).zip ws⟩) (D' := D) C0 id (tc_envs _) (by rw [tc_weight]; have := I.dep; have h2 : S.D.n + 1 ≤ D.n := hD.1; show r.A.depth + 1 ≤ D.n; omega) (by rw [tc_units]; have := I.un; have h2 : S.D.n + 1 ≤ D.n := hD.1; show r.A.units + 1 ≤ 10 * D.n; omega)
  refine hF _ _ _ _ g _ (.ref (hh.objs.size + 1) :: vs) ws C1 (.cons (.own _) R1) R2 _ (fun v s' g' a own' P Rv q => ?_) fun e s' g' x own' P T q => q.elim
  obtain ⟨rfl, L1, ds, fs, rfl, hK⟩ := q
  cases Rv
  have P' : CPost G r.A (stk S r) D g [(hh.objs.size + 1, .obj C hh.objs.size [])] ⟨(hh.push emptyDict).push (instObj C hh.objs.size), gg, d, t, os⟩ g' [(hh.objs.size + 1, .obj C hh.objs.size ((f, .own L1) :: fs)), (L1, .list ds)] s' :=
    ⟨⟨P.inv.ok, C0.frames, P.inv.stay, P.inv.base, P.inv.ff, P.inv.ownok, P.inv.apart, P.inv.bare, P.inv.os, C0.dep, C0.un, C0.hd, C0.hx.mono P.grow⟩, P.grow, P.only, P.ext, P.fr, P.same, P.gens⟩
  have P3 := P2.trans (Post.of_cpost P2.inv rfl P')
  have P4 := P3.trans (Post.perm P3.inv (own' := σ.own ++ [(hh.objs.size + 1, .obj C hh.objs.size ((f, .own L1) :: fs)), (L1, .list ds)]) List.perm_append_comm)
  have hov := P4.inv.own.at_ (hh.objs.size + 1, .obj C hh.objs.size ((f, .own L1) :: fs)) (by simp)
  have hol := P4.inv.own.at_ (L1, .list ds) (by simp)
  have P5 := P4.inv.freeze (own := σ.own) (rest := [(hh.objs.size + 1, .obj C hh.objs.size ((f, .own L1) :: fs)), (L1, .list ds)]) rfl (loc' := σ.loc) fun m _ h => h
  refine ⟨rfl, hq _ _ _ _ _ (P4.trans P5) ?_ (hk ds fs hK)⟩
  dsimp only at hov hol
  cases hol with
  | list hl Rl =>
  obtain ⟨o, ho, hc, _, n, hd⟩ := hl
  cases hov with
  | obj h1 h2 R =>
    cases R with
    | cons Rp R =>
      cases Rp
      exact .obj (gplus_new (by simp [hid, OV.hid]) h1) (gplus_new (by simp [hid, OV.hid]) h2) (.cons (.list ⟨o, gplus_new (by simp [hid, OV.hid]) ho, hc, n, hd⟩ (Rl.mono (gplus_grow P4.inv.stay))) (R.mono (gplus_grow P4.inv.stay)))
end
end Mine
end
/-! Lg40 -/
section
open PySem PySem.Calls PyProof.Rows
open PySem.W
namespace Mine
/-- a walk whose state is kept to its end; S is the list that takes what is walked -/
structure WkG (prog : Program) (w : World) (A : Around) (I S : Addr) (n : Nat) (P : Nat → Value → Prop) (St : Nat → Shared → Prop) (Done : Shared → Prop) : Prop where
  gen : ∀ i s, St i s → s.TypeIs (.ref I) "generator"
  ne : S ≠ I
  frame : ∀ i (s : Shared) h' tk, St i s → (∀ b o, b ≠ S → s.heap.get? b = some o → h'.get? b = some o) → (s.heap.get? S).isSome = true → (h'.get? S).isSome = true → St i { s with heap := h', toks := tk }
  item : ∀ i (s : Shared) oS (Q : Option Value → Shared → Prop) (E : Value → Shared → Prop), i < n → St i s → s.heap.get? S = some oS →
    (∀ v s', P i v → St (i + 1) s' → s'.heap.get? S = some oS → Q (some v) s') → wpAny (model prog w) A (pyNext (.ref I)) Q E s
  done : ∀ (s : Shared) oS (Q : Option Value → Shared → Prop) (E : Value → Shared → Prop), St n s → s.heap.get? S = some oS → (∀ s', Done s' → s'.heap.get? S = some oS → Q none s') → wpAny (model prog w) A (pyNext (.ref I)) Q E s
  self : ∀ i (s : Shared) (Q : Value → Shared → Prop) (E : Value → Shared → Prop), St i s → Q (.ref I) s → wpAny (model prog w) A (pyIter (.ref I)) Q E s
theorem WkG.of_in1 {prog : Program} {w : World} {A : Around} {I S : Addr} {n : Nat} {P : Nat → Value → Prop} {St : Nat → Shared → Prop} {Done : Shared → Prop} (W : WkG prog w A.in1 I S n P St Done) : WkG prog w A I S n P St Done where
  gen := W.gen
  ne := W.ne
  frame := W.frame
  item := fun i s oS Q E hi st hS hQ => wpAny_of_in1 (W.item i s oS Q E hi st hS hQ)
  done := fun s oS Q E st hS hQ => wpAny_of_in1 (W.done s oS Q E st hS hQ)
  self := fun i s Q E st hQ => wpAny_of_in1 (W.self i s Q E st hQ)
section
variable {prog : Program} {w : World} {A : Around} {R : Result → Shared → Prop} {I S : Addr} {n : Nat} {P : Nat → Value → Prop} {St : Nat → Shared → Prop} {Done : Shared → Prop}
theorem extend_loopG (W : WkG prog w A.in1 I S n P St Done) (hn : n ≤ sizeLine) (res : Value) :
    ∀ (k i : Nat) (s : Shared) (acc : Array Value) (c : Nat), n - i = k → i ≤ n → St i s → s.heap.get? S = some { cls := .type "list", dict := none, data := .seq acc c, slots := #[] } → ItemsOf P acc i →
    (∀ s' acc' c', Done s' → s'.heap.get? S = some { cls := .type "list", dict := none, data := .seq acc' c', slots := #[] } → ItemsOf P acc' n → R (.ok (.ret res)) s') →
    codeAny (model prog w) A (.builtin "list.extend.loop" ⟨[.ref S, .ref I, res], []⟩) R s := by
  intro k
  induction k with
  | zero =>
    intro i s acc c hk hi hst hS hacc hR
    have hin : i = n := by omega
    subst hin
    refine codeAny_builtin PySem.F.entry_extend_loop ?_
    rw [Around.under_plainId PySem.F.plain_extend_loop _]
    show wpAny _ A.in1 (pyNext (.ref I) >>= _) _ _ s
    refine wpAny_bind (W.done s _ _ _ hst hS fun s' hd hS' => ?_)
    exact wpAny_pure (hR s' acc c hd hS' hacc)
  | succ k ih =>
    intro i s acc c hk hi hst hS hacc hR
    have hlt : i < n := by omega
    refine codeAny_builtin PySem.F.entry_extend_loop ?_
    rw [Around.under_plainId PySem.F.plain_extend_loop _]
    show wpAny _ A.in1 (pyNext (.ref I) >>= _) _ _ s
    refine wpAny_bind (W.item i s _ _ _ hlt hst hS fun v s' hP hst' hS' => ?_)
    show wpAny _ A.in1 (updateSeq S (·.push v) >>= _) _ _ _
    refine wpAny_bind ?_
    have hS2 := Heap.get?_update_self (Obj.mapSeq (·.push v)) hS' rfl
    refine wpAny_updateSeq hS' rfl (wpAny_pure ⟨plainId_quiet PySem.F.plain_extend_loop _, ih (i + 1) _ (acc.push v) _ (by omega) hlt (W.frame _ s' _ s'.toks hst' (fun b o hb e => ?_) (by rw [hS']; rfl) (by rw [hS2]; rfl)) hS2 (hacc.push hP) hR⟩)
      (by rw [hacc.1]; omega) (by show (acc.push v).size ≤ sizeLine + 1; rw [Array.size_push, hacc.1]; omega)
    exact (Heap.get?_update_other _ _ (fun h : S = b => hb h.symm)).trans e
theorem extend_genG {s : Shared} (W : WkG prog w A.in1 I S n P St Done) (res : Value) (c₀ : Nat) (hst : St 0 s)
    (hS : s.heap.get? S = some { cls := .type "list", data := .seq #[] c₀ })
    (hR : ∀ s' acc' c', Done s' → s'.heap.get? S = some { cls := .type "list", dict := none, data := .seq acc' c', slots := #[] } → ItemsOf P acc' n → R (.ok (.ret res)) s') (hn : n ≤ sizeLine) :
    wpAny (model prog w) A.in1 (Builtin.List.listExtendWith (.ref S) (.ref I) res)
      (fun fin s' => match fin with | .done f => R (.ok f) s' | .again c' => c'.quiet = true ∧ codeAny (model prog w) A c' R s') (fun e s' => R (.error e) s') s := by
  have hSI : S ≠ I := W.ne
  show wpAny _ A.in1 (typeOf (.ref I) >>= _) _ _ s
  refine wpAny_bind (wpAny_typeOf (W.gen 0 _ hst) ?_)
  have h1 : Builtin.List.listSameRef (.ref S) (.ref I) = false := by simp [Builtin.List.listSameRef, hSI]
  have h2 : (Value.type "generator" == Value.type "list") = false := by decide
  have h3 : (Value.type "generator" == Value.type "tuple") = false := by decide
  simp only [h1, h2, h3, Bool.or_false, Bool.false_eq_true, if_false]
  refine wpAny_bind (W.self 0 _ _ _ hst ?_)
  refine wpAny_bind (wpAny_holding ?_)
  unfold Builtin.List.listLengthHint
  refine wpAny_bind (wpAny_specialOf (W.gen 0 _ hst) PySem.F.gen_no_len ?_)
  show wpAny _ A.in1 (specialOf (Value.ref I) (Str.ofString "__length_hint__") >>= _) _ _ _
  refine wpAny_bind (wpAny_specialOf (W.gen 0 _ hst) PySem.F.gen_no_hint ?_)
  refine wpAny_pure ?_
  show wpAny _ A.in1 (rule "list.extend.makes-room" >>= fun _ => Builtin.List.listTouch (.ref S) >>= fun _ =>
    again (.builtin "list.extend.loop" ⟨[.ref S, .ref I, res], []⟩)) _ _ _
  refine wpAny_bind (wpAny_rule ?_)
  refine wpAny_bind ?_
  show wpAny _ A.in1 (updateSeq S (·.push .none) >>= fun _ => updateSeq S (·.pop)) _ _ _
  refine wpAny_bind (wpAny_updateSeq hS rfl ?_)
  have hS₂ := Heap.get?_update_self (Obj.mapSeq (·.push Value.none)) hS rfl
  refine wpAny_updateSeq (hz := by seq_fits) hS₂ rfl ?_
  have hS₃ := Heap.get?_update_self (Obj.mapSeq (·.pop)) hS₂ rfl
  have oth : ∀ b o, b ≠ S → s.heap.get? b = some o → ((s.heap.update S (Obj.mapSeq (·.push Value.none))).update S (Obj.mapSeq (·.pop))).get? b = some o :=
    fun b o hb e => (Heap.get?_update_other _ _ (Ne.symm hb)).trans ((Heap.get?_update_other _ _ (Ne.symm hb)).trans e)
  refine wpAny_pure ⟨plainId_quiet PySem.F.plain_extend_loop _, extend_loopG W hn _ n 0 _ _ _ rfl (Nat.zero_le _)
    (W.frame 0 s _ s.toks hst oth (by rw [hS]; rfl) (by rw [hS₃]; rfl)) hS₃ (ItemsOf.nil P) hR⟩
theorem list_init_genG {s : Shared} (W : WkG prog w A.in1 I S n P St Done) (hst : St 0 s)
    (hS : s.heap.get? S = some { cls := .type "list", data := .seq #[] })
    (hR : ∀ s' acc' c', Done s' → s'.heap.get? S = some { cls := .type "list", dict := none, data := .seq acc' c', slots := #[] } → ItemsOf P acc' n → R (.ok (.ret .none)) s') (hn : n ≤ sizeLine) :
    wpAny (model prog w) A.in1 (Builtin.«list.__init__» ⟨[.ref S, .ref I], []⟩)
      (fun fin s' => match fin with | .done f => R (.ok f) s' | .again c' => c'.quiet = true ∧ codeAny (model prog w) A c' R s') (fun e s' => R (.error e) s') s := by
  show wpAny _ A.in1 (do let old ← Builtin.List.listItems (.ref S); Builtin.List.listUpdate (.ref S) (fun _ => #[]); letGo old.toList.reverse; Builtin.List.listExtendWith (.ref S) (.ref I) .none) _ _ s
  refine wpAny_bind ?_
  unfold Builtin.List.listItems
  refine wpAny_bind (wpAny_seqItems hS rfl (wpAny_pure ?_))
  show wpAny _ A.in1 (updateSeq S (fun _ => #[]) >>= fun _ => letGo (#[] : Array Value).toList.reverse >>= fun _ => Builtin.List.listExtendWith (.ref S) (.ref I) .none) _ _ s
  refine wpAny_bind (wpAny_updateSeq hS rfl ?_)
  have hS₂ := Heap.get?_update_self (Obj.mapSeq (fun _ => (#[] : Array Value))) hS rfl
  have oth : ∀ b o, b ≠ S → s.heap.get? b = some o → (s.heap.update S (Obj.mapSeq (fun _ => (#[] : Array Value)))).get? b = some o :=
    fun b o hb e => (Heap.get?_update_other _ _ (Ne.symm hb)).trans e
  refine wpAny_bind (wpAny_letGo ?_)
  exact extend_genG (hn := hn) W .none _ (W.frame 0 s _ s.toks hst oth (by rw [hS]; rfl) (by rw [hS₂]; rfl)) hS₂ hR
end
section
variable {prog : Program} {w : World} {A : Around} {E : Value → Shared → Prop} {s : Shared}
variable {I : Addr} {n : Nat} {P : Nat → Value → Prop} {St : Nat → Shared → Prop} {Done : Shared → Prop}
theorem call_list_genG {Q : Value → Shared → Prop} (W : WkG prog w A.in1.in1 I s.heap.objs.size n P St Done) (hst : St 0 { s with heap := s.heap.push { cls := .type "list", data := .seq #[] } })
    (hQ : ∀ s' acc' c', Done s' → s'.heap.get? s.heap.objs.size = some { cls := .type "list", dict := none, data := .seq acc' c', slots := #[] } → ItemsOf P acc' n → Q (.ref s.heap.objs.size) s') (hn : n ≤ sizeLine) :
    wpAny (model prog w) A (call (.type "list") [.ref I]) Q E s := by
  refine callType_codes (Q₁ := fun obj s₁ => obj = .ref s.heap.objs.size ∧ s₁ = { s with heap := s.heap.push { cls := .type "list", data := .seq #[] } }) PySem.F.called_list (PySem.F.typeCall_list_1 _) PySem.F.entry_list_init
    (code_list_new _ ⟨rfl, rfl⟩) fun obj s₁ h₁ => ?_
  obtain ⟨rfl, rfl⟩ := h₁
  have hS : (s.heap.push { cls := .type "list", data := .seq #[] }).get? s.heap.objs.size = some { cls := .type "list", data := .seq #[] } := Heap.get?_push_size _ rfl
  refine ⟨⟨_, hS, rfl⟩, PySem.F.args_list_init_2 _ _, list_init_genG (hn := hn) W hst hS fun s' acc' c' hd hS' hacc => ?_⟩
  exact ⟨rfl, hQ s' acc' c' hd hS' hacc⟩
end
end Mine
end
/-! Lg41 -/
section
open PySem PySem.Calls PyProof.Rows
open PySem.W
open PySem.Builtin.Bytes PySem.W.FB
namespace Mine
theorem slot_bytes_join : Slot "bytes" "join" "bytes.join" :=
  .of (owner := "bytes") (n := "join") (by rw [typeLookup_type, builtinLookup_eq_fast]; kernel_rfl) (by decide +kernel) (by decide +kernel) (by decide +kernel)
    (by first | exact .inl (by decide +kernel) | exact .inr (by decide +kernel)) (by rw [isSubtype_type]; kernel_rfl)
theorem type_bytes_join : typeOf (.builtin "bytes.join") = pure (.type "method_descriptor") := by show builtinType _ = _; rw [builtinType_eq_fast]; kernel_rfl
theorem entry_bytes_join : entryFor table "bytes.join" = some Builtin.«bytes.join» := entryFor_of_tree (by kernel_rfl)
theorem args_bytes_join_2 (a b : Value) : argsOk "bytes.join" ⟨[a, b], []⟩ := by
  unfold argsOk; rw [signature?_of (id := "bytes.join") (n := ['n', 'i', 'o', 'j']) (o := ['s', 'e', 't', 'y', 'b']) (by kernel_rfl) owner_bytes]; kernel_rfl
theorem take_eq {id : String} {b : Array UInt8} {t : Tok} : takeBufferQuiet? id (.bytes b t) 0 = pure (some (b, none)) := by
  unfold takeBufferQuiet? takeBuffer?
  rw [KBy.special_eq KBy.look_buffer, KBy.own_buffer]
  rw [show ((0 : Int) == fullReadOnly) = false from by decide]
  have := KBy.buffer_eq (b := b) (t := t) (id := id)
  simp only [pure_bind]
  rw [this]
  rfl
section
variable {prog : Program} {w : World} {A : Around} {E : Value → Shared → Prop} {s : Shared}
theorem letGo_taken {keep : List Value} : ∀ (l : List (Value × Option Value)), (∀ p ∈ l, p.2 = none) → ∀ {s : Shared} {Q : Unit → Shared → Prop}, Q () s → wpAny (model prog w) A (joinLetGo l keep) Q E s := by
  intro l
  induction l with
  | nil => intro _ s Q h; exact wpAny_pure h
  | cons p l ih =>
    intro hl s Q h
    obtain ⟨x, u⟩ := p
    obtain rfl : u = none := hl _ (.head _)
    show wpAny _ _ (letGo [x] _ >>= fun _ => joinLetGo l keep) _ _ _
    exact wpAny_bind (wpAny_letGo (ih (fun p hp => hl p (.tail _ hp)) h))
theorem forIn_any {β : Type} {f : Nat → β → Sem (ForInStep β)} {Inv : Nat → β → Prop} {P : Shared → Prop} : ∀ (k i : Nat) (b : β) (s : Shared) (Q : β → Shared → Prop), (∀ j b s Q, i ≤ j → j < i + k → Inv j b → P s → (∀ b' , Inv (j + 1) b' → Q (.yield b') s) → wpAny (model prog w) A (f j b) Q E s) → Inv i b → P s → (∀ b', Inv (i + k) b' → Q b' s) → wpAny (model prog w) A (forIn (List.range' i k 1) b f) Q E s
  | 0, i, b, s, Q, _, hi, _, hq => by
    show wpAny _ _ (forIn ([] : List Nat) b f) _ _ _
    rw [List.forIn_nil]
    exact wpAny_pure (hq b hi)
  | k + 1, i, b, s, Q, hf, hi, hp, hq => by
    rw [List.range'_succ, List.forIn_cons]
    refine wpAny_bind (hf i b s _ (Nat.le_refl _) (by omega) hi hp fun b' hb' => ?_)
    exact forIn_any k (i + 1) b' s Q (fun j b s Q h1 h2 => hf j b s Q (by omega) (by omega)) hb' hp (fun b'' h => hq b'' (by rw [show i + (k + 1) = i + 1 + k from by omega]; exact h))
theorem payload_eq {b : Array UInt8} {t : Tok} : payload (.bytes b t) = pure b := rfl
theorem foldl_size {l : List (Array UInt8)} : ∀ (a : Nat), l.foldl (fun n b => n + b.size) a = a + (l.map (·.size)).sum := by
  induction l with
  | nil => intro a; simp
  | cons b l ih => intro a; rw [List.foldl_cons, ih, List.map_cons, List.sum_cons]; omega
theorem joined_go : ∀ (l : List (Array UInt8)) (k : Nat) (out : Array UInt8), (l.zipIdx k).foldl (fun out (p, i) => (if i > 0 then out ++ (#[] : Array UInt8) else out) ++ p) out = out ++ (l.map Array.toList).flatten.toArray
  | [], k, out => by simp
  | b :: l, k, out => by
    rw [List.zipIdx_cons, List.foldl_cons, joined_go l (k + 1)]
    have : (if k > 0 then out ++ (#[] : Array UInt8) else out) = out := by split <;> simp
    dsimp only
    rw [this]
    apply Array.toList_inj.mp
    simp
theorem joined_eq (l : List (Array UInt8)) : joined #[] l = (l.map Array.toList).flatten.toArray := by
  have := joined_go l 0 #[]
  unfold joined
  rw [this]
  simp
theorem joined_size (l : List (Array UInt8)) : (joined #[] l).size = (l.map (·.size)).sum := by
  rw [joined_eq, List.size_toArray, List.length_flatten]
  simp [Function.comp_def]
theorem join_rest {s₀ : Shared} (t : Tok) {S : Addr} {bs : List (Array UInt8)} {Q : PySem.Fin → Shared → Prop} (hz : (bs.map (·.size)).sum ≤ 16777216) (it : Value)
    (hit : wpAny (model prog w) A (joinItems it) (fun v s' => v = .ref S ∧ ∃ acc c, ItemsOf (fun i v => ∃ t, v = .bytes (bs.getD i #[]) t) acc bs.length ∧ s'.heap.get? S = some { cls := .type "list", dict := none, data := .seq acc c, slots := #[] } ∧ ∀ t' k, Q (.done (.ret (.bytes (joined #[] bs) t'))) { s' with toks := k }) E s₀) :
    wpAny (model prog w) A (joinM .bytes ⟨[.bytes #[] t, it], []⟩) Q E s₀ := by
  unfold joinM
  refine wpAny_bind (wpAny_pure ?_)
  dsimp only
  rw [if_pos (by decide)]
  refine wpAny_bind (wpAny_mono hit (fun v s h => ?_) fun _ _ z => z)
  obtain ⟨rfl, acc, c, hacc, hS, hq⟩ := h
  clear hit
  have hseq : ∀ (Q : Option (Array Value) → Shared → Prop), Q (some acc) s → wpAny (model prog w) A (seqItems? (.ref S)) Q E s := fun Q h => wpAny_seqItems hS rfl h
  refine wpAny_bind (hseq _ ?_)
  dsimp only
  rw [if_pos (by decide)]
  have one : ∀ x, acc = ⟨[x]⟩ → ∃ t1, x = .bytes (joined #[] bs) t1 := by
    rintro x rfl
    have hn : bs.length = 1 := hacc.1.symm
    obtain ⟨b, rfl⟩ : ∃ b, bs = [b] := List.length_eq_one_iff.mp hn
    obtain ⟨t1, rfl⟩ := hacc.2 0 x rfl
    exact ⟨t1, by simp [joined]⟩
  rcases acc with ⟨_ | ⟨x, _ | ⟨y, l⟩⟩⟩
  case cons.nil =>
    obtain ⟨t1, rfl⟩ := one x rfl
    show wpAny _ _ (typeOf _ >>= _) _ _ _
    refine wpAny_bind (wpAny_typeOf (typeIs_bytes s _ _) ?_)
    rw [if_pos (by decide)]
    exact wpAny_bind (wpAny_rule (wpAny_pure (hq t1 s.toks)))
  all_goals
    clear one
    show wpAny _ _ (forIn [: _] _ _ >>= _) _ _ _
    generalize he : (Array.mk _ : Array Value) = acc at *
    rw [Std.Legacy.Range.forIn_eq_forIn_range']
    have hsz : acc.size = bs.length := hacc.1
    refine wpAny_bind (forIn_any (Inv := fun i (st : Array (Array UInt8) × List (Value × Option Value)) => st.1 = (bs.take i).toArray ∧ (∀ p ∈ st.2, p.2 = none ∧ p.1.onHeap = false)) (P := fun s' => s' = s) _ _ _ s _ (fun j st s' Q h1 h2 hinv hs hQ => ?_) ⟨by simp, by simp⟩ rfl fun st hst => ?_)
    · subst hs
      obtain ⟨hp, ht⟩ := hinv
      refine wpAny_bind (hseq _ ?_)
      dsimp only
      have hany : (st.2.any fun x => x.1.onHeap) = false := by
        rw [List.any_eq_false]
        intro p hp'
        rw [(ht p hp').2]
        decide
      have hj : j < acc.size := by
        have : j < 0 + (acc.size - 0 + 1 - 1) / 1 := h2
        simpa using this
      obtain ⟨t1, hv⟩ := hacc.2 j acc[j] (Array.getElem?_eq_getElem hj)
      have hd : acc.getD j .none = .bytes (bs.getD j #[]) t1 := by
        rw [← hv]; simp [hj]
      rw [hany, if_neg (by decide), hd]
      refine wpAny_bind (wpAny_holding (wpAny_of_eq take_eq ?_))
      dsimp only
      refine wpAny_bind (hseq _ ?_)
      dsimp only
      rw [if_neg (by simp)]
      refine wpAny_pure (hQ _ ⟨?_, ?_⟩)
      · dsimp only
        rw [hp]
        have hjb : j < bs.length := by omega
        rw [List.take_add_one, List.getElem?_eq_getElem hjb]
        simp [hjb]
      · intro p hp'
        rcases List.mem_append.mp hp' with h | h
        · exact ht p h
        · rw [List.mem_singleton.mp h]; exact ⟨rfl, rfl⟩
    · obtain ⟨hp, ht⟩ := hst
      have hlen : 0 + (acc.size - 0 + 1 - 1) / 1 = bs.length := by rw [hsz]; simp
      have hp' : st.1 = bs.toArray := by
        rw [hp]
        have : ([:acc.size] : Std.Legacy.Range).size = bs.length := by simp [Std.Legacy.Range.size, hsz]
        rw [this]
        simp
      refine wpAny_bind (wpAny_of_eq payload_eq ?_)
      rw [hp', if_neg (by
        rw [KBy.tooLong_not]
        · decide
        · rw [← Array.foldl_toList, foldl_size]
          simpa using hz)]
      refine wpAny_bind (wpAny_mkBytes ?_ ?_)
      · refine wpAny_bind (wpAny_holding (wpAny_point ?_))
        refine wpAny_bind (letGo_taken _ (fun p h => (ht p h).1) ?_)
        exact wpAny_pure (hq _ _)
      · rw [joined_size, show sizeLine = 16777216 from rfl]; simpa using hz
/-- the join of what a generator gives; S is the list that takes it -/
theorem call_joinG {I : Addr} {St : Nat → Shared → Prop} {Done : Shared → Prop} {bs : List (Array UInt8)} {t : Tok} {Q : Value → Shared → Prop} (hz : (bs.map (·.size)).sum ≤ 16777216) (hl : bs.length ≤ 1000)
    (W : WkG prog w A.in1.in1.in1 I s.heap.objs.size bs.length (fun i v => ∃ t, v = .bytes (bs.getD i #[]) t) St Done) (hT : s.TypeIs (.ref I) "generator") (hI : ∀ (Q : Value → Shared → Prop) (E : Value → Shared → Prop), Q (.ref I) s → wpAny (model prog w) A.in1 (pyIter (.ref I)) Q E s)
    (hst : St 0 { s with heap := s.heap.push { cls := .type "list", data := .seq #[] } })
    (hQ : ∀ s', Done s' → ∀ t' k, Q (.bytes (joined #[] bs) t') { s' with toks := k }) : wpAny (model prog w) A (call (.builtin "bytes.join") [.bytes #[] t, .ref I]) Q E s := by
  refine wpAny_call (codeAny_call_builtin slot_bytes_join.plain entry_bytes_join (slot_bytes_join.check _ _ _ _ _ _ _ _ (typeIs_bytes _ _ _) (args_bytes_join_2 _ _) ?_))
  show wpAny _ A.in1 (joinM .bytes ⟨[.bytes #[] t, .ref I], []⟩) _ _ s
  refine join_rest (S := s.heap.objs.size) t hz _ ?_
  unfold joinItems
  refine wpAny_bind (wpAny_typeOf hT ?_)
  rw [if_neg (by decide)]
  refine wpAny_bind (wpAny_tryCatch (hI _ _ ?_))
  exact call_list_genG W hst (fun s' acc c hd hS hacc => ⟨rfl, acc, c, hacc, hS, fun t' k => hQ s' hd t' k⟩) (by show bs.length ≤ 16777216; omega)
end
end Mine
end
/-! Lg42 -/
section
open PySem PySem.Calls PyProof.Rows
open PySem.W
namespace Mine
/-- while a generator is walked: X are the objects of the walk -/
structure GP (G : Gb) (A : Around) (l : List Env) (D : Lv) (own : List (Addr × OV)) (X : List Addr) (gi : Nat) (g₀ : Heap) (s₀ : Shared) (g : Heap) (s : Shared) : Prop where
  inv : CInv G A l D g own s
  grow : g₀.StaysIn g
  only : ∀ b o, s₀.heap.get? b = some o → g₀.get? b = none → g.get? b = none
  ext : ∀ b o, s₀.heap.get? b = some o → b ∉ frs l → b ∉ hid own → b ∉ X → s.heap.get? b = some o
  out : ∀ b ∈ X, g.get? b = none ∧ b ∉ hid own ∧ b ∉ frs l
  fr : ∀ b ∈ frs l, ∀ o, s₀.heap.get? b = some o → ∃ sl, s.heap.get? b = some { o with slots := sl }
  gens : ∀ (i : Nat) (x : GenState), i ≠ gi → s₀.gens[i]? = some x → s.gens[i]? = some x
  gsz : gi < s.gens.size
def LiveX (X : List Addr) (s : Shared) : Prop := ∀ b ∈ X, (s.heap.get? b).isSome = true
section
variable {G : Gb} {A A2 : Around} {l : List Env} {D : Lv} {own : List (Addr × OV)} {X : List Addr} {gi : Nat} {g₀ g g' : Heap} {s₀ s s' : Shared} {cenv : Env} {C : Addr}
theorem GP.there (P : GP G A l D own X gi g₀ s₀ g s) (L : LiveX X s) {b : Addr} {o : Obj} (e : s₀.heap.get? b = some o) : ∃ o', s.heap.get? b = some o' := by
  by_cases h1 : b ∈ frs l
  · obtain ⟨sl, h⟩ := P.fr b h1 o e; exact ⟨_, h⟩
  by_cases h2 : b ∈ hid own
  · exact P.inv.ownok.there h2
  by_cases h3 : b ∈ X
  · exact Option.isSome_iff_exists.mp (L b h3)
  exact ⟨o, P.ext b o e h1 h2 h3⟩
theorem frs_c (hcf : cenv.frame = some C) : frs (cenv :: l) = C :: frs l := by unfold frs; rw [List.filterMap_cons, hcf]
theorem GP.heap (P : GP G A l D own X gi g₀ s₀ g s) {h' : Heap} (t : Nat) (hk : ∀ b o, b ∉ X → s.heap.get? b = some o → h'.get? b = some o) : GP G A l D own X gi g₀ s₀ g { s with heap := h', toks := t } := by
  have nX : ∀ b o, g.get? b = some o → b ∉ X := fun b o e h => by rw [(P.out b h).1] at e; cases e
  refine ⟨⟨P.inv.ok, P.inv.frames, fun b o e => hk b o (nX b o e) (P.inv.stay b o e), P.inv.base, ?_, ⟨fun p hp => ?_, P.inv.ownok.hide, P.inv.ownok.nd⟩, P.inv.apart, P.inv.bare, P.inv.os, P.inv.dep, P.inv.un, P.inv.hd, P.inv.hx⟩, P.grow, P.only, fun b o e h1 h2 h3 => hk b o h3 (P.ext b o e h1 h2 h3), P.out, fun b hb o e => ?_, P.gens, P.gsz⟩
  · refine funFrames_alive P.inv.ff (fun b hb => (P.inv.ff.mem hb).1) fun b o hb e hd => ⟨o, hk b o (fun h => (P.out b h).2.2 hb) e, hd⟩
  · exact ovAt_keep (fun _ _ e => e) (P.inv.ownok.at_ p hp) fun b hb ob e => hk b ob (fun h => (P.out b h).2.1 (mem_hid hp hb)) e
  · obtain ⟨sl, h⟩ := P.fr b hb o e
    exact ⟨sl, hk b _ (fun h => (P.out b h).2.2 hb) h⟩
theorem GP.gen (P : GP G A l D own X gi g₀ s₀ g s) {y : GenState} (hy : y.bare = true) : GP G A l D own X gi g₀ s₀ g (s.setGen gi y) := by
  refine ⟨⟨P.inv.ok, P.inv.frames, P.inv.stay, P.inv.base, P.inv.ff, P.inv.ownok, P.inv.apart, ?_, P.inv.os, P.inv.dep, P.inv.un, P.inv.hd, P.inv.hx⟩, P.grow, P.only, P.ext, P.out, P.fr, fun i x hi e => ?_, by simpa [Shared.setGen] using P.gsz⟩
  · intro z hz
    obtain ⟨i, hi, rfl⟩ := Array.mem_iff_getElem.mp hz
    by_cases e : i = gi
    · subst e
      have hsz : i < s.gens.size := by simpa [Shared.setGen] using hi
      have : (s.setGen i y).gens[i] = y := by simp [Shared.setGen]
      rw [this]; exact hy
    · have hsz : i < s.gens.size := by simpa [Shared.setGen] using hi
      have h2 : (s.setGen gi y).gens[i]? = s.gens[i]? := by simp [Shared.setGen, Array.getElem?_setIfInBounds, Ne.symm e]
      rw [Array.getElem?_eq_getElem hi, Array.getElem?_eq_getElem hsz] at h2
      rw [Option.some.inj h2]
      exact P.inv.bare _ (Array.getElem_mem hsz)
  · have := P.gens i x hi e
    simpa [Shared.setGen, Array.getElem?_setIfInBounds, Ne.symm hi] using this
theorem GP.call (P : GP G A l D own X gi g₀ s₀ g s) (L : LiveX X s) (hC : C ∈ X) (hcf : cenv.frame = some C) (Q : CPost G A2 (cenv :: l) D g own s g' own s') : GP G A l D own X gi g₀ s₀ g' s' ∧ LiveX X s' := by
  have fc := frs_c (l := l) hcf
  have sub : ∀ b, b ∈ frs l → b ∈ frs (cenv :: l) := fun b hb => by rw [fc]; exact .tail _ hb
  have xl : ∀ b ∈ X, ∃ o, s'.heap.get? b = some o := fun b hb => by
    obtain ⟨o, ho⟩ := Option.isSome_iff_exists.mp (L b hb)
    by_cases e : b = C
    · subst e
      obtain ⟨sl, h⟩ := Q.fr b (by rw [fc]; exact .head _) o ho
      exact ⟨_, h⟩
    · refine ⟨o, Q.ext b o ho (fun h => ?_) (P.out b hb).2.1⟩
      rw [fc] at h
      rcases List.mem_cons.mp h with h | h
      · exact e h
      · exact (P.out b hb).2.2 h
  refine ⟨⟨⟨P.inv.ok, P.inv.frames, Q.inv.stay, Q.inv.base, Q.inv.ff.2.2, Q.inv.ownok, fun b hb h => Q.inv.apart b hb (sub b h), Q.inv.bare, Q.inv.os, P.inv.dep, P.inv.un, P.inv.hd, P.inv.hx.mono Q.grow⟩,
    fun b o e => Q.grow b o (P.grow b o e), fun b o e n => ?_, fun b o e h1 h2 h3 => ?_, fun b hb => ⟨?_, (P.out b hb).2⟩, fun b hb o e => ?_, fun i x hi e => Q.gens i x (P.gens i x hi e), ?_⟩, fun b hb => ?_⟩
  · obtain ⟨o', ho'⟩ := P.there L e
    exact Q.only b o' ho' (P.only b o e n)
  · refine Q.ext b o (P.ext b o e h1 h2 h3) (fun h => ?_) h2
    rw [fc] at h
    rcases List.mem_cons.mp h with h | h
    · subst h; exact h3 hC
    · exact h1 h
  · obtain ⟨o, ho⟩ := Option.isSome_iff_exists.mp (L b hb)
    exact Q.only b o ho (P.out b hb).1
  · obtain ⟨sl, h⟩ := P.fr b hb o e
    obtain ⟨sl2, h2⟩ := Q.fr b (sub b hb) _ h
    exact ⟨sl2, h2⟩
  · have h := Q.gens gi _ (Array.getElem?_eq_getElem P.gsz)
    exact (Array.getElem?_eq_some_iff.mp h).1
  · obtain ⟨o, ho⟩ := xl b hb
    rw [ho]; rfl
/-- the frame of a generator's block is entered -/
theorem GP.cinv (P : GP G A l D own X gi g₀ s₀ g s) {c : Code} {m : Str → Option Value} (hC : C ∈ X) (hcf : cenv.frame = some C) (hk : cenv.scope.kind = .function) (hn : s.heap.Ns C m) (he : c.envs = [cenv]) (hw : c.weight = 1) (hu : c.cUnits = 3) (hdep : A.depth + 1 ≤ D.n) (hun : A.units + 3 ≤ 10 * D.n) : CInv G (A.over c []) (cenv :: l) D g own s := by
  have fc := frs_c (l := l) hcf
  refine ⟨P.inv.ok, ?_, P.inv.stay, P.inv.base, ⟨by rw [hk]; decide, ?_, P.inv.ff⟩, P.inv.ownok, fun b hb h => ?_, P.inv.bare, P.inv.os, ?_, ?_, P.inv.hd, P.inv.hx⟩
  · show pushEnvs c.envs (pushEnvs (envsOf (([] : List Frame).map Frame.where_)) A.frames) = _
    rw [he, P.inv.frames]
    rfl
  · obtain ⟨o, es, ep, ho, hd, _⟩ := hn
    exact ⟨C, o, hcf, (P.out C hC).1, ho, fun vs h => by rw [hd] at h; cases h⟩
  · rw [fc] at h
    rcases List.mem_cons.mp h with h | h
    · subst h; exact (P.out b hC).2.1 hb
    · exact P.inv.apart b hb h
  · show A.depth + frameCount (([] : List Frame).map Frame.where_) + c.weight ≤ D.n
    rw [hw]
    show A.depth + 0 + 1 ≤ D.n
    omega
  · show A.units + unitsOf (([] : List Frame).map Frame.where_) + c.cUnits ≤ 10 * D.n
    rw [hu]
    show A.units + 0 + 3 ≤ 10 * D.n
    omega
/-- a call of a function of the module with one name, in any function's block -/
theorem callName {fnm x : Str} {q1 q2 p : Pos} {f : Addr} {v : Value} {m : Str → Option Value} {Q : Value → Shared → Prop} {E : Value → Shared → Prop} (I : CInv G A2 l D g own s) (hk : cenv.scope.kind = .function) (hgl : cenv.globals = mainGlobals) (hx : cenv.scope.names.lookup fnm = some .globalImplicit) (e : nsIn G.K mainGlobals fnm = some (some (.ref f))) (hf : KeepV G.K (.ref f) = true) (hl : cenv.scope.names.lookup x = some .local) (hn : s.heap.Ns cenv.locals m) (hv : m x = some v)
    (hq : wpAny (model G.prog G.w) A2 (PySem.call (.ref f) [v]) Q E s) (hd : (fnm == ("__debug__" : Str)) = false) (hd2 : (x == ("__debug__" : Str)) = false) (he : eval (.Call (.Name fnm q1) [.Name x q2] [] p) cenv = (do callWith p (← eval (.Name fnm q1) cenv) [] (backTo p (starEach [.Name x q2] cenv)) (backToKw p (keywordEach [] cenv)))) : wpAny (model G.prog G.w) A2 (eval (.Call (.Name fnm q1) [.Name x q2] [] p) cenv) Q E s := by
  rw [he]
  obtain ⟨mg, hg⟩ := I.ok.glob
  have st : G.base.StaysIn s.heap := fun b o q => I.stay _ _ (I.base _ _ q)
  have KIn : G.K.In s.heap := I.ok.K.keeps st
  refine wpAny_bind (Name_function_global hk hx (loadGlobal_global (env := cenv) (by rw [hgl]; exact hg.keeps st) (mg_of I.ok.K hg e) ?_) hd)
  refine callWith_of (P := fun h => G.K.In h) rfl (fun h X => keepV_looks hf _ h X) ?_
  have z : wpAny (model G.prog G.w) A2 (spliced (backTo p (starEach [.Name x q2] cenv))) (fun vs s' => G.K.In s'.heap ∧ wpAny (model G.prog G.w) A2 (PySem.call (.ref f) ([] ++ vs) []) Q E s') E s := by
    refine wpAny_items_cons (wpAny_Name (wpAny_loadName_local hk hl hn hv ?_) hd2) (starEach_plain rfl)
    exact wpAny_items_nil ⟨KIn, hq⟩
  rw [starEach_plain rfl] at z ⊢
  exact evalArgs_plain z
end
end Mine
end
/-! Lg43 -/
section
open PySem PySem.Calls PyProof.Rows
open PySem.W
namespace Mine
/-- the walk of «f(x) for x in xs» stands at i -/
def Hs (G : Gb) (A : Around) (l : List Env) (D : Lv) (own : List (Addr × OV)) (a C I S xs : Addr) (vs : Array Value) (gi : Nat) (g₀ : Heap) (s₀ : Shared) (i : Nat) (s : Shared) : Prop :=
  ∃ g, GP G A l D own [a, C, I, S] gi g₀ s₀ g s ∧ LiveX [a, C, I, S] s ∧ (s.heap.IsListIter I xs i ∧ s.heap.IsList xs vs) ∧ (∃ m, s.heap.Ns C m) ∧ s.heap.IsGen a gi
def HsD (G : Gb) (A : Around) (l : List Env) (D : Lv) (own : List (Addr × OV)) (a C I S : Addr) (gi : Nat) (g₀ : Heap) (s₀ : Shared) (s : Shared) : Prop :=
  ∃ g, GP G A l D own [a, C, I, S] gi g₀ s₀ g s
section
variable {G : Gb} {A : Around} {l : List Env} {D : Lv} {own : List (Addr × OV)} {a C I S xs : Addr} {vs : Array Value} {gi : Nat} {g₀ : Heap} {s₀ : Shared} {cenv : Env} {bs : List (Array UInt8)}
def gR (G : Gb) (A : Around) (l : List Env) (D : Lv) (own : List (Addr × OV)) (a C I S : Addr) (gi : Nat) (g₀ : Heap) (s₀ : Shared) : Nat → Shared → Shared → Prop := fun n s s₁ => n = 0 ∧ HsD G A l D own a C I S gi g₀ s₀ s₁ ∧ s₁.heap.get? S = s.heap.get? S
def gY (G : Gb) (A : Around) (l : List Env) (D : Lv) (own : List (Addr × OV)) (a C I S xs : Addr) (vs : Array Value) (gi : Nat) (g₀ : Heap) (s₀ : Shared) (bs : List (Array UInt8)) : Protocol := fun m s v s₁ kap =>
  (∃ t, v = .bytes (bs.getD (bs.length - 1 - m) #[]) t) ∧ Hs G A l D own a C I S xs vs gi g₀ s₀ (bs.length - m) s₁ ∧ s₁.heap.get? S = s.heap.get? S ∧ ∀ s'', Hs G A l D own a C I S xs vs gi g₀ s₀ (bs.length - m) s'' → kap (.send .none) s''
theorem Hs.heap {i : Nat} {s : Shared} (hxs : xs ∉ [a, C, I, S]) (h : Hs G A l D own a C I S xs vs gi g₀ s₀ i s) {h' : Heap} (t : Nat) (hk : ∀ b o, b ≠ S → s.heap.get? b = some o → h'.get? b = some o) (hne : S ≠ a ∧ S ≠ C ∧ S ≠ I) (hl : (h'.get? S).isSome = true) : Hs G A l D own a C I S xs vs gi g₀ s₀ i { s with heap := h', toks := t } := by
  obtain ⟨g, P, L, ⟨h1, h2⟩, ⟨m, hm⟩, h3⟩ := h
  have hx : xs ≠ S := fun e => hxs (by rw [e]; simp)
  refine ⟨g, P.heap t (fun b o nb e => hk b o (fun e => nb (by rw [e]; simp)) e), fun b hb => ?_, ⟨h1.at fun o e => hk _ o (Ne.symm hne.2.2) e, h2.at fun o e => hk _ o hx e⟩, ⟨m, hm.at' fun o e => hk _ o (Ne.symm hne.2.1) e⟩, ?_⟩
  · by_cases e : b = S
    · rw [e]; exact hl
    · obtain ⟨o, ho⟩ := Option.isSome_iff_exists.mp (L b hb)
      show (h'.get? b).isSome = true
      rw [hk b o e ho]; rfl
  · obtain ⟨o, nm, qn, ho, r⟩ := h3
    exact ⟨o, nm, qn, hk _ o (Ne.symm hne.1) ho, r⟩
theorem Hs.gen {i : Nat} {s : Shared} (h : Hs G A l D own a C I S xs vs gi g₀ s₀ i s) {y : GenState} (hy : y.bare = true) : Hs G A l D own a C I S xs vs gi g₀ s₀ i (s.setGen gi y) := by
  obtain ⟨g, P, L, h1, h2, h3⟩ := h
  exact ⟨g, P.gen hy, L, h1, h2, h3⟩
theorem gseg {iter : Expr} {fnm x : Str} {px q1 q2 p : Pos} {scope : Scope} {pos : Pos} {f : Addr} {ds : List AV}
    (hh : A.handled = none) (hx : cenv.scope.names.lookup x = some .local) (hk : cenv.scope.kind = .function) (hco : cenv.scope.isCoroutine = false) (hcl : cenv.locals = C) (hcf : cenv.frame = some C) (hgl : cenv.globals = mainGlobals) (hfn : cenv.scope.names.lookup fnm = some .globalImplicit)
    (e : nsIn G.K mainGlobals fnm = some (some (.ref f))) (hf : KeepV G.K (.ref f) = true) (hd : (fnm == ("__debug__" : Str)) = false) (hd2 : (x == ("__debug__" : Str)) = false)
    (hev : eval (.Call (.Name fnm q1) [.Name x q2] [] p) cenv = (do callWith p (← eval (.Name fnm q1) cenv) [] (backTo p (starEach [.Name x q2] cenv)) (backToKw p (keywordEach [] cenv))))
    (hnd : [a, C, I, S].Nodup) (hxs : xs ∉ [a, C, I, S]) (hxg : ∃ o, g₀.get? xs = some o) (hdep : A.depth + 1 ≤ D.n) (hun : A.units + 3 ≤ 10 * D.n)
    (hR : RelL g₀ vs.toList ds) (hlen : ds.length = bs.length) (hF : ∀ (i : Nat) d, ds[i]? = some d → Fn G D (.ref f) [d] [] own (fun v own' => own' = own ∧ v = .bytes (bs.getD i #[])) (fun _ _ => False)) :
    ∀ (k i : Nat) (sr s : Shared), bs.length - i = k → i ≤ bs.length → Hs G A l D own a C I S xs vs gi g₀ s₀ i s → s.heap.get? S = sr.heap.get? S →
      Seg (model G.prog G.w) A (fun n s r s₁ => r = .ok .next ∧ gR G A l D own a C I S gi g₀ s₀ n s s₁) (gY G A l D own a C I S xs vs gi g₀ s₀ bs) (bs.length - i) sr
        (.compLoop (.GeneratorExp (.Call (.Name fnm q1) [.Name x q2] [] p) [⟨.Name x px, iter, [], 0⟩] scope pos) 0 (.ref I) .none cenv)
        ((model G.prog G.w).den (.compLoop (.GeneratorExp (.Call (.Name fnm q1) [.Name x q2] [] p) [⟨.Name x px, iter, [], 0⟩] scope pos) 0 (.ref I) .none cenv)) [] s := by
  subst hcl
  have hh' : (A.over (.compLoop (.GeneratorExp (.Call (.Name fnm q1) [.Name x q2] [] p) [⟨.Name x px, iter, [], 0⟩] scope pos) 0 (.ref I) .none cenv) []).handled = none := hh
  have n1 : a ≠ cenv.locals ∧ a ≠ I ∧ a ≠ S ∧ cenv.locals ≠ I ∧ cenv.locals ≠ S ∧ I ≠ S := by
    simp only [List.nodup_cons, List.mem_cons, List.not_mem_nil, or_false, not_or] at hnd
    exact ⟨hnd.1.1, hnd.1.2.1, hnd.1.2.2, hnd.2.1.1, hnd.2.1.2, hnd.2.2.1⟩
  have x1 : xs ≠ a ∧ xs ≠ cenv.locals ∧ xs ≠ I ∧ xs ≠ S := by simpa using hxs
  have W : ∀ A' : Around, A'.handled = none → Walks G.prog G.w A' I [I, xs] [I] vs.size (fun i v => vs[i]? = some v) (fun i h => h.IsListIter I xs i ∧ h.IsList xs vs) := fun A' hA => Walks.list hA I xs x1.2.2.1 vs
  have hvs : vs.size = bs.length := by rw [← hlen, ← hR.length]; simp
  intro k
  induction k with
  | zero =>
    intro i sr s hk0 hi hst hS
    have hin : i = bs.length := by omega
    subst hin
    obtain ⟨g, P, LX, hL, ⟨m, hm⟩, hG⟩ := hst
    show Seg _ A _ _ _ sr _ ((compTurn (.GeneratorExp (.Call (.Name fnm q1) [.Name x q2] [] p) [⟨.Name x px, iter, [], 0⟩] scope pos) 0 (.ref I) .none cenv).onRaise (leaving cenv)) [] s
    rw [compTurn_gen, Sem.onRaise_eq_wrap]
    refine seg_bind_wrap (wpAny_standAt ?_)
    refine seg_bind_wrap ((W _ hh').done s _ _ (by rw [hvs]; exact hL) fun h' tk hk' => ?_)
    refine seg_end (.ok .next) ⟨rfl, by omega, ⟨g, P.heap tk (fun b o nb e => hk' b o (fun h => nb (by rw [List.mem_singleton.mp h]; simp)) e)⟩, ?_⟩
    obtain ⟨o, ho⟩ := Option.isSome_iff_exists.mp (LX S (by simp))
    show h'.get? S = _
    rw [hk' S o (by simpa using Ne.symm n1.2.2.2.2.2) ho, ← hS, ho]
  | succ k ih =>
    intro i sr s hk0 hi hst hS
    have hlt : i < bs.length := by omega
    obtain ⟨g, P, LX, hL, ⟨m, hm⟩, hG⟩ := hst
    show Seg _ A _ _ _ sr _ ((compTurn (.GeneratorExp (.Call (.Name fnm q1) [.Name x q2] [] p) [⟨.Name x px, iter, [], 0⟩] scope pos) 0 (.ref I) .none cenv).onRaise (leaving cenv)) [] s
    rw [compTurn_gen, Sem.onRaise_eq_wrap]
    refine seg_bind_wrap (wpAny_standAt ?_)
    refine seg_bind_wrap ((W _ hh').item i s _ _ (by omega) hL fun v h₁ tk₁ hv hL₁ hk₁ => ?_)
    refine seg_bind_wrap (wpAny_of_eq (rfl : letOwnedTupleGo (.Name x px) (.ref I) v = pure ()) ?_)
    have hkind : cenv.kindOf x = some .local := hx
    have hp : (cenv.scope.kind == .class || (cenv.scope.kind == .module && cenv.locals != cenv.globals)) = false := by rw [hk]; rfl
    have hC1 : ∀ b ∈ [I], b ≠ cenv.locals := fun b hb => by rw [List.mem_singleton.mp hb]; exact Ne.symm n1.2.2.2.1
    refine seg_bind_wrap (wpAny_assign_Name (wpAny_storeName_local hkind (hm.at' fun o e => hk₁ _ o (by simpa using n1.2.2.2.1) e) (fun h₂ hn₂ hs₂ => ?_) hp))
    have up₂ : ∀ b o, b ≠ cenv.locals → b ≠ I → s.heap.get? b = some o → h₂.get? b = some o := fun b o h1 h2 e => hs₂.extBut b o h1 (hk₁ b o (by simpa using h2) e)
    have P₂ : GP G A l D own [a, cenv.locals, I, S] gi g₀ s₀ g { s with heap := h₂, toks := tk₁ + 1 } := P.heap _ fun b o nb e => up₂ b o (fun h => nb (by rw [h]; simp)) (fun h => nb (by rw [h]; simp)) e
    have hL₂ : h₂.IsListIter I xs (i + 1) ∧ h₂.IsList xs vs := ⟨hL₁.1.at fun o e => hs₂.extBut _ o (Ne.symm n1.2.2.2.1) e, hL₁.2.at fun o e => hs₂.extBut _ o x1.2.1 e⟩
    have hG₂ : h₂.IsGen a gi := by
      obtain ⟨o, nm, qn, ho, r⟩ := hG
      exact ⟨o, nm, qn, up₂ _ o n1.1 n1.2.1 ho, r⟩
    have hS₂ : h₂.get? S = sr.heap.get? S := by
      obtain ⟨o, ho⟩ := Option.isSome_iff_exists.mp (LX S (by simp))
      rw [up₂ S o (Ne.symm n1.2.2.2.2.1) (Ne.symm n1.2.2.2.2.2) ho, ← hS, ho]
    have LX₂ : LiveX [a, cenv.locals, I, S] { s with heap := h₂, toks := tk₁ + 1 } := by
      intro b hb
      show (h₂.get? b).isSome = true
      by_cases e1 : b = cenv.locals
      · obtain ⟨o, es, ep, ho, _⟩ := hn₂
        rw [e1, ho]; rfl
      · by_cases e2 : b = I
        · obtain ⟨o, ho⟩ := listIter_get hL₂.1
          rw [e2, ho]; rfl
        · obtain ⟨o, ho⟩ := Option.isSome_iff_exists.mp (LX b hb)
          rw [up₂ b o e1 e2 ho]; rfl
    refine seg_bind_wrap (wpAny_pure ?_)
    simp only [if_true]
    have hy : ∀ v, yieldOut cenv v = yieldValue v := fun v => by simp only [yieldOut, hco, Bool.false_eq_true, if_false]
    simp only [hy]
    rw [Sem.bind_eq_wrap', Sem.bind_eq_wrap', Sem.wrap_wrap, Sem.wrap_wrap]
    obtain ⟨m', hm'⟩ : ∃ m', bs.length - i = m' + 1 := ⟨bs.length - i - 1, by omega⟩
    rw [hm']
    refine seg_wrap ?_
    have C2 := P₂.cinv (c := .compLoop (.GeneratorExp (.Call (.Name fnm q1) [.Name x q2] [] p) [⟨.Name x px, iter, [], 0⟩] scope pos) 0 (.ref I) .none cenv) (by simp) hcf hk hn₂ rfl rfl rfl hdep hun
    have hdi : ds[i]? = some ds[i] := List.getElem?_eq_getElem (by omega)
    obtain ⟨v1, hv1, Rv⟩ := hR.get hdi
    have hvv : some v = some v1 := by rw [← hv1, Array.getElem?_toList]; exact hv.symm
    cases hvv
    refine callName (v := v) C2 hk hgl hfn e hf hx hn₂ (by simp) ?_ hd hd2 hev
    refine wpAny_call (hF i _ hdi _ _ g _ [v] [] C2 (.cons (Rv.mono P.grow) .nil) .nil _ (fun y s' g' a' own' Q Ry q => ?_) fun e s' g' x own' Q T q => q.elim)
    obtain ⟨hown, rfl⟩ := q
    rw [hown] at Q
    cases Ry with
    | bytes _ t =>
    obtain ⟨P', LX'⟩ := P₂.call LX₂ (by simp) hcf Q
    have fc := frs_c (l := l) hcf
    have kp : ∀ b, b ∉ frs l → b ∉ hid own → b ≠ cenv.locals → ∀ o, h₂.get? b = some o → s'.heap.get? b = some o := fun b h1 h2 h3 o e => Q.ext b o e (by rw [fc]; simp [h1, h3]) h2
    have oX : ∀ b ∈ [a, cenv.locals, I, S], b ∉ hid own ∧ b ∉ frs l := fun b hb => (P.out b hb).2
    have oxs : xs ∉ frs l ∧ xs ∉ hid own := by
      obtain ⟨o, ho⟩ := hxg
      have hg := P.grow _ _ ho
      refine ⟨fun h => ?_, fun h => ?_⟩
      · rw [(P.inv.ff.mem h).1] at hg; cases hg
      · rw [P.inv.ownok.hide _ h] at hg; cases hg
    have hH : Hs G A l D own a cenv.locals I S xs vs gi g₀ s₀ (i + 1) s' := by
      refine ⟨g', P', LX', ⟨hL₂.1.at fun o e => kp I (oX I (by simp)).2 (oX I (by simp)).1 (Ne.symm n1.2.2.2.1) o e, hL₂.2.at fun o e => kp xs oxs.1 oxs.2 x1.2.1 o e⟩, ?_, ?_⟩
      · obtain ⟨o, es, ep, ho, hd, q⟩ := hn₂
        obtain ⟨sl, h⟩ := Q.fr cenv.locals (by rw [fc]; exact .head _) o ho
        exact ⟨_, _, es, ep, h, hd, q⟩
      · obtain ⟨o, nm, qn, ho, r⟩ := hG₂
        exact ⟨o, nm, qn, kp a (oX a (by simp)).2 (oX a (by simp)).1 n1.1 o ho, r⟩
    have hS3 : s'.heap.get? S = sr.heap.get? S := by
      obtain ⟨o, ho⟩ := Option.isSome_iff_exists.mp (LX₂ S (by simp))
      rw [kp S (oX S (by simp)).2 (oX S (by simp)).1 (Ne.symm n1.2.2.2.2.1) o ho, ← hS₂]
      exact ho.symm
    show Seg _ _ _ _ _ _ _ _ _ _
    refine seg_at (seg_yield rfl rfl rfl ⟨⟨t, ?_⟩, ?_, hS3, fun s'' hal => ?_⟩)
    · rw [show bs.length - 1 - m' = i from by omega]
    · rw [show bs.length - m' = i + 1 from by omega]; exact hH
    · rw [show bs.length - m' = i + 1 from by omega] at hal
      have := ih (i + 1) s'' s'' (by omega) hlt hal rfl
      rw [show bs.length - (i + 1) = m' from by omega] at this
      exact seg_again rfl this
end
end Mine
end
/-! Lg44 -/
section
open PySem PySem.Calls PyProof.Rows
open PySem.W
namespace Mine
section
variable {G : Gb} {A : Around} {l : List Env} {D : Lv} {own : List (Addr × OV)} {a C I S xs : Addr} {vs : Array Value} {gi : Nat} {g₀ : Heap} {s₀ : Shared} {cenv : Env} {bs : List (Array UInt8)}
/-- the state of the walk, with what its generator does when it is asked next -/
def GSt (G : Gb) (A : Around) (l : List Env) (D : Lv) (own : List (Addr × OV)) (a C I S xs : Addr) (vs : Array Value) (gi : Nat) (g₀ : Heap) (s₀ : Shared) (bs : List (Array UInt8)) (i : Nat) (s : Shared) : Prop :=
  Hs G A l D own a C I S xs vs gi g₀ s₀ i s ∧ ∃ gs, s.gens[gi]? = some gs ∧ ∀ sr, Hs G A l D own a C I S xs vs gi g₀ s₀ i sr →
    gs.Goes (model G.prog G.w) A (fun n s r s₁ => r = .ok .next ∧ gR G A l D own a C I S gi g₀ s₀ n s s₁) (gY G A l D own a C I S xs vs gi g₀ s₀ bs) (bs.length - i) (.send .none) sr
theorem wkG {Ap : Around} (hh : Ap.handled = none) (hnd : [a, C, I, S].Nodup) (hxs : xs ∉ [a, C, I, S]) (hroom : Ap.depth < recursionLimit) :
    WkG G.prog G.w Ap a S bs.length (fun i v => ∃ t, v = .bytes (bs.getD i #[]) t) (GSt G Ap.in1 l D own a C I S xs vs gi g₀ s₀ bs) (HsD G Ap.in1 l D own a C I S gi g₀ s₀) where
  gen := fun i s h => by
    obtain ⟨⟨g, P, L, h1, h2, h3⟩, _⟩ := h
    exact h3.typeIs
  ne := by
    simp only [List.nodup_cons, List.mem_cons, List.not_mem_nil, or_false, not_or] at hnd
    exact Ne.symm hnd.1.2.2
  frame := fun i s h' tk h hk _ hl => by
    simp only [List.nodup_cons, List.mem_cons, List.not_mem_nil, or_false, not_or] at hnd
    obtain ⟨hs, r⟩ := h
    exact ⟨hs.heap hxs tk hk ⟨Ne.symm hnd.1.2.2, Ne.symm hnd.2.1.2, Ne.symm hnd.2.2.1⟩ hl, r⟩
  item := fun i s oS Q E hi h hS hQ => by
    obtain ⟨hs, gs, hgs, hgo⟩ := h
    obtain ⟨m, hm⟩ : ∃ m, bs.length - i = m + 1 := ⟨bs.length - i - 1, by omega⟩
    have hrun := hs.gen (y := .running) rfl
    have hgo := hgo _ hrun
    obtain ⟨g, P, L, h1, h2, h3⟩ := hs
    have hl : s.heap.NoLimit := P.inv.ok.nolimit.keeps fun b o e => P.inv.stay _ _ (P.inv.base _ _ e)
    rw [hm] at hgo
    refine wpAny_pyNext_genexpQ (P := gR G Ap.in1 l D own a C I S gi g₀ s₀) hh hl hroom h3 hgs hgo (fun v s₁ gs' hb hv => ?_) (fun s₁ hp h' hk => ?_)
    · obtain ⟨⟨t, hv⟩, hH, hS1, hkap⟩ := hv
      rw [show bs.length - 1 - (m + 1 - 1) = i from by omega] at hv
      rw [show bs.length - (m + 1 - 1) = i + 1 from by omega] at hH hkap
      refine hQ v _ ⟨t, hv⟩ ⟨hH.gen hb, gs', ?_, fun sr hr => ?_⟩ (by rw [show (s₁.setGen gi gs').heap = s₁.heap from rfl, hS1]; exact hS)
      · have hsz : gi < s₁.gens.size := by
          obtain ⟨g1, P1, _⟩ := hH
          exact P1.gsz
        simp [Shared.setGen, hsz]
      · rw [show bs.length - (i + 1) = m from by omega]
        exact hkap sr hr
    · exact absurd hp.1 (by omega)
  done := fun s oS Q E h hS hQ => by
    obtain ⟨hs, gs, hgs, hgo⟩ := h
    have hrun := hs.gen (y := .running) rfl
    have hgo := hgo _ hrun
    obtain ⟨g, P, L, h1, h2, h3⟩ := hs
    have hl : s.heap.NoLimit := P.inv.ok.nolimit.keeps fun b o e => P.inv.stay _ _ (P.inv.base _ _ e)
    rw [Nat.sub_self] at hgo
    refine wpAny_pyNext_genexpQ (P := gR G Ap.in1 l D own a C I S gi g₀ s₀) hh hl hroom h3 hgs hgo (fun v s₁ gs' hb hv => ?_) (fun s₁ hp h' hk => ?_)
    · obtain ⟨_, hH, _, hkap⟩ := hv
      exact (hkap s₁ hH).elim
    · obtain ⟨_, ⟨g', P'⟩, hS1⟩ := hp
      have P2 := (P'.gen (y := .finished) rfl).heap (s₁.setGen gi .finished).toks (h' := h') fun b o _ e => hk b o e
      exact hQ _ ⟨g', P2⟩ (hk S oS (by rw [hS1]; exact hS))
  self := fun i s Q E h hQ => by
    obtain ⟨⟨g, P, L, h1, h2, h3⟩, _⟩ := h
    exact wpAny_pyIter_gen h3 hQ
end
end Mine
end
/-! Lg46 -/
section
open PySem PySem.Calls PyProof.Rows
open PySem.W
namespace Mine
section
variable {G : Gb} {A : Around} {l : List Env} {D : Lv} {own : List (Addr × OV)} {a C I S xs : Addr} {vs : Array Value} {gi : Nat} {g₀ : Heap} {s₀ : Shared} {cenv : Env} {bs : List (Array UInt8)}
theorem gstart {nm fnm x : Str} {pn px q1 q2 p : Pos} {scope : Scope} {pos : Pos} {f : Addr} {ds : List AV}
    (hh : A.handled = none) (hx : cenv.scope.names.lookup x = some .local) (hk : cenv.scope.kind = .function) (hco : cenv.scope.isCoroutine = false) (hcl : cenv.locals = C) (hcf : cenv.frame = some C) (hgl : cenv.globals = mainGlobals) (hfn : cenv.scope.names.lookup fnm = some .globalImplicit)
    (e : nsIn G.K mainGlobals fnm = some (some (.ref f))) (hf : KeepV G.K (.ref f) = true) (hd : (fnm == ("__debug__" : Str)) = false) (hd2 : (x == ("__debug__" : Str)) = false)
    (hev : eval (.Call (.Name fnm q1) [.Name x q2] [] p) cenv = (do callWith p (← eval (.Name fnm q1) cenv) [] (backTo p (starEach [.Name x q2] cenv)) (backToKw p (keywordEach [] cenv))))
    (hnd : [a, C, I, S].Nodup) (hxs : xs ∉ [a, C, I, S]) (hxg : ∃ o, g₀.get? xs = some o) (hdep : A.depth + 1 ≤ D.n) (hun : A.units + 3 ≤ 10 * D.n)
    (hR : RelL g₀ vs.toList ds) (hlen : ds.length = bs.length) (hF : ∀ (i : Nat) d, ds[i]? = some d → Fn G D (.ref f) [d] [] own (fun v own' => own' = own ∧ v = .bytes (bs.getD i #[])) (fun _ _ => False))
    (s : Shared) (hst : Hs G A l D own a C I S xs vs gi g₀ s₀ 0 s) :
      Seg (model G.prog G.w) A (fun n s r s₁ => r = .ok .next ∧ gR G A l D own a C I S gi g₀ s₀ n s s₁) (gY G A l D own a C I S xs vs gi g₀ s₀ bs) bs.length s
        (.compStart (.GeneratorExp (.Call (.Name fnm q1) [.Name x q2] [] p) [⟨.Name x px, .Name nm pn, [], 0⟩] scope pos) 0 (.ref I) .none cenv)
        ((model G.prog G.w).den (.compStart (.GeneratorExp (.Call (.Name fnm q1) [.Name x q2] [] p) [⟨.Name x px, .Name nm pn, [], 0⟩] scope pos) 0 (.ref I) .none cenv)) [] s := by
  have hh' : (A.over (.compStart (.GeneratorExp (.Call (.Name fnm q1) [.Name x q2] [] p) [⟨.Name x px, .Name nm pn, [], 0⟩] scope pos) 0 (.ref I) .none cenv) []).handled = none := hh
  have loop := gseg (iter := .Name nm pn) (px := px) (scope := scope) (pos := pos) (s₀ := s₀) (gi := gi) hh hx hk hco hcl hcf hgl hfn e hf hd hd2 hev hnd hxs hxg hdep hun hR hlen hF bs.length 0 s s (Nat.sub_zero _) (Nat.zero_le _) hst rfl
  rw [Nat.sub_zero] at loop
  show Seg _ A _ _ _ s _ ((compStart (.GeneratorExp (.Call (.Name fnm q1) [.Name x q2] [] p) [⟨.Name x px, .Name nm pn, [], 0⟩] scope pos) 0 (.ref I) .none cenv).onRaise (leaving cenv)) [] s
  unfold compStart
  rw [Sem.onRaise_eq_wrap]
  show Seg _ A _ _ _ s _ ((ask >>= _).wrap _ _ _ _) [] s
  obtain ⟨g, P, L, h1, h2, h3⟩ := hst
  have x1 : xs ≠ I := fun e => hxs (by rw [e]; simp)
  refine seg_bind_wrap (wpAny_askSetting ?_)
  split
  · exact seg_again rfl loop
  · refine seg_bind_wrap (wpAny_rule ?_)
    show Seg _ A _ _ _ s _ ((standAt _ >>= _).wrap _ _ _ _) [] s
    exact seg_bind_wrap (wpAny_standAt (seg_bind_wrap ((Walks.list (prog := G.prog) (w := G.w) hh' I xs x1 vs).self 0 s _ _ h1 (seg_again rfl loop))))
theorem GP.start {P c : Addr} {g : Heap} {s s₂ : Shared} {A' : Around} {D' : Lv} (hX : ∀ b ∈ [a, C, I, S], s.heap.get? b = none ∧ (s₂.heap.get? b).isSome = true) (I₀ : CInv G A l D g [(P, .ptab c)] s) (hA : A'.frames = A.frames ∧ A'.handled = A.handled) (hdep : A'.depth ≤ D'.n) (hun : A'.units ≤ 10 * D'.n) (hqq : D'.q = true → D.q = true)
    (hk : ∀ b o, b ≠ P → s.heap.get? b = some o → s₂.heap.get? b = some o) (hP : ∃ ps, s₂.heap.IsCode c P ps ∧ s₂.heap.TableAt c P ps) (hb : AllBare s₂.gens) (hos : s₂.os = s.os) (hgi : gi < s₂.gens.size) : GP G A' l D' [(P, .ptab c)] [a, C, I, S] gi g s₂ g s₂ := by
  have hPg : g.get? P = none := I₀.ownok.hide P (by simp [hid, OV.hid])
  have nX : ∀ b ∈ [a, C, I, S], g.get? b = none := fun b hb => by
    cases q : g.get? b with
    | none => rfl
    | some o => have := I₀.stay _ _ q; rw [(hX b hb).1] at this; cases this
  refine ⟨⟨I₀.ok, by rw [hA.1]; exact I₀.frames, fun b o e => hk b o (fun h => by rw [h, hPg] at e; cases e) (I₀.stay b o e), I₀.base, ?_, ⟨fun p hp => ?_, I₀.ownok.hide, I₀.ownok.nd⟩, I₀.apart, hb, hos.trans I₀.os, hdep, hun, fun q => by rw [hA.2]; exact I₀.hd (hqq q), fun v hv => I₀.hx v (by rw [← hA.2]; exact hv)⟩, fun _ _ e => e, fun _ _ _ e => e, fun _ _ e _ _ _ => e, fun b hb => ⟨nX b hb, fun h => ?_, fun h => ?_⟩, fun b _ o e => ⟨o.slots, e⟩, fun _ _ _ e => e, hgi⟩
  · refine funFrames_alive I₀.ff (fun b hb => (I₀.ff.mem hb).1) fun b o hb e hd => ⟨o, hk b o (fun h => I₀.apart P (by simp [hid, OV.hid]) (h ▸ hb)) e, hd⟩
  · rw [List.mem_singleton.mp hp]
    have := I₀.ownok.at_ _ hp
    rw [List.mem_singleton.mp hp] at this
    obtain ⟨ps, ⟨o, vs, file, tf, flags, tg, inF, text, tt, op, ho, q1, q2, q3, q4, q5, q6, q7, q8, q9, q10⟩, _, hT⟩ := hP
    dsimp only at this ⊢
    cases this with
    | ptab c1 _ _ _ => exact .ptab c1 hT rfl q9
  · obtain ⟨o, ho⟩ := I₀.ownok.there h
    rw [(hX b hb).1] at ho; cases ho
  · obtain ⟨_, o, ho, _⟩ := I₀.ff.mem h
    rw [(hX b hb).1] at ho; cases ho
theorem GP.fin {P c : Addr} {g g' : Heap} {s s₂ s' : Shared} {A' : Around} {D' : Lv} (hX : ∀ b ∈ [a, C, I, S], s.heap.get? b = none) (I₀ : CInv G A l D g [(P, .ptab c)] s) (hk : ∀ b o, b ≠ P → s.heap.get? b = some o → s₂.heap.get? b = some o) (hP : ∃ o, s₂.heap.get? P = some o) (hg : ∀ (i : Nat) (x : GenState), s.gens[i]? = some x → i ≠ gi ∧ s₂.gens[i]? = some x)
    (F : GP G A' l D' [(P, .ptab c)] [a, C, I, S] gi g s₂ g' s') (t : Nat) : CPost G A l D g [(P, .ptab c)] s g' [(P, .ptab c)] { s' with toks := t } := by
  refine ⟨⟨I₀.ok, I₀.frames, F.inv.stay, F.inv.base, F.inv.ff, F.inv.ownok, F.inv.apart, F.inv.bare, F.inv.os, I₀.dep, I₀.un, I₀.hd, I₀.hx.mono F.grow⟩, F.grow, fun b o e n => ?_, fun b o e h1 h2 => ?_, fun b hb o e => ?_, ⟨List.Subset.refl _, fun b hb => .inl hb⟩, fun i x e => F.gens i x (hg i x e).1 (hg i x e).2⟩
  · by_cases h : b = P
    · obtain ⟨o', ho'⟩ := hP
      exact F.only b o' (h ▸ ho') n
    · exact F.only b o (hk b o h e) n
  · refine F.ext b o (hk b o (fun h => h2 (by rw [h]; simp [hid, OV.hid])) e) h1 h2 fun h => ?_
    rw [hX b h] at e; cases e
  · exact F.fr b hb o (hk b o (fun h => I₀.apart P (by simp [hid, OV.hid]) (h ▸ hb)) e)
end
end Mine
end
/-! Lg47 -/
section
open PySem PySem.Calls PyProof.Rows
open PySem.W
open PySem.Builtin.Bytes
namespace Mine
/-- the module's name for the built-in names is a module whose names are the built-in ones -/
def biIn (K : Frag) : Bool := match nsIn K mainGlobals "__builtins__" with
  | some (some (.ref b)) => b != builtinsNs && (match K.lookup b with
    | some ⟨c, some d, .plain, _⟩ => c == .type "module" && d == builtinsNs
    | _ => false)
  | _ => false
/-- the same, said of the world -/
def BiOk (G : Gb) : Prop := ∃ b o, nsIn G.K mainGlobals "__builtins__" = some (some (.ref b)) ∧ b ≠ builtinsNs ∧ G.base.get? b = some o ∧ o.cls = .type "module" ∧ o.dict = some builtinsNs ∧ o.data = .plain
theorem BiOk.of {G : Gb} (ok : G.K.In G.base) (e : biIn G.K = true) : BiOk G := by
  unfold biIn at e
  split at e
  · rename_i b hb
    rw [Bool.and_eq_true] at e
    obtain ⟨e1, e2⟩ := e
    split at e2
    · rename_i c d sl ho
      rw [Bool.and_eq_true, beq_iff_eq, beq_iff_eq] at e2
      obtain ⟨rfl, rfl⟩ := e2
      exact ⟨b, _, hb, by simpa using e1, ok _ _ ho, rfl, rfl, rfl⟩
    · cases e2
  · cases e
theorem builtins_at {G : Gb} {prog : Program} {w : World} {A : Around} {E : Value → Shared → Prop} {s : Shared} {run : Addr} {Q : Addr → Shared → Prop} {mg : Str → Option Value} (X : ∀ b o, G.base.get? b = some o → s.heap.get? b = some o) (hg : s.heap.Ns mainGlobals mg) (hm : ∀ x v, nsIn G.K mainGlobals x = some (some v) → mg x = some v) (e : BiOk G) (h : Q builtinsNs s) : wpAny (model prog w) A (builtinsFor mainGlobals run) Q E s := by
  obtain ⟨b, o, hb, hne, ho, h1, h2, h3⟩ := e
  exact wpAny_builtinsFor hg (hm _ _ hb) hne (X _ _ ho) h1 h2 h3 h
section
variable {G : Gb} {S : St} {r : Rt} {g g' : Heap} {σ σ' : AS} {s s' : Shared} {k : AV → AS → Prop} {kx : AX → AS → Prop} {bs : List (Array UInt8)}
/-- a generator expression's code: its place in the table, found or laid -/
theorem genexprCodeT {prog : Program} {w : World} {A : Around} {E : Value → Shared → Prop} {s : Shared} {env : Env} {c P : Addr} {ps : Array Value} {pos : Pos} {qualname : Str} {scope : Scope} {Q : Value → Shared → Prop} (hc : env.code = .ref c) (hok : s.heap.IsCode c P ps) (htab : s.heap.TableAt c P ps)
    (hQ : ∀ code h' tk ps', Heap.ExtBut P s.heap h' → h'.IsCode c P ps' → h'.TableAt c P ps' → Q code { s with heap := h', toks := tk }) : wpAny (model prog w) A (genexprCode env pos qualname scope) Q E s := by
  cases hnf : codeAmong pos ps.toList with
  | some cv => exact wpAny_genexprCode_hit hc hok hnf (hQ cv s.heap s.toks ps (Heap.ExtBut.refl _ _) hok htab)
  | none => exact wpAny_genexprCodeX hc hok htab hnf fun c' h' tk h1 h2 h3 h4 h5 h6 h7 => hQ _ _ _ _ h1 h4 h6
theorem EV_JoinGen (hq : S.D.q = true) (hc : S.comp = false) {c P : Addr} {rest : List (Addr × OV)} (hσ : σ.own = (P, .ptab c) :: rest) (hcode : S.code = .ref c) (hb : BiOk G) (hD : S.D.n + 20 ≤ 900)
    (i : Nat) {nm fnm x : Str} {ds : List AV} {u : Nat} {qc ap q1 q2 q px pn pos p : Pos} {scope : Scope} {f : Addr} (hi : S.names[i]? = some nm) (hl : σ.loc[i]? = some (some (.list ds))) (e : nsIn G.K mainGlobals fnm = some (some (.ref f))) (hf : KeepV G.K (.ref f) = true)
    (hlen : ds.length = bs.length) (hbl : bs.length ≤ 1000) (hz : (bs.map (·.size)).sum ≤ 16777216)
    (hF : ∀ (i : Nat) d, ds[i]? = some d → Fn G S.D.up (.ref f) [d] [] [(P, .ptab c)] (fun v own' => own' = [(P, .ptab c)] ∧ v = .bytes (bs.getD i #[])) (fun _ _ => False))
    (h : k (.bytes (joined #[] bs)) σ)
    (hx : scope.names.lookup x = some .local := by rfl) (h0 : scope.names.lookup (".0" : Str) = some .local := by rfl) (hcell : ∀ y ∈ scope.names, y.2 ≠ .cell := by decide) (hk : scope.kind = .function := by rfl) (hco : scope.isCoroutine = false := by rfl) (hfn : scope.names.lookup fnm = some .globalImplicit := by rfl) (hclos : ∀ env, closureFor scope env = pure [] := by intro env; rfl)
    (hd : (fnm == ("__debug__" : Str)) = false := by decide) (hd2 : (x == ("__debug__" : Str)) = false := by decide) (hnd : (nm == ("__debug__" : Str)) = false := by decide) (hnc : (nm == ("__classdict__" : Str)) = false := by decide)
    (hev : ∀ env, eval (.Call (.Name fnm q1) [.Name x q2] [] q) env = (do callWith q (← eval (.Name fnm q1) env) [] (backTo q (starEach [.Name x q2] env)) (backToKw q (keywordEach [] env))) := by intro env; rfl)
    (he : ∀ env, eval (.Call (.Attribute (.Constant (.bytes []) u qc) "join" ap) [.GeneratorExp (.Call (.Name fnm q1) [.Name x q2] [] q) [⟨.Name x px, .Name nm pn, [], 0⟩] scope pos] [] p) env = (do
      let ov ← eval (.Constant (.bytes []) u qc) env
      standAt ap.atName
      let (f, first) ← holding [ov] (getMethod ov "join" (do return (← importBound (.Constant (.bytes []) u qc) env).getD true))
      callWith p f first (backTo p (starEach [.GeneratorExp (.Call (.Name fnm q1) [.Name x q2] [] q) [⟨.Name x px, .Name nm pn, [], 0⟩] scope pos] env)) (backToKw p (keywordEach [] env))) := by intro env; rfl) :
    EV G S σ (.Call (.Attribute (.Constant (.bytes []) u qc) "join" ap) [.GeneratorExp (.Call (.Name fnm q1) [.Name x q2] [] q) [⟨.Name x px, .Name nm pn, [], 0⟩] scope pos] [] p) k kx := fun r g s I Q E hq' hx' => by
  have hee := I.envE hc
  refine methodCall_KW ((EV_bytes (G := G) (S := S) (b := []) (k := fun a σ1 => a = .bytes #[] ∧ σ1 = σ) (kx := fun _ _ => False) ⟨rfl, rfl⟩) r g s I _ _ (fun va s1 g1 a σ1 P1 R1 h1 => ?_) (fun _ _ _ _ _ _ _ z => z.elim)) (he _)
  obtain ⟨rfl, h1⟩ := h1
  obtain rfl := h1.symm
  cases R1 with
  | bytes _ t =>
  refine KBd.method_of (.bytes _ t) (typeIs_bytes _ _ _) slot_bytes_join type_bytes_join KBd.noRef ?_
  refine callWith_of (P := fun _ => True) rfl (fun h _ => ⟨.machine, .inr (.inl rfl), Looks.of_pure rfl⟩) ?_
  dsimp only
  have z : wpAny (model G.prog G.w) r.A (spliced (backTo p (starEach [.GeneratorExp (.Call (.Name fnm q1) [.Name x q2] [] q) [⟨.Name x px, .Name nm pn, [], 0⟩] scope pos] (envE S r)))) (fun vs s' => True ∧ wpAny (model G.prog G.w) r.A (PySem.call (.builtin "bytes.join") ([.bytes #[] t] ++ vs) []) Q E s') E s1 := by
    have hroom : r.A.depth < recursionLimit := by have := I.dep; show r.A.depth < 1000; omega
    refine wpAny_items_cons (wpAny_GeneratorExp_make hco (hclos _) hcell h0 hk hroom ?_ (by intro x; rfl)) (starEach_plain rfl)
    refine (EV_loc (G := G) (S := S) i hi hl (k := fun a σ1 => a = .list ds ∧ σ1 = σ) (kx := fun _ _ => False) ⟨rfl, rfl⟩ hnd hnc) r g1 s1 P1.inv _ _ (fun va s2 g2 a σ2 P2 R2 h2 => ?_) (fun _ _ _ _ _ _ _ z => z.elim)
    obtain ⟨rfl, h2⟩ := h2
    obtain rfl := h2.symm
    cases R2 with
    | list ha Ra =>
    rename_i xs vs
    have I2 := P2.inv
    have hlist := IsList.mono I2.stay ha
    have P12 := P1.trans P2
    refine wpAny_pyIter_list hlist ?_
    have st : G.base.StaysIn s2.heap := fun b o q => I2.stay _ _ (I2.base _ _ q)
    have hnl : s2.heap.NoLimit := I2.ok.nolimit.keeps st
    refine ⟨hnl.keeps fun b o e => Heap.get?_push_of_some _ e, ?_⟩
    have C2 := I2.cinv (own := [(P, .ptab c)]) (rest := rest) hσ ⟨Nat.le_refl _, id⟩
    have hov := C2.ownok.at_ (P, .ptab c) (by simp)
    have hPg : g2.get? P = none := C2.ownok.hide P (by simp [hid, OV.hid])
    dsimp only at hov
    cases hov with
    | ptab c1 c2 c3 c4 =>
    rename_i op ps
    obtain ⟨o, cvs, file, tf, flags, tg, inF, text, tt, ho, r1, r2, r3, r4, r5, r6, r7, r8⟩ := c1
    have hcP : c ≠ P := fun e => by rw [e, hPg] at ho; cases ho
    have hcode0 : s2.heap.IsCode c P ps := ⟨o, cvs, file, tf, flags, tg, inF, text, tt, op, I2.stay _ _ ho, r1, r2, r3, r4, r5, r6, c2, by rw [c3], c4, hcP⟩
    have htab0 : s2.heap.TableAt c P ps := ⟨⟨o, cvs, I2.stay _ _ ho, r7, r1, r8⟩, by rw [c2, c3]⟩
    refine genexprCodeT (c := c) (P := P) (ps := ps) (show S.code = .ref c from hcode) (hcode0.push _) (htab0.push _) fun code h' tk ps' hext hok' htab' => ?_
    have k1 : ∀ b o, b ≠ P → s2.heap.get? b = some o → h'.get? b = some o := fun b o nb e => hext b o nb (Heap.get?_push_of_some _ e)
    obtain ⟨mg, hg⟩ := I2.ok.glob
    have K' : ∀ b o, G.base.get? b = some o → h'.get? b = some o := fun b o e => k1 b o (fun h => by
      have := I2.base _ _ e
      rw [h, hPg] at this; cases this) (st _ _ e)
    have hg' : h'.Ns mainGlobals mg := by
      obtain ⟨o, es, ep, ho, q⟩ := hg
      exact ⟨o, es, ep, k1 _ o (fun h => by
        have := I2.base _ _ ho
        rw [h, hPg] at this; cases this) (st _ _ ho), q⟩
    refine builtins_at (s := { s2 with heap := h', toks := tk }) K' hg' (fun x v e => mg_of I2.ok.K hg e) hb ?_
    intro h'' hn'' hs''
    refine wpAny_items_nil ⟨trivial, ?_⟩
    have hP' : ∃ op', h'.get? P = some op' := by
      obtain ⟨_, _, _, _, _, _, _, _, _, op', _, _, _, _, _, _, _, h, _⟩ := hok'
      exact ⟨op', h⟩
    have hI' : (h'.get? s2.heap.objs.size).isSome = true := by
      rw [hext s2.heap.objs.size _ (fun e => by rw [← e, none_size] at c2; cases c2) (Heap.get?_push_size _ rfl)]; rfl
    have szI : s2.heap.objs.size < h'.objs.size := by
      obtain ⟨o, ho⟩ := Option.isSome_iff_exists.mp hI'
      exact Heap.lt_size ho
    have szC : h''.objs.size = h'.objs.size + 1 := by rw [hs''.1, Heap.size_push]
    have nn : ∀ n, s2.heap.objs.size ≤ n → s2.heap.get? n = none := fun n hn => by
      cases q : s2.heap.get? n with
      | none => rfl
      | some o => exact absurd (Heap.lt_size q) (Nat.not_lt.mpr hn)
    have k2 : ∀ b o, h'.get? b = some o → h''.get? b = some o := fun b o e => hs''.extBut b o (Nat.ne_of_lt (Heap.lt_size e)) (Heap.get?_push_of_some _ e)
    let s5 : Shared := { { s2 with heap := h', toks := tk } with
            gens := s2.gens.push (.fresh (.compStart (.GeneratorExp (.Call (.Name fnm q1) [.Name x q2] [] q) [⟨.Name x px, .Name nm pn, [], 0⟩] scope pos) 0 (.ref s2.heap.objs.size) .none (genEnv scope [] h'.objs.size code builtinsNs (envE S r)))),
            toks := tk + 1 + 1 + 1,
            heap := h''.push { cls := .type "generator", data := .fields #[.int s2.gens.size 0, .str "<genexpr>" (tk + 1), .str ((envE S r).qual ++ "<genexpr>") (tk + 1 + 1)] } }
    show wpAny (model G.prog G.w) r.A (PySem.call (.builtin "bytes.join") [.bytes #[] t, .ref h''.objs.size]) Q E s5
    have k3 : ∀ b o, h''.get? b = some o → s5.heap.get? b = some o := fun b o e => Heap.get?_push_of_some _ e
    have hGen : s5.heap.IsGen h''.objs.size s2.gens.size := ⟨_, _, _, Heap.get?_push_size _ rfl, rfl, rfl, rfl⟩
    have szS : s5.heap.objs.size = h''.objs.size + 1 := Heap.size_push _ _
    let s6 : Shared := { s5 with heap := s5.heap.push { cls := .type "list", data := .seq #[] } }
    have k4 : ∀ b o, s5.heap.get? b = some o → s6.heap.get? b = some o := fun b o e => Heap.get?_push_of_some _ e
    have kk : ∀ b o, b ≠ P → s2.heap.get? b = some o → s6.heap.get? b = some o := fun b o nb e => k4 b o (k3 b o (k2 b o (k1 b o nb e)))
    have k0 : ∀ b o, h'.get? b = some o → s6.heap.get? b = some o := fun b o e => k4 b o (k3 b o (k2 b o e))
    have hX : ∀ b ∈ [h''.objs.size, h'.objs.size, s2.heap.objs.size, s5.heap.objs.size], s2.heap.get? b = none ∧ (s6.heap.get? b).isSome = true := by
      intro b hb
      simp only [List.mem_cons, List.not_mem_nil, or_false] at hb
      rcases hb with rfl | rfl | rfl | rfl
      · refine ⟨nn _ (by omega), ?_⟩
        obtain ⟨o, _, _, ho, _⟩ := hGen
        rw [k4 _ o ho]; rfl
      · refine ⟨nn _ (by omega), ?_⟩
        obtain ⟨o, _, _, ho, _⟩ := hn''
        rw [k4 _ o (k3 _ o ho)]; rfl
      · refine ⟨none_size _, ?_⟩
        obtain ⟨o, ho⟩ := Option.isSome_iff_exists.mp hI'
        rw [k0 _ o ho]; rfl
      · refine ⟨nn _ (by omega), ?_⟩
        rw [show s6.heap.get? s5.heap.objs.size = some _ from Heap.get?_push_size _ rfl]; rfl
    have hnd4 : [h''.objs.size, h'.objs.size, s2.heap.objs.size, s5.heap.objs.size].Nodup := by
      simp only [List.nodup_cons, List.mem_cons, List.not_mem_nil, or_false, not_or]
      refine ⟨⟨by omega, by omega, by omega⟩, ⟨by omega, by omega⟩, by omega, by simp⟩
    obtain ⟨ox, hox, _⟩ := id hlist
    have hxlt : xs < s2.heap.objs.size := Heap.lt_size hox
    have hxs : xs ∉ [h''.objs.size, h'.objs.size, s2.heap.objs.size, s5.heap.objs.size] := by
      simp only [List.mem_cons, List.not_mem_nil, or_false, not_or]
      exact ⟨fun e => absurd (Eq.subst (motive := fun z : Nat => z < s2.heap.objs.size) e hxlt) (Nat.not_lt.mpr (by omega)), fun e => absurd (Eq.subst (motive := fun z : Nat => z < s2.heap.objs.size) e hxlt) (Nat.not_lt.mpr (by omega)), fun e => absurd (Eq.subst (motive := fun z : Nat => z < s2.heap.objs.size) e hxlt) (Nat.not_lt.mpr (by omega)), fun e => absurd (Eq.subst (motive := fun z : Nat => z < s2.heap.objs.size) e hxlt) (Nat.not_lt.mpr (by omega))⟩
    have hxP : xs ≠ P := fun e => by
      obtain ⟨o, ho, _⟩ := ha
      rw [e, hPg] at ho; cases ho
    have G0 := GP.start (a := h''.objs.size) (C := h'.objs.size) (I := s2.heap.objs.size) (S := s5.heap.objs.size) (gi := s2.gens.size) (s₂ := s6) (A' := r.A.in1.in1.in1.in1) (D' := S.D.up) hX C2 ⟨rfl, rfl⟩ (Nat.le_trans I2.dep (Nat.le_succ _)) (by have := I2.un; show r.A.units + 1 + 1 + 1 + 1 ≤ 10 * (S.D.n + 1); omega) id kk
      ⟨ps', hok'.keeps k0, htab'.keeps k0⟩ (I2.bare.push rfl) rfl (by show s2.gens.size < (s2.gens.push _).size; rw [Array.size_push]; omega)
    have hs6 : Hs G r.A.in1.in1.in1.in1 (stk S r) S.D.up [(P, .ptab c)] h''.objs.size h'.objs.size s2.heap.objs.size s5.heap.objs.size xs vs.toArray s2.gens.size g2 s6 0 s6 := by
      refine ⟨g2, G0, fun b hb => (hX b hb).2, ⟨?_, ?_⟩, ⟨_, (hn''.push _).push _⟩, hGen.keeps k4⟩
      · refine Heap.IsListIter.at (h := s2.heap.push { cls := .type "list_iterator", data := .fields #[.ref xs, .int 0 0] }) ⟨_, Heap.get?_push_size _ rfl, rfl, rfl⟩ fun o e => k0 _ o (hext _ o (fun e => by rw [← e, none_size] at c2; cases c2) e)
      · exact hlist.at fun o e => kk _ o hxP e
    refine call_joinG (bs := bs) hz hbl (wkG (G := G) (l := stk S r) (D := S.D.up) (own := [(P, .ptab c)]) (a := h''.objs.size) (C := h'.objs.size) (I := s2.heap.objs.size) (S := s5.heap.objs.size) (xs := xs) (vs := vs.toArray) (gi := s2.gens.size) (g₀ := g2) (s₀ := s6) (Ap := r.A.in1.in1.in1) (I2.hd hq) hnd4 hxs hroom) hGen.typeIs (fun Q E hQ => wpAny_pyIter_gen hGen hQ) ⟨hs6, _, Array.getElem?_push_size .., fun sr hr => ⟨rfl, ?_⟩⟩ (fun s' hd' t' kt => ?_)
    · refine gstart (A := r.A.in1.in1.in1.in1) (l := stk S r) (D := S.D.up) (s₀ := s6) (gi := s2.gens.size) (cenv := genEnv scope [] h'.objs.size code builtinsNs (envE S r)) (ds := ds) (I2.hd hq) hx hk hco rfl rfl rfl hfn e hf hd hd2 (hev _) hnd4 hxs ⟨ox, ?_⟩ (by have := I2.dep; show r.A.depth + 1 ≤ S.D.n + 1; omega) (by have := I2.un; show r.A.units + 1 + 1 + 1 + 1 + 3 ≤ 10 * (S.D.n + 1); omega) Ra hlen hF sr hr
      obtain ⟨o, ho, _⟩ := ha
      have := I2.stay _ _ ho
      rw [hox] at this; cases this; exact ho
    · obtain ⟨g3, F⟩ := hd'
      have CP := GP.fin (fun b hb => (hX b hb).1) C2 kk (by obtain ⟨o, ho⟩ := hP'; exact ⟨o, k0 _ o ho⟩) (fun i x e => by
        have hlt := (Array.getElem?_eq_some_iff.mp e).1
        refine ⟨by omega, ?_⟩
        show (s2.gens.push _)[i]? = some x
        rw [Array.getElem?_push_lt hlt, ← e, Array.getElem?_eq_getElem hlt]) F kt
      have PF := P12.trans (Post.of_cpost I2 (own := [(P, .ptab c)]) (rest := rest) hσ CP)
      have hσ' : ({ σ with own := [(P, .ptab c)] ++ rest } : AS) = σ := by rw [show [(P, OV.ptab c)] ++ rest = σ.own from hσ.symm]
      rw [hσ'] at PF
      exact hq' _ _ _ _ _ PF (.bytes _ _) h
  rw [starEach_plain rfl] at z ⊢
  exact evalArgs_plain z
end
end Mine
end
/-! Pr1 -/
section
open PySem PySem.Calls PyProof.Rows
open PySem.W
namespace Mine
def nthS (l : List Stmt) (i : Nat) : Stmt := l.getD i (.Pass ⟨0, 0, 0, 0⟩)
abbrev topB : List Stmt := PySem.Challenge.pw_fb0048_01.main.body
/-- EncodingError.__init__ -/
def d50 : Stmt := nthS (defBody (nthS topB 3)) 0
abbrev sc50 : Scope := ⟨.function, [("self", .local), ("message", .local), ("obj", .local), ("__class__", .free), ("super", .globalImplicit)], false, false, []⟩
/-- DecodingError.__init__ -/
def d71 : Stmt := nthS (defBody (nthS topB 4)) 0
abbrev sc71 : Scope := ⟨.function, [("self", .local), ("message", .local), ("rlp", .local), ("__class__", .free), ("super", .globalImplicit)], false, false, []⟩
/-- SerializationError.__init__ -/
def d92 : Stmt := nthS (defBody (nthS topB 5)) 0
abbrev sc92 : Scope := ⟨.function, [("self", .local), ("message", .local), ("obj", .local), ("__class__", .free), ("super", .globalImplicit)], false, false, []⟩
/-- ListSerializationError.__init__ -/
def d114 : Stmt := nthS (defBody (nthS topB 6)) 0
abbrev sc114 : Scope := ⟨.function, [("self", .local), ("message", .local), ("obj", .local), ("element_exception", .local), ("index", .local), ("__class__", .free), ("str", .globalImplicit), ("super", .globalImplicit)], false, false, []⟩
/-- DeserializationError.__init__ -/
def d135 : Stmt := nthS (defBody (nthS topB 7)) 0
abbrev sc135 : Scope := ⟨.function, [("self", .local), ("message", .local), ("serial", .local), ("__class__", .free), ("super", .globalImplicit)], false, false, []⟩
/-- ListDeserializationError.__init__ -/
def d157 : Stmt := nthS (defBody (nthS topB 8)) 0
abbrev sc157 : Scope := ⟨.function, [("self", .local), ("message", .local), ("serial", .local), ("element_exception", .local), ("index", .local), ("__class__", .free), ("str", .globalImplicit), ("super", .globalImplicit)], false, false, []⟩
/-- is_bytes -/
def d1457 : Stmt := nthS topB 11
abbrev sc1457 : Scope := ⟨.function, [("value", .local), ("isinstance", .globalImplicit), ("bytes", .globalImplicit), ("bytearray", .globalImplicit)], false, false, []⟩
/-- big_endian_to_int -/
def d1464 : Stmt := nthS topB 12
abbrev sc1464 : Scope := ⟨.function, [("value", .local), ("int", .globalImplicit)], false, false, []⟩
/-- int_to_big_endian -/
def d1471 : Stmt := nthS topB 13
abbrev sc1471 : Scope := ⟨.function, [("value", .local)], false, false, []⟩
/-- BigEndianInt.__init__ -/
def d1486 : Stmt := nthS (defBody (nthS topB 15)) 0
abbrev sc1486 : Scope := ⟨.function, [("self", .local), ("length", .local)], false, false, []⟩
/-- BigEndianInt.serialize -/
def d1493 : Stmt := nthS (defBody (nthS topB 15)) 1
abbrev sc1493 : Scope := ⟨.function, [("self", .local), ("obj", .local), ("s", .local), ("isinstance", .globalImplicit), ("bool", .globalImplicit), ("int", .globalImplicit), ("SerializationError", .globalImplicit), ("int_to_big_endian", .globalImplicit), ("max", .globalImplicit), ("len", .globalImplicit)], false, false, []⟩
/-- BigEndianInt.deserialize -/
def d1500 : Stmt := nthS (defBody (nthS topB 15)) 2
abbrev sc1500 : Scope := ⟨.function, [("self", .local), ("serial", .local), ("len", .globalImplicit), ("DeserializationError", .globalImplicit), ("big_endian_to_int", .globalImplicit)], false, false, []⟩
/-- Binary.__init__ -/
def d1525 : Stmt := nthS (defBody (nthS topB 18)) 0
abbrev sc1525 : Scope := ⟨.function, [("self", .local), ("min_length", .local), ("max_length", .local), ("allow_empty", .local)], false, false, []⟩
/-- Binary.is_valid_type -/
def d1543 : Stmt := nthS (defBody (nthS topB 18)) 2
abbrev sc1543 : Scope := ⟨.function, [("cls", .local), ("obj", .local), ("isinstance", .globalImplicit), ("bytes", .globalImplicit), ("bytearray", .globalImplicit)], false, false, []⟩
/-- Binary.is_valid_length -/
def d1553 : Stmt := nthS (defBody (nthS topB 18)) 3
abbrev sc1553 : Scope := ⟨.function, [("self", .local), ("length", .local), ("any", .globalImplicit)], false, false, []⟩
/-- Binary.serialize -/
def d1560 : Stmt := nthS (defBody (nthS topB 18)) 4
abbrev sc1560 : Scope := ⟨.function, [("self", .local), ("obj", .local), ("Binary", .globalImplicit), ("SerializationError", .globalImplicit), ("len", .globalImplicit)], false, false, []⟩
/-- Binary.deserialize -/
def d1567 : Stmt := nthS (defBody (nthS topB 18)) 5
abbrev sc1567 : Scope := ⟨.function, [("self", .local), ("serial", .local), ("isinstance", .globalImplicit), ("bytes", .globalImplicit), ("bytearray", .globalImplicit), ("DeserializationError", .globalImplicit), ("len", .globalImplicit)], false, false, []⟩
/-- Boolean.serialize -/
def d1591 : Stmt := nthS (defBody (nthS topB 21)) 0
abbrev sc1591 : Scope := ⟨.function, [("self", .local), ("obj", .local), ("isinstance", .globalImplicit), ("bool", .globalImplicit), ("SerializationError", .globalImplicit), ("Exception", .globalImplicit)], false, false, []⟩
/-- Boolean.deserialize -/
def d1598 : Stmt := nthS (defBody (nthS topB 21)) 1
abbrev sc1598 : Scope := ⟨.function, [("self", .local), ("serial", .local), ("DeserializationError", .globalImplicit)], false, false, []⟩
/-- is_sedes -/
def d1614 : Stmt := nthS topB 24
abbrev sc1614 : Scope := ⟨.function, [("obj", .local), ("isinstance", .globalImplicit), ("BigEndianInt", .globalImplicit), ("Binary", .globalImplicit), ("Boolean", .globalImplicit), ("List", .globalImplicit), ("CountableList", .globalImplicit)], false, false, []⟩
/-- is_sequence -/
def d1621 : Stmt := nthS topB 25
abbrev sc1621 : Scope := ⟨.function, [("obj", .local), ("isinstance", .globalImplicit), ("list", .globalImplicit), ("tuple", .globalImplicit)], false, false, []⟩
/-- List.__init__ -/
def d1636 : Stmt := nthS (defBody (nthS topB 26)) 0
abbrev sc1636 : Scope := ⟨.function, [("self", .local), ("elements", .local), ("strict", .local), ("e", .local), ("is_sedes", .globalImplicit), ("isinstance", .globalImplicit), ("list", .globalImplicit), ("tuple", .globalImplicit), ("List", .globalImplicit), ("TypeError", .globalImplicit)], false, false, []⟩
/-- List.__len__ -/
def d1643 : Stmt := nthS (defBody (nthS topB 26)) 1
abbrev sc1643 : Scope := ⟨.function, [("self", .local), ("len", .globalImplicit)], false, false, []⟩
/-- List.serialize -/
def d1650 : Stmt := nthS (defBody (nthS topB 26)) 2
abbrev sc1650 : Scope := ⟨.function, [("self", .local), ("obj", .local), ("found", .local), ("index", .local), ("element", .local), ("sedes", .local), ("e", .local), ("is_sequence", .globalImplicit), ("ListSerializationError", .globalImplicit), ("len", .globalImplicit), ("enumerate", .globalImplicit), ("zip", .globalImplicit), ("SerializationError", .globalImplicit)], false, false, []⟩
/-- List.deserialize -/
def d1657 : Stmt := nthS (defBody (nthS topB 26)) 3
abbrev sc1657 : Scope := ⟨.function, [("self", .local), ("serial", .local), ("found", .local), ("idx", .local), ("sedes", .local), ("element", .local), ("e", .local), ("is_sequence", .globalImplicit), ("ListDeserializationError", .globalImplicit), ("len", .globalImplicit), ("enumerate", .globalImplicit), ("zip", .globalImplicit), ("DeserializationError", .globalImplicit), ("tuple", .globalImplicit)], false, false, []⟩
/-- CountableList.__init__ -/
def d1679 : Stmt := nthS (defBody (nthS topB 27)) 0
abbrev sc1679 : Scope := ⟨.function, [("self", .local), ("element_sedes", .local), ("max_length", .local)], false, false, []⟩
/-- CountableList.serialize -/
def d1686 : Stmt := nthS (defBody (nthS topB 27)) 1
abbrev sc1686 : Scope := ⟨.function, [("self", .local), ("obj", .local), ("found", .local), ("index", .local), ("element", .local), ("e", .local), ("is_sequence", .globalImplicit), ("ListSerializationError", .globalImplicit), ("len", .globalImplicit), ("enumerate", .globalImplicit), ("SerializationError", .globalImplicit)], false, false, []⟩
/-- CountableList.deserialize -/
def d1693 : Stmt := nthS (defBody (nthS topB 27)) 2
abbrev sc1693 : Scope := ⟨.function, [("self", .local), ("serial", .local), ("found", .local), ("index", .local), ("element", .local), ("e", .local), ("is_sequence", .globalImplicit), ("ListDeserializationError", .globalImplicit), ("enumerate", .globalImplicit), ("DeserializationError", .globalImplicit), ("tuple", .globalImplicit)], false, false, []⟩
/-- encode_raw -/
def d1707 : Stmt := nthS topB 29
abbrev sc1707 : Scope := ⟨.function, [("item", .local), ("payload", .local), ("prefix_offset", .local), ("msg", .local), ("prefix", .local), ("isinstance", .globalImplicit), ("bytes", .globalImplicit), ("bytearray", .globalImplicit), ("len", .globalImplicit), ("list", .globalImplicit), ("tuple", .globalImplicit), ("EncodingError", .globalImplicit), ("length_prefix", .globalImplicit), ("ValueError", .globalImplicit)], false, false, []⟩
/-- decode_raw -/
def d1714 : Stmt := nthS topB 30
abbrev sc1714 : Scope := ⟨.function, [("item", .local), ("strict", .local), ("_", .local), ("result", .local), ("per_item_rlp", .local), ("end", .local), ("msg", .local), ("consume_item", .globalImplicit), ("IndexError", .globalImplicit), ("DecodingError", .globalImplicit), ("len", .globalImplicit)], false, false, []⟩
/-- encode -/
def d1722 : Stmt := nthS topB 31
abbrev sc1722 : Scope := ⟨.function, [("obj", .local), ("sedes", .local), ("infer_serializer", .local), ("cache", .local), ("item", .local), ("result", .local), ("infer_sedes", .globalImplicit), ("encode_raw", .globalImplicit)], false, false, []⟩
/-- length_prefix -/
def d1729 : Stmt := nthS topB 33
abbrev sc1729 : Scope := ⟨.function, [("length", .local), ("offset", .local), ("length_string", .local), ("ALL_BYTES", .globalImplicit), ("LONG_LENGTH", .globalImplicit), ("int_to_big_endian", .globalImplicit), ("len", .globalImplicit), ("ValueError", .globalImplicit)], false, false, []⟩
/-- consume_length_prefix -/
def d1736 : Stmt := nthS topB 35
abbrev sc1736 : Scope := ⟨.function, [("rlp", .local), ("start", .local), ("b0", .local), ("ll", .local), ("len_prefix", .local), ("l", .local), ("SHORT_STRING", .globalImplicit), ("DecodingError", .globalImplicit), ("big_endian_to_int", .globalImplicit)], false, false, []⟩
/-- consume_payload -/
def d1743 : Stmt := nthS topB 36
abbrev sc1743 : Scope := ⟨.function, [("rlp", .local), ("prefix", .local), ("start", .local), ("type_", .local), ("length", .local), ("item", .local), ("items", .local), ("per_item_rlp", .local), ("list_rlp", .local), ("next_item_start", .local), ("end", .local), ("p", .local), ("t", .local), ("l", .local), ("s", .local), ("item_rlp", .local), ("consume_length_prefix", .globalImplicit), ("consume_payload", .globalImplicit), ("DecodingError", .globalImplicit), ("TypeError", .globalImplicit)], false, false, []⟩
/-- consume_item -/
def d1750 : Stmt := nthS topB 37
abbrev sc1750 : Scope := ⟨.function, [("rlp", .local), ("start", .local), ("p", .local), ("t", .local), ("l", .local), ("s", .local), ("consume_length_prefix", .globalImplicit), ("consume_payload", .globalImplicit)], false, false, []⟩
/-- decode -/
def d1758 : Stmt := nthS topB 38
abbrev sc1758 : Scope := ⟨.function, [("rlp", .local), ("sedes", .local), ("strict", .local), ("recursive_cache", .local), ("item", .local), ("per_item_rlp", .local), ("is_bytes", .globalImplicit), ("DecodingError", .globalImplicit), ("decode_raw", .globalImplicit)], false, false, []⟩
/-- infer_sedes -/
def d1763 : Stmt := nthS topB 39
abbrev sc1763 : Scope := ⟨.function, [("obj", .local), ("msg", .local), ("isinstance", .globalImplicit), ("bool", .globalImplicit), ("int", .globalImplicit), ("big_endian_int", .globalImplicit), ("Binary", .globalImplicit), ("binary", .globalImplicit), ("list", .globalImplicit), ("tuple", .globalImplicit), ("List", .globalImplicit), ("boolean", .globalImplicit), ("TypeError", .globalImplicit)], false, false, [("fast", .str "obj"), ("fast", .str "x"), ("fast", .str "msg")]⟩
/-- _law_next -/
def d1770 : Stmt := nthS topB 41
abbrev sc1770 : Scope := ⟨.function, [("state", .local), ("limit", .local), ("len", .globalImplicit)], false, false, []⟩
/-- _law_plan -/
def d1775 : Stmt := nthS topB 42
abbrev sc1775 : Scope := ⟨.function, [("state", .cell), ("deep", .cell), ("pick", .local), ("_law_next", .globalImplicit), ("range", .globalImplicit), ("_law_plan", .globalImplicit)], false, false, [("fast", .str "state"), ("fast", .str "deep"), ("fast", .str "pick"), ("fast", .str "k")]⟩
/-- _law_sedes -/
def d1780 : Stmt := nthS topB 43
abbrev sc1780 : Scope := ⟨.function, [("plan", .local), ("kind", .local), ("one", .local), ("two", .local), ("BigEndianInt", .globalImplicit), ("Binary", .globalImplicit), ("Boolean", .globalImplicit), ("List", .globalImplicit), ("CountableList", .globalImplicit), ("_law_sedes", .globalImplicit)], false, false, [("fast", .str "plan"), ("fast", .str "kind"), ("fast", .str "one"), ("fast", .str "two"), ("fast", .str "part")]⟩
/-- _law_thing -/
def d1785 : Stmt := nthS topB 44
abbrev sc1785 : Scope := ⟨.function, [("state", .cell), ("plan", .local), ("deep", .cell), ("kind", .local), ("one", .local), ("two", .local), ("pick", .local), ("parts", .local), ("_law_next", .globalImplicit)], false, false, [("fast", .str "state"), ("fast", .str "plan"), ("fast", .str "deep"), ("fast", .str "kind"), ("fast", .str "one"), ("fast", .str "two"), ("fast", .str "pick"), ("fast", .str "parts"), ("fast", .str "part")]⟩
/-- _law_item -/
def d1790 : Stmt := nthS topB 45
abbrev sc1790 : Scope := ⟨.function, [("state", .cell), ("plan", .local), ("deep", .cell), ("kind", .local), ("one", .local), ("two", .local), ("pick", .local), ("parts", .local), ("_law_next", .globalImplicit)], false, false, [("fast", .str "state"), ("fast", .str "plan"), ("fast", .str "deep"), ("fast", .str "kind"), ("fast", .str "one"), ("fast", .str "two"), ("fast", .str "pick"), ("fast", .str "parts"), ("fast", .str "part")]⟩
/-- _law_wrapped -/
def d1797 : Stmt := nthS topB 46
abbrev sc1797 : Scope := ⟨.function, [("word", .local), ("k", .local), ("words", .local), ("str", .globalImplicit)], false, false, []⟩
/-- _law_written -/
def d1804 : Stmt := nthS topB 47
abbrev sc1804 : Scope := ⟨.function, [("plan", .local), ("thing", .local), ("kind", .local), ("one", .local), ("two", .local), ("digits", .local), ("parts", .local), ("found", .local), ("k", .local), ("part", .local), ("words", .local), ("isinstance", .globalImplicit), ("bool", .globalImplicit), ("int", .globalImplicit), ("str", .globalImplicit), ("bytes", .globalImplicit), ("len", .globalImplicit), ("list", .globalImplicit), ("range", .globalImplicit), ("min", .globalImplicit), ("_law_written", .globalImplicit), ("_law_wrapped", .globalImplicit)], false, false, []⟩
/-- _law_read -/
def d1811 : Stmt := nthS topB 48
abbrev sc1811 : Scope := ⟨.function, [("plan", .local), ("item", .local), ("kind", .local), ("one", .local), ("two", .local), ("number", .local), ("digit", .local), ("parts", .local), ("found", .local), ("k", .local), ("part", .local), ("words", .local), ("len", .globalImplicit), ("isinstance", .globalImplicit), ("bytes", .globalImplicit), ("list", .globalImplicit), ("str", .globalImplicit), ("range", .globalImplicit), ("min", .globalImplicit), ("_law_read", .globalImplicit), ("_law_wrapped", .globalImplicit), ("tuple", .globalImplicit)], false, false, []⟩
/-- _law_refused -/
def d1818 : Stmt := nthS topB 49
abbrev sc1818 : Scope := ⟨.function, [("sedes", .local), ("thing", .local), ("written", .local), ("whole", .local), ("error", .local), ("encode", .globalImplicit), ("decode", .globalImplicit), ("SerializationError", .globalImplicit), ("DeserializationError", .globalImplicit), ("str", .globalImplicit)], false, false, []⟩
/-- law -/
def d1825 : Stmt := nthS topB 50
abbrev sc1825 : Scope := ⟨.function, [("script", .local), ("state", .local), ("plan", .local), ("sedes", .local), ("thing", .local), ("item", .local), ("made", .local), ("words", .local), ("back", .local), ("other", .local), ("_law_plan", .globalImplicit), ("_law_sedes", .globalImplicit), ("_law_thing", .globalImplicit), ("_law_item", .globalImplicit), ("_law_written", .globalImplicit), ("_law_refused", .globalImplicit), ("_law_told", .globalImplicit), ("encode_raw", .globalImplicit), ("_law_read", .globalImplicit)], false, false, []⟩
/-- _law_told -/
def d1832 : Stmt := nthS topB 51
abbrev sc1832 : Scope := ⟨.function, [("sedes", .local), ("thing", .local), ("words", .local), ("told", .local), ("other", .local), ("_law_refused", .globalImplicit)], false, false, []⟩
structure KFns (K : Frag) : Prop where
  f50 : FnAt K 50 d50 "EncodingError.__init__" sc50 [("__class__", 38)] .none (.ref 49)
  f71 : FnAt K 71 d71 "DecodingError.__init__" sc71 [("__class__", 59)] .none (.ref 70)
  f92 : FnAt K 92 d92 "SerializationError.__init__" sc92 [("__class__", 80)] .none (.ref 91)
  f114 : FnAt K 114 d114 "ListSerializationError.__init__" sc114 [("__class__", 101)] (.ref 106) (.ref 113)
  f135 : FnAt K 135 d135 "DeserializationError.__init__" sc135 [("__class__", 123)] .none (.ref 134)
  f157 : FnAt K 157 d157 "ListDeserializationError.__init__" sc157 [("__class__", 144)] (.ref 149) (.ref 156)
  f1457 : FnAt K 1457 d1457 "is_bytes" sc1457 [] .none (.ref 1456)
  f1464 : FnAt K 1464 d1464 "big_endian_to_int" sc1464 [] .none (.ref 1463)
  f1471 : FnAt K 1471 d1471 "int_to_big_endian" sc1471 [] .none (.ref 1470)
  f1486 : FnAt K 1486 d1486 "BigEndianInt.__init__" sc1486 [] (.ref 1479) (.ref 1485)
  f1493 : FnAt K 1493 d1493 "BigEndianInt.serialize" sc1493 [] .none (.ref 1492)
  f1500 : FnAt K 1500 d1500 "BigEndianInt.deserialize" sc1500 [] .none (.ref 1499)
  f1525 : FnAt K 1525 d1525 "Binary.__init__" sc1525 [] (.ref 1518) (.ref 1524)
  f1543 : FnAt K 1543 d1543 "Binary.is_valid_type" sc1543 [] .none (.ref 1542)
  f1553 : FnAt K 1553 d1553 "Binary.is_valid_length" sc1553 [] .none (.ref 1552)
  f1560 : FnAt K 1560 d1560 "Binary.serialize" sc1560 [] .none (.ref 1559)
  f1567 : FnAt K 1567 d1567 "Binary.deserialize" sc1567 [] .none (.ref 1566)
  f1591 : FnAt K 1591 d1591 "Boolean.serialize" sc1591 [] .none (.ref 1590)
  f1598 : FnAt K 1598 d1598 "Boolean.deserialize" sc1598 [] .none (.ref 1597)
  f1614 : FnAt K 1614 d1614 "is_sedes" sc1614 [] .none (.ref 1613)
  f1621 : FnAt K 1621 d1621 "is_sequence" sc1621 [] .none (.ref 1620)
  f1636 : FnAt K 1636 d1636 "List.__init__" sc1636 [] (.ref 1629) (.ref 1635)
  f1643 : FnAt K 1643 d1643 "List.__len__" sc1643 [] .none (.ref 1642)
  f1650 : FnAt K 1650 d1650 "List.serialize" sc1650 [] .none (.ref 1649)
  f1657 : FnAt K 1657 d1657 "List.deserialize" sc1657 [] .none (.ref 1656)
  f1679 : FnAt K 1679 d1679 "CountableList.__init__" sc1679 [] (.ref 1672) (.ref 1678)
  f1686 : FnAt K 1686 d1686 "CountableList.serialize" sc1686 [] .none (.ref 1685)
  f1693 : FnAt K 1693 d1693 "CountableList.deserialize" sc1693 [] .none (.ref 1692)
  f1707 : FnAt K 1707 d1707 "encode_raw" sc1707 [] .none (.ref 1706)
  f1714 : FnAt K 1714 d1714 "decode_raw" sc1714 [] .none (.ref 1713)
  f1722 : FnAt K 1722 d1722 "encode" sc1722 [] (.ref 1715) (.ref 1721)
  f1729 : FnAt K 1729 d1729 "length_prefix" sc1729 [] .none (.ref 1728)
  f1736 : FnAt K 1736 d1736 "consume_length_prefix" sc1736 [] .none (.ref 1735)
  f1743 : FnAt K 1743 d1743 "consume_payload" sc1743 [] .none (.ref 1742)
  f1750 : FnAt K 1750 d1750 "consume_item" sc1750 [] .none (.ref 1749)
  f1758 : FnAt K 1758 d1758 "decode" sc1758 [] (.ref 1751) (.ref 1757)
  f1763 : FnAt K 1763 d1763 "infer_sedes" sc1763 [] .none (.ref 1762)
  f1770 : FnAt K 1770 d1770 "_law_next" sc1770 [] .none (.ref 1769)
  f1775 : FnAt K 1775 d1775 "_law_plan" sc1775 [] .none (.ref 1774)
  f1780 : FnAt K 1780 d1780 "_law_sedes" sc1780 [] .none (.ref 1779)
  f1785 : FnAt K 1785 d1785 "_law_thing" sc1785 [] .none (.ref 1784)
  f1790 : FnAt K 1790 d1790 "_law_item" sc1790 [] .none (.ref 1789)
  f1797 : FnAt K 1797 d1797 "_law_wrapped" sc1797 [] .none (.ref 1796)
  f1804 : FnAt K 1804 d1804 "_law_written" sc1804 [] .none (.ref 1803)
  f1811 : FnAt K 1811 d1811 "_law_read" sc1811 [] .none (.ref 1810)
  f1818 : FnAt K 1818 d1818 "_law_refused" sc1818 [] .none (.ref 1817)
  f1825 : FnAt K 1825 d1825 "law" sc1825 [] .none (.ref 1824)
  f1832 : FnAt K 1832 d1832 "_law_told" sc1832 [] .none (.ref 1831)
end Mine
end
/-! Pr2 -/
section
open PySem PySem.Calls PyProof.Rows
open PySem.W
namespace Mine
abbrev PW : Program := PySem.Challenge.pw_fb0048_01
def CellAt (K : Frag) (c : Addr) (v : Value) : Prop := ∃ oc od osl, K.lookup c = some ⟨oc, od, .cell (some v), osl⟩
def cellIn (K : Frag) (c : Addr) : Option Value := match K.lookup c with
  | some ⟨_, _, .cell v, _⟩ => v
  | _ => none
theorem CellAt.of {K : Frag} {c : Addr} {v : Value} (e : cellIn K c = some v) : CellAt K c v := by
  unfold cellIn at e
  split at e
  · rename_i h; subst e; exact ⟨_, _, _, h⟩
  · cases e
def tupIn (K : Frag) (T : Addr) : Option (Array Value) := match K.lookup T with
  | some ⟨_, _, .seq items _, _⟩ => some items
  | _ => none
theorem tupIn.of {K : Frag} {T : Addr} {items : Array Value} (e : tupIn K T = some items) : ∃ oc od osl n, K.lookup T = some ⟨oc, od, .seq items n, osl⟩ := by
  unfold tupIn at e
  split at e
  · rename_i h; cases e; exact ⟨_, _, _, _, h⟩
  · cases e
/-- what the fragment must say of the exceptions -/
structure KX (K : Frag) : Prop where
  c80 : cellIn K 80 = some (.ref 95)
  c101 : cellIn K 101 = some (.ref 117)
  c123 : cellIn K 123 = some (.ref 138)
  c144 : cellIn K 144 = some (.ref 160)
  s92 : superIn PW K 92 (.ref 91) sc92 "self" 95 95 = true
  s92L : superIn PW K 92 (.ref 91) sc92 "self" 95 117 = true
  s135 : superIn PW K 135 (.ref 134) sc135 "self" 138 138 = true
  s135L : superIn PW K 135 (.ref 134) sc135 "self" 138 160 = true
  s114 : superIn PW K 114 (.ref 113) sc114 "self" 117 117 = true
  s157 : superIn PW K 157 (.ref 156) sc157 "self" 160 160 = true
  t92 : ks_superIn K 95 95 "__init__" = some (some (.builtin "Exception.__init__"))
  t92L : ks_superIn K 117 95 "__init__" = some (some (.builtin "Exception.__init__"))
  t135 : ks_superIn K 138 138 "__init__" = some (some (.builtin "Exception.__init__"))
  t135L : ks_superIn K 160 138 "__init__" = some (some (.builtin "Exception.__init__"))
  t114 : ks_superIn K 117 117 "__init__" = some (some (.ref 92))
  t157 : ks_superIn K 160 160 "__init__" = some (some (.ref 135))
  fn92 : Mine.fnIn K 92 = true
  fn135 : Mine.fnIn K 135 = true
  m95 : mroIn K 95 (.type "Exception") = some true
  m117 : mroIn K 117 (.type "Exception") = some true
  m138 : mroIn K 138 (.type "Exception") = some true
  m160 : mroIn K 160 (.type "Exception") = some true
  a95 : setXIn K 95 "obj" = true
  a117 : setXIn K 117 "obj" = true
  a117i : setXIn K 117 "index" = true
  a117e : setXIn K 117 "element_exception" = true
  a138 : setXIn K 138 "serial" = true
  a160 : setXIn K 160 "serial" = true
  a160i : setXIn K 160 "index" = true
  a160e : setXIn K 160 "element_exception" = true
  x95 : xmakeIn K 95 92 = true
  x117 : xmakeIn K 117 114 = true
  x138 : xmakeIn K 138 135 = true
  x160 : xmakeIn K 160 157 = true
  e95 : excK K 95 = true
  e117 : excK K 117 = true
  e138 : excK K 138 = true
  e160 : excK K 160 = true
  p95 : findIn K (.ref 95) "__str__" = some (some (.builtin "BaseException.__str__"))
  p117 : findIn K (.ref 117) "__str__" = some (some (.builtin "BaseException.__str__"))
  p138 : findIn K (.ref 138) "__str__" = some (some (.builtin "BaseException.__str__"))
  p160 : findIn K (.ref 160) "__str__" = some (some (.builtin "BaseException.__str__"))
  b95 : mroIn K 95 (.type "BaseException") = some true
  b117 : mroIn K 117 (.type "BaseException") = some true
  b138 : mroIn K 138 (.type "BaseException") = some true
  b160 : mroIn K 160 (.type "BaseException") = some true
  d106 : tupIn K 106 = some #[.none, .none, .none, .none]
  d149 : tupIn K 149 = some #[.none, .none, .none, .none]
  gstr : nsIn K mainGlobals "str" = some none
structure KOk (G : Gb) : Prop where
  prog : G.prog = PW
  fns : KFns G.K
  x : KX G.K
section
variable {G : Gb} {D : Lv}
theorem C92 (H : KOk G) {x C : Addr} {m : Str} {ob : AV} (hC : C = 95 ∨ C = 117) (hD : D.n < recursionLimit) :
    Fn G D (.ref 92) [.own x, .str m, ob] [] [(x, .exc0 C none)] (fun a own' => a = .none ∧ ∃ dx, own' = [(x, .exc C dx (some m) [("obj", ob)])]) (fun _ _ => False) := by
  have hs : superIn G.prog G.K 92 (.ref 91) sc92 "self" 95 C = true := by rw [H.prog]; rcases hC with rfl | rfl; exact H.x.s92; exact H.x.s92L
  have ht : ks_superIn G.K C 95 "__init__" = some (some (.builtin "Exception.__init__")) := by rcases hC with rfl | rfl; exact H.x.t92; exact H.x.t92L
  have hsub : mroIn G.K C (.type "Exception") = some true := by rcases hC with rfl | rfl; exact H.x.m95; exact H.x.m117
  have hset : setXIn G.K C "obj" = true := by rcases hC with rfl | rfl; exact H.x.a95; exact H.x.a117
  refine Fn_dA (names := ["self", "message", "obj"]) (loc := [some (.own x), some (.str m), some ob]) H.fns.f92 (CellAt.of H.x.c80) hD (fun g s vs ws X R1 R2 => ?_) ?_
  · cases R2
    obtain _ | ⟨r1, _ | ⟨r2, _ | ⟨r3, _ | _⟩⟩⟩ := R1
    rename_i v1 v2 v3
    exact ⟨[("self", v1), ("message", v2), ("obj", v3)], fun _ _ _ _ _ => .of_eq rfl, by intro y hy; simp at hy; rcases hy with rfl | rfl | rfl <;> rfl, .cons rfl r1 rfl (.cons rfl r2 rfl (.cons rfl r3 rfl .nil))⟩
  · refine XAt_cons (SAt_super0 (i := 1) (j := 0) (nm := "self") (x := x) (Dc := 95) (C := C) (mm := none) rfl rfl rfl rfl rfl (by simp) hs ht hsub ?_)
    refine EL_cons (EV_loc 2 rfl rfl (EL_nil ⟨m, [], [], none, rfl, rfl, ?_⟩))
    refine XAt_cons (SAt.of_ES (ES_AssignAttrX0 (EV_loc 3 rfl rfl (EV_loc 1 rfl rfl ⟨x, [], [], C, some m, rfl, rfl, hset, fun dx => ?_⟩))))
    exact XAt.of_EX (EX_nil ⟨[(x, .exc C dx (some m) [("obj", ob)])], [], rfl, by simp [hid, OV.hid], rfl, dx, rfl⟩)
theorem C135 (H : KOk G) {x C : Addr} {m : Str} {ob : AV} (hC : C = 138 ∨ C = 160) (hD : D.n < recursionLimit) :
    Fn G D (.ref 135) [.own x, .str m, ob] [] [(x, .exc0 C none)] (fun a own' => a = .none ∧ ∃ dx, own' = [(x, .exc C dx (some m) [("serial", ob)])]) (fun _ _ => False) := by
  have hs : superIn G.prog G.K 135 (.ref 134) sc135 "self" 138 C = true := by rw [H.prog]; rcases hC with rfl | rfl; exact H.x.s135; exact H.x.s135L
  have ht : ks_superIn G.K C 138 "__init__" = some (some (.builtin "Exception.__init__")) := by rcases hC with rfl | rfl; exact H.x.t135; exact H.x.t135L
  have hsub : mroIn G.K C (.type "Exception") = some true := by rcases hC with rfl | rfl; exact H.x.m138; exact H.x.m160
  have hset : setXIn G.K C "serial" = true := by rcases hC with rfl | rfl; exact H.x.a138; exact H.x.a160
  refine Fn_dA (names := ["self", "message", "serial"]) (loc := [some (.own x), some (.str m), some ob]) H.fns.f135 (CellAt.of H.x.c123) hD (fun g s vs ws X R1 R2 => ?_) ?_
  · cases R2
    obtain _ | ⟨r1, _ | ⟨r2, _ | ⟨r3, _ | _⟩⟩⟩ := R1
    rename_i v1 v2 v3
    exact ⟨[("self", v1), ("message", v2), ("serial", v3)], fun _ _ _ _ _ => .of_eq rfl, by intro y hy; simp at hy; rcases hy with rfl | rfl | rfl <;> rfl, .cons rfl r1 rfl (.cons rfl r2 rfl (.cons rfl r3 rfl .nil))⟩
  · refine XAt_cons (SAt_super0 (i := 1) (j := 0) (nm := "self") (x := x) (Dc := 138) (C := C) (mm := none) rfl rfl rfl rfl rfl (by simp) hs ht hsub ?_)
    refine EL_cons (EV_loc 2 rfl rfl (EL_nil ⟨m, [], [], none, rfl, rfl, ?_⟩))
    refine XAt_cons (SAt.of_ES (ES_AssignAttrX0 (EV_loc 3 rfl rfl (EV_loc 1 rfl rfl ⟨x, [], [], C, some m, rfl, rfl, hset, fun dx => ?_⟩))))
    exact XAt.of_EX (EX_nil ⟨[(x, .exc C dx (some m) [("serial", ob)])], [], rfl, by simp [hid, OV.hid], rfl, dx, rfl⟩)
end
end Mine
end
/-! Pr3 -/
section
open PySem PySem.Calls PyProof.Rows
open PySem.W
namespace Mine
/-- the words of a row's refusal -/
def wrapped (word : Str) (i : Nat) (m : Str) : Str := word ++ " failed because of element at index " ++ toString (i : Int) ++ " (\"" ++ m ++ "\")"
theorem small_log {i : Nat} (h : i < 1000000) : (i : Int).natAbs.log2 < 1920 := by
  rw [Int.natAbs_natCast]
  by_cases h0 : i = 0
  · subst h0; decide
  · exact (Nat.log2_lt h0).mpr (Nat.lt_of_lt_of_le (by omega : i < 2 ^ 20) (Nat.pow_le_pow_right (by decide) (by decide)))
theorem dig_len {i : Nat} (h : i < 1000000) : (toString (i : Int) : Str).length ≤ 10 := toString_length_le (k := 10) (by omega) (by decide) (by omega)
theorem TrA.mono {G : Gb} {S : St} {σ : AS} {α β : Type} {t : Rt → Sem α} {rel : Heap → α → β → Prop} {k k' : β → AS → Prop} {kx kx' : AX → AS → Prop} (h : TrA G S σ t rel k kx) (hk : ∀ a σ', k a σ' → k' a σ') (hx : ∀ x σ', kx x σ' → kx' x σ') : TrA G S σ t rel k' kx' := fun r g s I => (h r g s I).mono hk hx
theorem fstr5 {G : Gb} {S : St} {σ : AS} {k : AV → AS → Prop} {kx : AX → AS → Prop} {s1 s2 s3 y : Str} {n u1 u2 u3 : Nat} {p p1 p2 p3 q1 q2 : Pos} {e1 e2 : Expr} (hn : n < 1000000) (h3 : s1.length + s2.length + s3.length ≤ 100) (hy : y.length + 200 ≤ sizeLine)
    (h : EV G S σ e1 (fun a σ1 => a = .int n ∧ EV G S σ1 e2 (fun b σ2 => b = .str y ∧ k (.str (s1 ++ toString (n : Int) ++ s2 ++ y ++ s3)) σ2) kx) kx) :
    EV G S σ (.JoinedStr [.Constant (.str s1) u1 p1, .FormattedValue e1 (-1) none q1, .Constant (.str s2) u2 p2, .FormattedValue e2 (-1) none q2, .Constant (.str s3) u3 p3] p) k kx := by
  have hd := dig_len hn
  have L : ∀ a b : Str, (a ++ b).length = a.length + b.length := Str.length_append
  have E0 : ∀ a : Str, Str.empty ++ a = a := Str.empty_append
  refine EV_JoinedStr (JP_cons (EV_str ⟨_, rfl, ?_, JP_cons (EV_Fmt (TrA.mono h (fun a σ1 q => .inl ⟨n, q.1, small_log hn, _, rfl, ?_, JP_cons (EV_str ⟨_, rfl, ?_, JP_cons (EV_Fmt (TrA.mono q.2 (fun b σ2 q2 => .inr ⟨y, q2.1, by omega, _, rfl, ?_, JP_cons (EV_str ⟨_, rfl, ?_, JP_nil ?_ ?_⟩)⟩) fun _ _ z => z))⟩)⟩) fun _ _ z => z))⟩))
  · rw [E0]; omega
  · rw [E0, L]; omega
  · rw [E0, L, L]; omega
  · rw [E0, L, L, L]; omega
  · rw [E0, L, L, L, L]; omega
  · rw [E0, L, L, L, L]; omega
  · rw [E0]; exact q2.2
section
variable {G : Gb} {D : Lv}
theorem C114a (H : KOk G) {x : Addr} {m : Str} {ob : AV} (hD : D.n + 1 < recursionLimit) :
    Fn G D (.ref 114) [.own x, .str m, ob] [] [(x, .exc0 117 none)] (fun a own' => a = .none ∧ ∃ dx fs, own' = [(x, .exc 117 dx (some m) fs)]) (fun _ _ => False) := by
  refine Fn_dA (names := ["self", "message", "obj", "element_exception", "index"]) (loc := [some (.own x), some (.str m), some ob, some .none, some .none]) H.fns.f114 (CellAt.of H.x.c101) (by omega) (fun g s vs ws X R1 R2 => ?_) ?_
  · cases R2
    obtain _ | ⟨r1, _ | ⟨r2, _ | ⟨r3, _ | _⟩⟩⟩ := R1
    rename_i v1 v2 v3
    exact ⟨[("self", v1), ("message", v2), ("obj", v3), ("element_exception", .none), ("index", .none)], fun _ _ _ _ _ => binds_dflt (tupIn.of H.x.d106) X rfl rfl rfl, by intro y hy; simp at hy; rcases hy with rfl | rfl | rfl | rfl | rfl <;> rfl,
      .cons rfl r1 rfl (.cons rfl r2 rfl (.cons rfl r3 rfl (.cons rfl .none rfl (.cons rfl .none rfl .nil))))⟩
  · refine XAt_cons (SAt.of_ES (ES_If (TV_Compare (EV_loc 2 rfl rfl (EV_none (CO_isNone (TU_bool ?_)))))))
    show EX _ _ _ _ _ _
    refine EX_nil ?_
    refine XAt_cons (SAt_superF (D := D.up) (i := 1) (j := 0) (nm := "self") (x := x) (Dc := 117) (C := 117) (f2 := 92) (mm := none) rfl rfl rfl rfl rfl (List.Mem.head _) (by rw [H.prog]; exact H.x.s114) H.x.t114 H.x.fn92 ⟨Nat.le_refl _, id⟩ ?_)
    refine EL_cons (EV_loc 2 rfl rfl (EL_cons (EV_loc 3 rfl rfl (EL_nil ⟨[(x, .exc0 117 none)], [], _, C92 H (.inr rfl) (by show D.n + 1 < _; omega), rfl, fun a own' _ hK => ?_⟩))))
    obtain ⟨rfl, dx, rfl⟩ := hK
    refine XAt_cons (SAt.of_ES (ES_AssignAttrX (EV_loc 5 rfl rfl (EV_loc 1 rfl rfl ⟨x, [], [], 117, dx, _, _, rfl, rfl, H.x.a117i, by show (1 : Nat) < 900; decide, ?_⟩))))
    refine XAt_cons (SAt.of_ES (ES_AssignAttrX (EV_loc 4 rfl rfl (EV_loc 1 rfl rfl ⟨x, [], [], 117, dx, _, _, rfl, rfl, H.x.a117e, by show (2 : Nat) < 900; decide, ?_⟩))))
    exact XAt.of_EX (EX_nil ⟨[(x, .exc 117 dx (some m) _)], [], rfl, by simp [hid, OV.hid], rfl, dx, _, rfl⟩)

theorem C114k (H : KOk G) {x : Addr} {m : Str} {ob : AV} (hD : D.n + 1 < recursionLimit) :
    Fn G D (.ref 114) [.own x, .str m] [("obj", ob)] [(x, .exc0 117 none)] (fun a own' => a = .none ∧ ∃ dx fs, own' = [(x, .exc 117 dx (some m) fs)]) (fun _ _ => False) := by
  refine Fn_dA (names := ["self", "message", "obj", "element_exception", "index"]) (loc := [some (.own x), some (.str m), some ob, some .none, some .none]) H.fns.f114 (CellAt.of H.x.c101) (by omega) (fun g s vs ws X R1 R2 => ?_) ?_
  · obtain _ | ⟨r3, _ | _⟩ := R2
    obtain _ | ⟨r1, _ | ⟨r2, _ | _⟩⟩ := R1
    rename_i v3 v1 v2
    exact ⟨[("self", v1), ("message", v2), ("obj", v3), ("element_exception", .none), ("index", .none)], fun _ _ _ _ _ => binds_dflt (tupIn.of H.x.d106) X rfl rfl rfl, by intro y hy; simp at hy; rcases hy with rfl | rfl | rfl | rfl | rfl <;> rfl,
      .cons rfl r1 rfl (.cons rfl r2 rfl (.cons rfl r3 rfl (.cons rfl .none rfl (.cons rfl .none rfl .nil))))⟩
  · refine XAt_cons (SAt.of_ES (ES_If (TV_Compare (EV_loc 2 rfl rfl (EV_none (CO_isNone (TU_bool ?_)))))))
    show EX _ _ _ _ _ _
    refine EX_nil ?_
    refine XAt_cons (SAt_superF (D := D.up) (i := 1) (j := 0) (nm := "self") (x := x) (Dc := 117) (C := 117) (f2 := 92) (mm := none) rfl rfl rfl rfl rfl (List.Mem.head _) (by rw [H.prog]; exact H.x.s114) H.x.t114 H.x.fn92 ⟨Nat.le_refl _, id⟩ ?_)
    refine EL_cons (EV_loc 2 rfl rfl (EL_cons (EV_loc 3 rfl rfl (EL_nil ⟨[(x, .exc0 117 none)], [], _, C92 H (.inr rfl) (by show D.n + 1 < _; omega), rfl, fun a own' _ hK => ?_⟩))))
    obtain ⟨rfl, dx, rfl⟩ := hK
    refine XAt_cons (SAt.of_ES (ES_AssignAttrX (EV_loc 5 rfl rfl (EV_loc 1 rfl rfl ⟨x, [], [], 117, dx, _, _, rfl, rfl, H.x.a117i, by show (1 : Nat) < 900; decide, ?_⟩))))
    refine XAt_cons (SAt.of_ES (ES_AssignAttrX (EV_loc 4 rfl rfl (EV_loc 1 rfl rfl ⟨x, [], [], 117, dx, _, _, rfl, rfl, H.x.a117e, by show (2 : Nat) < 900; decide, ?_⟩))))
    exact XAt.of_EX (EX_nil ⟨[(x, .exc 117 dx (some m) _)], [], rfl, by simp [hid, OV.hid], rfl, dx, _, rfl⟩)

theorem C114b (H : KOk G) {x : Addr} {m : Str} {ob : AV} {Ce : Addr} {i : Nat} (hD : D.n + 1 < recursionLimit) (hCe : findIn G.K (.ref Ce) "__str__" = some (some (.builtin "BaseException.__str__"))) (hCb : mroIn G.K Ce (.type "BaseException") = some true) (hi : i < 1000000) (hm : m.length + 200 ≤ sizeLine) (hu : 10 * D.n + 12 < cLine) :
    Fn G D (.ref 114) [.own x] [("obj", ob), ("element_exception", .exc Ce m), ("index", .int i)] [(x, .exc0 117 none)] (fun a own' => a = .none ∧ ∃ dx fs, own' = [(x, .exc 117 dx (some (wrapped "Serialization" i m)) fs)]) (fun _ _ => False) := by
  refine Fn_dA (names := ["self", "message", "obj", "element_exception", "index"]) (loc := [some (.own x), some .none, some ob, some (.exc Ce m), some (.int i)]) H.fns.f114 (CellAt.of H.x.c101) (by omega) (fun g s vs ws X R1 R2 => ?_) ?_
  · obtain _ | ⟨r3, _ | ⟨r4, _ | ⟨r5, _ | _⟩⟩⟩ := R2
    obtain _ | ⟨r1, _ | _⟩ := R1
    rename_i v3 v4 v5 v1
    exact ⟨[("self", v1), ("message", .none), ("obj", v3), ("element_exception", v4), ("index", v5)], fun _ _ _ _ _ => binds_dflt (tupIn.of H.x.d106) X rfl rfl rfl, by intro y hy; simp at hy; rcases hy with rfl | rfl | rfl | rfl | rfl <;> rfl,
      .cons rfl r1 rfl (.cons rfl .none rfl (.cons rfl r3 rfl (.cons rfl r4 rfl (.cons rfl r5 rfl .nil))))⟩
  · refine XAt_cons (SAt.of_ES (ES_If (TV_Compare (EV_loc 2 rfl rfl (EV_none (CO_isNone (TU_bool ?_)))))))
    show EX _ _ _ _ _ _
    refine EX_cons (ES_Assert (TV_Compare (EV_loc 5 rfl rfl (EV_none (CO_notNone (TU_bool ⟨rfl, ?_⟩))))))
    refine EX_cons (ES_Assert (TV_Compare (EV_loc 4 rfl rfl (EV_none (CO_notNone (TU_bool ⟨rfl, ?_⟩))))))
    have hdig := dig_len hi
    refine EX_cons (ES_Assign_Name 2 rfl (fstr5 (n := i) (y := m) hi (by decide) hm (EV_loc 5 rfl rfl ⟨rfl, ?_⟩)))
    refine EV_Call rfl (EV_blt rfl H.x.gstr (by kernel_rfl) (by decide) ⟨rfl, EL_cons (EV_loc 4 rfl rfl (EL_nil (CV_str_exc hCe hCb (by show 10 * (D.n + 1) + 2 < cLine; omega) ⟨rfl, ?_⟩)))⟩)
    refine EX_nil ?_
    refine XAt_cons (SAt_superF (D := D.up) (i := 1) (j := 0) (nm := "self") (x := x) (Dc := 117) (C := 117) (f2 := 92) (mm := none) rfl rfl rfl rfl rfl (List.Mem.head _) (by rw [H.prog]; exact H.x.s114) H.x.t114 H.x.fn92 ⟨Nat.le_refl _, id⟩ ?_)
    refine EL_cons (EV_loc 2 rfl rfl (EL_cons (EV_loc 3 rfl rfl (EL_nil ⟨[(x, .exc0 117 none)], [], _, C92 H (.inr rfl) (by show D.n + 1 < _; omega), rfl, fun a own' _ hK => ?_⟩))))
    obtain ⟨rfl, dx, rfl⟩ := hK
    refine XAt_cons (SAt.of_ES (ES_AssignAttrX (EV_loc 5 rfl rfl (EV_loc 1 rfl rfl ⟨x, [], [], 117, dx, _, _, rfl, rfl, H.x.a117i, by show (1 : Nat) < 900; decide, ?_⟩))))
    refine XAt_cons (SAt.of_ES (ES_AssignAttrX (EV_loc 4 rfl rfl (EV_loc 1 rfl rfl ⟨x, [], [], 117, dx, _, _, rfl, rfl, H.x.a117e, by show (2 : Nat) < 900; decide, ?_⟩))))
    exact XAt.of_EX (EX_nil ⟨[(x, .exc 117 dx (some (wrapped "Serialization" i m)) _)], [], rfl, by simp [hid, OV.hid], rfl, dx, _, rfl⟩)

theorem C157a (H : KOk G) {x : Addr} {m : Str} {ob : AV} (hD : D.n + 1 < recursionLimit) (hm0 : m.length ≠ 0) (hmz : m.length ≤ sizeLine) :
    Fn G D (.ref 157) [.own x, .str m, ob] [] [(x, .exc0 160 none)] (fun a own' => a = .none ∧ ∃ dx fs, own' = [(x, .exc 160 dx (some m) fs)]) (fun _ _ => False) := by
  refine Fn_dA (names := ["self", "message", "serial", "element_exception", "index"]) (loc := [some (.own x), some (.str m), some ob, some .none, some .none]) H.fns.f157 (CellAt.of H.x.c144) (by omega) (fun g s vs ws X R1 R2 => ?_) ?_
  · cases R2
    obtain _ | ⟨r1, _ | ⟨r2, _ | ⟨r3, _ | _⟩⟩⟩ := R1
    rename_i v1 v2 v3
    exact ⟨[("self", v1), ("message", v2), ("serial", v3), ("element_exception", .none), ("index", .none)], fun _ _ _ _ _ => binds_dflt (tupIn.of H.x.d149) X rfl rfl rfl, by intro y hy; simp at hy; rcases hy with rfl | rfl | rfl | rfl | rfl <;> rfl,
      .cons rfl r1 rfl (.cons rfl r2 rfl (.cons rfl r3 rfl (.cons rfl .none rfl (.cons rfl .none rfl .nil))))⟩
  · refine XAt_cons (SAt.of_ES (ES_If (TV_Not (TV_value (EV_loc 2 rfl rfl (TU_str hmz ?_))))))
    rw [show ((m.length : Int) != 0) = true from by simpa using hm0]
    show EX _ _ _ _ _ _
    refine EX_nil ?_
    refine XAt_cons (SAt_superF (D := D.up) (i := 1) (j := 0) (nm := "self") (x := x) (Dc := 160) (C := 160) (f2 := 135) (mm := none) rfl rfl rfl rfl rfl (List.Mem.head _) (by rw [H.prog]; exact H.x.s157) H.x.t157 H.x.fn135 ⟨Nat.le_refl _, id⟩ ?_)
    refine EL_cons (EV_loc 2 rfl rfl (EL_cons (EV_loc 3 rfl rfl (EL_nil ⟨[(x, .exc0 160 none)], [], _, C135 H (.inr rfl) (by show D.n + 1 < _; omega), rfl, fun a own' _ hK => ?_⟩))))
    obtain ⟨rfl, dx, rfl⟩ := hK
    refine XAt_cons (SAt.of_ES (ES_AssignAttrX (EV_loc 5 rfl rfl (EV_loc 1 rfl rfl ⟨x, [], [], 160, dx, _, _, rfl, rfl, H.x.a160i, by show (1 : Nat) < 900; decide, ?_⟩))))
    refine XAt_cons (SAt.of_ES (ES_AssignAttrX (EV_loc 4 rfl rfl (EV_loc 1 rfl rfl ⟨x, [], [], 160, dx, _, _, rfl, rfl, H.x.a160e, by show (2 : Nat) < 900; decide, ?_⟩))))
    exact XAt.of_EX (EX_nil ⟨[(x, .exc 160 dx (some m) _)], [], rfl, by simp [hid, OV.hid], rfl, dx, _, rfl⟩)

theorem C157k (H : KOk G) {x : Addr} {m : Str} {ob : AV} (hD : D.n + 1 < recursionLimit) (hm0 : m.length ≠ 0) (hmz : m.length ≤ sizeLine) :
    Fn G D (.ref 157) [.own x, .str m] [("serial", ob)] [(x, .exc0 160 none)] (fun a own' => a = .none ∧ ∃ dx fs, own' = [(x, .exc 160 dx (some m) fs)]) (fun _ _ => False) := by
  refine Fn_dA (names := ["self", "message", "serial", "element_exception", "index"]) (loc := [some (.own x), some (.str m), some ob, some .none, some .none]) H.fns.f157 (CellAt.of H.x.c144) (by omega) (fun g s vs ws X R1 R2 => ?_) ?_
  · obtain _ | ⟨r3, _ | _⟩ := R2
    obtain _ | ⟨r1, _ | ⟨r2, _ | _⟩⟩ := R1
    rename_i v3 v1 v2
    exact ⟨[("self", v1), ("message", v2), ("serial", v3), ("element_exception", .none), ("index", .none)], fun _ _ _ _ _ => binds_dflt (tupIn.of H.x.d149) X rfl rfl rfl, by intro y hy; simp at hy; rcases hy with rfl | rfl | rfl | rfl | rfl <;> rfl,
      .cons rfl r1 rfl (.cons rfl r2 rfl (.cons rfl r3 rfl (.cons rfl .none rfl (.cons rfl .none rfl .nil))))⟩
  · refine XAt_cons (SAt.of_ES (ES_If (TV_Not (TV_value (EV_loc 2 rfl rfl (TU_str hmz ?_))))))
    rw [show ((m.length : Int) != 0) = true from by simpa using hm0]
    show EX _ _ _ _ _ _
    refine EX_nil ?_
    refine XAt_cons (SAt_superF (D := D.up) (i := 1) (j := 0) (nm := "self") (x := x) (Dc := 160) (C := 160) (f2 := 135) (mm := none) rfl rfl rfl rfl rfl (List.Mem.head _) (by rw [H.prog]; exact H.x.s157) H.x.t157 H.x.fn135 ⟨Nat.le_refl _, id⟩ ?_)
    refine EL_cons (EV_loc 2 rfl rfl (EL_cons (EV_loc 3 rfl rfl (EL_nil ⟨[(x, .exc0 160 none)], [], _, C135 H (.inr rfl) (by show D.n + 1 < _; omega), rfl, fun a own' _ hK => ?_⟩))))
    obtain ⟨rfl, dx, rfl⟩ := hK
    refine XAt_cons (SAt.of_ES (ES_AssignAttrX (EV_loc 5 rfl rfl (EV_loc 1 rfl rfl ⟨x, [], [], 160, dx, _, _, rfl, rfl, H.x.a160i, by show (1 : Nat) < 900; decide, ?_⟩))))
    refine XAt_cons (SAt.of_ES (ES_AssignAttrX (EV_loc 4 rfl rfl (EV_loc 1 rfl rfl ⟨x, [], [], 160, dx, _, _, rfl, rfl, H.x.a160e, by show (2 : Nat) < 900; decide, ?_⟩))))
    exact XAt.of_EX (EX_nil ⟨[(x, .exc 160 dx (some m) _)], [], rfl, by simp [hid, OV.hid], rfl, dx, _, rfl⟩)

theorem C157b (H : KOk G) {x : Addr} {m : Str} {ob : AV} {Ce : Addr} {i : Nat} (hD : D.n + 1 < recursionLimit) (hCe : findIn G.K (.ref Ce) "__str__" = some (some (.builtin "BaseException.__str__"))) (hCb : mroIn G.K Ce (.type "BaseException") = some true) (hi : i < 1000000) (hm : m.length + 200 ≤ sizeLine) (hu : 10 * D.n + 12 < cLine) :
    Fn G D (.ref 157) [.own x] [("serial", ob), ("element_exception", .exc Ce m), ("index", .int i)] [(x, .exc0 160 none)] (fun a own' => a = .none ∧ ∃ dx fs, own' = [(x, .exc 160 dx (some (wrapped "Deserialization" i m)) fs)]) (fun _ _ => False) := by
  refine Fn_dA (names := ["self", "message", "serial", "element_exception", "index"]) (loc := [some (.own x), some .none, some ob, some (.exc Ce m), some (.int i)]) H.fns.f157 (CellAt.of H.x.c144) (by omega) (fun g s vs ws X R1 R2 => ?_) ?_
  · obtain _ | ⟨r3, _ | ⟨r4, _ | ⟨r5, _ | _⟩⟩⟩ := R2
    obtain _ | ⟨r1, _ | _⟩ := R1
    rename_i v3 v4 v5 v1
    exact ⟨[("self", v1), ("message", .none), ("serial", v3), ("element_exception", v4), ("index", v5)], fun _ _ _ _ _ => binds_dflt (tupIn.of H.x.d149) X rfl rfl rfl, by intro y hy; simp at hy; rcases hy with rfl | rfl | rfl | rfl | rfl <;> rfl,
      .cons rfl r1 rfl (.cons rfl .none rfl (.cons rfl r3 rfl (.cons rfl r4 rfl (.cons rfl r5 rfl .nil))))⟩
  · refine XAt_cons (SAt.of_ES (ES_If (TV_Not (TV_value (EV_loc 2 rfl rfl (TU_none ?_))))))
    show EX _ _ _ _ _ _
    refine EX_cons (ES_Assert (TV_Compare (EV_loc 5 rfl rfl (EV_none (CO_notNone (TU_bool ⟨rfl, ?_⟩))))))
    refine EX_cons (ES_Assert (TV_Compare (EV_loc 4 rfl rfl (EV_none (CO_notNone (TU_bool ⟨rfl, ?_⟩))))))
    have hdig := dig_len hi
    refine EX_cons (ES_Assign_Name 2 rfl (fstr5 (n := i) (y := m) hi (by decide) hm (EV_loc 5 rfl rfl ⟨rfl, ?_⟩)))
    refine EV_Call rfl (EV_blt rfl H.x.gstr (by kernel_rfl) (by decide) ⟨rfl, EL_cons (EV_loc 4 rfl rfl (EL_nil (CV_str_exc hCe hCb (by show 10 * (D.n + 1) + 2 < cLine; omega) ⟨rfl, ?_⟩)))⟩)
    refine EX_nil ?_
    refine XAt_cons (SAt_superF (D := D.up) (i := 1) (j := 0) (nm := "self") (x := x) (Dc := 160) (C := 160) (f2 := 135) (mm := none) rfl rfl rfl rfl rfl (List.Mem.head _) (by rw [H.prog]; exact H.x.s157) H.x.t157 H.x.fn135 ⟨Nat.le_refl _, id⟩ ?_)
    refine EL_cons (EV_loc 2 rfl rfl (EL_cons (EV_loc 3 rfl rfl (EL_nil ⟨[(x, .exc0 160 none)], [], _, C135 H (.inr rfl) (by show D.n + 1 < _; omega), rfl, fun a own' _ hK => ?_⟩))))
    obtain ⟨rfl, dx, rfl⟩ := hK
    refine XAt_cons (SAt.of_ES (ES_AssignAttrX (EV_loc 5 rfl rfl (EV_loc 1 rfl rfl ⟨x, [], [], 160, dx, _, _, rfl, rfl, H.x.a160i, by show (1 : Nat) < 900; decide, ?_⟩))))
    refine XAt_cons (SAt.of_ES (ES_AssignAttrX (EV_loc 4 rfl rfl (EV_loc 1 rfl rfl ⟨x, [], [], 160, dx, _, _, rfl, rfl, H.x.a160e, by show (2 : Nat) < 900; decide, ?_⟩))))
    exact XAt.of_EX (EX_nil ⟨[(x, .exc 160 dx (some (wrapped "Deserialization" i m)) _)], [], rfl, by simp [hid, OV.hid], rfl, dx, _, rfl⟩)

end
end Mine
end
/-! Pr4 -/
section
open PySem PySem.Calls PyProof.Rows
open PySem.W
namespace Mine
structure KG (K : Frag) : Prop where
  g_RLPException : nsIn K mainGlobals "RLPException" = some (some (.ref 31))
  g_EncodingError : nsIn K mainGlobals "EncodingError" = some (some (.ref 53))
  g_DecodingError : nsIn K mainGlobals "DecodingError" = some (some (.ref 74))
  g_SerializationError : nsIn K mainGlobals "SerializationError" = some (some (.ref 95))
  g_ListSerializationError : nsIn K mainGlobals "ListSerializationError" = some (some (.ref 117))
  g_DeserializationError : nsIn K mainGlobals "DeserializationError" = some (some (.ref 138))
  g_ListDeserializationError : nsIn K mainGlobals "ListDeserializationError" = some (some (.ref 160))
  g_ALL_BYTES : nsIn K mainGlobals "ALL_BYTES" = some (some (.ref 1450))
  g_is_bytes : nsIn K mainGlobals "is_bytes" = some (some (.ref 1457))
  g_big_endian_to_int : nsIn K mainGlobals "big_endian_to_int" = some (some (.ref 1464))
  g_int_to_big_endian : nsIn K mainGlobals "int_to_big_endian" = some (some (.ref 1471))
  g_BigEndianInt : nsIn K mainGlobals "BigEndianInt" = some (some (.ref 1503))
  g_big_endian_int : nsIn K mainGlobals "big_endian_int" = some (some (.ref 1509))
  g_Binary : nsIn K mainGlobals "Binary" = some (some (.ref 1570))
  g_binary : nsIn K mainGlobals "binary" = some (some (.ref 1576))
  g_Boolean : nsIn K mainGlobals "Boolean" = some (some (.ref 1601))
  g_boolean : nsIn K mainGlobals "boolean" = some (some (.ref 1607))
  g_is_sedes : nsIn K mainGlobals "is_sedes" = some (some (.ref 1614))
  g_is_sequence : nsIn K mainGlobals "is_sequence" = some (some (.ref 1621))
  g_List : nsIn K mainGlobals "List" = some (some (.ref 1660))
  g_CountableList : nsIn K mainGlobals "CountableList" = some (some (.ref 1696))
  g_encode_raw : nsIn K mainGlobals "encode_raw" = some (some (.ref 1707))
  g_decode_raw : nsIn K mainGlobals "decode_raw" = some (some (.ref 1714))
  g_encode : nsIn K mainGlobals "encode" = some (some (.ref 1722))
  g_length_prefix : nsIn K mainGlobals "length_prefix" = some (some (.ref 1729))
  g_consume_length_prefix : nsIn K mainGlobals "consume_length_prefix" = some (some (.ref 1736))
  g_consume_payload : nsIn K mainGlobals "consume_payload" = some (some (.ref 1743))
  g_consume_item : nsIn K mainGlobals "consume_item" = some (some (.ref 1750))
  g_decode : nsIn K mainGlobals "decode" = some (some (.ref 1758))
  g_infer_sedes : nsIn K mainGlobals "infer_sedes" = some (some (.ref 1763))
  g_law_next : nsIn K mainGlobals "_law_next" = some (some (.ref 1770))
  g_law_plan : nsIn K mainGlobals "_law_plan" = some (some (.ref 1775))
  g_law_sedes : nsIn K mainGlobals "_law_sedes" = some (some (.ref 1780))
  g_law_thing : nsIn K mainGlobals "_law_thing" = some (some (.ref 1785))
  g_law_item : nsIn K mainGlobals "_law_item" = some (some (.ref 1790))
  g_law_wrapped : nsIn K mainGlobals "_law_wrapped" = some (some (.ref 1797))
  g_law_written : nsIn K mainGlobals "_law_written" = some (some (.ref 1804))
  g_law_read : nsIn K mainGlobals "_law_read" = some (some (.ref 1811))
  g_law_refused : nsIn K mainGlobals "_law_refused" = some (some (.ref 1818))
  g_law : nsIn K mainGlobals "law" = some (some (.ref 1825))
  g_law_told : nsIn K mainGlobals "_law_told" = some (some (.ref 1832))
  g_LONG : nsIn K mainGlobals "LONG_LENGTH" = some (some (.int 18446744073709551616 1565))
  g_SHORT : nsIn K mainGlobals "SHORT_STRING" = some (some (.int 184 1578))
  b_isinstance : nsIn K mainGlobals "isinstance" = some none
  b_bool : nsIn K mainGlobals "bool" = some none
  b_int : nsIn K mainGlobals "int" = some none
  b_bytes : nsIn K mainGlobals "bytes" = some none
  b_bytearray : nsIn K mainGlobals "bytearray" = some none
  b_len : nsIn K mainGlobals "len" = some none
  b_max : nsIn K mainGlobals "max" = some none
  b_min : nsIn K mainGlobals "min" = some none
  b_any : nsIn K mainGlobals "any" = some none
  b_list : nsIn K mainGlobals "list" = some none
  b_tuple : nsIn K mainGlobals "tuple" = some none
  b_str : nsIn K mainGlobals "str" = some none
  b_enumerate : nsIn K mainGlobals "enumerate" = some none
  b_zip : nsIn K mainGlobals "zip" = some none
  b_range : nsIn K mainGlobals "range" = some none
  m1503 : makeIn K 1503 1486 = true
  k1503 : KeepV K (.ref 1503) = true
  bo1503 : findIn K (.ref 1503) "__bool__" = some none
  le1503 : findIn K (.ref 1503) "__len__" = some none
  oc1503 : ownCls K 1503 = true
  ia1503 : kitAny K (.ref 1503) [.ref 1503, .ref 1570, .ref 1601, .ref 1660, .ref 1696] = some true
  m1570 : makeIn K 1570 1525 = true
  k1570 : KeepV K (.ref 1570) = true
  bo1570 : findIn K (.ref 1570) "__bool__" = some none
  le1570 : findIn K (.ref 1570) "__len__" = some none
  oc1570 : ownCls K 1570 = true
  ia1570 : kitAny K (.ref 1570) [.ref 1503, .ref 1570, .ref 1601, .ref 1660, .ref 1696] = some true
  k1601 : KeepV K (.ref 1601) = true
  bo1601 : findIn K (.ref 1601) "__bool__" = some none
  le1601 : findIn K (.ref 1601) "__len__" = some none
  oc1601 : ownCls K 1601 = true
  ia1601 : kitAny K (.ref 1601) [.ref 1503, .ref 1570, .ref 1601, .ref 1660, .ref 1696] = some true
  m1660 : makeIn K 1660 1636 = true
  k1660 : KeepV K (.ref 1660) = true
  bo1660 : findIn K (.ref 1660) "__bool__" = some none
  oc1660 : ownCls K 1660 = true
  ia1660 : kitAny K (.ref 1660) [.ref 1503, .ref 1570, .ref 1601, .ref 1660, .ref 1696] = some true
  m1696 : makeIn K 1696 1679 = true
  k1696 : KeepV K (.ref 1696) = true
  bo1696 : findIn K (.ref 1696) "__bool__" = some none
  le1696 : findIn K (.ref 1696) "__len__" = some none
  oc1696 : ownCls K 1696 = true
  ia1696 : kitAny K (.ref 1696) [.ref 1503, .ref 1570, .ref 1601, .ref 1660, .ref 1696] = some true
  le1660 : findIn K (.ref 1660) "__len__" = some (some (.ref 1643))
  fl1643 : isFn K (.ref 1643) = true
  me1493 : methIn K 1503 "serialize" 1493 = true
  me1500 : methIn K 1503 "deserialize" 1500 = true
  me1553 : methIn K 1570 "is_valid_length" 1553 = true
  me1560 : methIn K 1570 "serialize" 1560 = true
  me1567 : methIn K 1570 "deserialize" 1567 = true
  me1591 : methIn K 1601 "serialize" 1591 = true
  me1598 : methIn K 1601 "deserialize" 1598 = true
  me1650 : methIn K 1660 "serialize" 1650 = true
  me1657 : methIn K 1660 "deserialize" 1657 = true
  me1686 : methIn K 1696 "serialize" 1686 = true
  me1693 : methIn K 1696 "deserialize" 1693 = true
  at1503_length : plainCls K 1503 "length" = true
  se1503_length : setIn K 1503 "length" = true
  at1570_min_length : plainCls K 1570 "min_length" = true
  se1570_min_length : setIn K 1570 "min_length" = true
  at1570_max_length : plainCls K 1570 "max_length" = true
  se1570_max_length : setIn K 1570 "max_length" = true
  at1570_allow_empty : plainCls K 1570 "allow_empty" = true
  se1570_allow_empty : setIn K 1570 "allow_empty" = true
  at1660_parts : plainCls K 1660 "parts" = true
  se1660_parts : setIn K 1660 "parts" = true
  at1660_strict : plainCls K 1660 "strict" = true
  se1660_strict : setIn K 1660 "strict" = true
  at1696_element_sedes : plainCls K 1696 "element_sedes" = true
  se1696_element_sedes : setIn K 1696 "element_sedes" = true
  at1696_max_length : plainCls K 1696 "max_length" = true
  se1696_max_length : setIn K 1696 "max_length" = true
  kf1486 : KeepV K (.ref 1486) = true
  kf1493 : KeepV K (.ref 1493) = true
  kf1500 : KeepV K (.ref 1500) = true
  kf1525 : KeepV K (.ref 1525) = true
  kf1553 : KeepV K (.ref 1553) = true
  kf1560 : KeepV K (.ref 1560) = true
  kf1567 : KeepV K (.ref 1567) = true
  kf1591 : KeepV K (.ref 1591) = true
  kf1598 : KeepV K (.ref 1598) = true
  kf1636 : KeepV K (.ref 1636) = true
  kf1643 : KeepV K (.ref 1643) = true
  kf1650 : KeepV K (.ref 1650) = true
  kf1657 : KeepV K (.ref 1657) = true
  kf1679 : KeepV K (.ref 1679) = true
  kf1686 : KeepV K (.ref 1686) = true
  kf1693 : KeepV K (.ref 1693) = true
  kf1457 : KeepV K (.ref 1457) = true
  kf1464 : KeepV K (.ref 1464) = true
  kf1471 : KeepV K (.ref 1471) = true
  kf1614 : KeepV K (.ref 1614) = true
  kf1621 : KeepV K (.ref 1621) = true
  kf1707 : KeepV K (.ref 1707) = true
  kf1714 : KeepV K (.ref 1714) = true
  kf1722 : KeepV K (.ref 1722) = true
  kf1729 : KeepV K (.ref 1729) = true
  kf1736 : KeepV K (.ref 1736) = true
  kf1743 : KeepV K (.ref 1743) = true
  kf1750 : KeepV K (.ref 1750) = true
  kf1758 : KeepV K (.ref 1758) = true
  kf1770 : KeepV K (.ref 1770) = true
  kf1775 : KeepV K (.ref 1775) = true
  kf1780 : KeepV K (.ref 1780) = true
  kf1785 : KeepV K (.ref 1785) = true
  kf1790 : KeepV K (.ref 1790) = true
  kf1797 : KeepV K (.ref 1797) = true
  kf1804 : KeepV K (.ref 1804) = true
  kf1811 : KeepV K (.ref 1811) = true
  kf1818 : KeepV K (.ref 1818) = true
  kf1825 : KeepV K (.ref 1825) = true
  kf1832 : KeepV K (.ref 1832) = true
  kf1543 : KeepV K (.ref 1543) = true
  kx95 : KeepV K (.ref 95) = true
  kx117 : KeepV K (.ref 117) = true
  kx138 : KeepV K (.ref 138) = true
  kx160 : KeepV K (.ref 160) = true
  cm : cmIn K 1570 "is_valid_type" 1543 = true
  cme : findCls K (.ref 1570) (.type "type") "is_valid_type" = some (.get (.builtin "classmethod.__get__") (.ref 1545) .none (.ref 1570))
  cmf : findIn K (.ref 1570) "is_valid_type" = some (some (.ref 1545))
  fb : findCls K (.type "int") (.type "type") "from_bytes" = some (.get (.builtin "classmethod_descriptor.__get__") (.builtin "int.from_bytes") .none (.type "int"))
  d1479 : tupIn K 1479 = some #[.none]
  d1518 : tupIn K 1518 = some #[.none, .none, .bool false]
  d1629 : tupIn K 1629 = some #[.none, .bool true]
  d1672 : tupIn K 1672 = some #[.none]
  d1715 : tupIn K 1715 = some #[.none, .bool true, .bool true]
  d1751 : tupIn K 1751 = some #[.none, .bool true, .bool false]
  ab : (tupIn K 1450).map (·.toList.map fun v => match v with | .bytes b _ => some b.toList | _ => none) = some ((List.range 256).map fun i => some [i.toUInt8])
  cl1450 : typeIn K (.ref 1450) = some (.type "tuple")
structure KAll (G : Gb) : Prop extends KOk G where
  g : KG G.K
end Mine
end
/-! Pl1 -/
section
open PySem PySem.Calls PyProof.Rows
open PySem.W
namespace Mine
/-- the law's plans -/
inductive Plan where
  | number (one : Option Nat)
  | octets (lo : Nat) (hi : Option Nat)
  | truth
  | row (strict : Bool) (parts : List Plan)
  | many (most : Option Nat) (part : Plan)
def optI : Option Nat → AV
  | none => .none
  | some n => .int n
mutual
def Plan.av : Plan → AV
  | .number one => .tuple [.str "number", optI one, .none]
  | .octets lo hi => .tuple [.str "octets", .int lo, optI hi]
  | .truth => .tuple [.str "truth", .none, .none]
  | .row s ps => .tuple [.str "row", .bool s, .list (plansAv ps)]
  | .many m p => .tuple [.str "many", optI m, p.av]
def plansAv : List Plan → List AV
  | [] => []
  | p :: ps => p.av :: plansAv ps
end
mutual
def Plan.obj : Plan → AV
  | .number one => .obj 1503 [("length", optI one)]
  | .octets lo hi => .obj 1570 [("min_length", .int lo), ("max_length", optI hi), ("allow_empty", .bool false)]
  | .truth => .obj 1601 []
  | .row s ps => .obj 1660 [("parts", .list (plansObj ps)), ("strict", .bool s)]
  | .many m p => .obj 1696 [("element_sedes", p.obj), ("max_length", optI m)]
def plansObj : List Plan → List AV
  | [] => []
  | p :: ps => p.obj :: plansObj ps
end
mutual
def Plan.depth : Plan → Nat
  | .row _ ps => plansDepth ps + 1
  | .many _ p => p.depth + 1
  | _ => 0
def plansDepth : List Plan → Nat
  | [] => 0
  | p :: ps => max p.depth (plansDepth ps)
end
mutual
def Plan.ok : Plan → Prop
  | .number one => ∀ n, one = some n → n = 1 ∨ n = 2
  | .octets lo hi => lo ≤ 2 ∧ ∀ n, hi = some n → n ≤ 3
  | .truth => True
  | .row _ ps => ps ≠ [] ∧ ps.length ≤ 3 ∧ plansOk ps
  | .many m p => (∀ n, m = some n → n = 2) ∧ p.ok
def plansOk : List Plan → Prop
  | [] => True
  | p :: ps => p.ok ∧ plansOk ps
end
theorem plansAv_length : ∀ ps : List Plan, (plansAv ps).length = ps.length
  | [] => rfl
  | p :: ps => by rw [plansAv, List.length_cons, List.length_cons, plansAv_length ps]
theorem plansObj_length : ∀ ps : List Plan, (plansObj ps).length = ps.length
  | [] => rfl
  | p :: ps => by rw [plansObj, List.length_cons, List.length_cons, plansObj_length ps]
theorem plansAv_get : ∀ {ps : List Plan} {i : Nat} {p : Plan}, ps[i]? = some p → (plansAv ps)[i]? = some p.av
  | [], i, p, h => by simp at h
  | q :: ps, 0, p, h => by simp at h; subst h; simp [plansAv]
  | q :: ps, i + 1, p, h => by rw [plansAv]; simpa using plansAv_get (ps := ps) (i := i) (by simpa using h)
theorem plansObj_get : ∀ {ps : List Plan} {i : Nat} {p : Plan}, ps[i]? = some p → (plansObj ps)[i]? = some p.obj
  | [], i, p, h => by simp at h
  | q :: ps, 0, p, h => by simp at h; subst h; simp [plansObj]
  | q :: ps, i + 1, p, h => by rw [plansObj]; simpa using plansObj_get (ps := ps) (i := i) (by simpa using h)
theorem plansOk_get : ∀ {ps : List Plan} {i : Nat} {p : Plan}, plansOk ps → ps[i]? = some p → p.ok
  | [], i, p, _, h => by simp at h
  | q :: ps, 0, p, k, h => by simp at h; subst h; exact k.1
  | q :: ps, i + 1, p, k, h => plansOk_get (ps := ps) (i := i) k.2 (by simpa using h)
theorem plansDepth_get : ∀ {ps : List Plan} {i : Nat} {p : Plan}, ps[i]? = some p → p.depth ≤ plansDepth ps
  | [], i, p, h => by simp at h
  | q :: ps, 0, p, h => by simp at h; subst h; exact Nat.le_max_left _ _
  | q :: ps, i + 1, p, h => Nat.le_trans (plansDepth_get (ps := ps) (i := i) (by simpa using h)) (Nat.le_max_right _ _)
/-- things of bounded size -/
def thOk : Nat → AV → Prop
  | _, .none => True
  | _, .bool _ => True
  | _, .int i => -1 ≤ i ∧ i ≤ 70000
  | _, .str x => x.length ≤ 5
  | _, .bytes b => b.size ≤ 5
  | n + 1, .list ds => ds.length ≤ 4 ∧ ∀ d ∈ ds, thOk n d
  | _, _ => False
/-- the octets of a number -/
def digits : Nat → List UInt8
  | 0 => []
  | n + 1 => digits ((n + 1) / 256) ++ [((n + 1) % 256).toUInt8]
termination_by n => n
decreasing_by omega
def numB (one : Option Nat) (n : Nat) : Array UInt8 := (List.replicate (one.getD 0 - (digits n).length) 0 ++ digits n).toArray
/-- what a row's places come to -/
def fold (word : Str) (k : Nat) : List (AV × Str) → List AV → AV × Str
  | [], acc => (.list acc, "")
  | (v, ws) :: r, acc => if ws ≠ "" then (.none, wrapped word k ws) else fold word (k + 1) r (acc ++ [v])
def big (one : Option Nat) (i : Int) : Bool := match one with
  | some n => decide (i ≥ (256 : Int) ^ n)
  | none => false
def above (hi : Option Nat) (n : Nat) : Bool := match hi with
  | some h => decide (n > h)
  | none => false
mutual
/-- the law's own writing -/
def written : Plan → AV → AV × Str
  | .number one, .int i => if big one i = true then (.none, "Integer too large (does not fit in " ++ toString (one.getD 0 : Int) ++ " bytes)")
      else if i < 0 then (.none, "Cannot serialize negative integers") else (.bytes (numB one i.toNat), "")
  | .number _, _ => (.none, "Can only serialize integers")
  | .octets lo hi, .bytes b => if (decide (b.size < lo) || above hi b.size) = true then (.none, "Object has invalid length") else (.bytes b, "")
  | .octets _ _, _ => (.none, "Object is not a serializable")
  | .truth, .bool b => (.bytes (if b then #[1] else #[]), "")
  | .truth, _ => (.none, "Can only serialize integers")
  | .row s ps, .list ds => if s = true ∧ ds.length ≠ ps.length then (.none, "Serializing list length (" ++ toString (ds.length : Int) ++ ") does not match sedes (" ++ toString (ps.length : Int) ++ ")")
      else fold "Serialization" 0 (writtenZ ps ds) []
  | .row _ _, _ => (.none, "Can only serialize sequences")
  | .many m p, .list ds => if above m ds.length = true then (.none, "Too many elements (" ++ toString (ds.length : Int) ++ ", allowed " ++ toString (m.getD 0 : Int) ++ ")")
      else fold "Serialization" 0 (ds.map fun d => written p d) []
  | .many _ _, _ => (.none, "Can only serialize sequences")
def writtenZ : List Plan → List AV → List (AV × Str)
  | p :: ps, d :: ds => written p d :: writtenZ ps ds
  | _, _ => []
end
end Mine
end
/-! Pl2 -/
section
open PySem PySem.Calls PyProof.Rows
open PySem.W
namespace Mine
theorem digits_zero : digits 0 = [] := by unfold digits; rfl
theorem digits_pos {a : Nat} (h : 0 < a) : digits a = digits (a / 256) ++ [(a % 256).toUInt8] := by
  obtain ⟨n, rfl⟩ : ∃ n, a = n + 1 := ⟨a - 1, by omega⟩
  rw [digits]
theorem little_digits : ∀ (n a : Nat), a < 256 ^ n → (n = 0 ∨ 256 ^ (n - 1) ≤ a) → (KTBy.little n (a : Int)).reverse = (digits a).map fun c => (c.toNat : Int)
  | 0, a, h, _ => by
    have : a = 0 := by simpa using h
    subst this
    rw [digits_zero]; rfl
  | n + 1, a, h, h' => by
    have h' : 256 ^ n ≤ a := by rcases h' with h' | h'; cases h'; simpa using h'
    have pos : 0 < a := Nat.lt_of_lt_of_le (Nat.pow_pos (by decide)) h'
    rw [digits_pos pos, KTBy.little, List.reverse_cons, List.map_append]
    have e : ((a : Int) / 256) = ((a / 256 : Nat) : Int) := by omega
    have e2 : ((a : Int) % 256) = ((a % 256 : Nat) : Int) := by omega
    have lt : a / 256 < 256 ^ n := Nat.div_lt_of_lt_mul (by rw [Nat.pow_succ, Nat.mul_comm] at h; exact h)
    have ge : n = 0 ∨ 256 ^ (n - 1) ≤ a / 256 := by
      cases n with
      | zero => exact .inl rfl
      | succ m =>
        refine .inr ((Nat.le_div_iff_mul_le (by decide)).mpr ?_)
        rw [Nat.pow_succ] at h'
        exact h'
    rw [e, e2, little_digits n (a / 256) lt ge]
    congr 1
    have : ((a % 256).toUInt8).toNat = a % 256 := by
      rw [Nat.toUInt8, UInt8.toNat_ofNat']; omega
    simp [this]
theorem toNat_inj {l l' : List UInt8} (h : (l.map fun c => ((c.toNat : Nat) : Int)) = l'.map fun c => ((c.toNat : Nat) : Int)) : l = l' := by
  induction l generalizing l' with
  | nil => cases l' with
    | nil => rfl
    | cons _ _ => cases h
  | cons a l ih => cases l' with
    | nil => cases h
    | cons b l' =>
      simp only [List.map_cons, List.cons.injEq] at h
      have hab : a = b := UInt8.toNat_inj.mp (by omega)
      rw [hab, ih h.2]
theorem bytes_of_ints {b : Array UInt8} {l : List UInt8} (h : KBw.bInts b = l.map fun c => ((c.toNat : Nat) : Int)) : b = l.toArray := by
  have := toNat_inj h
  rw [← this]
theorem nb_ok {a : Nat} (h : 0 < a) : a < 256 ^ ((Builtin.Int.intBits (a : Int) + 7) / 8) ∧ 256 ^ ((Builtin.Int.intBits (a : Int) + 7) / 8 - 1) ≤ a := by
  have hb : Builtin.Int.intBits (a : Int) = a.log2 + 1 := by
    unfold Builtin.Int.intBits
    rw [if_neg (by simp; omega), Int.natAbs_natCast]
  rw [hb]
  have h1 : a < 2 ^ (a.log2 + 1) := Nat.lt_log2_self
  have h2 : 2 ^ a.log2 ≤ a := Nat.log2_self_le (by omega)
  have p : ∀ n, 256 ^ n = 2 ^ (8 * n) := fun n => by rw [Nat.pow_mul]
  rw [p, p]
  exact ⟨Nat.lt_of_lt_of_le h1 (Nat.pow_le_pow_right (by decide) (by omega)), Nat.le_trans (Nat.pow_le_pow_right (by decide) (by omega)) h2⟩
theorem nb_le {a m : Nat} (hm : a < 256 ^ m) : (Builtin.Int.intBits (a : Int) + 7) / 8 ≤ m := by
  have : Builtin.Int.intBits (a : Int) ≤ 8 * m := intBits_le_iff.mpr (by rw [Int.natAbs_natCast, Nat.pow_mul]; exact hm)
  omega
theorem digits_len {a : Nat} (h : 0 < a) : (digits a).length = (Builtin.Int.intBits (a : Int) + 7) / 8 := by
  have := nb_ok h
  have e := congrArg List.length (little_digits _ a this.1 (.inr this.2))
  rw [List.length_reverse, KTBy.little_length, List.length_map] at e
  exact e.symm
end Mine
end
/-! Pr5 -/
section
open PySem PySem.Calls PyProof.Rows
open PySem.W
namespace Mine
theorem Fn.mono {G : Gb} {D : Lv} {f : Value} {as : List AV} {kw : List (Str × AV)} {own : List (Addr × OV)} {k k' : AV → List (Addr × OV) → Prop} {kx kx' : AX → List (Addr × OV) → Prop} (h : Fn G D f as kw own k kx) (hk : ∀ a o, k a o → k' a o) (hx : ∀ x o, kx x o → kx' x o) : Fn G D f as kw own k' kx' :=
  fun A l g s vs ws C R1 R2 R hR hX => h A l g s vs ws C R1 R2 R (fun v s' g' a own' P Rv q => hR v s' g' a own' P Rv (hk _ _ q)) fun e s' g' x own' P T q => hX e s' g' x own' P T (hx _ _ q)
section
variable {G : Gb} {D : Lv} {S : St} {σ : AS} {k : AV → AS → Prop} {kf : AF → AS → Prop} {kx : AX → AS → Prop} {C : Addr} {m : Str} {ob : AV}
theorem CV_mk95 (H : KOk G) (hD : S.D.n + 20 ≤ 900) (h : ∀ x dx fs, k (.own x) ⟨σ.loc, σ.own ++ [(x, .exc 95 dx (some m) fs)]⟩) : CV G S σ (.ref 95) [.str m, ob] [] k kx :=
  CV_makeX (D := S.D.up) (K := fun ms _ => ms = m) H.x.x95 ⟨Nat.le_refl _, id⟩ (show (2 : Nat) ≤ sizeLine by decide) (fun x => (C92 H (.inl rfl) (by show S.D.n + 1 < 1000; omega)).mono (fun a o q => ⟨q.1, let ⟨dx, e⟩ := q.2; ⟨dx, m, _, e, rfl⟩⟩) fun _ _ z => z) fun x dx msg fs e => by subst e; exact h x dx fs
theorem CV_mk138 (H : KOk G) (hD : S.D.n + 20 ≤ 900) (h : ∀ x dx fs, k (.own x) ⟨σ.loc, σ.own ++ [(x, .exc 138 dx (some m) fs)]⟩) : CV G S σ (.ref 138) [.str m, ob] [] k kx :=
  CV_makeX (D := S.D.up) (K := fun ms _ => ms = m) H.x.x138 ⟨Nat.le_refl _, id⟩ (show (2 : Nat) ≤ sizeLine by decide) (fun x => (C135 H (.inl rfl) (by show S.D.n + 1 < 1000; omega)).mono (fun a o q => ⟨q.1, let ⟨dx, e⟩ := q.2; ⟨dx, m, _, e, rfl⟩⟩) fun _ _ z => z) fun x dx msg fs e => by subst e; exact h x dx fs
theorem CV_mk117 (H : KOk G) (hD : S.D.n + 20 ≤ 900) (h : ∀ x dx fs, k (.own x) ⟨σ.loc, σ.own ++ [(x, .exc 117 dx (some m) fs)]⟩) : CV G S σ (.ref 117) [.str m, ob] [] k kx :=
  CV_makeX (D := S.D.up) (K := fun ms _ => ms = m) H.x.x117 ⟨Nat.le_refl _, id⟩ (show (2 : Nat) ≤ sizeLine by decide) (fun x => (C114a H (by show S.D.n + 1 + 1 < 1000; omega)).mono (fun a o q => ⟨q.1, let ⟨dx, fs, e⟩ := q.2; ⟨dx, m, fs, e, rfl⟩⟩) fun _ _ z => z) fun x dx msg fs e => by subst e; exact h x dx fs
theorem CV_mk160 (H : KOk G) (hD : S.D.n + 20 ≤ 900) (hm0 : m.length ≠ 0) (hmz : m.length ≤ sizeLine) (h : ∀ x dx fs, k (.own x) ⟨σ.loc, σ.own ++ [(x, .exc 160 dx (some m) fs)]⟩) : CV G S σ (.ref 160) [.str m, ob] [] k kx :=
  CV_makeX (D := S.D.up) (K := fun ms _ => ms = m) H.x.x160 ⟨Nat.le_refl _, id⟩ (show (2 : Nat) ≤ sizeLine by decide) (fun x => (C157a H (by show S.D.n + 1 + 1 < 1000; omega) hm0 hmz).mono (fun a o q => ⟨q.1, let ⟨dx, fs, e⟩ := q.2; ⟨dx, m, fs, e, rfl⟩⟩) fun _ _ z => z) fun x dx msg fs e => by subst e; exact h x dx fs
theorem CV_mk117k (H : KOk G) (hD : S.D.n + 20 ≤ 900) (h : ∀ x dx fs, k (.own x) ⟨σ.loc, σ.own ++ [(x, .exc 117 dx (some m) fs)]⟩) : CV G S σ (.ref 117) [.str m] [("obj", ob)] k kx :=
  CV_makeX (D := S.D.up) (K := fun ms _ => ms = m) H.x.x117 ⟨Nat.le_refl _, id⟩ (show (1 : Nat) ≤ sizeLine by decide) (fun x => (C114k H (by show S.D.n + 1 + 1 < 1000; omega)).mono (fun a o q => ⟨q.1, let ⟨dx, fs, e⟩ := q.2; ⟨dx, m, fs, e, rfl⟩⟩) fun _ _ z => z) fun x dx msg fs e => by subst e; exact h x dx fs
theorem CV_mk160k (H : KOk G) (hD : S.D.n + 20 ≤ 900) (hm0 : m.length ≠ 0) (hmz : m.length ≤ sizeLine) (h : ∀ x dx fs, k (.own x) ⟨σ.loc, σ.own ++ [(x, .exc 160 dx (some m) fs)]⟩) : CV G S σ (.ref 160) [.str m] [("serial", ob)] k kx :=
  CV_makeX (D := S.D.up) (K := fun ms _ => ms = m) H.x.x160 ⟨Nat.le_refl _, id⟩ (show (1 : Nat) ≤ sizeLine by decide) (fun x => (C157k H (by show S.D.n + 1 + 1 < 1000; omega) hm0 hmz).mono (fun a o q => ⟨q.1, let ⟨dx, fs, e⟩ := q.2; ⟨dx, m, fs, e, rfl⟩⟩) fun _ _ z => z) fun x dx msg fs e => by subst e; exact h x dx fs
theorem CV_mk117b (H : KOk G) (hD : S.D.n + 20 ≤ 900) {Ce : Addr} {i : Nat} (hCe : Ce = 95 ∨ Ce = 117) (hi : i < 1000000) (hm : m.length + 200 ≤ sizeLine) (h : ∀ x dx fs, k (.own x) ⟨σ.loc, σ.own ++ [(x, .exc 117 dx (some (wrapped "Serialization" i m)) fs)]⟩) : CV G S σ (.ref 117) [] [("obj", ob), ("element_exception", .exc Ce m), ("index", .int i)] k kx :=
  CV_makeX (D := S.D.up) (K := fun ms _ => ms = wrapped "Serialization" i m) H.x.x117 ⟨Nat.le_refl _, id⟩ (Nat.zero_le _) (fun x => (C114b H (by show S.D.n + 1 + 1 < 1000; omega) (by rcases hCe with rfl | rfl; exact H.x.p95; exact H.x.p117) (by rcases hCe with rfl | rfl; exact H.x.b95; exact H.x.b117) hi hm (by show 10 * (S.D.n + 1) + 12 < 9900; omega)).mono (fun a o q => ⟨q.1, let ⟨dx, fs, e⟩ := q.2; ⟨dx, _, fs, e, rfl⟩⟩) fun _ _ z => z) fun x dx msg fs e => by subst e; exact h x dx fs
theorem CV_mk160b (H : KOk G) (hD : S.D.n + 20 ≤ 900) {Ce : Addr} {i : Nat} (hCe : Ce = 138 ∨ Ce = 160) (hi : i < 1000000) (hm : m.length + 200 ≤ sizeLine) (h : ∀ x dx fs, k (.own x) ⟨σ.loc, σ.own ++ [(x, .exc 160 dx (some (wrapped "Deserialization" i m)) fs)]⟩) : CV G S σ (.ref 160) [] [("serial", ob), ("element_exception", .exc Ce m), ("index", .int i)] k kx :=
  CV_makeX (D := S.D.up) (K := fun ms _ => ms = wrapped "Deserialization" i m) H.x.x160 ⟨Nat.le_refl _, id⟩ (Nat.zero_le _) (fun x => (C157b H (by show S.D.n + 1 + 1 < 1000; omega) (by rcases hCe with rfl | rfl; exact H.x.p138; exact H.x.p160) (by rcases hCe with rfl | rfl; exact H.x.b138; exact H.x.b160) hi hm (by show 10 * (S.D.n + 1) + 12 < 9900; omega)).mono (fun a o q => ⟨q.1, let ⟨dx, fs, e⟩ := q.2; ⟨dx, _, fs, e, rfl⟩⟩) fun _ _ z => z) fun x dx msg fs e => by subst e; exact h x dx fs
/-- raise C(words, thing) -/
theorem ES_raiseC {nm : Str} {args : List Expr} {pn pc p : Pos} (hx : S.scope.names.lookup nm = some .globalImplicit) (e : nsIn G.K mainGlobals nm = some (some (.ref C))) (hk : KeepV G.K (.ref C) = true) (hexc : excK G.K C = true)
    (h : EL G S σ pc args (fun as σ1 => hid σ1.own = hid σ.own ∧ ∃ m, (∀ k : AV → AS → Prop, (∀ x dx fs, k (.own x) ⟨σ1.loc, σ1.own ++ [(x, .exc C dx (some m) fs)]⟩) → CV G S σ1 (.ref C) as [] k kx) ∧ kx ⟨C, m⟩ σ1) kx) (hp : plains args = true := by rfl)
    (he : ∀ env, eval (.Call (.Name nm pn) args [] pc) env = (do callWith pc (← eval (.Name nm pn) env) [] (backTo pc (starEach args env)) (backToKw pc (keywordEach [] env))) := by intro env; rfl) (hd : (nm == ("__debug__" : Str)) = false := by decide) : ES G S σ (.Raise (some (.Call (.Name nm pn) args [] pc)) none p) kf kx :=
  ES_Raise (EV_Call hk (EV_glob hx e ⟨rfl, TrA.mono h (fun as σ1 q => by
    obtain ⟨hh, m, hmk, q⟩ := q
    exact hmk _ fun x dx fs => ⟨x, σ1.own, C, dx, m, fs, rfl, rfl, hh, hexc, q⟩) fun _ _ z => z⟩ hd) hp he)
theorem ES_raiseK {nm : Str} {args : List Expr} {kws : List Keyword} {ns : List Str} {pn pc p : Pos} (hx : S.scope.names.lookup nm = some .globalImplicit) (e : nsIn G.K mainGlobals nm = some (some (.ref C))) (hk : KeepV G.K (.ref C) = true) (hexc : excK G.K C = true)
    (h : EL G S σ pc args (fun as σ0 => EK G S σ0 pc kws (fun bs σ1 => ns.length = bs.length ∧ hid σ1.own = hid σ.own ∧ ∃ m, (∀ k : AV → AS → Prop, (∀ x dx fs, k (.own x) ⟨σ1.loc, σ1.own ++ [(x, .exc C dx (some m) fs)]⟩) → CV G S σ1 (.ref C) as (ns.zip bs) k kx) ∧ kx ⟨C, m⟩ σ1) kx) kx) (hn : kwNames kws = some ns := by rfl) (hp : plains args = true := by rfl)
    (he : ∀ env, eval (.Call (.Name nm pn) args kws pc) env = (do callWith pc (← eval (.Name nm pn) env) [] (backTo pc (starEach args env)) (backToKw pc (keywordEach kws env))) := by intro env; rfl) (hd : (nm == ("__debug__" : Str)) = false := by decide) : ES G S σ (.Raise (some (.Call (.Name nm pn) args kws pc)) none p) kf kx :=
  ES_Raise (EV_CallKw hk (EV_glob hx e ⟨rfl, TrA.mono h (fun as σ0 q0 => TrA.mono q0 (fun bs σ1 q => by
    obtain ⟨hl, hh, m, hmk, q⟩ := q
    exact ⟨hl, hmk _ fun x dx fs => ⟨x, σ1.own, C, dx, m, fs, rfl, rfl, hh, hexc, q⟩⟩) fun _ _ z => z) fun _ _ z => z⟩ hd) hn hp he)
end
/-! small functions -/
theorem bb_bool : bootBuiltins ("bool" : Str) = some (.type "bool") := by kernel_rfl
theorem bb_int : bootBuiltins ("int" : Str) = some (.type "int") := by kernel_rfl
theorem bb_bytes : bootBuiltins ("bytes" : Str) = some (.type "bytes") := by kernel_rfl
theorem bb_bytearray : bootBuiltins ("bytearray" : Str) = some (.type "bytearray") := by kernel_rfl
theorem bb_list : bootBuiltins ("list" : Str) = some (.type "list") := by kernel_rfl
theorem bb_tuple : bootBuiltins ("tuple" : Str) = some (.type "tuple") := by kernel_rfl
theorem bb_str : bootBuiltins ("str" : Str) = some (.type "str") := by kernel_rfl
theorem bb_enumerate : bootBuiltins ("enumerate" : Str) = some (.type "enumerate") := by kernel_rfl
theorem bb_zip : bootBuiltins ("zip" : Str) = some (.type "zip") := by kernel_rfl
theorem bb_range : bootBuiltins ("range" : Str) = some (.type "range") := by kernel_rfl
theorem bb_isinstance : bootBuiltins ("isinstance" : Str) = some (.builtin "isinstance") := by kernel_rfl
theorem bb_len : bootBuiltins ("len" : Str) = some (.builtin "len") := by kernel_rfl
theorem bb_max : bootBuiltins ("max" : Str) = some (.builtin "max") := by kernel_rfl
theorem bb_min : bootBuiltins ("min" : Str) = some (.builtin "min") := by kernel_rfl
theorem bb_any : bootBuiltins ("any" : Str) = some (.builtin "any") := by kernel_rfl
section
variable {G : Gb} {D : Lv}
theorem tyN_isSeq {d : AV} {T : String} (h : tyN d = some T) : True := trivial
/-- whether a value is a row -/
def isRow : AV → Bool
  | .list _ => true
  | .tuple _ => true
  | _ => false
theorem C1621 (H : KAll G) {d : AV} {T : String} (hT : tyN d = some T) (hD : D.n + 20 ≤ 900) : Fn G D (.ref 1621) [d] [] [] (fun a own' => own' = [] ∧ a = .bool (["list", "tuple"].any (subT T))) (fun _ _ => False) := by
  refine Fn_d (names := ["obj"]) (loc := [some d]) H.fns.f1621 (by show D.n < 1000; omega) (fun g s vs ws X R1 R2 => ?_) ?_
  · cases R2
    obtain _ | ⟨r1, _ | _⟩ := R1
    rename_i v1
    exact ⟨[("obj", v1)], fun _ _ _ _ _ => .of_eq rfl, by intro y hy; simp at hy; subst hy; rfl, .cons rfl r1 rfl .nil⟩
  · refine EX_cons (ES_Return (EV_Call (f := .builtin "isinstance") rfl (EV_blt rfl H.g.b_isinstance bb_isinstance (by decide) ⟨rfl, ?_⟩)))
    refine EL_cons (EV_loc 0 rfl rfl (EL_cons (EV_Tuple ?_)))
    refine EL_cons (EV_blt rfl H.g.b_list bb_list (by decide) ?_)
    refine EL_cons (EV_blt rfl H.g.b_tuple bb_tuple (by decide) ?_)
    refine EL_nil ⟨by show (2 : Nat) ≤ sizeLine; decide, EL_nil (CV_isinstance_tup (Us := ["list", "tuple"]) hT (by decide) ?_)⟩
    exact ⟨[], [], rfl, by simp, rfl, rfl⟩
end
end Mine
end
/-! Pr6 -/
section
open PySem PySem.Calls PyProof.Rows
open PySem.W
namespace Mine
section
variable {G : Gb} {D : Lv} {S : St} {σ : AS} {k : AV → AS → Prop} {kf : AF → AS → Prop} {kx : AX → AS → Prop}
theorem EV_Meth {o : Expr} {x : Str} {ap p : Pos} {args : List Expr} (h : EV G S σ o (fun a σ1 => ∃ f fas, KeepV G.K f = true ∧ GM G S σ1 a x f fas ∧ EL G S σ1 p args (fun as σ2 => CV G S σ2 f (fas ++ as) [] k kx) kx) kx) (hp : plains args = true := by rfl)
    (he : ∀ env, eval (.Call (.Attribute o x ap) args [] p) env = (do
      let ov ← eval o env
      standAt ap.atName
      let (f, first) ← holding [ov] (getMethod ov x (do return (← importBound o env).getD true))
      callWith p f first (backTo p (starEach args env)) (backToKw p (keywordEach [] env))) := by intro env; rfl) : EV G S σ (.Call (.Attribute o x ap) args [] p) k kx := fun r g s I Q E hq hx => by
  refine methodCall_KW (h r g s I _ _ (fun va s1 g1 a σ1 P1 R1 h1 => ?_) hx) (he _)
  obtain ⟨f, fas, hk, hm, h1⟩ := h1
  obtain ⟨first, Rf, hm⟩ := hm r g1 s1 P1.inv va R1
  refine hm _ _ _ fun t => ?_
  have P2 := P1.trans (Post.toks P1.inv t)
  exact (callWithG (s := { s1 with toks := t }) hk P2.inv Rf h1 hp).from P2 hq hx
/-- a call of a built-in function by its name -/
theorem EV_bcall {nm : Str} {f : Value} {args : List Expr} {pn p : Pos} (hx : S.scope.names.lookup nm = some .globalImplicit) (e : nsIn G.K mainGlobals nm = some none) (hb : bootBuiltins nm = some f) (hf : KeepV G.K f = true) (hn : nm ≠ "__name__")
    (h : EL G S σ p args (fun as σ1 => CV G S σ1 f as [] k kx) kx) (hp : plains args = true := by rfl)
    (he : ∀ env, eval (.Call (.Name nm pn) args [] p) env = (do callWith p (← eval (.Name nm pn) env) [] (backTo p (starEach args env)) (backToKw p (keywordEach [] env))) := by intro env; rfl) (hd : (nm == ("__debug__" : Str)) = false := by decide) : EV G S σ (.Call (.Name nm pn) args [] p) k kx :=
  EV_Call hf (EV_blt hx e hb hn ⟨rfl, h⟩ hd) hp he
/-- a call of a function of the module by its name -/
theorem EV_gcall {nm : Str} {f : Addr} {args : List Expr} {pn p : Pos} (hx : S.scope.names.lookup nm = some .globalImplicit) (e : nsIn G.K mainGlobals nm = some (some (.ref f))) (hf : KeepV G.K (.ref f) = true)
    (h : EL G S σ p args (fun as σ1 => CV G S σ1 (.ref f) as [] k kx) kx) (hp : plains args = true := by rfl)
    (he : ∀ env, eval (.Call (.Name nm pn) args [] p) env = (do callWith p (← eval (.Name nm pn) env) [] (backTo p (starEach args env)) (backToKw p (keywordEach [] env))) := by intro env; rfl) (hd : (nm == ("__debug__" : Str)) = false := by decide) : EV G S σ (.Call (.Name nm pn) args [] p) k kx :=
  EV_Call hf (EV_glob hx e ⟨rfl, h⟩ hd) hp he
/-- the use of a contract that takes nothing of one's own -/
theorem CV_fn0 {f : Value} {as : List AV} {kw : List (Str × AV)} {K : AV → Prop} {KX : AX → Prop} (hF : Fn G S.D f as kw [] (fun a own' => own' = [] ∧ K a) (fun x own' => own' = [] ∧ KX x)) (hk : ∀ a, K a → k a σ) (hx : ∀ x, KX x → kx x σ) : CV G S σ f as kw k kx :=
  CV_fn (own := []) (rest := σ.own) hF rfl ⟨Nat.le_refl _, id⟩ (fun a own' _ q => by obtain ⟨rfl, q⟩ := q; exact hk a q) fun x own' _ q => by obtain ⟨rfl, q⟩ := q; exact hx x q
theorem Fn.noX {f : Value} {as : List AV} {kw : List (Str × AV)} {own : List (Addr × OV)} {k : AV → List (Addr × OV) → Prop} {kx : AX → List (Addr × OV) → Prop} (h : Fn G D f as kw own k (fun _ _ => False)) : Fn G D f as kw own k kx := h.mono (fun _ _ z => z) fun _ _ z => z.elim
/-- isinstance with one class by its name -/
theorem EV_isi {x : Expr} {T : String} {nm : Str} {pn p q1 : Pos} {d : AV} {T0 : String} (hx : S.scope.names.lookup ("isinstance" : Str) = some .globalImplicit) (hg : KG G.K) (hx2 : S.scope.names.lookup nm = some .globalImplicit) (e : nsIn G.K mainGlobals nm = some none) (hb : bootBuiltins nm = some (.type T)) (hn : nm ≠ "__name__") (hU : T ∈ isiTypes)
    (h : EV G S σ x (fun a σ1 => a = d ∧ tyN d = some T0 ∧ k (.bool (subT T0 T)) σ1) kx) (hp : plains [x, .Name nm q1] = true := by rfl) (hpx : plainE x = true := by rfl) (he : ∀ env, eval (.Call (.Name "isinstance" pn) [x, .Name nm q1] [] p) env = (do callWith p (← eval (.Name "isinstance" pn) env) [] (backTo p (starEach [x, .Name nm q1] env)) (backToKw p (keywordEach [] env))) := by intro env; rfl) (hd : (nm == ("__debug__" : Str)) = false := by decide) :
    EV G S σ (.Call (.Name "isinstance" pn) [x, .Name nm q1] [] p) k kx :=
  EV_bcall hx hg.b_isinstance bb_isinstance rfl (by decide) (EL_cons (TrA.mono h (fun a σ1 ⟨h1, h2, h3⟩ => EL_cons (EV_blt hx2 e hb hn (EL_nil (by subst h1; exact CV_isinstance h2 hU h3)) hd)) fun _ _ z => z) hpx) hp he
end
section
variable {G : Gb} {D : Lv}
/-- int_to_big_endian of a number above nought -/
theorem C1471 (H : KAll G) {a : Nat} (ha : 0 < a) (ha8 : a < 256 ^ 8) (hD : D.n + 20 ≤ 900) : Fn G D (.ref 1471) [.int a] [] [] (fun v own' => own' = [] ∧ v = .bytes (digits a).toArray) (fun _ _ => False) := by
  refine Fn_d (names := ["value"]) (loc := [some (.int a)]) H.fns.f1471 (by show D.n < 1000; omega) (fun g s vs ws X R1 R2 => ?_) ?_
  · cases R2
    obtain _ | ⟨r1, _ | _⟩ := R1
    rename_i v1
    exact ⟨[("value", v1)], fun _ _ _ _ _ => .of_eq rfl, by intro y hy; simp at hy; subst hy; rfl, .cons rfl r1 rfl .nil⟩
  · have hb := nb_ok ha
    have hl := nb_le ha8
    have hpos : 0 < (Builtin.Int.intBits (a : Int) + 7) / 8 := by
      rcases Nat.eq_zero_or_pos ((Builtin.Int.intBits (a : Int) + 7) / 8) with z | z
      · rw [z] at hb; have := hb.1; simp at this; omega
      · exact z
    have hfd : ((Builtin.Int.intBits (a : Int) : Int) + 7).fdiv 8 = (((Builtin.Int.intBits (a : Int) + 7) / 8 : Nat) : Int) := by
      rw [Int.fdiv_eq_ediv_of_nonneg _ (by decide)]; omega
    refine EX_cons (ES_Return (EV_Meth (EV_loc 0 rfl rfl ⟨_, _, rfl, GM_to_bytes, ?_⟩)))
    refine EL_cons (EV_Or2 (EV_BinOp (EV_BinOp ?_)))
    refine EV_Meth (EV_loc 0 rfl rfl ⟨_, _, rfl, GM_bit_length, EL_nil (CV_bit_length ?_)⟩)
    refine EV_int (BO_add (EV_int (BO_div (by decide) (PyProof.noPylong_small (by decide)) (TU_int ?_))))
    rw [hfd, show ((((Builtin.Int.intBits (a : Int) + 7) / 8 : Nat) : Int) != 0) = true from by simp; omega]
    refine EL_cons (EV_str (EL_nil (CV_to_bytes hl (by omega) (by have := hb.1; exact_mod_cast this) fun b hbb => ?_)))
    have e : b = (digits a).toArray := bytes_of_ints (hbb.trans (little_digits _ a hb.1 (.inr hb.2)))
    exact ⟨[], [], rfl, by simp, rfl, by subst e; rfl⟩
end
end Mine
end
/-! Pr7 -/
section
open PySem PySem.Calls PyProof.Rows
open PySem.W
namespace Mine
theorem bind2 {G : Gb} {d : Stmt} {qual : Str} {sc : Scope} {cl : List (Str × Addr)} {dV cdv : Value} {n1 n2 : Str} {a1 a2 : AV} {more : List Str} {ml : List (Option AV)} (hb : ∀ kV doc pm an ct v1 v2, bindArgs (fnX (defName d) qual (defArgs d) (defBody d) sc cl dV kV doc pm an cdv ct) ⟨[v1, v2], []⟩ = pure [(n1, v1), (n2, v2)]) (h1 : sc.names.lookup n1 = some .local) (h2 : sc.names.lookup n2 = some .local) (hne : (n1 == n2) = false) (hmore : ml = more.map fun _ => none) :
    Binds G d qual sc cl dV cdv [a1, a2] [] (n1 :: n2 :: more) (some a1 :: some a2 :: ml) := fun g s vs ws X R1 R2 => by
  cases R2
  obtain _ | ⟨r1, _ | ⟨r2, _ | _⟩⟩ := R1
  rename_i v1 v2
  refine ⟨[(n1, v1), (n2, v2)], fun _ _ _ _ _ => .of_eq (hb _ _ _ _ _ _ _), by intro y hy; simp at hy; rcases hy with rfl | rfl <;> assumption, .cons ?_ r1 h1 (.cons ?_ r2 h2 ?_)⟩
  · show List.lookup n1 [(n2, v2), (n1, v1)] = _
    simp [List.lookup, hne]
  · show List.lookup n2 [(n2, v2), (n1, v1)] = _
    simp [List.lookup]
  · subst hmore
    induction more with
    | nil => exact .nil
    | cons x xs ih => exact .skip ih
theorem bind1 {G : Gb} {d : Stmt} {qual : Str} {sc : Scope} {cl : List (Str × Addr)} {dV cdv : Value} {n1 : Str} {a1 : AV} {more : List Str} {ml : List (Option AV)} (hb : ∀ kV doc pm an ct v1, bindArgs (fnX (defName d) qual (defArgs d) (defBody d) sc cl dV kV doc pm an cdv ct) ⟨[v1], []⟩ = pure [(n1, v1)]) (h1 : sc.names.lookup n1 = some .local) (hmore : ml = more.map fun _ => none) :
    Binds G d qual sc cl dV cdv [a1] [] (n1 :: more) (some a1 :: ml) := fun g s vs ws X R1 R2 => by
  cases R2
  obtain _ | ⟨r1, _ | _⟩ := R1
  rename_i v1
  refine ⟨[(n1, v1)], fun _ _ _ _ _ => .of_eq (hb _ _ _ _ _ _), by intro y hy; simp at hy; subst hy; assumption, .cons ?_ r1 h1 ?_⟩
  · show List.lookup n1 [(n1, v1)] = _
    simp [List.lookup]
  · subst hmore
    induction more with
    | nil => exact .nil
    | cons x xs ih => exact .skip ih
def isInt : AV → Bool
  | .int _ => true
  | _ => false
section
variable {G : Gb} {D : Lv} {S : St} {σ : AS} {k : AV → AS → Prop} {kf : AF → AS → Prop} {kx : AX → AS → Prop} {kb : Bool → AS → Prop}
/-- isinstance(x, bool) or not isinstance(x, int) -/
theorem TV_num (H : KAll G) (i : Nat) {nm : Str} {d : AV} {T : String} {q1 q2 q3 q4 q5 q6 q7 q8 q9 q10 : Pos} (hi : S.names[i]? = some nm) (hl : σ.loc[i]? = some (some d)) (hT : tyN d = some T) (hx : S.scope.names.lookup ("isinstance" : Str) = some .globalImplicit) (hb : S.scope.names.lookup ("bool" : Str) = some .globalImplicit) (hn : S.scope.names.lookup ("int" : Str) = some .globalImplicit) (h : kb (!isInt d) σ) (hd : (nm == ("__debug__" : Str)) = false := by decide) (hc : (nm == ("__classdict__" : Str)) = false := by decide) :
    TV G S σ (.BoolOp .Or [.Call (.Name "isinstance" q1) [.Name nm q2, .Name "bool" q3] [] q4, .UnaryOp .Not (.Call (.Name "isinstance" q5) [.Name nm q6, .Name "int" q7] [] q8) q9] q10) kb kx := by
  refine TV_BoolOp (TA_Or_cons (TV_value (EV_isi hx H.g hb H.g.b_bool bb_bool (by decide) (by decide) (EV_loc i hi hl ⟨rfl, hT, TU_bool ?_⟩ hd hc))))
  have e : isInt d = (!subT T "bool" && subT T "int") := by
    cases d <;> simp only [tyN, Option.some.injEq, reduceCtorEq] at hT <;> subst hT <;> (simp only [isInt]; decide)
  cases hb1 : subT T "bool" with
  | true =>
    rw [e, hb1] at h
    exact h
  | false =>
    refine TA_Or_cons (TV_Not (TV_value (EV_isi hx H.g hn H.g.b_int bb_int (by decide) (by decide) (EV_loc i hi hl ⟨rfl, hT, TU_bool ?_⟩ hd hc))))
    rw [e, hb1] at h
    cases hb2 : subT T "int" with
    | true => rw [hb2] at h; exact TA_Or_nil h
    | false => rw [hb2] at h; exact h
/-- if not isinstance(x, (..)) and the like come down to this -/
theorem EV_isiTup (H : KAll G) {x : Expr} {d : AV} {T : String} {Us : List String} {ts : List Expr} {u : Nat} {q1 q2 q3 : Pos} (hx : S.scope.names.lookup ("isinstance" : Str) = some .globalImplicit) (hU : ∀ U ∈ Us, U ∈ isiTypes) (hz : Us.length ≤ sizeLine)
    (h : EV G S σ x (fun a σ1 => a = d ∧ tyN d = some T ∧ EL G S σ1 q2 ts (fun as σ2 => as = Us.map (fun U => .v (.type U)) ∧ k (.bool (Us.any (subT T))) σ2) kx) kx) (hpx : plainE x = true := by rfl) (hp : plains [x, .Tuple ts u q2] = true := by rfl)
    (he : ∀ env, eval (.Call (.Name "isinstance" q1) [x, .Tuple ts u q2] [] q3) env = (do callWith q3 (← eval (.Name "isinstance" q1) env) [] (backTo q3 (starEach [x, .Tuple ts u q2] env)) (backToKw q3 (keywordEach [] env))) := by intro env; rfl) :
    EV G S σ (.Call (.Name "isinstance" q1) [x, .Tuple ts u q2] [] q3) k kx :=
  EV_bcall hx H.g.b_isinstance bb_isinstance rfl (by decide) (EL_cons (TrA.mono h (fun a σ1 ⟨h1, h2, h3⟩ => EL_cons (EV_Tuple (TrA.mono h3 (fun as σ2 ⟨e, q⟩ => ⟨by rw [e, List.length_map]; exact hz, EL_nil (by subst h1; subst e; exact CV_isinstance_tup h2 hU q)⟩) fun _ _ z => z))) fun _ _ z => z) hpx) hp he
theorem ES_raise95 (H : KAll G) (hD : S.D.n + 20 ≤ 900) (i : Nat) {nm m : Str} {ob : AV} {u : Nat} {pn p1 p2 pc p : Pos} (hx : S.scope.names.lookup ("SerializationError" : Str) = some .globalImplicit) (hi : S.names[i]? = some nm) (hl : σ.loc[i]? = some (some ob)) (h : kx ⟨95, m⟩ σ) (hd : (nm == ("__debug__" : Str)) = false := by decide) (hc : (nm == ("__classdict__" : Str)) = false := by decide) :
    ES G S σ (.Raise (some (.Call (.Name "SerializationError" pn) [.Constant (.str m) u p1, .Name nm p2] [] pc)) none p) kf kx :=
  ES_raiseC hx H.g.g_SerializationError H.g.kx95 H.x.e95 (EL_cons (EV_str (EL_cons (EV_loc i hi hl (EL_nil ⟨rfl, m, fun k hk => CV_mk95 H.toKOk hD hk, h⟩) hd hc))))
theorem ES_raise138 (H : KAll G) (hD : S.D.n + 20 ≤ 900) (i : Nat) {nm m : Str} {ob : AV} {u : Nat} {pn p1 p2 pc p : Pos} (hx : S.scope.names.lookup ("DeserializationError" : Str) = some .globalImplicit) (hi : S.names[i]? = some nm) (hl : σ.loc[i]? = some (some ob)) (h : kx ⟨138, m⟩ σ) (hd : (nm == ("__debug__" : Str)) = false := by decide) (hc : (nm == ("__classdict__" : Str)) = false := by decide) :
    ES G S σ (.Raise (some (.Call (.Name "DeserializationError" pn) [.Constant (.str m) u p1, .Name nm p2] [] pc)) none p) kf kx :=
  ES_raiseC hx H.g.g_DeserializationError H.g.kx138 H.x.e138 (EL_cons (EV_str (EL_cons (EV_loc i hi hl (EL_nil ⟨rfl, m, fun k hk => CV_mk138 H.toKOk hD hk, h⟩) hd hc))))
theorem ES_raise117 (H : KAll G) (hD : S.D.n + 20 ≤ 900) (i : Nat) {nm m : Str} {ob : AV} {u : Nat} {pn p1 p2 pc p : Pos} (hx : S.scope.names.lookup ("ListSerializationError" : Str) = some .globalImplicit) (hi : S.names[i]? = some nm) (hl : σ.loc[i]? = some (some ob)) (h : kx ⟨117, m⟩ σ) (hd : (nm == ("__debug__" : Str)) = false := by decide) (hc : (nm == ("__classdict__" : Str)) = false := by decide) :
    ES G S σ (.Raise (some (.Call (.Name "ListSerializationError" pn) [.Constant (.str m) u p1, .Name nm p2] [] pc)) none p) kf kx :=
  ES_raiseC hx H.g.g_ListSerializationError H.g.kx117 H.x.e117 (EL_cons (EV_str (EL_cons (EV_loc i hi hl (EL_nil ⟨rfl, m, fun k hk => CV_mk117 H.toKOk hD hk, h⟩) hd hc))))
theorem ES_raise160 (H : KAll G) (hD : S.D.n + 20 ≤ 900) (i : Nat) {nm m : Str} {ob : AV} {u : Nat} {pn p1 p2 pc p : Pos} (hx : S.scope.names.lookup ("ListDeserializationError" : Str) = some .globalImplicit) (hi : S.names[i]? = some nm) (hl : σ.loc[i]? = some (some ob)) (hm0 : m.length ≠ 0) (hmz : m.length ≤ sizeLine) (h : kx ⟨160, m⟩ σ) (hd : (nm == ("__debug__" : Str)) = false := by decide) (hc : (nm == ("__classdict__" : Str)) = false := by decide) :
    ES G S σ (.Raise (some (.Call (.Name "ListDeserializationError" pn) [.Constant (.str m) u p1, .Name nm p2] [] pc)) none p) kf kx :=
  ES_raiseC hx H.g.g_ListDeserializationError H.g.kx160 H.x.e160 (EL_cons (EV_str (EL_cons (EV_loc i hi hl (EL_nil ⟨rfl, m, fun k hk => CV_mk160 H.toKOk hD hm0 hmz hk, h⟩) hd hc))))
end
end Mine
end
/-! Pr8 -/
section
open PySem PySem.Calls PyProof.Rows
open PySem.W
namespace Mine
/-- what serialize of a sedes comes to -/
def SerF (G : Gb) (D : Lv) (p : Plan) (f : Addr) (t : AV) : Prop :=
  Fn G D (.ref f) [p.obj, t] [] [] (fun a own' => own' = [] ∧ (written p t).2 = "" ∧ a = (written p t).1) (fun x own' => own' = [] ∧ ((written p t).2 ≠ "" ∧ x.msg = (written p t).2 ∧ (x.C = 95 ∨ x.C = 117)))
theorem endX0 {KX : AX → Prop} {x : AX} {σ : AS} (h : KX x) : EndX [] (fun x own' => own' = [] ∧ KX x) x σ := ⟨[], σ.own, rfl, by simp [hid], rfl, h⟩
theorem endF0 {K : AV → Prop} {f : AF} {σ : AS} (h : K (retA f)) : EndF [] (fun a own' => own' = [] ∧ K a) f σ := ⟨[], σ.own, rfl, by simp [hid], rfl, h⟩
theorem optI_handed (o : Option Nat) : (optI o).handed = true := by cases o <;> rfl
theorem thOk_ty {n : Nat} {t : AV} (h : thOk n t) : ∃ T, tyN t = some T := by
  cases t <;> first | exact ⟨_, rfl⟩ | (cases n <;> exact h.elim)
theorem strOf_ne {a b : Str} (h : 0 < a.length) : a ++ b ≠ "" := fun e => by
  have := congrArg Str.length e
  rw [Str.length_append] at this
  have z : ("" : Str).length = 0 := by decide
  omega
theorem strLen2 {a b : Str} (h : 0 < a.length) : 0 < (a ++ b).length := by rw [Str.length_append]; omega
theorem fstr3 {G : Gb} {S : St} {σ : AS} {k : AV → AS → Prop} {kx : AX → AS → Prop} {s1 s2 : Str} {n u1 u2 : Nat} {p p1 p2 q1 : Pos} {e1 : Expr} (hn : n < 1000000) (h3 : s1.length + s2.length ≤ 100)
    (h : EV G S σ e1 (fun a σ1 => a = .int n ∧ k (.str (s1 ++ toString (n : Int) ++ s2)) σ1) kx) :
    EV G S σ (.JoinedStr [.Constant (.str s1) u1 p1, .FormattedValue e1 (-1) none q1, .Constant (.str s2) u2 p2] p) k kx := by
  have hd := dig_len hn
  have L : ∀ a b : Str, (a ++ b).length = a.length + b.length := Str.length_append
  have E0 : ∀ a : Str, Str.empty ++ a = a := Str.empty_append
  have hz : sizeLine = 16777216 := rfl
  refine EV_JoinedStr (JP_cons (EV_str ⟨_, rfl, ?_, JP_cons (EV_Fmt (TrA.mono h (fun a σ1 q => .inl ⟨n, q.1, small_log hn, _, rfl, ?_, JP_cons (EV_str ⟨_, rfl, ?_, JP_nil ?_ ?_⟩)⟩) fun _ _ z => z))⟩))
  · rw [E0]; omega
  · rw [E0, L]; omega
  · rw [E0, L, L]; omega
  · rw [E0, L, L]; omega
  · rw [E0]; exact q.2
/-- a field of an object under a local name -/
theorem EV_fld {G : Gb} {S : St} {σ : AS} {k : AV → AS → Prop} {kx : AX → AS → Prop} (i : Nat) {nm x : Str} {C : Addr} {fs : List (Str × AV)} {d : AV} {p q : Pos} (hi : S.names[i]? = some nm) (hl : σ.loc[i]? = some (some (.obj C fs))) (hf : fget x fs = some d) (hp : plainCls G.K C x = true) (hh : d.handed = true) (h : k d σ)
    (hd : (nm == ("__debug__" : Str)) = false := by decide) (hc : (nm == ("__classdict__" : Str)) = false := by decide) : EV G S σ (.Attribute (.Name nm p) x q) k kx :=
  EV_Attribute (EV_loc i hi hl (GA_obj hf hp hh h) hd hc)
section
variable {G : Gb} {D : Lv}
theorem C1493 (H : KAll G) {n : Nat} {one : Option Nat} {t : AV} (ho : (Plan.number one).ok) (ht : thOk n t) (hD : D.n + 40 ≤ 900) (hq : D.q = true) : SerF G D (.number one) 1493 t := by
  obtain ⟨T, hT⟩ := thOk_ty ht
  unfold SerF
  refine Fn_d (names := ["self", "obj", "s"]) (loc := [some (Plan.number one).obj, some t, none]) H.fns.f1493 (by show D.n < 1000; omega) (bind2 (fun _ _ _ _ _ _ _ => rfl) rfl rfl rfl rfl) ?_
  have hD' : D.up.n + 20 ≤ 900 := by show D.n + 1 + 20 ≤ 900; omega
  refine EX_cons (ES_If (TV_num H 1 rfl rfl hT rfl rfl rfl ?_))
  cases hI : isInt t with
  | false =>
    have hw : written (.number one) t = (AV.none, ("Can only serialize integers" : Str)) := by cases t <;> first | (simp only [written]; done) | cases hI
    rw [hw]
    exact EX_cons (ES_raise95 H hD' 1 rfl rfl rfl (endX0 ⟨by decide, rfl, .inl rfl⟩))
  | true =>
  obtain ⟨i, rfl⟩ : ∃ i, t = .int i := by cases t <;> first | exact ⟨_, rfl⟩ | cases hI
  obtain ⟨lo, hi⟩ : -1 ≤ i ∧ i ≤ 70000 := by cases n <;> exact ht
  refine EX_nil ?_
  show EX _ _ _ _ _ _
  have rest : ∀ {σ : AS}, σ.own = [] → σ.loc = [some (Plan.number one).obj, some (.int i), none] → big one i = false → EX G ⟨"BigEndianInt.serialize", sc1493, 1493, .ref 1492, ["self", "obj", "s"], D.up, false⟩ σ ((defBody d1493).drop 2) (EndF [] fun a own' => own' = [] ∧ (written (.number one) (.int i)).2 = "" ∧ a = (written (.number one) (.int i)).1) (EndX [] fun x own' => own' = [] ∧ ((written (.number one) (.int i)).2 ≠ "" ∧ x.msg = (written (.number one) (.int i)).2 ∧ (x.C = 95 ∨ x.C = 117))) := by
    intro σ hown hloc hbig
    obtain ⟨loc, own⟩ := σ
    cases hown; cases hloc
    refine EX_cons (ES_If (TV_Compare (EV_loc 1 rfl rfl (EV_int (CO_lt (TU_bool ?_))))))
    by_cases hneg : i < 0
    · have hw : written (.number one) (.int i) = (AV.none, ("Cannot serialize negative integers" : Str)) := by
        rw [written, hbig, if_neg (by decide), if_pos hneg]
      rw [decide_eq_true hneg, hw]
      exact EX_cons (ES_raise95 H hD' 1 rfl rfl rfl (endX0 ⟨by decide, rfl, .inl rfl⟩))
    · have hw : written (.number one) (.int i) = (AV.bytes (numB one i.toNat), ("" : Str)) := by
        rw [written, hbig, if_neg (by decide), if_neg hneg]
      rw [decide_eq_false hneg, hw]
      refine EX_nil ?_
      obtain ⟨a, rfl⟩ : ∃ a : Nat, i = a := ⟨i.toNat, by omega⟩
      have hat : ((a : Int)).toNat = a := by omega
      rw [hat]
      refine EX_cons (ES_If (TV_Compare (EV_loc 1 rfl rfl (EV_int (CO_eq (TU_bool ?_))))))
      have last : ∀ {σ : AS}, σ.own = [] → σ.loc = [some (Plan.number one).obj, some (.int a), some (.bytes (digits a).toArray)] → EX G ⟨"BigEndianInt.serialize", sc1493, 1493, .ref 1492, ["self", "obj", "s"], D.up, false⟩ σ ((defBody d1493).drop 4) (EndF [] fun v own' => own' = [] ∧ ("" : Str) = "" ∧ v = .bytes (numB one a)) (EndX [] fun x own' => own' = [] ∧ (("" : Str) ≠ "" ∧ x.msg = "" ∧ (x.C = 95 ∨ x.C = 117))) := by
        intro σ hown hloc
        obtain ⟨loc, own⟩ := σ
        cases hown; cases hloc
        refine EX_cons (ES_If (TV_Compare (EV_fld 0 rfl rfl rfl H.g.at1503_length (optI_handed _) (EV_none (CO_notNone (TU_bool ?_))))))
        cases one with
        | none =>
          refine EX_cons (ES_Return (EV_loc 2 rfl rfl ⟨[], _, rfl, List.Subset.refl _, rfl, rfl, ?_⟩))
          unfold numB
          simp [retA]
        | some m =>
          have hm : m ≤ 2 := by rcases ho m rfl with rfl | rfl <;> decide
          have hlen : (digits a).length ≤ 8 := by
            rcases Nat.eq_zero_or_pos a with z | z
            · subst z; rw [digits_zero]; decide
            · rw [digits_len z]; exact nb_le (by omega)
          refine EX_cons (ES_Return (EV_BinOp (EV_BinOp (EV_bytes ?_))))
          refine EV_bcall rfl H.g.b_max bb_max rfl (by decide) (EL_cons (EV_int (EL_cons (EV_BinOp (EV_fld 0 rfl rfl rfl H.g.at1503_length rfl ?_)))))
          refine EV_bcall rfl H.g.b_len bb_len rfl (by decide) (EL_cons (EV_loc 2 rfl rfl (EL_nil (CV_len_bytes (by simp; omega) (BO_sub ?_)))))
          refine EL_nil (CV_max hq (BO_bytes_mul (by decide) ?_ ?_ (by decide) (EV_loc 2 rfl rfl (BO_bytes ?_ ⟨[], _, rfl, List.Subset.refl _, rfl, rfl, ?_⟩))))
          · split <;> omega
          · split
            · simp; omega
            · decide
          · simp
            split <;> omega
          · unfold numB
            simp only [retA, Option.getD_some]
            have e : (if ((m : Int) - ((digits a).toArray.size : Int)) > 0 then ((m : Int) - ((digits a).toArray.size : Int)) else 0).toNat = m - (digits a).length := by
              simp only [List.size_toArray]
              split <;> omega
            rw [e]
            have e2 : (List.replicate (m - (digits a).length) ([0] : List UInt8)).flatten = List.replicate (m - (digits a).length) 0 := by
              induction (m - (digits a).length) with
              | zero => rfl
              | succ k ih => rw [List.replicate_succ, List.replicate_succ, List.flatten_cons, ih]; rfl
            rw [e2]
            simp
      by_cases h0 : a = 0
      · subst h0
        refine EX_cons (ES_Assign_Name 2 rfl (EV_bytes ?_))
        exact EX_nil (last rfl (by rw [digits_zero]; rfl))
      · rw [show (((a : Int)) == 0) = false from by simpa using h0]
        refine EX_cons (ES_Assign_Name 2 rfl (EV_gcall rfl H.g.g_int_to_big_endian H.g.kf1471 (EL_cons (EV_loc 1 rfl rfl (EL_nil (CV_fn0 (C1471 H (by omega) (by omega) hD').noX (K := fun v => v = .bytes (digits a).toArray) (KX := fun _ => False) (fun v hv => ?_) fun _ z => z.elim))))))
        subst hv
        exact EX_nil (last rfl rfl)
  refine EX_cons (ES_If (TV_BoolOp (TA_And_cons (TV_Compare (EV_fld 0 rfl rfl rfl H.g.at1503_length (optI_handed _) (EV_none (CO_notNone (TU_bool ?_))))))))
  cases one with
  | none => exact EX_nil (rest rfl rfl rfl)
  | some m =>
    have hm : m ≤ 2 := by rcases ho m rfl with rfl | rfl <;> decide
    refine TA_And_cons (TV_Compare (EV_loc 1 rfl rfl (EV_BinOp (EV_int (EV_fld 0 rfl rfl rfl H.g.at1503_length rfl (BO_pow (by omega) (by omega) (by decide) (CO_ge (TU_bool ?_))))))))
    have hb : big (some m) i = decide (i ≥ (256 : Int) ^ ((m : Int).toNat)) := by show decide _ = decide _; congr 1
    cases hbig : big (some m) i with
    | false =>
      rw [← hb, hbig]
      exact EX_nil (rest rfl rfl hbig)
    | true =>
      rw [← hb, hbig]
      refine TA_And_nil ?_
      have hw : written (.number (some m)) (.int i) = (AV.none, ("Integer too large (does not fit in " ++ toString (m : Int) ++ " bytes)" : Str)) := by
        rw [written, hbig, if_pos rfl]; rfl
      rw [hw]
      refine EX_cons (ES_raiseC rfl H.g.g_SerializationError H.g.kx95 H.x.e95 (EL_cons (fstr3 (n := m) (by omega) (by decide) (EV_fld 0 rfl rfl rfl H.g.at1503_length rfl ⟨rfl, ?_⟩))))
      exact EL_cons (EV_loc 1 rfl rfl (EL_nil ⟨rfl, _, fun k hk => CV_mk95 H.toKOk hD' hk, endX0 ⟨strOf_ne (strLen2 (by decide)), rfl, .inl rfl⟩⟩))
end
end Mine
end
/-! Pl3 -/
section
open PySem PySem.Calls PyProof.Rows
open PySem.W
namespace Mine
def numVal (b : Array UInt8) : Int := KFB.value (KBw.bInts b)
/-- what a row's places come to when it is read -/
def foldR (most : Option Nat) (k : Nat) : List (AV × Str) → List AV → AV × Str
  | [], acc => (.tuple acc, "")
  | (v, ws) :: r, acc => if (match most with | some m => decide (k ≥ m) | none => false) = true then (.none, "Too many elements (more than " ++ toString (most.getD 0 : Int) ++ ")")
    else if ws ≠ "" then (.none, wrapped "Deserialization" k ws) else foldR most (k + 1) r (acc ++ [v])
mutual
/-- the law's own reading -/
def readP : Plan → AV → AV × Str
  | .number one, .bytes b => if (match one with | some n => decide (b.size ≠ n) | none => false) = true then (.none, "Invalid serialization (wrong size)")
      else if one.isNone = true ∧ b.toList.take 1 = [0] then (.none, "Invalid serialization (not minimal length)") else (.int (numVal b), "")
  | .number _, _ => (.none, "?")
  | .octets lo hi, .bytes b => if (decide (b.size < lo) || above hi b.size) = true then (.none, "Object has invalid length") else (.bytes b, "")
  | .octets _ _, _ => (.none, "Objects of this kind cannot be deserialized")
  | .truth, .bytes b => if b.toList = [] ∨ b.toList = [1] then (.bool (b.toList == [1]), "") else (.none, "Invalid serialized boolean.  Must be either 0x01 or 0x00")
  | .truth, _ => (.none, "Invalid serialized boolean.  Must be either 0x01 or 0x00")
  | .row s ps, .list ds => if s = true ∧ ds.length ≠ ps.length then (.none, "Deserializing list length (" ++ toString (ds.length : Int) ++ ") does not match sedes (" ++ toString (ps.length : Int) ++ ")")
      else foldR none 0 (readZ ps ds) []
  | .row _ _, _ => (.none, "Can only deserialize sequences")
  | .many m p, .list ds => foldR m 0 (ds.map fun d => readP p d) []
  | .many _ _, _ => (.none, "Can only deserialize sequences")
def readZ : List Plan → List AV → List (AV × Str)
  | p :: ps, d :: ds => readP p d :: readZ ps ds
  | _, _ => []
end
/-- items of bounded size -/
def itOk : Nat → AV → Prop
  | _, .bytes b => b.size ≤ 5
  | n + 1, .list ds => ds.length ≤ 4 ∧ ∀ d ∈ ds, itOk n d
  | _, _ => False
mutual
/-- no row stands in the place of a number -/
def fits : Plan → AV → Prop
  | .number _, .bytes _ => True
  | .number _, _ => False
  | .row _ ps, .list ds => fitsZ ps ds
  | .many _ p, .list ds => ∀ d ∈ ds, fits p d
  | _, _ => True
def fitsZ : List Plan → List AV → Prop
  | p :: ps, d :: ds => fits p d ∧ fitsZ ps ds
  | _, _ => True
end
theorem clip_nat (n k : Nat) : PySem.clipAt n (k : Int) = min k n := PySem.clipAt_nat n k
theorem picked_nat (b : Array UInt8) (lo hi : Nat) : KBy.picked b (some (lo : Int)) (some (hi : Int)) = ((b.toList.drop lo).take (hi - lo)).toArray := by
  rw [KBc.picked_eq]
  simp only [Option.elim, clip_nat]
  congr 1
  rw [← Array.length_toList]
  rcases Nat.le_total lo b.toList.length with h | h
  · rw [Nat.min_eq_left h]
    rcases Nat.le_total hi b.toList.length with h2 | h2
    · rw [Nat.min_eq_left h2]
    · rw [Nat.min_eq_right h2, List.take_of_length_le (by rw [List.length_drop]; exact Nat.le_refl _), List.take_of_length_le (by rw [List.length_drop]; omega)]
  · rw [Nat.min_eq_right h, List.drop_of_length_le h, List.drop_of_length_le (Nat.le_refl _)]
    simp
theorem picked_take (b : Array UInt8) (hi : Nat) : KBy.picked b none (some (hi : Int)) = (b.toList.take hi).toArray := by
  rw [KBc.picked_eq]
  simp only [Option.elim, clip_nat, List.drop_zero, Nat.sub_zero]
  congr 1
  rw [← Array.length_toList]
  rcases Nat.le_total hi b.toList.length with h2 | h2
  · rw [Nat.min_eq_left h2]
  · rw [Nat.min_eq_right h2, List.take_of_length_le (Nat.le_refl _), List.take_of_length_le h2]
theorem itOk_th {n : Nat} {t : AV} (h : itOk n t) : thOk n t := by
  induction n generalizing t with
  | zero => cases t <;> first | exact h | exact h.elim
  | succ n ih => cases t <;> first | exact h | exact h.elim | exact ⟨h.1, fun d hd => ih (h.2 d hd)⟩
end Mine
end
/-! Pr9 -/
section
open PySem PySem.Calls PyProof.Rows
open PySem.W
namespace Mine
def DesF (G : Gb) (D : Lv) (p : Plan) (f : Addr) (t : AV) : Prop :=
  Fn G D (.ref f) [p.obj, t] [] [] (fun a own' => own' = [] ∧ (readP p t).2 = "" ∧ a = (readP p t).1) (fun x own' => own' = [] ∧ ((readP p t).2 ≠ "" ∧ x.msg = (readP p t).2 ∧ (x.C = 138 ∨ x.C = 160)))
section
variable {G : Gb} {D : Lv}
theorem C1464 (H : KAll G) {b : Array UInt8} (hb : b.size ≤ 8) (hD : D.n + 20 ≤ 900) : Fn G D (.ref 1464) [.bytes b] [] [] (fun a own' => own' = [] ∧ a = .int (numVal b)) (fun _ _ => False) := by
  refine Fn_d (names := ["value"]) (loc := [some (.bytes b)]) H.fns.f1464 (by show D.n < 1000; omega) (bind1 (fun _ _ _ _ _ _ => rfl) rfl rfl) ?_
  refine EX_cons (ES_Return (EV_fromBytes H.g.fb (EV_blt rfl H.g.b_int bb_int (by decide) ⟨rfl, EL_cons (EV_loc 0 rfl rfl (EL_cons (EV_str (EL_nil ⟨b, rfl, hb, ?_⟩))))⟩)))
  exact ⟨[], _, rfl, List.Subset.refl _, rfl, rfl⟩
theorem C1500 (H : KAll G) {one : Option Nat} {b : Array UInt8} (ho : (Plan.number one).ok) (hb : b.size ≤ 5) (hD : D.n + 40 ≤ 900) (hq : D.q = true) : DesF G D (.number one) 1500 (.bytes b) := by
  unfold DesF
  refine Fn_d (names := ["self", "serial"]) (loc := [some (Plan.number one).obj, some (.bytes b)]) H.fns.f1500 (by show D.n < 1000; omega) (bind2 (fun _ _ _ _ _ _ _ => rfl) rfl rfl rfl rfl) ?_
  have hD' : D.up.n + 20 ≤ 900 := by show D.n + 1 + 20 ≤ 900; omega
  have fin : ∀ {σ : AS}, σ.own = [] → σ.loc = [some (Plan.number one).obj, some (.bytes b)] → (readP (.number one) (.bytes b)) = (AV.int (numVal b), ("" : Str)) → EX G ⟨"BigEndianInt.deserialize", sc1500, 1500, .ref 1499, ["self", "serial"], D.up, false⟩ σ ((defBody d1500).drop 2) (EndF [] fun a own' => own' = [] ∧ (readP (.number one) (.bytes b)).2 = "" ∧ a = (readP (.number one) (.bytes b)).1) (EndX [] fun x own' => own' = [] ∧ ((readP (.number one) (.bytes b)).2 ≠ "" ∧ x.msg = (readP (.number one) (.bytes b)).2 ∧ (x.C = 138 ∨ x.C = 160))) := by
    intro σ hown hloc hw
    obtain ⟨loc, own⟩ := σ
    cases hown; cases hloc
    rw [hw]
    refine EX_cons (ES_Assign_Name 1 rfl (EV_Or2 (EV_loc 1 rfl rfl (TU_bytes (by omega) ?_))))
    have last : ∀ {c : Array UInt8} {σ : AS}, c.size ≤ 8 → numVal c = numVal b → σ.own = [] → σ.loc = [some (Plan.number one).obj, some (.bytes c)] → EX G ⟨"BigEndianInt.deserialize", sc1500, 1500, .ref 1499, ["self", "serial"], D.up, false⟩ σ ((defBody d1500).drop 3) (EndF [] fun a own' => own' = [] ∧ ("" : Str) = "" ∧ a = .int (numVal b)) (EndX [] fun x own' => own' = [] ∧ (("" : Str) ≠ "" ∧ x.msg = "" ∧ (x.C = 138 ∨ x.C = 160))) := by
      intro c σ hc hv hown hloc
      obtain ⟨loc, own⟩ := σ
      cases hown; cases hloc
      refine EX_cons (ES_Return (EV_gcall rfl H.g.g_big_endian_to_int H.g.kf1464 (EL_cons (EV_loc 1 rfl rfl (EL_nil (CV_fn0 (C1464 H hc hD').noX (K := fun v => v = .int (numVal c)) (KX := fun _ => False) (fun v e => ?_) fun _ z => z.elim))))))
      subst e
      exact ⟨[], _, rfl, List.Subset.refl _, rfl, rfl, by rw [← hv]; rfl⟩
    by_cases h0 : b.size = 0
    · rw [show ((b.size : Int) != 0) = false from by simp [h0]]
      have hb0 : b = #[] := Array.eq_empty_of_size_eq_zero h0
      refine EV_bytes (last (by decide) ?_ rfl rfl)
      subst hb0; rfl
    · rw [show ((b.size : Int) != 0) = true from by simpa using h0]
      exact last (by omega) rfl rfl rfl
  refine EX_cons (ES_If (TV_BoolOp (TA_And_cons (TV_Compare (EV_fld 0 rfl rfl rfl H.g.at1503_length (optI_handed _) (EV_none (CO_notNone (TU_bool ?_))))))))
  cases one with
  | none =>
    refine EX_nil ?_
    refine EX_cons (ES_If (TV_BoolOp (TA_And_cons (TV_Compare (EV_fld 0 rfl rfl rfl H.g.at1503_length rfl (EV_none (CO_isNone (TU_bool ?_))))))))
    refine TA_And_cons (TV_Compare (EV_bcall rfl H.g.b_len bb_len rfl (by decide) (EL_cons (EV_loc 1 rfl rfl (EL_nil (CV_len_bytes (by omega) (EV_int (CO_gt (TU_bool ?_)))))))))
    by_cases h0 : b.size = 0
    · rw [decide_eq_false (by omega : ¬ (b.size : Int) > 0)]
      have hb0 : b = #[] := Array.eq_empty_of_size_eq_zero h0
      exact EX_nil (fin rfl rfl (by subst hb0; rfl))
    · rw [decide_eq_true (by omega : (b.size : Int) > 0)]
      refine TA_And_cons (TV_Compare (EV_Subscript (EV_loc 1 rfl rfl (EV_Slice (EV_int ⟨0, rfl, EV_int ⟨1, rfl, SU_bytes_slice (by omega) (EV_bytes (CO_bytes_eq (TU_bool ?_)))⟩⟩)))))
      have e : (KBy.picked b (some 0) (some 1)).toList = b.toList.take 1 := by
        have := picked_nat b 0 1
        rw [show (some (0 : Int)) = some ((0 : Nat) : Int) from rfl, show (some (1 : Int)) = some ((1 : Nat) : Int) from rfl, this]
        simp
      rw [e]
      by_cases hz : b.toList.take 1 = [0]
      · have hw : readP (.number none) (.bytes b) = (AV.none, ("Invalid serialization (not minimal length)" : Str)) := by
          rw [readP, if_neg (by simp), if_pos ⟨rfl, hz⟩]
        rw [hw, hz]
        refine TA_And_nil ?_
        exact EX_cons (ES_raise138 H hD' 1 rfl rfl rfl (endX0 ⟨by decide, rfl, .inl rfl⟩))
      · have hw : readP (.number none) (.bytes b) = (AV.int (numVal b), ("" : Str)) := by
          rw [readP, if_neg (by simp), if_neg (fun h => hz h.2)]
        rw [show (b.toList.take 1 == ([0].toArray).toList) = false from by simpa using hz]
        exact EX_nil (fin rfl rfl hw)
  | some m =>
    have hm : m ≤ 2 := by rcases ho m rfl with rfl | rfl <;> decide
    refine TA_And_cons (TV_Compare (EV_bcall rfl H.g.b_len bb_len rfl (by decide) (EL_cons (EV_loc 1 rfl rfl (EL_nil (CV_len_bytes (by omega) (EV_fld 0 rfl rfl rfl H.g.at1503_length rfl (CO_ne (TU_bool ?_)))))))))
    by_cases he : b.size = m
    · rw [show ((b.size : Int) != (m : Int)) = false from by simp [he]]
      refine EX_nil ?_
      refine EX_cons (ES_If (TV_BoolOp (TA_And_cons (TV_Compare (EV_fld 0 rfl rfl rfl H.g.at1503_length rfl (EV_none (CO_isNone (TU_bool ?_))))))))
      exact EX_nil (fin rfl rfl (by rw [readP, if_neg (by simp [he]), if_neg (by simp)]))
    · rw [show ((b.size : Int) != (m : Int)) = true from by simp; omega]
      refine TA_And_nil ?_
      have hw : readP (.number (some m)) (.bytes b) = (AV.none, ("Invalid serialization (wrong size)" : Str)) := by
        rw [readP, if_pos (by simpa using he)]
      rw [hw]
      exact EX_cons (ES_raise138 H hD' 1 rfl rfl rfl (endX0 ⟨by decide, rfl, .inl rfl⟩))
/-! octets -/
def isBy : AV → Bool
  | .bytes _ => true
  | _ => false
def isLs : AV → Bool
  | .list _ => true
  | .tuple _ => true
  | _ => false
theorem subT_bytes {d : AV} {T : String} (h : tyN d = some T) : (["bytes", "bytearray"].any (subT T)) = isBy d := by
  cases d <;> simp only [tyN, Option.some.injEq, reduceCtorEq] at h <;> subst h <;> (simp only [isBy]; decide)
theorem subT_rows {d : AV} {T : String} (h : tyN d = some T) : (["list", "tuple"].any (subT T)) = isLs d := by
  cases d <;> simp only [tyN, Option.some.injEq, reduceCtorEq] at h <;> subst h <;> (simp only [isLs]; decide)
theorem C1543 (H : KAll G) {c d : AV} {T : String} (hT : tyN d = some T) (hD : D.n + 20 ≤ 900) : Fn G D (.ref 1543) [c, d] [] [] (fun a own' => own' = [] ∧ a = .bool (["bytes", "bytearray"].any (subT T))) (fun _ _ => False) := by
  refine Fn_d (names := ["cls", "obj"]) (loc := [some c, some d]) H.fns.f1543 (by show D.n < 1000; omega) (bind2 (fun _ _ _ _ _ _ _ => rfl) rfl rfl rfl rfl) ?_
  refine EX_cons (ES_Return (EV_isiTup H (Us := ["bytes", "bytearray"]) rfl (by decide) (by decide) (EV_loc 1 rfl rfl ⟨rfl, hT, ?_⟩)))
  refine EL_cons (EV_blt rfl H.g.b_bytes bb_bytes (by decide) (EL_cons (EV_blt rfl H.g.b_bytearray bb_bytearray (by decide) (EL_nil ⟨rfl, ?_⟩))))
  exact ⟨[], _, rfl, List.Subset.refl _, rfl, rfl⟩
theorem C1553 (H : KAll G) {lo n : Nat} {hi : Option Nat} (hD : D.n + 20 ≤ 900) (hq : D.q = true) : Fn G D (.ref 1553) [(Plan.octets lo hi).obj, .int n] [] [] (fun a own' => own' = [] ∧ a = .bool (!(decide (n < lo) || above hi n))) (fun _ _ => False) := by
  refine Fn_d (names := ["self", "length"]) (loc := [some (Plan.octets lo hi).obj, some (.int n)]) H.fns.f1553 (by show D.n < 1000; omega) (bind2 (fun _ _ _ _ _ _ _ => rfl) rfl rfl rfl rfl) ?_
  refine EX_cons (ES_Return (EV_bcall rfl H.g.b_any bb_any rfl (by decide) (EL_cons (EV_Tuple ?_))))
  refine EL_cons (TrA.mono (k := fun a σ' => a = AV.bool (!(decide (n < lo) || above hi n)) ∧ σ' = ⟨[some (Plan.octets lo hi).obj, some (.int n)], []⟩) ?_ (fun a σ' ⟨e1, e2⟩ => ?_) (fun _ _ z => z))
  · refine EV_And2 (EV_Compare (EV_fld 0 rfl rfl rfl H.g.at1570_min_length rfl (EV_loc 1 rfl rfl (CO_le (TU_bool ?_)))))
    by_cases h1 : lo ≤ n
    · rw [decide_eq_true (by omega : (lo : Int) ≤ (n : Int))]
      refine EV_Or2 (EV_Compare (EV_fld 0 rfl rfl rfl H.g.at1570_max_length (optI_handed _) (EV_none (CO_isNone (TU_bool ?_)))))
      have h2 : decide (n < lo) = false := decide_eq_false (by omega)
      cases hi with
      | none => exact ⟨by rw [h2]; rfl, rfl⟩
      | some m =>
        refine EV_Compare (EV_loc 1 rfl rfl (EV_fld 0 rfl rfl rfl H.g.at1570_max_length rfl (CO_le ⟨?_, rfl⟩)))
        rw [h2]
        show AV.bool _ = AV.bool _
        congr 1
        show decide ((n : Int) ≤ (m : Int)) = !(false || decide (n > m))
        by_cases h3 : n ≤ m
        · rw [decide_eq_true (by omega : (n : Int) ≤ (m : Int)), decide_eq_false (by omega : ¬ n > m)]; rfl
        · rw [decide_eq_false (by omega : ¬ (n : Int) ≤ (m : Int)), decide_eq_true (by omega : n > m)]; rfl
    · rw [decide_eq_false (by omega : ¬ (lo : Int) ≤ (n : Int))]
      exact ⟨by rw [decide_eq_true (by omega : n < lo)]; rfl, rfl⟩
  subst e1; subst e2
  refine EL_cons (EV_And2 (EV_fld 0 rfl rfl rfl H.g.at1570_allow_empty rfl (TU_bool ?_)))
  refine EL_nil ⟨by show (2 : Nat) ≤ sizeLine; decide, EL_nil (CV_any hq (bs := [!(decide (n < lo) || above hi n), false]) ?_)⟩
  refine ⟨[], _, rfl, List.Subset.refl _, rfl, ?_⟩
  show AV.bool _ = AV.bool _
  simp
end
end Mine
end
/-! Pr10 -/
section
open PySem PySem.Calls PyProof.Rows
open PySem.W
namespace Mine
section
variable {G : Gb} {D : Lv}
theorem C1560 (H : KAll G) {lo n : Nat} {hi : Option Nat} {t : AV} (ht : thOk n t) (hD : D.n + 40 ≤ 900) (hq : D.q = true) : SerF G D (.octets lo hi) 1560 t := by
  obtain ⟨T, hT⟩ := thOk_ty ht
  unfold SerF
  refine Fn_d (names := ["self", "obj"]) (loc := [some (Plan.octets lo hi).obj, some t]) H.fns.f1560 (by show D.n < 1000; omega) (bind2 (fun _ _ _ _ _ _ _ => rfl) rfl rfl rfl rfl) ?_
  have hD' : D.up.n + 20 ≤ 900 := by show D.n + 1 + 20 ≤ 900; omega
  refine EX_cons (ES_If (TV_Not (TV_value (EV_clsMeth (D := D.up) H.g.cm H.g.cme H.g.cmf ⟨Nat.le_refl _, id⟩ (EV_glob rfl H.g.g_Binary ⟨rfl, EL_cons (EV_loc 1 rfl rfl (EL_nil ⟨[], [], _, C1543 H hT hD', rfl, fun a own' _ hk => ?_⟩))⟩)))))
  obtain ⟨rfl, rfl⟩ := hk
  refine TU_bool ?_
  rw [subT_bytes hT]
  cases hB : isBy t with
  | false =>
    have hw : written (.octets lo hi) t = (AV.none, ("Object is not a serializable" : Str)) := by cases t <;> first | (simp only [written]; done) | cases hB
    rw [hw]
    exact EX_cons (ES_raise95 H hD' 1 rfl rfl rfl (endX0 ⟨by decide, rfl, .inl rfl⟩))
  | true =>
  obtain ⟨b, rfl⟩ : ∃ b, t = .bytes b := by cases t <;> first | exact ⟨_, rfl⟩ | cases hB
  have hb : b.size ≤ 5 := by cases n <;> exact ht
  refine EX_nil ?_
  refine EX_cons (ES_If (TV_Not (TV_value (EV_Meth (EV_loc 0 rfl rfl ⟨.ref 1553, _, H.g.kf1553, GM_obj rfl H.g.me1553, ?_⟩)))))
  refine EL_cons (EV_bcall rfl H.g.b_len bb_len rfl (by decide) (EL_cons (EV_loc 1 rfl rfl (EL_nil (CV_len_bytes (by omega) ?_)))))
  refine EL_nil (CV_fn0 (C1553 H hD' hq).noX (K := fun v => v = .bool (!(decide (b.size < lo) || above hi b.size))) (KX := fun _ => False) (fun v e => ?_) fun _ z => z.elim)
  subst e
  refine TU_bool ?_
  cases hc : (decide (b.size < lo) || above hi b.size) with
  | true =>
    have hw : written (.octets lo hi) (.bytes b) = (AV.none, ("Object has invalid length" : Str)) := by rw [written, hc, if_pos rfl]
    rw [hw]
    exact EX_cons (ES_raise95 H hD' 1 rfl rfl rfl (endX0 ⟨by decide, rfl, .inl rfl⟩))
  | false =>
    have hw : written (.octets lo hi) (.bytes b) = (AV.bytes b, ("" : Str)) := by rw [written, hc, if_neg (by decide)]
    rw [hw]
    refine EX_nil ?_
    exact EX_cons (ES_Return (EV_loc 1 rfl rfl ⟨[], _, rfl, List.Subset.refl _, rfl, rfl, rfl⟩))
theorem C1567 (H : KAll G) {lo n : Nat} {hi : Option Nat} {t : AV} (ht : itOk n t) (hD : D.n + 40 ≤ 900) (hq : D.q = true) : DesF G D (.octets lo hi) 1567 t := by
  obtain ⟨T, hT⟩ := thOk_ty (itOk_th ht)
  unfold DesF
  refine Fn_d (names := ["self", "serial"]) (loc := [some (Plan.octets lo hi).obj, some t]) H.fns.f1567 (by show D.n < 1000; omega) (bind2 (fun _ _ _ _ _ _ _ => rfl) rfl rfl rfl rfl) ?_
  have hD' : D.up.n + 20 ≤ 900 := by show D.n + 1 + 20 ≤ 900; omega
  refine EX_cons (ES_If (TV_Not (TV_value (EV_isiTup H (Us := ["bytes", "bytearray"]) rfl (by decide) (by decide) (EV_loc 1 rfl rfl ⟨rfl, hT, ?_⟩)))))
  refine EL_cons (EV_blt rfl H.g.b_bytes bb_bytes (by decide) (EL_cons (EV_blt rfl H.g.b_bytearray bb_bytearray (by decide) (EL_nil ⟨rfl, TU_bool ?_⟩))))
  rw [subT_bytes hT]
  cases hB : isBy t with
  | false =>
    have hw : readP (.octets lo hi) t = (AV.none, ("Objects of this kind cannot be deserialized" : Str)) := by cases t <;> first | (simp only [readP]; done) | cases hB
    rw [hw]
    exact EX_cons (ES_raise138 H hD' 1 rfl rfl rfl (endX0 ⟨by decide, rfl, .inl rfl⟩))
  | true =>
  obtain ⟨b, rfl⟩ : ∃ b, t = .bytes b := by cases t <;> first | exact ⟨_, rfl⟩ | cases hB
  have hb : b.size ≤ 5 := by cases n <;> exact ht
  refine EX_nil ?_
  refine EX_cons (ES_If (TV_value (EV_Meth (EV_loc 0 rfl rfl ⟨.ref 1553, _, H.g.kf1553, GM_obj rfl H.g.me1553, ?_⟩))))
  refine EL_cons (EV_bcall rfl H.g.b_len bb_len rfl (by decide) (EL_cons (EV_loc 1 rfl rfl (EL_nil (CV_len_bytes (by omega) ?_)))))
  refine EL_nil (CV_fn0 (C1553 H hD' hq).noX (K := fun v => v = .bool (!(decide (b.size < lo) || above hi b.size))) (KX := fun _ => False) (fun v e => ?_) fun _ z => z.elim)
  subst e
  refine TU_bool ?_
  cases hc : (decide (b.size < lo) || above hi b.size) with
  | true =>
    have hw : readP (.octets lo hi) (.bytes b) = (AV.none, ("Object has invalid length" : Str)) := by rw [readP, hc, if_pos rfl]
    rw [hw]
    exact EX_cons (ES_raise138 H hD' 1 rfl rfl rfl (endX0 ⟨by decide, rfl, .inl rfl⟩))
  | false =>
    have hw : readP (.octets lo hi) (.bytes b) = (AV.bytes b, ("" : Str)) := by rw [readP, hc, if_neg (by decide)]
    rw [hw]
    exact EX_cons (ES_Return (EV_loc 1 rfl rfl ⟨[], _, rfl, List.Subset.refl _, rfl, rfl, rfl⟩))
/-! truths -/
theorem C1591 (H : KAll G) {n : Nat} {t : AV} (ht : thOk n t) (hD : D.n + 40 ≤ 900) (hq : D.q = true) : SerF G D .truth 1591 t := by
  obtain ⟨T, hT⟩ := thOk_ty ht
  unfold SerF
  refine Fn_d (names := ["self", "obj"]) (loc := [some Plan.truth.obj, some t]) H.fns.f1591 (by show D.n < 1000; omega) (bind2 (fun _ _ _ _ _ _ _ => rfl) rfl rfl rfl rfl) ?_
  have hD' : D.up.n + 20 ≤ 900 := by show D.n + 1 + 20 ≤ 900; omega
  refine EX_cons (ES_If (TV_Not (TV_value (EV_isi rfl H.g rfl H.g.b_bool bb_bool (by decide) (by decide) (EV_loc 1 rfl rfl ⟨rfl, hT, TU_bool ?_⟩)))))
  cases hB : subT T "bool" with
  | false =>
    have hw : written .truth t = (AV.none, ("Can only serialize integers" : Str)) := by
      cases t <;> first | (simp only [written]; done) | (simp only [tyN, Option.some.injEq, reduceCtorEq] at hT <;> subst hT <;> exact absurd hB (by decide))
    rw [hw]
    exact EX_cons (ES_raise95 H hD' 1 rfl rfl rfl (endX0 ⟨by decide, rfl, .inl rfl⟩))
  | true =>
  obtain ⟨b, rfl⟩ : ∃ b, t = .bool b := by
    cases t <;> first | exact ⟨_, rfl⟩ | (simp only [tyN, Option.some.injEq, reduceCtorEq] at hT <;> subst hT <;> exact absurd hB (by decide))
  refine EX_nil ?_
  refine EX_cons (ES_If (TV_Compare (EV_loc 1 rfl rfl (EV_bool (CO_isBool (TU_bool ?_))))))
  cases b with
  | false => exact EX_cons (ES_Return (EV_bytes ⟨[], _, rfl, List.Subset.refl _, rfl, rfl, rfl⟩))
  | true =>
    refine EX_cons (ES_If (TV_Compare (EV_loc 1 rfl rfl (EV_bool (CO_isBool (TU_bool ?_))))))
    exact EX_cons (ES_Return (EV_bytes ⟨[], _, rfl, List.Subset.refl _, rfl, rfl, rfl⟩))
theorem C1598 (H : KAll G) {n : Nat} {t : AV} (ht : itOk n t) (hD : D.n + 40 ≤ 900) (hq : D.q = true) : DesF G D .truth 1598 t := by
  unfold DesF
  refine Fn_d (names := ["self", "serial"]) (loc := [some Plan.truth.obj, some t]) H.fns.f1598 (by show D.n < 1000; omega) (bind2 (fun _ _ _ _ _ _ _ => rfl) rfl rfl rfl rfl) ?_
  have hD' : D.up.n + 20 ≤ 900 := by show D.n + 1 + 20 ≤ 900; omega
  have hn : 10 * D.up.n < cLine := by show 10 * (D.n + 1) < 9900; omega
  cases t with
  | bytes b =>
    refine EX_cons (ES_If (TV_Compare (EV_loc 1 rfl rfl (EV_bytes (CO_bytes_eq (TU_bool ?_))))))
    by_cases h0 : b.toList = []
    · have hw : readP .truth (.bytes b) = (AV.bool false, ("" : Str)) := by rw [readP, if_pos (.inl h0), h0]; rfl
      rw [hw, h0]
      exact EX_cons (ES_Return (EV_bool ⟨[], _, rfl, List.Subset.refl _, rfl, rfl, rfl⟩))
    · rw [show (b.toList == ([] : List UInt8).toArray.toList) = false from by simpa using h0]
      refine EX_cons (ES_If (TV_Compare (EV_loc 1 rfl rfl (EV_bytes (CO_bytes_eq (TU_bool ?_))))))
      by_cases h1 : b.toList = [1]
      · have hw : readP .truth (.bytes b) = (AV.bool true, ("" : Str)) := by rw [readP, if_pos (.inr h1), h1]; rfl
        rw [hw, h1]
        exact EX_cons (ES_Return (EV_bool ⟨[], _, rfl, List.Subset.refl _, rfl, rfl, rfl⟩))
      · have hw : readP .truth (.bytes b) = (AV.none, ("Invalid serialized boolean.  Must be either 0x01 or 0x00" : Str)) := by rw [readP, if_neg (by simp [h0, h1])]
        rw [hw, show (b.toList == ([1] : List UInt8).toArray.toList) = false from by simpa using h1]
        exact EX_cons (ES_raise138 H hD' 1 rfl rfl rfl (endX0 ⟨by decide, rfl, .inl rfl⟩))
  | list ds =>
    have hw : readP .truth (.list ds) = (AV.none, ("Invalid serialized boolean.  Must be either 0x01 or 0x00" : Str)) := by simp only [readP]
    rw [hw]
    refine EX_cons (ES_If (TV_Compare (EV_loc 1 rfl rfl (EV_bytes (CO_list_bytes (TU_bool ?_) hn)))))
    refine EX_cons (ES_If (TV_Compare (EV_loc 1 rfl rfl (EV_bytes (CO_list_bytes (TU_bool ?_) hn)))))
    exact EX_cons (ES_raise138 H hD' 1 rfl rfl rfl (endX0 ⟨by decide, rfl, .inl rfl⟩))
  | _ => cases n <;> exact ht.elim
end
end Mine
end
/-! Pr11 -/
section
open PySem PySem.Calls PyProof.Rows
open PySem.W
namespace Mine
structure KT (K : Frag) : Prop where
  t95 : exmOne K (.ref 95) (.ref 95) = some true
  t117 : exmOne K (.ref 117) (.ref 95) = some true
  t138 : exmOne K (.ref 138) (.ref 138) = some true
  t160 : exmOne K (.ref 160) (.ref 138) = some true
  u95 : exmAny K (.ref 95) [.ref 95, .ref 138] = some true
  u117 : exmAny K (.ref 117) [.ref 95, .ref 138] = some true
  u138 : exmAny K (.ref 138) [.ref 95, .ref 138] = some true
  u160 : exmAny K (.ref 160) [.ref 95, .ref 138] = some true
structure KEnd (G : Gb) : Prop extends KAll G where
  t : KT G.K
theorem fold_ok {w : Str} {k : Nat} {v : AV} {ws : Str} {r : List (AV × Str)} {acc : List AV} (h : ws = "") : fold w k ((v, ws) :: r) acc = fold w (k + 1) r (acc ++ [v]) := by
  rw [fold, if_neg (by simpa using h)]
theorem fold_err {w : Str} {k : Nat} {v : AV} {ws : Str} {r : List (AV × Str)} {acc : List AV} (h : ws ≠ "") : fold w k ((v, ws) :: r) acc = (.none, wrapped w k ws) := by
  rw [fold, if_pos h]
theorem writtenZ_get : ∀ {ps : List Plan} {ds : List AV} {i : Nat} {p : Plan} {d : AV}, ps[i]? = some p → ds[i]? = some d → (writtenZ ps ds)[i]? = some (written p d)
  | [], ds, i, p, d, h, _ => by simp at h
  | p :: ps, [], i, q, d, _, h => by simp at h
  | p :: ps, d :: ds, 0, q, e, h1, h2 => by simp at h1 h2; subst h1; subst h2; simp [writtenZ]
  | p :: ps, d :: ds, i + 1, q, e, h1, h2 => by rw [writtenZ]; simpa using writtenZ_get (by simpa using h1) (by simpa using h2)
theorem writtenZ_length : ∀ {ps : List Plan} {ds : List AV}, (writtenZ ps ds).length = min ps.length ds.length
  | [], ds => by simp [writtenZ]
  | p :: ps, [] => by simp [writtenZ]
  | p :: ps, d :: ds => by rw [writtenZ, List.length_cons, writtenZ_length, List.length_cons, List.length_cons]; omega
theorem drop_get {α : Type} {l : List α} {i : Nat} {x : α} (h : l[i]? = some x) : l.drop i = x :: l.drop (i + 1) := by
  obtain ⟨hi, rfl⟩ := List.getElem?_eq_some_iff.mp h
  exact List.drop_eq_getElem_cons hi
theorem wrapped_len {w m : Str} {i : Nat} (hw : w.length ≤ 20) (hi : i < 1000000) : (wrapped w i m).length ≤ m.length + 90 := by
  have hd := dig_len hi
  unfold wrapped
  have L : ∀ a b : Str, (a ++ b).length = a.length + b.length := Str.length_append
  rw [L, L, L, L, L]
  have e1 : (" failed because of element at index " : Str).length ≤ 40 := by decide
  have e2 : (" (\"" : Str).length ≤ 4 := by decide
  have e3 : ("\")" : Str).length ≤ 4 := by decide
  omega
theorem fold_words {w : Str} (hw : w.length ≤ 20) {B : Nat} : ∀ {l : List (AV × Str)} {k : Nat} {acc : List AV}, (∀ x ∈ l, x.2.length ≤ B) → k + l.length < 1000000 → (fold w k l acc).2.length ≤ B + 90
  | [], k, acc, _, _ => by
    rw [fold]
    have : ("" : Str).length = 0 := by decide
    dsimp only
    omega
  | (v, ws) :: r, k, acc, h, hk => by
    rw [List.length_cons] at hk
    by_cases e : ws = ""
    · rw [fold_ok e]
      exact fold_words hw (fun x hx => h x (.tail _ hx)) (by omega)
    · rw [fold_err e]
      have := wrapped_len (m := ws) hw (show k < 1000000 by omega)
      have h2 := h _ (.head _)
      dsimp only at h2 ⊢
      omega
end Mine
end
/-! Pr12 -/
section
open PySem PySem.Calls PyProof.Rows
open PySem.W
namespace Mine
def serF : Plan → Addr
  | .number _ => 1493
  | .octets _ _ => 1560
  | .truth => 1591
  | .row _ _ => 1650
  | .many _ _ => 1686
def desF : Plan → Addr
  | .number _ => 1500
  | .octets _ _ => 1567
  | .truth => 1598
  | .row _ _ => 1657
  | .many _ _ => 1693
theorem writtenZ_mem : ∀ {ps : List Plan} {ds : List AV} {x : AV × Str}, x ∈ writtenZ ps ds → ∃ p ∈ ps, ∃ d ∈ ds, x = written p d
  | [], ds, x, h => by rw [writtenZ] at h; cases h; simp
  | p :: ps, [], x, h => by rw [writtenZ] at h; cases h; simp
  | p :: ps, d :: ds, x, h => by
    rw [writtenZ] at h
    rcases List.mem_cons.mp h with rfl | h
    · exact ⟨p, .head _, d, .head _, rfl⟩
    · obtain ⟨q, hq, e, he, r⟩ := writtenZ_mem h
      exact ⟨q, .tail _ hq, e, .tail _ he, r⟩
theorem plansDepth_mem : ∀ {ps : List Plan} {p : Plan}, p ∈ ps → p.depth ≤ plansDepth ps
  | q :: ps, p, h => by
    rw [plansDepth]
    rcases List.mem_cons.mp h with rfl | h
    · exact Nat.le_max_left _ _
    · exact Nat.le_trans (plansDepth_mem h) (Nat.le_max_right _ _)
theorem str_app_len (a b : Str) : (a ++ b).length = a.length + b.length := Str.length_append a b
theorem words_len : ∀ (d : Nat) (p : Plan) (t : AV) (n : Nat), p.depth ≤ d → p.ok → thOk n t → (written p t).2.length ≤ 100 + 100 * d
  | d, .number one, t, n, _, ho, _ => by
    have z : ("" : Str).length = 0 := by decide
    cases t <;> first | (simp only [written]; exact Nat.le_trans (show ("Can only serialize integers" : Str).length ≤ 100 by decide) (by omega)) | skip
    rename_i i
    rw [written]
    split
    · have : (one.getD 0) < 1000000 := by
        cases one with
        | none => decide
        | some m => rcases ho m rfl with rfl | rfl <;> decide
      have := dig_len this
      dsimp only
      rw [str_app_len, str_app_len]
      have e1 : ("Integer too large (does not fit in " : Str).length ≤ 40 := by decide
      have e2 : (" bytes)" : Str).length ≤ 40 := by decide
      omega
    · split
      · exact Nat.le_trans (show ("Cannot serialize negative integers" : Str).length ≤ 100 by decide) (by omega)
      · dsimp only; omega
  | d, .octets lo hi, t, n, _, _, _ => by
    have z : ("" : Str).length = 0 := by decide
    cases t <;> first | (simp only [written]; exact Nat.le_trans (show ("Object is not a serializable" : Str).length ≤ 100 by decide) (by omega)) | skip
    rw [written]
    split
    · exact Nat.le_trans (show ("Object has invalid length" : Str).length ≤ 100 by decide) (by omega)
    · dsimp only; omega
  | d, .truth, t, n, _, _, _ => by
    have z : ("" : Str).length = 0 := by decide
    cases t <;> first | (simp only [written]; exact Nat.le_trans (show ("Can only serialize integers" : Str).length ≤ 100 by decide) (by omega)) | skip
    rw [written]; dsimp only; omega
  | 0, .row s ps, t, n, h, _, _ => by rw [Plan.depth] at h; omega
  | d + 1, .row s ps, t, n, h, ho, ht => by
    have e0 : ("Can only serialize sequences" : Str).length ≤ 100 := by decide
    cases t <;> first | (simp only [written]; omega) | skip
    rename_i ds
    obtain ⟨n, rfl⟩ : ∃ m, n = m + 1 := by cases n with | zero => exact ht.elim | succ m => exact ⟨m, rfl⟩
    rw [written]
    split
    · have h1 := dig_len (i := ds.length) (by have := ht.1; omega)
      have h2 := dig_len (i := ps.length) (by have := ho.2.1; omega)
      dsimp only
      rw [str_app_len, str_app_len, str_app_len, str_app_len]
      have e1 : ("Serializing list length (" : Str).length ≤ 30 := by decide
      have e2 : (") does not match sedes (" : Str).length ≤ 30 := by decide
      have e3 : (")" : Str).length ≤ 4 := by decide
      omega
    · have := fold_words (w := "Serialization") (by decide) (B := 100 + 100 * d) (l := writtenZ ps ds) (k := 0) (acc := []) (fun x hx => by
        obtain ⟨p, hp, e, he, rfl⟩ := writtenZ_mem hx
        have hd := plansDepth_mem hp
        rw [Plan.depth] at h
        obtain ⟨i, hi, hpe⟩ := List.getElem_of_mem hp
        exact words_len d p e n (by omega) (plansOk_get ho.2.2 (i := i) (by rw [List.getElem?_eq_getElem hi, hpe])) (ht.2 e he)) (by rw [writtenZ_length]; have := ho.2.1; omega)
      omega
  | 0, .many m p, t, n, h, _, _ => by rw [Plan.depth] at h; omega
  | d + 1, .many m p, t, n, h, ho, ht => by
    have e0 : ("Can only serialize sequences" : Str).length ≤ 100 := by decide
    cases t <;> first | (simp only [written]; omega) | skip
    rename_i ds
    obtain ⟨n, rfl⟩ : ∃ m, n = m + 1 := by cases n with | zero => exact ht.elim | succ m => exact ⟨m, rfl⟩
    rw [written]
    split
    · have h1 := dig_len (i := ds.length) (by have := ht.1; omega)
      have h2 := dig_len (i := m.getD 0) (by cases m with | none => decide | some q => have := ho.1 q rfl; subst this; decide)
      dsimp only
      rw [str_app_len, str_app_len, str_app_len, str_app_len]
      have e1 : ("Too many elements (" : Str).length ≤ 30 := by decide
      have e2 : (", allowed " : Str).length ≤ 30 := by decide
      have e3 : (")" : Str).length ≤ 4 := by decide
      omega
    · have := fold_words (w := "Serialization") (by decide) (B := 100 + 100 * d) (l := ds.map fun d => written p d) (k := 0) (acc := []) (fun x hx => by
        obtain ⟨e, he, rfl⟩ := List.mem_map.mp hx
        rw [Plan.depth] at h
        exact words_len d p e n (by omega) ho.2 (ht.2 e he)) (by rw [List.length_map]; have := ht.1; omega)
      omega
theorem objForm (p : Plan) : ∃ C fs, p.obj = .obj C fs := by cases p <;> exact ⟨_, _, by rw [Plan.obj]⟩
section
variable {G : Gb} {D : Lv} {S : St} {σ : AS} {k : AV → AS → Prop} {kf : AF → AS → Prop} {kx : AX → AS → Prop}
theorem GM_ser (H : KAll G) (p : Plan) : GM G S σ p.obj "serialize" (.ref (serF p)) [p.obj] := by
  cases p <;> rw [Plan.obj]
  · exact GM_obj rfl H.g.me1493
  · exact GM_obj rfl H.g.me1560
  · exact GM_obj rfl H.g.me1591
  · exact GM_obj rfl H.g.me1650
  · exact GM_obj rfl H.g.me1686
theorem GM_des (H : KAll G) (p : Plan) : GM G S σ p.obj "deserialize" (.ref (desF p)) [p.obj] := by
  cases p <;> rw [Plan.obj]
  · exact GM_obj rfl H.g.me1500
  · exact GM_obj rfl H.g.me1567
  · exact GM_obj rfl H.g.me1598
  · exact GM_obj rfl H.g.me1657
  · exact GM_obj rfl H.g.me1693
theorem kf_ser (H : KAll G) (p : Plan) : KeepV G.K (.ref (serF p)) = true := by
  cases p
  · exact H.g.kf1493
  · exact H.g.kf1560
  · exact H.g.kf1591
  · exact H.g.kf1650
  · exact H.g.kf1686
theorem kf_des (H : KAll G) (p : Plan) : KeepV G.K (.ref (desF p)) = true := by
  cases p
  · exact H.g.kf1500
  · exact H.g.kf1567
  · exact H.g.kf1598
  · exact H.g.kf1657
  · exact H.g.kf1693
/-- List.__len__ -/
theorem C1643 (H : KAll G) {ps : List Plan} {s : Bool} (hz : ps.length ≤ 1000) (hD : D.n + 20 ≤ 900) : Fn G D (.ref 1643) [(Plan.row s ps).obj] [] [] (fun a own' => own' = [] ∧ a = .int ps.length) (fun _ _ => False) := by
  refine Fn_d (names := ["self"]) (loc := [some (Plan.row s ps).obj]) H.fns.f1643 (by show D.n < 1000; omega) (bind1 (fun _ _ _ _ _ _ => rfl) rfl rfl) ?_
  refine EX_cons (ES_Return (EV_bcall rfl H.g.b_len bb_len rfl (by decide) (EL_cons (EV_fld 0 rfl (by rw [Plan.obj]; rfl) rfl H.g.at1660_parts rfl (EL_nil (CV_len_list (by rw [plansObj_length]; omega) ?_))))))
  rw [plansObj_length]
  exact ⟨[], _, rfl, List.Subset.refl _, rfl, rfl⟩
end
end Mine
end
/-! Pr13 -/
section
open PySem PySem.Calls PyProof.Rows
open PySem.W
namespace Mine
def SERs (G : Gb) (d : Nat) : Prop := ∀ (D : Lv) (p : Plan) (n : Nat) (t : AV), p.depth < d → p.ok → D.n + 40 + 30 * d ≤ 900 → D.q = true → thOk n t → SerF G D p (serF p) t
section
variable {G : Gb} {D : Lv}
theorem C1650 (H : KEnd G) {d : Nat} (IH : SERs G d) {n : Nat} {s : Bool} {ps : List Plan} {t : AV} (hd : plansDepth ps < d) (ho : (Plan.row s ps).ok) (ht : thOk n t) (hD : D.n + 70 + 30 * d ≤ 900) (hq : D.q = true) : SerF G D (.row s ps) 1650 t := by
  obtain ⟨T, hT⟩ := thOk_ty ht
  have H' := H.toKAll
  unfold SerF
  refine Fn_d (names := ["self", "obj", "found", "index", "element", "sedes", "e"]) (loc := [some (Plan.row s ps).obj, some t, none, none, none, none, none]) H.fns.f1650 (by show D.n < 1000; omega) (bind2 (fun _ _ _ _ _ _ _ => rfl) rfl rfl rfl rfl) ?_
  have hD' : D.up.n + 20 ≤ 900 := by show D.n + 1 + 20 ≤ 900; omega
  have hq' : D.up.q = true := hq
  rw [Plan.obj]
  refine EX_cons (ES_If (TV_Not (TV_value (EV_gcall rfl H.g.g_is_sequence H.g.kf1621 (EL_cons (EV_loc 1 rfl rfl (EL_nil (CV_fn0 (C1621 H' hT hD').noX (K := fun v => v = .bool (["list", "tuple"].any (subT T))) (KX := fun _ => False) (fun v hv => ?_) fun _ z => z.elim))))))))
  subst hv
  refine TU_bool ?_
  rw [subT_rows hT]
  cases hB : isLs t with
  | false =>
    have hw : written (.row s ps) t = (AV.none, ("Can only serialize sequences" : Str)) := by cases t <;> first | (simp only [written]; done) | cases hB
    rw [hw]
    exact EX_cons (ES_raise117 H' hD' 1 rfl rfl rfl (endX0 ⟨by decide, rfl, .inr rfl⟩))
  | true =>
  obtain ⟨ds, rfl⟩ : ∃ ds, t = .list ds := by cases t <;> first | exact ⟨_, rfl⟩ | (cases n <;> exact ht.elim) | cases hB
  obtain ⟨n, rfl⟩ : ∃ m, n = m + 1 := by cases n with | zero => exact ht.elim | succ m => exact ⟨m, rfl⟩
  obtain ⟨ho1, ho2, ho3⟩ := ho
  obtain ⟨ht1, ht2⟩ := ht
  refine EX_nil ?_
  have rest : ∀ {σ : AS}, σ.own = [] → σ.loc = [some (.obj 1660 [("parts", .list (plansObj ps)), ("strict", .bool s)]), some (.list ds), none, none, none, none, none] → written (.row s ps) (.list ds) = fold "Serialization" 0 (writtenZ ps ds) [] → EX G ⟨"List.serialize", sc1650, 1650, .ref 1649, ["self", "obj", "found", "index", "element", "sedes", "e"], D.up, false⟩ σ ((defBody d1650).drop 2) (EndF [] fun a own' => own' = [] ∧ (written (.row s ps) (.list ds)).2 = "" ∧ a = (written (.row s ps) (.list ds)).1) (EndX [] fun x own' => own' = [] ∧ ((written (.row s ps) (.list ds)).2 ≠ "" ∧ x.msg = (written (.row s ps) (.list ds)).2 ∧ (x.C = 95 ∨ x.C = 117))) := by
    intro σ hown hloc hw
    obtain ⟨loc, own⟩ := σ
    cases hown; cases hloc
    rw [hw]
    refine EX_cons (ES_Assign_Name 2 rfl (EV_ListOwn (EL_nil ⟨by decide, fun fa => ?_⟩)))
    refine EX_cons (ES_For rfl (IE_enumZip hq' (EV_blt rfl H.g.b_enumerate bb_enumerate (by decide) ⟨rfl, EV_blt rfl H.g.b_zip bb_zip (by decide) ⟨rfl, EV_loc 1 rfl rfl ⟨ds, rfl, EV_fld 0 rfl rfl rfl H.g.at1660_parts rfl ⟨plansObj ps, rfl, ?_⟩⟩⟩⟩)))
    let J : Nat → AS → Prop := fun i σ => ∃ acc a b c e, σ = ⟨[some (.obj 1660 [("parts", .list (plansObj ps)), ("strict", .bool s)]), some (.list ds), some (.own fa), a, b, c, e], [(fa, .list acc)]⟩ ∧ acc.length = i ∧ fold "Serialization" 0 (writtenZ ps ds) [] = fold "Serialization" i ((writtenZ ps ds).drop i) acc
    refine ⟨J, ⟨[], _, _, _, _, rfl, rfl, by rw [List.drop_zero]⟩, ?_, ?_⟩
    · rintro i it σi hit ⟨acc, a, b, c, e, rfl, hacc, hfold⟩
      obtain ⟨x, po, hx, hpo, rfl⟩ := ezI_get hit
      obtain ⟨p, hp, rfl⟩ : ∃ p, ps[i]? = some p ∧ po = p.obj := by
        have hi : i < ps.length := by rw [← plansObj_length]; exact (List.getElem?_eq_some_iff.mp hpo).1
        refine ⟨ps[i], List.getElem?_eq_getElem hi, ?_⟩
        rw [plansObj_get (List.getElem?_eq_getElem hi)] at hpo
        exact (Option.some.inj hpo).symm
      have hmem : x ∈ ds := List.mem_of_getElem? hx
      have hpd := plansDepth_get hp
      have hpo := plansOk_get ho3 hp
      have hz := writtenZ_get hp hx
      have hi3 : i < ps.length := (List.getElem?_eq_some_iff.mp hp).1
      have SF := IH D.up p n x (by omega) hpo (by show D.n + 1 + 40 + 30 * d ≤ 900; omega) hq (ht2 x hmem)
      refine AI_tup hq' ⟨rfl, AG_Name 3 rfl rfl ⟨rfl, AG_Tuple hq' ⟨rfl, AG_Name 4 rfl rfl ⟨rfl, AG_Name 5 rfl rfl ?_⟩⟩⟩⟩
      refine EX_cons (ES_Try rfl (KX := fun y σx => σx = ⟨[some (.obj 1660 [("parts", .list (plansObj ps)), ("strict", .bool s)]), some (.list ds), some (.own fa), some (.int i), some x, some p.obj, e], [(fa, .list acc)]⟩ ∧ (written p x).2 ≠ "" ∧ y.msg = (written p x).2 ∧ (y.C = 95 ∨ y.C = 117)) 6 rfl rfl ?_ ?_)
      · refine EX_cons (ES_Expr (EV_Meth (EV_loc 2 rfl rfl ⟨.builtin "list.append", _, rfl, GM_append (ds := acc) (.head _), ?_⟩)))
        refine EL_cons (EV_Meth (EV_loc 5 rfl rfl ⟨.ref (serF p), _, kf_ser H' p, GM_ser H' p, EL_cons (EV_loc 4 rfl rfl (EL_nil ?_))⟩))
        refine CV_fn0 (S := ⟨"List.serialize", sc1650, 1650, .ref 1649, ["self", "obj", "found", "index", "element", "sedes", "e"], D.up, false⟩) SF (fun v hv => ?_) fun y hy => ⟨rfl, hy⟩
        obtain ⟨hv1, rfl⟩ := hv
        refine EL_nil (CV_append (own := []) (rest := []) rfl (by show acc.length ≤ 16777216; omega) ?_)
        refine EX_nil (EX_nil ?_)
        refine ⟨acc ++ [(written p x).1], _, _, _, _, rfl, by rw [List.length_append, hacc]; rfl, ?_⟩
        rw [hfold, drop_get hz]
        exact fold_ok hv1
      · rintro y σx ⟨rfl, hy1, hy2, hy3⟩
        have hwl := words_len (plansDepth ps) p x n hpd hpo (ht2 x hmem)
        have hzz : sizeLine = 16777216 := rfl
        refine EV_glob rfl H.g.g_SerializationError ⟨.inl ⟨_, rfl, by rcases hy3 with e | e <;> rw [e]; exact H.t.t95; exact H.t.t117⟩, ?_⟩
        refine EX_cons (ES_raiseK rfl H.g.g_ListSerializationError H.g.kx117 H.x.e117 (EL_nil (EK_cons (EV_loc 1 rfl rfl (EK_cons (EV_loc 6 rfl rfl (EK_cons (EV_loc 3 rfl rfl (EK_nil ⟨rfl, rfl, wrapped "Serialization" i y.msg, fun k hk => CV_mk117b H.toKOk hD' hy3 (by omega) (by rw [hy2, hzz]; omega) hk, ?_⟩)))))))))
        refine ⟨[], _, rfl, by simp [hid], rfl, ?_⟩
        rw [hfold, drop_get hz, fold_err hy1, hy2]
        refine ⟨?_, rfl, .inr rfl⟩
        unfold wrapped
        intro h0
        have := congrArg Str.length h0
        rw [str_app_len, str_app_len, str_app_len, str_app_len, str_app_len] at this
        have e1 : 0 < ("Serialization" : Str).length := by decide
        have z : ("" : Str).length = 0 := by decide
        omega
    · rintro σn ⟨acc, a, b, c, e, rfl, hacc, hfold⟩
      refine EX_freeze (own := []) 2 rfl rfl ?_
      refine EX_cons (ES_Return (EV_loc 2 rfl rfl ⟨[], _, rfl, List.Subset.refl _, rfl, ?_⟩))
      rw [hfold, ezI_length, plansObj_length, List.drop_of_length_le (by rw [writtenZ_length]; omega), fold]
      exact ⟨rfl, rfl⟩
  refine EX_cons (ES_If (TV_BoolOp (TA_And_cons (TV_value (EV_fld 0 rfl rfl rfl H.g.at1660_strict rfl (TU_bool ?_))))))
  cases s with
  | false => exact EX_nil (rest rfl rfl (by rw [written, if_neg (by simp)]))
  | true =>
    have hlen : ∀ {S : St} {σ : AS} {k : AV → AS → Prop} {kx : AX → AS → Prop}, S.D = D.up → k (.int ps.length) σ → CV G S σ (.builtin "len") [.obj 1660 [("parts", .list (plansObj ps)), ("strict", .bool true)]] [] k kx := by
      intro S σ k kx hS hk
      refine CV_len_obj (D := D.up.up) H.g.le1660 H.g.fl1643 (by rw [hS]; exact ⟨Nat.le_refl _, id⟩) ?_ (by omega) hk
      have := C1643 (D := D.up.up) H' (ps := ps) (s := true) (by omega) (by show D.n + 1 + 1 + 20 ≤ 900; omega)
      rw [Plan.obj] at this
      exact this
    refine TA_And_cons (TV_Compare (EV_bcall rfl H.g.b_len bb_len rfl (by decide) (EL_cons (EV_loc 0 rfl rfl (EL_nil (hlen rfl ?_))))))
    refine EV_bcall rfl H.g.b_len bb_len rfl (by decide) (EL_cons (EV_loc 1 rfl rfl (EL_nil (CV_len_list (by omega) (CO_ne (TU_bool ?_))))))
    by_cases hne : ds.length = ps.length
    · rw [show ((ps.length : Int) != (ds.length : Int)) = false from by rw [hne]; simp]
      exact EX_nil (rest rfl rfl (by rw [written, if_neg (by simp [hne])]))
    · rw [show ((ps.length : Int) != (ds.length : Int)) = true from by simp; omega]
      refine TA_And_nil ?_
      have hw : written (.row true ps) (.list ds) = (AV.none, ("Serializing list length (" ++ toString (ds.length : Int) ++ ") does not match sedes (" ++ toString (ps.length : Int) ++ ")" : Str)) := by rw [written, if_pos ⟨rfl, hne⟩]
      rw [hw]
      refine EX_cons (ES_raiseC rfl H.g.g_ListSerializationError H.g.kx117 H.x.e117 (EL_cons (EV_BinOp (EV_str (EV_Tuple ?_)))))
      refine EL_cons (EV_bcall rfl H.g.b_len bb_len rfl (by decide) (EL_cons (EV_loc 1 rfl rfl (EL_nil (CV_len_list (by omega) ?_)))))
      refine EL_cons (EV_bcall rfl H.g.b_len bb_len rfl (by decide) (EL_cons (EV_loc 0 rfl rfl (EL_nil (hlen rfl (EL_nil ⟨(show (2 : Nat) ≤ sizeLine by decide), BO_pctS (by omega) (by omega) ?_⟩))))))
      exact EL_cons (EV_loc 1 rfl rfl (EL_nil ⟨rfl, _, fun k hk => CV_mk117 H.toKOk hD' hk, endX0 ⟨by rw [Str.append_assoc, Str.append_assoc, Str.append_assoc]; exact strOf_ne (by decide), rfl, .inr rfl⟩⟩))
end
end Mine
end
/-! Pr14 -/
section
open PySem PySem.Calls PyProof.Rows
open PySem.W
namespace Mine
theorem fstr5i {G : Gb} {S : St} {σ : AS} {k : AV → AS → Prop} {kx : AX → AS → Prop} {s1 s2 s3 : Str} {n m u1 u2 u3 : Nat} {p p1 p2 p3 q1 q2 : Pos} {e1 e2 : Expr} (hn : n < 1000000) (hm : m < 1000000) (h3 : s1.length + s2.length + s3.length ≤ 100)
    (h : EV G S σ e1 (fun a σ1 => a = .int n ∧ EV G S σ1 e2 (fun b σ2 => b = .int m ∧ k (.str (s1 ++ toString (n : Int) ++ s2 ++ toString (m : Int) ++ s3)) σ2) kx) kx) :
    EV G S σ (.JoinedStr [.Constant (.str s1) u1 p1, .FormattedValue e1 (-1) none q1, .Constant (.str s2) u2 p2, .FormattedValue e2 (-1) none q2, .Constant (.str s3) u3 p3] p) k kx := by
  have hd := dig_len hn
  have hd2 := dig_len hm
  have L : ∀ a b : Str, (a ++ b).length = a.length + b.length := Str.length_append
  have E0 : ∀ a : Str, Str.empty ++ a = a := Str.empty_append
  have hz : sizeLine = 16777216 := rfl
  refine EV_JoinedStr (JP_cons (EV_str ⟨_, rfl, ?_, JP_cons (EV_Fmt (TrA.mono h (fun a σ1 q => .inl ⟨n, q.1, small_log hn, _, rfl, ?_, JP_cons (EV_str ⟨_, rfl, ?_, JP_cons (EV_Fmt (TrA.mono q.2 (fun b σ2 q2 => .inl ⟨m, q2.1, small_log hm, _, rfl, ?_, JP_cons (EV_str ⟨_, rfl, ?_, JP_nil ?_ ?_⟩)⟩) fun _ _ z => z))⟩)⟩) fun _ _ z => z))⟩))
  · rw [E0]; omega
  · rw [E0, L]; omega
  · rw [E0, L, L]; omega
  · rw [E0, L, L, L]; omega
  · rw [E0, L, L, L, L]; omega
  · rw [E0, L, L, L, L]; omega
  · rw [E0]; exact q2.2
theorem wrapped_ne {w m : Str} {i : Nat} (hw : 0 < w.length) : wrapped w i m ≠ "" := by
  unfold wrapped
  intro h0
  have := congrArg Str.length h0
  rw [str_app_len, str_app_len, str_app_len, str_app_len, str_app_len] at this
  have z : ("" : Str).length = 0 := by decide
  omega
section
variable {G : Gb} {D : Lv}
theorem C1686 (H : KEnd G) {d : Nat} (IH : SERs G d) {n : Nat} {m : Option Nat} {p : Plan} {t : AV} (hd : p.depth < d) (ho : (Plan.many m p).ok) (ht : thOk n t) (hD : D.n + 70 + 30 * d ≤ 900) (hq : D.q = true) : SerF G D (.many m p) 1686 t := by
  obtain ⟨T, hT⟩ := thOk_ty ht
  have H' := H.toKAll
  unfold SerF
  refine Fn_d (names := ["self", "obj", "found", "index", "element", "e"]) (loc := [some (Plan.many m p).obj, some t, none, none, none, none]) H.fns.f1686 (by show D.n < 1000; omega) (bind2 (fun _ _ _ _ _ _ _ => rfl) rfl rfl rfl rfl) ?_
  have hD' : D.up.n + 20 ≤ 900 := by show D.n + 1 + 20 ≤ 900; omega
  have hq' : D.up.q = true := hq
  rw [Plan.obj]
  refine EX_cons (ES_If (TV_Not (TV_value (EV_gcall rfl H.g.g_is_sequence H.g.kf1621 (EL_cons (EV_loc 1 rfl rfl (EL_nil (CV_fn0 (C1621 H' hT hD').noX (K := fun v => v = .bool (["list", "tuple"].any (subT T))) (KX := fun _ => False) (fun v hv => ?_) fun _ z => z.elim))))))))
  subst hv
  refine TU_bool ?_
  rw [subT_rows hT]
  cases hB : isLs t with
  | false =>
    have hw : written (.many m p) t = (AV.none, ("Can only serialize sequences" : Str)) := by cases t <;> first | (simp only [written]; done) | cases hB
    rw [hw]
    exact EX_cons (ES_raise117 H' hD' 1 rfl rfl rfl (endX0 ⟨by decide, rfl, .inr rfl⟩))
  | true =>
  obtain ⟨ds, rfl⟩ : ∃ ds, t = .list ds := by cases t <;> first | exact ⟨_, rfl⟩ | (cases n <;> exact ht.elim) | cases hB
  obtain ⟨n, rfl⟩ : ∃ m, n = m + 1 := by cases n with | zero => exact ht.elim | succ m => exact ⟨m, rfl⟩
  obtain ⟨ho1, ho2⟩ := ho
  obtain ⟨ht1, ht2⟩ := ht
  refine EX_nil ?_
  have rest : ∀ {σ : AS}, σ.own = [] → σ.loc = [some (.obj 1696 [("element_sedes", p.obj), ("max_length", optI m)]), some (.list ds), none, none, none, none] → written (.many m p) (.list ds) = fold "Serialization" 0 (ds.map fun d => written p d) [] → EX G ⟨"CountableList.serialize", sc1686, 1686, .ref 1685, ["self", "obj", "found", "index", "element", "e"], D.up, false⟩ σ ((defBody d1686).drop 2) (EndF [] fun a own' => own' = [] ∧ (written (.many m p) (.list ds)).2 = "" ∧ a = (written (.many m p) (.list ds)).1) (EndX [] fun x own' => own' = [] ∧ ((written (.many m p) (.list ds)).2 ≠ "" ∧ x.msg = (written (.many m p) (.list ds)).2 ∧ (x.C = 95 ∨ x.C = 117))) := by
    intro σ hown hloc hw
    obtain ⟨loc, own⟩ := σ
    cases hown; cases hloc
    rw [hw]
    refine EX_cons (ES_Assign_Name 2 rfl (EV_ListOwn (EL_nil ⟨by decide, fun fa => ?_⟩)))
    refine EX_cons (ES_For rfl (IE_enum hq' (EV_blt rfl H.g.b_enumerate bb_enumerate (by decide) ⟨rfl, EV_loc 1 rfl rfl ⟨ds, rfl, ?_⟩⟩)))
    let J : Nat → AS → Prop := fun i σ => ∃ acc a b e, σ = ⟨[some (.obj 1696 [("element_sedes", p.obj), ("max_length", optI m)]), some (.list ds), some (.own fa), a, b, e], [(fa, .list acc)]⟩ ∧ acc.length = i ∧ fold "Serialization" 0 (ds.map fun d => written p d) [] = fold "Serialization" i ((ds.map fun d => written p d).drop i) acc
    refine ⟨J, ⟨[], _, _, _, rfl, rfl, by rw [List.drop_zero]⟩, ?_, ?_⟩
    · rintro i it σi hit ⟨acc, a, b, e, rfl, hacc, hfold⟩
      obtain ⟨x, hx, rfl⟩ := enumI_get hit
      have hmem : x ∈ ds := List.mem_of_getElem? hx
      have hz : (ds.map fun d => written p d)[i]? = some (written p x) := by rw [List.getElem?_map, hx]; rfl
      have hi4 : i < ds.length := (List.getElem?_eq_some_iff.mp hx).1
      have SF := IH D.up p n x hd ho2 (by show D.n + 1 + 40 + 30 * d ≤ 900; omega) hq (ht2 x hmem)
      refine AI_tup hq' ⟨rfl, AG_Name 3 rfl rfl ⟨rfl, AG_Name 4 rfl rfl ?_⟩⟩
      refine EX_cons (ES_Try rfl (KX := fun y σx => σx = ⟨[some (.obj 1696 [("element_sedes", p.obj), ("max_length", optI m)]), some (.list ds), some (.own fa), some (.int i), some x, e], [(fa, .list acc)]⟩ ∧ (written p x).2 ≠ "" ∧ y.msg = (written p x).2 ∧ (y.C = 95 ∨ y.C = 117)) 5 rfl rfl ?_ ?_)
      · refine EX_cons (ES_Expr (EV_Meth (EV_loc 2 rfl rfl ⟨.builtin "list.append", _, rfl, GM_append (ds := acc) (.head _), ?_⟩)))
        refine EL_cons (EV_Meth (EV_fld 0 rfl rfl rfl H.g.at1696_element_sedes (by cases p <;> rfl) ⟨.ref (serF p), _, kf_ser H' p, GM_ser H' p, EL_cons (EV_loc 4 rfl rfl (EL_nil ?_))⟩))
        refine CV_fn0 (S := ⟨"CountableList.serialize", sc1686, 1686, .ref 1685, ["self", "obj", "found", "index", "element", "e"], D.up, false⟩) SF (fun v hv => ?_) fun y hy => ⟨rfl, hy⟩
        obtain ⟨hv1, rfl⟩ := hv
        refine EL_nil (CV_append (own := []) (rest := []) rfl (by show acc.length ≤ 16777216; omega) ?_)
        refine EX_nil (EX_nil ?_)
        refine ⟨acc ++ [(written p x).1], _, _, _, rfl, by rw [List.length_append, hacc]; rfl, ?_⟩
        rw [hfold, drop_get hz]
        exact fold_ok hv1
      · rintro y σx ⟨rfl, hy1, hy2, hy3⟩
        have hwl := words_len p.depth p x n (Nat.le_refl _) ho2 (ht2 x hmem)
        have hzz : sizeLine = 16777216 := rfl
        refine EV_glob rfl H.g.g_SerializationError ⟨.inl ⟨_, rfl, by rcases hy3 with e | e <;> rw [e]; exact H.t.t95; exact H.t.t117⟩, ?_⟩
        refine EX_cons (ES_raiseK rfl H.g.g_ListSerializationError H.g.kx117 H.x.e117 (EL_nil (EK_cons (EV_loc 1 rfl rfl (EK_cons (EV_loc 5 rfl rfl (EK_cons (EV_loc 3 rfl rfl (EK_nil ⟨rfl, rfl, wrapped "Serialization" i y.msg, fun k hk => CV_mk117b H.toKOk hD' hy3 (by omega) (by rw [hy2, hzz]; omega) hk, ?_⟩)))))))))
        refine ⟨[], _, rfl, by simp [hid], rfl, ?_⟩
        rw [hfold, drop_get hz, fold_err hy1, hy2]
        exact ⟨wrapped_ne (by decide), rfl, .inr rfl⟩
    · rintro σn ⟨acc, a, b, e, rfl, hacc, hfold⟩
      refine EX_freeze (own := []) 2 rfl rfl ?_
      refine EX_cons (ES_Return (EV_loc 2 rfl rfl ⟨[], _, rfl, List.Subset.refl _, rfl, ?_⟩))
      rw [hfold, enumI_length, List.drop_of_length_le (by rw [List.length_map]; omega), fold]
      exact ⟨rfl, rfl⟩
  refine EX_cons (ES_If (TV_BoolOp (TA_And_cons (TV_Compare (EV_fld 0 rfl rfl rfl H.g.at1696_max_length (optI_handed _) (EV_none (CO_notNone (TU_bool ?_))))))))
  cases m with
  | none => exact EX_nil (rest rfl rfl (by rw [written, if_neg (by simp [above])]))
  | some m =>
    have hm : m = 2 := ho1 m rfl
    refine TA_And_cons (TV_Compare (EV_bcall rfl H.g.b_len bb_len rfl (by decide) (EL_cons (EV_loc 1 rfl rfl (EL_nil (CV_len_list (by omega) (EV_fld 0 rfl rfl rfl H.g.at1696_max_length rfl (CO_gt (TU_bool ?_)))))))))
    by_cases hgt : ds.length > m
    · rw [show decide ((ds.length : Int) > (m : Int)) = true from by simpa using hgt]
      refine TA_And_nil ?_
      have hw : written (.many (some m) p) (.list ds) = (AV.none, ("Too many elements (" ++ toString (ds.length : Int) ++ ", allowed " ++ toString (m : Int) ++ ")" : Str)) := by rw [written, if_pos (by simpa [above] using hgt)]; rfl
      rw [hw]
      refine EX_cons (ES_raiseK rfl H.g.g_ListSerializationError H.g.kx117 H.x.e117 (EL_cons (fstr5i (n := ds.length) (m := m) (by omega) (by omega) (by decide) (EV_bcall rfl H.g.b_len bb_len rfl (by decide) (EL_cons (EV_loc 1 rfl rfl (EL_nil (CV_len_list (by omega) ⟨rfl, EV_fld 0 rfl rfl rfl H.g.at1696_max_length rfl ⟨rfl, ?_⟩⟩))))))))
      refine EL_nil (EK_cons (EV_loc 1 rfl rfl (EK_nil ⟨rfl, rfl, _, fun k hk => CV_mk117k H.toKOk hD' hk, endX0 ⟨by rw [Str.append_assoc, Str.append_assoc, Str.append_assoc]; exact strOf_ne (by decide), rfl, .inr rfl⟩⟩)))
    · rw [show decide ((ds.length : Int) > (m : Int)) = false from by simpa using hgt]
      exact EX_nil (rest rfl rfl (by rw [written, if_neg (by simpa [above] using hgt)]))
/-- serialize of every plan -/
theorem SER (H : KEnd G) : ∀ d, SERs G d
  | 0 => fun D p n t h => absurd h (Nat.not_lt_zero _)
  | d + 1 => fun D p n t h ho hD hq ht => by
    have IH := SER H d
    cases p with
    | number one => exact C1493 H.toKAll ho ht (by omega) hq
    | octets lo hi => exact C1560 H.toKAll (n := n) ht (by omega) hq
    | truth => exact C1591 H.toKAll ht (by omega) hq
    | row s ps => exact C1650 H IH (by rw [Plan.depth] at h; omega) ho ht (by omega) hq
    | many m p => exact C1686 H IH (by rw [Plan.depth] at h; omega) ho ht (by omega) hq
end
end Mine
end
/-! Pr15 -/
section
open PySem PySem.Calls PyProof.Rows
open PySem.W
namespace Mine
def full (m : Option Nat) (k : Nat) : Bool := match m with | some m => decide (k ≥ m) | none => false
theorem foldR_full {m : Option Nat} {k : Nat} {x : AV × Str} {r : List (AV × Str)} {acc : List AV} (h : full m k = true) : foldR m k (x :: r) acc = (AV.none, ("Too many elements (more than " ++ toString (m.getD 0 : Int) ++ ")" : Str)) := by
  obtain ⟨v, ws⟩ := x
  cases m with
  | none => cases h
  | some q =>
    have h' : decide (k ≥ q) = true := h
    rw [foldR, if_pos h']
theorem foldR_ok {m : Option Nat} {k : Nat} {v : AV} {ws : Str} {r : List (AV × Str)} {acc : List AV} (hf : full m k = false) (h : ws = "") : foldR m k ((v, ws) :: r) acc = foldR m (k + 1) r (acc ++ [v]) := by
  cases m with
  | none => rw [foldR, if_neg (by simp), if_neg (by simpa using h)]
  | some q =>
    have hf' : decide (k ≥ q) = false := hf
    rw [foldR, if_neg (by rw [hf']; decide), if_neg (by simpa using h)]
theorem foldR_err {m : Option Nat} {k : Nat} {v : AV} {ws : Str} {r : List (AV × Str)} {acc : List AV} (hf : full m k = false) (h : ws ≠ "") : foldR m k ((v, ws) :: r) acc = (.none, wrapped "Deserialization" k ws) := by
  cases m with
  | none => rw [foldR, if_neg (by simp), if_pos h]
  | some q =>
    have hf' : decide (k ≥ q) = false := hf
    rw [foldR, if_neg (by rw [hf']; decide), if_pos h]
theorem readZ_get : ∀ {ps : List Plan} {ds : List AV} {i : Nat} {p : Plan} {d : AV}, ps[i]? = some p → ds[i]? = some d → (readZ ps ds)[i]? = some (readP p d)
  | [], ds, i, p, d, h, _ => by simp at h
  | p :: ps, [], i, q, d, _, h => by simp at h
  | p :: ps, d :: ds, 0, q, e, h1, h2 => by simp at h1 h2; subst h1; subst h2; simp [readZ]
  | p :: ps, d :: ds, i + 1, q, e, h1, h2 => by rw [readZ]; simpa using readZ_get (by simpa using h1) (by simpa using h2)
theorem readZ_length : ∀ {ps : List Plan} {ds : List AV}, (readZ ps ds).length = min ps.length ds.length
  | [], ds => by simp [readZ]
  | p :: ps, [] => by simp [readZ]
  | p :: ps, d :: ds => by rw [readZ, List.length_cons, readZ_length, List.length_cons, List.length_cons]; omega
theorem fitsZ_get : ∀ {ps : List Plan} {ds : List AV} {i : Nat} {p : Plan} {d : AV}, fitsZ ps ds → ps[i]? = some p → ds[i]? = some d → fits p d
  | [], ds, i, p, d, _, h, _ => by simp at h
  | p :: ps, [], i, q, d, _, _, h => by simp at h
  | p :: ps, d :: ds, 0, q, e, hf, h1, h2 => by simp at h1 h2; subst h1; subst h2; rw [fitsZ] at hf; exact hf.1
  | p :: ps, d :: ds, i + 1, q, e, hf, h1, h2 => by rw [fitsZ] at hf; exact fitsZ_get hf.2 (by simpa using h1) (by simpa using h2)
theorem foldR_words {m : Option Nat} (hm : m.getD 0 < 1000000) {B : Nat} : ∀ {l : List (AV × Str)} {k : Nat} {acc : List AV}, (∀ x ∈ l, x.2.length ≤ B) → k + l.length < 1000000 → (foldR m k l acc).2.length ≤ B + 90
  | [], k, acc, _, _ => by
    rw [foldR]
    have : ("" : Str).length = 0 := by decide
    dsimp only
    omega
  | (v, ws) :: r, k, acc, h, hk => by
    rw [List.length_cons] at hk
    cases hf : full m k with
    | true =>
      rw [foldR_full hf]
      have := dig_len hm
      dsimp only
      rw [str_app_len, str_app_len]
      have e1 : ("Too many elements (more than " : Str).length ≤ 40 := by decide
      have e2 : (")" : Str).length ≤ 4 := by decide
      omega
    | false =>
      by_cases e : ws = ""
      · rw [foldR_ok hf e]
        exact foldR_words hm (fun x hx => h x (.tail _ hx)) (by omega)
      · rw [foldR_err hf e]
        have := wrapped_len (w := "Deserialization") (m := ws) (by decide) (show k < 1000000 by omega)
        have h2 := h _ (.head _)
        dsimp only at h2 ⊢
        omega
theorem readZ_mem : ∀ {ps : List Plan} {ds : List AV} {x : AV × Str}, x ∈ readZ ps ds → ∃ p ∈ ps, ∃ d ∈ ds, x = readP p d
  | [], ds, x, h => by rw [readZ] at h; cases h; simp
  | p :: ps, [], x, h => by rw [readZ] at h; cases h; simp
  | p :: ps, d :: ds, x, h => by
    rw [readZ] at h
    rcases List.mem_cons.mp h with rfl | h
    · exact ⟨p, .head _, d, .head _, rfl⟩
    · obtain ⟨q, hq, e, he, r⟩ := readZ_mem h
      exact ⟨q, .tail _ hq, e, .tail _ he, r⟩
theorem words_lenR : ∀ (d : Nat) (p : Plan) (t : AV) (n : Nat), p.depth ≤ d → p.ok → itOk n t → (readP p t).2.length ≤ 100 + 100 * d
  | d, .number one, t, n, _, ho, _ => by
    have z : ("" : Str).length = 0 := by decide
    cases t <;> first | (simp only [readP]; exact Nat.le_trans (show ("?" : Str).length ≤ 100 by decide) (by omega)) | skip
    have w1 : ("Invalid serialization (wrong size)" : Str).length ≤ 100 := by decide
    have w2 : ("Invalid serialization (not minimal length)" : Str).length ≤ 100 := by decide
    cases one <;> rw [readP]
    all_goals repeat' split
    all_goals dsimp only
    all_goals omega
  | d, .octets lo hi, t, n, _, _, _ => by
    have z : ("" : Str).length = 0 := by decide
    cases t <;> first | (simp only [readP]; exact Nat.le_trans (show ("Objects of this kind cannot be deserialized" : Str).length ≤ 100 by decide) (by omega)) | skip
    rw [readP]
    split
    · exact Nat.le_trans (show ("Object has invalid length" : Str).length ≤ 100 by decide) (by omega)
    · dsimp only; omega
  | d, .truth, t, n, _, _, _ => by
    have z : ("" : Str).length = 0 := by decide
    cases t <;> first | (simp only [readP]; exact Nat.le_trans (show ("Invalid serialized boolean.  Must be either 0x01 or 0x00" : Str).length ≤ 100 by decide) (by omega)) | skip
    rw [readP]
    split
    · dsimp only; omega
    · exact Nat.le_trans (show ("Invalid serialized boolean.  Must be either 0x01 or 0x00" : Str).length ≤ 100 by decide) (by omega)
  | 0, .row s ps, t, n, h, _, _ => by rw [Plan.depth] at h; omega
  | d + 1, .row s ps, t, n, h, ho, ht => by
    have e0 : ("Can only deserialize sequences" : Str).length ≤ 100 := by decide
    cases t <;> first | (simp only [readP]; omega) | skip
    rename_i ds
    obtain ⟨n, rfl⟩ : ∃ m, n = m + 1 := by cases n with | zero => exact ht.elim | succ m => exact ⟨m, rfl⟩
    rw [readP]
    split
    · have h1 := dig_len (i := ds.length) (by have := ht.1; omega)
      have h2 := dig_len (i := ps.length) (by have := ho.2.1; omega)
      dsimp only
      rw [str_app_len, str_app_len, str_app_len, str_app_len]
      have e1 : ("Deserializing list length (" : Str).length ≤ 30 := by decide
      have e2 : (") does not match sedes (" : Str).length ≤ 30 := by decide
      have e3 : (")" : Str).length ≤ 4 := by decide
      omega
    · have := foldR_words (m := none) (by decide) (B := 100 + 100 * d) (l := readZ ps ds) (k := 0) (acc := []) (fun x hx => by
        obtain ⟨p, hp, e, he, rfl⟩ := readZ_mem hx
        have hd := plansDepth_mem hp
        rw [Plan.depth] at h
        obtain ⟨i, hi, hpe⟩ := List.getElem_of_mem hp
        exact words_lenR d p e n (by omega) (plansOk_get ho.2.2 (i := i) (by rw [List.getElem?_eq_getElem hi, hpe])) (ht.2 e he)) (by rw [readZ_length]; have := ho.2.1; omega)
      omega
  | 0, .many m p, t, n, h, _, _ => by rw [Plan.depth] at h; omega
  | d + 1, .many m p, t, n, h, ho, ht => by
    have e0 : ("Can only deserialize sequences" : Str).length ≤ 100 := by decide
    cases t <;> first | (simp only [readP]; omega) | skip
    rename_i ds
    obtain ⟨n, rfl⟩ : ∃ m, n = m + 1 := by cases n with | zero => exact ht.elim | succ m => exact ⟨m, rfl⟩
    rw [readP]
    have := foldR_words (m := m) (by cases m with | none => decide | some q => have := ho.1 q rfl; subst this; decide) (B := 100 + 100 * d) (l := ds.map fun d => readP p d) (k := 0) (acc := []) (fun x hx => by
        obtain ⟨e, he, rfl⟩ := List.mem_map.mp hx
        rw [Plan.depth] at h
        exact words_lenR d p e n (by omega) ho.2 (ht.2 e he)) (by rw [List.length_map]; have := ht.1; omega)
    omega
def DESs (G : Gb) (d : Nat) : Prop := ∀ (D : Lv) (p : Plan) (n : Nat) (t : AV), p.depth < d → p.ok → D.n + 40 + 30 * d ≤ 900 → D.q = true → itOk n t → fits p t → DesF G D p (desF p) t
theorem subT_isLs {d : AV} {T : String} (h : tyN d = some T) : (["list", "tuple"].any (subT T)) = isLs d := subT_rows h
section
variable {G : Gb} {D : Lv}
theorem C1657 (H : KEnd G) {d : Nat} (IH : DESs G d) {n : Nat} {s : Bool} {ps : List Plan} {t : AV} (hd : plansDepth ps < d) (ho : (Plan.row s ps).ok) (ht : itOk n t) (hf : fits (.row s ps) t) (hD : D.n + 70 + 30 * d ≤ 900) (hq : D.q = true) : DesF G D (.row s ps) 1657 t := by
  obtain ⟨T, hT⟩ := thOk_ty (itOk_th ht)
  have H' := H.toKAll
  unfold DesF
  refine Fn_d (names := ["self", "serial", "found", "idx", "sedes", "element", "e"]) (loc := [some (Plan.row s ps).obj, some t, none, none, none, none, none]) H.fns.f1657 (by show D.n < 1000; omega) (bind2 (fun _ _ _ _ _ _ _ => rfl) rfl rfl rfl rfl) ?_
  have hD' : D.up.n + 20 ≤ 900 := by show D.n + 1 + 20 ≤ 900; omega
  have hq' : D.up.q = true := hq
  rw [Plan.obj]
  refine EX_cons (ES_If (TV_Not (TV_value (EV_gcall rfl H.g.g_is_sequence H.g.kf1621 (EL_cons (EV_loc 1 rfl rfl (EL_nil (CV_fn0 (C1621 H' hT hD').noX (K := fun v => v = .bool (["list", "tuple"].any (subT T))) (KX := fun _ => False) (fun v hv => ?_) fun _ z => z.elim))))))))
  subst hv
  refine TU_bool ?_
  rw [subT_rows hT]
  cases hB : isLs t with
  | false =>
    have hw : readP (.row s ps) t = (AV.none, ("Can only deserialize sequences" : Str)) := by cases t <;> first | (simp only [readP]; done) | cases hB
    rw [hw]
    exact EX_cons (ES_raise160 H' hD' 1 rfl rfl rfl (by decide) (by decide) (endX0 ⟨by decide, rfl, .inr rfl⟩))
  | true =>
  obtain ⟨ds, rfl⟩ : ∃ ds, t = .list ds := by cases t <;> first | exact ⟨_, rfl⟩ | (cases n <;> exact ht.elim) | cases hB
  obtain ⟨n, rfl⟩ : ∃ m, n = m + 1 := by cases n with | zero => exact ht.elim | succ m => exact ⟨m, rfl⟩
  obtain ⟨ho1, ho2, ho3⟩ := ho
  obtain ⟨ht1, ht2⟩ := ht
  rw [fits] at hf
  refine EX_nil ?_
  have rest : ∀ {σ : AS}, σ.own = [] → σ.loc = [some (.obj 1660 [("parts", .list (plansObj ps)), ("strict", .bool s)]), some (.list ds), none, none, none, none, none] → readP (.row s ps) (.list ds) = foldR none 0 (readZ ps ds) [] → EX G ⟨"List.deserialize", sc1657, 1657, .ref 1656, ["self", "serial", "found", "idx", "sedes", "element", "e"], D.up, false⟩ σ ((defBody d1657).drop 2) (EndF [] fun a own' => own' = [] ∧ (readP (.row s ps) (.list ds)).2 = "" ∧ a = (readP (.row s ps) (.list ds)).1) (EndX [] fun x own' => own' = [] ∧ ((readP (.row s ps) (.list ds)).2 ≠ "" ∧ x.msg = (readP (.row s ps) (.list ds)).2 ∧ (x.C = 138 ∨ x.C = 160))) := by
    intro σ hown hloc hw
    obtain ⟨loc, own⟩ := σ
    cases hown; cases hloc
    rw [hw]
    refine EX_cons (ES_Assign_Name 2 rfl (EV_ListOwn (EL_nil ⟨by decide, fun fa => ?_⟩)))
    refine EX_cons (ES_For rfl (IE_enumZip hq' (EV_blt rfl H.g.b_enumerate bb_enumerate (by decide) ⟨rfl, EV_blt rfl H.g.b_zip bb_zip (by decide) ⟨rfl, EV_fld 0 rfl rfl rfl H.g.at1660_parts rfl ⟨plansObj ps, rfl, EV_loc 1 rfl rfl ⟨ds, rfl, ?_⟩⟩⟩⟩)))
    let J : Nat → AS → Prop := fun i σ => ∃ acc a b c e, σ = ⟨[some (.obj 1660 [("parts", .list (plansObj ps)), ("strict", .bool s)]), some (.list ds), some (.own fa), a, b, c, e], [(fa, .list acc)]⟩ ∧ acc.length = i ∧ foldR none 0 (readZ ps ds) [] = foldR none i ((readZ ps ds).drop i) acc
    refine ⟨J, ⟨[], _, _, _, _, rfl, rfl, by rw [List.drop_zero]⟩, ?_, ?_⟩
    · rintro i it σi hit ⟨acc, a, b, c, e, rfl, hacc, hfold⟩
      obtain ⟨po, x, hpo, hx, rfl⟩ := ezI_get hit
      obtain ⟨p, hp, rfl⟩ : ∃ p, ps[i]? = some p ∧ po = p.obj := by
        have hi : i < ps.length := by rw [← plansObj_length]; exact (List.getElem?_eq_some_iff.mp hpo).1
        refine ⟨ps[i], List.getElem?_eq_getElem hi, ?_⟩
        rw [plansObj_get (List.getElem?_eq_getElem hi)] at hpo
        exact (Option.some.inj hpo).symm
      have hmem : x ∈ ds := List.mem_of_getElem? hx
      have hpd := plansDepth_get hp
      have hpo := plansOk_get ho3 hp
      have hz := readZ_get hp hx
      have hi3 : i < ps.length := (List.getElem?_eq_some_iff.mp hp).1
      have SF := IH D.up p n x (by omega) hpo (by show D.n + 1 + 40 + 30 * d ≤ 900; omega) hq (ht2 x hmem) (fitsZ_get hf hp hx)
      refine AI_tup hq' ⟨rfl, AG_Name 3 rfl rfl ⟨rfl, AG_Tuple hq' ⟨rfl, AG_Name 4 rfl rfl ⟨rfl, AG_Name 5 rfl rfl ?_⟩⟩⟩⟩
      refine EX_cons (ES_Try rfl (KX := fun y σx => σx = ⟨[some (.obj 1660 [("parts", .list (plansObj ps)), ("strict", .bool s)]), some (.list ds), some (.own fa), some (.int i), some p.obj, some x, e], [(fa, .list acc)]⟩ ∧ (readP p x).2 ≠ "" ∧ y.msg = (readP p x).2 ∧ (y.C = 138 ∨ y.C = 160)) 6 rfl rfl ?_ ?_)
      · refine EX_cons (ES_Expr (EV_Meth (EV_loc 2 rfl rfl ⟨.builtin "list.append", _, rfl, GM_append (ds := acc) (.head _), ?_⟩)))
        refine EL_cons (EV_Meth (EV_loc 4 rfl rfl ⟨.ref (desF p), _, kf_des H' p, GM_des H' p, EL_cons (EV_loc 5 rfl rfl (EL_nil ?_))⟩))
        refine CV_fn0 (S := ⟨"List.deserialize", sc1657, 1657, .ref 1656, ["self", "serial", "found", "idx", "sedes", "element", "e"], D.up, false⟩) SF (fun v hv => ?_) fun y hy => ⟨rfl, hy⟩
        obtain ⟨hv1, rfl⟩ := hv
        refine EL_nil (CV_append (own := []) (rest := []) rfl (by show acc.length ≤ 16777216; omega) ?_)
        refine EX_nil (EX_nil ?_)
        refine ⟨acc ++ [(readP p x).1], _, _, _, _, rfl, by rw [List.length_append, hacc]; rfl, ?_⟩
        rw [hfold, drop_get hz]
        exact foldR_ok rfl hv1
      · rintro y σx ⟨rfl, hy1, hy2, hy3⟩
        have hwl := words_lenR (plansDepth ps) p x n hpd hpo (ht2 x hmem)
        have hzz : sizeLine = 16777216 := rfl
        refine EV_glob rfl H.g.g_DeserializationError ⟨.inl ⟨_, rfl, by rcases hy3 with e | e <;> rw [e]; exact H.t.t138; exact H.t.t160⟩, ?_⟩
        refine EX_cons (ES_raiseK rfl H.g.g_ListDeserializationError H.g.kx160 H.x.e160 (EL_nil (EK_cons (EV_loc 1 rfl rfl (EK_cons (EV_loc 6 rfl rfl (EK_cons (EV_loc 3 rfl rfl (EK_nil ⟨rfl, rfl, wrapped "Deserialization" i y.msg, fun k hk => CV_mk160b H.toKOk hD' hy3 (by omega) (by rw [hy2, hzz]; omega) hk, ?_⟩)))))))))
        refine ⟨[], _, rfl, by simp [hid], rfl, ?_⟩
        rw [hfold, drop_get hz, foldR_err rfl hy1, hy2]
        exact ⟨wrapped_ne (by decide), rfl, .inr rfl⟩
    · rintro σn ⟨acc, a, b, c, e, rfl, hacc, hfold⟩
      refine EX_cons (ES_Return (EV_bcall rfl H.g.b_tuple bb_tuple rfl (by decide) (EL_cons (EV_loc 2 rfl rfl (EL_nil (CV_tuple_own (.head _) ?_ ⟨[], _, rfl, List.Subset.refl _, rfl, ?_⟩))))))
      · rw [ezI_length, plansObj_length] at hacc
        show acc.length ≤ 16777216
        omega
      · rw [hfold, ezI_length, plansObj_length, List.drop_of_length_le (by rw [readZ_length]; omega), foldR]
        exact ⟨rfl, rfl⟩
  refine EX_cons (ES_If (TV_BoolOp (TA_And_cons (TV_value (EV_fld 0 rfl rfl rfl H.g.at1660_strict rfl (TU_bool ?_))))))
  cases s with
  | false => exact EX_nil (rest rfl rfl (by rw [readP, if_neg (by simp)]))
  | true =>
    have hlen : ∀ {S : St} {σ : AS} {k : AV → AS → Prop} {kx : AX → AS → Prop}, S.D = D.up → k (.int ps.length) σ → CV G S σ (.builtin "len") [.obj 1660 [("parts", .list (plansObj ps)), ("strict", .bool true)]] [] k kx := by
      intro S σ k kx hS hk
      refine CV_len_obj (D := D.up.up) H.g.le1660 H.g.fl1643 (by rw [hS]; exact ⟨Nat.le_refl _, id⟩) ?_ (by omega) hk
      have := C1643 (D := D.up.up) H' (ps := ps) (s := true) (by omega) (by show D.n + 1 + 1 + 20 ≤ 900; omega)
      rw [Plan.obj] at this
      exact this
    refine TA_And_cons (TV_Compare (EV_bcall rfl H.g.b_len bb_len rfl (by decide) (EL_cons (EV_loc 1 rfl rfl (EL_nil (CV_len_list (by omega) ?_))))))
    refine EV_bcall rfl H.g.b_len bb_len rfl (by decide) (EL_cons (EV_loc 0 rfl rfl (EL_nil (hlen rfl (CO_ne (TU_bool ?_))))))
    by_cases hne : ds.length = ps.length
    · rw [show ((ds.length : Int) != (ps.length : Int)) = false from by rw [hne]; simp]
      exact EX_nil (rest rfl rfl (by rw [readP, if_neg (by simp [hne])]))
    · rw [show ((ds.length : Int) != (ps.length : Int)) = true from by simp; omega]
      refine TA_And_nil ?_
      have hw : readP (.row true ps) (.list ds) = (AV.none, ("Deserializing list length (" ++ toString (ds.length : Int) ++ ") does not match sedes (" ++ toString (ps.length : Int) ++ ")" : Str)) := by rw [readP, if_pos ⟨rfl, hne⟩]
      rw [hw]
      have hne0 : ("Deserializing list length (" ++ toString (ds.length : Int) ++ ") does not match sedes (" ++ toString (ps.length : Int) ++ ")" : Str) ≠ "" := by rw [Str.append_assoc, Str.append_assoc, Str.append_assoc]; exact strOf_ne (by decide)
      have h1 := dig_len (i := ds.length) (by omega)
      have h2 := dig_len (i := ps.length) (by omega)
      have e1 : ("Deserializing list length (" : Str).length ≤ 30 := by decide
      have e4 : 0 < ("Deserializing list length (" : Str).length := by decide
      have e2 : (") does not match sedes (" : Str).length ≤ 30 := by decide
      have e3 : (")" : Str).length ≤ 4 := by decide
      have hzz : sizeLine = 16777216 := rfl
      refine EX_cons (ES_raiseC rfl H.g.g_ListDeserializationError H.g.kx160 H.x.e160 (EL_cons (EV_BinOp (EV_str (EV_Tuple ?_)))))
      refine EL_cons (EV_bcall rfl H.g.b_len bb_len rfl (by decide) (EL_cons (EV_loc 1 rfl rfl (EL_nil (CV_len_list (by omega) ?_)))))
      refine EL_cons (EV_bcall rfl H.g.b_len bb_len rfl (by decide) (EL_cons (EV_loc 0 rfl rfl (EL_nil (hlen rfl (EL_nil ⟨(show (2 : Nat) ≤ sizeLine by decide), BO_pctD (by omega) (by omega) ?_⟩))))))
      exact EL_cons (EV_loc 1 rfl rfl (EL_nil ⟨rfl, _, fun k hk => CV_mk160 H.toKOk hD' (by rw [str_app_len, str_app_len, str_app_len, str_app_len]; omega) (by rw [str_app_len, str_app_len, str_app_len, str_app_len]; omega) hk, endX0 ⟨hne0, rfl, .inr rfl⟩⟩))
theorem C1693 (H : KEnd G) {d : Nat} (IH : DESs G d) {n : Nat} {m : Option Nat} {p : Plan} {t : AV} (hd : p.depth < d) (ho : (Plan.many m p).ok) (ht : itOk n t) (hf : fits (.many m p) t) (hD : D.n + 70 + 30 * d ≤ 900) (hq : D.q = true) : DesF G D (.many m p) 1693 t := by
  obtain ⟨T, hT⟩ := thOk_ty (itOk_th ht)
  have H' := H.toKAll
  unfold DesF
  refine Fn_d (names := ["self", "serial", "found", "index", "element", "e"]) (loc := [some (Plan.many m p).obj, some t, none, none, none, none]) H.fns.f1693 (by show D.n < 1000; omega) (bind2 (fun _ _ _ _ _ _ _ => rfl) rfl rfl rfl rfl) ?_
  have hD' : D.up.n + 20 ≤ 900 := by show D.n + 1 + 20 ≤ 900; omega
  have hq' : D.up.q = true := hq
  rw [Plan.obj]
  refine EX_cons (ES_If (TV_Not (TV_value (EV_gcall rfl H.g.g_is_sequence H.g.kf1621 (EL_cons (EV_loc 1 rfl rfl (EL_nil (CV_fn0 (C1621 H' hT hD').noX (K := fun v => v = .bool (["list", "tuple"].any (subT T))) (KX := fun _ => False) (fun v hv => ?_) fun _ z => z.elim))))))))
  subst hv
  refine TU_bool ?_
  rw [subT_rows hT]
  cases hB : isLs t with
  | false =>
    have hw : readP (.many m p) t = (AV.none, ("Can only deserialize sequences" : Str)) := by cases t <;> first | (simp only [readP]; done) | cases hB
    rw [hw]
    exact EX_cons (ES_raiseK rfl H.g.g_ListDeserializationError H.g.kx160 H.x.e160 (EL_cons (EV_str (EL_nil (EK_cons (EV_loc 1 rfl rfl (EK_nil ⟨rfl, rfl, _, fun k hk => CV_mk160k H.toKOk hD' (by decide) (by decide) hk, endX0 ⟨by decide, rfl, .inr rfl⟩⟩)))))))
  | true =>
  obtain ⟨ds, rfl⟩ : ∃ ds, t = .list ds := by cases t <;> first | exact ⟨_, rfl⟩ | (cases n <;> exact ht.elim) | cases hB
  obtain ⟨n, rfl⟩ : ∃ m, n = m + 1 := by cases n with | zero => exact ht.elim | succ m => exact ⟨m, rfl⟩
  obtain ⟨ho1, ho2⟩ := ho
  obtain ⟨ht1, ht2⟩ := ht
  rw [fits] at hf
  refine EX_nil ?_
  have hw : readP (.many m p) (.list ds) = foldR m 0 (ds.map fun d => readP p d) [] := by rw [readP]
  rw [hw]
  refine EX_cons (ES_Assign_Name 2 rfl (EV_ListOwn (EL_nil ⟨by decide, fun fa => ?_⟩)))
  refine EX_cons (ES_For rfl (IE_enum hq' (EV_blt rfl H.g.b_enumerate bb_enumerate (by decide) ⟨rfl, EV_loc 1 rfl rfl ⟨ds, rfl, ?_⟩⟩)))
  let J : Nat → AS → Prop := fun i σ => ∃ acc a b e, σ = ⟨[some (.obj 1696 [("element_sedes", p.obj), ("max_length", optI m)]), some (.list ds), some (.own fa), a, b, e], [(fa, .list acc)]⟩ ∧ acc.length = i ∧ foldR m 0 (ds.map fun d => readP p d) [] = foldR m i ((ds.map fun d => readP p d).drop i) acc
  refine ⟨J, ⟨[], _, _, _, rfl, rfl, by rw [List.drop_zero]⟩, ?_, ?_⟩
  · rintro i it σi hit ⟨acc, a, b, e, rfl, hacc, hfold⟩
    obtain ⟨x, hx, rfl⟩ := enumI_get hit
    have hmem : x ∈ ds := List.mem_of_getElem? hx
    have hz : (ds.map fun d => readP p d)[i]? = some (readP p x) := by rw [List.getElem?_map, hx]; rfl
    have hi4 : i < ds.length := (List.getElem?_eq_some_iff.mp hx).1
    have SF := IH D.up p n x hd ho2 (by show D.n + 1 + 40 + 30 * d ≤ 900; omega) hq (ht2 x hmem) (hf x hmem)
    refine AI_tup hq' ⟨rfl, AG_Name 3 rfl rfl ⟨rfl, AG_Name 4 rfl rfl ?_⟩⟩
    have rest : ∀ {kf : AF → AS → Prop}, full m i = false → EX G ⟨"CountableList.deserialize", sc1693, 1693, .ref 1692, ["self", "serial", "found", "index", "element", "e"], D.up, false⟩ ⟨[some (.obj 1696 [("element_sedes", p.obj), ("max_length", optI m)]), some (.list ds), some (.own fa), some (.int i), some x, e], [(fa, .list acc)]⟩ ((match ((defBody d1693).drop 2).headD default with | .For _ _ b _ _ => b | _ => []).drop 1) (loopK J kf i) (EndX [] fun x own' => own' = [] ∧ ((foldR m 0 (ds.map fun d => readP p d) []).2 ≠ "" ∧ x.msg = (foldR m 0 (ds.map fun d => readP p d) []).2 ∧ (x.C = 138 ∨ x.C = 160))) := by
      intro kf hfull
      refine EX_cons (ES_Try rfl (KX := fun y σx => σx = ⟨[some (.obj 1696 [("element_sedes", p.obj), ("max_length", optI m)]), some (.list ds), some (.own fa), some (.int i), some x, e], [(fa, .list acc)]⟩ ∧ (readP p x).2 ≠ "" ∧ y.msg = (readP p x).2 ∧ (y.C = 138 ∨ y.C = 160)) 5 rfl rfl ?_ ?_)
      · refine EX_cons (ES_Expr (EV_Meth (EV_loc 2 rfl rfl ⟨.builtin "list.append", _, rfl, GM_append (ds := acc) (.head _), ?_⟩)))
        refine EL_cons (EV_Meth (EV_fld 0 rfl rfl rfl H.g.at1696_element_sedes (by cases p <;> rfl) ⟨.ref (desF p), _, kf_des H' p, GM_des H' p, EL_cons (EV_loc 4 rfl rfl (EL_nil ?_))⟩))
        refine CV_fn0 (S := ⟨"CountableList.deserialize", sc1693, 1693, .ref 1692, ["self", "serial", "found", "index", "element", "e"], D.up, false⟩) SF (fun v hv => ?_) fun y hy => ⟨rfl, hy⟩
        obtain ⟨hv1, rfl⟩ := hv
        refine EL_nil (CV_append (own := []) (rest := []) rfl (by show acc.length ≤ 16777216; omega) ?_)
        refine EX_nil (EX_nil ?_)
        refine ⟨acc ++ [(readP p x).1], _, _, _, rfl, by rw [List.length_append, hacc]; rfl, ?_⟩
        rw [hfold, drop_get hz]
        exact foldR_ok hfull hv1
      · rintro y σx ⟨rfl, hy1, hy2, hy3⟩
        have hwl := words_lenR p.depth p x n (Nat.le_refl _) ho2 (ht2 x hmem)
        have hzz : sizeLine = 16777216 := rfl
        refine EV_glob rfl H.g.g_DeserializationError ⟨.inl ⟨_, rfl, by rcases hy3 with e | e <;> rw [e]; exact H.t.t138; exact H.t.t160⟩, ?_⟩
        refine EX_cons (ES_raiseK rfl H.g.g_ListDeserializationError H.g.kx160 H.x.e160 (EL_nil (EK_cons (EV_loc 1 rfl rfl (EK_cons (EV_loc 5 rfl rfl (EK_cons (EV_loc 3 rfl rfl (EK_nil ⟨rfl, rfl, wrapped "Deserialization" i y.msg, fun k hk => CV_mk160b H.toKOk hD' hy3 (by omega) (by rw [hy2, hzz]; omega) hk, ?_⟩)))))))))
        refine ⟨[], _, rfl, by simp [hid], rfl, ?_⟩
        rw [hfold, drop_get hz, foldR_err hfull hy1, hy2]
        exact ⟨wrapped_ne (by decide), rfl, .inr rfl⟩
    refine EX_cons (ES_If (TV_BoolOp (TA_And_cons (TV_Compare (EV_fld 0 rfl rfl rfl H.g.at1696_max_length (optI_handed _) (EV_none (CO_notNone (TU_bool ?_))))))))
    cases m with
    | none => exact EX_nil (rest rfl)
    | some m =>
      have hm : m = 2 := ho1 m rfl
      refine TA_And_cons (TV_Compare (EV_loc 3 rfl rfl (EV_fld 0 rfl rfl rfl H.g.at1696_max_length rfl (CO_ge (TU_bool ?_)))))
      by_cases hge : i ≥ m
      · rw [show decide ((i : Int) ≥ (m : Int)) = true from by simpa using hge]
        refine TA_And_nil ?_
        have hfull : full (some m) i = true := by simpa [full] using hge
        refine EX_cons (ES_raiseK rfl H.g.g_ListDeserializationError H.g.kx160 H.x.e160 (EL_cons (fstr3 (n := m) (by omega) (by decide) (EV_fld 0 rfl rfl rfl H.g.at1696_max_length rfl ⟨rfl, ?_⟩))))
        have e1 : ("Too many elements (more than " : Str).length ≤ 40 := by decide
        have e0 : 0 < ("Too many elements (more than " : Str).length := by decide
        have e3 : (")" : Str).length ≤ 4 := by decide
        have hdl := dig_len (i := m) (by omega)
        have hzz : sizeLine = 16777216 := rfl
        refine EL_nil (EK_cons (EV_loc 1 rfl rfl (EK_nil ⟨rfl, rfl, _, fun k hk => CV_mk160k H.toKOk hD' (by rw [str_app_len, str_app_len]; omega) (by rw [str_app_len, str_app_len]; omega) hk, ?_⟩)))
        refine endX0 ?_
        rw [hfold, drop_get hz, foldR_full hfull]
        exact ⟨by rw [Str.append_assoc]; exact strOf_ne (by decide), rfl, .inr rfl⟩
      · rw [show decide ((i : Int) ≥ (m : Int)) = false from by simpa using hge]
        exact EX_nil (rest (by simpa [full] using hge))
  · rintro σn ⟨acc, a, b, e, rfl, hacc, hfold⟩
    refine EX_cons (ES_Return (EV_bcall rfl H.g.b_tuple bb_tuple rfl (by decide) (EL_cons (EV_loc 2 rfl rfl (EL_nil (CV_tuple_own (.head _) ?_ ⟨[], _, rfl, List.Subset.refl _, rfl, ?_⟩))))))
    · rw [enumI_length] at hacc
      show acc.length ≤ 16777216
      omega
    · rw [hfold, enumI_length, List.drop_of_length_le (by rw [List.length_map]; omega), foldR]
      exact ⟨rfl, rfl⟩
/-- deserialize of every plan -/
theorem DES (H : KEnd G) : ∀ d, DESs G d
  | 0 => fun D p n t h => absurd h (Nat.not_lt_zero _)
  | d + 1 => fun D p n t h ho hD hq ht hf => by
    have IH := DES H d
    cases p with
    | number one =>
      cases t with
      | bytes b => exact C1500 H.toKAll ho (by cases n <;> exact ht) (by omega) hq
      | _ => exact hf.elim
    | octets lo hi => exact C1567 H.toKAll (n := n) ht (by omega) hq
    | truth => exact C1598 H.toKAll ht (by omega) hq
    | row s ps => exact C1657 H IH (by rw [Plan.depth] at h; omega) ho ht hf (by omega) hq
    | many m p => exact C1693 H IH (by rw [Plan.depth] at h; omega) ho ht hf (by omega) hq
end
end Mine
end
/-! Pr16 -/
section
open PySem PySem.Calls PyProof.Rows
open PySem.W
namespace Mine
structure KU (K : Frag) : Prop where
  mo1601 : makesIn K 1601 = true
  mi1601 : findIn K (.ref 1601) "__init__" = some (some (.builtin "object.__init__"))
structure KEnd2 (G : Gb) : Prop extends KEnd G where
  u : KU G.K
section
variable {G : Gb} {S : St} {r : Rt} {g g' : Heap} {σ σ' : AS} {s s' : Shared} {k : AV → AS → Prop} {kx : AX → AS → Prop}
/-- a class without __init__ of its own, called with nothing -/
theorem CV_make0 {C : Addr} (m1 : makesIn G.K C = true) (m2 : findIn G.K (.ref C) "__init__" = some (some (.builtin "object.__init__"))) (hk : k (.obj C []) σ) : CV G S σ (.ref C) [] [] k kx := fun r g s I vs ws R1 R2 Q E hq hqx => by
  cases R1
  refine wpAny_call ?_
  obtain ⟨hh, gg, d, t, os⟩ := s
  have Y := makes_of (M := model G.prog G.w) I.KIn m1
  refine make_core Y (looks_findIn I.KIn m2) (fun self => Looks.of_pure (oi_bind self)) (.inr ⟨rfl, by simp⟩) ?_
  have hx : ((hh.push emptyDict).push (instObj C hh.objs.size)).get? (hh.objs.size + 1) = some (instObj C hh.objs.size) := by heap_get
  have hdx : ((hh.push emptyDict).push (instObj C hh.objs.size)).get? hh.objs.size = some emptyDict := Heap.get?_push_of_some _ (Heap.get?_push_size _ rfl)
  have n0 : ∀ n, hh.objs.size ≤ n → hh.get? n = none := fun n hn => by
    cases q : hh.get? n with
    | none => rfl
    | some o => exact absurd (Heap.lt_size q) (Nat.not_lt.mpr hn)
  have P1 := Post.newOwn (a := hh.objs.size + 1) (ov := .obj C hh.objs.size []) (h' := (hh.push emptyDict).push (instObj C hh.objs.size)) I (fun b o e => Heap.get?_push_of_some _ (Heap.get?_push_of_some _ e))
    (fun b hb => by
      rcases List.mem_cons.mp hb with rfl | hb
      · exact n0 _ (Nat.le_succ _)
      · rw [List.mem_singleton.mp hb]; exact n0 _ (Nat.le_refl _))
    (by simp [OV.hid]) (.obj hx (n := 0) (es := []) hdx .nil) t
  have hov := P1.inv.own.at_ (hh.objs.size + 1, .obj C hh.objs.size []) (by simp)
  have P5 := P1.inv.freeze (own := σ.own) (rest := [(hh.objs.size + 1, .obj C hh.objs.size [])]) rfl (loc' := σ.loc) fun m _ h => h
  have t1 : Looks (model G.prog G.w) ((hh.push emptyDict).push (instObj C hh.objs.size)) (typeOf (.ref (hh.objs.size + 1))) (.ref C) := (Looks.ld hx).andThen .now
  have t2 : Looks (model G.prog G.w) ((hh.push emptyDict).push (instObj C hh.objs.size)) (isInstance (.ref (hh.objs.size + 1)) (.type "object")) true := t1.andThen (Y.top.keeps fun b o e => Heap.get?_push_of_some _ (Heap.get?_push_of_some _ e))
  rw [show ((([] : List (Str × AV)).map (·.1)).zip ws) = [] from rfl]
  refine codeAny_call_builtin oi_plain entry_oi (@check_slot (model G.prog G.w) _ _ _ "object.__init__" "object" "__init__" (.ref (hh.objs.size + 1)) [] [] _ oi_kind oi_split t2 (oi_args (.ref (hh.objs.size + 1))) ?_)
  rw [oi_run]
  refine wpAny_pure (And.intro rfl (hq _ _ _ _ _ (P1.trans P5) ?_ hk))
  dsimp only at hov
  cases hov with
  | obj h1 h2 R => exact .obj (gplus_new (by simp [hid, OV.hid]) h1) (gplus_new (by simp [hid, OV.hid]) h2) (R.mono (gplus_grow P1.inv.stay))
end
section
variable {G : Gb} {D : Lv} {S : St} {σ : AS} {k : AV → AS → Prop} {kx : AX → AS → Prop}
theorem C1486 (H : KAll G) {x dx : Addr} {one : AV} (hD : D.n + 20 ≤ 900) :
    Fn G D (.ref 1486) [.own x, one] [] [(x, .obj 1503 dx [])] (fun a own' => a = .none ∧ ∃ fs, own' = [(x, .obj 1503 dx fs)] ∧ fs = [(("length" : Str), one)]) (fun _ _ => False) := by
  refine Fn_d (names := ["self", "length"]) (loc := [some (.own x), some one]) H.fns.f1486 (by show D.n < 1000; omega) (fun g s vs ws X R1 R2 => ?_) ?_
  · cases R2
    obtain _ | ⟨r1, _ | ⟨r2, _ | _⟩⟩ := R1
    rename_i v1 v2
    exact ⟨[("self", v1), ("length", v2)], fun _ _ _ _ _ => binds_dflt (tupIn.of H.g.d1479) X rfl rfl rfl, by intro y hy; simp at hy; rcases hy with rfl | rfl <;> rfl, .cons rfl r1 rfl (.cons rfl r2 rfl .nil)⟩
  · refine EX_cons (ES_AssignAttr (EV_loc 1 rfl rfl (EV_loc 0 rfl rfl ⟨x, [], [], 1503, dx, [], rfl, rfl, H.g.se1503_length, by decide, ?_⟩)))
    exact EX_nil ⟨[(x, .obj 1503 dx [("length", one)])], [], rfl, by simp [hid, OV.hid], rfl, _, rfl, rfl⟩
theorem CV_number (H : KAll G) {one : Option Nat} (hD : S.D.n + 25 ≤ 900) (h : k (Plan.number one).obj σ) : CV G S σ (.ref 1503) [optI one] [] k kx :=
  CV_make (D := S.D.up) (K := fun fs => fs = [(("length" : Str), optI one)]) H.g.m1503 ⟨Nat.le_refl _, id⟩ (fun x dx => C1486 H (by show S.D.n + 1 + 20 ≤ 900; omega)) fun fs e => by subst e; rw [Plan.obj] at h; exact h
theorem C1525 (H : KAll G) {x dx : Addr} {lo : Nat} {hi : AV} (hD : D.n + 20 ≤ 900) :
    Fn G D (.ref 1525) [.own x, .int lo, hi] [] [(x, .obj 1570 dx [])] (fun a own' => a = .none ∧ ∃ fs, own' = [(x, .obj 1570 dx fs)] ∧ fs = [(("min_length" : Str), .int lo), ("max_length", hi), ("allow_empty", .bool false)]) (fun _ _ => False) := by
  refine Fn_d (names := ["self", "min_length", "max_length", "allow_empty"]) (loc := [some (.own x), some (.int lo), some hi, some (.bool false)]) H.fns.f1525 (by show D.n < 1000; omega) (fun g s vs ws X R1 R2 => ?_) ?_
  · cases R2
    obtain _ | ⟨r1, _ | ⟨r2, _ | ⟨r3, _ | _⟩⟩⟩ := R1
    rename_i v1 v2 v3
    exact ⟨[("self", v1), ("min_length", v2), ("max_length", v3), ("allow_empty", .bool false)], fun _ _ _ _ _ => binds_dflt (tupIn.of H.g.d1518) X rfl rfl rfl, by intro y hy; simp at hy; rcases hy with rfl | rfl | rfl | rfl <;> rfl, .cons rfl r1 rfl (.cons rfl r2 rfl (.cons rfl r3 rfl (.cons rfl (.bool _) rfl .nil)))⟩
  · have rest : ∀ {σ : AS}, σ = ⟨[some (.own x), some (.int lo), some hi, some (.bool false)], [(x, .obj 1570 dx [("min_length", .int lo)])]⟩ → EX G ⟨"Binary.__init__", sc1525, 1525, .ref 1524, ["self", "min_length", "max_length", "allow_empty"], D.up, false⟩ σ ((defBody d1525).drop 1) (EndF [(x, .obj 1570 dx [])] fun a own' => a = .none ∧ ∃ fs, own' = [(x, .obj 1570 dx fs)] ∧ fs = [(("min_length" : Str), .int lo), ("max_length", hi), ("allow_empty", .bool false)]) (EndX [(x, .obj 1570 dx [])] fun _ _ => False) := by
      rintro σ rfl
      refine EX_cons (ES_AssignAttr (EV_loc 2 rfl rfl (EV_loc 0 rfl rfl ⟨x, [], [], 1570, dx, _, rfl, rfl, H.g.se1570_max_length, (show (1 : Nat) < 900 by decide), ?_⟩)))
      refine EX_cons (ES_AssignAttr (EV_loc 3 rfl rfl (EV_loc 0 rfl rfl ⟨x, [], [], 1570, dx, _, rfl, rfl, H.g.se1570_allow_empty, (show (2 : Nat) < 900 by decide), ?_⟩)))
      exact EX_nil ⟨[(x, .obj 1570 dx [("min_length", .int lo), ("max_length", hi), ("allow_empty", .bool false)])], [], rfl, by simp [hid, OV.hid], rfl, _, rfl, rfl⟩
    refine EX_cons (ES_AssignAttr (EV_Or2 (EV_loc 1 rfl rfl (TU_int ?_))))
    by_cases h0 : lo = 0
    · subst h0
      exact EV_int (EV_loc 0 rfl rfl ⟨x, [], [], 1570, dx, [], rfl, rfl, H.g.se1570_min_length, by decide, rest rfl⟩)
    · rw [show ((lo : Int) != 0) = true from by simpa using h0]
      exact EV_loc 0 rfl rfl ⟨x, [], [], 1570, dx, [], rfl, rfl, H.g.se1570_min_length, by decide, rest rfl⟩
theorem CV_octets (H : KAll G) {lo : Nat} {hi : Option Nat} (hD : S.D.n + 25 ≤ 900) (h : k (Plan.octets lo hi).obj σ) : CV G S σ (.ref 1570) [.int lo, optI hi] [] k kx :=
  CV_make (D := S.D.up) (K := fun fs => fs = [(("min_length" : Str), .int lo), ("max_length", optI hi), ("allow_empty", .bool false)]) H.g.m1570 ⟨Nat.le_refl _, id⟩ (fun x dx => C1525 H (by show S.D.n + 1 + 20 ≤ 900; omega)) fun fs e => by subst e; rw [Plan.obj] at h; exact h
theorem CV_truth (H : KEnd2 G) (h : k Plan.truth.obj σ) : CV G S σ (.ref 1601) [] [] k kx := CV_make0 H.u.mo1601 H.u.mi1601 (by rw [Plan.obj] at h; exact h)
theorem C1679 (H : KAll G) {x dx : Addr} {e m : AV} (hD : D.n + 20 ≤ 900) :
    Fn G D (.ref 1679) [.own x, e] [("max_length", m)] [(x, .obj 1696 dx [])] (fun a own' => a = .none ∧ ∃ fs, own' = [(x, .obj 1696 dx fs)] ∧ fs = [(("element_sedes" : Str), e), ("max_length", m)]) (fun _ _ => False) := by
  refine Fn_d (names := ["self", "element_sedes", "max_length"]) (loc := [some (.own x), some e, some m]) H.fns.f1679 (by show D.n < 1000; omega) (fun g s vs ws X R1 R2 => ?_) ?_
  · obtain _ | ⟨r3, _ | _⟩ := R2
    obtain _ | ⟨r1, _ | ⟨r2, _ | _⟩⟩ := R1
    rename_i v3 v1 v2
    exact ⟨[("self", v1), ("element_sedes", v2), ("max_length", v3)], fun _ _ _ _ _ => binds_dflt (tupIn.of H.g.d1672) X rfl rfl rfl, by intro y hy; simp at hy; rcases hy with rfl | rfl | rfl <;> rfl, .cons rfl r1 rfl (.cons rfl r2 rfl (.cons rfl r3 rfl .nil))⟩
  · refine EX_cons (ES_AssignAttr (EV_loc 1 rfl rfl (EV_loc 0 rfl rfl ⟨x, [], [], 1696, dx, [], rfl, rfl, H.g.se1696_element_sedes, by decide, ?_⟩)))
    refine EX_cons (ES_AssignAttr (EV_loc 2 rfl rfl (EV_loc 0 rfl rfl ⟨x, [], [], 1696, dx, _, rfl, rfl, H.g.se1696_max_length, (show (1 : Nat) < 900 by decide), ?_⟩)))
    exact EX_nil ⟨[(x, .obj 1696 dx [("element_sedes", e), ("max_length", m)])], [], rfl, by simp [hid, OV.hid], rfl, _, rfl, rfl⟩
theorem CV_many (H : KAll G) {m : Option Nat} {p : Plan} (hD : S.D.n + 25 ≤ 900) (h : k (Plan.many m p).obj σ) : CV G S σ (.ref 1696) [p.obj] [("max_length", optI m)] k kx :=
  CV_make (D := S.D.up) (K := fun fs => fs = [(("element_sedes" : Str), p.obj), ("max_length", optI m)]) H.g.m1696 ⟨Nat.le_refl _, id⟩ (fun x dx => C1679 H (by show S.D.n + 1 + 20 ≤ 900; omega)) fun fs e => by subst e; rw [Plan.obj] at h; exact h
/-- is_sedes of a sedes -/
theorem C1614 (H : KAll G) {p : Plan} (hD : D.n + 20 ≤ 900) : Fn G D (.ref 1614) [p.obj] [] [] (fun a own' => own' = [] ∧ a = .bool true) (fun _ _ => False) := by
  refine Fn_d (names := ["obj"]) (loc := [some p.obj]) H.fns.f1614 (by show D.n < 1000; omega) (bind1 (fun _ _ _ _ _ _ => rfl) rfl rfl) ?_
  refine EX_cons (ES_Return (EV_bcall rfl H.g.b_isinstance bb_isinstance rfl (by decide) (EL_cons (EV_loc 0 rfl rfl (EL_cons (EV_Tuple ?_))))))
  refine EL_cons (EV_glob rfl H.g.g_BigEndianInt (EL_cons (EV_glob rfl H.g.g_Binary (EL_cons (EV_glob rfl H.g.g_Boolean (EL_cons (EV_glob rfl H.g.g_List (EL_cons (EV_glob rfl H.g.g_CountableList (EL_nil ⟨(show (5 : Nat) ≤ sizeLine by decide), ?_⟩))))))))))
  refine EL_nil ?_
  have go : ∀ {C : Addr} {fs : List (Str × AV)}, ownCls G.K C = true → kitAny G.K (.ref C) [.ref 1503, .ref 1570, .ref 1601, .ref 1660, .ref 1696] = some true → CV G ⟨"is_sedes", sc1614, 1614, .ref 1613, ["obj"], D.up, false⟩ ⟨[some (.obj C fs)], []⟩ (.builtin "isinstance") [.obj C fs, .tuple ([.ref 1503, .ref 1570, .ref 1601, .ref 1660, .ref 1696].map .v)] [] (fun a σ1 => flowOn G ⟨"is_sedes", sc1614, 1614, .ref 1613, ["obj"], D.up, false⟩ [] (EndF [] fun a own' => own' = [] ∧ a = .bool true) (EndX [] fun _ _ => False) (.ret a) σ1) (EndX [] fun _ _ => False) := by
    intro C fs h1 h2
    exact CV_isi_obj h1 h2 ⟨[], _, rfl, List.Subset.refl _, rfl, rfl⟩
  cases p <;> rw [Plan.obj]
  · exact go H.g.oc1503 H.g.ia1503
  · exact go H.g.oc1570 H.g.ia1570
  · exact go H.g.oc1601 H.g.ia1601
  · exact go H.g.oc1660 H.g.ia1660
  · exact go H.g.oc1696 H.g.ia1696
theorem C1636 (H : KAll G) {x dx : Addr} {ps : List Plan} {s : AV} (hz : ps.length ≤ 3) (hD : D.n + 30 ≤ 900) (hq : D.q = true) :
    Fn G D (.ref 1636) [.own x, .list (plansObj ps)] [("strict", s)] [(x, .obj 1660 dx [])] (fun a own' => a = .none ∧ ∃ L1 ds fs, own' = [(x, .obj 1660 dx (("parts", .own L1) :: fs)), (L1, .list ds)] ∧ ds = plansObj ps ∧ fs = [(("strict" : Str), s)]) (fun _ _ => False) := by
  refine Fn_d (names := ["self", "elements", "strict", "e"]) (loc := [some (.own x), some (.list (plansObj ps)), some s, none]) H.fns.f1636 (by show D.n < 1000; omega) (fun g s vs ws X R1 R2 => ?_) ?_
  · obtain _ | ⟨r3, _ | _⟩ := R2
    obtain _ | ⟨r1, _ | ⟨r2, _ | _⟩⟩ := R1
    rename_i v3 v1 v2
    exact ⟨[("self", v1), ("elements", v2), ("strict", v3)], fun _ _ _ _ _ => binds_dflt (tupIn.of H.g.d1629) X rfl rfl rfl, by intro y hy; simp at hy; rcases hy with rfl | rfl | rfl <;> rfl, .cons rfl r1 rfl (.cons rfl r2 rfl (.cons rfl r3 rfl (.skip .nil)))⟩
  · have hq' : D.up.q = true := hq
    have hD' : D.up.n + 20 ≤ 900 := by show D.n + 1 + 20 ≤ 900; omega
    have hzz : sizeLine = 16777216 := rfl
    refine EX_cons (ES_AssignAttr (EV_ListOwn (EL_nil ⟨by decide, fun L1 => EV_loc 0 rfl rfl ⟨x, [], [(L1, .list [])], 1660, dx, [], rfl, rfl, H.g.se1660_parts, by decide, ?_⟩⟩)))
    refine EX_cons (ES_AssignAttr (EV_loc 2 rfl rfl (EV_loc 0 rfl rfl ⟨x, [], [(L1, .list [])], 1660, dx, _, rfl, rfl, H.g.se1660_strict, (show (1 : Nat) < 900 by decide), ?_⟩)))
    refine EX_cons (ES_If (TV_value (EV_loc 1 rfl rfl (TU_list (by rw [plansObj_length]; omega) ?_))))
    have fin : ∀ {σ : AS}, σ.own = [(x, .obj 1660 dx [("parts", .own L1), ("strict", s)]), (L1, .list (plansObj ps))] → EX G ⟨"List.__init__", sc1636, 1636, .ref 1635, ["self", "elements", "strict", "e"], D.up, false⟩ σ [] (EndF [(x, .obj 1660 dx [])] fun a own' => a = .none ∧ ∃ L1 ds fs, own' = [(x, .obj 1660 dx (("parts", .own L1) :: fs)), (L1, .list ds)] ∧ ds = plansObj ps ∧ fs = [(("strict" : Str), s)]) (EndX [(x, .obj 1660 dx [])] fun _ _ => False) := by
      intro σ hσ
      exact EX_nil ⟨σ.own, [], by rw [List.append_nil], by rw [hσ]; intro b hb; simp [hid, OV.hid] at hb ⊢; rcases hb with rfl | rfl <;> simp, rfl, L1, _, _, hσ, rfl, rfl⟩
    cases hps : plansObj ps with
    | nil =>
      rw [hps] at fin
      exact EX_nil (fin rfl)
    | cons e0 es =>
      rw [← hps, show decide (plansObj ps ≠ []) = true from by rw [hps]; simp]
      refine EX_cons (ES_For rfl (IE_of1 (IE1_list hq' (EV_loc 1 rfl rfl ⟨plansObj ps, rfl, ?_⟩))))
      let J : Nat → AS → Prop := fun i σ => ∃ a, σ = ⟨[some (.own x), some (.list (plansObj ps)), some s, a], [(x, .obj 1660 dx [("parts", .own L1), ("strict", s)]), (L1, .list ((plansObj ps).take i))]⟩
      refine ⟨J, ⟨_, rfl⟩, ?_, ?_⟩
      · rintro i it σi hit ⟨a, rfl⟩
        rw [List.getElem?_map, Option.map_eq_some_iff] at hit
        obtain ⟨po, hpo, rfl⟩ := hit
        obtain ⟨p, hp, rfl⟩ : ∃ p, ps[i]? = some p ∧ po = p.obj := by
          have hi : i < ps.length := by rw [← plansObj_length]; exact (List.getElem?_eq_some_iff.mp hpo).1
          refine ⟨ps[i], List.getElem?_eq_getElem hi, ?_⟩
          rw [plansObj_get (List.getElem?_eq_getElem hi)] at hpo
          exact (Option.some.inj hpo).symm
        refine AI_one (AG_Name 3 rfl rfl ?_)
        refine EX_cons (ES_If (TV_value (EV_gcall rfl H.g.g_is_sedes H.g.kf1614 (EL_cons (EV_loc 3 rfl rfl (EL_nil (CV_fn0 (C1614 H hD').noX (K := fun v => v = .bool true) (KX := fun _ => False) (fun v hv => ?_) fun _ z => z.elim)))))))
        subst hv
        refine TU_bool ?_
        refine EX_cons (ES_Expr (EV_Meth (EV_Attribute (EV_loc 0 rfl rfl (GA_ownobj (C := 1660) (dx := dx) (fs := [("parts", .own L1), ("strict", s)]) (.head _) rfl H.g.at1660_parts rfl ⟨.builtin "list.append", _, rfl, GM_append (ds := (plansObj ps).take i) (.tail _ (.head _)), ?_⟩)))))
        refine EL_cons (EV_loc 3 rfl rfl (EL_nil (CV_append (own := [(x, .obj 1660 dx [("parts", .own L1), ("strict", s)])]) (rest := []) rfl (by rw [List.length_take, plansObj_length]; omega) ?_)))
        refine EX_nil (EX_nil ⟨some p.obj, ?_⟩)
        rw [List.take_add_one, hpo]
        rfl
      · rintro σn ⟨a, rfl⟩
        refine EX_nil (fin ?_)
        rw [List.length_map, List.take_length]
theorem CV_row (H : KAll G) {s : Bool} {ps : List Plan} (hz : ps.length ≤ 3) (hD : S.D.n + 35 ≤ 900) (hq : S.D.q = true) (h : k (Plan.row s ps).obj σ) : CV G S σ (.ref 1660) [.list (plansObj ps)] [("strict", .bool s)] k kx :=
  CV_makeL (D := S.D.up) (f := "parts") (K := fun ds fs => ds = plansObj ps ∧ fs = [(("strict" : Str), .bool s)]) H.g.m1660 ⟨Nat.le_refl _, id⟩ (fun x dx => C1636 H hz (by show S.D.n + 1 + 30 ≤ 900; omega) hq) fun ds fs e => by obtain ⟨rfl, rfl⟩ := e; rw [Plan.obj] at h; exact h
end
end Mine
end
/-! Pr17 -/
section
open PySem PySem.Calls PyProof.Rows
open PySem.W
namespace Mine
theorem lookup_mem {α : Type} {β : Type} [BEq α] [LawfulBEq α] {y : α} {k : β} : ∀ {l : List (α × β)}, l.lookup y = some k → (y, k) ∈ l
  | [], h => by cases h
  | (z, j) :: r, h => by
    rw [List.lookup_cons] at h
    cases e : y == z with
    | true => rw [e] at h; cases h; rw [beq_iff_eq.mp e]; exact .head _
    | false => rw [e] at h; exact .tail _ (lookup_mem h)
/-- the scope of a comprehension that reads no cell -/
theorem ScopeOk.plain {S : St} {scope : Scope} {x : Str} (hx : scope.names.lookup x = some .local) (kind : scope.kind = .function := by rfl) (hc : scope.names.all (fun p => p.2 != .cell && p.2 != .free) = true := by decide)
    (hl : scope.names.all (fun p => p.2 != .local || scope.names.lookup p.1 == some .local) = true := by decide) (hcl : ∀ env, closureFor scope env = pure [] := by intro env; rfl) : ScopeOk S scope x [] := by
  have nf : ∀ y, scope.names.lookup y ≠ some .free := fun y h => by
    have := List.all_eq_true.mp hc _ (lookup_mem h)
    simp at this
  refine ⟨hx, kind, fun y hy => ?_, fun y hy h => ?_, by simp, fun env _ => ⟨[], hcl env, fun y h => absurd h (nf y)⟩, fun y h => absurd h (nf y)⟩
  · have := List.all_eq_true.mp hc _ hy
    simp at this
    exact this.1
  · have := List.all_eq_true.mp hl _ hy
    rw [h] at this
    simpa using this
theorem CapOk.plain {S : St} {loc : List (Option AV)} {scope : Scope} (hc : scope.names.all (fun p => p.2 != .cell && p.2 != .free) = true := by decide) : CapOk S loc scope [] [] := by
  refine ⟨fun i y a h => by simp at h, fun y h => ?_⟩
  have := List.all_eq_true.mp hc _ (lookup_mem h)
  simp at this
def LSs (G : Gb) (d : Nat) : Prop := ∀ (D : Lv) (p : Plan), p.depth < d → p.ok → D.n + 40 + 30 * d ≤ 900 → D.q = true → Fn G D (.ref 1780) [p.av] [] [] (fun a own' => own' = [] ∧ a = p.obj) (fun _ _ => False)
section
variable {G : Gb}
theorem LS (H : KEnd2 G) : ∀ d, LSs G d
  | 0 => fun D p h => absurd h (Nat.not_lt_zero _)
  | d + 1 => fun D p h ho hD hq => by
    have IH := LS H d
    have H' := H.toKAll
    have hD' : D.up.n + 35 ≤ 900 := by show D.n + 1 + 35 ≤ 900; omega
    have hq' : D.up.q = true := hq
    have hzz : sizeLine = 16777216 := rfl
    refine Fn_d (names := ["plan", "kind", "one", "two"]) (loc := [some p.av, none, none, none]) H.fns.f1780 (by show D.n < 1000; omega) (bind1 (fun _ _ _ _ _ _ => rfl) rfl rfl) ?_
    refine EX_cons (ES_Assign_Tuple (EV_loc 0 rfl rfl ?_))
    have split : ∀ {σ : AS} {ts : List Expr} {u : Nat} {q : Pos} {a b c : AV} {k : Unit → AS → Prop} {kx : AX → AS → Prop} {S : St}, S.D.q = true → AGs G S k kx ts [a, b, c] σ → ts.length = 3 → plains ts = true → p.av = .tuple [a, b, c] → AG G S σ (.Tuple ts u q) p.av k kx := by
      intro σ ts u q a b c k kx S hS h hl hp e
      rw [e]
      exact AG_Tuple hS h hl hp
    cases p with
    | number one =>
      refine split hq' ⟨rfl, AG_Name 1 rfl rfl ⟨rfl, AG_Name 2 rfl rfl ⟨rfl, AG_Name 3 rfl rfl ?_⟩⟩⟩ rfl rfl (by rw [Plan.av])
      refine EX_cons (ES_If (TV_Compare (EV_loc 1 rfl rfl (EV_str (CO_str_eq (TU_bool ?_))))))
      exact EX_cons (ES_Return (EV_gcall rfl H.g.g_BigEndianInt H.g.k1503 (EL_cons (EV_loc 2 rfl rfl (EL_nil (CV_number H' (by show D.n + 1 + 25 ≤ 900; omega) ⟨[], _, rfl, List.Subset.refl _, rfl, rfl⟩))))))
    | octets lo hi =>
      refine split hq' ⟨rfl, AG_Name 1 rfl rfl ⟨rfl, AG_Name 2 rfl rfl ⟨rfl, AG_Name 3 rfl rfl ?_⟩⟩⟩ rfl rfl (by rw [Plan.av])
      refine EX_cons (ES_If (TV_Compare (EV_loc 1 rfl rfl (EV_str (CO_str_eq (TU_bool ?_))))))
      refine EX_nil ?_
      refine EX_cons (ES_If (TV_Compare (EV_loc 1 rfl rfl (EV_str (CO_str_eq (TU_bool ?_))))))
      exact EX_cons (ES_Return (EV_gcall rfl H.g.g_Binary H.g.k1570 (EL_cons (EV_loc 2 rfl rfl (EL_cons (EV_loc 3 rfl rfl (EL_nil (CV_octets H' (by show D.n + 1 + 25 ≤ 900; omega) ⟨[], _, rfl, List.Subset.refl _, rfl, rfl⟩))))))))
    | truth =>
      refine split hq' ⟨rfl, AG_Name 1 rfl rfl ⟨rfl, AG_Name 2 rfl rfl ⟨rfl, AG_Name 3 rfl rfl ?_⟩⟩⟩ rfl rfl (by rw [Plan.av])
      refine EX_cons (ES_If (TV_Compare (EV_loc 1 rfl rfl (EV_str (CO_str_eq (TU_bool ?_))))))
      refine EX_nil ?_
      refine EX_cons (ES_If (TV_Compare (EV_loc 1 rfl rfl (EV_str (CO_str_eq (TU_bool ?_))))))
      refine EX_nil ?_
      refine EX_cons (ES_If (TV_Compare (EV_loc 1 rfl rfl (EV_str (CO_str_eq (TU_bool ?_))))))
      exact EX_cons (ES_Return (EV_gcall rfl H.g.g_Boolean H.g.k1601 (EL_nil (CV_truth H ⟨[], _, rfl, List.Subset.refl _, rfl, rfl⟩))))
    | row s ps =>
      obtain ⟨ho1, ho2, ho3⟩ := ho
      rw [Plan.depth] at h
      refine split hq' ⟨rfl, AG_Name 1 rfl rfl ⟨rfl, AG_Name 2 rfl rfl ⟨rfl, AG_Name 3 rfl rfl ?_⟩⟩⟩ rfl rfl (by rw [Plan.av])
      refine EX_cons (ES_If (TV_Compare (EV_loc 1 rfl rfl (EV_str (CO_str_eq (TU_bool ?_))))))
      refine EX_nil ?_
      refine EX_cons (ES_If (TV_Compare (EV_loc 1 rfl rfl (EV_str (CO_str_eq (TU_bool ?_))))))
      refine EX_nil ?_
      refine EX_cons (ES_If (TV_Compare (EV_loc 1 rfl rfl (EV_str (CO_str_eq (TU_bool ?_))))))
      refine EX_nil ?_
      refine EX_cons (ES_Return (EV_IfExp (TV_Compare (EV_loc 1 rfl rfl (EV_str (CO_str_eq (TU_bool ?_)))))))
      refine EV_CallKw H.g.k1660 (EV_glob rfl H.g.g_List ⟨rfl, EL_cons (EV_ListComp rfl (ScopeOk.plain rfl) CapOk.plain (IE1_list hq' (EV_loc 3 rfl rfl ⟨plansAv ps, rfl, plansAv ps, rfl, by rw [plansAv_length]; omega, CapOk.plain, ?_⟩)))⟩)
      refine ⟨fun i ys own => own = [] ∧ ys = (plansObj ps).take i, ⟨rfl, rfl⟩, ?_, ?_⟩
      · rintro i a ys own ha ⟨rfl, rfl⟩
        obtain ⟨p, hp, rfl⟩ : ∃ p, ps[i]? = some p ∧ a = p.av := by
          have hi : i < ps.length := by rw [← plansAv_length]; exact (List.getElem?_eq_some_iff.mp ha).1
          refine ⟨ps[i], List.getElem?_eq_getElem hi, ?_⟩
          rw [plansAv_get (List.getElem?_eq_getElem hi)] at ha
          exact (Option.some.inj ha).symm
        have hpd := plansDepth_get hp
        refine EV_gcall rfl H.g.g_law_sedes H.g.kf1780 (EL_cons (EV_loc 0 rfl rfl (EL_nil (CV_fn0 (IH D.up p (by omega) (plansOk_get ho3 hp) (by show D.n + 1 + 40 + 30 * d ≤ 900; omega) hq).noX (K := fun v => v = p.obj) (KX := fun _ => False) (fun v hv => ?_) fun _ z => z.elim))))
        subst hv
        refine ⟨rfl, ?_⟩
        rw [List.take_add_one, plansObj_get hp]
        rfl
      · rintro ys own ⟨rfl, rfl⟩
        rw [plansAv_length, ← plansObj_length, List.take_length]
        exact EL_nil (EK_cons (EV_loc 2 rfl rfl (EK_nil ⟨rfl, CV_row H' ho2 hD' hq' ⟨[], _, rfl, List.Subset.refl _, rfl, rfl⟩⟩)))
    | many m p =>
      rw [Plan.depth] at h
      refine split hq' ⟨rfl, AG_Name 1 rfl rfl ⟨rfl, AG_Name 2 rfl rfl ⟨rfl, AG_Name 3 rfl rfl ?_⟩⟩⟩ rfl rfl (by rw [Plan.av])
      refine EX_cons (ES_If (TV_Compare (EV_loc 1 rfl rfl (EV_str (CO_str_eq (TU_bool ?_))))))
      refine EX_nil ?_
      refine EX_cons (ES_If (TV_Compare (EV_loc 1 rfl rfl (EV_str (CO_str_eq (TU_bool ?_))))))
      refine EX_nil ?_
      refine EX_cons (ES_If (TV_Compare (EV_loc 1 rfl rfl (EV_str (CO_str_eq (TU_bool ?_))))))
      refine EX_nil ?_
      refine EX_cons (ES_Return (EV_IfExp (TV_Compare (EV_loc 1 rfl rfl (EV_str (CO_str_eq (TU_bool ?_)))))))
      refine EV_CallKw H.g.k1696 (EV_glob rfl H.g.g_CountableList ⟨rfl, EL_cons (EV_gcall rfl H.g.g_law_sedes H.g.kf1780 (EL_cons (EV_loc 3 rfl rfl (EL_nil (CV_fn0 (IH D.up p (by omega) ho.2 (by show D.n + 1 + 40 + 30 * d ≤ 900; omega) hq).noX (K := fun v => v = p.obj) (KX := fun _ => False) (fun v hv => ?_) fun _ z => z.elim)))))⟩)
      subst hv
      exact EL_nil (EK_cons (EV_loc 2 rfl rfl (EK_nil ⟨rfl, CV_many H' (by show D.n + 1 + 25 ≤ 900; omega) ⟨[], _, rfl, List.Subset.refl _, rfl, rfl⟩⟩)))
end
end Mine
end
/-! Pr18 -/
section
open PySem PySem.Calls PyProof.Rows
open PySem.W
namespace Mine
theorem bind3 {G : Gb} {d : Stmt} {qual : Str} {sc : Scope} {cl : List (Str × Addr)} {dV cdv : Value} {n1 n2 n3 : Str} {a1 a2 a3 : AV} {more : List Str} {ml : List (Option AV)} (hb : ∀ kV doc pm an ct v1 v2 v3, bindArgs (fnX (defName d) qual (defArgs d) (defBody d) sc cl dV kV doc pm an cdv ct) ⟨[v1, v2, v3], []⟩ = pure [(n1, v1), (n2, v2), (n3, v3)]) (h1 : sc.names.lookup n1 = some .local) (h2 : sc.names.lookup n2 = some .local) (h3 : sc.names.lookup n3 = some .local) (hne : (n1 == n2) = false) (hne2 : (n1 == n3) = false) (hne3 : (n2 == n3) = false) (hmore : ml = more.map fun _ => none) : Binds G d qual sc cl dV cdv [a1, a2, a3] [] (n1 :: n2 :: n3 :: more) (some a1 :: some a2 :: some a3 :: ml) := by
  intro g s vs ws X R1 R2
  cases R2
  obtain _ | ⟨r1, _ | ⟨r2, _ | ⟨r3, _ | _⟩⟩⟩ := R1
  rename_i v1 v2 v3
  refine ⟨[(n1, v1), (n2, v2), (n3, v3)], fun kV doc pm an ct => .of_eq (hb kV doc pm an ct v1 v2 v3), ?_, ?_⟩
  · intro y hy
    simp at hy
    rcases hy with rfl | rfl | rfl <;> assumption
  · have e1 : (n2 == n1) = false := by rw [BEq.comm]; exact hne
    have e2 : (n3 == n1) = false := by rw [BEq.comm]; exact hne2
    have e3 : (n3 == n2) = false := by rw [BEq.comm]; exact hne3
    refine .cons (by simp [List.lookup_cons, hne2, hne]) r1 h1 (.cons (by simp [List.lookup_cons, hne3]) r2 h2 (.cons (by simp) r3 h3 ?_))
    rw [hmore]
    clear hmore
    induction more with
    | nil => exact .nil
    | cons x xs ih => exact .skip ih
section
variable {G : Gb} {D : Lv}
theorem C1797 (H : KAll G) {w m : Str} {i : Nat} (hw : w.length ≤ 20) (hm : m.length ≤ 10000) (hi : i < 1000000) (hD : D.n + 20 ≤ 900) : Fn G D (.ref 1797) [.str w, .int i, .str m] [] [] (fun a own' => own' = [] ∧ a = .str (wrapped w i m)) (fun _ _ => False) := by
  refine Fn_d (names := ["word", "k", "words"]) (loc := [some (.str w), some (.int i), some (.str m)]) H.fns.f1797 (by show D.n < 1000; omega) (bind3 (fun _ _ _ _ _ _ _ _ => rfl) rfl rfl rfl rfl rfl rfl rfl) ?_
  have hd := dig_len hi
  have hz : sizeLine = 16777216 := rfl
  have e1 : (" failed because of element at index " : Str).length ≤ 40 := by decide
  have e2 : (" (\"" : Str).length ≤ 4 := by decide
  have e3 : ("\")" : Str).length ≤ 4 := by decide
  refine EX_cons (ES_Return (EV_BinOp (EV_BinOp (EV_BinOp (EV_BinOp (EV_BinOp (EV_loc 0 rfl rfl (EV_str (BO_str (by omega) ?_)))))))))
  refine EV_bcall rfl H.g.b_str bb_str rfl (by decide) (EL_cons (EV_loc 1 rfl rfl (EL_nil (CV_str_int (small_log hi) (BO_str (by rw [str_app_len]; omega) (EV_str (BO_str (by rw [str_app_len, str_app_len]; omega) (EV_loc 2 rfl rfl (BO_str (by rw [str_app_len, str_app_len, str_app_len]; omega) (EV_str (BO_str (by rw [str_app_len, str_app_len, str_app_len, str_app_len]; omega) ?_)))))))))))
  exact ⟨[], _, rfl, List.Subset.refl _, rfl, rfl⟩
end
end Mine
end
/-! Pr19 -/
section
open PySem PySem.Calls PyProof.Rows
open PySem.W
namespace Mine
def LWs (G : Gb) (d : Nat) : Prop := ∀ (D : Lv) (p : Plan) (n : Nat) (t : AV), p.depth < d → p.ok → D.n + 40 + 30 * d ≤ 900 → D.q = true → thOk n t → Fn G D (.ref 1804) [p.av, t] [] [] (fun a own' => own' = [] ∧ a = .tuple [(written p t).1, .str (written p t).2]) (fun _ _ => False)
theorem replicate_flat {α : Type} (x : α) : ∀ n : Nat, (List.replicate n [x]).flatten = List.replicate n x
  | 0 => rfl
  | n + 1 => by rw [List.replicate_succ, List.flatten_cons, replicate_flat x n, List.replicate_succ]; rfl
theorem noPylong (a : Int) : Builtin.divisionGoesByPylong a 256 = false := by
  unfold Builtin.divisionGoesByPylong
  show (decide ((if ((256 : Int) == 0) = true then 0 else (256 : Int).natAbs.log2 / 30 + 1) > 300) && _) = false
  rw [show decide ((if ((256 : Int) == 0) = true then 0 else (256 : Int).natAbs.log2 / 30 + 1) > 300) = false from by decide]
  rfl
theorem optI_none (o : Option Nat) : (optI o).isNone = o.isNone := by cases o <;> rfl
abbrev S1804 (D : Lv) : St := ⟨"_law_written", sc1804, 1804, .ref 1803, ["plan", "thing", "kind", "one", "two", "digits", "parts", "found", "k", "part", "words"], D.up, false⟩
abbrev kW (w : AV × Str) : AF → AS → Prop := EndF [] fun a own' => own' = [] ∧ a = .tuple [w.1, .str w.2]
abbrev xW : AX → AS → Prop := EndX [] fun _ _ => False
theorem retW {w : AV × Str} {σ : AS} {a : AV} (h : a = .tuple [w.1, .str w.2]) : kW w (.ret a) σ := ⟨[], σ.own, rfl, List.Subset.refl _, rfl, h⟩
section
variable {G : Gb} {D : Lv}
theorem EV_orZero {S : St} {σ : AS} {k : AV → AS → Prop} {kx : AX → AS → Prop} {one : Option Nat} {e : Expr} {u : Nat} {p p1 : Pos} (h : EV G S σ e (fun a σ1 => a = optI one ∧ k (.int ((one.getD 0 : Nat) : Int)) σ1) kx) : EV G S σ (.BoolOp .Or [e, .Constant (.int 0) u p1] p) k kx := by
  refine EV_Or2 (TrA.mono h (fun a σ1 q => ?_) fun _ _ z => z)
  obtain ⟨rfl, q⟩ := q
  cases one with
  | none => exact TU_none (EV_int q)
  | some n =>
    refine TU_int ?_
    cases n with
    | zero => exact EV_int q
    | succ n => exact q
/-- return (None, words) -/
theorem ES_none {S : St} {σ : AS} {kf : AF → AS → Prop} {kx : AX → AS → Prop} {m : Str} {u u1 u2 : Nat} {p p1 p2 p3 : Pos} (h : kf (.ret (.tuple [.none, .str m])) σ) : ES G S σ (.Return (some (.Tuple [.Constant .none u1 p1, .Constant (.str m) u2 p2] u p3)) p) kf kx :=
  ES_Return (EV_Tuple (EL_cons (EV_none (EL_cons (EV_str (EL_nil ⟨(show (2 : Nat) ≤ sizeLine by decide), h⟩))))))
theorem W_number (H : KEnd2 G) {one : Option Nat} {n : Nat} {t : AV} (ho : (Plan.number one).ok) (ht : thOk n t) (hD : D.n + 40 ≤ 900) (hq : D.q = true) : EX G (S1804 D) ⟨[some (Plan.number one).av, some t, some (.str "number"), some (optI one), some .none, none, none, none, none, none, none], []⟩ ((defBody d1804).drop 1) (kW (written (.number one) t)) xW := by
  obtain ⟨T, hT⟩ := thOk_ty ht
  have H' := H.toKAll
  have hq' : D.up.q = true := hq
  have hzz : sizeLine = 16777216 := rfl
  refine EX_cons (ES_If (TV_Compare (EV_loc 2 rfl rfl (EV_str (CO_str_eq (TU_bool ?_))))))
  refine EX_cons (ES_If (TV_num H' 1 rfl rfl hT rfl rfl rfl ?_))
  cases hI : isInt t with
  | false =>
    have hw : written (.number one) t = (AV.none, ("Can only serialize integers" : Str)) := by cases t <;> first | (simp only [written]; done) | cases hI
    rw [hw]
    exact EX_cons (ES_none (retW rfl))
  | true =>
  obtain ⟨i, rfl⟩ : ∃ i, t = .int i := by cases t <;> first | exact ⟨_, rfl⟩ | cases hI
  obtain ⟨lo, hi⟩ : -1 ≤ i ∧ i ≤ 70000 := by cases n <;> exact ht
  have hone : one.getD 0 ≤ 2 := by
    cases one with
    | none => decide
    | some m => rcases ho m rfl with rfl | rfl <;> decide
  refine EX_nil ?_
  show EX _ _ _ _ _ _
  have rest : ∀ {kf : AF → AS → Prop}, (∀ a σ, kW (written (.number one) (.int i)) (.ret a) σ → kf (.ret a) σ) → big one i = false → EX G (S1804 D) ⟨[some (Plan.number one).av, some (.int i), some (.str "number"), some (optI one), some .none, none, none, none, none, none, none], []⟩ ((match ((defBody d1804).drop 1).headD default with | .If _ b _ _ => b | _ => []).drop 2) kf xW := by
    intro kf hkf hbig
    refine EX_cons (ES_If (TV_Compare (EV_loc 1 rfl rfl (EV_int (CO_lt (TU_bool ?_))))))
    by_cases hneg : i < 0
    · rw [decide_eq_true hneg]
      exact EX_cons (ES_none (hkf _ _ (retW (by rw [written, hbig, if_neg (by decide), if_pos hneg]))))
    · rw [decide_eq_false hneg]
      refine EX_nil ?_
      obtain ⟨a, rfl⟩ : ∃ a : Nat, i = a := ⟨i.toNat, by omega⟩
      have hw : written (.number one) (.int (a : Int)) = (AV.bytes (numB one a), ("" : Str)) := by
        rw [written, hbig, if_neg (by decide), if_neg hneg]; rfl
      have hdl : (digits a).length ≤ 8 := by
        rcases Nat.eq_zero_or_pos a with z | z
        · subst z; rw [digits_zero]; decide
        · rw [digits_len z]; exact nb_le (by omega)
      refine EX_cons (ES_Assign_Name 5 rfl (EV_List (EL_nil ⟨by decide, ?_⟩)))
      let iA : List UInt8 → List AV := fun l => (l.map fun c => ((c.toNat : Nat) : Int)).map .int
      have iAl : ∀ l, (iA l).length = l.length := fun l => by simp [iA]
      let J : Nat → AS → Prop := fun m σ => ∃ ds : List UInt8, σ = ⟨[some (Plan.number one).av, some (.int (m : Int)), some (.str "number"), some (optI one), some .none, some (.list (iA ds)), none, none, none, none, none], []⟩ ∧ digits m ++ ds = digits a ∧ m ≤ a
      refine EX_cons (ES_While rfl J a ⟨[], rfl, by rw [List.append_nil], Nat.le_refl _⟩ ?_)
      rintro m σi ⟨ds, rfl, hds, hm⟩
      have hdsl : ds.length ≤ 8 := by have := congrArg List.length hds; rw [List.length_append] at this; omega
      refine TV_Compare (EV_loc 1 rfl rfl (EV_int (CO_gt (TU_bool ?_))))
      by_cases h0 : 0 < m
      · rw [decide_eq_true (by omega : (m : Int) > 0)]
        refine EX_cons (ES_Assign_Name 5 rfl (EV_BinOp (EV_List (EL_cons (EV_BinOp (EV_loc 1 rfl rfl (EV_int (BO_mod (by decide) (EL_nil ⟨(show (1 : Nat) ≤ sizeLine by decide), EV_loc 5 rfl rfl (BO_list (by rw [iAl]; show 1 + ds.length ≤ _; omega) ?_)⟩)))))))))
        refine EX_cons (ES_Assign_Name 1 rfl (EV_BinOp (EV_loc 1 rfl rfl (EV_int (BO_div (by decide) (noPylong _) ?_)))))
        refine EX_nil ⟨m / 256, Nat.div_lt_self h0 (by decide), (m % 256).toUInt8 :: ds, ?_, ?_, by omega⟩
        · have e1 : (m : Int).fmod 256 = (((m % 256).toUInt8.toNat : Nat) : Int) := by
            rw [Int.fmod_eq_emod_of_nonneg _ (by decide)]
            simp
          have e2 : (m : Int).fdiv 256 = ((m / 256 : Nat) : Int) := by
            rw [Int.fdiv_eq_ediv_of_nonneg _ (by decide)]
            rfl
          rw [e1, e2]
          rfl
        · rw [← hds, digits_pos h0]
          simp
      · rw [decide_eq_false (by omega : ¬ (m : Int) > 0)]
        have hm0 : m = 0 := by omega
        subst hm0
        rw [digits_zero, List.nil_append] at hds
        subst hds
        refine EX_cons (ES_Return (EV_Tuple (EL_cons ?_)))
        refine EV_bcall rfl H.g.b_bytes bb_bytes rfl (by decide) (EL_cons (EV_BinOp (EV_ListMul (EL_cons (EV_int (EL_nil ⟨⟨by simp, (show (1 : Nat) ≤ sizeLine by decide)⟩, EV_BinOp (EV_orZero (EV_loc 3 rfl rfl ⟨rfl, ?_⟩))⟩))))))
        refine EV_bcall rfl H.g.b_len bb_len rfl (by decide) (EL_cons (EV_loc 5 rfl rfl (EL_nil (CV_len_list (by rw [iAl]; omega) (BO_sub ⟨_, rfl, by rw [iAl]; omega, by rw [iAl]; omega, ?_, EV_loc 5 rfl rfl (BO_list ?_ (EL_nil ?_))⟩)))))
        · rw [iAl]; show 1 * _ ≤ _; omega
        · rw [replicate_flat, List.length_replicate, iAl]; omega
        · have e : (List.replicate (((one.getD 0 : Nat) : Int) - ((iA (digits a)).length : Int)).toNat [AV.int 0]).flatten ++ iA (digits a) = ((List.replicate (one.getD 0 - (digits a).length) (0 : Int)) ++ (digits a).map fun c => ((c.toNat : Nat) : Int)).map .int := by
            rw [replicate_flat, iAl, show (((one.getD 0 : Nat) : Int) - ((digits a).length : Int)).toNat = one.getD 0 - (digits a).length from by omega]
            simp [iA]
          rw [e]
          refine CV_bytes_ints hq' ?_ (by simp; omega) ?_
          · intro x hx
            rcases List.mem_append.mp hx with h | h
            · rw [List.eq_of_mem_replicate h]; decide
            · obtain ⟨c, _, rfl⟩ := List.mem_map.mp h
              have := c.toNat_lt
              omega
          · refine EL_cons (EV_str (EL_nil ⟨(show (2 : Nat) ≤ sizeLine by decide), hkf _ _ (retW ?_)⟩))
            rw [hw]
            unfold numB
            simp
            congr 2
            rw [List.map_congr_left (g := id) (fun c _ => by simp), List.map_id]
  refine EX_cons (ES_If (TV_BoolOp (TA_And_cons (TV_Compare (EV_loc 3 rfl rfl (EV_none (CO_notNone (TU_bool ?_))))))))
  rw [optI_none]
  cases one with
  | none => exact EX_nil (rest (fun a σ h => h) rfl)
  | some m =>
    have hm : m ≤ 2 := hone
    refine TA_And_cons (TV_Compare (EV_loc 1 rfl rfl (EV_BinOp (EV_int (EV_loc 3 rfl rfl (BO_pow (by omega) (by omega) (by decide) (CO_ge (TU_bool ?_))))))))
    have hb : big (some m) i = decide (i ≥ (256 : Int) ^ ((m : Int).toNat)) := by show decide _ = decide _; congr 1
    rw [← hb]
    cases hbig : big (some m) i with
    | false => exact EX_nil (rest (fun a σ h => h) hbig)
    | true =>
      refine TA_And_nil ?_
      have hw : written (.number (some m)) (.int i) = (AV.none, ("Integer too large (does not fit in " ++ toString (m : Int) ++ " bytes)" : Str)) := by
        rw [written, hbig, if_pos rfl]; rfl
      have hd := dig_len (i := m) (by omega)
      have e1 : ("Integer too large (does not fit in " : Str).length ≤ 40 := by decide
      have e2 : (" bytes)" : Str).length ≤ 40 := by decide
      refine EX_cons (ES_Return (EV_Tuple (EL_cons (EV_none (EL_cons (EV_BinOp (EV_BinOp (EV_str ?_))))))))
      refine EV_bcall rfl H.g.b_str bb_str rfl (by decide) (EL_cons (EV_loc 3 rfl rfl (EL_nil (CV_str_int (small_log (by omega)) (BO_str (by omega) (EV_str (BO_str (by rw [str_app_len]; omega) (EL_nil ⟨(show (2 : Nat) ≤ sizeLine by decide), retW ?_⟩))))))))
      rw [hw]
theorem W_octets (H : KEnd2 G) {l0 : Nat} {h0 : Option Nat} {n : Nat} {t : AV} (ht : thOk n t) (hD : D.n + 40 ≤ 900) (hq : D.q = true) : EX G (S1804 D) ⟨[some (Plan.octets l0 h0).av, some t, some (.str "octets"), some (.int l0), some (optI h0), none, none, none, none, none, none], []⟩ ((defBody d1804).drop 1) (kW (written (.octets l0 h0) t)) xW := by
  obtain ⟨T, hT⟩ := thOk_ty ht
  refine EX_cons (ES_If (TV_Compare (EV_loc 2 rfl rfl (EV_str (CO_str_eq (TU_bool ?_))))))
  refine EX_nil ?_
  refine EX_cons (ES_If (TV_Compare (EV_loc 2 rfl rfl (EV_str (CO_str_eq (TU_bool ?_))))))
  refine EX_cons (ES_If (TV_Not (TV_value (EV_isi rfl H.g rfl H.g.b_bytes bb_bytes (by decide) (by decide) (EV_loc 1 rfl rfl ⟨rfl, hT, TU_bool ?_⟩)))))
  cases hB : subT T "bytes" with
  | false =>
    have hw : written (.octets l0 h0) t = (AV.none, ("Object is not a serializable" : Str)) := by
      cases t <;> first | (simp only [written]; done) | (simp only [tyN, Option.some.injEq, reduceCtorEq] at hT <;> subst hT <;> exact absurd hB (by decide))
    rw [hw]
    exact EX_cons (ES_none (retW rfl))
  | true =>
  obtain ⟨b, rfl⟩ : ∃ b, t = .bytes b := by
    cases t <;> first | exact ⟨_, rfl⟩ | (simp only [tyN, Option.some.injEq, reduceCtorEq] at hT <;> subst hT <;> exact absurd hB (by decide))
  have hb : b.size ≤ 5 := by cases n <;> exact ht
  refine EX_nil ?_
  have hw : written (.octets l0 h0) (.bytes b) = if (decide (b.size < l0) || above h0 b.size) = true then (AV.none, ("Object has invalid length" : Str)) else (.bytes b, ("" : Str)) := by rw [written]
  rw [hw]
  have bad : ∀ {k : AV → AS → Prop} {kx : AX → AS → Prop} {σ : AS} {u u1 u2 : Nat} {p1 p2 p3 : Pos}, k (.tuple [.none, .str "Object has invalid length"]) σ → EV G (S1804 D) σ (.Tuple [.Constant .none u1 p1, .Constant (.str "Object has invalid length") u2 p2] u p3) k kx := fun h => EV_Tuple (EL_cons (EV_none (EL_cons (EV_str (EL_nil ⟨(show (2 : Nat) ≤ sizeLine by decide), h⟩)))))
  have good : ∀ {k : AV → AS → Prop} {kx : AX → AS → Prop} {u u2 : Nat} {p1 p2 p3 : Pos}, k (.tuple [.bytes b, .str ""]) ⟨[some (Plan.octets l0 h0).av, some (.bytes b), some (.str "octets"), some (.int l0), some (optI h0), none, none, none, none, none, none], []⟩ → EV G (S1804 D) ⟨[some (Plan.octets l0 h0).av, some (.bytes b), some (.str "octets"), some (.int l0), some (optI h0), none, none, none, none, none, none], []⟩ (.Tuple [.Name "thing" p1, .Constant (.str "") u2 p2] u p3) k kx := fun h => EV_Tuple (EL_cons (EV_loc 1 rfl rfl (EL_cons (EV_str (EL_nil ⟨(show (2 : Nat) ≤ sizeLine by decide), h⟩)))))
  refine EX_cons (ES_Return (EV_IfExp (TV_BoolOp (TA_Or_cons (TV_Compare (EV_bcall rfl H.g.b_len bb_len rfl (by decide) (EL_cons (EV_loc 1 rfl rfl (EL_nil (CV_len_bytes (by omega) (EV_loc 3 rfl rfl (CO_lt (TU_bool ?_)))))))))))))
  by_cases hlt : b.size < l0
  · rw [show decide ((b.size : Int) < (l0 : Int)) = true from by simpa using hlt, decide_eq_true hlt]
    exact bad (retW rfl)
  · rw [show decide ((b.size : Int) < (l0 : Int)) = false from by simpa using hlt, decide_eq_false hlt]
    refine TA_Or_cons (TV_BoolOp (TA_And_cons (TV_Compare (EV_loc 4 rfl rfl (EV_none (CO_notNone (TU_bool ?_)))))))
    rw [optI_none]
    cases h0 with
    | none => exact TA_Or_nil (good (retW rfl))
    | some m =>
      refine TA_And_cons (TV_Compare (EV_bcall rfl H.g.b_len bb_len rfl (by decide) (EL_cons (EV_loc 1 rfl rfl (EL_nil (CV_len_bytes (by omega) (EV_loc 4 rfl rfl (CO_gt (TU_bool ?_)))))))))
      have ha : above (some m) b.size = decide ((b.size : Int) > (m : Int)) := by simp [above]
      rw [ha]
      cases decide ((b.size : Int) > (m : Int)) with
      | true => exact TA_And_nil (bad (retW rfl))
      | false => exact TA_Or_nil (good (retW rfl))
theorem W_truth (H : KEnd2 G) {n : Nat} {t : AV} (ht : thOk n t) (hD : D.n + 40 ≤ 900) (hq : D.q = true) : EX G (S1804 D) ⟨[some Plan.truth.av, some t, some (.str "truth"), some .none, some .none, none, none, none, none, none, none], []⟩ ((defBody d1804).drop 1) (kW (written .truth t)) xW := by
  obtain ⟨T, hT⟩ := thOk_ty ht
  refine EX_cons (ES_If (TV_Compare (EV_loc 2 rfl rfl (EV_str (CO_str_eq (TU_bool ?_))))))
  refine EX_nil ?_
  refine EX_cons (ES_If (TV_Compare (EV_loc 2 rfl rfl (EV_str (CO_str_eq (TU_bool ?_))))))
  refine EX_nil ?_
  refine EX_cons (ES_If (TV_Compare (EV_loc 2 rfl rfl (EV_str (CO_str_eq (TU_bool ?_))))))
  refine EX_cons (ES_Return (EV_IfExp (TV_value (EV_isi rfl H.g rfl H.g.b_bool bb_bool (by decide) (by decide) (EV_loc 1 rfl rfl ⟨rfl, hT, TU_bool ?_⟩)))))
  cases hB : subT T "bool" with
  | false =>
    have hw : written .truth t = (AV.none, ("Can only serialize integers" : Str)) := by
      cases t <;> first | (simp only [written]; done) | (simp only [tyN, Option.some.injEq, reduceCtorEq] at hT <;> subst hT <;> exact absurd hB (by decide))
    rw [hw]
    exact EV_Tuple (EL_cons (EV_none (EL_cons (EV_str (EL_nil ⟨(show (2 : Nat) ≤ sizeLine by decide), retW rfl⟩)))))
  | true =>
  obtain ⟨b, rfl⟩ : ∃ b, t = .bool b := by
    cases t <;> first | exact ⟨_, rfl⟩ | (simp only [tyN, Option.some.injEq, reduceCtorEq] at hT <;> subst hT <;> exact absurd hB (by decide))
  refine EV_Tuple (EL_cons (EV_IfExp (TV_value (EV_loc 1 rfl rfl (TU_bool ?_)))))
  cases b with
  | true => exact EV_bytes (EL_cons (EV_str (EL_nil ⟨(show (2 : Nat) ≤ sizeLine by decide), retW (by rw [written]; rfl)⟩)))
  | false => exact EV_bytes (EL_cons (EV_str (EL_nil ⟨(show (2 : Nat) ≤ sizeLine by decide), retW (by rw [written]; rfl)⟩)))
end
end Mine
end
/-! Pr20 -/
section
open PySem PySem.Calls PyProof.Rows
open PySem.W
namespace Mine
theorem minI (a b : Nat) : (if (b : Int) < (a : Int) then (b : Int) else (a : Int)) = ((min a b : Nat) : Int) := by
  split <;> omega
theorem rangeI_get {n i : Nat} {d : LI} (h : (rangeI n)[i]? = some d) : i < n ∧ d = .one (.int (i : Int)) := by
  unfold rangeI at h
  rw [List.getElem?_map, Option.map_eq_some_iff] at h
  obtain ⟨j, hj, rfl⟩ := h
  obtain ⟨hlt, hj⟩ := List.getElem?_eq_some_iff.mp hj
  rw [List.getElem_range] at hj
  rw [List.length_range] at hlt
  exact ⟨hlt, by rw [hj]⟩
theorem rangeI_length {n : Nat} : (rangeI n).length = n := by simp [rangeI]
section
variable {G : Gb} {D : Lv}
theorem W_loop (H : KEnd2 G) {d : Nat} (IH : LWs G d) {n : Nat} {PS ds : List AV} {L : List (AV × Str)} {pl kd on tw : Option AV} (hP : ∀ (i : Nat) (x pa : AV), ds[i]? = some x → PS[i]? = some pa → ∃ p, pa = p.av ∧ p.depth < d ∧ p.ok ∧ L[i]? = some (written p x)) (hL : L.length = min PS.length ds.length) (hps : PS.length ≤ 4) (hds : ds.length ≤ 4) (ht : ∀ x ∈ ds, thOk n x) (hD : D.n + 70 + 30 * d ≤ 900) (hd100 : d ≤ 50) (hq : D.q = true) :
    EX G (S1804 D) ⟨[pl, some (.list ds), kd, on, tw, none, some (.list PS), none, none, none, none], []⟩ ((defBody d1804).drop 8) (kW (fold "Serialization" 0 L [])) xW := by
  have H' := H.toKAll
  have hq' : D.up.q = true := hq
  have hzz : sizeLine = 16777216 := rfl
  have hD' : D.up.n + 20 ≤ 900 := by show D.n + 1 + 20 ≤ 900; omega
  refine EX_cons (ES_Assign_Name 7 rfl (EV_ListOwn (EL_nil ⟨by decide, fun fa => ?_⟩)))
  refine EX_cons (ES_For rfl (IE_of1 (IE1_range hq' (EV_blt rfl H.g.b_range bb_range (by decide) ⟨rfl, ?_⟩))))
  refine EV_bcall rfl H.g.b_min bb_min rfl (by decide) (EL_cons (EV_bcall rfl H.g.b_len bb_len rfl (by decide) (EL_cons (EV_loc 6 rfl rfl (EL_nil (CV_len_list (by omega) ?_))))))
  refine EL_cons (EV_bcall rfl H.g.b_len bb_len rfl (by decide) (EL_cons (EV_loc 1 rfl rfl (EL_nil (CV_len_list (by omega) (EL_nil (CV_min hq' ⟨min PS.length ds.length, by rw [minI], by omega, ?_⟩)))))))
  let J : Nat → AS → Prop := fun i σ => ∃ acc a b c, σ = ⟨[pl, some (.list ds), kd, on, tw, none, some (.list PS), some (.own fa), a, b, c], [(fa, .list acc)]⟩ ∧ acc.length = i ∧ fold "Serialization" 0 L [] = fold "Serialization" i (L.drop i) acc
  refine ⟨J, ⟨[], _, _, _, rfl, rfl, by rw [List.drop_zero]⟩, ?_, ?_⟩
  · rintro i it σi hit ⟨acc, a, b, c, rfl, hacc, hfold⟩
    obtain ⟨hi, rfl⟩ := rangeI_get hit
    have hi1 : i < PS.length := by omega
    have hi2 : i < ds.length := by omega
    have hx : ds[i]? = some ds[i] := List.getElem?_eq_getElem hi2
    have hpa : PS[i]? = some PS[i] := List.getElem?_eq_getElem hi1
    obtain ⟨p, hp1, hp2, hp3, hp4⟩ := hP i _ _ hx hpa
    rw [hp1] at hpa
    have hmem : ds[i] ∈ ds := List.getElem_mem hi2
    have LF := IH D.up p n ds[i] hp2 hp3 (by show D.n + 1 + 40 + 30 * d ≤ 900; omega) hq (ht _ hmem)
    have hwl := words_len d p ds[i] n (by omega) hp3 (ht _ hmem)
    refine AI_one (AG_Name 8 rfl rfl ?_)
    have hto : ((i : Int)).toNat = i := by omega
    refine EX_cons (ES_Assign_Tuple (EV_gcall rfl H.g.g_law_written H.g.kf1804 (EL_cons (EV_Subscript (EV_loc 6 rfl rfl (EV_loc 8 rfl rfl (SU_list (by omega) (by omega) (by rw [hto]; exact hpa) ?_)))))))
    refine EL_cons (EV_Subscript (EV_loc 1 rfl rfl (EV_loc 8 rfl rfl (SU_list (by omega) (by omega) (by rw [hto]; exact hx) (EL_nil (CV_fn0 (S := S1804 D) LF.noX (K := fun v => v = .tuple [(written p ds[i]).1, .str (written p ds[i]).2]) (KX := fun _ => False) (fun v hv => ?_) fun _ z => z.elim))))))
    subst hv
    refine AG_Tuple hq' ⟨rfl, AG_Name 9 rfl rfl ⟨rfl, AG_Name 10 rfl rfl ?_⟩⟩
    refine EX_cons (ES_If (TV_Compare (EV_loc 10 rfl rfl (EV_str (CO_str_ne (TU_bool ?_))))))
    by_cases hw : (written p ds[i]).2 = ""
    · rw [show ((written p ds[i]).2 != ("" : Str)) = false from by simp [hw]]
      refine EX_nil ?_
      refine EX_cons (ES_Expr (EV_Meth (EV_loc 7 rfl rfl ⟨.builtin "list.append", _, rfl, GM_append (ds := acc) (.head _), ?_⟩)))
      refine EL_cons (EV_loc 9 rfl rfl (EL_nil (CV_append (own := []) (rest := []) rfl (by omega) ?_)))
      refine EX_nil ⟨acc ++ [(written p ds[i]).1], _, _, _, rfl, by rw [List.length_append, hacc]; rfl, ?_⟩
      rw [hfold, drop_get hp4]
      exact fold_ok hw
    · rw [show ((written p ds[i]).2 != ("" : Str)) = true from by simpa using hw]
      refine EX_cons (ES_Return (EV_Tuple (EL_cons (EV_none (EL_cons ?_)))))
      refine EV_gcall rfl H.g.g_law_wrapped H.g.kf1797 (EL_cons (EV_str (EL_cons (EV_loc 8 rfl rfl (EL_cons (EV_loc 10 rfl rfl (EL_nil (CV_fn0 (S := S1804 D) (C1797 H' (by decide) (by omega) (by omega) hD').noX (K := fun v => v = .str (wrapped "Serialization" i (written p ds[i]).2)) (KX := fun _ => False) (fun v hv => ?_) fun _ z => z.elim))))))))
      subst hv
      refine EL_nil ⟨(show (2 : Nat) ≤ sizeLine by decide), ⟨[], _, rfl, List.Subset.refl _, rfl, ?_⟩⟩
      rw [hfold, drop_get hp4, fold_err hw]
      rfl
  · rintro σn ⟨acc, a, b, c, rfl, hacc, hfold⟩
    rw [rangeI_length] at hacc hfold
    rw [List.drop_of_length_le (by omega), fold] at hfold
    refine EX_freeze (own := []) 7 rfl rfl ?_
    refine EX_cons (ES_Return (EV_Tuple (EL_cons (EV_loc 7 rfl rfl (EL_cons (EV_str (EL_nil ⟨(show (2 : Nat) ≤ sizeLine by decide), retW ?_⟩)))))))
    rw [hfold]
theorem W_row (H : KEnd2 G) {d : Nat} (IH : LWs G d) {n : Nat} {s : Bool} {ps : List Plan} {t : AV} (hd : plansDepth ps < d) (ho : (Plan.row s ps).ok) (ht : thOk n t) (hD : D.n + 70 + 30 * d ≤ 900) (hq : D.q = true) : EX G (S1804 D) ⟨[some (Plan.row s ps).av, some t, some (.str "row"), some (.bool s), some (.list (plansAv ps)), none, none, none, none, none, none], []⟩ ((defBody d1804).drop 1) (kW (written (.row s ps) t)) xW := by
  obtain ⟨T, hT⟩ := thOk_ty ht
  have hzz : sizeLine = 16777216 := rfl
  refine EX_cons (ES_If (TV_Compare (EV_loc 2 rfl rfl (EV_str (CO_str_eq (TU_bool ?_))))))
  refine EX_nil ?_
  refine EX_cons (ES_If (TV_Compare (EV_loc 2 rfl rfl (EV_str (CO_str_eq (TU_bool ?_))))))
  refine EX_nil ?_
  refine EX_cons (ES_If (TV_Compare (EV_loc 2 rfl rfl (EV_str (CO_str_eq (TU_bool ?_))))))
  refine EX_nil ?_
  refine EX_cons (ES_If (TV_Not (TV_value (EV_isi rfl H.g rfl H.g.b_list bb_list (by decide) (by decide) (EV_loc 1 rfl rfl ⟨rfl, hT, TU_bool ?_⟩)))))
  cases hB : subT T "list" with
  | false =>
    have hw : written (.row s ps) t = (AV.none, ("Can only serialize sequences" : Str)) := by
      cases t <;> first | (simp only [written]; done) | (simp only [tyN, Option.some.injEq, reduceCtorEq] at hT <;> subst hT <;> exact absurd hB (by decide))
    rw [hw]
    exact EX_cons (ES_none (retW rfl))
  | true =>
  obtain ⟨ds, rfl⟩ : ∃ b, t = .list b := by
    cases t <;> first | exact ⟨_, rfl⟩ | (simp only [tyN, Option.some.injEq, reduceCtorEq] at hT <;> subst hT <;> exact absurd hB (by decide))
  obtain ⟨n, rfl⟩ : ∃ m, n = m + 1 := by cases n with | zero => exact ht.elim | succ m => exact ⟨m, rfl⟩
  obtain ⟨ho1, ho2, ho3⟩ := ho
  obtain ⟨ht1, ht2⟩ := ht
  refine EX_nil ?_
  have rest : written (.row s ps) (.list ds) = fold "Serialization" 0 (writtenZ ps ds) [] → EX G (S1804 D) ⟨[some (Plan.row s ps).av, some (.list ds), some (.str "row"), some (.bool s), some (.list (plansAv ps)), none, none, none, none, none, none], []⟩ ((defBody d1804).drop 6) (kW (written (.row s ps) (.list ds))) xW := by
    intro hw
    rw [hw]
    refine EX_cons (ES_If (TV_BoolOp (TA_And_cons (TV_Compare (EV_loc 2 rfl rfl (EV_str (CO_str_eq (TU_bool ?_))))))))
    refine EX_nil ?_
    refine EX_cons (ES_Assign_Name 6 rfl (EV_IfExp (TV_Compare (EV_loc 2 rfl rfl (EV_str (CO_str_eq (TU_bool ?_)))))))
    refine EV_loc 4 rfl rfl ?_
    refine W_loop H IH (PS := plansAv ps) (ds := ds) (L := writtenZ ps ds) (fun i x pa hx hpa => ?_) (by rw [writtenZ_length, plansAv_length]) (by rw [plansAv_length]; omega) ht1 ht2 hD (by omega) hq
    have hi : i < ps.length := by rw [← plansAv_length]; exact (List.getElem?_eq_some_iff.mp hpa).1
    have hp : ps[i]? = some ps[i] := List.getElem?_eq_getElem hi
    refine ⟨ps[i], ?_, ?_, plansOk_get ho3 hp, writtenZ_get hp hx⟩
    · rw [plansAv_get hp] at hpa; exact (Option.some.inj hpa).symm
    · have := plansDepth_get hp; omega
  refine EX_cons (ES_If (TV_BoolOp (TA_And_cons (TV_Compare (EV_loc 2 rfl rfl (EV_str (CO_str_eq (TU_bool ?_))))))))
  refine TA_And_cons (TV_value (EV_loc 3 rfl rfl (TU_bool ?_)))
  cases s with
  | false => exact EX_nil (rest (by rw [written, if_neg (by simp)]))
  | true =>
    refine TA_And_cons (TV_Compare (EV_bcall rfl H.g.b_len bb_len rfl (by decide) (EL_cons (EV_loc 1 rfl rfl (EL_nil (CV_len_list (by omega) ?_))))))
    refine EV_bcall rfl H.g.b_len bb_len rfl (by decide) (EL_cons (EV_loc 4 rfl rfl (EL_nil (CV_len_list (by rw [plansAv_length]; omega) (CO_ne (TU_bool ?_))))))
    rw [plansAv_length]
    by_cases hne : ds.length = ps.length
    · rw [show ((ds.length : Int) != (ps.length : Int)) = false from by rw [hne]; simp]
      exact EX_nil (rest (by rw [written, if_neg (by simp [hne])]))
    · rw [show ((ds.length : Int) != (ps.length : Int)) = true from by simp; omega]
      refine TA_And_nil ?_
      have hw : written (.row true ps) (.list ds) = (AV.none, ("Serializing list length (" ++ toString (ds.length : Int) ++ ") does not match sedes (" ++ toString (ps.length : Int) ++ ")" : Str)) := by rw [written, if_pos ⟨rfl, hne⟩]
      have h1 := dig_len (i := ds.length) (by omega)
      have h2 := dig_len (i := ps.length) (by omega)
      have e1 : ("Serializing list length (" : Str).length ≤ 30 := by decide
      have e2 : (") does not match sedes (" : Str).length ≤ 30 := by decide
      have e3 : (")" : Str).length ≤ 4 := by decide
      rw [hw]
      refine EX_cons (ES_Return (EV_Tuple (EL_cons (EV_none (EL_cons (EV_BinOp (EV_BinOp (EV_BinOp (EV_BinOp (EV_str ?_))))))))))
      refine EV_bcall rfl H.g.b_str bb_str rfl (by decide) (EL_cons (EV_bcall rfl H.g.b_len bb_len rfl (by decide) (EL_cons (EV_loc 1 rfl rfl (EL_nil (CV_len_list (by omega) (EL_nil (CV_str_int (small_log (by omega)) (BO_str (by omega) (EV_str (BO_str (by rw [str_app_len]; omega) ?_)))))))))))
      refine EV_bcall rfl H.g.b_str bb_str rfl (by decide) (EL_cons (EV_bcall rfl H.g.b_len bb_len rfl (by decide) (EL_cons (EV_loc 4 rfl rfl (EL_nil (CV_len_list (by rw [plansAv_length]; omega) (EL_nil (CV_str_int (small_log (by rw [plansAv_length]; omega)) (BO_str (by rw [plansAv_length, str_app_len, str_app_len]; omega) (EV_str (BO_str (by rw [plansAv_length, str_app_len, str_app_len, str_app_len]; omega) (EL_nil ⟨(show (2 : Nat) ≤ sizeLine by decide), retW ?_⟩))))))))))))
      rw [plansAv_length]
theorem W_many (H : KEnd2 G) {d : Nat} (IH : LWs G d) {n : Nat} {m : Option Nat} {p : Plan} {t : AV} (hd : p.depth < d) (ho : (Plan.many m p).ok) (ht : thOk n t) (hD : D.n + 70 + 30 * d ≤ 900) (hq : D.q = true) : EX G (S1804 D) ⟨[some (Plan.many m p).av, some t, some (.str "many"), some (optI m), some p.av, none, none, none, none, none, none], []⟩ ((defBody d1804).drop 1) (kW (written (.many m p) t)) xW := by
  obtain ⟨T, hT⟩ := thOk_ty ht
  have hzz : sizeLine = 16777216 := rfl
  refine EX_cons (ES_If (TV_Compare (EV_loc 2 rfl rfl (EV_str (CO_str_eq (TU_bool ?_))))))
  refine EX_nil ?_
  refine EX_cons (ES_If (TV_Compare (EV_loc 2 rfl rfl (EV_str (CO_str_eq (TU_bool ?_))))))
  refine EX_nil ?_
  refine EX_cons (ES_If (TV_Compare (EV_loc 2 rfl rfl (EV_str (CO_str_eq (TU_bool ?_))))))
  refine EX_nil ?_
  refine EX_cons (ES_If (TV_Not (TV_value (EV_isi rfl H.g rfl H.g.b_list bb_list (by decide) (by decide) (EV_loc 1 rfl rfl ⟨rfl, hT, TU_bool ?_⟩)))))
  cases hB : subT T "list" with
  | false =>
    have hw : written (.many m p) t = (AV.none, ("Can only serialize sequences" : Str)) := by
      cases t <;> first | (simp only [written]; done) | (simp only [tyN, Option.some.injEq, reduceCtorEq] at hT <;> subst hT <;> exact absurd hB (by decide))
    rw [hw]
    exact EX_cons (ES_none (retW rfl))
  | true =>
  obtain ⟨ds, rfl⟩ : ∃ b, t = .list b := by
    cases t <;> first | exact ⟨_, rfl⟩ | (simp only [tyN, Option.some.injEq, reduceCtorEq] at hT <;> subst hT <;> exact absurd hB (by decide))
  obtain ⟨n, rfl⟩ : ∃ m, n = m + 1 := by cases n with | zero => exact ht.elim | succ m => exact ⟨m, rfl⟩
  obtain ⟨ho1, ho2⟩ := ho
  obtain ⟨ht1, ht2⟩ := ht
  refine EX_nil ?_
  refine EX_cons (ES_If (TV_BoolOp (TA_And_cons (TV_Compare (EV_loc 2 rfl rfl (EV_str (CO_str_eq (TU_bool ?_))))))))
  refine EX_nil ?_
  have rest : written (.many m p) (.list ds) = fold "Serialization" 0 (ds.map fun d => written p d) [] → EX G (S1804 D) ⟨[some (Plan.many m p).av, some (.list ds), some (.str "many"), some (optI m), some p.av, none, none, none, none, none, none], []⟩ ((defBody d1804).drop 7) (kW (written (.many m p) (.list ds))) xW := by
    intro hw
    rw [hw]
    refine EX_cons (ES_Assign_Name 6 rfl (EV_IfExp (TV_Compare (EV_loc 2 rfl rfl (EV_str (CO_str_eq (TU_bool ?_)))))))
    refine EV_ListMul (EL_cons (EV_loc 4 rfl rfl (EL_nil ⟨⟨by simp, (show (1 : Nat) ≤ sizeLine by decide)⟩, EV_bcall rfl H.g.b_len bb_len rfl (by decide) (EL_cons (EV_loc 1 rfl rfl (EL_nil (CV_len_list (by omega) ⟨_, rfl, by omega, by omega, ?_, ?_⟩))))⟩)))
    · show 1 * _ ≤ _
      omega
    rw [replicate_flat, show ((ds.length : Int)).toNat = ds.length from by omega]
    refine W_loop H IH (PS := List.replicate ds.length p.av) (ds := ds) (L := ds.map fun d => written p d) (fun i x pa hx hpa => ?_) (by simp) (by simp; omega) ht1 ht2 hD (by omega) hq
    refine ⟨p, ?_, hd, ho2, by rw [List.getElem?_map, hx]; rfl⟩
    exact List.eq_of_mem_replicate (List.mem_of_getElem? hpa)
  refine EX_cons (ES_If (TV_BoolOp (TA_And_cons (TV_Compare (EV_loc 2 rfl rfl (EV_str (CO_str_eq (TU_bool ?_))))))))
  refine TA_And_cons (TV_Compare (EV_loc 3 rfl rfl (EV_none (CO_notNone (TU_bool ?_)))))
  rw [optI_none]
  cases m with
  | none => exact EX_nil (rest (by rw [written, if_neg (by simp [above])]))
  | some m =>
    have hm : m = 2 := ho1 m rfl
    refine TA_And_cons (TV_Compare (EV_bcall rfl H.g.b_len bb_len rfl (by decide) (EL_cons (EV_loc 1 rfl rfl (EL_nil (CV_len_list (by omega) (EV_loc 3 rfl rfl (CO_gt (TU_bool ?_)))))))))
    by_cases hgt : ds.length > m
    · rw [show decide ((ds.length : Int) > (m : Int)) = true from by simpa using hgt]
      refine TA_And_nil ?_
      have hw : written (.many (some m) p) (.list ds) = (AV.none, ("Too many elements (" ++ toString (ds.length : Int) ++ ", allowed " ++ toString (m : Int) ++ ")" : Str)) := by rw [written, if_pos (by simpa [above] using hgt)]; rfl
      have h1 := dig_len (i := ds.length) (by omega)
      have h2 := dig_len (i := m) (by omega)
      have e1 : ("Too many elements (" : Str).length ≤ 30 := by decide
      have e2 : (", allowed " : Str).length ≤ 30 := by decide
      have e3 : (")" : Str).length ≤ 4 := by decide
      rw [hw]
      refine EX_cons (ES_Return (EV_Tuple (EL_cons (EV_none (EL_cons (EV_BinOp (EV_BinOp (EV_BinOp (EV_BinOp (EV_str ?_))))))))))
      refine EV_bcall rfl H.g.b_str bb_str rfl (by decide) (EL_cons (EV_bcall rfl H.g.b_len bb_len rfl (by decide) (EL_cons (EV_loc 1 rfl rfl (EL_nil (CV_len_list (by omega) (EL_nil (CV_str_int (small_log (by omega)) (BO_str (by omega) (EV_str (BO_str (by rw [str_app_len]; omega) ?_)))))))))))
      refine EV_bcall rfl H.g.b_str bb_str rfl (by decide) (EL_cons (EV_loc 3 rfl rfl (EL_nil (CV_str_int (small_log (by omega)) (BO_str (by rw [str_app_len, str_app_len]; omega) (EV_str (BO_str (by rw [str_app_len, str_app_len, str_app_len]; omega) (EL_nil ⟨(show (2 : Nat) ≤ sizeLine by decide), retW rfl⟩))))))))
    · rw [show decide ((ds.length : Int) > (m : Int)) = false from by simpa using hgt]
      exact EX_nil (rest (by rw [written, if_neg (by simpa [above] using hgt)]))
theorem av3 {S : St} {σ : AS} {ts : List Expr} {u : Nat} {q : Pos} {p : Plan} {a b c : AV} {k : Unit → AS → Prop} {kx : AX → AS → Prop} (e : p.av = .tuple [a, b, c]) (hS : S.D.q = true) (h : AGs G S k kx ts [a, b, c] σ) (hl : ts.length = 3) (hp : plains ts = true) : AG G S σ (.Tuple ts u q) p.av k kx := by
  rw [e]
  exact AG_Tuple hS h hl hp
/-- _law_written -/
theorem LW (H : KEnd2 G) : ∀ d, LWs G d
  | 0 => fun D p n t h => absurd h (Nat.not_lt_zero _)
  | d + 1 => fun D p n t h ho hD hq ht => by
    have IH := LW H d
    have hq' : D.up.q = true := hq
    refine Fn_d (names := ["plan", "thing", "kind", "one", "two", "digits", "parts", "found", "k", "part", "words"]) (loc := [some p.av, some t, none, none, none, none, none, none, none, none, none]) H.fns.f1804 (by show D.n < 1000; omega) (bind2 (fun _ _ _ _ _ _ _ => rfl) rfl rfl rfl rfl) ?_
    refine EX_cons (ES_Assign_Tuple (EV_loc 0 rfl rfl ?_))
    cases p with
    | number one => exact av3 (by rw [Plan.av]) hq' ⟨rfl, AG_Name 2 rfl rfl ⟨rfl, AG_Name 3 rfl rfl ⟨rfl, AG_Name 4 rfl rfl (W_number H ho ht (by omega) hq)⟩⟩⟩ rfl rfl
    | octets lo hi => exact av3 (by rw [Plan.av]) hq' ⟨rfl, AG_Name 2 rfl rfl ⟨rfl, AG_Name 3 rfl rfl ⟨rfl, AG_Name 4 rfl rfl (W_octets H ht (by omega) hq)⟩⟩⟩ rfl rfl
    | truth => exact av3 (by rw [Plan.av]) hq' ⟨rfl, AG_Name 2 rfl rfl ⟨rfl, AG_Name 3 rfl rfl ⟨rfl, AG_Name 4 rfl rfl (W_truth H ht (by omega) hq)⟩⟩⟩ rfl rfl
    | row s ps => exact av3 (by rw [Plan.av]) hq' ⟨rfl, AG_Name 2 rfl rfl ⟨rfl, AG_Name 3 rfl rfl ⟨rfl, AG_Name 4 rfl rfl (W_row H IH (by rw [Plan.depth] at h; omega) ho ht (by omega) hq)⟩⟩⟩ rfl rfl
    | many m p => exact av3 (by rw [Plan.av]) hq' ⟨rfl, AG_Name 2 rfl rfl ⟨rfl, AG_Name 3 rfl rfl ⟨rfl, AG_Name 4 rfl rfl (W_many H IH (by rw [Plan.depth] at h; omega) ho ht (by omega) hq)⟩⟩⟩ rfl rfl
end
end Mine
end
/-! Pr21 -/
section
open PySem PySem.Calls PyProof.Rows
open PySem.W
namespace Mine
def LRs (G : Gb) (d : Nat) : Prop := ∀ (D : Lv) (p : Plan) (n : Nat) (t : AV), p.depth < d → p.ok → D.n + 40 + 30 * d ≤ 900 → D.q = true → itOk n t → fits p t → Fn G D (.ref 1811) [p.av, t] [] [] (fun a own' => own' = [] ∧ a = .tuple [(readP p t).1, .str (readP p t).2]) (fun _ _ => False)
theorem mul256 (a : Int) : IntMulOk a 256 := by
  unfold IntMulOk
  rw [show decide (Builtin.Int.intBits 256 > shortFactorBits) = false from by decide]
  simp
theorem value_snoc (l : List Int) (x : Int) : KFB.value (l ++ [x]) = KFB.value l * 256 + x := by
  unfold KFB.value
  rw [List.foldl_append]
  rfl
abbrev S1811 (D : Lv) : St := ⟨"_law_read", sc1811, 1811, .ref 1810, ["plan", "item", "kind", "one", "two", "number", "digit", "parts", "found", "k", "part", "words"], D.up, false⟩
section
variable {G : Gb} {D : Lv}
theorem R_number (H : KEnd2 G) {one : Option Nat} {b : Array UInt8} (ho : (Plan.number one).ok) (hb : b.size ≤ 5) (hD : D.n + 40 ≤ 900) (hq : D.q = true) : EX G (S1811 D) ⟨[some (Plan.number one).av, some (.bytes b), some (.str "number"), some (optI one), some .none, none, none, none, none, none, none, none], []⟩ ((defBody d1811).drop 1) (kW (readP (.number one) (.bytes b))) xW := by
  have H' := H.toKAll
  have hq' : D.up.q = true := hq
  have hzz : sizeLine = 16777216 := rfl
  refine EX_cons (ES_If (TV_Compare (EV_loc 2 rfl rfl (EV_str (CO_str_eq (TU_bool ?_))))))
  have fin : ∀ {kf : AF → AS → Prop}, (∀ a σ, kW (readP (.number one) (.bytes b)) (.ret a) σ → kf (.ret a) σ) → readP (.number one) (.bytes b) = (AV.int (numVal b), ("" : Str)) → EX G (S1811 D) ⟨[some (Plan.number one).av, some (.bytes b), some (.str "number"), some (optI one), some .none, none, none, none, none, none, none, none], []⟩ ((match ((defBody d1811).drop 1).headD default with | .If _ b _ _ => b | _ => []).drop 2) kf xW := by
    intro kf hkf hw
    refine EX_cons (ES_Assign_Name 5 rfl (EV_int ?_))
    refine EX_cons (ES_For rfl (IE_of1 (IE1_bytes hq' (EV_loc 1 rfl rfl ⟨b, rfl, ?_⟩))))
    let J : Nat → AS → Prop := fun i σ => ∃ dg, σ = ⟨[some (Plan.number one).av, some (.bytes b), some (.str "number"), some (optI one), some .none, some (.int (KFB.value ((KBw.bInts b).take i))), dg, none, none, none, none, none], []⟩
    refine ⟨J, ⟨none, rfl⟩, ?_, ?_⟩
    · rintro i it σi hit ⟨dg, rfl⟩
      rw [List.getElem?_map, Option.map_eq_some_iff] at hit
      obtain ⟨c, hc, rfl⟩ := hit
      refine AI_one (AG_Name 6 rfl rfl ?_)
      refine EX_cons (ES_Assign_Name 5 rfl (EV_BinOp (EV_BinOp (EV_loc 5 rfl rfl (EV_int (BO_mul ?_ (mul256 _)))))))
      refine EV_loc 6 rfl rfl (BO_add ?_)
      refine EX_nil ⟨some (.int (c.toNat : Int)), ?_⟩
      have e : (KBw.bInts b).take (i + 1) = (KBw.bInts b).take i ++ [(c.toNat : Int)] := by
        rw [List.take_add_one]
        congr 1
        unfold KBw.bInts
        rw [List.getElem?_map, hc]
        rfl
      rw [e, value_snoc]
      rfl
    · rintro σn ⟨dg, rfl⟩
      refine EX_cons (ES_Return (EV_Tuple (EL_cons (EV_loc 5 rfl rfl (EL_cons (EV_str (EL_nil ⟨(show (2 : Nat) ≤ sizeLine by decide), hkf _ _ (retW ?_)⟩)))))))
      rw [hw, List.length_map, List.take_of_length_le (by rw [KBw.ints_length]; simp)]
      rfl
  refine EX_cons (ES_If (TV_BoolOp (TA_And_cons (TV_Compare (EV_loc 3 rfl rfl (EV_none (CO_notNone (TU_bool ?_))))))))
  rw [optI_none]
  cases one with
  | none =>
    refine EX_nil ?_
    refine EX_cons (ES_If (TV_BoolOp (TA_And_cons (TV_Compare (EV_loc 3 rfl rfl (EV_none (CO_isNone (TU_bool ?_))))))))
    refine TA_And_cons (TV_Compare (EV_Subscript (EV_loc 1 rfl rfl (EV_Slice (EV_int ⟨1, rfl, SU_bytes_slice (by omega) (EV_bytes (CO_bytes_eq (TU_bool ?_)))⟩)))))
    have e : (KBy.picked b none (some 1)).toList = b.toList.take 1 := by
      have := picked_take b 1
      rw [show (some (1 : Int)) = some ((1 : Nat) : Int) from rfl, this]
    rw [e]
    by_cases hz : b.toList.take 1 = [0]
    · have hw : readP (.number none) (.bytes b) = (AV.none, ("Invalid serialization (not minimal length)" : Str)) := by
        rw [readP, if_neg (by simp), if_pos ⟨rfl, hz⟩]
      rw [hw, hz]
      refine TA_And_nil ?_
      exact EX_cons (ES_none (retW rfl))
    · have hw : readP (.number none) (.bytes b) = (AV.int (numVal b), ("" : Str)) := by
        rw [readP, if_neg (by simp), if_neg (fun h => hz h.2)]
      rw [show (b.toList.take 1 == ([0].toArray).toList) = false from by simpa using hz]
      exact EX_nil (fin (fun a σ h => h) hw)
  | some m =>
    have hm : m ≤ 2 := by rcases ho m rfl with rfl | rfl <;> decide
    refine TA_And_cons (TV_Compare (EV_bcall rfl H.g.b_len bb_len rfl (by decide) (EL_cons (EV_loc 1 rfl rfl (EL_nil (CV_len_bytes (by omega) (EV_loc 3 rfl rfl (CO_ne (TU_bool ?_)))))))))
    by_cases he : b.size = m
    · rw [show ((b.size : Int) != (m : Int)) = false from by simp [he]]
      refine EX_nil ?_
      refine EX_cons (ES_If (TV_BoolOp (TA_And_cons (TV_Compare (EV_loc 3 rfl rfl (EV_none (CO_isNone (TU_bool ?_))))))))
      exact EX_nil (fin (fun a σ h => h) (by rw [readP, if_neg (by simp [he]), if_neg (by simp)]))
    · rw [show ((b.size : Int) != (m : Int)) = true from by simp; omega]
      have hw : readP (.number (some m)) (.bytes b) = (AV.none, ("Invalid serialization (wrong size)" : Str)) := by
        rw [readP, if_pos (by simpa using he)]
      rw [hw]
      refine TA_And_nil ?_
      exact EX_cons (ES_none (retW rfl))
theorem R_octets (H : KEnd2 G) {l0 : Nat} {h0 : Option Nat} {n : Nat} {t : AV} (ht : itOk n t) (hD : D.n + 40 ≤ 900) (hq : D.q = true) : EX G (S1811 D) ⟨[some (Plan.octets l0 h0).av, some t, some (.str "octets"), some (.int l0), some (optI h0), none, none, none, none, none, none, none], []⟩ ((defBody d1811).drop 1) (kW (readP (.octets l0 h0) t)) xW := by
  obtain ⟨T, hT⟩ := thOk_ty (itOk_th ht)
  refine EX_cons (ES_If (TV_Compare (EV_loc 2 rfl rfl (EV_str (CO_str_eq (TU_bool ?_))))))
  refine EX_nil ?_
  refine EX_cons (ES_If (TV_Compare (EV_loc 2 rfl rfl (EV_str (CO_str_eq (TU_bool ?_))))))
  refine EX_cons (ES_If (TV_Not (TV_value (EV_isi rfl H.g rfl H.g.b_bytes bb_bytes (by decide) (by decide) (EV_loc 1 rfl rfl ⟨rfl, hT, TU_bool ?_⟩)))))
  cases hB : subT T "bytes" with
  | false =>
    have hw : readP (.octets l0 h0) t = (AV.none, ("Objects of this kind cannot be deserialized" : Str)) := by
      cases t <;> first | (simp only [readP]; done) | (simp only [tyN, Option.some.injEq, reduceCtorEq] at hT <;> subst hT <;> exact absurd hB (by decide))
    rw [hw]
    exact EX_cons (ES_none (retW rfl))
  | true =>
  obtain ⟨b, rfl⟩ : ∃ b, t = .bytes b := by
    cases t <;> first | exact ⟨_, rfl⟩ | (simp only [tyN, Option.some.injEq, reduceCtorEq] at hT <;> subst hT <;> exact absurd hB (by decide))
  have hb : b.size ≤ 5 := by cases n <;> exact ht
  refine EX_nil ?_
  have hw : readP (.octets l0 h0) (.bytes b) = if (decide (b.size < l0) || above h0 b.size) = true then (AV.none, ("Object has invalid length" : Str)) else (.bytes b, ("" : Str)) := by rw [readP]
  rw [hw]
  have bad : ∀ {k : AV → AS → Prop} {kx : AX → AS → Prop} {σ : AS} {u u1 u2 : Nat} {p1 p2 p3 : Pos}, k (.tuple [.none, .str "Object has invalid length"]) σ → EV G (S1811 D) σ (.Tuple [.Constant .none u1 p1, .Constant (.str "Object has invalid length") u2 p2] u p3) k kx := fun h => EV_Tuple (EL_cons (EV_none (EL_cons (EV_str (EL_nil ⟨(show (2 : Nat) ≤ sizeLine by decide), h⟩)))))
  have good : ∀ {k : AV → AS → Prop} {kx : AX → AS → Prop} {u u2 : Nat} {p1 p2 p3 : Pos}, k (.tuple [.bytes b, .str ""]) ⟨[some (Plan.octets l0 h0).av, some (.bytes b), some (.str "octets"), some (.int l0), some (optI h0), none, none, none, none, none, none, none], []⟩ → EV G (S1811 D) ⟨[some (Plan.octets l0 h0).av, some (.bytes b), some (.str "octets"), some (.int l0), some (optI h0), none, none, none, none, none, none, none], []⟩ (.Tuple [.Name "item" p1, .Constant (.str "") u2 p2] u p3) k kx := fun h => EV_Tuple (EL_cons (EV_loc 1 rfl rfl (EL_cons (EV_str (EL_nil ⟨(show (2 : Nat) ≤ sizeLine by decide), h⟩)))))
  refine EX_cons (ES_Return (EV_IfExp (TV_BoolOp (TA_Or_cons (TV_Compare (EV_bcall rfl H.g.b_len bb_len rfl (by decide) (EL_cons (EV_loc 1 rfl rfl (EL_nil (CV_len_bytes (by omega) (EV_loc 3 rfl rfl (CO_lt (TU_bool ?_)))))))))))))
  by_cases hlt : b.size < l0
  · rw [show decide ((b.size : Int) < (l0 : Int)) = true from by simpa using hlt, decide_eq_true hlt]
    exact bad (retW rfl)
  · rw [show decide ((b.size : Int) < (l0 : Int)) = false from by simpa using hlt, decide_eq_false hlt]
    refine TA_Or_cons (TV_BoolOp (TA_And_cons (TV_Compare (EV_loc 4 rfl rfl (EV_none (CO_notNone (TU_bool ?_)))))))
    rw [optI_none]
    cases h0 with
    | none => exact TA_Or_nil (good (retW rfl))
    | some m =>
      refine TA_And_cons (TV_Compare (EV_bcall rfl H.g.b_len bb_len rfl (by decide) (EL_cons (EV_loc 1 rfl rfl (EL_nil (CV_len_bytes (by omega) (EV_loc 4 rfl rfl (CO_gt (TU_bool ?_)))))))))
      have ha : above (some m) b.size = decide ((b.size : Int) > (m : Int)) := by simp [above]
      rw [ha]
      cases decide ((b.size : Int) > (m : Int)) with
      | true => exact TA_And_nil (bad (retW rfl))
      | false => exact TA_Or_nil (good (retW rfl))
theorem R_truth (H : KEnd2 G) {n : Nat} {t : AV} (ht : itOk n t) (hD : D.n + 40 ≤ 900) (hq : D.q = true) : EX G (S1811 D) ⟨[some Plan.truth.av, some t, some (.str "truth"), some .none, some .none, none, none, none, none, none, none, none], []⟩ ((defBody d1811).drop 1) (kW (readP .truth t)) xW := by
  have hn : 10 * D.up.n < cLine := by show 10 * (D.n + 1) < 9900; omega
  refine EX_cons (ES_If (TV_Compare (EV_loc 2 rfl rfl (EV_str (CO_str_eq (TU_bool ?_))))))
  refine EX_nil ?_
  refine EX_cons (ES_If (TV_Compare (EV_loc 2 rfl rfl (EV_str (CO_str_eq (TU_bool ?_))))))
  refine EX_nil ?_
  refine EX_cons (ES_If (TV_Compare (EV_loc 2 rfl rfl (EV_str (CO_str_eq (TU_bool ?_))))))
  cases t with
  | bytes b =>
    refine EX_cons (ES_If (TV_BoolOp (TA_Or_cons (TV_Compare (EV_loc 1 rfl rfl (EV_bytes (CO_bytes_eq (TU_bool ?_))))))))
    by_cases h0 : b.toList = []
    · have hw : readP .truth (.bytes b) = (AV.bool false, ("" : Str)) := by rw [readP, if_pos (.inl h0), h0]; rfl
      rw [hw, h0]
      refine EX_cons (ES_Return (EV_Tuple (EL_cons (EV_Compare (EV_loc 1 rfl rfl (EV_bytes (CO_bytes_eq ?_)))))))
      rw [h0]
      exact EL_cons (EV_str (EL_nil ⟨(show (2 : Nat) ≤ sizeLine by decide), retW rfl⟩))
    · rw [show (b.toList == ([] : List UInt8).toArray.toList) = false from by simpa using h0]
      refine TA_Or_cons (TV_Compare (EV_loc 1 rfl rfl (EV_bytes (CO_bytes_eq (TU_bool ?_)))))
      by_cases h1 : b.toList = [1]
      · have hw : readP .truth (.bytes b) = (AV.bool true, ("" : Str)) := by rw [readP, if_pos (.inr h1), h1]; rfl
        rw [hw, h1]
        refine EX_cons (ES_Return (EV_Tuple (EL_cons (EV_Compare (EV_loc 1 rfl rfl (EV_bytes (CO_bytes_eq ?_)))))))
        rw [h1]
        exact EL_cons (EV_str (EL_nil ⟨(show (2 : Nat) ≤ sizeLine by decide), retW rfl⟩))
      · have hw : readP .truth (.bytes b) = (AV.none, ("Invalid serialized boolean.  Must be either 0x01 or 0x00" : Str)) := by rw [readP, if_neg (by simp [h0, h1])]
        rw [hw, show (b.toList == ([1] : List UInt8).toArray.toList) = false from by simpa using h1]
        refine TA_Or_nil (EX_nil ?_)
        exact EX_cons (ES_none (retW rfl))
  | list ds =>
    have hw : readP .truth (.list ds) = (AV.none, ("Invalid serialized boolean.  Must be either 0x01 or 0x00" : Str)) := by simp only [readP]
    rw [hw]
    refine EX_cons (ES_If (TV_BoolOp (TA_Or_cons (TV_Compare (EV_loc 1 rfl rfl (EV_bytes (CO_list_bytes (TU_bool ?_) hn)))))))
    refine TA_Or_cons (TV_Compare (EV_loc 1 rfl rfl (EV_bytes (CO_list_bytes (TU_bool ?_) hn))))
    refine TA_Or_nil (EX_nil ?_)
    exact EX_cons (ES_none (retW rfl))
  | _ => cases n <;> exact ht.elim
/-- the loop over the places; for a row, `most` is none -/
theorem R_loop (H : KEnd2 G) {d : Nat} (IH : LRs G d) {n : Nat} {PS ds : List AV} {L : List (AV × Str)} {most : Option Nat} {many : Bool} {on : AV} {pl tw : Option AV} (hon : many = true → on = optI most) (hmost : many = false → most = none) (hm2 : most.getD 0 ≤ 2) (hP : ∀ (i : Nat) (x pa : AV), ds[i]? = some x → PS[i]? = some pa → ∃ p, pa = p.av ∧ p.depth < d ∧ p.ok ∧ fits p x ∧ L[i]? = some (readP p x)) (hL : L.length = min PS.length ds.length) (hps : PS.length ≤ 4) (hds : ds.length ≤ 4) (ht : ∀ x ∈ ds, itOk n x) (hD : D.n + 70 + 30 * d ≤ 900) (hq : D.q = true) :
    EX G (S1811 D) ⟨[pl, some (.list ds), some (.str (if many then "many" else "row")), some on, tw, none, none, some (.list PS), none, none, none, none], []⟩ ((defBody d1811).drop 7) (kW (foldR most 0 L [])) xW := by
  have H' := H.toKAll
  have hq' : D.up.q = true := hq
  have hzz : sizeLine = 16777216 := rfl
  have hD' : D.up.n + 20 ≤ 900 := by show D.n + 1 + 20 ≤ 900; omega
  refine EX_cons (ES_Assign_Name 8 rfl (EV_ListOwn (EL_nil ⟨by decide, fun fa => ?_⟩)))
  refine EX_cons (ES_For rfl (IE_of1 (IE1_range hq' (EV_blt rfl H.g.b_range bb_range (by decide) ⟨rfl, ?_⟩))))
  refine EV_bcall rfl H.g.b_min bb_min rfl (by decide) (EL_cons (EV_bcall rfl H.g.b_len bb_len rfl (by decide) (EL_cons (EV_loc 7 rfl rfl (EL_nil (CV_len_list (by omega) ?_))))))
  refine EL_cons (EV_bcall rfl H.g.b_len bb_len rfl (by decide) (EL_cons (EV_loc 1 rfl rfl (EL_nil (CV_len_list (by omega) (EL_nil (CV_min hq' ⟨min PS.length ds.length, by rw [minI], by omega, ?_⟩)))))))
  let J : Nat → AS → Prop := fun i σ => ∃ acc a b c, σ = ⟨[pl, some (.list ds), some (.str (if many then "many" else "row")), some on, tw, none, none, some (.list PS), some (.own fa), a, b, c], [(fa, .list acc)]⟩ ∧ acc.length = i ∧ foldR most 0 L [] = foldR most i (L.drop i) acc
  refine ⟨J, ⟨[], _, _, _, rfl, rfl, by rw [List.drop_zero]⟩, ?_, ?_⟩
  · rintro i it σi hit ⟨acc, a, b, c, rfl, hacc, hfold⟩
    obtain ⟨hi, rfl⟩ := rangeI_get hit
    have hi1 : i < PS.length := by omega
    have hi2 : i < ds.length := by omega
    have hx : ds[i]? = some ds[i] := List.getElem?_eq_getElem hi2
    have hpa : PS[i]? = some PS[i] := List.getElem?_eq_getElem hi1
    obtain ⟨p, hp1, hp2, hp3, hpf, hp4⟩ := hP i _ _ hx hpa
    rw [hp1] at hpa
    have hmem : ds[i] ∈ ds := List.getElem_mem hi2
    have LF := IH D.up p n ds[i] hp2 hp3 (by show D.n + 1 + 40 + 30 * d ≤ 900; omega) hq (ht _ hmem) hpf
    have hwl := words_lenR d p ds[i] n (by omega) hp3 (ht _ hmem)
    refine AI_one (AG_Name 9 rfl rfl ?_)
    have hto : ((i : Int)).toNat = i := by omega
    have rest : ∀ {kf : AF → AS → Prop}, (∀ a σ, kW (foldR most 0 L []) (.ret a) σ → kf (.ret a) σ) → full most i = false → EX G (S1811 D) ⟨[pl, some (.list ds), some (.str (if many then "many" else "row")), some on, tw, none, none, some (.list PS), some (.own fa), some (.int (i : Int)), b, c], [(fa, .list acc)]⟩ ((match ((defBody d1811).drop 8).headD default with | .For _ _ b _ _ => b | _ => []).drop 1) (loopK J kf i) xW := by
      intro kf hkf hfull
      refine EX_cons (ES_Assign_Tuple (EV_gcall rfl H.g.g_law_read H.g.kf1811 (EL_cons (EV_Subscript (EV_loc 7 rfl rfl (EV_loc 9 rfl rfl (SU_list (by omega) (by omega) (by rw [hto]; exact hpa) ?_)))))))
      refine EL_cons (EV_Subscript (EV_loc 1 rfl rfl (EV_loc 9 rfl rfl (SU_list (by omega) (by omega) (by rw [hto]; exact hx) (EL_nil (CV_fn0 (S := S1811 D) LF.noX (K := fun v => v = .tuple [(readP p ds[i]).1, .str (readP p ds[i]).2]) (KX := fun _ => False) (fun v hv => ?_) fun _ z => z.elim))))))
      subst hv
      refine AG_Tuple hq' ⟨rfl, AG_Name 10 rfl rfl ⟨rfl, AG_Name 11 rfl rfl ?_⟩⟩
      refine EX_cons (ES_If (TV_Compare (EV_loc 11 rfl rfl (EV_str (CO_str_ne (TU_bool ?_))))))
      by_cases hw : (readP p ds[i]).2 = ""
      · rw [show ((readP p ds[i]).2 != ("" : Str)) = false from by simp [hw]]
        refine EX_nil ?_
        refine EX_cons (ES_Expr (EV_Meth (EV_loc 8 rfl rfl ⟨.builtin "list.append", _, rfl, GM_append (ds := acc) (.head _), ?_⟩)))
        refine EL_cons (EV_loc 10 rfl rfl (EL_nil (CV_append (own := []) (rest := []) rfl (by omega) ?_)))
        refine EX_nil ⟨acc ++ [(readP p ds[i]).1], _, _, _, rfl, by rw [List.length_append, hacc]; rfl, ?_⟩
        rw [hfold, drop_get hp4]
        exact foldR_ok hfull hw
      · rw [show ((readP p ds[i]).2 != ("" : Str)) = true from by simpa using hw]
        refine EX_cons (ES_Return (EV_Tuple (EL_cons (EV_none (EL_cons ?_)))))
        refine EV_gcall rfl H.g.g_law_wrapped H.g.kf1797 (EL_cons (EV_str (EL_cons (EV_loc 9 rfl rfl (EL_cons (EV_loc 11 rfl rfl (EL_nil (CV_fn0 (S := S1811 D) (C1797 H' (by decide) (by omega) (by omega) hD').noX (K := fun v => v = .str (wrapped "Deserialization" i (readP p ds[i]).2)) (KX := fun _ => False) (fun v hv => ?_) fun _ z => z.elim))))))))
        subst hv
        refine EL_nil ⟨(show (2 : Nat) ≤ sizeLine by decide), hkf _ _ ⟨[], _, rfl, List.Subset.refl _, rfl, ?_⟩⟩
        rw [hfold, drop_get hp4, foldR_err hfull hw]
        rfl
    refine EX_cons (ES_If (TV_BoolOp (TA_And_cons (TV_Compare (EV_loc 2 rfl rfl (EV_str (CO_str_eq (TU_bool ?_))))))))
    cases many with
    | false =>
      have hm := hmost rfl
      exact EX_nil (rest (fun a σ h => h) (by rw [hm]; rfl))
    | true =>
      have ho := hon rfl
      subst ho
      refine TA_And_cons (TV_Compare (EV_loc 3 rfl rfl (EV_none (CO_notNone (TU_bool ?_)))))
      rw [optI_none]
      cases most with
      | none => exact EX_nil (rest (fun a σ h => h) rfl)
      | some m =>
        have hm2 : m ≤ 2 := hm2
        refine TA_And_cons (TV_Compare (EV_loc 9 rfl rfl (EV_loc 3 rfl rfl (CO_ge (TU_bool ?_)))))
        by_cases hge : i ≥ m
        · rw [show decide ((i : Int) ≥ (m : Int)) = true from by simpa using hge]
          refine TA_And_nil ?_
          have hfull : full (some m) i = true := by simpa [full] using hge
          have e1 : ("Too many elements (more than " : Str).length ≤ 40 := by decide
          have e3 : (")" : Str).length ≤ 4 := by decide
          have hdl := dig_len (i := m) (by omega)
          refine EX_cons (ES_Return (EV_Tuple (EL_cons (EV_none (EL_cons (EV_BinOp (EV_BinOp (EV_str ?_))))))))
          refine EV_bcall rfl H.g.b_str bb_str rfl (by decide) (EL_cons (EV_loc 3 rfl rfl (EL_nil (CV_str_int (small_log (by omega)) (BO_str (by omega) (EV_str (BO_str (by rw [str_app_len]; omega) (EL_nil ⟨(show (2 : Nat) ≤ sizeLine by decide), ⟨[], _, rfl, List.Subset.refl _, rfl, ?_⟩⟩))))))))
          rw [hfold, drop_get hp4, foldR_full hfull]
          rfl
        · rw [show decide ((i : Int) ≥ (m : Int)) = false from by simpa using hge]
          exact EX_nil (rest (fun a σ h => h) (by simpa [full] using hge))
  · rintro σn ⟨acc, a, b, c, rfl, hacc, hfold⟩
    rw [rangeI_length] at hacc hfold
    rw [List.drop_of_length_le (by omega), foldR] at hfold
    refine EX_cons (ES_Return (EV_Tuple (EL_cons (EV_bcall rfl H.g.b_tuple bb_tuple rfl (by decide) (EL_cons (EV_loc 8 rfl rfl (EL_nil (CV_tuple_own (.head _) ?_ (EL_cons (EV_str (EL_nil ⟨(show (2 : Nat) ≤ sizeLine by decide), ⟨[], _, rfl, List.Subset.refl _, rfl, ?_⟩⟩)))))))))))
    · omega
    · rw [hfold]
      rfl
theorem R_row (H : KEnd2 G) {d : Nat} (IH : LRs G d) {n : Nat} {s : Bool} {ps : List Plan} {t : AV} (hd : plansDepth ps < d) (ho : (Plan.row s ps).ok) (ht : itOk n t) (hf : fits (.row s ps) t) (hD : D.n + 70 + 30 * d ≤ 900) (hq : D.q = true) : EX G (S1811 D) ⟨[some (Plan.row s ps).av, some t, some (.str "row"), some (.bool s), some (.list (plansAv ps)), none, none, none, none, none, none, none], []⟩ ((defBody d1811).drop 1) (kW (readP (.row s ps) t)) xW := by
  obtain ⟨T, hT⟩ := thOk_ty (itOk_th ht)
  have hzz : sizeLine = 16777216 := rfl
  refine EX_cons (ES_If (TV_Compare (EV_loc 2 rfl rfl (EV_str (CO_str_eq (TU_bool ?_))))))
  refine EX_nil ?_
  refine EX_cons (ES_If (TV_Compare (EV_loc 2 rfl rfl (EV_str (CO_str_eq (TU_bool ?_))))))
  refine EX_nil ?_
  refine EX_cons (ES_If (TV_Compare (EV_loc 2 rfl rfl (EV_str (CO_str_eq (TU_bool ?_))))))
  refine EX_nil ?_
  refine EX_cons (ES_If (TV_Not (TV_value (EV_isi rfl H.g rfl H.g.b_list bb_list (by decide) (by decide) (EV_loc 1 rfl rfl ⟨rfl, hT, TU_bool ?_⟩)))))
  cases hB : subT T "list" with
  | false =>
    have hw : readP (.row s ps) t = (AV.none, ("Can only deserialize sequences" : Str)) := by
      cases t <;> first | (simp only [readP]; done) | (simp only [tyN, Option.some.injEq, reduceCtorEq] at hT <;> subst hT <;> exact absurd hB (by decide))
    rw [hw]
    exact EX_cons (ES_none (retW rfl))
  | true =>
  obtain ⟨ds, rfl⟩ : ∃ b, t = .list b := by
    cases t <;> first | exact ⟨_, rfl⟩ | (simp only [tyN, Option.some.injEq, reduceCtorEq] at hT <;> subst hT <;> exact absurd hB (by decide))
  obtain ⟨n, rfl⟩ : ∃ m, n = m + 1 := by cases n with | zero => exact ht.elim | succ m => exact ⟨m, rfl⟩
  obtain ⟨ho1, ho2, ho3⟩ := ho
  obtain ⟨ht1, ht2⟩ := ht
  rw [fits] at hf
  refine EX_nil ?_
  have rest : readP (.row s ps) (.list ds) = foldR none 0 (readZ ps ds) [] → EX G (S1811 D) ⟨[some (Plan.row s ps).av, some (.list ds), some (.str "row"), some (.bool s), some (.list (plansAv ps)), none, none, none, none, none, none, none], []⟩ ((defBody d1811).drop 6) (kW (readP (.row s ps) (.list ds))) xW := by
    intro hw
    rw [hw]
    refine EX_cons (ES_Assign_Name 7 rfl (EV_IfExp (TV_Compare (EV_loc 2 rfl rfl (EV_str (CO_str_eq (TU_bool ?_)))))))
    refine EV_loc 4 rfl rfl ?_
    refine R_loop H IH (many := false) (most := none) (PS := plansAv ps) (ds := ds) (L := readZ ps ds) (by intro e; cases e) (fun _ => rfl) (by decide) (fun i x pa hx hpa => ?_) (by rw [readZ_length, plansAv_length]) (by rw [plansAv_length]; omega) ht1 ht2 hD hq
    have hi : i < ps.length := by rw [← plansAv_length]; exact (List.getElem?_eq_some_iff.mp hpa).1
    have hp : ps[i]? = some ps[i] := List.getElem?_eq_getElem hi
    refine ⟨ps[i], ?_, ?_, plansOk_get ho3 hp, fitsZ_get hf hp hx, readZ_get hp hx⟩
    · rw [plansAv_get hp] at hpa; exact (Option.some.inj hpa).symm
    · have := plansDepth_get hp; omega
  refine EX_cons (ES_If (TV_BoolOp (TA_And_cons (TV_Compare (EV_loc 2 rfl rfl (EV_str (CO_str_eq (TU_bool ?_))))))))
  refine TA_And_cons (TV_value (EV_loc 3 rfl rfl (TU_bool ?_)))
  cases s with
  | false => exact EX_nil (rest (by rw [readP, if_neg (by simp)]))
  | true =>
    refine TA_And_cons (TV_Compare (EV_bcall rfl H.g.b_len bb_len rfl (by decide) (EL_cons (EV_loc 1 rfl rfl (EL_nil (CV_len_list (by omega) ?_))))))
    refine EV_bcall rfl H.g.b_len bb_len rfl (by decide) (EL_cons (EV_loc 4 rfl rfl (EL_nil (CV_len_list (by rw [plansAv_length]; omega) (CO_ne (TU_bool ?_))))))
    rw [plansAv_length]
    by_cases hne : ds.length = ps.length
    · rw [show ((ds.length : Int) != (ps.length : Int)) = false from by rw [hne]; simp]
      exact EX_nil (rest (by rw [readP, if_neg (by simp [hne])]))
    · rw [show ((ds.length : Int) != (ps.length : Int)) = true from by simp; omega]
      refine TA_And_nil ?_
      have hw : readP (.row true ps) (.list ds) = (AV.none, ("Deserializing list length (" ++ toString (ds.length : Int) ++ ") does not match sedes (" ++ toString (ps.length : Int) ++ ")" : Str)) := by rw [readP, if_pos ⟨rfl, hne⟩]
      have h1 := dig_len (i := ds.length) (by omega)
      have h2 := dig_len (i := ps.length) (by omega)
      have e1 : ("Deserializing list length (" : Str).length ≤ 30 := by decide
      have e2 : (") does not match sedes (" : Str).length ≤ 30 := by decide
      have e3 : (")" : Str).length ≤ 4 := by decide
      rw [hw]
      refine EX_cons (ES_Return (EV_Tuple (EL_cons (EV_none (EL_cons (EV_BinOp (EV_BinOp (EV_BinOp (EV_BinOp (EV_str ?_))))))))))
      refine EV_bcall rfl H.g.b_str bb_str rfl (by decide) (EL_cons (EV_bcall rfl H.g.b_len bb_len rfl (by decide) (EL_cons (EV_loc 1 rfl rfl (EL_nil (CV_len_list (by omega) (EL_nil (CV_str_int (small_log (by omega)) (BO_str (by omega) (EV_str (BO_str (by rw [str_app_len]; omega) ?_)))))))))))
      refine EV_bcall rfl H.g.b_str bb_str rfl (by decide) (EL_cons (EV_bcall rfl H.g.b_len bb_len rfl (by decide) (EL_cons (EV_loc 4 rfl rfl (EL_nil (CV_len_list (by rw [plansAv_length]; omega) (EL_nil (CV_str_int (small_log (by rw [plansAv_length]; omega)) (BO_str (by rw [plansAv_length, str_app_len, str_app_len]; omega) (EV_str (BO_str (by rw [plansAv_length, str_app_len, str_app_len, str_app_len]; omega) (EL_nil ⟨(show (2 : Nat) ≤ sizeLine by decide), retW ?_⟩))))))))))))
      rw [plansAv_length]
theorem R_many (H : KEnd2 G) {d : Nat} (IH : LRs G d) {n : Nat} {m : Option Nat} {p : Plan} {t : AV} (hd : p.depth < d) (ho : (Plan.many m p).ok) (ht : itOk n t) (hf : fits (.many m p) t) (hD : D.n + 70 + 30 * d ≤ 900) (hq : D.q = true) : EX G (S1811 D) ⟨[some (Plan.many m p).av, some t, some (.str "many"), some (optI m), some p.av, none, none, none, none, none, none, none], []⟩ ((defBody d1811).drop 1) (kW (readP (.many m p) t)) xW := by
  obtain ⟨T, hT⟩ := thOk_ty (itOk_th ht)
  have hzz : sizeLine = 16777216 := rfl
  refine EX_cons (ES_If (TV_Compare (EV_loc 2 rfl rfl (EV_str (CO_str_eq (TU_bool ?_))))))
  refine EX_nil ?_
  refine EX_cons (ES_If (TV_Compare (EV_loc 2 rfl rfl (EV_str (CO_str_eq (TU_bool ?_))))))
  refine EX_nil ?_
  refine EX_cons (ES_If (TV_Compare (EV_loc 2 rfl rfl (EV_str (CO_str_eq (TU_bool ?_))))))
  refine EX_nil ?_
  refine EX_cons (ES_If (TV_Not (TV_value (EV_isi rfl H.g rfl H.g.b_list bb_list (by decide) (by decide) (EV_loc 1 rfl rfl ⟨rfl, hT, TU_bool ?_⟩)))))
  cases hB : subT T "list" with
  | false =>
    have hw : readP (.many m p) t = (AV.none, ("Can only deserialize sequences" : Str)) := by
      cases t <;> first | (simp only [readP]; done) | (simp only [tyN, Option.some.injEq, reduceCtorEq] at hT <;> subst hT <;> exact absurd hB (by decide))
    rw [hw]
    exact EX_cons (ES_none (retW rfl))
  | true =>
  obtain ⟨ds, rfl⟩ : ∃ b, t = .list b := by
    cases t <;> first | exact ⟨_, rfl⟩ | (simp only [tyN, Option.some.injEq, reduceCtorEq] at hT <;> subst hT <;> exact absurd hB (by decide))
  obtain ⟨n, rfl⟩ : ∃ m, n = m + 1 := by cases n with | zero => exact ht.elim | succ m => exact ⟨m, rfl⟩
  obtain ⟨ho1, ho2⟩ := ho
  obtain ⟨ht1, ht2⟩ := ht
  rw [fits] at hf
  refine EX_nil ?_
  refine EX_cons (ES_If (TV_BoolOp (TA_And_cons (TV_Compare (EV_loc 2 rfl rfl (EV_str (CO_str_eq (TU_bool ?_))))))))
  refine EX_nil ?_
  have hw : readP (.many m p) (.list ds) = foldR m 0 (ds.map fun d => readP p d) [] := by rw [readP]
  rw [hw]
  refine EX_cons (ES_Assign_Name 7 rfl (EV_IfExp (TV_Compare (EV_loc 2 rfl rfl (EV_str (CO_str_eq (TU_bool ?_)))))))
  refine EV_ListMul (EL_cons (EV_loc 4 rfl rfl (EL_nil ⟨⟨by simp, (show (1 : Nat) ≤ sizeLine by decide)⟩, EV_bcall rfl H.g.b_len bb_len rfl (by decide) (EL_cons (EV_loc 1 rfl rfl (EL_nil (CV_len_list (by omega) ⟨_, rfl, by omega, by omega, ?_, ?_⟩))))⟩)))
  · show 1 * _ ≤ _
    omega
  rw [replicate_flat, show ((ds.length : Int)).toNat = ds.length from by omega]
  refine R_loop H IH (many := true) (most := m) (PS := List.replicate ds.length p.av) (ds := ds) (L := ds.map fun d => readP p d) (fun _ => rfl) (by intro e; cases e) (by cases m with | none => decide | some q => have := ho1 q rfl; subst this; decide) (fun i x pa hx hpa => ?_) (by simp) (by simp; omega) ht1 ht2 hD hq
  refine ⟨p, ?_, hd, ho2, hf x (List.mem_of_getElem? hx), by rw [List.getElem?_map, hx]; rfl⟩
  exact List.eq_of_mem_replicate (List.mem_of_getElem? hpa)
/-- _law_read -/
theorem LR (H : KEnd2 G) : ∀ d, LRs G d
  | 0 => fun D p n t h => absurd h (Nat.not_lt_zero _)
  | d + 1 => fun D p n t h ho hD hq ht hf => by
    have IH := LR H d
    have hq' : D.up.q = true := hq
    refine Fn_d (names := ["plan", "item", "kind", "one", "two", "number", "digit", "parts", "found", "k", "part", "words"]) (loc := [some p.av, some t, none, none, none, none, none, none, none, none, none, none]) H.fns.f1811 (by show D.n < 1000; omega) (bind2 (fun _ _ _ _ _ _ _ => rfl) rfl rfl rfl rfl) ?_
    refine EX_cons (ES_Assign_Tuple (EV_loc 0 rfl rfl ?_))
    cases p with
    | number one =>
      cases t with
      | bytes b => exact av3 (by rw [Plan.av]) hq' ⟨rfl, AG_Name 2 rfl rfl ⟨rfl, AG_Name 3 rfl rfl ⟨rfl, AG_Name 4 rfl rfl (R_number H ho (by cases n <;> exact ht) (by omega) hq)⟩⟩⟩ rfl rfl
      | _ => exact hf.elim
    | octets lo hi => exact av3 (by rw [Plan.av]) hq' ⟨rfl, AG_Name 2 rfl rfl ⟨rfl, AG_Name 3 rfl rfl ⟨rfl, AG_Name 4 rfl rfl (R_octets H ht (by omega) hq)⟩⟩⟩ rfl rfl
    | truth => exact av3 (by rw [Plan.av]) hq' ⟨rfl, AG_Name 2 rfl rfl ⟨rfl, AG_Name 3 rfl rfl ⟨rfl, AG_Name 4 rfl rfl (R_truth H ht (by omega) hq)⟩⟩⟩ rfl rfl
    | row s ps => exact av3 (by rw [Plan.av]) hq' ⟨rfl, AG_Name 2 rfl rfl ⟨rfl, AG_Name 3 rfl rfl ⟨rfl, AG_Name 4 rfl rfl (R_row H IH (by rw [Plan.depth] at h; omega) ho ht hf (by omega) hq)⟩⟩⟩ rfl rfl
    | many m p => exact av3 (by rw [Plan.av]) hq' ⟨rfl, AG_Name 2 rfl rfl ⟨rfl, AG_Name 3 rfl rfl ⟨rfl, AG_Name 4 rfl rfl (R_many H IH (by rw [Plan.depth] at h; omega) ho ht hf (by omega) hq)⟩⟩⟩ rfl rfl
end
end Mine
end
/-! Pr22 -/
section
open PySem PySem.Calls PyProof.Rows
open PySem.W
namespace Mine
def abIn (K : Frag) : Bool := match K.lookup 1450 with
  | some ⟨c, none, .seq items 0, sl⟩ => c == .type "tuple" && sl.isEmpty && (items.toList.map fun v => match v with | .bytes b _ => some b.toList | _ => none) == (List.range 256).map fun i => some [i.toUInt8]
  | _ => false
structure KV (K : Frag) : Prop where
  ab : abIn K = true
structure KEnd3 (G : Gb) : Prop extends KEnd2 G where
  v : KV G.K
  bi : BiOk G
def allB : List AV := (List.range 256).map fun i => .bytes #[i.toUInt8]
theorem relB {g : Heap} : ∀ {vs : List Value} {is : List Nat}, (vs.map fun v => match v with | .bytes b _ => some b.toList | _ => none) = is.map (fun i => some [i.toUInt8]) → RelL g vs (is.map fun i => .bytes #[i.toUInt8])
  | [], [], _ => .nil
  | [], _ :: _, h => by cases h
  | _ :: _, [], h => by cases h
  | v :: vs, i :: is, h => by
    rw [List.map_cons, List.map_cons, List.cons.injEq] at h
    refine .cons ?_ (relB h.2)
    have h1 := h.1
    cases v with
    | bytes b t =>
      have : b.toList = [i.toUInt8] := Option.some.inj h1
      have hb : b = #[i.toUInt8] := by apply Array.toList_inj.mp; rw [this]
      rw [hb]
      exact .bytes _ _
    | _ => cases h1
theorem allB_at {G : Gb} (ok : GOk G) (h : abIn G.K = true) : RelV G.base (.ref 1450) (.tuple allB) := by
  unfold abIn at h
  split at h
  · rename_i c items sl ho
    rw [Bool.and_eq_true, Bool.and_eq_true, beq_iff_eq, beq_iff_eq] at h
    obtain ⟨⟨rfl, h2⟩, h3⟩ := h
    have hs : sl = #[] := by simpa using h2
    subst hs
    have := ok.K _ _ ho
    exact .tuple (vs := items.toList) (by rw [Array.toArray_toList]; exact this) (relB h3)
  · cases h
theorem allB_get {n : Nat} (h : n < 256) : allB[n]? = some (.bytes #[n.toUInt8]) := by
  unfold allB
  rw [List.getElem?_map, List.getElem?_range h]
  rfl
end Mine
end
/-! Pl4 -/
section
open PySem PySem.Calls PyProof.Rows
open PySem.W
namespace Mine
/-- what stands ahead of a payload -/
def pre (off n : Nat) : List UInt8 := if n < 56 then [(off + n).toUInt8] else (off + 55 + (digits n).length).toUInt8 :: digits n
mutual
def rlp : AV → List UInt8
  | .bytes b => if b.size = 1 ∧ (b.toList.getD 0 0).toNat < 128 then b.toList else pre 128 b.size ++ b.toList
  | .list ds => pre 192 (rlps ds).length ++ rlps ds
  | _ => []
def rlps : List AV → List UInt8
  | [] => []
  | d :: ds => rlp d ++ rlps ds
end
/-- rows of octets, bounded -/
def rok : Nat → AV → Prop
  | _, .bytes b => b.size ≤ 10
  | n + 1, .list ds => ds.length ≤ 5 ∧ ∀ d ∈ ds, rok n d
  | _, _ => False
theorem digits_le {n : Nat} (h : n < 2 ^ 32) : (digits n).length ≤ 4 := by
  rcases Nat.eq_zero_or_pos n with z | z
  · subst z; rw [digits_zero]; decide
  · rw [digits_len z]; exact nb_le (by omega)
theorem pre_len {off n : Nat} (h : n < 2 ^ 32) : (pre off n).length ≤ 5 := by
  unfold pre
  split
  · simp
  · rw [List.length_cons]; have := digits_le h; omega
def rB : Nat → Nat
  | 0 => 20
  | n + 1 => 5 * rB n + 10
theorem rB_le : ∀ {n : Nat}, n ≤ 6 → rB n ≤ 400000 := by decide
theorem rB_mono : ∀ n, rB n ≤ rB (n + 1) := fun n => by rw [rB]; omega
theorem rlps_len {B : Nat} : ∀ {ds : List AV}, (∀ d ∈ ds, (rlp d).length ≤ B) → (rlps ds).length ≤ ds.length * B
  | [], _ => by simp [rlps]
  | d :: ds, h => by
    rw [rlps, List.length_append, List.length_cons, Nat.succ_mul]
    have := rlps_len (ds := ds) fun e he => h e (.tail _ he)
    have := h d (.head _)
    omega
theorem rlp_lenB {n : Nat} {b : Array UInt8} (hb : b.size ≤ 10) : (rlp (.bytes b)).length ≤ rB n := by
  have hB : 20 ≤ rB n := by
    clear hb
    induction n with
    | zero => exact Nat.le_refl _
    | succ n ih => exact Nat.le_trans ih (rB_mono n)
  have hl : b.toList.length = b.size := Array.length_toList
  rw [rlp]
  split
  · omega
  · rw [List.length_append]
    have := pre_len (off := 128) (n := b.size) (by omega)
    omega
theorem rlp_len : ∀ (n : Nat) (t : AV), n ≤ 6 → rok n t → (rlp t).length ≤ rB n := by
  intro n
  induction n with
  | zero =>
    intro t _ h
    cases t <;> first | exact h.elim | exact rlp_lenB h
  | succ n ih =>
    intro t hn h
    cases t <;> first | exact h.elim | exact rlp_lenB h | skip
    rename_i ds
    have h1 : (rlps ds).length ≤ ds.length * rB n := rlps_len fun d hd => ih d (by omega) (h.2 d hd)
    have h2 : ds.length * rB n ≤ 5 * rB n := Nat.mul_le_mul_right _ h.1
    have h3 := rB_le (n := n) (by omega)
    have := pre_len (off := 192) (n := (rlps ds).length) (by omega)
    rw [rlp, rB, List.length_append]
    omega
theorem rlps_flat : ∀ ds : List AV, rlps ds = (ds.map rlp).flatten
  | [] => by simp [rlps]
  | d :: ds => by rw [rlps, rlps_flat ds]; rfl
theorem rok_mono {n : Nat} : ∀ {t : AV}, rok n t → rok (n + 1) t := by
  induction n with
  | zero => intro t h; cases t <;> first | exact h.elim | exact h
  | succ n ih => intro t h; cases t <;> first | exact h.elim | exact h | exact ⟨h.1, fun d hd => ih (h.2 d hd)⟩
/-- the first digit of a number -/
theorem digits_head {n : Nat} (h : 0 < n) : ∃ c l, digits n = c :: l ∧ c ≠ 0 := by
  induction n using Nat.strongRecOn with
  | ind n ih =>
    rw [digits_pos h]
    by_cases hq : n / 256 = 0
    · rw [hq, digits_zero]
      refine ⟨(n % 256).toUInt8, [], rfl, fun e => ?_⟩
      have hn : n < 256 := by omega
      have := congrArg UInt8.toNat e
      rw [Nat.mod_eq_of_lt hn] at this
      have h2 : n.toUInt8.toNat = n := by simp; omega
      rw [h2] at this
      simp at this
      omega
    · obtain ⟨c, l, e, hc⟩ := ih (n / 256) (Nat.div_lt_self h (by decide)) (Nat.pos_of_ne_zero hq)
      rw [e]
      exact ⟨c, l ++ [_], rfl, hc⟩
theorem value_snoc' (l : List Int) (x : Int) : KFB.value (l ++ [x]) = KFB.value l * 256 + x := by
  unfold KFB.value
  rw [List.foldl_append]
  rfl
theorem value_digits : ∀ n : Nat, KFB.value ((digits n).map fun c => ((c.toNat : Nat) : Int)) = n := fun n => by
  induction n using Nat.strongRecOn with
  | ind n ih =>
    rcases Nat.eq_zero_or_pos n with z | z
    · subst z; rw [digits_zero]; rfl
    · rw [digits_pos z, List.map_append, List.map_cons, List.map_nil, value_snoc', ih (n / 256) (Nat.div_lt_self z (by decide))]
      have : (((n % 256).toUInt8.toNat : Nat) : Int) = ((n % 256 : Nat) : Int) := by simp
      rw [this]
      omega
theorem numVal_digits (n : Nat) : numVal (digits n).toArray = n := by
  unfold numVal KBw.bInts
  exact value_digits n
end Mine
end
/-! Pr23 -/
section
open PySem PySem.Calls PyProof.Rows
open PySem.W
namespace Mine
/-- the table of places of encode_raw's code -/
abbrev PT : List (Addr × OV) := [(1702, .ptab 1706)]
section
variable {G : Gb} {D : Lv}
theorem C1729 (H : KEnd3 G) (ok : GOk G) {n off : Nat} (hn : n < 2 ^ 32) (hoff : off ≤ 192) (hD : D.n + 25 ≤ 900) : Fn G D (.ref 1729) [.int n, .int off] [] [] (fun a own' => own' = [] ∧ a = .bytes (pre off n).toArray) (fun _ _ => False) := by
  refine Fn_d (names := ["length", "offset", "length_string"]) (loc := [some (.int n), some (.int off), none]) H.fns.f1729 (by show D.n < 1000; omega) (bind2 (fun _ _ _ _ _ _ _ => rfl) rfl rfl rfl rfl) ?_
  have hD' : D.up.n + 20 ≤ 900 := by show D.n + 1 + 20 ≤ 900; omega
  have hAB := allB_at ok H.v.ab
  refine EX_cons (ES_If (TV_Compare (EV_loc 0 rfl rfl (EV_int (CO_lt (TU_bool ?_))))))
  by_cases h : n < 56
  · rw [decide_eq_true (by omega : (n : Int) < 56)]
    refine EX_cons (ES_Return (EV_Subscript (EV_globA rfl H.g.g_ALL_BYTES hAB (EV_BinOp (EV_loc 1 rfl rfl (EV_loc 0 rfl rfl (BO_add (SU_tuple (by omega) (by omega) (allB_get (n := off + n) (by omega)) ?_))))))))
    refine ⟨[], _, rfl, List.Subset.refl _, rfl, ?_⟩
    unfold pre
    rw [if_pos h]
    rfl
  · rw [decide_eq_false (by omega : ¬ (n : Int) < 56)]
    refine EX_cons (ES_If (TV_Compare (EV_loc 0 rfl rfl (EV_globA rfl H.g.g_LONG (.int _ _) (CO_lt (TU_bool ?_))))))
    rw [decide_eq_true (by omega : (n : Int) < 18446744073709551616)]
    have hdl := digits_le hn
    refine EX_cons (ES_Assign_Name 2 rfl (EV_gcall rfl H.g.g_int_to_big_endian H.g.kf1471 (EL_cons (EV_loc 0 rfl rfl (EL_nil (CV_fn0 (C1471 H.toKAll (by omega) (by omega) hD').noX (K := fun v => v = .bytes (digits n).toArray) (KX := fun _ => False) (fun v hv => ?_) fun _ z => z.elim))))))
    subst hv
    refine EX_cons (ES_Return (EV_BinOp (EV_Subscript (EV_globA rfl H.g.g_ALL_BYTES hAB (EV_BinOp (EV_BinOp (EV_BinOp (EV_loc 1 rfl rfl (EV_int (BO_add (EV_int (BO_sub ?_))))))))))))
    refine EV_bcall rfl H.g.b_len bb_len rfl (by decide) (EL_cons (EV_loc 2 rfl rfl (EL_nil (CV_len_bytes (by simp; omega) (BO_add (SU_tuple (d := .bytes #[(off + 55 + (digits n).length).toUInt8]) (by simp; omega) (by simp; omega) ?_ (EV_loc 2 rfl rfl (BO_bytes (by simp; omega) ?_))))))))
    · have e : ((off : Int) + 56 - 1 + ((digits n).toArray.size : Int)).toNat = off + 55 + (digits n).length := by simp; omega
      rw [e]
      exact allB_get (by omega)
    · refine ⟨[], _, rfl, List.Subset.refl _, rfl, ?_⟩
      unfold pre
      rw [if_neg h]
      apply congrArg AV.bytes
      simp
def ENs (G : Gb) (d : Nat) : Prop := ∀ (D : Lv) (t : AV), rok d t → D.n + 60 + 10 * d ≤ 900 → D.q = true → Fn G D (.ref 1707) [t] [] PT (fun v own' => own' = PT ∧ v = .bytes (rlp t).toArray) (fun _ _ => False)
theorem joined_rlps {ds : List AV} : Builtin.Bytes.joined #[] (ds.map fun d => (rlp d).toArray) = (rlps ds).toArray := by
  rw [joined_eq, rlps_flat, List.map_map]
  rfl
theorem sum_sizes : ∀ ds : List AV, ((ds.map fun d => (rlp d).toArray).map (·.size)).sum = (rlps ds).length
  | [] => by simp [rlps]
  | d :: ds => by
    rw [List.map_cons, List.map_cons, List.sum_cons, sum_sizes ds, rlps, List.length_append]
    simp
abbrev S1707 (D : Lv) : St := ⟨"encode_raw", sc1707, 1707, .ref 1706, ["item", "payload", "prefix_offset", "msg", "prefix"], D.up, false⟩
theorem E_tail (H : KEnd3 G) (ok : GOk G) {t : AV} {b : Array UInt8} {off : Nat} {o1 : Option AV} (hb : b.size ≤ 1000000) (hoff : off ≤ 192) (hD : D.n + 40 ≤ 900) :
    EX G (S1707 D) ⟨[some t, some (.bytes b), some (.int off), o1, none], PT⟩ ((defBody d1707).drop 1) (EndF PT fun v own' => own' = PT ∧ v = .bytes (pre off b.size ++ b.toList).toArray) (EndX PT fun _ _ => False) := by
  have hpl := pre_len (off := off) (n := b.size) (by omega)
  refine EX_cons (ES_TryPlain ?_)
  refine EX_cons (ES_Assign_Name 4 rfl (EV_gcall rfl H.g.g_length_prefix H.g.kf1729 (EL_cons (EV_bcall rfl H.g.b_len bb_len rfl (by decide) (EL_cons (EV_loc 1 rfl rfl (EL_nil (CV_len_bytes (by omega) ?_))))))))
  refine EL_cons (EV_loc 2 rfl rfl (EL_nil (CV_fn0 (C1729 H ok (n := b.size) (by omega) hoff (by show D.n + 1 + 25 ≤ 900; omega)).noX (K := fun v => v = .bytes (pre off b.size).toArray) (KX := fun _ => False) (fun v hv => ?_) fun _ z => z.elim)))
  subst hv
  refine EX_nil ?_
  refine EX_cons (ES_Return (EV_BinOp (EV_loc 4 rfl rfl (EV_loc 1 rfl rfl (BO_bytes (by simp; omega) ?_)))))
  refine ⟨PT, [], rfl, List.Subset.refl _, rfl, ?_⟩
  apply congrArg AV.bytes
  apply Array.toList_inj.mp
  simp
theorem E_bytes (H : KEnd3 G) (ok : GOk G) {b : Array UInt8} (hb : b.size ≤ 10) (hD : D.n + 60 ≤ 900) (hq : D.q = true) : Fn G D (.ref 1707) [.bytes b] [] PT (fun v own' => own' = PT ∧ v = .bytes (rlp (.bytes b)).toArray) (fun _ _ => False) := by
  refine Fn_d (names := ["item", "payload", "prefix_offset", "msg", "prefix"]) (loc := [some (.bytes b), none, none, none, none]) H.fns.f1707 (by show D.n < 1000; omega) (bind1 (fun _ _ _ _ _ _ => rfl) rfl rfl) ?_
  refine EX_cons (ES_If (TV_value (EV_isiTup H.toKAll (Us := ["bytes", "bytearray"]) (T := "bytes") (d := .bytes b) rfl (by decide) (by decide) (EV_loc 0 rfl rfl ⟨rfl, rfl, ?_⟩))))
  refine EL_cons (EV_blt rfl H.g.b_bytes bb_bytes (by decide) (EL_cons (EV_blt rfl H.g.b_bytearray bb_bytearray (by decide) (EL_nil ⟨rfl, TU_bool ?_⟩))))
  rw [subT_bytes (d := .bytes b) rfl]
  have rest : ∀ {kf : AF → AS → Prop}, ¬ (b.size = 1 ∧ (b.toList.getD 0 0).toNat < 128) → (∀ σ, σ = ⟨[some (.bytes b), some (.bytes b), some (.int ((128 : Nat) : Int)), none, none], PT⟩ → kf .next σ) → EX G (S1707 D) ⟨[some (.bytes b), none, none, none, none], PT⟩ ((match (defBody d1707).headD default with | .If _ b _ _ => b | _ => []).drop 1) kf (EndX PT fun _ _ => False) := by
    intro kf _ hkf
    refine EX_cons (ES_Assign_Name 1 rfl (EV_loc 0 rfl rfl ?_))
    exact EX_cons (ES_Assign_Name 2 rfl (EV_int (EX_nil (hkf _ rfl))))
  have fin : ∀ {σ : AS}, ¬ (b.size = 1 ∧ (b.toList.getD 0 0).toNat < 128) → σ = ⟨[some (.bytes b), some (.bytes b), some (.int ((128 : Nat) : Int)), none, none], PT⟩ → EX G (S1707 D) σ ((defBody d1707).drop 1) (EndF PT fun v own' => own' = PT ∧ v = .bytes (rlp (.bytes b)).toArray) (EndX PT fun _ _ => False) := by
    rintro σ hn rfl
    have := E_tail (D := D) H ok (t := .bytes b) (b := b) (off := 128) (o1 := none) (by omega) (by decide) (by omega)
    rw [rlp, if_neg hn]
    exact this
  refine EX_cons (ES_If (TV_BoolOp (TA_And_cons (TV_Compare (EV_bcall rfl H.g.b_len bb_len rfl (by decide) (EL_cons (EV_loc 0 rfl rfl (EL_nil (CV_len_bytes (by omega) (EV_int (CO_eq (TU_bool ?_))))))))))))
  by_cases h1 : b.size = 1
  · rw [show (((b.size : Nat) : Int) == 1) = true from by rw [h1]; rfl]
    obtain ⟨l, rfl⟩ : ∃ l : List UInt8, b = l.toArray := ⟨b.toList, by simp⟩
    have hl : l.length = 1 := by simpa using h1
    refine TA_And_cons (TV_Compare (EV_Subscript (EV_loc 0 rfl rfl (EV_int (SU_bytes (by omega) (by decide) (by omega) (EV_int (CO_lt (TU_bool ?_))))))))
    by_cases h2 : (l.getD 0 0).toNat < 128
    · rw [show decide ((((l.getD (0 : Int).toNat 0).toNat : Nat) : Int) < 128) = true from by simpa using (by omega : (((l.getD 0 0).toNat : Nat) : Int) < 128)]
      refine TA_And_nil ?_
      refine EX_cons (ES_Return (EV_loc 0 rfl rfl ⟨PT, [], rfl, List.Subset.refl _, rfl, ?_⟩))
      rw [rlp, if_pos ⟨h1, h2⟩]
      rfl
    · rw [show decide ((((l.getD (0 : Int).toNat 0).toNat : Nat) : Int) < 128) = false from by simpa using (by omega : ¬ (((l.getD 0 0).toNat : Nat) : Int) < 128)]
      have hn : ¬ (l.toArray.size = 1 ∧ (l.toArray.toList.getD 0 0).toNat < 128) := fun h => h2 h.2
      exact EX_nil (rest hn fun σ hσ => fin hn hσ)
  · rw [show (((b.size : Nat) : Int) == 1) = false from by simpa using (by omega : ¬ ((b.size : Nat) : Int) = 1)]
    have hn : ¬ (b.size = 1 ∧ (b.toList.getD 0 0).toNat < 128) := fun h => h1 h.1
    exact EX_nil (rest hn fun σ hσ => fin hn hσ)
theorem E_list (H : KEnd3 G) (ok : GOk G) {d : Nat} (IH : ENs G d) (hd : d ≤ 5) {ds : List AV} (ht : rok (d + 1) (.list ds)) (hD : D.n + 70 + 10 * d ≤ 900) (hq : D.q = true) : Fn G D (.ref 1707) [.list ds] [] PT (fun v own' => own' = PT ∧ v = .bytes (rlp (.list ds)).toArray) (fun _ _ => False) := by
  refine Fn_d (names := ["item", "payload", "prefix_offset", "msg", "prefix"]) (loc := [some (.list ds), none, none, none, none]) H.fns.f1707 (by show D.n < 1000; omega) (bind1 (fun _ _ _ _ _ _ => rfl) rfl rfl) ?_
  refine EX_cons (ES_If (TV_value (EV_isiTup H.toKAll (Us := ["bytes", "bytearray"]) (T := "list") (d := .list ds) rfl (by decide) (by decide) (EV_loc 0 rfl rfl ⟨rfl, rfl, ?_⟩))))
  refine EL_cons (EV_blt rfl H.g.b_bytes bb_bytes (by decide) (EL_cons (EV_blt rfl H.g.b_bytearray bb_bytearray (by decide) (EL_nil ⟨rfl, TU_bool ?_⟩))))
  rw [subT_bytes (d := .list ds) rfl]
  refine EX_cons (ES_If (TV_value (EV_isiTup H.toKAll (Us := ["list", "tuple"]) (T := "list") (d := .list ds) rfl (by decide) (by decide) (EV_loc 0 rfl rfl ⟨rfl, rfl, ?_⟩))))
  refine EL_cons (EV_blt rfl H.g.b_list bb_list (by decide) (EL_cons (EV_blt rfl H.g.b_tuple bb_tuple (by decide) (EL_nil ⟨rfl, TU_bool ?_⟩))))
  rw [subT_rows (d := .list ds) rfl]
  have h1 : (rlps ds).length ≤ ds.length * rB d := rlps_len fun e he => rlp_len d e (by omega) (ht.2 e he)
  have h2 : ds.length * rB d ≤ 5 * rB d := Nat.mul_le_mul_right _ ht.1
  have h3 := rB_le (n := d + 1) (by omega)
  rw [rB] at h3
  refine EX_cons (ES_Assign_Name 1 rfl (EV_JoinGen (bs := ds.map fun d => (rlp d).toArray) hq rfl rfl rfl H.bi (by show D.n + 1 + 20 ≤ 900; omega) 0 rfl rfl H.g.g_encode_raw H.g.kf1707 (by simp) (by have := ht.1; simp; omega) (by rw [sum_sizes]; omega) (fun i e he => ?_) ?_))
  · have := IH D.up.up e (ht.2 e (List.mem_of_getElem? he)) (by show D.n + 1 + 1 + 60 + 10 * d ≤ 900; omega) hq
    refine this.mono (fun a o q => ⟨q.1, ?_⟩) fun _ _ z => z
    rw [q.2, List.getD_eq_getElem?_getD, List.getElem?_map, he]
    rfl
  · rw [joined_rlps]
    refine EX_cons (ES_Assign_Name 2 rfl (EV_int (EX_nil (EX_nil ?_))))
    have := E_tail (D := D) H ok (t := .list ds) (b := (rlps ds).toArray) (off := 192) (o1 := none) (by simp; omega) (by decide) (by omega)
    rw [rlp]
    rw [show (rlps ds).toArray.size = (rlps ds).length from by simp] at this
    exact this
theorem EN (H : KEnd3 G) (ok : GOk G) : ∀ d, d ≤ 6 → ENs G d := by
  intro d
  induction d with
  | zero =>
    intro _ D t ht hD hq
    cases t <;> first | exact ht.elim | exact E_bytes H ok ht (by omega) hq
  | succ d ih =>
    intro hd6 D t ht hD hq
    cases t <;> first | exact ht.elim | exact E_bytes H ok ht (by omega) hq | exact E_list H ok (ih (by omega)) (by omega) ht (by omega) hq
end
end Mine
end
/-! Pr24 -/
section
open PySem PySem.Calls PyProof.Rows
open PySem.W
namespace Mine
section
variable {G : Gb} {D : Lv}
theorem TU_sedes (H : KAll G) {S : St} {σ : AS} {kb : Bool → AS → Prop} {kx : AX → AS → Prop} {p : Plan} (ho : p.ok) (hD : S.D.n + 30 ≤ 900) (h : kb true σ) : TU G S σ p.obj kb kx := by
  cases p with
  | number one => rw [Plan.obj]; exact TU_obj H.g.bo1503 H.g.le1503 h
  | octets lo hi => rw [Plan.obj]; exact TU_obj H.g.bo1570 H.g.le1570 h
  | truth => rw [Plan.obj]; exact TU_obj H.g.bo1601 H.g.le1601 h
  | row s ps =>
    have hz : ps.length ≠ 0 := fun e => ho.1 (List.length_eq_zero_iff.mp e)
    have hl := ho.2.1
    rw [Plan.obj]
    refine TU_obj_len (D := S.D.up) (n := ps.length) H.g.bo1660 H.g.le1660 H.g.fl1643 ⟨Nat.le_refl _, id⟩ ?_ (by omega) ?_
    · have := C1643 (D := S.D.up) H (ps := ps) (s := s) (by omega) (by show S.D.n + 1 + 20 ≤ 900; omega)
      rw [Plan.obj] at this
      exact this
    · rw [show ((ps.length : Int) != 0) = true from by simpa using hz]
      exact h
  | many m p => rw [Plan.obj]; exact TU_obj H.g.bo1696 H.g.le1696 h
/-- encode by a sedes -/
theorem C1722 (H : KEnd3 G) (ok : GOk G) {d n dr : Nat} {p : Plan} {t : AV} (hp : p.depth < d) (ho : p.ok) (ht : thOk n t) (hr : (written p t).2 = "" → rok dr (written p t).1) (hdr : dr ≤ 6) (hD : D.n + 130 + 30 * d ≤ 900) (hq : D.q = true) :
    Fn G D (.ref 1722) [t, p.obj] [] PT (fun v own' => own' = PT ∧ (written p t).2 = "" ∧ v = .bytes (rlp (written p t).1).toArray) (fun x own' => own' = PT ∧ ((written p t).2 ≠ "" ∧ x.msg = (written p t).2 ∧ (x.C = 95 ∨ x.C = 117))) := by
  refine Fn_d (names := ["obj", "sedes", "infer_serializer", "cache", "item", "result"]) (loc := [some t, some p.obj, some (.bool true), some (.bool true), none, none]) H.fns.f1722 (by show D.n < 1000; omega) (fun g s vs ws X R1 R2 => ?_) ?_
  · cases R2
    obtain _ | ⟨r1, _ | ⟨r2, _ | _⟩⟩ := R1
    rename_i v1 v2
    exact ⟨[("obj", v1), ("sedes", v2), ("infer_serializer", .bool true), ("cache", .bool true)], fun _ _ _ _ _ => binds_dflt (tupIn.of H.g.d1715) X rfl rfl rfl, by intro y hy; simp at hy; rcases hy with rfl | rfl | rfl | rfl <;> rfl, .cons rfl r1 rfl (.cons rfl r2 rfl (.cons rfl (.bool _) rfl (.cons rfl (.bool _) rfl (.skip (.skip .nil)))))⟩
  · refine EX_cons (ES_If (TV_value (EV_loc 1 rfl rfl (TU_sedes H.toKAll ho (by show D.n + 1 + 30 ≤ 900; omega) ?_))))
    have SF := SER H.toKEnd d D.up p n t hp ho (by show D.n + 1 + 40 + 30 * d ≤ 900; omega) hq ht
    refine EX_cons (ES_Assign_Name 4 rfl (EV_Meth (EV_loc 1 rfl rfl ⟨.ref (serF p), _, kf_ser H.toKAll p, GM_ser H.toKAll p, EL_cons (EV_loc 0 rfl rfl (EL_nil ?_))⟩)))
    refine CV_fn0 (S := ⟨"encode", sc1722, 1722, .ref 1721, ["obj", "sedes", "infer_serializer", "cache", "item", "result"], D.up, false⟩) SF (fun v hv => ?_) fun x hx => ⟨PT, [], rfl, List.Subset.refl _, rfl, hx⟩
    obtain ⟨hv1, rfl⟩ := hv
    refine EX_nil ?_
    refine EX_cons (ES_Assign_Name 5 rfl (EV_gcall rfl H.g.g_encode_raw H.g.kf1707 (EL_cons (EV_loc 4 rfl rfl (EL_nil ?_)))))
    refine CV_fn (own := PT) (rest := []) ((EN H ok dr hdr D.up _ (hr hv1) (by show D.n + 1 + 60 + 10 * dr ≤ 900; omega) hq).noX (kx := fun _ _ => False)) rfl ⟨Nat.le_refl _, id⟩ (fun v own' _ q => ?_) fun x own' _ z => z.elim
    obtain ⟨rfl, rfl⟩ := q
    exact EX_cons (ES_Return (EV_loc 5 rfl rfl ⟨PT, [], rfl, List.Subset.refl _, rfl, hv1, rfl⟩))
end
end Mine
end
/-! Pl5 -/
section
open PySem PySem.Calls PyProof.Rows
open PySem.W
namespace Mine
/-- the payload of an item, and what stands ahead of it -/
def pay : AV → List UInt8
  | .bytes b => b.toList
  | .list ds => rlps ds
  | _ => []
def hpre : AV → List UInt8
  | .bytes b => if b.size = 1 ∧ (b.toList.getD 0 0).toNat < 128 then [] else pre 128 b.size
  | .list ds => pre 192 (rlps ds).length
  | _ => []
def hty : AV → Str
  | .bytes _ => "bytes"
  | _ => "list"
theorem rlp_split : ∀ {n : Nat} {t : AV}, rok n t → rlp t = hpre t ++ pay t
  | n, t, h => by
    cases t <;> first | (cases n <;> exact h.elim) | skip
    · rw [rlp, hpre, pay]
      split
      · rfl
      · rfl
    · rw [rlp, hpre, pay]
theorem picked_mid {X M Y : List UInt8} {a b : Int} (ha : a = X.length) (hb : b = (X.length + M.length : Nat)) : KBy.picked (X ++ M ++ Y).toArray (some a) (some b) = M.toArray := by
  rw [ha, hb, picked_nat]
  congr 1
  rw [List.append_assoc, List.drop_left, show X.length + M.length - X.length = M.length from by omega, List.take_left]
theorem getD_mid {X Y : List UInt8} {c : UInt8} : (X ++ c :: Y).getD X.length 0 = c := by
  rw [List.getD_eq_getElem?_getD, List.getElem?_append_right (Nat.le_refl _), Nat.sub_self]
  rfl
theorem rlps_take {ds : List AV} {i : Nat} {d : AV} (h : ds[i]? = some d) : rlps (ds.take (i + 1)) = rlps (ds.take i) ++ rlp d := by
  rw [rlps_flat, rlps_flat, List.take_add_one, h]
  simp
theorem rlps_cut {ds : List AV} {i : Nat} {d : AV} (h : ds[i]? = some d) : rlps ds = rlps (ds.take i) ++ rlp d ++ rlps (ds.drop (i + 1)) := by
  rw [rlps_flat, rlps_flat, rlps_flat]
  obtain ⟨hi, rfl⟩ := List.getElem?_eq_some_iff.mp h
  have : ds = ds.take i ++ ds[i] :: ds.drop (i + 1) := by
    rw [← List.drop_eq_getElem_cons hi, List.take_append_drop]
  have e : (ds.map rlp).flatten = ((ds.take i ++ ds[i] :: ds.drop (i + 1)).map rlp).flatten := congrArg (fun z => (List.map rlp z).flatten) this
  rw [e]
  simp only [List.map_append, List.map_cons, List.flatten_append, List.flatten_cons, List.append_assoc]
theorem rok_item {n : Nat} {t : AV} (h : itOk n t) : rok n t := by
  induction n generalizing t with
  | zero =>
    cases t <;> first | exact h.elim | skip
    exact Nat.le_trans h (by decide)
  | succ n ih =>
    cases t <;> first | exact h.elim | skip
    · exact Nat.le_trans h (by decide)
    · exact ⟨Nat.le_trans h.1 (by decide), fun d hd => ih (h.2 d hd)⟩
end Mine
end
/-! Pr25 -/
section
open PySem PySem.Calls PyProof.Rows
open PySem.W
namespace Mine
abbrev S1736 (D : Lv) : St := ⟨"consume_length_prefix", sc1736, 1736, .ref 1735, ["rlp", "start", "b0", "ll", "len_prefix", "l"], D.up, false⟩
section
variable {G : Gb} {D : Lv}
theorem cut1 {X Z : List UInt8} {c : UInt8} {a b : Int} (ha : a = X.length) (hb : b = (X.length + 1 : Nat)) : KBy.picked (X ++ c :: Z).toArray (some a) (some b) = #[c] := by
  have := picked_mid (X := X) (M := [c]) (Y := Z) ha hb
  rw [show X ++ [c] ++ Z = X ++ c :: Z from by simp] at this
  exact this
theorem four {a b c e : AV} : [a, b, c, e].length ≤ sizeLine := (show (4 : Nat) ≤ sizeLine by decide)
theorem fin4 {σ : AS} {a : AV} {W : AV} (e : a = W) : EndF [] (fun a own' => own' = [] ∧ a = W) (.ret a) σ := ⟨[], σ.own, rfl, List.Subset.refl _, rfl, e⟩
theorem head1736 (H : KEnd3 G) {X Z : List UInt8} {c : UInt8} {W : AV} (hz : (X ++ c :: Z).length ≤ 1000000) (hD : D.n + 40 ≤ 900)
    (h : EX G (S1736 D) ⟨[some (.bytes (X ++ c :: Z).toArray), some (.int X.length), some (.int c.toNat), none, none, none], []⟩ ((defBody d1736).drop 1) (EndF [] fun a own' => own' = [] ∧ a = W) (EndX [] fun _ _ => False)) :
    Fn G D (.ref 1736) [.bytes (X ++ c :: Z).toArray, .int X.length] [] [] (fun a own' => own' = [] ∧ a = W) (fun _ _ => False) := by
  refine Fn_d (names := ["rlp", "start", "b0", "ll", "len_prefix", "l"]) (loc := [some (.bytes (X ++ c :: Z).toArray), some (.int X.length), none, none, none, none]) H.fns.f1736 (by show D.n < 1000; omega) (bind2 (fun _ _ _ _ _ _ _ => rfl) rfl rfl rfl rfl) ?_
  have hto : ((X.length : Int)).toNat = X.length := by omega
  refine EX_cons (ES_Assign_Name 2 rfl (EV_Subscript (EV_loc 0 rfl rfl (EV_loc 1 rfl rfl (SU_bytes (by omega) (by omega) (by simp; omega) ?_)))))
  rw [hto, getD_mid]
  exact h
theorem C1736A (H : KEnd3 G) {X Z : List UInt8} {c : UInt8} (hc : c.toNat < 128) (hz : (X ++ c :: Z).length ≤ 1000000) (hD : D.n + 40 ≤ 900) :
    Fn G D (.ref 1736) [.bytes (X ++ c :: Z).toArray, .int X.length] [] [] (fun a own' => own' = [] ∧ a = .tuple [.bytes #[], .str "bytes", .int 1, .int X.length]) (fun _ _ => False) := by
  refine head1736 H hz hD ?_
  refine EX_cons (ES_If (TV_Compare (EV_loc 2 rfl rfl (EV_int (CO_lt (TU_bool ?_))))))
  rw [decide_eq_true (by omega : ((c.toNat : Nat) : Int) < 128)]
  exact EX_cons (ES_Return (EV_Tuple (EL_cons (EV_bytes (EL_cons (EV_str (EL_cons (EV_int (EL_cons (EV_loc 1 rfl rfl (EL_nil ⟨four, fin4 rfl⟩)))))))))))
abbrev Z1736 (X Z : List UInt8) (c : UInt8) (a b e : Option AV) : AS := ⟨[some (.bytes (X ++ c :: Z).toArray), some (.int X.length), some (.int c.toNat), a, b, e], []⟩
theorem C1736B (H : KEnd3 G) {X Z : List UInt8} {c : UInt8} {n : Nat} (hc : c.toNat = 128 + n) (hn : n ≤ 10) (h1 : n = 1 → ∃ e Z', Z = e :: Z' ∧ 128 ≤ e.toNat) (hz : (X ++ c :: Z).length ≤ 1000000) (hD : D.n + 40 ≤ 900) :
    Fn G D (.ref 1736) [.bytes (X ++ c :: Z).toArray, .int X.length] [] [] (fun a own' => own' = [] ∧ a = .tuple [.bytes #[c], .str "bytes", .int n, .int (X.length + 1 : Nat)]) (fun _ _ => False) := by
  refine head1736 H hz hD ?_
  have hsz : (X ++ c :: Z).toArray.size ≤ 16777216 := by rw [List.size_toArray]; omega
  refine EX_cons (ES_If (TV_Compare (EV_loc 2 rfl rfl (EV_int (CO_lt (TU_bool ?_))))))
  rw [decide_eq_false (by omega : ¬ ((c.toNat : Nat) : Int) < 128)]
  refine EX_cons (ES_If (TV_Compare (EV_loc 2 rfl rfl (EV_globA rfl H.g.g_SHORT (.int _ _) (CO_lt (TU_bool ?_))))))
  rw [decide_eq_true (by omega : ((c.toNat : Nat) : Int) < 184)]
  refine EX_cons (ES_If (TV_BoolOp (TrA.mono (k := fun b σ1 => b = false ∧ σ1 = Z1736 X Z c none none none) ?_ (fun b σ1 q => ?_) fun _ _ z => z)))
  · refine TA_And_cons (TV_Compare (EV_BinOp (EV_loc 2 rfl rfl (EV_int (BO_sub (EV_int (CO_eq (TU_bool ?_))))))))
    by_cases hn1 : n = 1
    · rw [show (((c.toNat : Nat) : Int) - 128 == 1) = true from by rw [hc, hn1]; rfl]
      obtain ⟨e, Z', rfl, he⟩ := h1 hn1
      refine TA_And_cons (TV_Compare (EV_Subscript (EV_loc 0 rfl rfl (EV_BinOp (EV_loc 1 rfl rfl (EV_int (BO_add (SU_bytes (by omega) (by omega) (by simp; omega) (EV_int (CO_lt (TU_bool ?_)))))))))))
      have e2 : ((X ++ c :: e :: Z').getD ((X.length : Int) + 1).toNat 0) = e := by
        rw [show ((X.length : Int) + 1).toNat = (X ++ [c]).length from by simp, show X ++ c :: e :: Z' = (X ++ [c]) ++ e :: Z' from by simp]
        exact getD_mid
      rw [e2, decide_eq_false (by omega : ¬ ((e.toNat : Nat) : Int) < 128)]
      exact ⟨rfl, rfl⟩
    · rw [show (((c.toNat : Nat) : Int) - 128 == 1) = false from by rw [hc]; simpa using (by omega : ¬ (((128 + n : Nat) : Int) - 128 = 1))]
      exact ⟨rfl, rfl⟩
  · obtain ⟨rfl, rfl⟩ := q
    refine EX_nil ?_
    refine EX_cons (ES_Return (EV_Tuple (EL_cons (EV_Subscript (EV_loc 0 rfl rfl (EV_Slice (EV_loc 1 rfl rfl ⟨_, rfl, EV_BinOp (EV_loc 1 rfl rfl (EV_int (BO_add ⟨_, rfl, SU_bytes_slice hsz ?_⟩)))⟩)))))))
    rw [cut1 rfl (by omega)]
    refine EL_cons (EV_str (EL_cons (EV_BinOp (EV_loc 2 rfl rfl (EV_int (BO_sub (EL_cons (EV_BinOp (EV_loc 1 rfl rfl (EV_int (BO_add (EL_nil ⟨four, fin4 ?_⟩))))))))))))
    rw [show ((c.toNat : Nat) : Int) - 128 = (n : Int) from by omega, show (X.length : Int) + 1 = ((X.length + 1 : Nat) : Int) from by omega]
theorem C1736C (H : KEnd3 G) {X Z : List UInt8} {c : UInt8} {n : Nat} (hc : c.toNat = 192 + n) (hn : n < 56) (hz : (X ++ c :: Z).length ≤ 1000000) (hD : D.n + 40 ≤ 900) :
    Fn G D (.ref 1736) [.bytes (X ++ c :: Z).toArray, .int X.length] [] [] (fun a own' => own' = [] ∧ a = .tuple [.bytes #[c], .str "list", .int n, .int (X.length + 1 : Nat)]) (fun _ _ => False) := by
  refine head1736 H hz hD ?_
  have hsz : (X ++ c :: Z).toArray.size ≤ 16777216 := by rw [List.size_toArray]; omega
  refine EX_cons (ES_If (TV_Compare (EV_loc 2 rfl rfl (EV_int (CO_lt (TU_bool ?_))))))
  rw [decide_eq_false (by omega : ¬ ((c.toNat : Nat) : Int) < 128)]
  refine EX_cons (ES_If (TV_Compare (EV_loc 2 rfl rfl (EV_globA rfl H.g.g_SHORT (.int _ _) (CO_lt (TU_bool ?_))))))
  rw [decide_eq_false (by omega : ¬ ((c.toNat : Nat) : Int) < 184)]
  refine EX_cons (ES_If (TV_Compare (EV_loc 2 rfl rfl (EV_int (CO_lt (TU_bool ?_))))))
  rw [decide_eq_false (by omega : ¬ ((c.toNat : Nat) : Int) < 192)]
  refine EX_cons (ES_If (TV_Compare (EV_loc 2 rfl rfl (EV_BinOp (EV_int (EV_int (BO_add (CO_lt (TU_bool ?_)))))))))
  rw [decide_eq_true (by omega : ((c.toNat : Nat) : Int) < 192 + 56)]
  refine EX_cons (ES_Return (EV_Tuple (EL_cons (EV_Subscript (EV_loc 0 rfl rfl (EV_Slice (EV_loc 1 rfl rfl ⟨_, rfl, EV_BinOp (EV_loc 1 rfl rfl (EV_int (BO_add ⟨_, rfl, SU_bytes_slice hsz ?_⟩)))⟩)))))))
  rw [cut1 rfl (by omega)]
  refine EL_cons (EV_str (EL_cons (EV_BinOp (EV_loc 2 rfl rfl (EV_int (BO_sub (EL_cons (EV_BinOp (EV_loc 1 rfl rfl (EV_int (BO_add (EL_nil ⟨four, fin4 ?_⟩))))))))))))
  rw [show ((c.toNat : Nat) : Int) - 192 = (n : Int) from by omega, show (X.length : Int) + 1 = ((X.length + 1 : Nat) : Int) from by omega]
theorem C1736D (H : KEnd3 G) {X Z : List UInt8} {c : UInt8} {n : Nat} (hc : c.toNat = 247 + (digits n).length) (hn : 56 ≤ n) (hn2 : n < 2 ^ 32) (hz : (X ++ c :: (digits n ++ Z)).length ≤ 1000000) (hD : D.n + 40 ≤ 900) :
    Fn G D (.ref 1736) [.bytes (X ++ c :: (digits n ++ Z)).toArray, .int X.length] [] [] (fun a own' => own' = [] ∧ a = .tuple [.bytes (c :: digits n).toArray, .str "list", .int n, .int (X.length + 1 + (digits n).length : Nat)]) (fun _ _ => False) := by
  refine head1736 H hz hD ?_
  have hsz : (X ++ c :: (digits n ++ Z)).toArray.size ≤ 16777216 := by rw [List.size_toArray]; omega
  have hdl := digits_le hn2
  have hd1 : 1 ≤ (digits n).length := by
    obtain ⟨c, l, e, _⟩ := digits_head (n := n) (by omega)
    rw [e]; simp
  refine EX_cons (ES_If (TV_Compare (EV_loc 2 rfl rfl (EV_int (CO_lt (TU_bool ?_))))))
  rw [decide_eq_false (by omega : ¬ ((c.toNat : Nat) : Int) < 128)]
  refine EX_cons (ES_If (TV_Compare (EV_loc 2 rfl rfl (EV_globA rfl H.g.g_SHORT (.int _ _) (CO_lt (TU_bool ?_))))))
  rw [decide_eq_false (by omega : ¬ ((c.toNat : Nat) : Int) < 184)]
  refine EX_cons (ES_If (TV_Compare (EV_loc 2 rfl rfl (EV_int (CO_lt (TU_bool ?_))))))
  rw [decide_eq_false (by omega : ¬ ((c.toNat : Nat) : Int) < 192)]
  refine EX_cons (ES_If (TV_Compare (EV_loc 2 rfl rfl (EV_BinOp (EV_int (EV_int (BO_add (CO_lt (TU_bool ?_)))))))))
  rw [decide_eq_false (by omega : ¬ ((c.toNat : Nat) : Int) < 192 + 56)]
  refine EX_cons (ES_Assign_Name 3 rfl (EV_BinOp (EV_BinOp (EV_BinOp (EV_loc 2 rfl rfl (EV_int (BO_sub (EV_int (BO_sub (EV_int (BO_add ?_)))))))))))
  rw [show ((c.toNat : Nat) : Int) - 192 - 56 + 1 = ((digits n).length : Int) from by omega]
  refine EX_cons (ES_If (TV_Compare (EV_Subscript (EV_loc 0 rfl rfl (EV_Slice (EV_BinOp (EV_loc 1 rfl rfl (EV_int (BO_add ⟨_, rfl, EV_BinOp (EV_loc 1 rfl rfl (EV_int (BO_add ⟨_, rfl, SU_bytes_slice hsz (EV_bytes (CO_bytes_eq (TU_bool ?_)))⟩)))⟩)))))))))
  have e1 : KBy.picked (X ++ c :: (digits n ++ Z)).toArray (some ((X.length : Int) + 1)) (some ((X.length : Int) + 2)) = ((digits n).take 1).toArray := by
    obtain ⟨c1, l1, e, _⟩ := digits_head (n := n) (by omega)
    rw [e, show X ++ c :: (c1 :: l1 ++ Z) = (X ++ [c]) ++ c1 :: (l1 ++ Z) from by simp]
    exact cut1 (by simp) (by simp; omega)
  have e2 : ((digits n).take 1 == [0]) = false := by
    obtain ⟨c1, l1, e, h0⟩ := digits_head (n := n) (by omega)
    rw [e]
    simpa using h0
  rw [e1, show (((digits n).take 1).toArray.toList == ([0] : List UInt8).toArray.toList) = false from e2]
  refine EX_nil ?_
  refine EX_cons (ES_Assign_Name 4 rfl (EV_Subscript (EV_loc 0 rfl rfl (EV_Slice (EV_BinOp (EV_loc 1 rfl rfl (EV_int (BO_add ⟨_, rfl, EV_BinOp (EV_BinOp (EV_loc 1 rfl rfl (EV_int (BO_add (EV_loc 3 rfl rfl (BO_add ⟨_, rfl, SU_bytes_slice hsz ?_⟩))))))⟩))))))))
  have e3 : KBy.picked (X ++ c :: (digits n ++ Z)).toArray (some ((X.length : Int) + 1)) (some ((X.length : Int) + 1 + ((digits n).length : Int))) = (digits n).toArray := by
    rw [show X ++ c :: (digits n ++ Z) = (X ++ [c]) ++ digits n ++ Z from by simp]
    exact picked_mid (by simp) (by simp)
  rw [e3]
  refine EX_cons (ES_Assign_Name 5 rfl (EV_gcall rfl H.g.g_big_endian_to_int H.g.kf1464 (EL_cons (EV_loc 4 rfl rfl (EL_nil (CV_fn0 (C1464 H.toKAll (b := (digits n).toArray) (by simp; omega) (by show D.n + 1 + 20 ≤ 900; omega)).noX (K := fun v => v = .int (numVal (digits n).toArray)) (KX := fun _ => False) (fun v hv => ?_) fun _ z => z.elim))))))
  subst hv
  rw [numVal_digits]
  refine EX_cons (ES_If (TV_Compare (EV_loc 5 rfl rfl (EV_int (CO_lt (TU_bool ?_))))))
  rw [decide_eq_false (by omega : ¬ (n : Int) < 56)]
  refine EX_nil ?_
  refine EX_cons (ES_Return (EV_Tuple (EL_cons (EV_BinOp (EV_Subscript (EV_loc 0 rfl rfl (EV_Slice (EV_loc 1 rfl rfl ⟨_, rfl, EV_BinOp (EV_loc 1 rfl rfl (EV_int (BO_add ⟨_, rfl, SU_bytes_slice hsz (EV_loc 4 rfl rfl (BO_bytes ?_ ?_))⟩)))⟩))))))))
  · rw [cut1 rfl (by omega)]; simp; omega
  rw [cut1 rfl (by omega)]
  refine EL_cons (EV_str (EL_cons (EV_loc 5 rfl rfl (EL_cons (EV_BinOp (EV_BinOp (EV_loc 1 rfl rfl (EV_int (BO_add (EV_loc 3 rfl rfl (BO_add (EL_nil ⟨four, fin4 ?_⟩))))))))))))
  rw [show (X.length : Int) + 1 + ((digits n).length : Int) = ((X.length + 1 + (digits n).length : Nat) : Int) from by omega, show #[c] ++ (digits n).toArray = (c :: digits n).toArray from by simp]
theorem C1736 (H : KEnd3 G) {d : Nat} {t : AV} {X Y : List UInt8} (ht : rok d t) (hd : d ≤ 6) (hz : (X ++ rlp t ++ Y).length ≤ 1000000) (hD : D.n + 40 ≤ 900) :
    Fn G D (.ref 1736) [.bytes (X ++ rlp t ++ Y).toArray, .int X.length] [] [] (fun a own' => own' = [] ∧ a = .tuple [.bytes (hpre t).toArray, .str (hty t), .int (pay t).length, .int (X.length + (hpre t).length : Nat)]) (fun _ _ => False) := by
  have hlen : (rlp t).length ≤ 1000000 := by rw [List.length_append, List.length_append] at hz; omega
  have hsp := rlp_split ht
  have go : ∀ {W : AV}, Fn G D (.ref 1736) [.bytes (X ++ rlp t ++ Y).toArray, .int X.length] [] [] (fun a own' => own' = [] ∧ a = W) (fun _ _ => False) → W = .tuple [.bytes (hpre t).toArray, .str (hty t), .int (pay t).length, .int (X.length + (hpre t).length : Nat)] → Fn G D (.ref 1736) [.bytes (X ++ rlp t ++ Y).toArray, .int X.length] [] [] (fun a own' => own' = [] ∧ a = .tuple [.bytes (hpre t).toArray, .str (hty t), .int (pay t).length, .int (X.length + (hpre t).length : Nat)]) (fun _ _ => False) := fun h e => e ▸ h
  cases t <;> first | (cases d <;> exact ht.elim) | skip
  · rename_i b
    have hb : b.size ≤ 10 := by cases d <;> exact ht
    have hbl : b.toList.length = b.size := Array.length_toList
    by_cases h1 : b.size = 1 ∧ (b.toList.getD 0 0).toNat < 128
    · obtain ⟨c, hc⟩ : ∃ c, b.toList = [c] := List.length_eq_one_iff.mp (by omega)
      have hr : rlp (.bytes b) = [c] := by rw [rlp, if_pos h1, hc]
      have hp : hpre (.bytes b) = [] := by rw [hpre, if_pos h1]
      have e : X ++ rlp (.bytes b) ++ Y = X ++ c :: Y := by rw [hr]; simp
      have hc2 : c.toNat < 128 := by have := h1.2; rw [hc] at this; exact this
      have := C1736A (D := D) H (X := X) (Z := Y) hc2 (by rw [← e]; exact hz) hD
      rw [← e] at this
      refine go this ?_
      rw [hp, show pay (.bytes b) = [c] from by rw [pay, hc]]
      rfl
    · have hp : hpre (.bytes b) = [(128 + b.size).toUInt8] := by rw [hpre, if_neg h1, pre, if_pos (by omega)]
      have e : X ++ rlp (.bytes b) ++ Y = X ++ (128 + b.size).toUInt8 :: (b.toList ++ Y) := by rw [hsp, hp, pay]; simp
      have := C1736B (D := D) H (X := X) (Z := b.toList ++ Y) (c := (128 + b.size).toUInt8) (n := b.size) (by simp; omega) hb (fun hn => by
        obtain ⟨c, hc⟩ : ∃ c, b.toList = [c] := List.length_eq_one_iff.mp (by omega)
        refine ⟨c, Y, by rw [hc]; rfl, ?_⟩
        have h2 : ¬ (b.toList.getD 0 0).toNat < 128 := fun h => h1 ⟨hn, h⟩
        rw [hc] at h2
        exact Nat.not_lt.mp h2) (by rw [← e]; exact hz) hD
      rw [← e] at this
      refine go this ?_
      rw [hp, pay, hbl]
      rfl
  · rename_i ds
    by_cases h1 : (rlps ds).length < 56
    · have hp : hpre (.list ds) = [(192 + (rlps ds).length).toUInt8] := by rw [hpre, pre, if_pos h1]
      have e : X ++ rlp (.list ds) ++ Y = X ++ (192 + (rlps ds).length).toUInt8 :: (rlps ds ++ Y) := by rw [hsp, hp, pay]; simp
      have := C1736C (D := D) H (X := X) (Z := rlps ds ++ Y) (c := (192 + (rlps ds).length).toUInt8) (n := (rlps ds).length) (by simp; omega) h1 (by rw [← e]; exact hz) hD
      rw [← e] at this
      refine go this ?_
      rw [hp, pay]
      rfl
    · have hl2 : (rlps ds).length ≤ 1000000 := by rw [hsp, pay, List.length_append] at hlen; omega
      have hdl := digits_le (n := (rlps ds).length) (by omega)
      have hp : hpre (.list ds) = (192 + 55 + (digits (rlps ds).length).length).toUInt8 :: digits (rlps ds).length := by rw [hpre, pre, if_neg h1]
      have e : X ++ rlp (.list ds) ++ Y = X ++ (192 + 55 + (digits (rlps ds).length).length).toUInt8 :: (digits (rlps ds).length ++ (rlps ds ++ Y)) := by rw [hsp, hp, pay]; simp
      have := C1736D (D := D) H (X := X) (Z := rlps ds ++ Y) (c := (192 + 55 + (digits (rlps ds).length).length).toUInt8) (n := (rlps ds).length) (by simp; omega) (by omega) (by omega) (by rw [← e]; exact hz) hD
      rw [← e] at this
      refine go this ?_
      rw [hp, pay, List.length_cons, show X.length + 1 + (digits (rlps ds).length).length = X.length + ((digits (rlps ds).length).length + 1) from by omega]
      rfl
end
end Mine
end
/-! Pr26 -/
section
open PySem PySem.Calls PyProof.Rows
open PySem.W
namespace Mine
theorem bind5 {G : Gb} {d : Stmt} {qual : Str} {sc : Scope} {cl : List (Str × Addr)} {dV cdv : Value} {n1 n2 n3 n4 n5 : Str} {a1 a2 a3 a4 a5 : AV} {more : List Str} {ml : List (Option AV)} (hb : ∀ kV doc pm an ct v1 v2 v3 v4 v5, bindArgs (fnX (defName d) qual (defArgs d) (defBody d) sc cl dV kV doc pm an cdv ct) ⟨[v1, v2, v3, v4, v5], []⟩ = pure [(n1, v1), (n2, v2), (n3, v3), (n4, v4), (n5, v5)]) (h1 : sc.names.lookup n1 = some .local) (h2 : sc.names.lookup n2 = some .local) (h3 : sc.names.lookup n3 = some .local) (h4 : sc.names.lookup n4 = some .local) (h5 : sc.names.lookup n5 = some .local) (hne : [n1, n2, n3, n4, n5].Nodup) (hmore : ml = more.map fun _ => none) : Binds G d qual sc cl dV cdv [a1, a2, a3, a4, a5] [] (n1 :: n2 :: n3 :: n4 :: n5 :: more) (some a1 :: some a2 :: some a3 :: some a4 :: some a5 :: ml) := by
  intro g s vs ws X R1 R2
  cases R2
  obtain _ | ⟨r1, _ | ⟨r2, _ | ⟨r3, _ | ⟨r4, _ | ⟨r5, _ | _⟩⟩⟩⟩⟩ := R1
  rename_i v1 v2 v3 v4 v5
  refine ⟨[(n1, v1), (n2, v2), (n3, v3), (n4, v4), (n5, v5)], fun kV doc pm an ct => .of_eq (hb kV doc pm an ct v1 v2 v3 v4 v5), ?_, ?_⟩
  · intro y hy
    simp at hy
    rcases hy with rfl | rfl | rfl | rfl | rfl <;> assumption
  · simp only [List.nodup_cons, List.mem_cons, List.not_mem_nil, not_or] at hne
    obtain ⟨⟨a12, a13, a14, a15, _⟩, ⟨a23, a24, a25, _⟩, ⟨a34, a35, _⟩, ⟨a45, _⟩, _⟩ := hne
    have f : ∀ {a b : Str}, ¬ a = b → (a == b) = false := fun h => by simpa using h
    refine .cons (by simp [List.lookup_cons, f a12, f a13, f a14, f a15]) r1 h1 (.cons (by simp [List.lookup_cons, f a23, f a24, f a25]) r2 h2 (.cons (by simp [List.lookup_cons, f a34, f a35]) r3 h3 (.cons (by simp [List.lookup_cons, f a45]) r4 h4 (.cons (by simp [List.lookup_cons]) r5 h5 ?_))))
    rw [hmore]
    clear hmore
    induction more with
    | nil => exact .nil
    | cons x xs ih => exact .skip ih
theorem pre_pos {off n : Nat} : 0 < (pre off n).length := by
  unfold pre
  split <;> simp
theorem rlp_pos : ∀ {n : Nat} {t : AV}, rok n t → 0 < (rlp t).length
  | n, t, h => by
    cases t <;> first | (cases n <;> exact h.elim) | skip
    · rename_i b
      have hbl : b.toList.length = b.size := Array.length_toList
      rw [rlp]
      split
      · omega
      · rw [List.length_append]; have := @pre_pos 128 b.size; omega
    · rename_i ds
      rw [rlp, List.length_append]; have := @pre_pos 192 (rlps ds).length; omega
abbrev N1743 : List Str := ["rlp", "prefix", "start", "type_", "length", "item", "items", "per_item_rlp", "list_rlp", "next_item_start", "end", "p", "t", "l", "s", "item_rlp"]
abbrev S1743 (D : Lv) : St := ⟨"consume_payload", sc1743, 1743, .ref 1742, N1743, D.up, false⟩
def CPs (G : Gb) (d : Nat) : Prop := ∀ (D : Lv) (t : AV) (X Y : List UInt8), rok d t → (X ++ rlp t ++ Y).length ≤ 1000000 → D.n + 60 + 10 * d ≤ 900 → D.q = true →
  Fn G D (.ref 1743) [.bytes (X ++ rlp t ++ Y).toArray, .bytes (hpre t).toArray, .int (X.length + (hpre t).length : Nat), .str (hty t), .int (pay t).length] [] [] (fun a own' => own' = [] ∧ ∃ pi, a = .tuple [t, .list (.bytes (rlp t).toArray :: pi), .int (X.length + (rlp t).length : Nat)]) (fun _ _ => False)
section
variable {G : Gb} {D : Lv}
theorem three {a b c : AV} : [a, b, c].length ≤ sizeLine := (show (3 : Nat) ≤ sizeLine by decide)
theorem P_bytes (H : KEnd3 G) {b : Array UInt8} {X Y : List UInt8} (hb : b.size ≤ 10) (hz : (X ++ rlp (.bytes b) ++ Y).length ≤ 1000000) (hD : D.n + 60 ≤ 900) (hq : D.q = true) :
    Fn G D (.ref 1743) [.bytes (X ++ rlp (.bytes b) ++ Y).toArray, .bytes (hpre (.bytes b)).toArray, .int (X.length + (hpre (.bytes b)).length : Nat), .str "bytes", .int (pay (.bytes b)).length] [] [] (fun a own' => own' = [] ∧ ∃ pi, a = .tuple [.bytes b, .list (.bytes (rlp (.bytes b)).toArray :: pi), .int (X.length + (rlp (.bytes b)).length : Nat)]) (fun _ _ => False) := by
  have hro : rok 0 (.bytes b) := hb
  have hsp := rlp_split hro
  have hsz : (X ++ rlp (.bytes b) ++ Y).toArray.size ≤ 16777216 := by rw [List.size_toArray]; omega
  have hbl : b.toList.length = b.size := Array.length_toList
  refine Fn_d (names := N1743) (loc := [some (.bytes (X ++ rlp (.bytes b) ++ Y).toArray), some (.bytes (hpre (.bytes b)).toArray), some (.int (X.length + (hpre (.bytes b)).length : Nat)), some (.str "bytes"), some (.int (pay (.bytes b)).length), none, none, none, none, none, none, none, none, none, none, none]) H.fns.f1743 (by show D.n < 1000; omega) (bind5 (fun _ _ _ _ _ _ _ _ _ _ => rfl) rfl rfl rfl rfl rfl (by decide) rfl) ?_
  refine EX_cons (ES_If (TV_Compare (EV_loc 3 rfl rfl (EV_str (CO_str_eq (TU_bool ?_))))))
  refine EX_cons (ES_Assign_Name 5 rfl (EV_Subscript (EV_loc 0 rfl rfl (EV_Slice (EV_loc 2 rfl rfl ⟨_, rfl, EV_BinOp (EV_loc 2 rfl rfl (EV_loc 4 rfl rfl (BO_add ⟨_, rfl, SU_bytes_slice hsz ?_⟩)))⟩)))))
  have e1 : KBy.picked (X ++ rlp (.bytes b) ++ Y).toArray (some ((X.length + (hpre (.bytes b)).length : Nat) : Int)) (some (((X.length + (hpre (.bytes b)).length : Nat) : Int) + ((pay (.bytes b)).length : Int))) = b := by
    rw [show X ++ rlp (.bytes b) ++ Y = (X ++ hpre (.bytes b)) ++ pay (.bytes b) ++ Y from by rw [hsp]; simp]
    rw [picked_mid (by simp) (by simp), pay]
  rw [e1]
  have hpl : (hpre (.bytes b)).length ≤ 5 := by
    rw [hpre]; split
    · simp
    · exact pre_len (by omega)
  refine EX_cons (ES_Return (EV_Tuple (EL_cons (EV_loc 5 rfl rfl (EL_cons (EV_List (EL_cons (EV_BinOp (EV_loc 1 rfl rfl (EV_loc 5 rfl rfl (BO_bytes (by simp; omega) (EL_nil ⟨(show (1 : Nat) ≤ sizeLine by decide), ?_⟩))))))))))))
  refine EL_cons (EV_BinOp (EV_loc 2 rfl rfl (EV_loc 4 rfl rfl (BO_add (EL_nil ⟨three, [], _, rfl, List.Subset.refl _, rfl, [], ?_⟩)))))
  rw [show ((X.length + (hpre (.bytes b)).length : Nat) : Int) + ((pay (.bytes b)).length : Int) = ((X.length + (rlp (.bytes b)).length : Nat) : Int) from by rw [hsp, List.length_append]; omega]
  rw [show (hpre (.bytes b)).toArray ++ b = (rlp (.bytes b)).toArray from by rw [hsp, pay]; simp]
  rfl
theorem P_list (H : KEnd3 G) {d : Nat} (IH : CPs G d) (hd : d ≤ 5) {ds : List AV} {X Y : List UInt8} (ht : rok (d + 1) (.list ds)) (hz : (X ++ rlp (.list ds) ++ Y).length ≤ 1000000) (hD : D.n + 70 + 10 * d ≤ 900) (hq : D.q = true) :
    Fn G D (.ref 1743) [.bytes (X ++ rlp (.list ds) ++ Y).toArray, .bytes (hpre (.list ds)).toArray, .int (X.length + (hpre (.list ds)).length : Nat), .str "list", .int (pay (.list ds)).length] [] [] (fun a own' => own' = [] ∧ ∃ pi, a = .tuple [.list ds, .list (.bytes (rlp (.list ds)).toArray :: pi), .int (X.length + (rlp (.list ds)).length : Nat)]) (fun _ _ => False) := by
  have hsp := rlp_split ht
  have hpay : pay (.list ds) = rlps ds := by rw [pay]
  rw [hpay]
  rw [hpay] at hsp
  obtain ⟨P, hP⟩ : ∃ P, P = hpre (.list ds) := ⟨_, rfl⟩
  rw [← hP] at hsp ⊢
  have hlen : X.length + P.length + (rlps ds).length + Y.length ≤ 1000000 := by
    rw [hsp] at hz; simp at hz; omega
  have hds : ds.length ≤ 5 := ht.1
  have hzz : sizeLine = 16777216 := rfl
  obtain ⟨B, hB⟩ : ∃ B, B = X ++ rlp (.list ds) ++ Y := ⟨_, rfl⟩
  rw [← hB]
  have hB2 : ∀ i e, ds[i]? = some e → B = (X ++ P ++ rlps (ds.take i)) ++ rlp e ++ (rlps (ds.drop (i + 1)) ++ Y) := by
    intro i e he
    rw [hB, hsp, rlps_cut he]
    simp
  rw [← hB] at hz
  refine Fn_d (names := N1743) (loc := [some (.bytes B.toArray), some (.bytes P.toArray), some (.int (X.length + P.length : Nat)), some (.str "list"), some (.int (rlps ds).length), none, none, none, none, none, none, none, none, none, none, none]) H.fns.f1743 (by show D.n < 1000; omega) (bind5 (fun _ _ _ _ _ _ _ _ _ _ => rfl) rfl rfl rfl rfl rfl (by decide) rfl) ?_
  refine EX_cons (ES_If (TV_Compare (EV_loc 3 rfl rfl (EV_str (CO_str_eq (TU_bool ?_))))))
  refine EX_cons (ES_If (TV_Compare (EV_loc 3 rfl rfl (EV_str (CO_str_eq (TU_bool ?_))))))
  refine EX_cons (ES_Assign_Name 6 rfl (EV_ListOwn (EL_nil ⟨by decide, fun ia => ?_⟩)))
  refine EX_cons (ES_Assign_Name 7 rfl (EV_ListOwn (EL_nil ⟨by decide, fun fa => ?_⟩)))
  refine EX_cons (ES_Assign_Name 8 rfl (EV_loc 1 rfl rfl ?_))
  refine EX_cons (ES_Assign_Name 9 rfl (EV_loc 2 rfl rfl ?_))
  refine EX_cons (ES_Assign_Name 10 rfl (EV_BinOp (EV_loc 9 rfl rfl (EV_loc 4 rfl rfl (BO_add ?_)))))
  let J : Nat → AS → Prop := fun m σ => ∃ (i : Nat) (fp : List AV) (z : Option AV) (a b c e f : Option AV), σ = ⟨[some (.bytes B.toArray), some (.bytes P.toArray), some (.int (X.length + P.length : Nat)), some (.str "list"), some (.int (rlps ds).length), z, some (.own ia), some (.own fa), some (.bytes (P ++ rlps (ds.take i)).toArray), some (.int (X.length + P.length + (rlps (ds.take i)).length : Nat)), some (.int (((X.length + P.length : Nat) : Int) + ((rlps ds).length : Int))), a, b, c, e, f], [(ia, .list (ds.take i)), (fa, .list fp)]⟩ ∧ fp.length = i ∧ i + m = ds.length
  refine EX_cons (ES_While rfl J ds.length ?_ ?_)
  · refine ⟨0, [], none, none, none, none, none, none, ?_, rfl, by omega⟩
    simp [rlps, AS.put]
  · rintro m σi ⟨i, fp, z, a, b, c, e, f, rfl, hfp, hm⟩
    refine TV_Compare (EV_loc 9 rfl rfl (EV_loc 10 rfl rfl (CO_lt (TU_bool ?_))))
    by_cases hi : i < ds.length
    · have hx : ds[i]? = some ds[i] := List.getElem?_eq_getElem hi
      have hmem : ds[i] ∈ ds := List.getElem_mem hi
      have hri := ht.2 _ hmem
      have hcut := rlps_cut hx
      have hlc : (rlps ds).length = (rlps (ds.take i)).length + (rlp ds[i]).length + (rlps (ds.drop (i + 1))).length := by rw [hcut]; simp; omega
      have hpos : 0 < (rlp ds[i]).length := rlp_pos hri
      rw [decide_eq_true (by omega : ((X.length + P.length + (rlps (ds.take i)).length : Nat) : Int) < ((X.length + P.length : Nat) : Int) + ((rlps ds).length : Int))]
      have hBi := hB2 i _ hx
      have hzi : ((X ++ P ++ rlps (ds.take i)) ++ rlp ds[i] ++ (rlps (ds.drop (i + 1)) ++ Y)).length ≤ 1000000 := by rw [← hBi]; exact hz
      have hXl : (X ++ P ++ rlps (ds.take i)).length = X.length + P.length + (rlps (ds.take i)).length := by simp; omega
      have F1 := C1736 (D := D.up) H (X := X ++ P ++ rlps (ds.take i)) (Y := rlps (ds.drop (i + 1)) ++ Y) hri (by omega) hzi (by show D.n + 1 + 40 ≤ 900; omega)
      have F2 := IH D.up ds[i] (X ++ P ++ rlps (ds.take i)) (rlps (ds.drop (i + 1)) ++ Y) hri hzi (by show D.n + 1 + 60 + 10 * d ≤ 900; omega) hq
      rw [← hBi, hXl] at F1 F2
      have hq' : D.up.q = true := hq
      refine EX_cons (ES_Assign_Tuple (EV_gcall rfl H.g.g_consume_length_prefix H.g.kf1736 (EL_cons (EV_loc 0 rfl rfl (EL_cons (EV_loc 9 rfl rfl (EL_nil (CV_fn0 (S := S1743 D) F1.noX (K := fun v => v = .tuple [.bytes (hpre ds[i]).toArray, .str (hty ds[i]), .int (pay ds[i]).length, .int (X.length + P.length + (rlps (ds.take i)).length + (hpre ds[i]).length : Nat)]) (KX := fun _ => False) (fun v hv => ?_) fun _ z => z.elim))))))))
      subst hv
      refine AG_Tuple hq' ⟨rfl, AG_Name 11 rfl rfl ⟨rfl, AG_Name 12 rfl rfl ⟨rfl, AG_Name 13 rfl rfl ⟨rfl, AG_Name 14 rfl rfl ?_⟩⟩⟩⟩
      refine EX_cons (ES_Assign_Tuple (EV_gcall rfl H.g.g_consume_payload H.g.kf1743 (EL_cons (EV_loc 0 rfl rfl (EL_cons (EV_loc 11 rfl rfl (EL_cons (EV_loc 14 rfl rfl (EL_cons (EV_loc 12 rfl rfl (EL_cons (EV_loc 13 rfl rfl (EL_nil (CV_fn0 (S := S1743 D) F2.noX (K := fun v => ∃ pi, v = .tuple [ds[i], .list (.bytes (rlp ds[i]).toArray :: pi), .int (X.length + P.length + (rlps (ds.take i)).length + (rlp ds[i]).length : Nat)]) (KX := fun _ => False) (fun v hv => ?_) fun _ z => z.elim))))))))))))))
      obtain ⟨pi, rfl⟩ := hv
      refine AG_Tuple hq' ⟨rfl, AG_Name 5 rfl rfl ⟨rfl, AG_Name 15 rfl rfl ⟨rfl, AG_Name 9 rfl rfl ?_⟩⟩⟩
      refine EX_cons (ES_Expr (EV_Meth (EV_loc 7 rfl rfl ⟨.builtin "list.append", _, rfl, GM_append (ds := fp) (.tail _ (.head _)), ?_⟩)))
      refine EL_cons (EV_loc 15 rfl rfl (EL_nil (CV_append (own := [(ia, .list (ds.take i))]) (rest := []) rfl (by omega) ?_)))
      refine EX_cons (ES_AugName 8 rfl rfl (EV_Subscript (EV_loc 15 rfl rfl (EV_int (SU_list (by decide) (by decide) rfl (IO_bytes ?_ ?_))))))
      · simp; omega
      refine EX_cons (ES_Expr (EV_Meth (EV_loc 6 rfl rfl ⟨.builtin "list.append", _, rfl, GM_append (ds := ds.take i) (.head _), ?_⟩)))
      refine EL_cons (EV_loc 5 rfl rfl (EL_nil (CV_append (own := []) (rest := [(fa, .list (fp ++ [.list (.bytes (rlp ds[i]).toArray :: pi)]))]) rfl (by simp; omega) ?_)))
      refine EX_nil ⟨m - 1, by omega, i + 1, fp ++ [.list (.bytes (rlp ds[i]).toArray :: pi)], some ds[i], some (.bytes (hpre ds[i]).toArray), some (.str (hty ds[i])), some (.int (pay ds[i]).length), some (.int (X.length + P.length + (rlps (ds.take i)).length + (hpre ds[i]).length : Nat)), some (.list (.bytes (rlp ds[i]).toArray :: pi)), ?_, by simp [hfp], by omega⟩
      rw [rlps_take hx, List.take_add_one, hx]
      simp [AS.put, Nat.add_assoc]
    · have hi2 : i = ds.length := by omega
      subst hi2
      rw [List.take_length]
      rw [decide_eq_false (by omega : ¬ ((X.length + P.length + (rlps ds).length : Nat) : Int) < ((X.length + P.length : Nat) : Int) + ((rlps ds).length : Int))]
      refine EX_cons (ES_Expr (EV_Meth (EV_loc 7 rfl rfl ⟨.builtin "list.insert", _, rfl, GM_insert (ds := fp) (.tail _ (.head _)), ?_⟩)))
      refine EL_cons (EV_int (EL_cons (EV_loc 8 rfl rfl (EL_nil (CV_insert0 (own := [(ia, .list ds)]) (rest := []) rfl (by omega) ?_)))))
      refine EX_cons (ES_If (TV_Compare (EV_loc 9 rfl rfl (EV_loc 10 rfl rfl (CO_gt (TU_bool ?_))))))
      rw [decide_eq_false (by omega : ¬ ((X.length + P.length + (rlps ds).length : Nat) : Int) > ((X.length + P.length : Nat) : Int) + ((rlps ds).length : Int))]
      refine EX_nil ?_
      refine EX_freeze (own := [(ia, .list ds)]) 7 rfl rfl ?_
      refine EX_freeze (own := []) 6 rfl rfl ?_
      refine EX_cons (ES_Return (EV_Tuple (EL_cons (EV_loc 6 rfl rfl (EL_cons (EV_loc 7 rfl rfl (EL_cons (EV_loc 9 rfl rfl (EL_nil ⟨three, [], _, rfl, List.Subset.refl _, rfl, fp, ?_⟩)))))))))
      rw [hsp, List.length_append, Nat.add_assoc]
      rfl
theorem CP (H : KEnd3 G) : ∀ d, d ≤ 6 → CPs G d := by
  intro d
  induction d with
  | zero =>
    intro _ D t X Y ht hz hD hq
    cases t <;> first | exact ht.elim | exact P_bytes H ht hz (by omega) hq
  | succ d ih =>
    intro hd6 D t X Y ht hz hD hq
    cases t <;> first | exact ht.elim | exact P_bytes H ht hz (by omega) hq | exact P_list H (ih (by omega)) (by omega) ht hz (by omega) hq
end
end Mine
end
/-! Pr27 -/
section
open PySem PySem.Calls PyProof.Rows
open PySem.W
namespace Mine
section
variable {G : Gb} {D : Lv}
abbrev S1750 (D : Lv) : St := ⟨"consume_item", sc1750, 1750, .ref 1749, ["rlp", "start", "p", "t", "l", "s"], D.up, false⟩
theorem C1750 (H : KEnd3 G) {d : Nat} {t : AV} (ht : rok d t) (hd : d ≤ 6) (hD : D.n + 70 + 10 * d ≤ 900) (hq : D.q = true) :
    Fn G D (.ref 1750) [.bytes (rlp t).toArray, .int 0] [] [] (fun a own' => own' = [] ∧ ∃ pi, a = .tuple [t, .list (.bytes (rlp t).toArray :: pi), .int (rlp t).length]) (fun _ _ => False) := by
  have hl : (rlp t).length ≤ 1000000 := by have := rlp_len d t hd ht; have := rB_le hd; omega
  have hq' : D.up.q = true := hq
  have e0 : ([] : List UInt8) ++ rlp t ++ [] = rlp t := by simp
  have F1 := C1736 (D := D.up) H (X := []) (Y := []) ht hd (by rw [e0]; exact hl) (by show D.n + 1 + 40 ≤ 900; omega)
  have F2 := CP H d hd D.up t [] [] ht (by rw [e0]; exact hl) (by show D.n + 1 + 60 + 10 * d ≤ 900; omega) hq
  rw [e0] at F1 F2
  refine Fn_d (names := ["rlp", "start", "p", "t", "l", "s"]) (loc := [some (.bytes (rlp t).toArray), some (.int 0), none, none, none, none]) H.fns.f1750 (by show D.n < 1000; omega) (bind2 (fun _ _ _ _ _ _ _ => rfl) rfl rfl rfl rfl) ?_
  refine EX_cons (ES_Assign_Tuple (EV_gcall rfl H.g.g_consume_length_prefix H.g.kf1736 (EL_cons (EV_loc 0 rfl rfl (EL_cons (EV_loc 1 rfl rfl (EL_nil (CV_fn0 (S := S1750 D) F1.noX (K := fun v => v = .tuple [.bytes (hpre t).toArray, .str (hty t), .int (pay t).length, .int (([] : List UInt8).length + (hpre t).length : Nat)]) (KX := fun _ => False) (fun v hv => ?_) fun _ z => z.elim))))))))
  subst hv
  refine AG_Tuple hq' ⟨rfl, AG_Name 2 rfl rfl ⟨rfl, AG_Name 3 rfl rfl ⟨rfl, AG_Name 4 rfl rfl ⟨rfl, AG_Name 5 rfl rfl ?_⟩⟩⟩⟩
  refine EX_cons (ES_Return (EV_gcall rfl H.g.g_consume_payload H.g.kf1743 (EL_cons (EV_loc 0 rfl rfl (EL_cons (EV_loc 2 rfl rfl (EL_cons (EV_loc 5 rfl rfl (EL_cons (EV_loc 3 rfl rfl (EL_cons (EV_loc 4 rfl rfl (EL_nil (CV_fn0 (S := S1750 D) F2.noX (K := fun v => ∃ pi, v = .tuple [t, .list (.bytes (rlp t).toArray :: pi), .int (([] : List UInt8).length + (rlp t).length : Nat)]) (KX := fun _ => False) (fun v hv => ?_) fun _ z => z.elim))))))))))))))
  obtain ⟨pi, rfl⟩ := hv
  refine ⟨[], _, rfl, List.Subset.refl _, rfl, pi, ?_⟩
  rw [show ([] : List UInt8).length + (rlp t).length = (rlp t).length from by simp]
  rfl
abbrev S1714 (D : Lv) : St := ⟨"decode_raw", sc1714, 1714, .ref 1713, ["item", "strict", "_", "result", "per_item_rlp", "end", "msg"], D.up, false⟩
theorem C1714 (H : KEnd3 G) {d : Nat} {t : AV} {b1 b2 : Bool} (ht : rok d t) (hd : d ≤ 6) (hD : D.n + 80 + 10 * d ≤ 900) (hq : D.q = true) :
    Fn G D (.ref 1714) [.bytes (rlp t).toArray, .bool b1, .bool b2] [] [] (fun a own' => own' = [] ∧ ∃ pi, a = .tuple [t, .list (.bytes (rlp t).toArray :: pi)]) (fun _ _ => False) := by
  have hl : (rlp t).length ≤ 1000000 := by have := rlp_len d t hd ht; have := rB_le hd; omega
  have hq' : D.up.q = true := hq
  have F := C1750 (D := D.up) H ht hd (by show D.n + 1 + 70 + 10 * d ≤ 900; omega) hq
  refine Fn_d (names := ["item", "strict", "_", "result", "per_item_rlp", "end", "msg"]) (loc := [some (.bytes (rlp t).toArray), some (.bool b1), some (.bool b2), none, none, none, none]) H.fns.f1714 (by show D.n < 1000; omega) (bind3 (fun _ _ _ _ _ _ _ _ => rfl) rfl rfl rfl rfl rfl rfl rfl) ?_
  refine EX_cons (ES_TryPlain ?_)
  refine EX_cons (ES_Assign_Tuple (EV_gcall rfl H.g.g_consume_item H.g.kf1750 (EL_cons (EV_loc 0 rfl rfl (EL_cons (EV_int (EL_nil (CV_fn0 (S := S1714 D) F.noX (K := fun v => ∃ pi, v = .tuple [t, .list (.bytes (rlp t).toArray :: pi), .int (rlp t).length]) (KX := fun _ => False) (fun v hv => ?_) fun _ z => z.elim))))))))
  obtain ⟨pi, rfl⟩ := hv
  refine AG_Tuple hq' ⟨rfl, AG_Name 3 rfl rfl ⟨rfl, AG_Name 4 rfl rfl ⟨rfl, AG_Name 5 rfl rfl ?_⟩⟩⟩
  refine EX_nil ?_
  refine EX_cons (ES_If (TV_BoolOp (TA_And_cons (TV_Compare (EV_loc 5 rfl rfl (EV_bcall rfl H.g.b_len bb_len rfl (by decide) (EL_cons (EV_loc 0 rfl rfl (EL_nil (CV_len_bytes (by simp; omega) (CO_ne (TU_bool ?_)))))))))))) 
  rw [show (((rlp t).length : Int) != ((rlp t).toArray.size : Int)) = false from by simp]
  refine EX_nil ?_
  refine EX_cons (ES_Return (EV_Tuple (EL_cons (EV_loc 3 rfl rfl (EL_cons (EV_loc 4 rfl rfl (EL_nil ⟨(show (2 : Nat) ≤ sizeLine by decide), [], _, rfl, List.Subset.refl _, rfl, pi, rfl⟩)))))))
theorem C1457 (H : KEnd3 G) {b : Array UInt8} (hD : D.n + 20 ≤ 900) : Fn G D (.ref 1457) [.bytes b] [] [] (fun a own' => own' = [] ∧ a = .bool true) (fun _ _ => False) := by
  refine Fn_d (names := ["value"]) (loc := [some (.bytes b)]) H.fns.f1457 (by show D.n < 1000; omega) (bind1 (fun _ _ _ _ _ _ => rfl) rfl rfl) ?_
  refine EX_cons (ES_Return (EV_isiTup H.toKAll (Us := ["bytes", "bytearray"]) (T := "bytes") (d := .bytes b) rfl (by decide) (by decide) (EV_loc 0 rfl rfl ⟨rfl, rfl, ?_⟩)))
  refine EL_cons (EV_blt rfl H.g.b_bytes bb_bytes (by decide) (EL_cons (EV_blt rfl H.g.b_bytearray bb_bytearray (by decide) (EL_nil ⟨rfl, ⟨[], _, rfl, List.Subset.refl _, rfl, ?_⟩⟩))))
  rw [subT_bytes (d := .bytes b) rfl]
  rfl
abbrev S1758 (D : Lv) : St := ⟨"decode", sc1758, 1758, .ref 1757, ["rlp", "sedes", "strict", "recursive_cache", "item", "per_item_rlp"], D.up, false⟩
/-- decode by a sedes -/
theorem C1758 (H : KEnd3 G) {d n dr : Nat} {p : Plan} {t : AV} (hp : p.depth < d) (ho : p.ok) (ht : itOk n t) (hf : fits p t) (hn : n ≤ 6) (hD : D.n + 150 + 30 * d ≤ 900) (hq : D.q = true) :
    Fn G D (.ref 1758) [.bytes (rlp t).toArray, p.obj] [] [] (fun v own' => own' = [] ∧ (readP p t).2 = "" ∧ v = (readP p t).1) (fun x own' => own' = [] ∧ ((readP p t).2 ≠ "" ∧ x.msg = (readP p t).2 ∧ (x.C = 138 ∨ x.C = 160))) := by
  have hq' : D.up.q = true := hq
  have hl : (rlp t).length ≤ 1000000 := by have := rlp_len n t hn (rok_item ht); have := rB_le hn; omega
  refine Fn_d (names := ["rlp", "sedes", "strict", "recursive_cache", "item", "per_item_rlp"]) (loc := [some (.bytes (rlp t).toArray), some p.obj, some (.bool true), some (.bool false), none, none]) H.fns.f1758 (by show D.n < 1000; omega) (fun g s vs ws X R1 R2 => ?_) ?_
  · cases R2
    obtain _ | ⟨r1, _ | ⟨r2, _ | _⟩⟩ := R1
    rename_i v1 v2
    exact ⟨[("rlp", v1), ("sedes", v2), ("strict", .bool true), ("recursive_cache", .bool false)], fun _ _ _ _ _ => binds_dflt (tupIn.of H.g.d1751) X rfl rfl rfl, by intro y hy; simp at hy; rcases hy with rfl | rfl | rfl | rfl <;> rfl, .cons rfl r1 rfl (.cons rfl r2 rfl (.cons rfl (.bool _) rfl (.cons rfl (.bool _) rfl (.skip (.skip .nil)))))⟩
  · refine EX_cons (ES_If (TV_Not (TV_value (EV_gcall rfl H.g.g_is_bytes H.g.kf1457 (EL_cons (EV_loc 0 rfl rfl (EL_nil (CV_fn0 (S := S1758 D) (C1457 H (by show D.n + 1 + 20 ≤ 900; omega)).noX (K := fun v => v = .bool true) (KX := fun _ => False) (fun v hv => ?_) fun _ z => z.elim))))))))
    subst hv
    refine TU_bool ?_
    refine EX_nil ?_
    have F := C1714 (D := D.up) (b1 := true) (b2 := false) H (rok_item ht) hn (by show D.n + 1 + 80 + 10 * n ≤ 900; omega) hq
    refine EX_cons (ES_Assign_Tuple (EV_gcall rfl H.g.g_decode_raw H.g.kf1714 (EL_cons (EV_loc 0 rfl rfl (EL_cons (EV_loc 2 rfl rfl (EL_cons (EV_loc 3 rfl rfl (EL_nil (CV_fn0 (S := S1758 D) F.noX (K := fun v => ∃ pi, v = .tuple [t, .list (.bytes (rlp t).toArray :: pi)]) (KX := fun _ => False) (fun v hv => ?_) fun _ z => z.elim))))))))))
    obtain ⟨pi, rfl⟩ := hv
    refine AG_Tuple hq' ⟨rfl, AG_Name 4 rfl rfl ⟨rfl, AG_Name 5 rfl rfl ?_⟩⟩
    refine EX_cons (ES_If (TV_value (EV_loc 1 rfl rfl (TU_sedes H.toKAll ho (by show D.n + 1 + 30 ≤ 900; omega) ?_))))
    have DF := DES H.toKEnd d D.up p n t hp ho (by show D.n + 1 + 40 + 30 * d ≤ 900; omega) hq ht hf
    refine EX_cons (ES_Return (EV_Meth (EV_loc 1 rfl rfl ⟨.ref (desF p), _, kf_des H.toKAll p, GM_des H.toKAll p, EL_cons (EV_loc 4 rfl rfl (EL_nil ?_))⟩)))
    exact CV_fn0 (S := S1758 D) DF (fun v hv => ⟨[], _, rfl, List.Subset.refl _, rfl, hv⟩) fun x hx => ⟨[], _, rfl, List.Subset.refl _, rfl, hx⟩
end
end Mine
end
/-! Lg48 -/
section
open PySem PySem.Calls PyProof.Rows
open PySem.W
namespace Mine
theorem lookup_mem' {α : Type} {β : Type} [BEq α] [LawfulBEq α] {y : α} {k : β} : ∀ {l : List (α × β)}, l.lookup y = some k → (y, k) ∈ l
  | [], h => by cases h
  | (z, j) :: r, h => by
    rw [List.lookup_cons] at h
    cases e : y == z with
    | true => rw [e] at h; cases h; rw [beq_iff_eq.mp e]; exact .head _
    | false => rw [e] at h; exact .tail _ (lookup_mem' h)
/-- the scope of a comprehension that reads the cells deep and state -/
theorem ScopeOk.sd {S : St} {scope : Scope} {x f : Str} (hs : scope.names = [((".0" : Str), .local), (x, .local), (f, .globalImplicit), (("deep" : Str), .free), (("state" : Str), .free)]) (hk : scope.kind = .function) (h1 : (x == (".0" : Str)) = false := by decide) (h2 : (("deep" : Str) == x) = false := by decide) (h3 : (("state" : Str) == x) = false := by decide)
    (h4 : (("deep" : Str) == f) = false := by decide) (h5 : (("state" : Str) == f) = false := by decide) (hS : S.scope.kind = .function := by rfl) (hd : S.scope.names.lookup ("deep" : Str) = some .cell := by rfl) (hst : S.scope.names.lookup ("state" : Str) = some .cell := by rfl) : ScopeOk S scope x ["deep", "state"] := by
  have e1 : (("deep" : Str) == (".0" : Str)) = false := by decide
  have e2 : (("state" : Str) == (".0" : Str)) = false := by decide
  have e3 : (("state" : Str) == ("deep" : Str)) = false := by decide
  have f1 : ∀ y, scope.names.lookup y = some .free → y = ("deep" : Str) ∨ y = ("state" : Str) := fun y hy => by
    have := lookup_mem' hy
    rw [hs] at this
    simp at this
    exact this
  have l1 : scope.names.lookup ("deep" : Str) = some .free := by rw [hs]; simp [List.lookup_cons, e1, h2, h4]
  have l2 : scope.names.lookup ("state" : Str) = some .free := by rw [hs]; simp [List.lookup_cons, e2, h3, h5, e3]
  refine ⟨by rw [hs]; simp [List.lookup_cons, h1], hk, ?_, ?_, ?_, ?_, ?_⟩
  · rw [hs]; intro y hy; simp at hy; rcases hy with rfl | rfl | rfl | rfl | rfl <;> simp
  · rw [hs]; intro y hy hl; simp at hy; rcases hy with rfl | rfl | rfl | rfl | rfl <;> first | (cases hl; done) | simp [List.lookup_cons, h1]
  · have : ¬ x = ("deep" : Str) := fun e => by rw [e] at h2; simp at h2
    have : ¬ x = ("state" : Str) := fun e => by rw [e] at h3; simp at h3
    have e4 : ¬ (("deep" : Str) = ("state" : Str)) := by decide
    simp [*]
  · intro env hf
    have a1 := hf _ l1
    have a2 := hf _ l2
    obtain ⟨c1, hc1⟩ := Option.isSome_iff_exists.mp a1
    obtain ⟨c2, hc2⟩ := Option.isSome_iff_exists.mp a2
    refine ⟨[("state", c2), ("deep", c1)], ?_, ?_⟩
    · unfold closureFor
      rw [hs]
      simp [cellOf, hc1, hc2]
    · intro y hy
      rcases f1 y hy with rfl | rfl
      · rw [hc1]; rfl
      · rw [hc2]; rfl
  · intro y hy hy2
    have hn : (relS scope S).names = [((".0" : Str), .local), (x, .local), (f, .globalImplicit), (("deep" : Str), .cell), (("state" : Str), .cell)] := by
      unfold relS
      simp [hs, hS, hd, hst]
    rcases f1 y hy with rfl | rfl
    · rw [hn]; simp [List.lookup_cons, e1, h2, h4]
    · rw [hn]; simp [List.lookup_cons, e2, h3, h5, e3]
theorem CapOk.sd {S : St} {scope : Scope} {x f : Str} {loc : List (Option AV)} {a b : AV} (i j : Nat) (hs : scope.names = [((".0" : Str), .local), (x, .local), (f, .globalImplicit), (("deep" : Str), .free), (("state" : Str), .free)])
    (i1 : S.names[i]? = some "deep") (i2 : loc[i]? = some (some a)) (j1 : S.names[j]? = some "state") (j2 : loc[j]? = some (some b))
    (h2 : (("deep" : Str) == x) = false := by decide) (h3 : (("state" : Str) == x) = false := by decide) (h4 : (("deep" : Str) == f) = false := by decide) (h5 : (("state" : Str) == f) = false := by decide) (hd : S.scope.names.lookup ("deep" : Str) = some .cell := by rfl) (hst : S.scope.names.lookup ("state" : Str) = some .cell := by rfl) : CapOk S loc scope ["deep", "state"] [some a, some b] := by
  have e1 : (("deep" : Str) == (".0" : Str)) = false := by decide
  have e2 : (("state" : Str) == (".0" : Str)) = false := by decide
  have e3 : (("state" : Str) == ("deep" : Str)) = false := by decide
  have f1 : ∀ y, scope.names.lookup y = some .free → y = ("deep" : Str) ∨ y = ("state" : Str) := fun y hy => by
    have := lookup_mem' hy
    rw [hs] at this
    simp at this
    exact this
  have l1 : scope.names.lookup ("deep" : Str) = some .free := by rw [hs]; simp [List.lookup_cons, e1, h2, h4]
  have l2 : scope.names.lookup ("state" : Str) = some .free := by rw [hs]; simp [List.lookup_cons, e2, h3, h5, e3]
  refine ⟨fun k y c hk hc => ?_, fun y hy => ?_⟩
  · match k with
    | 0 => cases hk; cases hc; exact ⟨⟨i, i1, i2⟩, hd, l1⟩
    | 1 => cases hk; cases hc; exact ⟨⟨j, j1, j2⟩, hst, l2⟩
    | k + 2 => cases hk
  · rcases f1 y hy with rfl | rfl
    · exact ⟨0, a, rfl, rfl⟩
    · exact ⟨1, b, rfl, rfl⟩
end Mine
end
/-! Pr28 -/
section
open PySem PySem.Calls PyProof.Rows
open PySem.W
namespace Mine
/-- the state of the draws: the script and how far it is read -/
abbrev stO (a : Addr) (sc : List Int) (n : Nat) : List (Addr × OV) := [(1702, .ptab 1706), (a, .list [.list (sc.map .int), .int n])]
section
variable {G : Gb} {D : Lv}
theorem C1770 (H : KEnd3 G) {a : Addr} {sc : List Int} {n : Nat} {l : Nat} (hsc : sc.length ≤ 63) (hl : 0 < l) (hD : D.n + 20 ≤ 900) :
    Fn G D (.ref 1770) [.own a, .int l] [] (stO a sc n) (fun v own' => ∃ i n' : Nat, own' = stO a sc n' ∧ v = .int i ∧ i < l) (fun _ _ => False) := by
  have hzz : sizeLine = 16777216 := rfl
  refine Fn_d (names := ["state", "limit"]) (loc := [some (.own a), some (.int l)]) H.fns.f1770 (by show D.n < 1000; omega) (bind2 (fun _ _ _ _ _ _ _ => rfl) rfl rfl rfl rfl) ?_
  refine EX_cons (ES_AugOwn (a := a) (EV_loc 0 rfl rfl ⟨rfl, EV_int ⟨1, .int n, [.list (sc.map .int), .int n], PT, [], rfl, by decide, rfl, rfl, EV_int ⟨rfl, IO_add ⟨rfl, ?_⟩⟩⟩⟩))
  refine EX_cons (ES_If (TV_Compare (EV_Subscript (EV_loc 0 rfl rfl (EV_int (SU_own (ds := [AV.list (sc.map .int), .int ((n : Int) + 1)]) (.tail _ (.head _)) (by decide) (by decide) rfl ?_))))))
  refine EV_bcall rfl H.g.b_len bb_len rfl (by decide) (EL_cons (EV_Subscript (EV_loc 0 rfl rfl (EV_int (SU_own (ds := [AV.list (sc.map .int), .int ((n : Int) + 1)]) (.tail _ (.head _)) (by decide) (by decide) rfl (EL_nil (CV_len_list (by simp; omega) (CO_gt (TU_bool ?_)))))))))
  by_cases h : (n : Int) + 1 > (sc.map AV.int).length
  · rw [decide_eq_true h]
    exact EX_cons (ES_Return (EV_int ⟨stO a sc (n + 1), [], rfl, List.Subset.refl _, 0, n + 1, rfl, rfl, hl⟩))
  · rw [decide_eq_false h]
    refine EX_nil ?_
    have hn : n < sc.length := by simp at h; omega
    refine EX_cons (ES_Return (EV_BinOp (EV_Subscript (EV_Subscript (EV_loc 0 rfl rfl (EV_int (SU_own (ds := [AV.list (sc.map .int), .int ((n : Int) + 1)]) (.tail _ (.head _)) (by decide) (by decide) rfl ?_)))))))
    refine EV_BinOp (EV_Subscript (EV_loc 0 rfl rfl (EV_int (SU_own (ds := [AV.list (sc.map .int), .int ((n : Int) + 1)]) (.tail _ (.head _)) (by decide) (by decide) rfl (EV_int (BO_sub ?_))))))
    refine SU_list (d := .int sc[n]) (by omega) (by omega) ?_ (EV_loc 1 rfl rfl (BO_mod (by omega) ?_))
    · rw [show ((n : Int) + 1 - 1).toNat = n from by omega, List.getElem?_map, List.getElem?_eq_getElem hn]
      rfl
    · have h1 := Int.fmod_nonneg_of_pos sc[n] (b := l) (by omega)
      have h2 := Int.fmod_lt_of_pos sc[n] (b := l) (by omega)
      refine ⟨stO a sc (n + 1), [], rfl, List.Subset.refl _, (sc[n].fmod l).toNat, n + 1, rfl, ?_, by omega⟩
      show AV.int _ = _
      rw [Int.toNat_of_nonneg h1]
/-- a draw -/
theorem CV_next (H : KEnd3 G) {S : St} {σ : AS} {a : Addr} {sc : List Int} {n l : Nat} {k : AV → AS → Prop} {kx : AX → AS → Prop} (hsc : sc.length ≤ 63) (hl : 0 < l) (hD : S.D.n + 20 ≤ 900) (hσ : σ.own = stO a sc n) (h : ∀ i n' : Nat, i < l → k (.int i) ⟨σ.loc, stO a sc n'⟩) : CV G S σ (.ref 1770) [.own a, .int l] [] k kx :=
  CV_fn (D := S.D) (own := stO a sc n) (rest := []) (C1770 H (n := n) hsc hl hD) (by rw [hσ]; rfl) ⟨Nat.le_refl _, id⟩ (fun v own' _ q => by
    obtain ⟨i, n', rfl, rfl, hi⟩ := q
    have := h i n' hi
    rw [List.append_nil]
    exact this) fun _ _ _ z => z.elim
end
end Mine
end
/-! Pr29 -/
section
open PySem PySem.Calls PyProof.Rows
open PySem.W
namespace Mine
theorem plansAv_snoc : ∀ (ps : List Plan) (p : Plan), plansAv (ps ++ [p]) = plansAv ps ++ [p.av]
  | [], p => by simp [plansAv]
  | q :: ps, p => by rw [List.cons_append, plansAv, plansAv, plansAv_snoc ps p]; rfl
theorem plansOk_snoc : ∀ {ps : List Plan} {p : Plan}, plansOk ps → p.ok → plansOk (ps ++ [p])
  | [], p, _, h => ⟨h, trivial⟩
  | q :: ps, p, h, k => ⟨h.1, plansOk_snoc h.2 k⟩
theorem plansDepth_snoc {d : Nat} : ∀ {ps : List Plan} {p : Plan}, plansDepth ps ≤ d → p.depth ≤ d → plansDepth (ps ++ [p]) ≤ d
  | [], p, _, h => by rw [List.nil_append, plansDepth, plansDepth]; omega
  | q :: ps, p, h, k => by
    rw [plansDepth] at h
    rw [List.cons_append, plansDepth]
    have := plansDepth_snoc (d := d) (ps := ps) (p := p) (by omega) k
    omega
abbrev S1775 (D : Lv) : St := ⟨"_law_plan", sc1775, 1775, .ref 1774, ["state", "deep", "pick"], D.up, false⟩
def LPs (G : Gb) (d : Nat) : Prop := ∀ (D : Lv) (a : Addr) (sc : List Int) (n : Nat), sc.length ≤ 63 → D.n + 40 + 30 * d ≤ 900 → D.q = true → Fn G D (.ref 1775) [.own a, .int d] [] (stO a sc n) (fun v own' => ∃ (n' : Nat) (p : Plan), own' = stO a sc n' ∧ v = p.av ∧ p.ok ∧ p.depth ≤ d) (fun _ _ => False)
section
variable {G : Gb} {D : Lv}
theorem Fn_1775 (H : KEnd3 G) {a1 a2 : AV} {own : List (Addr × OV)} {K : AV → List (Addr × OV) → Prop} {KX : AX → List (Addr × OV) → Prop} (hD : D.n < recursionLimit)
    (hb : EX G (S1775 D) ⟨[some a1, some a2, none], own⟩ (defBody d1775) (EndF own K) (EndX own KX)) : Fn G D (.ref 1775) [a1, a2] [] own K KX := by
  obtain ⟨oc, od, osl, kV, doc, pm, an, ct, h1, h2⟩ := H.fns.f1775.get
  refine Fn_defC h1 h2 hD (fun g vs R => ?_) hb
  obtain _ | ⟨r1, _ | ⟨r2, _ | _⟩⟩ := R
  rename_i v1 v2
  refine ⟨[("state", v1), ("deep", v2)], rfl, ?_, ?_⟩
  · intro y hy
    simp at hy
    rcases hy with rfl | rfl
    · exact .inr ⟨rfl, fun n => rfl⟩
    · exact .inr ⟨rfl, fun n => rfl⟩
  · have l1 : sc1775.names.lookup ("state" : Str) = some .cell := rfl
    have l2 : sc1775.names.lookup ("deep" : Str) = some .cell := rfl
    have e1 : ¬ (("state" : Str) = ("deep" : Str)) := by decide
    intro i x c hx hc
    match i with
    | 0 =>
      cases hx; cases hc
      refine ⟨v1, r1, fun kind hk => .inr ⟨rfl, ?_, fun n => rfl⟩⟩
      simp [bindC, hk, l1, l2, e1]
    | 1 =>
      cases hx; cases hc
      refine ⟨v2, r2, fun kind hk => .inr ⟨rfl, ?_, fun n => rfl⟩⟩
      simp [bindC, hk, l1, l2]
    | 2 => cases hc
    | i + 3 => cases hx
def kP (a : Addr) (sc : List Int) (d : Nat) (n : Nat) : AF → AS → Prop := EndF (stO a sc n) (fun v own' => ∃ (n' : Nat) (p : Plan), own' = stO a sc n' ∧ v = p.av ∧ p.ok ∧ p.depth ≤ d)
def xP (a : Addr) (sc : List Int) (n : Nat) : AX → AS → Prop := EndX (stO a sc n) (fun _ _ => False)
theorem retP {a : Addr} {sc : List Int} {d n n' : Nat} {p : Plan} {loc : List (Option AV)} {v : AV} (hv : v = p.av) (ho : p.ok) (hd : p.depth ≤ d) : kP a sc d n (.ret v) ⟨loc, stO a sc n'⟩ :=
  ⟨stO a sc n', [], by rw [List.append_nil], List.Subset.refl _, n', p, rfl, hv, ho, hd⟩
theorem tup3 {a b c : AV} : [a, b, c].length ≤ sizeLine := (show (3 : Nat) ≤ sizeLine by decide)
/-- the leaves of a plan -/
theorem P_leaf (H : KEnd3 G) {a : Addr} {sc : List Int} {n n₀ d i : Nat} (hsc : sc.length ≤ 63) (hi : i < 5) (hD : D.n + 40 ≤ 900) :
    EX G (S1775 D) ⟨[some (.own a), some (.int d), some (.int i)], stO a sc n⟩ ((defBody d1775).drop 1) (kP a sc d n₀) (xP a sc n₀) := by
  have hD' : (S1775 D).D.n + 20 ≤ 900 := by show D.n + 1 + 20 ≤ 900; omega
  refine EX_cons (ES_If (TV_Compare (EV_loc 2 rfl rfl (EV_int (CO_lt (TU_bool ?_))))))
  by_cases h1 : i < 2
  · rw [decide_eq_true (by omega : (i : Int) < 2)]
    refine EX_cons (ES_Return (EV_Tuple (EL_cons (EV_str (EL_cons (EV_Subscript (EV_List (EL_cons (EV_none (EL_cons (EV_none (EL_cons (EV_int (EL_cons (EV_int (EL_nil ⟨(show (4 : Nat) ≤ sizeLine by decide), ?_⟩))))))))))))))))
    refine EV_gcall rfl H.g.g_law_next H.g.kf1770 (EL_cons (EV_loc 0 rfl rfl (EL_cons (EV_int (EL_nil (CV_next H (l := 4) (S := S1775 D) hsc (by decide) hD' rfl fun j n' hj => ?_))))))
    have hx : ∃ one : Option Nat, [AV.none, .none, .int 1, .int 2][j]? = some (optI one) ∧ (Plan.number one).ok := by
      match j, hj with
      | 0, _ => exact ⟨none, rfl, fun n e => by cases e⟩
      | 1, _ => exact ⟨none, rfl, fun n e => by cases e⟩
      | 2, _ => exact ⟨some 1, rfl, fun n e => by cases e; exact .inl rfl⟩
      | 3, _ => exact ⟨some 2, rfl, fun n e => by cases e; exact .inr rfl⟩
    obtain ⟨one, hx, ho⟩ := hx
    exact SU_list (by omega) (by omega) (by rw [Int.toNat_natCast]; exact hx) (EL_cons (EV_none (EL_nil ⟨tup3, retP (p := .number one) (by rw [Plan.av]) ho (by simp [Plan.depth])⟩)))
  · rw [decide_eq_false (by omega : ¬ (i : Int) < 2)]
    refine EX_nil ?_
    refine EX_cons (ES_If (TV_Compare (EV_loc 2 rfl rfl (EV_int (CO_lt (TU_bool ?_))))))
    by_cases h2 : i < 4
    · rw [decide_eq_true (by omega : (i : Int) < 4)]
      refine EX_cons (ES_Return (EV_Tuple (EL_cons (EV_str (EL_cons ?_)))))
      refine EV_gcall rfl H.g.g_law_next H.g.kf1770 (EL_cons (EV_loc 0 rfl rfl (EL_cons (EV_int (EL_nil (CV_next H (l := 3) (S := S1775 D) hsc (by decide) hD' rfl fun lo n' hlo => ?_))))))
      refine EL_cons (EV_Subscript (EV_List (EL_cons (EV_none (EL_cons (EV_int (EL_cons (EV_int (EL_nil ⟨tup3, ?_⟩)))))))))
      refine EV_gcall rfl H.g.g_law_next H.g.kf1770 (EL_cons (EV_loc 0 rfl rfl (EL_cons (EV_int (EL_nil (CV_next H (l := 3) (S := S1775 D) hsc (by decide) hD' rfl fun j n' hj => ?_))))))
      have hx : ∃ hi : Option Nat, [AV.none, .int 2, .int 3][j]? = some (optI hi) ∧ (Plan.octets lo hi).ok := by
        match j, hj with
        | 0, _ => exact ⟨none, rfl, by omega, fun n e => by cases e⟩
        | 1, _ => exact ⟨some 2, rfl, by omega, fun n e => by cases e; decide⟩
        | 2, _ => exact ⟨some 3, rfl, by omega, fun n e => by cases e; decide⟩
      obtain ⟨hi, hx, ho⟩ := hx
      exact SU_list (by omega) (by omega) (by rw [Int.toNat_natCast]; exact hx) (EL_nil ⟨tup3, retP (p := .octets lo hi) (by rw [Plan.av]) ho (by simp [Plan.depth])⟩)
    · rw [decide_eq_false (by omega : ¬ (i : Int) < 4)]
      refine EX_nil ?_
      refine EX_cons (ES_If (TV_Compare (EV_loc 2 rfl rfl (EV_int (CO_eq (TU_bool ?_))))))
      rw [show ((i : Int) == 4) = true from by simpa using (by omega : (i : Int) = 4)]
      exact EX_cons (ES_Return (EV_Tuple (EL_cons (EV_str (EL_cons (EV_none (EL_cons (EV_none (EL_nil ⟨tup3, retP (p := .truth) (by rw [Plan.av]) trivial (by simp [Plan.depth])⟩)))))))))
/-- the knots of a plan -/
theorem P_knot (H : KEnd3 G) {d : Nat} (IH : LPs G d) {a : Addr} {sc : List Int} {n n₀ i : Nat} (hsc : sc.length ≤ 63) (h5 : 5 ≤ i) (hi : i < 9) (hD : D.n + 70 + 30 * d ≤ 900) (hq : D.q = true) :
    EX G (S1775 D) ⟨[some (.own a), some (.int (d + 1 : Nat)), some (.int i)], stO a sc n⟩ ((defBody d1775).drop 1) (kP a sc (d + 1) n₀) (xP a sc n₀) := by
  have hD' : (S1775 D).D.n + 20 ≤ 900 := by show D.n + 1 + 20 ≤ 900; omega
  have hq' : D.up.q = true := hq
  have hzz : sizeLine = 16777216 := rfl
  have IHD : ∀ n, Fn G D.up (.ref 1775) [.own a, .int d] [] (stO a sc n) (fun v own' => ∃ (n' : Nat) (p : Plan), own' = stO a sc n' ∧ v = p.av ∧ p.ok ∧ p.depth ≤ d) (fun _ _ => False) := fun n => IH D.up a sc n hsc (by show D.n + 1 + 40 + 30 * d ≤ 900; omega) hq
  have ed : ((d + 1 : Nat) : Int) - 1 = (d : Int) := by omega
  refine EX_cons (ES_If (TV_Compare (EV_loc 2 rfl rfl (EV_int (CO_lt (TU_bool ?_))))))
  rw [decide_eq_false (by omega : ¬ (i : Int) < 2)]
  refine EX_nil ?_
  refine EX_cons (ES_If (TV_Compare (EV_loc 2 rfl rfl (EV_int (CO_lt (TU_bool ?_))))))
  rw [decide_eq_false (by omega : ¬ (i : Int) < 4)]
  refine EX_nil ?_
  refine EX_cons (ES_If (TV_Compare (EV_loc 2 rfl rfl (EV_int (CO_eq (TU_bool ?_))))))
  rw [show ((i : Int) == 4) = false from by simpa using (by omega : ¬ (i : Int) = 4)]
  refine EX_nil ?_
  refine EX_cons (ES_If (TV_Compare (EV_loc 2 rfl rfl (EV_int (CO_lt (TU_bool ?_))))))
  by_cases h7 : i < 7
  · rw [decide_eq_true (by omega : (i : Int) < 7)]
    refine EX_cons (ES_Return (EV_Tuple (EL_cons (EV_str (EL_cons (EV_Compare ?_))))))
    refine EV_gcall rfl H.g.g_law_next H.g.kf1770 (EL_cons (EV_loc 0 rfl rfl (EL_cons (EV_int (EL_nil (CV_next H (l := 3) (S := S1775 D) hsc (by decide) hD' rfl fun st n1 hst => ?_))))))
    refine EV_int (CO_gt (EL_cons ?_))
    refine EV_ListComp rfl (ScopeOk.sd (f := "_law_plan") rfl rfl) (CapOk.sd (x := "k") (f := "_law_plan") (a := .int (d + 1 : Nat)) (b := .own a) 1 0 rfl rfl rfl rfl rfl) ?_
    refine IE1_range hq' (EV_blt rfl H.g.b_range bb_range (by decide) ⟨rfl, EV_BinOp (EV_int ?_)⟩)
    refine EV_gcall rfl H.g.g_law_next H.g.kf1770 (EL_cons (EV_loc 0 rfl rfl (EL_cons (EV_int (EL_nil (CV_next H (l := 3) (S := S1775 D) hsc (by decide) hD' rfl fun m n2 hm => ?_))))))
    refine BO_add ⟨1 + m, by rw [Int.natCast_add]; rfl, by omega, ?_⟩
    refine ⟨(List.range (1 + m)).map fun i : Nat => .int (i : Int), by simp [rangeI], by simp; omega, CapOk.sd (x := "k") (f := "_law_plan") 1 0 rfl rfl rfl rfl rfl, fun i ys own => ∃ n' ps, own = stO a sc n' ∧ ys = plansAv ps ∧ ps.length = i ∧ plansOk ps ∧ plansDepth ps ≤ d, ⟨n2, [], rfl, rfl, rfl, trivial, by rw [plansDepth]; omega⟩, ?_, ?_⟩
    · rintro i x ys own hx ⟨n', ps, rfl, rfl, hps, ho, hdp⟩
      refine EV_gcall rfl H.g.g_law_plan H.g.kf1775 (EL_cons (EV_loc 2 rfl rfl (EL_cons (EV_BinOp (EV_loc 1 rfl rfl (EV_int (BO_sub (EL_nil ?_))))))))
      rw [ed]
      refine CV_fn (own := stO a sc n') (rest := []) (IHD n') rfl ⟨Nat.le_refl _, id⟩ (fun v own' _ q => ?_) fun _ _ _ z => z
      obtain ⟨n3, p, rfl, rfl, hpo, hpd⟩ := q
      exact ⟨n3, ps ++ [p], rfl, (plansAv_snoc ps p).symm, by rw [List.length_append, hps]; rfl, plansOk_snoc ho hpo, plansDepth_snoc hdp hpd⟩
    · rintro ys own ⟨n', ps, rfl, rfl, hps, ho, hdp⟩
      rw [List.length_map, List.length_range] at hps
      refine EL_nil ⟨tup3, retP (p := .row (decide ((st : Int) > 0)) ps) (by rw [Plan.av]) ⟨fun e => by rw [e] at hps; simp at hps; omega, by omega, ho⟩ (by rw [Plan.depth]; omega)⟩
  · rw [decide_eq_false (by omega : ¬ (i : Int) < 7)]
    refine EX_nil ?_
    refine EX_cons (ES_Return (EV_Tuple (EL_cons (EV_str (EL_cons (EV_Subscript (EV_List (EL_cons (EV_none (EL_cons (EV_int (EL_nil ⟨(show (2 : Nat) ≤ sizeLine by decide), EV_BinOp (EV_loc 2 rfl rfl (EV_int (BO_sub ?_)))⟩))))))))))))
    have hx : ∃ m : Option Nat, [AV.none, .int 2][((i : Int) - 7).toNat]? = some (optI m) ∧ ∀ n, m = some n → n = 2 := by
      match i, h7, hi with
      | 7, _, _ => exact ⟨none, rfl, fun n e => by cases e⟩
      | 8, _, _ => exact ⟨some 2, rfl, fun n e => by cases e; rfl⟩
      | 0, h, _ => omega
      | 1, h, _ => omega
      | 2, h, _ => omega
      | 3, h, _ => omega
      | 4, h, _ => omega
      | 5, h, _ => omega
      | 6, h, _ => omega
    obtain ⟨m, hx, hm⟩ := hx
    refine SU_list (by omega) (by omega) hx (EL_cons ?_)
    refine EV_gcall rfl H.g.g_law_plan H.g.kf1775 (EL_cons (EV_loc 0 rfl rfl (EL_cons (EV_BinOp (EV_loc 1 rfl rfl (EV_int (BO_sub (EL_nil ?_))))))))
    rw [ed]
    refine CV_fn (own := stO a sc n) (rest := []) (IHD n) rfl ⟨Nat.le_refl _, id⟩ (fun v own' _ q => ?_) fun _ _ _ z => z.elim
    obtain ⟨n3, p, rfl, rfl, hpo, hpd⟩ := q
    exact EL_nil ⟨tup3, retP (p := .many m p) (by rw [Plan.av]) ⟨hm, hpo⟩ (by rw [Plan.depth]; omega)⟩
theorem LP (H : KEnd3 G) : ∀ d, LPs G d
  | 0 => fun D a sc n hsc hD hq => by
    refine Fn_1775 H (by show D.n < 1000; omega) ?_
    refine EX_cons (ES_Assign_Name 2 rfl (EV_gcall rfl H.g.g_law_next H.g.kf1770 (EL_cons (EV_loc 0 rfl rfl (EL_cons (EV_IfExp (TV_Compare (EV_loc 1 rfl rfl (EV_int (CO_gt (TU_bool ?_)))))))))))
    refine EV_int (EL_nil (CV_next H (l := 5) (S := S1775 D) hsc (by decide) (by show D.n + 1 + 20 ≤ 900; omega) rfl fun i n1 hi => ?_))
    exact P_leaf H hsc hi (by omega)
  | d + 1 => fun D a sc n hsc hD hq => by
    have IH := LP H d
    refine Fn_1775 H (by show D.n < 1000; omega) ?_
    refine EX_cons (ES_Assign_Name 2 rfl (EV_gcall rfl H.g.g_law_next H.g.kf1770 (EL_cons (EV_loc 0 rfl rfl (EL_cons (EV_IfExp (TV_Compare (EV_loc 1 rfl rfl (EV_int (CO_gt (TU_bool ?_)))))))))))
    rw [decide_eq_true (by omega : ((d + 1 : Nat) : Int) > 0)]
    refine EV_int (EL_nil (CV_next H (l := 9) (S := S1775 D) hsc (by decide) (by show D.n + 1 + 20 ≤ 900; omega) rfl fun i n1 hi => ?_))
    by_cases h : i < 5
    · exact P_leaf H hsc h (by omega)
    · exact P_knot H IH hsc (by omega) hi (by omega) hq
end
end Mine
end
/-! Pr30 -/
section
open PySem PySem.Calls PyProof.Rows
open PySem.W
namespace Mine
section
variable {G : Gb} {S : St} {σ : AS} {k : AV → AS → Prop} {kx : AX → AS → Prop} {D : Lv}
theorem UO_neg {a : Int} (h : k (.int (-a)) σ) : UO G S σ .USub (.int a) k kx := fun r g s I va Ra Q E hk _ => by
  cases Ra; exact PyProof.Rows.neg_int (hk _ _ _ _ _ (.toks I _) (.int _ _) h)
abbrev NSPD : List Str := ["state", "plan", "deep", "kind", "one", "two", "pick", "parts"]
theorem Fn_spd {f : Addr} {d : Stmt} {qual : Str} {cdv : Value} {a1 a2 a3 : AV} {own : List (Addr × OV)} {K : AV → List (Addr × OV) → Prop} {KX : AX → List (Addr × OV) → Prop} (hf : FnAt G.K f d qual sc1785 [] .none cdv)
    (h0 : ∀ kV doc pm an ct v1 v2 v3, bindArgs (fnX (defName d) qual (defArgs d) (defBody d) sc1785 [] .none kV doc pm an cdv ct) ⟨[v1, v2, v3], []⟩ = pure [(("state" : Str), v1), (("plan" : Str), v2), (("deep" : Str), v3)]) (hD : D.n < recursionLimit)
    (hb : EX G ⟨qual, sc1785, f, cdv, NSPD, D.up, false⟩ ⟨[some a1, some a2, some a3, none, none, none, none, none], own⟩ (defBody d) (EndF own K) (EndX own KX)) : Fn G D (.ref f) [a1, a2, a3] [] own K KX := by
  obtain ⟨oc, od, osl, kV, doc, pm, an, ct, h1, h2⟩ := hf.get
  refine Fn_defC h1 h2 hD (fun g vs R => ?_) hb
  obtain _ | ⟨r1, _ | ⟨r2, _ | ⟨r3, _ | _⟩⟩⟩ := R
  rename_i v1 v2 v3
  refine ⟨[("state", v1), ("plan", v2), ("deep", v3)], h0 _ _ _ _ _ _ _ _, ?_, ?_⟩
  · intro y hy
    simp at hy
    rcases hy with rfl | rfl | rfl
    · exact .inr ⟨rfl, fun n => rfl⟩
    · exact .inl rfl
    · exact .inr ⟨rfl, fun n => rfl⟩
  · have l1 : sc1785.names.lookup ("state" : Str) = some .cell := rfl
    have l2 : sc1785.names.lookup ("plan" : Str) = some .local := rfl
    have l3 : sc1785.names.lookup ("deep" : Str) = some .cell := rfl
    have e1 : ¬ (("state" : Str) = ("deep" : Str)) := by decide
    intro i x c hx hc
    match i with
    | 0 =>
      cases hx; cases hc
      refine ⟨v1, r1, fun kind hk => .inr ⟨rfl, ?_, fun n => rfl⟩⟩
      simp [bindC, hk, l1, l2, l3, e1]
    | 1 =>
      cases hx; cases hc
      refine ⟨v2, r2, fun kind hk => .inl ⟨rfl, ?_⟩⟩
      simp [bindL, hk, l1, l2, l3]
    | 2 =>
      cases hx; cases hc
      refine ⟨v3, r3, fun kind hk => .inr ⟨rfl, ?_, fun n => rfl⟩⟩
      simp [bindC, hk, l1, l2, l3]
    | 3 => cases hc
    | 4 => cases hc
    | 5 => cases hc
    | 6 => cases hc
    | 7 => cases hc
    | i + 8 => cases hx
theorem AG_av {a b c : AV} {ts : List Expr} {u : Nat} {q : Pos} {p : Plan} {ku : Unit → AS → Prop} (hS : S.D.q = true) (h : AGs G S ku kx ts [a, b, c] σ) (hl : ts.length = 3) (hp : plains ts = true) (e : p.av = .tuple [a, b, c]) : AG G S σ (.Tuple ts u q) p.av ku kx := by
  rw [e]
  exact AG_Tuple hS h hl hp
end
abbrev S1785 (D : Lv) : St := ⟨"_law_thing", sc1785, 1785, .ref 1784, NSPD, D.up, false⟩
def LTs (G : Gb) (d : Nat) : Prop := ∀ (D : Lv) (a : Addr) (sc : List Int) (n : Nat) (p : Plan), sc.length ≤ 63 → p.ok → p.depth ≤ d → D.n + 40 + 30 * d ≤ 900 → D.q = true → Fn G D (.ref 1785) [.own a, p.av, .int d] [] (stO a sc n) (fun v own' => ∃ n' : Nat, own' = stO a sc n' ∧ thOk (d + 1) v) (fun _ _ => False)
def kT (a : Addr) (sc : List Int) (d : Nat) (n : Nat) : AF → AS → Prop := EndF (stO a sc n) (fun v own' => ∃ n' : Nat, own' = stO a sc n' ∧ thOk (d + 1) v)
theorem retT {a : Addr} {sc : List Int} {d n n' : Nat} {loc : List (Option AV)} {v : AV} (hv : thOk (d + 1) v) : kT a sc d n (.ret v) ⟨loc, stO a sc n'⟩ :=
  ⟨stO a sc n', [], by rw [List.append_nil], List.Subset.refl _, n', rfl, hv⟩
theorem thOk_int {n : Nat} {i : Int} (h1 : -1 ≤ i) (h2 : i ≤ 70000) : thOk n (.int i) := by cases n <;> exact ⟨h1, h2⟩
section
variable {G : Gb} {D : Lv}
abbrev σT (a : Addr) (sc : List Int) (n d : Nat) (pl kd on tw pk pt : Option AV) : AS := ⟨[some (.own a), pl, some (.int d), kd, on, tw, pk, pt], stO a sc n⟩
/-- ahead of the kinds: what is no thing of the plan -/
theorem T_odd (H : KEnd3 G) {a : Addr} {sc : List Int} {n n₀ d i : Nat} {pl kd on tw : Option AV} (hsc : sc.length ≤ 63) (hD : D.n + 40 ≤ 900)
    (h : i ≠ 5 → EX G (S1785 D) (σT a sc n d pl kd on tw (some (.int i)) none) ((defBody d1785).drop 3) (kT a sc d n₀) (xP a sc n₀)) :
    EX G (S1785 D) (σT a sc n d pl kd on tw (some (.int i)) none) ((defBody d1785).drop 2) (kT a sc d n₀) (xP a sc n₀) := by
  have hD' : (S1785 D).D.n + 20 ≤ 900 := by show D.n + 1 + 20 ≤ 900; omega
  refine EX_cons (ES_If (TV_BoolOp (TA_Or_cons (TV_Compare (EV_loc 6 rfl rfl (EV_int (CO_eq (TU_bool ?_))))))))
  by_cases h5 : i = 5
  · rw [show ((i : Int) == 5) = true from by simpa using (by omega : (i : Int) = 5)]
    refine EX_cons (ES_Return (EV_Subscript (EV_List (EL_cons (EV_none (EL_cons (EV_str (EL_cons (EV_UnaryOp (EV_int (UO_neg (EL_cons (EV_int (EL_cons (EV_bytes (EL_cons (EV_List (EL_nil ⟨by decide, ?_⟩))))))))))))))))))
    refine EL_cons (EV_List (EL_cons (EV_int (EL_nil ⟨(show (1 : Nat) ≤ sizeLine by decide), EL_cons (EV_bool (EL_nil ⟨(show (8 : Nat) ≤ sizeLine by decide), ?_⟩))⟩))))
    refine EV_gcall rfl H.g.g_law_next H.g.kf1770 (EL_cons (EV_loc 0 rfl rfl (EL_cons (EV_int (EL_nil (CV_next H (l := 8) (S := S1785 D) hsc (by decide) hD' rfl fun j n' hj => ?_))))))
    have hx : ∃ t, [AV.none, .str "a", .int (-1), .int 300, .bytes #[97, 98, 99, 100], .list [], .list [.int 1], .bool true][j]? = some t ∧ thOk (d + 1) t := by
      match j, hj with
      | 0, _ => exact ⟨_, rfl, trivial⟩
      | 1, _ => exact ⟨_, rfl, (show ("a" : Str).length ≤ 5 by decide)⟩
      | 2, _ => exact ⟨_, rfl, thOk_int (by decide) (by decide)⟩
      | 3, _ => exact ⟨_, rfl, thOk_int (by decide) (by decide)⟩
      | 4, _ => exact ⟨_, rfl, (show (4 : Nat) ≤ 5 by decide)⟩
      | 5, _ => exact ⟨_, rfl, by decide, by simp⟩
      | 6, _ => exact ⟨_, rfl, by decide, by intro x hx; rw [List.mem_singleton.mp hx]; exact thOk_int (by decide) (by decide)⟩
      | 7, _ => exact ⟨_, rfl, trivial⟩
    obtain ⟨t, hx, ht⟩ := hx
    exact SU_list (by omega) (by omega) (by rw [Int.toNat_natCast]; exact hx) (retT ht)
  · rw [show ((i : Int) == 5) = false from by simpa using (by omega : ¬ (i : Int) = 5)]
    refine TA_Or_cons (TV_Compare (EV_loc 2 rfl rfl (EV_int (CO_lt (TU_bool ?_)))))
    rw [decide_eq_false (by omega : ¬ (d : Int) < 0)]
    exact TA_Or_nil (EX_nil (h h5))
theorem T_row (H : KEnd3 G) {d : Nat} (IH : LTs G d) {a : Addr} {sc : List Int} {n n₀ i : Nat} {pl kd on tw : Option AV} {PS : List AV} (hPS : ∀ x ∈ PS, ∃ p : Plan, x = p.av ∧ p.ok ∧ p.depth ≤ d) (hlen : PS.length ≤ 3) (hsc : sc.length ≤ 63) (hD : D.n + 70 + 30 * d ≤ 900) (hq : D.q = true) :
    EX G (S1785 D) (σT a sc n (d + 1) pl kd on tw (some (.int i)) (some (.list PS))) ((defBody d1785).drop 7) (kT a sc (d + 1) n₀) (xP a sc n₀) := by
  have hq' : D.up.q = true := hq
  have hzz : sizeLine = 16777216 := rfl
  have ed : ((d + 1 : Nat) : Int) - 1 = (d : Int) := by omega
  refine EX_cons (ES_Return (EV_BinOp (EV_ListComp rfl (ScopeOk.sd (x := "part") (f := "_law_thing") rfl rfl) (CapOk.sd (x := "part") (f := "_law_thing") (a := .int (d + 1 : Nat)) (b := .own a) 2 0 rfl rfl rfl rfl rfl) (IE1_list hq' (EV_loc 7 rfl rfl ⟨PS, rfl, PS, rfl, by omega, CapOk.sd (x := "part") (f := "_law_thing") 2 0 rfl rfl rfl rfl rfl, ?_⟩)))))
  refine ⟨fun i ys own => ∃ n' : Nat, own = stO a sc n' ∧ ys.length = i ∧ ∀ y ∈ ys, thOk (d + 1) y, ⟨n, rfl, rfl, by simp⟩, ?_, ?_⟩
  · rintro i x ys own hx ⟨n', rfl, hys, ho⟩
    obtain ⟨p, rfl, hpo, hpd⟩ := hPS x (List.mem_of_getElem? hx)
    refine EV_gcall rfl H.g.g_law_thing H.g.kf1785 (EL_cons (EV_loc 2 rfl rfl (EL_cons (EV_loc 0 rfl rfl (EL_cons (EV_BinOp (EV_loc 1 rfl rfl (EV_int (BO_sub (EL_nil ?_))))))))))
    rw [ed]
    refine CV_fn (own := stO a sc n') (rest := []) (IH D.up a sc n' p hsc hpo hpd (by show D.n + 1 + 40 + 30 * d ≤ 900; omega) hq) rfl ⟨Nat.le_refl _, id⟩ (fun v own' _ q => ?_) fun _ _ _ z => z
    obtain ⟨n3, rfl, hv⟩ := q
    refine ⟨n3, rfl, by rw [List.length_append, hys]; rfl, fun y hy => ?_⟩
    rcases List.mem_append.mp hy with hy | hy
    · exact ho y hy
    · rw [List.mem_singleton.mp hy]; exact hv
  · rintro ys own ⟨n', rfl, hys, ho⟩
    refine EV_IfExp (TV_Compare (EV_loc 6 rfl rfl (EV_int (CO_eq (TU_bool ?_)))))
    have fin : ∀ zs : List AV, zs.length ≤ 1 → (∀ z ∈ zs, thOk (d + 1) z) → BO G (S1785 D) (σT a sc n' (d + 1) pl kd on tw (some (.int i)) (some (.list PS))) .Add (.list ys) (.list zs) (fun a_1 σ1 => kT a sc (d + 1) n₀ (.ret a_1) σ1) (xP a sc n₀) := by
      intro zs hz ht
      refine BO_list (by omega) (retT ⟨by rw [List.length_append]; omega, fun y hy => ?_⟩)
      rcases List.mem_append.mp hy with hy | hy
      · exact ho y hy
      · exact ht y hy
    cases ((i : Int) == 4)
    · exact EV_List (EL_nil ⟨by decide, fin [] (by decide) (by simp)⟩)
    · exact EV_List (EL_cons (EV_int (EL_nil ⟨(show (1 : Nat) ≤ sizeLine by decide), fin [.int 7] (by decide) (by intro z hz; rw [List.mem_singleton.mp hz]; exact thOk_int (by decide) (by decide))⟩)))
theorem T_in (H : KEnd3 G) {a : Addr} {sc : List Int} {n d : Nat} {p : Plan} {A B C : AV} (e : p.av = .tuple [A, B, C]) (hsc : sc.length ≤ 63) (hD : D.n + 40 ≤ 900) (hq : D.q = true)
    (h : ∀ i n', i ≠ 5 → EX G (S1785 D) (σT a sc n' d (some p.av) (some A) (some B) (some C) (some (.int (i : Nat))) none) ((defBody d1785).drop 3) (kT a sc d n) (xP a sc n)) :
    Fn G D (.ref 1785) [.own a, p.av, .int d] [] (stO a sc n) (fun v own' => ∃ n' : Nat, own' = stO a sc n' ∧ thOk (d + 1) v) (fun _ _ => False) := by
  have hq' : D.up.q = true := hq
  refine Fn_spd H.fns.f1785 (fun _ _ _ _ _ _ _ _ => rfl) (by show D.n < 1000; omega) ?_
  refine EX_cons (ES_Assign_Tuple (EV_loc 1 rfl rfl ?_))
  refine AG_av hq' ⟨rfl, AG_Name 3 rfl rfl ⟨rfl, AG_Name 4 rfl rfl ⟨rfl, AG_Name 5 rfl rfl ?_⟩⟩⟩ rfl rfl e
  refine EX_cons (ES_Assign_Name 6 rfl (EV_gcall rfl H.g.g_law_next H.g.kf1770 (EL_cons (EV_loc 0 rfl rfl (EL_cons (EV_int (EL_nil (CV_next H (l := 6) (S := S1785 D) hsc (by decide) (by show D.n + 1 + 20 ≤ 900; omega) rfl fun i n' hi => ?_))))))))
  exact T_odd H hsc hD fun h5 => h i n' h5
theorem T_leaf (H : KEnd3 G) {a : Addr} {sc : List Int} {n d : Nat} {p : Plan} (hp : p.depth = 0) (hsc : sc.length ≤ 63) (hD : D.n + 40 ≤ 900) (hq : D.q = true) :
    Fn G D (.ref 1785) [.own a, p.av, .int d] [] (stO a sc n) (fun v own' => ∃ n' : Nat, own' = stO a sc n' ∧ thOk (d + 1) v) (fun _ _ => False) := by
  have hD' : (S1785 D).D.n + 20 ≤ 900 := by show D.n + 1 + 20 ≤ 900; omega
  cases p with
  | number one =>
    refine T_in H (p := .number one) (by rw [Plan.av]) hsc hD hq fun i n' h5 => ?_
    refine EX_cons (ES_If (TV_Compare (EV_loc 3 rfl rfl (EV_str (CO_str_eq (TU_bool ?_))))))
    refine EX_cons (ES_Return (EV_Subscript (EV_List (EL_cons (EV_int (EL_cons (EV_int (EL_cons (EV_int (EL_cons (EV_int (EL_cons (EV_int (EL_nil ⟨(show (5 : Nat) ≤ sizeLine by decide), ?_⟩))))))))))))))
    refine EV_gcall rfl H.g.g_law_next H.g.kf1770 (EL_cons (EV_loc 0 rfl rfl (EL_cons (EV_int (EL_nil (CV_next H (l := 5) (S := S1785 D) hsc (by decide) hD' rfl fun j n' hj => ?_))))))
    have hx : ∃ t, [AV.int 0, .int 1, .int 200, .int 256, .int 70000][j]? = some t ∧ thOk (d + 1) t := by
      match j, hj with
      | 0, _ => exact ⟨_, rfl, thOk_int (by decide) (by decide)⟩
      | 1, _ => exact ⟨_, rfl, thOk_int (by decide) (by decide)⟩
      | 2, _ => exact ⟨_, rfl, thOk_int (by decide) (by decide)⟩
      | 3, _ => exact ⟨_, rfl, thOk_int (by decide) (by decide)⟩
      | 4, _ => exact ⟨_, rfl, thOk_int (by decide) (by decide)⟩
    obtain ⟨t, hx, ht⟩ := hx
    exact SU_list (by omega) (by omega) (by rw [Int.toNat_natCast]; exact hx) (retT ht)
  | octets lo hi =>
    refine T_in H (p := .octets lo hi) (by rw [Plan.av]) hsc hD hq fun i n' h5 => ?_
    refine EX_cons (ES_If (TV_Compare (EV_loc 3 rfl rfl (EV_str (CO_str_eq (TU_bool ?_))))))
    refine EX_nil ?_
    refine EX_cons (ES_If (TV_Compare (EV_loc 3 rfl rfl (EV_str (CO_str_eq (TU_bool ?_))))))
    refine EX_cons (ES_Return (EV_Subscript (EV_List (EL_cons (EV_bytes (EL_cons (EV_bytes (EL_cons (EV_bytes (EL_cons (EV_bytes (EL_nil ⟨(show (4 : Nat) ≤ sizeLine by decide), ?_⟩))))))))))))
    refine EV_gcall rfl H.g.g_law_next H.g.kf1770 (EL_cons (EV_loc 0 rfl rfl (EL_cons (EV_int (EL_nil (CV_next H (l := 4) (S := S1785 D) hsc (by decide) hD' rfl fun j n' hj => ?_))))))
    have hx : ∃ t, [AV.bytes #[], .bytes #[97], .bytes #[97, 98], .bytes #[97, 98, 99, 100]][j]? = some t ∧ thOk (d + 1) t := by
      match j, hj with
      | 0, _ => exact ⟨_, rfl, (show (0 : Nat) ≤ 5 by decide)⟩
      | 1, _ => exact ⟨_, rfl, (show (1 : Nat) ≤ 5 by decide)⟩
      | 2, _ => exact ⟨_, rfl, (show (2 : Nat) ≤ 5 by decide)⟩
      | 3, _ => exact ⟨_, rfl, (show (4 : Nat) ≤ 5 by decide)⟩
    obtain ⟨t, hx, ht⟩ := hx
    exact SU_list (by omega) (by omega) (by rw [Int.toNat_natCast]; exact hx) (retT ht)
  | truth =>
    refine T_in H (p := .truth) (by rw [Plan.av]) hsc hD hq fun i n' h5 => ?_
    refine EX_cons (ES_If (TV_Compare (EV_loc 3 rfl rfl (EV_str (CO_str_eq (TU_bool ?_))))))
    refine EX_nil ?_
    refine EX_cons (ES_If (TV_Compare (EV_loc 3 rfl rfl (EV_str (CO_str_eq (TU_bool ?_))))))
    refine EX_nil ?_
    refine EX_cons (ES_If (TV_Compare (EV_loc 3 rfl rfl (EV_str (CO_str_eq (TU_bool ?_))))))
    refine EX_cons (ES_Return (EV_Compare ?_))
    refine EV_gcall rfl H.g.g_law_next H.g.kf1770 (EL_cons (EV_loc 0 rfl rfl (EL_cons (EV_int (EL_nil (CV_next H (l := 2) (S := S1785 D) hsc (by decide) hD' rfl fun j n' hj => ?_))))))
    exact EV_int (CO_eq (retT trivial))
  | row s ps => rw [Plan.depth] at hp; omega
  | many m p => rw [Plan.depth] at hp; omega
theorem plansAv_all {d : Nat} {ps : List Plan} (ho : plansOk ps) (hd : plansDepth ps ≤ d) : ∀ x ∈ plansAv ps, ∃ p : Plan, x = p.av ∧ p.ok ∧ p.depth ≤ d := by
  intro x hx
  obtain ⟨i, hi, e⟩ := List.getElem_of_mem hx
  rw [plansAv_length] at hi
  have h1 := plansAv_get (List.getElem?_eq_getElem hi)
  have h2 := plansDepth_get (List.getElem?_eq_getElem hi)
  refine ⟨ps[i], ?_, plansOk_get ho (List.getElem?_eq_getElem hi), by omega⟩
  rw [List.getElem?_eq_getElem (by rw [plansAv_length]; exact hi), e] at h1
  exact Option.some.inj h1
theorem rep_all {d m : Nat} {q : Plan} (ho : q.ok) (hd : q.depth ≤ d) : ∀ x ∈ (List.replicate m [q.av]).flatten, ∃ p : Plan, x = p.av ∧ p.ok ∧ p.depth ≤ d := by
  intro x hx
  rw [replicate_flat] at hx
  exact ⟨q, List.eq_of_mem_replicate hx, ho, hd⟩
theorem LT (H : KEnd3 G) : ∀ d, LTs G d := by
  intro d
  induction d with
  | zero =>
    intro D a sc n p hsc ho hd hD hq
    exact T_leaf H (by omega) hsc (by omega) hq
  | succ d IH =>
    intro D a sc n p hsc ho hd hD hq
    have hq' : D.up.q = true := hq
    cases p with
    | row s ps =>
      rw [Plan.depth] at hd
      refine T_in H (p := .row s ps) (by rw [Plan.av]) hsc (by omega) hq fun i n' h5 => ?_
      refine EX_cons (ES_If (TV_Compare (EV_loc 3 rfl rfl (EV_str (CO_str_eq (TU_bool ?_))))))
      refine EX_nil ?_
      refine EX_cons (ES_If (TV_Compare (EV_loc 3 rfl rfl (EV_str (CO_str_eq (TU_bool ?_))))))
      refine EX_nil ?_
      refine EX_cons (ES_If (TV_Compare (EV_loc 3 rfl rfl (EV_str (CO_str_eq (TU_bool ?_))))))
      refine EX_nil ?_
      refine EX_cons (ES_Assign_Name 7 rfl (EV_IfExp (TV_Compare (EV_loc 3 rfl rfl (EV_str (CO_str_eq (TU_bool ?_)))))))
      refine EV_loc 5 rfl rfl ?_
      exact T_row H IH (plansAv_all ho.2.2 (by omega)) (by rw [plansAv_length]; exact ho.2.1) hsc (by omega) hq
    | many m q =>
      rw [Plan.depth] at hd
      refine T_in H (p := .many m q) (by rw [Plan.av]) hsc (by omega) hq fun i n' h5 => ?_
      refine EX_cons (ES_If (TV_Compare (EV_loc 3 rfl rfl (EV_str (CO_str_eq (TU_bool ?_))))))
      refine EX_nil ?_
      refine EX_cons (ES_If (TV_Compare (EV_loc 3 rfl rfl (EV_str (CO_str_eq (TU_bool ?_))))))
      refine EX_nil ?_
      refine EX_cons (ES_If (TV_Compare (EV_loc 3 rfl rfl (EV_str (CO_str_eq (TU_bool ?_))))))
      refine EX_nil ?_
      refine EX_cons (ES_Assign_Name 7 rfl (EV_IfExp (TV_Compare (EV_loc 3 rfl rfl (EV_str (CO_str_eq (TU_bool ?_)))))))
      refine EV_ListMul (EL_cons (EV_loc 5 rfl rfl (EL_nil ⟨⟨by simp, (show (1 : Nat) ≤ sizeLine by decide)⟩, ?_⟩)))
      refine EV_gcall rfl H.g.g_law_next H.g.kf1770 (EL_cons (EV_loc 0 rfl rfl (EL_cons (EV_int (EL_nil (CV_next H (l := 4) (S := S1785 D) hsc (by decide) (by show D.n + 1 + 20 ≤ 900; omega) rfl fun j n' hj => ?_))))))
      refine ⟨j, rfl, by omega, by omega, by rw [Int.toNat_natCast]; simp; omega, ?_⟩
      rw [Int.toNat_natCast]
      exact T_row H IH (rep_all ho.2 (by omega)) (by rw [replicate_flat, List.length_replicate]; omega) hsc (by omega) hq
    | number one => exact T_leaf H (by simp [Plan.depth]) hsc (by omega) hq
    | octets lo hi => exact T_leaf H (by simp [Plan.depth]) hsc (by omega) hq
    | truth => exact T_leaf H (by simp [Plan.depth]) hsc (by omega) hq
end
end Mine
end
/-! Pr31 -/
section
open PySem PySem.Calls PyProof.Rows
open PySem.W
namespace Mine
theorem fits_bytes : ∀ (p : Plan) (b : Array UInt8), fits p (.bytes b)
  | .number _, b => by simp [fits]
  | .octets _ _, b => by simp [fits]
  | .truth, b => by simp [fits]
  | .row _ _, b => by simp [fits]
  | .many _ _, b => by simp [fits]
theorem fitsZ_of : ∀ {ps : List Plan} {ys zs : List AV}, ys.length = ps.length → (∀ (k : Nat) (p : Plan) (y : AV), ps[k]? = some p → ys[k]? = some y → fits p y) → fitsZ ps (ys ++ zs)
  | [], [], zs, _, _ => by simp [fitsZ]
  | [], y :: ys, zs, h, _ => by simp at h
  | p :: ps, [], zs, h, _ => by simp at h
  | p :: ps, y :: ys, zs, h, hf => by
    rw [List.cons_append, fitsZ]
    exact ⟨hf 0 p y rfl rfl, fitsZ_of (by simpa using h) fun k q x h1 h2 => hf (k + 1) q x (by simpa using h1) (by simpa using h2)⟩
theorem itOk_bytes {n : Nat} {b : Array UInt8} (h : b.size ≤ 5) : itOk n (.bytes b) := by cases n <;> exact h
theorem itOk_up : ∀ {n : Nat} {t : AV}, itOk n t → itOk (n + 1) t
  | 0, t, h => by cases t <;> first | exact h.elim | exact h
  | n + 1, t, h => by cases t <;> first | exact h.elim | exact h | exact ⟨h.1, fun d hd => itOk_up (h.2 d hd)⟩
abbrev S1790 (D : Lv) : St := ⟨"_law_item", sc1790, 1790, .ref 1789, NSPD, D.up, false⟩
def LIs (G : Gb) (d : Nat) : Prop := ∀ (D : Lv) (a : Addr) (sc : List Int) (n : Nat) (p : Plan), sc.length ≤ 63 → p.ok → p.depth ≤ d → D.n + 40 + 30 * d ≤ 900 → D.q = true → Fn G D (.ref 1790) [.own a, p.av, .int d] [] (stO a sc n) (fun v own' => ∃ n' : Nat, own' = stO a sc n' ∧ itOk (d + 1) v ∧ fits p v) (fun _ _ => False)
def kI (a : Addr) (sc : List Int) (d : Nat) (p : Plan) (n : Nat) : AF → AS → Prop := EndF (stO a sc n) (fun v own' => ∃ n' : Nat, own' = stO a sc n' ∧ itOk (d + 1) v ∧ fits p v)
theorem retI {a : Addr} {sc : List Int} {d n n' : Nat} {p : Plan} {loc : List (Option AV)} {v : AV} (hv : itOk (d + 1) v) (hf : fits p v) : kI a sc d p n (.ret v) ⟨loc, stO a sc n'⟩ :=
  ⟨stO a sc n', [], by rw [List.append_nil], List.Subset.refl _, n', rfl, hv, hf⟩
section
variable {G : Gb} {D : Lv}
theorem I_row (H : KEnd3 G) {d : Nat} (IH : LIs G d) {a : Addr} {sc : List Int} {n n₀ i : Nat} {pl kd on tw : Option AV} {P : Plan} {pss : List Plan} (hPS : plansOk pss) (hPd : plansDepth pss ≤ d) (hlen : pss.length ≤ 3) (hsc : sc.length ≤ 63) (hD : D.n + 70 + 30 * d ≤ 900) (hq : D.q = true)
    (hfin : ∀ ys zs : List AV, ys.length = pss.length → (∀ (k : Nat) (p : Plan) (y : AV), pss[k]? = some p → ys[k]? = some y → fits p y) → (∀ z ∈ zs, z = .bytes #[]) → fits P (.list (ys ++ zs))) {kf : AF → AS → Prop} (hkf : ∀ v σ, kI a sc (d + 1) P n₀ (.ret v) σ → kf (.ret v) σ) :
    EX G (S1790 D) (σT a sc n (d + 1) pl kd on tw (some (.int i)) (some (.list (plansAv pss)))) ((match (defBody d1790).getD 2 default with | .If _ b _ _ => b | _ => []).drop 1) kf (xP a sc n₀) := by
  have hq' : D.up.q = true := hq
  have hzz : sizeLine = 16777216 := rfl
  have ed : ((d + 1 : Nat) : Int) - 1 = (d : Int) := by omega
  refine EX_cons (ES_Return (EV_BinOp (EV_ListComp rfl (ScopeOk.sd (x := "part") (f := "_law_item") rfl rfl) (CapOk.sd (x := "part") (f := "_law_item") (a := .int (d + 1 : Nat)) (b := .own a) 2 0 rfl rfl rfl rfl rfl) (IE1_list hq' (EV_loc 7 rfl rfl ⟨plansAv pss, rfl, plansAv pss, rfl, by rw [plansAv_length]; omega, CapOk.sd (x := "part") (f := "_law_item") 2 0 rfl rfl rfl rfl rfl, ?_⟩)))))
  refine ⟨fun i ys own => ∃ n' : Nat, own = stO a sc n' ∧ ys.length = i ∧ (∀ y ∈ ys, itOk (d + 1) y) ∧ ∀ (k : Nat) (p : Plan) (y : AV), pss[k]? = some p → ys[k]? = some y → fits p y, ⟨n, rfl, rfl, by simp, by simp⟩, ?_, ?_⟩
  · rintro i x ys own hx ⟨n', rfl, hys, ho, hf⟩
    have hi : i < pss.length := by rw [← plansAv_length]; exact (List.getElem?_eq_some_iff.mp hx).1
    have hp := List.getElem?_eq_getElem hi
    rw [plansAv_get hp] at hx
    cases hx
    have hpo := plansOk_get hPS hp
    have hpd := plansDepth_get hp
    refine EV_gcall rfl H.g.g_law_item H.g.kf1790 (EL_cons (EV_loc 2 rfl rfl (EL_cons (EV_loc 0 rfl rfl (EL_cons (EV_BinOp (EV_loc 1 rfl rfl (EV_int (BO_sub (EL_nil ?_))))))))))
    rw [ed]
    refine CV_fn (own := stO a sc n') (rest := []) (IH D.up a sc n' pss[i] hsc hpo (by omega) (by show D.n + 1 + 40 + 30 * d ≤ 900; omega) hq) rfl ⟨Nat.le_refl _, id⟩ (fun v own' _ q => ?_) fun _ _ _ z => z
    obtain ⟨n3, rfl, hv, hvf⟩ := q
    refine ⟨n3, rfl, by rw [List.length_append, hys]; rfl, fun y hy => ?_, fun k p y h1 h2 => ?_⟩
    · rcases List.mem_append.mp hy with hy | hy
      · exact ho y hy
      · rw [List.mem_singleton.mp hy]; exact hv
    · by_cases hk : k < ys.length
      · rw [List.getElem?_append_left hk] at h2
        exact hf k p y h1 h2
      · rw [List.getElem?_append_right (by omega)] at h2
        have hk2 : k = i := by
          have := (List.getElem?_eq_some_iff.mp h2).1
          simp at this
          omega
        subst hk2
        rw [hys, Nat.sub_self] at h2
        cases h2
        rw [hp] at h1
        cases h1
        exact hvf
  · rintro ys own ⟨n', rfl, hys, ho, hf⟩
    rw [plansAv_length] at hys
    refine EV_IfExp (TV_Compare (EV_loc 6 rfl rfl (EV_int (CO_eq (TU_bool ?_)))))
    have fin : ∀ zs : List AV, zs.length ≤ 1 → (∀ z ∈ zs, z = .bytes #[]) → BO G (S1790 D) (σT a sc n' (d + 1) pl kd on tw (some (.int i)) (some (.list (plansAv pss)))) .Add (.list ys) (.list zs) (fun a_1 σ1 => kf (.ret a_1) σ1) (xP a sc n₀) := by
      intro zs hz ht
      refine BO_list (by omega) (hkf _ _ (retI ⟨by rw [List.length_append]; omega, fun y hy => ?_⟩ (hfin ys zs hys hf ht)))
      rcases List.mem_append.mp hy with hy | hy
      · exact ho y hy
      · rw [ht y hy]; exact itOk_bytes (by decide)
    cases ((i : Int) == 4)
    · exact EV_List (EL_nil ⟨by decide, fin [] (by decide) (by simp)⟩)
    · exact EV_List (EL_cons (EV_bytes (EL_nil ⟨(show (1 : Nat) ≤ sizeLine by decide), fin [.bytes #[]] (by decide) (by intro z hz; exact List.mem_singleton.mp hz)⟩)))
/-- behind the rows -/
theorem I_odd (H : KEnd3 G) {a : Addr} {sc : List Int} {n n₀ d i : Nat} {pl on tw : Option AV} {P : Plan} {K : Str} (hK : (K == ("number" : Str)) = false → ∀ v, v = .list [] ∨ v = .list [.bytes #[1]] → fits P v) (hsc : sc.length ≤ 63) (hD : D.n + 40 ≤ 900) :
    EX G (S1790 D) (σT a sc n d pl (some (.str K)) on tw (some (.int i)) none) ((defBody d1790).drop 3) (kI a sc d P n₀) (xP a sc n₀) := by
  have hD' : (S1790 D).D.n + 20 ≤ 900 := by show D.n + 1 + 20 ≤ 900; omega
  have tail : EX G (S1790 D) (σT a sc n d pl (some (.str K)) on tw (some (.int i)) none) ((defBody d1790).drop 4) (kI a sc d P n₀) (xP a sc n₀) := by
    refine EX_cons (ES_Return (EV_Subscript (EV_List (EL_cons (EV_bytes (EL_cons (EV_bytes (EL_cons (EV_bytes (EL_cons (EV_bytes (EL_cons (EV_bytes (EL_cons (EV_bytes (EL_nil ⟨(show (6 : Nat) ≤ sizeLine by decide), ?_⟩))))))))))))))))
    refine EV_gcall rfl H.g.g_law_next H.g.kf1770 (EL_cons (EV_loc 0 rfl rfl (EL_cons (EV_int (EL_nil (CV_next H (l := 6) (S := S1790 D) hsc (by decide) hD' rfl fun j n' hj => ?_))))))
    have hx : ∃ b : Array UInt8, [AV.bytes #[], .bytes #[1], .bytes #[0], .bytes #[2, 0], .bytes #[97, 98], .bytes #[97, 98, 99]][j]? = some (.bytes b) ∧ b.size ≤ 5 := by
      match j, hj with
      | 0, _ => exact ⟨_, rfl, by decide⟩
      | 1, _ => exact ⟨_, rfl, by decide⟩
      | 2, _ => exact ⟨_, rfl, by decide⟩
      | 3, _ => exact ⟨_, rfl, by decide⟩
      | 4, _ => exact ⟨_, rfl, by decide⟩
      | 5, _ => exact ⟨_, rfl, by decide⟩
    obtain ⟨b, hx, ht⟩ := hx
    exact SU_list (by omega) (by omega) (by rw [Int.toNat_natCast]; exact hx) (retI (itOk_bytes ht) (fits_bytes P b))
  refine EX_cons (ES_If (TV_BoolOp (TA_And_cons (TV_Compare (EV_loc 6 rfl rfl (EV_int (CO_eq (TU_bool ?_))))))))
  by_cases h5 : i = 5
  · rw [show ((i : Int) == 5) = true from by simpa using (by omega : (i : Int) = 5)]
    refine TA_And_cons (TV_Compare (EV_loc 3 rfl rfl (EV_str (CO_str_ne (TU_bool ?_)))))
    cases hn : (K == ("number" : Str)) with
    | true =>
      rw [show (K != ("number" : Str)) = false from by rw [bne, hn]; rfl]
      exact EX_nil tail
    | false =>
      rw [show (K != ("number" : Str)) = true from by rw [bne, hn]; rfl]
      refine TA_And_nil ?_
      refine EX_cons (ES_Return (EV_Subscript (EV_List (EL_cons (EV_List (EL_nil ⟨by decide, EL_cons (EV_List (EL_cons (EV_bytes (EL_nil ⟨(show (1 : Nat) ≤ sizeLine by decide), EL_cons (EV_bytes (EL_nil ⟨(show (3 : Nat) ≤ sizeLine by decide), ?_⟩))⟩))))⟩))))))
      refine EV_gcall rfl H.g.g_law_next H.g.kf1770 (EL_cons (EV_loc 0 rfl rfl (EL_cons (EV_int (EL_nil (CV_next H (l := 3) (S := S1790 D) hsc (by decide) hD' rfl fun j n' hj => ?_))))))
      have hx : ∃ t, [AV.list [], .list [.bytes #[1]], .bytes #[97, 98, 99, 100, 101]][j]? = some t ∧ itOk (d + 1) t ∧ fits P t := by
        match j, hj with
        | 0, _ => exact ⟨_, rfl, ⟨by decide, by simp⟩, hK hn _ (.inl rfl)⟩
        | 1, _ => exact ⟨_, rfl, ⟨by decide, by intro x hx; rw [List.mem_singleton.mp hx]; exact itOk_bytes (by decide)⟩, hK hn _ (.inr rfl)⟩
        | 2, _ => exact ⟨_, rfl, itOk_bytes (by decide), fits_bytes P _⟩
      obtain ⟨t, hx, ht, hf⟩ := hx
      exact SU_list (by omega) (by omega) (by rw [Int.toNat_natCast]; exact hx) (retI ht hf)
  · rw [show ((i : Int) == 5) = false from by simpa using (by omega : ¬ (i : Int) = 5)]
    exact EX_nil tail
theorem I_in (H : KEnd3 G) {a : Addr} {sc : List Int} {n d : Nat} {p : Plan} {A : Str} {B C : AV} (e : p.av = .tuple [.str A, B, C]) (hsc : sc.length ≤ 63) (hD : D.n + 40 ≤ 900) (hq : D.q = true)
    (h : ∀ i n' (kf : AF → AS → Prop), (∀ v σ, kI a sc d p n (.ret v) σ → kf (.ret v) σ) → (((["row", "many"] : List Str).any (· == A)) = true → i < 5 → EX G (S1790 D) (σT a sc n' d (some p.av) (some (.str A)) (some B) (some C) (some (.int (i : Nat))) none) (match (defBody d1790).getD 2 default with | .If _ b _ _ => b | _ => []) kf (xP a sc n)))
    (hK : (A == ("number" : Str)) = false → ∀ v, v = .list [] ∨ v = .list [.bytes #[1]] → fits p v) :
    Fn G D (.ref 1790) [.own a, p.av, .int d] [] (stO a sc n) (fun v own' => ∃ n' : Nat, own' = stO a sc n' ∧ itOk (d + 1) v ∧ fits p v) (fun _ _ => False) := by
  have hq' : D.up.q = true := hq
  refine Fn_spd H.fns.f1790 (fun _ _ _ _ _ _ _ _ => rfl) (by show D.n < 1000; omega) ?_
  refine EX_cons (ES_Assign_Tuple (EV_loc 1 rfl rfl ?_))
  refine AG_av hq' ⟨rfl, AG_Name 3 rfl rfl ⟨rfl, AG_Name 4 rfl rfl ⟨rfl, AG_Name 5 rfl rfl ?_⟩⟩⟩ rfl rfl e
  refine EX_cons (ES_Assign_Name 6 rfl (EV_gcall rfl H.g.g_law_next H.g.kf1770 (EL_cons (EV_loc 0 rfl rfl (EL_cons (EV_int (EL_nil (CV_next H (l := 6) (S := S1790 D) hsc (by decide) (by show D.n + 1 + 20 ≤ 900; omega) rfl fun i n' hi => ?_))))))))
  have T := I_odd (D := D) (n := n') (n₀ := n) (d := d) (i := i) (pl := some p.av) (on := some B) (tw := some C) H (P := p) (K := A) (a := a) hK hsc hD
  refine EX_cons (ES_If (TV_BoolOp (TA_And_cons (TV_Compare (EV_loc 3 rfl rfl (EV_List (EL_cons (EV_str (EL_cons (EV_str (EL_nil ⟨(show (2 : Nat) ≤ sizeLine by decide), CO_in_strs (ws := ["row", "many"]) (TU_bool ?_)⟩)))))))))))
  cases hA : (["row", "many"] : List Str).any (· == A) with
  | false => exact EX_nil T
  | true =>
    refine TA_And_cons (TV_Compare (EV_loc 6 rfl rfl (EV_int (CO_lt (TU_bool ?_)))))
    by_cases h5 : i < 5
    · rw [decide_eq_true (by omega : (i : Int) < 5)]
      refine TA_And_cons (TV_Compare (EV_loc 2 rfl rfl (EV_int (CO_ge (TU_bool ?_)))))
      rw [decide_eq_true (by omega : (d : Int) ≥ 0)]
      exact TA_And_nil (h i n' _ (fun v σ h => h) hA h5)
    · rw [decide_eq_false (by omega : ¬ (i : Int) < 5)]
      exact EX_nil T
theorem I_leaf (H : KEnd3 G) {a : Addr} {sc : List Int} {n d : Nat} {p : Plan} (hp : p.depth = 0) (hsc : sc.length ≤ 63) (hD : D.n + 40 ≤ 900) (hq : D.q = true) :
    Fn G D (.ref 1790) [.own a, p.av, .int d] [] (stO a sc n) (fun v own' => ∃ n' : Nat, own' = stO a sc n' ∧ itOk (d + 1) v ∧ fits p v) (fun _ _ => False) := by
  cases p with
  | number one =>
    refine I_in H (p := .number one) (A := "number") (by rw [Plan.av]) hsc hD hq (fun i n' kf hkf hA => ?_) fun h => ?_
    · exact absurd hA (by decide)
    · exact absurd h (by decide)
  | octets lo hi =>
    refine I_in H (p := .octets lo hi) (A := "octets") (by rw [Plan.av]) hsc hD hq (fun i n' kf hkf hA => ?_) fun _ v _ => by simp [fits]
    exact absurd hA (by decide)
  | truth =>
    refine I_in H (p := .truth) (A := "truth") (by rw [Plan.av]) hsc hD hq (fun i n' kf hkf hA => ?_) fun _ v _ => by simp [fits]
    exact absurd hA (by decide)
  | row s ps => rw [Plan.depth] at hp; omega
  | many m p => rw [Plan.depth] at hp; omega
theorem rep_plans (q : Plan) : ∀ m, (List.replicate m [q.av]).flatten = plansAv (List.replicate m q)
  | 0 => by simp [plansAv]
  | m + 1 => by rw [List.replicate_succ, List.replicate_succ, plansAv, List.flatten_cons, rep_plans q m]; rfl
theorem rep_ok {q : Plan} (h : q.ok) : ∀ m, plansOk (List.replicate m q)
  | 0 => trivial
  | m + 1 => ⟨h, rep_ok h m⟩
theorem rep_depth {q : Plan} {d : Nat} (h : q.depth ≤ d) : ∀ m, plansDepth (List.replicate m q) ≤ d
  | 0 => by simp [plansDepth]
  | m + 1 => by rw [List.replicate_succ, plansDepth]; have := rep_depth h m; omega
theorem LIT (H : KEnd3 G) : ∀ d, LIs G d := by
  intro d
  induction d with
  | zero =>
    intro D a sc n p hsc ho hd hD hq
    exact I_leaf H (by omega) hsc (by omega) hq
  | succ d IH =>
    intro D a sc n p hsc ho hd hD hq
    have hq' : D.up.q = true := hq
    cases p with
    | row s ps =>
      rw [Plan.depth] at hd
      refine I_in H (p := .row s ps) (A := "row") (by rw [Plan.av]) hsc (by omega) hq (fun i n' kf hkf hA h5 => ?_) fun _ v hv => ?_
      · refine EX_cons (ES_Assign_Name 7 rfl (EV_IfExp (TV_Compare (EV_loc 3 rfl rfl (EV_str (CO_str_eq (TU_bool ?_)))))))
        refine EV_loc 5 rfl rfl ?_
        exact I_row H IH ho.2.2 (by omega) ho.2.1 hsc (by omega) hq (fun ys zs h1 h2 _ => by rw [fits]; exact fitsZ_of h1 h2) hkf
      · obtain ⟨p0, ps0, rfl⟩ := List.exists_cons_of_ne_nil ho.1
        rcases hv with rfl | rfl
        · simp [fits, fitsZ]
        · simp [fits, fitsZ, fits_bytes]
    | many m q =>
      rw [Plan.depth] at hd
      refine I_in H (p := .many m q) (A := "many") (by rw [Plan.av]) hsc (by omega) hq (fun i n' kf hkf hA h5 => ?_) fun _ v hv => ?_
      · refine EX_cons (ES_Assign_Name 7 rfl (EV_IfExp (TV_Compare (EV_loc 3 rfl rfl (EV_str (CO_str_eq (TU_bool ?_)))))))
        refine EV_ListMul (EL_cons (EV_loc 5 rfl rfl (EL_nil ⟨⟨by simp, (show (1 : Nat) ≤ sizeLine by decide)⟩, ?_⟩)))
        refine EV_gcall rfl H.g.g_law_next H.g.kf1770 (EL_cons (EV_loc 0 rfl rfl (EL_cons (EV_int (EL_nil (CV_next H (l := 4) (S := S1790 D) hsc (by decide) (by show D.n + 1 + 20 ≤ 900; omega) rfl fun j n' hj => ?_))))))
        refine ⟨j, rfl, by omega, by omega, by rw [Int.toNat_natCast]; simp; omega, ?_⟩
        rw [Int.toNat_natCast, rep_plans]
        refine I_row H IH (rep_ok ho.2 j) (rep_depth (by omega) j) (by rw [List.length_replicate]; omega) hsc (by omega) hq (fun ys zs h1 h2 h3 => ?_) hkf
        rw [fits]
        intro y hy
        rcases List.mem_append.mp hy with hy | hy
        · obtain ⟨k, hk, e⟩ := List.getElem_of_mem hy
          refine h2 k q y ?_ (by rw [List.getElem?_eq_getElem hk, e])
          rw [List.length_replicate] at h1
          rw [List.getElem?_replicate, if_pos (by omega)]
        · rw [h3 y hy]; exact fits_bytes _ _
      · rcases hv with rfl | rfl
        · simp [fits]
        · simp [fits, fits_bytes]
    | number one => exact I_leaf H (by simp [Plan.depth]) hsc (by omega) hq
    | octets lo hi => exact I_leaf H (by simp [Plan.depth]) hsc (by omega) hq
    | truth => exact I_leaf H (by simp [Plan.depth]) hsc (by omega) hq
end
end Mine
end
/-! Pl6 -/
section
open PySem PySem.Calls PyProof.Rows
open PySem.W
namespace Mine
theorem app_ne {a b : Str} (h : 0 < a.length) : a ++ b ≠ ("" : Str) := fun e => by
  have := congrArg Str.length e
  rw [Str.length_append] at this
  have : ("" : Str).length = 0 := by decide
  omega
theorem app_pos {a b : Str} (h : 0 < a.length) : 0 < (a ++ b).length := by
  rw [Str.length_append]; omega
theorem fold_none {w : Str} : ∀ {L : List (AV × Str)} {k : Nat} {acc : List AV}, (fold w k L acc).2 ≠ "" → (fold w k L acc).1 = .none
  | [], k, acc, h => absurd rfl h
  | (v, ws) :: r, k, acc, h => by
    by_cases e : ws = ""
    · rw [fold_ok e] at h ⊢; exact fold_none h
    · rw [fold_err e]
theorem foldR_none {m : Option Nat} : ∀ {L : List (AV × Str)} {k : Nat} {acc : List AV}, (foldR m k L acc).2 ≠ "" → (foldR m k L acc).1 = .none
  | [], k, acc, h => absurd rfl h
  | (v, ws) :: r, k, acc, h => by
    cases f : full m k with
    | true => rw [foldR_full f]
    | false =>
      by_cases e : ws = ""
      · rw [foldR_ok f e] at h ⊢; exact foldR_none h
      · rw [foldR_err f e]
theorem written_none {p : Plan} {t : AV} (h : (written p t).2 ≠ "") : (written p t).1 = .none := by
  cases p <;> cases t <;> simp only [written] at h ⊢ <;> first | rfl | (exact absurd rfl h) | skip
  · split
    · rfl
    · split
      · rfl
      · rename_i a b; rw [if_neg a, if_neg b] at h; exact absurd rfl h
  · split
    · rfl
    · rename_i a; rw [if_neg a] at h; exact absurd rfl h
  · split
    · rfl
    · rename_i a; rw [if_neg a] at h; exact fold_none h
  · split
    · rfl
    · rename_i a; rw [if_neg a] at h; exact fold_none h
theorem readP_none {p : Plan} {t : AV} (h : (readP p t).2 ≠ "") : (readP p t).1 = .none := by
  cases p <;> cases t <;> simp only [readP] at h ⊢ <;> first | rfl | (exact absurd rfl h) | skip
  · rename_i one b
    cases one with
    | none =>
      dsimp only at h ⊢
      rw [if_neg (by decide)] at h ⊢
      split
      · rfl
      · rename_i c; rw [if_neg c] at h; exact absurd rfl h
    | some m =>
      dsimp only at h ⊢
      split
      · rfl
      · rename_i a
        rw [if_neg a, if_neg (by simp)] at h
        exact absurd rfl h
  · split
    · rfl
    · rename_i a; rw [if_neg a] at h; exact absurd rfl h
  · split
    · rename_i a; rw [if_pos a] at h; exact absurd rfl h
    · rfl
  · split
    · rfl
    · rename_i a; rw [if_neg a] at h; exact foldR_none h
  · exact foldR_none h
/-- what a fold without refusal holds -/
theorem fold_all {w : Str} (hw : 0 < w.length) {P : AV → Prop} : ∀ {L : List (AV × Str)} {k : Nat} {acc : List AV}, (∀ a ∈ acc, P a) → (∀ x ∈ L, x.2 = "" → P x.1) → (fold w k L acc).2 = "" → ∃ es, (fold w k L acc).1 = .list es ∧ es.length = acc.length + L.length ∧ ∀ e ∈ es, P e
  | [], k, acc, ha, _, _ => ⟨acc, rfl, rfl, ha⟩
  | (v, ws) :: r, k, acc, ha, hL, h => by
    by_cases e : ws = ""
    · rw [fold_ok e] at h ⊢
      obtain ⟨es, h1, h2, h3⟩ := fold_all hw (P := P) (fun a hm => by
        rcases List.mem_append.mp hm with hm | hm
        · exact ha a hm
        · rw [List.mem_singleton.mp hm]; exact hL _ (.head _) e) (fun x hx => hL x (.tail _ hx)) h
      exact ⟨es, h1, by rw [h2, List.length_append, List.length_cons, List.length_cons, List.length_nil]; omega, h3⟩
    · rw [fold_err e] at h
      exact absurd h (wrapped_ne hw)
theorem foldR_all {P : AV → Prop} {m : Option Nat} : ∀ {L : List (AV × Str)} {k : Nat} {acc : List AV}, (∀ a ∈ acc, P a) → (∀ x ∈ L, x.2 = "" → P x.1) → (foldR m k L acc).1 = .none ∨ ∃ es, (foldR m k L acc).1 = .tuple es ∧ ∀ e ∈ es, P e
  | [], k, acc, ha, _ => .inr ⟨acc, rfl, ha⟩
  | (v, ws) :: r, k, acc, ha, hL => by
    cases f : full m k with
    | true => rw [foldR_full f]; exact .inl rfl
    | false =>
      by_cases e : ws = ""
      · rw [foldR_ok f e]
        exact foldR_all (P := P) (fun a hm => by
          rcases List.mem_append.mp hm with hm | hm
          · exact ha a hm
          · rw [List.mem_singleton.mp hm]; exact hL _ (.head _) e) (fun x hx => hL x (.tail _ hx))
      · rw [foldR_err f e]; exact .inl rfl
theorem writtenZ_all {P : AV → Prop} {ps : List Plan} {ds : List AV} (h : ∀ p t, p ∈ ps → t ∈ ds → (written p t).2 = "" → P (written p t).1) : ∀ x ∈ writtenZ ps ds, x.2 = "" → P x.1 := by
  intro x hx he
  obtain ⟨i, hi, e⟩ := List.getElem_of_mem hx
  have hl := hi
  rw [writtenZ_length] at hl
  have h1 := writtenZ_get (List.getElem?_eq_getElem (by omega : i < ps.length)) (List.getElem?_eq_getElem (by omega : i < ds.length))
  rw [List.getElem?_eq_getElem hi, e] at h1
  have := Option.some.inj h1
  rw [this] at he ⊢
  exact h _ _ (List.getElem_mem _) (List.getElem_mem _) he
theorem plansOk_mem : ∀ {ps : List Plan} {p : Plan}, plansOk ps → p ∈ ps → p.ok
  | q :: ps, p, h, hm => by
    rcases List.mem_cons.mp hm with rfl | hm
    · exact h.1
    · exact plansOk_mem h.2 hm
/-- what is written is a row of octets, bounded -/
theorem written_rok : ∀ (n : Nat) (p : Plan) (t : AV), p.ok → thOk n t → (written p t).2 = "" → rok n (written p t).1 := by
  have hB : ∀ {n : Nat} {b : Array UInt8}, b.size ≤ 10 → rok n (.bytes b) := fun {n b} h => by cases n <;> exact h
  have hN : ∀ {n : Nat} {one : Option Nat} {i : Int}, (Plan.number one).ok → -1 ≤ i ∧ i ≤ 70000 → (written (.number one) (.int i)).2 = "" → rok n (written (.number one) (.int i)).1 := by
    intro n one i ho hi h
    rw [written] at h ⊢
    by_cases h1 : big one i = true
    · rw [if_pos h1] at h; exact absurd h (app_ne (app_pos (by decide)))
    · by_cases h2 : i < 0
      · rw [if_neg h1, if_pos h2] at h; exact absurd h (by decide)
      · rw [if_neg h1, if_neg h2]
        refine hB ?_
        unfold numB
        have hd : (digits i.toNat).length ≤ 4 := digits_le (by omega)
        have : one.getD 0 ≤ 2 := by
          cases one with
          | none => exact Nat.zero_le _
          | some m => rcases ho m rfl with e | e <;> rw [e] <;> decide
        simp
        omega
  intro n
  induction n with
  | zero =>
    intro p t ho ht h
    cases p <;> cases t <;> first | exact ht.elim | (exact hN ho ht h) | skip
    all_goals simp only [written] at h ⊢
    all_goals first | exact absurd h (by decide) | skip
    · split at h
      · exact absurd h (by decide)
      · rename_i a; rw [if_neg a]; exact hB (Nat.le_trans ht (by decide))
    · refine hB ?_; split <;> decide
  | succ n ih =>
    intro p t ho ht h
    cases p <;> cases t <;> first | exact ht.elim | (exact hN ho ht h) | skip
    all_goals simp only [written] at h ⊢
    all_goals first | exact absurd h (by decide) | skip
    · split at h
      · exact absurd h (by decide)
      · rename_i a; rw [if_neg a]; exact hB (Nat.le_trans ht (by decide))
    · refine hB ?_; split <;> decide
    · rename_i s ps ds
      split at h
      · exact absurd h (app_ne (app_pos (app_pos (app_pos (by decide)))))
      · rename_i a
        rw [if_neg a]
        obtain ⟨es, h1, h2, h3⟩ := fold_all (by decide) (P := rok n) (by simp) (writtenZ_all fun p t hp ht' e => ih p t (plansOk_mem ho.2.2 hp) (ht.2 t ht') e) h
        rw [h1]
        rw [writtenZ_length, List.length_nil] at h2
        have := ht.1
        exact ⟨by omega, h3⟩
    · rename_i m q ds
      split at h
      · exact absurd h (app_ne (app_pos (app_pos (app_pos (by decide)))))
      · rename_i a
        rw [if_neg a]
        obtain ⟨es, h1, h2, h3⟩ := fold_all (by decide) (P := rok n) (by simp) (fun x hx e => by
          obtain ⟨t, ht', rfl⟩ := List.mem_map.mp hx
          exact ih q t ho.2 (ht.2 t ht') e) h
        rw [h1]
        rw [List.length_map, List.length_nil] at h2
        have := ht.1
        exact ⟨by omega, h3⟩
theorem grs_all {n : Nat} : ∀ {ds : List AV}, (∀ d ∈ ds, gr n d = true) → grs n ds = true
  | [], _ => by simp [grs]
  | d :: ds, h => by
    rw [grs, h d (.head _), grs_all fun e he => h e (.tail _ he)]
    rfl
theorem gr_rok : ∀ (n : Nat) (t : AV), rok n t → gr n t = true
  | 0, t, h => by cases t <;> first | exact h.elim | simp [gr]
  | n + 1, t, h => by
    cases t <;> first | exact h.elim | simp [gr]
    rename_i ds
    exact grs_all fun d hd => gr_rok n d (h.2 d hd)
theorem gr_none (n : Nat) : gr n .none = true := by simp [gr]
theorem gr_written {n : Nat} {p : Plan} {t : AV} (ho : p.ok) (ht : thOk n t) : gr n (written p t).1 = true := by
  by_cases h : (written p t).2 = ""
  · exact gr_rok n _ (written_rok n p t ho ht h)
  · rw [written_none h]; exact gr_none n
theorem readZ_mem' {P : AV → Prop} : ∀ {ps : List Plan} {ds : List AV}, (∀ p t, t ∈ ds → P (readP p t).1) → ∀ x ∈ readZ ps ds, P x.1
  | [], ds, h, x, hx => by simp [readZ] at hx
  | p :: ps, [], h, x, hx => by simp [readZ] at hx
  | p :: ps, d :: ds, h, x, hx => by
    rw [readZ] at hx
    rcases List.mem_cons.mp hx with rfl | hx
    · exact h p d (.head _)
    · exact readZ_mem' (fun p t ht => h p t (.tail _ ht)) x hx
theorem gr_read : ∀ (n : Nat) (p : Plan) (t : AV), itOk n t → gr n (readP p t).1 = true := by
  have hF : ∀ {n : Nat} {m : Option Nat} {L : List (AV × Str)}, (∀ x ∈ L, gr n x.1 = true) → gr (n + 1) (foldR m 0 L []).1 = true := by
    intro n m L hL
    rcases foldR_all (m := m) (k := 0) (acc := []) (P := fun a => gr n a = true) (by simp) (fun x hx _ => hL x hx) with h | ⟨es, h, h2⟩
    · rw [h]; exact gr_none _
    · rw [h, gr]; exact grs_all h2
  have hb : ∀ {n : Nat} {p : Plan} {b : Array UInt8}, gr n (readP p (.bytes b)).1 = true := by
    intro n p b
    cases p <;> simp only [readP]
    · rename_i one
      cases one with
      | none =>
        dsimp only
        rw [if_neg (by decide)]
        split
        · exact gr_none _
        · simp [gr]
      | some m =>
        dsimp only
        split
        · exact gr_none _
        · rw [if_neg (by simp)]; simp [gr]
    · split
      · exact gr_none _
      · simp [gr]
    · split
      · simp [gr]
      · exact gr_none _
    · exact gr_none _
    · exact gr_none _
  intro n
  induction n with
  | zero =>
    intro p t ht
    cases t <;> first | exact ht.elim | exact hb
  | succ n ih =>
    intro p t ht
    cases t <;> first | exact ht.elim | exact hb | skip
    rename_i ds
    cases p <;> simp only [readP]
    · exact gr_none _
    · exact gr_none _
    · exact gr_none _
    · split
      · exact gr_none _
      · exact hF (readZ_mem' (P := fun a => gr n a = true) fun p t hm => ih p t (ht.2 t hm))
    · exact hF fun x hx => by
        obtain ⟨t, hm, rfl⟩ := List.mem_map.mp hx
        exact ih _ t (ht.2 t hm)
end Mine
end
/-! Pr32 -/
section
open PySem PySem.Calls PyProof.Rows
open PySem.W
namespace Mine
abbrev N1818 : List Str := ["sedes", "thing", "written", "whole", "error"]
abbrev S1818 (D : Lv) : St := ⟨"_law_refused", sc1818, 1818, .ref 1817, N1818, D.up, false⟩
theorem bind4 {G : Gb} {d : Stmt} {qual : Str} {sc : Scope} {cl : List (Str × Addr)} {dV cdv : Value} {n1 n2 n3 n4 : Str} {a1 a2 a3 a4 : AV} {more : List Str} {ml : List (Option AV)} (hb : ∀ kV doc pm an ct v1 v2 v3 v4, bindArgs (fnX (defName d) qual (defArgs d) (defBody d) sc cl dV kV doc pm an cdv ct) ⟨[v1, v2, v3, v4], []⟩ = pure [(n1, v1), (n2, v2), (n3, v3), (n4, v4)]) (h1 : sc.names.lookup n1 = some .local) (h2 : sc.names.lookup n2 = some .local) (h3 : sc.names.lookup n3 = some .local) (h4 : sc.names.lookup n4 = some .local) (hne : [n1, n2, n3, n4].Nodup) (hmore : ml = more.map fun _ => none) : Binds G d qual sc cl dV cdv [a1, a2, a3, a4] [] (n1 :: n2 :: n3 :: n4 :: more) (some a1 :: some a2 :: some a3 :: some a4 :: ml) := by
  intro g s vs ws X R1 R2
  cases R2
  obtain _ | ⟨r1, _ | ⟨r2, _ | ⟨r3, _ | ⟨r4, _ | _⟩⟩⟩⟩ := R1
  rename_i v1 v2 v3 v4
  refine ⟨[(n1, v1), (n2, v2), (n3, v3), (n4, v4)], fun kV doc pm an ct => .of_eq (hb kV doc pm an ct v1 v2 v3 v4), ?_, ?_⟩
  · intro y hy
    simp at hy
    rcases hy with rfl | rfl | rfl | rfl <;> assumption
  · simp only [List.nodup_cons, List.mem_cons, List.not_mem_nil, not_or] at hne
    obtain ⟨⟨a12, a13, a14, _⟩, ⟨a23, a24, _⟩, ⟨a34, _⟩, _⟩ := hne
    have f : ∀ {a b : Str}, ¬ a = b → (a == b) = false := fun h => by simpa using h
    refine .cons (by simp [List.lookup_cons, f a12, f a13, f a14]) r1 h1 (.cons (by simp [List.lookup_cons, f a23, f a24]) r2 h2 (.cons (by simp [List.lookup_cons, f a34]) r3 h3 (.cons (by simp) r4 h4 ?_)))
    rw [hmore]
    clear hmore
    induction more with
    | nil => exact .nil
    | cons x xs ih => exact .skip ih
section
variable {G : Gb} {D : Lv}
def kR (O : List (Addr × OV)) (W : AV) : AF → AS → Prop := EndF O (fun a own' => own' = O ∧ a = W)
def xR (O : List (Addr × OV)) : AX → AS → Prop := EndX O (fun _ _ => False)
def KXR (loc : List (Option AV)) (O : List (Addr × OV)) (ws : Str) : AX → AS → Prop := fun y σx => σx = ⟨loc, O⟩ ∧ ws ≠ "" ∧ y.msg = ws ∧ (y.C = 95 ∨ y.C = 117 ∨ y.C = 138 ∨ y.C = 160)
theorem retR {O : List (Addr × OV)} {W : AV} {loc : List (Option AV)} {v : AV} (h : v = W) : kR O W (.ret v) ⟨loc, O⟩ := ⟨O, [], by rw [List.append_nil], List.Subset.refl _, rfl, h⟩
/-- _law_refused, by what its try block comes to -/
theorem R_go (H : KEnd3 G) {O : List (Addr × OV)} {a b c e W : AV} {ws : Str} (hW : ws ≠ "" → W = .tuple [.none, .str ws]) (hD : D.n + 40 ≤ 900)
    (h : ∀ kf : AF → AS → Prop, (∀ v loc, v = W → kf (.ret v) ⟨loc, O⟩) → EX G (S1818 D) ⟨[some a, some b, some c, some e, none], O⟩ (match (defBody d1818).getD 0 default with | .Try b _ _ _ _ => b | _ => []) kf (KXR [some a, some b, some c, some e, none] O ws)) :
    Fn G D (.ref 1818) [a, b, c, e] [] O (fun v own' => own' = O ∧ v = W) (fun _ _ => False) := by
  refine Fn_d (names := N1818) (loc := [some a, some b, some c, some e, none]) H.fns.f1818 (by show D.n < 1000; omega) (bind4 (fun _ _ _ _ _ _ _ _ _ => rfl) rfl rfl rfl rfl (by decide) rfl) ?_
  refine EX_cons (ES_Try rfl (KX := KXR [some a, some b, some c, some e, none] O ws) 4 rfl rfl ?_ ?_)
  · exact h _ fun v loc hv => retR hv
  · rintro y σx ⟨rfl, hne, hy, hC⟩
    refine EV_Tuple (EL_cons (EV_glob rfl H.g.g_SerializationError (EL_cons (EV_glob rfl H.g.g_DeserializationError (EL_nil ⟨(show (2 : Nat) ≤ sizeLine by decide), .inr ⟨_, _, rfl, by rcases hC with e | e | e | e <;> rw [e]; exact H.t.u95; exact H.t.u117; exact H.t.u138; exact H.t.u160⟩, ?_⟩)))))
    refine EX_cons (ES_Return (EV_Tuple (EL_cons (EV_none (EL_cons ?_)))))
    refine EV_Call rfl (EV_blt rfl H.x.gstr (by kernel_rfl) (by decide) ⟨rfl, EL_cons (EV_loc 4 rfl rfl (EL_nil (CV_str_exc (by rcases hC with e | e | e | e <;> rw [e]; exact H.x.p95; exact H.x.p117; exact H.x.p138; exact H.x.p160) (by rcases hC with e | e | e | e <;> rw [e]; exact H.x.b95; exact H.x.b117; exact H.x.b138; exact H.x.b160) (by show 10 * (D.n + 1) + 2 < cLine; have : cLine = 9900 := rfl; omega) ?_)))⟩)
    refine EL_nil ⟨(show (2 : Nat) ≤ sizeLine by decide), ?_⟩
    refine retR ?_
    rw [hW hne, hy]
/-- what one writes by a sedes alone -/
theorem C1818A (H : KEnd3 G) {d n : Nat} {p : Plan} {t : AV} (hp : p.depth < d) (ho : p.ok) (ht : thOk n t) (hD : D.n + 80 + 30 * d ≤ 900) (hq : D.q = true) :
    Fn G D (.ref 1818) [p.obj, t, .bool true, .bool false] [] [] (fun v own' => own' = [] ∧ v = .tuple [(written p t).1, .str (written p t).2]) (fun _ _ => False) := by
  refine R_go (ws := (written p t).2) H (fun hne => by rw [written_none hne]) (by omega) fun kf hkf => ?_
  refine EX_cons (ES_If (TV_value (EV_loc 3 rfl rfl (TU_bool ?_))))
  refine EX_nil ?_
  refine EX_cons (ES_Return (EV_Tuple (EL_cons (EV_IfExp (TV_value (EV_loc 2 rfl rfl (TU_bool ?_)))))))
  have SF := SER H.toKEnd d D.up p n t hp ho (by show D.n + 1 + 40 + 30 * d ≤ 900; omega) hq ht
  refine EV_Meth (EV_loc 0 rfl rfl ⟨.ref (serF p), _, kf_ser H.toKAll p, GM_ser H.toKAll p, EL_cons (EV_loc 1 rfl rfl (EL_nil ?_))⟩)
  refine CV_fn0 (S := S1818 D) SF (fun v hv => ?_) fun x hx => ⟨rfl, hx.1, hx.2.1, by rcases hx.2.2 with e | e; exact .inl e; exact .inr (.inl e)⟩
  obtain ⟨hv1, rfl⟩ := hv
  exact EL_cons (EV_str (EL_nil ⟨(show (2 : Nat) ≤ sizeLine by decide), hkf _ _ (by rw [hv1])⟩))
/-- what the whole library writes -/
theorem C1818B (H : KEnd3 G) (ok : GOk G) {d n dr : Nat} {p : Plan} {t : AV} (hp : p.depth < d) (ho : p.ok) (ht : thOk n t) (hn : n ≤ 6) (hD : D.n + 140 + 30 * d ≤ 900) (hq : D.q = true) :
    Fn G D (.ref 1818) [p.obj, t, .bool true, .bool true] [] PT (fun v own' => own' = PT ∧ v = .tuple [if (written p t).2 = "" then .bytes (rlp (written p t).1).toArray else .none, .str (written p t).2]) (fun _ _ => False) := by
  refine R_go (ws := (written p t).2) H (fun hne => by rw [if_neg hne]) (by omega) fun kf hkf => ?_
  refine EX_cons (ES_If (TV_value (EV_loc 3 rfl rfl (TU_bool ?_))))
  refine EX_cons (ES_Return (EV_Tuple (EL_cons (EV_IfExp (TV_value (EV_loc 2 rfl rfl (TU_bool ?_)))))))
  have F := C1722 (D := D.up) H ok hp ho ht (written_rok n p t ho ht) hn (by show D.n + 1 + 130 + 30 * d ≤ 900; omega) hq
  refine EV_gcall rfl H.g.g_encode H.g.kf1722 (EL_cons (EV_loc 1 rfl rfl (EL_cons (EV_loc 0 rfl rfl (EL_nil ?_)))))
  refine CV_fn (own := PT) (rest := []) F rfl ⟨Nat.le_refl _, id⟩ (fun v own' _ q => ?_) fun x own' _ q => ?_
  · obtain ⟨rfl, hv1, rfl⟩ := q
    exact EL_cons (EV_str (EL_nil ⟨(show (2 : Nat) ≤ sizeLine by decide), hkf _ _ (by rw [if_pos hv1, hv1])⟩))
  · obtain ⟨rfl, hx⟩ := q
    exact ⟨rfl, hx.1, hx.2.1, by rcases hx.2.2 with e | e; exact .inl e; exact .inr (.inl e)⟩
/-- what one reads by a sedes alone -/
theorem C1818C (H : KEnd3 G) {d n : Nat} {p : Plan} {t : AV} (hp : p.depth < d) (ho : p.ok) (ht : itOk n t) (hf : fits p t) (hD : D.n + 80 + 30 * d ≤ 900) (hq : D.q = true) :
    Fn G D (.ref 1818) [p.obj, t, .bool false, .bool false] [] [] (fun v own' => own' = [] ∧ v = .tuple [(readP p t).1, .str (readP p t).2]) (fun _ _ => False) := by
  refine R_go (ws := (readP p t).2) H (fun hne => by rw [readP_none hne]) (by omega) fun kf hkf => ?_
  refine EX_cons (ES_If (TV_value (EV_loc 3 rfl rfl (TU_bool ?_))))
  refine EX_nil ?_
  refine EX_cons (ES_Return (EV_Tuple (EL_cons (EV_IfExp (TV_value (EV_loc 2 rfl rfl (TU_bool ?_)))))))
  have DF := DES H.toKEnd d D.up p n t hp ho (by show D.n + 1 + 40 + 30 * d ≤ 900; omega) hq ht hf
  refine EV_Meth (EV_loc 0 rfl rfl ⟨.ref (desF p), _, kf_des H.toKAll p, GM_des H.toKAll p, EL_cons (EV_loc 1 rfl rfl (EL_nil ?_))⟩)
  refine CV_fn0 (S := S1818 D) DF (fun v hv => ?_) fun x hx => ⟨rfl, hx.1, hx.2.1, by rcases hx.2.2 with e | e; exact .inr (.inr (.inl e)); exact .inr (.inr (.inr e))⟩
  obtain ⟨hv1, rfl⟩ := hv
  exact EL_cons (EV_str (EL_nil ⟨(show (2 : Nat) ≤ sizeLine by decide), hkf _ _ (by rw [hv1])⟩))
/-- what the whole library reads -/
theorem C1818D (H : KEnd3 G) {d n : Nat} {p : Plan} {t : AV} (hp : p.depth < d) (ho : p.ok) (ht : itOk n t) (hf : fits p t) (hn : n ≤ 6) (hD : D.n + 160 + 30 * d ≤ 900) (hq : D.q = true) :
    Fn G D (.ref 1818) [p.obj, .bytes (rlp t).toArray, .bool false, .bool true] [] [] (fun v own' => own' = [] ∧ v = .tuple [(readP p t).1, .str (readP p t).2]) (fun _ _ => False) := by
  refine R_go (ws := (readP p t).2) H (fun hne => by rw [readP_none hne]) (by omega) fun kf hkf => ?_
  refine EX_cons (ES_If (TV_value (EV_loc 3 rfl rfl (TU_bool ?_))))
  refine EX_cons (ES_Return (EV_Tuple (EL_cons (EV_IfExp (TV_value (EV_loc 2 rfl rfl (TU_bool ?_)))))))
  have F := C1758 (D := D.up) (dr := 0) H hp ho ht hf hn (by show D.n + 1 + 150 + 30 * d ≤ 900; omega) hq
  refine EV_gcall rfl H.g.g_decode H.g.kf1758 (EL_cons (EV_loc 1 rfl rfl (EL_cons (EV_loc 0 rfl rfl (EL_nil ?_)))))
  refine CV_fn0 (S := S1818 D) F (fun v hv => ?_) fun x hx => ⟨rfl, hx.1, hx.2.1, by rcases hx.2.2 with e | e; exact .inr (.inr (.inl e)); exact .inr (.inr (.inr e))⟩
  obtain ⟨hv1, rfl⟩ := hv
  exact EL_cons (EV_str (EL_nil ⟨(show (2 : Nat) ≤ sizeLine by decide), hkf _ _ (by rw [hv1])⟩))
abbrev S1832 (D : Lv) : St := ⟨"_law_told", sc1832, 1832, .ref 1831, ["sedes", "thing", "words", "told", "other"], D.up, false⟩
theorem C1832 (H : KEnd3 G) (ok : GOk G) {d n : Nat} {p : Plan} {t : AV} (hp : p.depth < d) (ho : p.ok) (ht : thOk n t) (hn : n ≤ 6) (hD : D.n + 150 + 30 * d ≤ 900) (hq : D.q = true) :
    Fn G D (.ref 1832) [p.obj, t, .str (written p t).2] [] PT (fun v own' => own' = PT ∧ v = if (written p t).2 = "" then .bytes (rlp (written p t).1).toArray else .none) (fun _ _ => False) := by
  have hq' : D.up.q = true := hq
  refine Fn_d (names := ["sedes", "thing", "words", "told", "other"]) (loc := [some p.obj, some t, some (.str (written p t).2), none, none]) H.fns.f1832 (by show D.n < 1000; omega) (bind3 (fun _ _ _ _ _ _ _ _ => rfl) rfl rfl rfl rfl rfl rfl rfl) ?_
  have F := C1818B (D := D.up) (dr := 0) H ok hp ho ht hn (by show D.n + 1 + 140 + 30 * d ≤ 900; omega) hq
  refine EX_cons (ES_Assign_Tuple (EV_gcall rfl H.g.g_law_refused H.g.kf1818 (EL_cons (EV_loc 0 rfl rfl (EL_cons (EV_loc 1 rfl rfl (EL_cons (EV_bool (EL_cons (EV_bool (EL_nil ?_)))))))))))
  refine CV_fn (own := PT) (rest := []) F rfl ⟨Nat.le_refl _, id⟩ (fun v own' _ q => ?_) fun x own' _ q => q.elim
  obtain ⟨rfl, rfl⟩ := q
  refine AG_Tuple hq' ⟨rfl, AG_Name 3 rfl rfl ⟨rfl, AG_Name 4 rfl rfl ?_⟩⟩
  refine EX_cons (ES_Return (EV_IfExp (TV_Compare (EV_loc 4 rfl rfl (EV_loc 2 rfl rfl (CO_str_eq (TU_bool ?_)))))))
  rw [beq_self_eq_true]
  exact EV_loc 3 rfl rfl ⟨PT, [], rfl, List.Subset.refl _, rfl, rfl⟩
end
end Mine
end
/-! Pr33 -/
section
open PySem PySem.Calls PyProof.Rows
open PySem.W
namespace Mine
abbrev N1825 : List Str := ["script", "state", "plan", "sedes", "thing", "item", "made", "words", "back", "other"]
abbrev S1825 (D : Lv) : St := ⟨"law", sc1825, 1825, .ref 1824, N1825, D.up, false⟩
theorem pickL_map (l : List Int) : ∃ l' : List Int, pickL (l.map AV.int) none (some 60) = l'.map AV.int ∧ l'.length ≤ l.length := by
  unfold pickL
  rw [sliceBounds_plain]
  refine ⟨(sliceRange (((Option.none : Option Int).elim 0 (clipAt (l.map AV.int).length) : Nat) : Int) (((some 60 : Option Int).elim (l.map AV.int).length (clipAt (l.map AV.int).length) : Nat) : Int) 1).filterMap (l[·]?), ?_, ?_⟩
  · rw [List.map_filterMap]
    congr 1
    funext i
    rw [List.getElem?_map]
  · refine Nat.le_trans (List.length_filterMap_le _ _) ?_
    rw [sliceRange_one, List.length_map, List.length_range]
    have e : (some (60 : Int)).elim (l.map AV.int).length (clipAt (l.map AV.int).length) = min 60 (l.map AV.int).length := PySem.clipAt_nat _ 60
    rw [e, List.length_map]
    omega
section
variable {G : Gb} {D : Lv}
theorem two {a b : AV} : [a, b].length ≤ sizeLine := (show (2 : Nat) ≤ sizeLine by decide)
/-- the law answers True -/
theorem C1825 (H : KEnd3 G) (ok : GOk G) {sc₀ : List Int} (hsc₀ : sc₀.length ≤ 63) (hD : D.n ≤ 500) (hq : D.q = true) :
    Fn G D (.ref 1825) [.list (sc₀.map .int)] [] PT (fun v own' => own' = PT ∧ v = .bool true) (fun _ _ => False) := by
  have hq' : D.up.q = true := hq
  have hzz : sizeLine = 16777216 := rfl
  have hcl : cLine = 9900 := rfl
  refine Fn_d (names := N1825) (loc := [some (.list (sc₀.map .int)), none, none, none, none, none, none, none, none, none]) H.fns.f1825 (by show D.n < 1000; omega) (bind1 (fun _ _ _ _ _ _ => rfl) rfl rfl) ?_
  refine EX_cons (ES_Assign_Name 1 rfl (EV_ListOwn (EL_cons (EV_Subscript (EV_loc 0 rfl rfl (EV_Slice (EV_int ⟨_, rfl, SU_list_slice (by simp; omega) ?_⟩)))))))
  obtain ⟨sc, hsc, hscl⟩ := pickL_map sc₀
  rw [hsc]
  have hsc63 : sc.length ≤ 63 := by omega
  refine EL_cons (EV_int (EL_nil ⟨two, fun a => ?_⟩))
  have F1 := LP H 2 D.up a sc 0 hsc63 (by show D.n + 1 + 40 + 30 * 2 ≤ 900; omega) hq
  refine EX_cons (ES_Assign_Name 2 rfl (EV_gcall rfl H.g.g_law_plan H.g.kf1775 (EL_cons (EV_loc 1 rfl rfl (EL_cons (EV_int (EL_nil ?_)))))))
  refine CV_fn (own := stO a sc 0) (rest := []) F1 rfl ⟨Nat.le_refl _, id⟩ (fun v own' _ q => ?_) fun _ _ _ z => z.elim
  obtain ⟨n1, p, rfl, rfl, ho, hpd⟩ := q
  have F2 := LS H.toKEnd2 3 D.up p (by omega) ho (by show D.n + 1 + 40 + 30 * 3 ≤ 900; omega) hq
  refine EX_cons (ES_Assign_Name 3 rfl (EV_gcall rfl H.g.g_law_sedes H.g.kf1780 (EL_cons (EV_loc 2 rfl rfl (EL_nil ?_)))))
  refine CV_fn0 (S := S1825 D) F2.noX (K := fun v => v = p.obj) (KX := fun _ => False) (fun v hv => ?_) fun _ z => z.elim
  subst hv
  have F3 := LT H 2 D.up a sc n1 p hsc63 ho hpd (by show D.n + 1 + 40 + 30 * 2 ≤ 900; omega) hq
  refine EX_cons (ES_Assign_Name 4 rfl (EV_gcall rfl H.g.g_law_thing H.g.kf1785 (EL_cons (EV_loc 1 rfl rfl (EL_cons (EV_loc 2 rfl rfl (EL_cons (EV_int (EL_nil ?_)))))))))
  refine CV_fn (own := stO a sc n1) (rest := []) F3 rfl ⟨Nat.le_refl _, id⟩ (fun t own' _ q => ?_) fun _ _ _ z => z.elim
  obtain ⟨n2, rfl, ht⟩ := q
  have F4 := LIT H 2 D.up a sc n2 p hsc63 ho hpd (by show D.n + 1 + 40 + 30 * 2 ≤ 900; omega) hq
  refine EX_cons (ES_Assign_Name 5 rfl (EV_gcall rfl H.g.g_law_item H.g.kf1790 (EL_cons (EV_loc 1 rfl rfl (EL_cons (EV_loc 2 rfl rfl (EL_cons (EV_int (EL_nil ?_)))))))))
  refine CV_fn (own := stO a sc n2) (rest := []) F4 rfl ⟨Nat.le_refl _, id⟩ (fun it own' _ q => ?_) fun _ _ _ z => z.elim
  obtain ⟨n3, rfl, hit, hfit⟩ := q
  have F5 := LW H.toKEnd2 3 D.up p 3 t (by omega) ho (by show D.n + 1 + 40 + 30 * 3 ≤ 900; omega) hq ht
  refine EX_cons (ES_Assign_Tuple (EV_gcall rfl H.g.g_law_written H.g.kf1804 (EL_cons (EV_loc 2 rfl rfl (EL_cons (EV_loc 4 rfl rfl (EL_nil ?_)))))))
  refine CV_fn0 (S := S1825 D) F5.noX (K := fun v => v = .tuple [(written p t).1, .str (written p t).2]) (KX := fun _ => False) (fun v hv => ?_) fun _ z => z.elim
  subst hv
  refine AG_Tuple hq' ⟨rfl, AG_Name 6 rfl rfl ⟨rfl, AG_Name 7 rfl rfl ?_⟩⟩
  have gw : gr 3 (written p t).1 = true := gr_written ho ht
  have F6 := C1818A (D := D.up) H (d := 3) (by omega) ho ht (by show D.n + 1 + 80 + 30 * 3 ≤ 900; omega) hq
  refine EX_cons (ES_If (TV_Compare (EV_gcall rfl H.g.g_law_refused H.g.kf1818 (EL_cons (EV_loc 3 rfl rfl (EL_cons (EV_loc 4 rfl rfl (EL_cons (EV_bool (EL_cons (EV_bool (EL_nil ?_))))))))))))
  refine CV_fn0 (S := S1825 D) F6.noX (K := fun v => v = .tuple [(written p t).1, .str (written p t).2]) (KX := fun _ => False) (fun v hv => ?_) fun _ z => z.elim
  subst hv
  refine EV_Tuple (EL_cons (EV_loc 6 rfl rfl (EL_cons (EV_loc 7 rfl rfl (EL_nil ⟨two, CO_tup_ne (n := 3) (by simp [grs, gr, gw]) (by show 10 * (D.n + 1) + 4 < cLine; omega) (TU_bool ?_)⟩)))))
  refine EX_nil ?_
  have F7 := C1832 (D := D.up) H ok (d := 3) (n := 3) (by omega) ho ht (by decide) (by show D.n + 1 + 150 + 30 * 3 ≤ 900; omega) hq
  refine EX_cons (ES_If (TV_Compare (EV_gcall rfl H.g.g_law_told H.g.kf1832 (EL_cons (EV_loc 3 rfl rfl (EL_cons (EV_loc 4 rfl rfl (EL_cons (EV_loc 7 rfl rfl (EL_nil ?_))))))))))
  refine CV_fn (own := PT) (rest := [(a, .list [.list (sc.map .int), .int n3])]) F7 rfl ⟨Nat.le_refl _, id⟩ (fun v own' _ q => ?_) fun _ _ _ z => z.elim
  obtain ⟨rfl, rfl⟩ := q
  have rest : EX G (S1825 D) ⟨[some (.list (sc₀.map .int)), some (.own a), some p.av, some p.obj, some t, some it, some (written p t).1, some (.str (written p t).2), none, none], stO a sc n3⟩ ((defBody d1825).drop 8) (EndF PT fun v own' => own' = PT ∧ v = .bool true) (EndX PT fun _ _ => False) := by
    have F8 := LR H.toKEnd2 3 D.up p 3 it (by omega) ho (by show D.n + 1 + 40 + 30 * 3 ≤ 900; omega) hq hit hfit
    have grd : gr 3 (readP p it).1 = true := gr_read 3 p it hit
    refine EX_cons (ES_Assign_Tuple (EV_gcall rfl H.g.g_law_read H.g.kf1811 (EL_cons (EV_loc 2 rfl rfl (EL_cons (EV_loc 5 rfl rfl (EL_nil ?_)))))))
    refine CV_fn0 (S := S1825 D) F8.noX (K := fun v => v = .tuple [(readP p it).1, .str (readP p it).2]) (KX := fun _ => False) (fun v hv => ?_) fun _ z => z.elim
    subst hv
    refine AG_Tuple hq' ⟨rfl, AG_Name 8 rfl rfl ⟨rfl, AG_Name 9 rfl rfl ?_⟩⟩
    have F9 := C1818C (D := D.up) H (d := 3) (n := 3) (by omega) ho hit hfit (by show D.n + 1 + 80 + 30 * 3 ≤ 900; omega) hq
    refine EX_cons (ES_Return (EV_And2 (EV_Compare (EV_gcall rfl H.g.g_law_refused H.g.kf1818 (EL_cons (EV_loc 3 rfl rfl (EL_cons (EV_loc 5 rfl rfl (EL_cons (EV_bool (EL_cons (EV_bool (EL_nil ?_)))))))))))))
    refine CV_fn0 (S := S1825 D) F9.noX (K := fun v => v = .tuple [(readP p it).1, .str (readP p it).2]) (KX := fun _ => False) (fun v hv => ?_) fun _ z => z.elim
    subst hv
    refine EV_Tuple (EL_cons (EV_loc 8 rfl rfl (EL_cons (EV_loc 9 rfl rfl (EL_nil ⟨two, CO_tup_eq (n := 3) (by simp [grs, gr, grd]) (by show 10 * (D.n + 1) + 4 < cLine; omega) (TU_bool ?_)⟩)))))
    have F10 := EN H ok 3 (by decide) D.up it (rok_item hit) (by show D.n + 1 + 60 + 10 * 3 ≤ 900; omega) hq
    have F11 := C1818D (D := D.up) H (d := 3) (n := 3) (by omega) ho hit hfit (by decide) (by show D.n + 1 + 160 + 30 * 3 ≤ 900; omega) hq
    refine EV_Compare (EV_gcall rfl H.g.g_law_refused H.g.kf1818 (EL_cons (EV_loc 3 rfl rfl (EL_cons (EV_gcall rfl H.g.g_encode_raw H.g.kf1707 (EL_cons (EV_loc 5 rfl rfl (EL_nil ?_))))))))
    refine CV_fn (own := PT) (rest := [(a, .list [.list (sc.map .int), .int n3])]) F10 rfl ⟨Nat.le_refl _, id⟩ (fun v own' _ q => ?_) fun _ _ _ z => z.elim
    obtain ⟨rfl, rfl⟩ := q
    refine EL_cons (EV_bool (EL_cons (EV_bool (EL_nil ?_))))
    refine CV_fn0 (S := S1825 D) F11.noX (K := fun v => v = .tuple [(readP p it).1, .str (readP p it).2]) (KX := fun _ => False) (fun v hv => ?_) fun _ z => z.elim
    subst hv
    refine EV_Tuple (EL_cons (EV_loc 8 rfl rfl (EL_cons (EV_loc 9 rfl rfl (EL_nil ⟨two, CO_tup_eq (n := 3) (by simp [grs, gr, grd]) (by show 10 * (D.n + 1) + 4 < cLine; omega) ?_⟩)))))
    exact ⟨PT, [(a, .list [.list (sc.map .int), .int n3])], rfl, List.Subset.refl _, rfl, rfl⟩
  refine EV_IfExp (TV_Compare (EV_loc 7 rfl rfl (EV_str (CO_str_ne (TU_bool ?_)))))
  by_cases hw : (written p t).2 = ""
  · rw [show ((written p t).2 != ("" : Str)) = false from by simp [hw], if_pos hw]
    have F12 := EN H ok 3 (by decide) D.up (written p t).1 (written_rok 3 p t ho ht hw) (by show D.n + 1 + 60 + 10 * 3 ≤ 900; omega) hq
    refine EV_gcall rfl H.g.g_encode_raw H.g.kf1707 (EL_cons (EV_loc 6 rfl rfl (EL_nil ?_)))
    refine CV_fn (own := PT) (rest := [(a, .list [.list (sc.map .int), .int n3])]) F12 rfl ⟨Nat.le_refl _, id⟩ (fun v own' _ q => ?_) fun _ _ _ z => z.elim
    obtain ⟨rfl, rfl⟩ := q
    refine CO_bytes_ne (TU_bool ?_)
    rw [show ((rlp (written p t).1).toArray.toList != (rlp (written p t).1).toArray.toList) = false from by simp]
    exact EX_nil rest
  · rw [show ((written p t).2 != ("" : Str)) = true from by simpa using hw, if_neg hw]
    exact EV_none (CO_none_ne (TU_bool (EX_nil rest)))
end
end Mine
end
/-! Hd1 -/
section
open PySem PySem.Calls PyProof.Rows
open PySem.W
namespace Mine
noncomputable section

/-- a tree of objects by a function -/
def treeF (f : Nat → Obj) (n : Nat) : Nat → Nat → Nat → BT
  | 0, _, _ => .nil
  | k + 1, a, b => match Nat.blt b n with
    | true => .node (f b) (treeF f n k (2 * a) (a + b)) (treeF f n k (2 * a) (2 * a + b))
    | false => .nil
abbrev ent (P : Params) (x : Str) (t : Nat) (v : Value) : DictEntry := { hash := PyData.keyHash P x, key := .str x t, val := v }
/-- the worth of __loader__, as the boot laid it -/
def ldr (P : Params) : Value := match (boot_o_3 P).data with
  | .dict es _ => match es[3]? with
    | some e => e.val
    | none => .none
  | _ => .none
/-- the module's names ahead of ALL_BYTES -/
def ob3 (P : Params) : Obj := { cls := .type "dict", data := .dict #[ent P "__name__" 165 (.str "rlp.utils" 390), ent P "__doc__" 166 .none, ent P "__package__" 167 .none, ent P "__loader__" 168 (ldr P),
  ent P "__spec__" 169 .none, ent P "__annotations__" 170 (.ref 6), ent P "__builtins__" 171 (.ref 4), ent P "__file__" 173 (.str "/claim/cut.py" 172), ent P "__cached__" 174 .none, ent P "_wall" 193 (.ref 21), ent P "RLPException" 215 (.ref 31),
  ent P "EncodingError" 243 (.ref 53), ent P "DecodingError" 271 (.ref 74), ent P "SerializationError" 299 (.ref 95), ent P "ListSerializationError" 330 (.ref 117), ent P "DeserializationError" 358 (.ref 138), ent P "ListDeserializationError" 389 (.ref 160)] 17 }
/-- what a turn leaves behind -/
def gob (a : Nat) : Obj :=
  let i := (a - 167) / 5
  match (a - 167) % 5 with
  | 0 => { cls := .type "list", data := .seq #[.int (i : Int) (395 + 3 * i)] }
  | 1 => { cls := .type "list_iterator", data := .fields #[.none, .int 1 0] }
  | 2 => { cls := .type "bytearray", data := .bytearray #[i.toUInt8] }
  | 3 => { cls := .type "tuple", data := .seq #[] }
  | _ => { cls := .type "StopIteration", data := .fields #[.ref (a - 1), .none, .none, .none, .bool false, .none] }
def obS (P : Params) (base : Nat → Obj) (j : Nat) (a : Nat) : Obj := match Nat.beq a 0 with
  | true => boot_o_0 P
  | false => match Nat.beq a 3 with
    | true => ob3 P
    | false => match Nat.blt a 164 with
      | true => base a
      | false => match Nat.beq a 164 with
        | true => { cls := .type "range_iterator", data := .fields #[.int (j : Int) 0, .int ((256 - j : Nat) : Int) 0, .int 1 0] }
        | false => match Nat.beq a 165 with
          | true => { cls := .type "list", data := .seq ((List.range j).map fun i => .bytes #[i.toUInt8] (397 + 3 * i)).toArray j }
          | false => match Nat.beq a 166 with
            | true => match j with
              | 0 => { cls := .type "dict", data := .dict #[] }
              | i + 1 => { cls := .type "dict", data := .dict #[ent P "i" 396 (.int (i : Int) (395 + 3 * i))] 1 }
            | false => gob a
/-- the state ahead of turn j -/
def stT (base : Nat → Obj) (j : Nat) (w : World) (os : OsState) : SharedT := ⟨treeF (obS w.params base j) (167 + 5 * j) 12 1 0, 167 + 5 * j, {}, #[], {}, 395 + 3 * j, os⟩
def stmtAB : Stmt := PySem.Challenge.pw_fb0048_01.main.body.getD 10 default
def compE : Expr := match stmtAB with | .Assign _ (.Call _ [e] _ _) _ => e | _ => default
def compSc : Scope := match compE with | .ListComp _ _ sc _ => sc | _ => default
def cEnv : Env := { scope := compSc, locals := 166, globals := 3, cells := [], qual := Str.empty, func := none, code := .ref 13, frame := some 14 }
def cLoop : Code := .compLoop compE 0 (.ref 164) (.ref 165) cEnv
/-- where a turn begins -/
def posT (j : Nat) : Pos := match j with
  | 0 => ⟨48, 39, 48, 49⟩
  | _ + 1 => ⟨48, 19, 48, 29⟩
def thL (j : Nat) (k : Result → Sem Fin) (cB : Code) : Thread := ⟨denote treeTable cLoop, cLoop, posT j, [.ret k none true [.ref 166, .ref 165] cB ⟨48, 39, 48, 49⟩ [], topFrame ⟨0, 0, 0, 0⟩]⟩
def thQ (j : Nat) (k : Result → Sem Fin) (cB : Code) : Thread := ⟨PySem.W.Fast.tw11892475500146522536 PySem.W.Fast.tw14364793385576792824 cLoop, cLoop, posT j, [.ret k none true [.ref 166, .ref 165] cB ⟨48, 39, 48, 49⟩ [], topFrame ⟨0, 0, 0, 0⟩]⟩
theorem thL_eq (j : Nat) (k : Result → Sem Fin) (cB : Code) : thL j k cB = thQ j k cB := by
  unfold thL thQ
  rw [PySem.W.Fast.te11892475500146522536, PySem.W.Fast.te14364793385576792824]
abbrev sgr : String := "special-get-raises"
abbrev cit : String := "comprehension-iter-twice"
abbrev pwP : Program := PySem.Challenge.pw_fb0048_01
/-- the run of the top, by trees, and its twin -/
abbrev goT (w : World) (n : Nat) (s : SharedT) (t : Thread) : Option (SharedT × Thread) := segGoT treeTable pwP w 11 (some (.ref 6)) 0 n s t
abbrev goQ (w : World) (n : Nat) (s : SharedT) (t : Thread) : Option (SharedT × Thread) := PySem.W.Fast.tw10295753902157049106 PySem.W.Fast.tw14364793385576792824 pwP w 11 (some (.ref 6)) 0 n s t
theorem goT_eq (w : World) (n : Nat) (s : SharedT) (t : Thread) : goT w n s t = goQ w n s t := by
  unfold goT goQ
  rw [PySem.W.Fast.te10295753902157049106, PySem.W.Fast.te14364793385576792824]
def ob0 (P : Params) (a : Nat) : Obj := match a with
  | 0 => boot_o_0 P | 1 => boot_o_1 P | 2 => boot_o_2 P | 3 => boot_o_3 P | 4 => boot_o_4 P | 5 => boot_o_5 P | 6 => boot_o_6 P | 7 => boot_o_7 P | 8 => boot_o_8 P | 9 => boot_o_9 P | _ => boot_o_10 P
def s0T (w : World) (os : OsState) : SharedT := ⟨treeF (ob0 w.params) 11 5 1 0, 11, {}, #[], boot_drawn, boot_toks, os⟩
theorem s0_abs (w : World) (os : OsState) : (s0T w os).abs = ⟨boot_heap w.params, #[], boot_drawn, boot_toks, os⟩ := by kernel_rfl
def goA (n : Nat) (w : World) (os : OsState) : Option (SharedT × Thread) := goQ w n (s0T w os) (topStub pwP)
abbrev wB (b c : Bool) (w : World) : World := (w.withFollow cit b).withFollow sgr c
def w0 (w : World) : World := wB false false w
def kA (w : World) (os : OsState) : Result → Sem Fin := match goA 1918 (w0 w) os with
  | some (_, ⟨_, _, _, .ret k _ _ _ _ _ _ :: _⟩) => k
  | _ => fun _ => .unsupported ""
def cA (w : World) (os : OsState) : Code := match goA 1918 (w0 w) os with
  | some (_, ⟨_, _, _, .ret _ _ _ _ c _ _ :: _⟩) => c
  | _ => .builtin "" {}
def baseA (w : World) (os : OsState) (a : Nat) : Obj := match goA 1918 (w0 w) os with
  | some (s, _) => (s.tree.get a).getD default
  | _ => default
def goC (v w : World) (os : OsState) : Option (SharedT × Thread) := goQ v 3081 (stT (baseA w os) 256 w os) (thQ 256 (kA w os) (cA w os))
def sF (w : World) (os : OsState) : SharedT := match goC (w0 w) w os with
  | some (s, _) => s
  | _ => ⟨.nil, 0, {}, #[], {}, 0, os⟩
def tF (w : World) (os : OsState) : Thread := match goC (w0 w) w os with
  | some (_, t) => t
  | _ => topStub pwP
end
end Mine
end
/-! Hd2 -/
section
open PySem PySem.Calls PyProof.Rows
open PySem.W
namespace Mine
abbrev LpB (b : Bool) (i : Nat) : Prop := ∀ (base : Nat → Obj) (k : Result → Sem Fin) (cB : Code) (w : World) (os : OsState), goQ (w.withFollow sgr b) 1552 (stT base i w os) (thQ i k cB) = some (stT base (i + 16) w os, thQ (i + 16) k cB)
theorem lp0f : LpB false 0 := fun base k cB w os => by kernel_rfl
theorem lp0t : LpB true 0 := fun base k cB w os => by kernel_rfl
theorem lp16f : LpB false 16 := fun base k cB w os => by kernel_rfl
theorem lp16t : LpB true 16 := fun base k cB w os => by kernel_rfl
theorem lp32f : LpB false 32 := fun base k cB w os => by kernel_rfl
theorem lp32t : LpB true 32 := fun base k cB w os => by kernel_rfl
theorem lp48f : LpB false 48 := fun base k cB w os => by kernel_rfl
theorem lp48t : LpB true 48 := fun base k cB w os => by kernel_rfl
theorem lp64f : LpB false 64 := fun base k cB w os => by kernel_rfl
theorem lp64t : LpB true 64 := fun base k cB w os => by kernel_rfl
theorem lp80f : LpB false 80 := fun base k cB w os => by kernel_rfl
theorem lp80t : LpB true 80 := fun base k cB w os => by kernel_rfl
theorem lp96f : LpB false 96 := fun base k cB w os => by kernel_rfl
theorem lp96t : LpB true 96 := fun base k cB w os => by kernel_rfl
theorem lp112f : LpB false 112 := fun base k cB w os => by kernel_rfl
theorem lp112t : LpB true 112 := fun base k cB w os => by kernel_rfl
theorem lp128f : LpB false 128 := fun base k cB w os => by kernel_rfl
theorem lp128t : LpB true 128 := fun base k cB w os => by kernel_rfl
theorem lp144f : LpB false 144 := fun base k cB w os => by kernel_rfl
theorem lp144t : LpB true 144 := fun base k cB w os => by kernel_rfl
theorem lp160f : LpB false 160 := fun base k cB w os => by kernel_rfl
theorem lp160t : LpB true 160 := fun base k cB w os => by kernel_rfl
theorem lp176f : LpB false 176 := fun base k cB w os => by kernel_rfl
theorem lp176t : LpB true 176 := fun base k cB w os => by kernel_rfl
theorem lp192f : LpB false 192 := fun base k cB w os => by kernel_rfl
theorem lp192t : LpB true 192 := fun base k cB w os => by kernel_rfl
theorem lp208f : LpB false 208 := fun base k cB w os => by kernel_rfl
theorem lp208t : LpB true 208 := fun base k cB w os => by kernel_rfl
theorem lp224f : LpB false 224 := fun base k cB w os => by kernel_rfl
theorem lp224t : LpB true 224 := fun base k cB w os => by kernel_rfl
theorem lp240f : LpB false 240 := fun base k cB w os => by kernel_rfl
theorem lp240t : LpB true 240 := fun base k cB w os => by kernel_rfl
end Mine
end
/-! Hd3 -/
section
open PySem PySem.Calls PyProof.Rows
open PySem.W
namespace Mine
abbrev ABC (b c : Bool) (n : Nat) : Prop := ∀ (w : World) (os : OsState), goA n (wB b c w) os = some (stT (baseA w os) 0 w os, thQ 0 (kA w os) (cA w os))
theorem a4 (w : World) (os : OsState) : goA 1918 (wB false false w) os = some (stT (baseA w os) 0 w os, thQ 0 (kA w os) (cA w os)) ∧ goA 1918 (wB false true w) os = some (stT (baseA w os) 0 w os, thQ 0 (kA w os) (cA w os)) ∧ goA 1908 (wB true false w) os = some (stT (baseA w os) 0 w os, thQ 0 (kA w os) (cA w os)) ∧ goA 1908 (wB true true w) os = some (stT (baseA w os) 0 w os, thQ 0 (kA w os) (cA w os)) :=
  ⟨by kernel_rfl, by kernel_rfl, by kernel_rfl, by kernel_rfl⟩
theorem aFF : ABC false false 1918 := fun w os => (a4 w os).1
theorem aFT : ABC false true 1918 := fun w os => (a4 w os).2.1
theorem aTF : ABC true false 1908 := fun w os => (a4 w os).2.2.1
theorem aTT : ABC true true 1908 := fun w os => (a4 w os).2.2.2
end Mine
end
/-! Hd5 -/
section
open PySem PySem.Calls PyProof.Rows
open PySem.W
namespace Mine
noncomputable section
/-- the objects that the law's walk looks at -/
def asK : List Addr := [4, 2, 3, 15, 17, 18, 20, 21, 22, 29, 30, 31, 32, 35, 38, 43, 44, 46, 47, 49, 50, 51, 52, 53, 56, 59, 64, 65, 67, 68, 70, 71, 72, 73, 74, 77, 80, 85, 86, 88, 89, 91, 92, 93, 94, 95, 98, 101, 106, 107, 108, 110, 111, 113, 114, 115, 116, 117, 120, 123, 128, 129, 131, 132, 134, 135, 136, 137, 138, 141, 144, 149, 150, 151, 153, 154, 156, 157, 158, 159, 160, 1450, 1451, 1453, 1454, 1456, 1457, 1458, 1460, 1461, 1463, 1464, 1465, 1467, 1468, 1470, 1471, 1479, 1480, 1482, 1483, 1485, 1486, 1487, 1489, 1490, 1492, 1493, 1494, 1496, 1497, 1499, 1500, 1501, 1502, 1503, 1504, 1505, 1508, 1509, 1518, 1519, 1521, 1522, 1524, 1525, 1526, 1527, 1529, 1530, 1532, 1533, 1534, 1535, 1536, 1537, 1539, 1540, 1542, 1543, 1544, 1545, 1546, 1547, 1549, 1550, 1552, 1553, 1554, 1556, 1557, 1559, 1560, 1561, 1563, 1564, 1566, 1567, 1568, 1569, 1570, 1571, 1572, 1575, 1576, 1585, 1587, 1588, 1590, 1591, 1592, 1594, 1595, 1597, 1598, 1599, 1600, 1601, 1602, 1603, 1606, 1607, 1608, 1610, 1611, 1613, 1614, 1615, 1617, 1618, 1620, 1621, 1629, 1630, 1632, 1633, 1635, 1636, 1637, 1639, 1640, 1642, 1643, 1644, 1646, 1647, 1649, 1650, 1651, 1653, 1654, 1656, 1657, 1658, 1659, 1660, 1661, 1662, 1672, 1673, 1675, 1676, 1678, 1679, 1680, 1682, 1683, 1685, 1686, 1687, 1689, 1690, 1692, 1693, 1694, 1695, 1696, 1697, 1698, 1701, 1703, 1704, 1706, 1707, 1708, 1710, 1711, 1713, 1714, 1715, 1716, 1718, 1719, 1721, 1722, 1723, 1725, 1726, 1728, 1729, 1730, 1732, 1733, 1735, 1736, 1737, 1739, 1740, 1742, 1743, 1744, 1746, 1747, 1749, 1750, 1751, 1752, 1754, 1755, 1757, 1758, 1759, 1762, 1763, 1764, 1766, 1767, 1769, 1770, 1771, 1774, 1775, 1776, 1779, 1780, 1781, 1784, 1785, 1786, 1789, 1790, 1791, 1793, 1794, 1796, 1797, 1798, 1800, 1801, 1803, 1804, 1805, 1807, 1808, 1810, 1811, 1812, 1814, 1815, 1817, 1818, 1819, 1821, 1822, 1824, 1825, 1826, 1828, 1829, 1831, 1832]
def KW (w : World) (os : OsState) : Frag := asK.filterMap fun a => match (sF w os).tree.get a with
  | some o => match alive o with
    | some o' => some (a, o')
    | none => none
  | none => none
abbrev looseQ : List Str := [Str.ofString "_wall", Str.ofString "RLPException", Str.ofString "EncodingError", Str.ofString "DecodingError", Str.ofString "SerializationError", Str.ofString "ListSerializationError", Str.ofString "DeserializationError", Str.ofString "ListDeserializationError", Str.ofString "ALL_BYTES", Str.ofString "is_bytes", Str.ofString "big_endian_to_int", Str.ofString "int_to_big_endian", Str.ofString "BigEndianInt", Str.ofString "big_endian_int", Str.ofString "Binary", Str.ofString "binary", Str.ofString "Boolean", Str.ofString "boolean", Str.ofString "is_sedes", Str.ofString "is_sequence", Str.ofString "List", Str.ofString "CountableList", Str.ofString "encode_raw", Str.ofString "decode_raw", Str.ofString "encode", Str.ofString "LONG_LENGTH", Str.ofString "length_prefix", Str.ofString "SHORT_STRING", Str.ofString "consume_length_prefix", Str.ofString "consume_payload", Str.ofString "consume_item", Str.ofString "decode", Str.ofString "infer_sedes", Str.ofString "_law_next", Str.ofString "_law_plan", Str.ofString "_law_sedes", Str.ofString "_law_thing", Str.ofString "_law_item", Str.ofString "_law_wrapped", Str.ofString "_law_written", Str.ofString "_law_read", Str.ofString "_law_refused", Str.ofString "_law_told"]
abbrev qV : Program := { pwP with main := { pwP.main with body := [pwP.main.body.getD 50 default] } }
def codeHalfIn (K : Frag) (c P : Addr) : Bool := match K.lookup c with
  | some ⟨.type n, _, .fields vs, _⟩ => n == "code" && (match (vs[11]? : Option Value) with | some (.ref a) => a == P | _ => false) && (match vs.getD 18 .none with | .str _ _ => true | _ => false) && (match vs.getD 7 .none with | .int _ _ => true | _ => false) && (match vs.getD 9 .none with | .bool _ => true | _ => false) && (match vs.getD 10 .none with | .int _ _ => true | _ => false)
  | _ => false
structure Big (w : World) (os : OsState) : Prop where
  go : goC w w os = some (sF w os, tF w os)
  th : through (tF w os) = true
  ok : (staticsOk (importedModules pwP.main.body) (boot_heap w.params) (sF w os).abs.heap && namesBound pwP (sF w os).abs.heap && gensDone (sF w os).abs && laidKept (boot_heap w.params) (sF w os).abs.heap) = true
  seen : PySem.W.Fast.tw4187177175401517315 qV looseQ (importedModules pwP.main.body) (fun _ => true) true (sF w os).abs = openGood qV looseQ
  n : (sF w os).n = 1833
  fns : KFns (KW w os)
  x : KX (KW w os)
  g : KG (KW w os)
  t : KT (KW w os)
  u : KU (KW w os)
  v : KV (KW w os)
  bi : biIn (KW w os) = true
  law : nsIn (KW w os) mainGlobals "law" = some (some (.ref 1825))
  tab : (sF w os).tree.get 1702 = some { cls := .none, data := .fields #[] }
  half : codeHalfIn (KW w os) 1706 1702 = true
set_option maxHeartbeats 400000000
theorem bigT (w : World) (os : OsState) : Big w os := by
  refine ⟨?_, ?_, ?_, ?_, ?_, ?_, ?_, ?_, ?_, ?_, ?_, ?_, ?_, ?_, ?_⟩
  · kernel_rfl
  · kernel_rfl
  · kernel_rfl
  · kernel_rfl
  · kernel_rfl
  · constructor <;> exact ⟨by kernel_rfl, by kernel_rfl, by kernel_rfl⟩
  · constructor <;> kernel_rfl
  · constructor <;> kernel_rfl
  · constructor <;> kernel_rfl
  · constructor <;> kernel_rfl
  · constructor <;> kernel_rfl
  · kernel_rfl
  · kernel_rfl
  · kernel_rfl
  · kernel_rfl
end
end Mine
end
/-! Hd7 -/
section
open PySem PySem.Calls PyProof.Rows
open PySem.W
namespace Mine
theorem bootQ (w : World) : (PySem.W.Fast.tw10274390034422433532 PySem.W.Fast.tw14364793385576792824 (opening pwP) w 600 (start (opening pwP)).1 (start (opening pwP)).2).map (fun s => (s.heap, s.gens, s.drawn, s.toks)) = some (boot_heap w.params, #[], boot_drawn, boot_toks) := by kernel_rfl
theorem bootW (w : World) : (importEnds treeTable (opening pwP) w 600 (start (opening pwP)).1 (start (opening pwP)).2).map (fun s => (s.heap, s.gens, s.drawn, s.toks)) = some (boot_heap w.params, #[], boot_drawn, boot_toks) := by
  rw [PySem.W.Fast.te10274390034422433532, PySem.W.Fast.te14364793385576792824]
  exact bootQ w
theorem fenceW (s : Shared) : fenceModules? pwP s = some s := by kernel_rfl
end Mine
end
/-! Hd6 -/
section
open PySem PySem.Calls PyProof.Rows
open PySem.W
namespace Mine
noncomputable section
theorem through_of_end {t : Thread} (h : endAt 0 t = none) : through t = false := by
  obtain ⟨cur, code, pos, stack⟩ := t
  cases stack with
  | cons f l => rfl
  | nil =>
    cases cur with
    | pure f =>
      cases f with
      | done f => cases h
      | again c => rfl
    | _ => rfl
theorem top_of_seg {tb : String → Option Builtin} {p : Program} {w : World} {n₀ : Nat} {ann : Option Value} : ∀ {n : Nat} {s s' : Shared} {t t' : Thread}, segGo tb p w n₀ ann 0 n s t = some (s', t') → topGo tb p w n₀ ann n s t = some (s', t')
  | 0, _, _, _, _, h => h
  | n + 1, s, s', t, t', h => by
    unfold segGo at h
    unfold topGo
    cases he : endAt 0 t with
    | some f => rw [he] at h; cases h
    | none =>
      rw [he] at h
      rw [through_of_end he]
      dsimp only at h ⊢
      cases hk : stepOk n₀ ann t with
      | false => rw [hk] at h; cases h
      | true =>
        rw [hk] at h
        dsimp only at h ⊢
        cases hs : step (denote tb) p w s t with
        | halt o s₂ => rw [hs] at h; cases h
        | go s₂ t₂ => rw [hs] at h; exact top_of_seg h
abbrev tR (w : World) (n : Nat) (s : Shared) (t : Thread) : Option Shared := topRun treeTable pwP w 11 (some (.ref 6)) n s t
theorem go_run {w : World} {n N : Nat} {s s' : SharedT} {t t' : Thread} {r : Shared} (h : goQ w n s t = some (s', t')) (k : tR w N s'.abs t' = some r) : tR w (n + N) s.abs t = some r := by
  rw [← goT_eq] at h
  exact go_top (top_of_seg (segGo_of h)) k
theorem lp_of {i : Nat} (hf : LpB false i) (ht : LpB true i) (base : Nat → Obj) (k : Result → Sem Fin) (cB : Code) (w : World) (os : OsState) : goQ w 1552 (stT base i w os) (thQ i k cB) = some (stT base (i + 16) w os, thQ (i + 16) k cB) := by
  have e := World.withFollow_self w sgr
  cases hb : w.params.followText sgr with
  | false =>
    rw [hb] at e
    have := hf base k cB w os
    rwa [e] at this
  | true =>
    rw [hb] at e
    have := ht base k cB w os
    rwa [e] at this
theorem loopAll {base : Nat → Obj} {k : Result → Sem Fin} {cB : Code} {w : World} {os : OsState} {N : Nat} {r : Shared} (h : tR w N (stT base 256 w os).abs (thQ 256 k cB) = some r) : ∃ M, M = 16 * 1552 + N ∧ tR w M (stT base 0 w os).abs (thQ 0 k cB) = some r :=
  ⟨_, by omega, go_run (lp_of lp0f lp0t base k cB w os) (go_run (lp_of lp16f lp16t base k cB w os) (go_run (lp_of lp32f lp32t base k cB w os) (go_run (lp_of lp48f lp48t base k cB w os) (go_run (lp_of lp64f lp64t base k cB w os) (go_run (lp_of lp80f lp80t base k cB w os) (go_run (lp_of lp96f lp96t base k cB w os) (go_run (lp_of lp112f lp112t base k cB w os)
    (go_run (lp_of lp128f lp128t base k cB w os) (go_run (lp_of lp144f lp144t base k cB w os) (go_run (lp_of lp160f lp160t base k cB w os) (go_run (lp_of lp176f lp176t base k cB w os) (go_run (lp_of lp192f lp192t base k cB w os) (go_run (lp_of lp208f lp208t base k cB w os) (go_run (lp_of lp224f lp224t base k cB w os) (go_run (lp_of lp240f lp240t base k cB w os) h)))))))))))))))⟩
theorem aRun (w : World) (os : OsState) : ∃ n, n ≤ 1918 ∧ goA n w os = some (stT (baseA w os) 0 w os, thQ 0 (kA w os) (cA w os)) := by
  have e1 := World.withFollow_self w cit
  have e2 := World.withFollow_self w sgr
  cases hb : w.params.followText cit <;> cases hc : w.params.followText sgr <;> rw [hb] at e1 <;> rw [hc] at e2
  · have := aFF w os
    unfold wB at this
    rw [e1, e2] at this
    exact ⟨1918, Nat.le_refl _, this⟩
  · have := aFT w os
    unfold wB at this
    rw [e1, e2] at this
    exact ⟨1918, Nat.le_refl _, this⟩
  · have := aTF w os
    unfold wB at this
    rw [e1, e2] at this
    exact ⟨1908, by decide, this⟩
  · have := aTT w os
    unfold wB at this
    rw [e1, e2] at this
    exact ⟨1908, by decide, this⟩
theorem top_of {w : World} {os : OsState} {s : SharedT} {t : Thread} (hgo : goC w w os = some (s, t)) (hth : through t = true) : ∃ M, M ≤ 60000 ∧ tR w M (s0T w os).abs (topStub pwP) = some s.abs := by
  have last : tR w 1 s.abs t = some s.abs := by
    unfold tR topRun
    rw [hth]
  have hC : tR w (3081 + 1) (stT (baseA w os) 256 w os).abs (thQ 256 (kA w os) (cA w os)) = some s.abs := go_run hgo last
  obtain ⟨M, hM, hL⟩ := loopAll hC
  obtain ⟨n, hn, hA⟩ := aRun w os
  exact ⟨n + M, by omega, go_run hA hL⟩
def osW (w : World) : OsState := match fencedOpening treeTable pwP w 60000 with
  | some s => s.os
  | none => default
theorem openW (w : World) : fencedOpening treeTable pwP w 60000 = some ⟨boot_heap w.params, #[], boot_drawn, boot_toks, osW w⟩ := by
  obtain ⟨s, hs, e'⟩ := Option.map_eq_some_iff.mp (bootW w)
  have m := importEnds_mono (60000 - 600) _ _ _ _ hs
  have e : fencedOpening treeTable pwP w 60000 = some s := by
    unfold fencedOpening
    rw [show (600 + (60000 - 600) : Nat) = 60000 from rfl] at m
    rw [m]
    exact fenceW s
  have : osW w = s.os := by unfold osW; rw [e]
  rw [e, this]
  obtain ⟨hh, gs, d, k, os⟩ := s
  obtain ⟨rfl, rfl, rfl, rfl⟩ : hh = boot_heap w.params ∧ gs = #[] ∧ d = boot_drawn ∧ k = boot_toks := by simpa using e'
  rfl
theorem sizeW (w : World) : ((boot_heap w.params).isNs mainGlobals && (#[] : Array GenState).size == 0) = true ∧ (boot_heap w.params).objs.size = 11 ∧ (boot_heap w.params).nsMap mainGlobals "__annotations__" = some (.ref 6) := ⟨by kernel_rfl, by kernel_rfl, by kernel_rfl⟩
theorem left_abs {p q : Program} {loose : List Str} {Xt : Shared → Bool} {w : World} {N M n₀ : Nat} {ann : Option Value} {s₀ s₁ : Shared} (ho : fencedOpening treeTable p w N = some s₀) (z1 : (s₀.heap.isNs mainGlobals && s₀.gens.size == 0) = true) (z2 : s₀.heap.objs.size = n₀) (z3 : s₀.heap.nsMap mainGlobals "__annotations__" = ann) (hM : M ≤ N)
    (r : topRun treeTable p w n₀ ann M s₀ (topStub p) = some s₁) (hok : (staticsOk (importedModules p.main.body) s₀.heap s₁.heap && namesBound p s₁.heap && gensDone s₁ && laidKept s₀.heap s₁.heap) = true) (hs : openSeen q loose (importedModules p.main.body) Xt true s₁ = openGood q loose) :
    (openEnds treeTable p w N).map (fun s => (openSeen q loose (importedModules p.main.body) Xt true s, s.heap)) = some (openGood q loose, s₁.heap) := by
  have r' := topRun_mono (N - M) _ _ _ _ r
  rw [show M + (N - M) = N by omega] at r'
  have t : topFrom treeTable p w N s₀ = some s₁ := by
    unfold topFrom
    rw [z1, z2, z3, r']
    show (match staticsOk (importedModules p.main.body) s₀.heap s₁.heap && namesBound p s₁.heap && gensDone s₁ && laidKept s₀.heap s₁.heap with | true => _ | false => _) = _
    rw [hok]
  unfold openEnds
  rw [ho]
  show (topFrom treeTable p w N s₀).map _ = _
  rw [t]
  exact congrArg some (Prod.ext hs rfl)
theorem seen_eq {q : Program} {loose mods : List Str} {Xt : Shared → Bool} {g0 : Bool} {s : Shared} (h : PySem.W.Fast.tw4187177175401517315 q loose mods Xt g0 s = openGood q loose) : openSeen q loose mods Xt g0 s = openGood q loose := by
  rw [PySem.W.Fast.te4187177175401517315]
  exact h
theorem top_of0 {w : World} {os : OsState} {s : SharedT} {t : Thread} (hgo : goC w w os = some (s, t)) (hth : through t = true) : ∃ M, M ≤ 60000 ∧ topRun treeTable pwP w 11 (some (.ref 6)) M ⟨boot_heap w.params, #[], boot_drawn, boot_toks, os⟩ (topStub pwP) = some s.abs := by
  obtain ⟨M, h1, h2⟩ := top_of hgo hth
  rw [s0_abs] at h2
  exact ⟨M, h1, h2⟩
theorem leftW (w : World) : (openEnds treeTable pwP w 60000).map (fun s => (openSeen qV looseQ (importedModules pwP.main.body) (fun _ => true) true s, s.heap)) = some (openGood qV looseQ, (sF w (osW w)).abs.heap) := by
  have B := bigT w (osW w)
  obtain ⟨z1, z2, z3⟩ := sizeW w
  obtain ⟨M, h1, h2⟩ := top_of0 B.go B.th
  exact left_abs (openW w) z1 z2 z3 h1 h2 B.ok (seen_eq B.seen)
theorem leftO : LeftO pwP qV looseQ (fun _ => true) (fun s => s.heap) (fun w => (sF w (osW w)).abs.heap) 60000 := fun w => leftW w
end
end Mine
end
/-! Fin -/
section
open PySem PySem.Calls PyProof.Rows
open PySem.W
namespace Mine
theorem items_ints {R : WRecords} : ∀ {xs : List WData}, WShape.hasItems R xs .int = true → ∃ is : List Int, xs = is.map WData.int
  | [], _ => ⟨[], rfl⟩
  | x :: xs, h => by
    simp only [WShape.hasItems, Bool.and_eq_true] at h
    obtain ⟨is, rfl⟩ := items_ints h.2
    have h1 := h.1
    cases x <;> simp [WShape.has, WShape.arms] at h1
    exact ⟨_ :: is, rfl⟩
theorem args_ints {R : WRecords} {args : List WData} (h : WShape.hasAll R args [.list .int] = true) : ∃ is : List Int, args = [.list (is.map .int)] := by
  obtain ⟨d, r, rfl, h1, h2⟩ := hasAllW_cons h
  cases r with
  | cons x xs => simp [WShape.hasAll] at h2
  | nil =>
    cases d <;> simp [WShape.has, WShape.arms] at h1
    obtain ⟨is, rfl⟩ := items_ints h1
    exact ⟨is, rfl⟩
theorem rel_ints {R : WRecords} {cl : Str → Option Addr} {h g : Heap} : ∀ {is : List Int} {vs : List Value} {as : List Addr}, ReadsAllW R cl h vs (is.map .int) as → RelL g vs (is.map .int)
  | [], _, _, x => by cases x; exact .nil
  | i :: is, _, _, x => by
    cases x with
    | cons a b =>
      cases a
      exact .cons (.int _ _) (rel_ints b)
theorem len_of {is : List Int} (h : (PySem.Challenge.rw_fb0048_01.row.toRowW).pre.holds (PySem.Challenge.rw_fb0048_01.row.toRowW).records { args := [.list (is.map .int)] } = true) : is.length ≤ 63 := by
  have h' : WTm.holds [] (.and (.not (.lt (.lit (.int 63)) (.len (.arg 0)))) (.lit (.bool true))) { args := [.list (is.map .int)] } = true := h
  unfold WTm.holds at h'
  simp only [WTm.value] at h'
  by_cases hl : is.length ≤ 63
  · exact hl
  · exfalso
    have e : less? (.int 63) (.int (((is.map WData.int).length : Nat) : Int)) = some true := by
      have : (63 : Int) < (((is.map WData.int).length : Nat) : Int) := by rw [List.length_map]; omega
      show some (decide _) = _
      rw [decide_eq_true this]
    simp only [List.getElem?_cons_zero] at h'
    rw [e] at h'
    cases h'
theorem KW_mem {w : World} {os : OsState} {a : Addr} {o : Obj} (h : (KW w os).lookup a = some o) : a ∈ asK ∧ ∃ o', (sF w os).tree.get a = some o' ∧ alive o' = some o := by
  have hm := lookup_mem h
  obtain ⟨b, hb, e⟩ := List.mem_filterMap.mp hm
  split at e
  · rename_i o1 h1
    split at e
    · rename_i o2 h2
      cases e
      exact ⟨hb, o1, h1, h2⟩
    · cases e
  · cases e
theorem asK_lt : ∀ a ∈ asK, a < 1833 ∧ a ≠ 1702 := by decide +kernel
theorem abs_at {s : SharedT} {a : Nat} {o : Obj} (hn : a < s.n) (h : s.tree.get a = some o) : s.abs.heap.get? a = alive o := abs_get hn h
theorem tab_at {w : World} {os : OsState} (B : Big w os) : (sF w os).abs.heap.get? 1702 = some { cls := .none, data := .fields #[] } :=
  (abs_at (s := sF w os) (a := 1702) (by rw [B.n]; decide) B.tab).trans rfl
/-- what is in K stands in the heap -/
theorem KW_in {w : World} {os : OsState} (B : Big w os) : (KW w os).In (sF w os).abs.heap := by
  intro a o h
  obtain ⟨hm, o', h1, h2⟩ := KW_mem h
  rw [← h2]
  exact abs_at (by rw [B.n]; exact (asK_lt a hm).1) h1
theorem KW_not {w : World} {os : OsState} {a : Addr} {o : Obj} (h : (KW w os).lookup a = some o) : a ≠ 1702 := (asK_lt a (KW_mem h).1).2
/-- the heap at the law's call, without the table of places -/
abbrev lessT (h : Heap) : Heap := h.update 1702 fun o => { o with data := .freed }
theorem less_ne {h : Heap} {b : Addr} (hb : b ≠ 1702) : (lessT h).get? b = h.get? b := Heap.get?_update_ne h b 1702 _ hb
theorem less_none {h : Heap} : (lessT h).get? 1702 = none := by
  cases h with
  | mk objs life =>
    simp only [lessT, Heap.update, Heap.get?, Array.getElem?_modify, if_true]
    cases objs[1702]? <;> rfl
theorem codeHalf_of {K : Frag} {g : Heap} {c P : Addr} (hK : K.In g) (h : codeHalfIn K c P = true) : CodeHalf g c P := by
  unfold codeHalfIn at h
  split at h
  · rename_i n dd vs sl ho
    simp only [Bool.and_eq_true, beq_iff_eq] at h
    obtain ⟨⟨⟨⟨⟨rfl, h11⟩, h18⟩, h7⟩, h9⟩, h10⟩ := h
    have e11 : vs[11]? = some (.ref P) := by
      split at h11
      · rename_i a e; rw [beq_iff_eq] at h11; rw [e, h11]
      · cases h11
    have e18 : ∃ x t, vs.getD 18 .none = .str x t := by
      split at h18
      · rename_i x t e; exact ⟨x, t, e⟩
      · cases h18
    have e7 : ∃ x t, vs.getD 7 .none = .int x t := by
      split at h7
      · rename_i x t e; exact ⟨x, t, e⟩
      · cases h7
    have e9 : ∃ x, vs.getD 9 .none = .bool x := by
      split at h9
      · rename_i x e; exact ⟨x, e⟩
      · cases h9
    have e10 : ∃ x t, vs.getD 10 .none = .int x t := by
      split at h10
      · rename_i x t e; exact ⟨x, t, e⟩
      · cases h10
    obtain ⟨x18, t18, e18⟩ := e18
    obtain ⟨x7, t7, e7⟩ := e7
    obtain ⟨x9, e9⟩ := e9
    obtain ⟨x10, t10, e10⟩ := e10
    exact ⟨_, vs, x18, t18, x7, t7, x9, x10, t10, hK _ _ ho, rfl, by rw [Array.getD_eq_getD_getElem?, e11]; rfl, e18, e7, e9, e10, rfl, e11⟩
  · cases h
noncomputable abbrev GG (w : World) (s₁ : Shared) : Gb := ⟨pwP, w, lessT s₁.heap, s₁.os, KW w (osW w)⟩
theorem post_of (args ds : List WData) : PySem.Challenge.rw_fb0048_01.row.claim.post args (.bool true) ds = true := by
  show (WShape.has [] (.bool true) .bool && WTm.holds [] (.eq .res (.lit (.bool true))) { args := args, res := some (.bool true), after := ds }) = true
  simp [WShape.has, WShape.arms, WTm.holds, WTm.value, same_self]
theorem final (said : PySem.Challenge.rw_fb0048_01.row.wellSaid = true) : PySem.Challenge.rw_fb0048_01.row.Holds := by
  refine holds_open (q := qV) (loose := looseQ) (Xt := fun _ => true) (XP := fun _ _ => True) (Yf := fun s => s.heap) (Ya := fun w => (sF w (osW w)).abs.heap) (YP := fun w h => ((sF w (osW w)).abs.heap).StaysIn h) (N := 60000) leftO (fun w s e => ?_) (fun w h h' x k b o e => k _ _ (x b o e)) (fun _ _ => trivial) (fun _ _ _ _ _ => trivial) (by rfl) (by rfl) (by rfl) (fun s _ => recFacts_of (R := []) rfl) (by decide) said (by decide +kernel) ⟨rfl, rfl, rfl, rfl, rfl, by decide +kernel⟩ ?_ ?_
  · rw [← e]; exact fun _ _ h => h
  · exact ⟨[.list [.int 3, .int 1]], by decide +kernel, by decide +kernel⟩
  · intro w s₀ s₁ mg mb Gr Y fa o pm cd doc dV kV ho hd hcd hD hmg hgens args vals as hpre hlay hrd hwl hlo
    have B := bigT w (osW w)
    obtain ⟨is, rfl⟩ := args_ints (pre_splitW hpre).1
    have hlen := len_of (pre_splitW hpre).2
    have hT : s₁.heap.get? 1702 = some { cls := .none, data := .fields #[] } := by
      exact Y _ _ (tab_at B)
    have ok : GOk (GG w s₁) := by
      refine ⟨fun a o e => ?_, ?_, ?_, ?_⟩
      · show (lessT s₁.heap).get? a = some o
        rw [less_ne (KW_not e)]
        exact Y _ _ (KW_in B a o e)
      · obtain ⟨mc, hn, e⟩ := Gr.T.nolimit
        exact ⟨mc, hn.sameBut (Heap.SameBut.update ..) (by decide), e⟩
      · exact ⟨mg, Gr.T.g.sameBut (Heap.SameBut.update ..) (by decide)⟩
      · exact ⟨mb, Gr.T.b.sameBut (Heap.SameBut.update ..) (by decide), Gr.T.builtins⟩
    have H : KEnd3 (GG w s₁) := { prog := rfl, fns := B.fns, x := B.x, g := B.g, t := B.t, u := B.u, v := B.v, bi := BiOk.of ok.K B.bi }
    have hfa : fa = 1825 := by
      have h1 := mg_of ok.K (Gr.T.g.sameBut (Heap.SameBut.update ..) (by decide)) B.g.g_law
      have h2 : mg "law" = some (.ref fa) := hmg
      rw [h1] at h2
      cases h2
      rfl
    subst hfa
    have half : CodeHalf (lessT s₁.heap) 1706 1702 := codeHalf_of ok.K B.half
    have C : CInv (GG w s₁) callerA [] ⟨301, true⟩ (lessT s₁.heap) PT s₁ := by
      refine ⟨ok, rfl, fun b o e => ?_, fun _ _ e => e, trivial, ⟨fun p hp => ?_, fun b hb => ?_, by simp [hid, OV.hid]⟩, fun b _ => by simp [frs], .of_eq hgens, rfl, by decide, by decide, fun _ => rfl, fun v e => by cases e⟩
      · by_cases hb : b = 1702
        · subst hb; rw [less_none] at e; cases e
        · rwa [less_ne hb] at e
      · rw [List.mem_singleton.mp hp]
        exact .ptab half hT rfl trivial
      · simp [hid, OV.hid] at hb
        subst hb
        exact less_none
    cases hrd with
    | cons h1 h2 =>
    cases h2
    cases h1 with
    | list ha hc hdd hr =>
    rename_i a ob vs n as'
    have ha2 : a ≠ 1702 := fun e => by
      subst e
      rw [hT] at ha
      cases ha
      cases hc
    have R1 : RelL (lessT s₁.heap) [.ref a] [.list (is.map .int)] := .cons (.list (vs := vs.toList) ⟨ob, by rw [less_ne ha2]; exact ha, hc, n, by rw [Array.toArray_toList]; exact hdd⟩ (rel_ints hr)) .nil
    have F := C1825 (G := GG w s₁) (D := ⟨301, true⟩) H ok hlen (by decide) rfl
    refine wpAny_call (F callerA [] (lessT s₁.heap) s₁ [.ref a] [] C R1 .nil _ (fun v s' g' av own' P R q => ?_) (fun _ _ _ _ _ _ _ q => q.elim))
    obtain ⟨rfl, rfl⟩ := q
    cases R
    have hP := P.inv.ownok.at_ (1702, .ptab 1706) (.head _)
    dsimp only at hP
    cases hP with
    | ptab c1 c2 c3 c4 =>
    rename_i op ps
    subst c3
    refine ⟨.inl ⟨.bool true, .bool true, [], rfl, fun _ => rfl, .bool true, post_of _ _, fun _ => ⟨.nil, by simp⟩⟩, ⟨fun b o e => ?_, fun b o e => ?_⟩, P.inv.os, P.inv.bare⟩
    · by_cases hb : b = 1702
      · subst hb
        rw [hT] at e
        cases e
        obtain ⟨oc, vsc, _, _, _, _, _, _, _, q1, q2, _, _, _, _, _, q7, q8⟩ := half
        rw [less_ne (by decide)] at q1
        exact .inr (.inl ⟨⟨1706, oc, vsc, q1, q7, q2, q8⟩, rfl, #[], ps, rfl, by rw [c2]; simp⟩)
      · exact .inl (P.ext b o e (by simp [frs]) (by simp [hid, OV.hid]; exact hb))
    · by_cases hb : b = 1702
      · subst hb; exact ⟨_, c2⟩
      · exact ⟨o, P.ext b o e (by simp [frs]) (by simp [hid, OV.hid]; exact hb)⟩
end Mine
end
open PySem PySem.W PyProof.Rows
theorem PySem.Challenge.cw_fb0048_01_holds : PySem.Challenge.rw_fb0048_01.Holds := by
  o_law
  exact Mine.final (by assumption)
