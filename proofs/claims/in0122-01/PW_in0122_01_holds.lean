import PyProof.Rows.All
import Wide.All
import OpenK.AllK
import Wide.FinOn
import PySem.Challenge.RW_in0122_01
set_option Elab.async false
-- F1
noncomputable section
open PySem PySem.Calls PyProof.Rows
set_option maxRecDepth 100000
namespace Mine
/-- the frozen part of the heap: what no one will change any more -/
abbrev FM := Addr → Option Obj
def FM.Le (f g : FM) : Prop := ∀ a o, f a = some o → g a = some o
theorem FM.Le.refl (f : FM) : FM.Le f f := fun _ _ e => e
theorem FM.Le.trans {f g h : FM} (x : FM.Le f g) (y : FM.Le g h) : FM.Le f h := fun a o e => y a o (x a o e)
/-- a cell: an address, and what is known of the object there -/
abbrev Cell := Addr × (Obj → Prop)
structure Inv (σ : OsState) (f : FM) (P : List Cell) (s : Shared) : Prop where
  frz : ∀ a o, f a = some o → s.heap.get? a = some o
  own : ∀ p ∈ P, ∃ o, s.heap.get? p.1 = some o ∧ p.2 o
  sep : ∀ p ∈ P, f p.1 = none
  nod : (P.map (·.1)).Nodup
  bare : AllBare s.gens
  os : s.os = σ
section
variable {σ : OsState} {f g : FM} {P P' : List Cell} {s s' : Shared} {h' : Heap} {a : Addr} {q q' : Obj → Prop} {o o' : Obj}
theorem Inv.lt (I : Inv σ f P s) {p : Cell} (hp : p ∈ P) : p.1 < s.heap.objs.size := let ⟨_, h, _⟩ := I.own p hp; Heap.lt_size h
theorem Inv.flt (I : Inv σ f P s) (e : f a = some o) : a < s.heap.objs.size := Heap.lt_size (I.frz a o e)
theorem Inv.fresh (I : Inv σ f P s) (h : s.heap.objs.size ≤ a) : f a = none := by
  cases e : f a with
  | none => rfl
  | some o => exact absurd (Nat.lt_of_lt_of_le (I.flt e) h) (Nat.lt_irrefl _)
/-- only the tokens, or what the invariant does not look at, changed -/
theorem Inv.to (I : Inv σ f P s) (hh : s'.heap = s.heap) (hg : s'.gens = s.gens) (ho : s'.os = s.os) : Inv σ f P s' :=
  ⟨fun a o e => hh ▸ I.frz a o e, fun p hp => hh ▸ I.own p hp, I.sep, I.nod, hg ▸ I.bare, ho.trans I.os⟩
/-- the heap grew -/
theorem Inv.grow (I : Inv σ f P s) (hk : ∀ b o, s.heap.get? b = some o → s'.heap.get? b = some o) (hg : s'.gens = s.gens) (ho : s'.os = s.os) : Inv σ f P s' :=
  ⟨fun a o e => hk _ _ (I.frz a o e), fun p hp => let ⟨o, h, r⟩ := I.own p hp; ⟨o, hk _ _ h, r⟩, I.sep, I.nod, hg ▸ I.bare, ho.trans I.os⟩
/-- the heap grew, but for what stands at a fresh place -/
theorem Inv.ext (I : Inv σ f P s) (hs : Heap.ExtBut a s.heap s'.heap) (ha : s.heap.objs.size ≤ a) (hg : s'.gens = s.gens) (ho : s'.os = s.os) : Inv σ f P s' :=
  I.grow (fun b o e => hs b o (Nat.ne_of_lt (Nat.lt_of_lt_of_le (Heap.lt_size e) ha)) e) hg ho
/-- a new cell at a fresh place -/
theorem Inv.new (I : Inv σ f P s) (hk : ∀ b o, s.heap.get? b = some o → s'.heap.get? b = some o) (ha : s.heap.objs.size ≤ a) (hn : s'.heap.get? a = some o) (ho : q o)
    (hg : s'.gens = s.gens) (hos : s'.os = s.os) : Inv σ f ((a, q) :: P) s' := by
  have J := I.grow hk hg hos
  refine ⟨J.frz, ?_, ?_, ?_, J.bare, J.os⟩
  · intro p hp
    rcases List.mem_cons.mp hp with rfl | hp
    · exact ⟨o, hn, ho⟩
    · exact J.own p hp
  · intro p hp
    rcases List.mem_cons.mp hp with rfl | hp
    · exact I.fresh ha
    · exact J.sep p hp
  · rw [List.map_cons, List.nodup_cons]
    refine ⟨fun hm => ?_, J.nod⟩
    obtain ⟨p, hp, e⟩ := List.mem_map.mp hm
    have h3 : p.1 = a := e
    exact absurd (Nat.lt_of_lt_of_le (I.lt hp) (h3 ▸ ha)) (Nat.lt_irrefl _)
theorem Inv.newE (I : Inv σ f P s) (hs : Heap.ExtBut a s.heap s'.heap) (ha : s.heap.objs.size ≤ a) (hn : s'.heap.get? a = some o) (ho : q o)
    (hg : s'.gens = s.gens) (hos : s'.os = s.os) : Inv σ f ((a, q) :: P) s' :=
  I.new (fun b o e => hs b o (Nat.ne_of_lt (Nat.lt_of_lt_of_le (Heap.lt_size e) ha)) e) ha hn ho hg hos
/-- a push -/
theorem Inv.push (I : Inv σ f P s) (hf : o.isFreed = false) (ho : q o) (hh : s'.heap = s.heap.push o) (hg : s'.gens = s.gens) (hos : s'.os = s.os) : Inv σ f ((s.heap.objs.size, q) :: P) s' :=
  I.new (fun b o' e => by rw [hh]; exact Heap.get?_push_of_some _ e) (Nat.le_refl _) (by rw [hh]; exact Heap.get?_push_size _ hf) ho hg hos
/-- the head cell was changed -/
theorem Inv.set (I : Inv σ f ((a, q) :: P) s) (hs : Heap.SameBut a s.heap s'.heap) (hn : s'.heap.get? a = some o') (ho : q' o') (hg : s'.gens = s.gens) (hos : s'.os = s.os) : Inv σ f ((a, q') :: P) s' := by
  have hnd := I.nod
  rw [List.map_cons, List.nodup_cons] at hnd
  refine ⟨fun b o e => ?_, ?_, ?_, ?_, hg ▸ I.bare, hos.trans I.os⟩
  · have : b ≠ a := by rintro rfl; rw [I.sep _ List.mem_cons_self] at e; cases e
    rw [hs.2 b this]; exact I.frz b o e
  · intro p hp
    rcases List.mem_cons.mp hp with rfl | hp
    · exact ⟨o', hn, ho⟩
    · obtain ⟨o, h1, h2⟩ := I.own p (List.mem_cons_of_mem _ hp)
      refine ⟨o, ?_, h2⟩
      rw [hs.2 p.1 (fun e => hnd.1 (List.mem_map.mpr ⟨p, hp, e⟩))]; exact h1
  · intro p hp
    rcases List.mem_cons.mp hp with rfl | hp
    · exact I.sep (a, q) List.mem_cons_self
    · exact I.sep p (List.mem_cons_of_mem _ hp)
  · exact I.nod
theorem Inv.perm (I : Inv σ f P s) (h : P.Perm P') : Inv σ f P' s :=
  ⟨I.frz, fun p hp => I.own p (h.mem_iff.mpr hp), fun p hp => I.sep p (h.mem_iff.mpr hp), (h.map _).nodup_iff.mp I.nod, I.bare, I.os⟩
/-- the cell behind some others comes to the head -/
theorem Inv.pull {pre : List Cell} {c : Cell} (I : Inv σ f (pre ++ c :: P) s) : Inv σ f (c :: (pre ++ P)) s := I.perm List.perm_middle
theorem Inv.back {pre : List Cell} {c : Cell} (I : Inv σ f (c :: (pre ++ P)) s) : Inv σ f (pre ++ c :: P) s := I.perm List.perm_middle.symm
theorem Inv.swap {c d : Cell} (I : Inv σ f (c :: d :: P) s) : Inv σ f (d :: c :: P) s := I.perm (List.Perm.swap ..)
theorem Inv.p3 {a b c : Cell} (I : Inv σ f (a :: b :: c :: P) s) : Inv σ f (c :: a :: b :: P) s := Inv.pull (pre := [a, b]) I
theorem Inv.b3 {a b c : Cell} (I : Inv σ f (c :: a :: b :: P) s) : Inv σ f (a :: b :: c :: P) s := Inv.back (pre := [a, b]) I
theorem Inv.p4 {a b c d : Cell} (I : Inv σ f (a :: b :: c :: d :: P) s) : Inv σ f (d :: a :: b :: c :: P) s := Inv.pull (pre := [a, b, c]) I
theorem Inv.b4 {a b c d : Cell} (I : Inv σ f (d :: a :: b :: c :: P) s) : Inv σ f (a :: b :: c :: d :: P) s := Inv.back (pre := [a, b, c]) I
theorem Inv.p5 {a b c d e : Cell} (I : Inv σ f (a :: b :: c :: d :: e :: P) s) : Inv σ f (e :: a :: b :: c :: d :: P) s := Inv.pull (pre := [a, b, c, d]) I
theorem Inv.b5 {a b c d e : Cell} (I : Inv σ f (e :: a :: b :: c :: d :: P) s) : Inv σ f (a :: b :: c :: d :: e :: P) s := Inv.back (pre := [a, b, c, d]) I
theorem Inv.rot {c : Cell} {H : List Cell} (I : Inv σ f (c :: (P ++ H)) s) : Inv σ f (c :: (H ++ P)) s := I.perm (List.Perm.cons _ List.perm_append_comm)
theorem Inv.drop {c : Cell} (I : Inv σ f (c :: P) s) : Inv σ f P s :=
  ⟨I.frz, fun p hp => I.own p (List.mem_cons_of_mem _ hp), fun p hp => I.sep p (List.mem_cons_of_mem _ hp), (List.nodup_cons.mp I.nod).2, I.bare, I.os⟩
theorem Inv.drops {pre : List Cell} (I : Inv σ f (pre ++ P) s) : Inv σ f P s := by
  induction pre with
  | nil => exact I
  | cons c pre ih => exact ih I.drop
theorem Inv.weak (I : Inv σ f ((a, q) :: P) s) (h : ∀ o, q o → q' o) : Inv σ f ((a, q') :: P) s := by
  refine ⟨I.frz, ?_, ?_, I.nod, I.bare, I.os⟩
  · intro p hp
    rcases List.mem_cons.mp hp with rfl | hp
    · obtain ⟨o, h1, h2⟩ := I.own _ List.mem_cons_self
      exact ⟨o, h1, h o h2⟩
    · exact I.own p (List.mem_cons_of_mem _ hp)
  · intro p hp
    rcases List.mem_cons.mp hp with rfl | hp
    · exact I.sep (a, q) List.mem_cons_self
    · exact I.sep p (List.mem_cons_of_mem _ hp)
theorem Inv.at (I : Inv σ f ((a, q) :: P) s) : ∃ o, s.heap.get? a = some o ∧ q o := I.own _ List.mem_cons_self
def FM.put (f : FM) (a : Addr) (o : Obj) : FM := fun b => if b = a then some o else f b
theorem FM.put_self (f : FM) (a : Addr) (o : Obj) : f.put a o a = some o := by simp [FM.put]
theorem FM.le_put {f : FM} {a : Addr} {o : Obj} (h : f a = none) : FM.Le f (f.put a o) := fun b x e => by
  unfold FM.put
  by_cases hb : b = a
  · subst hb; rw [h] at e; cases e
  · rw [if_neg hb]; exact e
/-- the head cell is frozen -/
theorem Inv.freeze (I : Inv σ f ((a, q) :: P) s) : ∃ o, q o ∧ s.heap.get? a = some o ∧ FM.Le f (f.put a o) ∧ f.put a o a = some o ∧ Inv σ (f.put a o) P s := by
  obtain ⟨o, h1, h2⟩ := I.at
  have hnd := List.nodup_cons.mp I.nod
  refine ⟨o, h2, h1, FM.le_put (I.sep _ List.mem_cons_self), FM.put_self .., fun b x e => ?_, I.drop.own, fun p hp => ?_, hnd.2, I.bare, I.os⟩
  · unfold FM.put at e
    by_cases hb : b = a
    · subst hb; rw [if_pos rfl] at e; cases e; exact h1
    · rw [if_neg hb] at e; exact I.frz b x e
  · unfold FM.put
    rw [if_neg (fun e => hnd.1 (List.mem_map.mpr ⟨p, hp, e⟩))]
    exact I.drop.sep p hp
end
/-- a frame: its names -/
def FrameO (m : Str → Option Value) (o : Obj) : Prop := ∃ es ep, o.data = .dict es ep ∧ StrKeys es ∧ ∀ name, nsFind es name = m name
theorem FrameO.ns {h : Heap} {a : Addr} {m : Str → Option Value} {o : Obj} (ho : h.get? a = some o) (x : FrameO m o) : h.Ns a m := let ⟨es, ep, r⟩ := x; ⟨o, es, ep, ho, r⟩
theorem FrameO.of_ns {h : Heap} {a : Addr} {m : Str → Option Value} (x : h.Ns a m) : ∃ o, h.get? a = some o ∧ FrameO m o := let ⟨o, es, ep, ho, r⟩ := x; ⟨o, ho, es, ep, r⟩
theorem Inv.ns {σ f P s L m} (I : Inv σ f ((L, FrameO m) :: P) s) : s.heap.Ns L m := let ⟨_, ho, x⟩ := I.at; x.ns ho
theorem Inv.newNs {σ f P s} {s' : Shared} {a : Addr} {m : Str → Option Value} (I : Inv σ f P s) (hs : Heap.ExtBut a s.heap s'.heap) (ha : s.heap.objs.size ≤ a) (hn : s'.heap.Ns a m) (hg : s'.gens = s.gens) (hos : s'.os = s.os) : Inv σ f ((a, FrameO m) :: P) s' :=
  let ⟨_, ho, x⟩ := FrameO.of_ns hn; I.newE hs ha ho x hg hos
theorem Inv.setNs {σ f P s} {s' : Shared} {a : Addr} {m m' : Str → Option Value} (I : Inv σ f ((a, FrameO m) :: P) s) (hs : Heap.SameBut a s.heap s'.heap) (hn : s'.heap.Ns a m') (hg : s'.gens = s.gens) (hos : s'.os = s.os) : Inv σ f ((a, FrameO m') :: P) s' :=
  let ⟨_, ho, x⟩ := FrameO.of_ns hn; I.set hs ho x hg hos
/-- a list object -/
def ListO (vs : List Value) (o : Obj) : Prop := ∃ n, o = { cls := .type "list", dict := none, data := .seq vs.toArray n, slots := #[] }
theorem ListO.is {h : Heap} {a : Addr} {vs : List Value} {o : Obj} (ho : h.get? a = some o) (x : ListO vs o) : h.IsList a vs.toArray := let ⟨n, e⟩ := x; ⟨o, ho, by rw [e], n, by rw [e]⟩
theorem Inv.list {σ f P s a vs} (I : Inv σ f ((a, ListO vs) :: P) s) : s.heap.IsList a vs.toArray := let ⟨_, ho, x⟩ := I.at; x.is ho
theorem ListO.new (vs : List Value) : ListO vs { cls := .type "list", data := .seq vs.toArray } := ⟨0, rfl⟩
/-- a frozen list -/
def IsL (f : FM) (a : Addr) (vs : List Value) : Prop := ∃ o, f a = some o ∧ ListO vs o
theorem IsL.le {f g : FM} {a : Addr} {vs : List Value} (x : IsL f a vs) (l : FM.Le f g) : IsL g a vs := let ⟨o, e, r⟩ := x; ⟨o, l _ _ e, r⟩
theorem IsL.is {σ f P s a vs} (x : IsL f a vs) (I : Inv σ f P s) : s.heap.IsList a vs.toArray := let ⟨_, e, r⟩ := x; r.is (I.frz _ _ e)
end Mine
end
-- R1
noncomputable section
open PySem PySem.Calls PyProof.Rows
set_option maxRecDepth 100000
namespace Mine
structure Room (A : Around) (d u : Nat) : Prop where
  hand : A.handled = none
  depth : A.depth + d < recursionLimit
  units : A.units + u < cLine
theorem Room.deeper {A : Around} {d u : Nat} (R : Room A (d + 1) (u + 3)) (env : Env) : Room (A.deeper env) d u :=
  ⟨R.hand, by have := R.depth; show A.depth + 1 + d < recursionLimit; lia, by have := R.units; show A.units + 3 + u < cLine; lia⟩
theorem Room.in1 {A : Around} {d u : Nat} (R : Room A d (u + 1)) : Room A.in1 d u :=
  ⟨R.hand, R.depth, by have := R.units; show A.units + 1 + u < cLine; lia⟩
theorem Room.le {A : Around} {d u d' u' : Nat} (R : Room A d u) (hd : d' ≤ d := by lia) (hu : u' ≤ u := by lia) : Room A d' u' :=
  ⟨R.hand, by have := R.depth; lia, by have := R.units; lia⟩
theorem Room.dp {A : Around} {d u : Nat} (R : Room A d u) : A.depth < recursionLimit := by have := R.depth; lia
theorem Room.un {A : Around} {d u : Nat} (R : Room A d u) : A.units < cLine := by have := R.units; lia
/-- a frozen namespace -/
def NsF (f : FM) (a : Addr) (m : Str → Option Value) : Prop := ∃ o, f a = some o ∧ FrameO m o
theorem NsF.ns {σ f P s a m} (x : NsF f a m) (I : Inv σ f P s) : s.heap.Ns a m := let ⟨_, e, r⟩ := x; r.ns (I.frz _ _ e)
theorem NsF.le {f g : FM} {a m} (x : NsF f a m) (l : FM.Le f g) : NsF g a m := let ⟨o, e, r⟩ := x; ⟨o, l _ _ e, r⟩
/-- a frozen code record -/
def CodeF (f : FM) (cd : Value) (q : Str) : Prop := ∃ c o vs t, cd = .ref c ∧ f c = some o ∧ o.data = .fields vs ∧ vs[1]? = some (.str q t)
theorem CodeF.rec {σ f P s cd q} (x : CodeF f cd q) (I : Inv σ f P s) : s.heap.CodeRec cd q := let ⟨c, o, vs, t, h1, h2, h3⟩ := x; ⟨c, o, vs, t, h1, I.frz _ _ h2, h3⟩
theorem CodeF.le {f g : FM} {cd q} (x : CodeF f cd q) (l : FM.Le f g) : CodeF g cd q := let ⟨c, o, vs, t, h1, h2, h3⟩ := x; ⟨c, o, vs, t, h1, l _ _ h2, h3⟩
/-- a frozen def -/
def FnF (f : FM) (a : Addr) (fd : FuncData) : Prop := ∃ o, f a = some o ∧ o.data = .func fd ∧ CodeF f fd.code fd.qualname
theorem FnF.le {f g : FM} {a fd} (x : FnF f a fd) (l : FM.Le f g) : FnF g a fd := let ⟨o, h1, h2, h3⟩ := x; ⟨o, l _ _ h1, h2, h3.le l⟩
def LimF (f : FM) : Prop := ∃ mc, NsF f cStatics mc ∧ mc "sys.recursionlimit" = none
theorem LimF.no {σ f P s} (x : LimF f) (I : Inv σ f P s) : s.heap.NoLimit := let ⟨mc, h1, h2⟩ := x; ⟨mc, h1.ns I, h2⟩
theorem LimF.le {f g : FM} (x : LimF f) (l : FM.Le f g) : LimF g := let ⟨mc, h1, h2⟩ := x; ⟨mc, h1.le l, h2⟩
section
variable {prog : Program} {w : World} {A : Around} {E : Value → Shared → Prop} {s : Shared} {σ : OsState} {f : FM} {P : List Cell} {env : Env} {m : Str → Option Value}
theorem enter {name : Str} {params : Arguments} {body : List Stmt} {scope : Scope} {pm cd doc : Value} {a : Addr} {args : List Value} {binds : List (Str × Value)} {d u : Nat} {Q : Value → Shared → Prop}
    (R : Room A (d + 1) (u + 3)) (I : Inv σ f P s) (lim : LimF f) (fn : FnF f a (docDef name params body scope pm cd doc))
    (hbind : bindArgs (docDef name params body scope pm cd doc) ⟨args, []⟩ = pure binds)
    (hloc : ∀ x ∈ binds, scope.names.lookup x.1 = some .local)
    (h : ∀ L s', Inv σ f ((L, FrameO (fun x => binds.reverse.lookup x)) :: P) s' → Room (A.deeper (envOf name scope L a cd)) d u →
      wpAny (model prog w) (A.deeper (envOf name scope L a cd)) (execs body (envOf name scope L a cd)) (fun fl s'' => Q (match fl with | .ret v => v | _ => .none) s'') (fun _ _ => False) s')
    (hco : scope.isCoroutine = false := by rfl) (hgen : scope.isGenerator = false := by rfl) (hk : scope.kind = .function := by rfl)
    (hcell : ∀ x ∈ scope.names, x.2 ≠ .cell := by decide) : wpAny (model prog w) A (call (.ref a) args) Q E s := by
  obtain ⟨o, ho, hd, hc⟩ := fn
  refine wpAny_call (call_plain_ret R.dp (I.frz _ _ ho) hd (lim.no I) (hc.rec I) hbind hloc (fun h₁ F => ?_) hco hgen hk hcell)
  refine wpAny_mono (h _ _ ?_ (R.deeper _)) (fun fl s'' x => x) (fun _ _ x => x.elim)
  exact I.newNs (a := s.heap.objs.size) (fun b o _ e => F.keep b o e) (Nat.le_refl _) F.ns rfl rfl
theorem ldN {L : Addr} {x : Str} {pos : Pos} {v : Value} {Q : Value → Shared → Prop} (I : Inv σ f ((L, FrameO m) :: P) s) (hv : m x = some v) (h : Q v s)
    (hL : env.locals = L := by rfl) (hk : env.scope.kind = .function := by rfl) (hl : env.kindOf x = some .local := by rfl) (hd : (x == ("__debug__" : Str)) = false := by decide) :
    wpAny (model prog w) A (eval (.Name x pos) env) Q E s := by
  subst hL
  exact wpAny_Name (wpAny_loadName_local hk hl I.ns hv h) hd
theorem stN' {L : Addr} {x : Str} {v : Value} {Q : Unit → Shared → Prop} (I : Inv σ f ((L, FrameO m) :: P) s)
    (h : ∀ s', Inv σ f ((L, FrameO (fun y => if y = x then some v else m y)) :: P) s' → Q () s')
    (hL : env.locals = L := by rfl) (hl : env.kindOf x = some .local := by rfl) (hp : (env.scope.kind == .class || (env.scope.kind == .module && env.locals != env.globals)) = false := by rfl) :
    wpAny (model prog w) A (storeName env x v) Q E s := by
  subst hL
  exact wpAny_storeName_local hl I.ns (fun _ hn hs => h _ (I.setNs hs hn rfl rfl)) hp
theorem gl {x : Str} {pos : Pos} {mg : Str → Option Value} {v : Value} {Q : Value → Shared → Prop} (I : Inv σ f P s) (G : NsF f env.globals mg) (hv : mg x = some v) (h : Q v s)
    (hk : env.scope.kind = .function := by rfl) (hx : env.kindOf x = some .globalImplicit := by rfl) (hd : (x == ("__debug__" : Str)) = false := by decide) :
    wpAny (model prog w) A (eval (.Name x pos) env) Q E s := Name_function_global hk hx (loadGlobal_global (G.ns I) hv h) hd
theorem bi {x : Str} {pos : Pos} {mg mb : Str → Option Value} {v : Value} {Q : Value → Shared → Prop} (I : Inv σ f P s) (G : NsF f env.globals mg) (hm : mg x = none) (B : NsF f env.builtins mb) (hv : mb x = some v) (h : Q v s)
    (hk : env.scope.kind = .function := by rfl) (hx : env.kindOf x = some .globalImplicit := by rfl) (hd : (x == ("__debug__" : Str)) = false := by decide) :
    wpAny (model prog w) A (eval (.Name x pos) env) Q E s := Name_function_global hk hx (loadGlobal_builtin (G.ns I) hm (B.ns I) hv h) hd
theorem cInt {i : Int} {k : Nat} {pos : Pos} {Q : Value → Shared → Prop} (I : Inv σ f P s) (h : ∀ s' t, Inv σ f P s' → Q (.int i t) s') : wpAny (model prog w) A (eval (.Constant (.int i) k pos) env) Q E s :=
  wpAny_Constant_int (h _ _ (I.to rfl rfl rfl))
theorem cStr {x : Str} {k : Nat} {pos : Pos} {Q : Value → Shared → Prop} (I : Inv σ f P s) (h : ∀ s' t, Inv σ f P s' → Q (.str x t) s') : wpAny (model prog w) A (eval (.Constant (.str x) k pos) env) Q E s :=
  wpAny_Constant_str (h _ _ (I.to rfl rfl rfl))
theorem opAdd {a b : Int} {t u : Tok} {Q : Value → Shared → Prop} (I : Inv σ f P s) (h : ∀ s' t, Inv σ f P s' → Q (.int (a + b) t) s') : wpAny (model prog w) A (binaryOp .Add (.int a t) (.int b u)) Q E s :=
  PySem.P.add_int (h _ _ (I.to rfl rfl rfl))
theorem opSub {a b : Int} {t u : Tok} {Q : Value → Shared → Prop} (I : Inv σ f P s) (h : ∀ s' t, Inv σ f P s' → Q (.int (a - b) t) s') : wpAny (model prog w) A (binaryOp .Sub (.int a t) (.int b u)) Q E s :=
  PySem.P.sub_int (h _ _ (I.to rfl rfl rfl))
theorem opMul {a b : Int} {t u : Tok} {Q : Value → Shared → Prop} (I : Inv σ f P s) (hm : IntMulOk a b) (h : ∀ s' t, Inv σ f P s' → Q (.int (a * b) t) s') : wpAny (model prog w) A (binaryOp .Mult (.int a t) (.int b u)) Q E s :=
  PySem.P.mul_int (h _ _ (I.to rfl rfl rfl)) hm
theorem opShr1 {a : Int} {t u : Tok} {Q : Value → Shared → Prop} (I : Inv σ f P s) (h0 : 0 ≤ a) (h : ∀ s' t, Inv σ f P s' → Q (.int (a / 2) t) s') : wpAny (model prog w) A (binaryOp .RShift (.int a t) (.int 1 u)) Q E s :=
  wpAny_rshift1_int h0 (h _ _ (I.to rfl rfl rfl))
theorem opMod {a b : Int} {t u : Tok} {Q : Value → Shared → Prop} (I : Inv σ f P s) (hb : (b == 0) = false) (h : ∀ s' t, Inv σ f P s' → Q (.int (a.fmod b) t) s') : wpAny (model prog w) A (binaryOp .Mod (.int a t) (.int b u)) Q E s :=
  AutoIntOps.mod_1 (by rw [hb]; decide) (h _ _ (I.to rfl rfl rfl))
theorem subL {value slice : Expr} {a : Addr} {vs : List Value} {k : Int} {u : Tok} {x : Value} {Q : Value → Shared → Prop}
    (hl : s.heap.IsList a vs.toArray) (h0 : 0 ≤ k) (hfit : k < 2 ^ 63) (hx : vs[k.toNat]? = some x) (h : Q x s)
    (hs : subscripted slice false (.ref a) (.int k u) = operate [.ref a, .int k u] (getItem (.ref a) (.int k u)) := by with_unfolding_all rfl) : wpAny (model prog w) A (subscriptTail value slice (.ref a) (.int k u)) Q E s :=
  tail_any hl.typeIs slot_list_getitem.lookup (wpAny_getItem_list hl h0 hfit (by simpa using hx) h) hs
end
/-- what comes behind, by a name of its own -/
theorem absK {α : Type} {M : Model} {A : Around} {E : Value → Shared → Prop} {s : Shared} {x : Sem α} {Q : α → Shared → Prop} (h : ∀ (K : α → Shared → Prop) (E' : Value → Shared → Prop), (∀ a s', Q a s' → K a s') → wpAny M A x K E' s) : wpAny M A x Q E s := h Q E fun _ _ h => h
theorem five {k : Int} (h : 1 ≤ k ∧ k ≤ 5) : k = 1 ∨ k = 2 ∨ k = 3 ∨ k = 4 ∨ k = 5 := by lia
end Mine
end
-- R2
noncomputable section
open PySem PySem.Calls PyProof.Rows
set_option maxRecDepth 100000
set_option linter.unusedVariables false
namespace Mine
section
variable {prog : Program} {w : World} {A : Around} {E : Value → Shared → Prop} {s : Shared} {σ : OsState} {f : FM} {P : List Cell} {env : Env} {m : Str → Option Value}
theorem Inv.fr {c d : Cell} (I : Inv σ f (c :: d :: P) s) : Inv σ f (d :: c :: P) s := I.swap
theorem mapSeq_list {vs : List Value} {o : Obj} {g : Array Value → Array Value} (x : ListO vs o) : ListO (g vs.toArray).toList (o.mapSeq g) := by
  obtain ⟨n, rfl⟩ := x
  exact ⟨_, rfl⟩
theorem ListO.data {vs : List Value} {o : Obj} (x : ListO vs o) : ∃ n, o.data = .seq vs.toArray n := let ⟨n, e⟩ := x; ⟨n, by rw [e]⟩
theorem ListO.free {vs : List Value} {o : Obj} (x : ListO vs o) : o.isFreed = false := let ⟨_, e⟩ := x; by rw [e]; rfl
theorem ListO.dictNone {vs : List Value} {o : Obj} (x : ListO vs o) : o.dict = none := let ⟨_, e⟩ := x; by rw [e]
/-- the store of an item; the cell keeps all that a method's look-up asks -/
theorem setL {a : Addr} {vs : List Value} {k : Int} {u : Tok} {v : Value} {Q : Unit → Shared → Prop} (I : Inv σ f ((a, ListO vs) :: P) s)
    (h0 : 0 ≤ k) (hfit : k < 2 ^ 63) (hn : k < vs.length) (h : ∀ s', Inv σ f ((a, ListO (vs.set k.toNat v)) :: P) s' → Q () s') :
    wpAny (model prog w) A (setItem (.ref a) (.int k u) v) Q E s := by
  obtain ⟨o, ho, hx⟩ := I.at
  have hl := hx.is ho
  obtain ⟨n, hd⟩ := hx.data
  unfold setItem
  refine wpAny_holding ?_
  refine wpAny_bind (wpAny_sequenceKey hl.typeIs (by decide) ?_)
  refine wpAny_bind (wpAny_callSpecial?_slot (name := Str.ofString "__setitem__") hl.typeIs slot_list_setitem
    (wpAny_call_entry slot_list_setitem hl.typeIs entry_list_setitem ?_ (args_list_setitem _ _ _)))
  show wpAny _ _ (Builtin.List.listSubscript? (.int k u) >>= _) _ _ s
  refine wpAny_bind (wpAny_listSubscript_int (fitsIndex_of h0 hfit) ?_)
  obtain ⟨j, rfl⟩ := Int.eq_ofNat_of_zero_le h0
  have hj : j < vs.length := by lia
  have hg : vs.toArray[j]? = some vs[j] := by simp [hj]
  show wpAny _ _ ((seqItemAt a j >>= fun r => pure (r.map (j, ·))) >>= _) _ _ s
  refine wpAny_bind (wpAny_bind (wpAny_seqItemAt ho hd (wpAny_pure ?_)))
  rw [hg]
  show wpAny _ _ (setSeqItemAt a j v >>= _) _ _ s
  have hx' : ListO (vs.set j v) (Obj.mapSeq (·.setIfInBounds j v) o) := by
    have := mapSeq_list (g := (·.setIfInBounds j v)) hx
    simpa using this
  have fin : Q () { s with heap := s.heap.update a (Obj.mapSeq (·.setIfInBounds j v)) } :=
    h _ (I.set (Heap.SameBut.update ..) (Heap.get?_update_self _ ho hx'.free) hx' rfl rfl)
  refine wpAny_bind (wpAny_setSeqItemAt ho hd ?_)
  first
    | exact wpAny_bind (wpAny_pure (wpAny_pure ⟨.none, rfl, wpAny_pure fin⟩))
    | exact wpAny_pure ⟨.none, rfl, wpAny_pure fin⟩
/-- two items compare as b, wherever -/
def CmpLt (f : FM) (v v' : Value) (b : Bool) : Prop :=
  ∀ (prog : Program) (w : World) (A : Around) (E : Value → Shared → Prop) (s : Shared) (σ : OsState) (g : FM) (P : List Cell) (Q : Value → Shared → Prop), FM.Le f g → Room A 0 20 → Inv σ g P s →
    (∀ s', Inv σ g P s' → Q (.bool b) s') → wpAny (model prog w) A (compareOp .Lt v v') Q E s
end
def siftdownF {α : Type} (lt : α → α → Bool) (new : α) (start : Nat) (xs : List α) (pos : Nat) : List α :=
  if h : start < pos then
    match xs[(pos - 1) / 2]? with
    | some p => if lt new p then siftdownF lt new start (xs.set pos p) ((pos - 1) / 2) else xs.set pos new
    | none => xs.set pos new
  else xs.set pos new
termination_by pos
decreasing_by lia
end Mine
end
-- R3
noncomputable section
open PySem PySem.Calls PyProof.Rows
set_option maxRecDepth 100000
set_option linter.unusedVariables false
namespace Mine
/-- eqBool of the two comes out as b, wherever -/
def EqOk (f : FM) (u : Nat) (v v' : Value) (b : Bool) : Prop :=
  ∀ (prog : Program) (w : World) (A : Around) (E : Value → Shared → Prop) (s : Shared) (σ : OsState) (g : FM) (P : List Cell) (Q : Bool → Shared → Prop), FM.Le f g → Room A 0 u → Inv σ g P s →
    (∀ s', Inv σ g P s' → Q b s') → wpAny (model prog w) A (eqBool v v') Q E s
/-- the rich comparison of the two -/
def RcOk (f : FM) (u : Nat) (op : CmpOp) (v v' : Value) (b : Bool) : Prop :=
  ∀ (prog : Program) (w : World) (A : Around) (E : Value → Shared → Prop) (s : Shared) (σ : OsState) (g : FM) (P : List Cell) (Q : Value → Shared → Prop), FM.Le f g → Room A 0 u → Inv σ g P s →
    (∀ s', Inv σ g P s' → Q (.bool b) s') → wpAny (model prog w) A (richCompare op v v') Q E s
theorem EqOk.le {f g u v v' b} (x : EqOk f u v v' b) (l : FM.Le f g) : EqOk g u v v' b := fun prog w A E s σ g' P Q l' => x prog w A E s σ g' P Q (l.trans l')
theorem RcOk.le {f g u op v v' b} (x : RcOk f u op v v' b) (l : FM.Le f g) : RcOk g u op v v' b := fun prog w A E s σ g' P Q l' => x prog w A E s σ g' P Q (l.trans l')
theorem EqOk.up {f u u' v v' b} (x : EqOk f u v v' b) (h : u ≤ u') : EqOk f u' v v' b := fun prog w A E s σ g P Q l R => x prog w A E s σ g P Q l (R.le (by lia) h)
theorem RcOk.up {f u u' op v v' b} (x : RcOk f u op v v' b) (h : u ≤ u') : RcOk f u' op v v' b := fun prog w A E s σ g P Q l R => x prog w A E s σ g P Q l (R.le (by lia) h)
theorem RcOk.lt {f v v' b} (x : RcOk f 20 .Lt v v' b) : CmpLt f v v' b := x
theorem EqOk.int (f : FM) (u : Nat) (a b : Int) (t t' : Tok) : EqOk f u (.int a t) (.int b t') (a == b) := fun prog w A E s σ g P Q l R I h => wpAny_eqBool_int (h _ I)
theorem EqOk.str (f : FM) (u : Nat) (a b : Str) (t t' : Tok) : EqOk f u (.str a t) (.str b t') (decide (a = b)) := fun prog w A E s σ g P Q l R I h => wpAny_eqBool_str (h _ I)
theorem RcOk.intLt (f : FM) (u : Nat) (a b : Int) (t t' : Tok) : RcOk f u .Lt (.int a t) (.int b t') (decide (a < b)) := fun prog w A E s σ g P Q l R I h => PySem.P.lt_int (h _ I)
theorem RcOk.intLe (f : FM) (u : Nat) (a b : Int) (t t' : Tok) : RcOk f u .LtE (.int a t) (.int b t') (decide (a ≤ b)) := fun prog w A E s σ g P Q l R I h => PySem.P.le_int (h _ I)
def sizesV (op : CmpOp) (m n : Nat) : Bool := match op with
  | .Eq => m == n | .NotEq => m != n | .Lt => decide (m < n) | .LtE => decide (m ≤ n) | .Gt => decide (m > n) | _ => decide (m ≥ n)
theorem sizesV_drop (op : CmpOp) (m n i : Nat) (hm : i ≤ m) (hn : i ≤ n) : sizesV op m n = sizesV op (m - i) (n - i) := by
  have h1 : (m == n) = (m - i == n - i) := by rw [Bool.eq_iff_iff]; simp; lia
  cases op <;> simp only [sizesV, h1, bne] <;> (apply decide_eq_decide.mpr; lia)
/-- what the loop over two lists finds -/
def cmpV (op : CmpOp) (eqv rcv : Value → Value → Bool) : List Value → List Value → Bool
  | x :: xs, y :: ys => bif eqv x y then cmpV op eqv rcv xs ys else (match op with | .Eq => false | .NotEq => true | _ => rcv x y)
  | xs, ys => sizesV op xs.length ys.length
def codeOf : CmpOp → Nat
  | .Lt => 0 | .LtE => 1 | .Eq => 2 | .NotEq => 3 | .Gt => 4 | _ => 5
def plainOp : CmpOp → Bool
  | .Lt | .LtE | .Eq | .NotEq | .Gt | .GtE => true
  | _ => false
theorem plain_eqloop : plainId "list.__eq__.loop" = true := by decide +kernel
theorem entry_eqloop : entryFor table "list.__eq__.loop" = some Builtin.«list.__eq__.loop» := entryFor_of_tree (by kernel_rfl)
section
variable {prog : Program} {w : World} {A : Around} {E : Value → Shared → Prop} {s : Shared} {σ : OsState} {f : FM} {P : List Cell}
theorem listItems_ {M : Model} {a : Addr} {xs : Array Value} {Q : Array Value → Shared → Prop} (hl : s.heap.IsList a xs) (h : Q xs s) : wpAny M A (Builtin.List.listItems (.ref a)) Q E s := by
  obtain ⟨o, ho, _, n, hd⟩ := hl
  unfold Builtin.List.listItems
  exact wpAny_bind (wpAny_seqItems ho hd (wpAny_pure h))
theorem eqLoop {op : CmpOp} {u : Nat} {a b : Addr} {xs ys : List Value} {eqv rcv : Value → Value → Bool} {R : Result → Shared → Prop} (hop : plainOp op = true)
    (ha : IsL f a xs) (hb : IsL f b ys) (he : ∀ x ∈ xs, ∀ y ∈ ys, EqOk f u x y (eqv x y)) (hr : op ≠ .Eq → op ≠ .NotEq → ∀ x ∈ xs, ∀ y ∈ ys, RcOk f u op x y (rcv x y)) (Ro : Room A 0 (u + 1)) :
    ∀ (n i : Nat) (s : Shared), i + n = xs.length → i ≤ ys.length → Inv σ f P s → (∀ s', Inv σ f P s' → R (.ok (.ret (.bool (cmpV op eqv rcv (xs.drop i) (ys.drop i))))) s') →
      codeAny (model prog w) A (.builtin "list.__eq__.loop" ⟨[.ref a, .ref b, rawInt i, rawInt (codeOf op)], []⟩) R s := by
  have last : ∀ (i : Nat) (s : Shared), i ≤ xs.length → i ≤ ys.length → (xs[i]? = none ∨ ys[i]? = none) → Inv σ f P s → (∀ s', Inv σ f P s' → R (.ok (.ret (.bool (cmpV op eqv rcv (xs.drop i) (ys.drop i))))) s') →
      codeAny (model prog w) A (.builtin "list.__eq__.loop" ⟨[.ref a, .ref b, rawInt i, rawInt (codeOf op)], []⟩) R s := by
    intro i s hi hj hd I h
    refine codeAny_builtin entry_eqloop ?_
    rw [Around.under_plainId plain_eqloop]
    unfold Builtin.«list.__eq__.loop»
    have fin : cmpV op eqv rcv (xs.drop i) (ys.drop i) = sizesV op xs.length ys.length := by
      rw [sizesV_drop op _ _ i hi hj]
      rcases hd with hd | hd
      · rw [List.drop_eq_nil_of_le (List.getElem?_eq_none_iff.mp hd), cmpV]
        · simp only [List.length_nil, List.length_drop]
          have := List.getElem?_eq_none_iff.mp hd
          congr 1; lia
        · intros; simp_all
      · rw [List.drop_eq_nil_of_le (as := ys) (List.getElem?_eq_none_iff.mp hd), cmpV]
        · simp only [List.length_nil, List.length_drop]
          have := List.getElem?_eq_none_iff.mp hd
          congr 1; lia
        · intros; simp_all
    rw [fin] at h
    have hx : xs.toArray[((i : Nat) : Int).toNat]? = xs[i]? := by simp
    have hy : ys.toArray[((i : Nat) : Int).toNat]? = ys[i]? := by simp
    cases op <;> first | (cases hop; done) | skip
    all_goals
      refine wpAny_bind (listItems_ (ha.is I) (wpAny_bind (listItems_ (hb.is I) ?_)))
      rw [hx, hy]
      rcases hd with hd | hd
      · rw [hd]
        refine wpAny_bind (listItems_ (ha.is I) (wpAny_bind (listItems_ (hb.is I) ?_)))
        exact wpAny_pure (h _ I)
      · rw [hd]
        cases xs[i]? <;>
        · refine wpAny_bind (listItems_ (ha.is I) (wpAny_bind (listItems_ (hb.is I) ?_)))
          exact wpAny_pure (h _ I)
  intro n
  induction n with
  | zero =>
    intro i s hn hi I h
    exact last i s (by lia) hi (.inl (by simp; lia)) I h
  | succ n ih =>
    intro i s hn hi I h
    have hlt : i < xs.length := by lia
    by_cases hj : i < ys.length
    · refine codeAny_builtin entry_eqloop ?_
      rw [Around.under_plainId plain_eqloop]
      unfold Builtin.«list.__eq__.loop»
      have hx : xs.toArray[((i : Nat) : Int).toNat]? = some xs[i] := by simp [hlt]
      have hy : ys.toArray[((i : Nat) : Int).toNat]? = some ys[i] := by simp [hj]
      have mx : xs[i] ∈ xs := List.getElem_mem hlt
      have my : ys[i] ∈ ys := List.getElem_mem hj
      rw [List.drop_eq_getElem_cons hlt, List.drop_eq_getElem_cons hj] at h
      have ei : rawInt ((i : Int) + 1) = rawInt (((i + 1 : Nat)) : Int) := rfl
      cases op <;> first | (cases hop; done) | skip
      all_goals
        refine wpAny_bind (listItems_ (ha.is I) (wpAny_bind (listItems_ (hb.is I) ?_)))
        rw [hx, hy]
        refine wpAny_bind (he _ mx _ my prog w _ _ _ σ f P _ (FM.Le.refl f) Ro.in1 I fun s I => ?_)
        cases hq : eqv xs[i] ys[i] with
        | true =>
          simp only [cmpV, hq, cond_true] at h
          exact wpAny_pure ⟨plainId_quiet plain_eqloop _, ih (i + 1) s (by lia) (by lia) I h⟩
        | false =>
          simp only [cmpV, hq, cond_false] at h
          refine wpAny_bind (listItems_ (ha.is I) (wpAny_bind (listItems_ (hb.is I) ?_)))
          rw [hx, hy]
          first
          | exact wpAny_pure (h _ I)
          | exact wpAny_bind (hr (by intro e; cases e) (by intro e; cases e) _ mx _ my prog w _ _ _ σ f P _ (FM.Le.refl f) Ro.in1 I fun s I => wpAny_pure (h _ I))
    · exact last i s (by lia) hi (.inr (by simp; lia)) I h
theorem cmpV_len (eqv rcv : Value → Value → Bool) : ∀ xs ys : List Value, xs.length ≠ ys.length → cmpV .Eq eqv rcv xs ys = false ∧ cmpV .NotEq eqv rcv xs ys = true
  | [], [], h => absurd rfl h
  | [], y :: ys, _ => ⟨rfl, rfl⟩
  | x :: xs, [], _ => ⟨rfl, rfl⟩
  | x :: xs, y :: ys, h => by
    have ih := cmpV_len eqv rcv xs ys (by simpa using h)
    simp only [cmpV, ih]
    cases eqv x y <;> exact ⟨rfl, rfl⟩
theorem sub_list_list : isSubtype (.type "list") (.type "list") = pure true := by rw [isSubtype_type]; kernel_rfl
theorem rcList {op : CmpOp} {u : Nat} {a b : Addr} {xs ys : List Value} {eqv rcv : Value → Value → Bool} (hop : op = .Eq ∨ op = .NotEq ∨ op = .Lt ∨ op = .LtE)
    (ha : IsL f a xs) (hb : IsL f b ys) (he : ∀ x ∈ xs, ∀ y ∈ ys, EqOk f u x y (eqv x y)) (hr : op ≠ .Eq → op ≠ .NotEq → ∀ x ∈ xs, ∀ y ∈ ys, RcOk f u op x y (rcv x y)) :
    RcOk f (u + 1) op (.ref a) (.ref b) (cmpV op eqv rcv xs ys) := by
  intro prog w A E s σ g P Q l Ro I h
  have ha := ha.le l
  have hb := hb.le l
  have he : ∀ x ∈ xs, ∀ y ∈ ys, EqOk g u x y (eqv x y) := fun x mx y my => (he x mx y my).le l
  have hr : op ≠ .Eq → op ≠ .NotEq → ∀ x ∈ xs, ∀ y ∈ ys, RcOk g u op x y (rcv x y) := fun e1 e2 x mx y my => (hr e1 e2 x mx y my).le l
  have hTa := (ha.is I).typeIs
  have hTb := (hb.is I).typeIs
  have loop : ∀ (s : Shared), plainOp op = true → Inv σ g P s → codeAny (model prog w) A (.builtin "list.__eq__.loop" ⟨[.ref a, .ref b, rawInt 0, rawInt (codeOf op)], []⟩)
      (fun r s' => match r with | .ok (.ret v) => v ≠ .notImplemented ∧ Q v s' | .ok _ => False | .error e => E e s') s := fun s hp I =>
    eqLoop hp ha hb he hr Ro xs.length 0 s (by simp) (Nat.zero_le _) I fun s I => ⟨(fun e => nomatch e), h s I⟩
  have q : (Code.builtin "list.__eq__.loop" ⟨[.ref a, .ref b, rawInt 0, rawInt (codeOf op)], []⟩).quiet = true := plainId_quiet plain_eqloop _
  rcases hop with rfl | rfl | rfl | rfl
  · refine wpAny_richCompare_same_room (op := .Eq) hTa hTb F.slot_list_eq (wpAny_call (codeAny_call_builtin F.slot_list_eq.plain F.entry_list_eq
      (F.slot_list_eq.check _ _ _ _ _ _ _ _ hTa (F.args_list_eq_2 _ _) ?_))) Ro.un
    unfold Builtin.«list.__eq__»
    show wpAny _ _ (isInstance (.ref b) (.type "list") >>= _) _ _ s
    refine wpAny_bind (wpAny_isInstance (hb.is I).typeIs (b := true) sub_list_list ?_)
    refine wpAny_bind (listItems_ (ha.is I) (wpAny_bind (listItems_ (hb.is I) ?_)))
    by_cases hl : xs.length = ys.length
    · have e : (xs.toArray.size != ys.toArray.size) = false := by simp [hl]
      rw [e]
      exact wpAny_pure ⟨q, loop s rfl I⟩
    · have e : (xs.toArray.size != ys.toArray.size) = true := by simp [hl]
      rw [e]
      have := h s I
      rw [(cmpV_len eqv rcv xs ys hl).1] at this
      exact wpAny_bind (wpAny_rule (wpAny_pure ⟨(fun e => nomatch e), this⟩))
  · refine wpAny_richCompare_same_room (op := .NotEq) hTa hTb F.slot_list_ne (wpAny_call (codeAny_call_builtin F.slot_list_ne.plain F.entry_list_ne
      (F.slot_list_ne.check _ _ _ _ _ _ _ _ hTa (F.args_list_ne_2 _ _) ?_))) Ro.un
    unfold Builtin.«list.__ne__»
    show wpAny _ _ (isInstance (.ref b) (.type "list") >>= _) _ _ s
    refine wpAny_bind (wpAny_isInstance (hb.is I).typeIs (b := true) sub_list_list ?_)
    refine wpAny_bind (listItems_ (ha.is I) (wpAny_bind (listItems_ (hb.is I) ?_)))
    by_cases hl : xs.length = ys.length
    · have e : (xs.toArray.size != ys.toArray.size) = false := by simp [hl]
      rw [e]
      exact wpAny_pure ⟨q, loop s rfl I⟩
    · have e : (xs.toArray.size != ys.toArray.size) = true := by simp [hl]
      rw [e]
      have := h s I
      rw [(cmpV_len eqv rcv xs ys hl).2] at this
      exact wpAny_bind (wpAny_rule (wpAny_pure ⟨(fun e => nomatch e), this⟩))
  · refine wpAny_richCompare_same_room (op := .Lt) hTa hTb F.slot_list_lt (wpAny_call (codeAny_call_builtin F.slot_list_lt.plain F.entry_list_lt
      (F.slot_list_lt.check _ _ _ _ _ _ _ _ hTa (F.args_list_lt_2 _ _) ?_))) Ro.un
    unfold Builtin.«list.__lt__»
    show wpAny _ _ (isInstance (.ref b) (.type "list") >>= _) _ _ s
    refine wpAny_bind (wpAny_isInstance (hb.is I).typeIs (b := true) sub_list_list ?_)
    exact wpAny_pure ⟨q, loop s rfl I⟩
  · refine wpAny_richCompare_same_room (op := .LtE) hTa hTb F.slot_list_le (wpAny_call (codeAny_call_builtin F.slot_list_le.plain F.entry_list_le
      (F.slot_list_le.check _ _ _ _ _ _ _ _ hTa (F.args_list_le_2 _ _) ?_))) Ro.un
    unfold Builtin.«list.__le__»
    show wpAny _ _ (isInstance (.ref b) (.type "list") >>= _) _ _ s
    refine wpAny_bind (wpAny_isInstance (hb.is I).typeIs (b := true) sub_list_list ?_)
    exact wpAny_pure ⟨q, loop s rfl I⟩
/-- the same address: no comparison -/
theorem EqOk.list {u : Nat} {a b : Addr} {xs ys : List Value} {eqv : Value → Value → Bool} (ha : IsL f a xs) (hb : IsL f b ys) (he : ∀ x ∈ xs, ∀ y ∈ ys, EqOk f u x y (eqv x y))
    (hrefl : a = b → cmpV .Eq eqv (fun _ _ => true) xs ys = true) : EqOk f (u + 1) (.ref a) (.ref b) (cmpV .Eq eqv (fun _ _ => true) xs ys) := by
  intro prog w A E s σ g P Q l Ro I h
  unfold eqBool
  refine wpAny_holding ?_
  by_cases hab : a = b
  · subst hab
    rw [if_pos (by simp)]
    have := h s I
    rw [hrefl rfl] at this
    exact wpAny_bind (wpAny_rule (wpAny_pure this))
  · rw [if_neg (by simpa using hab)]
    refine wpAny_bind (rcList (.inl rfl) ha hb he (fun e => absurd rfl e) prog w A E s σ g P _ l Ro I fun s I => wpAny_truthy_bool (h s I))
end
end Mine
end
-- D1
noncomputable section
open PySem PySem.Calls PyProof.Rows
set_option maxRecDepth 100000
set_option linter.unusedVariables false
namespace Mine
abbrev pw : Program := PySem.Challenge.pw_in0122_01
structure Def where
  name : Str
  params : Arguments
  body : List Stmt
  scope : Scope
def defAt (i : Nat) : Def := match pw.main.body[i]? with
  | some (.FunctionDef n a b _ _ _ sc _ _ _) => ⟨n, a, b, sc⟩
  | _ => ⟨Str.ofString "", { posonlyargs := [], args := [], vararg := none, kwonlyargs := [], kw_defaults := [], kwarg := none, defaults := [] }, [], default⟩
def FnI (f : FM) (a : Addr) (i : Nat) : Prop := ∃ pm cd doc, FnF f a (docDef (defAt i).name (defAt i).params (defAt i).body (defAt i).scope pm cd doc)
theorem FnI.le {f g : FM} {a i} (x : FnI f a i) (l : FM.Le f g) : FnI g a i := let ⟨p, c, d, h⟩ := x; ⟨p, c, d, h.le l⟩
section
variable {prog : Program} {w : World} {A : Around} {E : Value → Shared → Prop} {s : Shared} {σ : OsState} {f : FM} {P : List Cell} {κ : Type}
/-- a statement that stores what it reckons: what comes behind goes by a name -/
theorem asgN {M : Model} {A : Around} {env : Env} {x : Str} {pos' pos : Pos} {value : Expr} {rest : List Stmt} {Q : Flow → Shared → Prop} {E : Value → Shared → Prop} {s : Shared}
    (h : ∀ (K : Value → Shared → Prop) (E' : Value → Shared → Prop), (∀ v s', wpAny M A (storeName env x v) (fun _ s'' => wpAny M A (execs rest env) Q E s'') E s' → K v s') → wpAny M A (eval value env) K E' s)
    (hs : swapsWith value (some (.Name x pos')) pos.line env = pure false := by rfl) : wpAny M A (execs (.Assign [.Name x pos'] value pos :: rest) env) Q E s :=
  wpAny_execs_cons (wpAny_Assign_Name (h _ _ fun _ _ h => h) hs)
/-- reading and storing at an index of a heap: the list is the first parts -/
theorem heapGet {value slice : Expr} {a : Addr} {xs : List (Value × κ)} {k : Nat} {u : Tok} {y : Value × κ} {Q : Value → Shared → Prop}
    (hl : s.heap.IsList a (xs.map Prod.fst).toArray) (hsz : xs.length < 2 ^ 20) (hx : xs[k]? = some y) (h : Q y.1 s)
    (hs : subscripted slice false (.ref a) (.int k u) = operate [.ref a, .int k u] (getItem (.ref a) (.int k u)) := by with_unfolding_all rfl) : wpAny (model prog w) A (subscriptTail value slice (.ref a) (.int k u)) Q E s := by
  have hk := (List.getElem?_eq_some_iff.mp hx).1
  exact subL (x := y.1) hl (Int.natCast_nonneg k) (by omega) (by simp [hx]) h hs
theorem heapSet {a : Addr} {xs : List (Value × κ)} {k : Nat} {u : Tok} {y : Value × κ} {Q : Unit → Shared → Prop} (I : Inv σ f ((a, ListO (xs.map Prod.fst)) :: P) s)
    (hsz : xs.length < 2 ^ 20) (hk : k < xs.length) (h : ∀ s', Inv σ f ((a, ListO ((xs.set k y).map Prod.fst)) :: P) s' → Q () s') :
    wpAny (model prog w) A (setItem (.ref a) (.int k u) y.1) Q E s := by
  refine setL I (Int.natCast_nonneg k) (by omega) (by simp; omega) fun s I => h s ?_
  have e2 : (xs.map Prod.fst).set ((k : Int).toNat) y.1 = (xs.set k y).map Prod.fst := by simp [List.map_set]
  rwa [e2] at I
theorem subN {value slice : Expr} {a : Addr} {vs : List Value} {k : Nat} {u : Tok} {x : Value} {Q : Value → Shared → Prop}
    (hl : s.heap.IsList a vs.toArray) (hsz : vs.length < 2 ^ 40) (hx : vs[k]? = some x) (h : Q x s)
    (hs : subscripted slice false (.ref a) (.int k u) = operate [.ref a, .int k u] (getItem (.ref a) (.int k u)) := by with_unfolding_all rfl) : wpAny (model prog w) A (subscriptTail value slice (.ref a) (.int k u)) Q E s := by
  have hk := (List.getElem?_eq_some_iff.mp hx).1
  exact subL (x := x) hl (Int.natCast_nonneg k) (by omega) (by simpa using hx) h hs
theorem half {m n : Nat} (h : m < n) : ((n : Int) - 1) / 2 = (((n - 1) / 2 : Nat) : Int) := by omega
theorem half_lt {m n : Nat} (h : n < m) : (n - 1) / 2 < m := by omega
theorem half_lt' {m n : Nat} (h : m < n) : (n - 1) / 2 < n := by omega
theorem dbl (p : Nat) : (2 * (p : Int) + 1) = ((2 * p + 1 : Nat) : Int) := by omega
theorem dbl2 (p : Nat) : (((2 * p + 1 : Nat) : Int) + 1) = ((2 * p + 2 : Nat) : Int) := by omega
theorem mulOk2 {p m : Nat} (h : p < m) (hm : m < 2 ^ 20) : IntMulOk 2 p := by mul_fits
theorem decLt {a b : Nat} (h : a < b) : decide ((a : Int) < (b : Int)) = true := by simpa using h
theorem decLe {a b : Nat} (h : ¬ a < b) : ¬ decide ((a : Int) < (b : Int)) = true := by simpa using h
theorem memSet {α : Type} {xs zs : List α} {i : Nat} {y : α} (h : ∀ x ∈ xs, x ∈ zs) (hy : y ∈ zs) : ∀ x ∈ xs.set i y, x ∈ zs := fun x hx => by
  rcases List.mem_or_eq_of_mem_set hx with hx | rfl
  · exact h _ hx
  · exact hy
theorem siftdown_ct {lt : κ → κ → Bool} {a h : Addr} {zs : List (Value × κ)} {start pos : Nat} {t u : Tok} {new : Value × κ} {Q : Value → Shared → Prop}
    (R : Room A 1 30) (lim : LimF f) (fn : FnI f a 19) (I : Inv σ f ((h, ListO (zs.map Prod.fst)) :: P) s)
    (hlt : ∀ x ∈ zs, ∀ y ∈ zs, CmpLt f x.1 y.1 (lt x.2 y.2)) (hpos : zs[pos]? = some new) (hsz : zs.length < 2 ^ 20)
    (hQ : ∀ s', Inv σ f ((h, ListO ((siftdownF (fun x y => lt x.2 y.2) new start zs pos).map Prod.fst)) :: P) s' → Q .none s') :
    wpAny (model prog w) A (call (.ref a) [.ref h, .int start t, .int pos u]) Q E s := by
  obtain ⟨pm, cd, doc, fn⟩ := fn
  have hp : pos < zs.length := (List.getElem?_eq_some_iff.mp hpos).1
  refine enter (d := 0) (u := 27) (binds := [(Str.ofString "heap", .ref h), (Str.ofString "startpos", .int start t), (Str.ofString "pos", .int pos u)]) R I lim fn rfl (locs rfl) ?_
  intro L s I R
  -- newitem = heap[pos]
  refine wpAny_execs_cons (wpAny_Assign_Name (Subscript_ (ldN I rfl (ldN I rfl ?_))))
  refine heapGet I.swap.list hsz hpos ?_
  refine stN' I fun s I => ?_
  -- while
  refine wpAny_execs_cons (wpAny_While ?_)
  refine codeAny_whileLoop (fun n s => ∃ xs p m t, n = p ∧ Inv σ f ((L, FrameO m) :: (h, ListO (xs.map Prod.fst)) :: P) s ∧ m (Str.ofString "heap") = some (.ref h) ∧ m (Str.ofString "startpos") = some (.int start t)
    ∧ (∃ u, m (Str.ofString "pos") = some (.int (p : Nat) u)) ∧ m (Str.ofString "newitem") = some new.1 ∧ xs.length = zs.length ∧ p < xs.length ∧ (∀ x ∈ xs, x ∈ zs) ∧
      siftdownF (fun x y => lt x.2 y.2) new start xs p = siftdownF (fun x y => lt x.2 y.2) new start zs pos) ?_ pos ?_
  case refine_2 => exact ⟨zs, pos, _, t, rfl, I, rfl, rfl, ⟨u, rfl⟩, rfl, rfl, hp, fun _ h => h, rfl⟩
  rintro n s ⟨xs, p, m, t, rfl, I, h1, h2, ⟨u, h3⟩, h4, h5, h6, h7, h8⟩
  have hnew : new ∈ zs := List.mem_of_getElem? hpos
  have hs' : xs.length < 2 ^ 20 := h5 ▸ hsz
  have hstep : ∀ p' (hs : start < n) (he : (n - 1) / 2 = p') (hp' : p' < xs.length), siftdownF (fun x y => lt x.2 y.2) new start xs n = if lt new.2 xs[p'].2 then siftdownF (fun x y => lt x.2 y.2) new start (xs.set n xs[p']) p' else xs.set n new := by
    intro p' hs he hp'
    subst he
    rw [siftdownF, dif_pos hs, List.getElem?_eq_getElem hp']
  have fin : ∀ m s, Inv σ f ((L, FrameO m) :: (h, ListO (xs.map Prod.fst)) :: P) s → m (Str.ofString "heap") = some (.ref h) → (∃ u, m (Str.ofString "pos") = some (.int (n : Nat) u)) → m (Str.ofString "newitem") = some new.1 →
      siftdownF (fun x y => lt x.2 y.2) new start xs n = xs.set n new →
      wpAny (model prog w) (A.deeper (envOf (defAt 19).name (defAt 19).scope L a cd)) (execs ((defAt 19).body.drop 2) (envOf (defAt 19).name (defAt 19).scope L a cd)) (fun fl s'' => Q (match fl with | .ret v => v | _ => .none) s'') (fun _ _ => False) s := by
    intro m s I h1 ⟨u, h3⟩ h4 e
    refine wpAny_execs_cons (wpAny_Assign_Subscript (ldN I h4 (ldN I h1 (ldN I h3 ?_))))
    refine heapSet I.swap hs' h6 fun s I => ?_
    refine wpAny_execs_nil (hQ _ ?_)
    rw [← e, h8] at I
    exact I.swap.drop
  refine wpAny_isTrue_Compare1 (ldN I h3 (ldN I h2 (PySem.P.gt_int (wpAny_truthy_bool ?_))))
  by_cases hc : start < n
  · rw [if_pos (by simpa using hc)]
    refine absK fun K E' hK => ?_
    have hp' := half_lt h6
    refine wpAny_execs_cons (wpAny_Assign_Name (wpAny_BinOp (wpAny_BinOp (ldN I h3 (cInt I fun s t I => opSub I fun s t I => cInt I fun s t I => opShr1 I (by omega) fun s t I => ?_)))))
    refine stN' I fun s I => ?_
    have e1 := half hc
    rw [e1] at I
    refine wpAny_execs_cons (wpAny_Assign_Name (Subscript_ (ldN I h1 (ldN I rfl (heapGet I.swap.list hs' (List.getElem?_eq_getElem hp') ?_)))))
    refine stN' I fun s I => ?_
    refine wpAny_execs_cons (wpAny_If (wpAny_isTrue_Compare1 (ldN I h4 (ldN I rfl ?_))))
    refine hlt new hnew xs[(n - 1) / 2] (h7 _ (List.getElem_mem hp')) prog w _ _ _ σ f _ _ (FM.Le.refl f) R.le I fun s I => ?_
    refine wpAny_truthy_bool ?_
    by_cases hb : lt new.2 xs[(n - 1) / 2].2 = true
    · rw [if_pos hb]
      refine wpAny_execs_cons (wpAny_Assign_Subscript (ldN I rfl (ldN I h1 (ldN I h3 ?_))))
      refine heapSet I.swap hs' h6 fun s I => ?_
      refine wpAny_execs_cons (wpAny_Assign_Name (ldN I.swap rfl (stN' I.swap fun s I => ?_)))
      refine wpAny_execs_cons (wpAny_Continue ?_)
      refine hK _ _ ⟨(n - 1) / 2, half_lt' hc, xs.set n xs[(n - 1) / 2], (n - 1) / 2, _, _, rfl, I, h1, h2, ⟨_, rfl⟩, h4, List.length_set.trans h5, Nat.lt_of_lt_of_eq hp' List.length_set.symm, memSet h7 (h7 _ (List.getElem_mem hp')), ?_⟩
      · rw [← h8, hstep _ hc rfl hp', if_pos hb]
    · rw [if_neg hb]
      refine wpAny_execs_nil (wpAny_execs_cons (wpAny_Break (hK _ _ ?_)))
      exact fin _ _ I h1 ⟨_, h3⟩ h4 (by rw [hstep _ hc rfl hp', if_neg hb])
  · rw [if_neg (by simpa using hc)]
    refine wpAny_execs_nil ?_
    exact fin _ _ I h1 ⟨_, h3⟩ h4 (by rw [siftdownF, dif_neg hc])
end
end Mine
end
-- B0
noncomputable section
open PySem PySem.Calls PyProof.Rows
set_option maxRecDepth 100000
set_option linter.unusedVariables false
namespace Mine
structure Names (mg mb : Str → Option Value) : Prop where
  len0 : mg (Str.ofString "len") = none
  len : mb (Str.ofString "len") = some (.builtin "len")
  range0 : mg (Str.ofString "range") = none
  range : mb (Str.ofString "range") = some (.type "range")
  reversed0 : mg (Str.ofString "reversed") = none
  reversed : mb (Str.ofString "reversed") = some (.type "reversed")
  isinstance0 : mg (Str.ofString "isinstance") = none
  isinstance : mb (Str.ofString "isinstance") = some (.builtin "isinstance")
  str0 : mg (Str.ofString "str") = none
  str : mb (Str.ofString "str") = some (.type "str")
  zip0 : mg (Str.ofString "zip") = none
  zip : mb (Str.ofString "zip") = some (.type "zip")
  iter0 : mg (Str.ofString "iter") = none
  iter : mb (Str.ofString "iter") = some (.builtin "iter")
  crlf : ∃ t, mg (Str.ofString "CRLF") = some (.str (Str.ofString "\r\n") t)
  re1 : mg (Str.ofString "twin_re_1_smtplib") = some (.ref 36)
  re2 : mg (Str.ofString "_twin_re_2") = some (.ref 41)
  re3 : mg (Str.ofString "twin_re_1_fnmatch") = some (.ref 60)
  scm : mg (Str.ofString "_special_chars_map") = some (.ref 62)
  quotedata : mg (Str.ofString "quotedata") = some (.ref 48)
  fix_eols : mg (Str.ofString "_fix_eols") = some (.ref 55)
  escape : mg (Str.ofString "escape") = some (.ref 72)
  translate : mg (Str.ofString "_translate") = some (.ref 79)
  heappop : mg (Str.ofString "heappop") = some (.ref 86)
  heappushpop : mg (Str.ofString "heappushpop") = some (.ref 93)
  heapify : mg (Str.ofString "heapify") = some (.ref 100)
  heapreplace_max : mg (Str.ofString "_heapreplace_max") = some (.ref 107)
  heapify_max : mg (Str.ofString "_heapify_max") = some (.ref 114)
  siftdown : mg (Str.ofString "_siftdown") = some (.ref 121)
  siftup : mg (Str.ofString "_siftup") = some (.ref 128)
  siftdown_max : mg (Str.ofString "_siftdown_max") = some (.ref 135)
  siftup_max : mg (Str.ofString "_siftup_max") = some (.ref 142)
  nsmallest : mg (Str.ofString "nsmallest") = some (.ref 148)
  law_rows : mg (Str.ofString "_law_rows") = some (.ref 155)
  law_text : mg (Str.ofString "_law_text") = some (.ref 162)
  law_pieces : mg (Str.ofString "_law_pieces") = some (.ref 167)
  law_breadth : mg (Str.ofString "_law_breadth") = some (.ref 172)
  law_rising : mg (Str.ofString "_law_rising") = some (.ref 177)
structure Base (mg mb : Str → Option Value) (f : FM) : Prop where
  G : NsF f mainGlobals mg
  B : NsF f builtinsNs mb
  lim : LimF f
  nm : Names mg mb
  f5 : FnI f 48 5
  f6 : FnI f 55 6
  f10 : FnI f 72 10
  f14 : FnI f 86 14
  f15 : FnI f 93 15
  f16 : FnI f 100 16
  f17 : FnI f 107 17
  f18 : FnI f 114 18
  f19 : FnI f 121 19
  f20 : FnI f 128 20
  f21 : FnI f 135 21
  f22 : FnI f 142 22
  f25 : FnI f 155 25
  f27 : FnI f 167 27
  f28 : FnI f 172 28
  f29 : FnI f 177 29
theorem Base.le {mg mb f g} (x : Base mg mb f) (l : FM.Le f g) : Base mg mb g :=
  ⟨x.G.le l, x.B.le l, x.lim.le l, x.nm, x.f5.le l, x.f6.le l, x.f10.le l, x.f14.le l, x.f15.le l, x.f16.le l, x.f17.le l, x.f18.le l, x.f19.le l, x.f20.le l, x.f21.le l, x.f22.le l, x.f25.le l, x.f27.le l, x.f28.le l, x.f29.le l⟩
section
variable {prog : Program} {w : World} {A : Around} {E : Value → Shared → Prop} {s : Shared} {σ : OsState} {f : FM} {P : List Cell} {env : Env} {m : Str → Option Value}
/-- a def is called by its name -/
theorem callF {pos : Pos} {a : Addr} {i : Nat} {e : Expr} {rest : List Expr} {Q : Value → Shared → Prop} (x : FnI f a i)
    (h : wpAny (model prog w) A (spliced (backTo pos (starEach (e :: rest) env))) (fun vs s₁ => ∃ σ' g P', FM.Le f g ∧ Inv σ' g P' s₁ ∧ wpAny (model prog w) A (call (.ref a) vs) Q E s₁) E s)
    (he : starEach (e :: rest) env = (false, eval e env) :: starEach rest env := by rfl) : wpAny (model prog w) A (callWith pos (.ref a) [] (backTo pos (starEach (e :: rest) env)) []) Q E s := by
  obtain ⟨_, _, _, o, ho, hd, _⟩ := x
  exact callWith_def hd (wpAny_mono h (fun vs s₁ ⟨_, g, P', l, I, hc⟩ => ⟨I.frz _ _ (l _ _ ho), hc⟩) fun _ _ x => x) he
theorem lenL {a : Addr} {vs : List Value} {Q : Value → Shared → Prop} (I : Inv σ f P s) (hl : s.heap.IsList a vs.toArray) (hfit : vs.length < 2 ^ 40) (h : ∀ s' t, Inv σ f P s' → Q (.int (vs.length : Nat) t) s') :
    wpAny (model prog w) A (call (.builtin "len") [.ref a]) Q E s := by
  refine call_len_list hl (by simp; lia) ?_
  simpa using h { s with toks := s.toks + 1 + 1 } (s.toks + 1) (I.to rfl rfl rfl)
end
end Mine
end
-- R4
noncomputable section
open PySem PySem.Calls PyProof.Rows PySem.W
set_option maxRecDepth 100000
set_option linter.unusedVariables false
namespace Mine
def IterO (l : Addr) (i : Nat) (o : Obj) : Prop := o.cls = .type "list_iterator" ∧ o.data = .fields #[.ref l, .int i 0]
def RangeO (a b c : Int) (o : Obj) : Prop := ∃ t u v, o = { cls := .type "range", dict := none, data := .fields #[.int a t, .int b u, .int c v], slots := #[] }
def RIterO (x left step : Int) (o : Obj) : Prop := o = { cls := .type "range_iterator", dict := none, data := .fields #[rawInt x, rawInt left, rawInt step], slots := #[] }
theorem sub_ri_reversed : isSubtype (.type "range_iterator") (.type "reversed") = pure false := by rw [isSubtype_type]; kernel_rfl
section
variable {prog : Program} {w : World} {A : Around} {E : Value → Shared → Prop} {s : Shared} {σ : OsState} {f : FM} {P : List Cell} {env : Env} {m : Str → Option Value}
theorem iterL {l : Addr} {items : Array Value} {Q : Value → Shared → Prop} (I : Inv σ f P s) (hl : s.heap.IsList l items) (h : ∀ it s', Inv σ f ((it, IterO l 0) :: P) s' → Q (.ref it) s') :
    wpAny (model prog w) A (pyIter (.ref l)) Q E s :=
  wpAny_pyIter_list hl (h _ _ (I.push (q := IterO l 0) rfl ⟨rfl, rfl⟩ rfl rfl rfl))
theorem nextL {it l : Addr} {i : Nat} {items : Array Value} {x : Value} {Q : Option Value → Shared → Prop} (I : Inv σ f ((it, IterO l i) :: P) s) (hl : s.heap.IsList l items) (hx : items[i]? = some x)
    (h : ∀ s', Inv σ f ((it, IterO l (i + 1)) :: P) s' → Q (some x) s') : wpAny (model prog w) A (pyNext (.ref it)) Q E s := by
  obtain ⟨o, ho, h1, h2⟩ := I.at
  refine wpAny_pyNext_list_item ⟨o, ho, h1, h2⟩ hl hx fun h' ⟨o', ho', hx'⟩ hs => h _ (I.set hs ho' hx' rfl rfl)
theorem endL {it l : Addr} {i : Nat} {items : Array Value} {Q : Option Value → Shared → Prop} (hh : A.handled = none) (I : Inv σ f ((it, IterO l i) :: P) s) (hl : s.heap.IsList l items) (hx : items[i]? = none)
    (h : ∀ s', Inv σ f P s' → Q none s') : wpAny (model prog w) A (pyNext (.ref it)) Q E s := by
  obtain ⟨o, ho, h1, h2⟩ := I.at
  have hit : it ∉ P.map (·.1) := (List.nodup_cons.mp I.nod).1
  refine wpAny_pyNext_list_end hh ⟨o, ho, h1, h2⟩ hl hx fun h' hs => h _ ?_
  have J := I.drop
  refine ⟨fun b x e => hs b x ?_ (J.frz b x e), fun p hp => ?_, J.sep, J.nod, J.bare, J.os⟩
  · rintro rfl; have := I.sep _ List.mem_cons_self; rw [this] at e; cases e
  · obtain ⟨o, h1, h2⟩ := J.own p hp
    exact ⟨o, hs _ _ (fun e => hit (e ▸ List.mem_map.mpr ⟨p, hp, rfl⟩)) h1, h2⟩
theorem mkRange {n : Int} {t : Tok} {Q : Value → Shared → Prop} (I : Inv σ f P s) (h : ∀ r s', Inv σ f ((r, RangeO 0 n 1) :: P) s' → Q (.ref r) s') : wpAny (model prog w) A (call (.type "range") [.int n t]) Q E s :=
  call_range_1 (h _ _ (I.push (q := RangeO 0 n 1) rfl ⟨_, _, _, rfl⟩ rfl rfl rfl))
theorem iterR {r : Addr} {a b c : Int} {Q : Value → Shared → Prop} (I : Inv σ f ((r, RangeO a b c) :: P) s) (hs : Builtin.Range.small a b c = true)
    (h : ∀ it s', Inv σ f ((it, RIterO a (Builtin.Range.rangeSize a b c) c) :: P) s' → Q (.ref it) s') : wpAny (model prog w) A (pyIter (.ref r)) Q E s := by
  obtain ⟨o, ho, t, u, v, rfl⟩ := I.at
  exact wpAny_pyIter_range ho hs (h _ _ (Inv.drop (Inv.swap (I.push (q := RIterO a (Builtin.Range.rangeSize a b c) c) rfl rfl rfl rfl rfl))))
theorem iterRI {it : Addr} {x left step : Int} {Q : Value → Shared → Prop} (I : Inv σ f ((it, RIterO x left step) :: P) s) (h : Q (.ref it) s) : wpAny (model prog w) A (pyIter (.ref it)) Q E s := by
  obtain ⟨o, ho, rfl⟩ := I.at
  exact wpAny_pyIter_rangeiter ho h
theorem nextR {it : Addr} {x left step : Int} {Q : Option Value → Shared → Prop} (I : Inv σ f ((it, RIterO x left step) :: P) s) (hl : 0 < left)
    (h : ∀ s' t, Inv σ f ((it, RIterO (x + step) (left - 1) step) :: P) s' → Q (some (.int x t)) s') : wpAny (model prog w) A (pyNext (.ref it)) Q E s := by
  obtain ⟨o, ho, rfl⟩ := I.at
  exact wpAny_pyNext_range_item ho hl fun h' hi hs => h _ _ (I.set (q' := RIterO (x + step) (left - 1) step) hs hi rfl rfl rfl)
theorem endR {it : Addr} {x left step : Int} {Q : Option Value → Shared → Prop} (hh : A.handled = none) (I : Inv σ f ((it, RIterO x left step) :: P) s) (hl : left ≤ 0)
    (h : ∀ s', Inv σ f P s' → Q none s') : wpAny (model prog w) A (pyNext (.ref it)) Q E s := by
  obtain ⟨o, ho, rfl⟩ := I.at
  have hit : it ∉ P.map (·.1) := (List.nodup_cons.mp I.nod).1
  refine wpAny_pyNext_range_end hh ho hl fun h' hs => h _ ?_
  have J := I.drop
  refine ⟨fun b x e => hs b x ?_ (J.frz b x e), fun p hp => ?_, J.sep, J.nod, J.bare, J.os⟩
  · rintro rfl; have := I.sep _ List.mem_cons_self; rw [this] at e; cases e
  · obtain ⟨o, h1, h2⟩ := J.own p hp
    exact ⟨o, hs _ _ (fun e => hit (e ▸ List.mem_map.mpr ⟨p, hp, rfl⟩)) h1, h2⟩
theorem rangeFields_ {M : Model} {r : Addr} {a b c : Int} {t u v : Tok} {Q : Int × Int × Int → Shared → Prop} (ho : s.heap.get? r = some { cls := .type "range", dict := none, data := .fields #[.int a t, .int b u, .int c v], slots := #[] }) (h : Q (a, b, c) s) :
    wpAny M A (Builtin.Range.rangeFields (.ref r)) Q E s := by
  unfold Builtin.Range.rangeFields
  refine wpAny_bind (wpAny_field ho rfl (x := .int a t) rfl (wpAny_bind (wpAny_of_eq (a := some a) rfl ?_)))
  refine wpAny_bind (wpAny_field ho rfl (x := .int b u) rfl (wpAny_bind (wpAny_of_eq (a := some b) rfl ?_)))
  refine wpAny_bind (wpAny_field ho rfl (x := .int c v) rfl (wpAny_bind (wpAny_of_eq (a := some c) rfl ?_)))
  exact wpAny_pure h
theorem revOwn {r : Addr} {a b c n x : Int} {t u v : Tok} {Q : Value → Shared → Prop} (ho : s.heap.get? r = some { cls := .type "range", dict := none, data := .fields #[.int a t, .int b u, .int c v], slots := #[] })
    (hsm : (Builtin.Range.rangeFitsLong a && Builtin.Range.rangeFitsLong b && Builtin.Range.rangeFitsLong c && Builtin.Range.rangeFitsLong (-c) && Builtin.Range.rangeFitsLong (a - c) && Builtin.Range.rangeFitsLong (Builtin.Range.rangeSize a b c)) = true)
    (hsz : Builtin.Range.rangeSize a b c = n) (hx : a + (n - 1) * c = x)
    (h : Q (.ref s.heap.objs.size) { s with heap := s.heap.push { cls := .type "range_iterator", data := .fields #[rawInt x, rawInt n, rawInt (-c)] } }) : wpAny (model prog w) A (call (.builtin "range.__reversed__") [.ref r]) Q E s := by
  have hT : s.TypeIs (.ref r) "range" := ⟨_, ho, rfl⟩
  refine wpAny_call_entry F.slot_range_reversed hT F.entry_range_reversed ?_ (F.args_range_reversed_1 _)
  unfold Builtin.«range.__reversed__»
  refine wpAny_bind (wpAny_of_eq (a := Value.ref r) rfl ?_)
  refine wpAny_bind (rangeFields_ ho ?_)
  dsimp only
  rw [hsm]
  simp only [hsz, hx]
  exact wpAny_bind (wpAny_newObj_type (wpAny_pure ⟨_, rfl, h⟩))
theorem revRange {r : Addr} {n : Nat} {Q : Value → Shared → Prop} (hn : n < 2 ^ 30) (I : Inv σ f ((r, RangeO 0 n 1) :: P) s) (h : ∀ it s', Inv σ f ((it, RIterO ((n : Int) - 1) n (-1)) :: P) s' → Q (.ref it) s') :
    wpAny (model prog w) A (call (.type "reversed") [.ref r]) Q E s := by
  obtain ⟨o, ho, t, u, v, rfl⟩ := I.at
  have hT : s.TypeIs (.ref r) "range" := ⟨_, ho, rfl⟩
  have hsz : Builtin.Range.rangeSize 0 n 1 = n := by
    unfold Builtin.Range.rangeSize
    rw [if_pos (by decide)]
    by_cases h0 : (0 : Int) < n
    · rw [if_pos h0]; lia
    · rw [if_neg h0]; lia
  have obj : ∃ x : Unit, True := ⟨(), trivial⟩
  let ob : Obj := { cls := .type "range_iterator", data := .fields #[rawInt ((n : Int) - 1), rawInt n, rawInt (-1)] }
  have own : ∀ {A' : Around} {Q' : Value → Shared → Prop}, Q' (.ref s.heap.objs.size) { s with heap := s.heap.push ob } → wpAny (model prog w) A' (call (.builtin "range.__reversed__") [.ref r]) Q' E s := by
    intro A' Q' hq
    refine revOwn ho (n := n) ?_ hsz (by lia) hq
    have fit : ∀ i : Int, -(2 ^ 62) ≤ i → i < 2 ^ 62 → Builtin.Range.rangeFitsLong i = true := fun i h1 h2 => by
      simp only [Builtin.Range.rangeFitsLong, Bool.and_eq_true, decide_eq_true_eq]
      lia
    rw [fit 0 (by lia) (by lia), fit n (by lia) (by lia), fit 1 (by lia) (by lia), fit (-1) (by lia) (by lia), fit (0 - 1) (by lia) (by lia), hsz, fit n (by lia) (by lia)]
    rfl
  have code : ∀ {A' : Around} {Q₁ : Value → Shared → Prop}, Q₁ (.ref s.heap.objs.size) { s with heap := s.heap.push ob } → codeAny (model prog w) A' (.call (.builtin "reversed.__new__") ⟨[.type "reversed", .ref r], []⟩) (wants Q₁ E) s := by
    intro A' Q₁ hq
    refine codeAny_of_tree ?_
    show wpAny _ A'.in1 (do checkBuiltinCall "reversed.__new__" ⟨[.type "reversed", .ref r], []⟩; again (.builtin "reversed.__new__" ⟨[.type "reversed", .ref r], []⟩)) _ _ s
    refine wpAny_bind (wpAny_of_eq (F.newCall_reversed_1 _) (wpAny_pure ⟨plainId_quiet F.plain_reversed_new _, codeAny_builtin F.entry_reversed_new ?_⟩))
    rw [Around.under_plainId F.plain_reversed_new _]
    unfold Builtin.«reversed.__new__»
    refine wpAny_bind (wpAny_of_eq (newClass_reversed _) ?_)
    try dsimp only
    refine wpAny_bind (wpAny_of_eq (a := ()) (by first | rfl | kernel_rfl) ?_)
    refine wpAny_bind (wpAny_of_eq (a := ()) (by first | rfl | kernel_rfl) ?_)
    try dsimp only
    refine wpAny_bind (wpAny_specialOf hT F.slot_range_reversed.lookup ?_)
    try dsimp only
    refine wpAny_bind (wpAny_of_eq (F.slot_range_reversed.bind _) ?_)
    try dsimp only
    rw [if_neg (show ¬ ((Value.builtin "range.__reversed__" == Value.none) = true) from Bool.false_ne_true)]
    refine wpAny_bind (wpAny_rule ?_)
    refine wpAny_bind (m := runValue (.call (.builtin "range.__reversed__") ⟨[.ref r], []⟩)) (show wpAny _ _ (call (.builtin "range.__reversed__") [.ref r]) _ _ _ from own ?_)
    exact wpAny_pure hq
  refine callType_other (U := "range_iterator") (Q₁ := fun obj s₁ => obj = .ref s.heap.objs.size ∧ s₁ = { s with heap := s.heap.push ob }) (by decide +kernel) F.create_reversed ⟨_, _, F.mro_reversed⟩ F.made_reversed sub_ri_reversed
    (F.typeCall_reversed_1 _) (code ⟨rfl, rfl⟩) ?_
  rintro obj s₁ ⟨rfl, rfl⟩
  exact ⟨⟨_, Heap.get?_push_size _ rfl, rfl⟩, h _ _ (Inv.drop (Inv.swap (I.push (q := RIterO ((n : Int) - 1) n (-1)) rfl rfl rfl rfl rfl)))⟩
end
end Mine
end
-- R5
noncomputable section
open PySem PySem.Calls PyProof.Rows PySem.W
set_option maxRecDepth 100000
set_option linter.unusedVariables false
namespace Mine
section
variable {prog : Program} {w : World} {A : Around} {E : Value → Shared → Prop} {s : Shared} {σ : OsState} {f : FM} {P : List Cell} {env : Env} {m : Str → Option Value}
/-- a method of a built-in type, one argument -/
theorem meth1 {o e : Expr} {name : Str} {T id : String} {apos pos : Pos} {Q : Value → Shared → Prop} (pa : PlainAttrs T) (slot : Slot T name id) (ty : typeOf (.builtin id) = pure (.type "method_descriptor"))
    (h : wpAny (model prog w) A (eval o env) (fun ov s₁ => s₁.TypeIs ov T ∧ (∀ a, ov = .ref a → ∃ ob, s₁.heap.get? a = some ob ∧ ob.dict = none) ∧
      wpAny (model prog w) A (eval e env) (fun v s₂ => wpAny (model prog w) A (call (.builtin id) [ov, v]) Q E s₂) E s₁) E s)
    (hbase : attributeBase o name env (eval o env) = eval o env := by rfl) (hs : starEach [e] env = [(false, eval e env)] := by rfl) (hline : (apos.endLine == pos.line) = true := by rfl) :
    wpAny (model prog w) A (eval (.Call (.Attribute o name apos) [e] [] pos) env) Q E s :=
  Call_method1 hbase hs hline (wpAny_mono h (fun ov s₁ ⟨h1, h2, h3⟩ => ⟨T, id, pa, slot, ty, h1, h2, callWith_builtin rfl (evalArgs_plain (spliced_cons (wpAny_mono h3 (fun v s₂ h₂ => spliced_nil h₂) fun _ _ e => e)))⟩) fun _ _ e => e)
theorem meth0 {o : Expr} {name : Str} {T id : String} {apos pos : Pos} {Q : Value → Shared → Prop} (pa : PlainAttrs T) (slot : Slot T name id) (ty : typeOf (.builtin id) = pure (.type "method_descriptor"))
    (h : wpAny (model prog w) A (eval o env) (fun ov s₁ => s₁.TypeIs ov T ∧ (∀ a, ov = .ref a → ∃ ob, s₁.heap.get? a = some ob ∧ ob.dict = none) ∧ wpAny (model prog w) A (call (.builtin id) [ov]) Q E s₁) E s)
    (hbase : attributeBase o name env (eval o env) = eval o env := by rfl) (hline : (apos.endLine == pos.line) = true := by rfl) :
    wpAny (model prog w) A (eval (.Call (.Attribute o name apos) [] [] pos) env) Q E s :=
  Call_method0 hbase hline (wpAny_mono h (fun ov s₁ ⟨h1, h2, h3⟩ => ⟨T, id, pa, slot, ty, h1, h2, callWith_method0 (env := env) h3⟩) fun _ _ e => e)
theorem meth2 {o e e' : Expr} {name : Str} {T id : String} {apos pos : Pos} {Q : Value → Shared → Prop} (pa : PlainAttrs T) (slot : Slot T name id) (ty : typeOf (.builtin id) = pure (.type "method_descriptor"))
    (h : wpAny (model prog w) A (eval o env) (fun ov s₁ => s₁.TypeIs ov T ∧ (∀ a, ov = .ref a → ∃ ob, s₁.heap.get? a = some ob ∧ ob.dict = none) ∧
      wpAny (model prog w) A (eval e env) (fun v s₂ => wpAny (model prog w) A (eval e' env) (fun v' s₃ => wpAny (model prog w) A (call (.builtin id) [ov, v, v']) Q E s₃) E s₂) E s₁) E s)
    (hbase : attributeBase o name env (eval o env) = eval o env := by rfl) (hs : starEach [e, e'] env = [(false, eval e env), (false, eval e' env)] := by rfl) (hline : (apos.endLine == pos.line) = true := by rfl) :
    wpAny (model prog w) A (eval (.Call (.Attribute o name apos) [e, e'] [] pos) env) Q E s :=
  Call_method2 hbase hs hline (wpAny_mono h (fun ov s₁ ⟨h1, h2, h3⟩ => ⟨T, id, pa, slot, ty, h1, h2, callWith_builtin rfl (evalArgs_plain (spliced_cons (wpAny_mono h3 (fun v s₂ h₂ => spliced_cons (wpAny_mono h₂ (fun v' s₃ h₃ => spliced_nil h₃) fun _ _ e => e)) fun _ _ e => e)))⟩) fun _ _ e => e)
theorem strNo {x : Str} {t : Tok} {h : Heap} : ∀ a, Value.str x t = .ref a → ∃ ob, h.get? a = some ob ∧ ob.dict = none := fun _ e => nomatch e
theorem ListO.plain {a : Addr} {vs : List Value} {h : Heap} {o : Obj} (ho : h.get? a = some o) (x : ListO vs o) : ∀ b, Value.ref a = .ref b → ∃ ob, h.get? b = some ob ∧ ob.dict = none := by
  intro b e; cases e; exact ⟨o, ho, x.dictNone⟩
theorem appendL {a : Addr} {vs : List Value} {x : Value} {Q : Value → Shared → Prop} (I : Inv σ f ((a, ListO vs) :: P) s) (hsz : vs.length < 2 ^ 20) (h : ∀ s', Inv σ f ((a, ListO (vs ++ [x])) :: P) s' → Q .none s') :
    wpAny (model prog w) A (call (.builtin "list.append") [.ref a, x]) Q E s := by
  obtain ⟨o, ho, hx⟩ := I.at
  obtain ⟨n, hd⟩ := hx.data
  refine wpAny_call_entry F.slot_list_append (hx.is ho).typeIs F.entry_list_append ?_ (F.args_list_append_2 _ _)
  show wpAny _ _ (updateSeq a (·.push x) >>= fun _ => ret .none) _ _ s
  have hx' : ListO (vs ++ [x]) (Obj.mapSeq (·.push x) o) := by
    have := mapSeq_list (g := (·.push x)) hx
    simpa using this
  refine wpAny_bind (wpAny_updateSeq ho hd (wpAny_pure ⟨.none, rfl, h _ (I.set (Heap.SameBut.update ..) (Heap.get?_update_self _ ho hx'.free) hx' rfl rfl)⟩) (by rw [sizeLine_eq]; simp; lia) (by rw [sizeLine_eq]; simp; lia))
theorem popL {a : Addr} {vs : List Value} {x : Value} {Q : Value → Shared → Prop} (I : Inv σ f ((a, ListO (vs ++ [x])) :: P) s) (hsz : vs.length < 2 ^ 20) (h : ∀ s', Inv σ f ((a, ListO vs) :: P) s' → Q x s') :
    wpAny (model prog w) A (call (.builtin "list.pop") [.ref a]) Q E s := by
  obtain ⟨o, ho, hx⟩ := I.at
  obtain ⟨n, hd⟩ := hx.data
  refine wpAny_call_entry F.slot_list_pop (hx.is ho).typeIs F.entry_list_pop ?_ (F.args_list_pop_1 _)
  unfold Builtin.«list.pop»
  refine wpAny_bind (wpAny_of_eq (a := (Value.ref a, [])) rfl ?_)
  refine wpAny_bind (wpAny_pure ?_)
  show wpAny _ _ (if (!Builtin.List.listFitsIndex (-1)) = true then _ else _) _ _ s
  rw [if_neg (by decide)]
  refine wpAny_bind (listItems_ (hx.is ho) ?_)
  show wpAny _ _ (if ((vs ++ [x]).toArray.isEmpty) = true then _ else _) _ _ s
  rw [if_neg (by simp)]
  have e1 : seqIndex? (-1) (vs ++ [x]).toArray.size = some vs.length := by
    unfold seqIndex?
    simp
    lia
  have e2 : (vs ++ [x]).toArray[vs.length]? = some x := by simp
  show wpAny _ _ (match (seqIndex? (-1) (vs ++ [x]).toArray.size).bind fun k => Option.map (fun x => (k, x)) (vs ++ [x]).toArray[k]? with | some (k, x) => _ | none => _) _ _ s
  rw [e1]
  show wpAny _ _ (match Option.map (fun x => (vs.length, x)) (vs ++ [x]).toArray[vs.length]? with | some (k, x) => _ | none => _) _ _ s
  rw [e2]
  have er : (vs ++ [x]).eraseIdx vs.length = vs := by
    rw [List.eraseIdx_append_of_length_le (Nat.le_refl _)]; simp
  have hx' : ListO vs (Obj.mapSeq (·.eraseIdxIfInBounds vs.length) o) := by
    have := mapSeq_list (g := (·.eraseIdxIfInBounds vs.length)) hx
    simpa [er] using this
  show wpAny _ _ (updateSeq a (·.eraseIdxIfInBounds vs.length) >>= fun _ => ret x) _ _ s
  refine wpAny_bind (wpAny_updateSeq ho hd (wpAny_pure ⟨x, rfl, h _ (I.set (Heap.SameBut.update ..) (Heap.get?_update_self _ ho hx'.free) hx' rfl rfl)⟩) (by rw [sizeLine_eq]; simp; lia) (by rw [sizeLine_eq]; simp [er]; lia))
theorem opDiv {a b : Int} {t u : Tok} {Q : Value → Shared → Prop} (I : Inv σ f P s) (hb : (b == 0) = false) (hs : b.natAbs < 1073741824) (h : ∀ s' t, Inv σ f P s' → Q (.int (a.fdiv b) t) s') : wpAny (model prog w) A (binaryOp .FloorDiv (.int a t) (.int b u)) Q E s :=
  AutoIntOps.floordiv_1 (by rw [hb]; decide) (by rw [PyProof.noPylong_small hs]; decide) (h _ _ (I.to rfl rfl rfl))
end
end Mine
end
-- D2
noncomputable section
open PySem PySem.Calls PyProof.Rows
set_option maxRecDepth 100000
set_option linter.unusedVariables false
namespace Mine
def pickF {α : Type} (lt : α → α → Bool) (xs : List α) (c : Nat) : Nat := match xs[c]?, xs[c + 1]? with
  | some l, some r => if lt l r then c else c + 1
  | _, _ => c
theorem pickF_le {α : Type} (lt : α → α → Bool) (xs : List α) (c : Nat) : c ≤ pickF lt xs c := by
  unfold pickF; split
  · split <;> omega
  · omega
theorem pickF_lt {α : Type} (lt : α → α → Bool) (xs : List α) (c : Nat) (h : c < xs.length) : pickF lt xs c < xs.length := by
  unfold pickF; split
  · rename_i h2
    have := (List.getElem?_eq_some_iff.mp h2).1
    split <;> omega
  · exact h
/-- the way down of _siftup: the list, and where the hole ends -/
def upLoop {α : Type} (lt : α → α → Bool) (xs : List α) (pos : Nat) : List α × Nat :=
  if h : 2 * pos + 1 < xs.length then
    match xs[pickF lt xs (2 * pos + 1)]? with
    | some y => upLoop lt (xs.set pos y) (pickF lt xs (2 * pos + 1))
    | none => (xs, pos)
  else (xs, pos)
termination_by xs.length - pos
decreasing_by
  have := pickF_le lt xs (2 * pos + 1)
  simp only [List.length_set]; omega
def siftupF {α : Type} (lt : α → α → Bool) (new : α) (xs : List α) (pos : Nat) : List α :=
  siftdownF lt new pos ((upLoop lt xs pos).1.set (upLoop lt xs pos).2 new) (upLoop lt xs pos).2
section
variable {prog : Program} {w : World} {A : Around} {E : Value → Shared → Prop} {s : Shared} {σ : OsState} {f : FM} {P : List Cell} {κ : Type} {mg mb : Str → Option Value}
theorem siftup_ct {lt : κ → κ → Bool} {h : Addr} {zs : List (Value × κ)} {pos : Nat} {u : Tok} {new : Value × κ} {Q : Value → Shared → Prop}
    (R : Room A 2 40) (B : Base mg mb f) (I : Inv σ f ((h, ListO (zs.map Prod.fst)) :: P) s)
    (hlt : ∀ x ∈ zs, ∀ y ∈ zs, CmpLt f x.1 y.1 (lt x.2 y.2)) (hpos : zs[pos]? = some new) (hsz : zs.length < 2 ^ 20)
    (hQ : ∀ s', Inv σ f ((h, ListO ((siftupF (fun x y => lt x.2 y.2) new zs pos).map Prod.fst)) :: P) s' → Q .none s') :
    wpAny (model prog w) A (call (.ref 128) [.ref h, .int pos u]) Q E s := by
  obtain ⟨pm, cd, doc, fn⟩ := B.f20
  have hp : pos < zs.length := (List.getElem?_eq_some_iff.mp hpos).1
  have hnew : new ∈ zs := List.mem_of_getElem? hpos
  refine enter (d := 1) (u := 37) (binds := [(Str.ofString "heap", .ref h), (Str.ofString "pos", .int pos u)]) R I B.lim fn rfl (locs rfl) ?_
  intro L s I R
  -- endpos = len(heap)
  refine wpAny_execs_cons (wpAny_Assign_Name (wpAny_Call_NameR (bi I B.G B.nm.len0 B.B B.nm.len (callWith_builtin1 (wpAny_items_cons (ldN I rfl (wpAny_items_nil ?_)))))))
  refine lenL I I.swap.list (by simp; omega) fun s t I => stN' I fun s I => ?_
  -- startpos = pos; newitem = heap[pos]
  refine wpAny_execs_cons (wpAny_Assign_Name (ldN I rfl (stN' I fun s I => ?_)))
  refine wpAny_execs_cons (wpAny_Assign_Name (Subscript_ (ldN I rfl (ldN I rfl ?_))))
  refine heapGet I.swap.list hsz hpos ?_
  refine stN' I fun s I => ?_
  -- childpos = 2 * pos + 1
  refine asgN (fun _ _ nx => (wpAny_BinOp (wpAny_BinOp (cInt I fun s t I => ldN I rfl (opMul I (mulOk2 hp hsz) fun s t I => cInt I fun s t I => opAdd I fun s t I => nx _ _ <| stN' I fun s I => ?_)))))
  have e1 := dbl pos
  rw [e1] at I
  simp only [List.length_map] at I
  -- while
  refine wpAny_execs_cons (wpAny_While ?_)
  refine codeAny_whileLoop (fun n s => ∃ xs p m, n = xs.length - p ∧ Inv σ f ((L, FrameO m) :: (h, ListO (xs.map Prod.fst)) :: P) s ∧ m (Str.ofString "heap") = some (.ref h) ∧ (∃ u, m (Str.ofString "startpos") = some (.int (pos : Nat) u))
    ∧ (∃ u, m (Str.ofString "pos") = some (.int (p : Nat) u)) ∧ m (Str.ofString "newitem") = some new.1 ∧ (∃ u, m (Str.ofString "childpos") = some (.int (2 * p + 1 : Nat) u)) ∧ (∃ u, m (Str.ofString "endpos") = some (.int (zs.length : Nat) u)) ∧
      xs.length = zs.length ∧ p < xs.length ∧ (∀ x ∈ xs, x ∈ zs) ∧ upLoop (fun x y => lt x.2 y.2) xs p = upLoop (fun x y => lt x.2 y.2) zs pos) ?_ (zs.length - pos) ?_
  case refine_2 => exact ⟨zs, pos, _, rfl, I, rfl, ⟨_, rfl⟩, ⟨_, rfl⟩, rfl, ⟨_, rfl⟩, ⟨_, rfl⟩, rfl, hp, fun _ h => h, rfl⟩
  rintro n s ⟨xs, p, m, rfl, I, h1, ⟨u2, h2⟩, ⟨u3, h3⟩, h4, ⟨u5, h5⟩, ⟨u6, h6⟩, h7, h8, h9, h10⟩
  have hs' : xs.length < 2 ^ 20 := h7 ▸ hsz
  refine wpAny_isTrue_Compare1 (ldN I h5 (ldN I h6 (PySem.P.lt_int (wpAny_truthy_bool ?_))))
  by_cases hc : 2 * p + 1 < zs.length
  · rw [if_pos (decLt hc)]
    refine absK fun K E' hK => ?_
    refine asgN (fun _ _ nx => (wpAny_BinOp (ldN I h5 (cInt I fun s t I => opAdd I fun s t I => nx _ _ <| stN' I fun s I => ?_))))
    have e2 := dbl2 p
    rw [e2] at I
    -- what comes behind the if, at the child picked
    have rest : ∀ (c : Nat) (hcl : c < xs.length) (hpick : pickF (fun x y => lt x.2 y.2) xs (2 * p + 1) = c) (m : Str → Option Value) (s : Shared), Inv σ f ((L, FrameO m) :: (h, ListO (xs.map Prod.fst)) :: P) s → m (Str.ofString "heap") = some (.ref h) → (∃ u, m (Str.ofString "startpos") = some (.int (pos : Nat) u)) →
        (∃ u, m (Str.ofString "pos") = some (.int (p : Nat) u)) → m (Str.ofString "newitem") = some new.1 → (∃ u, m (Str.ofString "childpos") = some (.int (c : Nat) u)) → (∃ u, m (Str.ofString "endpos") = some (.int (zs.length : Nat) u)) →
        wpAny (model prog w) (A.deeper (envOf (defAt 20).name (defAt 20).scope L 128 cd)) (execs ((match (defAt 20).body.drop 4 with | .While _ b _ _ :: _ => b | _ => []).drop 2) (envOf (defAt 20).name (defAt 20).scope L 128 cd))
          K E' s := by
      intro c hcl hpick m s I h1 h2 ⟨u3, h3⟩ h4 ⟨u5, h5⟩ h6
      refine wpAny_execs_cons (wpAny_Assign_Subscript (Subscript_ (ldN I h1 (ldN I h5 (heapGet I.swap.list hs' (List.getElem?_eq_getElem hcl) (ldN I h1 (ldN I h3 ?_)))))))
      refine heapSet I.swap hs' h8 fun s I => ?_
      have I := I.swap
      refine wpAny_execs_cons (wpAny_Assign_Name (ldN I h5 (stN' I fun s I => ?_)))
      refine asgN (fun _ _ nx => (wpAny_BinOp (wpAny_BinOp (cInt I fun s t I => ldN I rfl (opMul I (mulOk2 hcl hs') fun s t I => cInt I fun s t I => opAdd I fun s t I => nx _ _ <| stN' I fun s I => ?_)))))
      have e1 := dbl c
      rw [e1] at I
      have hcp : 2 * p + 1 ≤ c := hpick ▸ pickF_le _ _ _
      refine wpAny_execs_nil <| hK _ _ ⟨xs.length - c, by omega, xs.set p xs[c], c, _, by simp, I, h1, h2, ⟨_, rfl⟩, h4, ⟨_, rfl⟩, h6, List.length_set.trans h7, Nat.lt_of_lt_of_eq hcl List.length_set.symm, memSet h9 (h9 _ (List.getElem_mem hcl)), ?_⟩
      · rw [← h10]
        conv => rhs; rw [upLoop, dif_pos (Nat.lt_of_lt_of_eq hc h7.symm), hpick, List.getElem?_eq_getElem hcl]
    refine wpAny_execs_cons (wpAny_If (wpAny_isTrue_BoolOp (wpAny_allTrue_And_cons (wpAny_isTrue_Compare1 (ldN I rfl (ldN I h6 (PySem.P.lt_int (wpAny_truthy_bool ?_))))))))
    have hl : 2 * p + 1 < xs.length := Nat.lt_of_lt_of_eq hc h7.symm
    by_cases hr : 2 * p + 2 < zs.length
    · rw [if_pos (decLt hr)]
      have hr' : 2 * p + 1 + 1 < xs.length := Nat.lt_of_lt_of_eq hr h7.symm
      have e3 : (2 * p + 2 : Nat) = 2 * p + 1 + 1 := rfl
      refine wpAny_allTrue_And_cons (wpAny_isTrue_Not (wpAny_isTrue_Compare1 (Subscript_ (ldN I h1 (ldN I h5 (heapGet I.swap.list hs' (List.getElem?_eq_getElem hl)
        (Subscript_ (ldN I h1 (ldN I rfl (heapGet I.swap.list hs' (List.getElem?_eq_getElem hr') ?_))))))))))
      refine hlt _ (h9 _ (List.getElem_mem hl)) _ (h9 _ (List.getElem_mem hr')) prog w _ _ _ σ f _ _ (FM.Le.refl f) R.le I fun s I => wpAny_truthy_bool ?_
      by_cases hb : lt xs[2 * p + 1].2 xs[2 * p + 1 + 1].2 = true
      · simp only [hb, Bool.not_true, Bool.false_eq_true, if_false]
        refine wpAny_execs_nil (rest (2 * p + 1) hl ?_ _ _ I h1 ⟨_, h2⟩ ⟨_, h3⟩ h4 ⟨_, h5⟩ ⟨_, h6⟩)
        · simp only [pickF, List.getElem?_eq_getElem hl, List.getElem?_eq_getElem hr', hb, if_true]
      · simp only [hb, Bool.not_false, if_true]
        refine wpAny_allTrue_And_nil ?_
        simp only [if_true]
        refine wpAny_execs_cons (wpAny_Assign_Name (ldN I rfl (stN' I fun s I => wpAny_execs_nil ?_)))
        refine rest (2 * p + 2) hr' ?_ _ _ I h1 ⟨_, h2⟩ ⟨_, h3⟩ h4 ⟨_, rfl⟩ ⟨_, h6⟩
        · simp only [pickF, List.getElem?_eq_getElem hl, List.getElem?_eq_getElem hr', hb, if_false]
          rfl
    · rw [if_neg (decLe hr)]
      simp only [Bool.false_eq_true, if_false]
      refine wpAny_execs_nil (rest (2 * p + 1) hl ?_ _ _ I h1 ⟨_, h2⟩ ⟨_, h3⟩ h4 ⟨_, h5⟩ ⟨_, h6⟩)
      · have : xs[2 * p + 1 + 1]? = none := by simp; omega
        simp only [pickF, this, List.getElem?_eq_getElem hl]
  · rw [if_neg (decLe hc)]
    refine wpAny_execs_nil ?_
    have hup : upLoop (fun x y => lt x.2 y.2) zs pos = (xs, p) := by rw [← h10, upLoop, dif_neg (h7.symm ▸ hc)]
    refine wpAny_execs_cons (wpAny_Assign_Subscript (ldN I h4 (ldN I h1 (ldN I h3 ?_))))
    refine heapSet I.swap hs' h8 fun s I => ?_
    have I := I.swap
    refine wpAny_execs_cons (wpAny_Expr (wpAny_Call_NameR (gl I B.G B.nm.siftdown (callF B.f19 (wpAny_items_cons (ldN I h1 (wpAny_items_cons (ldN I h2 (wpAny_items_cons (ldN I h3 (wpAny_items_nil ⟨_, _, _, FM.Le.refl f, I, ?_⟩)))))))))))
    refine siftdown_ct (lt := lt) (zs := xs.set p new) (pos := p) (new := new) R.le B.lim B.f19 I.swap ?_ (List.getElem?_set_self h8) (by rw [List.length_set]; exact hs') fun s I => ?_
    · exact fun x hx y hy => hlt x (memSet h9 hnew x hx) y (memSet h9 hnew y hy)
    · refine wpAny_execs_nil (hQ _ ?_)
      have e3 : siftupF (fun x y => lt x.2 y.2) new zs pos = siftdownF (fun x y => lt x.2 y.2) new pos (xs.set p new) p := by unfold siftupF; rw [hup]
      rw [e3]
      exact I.swap.drop
end
end Mine
end
-- R6
noncomputable section
open PySem PySem.Calls PyProof.Rows PySem.W
set_option maxRecDepth 100000
set_option linter.unusedVariables false
namespace Mine
def TupO (vs : List Value) (o : Obj) : Prop := ∃ n, o = { cls := .type "tuple", dict := none, data := .seq vs.toArray n, slots := #[] }
theorem TupO.is {h : Heap} {a : Addr} {vs : List Value} {o : Obj} (ho : h.get? a = some o) (x : TupO vs o) : IsTup h a vs.toArray := let ⟨n, e⟩ := x; ⟨o, ho, by rw [e], n, by rw [e]⟩
theorem Inv.tup {σ f P s a vs} (I : Inv σ f ((a, TupO vs) :: P) s) : IsTup s.heap a vs.toArray := let ⟨_, ho, x⟩ := I.at; x.is ho
section
variable {prog : Program} {w : World} {A : Around} {E : Value → Shared → Prop} {s : Shared} {σ : OsState} {f : FM} {P : List Cell} {env : Env} {m : Str → Option Value}
theorem mkTup {elts : List Expr} {k : Nat} {pos : Pos} {Q : Value → Shared → Prop}
    (h : wpAny (model prog w) A (spliced (backTo pos (starEach elts env))) (fun vs s₁ => vs.length ≤ 2 ^ 21 ∧ ∃ σ f P, Inv σ f P s₁ ∧ ∀ t s', Inv σ f ((t, TupO vs) :: P) s' → Q (.ref t) s') E s) :
    wpAny (model prog w) A (eval (.Tuple elts k pos) env) Q E s :=
  wpAny_Tuple (wpAny_mono h (fun vs s₁ ⟨hz, σ, f, P, I, hq⟩ => ⟨by rw [sizeLine_eq]; lia, hq _ _ (I.push (q := TupO vs) rfl ⟨0, rfl⟩ rfl rfl rfl)⟩) fun _ _ e => e)
theorem mkList {elts : List Expr} {pos : Pos} {Q : Value → Shared → Prop}
    (h : wpAny (model prog w) A (spliced (backTo pos (starEach elts env))) (fun vs s₁ => vs.length ≤ 2 ^ 21 ∧ ∃ σ f P, Inv σ f P s₁ ∧ ∀ t s', Inv σ f ((t, ListO vs) :: P) s' → Q (.ref t) s') E s) :
    wpAny (model prog w) A (eval (.List elts pos) env) Q E s :=
  wpAny_List (wpAny_mono h (fun vs s₁ ⟨hz, σ, f, P, I, hq⟩ => ⟨by rw [sizeLine_eq]; lia, hq _ _ (I.push (q := ListO vs) rfl ⟨0, rfl⟩ rfl rfl rfl)⟩) fun _ _ e => e)
theorem asgTup {elts : List Expr} {x1 : Nat} {pos : Pos} {t : Addr} {items : Array Value} {Q : Unit → Shared → Prop} (hh : A.handled = none) (I : Inv σ f P s) (ht : IsTup s.heap t items)
    (h : ∀ s', Inv σ f P s' → wpAny (model prog w) A (assignInOrder ((assignEach elts env).map (·.2)) items.toList) Q E s')
    (hn : (assignEach elts env).length = items.size := by rfl) (hstar : (assignEach elts env).findIdx? (·.1) = none := by rfl) :
    wpAny (model prog w) A (assign (.Tuple elts x1 pos) env (.ref t)) Q E s :=
  assign_Tuple_tuple hh ht hn hstar fun h' he => h _ (I.ext he (Nat.le_refl _) rfl rfl)
theorem asgSub {o i : Expr} {pos : Pos} {v : Value} {Q : Unit → Shared → Prop} (h : wpAny (model prog w) A (eval o env) (fun ov s₁ => wpAny (model prog w) A (eval i env) (fun iv s₂ => wpAny (model prog w) A (setItem ov iv v) Q E s₂) E s₁) E s) :
    wpAny (model prog w) A (assign (.Subscript o i pos) env v) Q E s := by
  rw [PySem.assign_Subscript]
  refine wpAny_bind (wpAny_holding (wpAny_mono h (fun ov s₁ h₁ => wpAny_bind (wpAny_holding (wpAny_mono h₁ (fun iv s₂ h₂ => wpAny_bind (wpAny_standAt (wpAny_bind (wpAny_holding (wpAny_mono h₂ (fun _ s₃ h₃ => ?_) fun _ _ e => e))))) fun _ _ e => e))) fun _ _ e => e))
  intro Γ p hΓ
  rw [Sem.wp_release]
  exact h₃
theorem truL {a : Addr} {vs : List Value} {Q : Bool → Shared → Prop} (I : Inv σ f P s) (hl : s.heap.IsList a vs.toArray) (hsz : vs.length < 2 ^ 30) (h : ∀ s', Inv σ f P s' → Q (!vs.isEmpty) s') : wpAny (model prog w) A (truthy (.ref a)) Q E s := by
  refine wpAny_truthy_list hl (by simp; lia) ?_
  have e : vs.toArray.isEmpty = vs.isEmpty := by simp
  rw [e]
  exact h _ (I.to rfl rfl rfl)
end
theorem siftdownF_len {α : Type} (lt : α → α → Bool) (new : α) (start : Nat) : ∀ (pos : Nat) (xs : List α), (siftdownF lt new start xs pos).length = xs.length := by
  intro pos
  induction pos using Nat.strongRecOn with
  | ind pos ih =>
    intro xs
    rw [siftdownF]
    split
    · split
      · split
        · rw [ih _ (by lia)]; simp
        · simp
      · simp
    · simp
theorem siftdownF_mem {α : Type} (lt : α → α → Bool) (new : α) (start : Nat) : ∀ (pos : Nat) (xs : List α) (y : α), y ∈ siftdownF lt new start xs pos → y = new ∨ y ∈ xs := by
  intro pos
  induction pos using Nat.strongRecOn with
  | ind pos ih =>
    intro xs y hy
    rw [siftdownF] at hy
    split at hy
    · split at hy
      · rename_i p hp
        split at hy
        · rcases ih _ (by lia) _ _ hy with h | h
          · exact .inl h
          · rcases List.mem_or_eq_of_mem_set h with h | rfl
            · exact .inr h
            · exact .inr (List.mem_of_getElem? hp)
        · rcases List.mem_or_eq_of_mem_set hy with h | rfl
          · exact .inr h
          · exact .inl rfl
      · rcases List.mem_or_eq_of_mem_set hy with h | rfl
        · exact .inr h
        · exact .inl rfl
    · rcases List.mem_or_eq_of_mem_set hy with h | rfl
      · exact .inr h
      · exact .inl rfl
theorem upLoop_facts {α : Type} (lt : α → α → Bool) : ∀ (n : Nat) (xs : List α) (pos : Nat), xs.length - pos ≤ n → (upLoop lt xs pos).1.length = xs.length ∧ (∀ y ∈ (upLoop lt xs pos).1, y ∈ xs) ∧ (pos < xs.length → (upLoop lt xs pos).2 < xs.length) ∧ pos ≤ (upLoop lt xs pos).2 := by
  intro n
  induction n with
  | zero =>
    intro xs pos h
    rw [upLoop, dif_neg (by lia)]
    exact ⟨rfl, fun y hy => hy, fun h => h, Nat.le_refl _⟩
  | succ n ih =>
    intro xs pos h
    rw [upLoop]
    split
    · rename_i hlt
      have hp := pickF_lt lt xs _ hlt
      have hq := pickF_le lt xs (2 * pos + 1)
      rw [List.getElem?_eq_getElem hp]
      obtain ⟨h1, h2, h3, h4⟩ := ih (xs.set pos xs[pickF lt xs (2 * pos + 1)]) (pickF lt xs (2 * pos + 1)) (by simp; lia)
      simp only [List.length_set] at h1 h3
      refine ⟨h1, fun y hy => ?_, fun _ => h3 hp, Nat.le_trans (by lia : pos ≤ pickF lt xs (2 * pos + 1)) h4⟩
      rcases List.mem_or_eq_of_mem_set (h2 y hy) with h | rfl
      · exact h
      · exact List.getElem_mem _
    · exact ⟨rfl, fun y hy => hy, fun h => h, Nat.le_refl _⟩
theorem siftupF_len {α : Type} (lt : α → α → Bool) (new : α) (xs : List α) (pos : Nat) : (siftupF lt new xs pos).length = xs.length := by
  unfold siftupF
  rw [siftdownF_len, List.length_set, (upLoop_facts lt _ xs pos (Nat.le_refl _)).1]
theorem siftupF_mem {α : Type} (lt : α → α → Bool) (new : α) (xs : List α) (pos : Nat) (y : α) (h : y ∈ siftupF lt new xs pos) : y = new ∨ y ∈ xs := by
  unfold siftupF at h
  rcases siftdownF_mem _ _ _ _ _ _ h with h | h
  · exact .inl h
  · rcases List.mem_or_eq_of_mem_set h with h | rfl
    · exact .inr ((upLoop_facts lt _ xs pos (Nat.le_refl _)).2.1 _ h)
    · exact .inl rfl
def heapifyF {α : Type} (lt : α → α → Bool) : Nat → List α → List α
  | 0, xs => xs
  | k + 1, xs => match xs[k]? with
    | some y => heapifyF lt k (siftupF lt y xs k)
    | none => heapifyF lt k xs
end Mine
end
-- R7
noncomputable section
open PySem PySem.Calls PyProof.Rows PySem.W
set_option maxRecDepth 100000
set_option linter.unusedVariables false
namespace Mine
/-- the head cell was changed, and is no one's any more -/
theorem Inv.gone {σ f P a q} {s s' : Shared} (I : Inv σ f ((a, q) :: P) s) (hs : Heap.ExtBut a s.heap s'.heap) (hg : s'.gens = s.gens) (ho : s'.os = s.os) : Inv σ f P s' := by
  have hnd := List.nodup_cons.mp I.nod
  have hsep : f a = none := I.sep (a, q) List.mem_cons_self
  have J := I.drop
  refine ⟨fun b o e => hs b o ?_ (J.frz b o e), fun p hp => ?_, J.sep, J.nod, hg ▸ J.bare, ho.trans J.os⟩
  · intro hb; rw [hb, hsep] at e; cases e
  · obtain ⟨o, h1, h2⟩ := J.own p hp
    exact ⟨o, hs p.1 o (fun hb => hnd.1 (List.mem_map.mpr ⟨p, hp, hb⟩)) h1, h2⟩
/-- an iterator that hands on n items -/
structure Proto (f : FM) (it : Addr) (n : Nat) (C : Nat → Obj → Prop) (V : Nat → Value → Prop) : Prop where
  next : ∀ {prog : Program} {w : World} {A : Around} {E : Value → Shared → Prop} {s : Shared} {σ : OsState} {g : FM} {P : List Cell} {Q : Option Value → Shared → Prop} (i : Nat), FM.Le f g → A.handled = none → i < n →
    Inv σ g ((it, C i) :: P) s → (∀ s' v, V i v → Inv σ g ((it, C (i + 1)) :: P) s' → Q (some v) s') → wpAny (model prog w) A (pyNext (.ref it)) Q E s
  stop : ∀ {prog : Program} {w : World} {A : Around} {E : Value → Shared → Prop} {s : Shared} {σ : OsState} {g : FM} {P : List Cell} {Q : Option Value → Shared → Prop}, FM.Le f g → A.handled = none →
    Inv σ g ((it, C n) :: P) s → (∀ s', Inv σ g P s' → Q none s') → wpAny (model prog w) A (pyNext (.ref it)) Q E s
  iter : ∀ {prog : Program} {w : World} {A : Around} {E : Value → Shared → Prop} {s : Shared} {σ : OsState} {g : FM} {P : List Cell} {Q : Value → Shared → Prop} (i : Nat),
    Inv σ g ((it, C i) :: P) s → Q (.ref it) s → wpAny (model prog w) A (pyIter (.ref it)) Q E s
theorem Proto.le {f g it n C V} (x : Proto f it n C V) (l : FM.Le f g) : Proto g it n C V := ⟨fun i l' => x.next i (l.trans l'), fun l' => x.stop (l.trans l'), fun i => x.iter i⟩
theorem Proto.list {f : FM} {l it : Addr} {vs : List Value} (hl : IsL f l vs) : Proto f it vs.length (IterO l) (fun i v => vs[i]? = some v) where
  next := fun i l' hh hi I h => nextL I ((hl.le l').is I) (x := vs[i]) (by simp [hi]) fun s' I => h s' _ (by simp [hi]) I
  stop := fun l' hh I h => endL hh I ((hl.le l').is I) (by simp) h
  iter := fun i I h => by
    obtain ⟨o, ho, h1, h2⟩ := I.at
    exact wpAny_pyIter_listiter ⟨o, ho, h1, h2⟩ h
theorem Proto.range {f : FM} {it : Addr} (n : Nat) : Proto f it n (fun i => RIterO (i : Int) ((n : Int) - i) 1) (fun i v => ∃ t, v = .int (i : Nat) t) where
  next := fun i l' hh hi I h => nextR I (by lia) fun s' t I => h s' _ ⟨t, rfl⟩ (by
    have e1 : ((i : Int) + 1) = ((i + 1 : Nat) : Int) := by lia
    have e2 : ((n : Int) - i - 1) = ((n : Int) - ((i + 1 : Nat) : Int)) := by lia
    rw [e1, e2] at I; exact I)
  stop := fun l' hh I h => endR hh I (by lia) h
  iter := fun i I h => iterRI I h
section
variable {prog : Program} {w : World} {A : Around} {E : Value → Shared → Prop} {s : Shared} {σ : OsState} {f : FM} {P : List Cell} {env : Env} {m : Str → Option Value}
/-- the environment of a comprehension -/
def cenvOf (scope : Scope) (cl : List (Str × Addr)) (L : Addr) (env : Env) : Env :=
  { scope := relabel scope env, locals := L, globals := env.globals, cells := cl, qual := env.qual, func := none, code := env.code, frame := env.frame, builtins := env.builtins }
def testsOf (ifs : List Expr) (env : Env) : Sem Bool := forIn ifs true fun c r => if r = true then do let ok ← isTrue c env (eval c env); pure (ForInStep.yield ok) else pure (ForInStep.yield r)
/-- the turns of a comprehension -/
theorem compTurns {elt iter : Expr} {ifs : List Expr} {x : Str} {px : Pos} {scope : Scope} {cl : List (Str × Addr)} {pos : Pos} {L it acc : Addr} {n : Nat} {C : Nat → Obj → Prop} {V : Nat → Value → Prop} {R : Result → Shared → Prop}
    (J : Nat → List Value → FM → List Cell → Prop) (pr : Proto f it n C V) (hh : A.handled = none) (hn : n < 2 ^ 20)
    (hx : (cenvOf scope cl L env).kindOf x = some .local) (hp : ((cenvOf scope cl L env).scope.kind == .class || ((cenvOf scope cl L env).scope.kind == .module && (cenvOf scope cl L env).locals != (cenvOf scope cl L env).globals)) = false)
    (turn : ∀ i v vs g P m s H E, i < n → V i v → J i vs g P → FM.Le f g → Inv σ g ((L, FrameO m) :: (P ++ H)) s → m x = some v →
      wpAny (model prog w) A (testsOf ifs (cenvOf scope cl L env)) (fun ok s₁ => if ok = true then
          wpAny (model prog w) A (eval elt (cenvOf scope cl L env)) (fun y s₂ => ∃ g' P' m', FM.Le g g' ∧ Inv σ g' ((L, FrameO m') :: (P' ++ H)) s₂ ∧ J (i + 1) (vs ++ [y]) g' P') E s₁
        else ∃ g' P' m', FM.Le g g' ∧ Inv σ g' ((L, FrameO m') :: (P' ++ H)) s₁ ∧ J (i + 1) vs g' P') E s)
    (hR : ∀ vs g P m s, J n vs g P → FM.Le f g → Inv σ g ((L, FrameO m) :: (acc, ListO vs) :: P) s → R (.ok .next) s) :
    ∀ (s : Shared) (vs : List Value) (g : FM) (m : Str → Option Value), vs.length ≤ 0 → FM.Le f g → J 0 vs g P → Inv σ g ((L, FrameO m) :: (it, C 0) :: (acc, ListO vs) :: P) s →
      codeAny (model prog w) A (.compLoop (.ListComp elt [⟨.Name x px, iter, ifs, 0⟩] scope pos) 0 (.ref it) (.ref acc) (cenvOf scope cl L env)) R s := by
  intro s vs g m hv l hJ I
  refine codeAny_compLoop_tests (fun k s => ∃ i vs g P m, k = n - i ∧ i ≤ n ∧ vs.length ≤ i ∧ FM.Le f g ∧ J i vs g P ∧ Inv σ g ((L, FrameO m) :: (it, C i) :: (acc, ListO vs) :: P) s) ?_ n ⟨0, vs, g, P, m, rfl, Nat.zero_le _, hv, l, hJ, I⟩
  rintro k s ⟨i, vs, g, P, m, rfl, hi, hv, l, hJ, I⟩
  by_cases hlt : i < n
  · refine pr.next i l hh hlt I.swap fun s v hV I => ?_
    refine wpAny_assign_Name (stN' I.swap (fun s I => ?_) rfl hx hp)
    refine wpAny_mono (turn i v vs g P _ s [(it, C (i + 1)), (acc, ListO vs)] _ hlt hV hJ l (Inv.rot (P := [(it, C (i + 1)), (acc, ListO vs)]) I) (by simp)) (fun ok s₁ h₁ => ?_) fun _ _ e => e
    cases ok with
    | true =>
      rw [if_pos rfl] at h₁ ⊢
      refine wpAny_mono h₁ (fun y s₂ h₂ => ?_) fun _ _ e => e
      obtain ⟨g', P', m', l', I, hJ'⟩ := h₂
      have I : Inv σ g' ((L, FrameO m') :: (it, C (i + 1)) :: (acc, ListO vs) :: P') s₂ := Inv.rot (H := [(it, C (i + 1)), (acc, ListO vs)]) I
      have I := I.p3
      refine appendL I (by lia) fun s I => ?_
      exact ⟨n - (i + 1), by lia, i + 1, vs ++ [y], g', P', m', rfl, hlt, by simp; lia, l.trans l', hJ', I.b3⟩
    | false =>
      rw [if_neg Bool.false_ne_true] at h₁ ⊢
      obtain ⟨g', P', m', l', I, hJ'⟩ := h₁
      exact ⟨n - (i + 1), by lia, i + 1, vs, g', P', m', rfl, hlt, by lia, l.trans l', hJ', Inv.rot (H := [(it, C (i + 1)), (acc, ListO vs)]) I⟩
  · have e : i = n := by lia
    subst e
    exact pr.stop l hh I.swap fun s I => hR vs g P m s hJ l I
/-- a comprehension without a cell of its own -/
theorem comp {elt iter : Expr} {ifs : List Expr} {x : Str} {px : Pos} {scope : Scope} {cl : List (Str × Addr)} {pos : Pos} {Q : Value → Shared → Prop}
    (J : Nat → List Value → FM → List Cell → Prop) (hh : A.handled = none)
    (hclos : closureFor scope env = pure cl) (hkind : scope.kind = .function) (hnames : ∀ x ∈ scope.names, x.2 = .local → scope.names.lookup x.1 = some .local) (hcell : ∀ x ∈ scope.names, x.2 ≠ .cell)
    (hx : scope.names.lookup x = some .local)
    (h : wpAny (model prog w) A (eval iter env) (fun xv s₁ => wpAny (model prog w) A (pyIter xv) (fun itv s₂ => ∃ it n C V f P, itv = .ref it ∧ n < 2 ^ 20 ∧ Proto f it n C V ∧ Inv σ f ((it, C 0) :: P) s₂ ∧ J 0 [] f P ∧
        (∀ L i v vs g P m s H E, i < n → V i v → J i vs g P → FM.Le f g → Inv σ g ((L, FrameO m) :: (P ++ H)) s → m x = some v →
          wpAny (model prog w) A (testsOf ifs (cenvOf scope cl L env)) (fun ok s₁ => if ok = true then
              wpAny (model prog w) A (eval elt (cenvOf scope cl L env)) (fun y s₂ => ∃ g' P' m', FM.Le g g' ∧ Inv σ g' ((L, FrameO m') :: (P' ++ H)) s₂ ∧ J (i + 1) (vs ++ [y]) g' P') E s₁
            else ∃ g' P' m', FM.Le g g' ∧ Inv σ g' ((L, FrameO m') :: (P' ++ H)) s₁ ∧ J (i + 1) vs g' P') E s) ∧
        (∀ acc vs g P s, J n vs g P → FM.Le f g → Inv σ g ((acc, ListO vs) :: P) s → Q (.ref acc) s)) E s₁) E s)
    (hs : ∀ x, foldedSetIterable iter env x = pure x := by intro _; rfl) :
    wpAny (model prog w) A (eval (.ListComp elt [⟨.Name x px, iter, ifs, 0⟩] scope pos) env) Q E s := by
  rw [eval_ListComp]
  refine wpAny_comprehension_free (g := ⟨.Name x px, iter, ifs, 0⟩) (gs := []) (use := none) rfl hs hclos hkind hnames (wpAny_mono h (fun xv s₁ h₁ => wpAny_mono h₁ (fun itv s₂ h₂ => ?_) fun _ _ e => e) fun _ _ e => e)
  obtain ⟨it, n, C, V, f, P, rfl, hn, pr, I, hJ, turn, hQ⟩ := h₂
  refine wpAny_newObj_type ?_ (by simp [sizeOk])
  have I := I.push (q := ListO []) (o := { cls := .type "list", data := .seq #[] }) (s' := { s₂ with heap := s₂.heap.push { cls := .type "list", data := .seq #[] } }) rfl ⟨0, rfl⟩ rfl rfl rfl
  generalize s₂.heap.objs.size = acc at I ⊢
  generalize ({ s₂ with heap := s₂.heap.push { cls := .type "list", data := .seq #[] } } : Shared) = s₃ at I ⊢
  refine wpAny_newFunctionEnv hcell (fun _ hm => nomatch hm) (fun h' hns hsb => ?_) hkind
  have I := I.newNs (a := s₃.heap.objs.size) (s' := { s₃ with heap := h', toks := s₃.toks + ([] : List (Str × Value)).length }) (fun b o hb e => hsb.2 b hb ▸ Heap.get?_push_of_some _ e) (Nat.le_refl _) hns rfl rfl
  generalize hL : s₃.heap.objs.size = L at I ⊢
  generalize ({ s₃ with heap := h', toks := s₃.toks + ([] : List (Str × Value)).length } : Shared) = s₄ at I ⊢
  have I : Inv σ f ((L, FrameO (fun x => List.lookup x ([] : List (Str × Value)).reverse)) :: (it, C 0) :: (acc, ListO []) :: P) s₄ := I.perm (List.Perm.cons _ (List.Perm.swap ..))
  have loop : codeAny (model prog w) A (.compLoop (.ListComp elt [⟨.Name x px, iter, ifs, 0⟩] scope pos) 0 (.ref it) (.ref acc) (cenvOf scope cl L env)) (compPost (model prog w) A E none Q (.ref acc) L) s₄ := by
    refine compTurns J pr hh hn (lookup_relabel_local hx) (by show (scope.kind == .class || (scope.kind == .module && _)) = false; rw [hkind]; rfl) (turn L) (fun vs g P m s hJ l I => ?_) s₄ [] f _ (Nat.le_refl _) (FM.Le.refl f) hJ I
    exact ⟨m, I.ns, fun h' hs => hQ acc vs g P _ hJ l (I.gone hs.extBut rfl rfl)⟩
  exact codeAny_compStart_list loop (pr.iter 0 I.swap loop)
end
end Mine
end
-- R8
noncomputable section
open PySem PySem.Calls PyProof.Rows PySem.W
set_option maxRecDepth 100000
set_option linter.unusedVariables false
namespace Mine
/-- two lists, item by item -/
def Al {α β : Type} (F : α → β → Prop) : List α → List β → Prop
  | [], [] => True
  | a :: as, b :: bs => F a b ∧ Al F as bs
  | _, _ => False
section
variable {α β : Type} {F G : α → β → Prop}
theorem Al.len : ∀ {as : List α} {bs : List β}, Al F as bs → as.length = bs.length
  | [], [], _ => rfl
  | _ :: _, _ :: _, h => congrArg (· + 1) h.2.len
  | [], _ :: _, h => h.elim
  | _ :: _, [], h => h.elim
theorem Al.mono (h : ∀ a b, F a b → G a b) : ∀ {as : List α} {bs : List β}, Al F as bs → Al G as bs
  | [], [], _ => trivial
  | _ :: _, _ :: _, x => ⟨h _ _ x.1, x.2.mono h⟩
  | [], _ :: _, h => h.elim
  | _ :: _, [], h => h.elim
theorem Al.app : ∀ {as as' : List α} {bs bs' : List β}, Al F as bs → Al F as' bs' → Al F (as ++ as') (bs ++ bs')
  | [], _, [], _, _, y => y
  | _ :: _, _, _ :: _, _, x, y => ⟨x.1, x.2.app y⟩
  | [], _, _ :: _, _, h, _ => h.elim
  | _ :: _, _, [], _, h, _ => h.elim
theorem Al.one {a : α} {b : β} (h : F a b) : Al F [a] [b] := ⟨h, trivial⟩
theorem Al.get : ∀ {as : List α} {bs : List β}, Al F as bs → ∀ (i : Nat) (a : α), as[i]? = some a → ∃ b, bs[i]? = some b ∧ F a b
  | [], [], _, _, _, e => by simp at e
  | _ :: _, b :: _, x, 0, a, e => ⟨b, rfl, by simp at e; subst e; exact x.1⟩
  | _ :: _, _ :: _, x, i + 1, a, e => by simpa using x.2.get i a (by simpa using e)
  | [], _ :: _, h, _, _, _ => h.elim
  | _ :: _, [], h, _, _, _ => h.elim
theorem Al.get' : ∀ {as : List α} {bs : List β}, Al F as bs → ∀ (i : Nat) (b : β), bs[i]? = some b → ∃ a, as[i]? = some a ∧ F a b
  | [], [], _, _, _, e => by simp at e
  | a :: _, _ :: _, x, 0, b, e => ⟨a, rfl, by simp at e; subst e; exact x.1⟩
  | _ :: _, _ :: _, x, i + 1, b, e => by simpa using x.2.get' i b (by simpa using e)
  | [], _ :: _, h, _, _, _ => h.elim
  | _ :: _, [], h, _, _, _ => h.elim
theorem Al.mem {as : List α} {bs : List β} (x : Al F as bs) {a : α} (h : a ∈ as) : ∃ b ∈ bs, F a b := by
  obtain ⟨i, hi, e⟩ := List.mem_iff_getElem.mp h
  obtain ⟨b, hb, hf⟩ := x.get i a (by rw [List.getElem?_eq_getElem hi, e])
  exact ⟨b, List.mem_of_getElem? hb, hf⟩
theorem Al.take : ∀ (n : Nat) {as : List α} {bs : List β}, Al F as bs → Al F (as.take n) (bs.take n)
  | 0, _, _, _ => by simp [Al]
  | n + 1, [], [], _ => by simp [Al]
  | n + 1, _ :: _, _ :: _, x => ⟨x.1, x.2.take n⟩
  | _ + 1, [], _ :: _, h => h.elim
  | _ + 1, _ :: _, [], h => h.elim
theorem Al.drop : ∀ (n : Nat) {as : List α} {bs : List β}, Al F as bs → Al F (as.drop n) (bs.drop n)
  | 0, _, _, x => x
  | n + 1, [], [], _ => trivial
  | n + 1, _ :: _, _ :: _, x => x.2.drop n
  | _ + 1, [], _ :: _, h => h.elim
  | _ + 1, _ :: _, [], h => h.elim
end
def AInt (v : Value) (n : Int) : Prop := ∃ t, v = .int n t
def AStr (v : Value) (x : Str) : Prop := ∃ t, v = .str x t
def APc (v : Value) (p : Option Str) : Prop := match p with
  | none => v = .none
  | some x => ∃ t, v = .str x t
/-- a frozen list of such items -/
def AL {β : Type} (F : FM → Value → β → Prop) (f : FM) (v : Value) (xs : List β) : Prop := ∃ a vs, v = .ref a ∧ IsL f a vs ∧ Al (F f) vs xs
abbrev AInts := AL fun _ => AInt
abbrev AStrs := AL fun _ => AStr
abbrev APcs := AL fun _ => APc
/-- a way of reading values, kept as the frozen part grows -/
structure Rd {β : Type} (F : FM → Value → β → Prop) : Prop where
  le : ∀ {f g v x}, FM.Le f g → F f v x → F g v x
  uniq : ∀ {f v x y}, F f v x → F f v y → x = y
theorem Al.uniq {β : Type} {F : Value → β → Prop} (h : ∀ v x y, F v x → F v y → x = y) : ∀ {vs : List Value} {xs ys : List β}, Al F vs xs → Al F vs ys → xs = ys
  | [], [], [], _, _ => rfl
  | _ :: _, _ :: _, _ :: _, x, y => by rw [h _ _ _ x.1 y.1, x.2.uniq h y.2]
  | [], _ :: _, _, h, _ => h.elim
  | [], [], _ :: _, _, h => h.elim
  | _ :: _, [], _, h, _ => h.elim
  | _ :: _, _ :: _, [], _, h => h.elim
theorem Rd.int : Rd fun _ => AInt := ⟨fun _ h => h, fun ⟨_, e⟩ ⟨_, e'⟩ => by subst e; cases e'; rfl⟩
theorem Rd.str : Rd fun _ => AStr := ⟨fun _ h => h, fun ⟨_, e⟩ ⟨_, e'⟩ => by subst e; cases e'; rfl⟩
theorem Rd.pc : Rd fun _ => APc := ⟨fun _ h => h, fun {f v x y} h h' => by
  cases x with
  | none => cases y with
    | none => rfl
    | some y => obtain ⟨t, e⟩ := h'; have h : v = .none := h; rw [h] at e; cases e
  | some x => cases y with
    | none => obtain ⟨t, e⟩ := h; have h' : v = .none := h'; rw [h'] at e; cases e
    | some y => obtain ⟨t, e⟩ := h; obtain ⟨t', e'⟩ := h'; rw [e] at e'; cases e'; rfl⟩
theorem Rd.list {β : Type} {F : FM → Value → β → Prop} (r : Rd F) : Rd (AL F) where
  le := fun l ⟨a, vs, e, h1, h2⟩ => ⟨a, vs, e, h1.le l, h2.mono fun _ _ h => r.le l h⟩
  uniq := fun {f _ _ _} ⟨a, vs, e, ⟨o, h1, n, h1'⟩, h2⟩ ⟨a', vs', e', ⟨o', h3, n', h3'⟩, h4⟩ => by
    subst e; cases e'
    rw [h1] at h3; cases h3
    rw [h1'] at h3'
    simp only [Obj.mk.injEq, Data.seq.injEq, true_and, and_true] at h3'
    have : vs = vs' := by simpa using h3'.1
    subst this
    exact Al.uniq (F := F f) (fun v x y hx hy => r.uniq (f := f) hx hy) h2 h4
/-- equality of two such, as the interpreter finds it -/
def EqR {β : Type} [DecidableEq β] (F : FM → Value → β → Prop) (u : Nat) : Prop := ∀ f v w x y, F f v x → F f w y → EqOk f u v w (decide (x = y))
theorem EqR.int : EqR (fun _ => AInt) 0 := fun f v w x y ⟨t, e⟩ ⟨t', e'⟩ => by
  subst e; subst e'
  have h := EqOk.int f 0 x y t t'
  rwa [show (x == y) = decide (x = y) from by rw [Bool.eq_iff_iff]; simp] at h
theorem EqR.str : EqR (fun _ => AStr) 0 := fun f v w x y ⟨t, e⟩ ⟨t', e'⟩ => by subst e; subst e'; exact EqOk.str f 0 x y t t'
theorem cmpV_eq_data {β : Type} [DecidableEq β] {F : Value → β → Prop} {eqv : Value → Value → Bool} {rcv : Value → Value → Bool} (h : ∀ v w x y, F v x → F w y → eqv v w = decide (x = y)) :
    ∀ {vs ws : List Value} {xs ys : List β}, Al F vs xs → Al F ws ys → cmpV .Eq eqv rcv vs ws = decide (xs = ys) ∧ cmpV .NotEq eqv rcv vs ws = !decide (xs = ys)
  | [], [], [], [], _, _ => ⟨by simp [cmpV, sizesV], by simp [cmpV, sizesV]⟩
  | [], _ :: _, [], _ :: _, _, _ => ⟨by simp [cmpV, sizesV], by simp [cmpV, sizesV]⟩
  | _ :: _, [], _ :: _, [], _, _ => ⟨by simp [cmpV, sizesV], by simp [cmpV, sizesV]⟩
  | v :: vs, w :: ws, x :: xs, y :: ys, hx, hy => by
    have ih := cmpV_eq_data (eqv := eqv) (rcv := rcv) h hx.2 hy.2
    simp only [cmpV, h _ _ _ _ hx.1 hy.1, ih.1, ih.2]
    by_cases hxy : x = y <;> simp [hxy]
  | [], _, _ :: _, _, h, _ => h.elim
  | _ :: _, _, [], _, h, _ => h.elim
  | _, [], _, _ :: _, _, h => h.elim
  | _, _ :: _, _, [], _, h => h.elim
open Classical in
theorem EqR.rc {β : Type} [DecidableEq β] {F : FM → Value → β → Prop} {u : Nat} (r : Rd F) (e : EqR F u) {f : FM} {v w : Value} {xs ys : List β} (hx : AL F f v xs) (hy : AL F f w ys) :
    RcOk f (u + 1) .Eq v w (decide (xs = ys)) ∧ RcOk f (u + 1) .NotEq v w (!decide (xs = ys)) := by
  obtain ⟨a, vs, rfl, h1, h2⟩ := hx
  obtain ⟨b, ws, rfl, h3, h4⟩ := hy
  let eqv : Value → Value → Bool := fun v w => decide (∃ x, F f v x ∧ F f w x)
  have key : ∀ v w x y, F f v x → F f w y → eqv v w = decide (x = y) := fun v w x y hx hy => by
    show decide _ = _
    by_cases h : x = y
    · subst h; simp only [decide_true, decide_eq_true_eq]; exact ⟨x, hx, hy⟩
    · rw [decide_eq_false h, decide_eq_false]
      rintro ⟨z, hz, hz'⟩
      exact h ((r.uniq hx hz).trans (r.uniq hy hz').symm)
  have he : ∀ x ∈ vs, ∀ y ∈ ws, EqOk f u x y (eqv x y) := fun v hv w hw => by
    obtain ⟨x, _, hx⟩ := h2.mem hv
    obtain ⟨y, _, hy⟩ := h4.mem hw
    rw [key _ _ _ _ hx hy]
    exact e f v w x y hx hy
  have d := cmpV_eq_data (rcv := fun _ _ => true) key h2 h4
  refine ⟨?_, ?_⟩
  · have := rcList (op := .Eq) (rcv := fun _ _ => true) (.inl rfl) h1 h3 he (fun e => absurd rfl e)
    rwa [d.1] at this
  · have := rcList (op := .NotEq) (rcv := fun _ _ => true) (.inr (.inl rfl)) h1 h3 he (fun _ e => absurd rfl e)
    rwa [d.2] at this
theorem EqR.list {β : Type} [DecidableEq β] {F : FM → Value → β → Prop} {u : Nat} (r : Rd F) (e : EqR F u) : EqR (AL F) (u + 1) := by
  intro f v w xs ys hx hy prog wd A E s σ g P Q l Ro I h
  have hx' := hx; have hy' := hy
  obtain ⟨a, vs, rfl, h1, h2⟩ := hx'
  obtain ⟨b, ws, rfl, h3, h4⟩ := hy'
  unfold eqBool
  refine wpAny_holding ?_
  by_cases hab : a = b
  · subst hab
    rw [if_pos (by simp)]
    have := h s I
    rw [decide_eq_true (r.list.uniq hx hy)] at this
    exact wpAny_bind (wpAny_rule (wpAny_pure this))
  · rw [if_neg (by simpa using hab)]
    exact wpAny_bind ((e.rc r hx hy).1 prog wd A E s σ g P _ l Ro I fun s I => wpAny_truthy_bool (h s I))
end Mine
end
-- R9
noncomputable section
open PySem PySem.Calls PyProof.Rows PySem.W
set_option maxRecDepth 100000
set_option linter.unusedVariables false
namespace Mine
theorem EqR.pc : EqR (fun _ => APc) 1 := fun f v w x y hx hy => by
  intro prog wd A E s σ g P Q l Ro I h
  cases x with
  | none =>
    have e : v = .none := hx
    subst e
    cases y with
    | none =>
      have e : w = .none := hy
      subst e
      unfold eqBool
      refine wpAny_holding ?_
      rw [if_pos (by simp)]
      exact wpAny_bind (wpAny_rule (wpAny_pure (by simpa using h s I)))
    | some y =>
      obtain ⟨t, rfl⟩ := hy
      unfold eqBool
      refine wpAny_holding ?_
      rw [if_neg (by simp)]
      exact wpAny_bind (EqNone.eq_none_str (wpAny_truthy_bool (by simpa using h s I)))
  | some x =>
    obtain ⟨t, rfl⟩ := hx
    cases y with
    | none =>
      have e : w = .none := hy
      subst e
      unfold eqBool
      refine wpAny_holding ?_
      rw [if_neg (by simp)]
      exact wpAny_bind (EqNone.eq_str_none (wpAny_truthy_bool (by simpa using h s I)))
    | some y =>
      obtain ⟨t', rfl⟩ := hy
      refine EqOk.str f 1 x y t t' prog wd A E s σ g P _ l Ro I fun s I => ?_
      have := h s I
      simp only [Option.some.injEq] at this
      exact this
section
variable {prog : Program} {w : World} {A : Around} {E : Value → Shared → Prop} {s : Shared} {σ : OsState} {f : FM} {P : List Cell} {env : Env} {m : Str → Option Value}
/-- the turns of a for over an iterator, without a break -/
theorem forTurns {x : Str} {px : Pos} {body : List Stmt} {L it : Addr} {n : Nat} {C : Nat → Obj → Prop} {V : Nat → Value → Prop} {R : Result → Shared → Prop}
    (J : Nat → FM → List Cell → (Str → Option Value) → Prop) (pr : Proto f it n C V) (hh : A.handled = none)
    (turn : ∀ i v g P m s H E, i < n → V i v → J i g P m → FM.Le f g → Inv σ g ((L, FrameO (fun y => if y = x then some v else m y)) :: (P ++ H)) s →
      wpAny (model prog w) A (execs body env) (fun fl s₂ => match fl with
        | .next | .cont => ∃ g' P' m', FM.Le g g' ∧ Inv σ g' ((L, FrameO m') :: (P' ++ H)) s₂ ∧ J (i + 1) g' P' m'
        | .brk => False
        | .ret _ => False) E s)
    (hR : ∀ g P m s, J n g P m → FM.Le f g → Inv σ g ((L, FrameO m) :: P) s → R (.ok .next) s)
    (I : Inv σ f ((L, FrameO m) :: (it, C 0) :: P) s) (hJ : J 0 f P m)
    (hL : env.locals = L := by rfl) (hx : env.kindOf x = some .local := by rfl) (hp : (env.scope.kind == .class || (env.scope.kind == .module && env.locals != env.globals)) = false := by rfl) :
    codeAny (model prog w) A (.forLoop (.Name x px) (.ref it) body [] env) R s := by
  refine codeAny_forLoop (fun k s => ∃ i g P m, k = n - i ∧ i ≤ n ∧ FM.Le f g ∧ J i g P m ∧ Inv σ g ((L, FrameO m) :: (it, C i) :: P) s) ?_ n ⟨0, f, P, m, rfl, Nat.zero_le _, FM.Le.refl f, hJ, I⟩
  rintro k s ⟨i, g, P, m, rfl, hi, l, hJ, I⟩
  by_cases hlt : i < n
  · refine pr.next i l hh hlt I.swap fun s v hV I => ?_
    refine wpAny_assign_Name (stN' I.swap (fun s I => ?_) hL hx hp)
    refine wpAny_mono (turn i v g P m s [(it, C (i + 1))] _ hlt hV hJ l (Inv.rot (P := [(it, C (i + 1))]) I)) (fun fl s₂ h₂ => ?_) fun _ _ e => e
    cases fl with
    | next => obtain ⟨g', P', m', l', I, hJ'⟩ := h₂; exact ⟨n - (i + 1), by omega, i + 1, g', P', m', rfl, hlt, l.trans l', hJ', Inv.rot (H := [(it, C (i + 1))]) I⟩
    | cont => obtain ⟨g', P', m', l', I, hJ'⟩ := h₂; exact ⟨n - (i + 1), by omega, i + 1, g', P', m', rfl, hlt, l.trans l', hJ', Inv.rot (H := [(it, C (i + 1))]) I⟩
    | brk => exact h₂.elim
    | ret v => exact h₂.elim
  · have e : i = n := by omega
    subst e
    exact pr.stop l hh I.swap fun s I => wpAny_execs_nil (hR g P m s hJ l I)
theorem opNeg {a : Int} {t : Tok} {Q : Value → Shared → Prop} (I : Inv σ f P s) (h : ∀ s' t, Inv σ f P s' → Q (.int (-a) t) s') : wpAny (model prog w) A (unaryOp .USub (.int a t)) Q E s :=
  PySem.P.neg_int (h _ _ (I.to rfl rfl rfl))
theorem subLneg {value slice : Expr} {a : Addr} {vs : List Value} {k : Int} {u : Tok} {x : Value} {Q : Value → Shared → Prop}
    (hl : s.heap.IsList a vs.toArray) (h0 : k < 0) (h1 : -(vs.length : Int) ≤ k) (hfit : -(2 ^ 63) ≤ k) (hx : vs[(k + vs.length).toNat]? = some x) (h : Q x s)
    (hs : subscripted slice false (.ref a) (.int k u) = operate [.ref a, .int k u] (getItem (.ref a) (.int k u)) := by with_unfolding_all rfl) : wpAny (model prog w) A (subscriptTail value slice (.ref a) (.int k u)) Q E s :=
  tail_any hl.typeIs slot_list_getitem.lookup (wpAny_getItem_list_neg hl h0 (by simpa using h1) hfit (by simpa using hx) h) hs
end
end Mine
end
-- R10
noncomputable section
open PySem PySem.Calls PyProof.Rows PySem.W
set_option maxRecDepth 100000
set_option linter.unusedVariables false
namespace Mine
def CellO (v : Option Value) (o : Obj) : Prop := o.data = .cell v
theorem Inv.isCell {σ f P s c v} (I : Inv σ f ((c, CellO v) :: P) s) : s.heap.IsCell c v := let ⟨o, h, x⟩ := I.at; ⟨o, h, x⟩
/-- a frozen cell -/
def CellF (f : FM) (c : Addr) (v : Value) : Prop := ∃ o, f c = some o ∧ o.data = .cell (some v)
theorem CellF.le {f g c v} (x : CellF f c v) (l : FM.Le f g) : CellF g c v := let ⟨o, h, e⟩ := x; ⟨o, l _ _ h, e⟩
theorem CellF.is {σ f P s c v} (x : CellF f c v) (I : Inv σ f P s) : s.heap.IsCell c (some v) := let ⟨o, h, e⟩ := x; ⟨o, I.frz _ _ h, e⟩
theorem Inv.freezeC {σ f P s c v} (I : Inv σ f ((c, CellO (some v)) :: P) s) : ∃ g, FM.Le f g ∧ CellF g c v ∧ Inv σ g P s :=
  let ⟨o, h1, _, l, h2, J⟩ := I.freeze; ⟨_, l, ⟨o, h2, h1⟩, J⟩
theorem Inv.freezeL {σ f P s c vs} (I : Inv σ f ((c, ListO vs) :: P) s) : ∃ g, FM.Le f g ∧ IsL g c vs ∧ Inv σ g P s :=
  let ⟨o, h1, _, l, h2, J⟩ := I.freeze; ⟨_, l, ⟨o, h2, h1⟩, J⟩
section
variable {prog : Program} {w : World} {A : Around} {E : Value → Shared → Prop} {s : Shared} {σ : OsState} {f : FM} {P : List Cell} {env : Env} {m : Str → Option Value}
theorem ldC {x : Str} {pos : Pos} {c : Addr} {v : Value} {Q : Value → Shared → Prop} (hv : s.heap.IsCell c (some v)) (h : Q v s) (hc : env.cells.lookup x = some c := by rfl)
    (hk : env.scope.kind = .function := by rfl) (hl : env.kindOf x = some .cell := by rfl) (hd : (x == ("__debug__" : Str)) = false := by decide) : wpAny (model prog w) A (eval (.Name x pos) env) Q E s :=
  wpAny_Name (wpAny_loadName_cell hk hl hc hv h) hd
theorem stC {x : Str} {c : Addr} {v₀ : Option Value} {v : Value} {Q : Unit → Shared → Prop} (I : Inv σ f ((c, CellO v₀) :: P) s) (h : ∀ s', Inv σ f ((c, CellO (some v)) :: P) s' → Q () s') (hc : env.cells.lookup x = some c := by rfl)
    (hk : env.scope.kind = .function := by rfl) (hl : env.kindOf x = some .cell := by rfl) : wpAny (model prog w) A (storeName env x v) Q E s :=
  wpAny_storeName_cell hk hl hc I.isCell fun h' ⟨o, ho, hd⟩ hs => h _ (I.set hs ho hd rfl rfl)
/-- a call of a def some of whose names are cells -/
theorem enterC {name : Str} {params : Arguments} {body : List Stmt} {scope : Scope} {pm cd doc : Value} {a : Addr} {args : List Value} {binds : List (Str × Value)} {d u : Nat} {Q : Value → Shared → Prop}
    (R : Room A (d + 1) (u + 3)) (I : Inv σ f P s) (lim : LimF f) (fn : FnF f a (docDef name params body scope pm cd doc))
    (hbind : bindArgs (docDef name params body scope pm cd doc) ⟨args, []⟩ = pure binds)
    (hkind : ∀ L : Nat, ∀ x ∈ binds, scope.names.lookup x.1 = some .local ∨ (scope.names.lookup x.1 = some .cell ∧ ((cellsFrom (L + 1) scope.names []).lookup x.1).isSome = true))
    (hlook : ∀ L : Nat, ∀ p ∈ cellsFrom (L + 1) scope.names [], (cellsFrom (L + 1) scope.names []).lookup p.1 = some p.2)
    (h : ∀ L s', Inv σ f ((L, FrameO (bindL (callEnvC (docDef name params body scope pm cd doc) L a).kindOf binds fun _ => none)) ::
        ((cellsFrom (L + 1) scope.names []).map (fun p => ((p.2, CellO (bindC (callEnvC (docDef name params body scope pm cd doc) L a).kindOf binds (fun _ => none) p.1)) : Cell)) ++ P)) s' →
      Room (A.deeper (callEnvC (docDef name params body scope pm cd doc) L a)) d u →
      wpAny (model prog w) (A.deeper (callEnvC (docDef name params body scope pm cd doc) L a)) (execs body (callEnvC (docDef name params body scope pm cd doc) L a)) (fun fl s'' => Q (match fl with | .ret v => v | _ => .none) s'') (fun _ _ => False) s')
    (hco : scope.isCoroutine = false := by rfl) (hgen : scope.isGenerator = false := by rfl) (hk : scope.kind = .function := by rfl) : wpAny (model prog w) A (call (.ref a) args) Q E s := by
  obtain ⟨o, ho, hd, hc⟩ := fn
  refine wpAny_call (codeAny_call_cells R.dp (I.frz _ _ ho) hd (lim.no I) (hc.rec I) rfl hbind rfl (hkind _) (fun s₁ x => ?_) hco hgen hk)
  refine wpAny_mono (h s.heap.objs.size s₁ ?_ (R.deeper _)) (fun fl s'' x => x) (fun _ _ x => x.elim)
  obtain ⟨x1, x2, x3, x4⟩ := x
  obtain ⟨⟨h', tk, rfl⟩, y2, y3, y4⟩ := x1
  have hL : (callEnvC (docDef name params body scope pm cd doc) s.heap.objs.size a).locals = s.heap.objs.size := rfl
  have hcs : (callEnvC (docDef name params body scope pm cd doc) s.heap.objs.size a).cells = cellsFrom (s.heap.objs.size + 1) scope.names [] := rfl
  rw [hL] at y2 x4
  rw [hcs] at x2 x3 x4
  have J := I.grow (s' := { s with heap := h', toks := tk }) y3 rfl rfl
  have key : ∀ (cs : List (Str × Addr)), (∀ p ∈ cs, p ∈ cellsFrom (s.heap.objs.size + 1) scope.names []) → cs.Pairwise (fun x y => x.2 ≠ y.2) →
      Inv σ f (cs.map (fun p => ((p.2, CellO (bindC (callEnvC (docDef name params body scope pm cd doc) s.heap.objs.size a).kindOf binds (fun _ => none) p.1)) : Cell)) ++ P) { s with heap := h', toks := tk } := by
    intro cs
    induction cs with
    | nil => intro _ _; exact J
    | cons p cs ih =>
      intro hm hpw
      obtain ⟨hp1, hp2⟩ := List.pairwise_cons.mp hpw
      have K := ih (fun q hq => hm q (List.mem_cons_of_mem _ hq)) hp2
      have hpm := hm p List.mem_cons_self
      obtain ⟨oc, hoc, hdc⟩ := x2 p.1 p.2 (hlook _ p hpm)
      have hlt := x4 p.1 p.2 hpm
      refine ⟨K.frz, ?_, ?_, ?_, K.bare, K.os⟩
      · intro q hq
        rcases List.mem_cons.mp hq with rfl | hq
        · exact ⟨oc, hoc, hdc⟩
        · exact K.own q hq
      · intro q hq
        rcases List.mem_cons.mp hq with rfl | hq
        · exact I.fresh (Nat.le_of_lt hlt)
        · exact K.sep q hq
      · refine List.nodup_cons.mpr ⟨fun hmem => ?_, K.nod⟩
        obtain ⟨q, hq, e⟩ := List.mem_map.mp hmem
        rcases List.mem_append.mp hq with hq | hq
        · obtain ⟨q', hq', rfl⟩ := List.mem_map.mp hq
          exact hp1 q' hq' e.symm
        · have h3 : q.1 = p.2 := e
          exact absurd (Nat.lt_trans (I.lt hq) (h3 ▸ hlt)) (Nat.lt_irrefl _)
  have K := key _ (fun p hp => hp) x3
  obtain ⟨oL, hoL, hxL⟩ := FrameO.of_ns y2
  refine ⟨K.frz, ?_, ?_, ?_, K.bare, K.os⟩
  · intro q hq
    rcases List.mem_cons.mp hq with rfl | hq
    · exact ⟨oL, hoL, hxL⟩
    · exact K.own q hq
  · intro q hq
    rcases List.mem_cons.mp hq with rfl | hq
    · exact I.fresh (Nat.le_refl _)
    · exact K.sep q hq
  · refine List.nodup_cons.mpr ⟨fun hmem => ?_, K.nod⟩
    obtain ⟨q, hq, e⟩ := List.mem_map.mp hmem
    rcases List.mem_append.mp hq with hq | hq
    · obtain ⟨q', hq', rfl⟩ := List.mem_map.mp hq
      have := x4 q'.1 q'.2 hq'
      have e : q'.2 = s.heap.objs.size := e
      rw [e] at this
      exact absurd this (Nat.lt_irrefl _)
    · have h3 : q.1 = s.heap.objs.size := e
      exact absurd (I.lt hq) (h3 ▸ Nat.lt_irrefl _)
end
end Mine
end
-- D3
noncomputable section
open PySem PySem.Calls PyProof.Rows PySem.W
set_option maxRecDepth 100000
set_option linter.unusedVariables false
namespace Mine
section
variable {prog : Program} {w : World} {A : Around} {E : Value → Shared → Prop} {s : Shared} {σ : OsState} {f : FM} {P : List Cell} {κ : Type} {mg mb : Str → Option Value}
theorem heappop_ct {lt : κ → κ → Bool} {h : Addr} {ys : List (Value × κ)} {last : Value × κ} {Q : Value → Shared → Prop}
    (R : Room A 3 50) (B : Base mg mb f) (I : Inv σ f ((h, ListO ((ys ++ [last]).map Prod.fst)) :: P) s)
    (hlt : ∀ x ∈ ys ++ [last], ∀ y ∈ ys ++ [last], CmpLt f x.1 y.1 (lt x.2 y.2)) (hsz : ys.length < 2 ^ 19)
    (h0 : ∀ s', ys = [] → Inv σ f ((h, ListO []) :: P) s' → Q last.1 s')
    (h1 : ∀ s' y, ys[0]? = some y → Inv σ f ((h, ListO ((siftupF (fun x y => lt x.2 y.2) last (ys.set 0 last) 0).map Prod.fst)) :: P) s' → Q y.1 s') :
    wpAny (model prog w) A (call (.ref 86) [.ref h]) Q E s := by
  obtain ⟨pm, cd, doc, fn⟩ := B.f14
  refine enter (d := 2) (u := 47) (binds := [(Str.ofString "heap", .ref h)]) R I B.lim fn rfl (locs rfl) ?_
  intro L s I R
  refine wpAny_execs_cons (wpAny_Assign_Name (meth0 F.plainAttrs_list F.slot_list_pop F.type_list_pop (ldN I rfl ⟨I.swap.list.typeIs, ListO.plain I.swap.at.choose_spec.1 I.swap.at.choose_spec.2, ?_⟩)))
  have I := I.swap
  rw [List.map_append, List.map_singleton] at I
  refine popL I (by simp; lia) fun s I => ?_
  have I := I.swap
  refine stN' I fun s I => ?_
  refine wpAny_execs_cons (wpAny_If (wpAny_isTrue_value (ldN I rfl (truL I I.swap.list (by simp; lia) fun s I => ?_))))
  cases ys with
  | nil =>
    refine wpAny_execs_nil ?_
    refine wpAny_execs_cons (wpAny_Return_some (ldN I rfl ?_))
    exact h0 _ rfl I.drop
  | cons y ys =>
    simp only [List.map_cons, List.isEmpty_cons, Bool.not_false, if_true]
    refine asgN (fun _ _ nx => (Subscript_ (ldN I rfl (cInt I fun s t I => subL (x := y.1) I.swap.list (by decide) (by decide) rfl (nx _ _ <| stN' I fun s I => ?_)))))
    refine wpAny_execs_cons (wpAny_Assign_Subscript (ldN I rfl (ldN I rfl (cInt I fun s t I => setL I.swap (by decide) (by decide) (by simp) fun s I => ?_))))
    have I := I.swap
    have e : (List.map Prod.fst (y :: ys)).set (0 : Int).toNat last.1 = (((y :: ys).set 0 last).map Prod.fst) := by simp
    rw [e] at I
    refine wpAny_execs_cons (wpAny_Expr (wpAny_Call_NameR (gl I B.G B.nm.siftup (callF B.f20 (wpAny_items_cons (ldN I rfl (wpAny_items_cons (cInt I fun s t I => wpAny_items_nil ⟨_, _, _, FM.Le.refl f, I, ?_⟩))))))))
    refine siftup_ct (lt := lt) (zs := (y :: ys).set 0 last) (pos := 0) (new := last) R.le B I.swap ?_ rfl (by simp at hsz ⊢; lia) fun s I => ?_
    · have mem : ∀ x ∈ (y :: ys).set 0 last, x ∈ y :: ys ++ [last] := fun x hx => by
        rcases List.mem_or_eq_of_mem_set hx with hx | rfl
        · exact List.mem_append_left _ hx
        · simp
      exact fun x hx z hz => hlt x (mem x hx) z (mem z hz)
    · refine wpAny_execs_cons (wpAny_Return_some (ldN I.swap rfl ?_))
      exact h1 _ _ rfl I.swap.drop
theorem heappushpop_ct {lt : κ → κ → Bool} {h : Addr} {zs : List (Value × κ)} {item top : Value × κ} {Q : Value → Shared → Prop}
    (R : Room A 3 50) (B : Base mg mb f) (I : Inv σ f ((h, ListO (zs.map Prod.fst)) :: P) s) (htop : zs[0]? = some top)
    (hlt : ∀ x ∈ zs ++ [item], ∀ y ∈ zs ++ [item], CmpLt f x.1 y.1 (lt x.2 y.2)) (hsz : zs.length < 2 ^ 19)
    (h0 : ∀ s', lt top.2 item.2 = false → Inv σ f ((h, ListO (zs.map Prod.fst)) :: P) s' → Q item.1 s')
    (h1 : ∀ s', lt top.2 item.2 = true → Inv σ f ((h, ListO ((siftupF (fun x y => lt x.2 y.2) item (zs.set 0 item) 0).map Prod.fst)) :: P) s' → Q top.1 s') :
    wpAny (model prog w) A (call (.ref 93) [.ref h, item.1]) Q E s := by
  obtain ⟨pm, cd, doc, fn⟩ := B.f15
  have hz : 0 < zs.length := (List.getElem?_eq_some_iff.mp htop).1
  have hne : (zs.map Prod.fst).isEmpty = false := by cases zs with
    | nil => simp at hz
    | cons => rfl
  refine enter (d := 2) (u := 47) (binds := [(Str.ofString "heap", .ref h), (Str.ofString "item", item.1)]) R I B.lim fn rfl (locs rfl) ?_
  intro L s I R
  refine wpAny_execs_cons (wpAny_If (wpAny_isTrue_BoolOp (wpAny_allTrue_And_cons (wpAny_isTrue_value (ldN I rfl (truL I I.swap.list (by simp; lia) fun s I => ?_))))))
  rw [hne]
  simp only [Bool.not_false, if_true]
  refine wpAny_allTrue_And_cons (wpAny_isTrue_Compare1 (Subscript_ (ldN I rfl (cInt I fun s t I => subL (x := top.1) I.swap.list (by decide) (by decide) (by simp [htop]) (ldN I rfl ?_)))))
  refine hlt top (List.mem_append_left _ (List.mem_of_getElem? htop)) item (by simp) prog w _ _ _ σ f _ _ (FM.Le.refl f) R.le I fun s I => wpAny_truthy_bool ?_
  cases hb : lt top.2 item.2 with
  | false =>
    simp only [Bool.false_eq_true, if_false]
    refine wpAny_execs_nil (wpAny_execs_cons (wpAny_Return_some (ldN I rfl ?_)))
    exact h0 _ hb I.drop
  | true =>
    simp only [if_true]
    refine wpAny_allTrue_And_nil ?_
    simp only [if_true]
    refine wpAny_execs_cons (Assign_Tuple (mkTup (wpAny_items_cons (Subscript_ (ldN I rfl (cInt I fun s t I => subL (x := top.1) I.swap.list (by decide) (by decide) (by simp [htop])
      (wpAny_items_cons (ldN I rfl (wpAny_items_nil ⟨by simp, _, _, _, I, fun t s I => ?_⟩)))))))))
    refine asgTup R.hand I I.tup fun s I => ?_
    have I := I.drop
    refine assignInOrder_cons (wpAny_assign_Name (stN' I fun s I => ?_))
    refine assignInOrder_cons (asgSub (ldN I rfl (cInt I fun s t I => setL I.swap (by decide) (by decide) (by simp; lia) fun s I => assignInOrder_nil ?_)))
    have I := I.swap
    have e : (List.map Prod.fst zs).set (0 : Int).toNat item.1 = ((zs.set 0 item).map Prod.fst) := by simp [List.map_set]
    rw [e] at I
    refine wpAny_execs_cons (wpAny_Expr (wpAny_Call_NameR (gl I B.G B.nm.siftup (callF B.f20 (wpAny_items_cons (ldN I rfl (wpAny_items_cons (cInt I fun s t I => wpAny_items_nil ⟨_, _, _, FM.Le.refl f, I, ?_⟩))))))))
    refine siftup_ct (lt := lt) (zs := zs.set 0 item) (pos := 0) (new := item) R.le B I.swap ?_ (List.getElem?_set_self hz) (by rw [List.length_set]; lia) fun s I => ?_
    · have mem : ∀ x ∈ zs.set 0 item, x ∈ zs ++ [item] := fun x hx => by
        rcases List.mem_or_eq_of_mem_set hx with hx | rfl
        · exact List.mem_append_left _ hx
        · simp
      exact fun x hx z hz => hlt x (mem x hx) z (mem z hz)
    · refine wpAny_execs_nil (wpAny_execs_cons (wpAny_Return_some (ldN I.swap rfl ?_)))
      exact h1 _ hb I.swap.drop
end
end Mine
end
-- D4
noncomputable section
open PySem PySem.Calls PyProof.Rows PySem.W
set_option maxRecDepth 100000
set_option linter.unusedVariables false
namespace Mine
section
variable {prog : Program} {w : World} {A : Around} {E : Value → Shared → Prop} {s : Shared} {σ : OsState} {f : FM} {P : List Cell} {κ : Type} {mg mb : Str → Option Value}
theorem heapify_ct {lt : κ → κ → Bool} {h : Addr} {zs : List (Value × κ)} {Q : Value → Shared → Prop}
    (R : Room A 3 50) (B : Base mg mb f) (I : Inv σ f ((h, ListO (zs.map Prod.fst)) :: P) s)
    (hlt : ∀ x ∈ zs, ∀ y ∈ zs, CmpLt f x.1 y.1 (lt x.2 y.2)) (hsz : zs.length < 2 ^ 19)
    (hQ : ∀ s', Inv σ f ((h, ListO ((heapifyF (fun x y => lt x.2 y.2) (zs.length / 2) zs).map Prod.fst)) :: P) s' → Q .none s') :
    wpAny (model prog w) A (call (.ref 100) [.ref h]) Q E s := by
  obtain ⟨pm, cd, doc, fn⟩ := B.f16
  refine enter (d := 2) (u := 47) (binds := [(Str.ofString "x", .ref h)]) R I B.lim fn rfl (locs rfl) ?_
  intro L s I R
  refine wpAny_execs_cons (wpAny_Assign_Name (wpAny_Call_NameR (bi I B.G B.nm.len0 B.B B.nm.len (callWith_builtin1 (wpAny_items_cons (ldN I rfl (wpAny_items_nil ?_)))))))
  refine lenL I I.swap.list (by simp; lia) fun s t I => stN' I fun s I => ?_
  refine wpAny_execs_cons (wpAny_For (wpAny_Call_NameR (bi I B.G B.nm.reversed0 B.B B.nm.reversed (PyProof.Rows.callWith_type1 (wpAny_items_cons (wpAny_Call_NameR (bi I B.G B.nm.range0 B.B B.nm.range (PyProof.Rows.callWith_type1 (wpAny_items_cons
    (wpAny_BinOp (ldN I rfl (cInt I fun s t I => opDiv I (by decide) (by decide) fun s t I => wpAny_items_nil (mkRange I fun r s I => wpAny_items_nil ?_)))))))))))))
  have e1 : Int.fdiv (((zs.map Prod.fst).length : Nat) : Int) 2 = ((zs.length / 2 : Nat) : Int) := by
    rw [Int.fdiv_eq_ediv_of_nonneg _ (by decide)]; simp
  rw [e1] at I
  refine revRange (by lia) I fun it s I => iterRI I ?_
  refine codeAny_forLoop (fun n s => ∃ k xs m, n = k ∧ Inv σ f ((it, RIterO ((k : Nat) - 1 : Int) (k : Nat) (-1)) :: (L, FrameO m) :: (h, ListO (xs.map Prod.fst)) :: P) s ∧ m (Str.ofString "x") = some (.ref h) ∧
    xs.length = zs.length ∧ k ≤ xs.length / 2 ∧ (∀ x ∈ xs, x ∈ zs) ∧ heapifyF (fun x y => lt x.2 y.2) k xs = heapifyF (fun x y => lt x.2 y.2) (zs.length / 2) zs) ?_ (zs.length / 2) ?_
  case refine_2 => exact ⟨zs.length / 2, zs, _, rfl, I, rfl, rfl, Nat.le_refl _, fun _ h => h, rfl⟩
  rintro n s ⟨k, xs, m, rfl, I, h1, h2, h3, h4, h5⟩
  cases n with
  | zero =>
    refine endR R.hand I (Int.le_refl _) fun s I => ?_
    refine wpAny_execs_nil (wpAny_execs_nil (hQ _ ?_))
    rw [heapifyF] at h5
    rw [h5] at I
    exact I.drop
  | succ n =>
    have hn : n < xs.length := by lia
    refine nextR I (by lia) fun s t I => ?_
    have e2 : (((n + 1 : Nat) : Int) - 1) = (n : Int) := by lia
    have e3 : (((n + 1 : Nat) : Int) - 1 + (-1)) = ((n : Int) - 1) := by lia
    rw [e3] at I
    simp only [e2] at I ⊢
    refine wpAny_assign_Name (stN' I.swap fun s I => ?_)
    refine absK fun K E' hK => ?_
    refine wpAny_execs_cons (wpAny_Expr (wpAny_Call_NameR (gl I B.G B.nm.siftup (callF B.f20 (wpAny_items_cons (ldN I h1 (wpAny_items_cons (ldN I rfl (wpAny_items_nil ⟨_, _, _, FM.Le.refl f, I, ?_⟩)))))))))
    have I : Inv σ f ((h, ListO (xs.map Prod.fst)) :: (L, _) :: (it, _) :: P) s := I.perm ((List.Perm.cons _ (List.Perm.swap ..)).trans ((List.Perm.swap ..).trans (List.Perm.refl _)))
    refine siftup_ct (lt := lt) (zs := xs) (pos := n) (new := xs[n]) R.le B I (fun x hx y hy => hlt x (h4 x hx) y (h4 y hy)) (List.getElem?_eq_getElem hn) (by lia) fun s I => ?_
    refine wpAny_execs_nil <| hK _ _ ⟨n, by lia, n, siftupF (fun x y => lt x.2 y.2) xs[n] xs n, _, rfl, I.perm ((List.Perm.swap ..).trans ((List.Perm.cons _ (List.Perm.swap ..)).trans (List.Perm.swap ..))), h1, by rw [siftupF_len]; exact h2, by rw [siftupF_len]; lia, ?_, ?_⟩
    · intro y hy
      rcases siftupF_mem _ _ _ _ _ hy with rfl | hy
      · exact h4 _ (List.getElem_mem hn)
      · exact h4 _ hy
    · rw [← h5, heapifyF, List.getElem?_eq_getElem hn]
end
end Mine
end
-- D5
noncomputable section
open PySem PySem.Calls PyProof.Rows PySem.W
set_option maxRecDepth 100000
set_option linter.unusedVariables false
namespace Mine
def rowsStep (st : List (List Int) × List Int) (x : Int) : List (List Int) × List Int := if x.fmod 6 = 0 then (st.1 ++ [st.2], []) else (st.1, st.2 ++ [x.fmod 6])
def rowsF (ns : List Int) : List (List Int) := let st := ns.foldl rowsStep ([], []); st.1 ++ [st.2]
section
variable {prog : Program} {w : World} {A : Around} {E : Value → Shared → Prop} {s : Shared} {σ : OsState} {f : FM} {P : List Cell} {mg mb : Str → Option Value}
theorem law_rows_ct {v : Value} {ns : List Int} {Q : Value → Shared → Prop} (R : Room A 3 50) (B : Base mg mb f) (I : Inv σ f P s) (hv : AInts f v ns) (hsz : ns.length < 2 ^ 10)
    (hQ : ∀ g s' r, FM.Le f g → Inv σ g P s' → AL AInts g r (rowsF ns) → Q r s') :
    wpAny (model prog w) A (call (.ref 155) [v]) Q E s := by
  obtain ⟨pm, cd, doc, fn⟩ := B.f25
  obtain ⟨l, vs, rfl, hl, hvs⟩ := hv
  have hlen := hvs.len
  refine enter (d := 2) (u := 47) (binds := [(Str.ofString "numbers", .ref l)]) R I B.lim fn rfl (locs rfl) ?_
  intro L s I R
  refine wpAny_execs_cons (wpAny_Assign_Name (mkList (wpAny_items_cons (mkList (wpAny_items_nil ⟨by simp, _, _, _, I, fun c s I => wpAny_items_nil ⟨by simp, _, _, _, I, fun rows s I => ?_⟩⟩)))))
  have I : Inv σ f ((L, FrameO _) :: (rows, ListO [Value.ref c]) :: (c, ListO []) :: P) s := I.perm ((List.Perm.cons _ (List.Perm.swap ..)).trans (List.Perm.swap ..))
  refine stN' I fun s I => ?_
  refine wpAny_execs_cons (wpAny_For (ldN I rfl (iterL I (hl.is I) fun it s I => ?_)))
  have I := I.swap
  refine forTurns (n := vs.length) (V := fun i v => vs[i]? = some v)
    (fun i g P' m => ∃ (ds : List Value) (c : Addr) (cs : List Value), P' = (rows, ListO (ds ++ [Value.ref c])) :: (c, ListO cs) :: P ∧ m (Str.ofString "rows") = some (.ref rows) ∧ ds.length ≤ i ∧ cs.length ≤ i ∧
      Al (AInts g) ds ((ns.take i).foldl rowsStep ([], [])).1 ∧ Al AInt cs ((ns.take i).foldl rowsStep ([], [])).2) (Proto.list hl) R.hand ?_ ?_ I ⟨[], c, [], rfl, rfl, Nat.le_refl _, Nat.le_refl _, trivial, trivial⟩
  · rintro i v g P' m s H E' hi hV ⟨ds, c, cs, rfl, hm, hd1, hc1, hd, hc⟩ l I
    obtain ⟨n, hn, t, rfl⟩ := hvs.get i v hV
    have htake : (ns.take (i + 1)).foldl rowsStep ([], []) = rowsStep ((ns.take i).foldl rowsStep ([], [])) n := by
      rw [List.take_add_one, hn]; simp
    generalize hst : (ns.take i).foldl rowsStep ([], []) = st at hd hc htake
    refine absK fun K E' hK => ?_
    refine wpAny_execs_cons (wpAny_If (wpAny_isTrue_Compare1 (wpAny_BinOp (ldN I rfl (cInt I fun s t I => opMod I (by decide) fun s t I => cInt I fun s t I => PySem.P.eq_int (wpAny_truthy_bool ?_))))))
    by_cases h0 : n.fmod 6 = 0
    · rw [if_pos (by simp [h0])]
      refine wpAny_execs_cons (wpAny_Expr (meth1 F.plainAttrs_list F.slot_list_append F.type_list_append (ldN I hm ?_)))
      have I : Inv σ g ((L, _) :: (rows, ListO (ds ++ [Value.ref c])) :: (c, ListO cs) :: (P ++ H)) s := I
      have J := I.swap
      obtain ⟨o, ho, hx⟩ := J.at
      refine ⟨(hx.is ho).typeIs, ListO.plain ho hx, mkList (wpAny_items_nil ⟨by simp, _, _, _, I, fun c' s I => ?_⟩)⟩
      refine appendL I.p3 (by simp; lia) fun s I => ?_
      -- the row that was, frozen
      have I : Inv σ g ((c, ListO cs) :: (rows, ListO ((ds ++ [Value.ref c]) ++ [Value.ref c'])) :: (c', ListO []) :: (L, FrameO _) :: (P ++ H)) s := I.p4
      obtain ⟨oc, hoc, _, l', hc', I⟩ := I.freeze
      refine wpAny_execs_nil (wpAny_execs_nil <| hK _ _ ⟨_, (rows, ListO ((ds ++ [Value.ref c]) ++ [Value.ref c'])) :: (c', ListO []) :: P, _, l', I.p3, ds ++ [Value.ref c], c', [], rfl, hm, by simp; lia, by simp, ?_, ?_⟩)
      · rw [htake, rowsStep, if_pos h0]
        exact (hd.mono fun _ _ h => Rd.int.list.le l' h).app (Al.one ⟨c, cs, rfl, ⟨oc, hc', hoc⟩, hc⟩)
      · rw [htake, rowsStep, if_pos h0]; trivial
    · rw [if_neg (by simp [h0])]
      have I : Inv σ g ((L, _) :: (rows, ListO (ds ++ [Value.ref c])) :: (c, ListO cs) :: (P ++ H)) s := I
      refine wpAny_execs_cons (wpAny_Expr (meth1 F.plainAttrs_list F.slot_list_append F.type_list_append (Subscript_ (ldN I hm (wpAny_UnaryOp (cInt I fun s t I => opNeg I fun s t I => ?_))))))
      refine subLneg (x := .ref c) I.swap.list (by decide) (by simp; lia) (by decide) ?_ ?_
      · have e : ((-1 : Int) + ((ds ++ [Value.ref c]).length : Nat)).toNat = ds.length := by simp; lia
        rw [e]; simp
      · obtain ⟨o, ho, hx⟩ := I.p3.at
        refine ⟨(hx.is ho).typeIs, ListO.plain ho hx, wpAny_BinOp (ldN I rfl (cInt I fun s t I => opMod I (by decide) fun s t I => ?_))⟩
        refine appendL I.p3 (by lia) fun s I => ?_
        refine wpAny_execs_nil (wpAny_execs_nil <| hK _ _ ⟨g, (rows, ListO (ds ++ [Value.ref c])) :: (c, ListO (cs ++ [.int (n.fmod 6) t])) :: P, _, FM.Le.refl g, I.b3, ds, c, _, rfl, (by exact hm), by lia, by simp; lia, ?_, ?_⟩)
        · rw [htake, rowsStep, if_neg h0]; exact hd
        · rw [htake, rowsStep, if_neg h0]; exact hc.app (Al.one ⟨_, rfl⟩)
  · rintro g P' m s ⟨ds, c, cs, rfl, hm, hd1, hc1, hd, hc⟩ l I
    have I := I.p3
    obtain ⟨oc, hoc, _, l', hc', I⟩ := I.freeze
    have I := I.swap
    obtain ⟨orw, hor, _, l'', hr', I⟩ := I.freeze
    have e : ns.take vs.length = ns := by rw [hlen]; exact List.take_length
    rw [e] at hd hc
    have I : Inv σ _ ((L, FrameO m) :: P) s := I
    refine wpAny_execs_cons (wpAny_Return_some (ldN I hm ?_))
    refine hQ _ _ _ (l.trans (l'.trans l'')) I.drop ⟨rows, _, rfl, ⟨orw, hr', hor⟩, ?_⟩
    unfold rowsF
    exact (hd.mono fun _ _ h => Rd.int.list.le (l'.trans l'') h).app (Al.one ⟨c, cs, rfl, IsL.le ⟨oc, hc', hoc⟩ l'', hc⟩)
end
end Mine
end
-- D6
noncomputable section
open PySem PySem.Calls PyProof.Rows PySem.W
set_option maxRecDepth 100000
set_option linter.unusedVariables false
namespace Mine
def menuP (k : Int) : Option Str := if k = 1 then none else some (if k = 0 then Str.ofString "" else if k = 2 then Str.ofString "." else if k = 3 then Str.ofString "\\." else if k = 4 then Str.ofString "a" else Str.ofString "[ab]")
def keepP (told : List (Option Str)) (k : Nat) : Bool := told.getD k none != none || k == 0 || told.getD (k - 1) none != none
def pcsUpTo (told : List (Option Str)) (n : Nat) : List (Option Str) := ((List.range n).filter (keepP told)).map fun k => told.getD k none
def piecesF (row : List Int) : List (Option Str) := pcsUpTo (row.map menuP) (row.map menuP).length
def RowOk (row : List Int) : Prop := ∀ k ∈ row, 1 ≤ k ∧ k ≤ 5
theorem pcsUpTo_succ (told : List (Option Str)) (n : Nat) : pcsUpTo told (n + 1) = if keepP told n = true then pcsUpTo told n ++ [told.getD n none] else pcsUpTo told n := by
  unfold pcsUpTo
  rw [List.range_succ, List.filter_append, List.map_append]
  by_cases h : keepP told n = true
  · rw [if_pos h]; simp [h]
  · rw [if_neg h]; simp [h]
theorem APc.isNone {v : Value} {p : Option Str} (h : APc v p) : (!(v == .none)) = (p != none) := by
  cases p with
  | none => have h : v = .none := h; subst h; rfl
  | some x => obtain ⟨t, rfl⟩ := h; rfl
theorem iterN {prog : Program} {w : World} {A : Around} {E : Value → Shared → Prop} {s : Shared} {σ : OsState} {f : FM} {P : List Cell} {r : Addr} {n : Nat} {Q : Value → Shared → Prop} (I : Inv σ f ((r, RangeO 0 n 1) :: P) s) (hn : n < 2 ^ 30)
    (h : ∀ it s', Inv σ f ((it, RIterO ((0 : Nat) : Int) ((n : Int) - ((0 : Nat) : Int)) 1) :: P) s' → Q (.ref it) s') : wpAny (model prog w) A (pyIter (.ref r)) Q E s := by
  have hsz : Builtin.Range.rangeSize 0 n 1 = n := by
    unfold Builtin.Range.rangeSize
    rw [if_pos (by decide)]
    by_cases h0 : (0 : Int) < n
    · rw [if_pos h0]; lia
    · rw [if_neg h0]; lia
  refine iterR I ?_ fun it s' I => h it s' ?_
  · exact PySem.small_one (by lia) (by lia) (by lia) (by lia)
  · rw [hsz] at I
    simpa using I
section
variable {prog : Program} {w : World} {A : Around} {E : Value → Shared → Prop} {s : Shared} {σ : OsState} {f : FM} {P : List Cell} {mg mb : Str → Option Value}
theorem law_pieces_ct {v : Value} {row : List Int} {Q : Value → Shared → Prop} (R : Room A 3 50) (B : Base mg mb f) (I : Inv σ f P s) (hv : AInts f v row) (hok : RowOk row) (hsz : row.length < 2 ^ 10)
    (hQ : ∀ g s' r, FM.Le f g → Inv σ g P s' → APcs g r (piecesF row) → Q r s') :
    wpAny (model prog w) A (call (.ref 167) [v]) Q E s := by
  obtain ⟨pm, cd, doc, fn⟩ := B.f27
  obtain ⟨l, vs, rfl, hl, hvs⟩ := hv
  have hlen := hvs.len
  refine enterC (d := 2) (u := 47) (binds := [(Str.ofString "row", .ref l)]) R I B.lim fn rfl (fun L x hx => by cases List.mem_singleton.mp hx; exact .inl rfl) (fun L p hp => by cases List.mem_singleton.mp hp; rfl) ?_
  intro L s I R
  have I : Inv σ f ((L, FrameO (fun y => if y = Str.ofString "row" then some (.ref l) else none)) :: (L + 1, CellO none) :: P) s := I
  -- told = [menu[kind] for kind in row]
  refine wpAny_execs_cons (wpAny_Assign_Name (comp (σ := σ) (cl := []) (fun i ws g P' => P' = (L, FrameO (fun y => if y = Str.ofString "row" then some (.ref l) else none)) :: (L + 1, CellO none) :: P ∧ Al APc ws ((row.take i).map menuP)) R.hand rfl rfl (by decide) (by decide) rfl
    (ldN I rfl (iterL I (hl.is I) fun it s I => ?_))))
  refine ⟨it, vs.length, _, _, f, _, rfl, by lia, Proto.list hl, I, ⟨rfl, trivial⟩, ?_, ?_⟩
  · rintro C i v ws g P' m s H E' hi hV ⟨rfl, hws⟩ l' I hm
    obtain ⟨k, hk, t, rfl⟩ := hvs.get i v hV
    have hk1 := hok k (List.mem_of_getElem? hk)
    refine wpAny_pure ?_
    rw [if_pos rfl]
    refine absK fun K E1 hK => ?_
    refine Subscript_ <| mkList <| wpAny_items_cons <| cStr I fun s t0 I => wpAny_items_cons <| wpAny_Constant_none <| wpAny_items_cons <| cStr I fun s t2 I => wpAny_items_cons <| cStr I fun s t3 I =>
      wpAny_items_cons <| cStr I fun s t4 I => wpAny_items_cons <| cStr I fun s t5 I => wpAny_items_nil ⟨by simp, _, _, _, I, fun q s I => ldN I.swap hm ?_⟩
    have key : ∃ x, [Value.str (Str.ofString "") t0, Value.none, Value.str (Str.ofString ".") t2, Value.str (Str.ofString "\\.") t3, Value.str (Str.ofString "a") t4, Value.str (Str.ofString "[ab]") t5][k.toNat]? = some x ∧ APc x (menuP k) := by
      have := five hk1
      rcases this with rfl | rfl | rfl | rfl | rfl
      · exact ⟨_, rfl, rfl⟩
      · exact ⟨_, rfl, _, rfl⟩
      · exact ⟨_, rfl, _, rfl⟩
      · exact ⟨_, rfl, _, rfl⟩
      · exact ⟨_, rfl, _, rfl⟩
    obtain ⟨x, hx, hax⟩ := key
    refine subL (x := x) I.list (by lia) (by lia) hx ?_
    refine hK _ _ ⟨g, _, _, FM.Le.refl g, I.drop, rfl, ?_⟩
    have e : (row.take (i + 1)).map menuP = (row.take i).map menuP ++ [menuP k] := by rw [List.take_add_one, hk]; simp
    rw [e]; exact hws.app (Al.one hax)
  · rintro acc ws g P' s ⟨rfl, hws⟩ l' I
    rw [hlen, List.take_length] at hws
    have hwl := hws.len
    simp only [List.length_map] at hwl
    have hwb : ws.length < 2 ^ 40 := by lia
    refine stC I.p3 fun s I => ?_
    have I := I.b3
    obtain ⟨g1, l1, hacc, I⟩ := I.freezeL
    have I := I.swap
    obtain ⟨g2, l2, hcell, I⟩ := I.freezeC
    have hacc := hacc.le l2
    have B2 := B.le (l'.trans (l1.trans l2))
    -- return [told[k] for k in range(len(told)) if ..]
    refine wpAny_execs_cons (wpAny_Return_some (comp (σ := σ) (cl := [(Str.ofString "told", L + 1)]) (fun i us g P' => P' = (L, FrameO (fun y => if y = Str.ofString "row" then some (.ref l) else none)) :: P ∧ Al APc us (pcsUpTo (row.map menuP) i)) R.hand rfl rfl (by decide) (by decide) rfl
      <| wpAny_Call_NameR <| bi I B2.G B2.nm.range0 B2.B B2.nm.range <| PyProof.Rows.callWith_type1 <| wpAny_items_cons <| wpAny_Call_NameR <| bi I B2.G B2.nm.len0 B2.B B2.nm.len <| callWith_builtin1 <|
        wpAny_items_cons <| ldC (hcell.is I) <| wpAny_items_nil <| lenL I (hacc.is I) (by lia) fun s t I => wpAny_items_nil <| mkRange I fun r s I => iterN I (by lia) fun it s I => ?_))
    refine ⟨it, ws.length, _, _, g2, _, rfl, by lia, Proto.range ws.length, I, ⟨rfl, trivial⟩, ?_, ?_⟩
    · rintro C i v us g P' m s H E' hi ⟨tk, rfl⟩ ⟨rfl, hus⟩ l' I hm
      have hgd : ∀ k, k < (row.map menuP).length → ∃ x, ws[k]? = some x ∧ APc x ((row.map menuP).getD k none) := by
        intro k hk
        have h1 : k < ws.length := by simp at hk; lia
        obtain ⟨y, hy, hay⟩ := hws.get k ws[k] (by simp [h1])
        exact ⟨ws[k], by simp [h1], by rw [List.getD_eq_getElem?_getD, hy]; exact hay⟩
      have hct := hcell.le l'
      have hlt := hacc.le l'
      obtain ⟨x, hx, hax⟩ := hgd i (by simp; lia)
      refine wpAny_mono (Q := fun ok s₁ => ok = keepP (row.map menuP) i ∧ Inv σ g ((C, FrameO m) :: ((L, FrameO (fun y => if y = Str.ofString "row" then some (.ref l) else none)) :: P ++ H)) s₁) ?_ (fun ok s ⟨e, I⟩ => ?_) fun _ _ e => e
      · refine wpAny_tests_one <| wpAny_isTrue_BoolOp <| wpAny_allTrue_Or_cons <| wpAny_isTrue_Compare1 <| Subscript_ <| ldC (hct.is I) <| ldN I hm <| subN (hlt.is I) hwb hx <|
          wpAny_Constant_none <| isNot_none <| wpAny_truthy_bool ?_
        rw [hax.isNone]
        by_cases h1 : ((row.map menuP).getD i none != none) = true
        · rw [h1, if_pos rfl]; exact ⟨by simp only [keepP, h1, Bool.true_or], I⟩
        · rw [Bool.not_eq_true] at h1
          rw [h1, if_neg Bool.false_ne_true]
          refine wpAny_allTrue_Or_cons <| wpAny_isTrue_Compare1 <| ldN I hm <| cInt I fun s t I => PySem.P.eq_int <| wpAny_truthy_bool ?_
          by_cases h2 : i = 0
          · subst h2; rw [if_pos (by decide)]; exact ⟨by simp [keepP], I⟩
          · rw [if_neg (by simp; lia)]
            obtain ⟨y, hy, hay⟩ := hgd (i - 1) (by simp; lia)
            refine wpAny_allTrue_Or_cons <| wpAny_isTrue_Compare1 <| Subscript_ <| ldC (hct.is I) <| wpAny_BinOp <| ldN I hm <| cInt I fun s t I => opSub I fun s t I => subL (x := y) (hlt.is I) (by lia) (by lia) (by rw [← hy]; congr 1; lia) <|
              wpAny_Constant_none <| isNot_none <| wpAny_truthy_bool ?_
            rw [hay.isNone]
            have e : keepP (row.map menuP) i = ((row.map menuP).getD (i - 1) none != none) := by
              unfold keepP; rw [h1]; simp [h2]
            rw [e]
            by_cases h3 : ((row.map menuP).getD (i - 1) none != none) = true
            · rw [h3, if_pos rfl]; exact ⟨rfl, I⟩
            · rw [Bool.not_eq_true] at h3
              rw [h3, if_neg Bool.false_ne_true]
              exact wpAny_allTrue_Or_nil ⟨rfl, I⟩
      · subst e
        by_cases hk : keepP (row.map menuP) i = true
        · rw [if_pos hk]
          refine Subscript_ <| ldC (hct.is I) <| ldN I hm <| subN (hlt.is I) hwb hx ?_
          refine ⟨g, _, _, FM.Le.refl g, I, rfl, ?_⟩
          rw [pcsUpTo_succ, if_pos hk]
          exact hus.app (Al.one hax)
        · rw [if_neg hk]
          refine ⟨g, _, _, FM.Le.refl g, I, rfl, ?_⟩
          rw [pcsUpTo_succ, if_neg hk]
          exact hus
    · rintro acc us g P' s ⟨rfl, hus⟩ l' I
      obtain ⟨g3, l3, hu3, I⟩ := I.freezeL
      refine hQ g3 s _ (FM.Le.trans ‹FM.Le f _› (l1.trans (l2.trans (l'.trans l3)))) I.drop ⟨acc, us, rfl, hu3, ?_⟩
      rw [piecesF, List.length_map, ← hwl]; exact hus
end
end Mine
end
-- R11
noncomputable section
open PySem PySem.Calls PyProof.Rows PySem.W
set_option maxRecDepth 100000
set_option linter.unusedVariables false
namespace Mine
section
variable {prog : Program} {w : World} {A : Around} {E : Value → Shared → Prop} {s : Shared} {σ : OsState} {f : FM} {P : List Cell} {env : Env} {m : Str → Option Value}
/-- the turns of a for over an iterator, without a break, whose name is a cell -/
theorem forTurnsC {x : Str} {px : Pos} {body : List Stmt} {L c it : Addr} {n : Nat} {C : Nat → Obj → Prop} {V : Nat → Value → Prop} {R : Result → Shared → Prop} {v₀ : Option Value}
    (J : Nat → FM → List Cell → (Str → Option Value) → Prop) (pr : Proto f it n C V) (hh : A.handled = none)
    (turn : ∀ i v g P m s H E, i < n → V i v → J i g P m → FM.Le f g → Inv σ g ((L, FrameO m) :: (c, CellO (some v)) :: (P ++ H)) s →
      wpAny (model prog w) A (execs body env) (fun fl s₂ => match fl with
        | .next | .cont => ∃ g' P' m' v', FM.Le g g' ∧ Inv σ g' ((L, FrameO m') :: (c, CellO v') :: (P' ++ H)) s₂ ∧ J (i + 1) g' P' m'
        | .brk => False
        | .ret _ => False) E s)
    (hR : ∀ g P m v s, J n g P m → FM.Le f g → Inv σ g ((L, FrameO m) :: (c, CellO v) :: P) s → R (.ok .next) s)
    (I : Inv σ f ((L, FrameO m) :: (c, CellO v₀) :: (it, C 0) :: P) s) (hJ : J 0 f P m)
    (hc : env.cells.lookup x = some c := by rfl) (hk : env.scope.kind = .function := by rfl) (hx : env.kindOf x = some .cell := by rfl) :
    codeAny (model prog w) A (.forLoop (.Name x px) (.ref it) body [] env) R s := by
  refine codeAny_forLoop (fun k s => ∃ i g P m v, k = n - i ∧ i ≤ n ∧ FM.Le f g ∧ J i g P m ∧ Inv σ g ((L, FrameO m) :: (c, CellO v) :: (it, C i) :: P) s) ?_ n ⟨0, f, P, m, v₀, rfl, Nat.zero_le _, FM.Le.refl f, hJ, I⟩
  rintro k s ⟨i, g, P, m, v₁, rfl, hi, l, hJ, I⟩
  by_cases hlt : i < n
  · refine pr.next i l hh hlt I.p3 fun s v hV I => ?_
    refine wpAny_assign_Name (stC I.p3 (fun s I => ?_) hc hk hx)
    have back : ∀ {g' P' m' v' s}, Inv σ g' ((L, FrameO m') :: (c, CellO v') :: (P' ++ [(it, C (i + 1))])) s → Inv σ g' ((L, FrameO m') :: (c, CellO v') :: (it, C (i + 1)) :: P') s :=
      fun I => I.perm (List.Perm.cons _ (List.Perm.cons _ List.perm_append_comm))
    refine wpAny_mono (turn i v g P m s [(it, C (i + 1))] _ hlt hV hJ l (I.p3.perm (List.Perm.cons _ (List.Perm.cons _ (List.perm_append_comm (l₁ := [(it, C (i + 1))])))))) (fun fl s₂ h₂ => ?_) fun _ _ e => e
    cases fl with
    | next => obtain ⟨g', P', m', v', l', I, hJ'⟩ := h₂; exact ⟨n - (i + 1), by omega, i + 1, g', P', m', v', rfl, hlt, l.trans l', hJ', back I⟩
    | cont => obtain ⟨g', P', m', v', l', I, hJ'⟩ := h₂; exact ⟨n - (i + 1), by omega, i + 1, g', P', m', v', rfl, hlt, l.trans l', hJ', back I⟩
    | brk => exact h₂.elim
    | ret v => exact h₂.elim
  · have e : i = n := by omega
    subst e
    exact pr.stop l hh I.p3 fun s I => wpAny_execs_nil (hR g P m v₁ s hJ l I)
theorem Inv.ex {a : Addr} {vs : List Value} (I : Inv σ f ((a, ListO vs) :: P) s) : ∃ n, s.heap.get? a = some { cls := .type "list", dict := none, data := .seq vs.toArray n, slots := #[] } := by
  obtain ⟨o, h, n, rfl⟩ := I.at
  exact ⟨n, h⟩
theorem IsL.ex {a : Addr} {vs : List Value} (x : IsL f a vs) (I : Inv σ f P s) : ∃ n, s.heap.get? a = some { cls := .type "list", dict := none, data := .seq vs.toArray n, slots := #[] } := by
  obtain ⟨o, h, n, rfl⟩ := x
  exact ⟨n, I.frz _ _ h⟩
/-- list + list -/
theorem addLL {a b : Addr} {vs ws : List Value} {Q : Value → Shared → Prop} (I : Inv σ f P s) (ha : ∃ n, s.heap.get? a = some { cls := .type "list", dict := none, data := .seq vs.toArray n, slots := #[] })
    (hb : ∃ n, s.heap.get? b = some { cls := .type "list", dict := none, data := .seq ws.toArray n, slots := #[] }) (hsz : vs.length + ws.length < 2 ^ 20)
    (h : ∀ r s', Inv σ f ((r, ListO (vs ++ ws)) :: P) s' → Q (.ref r) s') : wpAny (model prog w) A (binaryOp .Add (.ref a) (.ref b)) Q E s := by
  obtain ⟨n, ha⟩ := ha
  obtain ⟨k, hb⟩ := hb
  have e : vs.toArray ++ ws.toArray = (vs ++ ws).toArray := by simp
  refine PySem.P.add_list ha hb (h _ _ (I.push (q := ListO (vs ++ ws)) rfl ⟨0, by rw [← e]⟩ rfl rfl rfl)) ?_
  simp only [List.size_toArray, show sizeLine = 2 ^ 24 from rfl]; omega
/-- a slice of a list -/
theorem sliceL {value : Expr} {lower upper : Option Expr} {p pos : Pos} {Q : Value → Shared → Prop}
    (h : wpAny (model prog w) A (eval value env) (fun o s₁ => wpAny (model prog w) A (evalPart lower env) (fun vl s₂ => wpAny (model prog w) A (evalPart upper env) (fun vu s₃ =>
      ∃ (l : Addr) (vs : List Value) (lo hi : Option Int) (σ : OsState) (f : FM) (P : List Cell), o = .ref l ∧ s₃.heap.IsList l vs.toArray ∧ vs.length < 2 ^ 20 ∧ IsPart vl lo ∧ IsPart vu hi ∧ Inv σ f P s₃ ∧
        ∀ r s', Inv σ f ((r, ListO (slicePick vs.toArray lo hi none).toList) :: P) s' → Q (.ref r) s') E s₂) E s₁) E s)
    (ht : ∀ o r, letTemporaryGo value o r = pure () := by intro _ _; rfl) :
    wpAny (model prog w) A (eval (.Subscript value (.Slice lower upper none p) pos) env) Q E s := by
  refine wpAny_Subscript_list_slice (wpAny_mono h (fun o s₁ h₁ => wpAny_mono h₁ (fun vl s₂ h₂ => wpAny_mono h₂ (fun vu s₃ h₃ => ?_) fun _ _ e => e) fun _ _ e => e) fun _ _ e => e) ht
  obtain ⟨l, vs, lo, hi, σ, f, P, rfl, hl, hsz, pl, pu, I, hQ⟩ := h₃
  refine ⟨l, _, lo, hi, rfl, hl, by simp only [List.size_toArray, show sizeLine = 2 ^ 24 from rfl]; omega, pl, pu, ?_⟩
  have I := I.push (q := fun _ => True) (o := { cls := .type "slice", data := .fields #[vl, vu, .none] }) (s' := { s₃ with heap := s₃.heap.push { cls := .type "slice", data := .fields #[vl, vu, .none] } }) rfl trivial rfl rfl rfl
  have I := I.push (q := ListO (slicePick vs.toArray lo hi none).toList) (o := { cls := .type "list", data := .seq (slicePick vs.toArray lo hi none) }) (s' := { s₃ with heap := (s₃.heap.push { cls := .type "slice", data := .fields #[vl, vu, .none] }).push { cls := .type "list", data := .seq (slicePick vs.toArray lo hi none) } }) rfl ⟨0, by simp⟩ rfl rfl rfl
  rw [Heap.size_push] at I
  exact hQ _ _ (I.swap.drop)
end
end Mine
end
-- D7
noncomputable section
open PySem PySem.Calls PyProof.Rows PySem.W
set_option maxRecDepth 100000
set_option linter.unusedVariables false
namespace Mine
/-- lists of ints, compared item by item -/
def leL : List Int → List Int → Bool
  | x :: xs, y :: ys => if x = y then leL xs ys else decide (x ≤ y)
  | xs, ys => decide (xs.length ≤ ys.length)
def ltL : List Int → List Int → Bool
  | x :: xs, y :: ys => if x = y then ltL xs ys else decide (x < y)
  | xs, ys => decide (xs.length < ys.length)
def eqvI (v w : Value) : Bool := match v, w with
  | .int a _, .int b _ => a == b
  | _, _ => false
def levI (v w : Value) : Bool := match v, w with
  | .int a _, .int b _ => decide (a ≤ b)
  | _, _ => false
def ltvI (v w : Value) : Bool := match v, w with
  | .int a _, .int b _ => decide (a < b)
  | _, _ => false
theorem cmpV_le : ∀ {vs ws : List Value} {xs ys : List Int}, Al AInt vs xs → Al AInt ws ys → cmpV .LtE eqvI levI vs ws = leL xs ys ∧ cmpV .Lt eqvI ltvI vs ws = ltL xs ys
  | [], [], [], [], _, _ => ⟨rfl, rfl⟩
  | [], _ :: _, [], _ :: _, _, h => ⟨by simp [cmpV, sizesV, leL], by simp [cmpV, sizesV, ltL]⟩
  | _ :: _, [], _ :: _, [], _, _ => ⟨by simp [cmpV, sizesV, leL], by simp [cmpV, sizesV, ltL]⟩
  | v :: vs, w :: ws, x :: xs, y :: ys, ⟨hx, hxs⟩, ⟨hy, hys⟩ => by
    obtain ⟨t, rfl⟩ := hx
    obtain ⟨u, rfl⟩ := hy
    have ih := cmpV_le hxs hys
    simp only [cmpV, eqvI, levI, ltvI, leL, ltL, ih.1, ih.2]
    by_cases h : x = y
    · subst h; simp
    · rw [show (x == y) = false from by simpa using h]; simp [h]
  | [], _, _ :: _, _, h, _ => h.elim
  | _ :: _, _, [], _, h, _ => h.elim
  | _, [], _, _ :: _, _, h => h.elim
  | _, _ :: _, _, [], _, h => h.elim
theorem rcLe {f : FM} {v w : Value} {xs ys : List Int} (hx : AInts f v xs) (hy : AInts f w ys) : RcOk f 1 .LtE v w (leL xs ys) := by
  obtain ⟨a, vs, rfl, h1, h2⟩ := hx
  obtain ⟨b, ws, rfl, h3, h4⟩ := hy
  rw [← (cmpV_le h2 h4).1]
  refine rcList (u := 0) (.inr (.inr (.inr rfl))) h1 h3 (fun v hv w hw => ?_) (fun _ _ v hv w hw => ?_)
  · obtain ⟨x, _, t, rfl⟩ := h2.mem hv
    obtain ⟨y, _, u, rfl⟩ := h4.mem hw
    exact EqOk.int _ _ _ _ _ _
  · obtain ⟨x, _, t, rfl⟩ := h2.mem hv
    obtain ⟨y, _, u, rfl⟩ := h4.mem hw
    exact RcOk.intLe _ _ _ _ _ _
theorem rcLt {f : FM} {v w : Value} {xs ys : List Int} (hx : AInts f v xs) (hy : AInts f w ys) : RcOk f 1 .Lt v w (ltL xs ys) := by
  obtain ⟨a, vs, rfl, h1, h2⟩ := hx
  obtain ⟨b, ws, rfl, h3, h4⟩ := hy
  rw [← (cmpV_le h2 h4).2]
  refine rcList (u := 0) (.inr (.inr (.inl rfl))) h1 h3 (fun v hv w hw => ?_) (fun _ _ v hv w hw => ?_)
  · obtain ⟨x, _, t, rfl⟩ := h2.mem hv
    obtain ⟨y, _, u, rfl⟩ := h4.mem hw
    exact EqOk.int _ _ _ _ _ _
  · obtain ⟨x, _, t, rfl⟩ := h2.mem hv
    obtain ⟨y, _, u, rfl⟩ := h4.mem hw
    exact RcOk.intLt _ _ _ _ _ _
/-- a mark among those before it -/
def insM (told : List (List Int)) (m : List Int) : List (List Int) := told.take (told.filter fun o => leL o m).length ++ [m] ++ told.drop (told.filter fun o => leL o m).length
def risingF (ms : List (List Int)) : List (List Int) := ms.foldl insM []
theorem insM_len (told m) : (insM told m).length = told.length + 1 := by
  unfold insM
  simp only [List.length_append, List.length_take, List.length_drop, List.length_singleton]
  lia
theorem foldl_insM_len : ∀ (ms : List (List Int)) (told), (ms.foldl insM told).length = told.length + ms.length
  | [], told => by simp
  | m :: ms, told => by rw [List.foldl_cons, foldl_insM_len ms, insM_len, List.length_cons]; lia
section
variable {prog : Program} {w : World} {A : Around} {E : Value → Shared → Prop} {s : Shared} {σ : OsState} {f : FM} {P : List Cell} {mg mb : Str → Option Value}
theorem law_rising_ct {v : Value} {ms : List (List Int)} {Q : Value → Shared → Prop} (R : Room A 3 50) (B : Base mg mb f) (I : Inv σ f P s) (hv : AL AInts f v ms) (hsz : ms.length < 2 ^ 10)
    (hQ : ∀ g s' r, FM.Le f g → Inv σ g P s' → AL AInts g r (risingF ms) → Q r s') :
    wpAny (model prog w) A (call (.ref 177) [v]) Q E s := by
  obtain ⟨pm, cd, doc, fn⟩ := B.f29
  obtain ⟨l, vs, rfl, hl, hvs⟩ := hv
  have hlen := hvs.len
  refine enterC (d := 2) (u := 47) (binds := [(Str.ofString "marks", .ref l)]) R I B.lim fn rfl (fun L x hx => by cases List.mem_singleton.mp hx; exact .inl rfl) (fun L p hp => by cases List.mem_singleton.mp hp; rfl) ?_
  intro L s I R
  have I : Inv σ f ((L, FrameO (fun y => if y = Str.ofString "marks" then some (.ref l) else none)) :: (L + 1, CellO none) :: P) s := I
  refine wpAny_execs_cons (wpAny_Assign_Name (mkList (wpAny_items_nil ⟨by simp, _, _, _, I, fun t0 s I => ?_⟩)))
  obtain ⟨g0, l0, ht0, I⟩ := I.freezeL
  refine stN' I fun s I => ?_
  have B := B.le l0
  have hl := hl.le l0
  refine wpAny_execs_cons (wpAny_For (ldN I rfl (iterL I (hl.is I) fun it s I => ?_)))
  have I := I.swap
  have I := Inv.perm I (List.Perm.cons _ (List.Perm.swap ..))
  refine forTurnsC (c := L + 1) (n := vs.length) (V := fun i v => vs[i]? = some v)
    (fun i g P' m => P' = P ∧ ∃ t, m (Str.ofString "told") = some t ∧ AL AInts g t ((ms.take i).foldl insM [])) (Proto.list hl) R.hand ?_ ?_ I ⟨rfl, .ref t0, rfl, t0, [], rfl, ht0, trivial⟩
  · rintro i v g P' m s H E' hi hV ⟨rfl, t, hm, told⟩ l I
    obtain ⟨b, hb, hvb⟩ := hvs.get i v hV
    have hvb : AInts g v b := Rd.int.list.le (l0.trans l) hvb
    have told' := told
    obtain ⟨ta, ts, rfl, hta, hts⟩ := told'
    have htl := hts.len
    rw [foldl_insM_len, List.length_nil, List.length_take] at htl
    have B := B.le l
    refine absK fun K E0 hK => ?_
    -- place = len([other for other in told if other <= mark])
    refine wpAny_execs_cons <| wpAny_Assign_Name <| wpAny_Call_NameR <| bi I B.G B.nm.len0 B.B B.nm.len <| callWith_builtin1 <|
      wpAny_items_cons <| comp (σ := σ) (cl := [(Str.ofString "mark", L + 1)]) (fun j us g' P'' => P'' = (L, FrameO m) :: (L + 1, CellO (some v)) :: (P' ++ H) ∧ ∃ ks : List (List Int), Al (AInts g') us ks ∧ ks = (((ms.take i).foldl insM []).take j).filter fun o => leL o b) R.hand rfl rfl (by decide) (by decide) rfl
      <| ldN I hm <| iterL I (hta.is I) fun it s I => ?_
    refine ⟨it, ts.length, _, _, g, _, rfl, by lia, Proto.list hta, I, ⟨rfl, [], trivial, rfl⟩, ?_, ?_⟩
    · rintro C j x us g' P'' m' s H' E'' hj hx ⟨rfl, ks, hks, hke⟩ l' I hm'
      obtain ⟨o, ho, hxo⟩ := hts.get j x hx
      have hxo : AInts g' x o := Rd.int.list.le l' hxo
      refine wpAny_mono (Q := fun ok s₁ => ok = leL o b ∧ Inv σ g' ((C, FrameO m') :: ((L, FrameO m) :: (L + 1, CellO (some v)) :: (P' ++ H) ++ H')) s₁) ?_ (fun ok s ⟨e, I⟩ => ?_) fun _ _ e => e
      · refine wpAny_tests_one <| wpAny_isTrue_Compare1 <| ldN I hm' <| ldC I.p3.isCell ?_
        refine rcLe hxo (Rd.int.list.le l' hvb) _ _ _ _ _ σ g' _ _ (FM.Le.refl g') (R.le (by decide) (by decide)) I fun s I => wpAny_truthy_bool ⟨rfl, I⟩
      · have tk : ((ms.take i).foldl insM []).take (j + 1) = ((ms.take i).foldl insM []).take j ++ [o] := by rw [List.take_add_one, ho]; rfl
        subst e
        by_cases hle : leL o b = true
        · rw [if_pos hle]
          refine ldN I hm' ⟨g', _, _, FM.Le.refl g', I, rfl, ks ++ [o], hks.app (Al.one hxo), ?_⟩
          rw [tk, List.filter_append, ← hke]; simp [hle]
        · rw [if_neg hle]
          refine ⟨g', _, _, FM.Le.refl g', I, rfl, ks, hks, ?_⟩
          rw [tk, List.filter_append, ← hke]; simp [hle]
    · rintro acc us g' P'' s ⟨rfl, ks, hks, hke⟩ l' I
      rw [List.take_of_length_le (by rw [hts.len]; exact Nat.le_refl _)] at hke
      have hul := hks.len
      rw [hke] at hul
      have hf := List.length_filter_le (fun o => leL o b) ((ms.take i).foldl insM [])
      rw [← hts.len] at hf
      have hta := hta.le l'
      have hB := B.le l'
      refine wpAny_items_nil <| lenL I I.list (by lia) fun s t I => ?_
      refine stN' I.drop fun s I => ?_
      -- told = told[:place] + [mark] + told[place:]
      generalize hp : us.length = p at I hul
      have hta2 := hts.len
      refine wpAny_execs_cons <| wpAny_Assign_Name <| wpAny_BinOp <| wpAny_BinOp <| sliceL <| ldN I hm <| wpAny_evalPart_none <| wpAny_evalPart_some <| ldN I rfl ⟨ta, ts, _, _, _, _, _, rfl, hta.is I, by lia, .none, .int p t, I, fun r1 s I => ?_⟩
      rw [show slicePick ts.toArray none (some ((p : Nat) : Int)) none = (ts.take p).toArray from by rw [slicePick_upto' _ p], List.toList_toArray] at I
      refine mkList <| wpAny_items_cons <| ldC I.p3.isCell <| wpAny_items_nil ⟨by simp, _, _, _, I, fun r2 s I => ?_⟩
      refine addLL I I.swap.ex I.ex (by simp; lia) fun r3 s I => ?_
      have I := Inv.swap I.swap.drop.swap.drop
      refine sliceL <| ldN I hm <| wpAny_evalPart_some <| ldN I rfl <| wpAny_evalPart_none ⟨ta, ts, _, _, _, _, _, rfl, hta.is I, by lia, .int p t, .none, I, fun r4 s I => ?_⟩
      rw [show slicePick ts.toArray (some ((p : Nat) : Int)) none none = (ts.drop p).toArray from by rw [slicePick_from' _ p], List.toList_toArray] at I
      refine addLL I I.p3.ex I.ex (by simp; lia) fun r5 s I => ?_
      obtain ⟨g2, l2, h5, I⟩ := I.freezeL
      refine stN' I.drop fun s I => ?_
      refine wpAny_execs_nil <| hK _ _ ⟨g2, P', _, _, l'.trans l2, I.swap.drop, rfl, _, rfl, r5, _, rfl, h5, ?_⟩
      · have e : (ms.take (i + 1)).foldl insM [] = insM ((ms.take i).foldl insM []) b := by rw [List.take_add_one, hb]; simp
        rw [e, insM, ← hul]
        have hts' := hts.mono fun _ _ h => Rd.int.list.le (l'.trans l2) h
        exact ((hts'.take p).app (Al.one (Rd.int.list.le (l'.trans l2) hvb))).app (hts'.drop p)
  · rintro g P' m v s ⟨rfl, t, hm, told⟩ l I
    rw [List.take_of_length_le (by lia)] at told
    refine wpAny_execs_cons <| wpAny_Return_some <| ldN I hm ?_
    exact hQ _ _ _ (l0.trans l) I.drop.drop told
end
end Mine
end
-- R12
noncomputable section
open PySem PySem.Calls PyProof.Rows PySem.W
set_option maxRecDepth 100000
set_option linter.unusedVariables false
namespace Mine
section
variable {prog : Program} {w : World} {A : Around} {E : Value → Shared → Prop} {s : Shared} {σ : OsState} {f : FM} {P : List Cell} {env : Env} {m : Str → Option Value}
/-- the turns of a comprehension whose name is a cell -/
theorem compTurnsC {elt iter : Expr} {ifs : List Expr} {x : Str} {px : Pos} {scope : Scope} {cl : List (Str × Addr)} {pos : Pos} {L c it acc : Addr} {n : Nat} {C : Nat → Obj → Prop} {V : Nat → Value → Prop} {R : Result → Shared → Prop}
    (J : Nat → List Value → FM → List Cell → Prop) (pr : Proto f it n C V) (hh : A.handled = none) (hn : n < 2 ^ 20)
    (hc : (cenvOf scope cl L env).cells.lookup x = some c) (hk : (cenvOf scope cl L env).scope.kind = .function) (hx : (cenvOf scope cl L env).kindOf x = some .cell)
    (turn : ∀ i v vs g P m s H E, i < n → V i v → J i vs g P → FM.Le f g → Inv σ g ((L, FrameO m) :: (c, CellO (some v)) :: (P ++ H)) s →
      wpAny (model prog w) A (testsOf ifs (cenvOf scope cl L env)) (fun ok s₁ => if ok = true then
          wpAny (model prog w) A (eval elt (cenvOf scope cl L env)) (fun y s₂ => ∃ g' P' m' v', FM.Le g g' ∧ Inv σ g' ((L, FrameO m') :: (c, CellO v') :: (P' ++ H)) s₂ ∧ J (i + 1) (vs ++ [y]) g' P') E s₁
        else ∃ g' P' m' v', FM.Le g g' ∧ Inv σ g' ((L, FrameO m') :: (c, CellO v') :: (P' ++ H)) s₁ ∧ J (i + 1) vs g' P') E s)
    (hR : ∀ vs g P m v s, J n vs g P → FM.Le f g → Inv σ g ((L, FrameO m) :: (c, CellO v) :: (acc, ListO vs) :: P) s → R (.ok .next) s) :
    ∀ (s : Shared) (vs : List Value) (g : FM) (m : Str → Option Value) (v₀ : Option Value), vs.length ≤ 0 → FM.Le f g → J 0 vs g P → Inv σ g ((L, FrameO m) :: (c, CellO v₀) :: (it, C 0) :: (acc, ListO vs) :: P) s →
      codeAny (model prog w) A (.compLoop (.ListComp elt [⟨.Name x px, iter, ifs, 0⟩] scope pos) 0 (.ref it) (.ref acc) (cenvOf scope cl L env)) R s := by
  intro s vs g m v₀ hv l hJ I
  refine codeAny_compLoop_tests (fun k s => ∃ i vs g P m v, k = n - i ∧ i ≤ n ∧ vs.length ≤ i ∧ FM.Le f g ∧ J i vs g P ∧ Inv σ g ((L, FrameO m) :: (c, CellO v) :: (it, C i) :: (acc, ListO vs) :: P) s) ?_ n ⟨0, vs, g, P, m, v₀, rfl, Nat.zero_le _, hv, l, hJ, I⟩
  rintro k s ⟨i, vs, g, P, m, v₁, rfl, hi, hv, l, hJ, I⟩
  by_cases hlt : i < n
  · refine pr.next i l hh hlt I.p3 fun s v hV I => ?_
    refine wpAny_assign_Name (stC I.p3 (fun s I => ?_) hc hk hx)
    have back : ∀ {g' P' m' v' vs s}, Inv σ g' ((L, FrameO m') :: (c, CellO v') :: (P' ++ [(it, C (i + 1)), (acc, ListO vs)])) s → Inv σ g' ((acc, ListO vs) :: (L, FrameO m') :: (c, CellO v') :: (it, C (i + 1)) :: P') s :=
      fun {g' P' m' v' vs s} I => (Inv.perm (P' := (L, FrameO m') :: (c, CellO v') :: (it, C (i + 1)) :: (acc, ListO vs) :: P') I (List.Perm.cons _ (List.Perm.cons _ (List.perm_append_comm (l₂ := [(it, C (i + 1)), (acc, ListO vs)]))))).p4
    refine wpAny_mono (turn i v vs g P m s [(it, C (i + 1)), (acc, ListO vs)] _ hlt hV hJ l (I.p3.perm (List.Perm.cons _ (List.Perm.cons _ (List.perm_append_comm (l₁ := [(it, C (i + 1)), (acc, ListO vs)])))))) (fun ok s₁ h₁ => ?_) fun _ _ e => e
    cases ok with
    | true =>
      rw [if_pos rfl] at h₁ ⊢
      refine wpAny_mono h₁ (fun y s₂ h₂ => ?_) fun _ _ e => e
      obtain ⟨g', P', m', v', l', I, hJ'⟩ := h₂
      refine appendL (back I) (by lia) fun s I => ?_
      exact ⟨n - (i + 1), by lia, i + 1, vs ++ [y], g', P', m', v', rfl, hlt, by simp; lia, l.trans l', hJ', I.b4⟩
    | false =>
      rw [if_neg Bool.false_ne_true] at h₁ ⊢
      obtain ⟨g', P', m', v', l', I, hJ'⟩ := h₁
      exact ⟨n - (i + 1), by lia, i + 1, vs, g', P', m', v', rfl, hlt, by lia, l.trans l', hJ', (back I).b4⟩
  · have e : i = n := by lia
    subst e
    exact pr.stop l hh I.p3 fun s I => hR vs g P m v₁ s hJ l I
theorem newEnv1 {M : Model} {scope : Scope} {x : Str} {cl : List (Str × Addr)} {Q : Env → Shared → Prop} (I : Inv σ f P s) (hcf : ∀ n acc, cellsFrom n scope.names acc = (x, n) :: acc)
    (hpc : ∀ h, pushCells h scope.names = h.push { cls := .type "cell", data := .cell none })
    (hQ : ∀ L c s', Inv σ f ((L, FrameO fun _ => none) :: (c, CellO none) :: P) s' → Q { scope := scope, locals := L, globals := env.globals, cells := (x, c) :: cl, qual := env.qual, func := none, code := env.code, frame := env.frame, builtins := env.builtins } s') :
    wpAny M A (newFunctionEnv scope env.globals cl [] env.qual none .none (some env)) Q E s := by
  simp only [newFunctionEnv, Option.isSome_some, if_true]
  refine wpAny_bind (wpAny_alloc ?_)
  refine wpAny_bind (wpAny_layCells _ (fun name kind cells => by cases hkc : kind == NameKind.cell <;> simp [hkc]) _ _ _ _ ?_)
  rw [hcf, hpc]
  simp only [List.forIn_nil]
  refine wpAny_bind (wpAny_pure (wpAny_pure ?_))
  have I := I.push (q := FrameO fun _ => none) (o := { cls := .type "dict", data := .dict #[] }) (s' := { s with heap := s.heap.push { cls := .type "dict", data := .dict #[] } }) rfl ?_ rfl rfl rfl
  have I := I.push (q := CellO none) (o := { cls := .type "cell", data := .cell none }) (s' := { s with heap := (s.heap.push { cls := .type "dict", data := .dict #[] }).push { cls := .type "cell", data := .cell none } }) rfl rfl rfl rfl rfl
  · exact hQ _ _ _ I.swap
  · obtain ⟨o, ho, h⟩ := FrameO.of_ns (Heap.Ns.new s.heap (.type "dict"))
    rw [Heap.get?_push_size _ rfl] at ho
    cases ho
    exact h
/-- a comprehension whose own name is a cell -/
theorem compC {elt iter : Expr} {ifs : List Expr} {x : Str} {px : Pos} {scope : Scope} {cl : List (Str × Addr)} {pos : Pos} {Q : Value → Shared → Prop}
    (J : Nat → List Value → FM → List Cell → Prop) (hh : A.handled = none)
    (hclos : closureFor scope env = pure cl) (hkind : scope.kind = .function) (hnames : ∀ x ∈ scope.names, x.2 = .local → scope.names.lookup x.1 = some .local)
    (hcf : ∀ n acc, cellsFrom n scope.names acc = (x, n) :: acc) (hpc : ∀ h, pushCells h scope.names = h.push { cls := .type "cell", data := .cell none })
    (hx : ∀ L cl, (cenvOf scope cl L env).kindOf x = some .cell)
    (h : wpAny (model prog w) A (eval iter env) (fun xv s₁ => wpAny (model prog w) A (pyIter xv) (fun itv s₂ => ∃ it n C V f P, itv = .ref it ∧ n < 2 ^ 20 ∧ Proto f it n C V ∧ Inv σ f ((it, C 0) :: P) s₂ ∧ J 0 [] f P ∧
        (∀ L c i v vs g P m s H E, i < n → V i v → J i vs g P → FM.Le f g → Inv σ g ((L, FrameO m) :: (c, CellO (some v)) :: (P ++ H)) s →
          wpAny (model prog w) A (testsOf ifs (cenvOf scope ((x, c) :: cl) L env)) (fun ok s₁ => if ok = true then
              wpAny (model prog w) A (eval elt (cenvOf scope ((x, c) :: cl) L env)) (fun y s₂ => ∃ g' P' m' v', FM.Le g g' ∧ Inv σ g' ((L, FrameO m') :: (c, CellO v') :: (P' ++ H)) s₂ ∧ J (i + 1) (vs ++ [y]) g' P') E s₁
            else ∃ g' P' m' v', FM.Le g g' ∧ Inv σ g' ((L, FrameO m') :: (c, CellO v') :: (P' ++ H)) s₁ ∧ J (i + 1) vs g' P') E s) ∧
        (∀ acc vs g P s, J n vs g P → FM.Le f g → Inv σ g ((acc, ListO vs) :: P) s → Q (.ref acc) s)) E s₁) E s)
    (hs : ∀ x, foldedSetIterable iter env x = pure x := by intro _; rfl) :
    wpAny (model prog w) A (eval (.ListComp elt [⟨.Name x px, iter, ifs, 0⟩] scope pos) env) Q E s := by
  rw [eval_ListComp]
  refine wpAny_comprehension_free (g := ⟨.Name x px, iter, ifs, 0⟩) (gs := []) (use := none) rfl hs hclos hkind hnames (wpAny_mono h (fun xv s₁ h₁ => wpAny_mono h₁ (fun itv s₂ h₂ => ?_) fun _ _ e => e) fun _ _ e => e)
  obtain ⟨it, n, C, V, f, P, rfl, hn, pr, I, hJ, turn, hQ⟩ := h₂
  refine wpAny_newObj_type ?_ (by simp [sizeOk])
  have I := I.push (q := ListO []) (o := { cls := .type "list", data := .seq #[] }) (s' := { s₂ with heap := s₂.heap.push { cls := .type "list", data := .seq #[] } }) rfl ⟨0, rfl⟩ rfl rfl rfl
  generalize s₂.heap.objs.size = acc at I ⊢
  generalize ({ s₂ with heap := s₂.heap.push { cls := .type "list", data := .seq #[] } } : Shared) = s₃ at I ⊢
  refine newEnv1 I hcf hpc fun L c s₄ I => ?_
  have I : Inv σ f ((L, FrameO (fun _ => none)) :: (c, CellO none) :: (it, C 0) :: (acc, ListO []) :: P) s₄ := I.perm (List.Perm.cons _ (List.Perm.cons _ (List.Perm.swap ..)))
  have loop : codeAny (model prog w) A (.compLoop (.ListComp elt [⟨.Name x px, iter, ifs, 0⟩] scope pos) 0 (.ref it) (.ref acc) (cenvOf scope ((x, c) :: cl) L env)) (compPost (model prog w) A E none Q (.ref acc) L) s₄ := by
    refine compTurnsC (c := c) J pr hh hn (by simp [cenvOf]) (by exact hkind) (hx _ _) (turn L c) (fun vs g P m v s hJ l I => ?_) s₄ [] f _ _ (Nat.le_refl _) (FM.Le.refl f) hJ I
    refine ⟨m, I.ns, fun h' hs => hQ acc vs g P _ hJ l ?_⟩
    have I : Inv σ g ((c, CellO v) :: (acc, ListO vs) :: P) { s with heap := h' } := I.gone hs.extBut rfl rfl
    exact I.drop
  exact codeAny_compStart_list loop (pr.iter 0 I.p3 loop)
end
end Mine
end
-- D8
noncomputable section
open PySem PySem.Calls PyProof.Rows PySem.W
set_option maxRecDepth 100000
set_option linter.unusedVariables false
namespace Mine
def kindsP : List (Option Str) := [none, some (Str.ofString "."), some (Str.ofString "[ab]")]
def breadthF (ps : List (Option Str)) : List Int := kindsP.map fun k => ((ps.filter fun p => decide (p = k)).length : Int)
section
variable {prog : Program} {w : World} {A : Around} {E : Value → Shared → Prop} {s : Shared} {σ : OsState} {f : FM} {P : List Cell} {mg mb : Str → Option Value}
theorem eqPc {v w' : Value} {x y : Option Str} {Q : Value → Shared → Prop} (hv : APc v x) (hw : APc w' y) (h : Q (.bool (decide (x = y))) s) : wpAny (model prog w) A (compareOp .Eq v w') Q E s := by
  cases x with
  | none =>
    have e : v = .none := hv
    subst e
    cases y with
    | none =>
      have e : w' = .none := hw
      subst e
      exact EqNone.eq_none_none (by simpa using h)
    | some y =>
      obtain ⟨t, rfl⟩ := hw
      exact EqNone.eq_none_str (by simpa using h)
  | some x =>
    obtain ⟨t, rfl⟩ := hv
    cases y with
    | none =>
      have e : w' = .none := hw
      subst e
      exact EqNone.eq_str_none (by simpa using h)
    | some y =>
      obtain ⟨t', rfl⟩ := hw
      refine PyProof.Rows.eq_str ?_
      rw [show (x == y) = decide (some x = some y) from by rw [Bool.eq_iff_iff]; simp]
      exact h
theorem law_breadth_ct {v : Value} {ps : List (Option Str)} {Q : Value → Shared → Prop} (R : Room A 3 50) (B : Base mg mb f) (I : Inv σ f P s) (hv : APcs f v ps) (hsz : ps.length < 2 ^ 10)
    (hQ : ∀ g s' r, FM.Le f g → Inv σ g P s' → AInts g r (breadthF ps) → Q r s') :
    wpAny (model prog w) A (call (.ref 172) [v]) Q E s := by
  obtain ⟨pm, cd, doc, fn⟩ := B.f28
  obtain ⟨l, vs, rfl, hl, hvs⟩ := hv
  have hlen := hvs.len
  refine enterC (d := 2) (u := 47) (binds := [(Str.ofString "pieces", .ref l)]) R I B.lim fn rfl (fun L x hx => by cases List.mem_singleton.mp hx; exact .inr ⟨rfl, rfl⟩) (fun L p hp => by cases List.mem_singleton.mp hp; rfl) ?_
  intro L s I R
  have I : Inv σ f ((L, FrameO (fun y => none)) :: (L + 1, CellO (some (.ref l))) :: P) s := I
  have I := I.swap
  obtain ⟨g1, l1, hcell, I⟩ := I.freezeC
  have I := I.drop
  have B := B.le l1
  have hl := hl.le l1
  refine wpAny_execs_cons <| wpAny_Return_some <| compC (σ := σ) (cl := [(Str.ofString "pieces", L + 1)]) (fun i us g P' => P' = P ∧ Al AInt us ((breadthF ps).take i)) R.hand rfl rfl (by decide) (fun _ _ => rfl) (fun _ => rfl) (fun _ _ => rfl) <|
    mkList <| wpAny_items_cons <| wpAny_Constant_none <| wpAny_items_cons <| cStr I fun s t1 I => wpAny_items_cons <| cStr I fun s t2 I => wpAny_items_nil ⟨by simp, _, _, _, I, fun q s I => ?_⟩
  obtain ⟨g2, l2, hq, I⟩ := I.freezeL
  have hcell := hcell.le l2
  have B := B.le l2
  have hl := hl.le l2
  have hks : Al APc [Value.none, Value.str (Str.ofString ".") t1, Value.str (Str.ofString "[ab]") t2] kindsP := ⟨rfl, ⟨_, rfl⟩, ⟨_, rfl⟩, trivial⟩
  refine iterL I (hq.is I) fun it s I => ?_
  refine ⟨it, 3, _, _, g2, _, rfl, by decide, Proto.list hq, I, ⟨rfl, trivial⟩, ?_, ?_⟩
  · rintro C c i v us g P' m s H E' hi hV ⟨rfl, hus⟩ l' I
    obtain ⟨k, hk, hvk⟩ := hks.get i v hV
    refine wpAny_pure ?_
    rw [if_pos rfl]
    refine absK fun K E1 hK => ?_
    have B := B.le l'
    have hl := hl.le l'
    refine wpAny_Call_NameR <| bi I B.G B.nm.len0 B.B B.nm.len <| callWith_builtin1 <|
      wpAny_items_cons <| comp (σ := σ) (cl := [(Str.ofString "kind", c)]) (fun j ws g' P'' => P'' = (C, FrameO m) :: (c, CellO (some v)) :: (P' ++ H) ∧ ∃ ks : List (Option Str), Al APc ws ks ∧ ks = (ps.take j).filter fun p => decide (p = k)) R.hand rfl rfl (by decide) (by decide) rfl
      <| ldC ((hcell.le l').is I) <| iterL I (hl.is I) fun it s I => ?_
    refine ⟨it, vs.length, _, _, g, _, rfl, by lia, Proto.list hl, I, ⟨rfl, [], trivial, rfl⟩, ?_, ?_⟩
    · rintro D j x ws g' P'' m' s H' E'' hj hx ⟨rfl, ks, hks, hke⟩ l'' I hm'
      obtain ⟨o, ho, hxo⟩ := hvs.get j x hx
      refine wpAny_mono (Q := fun ok s₁ => ok = decide (o = k) ∧ Inv σ g' ((D, FrameO m') :: ((C, FrameO m) :: (c, CellO (some v)) :: (P' ++ H) ++ H')) s₁) ?_ (fun ok s ⟨e, I⟩ => ?_) fun _ _ e => e
      · exact wpAny_tests_one <| wpAny_isTrue_Compare1 <| ldN I hm' <| ldC I.p3.isCell <| eqPc hxo hvk <| wpAny_truthy_bool ⟨rfl, I⟩
      · have tk : ps.take (j + 1) = ps.take j ++ [o] := by rw [List.take_add_one, ho]; rfl
        subst e
        by_cases hle : o = k
        · rw [if_pos (by simpa using hle)]
          refine ldN I hm' ⟨g', _, _, FM.Le.refl g', I, rfl, ks ++ [o], hks.app (Al.one hxo), ?_⟩
          rw [tk, List.filter_append, ← hke]; simp [hle]
        · rw [if_neg (by simpa using hle)]
          refine ⟨g', _, _, FM.Le.refl g', I, rfl, ks, hks, ?_⟩
          rw [tk, List.filter_append, ← hke]; simp [hle]
    · rintro acc ws g' P'' s ⟨rfl, ks, hks, hke⟩ l'' I
      rw [List.take_of_length_le (by lia)] at hke
      have hul := hks.len
      have hf := List.length_filter_le (fun p => decide (p = k)) ps
      rw [← hke] at hf
      refine wpAny_items_nil <| lenL I I.list (by lia) fun s t I => ?_
      refine hK _ _ ⟨g', _, _, _, l'', I.drop, rfl, ?_⟩
      have e : (breadthF ps).take (i + 1) = (breadthF ps).take i ++ [(ks.length : Int)] := by
        rw [List.take_add_one]
        unfold breadthF
        rw [List.getElem?_map, hk, hke]; rfl
      rw [e]
      exact hus.app (Al.one ⟨t, by rw [hul]⟩)
  · rintro acc us g P' s ⟨rfl, hus⟩ l' I
    obtain ⟨g3, l3, h3, I⟩ := I.freezeL
    exact hQ g3 s _ (l1.trans (l2.trans (l'.trans l3))) I ⟨acc, us, rfl, h3, hus⟩
end
end Mine
end
-- R13
noncomputable section
open PySem PySem.Calls PyProof.Rows PySem.W
set_option maxRecDepth 100000
set_option linter.unusedVariables false
namespace Mine
/-- a frozen tuple -/
def IsT (f : FM) (a : Addr) (vs : List Value) : Prop := ∃ o, f a = some o ∧ TupO vs o
theorem IsT.le {f g a vs} (x : IsT f a vs) (l : FM.Le f g) : IsT g a vs := let ⟨o, h, e⟩ := x; ⟨o, l _ _ h, e⟩
theorem Inv.freezeT {σ f P s c vs} (I : Inv σ f ((c, TupO vs) :: P) s) : ∃ g, FM.Le f g ∧ IsT g c vs ∧ Inv σ g P s :=
  let ⟨o, h1, _, l, h2, J⟩ := I.freeze; ⟨_, l, ⟨o, h2, h1⟩, J⟩
theorem IsT.at {σ f P s a vs} (x : IsT f a vs) (I : Inv σ f P s) : ∃ n, s.heap.get? a = some { cls := .type "tuple", dict := none, data := .seq vs.toArray n, slots := #[] } := by
  obtain ⟨o, h, n, rfl⟩ := x
  exact ⟨n, I.frz _ _ h⟩
theorem IsT.ty {σ f P s a vs} (x : IsT f a vs) (I : Inv σ f P s) : s.TypeIs (.ref a) "tuple" := let ⟨n, h⟩ := x.at I; ⟨_, h, rfl⟩
/-- a pair of a list of ints and an int -/
def APr (f : FM) (v : Value) (x : List Int × Int) : Prop := ∃ a e t, v = .ref a ∧ IsT f a [e, .int x.2 t] ∧ AInts f e x.1
theorem APr.le {f g v x} (h : APr f v x) (l : FM.Le f g) : APr g v x := let ⟨a, e, t, h1, h2, h3⟩ := h; ⟨a, e, t, h1, h2.le l, Rd.int.list.le l h3⟩
def lt2 (x y : List Int × Int) : Bool := if x.1 = y.1 then decide (x.2 < y.2) else ltL x.1 y.1
theorem rcTup {f : FM} {v w : Value} {x y : List Int × Int} (hx : APr f v x) (hy : APr f w y) : RcOk f 2 .Lt v w (lt2 x y) := by
  intro prog wd A E s σ g P Q l Ro I h
  obtain ⟨a, e, t, rfl, ha, he⟩ := hx.le l
  obtain ⟨b, e', t', rfl, hb, he'⟩ := hy.le l
  have hTa := ha.ty I
  have hTb := hb.ty I
  obtain ⟨n, hoa⟩ := ha.at I
  obtain ⟨k, hob⟩ := hb.at I
  refine wpAny_richCompare_same_room (op := .Lt) hTa hTb F.slot_tuple_lt (wpAny_call (codeAny_call_builtin F.slot_tuple_lt.plain F.entry_tuple_lt
      (F.slot_tuple_lt.check _ _ _ _ _ _ _ _ hTa (F.args_tuple_lt_2 _ _) ?_))) Ro.un
  unfold Builtin.«tuple.__lt__»
  show wpAny _ _ (isInstance (.ref b) (.type "tuple") >>= _) _ _ s
  refine wpAny_bind (wpAny_isInstance hTb (b := true) AutoSeq1.sub_tuple_tuple ?_)
  have items : ∀ {c : Addr} {vs : List Value} {n : Nat} {s : Shared} {Q : Array Value → Shared → Prop} {A : Around} {E : Value → Shared → Prop}, s.heap.get? c = some { cls := .type "tuple", dict := none, data := .seq vs.toArray n, slots := #[] } → Q vs.toArray s →
      wpAny (model prog wd) A (Builtin.Tuple.tupleItemsOf (.ref c)) Q E s := fun ho hq => by
    unfold Builtin.Tuple.tupleItemsOf
    exact wpAny_bind (wpAny_seqItems ho rfl (wpAny_pure hq))
  refine wpAny_bind (items hoa (wpAny_bind (items hob ?_)))
  simp only [List.zip_cons_cons, List.zip_nil_right, List.forIn_cons, List.forIn_nil]
  refine wpAny_bind (wpAny_bind (wpAny_bind (EqR.list (u := 0) Rd.int EqR.int g _ _ _ _ he he' _ _ _ _ _ σ g _ _ (FM.Le.refl g) (Ro.in1.le (by decide) (by decide)) I fun s I => ?_)))
  by_cases hxy : x.1 = y.1
  · rw [decide_eq_true hxy]
    simp only [Bool.not_true, Bool.false_eq_true, if_false]
    refine wpAny_pure ?_
    dsimp only
    refine wpAny_bind (wpAny_bind (EqR.int g _ _ _ _ ⟨_, rfl⟩ ⟨_, rfl⟩ _ _ _ _ _ σ g _ _ (FM.Le.refl g) (Ro.in1.le (by decide) (by decide)) I fun s I => ?_))
    by_cases h2 : x.2 = y.2
    · rw [decide_eq_true h2]
      simp only [Bool.not_true, Bool.false_eq_true, if_false]
      refine wpAny_pure (wpAny_pure ?_)
      dsimp only
      refine wpAny_pure ⟨(fun e => nomatch e), ?_⟩
      have := h s I
      rw [lt2, if_pos hxy, h2] at this
      rw [decide_eq_false (Int.lt_irrefl _)] at this
      exact this
    · rw [decide_eq_false h2]
      simp only [Bool.not_false, if_true]
      refine wpAny_bind (wpAny_rule (wpAny_bind (RcOk.intLt g 0 _ _ _ _ _ _ _ _ _ σ g _ _ (FM.Le.refl g) (Ro.in1.le (by decide) (by decide)) I fun s I => wpAny_pure ?_)))
      refine wpAny_pure (wpAny_pure ⟨(fun e => nomatch e), ?_⟩)
      have := h s I
      rwa [lt2, if_pos hxy] at this
  · rw [decide_eq_false hxy]
    simp only [Bool.not_false, if_true]
    refine wpAny_bind (wpAny_rule (wpAny_bind (rcLt he he' _ _ _ _ _ σ g _ _ (FM.Le.refl g) (Ro.in1.le (by decide) (by decide)) I fun s I => wpAny_pure ?_)))
    refine wpAny_pure (wpAny_pure ⟨(fun e => nomatch e), ?_⟩)
    have := h s I
    rwa [lt2, if_neg hxy] at this
end Mine
end
-- R14
noncomputable section
open PySem PySem.Calls PyProof.Rows PySem.W
set_option maxRecDepth 100000
set_option linter.unusedVariables false
namespace Mine
section
variable {prog : Program} {w : World} {A : Around} {E : Value → Shared → Prop} {s : Shared} {σ : OsState} {f : FM} {P : List Cell} {env : Env} {m : Str → Option Value}
theorem callLtL {v v' : Value} {xs ys : List Int} {Q : Value → Shared → Prop} (hx : AInts f v xs) (hy : AInts f v' ys) (Ro : Room A 0 2) (I : Inv σ f P s) (h : ∀ s', Inv σ f P s' → Q (.bool (ltL xs ys)) s') :
    wpAny (model prog w) A (call (.builtin "list.__lt__") [v, v']) Q E s := by
  obtain ⟨a, vs, rfl, ha, h2⟩ := hx
  obtain ⟨b, ws, rfl, hb, h4⟩ := hy
  rw [← (cmpV_le h2 h4).2] at h
  have hTa := (ha.is I).typeIs
  have he : ∀ v ∈ vs, ∀ w ∈ ws, EqOk f 0 v w (eqvI v w) := fun v hv w hw => by
    obtain ⟨x, _, t, rfl⟩ := h2.mem hv
    obtain ⟨y, _, u, rfl⟩ := h4.mem hw
    exact EqOk.int _ _ _ _ _ _
  have hr : CmpOp.Lt ≠ .Eq → CmpOp.Lt ≠ .NotEq → ∀ v ∈ vs, ∀ w ∈ ws, RcOk f 0 .Lt v w (ltvI v w) := fun _ _ v hv w hw => by
    obtain ⟨x, _, t, rfl⟩ := h2.mem hv
    obtain ⟨y, _, u, rfl⟩ := h4.mem hw
    exact RcOk.intLt _ _ _ _ _ _
  refine wpAny_call (codeAny_call_builtin F.slot_list_lt.plain F.entry_list_lt (F.slot_list_lt.check _ _ _ _ _ _ _ _ hTa (F.args_list_lt_2 _ _) ?_))
  unfold Builtin.«list.__lt__»
  show wpAny _ _ (isInstance (.ref b) (.type "list") >>= _) _ _ s
  refine wpAny_bind (wpAny_isInstance (hb.is I).typeIs (b := true) sub_list_list ?_)
  refine wpAny_pure ⟨plainId_quiet plain_eqloop _, eqLoop (op := .Lt) rfl ha hb he hr (Ro.le (by decide) (by decide)) vs.length 0 s (by simp) (Nat.zero_le _) I fun s I => ?_⟩
  exact h s I
theorem ltTup {v v' : Value} {x y : List Int × Int} {Q : Bool → Shared → Prop} (hx : APr f v x) (hy : APr f v' y) (Ro : Room A 0 5) (I : Inv σ f P s) (h : ∀ s', Inv σ f P s' → Q (lt2 x y) s') :
    wpAny (model prog w) A (keyLt' (tuples' true) v v') Q E s := by
  obtain ⟨a, e, t, rfl, ha, he⟩ := hx
  obtain ⟨b, e', t', rfl, hb, he'⟩ := hy
  obtain ⟨n, hoa⟩ := ha.at I
  obtain ⟨k, hob⟩ := hb.at I
  refine kat_lt hoa rfl hob rfl (kat_cons ?_)
  refine EqR.list (u := 0) Rd.int EqR.int f _ _ _ _ he he' _ _ _ _ _ σ f _ _ (FM.Le.refl f) (Ro.le (by decide) (by decide)) I fun s I => ?_
  by_cases hxy : x.1 = y.1
  · rw [decide_eq_true hxy]
    refine kat_yes (kat_cons ?_)
    refine EqR.int f _ _ _ _ ⟨_, rfl⟩ ⟨_, rfl⟩ _ _ _ _ _ σ f _ _ (FM.Le.refl f) (Ro.le (by decide) (by decide)) I fun s I => ?_
    by_cases h2 : x.2 = y.2
    · rw [decide_eq_true h2]
      refine kat_yes (kat_nil ?_)
      have := h s I
      rw [lt2, if_pos hxy, h2, decide_eq_false (Int.lt_irrefl _)] at this
      exact this
    · rw [decide_eq_false h2]
      refine kat_no (kat_one _ _ (RcOk.intLt f 0 _ _ _ _ _ _ _ _ _ σ f _ _ (FM.Le.refl f) (Ro.le (by decide) (by decide)) I fun s I => ?_))
      have := h s I
      rwa [lt2, if_pos hxy] at this
  · rw [decide_eq_false hxy]
    refine kat_no ?_
    show wpAny (model prog w) A (oneLt' true e e') Q _ _
    rw [oneLt'_eq]
    simp only [if_true]
    obtain ⟨ea, es, rfl, hes, hel⟩ := he
    refine wpAny_bind (wpAny_cRoomFor Ro.un ?_)
    refine wpAny_bind (wpAny_callSpecialIfBound?_slot (hes.is I).typeIs F.slot_list_lt (callLtL ⟨ea, es, rfl, hes, hel⟩ he' (Ro.le (by decide) (by decide)) I fun s I => ?_))
    have := h s I
    rw [lt2, if_neg hxy] at this
    exact wpAny_truthy_bool this
theorem newTup_ {M : Model} {vs : List Value} {Q : Value → Shared → Prop} (I : Inv σ f P s) (h : ∀ t s', Inv σ f P s' → Q (.ref t) s') (hz : vs.length ≤ 100) : wpAny M A (newTuple vs) Q E s := by
  refine wpAny_newTuple (h _ _ ?_) (by rw [sizeLine_eq]; lia)
  have J := I.push (q := fun _ => True) (o := { cls := .type "tuple", data := .seq vs.toArray }) (s' := { s with heap := s.heap.push { cls := .type "tuple", data := .seq vs.toArray } }) rfl trivial rfl rfl rfl
  exact J.drop
theorem newLst_ {M : Model} {vs : List Value} {Q : Value → Shared → Prop} (I : Inv σ f P s) (h : ∀ t s', Inv σ f P s' → Q (.ref t) s') (hz : vs.length ≤ 100) : wpAny M A (newList vs) Q E s := by
  refine wpAny_newList (h _ _ ?_) (by rw [sizeLine_eq]; lia)
  have J := I.push (q := fun _ => True) (o := { cls := .type "list", data := .seq vs.toArray }) (s' := { s with heap := s.heap.push { cls := .type "list", data := .seq vs.toArray } }) rfl trivial rfl rfl rfl
  exact J.drop
theorem sort2 {a : Addr} {v0 v1 : Value} {x0 x1 : List Int × Int} {Q : PySem.Fin → Shared → Prop} (h0 : APr f v0 x0) (h1 : APr f v1 x1) (Ro : Room A 0 5) (I : Inv σ f ((a, ListO [v0, v1]) :: P) s)
    (h : ∀ s', Inv σ f ((a, ListO (if lt2 x1 x0 = true then [v1, v0] else [v0, v1])) :: P) s' → Q (.done (.ret .none)) s') : wpAny (model prog w) A (Builtin.«list.sort» ⟨[.ref a], []⟩) Q E s := by
  obtain ⟨n, ho⟩ := I.ex
  have ho : s.heap.get? a = some (seqObj "list" [v0, v1].toArray n) := ho
  rw [list_sort_plain]
  refine wpAny_bind (listItems_at ho rfl ?_)
  obtain ⟨e1, ho1⟩ : ∃ e1, (s.heap.update a (Obj.mapSeq fun _ => #[])).get? a = some (seqObj "list" #[] e1) := ⟨_, get?_update_seq ho (fun _ => #[])⟩
  refine wpAny_bind (listUpdate_at ho rfl ?_)
  have s1 := Heap.SameBut.update s.heap a (Obj.mapSeq fun _ => (#[] : Array Value))
  have I : Inv σ f ((a, fun o => o = seqObj "list" #[] e1) :: P) { s with heap := s.heap.update a (Obj.mapSeq fun _ => (#[] : Array Value)) } := I.set s1 ho1 rfl rfl rfl
  generalize ({ s with heap := s.heap.update a (Obj.mapSeq fun _ => (#[] : Array Value)) } : Shared) = s at I ⊢
  have epoch : ∀ {s : Shared}, Inv σ f ((a, fun o => o = seqObj "list" #[] e1) :: P) s → s.heap.get? a = some (seqObj "list" #[] e1) := fun I => by
    obtain ⟨o, h, rfl⟩ := I.at
    exact h
  refine wpAny_bind (seqEpoch_at (epoch I) rfl ?_)
  refine wpAny_bind (newTup_ I (fun tpa s I => wpAny_bind (newLst_ I (fun lsa s I => ?_) (by simp))) (by simp))
  refine wpAny_holding ?_
  dsimp only
  have hn2 : ¬ ([v0, v1].toArray).size < 2 := by simp
  rw [if_neg hn2, if_neg hn2]
  have J := I
  have hk : wpAny (model prog w) A (keyKind' [v0, v1].toArray) (fun k s' => k = tuples' true ∧ s' = s) E s := by
    obtain ⟨a0, l0, t0, rfl, ht0, hl0⟩ := h0
    obtain ⟨a1, l1, t1, rfl, ht1, hl1⟩ := h1
    obtain ⟨b0, vs0, rfl, hb0, _⟩ := hl0
    obtain ⟨b1, vs1, rfl, hb1, _⟩ := hl1
    obtain ⟨n0, ho0⟩ := ht0.at J
    obtain ⟨n1, ho1⟩ := ht1.at J
    obtain ⟨k0, hk0⟩ := hb0.ex J
    obtain ⟨k1, hk1⟩ := hb1.ex J
    refine kat_kind (T := .type "list") (KatTups.cons (f := .ref b0) ho0 rfl rfl rfl (KatTups.cons (f := .ref b1) ho1 rfl rfl rfl KatTups.nil)) (by simp) (fun v hv => ?_) rfl ⟨rfl, rfl⟩
    rcases List.mem_cons.mp hv with rfl | hv
    · exact (Looks.ld hk0).andThen .now
    · rcases List.mem_cons.mp hv with rfl | hv
      · exact (Looks.ld hk1).andThen .now
      · cases hv
  refine wpAny_bind (wpAny_mono hk (fun κ s' hκ => ?_) fun _ _ x => x)
  obtain ⟨rfl, rfl⟩ := hκ
  have run := kat_run (prog := prog) (w := w) (A := A) (E := E) (s := s') (κ := tuples' true) (ks := [v0, v1]) (vs := [v0, v1]) (Q := fun st' s' => ∃ p : Array Nat, p.size = 2 ∧ arrOf st' = p.map (kas_item ([v0, v1].toArray.zip [v0, v1].toArray)) ∧ failedOf st' = none ∧
      p = (if lt2 x1 x0 = true then #[1, 0] else #[0, 1]) ∧ Inv σ f ((a, fun o => o = seqObj "list" #[] e1) :: P) s') (G := fun p s' => p = (if lt2 x1 x0 = true then #[1, 0] else #[0, 1]) ∧ Inv σ f ((a, fun o => o = seqObj "list" #[] e1) :: P) s')
    rfl (by simp) (by simp) (fun p st' s' a1 a2 a3 a4 => ⟨p, a1, a2, a3, a4⟩) ?_
  · refine wpAny_bind (wpAny_mono run ?_ fun _ _ e => e)
    rintro ⟨⟨⟩, st'⟩ s' ⟨p, hp, har, hf, hpe, I⟩
    dsimp only
    have hout := kat_snds (ks := [v0, v1]) (vs := [v0, v1]) rfl har
    rw [hout]
    refine wpAny_bind (seqEpoch_at (epoch I) rfl ?_)
    have hp2 : (List.toArray (p.toList.map fun i => [v0, v1].getD i Value.none)) = List.toArray (if lt2 x1 x0 = true then [v1, v0] else [v0, v1]) := by
      rw [hpe]
      by_cases hc : lt2 x1 x0 = true
      · rw [if_pos hc, if_pos hc]; rfl
      · rw [if_neg hc, if_neg hc]; rfl
    rw [hp2]
    have hsz : (List.toArray (if lt2 x1 x0 = true then [v1, v0] else [v0, v1])).size = 2 := by
      by_cases hc : lt2 x1 x0 = true
      · rw [if_pos hc]; rfl
      · rw [if_neg hc]; rfl
    have ho2 := epoch I
    obtain ⟨c2, hc2⟩ : ∃ c2, (s'.heap.update a (Obj.mapSeq fun _ => List.toArray (if lt2 x1 x0 = true then [v1, v0] else [v0, v1]))).get? a = some (seqObj "list" (List.toArray (if lt2 x1 x0 = true then [v1, v0] else [v0, v1])) c2) := ⟨_, get?_update_seq ho2 fun _ => _⟩
    refine wpAny_bind (listUpdate_at ho2 rfl ?_ (Nat.zero_le _) (Nat.le_trans (Nat.le_of_eq hsz) (by rw [sizeLine_eq]; lia)))
    rw [hf]
    simp only [bne_self_eq_false, Bool.false_eq_true, if_false]
    refine wpAny_pure (h _ ?_)
    exact I.set (Heap.SameBut.update s'.heap a _) hc2 ⟨c2, rfl⟩ rfl rfl
  · show wpAny (model prog w) A (keyLt' (tuples' true) v1 v0) _ (fun _ _ => False) s'
    refine ltTup h1 h0 Ro I fun s I => ?_
    by_cases hc : lt2 x1 x0 = true
    · rw [hc]; refine ⟨?_, I⟩
      rw [if_pos rfl]
      dsimp only [List.length_cons, List.length_nil]
      decide
    · rw [Bool.not_eq_true] at hc
      rw [hc]; exact ⟨rfl, I⟩
end
end Mine
end
-- R15
noncomputable section
open PySem PySem.Calls PyProof.Rows PySem.W
set_option maxRecDepth 100000
set_option linter.unusedVariables false
namespace Mine
def pick : List Cell → Nat → Cell
  | [], _ => (0, fun _ => True)
  | c :: _, 0 => c
  | _ :: C, i + 1 => pick C i
theorem pick_range : ∀ (n : Nat) (C : List Cell), n ≤ C.length → (List.range n).map (pick C) = C.take n
  | 0, C, _ => by simp
  | n + 1, c :: C, h => by
    rw [List.range_succ_eq_map, List.map_cons, List.map_map]
    show c :: (List.range n).map (fun i => pick C i) = _
    rw [List.take_succ_cons, ← pick_range n C (by simpa using h)]
  | n + 1, [], h => by simp at h
/-- the first cells in another order -/
theorem Inv.sel {σ f C s} (is : List Nat) (h : is.Perm (List.range is.length)) (hl : is.length ≤ C.length) (I : Inv σ f C s) : Inv σ f (is.map (pick C) ++ C.drop is.length) s := by
  refine I.perm ?_
  have := (h.map (pick C)).append_right (C.drop is.length)
  rw [pick_range _ _ hl, List.take_append_drop] at this
  exact this.symm
def ZipO (TI TO : Addr) (f0 : Value) (o : Obj) : Prop := o = { cls := .type "zip", dict := none, data := .fields #[f0, .bool false, .bool false, .ref TI, .ref TO], slots := #[] }
def PairO (a b : Value) (o : Obj) : Prop := o = { cls := .type "tuple", data := .seq #[a, b] }
section
variable {prog : Program} {w : World} {A : Around} {E : Value → Shared → Prop} {s : Shared} {σ : OsState} {f : FM} {P : List Cell} {env : Env} {m : Str → Option Value}
theorem nextOfR {it : Addr} {x left step : Int} {Q : Value → Shared → Prop} (I : Inv σ f ((it, RIterO x left step) :: P) s) (hl : 0 < left)
    (h : ∀ s' t, Inv σ f ((it, RIterO (x + step) (left - 1) step) :: P) s' → Q (.int x t) s') : wpAny (model prog w) A (Builtin.SmallTypes.nextOf (.ref it)) Q E s := by
  obtain ⟨o, hit, rfl⟩ := I.at
  have hT : s.TypeIs (.ref it) "range_iterator" := ⟨_, hit, rfl⟩
  unfold Builtin.SmallTypes.nextOf
  refine wpAny_bind (wpAny_callSpecial?_slot (name := Str.ofString "__next__") hT F.slot_range_iterator_next
    (call_meets F.slot_range_iterator_next hT F.entry_range_iterator_next (F.args_range_iterator_next_1 _) (AutoRange.range_iterator___next___range_iterator_1 it x left step (by lia)) ⟨hit, ?_⟩))
  refine wpAny_pure (h _ _ ?_)
  exact I.set ((Heap.SameBut.update ..).trans (Heap.SameBut.update ..)) (Heap.get?_update_self _ (Heap.get?_update_self _ hit rfl) rfl) rfl rfl rfl
theorem nextOfL {it l : Addr} {i : Nat} {items : Array Value} {x : Value} {Q : Value → Shared → Prop} (I : Inv σ f ((it, IterO l i) :: P) s) (hl : s.heap.IsList l items) (hx : items[i]? = some x)
    (h : ∀ s', Inv σ f ((it, IterO l (i + 1)) :: P) s' → Q x s') : wpAny (model prog w) A (Builtin.SmallTypes.nextOf (.ref it)) Q E s := by
  obtain ⟨o, ho, h1, h2⟩ := I.at
  refine wpAny_nextOf_list_item ⟨o, ho, h1, h2⟩ hl hx fun h' ⟨o', ho', hx'⟩ hs => h _ (I.set hs ho' hx' rfl rfl)
theorem nextOfRend {it : Addr} {x left step : Int} {Q : Value → Shared → Prop} (hh : A.handled = none) (I : Inv σ f ((it, RIterO x left step) :: P) s) (hl : left ≤ 0)
    (h : ∀ s' e, Inv σ f P s' → (∃ o, s'.heap.get? e = some o ∧ o.cls = .type "StopIteration") → (∀ p ∈ P, p.1 ≠ e) → E (.ref e) s') : wpAny (model prog w) A (Builtin.SmallTypes.nextOf (.ref it)) Q E s := by
  obtain ⟨o, hit, rfl⟩ := I.at
  have hT : s.TypeIs (.ref it) "range_iterator" := ⟨_, hit, rfl⟩
  unfold Builtin.SmallTypes.nextOf
  refine wpAny_bind (wpAny_callSpecial?_slot (name := Str.ofString "__next__") hT F.slot_range_iterator_next
    (wpAny_call_entry F.slot_range_iterator_next hT F.entry_range_iterator_next ?_ (F.args_range_iterator_next_1 _)))
  show wpAny _ _ (field (.ref it) 0 >>= _) _ _ s
  refine wpAny_bind (wpAny_field hit rfl (x := rawInt x) rfl ?_)
  show wpAny _ _ (field (.ref it) 1 >>= _) _ _ s
  refine wpAny_bind (wpAny_field hit rfl (x := rawInt left) rfl ?_)
  show wpAny _ _ (field (.ref it) 2 >>= _) _ _ s
  refine wpAny_bind (wpAny_field hit rfl (x := rawInt step) rfl ?_)
  show wpAny _ _ (if left ≤ 0 then _ else _) _ _ s
  rw [if_pos hl]
  refine wpAny_bind (wpAny_rule ?_)
  refine wpAny_bind ?_
  show wpAny _ _ (newExc (.type "StopIteration") [] >>= _) _ _ _
  refine wpAny_bind ?_
  simp only [newExc, newTuple]
  refine wpAny_bind (wpAny_newObj_type ?_ (by size_fits))
  refine wpAny_bind (m := firstArgMember _ _) (wpAny_of_eq (a := Value.none) (by first | rfl | (simp only [firstArgMember]; rfl)) ?_)
  refine wpAny_newObj_type ?_ (by size_fits)
  simp only [raiseNew]
  refine wpAny_bind (wpAny_handled ?_)
  first | rw [show A.in1.handled = none from hh] | rw [hh]
  refine wpAny_bind (wpAny_pure (wpAny_throw ?_))
  refine h _ _ (I.drop.grow (fun b o e => Heap.get?_push_of_some _ (Heap.get?_push_of_some _ e)) rfl rfl) ⟨_, Heap.get?_push_size _ rfl, rfl⟩ fun p hp e => ?_
  have h1 : p.1 < s.heap.objs.size := I.drop.lt hp
  have h2 : p.1 = s.heap.objs.size + 1 := e.trans (Heap.size_push ..)
  rw [h2] at h1
  exact absurd h1 (Nat.not_lt.mpr (Nat.le_succ _))
def ZipCells (z TI TO ri it l : Addr) (n i : Nat) : List Cell :=
  [(z, ZipO TI TO .none), (TI, PairO (.ref ri) (.ref it)), (TO, fun o => ∃ a b, PairO a b o), (ri, RIterO (i : Int) ((n : Int) - i) 1), (it, IterO l i)]
theorem zipNext {z TI TO ri it l : Addr} {n i : Nat} {items : Array Value} {y : Value} {Q : Option Value → Shared → Prop} (I : Inv σ f (ZipCells z TI TO ri it l n i ++ P) s) (hi : i < n) (hl : IsL f l items.toList) (hy : items[i]? = some y)
    (h : ∀ T t s', Inv σ f ((T, TupO [.int i t, y]) :: (z, ZipO TI TO (rawInt T)) :: (ZipCells z TI TO ri it l n (i + 1)).tail ++ P) s' → Q (some (.ref T)) s') : wpAny (model prog w) A (pyNext (.ref z)) Q E s := by
  have I : Inv σ f ((z, ZipO TI TO .none) :: (TI, PairO (.ref ri) (.ref it)) :: (TO, fun o => ∃ a b, PairO a b o) :: (ri, RIterO (i : Int) ((n : Int) - i) 1) :: (it, IterO l i) :: P) s := I
  obtain ⟨oz, hz, rfl⟩ := I.at
  have hT : s.TypeIs (.ref z) "zip" := ⟨_, hz, rfl⟩
  unfold pyNext
  refine wpAny_bind (wpAny_attempt (wpAny_callSpecial?_slot (name := Str.ofString "__next__") hT F.slot_zip_next
    (wpAny_call_entry F.slot_zip_next hT F.entry_zip_next ?_ (F.args_zip_next_1 _))))
  show wpAny _ _ (field (.ref z) 2 >>= _) _ _ _
  refine wpAny_bind (wpAny_field hz rfl (x := .bool false) rfl ?_)
  show wpAny _ _ (field (.ref z) 3 >>= _) _ _ _
  refine wpAny_bind (wpAny_field hz rfl (x := .ref TI) rfl ?_)
  obtain ⟨oTI, hTI, rfl⟩ := I.swap.at
  refine wpAny_bind (wpAny_seqItems hTI rfl ?_)
  show wpAny _ _ (Builtin.SmallTypes.ownedTupleIsFree (.ref z) >>= _) _ _ _
  refine wpAny_bind ?_
  unfold Builtin.SmallTypes.ownedTupleIsFree
  refine wpAny_bind (wpAny_field hz rfl (x := .none) rfl (wpAny_pure ?_))
  simp only [if_true]
  refine wpAny_bind (wpAny_rule ?_)
  refine wpAny_bind (wpAny_field hz rfl (x := .ref TO) rfl ?_)
  refine wpAny_bind (wpAny_setField_rec hz (by simp) fun h₁ hz₁ hs₁ => ?_)
  have I := I.set (q' := ZipO TI TO .ellipsis) (s' := { s with heap := h₁ }) hs₁ hz₁ rfl rfl rfl
  generalize ({ s with heap := h₁ } : Shared) = s at I ⊢
  refine wpAny_bind ?_
  simp only [List.zipIdx_cons, List.zipIdx_nil, List.forIn_cons, List.forIn_nil]
  refine wpAny_bind (wpAny_bind (wpAny_onRaise ?_))
  show wpAny _ _ (Builtin.SmallTypes.nextOf (.ref ri) >>= _) _ _ _
  refine wpAny_bind (nextOfR I.p4 (by lia) fun s t I => wpAny_pure ?_)
  have I := I.b4.p3
  obtain ⟨oTO, hTO, a, b, rfl⟩ := I.at
  refine wpAny_bind (wpAny_seqItems hTO rfl ?_)
  refine wpAny_bind (wpAny_updateSeq_pair hTO fun h₃ hTO₃ hs₃ => ?_)
  have I := I.set (q' := PairO (.int i t) b) (s' := { s with heap := h₃ }) hs₃ hTO₃ rfl rfl rfl
  generalize ({ s with heap := h₃ } : Shared) = s at I ⊢
  refine wpAny_bind (wpAny_letGo (wpAny_pure ?_))
  refine wpAny_bind (wpAny_bind (wpAny_onRaise ?_))
  show wpAny _ _ (Builtin.SmallTypes.nextOf (.ref it) >>= _) _ _ _
  refine wpAny_bind (nextOfL I.p5 (hl.is I) (by simpa using hy) fun s I => wpAny_pure ?_)
  have I := I.b5
  obtain ⟨oTO, hTO, rfl⟩ := I.at
  refine wpAny_bind (wpAny_seqItems hTO rfl ?_)
  refine wpAny_bind (wpAny_updateSeq_pair hTO fun h₃ hTO₃ hs₃ => ?_)
  have I := I.set (q' := PairO (.int i t) y) (s' := { s with heap := h₃ }) hs₃ hTO₃ rfl rfl rfl
  generalize ({ s with heap := h₃ } : Shared) = s at I ⊢
  refine wpAny_bind (wpAny_letGo (wpAny_pure (wpAny_pure ?_)))
  obtain ⟨oTO, hTO, rfl⟩ := I.at
  refine wpAny_bind (wpAny_seqItems hTO rfl ?_)
  refine wpAny_bind (wpAny_newTuple ?_)
  have I := I.push (q := TupO [.int i t, y]) (o := { cls := .type "tuple", data := .seq #[.int i t, y] }) (s' := { s with heap := s.heap.push { cls := .type "tuple", data := .seq #[.int i t, y] } }) rfl ⟨0, rfl⟩ rfl rfl rfl
  show wpAny _ _ (Builtin.SmallTypes.ownedTupleHandOut (.ref z) (.ref s.heap.objs.size) >>= fun _ => ret (.ref s.heap.objs.size)) _ _ { s with heap := s.heap.push { cls := .type "tuple", data := .seq #[.int i t, y] } }
  generalize s.heap.objs.size = T at I ⊢
  generalize ({ s with heap := s.heap.push { cls := .type "tuple", data := .seq #[.int i t, y] } } : Shared) = s at I ⊢
  refine wpAny_bind ?_
  unfold Builtin.SmallTypes.ownedTupleHandOut
  have I : Inv σ f ((z, ZipO TI TO .ellipsis) :: (T, TupO [.int i t, y]) :: (TO, PairO (.int i t) y) :: (TI, PairO (.ref ri) (.ref it)) :: (ri, RIterO ((i : Int) + 1) ((n : Int) - i - 1) 1) :: (it, IterO l (i + 1)) :: P) s := by
    have J := Inv.sel [2, 0, 1, 3, 4, 5] (by decide) (by repeat (first | exact Nat.zero_le _ | apply Nat.succ_le_succ)) I
    exact J
  obtain ⟨oz, hz, rfl⟩ := I.at
  refine wpAny_bind (wpAny_setField_rec hz (by simp) fun h₁ hz₁ hs₁ => ?_)
  have I := I.set (q' := ZipO TI TO (rawInt T)) (s' := { s with heap := h₁ }) hs₁ hz₁ rfl rfl rfl
  generalize ({ s with heap := h₁ } : Shared) = s at I ⊢
  obtain ⟨oz, hz, rfl⟩ := I.at
  refine wpAny_setField_rec hz (by simp) fun h₁ hz₁ hs₁ => ?_
  have I := I.set (q' := ZipO TI TO (rawInt T)) (s' := { s with heap := h₁ }) hs₁ hz₁ rfl rfl rfl
  generalize ({ s with heap := h₁ } : Shared) = s at I ⊢
  refine wpAny_pure ⟨_, rfl, wpAny_pure (h T t _ ?_)⟩
  have J := Inv.sel [2, 1, 0, 3, 4, 5] (by decide) (by repeat (first | exact Nat.zero_le _ | apply Nat.succ_le_succ)) I
  have J := Inv.sel [1, 2, 3, 0, 4, 5] (by decide) (by repeat (first | exact Nat.zero_le _ | apply Nat.succ_le_succ)) I
  have e1 : ((i : Int) + 1) = ((i + 1 : Nat) : Int) := by lia
  have e2 : ((n : Int) - i - 1) = ((n : Int) - ((i + 1 : Nat) : Int)) := by lia
  have J : Inv σ f ((T, TupO [.int i t, y]) :: (z, ZipO TI TO (rawInt T)) :: (TI, PairO (.ref ri) (.ref it)) :: (TO, PairO (.int i t) y) :: (ri, RIterO ((i : Int) + 1) ((n : Int) - i - 1) 1) :: (it, IterO l (i + 1)) :: P) s := Inv.sel [1, 0, 3, 2, 4, 5] (by decide) (by repeat (first | exact Nat.zero_le _ | apply Nat.succ_le_succ)) I
  rw [e1, e2] at J
  exact (J.pull (pre := [_, _, _])).weak (fun o h => ⟨_, _, h⟩) |>.back (pre := [_, _, _])
end
end Mine
end
-- R16
noncomputable section
open PySem PySem.Calls PyProof.Rows PySem.W
set_option maxRecDepth 100000
set_option linter.unusedVariables false
namespace Mine
abbrev zr1 (h : Heap) (n : Int) : Heap := h.push { cls := .type "range_iterator", data := .fields #[rawInt 0, rawInt (Builtin.Range.rangeSize 0 n 1), rawInt 1] }
abbrev zr2 (h : Heap) (n : Int) (it : Addr) : Heap := (zr1 h n).push { cls := .type "tuple", data := .seq #[.ref h.objs.size, .ref it] }
abbrev zr3 (h : Heap) (n : Int) (it : Addr) : Heap := (zr2 h n it).push { cls := .type "tuple", data := .seq #[.none, .none] }
abbrev zr4 (h : Heap) (n : Int) (it : Addr) : Heap := (zr3 h n it).push { cls := .type "zip", data := .fields #[.none, .bool false, .bool false, .ref (zr1 h n).objs.size, .ref (zr2 h n it).objs.size] }
theorem meets_zip_ri (r it l : Addr) (n : Int) (t u v : Tok) (hsm : Builtin.Range.small 0 n 1 = true) :
    Meets (Builtin.«zip.__new__» ⟨[.type "zip", .ref r, .ref it], []⟩) (fun _ R s => IsRange s.heap r 0 n 1 t u v ∧ s.heap.IsListIter it l 0 ∧
      R (.ok (.ret (.ref (zr3 s.heap n it).objs.size))) { s with heap := zr4 s.heap n it }) :=
  .of_wp fun prog w A R s h => by
    obtain ⟨hp, g, d, tk, os⟩ := s; obtain ⟨hl1, hl2, h⟩ := h
    have hsub := sub_zip
    have hL1 : IsRange (Shared.heap ⟨hp, g, d, tk, os⟩) r 0 n 1 t u v := hl1
    have hL2 : Heap.IsListIter (Shared.heap ⟨hp.push { cls := .type "range_iterator", data := .fields #[rawInt 0, rawInt (Builtin.Range.rangeSize 0 n 1), rawInt 1] }, g, d, tk, os⟩) it l 0 := hl2.at fun o e => Heap.get?_push_of_some _ e
    wp_walk using wpAny_pyIter_range hL1 hsm, wpAny_pyIter_listiter hL2
    exact ⟨_, rfl, h⟩
end Mine
end
-- R17
noncomputable section
open PySem PySem.Calls PyProof.Rows PySem.W
set_option maxRecDepth 100000
set_option linter.unusedVariables false
namespace Mine
section
variable {prog : Program} {w : World} {A : Around} {E : Value → Shared → Prop} {s : Shared} {σ : OsState} {f : FM} {P : List Cell} {env : Env} {m : Str → Option Value}
theorem mkZip {r it l : Addr} {n : Nat} {Q : Value → Shared → Prop} (I : Inv σ f ((r, RangeO 0 n 1) :: (it, IterO l 0) :: P) s) (hn : n < 2 ^ 30)
    (h : ∀ z TI TO ri s', Inv σ f (ZipCells z TI TO ri it l n 0 ++ P) s' → Q (.ref z) s') : wpAny (model prog w) A (call (.type "zip") [.ref r, .ref it]) Q E s := by
  obtain ⟨o, ho, t, u, v, rfl⟩ := I.at
  obtain ⟨oi, hoi, hi1, hi2⟩ := I.swap.at
  refine callType_new F.called_zip (by decide) (F.typeCall_zip_2 _ _) (F.newCall_zip_2 _ _) (fun obj => F.args_object_init_3 obj _ _) F.entry_zip_new
    (meets_zip_ri r it l n t u v (small_one (by lia) (by lia) (by lia) (by lia))) ⟨ho, ⟨oi, hoi, hi1, hi2⟩, ?_⟩
  have hsz : Builtin.Range.rangeSize 0 n 1 = n := by
    unfold Builtin.Range.rangeSize
    rw [if_pos (by decide)]
    by_cases h0 : (0 : Int) < n
    · rw [if_pos h0]; lia
    · rw [if_neg h0]; lia
  have J := I.push (q := RIterO 0 n 1) (o := { cls := .type "range_iterator", data := .fields #[rawInt 0, rawInt (Builtin.Range.rangeSize 0 n 1), rawInt 1] }) (s' := { s with heap := zr1 s.heap n }) rfl (by rw [hsz]; rfl) rfl rfl rfl
  have J := J.push (q := PairO (.ref s.heap.objs.size) (.ref it)) (o := { cls := .type "tuple", data := .seq #[.ref s.heap.objs.size, .ref it] }) (s' := { s with heap := zr2 s.heap n it }) rfl rfl rfl rfl rfl
  have J := J.push (q := PairO .none .none) (o := { cls := .type "tuple", data := .seq #[.none, .none] }) (s' := { s with heap := zr3 s.heap n it }) rfl rfl rfl rfl rfl
  have J := J.push (q := ZipO (zr1 s.heap n).objs.size (zr2 s.heap n it).objs.size .none) (o := { cls := .type "zip", data := .fields #[.none, .bool false, .bool false, .ref (zr1 s.heap n).objs.size, .ref (zr2 s.heap n it).objs.size] }) (s' := { s with heap := zr4 s.heap n it }) rfl rfl rfl rfl rfl
  refine ⟨⟨_, Heap.get?_push_size _ rfl, rfl⟩, h (zr3 s.heap n it).objs.size (zr1 s.heap n).objs.size (zr2 s.heap n it).objs.size s.heap.objs.size _ ?_⟩
  have J := Inv.sel [4, 1, 0, 2, 3, 5] (by decide) (by repeat (first | exact Nat.zero_le _ | apply Nat.succ_le_succ)) J
  have J := Inv.weak (q' := fun o => ∃ a b, PairO a b o) (Inv.drop J) (fun o h => ⟨_, _, h⟩)
  have J := Inv.sel [1, 2, 0, 3, 4] (by decide) (by repeat (first | exact Nat.zero_le _ | apply Nat.succ_le_succ)) J
  have e1 : ((n : Int) - ((0 : Nat) : Int)) = (n : Int) := by lia
  unfold ZipCells
  rw [e1]
  exact J
theorem zipEnd {z TI TO ri it l : Addr} {n : Nat} {Q : Option Value → Shared → Prop} (hh : A.handled = none) (I : Inv σ f (ZipCells z TI TO ri it l n n ++ P) s)
    (h : ∀ s', Inv σ f ((it, IterO l n) :: P) s' → Q none s') : wpAny (model prog w) A (pyNext (.ref z)) Q E s := by
  have I : Inv σ f ((z, ZipO TI TO .none) :: (TI, PairO (.ref ri) (.ref it)) :: (TO, fun o => ∃ a b, PairO a b o) :: (ri, RIterO (n : Int) ((n : Int) - n) 1) :: (it, IterO l n) :: P) s := I
  obtain ⟨oz, hz, rfl⟩ := I.at
  have hT : s.TypeIs (.ref z) "zip" := ⟨_, hz, rfl⟩
  unfold pyNext
  refine wpAny_bind (wpAny_attempt (wpAny_callSpecial?_slot (name := Str.ofString "__next__") hT F.slot_zip_next
    (wpAny_call_entry F.slot_zip_next hT F.entry_zip_next ?_ (F.args_zip_next_1 _))))
  show wpAny _ _ (field (.ref z) 2 >>= _) _ _ _
  refine wpAny_bind (wpAny_field hz rfl (x := .bool false) rfl ?_)
  show wpAny _ _ (field (.ref z) 3 >>= _) _ _ _
  refine wpAny_bind (wpAny_field hz rfl (x := .ref TI) rfl ?_)
  obtain ⟨oTI, hTI, rfl⟩ := I.swap.at
  refine wpAny_bind (wpAny_seqItems hTI rfl ?_)
  show wpAny _ _ (Builtin.SmallTypes.ownedTupleIsFree (.ref z) >>= _) _ _ _
  refine wpAny_bind ?_
  unfold Builtin.SmallTypes.ownedTupleIsFree
  refine wpAny_bind (wpAny_field hz rfl (x := .none) rfl (wpAny_pure ?_))
  simp only [if_true]
  refine wpAny_bind (wpAny_rule ?_)
  refine wpAny_bind (wpAny_field hz rfl (x := .ref TO) rfl ?_)
  refine wpAny_bind (wpAny_setField_rec hz (by simp) fun h₁ hz₁ hs₁ => ?_)
  have I := I.set (q' := ZipO TI TO .ellipsis) (s' := { s with heap := h₁ }) hs₁ hz₁ rfl rfl rfl
  generalize ({ s with heap := h₁ } : Shared) = s at I ⊢
  refine wpAny_bind ?_
  simp only [List.zipIdx_cons, List.zipIdx_nil, List.forIn_cons, List.forIn_nil]
  refine wpAny_bind (wpAny_bind (wpAny_onRaise ?_))
  show wpAny _ _ (Builtin.SmallTypes.nextOf (.ref ri) >>= _) _ _ _
  refine wpAny_bind (nextOfRend (by exact hh) I.p4 (by lia) fun s e I he hne => ?_)
  obtain ⟨oz, hz, rfl⟩ := I.at
  refine wpAny_setField_rec hz (by simp) fun h₃ hz₃ hs₃ => ?_
  have I := I.set (q' := ZipO TI TO .none) (s' := { s with heap := h₃ }) hs₃ hz₃ rfl rfl rfl
  obtain ⟨oe, hoe, hce⟩ := he
  refine wpAny_bind (wpAny_isInstance (T := "StopIteration") (b := true) ⟨oe, hs₃.extBut _ _ (fun x => hne (z, _) List.mem_cons_self x.symm) hoe, hce⟩ isSubtype_stop ?_)
  exact wpAny_pure (h _ I.drop.drop.drop)
theorem zipGo {elts : List Expr} {x1 : Nat} {pos : Pos} {z TI TO T : Addr} {Q : Unit → Shared → Prop} (I : Inv σ f ((z, ZipO TI TO (rawInt T)) :: P) s) (h : ∀ s', Inv σ f ((z, ZipO TI TO .none) :: P) s' → Q () s') :
    wpAny (model prog w) A (letOwnedTupleGo (.Tuple elts x1 pos) (.ref z) (.ref T)) Q E s := by
  obtain ⟨oz, hz, rfl⟩ := I.at
  exact wpAny_letOwnedTupleGo_zip hz fun h' hz' hs' => h _ (I.set hs' hz' rfl rfl rfl)
theorem listGo {elts : List Expr} {x1 : Nat} {pos : Pos} {it l T : Addr} {i : Nat} {Q : Unit → Shared → Prop} (I : Inv σ f ((it, IterO l i) :: P) s) (h : Q () s) :
    wpAny (model prog w) A (letOwnedTupleGo (.Tuple elts x1 pos) (.ref it) (.ref T)) Q E s := by
  obtain ⟨o, ho, h1, h2⟩ := I.at
  exact wpAny_letOwnedTupleGo_listiter ⟨o, ho, h1, h2⟩ h
end
end Mine
end
-- R18
noncomputable section
open PySem PySem.Calls PyProof.Rows PySem.W
set_option maxRecDepth 100000
set_option linter.unusedVariables false
namespace Mine
section
variable {prog : Program} {w : World} {A : Around} {E : Value → Shared → Prop} {s : Shared} {σ : OsState} {f : FM} {P : List Cell} {env : Env} {m : Str → Option Value}
theorem compLoopG {elt target iter : Expr} {scope : Scope} {pos : Pos} {it acc : Value} {env : Env} {R : Result → Shared → Prop} (I : Nat → Shared → Prop)
    (turn : ∀ n s, I n s → wpAny (model prog w) A (pyNext it) (fun r s₁ => match r with
      | none => R (.ok .next) s₁
      | some v => wpAny (model prog w) A (letOwnedTupleGo target it v) (fun _ s₁' => wpAny (model prog w) A (assign target env v) (fun _ s₂ =>
          wpAny (model prog w) A (eval elt env) (fun x s₄ =>
              wpAny (model prog w) A (call (.builtin "list.append") [acc, x]) (fun _ s₅ => ∃ m, m < n ∧ I m s₅) (notedBy (model prog w) A env fun e s' => R (.error e) s') s₄) (notedBy (model prog w) A env fun e s' => R (.error e) s') s₂)
            (notedBy (model prog w) A env fun e s' => R (.error e) s') s₁') (notedBy (model prog w) A env fun e s' => R (.error e) s') s₁) (notedBy (model prog w) A env fun e s' => R (.error e) s') s)
    (n : Nat) (h : I n s) :
    codeAny (model prog w) A (.compLoop (.ListComp elt [⟨target, iter, [], 0⟩] scope pos) 0 it acc env) R s := by
  refine codeAny_loop rfl I (fun n s hI => ?_) n h
  show wpAny _ A ((compTurn (.ListComp elt [⟨target, iter, [], 0⟩] scope pos) 0 it acc env).onRaise (fun x => do noteFrame x env; theTreesLotGoes x)) _ _ s
  refine wpAny_noted ?_
  rw [compTurn_list]
  refine wpAny_bind (wpAny_standAt (wpAny_bind (wpAny_mono (turn n s hI) (fun r s₁ h₁ => ?_) fun _ _ h' => h')))
  cases r with
  | none => exact wpAny_pure h₁
  | some v =>
    refine wpAny_bind (wpAny_mono h₁ (fun _ s₁' h₁' => ?_) fun _ _ h' => h')
    refine wpAny_bind (wpAny_mono h₁' (fun _ s₂ h₂ => wpAny_bind (wpAny_pure ?_)) fun _ _ h' => h')
    exact wpAny_bind (wpAny_bind (wpAny_mono h₂ (fun x s₄ h₄ => wpAny_bind (wpAny_mono h₄ (fun _ s₅ h₅ => wpAny_pure (wpAny_pure ⟨rfl, h₅⟩)) fun _ _ h' => h')) fun _ _ h' => h'))
/-- one turn of a comprehension whose target is any -/
def TurnG (prog : Program) (w : World) (A : Around) (σ : OsState) (target elt : Expr) (cenv : Env) (L it : Addr) (CS : Nat → List Cell) (J : Nat → List Value → FM → List Cell → Prop) (i : Nat) (vs : List Value) (g : FM) (H : List Cell) (E : Value → Shared → Prop) (r : Option Value) (s₁ : Shared) : Prop :=
  match r with
  | none => False
  | some v => wpAny (model prog w) A (letOwnedTupleGo target (.ref it) v) (fun _ s₂ => wpAny (model prog w) A (assign target cenv v) (fun _ s₃ =>
      wpAny (model prog w) A (eval elt cenv) (fun y s₄ => ∃ g' P' m', FM.Le g g' ∧ Inv σ g' ((L, FrameO m') :: (CS (i + 1) ++ (P' ++ H))) s₄ ∧ J (i + 1) (vs ++ [y]) g' P') E s₃) E s₂) E s₁
theorem compTurnsG {elt iter target : Expr} {scope : Scope} {cl : List (Str × Addr)} {pos : Pos} {L it acc : Addr} {n : Nat} {CS : Nat → List Cell} {CE : List Cell} {R : Result → Shared → Prop}
    (J : Nat → List Value → FM → List Cell → Prop) (hn : n < 2 ^ 20)
    (turn : ∀ i vs g P m s H E, i < n → J i vs g P → FM.Le f g → Inv σ g ((L, FrameO m) :: (CS i ++ (P ++ H))) s →
      wpAny (model prog w) A (pyNext (.ref it)) (TurnG prog w A σ target elt (cenvOf scope cl L env) L it CS J i vs g H E) E s)
    (stop : ∀ (g : FM) (P : List Cell) (s : Shared) (E : Value → Shared → Prop) (Q : Option Value → Shared → Prop), FM.Le f g → Inv σ g (CS n ++ P) s → (∀ s', Inv σ g (CE ++ P) s' → Q none s') → wpAny (model prog w) A (pyNext (.ref it)) Q E s)
    (hR : ∀ vs g P m s, J n vs g P → FM.Le f g → Inv σ g ((L, FrameO m) :: (acc, ListO vs) :: (CE ++ P)) s → R (.ok .next) s) :
    ∀ (s : Shared) (vs : List Value) (g : FM) (m : Str → Option Value), vs.length ≤ 0 → FM.Le f g → J 0 vs g P → Inv σ g ((L, FrameO m) :: (acc, ListO vs) :: (CS 0 ++ P)) s →
      codeAny (model prog w) A (.compLoop (.ListComp elt [⟨target, iter, [], 0⟩] scope pos) 0 (.ref it) (.ref acc) (cenvOf scope cl L env)) R s := by
  intro s vs g m hv l hJ I
  refine compLoopG (fun k s => ∃ i vs g P m, k = n - i ∧ i ≤ n ∧ vs.length ≤ i ∧ FM.Le f g ∧ J i vs g P ∧ Inv σ g ((L, FrameO m) :: (acc, ListO vs) :: (CS i ++ P)) s) ?_ n ⟨0, vs, g, P, m, rfl, Nat.zero_le _, hv, l, hJ, I⟩
  rintro k s ⟨i, vs, g, P, m, rfl, hi, hv, l, hJ, I⟩
  by_cases hlt : i < n
  · have I' : Inv σ g ((L, FrameO m) :: (CS i ++ (P ++ [(acc, ListO vs)]))) s := I.perm (List.Perm.cons _ (by
      rw [← List.append_assoc]; exact (List.perm_append_singleton _ _).symm))
    refine wpAny_mono (turn i vs g P m s [(acc, ListO vs)] _ hlt hJ l I') (fun r s₁ h₁ => ?_) fun _ _ e => e
    cases r with
    | none => exact h₁.elim
    | some v =>
      refine wpAny_mono h₁ (fun _ s₂ h₂ => wpAny_mono h₂ (fun _ s₃ h₃ => wpAny_mono h₃ (fun y s₄ h₄ => ?_) fun _ _ e => e) fun _ _ e => e) fun _ _ e => e
      obtain ⟨g', P', m', l', I, hJ'⟩ := h₄
      have I : Inv σ g' ((acc, ListO vs) :: (L, FrameO m') :: (CS (i + 1) ++ P')) s₄ := I.perm (by
        rw [← List.append_assoc]
        exact (List.Perm.cons _ (List.perm_append_singleton _ _)).trans (List.Perm.swap ..))
      refine appendL I (by omega) fun s I => ?_
      exact ⟨n - (i + 1), by omega, i + 1, vs ++ [y], g', P', m', rfl, hlt, by simp; omega, l.trans l', hJ', I.swap⟩
  · have e : i = n := by omega
    subst e
    refine stop g ((L, FrameO m) :: (acc, ListO vs) :: P) s _ _ l (I.perm ?_) fun s I => hR vs g P m s hJ l (I.perm ?_)
    · exact ((List.perm_middle (l₁ := CS i) (l₂ := (acc, ListO vs) :: P)).trans (List.Perm.cons _ List.perm_middle)).symm
    · exact (List.perm_middle (l₁ := CE) (l₂ := (acc, ListO vs) :: P)).trans (List.Perm.cons _ List.perm_middle)
/-- a comprehension without a cell of its own, without tests -/
theorem compG {elt iter target : Expr} {scope : Scope} {cl : List (Str × Addr)} {pos pos' : Pos} {use : Option (Value → Sem Unit)} {Q : Value → Shared → Prop}
    (J : Nat → List Value → FM → List Cell → Prop)
    (hclos : closureFor scope env = pure cl) (hkind : scope.kind = .function) (hnames : ∀ x ∈ scope.names, x.2 = .local → scope.names.lookup x.1 = some .local) (hcell : ∀ x ∈ scope.names, x.2 ≠ .cell)
    (h : wpAny (model prog w) A (eval iter env) (fun xv s₁ => wpAny (model prog w) A (pyIter xv) (fun itv s₂ => ∃ it n CS CE f P, itv = .ref it ∧ n < 2 ^ 20 ∧ Inv σ f (CS 0 ++ P) s₂ ∧ J 0 [] f P ∧
        (∀ (g : FM) (P : List Cell) (s : Shared) (E : Value → Shared → Prop) (Q : Value → Shared → Prop), Inv σ g (CS 0 ++ P) s → Q (.ref it) s → wpAny (model prog w) A (pyIter (.ref it)) Q E s) ∧
        (∀ L i vs g P m s H E, i < n → J i vs g P → FM.Le f g → Inv σ g ((L, FrameO m) :: (CS i ++ (P ++ H))) s → wpAny (model prog w) A (pyNext (.ref it)) (TurnG prog w A σ target elt (cenvOf scope cl L env) L it CS J i vs g H E) E s) ∧
        (∀ (g : FM) (P : List Cell) (s : Shared) (E : Value → Shared → Prop) (Q : Option Value → Shared → Prop), FM.Le f g → Inv σ g (CS n ++ P) s → (∀ s', Inv σ g (CE ++ P) s' → Q none s') → wpAny (model prog w) A (pyNext (.ref it)) Q E s) ∧
        (∀ L m acc vs g P s, J n vs g P → FM.Le f g → Inv σ g ((L, FrameO m) :: (acc, ListO vs) :: (CE ++ P)) s → match use with
          | none => ∀ s', Inv σ g ((acc, ListO vs) :: (CE ++ P)) s' → Q (.ref acc) s'
          | some u => wpAny (model prog w) A (u (.ref acc)) (fun _ s₁ => ∃ m' X, Inv σ g ((L, FrameO m') :: X) s₁ ∧ ∀ s', Inv σ g X s' → Q .none s') E s)) E s₁) E s)
    (hs : ∀ x, foldedSetIterable iter env x = pure x := by intro _; rfl) :
    wpAny (model prog w) A (comprehension (.ListComp elt [⟨target, iter, [], 0⟩] scope pos) scope env pos' (newList []) false (eval iter env) use) Q E s := by
  refine wpAny_comprehension_free (g := ⟨target, iter, [], 0⟩) (gs := []) (use := use) rfl hs hclos hkind hnames (wpAny_mono h (fun xv s₁ h₁ => wpAny_mono h₁ (fun itv s₂ h₂ => ?_) fun _ _ e => e) fun _ _ e => e)
  obtain ⟨it, n, CS, CE, f, P, rfl, hn, I, hJ, iter1, turn, stop, hQ⟩ := h₂
  refine wpAny_newObj_type ?_ (by simp [sizeOk])
  have I := I.push (q := ListO []) (o := { cls := .type "list", data := .seq #[] }) (s' := { s₂ with heap := s₂.heap.push { cls := .type "list", data := .seq #[] } }) rfl ⟨0, rfl⟩ rfl rfl rfl
  generalize s₂.heap.objs.size = acc at I ⊢
  generalize ({ s₂ with heap := s₂.heap.push { cls := .type "list", data := .seq #[] } } : Shared) = s₃ at I ⊢
  refine wpAny_newFunctionEnv hcell (fun _ hm => nomatch hm) (fun h' hns hsb => ?_) hkind
  have I := I.newNs (a := s₃.heap.objs.size) (s' := { s₃ with heap := h', toks := s₃.toks + ([] : List (Str × Value)).length }) (fun b o hb e => hsb.2 b hb ▸ Heap.get?_push_of_some _ e) (Nat.le_refl _) hns rfl rfl
  generalize hL : s₃.heap.objs.size = L at I ⊢
  generalize ({ s₃ with heap := h', toks := s₃.toks + ([] : List (Str × Value)).length } : Shared) = s₄ at I ⊢
  have loop : codeAny (model prog w) A (.compLoop (.ListComp elt [⟨target, iter, [], 0⟩] scope pos) 0 (.ref it) (.ref acc) (cenvOf scope cl L env)) (compPost (model prog w) A E use Q (.ref acc) L) s₄ := by
    refine compTurnsG J hn (turn L) stop (fun vs g P m s hJ l I => ?_) s₄ [] f _ (Nat.le_refl _) (FM.Le.refl f) hJ I
    have fin := hQ L m acc vs g P s hJ l I
    cases use with
    | none => exact ⟨m, I.ns, fun h' hs => fin _ (I.gone hs.extBut rfl rfl)⟩
    | some u => exact wpAny_mono fin (fun _ s₁ ⟨m', X, I, q⟩ => ⟨m', I.ns, fun h' hs => q _ (I.gone hs.extBut rfl rfl)⟩) fun _ _ e => e
  refine codeAny_compStart_list loop (iter1 f ((L, FrameO (fun x => List.lookup x ([] : List (Str × Value)).reverse)) :: (acc, ListO []) :: P) s₄ _ _ (I.perm ?_) loop)
  exact ((List.perm_middle (l₁ := CS 0) (l₂ := (acc, ListO []) :: P)).trans (List.Perm.cons _ List.perm_middle)).symm
end
end Mine
end
-- R19
noncomputable section
open PySem PySem.Calls PyProof.Rows PySem.W
set_option maxRecDepth 100000
set_option linter.unusedVariables false
namespace Mine
def dfDef (name : Str) (params : Arguments) (body : List Stmt) (scope : Scope) (pm cd doc : Value) (T : Addr) : FuncData := { docDef name params body scope pm cd doc with defaults := .ref T }
section
variable {prog : Program} {w : World} {A : Around} {E : Value → Shared → Prop} {s : Shared} {σ : OsState} {f : FM} {P : List Cell} {env : Env} {m : Str → Option Value}
theorem codeAny_call_cellsD {R : Result → Shared → Prop} {a : Addr} {o : Obj} {fd : FuncData} {body : List Stmt} {vals : List Value} {binds : List (Str × Value)}
    (hroom : A.depth < recursionLimit) (ho : s.heap.get? a = some o) (hdata : o.data = .func fd) (hlim : s.heap.NoLimit) (hcd : s.heap.CodeRec fd.code fd.qualname)
    (hbody : fd.body = .stmts body) (hbind : BindsTo s fd ⟨vals, []⟩ binds) (hclo : fd.closure = [])
    (hkind : ∀ x ∈ binds, fd.scope.names.lookup x.1 = some .local ∨ (fd.scope.names.lookup x.1 = some .cell ∧ ((cellsFrom (s.heap.objs.size + 1) fd.scope.names []).lookup x.1).isSome = true))
    (h : ∀ s₁, InCallC s (callEnvC fd s.heap.objs.size a).locals (bindL (callEnvC fd s.heap.objs.size a).kindOf binds fun _ => none) (callEnvC fd s.heap.objs.size a).cells
        (bindC (callEnvC fd s.heap.objs.size a).kindOf binds fun _ => none) s₁ →
      wpAny (model prog w) (A.deeper (callEnvC fd s.heap.objs.size a)) (execs body (callEnvC fd s.heap.objs.size a)) (fun f s' => R (.ok (.ret (match f with | .ret v => v | _ => .none))) s')
        (fun e s' => wpAny (model prog w) (A.deeper (callEnvC fd s.heap.objs.size a)) (leaving (callEnvC fd s.heap.objs.size a) e) (fun _ s'' => R (.error e) s'') (fun e' s'' => R (.error e') s'') s') s₁)
    (hco : fd.scope.isCoroutine = false := by rfl) (hgen : fd.scope.isGenerator = false := by rfl) (hk : fd.scope.kind = .function := by rfl) :
    codeAny (model prog w) A (.call (.ref a) ⟨vals, []⟩) R s := by
  refine codeAny_call_function hroom ho hdata hco hgen hbody hcd (hbind _ _ _ _ ?_)
  rw [hclo]
  refine wpAny_newFunctionEnv_cells hk hkind fun env he s' x => ?_
  subst he
  exact ⟨hlim.keeps x.toInCall.keep, codeAny_func (h s' x)⟩
/-- the same, with a default value -/
theorem enterD {name : Str} {params : Arguments} {body : List Stmt} {scope : Scope} {pm cd doc : Value} {a T : Addr} {dv : List Value} {args : List Value} {binds : List (Str × Value)} {d u : Nat} {Q : Value → Shared → Prop}
    (R : Room A (d + 1) (u + 3)) (I : Inv σ f P s) (lim : LimF f) (fn : FnF f a (dfDef name params body scope pm cd doc T))
    (hbind : ∀ s' : Shared, (∃ n, s'.heap.get? T = some { cls := .type "tuple", dict := none, data := .seq dv.toArray n, slots := #[] }) → BindsTo s' (dfDef name params body scope pm cd doc T) ⟨args, []⟩ binds) (hT : IsT f T dv)
    (hkind : ∀ L : Nat, ∀ x ∈ binds, scope.names.lookup x.1 = some .local ∨ (scope.names.lookup x.1 = some .cell ∧ ((cellsFrom (L + 1) scope.names []).lookup x.1).isSome = true))
    (hlook : ∀ L : Nat, ∀ p ∈ cellsFrom (L + 1) scope.names [], (cellsFrom (L + 1) scope.names []).lookup p.1 = some p.2)
    (h : ∀ L s', Inv σ f ((L, FrameO (bindL (callEnvC (dfDef name params body scope pm cd doc T) L a).kindOf binds fun _ => none)) ::
        ((cellsFrom (L + 1) scope.names []).map (fun p => ((p.2, CellO (bindC (callEnvC (dfDef name params body scope pm cd doc T) L a).kindOf binds (fun _ => none) p.1)) : Cell)) ++ P)) s' →
      Room (A.deeper (callEnvC (dfDef name params body scope pm cd doc T) L a)) d u →
      wpAny (model prog w) (A.deeper (callEnvC (dfDef name params body scope pm cd doc T) L a)) (execs body (callEnvC (dfDef name params body scope pm cd doc T) L a)) (fun fl s'' => Q (match fl with | .ret v => v | _ => .none) s'') (fun _ _ => False) s')
    (hco : scope.isCoroutine = false := by rfl) (hgen : scope.isGenerator = false := by rfl) (hk : scope.kind = .function := by rfl) : wpAny (model prog w) A (call (.ref a) args) Q E s := by
  obtain ⟨o, ho, hd, hc⟩ := fn
  refine wpAny_call (codeAny_call_cellsD R.dp (I.frz _ _ ho) hd (lim.no I) (hc.rec I) rfl (hbind _ (hT.at I)) rfl (hkind _) (fun s₁ x => ?_) hco hgen hk)
  refine wpAny_mono (h s.heap.objs.size s₁ ?_ (R.deeper _)) (fun fl s'' x => x) (fun _ _ x => x.elim)
  obtain ⟨x1, x2, x3, x4⟩ := x
  obtain ⟨⟨h', tk, rfl⟩, y2, y3, y4⟩ := x1
  have hL : (callEnvC (dfDef name params body scope pm cd doc T) s.heap.objs.size a).locals = s.heap.objs.size := rfl
  have hcs : (callEnvC (dfDef name params body scope pm cd doc T) s.heap.objs.size a).cells = cellsFrom (s.heap.objs.size + 1) scope.names [] := rfl
  rw [hL] at y2 x4
  rw [hcs] at x2 x3 x4
  have J := I.grow (s' := { s with heap := h', toks := tk }) y3 rfl rfl
  have key : ∀ (cs : List (Str × Addr)), (∀ p ∈ cs, p ∈ cellsFrom (s.heap.objs.size + 1) scope.names []) → cs.Pairwise (fun x y => x.2 ≠ y.2) →
      Inv σ f (cs.map (fun p => ((p.2, CellO (bindC (callEnvC (dfDef name params body scope pm cd doc T) s.heap.objs.size a).kindOf binds (fun _ => none) p.1)) : Cell)) ++ P) { s with heap := h', toks := tk } := by
    intro cs
    induction cs with
    | nil => intro _ _; exact J
    | cons p cs ih =>
      intro hm hpw
      obtain ⟨hp1, hp2⟩ := List.pairwise_cons.mp hpw
      have K := ih (fun q hq => hm q (List.mem_cons_of_mem _ hq)) hp2
      have hpm := hm p List.mem_cons_self
      obtain ⟨oc, hoc, hdc⟩ := x2 p.1 p.2 (hlook _ p hpm)
      have hlt := x4 p.1 p.2 hpm
      refine ⟨K.frz, ?_, ?_, ?_, K.bare, K.os⟩
      · intro q hq
        rcases List.mem_cons.mp hq with rfl | hq
        · exact ⟨oc, hoc, hdc⟩
        · exact K.own q hq
      · intro q hq
        rcases List.mem_cons.mp hq with rfl | hq
        · exact I.fresh (Nat.le_of_lt hlt)
        · exact K.sep q hq
      · refine List.nodup_cons.mpr ⟨fun hmem => ?_, K.nod⟩
        obtain ⟨q, hq, e⟩ := List.mem_map.mp hmem
        rcases List.mem_append.mp hq with hq | hq
        · obtain ⟨q', hq', rfl⟩ := List.mem_map.mp hq
          exact hp1 q' hq' e.symm
        · have h3 : q.1 = p.2 := e
          exact absurd (Nat.lt_trans (I.lt hq) (h3 ▸ hlt)) (Nat.lt_irrefl _)
  have K := key _ (fun p hp => hp) x3
  obtain ⟨oL, hoL, hxL⟩ := FrameO.of_ns y2
  refine ⟨K.frz, ?_, ?_, ?_, K.bare, K.os⟩
  · intro q hq
    rcases List.mem_cons.mp hq with rfl | hq
    · exact ⟨oL, hoL, hxL⟩
    · exact K.own q hq
  · intro q hq
    rcases List.mem_cons.mp hq with rfl | hq
    · exact I.fresh (Nat.le_refl _)
    · exact K.sep q hq
  · refine List.nodup_cons.mpr ⟨fun hmem => ?_, K.nod⟩
    obtain ⟨q, hq, e⟩ := List.mem_map.mp hmem
    rcases List.mem_append.mp hq with hq | hq
    · obtain ⟨q', hq', rfl⟩ := List.mem_map.mp hq
      have := x4 q'.1 q'.2 hq'
      have e : q'.2 = s.heap.objs.size := e
      rw [e] at this
      exact absurd this (Nat.lt_irrefl _)
    · have h3 : q.1 = s.heap.objs.size := e
      exact absurd (I.lt hq) (h3 ▸ Nat.lt_irrefl _)
def FnD (f : FM) (a : Addr) (i : Nat) : Prop := ∃ pm cd doc T, FnF f a (dfDef (defAt i).name (defAt i).params (defAt i).body (defAt i).scope pm cd doc T) ∧ IsT f T [.none]
theorem FnD.le {f g : FM} {a i} (x : FnD f a i) (l : FM.Le f g) : FnD g a i := let ⟨p, c, d, T, h, h'⟩ := x; ⟨p, c, d, T, h.le l, h'.le l⟩
theorem callIter {l : Addr} {vs : List Value} {Q : Value → Shared → Prop} (I : Inv σ f P s) (hl : s.heap.IsList l vs.toArray) (h : ∀ it s', Inv σ f ((it, IterO l 0) :: P) s' → Q (.ref it) s') :
    wpAny (model prog w) A (call (.builtin "iter") [.ref l]) Q E s := by
  refine call_function_entry (by decide +kernel) (by decide +kernel) kdk_entry_iter (kdk_args_iter _) ?_
  unfold Builtin.«iter»
  refine wpAny_bind (m := someArgs "iter" 1 2 _) (wpAny_of_eq (a := [Value.ref l]) (by first | rfl | kernel_rfl!) ?_)
  show wpAny _ _ (pyIter (.ref l) >>= _) _ _ _
  exact wpAny_bind (iterL I hl fun it s I => wpAny_pure ⟨_, rfl, h it s I⟩)
theorem addI {a b : Int} {t u : Tok} {Q : Value → Shared → Prop} (I : Inv σ f P s) (h : ∀ s' t, Inv σ f P s' → Q (.int (a + b) t) s') : wpAny (model prog w) A (inplaceOp .Add (.int a t) (.int b u)) Q E s := by
  exact AutoIntOps.iadd_0 (h _ _ (I.to rfl rfl rfl))
end
def two_ {α : Type} (lt : α → α → Bool) (q new : α) : List α := if lt new q = true then [new, q] else [q, new]
end Mine
end
-- H2
noncomputable section
open PySem PySem.Calls PyProof.Rows
set_option maxRecDepth 100000
set_option linter.unusedVariables false
namespace Mine
theorem lt2_0 {α : Type} {x y : α} : (0 : Int) < ([x, y] : List α).length := by simp
theorem lt2_1 {α : Type} {x y : α} : (1 : Int) < ([x, y] : List α).length := by simp
section
variable {prog : Program} {w : World} {A : Around} {E : Value → Shared → Prop} {s : Shared} {σ : OsState} {f : FM} {P : List Cell} {mg mb : Str → Option Value}
theorem siftdown2_ct {a h : Addr} {x y : Value} {b : Bool} {t u : Tok} {Q : Value → Shared → Prop}
    (R : Room A 1 30) (lim : LimF f) (fn : FnI f a 21) (I : Inv σ f ((h, ListO [x, y]) :: P) s) (hlt : CmpLt f x y b)
    (hQ : ∀ s', Inv σ f ((h, ListO (if b then [y, x] else [x, y])) :: P) s' → Q .none s') :
    wpAny (model prog w) A (call (.ref a) [.ref h, .int 0 t, .int 1 u]) Q E s := by
  obtain ⟨pm, cd, doc, fn⟩ := fn
  refine enter (d := 0) (u := 27) (binds := [(Str.ofString "heap", .ref h), (Str.ofString "startpos", .int 0 t), (Str.ofString "pos", .int 1 u)]) R I lim fn rfl (locs rfl) ?_
  intro L s I R
  refine asgN fun _ _ nx => Subscript_ <| ldN I rfl <| ldN I rfl <| subL (x := y) I.swap.list (by decide) (by decide) rfl <| nx _ _ <| stN' I fun s I => ?_
  refine wpAny_execs_cons <| wpAny_While <| codeAny_whileLoop (fun n s => (n = 1 ∧ ∃ m, Inv σ f ((L, FrameO m) :: (h, ListO [x, y]) :: P) s ∧ m (Str.ofString "heap") = some (.ref h) ∧ m (Str.ofString "startpos") = some (.int 0 t) ∧ m (Str.ofString "pos") = some (.int 1 u) ∧ m (Str.ofString "newitem") = some y) ∨
    (n = 0 ∧ b = true ∧ ∃ m u, Inv σ f ((L, FrameO m) :: (h, ListO [x, x]) :: P) s ∧ m (Str.ofString "heap") = some (.ref h) ∧ m (Str.ofString "startpos") = some (.int 0 t) ∧ m (Str.ofString "pos") = some (.int 0 u) ∧ m (Str.ofString "newitem") = some y)) ?_ 1 (.inl ⟨rfl, _, I, rfl, rfl, rfl, rfl⟩)
  rintro n s (⟨rfl, m, I, h1, h2, h3, h4⟩ | ⟨rfl, rfl, m, u, I, h1, h2, h3, h4⟩)
  · refine absK fun K E' hK => wpAny_isTrue_Compare1 <| ldN I h3 <| ldN I h2 <| PySem.P.gt_int <| wpAny_truthy_bool <| hK _ _ ?_
    rw [if_pos (by decide)]
    refine absK fun K E' hK => ?_
    refine asgN fun _ _ nx => wpAny_BinOp <| wpAny_BinOp <| ldN I h3 <| cInt I fun s t I => opSub I fun s t I => cInt I fun s t I => opShr1 I (by decide) fun s t I => nx _ _ <| stN' I fun s I => ?_
    refine asgN fun _ _ nx => Subscript_ <| ldN I h1 <| ldN I rfl <| subL (x := x) I.swap.list (by decide) (by decide) rfl <| nx _ _ <| stN' I fun s I => ?_
    refine wpAny_execs_cons <| wpAny_If <| wpAny_isTrue_Compare1 <| ldN I rfl <| ldN I h4 <| hlt prog w _ _ _ σ f _ _ (FM.Le.refl f) R.le I fun s I => wpAny_truthy_bool ?_
    cases b with
    | true =>
      rw [if_pos rfl]
      refine wpAny_execs_cons <| wpAny_Assign_Subscript <| ldN I rfl <| ldN I h1 <| ldN I h3 <| setL I.swap (by decide) (by decide) lt2_1 fun s I => ?_
      refine wpAny_execs_cons <| wpAny_Assign_Name <| ldN I.swap rfl <| stN' I.swap fun s I => wpAny_execs_cons <| wpAny_Continue ?_
      exact hK _ _ ⟨0, by decide, .inr ⟨rfl, rfl, _, _, I, h1, h2, rfl, h4⟩⟩
    | false =>
      rw [if_neg Bool.false_ne_true]
      refine wpAny_execs_nil <| wpAny_execs_cons <| wpAny_Break <| hK _ _ ?_
      refine wpAny_execs_cons <| wpAny_Assign_Subscript <| ldN I h4 <| ldN I h1 <| ldN I h3 <| setL I.swap (by decide) (by decide) lt2_1 fun s I => wpAny_execs_nil <| hQ _ I.swap.drop
  · refine absK fun K E' hK => wpAny_isTrue_Compare1 <| ldN I h3 <| ldN I h2 <| PySem.P.gt_int <| wpAny_truthy_bool <| hK _ _ ?_
    rw [if_neg (by decide)]
    refine wpAny_execs_nil <| wpAny_execs_cons <| wpAny_Assign_Subscript <| ldN I h4 <| ldN I h1 <| ldN I h3 <| setL I.swap (by decide) (by decide) lt2_0 fun s I => wpAny_execs_nil <| hQ _ I.swap.drop
theorem siftup2_ct {h : Addr} {x y : Value} {b : Bool} {u : Tok} {Q : Value → Shared → Prop}
    (R : Room A 2 40) (B : Base mg mb f) (I : Inv σ f ((h, ListO [x, y]) :: P) s) (hlt : CmpLt f y x b)
    (hQ : ∀ s', Inv σ f ((h, ListO (if b then [x, y] else [y, x])) :: P) s' → Q .none s') :
    wpAny (model prog w) A (call (.ref 142) [.ref h, .int 0 u]) Q E s := by
  obtain ⟨pm, cd, doc, fn⟩ := B.f22
  refine enter (d := 1) (u := 37) (binds := [(Str.ofString "heap", .ref h), (Str.ofString "pos", .int 0 u)]) R I B.lim fn rfl (locs rfl) ?_
  intro L s I R
  refine asgN fun _ _ nx => wpAny_Call_NameR <| bi I B.G B.nm.len0 B.B B.nm.len <| callWith_builtin1 <| wpAny_items_cons <| ldN I rfl <| wpAny_items_nil <| lenL I I.swap.list (by simp) fun s t I => nx _ _ <| stN' I fun s I => ?_
  refine wpAny_execs_cons <| wpAny_Assign_Name <| ldN I rfl <| stN' I fun s I => ?_
  refine asgN fun _ _ nx => Subscript_ <| ldN I rfl <| ldN I rfl <| subL (x := x) I.swap.list (by decide) (by decide) rfl <| nx _ _ <| stN' I fun s I => ?_
  refine asgN fun _ _ nx => wpAny_BinOp <| wpAny_BinOp <| cInt I fun s t I => ldN I rfl <| opMul I (mulOk2 (p := 0) (m := 1) (by decide) (by decide)) fun s t I => cInt I fun s t I => opAdd I fun s t I => nx _ _ <| stN' I fun s I => ?_
  refine wpAny_execs_cons <| wpAny_While <| codeAny_whileLoop (fun n s => (∃ k c xs m t u, ((n = 1 ∧ k = (0 : Int) ∧ c = (1 : Int) ∧ xs = [x, y]) ∨ (n = 0 ∧ k = 1 ∧ c = 3 ∧ xs = [y, y])) ∧ Inv σ f ((L, FrameO m) :: (h, ListO xs) :: P) s ∧ m (Str.ofString "heap") = some (.ref h) ∧ (∃ u, m (Str.ofString "startpos") = some (.int 0 u)) ∧ m (Str.ofString "pos") = some (.int k u) ∧ m (Str.ofString "newitem") = some x ∧ m (Str.ofString "childpos") = some (.int c t) ∧ (∃ u, m (Str.ofString "endpos") = some (.int 2 u)))) ?_ 1 ⟨0, 1, _, _, _, _, .inl ⟨rfl, rfl, rfl, rfl⟩, I, rfl, ⟨_, rfl⟩, rfl, rfl, rfl, ⟨_, rfl⟩⟩
  rintro n s ⟨k, c, xs, m, t, u, ⟨rfl, rfl, rfl, rfl⟩ | ⟨rfl, rfl, rfl, rfl⟩, I, h1, ⟨u2, h2⟩, h3, h4, h5, ⟨u6, h6⟩⟩
  · refine absK fun K E' hK => wpAny_isTrue_Compare1 <| ldN I h5 <| ldN I h6 <| PySem.P.lt_int <| wpAny_truthy_bool <| hK _ _ ?_
    rw [if_pos (by decide)]
    refine absK fun K E' hK => ?_
    refine asgN fun _ _ nx => wpAny_BinOp <| ldN I h5 <| cInt I fun s t I => opAdd I fun s t I => nx _ _ <| stN' I fun s I => ?_
    refine wpAny_execs_cons <| wpAny_If <| wpAny_isTrue_BoolOp <| wpAny_allTrue_And_cons <| wpAny_isTrue_Compare1 <| ldN I rfl <| ldN I h6 <| PySem.P.lt_int <| wpAny_truthy_bool ?_
    rw [if_neg (by decide), if_neg Bool.false_ne_true]
    refine wpAny_execs_nil <| wpAny_execs_cons <| wpAny_Assign_Subscript <| Subscript_ <| ldN I h1 <| ldN I h5 <| subL (x := y) I.swap.list (by decide) (by decide) rfl <| ldN I h1 <| ldN I h3 <| setL I.swap (by decide) (by decide) lt2_0 fun s I => ?_
    have I := I.swap
    refine wpAny_execs_cons <| wpAny_Assign_Name <| ldN I h5 <| stN' I fun s I => ?_
    refine asgN fun _ _ nx => wpAny_BinOp <| wpAny_BinOp <| cInt I fun s t I => ldN I rfl <| opMul I (mulOk2 (p := 1) (m := 2) (by decide) (by decide)) fun s t I => cInt I fun s t I => opAdd I fun s t I => nx _ _ <| stN' I fun s I => wpAny_execs_nil ?_
    exact hK _ _ ⟨0, by decide, 1, 3, _, _, _, _, .inr ⟨rfl, rfl, rfl, rfl⟩, I, h1, ⟨_, h2⟩, rfl, h4, rfl, ⟨_, h6⟩⟩
  · refine absK fun K E' hK => wpAny_isTrue_Compare1 <| ldN I h5 <| ldN I h6 <| PySem.P.lt_int <| wpAny_truthy_bool <| hK _ _ ?_
    rw [if_neg (by decide)]
    refine wpAny_execs_nil <| wpAny_execs_cons <| wpAny_Assign_Subscript <| ldN I h4 <| ldN I h1 <| ldN I h3 <| setL I.swap (by decide) (by decide) lt2_1 fun s I => ?_
    have I := I.swap
    refine wpAny_execs_cons <| wpAny_Expr <| wpAny_Call_NameR <| gl I B.G B.nm.siftdown_max <| callF B.f21 <| wpAny_items_cons <| ldN I h1 <| wpAny_items_cons <| ldN I h2 <| wpAny_items_cons <| ldN I h3 <| wpAny_items_nil ⟨_, _, _, FM.Le.refl f, I, ?_⟩
    exact siftdown2_ct R.le B.lim B.f21 I.swap hlt fun s I => wpAny_execs_nil <| hQ _ I.swap.drop
theorem heapreplace2_ct {h : Addr} {x y z : Value} {b : Bool} {Q : Value → Shared → Prop}
    (R : Room A 3 50) (B : Base mg mb f) (I : Inv σ f ((h, ListO [x, y]) :: P) s) (hlt : CmpLt f y z b)
    (hQ : ∀ s', Inv σ f ((h, ListO (if b then [z, y] else [y, z])) :: P) s' → Q x s') :
    wpAny (model prog w) A (call (.ref 107) [.ref h, z]) Q E s := by
  obtain ⟨pm, cd, doc, fn⟩ := B.f17
  refine enter (d := 2) (u := 47) (binds := [(Str.ofString "heap", .ref h), (Str.ofString "item", z)]) R I B.lim fn rfl (locs rfl) ?_
  intro L s I R
  refine asgN fun _ _ nx => Subscript_ <| ldN I rfl <| cInt I fun s t I => subL (x := x) I.swap.list (by decide) (by decide) rfl <| nx _ _ <| stN' I fun s I => ?_
  refine wpAny_execs_cons <| wpAny_Assign_Subscript <| ldN I rfl <| ldN I rfl <| cInt I fun s t I => setL I.swap (by decide) (by decide) lt2_0 fun s I => ?_
  have I := I.swap
  refine wpAny_execs_cons <| wpAny_Expr <| wpAny_Call_NameR <| gl I B.G B.nm.siftup_max <| callF B.f22 <| wpAny_items_cons <| ldN I rfl <| wpAny_items_cons <| cInt I fun s t I => wpAny_items_nil ⟨_, _, _, FM.Le.refl f, I, ?_⟩
  refine siftup2_ct (x := z) (y := y) R.le B I.swap hlt fun s I => wpAny_execs_cons <| wpAny_Return_some <| ldN I.swap rfl <| hQ _ I.swap.drop
theorem heapify2_ct {h : Addr} {x y : Value} {b : Bool} {Q : Value → Shared → Prop}
    (R : Room A 3 50) (B : Base mg mb f) (I : Inv σ f ((h, ListO [x, y]) :: P) s) (hlt : CmpLt f y x b)
    (hQ : ∀ s', Inv σ f ((h, ListO (if b then [x, y] else [y, x])) :: P) s' → Q .none s') :
    wpAny (model prog w) A (call (.ref 114) [.ref h]) Q E s := by
  obtain ⟨pm, cd, doc, fn⟩ := B.f18
  refine enter (d := 2) (u := 47) (binds := [(Str.ofString "x", .ref h)]) R I B.lim fn rfl (locs rfl) ?_
  intro L s I R
  refine asgN fun _ _ nx => wpAny_Call_NameR <| bi I B.G B.nm.len0 B.B B.nm.len <| callWith_builtin1 <| wpAny_items_cons <| ldN I rfl <| wpAny_items_nil <| lenL I I.swap.list (by simp) fun s t I => nx _ _ <| stN' I fun s I => ?_
  refine wpAny_execs_cons (wpAny_For (wpAny_Call_NameR (bi I B.G B.nm.reversed0 B.B B.nm.reversed (PyProof.Rows.callWith_type1 (wpAny_items_cons (wpAny_Call_NameR (bi I B.G B.nm.range0 B.B B.nm.range (PyProof.Rows.callWith_type1 (wpAny_items_cons
    (wpAny_BinOp (ldN I rfl (cInt I fun s t I => opDiv I (by decide) (by decide) fun s t I => wpAny_items_nil (mkRange I fun r s I => wpAny_items_nil ?_)))))))))))))
  have e : Int.fdiv ((([x, y] : List Value).length : Nat) : Int) 2 = ((1 : Nat) : Int) := by simp
  rw [e] at I
  refine revRange (n := 1) (by decide) I fun it s I => iterRI I ?_
  refine codeAny_forLoop (fun n s => (n = 1 ∧ ∃ m, Inv σ f ((it, RIterO 0 1 (-1)) :: (L, FrameO m) :: (h, ListO [x, y]) :: P) s ∧ m (Str.ofString "x") = some (.ref h)) ∨
    (n = 0 ∧ ∃ m, Inv σ f ((it, RIterO (-1) 0 (-1)) :: (L, FrameO m) :: (h, ListO (if b then [x, y] else [y, x])) :: P) s)) ?_ 1 (.inl ⟨rfl, _, I, rfl⟩)
  rintro n s (⟨rfl, m, I, h1⟩ | ⟨rfl, m, I⟩)
  · refine nextR I (by decide) fun s t I => wpAny_assign_Name <| stN' I.swap fun s I => absK fun K E' hK => ?_
    refine wpAny_execs_cons <| wpAny_Expr <| wpAny_Call_NameR <| gl I B.G B.nm.siftup_max <| callF B.f22 <| wpAny_items_cons <| ldN I h1 <| wpAny_items_cons <| ldN I rfl <| wpAny_items_nil ⟨_, _, _, FM.Le.refl f, I, ?_⟩
    refine siftup2_ct R.le B (I.perm ((List.Perm.cons _ (List.Perm.swap ..)).trans ((List.Perm.swap ..).trans (List.Perm.refl _)))) hlt fun s I => wpAny_execs_nil ?_
    exact hK _ _ ⟨0, by decide, .inr ⟨rfl, _, I.perm ((List.Perm.swap ..).trans ((List.Perm.cons _ (List.Perm.swap ..)).trans (List.Perm.swap ..)))⟩⟩
  · exact endR R.hand I (by decide) fun s I => wpAny_execs_nil <| wpAny_execs_nil <| hQ _ I.drop
end
end Mine
end
-- D9
noncomputable section
open PySem PySem.Calls PyProof.Rows PySem.W
set_option maxRecDepth 100000
set_option linter.unusedVariables false
namespace Mine
abbrev KI := List Int × Int
def nsStep (st : KI × KI × Int) (m : List Int) : KI × KI × Int :=
  if ltL m st.1.1 = true then (if lt2 st.2.1 (m, st.2.2) = true then ((m, st.2.2), st.2.1, st.2.2 + 1) else (st.2.1, (m, st.2.2), st.2.2 + 1)) else st
def nsStart (a b : List Int) : KI × KI × Int := if lt2 (b, 1) (a, 0) = true then ((a, 0), (b, 1), 2) else ((b, 1), (a, 0), 2)
def nsEnd (st : KI × KI × Int) : List (List Int) := if lt2 st.2.1 st.1 = true then [st.2.1.1, st.1.1] else [st.1.1, st.2.1.1]
def nsF : List (List Int) → List (List Int)
  | a :: b :: ms => nsEnd (ms.foldl nsStep (nsStart a b))
  | ms => ms
theorem Proto.shift {f it n C V} (k : Nat) (x : Proto f it n C V) (h : k ≤ n) : Proto f it (n - k) (fun i => C (i + k)) (fun i => V (i + k)) where
  next := fun {prog w A E s σ g P Q} i l hh hi I q => x.next (i + k) l hh (by omega) I fun s' v hv I => q s' v hv (by rw [show i + 1 + k = i + k + 1 from by omega]; exact I)
  stop := fun {prog w A E s σ g P Q} l hh I q => x.stop l hh (by rw [show n - k + k = n from by omega] at I; exact I) q
  iter := fun {prog w A E s σ g P Q} i I q => x.iter (i + k) I q
theorem IsT.tup {σ f P s a vs} (x : IsT f a vs) (I : Inv σ f P s) : IsTup s.heap a vs.toArray := let ⟨n, h⟩ := x.at I; ⟨_, h, rfl, n, rfl⟩
section
variable {prog : Program} {w : World} {A : Around} {E : Value → Shared → Prop} {s : Shared} {σ : OsState} {f : FM} {P : List Cell} {mg mb : Str → Option Value}
theorem lt2_cmp {f : FM} {v w : Value} {x y : KI} (hx : APr f v x) (hy : APr f w y) : CmpLt f v w (lt2 x y) := ((rcTup hx hy).up (by omega)).lt
theorem two_mem {α : Type} (lt : α → α → Bool) (q new : α) : (∃ p r, two_ lt q new = [p, r] ∧ ((lt new q = true ∧ p = new ∧ r = q) ∨ (lt new q = false ∧ p = q ∧ r = new))) := by
  unfold two_
  by_cases h : lt new q = true
  · rw [if_pos h]; exact ⟨_, _, rfl, .inl ⟨h, rfl, rfl⟩⟩
  · rw [if_neg h]; rw [Bool.not_eq_true] at h; exact ⟨_, _, rfl, .inr ⟨h, rfl, rfl⟩⟩
theorem two_map {κ : Type} (lt : Value × κ → Value × κ → Bool) (q new : Value × κ) : (if lt new q = true then [new.1, q.1] else [q.1, new.1]) = (two_ lt q new).map Prod.fst := by
  unfold two_; split <;> rfl
theorem len_two {α : Type} : ∀ us : List α, us.length = 2 → ∃ a b, us = [a, b]
  | [a, b], _ => ⟨a, b, rfl⟩
theorem Assign_comp_use {env : Env} {x : Str} {p pos pos' : Pos} {elt : Expr} {gens : List Comprehension} {scope : Scope} {Q : Flow → Shared → Prop}
    (h : wpAny (model prog w) A (comprehension (.ListComp elt gens scope pos) scope env (firstIterPos gens pos) (newList []) (firstAsync gens) (firstIter gens env) (some (assign (.Name x p) env))) (fun _ => Q .next) E s)
    (hs : swapsWith (.ListComp elt gens scope pos) (some (.Name x p)) pos'.line env = pure true := by rfl) : wpAny (model prog w) A (exec (.Assign [.Name x p] (.ListComp elt gens scope pos) pos') env) Q E s := by
  rw [exec_Assign_Name_used _ _ _ _ hs]
  refine wpAny_bind (wpAny_standAt (wpAny_bind ?_))
  exact wpAny_bind (wpAny_mono h (fun _ _ h => wpAny_pure (wpAny_pure h)) fun _ _ e => e)
theorem nsmallest_ct {v : Value} {t2 : Tok} {ms : List (List Int)} {Q : Value → Shared → Prop} (R : Room A 4 60) (B : Base mg mb f) (F23 : FnD f 148 23) (I : Inv σ f P s) (hv : AL AInts f v ms) (hsz : ms.length < 2 ^ 10) (h3 : 2 < ms.length)
    (hQ : ∀ g s' r, FM.Le f g → Inv σ g P s' → AL AInts g r (nsF ms) → Q r s') :
    wpAny (model prog w) A (call (.ref 148) [.int 2 t2, v]) Q E s := by
  obtain ⟨pm, cd, doc, T, fn, hT⟩ := F23
  obtain ⟨l, vs, rfl, hl, hvs⟩ := hv
  have hlen := hvs.len
  refine enterD (d := 3) (u := 57) (binds := [(Str.ofString "n", .int 2 t2), (Str.ofString "iterable", .ref l), (Str.ofString "key", .none)]) R I B.lim fn (fun s' ⟨n, h⟩ => BindsTo.of_defaults rfl h rfl rfl rfl) hT ?_ ?_ ?_
  · intro L x hx
    rcases List.mem_cons.mp hx with rfl | hx
    · exact .inl rfl
    rcases List.mem_cons.mp hx with rfl | hx
    · exact .inl rfl
    rcases List.mem_cons.mp hx with rfl | hx
    · exact .inr ⟨rfl, rfl⟩
    cases hx
  · intro L p hp
    cases List.mem_singleton.mp hp; rfl
  intro L s I R
  have I : Inv σ f ((L, FrameO (fun y => if y = Str.ofString "iterable" then some (.ref l) else if y = Str.ofString "n" then some (.int 2 t2) else none)) :: (L + 1, CellO (some .none)) :: P) s := I
  have I := I.swap
  obtain ⟨g1, l1, hcell, I⟩ := I.freezeC
  have B := B.le l1
  have hl := hl.le l1
  have hvs : Al (AInts g1) vs ms := hvs.mono fun _ _ h => Rd.int.list.le l1 h
  -- if n == 1
  refine wpAny_execs_cons <| wpAny_If <| wpAny_isTrue_Compare1 <| ldN I rfl <| cInt I fun s t I => PySem.P.eq_int <| wpAny_truthy_bool ?_
  rw [if_neg (by decide)]
  refine wpAny_execs_nil ?_
  -- try: size = len(iterable) ... else: if n >= size
  refine wpAny_execs_cons <| wpAny_Try_except <| wpAny_execs_cons <| wpAny_Assign_Name <| wpAny_Call_NameR <| bi I B.G B.nm.len0 B.B B.nm.len <| callWith_builtin1 <|
    wpAny_items_cons <| ldN I rfl <| wpAny_items_nil <| lenL I (hl.is I) (by omega) fun s ts I => stN' I fun s I => wpAny_execs_nil ?_
  refine wpAny_execs_cons <| wpAny_If <| wpAny_isTrue_Compare1 <| ldN I rfl <| ldN I rfl <| PySem.P.ge_int <| wpAny_truthy_bool ?_
  rw [if_neg (by simp; omega)]
  refine wpAny_execs_nil <| wpAny_execs_nil ?_
  -- if key is None
  refine wpAny_execs_cons <| wpAny_If <| wpAny_isTrue_Compare1 <| ldC (hcell.is I) <| wpAny_Constant_none <| is_none <| wpAny_truthy_bool ?_
  rw [if_pos (show (Value.none == Value.none) = true from rfl)]
  refine absK fun K9 E9 hK9 => ?_
  refine asgN fun _ _ nx => wpAny_Call_NameR <| bi I B.G B.nm.iter0 B.B B.nm.iter <| callWith_builtin1 <| wpAny_items_cons <| ldN I rfl <| wpAny_items_nil <| callIter I (hl.is I) fun it s I => nx _ _ <| stN' I.swap fun s I => ?_
  have I := I.swap
  refine wpAny_execs_cons <| Assign_comp_use <| compG (σ := σ) (cl := []) (pos' := _) (fun i ws g P' => ∃ mf, P' = (L, FrameO mf) :: P ∧ mf (Str.ofString "n") = some (.int 2 t2) ∧ mf (Str.ofString "it") = some (.ref it) ∧ ∃ ks : List KI, Al (APr g) ws ks ∧ ks = ((ms.take i).zipIdx.map fun x => (x.1, (x.2 : Int)))) rfl rfl (by decide) (by decide)
    <| wpAny_Call_NameR <| bi I B.G B.nm.zip0 B.B B.nm.zip <| PyProof.Rows.callWith_type1 <| wpAny_items_cons <| wpAny_Call_NameR <| bi I B.G B.nm.range0 B.B B.nm.range <| PyProof.Rows.callWith_type1 <|
      wpAny_items_cons <| ldN I.swap rfl <| wpAny_items_nil <| mkRange I fun r s I => wpAny_items_cons <| ldN I.p3 rfl <| wpAny_items_nil <| mkZip (n := 2) I (by omega) fun z TI TO ri s I => ?_
  have hz : ∀ {g : FM} {P : List Cell} {s : Shared} {E : Value → Shared → Prop} {Q : Value → Shared → Prop} {A : Around}, Inv σ g (ZipCells z TI TO ri it l 2 0 ++ P) s → Q (.ref z) s → wpAny (model prog w) A (pyIter (.ref z)) Q E s := fun I q => by
    obtain ⟨o, ho, rfl⟩ := Inv.at I
    exact wpAny_pyIter_zip ho q
  refine hz I ?_
  refine ⟨z, 2, ZipCells z TI TO ri it l 2, [(it, IterO l 2)], g1, _, rfl, by decide, I, ⟨_, rfl, rfl, rfl, [], trivial, rfl⟩, fun g P s E Q I q => hz I q, ?_, fun g P s E Q l I h => zipEnd R.hand I h, ?_⟩
  · rintro C i us g P' m s H E hi ⟨mf, rfl, hm1, hm2, ks, hks, hke⟩ l' I
    have hlt : i < vs.length := by omega
    have hv : vs[i]? = some vs[i] := by simp [hlt]
    obtain ⟨b, hb, hvb⟩ := hvs.get i vs[i] hv
    have I := I.perm (P' := ZipCells z TI TO ri it l 2 i ++ ((C, FrameO m) :: ((L, FrameO mf) :: P ++ H))) (List.perm_middle.symm)
    refine zipNext (items := vs.toArray) (y := vs[i]) I hi (by simpa using hl.le l') (by simpa using hv) fun T t s I => ?_
    have I : Inv σ g ((z, ZipO TI TO (rawInt T)) :: (C, FrameO m) :: (T, TupO [.int i t, vs[i]]) :: (TI, PairO (.ref ri) (.ref it)) :: (TO, fun o => ∃ a b, PairO a b o) :: (ri, RIterO ((i + 1 : Nat) : Int) (((2 : Nat) : Int) - ((i + 1 : Nat) : Int)) 1) :: (it, IterO l (i + 1)) :: ((L, FrameO mf) :: P ++ H)) s := Inv.sel [1, 6, 0, 2, 3, 4, 5] (by decide) (by simp [ZipCells]) I
    refine zipGo I fun s I => ?_
    refine asgTup R.hand I I.p3.tup fun s I => ?_
    have I := I.swap
    refine assignInOrder_cons (wpAny_assign_Name (stN' I fun s I => ?_))
    refine assignInOrder_cons (wpAny_assign_Name (stN' I fun s I => assignInOrder_nil ?_))
    refine mkTup <| wpAny_items_cons <| ldN I rfl <| wpAny_items_cons <| ldN I rfl <| wpAny_items_nil ⟨by simp, _, _, _, I, fun U s I => ?_⟩
    obtain ⟨g2, l2, hU, I⟩ := I.freezeT
    have I := Inv.sel [2, 0, 1] (by decide) (by repeat (first | exact Nat.zero_le _ | apply Nat.succ_le_succ)) I
    refine ⟨g2, (L, FrameO mf) :: P, _, l2, I.drop, mf, rfl, hm1, hm2, ks ++ [(b, (i : Int))], ?_, ?_⟩
    · exact (hks.mono fun _ _ h => h.le l2).app (Al.one ⟨U, _, t, rfl, hU, Rd.int.list.le (l'.trans l2) hvb⟩)
    · rw [hke, List.take_add_one, hb]
      have : (ms.take i).length = i := by rw [List.length_take]; omega
      simp [List.zipIdx_append, this]
  · rintro C m acc us g P' s ⟨mf, rfl, hm1, hm2, ks, hks, hke⟩ l' I
    refine wpAny_assign_Name (stN' (Inv.sel [3, 0, 1, 2] (by decide) (by repeat (first | exact Nat.zero_le _ | apply Nat.succ_le_succ)) I) fun s I => ?_)
    refine ⟨_, _, I.swap, fun s I => ?_⟩
    obtain ⟨a, b, ms', rfl⟩ : ∃ a b ms', ms = a :: b :: ms' := by
      match ms, h3 with
      | a :: b :: ms', _ => exact ⟨a, b, ms', rfl⟩
    have hke : ks = [(a, 0), (b, 1)] := by rw [hke]; rfl
    subst hke
    have h2 : us.length = 2 := hks.len
    obtain ⟨u0, u1, rfl⟩ := len_two us h2
    have hu0 : APr g u0 (a, 0) := hks.1
    have hu1 : APr g u1 (b, 1) := hks.2.1
    have B := B.le l'
    have hl := hl.le l'
    -- if not result
    refine wpAny_execs_cons <| wpAny_If <| wpAny_isTrue_Not <| wpAny_isTrue_value <| ldN I rfl <| truL I I.swap.list (by simp) fun s I => ?_
    rw [if_neg (by simp)]
    refine wpAny_execs_nil ?_
    refine wpAny_execs_cons <| wpAny_Expr <| wpAny_Call_NameR <| gl I B.G B.nm.heapify_max <| callF B.f18 <| wpAny_items_cons <| ldN I rfl <| wpAny_items_nil ⟨_, _, _, FM.Le.refl _, I, ?_⟩
    refine heapify2_ct R.le B I.swap (lt2_cmp hu1 hu0) fun s I => ?_
    rw [two_map (fun x y : Value × KI => lt2 y.2 x.2) (u1, ((b, 1) : KI)) (u0, (a, 0))] at I
    obtain ⟨p, q, hpq, hcs⟩ := two_mem (fun x y : Value × KI => lt2 y.2 x.2) (u1, ((b, 1) : KI)) (u0, (a, 0))
    rw [hpq] at I
    have hp : APr g p.1 p.2 ∧ APr g q.1 q.2 ∧ nsStart a b = (p.2, q.2, 2) := by
      rcases hcs with ⟨h, rfl, rfl⟩ | ⟨h, rfl, rfl⟩
      · exact ⟨hu0, hu1, by unfold nsStart; rw [if_pos h]⟩
      · exact ⟨hu1, hu0, by unfold nsStart; rw [if_neg (by simpa using h)]⟩
    obtain ⟨hp, hq, hst⟩ := hp
    obtain ⟨pa, pe, pt, hpa, hpT, hpe⟩ := id hp
    -- top = result[0][0]
    refine wpAny_execs_cons <| wpAny_Assign_Name <| Subscript_ <| Subscript_ <| ldN I.swap rfl <| cInt I fun s t I => subL (x := p.1) I.list (by decide) (by decide) rfl <| cInt I fun s t I => ?_
    rw [hpa]
    refine item_tupleT (j := 0) (x := pe) (l := [pe, .int p.2.2 pt]) (hpT.tup I) (by decide) (by decide) rfl rfl ?_
    refine stN' I.swap fun s I => ?_
    -- order = n; _heapreplace = _heapreplace_max
    refine wpAny_execs_cons <| wpAny_Assign_Name <| ldN I (by exact hm1) <| stN' I fun s I => ?_
    refine wpAny_execs_cons <| wpAny_Assign_Name <| gl I B.G B.nm.heapreplace_max <| stN' I fun s I => ?_
    refine wpAny_execs_cons <| wpAny_For <| ldN I (by exact hm2) ?_
    have pr := (Proto.list (it := it) hl).shift 2 (by rw [hlen]; simp)
    have I := Inv.sel [2, 0, 1] (by decide) (by repeat (first | exact Nat.zero_le _ | apply Nat.succ_le_succ)) I
    refine pr.iter 0 I ?_
    have I := I.swap
    refine forTurns (n := vs.length - 2) (fun i g P' m => ∃ (p q : Value × KI) (o : Int) (to : Tok) (e : Value), P' = (acc, ListO [p.1, q.1]) :: P ∧ m (Str.ofString "result") = some (.ref acc) ∧ m (Str.ofString "top") = some e ∧ AInts g e p.2.1 ∧
        m (Str.ofString "order") = some (.int o to) ∧ m (Str.ofString "_heapreplace") = some (.ref 107) ∧ APr g p.1 p.2 ∧ APr g q.1 q.2 ∧ (ms'.take i).foldl nsStep (nsStart a b) = (p.2, q.2, o)) pr R.hand ?_ ?_ I
      ⟨p, q, 2, t2, pe, rfl, rfl, rfl, hpe, rfl, rfl, hp, hq, hst⟩
    · rintro i v g2 P' m s H E hi hV ⟨p, q, o, to, e, rfl, h1, h2, he, h4, h5, hp, hq, hst⟩ l2 I
      obtain ⟨b', hb', hvb⟩ := hvs.get (i + 2) v hV
      have hb' : ms'[i]? = some b' := hb'
      have hvb : AInts g2 v b' := Rd.int.list.le (l'.trans l2) hvb
      have B := B.le l2
      have hstep : (ms'.take (i + 1)).foldl nsStep (nsStart a b) = nsStep (p.2, q.2, o) b' := by rw [List.take_add_one, hb']; simp [hst]
      refine absK fun K E0 hK => ?_
      refine wpAny_execs_cons <| wpAny_If <| wpAny_isTrue_Compare1 <| ldN I rfl <| ldN I h2 <|
        rcLt hvb he _ _ _ _ _ σ g2 _ _ (FM.Le.refl g2) (R.le (by decide) (by decide)) I fun s I => wpAny_truthy_bool ?_
      by_cases hlt : ltL b' p.2.1 = true
      · rw [if_pos hlt]
        refine wpAny_execs_cons <| wpAny_Expr_any <| wpAny_Call_NameR <| ldN I h5 <| callF B.f17 <| wpAny_items_cons <| ldN I h1 <| wpAny_items_cons <| mkTup <| wpAny_items_cons <| ldN I rfl <| wpAny_items_cons <| ldN I h4 <|
          wpAny_items_nil ⟨by simp, _, _, _, I, fun U s I => ?_⟩
        obtain ⟨g3, l3, hU, I⟩ := I.freezeT
        have hit : APr g3 (.ref U) (b', o) := ⟨U, v, to, rfl, hU, Rd.int.list.le l3 hvb⟩
        refine wpAny_items_nil ⟨_, _, _, l3, I, ?_⟩
        refine heapreplace2_ct R.le (B.le l3) I.swap (lt2_cmp (hq.le l3) hit) fun s I => ?_
        rw [two_map (fun x y : Value × KI => lt2 y.2 x.2) q (.ref U, ((b', o) : KI))] at I
        obtain ⟨p', q', hpq', hcs⟩ := two_mem (fun x y : Value × KI => lt2 y.2 x.2) q (.ref U, ((b', o) : KI))
        rw [hpq'] at I
        have hp' : APr g3 p'.1 p'.2 ∧ APr g3 q'.1 q'.2 ∧ nsStep (p.2, q.2, o) b' = (p'.2, q'.2, o + 1) := by
          rcases hcs with ⟨h, rfl, rfl⟩ | ⟨h, rfl, rfl⟩
          · exact ⟨hit, hq.le l3, by unfold nsStep; rw [if_pos hlt, if_pos h]⟩
          · exact ⟨hq.le l3, hit, by unfold nsStep; rw [if_pos hlt, if_neg (by simpa using h)]⟩
        obtain ⟨hp', hq', hst'⟩ := hp'
        obtain ⟨pa, pe, pt, hpa, hpT, hpe⟩ := id hp'
        refine wpAny_execs_cons <| Assign_Tuple <| Subscript_ <| ldN I.swap (by exact h1) <| cInt I fun s t I => subL (x := p'.1) I.list (by decide) (by decide) rfl ?_
        rw [hpa]
        refine asgTup (items := #[pe, .int p'.2.2 pt]) R.hand I (hpT.tup I) fun s I => ?_
        refine assignInOrder_cons (wpAny_assign_Name (stN' I.swap fun s I => ?_))
        refine assignInOrder_cons (wpAny_assign_Name (stN' I fun s I => assignInOrder_nil ?_))
        refine wpAny_execs_cons <| wpAny_AugAssign_Name <| wpAny_loadName_local rfl rfl I.ns (by exact h4) <| cInt I fun s t I => addI I fun s to' I => stN' I fun s I => ?_
        refine wpAny_execs_nil <| wpAny_execs_nil <| hK _ _ ⟨g3, (acc, ListO [p'.1, q'.1]) :: P, _, l3, I, p', q', o + 1, to', pe, rfl, by exact h1, by rfl, hpe, by rfl, by exact h5, hp', hq', ?_⟩
        rw [hstep, hst']
      · rw [if_neg hlt]
        refine wpAny_execs_nil <| wpAny_execs_nil <| hK _ _ ⟨g2, _, _, FM.Le.refl g2, I, p, q, o, to, e, rfl, by exact h1, by exact h2, he, by exact h4, by exact h5, hp, hq, ?_⟩
        rw [hstep, nsStep, if_neg hlt]
    · rintro g2 P' m s ⟨p, q, o, to, e, rfl, h1, h2, he, h4, h5, hp, hq, hst⟩ l2 I
      rw [List.take_of_length_le (by simp at hlen; omega)] at hst
      -- result.sort()
      have hp := hp
      refine wpAny_execs_cons <| wpAny_Expr <| meth0 F.plainAttrs_list PySem.F.slot_list_sort F.type_list_sort <| ldN I h1 ?_
      have I := I.swap
      obtain ⟨o', ho', hx'⟩ := I.at
      refine ⟨(hx'.is ho').typeIs, ListO.plain ho' hx', wpAny_call_entry PyProof.Rows.slot_list_sort (hx'.is ho').typeIs PyProof.Rows.entry_list_sort (sort2 hp hq (R.in1.le (by decide) (by decide)) I fun s I => ⟨_, rfl, ?_⟩) (PyProof.Rows.args_list_sort _)⟩
      have B := B.le l2
      -- the two, sorted
      obtain ⟨p', q', hpq', hp', hq', hns⟩ : ∃ p' q' : Value × KI, (if lt2 q.2 p.2 = true then [q.1, p.1] else [p.1, q.1]) = [p'.1, q'.1] ∧ APr g2 p'.1 p'.2 ∧ APr g2 q'.1 q'.2 ∧ nsF (a :: b :: ms') = [p'.2.1, q'.2.1] := by
        have e : nsF (a :: b :: ms') = nsEnd (p.2, q.2, o) := by rw [nsF, hst]
        by_cases hc : lt2 q.2 p.2 = true
        · exact ⟨q, p, by rw [if_pos hc], hq, hp, by rw [e, nsEnd, if_pos hc]⟩
        · exact ⟨p, q, by rw [if_neg hc], hp, hq, by rw [e, nsEnd, if_neg hc]⟩
      rw [hpq'] at I
      obtain ⟨g3, l3, hacc, I⟩ := I.freezeL
      have hp' := hp'.le l3
      have hq' := hq'.le l3
      refine wpAny_execs_cons <| wpAny_Return_some ?_
      rw [eval_ListComp]
      refine compG (σ := σ) (cl := []) (pos' := _) (use := none) (fun i ws g P' => P' = (L, FrameO m) :: P ∧ Al (AInts g) ws ([p'.2.1, q'.2.1].take i)) rfl rfl (by decide) (by decide)
        <| ldN I (by exact h1) <| iterL I (hacc.is I) fun it s I => ?_
      refine ⟨it, 2, fun i => [(it, IterO acc i)], [], g3, _, rfl, by decide, I, ⟨rfl, trivial⟩, fun g P s E Q I q => ?_, ?_, fun g P s E Q l I h => ?_, ?_⟩
      · exact (Proto.list (it := it) hacc).iter 0 I q
      · rintro C i us g P' m' s H E hi ⟨rfl, hus⟩ l4 I
        obtain ⟨x, hx, hax⟩ : ∃ x : Value × KI, [p'.1, q'.1][i]? = some x.1 ∧ [p'.2.1, q'.2.1][i]? = some x.2.1 ∧ APr g x.1 x.2 := by
          have : i = 0 ∨ i = 1 := by omega
          rcases this with rfl | rfl
          · exact ⟨p', rfl, rfl, hp'.le l4⟩
          · exact ⟨q', rfl, rfl, hq'.le l4⟩
        obtain ⟨hk, hax⟩ := hax
        obtain ⟨pa, pe, pt, hpa, hpT, hpe⟩ := id hax
        refine nextL I.swap ((hacc.le l4).is I) (x := x.1) (by simpa using hx) fun s I => ?_
        show wpAny _ _ (letOwnedTupleGo _ _ x.1) _ _ _
        rw [hpa]
        refine listGo I ?_
        refine asgTup (items := #[pe, .int x.2.2 pt]) R.hand I (hpT.tup I) fun s I => ?_
        refine assignInOrder_cons (wpAny_assign_Name (stN' I.swap fun s I => ?_))
        refine assignInOrder_cons (wpAny_assign_Name (stN' I fun s I => assignInOrder_nil ?_))
        refine ldN I rfl ⟨g, _, _, FM.Le.refl g, I, rfl, ?_⟩
        rw [List.take_add_one, hk]
        exact hus.app (Al.one hpe)
      · exact (Proto.list (it := it) hacc).stop l R.hand I h
      · rintro C m' acc' us g P' s ⟨rfl, hus⟩ l4 I s I
        obtain ⟨g4, l5, h4, I⟩ := Inv.freezeL I
        refine hK9 _ _ <| hQ g4 s _ (l1.trans (l'.trans (l2.trans (l3.trans (l4.trans l5))))) I.drop ⟨acc', us, rfl, h4, ?_⟩
        rw [hns]
        exact hus.mono fun _ _ h => Rd.int.list.le l5 h
end
end Mine
end
-- R20
noncomputable section
open PySem PySem.Calls PyProof.Rows PySem.W
set_option maxRecDepth 100000
set_option linter.unusedVariables false
namespace Mine
/-- a table of the codes that stand in a code, grown from one -/
def TabO (base : Array Value) (o : Obj) : Prop := ∃ more, o = { cls := .none, data := .fields (base ++ more) } ∧ TriplesOk (base ++ more).toList
/-- a frozen code whose table is at Pt -/
def CodeC (f : FM) (c Pt : Addr) : Prop := ∃ o vs file tf flags tg inF text tt, f c = some o ∧ o.data = .fields vs ∧ vs.getD 11 .none = .ref Pt ∧ vs.getD 18 .none = .str file tf ∧ vs.getD 7 .none = .int flags tg ∧
  vs.getD 9 .none = .bool inF ∧ vs.getD 10 .none = .int text tt
theorem CodeC.le {f g c Pt} (x : CodeC f c Pt) (l : FM.Le f g) : CodeC g c Pt := let ⟨o, vs, file, tf, flags, tg, inF, text, tt, h, r⟩ := x; ⟨o, vs, file, tf, flags, tg, inF, text, tt, l _ _ h, r⟩
section
variable {σ : OsState} {f : FM} {P : List Cell} {env : Env} {m : Str → Option Value}
variable {M : Model} {A : Around} {E : Value → Shared → Prop} {s : Shared}
theorem codeAtI {c Pt : Addr} {base : Array Value} {pos : Pos} {make : CodeContext → Sem Value} {Q : Value → Shared → Prop} (hc : env.code = .ref c) (cc : CodeC f c Pt) (I : Inv σ f ((Pt, TabO base) :: P) s)
    (hmake : ∀ (ctx : CodeContext) (Q' : Value → Shared → Prop), (∀ c' s', Inv σ f ((Pt, TabO base) :: P) s' → s'.heap.get? Pt = s.heap.get? Pt → Q' (.ref c') s') → wpAny M A (make ctx) Q' E s)
    (hQ : ∀ code s', Inv σ f ((Pt, TabO base) :: P) s' → Q code s') : wpAny M A (codeAt env pos make) Q E s := by
  obtain ⟨o, vs, file, tf, flags, tg, inF, text, tt, ho, hd, h11, h2, h7, h9, h10⟩ := cc
  obtain ⟨op, hop, more, rfl, htr⟩ := I.at
  have ho := I.frz _ _ ho
  unfold codeAt
  rw [hc, if_neg (show ¬ ((Value.ref c == Value.none) = true) from Bool.false_ne_true)]
  refine wpAny_bind (wpAny_fieldsOf ho hd ?_)
  rw [h11]
  refine wpAny_bind (wpAny_fieldsOf hop rfl ?_)
  cases hnf : codeAmong pos (base ++ more).toList with
  | some cv => exact wpAny_pure (hQ cv s I)
  | none =>
    rw [h2, h7, h9, h10]
    refine wpAny_bind (hmake _ _ fun c' s I hs => ?_)
    rw [hop] at hs
    refine wpAny_bind (wpAny_updateFieldsOfTheText hs rfl ?_)
    have hnew : (Obj.mapFields (fun vs => if (codeAmong pos vs.toList).isSome = true then vs else vs ++ #[rawInt pos.line, rawInt pos.col, .ref c']) { cls := .none, data := .fields (base ++ more) }) =
        { cls := .none, data := .fields (base ++ (more ++ #[rawInt pos.line, rawInt pos.col, .ref c'])) } := by
      simp only [Obj.mapFields, hnf]
      simp
    have hget := Heap.get?_update_self (h := s.heap) (fun o => Obj.mapFields (fun vs => if (codeAmong pos vs.toList).isSome = true then vs else
      vs ++ #[rawInt pos.line, rawInt pos.col, .ref c']) o) hs (by simp only [hnew]; rfl)
    simp only [hnew] at hget
    have hl : (base ++ (more ++ #[rawInt pos.line, rawInt pos.col, Value.ref c'])).toList = (base ++ more).toList ++ [rawInt pos.line, rawInt pos.col, .ref c'] := by simp
    refine wpAny_bind (wpAny_fieldsOf hget rfl ?_)
    rw [hl, codeAmong_snoc _ htr hnf]
    refine wpAny_pure (hQ _ _ ?_)
    refine I.set (Heap.SameBut.update ..) hget ⟨_, rfl, ?_⟩ rfl rfl
    rw [hl]; exact TriplesOk_snoc _ _ _ _ htr
theorem genCode {c Pt : Addr} {base : Array Value} {pos : Pos} {qual : Str} {scope : Scope} {Q : Value → Shared → Prop} (hc : env.code = .ref c) (cc : CodeC f c Pt) (I : Inv σ f ((Pt, TabO base) :: P) s)
    (hQ : ∀ code s', Inv σ f ((Pt, TabO base) :: P) s' → Q code s') : wpAny M A (genexprCode env pos qual scope) Q E s := by
  unfold genexprCode
  refine codeAtI hc cc I (fun ctx Q' h => ?_) hQ
  refine wpAny_newCode fun c' P' h' tk hk _ _ _ _ => h c' _ (I.grow hk rfl rfl) ?_
  obtain ⟨op, hop, _⟩ := I.at
  rw [hop]; exact hk _ _ hop
end
end Mine
end
-- R21
noncomputable section
open PySem PySem.Calls PyProof.Rows PySem.W
set_option maxRecDepth 100000
set_option linter.unusedVariables false
namespace Mine
/-- the module's builtins -/
def BbF (f : FM) (mg : Str → Option Value) : Prop := ∃ bm ob, mg "__builtins__" = some (.ref bm) ∧ bm ≠ builtinsNs ∧ f bm = some ob ∧ ob.cls = .type "module" ∧ ob.dict = some builtinsNs ∧ ob.data = .plain
theorem BbF.le {f g mg} (x : BbF f mg) (l : FM.Le f g) : BbF g mg := let ⟨bm, ob, h1, h2, h3, h4⟩ := x; ⟨bm, ob, h1, h2, l _ _ h3, h4⟩
theorem passing_all (n : Nat) : passing (fun _ => true) n 0 = List.range n := by
  unfold passing; simp
section
variable {prog : Program} {w : World} {A : Around} {E : Value → Shared → Prop} {s : Shared} {σ : OsState} {f : FM} {P : List Cell} {env : Env} {m mg : Str → Option Value}
theorem Inv.moved {s s' : Shared} {wr : List Addr} {g : Nat} (I : Inv σ f P s) (hw : ∀ b ∈ wr, f b = none ∧ ∀ p ∈ P, p.1 ≠ b) (hm : Moved wr (GenOnlyQ g) s s') : Inv σ f P s' :=
  ⟨fun a o e => hm.heap a o (fun h => by have := (hw a h).1; rw [e] at this; cases this) (I.frz a o e), fun p hp => by
    obtain ⟨o, h1, h2⟩ := I.own p hp
    exact ⟨o, hm.heap _ o (fun h => (hw _ h).2 p hp rfl) h1, h2⟩, I.sep, I.nod, I.bare.movedS hm, hm.os.trans I.os⟩
theorem joinG {elt iter : Expr} {x : Str} {px : Pos} {scope : Scope} {cl : List (Str × Addr)} {pos : Pos} {sep : Str} {t : Tok} {c Pt : Addr} {base : Array Value} {Q : Value → Shared → Prop}
    (R : Room A 1 10) (lim : LimF f) (cc : CodeC f c Pt) (hc : env.code = .ref c) (bb : BbF f mg) (G : NsF f env.globals mg)
    (hclos : closureFor scope env = pure cl) (hcell : ∀ y ∈ scope.names, y.2 ≠ .cell) (h0 : scope.names.lookup (".0" : Str) = some NameKind.local) (hx : scope.names.lookup x = some .local)
    (h : wpAny (model prog w) A (eval iter env) (fun xv s₁ => ∃ l vs, ∃ tx : Nat → Str, xv = .ref l ∧ IsL f l vs ∧ vs.length < 2 ^ 12 ∧ Inv σ f ((Pt, TabO base) :: P) s₁ ∧
      (∀ (A' : Around) (E' : Value → Shared → Prop) (i : Nat) (v : Value) (s₂ : Shared) (m₂ : Str → Option Value) (C : Addr) (code : Value) (bi : Addr), A'.handled = none → vs[i]? = some v → s₂.heap.Ns C m₂ → m₂ x = some v →
        wpAny (model prog w) A' (eval elt (genEnv scope cl C code bi env)) (fun y s₃ => (∃ u, y = .str (tx i) u) ∧ Keeps s₂ s₃) E' s₂) ∧
      JoinOk sep ((List.range vs.length).map tx) = true ∧ ∀ s' t', Inv σ f ((Pt, TabO base) :: P) s' → Q (.str (Txt.join sep ((List.range vs.length).map tx)) t') s') E s)
    (hs : ∀ x, genFold iter env x = pure x := by intro _; rfl) (hco : scope.isCoroutine = false := by rfl) (hkind : scope.kind = .function := by rfl) :
    wpAny (model prog w) A (eval (.GeneratorExp elt [⟨.Name x px, iter, [], 0⟩] scope pos) env) (fun a s => wpAny (model prog w) A (call (.builtin "str.join") [.str sep t, a]) Q E s) E s := by
  refine wpAny_GeneratorExp_walksQ R.hand hco hclos hcell h0 hx hkind R.dp (wpAny_mono h (fun xv s₁ h₁ => ?_) fun _ _ e => e) hs
  obtain ⟨l, vs, tx, rfl, hl, hn, I, helt, hok, hQ⟩ := h₁
  refine iterL I (hl.is I) fun it s I => ⟨lim.no I, genCode hc cc I.swap fun code s I => ?_⟩
  obtain ⟨bm, ob, b1, b2, b3, b4, b5, b6⟩ := id bb
  refine wpAny_builtinsFor (G.ns I) b1 b2 (I.frz _ _ b3) b4 b5 b6 ?_
  have I := I.swap
  have hfit : f it = none := I.sep (it, IterO l 0) List.mem_cons_self
  obtain ⟨oi, hoi, hi1, hi2⟩ := I.at
  obtain ⟨ol, hol, hol'⟩ := id hl
  have hne : l ≠ it := fun e => by rw [e, hfit] at hol; cases hol
  have hlt : it < s.heap.objs.size := Heap.lt_size hoi
  have hll : l < s.heap.objs.size := Heap.lt_size (I.frz _ _ hol)
  have hcs : cStatics ∉ [it] := fun hm => by
    obtain ⟨mc, ⟨o, ho, _⟩, _⟩ := lim
    rw [List.mem_singleton.mp hm, hfit] at ho; cases ho
  refine ⟨it, [it, l], [it], vs.length, fun i v => vs.toArray[i]? = some v, fun i h => h.IsListIter it l i ∧ h.IsList l vs.toArray, fun _ => true, fun i y => ∃ u, y = .str (tx i) u, rfl,
    fun A' hA => Walks.list hA it l hne vs.toArray, ⟨⟨oi, hoi, hi1, hi2⟩, hl.is I⟩, ?_, lim.no I, hcs, fun href hh => ⟨?_, ?_⟩, ?_⟩
  · intro b hb
    rcases List.mem_cons.mp hb with rfl | hb
    · exact hlt
    · rcases List.mem_cons.mp hb with rfl | hb
      · exact hll
      · cases hb
  · intro A' E' i v s₂ m₂ _ _ _ _ _
    exact wpAny_pure ⟨rfl, _, _, rfl, fun _ _ e => e⟩
  · intro A' E' i v s₂ m₂ hA hv _ hns hm _
    exact helt A' E' i v s₂ m₂ _ _ _ hA (by simpa using hv) hns hm
  · intro a h₅ tk gs hgb hag hsz₅ hk₅ W hat
    have W := W.in4_2
    have e := passing_all vs.length
    refine SC.joinGen W (fun i s' st => st.1.typeIs) hat ?_ List.mem_cons_self ?_ (fun s' lt hm hacc => ?_) ?_
    · intro b hb
      show b < h₅.objs.size
      rw [hsz₅]
      rcases List.mem_cons.mp hb with rfl | hb
      · exact Nat.lt_succ_self _
      · rcases List.mem_cons.mp hb with rfl | hb
        · exact Nat.lt_succ_of_lt hag
        · exact Nat.lt_succ_of_lt (Nat.lt_trans (List.mem_range.mp hb) hag)
    · rintro i v ⟨j, _, u, rfl⟩
      exact ⟨_, u, rfl⟩
    · have hll : lt.map (·.1) = (List.range vs.length).map tx := by
        apply List.ext_getElem?
        intro j
        have hsz : lt.length = vs.length := by have := hacc.1; rw [e, List.length_range] at this; simpa [strValues] using this
        by_cases hj : j < vs.length
        · have hj' : j < lt.length := hsz ▸ hj
          obtain ⟨i, hi, u, hv⟩ := hacc.2 j (.str lt[j].1 lt[j].2) (by simp [strValues, List.getElem?_eq_getElem hj'])
          rw [e] at hi
          have hij : i = j := by simpa [hj] using hi.symm
          subst hij
          injection hv with h1 _
          simp [List.getElem?_eq_getElem hj', hj, h1]
        · rw [List.getElem?_eq_none (by simpa [hsz] using Nat.le_of_not_lt hj), List.getElem?_eq_none (by simpa using Nat.le_of_not_lt hj)]
      rw [hll]
      refine ⟨hok, fun t' k => hQ _ _ ?_⟩
      have J : Inv σ f ((Pt, TabO base) :: P) { s with gens := s.gens.push gs, toks := tk, heap := h₅ } := by
        have K := I.drop
        exact ⟨fun a o e => hk₅ _ _ (K.frz a o e), fun p hp => let ⟨o, h1, h2⟩ := K.own p hp; ⟨o, hk₅ _ _ h1, h2⟩, K.sep, K.nod, K.bare.push hgb, K.os⟩
      have J := J.moved (wr := s.heap.objs.size :: [it]) (fun b hb => ?_) hm
      · exact J.to rfl rfl rfl
      · rcases List.mem_cons.mp hb with rfl | hb
        · exact ⟨I.fresh (Nat.le_refl _), fun p hp e => absurd (I.drop.lt hp) (by rw [e]; exact Nat.lt_irrefl _)⟩
        · rw [List.mem_singleton.mp hb]
          refine ⟨hfit, fun p hp e => (List.nodup_cons.mp I.nod).1 (List.mem_map.mpr ⟨p, hp, e⟩)⟩
    · rw [e, List.length_range, sizeLine_eq]; lia
end
end Mine
end
-- D10
noncomputable section
open PySem PySem.Calls PyProof.Rows PySem.W
set_option maxRecDepth 100000
set_option linter.unusedVariables false
namespace Mine
def menuT (k : Int) : Str := if k = 1 then Str.ofString "*" else if k = 2 then Str.ofString "?" else if k = 3 then Str.ofString "." else if k = 4 then Str.ofString "a" else Str.ofString "[ab]"
def textF (row : List Int) : Str := Txt.join (Str.ofString "") (row.map menuT)
def FnC (f : FM) (a : Addr) (i : Nat) (c Pt : Addr) : Prop := ∃ pm doc, FnF f a (docDef (defAt i).name (defAt i).params (defAt i).body (defAt i).scope pm (.ref c) doc) ∧ CodeC f c Pt
theorem FnC.le {f g : FM} {a i c Pt} (x : FnC f a i c Pt) (l : FM.Le f g) : FnC g a i c Pt := let ⟨p, d, h, h'⟩ := x; ⟨p, d, h.le l, h'.le l⟩
section
variable {prog : Program} {w : World} {A : Around} {E : Value → Shared → Prop} {s : Shared} {σ : OsState} {f : FM} {P : List Cell} {mg mb : Str → Option Value}
theorem text_elt {env : Env} {p0 p1 p2 p3 p4 p5 pL pn pos : Pos} {k0 k1 k2 k3 k4 k5 : Nat} {C : Addr} {m : Str → Option Value} {k : Int} {t : Tok} {E : Value → Shared → Prop} (hC : env.locals = C) (hkd : env.scope.kind = .function) (hl : env.kindOf (Str.ofString "kind") = some .local)
    (hns : s.heap.Ns C m) (hm : m (Str.ofString "kind") = some (.int k t)) (hk : 1 ≤ k ∧ k ≤ 5) :
    wpAny (model prog w) A (eval (.Subscript (.List [.Constant (.str (Str.ofString "")) k0 p0, .Constant (.str (Str.ofString "*")) k1 p1, .Constant (.str (Str.ofString "?")) k2 p2, .Constant (.str (Str.ofString ".")) k3 p3, .Constant (.str (Str.ofString "a")) k4 p4, .Constant (.str (Str.ofString "[ab]")) k5 p5] pL) (.Name (Str.ofString "kind") pn) pos) env)
      (fun y s₃ => (∃ u, y = .str (menuT k) u) ∧ Keeps s s₃) E s := by
  subst hC
  refine Subscript_ <| wpAny_List <| wpAny_items_cons <| wpAny_Constant_str <| wpAny_items_cons <| wpAny_Constant_str <| wpAny_items_cons <| wpAny_Constant_str <| wpAny_items_cons <| wpAny_Constant_str <| wpAny_items_cons <| wpAny_Constant_str <| wpAny_items_cons <| wpAny_Constant_str <|
    wpAny_items_nil ⟨by rw [sizeLine_eq]; simp, wpAny_Name (wpAny_loadName_local hkd hl (hns.push _) hm ?_) (by decide)⟩
  have key : ∃ u, [Value.str (Str.ofString "") s.toks, Value.str (Str.ofString "*") (s.toks + 1), Value.str (Str.ofString "?") (s.toks + 1 + 1), Value.str (Str.ofString ".") (s.toks + 1 + 1 + 1), Value.str (Str.ofString "a") (s.toks + 1 + 1 + 1 + 1), Value.str (Str.ofString "[ab]") (s.toks + 1 + 1 + 1 + 1 + 1)][k.toNat]? = some (.str (menuT k) u) := by
    have := five hk
    rcases this with rfl | rfl | rfl | rfl | rfl <;> exact ⟨_, rfl⟩
  obtain ⟨u, hu⟩ := key
  exact subL (x := .str (menuT k) u) ⟨_, Heap.get?_push_size _ rfl, rfl, 0, rfl⟩ (by lia) (by lia) hu ⟨⟨u, rfl⟩, _, _, rfl, fun b o e => Heap.get?_push_of_some _ e⟩
set_option maxHeartbeats 1000000 in
theorem law_text_ct {v : Value} {row : List Int} {base : Array Value} {Q : Value → Shared → Prop} (R : Room A 3 50) (B : Base mg mb f) (bb : BbF f mg) (F26 : FnC f 162 26 161 157) (I : Inv σ f ((157, TabO base) :: P) s) (hv : AInts f v row) (hok : RowOk row) (hsz : row.length < 2 ^ 10)
    (hQ : ∀ s' t, Inv σ f ((157, TabO base) :: P) s' → Q (.str (textF row) t) s') :
    wpAny (model prog w) A (call (.ref 162) [v]) Q E s := by
  obtain ⟨pm, doc, fn, cc⟩ := F26
  obtain ⟨l, vs, rfl, hl, hvs⟩ := hv
  have hlen := hvs.len
  refine enter (d := 2) (u := 47) (binds := [(Str.ofString "row", .ref l)]) R I B.lim fn rfl (locs rfl) ?_
  intro L s I R
  have I := I.swap
  have key : (List.range vs.length).map (fun i => menuT (row.getD i 0)) = row.map menuT := by
    rw [hlen]
    apply List.ext_getElem?
    intro j
    by_cases hj : j < row.length
    · simp [hj]
    · rw [List.getElem?_eq_none (by simpa using Nat.le_of_not_lt hj), List.getElem?_eq_none (by simpa using Nat.le_of_not_lt hj)]
  refine wpAny_execs_cons <| wpAny_Return_some <| meth1 F.plainAttrs_str F.slot_str_join F.type_str_join <| cStr I fun s t I => ⟨typeIs_str _ _ _, strNo, ?_⟩
  refine joinG (cl := []) (c := 161) (Pt := 157) (base := base) R.le B.lim cc rfl bb B.G rfl (by decide) rfl rfl <| ldN I.swap rfl ⟨l, vs, fun i => menuT (row.getD i 0), rfl, hl, by lia, I, ?_, ?_, fun s' t' I => ?_⟩
  · intro A' E' i v s₂ m₂ C code bi hA hv hns hm
    obtain ⟨k, hk, t, rfl⟩ := hvs.get i v hv
    have hk1 := hok k (List.mem_of_getElem? hk)
    have e : row.getD i 0 = k := by rw [List.getD_eq_getElem?_getD, hk]; rfl
    dsimp only
    rw [e]
    exact text_elt (C := C) rfl rfl rfl hns hm hk1
  · rw [key]
    unfold JoinOk
    have hB : ∀ y ∈ row.map menuT, y.length ≤ 4 := fun y hy => by
      obtain ⟨k, _, rfl⟩ := List.mem_map.mp hy
      unfold menuT
      split
      · decide
      · split
        · decide
        · split
          · decide
          · split <;> decide
    rw [StrLaws.joinFits hB]
    · rfl
    · rw [List.length_map]
      show row.length * 4 + row.length * 0 ≤ _
      lia
  · rw [key]
    exact hQ _ _ I.swap.drop
end
end Mine
end
-- R22
noncomputable section
open PySem PySem.Calls PyProof.Rows PySem.W
set_option maxRecDepth 100000
set_option linter.unusedVariables false
namespace Mine
theorem look_append : typeLookup (.type "list") (Str.ofString "append") = pure (some (.builtin "list.append")) := F.slot_list_append.lookup
theorem look_md_get : typeLookup (.type "method_descriptor") "__get__" = pure (some (.builtin "method_descriptor.__get__")) := by rw [typeLookup_type, builtinLookup_eq_fast]; kernel_rfl
theorem look_md_set : typeLookup (.type "method_descriptor") "__set__" = pure none := by rw [typeLookup_type, builtinLookup_eq_fast]; kernel_rfl
theorem look_md_delete : typeLookup (.type "method_descriptor") "__delete__" = pure none := by rw [typeLookup_type, builtinLookup_eq_fast]; kernel_rfl
theorem entry_md_get : entryFor table "method_descriptor.__get__" = some Builtin.«method_descriptor.__get__» := entryFor_of_fast (by kernel_rfl)
theorem plain_md_get : plainId "method_descriptor.__get__" = true := by decide +kernel
theorem slot_md_get : Slot "method_descriptor" "__get__" "method_descriptor.__get__" :=
  .of (owner := "method_descriptor") (n := "__get__") (by rw [typeLookup_type, builtinLookup_eq_fast]; kernel_rfl) (by decide +kernel) (by decide +kernel) (by decide +kernel)
    (by first | exact .inl (by decide +kernel) | exact .inr (by decide +kernel)) (by rw [isSubtype_type]; kernel_rfl)
theorem args_md_get (a b c : Value) : argsOk "method_descriptor.__get__" ⟨[a, b, c], []⟩ := by unfold argsOk; kernel_rfl
theorem told_append : Manifest.toldItsClass.contains "list.append" = false := by decide +kernel
theorem md_get_append (a : Addr) : ∃ other : Sem Unit, Builtin.«method_descriptor.__get__» ⟨[.builtin "list.append", .ref a, .type "list"], []⟩ = (isInstance (.ref a) (.type "list") >>= fun ok => if (!ok) = true then other else pure ()) >>= fun _ => (newFields "builtin_function_or_method" [.builtin "list.append", .ref a] >>= fun v => ret v) :=
  ⟨_, rfl⟩
theorem meets_getattribute_append (a : Addr) (xs : Array Value) (k : Nat) (u : Tok) :
    Meets (Builtin.«object.__getattribute__» ⟨[.ref a, .str (Str.ofString "append") u], []⟩) (fun A R s => s.heap.get? a = some { cls := .type "list", dict := none, data := .seq xs k, slots := #[] } ∧
      R (.ok (.ret (.ref s.heap.objs.size))) { s with heap := s.heap.push { cls := .type "builtin_function_or_method", data := .fields #[.builtin "list.append", .ref a] } }) :=
  Meets.of_wp fun prog w A R s hs => by
    obtain ⟨hp, g, d, tk, os⟩ := s
    obtain ⟨hx, hs⟩ := hs
    have hT : (⟨hp, g, d, tk, os⟩ : Shared).TypeIs (.ref a) "list" := ⟨_, hx, rfl⟩
    have f1 := look_append
    have f2 := F.type_list_append
    have f3 := look_md_get
    have f4 := look_md_set
    have f5 := look_md_delete
    unfold Builtin.«object.__getattribute__»
    repeat (any_goals (first | assumption | wp_step))
    refine codeAny_call_builtin slot_md_get.plain entry_md_get (slot_md_get.check _ _ _ _ _ _ _ _ F.type_list_append (args_md_get _ _ _) ?_)
    obtain ⟨other, hother⟩ := md_get_append a
    rw [hother]
    refine wpAny_bind (wpAny_bind (wpAny_isInstance hT (b := true) sub_list_list ?_))
    simp only [Bool.not_true, Bool.false_eq_true, if_false]
    refine wpAny_pure ?_
    refine wpAny_bind ?_
    simp only [newFields]
    exact wpAny_newObj_type (wpAny_pure (wpAny_pure ⟨_, rfl, hs⟩)) (by size_fits)
end Mine
end
-- R23
noncomputable section
open PySem PySem.Calls PyProof.Rows PySem.W
set_option maxRecDepth 100000
set_option linter.unusedVariables false
namespace Mine
def BmO (a : Addr) (o : Obj) : Prop := o = { cls := .type "builtin_function_or_method", data := .fields #[.builtin "list.append", .ref a] }
section
variable {prog : Program} {w : World} {A : Around} {E : Value → Shared → Prop} {s : Shared} {σ : OsState} {f : FM} {P : List Cell} {env : Env} {m : Str → Option Value}
theorem getAppend {a : Addr} {vs : List Value} {Q : Value → Shared → Prop} (I : Inv σ f ((a, ListO vs) :: P) s) (h : ∀ b s', Inv σ f ((b, BmO a) :: (a, ListO vs) :: P) s' → Q (.ref b) s') :
    wpAny (model prog w) A (getAttr (.ref a) (Str.ofString "append") true) Q E s := by
  obtain ⟨k, hx⟩ := I.ex
  have J : ∀ tk, Inv σ f ((s.heap.objs.size, BmO a) :: (a, ListO vs) :: P) { s with heap := s.heap.push { cls := .type "builtin_function_or_method", data := .fields #[.builtin "list.append", .ref a] }, toks := tk } := fun tk => I.push (q := BmO a) rfl rfl rfl rfl rfl
  have h' := fun tk => h _ _ (J tk)
  obtain ⟨hp, g, d, tk, os⟩ := s
  have hT : ∀ tk', (⟨hp, g, d, tk', os⟩ : Shared).TypeIs (.ref a) "list" := fun _ => ⟨_, hx, rfl⟩
  have f3 := F.slot_list_getattribute.lookup
  have f4 := F.slot_list_getattribute.bind (.ref a)
  unfold getAttr getAttrBy
  repeat (any_goals (first | assumption | exact hT _ | ((with_reducible show wpAny _ _ (call (Value.builtin "list.__getattribute__") _ _) _ _ _); refine call_meets F.slot_list_getattribute (hT _) am_entry_list_getattribute (F.args_list_getattribute_2 _ _) (meets_getattribute_append a vs.toArray k _) ⟨hx, ?_⟩) | wp_step))
  show wpAny _ _ (handedOut (.ref hp.objs.size)) _ _ _
  exact wpAny_pure (h' _)
theorem kind_append : builtinKind "list.append" = some .method := by decide +kernel
theorem varargs_append : Manifest.varargsMethods.contains "list.append" = false := by decide +kernel
theorem sub_list_module : isSubtype (.type "list") (.type "module") = pure false := by rw [isSubtype_type]; kernel_rfl
theorem args_append_full (a x : Value) : (match Manifest.signature? "list.append" with | some sig => Bind.checkArgs "list.append" { sig with full := s!"{Bind.lastOf "list"}.{Bind.lastOf "list.append"}" } ⟨[a, x], []⟩ | none => pure ()) = pure () := by
  rw [signature?_of (id := "list.append") (n := ['d', 'n', 'e', 'p', 'p', 'a']) (o := ['t', 's', 'i', 'l']) (by kernel_rfl) F.owner_list]; kernel_rfl
theorem check_append {a : Addr} {x : Value} {Q : Unit → Shared → Prop} (hT : s.TypeIs (.ref a) "list") (hty : ∀ {Q : Bool → Shared → Prop} {A : Around}, Q false s → wpAny (model prog w) A (isType (.ref a)) Q E s) (h : Q () s) : wpAny (model prog w) A (checkBoundCall "list.append" ⟨[.ref a, x], []⟩) Q E s := by
  have key := args_append_full (.ref a) x
  unfold checkBoundCall
  cases hs : Manifest.signature? "list.append" with
  | none => exact wpAny_pure h
  | some sig =>
    rw [hs] at key
    dsimp only at key ⊢
    rw [kind_append]
    dsimp only
    rw [if_neg (by decide)]
    refine wpAny_bind (wpAny_isInstance hT (b := false) sub_list_module ?_)
    rw [varargs_append]
    simp only [Bool.or_false, Bool.false_eq_true, if_false]
    refine wpAny_bind (hty ?_)
    simp only [Bool.false_eq_true, if_false]
    refine wpAny_bind (wpAny_typeOf hT ?_)
    dsimp only
    rw [key]
    exact wpAny_pure h
/-- the call of a bound append -/
theorem callBm {pos : Pos} {b a : Addr} {args : List (Bool × Sem Value)} {Q : Value → Shared → Prop} (hplain : args.any (·.1) = false)
    (h : wpAny (model prog w) A (evalArgs (.ref b) true args []) (fun x s₁ => (∃ o, s₁.heap.get? b = some o ∧ BmO a o) ∧ wpAny (model prog w) A (call (.ref b) x.pos x.kw) Q E s₁) E s) :
    wpAny (model prog w) A (callWith pos (.ref b) [] args []) Q E s := by
  unfold callWith
  refine wpAny_bind (wpAny_holding (wpAny_mono h (fun x s₁ h₁ => wpAny_bind (wpAny_standAt ?_)) fun _ _ x => x))
  obtain ⟨⟨o, ho, rfl⟩, hc⟩ := h₁
  simp only [hplain, List.any_nil, Bool.or_false]
  refine wpAny_bind (m := keeperOf (.ref b)) ?_
  unfold keeperOf
  refine wpAny_bind (wpAny_load ho ?_)
  refine wpAny_pure ?_
  exact wpAny_bind (wpAny_mono hc (fun r s₂ hr => wpAny_bind (wpAny_holding (wpAny_point (wpAny_pure hr)))) fun _ _ x => x)
theorem callAppend {b a : Addr} {vs : List Value} {x : Value} {Q : Value → Shared → Prop} (I : Inv σ f ((a, ListO vs) :: (b, BmO a) :: P) s) (hsz : vs.length < 2 ^ 20) (h : ∀ s', Inv σ f ((a, ListO (vs ++ [x])) :: (b, BmO a) :: P) s' → Q .none s') :
    wpAny (model prog w) A (call (.ref b) [x]) Q E s := by
  obtain ⟨ob, hb, rfl⟩ := I.swap.at
  obtain ⟨o, ho, hx⟩ := I.at
  obtain ⟨n, hd⟩ := hx.data
  refine wpAny_call (codeAny_of_tree ?_)
  show wpAny _ _ (callAny (.ref b) _) _ _ _
  refine nd_load hb ?_
  show wpAny _ _ (checkBoundCall "list.append" ⟨[.ref a, x], []⟩ >>= fun _ => again (.builtin "list.append" ⟨[.ref a, x], []⟩)) _ _ _
  refine wpAny_bind (check_append (hx.is ho).typeIs (fun h => ?_) (wpAny_pure ⟨plainId_quiet F.slot_list_append.plain _, codeAny_builtin F.entry_list_append ?_⟩))
  · unfold isType
    refine wpAny_bind (m := loadHead a) (nd_load ho (wpAny_pure ?_))
    rw [hd]
    exact wpAny_pure h
  · rw [Around.under_plainId F.slot_list_append.plain]
    show wpAny _ _ (updateSeq a (·.push x) >>= fun _ => ret .none) _ _ s
    have hx' : ListO (vs ++ [x]) (Obj.mapSeq (·.push x) o) := by
      have := mapSeq_list (g := (·.push x)) hx
      simpa using this
    refine wpAny_bind (wpAny_updateSeq ho hd (wpAny_pure (h _ (I.set (Heap.SameBut.update ..) (Heap.get?_update_self _ ho hx'.free) hx' rfl rfl))) (by rw [sizeLine_eq]; simp; lia) (by rw [sizeLine_eq]; simp; lia))
end
end Mine
end
-- S1
noncomputable section
open PySem PySem.Calls PyProof.Rows PySem.W
set_option maxRecDepth 100000
set_option linter.unusedVariables false
namespace Mine
open PySem.Sre (M ops Seen)
open PySem.Sre.M hiding step exec
/-- some steps of the machine -/
def iter : Nat → M → M
  | 0, m => m
  | n + 1, m => iter n m.step
theorem step_done {m : M} (h : m.outcome.isSome = true) : m.step = m := by unfold Sre.M.step; rw [if_pos h]
theorem iter_done : ∀ (n : Nat) {m : M}, m.outcome.isSome = true → iter n m = m
  | 0, _, _ => rfl
  | n + 1, m, h => by rw [iter, step_done h]; exact iter_done n h
theorem runFor_eq : ∀ (n : Nat) (m : M), runFor n m = iter n m
  | 0, _ => rfl
  | n + 1, m => by
    unfold runFor
    by_cases h : m.outcome.isSome = true
    · rw [if_pos h, iter_done (n + 1) h]
    · rw [if_neg h, runFor_eq n]; rfl
theorem iter_add : ∀ (a b : Nat) (m : M), iter (a + b) m = iter b (iter a m)
  | 0, b, m => by rw [Nat.zero_add]; rfl
  | a + 1, b, m => by rw [show a + 1 + b = (a + b) + 1 from by lia]; exact iter_add a b m.step
def Ends (N : Nat) (m : M) (Q : M → Prop) : Prop := ∃ k, k ≤ N ∧ Q (iter k m)
theorem Ends.now {N m} {Q : M → Prop} (h : Q m) : Ends N m Q := ⟨0, Nat.zero_le _, h⟩
theorem Ends.step {N m m'} {Q : M → Prop} (h : m.step = m') (e : Ends N m' Q) : Ends (N + 1) m Q := let ⟨k, hk, q⟩ := e; ⟨k + 1, Nat.succ_le_succ hk, by show Q (iter k m.step); rw [h]; exact q⟩
theorem Ends.le {N N' m} {Q : M → Prop} (h : N ≤ N') (e : Ends N m Q) : Ends N' m Q := let ⟨k, hk, q⟩ := e; ⟨k, Nat.le_trans hk h, q⟩
theorem Ends.mono {N m} {Q Q' : M → Prop} (h : ∀ m, Q m → Q' m) (e : Ends N m Q) : Ends N m Q' := let ⟨k, hk, q⟩ := e; ⟨k, hk, h _ q⟩
section
variable {m : M}
theorem enter_exec (h0 : m.outcome = none) (h1 : m.answer = none) (hpc : m.pc < m.code.size) : m.step = Sre.M.exec m := by
  unfold Sre.M.step
  rw [if_neg (by rw [h0]; simp)]
  split
  · rename_i h _; rw [h1] at h; cases h
  · rename_i h _; rw [h1] at h; cases h
  · rw [if_pos hpc]
theorem lit_yes (h0 : m.outcome = none) (h1 : m.answer = none) (hpc : m.pc < m.code.size) (hop : m.code.getD m.pc 0 = 16) (hpos : m.pos < m.lim) (hc : m.text.getD m.pos 0 = m.code.getD (m.pc + 1) 0) :
    m.step = { m with seen := m.seen.add 16, pc := m.pc + 2, pos := m.pos + 1 } := by
  rw [enter_exec h0 h1 hpc]
  have hw : m.word 0 = 16 := hop
  unfold Sre.M.exec
  rw [hw]
  show (if m.pos ≥ m.lim then _ else _) = _
  rw [if_neg (by lia)]
  have ha : Sre.accepts m.code m.pc (m.text.getD m.pos 0) (m.seen.add 16) = .ok (true, m.seen.add 16) := by
    unfold Sre.accepts
    rw [hop]
    show Except.ok (m.text.getD m.pos 0 == m.code.getD (m.pc + 1) 0, _) = _
    rw [hc]; simp
  dsimp only
  rw [ha]
  have hi : Sre.itemWidth m.code m.pc = 2 := by unfold Sre.itemWidth; rw [hop]; rfl
  dsimp only
  rw [hi]
theorem lit_no (h0 : m.outcome = none) (h1 : m.answer = none) (hpc : m.pc < m.code.size) (hop : m.code.getD m.pc 0 = 16) (hc : m.pos < m.lim → m.text.getD m.pos 0 ≠ m.code.getD (m.pc + 1) 0) :
    m.step = { m with seen := m.seen.add 16, answer := some false } := by
  rw [enter_exec h0 h1 hpc]
  have hw : m.word 0 = 16 := hop
  unfold Sre.M.exec
  rw [hw]
  show (if m.pos ≥ m.lim then _ else _) = _
  by_cases hpos : m.pos < m.lim
  · rw [if_neg (by lia)]
    have ha : Sre.accepts m.code m.pc (m.text.getD m.pos 0) (m.seen.add 16) = .ok (false, m.seen.add 16) := by
      unfold Sre.accepts
      rw [hop]
      show Except.ok (m.text.getD m.pos 0 == m.code.getD (m.pc + 1) 0, _) = _
      have := hc hpos
      simp only [beq_eq_false_iff_ne.mpr this]
    dsimp only
    rw [ha]
    rfl
  · rw [if_pos (by lia)]
    rfl
theorem jump_ (h0 : m.outcome = none) (h1 : m.answer = none) (hpc : m.pc < m.code.size) (hop : m.code.getD m.pc 0 = 15) : m.step = { m with seen := m.seen.add 15, pc := m.pc + 1 + m.code.getD (m.pc + 1) 0 } := by
  rw [enter_exec h0 h1 hpc]
  have hw : m.word 0 = 15 := hop
  unfold Sre.M.exec
  rw [hw]
  rfl
theorem success_ (h0 : m.outcome = none) (h1 : m.answer = none) (hpc : m.pc < m.code.size) (hop : m.code.getD m.pc 0 = 1) (hw : m.wholeText = false) (hm : m.mustAdvance = false) :
    m.step = { m with seen := m.seen.add 1, handed := m.pos, answer := some true } := by
  rw [enter_exec h0 h1 hpc]
  have hw0 : m.word 0 = 1 := hop
  unfold Sre.M.exec
  rw [hw0]
  show (if (m.outermost && ((m.wholeText && m.pos != m.lim) || (m.mustAdvance && m.pos == m.start))) = true then _ else _) = _
  rw [if_neg (by rw [hw, hm]; simp)]
  rfl
theorem at_line (h0 : m.outcome = none) (h1 : m.answer = none) (hpc : m.pc < m.code.size) (hop : m.code.getD m.pc 0 = 6) (hk : m.code.getD (m.pc + 1) 0 = 1) :
    m.step = if (m.pos == 0 || m.text.getD (m.pos - 1) 0 == 10) = true then { m with seen := (m.seen.add 6).add 44, pc := m.pc + 2 } else { m with seen := (m.seen.add 6).add 44, answer := some false } := by
  rw [enter_exec h0 h1 hpc]
  have hw0 : m.word 0 = 6 := hop
  have hw1 : m.word 1 = 1 := hk
  unfold Sre.M.exec
  rw [hw0]
  have e : M.isAt { m with seen := m.seen.add 6 } (m.word 1) = .ok (m.pos == 0 || m.text.getD (m.pos - 1) 0 == 10) := by rw [hw1]; rfl
  show (match M.isAt { m with seen := m.seen.add 6 } (m.word 1) with | .error why => _ | .ok yes => _) = _
  rw [e]
  dsimp only
  have e2 : Seen.add (m.seen.add 6) (43 + ({ m with seen := m.seen.add 6 } : M).word 1) = (m.seen.add 6).add 44 := by
    rw [show ({ m with seen := m.seen.add 6 } : M).word 1 = 1 from hk]
  rw [e2]
  rfl
theorem branch_ (h0 : m.outcome = none) (h1 : m.answer = none) (hpc : m.pc < m.code.size) (hop : m.code.getD m.pc 0 = 7) : m.step = ({ m with seen := m.seen.add 7 } : M).alternative (m.pc + 1) (({ m with seen := m.seen.add 7 } : M).keep m.inner.isSome) := by
  rw [enter_exec h0 h1 hpc]
  have hw0 : m.word 0 = 7 := hop
  unfold Sre.M.exec
  rw [hw0]
  rfl
theorem assertNot_ (h0 : m.outcome = none) (h1 : m.answer = none) (hpc : m.pc < m.code.size) (hop : m.code.getD m.pc 0 = 5) (hk : m.code.getD (m.pc + 2) 0 = 0) :
    m.step = ({ m with seen := m.seen.add 5 } : M).attempt { ({ m with seen := m.seen.add 5 } : M).frame .lookNot with kept := ({ m with seen := m.seen.add 5 } : M).keep m.inner.isSome } (m.pc + 3) m.pos false := by
  rw [enter_exec h0 h1 hpc]
  have hw0 : m.word 0 = 5 := hop
  have hw2 : m.word 2 = 0 := hk
  unfold Sre.M.exec
  rw [hw0]
  show (if m.pos < m.word 2 then _ else _) = _
  rw [if_neg (by rw [hw2]; lia)]
  show ({ m with seen := m.seen.add 5 } : M).attempt _ (m.pc + 3) (m.pos - m.word 2) false = _
  rw [hw2]
  rfl
theorem back_ {yes : Bool} {f : Sre.Frame} {rest : List Sre.Frame} (h0 : m.outcome = none) (h1 : m.answer = some yes) (hf : m.frames = f :: rest) :
    m.step = Sre.M.resume { m with answer := none, frames := rest, weight := m.weight - (1 + f.kept.marks.size), pc := f.pc, pos := f.pos, outermost := f.outermost } f yes := by
  unfold Sre.M.step
  rw [if_neg (by rw [h0]; simp), h1, hf]
theorem end_ {yes : Bool} (h0 : m.outcome = none) (h1 : m.answer = some yes) (hf : m.frames = []) : m.step = { m with outcome := some (if yes then .matched else .failed) } := by
  unfold Sre.M.step
  rw [if_neg (by rw [h0]; simp)]
  split
  · rename_i h _; rw [h1] at h; cases h; rfl
  · rename_i h; rw [hf] at h; cases h
  · rename_i h; rw [h1] at h; cases h
end
end Mine
end
-- S2
noncomputable section
open PySem PySem.Calls PyProof.Rows PySem.W
set_option maxRecDepth 100000
set_option linter.unusedVariables false
namespace Mine
open PySem.Sre (M ops Seen)
def C2 : Array Nat := #[14, 9, 4, 1, 2, 16, 10, 16, 13, 0, 7, 7, 16, 13, 16, 10, 15, 18, 5, 16, 10, 15, 13, 11, 16, 13, 5, 5, 0, 16, 10, 1, 15, 2, 0, 1]
def stM (code text : Array Nat) (start pc pos handed : Nat) (outermost : Bool) (frames : List Sre.Frame) (weight : Nat) (seen : Sre.Seen) (answer : Option Bool) : M :=
  { code, text, lim := text.size, start, lastStart := text.size, pc, pos, handed, outermost, marks := #[], frames, weight, seen, answer }
def kp : Sre.Kept := { lastmark := -1, lastindex := -1, whole := false, marks := #[] }
def nsF2 (pc b : Nat) (first : Bool) : Sre.Frame := { wait := .nextStart, pc := pc, pos := b, outermost := first }
def nbF (pc b : Nat) (o : Bool) : Sre.Frame := { wait := .nextBranch, pc := pc, pos := b, outermost := o, kept := kp }
def lnF (pc b : Nat) (o : Bool) : Sre.Frame := { wait := .lookNot, pc := pc, pos := b, outermost := o, kept := kp }
def Found (b e : Nat) (m : M) : Prop := m.outcome = some .matched ∧ m.start = b ∧ m.handed = e
def Lost (m : M) : Prop := m.outcome = some .failed
def e2 (text : Array Nat) (b : Nat) : Nat := if text.getD b 0 = 13 ∧ b + 1 < text.size ∧ text.getD (b + 1) 0 = 10 then b + 2 else b + 1
section
variable {text : Array Nat} {b e : Nat} {seen : Sre.Seen}
theorem alt_ {m : M} {alt : Nat} {k : Sre.Kept} (h : (m.code.getD alt 0 == 0) = false) (hw : m.weight + 1 + k.marks.size ≤ 16777216) :
    m.alternative alt k = { m with frames := { wait := .nextBranch, pc := alt, pos := m.pos, outermost := m.outermost, kept := k } :: m.frames, weight := m.weight + 1 + k.marks.size, pc := alt + 1, pos := m.pos, handed := m.pos } := by
  unfold Sre.M.alternative
  rw [if_neg (by rw [h]; simp)]
  unfold Sre.M.attempt
  rw [if_neg (by show ¬ (m.weight + 1 + k.marks.size > _); lia)]
  rfl
/-- after a match: out through the frames -/
theorem won2 {pc p h w : Nat} {o : Bool} {q : Nat} : Ends 6 (stM C2 text b pc p h o [nbF q b true, nsF2 10 b true] w seen (some true)) (Found b h) := by
  refine Ends.step ((back_ rfl rfl rfl).trans (show _ = stM C2 text b q b h true [nsF2 10 b true] (w - 1) seen (some true) from rfl)) ?_
  refine Ends.step ((back_ rfl rfl rfl).trans (show _ = stM C2 text b 10 b h true [] (w - 1 - 1) seen (some true) from rfl)) ?_
  refine Ends.step (end_ rfl rfl rfl) (Ends.now ⟨rfl, rfl, rfl⟩)
theorem fin2 {pc p h w : Nat} {o : Bool} {q : Nat} (hpc : pc < C2.size) (hop : C2.getD pc 0 = 15) (ht : pc + 1 + C2.getD (pc + 1) 0 = 35) : Ends 8 (stM C2 text b pc p h o [nbF q b true, nsF2 10 b true] w seen none) (Found b p) := by
  refine Ends.step ((jump_ rfl rfl hpc hop).trans (show _ = stM C2 text b 35 p h o [nbF q b true, nsF2 10 b true] w (seen.add 15) none from by rw [← ht]; rfl)) ?_
  refine Ends.step ((success_ rfl rfl (by show 35 < C2.size; decide) rfl rfl rfl).trans (show _ = stM C2 text b 35 p p o [nbF q b true, nsF2 10 b true] w ((seen.add 15).add 1) (some true) from rfl)) ?_
  exact won2
theorem third2 {h w : Nat} (hw : w ≤ 100) (hb : b < text.size) (h13 : text.getD b 0 = 13) (hn : b + 1 < text.size → text.getD (b + 1) 0 ≠ 10) :
    Ends 20 (stM C2 text b 24 b h true [nbF 23 b true, nsF2 10 b true] w seen none) (Found b (b + 1)) := by
  refine Ends.step ((lit_yes rfl rfl (by show 24 < C2.size; decide) rfl hb h13).trans (show _ = stM C2 text b 26 (b + 1) h true [nbF 23 b true, nsF2 10 b true] w (seen.add 16) none from rfl)) ?_
  have hat : ∀ {m : M} {f : Sre.Frame} {t p : Nat} {o : Bool}, m.weight + 1 + f.kept.marks.size ≤ 16777216 → m.attempt f t p o = { m with frames := f :: m.frames, weight := m.weight + 1 + f.kept.marks.size, pc := t, pos := p, handed := p, outermost := o } := fun h => by
    unfold Sre.M.attempt
    rw [if_neg (by lia)]
  refine Ends.step ((assertNot_ rfl rfl (by show 26 < C2.size; decide) rfl rfl).trans ((hat (by show w + 1 + 0 ≤ _; lia)).trans (show _ = stM C2 text b 29 (b + 1) (b + 1) false [lnF 26 (b + 1) true, nbF 23 b true, nsF2 10 b true] (w + 1) ((seen.add 16).add 5) none from rfl))) ?_
  refine Ends.step ((lit_no rfl rfl (by show 29 < C2.size; decide) rfl hn).trans (show _ = stM C2 text b 29 (b + 1) (b + 1) false [lnF 26 (b + 1) true, nbF 23 b true, nsF2 10 b true] (w + 1) (((seen.add 16).add 5).add 16) (some false) from rfl)) ?_
  refine Ends.step ((back_ rfl rfl rfl).trans (show _ = stM C2 text b 32 (b + 1) (b + 1) true [nbF 23 b true, nsF2 10 b true] (w + 1 - 1) (((seen.add 16).add 5).add 16) none from rfl)) ?_
  exact (fin2 (by decide) rfl rfl).le (by lia)
theorem run2 (hb : b < text.size) (hc : text.getD b 0 = 10 ∨ text.getD b 0 = 13) {h : Nat} : Ends 40 (stM C2 text b 10 b h true [nsF2 10 b true] 1 seen none) (Found b (e2 text b)) := by
  refine Ends.step ((branch_ rfl rfl (by show 10 < C2.size; decide) rfl).trans ((alt_ rfl (by show 1 + 1 + 0 ≤ _; lia)).trans (show _ = stM C2 text b 12 b b true [nbF 11 b true, nsF2 10 b true] 2 (seen.add 7) none from rfl))) ?_
  generalize seen.add 7 = seen
  -- the second alternative, for a line feed
  have second : ∀ {seen : Sre.Seen} {pc p h : Nat} {N : Nat}, Ends N (stM C2 text b 19 b b true [nbF 18 b true, nsF2 10 b true] 2 seen none) (Found b (e2 text b)) →
      Ends (N + 1) (stM C2 text b pc p h true [nbF 11 b true, nsF2 10 b true] 2 seen (some false)) (Found b (e2 text b)) := fun x => by
    refine Ends.step (((back_ rfl rfl rfl).trans (show _ = M.alternative (stM C2 text b 11 b _ true [nsF2 10 b true] 1 _ none) 18 kp from rfl)).trans ((alt_ rfl (by show 1 + 1 + 0 ≤ _; lia)).trans (show _ = stM C2 text b 19 b b true [nbF 18 b true, nsF2 10 b true] 2 _ none from rfl))) x
  by_cases h13 : text.getD b 0 = 13
  · refine Ends.step ((lit_yes rfl rfl (by show 12 < C2.size; decide) rfl hb h13).trans (show _ = stM C2 text b 14 (b + 1) b true [nbF 11 b true, nsF2 10 b true] 2 (seen.add 16) none from rfl)) ?_
    by_cases hn : b + 1 < text.size ∧ text.getD (b + 1) 0 = 10
    · have he : e2 text b = b + 2 := by unfold e2; rw [if_pos ⟨h13, hn⟩]
      refine Ends.step ((lit_yes rfl rfl (by show 14 < C2.size; decide) rfl hn.1 hn.2).trans (show _ = stM C2 text b 16 (b + 2) b true [nbF 11 b true, nsF2 10 b true] 2 ((seen.add 16).add 16) none from rfl)) ?_
      rw [he]
      exact (fin2 (by decide) rfl rfl).le (by lia)
    · have he : e2 text b = b + 1 := by unfold e2; rw [if_neg (fun x => hn x.2)]
      have hn' : b + 1 < text.size → text.getD (b + 1) 0 ≠ 10 := fun h1 h2 => hn ⟨h1, h2⟩
      refine Ends.step ((lit_no rfl rfl (by show 14 < C2.size; decide) rfl hn').trans (show _ = stM C2 text b 14 (b + 1) b true [nbF 11 b true, nsF2 10 b true] 2 ((seen.add 16).add 16) (some false) from rfl)) ?_
      refine second (N := 36) ?_
      refine Ends.step ((lit_no rfl rfl (by show 19 < C2.size; decide) rfl (fun _ => by show text.getD b 0 ≠ 10; rw [h13]; decide)).trans (show _ = stM C2 text b 19 b b true [nbF 18 b true, nsF2 10 b true] 2 _ (some false) from rfl)) ?_
      refine Ends.step (((back_ rfl rfl rfl).trans (show _ = M.alternative (stM C2 text b 18 b _ true [nsF2 10 b true] 1 _ none) 23 kp from rfl)).trans ((alt_ rfl (by show 1 + 1 + 0 ≤ _; lia)).trans (show _ = stM C2 text b 24 b b true [nbF 23 b true, nsF2 10 b true] 2 _ none from rfl))) ?_
      rw [he]
      exact (third2 (by lia) hb h13 hn').le (by lia)
  · have h10 : text.getD b 0 = 10 := hc.resolve_right h13
    have he : e2 text b = b + 1 := by unfold e2; rw [if_neg (fun x => h13 x.1)]
    refine Ends.step ((lit_no rfl rfl (by show 12 < C2.size; decide) rfl (fun _ => by show text.getD b 0 ≠ 13; rw [h10]; decide)).trans (show _ = stM C2 text b 12 b b true [nbF 11 b true, nsF2 10 b true] 2 (seen.add 16) (some false) from rfl)) ?_
    refine second (N := 37) ?_
    refine Ends.step ((lit_yes rfl rfl (by show 19 < C2.size; decide) rfl hb h10).trans (show _ = stM C2 text b 21 (b + 1) b true [nbF 18 b true, nsF2 10 b true] 2 _ none from rfl)) ?_
    rw [he]
    exact (fin2 (by decide) rfl rfl).le (by lia)
end
end Mine
end
-- S3
noncomputable section
open PySem PySem.Calls PyProof.Rows PySem.W
set_option maxRecDepth 100000
set_option linter.unusedVariables false
namespace Mine
open PySem.Sre (M ops)
/-- the next end of line from s on -/
def nx2 (text : Array Nat) : Nat → Nat → Option Nat
  | 0, _ => none
  | fuel + 1, s => if s ≥ text.size then none else if text.getD s 0 = 10 ∨ text.getD s 0 = 13 then some s else nx2 text fuel (s + 1)
theorem inSet2 (c : Nat) (seen : Sre.Seen) : ∃ seen', Sre.inSet C2 c C2.size 5 true seen = .ok (decide (c = 10 ∨ c = 13), seen') := by
  show ∃ seen', Sre.inSet C2 c (35 + 1) 5 true seen = _
  unfold Sre.inSet
  by_cases h10 : c = 10
  · subst h10; exact ⟨_, rfl⟩
  · have e1 : Sre.inSet C2 c (34 + 1) 7 true (seen.add 16) = .ok (decide (c = 10 ∨ c = 13), if c = 13 then (seen.add 16).add 16 else ((seen.add 16).add 16).add 0) := by
      unfold Sre.inSet
      by_cases h13 : c = 13
      · subst h13; rfl
      · show (if (c == 13) = true then _ else Sre.inSet C2 c (33 + 1) 9 true _) = _
        rw [if_neg (by simpa using h13)]
        have : decide (c = 10 ∨ c = 13) = false := by simp [h10, h13]
        rw [this, if_neg h13]
        rfl
    refine ⟨if c = 13 then (seen.add 16).add 16 else ((seen.add 16).add 16).add 0, ?_⟩
    · show (if (c == 10) = true then _ else Sre.inSet C2 c (34 + 1) 7 true (seen.add 16)) = _
      rw [if_neg (by simpa using h10), e1]
theorem admitted2 {m : M} {text : Array Nat} (hc : m.code = C2) (ht : m.text = text) (hl : m.lim = text.size) : ∀ (fuel s : Nat) (seen : Sre.Seen), ∃ seen', Sre.M.admitted m fuel s seen = .ok (nx2 text fuel s, seen')
  | 0, s, seen => ⟨seen, rfl⟩
  | fuel + 1, s, seen => by
    unfold Sre.M.admitted nx2
    rw [hl]
    by_cases hs : s ≥ text.size
    · rw [if_pos hs, if_pos hs]; exact ⟨_, rfl⟩
    · rw [if_neg hs, if_neg hs, hc, ht]
      obtain ⟨seen', e⟩ := inSet2 (text.getD s 0) seen
      rw [e]
      by_cases h : text.getD s 0 = 10 ∨ text.getD s 0 = 13
      · rw [if_pos h, decide_eq_true h]; exact ⟨_, rfl⟩
      · rw [if_neg h, decide_eq_false h]
        exact admitted2 hc ht hl fuel (s + 1) seen'
theorem nx2_spec (text : Array Nat) : ∀ (fuel s b : Nat), nx2 text fuel s = some b → s ≤ b ∧ b < text.size ∧ (text.getD b 0 = 10 ∨ text.getD b 0 = 13) ∧ ∀ i, s ≤ i → i < b → ¬ (text.getD i 0 = 10 ∨ text.getD i 0 = 13)
  | 0, _, _, h => by cases h
  | fuel + 1, s, b, h => by
    unfold nx2 at h
    by_cases hs : s ≥ text.size
    · rw [if_pos hs] at h; cases h
    · rw [if_neg hs] at h
      by_cases hc : text.getD s 0 = 10 ∨ text.getD s 0 = 13
      · rw [if_pos hc] at h
        cases h
        exact ⟨Nat.le_refl _, by lia, hc, fun i h1 h2 => by lia⟩
      · rw [if_neg hc] at h
        obtain ⟨h1, h2, h3, h4⟩ := nx2_spec text fuel (s + 1) b h
        refine ⟨by lia, h2, h3, fun i h5 h6 => ?_⟩
        by_cases hi : i = s
        · subst hi; exact hc
        · exact h4 i (by lia) h6
theorem nx2_none (text : Array Nat) : ∀ (fuel s : Nat), text.size < fuel + s → nx2 text fuel s = none → ∀ i, s ≤ i → i < text.size → ¬ (text.getD i 0 = 10 ∨ text.getD i 0 = 13)
  | 0, s, hf, _, i, h1, h2 => by lia
  | fuel + 1, s, hf, h, i, h1, h2 => by
    unfold nx2 at h
    by_cases hs : s ≥ text.size
    · lia
    · rw [if_neg hs] at h
      by_cases hc : text.getD s 0 = 10 ∨ text.getD s 0 = 13
      · rw [if_pos hc] at h; cases h
      · rw [if_neg hc] at h
        by_cases hi : i = s
        · subst hi; exact hc
        · exact nx2_none text fuel (s + 1) (by lia) h i (by lia) h2
theorem search2_some {text : Array Nat} {s b : Nat} (h : nx2 text (text.size + 1 - s) s = some b) : Ends 50 (Sre.forSearch C2 text 0 s text.size false) (Found b (e2 text b)) := by
  obtain ⟨h1, h2, h3, h4⟩ := nx2_spec text _ s b h
  obtain ⟨seen', ea⟩ := admitted2 (m := stM C2 text s 10 s s true [] 0 (({} : Sre.Seen).add 14) none) rfl rfl rfl (text.size + 1 - s) s (({} : Sre.Seen).add 14)
  have e : Sre.forSearch C2 text 0 s text.size false = M.attemptFrom (stM C2 text s 10 s s true [] 0 (({} : Sre.Seen).add 14) none) s true := by
    unfold Sre.forSearch
    rw [if_neg (by show ¬ ((decide (s > text.size) || decide (text.size - s < 1)) = true); simp; lia)]
    rfl
  have e' : M.attemptFrom (stM C2 text s 10 s s true [] 0 (({} : Sre.Seen).add 14) none) s true = stM C2 text b 10 b b true [nsF2 10 b true] 1 seen' none := by
    unfold Sre.M.attemptFrom
    rw [if_neg (by show ¬ ((!true) = true); decide)]
    show (match Sre.M.admitted _ (text.size + 1 - s) s _ with | .ok (some s, seen) => _ | .ok (none, seen) => _ | .error why => _) = _
    rw [show Sre.M.admitted (stM C2 text s 10 s s true [] 0 (({} : Sre.Seen).add 14) none) (text.size + 1 - s) s (stM C2 text s 10 s s true [] 0 (({} : Sre.Seen).add 14) none).seen = .ok (some b, seen') from by rw [← h]; exact ea]
    rfl
  rw [e, e']
  exact (run2 h2 h3).le (by lia)
theorem search2_none {text : Array Nat} {s : Nat} (h : nx2 text (text.size + 1 - s) s = none) : Ends 50 (Sre.forSearch C2 text 0 s text.size false) Lost := by
  obtain ⟨seen', ea⟩ := admitted2 (m := stM C2 text s 10 s s true [] 0 (({} : Sre.Seen).add 14) none) rfl rfl rfl (text.size + 1 - s) s (({} : Sre.Seen).add 14)
  by_cases hs : s > text.size ∨ text.size - s < 1
  · unfold Sre.forSearch
    rw [if_pos (by show (decide (s > text.size) || decide (text.size - s < 1)) = true; simpa using hs)]
    exact Ends.step (end_ rfl rfl rfl) (Ends.now rfl)
  · have e : Sre.forSearch C2 text 0 s text.size false = M.attemptFrom (stM C2 text s 10 s s true [] 0 (({} : Sre.Seen).add 14) none) s true := by
      unfold Sre.forSearch
      rw [if_neg (by show ¬ ((decide (s > text.size) || decide (text.size - s < 1)) = true); simp; lia)]
      rfl
    have e' : M.attemptFrom (stM C2 text s 10 s s true [] 0 (({} : Sre.Seen).add 14) none) s true = stM C2 text s 10 s s true [] 0 seen' (some false) := by
      unfold Sre.M.attemptFrom
      rw [if_neg (by show ¬ ((!true) = true); decide)]
      show (match Sre.M.admitted _ (text.size + 1 - s) s _ with | .ok (some s, seen) => _ | .ok (none, seen) => _ | .error why => _) = _
      rw [show Sre.M.admitted (stM C2 text s 10 s s true [] 0 (({} : Sre.Seen).add 14) none) (text.size + 1 - s) s (stM C2 text s 10 s s true [] 0 (({} : Sre.Seen).add 14) none).seen = .ok (none, seen') from by rw [← h]; exact ea]
      rfl
    rw [e, e']
    exact Ends.step (end_ rfl rfl rfl) (Ends.now rfl)
end Mine
end
-- S4
noncomputable section
open PySem PySem.Calls PyProof.Rows PySem.W
set_option maxRecDepth 100000
set_option linter.unusedVariables false
namespace Mine
open PySem.Sre (M ops)
def C1 : Array Nat := #[14, 4, 0, 1, 1, 6, 1, 16, 46, 1]
/-- a dot at the start of a line -/
abbrev LD (text : Array Nat) (s : Nat) : Prop := (s = 0 ∨ text.getD (s - 1) 0 = 10) ∧ text.getD s 0 = 46
/-- the next dot at the start of a line from s on -/
def nx1 (text : Array Nat) : Nat → Nat → Option Nat
  | 0, _ => none
  | fuel + 1, s => if s ≥ text.size then none else if LD text s then some s else nx1 text fuel (s + 1)
def Res1 (r : Option Nat) (m : M) : Prop := match r with
  | some b => Found b (b + 1) m
  | none => Lost m
theorem run1 (text : Array Nat) : ∀ (n s : Nat) (first : Bool) (seen : Sre.Seen), text.size - s = n → s ≤ text.size →
    Ends (7 * (n + 1)) (stM C1 text s 5 s s first [nsF2 5 s first] 1 seen none) (Res1 (nx1 text (n + 1) s)) := by
  intro n
  induction n with
  | zero =>
    intro s first seen hn hs
    have hss : s = text.size := by lia
    have hnx : nx1 text (0 + 1) s = none := by unfold nx1; rw [if_pos (by lia)]
    rw [hnx]
    have lose : ∀ {seen : Sre.Seen} {pc p h : Nat} {o : Bool}, Ends 2 (stM C1 text s pc p h o [nsF2 5 s first] 1 seen (some false)) (Res1 none) := by
      intro seen pc p h o
      have e : (stM C1 text s pc p h o [nsF2 5 s first] 1 seen (some false)).step = stM C1 text s 5 s h first [] 0 seen (some false) := by
        refine (back_ rfl rfl rfl).trans ?_
        show (if s < text.size then _ else M.say _ false) = _
        rw [if_neg (by lia)]
        rfl
      exact Ends.step e (Ends.step (end_ rfl rfl rfl) (Ends.now rfl))
    by_cases hl : (s == 0 || text.getD (s - 1) 0 == 10) = true
    · refine Ends.step (m' := stM C1 text s 7 s s first [nsF2 5 s first] 1 ((seen.add 6).add 44) none) ((at_line rfl rfl (by show 5 < C1.size; decide) rfl rfl).trans (by rw [if_pos (by exact hl)]; rfl)) ?_
      refine Ends.step ((lit_no rfl rfl (by show 7 < C1.size; decide) rfl (fun h => by have h : s < text.size := h; lia)).trans (show _ = stM C1 text s 7 s s first [nsF2 5 s first] 1 _ (some false) from rfl)) ?_
      exact lose.le (by lia)
    · refine Ends.step (m' := stM C1 text s 5 s s first [nsF2 5 s first] 1 ((seen.add 6).add 44) (some false)) ((at_line rfl rfl (by show 5 < C1.size; decide) rfl rfl).trans (by rw [if_neg (by exact hl)]; rfl)) ?_
      exact lose.le (by lia)
  | succ n ih =>
    intro s first seen hn hs
    have hlt : s < text.size := by lia
    by_cases hd : LD text s
    · have hnx : nx1 text (n + 1 + 1) s = some s := by unfold nx1; rw [if_neg (by lia), if_pos hd]
      rw [hnx]
      have hl : (s == 0 || text.getD (s - 1) 0 == 10) = true := by simpa using hd.1
      refine Ends.le (N := 5) (by lia) ?_
      refine Ends.step (m' := stM C1 text s 7 s s first [nsF2 5 s first] 1 ((seen.add 6).add 44) none) ((at_line rfl rfl (by show 5 < C1.size; decide) rfl rfl).trans (by rw [if_pos (by exact hl)]; rfl)) ?_
      refine Ends.step ((lit_yes rfl rfl (by show 7 < C1.size; decide) rfl hlt hd.2).trans (show _ = stM C1 text s 9 (s + 1) s first [nsF2 5 s first] 1 _ none from rfl)) ?_
      refine Ends.step ((success_ rfl rfl (by show 9 < C1.size; decide) rfl rfl rfl).trans (show _ = stM C1 text s 9 (s + 1) (s + 1) first [nsF2 5 s first] 1 _ (some true) from rfl)) ?_
      refine Ends.step ((back_ rfl rfl rfl).trans (show _ = stM C1 text s 5 s (s + 1) first [] 0 _ (some true) from rfl)) ?_
      exact Ends.step (end_ rfl rfl rfl) (Ends.now ⟨rfl, rfl, rfl⟩)
    · have hnx : nx1 text (n + 1 + 1) s = nx1 text (n + 1) (s + 1) := by rw [nx1, if_neg (by lia), if_neg hd]
      rw [hnx]
      have again : ∀ {seen : Sre.Seen} {pc p h : Nat} {o : Bool}, Ends (7 * (n + 1) + 1) (stM C1 text s pc p h o [nsF2 5 s first] 1 seen (some false)) (Res1 (nx1 text (n + 1) (s + 1))) := by
        intro seen pc p h o
        have e : (stM C1 text s pc p h o [nsF2 5 s first] 1 seen (some false)).step = stM C1 text (s + 1) 5 (s + 1) (s + 1) false [nsF2 5 (s + 1) false] 1 seen none := by
          refine (back_ rfl rfl rfl).trans ?_
          show (if s < text.size then _ else M.say _ false) = _
          rw [if_pos hlt]
          rfl
        exact Ends.step e (ih (s + 1) false seen (by lia) (by lia))
      refine Ends.le (N := 7 * (n + 1) + 1 + 1 + 1) (by lia) ?_
      by_cases hl : (s == 0 || text.getD (s - 1) 0 == 10) = true
      · have h46 : text.getD s 0 ≠ 46 := fun h => hd ⟨by simpa using hl, h⟩
        refine Ends.step (m' := stM C1 text s 7 s s first [nsF2 5 s first] 1 ((seen.add 6).add 44) none) ((at_line rfl rfl (by show 5 < C1.size; decide) rfl rfl).trans (by rw [if_pos (by exact hl)]; rfl)) ?_
        refine Ends.step ((lit_no rfl rfl (by show 7 < C1.size; decide) rfl (fun _ => h46)).trans (show _ = stM C1 text s 7 s s first [nsF2 5 s first] 1 _ (some false) from rfl)) ?_
        exact again
      · refine Ends.step (m' := stM C1 text s 5 s s first [nsF2 5 s first] 1 ((seen.add 6).add 44) (some false)) ((at_line rfl rfl (by show 5 < C1.size; decide) rfl rfl).trans (by rw [if_neg (by exact hl)]; rfl)) ?_
        exact again.le (by lia)
theorem search1 (text : Array Nat) (s : Nat) : Ends (7 * (text.size + 2)) (Sre.forSearch C1 text 0 s text.size false) (Res1 (nx1 text (text.size + 1 - s) s)) := by
  by_cases hs : s > text.size ∨ text.size - s < 1
  · have hnx : nx1 text (text.size + 1 - s) s = none := by
      cases h : text.size + 1 - s with
      | zero => rfl
      | succ k => unfold nx1; rw [if_pos (by lia)]
    rw [hnx]
    unfold Sre.forSearch
    rw [if_pos (by show (decide (s > text.size) || decide (text.size - s < 1)) = true; simpa using hs)]
    exact Ends.le (N := 1) (by lia) (Ends.step (end_ rfl rfl rfl) (Ends.now rfl))
  · have e : Sre.forSearch C1 text 0 s text.size false = stM C1 text s 5 s s true [nsF2 5 s true] 1 (({} : Sre.Seen).add 14) none := by
      unfold Sre.forSearch
      rw [if_neg (by show ¬ ((decide (s > text.size) || decide (text.size - s < 1)) = true); simp; lia)]
      rfl
    rw [e, show text.size + 1 - s = (text.size - s) + 1 from by lia]
    exact (run1 text (text.size - s) s true _ rfl (by lia)).le (by lia)
end Mine
end
-- S5
noncomputable section
open PySem PySem.Calls PyProof.Rows PySem.W
set_option maxRecDepth 100000
set_option linter.unusedVariables false
namespace Mine
open PySem.Sre (M ops)
def C3 : Array Nat := #[14, 14, 4, 1, 1, 9, 0, 64, 0, 1342177280, 0, 0, 0, 0, 0, 17, 0, 13, 11, 9, 0, 64, 0, 1342177280, 0, 0, 0, 0, 0, 17, 1, 1]
theorem search3 : Ends 50 (Sre.forSearch C3 #[97, 98] 1 0 2 false) Lost := ⟨1, by decide, by show (iter 1 (Sre.forSearch C3 #[97, 98] 1 0 2 false)).outcome = some .failed; rfl⟩
section
variable {prog : Program} {w : World} {A : Around} {E : Value → Shared → Prop} {s : Shared}
theorem reDrive_ {m' : M} {Q : M → Shared → Prop} (hf : m'.outcome.isSome = true) (h : Q m' s) : ∀ (turns : Nat) (m : M), iter (4 * turns) m = m' → (0 < turns) → wpAny (model prog w) A (Builtin.Re.reDrive turns m) Q E s
  | 0, _, _, h0 => absurd h0 (by lia)
  | turns + 1, m, hm, _ => by
    unfold Builtin.Re.reDrive
    have e : 4 * (turns + 1) = 4 + 4 * turns := by lia
    rw [e, iter_add] at hm
    have hr : m.runFor Builtin.Re.reTurnSteps = iter 4 m := runFor_eq 4 m
    simp only [hr]
    by_cases ho : (iter 4 m).outcome.isSome = true
    · rw [if_pos ho]
      rw [iter_done _ ho] at hm
      rw [hm]; exact wpAny_pure h
    · rw [if_neg ho]
      cases turns with
      | zero => exact absurd (by rw [show iter 4 m = m' from hm]; exact hf) ho
      | succ t => exact wpAny_bind (wpAny_rule (reDrive_ hf h (t + 1) (iter 4 m) hm (by lia)))
theorem sayRules {seen : Sre.Seen} {Q : PUnit → Shared → Prop} (h : Q ⟨⟩ s) : ∀ l : List Nat, wpAny (model prog w) A (forIn l PUnit.unit fun i _ => do
    if seen.has i = true then rule (Sre.names.getD i "")
    pure (ForInStep.yield PUnit.unit)) Q E s
  | [] => by rw [List.forIn_nil]; exact wpAny_pure h
  | i :: l => by
    rw [List.forIn_cons]
    refine wpAny_bind ?_
    by_cases hi : seen.has i = true
    · rw [if_pos hi]
      exact wpAny_bind (wpAny_rule (wpAny_pure (sayRules h l)))
    · rw [if_neg hi]
      exact wpAny_pure (sayRules h l)
theorem reRun_ {m : M} {N : Nat} {K : M → Prop} {Q : Option M → Shared → Prop} (hN : N ≤ 2 ^ 60) (e : Ends N m K) (hk : ∀ m', K m' → (m'.outcome = some .matched ∧ Q (some m') s) ∨ (m'.outcome = some .failed ∧ Q none s)) :
    wpAny (model prog w) A (Builtin.Re.reRunToEnd m) Q E s := by
  obtain ⟨k, hk1, hkK⟩ := e
  have hq := hk _ hkK
  have hf : (iter k m).outcome.isSome = true := by rcases hq with h | h <;> rw [h.1] <;> rfl
  unfold Builtin.Re.reRunToEnd
  have hit : iter (4 * 2 ^ 64) m = iter k m := by
    rw [show 4 * 2 ^ 64 = k + (4 * 2 ^ 64 - k) from by lia, iter_add, iter_done _ hf]
  refine wpAny_bind (reDrive_ (m' := iter k m) hf ?_ (2 ^ 64) m hit (by decide))
  refine wpAny_bind (sayRules ?_ _)
  rcases hq with h | h
  · rw [h.1]; exact wpAny_pure h.2
  · rw [h.1]; exact wpAny_pure h.2
end
end Mine
end
-- R24
noncomputable section
open PySem PySem.Calls PyProof.Rows PySem.W
set_option maxRecDepth 100000
set_option linter.unusedVariables false
namespace Mine
open PySem.Builtin.Re
/-- a frozen pattern -/
def PatF (f : FM) (a : Addr) (C : Array Nat) (groups : Nat) : Prop := ∃ o vs l ls, f a = some o ∧ o.cls = .type "re.Pattern" ∧ o.dict = none ∧ o.data = .fields vs ∧ vs.getD 5 .none = .ref l ∧ IsT f l ls ∧ (ls.toArray.map reRawOf).map (·.toNat) = C ∧
  reRawNat (vs.getD 2 .none) = groups ∧ reRawNat (vs.getD 6 .none) = 0
theorem PatF.le {f g a C n} (x : PatF f a C n) (l : FM.Le f g) : PatF g a C n := let ⟨o, vs, l', ls, h1, h2, h3, h4, h5, h6, h7⟩ := x; ⟨o, vs, l', ls, l _ _ h1, h2, h3, h4, h5, h6.le l, h7⟩
theorem entry_subloop : entryFor table "re.Pattern.sub.loop" = some Builtin.«re.Pattern.sub.loop» := entryFor_of_fast (by kernel_rfl)
theorem plain_subloop : plainId "re.Pattern.sub.loop" = true := by decide +kernel
section
variable {prog : Program} {w : World} {A : Around} {E : Value → Shared → Prop} {s : Shared} {σ : OsState} {f : FM} {P : List Cell}
theorem wholeTarget_ {a : Addr} {C : Array Nat} {n : Nat} {x : Str} {t : Tok} {Q : ReTarget → Shared → Prop} (p : PatF f a C n) (I : Inv σ f P s)
    (h : Q { pattern := .ref a, string := .str x t, code := C, text := x.cps, kind := 0, groups := n, pos := 0, lim := x.cps.size } s) : wpAny (model prog w) A (reWholeTarget (.ref a) (.str x t)) Q E s := by
  obtain ⟨o, vs, l, ls, h1, h2, h3, h4, h5, h6, h7, h8, h9⟩ := p
  unfold reWholeTarget
  refine wpAny_bind (wpAny_fieldsOf (I.frz _ _ h1) h4 ?_)
  refine wpAny_bind (wpAny_of_eq (a := (x.cps, 0)) rfl ?_)
  dsimp only
  rw [h9]
  rw [if_neg (by decide), if_neg (by decide)]
  unfold reNoCollectionInside
  rw [if_neg (by decide)]
  refine wpAny_bind (wpAny_pure ?_)
  rw [h5]
  unfold reRawItems
  obtain ⟨n', hl⟩ := h6.at I
  refine wpAny_bind (wpAny_bind (wpAny_seqItems hl rfl (wpAny_pure ?_)))
  refine wpAny_pure ?_
  simp only [Option.getD_some]
  rw [h7, h8]
  exact h
end
end Mine
end
-- R25
noncomputable section
open PySem PySem.Calls PyProof.Rows PySem.W
set_option maxRecDepth 100000
set_option linter.unusedVariables false
namespace Mine
open PySem.Builtin.Re
def NxOk (C text : Array Nat) (groups : Nat) (nx : Nat → Option (Nat × Nat)) : Prop :=
  ∀ s, ∃ N, N ≤ 2 ^ 60 ∧ Ends N (Sre.forSearch C text groups s text.size false) (fun m => match nx s with | some (b, e) => Found b e m | none => Lost m)
def NxProg (text : Array Nat) (nx : Nat → Option (Nat × Nat)) : Prop := ∀ d b e, nx d = some (b, e) → d ≤ b ∧ b < e ∧ e ≤ text.size
/-- the pieces that the substitution lays -/
def subP (nx : Nat → Option (Nat × Nat)) (text : Array Nat) (repl : Str) : Nat → Nat → List Str
  | 0, _ => []
  | fuel + 1, d => match nx d with
    | some (b, e) => (if d < b then [⟨text.extract d b⟩] else []) ++ [repl] ++ subP nx text repl fuel e
    | none => if d < text.size then [⟨text.extract d text.size⟩] else []
section
variable {prog : Program} {w : World} {A : Around} {E : Value → Shared → Prop} {s : Shared} {σ : OsState} {f : FM} {P : List Cell}
theorem nextFound_ {C text : Array Nat} {groups : Nat} {nx : Nat → Option (Nat × Nat)} {pt st : Value} {d : Nat} {Q : Option Sre.M → Shared → Prop} (ok : NxOk C text groups nx)
    (h1 : ∀ m b e, nx d = some (b, e) → Found b e m → Q (some m) s) (h2 : nx d = none → Q none s) :
    wpAny (model prog w) A (reNextFound { pattern := pt, string := st, code := C, text := text, kind := 0, groups := groups, pos := 0, lim := text.size } d false) Q E s := by
  obtain ⟨N, hN, e⟩ := ok d
  unfold reNextFound
  refine reRun_ hN e fun m' hm => ?_
  cases hx : nx d with
  | none => rw [hx] at hm; exact .inr ⟨hm, h2 hx⟩
  | some be =>
    obtain ⟨b, e⟩ := be
    rw [hx] at hm
    exact .inl ⟨hm.1, h1 m' b e hx hm⟩
theorem slice_ {text : Array Nat} {b e : Nat} {Q : Value → Shared → Prop} (I : Inv σ f P s) (hsz : text.size < 2 ^ 20) (h : ∀ s' t, Inv σ f P s' → Q (.str ⟨text.extract b e⟩ t) s') : wpAny (model prog w) A (reSlice text 0 b e) Q E s := by
  unfold reSlice
  refine wpAny_mkStr (h _ _ (I.to rfl rfl rfl)) ?_
  have h2 : (text.extract b e).size ≤ text.size := by rw [Array.size_extract]; lia
  show (text.extract b e).size ≤ sizeLine
  rw [sizeLine_eq]
  lia
theorem pushL {l : Addr} {vs : List Value} {x : Value} {Q : Unit → Shared → Prop} (I : Inv σ f ((l, ListO vs) :: P) s) (hsz : vs.length < 2 ^ 20) (h : ∀ s', Inv σ f ((l, ListO (vs ++ [x])) :: P) s' → Q () s') :
    wpAny (model prog w) A (updateSeq l (·.push x)) Q E s := by
  obtain ⟨o, ho, hx⟩ := I.at
  obtain ⟨n, hd⟩ := hx.data
  have hx' : ListO (vs ++ [x]) (Obj.mapSeq (·.push x) o) := by
    have := mapSeq_list (g := (·.push x)) hx
    simpa using this
  exact wpAny_updateSeq ho hd (h _ (I.set (Heap.SameBut.update ..) (Heap.get?_update_self _ ho hx'.free) hx' rfl rfl)) (by rw [sizeLine_eq]; simp; lia) (by rw [sizeLine_eq]; simp; lia)
/-- the end of the loop: no further match -/
theorem subLoop_end {a l : Addr} {C : Array Nat} {groups : Nat} {x repl : Str} {t tr : Tok} {nx : Nat → Option (Nat × Nat)} {R : Result → Shared → Prop} {replV : Value} {way : Int} (p : PatF f a C groups) (ok : NxOk C x.cps groups nx) (hsz : x.cps.size < 2 ^ 10)
    (hway : (way = 0 ∧ ∃ r tr, replV = .str r tr) ∨ way ≠ 0) {d cnt : Nat} {vs : List (Str × Tok)} (hd : nx d = none) (hlen : vs.length < 2 ^ 12) (hjoin : JoinOk (⟨#[]⟩ : Str) (vs.map (·.1) ++ (if d < x.cps.size then [⟨x.cps.extract d x.cps.size⟩] else [])) = true)
    (I : Inv σ f ((l, ListO (strValues vs)) :: P) s)
    (h : ∀ s' t', Inv σ f P s' → R (.ok (.ret (.str (Txt.join (⟨#[]⟩ : Str) (vs.map (·.1) ++ (if d < x.cps.size then [⟨x.cps.extract d x.cps.size⟩] else []))) t'))) s') :
    codeAny (model prog w) A (.builtin "re.Pattern.sub.loop" ⟨[.ref a, .str x t, replV, rawInt way, rawInt 0, rawInt cnt, rawInt d, rawInt d, .bool false, .ref l, .bool false], []⟩) R s := by
  refine codeAny_builtin entry_subloop ?_
  rw [Around.under_plainId plain_subloop]
  unfold Builtin.«re.Pattern.sub.loop»
  refine wpAny_bind (wholeTarget_ p I ?_)
  have lit : ∀ {Q : Unit → Shared → Prop} {A : Around} {E : Value → Shared → Prop}, Q () s → wpAny (model prog w) A (if (way == 0) = true then reLiteralCannotBeTurned replV else pure ()) Q E s := fun q => by
    rcases hway with ⟨rfl, r, tr, rfl⟩ | hw
    · rw [if_pos (by decide)]
      unfold reLiteralCannotBeTurned
      refine wpAny_bind (wpAny_of_eq (a := some r) rfl ?_)
      rw [if_neg (by simp)]
      exact wpAny_pure q
    · rw [if_neg (by simpa using hw)]
      exact wpAny_pure q
  dsimp only
  generalize hW : vs.map (·.1) ++ (if d < x.cps.size then [(⟨x.cps.extract d x.cps.size⟩ : Str)] else []) = W at hjoin h
  have fin : ∀ {ws : List (Str × Tok)} {s : Shared}, ws.map (·.1) = W → Inv σ f ((l, ListO (strValues ws)) :: P) s → wpAny (model prog w) A.in1 (reSlice x.cps 0 0 0 >>= fun joiner => seqItems? (.ref l) >>= fun o =>
      if (o.getD #[]).isEmpty = true then (pure joiner >>= fun text => if false = true then (holding [text] (mkInt (cnt : Int) >>= fun i => newTuple [text, i]) >>= fun v => ret v) else ret text)
      else (call (.builtin (if (0 == 0) = true then "str.join" else "bytes.join")) [joiner, .ref l] >>= fun text => if false = true then (holding [text] (mkInt (cnt : Int) >>= fun i => newTuple [text, i]) >>= fun v => ret v) else ret text))
      (fun fin s' => match fin with | .done f => R (.ok f) s' | .again c' => c'.quiet = true ∧ codeAny (model prog w) A c' R s') (fun e s' => R (.error e) s') s := by
    intro ws s hws I
    refine wpAny_bind (slice_ I (by lia) fun s t0 I => ?_)
    have e0 : x.cps.extract 0 0 = #[] := by simp
    rw [e0]
    obtain ⟨k, hl⟩ := I.ex
    refine wpAny_bind (wpAny_seqItems hl rfl ?_)
    simp only [Option.getD_some]
    cases ws with
    | nil =>
      rw [if_pos (by rfl)]
      refine wpAny_bind (wpAny_pure ?_)
      rw [if_neg (by decide)]
      refine wpAny_pure ?_
      have := h s t0 I.drop
      rw [← hws] at this
      exact this
    | cons y ws =>
      rw [if_neg (by simp [strValues])]
      refine wpAny_bind ?_
      refine SC.join (l := y :: ws) (texts := W) I.list hws hjoin fun t' k => ?_
      rw [if_neg (by decide)]
      exact wpAny_pure (h _ t' (I.drop.to rfl rfl rfl))
  have mid : ∀ {s : Shared}, Inv σ f ((l, ListO (strValues vs)) :: P) s → ∀ (T : Option Sre.M → Sem Fin), (∀ s', Inv σ f ((l, ListO (strValues vs)) :: P) s' → wpAny (model prog w) A.in1 (T none) (fun fin s' => match fin with | .done f => R (.ok f) s' | .again c' => c'.quiet = true ∧ codeAny (model prog w) A c' R s') (fun e s' => R (.error e) s') s') →
      wpAny (model prog w) A.in1 ((if ((0 : Int) != 0 && decide ((cnt : Int) ≥ 0)) = true then pure none else reNextFound { pattern := Value.ref a, string := Value.str x t, code := C, text := x.cps, kind := 0, groups := groups, pos := 0, lim := x.cps.size } (d : Int).toNat false) >>= T)
        (fun fin s' => match fin with | .done f => R (.ok f) s' | .again c' => c'.quiet = true ∧ codeAny (model prog w) A c' R s') (fun e s' => R (.error e) s') s := by
    intro s I T hT
    refine wpAny_bind ?_
    rw [if_neg (by simp), Int.toNat_natCast]
    exact nextFound_ ok (fun m b e hx => by rw [hd] at hx; cases hx) (fun _ => hT s I)
  have last : ∀ {s : Shared}, Inv σ f ((l, ListO (strValues vs)) :: P) s → ∀ (T : Sem Fin) (s' : Shared), True := fun _ _ _ => trivial
  by_cases hw : (way == 0) = true
  · rw [if_pos hw]
    have lit' := fun (Q : Unit → Shared → Prop) q => lit (Q := Q) (A := A.in1) (E := fun e s' => R (.error e) s') q
    simp only [hw, if_true] at lit'
    refine wpAny_bind (lit' _ ?_)
    refine mid I _ fun s I => ?_
    dsimp only
    by_cases hlt : d < x.cps.size
    · rw [if_pos (by simpa using hlt)]
      refine wpAny_bind (slice_ I (by lia) fun s t0 I => ?_)
      refine wpAny_bind (pushL I (by simp [strValues]; lia) fun s I => ?_)
      refine fin (ws := vs ++ [(⟨x.cps.extract d x.cps.size⟩, t0)]) (by rw [← hW, if_pos hlt]; simp) ?_
      simpa [strValues] using I
    · rw [if_neg (by simpa using hlt)]
      exact fin (ws := vs) (by rw [← hW, if_neg hlt]; simp) I
  · rw [if_neg hw]
    refine mid I _ fun s I => ?_
    dsimp only
    by_cases hlt : d < x.cps.size
    · rw [if_pos (by simpa using hlt)]
      refine wpAny_bind (slice_ I (by lia) fun s t0 I => ?_)
      refine wpAny_bind (pushL I (by simp [strValues]; lia) fun s I => ?_)
      refine fin (ws := vs ++ [(⟨x.cps.extract d x.cps.size⟩, t0)]) (by rw [← hW, if_pos hlt]; simp) ?_
      simpa [strValues] using I
    · rw [if_neg (by simpa using hlt)]
      exact fin (ws := vs) (by rw [← hW, if_neg hlt]; simp) I
end
end Mine
end
-- R26
noncomputable section
open PySem PySem.Calls PyProof.Rows PySem.W
set_option maxRecDepth 100000
set_option linter.unusedVariables false
namespace Mine
open PySem.Builtin.Re
section
variable {prog : Program} {w : World} {A : Around} {E : Value → Shared → Prop} {s : Shared} {σ : OsState} {f : FM} {P : List Cell}
theorem subP_len {nx : Nat → Option (Nat × Nat)} {text : Array Nat} {repl : Str} (pg : NxProg text nx) : ∀ (fuel d : Nat), text.size + 1 - d ≤ fuel → d ≤ text.size → (subP nx text repl fuel d).length ≤ 2 * (text.size - d) + 1
  | 0, d, h, hd => by lia
  | fuel + 1, d, h, hd => by
    unfold subP
    cases hx : nx d with
    | none => dsimp only; split <;> simp
    | some be =>
      obtain ⟨b, e⟩ := be
      obtain ⟨h1, h2, h3⟩ := pg d b e hx
      have ih := subP_len (repl := repl) pg fuel e (by lia) h3
      dsimp only
      simp only [List.length_append, List.length_singleton]
      split
      · simp only [List.length_singleton]; lia
      · simp only [List.length_nil]; lia
theorem subLoop {a l : Addr} {C : Array Nat} {groups : Nat} {x repl : Str} {t tr : Tok} {nx : Nat → Option (Nat × Nat)} {R : Result → Shared → Prop} (p : PatF f a C groups) (ok : NxOk C x.cps groups nx) (pg : NxProg x.cps nx) (hsz : x.cps.size < 2 ^ 10) :
    ∀ (fuel d cnt : Nat) (vs : List (Str × Tok)) (s : Shared), x.cps.size + 1 - d ≤ fuel → d ≤ x.cps.size → vs.length + 2 * (x.cps.size - d) + 1 < 2 ^ 12 → JoinOk (⟨#[]⟩ : Str) (vs.map (·.1) ++ subP nx x.cps repl fuel d) = true →
      Inv σ f ((l, ListO (strValues vs)) :: P) s →
      (∀ s' t', Inv σ f P s' → R (.ok (.ret (.str (Txt.join (⟨#[]⟩ : Str) (vs.map (·.1) ++ subP nx x.cps repl fuel d)) t'))) s') →
      codeAny (model prog w) A (.builtin "re.Pattern.sub.loop" ⟨[.ref a, .str x t, .str repl tr, rawInt 0, rawInt 0, rawInt cnt, rawInt d, rawInt d, .bool false, .ref l, .bool false], []⟩) R s
  | 0, d, cnt, vs, s, hf, hd, hl, hj, I, h => by lia
  | fuel + 1, d, cnt, vs, s, hf, hd, hl, hj, I, h => by
    cases hx : nx d with
    | none =>
      have e : subP nx x.cps repl (fuel + 1) d = if d < x.cps.size then [⟨x.cps.extract d x.cps.size⟩] else [] := by unfold subP; rw [hx]
      rw [e] at hj h
      exact subLoop_end (repl := repl) (tr := tr) p ok hsz (.inl ⟨rfl, repl, tr, rfl⟩) hx (by lia) hj I h
    | some be =>
      obtain ⟨b, e⟩ := be
      obtain ⟨h1, h2, h3⟩ := pg d b e hx
      have es : subP nx x.cps repl (fuel + 1) d = (if d < b then [⟨x.cps.extract d b⟩] else []) ++ [repl] ++ subP nx x.cps repl fuel e := by rw [subP, hx]
      rw [es] at hj h
      refine codeAny_builtin entry_subloop ?_
      rw [Around.under_plainId plain_subloop]
      unfold Builtin.«re.Pattern.sub.loop»
      refine wpAny_bind (wholeTarget_ p I ?_)
      dsimp only
      rw [if_pos (by decide)]
      refine wpAny_bind (m := reLiteralCannotBeTurned (.str repl tr)) ?_
      unfold reLiteralCannotBeTurned
      refine wpAny_bind (wpAny_of_eq (a := some repl) rfl ?_)
      rw [if_neg (by simp)]
      refine wpAny_pure ?_
      refine wpAny_bind ?_
      rw [if_neg (by simp), Int.toNat_natCast]
      refine nextFound_ ok (fun m b' e' hx' hm => ?_) (fun hx' => by rw [hx] at hx'; cases hx')
      rw [hx] at hx'
      cases hx'
      obtain ⟨hm1, hm2, hm3⟩ := hm
      dsimp only
      rw [hm2, hm3]
      have hbe : (e == b) = false := by simpa using (by lia : e ≠ b)
      have go : ∀ {ws : List (Str × Tok)} {s : Shared}, ws.map (·.1) = vs.map (·.1) ++ (if d < b then [⟨x.cps.extract d b⟩] else []) → ws.length ≤ vs.length + 1 → Inv σ f ((l, ListO (strValues ws)) :: P) s →
          wpAny (model prog w) A.in1 (pure (Value.str repl tr) >>= fun item => if (item != Value.none) = true then (updateSeq l (·.push item) >>= fun _ => again (Code.builtin "re.Pattern.sub.loop" ⟨[.ref a, .str x t, .str repl tr, rawInt 0, rawInt 0, rawInt ((cnt : Int) + 1), rawInt e, rawInt e, .bool (e == b), .ref l, .bool false], []⟩))
            else again (Code.builtin "re.Pattern.sub.loop" ⟨[.ref a, .str x t, .str repl tr, rawInt 0, rawInt 0, rawInt ((cnt : Int) + 1), rawInt e, rawInt e, .bool (e == b), .ref l, .bool false], []⟩))
            (fun fin s' => match fin with | .done f => R (.ok f) s' | .again c' => c'.quiet = true ∧ codeAny (model prog w) A c' R s') (fun e s' => R (.error e) s') s := by
        intro ws s hws hwl I
        refine wpAny_bind (wpAny_pure ?_)
        rw [if_pos (by rfl)]
        have hwl' : (strValues ws).length = ws.length := by simp [strValues]
        refine wpAny_bind (pushL I (by lia) fun s I => ?_)
        refine wpAny_pure ⟨plainId_quiet plain_subloop _, ?_⟩
        rw [hbe, show ((cnt : Int) + 1) = ((cnt + 1 : Nat) : Int) from by lia]
        have e1 : (ws ++ [(repl, tr)]).map (·.1) ++ subP nx x.cps repl fuel e = vs.map (·.1) ++ ((if d < b then [⟨x.cps.extract d b⟩] else []) ++ [repl] ++ subP nx x.cps repl fuel e) := by
          simp [hws]
        refine subLoop p ok pg hsz fuel e (cnt + 1) (ws ++ [(repl, tr)]) s (by lia) h3 (by simp only [List.length_append, List.length_singleton]; lia) (by rw [e1]; exact hj) ?_ (by rw [e1]; exact h)
        simpa [strValues] using I
      by_cases hlt : d < b
      · rw [if_pos hlt]
        refine wpAny_bind (slice_ I (by lia) fun s t0 I => ?_)
        refine wpAny_bind (pushL I (by simp [strValues]; lia) fun s I => ?_)
        rw [if_pos (by decide)]
        refine go (ws := vs ++ [(⟨x.cps.extract d b⟩, t0)]) (by rw [if_pos hlt]; simp) (by simp) ?_
        simpa [strValues] using I
      · rw [if_neg hlt, if_pos (by decide)]
        exact go (ws := vs) (by rw [if_neg hlt]; simp) (by lia) I
end
end Mine
end
-- R27
noncomputable section
open PySem PySem.Calls PyProof.Rows PySem.W
set_option maxRecDepth 100000
set_option linter.unusedVariables false
namespace Mine
open PySem.Builtin.Re
theorem plainAttrs_re : PlainAttrs "re.Pattern" :=
  ⟨⟨"object.__getattribute__", by rw [typeLookup_type, builtinLookup_eq_fast]; kernel_rfl, by decide +kernel⟩, by rw [typeLookup_type, builtinLookup_eq_fast]; kernel_rfl⟩
theorem slot_re_sub : Slot "re.Pattern" "sub" "re.Pattern.sub" :=
  .of (owner := "re.Pattern") (n := "sub") (by rw [typeLookup_type, builtinLookup_eq_fast]; kernel_rfl) (by decide +kernel) (by decide +kernel) (by decide +kernel)
    (by first | exact .inl (by decide +kernel) | exact .inr (by decide +kernel)) (by rw [isSubtype_type]; kernel_rfl)
theorem type_re_sub : typeOf (.builtin "re.Pattern.sub") = pure (.type "method_descriptor") := by show builtinType _ = _; rw [builtinType_eq_fast]; kernel_rfl
theorem entry_re_sub : entryFor table "re.Pattern.sub" = some Builtin.«re.Pattern.sub» := entryFor_of_fast (by kernel_rfl)
theorem args_re_sub (a b c : Value) : argsOk "re.Pattern.sub" ⟨[a, b, c], []⟩ := by unfold argsOk; kernel_rfl
theorem str_no_call : typeLookup (.type "str") "__call__" = pure none := by rw [typeLookup_type, builtinLookup_eq_fast]; kernel_rfl
section
variable {prog : Program} {w : World} {A : Around} {E : Value → Shared → Prop} {s : Shared} {σ : OsState} {f : FM} {P : List Cell}
theorem subCall {a : Addr} {C : Array Nat} {groups : Nat} {x repl : Str} {t tr : Tok} {nx : Nat → Option (Nat × Nat)} {Q : Value → Shared → Prop} (p : PatF f a C groups) (ok : NxOk C x.cps groups nx) (pg : NxProg x.cps nx) (hsz : x.cps.size < 2 ^ 10)
    (hrepl : repl.cps.contains 92 = false) (hj : JoinOk (⟨#[]⟩ : Str) (subP nx x.cps repl (x.cps.size + 1) 0) = true) (I : Inv σ f P s)
    (h : ∀ s' t', Inv σ f P s' → Q (.str (Txt.join (⟨#[]⟩ : Str) (subP nx x.cps repl (x.cps.size + 1) 0)) t') s') :
    wpAny (model prog w) A (call (.builtin "re.Pattern.sub") [.ref a, .str repl tr, .str x t]) Q E s := by
  obtain ⟨o, vs, l, ls, h1, h2, h3, h4, h5, h6, h7, h8, h9⟩ := id p
  refine wpAny_call (codeAny_call_builtin slot_re_sub.plain entry_re_sub (slot_re_sub.check _ _ _ _ _ _ _ _ ⟨o, I.frz _ _ h1, h2⟩ (args_re_sub _ _ _) ?_))
  unfold Builtin.«re.Pattern.sub» reSubstitute
  dsimp only
  refine wpAny_bind (wpAny_of_eq (a := [some (Value.str repl tr), some (Value.str x t), none]) (by rfl) ?_)
  dsimp only
  refine wpAny_bind (wpAny_pure ?_)
  refine wpAny_bind (wpAny_specialOf (typeIs_str _ _ _) str_no_call ?_)
  rw [if_neg (by decide)]
  refine wpAny_bind (wpAny_of_eq (a := some repl) rfl ?_)
  dsimp only
  refine wpAny_bind (wpAny_pure ?_)
  rw [hrepl]
  rw [if_neg (by decide), if_pos (by decide)]
  refine wpAny_bind (wpAny_pure ?_)
  refine wpAny_bind (wpAny_holding (wholeTarget_ p I ?_))
  rw [if_neg (by show ¬ (((0 : Int) == 1) = true); decide)]
  refine wpAny_bind (wpAny_newList ?_)
  have J := I.push (q := ListO []) (o := { cls := .type "list", data := .seq #[] }) (s' := { s with heap := s.heap.push { cls := .type "list", data := .seq #[] } }) rfl ⟨0, rfl⟩ rfl rfl rfl
  refine wpAny_pure ⟨plainId_quiet plain_subloop _, ?_⟩
  refine subLoop (repl := repl) (tr := tr) (nx := nx) p ok pg hsz (x.cps.size + 1) 0 0 [] _ (by lia) (Nat.zero_le _) (by simp; lia) hj J fun s' t' I => ?_
  exact h s' t' I
end
end Mine
end
-- D11
noncomputable section
open PySem PySem.Calls PyProof.Rows PySem.W
set_option maxRecDepth 100000
set_option linter.unusedVariables false
namespace Mine
def nxA (text : Array Nat) (d : Nat) : Option (Nat × Nat) := (nx1 text (text.size + 1 - d) d).map fun b => (b, b + 1)
def nxB (text : Array Nat) (d : Nat) : Option (Nat × Nat) := (nx2 text (text.size + 1 - d) d).map fun b => (b, e2 text b)
def subF (nx : Array Nat → Nat → Option (Nat × Nat)) (repl x : Str) : Str := Txt.join (⟨#[]⟩ : Str) (subP (nx x.cps) x.cps repl (x.cps.size + 1) 0)
def fixF (x : Str) : Str := subF nxB (Str.ofString "\r\n") x
def dotF (x : Str) : Str := subF nxA (Str.ofString "..") x
theorem nxA_ok {text : Array Nat} (h : text.size < 2 ^ 20) : NxOk C1 text 0 (nxA text) := fun s => by
  refine ⟨7 * (text.size + 2), by lia, (search1 text s).mono fun m hm => ?_⟩
  unfold nxA
  cases hx : nx1 text (text.size + 1 - s) s with
  | none => rw [hx] at hm; exact hm
  | some b => rw [hx] at hm; exact hm
theorem nxB_ok (text : Array Nat) : NxOk C2 text 0 (nxB text) := fun s => by
  refine ⟨50, by decide, ?_⟩
  unfold nxB
  cases hx : nx2 text (text.size + 1 - s) s with
  | none => exact search2_none hx
  | some b => exact search2_some hx
theorem nx1_spec (text : Array Nat) : ∀ (fuel s b : Nat), nx1 text fuel s = some b → s ≤ b ∧ b < text.size ∧ LD text b ∧ ∀ i, s ≤ i → i < b → ¬ LD text i
  | 0, _, _, h => by cases h
  | fuel + 1, s, b, h => by
    unfold nx1 at h
    by_cases hs : s ≥ text.size
    · rw [if_pos hs] at h; cases h
    · rw [if_neg hs] at h
      by_cases hc : LD text s
      · rw [if_pos hc] at h
        cases h
        exact ⟨Nat.le_refl _, by lia, hc, fun i h1 h2 => by lia⟩
      · rw [if_neg hc] at h
        obtain ⟨h1, h2, h3, h4⟩ := nx1_spec text fuel (s + 1) b h
        refine ⟨by lia, h2, h3, fun i h5 h6 => ?_⟩
        by_cases hi : i = s
        · subst hi; exact hc
        · exact h4 i (by lia) h6
theorem nxA_prog (text : Array Nat) : NxProg text (nxA text) := fun d b e h => by
  unfold nxA at h
  cases hx : nx1 text (text.size + 1 - d) d with
  | none => rw [hx] at h; cases h
  | some b' =>
    rw [hx] at h
    cases h
    obtain ⟨h1, h2, _⟩ := nx1_spec text _ d b hx
    exact ⟨h1, by lia, by lia⟩
theorem e2_bounds {text : Array Nat} {b : Nat} (h : b < text.size) : b < e2 text b ∧ e2 text b ≤ text.size := by
  unfold e2
  by_cases hc : text.getD b 0 = 13 ∧ b + 1 < text.size ∧ text.getD (b + 1) 0 = 10
  · rw [if_pos hc]; lia
  · rw [if_neg hc]; lia
theorem nxB_prog (text : Array Nat) : NxProg text (nxB text) := fun d b e h => by
  unfold nxB at h
  cases hx : nx2 text (text.size + 1 - d) d with
  | none => rw [hx] at h; cases h
  | some b' =>
    rw [hx] at h
    cases h
    obtain ⟨h1, h2, _⟩ := nx2_spec text _ d b hx
    exact ⟨h1, e2_bounds h2⟩
theorem subP_short {nx : Nat → Option (Nat × Nat)} {text : Array Nat} {repl : Str} {B : Nat} (hr : repl.length ≤ B) (ht : text.size ≤ B) : ∀ (fuel d : Nat), ∀ y ∈ subP nx text repl fuel d, y.length ≤ B
  | 0, d, y, hy => by cases hy
  | fuel + 1, d, y, hy => by
    have ext : ∀ b e : Nat, (⟨text.extract b e⟩ : Str).length ≤ B := fun b e => by
      show (text.extract b e).size ≤ B
      rw [Array.size_extract]; lia
    unfold subP at hy
    cases hx : nx d with
    | none =>
      rw [hx] at hy
      dsimp only at hy
      split at hy
      · rw [List.mem_singleton.mp hy]; exact ext _ _
      · cases hy
    | some be =>
      rw [hx] at hy
      dsimp only at hy
      rcases List.mem_append.mp hy with hy | hy
      · rcases List.mem_append.mp hy with hy | hy
        · split at hy
          · rw [List.mem_singleton.mp hy]; exact ext _ _
          · cases hy
        · rw [List.mem_singleton.mp hy]; exact hr
      · exact subP_short hr ht fuel _ y hy
theorem subJoin {nx : Nat → Option (Nat × Nat)} {text : Array Nat} {repl : Str} (pg : NxProg text nx) (hr : repl.length ≤ 2) (hsz : text.size < 2 ^ 10) : JoinOk (⟨#[]⟩ : Str) (subP nx text repl (text.size + 1) 0) = true := by
  have h1 := subP_len (repl := repl) pg (text.size + 1) 0 (by lia) (Nat.zero_le _)
  have h2 := subP_short (nx := nx) (text := text) (repl := repl) (B := 1024) (by lia) (by lia) (text.size + 1) 0
  unfold JoinOk
  rw [StrLaws.joinFits h2]
  · rfl
  · show _ * 1024 + _ * 0 ≤ _
    lia
section
variable {prog : Program} {w : World} {A : Around} {E : Value → Shared → Prop} {s : Shared} {σ : OsState} {f : FM} {P : List Cell} {mg mb : Str → Option Value}
theorem fix_call {x : Str} {t tr : Tok} {Q : Value → Shared → Prop} (p41 : PatF f 41 C2 0) (hsz : x.cps.size < 2 ^ 10) (I : Inv σ f P s) (h : ∀ s' t', Inv σ f P s' → Q (.str (fixF x) t') s') :
    wpAny (model prog w) A (call (.builtin "re.Pattern.sub") [.ref 41, .str (Str.ofString "\r\n") tr, .str x t]) Q E s :=
  subCall p41 (nxB_ok x.cps) (nxB_prog x.cps) hsz (by decide +kernel) (subJoin (nxB_prog x.cps) (by decide +kernel) hsz) I h
theorem dot_call {x : Str} {t tr : Tok} {Q : Value → Shared → Prop} (p36 : PatF f 36 C1 0) (hsz : x.cps.size < 2 ^ 10) (I : Inv σ f P s) (h : ∀ s' t', Inv σ f P s' → Q (.str (dotF x) t') s') :
    wpAny (model prog w) A (call (.builtin "re.Pattern.sub") [.ref 36, .str (Str.ofString "..") tr, .str x t]) Q E s :=
  subCall p36 (nxA_ok (by lia)) (nxA_prog x.cps) hsz (by decide +kernel) (subJoin (nxA_prog x.cps) (by decide +kernel) hsz) I h
theorem PatF.ty {a : Addr} {C : Array Nat} {n : Nat} (p : PatF f a C n) (I : Inv σ f P s) : s.TypeIs (.ref a) "re.Pattern" ∧ ∀ b, Value.ref a = .ref b → ∃ ob, s.heap.get? b = some ob ∧ ob.dict = none := by
  obtain ⟨o, vs, l, ls, h1, h2, h3, _⟩ := p
  exact ⟨⟨o, I.frz _ _ h1, h2⟩, fun b e => by cases e; exact ⟨o, I.frz _ _ h1, h3⟩⟩
theorem fix_eols_ct {x : Str} {t : Tok} {Q : Value → Shared → Prop} (R : Room A 3 50) (B : Base mg mb f) (p41 : PatF f 41 C2 0) (I : Inv σ f P s) (hsz : x.cps.size < 2 ^ 10)
    (hQ : ∀ s' t', Inv σ f P s' → Q (.str (fixF x) t') s') : wpAny (model prog w) A (call (.ref 55) [.str x t]) Q E s := by
  obtain ⟨pm, cd, doc, fn⟩ := B.f6
  obtain ⟨tc, hcr⟩ := B.nm.crlf
  refine enter (d := 2) (u := 47) (binds := [(Str.ofString "data", .str x t)]) R I B.lim fn rfl (locs rfl) ?_
  intro L s I R
  refine wpAny_execs_cons <| wpAny_Return_some <| meth2 plainAttrs_re slot_re_sub type_re_sub <| gl I B.G B.nm.re2 ⟨(p41.ty I).1, (p41.ty I).2, ?_⟩
  exact gl I B.G hcr <| ldN I rfl <| fix_call p41 hsz I fun s' t' I => hQ _ _ I.drop
theorem quotedata_ct {x : Str} {t : Tok} {Q : Value → Shared → Prop} (R : Room A 3 50) (B : Base mg mb f) (p36 : PatF f 36 C1 0) (p41 : PatF f 41 C2 0) (I : Inv σ f P s) (hsz : x.cps.size < 2 ^ 10) (hsz2 : (fixF x).cps.size < 2 ^ 10)
    (hQ : ∀ s' t', Inv σ f P s' → Q (.str (dotF (fixF x)) t') s') : wpAny (model prog w) A (call (.ref 48) [.str x t]) Q E s := by
  obtain ⟨pm, cd, doc, fn⟩ := B.f5
  obtain ⟨tc, hcr⟩ := B.nm.crlf
  refine enter (d := 2) (u := 47) (binds := [(Str.ofString "data", .str x t)]) R I B.lim fn rfl (locs rfl) ?_
  intro L s I R
  refine wpAny_execs_cons <| wpAny_Return_some <| meth2 plainAttrs_re slot_re_sub type_re_sub <| gl I B.G B.nm.re1 ⟨(p36.ty I).1, (p36.ty I).2, ?_⟩
  refine cStr I fun s t1 I => meth2 plainAttrs_re slot_re_sub type_re_sub <| gl I B.G B.nm.re2 ⟨(p41.ty I).1, (p41.ty I).2, ?_⟩
  exact gl I B.G hcr <| ldN I rfl <| fix_call p41 hsz I fun s' t' I => dot_call p36 hsz2 I fun s' t' I => hQ _ _ I.drop
end
end Mine
end
-- R28
noncomputable section
open PySem PySem.Calls PyProof.Rows PySem.W
set_option maxRecDepth 100000
set_option linter.unusedVariables false
namespace Mine
open PySem.Builtin
/-- the table of the special characters -/
def ScmF (f : FM) : Prop := ∃ o es ep, f 62 = some o ∧ o.cls = .type "dict" ∧ o.ExactDict ∧ o.data = .dict es ep ∧ (∀ prog w, KeysOf (knd := intKind prog w) es) ∧ (∀ prog w, findBy (intKind prog w).is es 97 = none) ∧ (∀ prog w, ∃ t, findBy (intKind prog w).is es 46 = some (.str (Str.ofString "\\.") t))
theorem ScmF.le {f g} (x : ScmF f) (l : FM.Le f g) : ScmF g := let ⟨o, es, ep, h, r⟩ := x; ⟨o, es, ep, l _ _ h, r⟩
theorem sub_KeyLookup : isSubtype (.type "KeyError") (.type "LookupError") = pure true := by rw [isSubtype_type]; kernel_rfl
section
variable {prog : Program} {w : World} {A : Around} {E : Value → Shared → Prop} {s : Shared} {σ : OsState} {f : FM} {P : List Cell}
theorem look97 {Q : Str.Mapped → Shared → Prop} (x : ScmF f) (hh : A.handled = none) (I : Inv σ f P s) (h : ∀ s', Inv σ f P s' → Q .keep s') : wpAny (model prog w) A (Str.tableLookup (.ref 62) 97) Q E s := by
  obtain ⟨o, es, ep, h1, h2, h3, h4, h5, h6, h7⟩ := x
  unfold Str.tableLookup
  have I : Inv σ f P { s with toks := s.toks + 1 } := I.to rfl rfl rfl
  refine wpAny_bind (wpAny_attempt (wpAny_bind (wpAny_mkInt ?_)))
  refine wpAny_getItem_missing_of (knd := intKind prog w) (k := 97) (f := findBy (intKind prog w).is es) rfl (by decide) hh ⟨o, es, ep, I.frz _ _ h1, h3, h4, h5 prog w, fun _ => rfl⟩ (h6 prog w) fun h' e he => ?_
  obtain ⟨ob, t, h1', h2', _⟩ := he.there
  refine wpAny_bind (wpAny_isInstance (T := "KeyError") ⟨ob, h1', h2'⟩ (b := true) sub_KeyLookup ?_)
  rw [if_pos rfl]
  exact wpAny_bind (wpAny_rule (wpAny_pure (h _ (I.grow he.keeps rfl rfl))))
theorem look46 {Q : Str.Mapped → Shared → Prop} (x : ScmF f) (I : Inv σ f P s) (h : ∀ s', Inv σ f P s' → Q (.text (Str.ofString "\\.")) s') : wpAny (model prog w) A (Str.tableLookup (.ref 62) 46) Q E s := by
  obtain ⟨o, es, ep, h1, h2, h3, h4, h5, h6, h7⟩ := x
  obtain ⟨t, h7⟩ := h7 prog w
  unfold Str.tableLookup
  have I : Inv σ f P { s with toks := s.toks + 1 } := I.to rfl rfl rfl
  refine wpAny_bind (wpAny_attempt (wpAny_bind (wpAny_mkInt ?_)))
  refine wpAny_getItem_of (knd := intKind prog w) (k := 46) (f := findBy (intKind prog w).is es) rfl ⟨o, es, ep, I.frz _ _ h1, h3, h4, h5 prog w, fun _ => rfl⟩ h7 ?_
  refine wpAny_bind (wpAny_of_eq (a := none) rfl ?_)
  dsimp only
  refine wpAny_bind (wpAny_of_eq (a := some (Str.ofString "\\.")) rfl ?_)
  exact wpAny_pure (h _ (I.to rfl rfl rfl))
theorem cps_a : (Str.ofString "a").cps = #[97] := by decide +kernel
theorem cps_dot : (Str.ofString ".").cps = #[46] := by decide +kernel
theorem transA {t : Tok} {Q : Value → Shared → Prop} (x : ScmF f) (hh : A.handled = none) (I : Inv σ f P s) (h : ∀ s' t', Inv σ f P s' → Q (.str (Str.ofString "a") t') s') : wpAny (model prog w) A (call (.builtin "str.translate") [.str (Str.ofString "a") t, .ref 62]) Q E s := by
  refine wpAny_call_entry PySem.F.slot_str_translate (typeIs_str _ _ _) PySem.F.entry_str_translate ?_ (PySem.F.args_str_translate_2 _ _)
  unfold Builtin.«str.translate»
  refine wpAny_bind (wpAny_of_eq (a := (Value.str (Str.ofString "a") t, Str.ofString "a", Value.ref 62)) rfl ?_)
  dsimp only
  rw [if_neg (by decide +kernel), cps_a, show (#[97].all fun x => decide (x < 128)) = true from by decide +kernel]
  simp only [List.forIn_toArray, List.forIn_cons, List.forIn_nil]
  refine wpAny_bind (wpAny_bind ?_)
  rw [if_neg (by decide), if_pos trivial]
  simp only [List.lookup]
  refine wpAny_bind (look97 x (by exact hh) I fun s I => ?_)
  dsimp only
  refine wpAny_bind (wpAny_pure ?_)
  dsimp only
  refine wpAny_pure (wpAny_pure ?_)
  dsimp only
  rw [if_neg (by decide)]
  unfold retStr
  rw [show (⟨List.foldl (fun acc p => acc ++ p.cps) #[] [({ cps := #[97] } : Str)].reverse⟩ : Str) = Str.ofString "a" from by decide +kernel]
  exact wpAny_bind (wpAny_mkStr (wpAny_pure ⟨_, rfl, h _ _ (I.to rfl rfl rfl)⟩) (by decide +kernel))
theorem transDot {t : Tok} {Q : Value → Shared → Prop} (x : ScmF f) (I : Inv σ f P s) (h : ∀ s' t', Inv σ f P s' → Q (.str (Str.ofString "\\.") t') s') : wpAny (model prog w) A (call (.builtin "str.translate") [.str (Str.ofString ".") t, .ref 62]) Q E s := by
  refine wpAny_call_entry PySem.F.slot_str_translate (typeIs_str _ _ _) PySem.F.entry_str_translate ?_ (PySem.F.args_str_translate_2 _ _)
  unfold Builtin.«str.translate»
  refine wpAny_bind (wpAny_of_eq (a := (Value.str (Str.ofString ".") t, Str.ofString ".", Value.ref 62)) rfl ?_)
  dsimp only
  rw [if_neg (by decide +kernel), cps_dot, show (#[46].all fun x => decide (x < 128)) = true from by decide +kernel]
  simp only [List.forIn_toArray, List.forIn_cons, List.forIn_nil]
  refine wpAny_bind (wpAny_bind ?_)
  rw [if_neg (by decide), if_pos trivial]
  simp only [List.lookup]
  refine wpAny_bind (look46 x I fun s I => ?_)
  dsimp only
  rw [if_neg (by decide +kernel)]
  refine wpAny_bind (wpAny_pure ?_)
  dsimp only
  refine wpAny_bind (wpAny_rule ?_)
  refine wpAny_bind (look46 x I fun s I => ?_)
  dsimp only
  refine wpAny_pure (wpAny_pure ?_)
  dsimp only
  rw [if_neg (by decide +kernel)]
  unfold retStr
  rw [show (⟨List.foldl (fun acc p => acc ++ p.cps) #[] [Str.ofString "\\."].reverse⟩ : Str) = Str.ofString "\\." from by decide +kernel]
  exact wpAny_bind (wpAny_mkStr (wpAny_pure ⟨_, rfl, h _ _ (I.to rfl rfl rfl)⟩) (by decide +kernel))
end
end Mine
end
-- D12
noncomputable section
open PySem PySem.Calls PyProof.Rows PySem.W
set_option maxRecDepth 100000
set_option linter.unusedVariables false
namespace Mine
section
variable {prog : Program} {w : World} {A : Around} {E : Value → Shared → Prop} {s : Shared} {σ : OsState} {f : FM} {P : List Cell} {mg mb : Str → Option Value}
theorem escape_ct {k : Int} {c : Str} {t : Tok} {Q : Value → Shared → Prop} (R : Room A 3 50) (B : Base mg mb f) (x62 : ScmF f) (I : Inv σ f P s) (hc : (k = 3 ∧ c = Str.ofString ".") ∨ (k = 4 ∧ c = Str.ofString "a"))
    (hQ : ∀ s' v, Inv σ f P s' → APc v (menuP k) → Q v s') : wpAny (model prog w) A (call (.ref 72) [.str c t]) Q E s := by
  obtain ⟨pm, cd, doc, fn⟩ := B.f10
  refine enter (d := 2) (u := 47) (binds := [(Str.ofString "pattern", .str c t)]) R I B.lim fn rfl (locs rfl) ?_
  intro L s I R
  refine wpAny_execs_cons <| wpAny_If <| wpAny_isTrue_value <| wpAny_Call_NameR <| bi I B.G B.nm.isinstance0 B.B B.nm.isinstance <| PyProof.Rows.callWith_builtin1 <| wpAny_items_cons <| ldN I rfl <| wpAny_items_cons <| bi I B.G B.nm.str0 B.B B.nm.str <| wpAny_items_nil <| IsiPair.str_str <| wpAny_truthy_bool ?_
  rw [if_pos rfl]
  refine wpAny_execs_cons <| wpAny_Return_some <| meth1 F.plainAttrs_str F.slot_str_translate F.type_str_translate <| ldN I rfl ⟨typeIs_str _ _ _, strNo, gl I B.G B.nm.scm ?_⟩
  rcases hc with ⟨rfl, rfl⟩ | ⟨rfl, rfl⟩
  · exact transDot x62 I fun s t I => hQ _ _ I.drop ⟨t, rfl⟩
  · exact transA x62 R.hand I fun s t I => hQ _ _ I.drop ⟨t, rfl⟩
end
end Mine
end
-- R29
noncomputable section
open PySem PySem.Calls PyProof.Rows PySem.W
set_option maxRecDepth 100000
set_option linter.unusedVariables false
namespace Mine
open PySem.Builtin.Re
section
variable {prog : Program} {w : World} {A : Around} {E : Value → Shared → Prop} {s : Shared} {σ : OsState} {f : FM} {P : List Cell} {env : Env} {mg : Str → Option Value}
theorem bbFor {Q : Addr → Shared → Prop} {M : Model} (bb : BbF f mg) (G : NsF f env.globals mg) (I : Inv σ f P s) (h : Q builtinsNs s) : wpAny M A (builtinsFor env.globals env.builtins) Q E s := by
  obtain ⟨bm, ob, b1, b2, b3, b4, b5, b6⟩ := id bb
  exact wpAny_builtinsFor (G.ns I) b1 b2 (I.frz _ _ b3) b4 b5 b6 h
theorem mkLambda {args : Arguments} {body : Expr} {scope : Scope} {pos : Pos} {c Pt : Addr} {base : Array Value} {Q : Value → Shared → Prop} (hd : defaultsOf args env = ([], [])) (hkw : args.kwonlyargs = []) (hclos : closureFor scope env = pure [])
    (hc : env.code = .ref c) (cc : CodeC f c Pt) (bb : BbF f mg) (G : NsF f env.globals mg) (I : Inv σ f ((Pt, TabO base) :: P) s)
    (h : ∀ fn s', Inv σ f ((Pt, TabO base) :: P) s' → s'.TypeIs (.ref fn) "function" → Q (.ref fn) s') : wpAny (model prog w) A (eval (.Lambda args body scope pos) env) Q E s := by
  rw [arm_eval_Lambda, hd]
  dsimp only
  refine wpAny_bind (wpAny_evalAll_nil ?_)
  refine wpAny_bind (wpAny_holding (wpAny_pure ?_))
  unfold makeFunction
  rw [hkw, hclos]
  simp only [List.zip_nil_left, List.filterMap_nil, List.isEmpty_nil, if_true]
  refine wpAny_bind (wpAny_pure (wpAny_bind (wpAny_pure (wpAny_bind (wpAny_pure (wpAny_bind (wpAny_pure (wpAny_bind (wpAny_pure ?_)))))))))
  refine wpAny_bind ?_
  unfold functionCode
  refine codeAtI hc cc I (fun ctx Q' h' => ?_) fun code s I => ?_
  · refine wpAny_newCode fun c' P' hp tk hk _ _ _ _ => h' c' _ (I.grow hk rfl rfl) ?_
    obtain ⟨op, hop, _⟩ := I.at
    rw [hop]; exact hk _ _ hop
  refine wpAny_bind (bbFor bb G I ?_)
  refine wpAny_bind (wpAny_nsGet (G.ns I) ?_)
  refine wpAny_bind (wpAny_pure ?_)
  refine wpAny_newObj_type (h _ _ ?_ ⟨_, Heap.get?_push_size _ rfl, rfl⟩) (by trivial)
  exact I.grow (fun b o e => Heap.get?_push_of_some _ e) rfl rfl
theorem fun_call : typeLookup (.type "function") "__call__" = pure (some (.builtin "function.__call__")) := by rw [typeLookup_type, builtinLookup_eq_fast]; kernel_rfl
theorem sub_str_bytearray : isSubtype (.type "str") (.type "bytearray") = pure false := by rw [isSubtype_type]; kernel_rfl
/-- a substitution by a function where nothing is found -/
theorem subNone {a fn : Addr} {C : Array Nat} {groups : Nat} {x : Str} {t : Tok} {nx : Nat → Option (Nat × Nat)} {Q : Value → Shared → Prop} (p : PatF f a C groups) (ok : NxOk C x.cps groups nx) (hsz : x.cps.size < 2 ^ 10) (hne : 0 < x.cps.size)
    (hnx : nx 0 = none) (hfn : s.TypeIs (.ref fn) "function") (I : Inv σ f P s) (h : ∀ s' t', Inv σ f P s' → Q (.str x t') s') :
    wpAny (model prog w) A (call (.builtin "re.Pattern.sub") [.ref a, .ref fn, .str x t]) Q E s := by
  obtain ⟨o, vs, l, ls, h1, h2, h3, h4, h5, h6, h7, h8, h9⟩ := id p
  refine wpAny_call (codeAny_call_builtin slot_re_sub.plain entry_re_sub (slot_re_sub.check _ _ _ _ _ _ _ _ ⟨o, I.frz _ _ h1, h2⟩ (args_re_sub _ _ _) ?_))
  unfold Builtin.«re.Pattern.sub» reSubstitute
  dsimp only
  refine wpAny_bind (wpAny_of_eq (a := [some (Value.ref fn), some (Value.str x t), none]) (by rfl) ?_)
  dsimp only
  refine wpAny_bind (wpAny_pure ?_)
  refine wpAny_bind (wpAny_specialOf hfn fun_call ?_)
  rw [if_pos (by rfl)]
  refine wpAny_bind (wpAny_pure ?_)
  rw [if_pos (by rfl)]
  refine wpAny_bind (wpAny_pure ?_)
  refine wpAny_bind (wpAny_holding (wholeTarget_ p I ?_))
  rw [if_pos (show (((1 : Int) == 1) = true) by decide)]
  refine wpAny_bind (m := reNotHeld "re.Pattern.sub" (Value.str x t)) ?_
  unfold reNotHeld
  refine wpAny_bind (wpAny_isInstance (typeIs_str _ _ _) (b := false) sub_str_bytearray ?_)
  simp only [Bool.false_eq_true, if_false]
  refine wpAny_pure ?_
  refine wpAny_bind (wpAny_newList ?_)
  have J := I.push (q := ListO []) (o := { cls := .type "list", data := .seq #[] }) (s' := { s with heap := s.heap.push { cls := .type "list", data := .seq #[] } }) rfl ⟨0, rfl⟩ rfl rfl rfl
  refine wpAny_pure ⟨plainId_quiet plain_subloop _, ?_⟩
  have ex : x.cps.extract 0 x.cps.size = x.cps := by simp
  have hW : (([] : List (Str × Tok)).map (·.1) ++ (if 0 < x.cps.size then [(⟨x.cps.extract 0 x.cps.size⟩ : Str)] else [])) = [x] := by rw [if_pos hne, ex]; rfl
  refine subLoop_end (repl := x) (tr := t) (way := 1) (d := 0) (cnt := 0) (vs := []) p ok hsz (.inr (by decide)) hnx (by simp) ?_ J fun s' t' I => ?_
  · rw [hW]
    unfold JoinOk
    have hB : ∀ y ∈ [x], y.length ≤ 1024 := fun y hy => by rw [List.mem_singleton.mp hy]; show x.cps.size ≤ 1024; lia
    rw [StrLaws.joinFits hB (by show 1 * 1024 + 1 * 0 ≤ _; lia)]
    rfl
  · rw [hW]
    exact h s' t' I
end
end Mine
end
-- R30
noncomputable section
open PySem PySem.Calls PyProof.Rows PySem.W
set_option maxRecDepth 100000
set_option linter.unusedVariables false
namespace Mine
theorem pickStr (x : Str) (lo hi : Option Nat) (hlo : lo.getD 0 ≤ x.cps.size) (hhi : hi.getD x.cps.size ≤ x.cps.size) :
    (Builtin.Str.strSliceIndices (lo.map Int.ofNat) (hi.map Int.ofNat) 1 x.length).filterMap (x.cps[·]?) = (x.cps.toList.drop (lo.getD 0)).take (hi.getD x.cps.size - lo.getD 0) := by
  have hl : x.length = x.cps.size := rfl
  have key : Builtin.Str.strSliceIndices (lo.map Int.ofNat) (hi.map Int.ofNat) 1 x.length = (List.range (hi.getD x.cps.size - lo.getD 0)).map (lo.getD 0 + ·) := by
    unfold Builtin.Str.strSliceIndices
    rw [hl, ← sliceRange_one]
    simp only [show (1 : Int) > 0 by decide, if_true]
    congr 1
    · cases lo with
      | none => rfl
      | some n =>
        simp only [Option.map_some, Option.getD_some] at hlo ⊢
        show max 0 (min (if (n : Int) < 0 then (n : Int) + (x.cps.size : Int) else (n : Int)) (x.cps.size : Int)) = (n : Int)
        rw [if_neg (by lia)]; lia
    · cases hi with
      | none => rfl
      | some n =>
        simp only [Option.map_some, Option.getD_some] at hhi ⊢
        show max 0 (min (if (n : Int) < 0 then (n : Int) + (x.cps.size : Int) else (n : Int)) (x.cps.size : Int)) = (n : Int)
        rw [if_neg (by lia)]; lia
  rw [key]
  exact pick_run x.cps _ _
theorem pickStr_len (x : Str) (lo hi : Option Nat) (hlo : lo.getD 0 ≤ x.cps.size) (hhi : hi.getD x.cps.size ≤ x.cps.size) (h : (Builtin.Str.strSliceIndices (lo.map Int.ofNat) (hi.map Int.ofNat) 1 x.length).length = x.length) :
    x.cps.toList = (x.cps.toList.drop (lo.getD 0)).take (hi.getD x.cps.size - lo.getD 0) := by
  have hl : x.length = x.cps.size := rfl
  have key : (Builtin.Str.strSliceIndices (lo.map Int.ofNat) (hi.map Int.ofNat) 1 x.length).length = hi.getD x.cps.size - lo.getD 0 := by
    unfold Builtin.Str.strSliceIndices
    have e1 : ∀ (a b : Nat), (sliceRange (a : Int) (b : Int) 1).length = b - a := fun a b => by rw [sliceRange_one]; simp
    rw [hl, ← e1]
    simp only [show (1 : Int) > 0 by decide, if_true]
    congr 2
    · cases lo with
      | none => rfl
      | some n =>
        simp only [Option.map_some, Option.getD_some] at hlo ⊢
        show max 0 (min (if (n : Int) < 0 then (n : Int) + (x.cps.size : Int) else (n : Int)) (x.cps.size : Int)) = (n : Int)
        rw [if_neg (by lia)]; lia
    · cases hi with
      | none => rfl
      | some n =>
        simp only [Option.map_some, Option.getD_some] at hhi ⊢
        show max 0 (min (if (n : Int) < 0 then (n : Int) + (x.cps.size : Int) else (n : Int)) (x.cps.size : Int)) = (n : Int)
        rw [if_neg (by lia)]; lia
  rw [key, hl] at h
  by_cases h0 : x.cps.size = 0
  · have : x.cps.toList = [] := by rw [← List.length_eq_zero_iff]; simpa using h0
    rw [this]; simp
  · have h1 : lo.getD 0 = 0 := by lia
    rw [h1, List.drop_zero, List.take_of_length_le (by simp; lia)]
section
variable {prog : Program} {w : World} {A : Around} {E : Value → Shared → Prop} {s : Shared} {σ : OsState} {f : FM} {P : List Cell} {env : Env}
/-- a slice of a text -/
theorem sliceS {value : Expr} {lower upper : Option Expr} {p pos : Pos} {Q : Value → Shared → Prop}
    (h : wpAny (model prog w) A (eval value env) (fun o s₁ => wpAny (model prog w) A (evalPart lower env) (fun vl s₂ => wpAny (model prog w) A (evalPart upper env) (fun vu s₃ =>
      ∃ (x : Str) (t : Tok) (l u : Option (Nat × Tok)) (σ : OsState) (f : FM) (P : List Cell), o = .str x t ∧ vl = partValue (l.map fun p => ((p.1 : Int), p.2)) ∧ vu = partValue (u.map fun p => ((p.1 : Int), p.2)) ∧ (l.map (·.1)).getD 0 ≤ x.cps.size ∧ (u.map (·.1)).getD x.cps.size ≤ x.cps.size ∧ x.cps.size < 2 ^ 20 ∧
        Inv σ f P s₃ ∧ ∀ s' t' y, Inv σ f P s' → y.cps.toList = (x.cps.toList.drop ((l.map (·.1)).getD 0)).take ((u.map (·.1)).getD x.cps.size - (l.map (·.1)).getD 0) → Q (.str y t') s') E s₂) E s₁) E s)
    (ht : ∀ o r, letTemporaryGo value o r = pure () := by intro _ _; rfl) :
    wpAny (model prog w) A (eval (.Subscript value (.Slice lower upper none p) pos) env) Q E s := by
  refine wpAny_Subscript_str_slice (wpAny_mono h (fun o s₁ h₁ => wpAny_mono h₁ (fun vl s₂ h₂ => wpAny_mono h₂ (fun vu s₃ h₃ => ?_) fun _ _ e => e) fun _ _ e => e) fun _ _ e => e) ht
  obtain ⟨x, t, l, u, σ, f, P, rfl, rfl, rfl, h1, h2, h3, I, hQ⟩ := h₃
  refine ⟨x, t, _, _, rfl, rfl, rfl, ?_⟩
  have I : Inv σ f P { s₃ with heap := s₃.heap.push { cls := .type "slice", data := .fields #[partValue (l.map fun p => ((p.1 : Int), p.2)), partValue (u.map fun p => ((p.1 : Int), p.2)), .none] } } :=
    I.grow (fun b o e => Heap.get?_push_of_some _ e) rfl rfl
  have hp : slicePicked x (l.map fun p => ((p.1 : Int), p.2)) (u.map fun p => ((p.1 : Int), p.2)) none = Builtin.Str.strSliceIndices ((l.map (·.1)).map Int.ofNat) ((u.map (·.1)).map Int.ofNat) 1 x.length := by
    unfold slicePicked
    cases l <;> cases u <;> rfl
  unfold sliceMade
  rw [hp]
  by_cases hc : (((none : Option (Int × Tok)).map (·.1)).getD 1 == 1 && (Builtin.Str.strSliceIndices ((l.map (·.1)).map Int.ofNat) ((u.map (·.1)).map Int.ofNat) 1 x.length).length == x.length) = true
  · rw [if_pos hc]
    refine hQ _ t x I (pickStr_len x _ _ h1 h2 ?_)
    simpa using hc
  · rw [if_neg hc]
    have hpick := pickStr x (l.map (·.1)) (u.map (·.1)) h1 h2
    rw [hpick]
    refine ⟨?_, hQ _ _ ⟨_⟩ (I.to rfl rfl rfl) (by simp)⟩
    show (List.toArray _).size ≤ sizeLine
    rw [sizeLine_eq, List.size_toArray, List.length_take, List.length_drop, Array.length_toList]
    lia
theorem subS {value slice : Expr} {x : Str} {t : Tok} {k : Nat} {u : Tok} {c : Nat} {Q : Value → Shared → Prop} (I : Inv σ f P s) (hk : x.cps[k]? = some c) (hf : k < 2 ^ 60) (h : ∀ s' t', Inv σ f P s' → Q (.str ⟨#[c]⟩ t') s')
    (hs : subscripted slice false (.str x t) (.int k u) = operate [.str x t, .int k u] (getItem (.str x t) (.int k u)) := by with_unfolding_all rfl) : wpAny (model prog w) A (subscriptTail value slice (.str x t) (.int (k : Int) u)) Q E s := by
  have hlt : k < x.cps.size := (Array.getElem?_eq_some_iff.mp hk).1
  refine tail_any (typeIs_str _ _ _) PySem.F.slot_str_getitem.lookup (PyProof.Rows.getItem_str (c := c) ?_ ?_ (h _ _ (I.to rfl rfl rfl))) hs
  · simp; lia
  · have : seqIndex? (k : Int) x.length = some k := by
      unfold seqIndex?
      have ej : (if (k : Int) < 0 then (k : Int) + (x.length : Int) else (k : Int)) = (k : Int) := if_neg (by lia)
      simp only [ej]
      rw [if_pos (by show (decide (0 ≤ (k : Int)) && decide ((k : Int) < (x.cps.size : Int))) = true; simp; lia)]
      simp
    rw [this]
    exact hk
theorem lenS {x : Str} {t : Tok} {Q : Value → Shared → Prop} (I : Inv σ f P s) (hsz : x.cps.size < 2 ^ 20) (h : ∀ s' t', Inv σ f P s' → Q (.int (x.cps.size : Nat) t') s') : wpAny (model prog w) A (call (.builtin "len") [.str x t]) Q E s :=
  PySem.P.len_str (by show ¬ ((x.cps.size : Int) ≥ 2 ^ 63); lia) (h _ _ (I.to rfl rfl rfl))
theorem replNo {x y z : Str} {t u v : Tok} {Q : Value → Shared → Prop} (hno : (Builtin.Str.occurrences x y 0 x.length (x.length + 1)).isEmpty = true) (h : Q (.str x t) s) : wpAny (model prog w) A (call (.builtin "str.replace") [.str x t, .str y u, .str z v]) Q E s := by
  have g := gives_str_replace x y z t u v (fun e => by rw [hno] at e; cases e)
  rw [if_pos (by rw [hno]; rfl)] at g
  exact call_gives F.slot_str_replace (typeIs_str _ _ _) F.entry_str_replace (F.args_str_replace_3 _ _ _) g h
end
end Mine
end
-- R31
noncomputable section
open PySem PySem.Calls PyProof.Rows PySem.W
set_option maxRecDepth 100000
set_option linter.unusedVariables false
namespace Mine
theorem cps_ab : (Str.ofString "ab").cps = #[97, 98] := by decide +kernel
theorem nx3_ok : NxOk C3 (Str.ofString "ab").cps 1 (fun _ => none) := by
  rw [cps_ab]
  intro s
  refine ⟨50, by decide, ?_⟩
  by_cases h : s = 0
  · subst h; exact ⟨1, by decide, by show (iter 1 (Sre.forSearch C3 #[97, 98] 1 0 2 false)).outcome = some .failed; rfl⟩
  · by_cases h1 : s = 1
    · subst h1; exact ⟨1, by decide, by show (iter 1 (Sre.forSearch C3 #[97, 98] 1 1 2 false)).outcome = some .failed; rfl⟩
    · unfold Sre.forSearch
      rw [if_pos (by show (decide (s > 2) || decide (2 - s < 1)) = true; simp; lia)]
      exact Ends.step (end_ rfl rfl rfl) (Ends.now rfl)
section
variable {prog : Program} {w : World} {A : Around} {E : Value → Shared → Prop} {s : Shared} {σ : OsState} {f : FM} {P : List Cell} {env : Env}
theorem inHooks {tp : Addr} {t1 t2 t : Tok} {Q : Value → Shared → Prop} (I : Inv σ f ((tp, TupO [.str (Str.ofString "^") t1, .str (Str.ofString "[") t2]) :: P) s) (h : Q (.bool false) s) :
    wpAny (model prog w) A (compareOp .In (.str ⟨#[97]⟩ t) (.ref tp)) Q E s := by
  obtain ⟨o, ho, n, rfl⟩ := I.at
  refine SeqRoads2.in_tuple (fun _ => false) (fun y hy => ?_) ho (by simpa using h)
  have e1 : ((Str.ofString "^").cps.toList == (⟨#[97]⟩ : Str).cps.toList) = false := by decide +kernel
  have e2 : ((Str.ofString "[").cps.toList == (⟨#[97]⟩ : Str).cps.toList) = false := by decide +kernel
  simp only [List.mem_toArray, List.mem_cons, List.not_mem_nil, or_false] at hy
  rcases hy with rfl | rfl
  · rw [← e1]; exact SeqRoads2.EqGives.str _ _ _ _
  · rw [← e2]; exact SeqRoads2.EqGives.str _ _ _ _
theorem truS {x : Str} {t : Tok} {Q : Bool → Shared → Prop} (I : Inv σ f P s) (hfit : ¬ (x.length : Int) ≥ 2 ^ 63) (h : ∀ s', Inv σ f P s' → Q ((x.length : Int) != 0) s') : wpAny (model prog w) A (truthy (.str x t)) Q E s :=
  PySem.P.truthy_str hfit (h _ (I.to rfl rfl rfl))
end
end Mine
end
-- D13
noncomputable section
open PySem PySem.Calls PyProof.Rows PySem.W
set_option maxRecDepth 100000
set_option linter.unusedVariables false
namespace Mine
def tc (k : Int) : List Nat := if k = 1 then [42] else if k = 2 then [63] else if k = 3 then [46] else if k = 4 then [97] else [91, 97, 98, 93]
def trStep (res : List (Option Str)) (k : Int) : List (Option Str) := if k = 1 then (if res = [] ∨ res.getLast? ≠ some none then res ++ [none] else res) else res ++ [menuP k]
def trF (row : List Int) : List (Option Str) := row.foldl trStep []
def off (row : List Int) (j : Nat) : Nat := ((row.take j).flatMap tc).length
section
variable {prog : Program} {w : World} {A : Around} {E : Value → Shared → Prop} {s : Shared} {σ : OsState} {f : FM} {P : List Cell} {mg mb : Str → Option Value}
/-- the facts about the frame in the loop -/
structure TrM (m : Str → Option Value) (x : Str) (t t2 : Tok) (r b : Addr) (i n : Nat) : Prop where
  pat : m (Str.ofString "pat") = some (.str x t)
  star : m (Str.ofString "STAR") = some .none
  qm : m (Str.ofString "QUESTION_MARK") = some (.str (Str.ofString ".") t2)
  res : m (Str.ofString "res") = some (.ref r)
  add : m (Str.ofString "add") = some (.ref b)
  hi : ∃ u, m (Str.ofString "i") = some (.int (i : Nat) u)
  hn : ∃ u, m (Str.ofString "n") = some (.int (n : Nat) u)
set_option maxHeartbeats 8000000 in
theorem translate_ct {x : Str} {t t2 : Tok} {row : List Int} {base : Array Value} {Q : Value → Shared → Prop} (R : Room A 4 60) (B : Base mg mb f) (bb : BbF f mg) (F12 : FnC f 79 12 78 74) (x62 : ScmF f) (p60 : PatF f 60 C3 1)
    (I : Inv σ f ((74, TabO base) :: P) s) (hx : x.cps.toList = row.flatMap tc) (hok : RowOk row) (hsz : row.length < 2 ^ 7)
    (hQ : ∀ g s' r, FM.Le f g → Inv σ g ((74, TabO base) :: P) s' → APcs g r (trF row) → Q r s') :
    wpAny (model prog w) A (call (.ref 79) [.str x t, .none, .str (Str.ofString ".") t2]) Q E s := by
  obtain ⟨pm, doc, fn, cc⟩ := F12
  have htc : ∀ k, (tc k).length ≤ 4 := fun k => by unfold tc; repeat (first | split | decide)
  have hxs : x.cps.size < 2 ^ 10 := by
    have : ∀ l : List Int, (l.flatMap tc).length ≤ 4 * l.length := by
      intro l
      induction l with
      | nil => simp
      | cons k l ih => have := htc k; simp only [List.flatMap_cons, List.length_append, List.length_cons]; lia
    have h1 := this row
    rw [← hx, Array.length_toList] at h1
    lia
  refine enter (d := 3) (u := 57) (binds := [(Str.ofString "pat", .str x t), (Str.ofString "STAR", .none), (Str.ofString "QUESTION_MARK", .str (Str.ofString ".") t2)]) R I B.lim fn rfl (locs rfl) ?_
  intro L s I R
  -- res = []; add = res.append; i, n = 0, len(pat)
  refine asgN fun _ _ nx => mkList <| wpAny_items_nil ⟨by simp, _, _, _, I, fun r s I => nx _ _ <| stN' I.swap fun s I => ?_⟩
  refine asgN fun _ _ nx => Attribute_name <| ldN I rfl <| getAppend I.swap fun b s I => nx _ _ <| stN' I.p3 fun s I => ?_
  refine wpAny_execs_cons <| Assign_Tuple_swapped (names := [Str.ofString "i", Str.ofString "n"]) <| mkTup <| wpAny_items_cons <| cInt I fun s t0 I => wpAny_items_cons <| wpAny_Call_NameR <| bi I B.G B.nm.len0 B.B B.nm.len <| PyProof.Rows.callWith_builtin1 <|
    wpAny_items_cons <| ldN I rfl <| wpAny_items_nil <| lenS I (by lia) fun s tn I => wpAny_items_nil ⟨by simp, _, _, _, I, fun tp s I => ?_⟩
  refine wpAny_unpackItems_tuple (items := #[.int 0 t0, .int (x.cps.size : Nat) tn]) R.hand I.tup fun h' he => ?_
  have I := I.ext (s' := { s with heap := h' }) he (Nat.le_refl _) rfl rfl
  generalize ({ s with heap := h' } : Shared) = s at I ⊢
  have I := I.drop
  refine assignInOrder_cons (bindName_ (stN' I fun s I => ?_))
  refine assignInOrder_cons (bindName_ (stN' I fun s I => assignInOrder_nil ?_))
  have hoff : x.cps.size = off row row.length := by unfold off; rw [List.take_length, ← hx, Array.length_toList]
  refine wpAny_execs_cons (wpAny_While ?_)
  refine codeAny_whileLoop (fun k s => ∃ j g ws m, k = row.length - j ∧ j ≤ row.length ∧ FM.Le f g ∧ Inv σ g ((L, FrameO m) :: (r, ListO ws) :: (b, BmO r) :: (74, TabO base) :: P) s ∧ TrM m x t t2 r b (off row j) x.cps.size ∧ Al APc ws (trF (row.take j)) ∧ ws.length ≤ j) ?_ row.length ?_
  case refine_2 => exact ⟨0, f, [], _, rfl, Nat.zero_le _, FM.Le.refl f, Inv.sel [0, 2, 1] (by decide) (by repeat (first | exact Nat.zero_le _ | apply Nat.succ_le_succ)) I, ⟨rfl, rfl, rfl, rfl, rfl, ⟨_, rfl⟩, ⟨_, rfl⟩⟩, trivial, Nat.le_refl _⟩
  rintro k s ⟨j, g, ws, m, rfl, hj, l, I, M, hws, hwl⟩
  obtain ⟨ui, hi⟩ := M.hi
  obtain ⟨un, hn⟩ := M.hn
  have B := B.le l
  have bb := bb.le l
  have cc := cc.le l
  have x62 := x62.le l
  have p60 := p60.le l
  refine wpAny_isTrue_Compare1 (ldN I hi (ldN I hn (PySem.P.lt_int (wpAny_truthy_bool ?_))))
  by_cases hlt : j < row.length
  · have hk : row[j]? = some row[j] := by simp [hlt]
    generalize row[j] = k at hk
    have hk1 := hok k (List.mem_of_getElem? hk)
    have hsplit : row = row.take j ++ k :: row.drop (j + 1) := by
      obtain ⟨h1, h2⟩ := List.getElem?_eq_some_iff.mp hk
      rw [← h2]; simp
    have hat : ∀ d c, (tc k)[d]? = some c → x.cps[off row j + d]? = some c := by
      intro d c hc
      have e : row.flatMap tc = (row.take j).flatMap tc ++ (tc k ++ (row.drop (j + 1)).flatMap tc) := by
        conv => lhs; rw [hsplit]
        rw [List.flatMap_append, List.flatMap_cons]
      rw [← Array.getElem?_toList, hx, e]
      unfold off
      rw [List.getElem?_append_right (by lia), Nat.add_sub_cancel_left, List.getElem?_append_left (List.getElem?_eq_some_iff.mp hc).1]
      exact hc
    have hoff1 : off row (j + 1) = off row j + (tc k).length := by
      unfold off
      rw [List.take_add_one, hk, List.flatMap_append, List.length_append]
      simp
    have hoffle : off row (j + 1) ≤ x.cps.size := by
      rw [hoff]
      unfold off
      conv => rhs; rw [List.take_length]
      have : row = row.take (j + 1) ++ row.drop (j + 1) := (List.take_append_drop _ _).symm
      conv => rhs; rw [this]
      rw [List.flatMap_append, List.length_append]; lia
    have htr : trF (row.take (j + 1)) = trStep (trF (row.take j)) k := by
      unfold trF
      rw [List.take_add_one, hk]; simp
    have hpos : 0 < (tc k).length := by unfold tc; repeat (first | split | decide)
    rw [if_pos (by simp; lia)]
    refine absK fun K E' hK => ?_
    have hlt1 : row.length - (j + 1) < row.length - j := by lia
    have hle1 : j + 1 ≤ row.length := by lia
    generalize hprev : trF (row.take j) = prev at hws htr
    -- the end of a turn
    have addV : ∀ {m : Str → Option Value} {ws : List Value} {s : Shared} {e : Expr} {p1 p2 p3 : Pos} {QQ : Flow → Shared → Prop} {EE : Value → Shared → Prop}, Inv σ g ((L, FrameO m) :: (r, ListO ws) :: (b, BmO r) :: (74, TabO base) :: P) s → m (Str.ofString "add") = some (.ref b) → ws.length ≤ j → starEach [e] (envOf (defAt 12).name (defAt 12).scope L 79 (Value.ref 78)) = (false, eval e (envOf (defAt 12).name (defAt 12).scope L 79 (Value.ref 78))) :: starEach [] (envOf (defAt 12).name (defAt 12).scope L 79 (Value.ref 78)) →
        wpAny (model prog w) (A.deeper (envOf (defAt 12).name (defAt 12).scope L 79 (Value.ref 78))) (eval e (envOf (defAt 12).name (defAt 12).scope L 79 (Value.ref 78))) (fun v s => ∃ m', Inv σ g ((L, FrameO m') :: (r, ListO ws) :: (b, BmO r) :: (74, TabO base) :: P) s ∧ ∀ s', Inv σ g ((L, FrameO m') :: (r, ListO (ws ++ [v])) :: (b, BmO r) :: (74, TabO base) :: P) s' → QQ .next s') EE s →
        wpAny (model prog w) (A.deeper (envOf (defAt 12).name (defAt 12).scope L 79 (Value.ref 78))) (exec (.Expr (.Call (.Name (Str.ofString "add") p1) [e] [] p2) p3) (envOf (defAt 12).name (defAt 12).scope L 79 (Value.ref 78))) QQ EE s := by
      intro m ws s e p1 p2 p3 QQ EE I ha hl hst he
      refine wpAny_Expr <| wpAny_Call_NameR <| ldN I ha <| callBm (a := r) (by rw [hst]; rfl) ?_
      rw [hst]
      refine evalArgs_plain ?_
      show wpAny _ _ (spliced (backTo p2 ((false, eval e (envOf (defAt 12).name (defAt 12).scope L 79 (Value.ref 78))) :: starEach [] (envOf (defAt 12).name (defAt 12).scope L 79 (Value.ref 78))))) _ _ _
      rw [← hst]
      refine wpAny_items_cons (he := hst) <| wpAny_mono he (fun v s he => ?_) fun _ _ e => e
      obtain ⟨m', I, hQQ⟩ := he
      have J := I.swap
      have K : Inv σ g ((r, ListO ws) :: (b, BmO r) :: (L, FrameO m') :: (74, TabO base) :: P) s := Inv.sel [1, 2, 0] (by decide) (by repeat (first | exact Nat.zero_le _ | apply Nat.succ_le_succ)) I
      refine wpAny_items_nil ⟨K.swap.at, callAppend K (by lia) fun s I => hQQ s ?_⟩
      exact Inv.sel [2, 0, 1] (by decide) (by repeat (first | exact Nat.zero_le _ | apply Nat.succ_le_succ)) I
    -- c = pat[i]; i = i + 1
    obtain ⟨c0, hc0⟩ : ∃ c0, (tc k)[0]? = some c0 := ⟨(tc k)[0], by simp⟩
    have hat0 : x.cps[off row j]? = some c0 := by have := hat 0 c0 hc0; rwa [Nat.add_zero] at this
    have hoffsz : off row j < 2 ^ 60 := by lia
    refine asgN fun _ _ nx => Subscript_ <| ldN I M.pat <| ldN I hi <| subS I hat0 hoffsz fun s tcc I => nx _ _ <| stN' I fun s I => ?_
    refine asgN fun _ _ nx => wpAny_BinOp <| ldN I (by exact hi) <| cInt I fun s t1 I => opAdd I fun s ti I => nx _ _ <| stN' I fun s I => ?_
    have hk5 : k = 1 ∨ k = 2 ∨ (k = 3 ∨ k = 4) ∨ k = 5 := by
      rcases five hk1 with h | h | h | h | h
      · exact .inl h
      · exact .inr (.inl h)
      · exact .inr (.inr (.inl (.inl h)))
      · exact .inr (.inr (.inl (.inr h)))
      · exact .inr (.inr (.inr h))
    rcases hk5 with rfl | rfl | hk34 | rfl
    · -- '*'
      have hcc : c0 = 42 := by have : (tc 1)[0]? = some 42 := rfl; rw [this] at hc0; cases hc0; rfl
      subst hcc
      have hl1 : off row (j + 1) = off row j + 1 := hoff1
      refine wpAny_execs_cons <| wpAny_If <| wpAny_isTrue_Compare1 <| ldN I rfl <| cStr I fun s tq I => PyProof.Rows.eq_str <| wpAny_truthy_bool ?_
      rw [if_pos (by decide +kernel)]
      -- if not res or res[-1] is not STAR
      refine wpAny_execs_cons <| wpAny_If <| wpAny_mono (Q := fun ok s₁ => ok = decide (prev = [] ∨ prev.getLast? ≠ some none) ∧ ∃ m', Inv σ g ((L, FrameO m') :: (r, ListO ws) :: (b, BmO r) :: (74, TabO base) :: P) s₁ ∧ TrM m' x t t2 r b (off row (j + 1)) x.cps.size) ?_ (fun ok s₁ hs => ?_) fun _ _ e => e
      · have M' : TrM (fun y => if y = Str.ofString "i" then some (Value.int (↑(off row j) + 1) ti) else if y = Str.ofString "c" then some (Value.str { cps := #[42] } tcc) else m y) x t t2 r b (off row (j + 1)) x.cps.size := ⟨by exact M.pat, by exact M.star, by exact M.qm, by exact M.res, by exact M.add, ⟨ti, by rw [hl1]; rfl⟩, ⟨un, by exact hn⟩⟩
        refine wpAny_isTrue_BoolOp <| wpAny_allTrue_Or_cons <| wpAny_isTrue_Not <| wpAny_isTrue_value <| ldN I (by exact M.res) <| truL I I.swap.list (by lia) fun s I => ?_
        rcases List.eq_nil_or_concat ws with rfl | ⟨ws0, lv, rfl⟩
        · have hp : prev = [] := by cases prev with
            | nil => rfl
            | cons _ _ => exact hws.elim
          rw [if_pos (by rfl)]
          exact ⟨by simp [hp], _, I, M'⟩
        · rw [if_neg (by simp)]
          obtain ⟨p, hp1, hp2⟩ := hws.get ws0.length lv (by simp)
          have hpl : prev.length = ws0.length + 1 := by rw [← hws.len]; simp
          have hlast : prev.getLast? = some p := by rw [List.getLast?_eq_getElem?, hpl]; exact hp1
          have hne : prev ≠ [] := fun e => by rw [e] at hpl; simp at hpl
          have hcond : decide (prev = [] ∨ prev.getLast? ≠ some none) = (p != none) := by
            rw [hlast]
            cases p with
            | none => simp [hne]
            | some y => simp
          rw [hcond]
          refine wpAny_allTrue_Or_cons <| wpAny_isTrue_Compare1 <| Subscript_ <| ldN I (by exact M.res) <| wpAny_UnaryOp <| cInt I fun s t1 I => opNeg I fun s t1 I => ?_
          refine subLneg (x := lv) I.swap.list (by decide) (by simp; lia) (by decide) ?_ ?_
          · rw [List.concat_eq_append]
            have e : ((-1 : Int) + ((ws0 ++ [lv]).length : Nat)).toNat = ws0.length := by simp; lia
            rw [e]; simp
          · refine ldN I (by exact M.star) <| isNot_none <| wpAny_truthy_bool ?_
            rw [hp2.isNone]
            by_cases hpn : (p != none) = true
            · rw [hpn, if_pos rfl]; exact ⟨rfl, _, I, M'⟩
            · rw [Bool.not_eq_true] at hpn
              rw [hpn, if_neg Bool.false_ne_true]
              exact wpAny_allTrue_Or_nil ⟨rfl, _, I, M'⟩
      · obtain ⟨rfl, m', I, M'⟩ := hs
        by_cases hcd : prev = [] ∨ prev.getLast? ≠ some none
        · rw [if_pos (by simpa using hcd)]
          refine wpAny_execs_cons (addV I M'.add hwl rfl ?_)
          refine ldN I M'.star ⟨_, I, fun s I => ?_⟩
          refine wpAny_execs_nil <| wpAny_execs_nil <| wpAny_execs_nil ?_
          refine hK _ _ ⟨row.length - (j + 1), hlt1, j + 1, g, ws ++ [.none], _, rfl, hle1, l, I, M', ?_, by simp; lia⟩
          rw [htr, trStep, if_pos rfl, if_pos hcd]
          exact hws.app (Al.one rfl)
        · rw [if_neg (by simpa using hcd)]
          refine wpAny_execs_nil <| wpAny_execs_nil <| wpAny_execs_nil ?_
          refine hK _ _ ⟨row.length - (j + 1), hlt1, j + 1, g, ws, _, rfl, hle1, l, I, M', ?_, by lia⟩
          rw [htr, trStep, if_pos rfl, if_neg hcd]
          exact hws
    · -- '?'
      have hcc : c0 = 63 := by have : (tc 2)[0]? = some 63 := rfl; rw [this] at hc0; cases hc0; rfl
      subst hcc
      have hl1 : off row (j + 1) = off row j + 1 := hoff1
      refine wpAny_execs_cons <| wpAny_If <| wpAny_isTrue_Compare1 <| ldN I rfl <| cStr I fun s tq I => PyProof.Rows.eq_str <| wpAny_truthy_bool ?_
      rw [if_neg (by decide +kernel)]
      refine wpAny_execs_cons <| wpAny_If <| wpAny_isTrue_Compare1 <| ldN I rfl <| cStr I fun s tq I => PyProof.Rows.eq_str <| wpAny_truthy_bool ?_
      rw [if_pos (by decide +kernel)]
      refine wpAny_execs_cons <| addV I (by exact M.add) hwl rfl ?_
      refine ldN I (by exact M.qm) ⟨_, I, fun s I => ?_⟩
      refine wpAny_execs_nil <| wpAny_execs_nil <| wpAny_execs_nil ?_
      refine hK _ _ ⟨row.length - (j + 1), hlt1, j + 1, g, ws ++ [.str (Str.ofString ".") t2], _, rfl, hle1, l, I, ⟨by exact M.pat, by exact M.star, by exact M.qm, by exact M.res, by exact M.add, ⟨ti, by rw [hl1]; rfl⟩, ⟨un, by exact hn⟩⟩, ?_, by simp; lia⟩
      rw [htr]
      exact hws.app (Al.one ⟨t2, rfl⟩)
    · -- '.', 'a'
      obtain ⟨cc0, hcc1, hne1, hne2, hne3, hl1, hcs⟩ : ∃ cs : Str, (⟨#[c0]⟩ : Str) = cs ∧ (cs == Str.ofString "*") = false ∧ (cs == Str.ofString "?") = false ∧ (cs == Str.ofString "[") = false ∧ off row (j + 1) = off row j + 1 ∧ ((k = 3 ∧ cs = Str.ofString ".") ∨ (k = 4 ∧ cs = Str.ofString "a")) := by
        rcases hk34 with rfl | rfl
        · have hcc : c0 = 46 := by have : (tc 3)[0]? = some 46 := rfl; rw [this] at hc0; cases hc0; rfl
          subst hcc
          exact ⟨_, rfl, by decide +kernel, by decide +kernel, by decide +kernel, hoff1, .inl ⟨rfl, by decide +kernel⟩⟩
        · have hcc : c0 = 97 := by have : (tc 4)[0]? = some 97 := rfl; rw [this] at hc0; cases hc0; rfl
          subst hcc
          exact ⟨_, rfl, by decide +kernel, by decide +kernel, by decide +kernel, hoff1, .inr ⟨rfl, by decide +kernel⟩⟩
      rw [hcc1] at I
      refine wpAny_execs_cons <| wpAny_If <| wpAny_isTrue_Compare1 <| ldN I rfl <| cStr I fun s tq I => PyProof.Rows.eq_str <| wpAny_truthy_bool ?_
      rw [hne1, if_neg Bool.false_ne_true]
      refine wpAny_execs_cons <| wpAny_If <| wpAny_isTrue_Compare1 <| ldN I rfl <| cStr I fun s tq I => PyProof.Rows.eq_str <| wpAny_truthy_bool ?_
      rw [hne2, if_neg Bool.false_ne_true]
      refine wpAny_execs_cons <| wpAny_If <| wpAny_isTrue_Compare1 <| ldN I rfl <| cStr I fun s tq I => PyProof.Rows.eq_str <| wpAny_truthy_bool ?_
      rw [hne3, if_neg Bool.false_ne_true]
      refine wpAny_execs_cons (addV I (by exact M.add) hwl rfl ?_)
      refine wpAny_Call_NameR <| gl I B.G B.nm.escape <| callF B.f10 <| wpAny_items_cons <| ldN I rfl <| wpAny_items_nil ⟨_, _, _, FM.Le.refl _, I, ?_⟩
      refine escape_ct (k := k) R.le B x62 I hcs fun s v I hv => ⟨_, I, fun s I => ?_⟩
      refine wpAny_execs_nil <| wpAny_execs_nil <| wpAny_execs_nil <| wpAny_execs_nil ?_
      refine hK _ _ ⟨row.length - (j + 1), hlt1, j + 1, g, ws ++ [v], _, rfl, hle1, l, I, ⟨by exact M.pat, by exact M.star, by exact M.qm, by exact M.res, by exact M.add, ⟨ti, by rw [hl1]; rfl⟩, ⟨un, by exact hn⟩⟩, ?_, by simp; lia⟩
      rw [htr, trStep, if_neg (by lia)]
      exact hws.app (Al.one hv)
    · -- '[ab]'
      have hcc : c0 = 91 := by have : (tc 5)[0]? = some 91 := rfl; rw [this] at hc0; cases hc0; rfl
      subst hcc
      have h1 : x.cps[off row j + 1]? = some 97 := hat 1 97 rfl
      have h2 : x.cps[off row j + 2]? = some 98 := hat 2 98 rfl
      have h3 : x.cps[off row j + 3]? = some 93 := hat 3 93 rfl
      have hl1 : off row (j + 1) = off row j + 4 := hoff1
      refine wpAny_execs_cons <| wpAny_If <| wpAny_isTrue_Compare1 <| ldN I rfl <| cStr I fun s tq I => PyProof.Rows.eq_str <| wpAny_truthy_bool ?_
      rw [if_neg (by decide +kernel)]
      refine wpAny_execs_cons <| wpAny_If <| wpAny_isTrue_Compare1 <| ldN I rfl <| cStr I fun s tq I => PyProof.Rows.eq_str <| wpAny_truthy_bool ?_
      rw [if_neg (by decide +kernel)]
      refine wpAny_execs_cons <| wpAny_If <| wpAny_isTrue_Compare1 <| ldN I rfl <| cStr I fun s tq I => PyProof.Rows.eq_str <| wpAny_truthy_bool ?_
      rw [if_pos (by decide +kernel)]
      refine absK fun K1 E1 hK1 => ?_
      -- j = i
      refine wpAny_execs_cons <| wpAny_Assign_Name <| ldN I rfl <| stN' I fun s I => ?_
      have e1 : ((off row j : Nat) : Int) + 1 = ((off row j + 1 : Nat) : Int) := by lia
      rw [e1] at I
      refine wpAny_execs_cons <| wpAny_If <| wpAny_isTrue_BoolOp <| wpAny_allTrue_And_cons <| wpAny_isTrue_Compare1 <| ldN I rfl <| ldN I (by exact hn) <| PySem.P.lt_int <| wpAny_truthy_bool ?_
      rw [if_pos (by simp; lia)]
      refine wpAny_allTrue_And_cons <| wpAny_isTrue_Compare1 <| Subscript_ <| ldN I (by exact M.pat) <| ldN I rfl <| subS I h1 (by lia) fun s tq I => cStr I fun s tq I => PyProof.Rows.eq_str <| wpAny_truthy_bool ?_
      rw [if_neg (by decide +kernel), if_neg (by decide)]
      refine wpAny_execs_nil ?_
      refine wpAny_execs_cons <| wpAny_If <| wpAny_isTrue_BoolOp <| wpAny_allTrue_And_cons <| wpAny_isTrue_Compare1 <| ldN I rfl <| ldN I (by exact hn) <| PySem.P.lt_int <| wpAny_truthy_bool ?_
      rw [if_pos (by simp; lia)]
      refine wpAny_allTrue_And_cons <| wpAny_isTrue_Compare1 <| Subscript_ <| ldN I (by exact M.pat) <| ldN I rfl <| subS I h1 (by lia) fun s tq I => cStr I fun s tq I => PyProof.Rows.eq_str <| wpAny_truthy_bool ?_
      rw [if_neg (by decide +kernel), if_neg (by decide)]
      refine wpAny_execs_nil ?_
      -- while j < n and pat[j] != ']'
      refine wpAny_execs_cons (wpAny_While ?_)
      refine codeAny_whileLoop (fun k s => ∃ d m', k = 2 - d ∧ d ≤ 2 ∧ Inv σ g ((L, FrameO m') :: (r, ListO ws) :: (b, BmO r) :: (74, TabO base) :: P) s ∧ TrM m' x t t2 r b (off row j + 1) x.cps.size ∧ ∃ u, m' (Str.ofString "j") = some (.int (off row j + 1 + d : Nat) u)) ?_ 2
        ⟨0, _, rfl, by lia, I, ⟨by exact M.pat, by exact M.star, by exact M.qm, by exact M.res, by exact M.add, ⟨ti, by rfl⟩, ⟨un, by exact hn⟩⟩, ⟨ti, by rfl⟩⟩
      rintro k s ⟨d, m', rfl, hd, I, M', uj, hj'⟩
      obtain ⟨ui', hi'⟩ := M'.hi
      obtain ⟨un', hn'⟩ := M'.hn
      refine wpAny_isTrue_BoolOp <| wpAny_allTrue_And_cons <| wpAny_isTrue_Compare1 <| ldN I hj' <| ldN I hn' <| PySem.P.lt_int <| wpAny_truthy_bool ?_
      rw [if_pos (by simp; lia)]
      obtain ⟨cd, hcd, hcd2⟩ : ∃ cd, x.cps[off row j + 1 + d]? = some cd ∧ (d < 2 → (cd = 97 ∨ cd = 98)) ∧ (d = 2 → cd = 93) := by
        have : d = 0 ∨ d = 1 ∨ d = 2 := by lia
        rcases this with rfl | rfl | rfl
        · exact ⟨97, h1, fun _ => .inl rfl, fun h => by lia⟩
        · exact ⟨98, h2, fun _ => .inr rfl, fun h => by lia⟩
        · exact ⟨93, h3, fun h => by lia, fun _ => rfl⟩
      refine wpAny_allTrue_And_cons <| wpAny_isTrue_Compare1 <| Subscript_ <| ldN I M'.pat <| ldN I hj' <| subS I hcd (by lia) fun s tq I => cStr I fun s tq I => PySem.P.ne_str <| wpAny_truthy_bool ?_
      by_cases hd2 : d < 2
      · have hne : ((⟨#[cd]⟩ : Str).cps.toList != (Str.ofString "]").cps.toList) = true := by
          rcases hcd2.1 hd2 with rfl | rfl <;> decide +kernel
        rw [hne, if_pos rfl]
        refine wpAny_allTrue_And_nil ?_
        rw [if_pos rfl]
        refine asgN fun _ _ nx => wpAny_BinOp <| ldN I hj' <| cInt I fun s tq I => opAdd I fun s tj I => nx _ _ <| stN' I fun s I => ?_
        refine wpAny_execs_nil ⟨2 - (d + 1), by lia, d + 1, _, rfl, by lia, I, ⟨by exact M'.pat, by exact M'.star, by exact M'.qm, by exact M'.res, by exact M'.add, ⟨ui', by exact hi'⟩, ⟨un', by exact hn'⟩⟩, ⟨tj, by rfl⟩⟩
      · have hde : d = 2 := by lia
        subst hde
        have hcd3 := hcd2.2 rfl
        subst hcd3
        rw [if_neg (by decide +kernel), if_neg (by decide)]
        refine wpAny_execs_nil ?_
        -- if j >= n
        refine wpAny_execs_cons <| wpAny_If <| wpAny_isTrue_Compare1 <| ldN I hj' <| ldN I hn' <| PySem.P.ge_int <| wpAny_truthy_bool ?_
        rw [if_neg (by simp; lia)]
        refine absK fun K2 E2 hK2 => ?_
        have hsz2 : x.cps.size < 2 ^ 20 := by lia
        refine asgN fun _ _ nx => sliceS <| ldN I M'.pat <| wpAny_evalPart_some <| ldN I hi' <| wpAny_evalPart_some <| ldN I hj' ⟨x, t, some (off row j + 1, ui'), some (off row j + 1 + 2, uj), σ, g, _, rfl, rfl, rfl, by simp; lia, by simp; lia, hsz2, I, fun s ty y I hy => nx _ _ <| stN' I fun s I => ?_⟩
        have hyab : y = Str.ofString "ab" := by
          have : y.cps.toList = [97, 98] := by
            have hy' : y.cps.toList = (x.cps.toList.drop (off row j + 1)).take (off row j + 1 + 2 - (off row j + 1)) := hy
            rw [hy', Nat.add_sub_cancel_left]
            apply List.ext_getElem?
            intro i
            rw [List.getElem?_take, List.getElem?_drop, Array.getElem?_toList]
            have : i = 0 ∨ i = 1 ∨ 2 ≤ i := by lia
            rcases this with rfl | rfl | h2i
            · rw [if_pos (by lia)]; exact h1
            · rw [if_pos (by lia)]; exact h2
            · rw [if_neg (by lia)]; exact (List.getElem?_eq_none (by simpa using h2i)).symm
          have h2 : y.cps = #[97, 98] := by rw [← Array.toList_inj]; exact this
          have h3 : (Str.ofString "ab").cps = #[97, 98] := cps_ab
          cases y
          exact congrArg Str.mk h2 |>.trans (by rw [← h3])
        subst hyab
        -- if '-' not in stuff: stuff = stuff.replace(...)
        refine wpAny_execs_cons <| wpAny_If <| wpAny_isTrue_Compare1 <| cStr I fun s tq I => ldN I rfl <| PySem.P.notIn_str <| wpAny_truthy_bool ?_
        rw [if_pos (by decide +kernel)]
        refine asgN fun _ _ nx => meth2 F.plainAttrs_str F.slot_str_replace F.type_str_replace <| ldN I rfl ⟨typeIs_str _ _ _, strNo, cStr I fun s tq I => cStr I fun s tq I => replNo (by decide +kernel) <| nx _ _ <| stN' I fun s I => ?_⟩
        refine wpAny_execs_nil ?_
        -- stuff = twin_re_1_fnmatch.sub(lambda ..., stuff)
        refine wpAny_execs_cons <| wpAny_Assign_Name <| meth2 plainAttrs_re slot_re_sub type_re_sub <| gl I B.G B.nm.re3 ⟨(p60.ty I).1, (p60.ty I).2, ?_⟩
        refine mkLambda (c := 78) (Pt := 74) (base := base) (mg := mg) rfl rfl rfl rfl cc bb B.G (Inv.sel [3, 0, 1, 2] (by decide) (by repeat (first | exact Nat.zero_le _ | apply Nat.succ_le_succ)) I) fun fnv s I hty => ?_
        have I : Inv σ g ((L, FrameO _) :: (r, ListO ws) :: (b, BmO r) :: (74, TabO base) :: P) s := Inv.sel [1, 2, 3, 0] (by decide) (by repeat (first | exact Nat.zero_le _ | apply Nat.succ_le_succ)) I
        refine ldN I rfl <| subNone p60 nx3_ok (by decide +kernel) (by decide +kernel) rfl hty I fun s ty2 I => stN' I fun s I => ?_
        -- i = j + 1
        refine asgN fun _ _ nx => wpAny_BinOp <| ldN I (by exact hj') <| cInt I fun s tq I => opAdd I fun s ti2 I => nx _ _ <| stN' I fun s I => ?_
        refine wpAny_execs_cons <| wpAny_If <| wpAny_isTrue_Not <| wpAny_isTrue_value <| ldN I rfl <| truS I (by decide +kernel) fun s I => ?_
        rw [if_neg (by decide +kernel)]
        refine wpAny_execs_cons <| wpAny_If <| wpAny_isTrue_Compare1 <| ldN I rfl <| cStr I fun s tq I => PyProof.Rows.eq_str <| wpAny_truthy_bool ?_
        rw [if_neg (by decide +kernel)]
        have hab0 : (Str.ofString "ab").cps[0]? = some 97 := by rw [cps_ab]; rfl
        refine wpAny_execs_cons <| wpAny_If <| wpAny_isTrue_Compare1 <| Subscript_ <| ldN I rfl <| cInt I fun s tq I => subS (k := 0) I hab0 (by decide) fun s tq I => cStr I fun s tq I => PyProof.Rows.eq_str <| wpAny_truthy_bool ?_
        rw [if_neg (by decide +kernel)]
        refine wpAny_execs_cons <| wpAny_If <| wpAny_isTrue_Compare1 <| Subscript_ <| ldN I rfl <| cInt I fun s tq I => subS (k := 0) I hab0 (by decide) fun s tq I => mkTup <| wpAny_items_cons <| cStr I fun s tq1 I => wpAny_items_cons <| cStr I fun s tq2 I => wpAny_items_nil ⟨by simp, _, _, _, I, fun tpa s I => inHooks I <| wpAny_truthy_bool ?_⟩
        have I := I.drop
        rw [if_neg (by decide)]
        refine wpAny_execs_nil <| wpAny_execs_nil ?_
        refine wpAny_execs_cons (addV I (by exact M'.add) hwl rfl ?_)
        refine PyProof.Rows.JoinedStr_many <| PyProof.Rows.joinParts_cons <| cStr I fun s tq I => ⟨by decide +kernel, PyProof.Rows.joinParts_cons <| PyProof.Rows.FormattedValue_plain <| ldN I rfl <| PyProof.Rows.formatField_str (fun t' tk => ⟨by decide +kernel, ?_⟩) (by decide +kernel)⟩
        have I := I.to (s' := { s with toks := tk }) rfl rfl rfl
        refine PyProof.Rows.joinParts_cons <| cStr I fun s tq I => ⟨by decide +kernel, PyProof.Rows.joinParts_nil ⟨_, I.to rfl rfl rfl, fun s I => ?_⟩ (by decide +kernel)⟩
        repeat refine wpAny_execs_nil ?_
        refine hK2 _ _ ?_
        repeat refine wpAny_execs_nil ?_
        refine hK1 _ _ ?_
        repeat refine wpAny_execs_nil ?_
        have eab : Str.empty ++ Str.ofString "[" ++ Str.ofString "ab" ++ Str.ofString "]" = Str.ofString "[ab]" := by decide +kernel
        rw [eab] at I
        refine hK _ _ ⟨row.length - (j + 1), hlt1, j + 1, g, _, _, rfl, hle1, l, I, ⟨by exact M'.pat, by exact M'.star, by exact M'.qm, by exact M'.res, by exact M'.add, ⟨ti2, by rw [hl1]; rfl⟩, ⟨un', by exact hn'⟩⟩, ?_, by simp; lia⟩
        rw [htr, trStep, if_neg (by decide)]
        exact hws.app (Al.one ⟨_, rfl⟩)
  · have hjj : j = row.length := by lia
    subst hjj
    rw [if_neg (by rw [hoff]; simp)]
    refine wpAny_execs_nil ?_
    refine wpAny_execs_cons <| wpAny_Assert_holds <| wpAny_isTrue_Compare1 <| ldN I hi <| ldN I hn <| PySem.P.eq_int <| wpAny_truthy_bool ⟨by rw [hoff]; simp, ?_⟩
    refine wpAny_execs_cons <| wpAny_Return_some <| ldN I M.res ?_
    have I := I.swap
    obtain ⟨g2, l2, hr, I⟩ := I.freezeL
    refine hQ g2 _ _ (l.trans l2) I.drop.drop ⟨r, ws, rfl, hr, ?_⟩
    rw [List.take_length] at hws
    exact hws
end
end Mine
end
-- L1
noncomputable section
open PySem PySem.Calls PyProof.Rows PySem.W
set_option maxRecDepth 100000
set_option linter.unusedVariables false
namespace Mine
theorem pcs_last (told : List (Option Str)) : ∀ n, (pcsUpTo told (n + 1)).getLast? = some (told.getD n none)
  | 0 => by
    rw [pcsUpTo_succ, if_pos (by simp [keepP])]
    simp
  | n + 1 => by
    rw [pcsUpTo_succ]
    by_cases h : keepP told (n + 1) = true
    · rw [if_pos h]; simp
    · rw [if_neg h, pcs_last told n]
      unfold keepP at h
      simp at h
      rw [show told.getD (n + 1) none = none from by simpa using h.1, show told.getD n none = none from by simpa using h.2]
theorem tr_pcs (row : List Int) (hok : RowOk row) : ∀ n, n ≤ row.length → trF (row.take n) = pcsUpTo (row.map menuP) n
  | 0, _ => by simp [trF, pcsUpTo]
  | n + 1, h => by
    have ih := tr_pcs row hok n (by lia)
    have hk : row[n]? = some row[n] := by simp [show n < row.length by lia]
    generalize row[n] = k at hk
    have hk1 := hok k (List.mem_of_getElem? hk)
    have hg : (row.map menuP).getD n none = menuP k := by rw [List.getD_eq_getElem?_getD, List.getElem?_map, hk]; rfl
    have e : trF (row.take (n + 1)) = trStep (trF (row.take n)) k := by
      unfold trF
      rw [List.take_add_one, hk]; simp
    rw [e, ih, pcsUpTo_succ, hg]
    unfold trStep
    by_cases k1 : k = 1
    · have hm : menuP k = none := by rw [k1]; rfl
      rw [if_pos k1]
      cases n with
      | zero =>
        rw [if_pos (.inl (by simp [pcsUpTo])), if_pos (by simp [keepP]), hm]
      | succ n =>
        have hl := pcs_last (row.map menuP) n
        have hne : pcsUpTo (row.map menuP) (n + 1) ≠ [] := fun e => by rw [e] at hl; simp at hl
        have hkp : keepP (row.map menuP) (n + 1) = ((row.map menuP).getD n none != none) := by
          unfold keepP
          rw [hg, hm]; simp
        rw [hkp, hl, hm]
        by_cases hp : (row.map menuP).getD n none = none
        · rw [hp, if_neg (by simp [hne]), if_neg (by simp)]
        · rw [if_pos (.inr (by simpa using hp)), if_pos (by simpa using hp)]
    · rw [if_neg k1]
      have hm : menuP k ≠ none := by unfold menuP; rw [if_neg k1]; simp
      rw [if_pos (by unfold keepP; rw [hg]; simp [hm])]
theorem tr_pieces (row : List Int) (hok : RowOk row) : trF row = piecesF row := by
  have := tr_pcs row hok row.length (Nat.le_refl _)
  rw [List.take_length] at this
  rw [this, piecesF, List.length_map]
end Mine
end
-- B2
noncomputable section
open PySem PySem.Calls PyProof.Rows PySem.W
set_option maxRecDepth 100000
set_option linter.unusedVariables false
namespace Mine
/-- all that the contracts ask of the base heap -/
structure Base2 (mg mb : Str → Option Value) (f : FM) : Prop where
  b : Base mg mb f
  ns : FnD f 148 23
  tx : FnC f 162 26 161 157
  tr : FnC f 79 12 78 74
  bb : BbF f mg
  scm : ScmF f
  p36 : PatF f 36 C1 0
  p41 : PatF f 41 C2 0
  p60 : PatF f 60 C3 1
theorem Base2.le {mg mb f g} (x : Base2 mg mb f) (l : FM.Le f g) : Base2 mg mb g := ⟨x.b.le l, x.ns.le l, x.tx.le l, x.tr.le l, x.bb.le l, x.scm.le l, x.p36.le l, x.p41.le l, x.p60.le l⟩
def tailNs : List Int := [3, 1, 0, 3, 4, 0, 0, 1, 4, 1, 1, 0, 3, 3, 2, 0, 5, 2]
def rowsOf (ns : List Int) : List (List Int) := rowsF (ns.take 8 ++ tailNs)
theorem rowsStep_ok : ∀ (ns : List Int) (st : List (List Int) × List Int), (∀ r ∈ st.1, RowOk r) → RowOk st.2 → (∀ r ∈ (ns.foldl rowsStep st).1, RowOk r) ∧ RowOk (ns.foldl rowsStep st).2
  | [], st, h1, h2 => ⟨h1, h2⟩
  | n :: ns, st, h1, h2 => by
    rw [List.foldl_cons]
    refine rowsStep_ok ns _ ?_ ?_
    · unfold rowsStep
      split
      · intro r hr
        rcases List.mem_append.mp hr with hr | hr
        · exact h1 r hr
        · rw [List.mem_singleton.mp hr]; exact h2
      · exact h1
    · unfold rowsStep
      split
      · intro k hk; cases hk
      · rename_i h
        intro k hk
        rcases List.mem_append.mp hk with hk | hk
        · exact h2 k hk
        · rw [List.mem_singleton.mp hk]
          have e : n.fmod 6 = n % 6 := Int.fmod_eq_emod_of_nonneg _ (by decide)
          rw [e] at h ⊢
          lia
theorem rowsOf_ok (ns : List Int) : ∀ r ∈ rowsOf ns, RowOk r := by
  intro r hr
  have h := rowsStep_ok (ns.take 8 ++ tailNs) ([], []) (fun _ h => by cases h) (fun _ h => by cases h)
  unfold rowsOf rowsF at hr
  rcases List.mem_append.mp hr with hr | hr
  · exact h.1 r hr
  · rw [List.mem_singleton.mp hr]; exact h.2
end Mine
end
-- R32
noncomputable section
open PySem PySem.Calls PyProof.Rows PySem.W
set_option maxRecDepth 100000
set_option linter.unusedVariables false
namespace Mine
def intsOf : List Expr → Option (List Int)
  | [] => some []
  | .Constant (.int i) _ _ :: r => (intsOf r).map (i :: ·)
  | _ => none
section
variable {prog : Program} {w : World} {A : Around} {E : Value → Shared → Prop} {σ : OsState} {f : FM} {P : List Cell} {env : Env}
theorem itemsInts {pos : Pos} : ∀ (es : List Expr) (ns : List Int) {s : Shared} {Q : List Value → Shared → Prop}, intsOf es = some ns → Inv σ f P s → (∀ vs s', Inv σ f P s' → Al AInt vs ns → Q vs s') →
    wpAny (model prog w) A (spliced (backTo pos (starEach es env))) Q E s
  | [], ns, s, Q, h, I, hQ => by
    cases h
    exact wpAny_items_nil (hQ [] s I trivial)
  | e :: es, ns, s, Q, h, I, hQ => by
    cases e with
    | Constant c k p =>
      cases c with
      | int i =>
        simp only [intsOf, Option.map_eq_some_iff] at h
        obtain ⟨ns', h', rfl⟩ := h
        exact wpAny_items_cons (cInt I fun s t I => itemsInts es ns' h' I fun vs s I hv => hQ _ _ I ⟨⟨t, rfl⟩, hv⟩)
      | _ => simp [intsOf] at h
    | _ => simp [intsOf] at h
end
end Mine
end
-- R33
noncomputable section
open PySem PySem.Calls PyProof.Rows PySem.W
set_option maxRecDepth 100000
set_option linter.unusedVariables false
namespace Mine
/-- a frozen list is no longer frozen -/
def FM.del (f : FM) (a : Addr) : FM := fun b => if b = a then none else f b
theorem FM.le_del {f g : FM} {a : Addr} (l : FM.Le f g) (h : f a = none) : FM.Le f (g.del a) := fun b o e => by
  unfold FM.del
  by_cases hb : b = a
  · subst hb; rw [h] at e; cases e
  · rw [if_neg hb]; exact l b o e
theorem Inv.thaw {σ f P s a vs} (I : Inv σ f P s) (hl : IsL f a vs) : Inv σ (f.del a) ((a, ListO vs) :: P) s := by
  obtain ⟨o, ho, hx⟩ := hl
  refine ⟨fun b x e => ?_, ?_, ?_, ?_, I.bare, I.os⟩
  · unfold FM.del at e
    by_cases hb : b = a
    · rw [if_pos hb] at e; cases e
    · rw [if_neg hb] at e; exact I.frz b x e
  · intro p hp
    rcases List.mem_cons.mp hp with rfl | hp
    · exact ⟨o, I.frz _ _ ho, hx⟩
    · exact I.own p hp
  · intro p hp
    unfold FM.del
    rcases List.mem_cons.mp hp with rfl | hp
    · exact if_pos rfl
    · by_cases hb : p.1 = a
      · exact if_pos hb
      · rw [if_neg hb]; exact I.sep p hp
  · rw [List.map_cons, List.nodup_cons]
    refine ⟨fun hm => ?_, I.nod⟩
    obtain ⟨p, hp, e⟩ := List.mem_map.mp hm
    have h1 := I.sep p hp
    have e : p.1 = a := e
    rw [e, ho] at h1; cases h1
theorem rmul_bool_str (b : Bool) (x : Str) (u : Tok) : Gives (Builtin.«int.__rmul__» ⟨[.bool b, .str x u], []⟩) (.val (Value.notImplemented)) :=
  .of_wp fun M A E s Q h => by obtain ⟨hp, g, d, tk, os⟩ := s; wp_walk; exact ⟨_, rfl, h⟩
theorem gives_mul_bool (x : Str) (b : Bool) (t : Tok) : Gives (Builtin.«str.__mul__» ⟨[.str x t, .bool b], []⟩) (if b = true then .val (.str x t) else .str Str.empty) := by
  cases b
  · exact .rule (.of_eq rfl)
  · exact .rule (.of_eq rfl)
theorem rmul_bool_list (b : Bool) (l : Addr) (items : Array Value) (n : Nat) :
    Meets (Builtin.«int.__rmul__» ⟨[.bool b, .ref l], []⟩) (fun _ R s => s.heap.get? l = some { cls := .type "list", dict := none, data := .seq items n, slots := #[] } ∧ R (.ok (.ret Value.notImplemented)) s) :=
  .of_wp fun prog w A R s h => by obtain ⟨hp, g, d, tk, os⟩ := s; obtain ⟨hl, h⟩ := h; wp_walk; exact ⟨_, rfl, h⟩
theorem list_mul_bool (l : Addr) (items : Array Value) (n : Nat) (b : Bool) (hsz : items.size ≤ 2 ^ 20) :
    Meets (Builtin.«list.__mul__» ⟨[.ref l, .bool b], []⟩) (fun _ R s => s.heap.get? l = some { cls := .type "list", dict := none, data := .seq items n, slots := #[] } ∧ R (.ok (.ret (Value.ref s.heap.objs.size))) { s with heap := s.heap.push { cls := Value.type "list", data := Data.seq (List.foldl (fun x1 x2 => x1 ++ x2) #[] (List.replicate (if items.isEmpty = true then 0 else (if b = true then (1 : Int) else 0).toNat) items)) }, toks := s.toks }) :=
  .of_wp fun prog w A R s h => by
    obtain ⟨hp, g, d, tk, os⟩ := s; obtain ⟨hl, h⟩ := h
    have hb : (if b = true then (1 : Int) else 0).toNat ≤ 1 := by cases b <;> decide
    have hm : items.size * (if b = true then (1 : Int) else 0).toNat ≤ 2 ^ 20 := Nat.le_trans (Nat.mul_le_mul_left _ hb) (by lia)
    have hc0 : ¬(!Builtin.List.listFitsIndex (if b = true then (1 : Int) else 0)) = true := by cases b <;> decide
    have hc1 : ¬items.size * (if b = true then (1 : Int) else 0).toNat > (2 ^ 63 - 1) / 8 := by lia
    have hc2 : ¬Builtin.List.listTooLong (items.size * (if b = true then (1 : Int) else 0).toNat) = true := by
      simp only [Builtin.List.listTooLong, sizeLine_eq, decide_eq_true_eq]; lia
    have hsz2 := AutoListH.joined_fits hc2
    wp_walk; refine wpAny_ite_false (decide_eq_false (Nat.not_lt.mpr hsz2)) ?_; wp_walk; exact ⟨_, rfl, h⟩
section
variable {prog : Program} {w : World} {A : Around} {E : Value → Shared → Prop} {s : Shared} {σ : OsState} {f : FM} {P : List Cell} {env : Env}
/-- text * bool -/
theorem mulSB {x : Str} {t : Tok} {b : Bool} {Q : Value → Shared → Prop} (I : Inv σ f P s) (h : ∀ s' t', Inv σ f P s' → Q (.str (if b = true then x else Str.empty) t') s') :
    wpAny (model prog w) A (binaryOp .Mult (.str x t) (.bool b)) Q E s := by
  refine wpAny_binaryOp_repeat (T := "str") (U := "bool") (by decide) (fun s' => typeIs_str s' x t) (fun s' => rfl) noFill_str_mul F.fills_bool_mul F.slot_bool_rmul repeat_str F.slot_bool_index.lookup
    (call_gives F.slot_bool_rmul rfl F.entry_int_rmul (F.args_int_rmul_2 _ _) (rmul_bool_str b x t)
      ⟨rfl, call_gives F.slot_str_mul (typeIs_str s x t) F.entry_str_mul (F.args_str_mul_2 _ _) (gives_mul_bool x b t) ?_⟩)
  cases b
  · rw [if_neg (by decide)]
    exact ⟨by decide, h _ _ (I.to rfl rfl rfl)⟩
  · rw [if_pos rfl]
    exact h _ _ I
/-- text + text -/
theorem addS {x y : Str} {t u : Tok} {Q : Value → Shared → Prop} (I : Inv σ f P s) (hsz : x.length + y.length ≤ 2 ^ 20) (h : ∀ s' t', Inv σ f P s' → Q (.str (x ++ y) t') s') :
    wpAny (model prog w) A (binaryOp .Add (.str x t) (.str y u)) Q E s :=
  PyProof.Rows.add_str (fun t' tk => h _ _ (I.to rfl rfl rfl)) (by rw [sizeLine_eq]; lia)
theorem strVals_al : ∀ (l : List (Str × Tok)), Al AStr (strValues l) (l.map (·.1))
  | [] => trivial
  | (x, t) :: l => ⟨⟨t, rfl⟩, strVals_al l⟩
theorem al_strVals : ∀ {vs : List Value} {ys : List Str}, Al AStr vs ys → ∃ l : List (Str × Tok), strValues l = vs ∧ l.map (·.1) = ys
  | [], [], _ => ⟨[], rfl, rfl⟩
  | v :: vs, y :: ys, ⟨⟨t, e⟩, h⟩ => by
    obtain ⟨l, h1, h2⟩ := al_strVals h
    exact ⟨(y, t) :: l, by rw [← h1, e]; rfl, by rw [← h2]; rfl⟩
  | [], _ :: _, h => h.elim
  | _ :: _, [], h => h.elim
/-- join over a list -/
theorem joinL {D : Addr} {x : Str} {t : Tok} {vs : List Value} {ys : List Str} {Q : Value → Shared → Prop} (I : Inv σ f P s) (hl : s.heap.IsList D vs.toArray) (hv : Al AStr vs ys) (hok : JoinOk x ys = true)
    (h : ∀ s' t', Inv σ f P s' → Q (.str (Txt.join x ys) t') s') : wpAny (model prog w) A (call (.builtin "str.join") [.str x t, .ref D]) Q E s := by
  obtain ⟨l, h1, h2⟩ := al_strVals hv
  subst h1
  exact SC.join hl h2 hok fun t' k => h _ _ (I.to rfl rfl rfl)
/-- split -/
theorem splitT {x y : Str} {t u : Tok} {Q : Value → Shared → Prop} (I : Inv σ f P s) (hy : (y.length == 0) = false) (hx : x.length ≤ 2 ^ 20) (hn : (Txt.split x y).length ≤ 2 ^ 20)
    (h : ∀ D vs s', Inv σ f ((D, ListO vs) :: P) s' → Al AStr vs (Txt.split x y) → Q (.ref D) s') : wpAny (model prog w) A (call (.builtin "str.split") [.str x t, .str y u]) Q E s := by
  cases h1 : (decide (x.length < y.length) || decide (Builtin.Str.strKind x < Builtin.Str.strKind y))
  · cases hf : (Builtin.Str.occurrences x y 0 x.length (x.length + 1)).isEmpty
    · have e : Txt.split x y = Builtin.Str.partsBetween x (Builtin.Str.occurrences x y 0 x.length (x.length + 1)) y.length := (if_neg (ne_true_of_eq_false h1)).trans (if_neg (ne_true_of_eq_false hf))
      rw [e] at hn
      refine call_meets F.slot_str_split (typeIs_str _ _ _) F.entry_str_split (F.args_str_split_2 _ _) (meets_str_split_sep x y t u h1 hy hf (by rw [sizeLine_eq]; lia) (by rw [sizeLine_eq]; lia)) ?_
      show wants Q E _ { s with toks := _, heap := s.heap.push { cls := .type "list", data := .seq (strsFrom s.toks (Builtin.Str.partsBetween x (Builtin.Str.occurrences x y 0 x.length (x.length + 1)) y.length)).toArray } }
      rw [strsFrom_eq]
      refine h _ _ _ (I.push (q := ListO _) rfl ⟨0, rfl⟩ rfl rfl rfl) ?_
      have := strVals_al (numbered s.toks (Builtin.Str.partsBetween x (Builtin.Str.occurrences x y 0 x.length (x.length + 1)) y.length))
      rw [numbered_texts] at this; rw [e]; exact this
    · refine call_meets F.slot_str_split (typeIs_str _ _ _) F.entry_str_split (F.args_str_split_2 _ _) (meets_str_split_not_found x y t u h1 hy hf) ?_
      refine h _ _ _ (I.push (q := ListO [Value.str x t]) rfl ⟨0, rfl⟩ rfl rfl rfl) ?_
      have e : Txt.split x y = [x] := (if_neg (ne_true_of_eq_false h1)).trans (if_pos hf)
      rw [e]; exact Al.one ⟨_, rfl⟩
  · refine call_meets F.slot_str_split (typeIs_str _ _ _) F.entry_str_split (F.args_str_split_2 _ _) (meets_str_split_cannot_occur x y t u h1) ?_
    refine h _ _ _ (I.push (q := ListO [Value.str x t]) rfl ⟨0, rfl⟩ rfl rfl rfl) ?_
    have e : Txt.split x y = [x] := if_pos h1
    rw [e]; exact Al.one ⟨_, rfl⟩
/-- list * bool -/
theorem mulLB {a : Addr} {vs : List Value} {b : Bool} {Q : Value → Shared → Prop} (I : Inv σ f P s) (ha : ∃ n, s.heap.get? a = some { cls := .type "list", dict := none, data := .seq vs.toArray n, slots := #[] }) (hsz : vs.length < 2 ^ 20)
    (h : ∀ r s', Inv σ f ((r, ListO (if b = true then vs else [])) :: P) s' → Q (.ref r) s') : wpAny (model prog w) A (binaryOp .Mult (.ref a) (.bool b)) Q E s := by
  obtain ⟨n, hl⟩ := ha
  refine wpAny_binaryOp_repeat_ref (T := "list") (U := "bool") (by decide) ⟨_, hl, rfl⟩ (fun s' => rfl) noFill_list_mul F.fills_bool_mul F.slot_bool_rmul repeat_list F.slot_bool_index.lookup
    (call_meets F.slot_bool_rmul rfl F.entry_int_rmul (F.args_int_rmul_2 _ _) (rmul_bool_list b a vs.toArray n)
      ⟨hl, rfl, ⟨_, hl, rfl⟩, call_meets F.slot_list_mul ⟨_, hl, rfl⟩ F.entry_list_mul (F.args_list_mul_2 _ _) (list_mul_bool a vs.toArray n b (by simp; lia)) ⟨hl, ?_⟩⟩)
  refine h _ _ (I.push (q := ListO _) rfl ⟨0, ?_⟩ rfl rfl rfl)
  have e : List.foldl (fun x1 x2 => x1 ++ x2) #[] (List.replicate (if vs.toArray.isEmpty = true then 0 else (if b = true then (1 : Int) else 0).toNat) vs.toArray) = (if b = true then vs else []).toArray := by
    cases vs with
    | nil => cases b <;> rfl
    | cons v vs => cases b <;> simp
  rw [e]
end
end Mine
end
-- R34
noncomputable section
open PySem PySem.Calls PyProof.Rows PySem.W
set_option maxRecDepth 100000
set_option linter.unusedVariables false
namespace Mine
section
variable {prog : Program} {w : World} {A : Around} {E : Value → Shared → Prop} {s : Shared} {σ : OsState} {f : FM} {P : List Cell} {env : Env} {m : Str → Option Value}
/-- a comprehension over a frozen list, item by item -/
theorem compMapG {β γ : Type} {F : FM → Value → β → Prop} {G : FM → Value → γ → Prop} (leF : ∀ f g v x, FM.Le f g → F f v x → F g v x) (rG : Rd G) (φ : β → γ) (xs : List β) (P : List Cell) {elt iter : Expr} {x : Str} {px : Pos} {scope : Scope} {cl : List (Str × Addr)} {pos : Pos} {Q : Value → Shared → Prop}
    (hh : A.handled = none) (hclos : closureFor scope env = pure cl) (hkind : scope.kind = .function) (hnames : ∀ x ∈ scope.names, x.2 = .local → scope.names.lookup x.1 = some .local) (hcell : ∀ x ∈ scope.names, x.2 ≠ .cell)
    (hx : scope.names.lookup x = some .local) (hn : xs.length < 2 ^ 20)
    (h : wpAny (model prog w) A (eval iter env) (fun xv s₁ => ∃ l vs f, xv = .ref l ∧ IsL f l vs ∧ Al (F f) vs xs ∧ Inv σ f P s₁ ∧
      (∀ C (i : Nat) v b g m s H E, xs[i]? = some b → F g v b → FM.Le f g → Inv σ g ((C, FrameO m) :: (P ++ H)) s → m x = some v →
        wpAny (model prog w) A (eval elt (cenvOf scope cl C env)) (fun y s₂ => ∃ g', FM.Le g g' ∧ Inv σ g' ((C, FrameO m) :: (P ++ H)) s₂ ∧ G g' y (φ b)) E s) ∧
      (∀ acc ws g s, FM.Le f g → Inv σ g ((acc, ListO ws) :: P) s → Al (G g) ws (xs.map φ) → Q (.ref acc) s)) E s)
    (hs : ∀ x, foldedSetIterable iter env x = pure x := by intro _; rfl) :
    wpAny (model prog w) A (eval (.ListComp elt [⟨.Name x px, iter, [], 0⟩] scope pos) env) Q E s := by
  refine comp (σ := σ) (cl := cl) (fun i ws g P' => P' = P ∧ Al (G g) ws ((xs.take i).map φ)) hh hclos hkind hnames hcell hx (wpAny_mono h (fun xv s₁ h₁ => ?_) fun _ _ e => e) hs
  obtain ⟨l, vs, f, rfl, hl, hvs, I, turn, hQ⟩ := h₁
  refine iterL I (hl.is I) fun it s I => ?_
  refine ⟨it, vs.length, _, _, f, P, rfl, by rw [hvs.len]; exact hn, Proto.list hl, I, ⟨rfl, trivial⟩, ?_, ?_⟩
  · rintro C i v ws g P' m s H E' hi hV ⟨rfl, hws⟩ l' I hm
    obtain ⟨b, hb, hvb⟩ := hvs.get i v hV
    refine wpAny_pure ?_
    rw [if_pos rfl]
    refine wpAny_mono (turn C i v b g m s H E' hb (leF _ _ _ _ l' hvb) l' I hm) (fun y s₂ h₂ => ?_) fun _ _ e => e
    obtain ⟨g', l2, I, hy⟩ := h₂
    refine ⟨g', _, m, l2, I, rfl, ?_⟩
    have e : (xs.take (i + 1)).map φ = (xs.take i).map φ ++ [φ b] := by rw [List.take_add_one, hb]; simp
    rw [e]
    exact (hws.mono fun _ _ h => rG.le l2 h).app (Al.one hy)
  · rintro acc ws g P' s ⟨rfl, hws⟩ l' I
    rw [hvs.len, List.take_length] at hws
    exact hQ acc ws g s l' I hws
theorem compMap {β γ : Type} {F : FM → Value → β → Prop} {G : FM → Value → γ → Prop} (rF : Rd F) (rG : Rd G) (φ : β → γ) (xs : List β) (P : List Cell) {elt iter : Expr} {x : Str} {px : Pos} {scope : Scope} {cl : List (Str × Addr)} {pos : Pos} {Q : Value → Shared → Prop}
    (hh : A.handled = none) (hclos : closureFor scope env = pure cl) (hkind : scope.kind = .function) (hnames : ∀ x ∈ scope.names, x.2 = .local → scope.names.lookup x.1 = some .local) (hcell : ∀ x ∈ scope.names, x.2 ≠ .cell)
    (hx : scope.names.lookup x = some .local) (hn : xs.length < 2 ^ 20)
    (h : wpAny (model prog w) A (eval iter env) (fun xv s₁ => ∃ l vs f, xv = .ref l ∧ IsL f l vs ∧ Al (F f) vs xs ∧ Inv σ f P s₁ ∧
      (∀ C (i : Nat) v b g m s H E, xs[i]? = some b → F g v b → FM.Le f g → Inv σ g ((C, FrameO m) :: (P ++ H)) s → m x = some v →
        wpAny (model prog w) A (eval elt (cenvOf scope cl C env)) (fun y s₂ => ∃ g', FM.Le g g' ∧ Inv σ g' ((C, FrameO m) :: (P ++ H)) s₂ ∧ G g' y (φ b)) E s) ∧
      (∀ acc ws g s, FM.Le f g → Inv σ g ((acc, ListO ws) :: P) s → Al (G g) ws (xs.map φ) → Q (.ref acc) s)) E s)
    (hs : ∀ x, foldedSetIterable iter env x = pure x := by intro _; rfl) :
    wpAny (model prog w) A (eval (.ListComp elt [⟨.Name x px, iter, [], 0⟩] scope pos) env) Q E s :=
  compMapG (F := F) (fun _ _ _ _ l h => rF.le l h) rG φ xs P hh hclos hkind hnames hcell hx hn h hs
/-- a comprehension over range(n) -/
theorem compRange {γ : Type} {G : FM → Value → γ → Prop} (rG : Rd G) (φ : Nat → γ) (n : Nat) (P : List Cell) {elt iter : Expr} {x : Str} {px : Pos} {scope : Scope} {cl : List (Str × Addr)} {pos : Pos} {Q : Value → Shared → Prop}
    (hh : A.handled = none) (hclos : closureFor scope env = pure cl) (hkind : scope.kind = .function) (hnames : ∀ x ∈ scope.names, x.2 = .local → scope.names.lookup x.1 = some .local) (hcell : ∀ x ∈ scope.names, x.2 ≠ .cell)
    (hx : scope.names.lookup x = some .local) (hn : n < 2 ^ 20)
    (h : wpAny (model prog w) A (eval iter env) (fun xv s₁ => ∃ r f, xv = .ref r ∧ Inv σ f ((r, RangeO 0 n 1) :: P) s₁ ∧
      (∀ C (i : Nat) t g m s H E, i < n → FM.Le f g → Inv σ g ((C, FrameO m) :: (P ++ H)) s → m x = some (.int (i : Nat) t) →
        wpAny (model prog w) A (eval elt (cenvOf scope cl C env)) (fun y s₂ => ∃ g', FM.Le g g' ∧ Inv σ g' ((C, FrameO m) :: (P ++ H)) s₂ ∧ G g' y (φ i)) E s) ∧
      (∀ acc ws g s, FM.Le f g → Inv σ g ((acc, ListO ws) :: P) s → Al (G g) ws ((List.range n).map φ) → Q (.ref acc) s)) E s)
    (hs : ∀ x, foldedSetIterable iter env x = pure x := by intro _; rfl) :
    wpAny (model prog w) A (eval (.ListComp elt [⟨.Name x px, iter, [], 0⟩] scope pos) env) Q E s := by
  refine comp (σ := σ) (cl := cl) (fun i ws g P' => P' = P ∧ Al (G g) ws ((List.range i).map φ)) hh hclos hkind hnames hcell hx (wpAny_mono h (fun xv s₁ h₁ => ?_) fun _ _ e => e) hs
  obtain ⟨r, f, rfl, I, turn, hQ⟩ := h₁
  refine iterN I (by lia) fun it s I => ?_
  refine ⟨it, n, _, _, f, P, rfl, hn, Proto.range n, I, ⟨rfl, trivial⟩, ?_, ?_⟩
  · rintro C i v ws g P' m s H E' hi ⟨t, rfl⟩ ⟨rfl, hws⟩ l' I hm
    refine wpAny_pure ?_
    rw [if_pos rfl]
    refine wpAny_mono (turn C i t g m s H E' hi l' I hm) (fun y s₂ h₂ => ?_) fun _ _ e => e
    obtain ⟨g', l2, I, hy⟩ := h₂
    refine ⟨g', _, m, l2, I, rfl, ?_⟩
    have e : (List.range (i + 1)).map φ = (List.range i).map φ ++ [φ i] := by rw [List.range_succ]; simp
    rw [e]
    exact (hws.mono fun _ _ h => rG.le l2 h).app (Al.one hy)
  · rintro acc ws g P' s ⟨rfl, hws⟩ l' I
    exact hQ acc ws g s l' I hws
/-- an if whose test does not hold -/
theorem ifNot {test : Expr} {body : List Stmt} {pos : Pos} {Q : Flow → Shared → Prop} (h : wpAny (model prog w) A (isTrue test env (eval test env)) (fun b s₁ => b = false ∧ Q .next s₁) E s) :
    wpAny (model prog w) A (exec (.If test body [] pos) env) Q E s :=
  wpAny_If (wpAny_mono h (fun b s₁ ⟨e, h⟩ => by subst e; exact wpAny_execs_nil h) fun _ _ e => e)
/-- a def with a default, called by its name -/
theorem callFD {pos : Pos} {a : Addr} {i : Nat} {e : Expr} {rest : List Expr} {Q : Value → Shared → Prop} (x : FnD f a i)
    (h : wpAny (model prog w) A (spliced (backTo pos (starEach (e :: rest) env))) (fun vs s₁ => ∃ σ' g P', FM.Le f g ∧ Inv σ' g P' s₁ ∧ wpAny (model prog w) A (call (.ref a) vs) Q E s₁) E s)
    (he : starEach (e :: rest) env = (false, eval e env) :: starEach rest env := by rfl) : wpAny (model prog w) A (callWith pos (.ref a) [] (backTo pos (starEach (e :: rest) env)) []) Q E s := by
  obtain ⟨_, _, _, _, ⟨o, ho, hd, _⟩, _⟩ := x
  exact callWith_def hd (wpAny_mono h (fun vs s₁ ⟨_, g, P', l, I, hc⟩ => ⟨I.frz _ _ (l _ _ ho), hc⟩) fun _ _ x => x) he
theorem FnC.toI {a i c Pt} (x : FnC f a i c Pt) : FnI f a i := let ⟨p, d, h, _⟩ := x; ⟨p, .ref c, d, h⟩
end
end Mine
end
-- E0
noncomputable section
open PySem PySem.Calls PyProof.Rows PySem.W
set_option maxRecDepth 100000
set_option linter.unusedVariables false
namespace Mine
def lawS (i : Nat) : Stmt := ((defAt 30).body[i]?).getD (.Pass ⟨0, 0, 0, 0⟩)
theorem lawBody : (defAt 30).body = [lawS 0, lawS 1, lawS 2, lawS 3, lawS 4, lawS 5, lawS 6, lawS 7, lawS 8, lawS 9, lawS 10, lawS 11, lawS 12, lawS 13, lawS 14] := by rfl
abbrev lenv (pm cd doc : Value) (L : Addr) : Env := callEnvC (docDef (defAt 30).name (defAt 30).params (defAt 30).body (defAt 30).scope pm cd doc) L 182
def setM (m : Str → Option Value) (x : Str) (v : Value) : Str → Option Value := fun y => if y = x then some v else m y
section
variable {prog : Program} {w : World} {A : Around} {E : Value → Shared → Prop} {s : Shared} {σ : OsState} {f : FM} {P : List Cell} {mg mb : Str → Option Value} {pm cd doc : Value} {L : Addr} {m : Str → Option Value}
theorem itemsI {env : Env} {pos : Pos} {es : List Expr} {ns : List Int} {Q : List Value → Shared → Prop} (I : Inv σ f P s) (hQ : ∀ vs s', Inv σ f P s' → Al AInt vs ns → Q vs s') (h : intsOf es = some ns) :
    wpAny (model prog w) A (spliced (backTo pos (starEach es env))) Q E s := itemsInts es ns h I hQ
/-- rows = _law_rows(script[:8] + [..]) -/
theorem law_s0 {l : Addr} {vs : List Value} {ns : List Int} {Q : Flow → Shared → Prop} (R : Room A 4 90) (B : Base2 mg mb f) (I : Inv σ f ((L, FrameO m) :: P) s)
    (hm : m (Str.ofString "script") = some (.ref l)) (hl : IsL f l vs) (hvs : Al AInt vs ns) (hsz : ns.length < 2 ^ 8)
    (hQ : ∀ g s' v, FM.Le f g → AL AInts g v (rowsOf ns) → Inv σ g ((L, FrameO (setM m (Str.ofString "rows") v)) :: P) s' → Q .next s') :
    wpAny (model prog w) A (exec (lawS 0) (lenv pm cd doc L)) Q E s := by
  have hlen := hvs.len
  refine wpAny_Assign_Name <| wpAny_Call_NameR <| gl I B.b.G B.b.nm.law_rows <| callF B.b.f25 <| wpAny_items_cons <| wpAny_BinOp <| sliceL <| ldN I hm <| wpAny_evalPart_none <| wpAny_evalPart_some <| cInt I fun s t I => ⟨l, vs, _, _, _, _, _, rfl, hl.is I, by lia, .none, .int 8 t, I, fun r1 s I => ?_⟩
  rw [show slicePick vs.toArray none (some (8 : Int)) none = (vs.take 8).toArray from slicePick_upto' _ 8, List.toList_toArray] at I
  refine mkList ?_
  with_reducible refine itemsI (ns := tailNs) I ?_ ?_
  · intro tl s I htl
    have htlen : tl.length = 18 := htl.len
    refine ⟨by lia, _, _, _, I, fun r2 s I => ?_⟩
    have hv8 := hvs.take 8
    have hlen8 : (vs.take 8).length ≤ 8 := by rw [List.length_take]; lia
    refine addLL I I.swap.ex I.ex (by lia) fun r3 s I => ?_
    obtain ⟨g1, l1, h3, I⟩ := I.freezeL
    have I := I.drop.drop
    refine wpAny_items_nil ⟨_, _, _, l1, I, ?_⟩
    refine law_rows_ct (ns := ns.take 8 ++ tailNs) (R.le (by decide) (by decide)) (B.le l1).b I ⟨r3, _, rfl, h3, hv8.app htl⟩ (by rw [List.length_append, List.length_take]; simp only [tailNs, List.length_cons, List.length_nil]; lia) fun g2 s rowsV l2 I hrows => ?_
    exact stN' I fun s I => hQ _ _ _ (l1.trans l2) hrows I
  · rfl
end
end Mine
end
-- E1
noncomputable section
open PySem PySem.Calls PyProof.Rows PySem.W
set_option maxRecDepth 100000
set_option linter.unusedVariables false
namespace Mine
section
variable {prog : Program} {w : World} {A : Around} {E : Value → Shared → Prop} {s : Shared} {σ : OsState} {f : FM} {P : List Cell} {mg mb : Str → Option Value} {pm cd doc : Value} {L : Addr} {m : Str → Option Value}
/-- texts = [_law_text(row) for row in rows] -/
theorem law_s1 {rv : Value} {rows : List (List Int)} {t157 : Array Value} {Q : Flow → Shared → Prop} (R : Room A 4 90) (B : Base2 mg mb f) (I : Inv σ f ((L, FrameO m) :: (L + 1, CellO none) :: (157, TabO t157) :: P) s)
    (hm : m (Str.ofString "rows") = some rv) (hr : AL AInts f rv rows) (hok : ∀ r ∈ rows, RowOk r) (hlen : ∀ r ∈ rows, r.length < 2 ^ 7) (hsz : rows.length < 2 ^ 7)
    (hQ : ∀ g s' a ws, FM.Le f g → IsL g a ws → Al AStr ws (rows.map textF) → CellF g (L + 1) (.ref a) → Inv σ g ((L, FrameO m) :: (157, TabO t157) :: P) s' → Q .next s') :
    wpAny (model prog w) A (exec (lawS 1) (lenv pm cd doc L)) Q E s := by
  obtain ⟨l, vs, rfl, hl, hvs⟩ := hr
  refine wpAny_Assign_Name <| compMap (σ := σ) (cl := []) Rd.int.list Rd.str textF rows ((L, FrameO m) :: (L + 1, CellO none) :: (157, TabO t157) :: P) R.hand rfl rfl (by decide) (by decide) rfl (by lia) <| ldN I hm ⟨l, vs, f, rfl, hl, hvs, I, ?_, ?_⟩
  · intro C i v b g m' s H E hb hv l I hm
    refine absK fun K E' hK => ?_
    have hbm := List.mem_of_getElem? hb
    have B := B.le l
    have I : Inv σ g ((C, FrameO m') :: (L, FrameO m) :: (L + 1, CellO none) :: (157, TabO t157) :: (P ++ H)) s := I
    refine wpAny_Call_NameR <| gl I B.b.G B.b.nm.law_text <| callF B.tx.toI <| wpAny_items_cons <| ldN I hm <| wpAny_items_nil ⟨_, _, _, FM.Le.refl g, I, ?_⟩
    refine law_text_ct (base := t157) (R.le (by decide) (by decide)) B.b B.bb B.tx (Inv.sel [3, 0, 1, 2] (by decide) (by repeat (first | exact Nat.zero_le _ | apply Nat.succ_le_succ)) I) hv (hok b hbm) (by have := hlen b hbm; lia) fun s t I => ?_
    exact hK _ _ ⟨g, FM.Le.refl g, Inv.sel [1, 2, 3, 0] (by decide) (by repeat (first | exact Nat.zero_le _ | apply Nat.succ_le_succ)) I, t, rfl⟩
  · intro acc ws g s l I hws
    obtain ⟨g1, l1, hacc, I⟩ := I.freezeL
    refine stC I.swap fun s I => ?_
    obtain ⟨g2, l2, hc, I⟩ := I.freezeC
    exact hQ g2 s acc ws (l.trans (l1.trans l2)) (hacc.le l2) hws hc I
end
end Mine
end
-- E2
noncomputable section
open PySem PySem.Calls PyProof.Rows PySem.W
set_option maxRecDepth 100000
set_option linter.unusedVariables false
namespace Mine
def sepF (k : Nat) : Str := if k % 3 = 0 then Str.ofString "\n" else if k % 3 = 1 then Str.ofString "\r" else Str.ofString "\r\n"
def partF (ts : List Str) (k : Nat) : Str := ts.getD k Str.empty ++ (if k + 1 < ts.length then sepF k else Str.ofString "")
def wholeF (ts : List Str) : Str := Txt.join (Str.ofString "") ((List.range ts.length).map (partF ts))
theorem sepF_len (k : Nat) : (sepF k).length ≤ 2 := by
  unfold sepF
  split
  · decide
  · split <;> decide
theorem partF_len (ts : List Str) (h : ∀ t ∈ ts, t.length ≤ 2 ^ 9) (k : Nat) : (partF ts k).length ≤ 600 := by
  unfold partF
  have h1 : (ts.getD k Str.empty).length ≤ 2 ^ 9 := by
    rw [List.getD_eq_getElem?_getD]
    cases hk : ts[k]? with
    | none => decide
    | some t => exact h t (List.mem_of_getElem? hk)
  have h2 : (if k + 1 < ts.length then sepF k else Str.ofString "").length ≤ 2 := by
    split
    · exact sepF_len k
    · decide
  have h3 : ∀ a b : Str, (a ++ b).length = a.length + b.length := fun a b => by show (a.cps ++ b.cps).size = _; simp; rfl
  rw [h3]; lia
section
variable {prog : Program} {w : World} {A : Around} {E : Value → Shared → Prop} {s : Shared} {σ : OsState} {f : FM} {P : List Cell} {mg mb : Str → Option Value} {pm cd doc : Value} {L : Addr} {m : Str → Option Value}
/-- a text's method of one argument, the text a constant -/
theorem methC {x : Str} {k : Nat} {p apos pos : Pos} {name : Str} {id : String} {e : Expr} {env : Env} {Q : Value → Shared → Prop} (slot : Slot "str" name id) (ty : typeOf (.builtin id) = pure (.type "method_descriptor")) (I : Inv σ f P s) (hs : starEach [e] env = [(false, eval e env)])
    (hline : (apos.endLine == pos.line) = true) (h : ∀ s t, Inv σ f P s → wpAny (model prog w) A (eval e env) (fun v s₂ => wpAny (model prog w) A (call (.builtin id) [.str x t, v]) Q E s₂) E s) :
    wpAny (model prog w) A (eval (.Call (.Attribute (.Constant (.str x) k p) name apos) [e] [] pos) env) Q E s :=
  meth1 F.plainAttrs_str slot ty (cStr I fun s t I => ⟨typeIs_str _ _ _, strNo, h s t I⟩) rfl hs hline
theorem star_comp {env : Env} {a : Expr} {b : List Comprehension} {c : Scope} {d : Pos} : starEach [.ListComp a b c d] env = [(false, eval (.ListComp a b c d) env)] := rfl
theorem star_name {env : Env} {a : Str} {d : Pos} : starEach [.Name a d] env = [(false, eval (.Name a d) env)] := rfl
/-- whole = ''.join([..]) -/
theorem law_s2 {a : Addr} {vs : List Value} {ts : List Str} {Q : Flow → Shared → Prop} (R : Room A 4 90) (B : Base2 mg mb f) (I : Inv σ f ((L, FrameO m) :: P) s)
    (hc : CellF f (L + 1) (.ref a)) (hl : IsL f a vs) (hvs : Al AStr vs ts) (hts : ∀ t ∈ ts, t.length ≤ 2 ^ 9) (hsz : ts.length < 2 ^ 7)
    (hQ : ∀ g s' t, FM.Le f g → Inv σ g ((L, FrameO (setM m (Str.ofString "whole") (.str (wholeF ts) t))) :: P) s' → Q .next s') :
    wpAny (model prog w) A (exec (lawS 2) (lenv pm cd doc L)) Q E s := by
  have hlen := hvs.len
  refine wpAny_Assign_Name ?_
  with_reducible refine methC F.slot_str_join F.type_str_join I star_comp (by decide) fun s t0 I => ?_
  refine compRange (σ := σ) (cl := [(Str.ofString "texts", L + 1)]) Rd.str (partF ts) vs.length ((L, FrameO m) :: P) R.hand rfl rfl (by decide) (by decide) rfl (by lia) <|
    wpAny_Call_NameR <| bi I B.b.G B.b.nm.range0 B.b.B B.b.nm.range <| PyProof.Rows.callWith_type1 <| wpAny_items_cons <| wpAny_Call_NameR <| bi I B.b.G B.b.nm.len0 B.b.B B.b.nm.len <| callWith_builtin1 <|
        wpAny_items_cons <| ldC (hc.is I) <| wpAny_items_nil <| lenL I (hl.is I) (by lia) fun s t I => wpAny_items_nil <| mkRange I fun r s I => ⟨r, f, rfl, I, ?_, ?_⟩
  · intro C k t g m' s H E hk l I hm
    refine absK fun K E' hK => ?_
    have hc := hc.le l
    have hl := hl.le l
    have B := (B.le l).b
    obtain ⟨x, hx, tx, hax⟩ := hvs.get k vs[k] (by simp [hk])
    refine wpAny_BinOp <| Subscript_ <| ldC (hc.is I) <| ldN I hm <| subN (x := vs[k]) (hl.is I) (by lia) (by simp [hk]) <| wpAny_IfExp <| wpAny_isTrue_Compare1 <| ldN I hm <| wpAny_BinOp <|
      wpAny_Call_NameR <| bi I B.G B.nm.len0 B.B B.nm.len <| callWith_builtin1 <| wpAny_items_cons <| ldC (hc.is I) <| wpAny_items_nil <| lenL I (hl.is I) (by lia) fun s t1 I => cInt I fun s t1 I => opSub I fun s t1 I => PySem.P.lt_int <| wpAny_truthy_bool ?_
    rw [hax]
    have hxd : ts.getD k Str.empty = x := by rw [List.getD_eq_getElem?_getD, hx]; rfl
    have hxl := hts x (List.mem_of_getElem? hx)
    by_cases h1 : k + 1 < ts.length
    · rw [if_pos (by rw [decide_eq_true_eq]; lia)]
      refine Subscript_ <| mkList <| wpAny_items_cons <| cStr I fun s t1 I => wpAny_items_cons <| cStr I fun s t2 I => wpAny_items_cons <| cStr I fun s t3 I => wpAny_items_nil ⟨by simp, _, _, _, I, fun q s I => wpAny_BinOp <| ldN I.swap hm <| cInt I fun s t4 I => opMod I (by decide) fun s t5 I => ?_⟩
      have key : ∃ u, [Value.str (Str.ofString "\n") t1, Value.str (Str.ofString "\r") t2, Value.str (Str.ofString "\r\n") t3][((k : Int).fmod 3).toNat]? = some (.str (sepF k) u) := by
        have e : ((k : Int).fmod 3).toNat = k % 3 := by rw [Int.fmod_eq_emod_of_nonneg _ (by decide)]; lia
        rw [e]
        unfold sepF
        have : k % 3 = 0 ∨ k % 3 = 1 ∨ k % 3 = 2 := by lia
        rcases this with h | h | h <;> rw [h] <;> exact ⟨_, rfl⟩
      obtain ⟨u, hu⟩ := key
      have hmod : 0 ≤ (k : Int).fmod 3 ∧ (k : Int).fmod 3 < 3 := by rw [Int.fmod_eq_emod_of_nonneg _ (by decide)]; lia
      refine subL (x := .str (sepF k) u) I.list hmod.1 (by lia) hu ?_
      have I := I.drop
      refine addS I (by have := sepF_len k; lia) fun s t6 I => hK _ _ ⟨g, FM.Le.refl g, I, t6, ?_⟩
      unfold partF; rw [hxd, if_pos h1]
    · rw [if_neg (by rw [decide_eq_true_eq]; lia)]
      refine cStr I fun s t1 I => addS I ?_ fun s t6 I => hK _ _ ⟨g, FM.Le.refl g, I, t6, ?_⟩
      · have : (Str.ofString "").length = 0 := by decide
        lia
      · unfold partF; rw [hxd, if_neg h1]
  · intro acc ws g s l I hws
    rw [hlen] at hws
    refine joinL I I.list hws ?_ fun s t' I => stN' I.drop fun s I => hQ g s t' l I
    have hB : ∀ y ∈ (List.range ts.length).map (partF ts), y.length ≤ 600 := fun y hy => by
      obtain ⟨k, _, rfl⟩ := List.mem_map.mp hy
      exact partF_len ts hts k
    unfold JoinOk
    rw [StrLaws.joinFits hB]
    · rfl
    · rw [List.length_map, List.length_range]
      show ts.length * 600 + ts.length * 0 ≤ _
      lia
end
end Mine
end
-- E3
noncomputable section
open PySem PySem.Calls PyProof.Rows PySem.W
set_option maxRecDepth 100000
set_option linter.unusedVariables false
namespace Mine
def dotB (x : Str) : Bool := x.cps.toList.take 1 == [46]
def dotT (x : Str) : Str := (if dotB x = true then Str.ofString "." else Str.empty) ++ x
theorem eq_list {x y : Str} (h : x.cps.toList = y.cps.toList) : x = y := by
  cases x with | mk a => cases y with | mk b =>
  have : a = b := Array.toList_inj.mp h
  rw [this]
theorem dotEq {x y : Str} (h : y.cps.toList = x.cps.toList.take 1) : (y == Str.ofString ".") = dotB x := by
  rw [← toList_beq, h, show (Str.ofString ".").cps.toList = [46] from by decide +kernel]; rfl
theorem len_app (a b : Str) : (a ++ b).length = a.length + b.length := by show (a.cps ++ b.cps).size = _; simp; rfl
theorem dotT_len (x : Str) : (dotT x).length ≤ 1 + x.length := by
  unfold dotT
  rw [len_app]
  have : (if dotB x = true then Str.ofString "." else Str.empty).length ≤ 1 := by split <;> decide
  omega
section
variable {prog : Program} {w : World} {A : Around} {E : Value → Shared → Prop} {s : Shared} {σ : OsState} {f : FM} {P : List Cell} {env : Env}
/-- text[:1] -/
theorem slice1 {value : Expr} {p pos pc : Pos} {k : Nat} {Q : Value → Shared → Prop}
    (h : wpAny (model prog w) A (eval value env) (fun o s₁ => ∃ (x : Str) (t : Tok) (σ : OsState) (f : FM) (P : List Cell), o = .str x t ∧ x.cps.size < 2 ^ 20 ∧ Inv σ f P s₁ ∧
       ∀ s' t' y, Inv σ f P s' → y.cps.toList = x.cps.toList.take 1 → Q (.str y t') s') E s)
    (ht : ∀ o r, letTemporaryGo value o r = pure () := by intro _ _; rfl) :
    wpAny (model prog w) A (eval (.Subscript value (.Slice none (some (.Constant (.int 1) k pc)) none p) pos) env) Q E s := by
  refine wpAny_Subscript_str_slice (wpAny_mono h (fun o s₁ h₁ => ?_) fun _ _ e => e) ht
  obtain ⟨x, t, σ, f, P, rfl, hsz, I, hQ⟩ := h₁
  refine wpAny_evalPart_none <| wpAny_evalPart_some <| cInt I fun s t1 I => ⟨x, t, none, some (1, t1), rfl, rfl, rfl, ?_⟩
  have I : Inv σ f P { s with heap := s.heap.push { cls := .type "slice", data := .fields #[.none, .int 1 t1, .none] } } := I.grow (fun b o e => Heap.get?_push_of_some _ e) rfl rfl
  by_cases h0 : x.cps.size = 0
  · have hx : x = ⟨#[]⟩ := by
      cases x with | mk a => have : a = #[] := Array.eq_empty_of_size_eq_zero h0
                             rw [this]
    subst hx
    exact hQ _ t _ I rfl
  · have hp : slicePicked x none (some (1, t1)) none = Builtin.Str.strSliceIndices ((none : Option Nat).map Int.ofNat) ((some 1).map Int.ofNat) 1 x.length := rfl
    unfold sliceMade
    rw [hp]
    have h1 : (none : Option Nat).getD 0 ≤ x.cps.size := Nat.zero_le _
    have h2 : (some 1).getD x.cps.size ≤ x.cps.size := by simp; omega
    by_cases hc : (((none : Option (Int × Tok)).map (·.1)).getD 1 == 1 && (Builtin.Str.strSliceIndices ((none : Option Nat).map Int.ofNat) ((some 1).map Int.ofNat) 1 x.length).length == x.length) = true
    · rw [if_pos hc]
      refine hQ _ t x I ?_
      have := pickStr_len x none (some 1) h1 h2 (by simpa using hc)
      simpa using this
    · rw [if_neg hc]
      have hpick := pickStr x none (some 1) h1 h2
      rw [hpick]
      refine ⟨?_, hQ _ _ ⟨_⟩ (I.to rfl rfl rfl) (by simp)⟩
      show (List.toArray _).size ≤ sizeLine
      rw [sizeLine_eq, List.size_toArray, List.length_take, List.length_drop, Array.length_toList]
      omega
end
section
variable {prog : Program} {w : World} {A : Around} {E : Value → Shared → Prop} {s : Shared} {σ : OsState} {f : FM} {P : List Cell} {mg mb : Str → Option Value} {pm cd doc : Value} {L : Addr} {m : Str → Option Value}
/-- sent = quotedata(whole) -/
theorem law_s3 {x : Str} {t : Tok} {Q : Flow → Shared → Prop} (R : Room A 4 90) (B : Base2 mg mb f) (I : Inv σ f ((L, FrameO m) :: P) s)
    (hm : m (Str.ofString "whole") = some (.str x t)) (hsz : x.cps.size < 2 ^ 10) (hsz2 : (fixF x).cps.size < 2 ^ 10)
    (hQ : ∀ s' t, Inv σ f ((L, FrameO (setM m (Str.ofString "sent") (.str (dotF (fixF x)) t))) :: P) s' → Q .next s') :
    wpAny (model prog w) A (exec (lawS 3) (lenv pm cd doc L)) Q E s := by
  refine wpAny_Assign_Name <| wpAny_Call_NameR <| gl I B.b.G B.b.nm.quotedata <| callF B.b.f5 <| wpAny_items_cons <| ldN I hm <| wpAny_items_nil ⟨_, _, _, FM.Le.refl f, I, ?_⟩
  exact quotedata_ct (R.le (by decide) (by decide)) B.b B.p36 B.p41 I hsz hsz2 fun s t I => stN' I fun s I => hQ s t I
end
end Mine
end
-- E4
noncomputable section
open PySem PySem.Calls PyProof.Rows PySem.W
set_option maxRecDepth 100000
set_option linter.unusedVariables false
namespace Mine
theorem joinOk_small {sep : Str} {ys : List Str} (hs : sep.length ≤ 2) (hB : ∀ y ∈ ys, y.length ≤ 1000) (hn : ys.length < 2 ^ 7) : JoinOk sep ys = true := by
  unfold JoinOk
  rw [StrLaws.joinFits hB]
  · rfl
  · have : ys.length * sep.length ≤ ys.length * 2 := Nat.mul_le_mul_left _ hs
    lia
section
variable {prog : Program} {w : World} {A : Around} {E : Value → Shared → Prop} {s : Shared} {σ : OsState} {f : FM} {P : List Cell} {mg mb : Str → Option Value} {pm cd doc : Value} {L : Addr} {m : Str → Option Value}
/-- if sent != .. or _fix_eols(whole) != .. -/
theorem law_s4 {a : Addr} {vs : List Value} {ts : List Str} {x y : Str} {t u : Tok} {Q : Flow → Shared → Prop} (R : Room A 4 90) (B : Base2 mg mb f) (I : Inv σ f ((L, FrameO m) :: P) s)
    (hw : m (Str.ofString "whole") = some (.str x t)) (hy : m (Str.ofString "sent") = some (.str y u)) (hc : CellF f (L + 1) (.ref a)) (hl : IsL f a vs) (hvs : Al AStr vs ts) (hts : ∀ t ∈ ts, t.length ≤ 2 ^ 9) (hsz : ts.length < 2 ^ 7)
    (hx : x.cps.size < 2 ^ 10) (law1 : y = Txt.join (Str.ofString "\r\n") (ts.map dotT)) (law2 : fixF x = Txt.join (Str.ofString "\r\n") ts)
    (hQ : ∀ g s', FM.Le f g → Inv σ g ((L, FrameO m) :: P) s' → Q .next s') :
    wpAny (model prog w) A (exec (lawS 4) (lenv pm cd doc L)) Q E s := by
  refine ifNot <| wpAny_isTrue_BoolOp <| wpAny_allTrue_Or_cons <| wpAny_isTrue_Compare1 <| ldN I hy ?_
  with_reducible refine methC F.slot_str_join F.type_str_join I star_comp (by decide) fun s t0 I => ?_
  refine compMap (σ := σ) (cl := []) Rd.str Rd.str dotT ts ((L, FrameO m) :: P) R.hand rfl rfl (by decide) (by decide) rfl (by lia) <| ldC (hc.is I) ⟨a, vs, f, rfl, hl, hvs, I, ?_, ?_⟩
  · intro C i v b g m' s H E hb hv l I hm
    refine absK fun K E' hK => ?_
    obtain ⟨tb, rfl⟩ := hv
    have hbl := hts b (List.mem_of_getElem? hb)
    have hbl' : b.cps.size ≤ 2 ^ 9 := hbl
    refine wpAny_BinOp <| wpAny_BinOp <| cStr I fun s t1 I => wpAny_Compare1 <| slice1 <| ldN I hm ⟨b, tb, _, _, _, rfl, by lia, I, fun s t2 y I hy => cStr I fun s t3 I => PyProof.Rows.eq_str ?_⟩
    rw [dotEq hy]
    refine mulSB I fun s t4 I => ldN I hm <| addS I ?_ fun s t5 I => hK _ _ ⟨g, FM.Le.refl g, I, t5, rfl⟩
    have : (if dotB b = true then Str.ofString "." else Str.empty).length ≤ 1 := by split <;> decide
    lia
  · intro acc ws g s l I hws
    refine joinL I I.list hws (joinOk_small (by decide) (fun y hy => ?_) (by rw [List.length_map]; lia)) fun s t' I => PyProof.Rows.ne_str <| wpAny_truthy_bool ?_
    · obtain ⟨b, hb, rfl⟩ := List.mem_map.mp hy
      have := hts b hb
      have := dotT_len b
      lia
    have I := I.drop
    have hc := hc.le l
    have hl := hl.le l
    have B := B.le l
    rw [if_neg (by rw [← law1]; simp)]
    refine wpAny_allTrue_Or_cons <| wpAny_isTrue_Compare1 <| wpAny_Call_NameR <| gl I B.b.G B.b.nm.fix_eols <| callF B.b.f6 <| wpAny_items_cons <| ldN I hw <| wpAny_items_nil ⟨_, _, _, FM.Le.refl g, I, ?_⟩
    refine fix_eols_ct (R.le (by decide) (by decide)) B.b B.p41 I hx fun s t1 I => ?_
    with_reducible refine methC F.slot_str_join F.type_str_join I star_name (by decide) fun s t0 I => ?_
    refine ldC (hc.is I) <| joinL I (hl.is I) hvs (joinOk_small (by decide) (fun y hy => by have := hts y hy; lia) hsz) fun s t' I => PyProof.Rows.ne_str <| wpAny_truthy_bool ?_
    rw [if_neg (by rw [law2]; simp)]
    exact wpAny_allTrue_Or_nil ⟨rfl, hQ g s l I⟩
end
end Mine
end
-- E5
noncomputable section
open PySem PySem.Calls PyProof.Rows PySem.W
set_option maxRecDepth 100000
set_option linter.unusedVariables false
namespace Mine
def undot (x : Str) : Str := if dotB x = true then ⟨(x.cps.toList.drop 1).toArray⟩ else x
theorem dotB_size {x : Str} (h : dotB x = true) : 1 ≤ x.cps.size := by
  unfold dotB at h
  by_cases h0 : x.cps.size = 0
  · have : x.cps.toList = [] := by rw [← List.length_eq_zero_iff]; simpa using h0
    rw [this] at h; cases h
  · lia
section
variable {prog : Program} {w : World} {A : Around} {E : Value → Shared → Prop} {s : Shared} {σ : OsState} {f : FM} {P : List Cell} {mg mb : Str → Option Value} {pm cd doc : Value} {L : Addr} {m : Str → Option Value}
/-- heard = [..] -/
theorem law_s5 {y : Str} {u : Tok} {ds : List Str} {Q : Flow → Shared → Prop} (R : Room A 4 90) (I : Inv σ f ((L, FrameO m) :: (L + 1 + 1, CellO none) :: P) s)
    (hy : m (Str.ofString "sent") = some (.str y u)) (hyl : y.length ≤ 2 ^ 20) (hsp : Txt.split y (Str.ofString "\r\n") = ds) (hds : ∀ t ∈ ds, t.length ≤ 2 ^ 10) (hsz : ds.length < 2 ^ 7)
    (hQ : ∀ g s' b ws, FM.Le f g → IsL g b ws → Al AStr ws (ds.map undot) → CellF g (L + 1 + 1) (.ref b) → Inv σ g ((L, FrameO m) :: P) s' → Q .next s') :
    wpAny (model prog w) A (exec (lawS 5) (lenv pm cd doc L)) Q E s := by
  refine wpAny_Assign_Name <| compMap (σ := σ) (cl := []) Rd.str Rd.str undot ds ((L, FrameO m) :: (L + 1 + 1, CellO none) :: P) R.hand rfl rfl (by decide) (by decide) rfl (by lia) <|
    meth1 F.plainAttrs_str F.slot_str_split F.type_str_split <| ldN I hy ⟨typeIs_str _ _ _, strNo, cStr I fun s t0 I => splitT I (by decide) hyl (by rw [hsp]; lia) fun D vs s I hvs => ?_⟩
  rw [hsp] at hvs
  obtain ⟨g1, l1, hD, I⟩ := I.freezeL
  refine ⟨D, vs, g1, rfl, hD, hvs, I, ?_, ?_⟩
  · intro C i v b g m' s H E hb hv l I hm
    refine absK fun K E' hK => ?_
    obtain ⟨tb, rfl⟩ := hv
    have hbl : b.cps.size ≤ 2 ^ 10 := hds b (List.mem_of_getElem? hb)
    refine wpAny_IfExp <| wpAny_isTrue_Compare1 <| slice1 <| ldN I hm ⟨b, tb, _, _, _, rfl, by lia, I, fun s t2 z I hz => cStr I fun s t3 I => PyProof.Rows.eq_str <| wpAny_truthy_bool ?_⟩
    rw [dotEq hz]
    by_cases hb : dotB b = true
    · rw [if_pos hb]
      have := dotB_size hb
      refine sliceS <| ldN I hm <| wpAny_evalPart_some <| cInt I fun s t1 I => wpAny_evalPart_none ⟨b, tb, some (1, t1), none, σ, g, _, rfl, rfl, rfl, by simpa using this, by simp, by lia, I, fun s t' z I hz => hK _ _ ⟨g, FM.Le.refl g, I, t', ?_⟩⟩
      unfold undot
      rw [if_pos hb]
      refine congrArg (fun x => Value.str x t') (eq_list ?_)
      rw [hz]
      simp
      exact List.take_of_length_le (by simp)
    · rw [if_neg hb]
      refine ldN I hm <| hK _ _ ⟨g, FM.Le.refl g, I, tb, ?_⟩
      unfold undot
      rw [if_neg hb]
  · intro acc ws g s l I hws
    obtain ⟨g2, l2, hacc, I⟩ := I.freezeL
    refine stC I.swap fun s I => ?_
    obtain ⟨g3, l3, hc, I⟩ := I.freezeC
    exact hQ g3 s acc ws (l1.trans (l.trans (l2.trans l3))) (hacc.le l3) hws hc I
/-- pieces = [_law_pieces(row) for row in rows] -/
theorem law_s6 {rv : Value} {rows : List (List Int)} {Q : Flow → Shared → Prop} (R : Room A 4 90) (B : Base2 mg mb f) (I : Inv σ f ((L, FrameO m) :: (L + 1 + 1 + 1, CellO none) :: P) s)
    (hm : m (Str.ofString "rows") = some rv) (hr : AL AInts f rv rows) (hok : ∀ r ∈ rows, RowOk r) (hlen : ∀ r ∈ rows, r.length < 2 ^ 7) (hsz : rows.length < 2 ^ 7)
    (hQ : ∀ g s' a ws, FM.Le f g → IsL g a ws → Al (APcs g) ws (rows.map piecesF) → CellF g (L + 1 + 1 + 1) (.ref a) → Inv σ g ((L, FrameO m) :: P) s' → Q .next s') :
    wpAny (model prog w) A (exec (lawS 6) (lenv pm cd doc L)) Q E s := by
  obtain ⟨l, vs, rfl, hl, hvs⟩ := hr
  refine wpAny_Assign_Name <| compMap (σ := σ) (cl := []) Rd.int.list Rd.pc.list piecesF rows ((L, FrameO m) :: (L + 1 + 1 + 1, CellO none) :: P) R.hand rfl rfl (by decide) (by decide) rfl (by lia) <| ldN I hm ⟨l, vs, f, rfl, hl, hvs, I, ?_, ?_⟩
  · intro C i v b g m' s H E hb hv l I hm
    refine absK fun K E' hK => ?_
    have hbm := List.mem_of_getElem? hb
    have B := B.le l
    refine wpAny_Call_NameR <| gl I B.b.G B.b.nm.law_pieces <| callF B.b.f27 <| wpAny_items_cons <| ldN I hm <| wpAny_items_nil ⟨_, _, _, FM.Le.refl g, I, ?_⟩
    exact law_pieces_ct (R.le (by decide) (by decide)) B.b I hv (hok b hbm) (by have := hlen b hbm; lia) fun g' s r l' I hr => hK _ _ ⟨g', l', I, hr⟩
  · intro acc ws g s l I hws
    obtain ⟨g1, l1, hacc, I⟩ := I.freezeL
    refine stC I.swap fun s I => ?_
    obtain ⟨g2, l2, hc, I⟩ := I.freezeC
    exact hQ g2 s acc ws (l.trans (l1.trans l2)) (hacc.le l2) (hws.mono fun _ _ h => Rd.pc.list.le (l1.trans l2) h) hc I
end
end Mine
end
-- P1
noncomputable section
open PySem PySem.Calls PyProof.Rows PySem.W
set_option maxRecDepth 100000
set_option linter.unusedVariables false
namespace Mine
/-- the signs of texts with a sign between them -/
def jn (sep : List Nat) : List (List Nat) → List Nat
  | [] => []
  | [x] => x
  | x :: y :: r => x ++ sep ++ jn sep (y :: r)
theorem cps_app (a b : Str) : (a ++ b).cps.toList = a.cps.toList ++ b.cps.toList := by
  show (a.cps ++ b.cps).toList = _
  simp
theorem join_cps (sep : Str) : ∀ ys : List Str, (Txt.join sep ys).cps.toList = jn sep.cps.toList (ys.map (·.cps.toList))
  | [] => by show (Builtin.Str.glued sep []).cps.toList = _; rw [StrLaws.glued_eq_join]; rfl
  | [x] => by show (Builtin.Str.glued sep [x]).cps.toList = _; rw [StrLaws.glued_eq_join]; rfl
  | x :: y :: r => by
    have ih := join_cps sep (y :: r)
    have e : Txt.join sep (x :: y :: r) = x ++ sep ++ Txt.join sep (y :: r) := by
      show Builtin.Str.glued sep _ = _ ++ Builtin.Str.glued sep _
      rw [StrLaws.glued_eq_join, StrLaws.glued_eq_join]; rfl
    rw [e, cps_app, cps_app, ih]; rfl
theorem jn_nil : ∀ xs : List (List Nat), jn [] xs = xs.flatten
  | [] => rfl
  | [x] => by simp [jn]
  | x :: y :: r => by rw [jn, jn_nil (y :: r)]; simp
theorem menuT_tc (k : Int) (h : 1 ≤ k ∧ k ≤ 5) : (menuT k).cps.toList = tc k := by
  have := five h
  rcases this with rfl | rfl | rfl | rfl | rfl <;> decide +kernel
theorem textF_tc (row : List Int) (h : RowOk row) : (textF row).cps.toList = row.flatMap tc := by
  unfold textF
  rw [join_cps, show (Str.ofString "").cps.toList = [] from by decide +kernel, jn_nil, List.map_map, List.flatMap_def]
  congr 1
  apply List.map_congr_left
  intro k hk
  exact menuT_tc k (h k hk)
theorem Al.ofMap {α β γ : Type} {F : α → γ → Prop} (φ : β → γ) : ∀ {as : List α} {bs : List β}, Al F as (bs.map φ) → Al (fun a b => F a (φ b)) as bs
  | [], [], _ => trivial
  | _ :: _, _ :: _, h => ⟨h.1, Al.ofMap φ h.2⟩
  | [], _ :: _, h => h.elim
  | _ :: _, [], h => h.elim
end Mine
end
-- E6
noncomputable section
open PySem PySem.Calls PyProof.Rows PySem.W
set_option maxRecDepth 100000
set_option linter.unusedVariables false
namespace Mine
def dotP (p : List (Option Str)) : List (Option Str) := (if p.take 1 = [some (Str.ofString "\\.")] then p.take 1 else []) ++ p
section
variable {prog : Program} {w : World} {A : Around} {E : Value → Shared → Prop} {s : Shared} {σ : OsState} {f : FM} {P : List Cell} {mg mb : Str → Option Value} {pm cd doc : Value} {L : Addr} {m : Str → Option Value}
/-- if heard != texts or [_translate(..)] != pieces -/
theorem law_s7 {rows : List (List Int)} {tA hA pA : Addr} {tw hw pw : List Value} {t74 : Array Value} {Q : Flow → Shared → Prop} (R : Room A 4 90) (B : Base2 mg mb f) (I : Inv σ f ((L, FrameO m) :: (74, TabO t74) :: P) s)
    (ct : CellF f (L + 1) (.ref tA)) (lt : IsL f tA tw) (vt : Al AStr tw (rows.map textF)) (ch : CellF f (L + 1 + 1) (.ref hA)) (lh : IsL f hA hw) (vh : Al AStr hw (rows.map textF))
    (cp : CellF f (L + 1 + 1 + 1) (.ref pA)) (lp : IsL f pA pw) (vp : Al (APcs f) pw (rows.map piecesF)) (law : rows.map trF = rows.map piecesF)
    (hok : ∀ r ∈ rows, RowOk r) (hlen : ∀ r ∈ rows, r.length < 2 ^ 6) (hsz : rows.length < 2 ^ 7)
    (hQ : ∀ g s', FM.Le f g → Inv σ g ((L, FrameO m) :: (74, TabO t74) :: P) s' → Q .next s') :
    wpAny (model prog w) A (exec (lawS 7) (lenv pm cd doc L)) Q E s := by
  refine ifNot <| wpAny_isTrue_BoolOp <| wpAny_allTrue_Or_cons <| wpAny_isTrue_Compare1 <| ldC (ch.is I) <| ldC (ct.is I) <|
    (EqR.rc Rd.str EqR.str ⟨hA, hw, rfl, lh, vh⟩ ⟨tA, tw, rfl, lt, vt⟩).2 prog w _ _ _ σ f _ _ (FM.Le.refl f) (R.le (by decide) (by decide)) I fun s I => wpAny_truthy_bool ?_
  rw [if_neg (by simp)]
  refine wpAny_allTrue_Or_cons <| wpAny_isTrue_Compare1 <| compMapG (F := fun _ v r => AStr v (textF r)) (σ := σ) (cl := []) (fun _ _ _ _ _ h => h) Rd.pc.list trF rows ((L, FrameO m) :: (74, TabO t74) :: P) R.hand rfl rfl (by decide) (by decide) rfl (by lia) <|
    ldC (ch.is I) ⟨hA, hw, f, rfl, lh, vh.ofMap textF, I, ?_, ?_⟩
  · intro C i v b g m' s H E hb hv l I hm
    refine absK fun K E' hK => ?_
    obtain ⟨tb, rfl⟩ := hv
    have hbm := List.mem_of_getElem? hb
    have B := B.le l
    have I : Inv σ g ((C, FrameO m') :: (L, FrameO m) :: (74, TabO t74) :: (P ++ H)) s := I
    refine wpAny_Call_NameR <| gl I B.b.G B.b.nm.translate <| callF B.tr.toI <| wpAny_items_cons <| ldN I hm <| wpAny_items_cons <| wpAny_Constant_none <| wpAny_items_cons <| cStr I fun s t2 I => wpAny_items_nil ⟨_, _, _, FM.Le.refl g, I, ?_⟩
    exact translate_ct (base := t74) (row := b) (R.le (by decide) (by decide)) B.b B.bb B.tr B.scm B.p60 (Inv.sel [2, 0, 1] (by decide) (by repeat (first | exact Nat.zero_le _ | apply Nat.succ_le_succ)) I) (textF_tc b (hok b hbm)) (hok b hbm) (by have := hlen b hbm; lia)
      fun g' s r l' I hr => hK _ _ ⟨g', l', Inv.sel [1, 2, 0] (by decide) (by repeat (first | exact Nat.zero_le _ | apply Nat.succ_le_succ)) I, hr⟩
  · intro acc ws g s l I hws
    obtain ⟨g1, l1, hacc, I⟩ := I.freezeL
    have l2 := l.trans l1
    refine ldC ((cp.le l2).is I) <|
      (EqR.rc Rd.pc.list (EqR.list Rd.pc EqR.pc) ⟨acc, ws, rfl, hacc, hws.mono fun _ _ h => Rd.pc.list.le l1 h⟩ ⟨pA, pw, rfl, lp.le l2, vp.mono fun _ _ h => Rd.pc.list.le l2 h⟩).2 prog w _ _ _ σ g1 _ _ (FM.Le.refl g1) (R.le (by decide) (by decide)) I fun s I => wpAny_truthy_bool ?_
    rw [if_neg (by rw [law]; simp)]
    exact wpAny_allTrue_Or_nil ⟨rfl, hQ g1 s l2 I⟩
end
end Mine
end
-- E7
noncomputable section
open PySem PySem.Calls PyProof.Rows PySem.W
set_option maxRecDepth 100000
set_option linter.unusedVariables false
namespace Mine
def dotR (row : List Int) : List Int := if row.take 1 = [3] then 3 :: row else row
section
variable {prog : Program} {w : World} {A : Around} {E : Value → Shared → Prop} {s : Shared} {σ : OsState} {f : FM} {P : List Cell} {mg mb : Str → Option Value} {pm cd doc : Value} {L : Addr} {m : Str → Option Value}
/-- if [_translate(..) for row in sent.split(..)] != [..] -/
theorem law_s8 {rows : List (List Int)} {y : Str} {u : Tok} {pA : Addr} {pw : List Value} {t74 : Array Value} {Q : Flow → Shared → Prop} (R : Room A 4 90) (B : Base2 mg mb f) (I : Inv σ f ((L, FrameO m) :: (74, TabO t74) :: P) s)
    (hy : m (Str.ofString "sent") = some (.str y u)) (hyl : y.length ≤ 2 ^ 20) (hsp : Txt.split y (Str.ofString "\r\n") = (rows.map dotR).map textF)
    (cp : CellF f (L + 1 + 1 + 1) (.ref pA)) (lp : IsL f pA pw) (vp : Al (APcs f) pw (rows.map piecesF)) (law : (rows.map dotR).map trF = (rows.map piecesF).map dotP)
    (hok : ∀ r ∈ rows.map dotR, RowOk r) (hlen : ∀ r ∈ rows.map dotR, r.length < 2 ^ 6) (hpl : ∀ p ∈ rows.map piecesF, p.length < 2 ^ 10) (hsz : rows.length < 2 ^ 7)
    (hQ : ∀ g s', FM.Le f g → Inv σ g ((L, FrameO m) :: (74, TabO t74) :: P) s' → Q .next s') :
    wpAny (model prog w) A (exec (lawS 8) (lenv pm cd doc L)) Q E s := by
  refine ifNot <| wpAny_isTrue_Compare1 <| compMapG (F := fun _ v r => AStr v (textF r)) (σ := σ) (cl := []) (fun _ _ _ _ _ h => h) Rd.pc.list trF (rows.map dotR) ((L, FrameO m) :: (74, TabO t74) :: P) R.hand rfl rfl (by decide) (by decide) rfl (by rw [List.length_map]; lia) <|
    meth1 F.plainAttrs_str F.slot_str_split F.type_str_split <| ldN I hy ⟨typeIs_str _ _ _, strNo, cStr I fun s t0 I => splitT I (by decide) hyl (by rw [hsp]; simp; lia) fun D vs s I hvs => ?_⟩
  rw [hsp] at hvs
  obtain ⟨g1, l1, hD, I⟩ := I.freezeL
  refine ⟨D, vs, g1, rfl, hD, hvs.ofMap textF, I, ?_, ?_⟩
  · intro C i v b g m' s H E hb hv l I hm
    refine absK fun K E' hK => ?_
    obtain ⟨tb, rfl⟩ := hv
    have hbm := List.mem_of_getElem? hb
    have B := B.le (l1.trans l)
    have I : Inv σ g ((C, FrameO m') :: (L, FrameO m) :: (74, TabO t74) :: (P ++ H)) s := I
    refine wpAny_Call_NameR <| gl I B.b.G B.b.nm.translate <| callF B.tr.toI <| wpAny_items_cons <| ldN I hm <| wpAny_items_cons <| wpAny_Constant_none <| wpAny_items_cons <| cStr I fun s t2 I => wpAny_items_nil ⟨_, _, _, FM.Le.refl g, I, ?_⟩
    exact translate_ct (base := t74) (row := b) (R.le (by decide) (by decide)) B.b B.bb B.tr B.scm B.p60 (Inv.sel [2, 0, 1] (by decide) (by repeat (first | exact Nat.zero_le _ | apply Nat.succ_le_succ)) I) (textF_tc b (hok b hbm)) (hok b hbm) (by have := hlen b hbm; lia)
      fun g' s r l' I hr => hK _ _ ⟨g', l', Inv.sel [1, 2, 0] (by decide) (by repeat (first | exact Nat.zero_le _ | apply Nat.succ_le_succ)) I, hr⟩
  · intro acc ws g s l I hws
    obtain ⟨g2, l2, hacc, I⟩ := I.freezeL
    have l3 := (l1.trans l).trans l2
    have lp := lp.le l3
    have vp : Al (APcs g2) pw (rows.map piecesF) := vp.mono fun _ _ h => Rd.pc.list.le l3 h
    have hws : Al (APcs g2) ws _ := hws.mono fun _ _ h => Rd.pc.list.le l2 h
    refine compMap (σ := σ) (cl := []) Rd.pc.list Rd.pc.list dotP (rows.map piecesF) ((L, FrameO m) :: (74, TabO t74) :: P) R.hand rfl rfl (by decide) (by decide) rfl (by rw [List.length_map]; lia) <| ldC ((cp.le l3).is I) ⟨pA, pw, g2, rfl, lp, vp, I, ?_, ?_⟩
    · intro C i v b g m' s H E hb hv l I hm
      refine absK fun K E' hK => ?_
      have hbl := hpl b (List.mem_of_getElem? hb)
      obtain ⟨la, lv, rfl, hl, hlv⟩ := hv
      have hll := hlv.len
      refine wpAny_BinOp <| wpAny_BinOp <| sliceL <| ldN I hm <| wpAny_evalPart_none <| wpAny_evalPart_some <| cInt I fun s t I => ⟨la, lv, _, _, _, _, _, rfl, hl.is I, by lia, .none, .int 1 t, I, fun r1 s I => ?_⟩
      rw [show slicePick lv.toArray none (some (1 : Int)) none = (lv.take 1).toArray from slicePick_upto' _ 1, List.toList_toArray] at I
      obtain ⟨g1, l1, h1, I⟩ := I.freezeL
      have hl := hl.le l1
      refine wpAny_Compare1 <| sliceL <| ldN I hm <| wpAny_evalPart_none <| wpAny_evalPart_some <| cInt I fun s t I => ⟨la, lv, _, _, _, _, _, rfl, hl.is I, by lia, .none, .int 1 t, I, fun r2 s I => ?_⟩
      rw [show slicePick lv.toArray none (some (1 : Int)) none = (lv.take 1).toArray from slicePick_upto' _ 1, List.toList_toArray] at I
      obtain ⟨g2, l2, h2, I⟩ := I.freezeL
      refine mkList <| wpAny_items_cons <| cStr I fun s t3 I => wpAny_items_nil ⟨by simp, _, _, _, I, fun r3 s I => ?_⟩
      obtain ⟨g3, l3, h3, I⟩ := I.freezeL
      have hl := hl.le (l2.trans l3)
      have h1 := h1.le (l2.trans l3)
      have h2 := h2.le l3
      refine (EqR.rc Rd.pc EqR.pc ⟨r2, _, rfl, h2, hlv.take 1⟩ ⟨r3, _, rfl, h3, Al.one (b := some (Str.ofString "\\.")) ⟨t3, rfl⟩⟩).1 prog w _ _ _ σ g3 _ _ (FM.Le.refl g3) (R.le (by decide) (by decide)) I fun s I => ?_
      refine mulLB I (h1.ex I) (by rw [List.length_take]; lia) fun r4 s I => ldN I.swap hm <| addLL I I.ex (hl.ex I) ?_ fun r5 s I => ?_
      · have : (if decide (b.take 1 = [some (Str.ofString "\\.")]) = true then lv.take 1 else []).length ≤ 1 := by
          split
          · rw [List.length_take]; lia
          · simp
        lia
      obtain ⟨g5, l5, h5, I⟩ := I.freezeL
      refine hK _ _ ⟨g5, l1.trans (l2.trans (l3.trans l5)), I.drop, r5, _, rfl, h5, ?_⟩
      unfold dotP
      refine Al.app ?_ hlv
      by_cases hc : b.take 1 = [some (Str.ofString "\\.")]
      · rw [if_pos hc, if_pos (by simpa using hc)]; exact hlv.take 1
      · rw [if_neg hc, if_neg (by simpa using hc)]; trivial
    · intro acc2 ws2 g s l I hws2
      obtain ⟨g4, l4, hacc2, I⟩ := I.freezeL
      have l5 := l.trans l4
      refine (EqR.rc Rd.pc.list (EqR.list Rd.pc EqR.pc) ⟨acc, ws, rfl, hacc.le l5, hws.mono fun _ _ h => Rd.pc.list.le l5 h⟩ ⟨acc2, ws2, rfl, hacc2, hws2.mono fun _ _ h => Rd.pc.list.le l4 h⟩).2 prog w _ _ _ σ g4 _ _ (FM.Le.refl g4) (R.le (by decide) (by decide)) I fun s I => wpAny_truthy_bool ?_
      exact ⟨by rw [law]; simp, hQ g4 s (l3.trans l5) I⟩
end
end Mine
end
-- E8
noncomputable section
open PySem PySem.Calls PyProof.Rows PySem.W
set_option maxRecDepth 100000
set_option linter.unusedVariables false
namespace Mine
def marksT (rows : List (List Int)) : List (List Int) := (List.range rows.length).map fun k => breadthF (trF (rows.getD k [])) ++ [(k : Int)]
def marksP (rows : List (List Int)) : List (List Int) := (List.range rows.length).map fun k => breadthF (piecesF (rows.getD k [])) ++ [(k : Int)]
theorem trStep_len (res : List (Option Str)) (k : Int) : (trStep res k).length ≤ res.length + 1 := by
  unfold trStep
  split
  · split <;> simp
  · simp
theorem trF_len (row : List Int) : (trF row).length ≤ row.length := by
  have : ∀ (row : List Int) (st : List (Option Str)), (row.foldl trStep st).length ≤ st.length + row.length := by
    intro row
    induction row with
    | nil => intro st; simp
    | cons k row ih =>
      intro st
      have h1 := ih (trStep st k)
      have h2 := trStep_len st k
      simp only [List.foldl_cons, List.length_cons]
      lia
  have := this row []
  simpa [trF] using this
section
variable {prog : Program} {w : World} {A : Around} {E : Value → Shared → Prop} {s : Shared} {σ : OsState} {f : FM} {P : List Cell} {mg mb : Str → Option Value} {pm cd doc : Value} {L : Addr} {m : Str → Option Value}
/-- marks = [..] -/
theorem law_s9 {rows : List (List Int)} {hA : Addr} {hw : List Value} {t74 : Array Value} {Q : Flow → Shared → Prop} (R : Room A 4 90) (B : Base2 mg mb f) (I : Inv σ f ((L, FrameO m) :: (L + 1 + 1 + 1 + 1, CellO none) :: (74, TabO t74) :: P) s)
    (ch : CellF f (L + 1 + 1) (.ref hA)) (lh : IsL f hA hw) (vh : Al AStr hw (rows.map textF))
    (hok : ∀ r ∈ rows, RowOk r) (hlen : ∀ r ∈ rows, r.length < 2 ^ 6) (hsz : rows.length < 2 ^ 7)
    (hQ : ∀ g s' a ws, FM.Le f g → Al (AInts g) ws (marksT rows) → CellF g (L + 1 + 1 + 1 + 1) (.ref a) → Inv σ g ((L, FrameO m) :: (a, ListO ws) :: (74, TabO t74) :: P) s' → Q .next s') :
    wpAny (model prog w) A (exec (lawS 9) (lenv pm cd doc L)) Q E s := by
  have vh := vh.ofMap textF
  have hl := vh.len
  refine wpAny_Assign_Name <| compRange (σ := σ) (cl := [(Str.ofString "heard", L + 1 + 1)]) Rd.int.list (fun k => breadthF (trF (rows.getD k [])) ++ [(k : Int)]) hw.length ((L, FrameO m) :: (L + 1 + 1 + 1 + 1, CellO none) :: (74, TabO t74) :: P) R.hand rfl rfl (by decide) (by decide) rfl (by lia) <|
    wpAny_Call_NameR <| bi I B.b.G B.b.nm.range0 B.b.B B.b.nm.range <| PyProof.Rows.callWith_type1 <| wpAny_items_cons <| wpAny_Call_NameR <| bi I B.b.G B.b.nm.len0 B.b.B B.b.nm.len <| callWith_builtin1 <|
        wpAny_items_cons <| ldC (ch.is I) <| wpAny_items_nil <| lenL I (lh.is I) (by lia) fun s t I => wpAny_items_nil <| mkRange I fun r s I => ⟨r, f, rfl, I, ?_, ?_⟩
  · intro C k t g m' s H E hk l I hm
    obtain ⟨b, hb, tb, hbv⟩ := vh.get k hw[k] (by simp [hk])
    have hbm := List.mem_of_getElem? hb
    have hbd : rows.getD k [] = b := by rw [List.getD_eq_getElem?_getD, hb]; rfl
    rw [hbd]
    refine absK fun K E' hK => ?_
    have B := B.le l
    have I : Inv σ g ((C, FrameO m') :: (L, FrameO m) :: (L + 1 + 1 + 1 + 1, CellO none) :: (74, TabO t74) :: (P ++ H)) s := I
    refine wpAny_BinOp <| wpAny_Call_NameR <| gl I B.b.G B.b.nm.law_breadth <| callF B.b.f28 <| wpAny_items_cons <| wpAny_Call_NameR <| gl I B.b.G B.b.nm.translate <| callF B.tr.toI <| wpAny_items_cons <|
      Subscript_ <| ldC ((ch.le l).is I) <| ldN I hm <| subN (x := hw[k]) ((lh.le l).is I) (by lia) (by simp [hk]) ?_
    rw [hbv]
    refine wpAny_items_cons <| wpAny_Constant_none <| wpAny_items_cons <| cStr I fun s t2 I => wpAny_items_nil ⟨_, _, _, FM.Le.refl g, I, ?_⟩
    refine translate_ct (base := t74) (row := b) (R.le (by decide) (by decide)) B.b B.bb B.tr B.scm B.p60 (Inv.sel [3, 0, 1, 2] (by decide) (by repeat (first | exact Nat.zero_le _ | apply Nat.succ_le_succ)) I) (textF_tc b (hok b hbm)) (hok b hbm) (by have := hlen b hbm; lia) fun g1 s r l1 I hr => ?_
    have I : Inv σ g1 ((C, FrameO m') :: (L, FrameO m) :: (L + 1 + 1 + 1 + 1, CellO none) :: (74, TabO t74) :: (P ++ H)) s := Inv.sel [1, 2, 3, 0] (by decide) (by repeat (first | exact Nat.zero_le _ | apply Nat.succ_le_succ)) I
    refine wpAny_items_nil ⟨_, _, _, l1, I, ?_⟩
    refine law_breadth_ct (R.le (by decide) (by decide)) (B.le l1).b I hr (by have := trF_len b; have := hlen b hbm; lia) fun g2 s r2 l2 I hr2 => ?_
    obtain ⟨la, lv, rfl, hla, hlv⟩ := hr2
    have h3 : lv.length = 3 := hlv.len
    refine mkList <| wpAny_items_cons <| ldN I hm <| wpAny_items_nil ⟨by simp, _, _, _, I, fun q s I => addLL I (hla.ex I) I.ex (by simp; lia) fun r5 s I => ?_⟩
    obtain ⟨g5, l5, h5, I⟩ := I.freezeL
    exact hK _ _ ⟨g5, l1.trans (l2.trans l5), I.drop, r5, _, rfl, h5, hlv.app (Al.one ⟨t, rfl⟩)⟩
  · intro acc ws g s l I hws
    have I : Inv σ g ((acc, ListO ws) :: (L, FrameO m) :: (L + 1 + 1 + 1 + 1, CellO none) :: (74, TabO t74) :: P) s := I
    rw [hl] at hws
    refine stC (Inv.sel [2, 0, 1] (by decide) (by repeat (first | exact Nat.zero_le _ | apply Nat.succ_le_succ)) I) fun s I => ?_
    obtain ⟨g2, l2, hc, I⟩ := I.freezeC
    exact hQ g2 s acc ws (l.trans l2) (hws.mono fun _ _ h => Rd.int.list.le l2 h) hc (Inv.sel [1, 0] (by decide) (by repeat (first | exact Nat.zero_le _ | apply Nat.succ_le_succ)) I)
/-- due = _law_rising([..]) -/
theorem law_s10 {rows : List (List Int)} {rv : Value} {pA : Addr} {pw : List Value} {Q : Flow → Shared → Prop} (R : Room A 4 90) (B : Base2 mg mb f) (I : Inv σ f ((L, FrameO m) :: P) s)
    (hm : m (Str.ofString "rows") = some rv) (hr : AL AInts f rv rows) (cp : CellF f (L + 1 + 1 + 1) (.ref pA)) (lp : IsL f pA pw) (vp : Al (APcs f) pw (rows.map piecesF))
    (hpl : ∀ p ∈ rows.map piecesF, p.length < 2 ^ 10) (hsz : rows.length < 2 ^ 7)
    (hQ : ∀ g s' v, FM.Le f g → AL AInts g v (risingF (marksP rows)) → Inv σ g ((L, FrameO (setM m (Str.ofString "due") v)) :: P) s' → Q .next s') :
    wpAny (model prog w) A (exec (lawS 10) (lenv pm cd doc L)) Q E s := by
  obtain ⟨rl, rvs, rfl, hrl, hrv⟩ := hr
  have hl := hrv.len
  have hpw : pw.length = rows.length := by rw [vp.len]; simp
  refine wpAny_Assign_Name <| wpAny_Call_NameR <| gl I B.b.G B.b.nm.law_rising <| callF B.b.f29 <| wpAny_items_cons <| compRange (σ := σ) (cl := [(Str.ofString "pieces", L + 1 + 1 + 1)]) Rd.int.list (fun k => breadthF (piecesF (rows.getD k [])) ++ [(k : Int)]) rvs.length ((L, FrameO m) :: P) R.hand rfl rfl (by decide) (by decide) rfl (by lia) <|
    wpAny_Call_NameR <| bi I B.b.G B.b.nm.range0 B.b.B B.b.nm.range <| PyProof.Rows.callWith_type1 <| wpAny_items_cons <| wpAny_Call_NameR <| bi I B.b.G B.b.nm.len0 B.b.B B.b.nm.len <| callWith_builtin1 <|
        wpAny_items_cons <| ldN I hm <| wpAny_items_nil <| lenL I (hrl.is I) (by lia) fun s t I => wpAny_items_nil <| mkRange I fun r s I => ⟨r, f, rfl, I, ?_, ?_⟩
  · intro C k t g m' s H E hk l I hm
    have vp : Al (APcs g) pw (rows.map piecesF) := vp.mono fun _ _ h => Rd.pc.list.le l h
    obtain ⟨b, hb, hbv⟩ := vp.get k pw[k] (by simp [hpw, ← hl, hk])
    have hbm := List.mem_of_getElem? hb
    have hbd : piecesF (rows.getD k []) = b := by
      rw [List.getElem?_map] at hb
      rw [List.getD_eq_getElem?_getD]
      cases hr : rows[k]? with
      | none => rw [hr] at hb; cases hb
      | some r => rw [hr] at hb; cases hb; rfl
    rw [hbd]
    refine absK fun K E' hK => ?_
    have B := B.le l
    refine wpAny_BinOp <| wpAny_Call_NameR <| gl I B.b.G B.b.nm.law_breadth <| callF B.b.f28 <| wpAny_items_cons <| Subscript_ <| ldC ((cp.le l).is I) <| ldN I hm <| subN (x := pw[k]) ((lp.le l).is I) (by lia) (by simp [hpw, ← hl, hk]) <|
      wpAny_items_nil ⟨_, _, _, FM.Le.refl g, I, ?_⟩
    refine law_breadth_ct (R.le (by decide) (by decide)) B.b I hbv (hpl b hbm) fun g2 s r2 l2 I hr2 => ?_
    obtain ⟨la, lv, rfl, hla, hlv⟩ := hr2
    have h3 : lv.length = 3 := hlv.len
    refine mkList <| wpAny_items_cons <| ldN I hm <| wpAny_items_nil ⟨by simp, _, _, _, I, fun q s I => addLL I (hla.ex I) I.ex (by simp; lia) fun r5 s I => ?_⟩
    obtain ⟨g5, l5, h5, I⟩ := I.freezeL
    exact hK _ _ ⟨g5, l2.trans l5, I.drop, r5, _, rfl, h5, hlv.app (Al.one ⟨t, rfl⟩)⟩
  · intro acc ws g s l I hws
    obtain ⟨g1, l1, hacc, I⟩ := I.freezeL
    rw [hl] at hws
    have l2 := l.trans l1
    have hms : (marksP rows).length = rows.length := by simp [marksP]
    refine wpAny_items_nil ⟨_, _, _, l2, I, law_rising_ct (ms := marksP rows) (R.le (by decide) (by decide)) (B.le l2).b I ⟨acc, ws, rfl, hacc, hws.mono fun _ _ h => Rd.int.list.le l1 h⟩ (by lia) fun g2 s r l3 I hr => stN' I fun s I => hQ g2 s r (l2.trans l3) hr I⟩
end
end Mine
end
-- E9
noncomputable section
open PySem PySem.Calls PyProof.Rows PySem.W
set_option maxRecDepth 100000
set_option linter.unusedVariables false
namespace Mine
abbrev ltP (x y : Value × List Int) : Bool := ltL x.2 y.2
theorem Al.zs {β : Type} {F : Value → β → Prop} : ∀ {vs : List Value} {xs : List β}, Al F vs xs → ∃ zs : List (Value × β), zs.map Prod.fst = vs ∧ zs.map Prod.snd = xs ∧ ∀ z ∈ zs, F z.1 z.2
  | [], [], _ => ⟨[], rfl, rfl, fun _ h => by cases h⟩
  | v :: vs, x :: xs, h => by
    obtain ⟨zs, h1, h2, h3⟩ := Al.zs h.2
    refine ⟨(v, x) :: zs, by rw [← h1]; rfl, by rw [← h2]; rfl, fun z hz => ?_⟩
    rcases List.mem_cons.mp hz with rfl | hz
    · exact h.1
    · exact h3 z hz
  | [], _ :: _, h => h.elim
  | _ :: _, [], h => h.elim
theorem cmpI {f : FM} {x y : Value × List Int} (hx : AInts f x.1 x.2) (hy : AInts f y.1 y.2) : CmpLt f x.1 y.1 (ltL x.2 y.2) := ((rcLt hx hy).up (by lia)).lt
section
variable {prog : Program} {w : World} {A : Around} {E : Value → Shared → Prop} {s : Shared} {σ : OsState} {f : FM} {P : List Cell} {mg mb : Str → Option Value} {pm cd doc : Value} {L : Addr} {m : Str → Option Value}
/-- if nsmallest(2, marks) != due[:2] -/
theorem law_s11 {a : Addr} {ws : List Value} {ms due : List (List Int)} {dv : Value} {Q : Flow → Shared → Prop} (R : Room A 4 90) (B : Base2 mg mb f) (I : Inv σ f ((L, FrameO m) :: (a, ListO ws) :: P) s)
    (hd : m (Str.ofString "due") = some dv) (hdv : AL AInts f dv due) (cm : CellF f (L + 1 + 1 + 1 + 1) (.ref a)) (hws : Al (AInts f) ws ms)
    (hsz : ms.length < 2 ^ 7) (h3 : 2 < ms.length) (hdl : due.length < 2 ^ 10) (law : nsF ms = due.take 2)
    (hQ : ∀ g s', FM.Le f g → Inv σ g ((L, FrameO m) :: (a, ListO ws) :: P) s' → Q .next s') :
    wpAny (model prog w) A (exec (lawS 11) (lenv pm cd doc L)) Q E s := by
  have I := I.swap
  have hfa : f a = none := I.sep (a, ListO ws) List.mem_cons_self
  obtain ⟨g1, l1, hA, I⟩ := I.freezeL
  have B1 := B.le l1
  obtain ⟨dl, dvs, rfl, hdl', hdvs⟩ := hdv
  have hdlen := hdvs.len
  refine ifNot <| wpAny_isTrue_Compare1 <| wpAny_Call_NameR <| gl I B1.b.G B1.b.nm.nsmallest <| callFD B1.ns <| wpAny_items_cons <| cInt I fun s t I => wpAny_items_cons <| ldC ((cm.le l1).is I) <| wpAny_items_nil ⟨_, _, _, FM.Le.refl g1, I, ?_⟩
  refine nsmallest_ct (R.le (by decide) (by decide)) B1.b B1.ns I ⟨a, ws, rfl, hA, hws.mono fun _ _ h => Rd.int.list.le l1 h⟩ (by lia) h3 fun g2 s r l2 I hr => ?_
  have l3 := l1.trans l2
  refine sliceL <| ldN I hd <| wpAny_evalPart_none <| wpAny_evalPart_some <| cInt I fun s t I => ⟨dl, dvs, _, _, _, _, _, rfl, (hdl'.le l3).is I, by lia, .none, .int 2 t, I, fun r2 s I => ?_⟩
  rw [show slicePick dvs.toArray none (some (2 : Int)) none = (dvs.take 2).toArray from slicePick_upto' _ 2, List.toList_toArray] at I
  obtain ⟨g3, l4, h2, I⟩ := I.freezeL
  have hdt : Al (AInts g3) (dvs.take 2) (due.take 2) := (hdvs.take 2).mono fun _ _ h => Rd.int.list.le (l3.trans l4) h
  refine (EqR.rc Rd.int.list (EqR.list Rd.int EqR.int) (Rd.int.list.list.le l4 hr) ⟨r2, _, rfl, h2, hdt⟩).2 prog w _ _ _ σ g3 _ _ (FM.Le.refl g3) (R.le (by decide) (by decide)) I fun s I => wpAny_truthy_bool ⟨by rw [law]; simp, ?_⟩
  exact hQ _ s (FM.le_del (l3.trans l4) hfa) (I.thaw (hA.le (l2.trans l4))).swap
/-- heapify(marks) -/
theorem law_s12 {a : Addr} {zs : List (Value × List Int)} {Q : Flow → Shared → Prop} (R : Room A 4 90) (B : Base2 mg mb f) (I : Inv σ f ((L, FrameO m) :: (a, ListO (zs.map Prod.fst)) :: P) s)
    (cm : CellF f (L + 1 + 1 + 1 + 1) (.ref a)) (hzs : ∀ z ∈ zs, AInts f z.1 z.2) (hsz : zs.length < 2 ^ 10)
    (hQ : ∀ s', Inv σ f ((L, FrameO m) :: (a, ListO ((heapifyF ltP (zs.length / 2) zs).map Prod.fst)) :: P) s' → Q .next s') :
    wpAny (model prog w) A (exec (lawS 12) (lenv pm cd doc L)) Q E s := by
  refine wpAny_Expr <| wpAny_Call_NameR <| gl I B.b.G B.b.nm.heapify <| callF B.b.f16 <| wpAny_items_cons <| ldC (cm.is I) <| wpAny_items_nil ⟨_, _, _, FM.Le.refl f, I, ?_⟩
  exact heapify_ct (lt := ltL) (zs := zs) (R.le (by decide) (by decide)) B.b I.swap (fun x hx y hy => cmpI (hzs x hx) (hzs y hy)) (by lia) fun s I => hQ s I.swap
end
end Mine
end
-- E10
noncomputable section
open PySem PySem.Calls PyProof.Rows PySem.W
set_option maxRecDepth 100000
set_option linter.unusedVariables false
namespace Mine
section
variable {prog : Program} {w : World} {A : Around} {E : Value → Shared → Prop} {s : Shared} {σ : OsState} {f : FM} {P : List Cell} {mg mb : Str → Option Value} {pm cd doc : Value} {L : Addr} {m : Str → Option Value}
/-- if heappushpop(marks, ..) != .. or .. -/
theorem law_s13 {a : Addr} {zs : List (Value × List Int)} {top : Value × List Int} {due : List (List Int)} {dv : Value} {Q : Flow → Shared → Prop} (R : Room A 4 90) (B : Base2 mg mb f) (I : Inv σ f ((L, FrameO m) :: (a, ListO (zs.map Prod.fst)) :: P) s)
    (hd : m (Str.ofString "due") = some dv) (hdv : AL AInts f dv due) (cm : CellF f (L + 1 + 1 + 1 + 1) (.ref a)) (hzs : ∀ z ∈ zs, AInts f z.1 z.2) (hsz : zs.length < 2 ^ 10)
    (htop : zs[0]? = some top) (hlo : ltL top.2 [0, 0, 0, -1] = false) (hhi : ltL top.2 [99, 0, 0, 0] = true) (hdue : due[0]? = some top.2)
    (hQ : ∀ g s' item, FM.Le f g → AInts g item [99, 0, 0, 0] → Inv σ g ((L, FrameO m) :: (a, ListO ((siftupF ltP (item, [99, 0, 0, 0]) (zs.set 0 (item, [99, 0, 0, 0])) 0).map Prod.fst)) :: P) s' → Q .next s') :
    wpAny (model prog w) A (exec (lawS 13) (lenv pm cd doc L)) Q E s := by
  have htm : top ∈ zs := List.mem_of_getElem? htop
  refine ifNot <| wpAny_isTrue_BoolOp <| wpAny_allTrue_Or_cons <| wpAny_isTrue_Compare1 <| wpAny_Call_NameR <| gl I B.b.G B.b.nm.heappushpop <| callF B.b.f15 <| wpAny_items_cons <| ldC (cm.is I) <| wpAny_items_cons ?_
  refine mkList <| wpAny_items_cons <| cInt I fun s t1 I => wpAny_items_cons <| cInt I fun s t2 I => wpAny_items_cons <| cInt I fun s t3 I => wpAny_items_cons <| wpAny_UnaryOp <| cInt I fun s t4 I => opNeg I fun s t4 I => wpAny_items_nil ⟨by simp, _, _, _, I, fun q1 s I => ?_⟩
  obtain ⟨g1, l1, h1, I⟩ := I.freezeL
  have B := B.le l1
  have hzs : ∀ z ∈ zs, AInts g1 z.1 z.2 := fun z hz => Rd.int.list.le l1 (hzs z hz)
  have cm := cm.le l1
  have hdv := Rd.int.list.list.le l1 hdv
  have hi1 : AInts g1 (.ref q1) [0, 0, 0, -1] := ⟨q1, _, rfl, h1, ⟨t1, rfl⟩, ⟨t2, rfl⟩, ⟨t3, rfl⟩, ⟨t4, rfl⟩, trivial⟩
  have mem : ∀ {g : FM} {item : Value × List Int}, (∀ z ∈ zs, AInts g z.1 z.2) → AInts g item.1 item.2 → ∀ x ∈ zs ++ [item], ∀ y ∈ zs ++ [item], CmpLt g x.1 y.1 (ltL x.2 y.2) := by
    intro g item hz hi x hx y hy
    have one : ∀ x ∈ zs ++ [item], AInts g x.1 x.2 := fun x hx => by
      rcases List.mem_append.mp hx with hx | hx
      · exact hz x hx
      · rw [List.mem_singleton.mp hx]; exact hi
    exact cmpI (one x hx) (one y hy)
  refine wpAny_items_nil ⟨_, _, _, l1, I, ?_⟩
  refine heappushpop_ct (lt := ltL) (zs := zs) (item := (.ref q1, [0, 0, 0, -1])) (top := top) (R.le (by decide) (by decide)) B.b I.swap htop (mem hzs hi1) (by lia) (fun s _ I => ?_) (fun s h _ => absurd (hlo.symm.trans h) (by simp))
  have I := I.swap
  refine mkList <| wpAny_items_cons <| cInt I fun s t1 I => wpAny_items_cons <| cInt I fun s t2 I => wpAny_items_cons <| cInt I fun s t3 I => wpAny_items_cons <| wpAny_UnaryOp <| cInt I fun s t4 I => opNeg I fun s t4 I => wpAny_items_nil ⟨by simp, _, _, _, I, fun q2 s I => ?_⟩
  obtain ⟨g2, l2, h2, I⟩ := I.freezeL
  have hi2 : AInts g2 (.ref q2) [0, 0, 0, -1] := ⟨q2, _, rfl, h2, ⟨t1, rfl⟩, ⟨t2, rfl⟩, ⟨t3, rfl⟩, ⟨t4, rfl⟩, trivial⟩
  refine (EqR.rc Rd.int EqR.int (Rd.int.list.le l2 hi1) hi2).2 prog w _ _ _ σ g2 _ _ (FM.Le.refl g2) (R.le (by decide) (by decide)) I fun s I => wpAny_truthy_bool ?_
  rw [if_neg (by simp)]
  have B := B.le l2
  have hzs : ∀ z ∈ zs, AInts g2 z.1 z.2 := fun z hz => Rd.int.list.le l2 (hzs z hz)
  have cm := cm.le l2
  have hdv := Rd.int.list.list.le l2 hdv
  refine wpAny_allTrue_Or_cons <| wpAny_isTrue_Compare1 <| wpAny_Call_NameR <| gl I B.b.G B.b.nm.heappushpop <| callF B.b.f15 <| wpAny_items_cons <| ldC (cm.is I) <| wpAny_items_cons ?_
  refine mkList <| wpAny_items_cons <| cInt I fun s t1 I => wpAny_items_cons <| cInt I fun s t2 I => wpAny_items_cons <| cInt I fun s t3 I => wpAny_items_cons <| cInt I fun s t4 I => wpAny_items_nil ⟨by simp, _, _, _, I, fun q3 s I => ?_⟩
  obtain ⟨g3, l3, h3, I⟩ := I.freezeL
  have B := B.le l3
  have hzs : ∀ z ∈ zs, AInts g3 z.1 z.2 := fun z hz => Rd.int.list.le l3 (hzs z hz)
  have hdv := Rd.int.list.list.le l3 hdv
  have hi3 : AInts g3 (.ref q3) [99, 0, 0, 0] := ⟨q3, _, rfl, h3, ⟨t1, rfl⟩, ⟨t2, rfl⟩, ⟨t3, rfl⟩, ⟨t4, rfl⟩, trivial⟩
  refine wpAny_items_nil ⟨_, _, _, l3, I, ?_⟩
  refine heappushpop_ct (lt := ltL) (zs := zs) (item := (.ref q3, [99, 0, 0, 0])) (top := top) (R.le (by decide) (by decide)) B.b I.swap htop (mem hzs hi3) (by lia) (fun s h _ => absurd (hhi.symm.trans h) (by simp)) (fun s _ I => ?_)
  have I := I.swap
  obtain ⟨dl, dvs, rfl, hdl, hdvs⟩ := hdv
  obtain ⟨v0, hv0, hva⟩ := hdvs.get' 0 top.2 hdue
  refine Subscript_ <| ldN I hd <| cInt I fun s t I => subL (x := v0) (hdl.is I) (by decide) (by decide) hv0 ?_
  refine (EqR.rc Rd.int EqR.int (hzs top htm) hva).2 prog w _ _ _ σ g3 _ _ (FM.Le.refl g3) (R.le (by decide) (by decide)) I fun s I => wpAny_truthy_bool ?_
  rw [if_neg (by simp)]
  exact wpAny_allTrue_Or_nil ⟨rfl, hQ g3 s _ (l1.trans (l2.trans l3)) hi3 I⟩
end
end Mine
end
-- E11
noncomputable section
open PySem PySem.Calls PyProof.Rows PySem.W
set_option maxRecDepth 100000
set_option linter.unusedVariables false
namespace Mine
def popH {α : Type} (lt : α → α → Bool) (zs : List α) : Option (α × List α) := match zs.getLast? with
  | none => none
  | some last => match zs.dropLast with
    | [] => some (last, [])
    | y :: ys => some (y, siftupF lt last (last :: ys) 0)
def popsH {α : Type} (lt : α → α → Bool) : Nat → List α → List α × List α
  | 0, zs => ([], zs)
  | n + 1, zs => match popH lt (popsH lt n zs).2 with
    | some (x, r) => ((popsH lt n zs).1 ++ [x], r)
    | none => popsH lt n zs
theorem popH_one {α : Type} (lt : α → α → Bool) (last : α) : popH lt [last] = some (last, []) := rfl
theorem popH_snoc {α : Type} (lt : α → α → Bool) (y : α) (ys : List α) (last : α) : popH lt (y :: ys ++ [last]) = some (y, siftupF lt last ((y :: ys).set 0 last) 0) := by
  unfold popH
  rw [List.getLast?_append]
  simp only [List.getLast?_singleton, Option.some_or]
  rw [List.dropLast_append_of_ne_nil (by simp)]
  simp
theorem popH_facts {α : Type} (lt : α → α → Bool) (zs : List α) (x : α) (r : List α) (h : popH lt zs = some (x, r)) : r.length + 1 = zs.length ∧ x ∈ zs ∧ ∀ y ∈ r, y ∈ zs := by
  rcases List.eq_nil_or_concat zs with rfl | ⟨ys, last, rfl⟩
  · cases h
  · rw [List.concat_eq_append] at h ⊢
    cases ys with
    | nil =>
      rw [List.nil_append, popH_one] at h
      cases h
      exact ⟨rfl, by simp, fun y hy => by cases hy⟩
    | cons y ys =>
      rw [popH_snoc] at h
      cases h
      refine ⟨by rw [siftupF_len]; simp, by simp, fun z hz => ?_⟩
      rcases siftupF_mem _ _ _ _ _ hz with rfl | hz
      · simp
      · rcases List.mem_or_eq_of_mem_set hz with hz | rfl
        · exact List.mem_append_left _ hz
        · simp
theorem popsH_facts {α : Type} (lt : α → α → Bool) (zs : List α) : ∀ n, (popsH lt n zs).2.length = zs.length - n ∧ (∀ y ∈ (popsH lt n zs).1, y ∈ zs) ∧ (∀ y ∈ (popsH lt n zs).2, y ∈ zs)
  | 0 => ⟨rfl, ⟨fun y h => (List.not_mem_nil h).elim, fun y h => h⟩⟩
  | n + 1 => by
    obtain ⟨h1, h2, h3⟩ := popsH_facts lt zs n
    unfold popsH
    cases hp : popH lt (popsH lt n zs).2 with
    | none =>
      refine ⟨?_, h2, h3⟩
      have : (popsH lt n zs).2 = [] := by
        unfold popH at hp
        cases hl : (popsH lt n zs).2.getLast? with
        | none => exact List.getLast?_eq_none_iff.mp hl
        | some last =>
          rw [hl] at hp
          dsimp only at hp
          split at hp <;> cases hp
      rw [this] at h1
      simp only [List.length_nil] at h1
      show (popsH lt n zs).2.length = _
      rw [this, List.length_nil]; omega
    | some xr =>
      obtain ⟨x, r⟩ := xr
      obtain ⟨f1, f2, f3⟩ := popH_facts lt _ x r hp
      refine ⟨by show r.length = _; omega, fun y hy => ?_, fun y hy => h3 y (f3 y hy)⟩
      rcases List.mem_append.mp hy with hy | hy
      · exact h2 y hy
      · rw [List.mem_singleton.mp hy]; exact h3 x f2
section
variable {prog : Program} {w : World} {A : Around} {E : Value → Shared → Prop} {s : Shared} {σ : OsState} {f : FM} {P : List Cell} {mg mb : Str → Option Value} {pm cd doc : Value} {L : Addr} {m : Str → Option Value}
theorem al_pairs {F : Value → List Int → Prop} : ∀ zs : List (Value × List Int), (∀ z ∈ zs, F z.1 z.2) → Al F (zs.map Prod.fst) (zs.map Prod.snd)
  | [], _ => trivial
  | z :: zs, h => ⟨h z List.mem_cons_self, al_pairs zs fun y hy => h y (List.mem_cons_of_mem _ hy)⟩
/-- return [heappop(marks) for mark in due] == due[1:] + [..] and marks == [] -/
theorem law_s14 {a : Addr} {zs : List (Value × List Int)} {due : List (List Int)} {dv : Value} {Q : Flow → Shared → Prop} (R : Room A 4 90) (B : Base2 mg mb f) (I : Inv σ f ((L, FrameO m) :: (a, ListO (zs.map Prod.fst)) :: P) s)
    (hd : m (Str.ofString "due") = some dv) (hdv : AL AInts f dv due) (cm : CellF f (L + 1 + 1 + 1 + 1) (.ref a)) (hzs : ∀ z ∈ zs, AInts f z.1 z.2) (hsz : zs.length < 2 ^ 10)
    (hlen : due.length = zs.length) (law : (popsH ltP zs.length zs).1.map Prod.snd = due.drop 1 ++ [[99, 0, 0, 0]])
    (hQ : ∀ g s', FM.Le f g → Inv σ g ((L, FrameO m) :: P) s' → Q (.ret (.bool true)) s') :
    wpAny (model prog w) A (exec (lawS 14) (lenv pm cd doc L)) Q E s := by
  obtain ⟨dl, dvs, rfl, hdl, hdvs⟩ := hdv
  have hdlen := hdvs.len
  refine wpAny_Return_some <| wpAny_And2 <| wpAny_Compare1 <| comp (σ := σ) (cl := [(Str.ofString "marks", L + 1 + 1 + 1 + 1)]) (fun i ws g P' => P' = (L, FrameO m) :: (a, ListO ((popsH ltP i zs).2.map Prod.fst)) :: P ∧ ws = (popsH ltP i zs).1.map Prod.fst) R.hand rfl rfl (by decide) (by decide) rfl <|
    ldN I hd <| iterL I (hdl.is I) fun it s I => ⟨it, dvs.length, _, _, f, _, rfl, by omega, Proto.list hdl, I, ⟨rfl, rfl⟩, ?_, ?_⟩
  · rintro C i v ws g P' m' s H E' hi hV ⟨rfl, rfl⟩ l I hm
    have B := (B.le l).b
    obtain ⟨f1, f2, f3⟩ := popsH_facts ltP zs i
    have I : Inv σ g ((C, FrameO m') :: (L, FrameO m) :: (a, ListO ((popsH ltP i zs).2.map Prod.fst)) :: (P ++ H)) s := I
    have hst : ∀ x r, popH ltP (popsH ltP i zs).2 = some (x, r) → popsH ltP (i + 1) zs = ((popsH ltP i zs).1 ++ [x], r) := fun x r h => by
      conv => lhs; unfold popsH
      rw [h]
    generalize hq : popsH ltP i zs = st at *
    obtain ⟨o, r⟩ := st
    dsimp only at *
    refine wpAny_pure ?_
    rw [if_pos rfl]
    refine absK fun K E1 hK => ?_
    refine wpAny_Call_NameR <| gl I B.G B.nm.heappop <| callF B.f14 <| wpAny_items_cons <| ldC ((cm.le l).is I) <| wpAny_items_nil ⟨_, _, _, FM.Le.refl g, I, ?_⟩
    rcases List.eq_nil_or_concat r with rfl | ⟨ys, last, rfl⟩
    · simp at f1; omega
    rw [List.concat_eq_append] at *
    refine heappop_ct (lt := ltL) (ys := ys) (last := last) (R.le (by decide) (by decide)) B (Inv.sel [2, 0, 1] (by decide) (by repeat (first | exact Nat.zero_le _ | apply Nat.succ_le_succ)) I) (fun x hx y hy => cmpI (Rd.int.list.le l (hzs x (f3 x hx))) (Rd.int.list.le l (hzs y (f3 y hy)))) (by simp at f1; omega) (fun s e I => ?_) (fun s y hy I => ?_)
    · subst e
      have h1 := hst last [] (popH_one ..)
      refine hK _ _ ⟨g, (L, FrameO m) :: (a, ListO []) :: P, m', FM.Le.refl g, Inv.sel [1, 2, 0] (by decide) (by repeat (first | exact Nat.zero_le _ | apply Nat.succ_le_succ)) I, ?_, ?_⟩
      · rw [h1]; rfl
      · rw [h1]; simp
    · cases ys with
      | nil => cases hy
      | cons y' ys =>
        obtain rfl : y' = y := by simpa using hy
        have h1 := hst _ _ (popH_snoc ltP y' ys last)
        refine hK _ _ ⟨g, (L, FrameO m) :: (a, ListO ((siftupF ltP last ((y' :: ys).set 0 last) 0).map Prod.fst)) :: P, m', FM.Le.refl g, Inv.sel [1, 2, 0] (by decide) (by repeat (first | exact Nat.zero_le _ | apply Nat.succ_le_succ)) I, ?_, ?_⟩
        · rw [h1]
        · rw [h1]; simp
  · rintro acc ws g P' s ⟨rfl, rfl⟩ l I
    rw [hdlen, hlen] at I
    obtain ⟨f1, f2, f3⟩ := popsH_facts ltP zs zs.length
    have hnil : (popsH ltP zs.length zs).2 = [] := by rw [← List.length_eq_zero_iff, f1]; omega
    rw [hnil] at I
    obtain ⟨g1, l1, hacc, I⟩ := I.freezeL
    have l2 := l.trans l1
    have hws : Al (AInts g1) ((popsH ltP zs.length zs).1.map Prod.fst) ((popsH ltP zs.length zs).1.map Prod.snd) := al_pairs _ fun z hz => Rd.int.list.le l2 (hzs z (f2 z hz))
    rw [law] at hws
    refine wpAny_BinOp <| sliceL <| ldN I hd <| wpAny_evalPart_some <| cInt I fun s t I => wpAny_evalPart_none ⟨dl, dvs, _, _, _, _, _, rfl, (hdl.le l2).is I, by omega, .int 1 t, .none, I, fun r2 s I => ?_⟩
    rw [show slicePick dvs.toArray (some (1 : Int)) none none = (dvs.drop 1).toArray from slicePick_from' _ 1, List.toList_toArray] at I
    refine mkList <| wpAny_items_cons <| mkList <| wpAny_items_cons <| cInt I fun s t1 I => wpAny_items_cons <| cInt I fun s t2 I => wpAny_items_cons <| cInt I fun s t3 I => wpAny_items_cons <| cInt I fun s t4 I => wpAny_items_nil ⟨by simp, _, _, _, I, fun q3 s I => ?_⟩
    obtain ⟨g2, l3, h3, I⟩ := I.freezeL
    have hi3 : AInts g2 (.ref q3) [99, 0, 0, 0] := ⟨q3, _, rfl, h3, ⟨t1, rfl⟩, ⟨t2, rfl⟩, ⟨t3, rfl⟩, ⟨t4, rfl⟩, trivial⟩
    refine wpAny_items_nil ⟨by simp, _, _, _, I, fun q4 s I => addLL I I.swap.ex I.ex (by simp; omega) fun r5 s I => ?_⟩
    obtain ⟨g3, l4, h5, I⟩ := I.freezeL
    have I := I.drop.drop
    have hdd : Al (AInts g3) (dvs.drop 1) (due.drop 1) := (hdvs.drop 1).mono fun _ _ h => Rd.int.list.le (l2.trans (l3.trans l4)) h
    refine (EqR.rc Rd.int.list (EqR.list Rd.int EqR.int) ⟨acc, _, rfl, hacc.le (l3.trans l4), hws.mono fun _ _ h => Rd.int.list.le (l3.trans l4) h⟩ ⟨r5, _, rfl, h5, hdd.app (Al.one (Rd.int.list.le l4 hi3))⟩).1 prog w _ _ _ σ g3 _ _ (FM.Le.refl g3) (R.le (by decide) (by decide)) I fun s I => ?_
    refine wpAny_truthy_bool ?_
    rw [if_pos (by simp)]
    have l5 := l2.trans (l3.trans l4)
    refine wpAny_Compare1 <| ldC ((cm.le l5).is I) <| mkList <| wpAny_items_nil ⟨by simp, _, _, _, I, fun q6 s I => ?_⟩
    obtain ⟨g4, l6, h6, I⟩ := I.freezeL
    have I : Inv σ g4 ((L, FrameO m) :: (a, ListO []) :: P) s := I
    obtain ⟨g5, l7, h7, I⟩ := I.swap.freezeL
    refine (EqR.rc Rd.int EqR.int (f := g5) (xs := []) (ys := []) ⟨a, _, rfl, h7, trivial⟩ ⟨q6, _, rfl, h6.le l7, trivial⟩).1 prog w _ _ _ σ g5 _ _ (FM.Le.refl g5) (R.le (by decide) (by decide)) I fun s I => ?_
    exact hQ g5 s (l5.trans (l6.trans l7)) I
end
end Mine
end
-- E12
noncomputable section
open PySem PySem.Calls PyProof.Rows PySem.W
set_option maxRecDepth 100000
set_option linter.unusedVariables false
namespace Mine
theorem heapifyF_len {α : Type} (lt : α → α → Bool) : ∀ (k : Nat) (xs : List α), (heapifyF lt k xs).length = xs.length
  | 0, xs => rfl
  | k + 1, xs => by
    unfold heapifyF
    cases hk : xs[k]? with
    | none => exact heapifyF_len lt k xs
    | some y =>
      dsimp only
      rw [heapifyF_len lt k, siftupF_len]
theorem heapifyF_mem {α : Type} (lt : α → α → Bool) : ∀ (k : Nat) (xs : List α) (z : α), z ∈ heapifyF lt k xs → z ∈ xs
  | 0, xs, z, h => h
  | k + 1, xs, z, h => by
    unfold heapifyF at h
    cases hk : xs[k]? with
    | none => rw [hk] at h; exact heapifyF_mem lt k xs z h
    | some y =>
      rw [hk] at h
      rcases siftupF_mem _ _ _ _ _ (heapifyF_mem lt k _ z h) with rfl | h
      · exact List.mem_of_getElem? hk
      · exact h
theorem setM_self (m : Str → Option Value) (x : Str) (v : Value) : setM m x v x = some v := if_pos rfl
theorem setM_ne {m : Str → Option Value} {x y : Str} {v : Value} (h : y ≠ x) : setM m x v y = m y := if_neg h
theorem al_map {F : Value → List Int → Prop} {zs : List (Value × List Int)} (h : ∀ z ∈ zs, F z.1 z.2) : Al F (zs.map Prod.fst) (zs.map Prod.snd) := al_pairs zs h
/-- the plain facts -/
structure Plain (rows : List (List Int)) : Prop where
  ok : ∀ r ∈ rows, RowOk r
  len : ∀ r ∈ rows, r.length < 2 ^ 6
  sz : rows.length < 2 ^ 7
  h3 : 2 < rows.length
  dok : ∀ r ∈ rows.map dotR, RowOk r
  dlen : ∀ r ∈ rows.map dotR, r.length < 2 ^ 6
  tlen : ∀ t ∈ rows.map textF, t.length ≤ 2 ^ 9
  wsz : (wholeF (rows.map textF)).cps.size < 2 ^ 10
  fsz : (fixF (wholeF (rows.map textF))).cps.size < 2 ^ 10
  ysz : (dotF (fixF (wholeF (rows.map textF)))).length ≤ 2 ^ 20
  law1 : dotF (fixF (wholeF (rows.map textF))) = Txt.join (Str.ofString "\r\n") ((rows.map textF).map dotT)
  law2 : fixF (wholeF (rows.map textF)) = Txt.join (Str.ofString "\r\n") (rows.map textF)
  spl : Txt.split (dotF (fixF (wholeF (rows.map textF)))) (Str.ofString "\r\n") = (rows.map textF).map dotT
  dts : (rows.map textF).map dotT = (rows.map dotR).map textF
  dtl : ∀ t ∈ (rows.map textF).map dotT, t.length ≤ 2 ^ 10
  und : ((rows.map textF).map dotT).map undot = rows.map textF
  trp : rows.map trF = rows.map piecesF
  dtr : (rows.map dotR).map trF = (rows.map piecesF).map dotP
  ppl : ∀ p ∈ rows.map piecesF, p.length < 2 ^ 10
  mks : marksT rows = marksP rows
  ns : nsF (marksP rows) = (risingF (marksP rows)).take 2
  heap : ∀ zs : List (Value × List Int), zs.map Prod.snd = marksP rows → ∃ top, (heapifyF ltP (zs.length / 2) zs)[0]? = some top ∧ ltL top.2 [0, 0, 0, -1] = false ∧ ltL top.2 [99, 0, 0, 0] = true ∧
    (risingF (marksP rows))[0]? = some top.2 ∧ ∀ item : Value, (popsH ltP zs.length (siftupF ltP (item, [99, 0, 0, 0]) ((heapifyF ltP (zs.length / 2) zs).set 0 (item, [99, 0, 0, 0])) 0)).1.map Prod.snd = (risingF (marksP rows)).drop 1 ++ [[99, 0, 0, 0]]
section
variable {prog : Program} {w : World} {A : Around} {E : Value → Shared → Prop} {s : Shared} {σ : OsState} {f : FM} {P : List Cell} {mg mb : Str → Option Value}
set_option maxHeartbeats 1000000 in
theorem law_ct {l : Addr} {vs : List Value} {ns : List Int} {t74 t157 : Array Value} {Q : Value → Shared → Prop} (R : Room A 6 100) (B : Base2 mg mb f) (F30 : FnI f 182 30)
    (I : Inv σ f ((74, TabO t74) :: (157, TabO t157) :: P) s) (hl : IsL f l vs) (hvs : Al AInt vs ns) (hsz : ns.length < 2 ^ 8) (pl : Plain (rowsOf ns))
    (hQ : ∀ g s', FM.Le f g → Inv σ g ((74, TabO t74) :: (157, TabO t157) :: P) s' → Q (.bool true) s') :
    wpAny (model prog w) A (call (.ref 182) [.ref l]) Q E s := by
  obtain ⟨pm, cd, doc, fn⟩ := F30
  have hlen := hvs.len
  refine enterC (d := 5) (u := 97) (binds := [(Str.ofString "script", .ref l)]) R I B.b.lim fn rfl (fun L x hx => by cases List.mem_singleton.mp hx; exact .inl rfl) (fun L p hp => ?_) ?_
  · rcases List.mem_cons.mp hp with rfl | hp
    · rfl
    rcases List.mem_cons.mp hp with rfl | hp
    · rfl
    rcases List.mem_cons.mp hp with rfl | hp
    · rfl
    rcases List.mem_cons.mp hp with rfl | hp
    · rfl
    cases hp
  intro L s I R
  have R : Room _ 4 90 := R.le (by decide) (by decide)
  have I : Inv σ f ((L, FrameO (fun y => if y = Str.ofString "script" then some (.ref l) else none)) :: (L + 1 + 1 + 1 + 1, CellO none) :: (L + 1 + 1 + 1, CellO none) :: (L + 1 + 1, CellO none) :: (L + 1, CellO none) :: (74, TabO t74) :: (157, TabO t157) :: P) s := I
  rw [lawBody]
  refine wpAny_execs_cons <| law_s0 R B I rfl hl hvs hsz fun g s rv l1 hr I => ?_
  have hm := setM_self (fun y => if y = Str.ofString "script" then some (Value.ref l) else none) (Str.ofString "rows") rv
  generalize setM (fun y => if y = Str.ofString "script" then some (Value.ref l) else none) (Str.ofString "rows") rv = m at I hm
  generalize rowsOf ns = rows at pl hr
  replace B := B.le l1
  have hrl : (rows.map textF).length < 2 ^ 7 := by rw [List.length_map]; exact pl.sz
  -- texts
  refine wpAny_execs_cons <| law_s1 R B (Inv.sel [0, 4, 6, 1, 2, 3, 5] (by decide) (by repeat (first | exact Nat.zero_le _ | apply Nat.succ_le_succ)) I) hm hr pl.ok (fun r h => by have := pl.len r h; lia) pl.sz fun g2 s tA tw l2 lt vt ct I => ?_
  replace I : Inv σ g2 ((L, FrameO m) :: (157, TabO t157) :: (L + 1 + 1 + 1 + 1, CellO none) :: (L + 1 + 1 + 1, CellO none) :: (L + 1 + 1, CellO none) :: (74, TabO t74) :: P) s := I
  replace B := B.le l2
  replace hr := Rd.int.list.list.le l2 hr
  -- whole
  refine wpAny_execs_cons <| law_s2 R B I ct lt vt pl.tlen hrl fun g3 s tk l3 I => ?_
  have hw := setM_self m (Str.ofString "whole") (.str (wholeF (rows.map textF)) tk)
  replace hm := (setM_ne (m := m) (x := Str.ofString "whole") (v := .str (wholeF (rows.map textF)) tk) (show Str.ofString "rows" ≠ Str.ofString "whole" by decide)).trans hm
  generalize setM m (Str.ofString "whole") (.str (wholeF (rows.map textF)) tk) = m at I hm hw
  replace B := B.le l3
  replace hr := Rd.int.list.list.le l3 hr
  replace lt := lt.le l3
  replace ct := ct.le l3
  -- sent
  refine wpAny_execs_cons <| law_s3 R B I hw pl.wsz pl.fsz fun s tk I => ?_
  have hy := setM_self m (Str.ofString "sent") (.str (dotF (fixF (wholeF (rows.map textF)))) tk)
  replace hm := (setM_ne (m := m) (x := Str.ofString "sent") (v := .str (dotF (fixF (wholeF (rows.map textF)))) tk) (show Str.ofString "rows" ≠ Str.ofString "sent" by decide)).trans hm
  replace hw := (setM_ne (m := m) (x := Str.ofString "sent") (v := .str (dotF (fixF (wholeF (rows.map textF)))) tk) (show Str.ofString "whole" ≠ Str.ofString "sent" by decide)).trans hw
  generalize setM m (Str.ofString "sent") (.str (dotF (fixF (wholeF (rows.map textF)))) tk) = m at I hm hw hy
  -- the first if
  refine wpAny_execs_cons <| law_s4 R B I hw hy ct lt vt pl.tlen hrl pl.wsz pl.law1 pl.law2 fun g4 s l4 I => ?_
  replace B := B.le l4
  replace hr := Rd.int.list.list.le l4 hr
  replace lt := lt.le l4
  replace ct := ct.le l4
  -- heard
  refine wpAny_execs_cons <| law_s5 R (Inv.sel [0, 4, 1, 2, 3, 5] (by decide) (by repeat (first | exact Nat.zero_le _ | apply Nat.succ_le_succ)) I) hy pl.ysz pl.spl pl.dtl (by rw [List.length_map]; exact hrl) fun g5 s hA hw5 l5 lh vh ch I => ?_
  replace I : Inv σ g5 ((L, FrameO m) :: (157, TabO t157) :: (L + 1 + 1 + 1 + 1, CellO none) :: (L + 1 + 1 + 1, CellO none) :: (74, TabO t74) :: P) s := I
  rw [pl.und] at vh
  replace B := B.le l5
  replace hr := Rd.int.list.list.le l5 hr
  replace lt := lt.le l5
  replace ct := ct.le l5
  -- pieces
  refine wpAny_execs_cons <| law_s6 R B (Inv.sel [0, 3, 1, 2, 4] (by decide) (by repeat (first | exact Nat.zero_le _ | apply Nat.succ_le_succ)) I) hm hr pl.ok (fun r h => by have := pl.len r h; lia) pl.sz fun g6 s pA pw l6 lp vp cp I => ?_
  replace I : Inv σ g6 ((L, FrameO m) :: (157, TabO t157) :: (L + 1 + 1 + 1 + 1, CellO none) :: (74, TabO t74) :: P) s := I
  replace B := B.le l6
  replace hr := Rd.int.list.list.le l6 hr
  -- the second if
  refine wpAny_execs_cons <| law_s7 R B (Inv.sel [0, 3, 1, 2] (by decide) (by repeat (first | exact Nat.zero_le _ | apply Nat.succ_le_succ)) I) (ct.le l6) (lt.le l6) vt (ch.le l6) (lh.le l6) vh cp lp vp pl.trp pl.ok pl.len pl.sz fun g7 s l7 I => ?_
  replace I : Inv σ g7 ((L, FrameO m) :: (74, TabO t74) :: (157, TabO t157) :: (L + 1 + 1 + 1 + 1, CellO none) :: P) s := I
  replace B := B.le l7
  replace hr := Rd.int.list.list.le l7 hr
  -- the third if
  refine wpAny_execs_cons <| law_s8 R B I hy pl.ysz (pl.spl.trans pl.dts) (cp.le l7) (lp.le l7) (vp.mono fun _ _ h => Rd.pc.list.le l7 h) pl.dtr pl.dok pl.dlen pl.ppl pl.sz fun g8 s l8 I => ?_
  replace B := B.le l8
  replace hr := Rd.int.list.list.le l8 hr
  have l78 := l7.trans l8
  replace cp := cp.le l78
  replace lp := lp.le l78
  replace vp : Al (APcs g8) pw (rows.map piecesF) := vp.mono fun _ _ h => Rd.pc.list.le l78 h
  -- marks
  refine wpAny_execs_cons <| law_s9 R B (Inv.sel [0, 3, 1, 2] (by decide) (by repeat (first | exact Nat.zero_le _ | apply Nat.succ_le_succ)) I) (ch.le (l6.trans l78)) (lh.le (l6.trans l78)) vh pl.ok pl.len pl.sz fun g9 s a ws l9 vm cm I => ?_
  replace I : Inv σ g9 ((L, FrameO m) :: (a, ListO ws) :: (74, TabO t74) :: (157, TabO t157) :: P) s := I
  rw [pl.mks] at vm
  replace B := B.le l9
  replace hr := Rd.int.list.list.le l9 hr
  -- due
  refine wpAny_execs_cons <| law_s10 R B I hm hr (cp.le l9) (lp.le l9) (vp.mono fun _ _ h => Rd.pc.list.le l9 h) pl.ppl pl.sz fun g10 s dv l10 hdv I => ?_
  have hd := setM_self m (Str.ofString "due") dv
  generalize setM m (Str.ofString "due") dv = m at I hd
  replace B := B.le l10
  replace vm : Al (AInts g10) ws (marksP rows) := vm.mono fun _ _ h => Rd.int.list.le l10 h
  replace cm := cm.le l10
  have hml : (marksP rows).length = rows.length := by simp [marksP]
  have hdl : (risingF (marksP rows)).length = rows.length := by rw [risingF, foldl_insM_len, hml]; simp
  have hsz := pl.sz
  -- nsmallest
  refine wpAny_execs_cons <| law_s11 R B I hd hdv cm vm (by lia) (by have := pl.h3; lia) (by lia) pl.ns fun g11 s l11 I => ?_
  replace B := B.le l11
  replace vm : Al (AInts g11) ws (marksP rows) := vm.mono fun _ _ h => Rd.int.list.le l11 h
  replace cm := cm.le l11
  replace hdv := Rd.int.list.list.le l11 hdv
  obtain ⟨zs, rfl, hz2, hzs⟩ := vm.zs
  have hzl : zs.length = rows.length := by rw [← hml, ← hz2, List.length_map]
  obtain ⟨top, ht1, ht2, ht3, ht4, ht5⟩ := pl.heap zs hz2
  -- heapify
  refine wpAny_execs_cons <| law_s12 R B I cm hzs (by lia) fun s I => ?_
  have hhl := heapifyF_len ltP (zs.length / 2) zs
  have hhm : ∀ z ∈ heapifyF ltP (zs.length / 2) zs, AInts g11 z.1 z.2 := fun z hz => hzs z (heapifyF_mem _ _ _ z hz)
  -- heappushpop
  refine wpAny_execs_cons <| law_s13 R B I hd hdv cm hhm (by lia) ht1 ht2 ht3 ht4 fun g13 s item l13 hit I => ?_
  replace B := B.le l13
  replace cm := cm.le l13
  replace hdv := Rd.int.list.list.le l13 hdv
  generalize hh : siftupF ltP (item, [99, 0, 0, 0]) ((heapifyF ltP (zs.length / 2) zs).set 0 (item, [99, 0, 0, 0])) 0 = hp at I
  have hpl : hp.length = zs.length := by rw [← hh, siftupF_len, List.length_set, hhl]
  have hpm : ∀ z ∈ hp, AInts g13 z.1 z.2 := by
    intro z hz
    rw [← hh] at hz
    rcases siftupF_mem _ _ _ _ _ hz with rfl | hz
    · exact hit
    · rcases List.mem_or_eq_of_mem_set hz with hz | rfl
      · exact Rd.int.list.le l13 (hhm z hz)
      · exact hit
  have ht5 := ht5 item
  rw [hh, ← hpl] at ht5
  -- return
  refine wpAny_execs_cons <| law_s14 R B I hd hdv cm hpm (by lia) (by lia) ht5 fun g14 s l14 I => ?_
  exact hQ g14 s (l1.trans <| l2.trans <| l3.trans <| l4.trans <| l5.trans <| l6.trans <| l78.trans <| l9.trans <| l10.trans <| l11.trans <| l13.trans l14) I.drop
end
end Mine
end
-- P2
noncomputable section
open PySem PySem.Calls PyProof.Rows PySem.W
set_option maxRecDepth 100000
set_option linter.unusedVariables false
namespace Mine
def weight (st : List (List Int) × List Int) : Nat := (st.1.map (·.length)).sum + st.2.length
theorem rowsStep_weight (st : List (List Int) × List Int) (x : Int) : weight (rowsStep st x) ≤ weight st + 1 ∧ (rowsStep st x).1.length ≤ st.1.length + 1 ∧ st.1.length ≤ (rowsStep st x).1.length := by
  unfold rowsStep weight
  split
  · simp
  · simp; lia
theorem rowsFold_weight : ∀ (ns : List Int) (st : List (List Int) × List Int), weight (ns.foldl rowsStep st) ≤ weight st + ns.length ∧ (ns.foldl rowsStep st).1.length ≤ st.1.length + ns.length ∧ st.1.length ≤ (ns.foldl rowsStep st).1.length
  | [], st => ⟨by simp, by simp, by simp⟩
  | n :: ns, st => by
    obtain ⟨h1, h2, h3⟩ := rowsStep_weight st n
    obtain ⟨h4, h5, h6⟩ := rowsFold_weight ns (rowsStep st n)
    simp only [List.foldl_cons, List.length_cons]
    lia
theorem rowsOf_sizes (ns : List Int) : (rowsOf ns).length ≤ 27 ∧ ((rowsOf ns).map (·.length)).sum ≤ 26 := by
  obtain ⟨h1, h2, _⟩ := rowsFold_weight (ns.take 8 ++ tailNs) ([], [])
  have hl : (ns.take 8 ++ tailNs).length ≤ 26 := by
    have : tailNs.length = 18 := rfl
    rw [List.length_append, List.length_take, this]; lia
  unfold rowsOf rowsF
  generalize ns.take 8 ++ tailNs = xs at *
  unfold weight at h1
  simp only [List.length_append, List.length_singleton, List.map_append, List.sum_append, List.map_cons, List.map_nil, List.sum_cons, List.sum_nil, Nat.add_zero, List.length_nil, Nat.zero_add] at h1 h2 ⊢
  lia
theorem le_sum {α : Type} (φ : α → Nat) : ∀ (xs : List α) (x : α), x ∈ xs → φ x ≤ (xs.map φ).sum
  | y :: ys, x, h => by
    rw [List.map_cons, List.sum_cons]
    rcases List.mem_cons.mp h with rfl | h
    · lia
    · have := le_sum φ ys x h; lia
theorem rowsOf_len (ns : List Int) : ∀ r ∈ rowsOf ns, r.length ≤ 26 := fun r h => Nat.le_trans (le_sum (·.length) _ r h) (rowsOf_sizes ns).2
theorem rowsOf_3 (ns : List Int) : 2 < (rowsOf ns).length := by
  have e : rowsOf ns = ((tailNs.foldl rowsStep ((ns.take 8).foldl rowsStep ([], []))).1 ++ [(tailNs.foldl rowsStep ((ns.take 8).foldl rowsStep ([], []))).2]) := by
    unfold rowsOf rowsF
    rw [List.foldl_append]
  rw [e]
  generalize (ns.take 8).foldl rowsStep ([], []) = st
  obtain ⟨a, b⟩ := st
  have h : (tailNs.foldl rowsStep (a, b)).1.length = a.length + 5 := by
    have : ∀ x : Int, (x.fmod 6 = 0) = (x.fmod 6 = 0) := fun _ => rfl
    simp [tailNs, rowsStep, show (3 : Int).fmod 6 = 3 from by decide, show (1 : Int).fmod 6 = 1 from by decide, show (0 : Int).fmod 6 = 0 from by decide, show (4 : Int).fmod 6 = 4 from by decide, show (2 : Int).fmod 6 = 2 from by decide, show (5 : Int).fmod 6 = 5 from by decide]
  rw [List.length_append, h]
  simp
theorem dotR_ok {r : List Int} (h : RowOk r) : RowOk (dotR r) := by
  unfold dotR
  split
  · intro k hk
    rcases List.mem_cons.mp hk with rfl | hk
    · decide
    · exact h k hk
  · exact h
theorem dotR_len (r : List Int) : (dotR r).length ≤ r.length + 1 := by
  unfold dotR; split <;> simp
theorem tc_len (k : Int) : (tc k).length ≤ 4 := by unfold tc; repeat (first | split | decide)
theorem flat_tc_len : ∀ r : List Int, (r.flatMap tc).length ≤ 4 * r.length
  | [] => by simp
  | k :: r => by
    have := tc_len k
    have := flat_tc_len r
    simp only [List.flatMap_cons, List.length_append, List.length_cons]; lia
theorem textF_len {r : List Int} (h : RowOk r) : (textF r).length ≤ 4 * r.length := by
  show (textF r).cps.size ≤ _
  rw [← Array.length_toList, textF_tc r h]
  exact flat_tc_len r
theorem dotB_textF {r : List Int} (h : RowOk r) : dotB (textF r) = decide (r.take 1 = [3]) := by
  unfold dotB
  rw [textF_tc r h]
  cases r with
  | nil => rfl
  | cons k r =>
    have hk := h k List.mem_cons_self
    have := five hk
    rcases this with rfl | rfl | rfl | rfl | rfl <;> rfl
theorem dotT_textF {r : List Int} (h : RowOk r) : dotT (textF r) = textF (dotR r) := by
  refine eq_list ?_
  unfold dotT dotR
  rw [cps_app, dotB_textF h, textF_tc r h]
  by_cases hc : r.take 1 = [3]
  · rw [if_pos (by simpa using hc), if_pos hc, textF_tc]
    · rfl
    · intro k hk
      rcases List.mem_cons.mp hk with rfl | hk
      · decide
      · exact h k hk
  · rw [if_neg (by simpa using hc), if_neg hc, textF_tc r h]
    rfl
theorem undot_dotT (x : Str) : undot (dotT x) = x := by
  by_cases hb : dotB x = true
  · have h1 : (dotT x).cps.toList = 46 :: x.cps.toList := by
      unfold dotT
      rw [if_pos hb, cps_app]; rfl
    have h2 : dotB (dotT x) = true := by unfold dotB; rw [h1]; rfl
    unfold undot
    rw [if_pos h2, h1]
    exact eq_list (by simp)
  · have h1 : dotT x = x := by
      unfold dotT
      rw [if_neg hb]
      exact eq_list (by rw [cps_app]; rfl)
    unfold undot
    rw [h1, if_neg hb]
/-- pieces -/
theorem trStep_cons (p : Option Str) (st : List (Option Str)) (h : st ≠ []) (k : Int) : trStep (p :: st) k = p :: trStep st k := by
  unfold trStep
  have e : (p :: st).getLast? = st.getLast? := by
    cases st with
    | nil => exact absurd rfl h
    | cons q st => rw [List.getLast?_cons_cons]
  rw [e]
  by_cases k1 : k = 1
  · rw [if_pos k1, if_pos k1]
    by_cases hl : st.getLast? ≠ some none
    · rw [if_pos (.inr hl), if_pos (.inr hl)]; rfl
    · rw [if_neg (by simp [h]; simpa using hl), if_neg (by simp [h]; simpa using hl)]
  · rw [if_neg k1, if_neg k1]; rfl
theorem trFold_cons (p : Option Str) : ∀ (r : List Int) (st : List (Option Str)), st ≠ [] → r.foldl trStep (p :: st) = p :: r.foldl trStep st
  | [], st, h => rfl
  | k :: r, st, h => by
    rw [List.foldl_cons, trStep_cons p st h, trFold_cons p r _ ?_, List.foldl_cons]
    unfold trStep
    split
    · split
      · simp
      · exact h
    · simp
theorem trF_dotR {r : List Int} (h : RowOk r) : trF (dotR r) = dotP (trF r) := by
  unfold dotR dotP
  cases r with
  | nil => rfl
  | cons k r =>
    have hk := h k List.mem_cons_self
    have hne : trStep [] k ≠ [] := by unfold trStep; split <;> simp
    have h0 : trF (k :: r) = r.foldl trStep (trStep [] k) := rfl
    have hst : trStep [] k = [menuP k] := by
      unfold trStep
      by_cases k1 : k = 1
      · rw [if_pos k1, if_pos (.inl rfl), k1]; rfl
      · rw [if_neg k1]; rfl
    have hfirst : ∀ (r : List Int) (st : List (Option Str)) (p : Option Str), (r.foldl trStep (p :: st)).take 1 = [p] := by
      intro r
      induction r with
      | nil => intro st p; simp
      | cons k r ih =>
        intro st p
        rw [List.foldl_cons]
        have : ∃ st', trStep (p :: st) k = p :: st' := by
          unfold trStep
          split
          · split
            · exact ⟨_, rfl⟩
            · exact ⟨_, rfl⟩
          · exact ⟨_, rfl⟩
        obtain ⟨st', e⟩ := this
        rw [e]; exact ih st' p
    rw [h0, hst, hfirst r [] (menuP k)]
    by_cases hc : (k :: r).take 1 = [3]
    · have k3 : k = 3 := by simpa using hc
      subst k3
      rw [if_pos hc, if_pos (show [menuP 3] = [some (Str.ofString "\\.")] from rfl)]
      show r.foldl trStep (trStep [menuP 3] 3) = _
      have : trStep [menuP 3] 3 = menuP 3 :: [menuP 3] := rfl
      rw [this, trFold_cons _ r _ (by simp)]
      rfl
    · have k3 : k ≠ 3 := fun e => hc (by rw [e]; rfl)
      rw [if_neg hc, if_neg, h0, hst]
      · rfl
      · have : k = 1 ∨ k = 2 ∨ k = 4 ∨ k = 5 := by lia
        rcases this with rfl | rfl | rfl | rfl
        · simp [menuP]
        · simp only [menuP]; decide +kernel
        · simp only [menuP]; decide +kernel
        · simp only [menuP]; decide +kernel
end Mine
end
-- P3
noncomputable section
open PySem PySem.Calls PyProof.Rows PySem.W
set_option maxRecDepth 100000
set_option linter.unusedVariables false
namespace Mine
def fixL : List Nat → List Nat
  | [] => []
  | [c] => if c = 10 ∨ c = 13 then [13, 10] else [c]
  | c :: d :: r => if c = 13 ∧ d = 10 then 13 :: 10 :: fixL r else if c = 10 ∨ c = 13 then 13 :: 10 :: fixL (d :: r) else c :: fixL (d :: r)
theorem fixL_plain {c : Nat} (h : ¬(c = 10 ∨ c = 13)) (r : List Nat) : fixL (c :: r) = c :: fixL r := by
  cases r with
  | nil => show (if c = 10 ∨ c = 13 then [13, 10] else [c]) = _; rw [if_neg h]; rfl
  | cons d r => rw [fixL, if_neg (by lia), if_neg h]
theorem fixL_lf (r : List Nat) : fixL (10 :: r) = 13 :: 10 :: fixL r := by
  cases r with
  | nil => rfl
  | cons d r => rw [fixL, if_neg (by lia), if_pos (.inl rfl)]
theorem fixL_crlf (r : List Nat) : fixL (13 :: 10 :: r) = 13 :: 10 :: fixL r := by rw [fixL, if_pos ⟨rfl, rfl⟩]
theorem fixL_cr {r : List Nat} (h : r.head? ≠ some 10) : fixL (13 :: r) = 13 :: 10 :: fixL r := by
  cases r with
  | nil => rfl
  | cons d r => rw [fixL, if_neg (by simp at h; lia), if_pos (.inr rfl)]
theorem fixL_pre : ∀ (p r : List Nat), (∀ c ∈ p, ¬(c = 10 ∨ c = 13)) → fixL (p ++ r) = p ++ fixL r
  | [], r, _ => rfl
  | c :: p, r, h => by
    rw [List.cons_append, fixL_plain (h c List.mem_cons_self), fixL_pre p r fun d hd => h d (List.mem_cons_of_mem _ hd)]; rfl
theorem getD_list (text : Array Nat) (i : Nat) : text.getD i 0 = (text.toList[i]?).getD 0 := by
  rw [Array.getElem?_toList]
  simp [Array.getD_eq_getD_getElem?]
/-- what lies between two places -/
theorem mem_between {l : List Nat} {d b c : Nat} (h : c ∈ (l.drop d).take (b - d)) : ∃ i, d ≤ i ∧ i < b ∧ l[i]? = some c := by
  obtain ⟨j, hj, e⟩ := List.mem_iff_getElem.mp h
  rw [List.length_take, List.length_drop] at hj
  refine ⟨d + j, by lia, by lia, ?_⟩
  rw [← e, List.getElem_take, List.getElem_drop, List.getElem?_eq_getElem]
theorem drop_split {l : List Nat} {d b : Nat} (h : d ≤ b) : l.drop d = (l.drop d).take (b - d) ++ l.drop b := by
  have e : l.drop b = (l.drop d).drop (b - d) := by rw [List.drop_drop]; congr 1; lia
  rw [e, List.take_append_drop]
theorem extract_list (text : Array Nat) (d b : Nat) : (text.extract d b).toList = (text.toList.drop d).take (b - d) := by simp
theorem subB (text : Array Nat) : ∀ (fuel d : Nat), text.size + 1 - d ≤ fuel → d ≤ text.size →
    ((subP (nxB text) text (Str.ofString "\r\n") fuel d).map (·.cps.toList)).flatten = fixL (text.toList.drop d)
  | 0, d, h, hd => by lia
  | fuel + 1, d, h, hd => by
    unfold subP
    cases hx : nxB text d with
    | none =>
      have hn : nx2 text (text.size + 1 - d) d = none := by
        unfold nxB at hx
        simpa using hx
      have hno := nx2_none text _ d (by lia) hn
      have e : fixL (text.toList.drop d) = text.toList.drop d := by
        have := fixL_pre (text.toList.drop d) [] fun c hc => ?_
        · rw [List.append_nil] at this; rw [this]; simp [fixL]
        · obtain ⟨i, h1, h2, h3⟩ := mem_between (b := text.size) (l := text.toList) (d := d) (c := c) (by rw [List.take_of_length_le (by simp)]; exact hc)
          have := hno i h1 h2
          rwa [getD_list, h3] at this
      rw [e]
      dsimp only
      by_cases hlt : d < text.size
      · rw [if_pos hlt]
        simp
        exact List.take_of_length_le (by simp)
      · rw [if_neg hlt, List.drop_eq_nil_of_le (by simp; lia)]; rfl
    | some be =>
      obtain ⟨b, e⟩ := be
      have hn : nx2 text (text.size + 1 - d) d = some b ∧ e = e2 text b := by
        unfold nxB at hx
        simp only [Option.map_eq_some_iff, Prod.mk.injEq] at hx
        obtain ⟨a, h1, rfl, rfl⟩ := hx
        exact ⟨h1, rfl⟩
      obtain ⟨hn, rfl⟩ := hn
      obtain ⟨h1, h2, h3, h4⟩ := nx2_spec text _ d b hn
      have hb := e2_bounds h2
      have ih := subB text fuel (e2 text b) (by lia) hb.2
      dsimp only
      rw [List.map_append, List.map_append, List.flatten_append, List.flatten_append, ih]
      rw [drop_split (l := text.toList) h1, fixL_pre]
      · have hcr : (Str.ofString "\r\n").cps.toList = [13, 10] := by decide +kernel
        have e1 : ((if d < b then [(⟨text.extract d b⟩ : Str)] else []).map (·.cps.toList)).flatten = (text.toList.drop d).take (b - d) := by
          by_cases hlt : d < b
          · rw [if_pos hlt]; simp
          · rw [if_neg hlt]
            have : b - d = 0 := by lia
            rw [this]; simp
        rw [e1, List.append_assoc]
        congr 1
        simp only [List.map_cons, List.map_nil, List.flatten_cons, List.flatten_nil, List.append_nil, hcr]
        have hbl : b < text.toList.length := by simpa using h2
        have hb0 : text.getD b 0 = text.toList[b] := by rw [getD_list, List.getElem?_eq_getElem hbl]; rfl
        rw [List.drop_eq_getElem_cons hbl]
        rw [hb0] at h3
        rcases h3 with h3 | h3
        · rw [h3, fixL_lf]
          have : e2 text b = b + 1 := by unfold e2; rw [if_neg]; rw [hb0, h3]; lia
          rw [this]; rfl
        · by_cases hc : b + 1 < text.size ∧ text.getD (b + 1) 0 = 10
          · have : e2 text b = b + 2 := by unfold e2; rw [if_pos ⟨by rw [hb0, h3], hc.1, hc.2⟩]
            have hl1 : b + 1 < text.toList.length := by simpa using hc.1
            have hc1 : text.toList[b + 1] = 10 := by have := hc.2; rw [getD_list, List.getElem?_eq_getElem hl1] at this; exact this
            rw [h3, List.drop_eq_getElem_cons hl1, hc1, fixL_crlf, this]; rfl
          · have : e2 text b = b + 1 := by unfold e2; rw [if_neg]; rintro ⟨_, h5, h6⟩; exact hc ⟨h5, h6⟩
            rw [h3, fixL_cr, this]
            · rfl
            · intro hh
              rw [List.head?_drop] at hh
              have hl1 : b + 1 < text.size := by
                have := (List.getElem?_eq_some_iff.mp hh).1
                simpa using this
              exact hc ⟨hl1, by rw [getD_list, hh]; rfl⟩
      · intro c hc
        obtain ⟨i, i1, i2, i3⟩ := mem_between hc
        have := h4 i i1 i2
        rwa [getD_list, i3] at this
theorem fixF_cps (x : Str) : (fixF x).cps.toList = fixL x.cps.toList := by
  unfold fixF subF
  rw [join_cps]
  show jn [] _ = _
  rw [jn_nil, subB x.cps (x.cps.size + 1) 0 (by lia) (by lia), List.drop_zero]
end Mine
end
-- P4
noncomputable section
open PySem PySem.Calls PyProof.Rows PySem.W
set_option maxRecDepth 100000
set_option linter.unusedVariables false
namespace Mine
def sepL (k : Nat) : List Nat := if k % 3 = 0 then [10] else if k % 3 = 1 then [13] else [13, 10]
theorem sepF_cps (k : Nat) : (sepF k).cps.toList = sepL k := by
  unfold sepF sepL
  split
  · decide +kernel
  · split <;> decide +kernel
def wl : Nat → List (List Nat) → List Nat
  | _, [] => []
  | _, [t] => t
  | k, t :: u :: r => t ++ sepL k ++ wl (k + 1) (u :: r)
theorem whole_from (ts : List Str) : ∀ (n k : Nat), k + n = ts.length → (((List.range' k n).map (partF ts)).map (·.cps.toList)).flatten = wl k ((ts.drop k).map (·.cps.toList))
  | 0, k, h => by
    rw [List.drop_eq_nil_of_le (by lia)]; rfl
  | n + 1, k, h => by
    have hk : k < ts.length := by lia
    have ih := whole_from ts n (k + 1) (by lia)
    rw [List.range'_succ, List.map_cons, List.map_cons, List.flatten_cons, ih, List.drop_eq_getElem_cons hk]
    have hg : ts.getD k Str.empty = ts[k] := by rw [List.getD_eq_getElem?_getD, List.getElem?_eq_getElem hk]; rfl
    unfold partF
    rw [hg, cps_app]
    cases n with
    | zero =>
      rw [if_neg (by lia), List.drop_eq_nil_of_le (by lia : ts.length ≤ k + 1)]
      have : (Str.ofString "").cps.toList = [] := by decide +kernel
      rw [this]
      simp [wl]
    | succ n =>
      have hk1 : k + 1 < ts.length := by lia
      rw [if_pos hk1, sepF_cps, List.drop_eq_getElem_cons hk1]
      rfl
theorem whole_cps (ts : List Str) : (wholeF ts).cps.toList = wl 0 (ts.map (·.cps.toList)) := by
  unfold wholeF
  rw [join_cps, show (Str.ofString "").cps.toList = [] from by decide +kernel, jn_nil, List.range_eq_range', whole_from ts ts.length 0 (by lia), List.drop_zero]
def NoLB (t : List Nat) : Prop := ∀ c ∈ t, ¬(c = 10 ∨ c = 13)
theorem wl_head (k : Nat) (u : List Nat) (r : List (List Nat)) (h : (k + 1) % 3 = 2) (hu : NoLB u) : (wl (k + 1) (u :: r)).head? ≠ some 10 := by
  cases u with
  | nil =>
    cases r with
    | nil => simp [wl]
    | cons v r =>
      simp only [wl, sepL]
      rw [if_neg (by lia), if_neg (by lia)]
      simp
  | cons c u =>
    have hc := hu c List.mem_cons_self
    have : (wl (k + 1) ((c :: u) :: r)).head? = some c := by cases r <;> simp [wl]
    rw [this]
    intro e
    exact hc (.inl (by simpa using e))
theorem fix_wl : ∀ (ts : List (List Nat)) (k : Nat), (∀ t ∈ ts, NoLB t) → fixL (wl k ts) = jn [13, 10] ts
  | [], k, h => rfl
  | [t], k, h => by
    have := fixL_pre t [] (h t List.mem_cons_self)
    rw [List.append_nil] at this
    show fixL t = t
    rw [this]; simp [fixL]
  | t :: u :: r, k, h => by
    have ih := fix_wl (u :: r) (k + 1) fun x hx => h x (List.mem_cons_of_mem _ hx)
    show fixL (t ++ sepL k ++ wl (k + 1) (u :: r)) = t ++ [13, 10] ++ jn [13, 10] (u :: r)
    rw [List.append_assoc, fixL_pre _ _ (h t List.mem_cons_self), List.append_assoc, ← ih]
    congr 1
    unfold sepL
    by_cases h0 : k % 3 = 0
    · rw [if_pos h0]; exact fixL_lf _
    · rw [if_neg h0]
      by_cases h1 : k % 3 = 1
      · rw [if_pos h1]
        exact fixL_cr (wl_head k u r (by lia) (h u (by simp)))
      · rw [if_neg h1]; exact fixL_crlf _
theorem law2_of (ts : List Str) (h : ∀ t ∈ ts, NoLB t.cps.toList) : fixF (wholeF ts) = Txt.join (Str.ofString "\r\n") ts := by
  refine eq_list ?_
  rw [fixF_cps, whole_cps, fix_wl, join_cps, show (Str.ofString "\r\n").cps.toList = [13, 10] from by decide +kernel]
  intro t ht
  obtain ⟨x, hx, rfl⟩ := List.mem_map.mp ht
  exact h x hx
/-- dots -/
def dotL : Bool → List Nat → List Nat
  | _, [] => []
  | b, c :: r => if b = true ∧ c = 46 then 46 :: 46 :: dotL false r else c :: dotL (c == 10) r
def flagA (text : Array Nat) (d : Nat) : Bool := decide (d = 0 ∨ text.getD (d - 1) 0 = 10)
theorem dotL_skip (text : Array Nat) : ∀ (n d : Nat), d + n ≤ text.size → (∀ i, d ≤ i → i < d + n → ¬ LD text i) → dotL (flagA text d) (text.toList.drop d) = (text.toList.drop d).take n ++ dotL (flagA text (d + n)) (text.toList.drop (d + n))
  | 0, d, h, hn => by simp
  | n + 1, d, h, hn => by
    have hd : d < text.toList.length := by simp; lia
    have ih := dotL_skip text n (d + 1) (by lia) fun i h1 h2 => hn i (by lia) (by lia)
    have h0 := hn d (Nat.le_refl _) (by lia)
    have hg : text.getD d 0 = text.toList[d] := by rw [getD_list, List.getElem?_eq_getElem hd]; rfl
    rw [List.drop_eq_getElem_cons hd, List.take_succ_cons, List.cons_append]
    rw [show d + (n + 1) = d + 1 + n from by lia, ← ih]
    conv => lhs; rw [dotL]
    rw [if_neg]
    · congr 2
      unfold flagA
      rw [Nat.add_sub_cancel, hg, Bool.eq_iff_iff]
      simp
    · rintro ⟨h1, h2⟩
      refine h0 ⟨?_, by rw [hg, h2]⟩
      unfold flagA at h1
      simpa using h1
theorem nx1_no (text : Array Nat) : ∀ (fuel s : Nat), text.size < fuel + s → nx1 text fuel s = none → ∀ i, s ≤ i → i < text.size → ¬ LD text i
  | 0, s, hf, _, i, h1, h2 => by lia
  | fuel + 1, s, hf, h, i, h1, h2 => by
    unfold nx1 at h
    rw [if_neg (by lia)] at h
    by_cases hc : LD text s
    · rw [if_pos hc] at h; cases h
    · rw [if_neg hc] at h
      by_cases hi : i = s
      · rw [hi]; exact hc
      · exact nx1_no text fuel (s + 1) (by lia) h i (by lia) h2
theorem subA (text : Array Nat) : ∀ (fuel d : Nat), text.size + 1 - d ≤ fuel → d ≤ text.size →
    ((subP (nxA text) text (Str.ofString "..") fuel d).map (·.cps.toList)).flatten = dotL (flagA text d) (text.toList.drop d)
  | 0, d, h, hd => by lia
  | fuel + 1, d, h, hd => by
    unfold subP
    cases hx : nxA text d with
    | none =>
      have hn : nx1 text (text.size + 1 - d) d = none := by
        unfold nxA at hx
        simpa using hx
      have hno := nx1_no text _ d (by lia) hn
      have e := dotL_skip text (text.size - d) d (by lia) fun i h1 h2 => hno i h1 (by lia)
      have e2 : text.toList.drop (d + (text.size - d)) = [] := List.drop_eq_nil_of_le (by simp; lia)
      rw [e, e2]
      dsimp only
      by_cases hlt : d < text.size
      · rw [if_pos hlt]
        simp [dotL]
      · rw [if_neg hlt, List.drop_eq_nil_of_le (by simp; lia)]; simp [dotL]
    | some be =>
      obtain ⟨b, e⟩ := be
      have hn : nx1 text (text.size + 1 - d) d = some b ∧ e = b + 1 := by
        unfold nxA at hx
        simp only [Option.map_eq_some_iff, Prod.mk.injEq] at hx
        obtain ⟨a, h1, rfl, rfl⟩ := hx
        exact ⟨h1, rfl⟩
      obtain ⟨hn, rfl⟩ := hn
      obtain ⟨h1, h2, h3, h4⟩ := nx1_spec text _ d b hn
      have ih := subA text fuel (b + 1) (by lia) (by lia)
      have e := dotL_skip text (b - d) d (by lia) fun i h1 h2 => h4 i h1 (by lia)
      rw [show d + (b - d) = b from by lia] at e
      dsimp only
      rw [List.map_append, List.map_append, List.flatten_append, List.flatten_append, ih, e]
      have hcr : (Str.ofString "..").cps.toList = [46, 46] := by decide +kernel
      have e1 : ((if d < b then [(⟨text.extract d b⟩ : Str)] else []).map (·.cps.toList)).flatten = (text.toList.drop d).take (b - d) := by
        by_cases hlt : d < b
        · rw [if_pos hlt]; simp
        · rw [if_neg hlt]
          have : b - d = 0 := by lia
          rw [this]; simp
      rw [e1, List.append_assoc]
      congr 1
      simp only [List.map_cons, List.map_nil, List.flatten_cons, List.flatten_nil, List.append_nil, hcr]
      have hbl : b < text.toList.length := by simpa using h2
      have hb0 : text.getD b 0 = text.toList[b] := by rw [getD_list, List.getElem?_eq_getElem hbl]; rfl
      have hb46 : text.toList[b] = 46 := by rw [← hb0]; exact h3.2
      have hf : flagA text b = true := by unfold flagA; simpa using h3.1
      have hf1 : flagA text (b + 1) = false := by
        unfold flagA
        rw [Nat.add_sub_cancel, hb0, hb46]
        simp
      rw [List.drop_eq_getElem_cons hbl, hb46, hf, hf1]
      conv => rhs; unfold dotL
      rw [if_pos ⟨rfl, rfl⟩]; rfl
theorem dotF_cps (x : Str) : (dotF x).cps.toList = dotL true x.cps.toList := by
  unfold dotF subF
  rw [join_cps]
  show jn [] _ = _
  rw [jn_nil, subA x.cps (x.cps.size + 1) 0 (by lia) (by lia), List.drop_zero]
  rfl
def dotTL (t : List Nat) : List Nat := (if t.take 1 = [46] then [46] else []) ++ t
theorem dotT_cps (x : Str) : (dotT x).cps.toList = dotTL x.cps.toList := by
  unfold dotT dotTL dotB
  rw [cps_app]
  by_cases h : x.cps.toList.take 1 = [46]
  · rw [if_pos (by simpa using h), if_pos h]; rfl
  · rw [if_neg (by simpa using h), if_neg h]; rfl
theorem dotL_false : ∀ (t r : List Nat), (∀ c ∈ t, c ≠ 10) → dotL false (t ++ r) = t ++ dotL false r
  | [], r, _ => rfl
  | c :: t, r, h => by
    have hc := h c List.mem_cons_self
    rw [List.cons_append, dotL, if_neg (by simp), show (c == 10) = false from by simpa using hc, dotL_false t r fun d hd => h d (List.mem_cons_of_mem _ hd)]; rfl
theorem dotL_true (t r : List Nat) (h : ∀ c ∈ t, c ≠ 10) (hr : dotL true r = dotL false r) : dotL true (t ++ r) = dotTL t ++ dotL false r := by
  cases t with
  | nil => rw [List.nil_append, hr]; rfl
  | cons c t =>
    have hc := h c List.mem_cons_self
    have ht := dotL_false t r fun d hd => h d (List.mem_cons_of_mem _ hd)
    rw [List.cons_append, dotL]
    unfold dotTL
    by_cases h46 : c = 46
    · subst h46
      rw [if_pos ⟨rfl, rfl⟩, if_pos (by simp), ht]; rfl
    · rw [if_neg (by simp [h46]), if_neg (by simpa using h46), show (c == 10) = false from by simpa using hc, ht]; rfl
theorem dot_jn : ∀ (ts : List (List Nat)), (∀ t ∈ ts, NoLB t) → dotL true (jn [13, 10] ts) = jn [13, 10] (ts.map dotTL)
  | [], _ => rfl
  | [t], h => by
    have := dotL_true t [] (fun c hc e => h t List.mem_cons_self c hc (.inl e)) rfl
    rw [List.append_nil] at this
    show dotL true t = dotTL t
    rw [this]; simp [dotL]
  | t :: u :: r, h => by
    have ih := dot_jn (u :: r) fun x hx => h x (List.mem_cons_of_mem _ hx)
    show dotL true (t ++ [13, 10] ++ jn [13, 10] (u :: r)) = dotTL t ++ [13, 10] ++ jn [13, 10] ((u :: r).map dotTL)
    rw [List.append_assoc, List.append_assoc, dotL_true t _ (fun c hc e => h t List.mem_cons_self c hc (.inl e)) rfl, ← ih]
    rfl
theorem law1_of (ts : List Str) (h : ∀ t ∈ ts, NoLB t.cps.toList) : dotF (fixF (wholeF ts)) = Txt.join (Str.ofString "\r\n") (ts.map dotT) := by
  refine eq_list ?_
  rw [dotF_cps, law2_of ts h, join_cps, join_cps, show (Str.ofString "\r\n").cps.toList = [13, 10] from by decide +kernel, dot_jn]
  · rw [List.map_map, List.map_map]
    congr 1
    apply List.map_congr_left
    intro t _
    exact (dotT_cps t).symm
  · intro t ht
    obtain ⟨x, hx, rfl⟩ := List.mem_map.mp ht
    exact h x hx
end Mine
end
-- P5
noncomputable section
open PySem PySem.Calls PyProof.Rows PySem.W
set_option maxRecDepth 100000
set_option linter.unusedVariables false
namespace Mine
open PySem.StrLaws PySem.Builtin.Str
def cutsOf : Nat → List (List Nat) → List Nat
  | _, [] => []
  | _, [_] => []
  | a, d :: e :: r => (a + d.length) :: cutsOf (a + d.length + 2) (e :: r)
def crlf : Str := Str.ofString "\r\n"
theorem crlf_cps : crlf.cps.toList = [13, 10] := by decide +kernel
theorem crlf_len : crlf.length = 2 := by decide +kernel
theorem subAt_iff (x : Str) (i : Nat) : subAt x crlf i = true ↔ (x.cps.toList.drop i).take 2 = [13, 10] := by
  rw [subAt_eq, crlf_cps, crlf_len]; simp
theorem occSkip (x : Str) (hi limit : Nat) : ∀ (m a : Nat) (st : Array Nat × Nat) (rest : List Nat), (∀ i, a ≤ i → i < a + m → (x.cps.toList.drop i).take 2 ≠ [13, 10]) →
    forIn (List.range' a m ++ rest) st (occBody x crlf hi limit) = forIn rest st (occBody x crlf hi limit)
  | 0, a, st, rest, _ => rfl
  | m + 1, a, st, rest, h => by
    rw [List.range'_succ, List.cons_append, List.forIn_cons]
    have : occBody x crlf hi limit a st = pure (ForInStep.yield (st.fst, st.snd)) := by
      unfold occBody
      rw [if_neg]
      rintro ⟨_, h2⟩
      exact h a (Nat.le_refl _) (by lia) ((subAt_iff x a).mp h2)
    rw [this]
    exact occSkip x hi limit m (a + 1) st rest fun i h1 h2 => h i (by lia) (by lia)
theorem not13 {X d r : List Nat} {a i : Nat} (hX : X.drop a = d ++ r) (hd : NoLB d) (h1 : a ≤ i) (h2 : i < a + d.length) : (X.drop i).take 2 ≠ [13, 10] := by
  intro e
  have h3 : (X.drop i)[0]? = some 13 := by
    have : ((X.drop i).take 2)[0]? = some 13 := by rw [e]; rfl
    rwa [List.getElem?_take_of_lt (by lia)] at this
  rw [List.getElem?_drop, Nat.add_zero] at h3
  have h4 : (X.drop a)[i - a]? = some 13 := by rw [List.getElem?_drop, show a + (i - a) = i from by lia]; exact h3
  rw [hX, List.getElem?_append_left (by lia)] at h4
  exact hd 13 (List.mem_of_getElem? h4) (.inr rfl)
theorem occ_cuts (x : Str) : ∀ (ds : List (List Nat)) (a : Nat) (st : Array Nat × Nat), x.cps.toList.drop a = jn [13, 10] ds → ds ≠ [] → (∀ d ∈ ds, NoLB d) → st.2 ≤ a → st.1.size ≤ a → a ≤ x.length →
    (forIn (List.range' a (x.length + 1 - a)) st (occBody x crlf x.length (x.length + 1))).run.fst.toList = st.1.toList ++ cutsOf a ds
  | [], a, st, h, hne, _, _, _, _ => absurd rfl hne
  | [d], a, st, h, _, hd, _, _, ha => by
    have h : x.cps.toList.drop a = d ++ [] := by rw [List.append_nil]; exact h
    have hl : d.length = x.length - a := by
      have := congrArg List.length h
      simp at this
      rw [← this]; rfl
    have := occSkip x x.length (x.length + 1) (x.length + 1 - a) a st [] fun i h1 h2 => by
      by_cases hi : i < x.length
      · exact not13 h (hd d List.mem_cons_self) h1 (by lia)
      · have : x.cps.toList.drop i = [] := List.drop_eq_nil_of_le (by have : x.cps.toList.length = x.length := by simp [Str.length]
                                                                      lia)
        rw [this]; simp
    rw [List.append_nil] at this
    rw [this]
    simp [cutsOf]
  | d :: e :: r, a, st, h, _, hd, h2, h3, ha => by
    have hX : x.cps.toList.length = x.length := by simp [Str.length]
    have h : x.cps.toList.drop a = d ++ ([13, 10] ++ jn [13, 10] (e :: r)) := by rw [← List.append_assoc]; exact h
    have hl : d.length + 2 + (jn [13, 10] (e :: r)).length = x.length - a := by
      have := congrArg List.length h
      simp only [List.length_append, List.length_drop, List.length_cons, List.length_nil] at this
      lia
    have hdrop : ∀ j, x.cps.toList.drop (a + d.length + j) = ([13, 10] ++ jn [13, 10] (e :: r)).drop j := fun j => by
      have : x.cps.toList.drop (a + d.length + j) = ((x.cps.toList.drop a).drop d.length).drop j := by rw [List.drop_drop, List.drop_drop, Nat.add_assoc]
      rw [this, h, List.drop_left]
    have hsplit : List.range' a (x.length + 1 - a) = List.range' a d.length ++ ((a + d.length) :: (List.range' (a + d.length + 1) 1 ++ List.range' (a + d.length + 2) (x.length + 1 - (a + d.length + 2)))) := by
      have e1 : x.length + 1 - a = d.length + (1 + (1 + (x.length + 1 - (a + d.length + 2)))) := by lia
      rw [e1, ← List.range'_append_1, ← List.range'_append_1, ← List.range'_append_1]
      rfl
    rw [hsplit, occSkip x x.length (x.length + 1) d.length a st _ fun i h4 h5 => not13 h (hd d List.mem_cons_self) h4 h5, List.forIn_cons]
    have hb : occBody x crlf x.length (x.length + 1) (a + d.length) st = pure (ForInStep.yield (st.1.push (a + d.length), a + d.length + 2)) := by
      unfold occBody
      rw [if_pos, crlf_len]
      refine ⟨⟨⟨by lia, by lia⟩, by rw [crlf_len]; lia⟩, (subAt_iff x _).mpr ?_⟩
      have := hdrop 0
      rw [Nat.add_zero] at this
      rw [this]; rfl
    rw [hb]
    have ih := occ_cuts x (e :: r) (a + d.length + 2) (st.1.push (a + d.length), a + d.length + 2) (hdrop 2) (by simp) (fun y hy => hd y (List.mem_cons_of_mem _ hy)) (Nat.le_refl _) (by rw [Array.size_push]; lia) (by lia)
    have hskip := occSkip x x.length (x.length + 1) 1 (a + d.length + 1) (st.1.push (a + d.length), a + d.length + 2) (List.range' (a + d.length + 2) (x.length + 1 - (a + d.length + 2))) fun i h4 h5 => by
      have : i = a + d.length + 1 := by lia
      subst this
      rw [hdrop 1]
      cases hj : jn [13, 10] (e :: r) <;> simp
    show (forIn (List.range' (a + d.length + 1) 1 ++ List.range' (a + d.length + 2) (x.length + 1 - (a + d.length + 2))) (st.1.push (a + d.length), a + d.length + 2) (occBody x crlf x.length (x.length + 1))).run.fst.toList = _
    rw [hskip, ih, cutsOf]
    simp
theorem parts_cuts (x : Str) : ∀ (ds : List (List Nat)) (a : Nat), x.cps.toList.drop a = jn [13, 10] ds → ds ≠ [] → (partsFrom x 2 a (cutsOf a ds)).map (·.cps.toList) = ds
  | [], a, h, hne => absurd rfl hne
  | [d], a, h, _ => by
    show [(strSub x a x.length).cps.toList] = [d]
    rw [strSub_toList, h, List.take_of_length_le]
    · rfl
    · rw [← h, List.length_drop]
      simp [Str.length]
  | d :: e :: r, a, h, _ => by
    have h : x.cps.toList.drop a = d ++ ([13, 10] ++ jn [13, 10] (e :: r)) := by rw [← List.append_assoc]; exact h
    have hdrop : x.cps.toList.drop (a + d.length + 2) = jn [13, 10] (e :: r) := by
      have : x.cps.toList.drop (a + d.length + 2) = ((x.cps.toList.drop a).drop d.length).drop 2 := by rw [List.drop_drop, List.drop_drop, Nat.add_assoc]
      rw [this, h, List.drop_left]; rfl
    have ih := parts_cuts x (e :: r) (a + d.length + 2) hdrop (by simp)
    show (strSub x a (a + d.length)).cps.toList :: (partsFrom x 2 (a + d.length + 2) (cutsOf (a + d.length + 2) (e :: r))).map (·.cps.toList) = _
    rw [ih, strSub_toList, h, Nat.add_sub_cancel_left, List.take_left]
theorem split_jn (x : Str) (ds : List (List Nat)) (h : x.cps.toList = jn [13, 10] ds) (hne : ds ≠ []) (hd : ∀ d ∈ ds, NoLB d) : (Txt.split x crlf).map (·.cps.toList) = ds := by
  have hoc : occurrences x crlf 0 x.length (x.length + 1) = cutsOf 0 ds := by
    rw [occ_eq]
    have := occ_cuts x ds 0 (#[], 0) h hne hd (Nat.le_refl _) (Nat.le_refl _) (Nat.zero_le _)
    simpa using this
  have one : ∀ d, ds = [d] → [x].map (·.cps.toList) = ds := fun d e => by
    rw [e] at h ⊢
    show [x.cps.toList] = [d]
    rw [h]; rfl
  have cases1 : (∃ d, ds = [d]) ∨ ∃ d e r, ds = d :: e :: r := by
    match ds, hne with
    | [d], _ => exact .inl ⟨d, rfl⟩
    | d :: e :: r, _ => exact .inr ⟨d, e, r, rfl⟩
  unfold Txt.split
  split
  · rename_i h1
    rcases cases1 with ⟨d, e⟩ | ⟨d, e, r, rfl⟩
    · exact one d e
    · exfalso
      have hX : x.cps.toList.length = x.length := by simp [Str.length]
      have hl : 2 ≤ x.length := by
        rw [← hX, h]
        show 2 ≤ (d ++ [13, 10] ++ jn [13, 10] (e :: r)).length
        simp only [List.length_append, List.length_cons, List.length_nil]; lia
      have hk : strKind crlf = 1 := by decide +kernel
      have hp := strKind_pos x
      rw [crlf_len, hk] at h1
      simp only [Bool.or_eq_true, decide_eq_true_eq] at h1
      lia
  · split
    · rename_i h2
      rw [hoc] at h2
      rcases cases1 with ⟨d, e⟩ | ⟨d, e, r, rfl⟩
      · exact one d e
      · cases h2
    · rw [partsBetween_eq, hoc, crlf_len]
      exact parts_cuts x ds 0 h hne
theorem str_map_inj : ∀ (as bs : List Str), as.map (·.cps.toList) = bs.map (·.cps.toList) → as = bs
  | [], [], _ => rfl
  | a :: as, b :: bs, h => by
    simp only [List.map_cons, List.cons.injEq] at h
    rw [eq_list h.1, str_map_inj as bs h.2]
  | [], _ :: _, h => by cases h
  | _ :: _, [], h => by cases h
theorem split_of (ts : List Str) (hne : ts ≠ []) (h : ∀ t ∈ ts, NoLB t.cps.toList) : Txt.split (Txt.join (Str.ofString "\r\n") ts) (Str.ofString "\r\n") = ts := by
  refine str_map_inj _ _ (split_jn _ _ ?_ (by simpa using hne) fun d hd => ?_)
  · rw [join_cps]; exact congrArg (fun s => jn s _) crlf_cps
  · obtain ⟨x, hx, rfl⟩ := List.mem_map.mp hd
    exact h x hx
end Mine
end
-- P6
noncomputable section
open PySem PySem.Calls PyProof.Rows PySem.W
set_option maxRecDepth 100000
set_option linter.unusedVariables false
namespace Mine
/-- the order of lists of ints -/
theorem ltL_irr : ∀ x : List Int, ltL x x = false
  | [] => rfl
  | a :: x => by unfold ltL; rw [if_pos rfl]; exact ltL_irr x
theorem ltL_tri : ∀ x y : List Int, ltL x y = false → ltL y x = false → x = y
  | [], [], _, _ => rfl
  | [], b :: y, h, _ => by simp [ltL] at h
  | a :: x, [], _, h => by simp [ltL] at h
  | a :: x, b :: y, h1, h2 => by
    unfold ltL at h1 h2
    by_cases e : a = b
    · subst e
      rw [if_pos rfl] at h1 h2
      rw [ltL_tri x y h1 h2]
    · rw [if_neg e] at h1
      rw [if_neg (Ne.symm e)] at h2
      simp at h1 h2
      lia
theorem ltL_trans : ∀ x y z : List Int, ltL x y = true → ltL y z = true → ltL x z = true
  | x, [], z, h, _ => by cases x <;> simp [ltL] at h
  | x, b :: y, [], _, h => by simp [ltL] at h
  | [], b :: y, c :: z, _, _ => by simp [ltL]
  | a :: x, b :: y, c :: z, h1, h2 => by
    unfold ltL at h1 h2 ⊢
    by_cases e1 : a = b
    · subst e1
      rw [if_pos rfl] at h1
      by_cases e2 : a = c
      · rw [if_pos e2] at h2 ⊢; exact ltL_trans x y z h1 h2
      · rw [if_neg e2] at h2 ⊢; exact h2
    · rw [if_neg e1] at h1
      by_cases e2 : b = c
      · subst e2
        rw [if_neg e1]; exact h1
      · rw [if_neg e2] at h2
        simp at h1 h2
        rw [if_neg (by lia)]
        simp; lia
theorem ltL_asym {x y : List Int} (h : ltL x y = true) : ltL y x = false := by
  cases e : ltL y x with
  | false => rfl
  | true => have := ltL_trans x y x h e; rw [ltL_irr] at this; cases this
theorem leL_not : ∀ x y : List Int, leL x y = !ltL y x
  | [], [] => rfl
  | [], b :: y => by simp [leL, ltL]
  | a :: x, [] => by simp [leL, ltL]
  | a :: x, b :: y => by
    unfold leL ltL
    by_cases e : a = b
    · subst e; rw [if_pos rfl, if_pos rfl]; exact leL_not x y
    · rw [if_neg e, if_neg (Ne.symm e), Bool.eq_iff_iff]; simp
abbrev LeI (x y : List Int) : Prop := ltL y x = false
theorem LeI.trans {x y z : List Int} (h1 : LeI x y) (h2 : LeI y z) : LeI x z := by
  show ltL z x = false
  cases e : ltL z x with
  | false => rfl
  | true =>
    cases e2 : ltL x y with
    | true => have := ltL_trans z x y e e2; rw [show ltL z y = false from h2] at this; cases this
    | false =>
      have := ltL_tri x y e2 h1
      subst this
      rw [show ltL z x = false from h2] at e; cases e
theorem LeI.anti {x y : List Int} (h1 : LeI x y) (h2 : LeI y x) : x = y := ltL_tri x y h2 h1
theorem LeI.total (x y : List Int) : LeI x y ∨ LeI y x := by
  cases e : ltL y x with
  | false => exact .inl e
  | true => exact .inr (ltL_asym e)
theorem sorted_uniq {l₁ l₂ : List (List Int)} (h1 : l₁.Pairwise LeI) (h2 : l₂.Pairwise LeI) (h : l₁.Perm l₂) : l₁ = l₂ :=
  List.Perm.eq_of_pairwise (fun a b _ _ h h' => LeI.anti h h') h1 h2 h
/-- insertion -/
theorem filter_take (p : List Int → Bool) : ∀ told : List (List Int), (∀ x y, told.Pairwise LeI → x ∈ told → y ∈ told → p y = true → LeI x y → p x = true) → told.Pairwise LeI → told.take (told.filter p).length = told.filter p ∧ told.drop (told.filter p).length = told.filter fun x => !p x
  | [], _, _ => ⟨rfl, rfl⟩
  | t :: told, hp, hs => by
    obtain ⟨h1, h2⟩ := List.pairwise_cons.mp hs
    by_cases hc : p t = true
    · obtain ⟨i1, i2⟩ := filter_take p told (fun x y _ hx hy h1 h2 => hp x y hs (List.mem_cons_of_mem _ hx) (List.mem_cons_of_mem _ hy) h1 h2) h2
      simp [List.filter_cons, hc, i1, i2]
    · have hall : ∀ y ∈ told, p y ≠ true := fun y hy hpy => hc (hp t y hs List.mem_cons_self (List.mem_cons_of_mem _ hy) hpy (h1 y hy))
      have e1 : (t :: told).filter p = [] := by
        rw [List.filter_eq_nil_iff]
        intro y hy
        rcases List.mem_cons.mp hy with rfl | hy
        · exact hc
        · exact hall y hy
      have e2 : (t :: told).filter (fun x => !p x) = t :: told := by
        rw [List.filter_eq_self]
        intro y hy
        rcases List.mem_cons.mp hy with rfl | hy
        · simpa using hc
        · simpa using hall y hy
      rw [e1, e2]
      exact ⟨rfl, rfl⟩
theorem insM_facts (told : List (List Int)) (m : List Int) (h : told.Pairwise LeI) : (insM told m).Pairwise LeI ∧ (insM told m).Perm (m :: told) := by
  have hle : ∀ o, leL o m = true ↔ LeI o m := fun o => by rw [leL_not]; simp [LeI]
  obtain ⟨h1, h2⟩ := filter_take (fun o => leL o m) told (fun x y _ _ _ hy hxy => (hle x).mpr (hxy.trans ((hle y).mp hy))) h
  unfold insM
  refine ⟨?_, ?_⟩
  · rw [h1, h2, List.append_assoc, List.pairwise_append]
    refine ⟨h.filter _, ?_, ?_⟩
    · rw [List.singleton_append, List.pairwise_cons]
      refine ⟨fun y hy => ?_, h.filter _⟩
      have hy := (List.mem_filter.mp hy).2
      rw [leL_not] at hy
      simp at hy
      exact ltL_asym hy
    · intro x hx y hy
      have hx := (hle x).mp (List.mem_filter.mp hx).2
      rcases List.mem_append.mp hy with hy | hy
      · rw [List.mem_singleton.mp hy]; exact hx
      · have hy := (List.mem_filter.mp hy).2
        rw [leL_not] at hy
        simp at hy
        exact hx.trans (ltL_asym hy)
  · generalize (told.filter fun o => leL o m).length = c
    have := List.take_append_drop c told
    rw [List.append_assoc]
    refine (List.perm_middle (l₁ := told.take c) (l₂ := told.drop c) (a := m)).trans ?_
    rw [this]
theorem rising_facts : ∀ (ms told : List (List Int)), told.Pairwise LeI → (ms.foldl insM told).Pairwise LeI ∧ (ms.foldl insM told).Perm (told ++ ms)
  | [], told, h => ⟨h, by rw [List.append_nil]; exact .refl _⟩
  | m :: ms, told, h => by
    obtain ⟨h1, h2⟩ := insM_facts told m h
    obtain ⟨h3, h4⟩ := rising_facts ms (insM told m) h1
    refine ⟨h3, h4.trans ?_⟩
    refine (h2.append_right ms).trans ?_
    exact List.perm_middle.symm
theorem risingF_sorted (ms : List (List Int)) : (risingF ms).Pairwise LeI := (rising_facts ms [] List.Pairwise.nil).1
theorem risingF_perm (ms : List (List Int)) : (risingF ms).Perm ms := (rising_facts ms [] List.Pairwise.nil).2
/-- the two least -/
theorem lt2_ne {x y : KI} (h : x.1 ≠ y.1) : lt2 x y = ltL x.1 y.1 := by unfold lt2; rw [if_neg h]
theorem ns_fold : ∀ (ms done : List (List Int)) (st : KI × KI × Int), (done ++ ms).Nodup → ltL st.2.1.1 st.1.1 = true → st.1.1 ∈ done → st.2.1.1 ∈ done → (∀ k ∈ done, k = st.2.1.1 ∨ k = st.1.1 ∨ ltL st.1.1 k = true) →
    let st' := ms.foldl nsStep st
    ltL st'.2.1.1 st'.1.1 = true ∧ st'.1.1 ∈ done ++ ms ∧ st'.2.1.1 ∈ done ++ ms ∧ ∀ k ∈ done ++ ms, k = st'.2.1.1 ∨ k = st'.1.1 ∨ ltL st'.1.1 k = true
  | [], done, st, _, h1, h2, h3, h4 => by
    simp only [List.foldl_nil, List.append_nil]
    exact ⟨h1, h2, h3, h4⟩
  | m :: ms, done, st, hnd, h1, h2, h3, h4 => by
    have e : done ++ m :: ms = (done ++ [m]) ++ ms := by simp
    rw [e] at hnd ⊢
    rw [List.foldl_cons]
    have hm : m ∉ done := by
      intro hm
      have := (List.nodup_append.mp (List.nodup_append.mp hnd).1).2.2 m hm m (by simp)
      exact this rfl
    obtain ⟨⟨p, pi⟩, ⟨q, qi⟩, o⟩ := st
    dsimp only at h1 h2 h3 h4
    have hmp : m ≠ p := fun e => hm (e ▸ h2)
    have hmq : m ≠ q := fun e => hm (e ▸ h3)
    refine ns_fold ms (done ++ [m]) _ hnd ?_ ?_ ?_ ?_
    all_goals unfold nsStep
    all_goals dsimp only
    all_goals rw [lt2_ne (x := (q, qi)) (y := (m, o)) (Ne.symm hmq)]
    all_goals dsimp only
    all_goals
      by_cases hl : ltL m p = true
      · rw [if_pos hl]
        by_cases hq : ltL q m = true
        · rw [if_pos hq]
          first
          | exact hq
          | exact List.mem_append_right _ List.mem_cons_self
          | exact List.mem_append_left _ h3
          | (intro k hk
             dsimp only
             rcases List.mem_append.mp hk with hk | hk
             · rcases h4 k hk with rfl | rfl | h
               · exact .inl rfl
               · exact .inr (.inr hl)
               · exact .inr (.inr (ltL_trans _ _ _ hl h))
             · exact .inr (.inl (List.mem_singleton.mp hk)))
        · rw [if_neg hq]
          have hq' : ltL m q = true := by
            cases h : ltL m q with
            | true => rfl
            | false => exact absurd (ltL_tri m q h (by simpa using hq)) hmq
          first
          | exact hq'
          | exact List.mem_append_left _ h3
          | exact List.mem_append_right _ List.mem_cons_self
          | (intro k hk
             dsimp only
             rcases List.mem_append.mp hk with hk | hk
             · rcases h4 k hk with rfl | rfl | h
               · exact .inr (.inl rfl)
               · exact .inr (.inr h1)
               · exact .inr (.inr (ltL_trans _ _ _ h1 h))
             · exact .inl (List.mem_singleton.mp hk))
      · rw [if_neg hl]
        have hl' : ltL p m = true := by
          cases h : ltL p m with
          | true => rfl
          | false => exact absurd (ltL_tri m p (by simpa using hl) h) hmp
        first
        | exact h1
        | exact List.mem_append_left _ h2
        | exact List.mem_append_left _ h3
        | (intro k hk
           dsimp only
           rcases List.mem_append.mp hk with hk | hk
           · exact h4 k hk
           · rw [List.mem_singleton.mp hk]; exact .inr (.inr hl'))
theorem two_least {S : List (List Int)} (hs : S.Pairwise LeI) (hn : S.Nodup) {a b : List Int} (ha : a ∈ S) (hb : b ∈ S) (hab : ltL a b = true) (h : ∀ k ∈ S, k = a ∨ k = b ∨ ltL b k = true) : S.take 2 = [a, b] := by
  match S, hs, hn, ha, hb, h with
  | [], _, _, ha, _, _ => cases ha
  | [s], _, _, ha, hb, _ =>
    rw [List.mem_singleton.mp ha, List.mem_singleton.mp hb, ltL_irr] at hab; cases hab
  | s :: t :: r, hs, hn, ha, hb, h =>
    obtain ⟨h1, h2⟩ := List.pairwise_cons.mp hs
    obtain ⟨h3, h4⟩ := List.pairwise_cons.mp h2
    obtain ⟨n1, n2⟩ := List.nodup_cons.mp hn
    have le0 : ∀ k ∈ s :: t :: r, LeI s k := fun k hk => by
      rcases List.mem_cons.mp hk with rfl | hk
      · exact ltL_irr _
      · exact h1 k hk
    have hsa : s = a := by
      rcases h s List.mem_cons_self with e | e | e
      · exact e
      · have := le0 a ha
        rw [e] at this
        rw [show ltL a b = false from this] at hab; cases hab
      · have := le0 b hb
        rw [show ltL b s = false from this] at e; cases e
    subst hsa
    have hbm : b ∈ t :: r := by
      rcases List.mem_cons.mp hb with e | e
      · rw [e, ltL_irr] at hab; cases hab
      · exact e
    have hts : t ≠ s := fun e => n1 (by rw [← e]; exact List.mem_cons_self)
    have htb : t = b := by
      rcases h t (by simp) with e | e | e
      · exact absurd e hts
      · exact e
      · have : LeI t b := by
          rcases List.mem_cons.mp hbm with e' | e'
          · rw [e']; exact ltL_irr _
          · exact h3 b e'
        rw [show ltL b t = false from this] at e; cases e
    rw [htb]; rfl
theorem ns_law {ms : List (List Int)} (hn : ms.Nodup) (h2 : 2 ≤ ms.length) : nsF ms = (risingF ms).take 2 := by
  match ms, h2, hn with
  | a :: b :: ms, _, hn =>
    have hab : a ≠ b := by
      have := (List.nodup_cons.mp hn).1
      intro e; exact this (by rw [e]; exact List.mem_cons_self)
    have hstart : ltL (nsStart a b).2.1.1 (nsStart a b).1.1 = true ∧ (nsStart a b).1.1 ∈ [a, b] ∧ (nsStart a b).2.1.1 ∈ [a, b] ∧ ∀ k ∈ [a, b], k = (nsStart a b).2.1.1 ∨ k = (nsStart a b).1.1 ∨ ltL (nsStart a b).1.1 k = true := by
      unfold nsStart
      rw [lt2_ne (x := (b, 1)) (y := (a, 0)) (Ne.symm hab)]
      by_cases h : ltL b a = true
      · rw [if_pos h]
        refine ⟨h, by simp, by simp, fun k hk => ?_⟩
        rcases List.mem_cons.mp hk with rfl | hk
        · exact .inr (.inl rfl)
        · exact .inl (List.mem_singleton.mp hk)
      · rw [if_neg h]
        have h' : ltL a b = true := by
          cases e : ltL a b with
          | true => rfl
          | false => exact absurd (ltL_tri a b e (by simpa using h)) hab
        refine ⟨h', by simp, by simp, fun k hk => ?_⟩
        rcases List.mem_cons.mp hk with rfl | hk
        · exact .inl rfl
        · exact .inr (.inl (List.mem_singleton.mp hk))
    obtain ⟨s1, s2, s3, s4⟩ := hstart
    obtain ⟨f1, f2, f3, f4⟩ := ns_fold ms [a, b] (nsStart a b) hn s1 s2 s3 s4
    have hp := risingF_perm (a :: b :: ms)
    have hne : (ms.foldl nsStep (nsStart a b)).2.1.1 ≠ (ms.foldl nsStep (nsStart a b)).1.1 := fun e => by rw [e, ltL_irr] at f1; cases f1
    have e1 : nsF (a :: b :: ms) = [(ms.foldl nsStep (nsStart a b)).2.1.1, (ms.foldl nsStep (nsStart a b)).1.1] := by
      show nsEnd (ms.foldl nsStep (nsStart a b)) = _
      unfold nsEnd
      rw [lt2_ne hne, if_pos f1]
    rw [e1]
    exact (two_least (risingF_sorted _) (hp.nodup_iff.mpr hn) (hp.mem_iff.mpr f3) (hp.mem_iff.mpr f2) f1 fun k hk => f4 k (hp.mem_iff.mp hk)).symm
end Mine
end
-- P7
noncomputable section
open PySem PySem.Calls PyProof.Rows PySem.W
set_option maxRecDepth 100000
set_option linter.unusedVariables false
namespace Mine
section
variable {α : Type} {lt : α → α → Bool}
structure Ord (lt : α → α → Bool) : Prop where
  trans : ∀ x y z, lt y x = false → lt z y = false → lt z x = false
  asym : ∀ x y, lt x y = true → lt y x = false
theorem Ord.irr (O : Ord lt) (x : α) : lt x x = false := by
  cases e : lt x x with
  | false => rfl
  | true => have := O.asym x x e; rw [e] at this; exact this
def Kid (i j : Nat) : Prop := j = 2 * i + 1 ∨ j = 2 * i + 2
def HeapAt (lt : α → α → Bool) (k : Nat) (xs : List α) : Prop := ∀ i j x y, k ≤ i → Kid i j → xs[i]? = some x → xs[j]? = some y → lt y x = false
structure Hole (lt : α → α → Bool) (k : Nat) (xs : List α) (p : Nat) : Prop where
  rest : ∀ i j x y, k ≤ i → Kid i j → i ≠ p → j ≠ p → xs[i]? = some x → xs[j]? = some y → lt y x = false
  grand : ∀ q j x y, k ≤ q → Kid q p → Kid p j → xs[q]? = some x → xs[j]? = some y → lt y x = false
inductive Desc (s : Nat) : Nat → Prop
  | refl : Desc s s
  | step {p c : Nat} : Desc s p → Kid p c → Desc s c
theorem Desc.le {s p : Nat} (h : Desc s p) : s ≤ p := by
  induction h with
  | refl => exact Nat.le_refl _
  | step _ hk ih => rcases hk with rfl | rfl <;> lia
theorem Kid.par {i j : Nat} (h : Kid i j) : (j - 1) / 2 = i := by rcases h with rfl | rfl <;> lia
theorem Kid.lts {i j : Nat} (h : Kid i j) : i < j := by rcases h with rfl | rfl <;> lia
theorem Kid.of {p : Nat} (h : 0 < p) : Kid ((p - 1) / 2) p := by unfold Kid; lia
theorem getSet {xs : List α} {p i : Nat} {v : α} (hp : p < xs.length) : (xs.set p v)[i]? = if i = p then some v else xs[i]? := by
  by_cases h : i = p
  · subst h; rw [if_pos rfl, List.getElem?_set_self hp]
  · rw [if_neg h, List.getElem?_set_ne (Ne.symm h)]
theorem setSwap {xs : List α} {p c : Nat} (v y : α) (hp : p < xs.length) (hc : xs[c]? = some y) (h : p ≠ c) : ((xs.set p y).set c v).Perm (xs.set p v) := by
  obtain ⟨hc1, hc2⟩ := List.getElem?_eq_some_iff.mp hc
  have := List.set_set_perm (as := xs.set p v) (i := p) (j := c) (by simpa using hp) (by simpa using hc1)
  rw [List.getElem_set_self, List.getElem_set_ne h, List.set_set, hc2] at this
  exact this
theorem pick_spec (O : Ord lt) {xs : List α} {p : Nat} (h : 2 * p + 1 < xs.length) : ∃ y, xs[pickF lt xs (2 * p + 1)]? = some y ∧ Kid p (pickF lt xs (2 * p + 1)) ∧
    ∀ j z, Kid p j → xs[j]? = some z → j ≠ pickF lt xs (2 * p + 1) → lt z y = false := by
  have h1 : xs[2 * p + 1]? = some xs[2 * p + 1] := by simp [h]
  generalize xs[2 * p + 1] = l at h1
  unfold pickF
  rw [h1]
  cases h2 : xs[2 * p + 1 + 1]? with
  | none =>
    refine ⟨l, h1, .inl rfl, fun j z hk hz hj => ?_⟩
    rcases hk with rfl | rfl
    · exact absurd rfl hj
    · rw [h2] at hz; cases hz
  | some r =>
    dsimp only
    by_cases hl : lt l r = true
    · rw [if_pos hl]
      refine ⟨l, h1, .inl rfl, fun j z hk hz hj => ?_⟩
      rcases hk with rfl | rfl
      · exact absurd rfl hj
      · rw [h2] at hz; cases hz; exact O.asym _ _ hl
    · rw [if_neg hl]
      refine ⟨r, h2, .inr rfl, fun j z hk hz hj => ?_⟩
      rcases hk with rfl | rfl
      · rw [h1] at hz; cases hz; simpa using hl
      · exact absurd rfl hj
theorem up_spec (O : Ord lt) (k : Nat) : ∀ (n : Nat) (xs : List α) (p : Nat), xs.length - p ≤ n → p < xs.length → Hole lt k xs p → Desc k p →
    Hole lt k (upLoop lt xs p).1 (upLoop lt xs p).2 ∧ Desc k (upLoop lt xs p).2 ∧ (upLoop lt xs p).2 < (upLoop lt xs p).1.length ∧ (upLoop lt xs p).1.length ≤ 2 * (upLoop lt xs p).2 + 1 ∧
      ∀ v, ((upLoop lt xs p).1.set (upLoop lt xs p).2 v).Perm (xs.set p v)
  | 0, xs, p, h, hp, _, _ => by lia
  | n + 1, xs, p, h, hp, hh, hd => by
    rw [upLoop]
    by_cases hc : 2 * p + 1 < xs.length
    · rw [dif_pos hc]
      obtain ⟨y, hy, hk, hmin⟩ := pick_spec O hc
      generalize pickF lt xs (2 * p + 1) = c at hy hk hmin
      rw [hy]
      dsimp only
      have hcl : c < xs.length := (List.getElem?_eq_some_iff.mp hy).1
      have hpc : p < c := hk.lts
      have hkp := hd.le
      have hole : Hole lt k (xs.set p y) c := by
        refine ⟨fun i j x z hi hij hic hjc hx hz => ?_, fun q j x z hq hqc hcj hx hz => ?_⟩
        · rw [getSet hp] at hx hz
          by_cases h1 : i = p
          · subst h1
            rw [if_pos rfl] at hx; cases hx
            have hj : j ≠ i := fun e => by have := hij.lts; lia
            rw [if_neg hj] at hz
            exact hmin j z hij hz hjc
          · rw [if_neg h1] at hx
            by_cases h2 : j = p
            · subst h2
              rw [if_pos rfl] at hz; cases hz
              exact hh.grand i c x y hi hij hk hx hy
            · rw [if_neg h2] at hz
              exact hh.rest i j x z hi hij h1 h2 hx hz
        · have hqp : q = p := by have h1 := hqc.par; have h2 := hk.par; lia
          subst hqp
          rw [getSet hp, if_pos rfl] at hx; cases hx
          have := hcj.lts
          rw [getSet hp, if_neg (by lia)] at hz
          exact hh.rest c j y z (by lia) hcj (by lia) (by lia) hy hz
      obtain ⟨h1, h2, h3, h4, h5⟩ := up_spec O k n (xs.set p y) c (by rw [List.length_set]; lia) (by rw [List.length_set]; exact hcl) hole (hd.step hk)
      refine ⟨h1, h2, h3, h4, fun v => (h5 v).trans (setSwap v y hp hy (by lia))⟩
    · rw [dif_neg hc]
      exact ⟨hh, hd, hp, by show xs.length ≤ 2 * p + 1; lia, fun v => .refl _⟩
theorem down_spec (O : Ord lt) (k : Nat) (new : α) : ∀ (n : Nat) (xs : List α) (p : Nat), p ≤ n → p < xs.length → Hole lt k xs p → Desc k p → (∀ j y, Kid p j → xs[j]? = some y → lt y new = false) →
    HeapAt lt k (siftdownF lt new k xs p) ∧ (siftdownF lt new k xs p).Perm (xs.set p new) := by
  intro n
  induction n with
  | zero =>
    intro xs p hn hp hh hd hnew
    rw [siftdownF, dif_neg (by lia)]
    refine ⟨fun i j x y hi hij hx hy => ?_, .refl _⟩
    rw [getSet hp] at hx hy
    by_cases h2 : j = p
    · have := hij.lts; lia
    · rw [if_neg h2] at hy
      by_cases h1 : i = p
      · subst h1
        rw [if_pos rfl] at hx; cases hx
        exact hnew j y hij hy
      · rw [if_neg h1] at hx
        exact hh.rest i j x y hi hij h1 h2 hx hy
  | succ n ih =>
    intro xs p hn hp hh hd hnew
    -- the hole is filled
    have fin : (k < p → ∀ x, xs[(p - 1) / 2]? = some x → lt new x = false) → HeapAt lt k (xs.set p new) := by
      intro hpar i j x y hi hij hx hy
      rw [getSet hp] at hx hy
      by_cases h2 : j = p
      · subst h2
        rw [if_pos rfl] at hy; cases hy
        have := hij.lts
        rw [if_neg (by lia)] at hx
        refine hpar (by lia) x ?_
        rw [hij.par]; exact hx
      · rw [if_neg h2] at hy
        by_cases h1 : i = p
        · subst h1
          rw [if_pos rfl] at hx; cases hx
          exact hnew j y hij hy
        · rw [if_neg h1] at hx
          exact hh.rest i j x y hi hij h1 h2 hx hy
    rw [siftdownF]
    by_cases hkp : k < p
    · rw [dif_pos hkp]
      obtain ⟨q, hdq, hqp⟩ : ∃ q, Desc k q ∧ Kid q p := by
        cases hd with
        | refl => lia
        | step h1 h2 => exact ⟨_, h1, h2⟩
      have hq : (p - 1) / 2 = q := hqp.par
      have hql : q < p := hqp.lts
      have hkq := hdq.le
      rw [hq]
      have hxq : xs[q]? = some xs[q] := by simp [show q < xs.length by lia]
      generalize xs[q] = x at hxq
      rw [hxq]
      dsimp only
      by_cases hc : lt new x = true
      · rw [if_pos hc]
        have hole : Hole lt k (xs.set p x) q := by
          refine ⟨fun i j a b hi hij hiq hjq ha hb => ?_, fun r j a b hr hrq hqj ha hb => ?_⟩
          · rw [getSet hp] at ha hb
            by_cases h2 : j = p
            · subst h2
              exact absurd (hij.par.symm.trans hqp.par) hiq
            · rw [if_neg h2] at hb
              by_cases h1 : i = p
              · subst h1
                rw [if_pos rfl] at ha; cases ha
                exact hh.grand q j x b hkq hqp hij hxq hb
              · rw [if_neg h1] at ha
                exact hh.rest i j a b hi hij h1 h2 ha hb
          · have hrl := hrq.lts
            rw [getSet hp, if_neg (by lia)] at ha
            have hxa : lt x a = false := hh.rest r q a x hr hrq (by lia) (by lia) ha hxq
            rw [getSet hp] at hb
            by_cases h2 : j = p
            · rw [if_pos h2] at hb; cases hb; exact hxa
            · rw [if_neg h2] at hb
              exact O.trans a x b hxa (hh.rest q j x b hkq hqj (by lia) h2 hxq hb)
        have hnew2 : ∀ j y, Kid q j → (xs.set p x)[j]? = some y → lt y new = false := by
          intro j y hqj hy
          rw [getSet hp] at hy
          by_cases h2 : j = p
          · rw [if_pos h2] at hy; cases hy; exact O.asym _ _ hc
          · rw [if_neg h2] at hy
            exact O.trans new x y (O.asym _ _ hc) (hh.rest q j x y hkq hqj (by lia) h2 hxq hy)
        obtain ⟨h1, h2⟩ := ih (xs.set p x) q (by lia) (by rw [List.length_set]; lia) hole hdq hnew2
        exact ⟨h1, h2.trans (setSwap new x hp hxq (by lia))⟩
      · rw [if_neg hc]
        exact ⟨fin fun _ z hz => by rw [hq, hxq] at hz; cases hz; simpa using hc, .refl _⟩
    · rw [dif_neg hkp]
      exact ⟨fin fun h => absurd h hkp, .refl _⟩
theorem siftup_spec (O : Ord lt) {k : Nat} {xs : List α} (new : α) (hk : k < xs.length) (h : HeapAt lt (k + 1) xs) : HeapAt lt k (siftupF lt new xs k) ∧ (siftupF lt new xs k).Perm (xs.set k new) := by
  have hole : Hole lt k xs k := ⟨fun i j x y hi hij hik hjk hx hy => h i j x y (by lia) hij hx hy, fun q j x y hq hqk _ _ _ => by have := hqk.lts; lia⟩
  obtain ⟨h1, h2, h3, h4, h5⟩ := up_spec O k _ xs k (Nat.le_refl _) hk hole .refl
  unfold siftupF
  generalize upLoop lt xs k = r at *
  obtain ⟨ys, p⟩ := r
  dsimp only at *
  have hole2 : Hole lt k (ys.set p new) p := by
    refine ⟨fun i j x y hi hij hip hjp hx hy => ?_, fun q j x y hq hqp hpj hx hy => ?_⟩
    · rw [getSet h3, if_neg hip] at hx
      rw [getSet h3, if_neg hjp] at hy
      exact h1.rest i j x y hi hij hip hjp hx hy
    · have := hpj.lts
      have hj := (List.getElem?_eq_some_iff.mp hy).1
      rw [List.length_set] at hj
      rcases hpj with rfl | rfl <;> lia
  obtain ⟨d1, d2⟩ := down_spec O k new p (ys.set p new) p (Nat.le_refl _) (by rw [List.length_set]; exact h3) hole2 h2 fun j y hpj hy => by
    have hj := (List.getElem?_eq_some_iff.mp hy).1
    rw [List.length_set] at hj
    rcases hpj with rfl | rfl <;> lia
  refine ⟨d1, d2.trans ?_⟩
  rw [List.set_set]
  exact h5 new
theorem heapify_spec (O : Ord lt) : ∀ (k : Nat) (xs : List α), k ≤ xs.length → HeapAt lt k xs → HeapAt lt 0 (heapifyF lt k xs) ∧ (heapifyF lt k xs).Perm xs
  | 0, xs, _, h => ⟨h, .refl _⟩
  | k + 1, xs, hk, h => by
    have hx : xs[k]? = some xs[k] := by simp [show k < xs.length by lia]
    unfold heapifyF
    rw [hx]
    dsimp only
    obtain ⟨h1, h2⟩ := siftup_spec O (k := k) xs[k] (by lia) h
    obtain ⟨h3, h4⟩ := heapify_spec O k (siftupF lt xs[k] xs k) (by rw [siftupF_len]; lia) h1
    refine ⟨h3, h4.trans (h2.trans ?_)⟩
    rw [List.set_getElem_self]
theorem heapify_all (O : Ord lt) (xs : List α) : HeapAt lt 0 (heapifyF lt (xs.length / 2) xs) ∧ (heapifyF lt (xs.length / 2) xs).Perm xs :=
  heapify_spec O _ xs (by lia) fun i j x y hi hij _ hy => by
    have hj := (List.getElem?_eq_some_iff.mp hy).1
    rcases hij with rfl | rfl <;> lia
theorem heap_min (O : Ord lt) {xs : List α} (h : HeapAt lt 0 xs) {x : α} (hx : xs[0]? = some x) : ∀ (j : Nat) (y : α), xs[j]? = some y → lt y x = false := by
  intro j
  induction j using Nat.strongRecOn with
  | ind j ih =>
    intro y hy
    by_cases h0 : j = 0
    · subst h0; rw [hx] at hy; cases hy; exact O.irr x
    · have hk := Kid.of (p := j) (by lia)
      have hl := hk.lts
      have hjl := (List.getElem?_eq_some_iff.mp hy).1
      have hp : xs[(j - 1) / 2]? = some xs[(j - 1) / 2] := by simp [show (j - 1) / 2 < xs.length by lia]
      exact O.trans x _ y (ih _ hl _ hp) (h _ j _ y (Nat.zero_le _) hk hp hy)
theorem heap_min' (O : Ord lt) {xs : List α} (h : HeapAt lt 0 xs) {x : α} (hx : xs[0]? = some x) : ∀ y ∈ xs, lt y x = false := fun y hy => by
  obtain ⟨j, hj, e⟩ := List.mem_iff_getElem.mp hy
  exact heap_min O h hx j y (by rw [List.getElem?_eq_getElem hj, e])
theorem heap_set0 {xs : List α} (h : HeapAt lt 0 xs) (v : α) : HeapAt lt 1 (xs.set 0 v) := fun i j x y hi hij hx hy => by
  have := hij.lts
  rw [List.getElem?_set_ne (by lia)] at hx hy
  exact h i j x y (Nat.zero_le _) hij hx hy
theorem heap_pre {xs ys : List α} (h : HeapAt lt 0 (xs ++ ys)) : HeapAt lt 0 xs := fun i j x y hi hij hx hy => by
  have h1 := (List.getElem?_eq_some_iff.mp hx).1
  have h2 := (List.getElem?_eq_some_iff.mp hy).1
  refine h i j x y hi hij ?_ ?_
  · rw [List.getElem?_append_left h1]; exact hx
  · rw [List.getElem?_append_left h2]; exact hy
theorem popH_spec (O : Ord lt) {zs : List α} (h : HeapAt lt 0 zs) {x : α} {r : List α} (e : popH lt zs = some (x, r)) : HeapAt lt 0 r ∧ (x :: r).Perm zs ∧ ∀ y ∈ zs, lt y x = false := by
  rcases List.eq_nil_or_concat zs with rfl | ⟨ys, last, rfl⟩
  · cases e
  · rw [List.concat_eq_append] at h e ⊢
    cases ys with
    | nil =>
      rw [List.nil_append, popH_one] at e
      cases e
      refine ⟨fun i j x y _ _ hx _ => by simp at hx, .refl _, fun y hy => ?_⟩
      rw [List.mem_singleton.mp hy]; exact O.irr _
    | cons y ys =>
      rw [popH_snoc] at e
      cases e
      have hmin := heap_min' O h rfl
      obtain ⟨h1, h2⟩ := siftup_spec O (k := 0) (xs := (x :: ys).set 0 last) last (by simp) (heap_set0 (heap_pre h) last)
      refine ⟨h1, ?_, hmin⟩
      have e2 : ((x :: ys).set 0 last).set 0 last = last :: ys := rfl
      rw [e2] at h2
      exact (h2.cons _).trans (List.Perm.cons _ (List.perm_append_singleton last ys).symm)
theorem popsH_spec (O : Ord lt) {zs : List α} (h : HeapAt lt 0 zs) : ∀ n, HeapAt lt 0 (popsH lt n zs).2 ∧ ((popsH lt n zs).1 ++ (popsH lt n zs).2).Perm zs ∧ (popsH lt n zs).1.Pairwise (fun x y => lt y x = false) ∧
    ∀ x ∈ (popsH lt n zs).1, ∀ y ∈ (popsH lt n zs).2, lt y x = false
  | 0 => ⟨h, .refl _, List.Pairwise.nil, fun x hx => (List.not_mem_nil hx).elim⟩
  | n + 1 => by
    obtain ⟨h1, h2, h3, h4⟩ := popsH_spec O h n
    unfold popsH
    generalize popsH lt n zs = st at *
    obtain ⟨o, r⟩ := st
    dsimp only at *
    cases e : popH lt r with
    | none => exact ⟨h1, h2, h3, h4⟩
    | some xr =>
      obtain ⟨x, r'⟩ := xr
      obtain ⟨p1, p2, p3⟩ := popH_spec O h1 e
      have hx : x ∈ r := p2.mem_iff.mp List.mem_cons_self
      have hr : ∀ y ∈ r', y ∈ r := fun y hy => p2.mem_iff.mp (List.mem_cons_of_mem _ hy)
      refine ⟨p1, ?_, ?_, ?_⟩
      · show (o ++ [x] ++ r').Perm zs
        rw [List.append_assoc]
        exact (p2.append_left o).trans h2
      · show (o ++ [x]).Pairwise _
        rw [List.pairwise_append]
        exact ⟨h3, List.pairwise_singleton _ _, fun a ha b hb => by rw [List.mem_singleton.mp hb]; exact h4 a ha x hx⟩
      · intro a ha y hy
        rcases List.mem_append.mp ha with ha | ha
        · exact h4 a ha y (hr y hy)
        · rw [List.mem_singleton.mp ha]; exact p3 y (hr y hy)
end
end Mine
end
-- P8
noncomputable section
open PySem PySem.Calls PyProof.Rows PySem.W
set_option maxRecDepth 100000
set_option linter.unusedVariables false
namespace Mine
theorem tc_noLB (k : Int) : NoLB (tc k) := by
  unfold tc NoLB
  split
  · decide
  · split
    · decide
    · split
      · decide
      · split <;> decide
theorem text_noLB {r : List Int} (h : RowOk r) : NoLB (textF r).cps.toList := by
  rw [textF_tc r h]
  intro c hc
  obtain ⟨k, _, hk⟩ := List.mem_flatMap.mp hc
  exact tc_noLB k c hk
theorem wl_len : ∀ (ts : List (List Nat)) (k : Nat), (wl k ts).length ≤ (ts.map (·.length)).sum + 2 * ts.length
  | [], k => by simp [wl]
  | [t], k => by simp [wl]
  | t :: u :: r, k => by
    have ih := wl_len (u :: r) (k + 1)
    have hs : (sepL k).length ≤ 2 := by
      unfold sepL
      split
      · decide
      · split <;> decide
    simp only [wl, List.length_append, List.map_cons, List.sum_cons, List.length_cons] at ih ⊢
    lia
theorem jn_len (sep : List Nat) : ∀ (ts : List (List Nat)), (jn sep ts).length ≤ (ts.map (·.length)).sum + sep.length * ts.length
  | [] => by simp [jn]
  | [t] => by simp [jn]
  | t :: u :: r => by
    have ih := jn_len sep (u :: r)
    have e : sep.length * (t :: u :: r).length = sep.length + sep.length * (u :: r).length := by rw [List.length_cons, Nat.mul_succ, Nat.add_comm]
    rw [e]
    simp only [jn, List.length_append, List.map_cons, List.sum_cons] at ih ⊢
    lia
theorem sum_map_le {α : Type} (f g : α → Nat) : ∀ (xs : List α), (∀ x ∈ xs, f x ≤ g x) → (xs.map f).sum ≤ (xs.map g).sum
  | [], _ => by simp
  | x :: xs, h => by
    have := sum_map_le f g xs fun y hy => h y (List.mem_cons_of_mem _ hy)
    have := h x List.mem_cons_self
    simp only [List.map_cons, List.sum_cons]; lia
theorem sum_mul4 : ∀ rows : List (List Int), (rows.map fun r => 4 * r.length).sum = 4 * (rows.map (·.length)).sum
  | [] => rfl
  | r :: rows => by simp only [List.map_cons, List.sum_cons, sum_mul4 rows]; lia
theorem sum_add1 {α : Type} (f : α → Nat) : ∀ xs : List α, (xs.map fun x => 1 + f x).sum = xs.length + (xs.map f).sum
  | [] => rfl
  | x :: xs => by simp only [List.map_cons, List.sum_cons, List.length_cons, sum_add1 f xs]; lia
theorem texts_sum {rows : List (List Int)} (h : ∀ r ∈ rows, RowOk r) : (((rows.map textF).map (·.cps.toList)).map (·.length)).sum ≤ 4 * (rows.map (·.length)).sum := by
  rw [List.map_map, List.map_map, ← sum_mul4]
  refine sum_map_le _ _ rows fun r hr => ?_
  have := textF_len (h r hr)
  show (textF r).cps.toList.length ≤ _
  rw [Array.length_toList]; exact this
/-- marks -/
theorem filter_len_le (k : Option Str) (ps : List (Option Str)) : (ps.filter fun p => decide (p = k)).length ≤ ps.length := List.length_filter_le ..
theorem breadth_shape (ps : List (Option Str)) : ∃ a b c : Nat, breadthF ps = [(a : Int), (b : Int), (c : Int)] ∧ a ≤ ps.length := ⟨_, _, _, rfl, filter_len_le _ _⟩
theorem mark_mem {rows : List (List Int)} (hl : ∀ r ∈ rows, r.length ≤ 26) (hok : ∀ r ∈ rows, RowOk r) {x : List Int} (h : x ∈ marksP rows) : ∃ a b c k : Nat, x = [(a : Int), (b : Int), (c : Int), (k : Int)] ∧ a < 99 := by
  obtain ⟨k, hk, rfl⟩ := List.mem_map.mp h
  have hk := List.mem_range.mp hk
  obtain ⟨a, b, c, e, ha⟩ := breadth_shape (piecesF (rows.getD k []))
  refine ⟨a, b, c, k, by rw [e]; rfl, ?_⟩
  have hr : rows.getD k [] ∈ rows := by
    rw [List.getD_eq_getElem?_getD, List.getElem?_eq_getElem hk]; exact List.getElem_mem hk
  have h1 := hl _ hr
  rw [← tr_pieces _ (hok _ hr)] at ha
  have h2 := trF_len (rows.getD k [])
  lia
theorem mark_lo {rows : List (List Int)} (hl : ∀ r ∈ rows, r.length ≤ 26) (hok : ∀ r ∈ rows, RowOk r) {x : List Int} (h : x ∈ marksP rows) : ltL x [0, 0, 0, -1] = false := by
  obtain ⟨a, b, c, k, rfl, _⟩ := mark_mem hl hok h
  simp only [ltL]
  split
  · split
    · split
      · split
        · lia
        · simp
      · simp
    · simp
  · simp
theorem mark_hi {rows : List (List Int)} (hl : ∀ r ∈ rows, r.length ≤ 26) (hok : ∀ r ∈ rows, RowOk r) {x : List Int} (h : x ∈ marksP rows) : ltL x [99, 0, 0, 0] = true := by
  obtain ⟨a, b, c, k, rfl, ha⟩ := mark_mem hl hok h
  unfold ltL
  rw [if_neg (by lia)]
  simp; lia
theorem marks_nodup (rows : List (List Int)) : (marksP rows).Nodup := by
  unfold marksP
  rw [List.Nodup, List.pairwise_map]
  refine List.Pairwise.imp_of_mem ?_ (List.nodup_range (n := rows.length))
  intro i j _ _ hij e
  have := congrArg List.getLast? e
  simp at this
  exact hij (by lia)
theorem ordP : Ord ltP := ⟨fun x y z h1 h2 => LeI.trans (x := x.2) (y := y.2) (z := z.2) h1 h2, fun x y h => ltL_asym h⟩
theorem heap_law {K : List (List Int)} (h3 : 2 < K.length) (hlo : ∀ x ∈ K, ltL x [0, 0, 0, -1] = false) (hhi : ∀ x ∈ K, ltL x [99, 0, 0, 0] = true) (zs : List (Value × List Int)) (hz : zs.map Prod.snd = K) :
    ∃ top, (heapifyF ltP (zs.length / 2) zs)[0]? = some top ∧ ltL top.2 [0, 0, 0, -1] = false ∧ ltL top.2 [99, 0, 0, 0] = true ∧
    (risingF K)[0]? = some top.2 ∧ ∀ item : Value, (popsH ltP zs.length (siftupF ltP (item, [99, 0, 0, 0]) ((heapifyF ltP (zs.length / 2) zs).set 0 (item, [99, 0, 0, 0])) 0)).1.map Prod.snd = (risingF K).drop 1 ++ [[99, 0, 0, 0]] := by
  obtain ⟨h1, h2⟩ := heapify_all ordP zs
  have hlz : zs.length = K.length := by rw [← hz, List.length_map]
  have hlh := h2.length_eq
  generalize heapifyF ltP (zs.length / 2) zs = hz' at h1 h2 hlh
  cases hz' with
  | nil => simp at hlh; lia
  | cons top tl =>
    have hperm : (top.2 :: tl.map Prod.snd).Perm K := by rw [← hz]; exact h2.map Prod.snd
    have hsort := risingF_sorted K
    have hdp := risingF_perm K
    have htK : top.2 ∈ K := hperm.mem_iff.mp List.mem_cons_self
    have hmin : ∀ x ∈ K, LeI top.2 x := by
      intro x hx
      rw [← hz] at hx
      obtain ⟨z, hz1, rfl⟩ := List.mem_map.mp hx
      exact heap_min' ordP h1 rfl z (h2.mem_iff.mpr hz1)
    generalize hdue : risingF K = due at hsort hdp
    cases due with
    | nil => have := hdp.length_eq; simp at this; lia
    | cons d due =>
      obtain ⟨s1, s2⟩ := List.pairwise_cons.mp hsort
      have hdt : d = top.2 := by
        have hd1 : d ∈ K := hdp.mem_iff.mp List.mem_cons_self
        refine LeI.anti ?_ (hmin d hd1)
        rcases List.mem_cons.mp (hdp.mem_iff.mpr htK) with e | e
        · rw [e]; exact ltL_irr _
        · exact s1 _ e
      subst hdt
      refine ⟨top, rfl, hlo _ htK, hhi _ htK, rfl, fun item => ?_⟩
      rw [List.drop_succ_cons, List.drop_zero]
      obtain ⟨u1, u2⟩ := siftup_spec ordP (k := 0) (xs := (top :: tl).set 0 (item, [99, 0, 0, 0])) (item, [99, 0, 0, 0]) (by simp) (heap_set0 h1 _)
      generalize siftupF ltP (item, [99, 0, 0, 0]) ((top :: tl).set 0 (item, [99, 0, 0, 0])) 0 = hp at u1 u2
      have u2 : hp.Perm ((item, [99, 0, 0, 0]) :: tl) := u2
      have hpl : hp.length = zs.length := by rw [u2.length_eq]; exact hlh
      obtain ⟨p1, p2, p3, _⟩ := popsH_spec ordP u1 zs.length
      obtain ⟨f1, _, _⟩ := popsH_facts ltP hp zs.length
      generalize popsH ltP zs.length hp = st at p1 p2 p3 f1
      obtain ⟨o, r⟩ := st
      dsimp only at p1 p2 p3 f1 ⊢
      have hr : r = [] := by rw [← List.length_eq_zero_iff, f1, hpl]; lia
      subst hr
      rw [List.append_nil] at p2
      refine sorted_uniq ?_ ?_ ?_
      · rw [List.pairwise_map]; exact p3
      · rw [List.pairwise_append]
        refine ⟨s2, List.pairwise_singleton _ _, fun x hx y hy => ?_⟩
        rw [List.mem_singleton.mp hy]
        exact ltL_asym (hhi x (hdp.mem_iff.mp (List.mem_cons_of_mem _ hx)))
      · have q1 : (o.map Prod.snd).Perm ([99, 0, 0, 0] :: tl.map Prod.snd) := (p2.trans u2).map Prod.snd
        have q2 : (tl.map Prod.snd).Perm due := (hperm.trans hdp.symm).cons_inv
        exact q1.trans ((q2.cons _).trans (List.perm_append_singleton _ _).symm)
theorem plain_rows (ns : List Int) : Plain (rowsOf ns) := by
  have ok := rowsOf_ok ns
  have len := rowsOf_len ns
  obtain ⟨sz, sum⟩ := rowsOf_sizes ns
  have h3 := rowsOf_3 ns
  generalize rowsOf ns = rows at ok len sz sum h3
  have tno : ∀ t ∈ rows.map textF, NoLB t.cps.toList := fun t ht => by
    obtain ⟨r, hr, rfl⟩ := List.mem_map.mp ht
    exact text_noLB (ok r hr)
  have dts : (rows.map textF).map dotT = (rows.map dotR).map textF := by
    rw [List.map_map, List.map_map]
    exact List.map_congr_left fun r hr => dotT_textF (ok r hr)
  have dok : ∀ r ∈ rows.map dotR, RowOk r := fun r hr => by
    obtain ⟨q, hq, rfl⟩ := List.mem_map.mp hr
    exact dotR_ok (ok q hq)
  have dno : ∀ t ∈ (rows.map textF).map dotT, NoLB t.cps.toList := fun t ht => by
    rw [dts] at ht
    obtain ⟨r, hr, rfl⟩ := List.mem_map.mp ht
    exact text_noLB (dok r hr)
  have law2 := law2_of (rows.map textF) tno
  have law1 := law1_of (rows.map textF) tno
  have tsum := texts_sum ok
  have tlen : ∀ r ∈ rows, (textF r).length ≤ 104 := fun r hr => by
    have := textF_len (ok r hr)
    have := len r hr
    lia
  have trp : rows.map trF = rows.map piecesF := List.map_congr_left fun r hr => tr_pieces r (ok r hr)
  have hcr : (Str.ofString "\r\n").cps.toList = [13, 10] := by decide +kernel
  have hKl : (marksP rows).length = rows.length := by simp [marksP]
  refine ⟨ok, fun r hr => ?_, by lia, h3, dok, fun r hr => ?_, fun t ht => ?_, ?_, ?_, ?_, law1, law2, ?_, dts, fun t ht => ?_, ?_, trp, ?_, fun p hp => ?_, ?_, ns_law (marks_nodup rows) (by lia),
    heap_law (by lia) (fun x hx => mark_lo len ok hx) (fun x hx => mark_hi len ok hx)⟩
  · have := len r hr; lia
  · obtain ⟨q, hq, rfl⟩ := List.mem_map.mp hr
    have := len q hq
    have := dotR_len q
    lia
  · obtain ⟨r, hr, rfl⟩ := List.mem_map.mp ht
    have := tlen r hr
    lia
  · rw [← Array.length_toList, whole_cps]
    have := wl_len ((rows.map textF).map (·.cps.toList)) 0
    simp only [List.length_map] at this
    lia
  · rw [law2, ← Array.length_toList, join_cps, hcr]
    have := jn_len [13, 10] ((rows.map textF).map (·.cps.toList))
    simp only [List.length_map, List.length_cons, List.length_nil] at this
    lia
  · show (dotF (fixF (wholeF (rows.map textF)))).cps.size ≤ _
    rw [law1, ← Array.length_toList, join_cps, hcr]
    have h1 := jn_len [13, 10] (((rows.map textF).map dotT).map (·.cps.toList))
    have h2 : ((((rows.map textF).map dotT).map (·.cps.toList)).map (·.length)).sum ≤ ((rows.map textF).map fun t => 1 + t.cps.toList.length).sum := by
      rw [List.map_map, List.map_map]
      refine sum_map_le _ _ _ fun t _ => ?_
      have := dotT_len t
      show (dotT t).cps.toList.length ≤ 1 + t.cps.toList.length
      rw [Array.length_toList, Array.length_toList]; exact this
    rw [sum_add1 (fun t : Str => t.cps.toList.length)] at h2
    have h4 : ((rows.map textF).map fun t => t.cps.toList.length).sum ≤ 4 * (rows.map (·.length)).sum := by
      rw [List.map_map] at tsum; exact tsum
    simp only [List.length_map, List.length_cons, List.length_nil] at h1 h2
    lia
  · rw [law1]
    exact split_of _ (by intro e; have := congrArg List.length e; simp at this; subst this; simp at h3) dno
  · rw [dts] at ht
    obtain ⟨r, hr, rfl⟩ := List.mem_map.mp ht
    have := textF_len (dok r hr)
    obtain ⟨q, hq, rfl⟩ := List.mem_map.mp hr
    have := len q hq
    have := dotR_len q
    lia
  · rw [List.map_map]
    have : undot ∘ dotT = id := funext undot_dotT
    rw [this, List.map_id]
  · rw [← trp, List.map_map, List.map_map]
    exact List.map_congr_left fun r hr => trF_dotR (ok r hr)
  · obtain ⟨r, hr, rfl⟩ := List.mem_map.mp hp
    rw [← tr_pieces r (ok r hr)]
    have := trF_len r
    have := len r hr
    lia
  · unfold marksT marksP
    refine List.map_congr_left fun k hk => ?_
    have hk := List.mem_range.mp hk
    have hr : rows.getD k [] ∈ rows := by
      rw [List.getD_eq_getElem?_getD, List.getElem?_eq_getElem hk]; exact List.getElem_mem hk
    rw [tr_pieces _ (ok _ hr)]
end Mine
end
-- G1
noncomputable section
open PySem PySem.Calls PyProof.Rows PySem.W
set_option maxRecDepth 100000
set_option linter.unusedVariables false
namespace Mine
/-- all of the heap is frozen, but for the two tables of codes -/
def fz (h : Heap) : FM := fun a => if a = 74 ∨ a = 157 then none else h.get? a
theorem fz_of {h : Heap} {a : Addr} {o : Obj} (e : h.get? a = some o) (ha : ¬(a = 74 ∨ a = 157) := by decide) : fz h a = some o := (if_neg ha).trans e
theorem fz_ns {h : Heap} {a : Addr} {m : Str → Option Value} (x : h.Ns a m) (ha : ¬(a = 74 ∨ a = 157) := by decide) : NsF (fz h) a m := let ⟨o, es, ep, ho, r⟩ := x; ⟨o, fz_of ho ha, es, ep, r⟩
def emptyTab : Obj := { cls := .none, data := .fields #[] }
theorem tab0 : TabO #[] emptyTab := ⟨#[], rfl, trivial⟩
theorem inv0 {s : Shared} (h1 : s.heap.get? 74 = some emptyTab) (h2 : s.heap.get? 157 = some emptyTab) (hg : s.gens = #[]) : Inv s.os (fz s.heap) [(74, TabO #[]), (157, TabO #[])] s where
  frz := fun a o e => by
    unfold fz at e
    by_cases ha : a = 74 ∨ a = 157
    · rw [if_pos ha] at e; cases e
    · rw [if_neg ha] at e; exact e
  own := fun p hp => by
    rcases List.mem_cons.mp hp with rfl | hp
    · exact ⟨_, h1, tab0⟩
    · rw [List.mem_singleton.mp hp]; exact ⟨_, h2, tab0⟩
  sep := fun p hp => by
    unfold fz
    rcases List.mem_cons.mp hp with rfl | hp
    · exact if_pos (.inl rfl)
    · rw [List.mem_singleton.mp hp]; exact if_pos (.inr rfl)
  nod := by simp
  bare := AllBare.of_eq hg
  os := rfl
theorem list0 {h : Heap} {a : Addr} {vs : List Value} {o : Obj} (e : h.get? a = some o) (x : ListO vs o) (ha : ¬(a = 74 ∨ a = 157) := by decide) : IsL (fz h) a vs := ⟨o, fz_of e ha, x⟩
theorem bb_len : bootBuiltins (Str.ofString "len") = some (.builtin "len") := by kernel_rfl
theorem bb_range : bootBuiltins (Str.ofString "range") = some (.type "range") := by kernel_rfl
theorem bb_reversed : bootBuiltins (Str.ofString "reversed") = some (.type "reversed") := by kernel_rfl
theorem bb_isinstance : bootBuiltins (Str.ofString "isinstance") = some (.builtin "isinstance") := by kernel_rfl
theorem bb_str : bootBuiltins (Str.ofString "str") = some (.type "str") := by kernel_rfl
theorem bb_zip : bootBuiltins (Str.ofString "zip") = some (.type "zip") := by kernel_rfl
theorem bb_iter : bootBuiltins (Str.ofString "iter") = some (.builtin "iter") := by kernel_rfl
/-- what is looked at behind the top -/
def pj {β : Type} (F : Obj → Option β) (h : Heap) (a : Addr) : Option β := (h.get? a).bind F
theorem pj_keeps {β : Type} {F : Obj → Option β} {h h' : Heap} {a : Addr} {x : β} (k : ∀ b o, h.get? b = some o → h'.get? b = some o) (e : pj F h a = some x) : pj F h' a = some x := by
  obtain ⟨o, ho, hx⟩ := Option.bind_eq_some_iff.mp e
  exact Option.bind_eq_some_iff.mpr ⟨o, k _ _ ho, hx⟩
def st0 : Value → Value
  | .str x _ => .str x 0
  | .int i _ => .int i 0
  | v => v
theorem st0_str {v : Value} {x : Str} {t : Tok} (h : st0 v = .str x t) : ∃ u, v = .str x u := by
  cases v <;> simp only [st0] at h <;> first | (cases h; exact ⟨_, rfl⟩) | cases h
theorem st0_int {v : Value} {x : Int} {t : Tok} (h : st0 v = .int x t) : ∃ u, v = .int x u := by
  cases v <;> simp only [st0] at h <;> first | (cases h; exact ⟨_, rfl⟩) | cases h
theorem st0_bool {v : Value} {x : Bool} (h : st0 v = .bool x) : v = .bool x := by
  cases v <;> simp only [st0] at h <;> first | (cases h; rfl) | cases h
theorem st0_ref {v : Value} {x : Addr} (h : st0 v = .ref x) : v = .ref x := by
  cases v <;> simp only [st0] at h <;> first | (cases h; rfl) | cases h
def fnO (o : Obj) : Option FuncData := match o.data with | .func fd => some { fd with pyModule := .none } | _ => none
def cdO (o : Obj) : Option (Value × List Value) := match o.data with | .fields vs => some (o.cls, [7, 9, 10, 11, 18].map fun i => st0 (vs.getD i .none)) | _ => none
def c1O (o : Obj) : Option Value := match o.data with | .fields vs => some (st0 (vs.getD 1 .none)) | _ => none
def nsO (xs : List Str) (o : Obj) : Option (List (Option Value)) := match o.data with | .dict es _ => some (xs.map fun x => (nsFind es x).map st0) | _ => none
def ptO (o : Obj) : Option (Value × Option Addr × Value × Nat × Nat) := match o.data with | .fields vs => some (o.cls, o.dict, vs.getD 5 .none, PySem.Builtin.Re.reRawNat (vs.getD 2 .none), PySem.Builtin.Re.reRawNat (vs.getD 6 .none)) | _ => none
def tuO (o : Obj) : Option (Value × Option Addr × Array (Option Value) × Array Nat) := match o.data with | .seq vs _ => some (o.cls, o.dict, o.slots, (vs.map PySem.Builtin.Re.reRawOf).map (·.toNat)) | _ => none
def scO (o : Obj) : Option (Value × Option Addr × Array (Option Value) × Bool × Option Value × Option Value) := match o.data with
  | .dict es _ => some (o.cls, o.dict, o.slots, es.toList.all (fun e => match e.key with | .int i _ => e.hash == hashInt i | _ => false), findBy Value.isInt es 97, (findBy Value.isInt es 46).map st0)
  | _ => none
def fns : List (Addr × Addr × Nat) := [(48, 47, 5), (55, 54, 6), (72, 71, 10), (79, 78, 12), (86, 85, 14), (93, 92, 15), (100, 99, 16), (107, 106, 17), (114, 113, 18), (121, 120, 19), (128, 127, 20), (135, 134, 21), (142, 141, 22), (155, 154, 25), (162, 161, 26), (167, 166, 27), (172, 171, 28), (177, 176, 29), (182, 181, 30)]
def glNone : List Str := [Str.ofString "len", Str.ofString "range", Str.ofString "reversed", Str.ofString "isinstance", Str.ofString "str", Str.ofString "zip", Str.ofString "iter"]
def glRef : List (Str × Addr) := [(Str.ofString "twin_re_1_smtplib", 36), (Str.ofString "_twin_re_2", 41), (Str.ofString "twin_re_1_fnmatch", 60), (Str.ofString "_special_chars_map", 62), (Str.ofString "quotedata", 48), (Str.ofString "_fix_eols", 55),
  (Str.ofString "escape", 72), (Str.ofString "_translate", 79), (Str.ofString "heappop", 86), (Str.ofString "heappushpop", 93), (Str.ofString "heapify", 100), (Str.ofString "_heapreplace_max", 107), (Str.ofString "_heapify_max", 114), (Str.ofString "_siftdown", 121),
  (Str.ofString "_siftup", 128), (Str.ofString "_siftdown_max", 135), (Str.ofString "_siftup_max", 142), (Str.ofString "nsmallest", 148), (Str.ofString "_law_rows", 155), (Str.ofString "_law_text", 162), (Str.ofString "_law_pieces", 167), (Str.ofString "_law_breadth", 172),
  (Str.ofString "_law_rising", 177), (Str.ofString "law", 182), (Str.ofString "__builtins__", 4)]
def glAll : List Str := Str.ofString "CRLF" :: (glNone ++ glRef.map (·.1))
def obs1 : List (Addr × Obj) := [(4, { cls := .type "module", dict := some builtinsNs, data := .plain, slots := #[] }), (74, emptyTab), (157, emptyTab), (143, { cls := .type "tuple", dict := none, data := .seq #[.none] 0, slots := #[] })]
def cds : List (Addr × Addr) := [(78, 74), (161, 157)]
def pts : List (Addr × Addr × Array Nat × Nat) := [(36, 35, C1, 0), (41, 40, C2, 0), (60, 59, C3, 1)]
def glV : List (Option Value) := some (.str (Str.ofString "\r\n") 0) :: (glNone.map (fun _ => none) ++ glRef.map fun p => some (.ref p.2))
def fnV (p : Addr × Addr × Nat) : FuncData := docDef (defAt p.2.2).name (defAt p.2.2).params (defAt p.2.2).body (defAt p.2.2).scope .none (.ref p.2.1) .none
def nsV : FuncData := dfDef (defAt 23).name (defAt 23).params (defAt 23).body (defAt 23).scope .none (.ref 147) .none 143
def cdV (p : Addr × Addr) : Value × List Value := (.type "code", [.int 3 0, .bool true, .int 276 0, .ref p.2, .str (Str.ofString "/claim/cut.py") 0])
abbrev Obs := List (Option FuncData) × List (Option Value) × Option FuncData × Option (List (Option Value)) × List (Option Obj) × List (Option (Value × List Value)) × List (Option (Value × Option Addr × Value × Nat × Nat)) × List (Option (Value × Option Addr × Array (Option Value) × Array Nat)) ×
  Option (Value × Option Addr × Array (Option Value) × Bool × Option Value × Option Value)
def obs (s : Shared) : Obs :=
  (fns.map fun p => pj fnO s.heap p.1, ((148, 147, 23) :: fns).map fun p => pj c1O s.heap p.2.1, pj fnO s.heap 148, pj (nsO glAll) s.heap mainGlobals, obs1.map fun p => s.heap.get? p.1, cds.map fun p => pj cdO s.heap p.1, pts.map fun p => pj ptO s.heap p.1, pts.map fun p => pj tuO s.heap p.2.1, pj scO s.heap 62)
def good : Obs :=
  (fns.map fun p => some (fnV p), ((148, 147, 23) :: fns).map fun p => some (.str (defAt p.2.2).name 0), some nsV, some glV, obs1.map fun p => some p.2, cds.map fun p => some (cdV p), pts.map fun p => some (.type "re.Pattern", none, .ref p.2.1, p.2.2.2, 0), pts.map fun p => some (.type "tuple", none, #[], p.2.2.1),
    some (.type "dict", none, #[], true, none, some (.str (Str.ofString "\\.") 0)))
structure Facts (h : Heap) : Prop where
  fn : ∀ p ∈ fns, pj fnO h p.1 = some (fnV p)
  c1 : ∀ p ∈ (148, 147, 23) :: fns, pj c1O h p.2.1 = some (.str (defAt p.2.2).name 0)
  ns : pj fnO h 148 = some nsV
  gl : pj (nsO glAll) h mainGlobals = some glV
  ob : ∀ p ∈ obs1, h.get? p.1 = some p.2
  cd : ∀ p ∈ cds, pj cdO h p.1 = some (cdV p)
  pt : ∀ p ∈ pts, pj ptO h p.1 = some (.type "re.Pattern", none, .ref p.2.1, p.2.2.2, 0)
  tu : ∀ p ∈ pts, pj tuO h p.2.1 = some (.type "tuple", none, #[], p.2.2.1)
  sc : pj scO h 62 = some (.type "dict", none, #[], true, none, some (.str (Str.ofString "\\.") 0))
theorem facts_of {s : Shared} (e : obs s = good) : Facts s.heap :=
  ⟨List.map_inj_left.mp (congrArg (·.1) e), List.map_inj_left.mp (congrArg (·.2.1) e), congrArg (·.2.2.1) e, congrArg (·.2.2.2.1) e, List.map_inj_left.mp (congrArg (·.2.2.2.2.1) e), List.map_inj_left.mp (congrArg (·.2.2.2.2.2.1) e),
    List.map_inj_left.mp (congrArg (·.2.2.2.2.2.2.1) e), List.map_inj_left.mp (congrArg (·.2.2.2.2.2.2.2.1) e), congrArg (·.2.2.2.2.2.2.2.2) e⟩
theorem Facts.keeps {h h' : Heap} (x : Facts h) (k : ∀ b o, h.get? b = some o → h'.get? b = some o) : Facts h' :=
  ⟨fun p m => pj_keeps k (x.fn p m), fun p m => pj_keeps k (x.c1 p m), pj_keeps k x.ns, pj_keeps k x.gl, fun p m => k _ _ (x.ob p m), fun p m => pj_keeps k (x.cd p m), fun p m => pj_keeps k (x.pt p m), fun p m => pj_keeps k (x.tu p m), pj_keeps k x.sc⟩
theorem oldK0 {h₁ : Heap} {g : FM} {σ : OsState} {s' : Shared} (l : FM.Le (fz h₁) g) (I : Inv σ g [(74, TabO #[]), (157, TabO #[])] s') (t1 : h₁.get? 74 = some emptyTab) (t2 : h₁.get? 157 = some emptyTab) (k1 : isCodeTable h₁ 74) (k2 : isCodeTable h₁ 157) : OldK h₁ s'.heap := by
  have tab : ∀ P : Addr, (∃ o, s'.heap.get? P = some o ∧ TabO #[] o) → h₁.get? P = some emptyTab → isCodeTable h₁ P → ∀ o, h₁.get? P = some o → asItWas h₁ s'.heap P o ∧ ∃ o', s'.heap.get? P = some o' := by
    rintro P ⟨o', ho', more, rfl, _⟩ ht hk o ho
    rw [ht] at ho
    cases ho
    exact ⟨.inr (.inl ⟨hk, rfl, #[], more, rfl, ho'⟩), _, ho'⟩
  have c1 := I.own (74, TabO #[]) List.mem_cons_self
  have c2 := I.own (157, TabO #[]) (List.mem_cons_of_mem _ List.mem_cons_self)
  have other : ∀ b o, ¬(b = 74 ∨ b = 157) → h₁.get? b = some o → s'.heap.get? b = some o := fun b o hb ho => I.frz b o (l b o (fz_of ho hb))
  refine ⟨fun b o ho => ?_, fun b o ho => ?_⟩
  · by_cases hb : b = 74 ∨ b = 157
    · rcases hb with rfl | rfl
      · exact (tab 74 c1 t1 k1 o ho).1
      · exact (tab 157 c2 t2 k2 o ho).1
    · exact .inl (other b o hb ho)
  · by_cases hb : b = 74 ∨ b = 157
    · rcases hb with rfl | rfl
      · exact (tab 74 c1 t1 k1 o ho).2
      · exact (tab 157 c2 t2 k2 o ho).2
    · exact ⟨_, other b o hb ho⟩
theorem ints_al : ∀ {vs : List Value} {ns : List Int}, IntsAre vs ns → Al AInt vs ns
  | _, _, .nil => trivial
  | _, _, .cons n t h => ⟨⟨t, rfl⟩, ints_al h⟩
theorem fnO_spec {o : Obj} {V : FuncData} (e : fnO o = some V) : ∃ pm, o.data = .func { V with pyModule := pm } := by
  unfold fnO at e
  split at e
  · rename_i fd hd
    cases e
    exact ⟨fd.pyModule, hd⟩
  · cases e
theorem code_of {h : Heap} {c : Addr} {q : Str} {t : Tok} (e : pj c1O h c = some (.str q t)) (hc : ¬(c = 74 ∨ c = 157)) : CodeF (fz h) (.ref c) q := by
  obtain ⟨o, ho, e⟩ := Option.bind_eq_some_iff.mp e
  unfold c1O at e
  split at e
  · rename_i vs hd
    obtain ⟨u, hu⟩ := st0_str (Option.some.inj e)
    refine ⟨c, o, vs, u, rfl, fz_of ho hc, hd, ?_⟩
    rw [Array.getD_eq_getD_getElem?] at hu
    cases hv : vs[1]? with
    | none => rw [hv] at hu; cases hu
    | some v => rw [hv] at hu; exact congrArg some hu
  · cases e
theorem Facts.fnF {h : Heap} (F : Facts h) {p : Addr × Addr × Nat} (hp : p ∈ fns) : ∃ pm, FnF (fz h) p.1 (docDef (defAt p.2.2).name (defAt p.2.2).params (defAt p.2.2).body (defAt p.2.2).scope pm (.ref p.2.1) .none) := by
  have hn : ∀ q ∈ fns, ¬(q.1 = 74 ∨ q.1 = 157) ∧ ¬(q.2.1 = 74 ∨ q.2.1 = 157) := by decide
  obtain ⟨o, ho, e⟩ := Option.bind_eq_some_iff.mp (F.fn p hp)
  obtain ⟨pm, hd⟩ := fnO_spec e
  exact ⟨pm, o, fz_of ho (hn p hp).1, hd, code_of (F.c1 p (List.mem_cons_of_mem _ hp)) (hn p hp).2⟩
theorem Facts.fnI {h : Heap} (F : Facts h) {a c : Addr} {i : Nat} (hp : (a, c, i) ∈ fns) : FnI (fz h) a i := let ⟨pm, x⟩ := F.fnF hp; ⟨pm, _, _, x⟩
theorem Facts.fnC {h : Heap} (F : Facts h) {a c Pt : Addr} {i : Nat} (hp : (a, c, i) ∈ fns) (hc : (c, Pt) ∈ cds) : FnC (fz h) a i c Pt ∧ isCodeTable h Pt := by
  obtain ⟨pm, x⟩ := F.fnF hp
  have hn : ∀ q ∈ cds, ¬(q.1 = 74 ∨ q.1 = 157) := by decide
  obtain ⟨o, ho, e⟩ := Option.bind_eq_some_iff.mp (F.cd _ hc)
  unfold cdO at e
  split at e
  · rename_i vs hd
    have e := Option.some.inj e
    have e2 := congrArg Prod.snd e
    simp only [cdV, List.map_cons, List.map_nil, List.cons.injEq, and_true] at e2
    obtain ⟨e7, e9, e10, e11, e18⟩ := e2
    obtain ⟨t7, e7⟩ := st0_int e7
    obtain ⟨t10, e10⟩ := st0_int e10
    obtain ⟨t18, e18⟩ := st0_str e18
    have e11 := st0_ref e11
    refine ⟨⟨pm, _, x, o, vs, _, _, _, _, _, _, _, fz_of ho (hn _ hc), hd, e11, e18, e7, st0_bool e9, e10⟩, c, o, vs, ho, congrArg Prod.fst e, hd, ?_⟩
    rw [Array.getD_eq_getD_getElem?] at e11
    cases hv : vs[11]? with
    | none => rw [hv] at e11; cases e11
    | some v => rw [hv] at e11; exact congrArg some e11
  · cases e
theorem Facts.pat {h : Heap} (F : Facts h) {a b : Addr} {C : Array Nat} {n : Nat} (hp : (a, b, C, n) ∈ pts) : PatF (fz h) a C n := by
  have hn : (¬(a = 74 ∨ a = 157)) ∧ ¬(b = 74 ∨ b = 157) := by
    have h2 : (a, b) ∈ pts.map fun p => (p.1, p.2.1) := List.mem_map.mpr ⟨_, hp, rfl⟩
    have h3 : ∀ q ∈ pts.map fun p => (p.1, p.2.1), (¬(q.1 = 74 ∨ q.1 = 157)) ∧ ¬(q.2 = 74 ∨ q.2 = 157) := by decide
    exact h3 _ h2
  obtain ⟨o, ho, e⟩ := Option.bind_eq_some_iff.mp (F.pt _ hp)
  obtain ⟨o', ho', e'⟩ := Option.bind_eq_some_iff.mp (F.tu _ hp)
  unfold ptO at e
  unfold tuO at e'
  split at e
  · rename_i vs hd
    split at e'
    · rename_i ws k hd'
      simp only [Option.some.injEq, Prod.mk.injEq] at e e'
      obtain ⟨e1, e2, e3, e4, e5⟩ := e
      obtain ⟨d1, d2, d3, d4⟩ := e'
      refine ⟨o, vs, b, ws.toList, fz_of ho hn.1, e1, e2, hd, e3, ⟨o', fz_of ho' hn.2, k, ?_⟩, by simpa using d4, e4, e5⟩
      obtain ⟨c', di', da', sl'⟩ := o'
      dsimp only at d1 d2 d3 hd'
      rw [d1, d2, d3, hd']
    · cases e'
  · cases e
theorem Facts.scm {h : Heap} (F : Facts h) : ScmF (fz h) := by
  obtain ⟨o, ho, e⟩ := Option.bind_eq_some_iff.mp F.sc
  unfold scO at e
  split at e
  · rename_i es n hd
    simp only [Option.some.injEq, Prod.mk.injEq] at e
    obtain ⟨e1, e2, e3, e4, e5, e6⟩ := e
    refine ⟨o, es, n, fz_of ho, e1, ⟨e1, e2, e3⟩, hd, fun prog w en hen => ?_, fun prog w => e5, fun prog w => ?_⟩
    · have := List.all_eq_true.mp e4 en (Array.mem_toList_iff.mpr hen)
      cases hk : en.key with
      | int i t => rw [hk] at this; exact ⟨i, by rw [show (intKind prog w).is i (.int i t) = Value.isInt i (.int i t) from rfl]; simp [Value.isInt], by have h5 : en.hash = hashInt i := (by simpa using this); exact h5⟩
      | _ => rw [hk] at this; simp at this
    · obtain ⟨v, hv, hs⟩ := Option.map_eq_some_iff.mp e6
      obtain ⟨t, rfl⟩ := st0_str hs
      exact ⟨t, hv⟩
  · cases e
section
variable {h : Heap} {mg mb : Str → Option Value}
theorem Facts.gls (F : Facts h) (g : h.Ns mainGlobals mg) : (∃ t, mg (Str.ofString "CRLF") = some (.str (Str.ofString "\r\n") t)) ∧ (∀ x ∈ glNone, mg x = none) ∧ ∀ p ∈ glRef, mg p.1 = some (.ref p.2) := by
  obtain ⟨o, ho, e⟩ := Option.bind_eq_some_iff.mp F.gl
  obtain ⟨o', es, ep, ho', hd, _, hm⟩ := g
  rw [ho] at ho'
  cases ho'
  unfold nsO at e
  rw [hd] at e
  have e := Option.some.inj e
  unfold glAll glV at e
  rw [List.map_cons, List.map_append, List.cons.injEq] at e
  obtain ⟨e1, e2⟩ := e
  obtain ⟨e2, e3⟩ := List.append_inj e2 (by simp)
  rw [List.map_map] at e3
  have e2 := List.map_inj_left.mp e2
  have e3 := List.map_inj_left.mp e3
  simp only [hm] at e1 e2 e3
  refine ⟨?_, fun x hx => by simpa using e2 x hx, fun p hp => ?_⟩
  · obtain ⟨v, hv, hs⟩ := Option.map_eq_some_iff.mp e1
    obtain ⟨t, rfl⟩ := st0_str hs
    exact ⟨t, hv⟩
  · have e := e3 p hp
    simp only [Function.comp, hm] at e
    obtain ⟨v, hv, hs⟩ := Option.map_eq_some_iff.mp e
    rw [hv, st0_ref hs]
theorem Facts.law (F : Facts h) (g : h.Ns mainGlobals mg) {x : Str} {fa : Addr} (hx : x = Str.ofString "law") (e : mg x = some (.ref fa)) : fa = 182 := by
  subst hx
  have h := (F.gls g).2.2 (Str.ofString "law", 182) (by decide)
  exact Value.ref.inj (Option.some.inj (e.symm.trans h))
theorem Facts.nm (F : Facts h) (g : h.Ns mainGlobals mg) (b : ∀ x : Str, x ≠ "__name__" → mb x = bootBuiltins x) : Names mg mb := by
  obtain ⟨c, n, r⟩ := F.gls g
  exact ⟨n _ (by decide), (b _ (by decide)).trans bb_len, n _ (by decide), (b _ (by decide)).trans bb_range, n _ (by decide), (b _ (by decide)).trans bb_reversed, n _ (by decide), (b _ (by decide)).trans bb_isinstance, n _ (by decide), (b _ (by decide)).trans bb_str,
    n _ (by decide), (b _ (by decide)).trans bb_zip, n _ (by decide), (b _ (by decide)).trans bb_iter, c,
    r (_, 36) (by decide), r (_, 41) (by decide), r (_, 60) (by decide), r (_, 62) (by decide), r (_, 48) (by decide), r (_, 55) (by decide), r (_, 72) (by decide), r (_, 79) (by decide), r (_, 86) (by decide), r (_, 93) (by decide), r (_, 100) (by decide),
    r (_, 107) (by decide), r (_, 114) (by decide), r (_, 121) (by decide), r (_, 128) (by decide), r (_, 135) (by decide), r (_, 142) (by decide), r (_, 148) (by decide), r (_, 155) (by decide), r (_, 162) (by decide), r (_, 167) (by decide), r (_, 172) (by decide), r (_, 177) (by decide)⟩
theorem Facts.base (F : Facts h) (g : h.Ns mainGlobals mg) (b : h.Ns builtinsNs mb) (nl : h.NoLimit) (bt : ∀ x : Str, x ≠ "__name__" → mb x = bootBuiltins x) : Base2 mg mb (fz h) := by
  refine ⟨⟨fz_ns g, fz_ns b, let ⟨mc, h1, h2⟩ := nl; ⟨mc, fz_ns h1, h2⟩, F.nm g bt, F.fnI (c := 47) (by decide), F.fnI (c := 54) (by decide), F.fnI (c := 71) (by decide), F.fnI (c := 85) (by decide), F.fnI (c := 92) (by decide), F.fnI (c := 99) (by decide), F.fnI (c := 106) (by decide), F.fnI (c := 113) (by decide),
    F.fnI (c := 120) (by decide), F.fnI (c := 127) (by decide), F.fnI (c := 134) (by decide), F.fnI (c := 141) (by decide), F.fnI (c := 154) (by decide), F.fnI (c := 166) (by decide), F.fnI (c := 171) (by decide), F.fnI (c := 176) (by decide)⟩,
    ?_, (F.fnC (by decide) (by decide)).1, (F.fnC (by decide) (by decide)).1, ⟨4, _, (F.gls g).2.2 (_, 4) (by decide), by decide, fz_of (F.ob _ List.mem_cons_self), rfl, rfl, rfl⟩, F.scm, F.pat List.mem_cons_self, F.pat (List.mem_cons_of_mem _ List.mem_cons_self), F.pat (List.mem_cons_of_mem _ (List.mem_cons_of_mem _ List.mem_cons_self))⟩
  obtain ⟨o, ho, e⟩ := Option.bind_eq_some_iff.mp F.ns
  obtain ⟨pm, hd⟩ := fnO_spec e
  exact ⟨pm, .ref 147, .none, 143, ⟨o, fz_of ho, hd, code_of (F.c1 (148, 147, 23) List.mem_cons_self) (by decide)⟩, ⟨_, fz_of (F.ob _ (List.mem_cons_of_mem _ (List.mem_cons_of_mem _ (List.mem_cons_of_mem _ List.mem_cons_self)))), 0, rfl⟩⟩
end
theorem final {prog : Program} {w : World} {A : Around} {s₁ : Shared} {mg mb : Str → Option Value} {sa : Addr} {vs : List Value} {ns : List Int} {Q E : Value → Shared → Prop}
    (R : Room A 6 100) (F : Facts s₁.heap) (g : s₁.heap.Ns mainGlobals mg) (b : s₁.heap.Ns builtinsNs mb) (nl : s₁.heap.NoLimit) (bt : ∀ x : Str, x ≠ "__name__" → mb x = bootBuiltins x) (hg : s₁.gens = #[])
    (hl : s₁.heap.get? sa = some { cls := .type "list", data := .seq vs.toArray }) (hvs : IntsAre vs ns) (hsz : ns.length < 2 ^ 8)
    (hQ : ∀ s', OldK s₁.heap s'.heap → s'.os = s₁.os → AllBare s'.gens → Q (.bool true) s') : wpAny (model prog w) A (call (.ref 182) [.ref sa]) Q E s₁ := by
  have t1 : s₁.heap.get? 74 = some emptyTab := F.ob _ (List.mem_cons_of_mem _ List.mem_cons_self)
  have t2 : s₁.heap.get? 157 = some emptyTab := F.ob _ (List.mem_cons_of_mem _ (List.mem_cons_of_mem _ List.mem_cons_self))
  have hsa : ¬(sa = 74 ∨ sa = 157) := by
    rintro (rfl | rfl)
    · rw [t1] at hl; cases hl
    · rw [t2] at hl; cases hl
  refine law_ct R (F.base g b nl bt) (F.fnI (c := 181) (by decide)) (inv0 t1 t2 hg) (list0 hl ⟨0, rfl⟩ hsa) (ints_al hvs) hsz (plain_rows ns) fun g' s' l I => ?_
  exact hQ s' (oldK0 l I t1 t2 (F.fnC (a := 79) (c := 78) (i := 12) (by decide) (by decide)).2 (F.fnC (a := 162) (c := 161) (i := 26) (by decide) (by decide)).2) I.os I.bare
end Mine
end
-- G2
noncomputable section
open PySem PySem.Calls PyProof.Rows PySem.W
set_option maxRecDepth 100000
set_option linter.unusedVariables false
namespace Mine
def loose : List Str := ([Str.ofString "CRLF", Str.ofString "_sre"] : List Str) ++ (glRef.map (·.1)).filter fun x => x != Str.ofString "law" && x != Str.ofString "__builtins__"
def vw : Program := { pw with main := { pw.main with body := (pw.main.body.drop 30).take 1 } }
abbrev Run (w : World) : Prop := (openEnds treeTable pw w 4500).map (fun s => (openSeen vw loose (importedModules pw.main.body) (fun _ => true) true s, obs s)) = some (openGood vw loose, good)
set_option maxHeartbeats 0 in
theorem run00 (w : World) : Run ((w.withFollow "special-get-raises" false).withFollow "comprehension-iter-twice" false) := by kernel_rfl
set_option maxHeartbeats 0 in
theorem run01 (w : World) : Run ((w.withFollow "special-get-raises" false).withFollow "comprehension-iter-twice" true) := by kernel_rfl
set_option maxHeartbeats 0 in
theorem run10 (w : World) : Run ((w.withFollow "special-get-raises" true).withFollow "comprehension-iter-twice" false) := by kernel_rfl
set_option maxHeartbeats 0 in
theorem run11 (w : World) : Run ((w.withFollow "special-get-raises" true).withFollow "comprehension-iter-twice" true) := by kernel_rfl
theorem left : LeftO pw vw loose (fun _ => true) obs (fun _ => good) 4500 :=
  byRow2 "comprehension-iter-twice" (P := Run) (byRow2 "special-get-raises" (P := fun w => Run (w.withFollow "comprehension-iter-twice" false)) (fun w => run00 w) fun w => run10 w) (byRow2 "special-get-raises" (P := fun w => Run (w.withFollow "comprehension-iter-twice" true)) (fun w => run01 w) fun w => run11 w)
end Mine
end
open PySem PySem.W PySem.W.X PySem.W.ZRun PyProof.Rows
set_option maxRecDepth 100000 in
set_option maxHeartbeats 0 in
theorem PySem.Challenge.cw_in0122_01_holds : PySem.Challenge.rw_in0122_01.Holds := by
  refine holds_law (by decide +kernel) fun said => ?_
  refine holds_openX (q := Mine.vw) (loose := Mine.loose) (Xt := fun _ => true) (XP := fun _ _ => True) (Yf := Mine.obs) (Ya := fun _ => Mine.good) (N := 4500) (d := ?d) (kwd := ?kwd) ?left (fun _ _ => trivial) (fun _ _ _ _ _ => trivial) ?hdef ?hp ?hk (fun s _ => recFacts_of rfl) ?hwr ?k1 ?ok ?hb ?hw ?hc
  case left => exact Mine.left
  case hdef => rfl
  case hp => rfl
  case hk => rfl
  case hwr => rfl
  case k1 => first | assumption | decide +kernel
  case ok => decide +kernel
  case hb => exact ⟨rfl, rfl, rfl, rfl, rfl, by decide +kernel⟩
  case hw => w_witness2
  case hc =>
    intro w s₀ s₁ mg mb G y fa o pm cd doc dV kV ho hd hcd hD hmg hg args vals as L hpre hlay hrd hwl hlo
    have F : Mine.Facts s₁.heap := (Mine.facts_of y).keeps L.keeps
    clear hd hD hcd y
    refine Ground.open G ?_
    intro T B D TE TW
    have hfa : fa = 182 := F.law T.g rfl hmg
    clear hmg
    subst hfa
    wrow_args hpre hlay hrd hwl hlo
    all_lens
    show wpAny _ _ (PySem.call (.ref 182) [.ref _]) _ _ _
    refine Mine.final ⟨rfl, by decide, by decide⟩ F T.g T.b T.nolimit T.builtins hg (script_obj L (by assumption)) (by assumption) (by omega) fun s' hO hos hb => ?_
    refine ⟨.inl ⟨_, .bool true, [], rfl, fun _ => rfl, ReadsW.bool true, ?_, fun _ => ⟨List.nodup_nil, fun _ hm => nomatch hm⟩⟩, hO, hos, hb⟩
    first | rfl | wrow_post
